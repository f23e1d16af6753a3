import JvmDerived
import JvmDerived.Pilot.@@N@@Statement
import JvmDerived.Pilot.@@N@@Code
set_option linter.unusedVariables false
set_option linter.unusedSimpArgs false
namespace Jvm.Pilot.@@N@@
open Jvm Jvm.ClassFile Sem Op Lib Jvm.Free Jvm.Stand Jvm.LawKit Jvm.RoadKit Bundle Jvm.Pilot.@@N@@.Jvm.D
/-! OWN KIT: a walk in continuation form. Go F U: from U the run comes to an end of which F holds. -/
namespace W
def Go (p : Program) (e : Env) (below : List Frame) (F : Outcome → State → Prop) (U : State) : Prop :=
  ∃ s₂ o, Steps p.tables e below U s₂ ∧ s₂.status = .running ∧ Ended s₂ below o ∧ F o s₂
def Cx (p : Program) (s : State) (m : MethodId) (meth : Method) (c : Code) (Z : State) (bytes : ByteArray) (maxL : Nat) (own mname : String) (ret : Option FieldType) : Prop :=
  p.tables.exec = Jvm.exec ∧ Z.Warmed39 s.vm ∧ c.code = bytes ∧ c.maxLocals = maxL ∧ s.vm.findClass own = some m.cls ∧ meth.name = mname ∧ meth.sig.returnType = ret ∧ meth.locks = false
def Post (s : State) (Q : Option Value → Heap → List Loc → Prop) (k n : Nat) (o : Outcome) (U' : State) : Prop := ∃ v L, o = .returned v ∧ Q v U'.heap L ∧ FrameEnd s o U' L k n
theorem of {p : Program} {e : Env} {below : List Frame} {F : Outcome → State → Prop} {U U' : State} (h : ∀ t, Steps p.tables e below U' t → Steps p.tables e below U t) (k : Go p e below F U') : Go p e below F U := by
  obtain ⟨s₂, o, h1, h2⟩ := k
  exact ⟨s₂, o, h _ h1, h2⟩
theorem tr {p : Program} {e : Env} {below : List Frame} {F : Outcome → State → Prop} {U U' : State} (h : Steps p.tables e below U U') (k : Go p e below F U') : Go p e below F U := of (fun _ q => h.trans q) k
def cT : ClassFile.Cond → Int32 → Int32 → Prop
  | .eq, x, y => x = y
  | .ne, x, y => x ≠ y
  | .lt, x, y => x.toInt < y.toInt
  | .ge, x, y => y.toInt ≤ x.toInt
  | .gt, x, y => y.toInt < x.toInt
  | .le, x, y => x.toInt ≤ y.toInt
def cF : ClassFile.Cond → Int32 → Int32 → Prop
  | .eq, x, y => x ≠ y
  | .ne, x, y => x = y
  | .lt, x, y => y.toInt ≤ x.toInt
  | .ge, x, y => x.toInt < y.toInt
  | .gt, x, y => x.toInt ≤ y.toInt
  | .le, x, y => y.toInt < x.toInt
instance (cd : ClassFile.Cond) (x y : Int32) : Decidable (cT cd x y) := by cases cd <;> (simp only [cT]; infer_instance)
instance (cd : ClassFile.Cond) (x y : Int32) : Decidable (cF cd x y) := by cases cd <;> (simp only [cF]; infer_instance)
theorem holdsT {cd : ClassFile.Cond} {x y : Int32} (h : cT cd x y) : if_icmp.holds cd x y = true := by
  cases cd <;> simp only [cT] at h <;> simp [if_icmp.holds, h, Int32.lt_iff_toInt_lt, Int32.le_iff_toInt_le]
theorem holdsF {cd : ClassFile.Cond} {x y : Int32} (h : cF cd x y) : if_icmp.holds cd x y = false := by
  cases cd <;> simp only [cF] at h <;> simp [if_icmp.holds, h, Int32.lt_iff_toInt_lt, Int32.le_iff_toInt_le]
theorem cTF (cd : ClassFile.Cond) (x y : Int32) : cT cd x y ∨ cF cd x y := by
  cases cd <;> simp only [cT, cF] <;> first | omega | exact Decidable.em _ | exact (Decidable.em _).symm
theorem ww {a0 : Array Value} {Z : State} (hw : ∀ d ∈ tables_1, d.before a0 Z = true) (i : Nat) {d : Jvm.Cond} (h : tables_1[i]? = some d) : d.before a0 Z = true := hw _ (List.mem_of_getElem? h)
theorem small {P : Int32 → Prop} (K : Nat) (hK : ∀ i : Fin (K + 1), P (Int32.ofInt (i.1 : Int))) (k : Int32) (h1 : 0 ≤ k.toInt) (h2 : k.toInt ≤ K) : P k := by
  have e : Int32.ofInt ((k.toInt.toNat : Nat) : Int) = k := by rw [Int.toNat_of_nonneg h1]; exact Int32.ofInt_toInt k
  have := hK ⟨k.toInt.toNat, by omega⟩
  rw [e] at this; exact this
theorem eqR {args : Array Value} {s : State} {a b : Term} {idx : List Nat} {y : Addr} (hb : b.eval args s none idx s = some (.ref y)) (h : (Jvm.Cond.eq a b).value args s none s idx = some true) : a.eval args s none idx s = some (.ref y) := by
  cases ha : a.eval args s none idx s with
  | none => simp [Cond.value, ha] at h
  | some x =>
    have hx : x.isRef = true := by cases x <;> simp [Cond.value, ha, hb, Value.isRef] at h ⊢
    have q := gotT (eq_R ha hb hx rfl) h
    rw [q]
theorem elemAt {args : Array Value} {s : State} {t a : Term} {x : Addr} {j : Int32} {v : Value} {cl : Cell} {ty : FieldType} (A : Arr s s.heap x cl ty) (ht : t.eval args s none [] s = some (.ref x)) (hj : a.eval args s none [] s = some (.int j)) (h : (Term.elem t a).eval args s none [] s = some v) : cl.slots[j.toNatClampNeg]? = some v := (elem_in h ht hj A.1).2
theorem lenAt {args : Array Value} {s : State} {t : Term} {x : Addr} {z : Int32} {cl : Cell} {ty : FieldType} (A : Arr s s.heap x cl ty) (ht : t.eval args s none [] s = some (.ref x)) (h : (Jvm.Cond.eq (.length t) (.int z)).value args s none s [] = some true) : cl.slots.size < 2 ^ 31 ∧ cl.slots.size.toInt32 = z := by
  have h6 := eqv_i (Term.int_eval z) h
  have ha := A.fin (Vm.Alike.refl _)
  have sz : cl.slots.size < 2 ^ 31 := by
    refine Decidable.byContradiction fun q => ?_
    simp [Term.eval, ht, ha, q] at h6
  refine ⟨sz, ?_⟩
  rw [len_f ht ha sz] at h6
  exact Value.int.inj (Option.some.inj h6)
theorem narZ {x : Int32} (h : x = 0 ∨ x = 1) : narrow .boolean (.int x) = .int x := by rcases h with rfl | rfl <;> rfl
theorem fitZ {x : Int32} (h : x = 0 ∨ x = 1) : fits .boolean (.int x) = true := by rcases h with rfl | rfl <;> rfl
theorem fieldInt {args : Array Value} {s : State} {t : Term} {Cn n d : String} {k : Int32} {a : Addr} (ht : t.eval args s none [] s = some (.ref a)) (h : (Jvm.Cond.eq (.field t Cn n d) (.int k)).value args s none s [] = some true) : Fld s s.heap a Cn n d (.int k) := by
  exact Fld.start ((fld_at ht).symm.trans (eqv_i (Term.int_eval k) h))
section
variable {p : Program} {l : Launch} {e : Env} {R : Room} {s : State} {m : MethodId} {args : Array Value} {below : List Frame} {meth : Method} {c : Code} {T : State} {locs : List Loc} {cells slots : Nat} {Z : State} {a0 : Array Value} {h h0 : Heap} {F : Outcome → State → Prop} {bytes : ByteArray} {maxL : Nat} {own mname : String} {ret : Option FieldType} {pc q : Nat} {Ls L' : Array Slot} {S rest : List Value}
theorem bodyOf {y : MethodName} {ws : List Jvm.Cond} {rm : Room} {as : Array Value} {Q : Option Value → Heap → List Loc → Prop} (hp : plainFor y = true) (hef : ∀ m, entryFrame m as maxL = mkF m 0 Ls [])
    (body : ∀ p e s m below meth c s₁, Cx p s m meth c Z bytes maxL y.cls y.name ret → Stand p l e rm s m as below meth c s₁ [] 0 0 → s₁.heap = h0 → Go p e below (Post s Q rm.cells rm.slots) (s₁.setTop (mkF m 0 Ls []))) :
    MetFree l y (head1 (Jvm.Cond.code y bytes maxL ret :: ws) rm) (fun a U => a = as ∧ Z.Warmed39 U.vm ∧ U.heap = h0) (fun _ _ _ _ _ => True) (fun _ U o U' => ∃ v L, o = .returned v ∧ Q v U'.heap L ∧ FrameEnd U o U' L rm.cells rm.slots) := by
  refine MetFree.of_bodySF hp hisR ?_
  intro p e s m args below meth c s₁ Bd hml0 hP hK
  obtain ⟨rfl, hZ, hh⟩ := hP
  obtain ⟨s₂, o, h1, h2⟩ := body p e s m below meth c s₁ ⟨Bd.exec, hZ, Bd.bytes, hml0, findClass_of_methodNamed Bd.named, (name_of_methodNamed Bd.named Bd.method).1, Bd.returns, Bd.notSynchronized⟩ (Stand.of_body Bd) (by rw [← hh, Bd.state]; rfl)
  exact ⟨s₂, o, castTop (hef m) h1, h2⟩
/-! returns -/
theorem retN (X : Stand p l e R s m args below meth c T locs cells slots) {t : FieldType} (C : Cx p s m meth c Z bytes maxL own mname (some t)) (ht : t = .boolean ∨ t = .byte ∨ t = .char ∨ t = .short) (eT : T.heap = h) {z z' : Int32} (hd : decode bytes pc = .ok (.ireturn, 1)) (hz : narrow t (.int z) = .int z') {k n : Nat} (hk : cells ≤ k) (hn : slots ≤ n) {Q : Option Value → Heap → List Loc → Prop} (hQ : Q (some (.int z')) h locs) :
    Go p e below (Post s Q k n) (T.setTop (mkF m pc Ls (.int z :: rest))) := by
  obtain ⟨hx, hZ, hby, hml, hown, hnm, hret, hlk⟩ := C
  obtain ⟨fs, hr, hrun, hended, hW, hsame⟩ := X.leave (v := some (.int z')) (fun h => by rw [hret] at h; cases h)
  refine ⟨_, _, ?_, hrun, hended, _, _, rfl, ?_, ⟨_, rfl⟩, hW, hsame.mono hk hn⟩
  · have hm' : T.vm.method? m = some meth := X.method'
    have hd' := hb hby hd
    rcases ht with rfl | rfl | rfl | rfl
    all_goals
      show Steps p.tables e below (T.setTop { method := m, pc := pc, locals := Ls, stack := _ :: rest, locked := none }) _
      jvm_step X.here [X.here.top, hx, hd', hm', hret, hz]
      first | (intro acts; rw [hr _ acts rfl rfl rfl]) | rw [hr _ _ rfl rfl rfl]
      exact Steps.refl _
  · show Q _ T.heap _
    rw [eT]; exact hQ
theorem retI (X : Stand p l e R s m args below meth c T locs cells slots) (C : Cx p s m meth c Z bytes maxL own mname (some .int)) (eT : T.heap = h) {z : Int32} (hd : decode bytes pc = .ok (.ireturn, 1)) {k n : Nat} (hk : cells ≤ k) (hn : slots ≤ n) {Q : Option Value → Heap → List Loc → Prop} (hQ : Q (some (.int z)) h locs) :
    Go p e below (Post s Q k n) (T.setTop (mkF m pc Ls (.int z :: rest))) := by
  obtain ⟨hx, hZ, hby, hml, hown, hnm, hret, hlk⟩ := C
  obtain ⟨fs, hr, hrun, hended, hW, hsame⟩ := X.leave (v := some (.int z)) (fun h => by rw [hret] at h; cases h)
  refine ⟨_, _, ?_, hrun, hended, _, _, rfl, ?_, ⟨_, rfl⟩, hW, hsame.mono hk hn⟩
  · have hm' : T.vm.method? m = some meth := X.method'
    have hd' := hb hby hd
    have hn : narrow .int (.int z) = .int z := rfl
    show Steps p.tables e below (T.setTop { method := m, pc := pc, locals := Ls, stack := _ :: rest, locked := none }) _
    jvm_step X.here [X.here.top, hx, hd', hm', hret, hn]
    first | (intro acts; rw [hr _ acts rfl rfl rfl]) | rw [hr _ _ rfl rfl rfl]
    exact Steps.refl _
  · show Q _ T.heap _
    rw [eT]; exact hQ
theorem retJ (X : Stand p l e R s m args below meth c T locs cells slots) (C : Cx p s m meth c Z bytes maxL own mname (some .long)) (eT : T.heap = h) {z : Int64} (hd : decode bytes pc = .ok (.lreturn, 1)) {k n : Nat} (hk : cells ≤ k) (hn : slots ≤ n) {Q : Option Value → Heap → List Loc → Prop} (hQ : Q (some (.long z)) h locs) :
    Go p e below (Post s Q k n) (T.setTop (mkF m pc Ls (.long z :: rest))) := by
  obtain ⟨hx, hZ, hby, hml, hown, hnm, hret, hlk⟩ := C
  obtain ⟨fs, hr, hrun, hended, hW, hsame⟩ := X.leave (v := some (.long z)) (fun h => by rw [hret] at h; cases h)
  refine ⟨_, _, ?_, hrun, hended, _, _, rfl, ?_, ⟨_, rfl⟩, hW, hsame.mono hk hn⟩
  · have hm' : T.vm.method? m = some meth := X.method'
    have hd' := hb hby hd
    show Steps p.tables e below (T.setTop { method := m, pc := pc, locals := Ls, stack := _ :: rest, locked := none }) _
    jvm_step X.here [X.here.top, hx, hd', hm', hret, narrow]
    first | (intro acts; rw [hr _ acts rfl rfl rfl]) | rw [hr _ _ rfl rfl rfl]
    exact Steps.refl _
  · show Q _ T.heap _
    rw [eT]; exact hQ
theorem retA (X : Stand p l e R s m args below meth c T locs cells slots) {t : FieldType} (C : Cx p s m meth c Z bytes maxL own mname (some t)) (ht : t.isReference = true) (eT : T.heap = h) {z : Value} (hz : z.isRef = true) (hd : decode bytes pc = .ok (.areturn, 1)) {k n : Nat} (hk : cells ≤ k) (hn : slots ≤ n) {Q : Option Value → Heap → List Loc → Prop} (hQ : Q (some z) h locs) :
    Go p e below (Post s Q k n) (T.setTop (mkF m pc Ls (z :: rest))) := by
  obtain ⟨hx, hZ, hby, hml, hown, hnm, hret, hlk⟩ := C
  obtain ⟨fs, hr, hrun, hended, hW, hsame⟩ := X.leave (v := some z) (fun h => by rw [hret] at h; cases h)
  refine ⟨_, _, ?_, hrun, hended, _, _, rfl, ?_, ⟨_, rfl⟩, hW, hsame.mono hk hn⟩
  · have hm' : T.vm.method? m = some meth := X.method'
    have hd' := hb hby hd
    show Steps p.tables e below (T.setTop { method := m, pc := pc, locals := Ls, stack := _ :: rest, locked := none }) _
    jvm_step X.here [X.here.top, hx, hd', hm', hret, hz, ht]
    first | (intro acts; rw [hr _ acts rfl rfl rfl]) | rw [hr _ _ rfl rfl rfl]
    exact Steps.refl _
  · show Q _ T.heap _
    rw [eT]; exact hQ
theorem retV (X : Stand p l e R s m args below meth c T locs cells slots) (C : Cx p s m meth c Z bytes maxL own mname none) (eT : T.heap = h) (hd : decode bytes pc = .ok (.return_, 1)) {k n : Nat} (hk : cells ≤ k) (hn : slots ≤ n) {Q : Option Value → Heap → List Loc → Prop} (hQ : Q none h locs) :
    Go p e below (Post s Q k n) (T.setTop (mkF m pc Ls [])) := by
  obtain ⟨hx, hZ, hby, hml, hown, hnm, hret, hlk⟩ := C
  obtain ⟨fs, hr, hrun, hended, hW, hsame⟩ := X.leave (v := none) (fun _ => rfl)
  refine ⟨_, _, X.returnOut hx hret (hb hby hd) hr, hrun, hended, _, _, rfl, ?_, ⟨_, rfl⟩, hW, hsame.mono hk hn⟩
  show Q _ T.heap _
  rw [eT]; exact hQ
/-! plain steps -/
theorem iload (X : Stand p l e R s m args below meth c T locs cells slots) (C : Cx p s m meth c Z bytes maxL own mname ret) {k : Nat} {v : Int32} (hd : decode bytes pc = .ok (.iload k, 2)) (hl : Ls[k]? = some (.val (.int v))) (hq : pc + 2 = q) (K : Go p e below F (T.setTop (mkF m q Ls (.int v :: S)))) : Go p e below F (T.setTop (mkF m pc Ls S)) := by
  subst hq; exact of (fun t k => XS.iload X.here C.1 rfl (hb C.2.2.1 hd) hl k) K
theorem iloadN (X : Stand p l e R s m args below meth c T locs cells slots) (C : Cx p s m meth c Z bytes maxL own mname ret) {k : Fin 4} {v : Int32} (hd : decode bytes pc = .ok (.iload_n k, 1)) (hl : Ls[k.val]? = some (.val (.int v))) (hq : pc + 1 = q) (K : Go p e below F (T.setTop (mkF m q Ls (.int v :: S)))) : Go p e below F (T.setTop (mkF m pc Ls S)) := by
  subst hq; exact of (fun t k => XS.iloadN X.here C.1 rfl (hb C.2.2.1 hd) hl k) K
theorem lload (X : Stand p l e R s m args below meth c T locs cells slots) (C : Cx p s m meth c Z bytes maxL own mname ret) {k : Nat} {v : Int64} (hd : decode bytes pc = .ok (.lload k, 2)) (hl : Ls[k]? = some (.val (.long v))) (hq : pc + 2 = q) (K : Go p e below F (T.setTop (mkF m q Ls (.long v :: S)))) : Go p e below F (T.setTop (mkF m pc Ls S)) := by
  subst hq; exact of (fun t k => XS.lload X.here C.1 rfl (hb C.2.2.1 hd) hl k) K
theorem lloadN (X : Stand p l e R s m args below meth c T locs cells slots) (C : Cx p s m meth c Z bytes maxL own mname ret) {k : Fin 4} {v : Int64} (hd : decode bytes pc = .ok (.lload_n k, 1)) (hl : Ls[k.val]? = some (.val (.long v))) (hq : pc + 1 = q) (K : Go p e below F (T.setTop (mkF m q Ls (.long v :: S)))) : Go p e below F (T.setTop (mkF m pc Ls S)) := by
  subst hq; exact of (fun t k => XS.lloadN X.here C.1 rfl (hb C.2.2.1 hd) hl k) K
theorem aload (X : Stand p l e R s m args below meth c T locs cells slots) (C : Cx p s m meth c Z bytes maxL own mname ret) {k : Nat} {v : Value} (hd : decode bytes pc = .ok (.aload k, 2)) (hl : Ls[k]? = some (.val v)) (hv : v.isRef = true) (hq : pc + 2 = q) (K : Go p e below F (T.setTop (mkF m q Ls (v :: S)))) : Go p e below F (T.setTop (mkF m pc Ls S)) := by
  subst hq; exact of (fun t k => XS.aload X.here C.1 rfl (hb C.2.2.1 hd) hl hv k) K
theorem aloadN (X : Stand p l e R s m args below meth c T locs cells slots) (C : Cx p s m meth c Z bytes maxL own mname ret) {k : Fin 4} {v : Value} (hd : decode bytes pc = .ok (.aload_n k, 1)) (hl : Ls[k.val]? = some (.val v)) (hv : v.isRef = true) (hq : pc + 1 = q) (K : Go p e below F (T.setTop (mkF m q Ls (v :: S)))) : Go p e below F (T.setTop (mkF m pc Ls S)) := by
  subst hq; exact of (fun t k => XS.aloadN X.here C.1 rfl (hb C.2.2.1 hd) hl hv k) K
theorem istore (X : Stand p l e R s m args below meth c T locs cells slots) (C : Cx p s m meth c Z bytes maxL own mname ret) {k : Nat} {v : Int32} (hd : decode bytes pc = .ok (.istore k, 2)) (hl : storeLocals Ls k (.int v) = some L') (hq : pc + 2 = q) (K : Go p e below F (T.setTop (mkF m q L' S))) : Go p e below F (T.setTop (mkF m pc Ls (.int v :: S))) := by
  subst hq; exact of (fun t k => XS.istore X.here C.1 rfl (hb C.2.2.1 hd) rfl hl k) K
theorem istoreN (X : Stand p l e R s m args below meth c T locs cells slots) (C : Cx p s m meth c Z bytes maxL own mname ret) {k : Fin 4} {v : Int32} (hd : decode bytes pc = .ok (.istore_n k, 1)) (hl : storeLocals Ls k.val (.int v) = some L') (hq : pc + 1 = q) (K : Go p e below F (T.setTop (mkF m q L' S))) : Go p e below F (T.setTop (mkF m pc Ls (.int v :: S))) := by
  subst hq; exact of (fun t k => XS.istoreN X.here C.1 rfl (hb C.2.2.1 hd) rfl hl k) K
theorem lstore (X : Stand p l e R s m args below meth c T locs cells slots) (C : Cx p s m meth c Z bytes maxL own mname ret) {k : Nat} {v : Int64} (hd : decode bytes pc = .ok (.lstore k, 2)) (hl : storeLocals Ls k (.long v) = some L') (hq : pc + 2 = q) (K : Go p e below F (T.setTop (mkF m q L' S))) : Go p e below F (T.setTop (mkF m pc Ls (.long v :: S))) := by
  subst hq; exact of (fun t k => XS.lstore X.here C.1 rfl (hb C.2.2.1 hd) rfl hl k) K
theorem lstoreN (X : Stand p l e R s m args below meth c T locs cells slots) (C : Cx p s m meth c Z bytes maxL own mname ret) {k : Fin 4} {v : Int64} (hd : decode bytes pc = .ok (.lstore_n k, 1)) (hl : storeLocals Ls k.val (.long v) = some L') (hq : pc + 1 = q) (K : Go p e below F (T.setTop (mkF m q L' S))) : Go p e below F (T.setTop (mkF m pc Ls (.long v :: S))) := by
  subst hq; exact of (fun t k => XS.lstoreN X.here C.1 rfl (hb C.2.2.1 hd) rfl hl k) K
theorem astore (X : Stand p l e R s m args below meth c T locs cells slots) (C : Cx p s m meth c Z bytes maxL own mname ret) {k : Nat} {v : Value} (hd : decode bytes pc = .ok (.astore k, 2)) (hv : v.isRef = true) (hl : storeLocals Ls k v = some L') (hq : pc + 2 = q) (K : Go p e below F (T.setTop (mkF m q L' S))) : Go p e below F (T.setTop (mkF m pc Ls (v :: S))) := by
  subst hq; exact of (fun t k => XS.astore X.here C.1 rfl (hb C.2.2.1 hd) rfl hv hl k) K
theorem astoreN (X : Stand p l e R s m args below meth c T locs cells slots) (C : Cx p s m meth c Z bytes maxL own mname ret) {k : Fin 4} {v : Value} (hd : decode bytes pc = .ok (.astore_n k, 1)) (hv : v.isRef = true) (hl : storeLocals Ls k.val v = some L') (hq : pc + 1 = q) (K : Go p e below F (T.setTop (mkF m q L' S))) : Go p e below F (T.setTop (mkF m pc Ls (v :: S))) := by
  subst hq; exact of (fun t k => XS.astoreN X.here C.1 rfl (hb C.2.2.1 hd) rfl hv hl k) K
theorem iinc (X : Stand p l e R s m args below meth c T locs cells slots) (C : Cx p s m meth c Z bytes maxL own mname ret) {k : Nat} {i : Int} {x y : Int32} (hd : decode bytes pc = .ok (.iinc k i, 3)) (hl : Ls[k]? = some (.val (.int x))) (hy : x + Int32.ofInt i = y) (hl' : storeLocals Ls k (.int y) = some L') (hq : pc + 3 = q) (K : Go p e below F (T.setTop (mkF m q L' S))) : Go p e below F (T.setTop (mkF m pc Ls S)) := by
  subst hq hy; exact of (fun t k => XS.iinc X.here C.1 rfl (hb C.2.2.1 hd) hl hl' k) K
theorem iconst (X : Stand p l e R s m args below meth c T locs cells slots) (C : Cx p s m meth c Z bytes maxL own mname ret) {i : Int} {v : Int32} (hd : decode bytes pc = .ok (.iconst i, 1)) (hi : Int32.ofInt i = v) (hq : pc + 1 = q) (K : Go p e below F (T.setTop (mkF m q Ls (.int v :: S)))) : Go p e below F (T.setTop (mkF m pc Ls S)) := by
  subst hq hi; exact of (fun t k => XS.iconst X.here C.1 rfl (hb C.2.2.1 hd) k) K
theorem bipush (X : Stand p l e R s m args below meth c T locs cells slots) (C : Cx p s m meth c Z bytes maxL own mname ret) {i : Int} {v : Int32} (hd : decode bytes pc = .ok (.bipush i, 2)) (hi : (Int8.ofInt i).toInt32 = v) (hq : pc + 2 = q) (K : Go p e below F (T.setTop (mkF m q Ls (.int v :: S)))) : Go p e below F (T.setTop (mkF m pc Ls S)) := by
  subst hq hi; exact of (fun t k => XS.bipush X.here C.1 rfl (hb C.2.2.1 hd) k) K
theorem sipush (X : Stand p l e R s m args below meth c T locs cells slots) (C : Cx p s m meth c Z bytes maxL own mname ret) {i : Int} {v : Int32} (hd : decode bytes pc = .ok (.sipush i, 3)) (hi : (Int16.ofInt i).toInt32 = v) (hq : pc + 3 = q) (K : Go p e below F (T.setTop (mkF m q Ls (.int v :: S)))) : Go p e below F (T.setTop (mkF m pc Ls S)) := by
  subst hq hi; exact of (fun t k => XS.sipush X.here C.1 rfl (hb C.2.2.1 hd) k) K
theorem lconst0 (X : Stand p l e R s m args below meth c T locs cells slots) (C : Cx p s m meth c Z bytes maxL own mname ret) (hd : decode bytes pc = .ok (.lconst 0, 1)) (hq : pc + 1 = q) (K : Go p e below F (T.setTop (mkF m q Ls (.long 0 :: S)))) : Go p e below F (T.setTop (mkF m pc Ls S)) := by
  subst hq; exact of (fun t k => XS.lconst X.here C.1 rfl (hb C.2.2.1 hd) k) K
theorem lconst1 (X : Stand p l e R s m args below meth c T locs cells slots) (C : Cx p s m meth c Z bytes maxL own mname ret) (hd : decode bytes pc = .ok (.lconst 1, 1)) (hq : pc + 1 = q) (K : Go p e below F (T.setTop (mkF m q Ls (.long 1 :: S)))) : Go p e below F (T.setTop (mkF m pc Ls S)) := by
  subst hq; exact of (fun t k => XS.lconst X.here C.1 rfl (hb C.2.2.1 hd) k) K
theorem ldcI (X : Stand p l e R s m args below meth c T locs cells slots) (C : Cx p s m meth c Z bytes maxL own mname ret) {i : Nat} {v : Int32} (w : (Jvm.Cond.constant own i v).before a0 Z = true) (hd : decode bytes pc = .ok (.ldc i, 2)) (hq : pc + 2 = q) (K : Go p e below F (T.setTop (mkF m q Ls (.int v :: S)))) : Go p e below F (T.setTop (mkF m pc Ls S)) := by
  subst hq; exact of (X.ldcInt C.1 C.2.2.2.2.1 (mvT C.2.1 w) (g := mkF m pc Ls S) rfl (hb C.2.2.1 hd)) K
theorem ldcL (X : Stand p l e R s m args below meth c T locs cells slots) (C : Cx p s m meth c Z bytes maxL own mname ret) {i : Nat} {v : Int64} (w : (Jvm.Cond.constantLong own i v).before a0 Z = true) (hd : decode bytes pc = .ok (.ldc2_w i, 3)) (hq : pc + 3 = q) (K : Go p e below F (T.setTop (mkF m q Ls (.long v :: S)))) : Go p e below F (T.setTop (mkF m pc Ls S)) := by
  subst hq; exact of (X.ldc2Long C.1 C.2.2.2.2.1 (mvT C.2.1 w) (g := mkF m pc Ls S) rfl (hb C.2.2.1 hd)) K
theorem aconst (X : Stand p l e R s m args below meth c T locs cells slots) (C : Cx p s m meth c Z bytes maxL own mname ret) (hd : decode bytes pc = .ok (.aconst_null, 1)) (hq : pc + 1 = q) (K : Go p e below F (T.setTop (mkF m q Ls (.null :: S)))) : Go p e below F (T.setTop (mkF m pc Ls S)) := by
  subst hq; exact of (fun t k => XS.aconstNull X.here C.1 rfl (hb C.2.2.1 hd) k) K
theorem iadd (X : Stand p l e R s m args below meth c T locs cells slots) (C : Cx p s m meth c Z bytes maxL own mname ret) {x : Int32} {y : Int32} (hd : decode bytes pc = .ok (.iadd, 1)) (hq : pc + 1 = q) (K : Go p e below F (T.setTop (mkF m q Ls (.int (x + y) :: S)))) : Go p e below F (T.setTop (mkF m pc Ls (.int y :: .int x :: S))) := by
  subst hq; exact of (fun t k => XS.iadd X.here C.1 rfl (hb C.2.2.1 hd) rfl k) K
theorem ladd (X : Stand p l e R s m args below meth c T locs cells slots) (C : Cx p s m meth c Z bytes maxL own mname ret) {x : Int64} {y : Int64} (hd : decode bytes pc = .ok (.ladd, 1)) (hq : pc + 1 = q) (K : Go p e below F (T.setTop (mkF m q Ls (.long (x + y) :: S)))) : Go p e below F (T.setTop (mkF m pc Ls (.long y :: .long x :: S))) := by
  subst hq; exact of (fun t k => XS.ladd X.here C.1 rfl (hb C.2.2.1 hd) rfl k) K
theorem isub (X : Stand p l e R s m args below meth c T locs cells slots) (C : Cx p s m meth c Z bytes maxL own mname ret) {x : Int32} {y : Int32} (hd : decode bytes pc = .ok (.isub, 1)) (hq : pc + 1 = q) (K : Go p e below F (T.setTop (mkF m q Ls (.int (x - y) :: S)))) : Go p e below F (T.setTop (mkF m pc Ls (.int y :: .int x :: S))) := by
  subst hq; exact of (fun t k => XS.isub X.here C.1 rfl (hb C.2.2.1 hd) rfl k) K
theorem lsub (X : Stand p l e R s m args below meth c T locs cells slots) (C : Cx p s m meth c Z bytes maxL own mname ret) {x : Int64} {y : Int64} (hd : decode bytes pc = .ok (.lsub, 1)) (hq : pc + 1 = q) (K : Go p e below F (T.setTop (mkF m q Ls (.long (x - y) :: S)))) : Go p e below F (T.setTop (mkF m pc Ls (.long y :: .long x :: S))) := by
  subst hq; exact of (fun t k => XS.lsub X.here C.1 rfl (hb C.2.2.1 hd) rfl k) K
theorem imul (X : Stand p l e R s m args below meth c T locs cells slots) (C : Cx p s m meth c Z bytes maxL own mname ret) {x : Int32} {y : Int32} (hd : decode bytes pc = .ok (.imul, 1)) (hq : pc + 1 = q) (K : Go p e below F (T.setTop (mkF m q Ls (.int (x * y) :: S)))) : Go p e below F (T.setTop (mkF m pc Ls (.int y :: .int x :: S))) := by
  subst hq; exact of (fun t k => XS.imul X.here C.1 rfl (hb C.2.2.1 hd) rfl k) K
theorem lmul (X : Stand p l e R s m args below meth c T locs cells slots) (C : Cx p s m meth c Z bytes maxL own mname ret) {x : Int64} {y : Int64} (hd : decode bytes pc = .ok (.lmul, 1)) (hq : pc + 1 = q) (K : Go p e below F (T.setTop (mkF m q Ls (.long (x * y) :: S)))) : Go p e below F (T.setTop (mkF m pc Ls (.long y :: .long x :: S))) := by
  subst hq; exact of (fun t k => XS.lmul X.here C.1 rfl (hb C.2.2.1 hd) rfl k) K
theorem iand (X : Stand p l e R s m args below meth c T locs cells slots) (C : Cx p s m meth c Z bytes maxL own mname ret) {x : Int32} {y : Int32} (hd : decode bytes pc = .ok (.iand, 1)) (hq : pc + 1 = q) (K : Go p e below F (T.setTop (mkF m q Ls (.int (x &&& y) :: S)))) : Go p e below F (T.setTop (mkF m pc Ls (.int y :: .int x :: S))) := by
  subst hq; exact of (fun t k => XS.iand X.here C.1 rfl (hb C.2.2.1 hd) rfl k) K
theorem land (X : Stand p l e R s m args below meth c T locs cells slots) (C : Cx p s m meth c Z bytes maxL own mname ret) {x : Int64} {y : Int64} (hd : decode bytes pc = .ok (.land, 1)) (hq : pc + 1 = q) (K : Go p e below F (T.setTop (mkF m q Ls (.long (x &&& y) :: S)))) : Go p e below F (T.setTop (mkF m pc Ls (.long y :: .long x :: S))) := by
  subst hq; exact of (fun t k => XS.land X.here C.1 rfl (hb C.2.2.1 hd) rfl k) K
theorem ior (X : Stand p l e R s m args below meth c T locs cells slots) (C : Cx p s m meth c Z bytes maxL own mname ret) {x : Int32} {y : Int32} (hd : decode bytes pc = .ok (.ior, 1)) (hq : pc + 1 = q) (K : Go p e below F (T.setTop (mkF m q Ls (.int (x ||| y) :: S)))) : Go p e below F (T.setTop (mkF m pc Ls (.int y :: .int x :: S))) := by
  subst hq; exact of (fun t k => XS.ior X.here C.1 rfl (hb C.2.2.1 hd) rfl k) K
theorem lor (X : Stand p l e R s m args below meth c T locs cells slots) (C : Cx p s m meth c Z bytes maxL own mname ret) {x : Int64} {y : Int64} (hd : decode bytes pc = .ok (.lor, 1)) (hq : pc + 1 = q) (K : Go p e below F (T.setTop (mkF m q Ls (.long (x ||| y) :: S)))) : Go p e below F (T.setTop (mkF m pc Ls (.long y :: .long x :: S))) := by
  subst hq; exact of (fun t k => XS.lor X.here C.1 rfl (hb C.2.2.1 hd) rfl k) K
theorem ixor (X : Stand p l e R s m args below meth c T locs cells slots) (C : Cx p s m meth c Z bytes maxL own mname ret) {x : Int32} {y : Int32} (hd : decode bytes pc = .ok (.ixor, 1)) (hq : pc + 1 = q) (K : Go p e below F (T.setTop (mkF m q Ls (.int (x ^^^ y) :: S)))) : Go p e below F (T.setTop (mkF m pc Ls (.int y :: .int x :: S))) := by
  subst hq; exact of (fun t k => XS.ixor X.here C.1 rfl (hb C.2.2.1 hd) rfl k) K
theorem lxor (X : Stand p l e R s m args below meth c T locs cells slots) (C : Cx p s m meth c Z bytes maxL own mname ret) {x : Int64} {y : Int64} (hd : decode bytes pc = .ok (.lxor, 1)) (hq : pc + 1 = q) (K : Go p e below F (T.setTop (mkF m q Ls (.long (x ^^^ y) :: S)))) : Go p e below F (T.setTop (mkF m pc Ls (.long y :: .long x :: S))) := by
  subst hq; exact of (fun t k => XS.lxor X.here C.1 rfl (hb C.2.2.1 hd) rfl k) K
theorem ishl (X : Stand p l e R s m args below meth c T locs cells slots) (C : Cx p s m meth c Z bytes maxL own mname ret) {x : Int32} {y : Int32} (hd : decode bytes pc = .ok (.ishl, 1)) (hq : pc + 1 = q) (K : Go p e below F (T.setTop (mkF m q Ls (.int (x <<< (y &&& 31)) :: S)))) : Go p e below F (T.setTop (mkF m pc Ls (.int y :: .int x :: S))) := by
  subst hq; exact of (fun t k => XS.ishl X.here C.1 rfl (hb C.2.2.1 hd) rfl k) K
theorem ishr (X : Stand p l e R s m args below meth c T locs cells slots) (C : Cx p s m meth c Z bytes maxL own mname ret) {x : Int32} {y : Int32} (hd : decode bytes pc = .ok (.ishr, 1)) (hq : pc + 1 = q) (K : Go p e below F (T.setTop (mkF m q Ls (.int (x >>> (y &&& 31)) :: S)))) : Go p e below F (T.setTop (mkF m pc Ls (.int y :: .int x :: S))) := by
  subst hq; exact of (fun t k => XS.ishr X.here C.1 rfl (hb C.2.2.1 hd) rfl k) K
theorem iushr (X : Stand p l e R s m args below meth c T locs cells slots) (C : Cx p s m meth c Z bytes maxL own mname ret) {x : Int32} {y : Int32} (hd : decode bytes pc = .ok (.iushr, 1)) (hq : pc + 1 = q) (K : Go p e below F (T.setTop (mkF m q Ls (.int ((x.toUInt32 >>> (y &&& 31).toUInt32).toInt32) :: S)))) : Go p e below F (T.setTop (mkF m pc Ls (.int y :: .int x :: S))) := by
  subst hq; exact of (fun t k => XS.iushr X.here C.1 rfl (hb C.2.2.1 hd) rfl k) K
theorem lshl (X : Stand p l e R s m args below meth c T locs cells slots) (C : Cx p s m meth c Z bytes maxL own mname ret) {x : Int64} {y : Int32} (hd : decode bytes pc = .ok (.lshl, 1)) (hq : pc + 1 = q) (K : Go p e below F (T.setTop (mkF m q Ls (.long (x <<< (y &&& 0x3f).toInt64) :: S)))) : Go p e below F (T.setTop (mkF m pc Ls (.int y :: .long x :: S))) := by
  subst hq; exact of (fun t k => XS.lshl X.here C.1 rfl (hb C.2.2.1 hd) rfl k) K
theorem lshr (X : Stand p l e R s m args below meth c T locs cells slots) (C : Cx p s m meth c Z bytes maxL own mname ret) {x : Int64} {y : Int32} (hd : decode bytes pc = .ok (.lshr, 1)) (hq : pc + 1 = q) (K : Go p e below F (T.setTop (mkF m q Ls (.long (x >>> (y &&& 0x3f).toInt64) :: S)))) : Go p e below F (T.setTop (mkF m pc Ls (.int y :: .long x :: S))) := by
  subst hq; exact of (fun t k => XS.lshr X.here C.1 rfl (hb C.2.2.1 hd) rfl k) K
theorem lushr (X : Stand p l e R s m args below meth c T locs cells slots) (C : Cx p s m meth c Z bytes maxL own mname ret) {x : Int64} {y : Int32} (hd : decode bytes pc = .ok (.lushr, 1)) (hq : pc + 1 = q) (K : Go p e below F (T.setTop (mkF m q Ls (.long ((x.toUInt64 >>> (y &&& 0x3f).toInt64.toUInt64).toInt64) :: S)))) : Go p e below F (T.setTop (mkF m pc Ls (.int y :: .long x :: S))) := by
  subst hq; exact of (fun t k => XS.lushr X.here C.1 rfl (hb C.2.2.1 hd) rfl k) K
theorem ineg (X : Stand p l e R s m args below meth c T locs cells slots) (C : Cx p s m meth c Z bytes maxL own mname ret) {x : Int32} (hd : decode bytes pc = .ok (.ineg, 1)) (hq : pc + 1 = q) (K : Go p e below F (T.setTop (mkF m q Ls (.int (-x) :: S)))) : Go p e below F (T.setTop (mkF m pc Ls (.int x :: S))) := by
  subst hq; exact of (fun t k => XS.ineg X.here C.1 rfl (hb C.2.2.1 hd) rfl k) K
theorem lneg (X : Stand p l e R s m args below meth c T locs cells slots) (C : Cx p s m meth c Z bytes maxL own mname ret) {x : Int64} (hd : decode bytes pc = .ok (.lneg, 1)) (hq : pc + 1 = q) (K : Go p e below F (T.setTop (mkF m q Ls (.long (-x) :: S)))) : Go p e below F (T.setTop (mkF m pc Ls (.long x :: S))) := by
  subst hq; exact of (fun t k => XS.lneg X.here C.1 rfl (hb C.2.2.1 hd) rfl k) K
theorem i2l (X : Stand p l e R s m args below meth c T locs cells slots) (C : Cx p s m meth c Z bytes maxL own mname ret) {x : Int32} (hd : decode bytes pc = .ok (.i2l, 1)) (hq : pc + 1 = q) (K : Go p e below F (T.setTop (mkF m q Ls (.long (x.toInt64) :: S)))) : Go p e below F (T.setTop (mkF m pc Ls (.int x :: S))) := by
  subst hq; exact of (fun t k => XS.i2l X.here C.1 rfl (hb C.2.2.1 hd) rfl k) K
theorem l2i (X : Stand p l e R s m args below meth c T locs cells slots) (C : Cx p s m meth c Z bytes maxL own mname ret) {x : Int64} (hd : decode bytes pc = .ok (.l2i, 1)) (hq : pc + 1 = q) (K : Go p e below F (T.setTop (mkF m q Ls (.int (x.toInt32) :: S)))) : Go p e below F (T.setTop (mkF m pc Ls (.long x :: S))) := by
  subst hq; exact of (fun t k => XS.l2i X.here C.1 rfl (hb C.2.2.1 hd) rfl k) K
theorem i2b (X : Stand p l e R s m args below meth c T locs cells slots) (C : Cx p s m meth c Z bytes maxL own mname ret) {x : Int32} (hd : decode bytes pc = .ok (.i2b, 1)) (hq : pc + 1 = q) (K : Go p e below F (T.setTop (mkF m q Ls (.int (x.toInt8.toInt32) :: S)))) : Go p e below F (T.setTop (mkF m pc Ls (.int x :: S))) := by
  subst hq; exact of (fun t k => XS.i2b X.here C.1 rfl (hb C.2.2.1 hd) rfl k) K
theorem i2s (X : Stand p l e R s m args below meth c T locs cells slots) (C : Cx p s m meth c Z bytes maxL own mname ret) {x : Int32} (hd : decode bytes pc = .ok (.i2s, 1)) (hq : pc + 1 = q) (K : Go p e below F (T.setTop (mkF m q Ls (.int (x.toInt16.toInt32) :: S)))) : Go p e below F (T.setTop (mkF m pc Ls (.int x :: S))) := by
  subst hq; exact of (fun t k => XS.i2s X.here C.1 rfl (hb C.2.2.1 hd) rfl k) K
theorem i2c (X : Stand p l e R s m args below meth c T locs cells slots) (C : Cx p s m meth c Z bytes maxL own mname ret) {x : Int32} (hd : decode bytes pc = .ok (.i2c, 1)) (hq : pc + 1 = q) (K : Go p e below F (T.setTop (mkF m q Ls (.int (x.toUInt32.toUInt16.toUInt32.toInt32) :: S)))) : Go p e below F (T.setTop (mkF m pc Ls (.int x :: S))) := by
  subst hq; exact of (fun t k => XS.i2c X.here C.1 rfl (hb C.2.2.1 hd) rfl k) K
theorem idiv (X : Stand p l e R s m args below meth c T locs cells slots) (C : Cx p s m meth c Z bytes maxL own mname ret) {x y : Int32} (hd : decode bytes pc = .ok (.idiv, 1)) (hy : y ≠ 0) (hq : pc + 1 = q) (K : Go p e below F (T.setTop (mkF m q Ls (.int (x / y) :: S)))) : Go p e below F (T.setTop (mkF m pc Ls (.int y :: .int x :: S))) := by
  subst hq; exact of (fun t k => XS.idiv X.here C.1 rfl (hb C.2.2.1 hd) rfl hy k) K
theorem irem (X : Stand p l e R s m args below meth c T locs cells slots) (C : Cx p s m meth c Z bytes maxL own mname ret) {x y : Int32} (hd : decode bytes pc = .ok (.irem, 1)) (hy : y ≠ 0) (hq : pc + 1 = q) (K : Go p e below F (T.setTop (mkF m q Ls (.int (x % y) :: S)))) : Go p e below F (T.setTop (mkF m pc Ls (.int y :: .int x :: S))) := by
  subst hq; exact of (fun t k => iremM (g := mkF m pc Ls (.int y :: .int x :: S)) X C.1 rfl (hb C.2.2.1 hd) rfl hy k) K
theorem ldiv (X : Stand p l e R s m args below meth c T locs cells slots) (C : Cx p s m meth c Z bytes maxL own mname ret) {x y : Int64} (hd : decode bytes pc = .ok (.ldiv, 1)) (hy : y ≠ 0) (hq : pc + 1 = q) (K : Go p e below F (T.setTop (mkF m q Ls (.long (x / y) :: S)))) : Go p e below F (T.setTop (mkF m pc Ls (.long y :: .long x :: S))) := by
  subst hq; exact of (fun t k => XS.ldiv X.here C.1 rfl (hb C.2.2.1 hd) rfl hy k) K
theorem lcmp (X : Stand p l e R s m args below meth c T locs cells slots) (C : Cx p s m meth c Z bytes maxL own mname ret) {x y : Int64} (hd : decode bytes pc = .ok (.lcmp, 1)) (hq : pc + 1 = q) (K : Go p e below F (T.setTop (mkF m q Ls (.int (lcmpW x y) :: S)))) : Go p e below F (T.setTop (mkF m pc Ls (.long y :: .long x :: S))) := by
  subst hq; exact of (fun t k => XS.lcmp X.here C.1 rfl (hb C.2.2.1 hd) rfl k) K
theorem dup (X : Stand p l e R s m args below meth c T locs cells slots) (C : Cx p s m meth c Z bytes maxL own mname ret) {v : Value} (hd : decode bytes pc = .ok (.dup, 1)) (hv : v.category = 1) (hq : pc + 1 = q) (K : Go p e below F (T.setTop (mkF m q Ls (v :: v :: S)))) : Go p e below F (T.setTop (mkF m pc Ls (v :: S))) := by
  subst hq; exact of (fun t k => XS.dup X.here C.1 rfl (hb C.2.2.1 hd) rfl hv k) K
theorem dupX1 (X : Stand p l e R s m args below meth c T locs cells slots) (C : Cx p s m meth c Z bytes maxL own mname ret) {v w : Value} (hd : decode bytes pc = .ok (.dup_x1, 1)) (hv : v.category = 1) (hw : w.category = 1) (hq : pc + 1 = q) (K : Go p e below F (T.setTop (mkF m q Ls (v :: w :: v :: S)))) : Go p e below F (T.setTop (mkF m pc Ls (v :: w :: S))) := by
  subst hq; exact of (fun t k => XS.dupX1 X.here C.1 rfl (hb C.2.2.1 hd) rfl hv hw k) K
theorem pop (X : Stand p l e R s m args below meth c T locs cells slots) (C : Cx p s m meth c Z bytes maxL own mname ret) {v : Value} (hd : decode bytes pc = .ok (.pop, 1)) (hv : v.category = 1) (hq : pc + 1 = q) (K : Go p e below F (T.setTop (mkF m q Ls S))) : Go p e below F (T.setTop (mkF m pc Ls (v :: S))) := by
  subst hq; exact of (fun t k => XS.pop X.here C.1 rfl (hb C.2.2.1 hd) rfl hv k) K
theorem goto (X : Stand p l e R s m args below meth c T locs cells slots) (C : Cx p s m meth c Z bytes maxL own mname ret) {o : Int} (hd : decode bytes pc = .ok (.goto o, 3)) (ho : 0 ≤ (pc : Int) + o) (hq : ((pc : Int) + o).toNat = q) (K : Go p e below F (T.setTop (mkF m q Ls S))) : Go p e below F (T.setTop (mkF m pc Ls S)) :=
  of (fun t k => XS.goto X.here C.1 rfl rfl (hb C.2.2.1 hd) ho hq k) K
theorem icmpT (X : Stand p l e R s m args below meth c T locs cells slots) (C : Cx p s m meth c Z bytes maxL own mname ret) {cd : ClassFile.Cond} {o : Int} {x y : Int32} (hd : decode bytes pc = .ok (.if_icmp cd o, 3)) (ho : 0 ≤ (pc : Int) + o) (hq : ((pc : Int) + o).toNat = q) (hc : cT cd x y) (K : Go p e below F (T.setTop (mkF m q Ls S))) : Go p e below F (T.setTop (mkF m pc Ls (.int y :: .int x :: S))) :=
  of (fun t k => XS.icmpYes X.here C.1 rfl rfl (hb C.2.2.1 hd) rfl (holdsT hc) ho hq k) K
theorem icmpF (X : Stand p l e R s m args below meth c T locs cells slots) (C : Cx p s m meth c Z bytes maxL own mname ret) {cd : ClassFile.Cond} {o : Int} {x y : Int32} (hd : decode bytes pc = .ok (.if_icmp cd o, 3)) (hq : pc + 3 = q) (hc : cF cd x y) (K : Go p e below F (T.setTop (mkF m q Ls S))) : Go p e below F (T.setTop (mkF m pc Ls (.int y :: .int x :: S))) := by
  subst hq; exact of (fun t k => XS.icmpNo X.here C.1 rfl (hb C.2.2.1 hd) rfl (holdsF hc) k) K
theorem icmp (X : Stand p l e R s m args below meth c T locs cells slots) (C : Cx p s m meth c Z bytes maxL own mname ret) {cd : ClassFile.Cond} {o : Int} {x y : Int32} {q' : Nat} (hd : decode bytes pc = .ok (.if_icmp cd o, 3)) (ho : 0 ≤ (pc : Int) + o) (hq : ((pc : Int) + o).toNat = q) (hq' : pc + 3 = q') (K : cT cd x y → Go p e below F (T.setTop (mkF m q Ls S))) (K' : cF cd x y → Go p e below F (T.setTop (mkF m q' Ls S))) : Go p e below F (T.setTop (mkF m pc Ls (.int y :: .int x :: S))) :=
  (cTF cd x y).elim (fun hc => icmpT X C hd ho hq hc (K hc)) (fun hc => icmpF X C hd hq' hc (K' hc))
theorem ifT (X : Stand p l e R s m args below meth c T locs cells slots) (C : Cx p s m meth c Z bytes maxL own mname ret) {cd : ClassFile.Cond} {o : Int} {x : Int32} (hd : decode bytes pc = .ok (.ifCond cd o, 3)) (ho : 0 ≤ (pc : Int) + o) (hq : ((pc : Int) + o).toNat = q) (hc : cT cd x 0) (K : Go p e below F (T.setTop (mkF m q Ls S))) : Go p e below F (T.setTop (mkF m pc Ls (.int x :: S))) :=
  of (fun t k => XS.ifYes X.here C.1 rfl rfl (hb C.2.2.1 hd) rfl ((if0 _ _).trans (holdsT hc)) ho hq k) K
theorem ifF (X : Stand p l e R s m args below meth c T locs cells slots) (C : Cx p s m meth c Z bytes maxL own mname ret) {cd : ClassFile.Cond} {o : Int} {x : Int32} (hd : decode bytes pc = .ok (.ifCond cd o, 3)) (hq : pc + 3 = q) (hc : cF cd x 0) (K : Go p e below F (T.setTop (mkF m q Ls S))) : Go p e below F (T.setTop (mkF m pc Ls (.int x :: S))) := by
  subst hq; exact of (fun t k => XS.ifNo X.here C.1 rfl (hb C.2.2.1 hd) rfl ((if0 _ _).trans (holdsF hc)) k) K
theorem if_ (X : Stand p l e R s m args below meth c T locs cells slots) (C : Cx p s m meth c Z bytes maxL own mname ret) {cd : ClassFile.Cond} {o : Int} {x : Int32} {q' : Nat} (hd : decode bytes pc = .ok (.ifCond cd o, 3)) (ho : 0 ≤ (pc : Int) + o) (hq : ((pc : Int) + o).toNat = q) (hq' : pc + 3 = q') (K : cT cd x 0 → Go p e below F (T.setTop (mkF m q Ls S))) (K' : cF cd x 0 → Go p e below F (T.setTop (mkF m q' Ls S))) : Go p e below F (T.setTop (mkF m pc Ls (.int x :: S))) :=
  (cTF cd x 0).elim (fun hc => ifT X C hd ho hq hc (K hc)) (fun hc => ifF X C hd hq' hc (K' hc))
theorem ifnullT (X : Stand p l e R s m args below meth c T locs cells slots) (C : Cx p s m meth c Z bytes maxL own mname ret) {o : Int} (hd : decode bytes pc = .ok (.ifnull o, 3)) (ho : 0 ≤ (pc : Int) + o) (hq : ((pc : Int) + o).toNat = q) (K : Go p e below F (T.setTop (mkF m q Ls S))) : Go p e below F (T.setTop (mkF m pc Ls (.null :: S))) :=
  of (fun t k => XS.ifnullYes X.here C.1 rfl rfl (hb C.2.2.1 hd) rfl ho hq k) K
theorem ifnullF (X : Stand p l e R s m args below meth c T locs cells slots) (C : Cx p s m meth c Z bytes maxL own mname ret) {o : Int} {a : Addr} (hd : decode bytes pc = .ok (.ifnull o, 3)) (hq : pc + 3 = q) (K : Go p e below F (T.setTop (mkF m q Ls S))) : Go p e below F (T.setTop (mkF m pc Ls (.ref a :: S))) := by
  subst hq; exact of (fun t k => XS.ifnullNo X.here C.1 rfl (hb C.2.2.1 hd) rfl k) K
theorem ifnonnullT (X : Stand p l e R s m args below meth c T locs cells slots) (C : Cx p s m meth c Z bytes maxL own mname ret) {o : Int} {a : Addr} (hd : decode bytes pc = .ok (.ifnonnull o, 3)) (ho : 0 ≤ (pc : Int) + o) (hq : ((pc : Int) + o).toNat = q) (K : Go p e below F (T.setTop (mkF m q Ls S))) : Go p e below F (T.setTop (mkF m pc Ls (.ref a :: S))) :=
  of (fun t k => XS.ifnonnullYes X.here C.1 rfl rfl (hb C.2.2.1 hd) rfl ho hq k) K
theorem ifnonnullF (X : Stand p l e R s m args below meth c T locs cells slots) (C : Cx p s m meth c Z bytes maxL own mname ret) {o : Int} (hd : decode bytes pc = .ok (.ifnonnull o, 3)) (hq : pc + 3 = q) (K : Go p e below F (T.setTop (mkF m q Ls S))) : Go p e below F (T.setTop (mkF m pc Ls (.null :: S))) := by
  subst hq; exact of (fun t k => XS.ifnonnullNo X.here C.1 rfl (hb C.2.2.1 hd) rfl k) K
/-! calls -/
theorem callS (X : Stand p l e R s m args below meth c T locs cells slots) (C : Cx p s m meth c Z bytes maxL own mname ret) {y : MethodName} {i : Nat} {yb : ByteArray} {ym : Nat} {yr : Option FieldType} (w1 : (Jvm.Cond.methodLink own i y).before a0 Z = true) (w2 : (Jvm.Cond.static y).before a0 Z = true) (w3 : (Jvm.Cond.initialized y.cls).before a0 Z = true) (w4 : (Jvm.Cond.code y yb ym yr).before a0 Z = true) (hy : y.cls ≠ "java/lang/invoke/MethodHandle" ∧ y.cls ≠ "java/lang/invoke/VarHandle")
    {rm : Room} {as' : Array Value} {Q : Option Value → Heap → List Loc → Prop} (hM : MetFree l y (head1 [Jvm.Cond.code y yb ym yr] rm) (fun a U => a = as' ∧ Z.Warmed39 U.vm ∧ U.heap = h) (fun _ _ _ _ _ => True) (fun _ U o U' => ∃ v L, o = .returned v ∧ Q v U'.heap L ∧ FrameEnd U o U' L rm.cells rm.slots))
    (eT : T.heap = h) (hd : decode bytes pc = .ok (.invokestatic i, 3)) (argsL : List Value) (rest : List Value) (hS : S = argsL.reverse ++ rest) (has : as' = argsL.toArray) {ps : List FieldType} {r : Option FieldType} (hpd : parseMethodDescriptor y.desc = some ⟨ps, r⟩) (hlen : argsL.length = ps.length) (hsz : Ls.size = maxL)
    (hf : rm.frames + 1 ≤ R.frames) (hl : (rest.map fun v => v.category).sum + (ym + 11) + rm.locals ≤ R.locals) (hc : cells + rm.cells ≤ R.cells) (hsl : slots + rm.slots ≤ R.slots) (hq : pc + 3 = q)
    (K : ∀ (T' : State) (v : Option Value) (L : List Loc), Stand p l e R s m args below meth c T' (locs ++ L) (cells + rm.cells) (slots + rm.slots) → Q v T'.heap L → Go p e below F (T'.setTop (mkF m q Ls (v.toList ++ rest)))) : Go p e below F (T.setTop (mkF m pc Ls S)) := by
  subst hq hS has
  obtain ⟨hx, hZ, hby, hml, hown, hnm, hret, hlk⟩ := C
  obtain ⟨v, _, ⟨T1, L1, k1, n1⟩, -, X1, ⟨Lc, hQ, l1, y1, z1⟩, st⟩ := Jvm.LawKit.callS X hx hown (mvT hZ w1) (mvT hZ w2) (mvT hZ w3) (mvT hZ w4) hy (backOf (W := (rest.map fun v => v.category).sum) hM hZ w4 w3 hf hl) (g := mkF m pc Ls (argsL.reverse ++ rest)) rfl (by rw [hml]; exact hsz) (argsL := argsL) (rest := rest) (lenOf hpd hlen) rfl (by show 2 * 0 + _ ≤ _; omega) (hb hby hd) (fun _ _ => ⟨rfl, eT, hc, hsl⟩)
  dsimp only [Pt.U, Pt.locs, Pt.cells, Pt.slots] at X1 l1 y1 z1 st hQ
  subst l1 y1 z1
  exact of st (K T1 v Lc X1 hQ)
theorem callI (X : Stand p l e R s m args below meth c T locs cells slots) (C : Cx p s m meth c Z bytes maxL own mname ret) {y : MethodName} {i : Nat} {yb : ByteArray} {ym : Nat} (hy1 : y.name = "<init>") (w1 : (Jvm.Cond.methodLink own i y).before a0 Z = true) (w2 : (Jvm.Cond.instanceMethod y).before a0 Z = true) (w3 : (Jvm.Cond.initialized y.cls).before a0 Z = true) (w4 : (Jvm.Cond.code y yb ym none).before a0 Z = true) (hy : y.cls ≠ "java/lang/invoke/MethodHandle" ∧ y.cls ≠ "java/lang/invoke/VarHandle")
    {rm : Room} {as' : Array Value} {Q : Option Value → Heap → List Loc → Prop} (hM : MetFree l y (head1 [Jvm.Cond.code y yb ym none] rm) (fun a U => a = as' ∧ Z.Warmed39 U.vm ∧ U.heap = h) (fun _ _ _ _ _ => True) (fun _ U o U' => ∃ v L, o = .returned v ∧ Q v U'.heap L ∧ FrameEnd U o U' L rm.cells rm.slots))
    (eT : T.heap = h) (hd : decode bytes pc = .ok (.invokespecial i, 3)) {a : Addr} (argsL : List Value) (rest : List Value) (hS : S = argsL.reverse ++ .ref a :: rest) (has : as' = (.ref a :: argsL).toArray) {ps : List FieldType} {r : Option FieldType} (hpd : parseMethodDescriptor y.desc = some ⟨ps, r⟩) (hlen : argsL.length = ps.length) (hsz : Ls.size = maxL)
    (hf : rm.frames + 1 ≤ R.frames) (hl : (rest.map fun v => v.category).sum + (ym + 11) + rm.locals ≤ R.locals) (hc : cells + rm.cells ≤ R.cells) (hsl : slots + rm.slots ≤ R.slots) (hq : pc + 3 = q)
    (K : ∀ (T' : State) (v : Option Value) (L : List Loc), Stand p l e R s m args below meth c T' (locs ++ L) (cells + rm.cells) (slots + rm.slots) → Q v T'.heap L → Go p e below F (T'.setTop (mkF m q Ls (v.toList ++ rest)))) : Go p e below F (T.setTop (mkF m pc Ls S)) := by
  subst hq hS has
  obtain ⟨hx, hZ, hby, hml, hown, hnm, hret, hlk⟩ := C
  obtain ⟨v, _, ⟨T1, L1, k1, n1⟩, -, X1, ⟨Lc, hQ, l1, y1, z1⟩, st⟩ := X.specialBack hx hy1 hown (mvT hZ w1) (mvT hZ w2) (mvT hZ w4) hy (backOf (W := (rest.map fun v => v.category).sum) hM hZ w4 w3 hf hl) (g := mkF m pc Ls (argsL.reverse ++ .ref a :: rest)) rfl (by rw [hml]; exact hsz) (Steps.refl _) (a := a) (argsL := argsL) (rest := rest) (lenOf hpd hlen) rfl (by show 2 * 0 + _ ≤ _; omega) (hb hby hd) (fun _ _ => ⟨rfl, eT, hc, hsl⟩)
  dsimp only [Pt.U, Pt.locs, Pt.cells, Pt.slots] at X1 l1 y1 z1 st hQ
  subst l1 y1 z1
  exact tr st (K T1 v Lc X1 hQ)
theorem callV (X : Stand p l e R s m args below meth c T locs cells slots) (C : Cx p s m meth c Z bytes maxL own mname ret) {y z : MethodName} {i : Nat} {Cn : String} {yb : ByteArray} {ym : Nat} {yr : Option FieldType} (w1 : (Jvm.Cond.methodLink own i y).before a0 Z = true) (w2 : (Jvm.Cond.declares y).before a0 Z = true) (hnf : NotFace s y) (ws : (Jvm.Cond.selects Cn y z).before a0 Z = true) (wi : (Jvm.Cond.instanceMethod z).before a0 Z = true) (w3 : (Jvm.Cond.initialized z.cls).before a0 Z = true) (w4 : (Jvm.Cond.code z yb ym yr).before a0 Z = true) (hy : y.cls ≠ "java/lang/invoke/MethodHandle" ∧ y.cls ≠ "java/lang/invoke/VarHandle")
    {rm : Room} {as' : Array Value} {Q : Option Value → Heap → List Loc → Prop} (hM : MetFree l z (head1 [Jvm.Cond.code z yb ym yr] rm) (fun a U => a = as' ∧ Z.Warmed39 U.vm ∧ U.heap = h) (fun _ _ _ _ _ => True) (fun _ U o U' => ∃ v L, o = .returned v ∧ Q v U'.heap L ∧ FrameEnd U o U' L rm.cells rm.slots))
    (eT : T.heap = h) {a : Addr} (E : Exa Z h a Cn) (hd : decode bytes pc = .ok (.invokevirtual i, 3)) (argsL : List Value) (rest : List Value) (hS : S = argsL.reverse ++ .ref a :: rest) (has : as' = (.ref a :: argsL).toArray) {ps : List FieldType} {r : Option FieldType} (hpd : parseMethodDescriptor y.desc = some ⟨ps, r⟩) (hlen : argsL.length = ps.length) (hsz : Ls.size = maxL)
    (hf : rm.frames + 1 ≤ R.frames) (hl : (rest.map fun v => v.category).sum + (ym + 11) + rm.locals ≤ R.locals) (hc : cells + rm.cells ≤ R.cells) (hsl : slots + rm.slots ≤ R.slots) (hq : pc + 3 = q)
    (K : ∀ (T' : State) (v : Option Value) (L : List Loc), Stand p l e R s m args below meth c T' (locs ++ L) (cells + rm.cells) (slots + rm.slots) → Q v T'.heap L → Go p e below F (T'.setTop (mkF m q Ls (v.toList ++ rest)))) : Go p e below F (T.setTop (mkF m pc Ls S)) := by
  subst hq hS has
  obtain ⟨hx, hZ, hby, hml, hown, hnm, hret, hlk⟩ := C
  obtain ⟨cq, kq, qa, qb, qc⟩ := isOf hZ eT E
  obtain ⟨v, _, ⟨T1, L1, k1, n1⟩, -, X1, ⟨Lc, hQ, l1, y1, z1⟩, st⟩ := X.virtualBack hx hown (mvT hZ w1) (mvT hZ w2) hnf (mvT hZ ws) (mvT hZ wi) hy (backOf (W := (rest.map fun v => v.category).sum) hM hZ w4 w3 hf hl) qa qc (g := mkF m pc Ls (argsL.reverse ++ .ref a :: rest)) rfl (by rw [hml]; exact hsz) (Steps.refl _) (argsL := argsL) (rest := rest) (lenOf hpd hlen) rfl (by show 2 * 0 + _ ≤ _; omega) (hb hby hd) (fun _ _ => ⟨rfl, eT, hc, hsl⟩)
  dsimp only [Pt.U, Pt.locs, Pt.cells, Pt.slots] at X1 l1 y1 z1 st hQ
  subst l1 y1 z1
  exact tr st (K T1 v Lc X1 hQ)
theorem nf (C : Cx p s m meth c Z bytes maxL own mname ret) {Cn : String} {y : MethodName} (ws : (Jvm.Cond.selects Cn y y).before a0 Z = true) : NotFace s y := notFace_of_selects (args := #[]) (mvT C.2.1 ws)
/-! objects -/
theorem newO (X : Stand p l e R s m args below meth c T locs cells slots) (C : Cx p s m meth c Z bytes maxL own mname ret) {i n : Nat} {Cn : String} (w1 : (Jvm.Cond.classLink own i Cn).before a0 Z = true) (w2 : (Jvm.Cond.instantiable Cn n).before a0 Z = true) (w3 : (Jvm.Cond.initialized Cn).before a0 Z = true) (eT : T.heap = h) (hd : decode bytes pc = .ok (.new i, 3)) (hc : cells + 1 ≤ R.cells) (hl : slots + n ≤ R.slots) (hq : pc + 3 = q)
    (K : ∀ (T' : State) (h' : Heap) (b : Addr), Stand p l e R s m args below meth c T' locs (cells + 1) (slots + n) → T'.heap = h' → b = h.size → Ext h h' → Exa Z h' b Cn → (∀ {O nm d : String} {ty : FieldType}, Laid Z a0 Cn O nm d → parseFieldDescriptor d = some ty → Fld Z h' b O nm d (defaultValue ty)) → Go p e below F (T'.setTop (mkF m q Ls (.ref b :: S)))) : Go p e below F (T.setTop (mkF m pc Ls S)) := by
  subst hq
  obtain ⟨hx, hZ, hby, hml, hown, hnm, hret, hlk⟩ := C
  obtain ⟨T1, h1, X1, e1, E1, A1, D1, -, st⟩ := Jvm.RoadKit.newO X hx hZ hown w1 w2 w3 eT (g := mkF m pc Ls S) rfl (hb hby hd) hc hl
  exact of st (K T1 h1 _ X1 e1 rfl E1 A1 D1)
theorem getF (X : Stand p l e R s m args below meth c T locs cells slots) (C : Cx p s m meth c Z bytes maxL own mname ret) {i : Nat} {R0 O n d host : String} (w : (Jvm.Cond.fieldLink own i R0 n d).before a0 Z = true ∨ (Jvm.Cond.fieldLinkNest own i R0 n d host).before a0 Z = true) (via : Via Z R0 O n d) (eT : T.heap = h) {a : Addr} {v : Value} (F0 : Fld Z h a O n d v) (hd : decode bytes pc = .ok (.getfield i, 3)) (hq : pc + 3 = q)
    (K : ∀ (T' : State), Stand p l e R s m args below meth c T' locs cells slots → T'.heap = h → Go p e below F (T'.setTop (mkF m q Ls (v :: S)))) : Go p e below F (T.setTop (mkF m pc Ls (.ref a :: S))) := by
  subst hq
  obtain ⟨hx, hZ, hby, hml, hown, hnm, hret, hlk⟩ := C
  obtain ⟨T1, X1, e1, st⟩ := Jvm.RoadKit.getF X hx hZ hown w via eT F0 (g := mkF m pc Ls (.ref a :: S)) rfl rfl (hb hby hd)
  exact of st (K T1 X1 e1)
theorem putF (X : Stand p l e R s m args below meth c T locs cells slots) (C : Cx p s m meth c Z bytes maxL own mname ret) {i kk : Nat} {R0 O n d host Cn : String} {ty : FieldType} (w : (Jvm.Cond.fieldLink own i R0 n d).before a0 Z = true ∨ (Jvm.Cond.fieldLinkNest own i R0 n d host).before a0 Z = true) (via : Via Z R0 O n d) (eT : T.heap = h) {a : Addr} {v old : Value} (F0 : Fld Z h a O n d old) (E : Exa Z h a Cn) (L : (Jvm.Cond.lays Cn O n d).before a0 Z = true ∨ ((Jvm.Cond.laysFinal Cn O n d).before a0 Z = true ∧ own = O ∧ mname = "<init>")) (wi : (Jvm.Cond.instantiable Cn kk).before a0 Z = true) (hty : parseFieldDescriptor d = some ty) (hn : narrow ty v = v) (hf : fits ty v = true) (hd : decode bytes pc = .ok (.putfield i, 3)) (hq : pc + 3 = q)
    (K : ∀ (T' : State) (h' : Heap), Stand p l e R s m args below meth c T' (locs ++ [⟨a, Jvm.RoadKit.slotOf Z O n d⟩]) cells slots → T'.heap = h' → Wr h h' a (Jvm.RoadKit.slotOf Z O n d) v → Go p e below F (T'.setTop (mkF m q Ls S))) : Go p e below F (T.setTop (mkF m pc Ls (v :: .ref a :: S))) := by
  subst hq
  obtain ⟨hx, hZ, hby, hml, hown, hnm, hret, hlk⟩ := C
  obtain ⟨T1, h1, X1, e1, W1, st⟩ := Jvm.RoadKit.putF X hx hZ hown w via eT F0 E (L.imp id fun q => ⟨q.1, q.2.1, hnm.trans q.2.2⟩) wi hty hn hf (g := mkF m pc Ls (v :: .ref a :: S)) rfl rfl (hb hby hd)
  exact of st (K T1 h1 X1 e1 W1)
theorem getS (X : Stand p l e R s m args below meth c T locs cells slots) (C : Cx p s m meth c Z bytes maxL own mname ret) {i : Nat} {R0 O n d : String} (w : (Jvm.Cond.fieldLink own i R0 n d).before a0 Z = true) (via : Via Z R0 O n d) (eT : T.heap = h) {v : Value} (F0 : Sta Z h O n d v) (hd : decode bytes pc = .ok (.getstatic i, 3)) (hq : pc + 3 = q)
    (K : ∀ (T' : State), Stand p l e R s m args below meth c T' locs cells slots → T'.heap = h → Go p e below F (T'.setTop (mkF m q Ls (v :: S)))) : Go p e below F (T.setTop (mkF m pc Ls S)) := by
  subst hq
  obtain ⟨hx, hZ, hby, hml, hown, hnm, hret, hlk⟩ := C
  obtain ⟨T1, X1, e1, st⟩ := Jvm.RoadKit.getS X hx hZ hown (host := "") w via eT F0 (g := mkF m pc Ls S) rfl (hb hby hd)
  exact of st (K T1 X1 e1)
/-! arrays: Arv Z h a k ty n vs d -/
theorem inb {cl : Cell} {n j : Int32} (S : cl.slots.size = n.toNatClampNeg) (h1 : 0 ≤ j.toInt) (h2 : j.toInt < n.toInt) : ¬ (j < 0 ∨ cl.slots.size ≤ j.toNatClampNeg) := inb_of S ⟨by rw [Int32.lt_iff_toInt_lt]; have : (0 : Int32).toInt = 0 := rfl; omega, by rw [Int32.lt_iff_toInt_lt]; exact h2⟩
theorem iaload (X : Stand p l e R s m args below meth c T locs cells slots) (C : Cx p s m meth c Z bytes maxL own mname ret) (eT : T.heap = h) {a : Addr} {k : ClassId} {n j x : Int32} {vs : List Value} {d : Value} (V : Arv Z h a k .int n vs d) (h1 : 0 ≤ j.toInt) (h2 : j.toInt < n.toInt) (hv : vs.getD j.toNatClampNeg d = .int x) (hd : decode bytes pc = .ok (.iaload, 1)) (hq : pc + 1 = q) (K : Go p e below F (T.setTop (mkF m q Ls (.int x :: S)))) : Go p e below F (T.setTop (mkF m pc Ls (.int j :: .ref a :: S))) := by
  subst hq
  obtain ⟨cl, Ar, q1, S1, N1, H1, G1⟩ := V
  exact of (X.iaload C.1 (j := j) (v := .int x) (by rw [eT]; exact Ar.1) (State.isArrayOf_alike C.2.1.alike Ar.2.1) Ar.2.2 (inb S1 h1 h2) (Has.at H1 (inb S1 h1 h2) hv) (g := mkF m pc Ls (.int j :: .ref a :: S)) rfl rfl (hb C.2.2.1 hd)) K
theorem caload (X : Stand p l e R s m args below meth c T locs cells slots) (C : Cx p s m meth c Z bytes maxL own mname ret) (eT : T.heap = h) {a : Addr} {k : ClassId} {n j x : Int32} {vs : List Value} {d : Value} (V : Arv Z h a k .char n vs d) (h1 : 0 ≤ j.toInt) (h2 : j.toInt < n.toInt) (hv : vs.getD j.toNatClampNeg d = .int x) (hd : decode bytes pc = .ok (.caload, 1)) (hq : pc + 1 = q) (K : Go p e below F (T.setTop (mkF m q Ls (.int x :: S)))) : Go p e below F (T.setTop (mkF m pc Ls (.int j :: .ref a :: S))) := by
  subst hq
  obtain ⟨cl, Ar, q1, S1, N1, H1, G1⟩ := V
  exact of (X.caload C.1 (j := j) (v := .int x) (by rw [eT]; exact Ar.1) (State.isArrayOf_alike C.2.1.alike Ar.2.1) Ar.2.2 (inb S1 h1 h2) (Has.at H1 (inb S1 h1 h2) hv) (g := mkF m pc Ls (.int j :: .ref a :: S)) rfl rfl (hb C.2.2.1 hd)) K
theorem baload (X : Stand p l e R s m args below meth c T locs cells slots) (C : Cx p s m meth c Z bytes maxL own mname ret) (eT : T.heap = h) {a : Addr} {k : ClassId} {n j x : Int32} {vs : List Value} {d : Value} (V : Arv Z h a k .byte n vs d) (h1 : 0 ≤ j.toInt) (h2 : j.toInt < n.toInt) (hv : vs.getD j.toNatClampNeg d = .int x) (hd : decode bytes pc = .ok (.baload, 1)) (hq : pc + 1 = q) (K : Go p e below F (T.setTop (mkF m q Ls (.int x :: S)))) : Go p e below F (T.setTop (mkF m pc Ls (.int j :: .ref a :: S))) := by
  subst hq
  obtain ⟨cl, Ar, q1, S1, N1, H1, G1⟩ := V
  exact of (X.baloadBytes C.1 (j := j) (v := .int x) (by rw [eT]; exact Ar.1) (State.isArrayOf_alike C.2.1.alike Ar.2.1) Ar.2.2 (inb S1 h1 h2) (Has.at H1 (inb S1 h1 h2) hv) (g := mkF m pc Ls (.int j :: .ref a :: S)) rfl rfl (hb C.2.2.1 hd)) K
theorem aaload (X : Stand p l e R s m args below meth c T locs cells slots) (C : Cx p s m meth c Z bytes maxL own mname ret) (eT : T.heap = h) {a : Addr} {k : ClassId} {n j : Int32} {x : Value} {vs : List Value} {d : Value} {ty : FieldType} (hty : ty.isReference = true) (V : Arv Z h a k ty n vs d) (h1 : 0 ≤ j.toInt) (h2 : j.toInt < n.toInt) (hv : vs.getD j.toNatClampNeg d = x) (hd : decode bytes pc = .ok (.aaload, 1)) (hq : pc + 1 = q) (K : Go p e below F (T.setTop (mkF m q Ls (x :: S)))) : Go p e below F (T.setTop (mkF m pc Ls (.int j :: .ref a :: S))) := by
  subst hq
  obtain ⟨cl, Ar, q1, S1, N1, H1, G1⟩ := V
  exact of (X.aaload C.1 (j := j) (v := x) (by rw [eT]; exact Ar.1) (State.isArrayOf_alike C.2.1.alike Ar.2.1) hty Ar.2.2 (inb S1 h1 h2) (Has.at H1 (inb S1 h1 h2) hv) (g := mkF m pc Ls (.int j :: .ref a :: S)) rfl rfl (hb C.2.2.1 hd)) K
theorem aaloadC (X : Stand p l e R s m args below meth c T locs cells slots) (C : Cx p s m meth c Z bytes maxL own mname ret) (eT : T.heap = h) {a : Addr} {cl : Cell} {j : Int32} {x : Value} {ty : FieldType} (hty : ty.isReference = true) (Ar : Arr Z h a cl ty) (hin : ¬ (j < 0 ∨ cl.slots.size ≤ j.toNatClampNeg)) (hat : cl.slots[j.toNatClampNeg]? = some x) (hd : decode bytes pc = .ok (.aaload, 1)) (hq : pc + 1 = q) (K : Go p e below F (T.setTop (mkF m q Ls (x :: S)))) : Go p e below F (T.setTop (mkF m pc Ls (.int j :: .ref a :: S))) := by
  subst hq
  exact of (X.aaload C.1 (j := j) (v := x) (by rw [eT]; exact Ar.1) (State.isArrayOf_alike C.2.1.alike Ar.2.1) hty Ar.2.2 hin hat (g := mkF m pc Ls (.int j :: .ref a :: S)) rfl rfl (hb C.2.2.1 hd)) K
theorem arraylength (X : Stand p l e R s m args below meth c T locs cells slots) (C : Cx p s m meth c Z bytes maxL own mname ret) (eT : T.heap = h) {a : Addr} {k : ClassId} {n : Int32} {vs : List Value} {d : Value} {ty : FieldType} (V : Arv Z h a k ty n vs d) (hd : decode bytes pc = .ok (.arraylength, 1)) (hq : pc + 1 = q) (K : Go p e below F (T.setTop (mkF m q Ls (.int n :: S)))) : Go p e below F (T.setTop (mkF m pc Ls (.ref a :: S))) := by
  subst hq
  obtain ⟨cl, Ar, q1, S1, N1, H1, G1⟩ := V
  refine of (X.arraylength C.1 (by rw [eT]; exact Ar.1) (State.isArrayOf_alike C.2.1.alike Ar.2.1) (g := mkF m pc Ls (.ref a :: S)) rfl rfl (hb C.2.2.1 hd)) ?_
  rw [len_of S1 N1]
  exact K
theorem iastore (X : Stand p l e R s m args below meth c T locs cells slots) (C : Cx p s m meth c Z bytes maxL own mname ret) (eT : T.heap = h) {a : Addr} {k : ClassId} {n j x : Int32} {vs : List Value} {d : Value} (V : Arv Z h a k .int n vs d) (h1 : 0 ≤ j.toInt) (h2 : j.toInt < n.toInt) (hlen : j.toNatClampNeg < vs.length) (hd : decode bytes pc = .ok (.iastore, 1)) (hq : pc + 1 = q)
    (K : ∀ (T' : State) (h' : Heap), Stand p l e R s m args below meth c T' (locs ++ [⟨a, j.toNatClampNeg⟩]) cells slots → T'.heap = h' → Wr h h' a j.toNatClampNeg (.int x) → Arv Z h' a k .int n (vs.set j.toNatClampNeg (.int x)) d → Go p e below F (T'.setTop (mkF m q Ls S))) : Go p e below F (T.setTop (mkF m pc Ls (.int x :: .int j :: .ref a :: S))) := by
  subst hq
  obtain ⟨cl, Ar, q1, S1, N1, H1, G1⟩ := V
  obtain ⟨T1, h1', X1, e1, W1, st⟩ := stI X C.1 C.2.1 eT Ar (j := j) (inb S1 h1 h2) (g := mkF m pc Ls (.int x :: .int j :: .ref a :: S)) rfl rfl (hb C.2.2.1 hd)
  exact of st (K T1 h1' X1 e1 W1 (Arv.set Ar q1 S1 N1 H1 G1 rfl W1 _ rfl hlen))
theorem castore (X : Stand p l e R s m args below meth c T locs cells slots) (C : Cx p s m meth c Z bytes maxL own mname ret) (eT : T.heap = h) {a : Addr} {k : ClassId} {n j x : Int32} {vs : List Value} {d : Value} (V : Arv Z h a k .char n vs d) (h1 : 0 ≤ j.toInt) (h2 : j.toInt < n.toInt) (hlen : j.toNatClampNeg < vs.length) (hd : decode bytes pc = .ok (.castore, 1)) (hq : pc + 1 = q)
    (K : ∀ (T' : State) (h' : Heap), Stand p l e R s m args below meth c T' (locs ++ [⟨a, j.toNatClampNeg⟩]) cells slots → T'.heap = h' → Wr h h' a j.toNatClampNeg (.int (nar .char x)) → Arv Z h' a k .char n (vs.set j.toNatClampNeg (.int (nar .char x))) d → Go p e below F (T'.setTop (mkF m q Ls S))) : Go p e below F (T.setTop (mkF m pc Ls (.int x :: .int j :: .ref a :: S))) := by
  subst hq
  obtain ⟨cl, Ar, q1, S1, N1, H1, G1⟩ := V
  obtain ⟨T1, h1', X1, e1, W1, st⟩ := stC X C.1 C.2.1 eT Ar (j := j) (inb S1 h1 h2) (g := mkF m pc Ls (.int x :: .int j :: .ref a :: S)) rfl rfl (hb C.2.2.1 hd)
  exact of st (K T1 h1' X1 e1 W1 (Arv.set Ar q1 S1 N1 H1 G1 (fits_nar_char _) W1 _ rfl hlen))
theorem bastore (X : Stand p l e R s m args below meth c T locs cells slots) (C : Cx p s m meth c Z bytes maxL own mname ret) (eT : T.heap = h) {a : Addr} {k : ClassId} {n j x : Int32} {vs : List Value} {d : Value} (V : Arv Z h a k .byte n vs d) (h1 : 0 ≤ j.toInt) (h2 : j.toInt < n.toInt) (hlen : j.toNatClampNeg < vs.length) (hd : decode bytes pc = .ok (.bastore, 1)) (hq : pc + 1 = q)
    (K : ∀ (T' : State) (h' : Heap), Stand p l e R s m args below meth c T' (locs ++ [⟨a, j.toNatClampNeg⟩]) cells slots → T'.heap = h' → Wr h h' a j.toNatClampNeg (.int x.toInt8.toInt32) → Arv Z h' a k .byte n (vs.set j.toNatClampNeg (.int x.toInt8.toInt32)) d → Go p e below F (T'.setTop (mkF m q Ls S))) : Go p e below F (T.setTop (mkF m pc Ls (.int x :: .int j :: .ref a :: S))) := by
  subst hq
  obtain ⟨cl, Ar, q1, S1, N1, H1, G1⟩ := V
  obtain ⟨T1, h1', X1, e1, W1, st⟩ := stB X C.1 C.2.1 eT Ar (j := j) (inb S1 h1 h2) (g := mkF m pc Ls (.int x :: .int j :: .ref a :: S)) rfl rfl (hb C.2.2.1 hd)
  exact of st (K T1 h1' X1 e1 W1 (Arv.set Ar q1 S1 N1 H1 G1 (fits_nar_byte _) W1 _ rfl hlen))
theorem aastore (X : Stand p l e R s m args below meth c T locs cells slots) (C : Cx p s m meth c Z bytes maxL own mname ret) (eT : T.heap = h) {a : Addr} {k : ClassId} {n j : Int32} {x : Value} {vs : List Value} {d : Value} {ty : FieldType} (hty : ty.isReference = true) (hf : fits ty x = true) (V : Arv Z h a k ty n vs d) (hs : ∀ cl, Arr Z h a cl ty → cl.cls = k → Sto Z h a x) (h1 : 0 ≤ j.toInt) (h2 : j.toInt < n.toInt) (hlen : j.toNatClampNeg < vs.length) (hd : decode bytes pc = .ok (.aastore, 1)) (hq : pc + 1 = q)
    (K : ∀ (T' : State) (h' : Heap), Stand p l e R s m args below meth c T' (locs ++ [⟨a, j.toNatClampNeg⟩]) cells slots → T'.heap = h' → Wr h h' a j.toNatClampNeg x → Arv Z h' a k ty n (vs.set j.toNatClampNeg x) d → Go p e below F (T'.setTop (mkF m q Ls S))) : Go p e below F (T.setTop (mkF m pc Ls (x :: .int j :: .ref a :: S))) := by
  subst hq
  obtain ⟨cl, Ar, q1, S1, N1, H1, G1⟩ := V
  obtain ⟨T1, h1', X1, e1, W1, st⟩ := stR X C.1 C.2.1 eT Ar (j := j) (inb S1 h1 h2) hty (hs cl Ar q1) (g := mkF m pc Ls (x :: .int j :: .ref a :: S)) rfl rfl (hb C.2.2.1 hd)
  exact of st (K T1 h1' X1 e1 W1 (Arv.set Ar q1 S1 N1 H1 G1 hf W1 _ rfl hlen))
theorem newarray (X : Stand p l e R s m args below meth c T locs cells slots) (C : Cx p s m meth c Z bytes maxL own mname ret) {aty : ArrayType} (w : (Jvm.Cond.arrayClass (newarray.typeOf aty)).before a0 Z = true) (eT : T.heap = h) {n : Int32} (hn : 0 ≤ n.toInt) (cap : Nat) (hcap : n.toInt ≤ cap) (hb8 : cap * 8 ≤ 536870912) (hd : decode bytes pc = .ok (.newarray aty, 2)) (hc : cells + 1 ≤ R.cells) (hl : slots + cap ≤ R.slots) (hq : pc + 2 = q)
    (K : ∀ (T' : State) (h' : Heap) (b : Addr) (k : ClassId), Stand p l e R s m args below meth c T' locs (cells + 1) (slots + cap) → T'.heap = h' → b = h.size → Ext h h' → Arv Z h' b k (newarray.typeOf aty) n (List.replicate cap (defaultValue (newarray.typeOf aty))) (defaultValue (newarray.typeOf aty)) → Go p e below F (T'.setTop (mkF m q Ls (.ref b :: S)))) : Go p e below F (T.setTop (mkF m pc Ls (.int n :: S))) := by
  subst hq
  have hn' : ¬ n < 0 := by rw [Int32.lt_iff_toInt_lt]; have : (0 : Int32).toInt = 0 := rfl; omega
  obtain ⟨T1, h1, k1, X1, e1, E1, A1, st⟩ := newP X C.1 C.2.1 w eT (g := mkF m pc Ls (.int n :: S)) rfl (hb C.2.2.1 hd) rfl hn' (cap := cap) (by simp only [Int32.toNatClampNeg]; omega) hb8 hc hl
  exact of st (K T1 h1 _ k1 X1 e1 rfl E1 ((Arv.new A1 hn').pad (pad_rep [] _ cap)))
theorem anewarray (X : Stand p l e R s m args below meth c T locs cells slots) (C : Cx p s m meth c Z bytes maxL own mname ret) {i : Nat} {Cn : String} (w1 : (Jvm.Cond.classLink own i Cn).before a0 Z = true) (w2 : (Jvm.Cond.arrayOver (.object Cn)).before a0 Z = true) (eT : T.heap = h) {n : Int32} (hn : 0 ≤ n.toInt) (cap : Nat) (hcap : n.toInt ≤ cap) (hb8 : cap * 8 ≤ 536870912) (hd : decode bytes pc = .ok (.anewarray i, 3)) (hc : cells + 1 ≤ R.cells) (hl : slots + cap ≤ R.slots) (hq : pc + 3 = q)
    (K : ∀ (T' : State) (h' : Heap) (b : Addr) (k : ClassId), Stand p l e R s m args below meth c T' locs (cells + 1) (slots + cap) → T'.heap = h' → b = h.size → Ext h h' → Ovr Z k Cn → Arv Z h' b k (.object Cn) n (List.replicate cap .null) .null → Go p e below F (T'.setTop (mkF m q Ls (.ref b :: S)))) : Go p e below F (T.setTop (mkF m pc Ls (.int n :: S))) := by
  subst hq
  have hn' : ¬ n < 0 := by rw [Int32.lt_iff_toInt_lt]; have : (0 : Int32).toInt = 0 := rfl; omega
  obtain ⟨T1, h1, k1, X1, e1, E1, A1, O1, st⟩ := newR X C.1 C.2.1 C.2.2.2.2.1 w1 w2 eT (g := mkF m pc Ls (.int n :: S)) rfl (hb C.2.2.1 hd) rfl hn' (cap := cap) (by simp only [Int32.toNatClampNeg]; omega) hb8 hc hl
  exact of st (K T1 h1 _ k1 X1 e1 rfl E1 O1 ((Arv.new A1 hn').pad (pad_rep [] _ cap)))
theorem keepRefl (h : Heap) : Keep h h [] := Keep.refl h []
/-! kinds of objects -/
theorem nsRoot {O Kn : String} {n : Nat} (w : (Jvm.Cond.noSuperclass O).before a0 Z = true) (wi : (Jvm.Cond.instantiable Kn n).before a0 Z = true) (hn : O ≠ Kn) : NS Z O Kn := by
  obtain ⟨c, k, h1, h2, h3, -, -⟩ := Cond.noSuperclass_spec w
  obtain ⟨t, k2, g1, -⟩ := Cond.instantiable_spec wi
  have ne := ids_ne h1 g1 hn
  refine ⟨c, t, h1, g1, fun fuel => ?_⟩
  cases fuel with
  | zero => rfl
  | succ f => simp [Vm.isSubclassAux, ne, h2, h3]
theorem nsNo {Cn S Kn : String} {n : Nat} (w : (Jvm.Cond.superclass Cn S).before a0 Z = true) (wi : (Jvm.Cond.instantiable Kn n).before a0 Z = true) (nn : NS Z Cn Kn) (hn : Cn ≠ Kn) : ∃ c t, Z.vm.findClass Cn = some c ∧ Z.vm.findClass Kn = some t ∧ Z.vm.assignable c t = false := by
  obtain ⟨c, t, h0, g0, n3⟩ := nn
  obtain ⟨p, k, kp, h1, h2, h3, h4, h5, -, h7⟩ := Cond.superclass_spec h0 w
  obtain ⟨t', k', g1, g2, g5, g6, -⟩ := Cond.instantiable_spec wi
  cases g0.symm.trans g1
  have g7 : k'.isInterface = false := (Bool.or_eq_false_iff.mp g6).1
  have ne := ids_ne h0 g0 hn
  refine ⟨c, t, h0, g0, ?_⟩
  show Z.vm.assignableAux (255 + 1) c t = false
  simp [Vm.assignableAux, ne, h2, g2, h5, g5, g7, Vm.isSubclass, n3]
theorem cast (X : Stand p l e R s m args below meth c T locs cells slots) (C : Cx p s m meth c Z bytes maxL own mname ret) {i : Nat} {Kn : String} (w : (Jvm.Cond.classLink own i Kn).before a0 Z = true) (eT : T.heap = h) {a : Addr} (I : Ins Z h a Kn true) (hd : decode bytes pc = .ok (.checkcast i, 3)) (hq : pc + 3 = q)
    (K : ∀ (T' : State), Stand p l e R s m args below meth c T' locs cells slots → T'.heap = h → Go p e below F (T'.setTop (mkF m q Ls (.ref a :: S)))) : Go p e below F (T.setTop (mkF m pc Ls (.ref a :: S))) := by
  subst hq
  obtain ⟨T1, X1, e1, st⟩ := castY X C.1 C.2.1 C.2.2.2.2.1 w eT I (g := mkF m pc Ls (.ref a :: S)) rfl rfl (hb C.2.2.1 hd)
  exact of st (K T1 X1 e1)
theorem inst1 (X : Stand p l e R s m args below meth c T locs cells slots) (C : Cx p s m meth c Z bytes maxL own mname ret) {i : Nat} {Kn : String} (w : (Jvm.Cond.classLink own i Kn).before a0 Z = true) (eT : T.heap = h) {a : Addr} (I : Ins Z h a Kn true) (hd : decode bytes pc = .ok (.instanceof i, 3)) (hq : pc + 3 = q)
    (K : ∀ (T' : State), Stand p l e R s m args below meth c T' locs cells slots → T'.heap = h → Go p e below F (T'.setTop (mkF m q Ls (.int 1 :: S)))) : Go p e below F (T.setTop (mkF m pc Ls (.ref a :: S))) := by
  subst hq
  obtain ⟨T1, X1, e1, st⟩ := instY X C.1 C.2.1 C.2.2.2.2.1 w eT I (g := mkF m pc Ls (.ref a :: S)) rfl rfl (hb C.2.2.1 hd)
  exact of st (K T1 X1 e1)
theorem inst0 (X : Stand p l e R s m args below meth c T locs cells slots) (C : Cx p s m meth c Z bytes maxL own mname ret) {i : Nat} {Kn Cn : String} (w : (Jvm.Cond.classLink own i Kn).before a0 Z = true) (eT : T.heap = h) {a : Addr} (E : Exa Z h a Cn) (N : ∃ c t, Z.vm.findClass Cn = some c ∧ Z.vm.findClass Kn = some t ∧ Z.vm.assignable c t = false) (hd : decode bytes pc = .ok (.instanceof i, 3)) (hq : pc + 3 = q)
    (K : ∀ (T' : State), Stand p l e R s m args below meth c T' locs cells slots → T'.heap = h → Go p e below F (T'.setTop (mkF m q Ls (.int 0 :: S)))) : Go p e below F (T.setTop (mkF m pc Ls (.ref a :: S))) := by
  subst hq
  obtain ⟨T1, X1, e1, st⟩ := instNo X C.1 C.2.1 C.2.2.2.2.1 w eT E N (g := mkF m pc Ls (.ref a :: S)) rfl rfl (hb C.2.2.1 hd)
  exact of st (K T1 X1 e1)
theorem instNull (X : Stand p l e R s m args below meth c T locs cells slots) (C : Cx p s m meth c Z bytes maxL own mname ret) {i : Nat} (hd : decode bytes pc = .ok (.instanceof i, 3)) (hq : pc + 3 = q) (K : Go p e below F (T.setTop (mkF m q Ls (.int 0 :: S)))) : Go p e below F (T.setTop (mkF m pc Ls (.null :: S))) := by
  subst hq; exact of (X.instanceofNull C.1 (g := mkF m pc Ls (.null :: S)) rfl rfl (hb C.2.2.1 hd)) K
theorem castNull (X : Stand p l e R s m args below meth c T locs cells slots) (C : Cx p s m meth c Z bytes maxL own mname ret) {i : Nat} (hd : decode bytes pc = .ok (.checkcast i, 3)) (hq : pc + 3 = q) (K : Go p e below F (T.setTop (mkF m q Ls (.null :: S)))) : Go p e below F (T.setTop (mkF m pc Ls (.null :: S))) := by
  subst hq; exact of (X.checkcastNull C.1 (g := mkF m pc Ls (.null :: S)) rfl rfl (hb C.2.2.1 hd)) K
theorem acmp (X : Stand p l e R s m args below meth c T locs cells slots) (C : Cx p s m meth c Z bytes maxL own mname ret) {cd : ACond} {o : Int} {x y : Value} (h1 : x.isRef = true) (h2 : y.isRef = true) {same : Bool} (hs : decide (x = y) = same) (hd : decode bytes pc = .ok (.if_acmp cd o, 3)) (ho : 0 ≤ (pc : Int) + o) (hq : q = if acV cd same = true then ((pc : Int) + o).toNat else pc + 3) (K : Go p e below F (T.setTop (mkF m q Ls S))) : Go p e below F (T.setTop (mkF m pc Ls (y :: x :: S))) :=
  of (fun t k => Jvm.RoadKit.acmp (g := mkF m pc Ls (y :: x :: S)) X C.1 rfl h1 h2 rfl (hb C.2.2.1 hd) rfl hs ho hq k) K
end
end W
end Jvm.Pilot.@@N@@
namespace Jvm.Pilot.@@N@@
open Jvm Jvm.ClassFile Sem Op Lib Jvm.Free Jvm.Stand Jvm.LawKit Jvm.RoadKit Bundle Jvm.Pilot.@@N@@.Jvm.D
theorem d2_0 : decode prog_10_method_1_code 0 = .ok (.getstatic 22, 3) := by decide +kernel
theorem d2_3 : decode prog_10_method_1_code 3 = .ok (.invokevirtual 26, 3) := by decide +kernel
theorem d2_6 : decode prog_10_method_1_code 6 = .ok (.checkcast 27, 3) := by decide +kernel
theorem d2_9 : decode prog_10_method_1_code 9 = .ok (.areturn, 1) := by decide +kernel
theorem pn_com_example_libcoffer_libcoffer_core_FileKind : plainName "com/example/libcoffer/libcoffer/core/FileKind" = true := by first | (simp [plainName, overriddenIn]; done) | decide +kernel
def Q2 (Z : State) (va : Addr) (kv : ClassId) (ka0 ka1 ka2 ka3 ka4 ka5 : Addr) (h0 : Heap) (n0 : Nat) (v : Option Value) (h : Heap) (L : List Loc) : Prop := ∃ b, v = some (.ref b) ∧ Fr n0 L ∧ Keep h0 h [] ∧ Arv Z h b kv (.object "com/example/libcoffer/libcoffer/core/FileKind") (6 : Int32) [(.ref ka0), (.ref ka1), (.ref ka2), (.ref ka3), (.ref ka4), (.ref ka5)] .null
set_option maxRecDepth 65536 in
set_option maxHeartbeats 40000000 in
theorem rm2 (l : Launch) (Z : State) (a0 : Array Value) (hw : ∀ d ∈ tables_1, d.before a0 Z = true) (ws : List Jvm.Cond) (va : Addr) (kv : ClassId) (ka0 ka1 ka2 ka3 ka4 ka5 : Addr) (h0 : Heap) (n0 : Nat) (Z0 : n0 ≤ h0.size) (SV : Sta Z h0 "com/example/libcoffer/libcoffer/core/FileKind" "$VALUES" "[Lcom/example/libcoffer/libcoffer/core/FileKind;" (.ref va)) (EV : Exa Z h0 va "[Lcom/example/libcoffer/libcoffer/core/FileKind;") (VV : Arv Z h0 va kv (.object "com/example/libcoffer/libcoffer/core/FileKind") (6 : Int32) [(.ref ka0), (.ref ka1), (.ref ka2), (.ref ka3), (.ref ka4), (.ref ka5)] .null) :
    MetFree l (⟨"com/example/libcoffer/libcoffer/core/FileKind", "values", "()[Lcom/example/libcoffer/libcoffer/core/FileKind;"⟩ : MethodName) (head1 (Jvm.Cond.code (⟨"com/example/libcoffer/libcoffer/core/FileKind", "values", "()[Lcom/example/libcoffer/libcoffer/core/FileKind;"⟩ : MethodName) prog_10_method_1_code 0 (some (.array (.object "com/example/libcoffer/libcoffer/core/FileKind"))) :: ws) ({ frames := 1, cells := 1, slots := 6, locals := 20 } : Room)) (fun a U => a = #[] ∧ Z.Warmed39 U.vm ∧ U.heap = h0) (fun _ _ _ _ _ => True) (fun _ U o U' => ∃ v L, o = .returned v ∧ Q2 Z va kv ka0 ka1 ka2 ka3 ka4 ka5 h0 n0 v U'.heap L ∧ FrameEnd U o U' L ({ frames := 1, cells := 1, slots := 6, locals := 20 } : Room).cells ({ frames := 1, cells := 1, slots := 6, locals := 20 } : Room).slots) := by
  refine W.bodyOf (y := (⟨"com/example/libcoffer/libcoffer/core/FileKind", "values", "()[Lcom/example/libcoffer/libcoffer/core/FileKind;"⟩ : MethodName)) (as := #[]) (maxL := 0) (Q := Q2 Z va kv ka0 ka1 ka2 ka3 ka4 ka5 h0 n0) (Ls := #[]) (plainFor_of_name pn_com_example_libcoffer_libcoffer_core_FileKind) (fun m => by first | rfl | (simp [entryFrame, mkF, argsToLocals, Value.category]; done)) ?_
  intro p e s m below meth c T0 C X0 e0
  have N0 := Fr.nil n0
  have K0 := Keep.refl h0 []
  refine W.getS (q := 3) X0 C (W.ww hw 10 rfl) Via.refl e0 SV d2_0 rfl (fun T1 X1 e1 => ?_)
  obtain ⟨T2, h2, X2, e2, E2, V2, A2, st2⟩ := cloneH X1 C.1 C.2.1 C.2.2.2.2.1 (W.ww hw 12 rfl) (W.ww hw 13 rfl) (W.ww hw 17 rfl) (W.ww hw 15 rfl) (W.ww hw 16 rfl) (W.ww hw 18 rfl) e1 VV.arh EV (g := (mkF m 3 #[] [(.ref va)])) rfl (by rw [C.2.2.2.1]; rfl) rfl (hb C.2.2.1 d2_3) (by decide) (W := 0) (cap := 6) (by show 2 * 0 + _ ≤ _; exact Nat.le_of_eq rfl) (by decide) (by decide) (by decide) (by decide)
  obtain ⟨b2, g2⟩ : ∃ z, z = h0.size := ⟨_, rfl⟩
  rw [← g2] at V2 A2 st2
  refine W.of st2 ?_
  have ne_va_b2 : va ≠ b2 := by rw [g2]; exact Nat.ne_of_lt EV.lt
  have ge_b2 : n0 ≤ b2 := by rw [g2]; exact Z0
  have sz_b2 : h0.size ≤ b2 := by rw [g2]; exact K0.1
  have n0_2 : n0 ≤ h2.size := Nat.le_trans Z0 E2.1
  have SV_3 := SV.ext E2
  have EV_3 := EV.ext E2
  have VV_3 := VV.ext E2
  have K2 := K0.ext E2
  show W.Go p e below _ (T2.setTop (mkF m 6 #[] [(.ref b2)]))
  refine W.cast (q := 9) X2 C (W.ww hw 25 rfl) e2 (Ins.self A2) d2_6 rfl (fun T4 X4 e4 => ?_)
  exact W.retA X4 C rfl e4 rfl d2_9 (by decide) (by decide) ⟨b2, rfl, N0, K2, V2⟩
theorem d1_0 : decode prog_10_method_7_code 0 = .ok (.invokestatic 49, 3) := by decide +kernel
theorem pd__28_29_5bLcom_2fexample_2flibcoffer_2flibcoffer_2fcore_2fFileKind_3b : parseMethodDescriptor "()[Lcom/example/libcoffer/libcoffer/core/FileKind;" = some ⟨[], some (.array (.object "com/example/libcoffer/libcoffer/core/FileKind"))⟩ := by decide +kernel
theorem d1_3 : decode prog_10_method_7_code 3 = .ok (.astore_n 1, 1) := by decide +kernel
theorem d1_4 : decode prog_10_method_7_code 4 = .ok (.aload_n 1, 1) := by decide +kernel
theorem d1_5 : decode prog_10_method_7_code 5 = .ok (.arraylength, 1) := by decide +kernel
theorem d1_6 : decode prog_10_method_7_code 6 = .ok (.istore_n 2, 1) := by decide +kernel
theorem d1_7 : decode prog_10_method_7_code 7 = .ok (.iconst 0, 1) := by decide +kernel
theorem d1_8 : decode prog_10_method_7_code 8 = .ok (.istore_n 3, 1) := by decide +kernel
theorem d1_9 : decode prog_10_method_7_code 9 = .ok (.iload_n 3, 1) := by decide +kernel
theorem d1_10 : decode prog_10_method_7_code 10 = .ok (.iload_n 2, 1) := by decide +kernel
theorem d1_11 : decode prog_10_method_7_code 11 = .ok (.if_icmp .ge 26, 3) := by decide +kernel
theorem d1_14 : decode prog_10_method_7_code 14 = .ok (.aload_n 1, 1) := by decide +kernel
theorem d1_15 : decode prog_10_method_7_code 15 = .ok (.iload_n 3, 1) := by decide +kernel
theorem d1_16 : decode prog_10_method_7_code 16 = .ok (.aaload, 1) := by decide +kernel
theorem d1_17 : decode prog_10_method_7_code 17 = .ok (.astore 4, 2) := by decide +kernel
theorem d1_19 : decode prog_10_method_7_code 19 = .ok (.aload 4, 2) := by decide +kernel
theorem d1_21 : decode prog_10_method_7_code 21 = .ok (.getfield 37, 3) := by decide +kernel
theorem d1_24 : decode prog_10_method_7_code 24 = .ok (.iload_n 0, 1) := by decide +kernel
theorem d1_25 : decode prog_10_method_7_code 25 = .ok (.if_icmp .ne 6, 3) := by decide +kernel
theorem d1_28 : decode prog_10_method_7_code 28 = .ok (.aload 4, 2) := by decide +kernel
theorem d1_30 : decode prog_10_method_7_code 30 = .ok (.areturn, 1) := by decide +kernel
def Q1_0 (Z : State) (va : Addr) (kv : ClassId) (ka0 ka1 ka2 ka3 ka4 ka5 : Addr) (h0 : Heap) (n0 : Nat) (v : Option Value) (h : Heap) (L : List Loc) : Prop := v = some (.ref ka0) ∧ Fr n0 L ∧ Keep h0 h []
set_option maxRecDepth 65536 in
set_option maxHeartbeats 40000000 in
theorem rm1_0 (l : Launch) (Z : State) (a0 : Array Value) (hw : ∀ d ∈ tables_1, d.before a0 Z = true) (ws : List Jvm.Cond) (va : Addr) (kv : ClassId) (ka0 ka1 ka2 ka3 ka4 ka5 : Addr) (h0 : Heap) (n0 : Nat) (Z0 : n0 ≤ h0.size) (SV : Sta Z h0 "com/example/libcoffer/libcoffer/core/FileKind" "$VALUES" "[Lcom/example/libcoffer/libcoffer/core/FileKind;" (.ref va)) (EV : Exa Z h0 va "[Lcom/example/libcoffer/libcoffer/core/FileKind;") (VV : Arv Z h0 va kv (.object "com/example/libcoffer/libcoffer/core/FileKind") (6 : Int32) [(.ref ka0), (.ref ka1), (.ref ka2), (.ref ka3), (.ref ka4), (.ref ka5)] .null) (F0 : Fld Z h0 ka0 "com/example/libcoffer/libcoffer/core/FileKind" "code" "B" (.int (80 : Int32))) (F1 : Fld Z h0 ka1 "com/example/libcoffer/libcoffer/core/FileKind" "code" "B" (.int (77 : Int32))) (F2 : Fld Z h0 ka2 "com/example/libcoffer/libcoffer/core/FileKind" "code" "B" (.int (71 : Int32))) (F3 : Fld Z h0 ka3 "com/example/libcoffer/libcoffer/core/FileKind" "code" "B" (.int (75 : Int32))) (F4 : Fld Z h0 ka4 "com/example/libcoffer/libcoffer/core/FileKind" "code" "B" (.int (83 : Int32))) (F5 : Fld Z h0 ka5 "com/example/libcoffer/libcoffer/core/FileKind" "code" "B" (.int (82 : Int32))) :
    MetFree l (⟨"com/example/libcoffer/libcoffer/core/FileKind", "fromCode", "(B)Lcom/example/libcoffer/libcoffer/core/FileKind;"⟩ : MethodName) (head1 (Jvm.Cond.code (⟨"com/example/libcoffer/libcoffer/core/FileKind", "fromCode", "(B)Lcom/example/libcoffer/libcoffer/core/FileKind;"⟩ : MethodName) prog_10_method_7_code 5 (some (.object "com/example/libcoffer/libcoffer/core/FileKind")) :: ws) ({ frames := 2, cells := 1, slots := 6, locals := 31 } : Room)) (fun a U => a = #[(.int (80 : Int32))] ∧ Z.Warmed39 U.vm ∧ U.heap = h0) (fun _ _ _ _ _ => True) (fun _ U o U' => ∃ v L, o = .returned v ∧ Q1_0 Z va kv ka0 ka1 ka2 ka3 ka4 ka5 h0 n0 v U'.heap L ∧ FrameEnd U o U' L ({ frames := 2, cells := 1, slots := 6, locals := 31 } : Room).cells ({ frames := 2, cells := 1, slots := 6, locals := 31 } : Room).slots) := by
  refine W.bodyOf (y := (⟨"com/example/libcoffer/libcoffer/core/FileKind", "fromCode", "(B)Lcom/example/libcoffer/libcoffer/core/FileKind;"⟩ : MethodName)) (as := #[(.int (80 : Int32))]) (maxL := 5) (Q := Q1_0 Z va kv ka0 ka1 ka2 ka3 ka4 ka5 h0 n0) (Ls := #[.val (.int (80 : Int32)), .unset, .unset, .unset, .unset]) (plainFor_of_name pn_com_example_libcoffer_libcoffer_core_FileKind) (fun m => by first | rfl | (simp [entryFrame, mkF, argsToLocals, Value.category]; done)) ?_
  intro p e s m below meth c T0 C X0 e0
  have N0 := Fr.nil n0
  have K0 := Keep.refl h0 []
  refine W.callS (q := 3) X0 C (W.ww hw 7 rfl) (W.ww hw 8 rfl) (W.ww hw 2 rfl) (W.ww hw 9 rfl) (by decide) (rm2 l Z a0 hw [] va kv ka0 ka1 ka2 ka3 ka4 ka5 h0 n0 Z0 SV EV VV) e0 d1_0 [] [] rfl rfl pd__28_29_5bLcom_2fexample_2flibcoffer_2flibcoffer_2fcore_2fFileKind_3b rfl rfl (by decide) (by decide) (by decide) (by decide) rfl (fun T5 w5 L5 X5 hQ5 => ?_)
  obtain ⟨b5, rfl, NL5, K5, V5⟩ := hQ5
  have N5 := Fr.app N0 NL5
  have EV_6 := EV.keep K5
  have VV_6 := VV.keep K5 nin0
  have F0_6 := F0.keep K5 nin0
  have F1_6 := F1.keep K5 nin0
  have F2_6 := F2.keep K5 nin0
  have F3_6 := F3.keep K5 nin0
  have F4_6 := F4.keep K5 nin0
  have F5_6 := F5.keep K5 nin0
  have KK5 := K0.trans K5 all0
  show W.Go p e below _ (T5.setTop (mkF m 3 #[.val (.int (80 : Int32)), .unset, .unset, .unset, .unset] [(.ref b5)]))
  refine W.astoreN (q := 4) (L' := #[.val (.int (80 : Int32)), .val (.ref b5), .unset, .unset, .unset]) X5 C d1_3 rfl rfl rfl ?_
  refine W.aloadN (q := 5) X5 C d1_4 rfl rfl rfl ?_
  refine W.arraylength (q := 6) X5 C rfl V5 d1_5 rfl ?_
  refine W.istoreN (q := 7) (L' := #[.val (.int (80 : Int32)), .val (.ref b5), .val (.int (6 : Int32)), .unset, .unset]) X5 C d1_6 rfl rfl ?_
  refine W.iconst (q := 8) (v := 0) X5 C d1_7 rfl rfl ?_
  refine W.istoreN (q := 9) (L' := #[.val (.int (80 : Int32)), .val (.ref b5), .val (.int (6 : Int32)), .val (.int (0 : Int32)), .unset]) X5 C d1_8 rfl rfl ?_
  refine W.iloadN (q := 10) X5 C d1_9 rfl rfl ?_
  refine W.iloadN (q := 11) X5 C d1_10 rfl rfl ?_
  refine W.icmpF (q := 14) X5 C d1_11 rfl (by decide : W.cF .ge (0 : Int32) (6 : Int32)) ?_
  refine W.aloadN (q := 15) X5 C d1_14 rfl rfl rfl ?_
  refine W.iloadN (q := 16) X5 C d1_15 rfl rfl ?_
  refine W.aaload (q := 17) X5 C rfl rfl V5 (by decide) (by decide) rfl d1_16 rfl ?_
  refine W.astore (q := 19) (L' := #[.val (.int (80 : Int32)), .val (.ref b5), .val (.int (6 : Int32)), .val (.int (0 : Int32)), .val (.ref ka0)]) X5 C d1_17 rfl rfl rfl ?_
  refine W.aload (q := 21) X5 C d1_19 rfl rfl rfl ?_
  refine W.getF (host := "") (q := 24) X5 C (Or.inl (W.ww hw 27 rfl)) Via.refl rfl F0_6 d1_21 rfl (fun T7 X7 e7 => ?_)
  refine W.iloadN (q := 25) X7 C d1_24 rfl rfl ?_
  refine W.icmpF (q := 28) X7 C d1_25 rfl (by decide : W.cF .ne (80 : Int32) (80 : Int32)) ?_
  refine W.aload (q := 30) X7 C d1_28 rfl rfl rfl ?_
  exact W.retA X7 C rfl e7 rfl d1_30 (by decide) (by decide) ⟨rfl, N5, KK5⟩
theorem d1_31 : decode prog_10_method_7_code 31 = .ok (.iinc 3 1, 3) := by decide +kernel
theorem d1_34 : decode prog_10_method_7_code 34 = .ok (.goto (-25), 3) := by decide +kernel
def Q1_1 (Z : State) (va : Addr) (kv : ClassId) (ka0 ka1 ka2 ka3 ka4 ka5 : Addr) (h0 : Heap) (n0 : Nat) (v : Option Value) (h : Heap) (L : List Loc) : Prop := v = some (.ref ka1) ∧ Fr n0 L ∧ Keep h0 h []
set_option maxRecDepth 65536 in
set_option maxHeartbeats 40000000 in
theorem rm1_1 (l : Launch) (Z : State) (a0 : Array Value) (hw : ∀ d ∈ tables_1, d.before a0 Z = true) (ws : List Jvm.Cond) (va : Addr) (kv : ClassId) (ka0 ka1 ka2 ka3 ka4 ka5 : Addr) (h0 : Heap) (n0 : Nat) (Z0 : n0 ≤ h0.size) (SV : Sta Z h0 "com/example/libcoffer/libcoffer/core/FileKind" "$VALUES" "[Lcom/example/libcoffer/libcoffer/core/FileKind;" (.ref va)) (EV : Exa Z h0 va "[Lcom/example/libcoffer/libcoffer/core/FileKind;") (VV : Arv Z h0 va kv (.object "com/example/libcoffer/libcoffer/core/FileKind") (6 : Int32) [(.ref ka0), (.ref ka1), (.ref ka2), (.ref ka3), (.ref ka4), (.ref ka5)] .null) (F0 : Fld Z h0 ka0 "com/example/libcoffer/libcoffer/core/FileKind" "code" "B" (.int (80 : Int32))) (F1 : Fld Z h0 ka1 "com/example/libcoffer/libcoffer/core/FileKind" "code" "B" (.int (77 : Int32))) (F2 : Fld Z h0 ka2 "com/example/libcoffer/libcoffer/core/FileKind" "code" "B" (.int (71 : Int32))) (F3 : Fld Z h0 ka3 "com/example/libcoffer/libcoffer/core/FileKind" "code" "B" (.int (75 : Int32))) (F4 : Fld Z h0 ka4 "com/example/libcoffer/libcoffer/core/FileKind" "code" "B" (.int (83 : Int32))) (F5 : Fld Z h0 ka5 "com/example/libcoffer/libcoffer/core/FileKind" "code" "B" (.int (82 : Int32))) :
    MetFree l (⟨"com/example/libcoffer/libcoffer/core/FileKind", "fromCode", "(B)Lcom/example/libcoffer/libcoffer/core/FileKind;"⟩ : MethodName) (head1 (Jvm.Cond.code (⟨"com/example/libcoffer/libcoffer/core/FileKind", "fromCode", "(B)Lcom/example/libcoffer/libcoffer/core/FileKind;"⟩ : MethodName) prog_10_method_7_code 5 (some (.object "com/example/libcoffer/libcoffer/core/FileKind")) :: ws) ({ frames := 2, cells := 1, slots := 6, locals := 31 } : Room)) (fun a U => a = #[(.int (77 : Int32))] ∧ Z.Warmed39 U.vm ∧ U.heap = h0) (fun _ _ _ _ _ => True) (fun _ U o U' => ∃ v L, o = .returned v ∧ Q1_1 Z va kv ka0 ka1 ka2 ka3 ka4 ka5 h0 n0 v U'.heap L ∧ FrameEnd U o U' L ({ frames := 2, cells := 1, slots := 6, locals := 31 } : Room).cells ({ frames := 2, cells := 1, slots := 6, locals := 31 } : Room).slots) := by
  refine W.bodyOf (y := (⟨"com/example/libcoffer/libcoffer/core/FileKind", "fromCode", "(B)Lcom/example/libcoffer/libcoffer/core/FileKind;"⟩ : MethodName)) (as := #[(.int (77 : Int32))]) (maxL := 5) (Q := Q1_1 Z va kv ka0 ka1 ka2 ka3 ka4 ka5 h0 n0) (Ls := #[.val (.int (77 : Int32)), .unset, .unset, .unset, .unset]) (plainFor_of_name pn_com_example_libcoffer_libcoffer_core_FileKind) (fun m => by first | rfl | (simp [entryFrame, mkF, argsToLocals, Value.category]; done)) ?_
  intro p e s m below meth c T0 C X0 e0
  have N0 := Fr.nil n0
  have K0 := Keep.refl h0 []
  refine W.callS (q := 3) X0 C (W.ww hw 7 rfl) (W.ww hw 8 rfl) (W.ww hw 2 rfl) (W.ww hw 9 rfl) (by decide) (rm2 l Z a0 hw [] va kv ka0 ka1 ka2 ka3 ka4 ka5 h0 n0 Z0 SV EV VV) e0 d1_0 [] [] rfl rfl pd__28_29_5bLcom_2fexample_2flibcoffer_2flibcoffer_2fcore_2fFileKind_3b rfl rfl (by decide) (by decide) (by decide) (by decide) rfl (fun T8 w8 L8 X8 hQ8 => ?_)
  obtain ⟨b8, rfl, NL8, K8, V8⟩ := hQ8
  have N8 := Fr.app N0 NL8
  have EV_9 := EV.keep K8
  have VV_9 := VV.keep K8 nin0
  have F0_9 := F0.keep K8 nin0
  have F1_9 := F1.keep K8 nin0
  have F2_9 := F2.keep K8 nin0
  have F3_9 := F3.keep K8 nin0
  have F4_9 := F4.keep K8 nin0
  have F5_9 := F5.keep K8 nin0
  have KK8 := K0.trans K8 all0
  show W.Go p e below _ (T8.setTop (mkF m 3 #[.val (.int (77 : Int32)), .unset, .unset, .unset, .unset] [(.ref b8)]))
  refine W.astoreN (q := 4) (L' := #[.val (.int (77 : Int32)), .val (.ref b8), .unset, .unset, .unset]) X8 C d1_3 rfl rfl rfl ?_
  refine W.aloadN (q := 5) X8 C d1_4 rfl rfl rfl ?_
  refine W.arraylength (q := 6) X8 C rfl V8 d1_5 rfl ?_
  refine W.istoreN (q := 7) (L' := #[.val (.int (77 : Int32)), .val (.ref b8), .val (.int (6 : Int32)), .unset, .unset]) X8 C d1_6 rfl rfl ?_
  refine W.iconst (q := 8) (v := 0) X8 C d1_7 rfl rfl ?_
  refine W.istoreN (q := 9) (L' := #[.val (.int (77 : Int32)), .val (.ref b8), .val (.int (6 : Int32)), .val (.int (0 : Int32)), .unset]) X8 C d1_8 rfl rfl ?_
  refine W.iloadN (q := 10) X8 C d1_9 rfl rfl ?_
  refine W.iloadN (q := 11) X8 C d1_10 rfl rfl ?_
  refine W.icmpF (q := 14) X8 C d1_11 rfl (by decide : W.cF .ge (0 : Int32) (6 : Int32)) ?_
  refine W.aloadN (q := 15) X8 C d1_14 rfl rfl rfl ?_
  refine W.iloadN (q := 16) X8 C d1_15 rfl rfl ?_
  refine W.aaload (q := 17) X8 C rfl rfl V8 (by decide) (by decide) rfl d1_16 rfl ?_
  refine W.astore (q := 19) (L' := #[.val (.int (77 : Int32)), .val (.ref b8), .val (.int (6 : Int32)), .val (.int (0 : Int32)), .val (.ref ka0)]) X8 C d1_17 rfl rfl rfl ?_
  refine W.aload (q := 21) X8 C d1_19 rfl rfl rfl ?_
  refine W.getF (host := "") (q := 24) X8 C (Or.inl (W.ww hw 27 rfl)) Via.refl rfl F0_9 d1_21 rfl (fun T10 X10 e10 => ?_)
  refine W.iloadN (q := 25) X10 C d1_24 rfl rfl ?_
  refine W.icmpT (q := 31) X10 C d1_25 (by decide) (by decide) (by decide : W.cT .ne (80 : Int32) (77 : Int32)) ?_
  refine W.iinc (q := 34) (L' := #[.val (.int (77 : Int32)), .val (.ref b8), .val (.int (6 : Int32)), .val (.int (1 : Int32)), .val (.ref ka0)]) X10 C d1_31 rfl (by decide) rfl rfl ?_
  refine W.goto (q := 9) X10 C d1_34 (by decide) (by decide) ?_
  refine W.iloadN (q := 10) X10 C d1_9 rfl rfl ?_
  refine W.iloadN (q := 11) X10 C d1_10 rfl rfl ?_
  refine W.icmpF (q := 14) X10 C d1_11 rfl (by decide : W.cF .ge (1 : Int32) (6 : Int32)) ?_
  refine W.aloadN (q := 15) X10 C d1_14 rfl rfl rfl ?_
  refine W.iloadN (q := 16) X10 C d1_15 rfl rfl ?_
  refine W.aaload (q := 17) X10 C e10 rfl V8 (by decide) (by decide) rfl d1_16 rfl ?_
  refine W.astore (q := 19) (L' := #[.val (.int (77 : Int32)), .val (.ref b8), .val (.int (6 : Int32)), .val (.int (1 : Int32)), .val (.ref ka1)]) X10 C d1_17 rfl rfl rfl ?_
  refine W.aload (q := 21) X10 C d1_19 rfl rfl rfl ?_
  refine W.getF (host := "") (q := 24) X10 C (Or.inl (W.ww hw 27 rfl)) Via.refl e10 F1_9 d1_21 rfl (fun T11 X11 e11 => ?_)
  refine W.iloadN (q := 25) X11 C d1_24 rfl rfl ?_
  refine W.icmpF (q := 28) X11 C d1_25 rfl (by decide : W.cF .ne (77 : Int32) (77 : Int32)) ?_
  refine W.aload (q := 30) X11 C d1_28 rfl rfl rfl ?_
  exact W.retA X11 C rfl e11 rfl d1_30 (by decide) (by decide) ⟨rfl, N8, KK8⟩
def Q1_2 (Z : State) (va : Addr) (kv : ClassId) (ka0 ka1 ka2 ka3 ka4 ka5 : Addr) (h0 : Heap) (n0 : Nat) (v : Option Value) (h : Heap) (L : List Loc) : Prop := v = some (.ref ka2) ∧ Fr n0 L ∧ Keep h0 h []
set_option maxRecDepth 65536 in
set_option maxHeartbeats 40000000 in
theorem rm1_2 (l : Launch) (Z : State) (a0 : Array Value) (hw : ∀ d ∈ tables_1, d.before a0 Z = true) (ws : List Jvm.Cond) (va : Addr) (kv : ClassId) (ka0 ka1 ka2 ka3 ka4 ka5 : Addr) (h0 : Heap) (n0 : Nat) (Z0 : n0 ≤ h0.size) (SV : Sta Z h0 "com/example/libcoffer/libcoffer/core/FileKind" "$VALUES" "[Lcom/example/libcoffer/libcoffer/core/FileKind;" (.ref va)) (EV : Exa Z h0 va "[Lcom/example/libcoffer/libcoffer/core/FileKind;") (VV : Arv Z h0 va kv (.object "com/example/libcoffer/libcoffer/core/FileKind") (6 : Int32) [(.ref ka0), (.ref ka1), (.ref ka2), (.ref ka3), (.ref ka4), (.ref ka5)] .null) (F0 : Fld Z h0 ka0 "com/example/libcoffer/libcoffer/core/FileKind" "code" "B" (.int (80 : Int32))) (F1 : Fld Z h0 ka1 "com/example/libcoffer/libcoffer/core/FileKind" "code" "B" (.int (77 : Int32))) (F2 : Fld Z h0 ka2 "com/example/libcoffer/libcoffer/core/FileKind" "code" "B" (.int (71 : Int32))) (F3 : Fld Z h0 ka3 "com/example/libcoffer/libcoffer/core/FileKind" "code" "B" (.int (75 : Int32))) (F4 : Fld Z h0 ka4 "com/example/libcoffer/libcoffer/core/FileKind" "code" "B" (.int (83 : Int32))) (F5 : Fld Z h0 ka5 "com/example/libcoffer/libcoffer/core/FileKind" "code" "B" (.int (82 : Int32))) :
    MetFree l (⟨"com/example/libcoffer/libcoffer/core/FileKind", "fromCode", "(B)Lcom/example/libcoffer/libcoffer/core/FileKind;"⟩ : MethodName) (head1 (Jvm.Cond.code (⟨"com/example/libcoffer/libcoffer/core/FileKind", "fromCode", "(B)Lcom/example/libcoffer/libcoffer/core/FileKind;"⟩ : MethodName) prog_10_method_7_code 5 (some (.object "com/example/libcoffer/libcoffer/core/FileKind")) :: ws) ({ frames := 2, cells := 1, slots := 6, locals := 31 } : Room)) (fun a U => a = #[(.int (71 : Int32))] ∧ Z.Warmed39 U.vm ∧ U.heap = h0) (fun _ _ _ _ _ => True) (fun _ U o U' => ∃ v L, o = .returned v ∧ Q1_2 Z va kv ka0 ka1 ka2 ka3 ka4 ka5 h0 n0 v U'.heap L ∧ FrameEnd U o U' L ({ frames := 2, cells := 1, slots := 6, locals := 31 } : Room).cells ({ frames := 2, cells := 1, slots := 6, locals := 31 } : Room).slots) := by
  refine W.bodyOf (y := (⟨"com/example/libcoffer/libcoffer/core/FileKind", "fromCode", "(B)Lcom/example/libcoffer/libcoffer/core/FileKind;"⟩ : MethodName)) (as := #[(.int (71 : Int32))]) (maxL := 5) (Q := Q1_2 Z va kv ka0 ka1 ka2 ka3 ka4 ka5 h0 n0) (Ls := #[.val (.int (71 : Int32)), .unset, .unset, .unset, .unset]) (plainFor_of_name pn_com_example_libcoffer_libcoffer_core_FileKind) (fun m => by first | rfl | (simp [entryFrame, mkF, argsToLocals, Value.category]; done)) ?_
  intro p e s m below meth c T0 C X0 e0
  have N0 := Fr.nil n0
  have K0 := Keep.refl h0 []
  refine W.callS (q := 3) X0 C (W.ww hw 7 rfl) (W.ww hw 8 rfl) (W.ww hw 2 rfl) (W.ww hw 9 rfl) (by decide) (rm2 l Z a0 hw [] va kv ka0 ka1 ka2 ka3 ka4 ka5 h0 n0 Z0 SV EV VV) e0 d1_0 [] [] rfl rfl pd__28_29_5bLcom_2fexample_2flibcoffer_2flibcoffer_2fcore_2fFileKind_3b rfl rfl (by decide) (by decide) (by decide) (by decide) rfl (fun T12 w12 L12 X12 hQ12 => ?_)
  obtain ⟨b12, rfl, NL12, K12, V12⟩ := hQ12
  have N12 := Fr.app N0 NL12
  have EV_13 := EV.keep K12
  have VV_13 := VV.keep K12 nin0
  have F0_13 := F0.keep K12 nin0
  have F1_13 := F1.keep K12 nin0
  have F2_13 := F2.keep K12 nin0
  have F3_13 := F3.keep K12 nin0
  have F4_13 := F4.keep K12 nin0
  have F5_13 := F5.keep K12 nin0
  have KK12 := K0.trans K12 all0
  show W.Go p e below _ (T12.setTop (mkF m 3 #[.val (.int (71 : Int32)), .unset, .unset, .unset, .unset] [(.ref b12)]))
  refine W.astoreN (q := 4) (L' := #[.val (.int (71 : Int32)), .val (.ref b12), .unset, .unset, .unset]) X12 C d1_3 rfl rfl rfl ?_
  refine W.aloadN (q := 5) X12 C d1_4 rfl rfl rfl ?_
  refine W.arraylength (q := 6) X12 C rfl V12 d1_5 rfl ?_
  refine W.istoreN (q := 7) (L' := #[.val (.int (71 : Int32)), .val (.ref b12), .val (.int (6 : Int32)), .unset, .unset]) X12 C d1_6 rfl rfl ?_
  refine W.iconst (q := 8) (v := 0) X12 C d1_7 rfl rfl ?_
  refine W.istoreN (q := 9) (L' := #[.val (.int (71 : Int32)), .val (.ref b12), .val (.int (6 : Int32)), .val (.int (0 : Int32)), .unset]) X12 C d1_8 rfl rfl ?_
  refine W.iloadN (q := 10) X12 C d1_9 rfl rfl ?_
  refine W.iloadN (q := 11) X12 C d1_10 rfl rfl ?_
  refine W.icmpF (q := 14) X12 C d1_11 rfl (by decide : W.cF .ge (0 : Int32) (6 : Int32)) ?_
  refine W.aloadN (q := 15) X12 C d1_14 rfl rfl rfl ?_
  refine W.iloadN (q := 16) X12 C d1_15 rfl rfl ?_
  refine W.aaload (q := 17) X12 C rfl rfl V12 (by decide) (by decide) rfl d1_16 rfl ?_
  refine W.astore (q := 19) (L' := #[.val (.int (71 : Int32)), .val (.ref b12), .val (.int (6 : Int32)), .val (.int (0 : Int32)), .val (.ref ka0)]) X12 C d1_17 rfl rfl rfl ?_
  refine W.aload (q := 21) X12 C d1_19 rfl rfl rfl ?_
  refine W.getF (host := "") (q := 24) X12 C (Or.inl (W.ww hw 27 rfl)) Via.refl rfl F0_13 d1_21 rfl (fun T14 X14 e14 => ?_)
  refine W.iloadN (q := 25) X14 C d1_24 rfl rfl ?_
  refine W.icmpT (q := 31) X14 C d1_25 (by decide) (by decide) (by decide : W.cT .ne (80 : Int32) (71 : Int32)) ?_
  refine W.iinc (q := 34) (L' := #[.val (.int (71 : Int32)), .val (.ref b12), .val (.int (6 : Int32)), .val (.int (1 : Int32)), .val (.ref ka0)]) X14 C d1_31 rfl (by decide) rfl rfl ?_
  refine W.goto (q := 9) X14 C d1_34 (by decide) (by decide) ?_
  refine W.iloadN (q := 10) X14 C d1_9 rfl rfl ?_
  refine W.iloadN (q := 11) X14 C d1_10 rfl rfl ?_
  refine W.icmpF (q := 14) X14 C d1_11 rfl (by decide : W.cF .ge (1 : Int32) (6 : Int32)) ?_
  refine W.aloadN (q := 15) X14 C d1_14 rfl rfl rfl ?_
  refine W.iloadN (q := 16) X14 C d1_15 rfl rfl ?_
  refine W.aaload (q := 17) X14 C e14 rfl V12 (by decide) (by decide) rfl d1_16 rfl ?_
  refine W.astore (q := 19) (L' := #[.val (.int (71 : Int32)), .val (.ref b12), .val (.int (6 : Int32)), .val (.int (1 : Int32)), .val (.ref ka1)]) X14 C d1_17 rfl rfl rfl ?_
  refine W.aload (q := 21) X14 C d1_19 rfl rfl rfl ?_
  refine W.getF (host := "") (q := 24) X14 C (Or.inl (W.ww hw 27 rfl)) Via.refl e14 F1_13 d1_21 rfl (fun T15 X15 e15 => ?_)
  refine W.iloadN (q := 25) X15 C d1_24 rfl rfl ?_
  refine W.icmpT (q := 31) X15 C d1_25 (by decide) (by decide) (by decide : W.cT .ne (77 : Int32) (71 : Int32)) ?_
  refine W.iinc (q := 34) (L' := #[.val (.int (71 : Int32)), .val (.ref b12), .val (.int (6 : Int32)), .val (.int (2 : Int32)), .val (.ref ka1)]) X15 C d1_31 rfl (by decide) rfl rfl ?_
  refine W.goto (q := 9) X15 C d1_34 (by decide) (by decide) ?_
  refine W.iloadN (q := 10) X15 C d1_9 rfl rfl ?_
  refine W.iloadN (q := 11) X15 C d1_10 rfl rfl ?_
  refine W.icmpF (q := 14) X15 C d1_11 rfl (by decide : W.cF .ge (2 : Int32) (6 : Int32)) ?_
  refine W.aloadN (q := 15) X15 C d1_14 rfl rfl rfl ?_
  refine W.iloadN (q := 16) X15 C d1_15 rfl rfl ?_
  refine W.aaload (q := 17) X15 C e15 rfl V12 (by decide) (by decide) rfl d1_16 rfl ?_
  refine W.astore (q := 19) (L' := #[.val (.int (71 : Int32)), .val (.ref b12), .val (.int (6 : Int32)), .val (.int (2 : Int32)), .val (.ref ka2)]) X15 C d1_17 rfl rfl rfl ?_
  refine W.aload (q := 21) X15 C d1_19 rfl rfl rfl ?_
  refine W.getF (host := "") (q := 24) X15 C (Or.inl (W.ww hw 27 rfl)) Via.refl e15 F2_13 d1_21 rfl (fun T16 X16 e16 => ?_)
  refine W.iloadN (q := 25) X16 C d1_24 rfl rfl ?_
  refine W.icmpF (q := 28) X16 C d1_25 rfl (by decide : W.cF .ne (71 : Int32) (71 : Int32)) ?_
  refine W.aload (q := 30) X16 C d1_28 rfl rfl rfl ?_
  exact W.retA X16 C rfl e16 rfl d1_30 (by decide) (by decide) ⟨rfl, N12, KK12⟩
def Q1_3 (Z : State) (va : Addr) (kv : ClassId) (ka0 ka1 ka2 ka3 ka4 ka5 : Addr) (h0 : Heap) (n0 : Nat) (v : Option Value) (h : Heap) (L : List Loc) : Prop := v = some (.ref ka3) ∧ Fr n0 L ∧ Keep h0 h []
set_option maxRecDepth 65536 in
set_option maxHeartbeats 40000000 in
theorem rm1_3 (l : Launch) (Z : State) (a0 : Array Value) (hw : ∀ d ∈ tables_1, d.before a0 Z = true) (ws : List Jvm.Cond) (va : Addr) (kv : ClassId) (ka0 ka1 ka2 ka3 ka4 ka5 : Addr) (h0 : Heap) (n0 : Nat) (Z0 : n0 ≤ h0.size) (SV : Sta Z h0 "com/example/libcoffer/libcoffer/core/FileKind" "$VALUES" "[Lcom/example/libcoffer/libcoffer/core/FileKind;" (.ref va)) (EV : Exa Z h0 va "[Lcom/example/libcoffer/libcoffer/core/FileKind;") (VV : Arv Z h0 va kv (.object "com/example/libcoffer/libcoffer/core/FileKind") (6 : Int32) [(.ref ka0), (.ref ka1), (.ref ka2), (.ref ka3), (.ref ka4), (.ref ka5)] .null) (F0 : Fld Z h0 ka0 "com/example/libcoffer/libcoffer/core/FileKind" "code" "B" (.int (80 : Int32))) (F1 : Fld Z h0 ka1 "com/example/libcoffer/libcoffer/core/FileKind" "code" "B" (.int (77 : Int32))) (F2 : Fld Z h0 ka2 "com/example/libcoffer/libcoffer/core/FileKind" "code" "B" (.int (71 : Int32))) (F3 : Fld Z h0 ka3 "com/example/libcoffer/libcoffer/core/FileKind" "code" "B" (.int (75 : Int32))) (F4 : Fld Z h0 ka4 "com/example/libcoffer/libcoffer/core/FileKind" "code" "B" (.int (83 : Int32))) (F5 : Fld Z h0 ka5 "com/example/libcoffer/libcoffer/core/FileKind" "code" "B" (.int (82 : Int32))) :
    MetFree l (⟨"com/example/libcoffer/libcoffer/core/FileKind", "fromCode", "(B)Lcom/example/libcoffer/libcoffer/core/FileKind;"⟩ : MethodName) (head1 (Jvm.Cond.code (⟨"com/example/libcoffer/libcoffer/core/FileKind", "fromCode", "(B)Lcom/example/libcoffer/libcoffer/core/FileKind;"⟩ : MethodName) prog_10_method_7_code 5 (some (.object "com/example/libcoffer/libcoffer/core/FileKind")) :: ws) ({ frames := 2, cells := 1, slots := 6, locals := 31 } : Room)) (fun a U => a = #[(.int (75 : Int32))] ∧ Z.Warmed39 U.vm ∧ U.heap = h0) (fun _ _ _ _ _ => True) (fun _ U o U' => ∃ v L, o = .returned v ∧ Q1_3 Z va kv ka0 ka1 ka2 ka3 ka4 ka5 h0 n0 v U'.heap L ∧ FrameEnd U o U' L ({ frames := 2, cells := 1, slots := 6, locals := 31 } : Room).cells ({ frames := 2, cells := 1, slots := 6, locals := 31 } : Room).slots) := by
  refine W.bodyOf (y := (⟨"com/example/libcoffer/libcoffer/core/FileKind", "fromCode", "(B)Lcom/example/libcoffer/libcoffer/core/FileKind;"⟩ : MethodName)) (as := #[(.int (75 : Int32))]) (maxL := 5) (Q := Q1_3 Z va kv ka0 ka1 ka2 ka3 ka4 ka5 h0 n0) (Ls := #[.val (.int (75 : Int32)), .unset, .unset, .unset, .unset]) (plainFor_of_name pn_com_example_libcoffer_libcoffer_core_FileKind) (fun m => by first | rfl | (simp [entryFrame, mkF, argsToLocals, Value.category]; done)) ?_
  intro p e s m below meth c T0 C X0 e0
  have N0 := Fr.nil n0
  have K0 := Keep.refl h0 []
  refine W.callS (q := 3) X0 C (W.ww hw 7 rfl) (W.ww hw 8 rfl) (W.ww hw 2 rfl) (W.ww hw 9 rfl) (by decide) (rm2 l Z a0 hw [] va kv ka0 ka1 ka2 ka3 ka4 ka5 h0 n0 Z0 SV EV VV) e0 d1_0 [] [] rfl rfl pd__28_29_5bLcom_2fexample_2flibcoffer_2flibcoffer_2fcore_2fFileKind_3b rfl rfl (by decide) (by decide) (by decide) (by decide) rfl (fun T17 w17 L17 X17 hQ17 => ?_)
  obtain ⟨b17, rfl, NL17, K17, V17⟩ := hQ17
  have N17 := Fr.app N0 NL17
  have EV_18 := EV.keep K17
  have VV_18 := VV.keep K17 nin0
  have F0_18 := F0.keep K17 nin0
  have F1_18 := F1.keep K17 nin0
  have F2_18 := F2.keep K17 nin0
  have F3_18 := F3.keep K17 nin0
  have F4_18 := F4.keep K17 nin0
  have F5_18 := F5.keep K17 nin0
  have KK17 := K0.trans K17 all0
  show W.Go p e below _ (T17.setTop (mkF m 3 #[.val (.int (75 : Int32)), .unset, .unset, .unset, .unset] [(.ref b17)]))
  refine W.astoreN (q := 4) (L' := #[.val (.int (75 : Int32)), .val (.ref b17), .unset, .unset, .unset]) X17 C d1_3 rfl rfl rfl ?_
  refine W.aloadN (q := 5) X17 C d1_4 rfl rfl rfl ?_
  refine W.arraylength (q := 6) X17 C rfl V17 d1_5 rfl ?_
  refine W.istoreN (q := 7) (L' := #[.val (.int (75 : Int32)), .val (.ref b17), .val (.int (6 : Int32)), .unset, .unset]) X17 C d1_6 rfl rfl ?_
  refine W.iconst (q := 8) (v := 0) X17 C d1_7 rfl rfl ?_
  refine W.istoreN (q := 9) (L' := #[.val (.int (75 : Int32)), .val (.ref b17), .val (.int (6 : Int32)), .val (.int (0 : Int32)), .unset]) X17 C d1_8 rfl rfl ?_
  refine W.iloadN (q := 10) X17 C d1_9 rfl rfl ?_
  refine W.iloadN (q := 11) X17 C d1_10 rfl rfl ?_
  refine W.icmpF (q := 14) X17 C d1_11 rfl (by decide : W.cF .ge (0 : Int32) (6 : Int32)) ?_
  refine W.aloadN (q := 15) X17 C d1_14 rfl rfl rfl ?_
  refine W.iloadN (q := 16) X17 C d1_15 rfl rfl ?_
  refine W.aaload (q := 17) X17 C rfl rfl V17 (by decide) (by decide) rfl d1_16 rfl ?_
  refine W.astore (q := 19) (L' := #[.val (.int (75 : Int32)), .val (.ref b17), .val (.int (6 : Int32)), .val (.int (0 : Int32)), .val (.ref ka0)]) X17 C d1_17 rfl rfl rfl ?_
  refine W.aload (q := 21) X17 C d1_19 rfl rfl rfl ?_
  refine W.getF (host := "") (q := 24) X17 C (Or.inl (W.ww hw 27 rfl)) Via.refl rfl F0_18 d1_21 rfl (fun T19 X19 e19 => ?_)
  refine W.iloadN (q := 25) X19 C d1_24 rfl rfl ?_
  refine W.icmpT (q := 31) X19 C d1_25 (by decide) (by decide) (by decide : W.cT .ne (80 : Int32) (75 : Int32)) ?_
  refine W.iinc (q := 34) (L' := #[.val (.int (75 : Int32)), .val (.ref b17), .val (.int (6 : Int32)), .val (.int (1 : Int32)), .val (.ref ka0)]) X19 C d1_31 rfl (by decide) rfl rfl ?_
  refine W.goto (q := 9) X19 C d1_34 (by decide) (by decide) ?_
  refine W.iloadN (q := 10) X19 C d1_9 rfl rfl ?_
  refine W.iloadN (q := 11) X19 C d1_10 rfl rfl ?_
  refine W.icmpF (q := 14) X19 C d1_11 rfl (by decide : W.cF .ge (1 : Int32) (6 : Int32)) ?_
  refine W.aloadN (q := 15) X19 C d1_14 rfl rfl rfl ?_
  refine W.iloadN (q := 16) X19 C d1_15 rfl rfl ?_
  refine W.aaload (q := 17) X19 C e19 rfl V17 (by decide) (by decide) rfl d1_16 rfl ?_
  refine W.astore (q := 19) (L' := #[.val (.int (75 : Int32)), .val (.ref b17), .val (.int (6 : Int32)), .val (.int (1 : Int32)), .val (.ref ka1)]) X19 C d1_17 rfl rfl rfl ?_
  refine W.aload (q := 21) X19 C d1_19 rfl rfl rfl ?_
  refine W.getF (host := "") (q := 24) X19 C (Or.inl (W.ww hw 27 rfl)) Via.refl e19 F1_18 d1_21 rfl (fun T20 X20 e20 => ?_)
  refine W.iloadN (q := 25) X20 C d1_24 rfl rfl ?_
  refine W.icmpT (q := 31) X20 C d1_25 (by decide) (by decide) (by decide : W.cT .ne (77 : Int32) (75 : Int32)) ?_
  refine W.iinc (q := 34) (L' := #[.val (.int (75 : Int32)), .val (.ref b17), .val (.int (6 : Int32)), .val (.int (2 : Int32)), .val (.ref ka1)]) X20 C d1_31 rfl (by decide) rfl rfl ?_
  refine W.goto (q := 9) X20 C d1_34 (by decide) (by decide) ?_
  refine W.iloadN (q := 10) X20 C d1_9 rfl rfl ?_
  refine W.iloadN (q := 11) X20 C d1_10 rfl rfl ?_
  refine W.icmpF (q := 14) X20 C d1_11 rfl (by decide : W.cF .ge (2 : Int32) (6 : Int32)) ?_
  refine W.aloadN (q := 15) X20 C d1_14 rfl rfl rfl ?_
  refine W.iloadN (q := 16) X20 C d1_15 rfl rfl ?_
  refine W.aaload (q := 17) X20 C e20 rfl V17 (by decide) (by decide) rfl d1_16 rfl ?_
  refine W.astore (q := 19) (L' := #[.val (.int (75 : Int32)), .val (.ref b17), .val (.int (6 : Int32)), .val (.int (2 : Int32)), .val (.ref ka2)]) X20 C d1_17 rfl rfl rfl ?_
  refine W.aload (q := 21) X20 C d1_19 rfl rfl rfl ?_
  refine W.getF (host := "") (q := 24) X20 C (Or.inl (W.ww hw 27 rfl)) Via.refl e20 F2_18 d1_21 rfl (fun T21 X21 e21 => ?_)
  refine W.iloadN (q := 25) X21 C d1_24 rfl rfl ?_
  refine W.icmpT (q := 31) X21 C d1_25 (by decide) (by decide) (by decide : W.cT .ne (71 : Int32) (75 : Int32)) ?_
  refine W.iinc (q := 34) (L' := #[.val (.int (75 : Int32)), .val (.ref b17), .val (.int (6 : Int32)), .val (.int (3 : Int32)), .val (.ref ka2)]) X21 C d1_31 rfl (by decide) rfl rfl ?_
  refine W.goto (q := 9) X21 C d1_34 (by decide) (by decide) ?_
  refine W.iloadN (q := 10) X21 C d1_9 rfl rfl ?_
  refine W.iloadN (q := 11) X21 C d1_10 rfl rfl ?_
  refine W.icmpF (q := 14) X21 C d1_11 rfl (by decide : W.cF .ge (3 : Int32) (6 : Int32)) ?_
  refine W.aloadN (q := 15) X21 C d1_14 rfl rfl rfl ?_
  refine W.iloadN (q := 16) X21 C d1_15 rfl rfl ?_
  refine W.aaload (q := 17) X21 C e21 rfl V17 (by decide) (by decide) rfl d1_16 rfl ?_
  refine W.astore (q := 19) (L' := #[.val (.int (75 : Int32)), .val (.ref b17), .val (.int (6 : Int32)), .val (.int (3 : Int32)), .val (.ref ka3)]) X21 C d1_17 rfl rfl rfl ?_
  refine W.aload (q := 21) X21 C d1_19 rfl rfl rfl ?_
  refine W.getF (host := "") (q := 24) X21 C (Or.inl (W.ww hw 27 rfl)) Via.refl e21 F3_18 d1_21 rfl (fun T22 X22 e22 => ?_)
  refine W.iloadN (q := 25) X22 C d1_24 rfl rfl ?_
  refine W.icmpF (q := 28) X22 C d1_25 rfl (by decide : W.cF .ne (75 : Int32) (75 : Int32)) ?_
  refine W.aload (q := 30) X22 C d1_28 rfl rfl rfl ?_
  exact W.retA X22 C rfl e22 rfl d1_30 (by decide) (by decide) ⟨rfl, N17, KK17⟩
def Q1_4 (Z : State) (va : Addr) (kv : ClassId) (ka0 ka1 ka2 ka3 ka4 ka5 : Addr) (h0 : Heap) (n0 : Nat) (v : Option Value) (h : Heap) (L : List Loc) : Prop := v = some (.ref ka4) ∧ Fr n0 L ∧ Keep h0 h []
set_option maxRecDepth 65536 in
set_option maxHeartbeats 40000000 in
theorem rm1_4 (l : Launch) (Z : State) (a0 : Array Value) (hw : ∀ d ∈ tables_1, d.before a0 Z = true) (ws : List Jvm.Cond) (va : Addr) (kv : ClassId) (ka0 ka1 ka2 ka3 ka4 ka5 : Addr) (h0 : Heap) (n0 : Nat) (Z0 : n0 ≤ h0.size) (SV : Sta Z h0 "com/example/libcoffer/libcoffer/core/FileKind" "$VALUES" "[Lcom/example/libcoffer/libcoffer/core/FileKind;" (.ref va)) (EV : Exa Z h0 va "[Lcom/example/libcoffer/libcoffer/core/FileKind;") (VV : Arv Z h0 va kv (.object "com/example/libcoffer/libcoffer/core/FileKind") (6 : Int32) [(.ref ka0), (.ref ka1), (.ref ka2), (.ref ka3), (.ref ka4), (.ref ka5)] .null) (F0 : Fld Z h0 ka0 "com/example/libcoffer/libcoffer/core/FileKind" "code" "B" (.int (80 : Int32))) (F1 : Fld Z h0 ka1 "com/example/libcoffer/libcoffer/core/FileKind" "code" "B" (.int (77 : Int32))) (F2 : Fld Z h0 ka2 "com/example/libcoffer/libcoffer/core/FileKind" "code" "B" (.int (71 : Int32))) (F3 : Fld Z h0 ka3 "com/example/libcoffer/libcoffer/core/FileKind" "code" "B" (.int (75 : Int32))) (F4 : Fld Z h0 ka4 "com/example/libcoffer/libcoffer/core/FileKind" "code" "B" (.int (83 : Int32))) (F5 : Fld Z h0 ka5 "com/example/libcoffer/libcoffer/core/FileKind" "code" "B" (.int (82 : Int32))) :
    MetFree l (⟨"com/example/libcoffer/libcoffer/core/FileKind", "fromCode", "(B)Lcom/example/libcoffer/libcoffer/core/FileKind;"⟩ : MethodName) (head1 (Jvm.Cond.code (⟨"com/example/libcoffer/libcoffer/core/FileKind", "fromCode", "(B)Lcom/example/libcoffer/libcoffer/core/FileKind;"⟩ : MethodName) prog_10_method_7_code 5 (some (.object "com/example/libcoffer/libcoffer/core/FileKind")) :: ws) ({ frames := 2, cells := 1, slots := 6, locals := 31 } : Room)) (fun a U => a = #[(.int (83 : Int32))] ∧ Z.Warmed39 U.vm ∧ U.heap = h0) (fun _ _ _ _ _ => True) (fun _ U o U' => ∃ v L, o = .returned v ∧ Q1_4 Z va kv ka0 ka1 ka2 ka3 ka4 ka5 h0 n0 v U'.heap L ∧ FrameEnd U o U' L ({ frames := 2, cells := 1, slots := 6, locals := 31 } : Room).cells ({ frames := 2, cells := 1, slots := 6, locals := 31 } : Room).slots) := by
  refine W.bodyOf (y := (⟨"com/example/libcoffer/libcoffer/core/FileKind", "fromCode", "(B)Lcom/example/libcoffer/libcoffer/core/FileKind;"⟩ : MethodName)) (as := #[(.int (83 : Int32))]) (maxL := 5) (Q := Q1_4 Z va kv ka0 ka1 ka2 ka3 ka4 ka5 h0 n0) (Ls := #[.val (.int (83 : Int32)), .unset, .unset, .unset, .unset]) (plainFor_of_name pn_com_example_libcoffer_libcoffer_core_FileKind) (fun m => by first | rfl | (simp [entryFrame, mkF, argsToLocals, Value.category]; done)) ?_
  intro p e s m below meth c T0 C X0 e0
  have N0 := Fr.nil n0
  have K0 := Keep.refl h0 []
  refine W.callS (q := 3) X0 C (W.ww hw 7 rfl) (W.ww hw 8 rfl) (W.ww hw 2 rfl) (W.ww hw 9 rfl) (by decide) (rm2 l Z a0 hw [] va kv ka0 ka1 ka2 ka3 ka4 ka5 h0 n0 Z0 SV EV VV) e0 d1_0 [] [] rfl rfl pd__28_29_5bLcom_2fexample_2flibcoffer_2flibcoffer_2fcore_2fFileKind_3b rfl rfl (by decide) (by decide) (by decide) (by decide) rfl (fun T23 w23 L23 X23 hQ23 => ?_)
  obtain ⟨b23, rfl, NL23, K23, V23⟩ := hQ23
  have N23 := Fr.app N0 NL23
  have EV_24 := EV.keep K23
  have VV_24 := VV.keep K23 nin0
  have F0_24 := F0.keep K23 nin0
  have F1_24 := F1.keep K23 nin0
  have F2_24 := F2.keep K23 nin0
  have F3_24 := F3.keep K23 nin0
  have F4_24 := F4.keep K23 nin0
  have F5_24 := F5.keep K23 nin0
  have KK23 := K0.trans K23 all0
  show W.Go p e below _ (T23.setTop (mkF m 3 #[.val (.int (83 : Int32)), .unset, .unset, .unset, .unset] [(.ref b23)]))
  refine W.astoreN (q := 4) (L' := #[.val (.int (83 : Int32)), .val (.ref b23), .unset, .unset, .unset]) X23 C d1_3 rfl rfl rfl ?_
  refine W.aloadN (q := 5) X23 C d1_4 rfl rfl rfl ?_
  refine W.arraylength (q := 6) X23 C rfl V23 d1_5 rfl ?_
  refine W.istoreN (q := 7) (L' := #[.val (.int (83 : Int32)), .val (.ref b23), .val (.int (6 : Int32)), .unset, .unset]) X23 C d1_6 rfl rfl ?_
  refine W.iconst (q := 8) (v := 0) X23 C d1_7 rfl rfl ?_
  refine W.istoreN (q := 9) (L' := #[.val (.int (83 : Int32)), .val (.ref b23), .val (.int (6 : Int32)), .val (.int (0 : Int32)), .unset]) X23 C d1_8 rfl rfl ?_
  refine W.iloadN (q := 10) X23 C d1_9 rfl rfl ?_
  refine W.iloadN (q := 11) X23 C d1_10 rfl rfl ?_
  refine W.icmpF (q := 14) X23 C d1_11 rfl (by decide : W.cF .ge (0 : Int32) (6 : Int32)) ?_
  refine W.aloadN (q := 15) X23 C d1_14 rfl rfl rfl ?_
  refine W.iloadN (q := 16) X23 C d1_15 rfl rfl ?_
  refine W.aaload (q := 17) X23 C rfl rfl V23 (by decide) (by decide) rfl d1_16 rfl ?_
  refine W.astore (q := 19) (L' := #[.val (.int (83 : Int32)), .val (.ref b23), .val (.int (6 : Int32)), .val (.int (0 : Int32)), .val (.ref ka0)]) X23 C d1_17 rfl rfl rfl ?_
  refine W.aload (q := 21) X23 C d1_19 rfl rfl rfl ?_
  refine W.getF (host := "") (q := 24) X23 C (Or.inl (W.ww hw 27 rfl)) Via.refl rfl F0_24 d1_21 rfl (fun T25 X25 e25 => ?_)
  refine W.iloadN (q := 25) X25 C d1_24 rfl rfl ?_
  refine W.icmpT (q := 31) X25 C d1_25 (by decide) (by decide) (by decide : W.cT .ne (80 : Int32) (83 : Int32)) ?_
  refine W.iinc (q := 34) (L' := #[.val (.int (83 : Int32)), .val (.ref b23), .val (.int (6 : Int32)), .val (.int (1 : Int32)), .val (.ref ka0)]) X25 C d1_31 rfl (by decide) rfl rfl ?_
  refine W.goto (q := 9) X25 C d1_34 (by decide) (by decide) ?_
  refine W.iloadN (q := 10) X25 C d1_9 rfl rfl ?_
  refine W.iloadN (q := 11) X25 C d1_10 rfl rfl ?_
  refine W.icmpF (q := 14) X25 C d1_11 rfl (by decide : W.cF .ge (1 : Int32) (6 : Int32)) ?_
  refine W.aloadN (q := 15) X25 C d1_14 rfl rfl rfl ?_
  refine W.iloadN (q := 16) X25 C d1_15 rfl rfl ?_
  refine W.aaload (q := 17) X25 C e25 rfl V23 (by decide) (by decide) rfl d1_16 rfl ?_
  refine W.astore (q := 19) (L' := #[.val (.int (83 : Int32)), .val (.ref b23), .val (.int (6 : Int32)), .val (.int (1 : Int32)), .val (.ref ka1)]) X25 C d1_17 rfl rfl rfl ?_
  refine W.aload (q := 21) X25 C d1_19 rfl rfl rfl ?_
  refine W.getF (host := "") (q := 24) X25 C (Or.inl (W.ww hw 27 rfl)) Via.refl e25 F1_24 d1_21 rfl (fun T26 X26 e26 => ?_)
  refine W.iloadN (q := 25) X26 C d1_24 rfl rfl ?_
  refine W.icmpT (q := 31) X26 C d1_25 (by decide) (by decide) (by decide : W.cT .ne (77 : Int32) (83 : Int32)) ?_
  refine W.iinc (q := 34) (L' := #[.val (.int (83 : Int32)), .val (.ref b23), .val (.int (6 : Int32)), .val (.int (2 : Int32)), .val (.ref ka1)]) X26 C d1_31 rfl (by decide) rfl rfl ?_
  refine W.goto (q := 9) X26 C d1_34 (by decide) (by decide) ?_
  refine W.iloadN (q := 10) X26 C d1_9 rfl rfl ?_
  refine W.iloadN (q := 11) X26 C d1_10 rfl rfl ?_
  refine W.icmpF (q := 14) X26 C d1_11 rfl (by decide : W.cF .ge (2 : Int32) (6 : Int32)) ?_
  refine W.aloadN (q := 15) X26 C d1_14 rfl rfl rfl ?_
  refine W.iloadN (q := 16) X26 C d1_15 rfl rfl ?_
  refine W.aaload (q := 17) X26 C e26 rfl V23 (by decide) (by decide) rfl d1_16 rfl ?_
  refine W.astore (q := 19) (L' := #[.val (.int (83 : Int32)), .val (.ref b23), .val (.int (6 : Int32)), .val (.int (2 : Int32)), .val (.ref ka2)]) X26 C d1_17 rfl rfl rfl ?_
  refine W.aload (q := 21) X26 C d1_19 rfl rfl rfl ?_
  refine W.getF (host := "") (q := 24) X26 C (Or.inl (W.ww hw 27 rfl)) Via.refl e26 F2_24 d1_21 rfl (fun T27 X27 e27 => ?_)
  refine W.iloadN (q := 25) X27 C d1_24 rfl rfl ?_
  refine W.icmpT (q := 31) X27 C d1_25 (by decide) (by decide) (by decide : W.cT .ne (71 : Int32) (83 : Int32)) ?_
  refine W.iinc (q := 34) (L' := #[.val (.int (83 : Int32)), .val (.ref b23), .val (.int (6 : Int32)), .val (.int (3 : Int32)), .val (.ref ka2)]) X27 C d1_31 rfl (by decide) rfl rfl ?_
  refine W.goto (q := 9) X27 C d1_34 (by decide) (by decide) ?_
  refine W.iloadN (q := 10) X27 C d1_9 rfl rfl ?_
  refine W.iloadN (q := 11) X27 C d1_10 rfl rfl ?_
  refine W.icmpF (q := 14) X27 C d1_11 rfl (by decide : W.cF .ge (3 : Int32) (6 : Int32)) ?_
  refine W.aloadN (q := 15) X27 C d1_14 rfl rfl rfl ?_
  refine W.iloadN (q := 16) X27 C d1_15 rfl rfl ?_
  refine W.aaload (q := 17) X27 C e27 rfl V23 (by decide) (by decide) rfl d1_16 rfl ?_
  refine W.astore (q := 19) (L' := #[.val (.int (83 : Int32)), .val (.ref b23), .val (.int (6 : Int32)), .val (.int (3 : Int32)), .val (.ref ka3)]) X27 C d1_17 rfl rfl rfl ?_
  refine W.aload (q := 21) X27 C d1_19 rfl rfl rfl ?_
  refine W.getF (host := "") (q := 24) X27 C (Or.inl (W.ww hw 27 rfl)) Via.refl e27 F3_24 d1_21 rfl (fun T28 X28 e28 => ?_)
  refine W.iloadN (q := 25) X28 C d1_24 rfl rfl ?_
  refine W.icmpT (q := 31) X28 C d1_25 (by decide) (by decide) (by decide : W.cT .ne (75 : Int32) (83 : Int32)) ?_
  refine W.iinc (q := 34) (L' := #[.val (.int (83 : Int32)), .val (.ref b23), .val (.int (6 : Int32)), .val (.int (4 : Int32)), .val (.ref ka3)]) X28 C d1_31 rfl (by decide) rfl rfl ?_
  refine W.goto (q := 9) X28 C d1_34 (by decide) (by decide) ?_
  refine W.iloadN (q := 10) X28 C d1_9 rfl rfl ?_
  refine W.iloadN (q := 11) X28 C d1_10 rfl rfl ?_
  refine W.icmpF (q := 14) X28 C d1_11 rfl (by decide : W.cF .ge (4 : Int32) (6 : Int32)) ?_
  refine W.aloadN (q := 15) X28 C d1_14 rfl rfl rfl ?_
  refine W.iloadN (q := 16) X28 C d1_15 rfl rfl ?_
  refine W.aaload (q := 17) X28 C e28 rfl V23 (by decide) (by decide) rfl d1_16 rfl ?_
  refine W.astore (q := 19) (L' := #[.val (.int (83 : Int32)), .val (.ref b23), .val (.int (6 : Int32)), .val (.int (4 : Int32)), .val (.ref ka4)]) X28 C d1_17 rfl rfl rfl ?_
  refine W.aload (q := 21) X28 C d1_19 rfl rfl rfl ?_
  refine W.getF (host := "") (q := 24) X28 C (Or.inl (W.ww hw 27 rfl)) Via.refl e28 F4_24 d1_21 rfl (fun T29 X29 e29 => ?_)
  refine W.iloadN (q := 25) X29 C d1_24 rfl rfl ?_
  refine W.icmpF (q := 28) X29 C d1_25 rfl (by decide : W.cF .ne (83 : Int32) (83 : Int32)) ?_
  refine W.aload (q := 30) X29 C d1_28 rfl rfl rfl ?_
  exact W.retA X29 C rfl e29 rfl d1_30 (by decide) (by decide) ⟨rfl, N23, KK23⟩
def Q1_5 (Z : State) (va : Addr) (kv : ClassId) (ka0 ka1 ka2 ka3 ka4 ka5 : Addr) (h0 : Heap) (n0 : Nat) (v : Option Value) (h : Heap) (L : List Loc) : Prop := v = some (.ref ka5) ∧ Fr n0 L ∧ Keep h0 h []
set_option maxRecDepth 65536 in
set_option maxHeartbeats 40000000 in
theorem rm1_5 (l : Launch) (Z : State) (a0 : Array Value) (hw : ∀ d ∈ tables_1, d.before a0 Z = true) (ws : List Jvm.Cond) (va : Addr) (kv : ClassId) (ka0 ka1 ka2 ka3 ka4 ka5 : Addr) (h0 : Heap) (n0 : Nat) (Z0 : n0 ≤ h0.size) (SV : Sta Z h0 "com/example/libcoffer/libcoffer/core/FileKind" "$VALUES" "[Lcom/example/libcoffer/libcoffer/core/FileKind;" (.ref va)) (EV : Exa Z h0 va "[Lcom/example/libcoffer/libcoffer/core/FileKind;") (VV : Arv Z h0 va kv (.object "com/example/libcoffer/libcoffer/core/FileKind") (6 : Int32) [(.ref ka0), (.ref ka1), (.ref ka2), (.ref ka3), (.ref ka4), (.ref ka5)] .null) (F0 : Fld Z h0 ka0 "com/example/libcoffer/libcoffer/core/FileKind" "code" "B" (.int (80 : Int32))) (F1 : Fld Z h0 ka1 "com/example/libcoffer/libcoffer/core/FileKind" "code" "B" (.int (77 : Int32))) (F2 : Fld Z h0 ka2 "com/example/libcoffer/libcoffer/core/FileKind" "code" "B" (.int (71 : Int32))) (F3 : Fld Z h0 ka3 "com/example/libcoffer/libcoffer/core/FileKind" "code" "B" (.int (75 : Int32))) (F4 : Fld Z h0 ka4 "com/example/libcoffer/libcoffer/core/FileKind" "code" "B" (.int (83 : Int32))) (F5 : Fld Z h0 ka5 "com/example/libcoffer/libcoffer/core/FileKind" "code" "B" (.int (82 : Int32))) :
    MetFree l (⟨"com/example/libcoffer/libcoffer/core/FileKind", "fromCode", "(B)Lcom/example/libcoffer/libcoffer/core/FileKind;"⟩ : MethodName) (head1 (Jvm.Cond.code (⟨"com/example/libcoffer/libcoffer/core/FileKind", "fromCode", "(B)Lcom/example/libcoffer/libcoffer/core/FileKind;"⟩ : MethodName) prog_10_method_7_code 5 (some (.object "com/example/libcoffer/libcoffer/core/FileKind")) :: ws) ({ frames := 2, cells := 1, slots := 6, locals := 31 } : Room)) (fun a U => a = #[(.int (82 : Int32))] ∧ Z.Warmed39 U.vm ∧ U.heap = h0) (fun _ _ _ _ _ => True) (fun _ U o U' => ∃ v L, o = .returned v ∧ Q1_5 Z va kv ka0 ka1 ka2 ka3 ka4 ka5 h0 n0 v U'.heap L ∧ FrameEnd U o U' L ({ frames := 2, cells := 1, slots := 6, locals := 31 } : Room).cells ({ frames := 2, cells := 1, slots := 6, locals := 31 } : Room).slots) := by
  refine W.bodyOf (y := (⟨"com/example/libcoffer/libcoffer/core/FileKind", "fromCode", "(B)Lcom/example/libcoffer/libcoffer/core/FileKind;"⟩ : MethodName)) (as := #[(.int (82 : Int32))]) (maxL := 5) (Q := Q1_5 Z va kv ka0 ka1 ka2 ka3 ka4 ka5 h0 n0) (Ls := #[.val (.int (82 : Int32)), .unset, .unset, .unset, .unset]) (plainFor_of_name pn_com_example_libcoffer_libcoffer_core_FileKind) (fun m => by first | rfl | (simp [entryFrame, mkF, argsToLocals, Value.category]; done)) ?_
  intro p e s m below meth c T0 C X0 e0
  have N0 := Fr.nil n0
  have K0 := Keep.refl h0 []
  refine W.callS (q := 3) X0 C (W.ww hw 7 rfl) (W.ww hw 8 rfl) (W.ww hw 2 rfl) (W.ww hw 9 rfl) (by decide) (rm2 l Z a0 hw [] va kv ka0 ka1 ka2 ka3 ka4 ka5 h0 n0 Z0 SV EV VV) e0 d1_0 [] [] rfl rfl pd__28_29_5bLcom_2fexample_2flibcoffer_2flibcoffer_2fcore_2fFileKind_3b rfl rfl (by decide) (by decide) (by decide) (by decide) rfl (fun T30 w30 L30 X30 hQ30 => ?_)
  obtain ⟨b30, rfl, NL30, K30, V30⟩ := hQ30
  have N30 := Fr.app N0 NL30
  have EV_31 := EV.keep K30
  have VV_31 := VV.keep K30 nin0
  have F0_31 := F0.keep K30 nin0
  have F1_31 := F1.keep K30 nin0
  have F2_31 := F2.keep K30 nin0
  have F3_31 := F3.keep K30 nin0
  have F4_31 := F4.keep K30 nin0
  have F5_31 := F5.keep K30 nin0
  have KK30 := K0.trans K30 all0
  show W.Go p e below _ (T30.setTop (mkF m 3 #[.val (.int (82 : Int32)), .unset, .unset, .unset, .unset] [(.ref b30)]))
  refine W.astoreN (q := 4) (L' := #[.val (.int (82 : Int32)), .val (.ref b30), .unset, .unset, .unset]) X30 C d1_3 rfl rfl rfl ?_
  refine W.aloadN (q := 5) X30 C d1_4 rfl rfl rfl ?_
  refine W.arraylength (q := 6) X30 C rfl V30 d1_5 rfl ?_
  refine W.istoreN (q := 7) (L' := #[.val (.int (82 : Int32)), .val (.ref b30), .val (.int (6 : Int32)), .unset, .unset]) X30 C d1_6 rfl rfl ?_
  refine W.iconst (q := 8) (v := 0) X30 C d1_7 rfl rfl ?_
  refine W.istoreN (q := 9) (L' := #[.val (.int (82 : Int32)), .val (.ref b30), .val (.int (6 : Int32)), .val (.int (0 : Int32)), .unset]) X30 C d1_8 rfl rfl ?_
  refine W.iloadN (q := 10) X30 C d1_9 rfl rfl ?_
  refine W.iloadN (q := 11) X30 C d1_10 rfl rfl ?_
  refine W.icmpF (q := 14) X30 C d1_11 rfl (by decide : W.cF .ge (0 : Int32) (6 : Int32)) ?_
  refine W.aloadN (q := 15) X30 C d1_14 rfl rfl rfl ?_
  refine W.iloadN (q := 16) X30 C d1_15 rfl rfl ?_
  refine W.aaload (q := 17) X30 C rfl rfl V30 (by decide) (by decide) rfl d1_16 rfl ?_
  refine W.astore (q := 19) (L' := #[.val (.int (82 : Int32)), .val (.ref b30), .val (.int (6 : Int32)), .val (.int (0 : Int32)), .val (.ref ka0)]) X30 C d1_17 rfl rfl rfl ?_
  refine W.aload (q := 21) X30 C d1_19 rfl rfl rfl ?_
  refine W.getF (host := "") (q := 24) X30 C (Or.inl (W.ww hw 27 rfl)) Via.refl rfl F0_31 d1_21 rfl (fun T32 X32 e32 => ?_)
  refine W.iloadN (q := 25) X32 C d1_24 rfl rfl ?_
  refine W.icmpT (q := 31) X32 C d1_25 (by decide) (by decide) (by decide : W.cT .ne (80 : Int32) (82 : Int32)) ?_
  refine W.iinc (q := 34) (L' := #[.val (.int (82 : Int32)), .val (.ref b30), .val (.int (6 : Int32)), .val (.int (1 : Int32)), .val (.ref ka0)]) X32 C d1_31 rfl (by decide) rfl rfl ?_
  refine W.goto (q := 9) X32 C d1_34 (by decide) (by decide) ?_
  refine W.iloadN (q := 10) X32 C d1_9 rfl rfl ?_
  refine W.iloadN (q := 11) X32 C d1_10 rfl rfl ?_
  refine W.icmpF (q := 14) X32 C d1_11 rfl (by decide : W.cF .ge (1 : Int32) (6 : Int32)) ?_
  refine W.aloadN (q := 15) X32 C d1_14 rfl rfl rfl ?_
  refine W.iloadN (q := 16) X32 C d1_15 rfl rfl ?_
  refine W.aaload (q := 17) X32 C e32 rfl V30 (by decide) (by decide) rfl d1_16 rfl ?_
  refine W.astore (q := 19) (L' := #[.val (.int (82 : Int32)), .val (.ref b30), .val (.int (6 : Int32)), .val (.int (1 : Int32)), .val (.ref ka1)]) X32 C d1_17 rfl rfl rfl ?_
  refine W.aload (q := 21) X32 C d1_19 rfl rfl rfl ?_
  refine W.getF (host := "") (q := 24) X32 C (Or.inl (W.ww hw 27 rfl)) Via.refl e32 F1_31 d1_21 rfl (fun T33 X33 e33 => ?_)
  refine W.iloadN (q := 25) X33 C d1_24 rfl rfl ?_
  refine W.icmpT (q := 31) X33 C d1_25 (by decide) (by decide) (by decide : W.cT .ne (77 : Int32) (82 : Int32)) ?_
  refine W.iinc (q := 34) (L' := #[.val (.int (82 : Int32)), .val (.ref b30), .val (.int (6 : Int32)), .val (.int (2 : Int32)), .val (.ref ka1)]) X33 C d1_31 rfl (by decide) rfl rfl ?_
  refine W.goto (q := 9) X33 C d1_34 (by decide) (by decide) ?_
  refine W.iloadN (q := 10) X33 C d1_9 rfl rfl ?_
  refine W.iloadN (q := 11) X33 C d1_10 rfl rfl ?_
  refine W.icmpF (q := 14) X33 C d1_11 rfl (by decide : W.cF .ge (2 : Int32) (6 : Int32)) ?_
  refine W.aloadN (q := 15) X33 C d1_14 rfl rfl rfl ?_
  refine W.iloadN (q := 16) X33 C d1_15 rfl rfl ?_
  refine W.aaload (q := 17) X33 C e33 rfl V30 (by decide) (by decide) rfl d1_16 rfl ?_
  refine W.astore (q := 19) (L' := #[.val (.int (82 : Int32)), .val (.ref b30), .val (.int (6 : Int32)), .val (.int (2 : Int32)), .val (.ref ka2)]) X33 C d1_17 rfl rfl rfl ?_
  refine W.aload (q := 21) X33 C d1_19 rfl rfl rfl ?_
  refine W.getF (host := "") (q := 24) X33 C (Or.inl (W.ww hw 27 rfl)) Via.refl e33 F2_31 d1_21 rfl (fun T34 X34 e34 => ?_)
  refine W.iloadN (q := 25) X34 C d1_24 rfl rfl ?_
  refine W.icmpT (q := 31) X34 C d1_25 (by decide) (by decide) (by decide : W.cT .ne (71 : Int32) (82 : Int32)) ?_
  refine W.iinc (q := 34) (L' := #[.val (.int (82 : Int32)), .val (.ref b30), .val (.int (6 : Int32)), .val (.int (3 : Int32)), .val (.ref ka2)]) X34 C d1_31 rfl (by decide) rfl rfl ?_
  refine W.goto (q := 9) X34 C d1_34 (by decide) (by decide) ?_
  refine W.iloadN (q := 10) X34 C d1_9 rfl rfl ?_
  refine W.iloadN (q := 11) X34 C d1_10 rfl rfl ?_
  refine W.icmpF (q := 14) X34 C d1_11 rfl (by decide : W.cF .ge (3 : Int32) (6 : Int32)) ?_
  refine W.aloadN (q := 15) X34 C d1_14 rfl rfl rfl ?_
  refine W.iloadN (q := 16) X34 C d1_15 rfl rfl ?_
  refine W.aaload (q := 17) X34 C e34 rfl V30 (by decide) (by decide) rfl d1_16 rfl ?_
  refine W.astore (q := 19) (L' := #[.val (.int (82 : Int32)), .val (.ref b30), .val (.int (6 : Int32)), .val (.int (3 : Int32)), .val (.ref ka3)]) X34 C d1_17 rfl rfl rfl ?_
  refine W.aload (q := 21) X34 C d1_19 rfl rfl rfl ?_
  refine W.getF (host := "") (q := 24) X34 C (Or.inl (W.ww hw 27 rfl)) Via.refl e34 F3_31 d1_21 rfl (fun T35 X35 e35 => ?_)
  refine W.iloadN (q := 25) X35 C d1_24 rfl rfl ?_
  refine W.icmpT (q := 31) X35 C d1_25 (by decide) (by decide) (by decide : W.cT .ne (75 : Int32) (82 : Int32)) ?_
  refine W.iinc (q := 34) (L' := #[.val (.int (82 : Int32)), .val (.ref b30), .val (.int (6 : Int32)), .val (.int (4 : Int32)), .val (.ref ka3)]) X35 C d1_31 rfl (by decide) rfl rfl ?_
  refine W.goto (q := 9) X35 C d1_34 (by decide) (by decide) ?_
  refine W.iloadN (q := 10) X35 C d1_9 rfl rfl ?_
  refine W.iloadN (q := 11) X35 C d1_10 rfl rfl ?_
  refine W.icmpF (q := 14) X35 C d1_11 rfl (by decide : W.cF .ge (4 : Int32) (6 : Int32)) ?_
  refine W.aloadN (q := 15) X35 C d1_14 rfl rfl rfl ?_
  refine W.iloadN (q := 16) X35 C d1_15 rfl rfl ?_
  refine W.aaload (q := 17) X35 C e35 rfl V30 (by decide) (by decide) rfl d1_16 rfl ?_
  refine W.astore (q := 19) (L' := #[.val (.int (82 : Int32)), .val (.ref b30), .val (.int (6 : Int32)), .val (.int (4 : Int32)), .val (.ref ka4)]) X35 C d1_17 rfl rfl rfl ?_
  refine W.aload (q := 21) X35 C d1_19 rfl rfl rfl ?_
  refine W.getF (host := "") (q := 24) X35 C (Or.inl (W.ww hw 27 rfl)) Via.refl e35 F4_31 d1_21 rfl (fun T36 X36 e36 => ?_)
  refine W.iloadN (q := 25) X36 C d1_24 rfl rfl ?_
  refine W.icmpT (q := 31) X36 C d1_25 (by decide) (by decide) (by decide : W.cT .ne (83 : Int32) (82 : Int32)) ?_
  refine W.iinc (q := 34) (L' := #[.val (.int (82 : Int32)), .val (.ref b30), .val (.int (6 : Int32)), .val (.int (5 : Int32)), .val (.ref ka4)]) X36 C d1_31 rfl (by decide) rfl rfl ?_
  refine W.goto (q := 9) X36 C d1_34 (by decide) (by decide) ?_
  refine W.iloadN (q := 10) X36 C d1_9 rfl rfl ?_
  refine W.iloadN (q := 11) X36 C d1_10 rfl rfl ?_
  refine W.icmpF (q := 14) X36 C d1_11 rfl (by decide : W.cF .ge (5 : Int32) (6 : Int32)) ?_
  refine W.aloadN (q := 15) X36 C d1_14 rfl rfl rfl ?_
  refine W.iloadN (q := 16) X36 C d1_15 rfl rfl ?_
  refine W.aaload (q := 17) X36 C e36 rfl V30 (by decide) (by decide) rfl d1_16 rfl ?_
  refine W.astore (q := 19) (L' := #[.val (.int (82 : Int32)), .val (.ref b30), .val (.int (6 : Int32)), .val (.int (5 : Int32)), .val (.ref ka5)]) X36 C d1_17 rfl rfl rfl ?_
  refine W.aload (q := 21) X36 C d1_19 rfl rfl rfl ?_
  refine W.getF (host := "") (q := 24) X36 C (Or.inl (W.ww hw 27 rfl)) Via.refl e36 F5_31 d1_21 rfl (fun T37 X37 e37 => ?_)
  refine W.iloadN (q := 25) X37 C d1_24 rfl rfl ?_
  refine W.icmpF (q := 28) X37 C d1_25 rfl (by decide : W.cF .ne (82 : Int32) (82 : Int32)) ?_
  refine W.aload (q := 30) X37 C d1_28 rfl rfl rfl ?_
  exact W.retA X37 C rfl e37 rfl d1_30 (by decide) (by decide) ⟨rfl, N30, KK30⟩
theorem d3_0 : decode prog_10_method_3_code 0 = .ok (.aload_n 0, 1) := by decide +kernel
theorem d3_1 : decode prog_10_method_3_code 1 = .ok (.getfield 37, 3) := by decide +kernel
theorem d3_4 : decode prog_10_method_3_code 4 = .ok (.ireturn, 1) := by decide +kernel
def Q3 (Z : State) (p0 : Addr) (x0 : Int32) (h0 : Heap) (n0 : Nat) (v : Option Value) (h : Heap) (L : List Loc) : Prop := v = some (.int x0) ∧ Fr n0 L ∧ h = h0
set_option maxRecDepth 65536 in
set_option maxHeartbeats 40000000 in
theorem rm3 (l : Launch) (Z : State) (a0 : Array Value) (hw : ∀ d ∈ tables_1, d.before a0 Z = true) (ws : List Jvm.Cond) (p0 : Addr) (x0 : Int32) (h0 : Heap) (n0 : Nat) (F0 : Fld Z h0 p0 "com/example/libcoffer/libcoffer/core/FileKind" "code" "B" (.int x0)) (hz : narrow .byte (.int x0) = .int x0) :
    MetFree l (⟨"com/example/libcoffer/libcoffer/core/FileKind", "code", "()B"⟩ : MethodName) (head1 (Jvm.Cond.code (⟨"com/example/libcoffer/libcoffer/core/FileKind", "code", "()B"⟩ : MethodName) prog_10_method_3_code 1 (some .byte) :: ws) ({ frames := 0, cells := 0, slots := 0, locals := 0 } : Room)) (fun a U => a = #[(.ref p0)] ∧ Z.Warmed39 U.vm ∧ U.heap = h0) (fun _ _ _ _ _ => True) (fun _ U o U' => ∃ v L, o = .returned v ∧ Q3 Z p0 x0 h0 n0 v U'.heap L ∧ FrameEnd U o U' L ({ frames := 0, cells := 0, slots := 0, locals := 0 } : Room).cells ({ frames := 0, cells := 0, slots := 0, locals := 0 } : Room).slots) := by
  refine W.bodyOf (y := (⟨"com/example/libcoffer/libcoffer/core/FileKind", "code", "()B"⟩ : MethodName)) (as := #[(.ref p0)]) (maxL := 1) (Q := Q3 Z p0 x0 h0 n0) (Ls := #[.val (.ref p0)]) (plainFor_of_name pn_com_example_libcoffer_libcoffer_core_FileKind) (fun m => by first | rfl | (simp [entryFrame, mkF, argsToLocals, Value.category]; done)) ?_
  intro p e s m below meth c T0 C X0 e0
  have N0 := Fr.nil n0
  refine W.aloadN (q := 1) X0 C d3_0 rfl rfl rfl ?_
  refine W.getF (host := "") (q := 4) X0 C (Or.inl (W.ww hw 27 rfl)) Via.refl e0 F0 d3_1 rfl (fun T38 X38 e38 => ?_)
  exact W.retN X38 C (by simp) e38 d3_4 hz (by decide) (by decide) ⟨rfl, N0, rfl⟩
theorem pd__28B_29Lcom_2fexample_2flibcoffer_2flibcoffer_2fcore_2fFileKind_3b : parseMethodDescriptor "(B)Lcom/example/libcoffer/libcoffer/core/FileKind;" = some ⟨[.byte], some (.object "com/example/libcoffer/libcoffer/core/FileKind")⟩ := by decide +kernel
theorem pd__28_29B : parseMethodDescriptor "()B" = some ⟨[], some .byte⟩ := by decide +kernel
theorem pn_com_example_libcoffer_libcoffer_core_FileKindFromCodePinLaw : plainName "com/example/libcoffer/libcoffer/core/FileKindFromCodePinLaw" = true := by first | (simp [plainName, overriddenIn]; done) | decide +kernel
def Q0 (Z : State) (p0 : Int32) (va : Addr) (kv : ClassId) (ka0 ka1 ka2 ka3 ka4 ka5 : Addr) (h0 : Heap) (n0 : Nat) (v : Option Value) (h : Heap) (L : List Loc) : Prop := v = some (.int 1) ∧ Fr n0 L
set_option maxRecDepth 65536 in
set_option maxHeartbeats 40000000 in
theorem rm0 (l : Launch) (Z : State) (a0 : Array Value) (hw : ∀ d ∈ tables_1, d.before a0 Z = true) (ws : List Jvm.Cond) (p0 : Int32) (va : Addr) (kv : ClassId) (ka0 ka1 ka2 ka3 ka4 ka5 : Addr) (h0 : Heap) (n0 : Nat) (Z0 : n0 ≤ h0.size) (SV : Sta Z h0 "com/example/libcoffer/libcoffer/core/FileKind" "$VALUES" "[Lcom/example/libcoffer/libcoffer/core/FileKind;" (.ref va)) (EV : Exa Z h0 va "[Lcom/example/libcoffer/libcoffer/core/FileKind;") (VV : Arv Z h0 va kv (.object "com/example/libcoffer/libcoffer/core/FileKind") (6 : Int32) [(.ref ka0), (.ref ka1), (.ref ka2), (.ref ka3), (.ref ka4), (.ref ka5)] .null) (S0 : Sta Z h0 "com/example/libcoffer/libcoffer/core/FileKind" "PUBLIC_PARAMETERS" "Lcom/example/libcoffer/libcoffer/core/FileKind;" (.ref ka0)) (E0 : Exa Z h0 ka0 "com/example/libcoffer/libcoffer/core/FileKind") (S1 : Sta Z h0 "com/example/libcoffer/libcoffer/core/FileKind" "MASTER_SECRET" "Lcom/example/libcoffer/libcoffer/core/FileKind;" (.ref ka1)) (E1 : Exa Z h0 ka1 "com/example/libcoffer/libcoffer/core/FileKind") (S2 : Sta Z h0 "com/example/libcoffer/libcoffer/core/FileKind" "GATE_SECRET" "Lcom/example/libcoffer/libcoffer/core/FileKind;" (.ref ka2)) (E2 : Exa Z h0 ka2 "com/example/libcoffer/libcoffer/core/FileKind") (S3 : Sta Z h0 "com/example/libcoffer/libcoffer/core/FileKind" "USER_KEY" "Lcom/example/libcoffer/libcoffer/core/FileKind;" (.ref ka3)) (E3 : Exa Z h0 ka3 "com/example/libcoffer/libcoffer/core/FileKind") (S4 : Sta Z h0 "com/example/libcoffer/libcoffer/core/FileKind" "SEALED_OBJECT" "Lcom/example/libcoffer/libcoffer/core/FileKind;" (.ref ka4)) (E4 : Exa Z h0 ka4 "com/example/libcoffer/libcoffer/core/FileKind") (S5 : Sta Z h0 "com/example/libcoffer/libcoffer/core/FileKind" "DOWNLOAD_REQUEST" "Lcom/example/libcoffer/libcoffer/core/FileKind;" (.ref ka5)) (E5 : Exa Z h0 ka5 "com/example/libcoffer/libcoffer/core/FileKind") (F0 : Fld Z h0 ka0 "com/example/libcoffer/libcoffer/core/FileKind" "code" "B" (.int (80 : Int32))) (F1 : Fld Z h0 ka1 "com/example/libcoffer/libcoffer/core/FileKind" "code" "B" (.int (77 : Int32))) (F2 : Fld Z h0 ka2 "com/example/libcoffer/libcoffer/core/FileKind" "code" "B" (.int (71 : Int32))) (F3 : Fld Z h0 ka3 "com/example/libcoffer/libcoffer/core/FileKind" "code" "B" (.int (75 : Int32))) (F4 : Fld Z h0 ka4 "com/example/libcoffer/libcoffer/core/FileKind" "code" "B" (.int (83 : Int32))) (F5 : Fld Z h0 ka5 "com/example/libcoffer/libcoffer/core/FileKind" "code" "B" (.int (82 : Int32))) :
    MetFree l x (head1 (Jvm.Cond.code x code maxLocals ret :: ws) room_1) (fun a U => a = #[(.int p0)] ∧ Z.Warmed39 U.vm ∧ U.heap = h0) (fun _ _ _ _ _ => True) (fun _ U o U' => ∃ v L, o = .returned v ∧ Q0 Z p0 va kv ka0 ka1 ka2 ka3 ka4 ka5 h0 n0 v U'.heap L ∧ FrameEnd U o U' L room_1.cells room_1.slots) := by
  refine W.bodyOf (y := x) (as := #[(.int p0)]) (maxL := maxLocals) (Q := Q0 Z p0 va kv ka0 ka1 ka2 ka3 ka4 ka5 h0 n0) (Ls := #[.val (.int p0), .unset, .unset, .unset, .unset, .unset]) (plainFor_of_name pn_com_example_libcoffer_libcoffer_core_FileKindFromCodePinLaw) (fun m => by first | rfl | (simp [entryFrame, mkF, argsToLocals, Value.category, maxLocals]; done)) ?_
  intro p e s m below meth c T0 C X0 e0
  replace C : W.Cx p s m meth c Z code 6 "com/example/libcoffer/libcoffer/core/FileKindFromCodePinLaw" "law" (some .boolean) := C
  have N0 := Fr.nil n0
  refine W.iloadN (q := 1) X0 C at_0 rfl rfl ?_
  refine W.ldcI (q := 3) X0 C (W.ww hw 0 rfl) at_1 rfl ?_
  refine W.iand (q := 4) X0 C at_3 rfl ?_
  refine W.bipush (q := 6) (v := 6) X0 C at_4 rfl rfl ?_
  refine W.irem (q := 7) X0 C at_6 (by decide) rfl ?_
  generalize hv39 : ((p0 &&& (2147483647 : Int32)) % (6 : Int32)) = v39
  refine W.istoreN (q := 8) (L' := #[.val (.int p0), .val (.int v39), .unset, .unset, .unset, .unset]) X0 C at_7 rfl rfl ?_
  refine W.iloadN (q := 9) X0 C at_8 rfl rfl ?_
  refine W.if_ (q := 22) (q' := 12) X0 C at_9 (by decide) (by decide) rfl (fun hc40 => ?_) (fun hc40 => ?_)
  · replace hc40 : v39 ≠ 0 := hc40
    refine W.iloadN (q := 23) X0 C at_22 rfl rfl ?_
    refine W.iconst (q := 24) (v := 1) X0 C at_23 rfl rfl ?_
    refine W.icmp (q := 37) (q' := 27) X0 C at_24 (by decide) (by decide) rfl (fun hc41 => ?_) (fun hc41 => ?_)
    · replace hc41 : v39 ≠ (1 : Int32) := hc41
      refine W.iloadN (q := 38) X0 C at_37 rfl rfl ?_
      refine W.iconst (q := 39) (v := 2) X0 C at_38 rfl rfl ?_
      refine W.icmp (q := 52) (q' := 42) X0 C at_39 (by decide) (by decide) rfl (fun hc42 => ?_) (fun hc42 => ?_)
      · replace hc42 : v39 ≠ (2 : Int32) := hc42
        refine W.iloadN (q := 53) X0 C at_52 rfl rfl ?_
        refine W.iconst (q := 54) (v := 3) X0 C at_53 rfl rfl ?_
        refine W.icmp (q := 67) (q' := 57) X0 C at_54 (by decide) (by decide) rfl (fun hc43 => ?_) (fun hc43 => ?_)
        · replace hc43 : v39 ≠ (3 : Int32) := hc43
          refine W.iloadN (q := 68) X0 C at_67 rfl rfl ?_
          refine W.iconst (q := 69) (v := 4) X0 C at_68 rfl rfl ?_
          refine W.icmp (q := 82) (q' := 72) X0 C at_69 (by decide) (by decide) rfl (fun hc44 => ?_) (fun hc44 => ?_)
          · replace hc44 : v39 ≠ (4 : Int32) := hc44
            refine W.bipush (q := 84) (v := 82) X0 C at_82 rfl rfl ?_
            refine W.istoreN (q := 85) (L' := #[.val (.int p0), .val (.int v39), .val (.int (82 : Int32)), .unset, .unset, .unset]) X0 C at_84 rfl rfl ?_
            refine W.getS (q := 88) X0 C (W.ww hw 37 rfl) Via.refl e0 S5 at_85 rfl (fun T45 X45 e45 => ?_)
            refine W.astoreN (q := 89) (L' := #[.val (.int p0), .val (.int v39), .val (.int (82 : Int32)), .val (.ref ka5), .unset, .unset]) X45 C at_88 rfl rfl rfl ?_
            refine W.iloadN (q := 90) X45 C at_89 rfl rfl ?_
            refine W.i2b (q := 91) X45 C at_90 rfl ?_
            rw [show (82 : Int32).toInt8.toInt32 = (82 : Int32) by decide]
            refine W.istore (q := 93) (L' := #[.val (.int p0), .val (.int v39), .val (.int (82 : Int32)), .val (.ref ka5), .val (.int (82 : Int32)), .unset]) X45 C at_91 rfl rfl ?_
            refine W.iload (q := 95) X45 C at_93 rfl rfl ?_
            refine W.callS (q := 98) X45 C (W.ww hw 4 rfl) (W.ww hw 5 rfl) (W.ww hw 2 rfl) (W.ww hw 6 rfl) (by decide) (rm1_5 l Z a0 hw [] va kv ka0 ka1 ka2 ka3 ka4 ka5 h0 n0 Z0 SV EV VV F0 F1 F2 F3 F4 F5) e45 at_95 [(.int (82 : Int32))] [] rfl rfl pd__28B_29Lcom_2fexample_2flibcoffer_2flibcoffer_2fcore_2fFileKind_3b rfl rfl (by decide) (by decide) (by decide) (by decide) rfl (fun T46 w46 L46 X46 hQ46 => ?_)
            obtain ⟨rfl, NL46, K46⟩ := hQ46
            have N46 := Fr.app N0 NL46
            have EV_47 := EV.keep K46
            have VV_47 := VV.keep K46 nin0
            have E0_47 := E0.keep K46
            have F0_47 := F0.keep K46 nin0
            have E1_47 := E1.keep K46
            have F1_47 := F1.keep K46 nin0
            have E2_47 := E2.keep K46
            have F2_47 := F2.keep K46 nin0
            have E3_47 := E3.keep K46
            have F3_47 := F3.keep K46 nin0
            have E4_47 := E4.keep K46
            have F4_47 := F4.keep K46 nin0
            have E5_47 := E5.keep K46
            have F5_47 := F5.keep K46 nin0
            show W.Go p e below _ (T46.setTop (mkF m 98 #[.val (.int p0), .val (.int v39), .val (.int (82 : Int32)), .val (.ref ka5), .val (.int (82 : Int32)), .unset] [(.ref ka5)]))
            refine W.astore (q := 100) (L' := #[.val (.int p0), .val (.int v39), .val (.int (82 : Int32)), .val (.ref ka5), .val (.int (82 : Int32)), .val (.ref ka5)]) X46 C at_98 rfl rfl rfl ?_
            refine W.aload (q := 102) X46 C at_100 rfl rfl rfl ?_
            refine W.aloadN (q := 103) X46 C at_102 rfl rfl rfl ?_
            refine W.acmp (q := 106) X46 C rfl rfl (same := true) (decide_eq_true rfl) at_103 (by decide) (by decide) ?_
            refine W.aload (q := 108) X46 C at_106 rfl rfl rfl ?_
            refine W.callV (q := 111) X46 C (W.ww hw 29 rfl) (W.ww hw 30 rfl) (W.nf C (W.ww hw 32 rfl)) (W.ww hw 32 rfl) (W.ww hw 31 rfl) (W.ww hw 2 rfl) (W.ww hw 33 rfl) (by decide) (rm3 l Z a0 hw [] ka5 (82 : Int32) T46.heap n0 F5_47 rfl) rfl E5_47 at_108 [] [] rfl rfl pd__28_29B rfl rfl (by decide) (by decide) (by decide) (by decide) rfl (fun T48 w48 L48 X48 hQ48 => ?_)
            obtain ⟨rfl, NL48, e48⟩ := hQ48
            have N48 := Fr.app N46 NL48
            show W.Go p e below _ (T48.setTop (mkF m 111 #[.val (.int p0), .val (.int v39), .val (.int (82 : Int32)), .val (.ref ka5), .val (.int (82 : Int32)), .val (.ref ka5)] [(.int (82 : Int32))]))
            refine W.iload (q := 113) X48 C at_111 rfl rfl ?_
            refine W.icmpF (q := 116) X48 C at_113 rfl (by decide : W.cF .ne (82 : Int32) (82 : Int32)) ?_
            refine W.iconst (q := 117) (v := 1) X48 C at_116 rfl rfl ?_
            refine W.goto (q := 121) X48 C at_117 (by decide) (by decide) ?_
            exact W.retN X48 C (by simp) e48 at_121 rfl (by decide) (by decide) ⟨rfl, N48⟩
          · replace hc44 : v39 = (4 : Int32) := hc44
            refine W.bipush (q := 74) (v := 83) X0 C at_72 rfl rfl ?_
            refine W.istoreN (q := 75) (L' := #[.val (.int p0), .val (.int v39), .val (.int (83 : Int32)), .unset, .unset, .unset]) X0 C at_74 rfl rfl ?_
            refine W.getS (q := 78) X0 C (W.ww hw 38 rfl) Via.refl e0 S4 at_75 rfl (fun T49 X49 e49 => ?_)
            refine W.astoreN (q := 79) (L' := #[.val (.int p0), .val (.int v39), .val (.int (83 : Int32)), .val (.ref ka4), .unset, .unset]) X49 C at_78 rfl rfl rfl ?_
            refine W.goto (q := 89) X49 C at_79 (by decide) (by decide) ?_
            refine W.iloadN (q := 90) X49 C at_89 rfl rfl ?_
            refine W.i2b (q := 91) X49 C at_90 rfl ?_
            rw [show (83 : Int32).toInt8.toInt32 = (83 : Int32) by decide]
            refine W.istore (q := 93) (L' := #[.val (.int p0), .val (.int v39), .val (.int (83 : Int32)), .val (.ref ka4), .val (.int (83 : Int32)), .unset]) X49 C at_91 rfl rfl ?_
            refine W.iload (q := 95) X49 C at_93 rfl rfl ?_
            refine W.callS (q := 98) X49 C (W.ww hw 4 rfl) (W.ww hw 5 rfl) (W.ww hw 2 rfl) (W.ww hw 6 rfl) (by decide) (rm1_4 l Z a0 hw [] va kv ka0 ka1 ka2 ka3 ka4 ka5 h0 n0 Z0 SV EV VV F0 F1 F2 F3 F4 F5) e49 at_95 [(.int (83 : Int32))] [] rfl rfl pd__28B_29Lcom_2fexample_2flibcoffer_2flibcoffer_2fcore_2fFileKind_3b rfl rfl (by decide) (by decide) (by decide) (by decide) rfl (fun T50 w50 L50 X50 hQ50 => ?_)
            obtain ⟨rfl, NL50, K50⟩ := hQ50
            have N50 := Fr.app N0 NL50
            have EV_51 := EV.keep K50
            have VV_51 := VV.keep K50 nin0
            have E0_51 := E0.keep K50
            have F0_51 := F0.keep K50 nin0
            have E1_51 := E1.keep K50
            have F1_51 := F1.keep K50 nin0
            have E2_51 := E2.keep K50
            have F2_51 := F2.keep K50 nin0
            have E3_51 := E3.keep K50
            have F3_51 := F3.keep K50 nin0
            have E4_51 := E4.keep K50
            have F4_51 := F4.keep K50 nin0
            have E5_51 := E5.keep K50
            have F5_51 := F5.keep K50 nin0
            show W.Go p e below _ (T50.setTop (mkF m 98 #[.val (.int p0), .val (.int v39), .val (.int (83 : Int32)), .val (.ref ka4), .val (.int (83 : Int32)), .unset] [(.ref ka4)]))
            refine W.astore (q := 100) (L' := #[.val (.int p0), .val (.int v39), .val (.int (83 : Int32)), .val (.ref ka4), .val (.int (83 : Int32)), .val (.ref ka4)]) X50 C at_98 rfl rfl rfl ?_
            refine W.aload (q := 102) X50 C at_100 rfl rfl rfl ?_
            refine W.aloadN (q := 103) X50 C at_102 rfl rfl rfl ?_
            refine W.acmp (q := 106) X50 C rfl rfl (same := true) (decide_eq_true rfl) at_103 (by decide) (by decide) ?_
            refine W.aload (q := 108) X50 C at_106 rfl rfl rfl ?_
            refine W.callV (q := 111) X50 C (W.ww hw 29 rfl) (W.ww hw 30 rfl) (W.nf C (W.ww hw 32 rfl)) (W.ww hw 32 rfl) (W.ww hw 31 rfl) (W.ww hw 2 rfl) (W.ww hw 33 rfl) (by decide) (rm3 l Z a0 hw [] ka4 (83 : Int32) T50.heap n0 F4_51 rfl) rfl E4_51 at_108 [] [] rfl rfl pd__28_29B rfl rfl (by decide) (by decide) (by decide) (by decide) rfl (fun T52 w52 L52 X52 hQ52 => ?_)
            obtain ⟨rfl, NL52, e52⟩ := hQ52
            have N52 := Fr.app N50 NL52
            show W.Go p e below _ (T52.setTop (mkF m 111 #[.val (.int p0), .val (.int v39), .val (.int (83 : Int32)), .val (.ref ka4), .val (.int (83 : Int32)), .val (.ref ka4)] [(.int (83 : Int32))]))
            refine W.iload (q := 113) X52 C at_111 rfl rfl ?_
            refine W.icmpF (q := 116) X52 C at_113 rfl (by decide : W.cF .ne (83 : Int32) (83 : Int32)) ?_
            refine W.iconst (q := 117) (v := 1) X52 C at_116 rfl rfl ?_
            refine W.goto (q := 121) X52 C at_117 (by decide) (by decide) ?_
            exact W.retN X52 C (by simp) e52 at_121 rfl (by decide) (by decide) ⟨rfl, N52⟩
        · replace hc43 : v39 = (3 : Int32) := hc43
          refine W.bipush (q := 59) (v := 75) X0 C at_57 rfl rfl ?_
          refine W.istoreN (q := 60) (L' := #[.val (.int p0), .val (.int v39), .val (.int (75 : Int32)), .unset, .unset, .unset]) X0 C at_59 rfl rfl ?_
          refine W.getS (q := 63) X0 C (W.ww hw 34 rfl) Via.refl e0 S3 at_60 rfl (fun T53 X53 e53 => ?_)
          refine W.astoreN (q := 64) (L' := #[.val (.int p0), .val (.int v39), .val (.int (75 : Int32)), .val (.ref ka3), .unset, .unset]) X53 C at_63 rfl rfl rfl ?_
          refine W.goto (q := 89) X53 C at_64 (by decide) (by decide) ?_
          refine W.iloadN (q := 90) X53 C at_89 rfl rfl ?_
          refine W.i2b (q := 91) X53 C at_90 rfl ?_
          rw [show (75 : Int32).toInt8.toInt32 = (75 : Int32) by decide]
          refine W.istore (q := 93) (L' := #[.val (.int p0), .val (.int v39), .val (.int (75 : Int32)), .val (.ref ka3), .val (.int (75 : Int32)), .unset]) X53 C at_91 rfl rfl ?_
          refine W.iload (q := 95) X53 C at_93 rfl rfl ?_
          refine W.callS (q := 98) X53 C (W.ww hw 4 rfl) (W.ww hw 5 rfl) (W.ww hw 2 rfl) (W.ww hw 6 rfl) (by decide) (rm1_3 l Z a0 hw [] va kv ka0 ka1 ka2 ka3 ka4 ka5 h0 n0 Z0 SV EV VV F0 F1 F2 F3 F4 F5) e53 at_95 [(.int (75 : Int32))] [] rfl rfl pd__28B_29Lcom_2fexample_2flibcoffer_2flibcoffer_2fcore_2fFileKind_3b rfl rfl (by decide) (by decide) (by decide) (by decide) rfl (fun T54 w54 L54 X54 hQ54 => ?_)
          obtain ⟨rfl, NL54, K54⟩ := hQ54
          have N54 := Fr.app N0 NL54
          have EV_55 := EV.keep K54
          have VV_55 := VV.keep K54 nin0
          have E0_55 := E0.keep K54
          have F0_55 := F0.keep K54 nin0
          have E1_55 := E1.keep K54
          have F1_55 := F1.keep K54 nin0
          have E2_55 := E2.keep K54
          have F2_55 := F2.keep K54 nin0
          have E3_55 := E3.keep K54
          have F3_55 := F3.keep K54 nin0
          have E4_55 := E4.keep K54
          have F4_55 := F4.keep K54 nin0
          have E5_55 := E5.keep K54
          have F5_55 := F5.keep K54 nin0
          show W.Go p e below _ (T54.setTop (mkF m 98 #[.val (.int p0), .val (.int v39), .val (.int (75 : Int32)), .val (.ref ka3), .val (.int (75 : Int32)), .unset] [(.ref ka3)]))
          refine W.astore (q := 100) (L' := #[.val (.int p0), .val (.int v39), .val (.int (75 : Int32)), .val (.ref ka3), .val (.int (75 : Int32)), .val (.ref ka3)]) X54 C at_98 rfl rfl rfl ?_
          refine W.aload (q := 102) X54 C at_100 rfl rfl rfl ?_
          refine W.aloadN (q := 103) X54 C at_102 rfl rfl rfl ?_
          refine W.acmp (q := 106) X54 C rfl rfl (same := true) (decide_eq_true rfl) at_103 (by decide) (by decide) ?_
          refine W.aload (q := 108) X54 C at_106 rfl rfl rfl ?_
          refine W.callV (q := 111) X54 C (W.ww hw 29 rfl) (W.ww hw 30 rfl) (W.nf C (W.ww hw 32 rfl)) (W.ww hw 32 rfl) (W.ww hw 31 rfl) (W.ww hw 2 rfl) (W.ww hw 33 rfl) (by decide) (rm3 l Z a0 hw [] ka3 (75 : Int32) T54.heap n0 F3_55 rfl) rfl E3_55 at_108 [] [] rfl rfl pd__28_29B rfl rfl (by decide) (by decide) (by decide) (by decide) rfl (fun T56 w56 L56 X56 hQ56 => ?_)
          obtain ⟨rfl, NL56, e56⟩ := hQ56
          have N56 := Fr.app N54 NL56
          show W.Go p e below _ (T56.setTop (mkF m 111 #[.val (.int p0), .val (.int v39), .val (.int (75 : Int32)), .val (.ref ka3), .val (.int (75 : Int32)), .val (.ref ka3)] [(.int (75 : Int32))]))
          refine W.iload (q := 113) X56 C at_111 rfl rfl ?_
          refine W.icmpF (q := 116) X56 C at_113 rfl (by decide : W.cF .ne (75 : Int32) (75 : Int32)) ?_
          refine W.iconst (q := 117) (v := 1) X56 C at_116 rfl rfl ?_
          refine W.goto (q := 121) X56 C at_117 (by decide) (by decide) ?_
          exact W.retN X56 C (by simp) e56 at_121 rfl (by decide) (by decide) ⟨rfl, N56⟩
      · replace hc42 : v39 = (2 : Int32) := hc42
        refine W.bipush (q := 44) (v := 71) X0 C at_42 rfl rfl ?_
        refine W.istoreN (q := 45) (L' := #[.val (.int p0), .val (.int v39), .val (.int (71 : Int32)), .unset, .unset, .unset]) X0 C at_44 rfl rfl ?_
        refine W.getS (q := 48) X0 C (W.ww hw 35 rfl) Via.refl e0 S2 at_45 rfl (fun T57 X57 e57 => ?_)
        refine W.astoreN (q := 49) (L' := #[.val (.int p0), .val (.int v39), .val (.int (71 : Int32)), .val (.ref ka2), .unset, .unset]) X57 C at_48 rfl rfl rfl ?_
        refine W.goto (q := 89) X57 C at_49 (by decide) (by decide) ?_
        refine W.iloadN (q := 90) X57 C at_89 rfl rfl ?_
        refine W.i2b (q := 91) X57 C at_90 rfl ?_
        rw [show (71 : Int32).toInt8.toInt32 = (71 : Int32) by decide]
        refine W.istore (q := 93) (L' := #[.val (.int p0), .val (.int v39), .val (.int (71 : Int32)), .val (.ref ka2), .val (.int (71 : Int32)), .unset]) X57 C at_91 rfl rfl ?_
        refine W.iload (q := 95) X57 C at_93 rfl rfl ?_
        refine W.callS (q := 98) X57 C (W.ww hw 4 rfl) (W.ww hw 5 rfl) (W.ww hw 2 rfl) (W.ww hw 6 rfl) (by decide) (rm1_2 l Z a0 hw [] va kv ka0 ka1 ka2 ka3 ka4 ka5 h0 n0 Z0 SV EV VV F0 F1 F2 F3 F4 F5) e57 at_95 [(.int (71 : Int32))] [] rfl rfl pd__28B_29Lcom_2fexample_2flibcoffer_2flibcoffer_2fcore_2fFileKind_3b rfl rfl (by decide) (by decide) (by decide) (by decide) rfl (fun T58 w58 L58 X58 hQ58 => ?_)
        obtain ⟨rfl, NL58, K58⟩ := hQ58
        have N58 := Fr.app N0 NL58
        have EV_59 := EV.keep K58
        have VV_59 := VV.keep K58 nin0
        have E0_59 := E0.keep K58
        have F0_59 := F0.keep K58 nin0
        have E1_59 := E1.keep K58
        have F1_59 := F1.keep K58 nin0
        have E2_59 := E2.keep K58
        have F2_59 := F2.keep K58 nin0
        have E3_59 := E3.keep K58
        have F3_59 := F3.keep K58 nin0
        have E4_59 := E4.keep K58
        have F4_59 := F4.keep K58 nin0
        have E5_59 := E5.keep K58
        have F5_59 := F5.keep K58 nin0
        show W.Go p e below _ (T58.setTop (mkF m 98 #[.val (.int p0), .val (.int v39), .val (.int (71 : Int32)), .val (.ref ka2), .val (.int (71 : Int32)), .unset] [(.ref ka2)]))
        refine W.astore (q := 100) (L' := #[.val (.int p0), .val (.int v39), .val (.int (71 : Int32)), .val (.ref ka2), .val (.int (71 : Int32)), .val (.ref ka2)]) X58 C at_98 rfl rfl rfl ?_
        refine W.aload (q := 102) X58 C at_100 rfl rfl rfl ?_
        refine W.aloadN (q := 103) X58 C at_102 rfl rfl rfl ?_
        refine W.acmp (q := 106) X58 C rfl rfl (same := true) (decide_eq_true rfl) at_103 (by decide) (by decide) ?_
        refine W.aload (q := 108) X58 C at_106 rfl rfl rfl ?_
        refine W.callV (q := 111) X58 C (W.ww hw 29 rfl) (W.ww hw 30 rfl) (W.nf C (W.ww hw 32 rfl)) (W.ww hw 32 rfl) (W.ww hw 31 rfl) (W.ww hw 2 rfl) (W.ww hw 33 rfl) (by decide) (rm3 l Z a0 hw [] ka2 (71 : Int32) T58.heap n0 F2_59 rfl) rfl E2_59 at_108 [] [] rfl rfl pd__28_29B rfl rfl (by decide) (by decide) (by decide) (by decide) rfl (fun T60 w60 L60 X60 hQ60 => ?_)
        obtain ⟨rfl, NL60, e60⟩ := hQ60
        have N60 := Fr.app N58 NL60
        show W.Go p e below _ (T60.setTop (mkF m 111 #[.val (.int p0), .val (.int v39), .val (.int (71 : Int32)), .val (.ref ka2), .val (.int (71 : Int32)), .val (.ref ka2)] [(.int (71 : Int32))]))
        refine W.iload (q := 113) X60 C at_111 rfl rfl ?_
        refine W.icmpF (q := 116) X60 C at_113 rfl (by decide : W.cF .ne (71 : Int32) (71 : Int32)) ?_
        refine W.iconst (q := 117) (v := 1) X60 C at_116 rfl rfl ?_
        refine W.goto (q := 121) X60 C at_117 (by decide) (by decide) ?_
        exact W.retN X60 C (by simp) e60 at_121 rfl (by decide) (by decide) ⟨rfl, N60⟩
    · replace hc41 : v39 = (1 : Int32) := hc41
      refine W.bipush (q := 29) (v := 77) X0 C at_27 rfl rfl ?_
      refine W.istoreN (q := 30) (L' := #[.val (.int p0), .val (.int v39), .val (.int (77 : Int32)), .unset, .unset, .unset]) X0 C at_29 rfl rfl ?_
      refine W.getS (q := 33) X0 C (W.ww hw 36 rfl) Via.refl e0 S1 at_30 rfl (fun T61 X61 e61 => ?_)
      refine W.astoreN (q := 34) (L' := #[.val (.int p0), .val (.int v39), .val (.int (77 : Int32)), .val (.ref ka1), .unset, .unset]) X61 C at_33 rfl rfl rfl ?_
      refine W.goto (q := 89) X61 C at_34 (by decide) (by decide) ?_
      refine W.iloadN (q := 90) X61 C at_89 rfl rfl ?_
      refine W.i2b (q := 91) X61 C at_90 rfl ?_
      rw [show (77 : Int32).toInt8.toInt32 = (77 : Int32) by decide]
      refine W.istore (q := 93) (L' := #[.val (.int p0), .val (.int v39), .val (.int (77 : Int32)), .val (.ref ka1), .val (.int (77 : Int32)), .unset]) X61 C at_91 rfl rfl ?_
      refine W.iload (q := 95) X61 C at_93 rfl rfl ?_
      refine W.callS (q := 98) X61 C (W.ww hw 4 rfl) (W.ww hw 5 rfl) (W.ww hw 2 rfl) (W.ww hw 6 rfl) (by decide) (rm1_1 l Z a0 hw [] va kv ka0 ka1 ka2 ka3 ka4 ka5 h0 n0 Z0 SV EV VV F0 F1 F2 F3 F4 F5) e61 at_95 [(.int (77 : Int32))] [] rfl rfl pd__28B_29Lcom_2fexample_2flibcoffer_2flibcoffer_2fcore_2fFileKind_3b rfl rfl (by decide) (by decide) (by decide) (by decide) rfl (fun T62 w62 L62 X62 hQ62 => ?_)
      obtain ⟨rfl, NL62, K62⟩ := hQ62
      have N62 := Fr.app N0 NL62
      have EV_63 := EV.keep K62
      have VV_63 := VV.keep K62 nin0
      have E0_63 := E0.keep K62
      have F0_63 := F0.keep K62 nin0
      have E1_63 := E1.keep K62
      have F1_63 := F1.keep K62 nin0
      have E2_63 := E2.keep K62
      have F2_63 := F2.keep K62 nin0
      have E3_63 := E3.keep K62
      have F3_63 := F3.keep K62 nin0
      have E4_63 := E4.keep K62
      have F4_63 := F4.keep K62 nin0
      have E5_63 := E5.keep K62
      have F5_63 := F5.keep K62 nin0
      show W.Go p e below _ (T62.setTop (mkF m 98 #[.val (.int p0), .val (.int v39), .val (.int (77 : Int32)), .val (.ref ka1), .val (.int (77 : Int32)), .unset] [(.ref ka1)]))
      refine W.astore (q := 100) (L' := #[.val (.int p0), .val (.int v39), .val (.int (77 : Int32)), .val (.ref ka1), .val (.int (77 : Int32)), .val (.ref ka1)]) X62 C at_98 rfl rfl rfl ?_
      refine W.aload (q := 102) X62 C at_100 rfl rfl rfl ?_
      refine W.aloadN (q := 103) X62 C at_102 rfl rfl rfl ?_
      refine W.acmp (q := 106) X62 C rfl rfl (same := true) (decide_eq_true rfl) at_103 (by decide) (by decide) ?_
      refine W.aload (q := 108) X62 C at_106 rfl rfl rfl ?_
      refine W.callV (q := 111) X62 C (W.ww hw 29 rfl) (W.ww hw 30 rfl) (W.nf C (W.ww hw 32 rfl)) (W.ww hw 32 rfl) (W.ww hw 31 rfl) (W.ww hw 2 rfl) (W.ww hw 33 rfl) (by decide) (rm3 l Z a0 hw [] ka1 (77 : Int32) T62.heap n0 F1_63 rfl) rfl E1_63 at_108 [] [] rfl rfl pd__28_29B rfl rfl (by decide) (by decide) (by decide) (by decide) rfl (fun T64 w64 L64 X64 hQ64 => ?_)
      obtain ⟨rfl, NL64, e64⟩ := hQ64
      have N64 := Fr.app N62 NL64
      show W.Go p e below _ (T64.setTop (mkF m 111 #[.val (.int p0), .val (.int v39), .val (.int (77 : Int32)), .val (.ref ka1), .val (.int (77 : Int32)), .val (.ref ka1)] [(.int (77 : Int32))]))
      refine W.iload (q := 113) X64 C at_111 rfl rfl ?_
      refine W.icmpF (q := 116) X64 C at_113 rfl (by decide : W.cF .ne (77 : Int32) (77 : Int32)) ?_
      refine W.iconst (q := 117) (v := 1) X64 C at_116 rfl rfl ?_
      refine W.goto (q := 121) X64 C at_117 (by decide) (by decide) ?_
      exact W.retN X64 C (by simp) e64 at_121 rfl (by decide) (by decide) ⟨rfl, N64⟩
  · replace hc40 : v39 = 0 := hc40
    refine W.bipush (q := 14) (v := 80) X0 C at_12 rfl rfl ?_
    refine W.istoreN (q := 15) (L' := #[.val (.int p0), .val (.int v39), .val (.int (80 : Int32)), .unset, .unset, .unset]) X0 C at_14 rfl rfl ?_
    refine W.getS (q := 18) X0 C (W.ww hw 1 rfl) Via.refl e0 S0 at_15 rfl (fun T65 X65 e65 => ?_)
    refine W.astoreN (q := 19) (L' := #[.val (.int p0), .val (.int v39), .val (.int (80 : Int32)), .val (.ref ka0), .unset, .unset]) X65 C at_18 rfl rfl rfl ?_
    refine W.goto (q := 89) X65 C at_19 (by decide) (by decide) ?_
    refine W.iloadN (q := 90) X65 C at_89 rfl rfl ?_
    refine W.i2b (q := 91) X65 C at_90 rfl ?_
    rw [show (80 : Int32).toInt8.toInt32 = (80 : Int32) by decide]
    refine W.istore (q := 93) (L' := #[.val (.int p0), .val (.int v39), .val (.int (80 : Int32)), .val (.ref ka0), .val (.int (80 : Int32)), .unset]) X65 C at_91 rfl rfl ?_
    refine W.iload (q := 95) X65 C at_93 rfl rfl ?_
    refine W.callS (q := 98) X65 C (W.ww hw 4 rfl) (W.ww hw 5 rfl) (W.ww hw 2 rfl) (W.ww hw 6 rfl) (by decide) (rm1_0 l Z a0 hw [] va kv ka0 ka1 ka2 ka3 ka4 ka5 h0 n0 Z0 SV EV VV F0 F1 F2 F3 F4 F5) e65 at_95 [(.int (80 : Int32))] [] rfl rfl pd__28B_29Lcom_2fexample_2flibcoffer_2flibcoffer_2fcore_2fFileKind_3b rfl rfl (by decide) (by decide) (by decide) (by decide) rfl (fun T66 w66 L66 X66 hQ66 => ?_)
    obtain ⟨rfl, NL66, K66⟩ := hQ66
    have N66 := Fr.app N0 NL66
    have EV_67 := EV.keep K66
    have VV_67 := VV.keep K66 nin0
    have E0_67 := E0.keep K66
    have F0_67 := F0.keep K66 nin0
    have E1_67 := E1.keep K66
    have F1_67 := F1.keep K66 nin0
    have E2_67 := E2.keep K66
    have F2_67 := F2.keep K66 nin0
    have E3_67 := E3.keep K66
    have F3_67 := F3.keep K66 nin0
    have E4_67 := E4.keep K66
    have F4_67 := F4.keep K66 nin0
    have E5_67 := E5.keep K66
    have F5_67 := F5.keep K66 nin0
    show W.Go p e below _ (T66.setTop (mkF m 98 #[.val (.int p0), .val (.int v39), .val (.int (80 : Int32)), .val (.ref ka0), .val (.int (80 : Int32)), .unset] [(.ref ka0)]))
    refine W.astore (q := 100) (L' := #[.val (.int p0), .val (.int v39), .val (.int (80 : Int32)), .val (.ref ka0), .val (.int (80 : Int32)), .val (.ref ka0)]) X66 C at_98 rfl rfl rfl ?_
    refine W.aload (q := 102) X66 C at_100 rfl rfl rfl ?_
    refine W.aloadN (q := 103) X66 C at_102 rfl rfl rfl ?_
    refine W.acmp (q := 106) X66 C rfl rfl (same := true) (decide_eq_true rfl) at_103 (by decide) (by decide) ?_
    refine W.aload (q := 108) X66 C at_106 rfl rfl rfl ?_
    refine W.callV (q := 111) X66 C (W.ww hw 29 rfl) (W.ww hw 30 rfl) (W.nf C (W.ww hw 32 rfl)) (W.ww hw 32 rfl) (W.ww hw 31 rfl) (W.ww hw 2 rfl) (W.ww hw 33 rfl) (by decide) (rm3 l Z a0 hw [] ka0 (80 : Int32) T66.heap n0 F0_67 rfl) rfl E0_67 at_108 [] [] rfl rfl pd__28_29B rfl rfl (by decide) (by decide) (by decide) (by decide) rfl (fun T68 w68 L68 X68 hQ68 => ?_)
    obtain ⟨rfl, NL68, e68⟩ := hQ68
    have N68 := Fr.app N66 NL68
    show W.Go p e below _ (T68.setTop (mkF m 111 #[.val (.int p0), .val (.int v39), .val (.int (80 : Int32)), .val (.ref ka0), .val (.int (80 : Int32)), .val (.ref ka0)] [(.int (80 : Int32))]))
    refine W.iload (q := 113) X68 C at_111 rfl rfl ?_
    refine W.icmpF (q := 116) X68 C at_113 rfl (by decide : W.cF .ne (80 : Int32) (80 : Int32)) ?_
    refine W.iconst (q := 117) (v := 1) X68 C at_116 rfl rfl ?_
    refine W.goto (q := 121) X68 C at_117 (by decide) (by decide) ?_
    exact W.retN X68 C (by simp) e68 at_121 rfl (by decide) (by decide) ⟨rfl, N68⟩
set_option maxRecDepth 65536 in
set_option maxHeartbeats 40000000 in
theorem comes_1 {Post : Tables → Env → Array Value → State → Outcome → State → Prop} (hpost : ∀ tb e args s v u, (limb_1_1.after args s (.returned v) u = true ∧ limb_1_2.after args s (.returned v) u = true ∧ True) → FrameEnd s (.returned v) u (Jvm.fieldLocs frame_1_writes args s ++ Jvm.arrayLocs frame_1_arrays args s ++ Jvm.staticLocs frame_1_statics s) 16 128 → Post tb e args s (.returned v) u) :
    ArmFor flags0 classFile x code maxLocals ret World_1 tables_1 room_1 Calls_1 rest_1 Pre_1 Post := by
  intro l hfl _ _ p e ha hc hk s m args below hf hA hF happ hP
  obtain ⟨hcalls, hrest, hpre⟩ := hP
  obtain ⟨-, -, -, hnamed, -, -, -, hat⟩ := (Spec.applies_iff hf).mp happ
  obtain ⟨hg, hn⟩ := and_e (Cond.before_iff.mp (show (Jvm.Cond.and given_1 narrow_1).before args s = true from hpre))
  obtain ⟨g1, g2⟩ := and_e hg
  obtain ⟨g3, g4⟩ := and_e hn
  obtain ⟨g5, g6⟩ := and_e g4
  obtain ⟨g7, g8⟩ := and_e g6
  obtain ⟨g9, g10⟩ := and_e g8
  obtain ⟨g11, g12⟩ := and_e g10
  obtain ⟨g13, g14⟩ := and_e g12
  obtain ⟨g15, g16⟩ := and_e g14
  obtain ⟨g17, g18⟩ := and_e g16
  obtain ⟨g19, g20⟩ := and_e g18
  obtain ⟨g21, g22⟩ := and_e g20
  obtain ⟨g23, g24⟩ := and_e g22
  obtain ⟨g25, g26⟩ := and_e g24
  obtain ⟨g27, g28⟩ := and_e g26
  obtain ⟨g29, g30⟩ := and_e g28
  obtain ⟨g31, g32⟩ := and_e g30
  obtain ⟨g33, g34⟩ := and_e g32
  obtain ⟨g35, g36⟩ := and_e g34
  obtain ⟨g37, g38⟩ := and_e g36
  obtain ⟨g39, g40⟩ := and_e g38
  obtain ⟨g41, g42⟩ := and_e g40
  obtain ⟨w0, rfl⟩ : ∃ w0 : Value, args = #[w0] := by
    have hs : args.size = 1 := by simpa [Cond.value, given_1] using g1
    obtain ⟨L⟩ := args
    match L, hs with
    | [w0], _ => exact ⟨w0, rfl⟩
  have hw := fun d (hd : d ∈ tables_1) => atoms_spec (ws := Jvm.Cond.code x code maxLocals ret :: tables_1) hat d (List.mem_cons_of_mem _ hd)
  have hfit : Fit s := fun {y c} hc i hi => by
    obtain ⟨ha, rfl⟩ := Array.getElem?_eq_some_iff.mp hc
    have q := List.all_eq_true.mp ((Array.all_eq_true_iff_forall_mem.mp hF) _ (Array.getElem_mem ha)) i (List.mem_range.mpr hi)
    simpa [Array.getElem?_eq_getElem hi] using q
  obtain ⟨i0, ei0⟩ := is_v g2
  obtain rfl : w0 = (.int i0) := Option.some.inj ei0
  obtain ⟨ka0, ev0⟩ := exa_v g3
  have E0 := Exa.start ev0 g3
  have S0 := Sta.start ev0 (Or.inr ⟨(W.ww hw 2 rfl), (W.ww hw 3 rfl)⟩)
  have F0 := W.fieldInt ev0 g33
  obtain ⟨ka1, ev1⟩ := exa_v g13
  have E1 := Exa.start ev1 g13
  have S1 := Sta.start ev1 (Or.inr ⟨(W.ww hw 2 rfl), (W.ww hw 19 rfl)⟩)
  have F1 := W.fieldInt ev1 g35
  obtain ⟨ka2, ev2⟩ := exa_v g17
  have E2 := Exa.start ev2 g17
  have S2 := Sta.start ev2 (Or.inr ⟨(W.ww hw 2 rfl), (W.ww hw 20 rfl)⟩)
  have F2 := W.fieldInt ev2 g37
  obtain ⟨ka3, ev3⟩ := exa_v g21
  have E3 := Exa.start ev3 g21
  have S3 := Sta.start ev3 (Or.inr ⟨(W.ww hw 2 rfl), (W.ww hw 21 rfl)⟩)
  have F3 := W.fieldInt ev3 g39
  obtain ⟨ka4, ev4⟩ := exa_v g25
  have E4 := Exa.start ev4 g25
  have S4 := Sta.start ev4 (Or.inr ⟨(W.ww hw 2 rfl), (W.ww hw 22 rfl)⟩)
  have F4 := W.fieldInt ev4 g41
  obtain ⟨ka5, ev5⟩ := exa_v g29
  have E5 := Exa.start ev5 g29
  have S5 := Sta.start ev5 (Or.inr ⟨(W.ww hw 2 rfl), (W.ww hw 23 rfl)⟩)
  have F5 := W.fieldInt ev5 g42
  obtain ⟨va, evV⟩ := arr_v g5
  obtain ⟨cl, AV⟩ := Arr.start evV g5
  have EV := Exa.start evV g7
  have SV := Sta.start evV (Or.inr ⟨(W.ww hw 2 rfl), (W.ww hw 11 rfl)⟩)
  obtain ⟨szV, lnV⟩ := W.lenAt AV evV g9
  have el0 := W.elemAt AV evV (Term.int_eval 0) (W.eqR ev0 g11)
  have el1 := W.elemAt AV evV (Term.int_eval 1) (W.eqR ev1 g15)
  have el2 := W.elemAt AV evV (Term.int_eval 2) (W.eqR ev2 g19)
  have el3 := W.elemAt AV evV (Term.int_eval 3) (W.eqR ev3 g23)
  have el4 := W.elemAt AV evV (Term.int_eval 4) (W.eqR ev4 g27)
  have el5 := W.elemAt AV evV (Term.int_eval 5) (W.eqR ev5 g31)
  have VV : Arv s s.heap va cl.cls (.object "com/example/libcoffer/libcoffer/core/FileKind") (6 : Int32) [(.ref ka0), (.ref ka1), (.ref ka2), (.ref ka3), (.ref ka4), (.ref ka5)] .null := Arv.start hfit AV szV lnV (by decide) rfl ⟨el0, el1, el2, el3, el4, el5, trivial⟩
  obtain ⟨n, o, h1, h2, h3, _, L, rfl, ⟨rfl, N⟩, hq⟩ := rm0 l s _ hw tables_1 i0 va cl.cls ka0 ka1 ka2 ka3 ka4 ka5 s.heap s.heap.size (Nat.le_refl _) SV EV VV S0 E0 S1 E1 S2 E2 S3 E3 S4 E4 S5 E5 F0 F1 F2 F3 F4 F5 p e ha hc hk s m _ below hf ((Spec.applies_iff_loose hf).mp happ).1 ⟨rfl, State.Warmed39.refl s, rfl⟩ trivial
  refine ⟨n, _, h1, h2, h3, hpost _ _ _ _ _ _ ⟨Cond.after_iff.mpr rfl, Cond.after_iff.mpr (eq_i res_at (Term.int_eval (1)) rfl), trivial⟩ ⟨hq.1, hq.2.1, (hq.2.2.sift fun y hy => Or.inr (N y hy)).mono (by decide) (by decide)⟩⟩
theorem main_1_1 : Claimed_1_1 := comes_1 fun _ _ _ _ _ _ h hF => ⟨h.1, hF⟩
theorem main_1_2 : Claimed_1_2 := comes_1 fun _ _ _ _ _ _ h hF => ⟨h.2.1, hF⟩
end Jvm.Pilot.@@N@@
namespace Jvm.Pilot.@@N@@
open Jvm Jvm.ClassFile Sem Op Lib Jvm.Free Jvm.Stand Jvm.Pilot.@@N@@.Jvm.D
/-! MADE BY PROGRAM (witnessworld.py) out of the Statement's table words and the real class files: 13 classes; the members and pool entries that the words name. The judged class is class 1, her method 1. -/
namespace start1
open Jvm.ClassFile
def u (s : String) : CpInfo := .utf8 (stringToUtf16 s)
/-- a pool by its gaps: so many unusable entries, then the entry; so many at the end -/
def gap : Nat → List CpInfo → List CpInfo
  | 0, r => r
  | n + 1, r => .unusable :: gap n r
def poolList (es : List (Nat × CpInfo)) (last : Nat) : List CpInfo := es.foldr (fun e r => gap e.1 (e.2 :: r)) (gap last [])
def pool (es : List (Nat × CpInfo)) (last : Nat) : Array CpInfo := ⟨poolList es last⟩
def fileOf (pool : Array CpInfo) (this : Nat) (attrs : Array Attribute := #[]) (ms : Array MethodInfo := #[]) (fl : Nat := 33) (sup : Nat := 0) (ifs : Array Nat := #[]) (fds : Array FieldInfo := #[]) : ClassFile where
  minorVersion := 0
  majorVersion := 65
  constantPool := pool
  accessFlags := fl
  thisClass := this
  superClass := sup
  interfaces := ifs
  fields := fds
  methods := ms
  attributes := attrs
def plain (name : String) (sup : Option ClassId) : Class where
  name := name
  kind := .ordinary
  loader := none
  accessFlags := 33
  super := sup
  interfaces := #[]
  cf := none
  fields := #[]
  methods := #[]
  instanceTypes := #[]
  staticTypes := #[]
  resolved := #[]
  callSites := []
  init := .initialized
  statics := none
  mirror := none

def pool0 : Array CpInfo := pool [(5, u "<init>"), (0, u "()V"), (1, .class_ 10), (1, u "java/lang/Object"), (85, u "clone"), (0, u "()Ljava/lang/Object;")] 26

def k0m0 : Method := { name := "<init>", desc := "()V", sig := { parameters := [], returnType := none }, accessFlags := 1, code := none }
def k0m1 : Method := { name := "clone", desc := "()Ljava/lang/Object;", sig := { parameters := [], returnType := some (.object "java/lang/Object") }, accessFlags := 260, code := none }
/-- java/lang/Object -/
def k0 : Class := { plain "java/lang/Object" none with
  accessFlags := 33
  interfaces := #[]
  cf := some (fileOf pool0 8 #[] #[{ accessFlags := 1, nameIndex := 5, descriptorIndex := 6, attributes := #[] }, { accessFlags := 260, nameIndex := 96, descriptorIndex := 97, attributes := #[] }] 33 0 #[] #[])
  fields := #[]
  methods := #[k0m0, k0m1]
  instanceTypes := #[]
  staticTypes := #[]
  resolved := Array.replicate 124 none
  statics := none }

def pool1 : Array CpInfo := pool [(2, .class_ 4), (1, u "java/lang/Object"), (0, u "<init>"), (0, u "()V"), (0, .integer 2147483647), (0, .fieldref 9 10), (0, .class_ 11), (0, .nameAndType 12 13), (0, u "com/example/libcoffer/libcoffer/core/FileKind"), (0, u "PUBLIC_PARAMETERS"), (0, u "Lcom/example/libcoffer/libcoffer/core/FileKind;"), (0, .fieldref 9 15), (0, .nameAndType 16 13), (0, u "MASTER_SECRET"), (0, .fieldref 9 18), (0, .nameAndType 19 13), (0, u "GATE_SECRET"), (0, .fieldref 9 21), (0, .nameAndType 22 13), (0, u "USER_KEY"), (0, .fieldref 9 24), (0, .nameAndType 25 13), (0, u "SEALED_OBJECT"), (0, .fieldref 9 27), (0, .nameAndType 28 13), (0, u "DOWNLOAD_REQUEST"), (0, .methodref 9 30), (0, .nameAndType 31 32), (0, u "fromCode"), (0, u "(B)Lcom/example/libcoffer/libcoffer/core/FileKind;"), (0, .methodref 9 34), (0, .nameAndType 35 36), (0, u "code"), (0, u "()B"), (0, .class_ 38), (0, u "com/example/libcoffer/libcoffer/core/FileKindFromCodePinLaw"), (2, u "law"), (0, u "(I)Z")] 6

def k1m0 : Method := { name := "<init>", desc := "()V", sig := { parameters := [], returnType := none }, accessFlags := 1, code := none }
def k1c1 : Code := { maxStack := 2, maxLocals := 6, code := code, exceptionTable := #[], attributes := #[] }
def k1m1 : Method := { name := "law", desc := "(I)Z", sig := { parameters := [.int], returnType := some .boolean }, accessFlags := 9, code := some k1c1 }
/-- com/example/libcoffer/libcoffer/core/FileKindFromCodePinLaw -/
def k1 : Class := { plain "com/example/libcoffer/libcoffer/core/FileKindFromCodePinLaw" (some 0) with
  accessFlags := 49
  interfaces := #[]
  cf := some (fileOf pool1 37 #[] #[{ accessFlags := 1, nameIndex := 5, descriptorIndex := 6, attributes := #[] }, { accessFlags := 9, nameIndex := 41, descriptorIndex := 42, attributes := #[] }] 49 2 #[] #[])
  fields := #[]
  methods := #[k1m0, k1m1]
  instanceTypes := #[]
  staticTypes := #[]
  resolved := Array.replicate 49 none
  statics := none }

def pool2 : Array CpInfo := pool [(1, .class_ 2), (0, u "java/lang/constant/Constable"), (0, .class_ 4), (0, u "java/lang/Object")] 6

/-- java/lang/constant/Constable -/
def k2 : Class := { plain "java/lang/constant/Constable" (some 0) with
  accessFlags := 1537
  interfaces := #[]
  cf := some (fileOf pool2 1 #[] #[] 1537 3 #[] #[])
  fields := #[]
  methods := #[]
  instanceTypes := #[]
  staticTypes := #[]
  resolved := Array.replicate 11 none
  statics := none }

def pool3 : Array CpInfo := pool [(1, .class_ 2), (0, u "java/lang/Comparable"), (0, .class_ 4), (0, u "java/lang/Object")] 7

/-- java/lang/Comparable -/
def k3 : Class := { plain "java/lang/Comparable" (some 0) with
  accessFlags := 1537
  interfaces := #[]
  cf := some (fileOf pool3 1 #[] #[] 1537 3 #[] #[])
  fields := #[]
  methods := #[]
  instanceTypes := #[]
  staticTypes := #[]
  resolved := Array.replicate 12 none
  statics := none }

def pool4 : Array CpInfo := pool [(1, .class_ 2), (0, u "java/io/Serializable"), (0, .class_ 4), (0, u "java/lang/Object")] 2

/-- java/io/Serializable -/
def k4 : Class := { plain "java/io/Serializable" (some 0) with
  accessFlags := 1537
  interfaces := #[]
  cf := some (fileOf pool4 1 #[] #[] 1537 3 #[] #[])
  fields := #[]
  methods := #[]
  instanceTypes := #[]
  staticTypes := #[]
  resolved := Array.replicate 7 none
  statics := none }

def pool5 : Array CpInfo := pool [(2, .class_ 4), (1, u "java/lang/Enum"), (0, u "name"), (0, u "Ljava/lang/String;"), (2, u "ordinal"), (0, u "I"), (1, .class_ 14), (1, u "java/lang/Object"), (4, u "hash"), (86, .class_ 108), (1, u "java/lang/Enum$EnumDesc"), (2, .class_ 112), (0, u "java/lang/constant/Constable"), (0, .class_ 114), (0, u "java/lang/Comparable"), (0, .class_ 116), (0, u "java/io/Serializable")] 87

/-- java/lang/Enum -/
def k5 : Class := { plain "java/lang/Enum" (some 0) with
  accessFlags := 1057
  interfaces := #[2, 3, 4]
  cf := some (fileOf pool5 2 #[.nestMembers #[106]] #[] 1057 12 #[111, 113, 115] #[{ accessFlags := 18, nameIndex := 5, descriptorIndex := 6, attributes := #[] }, { accessFlags := 18, nameIndex := 9, descriptorIndex := 10, attributes := #[] }, { accessFlags := 2, nameIndex := 19, descriptorIndex := 10, attributes := #[] }])
  fields := #[{ name := "name", type := (.object "java/lang/String"), accessFlags := 18, slot := 0, constantValue := 0 }, { name := "ordinal", type := .int, accessFlags := 18, slot := 1, constantValue := 0 }, { name := "hash", type := .int, accessFlags := 2, slot := 2, constantValue := 0 }]
  methods := #[]
  instanceTypes := #[(.object "java/lang/String"), .int, .int]
  staticTypes := #[]
  resolved := Array.replicate 204 none
  statics := none }

def pool6 : Array CpInfo := pool [(1, .class_ 2), (0, u "com/example/libcoffer/libcoffer/core/FileKind"), (2, u "PUBLIC_PARAMETERS"), (0, u "Lcom/example/libcoffer/libcoffer/core/FileKind;"), (2, u "MASTER_SECRET"), (2, u "GATE_SECRET"), (2, u "USER_KEY"), (2, u "SEALED_OBJECT"), (2, u "DOWNLOAD_REQUEST"), (0, .fieldref 1 23), (0, .nameAndType 24 25), (0, u "$VALUES"), (0, u "[Lcom/example/libcoffer/libcoffer/core/FileKind;"), (0, .methodref 27 28), (0, .class_ 25), (0, .nameAndType 29 30), (0, u "clone"), (0, u "()Ljava/lang/Object;"), (1, .class_ 34), (1, u "java/lang/Enum"), (2, .fieldref 1 38), (0, .nameAndType 39 40), (0, u "code"), (0, u "B"), (2, u "description"), (0, u "Ljava/lang/String;"), (2, u "newestVersion"), (0, u "I"), (0, .methodref 1 50), (0, .nameAndType 51 52), (0, u "values"), (0, u "()[Lcom/example/libcoffer/libcoffer/core/FileKind;"), (52, u "()B"), (5, u "fromCode"), (0, u "(B)Lcom/example/libcoffer/libcoffer/core/FileKind;")] 8

def k6c0 : Code := { maxStack := 1, maxLocals := 0, code := prog_10_method_1_code, exceptionTable := #[], attributes := #[] }
def k6m0 : Method := { name := "values", desc := "()[Lcom/example/libcoffer/libcoffer/core/FileKind;", sig := { parameters := [], returnType := some (.array (.object "com/example/libcoffer/libcoffer/core/FileKind")) }, accessFlags := 9, code := some k6c0 }
def k6c1 : Code := { maxStack := 1, maxLocals := 1, code := prog_10_method_3_code, exceptionTable := #[], attributes := #[] }
def k6m1 : Method := { name := "code", desc := "()B", sig := { parameters := [], returnType := some .byte }, accessFlags := 0, code := some k6c1 }
def k6c2 : Code := { maxStack := 7, maxLocals := 5, code := prog_10_method_7_code, exceptionTable := #[], attributes := #[] }
def k6m2 : Method := { name := "fromCode", desc := "(B)Lcom/example/libcoffer/libcoffer/core/FileKind;", sig := { parameters := [.byte], returnType := some (.object "com/example/libcoffer/libcoffer/core/FileKind") }, accessFlags := 8, code := some k6c2 }
/-- com/example/libcoffer/libcoffer/core/FileKind -/
def k6 : Class := { plain "com/example/libcoffer/libcoffer/core/FileKind" (some 5) with
  accessFlags := 16433
  interfaces := #[]
  cf := some (fileOf pool6 1 #[] #[{ accessFlags := 9, nameIndex := 51, descriptorIndex := 52, attributes := #[] }, { accessFlags := 0, nameIndex := 39, descriptorIndex := 105, attributes := #[] }, { accessFlags := 8, nameIndex := 111, descriptorIndex := 112, attributes := #[] }] 16433 32 #[] #[{ accessFlags := 16409, nameIndex := 5, descriptorIndex := 6, attributes := #[] }, { accessFlags := 16409, nameIndex := 9, descriptorIndex := 6, attributes := #[] }, { accessFlags := 16409, nameIndex := 12, descriptorIndex := 6, attributes := #[] }, { accessFlags := 16409, nameIndex := 15, descriptorIndex := 6, attributes := #[] }, { accessFlags := 16409, nameIndex := 18, descriptorIndex := 6, attributes := #[] }, { accessFlags := 16409, nameIndex := 21, descriptorIndex := 6, attributes := #[] }, { accessFlags := 18, nameIndex := 39, descriptorIndex := 40, attributes := #[] }, { accessFlags := 18, nameIndex := 43, descriptorIndex := 44, attributes := #[] }, { accessFlags := 18, nameIndex := 47, descriptorIndex := 48, attributes := #[] }, { accessFlags := 4122, nameIndex := 24, descriptorIndex := 25, attributes := #[] }])
  fields := #[{ name := "PUBLIC_PARAMETERS", type := (.object "com/example/libcoffer/libcoffer/core/FileKind"), accessFlags := 16409, slot := 0, constantValue := 0 }, { name := "MASTER_SECRET", type := (.object "com/example/libcoffer/libcoffer/core/FileKind"), accessFlags := 16409, slot := 1, constantValue := 0 }, { name := "GATE_SECRET", type := (.object "com/example/libcoffer/libcoffer/core/FileKind"), accessFlags := 16409, slot := 2, constantValue := 0 }, { name := "USER_KEY", type := (.object "com/example/libcoffer/libcoffer/core/FileKind"), accessFlags := 16409, slot := 3, constantValue := 0 }, { name := "SEALED_OBJECT", type := (.object "com/example/libcoffer/libcoffer/core/FileKind"), accessFlags := 16409, slot := 4, constantValue := 0 }, { name := "DOWNLOAD_REQUEST", type := (.object "com/example/libcoffer/libcoffer/core/FileKind"), accessFlags := 16409, slot := 5, constantValue := 0 }, { name := "code", type := .byte, accessFlags := 18, slot := 3, constantValue := 0 }, { name := "description", type := (.object "java/lang/String"), accessFlags := 18, slot := 4, constantValue := 0 }, { name := "newestVersion", type := .int, accessFlags := 18, slot := 5, constantValue := 0 }, { name := "$VALUES", type := (.array (.object "com/example/libcoffer/libcoffer/core/FileKind")), accessFlags := 4122, slot := 6, constantValue := 0 }]
  methods := #[k6m0, k6m1, k6m2]
  instanceTypes := #[(.object "java/lang/String"), .int, .int, .byte, (.object "java/lang/String"), .int]
  staticTypes := #[(.object "com/example/libcoffer/libcoffer/core/FileKind"), (.object "com/example/libcoffer/libcoffer/core/FileKind"), (.object "com/example/libcoffer/libcoffer/core/FileKind"), (.object "com/example/libcoffer/libcoffer/core/FileKind"), (.object "com/example/libcoffer/libcoffer/core/FileKind"), (.object "com/example/libcoffer/libcoffer/core/FileKind"), (.array (.object "com/example/libcoffer/libcoffer/core/FileKind"))]
  resolved := Array.replicate 121 none
  statics := some 0 }

def pool7 : Array CpInfo := pool [(1, .class_ 2), (0, u "java/lang/Cloneable"), (0, .class_ 4), (0, u "java/lang/Object")] 2

/-- java/lang/Cloneable -/
def k7 : Class := { plain "java/lang/Cloneable" (some 0) with
  accessFlags := 1537
  interfaces := #[]
  cf := some (fileOf pool7 1 #[] #[] 1537 3 #[] #[])
  fields := #[]
  methods := #[]
  instanceTypes := #[]
  staticTypes := #[]
  resolved := Array.replicate 7 none
  statics := none }

/-- the primitive byte -/
def k8 : Class := { plain "byte" none with kind := .primitive 'B', accessFlags := 0x411 }
/-- [B -/
def k9 : Class := { plain "[B" (some 0) with kind := .array 8 .byte, interfaces := #[7, 4], accessFlags := 1041 }

/-- the primitive int -/
def k10 : Class := { plain "int" none with kind := .primitive 'I', accessFlags := 0x411 }
/-- [I -/
def k11 : Class := { plain "[I" (some 0) with kind := .array 10 .int, interfaces := #[7, 4], accessFlags := 1041 }

/-- [Lcom/example/libcoffer/libcoffer/core/FileKind; -/
def k12 : Class := { plain "[Lcom/example/libcoffer/libcoffer/core/FileKind;" (some 0) with kind := .array 6 (.object "com/example/libcoffer/libcoffer/core/FileKind"), interfaces := #[7, 4], accessFlags := 1041 }

def heap : Heap := #[{ cls := 6, slots := #[.ref 2, .ref 3, .ref 4, .ref 5, .ref 6, .ref 7, .ref 1], vm := .statics 6 },
  { cls := 12, slots := #[.ref 2, .ref 3, .ref 4, .ref 5, .ref 6, .ref 7], vm := .none },
  { cls := 6, slots := #[.null, .int 0, .int 0, .int 80, .null, .int 0], vm := .none },
  { cls := 6, slots := #[.null, .int 1, .int 0, .int 77, .null, .int 0], vm := .none },
  { cls := 6, slots := #[.null, .int 2, .int 0, .int 71, .null, .int 0], vm := .none },
  { cls := 6, slots := #[.null, .int 3, .int 0, .int 75, .null, .int 0], vm := .none },
  { cls := 6, slots := #[.null, .int 4, .int 0, .int 83, .null, .int 0], vm := .none },
  { cls := 6, slots := #[.null, .int 5, .int 0, .int 82, .null, .int 0], vm := .none }]
def classes : Array Class := #[k0, k1, k2, k3, k4, k5, k6, k7, k8, k9, k10, k11, k12]
def interned : List (Array UInt16 × Addr) := []
def slotsUsed : Nat := 49
def theMethod : MethodId := ⟨1, 1⟩
def args0 : Array Value := #[.int 5]
def aboutOver (below : List Frame) : State where
  vm := { classes := classes, interned := interned.toArray }
  heap := heap
  slotsUsed := slotsUsed
  threads := #[{ frames := .invoking theMethod args0 :: below }]
def below0 : List Frame := [.native { method := ⟨0, 0⟩, args := #[] }]
def about1 : State := aboutOver below0
def p0 : Program := .bare "" "" ""
def e0 : Env := launch0.env 0 0 0
theorem w_frames : about1.frames = Frame.invoking theMethod args0 :: below0 := rfl
set_option maxRecDepth 65536 in
theorem w_args : argsFit about1.vm theMethod args0 = true := by decide +kernel
set_option maxRecDepth 65536 in
theorem w_heap : heapFits about1 = true := by decide +kernel
set_option maxRecDepth 65536 in
theorem w_runnable : about1.curStatus? = some .runnable := by decide +kernel
set_option maxRecDepth 65536 in
theorem w_alone : about1.alone = true := by decide +kernel
set_option maxRecDepth 65536 in
theorem w_named : about1.methodNamed? x = some theMethod := by decide +kernel
set_option maxRecDepth 65536 in
theorem w_hears : about1.hears theMethod below0 = true := by decide +kernel
set_option maxRecDepth 65536 in
theorem w_ripe : about1.ripe theMethod args0 below0 = true := by decide +kernel
theorem w_running : about1.status = .running := rfl
set_option maxRecDepth 65536 in
theorem w_room : about1.hasRoom e0.platform room_1 = true :=
  launch0.hasRoom_least _ room_1 (by decide +kernel) (by decide +kernel) (by decide +kernel) (by decide +kernel) (by decide +kernel) (by decide +kernel)
theorem allAtoms_all (ts : List Jvm.Cond) (a : Array Jvm.Value) (st : Jvm.State) : (allAtoms ts).before a st = ts.all (fun c => c.before a st) := by
  induction ts with
  | nil => rfl
  | cons c t ih =>
    show (Jvm.Cond.and c (allAtoms t)).before a st = _
    rw [Jvm.Cond.before_and, ih, List.all_cons]
def words1 : List Jvm.Cond := Jvm.Cond.code x code maxLocals ret :: tables_1
/-- a 'code' word, met by the world's own term for the bytes: nothing is compared byte by byte -/
theorem code_word {y : MethodName} {bytes : ByteArray} {mx : Nat} {rt : Option FieldType} {a : Array Value} {s : State} {m : MethodId} {meth : Method} {c : Code} (h1 : s.methodNamed? y = some m) (h2 : s.vm.method? m = some meth) (h3 : meth.code = some c) (h4 : c.code = bytes)
    (h5 : (c.maxLocals == mx && c.exceptionTable.isEmpty && decide (c.maxStack ≤ mostOperands) && decide (meth.sig.returnType = rt) && !meth.locks && decide (parseMethodDescriptor y.desc = some meth.sig)) = true) : (Jvm.Cond.code y bytes mx rt).before a s = true := by
  simp only [Bool.and_eq_true, beq_iff_eq, Bool.not_eq_true', decide_eq_true_eq] at h5
  obtain ⟨⟨⟨⟨⟨g1, g2⟩, g3⟩, g4⟩, g5⟩, g6⟩ := h5
  simp [Cond.before, Cond.holds, Cond.value, h1, h2, h3, h4, g1, g2, g3, g4, g5, g6]
def isCode : Jvm.Cond → Bool
  | .code _ _ _ _ => true
  | _ => false
theorem all_split {L : List Jvm.Cond} {P : Jvm.Cond → Bool} (h1 : L.all (fun c => isCode c || P c) = true) (h2 : ∀ c ∈ L.filter isCode, P c = true) : L.all P = true := by
  refine List.all_eq_true.mpr fun c hc => ?_
  have h := List.all_eq_true.mp h1 c hc
  rcases Bool.eq_false_or_eq_true (isCode c) with hi | hi
  · exact h2 c (List.mem_filter.mpr ⟨hc, hi⟩)
  · simpa [hi] using h
set_option maxRecDepth 65536 in
theorem w_c0 : (Jvm.Cond.code x code maxLocals ret).before args0 about1 = true := code_word (m := ⟨1, 1⟩) (meth := k1m1) (c := k1c1) (by decide +kernel) rfl rfl rfl (by decide +kernel)
set_option maxRecDepth 65536 in
theorem w_c1 : (Jvm.Cond.code ({ cls := "com/example/libcoffer/libcoffer/core/FileKind", name := "fromCode", desc := "(B)Lcom/example/libcoffer/libcoffer/core/FileKind;" } : Jvm.MethodName) prog_10_method_7_code (5 : Nat) (Option.some (Jvm.ClassFile.FieldType.object "com/example/libcoffer/libcoffer/core/FileKind"))).before args0 about1 = true := code_word (m := ⟨6, 2⟩) (meth := k6m2) (c := k6c2) (by decide +kernel) rfl rfl rfl (by decide +kernel)
set_option maxRecDepth 65536 in
theorem w_c2 : (Jvm.Cond.code ({ cls := "com/example/libcoffer/libcoffer/core/FileKind", name := "values", desc := "()[Lcom/example/libcoffer/libcoffer/core/FileKind;" } : Jvm.MethodName) prog_10_method_1_code (0 : Nat) (Option.some (Jvm.ClassFile.FieldType.array (Jvm.ClassFile.FieldType.object "com/example/libcoffer/libcoffer/core/FileKind")))).before args0 about1 = true := code_word (m := ⟨6, 0⟩) (meth := k6m0) (c := k6c0) (by decide +kernel) rfl rfl rfl (by decide +kernel)
set_option maxRecDepth 65536 in
theorem w_c3 : (Jvm.Cond.code ({ cls := "com/example/libcoffer/libcoffer/core/FileKind", name := "code", desc := "()B" } : Jvm.MethodName) prog_10_method_3_code (1 : Nat) (Option.some Jvm.ClassFile.FieldType.byte)).before args0 about1 = true := code_word (m := ⟨6, 1⟩) (meth := k6m1) (c := k6c1) (by decide +kernel) rfl rfl rfl (by decide +kernel)
def codes1 : List Jvm.Cond := [Jvm.Cond.code x code maxLocals ret, Jvm.Cond.code ({ cls := "com/example/libcoffer/libcoffer/core/FileKind", name := "fromCode", desc := "(B)Lcom/example/libcoffer/libcoffer/core/FileKind;" } : Jvm.MethodName) prog_10_method_7_code (5 : Nat) (Option.some (Jvm.ClassFile.FieldType.object "com/example/libcoffer/libcoffer/core/FileKind")), Jvm.Cond.code ({ cls := "com/example/libcoffer/libcoffer/core/FileKind", name := "values", desc := "()[Lcom/example/libcoffer/libcoffer/core/FileKind;" } : Jvm.MethodName) prog_10_method_1_code (0 : Nat) (Option.some (Jvm.ClassFile.FieldType.array (Jvm.ClassFile.FieldType.object "com/example/libcoffer/libcoffer/core/FileKind"))), Jvm.Cond.code ({ cls := "com/example/libcoffer/libcoffer/core/FileKind", name := "code", desc := "()B" } : Jvm.MethodName) prog_10_method_3_code (1 : Nat) (Option.some Jvm.ClassFile.FieldType.byte)]
set_option maxRecDepth 65536 in
theorem codes_eq : words1.filter isCode = codes1 := rfl
theorem w_codes : ∀ c ∈ words1.filter isCode, c.before args0 about1 = true := by
  rw [codes_eq]
  intro c hc
  simp only [codes1, List.mem_cons, List.not_mem_nil, or_false] at hc
  rcases hc with rfl | rfl | rfl | rfl
  · exact w_c0
  · exact w_c1
  · exact w_c2
  · exact w_c3
set_option maxRecDepth 65536 in
theorem w_t1 : (words1.take 24).all (fun c => isCode c || c.before args0 about1) = true := by decide +kernel
set_option maxRecDepth 65536 in
theorem w_t2 : (words1.drop 24).all (fun c => isCode c || c.before args0 about1) = true := by decide +kernel
theorem w_tables : (allAtoms (Jvm.Cond.code x code maxLocals ret :: tables_1)).before args0 about1 = true := by
  rw [allAtoms_all]
  show words1.all (fun c => c.before args0 about1) = true
  refine all_split ?_ w_codes
  rw [← List.take_append_drop 24 words1, List.all_append, w_t1, w_t2]
  rfl
set_option maxRecDepth 65536 in
theorem w_case : (Jvm.Cond.and given_1 narrow_1).before args0 about1 = true := by decide +kernel
theorem w_applies : (headSpec (Jvm.Cond.code x code maxLocals ret :: tables_1) room_1).applies x e0.platform about1 = true :=
  (Spec.applies_iff w_frames).mpr ⟨w_running, w_runnable, w_alone, w_named, w_hears, w_ripe, w_room, w_tables⟩
theorem atStart : AtStart classFile x code maxLocals ret World_1 tables_1 room_1 Calls_1 rest_1 Pre_1 launch0 p0 e0 about1 theMethod args0 below0 :=
  ⟨lists_1, trivial, launch0.admits_env _ _ _, launch0.least_env, fairChoices_fair.cas, fairChoices_fair.clock, w_frames, w_args, w_heap, w_applies, trivial, trivial, w_case⟩
end start1
theorem witness_1 : WitnessClaimed_1 := ⟨start1.p0, start1.e0, start1.about1, start1.theMethod, start1.args0, start1.below0, start1.atStart⟩
end Jvm.Pilot.@@N@@
