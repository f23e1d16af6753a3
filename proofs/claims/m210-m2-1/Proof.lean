import JvmDerived
import JvmDerived.Pilot.@@N@@Statement
import JvmDerived.Pilot.@@N@@Code
set_option linter.unusedVariables false
set_option linter.unusedSimpArgs false
namespace Jvm.Pilot.@@N@@
open Jvm Jvm.ClassFile Sem Op Lib Jvm.Free Jvm.Stand Jvm.LawKit Jvm.RoadKit Bundle Jvm.Pilot.@@N@@.Jvm.D
/-! OWN KIT: a walk in continuation form. Go F U: from U the run comes to an end of which F holds. -/
namespace W
def Go (p : Program) (e : Env) (below : List Frame) (F : Outcome → State → Prop) (U : State) : Prop :=
  ∃ s₂ o, Steps p.tables e below U s₂ ∧ s₂.status = .running ∧ Ended s₂ below o ∧ F o s₂
def Cx (p : Program) (s : State) (m : MethodId) (meth : Method) (c : Code) (Z : State) (bytes : ByteArray) (maxL : Nat) (own mname : String) (ret : Option FieldType) : Prop :=
  p.tables.exec = Jvm.exec ∧ Z.Warmed39 s.vm ∧ c.code = bytes ∧ c.maxLocals = maxL ∧ s.vm.findClass own = some m.cls ∧ meth.name = mname ∧ meth.sig.returnType = ret ∧ meth.locks = false
def Post (s : State) (Q : Option Value → Heap → List Loc → Prop) (k n : Nat) (o : Outcome) (U' : State) : Prop := ∃ v L, o = .returned v ∧ Q v U'.heap L ∧ FrameEnd s o U' L k n
theorem of {p : Program} {e : Env} {below : List Frame} {F : Outcome → State → Prop} {U U' : State} (h : ∀ t, Steps p.tables e below U' t → Steps p.tables e below U t) (k : Go p e below F U') : Go p e below F U := by
  obtain ⟨s₂, o, h1, h2⟩ := k
  exact ⟨s₂, o, h _ h1, h2⟩
theorem tr {p : Program} {e : Env} {below : List Frame} {F : Outcome → State → Prop} {U U' : State} (h : Steps p.tables e below U U') (k : Go p e below F U') : Go p e below F U := of (fun _ q => h.trans q) k
def cT : ClassFile.Cond → Int32 → Int32 → Prop
  | .eq, x, y => x = y
  | .ne, x, y => x ≠ y
  | .lt, x, y => x.toInt < y.toInt
  | .ge, x, y => y.toInt ≤ x.toInt
  | .gt, x, y => y.toInt < x.toInt
  | .le, x, y => x.toInt ≤ y.toInt
def cF : ClassFile.Cond → Int32 → Int32 → Prop
  | .eq, x, y => x ≠ y
  | .ne, x, y => x = y
  | .lt, x, y => y.toInt ≤ x.toInt
  | .ge, x, y => x.toInt < y.toInt
  | .gt, x, y => x.toInt ≤ y.toInt
  | .le, x, y => y.toInt < x.toInt
instance (cd : ClassFile.Cond) (x y : Int32) : Decidable (cT cd x y) := by cases cd <;> (simp only [cT]; infer_instance)
instance (cd : ClassFile.Cond) (x y : Int32) : Decidable (cF cd x y) := by cases cd <;> (simp only [cF]; infer_instance)
theorem holdsT {cd : ClassFile.Cond} {x y : Int32} (h : cT cd x y) : if_icmp.holds cd x y = true := by
  cases cd <;> simp only [cT] at h <;> simp [if_icmp.holds, h, Int32.lt_iff_toInt_lt, Int32.le_iff_toInt_le]
theorem holdsF {cd : ClassFile.Cond} {x y : Int32} (h : cF cd x y) : if_icmp.holds cd x y = false := by
  cases cd <;> simp only [cF] at h <;> simp [if_icmp.holds, h, Int32.lt_iff_toInt_lt, Int32.le_iff_toInt_le]
theorem cTF (cd : ClassFile.Cond) (x y : Int32) : cT cd x y ∨ cF cd x y := by
  cases cd <;> simp only [cT, cF] <;> first | omega | exact Decidable.em _ | exact (Decidable.em _).symm
theorem ww {a0 : Array Value} {Z : State} (hw : ∀ d ∈ tables_1, d.before a0 Z = true) (i : Nat) {d : Jvm.Cond} (h : tables_1[i]? = some d) : d.before a0 Z = true := hw _ (List.mem_of_getElem? h)
theorem small {P : Int32 → Prop} (K : Nat) (hK : ∀ i : Fin (K + 1), P (Int32.ofInt (i.1 : Int))) (k : Int32) (h1 : 0 ≤ k.toInt) (h2 : k.toInt ≤ K) : P k := by
  have e : Int32.ofInt ((k.toInt.toNat : Nat) : Int) = k := by rw [Int.toNat_of_nonneg h1]; exact Int32.ofInt_toInt k
  have := hK ⟨k.toInt.toNat, by omega⟩
  rw [e] at this; exact this
theorem eqR {args : Array Value} {s : State} {a b : Term} {idx : List Nat} {y : Addr} (hb : b.eval args s none idx s = some (.ref y)) (h : (Jvm.Cond.eq a b).value args s none s idx = some true) : a.eval args s none idx s = some (.ref y) := by
  cases ha : a.eval args s none idx s with
  | none => simp [Cond.value, ha] at h
  | some x =>
    have hx : x.isRef = true := by cases x <;> simp [Cond.value, ha, hb, Value.isRef] at h ⊢
    have q := gotT (eq_R ha hb hx rfl) h
    rw [q]
theorem elemAt {args : Array Value} {s : State} {t a : Term} {x : Addr} {j : Int32} {v : Value} {cl : Cell} {ty : FieldType} (A : Arr s s.heap x cl ty) (ht : t.eval args s none [] s = some (.ref x)) (hj : a.eval args s none [] s = some (.int j)) (h : (Term.elem t a).eval args s none [] s = some v) : cl.slots[j.toNatClampNeg]? = some v := (elem_in h ht hj A.1).2
theorem lenAt {args : Array Value} {s : State} {t : Term} {x : Addr} {z : Int32} {cl : Cell} {ty : FieldType} (A : Arr s s.heap x cl ty) (ht : t.eval args s none [] s = some (.ref x)) (h : (Jvm.Cond.eq (.length t) (.int z)).value args s none s [] = some true) : cl.slots.size < 2 ^ 31 ∧ cl.slots.size.toInt32 = z := by
  have h6 := eqv_i (Term.int_eval z) h
  have ha := A.fin (Vm.Alike.refl _)
  have sz : cl.slots.size < 2 ^ 31 := by
    refine Decidable.byContradiction fun q => ?_
    simp [Term.eval, ht, ha, q] at h6
  refine ⟨sz, ?_⟩
  rw [len_f ht ha sz] at h6
  exact Value.int.inj (Option.some.inj h6)
theorem narZ {x : Int32} (h : x = 0 ∨ x = 1) : narrow .boolean (.int x) = .int x := by rcases h with rfl | rfl <;> rfl
theorem fitZ {x : Int32} (h : x = 0 ∨ x = 1) : fits .boolean (.int x) = true := by rcases h with rfl | rfl <;> rfl
theorem fieldInt {args : Array Value} {s : State} {t : Term} {Cn n d : String} {k : Int32} {a : Addr} (ht : t.eval args s none [] s = some (.ref a)) (h : (Jvm.Cond.eq (.field t Cn n d) (.int k)).value args s none s [] = some true) : Fld s s.heap a Cn n d (.int k) := by
  exact Fld.start ((fld_at ht).symm.trans (eqv_i (Term.int_eval k) h))
section
variable {p : Program} {l : Launch} {e : Env} {R : Room} {s : State} {m : MethodId} {args : Array Value} {below : List Frame} {meth : Method} {c : Code} {T : State} {locs : List Loc} {cells slots : Nat} {Z : State} {a0 : Array Value} {h h0 : Heap} {F : Outcome → State → Prop} {bytes : ByteArray} {maxL : Nat} {own mname : String} {ret : Option FieldType} {pc q : Nat} {Ls L' : Array Slot} {S rest : List Value}
theorem bodyOf {y : MethodName} {ws : List Jvm.Cond} {rm : Room} {as : Array Value} {Q : Option Value → Heap → List Loc → Prop} (hp : plainFor y = true) (hef : ∀ m, entryFrame m as maxL = mkF m 0 Ls [])
    (body : ∀ p e s m below meth c s₁, Cx p s m meth c Z bytes maxL y.cls y.name ret → Stand p l e rm s m as below meth c s₁ [] 0 0 → s₁.heap = h0 → Go p e below (Post s Q rm.cells rm.slots) (s₁.setTop (mkF m 0 Ls []))) :
    MetFree l y (head1 (Jvm.Cond.code y bytes maxL ret :: ws) rm) (fun a U => a = as ∧ Z.Warmed39 U.vm ∧ U.heap = h0) (fun _ _ _ _ _ => True) (fun _ U o U' => ∃ v L, o = .returned v ∧ Q v U'.heap L ∧ FrameEnd U o U' L rm.cells rm.slots) := by
  refine MetFree.of_bodySF hp hisR ?_
  intro p e s m args below meth c s₁ Bd hml0 hP hK
  obtain ⟨rfl, hZ, hh⟩ := hP
  obtain ⟨s₂, o, h1, h2⟩ := body p e s m below meth c s₁ ⟨Bd.exec, hZ, Bd.bytes, hml0, findClass_of_methodNamed Bd.named, (name_of_methodNamed Bd.named Bd.method).1, Bd.returns, Bd.notSynchronized⟩ (Stand.of_body Bd) (by rw [← hh, Bd.state]; rfl)
  exact ⟨s₂, o, castTop (hef m) h1, h2⟩
/-! returns -/
theorem retN (X : Stand p l e R s m args below meth c T locs cells slots) {t : FieldType} (C : Cx p s m meth c Z bytes maxL own mname (some t)) (ht : t = .boolean ∨ t = .byte ∨ t = .char ∨ t = .short) (eT : T.heap = h) {z z' : Int32} (hd : decode bytes pc = .ok (.ireturn, 1)) (hz : narrow t (.int z) = .int z') {k n : Nat} (hk : cells ≤ k) (hn : slots ≤ n) {Q : Option Value → Heap → List Loc → Prop} (hQ : Q (some (.int z')) h locs) :
    Go p e below (Post s Q k n) (T.setTop (mkF m pc Ls (.int z :: rest))) := by
  obtain ⟨hx, hZ, hby, hml, hown, hnm, hret, hlk⟩ := C
  obtain ⟨fs, hr, hrun, hended, hW, hsame⟩ := X.leave (v := some (.int z')) (fun h => by rw [hret] at h; cases h)
  refine ⟨_, _, ?_, hrun, hended, _, _, rfl, ?_, ⟨_, rfl⟩, hW, hsame.mono hk hn⟩
  · have hm' : T.vm.method? m = some meth := X.method'
    have hd' := hb hby hd
    rcases ht with rfl | rfl | rfl | rfl
    all_goals
      show Steps p.tables e below (T.setTop { method := m, pc := pc, locals := Ls, stack := _ :: rest, locked := none }) _
      jvm_step X.here [X.here.top, hx, hd', hm', hret, hz]
      first | (intro acts; rw [hr _ acts rfl rfl rfl]) | rw [hr _ _ rfl rfl rfl]
      exact Steps.refl _
  · show Q _ T.heap _
    rw [eT]; exact hQ
theorem retI (X : Stand p l e R s m args below meth c T locs cells slots) (C : Cx p s m meth c Z bytes maxL own mname (some .int)) (eT : T.heap = h) {z : Int32} (hd : decode bytes pc = .ok (.ireturn, 1)) {k n : Nat} (hk : cells ≤ k) (hn : slots ≤ n) {Q : Option Value → Heap → List Loc → Prop} (hQ : Q (some (.int z)) h locs) :
    Go p e below (Post s Q k n) (T.setTop (mkF m pc Ls (.int z :: rest))) := by
  obtain ⟨hx, hZ, hby, hml, hown, hnm, hret, hlk⟩ := C
  obtain ⟨fs, hr, hrun, hended, hW, hsame⟩ := X.leave (v := some (.int z)) (fun h => by rw [hret] at h; cases h)
  refine ⟨_, _, ?_, hrun, hended, _, _, rfl, ?_, ⟨_, rfl⟩, hW, hsame.mono hk hn⟩
  · have hm' : T.vm.method? m = some meth := X.method'
    have hd' := hb hby hd
    have hn : narrow .int (.int z) = .int z := rfl
    show Steps p.tables e below (T.setTop { method := m, pc := pc, locals := Ls, stack := _ :: rest, locked := none }) _
    jvm_step X.here [X.here.top, hx, hd', hm', hret, hn]
    first | (intro acts; rw [hr _ acts rfl rfl rfl]) | rw [hr _ _ rfl rfl rfl]
    exact Steps.refl _
  · show Q _ T.heap _
    rw [eT]; exact hQ
theorem retJ (X : Stand p l e R s m args below meth c T locs cells slots) (C : Cx p s m meth c Z bytes maxL own mname (some .long)) (eT : T.heap = h) {z : Int64} (hd : decode bytes pc = .ok (.lreturn, 1)) {k n : Nat} (hk : cells ≤ k) (hn : slots ≤ n) {Q : Option Value → Heap → List Loc → Prop} (hQ : Q (some (.long z)) h locs) :
    Go p e below (Post s Q k n) (T.setTop (mkF m pc Ls (.long z :: rest))) := by
  obtain ⟨hx, hZ, hby, hml, hown, hnm, hret, hlk⟩ := C
  obtain ⟨fs, hr, hrun, hended, hW, hsame⟩ := X.leave (v := some (.long z)) (fun h => by rw [hret] at h; cases h)
  refine ⟨_, _, ?_, hrun, hended, _, _, rfl, ?_, ⟨_, rfl⟩, hW, hsame.mono hk hn⟩
  · have hm' : T.vm.method? m = some meth := X.method'
    have hd' := hb hby hd
    show Steps p.tables e below (T.setTop { method := m, pc := pc, locals := Ls, stack := _ :: rest, locked := none }) _
    jvm_step X.here [X.here.top, hx, hd', hm', hret, narrow]
    first | (intro acts; rw [hr _ acts rfl rfl rfl]) | rw [hr _ _ rfl rfl rfl]
    exact Steps.refl _
  · show Q _ T.heap _
    rw [eT]; exact hQ
theorem retA (X : Stand p l e R s m args below meth c T locs cells slots) {t : FieldType} (C : Cx p s m meth c Z bytes maxL own mname (some t)) (ht : t.isReference = true) (eT : T.heap = h) {z : Value} (hz : z.isRef = true) (hd : decode bytes pc = .ok (.areturn, 1)) {k n : Nat} (hk : cells ≤ k) (hn : slots ≤ n) {Q : Option Value → Heap → List Loc → Prop} (hQ : Q (some z) h locs) :
    Go p e below (Post s Q k n) (T.setTop (mkF m pc Ls (z :: rest))) := by
  obtain ⟨hx, hZ, hby, hml, hown, hnm, hret, hlk⟩ := C
  obtain ⟨fs, hr, hrun, hended, hW, hsame⟩ := X.leave (v := some z) (fun h => by rw [hret] at h; cases h)
  refine ⟨_, _, ?_, hrun, hended, _, _, rfl, ?_, ⟨_, rfl⟩, hW, hsame.mono hk hn⟩
  · have hm' : T.vm.method? m = some meth := X.method'
    have hd' := hb hby hd
    show Steps p.tables e below (T.setTop { method := m, pc := pc, locals := Ls, stack := _ :: rest, locked := none }) _
    jvm_step X.here [X.here.top, hx, hd', hm', hret, hz, ht]
    first | (intro acts; rw [hr _ acts rfl rfl rfl]) | rw [hr _ _ rfl rfl rfl]
    exact Steps.refl _
  · show Q _ T.heap _
    rw [eT]; exact hQ
theorem retV (X : Stand p l e R s m args below meth c T locs cells slots) (C : Cx p s m meth c Z bytes maxL own mname none) (eT : T.heap = h) (hd : decode bytes pc = .ok (.return_, 1)) {k n : Nat} (hk : cells ≤ k) (hn : slots ≤ n) {Q : Option Value → Heap → List Loc → Prop} (hQ : Q none h locs) :
    Go p e below (Post s Q k n) (T.setTop (mkF m pc Ls [])) := by
  obtain ⟨hx, hZ, hby, hml, hown, hnm, hret, hlk⟩ := C
  obtain ⟨fs, hr, hrun, hended, hW, hsame⟩ := X.leave (v := none) (fun _ => rfl)
  refine ⟨_, _, X.returnOut hx hret (hb hby hd) hr, hrun, hended, _, _, rfl, ?_, ⟨_, rfl⟩, hW, hsame.mono hk hn⟩
  show Q _ T.heap _
  rw [eT]; exact hQ
/-! plain steps -/
theorem iload (X : Stand p l e R s m args below meth c T locs cells slots) (C : Cx p s m meth c Z bytes maxL own mname ret) {k : Nat} {v : Int32} (hd : decode bytes pc = .ok (.iload k, 2)) (hl : Ls[k]? = some (.val (.int v))) (hq : pc + 2 = q) (K : Go p e below F (T.setTop (mkF m q Ls (.int v :: S)))) : Go p e below F (T.setTop (mkF m pc Ls S)) := by
  subst hq; exact of (fun t k => XS.iload X.here C.1 rfl (hb C.2.2.1 hd) hl k) K
theorem iloadN (X : Stand p l e R s m args below meth c T locs cells slots) (C : Cx p s m meth c Z bytes maxL own mname ret) {k : Fin 4} {v : Int32} (hd : decode bytes pc = .ok (.iload_n k, 1)) (hl : Ls[k.val]? = some (.val (.int v))) (hq : pc + 1 = q) (K : Go p e below F (T.setTop (mkF m q Ls (.int v :: S)))) : Go p e below F (T.setTop (mkF m pc Ls S)) := by
  subst hq; exact of (fun t k => XS.iloadN X.here C.1 rfl (hb C.2.2.1 hd) hl k) K
theorem lload (X : Stand p l e R s m args below meth c T locs cells slots) (C : Cx p s m meth c Z bytes maxL own mname ret) {k : Nat} {v : Int64} (hd : decode bytes pc = .ok (.lload k, 2)) (hl : Ls[k]? = some (.val (.long v))) (hq : pc + 2 = q) (K : Go p e below F (T.setTop (mkF m q Ls (.long v :: S)))) : Go p e below F (T.setTop (mkF m pc Ls S)) := by
  subst hq; exact of (fun t k => XS.lload X.here C.1 rfl (hb C.2.2.1 hd) hl k) K
theorem lloadN (X : Stand p l e R s m args below meth c T locs cells slots) (C : Cx p s m meth c Z bytes maxL own mname ret) {k : Fin 4} {v : Int64} (hd : decode bytes pc = .ok (.lload_n k, 1)) (hl : Ls[k.val]? = some (.val (.long v))) (hq : pc + 1 = q) (K : Go p e below F (T.setTop (mkF m q Ls (.long v :: S)))) : Go p e below F (T.setTop (mkF m pc Ls S)) := by
  subst hq; exact of (fun t k => XS.lloadN X.here C.1 rfl (hb C.2.2.1 hd) hl k) K
theorem aload (X : Stand p l e R s m args below meth c T locs cells slots) (C : Cx p s m meth c Z bytes maxL own mname ret) {k : Nat} {v : Value} (hd : decode bytes pc = .ok (.aload k, 2)) (hl : Ls[k]? = some (.val v)) (hv : v.isRef = true) (hq : pc + 2 = q) (K : Go p e below F (T.setTop (mkF m q Ls (v :: S)))) : Go p e below F (T.setTop (mkF m pc Ls S)) := by
  subst hq; exact of (fun t k => XS.aload X.here C.1 rfl (hb C.2.2.1 hd) hl hv k) K
theorem aloadN (X : Stand p l e R s m args below meth c T locs cells slots) (C : Cx p s m meth c Z bytes maxL own mname ret) {k : Fin 4} {v : Value} (hd : decode bytes pc = .ok (.aload_n k, 1)) (hl : Ls[k.val]? = some (.val v)) (hv : v.isRef = true) (hq : pc + 1 = q) (K : Go p e below F (T.setTop (mkF m q Ls (v :: S)))) : Go p e below F (T.setTop (mkF m pc Ls S)) := by
  subst hq; exact of (fun t k => XS.aloadN X.here C.1 rfl (hb C.2.2.1 hd) hl hv k) K
theorem istore (X : Stand p l e R s m args below meth c T locs cells slots) (C : Cx p s m meth c Z bytes maxL own mname ret) {k : Nat} {v : Int32} (hd : decode bytes pc = .ok (.istore k, 2)) (hl : storeLocals Ls k (.int v) = some L') (hq : pc + 2 = q) (K : Go p e below F (T.setTop (mkF m q L' S))) : Go p e below F (T.setTop (mkF m pc Ls (.int v :: S))) := by
  subst hq; exact of (fun t k => XS.istore X.here C.1 rfl (hb C.2.2.1 hd) rfl hl k) K
theorem istoreN (X : Stand p l e R s m args below meth c T locs cells slots) (C : Cx p s m meth c Z bytes maxL own mname ret) {k : Fin 4} {v : Int32} (hd : decode bytes pc = .ok (.istore_n k, 1)) (hl : storeLocals Ls k.val (.int v) = some L') (hq : pc + 1 = q) (K : Go p e below F (T.setTop (mkF m q L' S))) : Go p e below F (T.setTop (mkF m pc Ls (.int v :: S))) := by
  subst hq; exact of (fun t k => XS.istoreN X.here C.1 rfl (hb C.2.2.1 hd) rfl hl k) K
theorem lstore (X : Stand p l e R s m args below meth c T locs cells slots) (C : Cx p s m meth c Z bytes maxL own mname ret) {k : Nat} {v : Int64} (hd : decode bytes pc = .ok (.lstore k, 2)) (hl : storeLocals Ls k (.long v) = some L') (hq : pc + 2 = q) (K : Go p e below F (T.setTop (mkF m q L' S))) : Go p e below F (T.setTop (mkF m pc Ls (.long v :: S))) := by
  subst hq; exact of (fun t k => XS.lstore X.here C.1 rfl (hb C.2.2.1 hd) rfl hl k) K
theorem lstoreN (X : Stand p l e R s m args below meth c T locs cells slots) (C : Cx p s m meth c Z bytes maxL own mname ret) {k : Fin 4} {v : Int64} (hd : decode bytes pc = .ok (.lstore_n k, 1)) (hl : storeLocals Ls k.val (.long v) = some L') (hq : pc + 1 = q) (K : Go p e below F (T.setTop (mkF m q L' S))) : Go p e below F (T.setTop (mkF m pc Ls (.long v :: S))) := by
  subst hq; exact of (fun t k => XS.lstoreN X.here C.1 rfl (hb C.2.2.1 hd) rfl hl k) K
theorem astore (X : Stand p l e R s m args below meth c T locs cells slots) (C : Cx p s m meth c Z bytes maxL own mname ret) {k : Nat} {v : Value} (hd : decode bytes pc = .ok (.astore k, 2)) (hv : v.isRef = true) (hl : storeLocals Ls k v = some L') (hq : pc + 2 = q) (K : Go p e below F (T.setTop (mkF m q L' S))) : Go p e below F (T.setTop (mkF m pc Ls (v :: S))) := by
  subst hq; exact of (fun t k => XS.astore X.here C.1 rfl (hb C.2.2.1 hd) rfl hv hl k) K
theorem astoreN (X : Stand p l e R s m args below meth c T locs cells slots) (C : Cx p s m meth c Z bytes maxL own mname ret) {k : Fin 4} {v : Value} (hd : decode bytes pc = .ok (.astore_n k, 1)) (hv : v.isRef = true) (hl : storeLocals Ls k.val v = some L') (hq : pc + 1 = q) (K : Go p e below F (T.setTop (mkF m q L' S))) : Go p e below F (T.setTop (mkF m pc Ls (v :: S))) := by
  subst hq; exact of (fun t k => XS.astoreN X.here C.1 rfl (hb C.2.2.1 hd) rfl hv hl k) K
theorem iinc (X : Stand p l e R s m args below meth c T locs cells slots) (C : Cx p s m meth c Z bytes maxL own mname ret) {k : Nat} {i : Int} {x y : Int32} (hd : decode bytes pc = .ok (.iinc k i, 3)) (hl : Ls[k]? = some (.val (.int x))) (hy : x + Int32.ofInt i = y) (hl' : storeLocals Ls k (.int y) = some L') (hq : pc + 3 = q) (K : Go p e below F (T.setTop (mkF m q L' S))) : Go p e below F (T.setTop (mkF m pc Ls S)) := by
  subst hq hy; exact of (fun t k => XS.iinc X.here C.1 rfl (hb C.2.2.1 hd) hl hl' k) K
theorem iconst (X : Stand p l e R s m args below meth c T locs cells slots) (C : Cx p s m meth c Z bytes maxL own mname ret) {i : Int} {v : Int32} (hd : decode bytes pc = .ok (.iconst i, 1)) (hi : Int32.ofInt i = v) (hq : pc + 1 = q) (K : Go p e below F (T.setTop (mkF m q Ls (.int v :: S)))) : Go p e below F (T.setTop (mkF m pc Ls S)) := by
  subst hq hi; exact of (fun t k => XS.iconst X.here C.1 rfl (hb C.2.2.1 hd) k) K
theorem bipush (X : Stand p l e R s m args below meth c T locs cells slots) (C : Cx p s m meth c Z bytes maxL own mname ret) {i : Int} {v : Int32} (hd : decode bytes pc = .ok (.bipush i, 2)) (hi : (Int8.ofInt i).toInt32 = v) (hq : pc + 2 = q) (K : Go p e below F (T.setTop (mkF m q Ls (.int v :: S)))) : Go p e below F (T.setTop (mkF m pc Ls S)) := by
  subst hq hi; exact of (fun t k => XS.bipush X.here C.1 rfl (hb C.2.2.1 hd) k) K
theorem sipush (X : Stand p l e R s m args below meth c T locs cells slots) (C : Cx p s m meth c Z bytes maxL own mname ret) {i : Int} {v : Int32} (hd : decode bytes pc = .ok (.sipush i, 3)) (hi : (Int16.ofInt i).toInt32 = v) (hq : pc + 3 = q) (K : Go p e below F (T.setTop (mkF m q Ls (.int v :: S)))) : Go p e below F (T.setTop (mkF m pc Ls S)) := by
  subst hq hi; exact of (fun t k => XS.sipush X.here C.1 rfl (hb C.2.2.1 hd) k) K
theorem lconst0 (X : Stand p l e R s m args below meth c T locs cells slots) (C : Cx p s m meth c Z bytes maxL own mname ret) (hd : decode bytes pc = .ok (.lconst 0, 1)) (hq : pc + 1 = q) (K : Go p e below F (T.setTop (mkF m q Ls (.long 0 :: S)))) : Go p e below F (T.setTop (mkF m pc Ls S)) := by
  subst hq; exact of (fun t k => XS.lconst X.here C.1 rfl (hb C.2.2.1 hd) k) K
theorem lconst1 (X : Stand p l e R s m args below meth c T locs cells slots) (C : Cx p s m meth c Z bytes maxL own mname ret) (hd : decode bytes pc = .ok (.lconst 1, 1)) (hq : pc + 1 = q) (K : Go p e below F (T.setTop (mkF m q Ls (.long 1 :: S)))) : Go p e below F (T.setTop (mkF m pc Ls S)) := by
  subst hq; exact of (fun t k => XS.lconst X.here C.1 rfl (hb C.2.2.1 hd) k) K
theorem ldcI (X : Stand p l e R s m args below meth c T locs cells slots) (C : Cx p s m meth c Z bytes maxL own mname ret) {i : Nat} {v : Int32} (w : (Jvm.Cond.constant own i v).before a0 Z = true) (hd : decode bytes pc = .ok (.ldc i, 2)) (hq : pc + 2 = q) (K : Go p e below F (T.setTop (mkF m q Ls (.int v :: S)))) : Go p e below F (T.setTop (mkF m pc Ls S)) := by
  subst hq; exact of (X.ldcInt C.1 C.2.2.2.2.1 (mvT C.2.1 w) (g := mkF m pc Ls S) rfl (hb C.2.2.1 hd)) K
theorem ldcL (X : Stand p l e R s m args below meth c T locs cells slots) (C : Cx p s m meth c Z bytes maxL own mname ret) {i : Nat} {v : Int64} (w : (Jvm.Cond.constantLong own i v).before a0 Z = true) (hd : decode bytes pc = .ok (.ldc2_w i, 3)) (hq : pc + 3 = q) (K : Go p e below F (T.setTop (mkF m q Ls (.long v :: S)))) : Go p e below F (T.setTop (mkF m pc Ls S)) := by
  subst hq; exact of (X.ldc2Long C.1 C.2.2.2.2.1 (mvT C.2.1 w) (g := mkF m pc Ls S) rfl (hb C.2.2.1 hd)) K
theorem aconst (X : Stand p l e R s m args below meth c T locs cells slots) (C : Cx p s m meth c Z bytes maxL own mname ret) (hd : decode bytes pc = .ok (.aconst_null, 1)) (hq : pc + 1 = q) (K : Go p e below F (T.setTop (mkF m q Ls (.null :: S)))) : Go p e below F (T.setTop (mkF m pc Ls S)) := by
  subst hq; exact of (fun t k => XS.aconstNull X.here C.1 rfl (hb C.2.2.1 hd) k) K
theorem iadd (X : Stand p l e R s m args below meth c T locs cells slots) (C : Cx p s m meth c Z bytes maxL own mname ret) {x : Int32} {y : Int32} (hd : decode bytes pc = .ok (.iadd, 1)) (hq : pc + 1 = q) (K : Go p e below F (T.setTop (mkF m q Ls (.int (x + y) :: S)))) : Go p e below F (T.setTop (mkF m pc Ls (.int y :: .int x :: S))) := by
  subst hq; exact of (fun t k => XS.iadd X.here C.1 rfl (hb C.2.2.1 hd) rfl k) K
theorem ladd (X : Stand p l e R s m args below meth c T locs cells slots) (C : Cx p s m meth c Z bytes maxL own mname ret) {x : Int64} {y : Int64} (hd : decode bytes pc = .ok (.ladd, 1)) (hq : pc + 1 = q) (K : Go p e below F (T.setTop (mkF m q Ls (.long (x + y) :: S)))) : Go p e below F (T.setTop (mkF m pc Ls (.long y :: .long x :: S))) := by
  subst hq; exact of (fun t k => XS.ladd X.here C.1 rfl (hb C.2.2.1 hd) rfl k) K
theorem isub (X : Stand p l e R s m args below meth c T locs cells slots) (C : Cx p s m meth c Z bytes maxL own mname ret) {x : Int32} {y : Int32} (hd : decode bytes pc = .ok (.isub, 1)) (hq : pc + 1 = q) (K : Go p e below F (T.setTop (mkF m q Ls (.int (x - y) :: S)))) : Go p e below F (T.setTop (mkF m pc Ls (.int y :: .int x :: S))) := by
  subst hq; exact of (fun t k => XS.isub X.here C.1 rfl (hb C.2.2.1 hd) rfl k) K
theorem lsub (X : Stand p l e R s m args below meth c T locs cells slots) (C : Cx p s m meth c Z bytes maxL own mname ret) {x : Int64} {y : Int64} (hd : decode bytes pc = .ok (.lsub, 1)) (hq : pc + 1 = q) (K : Go p e below F (T.setTop (mkF m q Ls (.long (x - y) :: S)))) : Go p e below F (T.setTop (mkF m pc Ls (.long y :: .long x :: S))) := by
  subst hq; exact of (fun t k => XS.lsub X.here C.1 rfl (hb C.2.2.1 hd) rfl k) K
theorem imul (X : Stand p l e R s m args below meth c T locs cells slots) (C : Cx p s m meth c Z bytes maxL own mname ret) {x : Int32} {y : Int32} (hd : decode bytes pc = .ok (.imul, 1)) (hq : pc + 1 = q) (K : Go p e below F (T.setTop (mkF m q Ls (.int (x * y) :: S)))) : Go p e below F (T.setTop (mkF m pc Ls (.int y :: .int x :: S))) := by
  subst hq; exact of (fun t k => XS.imul X.here C.1 rfl (hb C.2.2.1 hd) rfl k) K
theorem lmul (X : Stand p l e R s m args below meth c T locs cells slots) (C : Cx p s m meth c Z bytes maxL own mname ret) {x : Int64} {y : Int64} (hd : decode bytes pc = .ok (.lmul, 1)) (hq : pc + 1 = q) (K : Go p e below F (T.setTop (mkF m q Ls (.long (x * y) :: S)))) : Go p e below F (T.setTop (mkF m pc Ls (.long y :: .long x :: S))) := by
  subst hq; exact of (fun t k => XS.lmul X.here C.1 rfl (hb C.2.2.1 hd) rfl k) K
theorem iand (X : Stand p l e R s m args below meth c T locs cells slots) (C : Cx p s m meth c Z bytes maxL own mname ret) {x : Int32} {y : Int32} (hd : decode bytes pc = .ok (.iand, 1)) (hq : pc + 1 = q) (K : Go p e below F (T.setTop (mkF m q Ls (.int (x &&& y) :: S)))) : Go p e below F (T.setTop (mkF m pc Ls (.int y :: .int x :: S))) := by
  subst hq; exact of (fun t k => XS.iand X.here C.1 rfl (hb C.2.2.1 hd) rfl k) K
theorem land (X : Stand p l e R s m args below meth c T locs cells slots) (C : Cx p s m meth c Z bytes maxL own mname ret) {x : Int64} {y : Int64} (hd : decode bytes pc = .ok (.land, 1)) (hq : pc + 1 = q) (K : Go p e below F (T.setTop (mkF m q Ls (.long (x &&& y) :: S)))) : Go p e below F (T.setTop (mkF m pc Ls (.long y :: .long x :: S))) := by
  subst hq; exact of (fun t k => XS.land X.here C.1 rfl (hb C.2.2.1 hd) rfl k) K
theorem ior (X : Stand p l e R s m args below meth c T locs cells slots) (C : Cx p s m meth c Z bytes maxL own mname ret) {x : Int32} {y : Int32} (hd : decode bytes pc = .ok (.ior, 1)) (hq : pc + 1 = q) (K : Go p e below F (T.setTop (mkF m q Ls (.int (x ||| y) :: S)))) : Go p e below F (T.setTop (mkF m pc Ls (.int y :: .int x :: S))) := by
  subst hq; exact of (fun t k => XS.ior X.here C.1 rfl (hb C.2.2.1 hd) rfl k) K
theorem lor (X : Stand p l e R s m args below meth c T locs cells slots) (C : Cx p s m meth c Z bytes maxL own mname ret) {x : Int64} {y : Int64} (hd : decode bytes pc = .ok (.lor, 1)) (hq : pc + 1 = q) (K : Go p e below F (T.setTop (mkF m q Ls (.long (x ||| y) :: S)))) : Go p e below F (T.setTop (mkF m pc Ls (.long y :: .long x :: S))) := by
  subst hq; exact of (fun t k => XS.lor X.here C.1 rfl (hb C.2.2.1 hd) rfl k) K
theorem ixor (X : Stand p l e R s m args below meth c T locs cells slots) (C : Cx p s m meth c Z bytes maxL own mname ret) {x : Int32} {y : Int32} (hd : decode bytes pc = .ok (.ixor, 1)) (hq : pc + 1 = q) (K : Go p e below F (T.setTop (mkF m q Ls (.int (x ^^^ y) :: S)))) : Go p e below F (T.setTop (mkF m pc Ls (.int y :: .int x :: S))) := by
  subst hq; exact of (fun t k => XS.ixor X.here C.1 rfl (hb C.2.2.1 hd) rfl k) K
theorem lxor (X : Stand p l e R s m args below meth c T locs cells slots) (C : Cx p s m meth c Z bytes maxL own mname ret) {x : Int64} {y : Int64} (hd : decode bytes pc = .ok (.lxor, 1)) (hq : pc + 1 = q) (K : Go p e below F (T.setTop (mkF m q Ls (.long (x ^^^ y) :: S)))) : Go p e below F (T.setTop (mkF m pc Ls (.long y :: .long x :: S))) := by
  subst hq; exact of (fun t k => XS.lxor X.here C.1 rfl (hb C.2.2.1 hd) rfl k) K
theorem ishl (X : Stand p l e R s m args below meth c T locs cells slots) (C : Cx p s m meth c Z bytes maxL own mname ret) {x : Int32} {y : Int32} (hd : decode bytes pc = .ok (.ishl, 1)) (hq : pc + 1 = q) (K : Go p e below F (T.setTop (mkF m q Ls (.int (x <<< (y &&& 31)) :: S)))) : Go p e below F (T.setTop (mkF m pc Ls (.int y :: .int x :: S))) := by
  subst hq; exact of (fun t k => XS.ishl X.here C.1 rfl (hb C.2.2.1 hd) rfl k) K
theorem ishr (X : Stand p l e R s m args below meth c T locs cells slots) (C : Cx p s m meth c Z bytes maxL own mname ret) {x : Int32} {y : Int32} (hd : decode bytes pc = .ok (.ishr, 1)) (hq : pc + 1 = q) (K : Go p e below F (T.setTop (mkF m q Ls (.int (x >>> (y &&& 31)) :: S)))) : Go p e below F (T.setTop (mkF m pc Ls (.int y :: .int x :: S))) := by
  subst hq; exact of (fun t k => XS.ishr X.here C.1 rfl (hb C.2.2.1 hd) rfl k) K
theorem iushr (X : Stand p l e R s m args below meth c T locs cells slots) (C : Cx p s m meth c Z bytes maxL own mname ret) {x : Int32} {y : Int32} (hd : decode bytes pc = .ok (.iushr, 1)) (hq : pc + 1 = q) (K : Go p e below F (T.setTop (mkF m q Ls (.int ((x.toUInt32 >>> (y &&& 31).toUInt32).toInt32) :: S)))) : Go p e below F (T.setTop (mkF m pc Ls (.int y :: .int x :: S))) := by
  subst hq; exact of (fun t k => XS.iushr X.here C.1 rfl (hb C.2.2.1 hd) rfl k) K
theorem lshl (X : Stand p l e R s m args below meth c T locs cells slots) (C : Cx p s m meth c Z bytes maxL own mname ret) {x : Int64} {y : Int32} (hd : decode bytes pc = .ok (.lshl, 1)) (hq : pc + 1 = q) (K : Go p e below F (T.setTop (mkF m q Ls (.long (x <<< (y &&& 0x3f).toInt64) :: S)))) : Go p e below F (T.setTop (mkF m pc Ls (.int y :: .long x :: S))) := by
  subst hq; exact of (fun t k => XS.lshl X.here C.1 rfl (hb C.2.2.1 hd) rfl k) K
theorem lshr (X : Stand p l e R s m args below meth c T locs cells slots) (C : Cx p s m meth c Z bytes maxL own mname ret) {x : Int64} {y : Int32} (hd : decode bytes pc = .ok (.lshr, 1)) (hq : pc + 1 = q) (K : Go p e below F (T.setTop (mkF m q Ls (.long (x >>> (y &&& 0x3f).toInt64) :: S)))) : Go p e below F (T.setTop (mkF m pc Ls (.int y :: .long x :: S))) := by
  subst hq; exact of (fun t k => XS.lshr X.here C.1 rfl (hb C.2.2.1 hd) rfl k) K
theorem lushr (X : Stand p l e R s m args below meth c T locs cells slots) (C : Cx p s m meth c Z bytes maxL own mname ret) {x : Int64} {y : Int32} (hd : decode bytes pc = .ok (.lushr, 1)) (hq : pc + 1 = q) (K : Go p e below F (T.setTop (mkF m q Ls (.long ((x.toUInt64 >>> (y &&& 0x3f).toInt64.toUInt64).toInt64) :: S)))) : Go p e below F (T.setTop (mkF m pc Ls (.int y :: .long x :: S))) := by
  subst hq; exact of (fun t k => XS.lushr X.here C.1 rfl (hb C.2.2.1 hd) rfl k) K
theorem ineg (X : Stand p l e R s m args below meth c T locs cells slots) (C : Cx p s m meth c Z bytes maxL own mname ret) {x : Int32} (hd : decode bytes pc = .ok (.ineg, 1)) (hq : pc + 1 = q) (K : Go p e below F (T.setTop (mkF m q Ls (.int (-x) :: S)))) : Go p e below F (T.setTop (mkF m pc Ls (.int x :: S))) := by
  subst hq; exact of (fun t k => XS.ineg X.here C.1 rfl (hb C.2.2.1 hd) rfl k) K
theorem lneg (X : Stand p l e R s m args below meth c T locs cells slots) (C : Cx p s m meth c Z bytes maxL own mname ret) {x : Int64} (hd : decode bytes pc = .ok (.lneg, 1)) (hq : pc + 1 = q) (K : Go p e below F (T.setTop (mkF m q Ls (.long (-x) :: S)))) : Go p e below F (T.setTop (mkF m pc Ls (.long x :: S))) := by
  subst hq; exact of (fun t k => XS.lneg X.here C.1 rfl (hb C.2.2.1 hd) rfl k) K
theorem i2l (X : Stand p l e R s m args below meth c T locs cells slots) (C : Cx p s m meth c Z bytes maxL own mname ret) {x : Int32} (hd : decode bytes pc = .ok (.i2l, 1)) (hq : pc + 1 = q) (K : Go p e below F (T.setTop (mkF m q Ls (.long (x.toInt64) :: S)))) : Go p e below F (T.setTop (mkF m pc Ls (.int x :: S))) := by
  subst hq; exact of (fun t k => XS.i2l X.here C.1 rfl (hb C.2.2.1 hd) rfl k) K
theorem l2i (X : Stand p l e R s m args below meth c T locs cells slots) (C : Cx p s m meth c Z bytes maxL own mname ret) {x : Int64} (hd : decode bytes pc = .ok (.l2i, 1)) (hq : pc + 1 = q) (K : Go p e below F (T.setTop (mkF m q Ls (.int (x.toInt32) :: S)))) : Go p e below F (T.setTop (mkF m pc Ls (.long x :: S))) := by
  subst hq; exact of (fun t k => XS.l2i X.here C.1 rfl (hb C.2.2.1 hd) rfl k) K
theorem i2b (X : Stand p l e R s m args below meth c T locs cells slots) (C : Cx p s m meth c Z bytes maxL own mname ret) {x : Int32} (hd : decode bytes pc = .ok (.i2b, 1)) (hq : pc + 1 = q) (K : Go p e below F (T.setTop (mkF m q Ls (.int (x.toInt8.toInt32) :: S)))) : Go p e below F (T.setTop (mkF m pc Ls (.int x :: S))) := by
  subst hq; exact of (fun t k => XS.i2b X.here C.1 rfl (hb C.2.2.1 hd) rfl k) K
theorem i2s (X : Stand p l e R s m args below meth c T locs cells slots) (C : Cx p s m meth c Z bytes maxL own mname ret) {x : Int32} (hd : decode bytes pc = .ok (.i2s, 1)) (hq : pc + 1 = q) (K : Go p e below F (T.setTop (mkF m q Ls (.int (x.toInt16.toInt32) :: S)))) : Go p e below F (T.setTop (mkF m pc Ls (.int x :: S))) := by
  subst hq; exact of (fun t k => XS.i2s X.here C.1 rfl (hb C.2.2.1 hd) rfl k) K
theorem i2c (X : Stand p l e R s m args below meth c T locs cells slots) (C : Cx p s m meth c Z bytes maxL own mname ret) {x : Int32} (hd : decode bytes pc = .ok (.i2c, 1)) (hq : pc + 1 = q) (K : Go p e below F (T.setTop (mkF m q Ls (.int (x.toUInt32.toUInt16.toUInt32.toInt32) :: S)))) : Go p e below F (T.setTop (mkF m pc Ls (.int x :: S))) := by
  subst hq; exact of (fun t k => XS.i2c X.here C.1 rfl (hb C.2.2.1 hd) rfl k) K
theorem idiv (X : Stand p l e R s m args below meth c T locs cells slots) (C : Cx p s m meth c Z bytes maxL own mname ret) {x y : Int32} (hd : decode bytes pc = .ok (.idiv, 1)) (hy : y ≠ 0) (hq : pc + 1 = q) (K : Go p e below F (T.setTop (mkF m q Ls (.int (x / y) :: S)))) : Go p e below F (T.setTop (mkF m pc Ls (.int y :: .int x :: S))) := by
  subst hq; exact of (fun t k => XS.idiv X.here C.1 rfl (hb C.2.2.1 hd) rfl hy k) K
theorem irem (X : Stand p l e R s m args below meth c T locs cells slots) (C : Cx p s m meth c Z bytes maxL own mname ret) {x y : Int32} (hd : decode bytes pc = .ok (.irem, 1)) (hy : y ≠ 0) (hq : pc + 1 = q) (K : Go p e below F (T.setTop (mkF m q Ls (.int (x % y) :: S)))) : Go p e below F (T.setTop (mkF m pc Ls (.int y :: .int x :: S))) := by
  subst hq; exact of (fun t k => iremM (g := mkF m pc Ls (.int y :: .int x :: S)) X C.1 rfl (hb C.2.2.1 hd) rfl hy k) K
theorem ldiv (X : Stand p l e R s m args below meth c T locs cells slots) (C : Cx p s m meth c Z bytes maxL own mname ret) {x y : Int64} (hd : decode bytes pc = .ok (.ldiv, 1)) (hy : y ≠ 0) (hq : pc + 1 = q) (K : Go p e below F (T.setTop (mkF m q Ls (.long (x / y) :: S)))) : Go p e below F (T.setTop (mkF m pc Ls (.long y :: .long x :: S))) := by
  subst hq; exact of (fun t k => XS.ldiv X.here C.1 rfl (hb C.2.2.1 hd) rfl hy k) K
theorem lcmp (X : Stand p l e R s m args below meth c T locs cells slots) (C : Cx p s m meth c Z bytes maxL own mname ret) {x y : Int64} (hd : decode bytes pc = .ok (.lcmp, 1)) (hq : pc + 1 = q) (K : Go p e below F (T.setTop (mkF m q Ls (.int (lcmpW x y) :: S)))) : Go p e below F (T.setTop (mkF m pc Ls (.long y :: .long x :: S))) := by
  subst hq; exact of (fun t k => XS.lcmp X.here C.1 rfl (hb C.2.2.1 hd) rfl k) K
theorem dup (X : Stand p l e R s m args below meth c T locs cells slots) (C : Cx p s m meth c Z bytes maxL own mname ret) {v : Value} (hd : decode bytes pc = .ok (.dup, 1)) (hv : v.category = 1) (hq : pc + 1 = q) (K : Go p e below F (T.setTop (mkF m q Ls (v :: v :: S)))) : Go p e below F (T.setTop (mkF m pc Ls (v :: S))) := by
  subst hq; exact of (fun t k => XS.dup X.here C.1 rfl (hb C.2.2.1 hd) rfl hv k) K
theorem dupX1 (X : Stand p l e R s m args below meth c T locs cells slots) (C : Cx p s m meth c Z bytes maxL own mname ret) {v w : Value} (hd : decode bytes pc = .ok (.dup_x1, 1)) (hv : v.category = 1) (hw : w.category = 1) (hq : pc + 1 = q) (K : Go p e below F (T.setTop (mkF m q Ls (v :: w :: v :: S)))) : Go p e below F (T.setTop (mkF m pc Ls (v :: w :: S))) := by
  subst hq; exact of (fun t k => XS.dupX1 X.here C.1 rfl (hb C.2.2.1 hd) rfl hv hw k) K
theorem pop (X : Stand p l e R s m args below meth c T locs cells slots) (C : Cx p s m meth c Z bytes maxL own mname ret) {v : Value} (hd : decode bytes pc = .ok (.pop, 1)) (hv : v.category = 1) (hq : pc + 1 = q) (K : Go p e below F (T.setTop (mkF m q Ls S))) : Go p e below F (T.setTop (mkF m pc Ls (v :: S))) := by
  subst hq; exact of (fun t k => XS.pop X.here C.1 rfl (hb C.2.2.1 hd) rfl hv k) K
theorem goto (X : Stand p l e R s m args below meth c T locs cells slots) (C : Cx p s m meth c Z bytes maxL own mname ret) {o : Int} (hd : decode bytes pc = .ok (.goto o, 3)) (ho : 0 ≤ (pc : Int) + o) (hq : ((pc : Int) + o).toNat = q) (K : Go p e below F (T.setTop (mkF m q Ls S))) : Go p e below F (T.setTop (mkF m pc Ls S)) :=
  of (fun t k => XS.goto X.here C.1 rfl rfl (hb C.2.2.1 hd) ho hq k) K
theorem icmpT (X : Stand p l e R s m args below meth c T locs cells slots) (C : Cx p s m meth c Z bytes maxL own mname ret) {cd : ClassFile.Cond} {o : Int} {x y : Int32} (hd : decode bytes pc = .ok (.if_icmp cd o, 3)) (ho : 0 ≤ (pc : Int) + o) (hq : ((pc : Int) + o).toNat = q) (hc : cT cd x y) (K : Go p e below F (T.setTop (mkF m q Ls S))) : Go p e below F (T.setTop (mkF m pc Ls (.int y :: .int x :: S))) :=
  of (fun t k => XS.icmpYes X.here C.1 rfl rfl (hb C.2.2.1 hd) rfl (holdsT hc) ho hq k) K
theorem icmpF (X : Stand p l e R s m args below meth c T locs cells slots) (C : Cx p s m meth c Z bytes maxL own mname ret) {cd : ClassFile.Cond} {o : Int} {x y : Int32} (hd : decode bytes pc = .ok (.if_icmp cd o, 3)) (hq : pc + 3 = q) (hc : cF cd x y) (K : Go p e below F (T.setTop (mkF m q Ls S))) : Go p e below F (T.setTop (mkF m pc Ls (.int y :: .int x :: S))) := by
  subst hq; exact of (fun t k => XS.icmpNo X.here C.1 rfl (hb C.2.2.1 hd) rfl (holdsF hc) k) K
theorem icmp (X : Stand p l e R s m args below meth c T locs cells slots) (C : Cx p s m meth c Z bytes maxL own mname ret) {cd : ClassFile.Cond} {o : Int} {x y : Int32} {q' : Nat} (hd : decode bytes pc = .ok (.if_icmp cd o, 3)) (ho : 0 ≤ (pc : Int) + o) (hq : ((pc : Int) + o).toNat = q) (hq' : pc + 3 = q') (K : cT cd x y → Go p e below F (T.setTop (mkF m q Ls S))) (K' : cF cd x y → Go p e below F (T.setTop (mkF m q' Ls S))) : Go p e below F (T.setTop (mkF m pc Ls (.int y :: .int x :: S))) :=
  (cTF cd x y).elim (fun hc => icmpT X C hd ho hq hc (K hc)) (fun hc => icmpF X C hd hq' hc (K' hc))
theorem ifT (X : Stand p l e R s m args below meth c T locs cells slots) (C : Cx p s m meth c Z bytes maxL own mname ret) {cd : ClassFile.Cond} {o : Int} {x : Int32} (hd : decode bytes pc = .ok (.ifCond cd o, 3)) (ho : 0 ≤ (pc : Int) + o) (hq : ((pc : Int) + o).toNat = q) (hc : cT cd x 0) (K : Go p e below F (T.setTop (mkF m q Ls S))) : Go p e below F (T.setTop (mkF m pc Ls (.int x :: S))) :=
  of (fun t k => XS.ifYes X.here C.1 rfl rfl (hb C.2.2.1 hd) rfl ((if0 _ _).trans (holdsT hc)) ho hq k) K
theorem ifF (X : Stand p l e R s m args below meth c T locs cells slots) (C : Cx p s m meth c Z bytes maxL own mname ret) {cd : ClassFile.Cond} {o : Int} {x : Int32} (hd : decode bytes pc = .ok (.ifCond cd o, 3)) (hq : pc + 3 = q) (hc : cF cd x 0) (K : Go p e below F (T.setTop (mkF m q Ls S))) : Go p e below F (T.setTop (mkF m pc Ls (.int x :: S))) := by
  subst hq; exact of (fun t k => XS.ifNo X.here C.1 rfl (hb C.2.2.1 hd) rfl ((if0 _ _).trans (holdsF hc)) k) K
theorem if_ (X : Stand p l e R s m args below meth c T locs cells slots) (C : Cx p s m meth c Z bytes maxL own mname ret) {cd : ClassFile.Cond} {o : Int} {x : Int32} {q' : Nat} (hd : decode bytes pc = .ok (.ifCond cd o, 3)) (ho : 0 ≤ (pc : Int) + o) (hq : ((pc : Int) + o).toNat = q) (hq' : pc + 3 = q') (K : cT cd x 0 → Go p e below F (T.setTop (mkF m q Ls S))) (K' : cF cd x 0 → Go p e below F (T.setTop (mkF m q' Ls S))) : Go p e below F (T.setTop (mkF m pc Ls (.int x :: S))) :=
  (cTF cd x 0).elim (fun hc => ifT X C hd ho hq hc (K hc)) (fun hc => ifF X C hd hq' hc (K' hc))
theorem ifnullT (X : Stand p l e R s m args below meth c T locs cells slots) (C : Cx p s m meth c Z bytes maxL own mname ret) {o : Int} (hd : decode bytes pc = .ok (.ifnull o, 3)) (ho : 0 ≤ (pc : Int) + o) (hq : ((pc : Int) + o).toNat = q) (K : Go p e below F (T.setTop (mkF m q Ls S))) : Go p e below F (T.setTop (mkF m pc Ls (.null :: S))) :=
  of (fun t k => XS.ifnullYes X.here C.1 rfl rfl (hb C.2.2.1 hd) rfl ho hq k) K
theorem ifnullF (X : Stand p l e R s m args below meth c T locs cells slots) (C : Cx p s m meth c Z bytes maxL own mname ret) {o : Int} {a : Addr} (hd : decode bytes pc = .ok (.ifnull o, 3)) (hq : pc + 3 = q) (K : Go p e below F (T.setTop (mkF m q Ls S))) : Go p e below F (T.setTop (mkF m pc Ls (.ref a :: S))) := by
  subst hq; exact of (fun t k => XS.ifnullNo X.here C.1 rfl (hb C.2.2.1 hd) rfl k) K
theorem ifnonnullT (X : Stand p l e R s m args below meth c T locs cells slots) (C : Cx p s m meth c Z bytes maxL own mname ret) {o : Int} {a : Addr} (hd : decode bytes pc = .ok (.ifnonnull o, 3)) (ho : 0 ≤ (pc : Int) + o) (hq : ((pc : Int) + o).toNat = q) (K : Go p e below F (T.setTop (mkF m q Ls S))) : Go p e below F (T.setTop (mkF m pc Ls (.ref a :: S))) :=
  of (fun t k => XS.ifnonnullYes X.here C.1 rfl rfl (hb C.2.2.1 hd) rfl ho hq k) K
theorem ifnonnullF (X : Stand p l e R s m args below meth c T locs cells slots) (C : Cx p s m meth c Z bytes maxL own mname ret) {o : Int} (hd : decode bytes pc = .ok (.ifnonnull o, 3)) (hq : pc + 3 = q) (K : Go p e below F (T.setTop (mkF m q Ls S))) : Go p e below F (T.setTop (mkF m pc Ls (.null :: S))) := by
  subst hq; exact of (fun t k => XS.ifnonnullNo X.here C.1 rfl (hb C.2.2.1 hd) rfl k) K
/-! calls -/
theorem callS (X : Stand p l e R s m args below meth c T locs cells slots) (C : Cx p s m meth c Z bytes maxL own mname ret) {y : MethodName} {i : Nat} {yb : ByteArray} {ym : Nat} {yr : Option FieldType} (w1 : (Jvm.Cond.methodLink own i y).before a0 Z = true) (w2 : (Jvm.Cond.static y).before a0 Z = true) (w3 : (Jvm.Cond.initialized y.cls).before a0 Z = true) (w4 : (Jvm.Cond.code y yb ym yr).before a0 Z = true) (hy : y.cls ≠ "java/lang/invoke/MethodHandle" ∧ y.cls ≠ "java/lang/invoke/VarHandle")
    {rm : Room} {as' : Array Value} {Q : Option Value → Heap → List Loc → Prop} (hM : MetFree l y (head1 [Jvm.Cond.code y yb ym yr] rm) (fun a U => a = as' ∧ Z.Warmed39 U.vm ∧ U.heap = h) (fun _ _ _ _ _ => True) (fun _ U o U' => ∃ v L, o = .returned v ∧ Q v U'.heap L ∧ FrameEnd U o U' L rm.cells rm.slots))
    (eT : T.heap = h) (hd : decode bytes pc = .ok (.invokestatic i, 3)) (argsL : List Value) (rest : List Value) (hS : S = argsL.reverse ++ rest) (has : as' = argsL.toArray) {ps : List FieldType} {r : Option FieldType} (hpd : parseMethodDescriptor y.desc = some ⟨ps, r⟩) (hlen : argsL.length = ps.length) (hsz : Ls.size = maxL)
    (hf : rm.frames + 1 ≤ R.frames) (hl : (rest.map fun v => v.category).sum + (ym + 11) + rm.locals ≤ R.locals) (hc : cells + rm.cells ≤ R.cells) (hsl : slots + rm.slots ≤ R.slots) (hq : pc + 3 = q)
    (K : ∀ (T' : State) (v : Option Value) (L : List Loc), Stand p l e R s m args below meth c T' (locs ++ L) (cells + rm.cells) (slots + rm.slots) → Q v T'.heap L → Go p e below F (T'.setTop (mkF m q Ls (v.toList ++ rest)))) : Go p e below F (T.setTop (mkF m pc Ls S)) := by
  subst hq hS has
  obtain ⟨hx, hZ, hby, hml, hown, hnm, hret, hlk⟩ := C
  obtain ⟨v, _, ⟨T1, L1, k1, n1⟩, -, X1, ⟨Lc, hQ, l1, y1, z1⟩, st⟩ := Jvm.LawKit.callS X hx hown (mvT hZ w1) (mvT hZ w2) (mvT hZ w3) (mvT hZ w4) hy (backOf (W := (rest.map fun v => v.category).sum) hM hZ w4 w3 hf hl) (g := mkF m pc Ls (argsL.reverse ++ rest)) rfl (by rw [hml]; exact hsz) (argsL := argsL) (rest := rest) (lenOf hpd hlen) rfl (by show 2 * 0 + _ ≤ _; omega) (hb hby hd) (fun _ _ => ⟨rfl, eT, hc, hsl⟩)
  dsimp only [Pt.U, Pt.locs, Pt.cells, Pt.slots] at X1 l1 y1 z1 st hQ
  subst l1 y1 z1
  exact of st (K T1 v Lc X1 hQ)
theorem callI (X : Stand p l e R s m args below meth c T locs cells slots) (C : Cx p s m meth c Z bytes maxL own mname ret) {y : MethodName} {i : Nat} {yb : ByteArray} {ym : Nat} (hy1 : y.name = "<init>") (w1 : (Jvm.Cond.methodLink own i y).before a0 Z = true) (w2 : (Jvm.Cond.instanceMethod y).before a0 Z = true) (w3 : (Jvm.Cond.initialized y.cls).before a0 Z = true) (w4 : (Jvm.Cond.code y yb ym none).before a0 Z = true) (hy : y.cls ≠ "java/lang/invoke/MethodHandle" ∧ y.cls ≠ "java/lang/invoke/VarHandle")
    {rm : Room} {as' : Array Value} {Q : Option Value → Heap → List Loc → Prop} (hM : MetFree l y (head1 [Jvm.Cond.code y yb ym none] rm) (fun a U => a = as' ∧ Z.Warmed39 U.vm ∧ U.heap = h) (fun _ _ _ _ _ => True) (fun _ U o U' => ∃ v L, o = .returned v ∧ Q v U'.heap L ∧ FrameEnd U o U' L rm.cells rm.slots))
    (eT : T.heap = h) (hd : decode bytes pc = .ok (.invokespecial i, 3)) {a : Addr} (argsL : List Value) (rest : List Value) (hS : S = argsL.reverse ++ .ref a :: rest) (has : as' = (.ref a :: argsL).toArray) {ps : List FieldType} {r : Option FieldType} (hpd : parseMethodDescriptor y.desc = some ⟨ps, r⟩) (hlen : argsL.length = ps.length) (hsz : Ls.size = maxL)
    (hf : rm.frames + 1 ≤ R.frames) (hl : (rest.map fun v => v.category).sum + (ym + 11) + rm.locals ≤ R.locals) (hc : cells + rm.cells ≤ R.cells) (hsl : slots + rm.slots ≤ R.slots) (hq : pc + 3 = q)
    (K : ∀ (T' : State) (v : Option Value) (L : List Loc), Stand p l e R s m args below meth c T' (locs ++ L) (cells + rm.cells) (slots + rm.slots) → Q v T'.heap L → Go p e below F (T'.setTop (mkF m q Ls (v.toList ++ rest)))) : Go p e below F (T.setTop (mkF m pc Ls S)) := by
  subst hq hS has
  obtain ⟨hx, hZ, hby, hml, hown, hnm, hret, hlk⟩ := C
  obtain ⟨v, _, ⟨T1, L1, k1, n1⟩, -, X1, ⟨Lc, hQ, l1, y1, z1⟩, st⟩ := X.specialBack hx hy1 hown (mvT hZ w1) (mvT hZ w2) (mvT hZ w4) hy (backOf (W := (rest.map fun v => v.category).sum) hM hZ w4 w3 hf hl) (g := mkF m pc Ls (argsL.reverse ++ .ref a :: rest)) rfl (by rw [hml]; exact hsz) (Steps.refl _) (a := a) (argsL := argsL) (rest := rest) (lenOf hpd hlen) rfl (by show 2 * 0 + _ ≤ _; omega) (hb hby hd) (fun _ _ => ⟨rfl, eT, hc, hsl⟩)
  dsimp only [Pt.U, Pt.locs, Pt.cells, Pt.slots] at X1 l1 y1 z1 st hQ
  subst l1 y1 z1
  exact tr st (K T1 v Lc X1 hQ)
theorem callV (X : Stand p l e R s m args below meth c T locs cells slots) (C : Cx p s m meth c Z bytes maxL own mname ret) {y z : MethodName} {i : Nat} {Cn : String} {yb : ByteArray} {ym : Nat} {yr : Option FieldType} (w1 : (Jvm.Cond.methodLink own i y).before a0 Z = true) (w2 : (Jvm.Cond.declares y).before a0 Z = true) (hnf : NotFace s y) (ws : (Jvm.Cond.selects Cn y z).before a0 Z = true) (wi : (Jvm.Cond.instanceMethod z).before a0 Z = true) (w3 : (Jvm.Cond.initialized z.cls).before a0 Z = true) (w4 : (Jvm.Cond.code z yb ym yr).before a0 Z = true) (hy : y.cls ≠ "java/lang/invoke/MethodHandle" ∧ y.cls ≠ "java/lang/invoke/VarHandle")
    {rm : Room} {as' : Array Value} {Q : Option Value → Heap → List Loc → Prop} (hM : MetFree l z (head1 [Jvm.Cond.code z yb ym yr] rm) (fun a U => a = as' ∧ Z.Warmed39 U.vm ∧ U.heap = h) (fun _ _ _ _ _ => True) (fun _ U o U' => ∃ v L, o = .returned v ∧ Q v U'.heap L ∧ FrameEnd U o U' L rm.cells rm.slots))
    (eT : T.heap = h) {a : Addr} (E : Exa Z h a Cn) (hd : decode bytes pc = .ok (.invokevirtual i, 3)) (argsL : List Value) (rest : List Value) (hS : S = argsL.reverse ++ .ref a :: rest) (has : as' = (.ref a :: argsL).toArray) {ps : List FieldType} {r : Option FieldType} (hpd : parseMethodDescriptor y.desc = some ⟨ps, r⟩) (hlen : argsL.length = ps.length) (hsz : Ls.size = maxL)
    (hf : rm.frames + 1 ≤ R.frames) (hl : (rest.map fun v => v.category).sum + (ym + 11) + rm.locals ≤ R.locals) (hc : cells + rm.cells ≤ R.cells) (hsl : slots + rm.slots ≤ R.slots) (hq : pc + 3 = q)
    (K : ∀ (T' : State) (v : Option Value) (L : List Loc), Stand p l e R s m args below meth c T' (locs ++ L) (cells + rm.cells) (slots + rm.slots) → Q v T'.heap L → Go p e below F (T'.setTop (mkF m q Ls (v.toList ++ rest)))) : Go p e below F (T.setTop (mkF m pc Ls S)) := by
  subst hq hS has
  obtain ⟨hx, hZ, hby, hml, hown, hnm, hret, hlk⟩ := C
  obtain ⟨cq, kq, qa, qb, qc⟩ := isOf hZ eT E
  obtain ⟨v, _, ⟨T1, L1, k1, n1⟩, -, X1, ⟨Lc, hQ, l1, y1, z1⟩, st⟩ := X.virtualBack hx hown (mvT hZ w1) (mvT hZ w2) hnf (mvT hZ ws) (mvT hZ wi) hy (backOf (W := (rest.map fun v => v.category).sum) hM hZ w4 w3 hf hl) qa qc (g := mkF m pc Ls (argsL.reverse ++ .ref a :: rest)) rfl (by rw [hml]; exact hsz) (Steps.refl _) (argsL := argsL) (rest := rest) (lenOf hpd hlen) rfl (by show 2 * 0 + _ ≤ _; omega) (hb hby hd) (fun _ _ => ⟨rfl, eT, hc, hsl⟩)
  dsimp only [Pt.U, Pt.locs, Pt.cells, Pt.slots] at X1 l1 y1 z1 st hQ
  subst l1 y1 z1
  exact tr st (K T1 v Lc X1 hQ)
theorem nf (C : Cx p s m meth c Z bytes maxL own mname ret) {Cn : String} {y : MethodName} (ws : (Jvm.Cond.selects Cn y y).before a0 Z = true) : NotFace s y := notFace_of_selects (args := #[]) (mvT C.2.1 ws)
theorem initObj (X : Stand p l e R s m args below meth c T locs cells slots) (C : Cx p s m meth c Z bytes maxL own mname ret) {i : Nat} (w1 : (Jvm.Cond.methodLink own i ⟨"java/lang/Object", "<init>", "()V"⟩).before a0 Z = true) (w2 : (Jvm.Cond.instanceMethod ⟨"java/lang/Object", "<init>", "()V"⟩).before a0 Z = true) (w3 : (Jvm.Cond.code ⟨"java/lang/Object", "<init>", "()V"⟩ object_method_1_code 1 none).before a0 Z = true)
    (eT : T.heap = h) {a : Addr} (hd : decode bytes pc = .ok (.invokespecial i, 3)) (hsz : Ls.size = maxL) (hf : 1 ≤ R.frames) (hl : (S.map fun v => v.category).sum + 12 ≤ R.locals) (hq : pc + 3 = q)
    (K : ∀ (T' : State), Stand p l e R s m args below meth c T' locs cells slots → T'.heap = h → Go p e below F (T'.setTop (mkF m q Ls S))) : Go p e below F (T.setTop (mkF m pc Ls (.ref a :: S))) := by
  subst hq
  obtain ⟨hx, hZ, hby, hml, hown, hnm, hret, hlk⟩ := C
  obtain ⟨T1, X1, e1, st⟩ := initO X hx hZ hown w1 w2 w3 eT (g := mkF m pc Ls (.ref a :: S)) rfl (by rw [hml]; exact hsz) rfl (hb hby hd) hf (W := (S.map fun v => v.category).sum) (by show 2 * 0 + _ ≤ _; omega) hl
  exact of st (K T1 X1 e1)
/-! objects -/
theorem newO (X : Stand p l e R s m args below meth c T locs cells slots) (C : Cx p s m meth c Z bytes maxL own mname ret) {i n : Nat} {Cn : String} (w1 : (Jvm.Cond.classLink own i Cn).before a0 Z = true) (w2 : (Jvm.Cond.instantiable Cn n).before a0 Z = true) (w3 : (Jvm.Cond.initialized Cn).before a0 Z = true) (eT : T.heap = h) (hd : decode bytes pc = .ok (.new i, 3)) (hc : cells + 1 ≤ R.cells) (hl : slots + n ≤ R.slots) (hq : pc + 3 = q)
    (K : ∀ (T' : State) (h' : Heap) (b : Addr), Stand p l e R s m args below meth c T' locs (cells + 1) (slots + n) → T'.heap = h' → b = h.size → Ext h h' → Exa Z h' b Cn → (∀ {O nm d : String} {ty : FieldType}, Laid Z a0 Cn O nm d → parseFieldDescriptor d = some ty → Fld Z h' b O nm d (defaultValue ty)) → Go p e below F (T'.setTop (mkF m q Ls (.ref b :: S)))) : Go p e below F (T.setTop (mkF m pc Ls S)) := by
  subst hq
  obtain ⟨hx, hZ, hby, hml, hown, hnm, hret, hlk⟩ := C
  obtain ⟨T1, h1, X1, e1, E1, A1, D1, -, st⟩ := Jvm.RoadKit.newO X hx hZ hown w1 w2 w3 eT (g := mkF m pc Ls S) rfl (hb hby hd) hc hl
  exact of st (K T1 h1 _ X1 e1 rfl E1 A1 D1)
theorem getF (X : Stand p l e R s m args below meth c T locs cells slots) (C : Cx p s m meth c Z bytes maxL own mname ret) {i : Nat} {R0 O n d host : String} (w : (Jvm.Cond.fieldLink own i R0 n d).before a0 Z = true ∨ (Jvm.Cond.fieldLinkNest own i R0 n d host).before a0 Z = true) (via : Via Z R0 O n d) (eT : T.heap = h) {a : Addr} {v : Value} (F0 : Fld Z h a O n d v) (hd : decode bytes pc = .ok (.getfield i, 3)) (hq : pc + 3 = q)
    (K : ∀ (T' : State), Stand p l e R s m args below meth c T' locs cells slots → T'.heap = h → Go p e below F (T'.setTop (mkF m q Ls (v :: S)))) : Go p e below F (T.setTop (mkF m pc Ls (.ref a :: S))) := by
  subst hq
  obtain ⟨hx, hZ, hby, hml, hown, hnm, hret, hlk⟩ := C
  obtain ⟨T1, X1, e1, st⟩ := Jvm.RoadKit.getF X hx hZ hown w via eT F0 (g := mkF m pc Ls (.ref a :: S)) rfl rfl (hb hby hd)
  exact of st (K T1 X1 e1)
theorem putF (X : Stand p l e R s m args below meth c T locs cells slots) (C : Cx p s m meth c Z bytes maxL own mname ret) {i kk : Nat} {R0 O n d host Cn : String} {ty : FieldType} (w : (Jvm.Cond.fieldLink own i R0 n d).before a0 Z = true ∨ (Jvm.Cond.fieldLinkNest own i R0 n d host).before a0 Z = true) (via : Via Z R0 O n d) (eT : T.heap = h) {a : Addr} {v old : Value} (F0 : Fld Z h a O n d old) (E : Exa Z h a Cn) (L : (Jvm.Cond.lays Cn O n d).before a0 Z = true ∨ ((Jvm.Cond.laysFinal Cn O n d).before a0 Z = true ∧ own = O ∧ mname = "<init>")) (wi : (Jvm.Cond.instantiable Cn kk).before a0 Z = true) (hty : parseFieldDescriptor d = some ty) (hn : narrow ty v = v) (hf : fits ty v = true) (hd : decode bytes pc = .ok (.putfield i, 3)) (hq : pc + 3 = q)
    (K : ∀ (T' : State) (h' : Heap), Stand p l e R s m args below meth c T' (locs ++ [⟨a, Jvm.RoadKit.slotOf Z O n d⟩]) cells slots → T'.heap = h' → Wr h h' a (Jvm.RoadKit.slotOf Z O n d) v → Go p e below F (T'.setTop (mkF m q Ls S))) : Go p e below F (T.setTop (mkF m pc Ls (v :: .ref a :: S))) := by
  subst hq
  obtain ⟨hx, hZ, hby, hml, hown, hnm, hret, hlk⟩ := C
  obtain ⟨T1, h1, X1, e1, W1, st⟩ := Jvm.RoadKit.putF X hx hZ hown w via eT F0 E (L.imp id fun q => ⟨q.1, q.2.1, hnm.trans q.2.2⟩) wi hty hn hf (g := mkF m pc Ls (v :: .ref a :: S)) rfl rfl (hb hby hd)
  exact of st (K T1 h1 X1 e1 W1)
theorem getS (X : Stand p l e R s m args below meth c T locs cells slots) (C : Cx p s m meth c Z bytes maxL own mname ret) {i : Nat} {R0 O n d : String} (w : (Jvm.Cond.fieldLink own i R0 n d).before a0 Z = true) (via : Via Z R0 O n d) (eT : T.heap = h) {v : Value} (F0 : Sta Z h O n d v) (hd : decode bytes pc = .ok (.getstatic i, 3)) (hq : pc + 3 = q)
    (K : ∀ (T' : State), Stand p l e R s m args below meth c T' locs cells slots → T'.heap = h → Go p e below F (T'.setTop (mkF m q Ls (v :: S)))) : Go p e below F (T.setTop (mkF m pc Ls S)) := by
  subst hq
  obtain ⟨hx, hZ, hby, hml, hown, hnm, hret, hlk⟩ := C
  obtain ⟨T1, X1, e1, st⟩ := Jvm.RoadKit.getS X hx hZ hown (host := "") w via eT F0 (g := mkF m pc Ls S) rfl (hb hby hd)
  exact of st (K T1 X1 e1)
/-! arrays: Arv Z h a k ty n vs d -/
theorem inb {cl : Cell} {n j : Int32} (S : cl.slots.size = n.toNatClampNeg) (h1 : 0 ≤ j.toInt) (h2 : j.toInt < n.toInt) : ¬ (j < 0 ∨ cl.slots.size ≤ j.toNatClampNeg) := inb_of S ⟨by rw [Int32.lt_iff_toInt_lt]; have : (0 : Int32).toInt = 0 := rfl; omega, by rw [Int32.lt_iff_toInt_lt]; exact h2⟩
theorem iaload (X : Stand p l e R s m args below meth c T locs cells slots) (C : Cx p s m meth c Z bytes maxL own mname ret) (eT : T.heap = h) {a : Addr} {k : ClassId} {n j x : Int32} {vs : List Value} {d : Value} (V : Arv Z h a k .int n vs d) (h1 : 0 ≤ j.toInt) (h2 : j.toInt < n.toInt) (hv : vs.getD j.toNatClampNeg d = .int x) (hd : decode bytes pc = .ok (.iaload, 1)) (hq : pc + 1 = q) (K : Go p e below F (T.setTop (mkF m q Ls (.int x :: S)))) : Go p e below F (T.setTop (mkF m pc Ls (.int j :: .ref a :: S))) := by
  subst hq
  obtain ⟨cl, Ar, q1, S1, N1, H1, G1⟩ := V
  exact of (X.iaload C.1 (j := j) (v := .int x) (by rw [eT]; exact Ar.1) (State.isArrayOf_alike C.2.1.alike Ar.2.1) Ar.2.2 (inb S1 h1 h2) (Has.at H1 (inb S1 h1 h2) hv) (g := mkF m pc Ls (.int j :: .ref a :: S)) rfl rfl (hb C.2.2.1 hd)) K
theorem caload (X : Stand p l e R s m args below meth c T locs cells slots) (C : Cx p s m meth c Z bytes maxL own mname ret) (eT : T.heap = h) {a : Addr} {k : ClassId} {n j x : Int32} {vs : List Value} {d : Value} (V : Arv Z h a k .char n vs d) (h1 : 0 ≤ j.toInt) (h2 : j.toInt < n.toInt) (hv : vs.getD j.toNatClampNeg d = .int x) (hd : decode bytes pc = .ok (.caload, 1)) (hq : pc + 1 = q) (K : Go p e below F (T.setTop (mkF m q Ls (.int x :: S)))) : Go p e below F (T.setTop (mkF m pc Ls (.int j :: .ref a :: S))) := by
  subst hq
  obtain ⟨cl, Ar, q1, S1, N1, H1, G1⟩ := V
  exact of (X.caload C.1 (j := j) (v := .int x) (by rw [eT]; exact Ar.1) (State.isArrayOf_alike C.2.1.alike Ar.2.1) Ar.2.2 (inb S1 h1 h2) (Has.at H1 (inb S1 h1 h2) hv) (g := mkF m pc Ls (.int j :: .ref a :: S)) rfl rfl (hb C.2.2.1 hd)) K
theorem baload (X : Stand p l e R s m args below meth c T locs cells slots) (C : Cx p s m meth c Z bytes maxL own mname ret) (eT : T.heap = h) {a : Addr} {k : ClassId} {n j x : Int32} {vs : List Value} {d : Value} (V : Arv Z h a k .byte n vs d) (h1 : 0 ≤ j.toInt) (h2 : j.toInt < n.toInt) (hv : vs.getD j.toNatClampNeg d = .int x) (hd : decode bytes pc = .ok (.baload, 1)) (hq : pc + 1 = q) (K : Go p e below F (T.setTop (mkF m q Ls (.int x :: S)))) : Go p e below F (T.setTop (mkF m pc Ls (.int j :: .ref a :: S))) := by
  subst hq
  obtain ⟨cl, Ar, q1, S1, N1, H1, G1⟩ := V
  exact of (X.baloadBytes C.1 (j := j) (v := .int x) (by rw [eT]; exact Ar.1) (State.isArrayOf_alike C.2.1.alike Ar.2.1) Ar.2.2 (inb S1 h1 h2) (Has.at H1 (inb S1 h1 h2) hv) (g := mkF m pc Ls (.int j :: .ref a :: S)) rfl rfl (hb C.2.2.1 hd)) K
theorem aaload (X : Stand p l e R s m args below meth c T locs cells slots) (C : Cx p s m meth c Z bytes maxL own mname ret) (eT : T.heap = h) {a : Addr} {k : ClassId} {n j : Int32} {x : Value} {vs : List Value} {d : Value} {ty : FieldType} (hty : ty.isReference = true) (V : Arv Z h a k ty n vs d) (h1 : 0 ≤ j.toInt) (h2 : j.toInt < n.toInt) (hv : vs.getD j.toNatClampNeg d = x) (hd : decode bytes pc = .ok (.aaload, 1)) (hq : pc + 1 = q) (K : Go p e below F (T.setTop (mkF m q Ls (x :: S)))) : Go p e below F (T.setTop (mkF m pc Ls (.int j :: .ref a :: S))) := by
  subst hq
  obtain ⟨cl, Ar, q1, S1, N1, H1, G1⟩ := V
  exact of (X.aaload C.1 (j := j) (v := x) (by rw [eT]; exact Ar.1) (State.isArrayOf_alike C.2.1.alike Ar.2.1) hty Ar.2.2 (inb S1 h1 h2) (Has.at H1 (inb S1 h1 h2) hv) (g := mkF m pc Ls (.int j :: .ref a :: S)) rfl rfl (hb C.2.2.1 hd)) K
theorem aaloadC (X : Stand p l e R s m args below meth c T locs cells slots) (C : Cx p s m meth c Z bytes maxL own mname ret) (eT : T.heap = h) {a : Addr} {cl : Cell} {j : Int32} {x : Value} {ty : FieldType} (hty : ty.isReference = true) (Ar : Arr Z h a cl ty) (hin : ¬ (j < 0 ∨ cl.slots.size ≤ j.toNatClampNeg)) (hat : cl.slots[j.toNatClampNeg]? = some x) (hd : decode bytes pc = .ok (.aaload, 1)) (hq : pc + 1 = q) (K : Go p e below F (T.setTop (mkF m q Ls (x :: S)))) : Go p e below F (T.setTop (mkF m pc Ls (.int j :: .ref a :: S))) := by
  subst hq
  exact of (X.aaload C.1 (j := j) (v := x) (by rw [eT]; exact Ar.1) (State.isArrayOf_alike C.2.1.alike Ar.2.1) hty Ar.2.2 hin hat (g := mkF m pc Ls (.int j :: .ref a :: S)) rfl rfl (hb C.2.2.1 hd)) K
theorem arraylength (X : Stand p l e R s m args below meth c T locs cells slots) (C : Cx p s m meth c Z bytes maxL own mname ret) (eT : T.heap = h) {a : Addr} {k : ClassId} {n : Int32} {vs : List Value} {d : Value} {ty : FieldType} (V : Arv Z h a k ty n vs d) (hd : decode bytes pc = .ok (.arraylength, 1)) (hq : pc + 1 = q) (K : Go p e below F (T.setTop (mkF m q Ls (.int n :: S)))) : Go p e below F (T.setTop (mkF m pc Ls (.ref a :: S))) := by
  subst hq
  obtain ⟨cl, Ar, q1, S1, N1, H1, G1⟩ := V
  refine of (X.arraylength C.1 (by rw [eT]; exact Ar.1) (State.isArrayOf_alike C.2.1.alike Ar.2.1) (g := mkF m pc Ls (.ref a :: S)) rfl rfl (hb C.2.2.1 hd)) ?_
  rw [len_of S1 N1]
  exact K
theorem iastore (X : Stand p l e R s m args below meth c T locs cells slots) (C : Cx p s m meth c Z bytes maxL own mname ret) (eT : T.heap = h) {a : Addr} {k : ClassId} {n j x : Int32} {vs : List Value} {d : Value} (V : Arv Z h a k .int n vs d) (h1 : 0 ≤ j.toInt) (h2 : j.toInt < n.toInt) (hlen : j.toNatClampNeg < vs.length) (hd : decode bytes pc = .ok (.iastore, 1)) (hq : pc + 1 = q)
    (K : ∀ (T' : State) (h' : Heap), Stand p l e R s m args below meth c T' (locs ++ [⟨a, j.toNatClampNeg⟩]) cells slots → T'.heap = h' → Wr h h' a j.toNatClampNeg (.int x) → Arv Z h' a k .int n (vs.set j.toNatClampNeg (.int x)) d → Go p e below F (T'.setTop (mkF m q Ls S))) : Go p e below F (T.setTop (mkF m pc Ls (.int x :: .int j :: .ref a :: S))) := by
  subst hq
  obtain ⟨cl, Ar, q1, S1, N1, H1, G1⟩ := V
  obtain ⟨T1, h1', X1, e1, W1, st⟩ := stI X C.1 C.2.1 eT Ar (j := j) (inb S1 h1 h2) (g := mkF m pc Ls (.int x :: .int j :: .ref a :: S)) rfl rfl (hb C.2.2.1 hd)
  exact of st (K T1 h1' X1 e1 W1 (Arv.set Ar q1 S1 N1 H1 G1 rfl W1 _ rfl hlen))
theorem castore (X : Stand p l e R s m args below meth c T locs cells slots) (C : Cx p s m meth c Z bytes maxL own mname ret) (eT : T.heap = h) {a : Addr} {k : ClassId} {n j x : Int32} {vs : List Value} {d : Value} (V : Arv Z h a k .char n vs d) (h1 : 0 ≤ j.toInt) (h2 : j.toInt < n.toInt) (hlen : j.toNatClampNeg < vs.length) (hd : decode bytes pc = .ok (.castore, 1)) (hq : pc + 1 = q)
    (K : ∀ (T' : State) (h' : Heap), Stand p l e R s m args below meth c T' (locs ++ [⟨a, j.toNatClampNeg⟩]) cells slots → T'.heap = h' → Wr h h' a j.toNatClampNeg (.int (nar .char x)) → Arv Z h' a k .char n (vs.set j.toNatClampNeg (.int (nar .char x))) d → Go p e below F (T'.setTop (mkF m q Ls S))) : Go p e below F (T.setTop (mkF m pc Ls (.int x :: .int j :: .ref a :: S))) := by
  subst hq
  obtain ⟨cl, Ar, q1, S1, N1, H1, G1⟩ := V
  obtain ⟨T1, h1', X1, e1, W1, st⟩ := stC X C.1 C.2.1 eT Ar (j := j) (inb S1 h1 h2) (g := mkF m pc Ls (.int x :: .int j :: .ref a :: S)) rfl rfl (hb C.2.2.1 hd)
  exact of st (K T1 h1' X1 e1 W1 (Arv.set Ar q1 S1 N1 H1 G1 (fits_nar_char _) W1 _ rfl hlen))
theorem bastore (X : Stand p l e R s m args below meth c T locs cells slots) (C : Cx p s m meth c Z bytes maxL own mname ret) (eT : T.heap = h) {a : Addr} {k : ClassId} {n j x : Int32} {vs : List Value} {d : Value} (V : Arv Z h a k .byte n vs d) (h1 : 0 ≤ j.toInt) (h2 : j.toInt < n.toInt) (hlen : j.toNatClampNeg < vs.length) (hd : decode bytes pc = .ok (.bastore, 1)) (hq : pc + 1 = q)
    (K : ∀ (T' : State) (h' : Heap), Stand p l e R s m args below meth c T' (locs ++ [⟨a, j.toNatClampNeg⟩]) cells slots → T'.heap = h' → Wr h h' a j.toNatClampNeg (.int x.toInt8.toInt32) → Arv Z h' a k .byte n (vs.set j.toNatClampNeg (.int x.toInt8.toInt32)) d → Go p e below F (T'.setTop (mkF m q Ls S))) : Go p e below F (T.setTop (mkF m pc Ls (.int x :: .int j :: .ref a :: S))) := by
  subst hq
  obtain ⟨cl, Ar, q1, S1, N1, H1, G1⟩ := V
  obtain ⟨T1, h1', X1, e1, W1, st⟩ := stB X C.1 C.2.1 eT Ar (j := j) (inb S1 h1 h2) (g := mkF m pc Ls (.int x :: .int j :: .ref a :: S)) rfl rfl (hb C.2.2.1 hd)
  exact of st (K T1 h1' X1 e1 W1 (Arv.set Ar q1 S1 N1 H1 G1 (fits_nar_byte _) W1 _ rfl hlen))
theorem aastore (X : Stand p l e R s m args below meth c T locs cells slots) (C : Cx p s m meth c Z bytes maxL own mname ret) (eT : T.heap = h) {a : Addr} {k : ClassId} {n j : Int32} {x : Value} {vs : List Value} {d : Value} {ty : FieldType} (hty : ty.isReference = true) (hf : fits ty x = true) (V : Arv Z h a k ty n vs d) (hs : ∀ cl, Arr Z h a cl ty → cl.cls = k → Sto Z h a x) (h1 : 0 ≤ j.toInt) (h2 : j.toInt < n.toInt) (hlen : j.toNatClampNeg < vs.length) (hd : decode bytes pc = .ok (.aastore, 1)) (hq : pc + 1 = q)
    (K : ∀ (T' : State) (h' : Heap), Stand p l e R s m args below meth c T' (locs ++ [⟨a, j.toNatClampNeg⟩]) cells slots → T'.heap = h' → Wr h h' a j.toNatClampNeg x → Arv Z h' a k ty n (vs.set j.toNatClampNeg x) d → Go p e below F (T'.setTop (mkF m q Ls S))) : Go p e below F (T.setTop (mkF m pc Ls (x :: .int j :: .ref a :: S))) := by
  subst hq
  obtain ⟨cl, Ar, q1, S1, N1, H1, G1⟩ := V
  obtain ⟨T1, h1', X1, e1, W1, st⟩ := stR X C.1 C.2.1 eT Ar (j := j) (inb S1 h1 h2) hty (hs cl Ar q1) (g := mkF m pc Ls (x :: .int j :: .ref a :: S)) rfl rfl (hb C.2.2.1 hd)
  exact of st (K T1 h1' X1 e1 W1 (Arv.set Ar q1 S1 N1 H1 G1 hf W1 _ rfl hlen))
theorem newarray (X : Stand p l e R s m args below meth c T locs cells slots) (C : Cx p s m meth c Z bytes maxL own mname ret) {aty : ArrayType} (w : (Jvm.Cond.arrayClass (newarray.typeOf aty)).before a0 Z = true) (eT : T.heap = h) {n : Int32} (hn : 0 ≤ n.toInt) (cap : Nat) (hcap : n.toInt ≤ cap) (hb8 : cap * 8 ≤ 536870912) (hd : decode bytes pc = .ok (.newarray aty, 2)) (hc : cells + 1 ≤ R.cells) (hl : slots + cap ≤ R.slots) (hq : pc + 2 = q)
    (K : ∀ (T' : State) (h' : Heap) (b : Addr) (k : ClassId), Stand p l e R s m args below meth c T' locs (cells + 1) (slots + cap) → T'.heap = h' → b = h.size → Ext h h' → Arv Z h' b k (newarray.typeOf aty) n (List.replicate cap (defaultValue (newarray.typeOf aty))) (defaultValue (newarray.typeOf aty)) → Go p e below F (T'.setTop (mkF m q Ls (.ref b :: S)))) : Go p e below F (T.setTop (mkF m pc Ls (.int n :: S))) := by
  subst hq
  have hn' : ¬ n < 0 := by rw [Int32.lt_iff_toInt_lt]; have : (0 : Int32).toInt = 0 := rfl; omega
  obtain ⟨T1, h1, k1, X1, e1, E1, A1, st⟩ := newP X C.1 C.2.1 w eT (g := mkF m pc Ls (.int n :: S)) rfl (hb C.2.2.1 hd) rfl hn' (cap := cap) (by simp only [Int32.toNatClampNeg]; omega) hb8 hc hl
  exact of st (K T1 h1 _ k1 X1 e1 rfl E1 ((Arv.new A1 hn').pad (pad_rep [] _ cap)))
theorem anewarray (X : Stand p l e R s m args below meth c T locs cells slots) (C : Cx p s m meth c Z bytes maxL own mname ret) {i : Nat} {Cn : String} (w1 : (Jvm.Cond.classLink own i Cn).before a0 Z = true) (w2 : (Jvm.Cond.arrayOver (.object Cn)).before a0 Z = true) (eT : T.heap = h) {n : Int32} (hn : 0 ≤ n.toInt) (cap : Nat) (hcap : n.toInt ≤ cap) (hb8 : cap * 8 ≤ 536870912) (hd : decode bytes pc = .ok (.anewarray i, 3)) (hc : cells + 1 ≤ R.cells) (hl : slots + cap ≤ R.slots) (hq : pc + 3 = q)
    (K : ∀ (T' : State) (h' : Heap) (b : Addr) (k : ClassId), Stand p l e R s m args below meth c T' locs (cells + 1) (slots + cap) → T'.heap = h' → b = h.size → Ext h h' → Ovr Z k Cn → Arv Z h' b k (.object Cn) n (List.replicate cap .null) .null → Go p e below F (T'.setTop (mkF m q Ls (.ref b :: S)))) : Go p e below F (T.setTop (mkF m pc Ls (.int n :: S))) := by
  subst hq
  have hn' : ¬ n < 0 := by rw [Int32.lt_iff_toInt_lt]; have : (0 : Int32).toInt = 0 := rfl; omega
  obtain ⟨T1, h1, k1, X1, e1, E1, A1, O1, st⟩ := newR X C.1 C.2.1 C.2.2.2.2.1 w1 w2 eT (g := mkF m pc Ls (.int n :: S)) rfl (hb C.2.2.1 hd) rfl hn' (cap := cap) (by simp only [Int32.toNatClampNeg]; omega) hb8 hc hl
  exact of st (K T1 h1 _ k1 X1 e1 rfl E1 O1 ((Arv.new A1 hn').pad (pad_rep [] _ cap)))
theorem keepRefl (h : Heap) : Keep h h [] := Keep.refl h []
/-! kinds of objects -/
theorem nsRoot {O Kn : String} {n : Nat} (w : (Jvm.Cond.noSuperclass O).before a0 Z = true) (wi : (Jvm.Cond.instantiable Kn n).before a0 Z = true) (hn : O ≠ Kn) : NS Z O Kn := by
  obtain ⟨c, k, h1, h2, h3, -, -⟩ := Cond.noSuperclass_spec w
  obtain ⟨t, k2, g1, -⟩ := Cond.instantiable_spec wi
  have ne := ids_ne h1 g1 hn
  refine ⟨c, t, h1, g1, fun fuel => ?_⟩
  cases fuel with
  | zero => rfl
  | succ f => simp [Vm.isSubclassAux, ne, h2, h3]
theorem nsNo {Cn S Kn : String} {n : Nat} (w : (Jvm.Cond.superclass Cn S).before a0 Z = true) (wi : (Jvm.Cond.instantiable Kn n).before a0 Z = true) (nn : NS Z Cn Kn) (hn : Cn ≠ Kn) : ∃ c t, Z.vm.findClass Cn = some c ∧ Z.vm.findClass Kn = some t ∧ Z.vm.assignable c t = false := by
  obtain ⟨c, t, h0, g0, n3⟩ := nn
  obtain ⟨p, k, kp, h1, h2, h3, h4, h5, -, h7⟩ := Cond.superclass_spec h0 w
  obtain ⟨t', k', g1, g2, g5, g6, -⟩ := Cond.instantiable_spec wi
  cases g0.symm.trans g1
  have g7 : k'.isInterface = false := (Bool.or_eq_false_iff.mp g6).1
  have ne := ids_ne h0 g0 hn
  refine ⟨c, t, h0, g0, ?_⟩
  show Z.vm.assignableAux (255 + 1) c t = false
  simp [Vm.assignableAux, ne, h2, g2, h5, g5, g7, Vm.isSubclass, n3]
theorem cast (X : Stand p l e R s m args below meth c T locs cells slots) (C : Cx p s m meth c Z bytes maxL own mname ret) {i : Nat} {Kn : String} (w : (Jvm.Cond.classLink own i Kn).before a0 Z = true) (eT : T.heap = h) {a : Addr} (I : Ins Z h a Kn true) (hd : decode bytes pc = .ok (.checkcast i, 3)) (hq : pc + 3 = q)
    (K : ∀ (T' : State), Stand p l e R s m args below meth c T' locs cells slots → T'.heap = h → Go p e below F (T'.setTop (mkF m q Ls (.ref a :: S)))) : Go p e below F (T.setTop (mkF m pc Ls (.ref a :: S))) := by
  subst hq
  obtain ⟨T1, X1, e1, st⟩ := castY X C.1 C.2.1 C.2.2.2.2.1 w eT I (g := mkF m pc Ls (.ref a :: S)) rfl rfl (hb C.2.2.1 hd)
  exact of st (K T1 X1 e1)
theorem inst1 (X : Stand p l e R s m args below meth c T locs cells slots) (C : Cx p s m meth c Z bytes maxL own mname ret) {i : Nat} {Kn : String} (w : (Jvm.Cond.classLink own i Kn).before a0 Z = true) (eT : T.heap = h) {a : Addr} (I : Ins Z h a Kn true) (hd : decode bytes pc = .ok (.instanceof i, 3)) (hq : pc + 3 = q)
    (K : ∀ (T' : State), Stand p l e R s m args below meth c T' locs cells slots → T'.heap = h → Go p e below F (T'.setTop (mkF m q Ls (.int 1 :: S)))) : Go p e below F (T.setTop (mkF m pc Ls (.ref a :: S))) := by
  subst hq
  obtain ⟨T1, X1, e1, st⟩ := instY X C.1 C.2.1 C.2.2.2.2.1 w eT I (g := mkF m pc Ls (.ref a :: S)) rfl rfl (hb C.2.2.1 hd)
  exact of st (K T1 X1 e1)
theorem inst0 (X : Stand p l e R s m args below meth c T locs cells slots) (C : Cx p s m meth c Z bytes maxL own mname ret) {i : Nat} {Kn Cn : String} (w : (Jvm.Cond.classLink own i Kn).before a0 Z = true) (eT : T.heap = h) {a : Addr} (E : Exa Z h a Cn) (N : ∃ c t, Z.vm.findClass Cn = some c ∧ Z.vm.findClass Kn = some t ∧ Z.vm.assignable c t = false) (hd : decode bytes pc = .ok (.instanceof i, 3)) (hq : pc + 3 = q)
    (K : ∀ (T' : State), Stand p l e R s m args below meth c T' locs cells slots → T'.heap = h → Go p e below F (T'.setTop (mkF m q Ls (.int 0 :: S)))) : Go p e below F (T.setTop (mkF m pc Ls (.ref a :: S))) := by
  subst hq
  obtain ⟨T1, X1, e1, st⟩ := instNo X C.1 C.2.1 C.2.2.2.2.1 w eT E N (g := mkF m pc Ls (.ref a :: S)) rfl rfl (hb C.2.2.1 hd)
  exact of st (K T1 X1 e1)
theorem instNull (X : Stand p l e R s m args below meth c T locs cells slots) (C : Cx p s m meth c Z bytes maxL own mname ret) {i : Nat} (hd : decode bytes pc = .ok (.instanceof i, 3)) (hq : pc + 3 = q) (K : Go p e below F (T.setTop (mkF m q Ls (.int 0 :: S)))) : Go p e below F (T.setTop (mkF m pc Ls (.null :: S))) := by
  subst hq; exact of (X.instanceofNull C.1 (g := mkF m pc Ls (.null :: S)) rfl rfl (hb C.2.2.1 hd)) K
theorem castNull (X : Stand p l e R s m args below meth c T locs cells slots) (C : Cx p s m meth c Z bytes maxL own mname ret) {i : Nat} (hd : decode bytes pc = .ok (.checkcast i, 3)) (hq : pc + 3 = q) (K : Go p e below F (T.setTop (mkF m q Ls (.null :: S)))) : Go p e below F (T.setTop (mkF m pc Ls (.null :: S))) := by
  subst hq; exact of (X.checkcastNull C.1 (g := mkF m pc Ls (.null :: S)) rfl rfl (hb C.2.2.1 hd)) K
theorem acmp (X : Stand p l e R s m args below meth c T locs cells slots) (C : Cx p s m meth c Z bytes maxL own mname ret) {cd : ACond} {o : Int} {x y : Value} (h1 : x.isRef = true) (h2 : y.isRef = true) {same : Bool} (hs : decide (x = y) = same) (hd : decode bytes pc = .ok (.if_acmp cd o, 3)) (ho : 0 ≤ (pc : Int) + o) (hq : q = if acV cd same = true then ((pc : Int) + o).toNat else pc + 3) (K : Go p e below F (T.setTop (mkF m q Ls S))) : Go p e below F (T.setTop (mkF m pc Ls (y :: x :: S))) :=
  of (fun t k => Jvm.RoadKit.acmp (g := mkF m pc Ls (y :: x :: S)) X C.1 rfl h1 h2 rfl (hb C.2.2.1 hd) rfl hs ho hq k) K
end
end W
end Jvm.Pilot.@@N@@
namespace Jvm.Pilot.@@N@@
open Jvm Jvm.ClassFile Sem Op Lib Jvm.Free Jvm.Stand Jvm.LawKit Jvm.RoadKit Bundle Jvm.Pilot.@@N@@.Jvm.D
theorem d2_0 : decode jdk_30_method_1_code 0 = .ok (.aload_n 0, 1) := by decide +kernel
theorem d2_1 : decode jdk_30_method_1_code 1 = .ok (.invokespecial 1, 3) := by decide +kernel
theorem d2_4 : decode jdk_30_method_1_code 4 = .ok (.return_, 1) := by decide +kernel
theorem pn_java_lang_Record : plainName "java/lang/Record" = true := by first | (simp [plainName, overriddenIn]; done) | decide +kernel
def Q2 (Z : State) (p0 : Addr) (h0 : Heap) (n0 : Nat) (v : Option Value) (h : Heap) (L : List Loc) : Prop := v = none ∧ Fr n0 L ∧ h = h0
set_option maxRecDepth 65536 in
set_option maxHeartbeats 40000000 in
theorem rm2 (l : Launch) (Z : State) (a0 : Array Value) (hw : ∀ d ∈ tables_1, d.before a0 Z = true) (ws : List Jvm.Cond) (p0 : Addr) (h0 : Heap) (n0 : Nat) :
    MetFree l (⟨"java/lang/Record", "<init>", "()V"⟩ : MethodName) (head1 (Jvm.Cond.code (⟨"java/lang/Record", "<init>", "()V"⟩ : MethodName) jdk_30_method_1_code 1 none :: ws) ({ frames := 1, cells := 0, slots := 0, locals := 12 } : Room)) (fun a U => a = #[(.ref p0)] ∧ Z.Warmed39 U.vm ∧ U.heap = h0) (fun _ _ _ _ _ => True) (fun _ U o U' => ∃ v L, o = .returned v ∧ Q2 Z p0 h0 n0 v U'.heap L ∧ FrameEnd U o U' L ({ frames := 1, cells := 0, slots := 0, locals := 12 } : Room).cells ({ frames := 1, cells := 0, slots := 0, locals := 12 } : Room).slots) := by
  refine W.bodyOf (y := (⟨"java/lang/Record", "<init>", "()V"⟩ : MethodName)) (as := #[(.ref p0)]) (maxL := 1) (Q := Q2 Z p0 h0 n0) (Ls := #[.val (.ref p0)]) (plainFor_of_name pn_java_lang_Record) (fun m => by first | rfl | (simp [entryFrame, mkF, argsToLocals, Value.category]; done)) ?_
  intro p e s m below meth c T0 C X0 e0
  have N0 := Fr.nil n0
  refine W.aloadN (q := 1) X0 C d2_0 rfl rfl rfl ?_
  refine W.initObj (q := 4) X0 C (W.ww hw 11 rfl) (W.ww hw 12 rfl) (W.ww hw 13 rfl) e0 d2_1 rfl (by decide) (Nat.le_of_ble_eq_true rfl) rfl (fun T1 X1 e1 => ?_)
  exact W.retV X1 C e1 d2_4 (by decide) (by decide) ⟨rfl, N0, rfl⟩
theorem d7_0 : decode jdk_18_method_1_code 0 = .ok (.aload_n 0, 1) := by decide +kernel
theorem d7_1 : decode jdk_18_method_1_code 1 = .ok (.invokespecial 1, 3) := by decide +kernel
theorem d7_4 : decode jdk_18_method_1_code 4 = .ok (.return_, 1) := by decide +kernel
theorem pn_java_lang_Number : plainName "java/lang/Number" = true := by first | (simp [plainName, overriddenIn]; done) | decide +kernel
def Q7 (Z : State) (p0 : Addr) (h0 : Heap) (n0 : Nat) (v : Option Value) (h : Heap) (L : List Loc) : Prop := v = none ∧ Fr n0 L ∧ h = h0
set_option maxRecDepth 65536 in
set_option maxHeartbeats 40000000 in
theorem rm7 (l : Launch) (Z : State) (a0 : Array Value) (hw : ∀ d ∈ tables_1, d.before a0 Z = true) (ws : List Jvm.Cond) (p0 : Addr) (h0 : Heap) (n0 : Nat) :
    MetFree l (⟨"java/lang/Number", "<init>", "()V"⟩ : MethodName) (head1 (Jvm.Cond.code (⟨"java/lang/Number", "<init>", "()V"⟩ : MethodName) jdk_18_method_1_code 1 none :: ws) ({ frames := 1, cells := 0, slots := 0, locals := 12 } : Room)) (fun a U => a = #[(.ref p0)] ∧ Z.Warmed39 U.vm ∧ U.heap = h0) (fun _ _ _ _ _ => True) (fun _ U o U' => ∃ v L, o = .returned v ∧ Q7 Z p0 h0 n0 v U'.heap L ∧ FrameEnd U o U' L ({ frames := 1, cells := 0, slots := 0, locals := 12 } : Room).cells ({ frames := 1, cells := 0, slots := 0, locals := 12 } : Room).slots) := by
  refine W.bodyOf (y := (⟨"java/lang/Number", "<init>", "()V"⟩ : MethodName)) (as := #[(.ref p0)]) (maxL := 1) (Q := Q7 Z p0 h0 n0) (Ls := #[.val (.ref p0)]) (plainFor_of_name pn_java_lang_Number) (fun m => by first | rfl | (simp [entryFrame, mkF, argsToLocals, Value.category]; done)) ?_
  intro p e s m below meth c T0 C X0 e0
  have N0 := Fr.nil n0
  refine W.aloadN (q := 1) X0 C d7_0 rfl rfl rfl ?_
  refine W.initObj (q := 4) X0 C (W.ww hw 47 rfl) (W.ww hw 12 rfl) (W.ww hw 13 rfl) e0 d7_1 rfl (by decide) (Nat.le_of_ble_eq_true rfl) rfl (fun T2 X2 e2 => ?_)
  exact W.retV X2 C e2 d7_4 (by decide) (by decide) ⟨rfl, N0, rfl⟩
theorem d1_0 : decode prog_11_method_1_code 0 = .ok (.aload_n 0, 1) := by decide +kernel
theorem d1_1 : decode prog_11_method_1_code 1 = .ok (.invokespecial 1, 3) := by decide +kernel
theorem pd__28_29V : parseMethodDescriptor "()V" = some ⟨[], none⟩ := by decide +kernel
theorem d1_4 : decode prog_11_method_1_code 4 = .ok (.aload_n 0, 1) := by decide +kernel
theorem d1_5 : decode prog_11_method_1_code 5 = .ok (.iload_n 1, 1) := by decide +kernel
theorem d1_6 : decode prog_11_method_1_code 6 = .ok (.putfield 7, 3) := by decide +kernel
theorem d1_9 : decode prog_11_method_1_code 9 = .ok (.aload_n 0, 1) := by decide +kernel
theorem d1_10 : decode prog_11_method_1_code 10 = .ok (.iload_n 2, 1) := by decide +kernel
theorem d1_11 : decode prog_11_method_1_code 11 = .ok (.putfield 13, 3) := by decide +kernel
theorem d1_14 : decode prog_11_method_1_code 14 = .ok (.return_, 1) := by decide +kernel
theorem pn_com_example_nomina_nomina_clauses_Atom_Filler : plainName "com/example/nomina/nomina/clauses/Atom$Filler" = true := by first | (simp [plainName, overriddenIn]; done) | decide +kernel
def Q1 (Z : State) (p0 : Addr) (p1 : Int32) (p2 : Int32) (h0 : Heap) (n0 : Nat) (v : Option Value) (h : Heap) (L : List Loc) : Prop := v = none ∧ Fr n0 L ∧ Keep h0 h [p0] ∧ Exa Z h p0 "com/example/nomina/nomina/clauses/Atom$Filler" ∧ Fld Z h p0 "com/example/nomina/nomina/clauses/Atom$Filler" "concept" "I" (.int p1) ∧ Fld Z h p0 "com/example/nomina/nomina/clauses/Atom$Filler" "negated" "Z" (.int p2)
set_option maxRecDepth 65536 in
set_option maxHeartbeats 40000000 in
theorem rm1 (l : Launch) (Z : State) (a0 : Array Value) (hw : ∀ d ∈ tables_1, d.before a0 Z = true) (ws : List Jvm.Cond) (p0 : Addr) (p1 : Int32) (p2 : Int32) (h0 : Heap) (n0 : Nat) (Z0 : n0 ≤ h0.size) (E0 : Exa Z h0 p0 "com/example/nomina/nomina/clauses/Atom$Filler") (F0a : Fld Z h0 p0 "com/example/nomina/nomina/clauses/Atom$Filler" "concept" "I" (.int (0 : Int32))) (F0b : Fld Z h0 p0 "com/example/nomina/nomina/clauses/Atom$Filler" "negated" "Z" (.int (0 : Int32))) (hge : n0 ≤ p0) (hbz : p2 = 0 ∨ p2 = 1) :
    MetFree l (⟨"com/example/nomina/nomina/clauses/Atom$Filler", "<init>", "(IZ)V"⟩ : MethodName) (head1 (Jvm.Cond.code (⟨"com/example/nomina/nomina/clauses/Atom$Filler", "<init>", "(IZ)V"⟩ : MethodName) prog_11_method_1_code 3 none :: ws) ({ frames := 2, cells := 0, slots := 0, locals := 24 } : Room)) (fun a U => a = #[(.ref p0), (.int p1), (.int p2)] ∧ Z.Warmed39 U.vm ∧ U.heap = h0) (fun _ _ _ _ _ => True) (fun _ U o U' => ∃ v L, o = .returned v ∧ Q1 Z p0 p1 p2 h0 n0 v U'.heap L ∧ FrameEnd U o U' L ({ frames := 2, cells := 0, slots := 0, locals := 24 } : Room).cells ({ frames := 2, cells := 0, slots := 0, locals := 24 } : Room).slots) := by
  refine W.bodyOf (y := (⟨"com/example/nomina/nomina/clauses/Atom$Filler", "<init>", "(IZ)V"⟩ : MethodName)) (as := #[(.ref p0), (.int p1), (.int p2)]) (maxL := 3) (Q := Q1 Z p0 p1 p2 h0 n0) (Ls := #[.val (.ref p0), .val (.int p1), .val (.int p2)]) (plainFor_of_name pn_com_example_nomina_nomina_clauses_Atom_Filler) (fun m => by first | rfl | (simp [entryFrame, mkF, argsToLocals, Value.category]; done)) ?_
  intro p e s m below meth c T0 C X0 e0
  have N0 := Fr.nil n0
  have K0 := Keep.refl h0 [p0]
  refine W.aloadN (q := 1) X0 C d1_0 rfl rfl rfl ?_
  refine W.callI (q := 4) X0 C rfl (W.ww hw 6 rfl) (W.ww hw 7 rfl) (W.ww hw 9 rfl) (W.ww hw 10 rfl) (by decide) (rm2 l Z a0 hw [] p0 h0 n0) e0 d1_1 (a := p0) [] [] rfl rfl pd__28_29V rfl rfl (by decide) (Nat.le_of_ble_eq_true rfl) (by decide) (by decide) rfl (fun T3 w3 L3 X3 hQ3 => ?_)
  obtain ⟨rfl, NL3, e3⟩ := hQ3
  have N3 := Fr.app N0 NL3
  show W.Go p e below _ (T3.setTop (mkF m 4 #[.val (.ref p0), .val (.int p1), .val (.int p2)] []))
  refine W.aloadN (q := 5) X3 C d1_4 rfl rfl rfl ?_
  refine W.iloadN (q := 6) X3 C d1_5 rfl rfl ?_
  refine W.putF (host := "") (q := 9) X3 C (Or.inl (W.ww hw 14 rfl)) Via.refl e3 F0a E0 (Or.inr ⟨(W.ww hw 15 rfl), rfl, rfl⟩) (W.ww hw 1 rfl) (ty := .int) (by decide) rfl rfl d1_6 rfl (fun T4 h4 X4 e4 W4 => ?_)
  have Fw4 := F0a.same W4
  have E0_6 := E0.wr W4
  have F0b_8 := F0b.other W4 (Or.inr (slot_ne (Or.inr (W.ww hw 17 rfl)) (Or.inr (W.ww hw 15 rfl)) (by decide) (t := .boolean) (t' := .int) (by decide) (by decide)))
  have N4 := Fr.snoc X4 N3 hge
  have K4 := K0.wr W4 (Or.inl (by simp))
  have n0_4 : n0 ≤ h4.size := by rw [W4.size]; exact Z0
  refine W.aloadN (q := 10) X4 C d1_9 rfl rfl rfl ?_
  refine W.iloadN (q := 11) X4 C d1_10 rfl rfl ?_
  refine W.putF (host := "") (q := 14) X4 C (Or.inl (W.ww hw 16 rfl)) Via.refl e4 F0b_8 E0_6 (Or.inr ⟨(W.ww hw 17 rfl), rfl, rfl⟩) (W.ww hw 1 rfl) (ty := .boolean) (by decide) (W.narZ hbz) (W.fitZ hbz) d1_11 rfl (fun T9 h9 X9 e9 W9 => ?_)
  have Fw9 := F0b_8.same W9
  have E0_11 := E0_6.wr W9
  have Fw4_12 := Fw4.other W9 (Or.inr (slot_ne (Or.inr (W.ww hw 15 rfl)) (Or.inr (W.ww hw 17 rfl)) (by decide) (t := .int) (t' := .boolean) (by decide) (by decide)))
  have N9 := Fr.snoc X9 N4 hge
  have K9 := K4.wr W9 (Or.inl (by simp))
  have n0_9 : n0 ≤ h9.size := by rw [W9.size]; exact n0_4
  exact W.retV X9 C e9 d1_14 (by decide) (by decide) ⟨rfl, N9, K9, E0_11, Fw4_12, Fw9⟩
theorem d6_0 : decode jdk_33_method_23_code 0 = .ok (.aload_n 0, 1) := by decide +kernel
theorem d6_1 : decode jdk_33_method_23_code 1 = .ok (.invokespecial 202, 3) := by decide +kernel
theorem d6_4 : decode jdk_33_method_23_code 4 = .ok (.aload_n 0, 1) := by decide +kernel
theorem d6_5 : decode jdk_33_method_23_code 5 = .ok (.iload_n 1, 1) := by decide +kernel
theorem d6_6 : decode jdk_33_method_23_code 6 = .ok (.putfield 205, 3) := by decide +kernel
theorem d6_9 : decode jdk_33_method_23_code 9 = .ok (.return_, 1) := by decide +kernel
theorem pn_java_lang_Integer : plainName "java/lang/Integer" = true := by first | (simp [plainName, overriddenIn]; done) | decide +kernel
def Q6 (Z : State) (p0 : Addr) (p1 : Int32) (h0 : Heap) (n0 : Nat) (v : Option Value) (h : Heap) (L : List Loc) : Prop := v = none ∧ Fr n0 L ∧ Keep h0 h [p0] ∧ Exa Z h p0 "java/lang/Integer" ∧ Fld Z h p0 "java/lang/Integer" "value" "I" (.int p1)
set_option maxRecDepth 65536 in
set_option maxHeartbeats 40000000 in
theorem rm6 (l : Launch) (Z : State) (a0 : Array Value) (hw : ∀ d ∈ tables_1, d.before a0 Z = true) (ws : List Jvm.Cond) (p0 : Addr) (p1 : Int32) (h0 : Heap) (n0 : Nat) (Z0 : n0 ≤ h0.size) (E0 : Exa Z h0 p0 "java/lang/Integer") (F0a : Fld Z h0 p0 "java/lang/Integer" "value" "I" (.int (0 : Int32))) (hge : n0 ≤ p0) :
    MetFree l (⟨"java/lang/Integer", "<init>", "(I)V"⟩ : MethodName) (head1 (Jvm.Cond.code (⟨"java/lang/Integer", "<init>", "(I)V"⟩ : MethodName) jdk_33_method_23_code 2 none :: ws) ({ frames := 2, cells := 0, slots := 0, locals := 24 } : Room)) (fun a U => a = #[(.ref p0), (.int p1)] ∧ Z.Warmed39 U.vm ∧ U.heap = h0) (fun _ _ _ _ _ => True) (fun _ U o U' => ∃ v L, o = .returned v ∧ Q6 Z p0 p1 h0 n0 v U'.heap L ∧ FrameEnd U o U' L ({ frames := 2, cells := 0, slots := 0, locals := 24 } : Room).cells ({ frames := 2, cells := 0, slots := 0, locals := 24 } : Room).slots) := by
  refine W.bodyOf (y := (⟨"java/lang/Integer", "<init>", "(I)V"⟩ : MethodName)) (as := #[(.ref p0), (.int p1)]) (maxL := 2) (Q := Q6 Z p0 p1 h0 n0) (Ls := #[.val (.ref p0), .val (.int p1)]) (plainFor_of_name pn_java_lang_Integer) (fun m => by first | rfl | (simp [entryFrame, mkF, argsToLocals, Value.category]; done)) ?_
  intro p e s m below meth c T0 C X0 e0
  have N0 := Fr.nil n0
  have K0 := Keep.refl h0 [p0]
  refine W.aloadN (q := 1) X0 C d6_0 rfl rfl rfl ?_
  refine W.callI (q := 4) X0 C rfl (W.ww hw 41 rfl) (W.ww hw 42 rfl) (W.ww hw 45 rfl) (W.ww hw 46 rfl) (by decide) (rm7 l Z a0 hw [] p0 h0 n0) e0 d6_1 (a := p0) [] [] rfl rfl pd__28_29V rfl rfl (by decide) (Nat.le_of_ble_eq_true rfl) (by decide) (by decide) rfl (fun T14 w14 L14 X14 hQ14 => ?_)
  obtain ⟨rfl, NL14, e14⟩ := hQ14
  have N14 := Fr.app N0 NL14
  show W.Go p e below _ (T14.setTop (mkF m 4 #[.val (.ref p0), .val (.int p1)] []))
  refine W.aloadN (q := 5) X14 C d6_4 rfl rfl rfl ?_
  refine W.iloadN (q := 6) X14 C d6_5 rfl rfl ?_
  refine W.putF (host := "") (q := 9) X14 C (Or.inl (W.ww hw 48 rfl)) Via.refl e14 F0a E0 (Or.inr ⟨(W.ww hw 49 rfl), rfl, rfl⟩) (W.ww hw 36 rfl) (ty := .int) (by decide) rfl rfl d6_6 rfl (fun T15 h15 X15 e15 W15 => ?_)
  have Fw15 := F0a.same W15
  have E0_17 := E0.wr W15
  have N15 := Fr.snoc X15 N14 hge
  have K15 := K0.wr W15 (Or.inl (by simp))
  have n0_15 : n0 ≤ h15.size := by rw [W15.size]; exact Z0
  exact W.retV X15 C e15 d6_9 (by decide) (by decide) ⟨rfl, N15, K15, E0_17, Fw15⟩
theorem own_idx {x : Int32} (h1 : (-128 : Int32).toInt ≤ x.toInt) (h2 : x.toInt ≤ (127 : Int32).toInt) {n : Nat} (hn : n = (256 : Int32).toNatClampNeg) : ¬ ((x + (128 : Int32)) < 0 ∨ n ≤ (x + (128 : Int32)).toNatClampNeg) := by
  have a1 := c_iadd x 128
  have k1 : (128 : Int32).toInt = 128 := by decide
  have k2 : (-128 : Int32).toInt = -128 := by decide
  have k3 : (127 : Int32).toInt = 127 := by decide
  have k4 : (256 : Int32).toNatClampNeg = 256 := by decide
  have k5 : (0 : Int32).toInt = 0 := by decide
  have r := rng32 (x + 128)
  rw [k1] at a1; rw [k2] at h1; rw [k3] at h2
  rw [Int32.lt_iff_toInt_lt, k5, hn, k4]
  simp only [Int32.toNatClampNeg]
  omega
theorem d4_0 : decode jdk_33_method_22_code 0 = .ok (.iload_n 0, 1) := by decide +kernel
theorem d4_1 : decode jdk_33_method_22_code 1 = .ok (.bipush (-128), 2) := by decide +kernel
theorem d4_3 : decode jdk_33_method_22_code 3 = .ok (.if_icmp .lt 20, 3) := by decide +kernel
theorem d4_23 : decode jdk_33_method_22_code 23 = .ok (.new 1, 3) := by decide +kernel
theorem d4_26 : decode jdk_33_method_22_code 26 = .ok (.dup, 1) := by decide +kernel
theorem d4_27 : decode jdk_33_method_22_code 27 = .ok (.iload_n 0, 1) := by decide +kernel
theorem d4_28 : decode jdk_33_method_22_code 28 = .ok (.invokespecial 199, 3) := by decide +kernel
theorem pd__28I_29V : parseMethodDescriptor "(I)V" = some ⟨[.int], none⟩ := by decide +kernel
theorem d4_31 : decode jdk_33_method_22_code 31 = .ok (.areturn, 1) := by decide +kernel
theorem d4_6 : decode jdk_33_method_22_code 6 = .ok (.iload_n 0, 1) := by decide +kernel
theorem d4_7 : decode jdk_33_method_22_code 7 = .ok (.getstatic 191, 3) := by decide +kernel
theorem d4_10 : decode jdk_33_method_22_code 10 = .ok (.if_icmp .gt 13, 3) := by decide +kernel
theorem d4_13 : decode jdk_33_method_22_code 13 = .ok (.getstatic 195, 3) := by decide +kernel
theorem d4_16 : decode jdk_33_method_22_code 16 = .ok (.iload_n 0, 1) := by decide +kernel
theorem d4_17 : decode jdk_33_method_22_code 17 = .ok (.sipush 128, 3) := by decide +kernel
theorem d4_20 : decode jdk_33_method_22_code 20 = .ok (.iadd, 1) := by decide +kernel
theorem d4_21 : decode jdk_33_method_22_code 21 = .ok (.aaload, 1) := by decide +kernel
theorem d4_22 : decode jdk_33_method_22_code 22 = .ok (.areturn, 1) := by decide +kernel
def Q4 (Z : State) (p0 : Int32) (ca : Addr) (cl : Cell) (h0 : Heap) (n0 : Nat) (v : Option Value) (h : Heap) (L : List Loc) : Prop := ∃ b, v = some (.ref b) ∧ Fr n0 L ∧ Keep h0 h [] ∧ Exa Z h b "java/lang/Integer"
set_option maxRecDepth 65536 in
set_option maxHeartbeats 40000000 in
theorem rm4 (l : Launch) (Z : State) (a0 : Array Value) (hw : ∀ d ∈ tables_1, d.before a0 Z = true) (ws : List Jvm.Cond) (p0 : Int32) (ca : Addr) (cl : Cell) (h0 : Heap) (n0 : Nat) (Z0 : n0 ≤ h0.size) (O0 : Old Z n0 h0) (SH : Sta Z Z.heap "java/lang/Integer$IntegerCache" "high" "I" (.int (127 : Int32))) (SC : Sta Z Z.heap "java/lang/Integer$IntegerCache" "cache" "[Ljava/lang/Integer;" (.ref ca)) (BX : Bxs Z ca cl "java/lang/Integer" "I" (256 : Int32) (fun j => .int (j - 128))) :
    MetFree l (⟨"java/lang/Integer", "valueOf", "(I)Ljava/lang/Integer;"⟩ : MethodName) (head1 (Jvm.Cond.code (⟨"java/lang/Integer", "valueOf", "(I)Ljava/lang/Integer;"⟩ : MethodName) jdk_33_method_22_code 1 (some (.object "java/lang/Integer")) :: ws) ({ frames := 3, cells := 1, slots := 1, locals := 40 } : Room)) (fun a U => a = #[(.int p0)] ∧ Z.Warmed39 U.vm ∧ U.heap = h0) (fun _ _ _ _ _ => True) (fun _ U o U' => ∃ v L, o = .returned v ∧ Q4 Z p0 ca cl h0 n0 v U'.heap L ∧ FrameEnd U o U' L ({ frames := 3, cells := 1, slots := 1, locals := 40 } : Room).cells ({ frames := 3, cells := 1, slots := 1, locals := 40 } : Room).slots) := by
  refine W.bodyOf (y := (⟨"java/lang/Integer", "valueOf", "(I)Ljava/lang/Integer;"⟩ : MethodName)) (as := #[(.int p0)]) (maxL := 1) (Q := Q4 Z p0 ca cl h0 n0) (Ls := #[.val (.int p0)]) (plainFor_of_name pn_java_lang_Integer) (fun m => by first | rfl | (simp [entryFrame, mkF, argsToLocals, Value.category]; done)) ?_
  intro p e s m below meth c T0 C X0 e0
  have N0 := Fr.nil n0
  have K0 := Keep.refl h0 []
  have SHh := SH.ext O0.2
  have SCh := SC.ext O0.2
  refine W.iloadN (q := 1) X0 C d4_0 rfl rfl ?_
  refine W.bipush (q := 3) (v := (-128)) X0 C d4_1 rfl rfl ?_
  refine W.icmp (q := 23) (q' := 6) X0 C d4_3 (by decide) (by decide) rfl (fun hc19 => ?_) (fun hc19 => ?_)
  · replace hc19 : p0.toInt < (-128 : Int32).toInt := hc19
    refine W.newO (q := 26) X0 C (W.ww hw 35 rfl) (W.ww hw 36 rfl) (W.ww hw 20 rfl) e0 d4_23 (by decide) (by decide) rfl (fun T20 h20 b20 X20 e20 g20 E20 A20 D20 => ?_)
    have ge_b20 : n0 ≤ b20 := by rw [g20]; exact Z0
    have sz_b20 : h0.size ≤ b20 := by rw [g20]; exact K0.1
    have n0_20 : n0 ≤ h20.size := Nat.le_trans Z0 E20.1
    have SHh_22 := SHh.ext E20
    have SCh_23 := SCh.ext E20
    have O0_24 := O0.ext E20
    have K20 := K0.ext E20
    have F_value_25 : Fld Z h20 b20 "java/lang/Integer" "value" "I" (.int (0 : Int32)) := D20 (Or.inr (W.ww hw 49 rfl)) (ty := .int) (by decide)
    refine W.dup (q := 27) X20 C d4_26 rfl rfl ?_
    refine W.iloadN (q := 28) X20 C d4_27 rfl rfl ?_
    refine W.callI (q := 31) X20 C rfl (W.ww hw 37 rfl) (W.ww hw 38 rfl) (W.ww hw 20 rfl) (W.ww hw 40 rfl) (by decide) (rm6 l Z a0 hw [] b20 p0 h20 n0 n0_20 A20 F_value_25 ge_b20) e20 d4_28 (a := b20) [(.int p0)] [(.ref b20)] rfl rfl pd__28I_29V rfl rfl (by decide) (Nat.le_of_ble_eq_true rfl) (by decide) (by decide) rfl (fun T26 w26 L26 X26 hQ26 => ?_)
    obtain ⟨rfl, NL26, K26, E_26, Fa_26⟩ := hQ26
    have N26 := Fr.app N0 NL26
    have O0_30 := O0_24.keep K26 (allS ge_b20 all0)
    have n0_26 : n0 ≤ T26.heap.size := Nat.le_trans n0_20 K26.1
    have KK26 := K20.trans K26 (allS (Or.inr sz_b20) all0)
    show W.Go p e below _ (T26.setTop (mkF m 31 #[.val (.int p0)] [(.ref b20)]))
    exact W.retA X26 C rfl rfl rfl d4_31 (by decide) (by decide) ⟨b20, rfl, N26, KK26, E_26⟩
  · replace hc19 : (-128 : Int32).toInt ≤ p0.toInt := hc19
    refine W.iloadN (q := 7) X0 C d4_6 rfl rfl ?_
    refine W.getS (q := 10) X0 C (W.ww hw 22 rfl) Via.refl e0 SHh d4_7 rfl (fun T31 X31 e31 => ?_)
    refine W.icmp (q := 23) (q' := 13) X31 C d4_10 (by decide) (by decide) rfl (fun hc32 => ?_) (fun hc32 => ?_)
    · replace hc32 : (127 : Int32).toInt < p0.toInt := hc32
      refine W.newO (q := 26) X31 C (W.ww hw 35 rfl) (W.ww hw 36 rfl) (W.ww hw 20 rfl) e31 d4_23 (by decide) (by decide) rfl (fun T33 h33 b33 X33 e33 g33 E33 A33 D33 => ?_)
      have ge_b33 : n0 ≤ b33 := by rw [g33]; exact Z0
      have sz_b33 : h0.size ≤ b33 := by rw [g33]; exact K0.1
      have n0_33 : n0 ≤ h33.size := Nat.le_trans Z0 E33.1
      have SHh_35 := SHh.ext E33
      have SCh_36 := SCh.ext E33
      have O0_37 := O0.ext E33
      have K33 := K0.ext E33
      have F_value_38 : Fld Z h33 b33 "java/lang/Integer" "value" "I" (.int (0 : Int32)) := D33 (Or.inr (W.ww hw 49 rfl)) (ty := .int) (by decide)
      refine W.dup (q := 27) X33 C d4_26 rfl rfl ?_
      refine W.iloadN (q := 28) X33 C d4_27 rfl rfl ?_
      refine W.callI (q := 31) X33 C rfl (W.ww hw 37 rfl) (W.ww hw 38 rfl) (W.ww hw 20 rfl) (W.ww hw 40 rfl) (by decide) (rm6 l Z a0 hw [] b33 p0 h33 n0 n0_33 A33 F_value_38 ge_b33) e33 d4_28 (a := b33) [(.int p0)] [(.ref b33)] rfl rfl pd__28I_29V rfl rfl (by decide) (Nat.le_of_ble_eq_true rfl) (by decide) (by decide) rfl (fun T39 w39 L39 X39 hQ39 => ?_)
      obtain ⟨rfl, NL39, K39, E_39, Fa_39⟩ := hQ39
      have N39 := Fr.app N0 NL39
      have O0_43 := O0_37.keep K39 (allS ge_b33 all0)
      have n0_39 : n0 ≤ T39.heap.size := Nat.le_trans n0_33 K39.1
      have KK39 := K33.trans K39 (allS (Or.inr sz_b33) all0)
      show W.Go p e below _ (T39.setTop (mkF m 31 #[.val (.int p0)] [(.ref b33)]))
      exact W.retA X39 C rfl rfl rfl d4_31 (by decide) (by decide) ⟨b33, rfl, N39, KK39, E_39⟩
    · replace hc32 : p0.toInt ≤ (127 : Int32).toInt := hc32
      refine W.getS (q := 16) X31 C (W.ww hw 24 rfl) Via.refl e31 SCh d4_13 rfl (fun T44 X44 e44 => ?_)
      refine W.iloadN (q := 17) X44 C d4_16 rfl rfl ?_
      refine W.sipush (q := 20) (v := 128) X44 C d4_17 rfl rfl ?_
      refine W.iadd (q := 21) X44 C d4_20 rfl ?_
      have hin45 := own_idx hc19 hc32 BX.2.1
      obtain ⟨bx, hat45, EX45, -⟩ := BX.2.2.2 _ hin45
      refine W.aaloadC (q := 22) X44 C e44 rfl (BX.ext O0.2).1 hin45 hat45 d4_21 rfl ?_
      have EXh := EX45.ext O0.2
      exact W.retA X44 C rfl e44 rfl d4_22 (by decide) (by decide) ⟨bx, rfl, N0, K0, EXh⟩
def own_eq (c c' n n' : Int32) : Int32 := if c = c' then (if n = n' then 1 else 0) else 0
theorem d5_0 : decode prog_11_method_2_code 0 = .ok (.aload_n 1, 1) := by decide +kernel
theorem d5_1 : decode prog_11_method_2_code 1 = .ok (.instanceof 8, 3) := by decide +kernel
theorem d5_4 : decode prog_11_method_2_code 4 = .ok (.ifCond .eq 34, 3) := by decide +kernel
theorem d5_7 : decode prog_11_method_2_code 7 = .ok (.aload_n 1, 1) := by decide +kernel
theorem d5_8 : decode prog_11_method_2_code 8 = .ok (.checkcast 8, 3) := by decide +kernel
theorem d5_11 : decode prog_11_method_2_code 11 = .ok (.astore_n 2, 1) := by decide +kernel
theorem d5_12 : decode prog_11_method_2_code 12 = .ok (.aload_n 2, 1) := by decide +kernel
theorem d5_13 : decode prog_11_method_2_code 13 = .ok (.getfield 7, 3) := by decide +kernel
theorem d5_16 : decode prog_11_method_2_code 16 = .ok (.aload_n 0, 1) := by decide +kernel
theorem d5_17 : decode prog_11_method_2_code 17 = .ok (.getfield 7, 3) := by decide +kernel
theorem d5_20 : decode prog_11_method_2_code 20 = .ok (.if_icmp .ne 18, 3) := by decide +kernel
theorem d5_38 : decode prog_11_method_2_code 38 = .ok (.iconst 0, 1) := by decide +kernel
theorem d5_39 : decode prog_11_method_2_code 39 = .ok (.ireturn, 1) := by decide +kernel
theorem d5_23 : decode prog_11_method_2_code 23 = .ok (.aload_n 2, 1) := by decide +kernel
theorem d5_24 : decode prog_11_method_2_code 24 = .ok (.getfield 13, 3) := by decide +kernel
theorem d5_27 : decode prog_11_method_2_code 27 = .ok (.aload_n 0, 1) := by decide +kernel
theorem d5_28 : decode prog_11_method_2_code 28 = .ok (.getfield 13, 3) := by decide +kernel
theorem d5_31 : decode prog_11_method_2_code 31 = .ok (.if_icmp .ne 7, 3) := by decide +kernel
theorem d5_34 : decode prog_11_method_2_code 34 = .ok (.iconst 1, 1) := by decide +kernel
theorem d5_35 : decode prog_11_method_2_code 35 = .ok (.goto 4, 3) := by decide +kernel
def Q5a (Z : State) (p0 p1 : Addr) (x0 x1 y0 y1 : Int32) (h0 : Heap) (n0 : Nat) (v : Option Value) (h : Heap) (L : List Loc) : Prop := v = some (.int (own_eq x1 x0 y1 y0)) ∧ Fr n0 L ∧ h = h0
set_option maxRecDepth 65536 in
set_option maxHeartbeats 40000000 in
theorem rm5a (l : Launch) (Z : State) (a0 : Array Value) (hw : ∀ d ∈ tables_1, d.before a0 Z = true) (ws : List Jvm.Cond) (p0 p1 : Addr) (x0 x1 y0 y1 : Int32) (h0 : Heap) (n0 : Nat) (F0 : Fld Z h0 p0 "com/example/nomina/nomina/clauses/Atom$Filler" "concept" "I" (.int x0)) (G0 : Fld Z h0 p0 "com/example/nomina/nomina/clauses/Atom$Filler" "negated" "Z" (.int y0)) (F1 : Fld Z h0 p1 "com/example/nomina/nomina/clauses/Atom$Filler" "concept" "I" (.int x1)) (G1 : Fld Z h0 p1 "com/example/nomina/nomina/clauses/Atom$Filler" "negated" "Z" (.int y1)) (E1 : Exa Z h0 p1 "com/example/nomina/nomina/clauses/Atom$Filler") :
    MetFree l (⟨"com/example/nomina/nomina/clauses/Atom$Filler", "equals", "(Ljava/lang/Object;)Z"⟩ : MethodName) (head1 (Jvm.Cond.code (⟨"com/example/nomina/nomina/clauses/Atom$Filler", "equals", "(Ljava/lang/Object;)Z"⟩ : MethodName) prog_11_method_2_code 3 (some .boolean) :: ws) ({ frames := 0, cells := 0, slots := 0, locals := 0 } : Room)) (fun a U => a = #[(.ref p0), (.ref p1)] ∧ Z.Warmed39 U.vm ∧ U.heap = h0) (fun _ _ _ _ _ => True) (fun _ U o U' => ∃ v L, o = .returned v ∧ Q5a Z p0 p1 x0 x1 y0 y1 h0 n0 v U'.heap L ∧ FrameEnd U o U' L ({ frames := 0, cells := 0, slots := 0, locals := 0 } : Room).cells ({ frames := 0, cells := 0, slots := 0, locals := 0 } : Room).slots) := by
  refine W.bodyOf (y := (⟨"com/example/nomina/nomina/clauses/Atom$Filler", "equals", "(Ljava/lang/Object;)Z"⟩ : MethodName)) (as := #[(.ref p0), (.ref p1)]) (maxL := 3) (Q := Q5a Z p0 p1 x0 x1 y0 y1 h0 n0) (Ls := #[.val (.ref p0), .val (.ref p1), .unset]) (plainFor_of_name pn_com_example_nomina_nomina_clauses_Atom_Filler) (fun m => by first | rfl | (simp [entryFrame, mkF, argsToLocals, Value.category]; done)) ?_
  intro p e s m below meth c T0 C X0 e0
  have N0 := Fr.nil n0
  refine W.aloadN (q := 1) X0 C d5_0 rfl rfl rfl ?_
  refine W.inst1 (q := 4) X0 C (W.ww hw 30 rfl) e0 (Ins.self E1) d5_1 rfl (fun T46 X46 e46 => ?_)
  refine W.ifF (q := 7) X46 C d5_4 rfl (by decide : W.cF .eq (1 : Int32) 0) ?_
  refine W.aloadN (q := 8) X46 C d5_7 rfl rfl rfl ?_
  refine W.cast (q := 11) X46 C (W.ww hw 30 rfl) e46 (Ins.self E1) d5_8 rfl (fun T47 X47 e47 => ?_)
  refine W.astoreN (q := 12) (L' := #[.val (.ref p0), .val (.ref p1), .val (.ref p1)]) X47 C d5_11 rfl rfl rfl ?_
  refine W.aloadN (q := 13) X47 C d5_12 rfl rfl rfl ?_
  refine W.getF (host := "") (q := 16) X47 C (Or.inl (W.ww hw 14 rfl)) Via.refl e47 F1 d5_13 rfl (fun T48 X48 e48 => ?_)
  refine W.aloadN (q := 17) X48 C d5_16 rfl rfl rfl ?_
  refine W.getF (host := "") (q := 20) X48 C (Or.inl (W.ww hw 14 rfl)) Via.refl e48 F0 d5_17 rfl (fun T49 X49 e49 => ?_)
  refine W.icmp (q := 38) (q' := 23) X49 C d5_20 (by decide) (by decide) rfl (fun hc50 => ?_) (fun hc50 => ?_)
  · replace hc50 : x1 ≠ x0 := hc50
    refine W.iconst (q := 39) (v := 0) X49 C d5_38 rfl rfl ?_
    exact W.retN X49 C (by simp) e49 d5_39 rfl (by decide) (by decide) ⟨by simp [own_eq, hc50], N0, rfl⟩
  · replace hc50 : x1 = x0 := hc50
    refine W.aloadN (q := 24) X49 C d5_23 rfl rfl rfl ?_
    refine W.getF (host := "") (q := 27) X49 C (Or.inl (W.ww hw 16 rfl)) Via.refl e49 G1 d5_24 rfl (fun T51 X51 e51 => ?_)
    refine W.aloadN (q := 28) X51 C d5_27 rfl rfl rfl ?_
    refine W.getF (host := "") (q := 31) X51 C (Or.inl (W.ww hw 16 rfl)) Via.refl e51 G0 d5_28 rfl (fun T52 X52 e52 => ?_)
    refine W.icmp (q := 38) (q' := 34) X52 C d5_31 (by decide) (by decide) rfl (fun hc53 => ?_) (fun hc53 => ?_)
    · replace hc53 : y1 ≠ y0 := hc53
      refine W.iconst (q := 39) (v := 0) X52 C d5_38 rfl rfl ?_
      exact W.retN X52 C (by simp) e52 d5_39 rfl (by decide) (by decide) ⟨by simp [own_eq, hc50, hc53], N0, rfl⟩
    · replace hc53 : y1 = y0 := hc53
      refine W.iconst (q := 35) (v := 1) X52 C d5_34 rfl rfl ?_
      refine W.goto (q := 39) X52 C d5_35 (by decide) (by decide) ?_
      exact W.retN X52 C (by simp) e52 d5_39 rfl (by decide) (by decide) ⟨by simp [own_eq, hc50, hc53], N0, rfl⟩
def Q5n (Z : State) (p0 : Addr) (h0 : Heap) (n0 : Nat) (v : Option Value) (h : Heap) (L : List Loc) : Prop := v = some (.int 0) ∧ Fr n0 L ∧ h = h0
set_option maxRecDepth 65536 in
set_option maxHeartbeats 40000000 in
theorem rm5n (l : Launch) (Z : State) (a0 : Array Value) (hw : ∀ d ∈ tables_1, d.before a0 Z = true) (ws : List Jvm.Cond) (p0 : Addr) (h0 : Heap) (n0 : Nat) :
    MetFree l (⟨"com/example/nomina/nomina/clauses/Atom$Filler", "equals", "(Ljava/lang/Object;)Z"⟩ : MethodName) (head1 (Jvm.Cond.code (⟨"com/example/nomina/nomina/clauses/Atom$Filler", "equals", "(Ljava/lang/Object;)Z"⟩ : MethodName) prog_11_method_2_code 3 (some .boolean) :: ws) ({ frames := 0, cells := 0, slots := 0, locals := 0 } : Room)) (fun a U => a = #[(.ref p0), .null] ∧ Z.Warmed39 U.vm ∧ U.heap = h0) (fun _ _ _ _ _ => True) (fun _ U o U' => ∃ v L, o = .returned v ∧ Q5n Z p0 h0 n0 v U'.heap L ∧ FrameEnd U o U' L ({ frames := 0, cells := 0, slots := 0, locals := 0 } : Room).cells ({ frames := 0, cells := 0, slots := 0, locals := 0 } : Room).slots) := by
  refine W.bodyOf (y := (⟨"com/example/nomina/nomina/clauses/Atom$Filler", "equals", "(Ljava/lang/Object;)Z"⟩ : MethodName)) (as := #[(.ref p0), .null]) (maxL := 3) (Q := Q5n Z p0 h0 n0) (Ls := #[.val (.ref p0), .val .null, .unset]) (plainFor_of_name pn_com_example_nomina_nomina_clauses_Atom_Filler) (fun m => by first | rfl | (simp [entryFrame, mkF, argsToLocals, Value.category]; done)) ?_
  intro p e s m below meth c T0 C X0 e0
  have N0 := Fr.nil n0
  refine W.aloadN (q := 1) X0 C d5_0 rfl rfl rfl ?_
  refine W.instNull (q := 4) X0 C d5_1 rfl ?_
  refine W.ifT (q := 38) X0 C d5_4 (by decide) (by decide) (by decide : W.cT .eq (0 : Int32) 0) ?_
  refine W.iconst (q := 39) (v := 0) X0 C d5_38 rfl rfl ?_
  exact W.retN X0 C (by simp) e0 d5_39 rfl (by decide) (by decide) ⟨rfl, N0, rfl⟩
def Q5o (Z : State) (p0 p1 : Addr) (h0 : Heap) (n0 : Nat) (v : Option Value) (h : Heap) (L : List Loc) : Prop := v = some (.int 0) ∧ Fr n0 L ∧ h = h0
set_option maxRecDepth 65536 in
set_option maxHeartbeats 40000000 in
theorem rm5o (l : Launch) (Z : State) (a0 : Array Value) (hw : ∀ d ∈ tables_1, d.before a0 Z = true) (ws : List Jvm.Cond) (p0 p1 : Addr) (h0 : Heap) (n0 : Nat) (E1 : Exa Z h0 p1 "java/lang/Integer") :
    MetFree l (⟨"com/example/nomina/nomina/clauses/Atom$Filler", "equals", "(Ljava/lang/Object;)Z"⟩ : MethodName) (head1 (Jvm.Cond.code (⟨"com/example/nomina/nomina/clauses/Atom$Filler", "equals", "(Ljava/lang/Object;)Z"⟩ : MethodName) prog_11_method_2_code 3 (some .boolean) :: ws) ({ frames := 0, cells := 0, slots := 0, locals := 0 } : Room)) (fun a U => a = #[(.ref p0), (.ref p1)] ∧ Z.Warmed39 U.vm ∧ U.heap = h0) (fun _ _ _ _ _ => True) (fun _ U o U' => ∃ v L, o = .returned v ∧ Q5o Z p0 p1 h0 n0 v U'.heap L ∧ FrameEnd U o U' L ({ frames := 0, cells := 0, slots := 0, locals := 0 } : Room).cells ({ frames := 0, cells := 0, slots := 0, locals := 0 } : Room).slots) := by
  refine W.bodyOf (y := (⟨"com/example/nomina/nomina/clauses/Atom$Filler", "equals", "(Ljava/lang/Object;)Z"⟩ : MethodName)) (as := #[(.ref p0), (.ref p1)]) (maxL := 3) (Q := Q5o Z p0 p1 h0 n0) (Ls := #[.val (.ref p0), .val (.ref p1), .unset]) (plainFor_of_name pn_com_example_nomina_nomina_clauses_Atom_Filler) (fun m => by first | rfl | (simp [entryFrame, mkF, argsToLocals, Value.category]; done)) ?_
  intro p e s m below meth c T0 C X0 e0
  have N0 := Fr.nil n0
  refine W.aloadN (q := 1) X0 C d5_0 rfl rfl rfl ?_
  refine W.inst0 (q := 4) X0 C (W.ww hw 30 rfl) e0 E1 (W.nsNo (W.ww hw 32 rfl) (W.ww hw 1 rfl) (NS.step (W.ww hw 32 rfl) (NS.step (W.ww hw 33 rfl) (W.nsRoot (W.ww hw 34 rfl) (W.ww hw 1 rfl) (by decide)) (by decide)) (by decide)) (by decide)) d5_1 rfl (fun T54 X54 e54 => ?_)
  refine W.ifT (q := 38) X54 C d5_4 (by decide) (by decide) (by decide : W.cT .eq (0 : Int32) 0) ?_
  refine W.iconst (q := 39) (v := 0) X54 C d5_38 rfl rfl ?_
  exact W.retN X54 C (by simp) e54 d5_39 rfl (by decide) (by decide) ⟨rfl, N0, rfl⟩
theorem pd__28IZ_29V : parseMethodDescriptor "(IZ)V" = some ⟨[.int, .boolean], none⟩ := by decide +kernel
theorem pd__28I_29Ljava_2flang_2fInteger_3b : parseMethodDescriptor "(I)Ljava/lang/Integer;" = some ⟨[.int], some (.object "java/lang/Integer")⟩ := by decide +kernel
theorem pd__28Ljava_2flang_2fObject_3b_29Z : parseMethodDescriptor "(Ljava/lang/Object;)Z" = some ⟨[(.object "java/lang/Object")], some .boolean⟩ := by decide +kernel
theorem pn_com_example_nomina_nomina_clauses_FillerEqualsPinLaw : plainName "com/example/nomina/nomina/clauses/FillerEqualsPinLaw" = true := by first | (simp [plainName, overriddenIn]; done) | decide +kernel
def Q0 (Z : State) (p0 p1 p2 : Int32) (ca : Addr) (cl : Cell) (h0 : Heap) (n0 : Nat) (v : Option Value) (h : Heap) (L : List Loc) : Prop := v = some (.int 1) ∧ Fr n0 L
set_option maxRecDepth 65536 in
set_option maxHeartbeats 40000000 in
theorem rm0 (l : Launch) (Z : State) (a0 : Array Value) (hw : ∀ d ∈ tables_1, d.before a0 Z = true) (ws : List Jvm.Cond) (p0 p1 p2 : Int32) (ca : Addr) (cl : Cell) (h0 : Heap) (n0 : Nat) (Z0 : n0 ≤ h0.size) (O0 : Old Z n0 h0) (SH : Sta Z Z.heap "java/lang/Integer$IntegerCache" "high" "I" (.int (127 : Int32))) (SC : Sta Z Z.heap "java/lang/Integer$IntegerCache" "cache" "[Ljava/lang/Integer;" (.ref ca)) (BX : Bxs Z ca cl "java/lang/Integer" "I" (256 : Int32) (fun j => .int (j - 128))) :
    MetFree l x (head1 (Jvm.Cond.code x code maxLocals ret :: ws) room_1) (fun a U => a = #[(.int p0), (.int p1), (.int p2)] ∧ Z.Warmed39 U.vm ∧ U.heap = h0) (fun _ _ _ _ _ => True) (fun _ U o U' => ∃ v L, o = .returned v ∧ Q0 Z p0 p1 p2 ca cl h0 n0 v U'.heap L ∧ FrameEnd U o U' L room_1.cells room_1.slots) := by
  refine W.bodyOf (y := x) (as := #[(.int p0), (.int p1), (.int p2)]) (maxL := maxLocals) (Q := Q0 Z p0 p1 p2 ca cl h0 n0) (Ls := #[.val (.int p0), .val (.int p1), .val (.int p2), .unset, .unset, .unset, .unset, .unset, .unset, .unset, .unset, .unset, .unset, .unset, .unset, .unset, .unset]) (plainFor_of_name pn_com_example_nomina_nomina_clauses_FillerEqualsPinLaw) (fun m => by first | rfl | (simp [entryFrame, mkF, argsToLocals, Value.category, maxLocals]; done)) ?_
  intro p e s m below meth c T0 C X0 e0
  replace C : W.Cx p s m meth c Z code 17 "com/example/nomina/nomina/clauses/FillerEqualsPinLaw" "law" (some .boolean) := C
  have N0 := Fr.nil n0
  refine W.iloadN (q := 1) X0 C at_0 rfl rfl ?_
  refine W.iconst (q := 2) (v := 1) X0 C at_1 rfl rfl ?_
  refine W.iand (q := 3) X0 C at_2 rfl ?_
  refine W.if_ (q := 10) (q' := 6) X0 C at_3 (by decide) (by decide) rfl (fun hc55 => ?_) (fun hc55 => ?_)
  · replace hc55 : (p2 &&& (1 : Int32)) = 0 := hc55
    refine W.iconst (q := 11) (v := 0) X0 C at_10 rfl rfl ?_
    refine W.istoreN (q := 12) (L' := #[.val (.int p0), .val (.int p1), .val (.int p2), .val (.int (0 : Int32)), .unset, .unset, .unset, .unset, .unset, .unset, .unset, .unset, .unset, .unset, .unset, .unset, .unset]) X0 C at_11 rfl rfl ?_
    refine W.iloadN (q := 13) X0 C at_12 rfl rfl ?_
    refine W.iconst (q := 14) (v := 2) X0 C at_13 rfl rfl ?_
    refine W.iand (q := 15) X0 C at_14 rfl ?_
    refine W.if_ (q := 22) (q' := 18) X0 C at_15 (by decide) (by decide) rfl (fun hc56 => ?_) (fun hc56 => ?_)
    · replace hc56 : (p2 &&& (2 : Int32)) = 0 := hc56
      refine W.iconst (q := 23) (v := 0) X0 C at_22 rfl rfl ?_
      refine W.istore (q := 25) (L' := #[.val (.int p0), .val (.int p1), .val (.int p2), .val (.int (0 : Int32)), .val (.int (0 : Int32)), .unset, .unset, .unset, .unset, .unset, .unset, .unset, .unset, .unset, .unset, .unset, .unset]) X0 C at_23 rfl rfl ?_
      refine W.iloadN (q := 26) X0 C at_25 rfl rfl ?_
      refine W.iconst (q := 27) (v := 4) X0 C at_26 rfl rfl ?_
      refine W.iand (q := 28) X0 C at_27 rfl ?_
      refine W.if_ (q := 35) (q' := 31) X0 C at_28 (by decide) (by decide) rfl (fun hc57 => ?_) (fun hc57 => ?_)
      · replace hc57 : (p2 &&& (4 : Int32)) = 0 := hc57
        refine W.iloadN (q := 36) X0 C at_35 rfl rfl ?_
        refine W.istore (q := 38) (L' := #[.val (.int p0), .val (.int p1), .val (.int p2), .val (.int (0 : Int32)), .val (.int (0 : Int32)), .val (.int p1), .unset, .unset, .unset, .unset, .unset, .unset, .unset, .unset, .unset, .unset, .unset]) X0 C at_36 rfl rfl ?_
        refine W.newO (q := 41) X0 C (W.ww hw 0 rfl) (W.ww hw 1 rfl) (W.ww hw 2 rfl) e0 at_38 (by decide) (by decide) rfl (fun T58 h58 b58 X58 e58 g58 E58 A58 D58 => ?_)
        have ge_b58 : n0 ≤ b58 := by rw [g58]; exact Z0
        have n0_58 : n0 ≤ h58.size := Nat.le_trans Z0 E58.1
        have O0_60 := O0.ext E58
        have F_concept_61 : Fld Z h58 b58 "com/example/nomina/nomina/clauses/Atom$Filler" "concept" "I" (.int (0 : Int32)) := D58 (Or.inr (W.ww hw 15 rfl)) (ty := .int) (by decide)
        have F_negated_62 : Fld Z h58 b58 "com/example/nomina/nomina/clauses/Atom$Filler" "negated" "Z" (.int (0 : Int32)) := D58 (Or.inr (W.ww hw 17 rfl)) (ty := .boolean) (by decide)
        refine W.dup (q := 42) X58 C at_41 rfl rfl ?_
        refine W.iloadN (q := 43) X58 C at_42 rfl rfl ?_
        refine W.iloadN (q := 44) X58 C at_43 rfl rfl ?_
        refine W.callI (q := 47) X58 C rfl (W.ww hw 3 rfl) (W.ww hw 4 rfl) (W.ww hw 2 rfl) (W.ww hw 5 rfl) (by decide) (rm1 l Z a0 hw [] b58 p0 (0 : Int32) h58 n0 n0_58 A58 F_concept_61 F_negated_62 ge_b58 (by decide)) e58 at_44 (a := b58) [(.int p0), (.int (0 : Int32))] [(.ref b58)] rfl rfl pd__28IZ_29V rfl rfl (by decide) (Nat.le_of_ble_eq_true rfl) (by decide) (by decide) rfl (fun T63 w63 L63 X63 hQ63 => ?_)
        obtain ⟨rfl, NL63, K63, E_63, Fa_63, Fb_63⟩ := hQ63
        have N63 := Fr.app N0 NL63
        have O0_65 := O0_60.keep K63 (allS ge_b58 all0)
        have n0_63 : n0 ≤ T63.heap.size := Nat.le_trans n0_58 K63.1
        show W.Go p e below _ (T63.setTop (mkF m 47 #[.val (.int p0), .val (.int p1), .val (.int p2), .val (.int (0 : Int32)), .val (.int (0 : Int32)), .val (.int p1), .unset, .unset, .unset, .unset, .unset, .unset, .unset, .unset, .unset, .unset, .unset] [(.ref b58)]))
        refine W.astore (q := 49) (L' := #[.val (.int p0), .val (.int p1), .val (.int p2), .val (.int (0 : Int32)), .val (.int (0 : Int32)), .val (.int p1), .val (.ref b58), .unset, .unset, .unset, .unset, .unset, .unset, .unset, .unset, .unset, .unset]) X63 C at_47 rfl rfl rfl ?_
        refine W.newO (q := 52) X63 C (W.ww hw 0 rfl) (W.ww hw 1 rfl) (W.ww hw 2 rfl) rfl at_49 (by decide) (by decide) rfl (fun T66 h66 b66 X66 e66 g66 E66 A66 D66 => ?_)
        have ne_b58_b66 : b58 ≠ b66 := by rw [g66]; exact Nat.ne_of_lt E_63.lt
        have ge_b66 : n0 ≤ b66 := by rw [g66]; exact n0_63
        have n0_66 : n0 ≤ h66.size := Nat.le_trans n0_63 E66.1
        have O0_68 := O0_65.ext E66
        have E_69 := E_63.ext E66
        have Fa_70 := Fa_63.ext E66
        have Fb_71 := Fb_63.ext E66
        have F_concept_72 : Fld Z h66 b66 "com/example/nomina/nomina/clauses/Atom$Filler" "concept" "I" (.int (0 : Int32)) := D66 (Or.inr (W.ww hw 15 rfl)) (ty := .int) (by decide)
        have F_negated_73 : Fld Z h66 b66 "com/example/nomina/nomina/clauses/Atom$Filler" "negated" "Z" (.int (0 : Int32)) := D66 (Or.inr (W.ww hw 17 rfl)) (ty := .boolean) (by decide)
        refine W.dup (q := 53) X66 C at_52 rfl rfl ?_
        refine W.iload (q := 55) X66 C at_53 rfl rfl ?_
        refine W.iload (q := 57) X66 C at_55 rfl rfl ?_
        refine W.callI (q := 60) X66 C rfl (W.ww hw 3 rfl) (W.ww hw 4 rfl) (W.ww hw 2 rfl) (W.ww hw 5 rfl) (by decide) (rm1 l Z a0 hw [] b66 p1 (0 : Int32) h66 n0 n0_66 A66 F_concept_72 F_negated_73 ge_b66 (by decide)) e66 at_57 (a := b66) [(.int p1), (.int (0 : Int32))] [(.ref b66)] rfl rfl pd__28IZ_29V rfl rfl (by decide) (Nat.le_of_ble_eq_true rfl) (by decide) (by decide) rfl (fun T74 w74 L74 X74 hQ74 => ?_)
        obtain ⟨rfl, NL74, K74, E_74, Fa_74, Fb_74⟩ := hQ74
        have N74 := Fr.app N63 NL74
        have O0_76 := O0_68.keep K74 (allS ge_b66 all0)
        have E_77 := E_69.keep K74
        have Fa_78 := Fa_70.keep K74 (ninS ne_b58_b66 nin0)
        have Fb_79 := Fb_71.keep K74 (ninS ne_b58_b66 nin0)
        have n0_74 : n0 ≤ T74.heap.size := Nat.le_trans n0_66 K74.1
        show W.Go p e below _ (T74.setTop (mkF m 60 #[.val (.int p0), .val (.int p1), .val (.int p2), .val (.int (0 : Int32)), .val (.int (0 : Int32)), .val (.int p1), .val (.ref b58), .unset, .unset, .unset, .unset, .unset, .unset, .unset, .unset, .unset, .unset] [(.ref b66)]))
        refine W.astore (q := 62) (L' := #[.val (.int p0), .val (.int p1), .val (.int p2), .val (.int (0 : Int32)), .val (.int (0 : Int32)), .val (.int p1), .val (.ref b58), .val (.ref b66), .unset, .unset, .unset, .unset, .unset, .unset, .unset, .unset, .unset]) X74 C at_60 rfl rfl rfl ?_
        refine W.iloadN (q := 63) X74 C at_62 rfl rfl ?_
        refine W.iload (q := 65) X74 C at_63 rfl rfl ?_
        refine W.icmp (q := 78) (q' := 68) X74 C at_65 (by decide) (by decide) rfl (fun hc80 => ?_) (fun hc80 => ?_)
        · replace hc80 : p0 ≠ p1 := hc80
          refine W.iconst (q := 79) (v := 0) X74 C at_78 rfl rfl ?_
          refine W.istore (q := 81) (L' := #[.val (.int p0), .val (.int p1), .val (.int p2), .val (.int (0 : Int32)), .val (.int (0 : Int32)), .val (.int p1), .val (.ref b58), .val (.ref b66), .val (.int (0 : Int32)), .unset, .unset, .unset, .unset, .unset, .unset, .unset, .unset]) X74 C at_79 rfl rfl ?_
          refine W.aload (q := 83) X74 C at_81 rfl rfl rfl ?_
          refine W.astore (q := 85) (L' := #[.val (.int p0), .val (.int p1), .val (.int p2), .val (.int (0 : Int32)), .val (.int (0 : Int32)), .val (.int p1), .val (.ref b58), .val (.ref b66), .val (.int (0 : Int32)), .val (.ref b66), .unset, .unset, .unset, .unset, .unset, .unset, .unset]) X74 C at_83 rfl rfl rfl ?_
          refine W.aload (q := 87) X74 C at_85 rfl rfl rfl ?_
          refine W.astore (q := 89) (L' := #[.val (.int p0), .val (.int p1), .val (.int p2), .val (.int (0 : Int32)), .val (.int (0 : Int32)), .val (.int p1), .val (.ref b58), .val (.ref b66), .val (.int (0 : Int32)), .val (.ref b66), .val (.ref b58), .unset, .unset, .unset, .unset, .unset, .unset]) X74 C at_87 rfl rfl rfl ?_
          refine W.iloadN (q := 90) X74 C at_89 rfl rfl ?_
          refine W.callS (q := 93) X74 C (W.ww hw 18 rfl) (W.ww hw 19 rfl) (W.ww hw 20 rfl) (W.ww hw 21 rfl) (by decide) (rm4 l Z a0 hw [] p0 ca cl T74.heap n0 n0_74 O0_76 SH SC BX) rfl at_90 [(.int p0)] [] rfl rfl pd__28I_29Ljava_2flang_2fInteger_3b rfl rfl (by decide) (Nat.le_of_ble_eq_true rfl) (by decide) (by decide) rfl (fun T81 w81 L81 X81 hQ81 => ?_)
          obtain ⟨b81, rfl, NL81, K81, E_81⟩ := hQ81
          have N81 := Fr.app N74 NL81
          have O0_83 := O0_76.keep K81 all0
          have E_84 := E_77.keep K81
          have Fa_85 := Fa_78.keep K81 nin0
          have Fb_86 := Fb_79.keep K81 nin0
          have E_87 := E_74.keep K81
          have Fa_88 := Fa_74.keep K81 nin0
          have Fb_89 := Fb_74.keep K81 nin0
          show W.Go p e below _ (T81.setTop (mkF m 93 #[.val (.int p0), .val (.int p1), .val (.int p2), .val (.int (0 : Int32)), .val (.int (0 : Int32)), .val (.int p1), .val (.ref b58), .val (.ref b66), .val (.int (0 : Int32)), .val (.ref b66), .val (.ref b58), .unset, .unset, .unset, .unset, .unset, .unset] [(.ref b81)]))
          refine W.astore (q := 95) (L' := #[.val (.int p0), .val (.int p1), .val (.int p2), .val (.int (0 : Int32)), .val (.int (0 : Int32)), .val (.int p1), .val (.ref b58), .val (.ref b66), .val (.int (0 : Int32)), .val (.ref b66), .val (.ref b58), .val (.ref b81), .unset, .unset, .unset, .unset, .unset]) X81 C at_93 rfl rfl rfl ?_
          refine W.aload (q := 97) X81 C at_95 rfl rfl rfl ?_
          refine W.aload (q := 99) X81 C at_97 rfl rfl rfl ?_
          refine W.callV (q := 102) X81 C (W.ww hw 25 rfl) (W.ww hw 26 rfl) (W.nf C (W.ww hw 28 rfl)) (W.ww hw 28 rfl) (W.ww hw 27 rfl) (W.ww hw 2 rfl) (W.ww hw 29 rfl) (by decide) (rm5a l Z a0 hw [] b58 b66 p0 p1 (0 : Int32) (0 : Int32) T81.heap n0 Fa_85 Fb_86 Fa_88 Fb_89 E_87) rfl E_84 at_99 [(.ref b66)] [] rfl rfl pd__28Ljava_2flang_2fObject_3b_29Z rfl rfl (by decide) (Nat.le_of_ble_eq_true rfl) (by decide) (by decide) rfl (fun T90 w90 L90 X90 hQ90 => ?_)
          obtain ⟨rfl, NL90, e90⟩ := hQ90
          have N90 := Fr.app N81 NL90
          show W.Go p e below _ (T90.setTop (mkF m 102 #[.val (.int p0), .val (.int p1), .val (.int p2), .val (.int (0 : Int32)), .val (.int (0 : Int32)), .val (.int p1), .val (.ref b58), .val (.ref b66), .val (.int (0 : Int32)), .val (.ref b66), .val (.ref b58), .val (.ref b81), .unset, .unset, .unset, .unset, .unset] [(.int (own_eq p1 p0 (0 : Int32) (0 : Int32)))]))
          refine W.istore (q := 104) (L' := #[.val (.int p0), .val (.int p1), .val (.int p2), .val (.int (0 : Int32)), .val (.int (0 : Int32)), .val (.int p1), .val (.ref b58), .val (.ref b66), .val (.int (0 : Int32)), .val (.ref b66), .val (.ref b58), .val (.ref b81), .val (.int (own_eq p1 p0 (0 : Int32) (0 : Int32))), .unset, .unset, .unset, .unset]) X90 C at_102 rfl rfl ?_
          refine W.aload (q := 106) X90 C at_104 rfl rfl rfl ?_
          refine W.aload (q := 108) X90 C at_106 rfl rfl rfl ?_
          refine W.callV (q := 111) X90 C (W.ww hw 25 rfl) (W.ww hw 26 rfl) (W.nf C (W.ww hw 28 rfl)) (W.ww hw 28 rfl) (W.ww hw 27 rfl) (W.ww hw 2 rfl) (W.ww hw 29 rfl) (by decide) (rm5a l Z a0 hw [] b66 b58 p1 p0 (0 : Int32) (0 : Int32) T81.heap n0 Fa_88 Fb_89 Fa_85 Fb_86 E_84) e90 E_87 at_108 [(.ref b58)] [] rfl rfl pd__28Ljava_2flang_2fObject_3b_29Z rfl rfl (by decide) (Nat.le_of_ble_eq_true rfl) (by decide) (by decide) rfl (fun T91 w91 L91 X91 hQ91 => ?_)
          obtain ⟨rfl, NL91, e91⟩ := hQ91
          have N91 := Fr.app N90 NL91
          show W.Go p e below _ (T91.setTop (mkF m 111 #[.val (.int p0), .val (.int p1), .val (.int p2), .val (.int (0 : Int32)), .val (.int (0 : Int32)), .val (.int p1), .val (.ref b58), .val (.ref b66), .val (.int (0 : Int32)), .val (.ref b66), .val (.ref b58), .val (.ref b81), .val (.int (own_eq p1 p0 (0 : Int32) (0 : Int32))), .unset, .unset, .unset, .unset] [(.int (own_eq p0 p1 (0 : Int32) (0 : Int32)))]))
          refine W.istore (q := 113) (L' := #[.val (.int p0), .val (.int p1), .val (.int p2), .val (.int (0 : Int32)), .val (.int (0 : Int32)), .val (.int p1), .val (.ref b58), .val (.ref b66), .val (.int (0 : Int32)), .val (.ref b66), .val (.ref b58), .val (.ref b81), .val (.int (own_eq p1 p0 (0 : Int32) (0 : Int32))), .val (.int (own_eq p0 p1 (0 : Int32) (0 : Int32))), .unset, .unset, .unset]) X91 C at_111 rfl rfl ?_
          refine W.aload (q := 115) X91 C at_113 rfl rfl rfl ?_
          refine W.aload (q := 117) X91 C at_115 rfl rfl rfl ?_
          refine W.callV (q := 120) X91 C (W.ww hw 25 rfl) (W.ww hw 26 rfl) (W.nf C (W.ww hw 28 rfl)) (W.ww hw 28 rfl) (W.ww hw 27 rfl) (W.ww hw 2 rfl) (W.ww hw 29 rfl) (by decide) (rm5a l Z a0 hw [] b58 b58 p0 p0 (0 : Int32) (0 : Int32) T81.heap n0 Fa_85 Fb_86 Fa_85 Fb_86 E_84) e91 E_84 at_117 [(.ref b58)] [] rfl rfl pd__28Ljava_2flang_2fObject_3b_29Z rfl rfl (by decide) (Nat.le_of_ble_eq_true rfl) (by decide) (by decide) rfl (fun T92 w92 L92 X92 hQ92 => ?_)
          obtain ⟨rfl, NL92, e92⟩ := hQ92
          have N92 := Fr.app N91 NL92
          show W.Go p e below _ (T92.setTop (mkF m 120 #[.val (.int p0), .val (.int p1), .val (.int p2), .val (.int (0 : Int32)), .val (.int (0 : Int32)), .val (.int p1), .val (.ref b58), .val (.ref b66), .val (.int (0 : Int32)), .val (.ref b66), .val (.ref b58), .val (.ref b81), .val (.int (own_eq p1 p0 (0 : Int32) (0 : Int32))), .val (.int (own_eq p0 p1 (0 : Int32) (0 : Int32))), .unset, .unset, .unset] [(.int (own_eq p0 p0 (0 : Int32) (0 : Int32)))]))
          refine W.istore (q := 122) (L' := #[.val (.int p0), .val (.int p1), .val (.int p2), .val (.int (0 : Int32)), .val (.int (0 : Int32)), .val (.int p1), .val (.ref b58), .val (.ref b66), .val (.int (0 : Int32)), .val (.ref b66), .val (.ref b58), .val (.ref b81), .val (.int (own_eq p1 p0 (0 : Int32) (0 : Int32))), .val (.int (own_eq p0 p1 (0 : Int32) (0 : Int32))), .val (.int (own_eq p0 p0 (0 : Int32) (0 : Int32))), .unset, .unset]) X92 C at_120 rfl rfl ?_
          refine W.aload (q := 124) X92 C at_122 rfl rfl rfl ?_
          refine W.aconst (q := 125) X92 C at_124 rfl ?_
          refine W.callV (q := 128) X92 C (W.ww hw 25 rfl) (W.ww hw 26 rfl) (W.nf C (W.ww hw 28 rfl)) (W.ww hw 28 rfl) (W.ww hw 27 rfl) (W.ww hw 2 rfl) (W.ww hw 29 rfl) (by decide) (rm5n l Z a0 hw [] b58 T81.heap n0) e92 E_84 at_125 [.null] [] rfl rfl pd__28Ljava_2flang_2fObject_3b_29Z rfl rfl (by decide) (Nat.le_of_ble_eq_true rfl) (by decide) (by decide) rfl (fun T93 w93 L93 X93 hQ93 => ?_)
          obtain ⟨rfl, NL93, e93⟩ := hQ93
          have N93 := Fr.app N92 NL93
          show W.Go p e below _ (T93.setTop (mkF m 128 #[.val (.int p0), .val (.int p1), .val (.int p2), .val (.int (0 : Int32)), .val (.int (0 : Int32)), .val (.int p1), .val (.ref b58), .val (.ref b66), .val (.int (0 : Int32)), .val (.ref b66), .val (.ref b58), .val (.ref b81), .val (.int (own_eq p1 p0 (0 : Int32) (0 : Int32))), .val (.int (own_eq p0 p1 (0 : Int32) (0 : Int32))), .val (.int (own_eq p0 p0 (0 : Int32) (0 : Int32))), .unset, .unset] [(.int (0 : Int32))]))
          refine W.istore (q := 130) (L' := #[.val (.int p0), .val (.int p1), .val (.int p2), .val (.int (0 : Int32)), .val (.int (0 : Int32)), .val (.int p1), .val (.ref b58), .val (.ref b66), .val (.int (0 : Int32)), .val (.ref b66), .val (.ref b58), .val (.ref b81), .val (.int (own_eq p1 p0 (0 : Int32) (0 : Int32))), .val (.int (own_eq p0 p1 (0 : Int32) (0 : Int32))), .val (.int (own_eq p0 p0 (0 : Int32) (0 : Int32))), .val (.int (0 : Int32)), .unset]) X93 C at_128 rfl rfl ?_
          refine W.aload (q := 132) X93 C at_130 rfl rfl rfl ?_
          refine W.aload (q := 134) X93 C at_132 rfl rfl rfl ?_
          refine W.callV (q := 137) X93 C (W.ww hw 25 rfl) (W.ww hw 26 rfl) (W.nf C (W.ww hw 28 rfl)) (W.ww hw 28 rfl) (W.ww hw 27 rfl) (W.ww hw 2 rfl) (W.ww hw 29 rfl) (by decide) (rm5o l Z a0 hw [] b58 b81 T81.heap n0 E_81) e93 E_84 at_134 [(.ref b81)] [] rfl rfl pd__28Ljava_2flang_2fObject_3b_29Z rfl rfl (by decide) (Nat.le_of_ble_eq_true rfl) (by decide) (by decide) rfl (fun T94 w94 L94 X94 hQ94 => ?_)
          obtain ⟨rfl, NL94, e94⟩ := hQ94
          have N94 := Fr.app N93 NL94
          show W.Go p e below _ (T94.setTop (mkF m 137 #[.val (.int p0), .val (.int p1), .val (.int p2), .val (.int (0 : Int32)), .val (.int (0 : Int32)), .val (.int p1), .val (.ref b58), .val (.ref b66), .val (.int (0 : Int32)), .val (.ref b66), .val (.ref b58), .val (.ref b81), .val (.int (own_eq p1 p0 (0 : Int32) (0 : Int32))), .val (.int (own_eq p0 p1 (0 : Int32) (0 : Int32))), .val (.int (own_eq p0 p0 (0 : Int32) (0 : Int32))), .val (.int (0 : Int32)), .unset] [(.int (0 : Int32))]))
          refine W.istore (q := 139) (L' := #[.val (.int p0), .val (.int p1), .val (.int p2), .val (.int (0 : Int32)), .val (.int (0 : Int32)), .val (.int p1), .val (.ref b58), .val (.ref b66), .val (.int (0 : Int32)), .val (.ref b66), .val (.ref b58), .val (.ref b81), .val (.int (own_eq p1 p0 (0 : Int32) (0 : Int32))), .val (.int (own_eq p0 p1 (0 : Int32) (0 : Int32))), .val (.int (own_eq p0 p0 (0 : Int32) (0 : Int32))), .val (.int (0 : Int32)), .val (.int (0 : Int32))]) X94 C at_137 rfl rfl ?_
          refine W.iload (q := 141) X94 C at_139 rfl rfl ?_
          refine W.iload (q := 143) X94 C at_141 rfl rfl ?_
          refine W.icmpF (q := 146) X94 C at_143 rfl (show (own_eq p1 p0 (0 : Int32) (0 : Int32)) = (0 : Int32) by simp [own_eq, hc80, Ne.symm hc80]) ?_
          refine W.iload (q := 148) X94 C at_146 rfl rfl ?_
          refine W.iload (q := 150) X94 C at_148 rfl rfl ?_
          refine W.icmpF (q := 153) X94 C at_150 rfl (show (own_eq p0 p1 (0 : Int32) (0 : Int32)) = (0 : Int32) by simp [own_eq, hc80, Ne.symm hc80]) ?_
          refine W.iload (q := 155) X94 C at_153 rfl rfl ?_
          refine W.ifF (q := 158) X94 C at_155 rfl (show (own_eq p0 p0 (0 : Int32) (0 : Int32)) ≠ 0 by simp [own_eq]) ?_
          refine W.iload (q := 160) X94 C at_158 rfl rfl ?_
          refine W.ifF (q := 163) X94 C at_160 rfl (by decide : W.cF .ne (0 : Int32) 0) ?_
          refine W.iload (q := 165) X94 C at_163 rfl rfl ?_
          refine W.ifF (q := 168) X94 C at_165 rfl (by decide : W.cF .ne (0 : Int32) 0) ?_
          refine W.iconst (q := 169) (v := 1) X94 C at_168 rfl rfl ?_
          refine W.goto (q := 173) X94 C at_169 (by decide) (by decide) ?_
          exact W.retN X94 C (by simp) e94 at_173 rfl (by decide) (by decide) ⟨rfl, N94⟩
        · replace hc80 : p0 = p1 := hc80
          refine W.iloadN (q := 69) X74 C at_68 rfl rfl ?_
          refine W.iload (q := 71) X74 C at_69 rfl rfl ?_
          refine W.icmpF (q := 74) X74 C at_71 rfl (by decide : W.cF .ne (0 : Int32) (0 : Int32)) ?_
          refine W.iconst (q := 75) (v := 1) X74 C at_74 rfl rfl ?_
          refine W.goto (q := 79) X74 C at_75 (by decide) (by decide) ?_
          refine W.istore (q := 81) (L' := #[.val (.int p0), .val (.int p1), .val (.int p2), .val (.int (0 : Int32)), .val (.int (0 : Int32)), .val (.int p1), .val (.ref b58), .val (.ref b66), .val (.int (1 : Int32)), .unset, .unset, .unset, .unset, .unset, .unset, .unset, .unset]) X74 C at_79 rfl rfl ?_
          refine W.aload (q := 83) X74 C at_81 rfl rfl rfl ?_
          refine W.astore (q := 85) (L' := #[.val (.int p0), .val (.int p1), .val (.int p2), .val (.int (0 : Int32)), .val (.int (0 : Int32)), .val (.int p1), .val (.ref b58), .val (.ref b66), .val (.int (1 : Int32)), .val (.ref b66), .unset, .unset, .unset, .unset, .unset, .unset, .unset]) X74 C at_83 rfl rfl rfl ?_
          refine W.aload (q := 87) X74 C at_85 rfl rfl rfl ?_
          refine W.astore (q := 89) (L' := #[.val (.int p0), .val (.int p1), .val (.int p2), .val (.int (0 : Int32)), .val (.int (0 : Int32)), .val (.int p1), .val (.ref b58), .val (.ref b66), .val (.int (1 : Int32)), .val (.ref b66), .val (.ref b58), .unset, .unset, .unset, .unset, .unset, .unset]) X74 C at_87 rfl rfl rfl ?_
          refine W.iloadN (q := 90) X74 C at_89 rfl rfl ?_
          refine W.callS (q := 93) X74 C (W.ww hw 18 rfl) (W.ww hw 19 rfl) (W.ww hw 20 rfl) (W.ww hw 21 rfl) (by decide) (rm4 l Z a0 hw [] p0 ca cl T74.heap n0 n0_74 O0_76 SH SC BX) rfl at_90 [(.int p0)] [] rfl rfl pd__28I_29Ljava_2flang_2fInteger_3b rfl rfl (by decide) (Nat.le_of_ble_eq_true rfl) (by decide) (by decide) rfl (fun T95 w95 L95 X95 hQ95 => ?_)
          obtain ⟨b95, rfl, NL95, K95, E_95⟩ := hQ95
          have N95 := Fr.app N74 NL95
          have O0_97 := O0_76.keep K95 all0
          have E_98 := E_77.keep K95
          have Fa_99 := Fa_78.keep K95 nin0
          have Fb_100 := Fb_79.keep K95 nin0
          have E_101 := E_74.keep K95
          have Fa_102 := Fa_74.keep K95 nin0
          have Fb_103 := Fb_74.keep K95 nin0
          show W.Go p e below _ (T95.setTop (mkF m 93 #[.val (.int p0), .val (.int p1), .val (.int p2), .val (.int (0 : Int32)), .val (.int (0 : Int32)), .val (.int p1), .val (.ref b58), .val (.ref b66), .val (.int (1 : Int32)), .val (.ref b66), .val (.ref b58), .unset, .unset, .unset, .unset, .unset, .unset] [(.ref b95)]))
          refine W.astore (q := 95) (L' := #[.val (.int p0), .val (.int p1), .val (.int p2), .val (.int (0 : Int32)), .val (.int (0 : Int32)), .val (.int p1), .val (.ref b58), .val (.ref b66), .val (.int (1 : Int32)), .val (.ref b66), .val (.ref b58), .val (.ref b95), .unset, .unset, .unset, .unset, .unset]) X95 C at_93 rfl rfl rfl ?_
          refine W.aload (q := 97) X95 C at_95 rfl rfl rfl ?_
          refine W.aload (q := 99) X95 C at_97 rfl rfl rfl ?_
          refine W.callV (q := 102) X95 C (W.ww hw 25 rfl) (W.ww hw 26 rfl) (W.nf C (W.ww hw 28 rfl)) (W.ww hw 28 rfl) (W.ww hw 27 rfl) (W.ww hw 2 rfl) (W.ww hw 29 rfl) (by decide) (rm5a l Z a0 hw [] b58 b66 p0 p1 (0 : Int32) (0 : Int32) T95.heap n0 Fa_99 Fb_100 Fa_102 Fb_103 E_101) rfl E_98 at_99 [(.ref b66)] [] rfl rfl pd__28Ljava_2flang_2fObject_3b_29Z rfl rfl (by decide) (Nat.le_of_ble_eq_true rfl) (by decide) (by decide) rfl (fun T104 w104 L104 X104 hQ104 => ?_)
          obtain ⟨rfl, NL104, e104⟩ := hQ104
          have N104 := Fr.app N95 NL104
          show W.Go p e below _ (T104.setTop (mkF m 102 #[.val (.int p0), .val (.int p1), .val (.int p2), .val (.int (0 : Int32)), .val (.int (0 : Int32)), .val (.int p1), .val (.ref b58), .val (.ref b66), .val (.int (1 : Int32)), .val (.ref b66), .val (.ref b58), .val (.ref b95), .unset, .unset, .unset, .unset, .unset] [(.int (own_eq p1 p0 (0 : Int32) (0 : Int32)))]))
          refine W.istore (q := 104) (L' := #[.val (.int p0), .val (.int p1), .val (.int p2), .val (.int (0 : Int32)), .val (.int (0 : Int32)), .val (.int p1), .val (.ref b58), .val (.ref b66), .val (.int (1 : Int32)), .val (.ref b66), .val (.ref b58), .val (.ref b95), .val (.int (own_eq p1 p0 (0 : Int32) (0 : Int32))), .unset, .unset, .unset, .unset]) X104 C at_102 rfl rfl ?_
          refine W.aload (q := 106) X104 C at_104 rfl rfl rfl ?_
          refine W.aload (q := 108) X104 C at_106 rfl rfl rfl ?_
          refine W.callV (q := 111) X104 C (W.ww hw 25 rfl) (W.ww hw 26 rfl) (W.nf C (W.ww hw 28 rfl)) (W.ww hw 28 rfl) (W.ww hw 27 rfl) (W.ww hw 2 rfl) (W.ww hw 29 rfl) (by decide) (rm5a l Z a0 hw [] b66 b58 p1 p0 (0 : Int32) (0 : Int32) T95.heap n0 Fa_102 Fb_103 Fa_99 Fb_100 E_98) e104 E_101 at_108 [(.ref b58)] [] rfl rfl pd__28Ljava_2flang_2fObject_3b_29Z rfl rfl (by decide) (Nat.le_of_ble_eq_true rfl) (by decide) (by decide) rfl (fun T105 w105 L105 X105 hQ105 => ?_)
          obtain ⟨rfl, NL105, e105⟩ := hQ105
          have N105 := Fr.app N104 NL105
          show W.Go p e below _ (T105.setTop (mkF m 111 #[.val (.int p0), .val (.int p1), .val (.int p2), .val (.int (0 : Int32)), .val (.int (0 : Int32)), .val (.int p1), .val (.ref b58), .val (.ref b66), .val (.int (1 : Int32)), .val (.ref b66), .val (.ref b58), .val (.ref b95), .val (.int (own_eq p1 p0 (0 : Int32) (0 : Int32))), .unset, .unset, .unset, .unset] [(.int (own_eq p0 p1 (0 : Int32) (0 : Int32)))]))
          refine W.istore (q := 113) (L' := #[.val (.int p0), .val (.int p1), .val (.int p2), .val (.int (0 : Int32)), .val (.int (0 : Int32)), .val (.int p1), .val (.ref b58), .val (.ref b66), .val (.int (1 : Int32)), .val (.ref b66), .val (.ref b58), .val (.ref b95), .val (.int (own_eq p1 p0 (0 : Int32) (0 : Int32))), .val (.int (own_eq p0 p1 (0 : Int32) (0 : Int32))), .unset, .unset, .unset]) X105 C at_111 rfl rfl ?_
          refine W.aload (q := 115) X105 C at_113 rfl rfl rfl ?_
          refine W.aload (q := 117) X105 C at_115 rfl rfl rfl ?_
          refine W.callV (q := 120) X105 C (W.ww hw 25 rfl) (W.ww hw 26 rfl) (W.nf C (W.ww hw 28 rfl)) (W.ww hw 28 rfl) (W.ww hw 27 rfl) (W.ww hw 2 rfl) (W.ww hw 29 rfl) (by decide) (rm5a l Z a0 hw [] b58 b58 p0 p0 (0 : Int32) (0 : Int32) T95.heap n0 Fa_99 Fb_100 Fa_99 Fb_100 E_98) e105 E_98 at_117 [(.ref b58)] [] rfl rfl pd__28Ljava_2flang_2fObject_3b_29Z rfl rfl (by decide) (Nat.le_of_ble_eq_true rfl) (by decide) (by decide) rfl (fun T106 w106 L106 X106 hQ106 => ?_)
          obtain ⟨rfl, NL106, e106⟩ := hQ106
          have N106 := Fr.app N105 NL106
          show W.Go p e below _ (T106.setTop (mkF m 120 #[.val (.int p0), .val (.int p1), .val (.int p2), .val (.int (0 : Int32)), .val (.int (0 : Int32)), .val (.int p1), .val (.ref b58), .val (.ref b66), .val (.int (1 : Int32)), .val (.ref b66), .val (.ref b58), .val (.ref b95), .val (.int (own_eq p1 p0 (0 : Int32) (0 : Int32))), .val (.int (own_eq p0 p1 (0 : Int32) (0 : Int32))), .unset, .unset, .unset] [(.int (own_eq p0 p0 (0 : Int32) (0 : Int32)))]))
          refine W.istore (q := 122) (L' := #[.val (.int p0), .val (.int p1), .val (.int p2), .val (.int (0 : Int32)), .val (.int (0 : Int32)), .val (.int p1), .val (.ref b58), .val (.ref b66), .val (.int (1 : Int32)), .val (.ref b66), .val (.ref b58), .val (.ref b95), .val (.int (own_eq p1 p0 (0 : Int32) (0 : Int32))), .val (.int (own_eq p0 p1 (0 : Int32) (0 : Int32))), .val (.int (own_eq p0 p0 (0 : Int32) (0 : Int32))), .unset, .unset]) X106 C at_120 rfl rfl ?_
          refine W.aload (q := 124) X106 C at_122 rfl rfl rfl ?_
          refine W.aconst (q := 125) X106 C at_124 rfl ?_
          refine W.callV (q := 128) X106 C (W.ww hw 25 rfl) (W.ww hw 26 rfl) (W.nf C (W.ww hw 28 rfl)) (W.ww hw 28 rfl) (W.ww hw 27 rfl) (W.ww hw 2 rfl) (W.ww hw 29 rfl) (by decide) (rm5n l Z a0 hw [] b58 T95.heap n0) e106 E_98 at_125 [.null] [] rfl rfl pd__28Ljava_2flang_2fObject_3b_29Z rfl rfl (by decide) (Nat.le_of_ble_eq_true rfl) (by decide) (by decide) rfl (fun T107 w107 L107 X107 hQ107 => ?_)
          obtain ⟨rfl, NL107, e107⟩ := hQ107
          have N107 := Fr.app N106 NL107
          show W.Go p e below _ (T107.setTop (mkF m 128 #[.val (.int p0), .val (.int p1), .val (.int p2), .val (.int (0 : Int32)), .val (.int (0 : Int32)), .val (.int p1), .val (.ref b58), .val (.ref b66), .val (.int (1 : Int32)), .val (.ref b66), .val (.ref b58), .val (.ref b95), .val (.int (own_eq p1 p0 (0 : Int32) (0 : Int32))), .val (.int (own_eq p0 p1 (0 : Int32) (0 : Int32))), .val (.int (own_eq p0 p0 (0 : Int32) (0 : Int32))), .unset, .unset] [(.int (0 : Int32))]))
          refine W.istore (q := 130) (L' := #[.val (.int p0), .val (.int p1), .val (.int p2), .val (.int (0 : Int32)), .val (.int (0 : Int32)), .val (.int p1), .val (.ref b58), .val (.ref b66), .val (.int (1 : Int32)), .val (.ref b66), .val (.ref b58), .val (.ref b95), .val (.int (own_eq p1 p0 (0 : Int32) (0 : Int32))), .val (.int (own_eq p0 p1 (0 : Int32) (0 : Int32))), .val (.int (own_eq p0 p0 (0 : Int32) (0 : Int32))), .val (.int (0 : Int32)), .unset]) X107 C at_128 rfl rfl ?_
          refine W.aload (q := 132) X107 C at_130 rfl rfl rfl ?_
          refine W.aload (q := 134) X107 C at_132 rfl rfl rfl ?_
          refine W.callV (q := 137) X107 C (W.ww hw 25 rfl) (W.ww hw 26 rfl) (W.nf C (W.ww hw 28 rfl)) (W.ww hw 28 rfl) (W.ww hw 27 rfl) (W.ww hw 2 rfl) (W.ww hw 29 rfl) (by decide) (rm5o l Z a0 hw [] b58 b95 T95.heap n0 E_95) e107 E_98 at_134 [(.ref b95)] [] rfl rfl pd__28Ljava_2flang_2fObject_3b_29Z rfl rfl (by decide) (Nat.le_of_ble_eq_true rfl) (by decide) (by decide) rfl (fun T108 w108 L108 X108 hQ108 => ?_)
          obtain ⟨rfl, NL108, e108⟩ := hQ108
          have N108 := Fr.app N107 NL108
          show W.Go p e below _ (T108.setTop (mkF m 137 #[.val (.int p0), .val (.int p1), .val (.int p2), .val (.int (0 : Int32)), .val (.int (0 : Int32)), .val (.int p1), .val (.ref b58), .val (.ref b66), .val (.int (1 : Int32)), .val (.ref b66), .val (.ref b58), .val (.ref b95), .val (.int (own_eq p1 p0 (0 : Int32) (0 : Int32))), .val (.int (own_eq p0 p1 (0 : Int32) (0 : Int32))), .val (.int (own_eq p0 p0 (0 : Int32) (0 : Int32))), .val (.int (0 : Int32)), .unset] [(.int (0 : Int32))]))
          refine W.istore (q := 139) (L' := #[.val (.int p0), .val (.int p1), .val (.int p2), .val (.int (0 : Int32)), .val (.int (0 : Int32)), .val (.int p1), .val (.ref b58), .val (.ref b66), .val (.int (1 : Int32)), .val (.ref b66), .val (.ref b58), .val (.ref b95), .val (.int (own_eq p1 p0 (0 : Int32) (0 : Int32))), .val (.int (own_eq p0 p1 (0 : Int32) (0 : Int32))), .val (.int (own_eq p0 p0 (0 : Int32) (0 : Int32))), .val (.int (0 : Int32)), .val (.int (0 : Int32))]) X108 C at_137 rfl rfl ?_
          refine W.iload (q := 141) X108 C at_139 rfl rfl ?_
          refine W.iload (q := 143) X108 C at_141 rfl rfl ?_
          refine W.icmpF (q := 146) X108 C at_143 rfl (show (own_eq p1 p0 (0 : Int32) (0 : Int32)) = (1 : Int32) by simp [own_eq, hc80]) ?_
          refine W.iload (q := 148) X108 C at_146 rfl rfl ?_
          refine W.iload (q := 150) X108 C at_148 rfl rfl ?_
          refine W.icmpF (q := 153) X108 C at_150 rfl (show (own_eq p0 p1 (0 : Int32) (0 : Int32)) = (1 : Int32) by simp [own_eq, hc80]) ?_
          refine W.iload (q := 155) X108 C at_153 rfl rfl ?_
          refine W.ifF (q := 158) X108 C at_155 rfl (show (own_eq p0 p0 (0 : Int32) (0 : Int32)) ≠ 0 by simp [own_eq]) ?_
          refine W.iload (q := 160) X108 C at_158 rfl rfl ?_
          refine W.ifF (q := 163) X108 C at_160 rfl (by decide : W.cF .ne (0 : Int32) 0) ?_
          refine W.iload (q := 165) X108 C at_163 rfl rfl ?_
          refine W.ifF (q := 168) X108 C at_165 rfl (by decide : W.cF .ne (0 : Int32) 0) ?_
          refine W.iconst (q := 169) (v := 1) X108 C at_168 rfl rfl ?_
          refine W.goto (q := 173) X108 C at_169 (by decide) (by decide) ?_
          exact W.retN X108 C (by simp) e108 at_173 rfl (by decide) (by decide) ⟨rfl, N108⟩
      · replace hc57 : (p2 &&& (4 : Int32)) ≠ 0 := hc57
        refine W.iloadN (q := 32) X0 C at_31 rfl rfl ?_
        refine W.goto (q := 36) X0 C at_32 (by decide) (by decide) ?_
        refine W.istore (q := 38) (L' := #[.val (.int p0), .val (.int p1), .val (.int p2), .val (.int (0 : Int32)), .val (.int (0 : Int32)), .val (.int p0), .unset, .unset, .unset, .unset, .unset, .unset, .unset, .unset, .unset, .unset, .unset]) X0 C at_36 rfl rfl ?_
        refine W.newO (q := 41) X0 C (W.ww hw 0 rfl) (W.ww hw 1 rfl) (W.ww hw 2 rfl) e0 at_38 (by decide) (by decide) rfl (fun T109 h109 b109 X109 e109 g109 E109 A109 D109 => ?_)
        have ge_b109 : n0 ≤ b109 := by rw [g109]; exact Z0
        have n0_109 : n0 ≤ h109.size := Nat.le_trans Z0 E109.1
        have O0_111 := O0.ext E109
        have F_concept_112 : Fld Z h109 b109 "com/example/nomina/nomina/clauses/Atom$Filler" "concept" "I" (.int (0 : Int32)) := D109 (Or.inr (W.ww hw 15 rfl)) (ty := .int) (by decide)
        have F_negated_113 : Fld Z h109 b109 "com/example/nomina/nomina/clauses/Atom$Filler" "negated" "Z" (.int (0 : Int32)) := D109 (Or.inr (W.ww hw 17 rfl)) (ty := .boolean) (by decide)
        refine W.dup (q := 42) X109 C at_41 rfl rfl ?_
        refine W.iloadN (q := 43) X109 C at_42 rfl rfl ?_
        refine W.iloadN (q := 44) X109 C at_43 rfl rfl ?_
        refine W.callI (q := 47) X109 C rfl (W.ww hw 3 rfl) (W.ww hw 4 rfl) (W.ww hw 2 rfl) (W.ww hw 5 rfl) (by decide) (rm1 l Z a0 hw [] b109 p0 (0 : Int32) h109 n0 n0_109 A109 F_concept_112 F_negated_113 ge_b109 (by decide)) e109 at_44 (a := b109) [(.int p0), (.int (0 : Int32))] [(.ref b109)] rfl rfl pd__28IZ_29V rfl rfl (by decide) (Nat.le_of_ble_eq_true rfl) (by decide) (by decide) rfl (fun T114 w114 L114 X114 hQ114 => ?_)
        obtain ⟨rfl, NL114, K114, E_114, Fa_114, Fb_114⟩ := hQ114
        have N114 := Fr.app N0 NL114
        have O0_116 := O0_111.keep K114 (allS ge_b109 all0)
        have n0_114 : n0 ≤ T114.heap.size := Nat.le_trans n0_109 K114.1
        show W.Go p e below _ (T114.setTop (mkF m 47 #[.val (.int p0), .val (.int p1), .val (.int p2), .val (.int (0 : Int32)), .val (.int (0 : Int32)), .val (.int p0), .unset, .unset, .unset, .unset, .unset, .unset, .unset, .unset, .unset, .unset, .unset] [(.ref b109)]))
        refine W.astore (q := 49) (L' := #[.val (.int p0), .val (.int p1), .val (.int p2), .val (.int (0 : Int32)), .val (.int (0 : Int32)), .val (.int p0), .val (.ref b109), .unset, .unset, .unset, .unset, .unset, .unset, .unset, .unset, .unset, .unset]) X114 C at_47 rfl rfl rfl ?_
        refine W.newO (q := 52) X114 C (W.ww hw 0 rfl) (W.ww hw 1 rfl) (W.ww hw 2 rfl) rfl at_49 (by decide) (by decide) rfl (fun T117 h117 b117 X117 e117 g117 E117 A117 D117 => ?_)
        have ne_b109_b117 : b109 ≠ b117 := by rw [g117]; exact Nat.ne_of_lt E_114.lt
        have ge_b117 : n0 ≤ b117 := by rw [g117]; exact n0_114
        have n0_117 : n0 ≤ h117.size := Nat.le_trans n0_114 E117.1
        have O0_119 := O0_116.ext E117
        have E_120 := E_114.ext E117
        have Fa_121 := Fa_114.ext E117
        have Fb_122 := Fb_114.ext E117
        have F_concept_123 : Fld Z h117 b117 "com/example/nomina/nomina/clauses/Atom$Filler" "concept" "I" (.int (0 : Int32)) := D117 (Or.inr (W.ww hw 15 rfl)) (ty := .int) (by decide)
        have F_negated_124 : Fld Z h117 b117 "com/example/nomina/nomina/clauses/Atom$Filler" "negated" "Z" (.int (0 : Int32)) := D117 (Or.inr (W.ww hw 17 rfl)) (ty := .boolean) (by decide)
        refine W.dup (q := 53) X117 C at_52 rfl rfl ?_
        refine W.iload (q := 55) X117 C at_53 rfl rfl ?_
        refine W.iload (q := 57) X117 C at_55 rfl rfl ?_
        refine W.callI (q := 60) X117 C rfl (W.ww hw 3 rfl) (W.ww hw 4 rfl) (W.ww hw 2 rfl) (W.ww hw 5 rfl) (by decide) (rm1 l Z a0 hw [] b117 p0 (0 : Int32) h117 n0 n0_117 A117 F_concept_123 F_negated_124 ge_b117 (by decide)) e117 at_57 (a := b117) [(.int p0), (.int (0 : Int32))] [(.ref b117)] rfl rfl pd__28IZ_29V rfl rfl (by decide) (Nat.le_of_ble_eq_true rfl) (by decide) (by decide) rfl (fun T125 w125 L125 X125 hQ125 => ?_)
        obtain ⟨rfl, NL125, K125, E_125, Fa_125, Fb_125⟩ := hQ125
        have N125 := Fr.app N114 NL125
        have O0_127 := O0_119.keep K125 (allS ge_b117 all0)
        have E_128 := E_120.keep K125
        have Fa_129 := Fa_121.keep K125 (ninS ne_b109_b117 nin0)
        have Fb_130 := Fb_122.keep K125 (ninS ne_b109_b117 nin0)
        have n0_125 : n0 ≤ T125.heap.size := Nat.le_trans n0_117 K125.1
        show W.Go p e below _ (T125.setTop (mkF m 60 #[.val (.int p0), .val (.int p1), .val (.int p2), .val (.int (0 : Int32)), .val (.int (0 : Int32)), .val (.int p0), .val (.ref b109), .unset, .unset, .unset, .unset, .unset, .unset, .unset, .unset, .unset, .unset] [(.ref b117)]))
        refine W.astore (q := 62) (L' := #[.val (.int p0), .val (.int p1), .val (.int p2), .val (.int (0 : Int32)), .val (.int (0 : Int32)), .val (.int p0), .val (.ref b109), .val (.ref b117), .unset, .unset, .unset, .unset, .unset, .unset, .unset, .unset, .unset]) X125 C at_60 rfl rfl rfl ?_
        refine W.iloadN (q := 63) X125 C at_62 rfl rfl ?_
        refine W.iload (q := 65) X125 C at_63 rfl rfl ?_
        refine W.icmpF (q := 68) X125 C at_65 rfl rfl ?_
        refine W.iloadN (q := 69) X125 C at_68 rfl rfl ?_
        refine W.iload (q := 71) X125 C at_69 rfl rfl ?_
        refine W.icmpF (q := 74) X125 C at_71 rfl (by decide : W.cF .ne (0 : Int32) (0 : Int32)) ?_
        refine W.iconst (q := 75) (v := 1) X125 C at_74 rfl rfl ?_
        refine W.goto (q := 79) X125 C at_75 (by decide) (by decide) ?_
        refine W.istore (q := 81) (L' := #[.val (.int p0), .val (.int p1), .val (.int p2), .val (.int (0 : Int32)), .val (.int (0 : Int32)), .val (.int p0), .val (.ref b109), .val (.ref b117), .val (.int (1 : Int32)), .unset, .unset, .unset, .unset, .unset, .unset, .unset, .unset]) X125 C at_79 rfl rfl ?_
        refine W.aload (q := 83) X125 C at_81 rfl rfl rfl ?_
        refine W.astore (q := 85) (L' := #[.val (.int p0), .val (.int p1), .val (.int p2), .val (.int (0 : Int32)), .val (.int (0 : Int32)), .val (.int p0), .val (.ref b109), .val (.ref b117), .val (.int (1 : Int32)), .val (.ref b117), .unset, .unset, .unset, .unset, .unset, .unset, .unset]) X125 C at_83 rfl rfl rfl ?_
        refine W.aload (q := 87) X125 C at_85 rfl rfl rfl ?_
        refine W.astore (q := 89) (L' := #[.val (.int p0), .val (.int p1), .val (.int p2), .val (.int (0 : Int32)), .val (.int (0 : Int32)), .val (.int p0), .val (.ref b109), .val (.ref b117), .val (.int (1 : Int32)), .val (.ref b117), .val (.ref b109), .unset, .unset, .unset, .unset, .unset, .unset]) X125 C at_87 rfl rfl rfl ?_
        refine W.iloadN (q := 90) X125 C at_89 rfl rfl ?_
        refine W.callS (q := 93) X125 C (W.ww hw 18 rfl) (W.ww hw 19 rfl) (W.ww hw 20 rfl) (W.ww hw 21 rfl) (by decide) (rm4 l Z a0 hw [] p0 ca cl T125.heap n0 n0_125 O0_127 SH SC BX) rfl at_90 [(.int p0)] [] rfl rfl pd__28I_29Ljava_2flang_2fInteger_3b rfl rfl (by decide) (Nat.le_of_ble_eq_true rfl) (by decide) (by decide) rfl (fun T131 w131 L131 X131 hQ131 => ?_)
        obtain ⟨b131, rfl, NL131, K131, E_131⟩ := hQ131
        have N131 := Fr.app N125 NL131
        have O0_133 := O0_127.keep K131 all0
        have E_134 := E_128.keep K131
        have Fa_135 := Fa_129.keep K131 nin0
        have Fb_136 := Fb_130.keep K131 nin0
        have E_137 := E_125.keep K131
        have Fa_138 := Fa_125.keep K131 nin0
        have Fb_139 := Fb_125.keep K131 nin0
        show W.Go p e below _ (T131.setTop (mkF m 93 #[.val (.int p0), .val (.int p1), .val (.int p2), .val (.int (0 : Int32)), .val (.int (0 : Int32)), .val (.int p0), .val (.ref b109), .val (.ref b117), .val (.int (1 : Int32)), .val (.ref b117), .val (.ref b109), .unset, .unset, .unset, .unset, .unset, .unset] [(.ref b131)]))
        refine W.astore (q := 95) (L' := #[.val (.int p0), .val (.int p1), .val (.int p2), .val (.int (0 : Int32)), .val (.int (0 : Int32)), .val (.int p0), .val (.ref b109), .val (.ref b117), .val (.int (1 : Int32)), .val (.ref b117), .val (.ref b109), .val (.ref b131), .unset, .unset, .unset, .unset, .unset]) X131 C at_93 rfl rfl rfl ?_
        refine W.aload (q := 97) X131 C at_95 rfl rfl rfl ?_
        refine W.aload (q := 99) X131 C at_97 rfl rfl rfl ?_
        refine W.callV (q := 102) X131 C (W.ww hw 25 rfl) (W.ww hw 26 rfl) (W.nf C (W.ww hw 28 rfl)) (W.ww hw 28 rfl) (W.ww hw 27 rfl) (W.ww hw 2 rfl) (W.ww hw 29 rfl) (by decide) (rm5a l Z a0 hw [] b109 b117 p0 p0 (0 : Int32) (0 : Int32) T131.heap n0 Fa_135 Fb_136 Fa_138 Fb_139 E_137) rfl E_134 at_99 [(.ref b117)] [] rfl rfl pd__28Ljava_2flang_2fObject_3b_29Z rfl rfl (by decide) (Nat.le_of_ble_eq_true rfl) (by decide) (by decide) rfl (fun T140 w140 L140 X140 hQ140 => ?_)
        obtain ⟨rfl, NL140, e140⟩ := hQ140
        have N140 := Fr.app N131 NL140
        show W.Go p e below _ (T140.setTop (mkF m 102 #[.val (.int p0), .val (.int p1), .val (.int p2), .val (.int (0 : Int32)), .val (.int (0 : Int32)), .val (.int p0), .val (.ref b109), .val (.ref b117), .val (.int (1 : Int32)), .val (.ref b117), .val (.ref b109), .val (.ref b131), .unset, .unset, .unset, .unset, .unset] [(.int (own_eq p0 p0 (0 : Int32) (0 : Int32)))]))
        refine W.istore (q := 104) (L' := #[.val (.int p0), .val (.int p1), .val (.int p2), .val (.int (0 : Int32)), .val (.int (0 : Int32)), .val (.int p0), .val (.ref b109), .val (.ref b117), .val (.int (1 : Int32)), .val (.ref b117), .val (.ref b109), .val (.ref b131), .val (.int (own_eq p0 p0 (0 : Int32) (0 : Int32))), .unset, .unset, .unset, .unset]) X140 C at_102 rfl rfl ?_
        refine W.aload (q := 106) X140 C at_104 rfl rfl rfl ?_
        refine W.aload (q := 108) X140 C at_106 rfl rfl rfl ?_
        refine W.callV (q := 111) X140 C (W.ww hw 25 rfl) (W.ww hw 26 rfl) (W.nf C (W.ww hw 28 rfl)) (W.ww hw 28 rfl) (W.ww hw 27 rfl) (W.ww hw 2 rfl) (W.ww hw 29 rfl) (by decide) (rm5a l Z a0 hw [] b117 b109 p0 p0 (0 : Int32) (0 : Int32) T131.heap n0 Fa_138 Fb_139 Fa_135 Fb_136 E_134) e140 E_137 at_108 [(.ref b109)] [] rfl rfl pd__28Ljava_2flang_2fObject_3b_29Z rfl rfl (by decide) (Nat.le_of_ble_eq_true rfl) (by decide) (by decide) rfl (fun T141 w141 L141 X141 hQ141 => ?_)
        obtain ⟨rfl, NL141, e141⟩ := hQ141
        have N141 := Fr.app N140 NL141
        show W.Go p e below _ (T141.setTop (mkF m 111 #[.val (.int p0), .val (.int p1), .val (.int p2), .val (.int (0 : Int32)), .val (.int (0 : Int32)), .val (.int p0), .val (.ref b109), .val (.ref b117), .val (.int (1 : Int32)), .val (.ref b117), .val (.ref b109), .val (.ref b131), .val (.int (own_eq p0 p0 (0 : Int32) (0 : Int32))), .unset, .unset, .unset, .unset] [(.int (own_eq p0 p0 (0 : Int32) (0 : Int32)))]))
        refine W.istore (q := 113) (L' := #[.val (.int p0), .val (.int p1), .val (.int p2), .val (.int (0 : Int32)), .val (.int (0 : Int32)), .val (.int p0), .val (.ref b109), .val (.ref b117), .val (.int (1 : Int32)), .val (.ref b117), .val (.ref b109), .val (.ref b131), .val (.int (own_eq p0 p0 (0 : Int32) (0 : Int32))), .val (.int (own_eq p0 p0 (0 : Int32) (0 : Int32))), .unset, .unset, .unset]) X141 C at_111 rfl rfl ?_
        refine W.aload (q := 115) X141 C at_113 rfl rfl rfl ?_
        refine W.aload (q := 117) X141 C at_115 rfl rfl rfl ?_
        refine W.callV (q := 120) X141 C (W.ww hw 25 rfl) (W.ww hw 26 rfl) (W.nf C (W.ww hw 28 rfl)) (W.ww hw 28 rfl) (W.ww hw 27 rfl) (W.ww hw 2 rfl) (W.ww hw 29 rfl) (by decide) (rm5a l Z a0 hw [] b109 b109 p0 p0 (0 : Int32) (0 : Int32) T131.heap n0 Fa_135 Fb_136 Fa_135 Fb_136 E_134) e141 E_134 at_117 [(.ref b109)] [] rfl rfl pd__28Ljava_2flang_2fObject_3b_29Z rfl rfl (by decide) (Nat.le_of_ble_eq_true rfl) (by decide) (by decide) rfl (fun T142 w142 L142 X142 hQ142 => ?_)
        obtain ⟨rfl, NL142, e142⟩ := hQ142
        have N142 := Fr.app N141 NL142
        show W.Go p e below _ (T142.setTop (mkF m 120 #[.val (.int p0), .val (.int p1), .val (.int p2), .val (.int (0 : Int32)), .val (.int (0 : Int32)), .val (.int p0), .val (.ref b109), .val (.ref b117), .val (.int (1 : Int32)), .val (.ref b117), .val (.ref b109), .val (.ref b131), .val (.int (own_eq p0 p0 (0 : Int32) (0 : Int32))), .val (.int (own_eq p0 p0 (0 : Int32) (0 : Int32))), .unset, .unset, .unset] [(.int (own_eq p0 p0 (0 : Int32) (0 : Int32)))]))
        refine W.istore (q := 122) (L' := #[.val (.int p0), .val (.int p1), .val (.int p2), .val (.int (0 : Int32)), .val (.int (0 : Int32)), .val (.int p0), .val (.ref b109), .val (.ref b117), .val (.int (1 : Int32)), .val (.ref b117), .val (.ref b109), .val (.ref b131), .val (.int (own_eq p0 p0 (0 : Int32) (0 : Int32))), .val (.int (own_eq p0 p0 (0 : Int32) (0 : Int32))), .val (.int (own_eq p0 p0 (0 : Int32) (0 : Int32))), .unset, .unset]) X142 C at_120 rfl rfl ?_
        refine W.aload (q := 124) X142 C at_122 rfl rfl rfl ?_
        refine W.aconst (q := 125) X142 C at_124 rfl ?_
        refine W.callV (q := 128) X142 C (W.ww hw 25 rfl) (W.ww hw 26 rfl) (W.nf C (W.ww hw 28 rfl)) (W.ww hw 28 rfl) (W.ww hw 27 rfl) (W.ww hw 2 rfl) (W.ww hw 29 rfl) (by decide) (rm5n l Z a0 hw [] b109 T131.heap n0) e142 E_134 at_125 [.null] [] rfl rfl pd__28Ljava_2flang_2fObject_3b_29Z rfl rfl (by decide) (Nat.le_of_ble_eq_true rfl) (by decide) (by decide) rfl (fun T143 w143 L143 X143 hQ143 => ?_)
        obtain ⟨rfl, NL143, e143⟩ := hQ143
        have N143 := Fr.app N142 NL143
        show W.Go p e below _ (T143.setTop (mkF m 128 #[.val (.int p0), .val (.int p1), .val (.int p2), .val (.int (0 : Int32)), .val (.int (0 : Int32)), .val (.int p0), .val (.ref b109), .val (.ref b117), .val (.int (1 : Int32)), .val (.ref b117), .val (.ref b109), .val (.ref b131), .val (.int (own_eq p0 p0 (0 : Int32) (0 : Int32))), .val (.int (own_eq p0 p0 (0 : Int32) (0 : Int32))), .val (.int (own_eq p0 p0 (0 : Int32) (0 : Int32))), .unset, .unset] [(.int (0 : Int32))]))
        refine W.istore (q := 130) (L' := #[.val (.int p0), .val (.int p1), .val (.int p2), .val (.int (0 : Int32)), .val (.int (0 : Int32)), .val (.int p0), .val (.ref b109), .val (.ref b117), .val (.int (1 : Int32)), .val (.ref b117), .val (.ref b109), .val (.ref b131), .val (.int (own_eq p0 p0 (0 : Int32) (0 : Int32))), .val (.int (own_eq p0 p0 (0 : Int32) (0 : Int32))), .val (.int (own_eq p0 p0 (0 : Int32) (0 : Int32))), .val (.int (0 : Int32)), .unset]) X143 C at_128 rfl rfl ?_
        refine W.aload (q := 132) X143 C at_130 rfl rfl rfl ?_
        refine W.aload (q := 134) X143 C at_132 rfl rfl rfl ?_
        refine W.callV (q := 137) X143 C (W.ww hw 25 rfl) (W.ww hw 26 rfl) (W.nf C (W.ww hw 28 rfl)) (W.ww hw 28 rfl) (W.ww hw 27 rfl) (W.ww hw 2 rfl) (W.ww hw 29 rfl) (by decide) (rm5o l Z a0 hw [] b109 b131 T131.heap n0 E_131) e143 E_134 at_134 [(.ref b131)] [] rfl rfl pd__28Ljava_2flang_2fObject_3b_29Z rfl rfl (by decide) (Nat.le_of_ble_eq_true rfl) (by decide) (by decide) rfl (fun T144 w144 L144 X144 hQ144 => ?_)
        obtain ⟨rfl, NL144, e144⟩ := hQ144
        have N144 := Fr.app N143 NL144
        show W.Go p e below _ (T144.setTop (mkF m 137 #[.val (.int p0), .val (.int p1), .val (.int p2), .val (.int (0 : Int32)), .val (.int (0 : Int32)), .val (.int p0), .val (.ref b109), .val (.ref b117), .val (.int (1 : Int32)), .val (.ref b117), .val (.ref b109), .val (.ref b131), .val (.int (own_eq p0 p0 (0 : Int32) (0 : Int32))), .val (.int (own_eq p0 p0 (0 : Int32) (0 : Int32))), .val (.int (own_eq p0 p0 (0 : Int32) (0 : Int32))), .val (.int (0 : Int32)), .unset] [(.int (0 : Int32))]))
        refine W.istore (q := 139) (L' := #[.val (.int p0), .val (.int p1), .val (.int p2), .val (.int (0 : Int32)), .val (.int (0 : Int32)), .val (.int p0), .val (.ref b109), .val (.ref b117), .val (.int (1 : Int32)), .val (.ref b117), .val (.ref b109), .val (.ref b131), .val (.int (own_eq p0 p0 (0 : Int32) (0 : Int32))), .val (.int (own_eq p0 p0 (0 : Int32) (0 : Int32))), .val (.int (own_eq p0 p0 (0 : Int32) (0 : Int32))), .val (.int (0 : Int32)), .val (.int (0 : Int32))]) X144 C at_137 rfl rfl ?_
        refine W.iload (q := 141) X144 C at_139 rfl rfl ?_
        refine W.iload (q := 143) X144 C at_141 rfl rfl ?_
        refine W.icmpF (q := 146) X144 C at_143 rfl (show (own_eq p0 p0 (0 : Int32) (0 : Int32)) = (1 : Int32) by simp [own_eq]) ?_
        refine W.iload (q := 148) X144 C at_146 rfl rfl ?_
        refine W.iload (q := 150) X144 C at_148 rfl rfl ?_
        refine W.icmpF (q := 153) X144 C at_150 rfl (show (own_eq p0 p0 (0 : Int32) (0 : Int32)) = (1 : Int32) by simp [own_eq]) ?_
        refine W.iload (q := 155) X144 C at_153 rfl rfl ?_
        refine W.ifF (q := 158) X144 C at_155 rfl (show (own_eq p0 p0 (0 : Int32) (0 : Int32)) ≠ 0 by simp [own_eq]) ?_
        refine W.iload (q := 160) X144 C at_158 rfl rfl ?_
        refine W.ifF (q := 163) X144 C at_160 rfl (by decide : W.cF .ne (0 : Int32) 0) ?_
        refine W.iload (q := 165) X144 C at_163 rfl rfl ?_
        refine W.ifF (q := 168) X144 C at_165 rfl (by decide : W.cF .ne (0 : Int32) 0) ?_
        refine W.iconst (q := 169) (v := 1) X144 C at_168 rfl rfl ?_
        refine W.goto (q := 173) X144 C at_169 (by decide) (by decide) ?_
        exact W.retN X144 C (by simp) e144 at_173 rfl (by decide) (by decide) ⟨rfl, N144⟩
    · replace hc56 : (p2 &&& (2 : Int32)) ≠ 0 := hc56
      refine W.iconst (q := 19) (v := 1) X0 C at_18 rfl rfl ?_
      refine W.goto (q := 23) X0 C at_19 (by decide) (by decide) ?_
      refine W.istore (q := 25) (L' := #[.val (.int p0), .val (.int p1), .val (.int p2), .val (.int (0 : Int32)), .val (.int (1 : Int32)), .unset, .unset, .unset, .unset, .unset, .unset, .unset, .unset, .unset, .unset, .unset, .unset]) X0 C at_23 rfl rfl ?_
      refine W.iloadN (q := 26) X0 C at_25 rfl rfl ?_
      refine W.iconst (q := 27) (v := 4) X0 C at_26 rfl rfl ?_
      refine W.iand (q := 28) X0 C at_27 rfl ?_
      refine W.if_ (q := 35) (q' := 31) X0 C at_28 (by decide) (by decide) rfl (fun hc145 => ?_) (fun hc145 => ?_)
      · replace hc145 : (p2 &&& (4 : Int32)) = 0 := hc145
        refine W.iloadN (q := 36) X0 C at_35 rfl rfl ?_
        refine W.istore (q := 38) (L' := #[.val (.int p0), .val (.int p1), .val (.int p2), .val (.int (0 : Int32)), .val (.int (1 : Int32)), .val (.int p1), .unset, .unset, .unset, .unset, .unset, .unset, .unset, .unset, .unset, .unset, .unset]) X0 C at_36 rfl rfl ?_
        refine W.newO (q := 41) X0 C (W.ww hw 0 rfl) (W.ww hw 1 rfl) (W.ww hw 2 rfl) e0 at_38 (by decide) (by decide) rfl (fun T146 h146 b146 X146 e146 g146 E146 A146 D146 => ?_)
        have ge_b146 : n0 ≤ b146 := by rw [g146]; exact Z0
        have n0_146 : n0 ≤ h146.size := Nat.le_trans Z0 E146.1
        have O0_148 := O0.ext E146
        have F_concept_149 : Fld Z h146 b146 "com/example/nomina/nomina/clauses/Atom$Filler" "concept" "I" (.int (0 : Int32)) := D146 (Or.inr (W.ww hw 15 rfl)) (ty := .int) (by decide)
        have F_negated_150 : Fld Z h146 b146 "com/example/nomina/nomina/clauses/Atom$Filler" "negated" "Z" (.int (0 : Int32)) := D146 (Or.inr (W.ww hw 17 rfl)) (ty := .boolean) (by decide)
        refine W.dup (q := 42) X146 C at_41 rfl rfl ?_
        refine W.iloadN (q := 43) X146 C at_42 rfl rfl ?_
        refine W.iloadN (q := 44) X146 C at_43 rfl rfl ?_
        refine W.callI (q := 47) X146 C rfl (W.ww hw 3 rfl) (W.ww hw 4 rfl) (W.ww hw 2 rfl) (W.ww hw 5 rfl) (by decide) (rm1 l Z a0 hw [] b146 p0 (0 : Int32) h146 n0 n0_146 A146 F_concept_149 F_negated_150 ge_b146 (by decide)) e146 at_44 (a := b146) [(.int p0), (.int (0 : Int32))] [(.ref b146)] rfl rfl pd__28IZ_29V rfl rfl (by decide) (Nat.le_of_ble_eq_true rfl) (by decide) (by decide) rfl (fun T151 w151 L151 X151 hQ151 => ?_)
        obtain ⟨rfl, NL151, K151, E_151, Fa_151, Fb_151⟩ := hQ151
        have N151 := Fr.app N0 NL151
        have O0_153 := O0_148.keep K151 (allS ge_b146 all0)
        have n0_151 : n0 ≤ T151.heap.size := Nat.le_trans n0_146 K151.1
        show W.Go p e below _ (T151.setTop (mkF m 47 #[.val (.int p0), .val (.int p1), .val (.int p2), .val (.int (0 : Int32)), .val (.int (1 : Int32)), .val (.int p1), .unset, .unset, .unset, .unset, .unset, .unset, .unset, .unset, .unset, .unset, .unset] [(.ref b146)]))
        refine W.astore (q := 49) (L' := #[.val (.int p0), .val (.int p1), .val (.int p2), .val (.int (0 : Int32)), .val (.int (1 : Int32)), .val (.int p1), .val (.ref b146), .unset, .unset, .unset, .unset, .unset, .unset, .unset, .unset, .unset, .unset]) X151 C at_47 rfl rfl rfl ?_
        refine W.newO (q := 52) X151 C (W.ww hw 0 rfl) (W.ww hw 1 rfl) (W.ww hw 2 rfl) rfl at_49 (by decide) (by decide) rfl (fun T154 h154 b154 X154 e154 g154 E154 A154 D154 => ?_)
        have ne_b146_b154 : b146 ≠ b154 := by rw [g154]; exact Nat.ne_of_lt E_151.lt
        have ge_b154 : n0 ≤ b154 := by rw [g154]; exact n0_151
        have n0_154 : n0 ≤ h154.size := Nat.le_trans n0_151 E154.1
        have O0_156 := O0_153.ext E154
        have E_157 := E_151.ext E154
        have Fa_158 := Fa_151.ext E154
        have Fb_159 := Fb_151.ext E154
        have F_concept_160 : Fld Z h154 b154 "com/example/nomina/nomina/clauses/Atom$Filler" "concept" "I" (.int (0 : Int32)) := D154 (Or.inr (W.ww hw 15 rfl)) (ty := .int) (by decide)
        have F_negated_161 : Fld Z h154 b154 "com/example/nomina/nomina/clauses/Atom$Filler" "negated" "Z" (.int (0 : Int32)) := D154 (Or.inr (W.ww hw 17 rfl)) (ty := .boolean) (by decide)
        refine W.dup (q := 53) X154 C at_52 rfl rfl ?_
        refine W.iload (q := 55) X154 C at_53 rfl rfl ?_
        refine W.iload (q := 57) X154 C at_55 rfl rfl ?_
        refine W.callI (q := 60) X154 C rfl (W.ww hw 3 rfl) (W.ww hw 4 rfl) (W.ww hw 2 rfl) (W.ww hw 5 rfl) (by decide) (rm1 l Z a0 hw [] b154 p1 (1 : Int32) h154 n0 n0_154 A154 F_concept_160 F_negated_161 ge_b154 (by decide)) e154 at_57 (a := b154) [(.int p1), (.int (1 : Int32))] [(.ref b154)] rfl rfl pd__28IZ_29V rfl rfl (by decide) (Nat.le_of_ble_eq_true rfl) (by decide) (by decide) rfl (fun T162 w162 L162 X162 hQ162 => ?_)
        obtain ⟨rfl, NL162, K162, E_162, Fa_162, Fb_162⟩ := hQ162
        have N162 := Fr.app N151 NL162
        have O0_164 := O0_156.keep K162 (allS ge_b154 all0)
        have E_165 := E_157.keep K162
        have Fa_166 := Fa_158.keep K162 (ninS ne_b146_b154 nin0)
        have Fb_167 := Fb_159.keep K162 (ninS ne_b146_b154 nin0)
        have n0_162 : n0 ≤ T162.heap.size := Nat.le_trans n0_154 K162.1
        show W.Go p e below _ (T162.setTop (mkF m 60 #[.val (.int p0), .val (.int p1), .val (.int p2), .val (.int (0 : Int32)), .val (.int (1 : Int32)), .val (.int p1), .val (.ref b146), .unset, .unset, .unset, .unset, .unset, .unset, .unset, .unset, .unset, .unset] [(.ref b154)]))
        refine W.astore (q := 62) (L' := #[.val (.int p0), .val (.int p1), .val (.int p2), .val (.int (0 : Int32)), .val (.int (1 : Int32)), .val (.int p1), .val (.ref b146), .val (.ref b154), .unset, .unset, .unset, .unset, .unset, .unset, .unset, .unset, .unset]) X162 C at_60 rfl rfl rfl ?_
        refine W.iloadN (q := 63) X162 C at_62 rfl rfl ?_
        refine W.iload (q := 65) X162 C at_63 rfl rfl ?_
        refine W.icmp (q := 78) (q' := 68) X162 C at_65 (by decide) (by decide) rfl (fun hc168 => ?_) (fun hc168 => ?_)
        · replace hc168 : p0 ≠ p1 := hc168
          refine W.iconst (q := 79) (v := 0) X162 C at_78 rfl rfl ?_
          refine W.istore (q := 81) (L' := #[.val (.int p0), .val (.int p1), .val (.int p2), .val (.int (0 : Int32)), .val (.int (1 : Int32)), .val (.int p1), .val (.ref b146), .val (.ref b154), .val (.int (0 : Int32)), .unset, .unset, .unset, .unset, .unset, .unset, .unset, .unset]) X162 C at_79 rfl rfl ?_
          refine W.aload (q := 83) X162 C at_81 rfl rfl rfl ?_
          refine W.astore (q := 85) (L' := #[.val (.int p0), .val (.int p1), .val (.int p2), .val (.int (0 : Int32)), .val (.int (1 : Int32)), .val (.int p1), .val (.ref b146), .val (.ref b154), .val (.int (0 : Int32)), .val (.ref b154), .unset, .unset, .unset, .unset, .unset, .unset, .unset]) X162 C at_83 rfl rfl rfl ?_
          refine W.aload (q := 87) X162 C at_85 rfl rfl rfl ?_
          refine W.astore (q := 89) (L' := #[.val (.int p0), .val (.int p1), .val (.int p2), .val (.int (0 : Int32)), .val (.int (1 : Int32)), .val (.int p1), .val (.ref b146), .val (.ref b154), .val (.int (0 : Int32)), .val (.ref b154), .val (.ref b146), .unset, .unset, .unset, .unset, .unset, .unset]) X162 C at_87 rfl rfl rfl ?_
          refine W.iloadN (q := 90) X162 C at_89 rfl rfl ?_
          refine W.callS (q := 93) X162 C (W.ww hw 18 rfl) (W.ww hw 19 rfl) (W.ww hw 20 rfl) (W.ww hw 21 rfl) (by decide) (rm4 l Z a0 hw [] p0 ca cl T162.heap n0 n0_162 O0_164 SH SC BX) rfl at_90 [(.int p0)] [] rfl rfl pd__28I_29Ljava_2flang_2fInteger_3b rfl rfl (by decide) (Nat.le_of_ble_eq_true rfl) (by decide) (by decide) rfl (fun T169 w169 L169 X169 hQ169 => ?_)
          obtain ⟨b169, rfl, NL169, K169, E_169⟩ := hQ169
          have N169 := Fr.app N162 NL169
          have O0_171 := O0_164.keep K169 all0
          have E_172 := E_165.keep K169
          have Fa_173 := Fa_166.keep K169 nin0
          have Fb_174 := Fb_167.keep K169 nin0
          have E_175 := E_162.keep K169
          have Fa_176 := Fa_162.keep K169 nin0
          have Fb_177 := Fb_162.keep K169 nin0
          show W.Go p e below _ (T169.setTop (mkF m 93 #[.val (.int p0), .val (.int p1), .val (.int p2), .val (.int (0 : Int32)), .val (.int (1 : Int32)), .val (.int p1), .val (.ref b146), .val (.ref b154), .val (.int (0 : Int32)), .val (.ref b154), .val (.ref b146), .unset, .unset, .unset, .unset, .unset, .unset] [(.ref b169)]))
          refine W.astore (q := 95) (L' := #[.val (.int p0), .val (.int p1), .val (.int p2), .val (.int (0 : Int32)), .val (.int (1 : Int32)), .val (.int p1), .val (.ref b146), .val (.ref b154), .val (.int (0 : Int32)), .val (.ref b154), .val (.ref b146), .val (.ref b169), .unset, .unset, .unset, .unset, .unset]) X169 C at_93 rfl rfl rfl ?_
          refine W.aload (q := 97) X169 C at_95 rfl rfl rfl ?_
          refine W.aload (q := 99) X169 C at_97 rfl rfl rfl ?_
          refine W.callV (q := 102) X169 C (W.ww hw 25 rfl) (W.ww hw 26 rfl) (W.nf C (W.ww hw 28 rfl)) (W.ww hw 28 rfl) (W.ww hw 27 rfl) (W.ww hw 2 rfl) (W.ww hw 29 rfl) (by decide) (rm5a l Z a0 hw [] b146 b154 p0 p1 (0 : Int32) (1 : Int32) T169.heap n0 Fa_173 Fb_174 Fa_176 Fb_177 E_175) rfl E_172 at_99 [(.ref b154)] [] rfl rfl pd__28Ljava_2flang_2fObject_3b_29Z rfl rfl (by decide) (Nat.le_of_ble_eq_true rfl) (by decide) (by decide) rfl (fun T178 w178 L178 X178 hQ178 => ?_)
          obtain ⟨rfl, NL178, e178⟩ := hQ178
          have N178 := Fr.app N169 NL178
          show W.Go p e below _ (T178.setTop (mkF m 102 #[.val (.int p0), .val (.int p1), .val (.int p2), .val (.int (0 : Int32)), .val (.int (1 : Int32)), .val (.int p1), .val (.ref b146), .val (.ref b154), .val (.int (0 : Int32)), .val (.ref b154), .val (.ref b146), .val (.ref b169), .unset, .unset, .unset, .unset, .unset] [(.int (own_eq p1 p0 (1 : Int32) (0 : Int32)))]))
          refine W.istore (q := 104) (L' := #[.val (.int p0), .val (.int p1), .val (.int p2), .val (.int (0 : Int32)), .val (.int (1 : Int32)), .val (.int p1), .val (.ref b146), .val (.ref b154), .val (.int (0 : Int32)), .val (.ref b154), .val (.ref b146), .val (.ref b169), .val (.int (own_eq p1 p0 (1 : Int32) (0 : Int32))), .unset, .unset, .unset, .unset]) X178 C at_102 rfl rfl ?_
          refine W.aload (q := 106) X178 C at_104 rfl rfl rfl ?_
          refine W.aload (q := 108) X178 C at_106 rfl rfl rfl ?_
          refine W.callV (q := 111) X178 C (W.ww hw 25 rfl) (W.ww hw 26 rfl) (W.nf C (W.ww hw 28 rfl)) (W.ww hw 28 rfl) (W.ww hw 27 rfl) (W.ww hw 2 rfl) (W.ww hw 29 rfl) (by decide) (rm5a l Z a0 hw [] b154 b146 p1 p0 (1 : Int32) (0 : Int32) T169.heap n0 Fa_176 Fb_177 Fa_173 Fb_174 E_172) e178 E_175 at_108 [(.ref b146)] [] rfl rfl pd__28Ljava_2flang_2fObject_3b_29Z rfl rfl (by decide) (Nat.le_of_ble_eq_true rfl) (by decide) (by decide) rfl (fun T179 w179 L179 X179 hQ179 => ?_)
          obtain ⟨rfl, NL179, e179⟩ := hQ179
          have N179 := Fr.app N178 NL179
          show W.Go p e below _ (T179.setTop (mkF m 111 #[.val (.int p0), .val (.int p1), .val (.int p2), .val (.int (0 : Int32)), .val (.int (1 : Int32)), .val (.int p1), .val (.ref b146), .val (.ref b154), .val (.int (0 : Int32)), .val (.ref b154), .val (.ref b146), .val (.ref b169), .val (.int (own_eq p1 p0 (1 : Int32) (0 : Int32))), .unset, .unset, .unset, .unset] [(.int (own_eq p0 p1 (0 : Int32) (1 : Int32)))]))
          refine W.istore (q := 113) (L' := #[.val (.int p0), .val (.int p1), .val (.int p2), .val (.int (0 : Int32)), .val (.int (1 : Int32)), .val (.int p1), .val (.ref b146), .val (.ref b154), .val (.int (0 : Int32)), .val (.ref b154), .val (.ref b146), .val (.ref b169), .val (.int (own_eq p1 p0 (1 : Int32) (0 : Int32))), .val (.int (own_eq p0 p1 (0 : Int32) (1 : Int32))), .unset, .unset, .unset]) X179 C at_111 rfl rfl ?_
          refine W.aload (q := 115) X179 C at_113 rfl rfl rfl ?_
          refine W.aload (q := 117) X179 C at_115 rfl rfl rfl ?_
          refine W.callV (q := 120) X179 C (W.ww hw 25 rfl) (W.ww hw 26 rfl) (W.nf C (W.ww hw 28 rfl)) (W.ww hw 28 rfl) (W.ww hw 27 rfl) (W.ww hw 2 rfl) (W.ww hw 29 rfl) (by decide) (rm5a l Z a0 hw [] b146 b146 p0 p0 (0 : Int32) (0 : Int32) T169.heap n0 Fa_173 Fb_174 Fa_173 Fb_174 E_172) e179 E_172 at_117 [(.ref b146)] [] rfl rfl pd__28Ljava_2flang_2fObject_3b_29Z rfl rfl (by decide) (Nat.le_of_ble_eq_true rfl) (by decide) (by decide) rfl (fun T180 w180 L180 X180 hQ180 => ?_)
          obtain ⟨rfl, NL180, e180⟩ := hQ180
          have N180 := Fr.app N179 NL180
          show W.Go p e below _ (T180.setTop (mkF m 120 #[.val (.int p0), .val (.int p1), .val (.int p2), .val (.int (0 : Int32)), .val (.int (1 : Int32)), .val (.int p1), .val (.ref b146), .val (.ref b154), .val (.int (0 : Int32)), .val (.ref b154), .val (.ref b146), .val (.ref b169), .val (.int (own_eq p1 p0 (1 : Int32) (0 : Int32))), .val (.int (own_eq p0 p1 (0 : Int32) (1 : Int32))), .unset, .unset, .unset] [(.int (own_eq p0 p0 (0 : Int32) (0 : Int32)))]))
          refine W.istore (q := 122) (L' := #[.val (.int p0), .val (.int p1), .val (.int p2), .val (.int (0 : Int32)), .val (.int (1 : Int32)), .val (.int p1), .val (.ref b146), .val (.ref b154), .val (.int (0 : Int32)), .val (.ref b154), .val (.ref b146), .val (.ref b169), .val (.int (own_eq p1 p0 (1 : Int32) (0 : Int32))), .val (.int (own_eq p0 p1 (0 : Int32) (1 : Int32))), .val (.int (own_eq p0 p0 (0 : Int32) (0 : Int32))), .unset, .unset]) X180 C at_120 rfl rfl ?_
          refine W.aload (q := 124) X180 C at_122 rfl rfl rfl ?_
          refine W.aconst (q := 125) X180 C at_124 rfl ?_
          refine W.callV (q := 128) X180 C (W.ww hw 25 rfl) (W.ww hw 26 rfl) (W.nf C (W.ww hw 28 rfl)) (W.ww hw 28 rfl) (W.ww hw 27 rfl) (W.ww hw 2 rfl) (W.ww hw 29 rfl) (by decide) (rm5n l Z a0 hw [] b146 T169.heap n0) e180 E_172 at_125 [.null] [] rfl rfl pd__28Ljava_2flang_2fObject_3b_29Z rfl rfl (by decide) (Nat.le_of_ble_eq_true rfl) (by decide) (by decide) rfl (fun T181 w181 L181 X181 hQ181 => ?_)
          obtain ⟨rfl, NL181, e181⟩ := hQ181
          have N181 := Fr.app N180 NL181
          show W.Go p e below _ (T181.setTop (mkF m 128 #[.val (.int p0), .val (.int p1), .val (.int p2), .val (.int (0 : Int32)), .val (.int (1 : Int32)), .val (.int p1), .val (.ref b146), .val (.ref b154), .val (.int (0 : Int32)), .val (.ref b154), .val (.ref b146), .val (.ref b169), .val (.int (own_eq p1 p0 (1 : Int32) (0 : Int32))), .val (.int (own_eq p0 p1 (0 : Int32) (1 : Int32))), .val (.int (own_eq p0 p0 (0 : Int32) (0 : Int32))), .unset, .unset] [(.int (0 : Int32))]))
          refine W.istore (q := 130) (L' := #[.val (.int p0), .val (.int p1), .val (.int p2), .val (.int (0 : Int32)), .val (.int (1 : Int32)), .val (.int p1), .val (.ref b146), .val (.ref b154), .val (.int (0 : Int32)), .val (.ref b154), .val (.ref b146), .val (.ref b169), .val (.int (own_eq p1 p0 (1 : Int32) (0 : Int32))), .val (.int (own_eq p0 p1 (0 : Int32) (1 : Int32))), .val (.int (own_eq p0 p0 (0 : Int32) (0 : Int32))), .val (.int (0 : Int32)), .unset]) X181 C at_128 rfl rfl ?_
          refine W.aload (q := 132) X181 C at_130 rfl rfl rfl ?_
          refine W.aload (q := 134) X181 C at_132 rfl rfl rfl ?_
          refine W.callV (q := 137) X181 C (W.ww hw 25 rfl) (W.ww hw 26 rfl) (W.nf C (W.ww hw 28 rfl)) (W.ww hw 28 rfl) (W.ww hw 27 rfl) (W.ww hw 2 rfl) (W.ww hw 29 rfl) (by decide) (rm5o l Z a0 hw [] b146 b169 T169.heap n0 E_169) e181 E_172 at_134 [(.ref b169)] [] rfl rfl pd__28Ljava_2flang_2fObject_3b_29Z rfl rfl (by decide) (Nat.le_of_ble_eq_true rfl) (by decide) (by decide) rfl (fun T182 w182 L182 X182 hQ182 => ?_)
          obtain ⟨rfl, NL182, e182⟩ := hQ182
          have N182 := Fr.app N181 NL182
          show W.Go p e below _ (T182.setTop (mkF m 137 #[.val (.int p0), .val (.int p1), .val (.int p2), .val (.int (0 : Int32)), .val (.int (1 : Int32)), .val (.int p1), .val (.ref b146), .val (.ref b154), .val (.int (0 : Int32)), .val (.ref b154), .val (.ref b146), .val (.ref b169), .val (.int (own_eq p1 p0 (1 : Int32) (0 : Int32))), .val (.int (own_eq p0 p1 (0 : Int32) (1 : Int32))), .val (.int (own_eq p0 p0 (0 : Int32) (0 : Int32))), .val (.int (0 : Int32)), .unset] [(.int (0 : Int32))]))
          refine W.istore (q := 139) (L' := #[.val (.int p0), .val (.int p1), .val (.int p2), .val (.int (0 : Int32)), .val (.int (1 : Int32)), .val (.int p1), .val (.ref b146), .val (.ref b154), .val (.int (0 : Int32)), .val (.ref b154), .val (.ref b146), .val (.ref b169), .val (.int (own_eq p1 p0 (1 : Int32) (0 : Int32))), .val (.int (own_eq p0 p1 (0 : Int32) (1 : Int32))), .val (.int (own_eq p0 p0 (0 : Int32) (0 : Int32))), .val (.int (0 : Int32)), .val (.int (0 : Int32))]) X182 C at_137 rfl rfl ?_
          refine W.iload (q := 141) X182 C at_139 rfl rfl ?_
          refine W.iload (q := 143) X182 C at_141 rfl rfl ?_
          refine W.icmpF (q := 146) X182 C at_143 rfl (show (own_eq p1 p0 (1 : Int32) (0 : Int32)) = (0 : Int32) by simp [own_eq, hc168, Ne.symm hc168]) ?_
          refine W.iload (q := 148) X182 C at_146 rfl rfl ?_
          refine W.iload (q := 150) X182 C at_148 rfl rfl ?_
          refine W.icmpF (q := 153) X182 C at_150 rfl (show (own_eq p0 p1 (0 : Int32) (1 : Int32)) = (0 : Int32) by simp [own_eq, hc168, Ne.symm hc168]) ?_
          refine W.iload (q := 155) X182 C at_153 rfl rfl ?_
          refine W.ifF (q := 158) X182 C at_155 rfl (show (own_eq p0 p0 (0 : Int32) (0 : Int32)) ≠ 0 by simp [own_eq]) ?_
          refine W.iload (q := 160) X182 C at_158 rfl rfl ?_
          refine W.ifF (q := 163) X182 C at_160 rfl (by decide : W.cF .ne (0 : Int32) 0) ?_
          refine W.iload (q := 165) X182 C at_163 rfl rfl ?_
          refine W.ifF (q := 168) X182 C at_165 rfl (by decide : W.cF .ne (0 : Int32) 0) ?_
          refine W.iconst (q := 169) (v := 1) X182 C at_168 rfl rfl ?_
          refine W.goto (q := 173) X182 C at_169 (by decide) (by decide) ?_
          exact W.retN X182 C (by simp) e182 at_173 rfl (by decide) (by decide) ⟨rfl, N182⟩
        · replace hc168 : p0 = p1 := hc168
          refine W.iloadN (q := 69) X162 C at_68 rfl rfl ?_
          refine W.iload (q := 71) X162 C at_69 rfl rfl ?_
          refine W.icmpT (q := 78) X162 C at_71 (by decide) (by decide) (by decide : W.cT .ne (0 : Int32) (1 : Int32)) ?_
          refine W.iconst (q := 79) (v := 0) X162 C at_78 rfl rfl ?_
          refine W.istore (q := 81) (L' := #[.val (.int p0), .val (.int p1), .val (.int p2), .val (.int (0 : Int32)), .val (.int (1 : Int32)), .val (.int p1), .val (.ref b146), .val (.ref b154), .val (.int (0 : Int32)), .unset, .unset, .unset, .unset, .unset, .unset, .unset, .unset]) X162 C at_79 rfl rfl ?_
          refine W.aload (q := 83) X162 C at_81 rfl rfl rfl ?_
          refine W.astore (q := 85) (L' := #[.val (.int p0), .val (.int p1), .val (.int p2), .val (.int (0 : Int32)), .val (.int (1 : Int32)), .val (.int p1), .val (.ref b146), .val (.ref b154), .val (.int (0 : Int32)), .val (.ref b154), .unset, .unset, .unset, .unset, .unset, .unset, .unset]) X162 C at_83 rfl rfl rfl ?_
          refine W.aload (q := 87) X162 C at_85 rfl rfl rfl ?_
          refine W.astore (q := 89) (L' := #[.val (.int p0), .val (.int p1), .val (.int p2), .val (.int (0 : Int32)), .val (.int (1 : Int32)), .val (.int p1), .val (.ref b146), .val (.ref b154), .val (.int (0 : Int32)), .val (.ref b154), .val (.ref b146), .unset, .unset, .unset, .unset, .unset, .unset]) X162 C at_87 rfl rfl rfl ?_
          refine W.iloadN (q := 90) X162 C at_89 rfl rfl ?_
          refine W.callS (q := 93) X162 C (W.ww hw 18 rfl) (W.ww hw 19 rfl) (W.ww hw 20 rfl) (W.ww hw 21 rfl) (by decide) (rm4 l Z a0 hw [] p0 ca cl T162.heap n0 n0_162 O0_164 SH SC BX) rfl at_90 [(.int p0)] [] rfl rfl pd__28I_29Ljava_2flang_2fInteger_3b rfl rfl (by decide) (Nat.le_of_ble_eq_true rfl) (by decide) (by decide) rfl (fun T183 w183 L183 X183 hQ183 => ?_)
          obtain ⟨b183, rfl, NL183, K183, E_183⟩ := hQ183
          have N183 := Fr.app N162 NL183
          have O0_185 := O0_164.keep K183 all0
          have E_186 := E_165.keep K183
          have Fa_187 := Fa_166.keep K183 nin0
          have Fb_188 := Fb_167.keep K183 nin0
          have E_189 := E_162.keep K183
          have Fa_190 := Fa_162.keep K183 nin0
          have Fb_191 := Fb_162.keep K183 nin0
          show W.Go p e below _ (T183.setTop (mkF m 93 #[.val (.int p0), .val (.int p1), .val (.int p2), .val (.int (0 : Int32)), .val (.int (1 : Int32)), .val (.int p1), .val (.ref b146), .val (.ref b154), .val (.int (0 : Int32)), .val (.ref b154), .val (.ref b146), .unset, .unset, .unset, .unset, .unset, .unset] [(.ref b183)]))
          refine W.astore (q := 95) (L' := #[.val (.int p0), .val (.int p1), .val (.int p2), .val (.int (0 : Int32)), .val (.int (1 : Int32)), .val (.int p1), .val (.ref b146), .val (.ref b154), .val (.int (0 : Int32)), .val (.ref b154), .val (.ref b146), .val (.ref b183), .unset, .unset, .unset, .unset, .unset]) X183 C at_93 rfl rfl rfl ?_
          refine W.aload (q := 97) X183 C at_95 rfl rfl rfl ?_
          refine W.aload (q := 99) X183 C at_97 rfl rfl rfl ?_
          refine W.callV (q := 102) X183 C (W.ww hw 25 rfl) (W.ww hw 26 rfl) (W.nf C (W.ww hw 28 rfl)) (W.ww hw 28 rfl) (W.ww hw 27 rfl) (W.ww hw 2 rfl) (W.ww hw 29 rfl) (by decide) (rm5a l Z a0 hw [] b146 b154 p0 p1 (0 : Int32) (1 : Int32) T183.heap n0 Fa_187 Fb_188 Fa_190 Fb_191 E_189) rfl E_186 at_99 [(.ref b154)] [] rfl rfl pd__28Ljava_2flang_2fObject_3b_29Z rfl rfl (by decide) (Nat.le_of_ble_eq_true rfl) (by decide) (by decide) rfl (fun T192 w192 L192 X192 hQ192 => ?_)
          obtain ⟨rfl, NL192, e192⟩ := hQ192
          have N192 := Fr.app N183 NL192
          show W.Go p e below _ (T192.setTop (mkF m 102 #[.val (.int p0), .val (.int p1), .val (.int p2), .val (.int (0 : Int32)), .val (.int (1 : Int32)), .val (.int p1), .val (.ref b146), .val (.ref b154), .val (.int (0 : Int32)), .val (.ref b154), .val (.ref b146), .val (.ref b183), .unset, .unset, .unset, .unset, .unset] [(.int (own_eq p1 p0 (1 : Int32) (0 : Int32)))]))
          refine W.istore (q := 104) (L' := #[.val (.int p0), .val (.int p1), .val (.int p2), .val (.int (0 : Int32)), .val (.int (1 : Int32)), .val (.int p1), .val (.ref b146), .val (.ref b154), .val (.int (0 : Int32)), .val (.ref b154), .val (.ref b146), .val (.ref b183), .val (.int (own_eq p1 p0 (1 : Int32) (0 : Int32))), .unset, .unset, .unset, .unset]) X192 C at_102 rfl rfl ?_
          refine W.aload (q := 106) X192 C at_104 rfl rfl rfl ?_
          refine W.aload (q := 108) X192 C at_106 rfl rfl rfl ?_
          refine W.callV (q := 111) X192 C (W.ww hw 25 rfl) (W.ww hw 26 rfl) (W.nf C (W.ww hw 28 rfl)) (W.ww hw 28 rfl) (W.ww hw 27 rfl) (W.ww hw 2 rfl) (W.ww hw 29 rfl) (by decide) (rm5a l Z a0 hw [] b154 b146 p1 p0 (1 : Int32) (0 : Int32) T183.heap n0 Fa_190 Fb_191 Fa_187 Fb_188 E_186) e192 E_189 at_108 [(.ref b146)] [] rfl rfl pd__28Ljava_2flang_2fObject_3b_29Z rfl rfl (by decide) (Nat.le_of_ble_eq_true rfl) (by decide) (by decide) rfl (fun T193 w193 L193 X193 hQ193 => ?_)
          obtain ⟨rfl, NL193, e193⟩ := hQ193
          have N193 := Fr.app N192 NL193
          show W.Go p e below _ (T193.setTop (mkF m 111 #[.val (.int p0), .val (.int p1), .val (.int p2), .val (.int (0 : Int32)), .val (.int (1 : Int32)), .val (.int p1), .val (.ref b146), .val (.ref b154), .val (.int (0 : Int32)), .val (.ref b154), .val (.ref b146), .val (.ref b183), .val (.int (own_eq p1 p0 (1 : Int32) (0 : Int32))), .unset, .unset, .unset, .unset] [(.int (own_eq p0 p1 (0 : Int32) (1 : Int32)))]))
          refine W.istore (q := 113) (L' := #[.val (.int p0), .val (.int p1), .val (.int p2), .val (.int (0 : Int32)), .val (.int (1 : Int32)), .val (.int p1), .val (.ref b146), .val (.ref b154), .val (.int (0 : Int32)), .val (.ref b154), .val (.ref b146), .val (.ref b183), .val (.int (own_eq p1 p0 (1 : Int32) (0 : Int32))), .val (.int (own_eq p0 p1 (0 : Int32) (1 : Int32))), .unset, .unset, .unset]) X193 C at_111 rfl rfl ?_
          refine W.aload (q := 115) X193 C at_113 rfl rfl rfl ?_
          refine W.aload (q := 117) X193 C at_115 rfl rfl rfl ?_
          refine W.callV (q := 120) X193 C (W.ww hw 25 rfl) (W.ww hw 26 rfl) (W.nf C (W.ww hw 28 rfl)) (W.ww hw 28 rfl) (W.ww hw 27 rfl) (W.ww hw 2 rfl) (W.ww hw 29 rfl) (by decide) (rm5a l Z a0 hw [] b146 b146 p0 p0 (0 : Int32) (0 : Int32) T183.heap n0 Fa_187 Fb_188 Fa_187 Fb_188 E_186) e193 E_186 at_117 [(.ref b146)] [] rfl rfl pd__28Ljava_2flang_2fObject_3b_29Z rfl rfl (by decide) (Nat.le_of_ble_eq_true rfl) (by decide) (by decide) rfl (fun T194 w194 L194 X194 hQ194 => ?_)
          obtain ⟨rfl, NL194, e194⟩ := hQ194
          have N194 := Fr.app N193 NL194
          show W.Go p e below _ (T194.setTop (mkF m 120 #[.val (.int p0), .val (.int p1), .val (.int p2), .val (.int (0 : Int32)), .val (.int (1 : Int32)), .val (.int p1), .val (.ref b146), .val (.ref b154), .val (.int (0 : Int32)), .val (.ref b154), .val (.ref b146), .val (.ref b183), .val (.int (own_eq p1 p0 (1 : Int32) (0 : Int32))), .val (.int (own_eq p0 p1 (0 : Int32) (1 : Int32))), .unset, .unset, .unset] [(.int (own_eq p0 p0 (0 : Int32) (0 : Int32)))]))
          refine W.istore (q := 122) (L' := #[.val (.int p0), .val (.int p1), .val (.int p2), .val (.int (0 : Int32)), .val (.int (1 : Int32)), .val (.int p1), .val (.ref b146), .val (.ref b154), .val (.int (0 : Int32)), .val (.ref b154), .val (.ref b146), .val (.ref b183), .val (.int (own_eq p1 p0 (1 : Int32) (0 : Int32))), .val (.int (own_eq p0 p1 (0 : Int32) (1 : Int32))), .val (.int (own_eq p0 p0 (0 : Int32) (0 : Int32))), .unset, .unset]) X194 C at_120 rfl rfl ?_
          refine W.aload (q := 124) X194 C at_122 rfl rfl rfl ?_
          refine W.aconst (q := 125) X194 C at_124 rfl ?_
          refine W.callV (q := 128) X194 C (W.ww hw 25 rfl) (W.ww hw 26 rfl) (W.nf C (W.ww hw 28 rfl)) (W.ww hw 28 rfl) (W.ww hw 27 rfl) (W.ww hw 2 rfl) (W.ww hw 29 rfl) (by decide) (rm5n l Z a0 hw [] b146 T183.heap n0) e194 E_186 at_125 [.null] [] rfl rfl pd__28Ljava_2flang_2fObject_3b_29Z rfl rfl (by decide) (Nat.le_of_ble_eq_true rfl) (by decide) (by decide) rfl (fun T195 w195 L195 X195 hQ195 => ?_)
          obtain ⟨rfl, NL195, e195⟩ := hQ195
          have N195 := Fr.app N194 NL195
          show W.Go p e below _ (T195.setTop (mkF m 128 #[.val (.int p0), .val (.int p1), .val (.int p2), .val (.int (0 : Int32)), .val (.int (1 : Int32)), .val (.int p1), .val (.ref b146), .val (.ref b154), .val (.int (0 : Int32)), .val (.ref b154), .val (.ref b146), .val (.ref b183), .val (.int (own_eq p1 p0 (1 : Int32) (0 : Int32))), .val (.int (own_eq p0 p1 (0 : Int32) (1 : Int32))), .val (.int (own_eq p0 p0 (0 : Int32) (0 : Int32))), .unset, .unset] [(.int (0 : Int32))]))
          refine W.istore (q := 130) (L' := #[.val (.int p0), .val (.int p1), .val (.int p2), .val (.int (0 : Int32)), .val (.int (1 : Int32)), .val (.int p1), .val (.ref b146), .val (.ref b154), .val (.int (0 : Int32)), .val (.ref b154), .val (.ref b146), .val (.ref b183), .val (.int (own_eq p1 p0 (1 : Int32) (0 : Int32))), .val (.int (own_eq p0 p1 (0 : Int32) (1 : Int32))), .val (.int (own_eq p0 p0 (0 : Int32) (0 : Int32))), .val (.int (0 : Int32)), .unset]) X195 C at_128 rfl rfl ?_
          refine W.aload (q := 132) X195 C at_130 rfl rfl rfl ?_
          refine W.aload (q := 134) X195 C at_132 rfl rfl rfl ?_
          refine W.callV (q := 137) X195 C (W.ww hw 25 rfl) (W.ww hw 26 rfl) (W.nf C (W.ww hw 28 rfl)) (W.ww hw 28 rfl) (W.ww hw 27 rfl) (W.ww hw 2 rfl) (W.ww hw 29 rfl) (by decide) (rm5o l Z a0 hw [] b146 b183 T183.heap n0 E_183) e195 E_186 at_134 [(.ref b183)] [] rfl rfl pd__28Ljava_2flang_2fObject_3b_29Z rfl rfl (by decide) (Nat.le_of_ble_eq_true rfl) (by decide) (by decide) rfl (fun T196 w196 L196 X196 hQ196 => ?_)
          obtain ⟨rfl, NL196, e196⟩ := hQ196
          have N196 := Fr.app N195 NL196
          show W.Go p e below _ (T196.setTop (mkF m 137 #[.val (.int p0), .val (.int p1), .val (.int p2), .val (.int (0 : Int32)), .val (.int (1 : Int32)), .val (.int p1), .val (.ref b146), .val (.ref b154), .val (.int (0 : Int32)), .val (.ref b154), .val (.ref b146), .val (.ref b183), .val (.int (own_eq p1 p0 (1 : Int32) (0 : Int32))), .val (.int (own_eq p0 p1 (0 : Int32) (1 : Int32))), .val (.int (own_eq p0 p0 (0 : Int32) (0 : Int32))), .val (.int (0 : Int32)), .unset] [(.int (0 : Int32))]))
          refine W.istore (q := 139) (L' := #[.val (.int p0), .val (.int p1), .val (.int p2), .val (.int (0 : Int32)), .val (.int (1 : Int32)), .val (.int p1), .val (.ref b146), .val (.ref b154), .val (.int (0 : Int32)), .val (.ref b154), .val (.ref b146), .val (.ref b183), .val (.int (own_eq p1 p0 (1 : Int32) (0 : Int32))), .val (.int (own_eq p0 p1 (0 : Int32) (1 : Int32))), .val (.int (own_eq p0 p0 (0 : Int32) (0 : Int32))), .val (.int (0 : Int32)), .val (.int (0 : Int32))]) X196 C at_137 rfl rfl ?_
          refine W.iload (q := 141) X196 C at_139 rfl rfl ?_
          refine W.iload (q := 143) X196 C at_141 rfl rfl ?_
          refine W.icmpF (q := 146) X196 C at_143 rfl (show (own_eq p1 p0 (1 : Int32) (0 : Int32)) = (0 : Int32) by simp [own_eq, hc168]) ?_
          refine W.iload (q := 148) X196 C at_146 rfl rfl ?_
          refine W.iload (q := 150) X196 C at_148 rfl rfl ?_
          refine W.icmpF (q := 153) X196 C at_150 rfl (show (own_eq p0 p1 (0 : Int32) (1 : Int32)) = (0 : Int32) by simp [own_eq, hc168]) ?_
          refine W.iload (q := 155) X196 C at_153 rfl rfl ?_
          refine W.ifF (q := 158) X196 C at_155 rfl (show (own_eq p0 p0 (0 : Int32) (0 : Int32)) ≠ 0 by simp [own_eq]) ?_
          refine W.iload (q := 160) X196 C at_158 rfl rfl ?_
          refine W.ifF (q := 163) X196 C at_160 rfl (by decide : W.cF .ne (0 : Int32) 0) ?_
          refine W.iload (q := 165) X196 C at_163 rfl rfl ?_
          refine W.ifF (q := 168) X196 C at_165 rfl (by decide : W.cF .ne (0 : Int32) 0) ?_
          refine W.iconst (q := 169) (v := 1) X196 C at_168 rfl rfl ?_
          refine W.goto (q := 173) X196 C at_169 (by decide) (by decide) ?_
          exact W.retN X196 C (by simp) e196 at_173 rfl (by decide) (by decide) ⟨rfl, N196⟩
      · replace hc145 : (p2 &&& (4 : Int32)) ≠ 0 := hc145
        refine W.iloadN (q := 32) X0 C at_31 rfl rfl ?_
        refine W.goto (q := 36) X0 C at_32 (by decide) (by decide) ?_
        refine W.istore (q := 38) (L' := #[.val (.int p0), .val (.int p1), .val (.int p2), .val (.int (0 : Int32)), .val (.int (1 : Int32)), .val (.int p0), .unset, .unset, .unset, .unset, .unset, .unset, .unset, .unset, .unset, .unset, .unset]) X0 C at_36 rfl rfl ?_
        refine W.newO (q := 41) X0 C (W.ww hw 0 rfl) (W.ww hw 1 rfl) (W.ww hw 2 rfl) e0 at_38 (by decide) (by decide) rfl (fun T197 h197 b197 X197 e197 g197 E197 A197 D197 => ?_)
        have ge_b197 : n0 ≤ b197 := by rw [g197]; exact Z0
        have n0_197 : n0 ≤ h197.size := Nat.le_trans Z0 E197.1
        have O0_199 := O0.ext E197
        have F_concept_200 : Fld Z h197 b197 "com/example/nomina/nomina/clauses/Atom$Filler" "concept" "I" (.int (0 : Int32)) := D197 (Or.inr (W.ww hw 15 rfl)) (ty := .int) (by decide)
        have F_negated_201 : Fld Z h197 b197 "com/example/nomina/nomina/clauses/Atom$Filler" "negated" "Z" (.int (0 : Int32)) := D197 (Or.inr (W.ww hw 17 rfl)) (ty := .boolean) (by decide)
        refine W.dup (q := 42) X197 C at_41 rfl rfl ?_
        refine W.iloadN (q := 43) X197 C at_42 rfl rfl ?_
        refine W.iloadN (q := 44) X197 C at_43 rfl rfl ?_
        refine W.callI (q := 47) X197 C rfl (W.ww hw 3 rfl) (W.ww hw 4 rfl) (W.ww hw 2 rfl) (W.ww hw 5 rfl) (by decide) (rm1 l Z a0 hw [] b197 p0 (0 : Int32) h197 n0 n0_197 A197 F_concept_200 F_negated_201 ge_b197 (by decide)) e197 at_44 (a := b197) [(.int p0), (.int (0 : Int32))] [(.ref b197)] rfl rfl pd__28IZ_29V rfl rfl (by decide) (Nat.le_of_ble_eq_true rfl) (by decide) (by decide) rfl (fun T202 w202 L202 X202 hQ202 => ?_)
        obtain ⟨rfl, NL202, K202, E_202, Fa_202, Fb_202⟩ := hQ202
        have N202 := Fr.app N0 NL202
        have O0_204 := O0_199.keep K202 (allS ge_b197 all0)
        have n0_202 : n0 ≤ T202.heap.size := Nat.le_trans n0_197 K202.1
        show W.Go p e below _ (T202.setTop (mkF m 47 #[.val (.int p0), .val (.int p1), .val (.int p2), .val (.int (0 : Int32)), .val (.int (1 : Int32)), .val (.int p0), .unset, .unset, .unset, .unset, .unset, .unset, .unset, .unset, .unset, .unset, .unset] [(.ref b197)]))
        refine W.astore (q := 49) (L' := #[.val (.int p0), .val (.int p1), .val (.int p2), .val (.int (0 : Int32)), .val (.int (1 : Int32)), .val (.int p0), .val (.ref b197), .unset, .unset, .unset, .unset, .unset, .unset, .unset, .unset, .unset, .unset]) X202 C at_47 rfl rfl rfl ?_
        refine W.newO (q := 52) X202 C (W.ww hw 0 rfl) (W.ww hw 1 rfl) (W.ww hw 2 rfl) rfl at_49 (by decide) (by decide) rfl (fun T205 h205 b205 X205 e205 g205 E205 A205 D205 => ?_)
        have ne_b197_b205 : b197 ≠ b205 := by rw [g205]; exact Nat.ne_of_lt E_202.lt
        have ge_b205 : n0 ≤ b205 := by rw [g205]; exact n0_202
        have n0_205 : n0 ≤ h205.size := Nat.le_trans n0_202 E205.1
        have O0_207 := O0_204.ext E205
        have E_208 := E_202.ext E205
        have Fa_209 := Fa_202.ext E205
        have Fb_210 := Fb_202.ext E205
        have F_concept_211 : Fld Z h205 b205 "com/example/nomina/nomina/clauses/Atom$Filler" "concept" "I" (.int (0 : Int32)) := D205 (Or.inr (W.ww hw 15 rfl)) (ty := .int) (by decide)
        have F_negated_212 : Fld Z h205 b205 "com/example/nomina/nomina/clauses/Atom$Filler" "negated" "Z" (.int (0 : Int32)) := D205 (Or.inr (W.ww hw 17 rfl)) (ty := .boolean) (by decide)
        refine W.dup (q := 53) X205 C at_52 rfl rfl ?_
        refine W.iload (q := 55) X205 C at_53 rfl rfl ?_
        refine W.iload (q := 57) X205 C at_55 rfl rfl ?_
        refine W.callI (q := 60) X205 C rfl (W.ww hw 3 rfl) (W.ww hw 4 rfl) (W.ww hw 2 rfl) (W.ww hw 5 rfl) (by decide) (rm1 l Z a0 hw [] b205 p0 (1 : Int32) h205 n0 n0_205 A205 F_concept_211 F_negated_212 ge_b205 (by decide)) e205 at_57 (a := b205) [(.int p0), (.int (1 : Int32))] [(.ref b205)] rfl rfl pd__28IZ_29V rfl rfl (by decide) (Nat.le_of_ble_eq_true rfl) (by decide) (by decide) rfl (fun T213 w213 L213 X213 hQ213 => ?_)
        obtain ⟨rfl, NL213, K213, E_213, Fa_213, Fb_213⟩ := hQ213
        have N213 := Fr.app N202 NL213
        have O0_215 := O0_207.keep K213 (allS ge_b205 all0)
        have E_216 := E_208.keep K213
        have Fa_217 := Fa_209.keep K213 (ninS ne_b197_b205 nin0)
        have Fb_218 := Fb_210.keep K213 (ninS ne_b197_b205 nin0)
        have n0_213 : n0 ≤ T213.heap.size := Nat.le_trans n0_205 K213.1
        show W.Go p e below _ (T213.setTop (mkF m 60 #[.val (.int p0), .val (.int p1), .val (.int p2), .val (.int (0 : Int32)), .val (.int (1 : Int32)), .val (.int p0), .val (.ref b197), .unset, .unset, .unset, .unset, .unset, .unset, .unset, .unset, .unset, .unset] [(.ref b205)]))
        refine W.astore (q := 62) (L' := #[.val (.int p0), .val (.int p1), .val (.int p2), .val (.int (0 : Int32)), .val (.int (1 : Int32)), .val (.int p0), .val (.ref b197), .val (.ref b205), .unset, .unset, .unset, .unset, .unset, .unset, .unset, .unset, .unset]) X213 C at_60 rfl rfl rfl ?_
        refine W.iloadN (q := 63) X213 C at_62 rfl rfl ?_
        refine W.iload (q := 65) X213 C at_63 rfl rfl ?_
        refine W.icmpF (q := 68) X213 C at_65 rfl rfl ?_
        refine W.iloadN (q := 69) X213 C at_68 rfl rfl ?_
        refine W.iload (q := 71) X213 C at_69 rfl rfl ?_
        refine W.icmpT (q := 78) X213 C at_71 (by decide) (by decide) (by decide : W.cT .ne (0 : Int32) (1 : Int32)) ?_
        refine W.iconst (q := 79) (v := 0) X213 C at_78 rfl rfl ?_
        refine W.istore (q := 81) (L' := #[.val (.int p0), .val (.int p1), .val (.int p2), .val (.int (0 : Int32)), .val (.int (1 : Int32)), .val (.int p0), .val (.ref b197), .val (.ref b205), .val (.int (0 : Int32)), .unset, .unset, .unset, .unset, .unset, .unset, .unset, .unset]) X213 C at_79 rfl rfl ?_
        refine W.aload (q := 83) X213 C at_81 rfl rfl rfl ?_
        refine W.astore (q := 85) (L' := #[.val (.int p0), .val (.int p1), .val (.int p2), .val (.int (0 : Int32)), .val (.int (1 : Int32)), .val (.int p0), .val (.ref b197), .val (.ref b205), .val (.int (0 : Int32)), .val (.ref b205), .unset, .unset, .unset, .unset, .unset, .unset, .unset]) X213 C at_83 rfl rfl rfl ?_
        refine W.aload (q := 87) X213 C at_85 rfl rfl rfl ?_
        refine W.astore (q := 89) (L' := #[.val (.int p0), .val (.int p1), .val (.int p2), .val (.int (0 : Int32)), .val (.int (1 : Int32)), .val (.int p0), .val (.ref b197), .val (.ref b205), .val (.int (0 : Int32)), .val (.ref b205), .val (.ref b197), .unset, .unset, .unset, .unset, .unset, .unset]) X213 C at_87 rfl rfl rfl ?_
        refine W.iloadN (q := 90) X213 C at_89 rfl rfl ?_
        refine W.callS (q := 93) X213 C (W.ww hw 18 rfl) (W.ww hw 19 rfl) (W.ww hw 20 rfl) (W.ww hw 21 rfl) (by decide) (rm4 l Z a0 hw [] p0 ca cl T213.heap n0 n0_213 O0_215 SH SC BX) rfl at_90 [(.int p0)] [] rfl rfl pd__28I_29Ljava_2flang_2fInteger_3b rfl rfl (by decide) (Nat.le_of_ble_eq_true rfl) (by decide) (by decide) rfl (fun T219 w219 L219 X219 hQ219 => ?_)
        obtain ⟨b219, rfl, NL219, K219, E_219⟩ := hQ219
        have N219 := Fr.app N213 NL219
        have O0_221 := O0_215.keep K219 all0
        have E_222 := E_216.keep K219
        have Fa_223 := Fa_217.keep K219 nin0
        have Fb_224 := Fb_218.keep K219 nin0
        have E_225 := E_213.keep K219
        have Fa_226 := Fa_213.keep K219 nin0
        have Fb_227 := Fb_213.keep K219 nin0
        show W.Go p e below _ (T219.setTop (mkF m 93 #[.val (.int p0), .val (.int p1), .val (.int p2), .val (.int (0 : Int32)), .val (.int (1 : Int32)), .val (.int p0), .val (.ref b197), .val (.ref b205), .val (.int (0 : Int32)), .val (.ref b205), .val (.ref b197), .unset, .unset, .unset, .unset, .unset, .unset] [(.ref b219)]))
        refine W.astore (q := 95) (L' := #[.val (.int p0), .val (.int p1), .val (.int p2), .val (.int (0 : Int32)), .val (.int (1 : Int32)), .val (.int p0), .val (.ref b197), .val (.ref b205), .val (.int (0 : Int32)), .val (.ref b205), .val (.ref b197), .val (.ref b219), .unset, .unset, .unset, .unset, .unset]) X219 C at_93 rfl rfl rfl ?_
        refine W.aload (q := 97) X219 C at_95 rfl rfl rfl ?_
        refine W.aload (q := 99) X219 C at_97 rfl rfl rfl ?_
        refine W.callV (q := 102) X219 C (W.ww hw 25 rfl) (W.ww hw 26 rfl) (W.nf C (W.ww hw 28 rfl)) (W.ww hw 28 rfl) (W.ww hw 27 rfl) (W.ww hw 2 rfl) (W.ww hw 29 rfl) (by decide) (rm5a l Z a0 hw [] b197 b205 p0 p0 (0 : Int32) (1 : Int32) T219.heap n0 Fa_223 Fb_224 Fa_226 Fb_227 E_225) rfl E_222 at_99 [(.ref b205)] [] rfl rfl pd__28Ljava_2flang_2fObject_3b_29Z rfl rfl (by decide) (Nat.le_of_ble_eq_true rfl) (by decide) (by decide) rfl (fun T228 w228 L228 X228 hQ228 => ?_)
        obtain ⟨rfl, NL228, e228⟩ := hQ228
        have N228 := Fr.app N219 NL228
        show W.Go p e below _ (T228.setTop (mkF m 102 #[.val (.int p0), .val (.int p1), .val (.int p2), .val (.int (0 : Int32)), .val (.int (1 : Int32)), .val (.int p0), .val (.ref b197), .val (.ref b205), .val (.int (0 : Int32)), .val (.ref b205), .val (.ref b197), .val (.ref b219), .unset, .unset, .unset, .unset, .unset] [(.int (own_eq p0 p0 (1 : Int32) (0 : Int32)))]))
        refine W.istore (q := 104) (L' := #[.val (.int p0), .val (.int p1), .val (.int p2), .val (.int (0 : Int32)), .val (.int (1 : Int32)), .val (.int p0), .val (.ref b197), .val (.ref b205), .val (.int (0 : Int32)), .val (.ref b205), .val (.ref b197), .val (.ref b219), .val (.int (own_eq p0 p0 (1 : Int32) (0 : Int32))), .unset, .unset, .unset, .unset]) X228 C at_102 rfl rfl ?_
        refine W.aload (q := 106) X228 C at_104 rfl rfl rfl ?_
        refine W.aload (q := 108) X228 C at_106 rfl rfl rfl ?_
        refine W.callV (q := 111) X228 C (W.ww hw 25 rfl) (W.ww hw 26 rfl) (W.nf C (W.ww hw 28 rfl)) (W.ww hw 28 rfl) (W.ww hw 27 rfl) (W.ww hw 2 rfl) (W.ww hw 29 rfl) (by decide) (rm5a l Z a0 hw [] b205 b197 p0 p0 (1 : Int32) (0 : Int32) T219.heap n0 Fa_226 Fb_227 Fa_223 Fb_224 E_222) e228 E_225 at_108 [(.ref b197)] [] rfl rfl pd__28Ljava_2flang_2fObject_3b_29Z rfl rfl (by decide) (Nat.le_of_ble_eq_true rfl) (by decide) (by decide) rfl (fun T229 w229 L229 X229 hQ229 => ?_)
        obtain ⟨rfl, NL229, e229⟩ := hQ229
        have N229 := Fr.app N228 NL229
        show W.Go p e below _ (T229.setTop (mkF m 111 #[.val (.int p0), .val (.int p1), .val (.int p2), .val (.int (0 : Int32)), .val (.int (1 : Int32)), .val (.int p0), .val (.ref b197), .val (.ref b205), .val (.int (0 : Int32)), .val (.ref b205), .val (.ref b197), .val (.ref b219), .val (.int (own_eq p0 p0 (1 : Int32) (0 : Int32))), .unset, .unset, .unset, .unset] [(.int (own_eq p0 p0 (0 : Int32) (1 : Int32)))]))
        refine W.istore (q := 113) (L' := #[.val (.int p0), .val (.int p1), .val (.int p2), .val (.int (0 : Int32)), .val (.int (1 : Int32)), .val (.int p0), .val (.ref b197), .val (.ref b205), .val (.int (0 : Int32)), .val (.ref b205), .val (.ref b197), .val (.ref b219), .val (.int (own_eq p0 p0 (1 : Int32) (0 : Int32))), .val (.int (own_eq p0 p0 (0 : Int32) (1 : Int32))), .unset, .unset, .unset]) X229 C at_111 rfl rfl ?_
        refine W.aload (q := 115) X229 C at_113 rfl rfl rfl ?_
        refine W.aload (q := 117) X229 C at_115 rfl rfl rfl ?_
        refine W.callV (q := 120) X229 C (W.ww hw 25 rfl) (W.ww hw 26 rfl) (W.nf C (W.ww hw 28 rfl)) (W.ww hw 28 rfl) (W.ww hw 27 rfl) (W.ww hw 2 rfl) (W.ww hw 29 rfl) (by decide) (rm5a l Z a0 hw [] b197 b197 p0 p0 (0 : Int32) (0 : Int32) T219.heap n0 Fa_223 Fb_224 Fa_223 Fb_224 E_222) e229 E_222 at_117 [(.ref b197)] [] rfl rfl pd__28Ljava_2flang_2fObject_3b_29Z rfl rfl (by decide) (Nat.le_of_ble_eq_true rfl) (by decide) (by decide) rfl (fun T230 w230 L230 X230 hQ230 => ?_)
        obtain ⟨rfl, NL230, e230⟩ := hQ230
        have N230 := Fr.app N229 NL230
        show W.Go p e below _ (T230.setTop (mkF m 120 #[.val (.int p0), .val (.int p1), .val (.int p2), .val (.int (0 : Int32)), .val (.int (1 : Int32)), .val (.int p0), .val (.ref b197), .val (.ref b205), .val (.int (0 : Int32)), .val (.ref b205), .val (.ref b197), .val (.ref b219), .val (.int (own_eq p0 p0 (1 : Int32) (0 : Int32))), .val (.int (own_eq p0 p0 (0 : Int32) (1 : Int32))), .unset, .unset, .unset] [(.int (own_eq p0 p0 (0 : Int32) (0 : Int32)))]))
        refine W.istore (q := 122) (L' := #[.val (.int p0), .val (.int p1), .val (.int p2), .val (.int (0 : Int32)), .val (.int (1 : Int32)), .val (.int p0), .val (.ref b197), .val (.ref b205), .val (.int (0 : Int32)), .val (.ref b205), .val (.ref b197), .val (.ref b219), .val (.int (own_eq p0 p0 (1 : Int32) (0 : Int32))), .val (.int (own_eq p0 p0 (0 : Int32) (1 : Int32))), .val (.int (own_eq p0 p0 (0 : Int32) (0 : Int32))), .unset, .unset]) X230 C at_120 rfl rfl ?_
        refine W.aload (q := 124) X230 C at_122 rfl rfl rfl ?_
        refine W.aconst (q := 125) X230 C at_124 rfl ?_
        refine W.callV (q := 128) X230 C (W.ww hw 25 rfl) (W.ww hw 26 rfl) (W.nf C (W.ww hw 28 rfl)) (W.ww hw 28 rfl) (W.ww hw 27 rfl) (W.ww hw 2 rfl) (W.ww hw 29 rfl) (by decide) (rm5n l Z a0 hw [] b197 T219.heap n0) e230 E_222 at_125 [.null] [] rfl rfl pd__28Ljava_2flang_2fObject_3b_29Z rfl rfl (by decide) (Nat.le_of_ble_eq_true rfl) (by decide) (by decide) rfl (fun T231 w231 L231 X231 hQ231 => ?_)
        obtain ⟨rfl, NL231, e231⟩ := hQ231
        have N231 := Fr.app N230 NL231
        show W.Go p e below _ (T231.setTop (mkF m 128 #[.val (.int p0), .val (.int p1), .val (.int p2), .val (.int (0 : Int32)), .val (.int (1 : Int32)), .val (.int p0), .val (.ref b197), .val (.ref b205), .val (.int (0 : Int32)), .val (.ref b205), .val (.ref b197), .val (.ref b219), .val (.int (own_eq p0 p0 (1 : Int32) (0 : Int32))), .val (.int (own_eq p0 p0 (0 : Int32) (1 : Int32))), .val (.int (own_eq p0 p0 (0 : Int32) (0 : Int32))), .unset, .unset] [(.int (0 : Int32))]))
        refine W.istore (q := 130) (L' := #[.val (.int p0), .val (.int p1), .val (.int p2), .val (.int (0 : Int32)), .val (.int (1 : Int32)), .val (.int p0), .val (.ref b197), .val (.ref b205), .val (.int (0 : Int32)), .val (.ref b205), .val (.ref b197), .val (.ref b219), .val (.int (own_eq p0 p0 (1 : Int32) (0 : Int32))), .val (.int (own_eq p0 p0 (0 : Int32) (1 : Int32))), .val (.int (own_eq p0 p0 (0 : Int32) (0 : Int32))), .val (.int (0 : Int32)), .unset]) X231 C at_128 rfl rfl ?_
        refine W.aload (q := 132) X231 C at_130 rfl rfl rfl ?_
        refine W.aload (q := 134) X231 C at_132 rfl rfl rfl ?_
        refine W.callV (q := 137) X231 C (W.ww hw 25 rfl) (W.ww hw 26 rfl) (W.nf C (W.ww hw 28 rfl)) (W.ww hw 28 rfl) (W.ww hw 27 rfl) (W.ww hw 2 rfl) (W.ww hw 29 rfl) (by decide) (rm5o l Z a0 hw [] b197 b219 T219.heap n0 E_219) e231 E_222 at_134 [(.ref b219)] [] rfl rfl pd__28Ljava_2flang_2fObject_3b_29Z rfl rfl (by decide) (Nat.le_of_ble_eq_true rfl) (by decide) (by decide) rfl (fun T232 w232 L232 X232 hQ232 => ?_)
        obtain ⟨rfl, NL232, e232⟩ := hQ232
        have N232 := Fr.app N231 NL232
        show W.Go p e below _ (T232.setTop (mkF m 137 #[.val (.int p0), .val (.int p1), .val (.int p2), .val (.int (0 : Int32)), .val (.int (1 : Int32)), .val (.int p0), .val (.ref b197), .val (.ref b205), .val (.int (0 : Int32)), .val (.ref b205), .val (.ref b197), .val (.ref b219), .val (.int (own_eq p0 p0 (1 : Int32) (0 : Int32))), .val (.int (own_eq p0 p0 (0 : Int32) (1 : Int32))), .val (.int (own_eq p0 p0 (0 : Int32) (0 : Int32))), .val (.int (0 : Int32)), .unset] [(.int (0 : Int32))]))
        refine W.istore (q := 139) (L' := #[.val (.int p0), .val (.int p1), .val (.int p2), .val (.int (0 : Int32)), .val (.int (1 : Int32)), .val (.int p0), .val (.ref b197), .val (.ref b205), .val (.int (0 : Int32)), .val (.ref b205), .val (.ref b197), .val (.ref b219), .val (.int (own_eq p0 p0 (1 : Int32) (0 : Int32))), .val (.int (own_eq p0 p0 (0 : Int32) (1 : Int32))), .val (.int (own_eq p0 p0 (0 : Int32) (0 : Int32))), .val (.int (0 : Int32)), .val (.int (0 : Int32))]) X232 C at_137 rfl rfl ?_
        refine W.iload (q := 141) X232 C at_139 rfl rfl ?_
        refine W.iload (q := 143) X232 C at_141 rfl rfl ?_
        refine W.icmpF (q := 146) X232 C at_143 rfl (show (own_eq p0 p0 (1 : Int32) (0 : Int32)) = (0 : Int32) by simp [own_eq]) ?_
        refine W.iload (q := 148) X232 C at_146 rfl rfl ?_
        refine W.iload (q := 150) X232 C at_148 rfl rfl ?_
        refine W.icmpF (q := 153) X232 C at_150 rfl (show (own_eq p0 p0 (0 : Int32) (1 : Int32)) = (0 : Int32) by simp [own_eq]) ?_
        refine W.iload (q := 155) X232 C at_153 rfl rfl ?_
        refine W.ifF (q := 158) X232 C at_155 rfl (show (own_eq p0 p0 (0 : Int32) (0 : Int32)) ≠ 0 by simp [own_eq]) ?_
        refine W.iload (q := 160) X232 C at_158 rfl rfl ?_
        refine W.ifF (q := 163) X232 C at_160 rfl (by decide : W.cF .ne (0 : Int32) 0) ?_
        refine W.iload (q := 165) X232 C at_163 rfl rfl ?_
        refine W.ifF (q := 168) X232 C at_165 rfl (by decide : W.cF .ne (0 : Int32) 0) ?_
        refine W.iconst (q := 169) (v := 1) X232 C at_168 rfl rfl ?_
        refine W.goto (q := 173) X232 C at_169 (by decide) (by decide) ?_
        exact W.retN X232 C (by simp) e232 at_173 rfl (by decide) (by decide) ⟨rfl, N232⟩
  · replace hc55 : (p2 &&& (1 : Int32)) ≠ 0 := hc55
    refine W.iconst (q := 7) (v := 1) X0 C at_6 rfl rfl ?_
    refine W.goto (q := 11) X0 C at_7 (by decide) (by decide) ?_
    refine W.istoreN (q := 12) (L' := #[.val (.int p0), .val (.int p1), .val (.int p2), .val (.int (1 : Int32)), .unset, .unset, .unset, .unset, .unset, .unset, .unset, .unset, .unset, .unset, .unset, .unset, .unset]) X0 C at_11 rfl rfl ?_
    refine W.iloadN (q := 13) X0 C at_12 rfl rfl ?_
    refine W.iconst (q := 14) (v := 2) X0 C at_13 rfl rfl ?_
    refine W.iand (q := 15) X0 C at_14 rfl ?_
    refine W.if_ (q := 22) (q' := 18) X0 C at_15 (by decide) (by decide) rfl (fun hc233 => ?_) (fun hc233 => ?_)
    · replace hc233 : (p2 &&& (2 : Int32)) = 0 := hc233
      refine W.iconst (q := 23) (v := 0) X0 C at_22 rfl rfl ?_
      refine W.istore (q := 25) (L' := #[.val (.int p0), .val (.int p1), .val (.int p2), .val (.int (1 : Int32)), .val (.int (0 : Int32)), .unset, .unset, .unset, .unset, .unset, .unset, .unset, .unset, .unset, .unset, .unset, .unset]) X0 C at_23 rfl rfl ?_
      refine W.iloadN (q := 26) X0 C at_25 rfl rfl ?_
      refine W.iconst (q := 27) (v := 4) X0 C at_26 rfl rfl ?_
      refine W.iand (q := 28) X0 C at_27 rfl ?_
      refine W.if_ (q := 35) (q' := 31) X0 C at_28 (by decide) (by decide) rfl (fun hc234 => ?_) (fun hc234 => ?_)
      · replace hc234 : (p2 &&& (4 : Int32)) = 0 := hc234
        refine W.iloadN (q := 36) X0 C at_35 rfl rfl ?_
        refine W.istore (q := 38) (L' := #[.val (.int p0), .val (.int p1), .val (.int p2), .val (.int (1 : Int32)), .val (.int (0 : Int32)), .val (.int p1), .unset, .unset, .unset, .unset, .unset, .unset, .unset, .unset, .unset, .unset, .unset]) X0 C at_36 rfl rfl ?_
        refine W.newO (q := 41) X0 C (W.ww hw 0 rfl) (W.ww hw 1 rfl) (W.ww hw 2 rfl) e0 at_38 (by decide) (by decide) rfl (fun T235 h235 b235 X235 e235 g235 E235 A235 D235 => ?_)
        have ge_b235 : n0 ≤ b235 := by rw [g235]; exact Z0
        have n0_235 : n0 ≤ h235.size := Nat.le_trans Z0 E235.1
        have O0_237 := O0.ext E235
        have F_concept_238 : Fld Z h235 b235 "com/example/nomina/nomina/clauses/Atom$Filler" "concept" "I" (.int (0 : Int32)) := D235 (Or.inr (W.ww hw 15 rfl)) (ty := .int) (by decide)
        have F_negated_239 : Fld Z h235 b235 "com/example/nomina/nomina/clauses/Atom$Filler" "negated" "Z" (.int (0 : Int32)) := D235 (Or.inr (W.ww hw 17 rfl)) (ty := .boolean) (by decide)
        refine W.dup (q := 42) X235 C at_41 rfl rfl ?_
        refine W.iloadN (q := 43) X235 C at_42 rfl rfl ?_
        refine W.iloadN (q := 44) X235 C at_43 rfl rfl ?_
        refine W.callI (q := 47) X235 C rfl (W.ww hw 3 rfl) (W.ww hw 4 rfl) (W.ww hw 2 rfl) (W.ww hw 5 rfl) (by decide) (rm1 l Z a0 hw [] b235 p0 (1 : Int32) h235 n0 n0_235 A235 F_concept_238 F_negated_239 ge_b235 (by decide)) e235 at_44 (a := b235) [(.int p0), (.int (1 : Int32))] [(.ref b235)] rfl rfl pd__28IZ_29V rfl rfl (by decide) (Nat.le_of_ble_eq_true rfl) (by decide) (by decide) rfl (fun T240 w240 L240 X240 hQ240 => ?_)
        obtain ⟨rfl, NL240, K240, E_240, Fa_240, Fb_240⟩ := hQ240
        have N240 := Fr.app N0 NL240
        have O0_242 := O0_237.keep K240 (allS ge_b235 all0)
        have n0_240 : n0 ≤ T240.heap.size := Nat.le_trans n0_235 K240.1
        show W.Go p e below _ (T240.setTop (mkF m 47 #[.val (.int p0), .val (.int p1), .val (.int p2), .val (.int (1 : Int32)), .val (.int (0 : Int32)), .val (.int p1), .unset, .unset, .unset, .unset, .unset, .unset, .unset, .unset, .unset, .unset, .unset] [(.ref b235)]))
        refine W.astore (q := 49) (L' := #[.val (.int p0), .val (.int p1), .val (.int p2), .val (.int (1 : Int32)), .val (.int (0 : Int32)), .val (.int p1), .val (.ref b235), .unset, .unset, .unset, .unset, .unset, .unset, .unset, .unset, .unset, .unset]) X240 C at_47 rfl rfl rfl ?_
        refine W.newO (q := 52) X240 C (W.ww hw 0 rfl) (W.ww hw 1 rfl) (W.ww hw 2 rfl) rfl at_49 (by decide) (by decide) rfl (fun T243 h243 b243 X243 e243 g243 E243 A243 D243 => ?_)
        have ne_b235_b243 : b235 ≠ b243 := by rw [g243]; exact Nat.ne_of_lt E_240.lt
        have ge_b243 : n0 ≤ b243 := by rw [g243]; exact n0_240
        have n0_243 : n0 ≤ h243.size := Nat.le_trans n0_240 E243.1
        have O0_245 := O0_242.ext E243
        have E_246 := E_240.ext E243
        have Fa_247 := Fa_240.ext E243
        have Fb_248 := Fb_240.ext E243
        have F_concept_249 : Fld Z h243 b243 "com/example/nomina/nomina/clauses/Atom$Filler" "concept" "I" (.int (0 : Int32)) := D243 (Or.inr (W.ww hw 15 rfl)) (ty := .int) (by decide)
        have F_negated_250 : Fld Z h243 b243 "com/example/nomina/nomina/clauses/Atom$Filler" "negated" "Z" (.int (0 : Int32)) := D243 (Or.inr (W.ww hw 17 rfl)) (ty := .boolean) (by decide)
        refine W.dup (q := 53) X243 C at_52 rfl rfl ?_
        refine W.iload (q := 55) X243 C at_53 rfl rfl ?_
        refine W.iload (q := 57) X243 C at_55 rfl rfl ?_
        refine W.callI (q := 60) X243 C rfl (W.ww hw 3 rfl) (W.ww hw 4 rfl) (W.ww hw 2 rfl) (W.ww hw 5 rfl) (by decide) (rm1 l Z a0 hw [] b243 p1 (0 : Int32) h243 n0 n0_243 A243 F_concept_249 F_negated_250 ge_b243 (by decide)) e243 at_57 (a := b243) [(.int p1), (.int (0 : Int32))] [(.ref b243)] rfl rfl pd__28IZ_29V rfl rfl (by decide) (Nat.le_of_ble_eq_true rfl) (by decide) (by decide) rfl (fun T251 w251 L251 X251 hQ251 => ?_)
        obtain ⟨rfl, NL251, K251, E_251, Fa_251, Fb_251⟩ := hQ251
        have N251 := Fr.app N240 NL251
        have O0_253 := O0_245.keep K251 (allS ge_b243 all0)
        have E_254 := E_246.keep K251
        have Fa_255 := Fa_247.keep K251 (ninS ne_b235_b243 nin0)
        have Fb_256 := Fb_248.keep K251 (ninS ne_b235_b243 nin0)
        have n0_251 : n0 ≤ T251.heap.size := Nat.le_trans n0_243 K251.1
        show W.Go p e below _ (T251.setTop (mkF m 60 #[.val (.int p0), .val (.int p1), .val (.int p2), .val (.int (1 : Int32)), .val (.int (0 : Int32)), .val (.int p1), .val (.ref b235), .unset, .unset, .unset, .unset, .unset, .unset, .unset, .unset, .unset, .unset] [(.ref b243)]))
        refine W.astore (q := 62) (L' := #[.val (.int p0), .val (.int p1), .val (.int p2), .val (.int (1 : Int32)), .val (.int (0 : Int32)), .val (.int p1), .val (.ref b235), .val (.ref b243), .unset, .unset, .unset, .unset, .unset, .unset, .unset, .unset, .unset]) X251 C at_60 rfl rfl rfl ?_
        refine W.iloadN (q := 63) X251 C at_62 rfl rfl ?_
        refine W.iload (q := 65) X251 C at_63 rfl rfl ?_
        refine W.icmp (q := 78) (q' := 68) X251 C at_65 (by decide) (by decide) rfl (fun hc257 => ?_) (fun hc257 => ?_)
        · replace hc257 : p0 ≠ p1 := hc257
          refine W.iconst (q := 79) (v := 0) X251 C at_78 rfl rfl ?_
          refine W.istore (q := 81) (L' := #[.val (.int p0), .val (.int p1), .val (.int p2), .val (.int (1 : Int32)), .val (.int (0 : Int32)), .val (.int p1), .val (.ref b235), .val (.ref b243), .val (.int (0 : Int32)), .unset, .unset, .unset, .unset, .unset, .unset, .unset, .unset]) X251 C at_79 rfl rfl ?_
          refine W.aload (q := 83) X251 C at_81 rfl rfl rfl ?_
          refine W.astore (q := 85) (L' := #[.val (.int p0), .val (.int p1), .val (.int p2), .val (.int (1 : Int32)), .val (.int (0 : Int32)), .val (.int p1), .val (.ref b235), .val (.ref b243), .val (.int (0 : Int32)), .val (.ref b243), .unset, .unset, .unset, .unset, .unset, .unset, .unset]) X251 C at_83 rfl rfl rfl ?_
          refine W.aload (q := 87) X251 C at_85 rfl rfl rfl ?_
          refine W.astore (q := 89) (L' := #[.val (.int p0), .val (.int p1), .val (.int p2), .val (.int (1 : Int32)), .val (.int (0 : Int32)), .val (.int p1), .val (.ref b235), .val (.ref b243), .val (.int (0 : Int32)), .val (.ref b243), .val (.ref b235), .unset, .unset, .unset, .unset, .unset, .unset]) X251 C at_87 rfl rfl rfl ?_
          refine W.iloadN (q := 90) X251 C at_89 rfl rfl ?_
          refine W.callS (q := 93) X251 C (W.ww hw 18 rfl) (W.ww hw 19 rfl) (W.ww hw 20 rfl) (W.ww hw 21 rfl) (by decide) (rm4 l Z a0 hw [] p0 ca cl T251.heap n0 n0_251 O0_253 SH SC BX) rfl at_90 [(.int p0)] [] rfl rfl pd__28I_29Ljava_2flang_2fInteger_3b rfl rfl (by decide) (Nat.le_of_ble_eq_true rfl) (by decide) (by decide) rfl (fun T258 w258 L258 X258 hQ258 => ?_)
          obtain ⟨b258, rfl, NL258, K258, E_258⟩ := hQ258
          have N258 := Fr.app N251 NL258
          have O0_260 := O0_253.keep K258 all0
          have E_261 := E_254.keep K258
          have Fa_262 := Fa_255.keep K258 nin0
          have Fb_263 := Fb_256.keep K258 nin0
          have E_264 := E_251.keep K258
          have Fa_265 := Fa_251.keep K258 nin0
          have Fb_266 := Fb_251.keep K258 nin0
          show W.Go p e below _ (T258.setTop (mkF m 93 #[.val (.int p0), .val (.int p1), .val (.int p2), .val (.int (1 : Int32)), .val (.int (0 : Int32)), .val (.int p1), .val (.ref b235), .val (.ref b243), .val (.int (0 : Int32)), .val (.ref b243), .val (.ref b235), .unset, .unset, .unset, .unset, .unset, .unset] [(.ref b258)]))
          refine W.astore (q := 95) (L' := #[.val (.int p0), .val (.int p1), .val (.int p2), .val (.int (1 : Int32)), .val (.int (0 : Int32)), .val (.int p1), .val (.ref b235), .val (.ref b243), .val (.int (0 : Int32)), .val (.ref b243), .val (.ref b235), .val (.ref b258), .unset, .unset, .unset, .unset, .unset]) X258 C at_93 rfl rfl rfl ?_
          refine W.aload (q := 97) X258 C at_95 rfl rfl rfl ?_
          refine W.aload (q := 99) X258 C at_97 rfl rfl rfl ?_
          refine W.callV (q := 102) X258 C (W.ww hw 25 rfl) (W.ww hw 26 rfl) (W.nf C (W.ww hw 28 rfl)) (W.ww hw 28 rfl) (W.ww hw 27 rfl) (W.ww hw 2 rfl) (W.ww hw 29 rfl) (by decide) (rm5a l Z a0 hw [] b235 b243 p0 p1 (1 : Int32) (0 : Int32) T258.heap n0 Fa_262 Fb_263 Fa_265 Fb_266 E_264) rfl E_261 at_99 [(.ref b243)] [] rfl rfl pd__28Ljava_2flang_2fObject_3b_29Z rfl rfl (by decide) (Nat.le_of_ble_eq_true rfl) (by decide) (by decide) rfl (fun T267 w267 L267 X267 hQ267 => ?_)
          obtain ⟨rfl, NL267, e267⟩ := hQ267
          have N267 := Fr.app N258 NL267
          show W.Go p e below _ (T267.setTop (mkF m 102 #[.val (.int p0), .val (.int p1), .val (.int p2), .val (.int (1 : Int32)), .val (.int (0 : Int32)), .val (.int p1), .val (.ref b235), .val (.ref b243), .val (.int (0 : Int32)), .val (.ref b243), .val (.ref b235), .val (.ref b258), .unset, .unset, .unset, .unset, .unset] [(.int (own_eq p1 p0 (0 : Int32) (1 : Int32)))]))
          refine W.istore (q := 104) (L' := #[.val (.int p0), .val (.int p1), .val (.int p2), .val (.int (1 : Int32)), .val (.int (0 : Int32)), .val (.int p1), .val (.ref b235), .val (.ref b243), .val (.int (0 : Int32)), .val (.ref b243), .val (.ref b235), .val (.ref b258), .val (.int (own_eq p1 p0 (0 : Int32) (1 : Int32))), .unset, .unset, .unset, .unset]) X267 C at_102 rfl rfl ?_
          refine W.aload (q := 106) X267 C at_104 rfl rfl rfl ?_
          refine W.aload (q := 108) X267 C at_106 rfl rfl rfl ?_
          refine W.callV (q := 111) X267 C (W.ww hw 25 rfl) (W.ww hw 26 rfl) (W.nf C (W.ww hw 28 rfl)) (W.ww hw 28 rfl) (W.ww hw 27 rfl) (W.ww hw 2 rfl) (W.ww hw 29 rfl) (by decide) (rm5a l Z a0 hw [] b243 b235 p1 p0 (0 : Int32) (1 : Int32) T258.heap n0 Fa_265 Fb_266 Fa_262 Fb_263 E_261) e267 E_264 at_108 [(.ref b235)] [] rfl rfl pd__28Ljava_2flang_2fObject_3b_29Z rfl rfl (by decide) (Nat.le_of_ble_eq_true rfl) (by decide) (by decide) rfl (fun T268 w268 L268 X268 hQ268 => ?_)
          obtain ⟨rfl, NL268, e268⟩ := hQ268
          have N268 := Fr.app N267 NL268
          show W.Go p e below _ (T268.setTop (mkF m 111 #[.val (.int p0), .val (.int p1), .val (.int p2), .val (.int (1 : Int32)), .val (.int (0 : Int32)), .val (.int p1), .val (.ref b235), .val (.ref b243), .val (.int (0 : Int32)), .val (.ref b243), .val (.ref b235), .val (.ref b258), .val (.int (own_eq p1 p0 (0 : Int32) (1 : Int32))), .unset, .unset, .unset, .unset] [(.int (own_eq p0 p1 (1 : Int32) (0 : Int32)))]))
          refine W.istore (q := 113) (L' := #[.val (.int p0), .val (.int p1), .val (.int p2), .val (.int (1 : Int32)), .val (.int (0 : Int32)), .val (.int p1), .val (.ref b235), .val (.ref b243), .val (.int (0 : Int32)), .val (.ref b243), .val (.ref b235), .val (.ref b258), .val (.int (own_eq p1 p0 (0 : Int32) (1 : Int32))), .val (.int (own_eq p0 p1 (1 : Int32) (0 : Int32))), .unset, .unset, .unset]) X268 C at_111 rfl rfl ?_
          refine W.aload (q := 115) X268 C at_113 rfl rfl rfl ?_
          refine W.aload (q := 117) X268 C at_115 rfl rfl rfl ?_
          refine W.callV (q := 120) X268 C (W.ww hw 25 rfl) (W.ww hw 26 rfl) (W.nf C (W.ww hw 28 rfl)) (W.ww hw 28 rfl) (W.ww hw 27 rfl) (W.ww hw 2 rfl) (W.ww hw 29 rfl) (by decide) (rm5a l Z a0 hw [] b235 b235 p0 p0 (1 : Int32) (1 : Int32) T258.heap n0 Fa_262 Fb_263 Fa_262 Fb_263 E_261) e268 E_261 at_117 [(.ref b235)] [] rfl rfl pd__28Ljava_2flang_2fObject_3b_29Z rfl rfl (by decide) (Nat.le_of_ble_eq_true rfl) (by decide) (by decide) rfl (fun T269 w269 L269 X269 hQ269 => ?_)
          obtain ⟨rfl, NL269, e269⟩ := hQ269
          have N269 := Fr.app N268 NL269
          show W.Go p e below _ (T269.setTop (mkF m 120 #[.val (.int p0), .val (.int p1), .val (.int p2), .val (.int (1 : Int32)), .val (.int (0 : Int32)), .val (.int p1), .val (.ref b235), .val (.ref b243), .val (.int (0 : Int32)), .val (.ref b243), .val (.ref b235), .val (.ref b258), .val (.int (own_eq p1 p0 (0 : Int32) (1 : Int32))), .val (.int (own_eq p0 p1 (1 : Int32) (0 : Int32))), .unset, .unset, .unset] [(.int (own_eq p0 p0 (1 : Int32) (1 : Int32)))]))
          refine W.istore (q := 122) (L' := #[.val (.int p0), .val (.int p1), .val (.int p2), .val (.int (1 : Int32)), .val (.int (0 : Int32)), .val (.int p1), .val (.ref b235), .val (.ref b243), .val (.int (0 : Int32)), .val (.ref b243), .val (.ref b235), .val (.ref b258), .val (.int (own_eq p1 p0 (0 : Int32) (1 : Int32))), .val (.int (own_eq p0 p1 (1 : Int32) (0 : Int32))), .val (.int (own_eq p0 p0 (1 : Int32) (1 : Int32))), .unset, .unset]) X269 C at_120 rfl rfl ?_
          refine W.aload (q := 124) X269 C at_122 rfl rfl rfl ?_
          refine W.aconst (q := 125) X269 C at_124 rfl ?_
          refine W.callV (q := 128) X269 C (W.ww hw 25 rfl) (W.ww hw 26 rfl) (W.nf C (W.ww hw 28 rfl)) (W.ww hw 28 rfl) (W.ww hw 27 rfl) (W.ww hw 2 rfl) (W.ww hw 29 rfl) (by decide) (rm5n l Z a0 hw [] b235 T258.heap n0) e269 E_261 at_125 [.null] [] rfl rfl pd__28Ljava_2flang_2fObject_3b_29Z rfl rfl (by decide) (Nat.le_of_ble_eq_true rfl) (by decide) (by decide) rfl (fun T270 w270 L270 X270 hQ270 => ?_)
          obtain ⟨rfl, NL270, e270⟩ := hQ270
          have N270 := Fr.app N269 NL270
          show W.Go p e below _ (T270.setTop (mkF m 128 #[.val (.int p0), .val (.int p1), .val (.int p2), .val (.int (1 : Int32)), .val (.int (0 : Int32)), .val (.int p1), .val (.ref b235), .val (.ref b243), .val (.int (0 : Int32)), .val (.ref b243), .val (.ref b235), .val (.ref b258), .val (.int (own_eq p1 p0 (0 : Int32) (1 : Int32))), .val (.int (own_eq p0 p1 (1 : Int32) (0 : Int32))), .val (.int (own_eq p0 p0 (1 : Int32) (1 : Int32))), .unset, .unset] [(.int (0 : Int32))]))
          refine W.istore (q := 130) (L' := #[.val (.int p0), .val (.int p1), .val (.int p2), .val (.int (1 : Int32)), .val (.int (0 : Int32)), .val (.int p1), .val (.ref b235), .val (.ref b243), .val (.int (0 : Int32)), .val (.ref b243), .val (.ref b235), .val (.ref b258), .val (.int (own_eq p1 p0 (0 : Int32) (1 : Int32))), .val (.int (own_eq p0 p1 (1 : Int32) (0 : Int32))), .val (.int (own_eq p0 p0 (1 : Int32) (1 : Int32))), .val (.int (0 : Int32)), .unset]) X270 C at_128 rfl rfl ?_
          refine W.aload (q := 132) X270 C at_130 rfl rfl rfl ?_
          refine W.aload (q := 134) X270 C at_132 rfl rfl rfl ?_
          refine W.callV (q := 137) X270 C (W.ww hw 25 rfl) (W.ww hw 26 rfl) (W.nf C (W.ww hw 28 rfl)) (W.ww hw 28 rfl) (W.ww hw 27 rfl) (W.ww hw 2 rfl) (W.ww hw 29 rfl) (by decide) (rm5o l Z a0 hw [] b235 b258 T258.heap n0 E_258) e270 E_261 at_134 [(.ref b258)] [] rfl rfl pd__28Ljava_2flang_2fObject_3b_29Z rfl rfl (by decide) (Nat.le_of_ble_eq_true rfl) (by decide) (by decide) rfl (fun T271 w271 L271 X271 hQ271 => ?_)
          obtain ⟨rfl, NL271, e271⟩ := hQ271
          have N271 := Fr.app N270 NL271
          show W.Go p e below _ (T271.setTop (mkF m 137 #[.val (.int p0), .val (.int p1), .val (.int p2), .val (.int (1 : Int32)), .val (.int (0 : Int32)), .val (.int p1), .val (.ref b235), .val (.ref b243), .val (.int (0 : Int32)), .val (.ref b243), .val (.ref b235), .val (.ref b258), .val (.int (own_eq p1 p0 (0 : Int32) (1 : Int32))), .val (.int (own_eq p0 p1 (1 : Int32) (0 : Int32))), .val (.int (own_eq p0 p0 (1 : Int32) (1 : Int32))), .val (.int (0 : Int32)), .unset] [(.int (0 : Int32))]))
          refine W.istore (q := 139) (L' := #[.val (.int p0), .val (.int p1), .val (.int p2), .val (.int (1 : Int32)), .val (.int (0 : Int32)), .val (.int p1), .val (.ref b235), .val (.ref b243), .val (.int (0 : Int32)), .val (.ref b243), .val (.ref b235), .val (.ref b258), .val (.int (own_eq p1 p0 (0 : Int32) (1 : Int32))), .val (.int (own_eq p0 p1 (1 : Int32) (0 : Int32))), .val (.int (own_eq p0 p0 (1 : Int32) (1 : Int32))), .val (.int (0 : Int32)), .val (.int (0 : Int32))]) X271 C at_137 rfl rfl ?_
          refine W.iload (q := 141) X271 C at_139 rfl rfl ?_
          refine W.iload (q := 143) X271 C at_141 rfl rfl ?_
          refine W.icmpF (q := 146) X271 C at_143 rfl (show (own_eq p1 p0 (0 : Int32) (1 : Int32)) = (0 : Int32) by simp [own_eq, hc257, Ne.symm hc257]) ?_
          refine W.iload (q := 148) X271 C at_146 rfl rfl ?_
          refine W.iload (q := 150) X271 C at_148 rfl rfl ?_
          refine W.icmpF (q := 153) X271 C at_150 rfl (show (own_eq p0 p1 (1 : Int32) (0 : Int32)) = (0 : Int32) by simp [own_eq, hc257, Ne.symm hc257]) ?_
          refine W.iload (q := 155) X271 C at_153 rfl rfl ?_
          refine W.ifF (q := 158) X271 C at_155 rfl (show (own_eq p0 p0 (1 : Int32) (1 : Int32)) ≠ 0 by simp [own_eq]) ?_
          refine W.iload (q := 160) X271 C at_158 rfl rfl ?_
          refine W.ifF (q := 163) X271 C at_160 rfl (by decide : W.cF .ne (0 : Int32) 0) ?_
          refine W.iload (q := 165) X271 C at_163 rfl rfl ?_
          refine W.ifF (q := 168) X271 C at_165 rfl (by decide : W.cF .ne (0 : Int32) 0) ?_
          refine W.iconst (q := 169) (v := 1) X271 C at_168 rfl rfl ?_
          refine W.goto (q := 173) X271 C at_169 (by decide) (by decide) ?_
          exact W.retN X271 C (by simp) e271 at_173 rfl (by decide) (by decide) ⟨rfl, N271⟩
        · replace hc257 : p0 = p1 := hc257
          refine W.iloadN (q := 69) X251 C at_68 rfl rfl ?_
          refine W.iload (q := 71) X251 C at_69 rfl rfl ?_
          refine W.icmpT (q := 78) X251 C at_71 (by decide) (by decide) (by decide : W.cT .ne (1 : Int32) (0 : Int32)) ?_
          refine W.iconst (q := 79) (v := 0) X251 C at_78 rfl rfl ?_
          refine W.istore (q := 81) (L' := #[.val (.int p0), .val (.int p1), .val (.int p2), .val (.int (1 : Int32)), .val (.int (0 : Int32)), .val (.int p1), .val (.ref b235), .val (.ref b243), .val (.int (0 : Int32)), .unset, .unset, .unset, .unset, .unset, .unset, .unset, .unset]) X251 C at_79 rfl rfl ?_
          refine W.aload (q := 83) X251 C at_81 rfl rfl rfl ?_
          refine W.astore (q := 85) (L' := #[.val (.int p0), .val (.int p1), .val (.int p2), .val (.int (1 : Int32)), .val (.int (0 : Int32)), .val (.int p1), .val (.ref b235), .val (.ref b243), .val (.int (0 : Int32)), .val (.ref b243), .unset, .unset, .unset, .unset, .unset, .unset, .unset]) X251 C at_83 rfl rfl rfl ?_
          refine W.aload (q := 87) X251 C at_85 rfl rfl rfl ?_
          refine W.astore (q := 89) (L' := #[.val (.int p0), .val (.int p1), .val (.int p2), .val (.int (1 : Int32)), .val (.int (0 : Int32)), .val (.int p1), .val (.ref b235), .val (.ref b243), .val (.int (0 : Int32)), .val (.ref b243), .val (.ref b235), .unset, .unset, .unset, .unset, .unset, .unset]) X251 C at_87 rfl rfl rfl ?_
          refine W.iloadN (q := 90) X251 C at_89 rfl rfl ?_
          refine W.callS (q := 93) X251 C (W.ww hw 18 rfl) (W.ww hw 19 rfl) (W.ww hw 20 rfl) (W.ww hw 21 rfl) (by decide) (rm4 l Z a0 hw [] p0 ca cl T251.heap n0 n0_251 O0_253 SH SC BX) rfl at_90 [(.int p0)] [] rfl rfl pd__28I_29Ljava_2flang_2fInteger_3b rfl rfl (by decide) (Nat.le_of_ble_eq_true rfl) (by decide) (by decide) rfl (fun T272 w272 L272 X272 hQ272 => ?_)
          obtain ⟨b272, rfl, NL272, K272, E_272⟩ := hQ272
          have N272 := Fr.app N251 NL272
          have O0_274 := O0_253.keep K272 all0
          have E_275 := E_254.keep K272
          have Fa_276 := Fa_255.keep K272 nin0
          have Fb_277 := Fb_256.keep K272 nin0
          have E_278 := E_251.keep K272
          have Fa_279 := Fa_251.keep K272 nin0
          have Fb_280 := Fb_251.keep K272 nin0
          show W.Go p e below _ (T272.setTop (mkF m 93 #[.val (.int p0), .val (.int p1), .val (.int p2), .val (.int (1 : Int32)), .val (.int (0 : Int32)), .val (.int p1), .val (.ref b235), .val (.ref b243), .val (.int (0 : Int32)), .val (.ref b243), .val (.ref b235), .unset, .unset, .unset, .unset, .unset, .unset] [(.ref b272)]))
          refine W.astore (q := 95) (L' := #[.val (.int p0), .val (.int p1), .val (.int p2), .val (.int (1 : Int32)), .val (.int (0 : Int32)), .val (.int p1), .val (.ref b235), .val (.ref b243), .val (.int (0 : Int32)), .val (.ref b243), .val (.ref b235), .val (.ref b272), .unset, .unset, .unset, .unset, .unset]) X272 C at_93 rfl rfl rfl ?_
          refine W.aload (q := 97) X272 C at_95 rfl rfl rfl ?_
          refine W.aload (q := 99) X272 C at_97 rfl rfl rfl ?_
          refine W.callV (q := 102) X272 C (W.ww hw 25 rfl) (W.ww hw 26 rfl) (W.nf C (W.ww hw 28 rfl)) (W.ww hw 28 rfl) (W.ww hw 27 rfl) (W.ww hw 2 rfl) (W.ww hw 29 rfl) (by decide) (rm5a l Z a0 hw [] b235 b243 p0 p1 (1 : Int32) (0 : Int32) T272.heap n0 Fa_276 Fb_277 Fa_279 Fb_280 E_278) rfl E_275 at_99 [(.ref b243)] [] rfl rfl pd__28Ljava_2flang_2fObject_3b_29Z rfl rfl (by decide) (Nat.le_of_ble_eq_true rfl) (by decide) (by decide) rfl (fun T281 w281 L281 X281 hQ281 => ?_)
          obtain ⟨rfl, NL281, e281⟩ := hQ281
          have N281 := Fr.app N272 NL281
          show W.Go p e below _ (T281.setTop (mkF m 102 #[.val (.int p0), .val (.int p1), .val (.int p2), .val (.int (1 : Int32)), .val (.int (0 : Int32)), .val (.int p1), .val (.ref b235), .val (.ref b243), .val (.int (0 : Int32)), .val (.ref b243), .val (.ref b235), .val (.ref b272), .unset, .unset, .unset, .unset, .unset] [(.int (own_eq p1 p0 (0 : Int32) (1 : Int32)))]))
          refine W.istore (q := 104) (L' := #[.val (.int p0), .val (.int p1), .val (.int p2), .val (.int (1 : Int32)), .val (.int (0 : Int32)), .val (.int p1), .val (.ref b235), .val (.ref b243), .val (.int (0 : Int32)), .val (.ref b243), .val (.ref b235), .val (.ref b272), .val (.int (own_eq p1 p0 (0 : Int32) (1 : Int32))), .unset, .unset, .unset, .unset]) X281 C at_102 rfl rfl ?_
          refine W.aload (q := 106) X281 C at_104 rfl rfl rfl ?_
          refine W.aload (q := 108) X281 C at_106 rfl rfl rfl ?_
          refine W.callV (q := 111) X281 C (W.ww hw 25 rfl) (W.ww hw 26 rfl) (W.nf C (W.ww hw 28 rfl)) (W.ww hw 28 rfl) (W.ww hw 27 rfl) (W.ww hw 2 rfl) (W.ww hw 29 rfl) (by decide) (rm5a l Z a0 hw [] b243 b235 p1 p0 (0 : Int32) (1 : Int32) T272.heap n0 Fa_279 Fb_280 Fa_276 Fb_277 E_275) e281 E_278 at_108 [(.ref b235)] [] rfl rfl pd__28Ljava_2flang_2fObject_3b_29Z rfl rfl (by decide) (Nat.le_of_ble_eq_true rfl) (by decide) (by decide) rfl (fun T282 w282 L282 X282 hQ282 => ?_)
          obtain ⟨rfl, NL282, e282⟩ := hQ282
          have N282 := Fr.app N281 NL282
          show W.Go p e below _ (T282.setTop (mkF m 111 #[.val (.int p0), .val (.int p1), .val (.int p2), .val (.int (1 : Int32)), .val (.int (0 : Int32)), .val (.int p1), .val (.ref b235), .val (.ref b243), .val (.int (0 : Int32)), .val (.ref b243), .val (.ref b235), .val (.ref b272), .val (.int (own_eq p1 p0 (0 : Int32) (1 : Int32))), .unset, .unset, .unset, .unset] [(.int (own_eq p0 p1 (1 : Int32) (0 : Int32)))]))
          refine W.istore (q := 113) (L' := #[.val (.int p0), .val (.int p1), .val (.int p2), .val (.int (1 : Int32)), .val (.int (0 : Int32)), .val (.int p1), .val (.ref b235), .val (.ref b243), .val (.int (0 : Int32)), .val (.ref b243), .val (.ref b235), .val (.ref b272), .val (.int (own_eq p1 p0 (0 : Int32) (1 : Int32))), .val (.int (own_eq p0 p1 (1 : Int32) (0 : Int32))), .unset, .unset, .unset]) X282 C at_111 rfl rfl ?_
          refine W.aload (q := 115) X282 C at_113 rfl rfl rfl ?_
          refine W.aload (q := 117) X282 C at_115 rfl rfl rfl ?_
          refine W.callV (q := 120) X282 C (W.ww hw 25 rfl) (W.ww hw 26 rfl) (W.nf C (W.ww hw 28 rfl)) (W.ww hw 28 rfl) (W.ww hw 27 rfl) (W.ww hw 2 rfl) (W.ww hw 29 rfl) (by decide) (rm5a l Z a0 hw [] b235 b235 p0 p0 (1 : Int32) (1 : Int32) T272.heap n0 Fa_276 Fb_277 Fa_276 Fb_277 E_275) e282 E_275 at_117 [(.ref b235)] [] rfl rfl pd__28Ljava_2flang_2fObject_3b_29Z rfl rfl (by decide) (Nat.le_of_ble_eq_true rfl) (by decide) (by decide) rfl (fun T283 w283 L283 X283 hQ283 => ?_)
          obtain ⟨rfl, NL283, e283⟩ := hQ283
          have N283 := Fr.app N282 NL283
          show W.Go p e below _ (T283.setTop (mkF m 120 #[.val (.int p0), .val (.int p1), .val (.int p2), .val (.int (1 : Int32)), .val (.int (0 : Int32)), .val (.int p1), .val (.ref b235), .val (.ref b243), .val (.int (0 : Int32)), .val (.ref b243), .val (.ref b235), .val (.ref b272), .val (.int (own_eq p1 p0 (0 : Int32) (1 : Int32))), .val (.int (own_eq p0 p1 (1 : Int32) (0 : Int32))), .unset, .unset, .unset] [(.int (own_eq p0 p0 (1 : Int32) (1 : Int32)))]))
          refine W.istore (q := 122) (L' := #[.val (.int p0), .val (.int p1), .val (.int p2), .val (.int (1 : Int32)), .val (.int (0 : Int32)), .val (.int p1), .val (.ref b235), .val (.ref b243), .val (.int (0 : Int32)), .val (.ref b243), .val (.ref b235), .val (.ref b272), .val (.int (own_eq p1 p0 (0 : Int32) (1 : Int32))), .val (.int (own_eq p0 p1 (1 : Int32) (0 : Int32))), .val (.int (own_eq p0 p0 (1 : Int32) (1 : Int32))), .unset, .unset]) X283 C at_120 rfl rfl ?_
          refine W.aload (q := 124) X283 C at_122 rfl rfl rfl ?_
          refine W.aconst (q := 125) X283 C at_124 rfl ?_
          refine W.callV (q := 128) X283 C (W.ww hw 25 rfl) (W.ww hw 26 rfl) (W.nf C (W.ww hw 28 rfl)) (W.ww hw 28 rfl) (W.ww hw 27 rfl) (W.ww hw 2 rfl) (W.ww hw 29 rfl) (by decide) (rm5n l Z a0 hw [] b235 T272.heap n0) e283 E_275 at_125 [.null] [] rfl rfl pd__28Ljava_2flang_2fObject_3b_29Z rfl rfl (by decide) (Nat.le_of_ble_eq_true rfl) (by decide) (by decide) rfl (fun T284 w284 L284 X284 hQ284 => ?_)
          obtain ⟨rfl, NL284, e284⟩ := hQ284
          have N284 := Fr.app N283 NL284
          show W.Go p e below _ (T284.setTop (mkF m 128 #[.val (.int p0), .val (.int p1), .val (.int p2), .val (.int (1 : Int32)), .val (.int (0 : Int32)), .val (.int p1), .val (.ref b235), .val (.ref b243), .val (.int (0 : Int32)), .val (.ref b243), .val (.ref b235), .val (.ref b272), .val (.int (own_eq p1 p0 (0 : Int32) (1 : Int32))), .val (.int (own_eq p0 p1 (1 : Int32) (0 : Int32))), .val (.int (own_eq p0 p0 (1 : Int32) (1 : Int32))), .unset, .unset] [(.int (0 : Int32))]))
          refine W.istore (q := 130) (L' := #[.val (.int p0), .val (.int p1), .val (.int p2), .val (.int (1 : Int32)), .val (.int (0 : Int32)), .val (.int p1), .val (.ref b235), .val (.ref b243), .val (.int (0 : Int32)), .val (.ref b243), .val (.ref b235), .val (.ref b272), .val (.int (own_eq p1 p0 (0 : Int32) (1 : Int32))), .val (.int (own_eq p0 p1 (1 : Int32) (0 : Int32))), .val (.int (own_eq p0 p0 (1 : Int32) (1 : Int32))), .val (.int (0 : Int32)), .unset]) X284 C at_128 rfl rfl ?_
          refine W.aload (q := 132) X284 C at_130 rfl rfl rfl ?_
          refine W.aload (q := 134) X284 C at_132 rfl rfl rfl ?_
          refine W.callV (q := 137) X284 C (W.ww hw 25 rfl) (W.ww hw 26 rfl) (W.nf C (W.ww hw 28 rfl)) (W.ww hw 28 rfl) (W.ww hw 27 rfl) (W.ww hw 2 rfl) (W.ww hw 29 rfl) (by decide) (rm5o l Z a0 hw [] b235 b272 T272.heap n0 E_272) e284 E_275 at_134 [(.ref b272)] [] rfl rfl pd__28Ljava_2flang_2fObject_3b_29Z rfl rfl (by decide) (Nat.le_of_ble_eq_true rfl) (by decide) (by decide) rfl (fun T285 w285 L285 X285 hQ285 => ?_)
          obtain ⟨rfl, NL285, e285⟩ := hQ285
          have N285 := Fr.app N284 NL285
          show W.Go p e below _ (T285.setTop (mkF m 137 #[.val (.int p0), .val (.int p1), .val (.int p2), .val (.int (1 : Int32)), .val (.int (0 : Int32)), .val (.int p1), .val (.ref b235), .val (.ref b243), .val (.int (0 : Int32)), .val (.ref b243), .val (.ref b235), .val (.ref b272), .val (.int (own_eq p1 p0 (0 : Int32) (1 : Int32))), .val (.int (own_eq p0 p1 (1 : Int32) (0 : Int32))), .val (.int (own_eq p0 p0 (1 : Int32) (1 : Int32))), .val (.int (0 : Int32)), .unset] [(.int (0 : Int32))]))
          refine W.istore (q := 139) (L' := #[.val (.int p0), .val (.int p1), .val (.int p2), .val (.int (1 : Int32)), .val (.int (0 : Int32)), .val (.int p1), .val (.ref b235), .val (.ref b243), .val (.int (0 : Int32)), .val (.ref b243), .val (.ref b235), .val (.ref b272), .val (.int (own_eq p1 p0 (0 : Int32) (1 : Int32))), .val (.int (own_eq p0 p1 (1 : Int32) (0 : Int32))), .val (.int (own_eq p0 p0 (1 : Int32) (1 : Int32))), .val (.int (0 : Int32)), .val (.int (0 : Int32))]) X285 C at_137 rfl rfl ?_
          refine W.iload (q := 141) X285 C at_139 rfl rfl ?_
          refine W.iload (q := 143) X285 C at_141 rfl rfl ?_
          refine W.icmpF (q := 146) X285 C at_143 rfl (show (own_eq p1 p0 (0 : Int32) (1 : Int32)) = (0 : Int32) by simp [own_eq, hc257]) ?_
          refine W.iload (q := 148) X285 C at_146 rfl rfl ?_
          refine W.iload (q := 150) X285 C at_148 rfl rfl ?_
          refine W.icmpF (q := 153) X285 C at_150 rfl (show (own_eq p0 p1 (1 : Int32) (0 : Int32)) = (0 : Int32) by simp [own_eq, hc257]) ?_
          refine W.iload (q := 155) X285 C at_153 rfl rfl ?_
          refine W.ifF (q := 158) X285 C at_155 rfl (show (own_eq p0 p0 (1 : Int32) (1 : Int32)) ≠ 0 by simp [own_eq]) ?_
          refine W.iload (q := 160) X285 C at_158 rfl rfl ?_
          refine W.ifF (q := 163) X285 C at_160 rfl (by decide : W.cF .ne (0 : Int32) 0) ?_
          refine W.iload (q := 165) X285 C at_163 rfl rfl ?_
          refine W.ifF (q := 168) X285 C at_165 rfl (by decide : W.cF .ne (0 : Int32) 0) ?_
          refine W.iconst (q := 169) (v := 1) X285 C at_168 rfl rfl ?_
          refine W.goto (q := 173) X285 C at_169 (by decide) (by decide) ?_
          exact W.retN X285 C (by simp) e285 at_173 rfl (by decide) (by decide) ⟨rfl, N285⟩
      · replace hc234 : (p2 &&& (4 : Int32)) ≠ 0 := hc234
        refine W.iloadN (q := 32) X0 C at_31 rfl rfl ?_
        refine W.goto (q := 36) X0 C at_32 (by decide) (by decide) ?_
        refine W.istore (q := 38) (L' := #[.val (.int p0), .val (.int p1), .val (.int p2), .val (.int (1 : Int32)), .val (.int (0 : Int32)), .val (.int p0), .unset, .unset, .unset, .unset, .unset, .unset, .unset, .unset, .unset, .unset, .unset]) X0 C at_36 rfl rfl ?_
        refine W.newO (q := 41) X0 C (W.ww hw 0 rfl) (W.ww hw 1 rfl) (W.ww hw 2 rfl) e0 at_38 (by decide) (by decide) rfl (fun T286 h286 b286 X286 e286 g286 E286 A286 D286 => ?_)
        have ge_b286 : n0 ≤ b286 := by rw [g286]; exact Z0
        have n0_286 : n0 ≤ h286.size := Nat.le_trans Z0 E286.1
        have O0_288 := O0.ext E286
        have F_concept_289 : Fld Z h286 b286 "com/example/nomina/nomina/clauses/Atom$Filler" "concept" "I" (.int (0 : Int32)) := D286 (Or.inr (W.ww hw 15 rfl)) (ty := .int) (by decide)
        have F_negated_290 : Fld Z h286 b286 "com/example/nomina/nomina/clauses/Atom$Filler" "negated" "Z" (.int (0 : Int32)) := D286 (Or.inr (W.ww hw 17 rfl)) (ty := .boolean) (by decide)
        refine W.dup (q := 42) X286 C at_41 rfl rfl ?_
        refine W.iloadN (q := 43) X286 C at_42 rfl rfl ?_
        refine W.iloadN (q := 44) X286 C at_43 rfl rfl ?_
        refine W.callI (q := 47) X286 C rfl (W.ww hw 3 rfl) (W.ww hw 4 rfl) (W.ww hw 2 rfl) (W.ww hw 5 rfl) (by decide) (rm1 l Z a0 hw [] b286 p0 (1 : Int32) h286 n0 n0_286 A286 F_concept_289 F_negated_290 ge_b286 (by decide)) e286 at_44 (a := b286) [(.int p0), (.int (1 : Int32))] [(.ref b286)] rfl rfl pd__28IZ_29V rfl rfl (by decide) (Nat.le_of_ble_eq_true rfl) (by decide) (by decide) rfl (fun T291 w291 L291 X291 hQ291 => ?_)
        obtain ⟨rfl, NL291, K291, E_291, Fa_291, Fb_291⟩ := hQ291
        have N291 := Fr.app N0 NL291
        have O0_293 := O0_288.keep K291 (allS ge_b286 all0)
        have n0_291 : n0 ≤ T291.heap.size := Nat.le_trans n0_286 K291.1
        show W.Go p e below _ (T291.setTop (mkF m 47 #[.val (.int p0), .val (.int p1), .val (.int p2), .val (.int (1 : Int32)), .val (.int (0 : Int32)), .val (.int p0), .unset, .unset, .unset, .unset, .unset, .unset, .unset, .unset, .unset, .unset, .unset] [(.ref b286)]))
        refine W.astore (q := 49) (L' := #[.val (.int p0), .val (.int p1), .val (.int p2), .val (.int (1 : Int32)), .val (.int (0 : Int32)), .val (.int p0), .val (.ref b286), .unset, .unset, .unset, .unset, .unset, .unset, .unset, .unset, .unset, .unset]) X291 C at_47 rfl rfl rfl ?_
        refine W.newO (q := 52) X291 C (W.ww hw 0 rfl) (W.ww hw 1 rfl) (W.ww hw 2 rfl) rfl at_49 (by decide) (by decide) rfl (fun T294 h294 b294 X294 e294 g294 E294 A294 D294 => ?_)
        have ne_b286_b294 : b286 ≠ b294 := by rw [g294]; exact Nat.ne_of_lt E_291.lt
        have ge_b294 : n0 ≤ b294 := by rw [g294]; exact n0_291
        have n0_294 : n0 ≤ h294.size := Nat.le_trans n0_291 E294.1
        have O0_296 := O0_293.ext E294
        have E_297 := E_291.ext E294
        have Fa_298 := Fa_291.ext E294
        have Fb_299 := Fb_291.ext E294
        have F_concept_300 : Fld Z h294 b294 "com/example/nomina/nomina/clauses/Atom$Filler" "concept" "I" (.int (0 : Int32)) := D294 (Or.inr (W.ww hw 15 rfl)) (ty := .int) (by decide)
        have F_negated_301 : Fld Z h294 b294 "com/example/nomina/nomina/clauses/Atom$Filler" "negated" "Z" (.int (0 : Int32)) := D294 (Or.inr (W.ww hw 17 rfl)) (ty := .boolean) (by decide)
        refine W.dup (q := 53) X294 C at_52 rfl rfl ?_
        refine W.iload (q := 55) X294 C at_53 rfl rfl ?_
        refine W.iload (q := 57) X294 C at_55 rfl rfl ?_
        refine W.callI (q := 60) X294 C rfl (W.ww hw 3 rfl) (W.ww hw 4 rfl) (W.ww hw 2 rfl) (W.ww hw 5 rfl) (by decide) (rm1 l Z a0 hw [] b294 p0 (0 : Int32) h294 n0 n0_294 A294 F_concept_300 F_negated_301 ge_b294 (by decide)) e294 at_57 (a := b294) [(.int p0), (.int (0 : Int32))] [(.ref b294)] rfl rfl pd__28IZ_29V rfl rfl (by decide) (Nat.le_of_ble_eq_true rfl) (by decide) (by decide) rfl (fun T302 w302 L302 X302 hQ302 => ?_)
        obtain ⟨rfl, NL302, K302, E_302, Fa_302, Fb_302⟩ := hQ302
        have N302 := Fr.app N291 NL302
        have O0_304 := O0_296.keep K302 (allS ge_b294 all0)
        have E_305 := E_297.keep K302
        have Fa_306 := Fa_298.keep K302 (ninS ne_b286_b294 nin0)
        have Fb_307 := Fb_299.keep K302 (ninS ne_b286_b294 nin0)
        have n0_302 : n0 ≤ T302.heap.size := Nat.le_trans n0_294 K302.1
        show W.Go p e below _ (T302.setTop (mkF m 60 #[.val (.int p0), .val (.int p1), .val (.int p2), .val (.int (1 : Int32)), .val (.int (0 : Int32)), .val (.int p0), .val (.ref b286), .unset, .unset, .unset, .unset, .unset, .unset, .unset, .unset, .unset, .unset] [(.ref b294)]))
        refine W.astore (q := 62) (L' := #[.val (.int p0), .val (.int p1), .val (.int p2), .val (.int (1 : Int32)), .val (.int (0 : Int32)), .val (.int p0), .val (.ref b286), .val (.ref b294), .unset, .unset, .unset, .unset, .unset, .unset, .unset, .unset, .unset]) X302 C at_60 rfl rfl rfl ?_
        refine W.iloadN (q := 63) X302 C at_62 rfl rfl ?_
        refine W.iload (q := 65) X302 C at_63 rfl rfl ?_
        refine W.icmpF (q := 68) X302 C at_65 rfl rfl ?_
        refine W.iloadN (q := 69) X302 C at_68 rfl rfl ?_
        refine W.iload (q := 71) X302 C at_69 rfl rfl ?_
        refine W.icmpT (q := 78) X302 C at_71 (by decide) (by decide) (by decide : W.cT .ne (1 : Int32) (0 : Int32)) ?_
        refine W.iconst (q := 79) (v := 0) X302 C at_78 rfl rfl ?_
        refine W.istore (q := 81) (L' := #[.val (.int p0), .val (.int p1), .val (.int p2), .val (.int (1 : Int32)), .val (.int (0 : Int32)), .val (.int p0), .val (.ref b286), .val (.ref b294), .val (.int (0 : Int32)), .unset, .unset, .unset, .unset, .unset, .unset, .unset, .unset]) X302 C at_79 rfl rfl ?_
        refine W.aload (q := 83) X302 C at_81 rfl rfl rfl ?_
        refine W.astore (q := 85) (L' := #[.val (.int p0), .val (.int p1), .val (.int p2), .val (.int (1 : Int32)), .val (.int (0 : Int32)), .val (.int p0), .val (.ref b286), .val (.ref b294), .val (.int (0 : Int32)), .val (.ref b294), .unset, .unset, .unset, .unset, .unset, .unset, .unset]) X302 C at_83 rfl rfl rfl ?_
        refine W.aload (q := 87) X302 C at_85 rfl rfl rfl ?_
        refine W.astore (q := 89) (L' := #[.val (.int p0), .val (.int p1), .val (.int p2), .val (.int (1 : Int32)), .val (.int (0 : Int32)), .val (.int p0), .val (.ref b286), .val (.ref b294), .val (.int (0 : Int32)), .val (.ref b294), .val (.ref b286), .unset, .unset, .unset, .unset, .unset, .unset]) X302 C at_87 rfl rfl rfl ?_
        refine W.iloadN (q := 90) X302 C at_89 rfl rfl ?_
        refine W.callS (q := 93) X302 C (W.ww hw 18 rfl) (W.ww hw 19 rfl) (W.ww hw 20 rfl) (W.ww hw 21 rfl) (by decide) (rm4 l Z a0 hw [] p0 ca cl T302.heap n0 n0_302 O0_304 SH SC BX) rfl at_90 [(.int p0)] [] rfl rfl pd__28I_29Ljava_2flang_2fInteger_3b rfl rfl (by decide) (Nat.le_of_ble_eq_true rfl) (by decide) (by decide) rfl (fun T308 w308 L308 X308 hQ308 => ?_)
        obtain ⟨b308, rfl, NL308, K308, E_308⟩ := hQ308
        have N308 := Fr.app N302 NL308
        have O0_310 := O0_304.keep K308 all0
        have E_311 := E_305.keep K308
        have Fa_312 := Fa_306.keep K308 nin0
        have Fb_313 := Fb_307.keep K308 nin0
        have E_314 := E_302.keep K308
        have Fa_315 := Fa_302.keep K308 nin0
        have Fb_316 := Fb_302.keep K308 nin0
        show W.Go p e below _ (T308.setTop (mkF m 93 #[.val (.int p0), .val (.int p1), .val (.int p2), .val (.int (1 : Int32)), .val (.int (0 : Int32)), .val (.int p0), .val (.ref b286), .val (.ref b294), .val (.int (0 : Int32)), .val (.ref b294), .val (.ref b286), .unset, .unset, .unset, .unset, .unset, .unset] [(.ref b308)]))
        refine W.astore (q := 95) (L' := #[.val (.int p0), .val (.int p1), .val (.int p2), .val (.int (1 : Int32)), .val (.int (0 : Int32)), .val (.int p0), .val (.ref b286), .val (.ref b294), .val (.int (0 : Int32)), .val (.ref b294), .val (.ref b286), .val (.ref b308), .unset, .unset, .unset, .unset, .unset]) X308 C at_93 rfl rfl rfl ?_
        refine W.aload (q := 97) X308 C at_95 rfl rfl rfl ?_
        refine W.aload (q := 99) X308 C at_97 rfl rfl rfl ?_
        refine W.callV (q := 102) X308 C (W.ww hw 25 rfl) (W.ww hw 26 rfl) (W.nf C (W.ww hw 28 rfl)) (W.ww hw 28 rfl) (W.ww hw 27 rfl) (W.ww hw 2 rfl) (W.ww hw 29 rfl) (by decide) (rm5a l Z a0 hw [] b286 b294 p0 p0 (1 : Int32) (0 : Int32) T308.heap n0 Fa_312 Fb_313 Fa_315 Fb_316 E_314) rfl E_311 at_99 [(.ref b294)] [] rfl rfl pd__28Ljava_2flang_2fObject_3b_29Z rfl rfl (by decide) (Nat.le_of_ble_eq_true rfl) (by decide) (by decide) rfl (fun T317 w317 L317 X317 hQ317 => ?_)
        obtain ⟨rfl, NL317, e317⟩ := hQ317
        have N317 := Fr.app N308 NL317
        show W.Go p e below _ (T317.setTop (mkF m 102 #[.val (.int p0), .val (.int p1), .val (.int p2), .val (.int (1 : Int32)), .val (.int (0 : Int32)), .val (.int p0), .val (.ref b286), .val (.ref b294), .val (.int (0 : Int32)), .val (.ref b294), .val (.ref b286), .val (.ref b308), .unset, .unset, .unset, .unset, .unset] [(.int (own_eq p0 p0 (0 : Int32) (1 : Int32)))]))
        refine W.istore (q := 104) (L' := #[.val (.int p0), .val (.int p1), .val (.int p2), .val (.int (1 : Int32)), .val (.int (0 : Int32)), .val (.int p0), .val (.ref b286), .val (.ref b294), .val (.int (0 : Int32)), .val (.ref b294), .val (.ref b286), .val (.ref b308), .val (.int (own_eq p0 p0 (0 : Int32) (1 : Int32))), .unset, .unset, .unset, .unset]) X317 C at_102 rfl rfl ?_
        refine W.aload (q := 106) X317 C at_104 rfl rfl rfl ?_
        refine W.aload (q := 108) X317 C at_106 rfl rfl rfl ?_
        refine W.callV (q := 111) X317 C (W.ww hw 25 rfl) (W.ww hw 26 rfl) (W.nf C (W.ww hw 28 rfl)) (W.ww hw 28 rfl) (W.ww hw 27 rfl) (W.ww hw 2 rfl) (W.ww hw 29 rfl) (by decide) (rm5a l Z a0 hw [] b294 b286 p0 p0 (0 : Int32) (1 : Int32) T308.heap n0 Fa_315 Fb_316 Fa_312 Fb_313 E_311) e317 E_314 at_108 [(.ref b286)] [] rfl rfl pd__28Ljava_2flang_2fObject_3b_29Z rfl rfl (by decide) (Nat.le_of_ble_eq_true rfl) (by decide) (by decide) rfl (fun T318 w318 L318 X318 hQ318 => ?_)
        obtain ⟨rfl, NL318, e318⟩ := hQ318
        have N318 := Fr.app N317 NL318
        show W.Go p e below _ (T318.setTop (mkF m 111 #[.val (.int p0), .val (.int p1), .val (.int p2), .val (.int (1 : Int32)), .val (.int (0 : Int32)), .val (.int p0), .val (.ref b286), .val (.ref b294), .val (.int (0 : Int32)), .val (.ref b294), .val (.ref b286), .val (.ref b308), .val (.int (own_eq p0 p0 (0 : Int32) (1 : Int32))), .unset, .unset, .unset, .unset] [(.int (own_eq p0 p0 (1 : Int32) (0 : Int32)))]))
        refine W.istore (q := 113) (L' := #[.val (.int p0), .val (.int p1), .val (.int p2), .val (.int (1 : Int32)), .val (.int (0 : Int32)), .val (.int p0), .val (.ref b286), .val (.ref b294), .val (.int (0 : Int32)), .val (.ref b294), .val (.ref b286), .val (.ref b308), .val (.int (own_eq p0 p0 (0 : Int32) (1 : Int32))), .val (.int (own_eq p0 p0 (1 : Int32) (0 : Int32))), .unset, .unset, .unset]) X318 C at_111 rfl rfl ?_
        refine W.aload (q := 115) X318 C at_113 rfl rfl rfl ?_
        refine W.aload (q := 117) X318 C at_115 rfl rfl rfl ?_
        refine W.callV (q := 120) X318 C (W.ww hw 25 rfl) (W.ww hw 26 rfl) (W.nf C (W.ww hw 28 rfl)) (W.ww hw 28 rfl) (W.ww hw 27 rfl) (W.ww hw 2 rfl) (W.ww hw 29 rfl) (by decide) (rm5a l Z a0 hw [] b286 b286 p0 p0 (1 : Int32) (1 : Int32) T308.heap n0 Fa_312 Fb_313 Fa_312 Fb_313 E_311) e318 E_311 at_117 [(.ref b286)] [] rfl rfl pd__28Ljava_2flang_2fObject_3b_29Z rfl rfl (by decide) (Nat.le_of_ble_eq_true rfl) (by decide) (by decide) rfl (fun T319 w319 L319 X319 hQ319 => ?_)
        obtain ⟨rfl, NL319, e319⟩ := hQ319
        have N319 := Fr.app N318 NL319
        show W.Go p e below _ (T319.setTop (mkF m 120 #[.val (.int p0), .val (.int p1), .val (.int p2), .val (.int (1 : Int32)), .val (.int (0 : Int32)), .val (.int p0), .val (.ref b286), .val (.ref b294), .val (.int (0 : Int32)), .val (.ref b294), .val (.ref b286), .val (.ref b308), .val (.int (own_eq p0 p0 (0 : Int32) (1 : Int32))), .val (.int (own_eq p0 p0 (1 : Int32) (0 : Int32))), .unset, .unset, .unset] [(.int (own_eq p0 p0 (1 : Int32) (1 : Int32)))]))
        refine W.istore (q := 122) (L' := #[.val (.int p0), .val (.int p1), .val (.int p2), .val (.int (1 : Int32)), .val (.int (0 : Int32)), .val (.int p0), .val (.ref b286), .val (.ref b294), .val (.int (0 : Int32)), .val (.ref b294), .val (.ref b286), .val (.ref b308), .val (.int (own_eq p0 p0 (0 : Int32) (1 : Int32))), .val (.int (own_eq p0 p0 (1 : Int32) (0 : Int32))), .val (.int (own_eq p0 p0 (1 : Int32) (1 : Int32))), .unset, .unset]) X319 C at_120 rfl rfl ?_
        refine W.aload (q := 124) X319 C at_122 rfl rfl rfl ?_
        refine W.aconst (q := 125) X319 C at_124 rfl ?_
        refine W.callV (q := 128) X319 C (W.ww hw 25 rfl) (W.ww hw 26 rfl) (W.nf C (W.ww hw 28 rfl)) (W.ww hw 28 rfl) (W.ww hw 27 rfl) (W.ww hw 2 rfl) (W.ww hw 29 rfl) (by decide) (rm5n l Z a0 hw [] b286 T308.heap n0) e319 E_311 at_125 [.null] [] rfl rfl pd__28Ljava_2flang_2fObject_3b_29Z rfl rfl (by decide) (Nat.le_of_ble_eq_true rfl) (by decide) (by decide) rfl (fun T320 w320 L320 X320 hQ320 => ?_)
        obtain ⟨rfl, NL320, e320⟩ := hQ320
        have N320 := Fr.app N319 NL320
        show W.Go p e below _ (T320.setTop (mkF m 128 #[.val (.int p0), .val (.int p1), .val (.int p2), .val (.int (1 : Int32)), .val (.int (0 : Int32)), .val (.int p0), .val (.ref b286), .val (.ref b294), .val (.int (0 : Int32)), .val (.ref b294), .val (.ref b286), .val (.ref b308), .val (.int (own_eq p0 p0 (0 : Int32) (1 : Int32))), .val (.int (own_eq p0 p0 (1 : Int32) (0 : Int32))), .val (.int (own_eq p0 p0 (1 : Int32) (1 : Int32))), .unset, .unset] [(.int (0 : Int32))]))
        refine W.istore (q := 130) (L' := #[.val (.int p0), .val (.int p1), .val (.int p2), .val (.int (1 : Int32)), .val (.int (0 : Int32)), .val (.int p0), .val (.ref b286), .val (.ref b294), .val (.int (0 : Int32)), .val (.ref b294), .val (.ref b286), .val (.ref b308), .val (.int (own_eq p0 p0 (0 : Int32) (1 : Int32))), .val (.int (own_eq p0 p0 (1 : Int32) (0 : Int32))), .val (.int (own_eq p0 p0 (1 : Int32) (1 : Int32))), .val (.int (0 : Int32)), .unset]) X320 C at_128 rfl rfl ?_
        refine W.aload (q := 132) X320 C at_130 rfl rfl rfl ?_
        refine W.aload (q := 134) X320 C at_132 rfl rfl rfl ?_
        refine W.callV (q := 137) X320 C (W.ww hw 25 rfl) (W.ww hw 26 rfl) (W.nf C (W.ww hw 28 rfl)) (W.ww hw 28 rfl) (W.ww hw 27 rfl) (W.ww hw 2 rfl) (W.ww hw 29 rfl) (by decide) (rm5o l Z a0 hw [] b286 b308 T308.heap n0 E_308) e320 E_311 at_134 [(.ref b308)] [] rfl rfl pd__28Ljava_2flang_2fObject_3b_29Z rfl rfl (by decide) (Nat.le_of_ble_eq_true rfl) (by decide) (by decide) rfl (fun T321 w321 L321 X321 hQ321 => ?_)
        obtain ⟨rfl, NL321, e321⟩ := hQ321
        have N321 := Fr.app N320 NL321
        show W.Go p e below _ (T321.setTop (mkF m 137 #[.val (.int p0), .val (.int p1), .val (.int p2), .val (.int (1 : Int32)), .val (.int (0 : Int32)), .val (.int p0), .val (.ref b286), .val (.ref b294), .val (.int (0 : Int32)), .val (.ref b294), .val (.ref b286), .val (.ref b308), .val (.int (own_eq p0 p0 (0 : Int32) (1 : Int32))), .val (.int (own_eq p0 p0 (1 : Int32) (0 : Int32))), .val (.int (own_eq p0 p0 (1 : Int32) (1 : Int32))), .val (.int (0 : Int32)), .unset] [(.int (0 : Int32))]))
        refine W.istore (q := 139) (L' := #[.val (.int p0), .val (.int p1), .val (.int p2), .val (.int (1 : Int32)), .val (.int (0 : Int32)), .val (.int p0), .val (.ref b286), .val (.ref b294), .val (.int (0 : Int32)), .val (.ref b294), .val (.ref b286), .val (.ref b308), .val (.int (own_eq p0 p0 (0 : Int32) (1 : Int32))), .val (.int (own_eq p0 p0 (1 : Int32) (0 : Int32))), .val (.int (own_eq p0 p0 (1 : Int32) (1 : Int32))), .val (.int (0 : Int32)), .val (.int (0 : Int32))]) X321 C at_137 rfl rfl ?_
        refine W.iload (q := 141) X321 C at_139 rfl rfl ?_
        refine W.iload (q := 143) X321 C at_141 rfl rfl ?_
        refine W.icmpF (q := 146) X321 C at_143 rfl (show (own_eq p0 p0 (0 : Int32) (1 : Int32)) = (0 : Int32) by simp [own_eq]) ?_
        refine W.iload (q := 148) X321 C at_146 rfl rfl ?_
        refine W.iload (q := 150) X321 C at_148 rfl rfl ?_
        refine W.icmpF (q := 153) X321 C at_150 rfl (show (own_eq p0 p0 (1 : Int32) (0 : Int32)) = (0 : Int32) by simp [own_eq]) ?_
        refine W.iload (q := 155) X321 C at_153 rfl rfl ?_
        refine W.ifF (q := 158) X321 C at_155 rfl (show (own_eq p0 p0 (1 : Int32) (1 : Int32)) ≠ 0 by simp [own_eq]) ?_
        refine W.iload (q := 160) X321 C at_158 rfl rfl ?_
        refine W.ifF (q := 163) X321 C at_160 rfl (by decide : W.cF .ne (0 : Int32) 0) ?_
        refine W.iload (q := 165) X321 C at_163 rfl rfl ?_
        refine W.ifF (q := 168) X321 C at_165 rfl (by decide : W.cF .ne (0 : Int32) 0) ?_
        refine W.iconst (q := 169) (v := 1) X321 C at_168 rfl rfl ?_
        refine W.goto (q := 173) X321 C at_169 (by decide) (by decide) ?_
        exact W.retN X321 C (by simp) e321 at_173 rfl (by decide) (by decide) ⟨rfl, N321⟩
    · replace hc233 : (p2 &&& (2 : Int32)) ≠ 0 := hc233
      refine W.iconst (q := 19) (v := 1) X0 C at_18 rfl rfl ?_
      refine W.goto (q := 23) X0 C at_19 (by decide) (by decide) ?_
      refine W.istore (q := 25) (L' := #[.val (.int p0), .val (.int p1), .val (.int p2), .val (.int (1 : Int32)), .val (.int (1 : Int32)), .unset, .unset, .unset, .unset, .unset, .unset, .unset, .unset, .unset, .unset, .unset, .unset]) X0 C at_23 rfl rfl ?_
      refine W.iloadN (q := 26) X0 C at_25 rfl rfl ?_
      refine W.iconst (q := 27) (v := 4) X0 C at_26 rfl rfl ?_
      refine W.iand (q := 28) X0 C at_27 rfl ?_
      refine W.if_ (q := 35) (q' := 31) X0 C at_28 (by decide) (by decide) rfl (fun hc322 => ?_) (fun hc322 => ?_)
      · replace hc322 : (p2 &&& (4 : Int32)) = 0 := hc322
        refine W.iloadN (q := 36) X0 C at_35 rfl rfl ?_
        refine W.istore (q := 38) (L' := #[.val (.int p0), .val (.int p1), .val (.int p2), .val (.int (1 : Int32)), .val (.int (1 : Int32)), .val (.int p1), .unset, .unset, .unset, .unset, .unset, .unset, .unset, .unset, .unset, .unset, .unset]) X0 C at_36 rfl rfl ?_
        refine W.newO (q := 41) X0 C (W.ww hw 0 rfl) (W.ww hw 1 rfl) (W.ww hw 2 rfl) e0 at_38 (by decide) (by decide) rfl (fun T323 h323 b323 X323 e323 g323 E323 A323 D323 => ?_)
        have ge_b323 : n0 ≤ b323 := by rw [g323]; exact Z0
        have n0_323 : n0 ≤ h323.size := Nat.le_trans Z0 E323.1
        have O0_325 := O0.ext E323
        have F_concept_326 : Fld Z h323 b323 "com/example/nomina/nomina/clauses/Atom$Filler" "concept" "I" (.int (0 : Int32)) := D323 (Or.inr (W.ww hw 15 rfl)) (ty := .int) (by decide)
        have F_negated_327 : Fld Z h323 b323 "com/example/nomina/nomina/clauses/Atom$Filler" "negated" "Z" (.int (0 : Int32)) := D323 (Or.inr (W.ww hw 17 rfl)) (ty := .boolean) (by decide)
        refine W.dup (q := 42) X323 C at_41 rfl rfl ?_
        refine W.iloadN (q := 43) X323 C at_42 rfl rfl ?_
        refine W.iloadN (q := 44) X323 C at_43 rfl rfl ?_
        refine W.callI (q := 47) X323 C rfl (W.ww hw 3 rfl) (W.ww hw 4 rfl) (W.ww hw 2 rfl) (W.ww hw 5 rfl) (by decide) (rm1 l Z a0 hw [] b323 p0 (1 : Int32) h323 n0 n0_323 A323 F_concept_326 F_negated_327 ge_b323 (by decide)) e323 at_44 (a := b323) [(.int p0), (.int (1 : Int32))] [(.ref b323)] rfl rfl pd__28IZ_29V rfl rfl (by decide) (Nat.le_of_ble_eq_true rfl) (by decide) (by decide) rfl (fun T328 w328 L328 X328 hQ328 => ?_)
        obtain ⟨rfl, NL328, K328, E_328, Fa_328, Fb_328⟩ := hQ328
        have N328 := Fr.app N0 NL328
        have O0_330 := O0_325.keep K328 (allS ge_b323 all0)
        have n0_328 : n0 ≤ T328.heap.size := Nat.le_trans n0_323 K328.1
        show W.Go p e below _ (T328.setTop (mkF m 47 #[.val (.int p0), .val (.int p1), .val (.int p2), .val (.int (1 : Int32)), .val (.int (1 : Int32)), .val (.int p1), .unset, .unset, .unset, .unset, .unset, .unset, .unset, .unset, .unset, .unset, .unset] [(.ref b323)]))
        refine W.astore (q := 49) (L' := #[.val (.int p0), .val (.int p1), .val (.int p2), .val (.int (1 : Int32)), .val (.int (1 : Int32)), .val (.int p1), .val (.ref b323), .unset, .unset, .unset, .unset, .unset, .unset, .unset, .unset, .unset, .unset]) X328 C at_47 rfl rfl rfl ?_
        refine W.newO (q := 52) X328 C (W.ww hw 0 rfl) (W.ww hw 1 rfl) (W.ww hw 2 rfl) rfl at_49 (by decide) (by decide) rfl (fun T331 h331 b331 X331 e331 g331 E331 A331 D331 => ?_)
        have ne_b323_b331 : b323 ≠ b331 := by rw [g331]; exact Nat.ne_of_lt E_328.lt
        have ge_b331 : n0 ≤ b331 := by rw [g331]; exact n0_328
        have n0_331 : n0 ≤ h331.size := Nat.le_trans n0_328 E331.1
        have O0_333 := O0_330.ext E331
        have E_334 := E_328.ext E331
        have Fa_335 := Fa_328.ext E331
        have Fb_336 := Fb_328.ext E331
        have F_concept_337 : Fld Z h331 b331 "com/example/nomina/nomina/clauses/Atom$Filler" "concept" "I" (.int (0 : Int32)) := D331 (Or.inr (W.ww hw 15 rfl)) (ty := .int) (by decide)
        have F_negated_338 : Fld Z h331 b331 "com/example/nomina/nomina/clauses/Atom$Filler" "negated" "Z" (.int (0 : Int32)) := D331 (Or.inr (W.ww hw 17 rfl)) (ty := .boolean) (by decide)
        refine W.dup (q := 53) X331 C at_52 rfl rfl ?_
        refine W.iload (q := 55) X331 C at_53 rfl rfl ?_
        refine W.iload (q := 57) X331 C at_55 rfl rfl ?_
        refine W.callI (q := 60) X331 C rfl (W.ww hw 3 rfl) (W.ww hw 4 rfl) (W.ww hw 2 rfl) (W.ww hw 5 rfl) (by decide) (rm1 l Z a0 hw [] b331 p1 (1 : Int32) h331 n0 n0_331 A331 F_concept_337 F_negated_338 ge_b331 (by decide)) e331 at_57 (a := b331) [(.int p1), (.int (1 : Int32))] [(.ref b331)] rfl rfl pd__28IZ_29V rfl rfl (by decide) (Nat.le_of_ble_eq_true rfl) (by decide) (by decide) rfl (fun T339 w339 L339 X339 hQ339 => ?_)
        obtain ⟨rfl, NL339, K339, E_339, Fa_339, Fb_339⟩ := hQ339
        have N339 := Fr.app N328 NL339
        have O0_341 := O0_333.keep K339 (allS ge_b331 all0)
        have E_342 := E_334.keep K339
        have Fa_343 := Fa_335.keep K339 (ninS ne_b323_b331 nin0)
        have Fb_344 := Fb_336.keep K339 (ninS ne_b323_b331 nin0)
        have n0_339 : n0 ≤ T339.heap.size := Nat.le_trans n0_331 K339.1
        show W.Go p e below _ (T339.setTop (mkF m 60 #[.val (.int p0), .val (.int p1), .val (.int p2), .val (.int (1 : Int32)), .val (.int (1 : Int32)), .val (.int p1), .val (.ref b323), .unset, .unset, .unset, .unset, .unset, .unset, .unset, .unset, .unset, .unset] [(.ref b331)]))
        refine W.astore (q := 62) (L' := #[.val (.int p0), .val (.int p1), .val (.int p2), .val (.int (1 : Int32)), .val (.int (1 : Int32)), .val (.int p1), .val (.ref b323), .val (.ref b331), .unset, .unset, .unset, .unset, .unset, .unset, .unset, .unset, .unset]) X339 C at_60 rfl rfl rfl ?_
        refine W.iloadN (q := 63) X339 C at_62 rfl rfl ?_
        refine W.iload (q := 65) X339 C at_63 rfl rfl ?_
        refine W.icmp (q := 78) (q' := 68) X339 C at_65 (by decide) (by decide) rfl (fun hc345 => ?_) (fun hc345 => ?_)
        · replace hc345 : p0 ≠ p1 := hc345
          refine W.iconst (q := 79) (v := 0) X339 C at_78 rfl rfl ?_
          refine W.istore (q := 81) (L' := #[.val (.int p0), .val (.int p1), .val (.int p2), .val (.int (1 : Int32)), .val (.int (1 : Int32)), .val (.int p1), .val (.ref b323), .val (.ref b331), .val (.int (0 : Int32)), .unset, .unset, .unset, .unset, .unset, .unset, .unset, .unset]) X339 C at_79 rfl rfl ?_
          refine W.aload (q := 83) X339 C at_81 rfl rfl rfl ?_
          refine W.astore (q := 85) (L' := #[.val (.int p0), .val (.int p1), .val (.int p2), .val (.int (1 : Int32)), .val (.int (1 : Int32)), .val (.int p1), .val (.ref b323), .val (.ref b331), .val (.int (0 : Int32)), .val (.ref b331), .unset, .unset, .unset, .unset, .unset, .unset, .unset]) X339 C at_83 rfl rfl rfl ?_
          refine W.aload (q := 87) X339 C at_85 rfl rfl rfl ?_
          refine W.astore (q := 89) (L' := #[.val (.int p0), .val (.int p1), .val (.int p2), .val (.int (1 : Int32)), .val (.int (1 : Int32)), .val (.int p1), .val (.ref b323), .val (.ref b331), .val (.int (0 : Int32)), .val (.ref b331), .val (.ref b323), .unset, .unset, .unset, .unset, .unset, .unset]) X339 C at_87 rfl rfl rfl ?_
          refine W.iloadN (q := 90) X339 C at_89 rfl rfl ?_
          refine W.callS (q := 93) X339 C (W.ww hw 18 rfl) (W.ww hw 19 rfl) (W.ww hw 20 rfl) (W.ww hw 21 rfl) (by decide) (rm4 l Z a0 hw [] p0 ca cl T339.heap n0 n0_339 O0_341 SH SC BX) rfl at_90 [(.int p0)] [] rfl rfl pd__28I_29Ljava_2flang_2fInteger_3b rfl rfl (by decide) (Nat.le_of_ble_eq_true rfl) (by decide) (by decide) rfl (fun T346 w346 L346 X346 hQ346 => ?_)
          obtain ⟨b346, rfl, NL346, K346, E_346⟩ := hQ346
          have N346 := Fr.app N339 NL346
          have O0_348 := O0_341.keep K346 all0
          have E_349 := E_342.keep K346
          have Fa_350 := Fa_343.keep K346 nin0
          have Fb_351 := Fb_344.keep K346 nin0
          have E_352 := E_339.keep K346
          have Fa_353 := Fa_339.keep K346 nin0
          have Fb_354 := Fb_339.keep K346 nin0
          show W.Go p e below _ (T346.setTop (mkF m 93 #[.val (.int p0), .val (.int p1), .val (.int p2), .val (.int (1 : Int32)), .val (.int (1 : Int32)), .val (.int p1), .val (.ref b323), .val (.ref b331), .val (.int (0 : Int32)), .val (.ref b331), .val (.ref b323), .unset, .unset, .unset, .unset, .unset, .unset] [(.ref b346)]))
          refine W.astore (q := 95) (L' := #[.val (.int p0), .val (.int p1), .val (.int p2), .val (.int (1 : Int32)), .val (.int (1 : Int32)), .val (.int p1), .val (.ref b323), .val (.ref b331), .val (.int (0 : Int32)), .val (.ref b331), .val (.ref b323), .val (.ref b346), .unset, .unset, .unset, .unset, .unset]) X346 C at_93 rfl rfl rfl ?_
          refine W.aload (q := 97) X346 C at_95 rfl rfl rfl ?_
          refine W.aload (q := 99) X346 C at_97 rfl rfl rfl ?_
          refine W.callV (q := 102) X346 C (W.ww hw 25 rfl) (W.ww hw 26 rfl) (W.nf C (W.ww hw 28 rfl)) (W.ww hw 28 rfl) (W.ww hw 27 rfl) (W.ww hw 2 rfl) (W.ww hw 29 rfl) (by decide) (rm5a l Z a0 hw [] b323 b331 p0 p1 (1 : Int32) (1 : Int32) T346.heap n0 Fa_350 Fb_351 Fa_353 Fb_354 E_352) rfl E_349 at_99 [(.ref b331)] [] rfl rfl pd__28Ljava_2flang_2fObject_3b_29Z rfl rfl (by decide) (Nat.le_of_ble_eq_true rfl) (by decide) (by decide) rfl (fun T355 w355 L355 X355 hQ355 => ?_)
          obtain ⟨rfl, NL355, e355⟩ := hQ355
          have N355 := Fr.app N346 NL355
          show W.Go p e below _ (T355.setTop (mkF m 102 #[.val (.int p0), .val (.int p1), .val (.int p2), .val (.int (1 : Int32)), .val (.int (1 : Int32)), .val (.int p1), .val (.ref b323), .val (.ref b331), .val (.int (0 : Int32)), .val (.ref b331), .val (.ref b323), .val (.ref b346), .unset, .unset, .unset, .unset, .unset] [(.int (own_eq p1 p0 (1 : Int32) (1 : Int32)))]))
          refine W.istore (q := 104) (L' := #[.val (.int p0), .val (.int p1), .val (.int p2), .val (.int (1 : Int32)), .val (.int (1 : Int32)), .val (.int p1), .val (.ref b323), .val (.ref b331), .val (.int (0 : Int32)), .val (.ref b331), .val (.ref b323), .val (.ref b346), .val (.int (own_eq p1 p0 (1 : Int32) (1 : Int32))), .unset, .unset, .unset, .unset]) X355 C at_102 rfl rfl ?_
          refine W.aload (q := 106) X355 C at_104 rfl rfl rfl ?_
          refine W.aload (q := 108) X355 C at_106 rfl rfl rfl ?_
          refine W.callV (q := 111) X355 C (W.ww hw 25 rfl) (W.ww hw 26 rfl) (W.nf C (W.ww hw 28 rfl)) (W.ww hw 28 rfl) (W.ww hw 27 rfl) (W.ww hw 2 rfl) (W.ww hw 29 rfl) (by decide) (rm5a l Z a0 hw [] b331 b323 p1 p0 (1 : Int32) (1 : Int32) T346.heap n0 Fa_353 Fb_354 Fa_350 Fb_351 E_349) e355 E_352 at_108 [(.ref b323)] [] rfl rfl pd__28Ljava_2flang_2fObject_3b_29Z rfl rfl (by decide) (Nat.le_of_ble_eq_true rfl) (by decide) (by decide) rfl (fun T356 w356 L356 X356 hQ356 => ?_)
          obtain ⟨rfl, NL356, e356⟩ := hQ356
          have N356 := Fr.app N355 NL356
          show W.Go p e below _ (T356.setTop (mkF m 111 #[.val (.int p0), .val (.int p1), .val (.int p2), .val (.int (1 : Int32)), .val (.int (1 : Int32)), .val (.int p1), .val (.ref b323), .val (.ref b331), .val (.int (0 : Int32)), .val (.ref b331), .val (.ref b323), .val (.ref b346), .val (.int (own_eq p1 p0 (1 : Int32) (1 : Int32))), .unset, .unset, .unset, .unset] [(.int (own_eq p0 p1 (1 : Int32) (1 : Int32)))]))
          refine W.istore (q := 113) (L' := #[.val (.int p0), .val (.int p1), .val (.int p2), .val (.int (1 : Int32)), .val (.int (1 : Int32)), .val (.int p1), .val (.ref b323), .val (.ref b331), .val (.int (0 : Int32)), .val (.ref b331), .val (.ref b323), .val (.ref b346), .val (.int (own_eq p1 p0 (1 : Int32) (1 : Int32))), .val (.int (own_eq p0 p1 (1 : Int32) (1 : Int32))), .unset, .unset, .unset]) X356 C at_111 rfl rfl ?_
          refine W.aload (q := 115) X356 C at_113 rfl rfl rfl ?_
          refine W.aload (q := 117) X356 C at_115 rfl rfl rfl ?_
          refine W.callV (q := 120) X356 C (W.ww hw 25 rfl) (W.ww hw 26 rfl) (W.nf C (W.ww hw 28 rfl)) (W.ww hw 28 rfl) (W.ww hw 27 rfl) (W.ww hw 2 rfl) (W.ww hw 29 rfl) (by decide) (rm5a l Z a0 hw [] b323 b323 p0 p0 (1 : Int32) (1 : Int32) T346.heap n0 Fa_350 Fb_351 Fa_350 Fb_351 E_349) e356 E_349 at_117 [(.ref b323)] [] rfl rfl pd__28Ljava_2flang_2fObject_3b_29Z rfl rfl (by decide) (Nat.le_of_ble_eq_true rfl) (by decide) (by decide) rfl (fun T357 w357 L357 X357 hQ357 => ?_)
          obtain ⟨rfl, NL357, e357⟩ := hQ357
          have N357 := Fr.app N356 NL357
          show W.Go p e below _ (T357.setTop (mkF m 120 #[.val (.int p0), .val (.int p1), .val (.int p2), .val (.int (1 : Int32)), .val (.int (1 : Int32)), .val (.int p1), .val (.ref b323), .val (.ref b331), .val (.int (0 : Int32)), .val (.ref b331), .val (.ref b323), .val (.ref b346), .val (.int (own_eq p1 p0 (1 : Int32) (1 : Int32))), .val (.int (own_eq p0 p1 (1 : Int32) (1 : Int32))), .unset, .unset, .unset] [(.int (own_eq p0 p0 (1 : Int32) (1 : Int32)))]))
          refine W.istore (q := 122) (L' := #[.val (.int p0), .val (.int p1), .val (.int p2), .val (.int (1 : Int32)), .val (.int (1 : Int32)), .val (.int p1), .val (.ref b323), .val (.ref b331), .val (.int (0 : Int32)), .val (.ref b331), .val (.ref b323), .val (.ref b346), .val (.int (own_eq p1 p0 (1 : Int32) (1 : Int32))), .val (.int (own_eq p0 p1 (1 : Int32) (1 : Int32))), .val (.int (own_eq p0 p0 (1 : Int32) (1 : Int32))), .unset, .unset]) X357 C at_120 rfl rfl ?_
          refine W.aload (q := 124) X357 C at_122 rfl rfl rfl ?_
          refine W.aconst (q := 125) X357 C at_124 rfl ?_
          refine W.callV (q := 128) X357 C (W.ww hw 25 rfl) (W.ww hw 26 rfl) (W.nf C (W.ww hw 28 rfl)) (W.ww hw 28 rfl) (W.ww hw 27 rfl) (W.ww hw 2 rfl) (W.ww hw 29 rfl) (by decide) (rm5n l Z a0 hw [] b323 T346.heap n0) e357 E_349 at_125 [.null] [] rfl rfl pd__28Ljava_2flang_2fObject_3b_29Z rfl rfl (by decide) (Nat.le_of_ble_eq_true rfl) (by decide) (by decide) rfl (fun T358 w358 L358 X358 hQ358 => ?_)
          obtain ⟨rfl, NL358, e358⟩ := hQ358
          have N358 := Fr.app N357 NL358
          show W.Go p e below _ (T358.setTop (mkF m 128 #[.val (.int p0), .val (.int p1), .val (.int p2), .val (.int (1 : Int32)), .val (.int (1 : Int32)), .val (.int p1), .val (.ref b323), .val (.ref b331), .val (.int (0 : Int32)), .val (.ref b331), .val (.ref b323), .val (.ref b346), .val (.int (own_eq p1 p0 (1 : Int32) (1 : Int32))), .val (.int (own_eq p0 p1 (1 : Int32) (1 : Int32))), .val (.int (own_eq p0 p0 (1 : Int32) (1 : Int32))), .unset, .unset] [(.int (0 : Int32))]))
          refine W.istore (q := 130) (L' := #[.val (.int p0), .val (.int p1), .val (.int p2), .val (.int (1 : Int32)), .val (.int (1 : Int32)), .val (.int p1), .val (.ref b323), .val (.ref b331), .val (.int (0 : Int32)), .val (.ref b331), .val (.ref b323), .val (.ref b346), .val (.int (own_eq p1 p0 (1 : Int32) (1 : Int32))), .val (.int (own_eq p0 p1 (1 : Int32) (1 : Int32))), .val (.int (own_eq p0 p0 (1 : Int32) (1 : Int32))), .val (.int (0 : Int32)), .unset]) X358 C at_128 rfl rfl ?_
          refine W.aload (q := 132) X358 C at_130 rfl rfl rfl ?_
          refine W.aload (q := 134) X358 C at_132 rfl rfl rfl ?_
          refine W.callV (q := 137) X358 C (W.ww hw 25 rfl) (W.ww hw 26 rfl) (W.nf C (W.ww hw 28 rfl)) (W.ww hw 28 rfl) (W.ww hw 27 rfl) (W.ww hw 2 rfl) (W.ww hw 29 rfl) (by decide) (rm5o l Z a0 hw [] b323 b346 T346.heap n0 E_346) e358 E_349 at_134 [(.ref b346)] [] rfl rfl pd__28Ljava_2flang_2fObject_3b_29Z rfl rfl (by decide) (Nat.le_of_ble_eq_true rfl) (by decide) (by decide) rfl (fun T359 w359 L359 X359 hQ359 => ?_)
          obtain ⟨rfl, NL359, e359⟩ := hQ359
          have N359 := Fr.app N358 NL359
          show W.Go p e below _ (T359.setTop (mkF m 137 #[.val (.int p0), .val (.int p1), .val (.int p2), .val (.int (1 : Int32)), .val (.int (1 : Int32)), .val (.int p1), .val (.ref b323), .val (.ref b331), .val (.int (0 : Int32)), .val (.ref b331), .val (.ref b323), .val (.ref b346), .val (.int (own_eq p1 p0 (1 : Int32) (1 : Int32))), .val (.int (own_eq p0 p1 (1 : Int32) (1 : Int32))), .val (.int (own_eq p0 p0 (1 : Int32) (1 : Int32))), .val (.int (0 : Int32)), .unset] [(.int (0 : Int32))]))
          refine W.istore (q := 139) (L' := #[.val (.int p0), .val (.int p1), .val (.int p2), .val (.int (1 : Int32)), .val (.int (1 : Int32)), .val (.int p1), .val (.ref b323), .val (.ref b331), .val (.int (0 : Int32)), .val (.ref b331), .val (.ref b323), .val (.ref b346), .val (.int (own_eq p1 p0 (1 : Int32) (1 : Int32))), .val (.int (own_eq p0 p1 (1 : Int32) (1 : Int32))), .val (.int (own_eq p0 p0 (1 : Int32) (1 : Int32))), .val (.int (0 : Int32)), .val (.int (0 : Int32))]) X359 C at_137 rfl rfl ?_
          refine W.iload (q := 141) X359 C at_139 rfl rfl ?_
          refine W.iload (q := 143) X359 C at_141 rfl rfl ?_
          refine W.icmpF (q := 146) X359 C at_143 rfl (show (own_eq p1 p0 (1 : Int32) (1 : Int32)) = (0 : Int32) by simp [own_eq, hc345, Ne.symm hc345]) ?_
          refine W.iload (q := 148) X359 C at_146 rfl rfl ?_
          refine W.iload (q := 150) X359 C at_148 rfl rfl ?_
          refine W.icmpF (q := 153) X359 C at_150 rfl (show (own_eq p0 p1 (1 : Int32) (1 : Int32)) = (0 : Int32) by simp [own_eq, hc345, Ne.symm hc345]) ?_
          refine W.iload (q := 155) X359 C at_153 rfl rfl ?_
          refine W.ifF (q := 158) X359 C at_155 rfl (show (own_eq p0 p0 (1 : Int32) (1 : Int32)) ≠ 0 by simp [own_eq]) ?_
          refine W.iload (q := 160) X359 C at_158 rfl rfl ?_
          refine W.ifF (q := 163) X359 C at_160 rfl (by decide : W.cF .ne (0 : Int32) 0) ?_
          refine W.iload (q := 165) X359 C at_163 rfl rfl ?_
          refine W.ifF (q := 168) X359 C at_165 rfl (by decide : W.cF .ne (0 : Int32) 0) ?_
          refine W.iconst (q := 169) (v := 1) X359 C at_168 rfl rfl ?_
          refine W.goto (q := 173) X359 C at_169 (by decide) (by decide) ?_
          exact W.retN X359 C (by simp) e359 at_173 rfl (by decide) (by decide) ⟨rfl, N359⟩
        · replace hc345 : p0 = p1 := hc345
          refine W.iloadN (q := 69) X339 C at_68 rfl rfl ?_
          refine W.iload (q := 71) X339 C at_69 rfl rfl ?_
          refine W.icmpF (q := 74) X339 C at_71 rfl (by decide : W.cF .ne (1 : Int32) (1 : Int32)) ?_
          refine W.iconst (q := 75) (v := 1) X339 C at_74 rfl rfl ?_
          refine W.goto (q := 79) X339 C at_75 (by decide) (by decide) ?_
          refine W.istore (q := 81) (L' := #[.val (.int p0), .val (.int p1), .val (.int p2), .val (.int (1 : Int32)), .val (.int (1 : Int32)), .val (.int p1), .val (.ref b323), .val (.ref b331), .val (.int (1 : Int32)), .unset, .unset, .unset, .unset, .unset, .unset, .unset, .unset]) X339 C at_79 rfl rfl ?_
          refine W.aload (q := 83) X339 C at_81 rfl rfl rfl ?_
          refine W.astore (q := 85) (L' := #[.val (.int p0), .val (.int p1), .val (.int p2), .val (.int (1 : Int32)), .val (.int (1 : Int32)), .val (.int p1), .val (.ref b323), .val (.ref b331), .val (.int (1 : Int32)), .val (.ref b331), .unset, .unset, .unset, .unset, .unset, .unset, .unset]) X339 C at_83 rfl rfl rfl ?_
          refine W.aload (q := 87) X339 C at_85 rfl rfl rfl ?_
          refine W.astore (q := 89) (L' := #[.val (.int p0), .val (.int p1), .val (.int p2), .val (.int (1 : Int32)), .val (.int (1 : Int32)), .val (.int p1), .val (.ref b323), .val (.ref b331), .val (.int (1 : Int32)), .val (.ref b331), .val (.ref b323), .unset, .unset, .unset, .unset, .unset, .unset]) X339 C at_87 rfl rfl rfl ?_
          refine W.iloadN (q := 90) X339 C at_89 rfl rfl ?_
          refine W.callS (q := 93) X339 C (W.ww hw 18 rfl) (W.ww hw 19 rfl) (W.ww hw 20 rfl) (W.ww hw 21 rfl) (by decide) (rm4 l Z a0 hw [] p0 ca cl T339.heap n0 n0_339 O0_341 SH SC BX) rfl at_90 [(.int p0)] [] rfl rfl pd__28I_29Ljava_2flang_2fInteger_3b rfl rfl (by decide) (Nat.le_of_ble_eq_true rfl) (by decide) (by decide) rfl (fun T360 w360 L360 X360 hQ360 => ?_)
          obtain ⟨b360, rfl, NL360, K360, E_360⟩ := hQ360
          have N360 := Fr.app N339 NL360
          have O0_362 := O0_341.keep K360 all0
          have E_363 := E_342.keep K360
          have Fa_364 := Fa_343.keep K360 nin0
          have Fb_365 := Fb_344.keep K360 nin0
          have E_366 := E_339.keep K360
          have Fa_367 := Fa_339.keep K360 nin0
          have Fb_368 := Fb_339.keep K360 nin0
          show W.Go p e below _ (T360.setTop (mkF m 93 #[.val (.int p0), .val (.int p1), .val (.int p2), .val (.int (1 : Int32)), .val (.int (1 : Int32)), .val (.int p1), .val (.ref b323), .val (.ref b331), .val (.int (1 : Int32)), .val (.ref b331), .val (.ref b323), .unset, .unset, .unset, .unset, .unset, .unset] [(.ref b360)]))
          refine W.astore (q := 95) (L' := #[.val (.int p0), .val (.int p1), .val (.int p2), .val (.int (1 : Int32)), .val (.int (1 : Int32)), .val (.int p1), .val (.ref b323), .val (.ref b331), .val (.int (1 : Int32)), .val (.ref b331), .val (.ref b323), .val (.ref b360), .unset, .unset, .unset, .unset, .unset]) X360 C at_93 rfl rfl rfl ?_
          refine W.aload (q := 97) X360 C at_95 rfl rfl rfl ?_
          refine W.aload (q := 99) X360 C at_97 rfl rfl rfl ?_
          refine W.callV (q := 102) X360 C (W.ww hw 25 rfl) (W.ww hw 26 rfl) (W.nf C (W.ww hw 28 rfl)) (W.ww hw 28 rfl) (W.ww hw 27 rfl) (W.ww hw 2 rfl) (W.ww hw 29 rfl) (by decide) (rm5a l Z a0 hw [] b323 b331 p0 p1 (1 : Int32) (1 : Int32) T360.heap n0 Fa_364 Fb_365 Fa_367 Fb_368 E_366) rfl E_363 at_99 [(.ref b331)] [] rfl rfl pd__28Ljava_2flang_2fObject_3b_29Z rfl rfl (by decide) (Nat.le_of_ble_eq_true rfl) (by decide) (by decide) rfl (fun T369 w369 L369 X369 hQ369 => ?_)
          obtain ⟨rfl, NL369, e369⟩ := hQ369
          have N369 := Fr.app N360 NL369
          show W.Go p e below _ (T369.setTop (mkF m 102 #[.val (.int p0), .val (.int p1), .val (.int p2), .val (.int (1 : Int32)), .val (.int (1 : Int32)), .val (.int p1), .val (.ref b323), .val (.ref b331), .val (.int (1 : Int32)), .val (.ref b331), .val (.ref b323), .val (.ref b360), .unset, .unset, .unset, .unset, .unset] [(.int (own_eq p1 p0 (1 : Int32) (1 : Int32)))]))
          refine W.istore (q := 104) (L' := #[.val (.int p0), .val (.int p1), .val (.int p2), .val (.int (1 : Int32)), .val (.int (1 : Int32)), .val (.int p1), .val (.ref b323), .val (.ref b331), .val (.int (1 : Int32)), .val (.ref b331), .val (.ref b323), .val (.ref b360), .val (.int (own_eq p1 p0 (1 : Int32) (1 : Int32))), .unset, .unset, .unset, .unset]) X369 C at_102 rfl rfl ?_
          refine W.aload (q := 106) X369 C at_104 rfl rfl rfl ?_
          refine W.aload (q := 108) X369 C at_106 rfl rfl rfl ?_
          refine W.callV (q := 111) X369 C (W.ww hw 25 rfl) (W.ww hw 26 rfl) (W.nf C (W.ww hw 28 rfl)) (W.ww hw 28 rfl) (W.ww hw 27 rfl) (W.ww hw 2 rfl) (W.ww hw 29 rfl) (by decide) (rm5a l Z a0 hw [] b331 b323 p1 p0 (1 : Int32) (1 : Int32) T360.heap n0 Fa_367 Fb_368 Fa_364 Fb_365 E_363) e369 E_366 at_108 [(.ref b323)] [] rfl rfl pd__28Ljava_2flang_2fObject_3b_29Z rfl rfl (by decide) (Nat.le_of_ble_eq_true rfl) (by decide) (by decide) rfl (fun T370 w370 L370 X370 hQ370 => ?_)
          obtain ⟨rfl, NL370, e370⟩ := hQ370
          have N370 := Fr.app N369 NL370
          show W.Go p e below _ (T370.setTop (mkF m 111 #[.val (.int p0), .val (.int p1), .val (.int p2), .val (.int (1 : Int32)), .val (.int (1 : Int32)), .val (.int p1), .val (.ref b323), .val (.ref b331), .val (.int (1 : Int32)), .val (.ref b331), .val (.ref b323), .val (.ref b360), .val (.int (own_eq p1 p0 (1 : Int32) (1 : Int32))), .unset, .unset, .unset, .unset] [(.int (own_eq p0 p1 (1 : Int32) (1 : Int32)))]))
          refine W.istore (q := 113) (L' := #[.val (.int p0), .val (.int p1), .val (.int p2), .val (.int (1 : Int32)), .val (.int (1 : Int32)), .val (.int p1), .val (.ref b323), .val (.ref b331), .val (.int (1 : Int32)), .val (.ref b331), .val (.ref b323), .val (.ref b360), .val (.int (own_eq p1 p0 (1 : Int32) (1 : Int32))), .val (.int (own_eq p0 p1 (1 : Int32) (1 : Int32))), .unset, .unset, .unset]) X370 C at_111 rfl rfl ?_
          refine W.aload (q := 115) X370 C at_113 rfl rfl rfl ?_
          refine W.aload (q := 117) X370 C at_115 rfl rfl rfl ?_
          refine W.callV (q := 120) X370 C (W.ww hw 25 rfl) (W.ww hw 26 rfl) (W.nf C (W.ww hw 28 rfl)) (W.ww hw 28 rfl) (W.ww hw 27 rfl) (W.ww hw 2 rfl) (W.ww hw 29 rfl) (by decide) (rm5a l Z a0 hw [] b323 b323 p0 p0 (1 : Int32) (1 : Int32) T360.heap n0 Fa_364 Fb_365 Fa_364 Fb_365 E_363) e370 E_363 at_117 [(.ref b323)] [] rfl rfl pd__28Ljava_2flang_2fObject_3b_29Z rfl rfl (by decide) (Nat.le_of_ble_eq_true rfl) (by decide) (by decide) rfl (fun T371 w371 L371 X371 hQ371 => ?_)
          obtain ⟨rfl, NL371, e371⟩ := hQ371
          have N371 := Fr.app N370 NL371
          show W.Go p e below _ (T371.setTop (mkF m 120 #[.val (.int p0), .val (.int p1), .val (.int p2), .val (.int (1 : Int32)), .val (.int (1 : Int32)), .val (.int p1), .val (.ref b323), .val (.ref b331), .val (.int (1 : Int32)), .val (.ref b331), .val (.ref b323), .val (.ref b360), .val (.int (own_eq p1 p0 (1 : Int32) (1 : Int32))), .val (.int (own_eq p0 p1 (1 : Int32) (1 : Int32))), .unset, .unset, .unset] [(.int (own_eq p0 p0 (1 : Int32) (1 : Int32)))]))
          refine W.istore (q := 122) (L' := #[.val (.int p0), .val (.int p1), .val (.int p2), .val (.int (1 : Int32)), .val (.int (1 : Int32)), .val (.int p1), .val (.ref b323), .val (.ref b331), .val (.int (1 : Int32)), .val (.ref b331), .val (.ref b323), .val (.ref b360), .val (.int (own_eq p1 p0 (1 : Int32) (1 : Int32))), .val (.int (own_eq p0 p1 (1 : Int32) (1 : Int32))), .val (.int (own_eq p0 p0 (1 : Int32) (1 : Int32))), .unset, .unset]) X371 C at_120 rfl rfl ?_
          refine W.aload (q := 124) X371 C at_122 rfl rfl rfl ?_
          refine W.aconst (q := 125) X371 C at_124 rfl ?_
          refine W.callV (q := 128) X371 C (W.ww hw 25 rfl) (W.ww hw 26 rfl) (W.nf C (W.ww hw 28 rfl)) (W.ww hw 28 rfl) (W.ww hw 27 rfl) (W.ww hw 2 rfl) (W.ww hw 29 rfl) (by decide) (rm5n l Z a0 hw [] b323 T360.heap n0) e371 E_363 at_125 [.null] [] rfl rfl pd__28Ljava_2flang_2fObject_3b_29Z rfl rfl (by decide) (Nat.le_of_ble_eq_true rfl) (by decide) (by decide) rfl (fun T372 w372 L372 X372 hQ372 => ?_)
          obtain ⟨rfl, NL372, e372⟩ := hQ372
          have N372 := Fr.app N371 NL372
          show W.Go p e below _ (T372.setTop (mkF m 128 #[.val (.int p0), .val (.int p1), .val (.int p2), .val (.int (1 : Int32)), .val (.int (1 : Int32)), .val (.int p1), .val (.ref b323), .val (.ref b331), .val (.int (1 : Int32)), .val (.ref b331), .val (.ref b323), .val (.ref b360), .val (.int (own_eq p1 p0 (1 : Int32) (1 : Int32))), .val (.int (own_eq p0 p1 (1 : Int32) (1 : Int32))), .val (.int (own_eq p0 p0 (1 : Int32) (1 : Int32))), .unset, .unset] [(.int (0 : Int32))]))
          refine W.istore (q := 130) (L' := #[.val (.int p0), .val (.int p1), .val (.int p2), .val (.int (1 : Int32)), .val (.int (1 : Int32)), .val (.int p1), .val (.ref b323), .val (.ref b331), .val (.int (1 : Int32)), .val (.ref b331), .val (.ref b323), .val (.ref b360), .val (.int (own_eq p1 p0 (1 : Int32) (1 : Int32))), .val (.int (own_eq p0 p1 (1 : Int32) (1 : Int32))), .val (.int (own_eq p0 p0 (1 : Int32) (1 : Int32))), .val (.int (0 : Int32)), .unset]) X372 C at_128 rfl rfl ?_
          refine W.aload (q := 132) X372 C at_130 rfl rfl rfl ?_
          refine W.aload (q := 134) X372 C at_132 rfl rfl rfl ?_
          refine W.callV (q := 137) X372 C (W.ww hw 25 rfl) (W.ww hw 26 rfl) (W.nf C (W.ww hw 28 rfl)) (W.ww hw 28 rfl) (W.ww hw 27 rfl) (W.ww hw 2 rfl) (W.ww hw 29 rfl) (by decide) (rm5o l Z a0 hw [] b323 b360 T360.heap n0 E_360) e372 E_363 at_134 [(.ref b360)] [] rfl rfl pd__28Ljava_2flang_2fObject_3b_29Z rfl rfl (by decide) (Nat.le_of_ble_eq_true rfl) (by decide) (by decide) rfl (fun T373 w373 L373 X373 hQ373 => ?_)
          obtain ⟨rfl, NL373, e373⟩ := hQ373
          have N373 := Fr.app N372 NL373
          show W.Go p e below _ (T373.setTop (mkF m 137 #[.val (.int p0), .val (.int p1), .val (.int p2), .val (.int (1 : Int32)), .val (.int (1 : Int32)), .val (.int p1), .val (.ref b323), .val (.ref b331), .val (.int (1 : Int32)), .val (.ref b331), .val (.ref b323), .val (.ref b360), .val (.int (own_eq p1 p0 (1 : Int32) (1 : Int32))), .val (.int (own_eq p0 p1 (1 : Int32) (1 : Int32))), .val (.int (own_eq p0 p0 (1 : Int32) (1 : Int32))), .val (.int (0 : Int32)), .unset] [(.int (0 : Int32))]))
          refine W.istore (q := 139) (L' := #[.val (.int p0), .val (.int p1), .val (.int p2), .val (.int (1 : Int32)), .val (.int (1 : Int32)), .val (.int p1), .val (.ref b323), .val (.ref b331), .val (.int (1 : Int32)), .val (.ref b331), .val (.ref b323), .val (.ref b360), .val (.int (own_eq p1 p0 (1 : Int32) (1 : Int32))), .val (.int (own_eq p0 p1 (1 : Int32) (1 : Int32))), .val (.int (own_eq p0 p0 (1 : Int32) (1 : Int32))), .val (.int (0 : Int32)), .val (.int (0 : Int32))]) X373 C at_137 rfl rfl ?_
          refine W.iload (q := 141) X373 C at_139 rfl rfl ?_
          refine W.iload (q := 143) X373 C at_141 rfl rfl ?_
          refine W.icmpF (q := 146) X373 C at_143 rfl (show (own_eq p1 p0 (1 : Int32) (1 : Int32)) = (1 : Int32) by simp [own_eq, hc345]) ?_
          refine W.iload (q := 148) X373 C at_146 rfl rfl ?_
          refine W.iload (q := 150) X373 C at_148 rfl rfl ?_
          refine W.icmpF (q := 153) X373 C at_150 rfl (show (own_eq p0 p1 (1 : Int32) (1 : Int32)) = (1 : Int32) by simp [own_eq, hc345]) ?_
          refine W.iload (q := 155) X373 C at_153 rfl rfl ?_
          refine W.ifF (q := 158) X373 C at_155 rfl (show (own_eq p0 p0 (1 : Int32) (1 : Int32)) ≠ 0 by simp [own_eq]) ?_
          refine W.iload (q := 160) X373 C at_158 rfl rfl ?_
          refine W.ifF (q := 163) X373 C at_160 rfl (by decide : W.cF .ne (0 : Int32) 0) ?_
          refine W.iload (q := 165) X373 C at_163 rfl rfl ?_
          refine W.ifF (q := 168) X373 C at_165 rfl (by decide : W.cF .ne (0 : Int32) 0) ?_
          refine W.iconst (q := 169) (v := 1) X373 C at_168 rfl rfl ?_
          refine W.goto (q := 173) X373 C at_169 (by decide) (by decide) ?_
          exact W.retN X373 C (by simp) e373 at_173 rfl (by decide) (by decide) ⟨rfl, N373⟩
      · replace hc322 : (p2 &&& (4 : Int32)) ≠ 0 := hc322
        refine W.iloadN (q := 32) X0 C at_31 rfl rfl ?_
        refine W.goto (q := 36) X0 C at_32 (by decide) (by decide) ?_
        refine W.istore (q := 38) (L' := #[.val (.int p0), .val (.int p1), .val (.int p2), .val (.int (1 : Int32)), .val (.int (1 : Int32)), .val (.int p0), .unset, .unset, .unset, .unset, .unset, .unset, .unset, .unset, .unset, .unset, .unset]) X0 C at_36 rfl rfl ?_
        refine W.newO (q := 41) X0 C (W.ww hw 0 rfl) (W.ww hw 1 rfl) (W.ww hw 2 rfl) e0 at_38 (by decide) (by decide) rfl (fun T374 h374 b374 X374 e374 g374 E374 A374 D374 => ?_)
        have ge_b374 : n0 ≤ b374 := by rw [g374]; exact Z0
        have n0_374 : n0 ≤ h374.size := Nat.le_trans Z0 E374.1
        have O0_376 := O0.ext E374
        have F_concept_377 : Fld Z h374 b374 "com/example/nomina/nomina/clauses/Atom$Filler" "concept" "I" (.int (0 : Int32)) := D374 (Or.inr (W.ww hw 15 rfl)) (ty := .int) (by decide)
        have F_negated_378 : Fld Z h374 b374 "com/example/nomina/nomina/clauses/Atom$Filler" "negated" "Z" (.int (0 : Int32)) := D374 (Or.inr (W.ww hw 17 rfl)) (ty := .boolean) (by decide)
        refine W.dup (q := 42) X374 C at_41 rfl rfl ?_
        refine W.iloadN (q := 43) X374 C at_42 rfl rfl ?_
        refine W.iloadN (q := 44) X374 C at_43 rfl rfl ?_
        refine W.callI (q := 47) X374 C rfl (W.ww hw 3 rfl) (W.ww hw 4 rfl) (W.ww hw 2 rfl) (W.ww hw 5 rfl) (by decide) (rm1 l Z a0 hw [] b374 p0 (1 : Int32) h374 n0 n0_374 A374 F_concept_377 F_negated_378 ge_b374 (by decide)) e374 at_44 (a := b374) [(.int p0), (.int (1 : Int32))] [(.ref b374)] rfl rfl pd__28IZ_29V rfl rfl (by decide) (Nat.le_of_ble_eq_true rfl) (by decide) (by decide) rfl (fun T379 w379 L379 X379 hQ379 => ?_)
        obtain ⟨rfl, NL379, K379, E_379, Fa_379, Fb_379⟩ := hQ379
        have N379 := Fr.app N0 NL379
        have O0_381 := O0_376.keep K379 (allS ge_b374 all0)
        have n0_379 : n0 ≤ T379.heap.size := Nat.le_trans n0_374 K379.1
        show W.Go p e below _ (T379.setTop (mkF m 47 #[.val (.int p0), .val (.int p1), .val (.int p2), .val (.int (1 : Int32)), .val (.int (1 : Int32)), .val (.int p0), .unset, .unset, .unset, .unset, .unset, .unset, .unset, .unset, .unset, .unset, .unset] [(.ref b374)]))
        refine W.astore (q := 49) (L' := #[.val (.int p0), .val (.int p1), .val (.int p2), .val (.int (1 : Int32)), .val (.int (1 : Int32)), .val (.int p0), .val (.ref b374), .unset, .unset, .unset, .unset, .unset, .unset, .unset, .unset, .unset, .unset]) X379 C at_47 rfl rfl rfl ?_
        refine W.newO (q := 52) X379 C (W.ww hw 0 rfl) (W.ww hw 1 rfl) (W.ww hw 2 rfl) rfl at_49 (by decide) (by decide) rfl (fun T382 h382 b382 X382 e382 g382 E382 A382 D382 => ?_)
        have ne_b374_b382 : b374 ≠ b382 := by rw [g382]; exact Nat.ne_of_lt E_379.lt
        have ge_b382 : n0 ≤ b382 := by rw [g382]; exact n0_379
        have n0_382 : n0 ≤ h382.size := Nat.le_trans n0_379 E382.1
        have O0_384 := O0_381.ext E382
        have E_385 := E_379.ext E382
        have Fa_386 := Fa_379.ext E382
        have Fb_387 := Fb_379.ext E382
        have F_concept_388 : Fld Z h382 b382 "com/example/nomina/nomina/clauses/Atom$Filler" "concept" "I" (.int (0 : Int32)) := D382 (Or.inr (W.ww hw 15 rfl)) (ty := .int) (by decide)
        have F_negated_389 : Fld Z h382 b382 "com/example/nomina/nomina/clauses/Atom$Filler" "negated" "Z" (.int (0 : Int32)) := D382 (Or.inr (W.ww hw 17 rfl)) (ty := .boolean) (by decide)
        refine W.dup (q := 53) X382 C at_52 rfl rfl ?_
        refine W.iload (q := 55) X382 C at_53 rfl rfl ?_
        refine W.iload (q := 57) X382 C at_55 rfl rfl ?_
        refine W.callI (q := 60) X382 C rfl (W.ww hw 3 rfl) (W.ww hw 4 rfl) (W.ww hw 2 rfl) (W.ww hw 5 rfl) (by decide) (rm1 l Z a0 hw [] b382 p0 (1 : Int32) h382 n0 n0_382 A382 F_concept_388 F_negated_389 ge_b382 (by decide)) e382 at_57 (a := b382) [(.int p0), (.int (1 : Int32))] [(.ref b382)] rfl rfl pd__28IZ_29V rfl rfl (by decide) (Nat.le_of_ble_eq_true rfl) (by decide) (by decide) rfl (fun T390 w390 L390 X390 hQ390 => ?_)
        obtain ⟨rfl, NL390, K390, E_390, Fa_390, Fb_390⟩ := hQ390
        have N390 := Fr.app N379 NL390
        have O0_392 := O0_384.keep K390 (allS ge_b382 all0)
        have E_393 := E_385.keep K390
        have Fa_394 := Fa_386.keep K390 (ninS ne_b374_b382 nin0)
        have Fb_395 := Fb_387.keep K390 (ninS ne_b374_b382 nin0)
        have n0_390 : n0 ≤ T390.heap.size := Nat.le_trans n0_382 K390.1
        show W.Go p e below _ (T390.setTop (mkF m 60 #[.val (.int p0), .val (.int p1), .val (.int p2), .val (.int (1 : Int32)), .val (.int (1 : Int32)), .val (.int p0), .val (.ref b374), .unset, .unset, .unset, .unset, .unset, .unset, .unset, .unset, .unset, .unset] [(.ref b382)]))
        refine W.astore (q := 62) (L' := #[.val (.int p0), .val (.int p1), .val (.int p2), .val (.int (1 : Int32)), .val (.int (1 : Int32)), .val (.int p0), .val (.ref b374), .val (.ref b382), .unset, .unset, .unset, .unset, .unset, .unset, .unset, .unset, .unset]) X390 C at_60 rfl rfl rfl ?_
        refine W.iloadN (q := 63) X390 C at_62 rfl rfl ?_
        refine W.iload (q := 65) X390 C at_63 rfl rfl ?_
        refine W.icmpF (q := 68) X390 C at_65 rfl rfl ?_
        refine W.iloadN (q := 69) X390 C at_68 rfl rfl ?_
        refine W.iload (q := 71) X390 C at_69 rfl rfl ?_
        refine W.icmpF (q := 74) X390 C at_71 rfl (by decide : W.cF .ne (1 : Int32) (1 : Int32)) ?_
        refine W.iconst (q := 75) (v := 1) X390 C at_74 rfl rfl ?_
        refine W.goto (q := 79) X390 C at_75 (by decide) (by decide) ?_
        refine W.istore (q := 81) (L' := #[.val (.int p0), .val (.int p1), .val (.int p2), .val (.int (1 : Int32)), .val (.int (1 : Int32)), .val (.int p0), .val (.ref b374), .val (.ref b382), .val (.int (1 : Int32)), .unset, .unset, .unset, .unset, .unset, .unset, .unset, .unset]) X390 C at_79 rfl rfl ?_
        refine W.aload (q := 83) X390 C at_81 rfl rfl rfl ?_
        refine W.astore (q := 85) (L' := #[.val (.int p0), .val (.int p1), .val (.int p2), .val (.int (1 : Int32)), .val (.int (1 : Int32)), .val (.int p0), .val (.ref b374), .val (.ref b382), .val (.int (1 : Int32)), .val (.ref b382), .unset, .unset, .unset, .unset, .unset, .unset, .unset]) X390 C at_83 rfl rfl rfl ?_
        refine W.aload (q := 87) X390 C at_85 rfl rfl rfl ?_
        refine W.astore (q := 89) (L' := #[.val (.int p0), .val (.int p1), .val (.int p2), .val (.int (1 : Int32)), .val (.int (1 : Int32)), .val (.int p0), .val (.ref b374), .val (.ref b382), .val (.int (1 : Int32)), .val (.ref b382), .val (.ref b374), .unset, .unset, .unset, .unset, .unset, .unset]) X390 C at_87 rfl rfl rfl ?_
        refine W.iloadN (q := 90) X390 C at_89 rfl rfl ?_
        refine W.callS (q := 93) X390 C (W.ww hw 18 rfl) (W.ww hw 19 rfl) (W.ww hw 20 rfl) (W.ww hw 21 rfl) (by decide) (rm4 l Z a0 hw [] p0 ca cl T390.heap n0 n0_390 O0_392 SH SC BX) rfl at_90 [(.int p0)] [] rfl rfl pd__28I_29Ljava_2flang_2fInteger_3b rfl rfl (by decide) (Nat.le_of_ble_eq_true rfl) (by decide) (by decide) rfl (fun T396 w396 L396 X396 hQ396 => ?_)
        obtain ⟨b396, rfl, NL396, K396, E_396⟩ := hQ396
        have N396 := Fr.app N390 NL396
        have O0_398 := O0_392.keep K396 all0
        have E_399 := E_393.keep K396
        have Fa_400 := Fa_394.keep K396 nin0
        have Fb_401 := Fb_395.keep K396 nin0
        have E_402 := E_390.keep K396
        have Fa_403 := Fa_390.keep K396 nin0
        have Fb_404 := Fb_390.keep K396 nin0
        show W.Go p e below _ (T396.setTop (mkF m 93 #[.val (.int p0), .val (.int p1), .val (.int p2), .val (.int (1 : Int32)), .val (.int (1 : Int32)), .val (.int p0), .val (.ref b374), .val (.ref b382), .val (.int (1 : Int32)), .val (.ref b382), .val (.ref b374), .unset, .unset, .unset, .unset, .unset, .unset] [(.ref b396)]))
        refine W.astore (q := 95) (L' := #[.val (.int p0), .val (.int p1), .val (.int p2), .val (.int (1 : Int32)), .val (.int (1 : Int32)), .val (.int p0), .val (.ref b374), .val (.ref b382), .val (.int (1 : Int32)), .val (.ref b382), .val (.ref b374), .val (.ref b396), .unset, .unset, .unset, .unset, .unset]) X396 C at_93 rfl rfl rfl ?_
        refine W.aload (q := 97) X396 C at_95 rfl rfl rfl ?_
        refine W.aload (q := 99) X396 C at_97 rfl rfl rfl ?_
        refine W.callV (q := 102) X396 C (W.ww hw 25 rfl) (W.ww hw 26 rfl) (W.nf C (W.ww hw 28 rfl)) (W.ww hw 28 rfl) (W.ww hw 27 rfl) (W.ww hw 2 rfl) (W.ww hw 29 rfl) (by decide) (rm5a l Z a0 hw [] b374 b382 p0 p0 (1 : Int32) (1 : Int32) T396.heap n0 Fa_400 Fb_401 Fa_403 Fb_404 E_402) rfl E_399 at_99 [(.ref b382)] [] rfl rfl pd__28Ljava_2flang_2fObject_3b_29Z rfl rfl (by decide) (Nat.le_of_ble_eq_true rfl) (by decide) (by decide) rfl (fun T405 w405 L405 X405 hQ405 => ?_)
        obtain ⟨rfl, NL405, e405⟩ := hQ405
        have N405 := Fr.app N396 NL405
        show W.Go p e below _ (T405.setTop (mkF m 102 #[.val (.int p0), .val (.int p1), .val (.int p2), .val (.int (1 : Int32)), .val (.int (1 : Int32)), .val (.int p0), .val (.ref b374), .val (.ref b382), .val (.int (1 : Int32)), .val (.ref b382), .val (.ref b374), .val (.ref b396), .unset, .unset, .unset, .unset, .unset] [(.int (own_eq p0 p0 (1 : Int32) (1 : Int32)))]))
        refine W.istore (q := 104) (L' := #[.val (.int p0), .val (.int p1), .val (.int p2), .val (.int (1 : Int32)), .val (.int (1 : Int32)), .val (.int p0), .val (.ref b374), .val (.ref b382), .val (.int (1 : Int32)), .val (.ref b382), .val (.ref b374), .val (.ref b396), .val (.int (own_eq p0 p0 (1 : Int32) (1 : Int32))), .unset, .unset, .unset, .unset]) X405 C at_102 rfl rfl ?_
        refine W.aload (q := 106) X405 C at_104 rfl rfl rfl ?_
        refine W.aload (q := 108) X405 C at_106 rfl rfl rfl ?_
        refine W.callV (q := 111) X405 C (W.ww hw 25 rfl) (W.ww hw 26 rfl) (W.nf C (W.ww hw 28 rfl)) (W.ww hw 28 rfl) (W.ww hw 27 rfl) (W.ww hw 2 rfl) (W.ww hw 29 rfl) (by decide) (rm5a l Z a0 hw [] b382 b374 p0 p0 (1 : Int32) (1 : Int32) T396.heap n0 Fa_403 Fb_404 Fa_400 Fb_401 E_399) e405 E_402 at_108 [(.ref b374)] [] rfl rfl pd__28Ljava_2flang_2fObject_3b_29Z rfl rfl (by decide) (Nat.le_of_ble_eq_true rfl) (by decide) (by decide) rfl (fun T406 w406 L406 X406 hQ406 => ?_)
        obtain ⟨rfl, NL406, e406⟩ := hQ406
        have N406 := Fr.app N405 NL406
        show W.Go p e below _ (T406.setTop (mkF m 111 #[.val (.int p0), .val (.int p1), .val (.int p2), .val (.int (1 : Int32)), .val (.int (1 : Int32)), .val (.int p0), .val (.ref b374), .val (.ref b382), .val (.int (1 : Int32)), .val (.ref b382), .val (.ref b374), .val (.ref b396), .val (.int (own_eq p0 p0 (1 : Int32) (1 : Int32))), .unset, .unset, .unset, .unset] [(.int (own_eq p0 p0 (1 : Int32) (1 : Int32)))]))
        refine W.istore (q := 113) (L' := #[.val (.int p0), .val (.int p1), .val (.int p2), .val (.int (1 : Int32)), .val (.int (1 : Int32)), .val (.int p0), .val (.ref b374), .val (.ref b382), .val (.int (1 : Int32)), .val (.ref b382), .val (.ref b374), .val (.ref b396), .val (.int (own_eq p0 p0 (1 : Int32) (1 : Int32))), .val (.int (own_eq p0 p0 (1 : Int32) (1 : Int32))), .unset, .unset, .unset]) X406 C at_111 rfl rfl ?_
        refine W.aload (q := 115) X406 C at_113 rfl rfl rfl ?_
        refine W.aload (q := 117) X406 C at_115 rfl rfl rfl ?_
        refine W.callV (q := 120) X406 C (W.ww hw 25 rfl) (W.ww hw 26 rfl) (W.nf C (W.ww hw 28 rfl)) (W.ww hw 28 rfl) (W.ww hw 27 rfl) (W.ww hw 2 rfl) (W.ww hw 29 rfl) (by decide) (rm5a l Z a0 hw [] b374 b374 p0 p0 (1 : Int32) (1 : Int32) T396.heap n0 Fa_400 Fb_401 Fa_400 Fb_401 E_399) e406 E_399 at_117 [(.ref b374)] [] rfl rfl pd__28Ljava_2flang_2fObject_3b_29Z rfl rfl (by decide) (Nat.le_of_ble_eq_true rfl) (by decide) (by decide) rfl (fun T407 w407 L407 X407 hQ407 => ?_)
        obtain ⟨rfl, NL407, e407⟩ := hQ407
        have N407 := Fr.app N406 NL407
        show W.Go p e below _ (T407.setTop (mkF m 120 #[.val (.int p0), .val (.int p1), .val (.int p2), .val (.int (1 : Int32)), .val (.int (1 : Int32)), .val (.int p0), .val (.ref b374), .val (.ref b382), .val (.int (1 : Int32)), .val (.ref b382), .val (.ref b374), .val (.ref b396), .val (.int (own_eq p0 p0 (1 : Int32) (1 : Int32))), .val (.int (own_eq p0 p0 (1 : Int32) (1 : Int32))), .unset, .unset, .unset] [(.int (own_eq p0 p0 (1 : Int32) (1 : Int32)))]))
        refine W.istore (q := 122) (L' := #[.val (.int p0), .val (.int p1), .val (.int p2), .val (.int (1 : Int32)), .val (.int (1 : Int32)), .val (.int p0), .val (.ref b374), .val (.ref b382), .val (.int (1 : Int32)), .val (.ref b382), .val (.ref b374), .val (.ref b396), .val (.int (own_eq p0 p0 (1 : Int32) (1 : Int32))), .val (.int (own_eq p0 p0 (1 : Int32) (1 : Int32))), .val (.int (own_eq p0 p0 (1 : Int32) (1 : Int32))), .unset, .unset]) X407 C at_120 rfl rfl ?_
        refine W.aload (q := 124) X407 C at_122 rfl rfl rfl ?_
        refine W.aconst (q := 125) X407 C at_124 rfl ?_
        refine W.callV (q := 128) X407 C (W.ww hw 25 rfl) (W.ww hw 26 rfl) (W.nf C (W.ww hw 28 rfl)) (W.ww hw 28 rfl) (W.ww hw 27 rfl) (W.ww hw 2 rfl) (W.ww hw 29 rfl) (by decide) (rm5n l Z a0 hw [] b374 T396.heap n0) e407 E_399 at_125 [.null] [] rfl rfl pd__28Ljava_2flang_2fObject_3b_29Z rfl rfl (by decide) (Nat.le_of_ble_eq_true rfl) (by decide) (by decide) rfl (fun T408 w408 L408 X408 hQ408 => ?_)
        obtain ⟨rfl, NL408, e408⟩ := hQ408
        have N408 := Fr.app N407 NL408
        show W.Go p e below _ (T408.setTop (mkF m 128 #[.val (.int p0), .val (.int p1), .val (.int p2), .val (.int (1 : Int32)), .val (.int (1 : Int32)), .val (.int p0), .val (.ref b374), .val (.ref b382), .val (.int (1 : Int32)), .val (.ref b382), .val (.ref b374), .val (.ref b396), .val (.int (own_eq p0 p0 (1 : Int32) (1 : Int32))), .val (.int (own_eq p0 p0 (1 : Int32) (1 : Int32))), .val (.int (own_eq p0 p0 (1 : Int32) (1 : Int32))), .unset, .unset] [(.int (0 : Int32))]))
        refine W.istore (q := 130) (L' := #[.val (.int p0), .val (.int p1), .val (.int p2), .val (.int (1 : Int32)), .val (.int (1 : Int32)), .val (.int p0), .val (.ref b374), .val (.ref b382), .val (.int (1 : Int32)), .val (.ref b382), .val (.ref b374), .val (.ref b396), .val (.int (own_eq p0 p0 (1 : Int32) (1 : Int32))), .val (.int (own_eq p0 p0 (1 : Int32) (1 : Int32))), .val (.int (own_eq p0 p0 (1 : Int32) (1 : Int32))), .val (.int (0 : Int32)), .unset]) X408 C at_128 rfl rfl ?_
        refine W.aload (q := 132) X408 C at_130 rfl rfl rfl ?_
        refine W.aload (q := 134) X408 C at_132 rfl rfl rfl ?_
        refine W.callV (q := 137) X408 C (W.ww hw 25 rfl) (W.ww hw 26 rfl) (W.nf C (W.ww hw 28 rfl)) (W.ww hw 28 rfl) (W.ww hw 27 rfl) (W.ww hw 2 rfl) (W.ww hw 29 rfl) (by decide) (rm5o l Z a0 hw [] b374 b396 T396.heap n0 E_396) e408 E_399 at_134 [(.ref b396)] [] rfl rfl pd__28Ljava_2flang_2fObject_3b_29Z rfl rfl (by decide) (Nat.le_of_ble_eq_true rfl) (by decide) (by decide) rfl (fun T409 w409 L409 X409 hQ409 => ?_)
        obtain ⟨rfl, NL409, e409⟩ := hQ409
        have N409 := Fr.app N408 NL409
        show W.Go p e below _ (T409.setTop (mkF m 137 #[.val (.int p0), .val (.int p1), .val (.int p2), .val (.int (1 : Int32)), .val (.int (1 : Int32)), .val (.int p0), .val (.ref b374), .val (.ref b382), .val (.int (1 : Int32)), .val (.ref b382), .val (.ref b374), .val (.ref b396), .val (.int (own_eq p0 p0 (1 : Int32) (1 : Int32))), .val (.int (own_eq p0 p0 (1 : Int32) (1 : Int32))), .val (.int (own_eq p0 p0 (1 : Int32) (1 : Int32))), .val (.int (0 : Int32)), .unset] [(.int (0 : Int32))]))
        refine W.istore (q := 139) (L' := #[.val (.int p0), .val (.int p1), .val (.int p2), .val (.int (1 : Int32)), .val (.int (1 : Int32)), .val (.int p0), .val (.ref b374), .val (.ref b382), .val (.int (1 : Int32)), .val (.ref b382), .val (.ref b374), .val (.ref b396), .val (.int (own_eq p0 p0 (1 : Int32) (1 : Int32))), .val (.int (own_eq p0 p0 (1 : Int32) (1 : Int32))), .val (.int (own_eq p0 p0 (1 : Int32) (1 : Int32))), .val (.int (0 : Int32)), .val (.int (0 : Int32))]) X409 C at_137 rfl rfl ?_
        refine W.iload (q := 141) X409 C at_139 rfl rfl ?_
        refine W.iload (q := 143) X409 C at_141 rfl rfl ?_
        refine W.icmpF (q := 146) X409 C at_143 rfl (show (own_eq p0 p0 (1 : Int32) (1 : Int32)) = (1 : Int32) by simp [own_eq]) ?_
        refine W.iload (q := 148) X409 C at_146 rfl rfl ?_
        refine W.iload (q := 150) X409 C at_148 rfl rfl ?_
        refine W.icmpF (q := 153) X409 C at_150 rfl (show (own_eq p0 p0 (1 : Int32) (1 : Int32)) = (1 : Int32) by simp [own_eq]) ?_
        refine W.iload (q := 155) X409 C at_153 rfl rfl ?_
        refine W.ifF (q := 158) X409 C at_155 rfl (show (own_eq p0 p0 (1 : Int32) (1 : Int32)) ≠ 0 by simp [own_eq]) ?_
        refine W.iload (q := 160) X409 C at_158 rfl rfl ?_
        refine W.ifF (q := 163) X409 C at_160 rfl (by decide : W.cF .ne (0 : Int32) 0) ?_
        refine W.iload (q := 165) X409 C at_163 rfl rfl ?_
        refine W.ifF (q := 168) X409 C at_165 rfl (by decide : W.cF .ne (0 : Int32) 0) ?_
        refine W.iconst (q := 169) (v := 1) X409 C at_168 rfl rfl ?_
        refine W.goto (q := 173) X409 C at_169 (by decide) (by decide) ?_
        exact W.retN X409 C (by simp) e409 at_173 rfl (by decide) (by decide) ⟨rfl, N409⟩
set_option maxRecDepth 65536 in
set_option maxHeartbeats 40000000 in
theorem comes_1 {Post : Tables → Env → Array Value → State → Outcome → State → Prop} (hpost : ∀ tb e args s v u, (limb_1_1.after args s (.returned v) u = true ∧ limb_1_2.after args s (.returned v) u = true ∧ True) → FrameEnd s (.returned v) u (Jvm.fieldLocs frame_1_writes args s ++ Jvm.arrayLocs frame_1_arrays args s ++ Jvm.staticLocs frame_1_statics s) 16 128 → Post tb e args s (.returned v) u) :
    ArmFor flags0 classFile x code maxLocals ret World_1 tables_1 room_1 Calls_1 rest_1 Pre_1 Post := by
  intro l hfl _ _ p e ha hc hk s m args below hf hA hF happ hP
  obtain ⟨hcalls, hrest, hpre⟩ := hP
  obtain ⟨-, -, -, hnamed, -, -, -, hat⟩ := (Spec.applies_iff hf).mp happ
  obtain ⟨hg, hn⟩ := and_e (Cond.before_iff.mp (show (Jvm.Cond.and given_1 narrow_1).before args s = true from hpre))
  obtain ⟨g1, g2⟩ := and_e hg
  obtain ⟨g3, g4⟩ := and_e g2
  obtain ⟨g5, g6⟩ := and_e g4
  obtain ⟨w0, w1, w2, rfl⟩ : ∃ w0 w1 w2 : Value, args = #[w0, w1, w2] := by
    have hs : args.size = 3 := by simpa [Cond.value, given_1] using g1
    obtain ⟨L⟩ := args
    match L, hs with
    | [w0, w1, w2], _ => exact ⟨w0, w1, w2, rfl⟩
  have hw := fun d (hd : d ∈ tables_1) => atoms_spec (ws := Jvm.Cond.code x code maxLocals ret :: tables_1) hat d (List.mem_cons_of_mem _ hd)
  have hfit : Fit s := fun {y c} hc i hi => by
    obtain ⟨ha, rfl⟩ := Array.getElem?_eq_some_iff.mp hc
    have q := List.all_eq_true.mp ((Array.all_eq_true_iff_forall_mem.mp hF) _ (Array.getElem_mem ha)) i (List.mem_range.mpr hi)
    simpa [Array.getElem?_eq_getElem hi] using q
  obtain ⟨hsets, hown0⟩ := atoms_of _ (rest_1_c_eq ▸ (show rest_1_c.before _ s = true from hrest))
  have hr0 := Cond.before_iff.mp hown0
  obtain ⟨i0, ei0⟩ := is_v g3
  obtain rfl : w0 = (.int i0) := Option.some.inj ei0
  obtain ⟨i1, ei1⟩ := is_v g5
  obtain rfl : w1 = (.int i1) := Option.some.inj ei1
  obtain ⟨i2, ei2⟩ := is_v g6
  obtain rfl : w2 = (.int i2) := Option.some.inj ei2
  have hs3 := Cond.before_iff.mp (hsets _ (List.mem_of_getElem? (i := 3) rfl))
  have evH := eqv_i (Term.int_eval 127) hs3
  have SH := Sta.start evH (Or.inl (hsets _ (List.mem_of_getElem? (i := 1) rfl)))
  have hs4 := Cond.before_iff.mp (hsets _ (List.mem_of_getElem? (i := 4) rfl))
  obtain ⟨ca, evC⟩ := arr_v hs4
  have SC := Sta.start evC (Or.inr ⟨(W.ww hw 23 rfl), (hsets _ (List.mem_of_getElem? (i := 2) rfl))⟩)
  obtain ⟨cl, AC⟩ := Arr.start evC hs4
  obtain ⟨sz6, v6⟩ := W.lenAt AC evC (Cond.before_iff.mp (hsets _ (List.mem_of_getElem? (i := 6) rfl)))
  have BX : Bxs s ca cl "java/lang/Integer" "I" (256 : Int32) (fun j => .int (j - 128)) := Bxs.start (F := .sub (.index 0) (.int (128 : Int32))) (fun idx => evC) AC sz6 v6 (by decide) (Cond.before_iff.mp (hsets _ (List.mem_of_getElem? (i := 7) rfl))) (fun X j hj hX => eqv_i (by simp [Term.eval, (back32 hj).1]) hX)
  obtain ⟨n, o, h1, h2, h3, _, L, rfl, ⟨rfl, N⟩, hq⟩ := rm0 l s _ hw tables_1 i0 i1 i2 ca cl s.heap s.heap.size (Nat.le_refl _) (Old.start s) SH SC BX p e ha hc hk s m _ below hf ((Spec.applies_iff_loose hf).mp happ).1 ⟨rfl, State.Warmed39.refl s, rfl⟩ trivial
  refine ⟨n, _, h1, h2, h3, hpost _ _ _ _ _ _ ⟨Cond.after_iff.mpr rfl, Cond.after_iff.mpr (eq_i res_at (Term.int_eval (1)) rfl), trivial⟩ ⟨hq.1, hq.2.1, (hq.2.2.sift fun y hy => Or.inr (N y hy)).mono (by decide) (by decide)⟩⟩
theorem main_1_1 : Claimed_1_1 := comes_1 fun _ _ _ _ _ _ h hF => ⟨h.1, hF⟩
theorem main_1_2 : Claimed_1_2 := comes_1 fun _ _ _ _ _ _ h hF => ⟨h.2.1, hF⟩
end Jvm.Pilot.@@N@@
namespace Jvm.Pilot.@@N@@
open Jvm Jvm.ClassFile Sem Op Lib Jvm.Free Jvm.Stand Jvm.Pilot.@@N@@.Jvm.D
/-! MADE BY PROGRAM (witnessworld.py) out of the Statement's table words and the real class files: 17 classes; the members and pool entries that the words name. The judged class is class 1, her method 1. -/
namespace start1
open Jvm.ClassFile
def u (s : String) : CpInfo := .utf8 (stringToUtf16 s)
/-- a pool by its gaps: so many unusable entries, then the entry; so many at the end -/
def gap : Nat → List CpInfo → List CpInfo
  | 0, r => r
  | n + 1, r => .unusable :: gap n r
def poolList (es : List (Nat × CpInfo)) (last : Nat) : List CpInfo := es.foldr (fun e r => gap e.1 (e.2 :: r)) (gap last [])
def pool (es : List (Nat × CpInfo)) (last : Nat) : Array CpInfo := ⟨poolList es last⟩
def fileOf (pool : Array CpInfo) (this : Nat) (attrs : Array Attribute := #[]) (ms : Array MethodInfo := #[]) (fl : Nat := 33) (sup : Nat := 0) (ifs : Array Nat := #[]) (fds : Array FieldInfo := #[]) : ClassFile where
  minorVersion := 0
  majorVersion := 65
  constantPool := pool
  accessFlags := fl
  thisClass := this
  superClass := sup
  interfaces := ifs
  fields := fds
  methods := ms
  attributes := attrs
def plain (name : String) (sup : Option ClassId) : Class where
  name := name
  kind := .ordinary
  loader := none
  accessFlags := 33
  super := sup
  interfaces := #[]
  cf := none
  fields := #[]
  methods := #[]
  instanceTypes := #[]
  staticTypes := #[]
  resolved := #[]
  callSites := []
  init := .initialized
  statics := none
  mirror := none

def pool0 : Array CpInfo := pool [(5, u "<init>"), (0, u "()V"), (1, .class_ 10), (1, u "java/lang/Object")] 113

def k0c0 : Code := { maxStack := 0, maxLocals := 1, code := object_method_1_code, exceptionTable := #[], attributes := #[] }
def k0m0 : Method := { name := "<init>", desc := "()V", sig := { parameters := [], returnType := none }, accessFlags := 1, code := some k0c0 }
/-- java/lang/Object -/
def k0 : Class := { plain "java/lang/Object" none with
  accessFlags := 33
  interfaces := #[]
  cf := some (fileOf pool0 8 #[] #[{ accessFlags := 1, nameIndex := 5, descriptorIndex := 6, attributes := #[] }] 33 0 #[] #[])
  fields := #[]
  methods := #[k0m0]
  instanceTypes := #[]
  staticTypes := #[]
  resolved := Array.replicate 124 none
  statics := none }

def pool1 : Array CpInfo := pool [(2, .class_ 4), (1, u "java/lang/Object"), (0, u "<init>"), (0, u "()V"), (0, .class_ 8), (0, u "com/example/nomina/nomina/clauses/Atom$Filler"), (0, .methodref 7 10), (0, .nameAndType 5 11), (0, u "(IZ)V"), (0, .methodref 13 14), (0, .class_ 15), (0, .nameAndType 16 17), (0, u "java/lang/Integer"), (0, u "valueOf"), (0, u "(I)Ljava/lang/Integer;"), (0, .methodref 7 19), (0, .nameAndType 20 21), (0, u "equals"), (0, u "(Ljava/lang/Object;)Z"), (0, .class_ 23), (0, u "com/example/nomina/nomina/clauses/FillerEqualsPinLaw"), (2, u "law"), (0, u "(III)Z")] 7

def k1m0 : Method := { name := "<init>", desc := "()V", sig := { parameters := [], returnType := none }, accessFlags := 2, code := none }
def k1c1 : Code := { maxStack := 4, maxLocals := 17, code := code, exceptionTable := #[], attributes := #[] }
def k1m1 : Method := { name := "law", desc := "(III)Z", sig := { parameters := [.int, .int, .int], returnType := some .boolean }, accessFlags := 9, code := some k1c1 }
/-- com/example/nomina/nomina/clauses/FillerEqualsPinLaw -/
def k1 : Class := { plain "com/example/nomina/nomina/clauses/FillerEqualsPinLaw" (some 0) with
  accessFlags := 49
  interfaces := #[]
  cf := some (fileOf pool1 22 #[] #[{ accessFlags := 2, nameIndex := 5, descriptorIndex := 6, attributes := #[] }, { accessFlags := 9, nameIndex := 26, descriptorIndex := 27, attributes := #[] }] 49 2 #[] #[])
  fields := #[]
  methods := #[k1m0, k1m1]
  instanceTypes := #[]
  staticTypes := #[]
  resolved := Array.replicate 35 none
  statics := none }

def pool2 : Array CpInfo := pool [(1, .methodref 2 3), (0, .class_ 4), (0, .nameAndType 5 6), (0, u "java/lang/Object"), (0, u "<init>"), (0, u "()V"), (0, .class_ 8), (0, u "java/lang/Record")] 13

def k2c0 : Code := { maxStack := 1, maxLocals := 1, code := jdk_30_method_1_code, exceptionTable := #[], attributes := #[] }
def k2m0 : Method := { name := "<init>", desc := "()V", sig := { parameters := [], returnType := none }, accessFlags := 4, code := some k2c0 }
/-- java/lang/Record -/
def k2 : Class := { plain "java/lang/Record" (some 0) with
  accessFlags := 1057
  interfaces := #[]
  cf := some (fileOf pool2 7 #[] #[{ accessFlags := 4, nameIndex := 5, descriptorIndex := 6, attributes := #[] }] 1057 2 #[] #[])
  fields := #[]
  methods := #[k2m0]
  instanceTypes := #[]
  staticTypes := #[]
  resolved := Array.replicate 22 none
  statics := none }

def pool3 : Array CpInfo := pool [(1, .methodref 2 3), (0, .class_ 4), (0, .nameAndType 5 6), (0, u "java/lang/Record"), (0, u "<init>"), (0, u "()V"), (0, .fieldref 8 9), (0, .class_ 10), (0, .nameAndType 11 12), (0, u "com/example/nomina/nomina/clauses/Atom$Filler"), (0, u "concept"), (0, u "I"), (0, .fieldref 8 14), (0, .nameAndType 15 16), (0, u "negated"), (0, u "Z"), (12, u "(IZ)V"), (2, u "THING"), (0, u "Lcom/example/nomina/nomina/clauses/Atom$Filler;"), (0, u "THING_CONCEPT"), (5, u "equals"), (0, u "(Ljava/lang/Object;)Z"), (8, .class_ 51), (0, u "com/example/nomina/nomina/clauses/Atom")] 20

def k3c0 : Code := { maxStack := 2, maxLocals := 3, code := prog_11_method_1_code, exceptionTable := #[], attributes := #[] }
def k3m0 : Method := { name := "<init>", desc := "(IZ)V", sig := { parameters := [.int, .boolean], returnType := none }, accessFlags := 1, code := some k3c0 }
def k3c1 : Code := { maxStack := 2, maxLocals := 3, code := prog_11_method_2_code, exceptionTable := #[], attributes := #[] }
def k3m1 : Method := { name := "equals", desc := "(Ljava/lang/Object;)Z", sig := { parameters := [(.object "java/lang/Object")], returnType := some .boolean }, accessFlags := 1, code := some k3c1 }
/-- com/example/nomina/nomina/clauses/Atom$Filler -/
def k3 : Class := { plain "com/example/nomina/nomina/clauses/Atom$Filler" (some 2) with
  accessFlags := 49
  interfaces := #[]
  cf := some (fileOf pool3 8 #[.nestHost 50] #[{ accessFlags := 1, nameIndex := 5, descriptorIndex := 29, attributes := #[] }, { accessFlags := 1, nameIndex := 40, descriptorIndex := 41, attributes := #[] }] 49 2 #[] #[{ accessFlags := 18, nameIndex := 11, descriptorIndex := 12, attributes := #[] }, { accessFlags := 18, nameIndex := 15, descriptorIndex := 16, attributes := #[] }, { accessFlags := 25, nameIndex := 34, descriptorIndex := 12, attributes := #[] }, { accessFlags := 25, nameIndex := 32, descriptorIndex := 33, attributes := #[] }])
  fields := #[{ name := "concept", type := .int, accessFlags := 18, slot := 0, constantValue := 0 }, { name := "negated", type := .boolean, accessFlags := 18, slot := 1, constantValue := 0 }, { name := "THING_CONCEPT", type := .int, accessFlags := 25, slot := 0, constantValue := 0 }, { name := "THING", type := (.object "com/example/nomina/nomina/clauses/Atom$Filler"), accessFlags := 25, slot := 1, constantValue := 0 }]
  methods := #[k3m0, k3m1]
  instanceTypes := #[.int, .boolean]
  staticTypes := #[.int, (.object "com/example/nomina/nomina/clauses/Atom$Filler")]
  resolved := Array.replicate 72 none
  statics := none }

def pool4 : Array CpInfo := pool [(1, .class_ 2), (0, u "java/io/Serializable"), (0, .class_ 4), (0, u "java/lang/Object")] 2

/-- java/io/Serializable -/
def k4 : Class := { plain "java/io/Serializable" (some 0) with
  accessFlags := 1537
  interfaces := #[]
  cf := some (fileOf pool4 1 #[] #[] 1537 3 #[] #[])
  fields := #[]
  methods := #[]
  instanceTypes := #[]
  staticTypes := #[]
  resolved := Array.replicate 7 none
  statics := none }

def pool5 : Array CpInfo := pool [(1, .methodref 2 3), (0, .class_ 4), (0, .nameAndType 5 6), (0, u "java/lang/Object"), (0, u "<init>"), (0, u "()V"), (1, .class_ 10), (1, u "java/lang/Number"), (2, .class_ 14), (0, u "java/io/Serializable"), (0, u "serialVersionUID"), (0, u "J")] 20

def k5c0 : Code := { maxStack := 1, maxLocals := 1, code := jdk_18_method_1_code, exceptionTable := #[], attributes := #[] }
def k5m0 : Method := { name := "<init>", desc := "()V", sig := { parameters := [], returnType := none }, accessFlags := 1, code := some k5c0 }
/-- java/lang/Number -/
def k5 : Class := { plain "java/lang/Number" (some 0) with
  accessFlags := 1057
  interfaces := #[4]
  cf := some (fileOf pool5 8 #[] #[{ accessFlags := 1, nameIndex := 5, descriptorIndex := 6, attributes := #[] }] 1057 2 #[13] #[{ accessFlags := 26, nameIndex := 15, descriptorIndex := 16, attributes := #[] }])
  fields := #[{ name := "serialVersionUID", type := .long, accessFlags := 26, slot := 0, constantValue := 0 }]
  methods := #[k5m0]
  instanceTypes := #[]
  staticTypes := #[.long]
  resolved := Array.replicate 37 none
  statics := none }

def pool6 : Array CpInfo := pool [(1, .class_ 2), (0, u "java/lang/Comparable"), (0, .class_ 4), (0, u "java/lang/Object")] 7

/-- java/lang/Comparable -/
def k6 : Class := { plain "java/lang/Comparable" (some 0) with
  accessFlags := 1537
  interfaces := #[]
  cf := some (fileOf pool6 1 #[] #[] 1537 3 #[] #[])
  fields := #[]
  methods := #[]
  instanceTypes := #[]
  staticTypes := #[]
  resolved := Array.replicate 12 none
  statics := none }

def pool7 : Array CpInfo := pool [(1, .class_ 2), (0, u "java/lang/constant/Constable"), (0, .class_ 4), (0, u "java/lang/Object")] 6

/-- java/lang/constant/Constable -/
def k7 : Class := { plain "java/lang/constant/Constable" (some 0) with
  accessFlags := 1537
  interfaces := #[]
  cf := some (fileOf pool7 1 #[] #[] 1537 3 #[] #[])
  fields := #[]
  methods := #[]
  instanceTypes := #[]
  staticTypes := #[]
  resolved := Array.replicate 11 none
  statics := none }

def pool8 : Array CpInfo := pool [(1, .class_ 2), (0, u "java/lang/constant/ConstantDesc"), (0, .class_ 4), (0, u "java/lang/Object")] 32

/-- java/lang/constant/ConstantDesc -/
def k8 : Class := { plain "java/lang/constant/ConstantDesc" (some 0) with
  accessFlags := 1537
  interfaces := #[]
  cf := some (fileOf pool8 1 #[] #[] 1537 3 #[] #[])
  fields := #[]
  methods := #[]
  instanceTypes := #[]
  staticTypes := #[]
  resolved := Array.replicate 37 none
  statics := none }

def pool9 : Array CpInfo := pool [(1, .class_ 2), (0, u "java/lang/Integer"), (16, u "digits"), (0, u "[C"), (46, u "<init>"), (17, u "DigitOnes"), (0, u "[B"), (2, u "DigitTens"), (10, .nameAndType 67 101), (0, u "()V"), (85, u "valueOf"), (0, u "(I)Ljava/lang/Integer;"), (0, .class_ 190), (0, u "java/lang/Integer$IntegerCache"), (0, .fieldref 189 192), (0, .nameAndType 193 194), (0, u "high"), (0, u "I"), (0, .fieldref 189 196), (0, .nameAndType 197 198), (0, u "cache"), (0, u "[Ljava/lang/Integer;"), (0, .methodref 1 200), (0, .nameAndType 67 201), (0, u "(I)V"), (0, .methodref 203 100), (0, .class_ 204), (0, u "java/lang/Number"), (0, .fieldref 1 206), (0, .nameAndType 207 194), (0, u "value"), (94, u "TYPE"), (0, u "Ljava/lang/Class;"), (0, .class_ 305), (0, u "java/lang/Comparable"), (0, .class_ 307), (0, u "java/lang/constant/Constable"), (0, .class_ 309), (0, u "java/lang/constant/ConstantDesc"), (0, u "MIN_VALUE"), (1, u "MAX_VALUE"), (3, u "SIZE"), (1, u "BYTES"), (1, u "serialVersionUID"), (0, u "J")] 131

def k9c0 : Code := { maxStack := 3, maxLocals := 1, code := jdk_33_method_22_code, exceptionTable := #[], attributes := #[] }
def k9m0 : Method := { name := "valueOf", desc := "(I)Ljava/lang/Integer;", sig := { parameters := [.int], returnType := some (.object "java/lang/Integer") }, accessFlags := 9, code := some k9c0 }
def k9c1 : Code := { maxStack := 2, maxLocals := 2, code := jdk_33_method_23_code, exceptionTable := #[], attributes := #[] }
def k9m1 : Method := { name := "<init>", desc := "(I)V", sig := { parameters := [.int], returnType := none }, accessFlags := 1, code := some k9c1 }
/-- java/lang/Integer -/
def k9 : Class := { plain "java/lang/Integer" (some 5) with
  accessFlags := 49
  interfaces := #[6, 7, 8]
  cf := some (fileOf pool9 1 #[.nestMembers #[189]] #[{ accessFlags := 9, nameIndex := 187, descriptorIndex := 188, attributes := #[] }, { accessFlags := 1, nameIndex := 67, descriptorIndex := 201, attributes := #[] }] 49 203 #[304, 306, 308] #[{ accessFlags := 25, nameIndex := 310, descriptorIndex := 194, attributes := #[] }, { accessFlags := 25, nameIndex := 312, descriptorIndex := 194, attributes := #[] }, { accessFlags := 25, nameIndex := 302, descriptorIndex := 303, attributes := #[] }, { accessFlags := 24, nameIndex := 19, descriptorIndex := 20, attributes := #[] }, { accessFlags := 24, nameIndex := 89, descriptorIndex := 86, attributes := #[] }, { accessFlags := 24, nameIndex := 85, descriptorIndex := 86, attributes := #[] }, { accessFlags := 18, nameIndex := 207, descriptorIndex := 194, attributes := #[] }, { accessFlags := 25, nameIndex := 316, descriptorIndex := 194, attributes := #[] }, { accessFlags := 25, nameIndex := 318, descriptorIndex := 194, attributes := #[] }, { accessFlags := 26, nameIndex := 320, descriptorIndex := 321, attributes := #[] }])
  fields := #[{ name := "MIN_VALUE", type := .int, accessFlags := 25, slot := 0, constantValue := 0 }, { name := "MAX_VALUE", type := .int, accessFlags := 25, slot := 1, constantValue := 0 }, { name := "TYPE", type := (.object "java/lang/Class"), accessFlags := 25, slot := 2, constantValue := 0 }, { name := "digits", type := (.array .char), accessFlags := 24, slot := 3, constantValue := 0 }, { name := "DigitTens", type := (.array .byte), accessFlags := 24, slot := 4, constantValue := 0 }, { name := "DigitOnes", type := (.array .byte), accessFlags := 24, slot := 5, constantValue := 0 }, { name := "value", type := .int, accessFlags := 18, slot := 0, constantValue := 0 }, { name := "SIZE", type := .int, accessFlags := 25, slot := 6, constantValue := 0 }, { name := "BYTES", type := .int, accessFlags := 25, slot := 7, constantValue := 0 }, { name := "serialVersionUID", type := .long, accessFlags := 26, slot := 8, constantValue := 0 }]
  methods := #[k9m0, k9m1]
  instanceTypes := #[.int]
  staticTypes := #[.int, .int, (.object "java/lang/Class"), (.array .char), (.array .byte), (.array .byte), .int, .int, .long]
  resolved := Array.replicate 453 none
  statics := none }

def pool10 : Array CpInfo := pool [(2, .class_ 4), (1, u "java/lang/Object"), (0, u "<init>"), (0, u "()V"), (0, .class_ 8), (0, u "java/lang/Integer"), (7, .class_ 18), (1, u "java/lang/Integer$IntegerCache"), (0, u "$assertionsDisabled"), (0, u "Z"), (26, u "high"), (0, u "I"), (8, u "archivedCache"), (0, u "[Ljava/lang/Integer;"), (12, u "cache"), (0, u "low")] 27

def k10m0 : Method := { name := "<init>", desc := "()V", sig := { parameters := [], returnType := none }, accessFlags := 2, code := none }
/-- java/lang/Integer$IntegerCache -/
def k10 : Class := { plain "java/lang/Integer$IntegerCache" (some 0) with
  accessFlags := 48
  interfaces := #[]
  cf := some (fileOf pool10 16 #[.nestHost 7] #[{ accessFlags := 2, nameIndex := 5, descriptorIndex := 6, attributes := #[] }] 48 2 #[] #[{ accessFlags := 24, nameIndex := 72, descriptorIndex := 48, attributes := #[] }, { accessFlags := 24, nameIndex := 47, descriptorIndex := 48, attributes := #[] }, { accessFlags := 24, nameIndex := 71, descriptorIndex := 58, attributes := #[] }, { accessFlags := 8, nameIndex := 57, descriptorIndex := 58, attributes := #[] }, { accessFlags := 4120, nameIndex := 19, descriptorIndex := 20, attributes := #[] }])
  fields := #[{ name := "low", type := .int, accessFlags := 24, slot := 0, constantValue := 0 }, { name := "high", type := .int, accessFlags := 24, slot := 1, constantValue := 0 }, { name := "cache", type := (.array (.object "java/lang/Integer")), accessFlags := 24, slot := 2, constantValue := 0 }, { name := "archivedCache", type := (.array (.object "java/lang/Integer")), accessFlags := 8, slot := 3, constantValue := 0 }, { name := "$assertionsDisabled", type := .boolean, accessFlags := 4120, slot := 4, constantValue := 0 }]
  methods := #[k10m0]
  instanceTypes := #[]
  staticTypes := #[.int, .int, (.array (.object "java/lang/Integer")), (.array (.object "java/lang/Integer")), .boolean]
  resolved := Array.replicate 100 none
  statics := some 0 }

def pool11 : Array CpInfo := pool [(1, u "java/lang/Cloneable"), (0, .class_ 1), (0, u "java/lang/Object"), (0, .class_ 3)] 3

/-- java/lang/Cloneable -/
def k11 : Class := { plain "java/lang/Cloneable" (some 0) with
  accessFlags := 1537
  interfaces := #[]
  cf := some (fileOf pool11 2 #[] #[] 1537 4 #[] #[])
  fields := #[]
  methods := #[]
  instanceTypes := #[]
  staticTypes := #[]
  resolved := Array.replicate 8 none
  statics := none }

/-- the primitive byte -/
def k12 : Class := { plain "byte" none with kind := .primitive 'B', accessFlags := 0x411 }
/-- [B -/
def k13 : Class := { plain "[B" (some 0) with kind := .array 12 .byte, interfaces := #[11, 4], accessFlags := 1041 }

/-- the primitive int -/
def k14 : Class := { plain "int" none with kind := .primitive 'I', accessFlags := 0x411 }
/-- [I -/
def k15 : Class := { plain "[I" (some 0) with kind := .array 14 .int, interfaces := #[11, 4], accessFlags := 1041 }

/-- [Ljava/lang/Integer; -/
def k16 : Class := { plain "[Ljava/lang/Integer;" (some 0) with kind := .array 9 (.object "java/lang/Integer"), interfaces := #[11, 4], accessFlags := 1041 }

def heap : Heap := #[{ cls := 10, slots := #[.int 0, .int 127, .ref 1, .null, .int 0], vm := .statics 10 },
  { cls := 16, slots := #[.ref 2, .ref 3, .ref 4, .ref 5, .ref 6, .ref 7, .ref 8, .ref 9, .ref 10, .ref 11, .ref 12, .ref 13, .ref 14, .ref 15, .ref 16, .ref 17, .ref 18, .ref 19, .ref 20, .ref 21, .ref 22, .ref 23, .ref 24, .ref 25, .ref 26, .ref 27, .ref 28, .ref 29, .ref 30, .ref 31, .ref 32, .ref 33, .ref 34, .ref 35, .ref 36, .ref 37, .ref 38, .ref 39, .ref 40, .ref 41, .ref 42, .ref 43, .ref 44, .ref 45, .ref 46, .ref 47, .ref 48, .ref 49, .ref 50, .ref 51, .ref 52, .ref 53, .ref 54, .ref 55, .ref 56, .ref 57, .ref 58, .ref 59, .ref 60, .ref 61, .ref 62, .ref 63, .ref 64, .ref 65, .ref 66, .ref 67, .ref 68, .ref 69, .ref 70, .ref 71, .ref 72, .ref 73, .ref 74, .ref 75, .ref 76, .ref 77, .ref 78, .ref 79, .ref 80, .ref 81, .ref 82, .ref 83, .ref 84, .ref 85, .ref 86, .ref 87, .ref 88, .ref 89, .ref 90, .ref 91, .ref 92, .ref 93, .ref 94, .ref 95, .ref 96, .ref 97, .ref 98, .ref 99, .ref 100, .ref 101, .ref 102, .ref 103, .ref 104, .ref 105, .ref 106, .ref 107, .ref 108, .ref 109, .ref 110, .ref 111, .ref 112, .ref 113, .ref 114, .ref 115, .ref 116, .ref 117, .ref 118, .ref 119, .ref 120, .ref 121, .ref 122, .ref 123, .ref 124, .ref 125, .ref 126, .ref 127, .ref 128, .ref 129, .ref 130, .ref 131, .ref 132, .ref 133, .ref 134, .ref 135, .ref 136, .ref 137, .ref 138, .ref 139, .ref 140, .ref 141, .ref 142, .ref 143, .ref 144, .ref 145, .ref 146, .ref 147, .ref 148, .ref 149, .ref 150, .ref 151, .ref 152, .ref 153, .ref 154, .ref 155, .ref 156, .ref 157, .ref 158, .ref 159, .ref 160, .ref 161, .ref 162, .ref 163, .ref 164, .ref 165, .ref 166, .ref 167, .ref 168, .ref 169, .ref 170, .ref 171, .ref 172, .ref 173, .ref 174, .ref 175, .ref 176, .ref 177, .ref 178, .ref 179, .ref 180, .ref 181, .ref 182, .ref 183, .ref 184, .ref 185, .ref 186, .ref 187, .ref 188, .ref 189, .ref 190, .ref 191, .ref 192, .ref 193, .ref 194, .ref 195, .ref 196, .ref 197, .ref 198, .ref 199, .ref 200, .ref 201, .ref 202, .ref 203, .ref 204, .ref 205, .ref 206, .ref 207, .ref 208, .ref 209, .ref 210, .ref 211, .ref 212, .ref 213, .ref 214, .ref 215, .ref 216, .ref 217, .ref 218, .ref 219, .ref 220, .ref 221, .ref 222, .ref 223, .ref 224, .ref 225, .ref 226, .ref 227, .ref 228, .ref 229, .ref 230, .ref 231, .ref 232, .ref 233, .ref 234, .ref 235, .ref 236, .ref 237, .ref 238, .ref 239, .ref 240, .ref 241, .ref 242, .ref 243, .ref 244, .ref 245, .ref 246, .ref 247, .ref 248, .ref 249, .ref 250, .ref 251, .ref 252, .ref 253, .ref 254, .ref 255, .ref 256, .ref 257], vm := .none },
  { cls := 9, slots := #[.int (-128)], vm := .none },
  { cls := 9, slots := #[.int (-127)], vm := .none },
  { cls := 9, slots := #[.int (-126)], vm := .none },
  { cls := 9, slots := #[.int (-125)], vm := .none },
  { cls := 9, slots := #[.int (-124)], vm := .none },
  { cls := 9, slots := #[.int (-123)], vm := .none },
  { cls := 9, slots := #[.int (-122)], vm := .none },
  { cls := 9, slots := #[.int (-121)], vm := .none },
  { cls := 9, slots := #[.int (-120)], vm := .none },
  { cls := 9, slots := #[.int (-119)], vm := .none },
  { cls := 9, slots := #[.int (-118)], vm := .none },
  { cls := 9, slots := #[.int (-117)], vm := .none },
  { cls := 9, slots := #[.int (-116)], vm := .none },
  { cls := 9, slots := #[.int (-115)], vm := .none },
  { cls := 9, slots := #[.int (-114)], vm := .none },
  { cls := 9, slots := #[.int (-113)], vm := .none },
  { cls := 9, slots := #[.int (-112)], vm := .none },
  { cls := 9, slots := #[.int (-111)], vm := .none },
  { cls := 9, slots := #[.int (-110)], vm := .none },
  { cls := 9, slots := #[.int (-109)], vm := .none },
  { cls := 9, slots := #[.int (-108)], vm := .none },
  { cls := 9, slots := #[.int (-107)], vm := .none },
  { cls := 9, slots := #[.int (-106)], vm := .none },
  { cls := 9, slots := #[.int (-105)], vm := .none },
  { cls := 9, slots := #[.int (-104)], vm := .none },
  { cls := 9, slots := #[.int (-103)], vm := .none },
  { cls := 9, slots := #[.int (-102)], vm := .none },
  { cls := 9, slots := #[.int (-101)], vm := .none },
  { cls := 9, slots := #[.int (-100)], vm := .none },
  { cls := 9, slots := #[.int (-99)], vm := .none },
  { cls := 9, slots := #[.int (-98)], vm := .none },
  { cls := 9, slots := #[.int (-97)], vm := .none },
  { cls := 9, slots := #[.int (-96)], vm := .none },
  { cls := 9, slots := #[.int (-95)], vm := .none },
  { cls := 9, slots := #[.int (-94)], vm := .none },
  { cls := 9, slots := #[.int (-93)], vm := .none },
  { cls := 9, slots := #[.int (-92)], vm := .none },
  { cls := 9, slots := #[.int (-91)], vm := .none },
  { cls := 9, slots := #[.int (-90)], vm := .none },
  { cls := 9, slots := #[.int (-89)], vm := .none },
  { cls := 9, slots := #[.int (-88)], vm := .none },
  { cls := 9, slots := #[.int (-87)], vm := .none },
  { cls := 9, slots := #[.int (-86)], vm := .none },
  { cls := 9, slots := #[.int (-85)], vm := .none },
  { cls := 9, slots := #[.int (-84)], vm := .none },
  { cls := 9, slots := #[.int (-83)], vm := .none },
  { cls := 9, slots := #[.int (-82)], vm := .none },
  { cls := 9, slots := #[.int (-81)], vm := .none },
  { cls := 9, slots := #[.int (-80)], vm := .none },
  { cls := 9, slots := #[.int (-79)], vm := .none },
  { cls := 9, slots := #[.int (-78)], vm := .none },
  { cls := 9, slots := #[.int (-77)], vm := .none },
  { cls := 9, slots := #[.int (-76)], vm := .none },
  { cls := 9, slots := #[.int (-75)], vm := .none },
  { cls := 9, slots := #[.int (-74)], vm := .none },
  { cls := 9, slots := #[.int (-73)], vm := .none },
  { cls := 9, slots := #[.int (-72)], vm := .none },
  { cls := 9, slots := #[.int (-71)], vm := .none },
  { cls := 9, slots := #[.int (-70)], vm := .none },
  { cls := 9, slots := #[.int (-69)], vm := .none },
  { cls := 9, slots := #[.int (-68)], vm := .none },
  { cls := 9, slots := #[.int (-67)], vm := .none },
  { cls := 9, slots := #[.int (-66)], vm := .none },
  { cls := 9, slots := #[.int (-65)], vm := .none },
  { cls := 9, slots := #[.int (-64)], vm := .none },
  { cls := 9, slots := #[.int (-63)], vm := .none },
  { cls := 9, slots := #[.int (-62)], vm := .none },
  { cls := 9, slots := #[.int (-61)], vm := .none },
  { cls := 9, slots := #[.int (-60)], vm := .none },
  { cls := 9, slots := #[.int (-59)], vm := .none },
  { cls := 9, slots := #[.int (-58)], vm := .none },
  { cls := 9, slots := #[.int (-57)], vm := .none },
  { cls := 9, slots := #[.int (-56)], vm := .none },
  { cls := 9, slots := #[.int (-55)], vm := .none },
  { cls := 9, slots := #[.int (-54)], vm := .none },
  { cls := 9, slots := #[.int (-53)], vm := .none },
  { cls := 9, slots := #[.int (-52)], vm := .none },
  { cls := 9, slots := #[.int (-51)], vm := .none },
  { cls := 9, slots := #[.int (-50)], vm := .none },
  { cls := 9, slots := #[.int (-49)], vm := .none },
  { cls := 9, slots := #[.int (-48)], vm := .none },
  { cls := 9, slots := #[.int (-47)], vm := .none },
  { cls := 9, slots := #[.int (-46)], vm := .none },
  { cls := 9, slots := #[.int (-45)], vm := .none },
  { cls := 9, slots := #[.int (-44)], vm := .none },
  { cls := 9, slots := #[.int (-43)], vm := .none },
  { cls := 9, slots := #[.int (-42)], vm := .none },
  { cls := 9, slots := #[.int (-41)], vm := .none },
  { cls := 9, slots := #[.int (-40)], vm := .none },
  { cls := 9, slots := #[.int (-39)], vm := .none },
  { cls := 9, slots := #[.int (-38)], vm := .none },
  { cls := 9, slots := #[.int (-37)], vm := .none },
  { cls := 9, slots := #[.int (-36)], vm := .none },
  { cls := 9, slots := #[.int (-35)], vm := .none },
  { cls := 9, slots := #[.int (-34)], vm := .none },
  { cls := 9, slots := #[.int (-33)], vm := .none },
  { cls := 9, slots := #[.int (-32)], vm := .none },
  { cls := 9, slots := #[.int (-31)], vm := .none },
  { cls := 9, slots := #[.int (-30)], vm := .none },
  { cls := 9, slots := #[.int (-29)], vm := .none },
  { cls := 9, slots := #[.int (-28)], vm := .none },
  { cls := 9, slots := #[.int (-27)], vm := .none },
  { cls := 9, slots := #[.int (-26)], vm := .none },
  { cls := 9, slots := #[.int (-25)], vm := .none },
  { cls := 9, slots := #[.int (-24)], vm := .none },
  { cls := 9, slots := #[.int (-23)], vm := .none },
  { cls := 9, slots := #[.int (-22)], vm := .none },
  { cls := 9, slots := #[.int (-21)], vm := .none },
  { cls := 9, slots := #[.int (-20)], vm := .none },
  { cls := 9, slots := #[.int (-19)], vm := .none },
  { cls := 9, slots := #[.int (-18)], vm := .none },
  { cls := 9, slots := #[.int (-17)], vm := .none },
  { cls := 9, slots := #[.int (-16)], vm := .none },
  { cls := 9, slots := #[.int (-15)], vm := .none },
  { cls := 9, slots := #[.int (-14)], vm := .none },
  { cls := 9, slots := #[.int (-13)], vm := .none },
  { cls := 9, slots := #[.int (-12)], vm := .none },
  { cls := 9, slots := #[.int (-11)], vm := .none },
  { cls := 9, slots := #[.int (-10)], vm := .none },
  { cls := 9, slots := #[.int (-9)], vm := .none },
  { cls := 9, slots := #[.int (-8)], vm := .none },
  { cls := 9, slots := #[.int (-7)], vm := .none },
  { cls := 9, slots := #[.int (-6)], vm := .none },
  { cls := 9, slots := #[.int (-5)], vm := .none },
  { cls := 9, slots := #[.int (-4)], vm := .none },
  { cls := 9, slots := #[.int (-3)], vm := .none },
  { cls := 9, slots := #[.int (-2)], vm := .none },
  { cls := 9, slots := #[.int (-1)], vm := .none },
  { cls := 9, slots := #[.int 0], vm := .none },
  { cls := 9, slots := #[.int 1], vm := .none },
  { cls := 9, slots := #[.int 2], vm := .none },
  { cls := 9, slots := #[.int 3], vm := .none },
  { cls := 9, slots := #[.int 4], vm := .none },
  { cls := 9, slots := #[.int 5], vm := .none },
  { cls := 9, slots := #[.int 6], vm := .none },
  { cls := 9, slots := #[.int 7], vm := .none },
  { cls := 9, slots := #[.int 8], vm := .none },
  { cls := 9, slots := #[.int 9], vm := .none },
  { cls := 9, slots := #[.int 10], vm := .none },
  { cls := 9, slots := #[.int 11], vm := .none },
  { cls := 9, slots := #[.int 12], vm := .none },
  { cls := 9, slots := #[.int 13], vm := .none },
  { cls := 9, slots := #[.int 14], vm := .none },
  { cls := 9, slots := #[.int 15], vm := .none },
  { cls := 9, slots := #[.int 16], vm := .none },
  { cls := 9, slots := #[.int 17], vm := .none },
  { cls := 9, slots := #[.int 18], vm := .none },
  { cls := 9, slots := #[.int 19], vm := .none },
  { cls := 9, slots := #[.int 20], vm := .none },
  { cls := 9, slots := #[.int 21], vm := .none },
  { cls := 9, slots := #[.int 22], vm := .none },
  { cls := 9, slots := #[.int 23], vm := .none },
  { cls := 9, slots := #[.int 24], vm := .none },
  { cls := 9, slots := #[.int 25], vm := .none },
  { cls := 9, slots := #[.int 26], vm := .none },
  { cls := 9, slots := #[.int 27], vm := .none },
  { cls := 9, slots := #[.int 28], vm := .none },
  { cls := 9, slots := #[.int 29], vm := .none },
  { cls := 9, slots := #[.int 30], vm := .none },
  { cls := 9, slots := #[.int 31], vm := .none },
  { cls := 9, slots := #[.int 32], vm := .none },
  { cls := 9, slots := #[.int 33], vm := .none },
  { cls := 9, slots := #[.int 34], vm := .none },
  { cls := 9, slots := #[.int 35], vm := .none },
  { cls := 9, slots := #[.int 36], vm := .none },
  { cls := 9, slots := #[.int 37], vm := .none },
  { cls := 9, slots := #[.int 38], vm := .none },
  { cls := 9, slots := #[.int 39], vm := .none },
  { cls := 9, slots := #[.int 40], vm := .none },
  { cls := 9, slots := #[.int 41], vm := .none },
  { cls := 9, slots := #[.int 42], vm := .none },
  { cls := 9, slots := #[.int 43], vm := .none },
  { cls := 9, slots := #[.int 44], vm := .none },
  { cls := 9, slots := #[.int 45], vm := .none },
  { cls := 9, slots := #[.int 46], vm := .none },
  { cls := 9, slots := #[.int 47], vm := .none },
  { cls := 9, slots := #[.int 48], vm := .none },
  { cls := 9, slots := #[.int 49], vm := .none },
  { cls := 9, slots := #[.int 50], vm := .none },
  { cls := 9, slots := #[.int 51], vm := .none },
  { cls := 9, slots := #[.int 52], vm := .none },
  { cls := 9, slots := #[.int 53], vm := .none },
  { cls := 9, slots := #[.int 54], vm := .none },
  { cls := 9, slots := #[.int 55], vm := .none },
  { cls := 9, slots := #[.int 56], vm := .none },
  { cls := 9, slots := #[.int 57], vm := .none },
  { cls := 9, slots := #[.int 58], vm := .none },
  { cls := 9, slots := #[.int 59], vm := .none },
  { cls := 9, slots := #[.int 60], vm := .none },
  { cls := 9, slots := #[.int 61], vm := .none },
  { cls := 9, slots := #[.int 62], vm := .none },
  { cls := 9, slots := #[.int 63], vm := .none },
  { cls := 9, slots := #[.int 64], vm := .none },
  { cls := 9, slots := #[.int 65], vm := .none },
  { cls := 9, slots := #[.int 66], vm := .none },
  { cls := 9, slots := #[.int 67], vm := .none },
  { cls := 9, slots := #[.int 68], vm := .none },
  { cls := 9, slots := #[.int 69], vm := .none },
  { cls := 9, slots := #[.int 70], vm := .none },
  { cls := 9, slots := #[.int 71], vm := .none },
  { cls := 9, slots := #[.int 72], vm := .none },
  { cls := 9, slots := #[.int 73], vm := .none },
  { cls := 9, slots := #[.int 74], vm := .none },
  { cls := 9, slots := #[.int 75], vm := .none },
  { cls := 9, slots := #[.int 76], vm := .none },
  { cls := 9, slots := #[.int 77], vm := .none },
  { cls := 9, slots := #[.int 78], vm := .none },
  { cls := 9, slots := #[.int 79], vm := .none },
  { cls := 9, slots := #[.int 80], vm := .none },
  { cls := 9, slots := #[.int 81], vm := .none },
  { cls := 9, slots := #[.int 82], vm := .none },
  { cls := 9, slots := #[.int 83], vm := .none },
  { cls := 9, slots := #[.int 84], vm := .none },
  { cls := 9, slots := #[.int 85], vm := .none },
  { cls := 9, slots := #[.int 86], vm := .none },
  { cls := 9, slots := #[.int 87], vm := .none },
  { cls := 9, slots := #[.int 88], vm := .none },
  { cls := 9, slots := #[.int 89], vm := .none },
  { cls := 9, slots := #[.int 90], vm := .none },
  { cls := 9, slots := #[.int 91], vm := .none },
  { cls := 9, slots := #[.int 92], vm := .none },
  { cls := 9, slots := #[.int 93], vm := .none },
  { cls := 9, slots := #[.int 94], vm := .none },
  { cls := 9, slots := #[.int 95], vm := .none },
  { cls := 9, slots := #[.int 96], vm := .none },
  { cls := 9, slots := #[.int 97], vm := .none },
  { cls := 9, slots := #[.int 98], vm := .none },
  { cls := 9, slots := #[.int 99], vm := .none },
  { cls := 9, slots := #[.int 100], vm := .none },
  { cls := 9, slots := #[.int 101], vm := .none },
  { cls := 9, slots := #[.int 102], vm := .none },
  { cls := 9, slots := #[.int 103], vm := .none },
  { cls := 9, slots := #[.int 104], vm := .none },
  { cls := 9, slots := #[.int 105], vm := .none },
  { cls := 9, slots := #[.int 106], vm := .none },
  { cls := 9, slots := #[.int 107], vm := .none },
  { cls := 9, slots := #[.int 108], vm := .none },
  { cls := 9, slots := #[.int 109], vm := .none },
  { cls := 9, slots := #[.int 110], vm := .none },
  { cls := 9, slots := #[.int 111], vm := .none },
  { cls := 9, slots := #[.int 112], vm := .none },
  { cls := 9, slots := #[.int 113], vm := .none },
  { cls := 9, slots := #[.int 114], vm := .none },
  { cls := 9, slots := #[.int 115], vm := .none },
  { cls := 9, slots := #[.int 116], vm := .none },
  { cls := 9, slots := #[.int 117], vm := .none },
  { cls := 9, slots := #[.int 118], vm := .none },
  { cls := 9, slots := #[.int 119], vm := .none },
  { cls := 9, slots := #[.int 120], vm := .none },
  { cls := 9, slots := #[.int 121], vm := .none },
  { cls := 9, slots := #[.int 122], vm := .none },
  { cls := 9, slots := #[.int 123], vm := .none },
  { cls := 9, slots := #[.int 124], vm := .none },
  { cls := 9, slots := #[.int 125], vm := .none },
  { cls := 9, slots := #[.int 126], vm := .none },
  { cls := 9, slots := #[.int 127], vm := .none }]
def classes : Array Class := #[k0, k1, k2, k3, k4, k5, k6, k7, k8, k9, k10, k11, k12, k13, k14, k15, k16]
def interned : List (Array UInt16 × Addr) := []
def slotsUsed : Nat := 517
def theMethod : MethodId := ⟨1, 1⟩
def args0 : Array Value := #[.int 5, .int 6, .int 7]
def aboutOver (below : List Frame) : State where
  vm := { classes := classes, interned := interned.toArray }
  heap := heap
  slotsUsed := slotsUsed
  threads := #[{ frames := .invoking theMethod args0 :: below }]
def below0 : List Frame := [.native { method := ⟨0, 0⟩, args := #[] }]
def about1 : State := aboutOver below0
def p0 : Program := .bare "" "" ""
def e0 : Env := launch0.env 0 0 0
theorem w_frames : about1.frames = Frame.invoking theMethod args0 :: below0 := rfl
set_option maxRecDepth 65536 in
theorem w_args : argsFit about1.vm theMethod args0 = true := by decide +kernel
set_option maxRecDepth 65536 in
theorem w_heap : heapFits about1 = true := by decide +kernel
set_option maxRecDepth 65536 in
theorem w_runnable : about1.curStatus? = some .runnable := by decide +kernel
set_option maxRecDepth 65536 in
theorem w_alone : about1.alone = true := by decide +kernel
set_option maxRecDepth 65536 in
theorem w_named : about1.methodNamed? x = some theMethod := by decide +kernel
set_option maxRecDepth 65536 in
theorem w_hears : about1.hears theMethod below0 = true := by decide +kernel
set_option maxRecDepth 65536 in
theorem w_ripe : about1.ripe theMethod args0 below0 = true := by decide +kernel
theorem w_running : about1.status = .running := rfl
set_option maxRecDepth 65536 in
theorem w_room : about1.hasRoom e0.platform room_1 = true :=
  launch0.hasRoom_least _ room_1 (by decide +kernel) (by decide +kernel) (by decide +kernel) (by decide +kernel) (by decide +kernel) (by decide +kernel)
theorem allAtoms_all (ts : List Jvm.Cond) (a : Array Jvm.Value) (st : Jvm.State) : (allAtoms ts).before a st = ts.all (fun c => c.before a st) := by
  induction ts with
  | nil => rfl
  | cons c t ih =>
    show (Jvm.Cond.and c (allAtoms t)).before a st = _
    rw [Jvm.Cond.before_and, ih, List.all_cons]
def words1 : List Jvm.Cond := Jvm.Cond.code x code maxLocals ret :: tables_1
/-- a 'code' word, met by the world's own term for the bytes: nothing is compared byte by byte -/
theorem code_word {y : MethodName} {bytes : ByteArray} {mx : Nat} {rt : Option FieldType} {a : Array Value} {s : State} {m : MethodId} {meth : Method} {c : Code} (h1 : s.methodNamed? y = some m) (h2 : s.vm.method? m = some meth) (h3 : meth.code = some c) (h4 : c.code = bytes)
    (h5 : (c.maxLocals == mx && c.exceptionTable.isEmpty && decide (c.maxStack ≤ mostOperands) && decide (meth.sig.returnType = rt) && !meth.locks && decide (parseMethodDescriptor y.desc = some meth.sig)) = true) : (Jvm.Cond.code y bytes mx rt).before a s = true := by
  simp only [Bool.and_eq_true, beq_iff_eq, Bool.not_eq_true', decide_eq_true_eq] at h5
  obtain ⟨⟨⟨⟨⟨g1, g2⟩, g3⟩, g4⟩, g5⟩, g6⟩ := h5
  simp [Cond.before, Cond.holds, Cond.value, h1, h2, h3, h4, g1, g2, g3, g4, g5, g6]
def isCode : Jvm.Cond → Bool
  | .code _ _ _ _ => true
  | _ => false
theorem all_split {L : List Jvm.Cond} {P : Jvm.Cond → Bool} (h1 : L.all (fun c => isCode c || P c) = true) (h2 : ∀ c ∈ L.filter isCode, P c = true) : L.all P = true := by
  refine List.all_eq_true.mpr fun c hc => ?_
  have h := List.all_eq_true.mp h1 c hc
  rcases Bool.eq_false_or_eq_true (isCode c) with hi | hi
  · exact h2 c (List.mem_filter.mpr ⟨hc, hi⟩)
  · simpa [hi] using h
set_option maxRecDepth 65536 in
theorem w_c0 : (Jvm.Cond.code x code maxLocals ret).before args0 about1 = true := code_word (m := ⟨1, 1⟩) (meth := k1m1) (c := k1c1) (by decide +kernel) rfl rfl rfl (by decide +kernel)
set_option maxRecDepth 65536 in
theorem w_c1 : (Jvm.Cond.code ({ cls := "com/example/nomina/nomina/clauses/Atom$Filler", name := "<init>", desc := "(IZ)V" } : Jvm.MethodName) prog_11_method_1_code (3 : Nat) (Option.none : Option Jvm.ClassFile.FieldType)).before args0 about1 = true := code_word (m := ⟨3, 0⟩) (meth := k3m0) (c := k3c0) (by decide +kernel) rfl rfl rfl (by decide +kernel)
set_option maxRecDepth 65536 in
theorem w_c2 : (Jvm.Cond.code ({ cls := "java/lang/Record", name := "<init>", desc := "()V" } : Jvm.MethodName) jdk_30_method_1_code (1 : Nat) (Option.none : Option Jvm.ClassFile.FieldType)).before args0 about1 = true := code_word (m := ⟨2, 0⟩) (meth := k2m0) (c := k2c0) (by decide +kernel) rfl rfl rfl (by decide +kernel)
set_option maxRecDepth 65536 in
theorem w_c3 : (Jvm.Cond.code ({ cls := "java/lang/Object", name := "<init>", desc := "()V" } : Jvm.MethodName) object_method_1_code (1 : Nat) (Option.none : Option Jvm.ClassFile.FieldType)).before args0 about1 = true := code_word (m := ⟨0, 0⟩) (meth := k0m0) (c := k0c0) (by decide +kernel) rfl rfl rfl (by decide +kernel)
set_option maxRecDepth 65536 in
theorem w_c4 : (Jvm.Cond.code ({ cls := "java/lang/Integer", name := "valueOf", desc := "(I)Ljava/lang/Integer;" } : Jvm.MethodName) jdk_33_method_22_code (1 : Nat) (Option.some (Jvm.ClassFile.FieldType.object "java/lang/Integer"))).before args0 about1 = true := code_word (m := ⟨9, 0⟩) (meth := k9m0) (c := k9c0) (by decide +kernel) rfl rfl rfl (by decide +kernel)
set_option maxRecDepth 65536 in
theorem w_c5 : (Jvm.Cond.code ({ cls := "com/example/nomina/nomina/clauses/Atom$Filler", name := "equals", desc := "(Ljava/lang/Object;)Z" } : Jvm.MethodName) prog_11_method_2_code (3 : Nat) (Option.some Jvm.ClassFile.FieldType.boolean)).before args0 about1 = true := code_word (m := ⟨3, 1⟩) (meth := k3m1) (c := k3c1) (by decide +kernel) rfl rfl rfl (by decide +kernel)
set_option maxRecDepth 65536 in
theorem w_c6 : (Jvm.Cond.code ({ cls := "java/lang/Integer", name := "<init>", desc := "(I)V" } : Jvm.MethodName) jdk_33_method_23_code (2 : Nat) (Option.none : Option Jvm.ClassFile.FieldType)).before args0 about1 = true := code_word (m := ⟨9, 1⟩) (meth := k9m1) (c := k9c1) (by decide +kernel) rfl rfl rfl (by decide +kernel)
set_option maxRecDepth 65536 in
theorem w_c7 : (Jvm.Cond.code ({ cls := "java/lang/Number", name := "<init>", desc := "()V" } : Jvm.MethodName) jdk_18_method_1_code (1 : Nat) (Option.none : Option Jvm.ClassFile.FieldType)).before args0 about1 = true := code_word (m := ⟨5, 0⟩) (meth := k5m0) (c := k5c0) (by decide +kernel) rfl rfl rfl (by decide +kernel)
def codes1 : List Jvm.Cond := [Jvm.Cond.code x code maxLocals ret, Jvm.Cond.code ({ cls := "com/example/nomina/nomina/clauses/Atom$Filler", name := "<init>", desc := "(IZ)V" } : Jvm.MethodName) prog_11_method_1_code (3 : Nat) (Option.none : Option Jvm.ClassFile.FieldType), Jvm.Cond.code ({ cls := "java/lang/Record", name := "<init>", desc := "()V" } : Jvm.MethodName) jdk_30_method_1_code (1 : Nat) (Option.none : Option Jvm.ClassFile.FieldType), Jvm.Cond.code ({ cls := "java/lang/Object", name := "<init>", desc := "()V" } : Jvm.MethodName) object_method_1_code (1 : Nat) (Option.none : Option Jvm.ClassFile.FieldType), Jvm.Cond.code ({ cls := "java/lang/Integer", name := "valueOf", desc := "(I)Ljava/lang/Integer;" } : Jvm.MethodName) jdk_33_method_22_code (1 : Nat) (Option.some (Jvm.ClassFile.FieldType.object "java/lang/Integer")), Jvm.Cond.code ({ cls := "com/example/nomina/nomina/clauses/Atom$Filler", name := "equals", desc := "(Ljava/lang/Object;)Z" } : Jvm.MethodName) prog_11_method_2_code (3 : Nat) (Option.some Jvm.ClassFile.FieldType.boolean), Jvm.Cond.code ({ cls := "java/lang/Integer", name := "<init>", desc := "(I)V" } : Jvm.MethodName) jdk_33_method_23_code (2 : Nat) (Option.none : Option Jvm.ClassFile.FieldType), Jvm.Cond.code ({ cls := "java/lang/Number", name := "<init>", desc := "()V" } : Jvm.MethodName) jdk_18_method_1_code (1 : Nat) (Option.none : Option Jvm.ClassFile.FieldType)]
set_option maxRecDepth 65536 in
theorem codes_eq : words1.filter isCode = codes1 := rfl
theorem w_codes : ∀ c ∈ words1.filter isCode, c.before args0 about1 = true := by
  rw [codes_eq]
  intro c hc
  simp only [codes1, List.mem_cons, List.not_mem_nil, or_false] at hc
  rcases hc with rfl | rfl | rfl | rfl | rfl | rfl | rfl | rfl
  · exact w_c0
  · exact w_c1
  · exact w_c2
  · exact w_c3
  · exact w_c4
  · exact w_c5
  · exact w_c6
  · exact w_c7
set_option maxRecDepth 65536 in
theorem w_t1 : (words1.take 24).all (fun c => isCode c || c.before args0 about1) = true := by decide +kernel
set_option maxRecDepth 65536 in
theorem w_t2 : ((words1.drop 24).take 24).all (fun c => isCode c || c.before args0 about1) = true := by decide +kernel
set_option maxRecDepth 65536 in
theorem w_t3 : ((words1.drop 24).drop 24).all (fun c => isCode c || c.before args0 about1) = true := by decide +kernel
theorem w_tables : (allAtoms (Jvm.Cond.code x code maxLocals ret :: tables_1)).before args0 about1 = true := by
  rw [allAtoms_all]
  show words1.all (fun c => c.before args0 about1) = true
  refine all_split ?_ w_codes
  rw [← List.take_append_drop 24 words1, List.all_append, w_t1, ← List.take_append_drop 24 (words1.drop 24), List.all_append, w_t2, w_t3]
  rfl
set_option maxRecDepth 65536 in
theorem w_rest : rest_1_c.before args0 about1 = true := by decide +kernel
set_option maxRecDepth 65536 in
theorem w_case : (Jvm.Cond.and given_1 narrow_1).before args0 about1 = true := by decide +kernel
theorem w_applies : (headSpec (Jvm.Cond.code x code maxLocals ret :: tables_1) room_1).applies x e0.platform about1 = true :=
  (Spec.applies_iff w_frames).mpr ⟨w_running, w_runnable, w_alone, w_named, w_hears, w_ripe, w_room, w_tables⟩
theorem atStart : AtStart classFile x code maxLocals ret World_1 tables_1 room_1 Calls_1 rest_1 Pre_1 launch0 p0 e0 about1 theMethod args0 below0 :=
  ⟨lists_1, trivial, launch0.admits_env _ _ _, launch0.least_env, fairChoices_fair.cas, fairChoices_fair.clock, w_frames, w_args, w_heap, w_applies, trivial, w_rest, w_case⟩
end start1
theorem witness_1 : WitnessClaimed_1 := ⟨start1.p0, start1.e0, start1.about1, start1.theMethod, start1.args0, start1.below0, start1.atStart⟩
end Jvm.Pilot.@@N@@
