import JvmDerived
import JvmDerived.Pilot.@@N@@Statement
import JvmDerived.Pilot.@@N@@Code
set_option linter.unusedVariables false
set_option linter.unusedSimpArgs false
namespace Jvm.Pilot.@@N@@
open Jvm Jvm.ClassFile Sem Op Lib Jvm.Free Jvm.Stand Jvm.LawKit Jvm.RoadKit Bundle Jvm.Pilot.@@N@@.Jvm.D
/-! OWN KIT: a walk in continuation form. Go F U: from U the run comes to an end of which F holds. -/
namespace W
def Go (p : Program) (e : Env) (below : List Frame) (F : Outcome → State → Prop) (U : State) : Prop :=
  ∃ s₂ o, Steps p.tables e below U s₂ ∧ s₂.status = .running ∧ Ended s₂ below o ∧ F o s₂
def Cx (p : Program) (s : State) (m : MethodId) (meth : Method) (c : Code) (Z : State) (bytes : ByteArray) (maxL : Nat) (own mname : String) (ret : Option FieldType) : Prop :=
  p.tables.exec = Jvm.exec ∧ Z.Warmed39 s.vm ∧ c.code = bytes ∧ c.maxLocals = maxL ∧ s.vm.findClass own = some m.cls ∧ meth.name = mname ∧ meth.sig.returnType = ret ∧ meth.locks = false
def Post (s : State) (Q : Option Value → Heap → List Loc → Prop) (k n : Nat) (o : Outcome) (U' : State) : Prop := ∃ v L, o = .returned v ∧ Q v U'.heap L ∧ FrameEnd s o U' L k n
theorem of {p : Program} {e : Env} {below : List Frame} {F : Outcome → State → Prop} {U U' : State} (h : ∀ t, Steps p.tables e below U' t → Steps p.tables e below U t) (k : Go p e below F U') : Go p e below F U := by
  obtain ⟨s₂, o, h1, h2⟩ := k
  exact ⟨s₂, o, h _ h1, h2⟩
theorem tr {p : Program} {e : Env} {below : List Frame} {F : Outcome → State → Prop} {U U' : State} (h : Steps p.tables e below U U') (k : Go p e below F U') : Go p e below F U := of (fun _ q => h.trans q) k
def cT : ClassFile.Cond → Int32 → Int32 → Prop
  | .eq, x, y => x = y
  | .ne, x, y => x ≠ y
  | .lt, x, y => x.toInt < y.toInt
  | .ge, x, y => y.toInt ≤ x.toInt
  | .gt, x, y => y.toInt < x.toInt
  | .le, x, y => x.toInt ≤ y.toInt
def cF : ClassFile.Cond → Int32 → Int32 → Prop
  | .eq, x, y => x ≠ y
  | .ne, x, y => x = y
  | .lt, x, y => y.toInt ≤ x.toInt
  | .ge, x, y => x.toInt < y.toInt
  | .gt, x, y => x.toInt ≤ y.toInt
  | .le, x, y => y.toInt < x.toInt
instance (cd : ClassFile.Cond) (x y : Int32) : Decidable (cT cd x y) := by cases cd <;> (simp only [cT]; infer_instance)
instance (cd : ClassFile.Cond) (x y : Int32) : Decidable (cF cd x y) := by cases cd <;> (simp only [cF]; infer_instance)
theorem holdsT {cd : ClassFile.Cond} {x y : Int32} (h : cT cd x y) : if_icmp.holds cd x y = true := by
  cases cd <;> simp only [cT] at h <;> simp [if_icmp.holds, h, Int32.lt_iff_toInt_lt, Int32.le_iff_toInt_le]
theorem holdsF {cd : ClassFile.Cond} {x y : Int32} (h : cF cd x y) : if_icmp.holds cd x y = false := by
  cases cd <;> simp only [cF] at h <;> simp [if_icmp.holds, h, Int32.lt_iff_toInt_lt, Int32.le_iff_toInt_le]
theorem cTF (cd : ClassFile.Cond) (x y : Int32) : cT cd x y ∨ cF cd x y := by
  cases cd <;> simp only [cT, cF] <;> first | omega | exact Decidable.em _ | exact (Decidable.em _).symm
theorem ww {a0 : Array Value} {Z : State} (hw : ∀ d ∈ tables_1, d.before a0 Z = true) (i : Nat) {d : Jvm.Cond} (h : tables_1[i]? = some d) : d.before a0 Z = true := hw _ (List.mem_of_getElem? h)
theorem small {P : Int32 → Prop} (K : Nat) (hK : ∀ i : Fin (K + 1), P (Int32.ofInt (i.1 : Int))) (k : Int32) (h1 : 0 ≤ k.toInt) (h2 : k.toInt ≤ K) : P k := by
  have e : Int32.ofInt ((k.toInt.toNat : Nat) : Int) = k := by rw [Int.toNat_of_nonneg h1]; exact Int32.ofInt_toInt k
  have := hK ⟨k.toInt.toNat, by omega⟩
  rw [e] at this; exact this
theorem eqR {args : Array Value} {s : State} {a b : Term} {idx : List Nat} {y : Addr} (hb : b.eval args s none idx s = some (.ref y)) (h : (Jvm.Cond.eq a b).value args s none s idx = some true) : a.eval args s none idx s = some (.ref y) := by
  cases ha : a.eval args s none idx s with
  | none => simp [Cond.value, ha] at h
  | some x =>
    have hx : x.isRef = true := by cases x <;> simp [Cond.value, ha, hb, Value.isRef] at h ⊢
    have q := gotT (eq_R ha hb hx rfl) h
    rw [q]
theorem elemAt {args : Array Value} {s : State} {t a : Term} {x : Addr} {j : Int32} {v : Value} {cl : Cell} {ty : FieldType} (A : Arr s s.heap x cl ty) (ht : t.eval args s none [] s = some (.ref x)) (hj : a.eval args s none [] s = some (.int j)) (h : (Term.elem t a).eval args s none [] s = some v) : cl.slots[j.toNatClampNeg]? = some v := (elem_in h ht hj A.1).2
theorem lenAt {args : Array Value} {s : State} {t : Term} {x : Addr} {z : Int32} {cl : Cell} {ty : FieldType} (A : Arr s s.heap x cl ty) (ht : t.eval args s none [] s = some (.ref x)) (h : (Jvm.Cond.eq (.length t) (.int z)).value args s none s [] = some true) : cl.slots.size < 2 ^ 31 ∧ cl.slots.size.toInt32 = z := by
  have h6 := eqv_i (Term.int_eval z) h
  have ha := A.fin (Vm.Alike.refl _)
  have sz : cl.slots.size < 2 ^ 31 := by
    refine Decidable.byContradiction fun q => ?_
    simp [Term.eval, ht, ha, q] at h6
  refine ⟨sz, ?_⟩
  rw [len_f ht ha sz] at h6
  exact Value.int.inj (Option.some.inj h6)
theorem narZ {x : Int32} (h : x = 0 ∨ x = 1) : narrow .boolean (.int x) = .int x := by rcases h with rfl | rfl <;> rfl
theorem fitZ {x : Int32} (h : x = 0 ∨ x = 1) : fits .boolean (.int x) = true := by rcases h with rfl | rfl <;> rfl
theorem fieldInt {args : Array Value} {s : State} {t : Term} {Cn n d : String} {k : Int32} {a : Addr} (ht : t.eval args s none [] s = some (.ref a)) (h : (Jvm.Cond.eq (.field t Cn n d) (.int k)).value args s none s [] = some true) : Fld s s.heap a Cn n d (.int k) := by
  exact Fld.start ((fld_at ht).symm.trans (eqv_i (Term.int_eval k) h))
section
variable {p : Program} {l : Launch} {e : Env} {R : Room} {s : State} {m : MethodId} {args : Array Value} {below : List Frame} {meth : Method} {c : Code} {T : State} {locs : List Loc} {cells slots : Nat} {Z : State} {a0 : Array Value} {h h0 : Heap} {F : Outcome → State → Prop} {bytes : ByteArray} {maxL : Nat} {own mname : String} {ret : Option FieldType} {pc q : Nat} {Ls L' : Array Slot} {S rest : List Value}
theorem bodyOf {y : MethodName} {ws : List Jvm.Cond} {rm : Room} {as : Array Value} {Q : Option Value → Heap → List Loc → Prop} (hp : plainFor y = true) (hef : ∀ m, entryFrame m as maxL = mkF m 0 Ls [])
    (body : ∀ p e s m below meth c s₁, Cx p s m meth c Z bytes maxL y.cls y.name ret → Stand p l e rm s m as below meth c s₁ [] 0 0 → s₁.heap = h0 → Go p e below (Post s Q rm.cells rm.slots) (s₁.setTop (mkF m 0 Ls []))) :
    MetFree l y (head1 (Jvm.Cond.code y bytes maxL ret :: ws) rm) (fun a U => a = as ∧ Z.Warmed39 U.vm ∧ U.heap = h0) (fun _ _ _ _ _ => True) (fun _ U o U' => ∃ v L, o = .returned v ∧ Q v U'.heap L ∧ FrameEnd U o U' L rm.cells rm.slots) := by
  refine MetFree.of_bodySF hp hisR ?_
  intro p e s m args below meth c s₁ Bd hml0 hP hK
  obtain ⟨rfl, hZ, hh⟩ := hP
  obtain ⟨s₂, o, h1, h2⟩ := body p e s m below meth c s₁ ⟨Bd.exec, hZ, Bd.bytes, hml0, findClass_of_methodNamed Bd.named, (name_of_methodNamed Bd.named Bd.method).1, Bd.returns, Bd.notSynchronized⟩ (Stand.of_body Bd) (by rw [← hh, Bd.state]; rfl)
  exact ⟨s₂, o, castTop (hef m) h1, h2⟩
/-! returns -/
theorem retN (X : Stand p l e R s m args below meth c T locs cells slots) {t : FieldType} (C : Cx p s m meth c Z bytes maxL own mname (some t)) (ht : t = .boolean ∨ t = .byte ∨ t = .char ∨ t = .short) (eT : T.heap = h) {z z' : Int32} (hd : decode bytes pc = .ok (.ireturn, 1)) (hz : narrow t (.int z) = .int z') {k n : Nat} (hk : cells ≤ k) (hn : slots ≤ n) {Q : Option Value → Heap → List Loc → Prop} (hQ : Q (some (.int z')) h locs) :
    Go p e below (Post s Q k n) (T.setTop (mkF m pc Ls (.int z :: rest))) := by
  obtain ⟨hx, hZ, hby, hml, hown, hnm, hret, hlk⟩ := C
  obtain ⟨fs, hr, hrun, hended, hW, hsame⟩ := X.leave (v := some (.int z')) (fun h => by rw [hret] at h; cases h)
  refine ⟨_, _, ?_, hrun, hended, _, _, rfl, ?_, ⟨_, rfl⟩, hW, hsame.mono hk hn⟩
  · have hm' : T.vm.method? m = some meth := X.method'
    have hd' := hb hby hd
    rcases ht with rfl | rfl | rfl | rfl
    all_goals
      show Steps p.tables e below (T.setTop { method := m, pc := pc, locals := Ls, stack := _ :: rest, locked := none }) _
      jvm_step X.here [X.here.top, hx, hd', hm', hret, hz]
      first | (intro acts; rw [hr _ acts rfl rfl rfl]) | rw [hr _ _ rfl rfl rfl]
      exact Steps.refl _
  · show Q _ T.heap _
    rw [eT]; exact hQ
theorem retI (X : Stand p l e R s m args below meth c T locs cells slots) (C : Cx p s m meth c Z bytes maxL own mname (some .int)) (eT : T.heap = h) {z : Int32} (hd : decode bytes pc = .ok (.ireturn, 1)) {k n : Nat} (hk : cells ≤ k) (hn : slots ≤ n) {Q : Option Value → Heap → List Loc → Prop} (hQ : Q (some (.int z)) h locs) :
    Go p e below (Post s Q k n) (T.setTop (mkF m pc Ls (.int z :: rest))) := by
  obtain ⟨hx, hZ, hby, hml, hown, hnm, hret, hlk⟩ := C
  obtain ⟨fs, hr, hrun, hended, hW, hsame⟩ := X.leave (v := some (.int z)) (fun h => by rw [hret] at h; cases h)
  refine ⟨_, _, ?_, hrun, hended, _, _, rfl, ?_, ⟨_, rfl⟩, hW, hsame.mono hk hn⟩
  · have hm' : T.vm.method? m = some meth := X.method'
    have hd' := hb hby hd
    have hn : narrow .int (.int z) = .int z := rfl
    show Steps p.tables e below (T.setTop { method := m, pc := pc, locals := Ls, stack := _ :: rest, locked := none }) _
    jvm_step X.here [X.here.top, hx, hd', hm', hret, hn]
    first | (intro acts; rw [hr _ acts rfl rfl rfl]) | rw [hr _ _ rfl rfl rfl]
    exact Steps.refl _
  · show Q _ T.heap _
    rw [eT]; exact hQ
theorem retJ (X : Stand p l e R s m args below meth c T locs cells slots) (C : Cx p s m meth c Z bytes maxL own mname (some .long)) (eT : T.heap = h) {z : Int64} (hd : decode bytes pc = .ok (.lreturn, 1)) {k n : Nat} (hk : cells ≤ k) (hn : slots ≤ n) {Q : Option Value → Heap → List Loc → Prop} (hQ : Q (some (.long z)) h locs) :
    Go p e below (Post s Q k n) (T.setTop (mkF m pc Ls (.long z :: rest))) := by
  obtain ⟨hx, hZ, hby, hml, hown, hnm, hret, hlk⟩ := C
  obtain ⟨fs, hr, hrun, hended, hW, hsame⟩ := X.leave (v := some (.long z)) (fun h => by rw [hret] at h; cases h)
  refine ⟨_, _, ?_, hrun, hended, _, _, rfl, ?_, ⟨_, rfl⟩, hW, hsame.mono hk hn⟩
  · have hm' : T.vm.method? m = some meth := X.method'
    have hd' := hb hby hd
    show Steps p.tables e below (T.setTop { method := m, pc := pc, locals := Ls, stack := _ :: rest, locked := none }) _
    jvm_step X.here [X.here.top, hx, hd', hm', hret, narrow]
    first | (intro acts; rw [hr _ acts rfl rfl rfl]) | rw [hr _ _ rfl rfl rfl]
    exact Steps.refl _
  · show Q _ T.heap _
    rw [eT]; exact hQ
theorem retA (X : Stand p l e R s m args below meth c T locs cells slots) {t : FieldType} (C : Cx p s m meth c Z bytes maxL own mname (some t)) (ht : t.isReference = true) (eT : T.heap = h) {z : Value} (hz : z.isRef = true) (hd : decode bytes pc = .ok (.areturn, 1)) {k n : Nat} (hk : cells ≤ k) (hn : slots ≤ n) {Q : Option Value → Heap → List Loc → Prop} (hQ : Q (some z) h locs) :
    Go p e below (Post s Q k n) (T.setTop (mkF m pc Ls (z :: rest))) := by
  obtain ⟨hx, hZ, hby, hml, hown, hnm, hret, hlk⟩ := C
  obtain ⟨fs, hr, hrun, hended, hW, hsame⟩ := X.leave (v := some z) (fun h => by rw [hret] at h; cases h)
  refine ⟨_, _, ?_, hrun, hended, _, _, rfl, ?_, ⟨_, rfl⟩, hW, hsame.mono hk hn⟩
  · have hm' : T.vm.method? m = some meth := X.method'
    have hd' := hb hby hd
    show Steps p.tables e below (T.setTop { method := m, pc := pc, locals := Ls, stack := _ :: rest, locked := none }) _
    jvm_step X.here [X.here.top, hx, hd', hm', hret, hz, ht]
    first | (intro acts; rw [hr _ acts rfl rfl rfl]) | rw [hr _ _ rfl rfl rfl]
    exact Steps.refl _
  · show Q _ T.heap _
    rw [eT]; exact hQ
theorem retV (X : Stand p l e R s m args below meth c T locs cells slots) (C : Cx p s m meth c Z bytes maxL own mname none) (eT : T.heap = h) (hd : decode bytes pc = .ok (.return_, 1)) {k n : Nat} (hk : cells ≤ k) (hn : slots ≤ n) {Q : Option Value → Heap → List Loc → Prop} (hQ : Q none h locs) :
    Go p e below (Post s Q k n) (T.setTop (mkF m pc Ls [])) := by
  obtain ⟨hx, hZ, hby, hml, hown, hnm, hret, hlk⟩ := C
  obtain ⟨fs, hr, hrun, hended, hW, hsame⟩ := X.leave (v := none) (fun _ => rfl)
  refine ⟨_, _, X.returnOut hx hret (hb hby hd) hr, hrun, hended, _, _, rfl, ?_, ⟨_, rfl⟩, hW, hsame.mono hk hn⟩
  show Q _ T.heap _
  rw [eT]; exact hQ
/-! plain steps -/
theorem iload (X : Stand p l e R s m args below meth c T locs cells slots) (C : Cx p s m meth c Z bytes maxL own mname ret) {k : Nat} {v : Int32} (hd : decode bytes pc = .ok (.iload k, 2)) (hl : Ls[k]? = some (.val (.int v))) (hq : pc + 2 = q) (K : Go p e below F (T.setTop (mkF m q Ls (.int v :: S)))) : Go p e below F (T.setTop (mkF m pc Ls S)) := by
  subst hq; exact of (fun t k => XS.iload X.here C.1 rfl (hb C.2.2.1 hd) hl k) K
theorem iloadN (X : Stand p l e R s m args below meth c T locs cells slots) (C : Cx p s m meth c Z bytes maxL own mname ret) {k : Fin 4} {v : Int32} (hd : decode bytes pc = .ok (.iload_n k, 1)) (hl : Ls[k.val]? = some (.val (.int v))) (hq : pc + 1 = q) (K : Go p e below F (T.setTop (mkF m q Ls (.int v :: S)))) : Go p e below F (T.setTop (mkF m pc Ls S)) := by
  subst hq; exact of (fun t k => XS.iloadN X.here C.1 rfl (hb C.2.2.1 hd) hl k) K
theorem lload (X : Stand p l e R s m args below meth c T locs cells slots) (C : Cx p s m meth c Z bytes maxL own mname ret) {k : Nat} {v : Int64} (hd : decode bytes pc = .ok (.lload k, 2)) (hl : Ls[k]? = some (.val (.long v))) (hq : pc + 2 = q) (K : Go p e below F (T.setTop (mkF m q Ls (.long v :: S)))) : Go p e below F (T.setTop (mkF m pc Ls S)) := by
  subst hq; exact of (fun t k => XS.lload X.here C.1 rfl (hb C.2.2.1 hd) hl k) K
theorem lloadN (X : Stand p l e R s m args below meth c T locs cells slots) (C : Cx p s m meth c Z bytes maxL own mname ret) {k : Fin 4} {v : Int64} (hd : decode bytes pc = .ok (.lload_n k, 1)) (hl : Ls[k.val]? = some (.val (.long v))) (hq : pc + 1 = q) (K : Go p e below F (T.setTop (mkF m q Ls (.long v :: S)))) : Go p e below F (T.setTop (mkF m pc Ls S)) := by
  subst hq; exact of (fun t k => XS.lloadN X.here C.1 rfl (hb C.2.2.1 hd) hl k) K
theorem aload (X : Stand p l e R s m args below meth c T locs cells slots) (C : Cx p s m meth c Z bytes maxL own mname ret) {k : Nat} {v : Value} (hd : decode bytes pc = .ok (.aload k, 2)) (hl : Ls[k]? = some (.val v)) (hv : v.isRef = true) (hq : pc + 2 = q) (K : Go p e below F (T.setTop (mkF m q Ls (v :: S)))) : Go p e below F (T.setTop (mkF m pc Ls S)) := by
  subst hq; exact of (fun t k => XS.aload X.here C.1 rfl (hb C.2.2.1 hd) hl hv k) K
theorem aloadN (X : Stand p l e R s m args below meth c T locs cells slots) (C : Cx p s m meth c Z bytes maxL own mname ret) {k : Fin 4} {v : Value} (hd : decode bytes pc = .ok (.aload_n k, 1)) (hl : Ls[k.val]? = some (.val v)) (hv : v.isRef = true) (hq : pc + 1 = q) (K : Go p e below F (T.setTop (mkF m q Ls (v :: S)))) : Go p e below F (T.setTop (mkF m pc Ls S)) := by
  subst hq; exact of (fun t k => XS.aloadN X.here C.1 rfl (hb C.2.2.1 hd) hl hv k) K
theorem istore (X : Stand p l e R s m args below meth c T locs cells slots) (C : Cx p s m meth c Z bytes maxL own mname ret) {k : Nat} {v : Int32} (hd : decode bytes pc = .ok (.istore k, 2)) (hl : storeLocals Ls k (.int v) = some L') (hq : pc + 2 = q) (K : Go p e below F (T.setTop (mkF m q L' S))) : Go p e below F (T.setTop (mkF m pc Ls (.int v :: S))) := by
  subst hq; exact of (fun t k => XS.istore X.here C.1 rfl (hb C.2.2.1 hd) rfl hl k) K
theorem istoreN (X : Stand p l e R s m args below meth c T locs cells slots) (C : Cx p s m meth c Z bytes maxL own mname ret) {k : Fin 4} {v : Int32} (hd : decode bytes pc = .ok (.istore_n k, 1)) (hl : storeLocals Ls k.val (.int v) = some L') (hq : pc + 1 = q) (K : Go p e below F (T.setTop (mkF m q L' S))) : Go p e below F (T.setTop (mkF m pc Ls (.int v :: S))) := by
  subst hq; exact of (fun t k => XS.istoreN X.here C.1 rfl (hb C.2.2.1 hd) rfl hl k) K
theorem lstore (X : Stand p l e R s m args below meth c T locs cells slots) (C : Cx p s m meth c Z bytes maxL own mname ret) {k : Nat} {v : Int64} (hd : decode bytes pc = .ok (.lstore k, 2)) (hl : storeLocals Ls k (.long v) = some L') (hq : pc + 2 = q) (K : Go p e below F (T.setTop (mkF m q L' S))) : Go p e below F (T.setTop (mkF m pc Ls (.long v :: S))) := by
  subst hq; exact of (fun t k => XS.lstore X.here C.1 rfl (hb C.2.2.1 hd) rfl hl k) K
theorem lstoreN (X : Stand p l e R s m args below meth c T locs cells slots) (C : Cx p s m meth c Z bytes maxL own mname ret) {k : Fin 4} {v : Int64} (hd : decode bytes pc = .ok (.lstore_n k, 1)) (hl : storeLocals Ls k.val (.long v) = some L') (hq : pc + 1 = q) (K : Go p e below F (T.setTop (mkF m q L' S))) : Go p e below F (T.setTop (mkF m pc Ls (.long v :: S))) := by
  subst hq; exact of (fun t k => XS.lstoreN X.here C.1 rfl (hb C.2.2.1 hd) rfl hl k) K
theorem astore (X : Stand p l e R s m args below meth c T locs cells slots) (C : Cx p s m meth c Z bytes maxL own mname ret) {k : Nat} {v : Value} (hd : decode bytes pc = .ok (.astore k, 2)) (hv : v.isRef = true) (hl : storeLocals Ls k v = some L') (hq : pc + 2 = q) (K : Go p e below F (T.setTop (mkF m q L' S))) : Go p e below F (T.setTop (mkF m pc Ls (v :: S))) := by
  subst hq; exact of (fun t k => XS.astore X.here C.1 rfl (hb C.2.2.1 hd) rfl hv hl k) K
theorem astoreN (X : Stand p l e R s m args below meth c T locs cells slots) (C : Cx p s m meth c Z bytes maxL own mname ret) {k : Fin 4} {v : Value} (hd : decode bytes pc = .ok (.astore_n k, 1)) (hv : v.isRef = true) (hl : storeLocals Ls k.val v = some L') (hq : pc + 1 = q) (K : Go p e below F (T.setTop (mkF m q L' S))) : Go p e below F (T.setTop (mkF m pc Ls (v :: S))) := by
  subst hq; exact of (fun t k => XS.astoreN X.here C.1 rfl (hb C.2.2.1 hd) rfl hv hl k) K
theorem iinc (X : Stand p l e R s m args below meth c T locs cells slots) (C : Cx p s m meth c Z bytes maxL own mname ret) {k : Nat} {i : Int} {x y : Int32} (hd : decode bytes pc = .ok (.iinc k i, 3)) (hl : Ls[k]? = some (.val (.int x))) (hy : x + Int32.ofInt i = y) (hl' : storeLocals Ls k (.int y) = some L') (hq : pc + 3 = q) (K : Go p e below F (T.setTop (mkF m q L' S))) : Go p e below F (T.setTop (mkF m pc Ls S)) := by
  subst hq hy; exact of (fun t k => XS.iinc X.here C.1 rfl (hb C.2.2.1 hd) hl hl' k) K
theorem iconst (X : Stand p l e R s m args below meth c T locs cells slots) (C : Cx p s m meth c Z bytes maxL own mname ret) {i : Int} {v : Int32} (hd : decode bytes pc = .ok (.iconst i, 1)) (hi : Int32.ofInt i = v) (hq : pc + 1 = q) (K : Go p e below F (T.setTop (mkF m q Ls (.int v :: S)))) : Go p e below F (T.setTop (mkF m pc Ls S)) := by
  subst hq hi; exact of (fun t k => XS.iconst X.here C.1 rfl (hb C.2.2.1 hd) k) K
theorem bipush (X : Stand p l e R s m args below meth c T locs cells slots) (C : Cx p s m meth c Z bytes maxL own mname ret) {i : Int} {v : Int32} (hd : decode bytes pc = .ok (.bipush i, 2)) (hi : (Int8.ofInt i).toInt32 = v) (hq : pc + 2 = q) (K : Go p e below F (T.setTop (mkF m q Ls (.int v :: S)))) : Go p e below F (T.setTop (mkF m pc Ls S)) := by
  subst hq hi; exact of (fun t k => XS.bipush X.here C.1 rfl (hb C.2.2.1 hd) k) K
theorem sipush (X : Stand p l e R s m args below meth c T locs cells slots) (C : Cx p s m meth c Z bytes maxL own mname ret) {i : Int} {v : Int32} (hd : decode bytes pc = .ok (.sipush i, 3)) (hi : (Int16.ofInt i).toInt32 = v) (hq : pc + 3 = q) (K : Go p e below F (T.setTop (mkF m q Ls (.int v :: S)))) : Go p e below F (T.setTop (mkF m pc Ls S)) := by
  subst hq hi; exact of (fun t k => XS.sipush X.here C.1 rfl (hb C.2.2.1 hd) k) K
theorem lconst0 (X : Stand p l e R s m args below meth c T locs cells slots) (C : Cx p s m meth c Z bytes maxL own mname ret) (hd : decode bytes pc = .ok (.lconst 0, 1)) (hq : pc + 1 = q) (K : Go p e below F (T.setTop (mkF m q Ls (.long 0 :: S)))) : Go p e below F (T.setTop (mkF m pc Ls S)) := by
  subst hq; exact of (fun t k => XS.lconst X.here C.1 rfl (hb C.2.2.1 hd) k) K
theorem lconst1 (X : Stand p l e R s m args below meth c T locs cells slots) (C : Cx p s m meth c Z bytes maxL own mname ret) (hd : decode bytes pc = .ok (.lconst 1, 1)) (hq : pc + 1 = q) (K : Go p e below F (T.setTop (mkF m q Ls (.long 1 :: S)))) : Go p e below F (T.setTop (mkF m pc Ls S)) := by
  subst hq; exact of (fun t k => XS.lconst X.here C.1 rfl (hb C.2.2.1 hd) k) K
theorem ldcI (X : Stand p l e R s m args below meth c T locs cells slots) (C : Cx p s m meth c Z bytes maxL own mname ret) {i : Nat} {v : Int32} (w : (Jvm.Cond.constant own i v).before a0 Z = true) (hd : decode bytes pc = .ok (.ldc i, 2)) (hq : pc + 2 = q) (K : Go p e below F (T.setTop (mkF m q Ls (.int v :: S)))) : Go p e below F (T.setTop (mkF m pc Ls S)) := by
  subst hq; exact of (X.ldcInt C.1 C.2.2.2.2.1 (mvT C.2.1 w) (g := mkF m pc Ls S) rfl (hb C.2.2.1 hd)) K
theorem ldcL (X : Stand p l e R s m args below meth c T locs cells slots) (C : Cx p s m meth c Z bytes maxL own mname ret) {i : Nat} {v : Int64} (w : (Jvm.Cond.constantLong own i v).before a0 Z = true) (hd : decode bytes pc = .ok (.ldc2_w i, 3)) (hq : pc + 3 = q) (K : Go p e below F (T.setTop (mkF m q Ls (.long v :: S)))) : Go p e below F (T.setTop (mkF m pc Ls S)) := by
  subst hq; exact of (X.ldc2Long C.1 C.2.2.2.2.1 (mvT C.2.1 w) (g := mkF m pc Ls S) rfl (hb C.2.2.1 hd)) K
theorem aconst (X : Stand p l e R s m args below meth c T locs cells slots) (C : Cx p s m meth c Z bytes maxL own mname ret) (hd : decode bytes pc = .ok (.aconst_null, 1)) (hq : pc + 1 = q) (K : Go p e below F (T.setTop (mkF m q Ls (.null :: S)))) : Go p e below F (T.setTop (mkF m pc Ls S)) := by
  subst hq; exact of (fun t k => XS.aconstNull X.here C.1 rfl (hb C.2.2.1 hd) k) K
theorem iadd (X : Stand p l e R s m args below meth c T locs cells slots) (C : Cx p s m meth c Z bytes maxL own mname ret) {x : Int32} {y : Int32} (hd : decode bytes pc = .ok (.iadd, 1)) (hq : pc + 1 = q) (K : Go p e below F (T.setTop (mkF m q Ls (.int (x + y) :: S)))) : Go p e below F (T.setTop (mkF m pc Ls (.int y :: .int x :: S))) := by
  subst hq; exact of (fun t k => XS.iadd X.here C.1 rfl (hb C.2.2.1 hd) rfl k) K
theorem ladd (X : Stand p l e R s m args below meth c T locs cells slots) (C : Cx p s m meth c Z bytes maxL own mname ret) {x : Int64} {y : Int64} (hd : decode bytes pc = .ok (.ladd, 1)) (hq : pc + 1 = q) (K : Go p e below F (T.setTop (mkF m q Ls (.long (x + y) :: S)))) : Go p e below F (T.setTop (mkF m pc Ls (.long y :: .long x :: S))) := by
  subst hq; exact of (fun t k => XS.ladd X.here C.1 rfl (hb C.2.2.1 hd) rfl k) K
theorem isub (X : Stand p l e R s m args below meth c T locs cells slots) (C : Cx p s m meth c Z bytes maxL own mname ret) {x : Int32} {y : Int32} (hd : decode bytes pc = .ok (.isub, 1)) (hq : pc + 1 = q) (K : Go p e below F (T.setTop (mkF m q Ls (.int (x - y) :: S)))) : Go p e below F (T.setTop (mkF m pc Ls (.int y :: .int x :: S))) := by
  subst hq; exact of (fun t k => XS.isub X.here C.1 rfl (hb C.2.2.1 hd) rfl k) K
theorem lsub (X : Stand p l e R s m args below meth c T locs cells slots) (C : Cx p s m meth c Z bytes maxL own mname ret) {x : Int64} {y : Int64} (hd : decode bytes pc = .ok (.lsub, 1)) (hq : pc + 1 = q) (K : Go p e below F (T.setTop (mkF m q Ls (.long (x - y) :: S)))) : Go p e below F (T.setTop (mkF m pc Ls (.long y :: .long x :: S))) := by
  subst hq; exact of (fun t k => XS.lsub X.here C.1 rfl (hb C.2.2.1 hd) rfl k) K
theorem imul (X : Stand p l e R s m args below meth c T locs cells slots) (C : Cx p s m meth c Z bytes maxL own mname ret) {x : Int32} {y : Int32} (hd : decode bytes pc = .ok (.imul, 1)) (hq : pc + 1 = q) (K : Go p e below F (T.setTop (mkF m q Ls (.int (x * y) :: S)))) : Go p e below F (T.setTop (mkF m pc Ls (.int y :: .int x :: S))) := by
  subst hq; exact of (fun t k => XS.imul X.here C.1 rfl (hb C.2.2.1 hd) rfl k) K
theorem lmul (X : Stand p l e R s m args below meth c T locs cells slots) (C : Cx p s m meth c Z bytes maxL own mname ret) {x : Int64} {y : Int64} (hd : decode bytes pc = .ok (.lmul, 1)) (hq : pc + 1 = q) (K : Go p e below F (T.setTop (mkF m q Ls (.long (x * y) :: S)))) : Go p e below F (T.setTop (mkF m pc Ls (.long y :: .long x :: S))) := by
  subst hq; exact of (fun t k => XS.lmul X.here C.1 rfl (hb C.2.2.1 hd) rfl k) K
theorem iand (X : Stand p l e R s m args below meth c T locs cells slots) (C : Cx p s m meth c Z bytes maxL own mname ret) {x : Int32} {y : Int32} (hd : decode bytes pc = .ok (.iand, 1)) (hq : pc + 1 = q) (K : Go p e below F (T.setTop (mkF m q Ls (.int (x &&& y) :: S)))) : Go p e below F (T.setTop (mkF m pc Ls (.int y :: .int x :: S))) := by
  subst hq; exact of (fun t k => XS.iand X.here C.1 rfl (hb C.2.2.1 hd) rfl k) K
theorem land (X : Stand p l e R s m args below meth c T locs cells slots) (C : Cx p s m meth c Z bytes maxL own mname ret) {x : Int64} {y : Int64} (hd : decode bytes pc = .ok (.land, 1)) (hq : pc + 1 = q) (K : Go p e below F (T.setTop (mkF m q Ls (.long (x &&& y) :: S)))) : Go p e below F (T.setTop (mkF m pc Ls (.long y :: .long x :: S))) := by
  subst hq; exact of (fun t k => XS.land X.here C.1 rfl (hb C.2.2.1 hd) rfl k) K
theorem ior (X : Stand p l e R s m args below meth c T locs cells slots) (C : Cx p s m meth c Z bytes maxL own mname ret) {x : Int32} {y : Int32} (hd : decode bytes pc = .ok (.ior, 1)) (hq : pc + 1 = q) (K : Go p e below F (T.setTop (mkF m q Ls (.int (x ||| y) :: S)))) : Go p e below F (T.setTop (mkF m pc Ls (.int y :: .int x :: S))) := by
  subst hq; exact of (fun t k => XS.ior X.here C.1 rfl (hb C.2.2.1 hd) rfl k) K
theorem lor (X : Stand p l e R s m args below meth c T locs cells slots) (C : Cx p s m meth c Z bytes maxL own mname ret) {x : Int64} {y : Int64} (hd : decode bytes pc = .ok (.lor, 1)) (hq : pc + 1 = q) (K : Go p e below F (T.setTop (mkF m q Ls (.long (x ||| y) :: S)))) : Go p e below F (T.setTop (mkF m pc Ls (.long y :: .long x :: S))) := by
  subst hq; exact of (fun t k => XS.lor X.here C.1 rfl (hb C.2.2.1 hd) rfl k) K
theorem ixor (X : Stand p l e R s m args below meth c T locs cells slots) (C : Cx p s m meth c Z bytes maxL own mname ret) {x : Int32} {y : Int32} (hd : decode bytes pc = .ok (.ixor, 1)) (hq : pc + 1 = q) (K : Go p e below F (T.setTop (mkF m q Ls (.int (x ^^^ y) :: S)))) : Go p e below F (T.setTop (mkF m pc Ls (.int y :: .int x :: S))) := by
  subst hq; exact of (fun t k => XS.ixor X.here C.1 rfl (hb C.2.2.1 hd) rfl k) K
theorem lxor (X : Stand p l e R s m args below meth c T locs cells slots) (C : Cx p s m meth c Z bytes maxL own mname ret) {x : Int64} {y : Int64} (hd : decode bytes pc = .ok (.lxor, 1)) (hq : pc + 1 = q) (K : Go p e below F (T.setTop (mkF m q Ls (.long (x ^^^ y) :: S)))) : Go p e below F (T.setTop (mkF m pc Ls (.long y :: .long x :: S))) := by
  subst hq; exact of (fun t k => XS.lxor X.here C.1 rfl (hb C.2.2.1 hd) rfl k) K
theorem ishl (X : Stand p l e R s m args below meth c T locs cells slots) (C : Cx p s m meth c Z bytes maxL own mname ret) {x : Int32} {y : Int32} (hd : decode bytes pc = .ok (.ishl, 1)) (hq : pc + 1 = q) (K : Go p e below F (T.setTop (mkF m q Ls (.int (x <<< (y &&& 31)) :: S)))) : Go p e below F (T.setTop (mkF m pc Ls (.int y :: .int x :: S))) := by
  subst hq; exact of (fun t k => XS.ishl X.here C.1 rfl (hb C.2.2.1 hd) rfl k) K
theorem ishr (X : Stand p l e R s m args below meth c T locs cells slots) (C : Cx p s m meth c Z bytes maxL own mname ret) {x : Int32} {y : Int32} (hd : decode bytes pc = .ok (.ishr, 1)) (hq : pc + 1 = q) (K : Go p e below F (T.setTop (mkF m q Ls (.int (x >>> (y &&& 31)) :: S)))) : Go p e below F (T.setTop (mkF m pc Ls (.int y :: .int x :: S))) := by
  subst hq; exact of (fun t k => XS.ishr X.here C.1 rfl (hb C.2.2.1 hd) rfl k) K
theorem iushr (X : Stand p l e R s m args below meth c T locs cells slots) (C : Cx p s m meth c Z bytes maxL own mname ret) {x : Int32} {y : Int32} (hd : decode bytes pc = .ok (.iushr, 1)) (hq : pc + 1 = q) (K : Go p e below F (T.setTop (mkF m q Ls (.int ((x.toUInt32 >>> (y &&& 31).toUInt32).toInt32) :: S)))) : Go p e below F (T.setTop (mkF m pc Ls (.int y :: .int x :: S))) := by
  subst hq; exact of (fun t k => XS.iushr X.here C.1 rfl (hb C.2.2.1 hd) rfl k) K
theorem lshl (X : Stand p l e R s m args below meth c T locs cells slots) (C : Cx p s m meth c Z bytes maxL own mname ret) {x : Int64} {y : Int32} (hd : decode bytes pc = .ok (.lshl, 1)) (hq : pc + 1 = q) (K : Go p e below F (T.setTop (mkF m q Ls (.long (x <<< (y &&& 0x3f).toInt64) :: S)))) : Go p e below F (T.setTop (mkF m pc Ls (.int y :: .long x :: S))) := by
  subst hq; exact of (fun t k => XS.lshl X.here C.1 rfl (hb C.2.2.1 hd) rfl k) K
theorem lshr (X : Stand p l e R s m args below meth c T locs cells slots) (C : Cx p s m meth c Z bytes maxL own mname ret) {x : Int64} {y : Int32} (hd : decode bytes pc = .ok (.lshr, 1)) (hq : pc + 1 = q) (K : Go p e below F (T.setTop (mkF m q Ls (.long (x >>> (y &&& 0x3f).toInt64) :: S)))) : Go p e below F (T.setTop (mkF m pc Ls (.int y :: .long x :: S))) := by
  subst hq; exact of (fun t k => XS.lshr X.here C.1 rfl (hb C.2.2.1 hd) rfl k) K
theorem lushr (X : Stand p l e R s m args below meth c T locs cells slots) (C : Cx p s m meth c Z bytes maxL own mname ret) {x : Int64} {y : Int32} (hd : decode bytes pc = .ok (.lushr, 1)) (hq : pc + 1 = q) (K : Go p e below F (T.setTop (mkF m q Ls (.long ((x.toUInt64 >>> (y &&& 0x3f).toInt64.toUInt64).toInt64) :: S)))) : Go p e below F (T.setTop (mkF m pc Ls (.int y :: .long x :: S))) := by
  subst hq; exact of (fun t k => XS.lushr X.here C.1 rfl (hb C.2.2.1 hd) rfl k) K
theorem ineg (X : Stand p l e R s m args below meth c T locs cells slots) (C : Cx p s m meth c Z bytes maxL own mname ret) {x : Int32} (hd : decode bytes pc = .ok (.ineg, 1)) (hq : pc + 1 = q) (K : Go p e below F (T.setTop (mkF m q Ls (.int (-x) :: S)))) : Go p e below F (T.setTop (mkF m pc Ls (.int x :: S))) := by
  subst hq; exact of (fun t k => XS.ineg X.here C.1 rfl (hb C.2.2.1 hd) rfl k) K
theorem lneg (X : Stand p l e R s m args below meth c T locs cells slots) (C : Cx p s m meth c Z bytes maxL own mname ret) {x : Int64} (hd : decode bytes pc = .ok (.lneg, 1)) (hq : pc + 1 = q) (K : Go p e below F (T.setTop (mkF m q Ls (.long (-x) :: S)))) : Go p e below F (T.setTop (mkF m pc Ls (.long x :: S))) := by
  subst hq; exact of (fun t k => XS.lneg X.here C.1 rfl (hb C.2.2.1 hd) rfl k) K
theorem i2l (X : Stand p l e R s m args below meth c T locs cells slots) (C : Cx p s m meth c Z bytes maxL own mname ret) {x : Int32} (hd : decode bytes pc = .ok (.i2l, 1)) (hq : pc + 1 = q) (K : Go p e below F (T.setTop (mkF m q Ls (.long (x.toInt64) :: S)))) : Go p e below F (T.setTop (mkF m pc Ls (.int x :: S))) := by
  subst hq; exact of (fun t k => XS.i2l X.here C.1 rfl (hb C.2.2.1 hd) rfl k) K
theorem l2i (X : Stand p l e R s m args below meth c T locs cells slots) (C : Cx p s m meth c Z bytes maxL own mname ret) {x : Int64} (hd : decode bytes pc = .ok (.l2i, 1)) (hq : pc + 1 = q) (K : Go p e below F (T.setTop (mkF m q Ls (.int (x.toInt32) :: S)))) : Go p e below F (T.setTop (mkF m pc Ls (.long x :: S))) := by
  subst hq; exact of (fun t k => XS.l2i X.here C.1 rfl (hb C.2.2.1 hd) rfl k) K
theorem i2b (X : Stand p l e R s m args below meth c T locs cells slots) (C : Cx p s m meth c Z bytes maxL own mname ret) {x : Int32} (hd : decode bytes pc = .ok (.i2b, 1)) (hq : pc + 1 = q) (K : Go p e below F (T.setTop (mkF m q Ls (.int (x.toInt8.toInt32) :: S)))) : Go p e below F (T.setTop (mkF m pc Ls (.int x :: S))) := by
  subst hq; exact of (fun t k => XS.i2b X.here C.1 rfl (hb C.2.2.1 hd) rfl k) K
theorem i2s (X : Stand p l e R s m args below meth c T locs cells slots) (C : Cx p s m meth c Z bytes maxL own mname ret) {x : Int32} (hd : decode bytes pc = .ok (.i2s, 1)) (hq : pc + 1 = q) (K : Go p e below F (T.setTop (mkF m q Ls (.int (x.toInt16.toInt32) :: S)))) : Go p e below F (T.setTop (mkF m pc Ls (.int x :: S))) := by
  subst hq; exact of (fun t k => XS.i2s X.here C.1 rfl (hb C.2.2.1 hd) rfl k) K
theorem i2c (X : Stand p l e R s m args below meth c T locs cells slots) (C : Cx p s m meth c Z bytes maxL own mname ret) {x : Int32} (hd : decode bytes pc = .ok (.i2c, 1)) (hq : pc + 1 = q) (K : Go p e below F (T.setTop (mkF m q Ls (.int (x.toUInt32.toUInt16.toUInt32.toInt32) :: S)))) : Go p e below F (T.setTop (mkF m pc Ls (.int x :: S))) := by
  subst hq; exact of (fun t k => XS.i2c X.here C.1 rfl (hb C.2.2.1 hd) rfl k) K
theorem idiv (X : Stand p l e R s m args below meth c T locs cells slots) (C : Cx p s m meth c Z bytes maxL own mname ret) {x y : Int32} (hd : decode bytes pc = .ok (.idiv, 1)) (hy : y ≠ 0) (hq : pc + 1 = q) (K : Go p e below F (T.setTop (mkF m q Ls (.int (x / y) :: S)))) : Go p e below F (T.setTop (mkF m pc Ls (.int y :: .int x :: S))) := by
  subst hq; exact of (fun t k => XS.idiv X.here C.1 rfl (hb C.2.2.1 hd) rfl hy k) K
theorem irem (X : Stand p l e R s m args below meth c T locs cells slots) (C : Cx p s m meth c Z bytes maxL own mname ret) {x y : Int32} (hd : decode bytes pc = .ok (.irem, 1)) (hy : y ≠ 0) (hq : pc + 1 = q) (K : Go p e below F (T.setTop (mkF m q Ls (.int (x % y) :: S)))) : Go p e below F (T.setTop (mkF m pc Ls (.int y :: .int x :: S))) := by
  subst hq; exact of (fun t k => iremM (g := mkF m pc Ls (.int y :: .int x :: S)) X C.1 rfl (hb C.2.2.1 hd) rfl hy k) K
theorem ldiv (X : Stand p l e R s m args below meth c T locs cells slots) (C : Cx p s m meth c Z bytes maxL own mname ret) {x y : Int64} (hd : decode bytes pc = .ok (.ldiv, 1)) (hy : y ≠ 0) (hq : pc + 1 = q) (K : Go p e below F (T.setTop (mkF m q Ls (.long (x / y) :: S)))) : Go p e below F (T.setTop (mkF m pc Ls (.long y :: .long x :: S))) := by
  subst hq; exact of (fun t k => XS.ldiv X.here C.1 rfl (hb C.2.2.1 hd) rfl hy k) K
theorem lcmp (X : Stand p l e R s m args below meth c T locs cells slots) (C : Cx p s m meth c Z bytes maxL own mname ret) {x y : Int64} (hd : decode bytes pc = .ok (.lcmp, 1)) (hq : pc + 1 = q) (K : Go p e below F (T.setTop (mkF m q Ls (.int (lcmpW x y) :: S)))) : Go p e below F (T.setTop (mkF m pc Ls (.long y :: .long x :: S))) := by
  subst hq; exact of (fun t k => XS.lcmp X.here C.1 rfl (hb C.2.2.1 hd) rfl k) K
theorem dup (X : Stand p l e R s m args below meth c T locs cells slots) (C : Cx p s m meth c Z bytes maxL own mname ret) {v : Value} (hd : decode bytes pc = .ok (.dup, 1)) (hv : v.category = 1) (hq : pc + 1 = q) (K : Go p e below F (T.setTop (mkF m q Ls (v :: v :: S)))) : Go p e below F (T.setTop (mkF m pc Ls (v :: S))) := by
  subst hq; exact of (fun t k => XS.dup X.here C.1 rfl (hb C.2.2.1 hd) rfl hv k) K
theorem dupX1 (X : Stand p l e R s m args below meth c T locs cells slots) (C : Cx p s m meth c Z bytes maxL own mname ret) {v w : Value} (hd : decode bytes pc = .ok (.dup_x1, 1)) (hv : v.category = 1) (hw : w.category = 1) (hq : pc + 1 = q) (K : Go p e below F (T.setTop (mkF m q Ls (v :: w :: v :: S)))) : Go p e below F (T.setTop (mkF m pc Ls (v :: w :: S))) := by
  subst hq; exact of (fun t k => XS.dupX1 X.here C.1 rfl (hb C.2.2.1 hd) rfl hv hw k) K
theorem pop (X : Stand p l e R s m args below meth c T locs cells slots) (C : Cx p s m meth c Z bytes maxL own mname ret) {v : Value} (hd : decode bytes pc = .ok (.pop, 1)) (hv : v.category = 1) (hq : pc + 1 = q) (K : Go p e below F (T.setTop (mkF m q Ls S))) : Go p e below F (T.setTop (mkF m pc Ls (v :: S))) := by
  subst hq; exact of (fun t k => XS.pop X.here C.1 rfl (hb C.2.2.1 hd) rfl hv k) K
theorem goto (X : Stand p l e R s m args below meth c T locs cells slots) (C : Cx p s m meth c Z bytes maxL own mname ret) {o : Int} (hd : decode bytes pc = .ok (.goto o, 3)) (ho : 0 ≤ (pc : Int) + o) (hq : ((pc : Int) + o).toNat = q) (K : Go p e below F (T.setTop (mkF m q Ls S))) : Go p e below F (T.setTop (mkF m pc Ls S)) :=
  of (fun t k => XS.goto X.here C.1 rfl rfl (hb C.2.2.1 hd) ho hq k) K
theorem icmpT (X : Stand p l e R s m args below meth c T locs cells slots) (C : Cx p s m meth c Z bytes maxL own mname ret) {cd : ClassFile.Cond} {o : Int} {x y : Int32} (hd : decode bytes pc = .ok (.if_icmp cd o, 3)) (ho : 0 ≤ (pc : Int) + o) (hq : ((pc : Int) + o).toNat = q) (hc : cT cd x y) (K : Go p e below F (T.setTop (mkF m q Ls S))) : Go p e below F (T.setTop (mkF m pc Ls (.int y :: .int x :: S))) :=
  of (fun t k => XS.icmpYes X.here C.1 rfl rfl (hb C.2.2.1 hd) rfl (holdsT hc) ho hq k) K
theorem icmpF (X : Stand p l e R s m args below meth c T locs cells slots) (C : Cx p s m meth c Z bytes maxL own mname ret) {cd : ClassFile.Cond} {o : Int} {x y : Int32} (hd : decode bytes pc = .ok (.if_icmp cd o, 3)) (hq : pc + 3 = q) (hc : cF cd x y) (K : Go p e below F (T.setTop (mkF m q Ls S))) : Go p e below F (T.setTop (mkF m pc Ls (.int y :: .int x :: S))) := by
  subst hq; exact of (fun t k => XS.icmpNo X.here C.1 rfl (hb C.2.2.1 hd) rfl (holdsF hc) k) K
theorem icmp (X : Stand p l e R s m args below meth c T locs cells slots) (C : Cx p s m meth c Z bytes maxL own mname ret) {cd : ClassFile.Cond} {o : Int} {x y : Int32} {q' : Nat} (hd : decode bytes pc = .ok (.if_icmp cd o, 3)) (ho : 0 ≤ (pc : Int) + o) (hq : ((pc : Int) + o).toNat = q) (hq' : pc + 3 = q') (K : cT cd x y → Go p e below F (T.setTop (mkF m q Ls S))) (K' : cF cd x y → Go p e below F (T.setTop (mkF m q' Ls S))) : Go p e below F (T.setTop (mkF m pc Ls (.int y :: .int x :: S))) :=
  (cTF cd x y).elim (fun hc => icmpT X C hd ho hq hc (K hc)) (fun hc => icmpF X C hd hq' hc (K' hc))
theorem ifT (X : Stand p l e R s m args below meth c T locs cells slots) (C : Cx p s m meth c Z bytes maxL own mname ret) {cd : ClassFile.Cond} {o : Int} {x : Int32} (hd : decode bytes pc = .ok (.ifCond cd o, 3)) (ho : 0 ≤ (pc : Int) + o) (hq : ((pc : Int) + o).toNat = q) (hc : cT cd x 0) (K : Go p e below F (T.setTop (mkF m q Ls S))) : Go p e below F (T.setTop (mkF m pc Ls (.int x :: S))) :=
  of (fun t k => XS.ifYes X.here C.1 rfl rfl (hb C.2.2.1 hd) rfl ((if0 _ _).trans (holdsT hc)) ho hq k) K
theorem ifF (X : Stand p l e R s m args below meth c T locs cells slots) (C : Cx p s m meth c Z bytes maxL own mname ret) {cd : ClassFile.Cond} {o : Int} {x : Int32} (hd : decode bytes pc = .ok (.ifCond cd o, 3)) (hq : pc + 3 = q) (hc : cF cd x 0) (K : Go p e below F (T.setTop (mkF m q Ls S))) : Go p e below F (T.setTop (mkF m pc Ls (.int x :: S))) := by
  subst hq; exact of (fun t k => XS.ifNo X.here C.1 rfl (hb C.2.2.1 hd) rfl ((if0 _ _).trans (holdsF hc)) k) K
theorem if_ (X : Stand p l e R s m args below meth c T locs cells slots) (C : Cx p s m meth c Z bytes maxL own mname ret) {cd : ClassFile.Cond} {o : Int} {x : Int32} {q' : Nat} (hd : decode bytes pc = .ok (.ifCond cd o, 3)) (ho : 0 ≤ (pc : Int) + o) (hq : ((pc : Int) + o).toNat = q) (hq' : pc + 3 = q') (K : cT cd x 0 → Go p e below F (T.setTop (mkF m q Ls S))) (K' : cF cd x 0 → Go p e below F (T.setTop (mkF m q' Ls S))) : Go p e below F (T.setTop (mkF m pc Ls (.int x :: S))) :=
  (cTF cd x 0).elim (fun hc => ifT X C hd ho hq hc (K hc)) (fun hc => ifF X C hd hq' hc (K' hc))
theorem ifnullT (X : Stand p l e R s m args below meth c T locs cells slots) (C : Cx p s m meth c Z bytes maxL own mname ret) {o : Int} (hd : decode bytes pc = .ok (.ifnull o, 3)) (ho : 0 ≤ (pc : Int) + o) (hq : ((pc : Int) + o).toNat = q) (K : Go p e below F (T.setTop (mkF m q Ls S))) : Go p e below F (T.setTop (mkF m pc Ls (.null :: S))) :=
  of (fun t k => XS.ifnullYes X.here C.1 rfl rfl (hb C.2.2.1 hd) rfl ho hq k) K
theorem ifnullF (X : Stand p l e R s m args below meth c T locs cells slots) (C : Cx p s m meth c Z bytes maxL own mname ret) {o : Int} {a : Addr} (hd : decode bytes pc = .ok (.ifnull o, 3)) (hq : pc + 3 = q) (K : Go p e below F (T.setTop (mkF m q Ls S))) : Go p e below F (T.setTop (mkF m pc Ls (.ref a :: S))) := by
  subst hq; exact of (fun t k => XS.ifnullNo X.here C.1 rfl (hb C.2.2.1 hd) rfl k) K
theorem ifnonnullT (X : Stand p l e R s m args below meth c T locs cells slots) (C : Cx p s m meth c Z bytes maxL own mname ret) {o : Int} {a : Addr} (hd : decode bytes pc = .ok (.ifnonnull o, 3)) (ho : 0 ≤ (pc : Int) + o) (hq : ((pc : Int) + o).toNat = q) (K : Go p e below F (T.setTop (mkF m q Ls S))) : Go p e below F (T.setTop (mkF m pc Ls (.ref a :: S))) :=
  of (fun t k => XS.ifnonnullYes X.here C.1 rfl rfl (hb C.2.2.1 hd) rfl ho hq k) K
theorem ifnonnullF (X : Stand p l e R s m args below meth c T locs cells slots) (C : Cx p s m meth c Z bytes maxL own mname ret) {o : Int} (hd : decode bytes pc = .ok (.ifnonnull o, 3)) (hq : pc + 3 = q) (K : Go p e below F (T.setTop (mkF m q Ls S))) : Go p e below F (T.setTop (mkF m pc Ls (.null :: S))) := by
  subst hq; exact of (fun t k => XS.ifnonnullNo X.here C.1 rfl (hb C.2.2.1 hd) rfl k) K
/-! calls -/
theorem callS (X : Stand p l e R s m args below meth c T locs cells slots) (C : Cx p s m meth c Z bytes maxL own mname ret) {y : MethodName} {i : Nat} {yb : ByteArray} {ym : Nat} {yr : Option FieldType} (w1 : (Jvm.Cond.methodLink own i y).before a0 Z = true) (w2 : (Jvm.Cond.static y).before a0 Z = true) (w3 : (Jvm.Cond.initialized y.cls).before a0 Z = true) (w4 : (Jvm.Cond.code y yb ym yr).before a0 Z = true) (hy : y.cls ≠ "java/lang/invoke/MethodHandle" ∧ y.cls ≠ "java/lang/invoke/VarHandle")
    {rm : Room} {as' : Array Value} {Q : Option Value → Heap → List Loc → Prop} (hM : MetFree l y (head1 [Jvm.Cond.code y yb ym yr] rm) (fun a U => a = as' ∧ Z.Warmed39 U.vm ∧ U.heap = h) (fun _ _ _ _ _ => True) (fun _ U o U' => ∃ v L, o = .returned v ∧ Q v U'.heap L ∧ FrameEnd U o U' L rm.cells rm.slots))
    (eT : T.heap = h) (hd : decode bytes pc = .ok (.invokestatic i, 3)) (argsL : List Value) (rest : List Value) (hS : S = argsL.reverse ++ rest) (has : as' = argsL.toArray) {ps : List FieldType} {r : Option FieldType} (hpd : parseMethodDescriptor y.desc = some ⟨ps, r⟩) (hlen : argsL.length = ps.length) (hsz : Ls.size = maxL)
    (hf : rm.frames + 1 ≤ R.frames) (hl : (rest.map fun v => v.category).sum + (ym + 11) + rm.locals ≤ R.locals) (hc : cells + rm.cells ≤ R.cells) (hsl : slots + rm.slots ≤ R.slots) (hq : pc + 3 = q)
    (K : ∀ (T' : State) (v : Option Value) (L : List Loc), Stand p l e R s m args below meth c T' (locs ++ L) (cells + rm.cells) (slots + rm.slots) → Q v T'.heap L → Go p e below F (T'.setTop (mkF m q Ls (v.toList ++ rest)))) : Go p e below F (T.setTop (mkF m pc Ls S)) := by
  subst hq hS has
  obtain ⟨hx, hZ, hby, hml, hown, hnm, hret, hlk⟩ := C
  obtain ⟨v, _, ⟨T1, L1, k1, n1⟩, -, X1, ⟨Lc, hQ, l1, y1, z1⟩, st⟩ := Jvm.LawKit.callS X hx hown (mvT hZ w1) (mvT hZ w2) (mvT hZ w3) (mvT hZ w4) hy (backOf (W := (rest.map fun v => v.category).sum) hM hZ w4 w3 hf hl) (g := mkF m pc Ls (argsL.reverse ++ rest)) rfl (by rw [hml]; exact hsz) (argsL := argsL) (rest := rest) (lenOf hpd hlen) rfl (by show 2 * 0 + _ ≤ _; omega) (hb hby hd) (fun _ _ => ⟨rfl, eT, hc, hsl⟩)
  dsimp only [Pt.U, Pt.locs, Pt.cells, Pt.slots] at X1 l1 y1 z1 st hQ
  subst l1 y1 z1
  exact of st (K T1 v Lc X1 hQ)
theorem callI (X : Stand p l e R s m args below meth c T locs cells slots) (C : Cx p s m meth c Z bytes maxL own mname ret) {y : MethodName} {i : Nat} {yb : ByteArray} {ym : Nat} (hy1 : y.name = "<init>") (w1 : (Jvm.Cond.methodLink own i y).before a0 Z = true) (w2 : (Jvm.Cond.instanceMethod y).before a0 Z = true) (w3 : (Jvm.Cond.initialized y.cls).before a0 Z = true) (w4 : (Jvm.Cond.code y yb ym none).before a0 Z = true) (hy : y.cls ≠ "java/lang/invoke/MethodHandle" ∧ y.cls ≠ "java/lang/invoke/VarHandle")
    {rm : Room} {as' : Array Value} {Q : Option Value → Heap → List Loc → Prop} (hM : MetFree l y (head1 [Jvm.Cond.code y yb ym none] rm) (fun a U => a = as' ∧ Z.Warmed39 U.vm ∧ U.heap = h) (fun _ _ _ _ _ => True) (fun _ U o U' => ∃ v L, o = .returned v ∧ Q v U'.heap L ∧ FrameEnd U o U' L rm.cells rm.slots))
    (eT : T.heap = h) (hd : decode bytes pc = .ok (.invokespecial i, 3)) {a : Addr} (argsL : List Value) (rest : List Value) (hS : S = argsL.reverse ++ .ref a :: rest) (has : as' = (.ref a :: argsL).toArray) {ps : List FieldType} {r : Option FieldType} (hpd : parseMethodDescriptor y.desc = some ⟨ps, r⟩) (hlen : argsL.length = ps.length) (hsz : Ls.size = maxL)
    (hf : rm.frames + 1 ≤ R.frames) (hl : (rest.map fun v => v.category).sum + (ym + 11) + rm.locals ≤ R.locals) (hc : cells + rm.cells ≤ R.cells) (hsl : slots + rm.slots ≤ R.slots) (hq : pc + 3 = q)
    (K : ∀ (T' : State) (v : Option Value) (L : List Loc), Stand p l e R s m args below meth c T' (locs ++ L) (cells + rm.cells) (slots + rm.slots) → Q v T'.heap L → Go p e below F (T'.setTop (mkF m q Ls (v.toList ++ rest)))) : Go p e below F (T.setTop (mkF m pc Ls S)) := by
  subst hq hS has
  obtain ⟨hx, hZ, hby, hml, hown, hnm, hret, hlk⟩ := C
  obtain ⟨v, _, ⟨T1, L1, k1, n1⟩, -, X1, ⟨Lc, hQ, l1, y1, z1⟩, st⟩ := X.specialBack hx hy1 hown (mvT hZ w1) (mvT hZ w2) (mvT hZ w4) hy (backOf (W := (rest.map fun v => v.category).sum) hM hZ w4 w3 hf hl) (g := mkF m pc Ls (argsL.reverse ++ .ref a :: rest)) rfl (by rw [hml]; exact hsz) (Steps.refl _) (a := a) (argsL := argsL) (rest := rest) (lenOf hpd hlen) rfl (by show 2 * 0 + _ ≤ _; omega) (hb hby hd) (fun _ _ => ⟨rfl, eT, hc, hsl⟩)
  dsimp only [Pt.U, Pt.locs, Pt.cells, Pt.slots] at X1 l1 y1 z1 st hQ
  subst l1 y1 z1
  exact tr st (K T1 v Lc X1 hQ)
theorem callV (X : Stand p l e R s m args below meth c T locs cells slots) (C : Cx p s m meth c Z bytes maxL own mname ret) {y z : MethodName} {i : Nat} {Cn : String} {yb : ByteArray} {ym : Nat} {yr : Option FieldType} (w1 : (Jvm.Cond.methodLink own i y).before a0 Z = true) (w2 : (Jvm.Cond.declares y).before a0 Z = true) (hnf : NotFace s y) (ws : (Jvm.Cond.selects Cn y z).before a0 Z = true) (wi : (Jvm.Cond.instanceMethod z).before a0 Z = true) (w3 : (Jvm.Cond.initialized z.cls).before a0 Z = true) (w4 : (Jvm.Cond.code z yb ym yr).before a0 Z = true) (hy : y.cls ≠ "java/lang/invoke/MethodHandle" ∧ y.cls ≠ "java/lang/invoke/VarHandle")
    {rm : Room} {as' : Array Value} {Q : Option Value → Heap → List Loc → Prop} (hM : MetFree l z (head1 [Jvm.Cond.code z yb ym yr] rm) (fun a U => a = as' ∧ Z.Warmed39 U.vm ∧ U.heap = h) (fun _ _ _ _ _ => True) (fun _ U o U' => ∃ v L, o = .returned v ∧ Q v U'.heap L ∧ FrameEnd U o U' L rm.cells rm.slots))
    (eT : T.heap = h) {a : Addr} (E : Exa Z h a Cn) (hd : decode bytes pc = .ok (.invokevirtual i, 3)) (argsL : List Value) (rest : List Value) (hS : S = argsL.reverse ++ .ref a :: rest) (has : as' = (.ref a :: argsL).toArray) {ps : List FieldType} {r : Option FieldType} (hpd : parseMethodDescriptor y.desc = some ⟨ps, r⟩) (hlen : argsL.length = ps.length) (hsz : Ls.size = maxL)
    (hf : rm.frames + 1 ≤ R.frames) (hl : (rest.map fun v => v.category).sum + (ym + 11) + rm.locals ≤ R.locals) (hc : cells + rm.cells ≤ R.cells) (hsl : slots + rm.slots ≤ R.slots) (hq : pc + 3 = q)
    (K : ∀ (T' : State) (v : Option Value) (L : List Loc), Stand p l e R s m args below meth c T' (locs ++ L) (cells + rm.cells) (slots + rm.slots) → Q v T'.heap L → Go p e below F (T'.setTop (mkF m q Ls (v.toList ++ rest)))) : Go p e below F (T.setTop (mkF m pc Ls S)) := by
  subst hq hS has
  obtain ⟨hx, hZ, hby, hml, hown, hnm, hret, hlk⟩ := C
  obtain ⟨cq, kq, qa, qb, qc⟩ := isOf hZ eT E
  obtain ⟨v, _, ⟨T1, L1, k1, n1⟩, -, X1, ⟨Lc, hQ, l1, y1, z1⟩, st⟩ := X.virtualBack hx hown (mvT hZ w1) (mvT hZ w2) hnf (mvT hZ ws) (mvT hZ wi) hy (backOf (W := (rest.map fun v => v.category).sum) hM hZ w4 w3 hf hl) qa qc (g := mkF m pc Ls (argsL.reverse ++ .ref a :: rest)) rfl (by rw [hml]; exact hsz) (Steps.refl _) (argsL := argsL) (rest := rest) (lenOf hpd hlen) rfl (by show 2 * 0 + _ ≤ _; omega) (hb hby hd) (fun _ _ => ⟨rfl, eT, hc, hsl⟩)
  dsimp only [Pt.U, Pt.locs, Pt.cells, Pt.slots] at X1 l1 y1 z1 st hQ
  subst l1 y1 z1
  exact tr st (K T1 v Lc X1 hQ)
theorem nf (C : Cx p s m meth c Z bytes maxL own mname ret) {Cn : String} {y : MethodName} (ws : (Jvm.Cond.selects Cn y y).before a0 Z = true) : NotFace s y := notFace_of_selects (args := #[]) (mvT C.2.1 ws)
/-! objects -/
theorem newO (X : Stand p l e R s m args below meth c T locs cells slots) (C : Cx p s m meth c Z bytes maxL own mname ret) {i n : Nat} {Cn : String} (w1 : (Jvm.Cond.classLink own i Cn).before a0 Z = true) (w2 : (Jvm.Cond.instantiable Cn n).before a0 Z = true) (w3 : (Jvm.Cond.initialized Cn).before a0 Z = true) (eT : T.heap = h) (hd : decode bytes pc = .ok (.new i, 3)) (hc : cells + 1 ≤ R.cells) (hl : slots + n ≤ R.slots) (hq : pc + 3 = q)
    (K : ∀ (T' : State) (h' : Heap) (b : Addr), Stand p l e R s m args below meth c T' locs (cells + 1) (slots + n) → T'.heap = h' → b = h.size → Ext h h' → Exa Z h' b Cn → (∀ {O nm d : String} {ty : FieldType}, Laid Z a0 Cn O nm d → parseFieldDescriptor d = some ty → Fld Z h' b O nm d (defaultValue ty)) → Go p e below F (T'.setTop (mkF m q Ls (.ref b :: S)))) : Go p e below F (T.setTop (mkF m pc Ls S)) := by
  subst hq
  obtain ⟨hx, hZ, hby, hml, hown, hnm, hret, hlk⟩ := C
  obtain ⟨T1, h1, X1, e1, E1, A1, D1, -, st⟩ := Jvm.RoadKit.newO X hx hZ hown w1 w2 w3 eT (g := mkF m pc Ls S) rfl (hb hby hd) hc hl
  exact of st (K T1 h1 _ X1 e1 rfl E1 A1 D1)
theorem getF (X : Stand p l e R s m args below meth c T locs cells slots) (C : Cx p s m meth c Z bytes maxL own mname ret) {i : Nat} {R0 O n d host : String} (w : (Jvm.Cond.fieldLink own i R0 n d).before a0 Z = true ∨ (Jvm.Cond.fieldLinkNest own i R0 n d host).before a0 Z = true) (via : Via Z R0 O n d) (eT : T.heap = h) {a : Addr} {v : Value} (F0 : Fld Z h a O n d v) (hd : decode bytes pc = .ok (.getfield i, 3)) (hq : pc + 3 = q)
    (K : ∀ (T' : State), Stand p l e R s m args below meth c T' locs cells slots → T'.heap = h → Go p e below F (T'.setTop (mkF m q Ls (v :: S)))) : Go p e below F (T.setTop (mkF m pc Ls (.ref a :: S))) := by
  subst hq
  obtain ⟨hx, hZ, hby, hml, hown, hnm, hret, hlk⟩ := C
  obtain ⟨T1, X1, e1, st⟩ := Jvm.RoadKit.getF X hx hZ hown w via eT F0 (g := mkF m pc Ls (.ref a :: S)) rfl rfl (hb hby hd)
  exact of st (K T1 X1 e1)
theorem putF (X : Stand p l e R s m args below meth c T locs cells slots) (C : Cx p s m meth c Z bytes maxL own mname ret) {i kk : Nat} {R0 O n d host Cn : String} {ty : FieldType} (w : (Jvm.Cond.fieldLink own i R0 n d).before a0 Z = true ∨ (Jvm.Cond.fieldLinkNest own i R0 n d host).before a0 Z = true) (via : Via Z R0 O n d) (eT : T.heap = h) {a : Addr} {v old : Value} (F0 : Fld Z h a O n d old) (E : Exa Z h a Cn) (L : (Jvm.Cond.lays Cn O n d).before a0 Z = true ∨ ((Jvm.Cond.laysFinal Cn O n d).before a0 Z = true ∧ own = O ∧ mname = "<init>")) (wi : (Jvm.Cond.instantiable Cn kk).before a0 Z = true) (hty : parseFieldDescriptor d = some ty) (hn : narrow ty v = v) (hf : fits ty v = true) (hd : decode bytes pc = .ok (.putfield i, 3)) (hq : pc + 3 = q)
    (K : ∀ (T' : State) (h' : Heap), Stand p l e R s m args below meth c T' (locs ++ [⟨a, Jvm.RoadKit.slotOf Z O n d⟩]) cells slots → T'.heap = h' → Wr h h' a (Jvm.RoadKit.slotOf Z O n d) v → Go p e below F (T'.setTop (mkF m q Ls S))) : Go p e below F (T.setTop (mkF m pc Ls (v :: .ref a :: S))) := by
  subst hq
  obtain ⟨hx, hZ, hby, hml, hown, hnm, hret, hlk⟩ := C
  obtain ⟨T1, h1, X1, e1, W1, st⟩ := Jvm.RoadKit.putF X hx hZ hown w via eT F0 E (L.imp id fun q => ⟨q.1, q.2.1, hnm.trans q.2.2⟩) wi hty hn hf (g := mkF m pc Ls (v :: .ref a :: S)) rfl rfl (hb hby hd)
  exact of st (K T1 h1 X1 e1 W1)
theorem getS (X : Stand p l e R s m args below meth c T locs cells slots) (C : Cx p s m meth c Z bytes maxL own mname ret) {i : Nat} {R0 O n d : String} (w : (Jvm.Cond.fieldLink own i R0 n d).before a0 Z = true) (via : Via Z R0 O n d) (eT : T.heap = h) {v : Value} (F0 : Sta Z h O n d v) (hd : decode bytes pc = .ok (.getstatic i, 3)) (hq : pc + 3 = q)
    (K : ∀ (T' : State), Stand p l e R s m args below meth c T' locs cells slots → T'.heap = h → Go p e below F (T'.setTop (mkF m q Ls (v :: S)))) : Go p e below F (T.setTop (mkF m pc Ls S)) := by
  subst hq
  obtain ⟨hx, hZ, hby, hml, hown, hnm, hret, hlk⟩ := C
  obtain ⟨T1, X1, e1, st⟩ := Jvm.RoadKit.getS X hx hZ hown (host := "") w via eT F0 (g := mkF m pc Ls S) rfl (hb hby hd)
  exact of st (K T1 X1 e1)
/-! arrays: Arv Z h a k ty n vs d -/
theorem inb {cl : Cell} {n j : Int32} (S : cl.slots.size = n.toNatClampNeg) (h1 : 0 ≤ j.toInt) (h2 : j.toInt < n.toInt) : ¬ (j < 0 ∨ cl.slots.size ≤ j.toNatClampNeg) := inb_of S ⟨by rw [Int32.lt_iff_toInt_lt]; have : (0 : Int32).toInt = 0 := rfl; omega, by rw [Int32.lt_iff_toInt_lt]; exact h2⟩
theorem iaload (X : Stand p l e R s m args below meth c T locs cells slots) (C : Cx p s m meth c Z bytes maxL own mname ret) (eT : T.heap = h) {a : Addr} {k : ClassId} {n j x : Int32} {vs : List Value} {d : Value} (V : Arv Z h a k .int n vs d) (h1 : 0 ≤ j.toInt) (h2 : j.toInt < n.toInt) (hv : vs.getD j.toNatClampNeg d = .int x) (hd : decode bytes pc = .ok (.iaload, 1)) (hq : pc + 1 = q) (K : Go p e below F (T.setTop (mkF m q Ls (.int x :: S)))) : Go p e below F (T.setTop (mkF m pc Ls (.int j :: .ref a :: S))) := by
  subst hq
  obtain ⟨cl, Ar, q1, S1, N1, H1, G1⟩ := V
  exact of (X.iaload C.1 (j := j) (v := .int x) (by rw [eT]; exact Ar.1) (State.isArrayOf_alike C.2.1.alike Ar.2.1) Ar.2.2 (inb S1 h1 h2) (Has.at H1 (inb S1 h1 h2) hv) (g := mkF m pc Ls (.int j :: .ref a :: S)) rfl rfl (hb C.2.2.1 hd)) K
theorem caload (X : Stand p l e R s m args below meth c T locs cells slots) (C : Cx p s m meth c Z bytes maxL own mname ret) (eT : T.heap = h) {a : Addr} {k : ClassId} {n j x : Int32} {vs : List Value} {d : Value} (V : Arv Z h a k .char n vs d) (h1 : 0 ≤ j.toInt) (h2 : j.toInt < n.toInt) (hv : vs.getD j.toNatClampNeg d = .int x) (hd : decode bytes pc = .ok (.caload, 1)) (hq : pc + 1 = q) (K : Go p e below F (T.setTop (mkF m q Ls (.int x :: S)))) : Go p e below F (T.setTop (mkF m pc Ls (.int j :: .ref a :: S))) := by
  subst hq
  obtain ⟨cl, Ar, q1, S1, N1, H1, G1⟩ := V
  exact of (X.caload C.1 (j := j) (v := .int x) (by rw [eT]; exact Ar.1) (State.isArrayOf_alike C.2.1.alike Ar.2.1) Ar.2.2 (inb S1 h1 h2) (Has.at H1 (inb S1 h1 h2) hv) (g := mkF m pc Ls (.int j :: .ref a :: S)) rfl rfl (hb C.2.2.1 hd)) K
theorem baload (X : Stand p l e R s m args below meth c T locs cells slots) (C : Cx p s m meth c Z bytes maxL own mname ret) (eT : T.heap = h) {a : Addr} {k : ClassId} {n j x : Int32} {vs : List Value} {d : Value} (V : Arv Z h a k .byte n vs d) (h1 : 0 ≤ j.toInt) (h2 : j.toInt < n.toInt) (hv : vs.getD j.toNatClampNeg d = .int x) (hd : decode bytes pc = .ok (.baload, 1)) (hq : pc + 1 = q) (K : Go p e below F (T.setTop (mkF m q Ls (.int x :: S)))) : Go p e below F (T.setTop (mkF m pc Ls (.int j :: .ref a :: S))) := by
  subst hq
  obtain ⟨cl, Ar, q1, S1, N1, H1, G1⟩ := V
  exact of (X.baloadBytes C.1 (j := j) (v := .int x) (by rw [eT]; exact Ar.1) (State.isArrayOf_alike C.2.1.alike Ar.2.1) Ar.2.2 (inb S1 h1 h2) (Has.at H1 (inb S1 h1 h2) hv) (g := mkF m pc Ls (.int j :: .ref a :: S)) rfl rfl (hb C.2.2.1 hd)) K
theorem aaload (X : Stand p l e R s m args below meth c T locs cells slots) (C : Cx p s m meth c Z bytes maxL own mname ret) (eT : T.heap = h) {a : Addr} {k : ClassId} {n j : Int32} {x : Value} {vs : List Value} {d : Value} {ty : FieldType} (hty : ty.isReference = true) (V : Arv Z h a k ty n vs d) (h1 : 0 ≤ j.toInt) (h2 : j.toInt < n.toInt) (hv : vs.getD j.toNatClampNeg d = x) (hd : decode bytes pc = .ok (.aaload, 1)) (hq : pc + 1 = q) (K : Go p e below F (T.setTop (mkF m q Ls (x :: S)))) : Go p e below F (T.setTop (mkF m pc Ls (.int j :: .ref a :: S))) := by
  subst hq
  obtain ⟨cl, Ar, q1, S1, N1, H1, G1⟩ := V
  exact of (X.aaload C.1 (j := j) (v := x) (by rw [eT]; exact Ar.1) (State.isArrayOf_alike C.2.1.alike Ar.2.1) hty Ar.2.2 (inb S1 h1 h2) (Has.at H1 (inb S1 h1 h2) hv) (g := mkF m pc Ls (.int j :: .ref a :: S)) rfl rfl (hb C.2.2.1 hd)) K
theorem aaloadC (X : Stand p l e R s m args below meth c T locs cells slots) (C : Cx p s m meth c Z bytes maxL own mname ret) (eT : T.heap = h) {a : Addr} {cl : Cell} {j : Int32} {x : Value} {ty : FieldType} (hty : ty.isReference = true) (Ar : Arr Z h a cl ty) (hin : ¬ (j < 0 ∨ cl.slots.size ≤ j.toNatClampNeg)) (hat : cl.slots[j.toNatClampNeg]? = some x) (hd : decode bytes pc = .ok (.aaload, 1)) (hq : pc + 1 = q) (K : Go p e below F (T.setTop (mkF m q Ls (x :: S)))) : Go p e below F (T.setTop (mkF m pc Ls (.int j :: .ref a :: S))) := by
  subst hq
  exact of (X.aaload C.1 (j := j) (v := x) (by rw [eT]; exact Ar.1) (State.isArrayOf_alike C.2.1.alike Ar.2.1) hty Ar.2.2 hin hat (g := mkF m pc Ls (.int j :: .ref a :: S)) rfl rfl (hb C.2.2.1 hd)) K
theorem arraylength (X : Stand p l e R s m args below meth c T locs cells slots) (C : Cx p s m meth c Z bytes maxL own mname ret) (eT : T.heap = h) {a : Addr} {k : ClassId} {n : Int32} {vs : List Value} {d : Value} {ty : FieldType} (V : Arv Z h a k ty n vs d) (hd : decode bytes pc = .ok (.arraylength, 1)) (hq : pc + 1 = q) (K : Go p e below F (T.setTop (mkF m q Ls (.int n :: S)))) : Go p e below F (T.setTop (mkF m pc Ls (.ref a :: S))) := by
  subst hq
  obtain ⟨cl, Ar, q1, S1, N1, H1, G1⟩ := V
  refine of (X.arraylength C.1 (by rw [eT]; exact Ar.1) (State.isArrayOf_alike C.2.1.alike Ar.2.1) (g := mkF m pc Ls (.ref a :: S)) rfl rfl (hb C.2.2.1 hd)) ?_
  rw [len_of S1 N1]
  exact K
theorem iastore (X : Stand p l e R s m args below meth c T locs cells slots) (C : Cx p s m meth c Z bytes maxL own mname ret) (eT : T.heap = h) {a : Addr} {k : ClassId} {n j x : Int32} {vs : List Value} {d : Value} (V : Arv Z h a k .int n vs d) (h1 : 0 ≤ j.toInt) (h2 : j.toInt < n.toInt) (hlen : j.toNatClampNeg < vs.length) (hd : decode bytes pc = .ok (.iastore, 1)) (hq : pc + 1 = q)
    (K : ∀ (T' : State) (h' : Heap), Stand p l e R s m args below meth c T' (locs ++ [⟨a, j.toNatClampNeg⟩]) cells slots → T'.heap = h' → Wr h h' a j.toNatClampNeg (.int x) → Arv Z h' a k .int n (vs.set j.toNatClampNeg (.int x)) d → Go p e below F (T'.setTop (mkF m q Ls S))) : Go p e below F (T.setTop (mkF m pc Ls (.int x :: .int j :: .ref a :: S))) := by
  subst hq
  obtain ⟨cl, Ar, q1, S1, N1, H1, G1⟩ := V
  obtain ⟨T1, h1', X1, e1, W1, st⟩ := stI X C.1 C.2.1 eT Ar (j := j) (inb S1 h1 h2) (g := mkF m pc Ls (.int x :: .int j :: .ref a :: S)) rfl rfl (hb C.2.2.1 hd)
  exact of st (K T1 h1' X1 e1 W1 (Arv.set Ar q1 S1 N1 H1 G1 rfl W1 _ rfl hlen))
theorem castore (X : Stand p l e R s m args below meth c T locs cells slots) (C : Cx p s m meth c Z bytes maxL own mname ret) (eT : T.heap = h) {a : Addr} {k : ClassId} {n j x : Int32} {vs : List Value} {d : Value} (V : Arv Z h a k .char n vs d) (h1 : 0 ≤ j.toInt) (h2 : j.toInt < n.toInt) (hlen : j.toNatClampNeg < vs.length) (hd : decode bytes pc = .ok (.castore, 1)) (hq : pc + 1 = q)
    (K : ∀ (T' : State) (h' : Heap), Stand p l e R s m args below meth c T' (locs ++ [⟨a, j.toNatClampNeg⟩]) cells slots → T'.heap = h' → Wr h h' a j.toNatClampNeg (.int (nar .char x)) → Arv Z h' a k .char n (vs.set j.toNatClampNeg (.int (nar .char x))) d → Go p e below F (T'.setTop (mkF m q Ls S))) : Go p e below F (T.setTop (mkF m pc Ls (.int x :: .int j :: .ref a :: S))) := by
  subst hq
  obtain ⟨cl, Ar, q1, S1, N1, H1, G1⟩ := V
  obtain ⟨T1, h1', X1, e1, W1, st⟩ := stC X C.1 C.2.1 eT Ar (j := j) (inb S1 h1 h2) (g := mkF m pc Ls (.int x :: .int j :: .ref a :: S)) rfl rfl (hb C.2.2.1 hd)
  exact of st (K T1 h1' X1 e1 W1 (Arv.set Ar q1 S1 N1 H1 G1 (fits_nar_char _) W1 _ rfl hlen))
theorem bastore (X : Stand p l e R s m args below meth c T locs cells slots) (C : Cx p s m meth c Z bytes maxL own mname ret) (eT : T.heap = h) {a : Addr} {k : ClassId} {n j x : Int32} {vs : List Value} {d : Value} (V : Arv Z h a k .byte n vs d) (h1 : 0 ≤ j.toInt) (h2 : j.toInt < n.toInt) (hlen : j.toNatClampNeg < vs.length) (hd : decode bytes pc = .ok (.bastore, 1)) (hq : pc + 1 = q)
    (K : ∀ (T' : State) (h' : Heap), Stand p l e R s m args below meth c T' (locs ++ [⟨a, j.toNatClampNeg⟩]) cells slots → T'.heap = h' → Wr h h' a j.toNatClampNeg (.int x.toInt8.toInt32) → Arv Z h' a k .byte n (vs.set j.toNatClampNeg (.int x.toInt8.toInt32)) d → Go p e below F (T'.setTop (mkF m q Ls S))) : Go p e below F (T.setTop (mkF m pc Ls (.int x :: .int j :: .ref a :: S))) := by
  subst hq
  obtain ⟨cl, Ar, q1, S1, N1, H1, G1⟩ := V
  obtain ⟨T1, h1', X1, e1, W1, st⟩ := stB X C.1 C.2.1 eT Ar (j := j) (inb S1 h1 h2) (g := mkF m pc Ls (.int x :: .int j :: .ref a :: S)) rfl rfl (hb C.2.2.1 hd)
  exact of st (K T1 h1' X1 e1 W1 (Arv.set Ar q1 S1 N1 H1 G1 (fits_nar_byte _) W1 _ rfl hlen))
theorem aastore (X : Stand p l e R s m args below meth c T locs cells slots) (C : Cx p s m meth c Z bytes maxL own mname ret) (eT : T.heap = h) {a : Addr} {k : ClassId} {n j : Int32} {x : Value} {vs : List Value} {d : Value} {ty : FieldType} (hty : ty.isReference = true) (hf : fits ty x = true) (V : Arv Z h a k ty n vs d) (hs : ∀ cl, Arr Z h a cl ty → cl.cls = k → Sto Z h a x) (h1 : 0 ≤ j.toInt) (h2 : j.toInt < n.toInt) (hlen : j.toNatClampNeg < vs.length) (hd : decode bytes pc = .ok (.aastore, 1)) (hq : pc + 1 = q)
    (K : ∀ (T' : State) (h' : Heap), Stand p l e R s m args below meth c T' (locs ++ [⟨a, j.toNatClampNeg⟩]) cells slots → T'.heap = h' → Wr h h' a j.toNatClampNeg x → Arv Z h' a k ty n (vs.set j.toNatClampNeg x) d → Go p e below F (T'.setTop (mkF m q Ls S))) : Go p e below F (T.setTop (mkF m pc Ls (x :: .int j :: .ref a :: S))) := by
  subst hq
  obtain ⟨cl, Ar, q1, S1, N1, H1, G1⟩ := V
  obtain ⟨T1, h1', X1, e1, W1, st⟩ := stR X C.1 C.2.1 eT Ar (j := j) (inb S1 h1 h2) hty (hs cl Ar q1) (g := mkF m pc Ls (x :: .int j :: .ref a :: S)) rfl rfl (hb C.2.2.1 hd)
  exact of st (K T1 h1' X1 e1 W1 (Arv.set Ar q1 S1 N1 H1 G1 hf W1 _ rfl hlen))
theorem newarray (X : Stand p l e R s m args below meth c T locs cells slots) (C : Cx p s m meth c Z bytes maxL own mname ret) {aty : ArrayType} (w : (Jvm.Cond.arrayClass (newarray.typeOf aty)).before a0 Z = true) (eT : T.heap = h) {n : Int32} (hn : 0 ≤ n.toInt) (cap : Nat) (hcap : n.toInt ≤ cap) (hb8 : cap * 8 ≤ 536870912) (hd : decode bytes pc = .ok (.newarray aty, 2)) (hc : cells + 1 ≤ R.cells) (hl : slots + cap ≤ R.slots) (hq : pc + 2 = q)
    (K : ∀ (T' : State) (h' : Heap) (b : Addr) (k : ClassId), Stand p l e R s m args below meth c T' locs (cells + 1) (slots + cap) → T'.heap = h' → b = h.size → Ext h h' → Arv Z h' b k (newarray.typeOf aty) n (List.replicate cap (defaultValue (newarray.typeOf aty))) (defaultValue (newarray.typeOf aty)) → Go p e below F (T'.setTop (mkF m q Ls (.ref b :: S)))) : Go p e below F (T.setTop (mkF m pc Ls (.int n :: S))) := by
  subst hq
  have hn' : ¬ n < 0 := by rw [Int32.lt_iff_toInt_lt]; have : (0 : Int32).toInt = 0 := rfl; omega
  obtain ⟨T1, h1, k1, X1, e1, E1, A1, st⟩ := newP X C.1 C.2.1 w eT (g := mkF m pc Ls (.int n :: S)) rfl (hb C.2.2.1 hd) rfl hn' (cap := cap) (by simp only [Int32.toNatClampNeg]; omega) hb8 hc hl
  exact of st (K T1 h1 _ k1 X1 e1 rfl E1 ((Arv.new A1 hn').pad (pad_rep [] _ cap)))
theorem anewarray (X : Stand p l e R s m args below meth c T locs cells slots) (C : Cx p s m meth c Z bytes maxL own mname ret) {i : Nat} {Cn : String} (w1 : (Jvm.Cond.classLink own i Cn).before a0 Z = true) (w2 : (Jvm.Cond.arrayOver (.object Cn)).before a0 Z = true) (eT : T.heap = h) {n : Int32} (hn : 0 ≤ n.toInt) (cap : Nat) (hcap : n.toInt ≤ cap) (hb8 : cap * 8 ≤ 536870912) (hd : decode bytes pc = .ok (.anewarray i, 3)) (hc : cells + 1 ≤ R.cells) (hl : slots + cap ≤ R.slots) (hq : pc + 3 = q)
    (K : ∀ (T' : State) (h' : Heap) (b : Addr) (k : ClassId), Stand p l e R s m args below meth c T' locs (cells + 1) (slots + cap) → T'.heap = h' → b = h.size → Ext h h' → Ovr Z k Cn → Arv Z h' b k (.object Cn) n (List.replicate cap .null) .null → Go p e below F (T'.setTop (mkF m q Ls (.ref b :: S)))) : Go p e below F (T.setTop (mkF m pc Ls (.int n :: S))) := by
  subst hq
  have hn' : ¬ n < 0 := by rw [Int32.lt_iff_toInt_lt]; have : (0 : Int32).toInt = 0 := rfl; omega
  obtain ⟨T1, h1, k1, X1, e1, E1, A1, O1, st⟩ := newR X C.1 C.2.1 C.2.2.2.2.1 w1 w2 eT (g := mkF m pc Ls (.int n :: S)) rfl (hb C.2.2.1 hd) rfl hn' (cap := cap) (by simp only [Int32.toNatClampNeg]; omega) hb8 hc hl
  exact of st (K T1 h1 _ k1 X1 e1 rfl E1 O1 ((Arv.new A1 hn').pad (pad_rep [] _ cap)))
theorem keepRefl (h : Heap) : Keep h h [] := Keep.refl h []
/-! kinds of objects -/
theorem nsRoot {O Kn : String} {n : Nat} (w : (Jvm.Cond.noSuperclass O).before a0 Z = true) (wi : (Jvm.Cond.instantiable Kn n).before a0 Z = true) (hn : O ≠ Kn) : NS Z O Kn := by
  obtain ⟨c, k, h1, h2, h3, -, -⟩ := Cond.noSuperclass_spec w
  obtain ⟨t, k2, g1, -⟩ := Cond.instantiable_spec wi
  have ne := ids_ne h1 g1 hn
  refine ⟨c, t, h1, g1, fun fuel => ?_⟩
  cases fuel with
  | zero => rfl
  | succ f => simp [Vm.isSubclassAux, ne, h2, h3]
theorem nsNo {Cn S Kn : String} {n : Nat} (w : (Jvm.Cond.superclass Cn S).before a0 Z = true) (wi : (Jvm.Cond.instantiable Kn n).before a0 Z = true) (nn : NS Z Cn Kn) (hn : Cn ≠ Kn) : ∃ c t, Z.vm.findClass Cn = some c ∧ Z.vm.findClass Kn = some t ∧ Z.vm.assignable c t = false := by
  obtain ⟨c, t, h0, g0, n3⟩ := nn
  obtain ⟨p, k, kp, h1, h2, h3, h4, h5, -, h7⟩ := Cond.superclass_spec h0 w
  obtain ⟨t', k', g1, g2, g5, g6, -⟩ := Cond.instantiable_spec wi
  cases g0.symm.trans g1
  have g7 : k'.isInterface = false := (Bool.or_eq_false_iff.mp g6).1
  have ne := ids_ne h0 g0 hn
  refine ⟨c, t, h0, g0, ?_⟩
  show Z.vm.assignableAux (255 + 1) c t = false
  simp [Vm.assignableAux, ne, h2, g2, h5, g5, g7, Vm.isSubclass, n3]
theorem cast (X : Stand p l e R s m args below meth c T locs cells slots) (C : Cx p s m meth c Z bytes maxL own mname ret) {i : Nat} {Kn : String} (w : (Jvm.Cond.classLink own i Kn).before a0 Z = true) (eT : T.heap = h) {a : Addr} (I : Ins Z h a Kn true) (hd : decode bytes pc = .ok (.checkcast i, 3)) (hq : pc + 3 = q)
    (K : ∀ (T' : State), Stand p l e R s m args below meth c T' locs cells slots → T'.heap = h → Go p e below F (T'.setTop (mkF m q Ls (.ref a :: S)))) : Go p e below F (T.setTop (mkF m pc Ls (.ref a :: S))) := by
  subst hq
  obtain ⟨T1, X1, e1, st⟩ := castY X C.1 C.2.1 C.2.2.2.2.1 w eT I (g := mkF m pc Ls (.ref a :: S)) rfl rfl (hb C.2.2.1 hd)
  exact of st (K T1 X1 e1)
theorem inst1 (X : Stand p l e R s m args below meth c T locs cells slots) (C : Cx p s m meth c Z bytes maxL own mname ret) {i : Nat} {Kn : String} (w : (Jvm.Cond.classLink own i Kn).before a0 Z = true) (eT : T.heap = h) {a : Addr} (I : Ins Z h a Kn true) (hd : decode bytes pc = .ok (.instanceof i, 3)) (hq : pc + 3 = q)
    (K : ∀ (T' : State), Stand p l e R s m args below meth c T' locs cells slots → T'.heap = h → Go p e below F (T'.setTop (mkF m q Ls (.int 1 :: S)))) : Go p e below F (T.setTop (mkF m pc Ls (.ref a :: S))) := by
  subst hq
  obtain ⟨T1, X1, e1, st⟩ := instY X C.1 C.2.1 C.2.2.2.2.1 w eT I (g := mkF m pc Ls (.ref a :: S)) rfl rfl (hb C.2.2.1 hd)
  exact of st (K T1 X1 e1)
theorem inst0 (X : Stand p l e R s m args below meth c T locs cells slots) (C : Cx p s m meth c Z bytes maxL own mname ret) {i : Nat} {Kn Cn : String} (w : (Jvm.Cond.classLink own i Kn).before a0 Z = true) (eT : T.heap = h) {a : Addr} (E : Exa Z h a Cn) (N : ∃ c t, Z.vm.findClass Cn = some c ∧ Z.vm.findClass Kn = some t ∧ Z.vm.assignable c t = false) (hd : decode bytes pc = .ok (.instanceof i, 3)) (hq : pc + 3 = q)
    (K : ∀ (T' : State), Stand p l e R s m args below meth c T' locs cells slots → T'.heap = h → Go p e below F (T'.setTop (mkF m q Ls (.int 0 :: S)))) : Go p e below F (T.setTop (mkF m pc Ls (.ref a :: S))) := by
  subst hq
  obtain ⟨T1, X1, e1, st⟩ := instNo X C.1 C.2.1 C.2.2.2.2.1 w eT E N (g := mkF m pc Ls (.ref a :: S)) rfl rfl (hb C.2.2.1 hd)
  exact of st (K T1 X1 e1)
theorem instNull (X : Stand p l e R s m args below meth c T locs cells slots) (C : Cx p s m meth c Z bytes maxL own mname ret) {i : Nat} (hd : decode bytes pc = .ok (.instanceof i, 3)) (hq : pc + 3 = q) (K : Go p e below F (T.setTop (mkF m q Ls (.int 0 :: S)))) : Go p e below F (T.setTop (mkF m pc Ls (.null :: S))) := by
  subst hq; exact of (X.instanceofNull C.1 (g := mkF m pc Ls (.null :: S)) rfl rfl (hb C.2.2.1 hd)) K
theorem castNull (X : Stand p l e R s m args below meth c T locs cells slots) (C : Cx p s m meth c Z bytes maxL own mname ret) {i : Nat} (hd : decode bytes pc = .ok (.checkcast i, 3)) (hq : pc + 3 = q) (K : Go p e below F (T.setTop (mkF m q Ls (.null :: S)))) : Go p e below F (T.setTop (mkF m pc Ls (.null :: S))) := by
  subst hq; exact of (X.checkcastNull C.1 (g := mkF m pc Ls (.null :: S)) rfl rfl (hb C.2.2.1 hd)) K
theorem acmp (X : Stand p l e R s m args below meth c T locs cells slots) (C : Cx p s m meth c Z bytes maxL own mname ret) {cd : ACond} {o : Int} {x y : Value} (h1 : x.isRef = true) (h2 : y.isRef = true) {same : Bool} (hs : decide (x = y) = same) (hd : decode bytes pc = .ok (.if_acmp cd o, 3)) (ho : 0 ≤ (pc : Int) + o) (hq : q = if acV cd same = true then ((pc : Int) + o).toNat else pc + 3) (K : Go p e below F (T.setTop (mkF m q Ls S))) : Go p e below F (T.setTop (mkF m pc Ls (y :: x :: S))) :=
  of (fun t k => Jvm.RoadKit.acmp (g := mkF m pc Ls (y :: x :: S)) X C.1 rfl h1 h2 rfl (hb C.2.2.1 hd) rfl hs ho hq k) K
end
end W
end Jvm.Pilot.@@N@@
namespace Jvm.Pilot.@@N@@
open Jvm Jvm.ClassFile Sem Op Lib Jvm.Free Jvm.Stand Jvm.LawKit Jvm.RoadKit Bundle Jvm.Pilot.@@N@@.Jvm.D
theorem own_03 (x v : Int32) (h : (x &&& (3 : Int32)) = v) : v = 0 ∨ v = 1 ∨ v = 2 ∨ v = 3 := by
  have a1 := c_mask x 3 2 (by decide) (by decide)
  rw [h] at a1
  have b1 : 0 ≤ v.toInt := by omega
  have b2 : v.toInt ≤ 3 := by omega
  exact W.small (P := fun v => v = 0 ∨ v = 1 ∨ v = 2 ∨ v = 3) 3 (by decide +kernel) v b1 b2
theorem own_bb {x v : Int32} (h : x.toInt8.toInt32 = v) : v.toInt8.toInt32 = v := by rw [← h, Int8.toInt8_toInt32]
theorem d1_0 : decode prog_13_method_2_code 0 = .ok (.aload_n 0, 1) := by decide +kernel
theorem d1_1 : decode prog_13_method_2_code 1 = .ok (.arraylength, 1) := by decide +kernel
theorem d1_2 : decode prog_13_method_2_code 2 = .ok (.iconst 3, 1) := by decide +kernel
theorem d1_3 : decode prog_13_method_2_code 3 = .ok (.iadd, 1) := by decide +kernel
theorem d1_4 : decode prog_13_method_2_code 4 = .ok (.newarray .byte, 2) := by decide +kernel
theorem d1_6 : decode prog_13_method_2_code 6 = .ok (.astore_n 1, 1) := by decide +kernel
theorem d1_7 : decode prog_13_method_2_code 7 = .ok (.aload_n 1, 1) := by decide +kernel
theorem d1_8 : decode prog_13_method_2_code 8 = .ok (.iconst 0, 1) := by decide +kernel
theorem d1_9 : decode prog_13_method_2_code 9 = .ok (.bipush 11, 2) := by decide +kernel
theorem d1_11 : decode prog_13_method_2_code 11 = .ok (.bastore, 1) := by decide +kernel
theorem d1_12 : decode prog_13_method_2_code 12 = .ok (.aload_n 0, 1) := by decide +kernel
theorem d1_13 : decode prog_13_method_2_code 13 = .ok (.iconst 0, 1) := by decide +kernel
theorem d1_14 : decode prog_13_method_2_code 14 = .ok (.aload_n 1, 1) := by decide +kernel
theorem d1_15 : decode prog_13_method_2_code 15 = .ok (.iconst 1, 1) := by decide +kernel
theorem d1_16 : decode prog_13_method_2_code 16 = .ok (.aload_n 0, 1) := by decide +kernel
theorem d1_17 : decode prog_13_method_2_code 17 = .ok (.arraylength, 1) := by decide +kernel
theorem d1_18 : decode prog_13_method_2_code 18 = .ok (.invokestatic 9, 3) := by decide +kernel
theorem d1_21 : decode prog_13_method_2_code 21 = .ok (.aload_n 1, 1) := by decide +kernel
theorem d1_22 : decode prog_13_method_2_code 22 = .ok (.aload_n 1, 1) := by decide +kernel
theorem d1_23 : decode prog_13_method_2_code 23 = .ok (.arraylength, 1) := by decide +kernel
theorem d1_24 : decode prog_13_method_2_code 24 = .ok (.iconst 2, 1) := by decide +kernel
theorem d1_25 : decode prog_13_method_2_code 25 = .ok (.isub, 1) := by decide +kernel
theorem d1_26 : decode prog_13_method_2_code 26 = .ok (.bipush 28, 2) := by decide +kernel
theorem d1_28 : decode prog_13_method_2_code 28 = .ok (.bastore, 1) := by decide +kernel
theorem d1_29 : decode prog_13_method_2_code 29 = .ok (.aload_n 1, 1) := by decide +kernel
theorem d1_30 : decode prog_13_method_2_code 30 = .ok (.aload_n 1, 1) := by decide +kernel
theorem d1_31 : decode prog_13_method_2_code 31 = .ok (.arraylength, 1) := by decide +kernel
theorem d1_32 : decode prog_13_method_2_code 32 = .ok (.iconst 1, 1) := by decide +kernel
theorem d1_33 : decode prog_13_method_2_code 33 = .ok (.isub, 1) := by decide +kernel
theorem d1_34 : decode prog_13_method_2_code 34 = .ok (.bipush 13, 2) := by decide +kernel
theorem d1_36 : decode prog_13_method_2_code 36 = .ok (.bastore, 1) := by decide +kernel
theorem d1_37 : decode prog_13_method_2_code 37 = .ok (.aload_n 1, 1) := by decide +kernel
theorem d1_38 : decode prog_13_method_2_code 38 = .ok (.areturn, 1) := by decide +kernel
theorem pn_com_example_orderwire_orderwire_hl7_Mllp : plainName "com/example/orderwire/orderwire/hl7/Mllp" = true := by first | (simp [plainName, overriddenIn]; done) | decide +kernel
def Q1_0 (Z : State) (p0 : Addr) (k0 : ClassId) (h0 : Heap) (n0 : Nat) (v : Option Value) (h : Heap) (L : List Loc) : Prop := ∃ b k, v = some (.ref b) ∧ Fr n0 L ∧ Keep h0 h [] ∧ n0 ≤ b ∧ h0.size ≤ b ∧ Arv Z h b k .byte (3 : Int32) [(.int (11 : Int32)), (.int (28 : Int32)), (.int (13 : Int32))] (.int (0 : Int32))
set_option maxRecDepth 65536 in
set_option maxHeartbeats 40000000 in
theorem rm1_0 (l : Launch) (Z : State) (a0 : Array Value) (hw : ∀ d ∈ tables_1, d.before a0 Z = true) (ws : List Jvm.Cond) (p0 : Addr) (k0 : ClassId) (h0 : Heap) (n0 : Nat) (Z0 : n0 ≤ h0.size) (V0 : Arv Z h0 p0 k0 .byte (0 : Int32) [] (.int (0 : Int32))) :
    MetFree l (⟨"com/example/orderwire/orderwire/hl7/Mllp", "frame", "([B)[B"⟩ : MethodName) (head1 (Jvm.Cond.code (⟨"com/example/orderwire/orderwire/hl7/Mllp", "frame", "([B)[B"⟩ : MethodName) prog_13_method_2_code 2 (some (.array .byte)) :: ws) ({ frames := 1, cells := 1, slots := 3, locals := 40 } : Room)) (fun a U => a = #[(.ref p0)] ∧ Z.Warmed39 U.vm ∧ U.heap = h0) (fun _ _ _ _ _ => True) (fun _ U o U' => ∃ v L, o = .returned v ∧ Q1_0 Z p0 k0 h0 n0 v U'.heap L ∧ FrameEnd U o U' L ({ frames := 1, cells := 1, slots := 3, locals := 40 } : Room).cells ({ frames := 1, cells := 1, slots := 3, locals := 40 } : Room).slots) := by
  refine W.bodyOf (y := (⟨"com/example/orderwire/orderwire/hl7/Mllp", "frame", "([B)[B"⟩ : MethodName)) (as := #[(.ref p0)]) (maxL := 2) (Q := Q1_0 Z p0 k0 h0 n0) (Ls := #[.val (.ref p0), .unset]) (plainFor_of_name pn_com_example_orderwire_orderwire_hl7_Mllp) (fun m => by first | rfl | (simp [entryFrame, mkF, argsToLocals, Value.category]; done)) ?_
  intro p e s m below meth c T0 C X0 e0
  have N0 := Fr.nil n0
  have K0 := Keep.refl h0 []
  refine W.aloadN (q := 1) X0 C d1_0 rfl rfl rfl ?_
  refine W.arraylength (q := 2) X0 C e0 V0 d1_1 rfl ?_
  refine W.iconst (q := 3) (v := 3) X0 C d1_2 rfl rfl ?_
  refine W.iadd (q := 4) X0 C d1_3 rfl ?_
  rw [show ((0 : Int32) + (3 : Int32)) = (3 : Int32) by decide]
  refine W.newarray (q := 6) X0 C (W.ww hw 0 rfl) e0 (by decide) 3 (by decide) (by decide) d1_4 (by decide) (by decide) rfl (fun T1 h1 b1 k1 X1 e1 g1 E1 V1_ => ?_)
  have ne_p0_b1 : p0 ≠ b1 := by rw [g1]; exact Nat.ne_of_lt V0.lt
  have ge_b1 : n0 ≤ b1 := by rw [g1]; exact Z0
  have sz_b1 : h0.size ≤ b1 := by rw [g1]; exact K0.1
  have n0_1 : n0 ≤ h1.size := Nat.le_trans Z0 E1.1
  have V0_2 := V0.ext E1
  have K1 := K0.ext E1
  have V1 : Arv Z h1 b1 k1 .byte (3 : Int32) [(.int (0 : Int32)), (.int (0 : Int32)), (.int (0 : Int32))] (.int (0 : Int32)) := V1_
  refine W.astoreN (q := 7) (L' := #[.val (.ref p0), .val (.ref b1)]) X1 C d1_6 rfl rfl rfl ?_
  refine W.aloadN (q := 8) X1 C d1_7 rfl rfl rfl ?_
  refine W.iconst (q := 9) (v := 0) X1 C d1_8 rfl rfl ?_
  refine W.bipush (q := 11) (v := 11) X1 C d1_9 rfl rfl ?_
  refine W.bastore (q := 12) X1 C e1 V1  (by decide) (by decide) (Nat.le_of_ble_eq_true rfl) d1_11 rfl (fun T3 h3 X3 e3 W3 V3_ => ?_)
  rw [show (11 : Int32).toInt8.toInt32 = (11 : Int32) by decide] at V3_
  have V0_4 := V0_2.other W3 ne_p0_b1
  have V3 : Arv Z h3 b1 k1 .byte (3 : Int32) [(.int (11 : Int32)), (.int (0 : Int32)), (.int (0 : Int32))] (.int (0 : Int32)) := V3_
  have N3 := Fr.snoc X3 N0 ge_b1
  have K3 := K1.wr W3 (Or.inr sz_b1)
  have n0_3 : n0 ≤ h3.size := by rw [W3.size]; exact n0_1
  refine W.aloadN (q := 13) X3 C d1_12 rfl rfl rfl ?_
  refine W.iconst (q := 14) (v := 0) X3 C d1_13 rfl rfl ?_
  refine W.aloadN (q := 15) X3 C d1_14 rfl rfl rfl ?_
  refine W.iconst (q := 16) (v := 1) X3 C d1_15 rfl rfl ?_
  refine W.aloadN (q := 17) X3 C d1_16 rfl rfl rfl ?_
  refine W.arraylength (q := 18) X3 C e3 V0_4 d1_17 rfl ?_
  obtain ⟨T5, h5, L5, X5, e5, N5, K5_, V5_, st5⟩ := cpA X3 C.1 C.2.1 C.2.2.2.2.1 (W.ww hw 5 rfl) (W.ww hw 8 rfl) (W.ww hw 6 rfl) (W.ww hw 7 rfl) e3 V0_4 V3 (Or.inl ⟨rfl, rfl⟩) (by decide) (by decide) (by decide) (by decide) (by decide) (us := []) rfl (Nat.le_of_ble_eq_true rfl) N3 ge_b1 (g := (mkF m 18 #[.val (.ref p0), .val (.ref b1)] [(.int (0 : Int32)), (.int (1 : Int32)), (.ref b1), (.int (0 : Int32)), (.ref p0)])) rfl (by rw [C.2.2.2.1]; rfl) rfl (hb C.2.2.1 d1_18) (by decide) (W := 0) (by show 2 * 0 + _ ≤ _; exact Nat.le_of_eq rfl) (by decide)
  refine W.of st5 ?_
  have V0_6 := V0_4.keep K5_ (ninS ne_p0_b1 nin0)
  have V5 : Arv Z h5 b1 k1 .byte (3 : Int32) [(.int (11 : Int32)), (.int (0 : Int32)), (.int (0 : Int32))] (.int (0 : Int32)) := V5_
  have K5 := K3.trans K5_ (allS (Or.inr sz_b1) all0)
  have n0_5 : n0 ≤ h5.size := Nat.le_trans n0_3 K5_.1
  show W.Go p e below _ (T5.setTop (mkF m 21 #[.val (.ref p0), .val (.ref b1)] []))
  refine W.aloadN (q := 22) X5 C d1_21 rfl rfl rfl ?_
  refine W.aloadN (q := 23) X5 C d1_22 rfl rfl rfl ?_
  refine W.arraylength (q := 24) X5 C e5 V5 d1_23 rfl ?_
  refine W.iconst (q := 25) (v := 2) X5 C d1_24 rfl rfl ?_
  refine W.isub (q := 26) X5 C d1_25 rfl ?_
  rw [show ((3 : Int32) - (2 : Int32)) = (1 : Int32) by decide]
  refine W.bipush (q := 28) (v := 28) X5 C d1_26 rfl rfl ?_
  refine W.bastore (q := 29) X5 C e5 V5  (by decide) (by decide) (Nat.le_of_ble_eq_true rfl) d1_28 rfl (fun T7 h7 X7 e7 W7 V7_ => ?_)
  rw [show (28 : Int32).toInt8.toInt32 = (28 : Int32) by decide] at V7_
  have V0_8 := V0_6.other W7 ne_p0_b1
  have V7 : Arv Z h7 b1 k1 .byte (3 : Int32) [(.int (11 : Int32)), (.int (28 : Int32)), (.int (0 : Int32))] (.int (0 : Int32)) := V7_
  have N7 := Fr.snoc X7 N5 ge_b1
  have K7 := K5.wr W7 (Or.inr sz_b1)
  have n0_7 : n0 ≤ h7.size := by rw [W7.size]; exact n0_5
  refine W.aloadN (q := 30) X7 C d1_29 rfl rfl rfl ?_
  refine W.aloadN (q := 31) X7 C d1_30 rfl rfl rfl ?_
  refine W.arraylength (q := 32) X7 C e7 V7 d1_31 rfl ?_
  refine W.iconst (q := 33) (v := 1) X7 C d1_32 rfl rfl ?_
  refine W.isub (q := 34) X7 C d1_33 rfl ?_
  rw [show ((3 : Int32) - (1 : Int32)) = (2 : Int32) by decide]
  refine W.bipush (q := 36) (v := 13) X7 C d1_34 rfl rfl ?_
  refine W.bastore (q := 37) X7 C e7 V7  (by decide) (by decide) (Nat.le_of_ble_eq_true rfl) d1_36 rfl (fun T9 h9 X9 e9 W9 V9_ => ?_)
  rw [show (13 : Int32).toInt8.toInt32 = (13 : Int32) by decide] at V9_
  have V0_10 := V0_8.other W9 ne_p0_b1
  have V9 : Arv Z h9 b1 k1 .byte (3 : Int32) [(.int (11 : Int32)), (.int (28 : Int32)), (.int (13 : Int32))] (.int (0 : Int32)) := V9_
  have N9 := Fr.snoc X9 N7 ge_b1
  have K9 := K7.wr W9 (Or.inr sz_b1)
  have n0_9 : n0 ≤ h9.size := by rw [W9.size]; exact n0_7
  refine W.aloadN (q := 38) X9 C d1_37 rfl rfl rfl ?_
  exact W.retA X9 C rfl e9 rfl d1_38 (by decide) (by decide) ⟨b1, k1, rfl, N9, K9, ge_b1, sz_b1, V9⟩
def Q1_1 (Z : State) (p0 : Addr) (k0 : ClassId) (y0 : Int32) (h0 : Heap) (n0 : Nat) (v : Option Value) (h : Heap) (L : List Loc) : Prop := ∃ b k, v = some (.ref b) ∧ Fr n0 L ∧ Keep h0 h [] ∧ n0 ≤ b ∧ h0.size ≤ b ∧ Arv Z h b k .byte (4 : Int32) [(.int (11 : Int32)), (.int y0), (.int (28 : Int32)), (.int (13 : Int32))] (.int (0 : Int32))
set_option maxRecDepth 65536 in
set_option maxHeartbeats 40000000 in
theorem rm1_1 (l : Launch) (Z : State) (a0 : Array Value) (hw : ∀ d ∈ tables_1, d.before a0 Z = true) (ws : List Jvm.Cond) (p0 : Addr) (k0 : ClassId) (y0 : Int32) (h0 : Heap) (n0 : Nat) (Z0 : n0 ≤ h0.size) (V0 : Arv Z h0 p0 k0 .byte (1 : Int32) [(.int y0)] (.int (0 : Int32))) :
    MetFree l (⟨"com/example/orderwire/orderwire/hl7/Mllp", "frame", "([B)[B"⟩ : MethodName) (head1 (Jvm.Cond.code (⟨"com/example/orderwire/orderwire/hl7/Mllp", "frame", "([B)[B"⟩ : MethodName) prog_13_method_2_code 2 (some (.array .byte)) :: ws) ({ frames := 1, cells := 1, slots := 4, locals := 40 } : Room)) (fun a U => a = #[(.ref p0)] ∧ Z.Warmed39 U.vm ∧ U.heap = h0) (fun _ _ _ _ _ => True) (fun _ U o U' => ∃ v L, o = .returned v ∧ Q1_1 Z p0 k0 y0 h0 n0 v U'.heap L ∧ FrameEnd U o U' L ({ frames := 1, cells := 1, slots := 4, locals := 40 } : Room).cells ({ frames := 1, cells := 1, slots := 4, locals := 40 } : Room).slots) := by
  refine W.bodyOf (y := (⟨"com/example/orderwire/orderwire/hl7/Mllp", "frame", "([B)[B"⟩ : MethodName)) (as := #[(.ref p0)]) (maxL := 2) (Q := Q1_1 Z p0 k0 y0 h0 n0) (Ls := #[.val (.ref p0), .unset]) (plainFor_of_name pn_com_example_orderwire_orderwire_hl7_Mllp) (fun m => by first | rfl | (simp [entryFrame, mkF, argsToLocals, Value.category]; done)) ?_
  intro p e s m below meth c T0 C X0 e0
  have N0 := Fr.nil n0
  have K0 := Keep.refl h0 []
  refine W.aloadN (q := 1) X0 C d1_0 rfl rfl rfl ?_
  refine W.arraylength (q := 2) X0 C e0 V0 d1_1 rfl ?_
  refine W.iconst (q := 3) (v := 3) X0 C d1_2 rfl rfl ?_
  refine W.iadd (q := 4) X0 C d1_3 rfl ?_
  rw [show ((1 : Int32) + (3 : Int32)) = (4 : Int32) by decide]
  refine W.newarray (q := 6) X0 C (W.ww hw 0 rfl) e0 (by decide) 4 (by decide) (by decide) d1_4 (by decide) (by decide) rfl (fun T11 h11 b11 k11 X11 e11 g11 E11 V11_ => ?_)
  have ne_p0_b11 : p0 ≠ b11 := by rw [g11]; exact Nat.ne_of_lt V0.lt
  have ge_b11 : n0 ≤ b11 := by rw [g11]; exact Z0
  have sz_b11 : h0.size ≤ b11 := by rw [g11]; exact K0.1
  have n0_11 : n0 ≤ h11.size := Nat.le_trans Z0 E11.1
  have V0_12 := V0.ext E11
  have K11 := K0.ext E11
  have V11 : Arv Z h11 b11 k11 .byte (4 : Int32) [(.int (0 : Int32)), (.int (0 : Int32)), (.int (0 : Int32)), (.int (0 : Int32))] (.int (0 : Int32)) := V11_
  refine W.astoreN (q := 7) (L' := #[.val (.ref p0), .val (.ref b11)]) X11 C d1_6 rfl rfl rfl ?_
  refine W.aloadN (q := 8) X11 C d1_7 rfl rfl rfl ?_
  refine W.iconst (q := 9) (v := 0) X11 C d1_8 rfl rfl ?_
  refine W.bipush (q := 11) (v := 11) X11 C d1_9 rfl rfl ?_
  refine W.bastore (q := 12) X11 C e11 V11  (by decide) (by decide) (Nat.le_of_ble_eq_true rfl) d1_11 rfl (fun T13 h13 X13 e13 W13 V13_ => ?_)
  rw [show (11 : Int32).toInt8.toInt32 = (11 : Int32) by decide] at V13_
  have V0_14 := V0_12.other W13 ne_p0_b11
  have V13 : Arv Z h13 b11 k11 .byte (4 : Int32) [(.int (11 : Int32)), (.int (0 : Int32)), (.int (0 : Int32)), (.int (0 : Int32))] (.int (0 : Int32)) := V13_
  have N13 := Fr.snoc X13 N0 ge_b11
  have K13 := K11.wr W13 (Or.inr sz_b11)
  have n0_13 : n0 ≤ h13.size := by rw [W13.size]; exact n0_11
  refine W.aloadN (q := 13) X13 C d1_12 rfl rfl rfl ?_
  refine W.iconst (q := 14) (v := 0) X13 C d1_13 rfl rfl ?_
  refine W.aloadN (q := 15) X13 C d1_14 rfl rfl rfl ?_
  refine W.iconst (q := 16) (v := 1) X13 C d1_15 rfl rfl ?_
  refine W.aloadN (q := 17) X13 C d1_16 rfl rfl rfl ?_
  refine W.arraylength (q := 18) X13 C e13 V0_14 d1_17 rfl ?_
  obtain ⟨T15, h15, L15, X15, e15, N15, K15_, V15_, st15⟩ := cpA X13 C.1 C.2.1 C.2.2.2.2.1 (W.ww hw 5 rfl) (W.ww hw 8 rfl) (W.ww hw 6 rfl) (W.ww hw 7 rfl) e13 V0_14 V13 (Or.inl ⟨rfl, rfl⟩) (by decide) (by decide) (by decide) (by decide) (by decide) (us := [(.int y0)]) rfl (Nat.le_of_ble_eq_true rfl) N13 ge_b11 (g := (mkF m 18 #[.val (.ref p0), .val (.ref b11)] [(.int (1 : Int32)), (.int (1 : Int32)), (.ref b11), (.int (0 : Int32)), (.ref p0)])) rfl (by rw [C.2.2.2.1]; rfl) rfl (hb C.2.2.1 d1_18) (by decide) (W := 0) (by show 2 * 0 + _ ≤ _; exact Nat.le_of_eq rfl) (by decide)
  refine W.of st15 ?_
  have V0_16 := V0_14.keep K15_ (ninS ne_p0_b11 nin0)
  have V15 : Arv Z h15 b11 k11 .byte (4 : Int32) [(.int (11 : Int32)), (.int y0), (.int (0 : Int32)), (.int (0 : Int32))] (.int (0 : Int32)) := V15_
  have K15 := K13.trans K15_ (allS (Or.inr sz_b11) all0)
  have n0_15 : n0 ≤ h15.size := Nat.le_trans n0_13 K15_.1
  show W.Go p e below _ (T15.setTop (mkF m 21 #[.val (.ref p0), .val (.ref b11)] []))
  refine W.aloadN (q := 22) X15 C d1_21 rfl rfl rfl ?_
  refine W.aloadN (q := 23) X15 C d1_22 rfl rfl rfl ?_
  refine W.arraylength (q := 24) X15 C e15 V15 d1_23 rfl ?_
  refine W.iconst (q := 25) (v := 2) X15 C d1_24 rfl rfl ?_
  refine W.isub (q := 26) X15 C d1_25 rfl ?_
  rw [show ((4 : Int32) - (2 : Int32)) = (2 : Int32) by decide]
  refine W.bipush (q := 28) (v := 28) X15 C d1_26 rfl rfl ?_
  refine W.bastore (q := 29) X15 C e15 V15  (by decide) (by decide) (Nat.le_of_ble_eq_true rfl) d1_28 rfl (fun T17 h17 X17 e17 W17 V17_ => ?_)
  rw [show (28 : Int32).toInt8.toInt32 = (28 : Int32) by decide] at V17_
  have V0_18 := V0_16.other W17 ne_p0_b11
  have V17 : Arv Z h17 b11 k11 .byte (4 : Int32) [(.int (11 : Int32)), (.int y0), (.int (28 : Int32)), (.int (0 : Int32))] (.int (0 : Int32)) := V17_
  have N17 := Fr.snoc X17 N15 ge_b11
  have K17 := K15.wr W17 (Or.inr sz_b11)
  have n0_17 : n0 ≤ h17.size := by rw [W17.size]; exact n0_15
  refine W.aloadN (q := 30) X17 C d1_29 rfl rfl rfl ?_
  refine W.aloadN (q := 31) X17 C d1_30 rfl rfl rfl ?_
  refine W.arraylength (q := 32) X17 C e17 V17 d1_31 rfl ?_
  refine W.iconst (q := 33) (v := 1) X17 C d1_32 rfl rfl ?_
  refine W.isub (q := 34) X17 C d1_33 rfl ?_
  rw [show ((4 : Int32) - (1 : Int32)) = (3 : Int32) by decide]
  refine W.bipush (q := 36) (v := 13) X17 C d1_34 rfl rfl ?_
  refine W.bastore (q := 37) X17 C e17 V17  (by decide) (by decide) (Nat.le_of_ble_eq_true rfl) d1_36 rfl (fun T19 h19 X19 e19 W19 V19_ => ?_)
  rw [show (13 : Int32).toInt8.toInt32 = (13 : Int32) by decide] at V19_
  have V0_20 := V0_18.other W19 ne_p0_b11
  have V19 : Arv Z h19 b11 k11 .byte (4 : Int32) [(.int (11 : Int32)), (.int y0), (.int (28 : Int32)), (.int (13 : Int32))] (.int (0 : Int32)) := V19_
  have N19 := Fr.snoc X19 N17 ge_b11
  have K19 := K17.wr W19 (Or.inr sz_b11)
  have n0_19 : n0 ≤ h19.size := by rw [W19.size]; exact n0_17
  refine W.aloadN (q := 38) X19 C d1_37 rfl rfl rfl ?_
  exact W.retA X19 C rfl e19 rfl d1_38 (by decide) (by decide) ⟨b11, k11, rfl, N19, K19, ge_b11, sz_b11, V19⟩
def Q1_2 (Z : State) (p0 : Addr) (k0 : ClassId) (y0 : Int32) (y1 : Int32) (h0 : Heap) (n0 : Nat) (v : Option Value) (h : Heap) (L : List Loc) : Prop := ∃ b k, v = some (.ref b) ∧ Fr n0 L ∧ Keep h0 h [] ∧ n0 ≤ b ∧ h0.size ≤ b ∧ Arv Z h b k .byte (5 : Int32) [(.int (11 : Int32)), (.int y0), (.int y1), (.int (28 : Int32)), (.int (13 : Int32))] (.int (0 : Int32))
set_option maxRecDepth 65536 in
set_option maxHeartbeats 40000000 in
theorem rm1_2 (l : Launch) (Z : State) (a0 : Array Value) (hw : ∀ d ∈ tables_1, d.before a0 Z = true) (ws : List Jvm.Cond) (p0 : Addr) (k0 : ClassId) (y0 : Int32) (y1 : Int32) (h0 : Heap) (n0 : Nat) (Z0 : n0 ≤ h0.size) (V0 : Arv Z h0 p0 k0 .byte (2 : Int32) [(.int y0), (.int y1)] (.int (0 : Int32))) :
    MetFree l (⟨"com/example/orderwire/orderwire/hl7/Mllp", "frame", "([B)[B"⟩ : MethodName) (head1 (Jvm.Cond.code (⟨"com/example/orderwire/orderwire/hl7/Mllp", "frame", "([B)[B"⟩ : MethodName) prog_13_method_2_code 2 (some (.array .byte)) :: ws) ({ frames := 1, cells := 1, slots := 5, locals := 40 } : Room)) (fun a U => a = #[(.ref p0)] ∧ Z.Warmed39 U.vm ∧ U.heap = h0) (fun _ _ _ _ _ => True) (fun _ U o U' => ∃ v L, o = .returned v ∧ Q1_2 Z p0 k0 y0 y1 h0 n0 v U'.heap L ∧ FrameEnd U o U' L ({ frames := 1, cells := 1, slots := 5, locals := 40 } : Room).cells ({ frames := 1, cells := 1, slots := 5, locals := 40 } : Room).slots) := by
  refine W.bodyOf (y := (⟨"com/example/orderwire/orderwire/hl7/Mllp", "frame", "([B)[B"⟩ : MethodName)) (as := #[(.ref p0)]) (maxL := 2) (Q := Q1_2 Z p0 k0 y0 y1 h0 n0) (Ls := #[.val (.ref p0), .unset]) (plainFor_of_name pn_com_example_orderwire_orderwire_hl7_Mllp) (fun m => by first | rfl | (simp [entryFrame, mkF, argsToLocals, Value.category]; done)) ?_
  intro p e s m below meth c T0 C X0 e0
  have N0 := Fr.nil n0
  have K0 := Keep.refl h0 []
  refine W.aloadN (q := 1) X0 C d1_0 rfl rfl rfl ?_
  refine W.arraylength (q := 2) X0 C e0 V0 d1_1 rfl ?_
  refine W.iconst (q := 3) (v := 3) X0 C d1_2 rfl rfl ?_
  refine W.iadd (q := 4) X0 C d1_3 rfl ?_
  rw [show ((2 : Int32) + (3 : Int32)) = (5 : Int32) by decide]
  refine W.newarray (q := 6) X0 C (W.ww hw 0 rfl) e0 (by decide) 5 (by decide) (by decide) d1_4 (by decide) (by decide) rfl (fun T21 h21 b21 k21 X21 e21 g21 E21 V21_ => ?_)
  have ne_p0_b21 : p0 ≠ b21 := by rw [g21]; exact Nat.ne_of_lt V0.lt
  have ge_b21 : n0 ≤ b21 := by rw [g21]; exact Z0
  have sz_b21 : h0.size ≤ b21 := by rw [g21]; exact K0.1
  have n0_21 : n0 ≤ h21.size := Nat.le_trans Z0 E21.1
  have V0_22 := V0.ext E21
  have K21 := K0.ext E21
  have V21 : Arv Z h21 b21 k21 .byte (5 : Int32) [(.int (0 : Int32)), (.int (0 : Int32)), (.int (0 : Int32)), (.int (0 : Int32)), (.int (0 : Int32))] (.int (0 : Int32)) := V21_
  refine W.astoreN (q := 7) (L' := #[.val (.ref p0), .val (.ref b21)]) X21 C d1_6 rfl rfl rfl ?_
  refine W.aloadN (q := 8) X21 C d1_7 rfl rfl rfl ?_
  refine W.iconst (q := 9) (v := 0) X21 C d1_8 rfl rfl ?_
  refine W.bipush (q := 11) (v := 11) X21 C d1_9 rfl rfl ?_
  refine W.bastore (q := 12) X21 C e21 V21  (by decide) (by decide) (Nat.le_of_ble_eq_true rfl) d1_11 rfl (fun T23 h23 X23 e23 W23 V23_ => ?_)
  rw [show (11 : Int32).toInt8.toInt32 = (11 : Int32) by decide] at V23_
  have V0_24 := V0_22.other W23 ne_p0_b21
  have V23 : Arv Z h23 b21 k21 .byte (5 : Int32) [(.int (11 : Int32)), (.int (0 : Int32)), (.int (0 : Int32)), (.int (0 : Int32)), (.int (0 : Int32))] (.int (0 : Int32)) := V23_
  have N23 := Fr.snoc X23 N0 ge_b21
  have K23 := K21.wr W23 (Or.inr sz_b21)
  have n0_23 : n0 ≤ h23.size := by rw [W23.size]; exact n0_21
  refine W.aloadN (q := 13) X23 C d1_12 rfl rfl rfl ?_
  refine W.iconst (q := 14) (v := 0) X23 C d1_13 rfl rfl ?_
  refine W.aloadN (q := 15) X23 C d1_14 rfl rfl rfl ?_
  refine W.iconst (q := 16) (v := 1) X23 C d1_15 rfl rfl ?_
  refine W.aloadN (q := 17) X23 C d1_16 rfl rfl rfl ?_
  refine W.arraylength (q := 18) X23 C e23 V0_24 d1_17 rfl ?_
  obtain ⟨T25, h25, L25, X25, e25, N25, K25_, V25_, st25⟩ := cpA X23 C.1 C.2.1 C.2.2.2.2.1 (W.ww hw 5 rfl) (W.ww hw 8 rfl) (W.ww hw 6 rfl) (W.ww hw 7 rfl) e23 V0_24 V23 (Or.inl ⟨rfl, rfl⟩) (by decide) (by decide) (by decide) (by decide) (by decide) (us := [(.int y0), (.int y1)]) rfl (Nat.le_of_ble_eq_true rfl) N23 ge_b21 (g := (mkF m 18 #[.val (.ref p0), .val (.ref b21)] [(.int (2 : Int32)), (.int (1 : Int32)), (.ref b21), (.int (0 : Int32)), (.ref p0)])) rfl (by rw [C.2.2.2.1]; rfl) rfl (hb C.2.2.1 d1_18) (by decide) (W := 0) (by show 2 * 0 + _ ≤ _; exact Nat.le_of_eq rfl) (by decide)
  refine W.of st25 ?_
  have V0_26 := V0_24.keep K25_ (ninS ne_p0_b21 nin0)
  have V25 : Arv Z h25 b21 k21 .byte (5 : Int32) [(.int (11 : Int32)), (.int y0), (.int y1), (.int (0 : Int32)), (.int (0 : Int32))] (.int (0 : Int32)) := V25_
  have K25 := K23.trans K25_ (allS (Or.inr sz_b21) all0)
  have n0_25 : n0 ≤ h25.size := Nat.le_trans n0_23 K25_.1
  show W.Go p e below _ (T25.setTop (mkF m 21 #[.val (.ref p0), .val (.ref b21)] []))
  refine W.aloadN (q := 22) X25 C d1_21 rfl rfl rfl ?_
  refine W.aloadN (q := 23) X25 C d1_22 rfl rfl rfl ?_
  refine W.arraylength (q := 24) X25 C e25 V25 d1_23 rfl ?_
  refine W.iconst (q := 25) (v := 2) X25 C d1_24 rfl rfl ?_
  refine W.isub (q := 26) X25 C d1_25 rfl ?_
  rw [show ((5 : Int32) - (2 : Int32)) = (3 : Int32) by decide]
  refine W.bipush (q := 28) (v := 28) X25 C d1_26 rfl rfl ?_
  refine W.bastore (q := 29) X25 C e25 V25  (by decide) (by decide) (Nat.le_of_ble_eq_true rfl) d1_28 rfl (fun T27 h27 X27 e27 W27 V27_ => ?_)
  rw [show (28 : Int32).toInt8.toInt32 = (28 : Int32) by decide] at V27_
  have V0_28 := V0_26.other W27 ne_p0_b21
  have V27 : Arv Z h27 b21 k21 .byte (5 : Int32) [(.int (11 : Int32)), (.int y0), (.int y1), (.int (28 : Int32)), (.int (0 : Int32))] (.int (0 : Int32)) := V27_
  have N27 := Fr.snoc X27 N25 ge_b21
  have K27 := K25.wr W27 (Or.inr sz_b21)
  have n0_27 : n0 ≤ h27.size := by rw [W27.size]; exact n0_25
  refine W.aloadN (q := 30) X27 C d1_29 rfl rfl rfl ?_
  refine W.aloadN (q := 31) X27 C d1_30 rfl rfl rfl ?_
  refine W.arraylength (q := 32) X27 C e27 V27 d1_31 rfl ?_
  refine W.iconst (q := 33) (v := 1) X27 C d1_32 rfl rfl ?_
  refine W.isub (q := 34) X27 C d1_33 rfl ?_
  rw [show ((5 : Int32) - (1 : Int32)) = (4 : Int32) by decide]
  refine W.bipush (q := 36) (v := 13) X27 C d1_34 rfl rfl ?_
  refine W.bastore (q := 37) X27 C e27 V27  (by decide) (by decide) (Nat.le_of_ble_eq_true rfl) d1_36 rfl (fun T29 h29 X29 e29 W29 V29_ => ?_)
  rw [show (13 : Int32).toInt8.toInt32 = (13 : Int32) by decide] at V29_
  have V0_30 := V0_28.other W29 ne_p0_b21
  have V29 : Arv Z h29 b21 k21 .byte (5 : Int32) [(.int (11 : Int32)), (.int y0), (.int y1), (.int (28 : Int32)), (.int (13 : Int32))] (.int (0 : Int32)) := V29_
  have N29 := Fr.snoc X29 N27 ge_b21
  have K29 := K27.wr W29 (Or.inr sz_b21)
  have n0_29 : n0 ≤ h29.size := by rw [W29.size]; exact n0_27
  refine W.aloadN (q := 38) X29 C d1_37 rfl rfl rfl ?_
  exact W.retA X29 C rfl e29 rfl d1_38 (by decide) (by decide) ⟨b21, k21, rfl, N29, K29, ge_b21, sz_b21, V29⟩
def Q1_3 (Z : State) (p0 : Addr) (k0 : ClassId) (y0 : Int32) (y1 : Int32) (y2 : Int32) (h0 : Heap) (n0 : Nat) (v : Option Value) (h : Heap) (L : List Loc) : Prop := ∃ b k, v = some (.ref b) ∧ Fr n0 L ∧ Keep h0 h [] ∧ n0 ≤ b ∧ h0.size ≤ b ∧ Arv Z h b k .byte (6 : Int32) [(.int (11 : Int32)), (.int y0), (.int y1), (.int y2), (.int (28 : Int32)), (.int (13 : Int32))] (.int (0 : Int32))
set_option maxRecDepth 65536 in
set_option maxHeartbeats 40000000 in
theorem rm1_3 (l : Launch) (Z : State) (a0 : Array Value) (hw : ∀ d ∈ tables_1, d.before a0 Z = true) (ws : List Jvm.Cond) (p0 : Addr) (k0 : ClassId) (y0 : Int32) (y1 : Int32) (y2 : Int32) (h0 : Heap) (n0 : Nat) (Z0 : n0 ≤ h0.size) (V0 : Arv Z h0 p0 k0 .byte (3 : Int32) [(.int y0), (.int y1), (.int y2)] (.int (0 : Int32))) :
    MetFree l (⟨"com/example/orderwire/orderwire/hl7/Mllp", "frame", "([B)[B"⟩ : MethodName) (head1 (Jvm.Cond.code (⟨"com/example/orderwire/orderwire/hl7/Mllp", "frame", "([B)[B"⟩ : MethodName) prog_13_method_2_code 2 (some (.array .byte)) :: ws) ({ frames := 1, cells := 1, slots := 6, locals := 40 } : Room)) (fun a U => a = #[(.ref p0)] ∧ Z.Warmed39 U.vm ∧ U.heap = h0) (fun _ _ _ _ _ => True) (fun _ U o U' => ∃ v L, o = .returned v ∧ Q1_3 Z p0 k0 y0 y1 y2 h0 n0 v U'.heap L ∧ FrameEnd U o U' L ({ frames := 1, cells := 1, slots := 6, locals := 40 } : Room).cells ({ frames := 1, cells := 1, slots := 6, locals := 40 } : Room).slots) := by
  refine W.bodyOf (y := (⟨"com/example/orderwire/orderwire/hl7/Mllp", "frame", "([B)[B"⟩ : MethodName)) (as := #[(.ref p0)]) (maxL := 2) (Q := Q1_3 Z p0 k0 y0 y1 y2 h0 n0) (Ls := #[.val (.ref p0), .unset]) (plainFor_of_name pn_com_example_orderwire_orderwire_hl7_Mllp) (fun m => by first | rfl | (simp [entryFrame, mkF, argsToLocals, Value.category]; done)) ?_
  intro p e s m below meth c T0 C X0 e0
  have N0 := Fr.nil n0
  have K0 := Keep.refl h0 []
  refine W.aloadN (q := 1) X0 C d1_0 rfl rfl rfl ?_
  refine W.arraylength (q := 2) X0 C e0 V0 d1_1 rfl ?_
  refine W.iconst (q := 3) (v := 3) X0 C d1_2 rfl rfl ?_
  refine W.iadd (q := 4) X0 C d1_3 rfl ?_
  rw [show ((3 : Int32) + (3 : Int32)) = (6 : Int32) by decide]
  refine W.newarray (q := 6) X0 C (W.ww hw 0 rfl) e0 (by decide) 6 (by decide) (by decide) d1_4 (by decide) (by decide) rfl (fun T31 h31 b31 k31 X31 e31 g31 E31 V31_ => ?_)
  have ne_p0_b31 : p0 ≠ b31 := by rw [g31]; exact Nat.ne_of_lt V0.lt
  have ge_b31 : n0 ≤ b31 := by rw [g31]; exact Z0
  have sz_b31 : h0.size ≤ b31 := by rw [g31]; exact K0.1
  have n0_31 : n0 ≤ h31.size := Nat.le_trans Z0 E31.1
  have V0_32 := V0.ext E31
  have K31 := K0.ext E31
  have V31 : Arv Z h31 b31 k31 .byte (6 : Int32) [(.int (0 : Int32)), (.int (0 : Int32)), (.int (0 : Int32)), (.int (0 : Int32)), (.int (0 : Int32)), (.int (0 : Int32))] (.int (0 : Int32)) := V31_
  refine W.astoreN (q := 7) (L' := #[.val (.ref p0), .val (.ref b31)]) X31 C d1_6 rfl rfl rfl ?_
  refine W.aloadN (q := 8) X31 C d1_7 rfl rfl rfl ?_
  refine W.iconst (q := 9) (v := 0) X31 C d1_8 rfl rfl ?_
  refine W.bipush (q := 11) (v := 11) X31 C d1_9 rfl rfl ?_
  refine W.bastore (q := 12) X31 C e31 V31  (by decide) (by decide) (Nat.le_of_ble_eq_true rfl) d1_11 rfl (fun T33 h33 X33 e33 W33 V33_ => ?_)
  rw [show (11 : Int32).toInt8.toInt32 = (11 : Int32) by decide] at V33_
  have V0_34 := V0_32.other W33 ne_p0_b31
  have V33 : Arv Z h33 b31 k31 .byte (6 : Int32) [(.int (11 : Int32)), (.int (0 : Int32)), (.int (0 : Int32)), (.int (0 : Int32)), (.int (0 : Int32)), (.int (0 : Int32))] (.int (0 : Int32)) := V33_
  have N33 := Fr.snoc X33 N0 ge_b31
  have K33 := K31.wr W33 (Or.inr sz_b31)
  have n0_33 : n0 ≤ h33.size := by rw [W33.size]; exact n0_31
  refine W.aloadN (q := 13) X33 C d1_12 rfl rfl rfl ?_
  refine W.iconst (q := 14) (v := 0) X33 C d1_13 rfl rfl ?_
  refine W.aloadN (q := 15) X33 C d1_14 rfl rfl rfl ?_
  refine W.iconst (q := 16) (v := 1) X33 C d1_15 rfl rfl ?_
  refine W.aloadN (q := 17) X33 C d1_16 rfl rfl rfl ?_
  refine W.arraylength (q := 18) X33 C e33 V0_34 d1_17 rfl ?_
  obtain ⟨T35, h35, L35, X35, e35, N35, K35_, V35_, st35⟩ := cpA X33 C.1 C.2.1 C.2.2.2.2.1 (W.ww hw 5 rfl) (W.ww hw 8 rfl) (W.ww hw 6 rfl) (W.ww hw 7 rfl) e33 V0_34 V33 (Or.inl ⟨rfl, rfl⟩) (by decide) (by decide) (by decide) (by decide) (by decide) (us := [(.int y0), (.int y1), (.int y2)]) rfl (Nat.le_of_ble_eq_true rfl) N33 ge_b31 (g := (mkF m 18 #[.val (.ref p0), .val (.ref b31)] [(.int (3 : Int32)), (.int (1 : Int32)), (.ref b31), (.int (0 : Int32)), (.ref p0)])) rfl (by rw [C.2.2.2.1]; rfl) rfl (hb C.2.2.1 d1_18) (by decide) (W := 0) (by show 2 * 0 + _ ≤ _; exact Nat.le_of_eq rfl) (by decide)
  refine W.of st35 ?_
  have V0_36 := V0_34.keep K35_ (ninS ne_p0_b31 nin0)
  have V35 : Arv Z h35 b31 k31 .byte (6 : Int32) [(.int (11 : Int32)), (.int y0), (.int y1), (.int y2), (.int (0 : Int32)), (.int (0 : Int32))] (.int (0 : Int32)) := V35_
  have K35 := K33.trans K35_ (allS (Or.inr sz_b31) all0)
  have n0_35 : n0 ≤ h35.size := Nat.le_trans n0_33 K35_.1
  show W.Go p e below _ (T35.setTop (mkF m 21 #[.val (.ref p0), .val (.ref b31)] []))
  refine W.aloadN (q := 22) X35 C d1_21 rfl rfl rfl ?_
  refine W.aloadN (q := 23) X35 C d1_22 rfl rfl rfl ?_
  refine W.arraylength (q := 24) X35 C e35 V35 d1_23 rfl ?_
  refine W.iconst (q := 25) (v := 2) X35 C d1_24 rfl rfl ?_
  refine W.isub (q := 26) X35 C d1_25 rfl ?_
  rw [show ((6 : Int32) - (2 : Int32)) = (4 : Int32) by decide]
  refine W.bipush (q := 28) (v := 28) X35 C d1_26 rfl rfl ?_
  refine W.bastore (q := 29) X35 C e35 V35  (by decide) (by decide) (Nat.le_of_ble_eq_true rfl) d1_28 rfl (fun T37 h37 X37 e37 W37 V37_ => ?_)
  rw [show (28 : Int32).toInt8.toInt32 = (28 : Int32) by decide] at V37_
  have V0_38 := V0_36.other W37 ne_p0_b31
  have V37 : Arv Z h37 b31 k31 .byte (6 : Int32) [(.int (11 : Int32)), (.int y0), (.int y1), (.int y2), (.int (28 : Int32)), (.int (0 : Int32))] (.int (0 : Int32)) := V37_
  have N37 := Fr.snoc X37 N35 ge_b31
  have K37 := K35.wr W37 (Or.inr sz_b31)
  have n0_37 : n0 ≤ h37.size := by rw [W37.size]; exact n0_35
  refine W.aloadN (q := 30) X37 C d1_29 rfl rfl rfl ?_
  refine W.aloadN (q := 31) X37 C d1_30 rfl rfl rfl ?_
  refine W.arraylength (q := 32) X37 C e37 V37 d1_31 rfl ?_
  refine W.iconst (q := 33) (v := 1) X37 C d1_32 rfl rfl ?_
  refine W.isub (q := 34) X37 C d1_33 rfl ?_
  rw [show ((6 : Int32) - (1 : Int32)) = (5 : Int32) by decide]
  refine W.bipush (q := 36) (v := 13) X37 C d1_34 rfl rfl ?_
  refine W.bastore (q := 37) X37 C e37 V37  (by decide) (by decide) (Nat.le_of_ble_eq_true rfl) d1_36 rfl (fun T39 h39 X39 e39 W39 V39_ => ?_)
  rw [show (13 : Int32).toInt8.toInt32 = (13 : Int32) by decide] at V39_
  have V0_40 := V0_38.other W39 ne_p0_b31
  have V39 : Arv Z h39 b31 k31 .byte (6 : Int32) [(.int (11 : Int32)), (.int y0), (.int y1), (.int y2), (.int (28 : Int32)), (.int (13 : Int32))] (.int (0 : Int32)) := V39_
  have N39 := Fr.snoc X39 N37 ge_b31
  have K39 := K37.wr W39 (Or.inr sz_b31)
  have n0_39 : n0 ≤ h39.size := by rw [W39.size]; exact n0_37
  refine W.aloadN (q := 38) X39 C d1_37 rfl rfl rfl ?_
  exact W.retA X39 C rfl e39 rfl d1_38 (by decide) (by decide) ⟨b31, k31, rfl, N39, K39, ge_b31, sz_b31, V39⟩
theorem pd__28_5bB_29_5bB : parseMethodDescriptor "([B)[B" = some ⟨[(.array .byte)], some (.array .byte)⟩ := by decide +kernel
theorem pn_com_example_orderwire_orderwire_hl7_MllpFramePinLaw : plainName "com/example/orderwire/orderwire/hl7/MllpFramePinLaw" = true := by first | (simp [plainName, overriddenIn]; done) | decide +kernel
def Q0 (Z : State) (p0 p1 p2 p3 : Int32) (h0 : Heap) (n0 : Nat) (v : Option Value) (h : Heap) (L : List Loc) : Prop := v = some (.int 1) ∧ Fr n0 L
set_option maxRecDepth 65536 in
set_option maxHeartbeats 40000000 in
theorem rm0 (l : Launch) (Z : State) (a0 : Array Value) (hw : ∀ d ∈ tables_1, d.before a0 Z = true) (ws : List Jvm.Cond) (p0 p1 p2 p3 : Int32) (h0 : Heap) (n0 : Nat) (Z0 : n0 ≤ h0.size) :
    MetFree l x (head1 (Jvm.Cond.code x code maxLocals ret :: ws) room_1) (fun a U => a = #[(.int p0), (.int p1), (.int p2), (.int p3)] ∧ Z.Warmed39 U.vm ∧ U.heap = h0) (fun _ _ _ _ _ => True) (fun _ U o U' => ∃ v L, o = .returned v ∧ Q0 Z p0 p1 p2 p3 h0 n0 v U'.heap L ∧ FrameEnd U o U' L room_1.cells room_1.slots) := by
  refine W.bodyOf (y := x) (as := #[(.int p0), (.int p1), (.int p2), (.int p3)]) (maxL := maxLocals) (Q := Q0 Z p0 p1 p2 p3 h0 n0) (Ls := #[.val (.int p0), .val (.int p1), .val (.int p2), .val (.int p3), .unset, .unset, .unset, .unset, .unset, .unset]) (plainFor_of_name pn_com_example_orderwire_orderwire_hl7_MllpFramePinLaw) (fun m => by first | rfl | (simp [entryFrame, mkF, argsToLocals, Value.category, maxLocals]; done)) ?_
  intro p e s m below meth c T0 C X0 e0
  replace C : W.Cx p s m meth c Z code 10 "com/example/orderwire/orderwire/hl7/MllpFramePinLaw" "law" (some .boolean) := C
  have N0 := Fr.nil n0
  refine W.iloadN (q := 1) X0 C at_0 rfl rfl ?_
  refine W.iconst (q := 2) (v := 3) X0 C at_1 rfl rfl ?_
  refine W.iand (q := 3) X0 C at_2 rfl ?_
  generalize hv41 : (p0 &&& (3 : Int32)) = v41
  refine W.istore (q := 5) (L' := #[.val (.int p0), .val (.int p1), .val (.int p2), .val (.int p3), .val (.int v41), .unset, .unset, .unset, .unset, .unset]) X0 C at_3 rfl rfl ?_
  refine W.iloadN (q := 6) X0 C at_5 rfl rfl ?_
  refine W.i2b (q := 7) X0 C at_6 rfl ?_
  generalize hv42 : (p1.toInt8.toInt32) = v42
  refine W.istore (q := 9) (L' := #[.val (.int p0), .val (.int p1), .val (.int p2), .val (.int p3), .val (.int v41), .val (.int v42), .unset, .unset, .unset, .unset]) X0 C at_7 rfl rfl ?_
  refine W.iloadN (q := 10) X0 C at_9 rfl rfl ?_
  refine W.i2b (q := 11) X0 C at_10 rfl ?_
  generalize hv43 : (p2.toInt8.toInt32) = v43
  refine W.istore (q := 13) (L' := #[.val (.int p0), .val (.int p1), .val (.int p2), .val (.int p3), .val (.int v41), .val (.int v42), .val (.int v43), .unset, .unset, .unset]) X0 C at_11 rfl rfl ?_
  refine W.iloadN (q := 14) X0 C at_13 rfl rfl ?_
  refine W.i2b (q := 15) X0 C at_14 rfl ?_
  generalize hv44 : (p3.toInt8.toInt32) = v44
  refine W.istore (q := 17) (L' := #[.val (.int p0), .val (.int p1), .val (.int p2), .val (.int p3), .val (.int v41), .val (.int v42), .val (.int v43), .val (.int v44), .unset, .unset]) X0 C at_15 rfl rfl ?_
  rcases own_03 _ _ hv41 with rfl | rfl | rfl | rfl
  · show W.Go p e below _ (T0.setTop (mkF m 17 #[.val (.int p0), .val (.int p1), .val (.int p2), .val (.int p3), .val (.int (0 : Int32)), .val (.int v42), .val (.int v43), .val (.int v44), .unset, .unset] []))
    refine W.iload (q := 19) X0 C at_17 rfl rfl ?_
    refine W.newarray (q := 21) X0 C (W.ww hw 0 rfl) e0 (by decide) 0 (by decide) (by decide) at_19 (by decide) (by decide) rfl (fun T45 h45 b45 k45 X45 e45 g45 E45 V45_ => ?_)
    have ge_b45 : n0 ≤ b45 := by rw [g45]; exact Z0
    have n0_45 : n0 ≤ h45.size := Nat.le_trans Z0 E45.1
    have V45 : Arv Z h45 b45 k45 .byte (0 : Int32) [] (.int (0 : Int32)) := V45_
    refine W.astore (q := 23) (L' := #[.val (.int p0), .val (.int p1), .val (.int p2), .val (.int p3), .val (.int (0 : Int32)), .val (.int v42), .val (.int v43), .val (.int v44), .val (.ref b45), .unset]) X45 C at_21 rfl rfl rfl ?_
    refine W.iload (q := 25) X45 C at_23 rfl rfl ?_
    refine W.ifT (q := 34) X45 C at_25 (by decide) (by decide) (by decide : W.cT .le (0 : Int32) 0) ?_
    refine W.iload (q := 36) X45 C at_34 rfl rfl ?_
    refine W.iconst (q := 37) (v := 1) X45 C at_36 rfl rfl ?_
    refine W.icmpT (q := 46) X45 C at_37 (by decide) (by decide) (by decide : W.cT .le (0 : Int32) (1 : Int32)) ?_
    refine W.iload (q := 48) X45 C at_46 rfl rfl ?_
    refine W.iconst (q := 49) (v := 2) X45 C at_48 rfl rfl ?_
    refine W.icmpT (q := 58) X45 C at_49 (by decide) (by decide) (by decide : W.cT .le (0 : Int32) (2 : Int32)) ?_
    refine W.aload (q := 60) X45 C at_58 rfl rfl rfl ?_
    refine W.callS (q := 63) X45 C (W.ww hw 1 rfl) (W.ww hw 2 rfl) (W.ww hw 3 rfl) (W.ww hw 4 rfl) (by decide) (rm1_0 l Z a0 hw [] b45 k45  h45 n0 n0_45 V45) e45 at_60 [(.ref b45)] [] rfl rfl pd__28_5bB_29_5bB rfl rfl (by decide) (by decide) (by decide) (by decide) rfl (fun T47 w47 L47 X47 hQ47 => ?_)
    obtain ⟨b47, k47, rfl, NL47, K47, ge_b47, sz_b47, V47⟩ := hQ47
    have N47 := Fr.app N0 NL47
    have V45_48 := V45.keep K47 nin0
    show W.Go p e below _ (T47.setTop (mkF m 63 #[.val (.int p0), .val (.int p1), .val (.int p2), .val (.int p3), .val (.int (0 : Int32)), .val (.int v42), .val (.int v43), .val (.int v44), .val (.ref b45), .unset] [(.ref b47)]))
    refine W.astore (q := 65) (L' := #[.val (.int p0), .val (.int p1), .val (.int p2), .val (.int p3), .val (.int (0 : Int32)), .val (.int v42), .val (.int v43), .val (.int v44), .val (.ref b45), .val (.ref b47)]) X47 C at_63 rfl rfl rfl ?_
    refine W.aload (q := 67) X47 C at_65 rfl rfl rfl ?_
    refine W.ifnullF (q := 70) X47 C at_67 rfl ?_
    refine W.aload (q := 72) X47 C at_70 rfl rfl rfl ?_
    refine W.arraylength (q := 73) X47 C rfl V47 at_72 rfl ?_
    refine W.iload (q := 75) X47 C at_73 rfl rfl ?_
    refine W.iconst (q := 76) (v := 3) X47 C at_75 rfl rfl ?_
    refine W.iadd (q := 77) X47 C at_76 rfl ?_
    rw [show ((0 : Int32) + (3 : Int32)) = (3 : Int32) by decide]
    refine W.icmpT (q := 82) X47 C at_77 (by decide) (by decide) (by decide : W.cT .eq (3 : Int32) (3 : Int32)) ?_
    refine W.aload (q := 84) X47 C at_82 rfl rfl rfl ?_
    refine W.iconst (q := 85) (v := 0) X47 C at_84 rfl rfl ?_
    refine W.baload (q := 86) X47 C rfl V47 (by decide) (by decide) rfl at_85 rfl ?_
    refine W.bipush (q := 88) (v := 11) X47 C at_86 rfl rfl ?_
    refine W.icmpT (q := 93) X47 C at_88 (by decide) (by decide) (by decide : W.cT .eq (11 : Int32) (11 : Int32)) ?_
    refine W.iload (q := 95) X47 C at_93 rfl rfl ?_
    refine W.ifT (q := 109) X47 C at_95 (by decide) (by decide) (by decide : W.cT .le (0 : Int32) 0) ?_
    refine W.iload (q := 111) X47 C at_109 rfl rfl ?_
    refine W.iconst (q := 112) (v := 1) X47 C at_111 rfl rfl ?_
    refine W.icmpT (q := 126) X47 C at_112 (by decide) (by decide) (by decide : W.cT .le (0 : Int32) (1 : Int32)) ?_
    refine W.iload (q := 128) X47 C at_126 rfl rfl ?_
    refine W.iconst (q := 129) (v := 2) X47 C at_128 rfl rfl ?_
    refine W.icmpT (q := 143) X47 C at_129 (by decide) (by decide) (by decide : W.cT .le (0 : Int32) (2 : Int32)) ?_
    refine W.aload (q := 145) X47 C at_143 rfl rfl rfl ?_
    refine W.iload (q := 147) X47 C at_145 rfl rfl ?_
    refine W.iconst (q := 148) (v := 1) X47 C at_147 rfl rfl ?_
    refine W.iadd (q := 149) X47 C at_148 rfl ?_
    rw [show ((0 : Int32) + (1 : Int32)) = (1 : Int32) by decide]
    refine W.baload (q := 150) X47 C rfl V47 (by decide) (by decide) rfl at_149 rfl ?_
    refine W.bipush (q := 152) (v := 28) X47 C at_150 rfl rfl ?_
    refine W.icmpT (q := 157) X47 C at_152 (by decide) (by decide) (by decide : W.cT .eq (28 : Int32) (28 : Int32)) ?_
    refine W.aload (q := 159) X47 C at_157 rfl rfl rfl ?_
    refine W.iload (q := 161) X47 C at_159 rfl rfl ?_
    refine W.iconst (q := 162) (v := 2) X47 C at_161 rfl rfl ?_
    refine W.iadd (q := 163) X47 C at_162 rfl ?_
    rw [show ((0 : Int32) + (2 : Int32)) = (2 : Int32) by decide]
    refine W.baload (q := 164) X47 C rfl V47 (by decide) (by decide) rfl at_163 rfl ?_
    refine W.bipush (q := 166) (v := 13) X47 C at_164 rfl rfl ?_
    refine W.icmpT (q := 171) X47 C at_166 (by decide) (by decide) (by decide : W.cT .eq (13 : Int32) (13 : Int32)) ?_
    refine W.iload (q := 173) X47 C at_171 rfl rfl ?_
    refine W.ifT (q := 187) X47 C at_173 (by decide) (by decide) (by decide : W.cT .le (0 : Int32) 0) ?_
    refine W.iload (q := 189) X47 C at_187 rfl rfl ?_
    refine W.iconst (q := 190) (v := 1) X47 C at_189 rfl rfl ?_
    refine W.icmpT (q := 204) X47 C at_190 (by decide) (by decide) (by decide : W.cT .le (0 : Int32) (1 : Int32)) ?_
    refine W.iload (q := 206) X47 C at_204 rfl rfl ?_
    refine W.iconst (q := 207) (v := 2) X47 C at_206 rfl rfl ?_
    refine W.icmpT (q := 221) X47 C at_207 (by decide) (by decide) (by decide : W.cT .le (0 : Int32) (2 : Int32)) ?_
    refine W.iconst (q := 222) (v := 1) X47 C at_221 rfl rfl ?_
    exact W.retN X47 C (by simp) rfl at_222 rfl (by decide) (by decide) ⟨rfl, N47⟩
  · show W.Go p e below _ (T0.setTop (mkF m 17 #[.val (.int p0), .val (.int p1), .val (.int p2), .val (.int p3), .val (.int (1 : Int32)), .val (.int v42), .val (.int v43), .val (.int v44), .unset, .unset] []))
    refine W.iload (q := 19) X0 C at_17 rfl rfl ?_
    refine W.newarray (q := 21) X0 C (W.ww hw 0 rfl) e0 (by decide) 1 (by decide) (by decide) at_19 (by decide) (by decide) rfl (fun T49 h49 b49 k49 X49 e49 g49 E49 V49_ => ?_)
    have ge_b49 : n0 ≤ b49 := by rw [g49]; exact Z0
    have n0_49 : n0 ≤ h49.size := Nat.le_trans Z0 E49.1
    have V49 : Arv Z h49 b49 k49 .byte (1 : Int32) [(.int (0 : Int32))] (.int (0 : Int32)) := V49_
    refine W.astore (q := 23) (L' := #[.val (.int p0), .val (.int p1), .val (.int p2), .val (.int p3), .val (.int (1 : Int32)), .val (.int v42), .val (.int v43), .val (.int v44), .val (.ref b49), .unset]) X49 C at_21 rfl rfl rfl ?_
    refine W.iload (q := 25) X49 C at_23 rfl rfl ?_
    refine W.ifF (q := 28) X49 C at_25 rfl (by decide : W.cF .le (1 : Int32) 0) ?_
    refine W.aload (q := 30) X49 C at_28 rfl rfl rfl ?_
    refine W.iconst (q := 31) (v := 0) X49 C at_30 rfl rfl ?_
    refine W.iload (q := 33) X49 C at_31 rfl rfl ?_
    refine W.bastore (q := 34) X49 C e49 V49  (by decide) (by decide) (Nat.le_of_ble_eq_true rfl) at_33 rfl (fun T51 h51 X51 e51 W51 V51_ => ?_)
    rw [own_bb hv42] at V51_
    have V51 : Arv Z h51 b49 k49 .byte (1 : Int32) [(.int v42)] (.int (0 : Int32)) := V51_
    have N51 := Fr.snoc X51 N0 ge_b49
    have n0_51 : n0 ≤ h51.size := by rw [W51.size]; exact n0_49
    refine W.iload (q := 36) X51 C at_34 rfl rfl ?_
    refine W.iconst (q := 37) (v := 1) X51 C at_36 rfl rfl ?_
    refine W.icmpT (q := 46) X51 C at_37 (by decide) (by decide) (by decide : W.cT .le (1 : Int32) (1 : Int32)) ?_
    refine W.iload (q := 48) X51 C at_46 rfl rfl ?_
    refine W.iconst (q := 49) (v := 2) X51 C at_48 rfl rfl ?_
    refine W.icmpT (q := 58) X51 C at_49 (by decide) (by decide) (by decide : W.cT .le (1 : Int32) (2 : Int32)) ?_
    refine W.aload (q := 60) X51 C at_58 rfl rfl rfl ?_
    refine W.callS (q := 63) X51 C (W.ww hw 1 rfl) (W.ww hw 2 rfl) (W.ww hw 3 rfl) (W.ww hw 4 rfl) (by decide) (rm1_1 l Z a0 hw [] b49 k49 v42 h51 n0 n0_51 V51) e51 at_60 [(.ref b49)] [] rfl rfl pd__28_5bB_29_5bB rfl rfl (by decide) (by decide) (by decide) (by decide) rfl (fun T53 w53 L53 X53 hQ53 => ?_)
    obtain ⟨b53, k53, rfl, NL53, K53, ge_b53, sz_b53, V53⟩ := hQ53
    have N53 := Fr.app N51 NL53
    have V51_54 := V51.keep K53 nin0
    show W.Go p e below _ (T53.setTop (mkF m 63 #[.val (.int p0), .val (.int p1), .val (.int p2), .val (.int p3), .val (.int (1 : Int32)), .val (.int v42), .val (.int v43), .val (.int v44), .val (.ref b49), .unset] [(.ref b53)]))
    refine W.astore (q := 65) (L' := #[.val (.int p0), .val (.int p1), .val (.int p2), .val (.int p3), .val (.int (1 : Int32)), .val (.int v42), .val (.int v43), .val (.int v44), .val (.ref b49), .val (.ref b53)]) X53 C at_63 rfl rfl rfl ?_
    refine W.aload (q := 67) X53 C at_65 rfl rfl rfl ?_
    refine W.ifnullF (q := 70) X53 C at_67 rfl ?_
    refine W.aload (q := 72) X53 C at_70 rfl rfl rfl ?_
    refine W.arraylength (q := 73) X53 C rfl V53 at_72 rfl ?_
    refine W.iload (q := 75) X53 C at_73 rfl rfl ?_
    refine W.iconst (q := 76) (v := 3) X53 C at_75 rfl rfl ?_
    refine W.iadd (q := 77) X53 C at_76 rfl ?_
    rw [show ((1 : Int32) + (3 : Int32)) = (4 : Int32) by decide]
    refine W.icmpT (q := 82) X53 C at_77 (by decide) (by decide) (by decide : W.cT .eq (4 : Int32) (4 : Int32)) ?_
    refine W.aload (q := 84) X53 C at_82 rfl rfl rfl ?_
    refine W.iconst (q := 85) (v := 0) X53 C at_84 rfl rfl ?_
    refine W.baload (q := 86) X53 C rfl V53 (by decide) (by decide) rfl at_85 rfl ?_
    refine W.bipush (q := 88) (v := 11) X53 C at_86 rfl rfl ?_
    refine W.icmpT (q := 93) X53 C at_88 (by decide) (by decide) (by decide : W.cT .eq (11 : Int32) (11 : Int32)) ?_
    refine W.iload (q := 95) X53 C at_93 rfl rfl ?_
    refine W.ifF (q := 98) X53 C at_95 rfl (by decide : W.cF .le (1 : Int32) 0) ?_
    refine W.aload (q := 100) X53 C at_98 rfl rfl rfl ?_
    refine W.iconst (q := 101) (v := 1) X53 C at_100 rfl rfl ?_
    refine W.baload (q := 102) X53 C rfl V53 (by decide) (by decide) rfl at_101 rfl ?_
    refine W.iload (q := 104) X53 C at_102 rfl rfl ?_
    refine W.icmpT (q := 109) X53 C at_104 (by decide) (by decide) rfl ?_
    refine W.iload (q := 111) X53 C at_109 rfl rfl ?_
    refine W.iconst (q := 112) (v := 1) X53 C at_111 rfl rfl ?_
    refine W.icmpT (q := 126) X53 C at_112 (by decide) (by decide) (by decide : W.cT .le (1 : Int32) (1 : Int32)) ?_
    refine W.iload (q := 128) X53 C at_126 rfl rfl ?_
    refine W.iconst (q := 129) (v := 2) X53 C at_128 rfl rfl ?_
    refine W.icmpT (q := 143) X53 C at_129 (by decide) (by decide) (by decide : W.cT .le (1 : Int32) (2 : Int32)) ?_
    refine W.aload (q := 145) X53 C at_143 rfl rfl rfl ?_
    refine W.iload (q := 147) X53 C at_145 rfl rfl ?_
    refine W.iconst (q := 148) (v := 1) X53 C at_147 rfl rfl ?_
    refine W.iadd (q := 149) X53 C at_148 rfl ?_
    rw [show ((1 : Int32) + (1 : Int32)) = (2 : Int32) by decide]
    refine W.baload (q := 150) X53 C rfl V53 (by decide) (by decide) rfl at_149 rfl ?_
    refine W.bipush (q := 152) (v := 28) X53 C at_150 rfl rfl ?_
    refine W.icmpT (q := 157) X53 C at_152 (by decide) (by decide) (by decide : W.cT .eq (28 : Int32) (28 : Int32)) ?_
    refine W.aload (q := 159) X53 C at_157 rfl rfl rfl ?_
    refine W.iload (q := 161) X53 C at_159 rfl rfl ?_
    refine W.iconst (q := 162) (v := 2) X53 C at_161 rfl rfl ?_
    refine W.iadd (q := 163) X53 C at_162 rfl ?_
    rw [show ((1 : Int32) + (2 : Int32)) = (3 : Int32) by decide]
    refine W.baload (q := 164) X53 C rfl V53 (by decide) (by decide) rfl at_163 rfl ?_
    refine W.bipush (q := 166) (v := 13) X53 C at_164 rfl rfl ?_
    refine W.icmpT (q := 171) X53 C at_166 (by decide) (by decide) (by decide : W.cT .eq (13 : Int32) (13 : Int32)) ?_
    refine W.iload (q := 173) X53 C at_171 rfl rfl ?_
    refine W.ifF (q := 176) X53 C at_173 rfl (by decide : W.cF .le (1 : Int32) 0) ?_
    refine W.aload (q := 178) X53 C at_176 rfl rfl rfl ?_
    refine W.iconst (q := 179) (v := 0) X53 C at_178 rfl rfl ?_
    refine W.baload (q := 180) X53 C rfl V51_54 (by decide) (by decide) rfl at_179 rfl ?_
    refine W.iload (q := 182) X53 C at_180 rfl rfl ?_
    refine W.icmpT (q := 187) X53 C at_182 (by decide) (by decide) rfl ?_
    refine W.iload (q := 189) X53 C at_187 rfl rfl ?_
    refine W.iconst (q := 190) (v := 1) X53 C at_189 rfl rfl ?_
    refine W.icmpT (q := 204) X53 C at_190 (by decide) (by decide) (by decide : W.cT .le (1 : Int32) (1 : Int32)) ?_
    refine W.iload (q := 206) X53 C at_204 rfl rfl ?_
    refine W.iconst (q := 207) (v := 2) X53 C at_206 rfl rfl ?_
    refine W.icmpT (q := 221) X53 C at_207 (by decide) (by decide) (by decide : W.cT .le (1 : Int32) (2 : Int32)) ?_
    refine W.iconst (q := 222) (v := 1) X53 C at_221 rfl rfl ?_
    exact W.retN X53 C (by simp) rfl at_222 rfl (by decide) (by decide) ⟨rfl, N53⟩
  · show W.Go p e below _ (T0.setTop (mkF m 17 #[.val (.int p0), .val (.int p1), .val (.int p2), .val (.int p3), .val (.int (2 : Int32)), .val (.int v42), .val (.int v43), .val (.int v44), .unset, .unset] []))
    refine W.iload (q := 19) X0 C at_17 rfl rfl ?_
    refine W.newarray (q := 21) X0 C (W.ww hw 0 rfl) e0 (by decide) 2 (by decide) (by decide) at_19 (by decide) (by decide) rfl (fun T55 h55 b55 k55 X55 e55 g55 E55 V55_ => ?_)
    have ge_b55 : n0 ≤ b55 := by rw [g55]; exact Z0
    have n0_55 : n0 ≤ h55.size := Nat.le_trans Z0 E55.1
    have V55 : Arv Z h55 b55 k55 .byte (2 : Int32) [(.int (0 : Int32)), (.int (0 : Int32))] (.int (0 : Int32)) := V55_
    refine W.astore (q := 23) (L' := #[.val (.int p0), .val (.int p1), .val (.int p2), .val (.int p3), .val (.int (2 : Int32)), .val (.int v42), .val (.int v43), .val (.int v44), .val (.ref b55), .unset]) X55 C at_21 rfl rfl rfl ?_
    refine W.iload (q := 25) X55 C at_23 rfl rfl ?_
    refine W.ifF (q := 28) X55 C at_25 rfl (by decide : W.cF .le (2 : Int32) 0) ?_
    refine W.aload (q := 30) X55 C at_28 rfl rfl rfl ?_
    refine W.iconst (q := 31) (v := 0) X55 C at_30 rfl rfl ?_
    refine W.iload (q := 33) X55 C at_31 rfl rfl ?_
    refine W.bastore (q := 34) X55 C e55 V55  (by decide) (by decide) (Nat.le_of_ble_eq_true rfl) at_33 rfl (fun T57 h57 X57 e57 W57 V57_ => ?_)
    rw [own_bb hv42] at V57_
    have V57 : Arv Z h57 b55 k55 .byte (2 : Int32) [(.int v42), (.int (0 : Int32))] (.int (0 : Int32)) := V57_
    have N57 := Fr.snoc X57 N0 ge_b55
    have n0_57 : n0 ≤ h57.size := by rw [W57.size]; exact n0_55
    refine W.iload (q := 36) X57 C at_34 rfl rfl ?_
    refine W.iconst (q := 37) (v := 1) X57 C at_36 rfl rfl ?_
    refine W.icmpF (q := 40) X57 C at_37 rfl (by decide : W.cF .le (2 : Int32) (1 : Int32)) ?_
    refine W.aload (q := 42) X57 C at_40 rfl rfl rfl ?_
    refine W.iconst (q := 43) (v := 1) X57 C at_42 rfl rfl ?_
    refine W.iload (q := 45) X57 C at_43 rfl rfl ?_
    refine W.bastore (q := 46) X57 C e57 V57  (by decide) (by decide) (Nat.le_of_ble_eq_true rfl) at_45 rfl (fun T59 h59 X59 e59 W59 V59_ => ?_)
    rw [own_bb hv43] at V59_
    have V59 : Arv Z h59 b55 k55 .byte (2 : Int32) [(.int v42), (.int v43)] (.int (0 : Int32)) := V59_
    have N59 := Fr.snoc X59 N57 ge_b55
    have n0_59 : n0 ≤ h59.size := by rw [W59.size]; exact n0_57
    refine W.iload (q := 48) X59 C at_46 rfl rfl ?_
    refine W.iconst (q := 49) (v := 2) X59 C at_48 rfl rfl ?_
    refine W.icmpT (q := 58) X59 C at_49 (by decide) (by decide) (by decide : W.cT .le (2 : Int32) (2 : Int32)) ?_
    refine W.aload (q := 60) X59 C at_58 rfl rfl rfl ?_
    refine W.callS (q := 63) X59 C (W.ww hw 1 rfl) (W.ww hw 2 rfl) (W.ww hw 3 rfl) (W.ww hw 4 rfl) (by decide) (rm1_2 l Z a0 hw [] b55 k55 v42 v43 h59 n0 n0_59 V59) e59 at_60 [(.ref b55)] [] rfl rfl pd__28_5bB_29_5bB rfl rfl (by decide) (by decide) (by decide) (by decide) rfl (fun T61 w61 L61 X61 hQ61 => ?_)
    obtain ⟨b61, k61, rfl, NL61, K61, ge_b61, sz_b61, V61⟩ := hQ61
    have N61 := Fr.app N59 NL61
    have V59_62 := V59.keep K61 nin0
    show W.Go p e below _ (T61.setTop (mkF m 63 #[.val (.int p0), .val (.int p1), .val (.int p2), .val (.int p3), .val (.int (2 : Int32)), .val (.int v42), .val (.int v43), .val (.int v44), .val (.ref b55), .unset] [(.ref b61)]))
    refine W.astore (q := 65) (L' := #[.val (.int p0), .val (.int p1), .val (.int p2), .val (.int p3), .val (.int (2 : Int32)), .val (.int v42), .val (.int v43), .val (.int v44), .val (.ref b55), .val (.ref b61)]) X61 C at_63 rfl rfl rfl ?_
    refine W.aload (q := 67) X61 C at_65 rfl rfl rfl ?_
    refine W.ifnullF (q := 70) X61 C at_67 rfl ?_
    refine W.aload (q := 72) X61 C at_70 rfl rfl rfl ?_
    refine W.arraylength (q := 73) X61 C rfl V61 at_72 rfl ?_
    refine W.iload (q := 75) X61 C at_73 rfl rfl ?_
    refine W.iconst (q := 76) (v := 3) X61 C at_75 rfl rfl ?_
    refine W.iadd (q := 77) X61 C at_76 rfl ?_
    rw [show ((2 : Int32) + (3 : Int32)) = (5 : Int32) by decide]
    refine W.icmpT (q := 82) X61 C at_77 (by decide) (by decide) (by decide : W.cT .eq (5 : Int32) (5 : Int32)) ?_
    refine W.aload (q := 84) X61 C at_82 rfl rfl rfl ?_
    refine W.iconst (q := 85) (v := 0) X61 C at_84 rfl rfl ?_
    refine W.baload (q := 86) X61 C rfl V61 (by decide) (by decide) rfl at_85 rfl ?_
    refine W.bipush (q := 88) (v := 11) X61 C at_86 rfl rfl ?_
    refine W.icmpT (q := 93) X61 C at_88 (by decide) (by decide) (by decide : W.cT .eq (11 : Int32) (11 : Int32)) ?_
    refine W.iload (q := 95) X61 C at_93 rfl rfl ?_
    refine W.ifF (q := 98) X61 C at_95 rfl (by decide : W.cF .le (2 : Int32) 0) ?_
    refine W.aload (q := 100) X61 C at_98 rfl rfl rfl ?_
    refine W.iconst (q := 101) (v := 1) X61 C at_100 rfl rfl ?_
    refine W.baload (q := 102) X61 C rfl V61 (by decide) (by decide) rfl at_101 rfl ?_
    refine W.iload (q := 104) X61 C at_102 rfl rfl ?_
    refine W.icmpT (q := 109) X61 C at_104 (by decide) (by decide) rfl ?_
    refine W.iload (q := 111) X61 C at_109 rfl rfl ?_
    refine W.iconst (q := 112) (v := 1) X61 C at_111 rfl rfl ?_
    refine W.icmpF (q := 115) X61 C at_112 rfl (by decide : W.cF .le (2 : Int32) (1 : Int32)) ?_
    refine W.aload (q := 117) X61 C at_115 rfl rfl rfl ?_
    refine W.iconst (q := 118) (v := 2) X61 C at_117 rfl rfl ?_
    refine W.baload (q := 119) X61 C rfl V61 (by decide) (by decide) rfl at_118 rfl ?_
    refine W.iload (q := 121) X61 C at_119 rfl rfl ?_
    refine W.icmpT (q := 126) X61 C at_121 (by decide) (by decide) rfl ?_
    refine W.iload (q := 128) X61 C at_126 rfl rfl ?_
    refine W.iconst (q := 129) (v := 2) X61 C at_128 rfl rfl ?_
    refine W.icmpT (q := 143) X61 C at_129 (by decide) (by decide) (by decide : W.cT .le (2 : Int32) (2 : Int32)) ?_
    refine W.aload (q := 145) X61 C at_143 rfl rfl rfl ?_
    refine W.iload (q := 147) X61 C at_145 rfl rfl ?_
    refine W.iconst (q := 148) (v := 1) X61 C at_147 rfl rfl ?_
    refine W.iadd (q := 149) X61 C at_148 rfl ?_
    rw [show ((2 : Int32) + (1 : Int32)) = (3 : Int32) by decide]
    refine W.baload (q := 150) X61 C rfl V61 (by decide) (by decide) rfl at_149 rfl ?_
    refine W.bipush (q := 152) (v := 28) X61 C at_150 rfl rfl ?_
    refine W.icmpT (q := 157) X61 C at_152 (by decide) (by decide) (by decide : W.cT .eq (28 : Int32) (28 : Int32)) ?_
    refine W.aload (q := 159) X61 C at_157 rfl rfl rfl ?_
    refine W.iload (q := 161) X61 C at_159 rfl rfl ?_
    refine W.iconst (q := 162) (v := 2) X61 C at_161 rfl rfl ?_
    refine W.iadd (q := 163) X61 C at_162 rfl ?_
    rw [show ((2 : Int32) + (2 : Int32)) = (4 : Int32) by decide]
    refine W.baload (q := 164) X61 C rfl V61 (by decide) (by decide) rfl at_163 rfl ?_
    refine W.bipush (q := 166) (v := 13) X61 C at_164 rfl rfl ?_
    refine W.icmpT (q := 171) X61 C at_166 (by decide) (by decide) (by decide : W.cT .eq (13 : Int32) (13 : Int32)) ?_
    refine W.iload (q := 173) X61 C at_171 rfl rfl ?_
    refine W.ifF (q := 176) X61 C at_173 rfl (by decide : W.cF .le (2 : Int32) 0) ?_
    refine W.aload (q := 178) X61 C at_176 rfl rfl rfl ?_
    refine W.iconst (q := 179) (v := 0) X61 C at_178 rfl rfl ?_
    refine W.baload (q := 180) X61 C rfl V59_62 (by decide) (by decide) rfl at_179 rfl ?_
    refine W.iload (q := 182) X61 C at_180 rfl rfl ?_
    refine W.icmpT (q := 187) X61 C at_182 (by decide) (by decide) rfl ?_
    refine W.iload (q := 189) X61 C at_187 rfl rfl ?_
    refine W.iconst (q := 190) (v := 1) X61 C at_189 rfl rfl ?_
    refine W.icmpF (q := 193) X61 C at_190 rfl (by decide : W.cF .le (2 : Int32) (1 : Int32)) ?_
    refine W.aload (q := 195) X61 C at_193 rfl rfl rfl ?_
    refine W.iconst (q := 196) (v := 1) X61 C at_195 rfl rfl ?_
    refine W.baload (q := 197) X61 C rfl V59_62 (by decide) (by decide) rfl at_196 rfl ?_
    refine W.iload (q := 199) X61 C at_197 rfl rfl ?_
    refine W.icmpT (q := 204) X61 C at_199 (by decide) (by decide) rfl ?_
    refine W.iload (q := 206) X61 C at_204 rfl rfl ?_
    refine W.iconst (q := 207) (v := 2) X61 C at_206 rfl rfl ?_
    refine W.icmpT (q := 221) X61 C at_207 (by decide) (by decide) (by decide : W.cT .le (2 : Int32) (2 : Int32)) ?_
    refine W.iconst (q := 222) (v := 1) X61 C at_221 rfl rfl ?_
    exact W.retN X61 C (by simp) rfl at_222 rfl (by decide) (by decide) ⟨rfl, N61⟩
  · show W.Go p e below _ (T0.setTop (mkF m 17 #[.val (.int p0), .val (.int p1), .val (.int p2), .val (.int p3), .val (.int (3 : Int32)), .val (.int v42), .val (.int v43), .val (.int v44), .unset, .unset] []))
    refine W.iload (q := 19) X0 C at_17 rfl rfl ?_
    refine W.newarray (q := 21) X0 C (W.ww hw 0 rfl) e0 (by decide) 3 (by decide) (by decide) at_19 (by decide) (by decide) rfl (fun T63 h63 b63 k63 X63 e63 g63 E63 V63_ => ?_)
    have ge_b63 : n0 ≤ b63 := by rw [g63]; exact Z0
    have n0_63 : n0 ≤ h63.size := Nat.le_trans Z0 E63.1
    have V63 : Arv Z h63 b63 k63 .byte (3 : Int32) [(.int (0 : Int32)), (.int (0 : Int32)), (.int (0 : Int32))] (.int (0 : Int32)) := V63_
    refine W.astore (q := 23) (L' := #[.val (.int p0), .val (.int p1), .val (.int p2), .val (.int p3), .val (.int (3 : Int32)), .val (.int v42), .val (.int v43), .val (.int v44), .val (.ref b63), .unset]) X63 C at_21 rfl rfl rfl ?_
    refine W.iload (q := 25) X63 C at_23 rfl rfl ?_
    refine W.ifF (q := 28) X63 C at_25 rfl (by decide : W.cF .le (3 : Int32) 0) ?_
    refine W.aload (q := 30) X63 C at_28 rfl rfl rfl ?_
    refine W.iconst (q := 31) (v := 0) X63 C at_30 rfl rfl ?_
    refine W.iload (q := 33) X63 C at_31 rfl rfl ?_
    refine W.bastore (q := 34) X63 C e63 V63  (by decide) (by decide) (Nat.le_of_ble_eq_true rfl) at_33 rfl (fun T65 h65 X65 e65 W65 V65_ => ?_)
    rw [own_bb hv42] at V65_
    have V65 : Arv Z h65 b63 k63 .byte (3 : Int32) [(.int v42), (.int (0 : Int32)), (.int (0 : Int32))] (.int (0 : Int32)) := V65_
    have N65 := Fr.snoc X65 N0 ge_b63
    have n0_65 : n0 ≤ h65.size := by rw [W65.size]; exact n0_63
    refine W.iload (q := 36) X65 C at_34 rfl rfl ?_
    refine W.iconst (q := 37) (v := 1) X65 C at_36 rfl rfl ?_
    refine W.icmpF (q := 40) X65 C at_37 rfl (by decide : W.cF .le (3 : Int32) (1 : Int32)) ?_
    refine W.aload (q := 42) X65 C at_40 rfl rfl rfl ?_
    refine W.iconst (q := 43) (v := 1) X65 C at_42 rfl rfl ?_
    refine W.iload (q := 45) X65 C at_43 rfl rfl ?_
    refine W.bastore (q := 46) X65 C e65 V65  (by decide) (by decide) (Nat.le_of_ble_eq_true rfl) at_45 rfl (fun T67 h67 X67 e67 W67 V67_ => ?_)
    rw [own_bb hv43] at V67_
    have V67 : Arv Z h67 b63 k63 .byte (3 : Int32) [(.int v42), (.int v43), (.int (0 : Int32))] (.int (0 : Int32)) := V67_
    have N67 := Fr.snoc X67 N65 ge_b63
    have n0_67 : n0 ≤ h67.size := by rw [W67.size]; exact n0_65
    refine W.iload (q := 48) X67 C at_46 rfl rfl ?_
    refine W.iconst (q := 49) (v := 2) X67 C at_48 rfl rfl ?_
    refine W.icmpF (q := 52) X67 C at_49 rfl (by decide : W.cF .le (3 : Int32) (2 : Int32)) ?_
    refine W.aload (q := 54) X67 C at_52 rfl rfl rfl ?_
    refine W.iconst (q := 55) (v := 2) X67 C at_54 rfl rfl ?_
    refine W.iload (q := 57) X67 C at_55 rfl rfl ?_
    refine W.bastore (q := 58) X67 C e67 V67  (by decide) (by decide) (Nat.le_of_ble_eq_true rfl) at_57 rfl (fun T69 h69 X69 e69 W69 V69_ => ?_)
    rw [own_bb hv44] at V69_
    have V69 : Arv Z h69 b63 k63 .byte (3 : Int32) [(.int v42), (.int v43), (.int v44)] (.int (0 : Int32)) := V69_
    have N69 := Fr.snoc X69 N67 ge_b63
    have n0_69 : n0 ≤ h69.size := by rw [W69.size]; exact n0_67
    refine W.aload (q := 60) X69 C at_58 rfl rfl rfl ?_
    refine W.callS (q := 63) X69 C (W.ww hw 1 rfl) (W.ww hw 2 rfl) (W.ww hw 3 rfl) (W.ww hw 4 rfl) (by decide) (rm1_3 l Z a0 hw [] b63 k63 v42 v43 v44 h69 n0 n0_69 V69) e69 at_60 [(.ref b63)] [] rfl rfl pd__28_5bB_29_5bB rfl rfl (by decide) (by decide) (by decide) (by decide) rfl (fun T71 w71 L71 X71 hQ71 => ?_)
    obtain ⟨b71, k71, rfl, NL71, K71, ge_b71, sz_b71, V71⟩ := hQ71
    have N71 := Fr.app N69 NL71
    have V69_72 := V69.keep K71 nin0
    show W.Go p e below _ (T71.setTop (mkF m 63 #[.val (.int p0), .val (.int p1), .val (.int p2), .val (.int p3), .val (.int (3 : Int32)), .val (.int v42), .val (.int v43), .val (.int v44), .val (.ref b63), .unset] [(.ref b71)]))
    refine W.astore (q := 65) (L' := #[.val (.int p0), .val (.int p1), .val (.int p2), .val (.int p3), .val (.int (3 : Int32)), .val (.int v42), .val (.int v43), .val (.int v44), .val (.ref b63), .val (.ref b71)]) X71 C at_63 rfl rfl rfl ?_
    refine W.aload (q := 67) X71 C at_65 rfl rfl rfl ?_
    refine W.ifnullF (q := 70) X71 C at_67 rfl ?_
    refine W.aload (q := 72) X71 C at_70 rfl rfl rfl ?_
    refine W.arraylength (q := 73) X71 C rfl V71 at_72 rfl ?_
    refine W.iload (q := 75) X71 C at_73 rfl rfl ?_
    refine W.iconst (q := 76) (v := 3) X71 C at_75 rfl rfl ?_
    refine W.iadd (q := 77) X71 C at_76 rfl ?_
    rw [show ((3 : Int32) + (3 : Int32)) = (6 : Int32) by decide]
    refine W.icmpT (q := 82) X71 C at_77 (by decide) (by decide) (by decide : W.cT .eq (6 : Int32) (6 : Int32)) ?_
    refine W.aload (q := 84) X71 C at_82 rfl rfl rfl ?_
    refine W.iconst (q := 85) (v := 0) X71 C at_84 rfl rfl ?_
    refine W.baload (q := 86) X71 C rfl V71 (by decide) (by decide) rfl at_85 rfl ?_
    refine W.bipush (q := 88) (v := 11) X71 C at_86 rfl rfl ?_
    refine W.icmpT (q := 93) X71 C at_88 (by decide) (by decide) (by decide : W.cT .eq (11 : Int32) (11 : Int32)) ?_
    refine W.iload (q := 95) X71 C at_93 rfl rfl ?_
    refine W.ifF (q := 98) X71 C at_95 rfl (by decide : W.cF .le (3 : Int32) 0) ?_
    refine W.aload (q := 100) X71 C at_98 rfl rfl rfl ?_
    refine W.iconst (q := 101) (v := 1) X71 C at_100 rfl rfl ?_
    refine W.baload (q := 102) X71 C rfl V71 (by decide) (by decide) rfl at_101 rfl ?_
    refine W.iload (q := 104) X71 C at_102 rfl rfl ?_
    refine W.icmpT (q := 109) X71 C at_104 (by decide) (by decide) rfl ?_
    refine W.iload (q := 111) X71 C at_109 rfl rfl ?_
    refine W.iconst (q := 112) (v := 1) X71 C at_111 rfl rfl ?_
    refine W.icmpF (q := 115) X71 C at_112 rfl (by decide : W.cF .le (3 : Int32) (1 : Int32)) ?_
    refine W.aload (q := 117) X71 C at_115 rfl rfl rfl ?_
    refine W.iconst (q := 118) (v := 2) X71 C at_117 rfl rfl ?_
    refine W.baload (q := 119) X71 C rfl V71 (by decide) (by decide) rfl at_118 rfl ?_
    refine W.iload (q := 121) X71 C at_119 rfl rfl ?_
    refine W.icmpT (q := 126) X71 C at_121 (by decide) (by decide) rfl ?_
    refine W.iload (q := 128) X71 C at_126 rfl rfl ?_
    refine W.iconst (q := 129) (v := 2) X71 C at_128 rfl rfl ?_
    refine W.icmpF (q := 132) X71 C at_129 rfl (by decide : W.cF .le (3 : Int32) (2 : Int32)) ?_
    refine W.aload (q := 134) X71 C at_132 rfl rfl rfl ?_
    refine W.iconst (q := 135) (v := 3) X71 C at_134 rfl rfl ?_
    refine W.baload (q := 136) X71 C rfl V71 (by decide) (by decide) rfl at_135 rfl ?_
    refine W.iload (q := 138) X71 C at_136 rfl rfl ?_
    refine W.icmpT (q := 143) X71 C at_138 (by decide) (by decide) rfl ?_
    refine W.aload (q := 145) X71 C at_143 rfl rfl rfl ?_
    refine W.iload (q := 147) X71 C at_145 rfl rfl ?_
    refine W.iconst (q := 148) (v := 1) X71 C at_147 rfl rfl ?_
    refine W.iadd (q := 149) X71 C at_148 rfl ?_
    rw [show ((3 : Int32) + (1 : Int32)) = (4 : Int32) by decide]
    refine W.baload (q := 150) X71 C rfl V71 (by decide) (by decide) rfl at_149 rfl ?_
    refine W.bipush (q := 152) (v := 28) X71 C at_150 rfl rfl ?_
    refine W.icmpT (q := 157) X71 C at_152 (by decide) (by decide) (by decide : W.cT .eq (28 : Int32) (28 : Int32)) ?_
    refine W.aload (q := 159) X71 C at_157 rfl rfl rfl ?_
    refine W.iload (q := 161) X71 C at_159 rfl rfl ?_
    refine W.iconst (q := 162) (v := 2) X71 C at_161 rfl rfl ?_
    refine W.iadd (q := 163) X71 C at_162 rfl ?_
    rw [show ((3 : Int32) + (2 : Int32)) = (5 : Int32) by decide]
    refine W.baload (q := 164) X71 C rfl V71 (by decide) (by decide) rfl at_163 rfl ?_
    refine W.bipush (q := 166) (v := 13) X71 C at_164 rfl rfl ?_
    refine W.icmpT (q := 171) X71 C at_166 (by decide) (by decide) (by decide : W.cT .eq (13 : Int32) (13 : Int32)) ?_
    refine W.iload (q := 173) X71 C at_171 rfl rfl ?_
    refine W.ifF (q := 176) X71 C at_173 rfl (by decide : W.cF .le (3 : Int32) 0) ?_
    refine W.aload (q := 178) X71 C at_176 rfl rfl rfl ?_
    refine W.iconst (q := 179) (v := 0) X71 C at_178 rfl rfl ?_
    refine W.baload (q := 180) X71 C rfl V69_72 (by decide) (by decide) rfl at_179 rfl ?_
    refine W.iload (q := 182) X71 C at_180 rfl rfl ?_
    refine W.icmpT (q := 187) X71 C at_182 (by decide) (by decide) rfl ?_
    refine W.iload (q := 189) X71 C at_187 rfl rfl ?_
    refine W.iconst (q := 190) (v := 1) X71 C at_189 rfl rfl ?_
    refine W.icmpF (q := 193) X71 C at_190 rfl (by decide : W.cF .le (3 : Int32) (1 : Int32)) ?_
    refine W.aload (q := 195) X71 C at_193 rfl rfl rfl ?_
    refine W.iconst (q := 196) (v := 1) X71 C at_195 rfl rfl ?_
    refine W.baload (q := 197) X71 C rfl V69_72 (by decide) (by decide) rfl at_196 rfl ?_
    refine W.iload (q := 199) X71 C at_197 rfl rfl ?_
    refine W.icmpT (q := 204) X71 C at_199 (by decide) (by decide) rfl ?_
    refine W.iload (q := 206) X71 C at_204 rfl rfl ?_
    refine W.iconst (q := 207) (v := 2) X71 C at_206 rfl rfl ?_
    refine W.icmpF (q := 210) X71 C at_207 rfl (by decide : W.cF .le (3 : Int32) (2 : Int32)) ?_
    refine W.aload (q := 212) X71 C at_210 rfl rfl rfl ?_
    refine W.iconst (q := 213) (v := 2) X71 C at_212 rfl rfl ?_
    refine W.baload (q := 214) X71 C rfl V69_72 (by decide) (by decide) rfl at_213 rfl ?_
    refine W.iload (q := 216) X71 C at_214 rfl rfl ?_
    refine W.icmpT (q := 221) X71 C at_216 (by decide) (by decide) rfl ?_
    refine W.iconst (q := 222) (v := 1) X71 C at_221 rfl rfl ?_
    exact W.retN X71 C (by simp) rfl at_222 rfl (by decide) (by decide) ⟨rfl, N71⟩
set_option maxRecDepth 65536 in
set_option maxHeartbeats 40000000 in
theorem comes_1 {Post : Tables → Env → Array Value → State → Outcome → State → Prop} (hpost : ∀ tb e args s v u, (limb_1_1.after args s (.returned v) u = true ∧ limb_1_2.after args s (.returned v) u = true ∧ True) → FrameEnd s (.returned v) u (Jvm.fieldLocs frame_1_writes args s ++ Jvm.arrayLocs frame_1_arrays args s ++ Jvm.staticLocs frame_1_statics s) 16 128 → Post tb e args s (.returned v) u) :
    ArmFor flags0 classFile x code maxLocals ret World_1 tables_1 room_1 Calls_1 rest_1 Pre_1 Post := by
  intro l hfl _ _ p e ha hc hk s m args below hf hA hF happ hP
  obtain ⟨hcalls, hrest, hpre⟩ := hP
  obtain ⟨-, -, -, hnamed, -, -, -, hat⟩ := (Spec.applies_iff hf).mp happ
  obtain ⟨hg, hn⟩ := and_e (Cond.before_iff.mp (show (Jvm.Cond.and given_1 narrow_1).before args s = true from hpre))
  obtain ⟨g1, g2⟩ := and_e hg
  obtain ⟨g3, g4⟩ := and_e g2
  obtain ⟨g5, g6⟩ := and_e g4
  obtain ⟨g7, g8⟩ := and_e g6
  obtain ⟨w0, w1, w2, w3, rfl⟩ : ∃ w0 w1 w2 w3 : Value, args = #[w0, w1, w2, w3] := by
    have hs : args.size = 4 := by simpa [Cond.value, given_1] using g1
    obtain ⟨L⟩ := args
    match L, hs with
    | [w0, w1, w2, w3], _ => exact ⟨w0, w1, w2, w3, rfl⟩
  have hw := fun d (hd : d ∈ tables_1) => atoms_spec (ws := Jvm.Cond.code x code maxLocals ret :: tables_1) hat d (List.mem_cons_of_mem _ hd)
  have hfit : Fit s := fun {y c} hc i hi => by
    obtain ⟨ha, rfl⟩ := Array.getElem?_eq_some_iff.mp hc
    have q := List.all_eq_true.mp ((Array.all_eq_true_iff_forall_mem.mp hF) _ (Array.getElem_mem ha)) i (List.mem_range.mpr hi)
    simpa [Array.getElem?_eq_getElem hi] using q
  obtain ⟨i0, ei0⟩ := is_v g3
  obtain rfl : w0 = (.int i0) := Option.some.inj ei0
  obtain ⟨i1, ei1⟩ := is_v g5
  obtain rfl : w1 = (.int i1) := Option.some.inj ei1
  obtain ⟨i2, ei2⟩ := is_v g7
  obtain rfl : w2 = (.int i2) := Option.some.inj ei2
  obtain ⟨i3, ei3⟩ := is_v g8
  obtain rfl : w3 = (.int i3) := Option.some.inj ei3
  obtain ⟨n, o, h1, h2, h3, _, L, rfl, ⟨rfl, N⟩, hq⟩ := rm0 l s _ hw tables_1 i0 i1 i2 i3 s.heap s.heap.size (Nat.le_refl _) p e ha hc hk s m _ below hf ((Spec.applies_iff_loose hf).mp happ).1 ⟨rfl, State.Warmed39.refl s, rfl⟩ trivial
  refine ⟨n, _, h1, h2, h3, hpost _ _ _ _ _ _ ⟨Cond.after_iff.mpr rfl, Cond.after_iff.mpr (eq_i res_at (Term.int_eval (1)) rfl), trivial⟩ ⟨hq.1, hq.2.1, (hq.2.2.sift fun y hy => Or.inr (N y hy)).mono (by decide) (by decide)⟩⟩
theorem main_1_1 : Claimed_1_1 := comes_1 fun _ _ _ _ _ _ h hF => ⟨h.1, hF⟩
theorem main_1_2 : Claimed_1_2 := comes_1 fun _ _ _ _ _ _ h hF => ⟨h.2.1, hF⟩
end Jvm.Pilot.@@N@@
namespace Jvm.Pilot.@@N@@
open Jvm Jvm.ClassFile Sem Op Lib Jvm.Free Jvm.Stand Jvm.Pilot.@@N@@.Jvm.D
/-! MADE BY PROGRAM (witnessworld.py) out of the Statement's table words and the real class files: 10 classes; the members and pool entries that the words name. The judged class is class 1, her method 1. -/
namespace start1
open Jvm.ClassFile
def u (s : String) : CpInfo := .utf8 (stringToUtf16 s)
/-- a pool by its gaps: so many unusable entries, then the entry; so many at the end -/
def gap : Nat → List CpInfo → List CpInfo
  | 0, r => r
  | n + 1, r => .unusable :: gap n r
def poolList (es : List (Nat × CpInfo)) (last : Nat) : List CpInfo := es.foldr (fun e r => gap e.1 (e.2 :: r)) (gap last [])
def pool (es : List (Nat × CpInfo)) (last : Nat) : Array CpInfo := ⟨poolList es last⟩
def fileOf (pool : Array CpInfo) (this : Nat) (attrs : Array Attribute := #[]) (ms : Array MethodInfo := #[]) (fl : Nat := 33) (sup : Nat := 0) (ifs : Array Nat := #[]) (fds : Array FieldInfo := #[]) : ClassFile where
  minorVersion := 0
  majorVersion := 65
  constantPool := pool
  accessFlags := fl
  thisClass := this
  superClass := sup
  interfaces := ifs
  fields := fds
  methods := ms
  attributes := attrs
def plain (name : String) (sup : Option ClassId) : Class where
  name := name
  kind := .ordinary
  loader := none
  accessFlags := 33
  super := sup
  interfaces := #[]
  cf := none
  fields := #[]
  methods := #[]
  instanceTypes := #[]
  staticTypes := #[]
  resolved := #[]
  callSites := []
  init := .initialized
  statics := none
  mirror := none

def pool0 : Array CpInfo := pool [(5, u "<init>"), (0, u "()V"), (1, .class_ 10), (1, u "java/lang/Object")] 113

def k0m0 : Method := { name := "<init>", desc := "()V", sig := { parameters := [], returnType := none }, accessFlags := 1, code := none }
/-- java/lang/Object -/
def k0 : Class := { plain "java/lang/Object" none with
  accessFlags := 33
  interfaces := #[]
  cf := some (fileOf pool0 8 #[] #[{ accessFlags := 1, nameIndex := 5, descriptorIndex := 6, attributes := #[] }] 33 0 #[] #[])
  fields := #[]
  methods := #[k0m0]
  instanceTypes := #[]
  staticTypes := #[]
  resolved := Array.replicate 124 none
  statics := none }

def pool1 : Array CpInfo := pool [(2, .class_ 4), (1, u "java/lang/Object"), (0, u "<init>"), (0, u "()V"), (0, .methodref 8 9), (0, .class_ 10), (0, .nameAndType 11 12), (0, u "com/example/orderwire/orderwire/hl7/Mllp"), (0, u "frame"), (0, u "([B)[B"), (0, .class_ 14), (0, u "com/example/orderwire/orderwire/hl7/MllpFramePinLaw"), (2, u "law"), (0, u "(IIII)Z")] 5

def k1m0 : Method := { name := "<init>", desc := "()V", sig := { parameters := [], returnType := none }, accessFlags := 2, code := none }
def k1c1 : Code := { maxStack := 3, maxLocals := 10, code := code, exceptionTable := #[], attributes := #[] }
def k1m1 : Method := { name := "law", desc := "(IIII)Z", sig := { parameters := [.int, .int, .int, .int], returnType := some .boolean }, accessFlags := 9, code := some k1c1 }
/-- com/example/orderwire/orderwire/hl7/MllpFramePinLaw -/
def k1 : Class := { plain "com/example/orderwire/orderwire/hl7/MllpFramePinLaw" (some 0) with
  accessFlags := 49
  interfaces := #[]
  cf := some (fileOf pool1 13 #[] #[{ accessFlags := 2, nameIndex := 5, descriptorIndex := 6, attributes := #[] }, { accessFlags := 9, nameIndex := 17, descriptorIndex := 18, attributes := #[] }] 49 2 #[] #[])
  fields := #[]
  methods := #[k1m0, k1m1]
  instanceTypes := #[]
  staticTypes := #[]
  resolved := Array.replicate 24 none
  statics := none }

def pool2 : Array CpInfo := pool [(2, .class_ 4), (1, u "java/lang/Object"), (0, u "<init>"), (0, u "()V"), (0, .class_ 8), (0, u "com/example/orderwire/orderwire/hl7/Mllp"), (0, .methodref 10 11), (0, .class_ 12), (0, .nameAndType 13 14), (0, u "java/lang/System"), (0, u "arraycopy"), (0, u "(Ljava/lang/Object;ILjava/lang/Object;II)V"), (0, u "START_BLOCK"), (0, u "B"), (2, u "END_BLOCK"), (1, u "CARRIAGE_RETURN"), (3, u "frame"), (0, u "([B)[B")] 2

def k2m0 : Method := { name := "<init>", desc := "()V", sig := { parameters := [], returnType := none }, accessFlags := 2, code := none }
def k2c1 : Code := { maxStack := 5, maxLocals := 2, code := prog_13_method_2_code, exceptionTable := #[], attributes := #[] }
def k2m1 : Method := { name := "frame", desc := "([B)[B", sig := { parameters := [(.array .byte)], returnType := some (.array .byte) }, accessFlags := 9, code := some k2c1 }
/-- com/example/orderwire/orderwire/hl7/Mllp -/
def k2 : Class := { plain "com/example/orderwire/orderwire/hl7/Mllp" (some 0) with
  accessFlags := 49
  interfaces := #[]
  cf := some (fileOf pool2 7 #[] #[{ accessFlags := 2, nameIndex := 5, descriptorIndex := 6, attributes := #[] }, { accessFlags := 9, nameIndex := 25, descriptorIndex := 26, attributes := #[] }] 49 2 #[] #[{ accessFlags := 25, nameIndex := 15, descriptorIndex := 16, attributes := #[] }, { accessFlags := 25, nameIndex := 19, descriptorIndex := 16, attributes := #[] }, { accessFlags := 25, nameIndex := 21, descriptorIndex := 16, attributes := #[] }])
  fields := #[{ name := "START_BLOCK", type := .byte, accessFlags := 25, slot := 0, constantValue := 0 }, { name := "END_BLOCK", type := .byte, accessFlags := 25, slot := 1, constantValue := 0 }, { name := "CARRIAGE_RETURN", type := .byte, accessFlags := 25, slot := 2, constantValue := 0 }]
  methods := #[k2m0, k2m1]
  instanceTypes := #[]
  staticTypes := #[.byte, .byte, .byte]
  resolved := Array.replicate 29 none
  statics := none }

def pool3 : Array CpInfo := pool [(2, .class_ 4), (1, u "java/lang/Object"), (0, u "<init>"), (0, u "()V"), (1, .class_ 10), (1, u "java/lang/System"), (0, u "allowSecurityManager"), (0, u "I"), (16, u "cons"), (0, u "Ljava/io/Console;"), (77, .class_ 110), (1, u "java/lang/System$CallersHolder"), (43, u "initialErrStream"), (0, u "Ljava/io/PrintStream;"), (19, u "security"), (0, u "Ljava/lang/SecurityManager;"), (31, .class_ 209), (0, u "java/lang/System$1"), (7, u "props"), (0, u "Ljava/util/Properties;"), (2, u "lineSeparator"), (0, u "Ljava/lang/String;"), (96, .class_ 321), (1, u "java/lang/System$LoggerFinder"), (5, .class_ 328), (0, u "java/lang/System$Logger"), (67, u "err"), (2, u "out"), (91, u "notSupportedJnuEncoding"), (15, u "in"), (17, u "initialIn"), (0, u "Ljava/io/InputStream;"), (35, u "bootLayer"), (0, u "Ljava/lang/ModuleLayer;"), (99, .class_ 664), (0, u "java/lang/System$2"), (9, u "NEVER"), (2, u "MAYBE"), (49, u "arraycopy"), (0, u "(Ljava/lang/Object;ILjava/lang/Object;II)V"), (72, .class_ 802), (0, u "java/lang/System$Logger$Level")] 31

def k3m0 : Method := { name := "<init>", desc := "()V", sig := { parameters := [], returnType := none }, accessFlags := 2, code := none }
def k3m1 : Method := { name := "arraycopy", desc := "(Ljava/lang/Object;ILjava/lang/Object;II)V", sig := { parameters := [(.object "java/lang/Object"), .int, (.object "java/lang/Object"), .int, .int], returnType := none }, accessFlags := 265, code := none }
/-- java/lang/System -/
def k3 : Class := { plain "java/lang/System" (some 0) with
  accessFlags := 49
  interfaces := #[]
  cf := some (fileOf pool3 8 #[.nestMembers #[319, 327, 801, 108, 663, 208]] #[{ accessFlags := 2, nameIndex := 5, descriptorIndex := 6, attributes := #[] }, { accessFlags := 265, nameIndex := 727, descriptorIndex := 728, attributes := #[] }] 49 2 #[] #[{ accessFlags := 25, nameIndex := 507, descriptorIndex := 526, attributes := #[] }, { accessFlags := 25, nameIndex := 399, descriptorIndex := 155, attributes := #[] }, { accessFlags := 25, nameIndex := 396, descriptorIndex := 155, attributes := #[] }, { accessFlags := 10, nameIndex := 525, descriptorIndex := 526, attributes := #[] }, { accessFlags := 26, nameIndex := 674, descriptorIndex := 12, attributes := #[] }, { accessFlags := 26, nameIndex := 677, descriptorIndex := 12, attributes := #[] }, { accessFlags := 10, nameIndex := 11, descriptorIndex := 12, attributes := #[] }, { accessFlags := 74, nameIndex := 175, descriptorIndex := 176, attributes := #[] }, { accessFlags := 10, nameIndex := 491, descriptorIndex := 222, attributes := #[] }, { accessFlags := 74, nameIndex := 29, descriptorIndex := 30, attributes := #[] }, { accessFlags := 74, nameIndex := 154, descriptorIndex := 155, attributes := #[] }, { accessFlags := 10, nameIndex := 217, descriptorIndex := 218, attributes := #[] }, { accessFlags := 10, nameIndex := 221, descriptorIndex := 222, attributes := #[] }, { accessFlags := 8, nameIndex := 562, descriptorIndex := 563, attributes := #[] }])
  fields := #[{ name := "in", type := (.object "java/io/InputStream"), accessFlags := 25, slot := 0, constantValue := 0 }, { name := "out", type := (.object "java/io/PrintStream"), accessFlags := 25, slot := 1, constantValue := 0 }, { name := "err", type := (.object "java/io/PrintStream"), accessFlags := 25, slot := 2, constantValue := 0 }, { name := "initialIn", type := (.object "java/io/InputStream"), accessFlags := 10, slot := 3, constantValue := 0 }, { name := "NEVER", type := .int, accessFlags := 26, slot := 4, constantValue := 0 }, { name := "MAYBE", type := .int, accessFlags := 26, slot := 5, constantValue := 0 }, { name := "allowSecurityManager", type := .int, accessFlags := 10, slot := 6, constantValue := 0 }, { name := "security", type := (.object "java/lang/SecurityManager"), accessFlags := 74, slot := 7, constantValue := 0 }, { name := "notSupportedJnuEncoding", type := (.object "java/lang/String"), accessFlags := 10, slot := 8, constantValue := 0 }, { name := "cons", type := (.object "java/io/Console"), accessFlags := 74, slot := 9, constantValue := 0 }, { name := "initialErrStream", type := (.object "java/io/PrintStream"), accessFlags := 74, slot := 10, constantValue := 0 }, { name := "props", type := (.object "java/util/Properties"), accessFlags := 10, slot := 11, constantValue := 0 }, { name := "lineSeparator", type := (.object "java/lang/String"), accessFlags := 10, slot := 12, constantValue := 0 }, { name := "bootLayer", type := (.object "java/lang/ModuleLayer"), accessFlags := 8, slot := 13, constantValue := 0 }]
  methods := #[k3m0, k3m1]
  instanceTypes := #[]
  staticTypes := #[(.object "java/io/InputStream"), (.object "java/io/PrintStream"), (.object "java/io/PrintStream"), (.object "java/io/InputStream"), .int, .int, .int, (.object "java/lang/SecurityManager"), (.object "java/lang/String"), (.object "java/io/Console"), (.object "java/io/PrintStream"), (.object "java/util/Properties"), (.object "java/lang/String"), (.object "java/lang/ModuleLayer")]
  resolved := Array.replicate 834 none
  statics := none }

def pool4 : Array CpInfo := pool [(1, u "java/lang/Cloneable"), (0, .class_ 1), (0, u "java/lang/Object"), (0, .class_ 3)] 3

/-- java/lang/Cloneable -/
def k4 : Class := { plain "java/lang/Cloneable" (some 0) with
  accessFlags := 1537
  interfaces := #[]
  cf := some (fileOf pool4 2 #[] #[] 1537 4 #[] #[])
  fields := #[]
  methods := #[]
  instanceTypes := #[]
  staticTypes := #[]
  resolved := Array.replicate 8 none
  statics := none }

def pool5 : Array CpInfo := pool [(1, u "java/io/Serializable"), (0, .class_ 1), (0, u "java/lang/Object"), (0, .class_ 3)] 3

/-- java/io/Serializable -/
def k5 : Class := { plain "java/io/Serializable" (some 0) with
  accessFlags := 1537
  interfaces := #[]
  cf := some (fileOf pool5 2 #[] #[] 1537 4 #[] #[])
  fields := #[]
  methods := #[]
  instanceTypes := #[]
  staticTypes := #[]
  resolved := Array.replicate 8 none
  statics := none }

/-- the primitive byte -/
def k6 : Class := { plain "byte" none with kind := .primitive 'B', accessFlags := 0x411 }
/-- [B -/
def k7 : Class := { plain "[B" (some 0) with kind := .array 6 .byte, interfaces := #[4, 5], accessFlags := 1041 }

/-- the primitive int -/
def k8 : Class := { plain "int" none with kind := .primitive 'I', accessFlags := 0x411 }
/-- [I -/
def k9 : Class := { plain "[I" (some 0) with kind := .array 8 .int, interfaces := #[4, 5], accessFlags := 1041 }

def heap : Heap := #[]
def classes : Array Class := #[k0, k1, k2, k3, k4, k5, k6, k7, k8, k9]
def interned : List (Array UInt16 × Addr) := []
def slotsUsed : Nat := 0
def theMethod : MethodId := ⟨1, 1⟩
def args0 : Array Value := #[.int 5, .int 6, .int 7, .int 8]
def aboutOver (below : List Frame) : State where
  vm := { classes := classes, interned := interned.toArray }
  heap := heap
  slotsUsed := slotsUsed
  threads := #[{ frames := .invoking theMethod args0 :: below }]
def below0 : List Frame := [.native { method := ⟨0, 0⟩, args := #[] }]
def about1 : State := aboutOver below0
def p0 : Program := .bare "" "" ""
def e0 : Env := launch0.env 0 0 0
theorem w_frames : about1.frames = Frame.invoking theMethod args0 :: below0 := rfl
set_option maxRecDepth 65536 in
theorem w_args : argsFit about1.vm theMethod args0 = true := by decide +kernel
set_option maxRecDepth 65536 in
theorem w_heap : heapFits about1 = true := by decide +kernel
set_option maxRecDepth 65536 in
theorem w_runnable : about1.curStatus? = some .runnable := by decide +kernel
set_option maxRecDepth 65536 in
theorem w_alone : about1.alone = true := by decide +kernel
set_option maxRecDepth 65536 in
theorem w_named : about1.methodNamed? x = some theMethod := by decide +kernel
set_option maxRecDepth 65536 in
theorem w_hears : about1.hears theMethod below0 = true := by decide +kernel
set_option maxRecDepth 65536 in
theorem w_ripe : about1.ripe theMethod args0 below0 = true := by decide +kernel
theorem w_running : about1.status = .running := rfl
set_option maxRecDepth 65536 in
theorem w_room : about1.hasRoom e0.platform room_1 = true :=
  launch0.hasRoom_least _ room_1 (by decide +kernel) (by decide +kernel) (by decide +kernel) (by decide +kernel) (by decide +kernel) (by decide +kernel)
theorem allAtoms_all (ts : List Jvm.Cond) (a : Array Jvm.Value) (st : Jvm.State) : (allAtoms ts).before a st = ts.all (fun c => c.before a st) := by
  induction ts with
  | nil => rfl
  | cons c t ih =>
    show (Jvm.Cond.and c (allAtoms t)).before a st = _
    rw [Jvm.Cond.before_and, ih, List.all_cons]
def words1 : List Jvm.Cond := Jvm.Cond.code x code maxLocals ret :: tables_1
/-- a 'code' word, met by the world's own term for the bytes: nothing is compared byte by byte -/
theorem code_word {y : MethodName} {bytes : ByteArray} {mx : Nat} {rt : Option FieldType} {a : Array Value} {s : State} {m : MethodId} {meth : Method} {c : Code} (h1 : s.methodNamed? y = some m) (h2 : s.vm.method? m = some meth) (h3 : meth.code = some c) (h4 : c.code = bytes)
    (h5 : (c.maxLocals == mx && c.exceptionTable.isEmpty && decide (c.maxStack ≤ mostOperands) && decide (meth.sig.returnType = rt) && !meth.locks && decide (parseMethodDescriptor y.desc = some meth.sig)) = true) : (Jvm.Cond.code y bytes mx rt).before a s = true := by
  simp only [Bool.and_eq_true, beq_iff_eq, Bool.not_eq_true', decide_eq_true_eq] at h5
  obtain ⟨⟨⟨⟨⟨g1, g2⟩, g3⟩, g4⟩, g5⟩, g6⟩ := h5
  simp [Cond.before, Cond.holds, Cond.value, h1, h2, h3, h4, g1, g2, g3, g4, g5, g6]
def isCode : Jvm.Cond → Bool
  | .code _ _ _ _ => true
  | _ => false
theorem all_split {L : List Jvm.Cond} {P : Jvm.Cond → Bool} (h1 : L.all (fun c => isCode c || P c) = true) (h2 : ∀ c ∈ L.filter isCode, P c = true) : L.all P = true := by
  refine List.all_eq_true.mpr fun c hc => ?_
  have h := List.all_eq_true.mp h1 c hc
  rcases Bool.eq_false_or_eq_true (isCode c) with hi | hi
  · exact h2 c (List.mem_filter.mpr ⟨hc, hi⟩)
  · simpa [hi] using h
set_option maxRecDepth 65536 in
theorem w_c0 : (Jvm.Cond.code x code maxLocals ret).before args0 about1 = true := code_word (m := ⟨1, 1⟩) (meth := k1m1) (c := k1c1) (by decide +kernel) rfl rfl rfl (by decide +kernel)
set_option maxRecDepth 65536 in
theorem w_c1 : (Jvm.Cond.code ({ cls := "com/example/orderwire/orderwire/hl7/Mllp", name := "frame", desc := "([B)[B" } : Jvm.MethodName) prog_13_method_2_code (2 : Nat) (Option.some (Jvm.ClassFile.FieldType.array Jvm.ClassFile.FieldType.byte))).before args0 about1 = true := code_word (m := ⟨2, 1⟩) (meth := k2m1) (c := k2c1) (by decide +kernel) rfl rfl rfl (by decide +kernel)
def codes1 : List Jvm.Cond := [Jvm.Cond.code x code maxLocals ret, Jvm.Cond.code ({ cls := "com/example/orderwire/orderwire/hl7/Mllp", name := "frame", desc := "([B)[B" } : Jvm.MethodName) prog_13_method_2_code (2 : Nat) (Option.some (Jvm.ClassFile.FieldType.array Jvm.ClassFile.FieldType.byte))]
set_option maxRecDepth 65536 in
theorem codes_eq : words1.filter isCode = codes1 := rfl
theorem w_codes : ∀ c ∈ words1.filter isCode, c.before args0 about1 = true := by
  rw [codes_eq]
  intro c hc
  simp only [codes1, List.mem_cons, List.not_mem_nil, or_false] at hc
  rcases hc with rfl | rfl
  · exact w_c0
  · exact w_c1
set_option maxRecDepth 65536 in
theorem w_t1 : words1.all (fun c => isCode c || c.before args0 about1) = true := by decide +kernel
theorem w_tables : (allAtoms (Jvm.Cond.code x code maxLocals ret :: tables_1)).before args0 about1 = true := by
  rw [allAtoms_all]
  show words1.all (fun c => c.before args0 about1) = true
  refine all_split ?_ w_codes
  rw [w_t1]
set_option maxRecDepth 65536 in
theorem w_case : (Jvm.Cond.and given_1 narrow_1).before args0 about1 = true := by decide +kernel
theorem w_applies : (headSpec (Jvm.Cond.code x code maxLocals ret :: tables_1) room_1).applies x e0.platform about1 = true :=
  (Spec.applies_iff w_frames).mpr ⟨w_running, w_runnable, w_alone, w_named, w_hears, w_ripe, w_room, w_tables⟩
theorem atStart : AtStart classFile x code maxLocals ret World_1 tables_1 room_1 Calls_1 rest_1 Pre_1 launch0 p0 e0 about1 theMethod args0 below0 :=
  ⟨lists_1, trivial, launch0.admits_env _ _ _, launch0.least_env, fairChoices_fair.cas, fairChoices_fair.clock, w_frames, w_args, w_heap, w_applies, trivial, trivial, w_case⟩
end start1
theorem witness_1 : WitnessClaimed_1 := ⟨start1.p0, start1.e0, start1.about1, start1.theMethod, start1.args0, start1.below0, start1.atStart⟩
end Jvm.Pilot.@@N@@
