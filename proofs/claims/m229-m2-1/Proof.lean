import JvmDerived
import JvmDerived.Pilot.@@N@@Statement
import JvmDerived.Pilot.@@N@@Code
set_option linter.unusedVariables false
set_option linter.unusedSimpArgs false
namespace Jvm.Pilot.@@N@@
open Jvm Jvm.ClassFile Sem Op Lib Jvm.Free Jvm.Stand Jvm.LawKit Jvm.RoadKit Bundle Jvm.Pilot.@@N@@.Jvm.D
/-! OWN KIT: a walk in continuation form. Go F U: from U the run comes to an end of which F holds. -/
namespace W
def Go (p : Program) (e : Env) (below : List Frame) (F : Outcome → State → Prop) (U : State) : Prop :=
  ∃ s₂ o, Steps p.tables e below U s₂ ∧ s₂.status = .running ∧ Ended s₂ below o ∧ F o s₂
def Cx (p : Program) (s : State) (m : MethodId) (meth : Method) (c : Code) (Z : State) (bytes : ByteArray) (maxL : Nat) (own mname : String) (ret : Option FieldType) : Prop :=
  p.tables.exec = Jvm.exec ∧ Z.Warmed39 s.vm ∧ c.code = bytes ∧ c.maxLocals = maxL ∧ s.vm.findClass own = some m.cls ∧ meth.name = mname ∧ meth.sig.returnType = ret ∧ meth.locks = false
def Post (s : State) (Q : Option Value → Heap → List Loc → Prop) (k n : Nat) (o : Outcome) (U' : State) : Prop := ∃ v L, o = .returned v ∧ Q v U'.heap L ∧ FrameEnd s o U' L k n
theorem of {p : Program} {e : Env} {below : List Frame} {F : Outcome → State → Prop} {U U' : State} (h : ∀ t, Steps p.tables e below U' t → Steps p.tables e below U t) (k : Go p e below F U') : Go p e below F U := by
  obtain ⟨s₂, o, h1, h2⟩ := k
  exact ⟨s₂, o, h _ h1, h2⟩
theorem tr {p : Program} {e : Env} {below : List Frame} {F : Outcome → State → Prop} {U U' : State} (h : Steps p.tables e below U U') (k : Go p e below F U') : Go p e below F U := of (fun _ q => h.trans q) k
def cT : ClassFile.Cond → Int32 → Int32 → Prop
  | .eq, x, y => x = y
  | .ne, x, y => x ≠ y
  | .lt, x, y => x.toInt < y.toInt
  | .ge, x, y => y.toInt ≤ x.toInt
  | .gt, x, y => y.toInt < x.toInt
  | .le, x, y => x.toInt ≤ y.toInt
def cF : ClassFile.Cond → Int32 → Int32 → Prop
  | .eq, x, y => x ≠ y
  | .ne, x, y => x = y
  | .lt, x, y => y.toInt ≤ x.toInt
  | .ge, x, y => x.toInt < y.toInt
  | .gt, x, y => x.toInt ≤ y.toInt
  | .le, x, y => y.toInt < x.toInt
instance (cd : ClassFile.Cond) (x y : Int32) : Decidable (cT cd x y) := by cases cd <;> (simp only [cT]; infer_instance)
instance (cd : ClassFile.Cond) (x y : Int32) : Decidable (cF cd x y) := by cases cd <;> (simp only [cF]; infer_instance)
theorem holdsT {cd : ClassFile.Cond} {x y : Int32} (h : cT cd x y) : if_icmp.holds cd x y = true := by
  cases cd <;> simp only [cT] at h <;> simp [if_icmp.holds, h, Int32.lt_iff_toInt_lt, Int32.le_iff_toInt_le]
theorem holdsF {cd : ClassFile.Cond} {x y : Int32} (h : cF cd x y) : if_icmp.holds cd x y = false := by
  cases cd <;> simp only [cF] at h <;> simp [if_icmp.holds, h, Int32.lt_iff_toInt_lt, Int32.le_iff_toInt_le]
theorem cTF (cd : ClassFile.Cond) (x y : Int32) : cT cd x y ∨ cF cd x y := by
  cases cd <;> simp only [cT, cF] <;> first | omega | exact Decidable.em _ | exact (Decidable.em _).symm
theorem ww {a0 : Array Value} {Z : State} (hw : ∀ d ∈ tables_1, d.before a0 Z = true) (i : Nat) {d : Jvm.Cond} (h : tables_1[i]? = some d) : d.before a0 Z = true := hw _ (List.mem_of_getElem? h)
theorem small {P : Int32 → Prop} (K : Nat) (hK : ∀ i : Fin (K + 1), P (Int32.ofInt (i.1 : Int))) (k : Int32) (h1 : 0 ≤ k.toInt) (h2 : k.toInt ≤ K) : P k := by
  have e : Int32.ofInt ((k.toInt.toNat : Nat) : Int) = k := by rw [Int.toNat_of_nonneg h1]; exact Int32.ofInt_toInt k
  have := hK ⟨k.toInt.toNat, by omega⟩
  rw [e] at this; exact this
theorem eqR {args : Array Value} {s : State} {a b : Term} {idx : List Nat} {y : Addr} (hb : b.eval args s none idx s = some (.ref y)) (h : (Jvm.Cond.eq a b).value args s none s idx = some true) : a.eval args s none idx s = some (.ref y) := by
  cases ha : a.eval args s none idx s with
  | none => simp [Cond.value, ha] at h
  | some x =>
    have hx : x.isRef = true := by cases x <;> simp [Cond.value, ha, hb, Value.isRef] at h ⊢
    have q := gotT (eq_R ha hb hx rfl) h
    rw [q]
theorem elemAt {args : Array Value} {s : State} {t a : Term} {x : Addr} {j : Int32} {v : Value} {cl : Cell} {ty : FieldType} (A : Arr s s.heap x cl ty) (ht : t.eval args s none [] s = some (.ref x)) (hj : a.eval args s none [] s = some (.int j)) (h : (Term.elem t a).eval args s none [] s = some v) : cl.slots[j.toNatClampNeg]? = some v := (elem_in h ht hj A.1).2
theorem lenAt {args : Array Value} {s : State} {t : Term} {x : Addr} {z : Int32} {cl : Cell} {ty : FieldType} (A : Arr s s.heap x cl ty) (ht : t.eval args s none [] s = some (.ref x)) (h : (Jvm.Cond.eq (.length t) (.int z)).value args s none s [] = some true) : cl.slots.size < 2 ^ 31 ∧ cl.slots.size.toInt32 = z := by
  have h6 := eqv_i (Term.int_eval z) h
  have ha := A.fin (Vm.Alike.refl _)
  have sz : cl.slots.size < 2 ^ 31 := by
    refine Decidable.byContradiction fun q => ?_
    simp [Term.eval, ht, ha, q] at h6
  refine ⟨sz, ?_⟩
  rw [len_f ht ha sz] at h6
  exact Value.int.inj (Option.some.inj h6)
theorem narZ {x : Int32} (h : x = 0 ∨ x = 1) : narrow .boolean (.int x) = .int x := by rcases h with rfl | rfl <;> rfl
theorem fitZ {x : Int32} (h : x = 0 ∨ x = 1) : fits .boolean (.int x) = true := by rcases h with rfl | rfl <;> rfl
theorem fieldInt {args : Array Value} {s : State} {t : Term} {Cn n d : String} {k : Int32} {a : Addr} (ht : t.eval args s none [] s = some (.ref a)) (h : (Jvm.Cond.eq (.field t Cn n d) (.int k)).value args s none s [] = some true) : Fld s s.heap a Cn n d (.int k) := by
  exact Fld.start ((fld_at ht).symm.trans (eqv_i (Term.int_eval k) h))
section
variable {p : Program} {l : Launch} {e : Env} {R : Room} {s : State} {m : MethodId} {args : Array Value} {below : List Frame} {meth : Method} {c : Code} {T : State} {locs : List Loc} {cells slots : Nat} {Z : State} {a0 : Array Value} {h h0 : Heap} {F : Outcome → State → Prop} {bytes : ByteArray} {maxL : Nat} {own mname : String} {ret : Option FieldType} {pc q : Nat} {Ls L' : Array Slot} {S rest : List Value}
theorem bodyOf {y : MethodName} {ws : List Jvm.Cond} {rm : Room} {as : Array Value} {Q : Option Value → Heap → List Loc → Prop} (hp : plainFor y = true) (hef : ∀ m, entryFrame m as maxL = mkF m 0 Ls [])
    (body : ∀ p e s m below meth c s₁, Cx p s m meth c Z bytes maxL y.cls y.name ret → Stand p l e rm s m as below meth c s₁ [] 0 0 → s₁.heap = h0 → Go p e below (Post s Q rm.cells rm.slots) (s₁.setTop (mkF m 0 Ls []))) :
    MetFree l y (head1 (Jvm.Cond.code y bytes maxL ret :: ws) rm) (fun a U => a = as ∧ Z.Warmed39 U.vm ∧ U.heap = h0) (fun _ _ _ _ _ => True) (fun _ U o U' => ∃ v L, o = .returned v ∧ Q v U'.heap L ∧ FrameEnd U o U' L rm.cells rm.slots) := by
  refine MetFree.of_bodySF hp hisR ?_
  intro p e s m args below meth c s₁ Bd hml0 hP hK
  obtain ⟨rfl, hZ, hh⟩ := hP
  obtain ⟨s₂, o, h1, h2⟩ := body p e s m below meth c s₁ ⟨Bd.exec, hZ, Bd.bytes, hml0, findClass_of_methodNamed Bd.named, (name_of_methodNamed Bd.named Bd.method).1, Bd.returns, Bd.notSynchronized⟩ (Stand.of_body Bd) (by rw [← hh, Bd.state]; rfl)
  exact ⟨s₂, o, castTop (hef m) h1, h2⟩
/-! returns -/
theorem retN (X : Stand p l e R s m args below meth c T locs cells slots) {t : FieldType} (C : Cx p s m meth c Z bytes maxL own mname (some t)) (ht : t = .boolean ∨ t = .byte ∨ t = .char ∨ t = .short) (eT : T.heap = h) {z z' : Int32} (hd : decode bytes pc = .ok (.ireturn, 1)) (hz : narrow t (.int z) = .int z') {k n : Nat} (hk : cells ≤ k) (hn : slots ≤ n) {Q : Option Value → Heap → List Loc → Prop} (hQ : Q (some (.int z')) h locs) :
    Go p e below (Post s Q k n) (T.setTop (mkF m pc Ls (.int z :: rest))) := by
  obtain ⟨hx, hZ, hby, hml, hown, hnm, hret, hlk⟩ := C
  obtain ⟨fs, hr, hrun, hended, hW, hsame⟩ := X.leave (v := some (.int z')) (fun h => by rw [hret] at h; cases h)
  refine ⟨_, _, ?_, hrun, hended, _, _, rfl, ?_, ⟨_, rfl⟩, hW, hsame.mono hk hn⟩
  · have hm' : T.vm.method? m = some meth := X.method'
    have hd' := hb hby hd
    rcases ht with rfl | rfl | rfl | rfl
    all_goals
      show Steps p.tables e below (T.setTop { method := m, pc := pc, locals := Ls, stack := _ :: rest, locked := none }) _
      jvm_step X.here [X.here.top, hx, hd', hm', hret, hz]
      first | (intro acts; rw [hr _ acts rfl rfl rfl]) | rw [hr _ _ rfl rfl rfl]
      exact Steps.refl _
  · show Q _ T.heap _
    rw [eT]; exact hQ
theorem retI (X : Stand p l e R s m args below meth c T locs cells slots) (C : Cx p s m meth c Z bytes maxL own mname (some .int)) (eT : T.heap = h) {z : Int32} (hd : decode bytes pc = .ok (.ireturn, 1)) {k n : Nat} (hk : cells ≤ k) (hn : slots ≤ n) {Q : Option Value → Heap → List Loc → Prop} (hQ : Q (some (.int z)) h locs) :
    Go p e below (Post s Q k n) (T.setTop (mkF m pc Ls (.int z :: rest))) := by
  obtain ⟨hx, hZ, hby, hml, hown, hnm, hret, hlk⟩ := C
  obtain ⟨fs, hr, hrun, hended, hW, hsame⟩ := X.leave (v := some (.int z)) (fun h => by rw [hret] at h; cases h)
  refine ⟨_, _, ?_, hrun, hended, _, _, rfl, ?_, ⟨_, rfl⟩, hW, hsame.mono hk hn⟩
  · have hm' : T.vm.method? m = some meth := X.method'
    have hd' := hb hby hd
    have hn : narrow .int (.int z) = .int z := rfl
    show Steps p.tables e below (T.setTop { method := m, pc := pc, locals := Ls, stack := _ :: rest, locked := none }) _
    jvm_step X.here [X.here.top, hx, hd', hm', hret, hn]
    first | (intro acts; rw [hr _ acts rfl rfl rfl]) | rw [hr _ _ rfl rfl rfl]
    exact Steps.refl _
  · show Q _ T.heap _
    rw [eT]; exact hQ
theorem retJ (X : Stand p l e R s m args below meth c T locs cells slots) (C : Cx p s m meth c Z bytes maxL own mname (some .long)) (eT : T.heap = h) {z : Int64} (hd : decode bytes pc = .ok (.lreturn, 1)) {k n : Nat} (hk : cells ≤ k) (hn : slots ≤ n) {Q : Option Value → Heap → List Loc → Prop} (hQ : Q (some (.long z)) h locs) :
    Go p e below (Post s Q k n) (T.setTop (mkF m pc Ls (.long z :: rest))) := by
  obtain ⟨hx, hZ, hby, hml, hown, hnm, hret, hlk⟩ := C
  obtain ⟨fs, hr, hrun, hended, hW, hsame⟩ := X.leave (v := some (.long z)) (fun h => by rw [hret] at h; cases h)
  refine ⟨_, _, ?_, hrun, hended, _, _, rfl, ?_, ⟨_, rfl⟩, hW, hsame.mono hk hn⟩
  · have hm' : T.vm.method? m = some meth := X.method'
    have hd' := hb hby hd
    show Steps p.tables e below (T.setTop { method := m, pc := pc, locals := Ls, stack := _ :: rest, locked := none }) _
    jvm_step X.here [X.here.top, hx, hd', hm', hret, narrow]
    first | (intro acts; rw [hr _ acts rfl rfl rfl]) | rw [hr _ _ rfl rfl rfl]
    exact Steps.refl _
  · show Q _ T.heap _
    rw [eT]; exact hQ
theorem retA (X : Stand p l e R s m args below meth c T locs cells slots) {t : FieldType} (C : Cx p s m meth c Z bytes maxL own mname (some t)) (ht : t.isReference = true) (eT : T.heap = h) {z : Value} (hz : z.isRef = true) (hd : decode bytes pc = .ok (.areturn, 1)) {k n : Nat} (hk : cells ≤ k) (hn : slots ≤ n) {Q : Option Value → Heap → List Loc → Prop} (hQ : Q (some z) h locs) :
    Go p e below (Post s Q k n) (T.setTop (mkF m pc Ls (z :: rest))) := by
  obtain ⟨hx, hZ, hby, hml, hown, hnm, hret, hlk⟩ := C
  obtain ⟨fs, hr, hrun, hended, hW, hsame⟩ := X.leave (v := some z) (fun h => by rw [hret] at h; cases h)
  refine ⟨_, _, ?_, hrun, hended, _, _, rfl, ?_, ⟨_, rfl⟩, hW, hsame.mono hk hn⟩
  · have hm' : T.vm.method? m = some meth := X.method'
    have hd' := hb hby hd
    show Steps p.tables e below (T.setTop { method := m, pc := pc, locals := Ls, stack := _ :: rest, locked := none }) _
    jvm_step X.here [X.here.top, hx, hd', hm', hret, hz, ht]
    first | (intro acts; rw [hr _ acts rfl rfl rfl]) | rw [hr _ _ rfl rfl rfl]
    exact Steps.refl _
  · show Q _ T.heap _
    rw [eT]; exact hQ
theorem retV (X : Stand p l e R s m args below meth c T locs cells slots) (C : Cx p s m meth c Z bytes maxL own mname none) (eT : T.heap = h) (hd : decode bytes pc = .ok (.return_, 1)) {k n : Nat} (hk : cells ≤ k) (hn : slots ≤ n) {Q : Option Value → Heap → List Loc → Prop} (hQ : Q none h locs) :
    Go p e below (Post s Q k n) (T.setTop (mkF m pc Ls [])) := by
  obtain ⟨hx, hZ, hby, hml, hown, hnm, hret, hlk⟩ := C
  obtain ⟨fs, hr, hrun, hended, hW, hsame⟩ := X.leave (v := none) (fun _ => rfl)
  refine ⟨_, _, X.returnOut hx hret (hb hby hd) hr, hrun, hended, _, _, rfl, ?_, ⟨_, rfl⟩, hW, hsame.mono hk hn⟩
  show Q _ T.heap _
  rw [eT]; exact hQ
/-! plain steps -/
theorem iload (X : Stand p l e R s m args below meth c T locs cells slots) (C : Cx p s m meth c Z bytes maxL own mname ret) {k : Nat} {v : Int32} (hd : decode bytes pc = .ok (.iload k, 2)) (hl : Ls[k]? = some (.val (.int v))) (hq : pc + 2 = q) (K : Go p e below F (T.setTop (mkF m q Ls (.int v :: S)))) : Go p e below F (T.setTop (mkF m pc Ls S)) := by
  subst hq; exact of (fun t k => XS.iload X.here C.1 rfl (hb C.2.2.1 hd) hl k) K
theorem iloadN (X : Stand p l e R s m args below meth c T locs cells slots) (C : Cx p s m meth c Z bytes maxL own mname ret) {k : Fin 4} {v : Int32} (hd : decode bytes pc = .ok (.iload_n k, 1)) (hl : Ls[k.val]? = some (.val (.int v))) (hq : pc + 1 = q) (K : Go p e below F (T.setTop (mkF m q Ls (.int v :: S)))) : Go p e below F (T.setTop (mkF m pc Ls S)) := by
  subst hq; exact of (fun t k => XS.iloadN X.here C.1 rfl (hb C.2.2.1 hd) hl k) K
theorem lload (X : Stand p l e R s m args below meth c T locs cells slots) (C : Cx p s m meth c Z bytes maxL own mname ret) {k : Nat} {v : Int64} (hd : decode bytes pc = .ok (.lload k, 2)) (hl : Ls[k]? = some (.val (.long v))) (hq : pc + 2 = q) (K : Go p e below F (T.setTop (mkF m q Ls (.long v :: S)))) : Go p e below F (T.setTop (mkF m pc Ls S)) := by
  subst hq; exact of (fun t k => XS.lload X.here C.1 rfl (hb C.2.2.1 hd) hl k) K
theorem lloadN (X : Stand p l e R s m args below meth c T locs cells slots) (C : Cx p s m meth c Z bytes maxL own mname ret) {k : Fin 4} {v : Int64} (hd : decode bytes pc = .ok (.lload_n k, 1)) (hl : Ls[k.val]? = some (.val (.long v))) (hq : pc + 1 = q) (K : Go p e below F (T.setTop (mkF m q Ls (.long v :: S)))) : Go p e below F (T.setTop (mkF m pc Ls S)) := by
  subst hq; exact of (fun t k => XS.lloadN X.here C.1 rfl (hb C.2.2.1 hd) hl k) K
theorem aload (X : Stand p l e R s m args below meth c T locs cells slots) (C : Cx p s m meth c Z bytes maxL own mname ret) {k : Nat} {v : Value} (hd : decode bytes pc = .ok (.aload k, 2)) (hl : Ls[k]? = some (.val v)) (hv : v.isRef = true) (hq : pc + 2 = q) (K : Go p e below F (T.setTop (mkF m q Ls (v :: S)))) : Go p e below F (T.setTop (mkF m pc Ls S)) := by
  subst hq; exact of (fun t k => XS.aload X.here C.1 rfl (hb C.2.2.1 hd) hl hv k) K
theorem aloadN (X : Stand p l e R s m args below meth c T locs cells slots) (C : Cx p s m meth c Z bytes maxL own mname ret) {k : Fin 4} {v : Value} (hd : decode bytes pc = .ok (.aload_n k, 1)) (hl : Ls[k.val]? = some (.val v)) (hv : v.isRef = true) (hq : pc + 1 = q) (K : Go p e below F (T.setTop (mkF m q Ls (v :: S)))) : Go p e below F (T.setTop (mkF m pc Ls S)) := by
  subst hq; exact of (fun t k => XS.aloadN X.here C.1 rfl (hb C.2.2.1 hd) hl hv k) K
theorem istore (X : Stand p l e R s m args below meth c T locs cells slots) (C : Cx p s m meth c Z bytes maxL own mname ret) {k : Nat} {v : Int32} (hd : decode bytes pc = .ok (.istore k, 2)) (hl : storeLocals Ls k (.int v) = some L') (hq : pc + 2 = q) (K : Go p e below F (T.setTop (mkF m q L' S))) : Go p e below F (T.setTop (mkF m pc Ls (.int v :: S))) := by
  subst hq; exact of (fun t k => XS.istore X.here C.1 rfl (hb C.2.2.1 hd) rfl hl k) K
theorem istoreN (X : Stand p l e R s m args below meth c T locs cells slots) (C : Cx p s m meth c Z bytes maxL own mname ret) {k : Fin 4} {v : Int32} (hd : decode bytes pc = .ok (.istore_n k, 1)) (hl : storeLocals Ls k.val (.int v) = some L') (hq : pc + 1 = q) (K : Go p e below F (T.setTop (mkF m q L' S))) : Go p e below F (T.setTop (mkF m pc Ls (.int v :: S))) := by
  subst hq; exact of (fun t k => XS.istoreN X.here C.1 rfl (hb C.2.2.1 hd) rfl hl k) K
theorem lstore (X : Stand p l e R s m args below meth c T locs cells slots) (C : Cx p s m meth c Z bytes maxL own mname ret) {k : Nat} {v : Int64} (hd : decode bytes pc = .ok (.lstore k, 2)) (hl : storeLocals Ls k (.long v) = some L') (hq : pc + 2 = q) (K : Go p e below F (T.setTop (mkF m q L' S))) : Go p e below F (T.setTop (mkF m pc Ls (.long v :: S))) := by
  subst hq; exact of (fun t k => XS.lstore X.here C.1 rfl (hb C.2.2.1 hd) rfl hl k) K
theorem lstoreN (X : Stand p l e R s m args below meth c T locs cells slots) (C : Cx p s m meth c Z bytes maxL own mname ret) {k : Fin 4} {v : Int64} (hd : decode bytes pc = .ok (.lstore_n k, 1)) (hl : storeLocals Ls k.val (.long v) = some L') (hq : pc + 1 = q) (K : Go p e below F (T.setTop (mkF m q L' S))) : Go p e below F (T.setTop (mkF m pc Ls (.long v :: S))) := by
  subst hq; exact of (fun t k => XS.lstoreN X.here C.1 rfl (hb C.2.2.1 hd) rfl hl k) K
theorem astore (X : Stand p l e R s m args below meth c T locs cells slots) (C : Cx p s m meth c Z bytes maxL own mname ret) {k : Nat} {v : Value} (hd : decode bytes pc = .ok (.astore k, 2)) (hv : v.isRef = true) (hl : storeLocals Ls k v = some L') (hq : pc + 2 = q) (K : Go p e below F (T.setTop (mkF m q L' S))) : Go p e below F (T.setTop (mkF m pc Ls (v :: S))) := by
  subst hq; exact of (fun t k => XS.astore X.here C.1 rfl (hb C.2.2.1 hd) rfl hv hl k) K
theorem astoreN (X : Stand p l e R s m args below meth c T locs cells slots) (C : Cx p s m meth c Z bytes maxL own mname ret) {k : Fin 4} {v : Value} (hd : decode bytes pc = .ok (.astore_n k, 1)) (hv : v.isRef = true) (hl : storeLocals Ls k.val v = some L') (hq : pc + 1 = q) (K : Go p e below F (T.setTop (mkF m q L' S))) : Go p e below F (T.setTop (mkF m pc Ls (v :: S))) := by
  subst hq; exact of (fun t k => XS.astoreN X.here C.1 rfl (hb C.2.2.1 hd) rfl hv hl k) K
theorem iinc (X : Stand p l e R s m args below meth c T locs cells slots) (C : Cx p s m meth c Z bytes maxL own mname ret) {k : Nat} {i : Int} {x y : Int32} (hd : decode bytes pc = .ok (.iinc k i, 3)) (hl : Ls[k]? = some (.val (.int x))) (hy : x + Int32.ofInt i = y) (hl' : storeLocals Ls k (.int y) = some L') (hq : pc + 3 = q) (K : Go p e below F (T.setTop (mkF m q L' S))) : Go p e below F (T.setTop (mkF m pc Ls S)) := by
  subst hq hy; exact of (fun t k => XS.iinc X.here C.1 rfl (hb C.2.2.1 hd) hl hl' k) K
theorem iconst (X : Stand p l e R s m args below meth c T locs cells slots) (C : Cx p s m meth c Z bytes maxL own mname ret) {i : Int} {v : Int32} (hd : decode bytes pc = .ok (.iconst i, 1)) (hi : Int32.ofInt i = v) (hq : pc + 1 = q) (K : Go p e below F (T.setTop (mkF m q Ls (.int v :: S)))) : Go p e below F (T.setTop (mkF m pc Ls S)) := by
  subst hq hi; exact of (fun t k => XS.iconst X.here C.1 rfl (hb C.2.2.1 hd) k) K
theorem bipush (X : Stand p l e R s m args below meth c T locs cells slots) (C : Cx p s m meth c Z bytes maxL own mname ret) {i : Int} {v : Int32} (hd : decode bytes pc = .ok (.bipush i, 2)) (hi : (Int8.ofInt i).toInt32 = v) (hq : pc + 2 = q) (K : Go p e below F (T.setTop (mkF m q Ls (.int v :: S)))) : Go p e below F (T.setTop (mkF m pc Ls S)) := by
  subst hq hi; exact of (fun t k => XS.bipush X.here C.1 rfl (hb C.2.2.1 hd) k) K
theorem sipush (X : Stand p l e R s m args below meth c T locs cells slots) (C : Cx p s m meth c Z bytes maxL own mname ret) {i : Int} {v : Int32} (hd : decode bytes pc = .ok (.sipush i, 3)) (hi : (Int16.ofInt i).toInt32 = v) (hq : pc + 3 = q) (K : Go p e below F (T.setTop (mkF m q Ls (.int v :: S)))) : Go p e below F (T.setTop (mkF m pc Ls S)) := by
  subst hq hi; exact of (fun t k => XS.sipush X.here C.1 rfl (hb C.2.2.1 hd) k) K
theorem lconst0 (X : Stand p l e R s m args below meth c T locs cells slots) (C : Cx p s m meth c Z bytes maxL own mname ret) (hd : decode bytes pc = .ok (.lconst 0, 1)) (hq : pc + 1 = q) (K : Go p e below F (T.setTop (mkF m q Ls (.long 0 :: S)))) : Go p e below F (T.setTop (mkF m pc Ls S)) := by
  subst hq; exact of (fun t k => XS.lconst X.here C.1 rfl (hb C.2.2.1 hd) k) K
theorem lconst1 (X : Stand p l e R s m args below meth c T locs cells slots) (C : Cx p s m meth c Z bytes maxL own mname ret) (hd : decode bytes pc = .ok (.lconst 1, 1)) (hq : pc + 1 = q) (K : Go p e below F (T.setTop (mkF m q Ls (.long 1 :: S)))) : Go p e below F (T.setTop (mkF m pc Ls S)) := by
  subst hq; exact of (fun t k => XS.lconst X.here C.1 rfl (hb C.2.2.1 hd) k) K
theorem ldcI (X : Stand p l e R s m args below meth c T locs cells slots) (C : Cx p s m meth c Z bytes maxL own mname ret) {i : Nat} {v : Int32} (w : (Jvm.Cond.constant own i v).before a0 Z = true) (hd : decode bytes pc = .ok (.ldc i, 2)) (hq : pc + 2 = q) (K : Go p e below F (T.setTop (mkF m q Ls (.int v :: S)))) : Go p e below F (T.setTop (mkF m pc Ls S)) := by
  subst hq; exact of (X.ldcInt C.1 C.2.2.2.2.1 (mvT C.2.1 w) (g := mkF m pc Ls S) rfl (hb C.2.2.1 hd)) K
theorem ldcL (X : Stand p l e R s m args below meth c T locs cells slots) (C : Cx p s m meth c Z bytes maxL own mname ret) {i : Nat} {v : Int64} (w : (Jvm.Cond.constantLong own i v).before a0 Z = true) (hd : decode bytes pc = .ok (.ldc2_w i, 3)) (hq : pc + 3 = q) (K : Go p e below F (T.setTop (mkF m q Ls (.long v :: S)))) : Go p e below F (T.setTop (mkF m pc Ls S)) := by
  subst hq; exact of (X.ldc2Long C.1 C.2.2.2.2.1 (mvT C.2.1 w) (g := mkF m pc Ls S) rfl (hb C.2.2.1 hd)) K
theorem aconst (X : Stand p l e R s m args below meth c T locs cells slots) (C : Cx p s m meth c Z bytes maxL own mname ret) (hd : decode bytes pc = .ok (.aconst_null, 1)) (hq : pc + 1 = q) (K : Go p e below F (T.setTop (mkF m q Ls (.null :: S)))) : Go p e below F (T.setTop (mkF m pc Ls S)) := by
  subst hq; exact of (fun t k => XS.aconstNull X.here C.1 rfl (hb C.2.2.1 hd) k) K
theorem iadd (X : Stand p l e R s m args below meth c T locs cells slots) (C : Cx p s m meth c Z bytes maxL own mname ret) {x : Int32} {y : Int32} (hd : decode bytes pc = .ok (.iadd, 1)) (hq : pc + 1 = q) (K : Go p e below F (T.setTop (mkF m q Ls (.int (x + y) :: S)))) : Go p e below F (T.setTop (mkF m pc Ls (.int y :: .int x :: S))) := by
  subst hq; exact of (fun t k => XS.iadd X.here C.1 rfl (hb C.2.2.1 hd) rfl k) K
theorem ladd (X : Stand p l e R s m args below meth c T locs cells slots) (C : Cx p s m meth c Z bytes maxL own mname ret) {x : Int64} {y : Int64} (hd : decode bytes pc = .ok (.ladd, 1)) (hq : pc + 1 = q) (K : Go p e below F (T.setTop (mkF m q Ls (.long (x + y) :: S)))) : Go p e below F (T.setTop (mkF m pc Ls (.long y :: .long x :: S))) := by
  subst hq; exact of (fun t k => XS.ladd X.here C.1 rfl (hb C.2.2.1 hd) rfl k) K
theorem isub (X : Stand p l e R s m args below meth c T locs cells slots) (C : Cx p s m meth c Z bytes maxL own mname ret) {x : Int32} {y : Int32} (hd : decode bytes pc = .ok (.isub, 1)) (hq : pc + 1 = q) (K : Go p e below F (T.setTop (mkF m q Ls (.int (x - y) :: S)))) : Go p e below F (T.setTop (mkF m pc Ls (.int y :: .int x :: S))) := by
  subst hq; exact of (fun t k => XS.isub X.here C.1 rfl (hb C.2.2.1 hd) rfl k) K
theorem lsub (X : Stand p l e R s m args below meth c T locs cells slots) (C : Cx p s m meth c Z bytes maxL own mname ret) {x : Int64} {y : Int64} (hd : decode bytes pc = .ok (.lsub, 1)) (hq : pc + 1 = q) (K : Go p e below F (T.setTop (mkF m q Ls (.long (x - y) :: S)))) : Go p e below F (T.setTop (mkF m pc Ls (.long y :: .long x :: S))) := by
  subst hq; exact of (fun t k => XS.lsub X.here C.1 rfl (hb C.2.2.1 hd) rfl k) K
theorem imul (X : Stand p l e R s m args below meth c T locs cells slots) (C : Cx p s m meth c Z bytes maxL own mname ret) {x : Int32} {y : Int32} (hd : decode bytes pc = .ok (.imul, 1)) (hq : pc + 1 = q) (K : Go p e below F (T.setTop (mkF m q Ls (.int (x * y) :: S)))) : Go p e below F (T.setTop (mkF m pc Ls (.int y :: .int x :: S))) := by
  subst hq; exact of (fun t k => XS.imul X.here C.1 rfl (hb C.2.2.1 hd) rfl k) K
theorem lmul (X : Stand p l e R s m args below meth c T locs cells slots) (C : Cx p s m meth c Z bytes maxL own mname ret) {x : Int64} {y : Int64} (hd : decode bytes pc = .ok (.lmul, 1)) (hq : pc + 1 = q) (K : Go p e below F (T.setTop (mkF m q Ls (.long (x * y) :: S)))) : Go p e below F (T.setTop (mkF m pc Ls (.long y :: .long x :: S))) := by
  subst hq; exact of (fun t k => XS.lmul X.here C.1 rfl (hb C.2.2.1 hd) rfl k) K
theorem iand (X : Stand p l e R s m args below meth c T locs cells slots) (C : Cx p s m meth c Z bytes maxL own mname ret) {x : Int32} {y : Int32} (hd : decode bytes pc = .ok (.iand, 1)) (hq : pc + 1 = q) (K : Go p e below F (T.setTop (mkF m q Ls (.int (x &&& y) :: S)))) : Go p e below F (T.setTop (mkF m pc Ls (.int y :: .int x :: S))) := by
  subst hq; exact of (fun t k => XS.iand X.here C.1 rfl (hb C.2.2.1 hd) rfl k) K
theorem land (X : Stand p l e R s m args below meth c T locs cells slots) (C : Cx p s m meth c Z bytes maxL own mname ret) {x : Int64} {y : Int64} (hd : decode bytes pc = .ok (.land, 1)) (hq : pc + 1 = q) (K : Go p e below F (T.setTop (mkF m q Ls (.long (x &&& y) :: S)))) : Go p e below F (T.setTop (mkF m pc Ls (.long y :: .long x :: S))) := by
  subst hq; exact of (fun t k => XS.land X.here C.1 rfl (hb C.2.2.1 hd) rfl k) K
theorem ior (X : Stand p l e R s m args below meth c T locs cells slots) (C : Cx p s m meth c Z bytes maxL own mname ret) {x : Int32} {y : Int32} (hd : decode bytes pc = .ok (.ior, 1)) (hq : pc + 1 = q) (K : Go p e below F (T.setTop (mkF m q Ls (.int (x ||| y) :: S)))) : Go p e below F (T.setTop (mkF m pc Ls (.int y :: .int x :: S))) := by
  subst hq; exact of (fun t k => XS.ior X.here C.1 rfl (hb C.2.2.1 hd) rfl k) K
theorem lor (X : Stand p l e R s m args below meth c T locs cells slots) (C : Cx p s m meth c Z bytes maxL own mname ret) {x : Int64} {y : Int64} (hd : decode bytes pc = .ok (.lor, 1)) (hq : pc + 1 = q) (K : Go p e below F (T.setTop (mkF m q Ls (.long (x ||| y) :: S)))) : Go p e below F (T.setTop (mkF m pc Ls (.long y :: .long x :: S))) := by
  subst hq; exact of (fun t k => XS.lor X.here C.1 rfl (hb C.2.2.1 hd) rfl k) K
theorem ixor (X : Stand p l e R s m args below meth c T locs cells slots) (C : Cx p s m meth c Z bytes maxL own mname ret) {x : Int32} {y : Int32} (hd : decode bytes pc = .ok (.ixor, 1)) (hq : pc + 1 = q) (K : Go p e below F (T.setTop (mkF m q Ls (.int (x ^^^ y) :: S)))) : Go p e below F (T.setTop (mkF m pc Ls (.int y :: .int x :: S))) := by
  subst hq; exact of (fun t k => XS.ixor X.here C.1 rfl (hb C.2.2.1 hd) rfl k) K
theorem lxor (X : Stand p l e R s m args below meth c T locs cells slots) (C : Cx p s m meth c Z bytes maxL own mname ret) {x : Int64} {y : Int64} (hd : decode bytes pc = .ok (.lxor, 1)) (hq : pc + 1 = q) (K : Go p e below F (T.setTop (mkF m q Ls (.long (x ^^^ y) :: S)))) : Go p e below F (T.setTop (mkF m pc Ls (.long y :: .long x :: S))) := by
  subst hq; exact of (fun t k => XS.lxor X.here C.1 rfl (hb C.2.2.1 hd) rfl k) K
theorem ishl (X : Stand p l e R s m args below meth c T locs cells slots) (C : Cx p s m meth c Z bytes maxL own mname ret) {x : Int32} {y : Int32} (hd : decode bytes pc = .ok (.ishl, 1)) (hq : pc + 1 = q) (K : Go p e below F (T.setTop (mkF m q Ls (.int (x <<< (y &&& 31)) :: S)))) : Go p e below F (T.setTop (mkF m pc Ls (.int y :: .int x :: S))) := by
  subst hq; exact of (fun t k => XS.ishl X.here C.1 rfl (hb C.2.2.1 hd) rfl k) K
theorem ishr (X : Stand p l e R s m args below meth c T locs cells slots) (C : Cx p s m meth c Z bytes maxL own mname ret) {x : Int32} {y : Int32} (hd : decode bytes pc = .ok (.ishr, 1)) (hq : pc + 1 = q) (K : Go p e below F (T.setTop (mkF m q Ls (.int (x >>> (y &&& 31)) :: S)))) : Go p e below F (T.setTop (mkF m pc Ls (.int y :: .int x :: S))) := by
  subst hq; exact of (fun t k => XS.ishr X.here C.1 rfl (hb C.2.2.1 hd) rfl k) K
theorem iushr (X : Stand p l e R s m args below meth c T locs cells slots) (C : Cx p s m meth c Z bytes maxL own mname ret) {x : Int32} {y : Int32} (hd : decode bytes pc = .ok (.iushr, 1)) (hq : pc + 1 = q) (K : Go p e below F (T.setTop (mkF m q Ls (.int ((x.toUInt32 >>> (y &&& 31).toUInt32).toInt32) :: S)))) : Go p e below F (T.setTop (mkF m pc Ls (.int y :: .int x :: S))) := by
  subst hq; exact of (fun t k => XS.iushr X.here C.1 rfl (hb C.2.2.1 hd) rfl k) K
theorem lshl (X : Stand p l e R s m args below meth c T locs cells slots) (C : Cx p s m meth c Z bytes maxL own mname ret) {x : Int64} {y : Int32} (hd : decode bytes pc = .ok (.lshl, 1)) (hq : pc + 1 = q) (K : Go p e below F (T.setTop (mkF m q Ls (.long (x <<< (y &&& 0x3f).toInt64) :: S)))) : Go p e below F (T.setTop (mkF m pc Ls (.int y :: .long x :: S))) := by
  subst hq; exact of (fun t k => XS.lshl X.here C.1 rfl (hb C.2.2.1 hd) rfl k) K
theorem lshr (X : Stand p l e R s m args below meth c T locs cells slots) (C : Cx p s m meth c Z bytes maxL own mname ret) {x : Int64} {y : Int32} (hd : decode bytes pc = .ok (.lshr, 1)) (hq : pc + 1 = q) (K : Go p e below F (T.setTop (mkF m q Ls (.long (x >>> (y &&& 0x3f).toInt64) :: S)))) : Go p e below F (T.setTop (mkF m pc Ls (.int y :: .long x :: S))) := by
  subst hq; exact of (fun t k => XS.lshr X.here C.1 rfl (hb C.2.2.1 hd) rfl k) K
theorem lushr (X : Stand p l e R s m args below meth c T locs cells slots) (C : Cx p s m meth c Z bytes maxL own mname ret) {x : Int64} {y : Int32} (hd : decode bytes pc = .ok (.lushr, 1)) (hq : pc + 1 = q) (K : Go p e below F (T.setTop (mkF m q Ls (.long ((x.toUInt64 >>> (y &&& 0x3f).toInt64.toUInt64).toInt64) :: S)))) : Go p e below F (T.setTop (mkF m pc Ls (.int y :: .long x :: S))) := by
  subst hq; exact of (fun t k => XS.lushr X.here C.1 rfl (hb C.2.2.1 hd) rfl k) K
theorem ineg (X : Stand p l e R s m args below meth c T locs cells slots) (C : Cx p s m meth c Z bytes maxL own mname ret) {x : Int32} (hd : decode bytes pc = .ok (.ineg, 1)) (hq : pc + 1 = q) (K : Go p e below F (T.setTop (mkF m q Ls (.int (-x) :: S)))) : Go p e below F (T.setTop (mkF m pc Ls (.int x :: S))) := by
  subst hq; exact of (fun t k => XS.ineg X.here C.1 rfl (hb C.2.2.1 hd) rfl k) K
theorem lneg (X : Stand p l e R s m args below meth c T locs cells slots) (C : Cx p s m meth c Z bytes maxL own mname ret) {x : Int64} (hd : decode bytes pc = .ok (.lneg, 1)) (hq : pc + 1 = q) (K : Go p e below F (T.setTop (mkF m q Ls (.long (-x) :: S)))) : Go p e below F (T.setTop (mkF m pc Ls (.long x :: S))) := by
  subst hq; exact of (fun t k => XS.lneg X.here C.1 rfl (hb C.2.2.1 hd) rfl k) K
theorem i2l (X : Stand p l e R s m args below meth c T locs cells slots) (C : Cx p s m meth c Z bytes maxL own mname ret) {x : Int32} (hd : decode bytes pc = .ok (.i2l, 1)) (hq : pc + 1 = q) (K : Go p e below F (T.setTop (mkF m q Ls (.long (x.toInt64) :: S)))) : Go p e below F (T.setTop (mkF m pc Ls (.int x :: S))) := by
  subst hq; exact of (fun t k => XS.i2l X.here C.1 rfl (hb C.2.2.1 hd) rfl k) K
theorem l2i (X : Stand p l e R s m args below meth c T locs cells slots) (C : Cx p s m meth c Z bytes maxL own mname ret) {x : Int64} (hd : decode bytes pc = .ok (.l2i, 1)) (hq : pc + 1 = q) (K : Go p e below F (T.setTop (mkF m q Ls (.int (x.toInt32) :: S)))) : Go p e below F (T.setTop (mkF m pc Ls (.long x :: S))) := by
  subst hq; exact of (fun t k => XS.l2i X.here C.1 rfl (hb C.2.2.1 hd) rfl k) K
theorem i2b (X : Stand p l e R s m args below meth c T locs cells slots) (C : Cx p s m meth c Z bytes maxL own mname ret) {x : Int32} (hd : decode bytes pc = .ok (.i2b, 1)) (hq : pc + 1 = q) (K : Go p e below F (T.setTop (mkF m q Ls (.int (x.toInt8.toInt32) :: S)))) : Go p e below F (T.setTop (mkF m pc Ls (.int x :: S))) := by
  subst hq; exact of (fun t k => XS.i2b X.here C.1 rfl (hb C.2.2.1 hd) rfl k) K
theorem i2s (X : Stand p l e R s m args below meth c T locs cells slots) (C : Cx p s m meth c Z bytes maxL own mname ret) {x : Int32} (hd : decode bytes pc = .ok (.i2s, 1)) (hq : pc + 1 = q) (K : Go p e below F (T.setTop (mkF m q Ls (.int (x.toInt16.toInt32) :: S)))) : Go p e below F (T.setTop (mkF m pc Ls (.int x :: S))) := by
  subst hq; exact of (fun t k => XS.i2s X.here C.1 rfl (hb C.2.2.1 hd) rfl k) K
theorem i2c (X : Stand p l e R s m args below meth c T locs cells slots) (C : Cx p s m meth c Z bytes maxL own mname ret) {x : Int32} (hd : decode bytes pc = .ok (.i2c, 1)) (hq : pc + 1 = q) (K : Go p e below F (T.setTop (mkF m q Ls (.int (x.toUInt32.toUInt16.toUInt32.toInt32) :: S)))) : Go p e below F (T.setTop (mkF m pc Ls (.int x :: S))) := by
  subst hq; exact of (fun t k => XS.i2c X.here C.1 rfl (hb C.2.2.1 hd) rfl k) K
theorem idiv (X : Stand p l e R s m args below meth c T locs cells slots) (C : Cx p s m meth c Z bytes maxL own mname ret) {x y : Int32} (hd : decode bytes pc = .ok (.idiv, 1)) (hy : y ≠ 0) (hq : pc + 1 = q) (K : Go p e below F (T.setTop (mkF m q Ls (.int (x / y) :: S)))) : Go p e below F (T.setTop (mkF m pc Ls (.int y :: .int x :: S))) := by
  subst hq; exact of (fun t k => XS.idiv X.here C.1 rfl (hb C.2.2.1 hd) rfl hy k) K
theorem irem (X : Stand p l e R s m args below meth c T locs cells slots) (C : Cx p s m meth c Z bytes maxL own mname ret) {x y : Int32} (hd : decode bytes pc = .ok (.irem, 1)) (hy : y ≠ 0) (hq : pc + 1 = q) (K : Go p e below F (T.setTop (mkF m q Ls (.int (x % y) :: S)))) : Go p e below F (T.setTop (mkF m pc Ls (.int y :: .int x :: S))) := by
  subst hq; exact of (fun t k => iremM (g := mkF m pc Ls (.int y :: .int x :: S)) X C.1 rfl (hb C.2.2.1 hd) rfl hy k) K
theorem ldiv (X : Stand p l e R s m args below meth c T locs cells slots) (C : Cx p s m meth c Z bytes maxL own mname ret) {x y : Int64} (hd : decode bytes pc = .ok (.ldiv, 1)) (hy : y ≠ 0) (hq : pc + 1 = q) (K : Go p e below F (T.setTop (mkF m q Ls (.long (x / y) :: S)))) : Go p e below F (T.setTop (mkF m pc Ls (.long y :: .long x :: S))) := by
  subst hq; exact of (fun t k => XS.ldiv X.here C.1 rfl (hb C.2.2.1 hd) rfl hy k) K
theorem lcmp (X : Stand p l e R s m args below meth c T locs cells slots) (C : Cx p s m meth c Z bytes maxL own mname ret) {x y : Int64} (hd : decode bytes pc = .ok (.lcmp, 1)) (hq : pc + 1 = q) (K : Go p e below F (T.setTop (mkF m q Ls (.int (lcmpW x y) :: S)))) : Go p e below F (T.setTop (mkF m pc Ls (.long y :: .long x :: S))) := by
  subst hq; exact of (fun t k => XS.lcmp X.here C.1 rfl (hb C.2.2.1 hd) rfl k) K
theorem dup (X : Stand p l e R s m args below meth c T locs cells slots) (C : Cx p s m meth c Z bytes maxL own mname ret) {v : Value} (hd : decode bytes pc = .ok (.dup, 1)) (hv : v.category = 1) (hq : pc + 1 = q) (K : Go p e below F (T.setTop (mkF m q Ls (v :: v :: S)))) : Go p e below F (T.setTop (mkF m pc Ls (v :: S))) := by
  subst hq; exact of (fun t k => XS.dup X.here C.1 rfl (hb C.2.2.1 hd) rfl hv k) K
theorem dupX1 (X : Stand p l e R s m args below meth c T locs cells slots) (C : Cx p s m meth c Z bytes maxL own mname ret) {v w : Value} (hd : decode bytes pc = .ok (.dup_x1, 1)) (hv : v.category = 1) (hw : w.category = 1) (hq : pc + 1 = q) (K : Go p e below F (T.setTop (mkF m q Ls (v :: w :: v :: S)))) : Go p e below F (T.setTop (mkF m pc Ls (v :: w :: S))) := by
  subst hq; exact of (fun t k => XS.dupX1 X.here C.1 rfl (hb C.2.2.1 hd) rfl hv hw k) K
theorem pop (X : Stand p l e R s m args below meth c T locs cells slots) (C : Cx p s m meth c Z bytes maxL own mname ret) {v : Value} (hd : decode bytes pc = .ok (.pop, 1)) (hv : v.category = 1) (hq : pc + 1 = q) (K : Go p e below F (T.setTop (mkF m q Ls S))) : Go p e below F (T.setTop (mkF m pc Ls (v :: S))) := by
  subst hq; exact of (fun t k => XS.pop X.here C.1 rfl (hb C.2.2.1 hd) rfl hv k) K
theorem goto (X : Stand p l e R s m args below meth c T locs cells slots) (C : Cx p s m meth c Z bytes maxL own mname ret) {o : Int} (hd : decode bytes pc = .ok (.goto o, 3)) (ho : 0 ≤ (pc : Int) + o) (hq : ((pc : Int) + o).toNat = q) (K : Go p e below F (T.setTop (mkF m q Ls S))) : Go p e below F (T.setTop (mkF m pc Ls S)) :=
  of (fun t k => XS.goto X.here C.1 rfl rfl (hb C.2.2.1 hd) ho hq k) K
theorem icmpT (X : Stand p l e R s m args below meth c T locs cells slots) (C : Cx p s m meth c Z bytes maxL own mname ret) {cd : ClassFile.Cond} {o : Int} {x y : Int32} (hd : decode bytes pc = .ok (.if_icmp cd o, 3)) (ho : 0 ≤ (pc : Int) + o) (hq : ((pc : Int) + o).toNat = q) (hc : cT cd x y) (K : Go p e below F (T.setTop (mkF m q Ls S))) : Go p e below F (T.setTop (mkF m pc Ls (.int y :: .int x :: S))) :=
  of (fun t k => XS.icmpYes X.here C.1 rfl rfl (hb C.2.2.1 hd) rfl (holdsT hc) ho hq k) K
theorem icmpF (X : Stand p l e R s m args below meth c T locs cells slots) (C : Cx p s m meth c Z bytes maxL own mname ret) {cd : ClassFile.Cond} {o : Int} {x y : Int32} (hd : decode bytes pc = .ok (.if_icmp cd o, 3)) (hq : pc + 3 = q) (hc : cF cd x y) (K : Go p e below F (T.setTop (mkF m q Ls S))) : Go p e below F (T.setTop (mkF m pc Ls (.int y :: .int x :: S))) := by
  subst hq; exact of (fun t k => XS.icmpNo X.here C.1 rfl (hb C.2.2.1 hd) rfl (holdsF hc) k) K
theorem icmp (X : Stand p l e R s m args below meth c T locs cells slots) (C : Cx p s m meth c Z bytes maxL own mname ret) {cd : ClassFile.Cond} {o : Int} {x y : Int32} {q' : Nat} (hd : decode bytes pc = .ok (.if_icmp cd o, 3)) (ho : 0 ≤ (pc : Int) + o) (hq : ((pc : Int) + o).toNat = q) (hq' : pc + 3 = q') (K : cT cd x y → Go p e below F (T.setTop (mkF m q Ls S))) (K' : cF cd x y → Go p e below F (T.setTop (mkF m q' Ls S))) : Go p e below F (T.setTop (mkF m pc Ls (.int y :: .int x :: S))) :=
  (cTF cd x y).elim (fun hc => icmpT X C hd ho hq hc (K hc)) (fun hc => icmpF X C hd hq' hc (K' hc))
theorem ifT (X : Stand p l e R s m args below meth c T locs cells slots) (C : Cx p s m meth c Z bytes maxL own mname ret) {cd : ClassFile.Cond} {o : Int} {x : Int32} (hd : decode bytes pc = .ok (.ifCond cd o, 3)) (ho : 0 ≤ (pc : Int) + o) (hq : ((pc : Int) + o).toNat = q) (hc : cT cd x 0) (K : Go p e below F (T.setTop (mkF m q Ls S))) : Go p e below F (T.setTop (mkF m pc Ls (.int x :: S))) :=
  of (fun t k => XS.ifYes X.here C.1 rfl rfl (hb C.2.2.1 hd) rfl ((if0 _ _).trans (holdsT hc)) ho hq k) K
theorem ifF (X : Stand p l e R s m args below meth c T locs cells slots) (C : Cx p s m meth c Z bytes maxL own mname ret) {cd : ClassFile.Cond} {o : Int} {x : Int32} (hd : decode bytes pc = .ok (.ifCond cd o, 3)) (hq : pc + 3 = q) (hc : cF cd x 0) (K : Go p e below F (T.setTop (mkF m q Ls S))) : Go p e below F (T.setTop (mkF m pc Ls (.int x :: S))) := by
  subst hq; exact of (fun t k => XS.ifNo X.here C.1 rfl (hb C.2.2.1 hd) rfl ((if0 _ _).trans (holdsF hc)) k) K
theorem if_ (X : Stand p l e R s m args below meth c T locs cells slots) (C : Cx p s m meth c Z bytes maxL own mname ret) {cd : ClassFile.Cond} {o : Int} {x : Int32} {q' : Nat} (hd : decode bytes pc = .ok (.ifCond cd o, 3)) (ho : 0 ≤ (pc : Int) + o) (hq : ((pc : Int) + o).toNat = q) (hq' : pc + 3 = q') (K : cT cd x 0 → Go p e below F (T.setTop (mkF m q Ls S))) (K' : cF cd x 0 → Go p e below F (T.setTop (mkF m q' Ls S))) : Go p e below F (T.setTop (mkF m pc Ls (.int x :: S))) :=
  (cTF cd x 0).elim (fun hc => ifT X C hd ho hq hc (K hc)) (fun hc => ifF X C hd hq' hc (K' hc))
theorem ifnullT (X : Stand p l e R s m args below meth c T locs cells slots) (C : Cx p s m meth c Z bytes maxL own mname ret) {o : Int} (hd : decode bytes pc = .ok (.ifnull o, 3)) (ho : 0 ≤ (pc : Int) + o) (hq : ((pc : Int) + o).toNat = q) (K : Go p e below F (T.setTop (mkF m q Ls S))) : Go p e below F (T.setTop (mkF m pc Ls (.null :: S))) :=
  of (fun t k => XS.ifnullYes X.here C.1 rfl rfl (hb C.2.2.1 hd) rfl ho hq k) K
theorem ifnullF (X : Stand p l e R s m args below meth c T locs cells slots) (C : Cx p s m meth c Z bytes maxL own mname ret) {o : Int} {a : Addr} (hd : decode bytes pc = .ok (.ifnull o, 3)) (hq : pc + 3 = q) (K : Go p e below F (T.setTop (mkF m q Ls S))) : Go p e below F (T.setTop (mkF m pc Ls (.ref a :: S))) := by
  subst hq; exact of (fun t k => XS.ifnullNo X.here C.1 rfl (hb C.2.2.1 hd) rfl k) K
theorem ifnonnullT (X : Stand p l e R s m args below meth c T locs cells slots) (C : Cx p s m meth c Z bytes maxL own mname ret) {o : Int} {a : Addr} (hd : decode bytes pc = .ok (.ifnonnull o, 3)) (ho : 0 ≤ (pc : Int) + o) (hq : ((pc : Int) + o).toNat = q) (K : Go p e below F (T.setTop (mkF m q Ls S))) : Go p e below F (T.setTop (mkF m pc Ls (.ref a :: S))) :=
  of (fun t k => XS.ifnonnullYes X.here C.1 rfl rfl (hb C.2.2.1 hd) rfl ho hq k) K
theorem ifnonnullF (X : Stand p l e R s m args below meth c T locs cells slots) (C : Cx p s m meth c Z bytes maxL own mname ret) {o : Int} (hd : decode bytes pc = .ok (.ifnonnull o, 3)) (hq : pc + 3 = q) (K : Go p e below F (T.setTop (mkF m q Ls S))) : Go p e below F (T.setTop (mkF m pc Ls (.null :: S))) := by
  subst hq; exact of (fun t k => XS.ifnonnullNo X.here C.1 rfl (hb C.2.2.1 hd) rfl k) K
/-! calls -/
theorem callS (X : Stand p l e R s m args below meth c T locs cells slots) (C : Cx p s m meth c Z bytes maxL own mname ret) {y : MethodName} {i : Nat} {yb : ByteArray} {ym : Nat} {yr : Option FieldType} (w1 : (Jvm.Cond.methodLink own i y).before a0 Z = true) (w2 : (Jvm.Cond.static y).before a0 Z = true) (w3 : (Jvm.Cond.initialized y.cls).before a0 Z = true) (w4 : (Jvm.Cond.code y yb ym yr).before a0 Z = true) (hy : y.cls ≠ "java/lang/invoke/MethodHandle" ∧ y.cls ≠ "java/lang/invoke/VarHandle")
    {rm : Room} {as' : Array Value} {Q : Option Value → Heap → List Loc → Prop} (hM : MetFree l y (head1 [Jvm.Cond.code y yb ym yr] rm) (fun a U => a = as' ∧ Z.Warmed39 U.vm ∧ U.heap = h) (fun _ _ _ _ _ => True) (fun _ U o U' => ∃ v L, o = .returned v ∧ Q v U'.heap L ∧ FrameEnd U o U' L rm.cells rm.slots))
    (eT : T.heap = h) (hd : decode bytes pc = .ok (.invokestatic i, 3)) (argsL : List Value) (rest : List Value) (hS : S = argsL.reverse ++ rest) (has : as' = argsL.toArray) {ps : List FieldType} {r : Option FieldType} (hpd : parseMethodDescriptor y.desc = some ⟨ps, r⟩) (hlen : argsL.length = ps.length) (hsz : Ls.size = maxL)
    (hf : rm.frames + 1 ≤ R.frames) (hl : (rest.map fun v => v.category).sum + (ym + 11) + rm.locals ≤ R.locals) (hc : cells + rm.cells ≤ R.cells) (hsl : slots + rm.slots ≤ R.slots) (hq : pc + 3 = q)
    (K : ∀ (T' : State) (v : Option Value) (L : List Loc), Stand p l e R s m args below meth c T' (locs ++ L) (cells + rm.cells) (slots + rm.slots) → Q v T'.heap L → Go p e below F (T'.setTop (mkF m q Ls (v.toList ++ rest)))) : Go p e below F (T.setTop (mkF m pc Ls S)) := by
  subst hq hS has
  obtain ⟨hx, hZ, hby, hml, hown, hnm, hret, hlk⟩ := C
  obtain ⟨v, _, ⟨T1, L1, k1, n1⟩, -, X1, ⟨Lc, hQ, l1, y1, z1⟩, st⟩ := Jvm.LawKit.callS X hx hown (mvT hZ w1) (mvT hZ w2) (mvT hZ w3) (mvT hZ w4) hy (backOf (W := (rest.map fun v => v.category).sum) hM hZ w4 w3 hf hl) (g := mkF m pc Ls (argsL.reverse ++ rest)) rfl (by rw [hml]; exact hsz) (argsL := argsL) (rest := rest) (lenOf hpd hlen) rfl (by show 2 * 0 + _ ≤ _; omega) (hb hby hd) (fun _ _ => ⟨rfl, eT, hc, hsl⟩)
  dsimp only [Pt.U, Pt.locs, Pt.cells, Pt.slots] at X1 l1 y1 z1 st hQ
  subst l1 y1 z1
  exact of st (K T1 v Lc X1 hQ)
theorem callI (X : Stand p l e R s m args below meth c T locs cells slots) (C : Cx p s m meth c Z bytes maxL own mname ret) {y : MethodName} {i : Nat} {yb : ByteArray} {ym : Nat} (hy1 : y.name = "<init>") (w1 : (Jvm.Cond.methodLink own i y).before a0 Z = true) (w2 : (Jvm.Cond.instanceMethod y).before a0 Z = true) (w3 : (Jvm.Cond.initialized y.cls).before a0 Z = true) (w4 : (Jvm.Cond.code y yb ym none).before a0 Z = true) (hy : y.cls ≠ "java/lang/invoke/MethodHandle" ∧ y.cls ≠ "java/lang/invoke/VarHandle")
    {rm : Room} {as' : Array Value} {Q : Option Value → Heap → List Loc → Prop} (hM : MetFree l y (head1 [Jvm.Cond.code y yb ym none] rm) (fun a U => a = as' ∧ Z.Warmed39 U.vm ∧ U.heap = h) (fun _ _ _ _ _ => True) (fun _ U o U' => ∃ v L, o = .returned v ∧ Q v U'.heap L ∧ FrameEnd U o U' L rm.cells rm.slots))
    (eT : T.heap = h) (hd : decode bytes pc = .ok (.invokespecial i, 3)) {a : Addr} (argsL : List Value) (rest : List Value) (hS : S = argsL.reverse ++ .ref a :: rest) (has : as' = (.ref a :: argsL).toArray) {ps : List FieldType} {r : Option FieldType} (hpd : parseMethodDescriptor y.desc = some ⟨ps, r⟩) (hlen : argsL.length = ps.length) (hsz : Ls.size = maxL)
    (hf : rm.frames + 1 ≤ R.frames) (hl : (rest.map fun v => v.category).sum + (ym + 11) + rm.locals ≤ R.locals) (hc : cells + rm.cells ≤ R.cells) (hsl : slots + rm.slots ≤ R.slots) (hq : pc + 3 = q)
    (K : ∀ (T' : State) (v : Option Value) (L : List Loc), Stand p l e R s m args below meth c T' (locs ++ L) (cells + rm.cells) (slots + rm.slots) → Q v T'.heap L → Go p e below F (T'.setTop (mkF m q Ls (v.toList ++ rest)))) : Go p e below F (T.setTop (mkF m pc Ls S)) := by
  subst hq hS has
  obtain ⟨hx, hZ, hby, hml, hown, hnm, hret, hlk⟩ := C
  obtain ⟨v, _, ⟨T1, L1, k1, n1⟩, -, X1, ⟨Lc, hQ, l1, y1, z1⟩, st⟩ := X.specialBack hx hy1 hown (mvT hZ w1) (mvT hZ w2) (mvT hZ w4) hy (backOf (W := (rest.map fun v => v.category).sum) hM hZ w4 w3 hf hl) (g := mkF m pc Ls (argsL.reverse ++ .ref a :: rest)) rfl (by rw [hml]; exact hsz) (Steps.refl _) (a := a) (argsL := argsL) (rest := rest) (lenOf hpd hlen) rfl (by show 2 * 0 + _ ≤ _; omega) (hb hby hd) (fun _ _ => ⟨rfl, eT, hc, hsl⟩)
  dsimp only [Pt.U, Pt.locs, Pt.cells, Pt.slots] at X1 l1 y1 z1 st hQ
  subst l1 y1 z1
  exact tr st (K T1 v Lc X1 hQ)
theorem callV (X : Stand p l e R s m args below meth c T locs cells slots) (C : Cx p s m meth c Z bytes maxL own mname ret) {y z : MethodName} {i : Nat} {Cn : String} {yb : ByteArray} {ym : Nat} {yr : Option FieldType} (w1 : (Jvm.Cond.methodLink own i y).before a0 Z = true) (w2 : (Jvm.Cond.declares y).before a0 Z = true) (hnf : NotFace s y) (ws : (Jvm.Cond.selects Cn y z).before a0 Z = true) (wi : (Jvm.Cond.instanceMethod z).before a0 Z = true) (w3 : (Jvm.Cond.initialized z.cls).before a0 Z = true) (w4 : (Jvm.Cond.code z yb ym yr).before a0 Z = true) (hy : y.cls ≠ "java/lang/invoke/MethodHandle" ∧ y.cls ≠ "java/lang/invoke/VarHandle")
    {rm : Room} {as' : Array Value} {Q : Option Value → Heap → List Loc → Prop} (hM : MetFree l z (head1 [Jvm.Cond.code z yb ym yr] rm) (fun a U => a = as' ∧ Z.Warmed39 U.vm ∧ U.heap = h) (fun _ _ _ _ _ => True) (fun _ U o U' => ∃ v L, o = .returned v ∧ Q v U'.heap L ∧ FrameEnd U o U' L rm.cells rm.slots))
    (eT : T.heap = h) {a : Addr} (E : Exa Z h a Cn) (hd : decode bytes pc = .ok (.invokevirtual i, 3)) (argsL : List Value) (rest : List Value) (hS : S = argsL.reverse ++ .ref a :: rest) (has : as' = (.ref a :: argsL).toArray) {ps : List FieldType} {r : Option FieldType} (hpd : parseMethodDescriptor y.desc = some ⟨ps, r⟩) (hlen : argsL.length = ps.length) (hsz : Ls.size = maxL)
    (hf : rm.frames + 1 ≤ R.frames) (hl : (rest.map fun v => v.category).sum + (ym + 11) + rm.locals ≤ R.locals) (hc : cells + rm.cells ≤ R.cells) (hsl : slots + rm.slots ≤ R.slots) (hq : pc + 3 = q)
    (K : ∀ (T' : State) (v : Option Value) (L : List Loc), Stand p l e R s m args below meth c T' (locs ++ L) (cells + rm.cells) (slots + rm.slots) → Q v T'.heap L → Go p e below F (T'.setTop (mkF m q Ls (v.toList ++ rest)))) : Go p e below F (T.setTop (mkF m pc Ls S)) := by
  subst hq hS has
  obtain ⟨hx, hZ, hby, hml, hown, hnm, hret, hlk⟩ := C
  obtain ⟨cq, kq, qa, qb, qc⟩ := isOf hZ eT E
  obtain ⟨v, _, ⟨T1, L1, k1, n1⟩, -, X1, ⟨Lc, hQ, l1, y1, z1⟩, st⟩ := X.virtualBack hx hown (mvT hZ w1) (mvT hZ w2) hnf (mvT hZ ws) (mvT hZ wi) hy (backOf (W := (rest.map fun v => v.category).sum) hM hZ w4 w3 hf hl) qa qc (g := mkF m pc Ls (argsL.reverse ++ .ref a :: rest)) rfl (by rw [hml]; exact hsz) (Steps.refl _) (argsL := argsL) (rest := rest) (lenOf hpd hlen) rfl (by show 2 * 0 + _ ≤ _; omega) (hb hby hd) (fun _ _ => ⟨rfl, eT, hc, hsl⟩)
  dsimp only [Pt.U, Pt.locs, Pt.cells, Pt.slots] at X1 l1 y1 z1 st hQ
  subst l1 y1 z1
  exact tr st (K T1 v Lc X1 hQ)
theorem nf (C : Cx p s m meth c Z bytes maxL own mname ret) {Cn : String} {y : MethodName} (ws : (Jvm.Cond.selects Cn y y).before a0 Z = true) : NotFace s y := notFace_of_selects (args := #[]) (mvT C.2.1 ws)
theorem initObj (X : Stand p l e R s m args below meth c T locs cells slots) (C : Cx p s m meth c Z bytes maxL own mname ret) {i : Nat} (w1 : (Jvm.Cond.methodLink own i ⟨"java/lang/Object", "<init>", "()V"⟩).before a0 Z = true) (w2 : (Jvm.Cond.instanceMethod ⟨"java/lang/Object", "<init>", "()V"⟩).before a0 Z = true) (w3 : (Jvm.Cond.code ⟨"java/lang/Object", "<init>", "()V"⟩ object_method_1_code 1 none).before a0 Z = true)
    (eT : T.heap = h) {a : Addr} (hd : decode bytes pc = .ok (.invokespecial i, 3)) (hsz : Ls.size = maxL) (hf : 1 ≤ R.frames) (hl : (S.map fun v => v.category).sum + 12 ≤ R.locals) (hq : pc + 3 = q)
    (K : ∀ (T' : State), Stand p l e R s m args below meth c T' locs cells slots → T'.heap = h → Go p e below F (T'.setTop (mkF m q Ls S))) : Go p e below F (T.setTop (mkF m pc Ls (.ref a :: S))) := by
  subst hq
  obtain ⟨hx, hZ, hby, hml, hown, hnm, hret, hlk⟩ := C
  obtain ⟨T1, X1, e1, st⟩ := initO X hx hZ hown w1 w2 w3 eT (g := mkF m pc Ls (.ref a :: S)) rfl (by rw [hml]; exact hsz) rfl (hb hby hd) hf (W := (S.map fun v => v.category).sum) (by show 2 * 0 + _ ≤ _; omega) hl
  exact of st (K T1 X1 e1)
/-! objects -/
theorem newO (X : Stand p l e R s m args below meth c T locs cells slots) (C : Cx p s m meth c Z bytes maxL own mname ret) {i n : Nat} {Cn : String} (w1 : (Jvm.Cond.classLink own i Cn).before a0 Z = true) (w2 : (Jvm.Cond.instantiable Cn n).before a0 Z = true) (w3 : (Jvm.Cond.initialized Cn).before a0 Z = true) (eT : T.heap = h) (hd : decode bytes pc = .ok (.new i, 3)) (hc : cells + 1 ≤ R.cells) (hl : slots + n ≤ R.slots) (hq : pc + 3 = q)
    (K : ∀ (T' : State) (h' : Heap) (b : Addr), Stand p l e R s m args below meth c T' locs (cells + 1) (slots + n) → T'.heap = h' → b = h.size → Ext h h' → Exa Z h' b Cn → (∀ {O nm d : String} {ty : FieldType}, Laid Z a0 Cn O nm d → parseFieldDescriptor d = some ty → Fld Z h' b O nm d (defaultValue ty)) → Go p e below F (T'.setTop (mkF m q Ls (.ref b :: S)))) : Go p e below F (T.setTop (mkF m pc Ls S)) := by
  subst hq
  obtain ⟨hx, hZ, hby, hml, hown, hnm, hret, hlk⟩ := C
  obtain ⟨T1, h1, X1, e1, E1, A1, D1, -, st⟩ := Jvm.RoadKit.newO X hx hZ hown w1 w2 w3 eT (g := mkF m pc Ls S) rfl (hb hby hd) hc hl
  exact of st (K T1 h1 _ X1 e1 rfl E1 A1 D1)
theorem getF (X : Stand p l e R s m args below meth c T locs cells slots) (C : Cx p s m meth c Z bytes maxL own mname ret) {i : Nat} {R0 O n d host : String} (w : (Jvm.Cond.fieldLink own i R0 n d).before a0 Z = true ∨ (Jvm.Cond.fieldLinkNest own i R0 n d host).before a0 Z = true) (via : Via Z R0 O n d) (eT : T.heap = h) {a : Addr} {v : Value} (F0 : Fld Z h a O n d v) (hd : decode bytes pc = .ok (.getfield i, 3)) (hq : pc + 3 = q)
    (K : ∀ (T' : State), Stand p l e R s m args below meth c T' locs cells slots → T'.heap = h → Go p e below F (T'.setTop (mkF m q Ls (v :: S)))) : Go p e below F (T.setTop (mkF m pc Ls (.ref a :: S))) := by
  subst hq
  obtain ⟨hx, hZ, hby, hml, hown, hnm, hret, hlk⟩ := C
  obtain ⟨T1, X1, e1, st⟩ := Jvm.RoadKit.getF X hx hZ hown w via eT F0 (g := mkF m pc Ls (.ref a :: S)) rfl rfl (hb hby hd)
  exact of st (K T1 X1 e1)
theorem putF (X : Stand p l e R s m args below meth c T locs cells slots) (C : Cx p s m meth c Z bytes maxL own mname ret) {i kk : Nat} {R0 O n d host Cn : String} {ty : FieldType} (w : (Jvm.Cond.fieldLink own i R0 n d).before a0 Z = true ∨ (Jvm.Cond.fieldLinkNest own i R0 n d host).before a0 Z = true) (via : Via Z R0 O n d) (eT : T.heap = h) {a : Addr} {v old : Value} (F0 : Fld Z h a O n d old) (E : Exa Z h a Cn) (L : (Jvm.Cond.lays Cn O n d).before a0 Z = true ∨ ((Jvm.Cond.laysFinal Cn O n d).before a0 Z = true ∧ own = O ∧ mname = "<init>")) (wi : (Jvm.Cond.instantiable Cn kk).before a0 Z = true) (hty : parseFieldDescriptor d = some ty) (hn : narrow ty v = v) (hf : fits ty v = true) (hd : decode bytes pc = .ok (.putfield i, 3)) (hq : pc + 3 = q)
    (K : ∀ (T' : State) (h' : Heap), Stand p l e R s m args below meth c T' (locs ++ [⟨a, Jvm.RoadKit.slotOf Z O n d⟩]) cells slots → T'.heap = h' → Wr h h' a (Jvm.RoadKit.slotOf Z O n d) v → Go p e below F (T'.setTop (mkF m q Ls S))) : Go p e below F (T.setTop (mkF m pc Ls (v :: .ref a :: S))) := by
  subst hq
  obtain ⟨hx, hZ, hby, hml, hown, hnm, hret, hlk⟩ := C
  obtain ⟨T1, h1, X1, e1, W1, st⟩ := Jvm.RoadKit.putF X hx hZ hown w via eT F0 E (L.imp id fun q => ⟨q.1, q.2.1, hnm.trans q.2.2⟩) wi hty hn hf (g := mkF m pc Ls (v :: .ref a :: S)) rfl rfl (hb hby hd)
  exact of st (K T1 h1 X1 e1 W1)
theorem getS (X : Stand p l e R s m args below meth c T locs cells slots) (C : Cx p s m meth c Z bytes maxL own mname ret) {i : Nat} {R0 O n d : String} (w : (Jvm.Cond.fieldLink own i R0 n d).before a0 Z = true) (via : Via Z R0 O n d) (eT : T.heap = h) {v : Value} (F0 : Sta Z h O n d v) (hd : decode bytes pc = .ok (.getstatic i, 3)) (hq : pc + 3 = q)
    (K : ∀ (T' : State), Stand p l e R s m args below meth c T' locs cells slots → T'.heap = h → Go p e below F (T'.setTop (mkF m q Ls (v :: S)))) : Go p e below F (T.setTop (mkF m pc Ls S)) := by
  subst hq
  obtain ⟨hx, hZ, hby, hml, hown, hnm, hret, hlk⟩ := C
  obtain ⟨T1, X1, e1, st⟩ := Jvm.RoadKit.getS X hx hZ hown (host := "") w via eT F0 (g := mkF m pc Ls S) rfl (hb hby hd)
  exact of st (K T1 X1 e1)
/-! arrays: Arv Z h a k ty n vs d -/
theorem inb {cl : Cell} {n j : Int32} (S : cl.slots.size = n.toNatClampNeg) (h1 : 0 ≤ j.toInt) (h2 : j.toInt < n.toInt) : ¬ (j < 0 ∨ cl.slots.size ≤ j.toNatClampNeg) := inb_of S ⟨by rw [Int32.lt_iff_toInt_lt]; have : (0 : Int32).toInt = 0 := rfl; omega, by rw [Int32.lt_iff_toInt_lt]; exact h2⟩
theorem iaload (X : Stand p l e R s m args below meth c T locs cells slots) (C : Cx p s m meth c Z bytes maxL own mname ret) (eT : T.heap = h) {a : Addr} {k : ClassId} {n j x : Int32} {vs : List Value} {d : Value} (V : Arv Z h a k .int n vs d) (h1 : 0 ≤ j.toInt) (h2 : j.toInt < n.toInt) (hv : vs.getD j.toNatClampNeg d = .int x) (hd : decode bytes pc = .ok (.iaload, 1)) (hq : pc + 1 = q) (K : Go p e below F (T.setTop (mkF m q Ls (.int x :: S)))) : Go p e below F (T.setTop (mkF m pc Ls (.int j :: .ref a :: S))) := by
  subst hq
  obtain ⟨cl, Ar, q1, S1, N1, H1, G1⟩ := V
  exact of (X.iaload C.1 (j := j) (v := .int x) (by rw [eT]; exact Ar.1) (State.isArrayOf_alike C.2.1.alike Ar.2.1) Ar.2.2 (inb S1 h1 h2) (Has.at H1 (inb S1 h1 h2) hv) (g := mkF m pc Ls (.int j :: .ref a :: S)) rfl rfl (hb C.2.2.1 hd)) K
theorem caload (X : Stand p l e R s m args below meth c T locs cells slots) (C : Cx p s m meth c Z bytes maxL own mname ret) (eT : T.heap = h) {a : Addr} {k : ClassId} {n j x : Int32} {vs : List Value} {d : Value} (V : Arv Z h a k .char n vs d) (h1 : 0 ≤ j.toInt) (h2 : j.toInt < n.toInt) (hv : vs.getD j.toNatClampNeg d = .int x) (hd : decode bytes pc = .ok (.caload, 1)) (hq : pc + 1 = q) (K : Go p e below F (T.setTop (mkF m q Ls (.int x :: S)))) : Go p e below F (T.setTop (mkF m pc Ls (.int j :: .ref a :: S))) := by
  subst hq
  obtain ⟨cl, Ar, q1, S1, N1, H1, G1⟩ := V
  exact of (X.caload C.1 (j := j) (v := .int x) (by rw [eT]; exact Ar.1) (State.isArrayOf_alike C.2.1.alike Ar.2.1) Ar.2.2 (inb S1 h1 h2) (Has.at H1 (inb S1 h1 h2) hv) (g := mkF m pc Ls (.int j :: .ref a :: S)) rfl rfl (hb C.2.2.1 hd)) K
theorem baload (X : Stand p l e R s m args below meth c T locs cells slots) (C : Cx p s m meth c Z bytes maxL own mname ret) (eT : T.heap = h) {a : Addr} {k : ClassId} {n j x : Int32} {vs : List Value} {d : Value} (V : Arv Z h a k .byte n vs d) (h1 : 0 ≤ j.toInt) (h2 : j.toInt < n.toInt) (hv : vs.getD j.toNatClampNeg d = .int x) (hd : decode bytes pc = .ok (.baload, 1)) (hq : pc + 1 = q) (K : Go p e below F (T.setTop (mkF m q Ls (.int x :: S)))) : Go p e below F (T.setTop (mkF m pc Ls (.int j :: .ref a :: S))) := by
  subst hq
  obtain ⟨cl, Ar, q1, S1, N1, H1, G1⟩ := V
  exact of (X.baloadBytes C.1 (j := j) (v := .int x) (by rw [eT]; exact Ar.1) (State.isArrayOf_alike C.2.1.alike Ar.2.1) Ar.2.2 (inb S1 h1 h2) (Has.at H1 (inb S1 h1 h2) hv) (g := mkF m pc Ls (.int j :: .ref a :: S)) rfl rfl (hb C.2.2.1 hd)) K
theorem aaload (X : Stand p l e R s m args below meth c T locs cells slots) (C : Cx p s m meth c Z bytes maxL own mname ret) (eT : T.heap = h) {a : Addr} {k : ClassId} {n j : Int32} {x : Value} {vs : List Value} {d : Value} {ty : FieldType} (hty : ty.isReference = true) (V : Arv Z h a k ty n vs d) (h1 : 0 ≤ j.toInt) (h2 : j.toInt < n.toInt) (hv : vs.getD j.toNatClampNeg d = x) (hd : decode bytes pc = .ok (.aaload, 1)) (hq : pc + 1 = q) (K : Go p e below F (T.setTop (mkF m q Ls (x :: S)))) : Go p e below F (T.setTop (mkF m pc Ls (.int j :: .ref a :: S))) := by
  subst hq
  obtain ⟨cl, Ar, q1, S1, N1, H1, G1⟩ := V
  exact of (X.aaload C.1 (j := j) (v := x) (by rw [eT]; exact Ar.1) (State.isArrayOf_alike C.2.1.alike Ar.2.1) hty Ar.2.2 (inb S1 h1 h2) (Has.at H1 (inb S1 h1 h2) hv) (g := mkF m pc Ls (.int j :: .ref a :: S)) rfl rfl (hb C.2.2.1 hd)) K
theorem aaloadC (X : Stand p l e R s m args below meth c T locs cells slots) (C : Cx p s m meth c Z bytes maxL own mname ret) (eT : T.heap = h) {a : Addr} {cl : Cell} {j : Int32} {x : Value} {ty : FieldType} (hty : ty.isReference = true) (Ar : Arr Z h a cl ty) (hin : ¬ (j < 0 ∨ cl.slots.size ≤ j.toNatClampNeg)) (hat : cl.slots[j.toNatClampNeg]? = some x) (hd : decode bytes pc = .ok (.aaload, 1)) (hq : pc + 1 = q) (K : Go p e below F (T.setTop (mkF m q Ls (x :: S)))) : Go p e below F (T.setTop (mkF m pc Ls (.int j :: .ref a :: S))) := by
  subst hq
  exact of (X.aaload C.1 (j := j) (v := x) (by rw [eT]; exact Ar.1) (State.isArrayOf_alike C.2.1.alike Ar.2.1) hty Ar.2.2 hin hat (g := mkF m pc Ls (.int j :: .ref a :: S)) rfl rfl (hb C.2.2.1 hd)) K
theorem arraylength (X : Stand p l e R s m args below meth c T locs cells slots) (C : Cx p s m meth c Z bytes maxL own mname ret) (eT : T.heap = h) {a : Addr} {k : ClassId} {n : Int32} {vs : List Value} {d : Value} {ty : FieldType} (V : Arv Z h a k ty n vs d) (hd : decode bytes pc = .ok (.arraylength, 1)) (hq : pc + 1 = q) (K : Go p e below F (T.setTop (mkF m q Ls (.int n :: S)))) : Go p e below F (T.setTop (mkF m pc Ls (.ref a :: S))) := by
  subst hq
  obtain ⟨cl, Ar, q1, S1, N1, H1, G1⟩ := V
  refine of (X.arraylength C.1 (by rw [eT]; exact Ar.1) (State.isArrayOf_alike C.2.1.alike Ar.2.1) (g := mkF m pc Ls (.ref a :: S)) rfl rfl (hb C.2.2.1 hd)) ?_
  rw [len_of S1 N1]
  exact K
theorem iastore (X : Stand p l e R s m args below meth c T locs cells slots) (C : Cx p s m meth c Z bytes maxL own mname ret) (eT : T.heap = h) {a : Addr} {k : ClassId} {n j x : Int32} {vs : List Value} {d : Value} (V : Arv Z h a k .int n vs d) (h1 : 0 ≤ j.toInt) (h2 : j.toInt < n.toInt) (hlen : j.toNatClampNeg < vs.length) (hd : decode bytes pc = .ok (.iastore, 1)) (hq : pc + 1 = q)
    (K : ∀ (T' : State) (h' : Heap), Stand p l e R s m args below meth c T' (locs ++ [⟨a, j.toNatClampNeg⟩]) cells slots → T'.heap = h' → Wr h h' a j.toNatClampNeg (.int x) → Arv Z h' a k .int n (vs.set j.toNatClampNeg (.int x)) d → Go p e below F (T'.setTop (mkF m q Ls S))) : Go p e below F (T.setTop (mkF m pc Ls (.int x :: .int j :: .ref a :: S))) := by
  subst hq
  obtain ⟨cl, Ar, q1, S1, N1, H1, G1⟩ := V
  obtain ⟨T1, h1', X1, e1, W1, st⟩ := stI X C.1 C.2.1 eT Ar (j := j) (inb S1 h1 h2) (g := mkF m pc Ls (.int x :: .int j :: .ref a :: S)) rfl rfl (hb C.2.2.1 hd)
  exact of st (K T1 h1' X1 e1 W1 (Arv.set Ar q1 S1 N1 H1 G1 rfl W1 _ rfl hlen))
theorem castore (X : Stand p l e R s m args below meth c T locs cells slots) (C : Cx p s m meth c Z bytes maxL own mname ret) (eT : T.heap = h) {a : Addr} {k : ClassId} {n j x : Int32} {vs : List Value} {d : Value} (V : Arv Z h a k .char n vs d) (h1 : 0 ≤ j.toInt) (h2 : j.toInt < n.toInt) (hlen : j.toNatClampNeg < vs.length) (hd : decode bytes pc = .ok (.castore, 1)) (hq : pc + 1 = q)
    (K : ∀ (T' : State) (h' : Heap), Stand p l e R s m args below meth c T' (locs ++ [⟨a, j.toNatClampNeg⟩]) cells slots → T'.heap = h' → Wr h h' a j.toNatClampNeg (.int (nar .char x)) → Arv Z h' a k .char n (vs.set j.toNatClampNeg (.int (nar .char x))) d → Go p e below F (T'.setTop (mkF m q Ls S))) : Go p e below F (T.setTop (mkF m pc Ls (.int x :: .int j :: .ref a :: S))) := by
  subst hq
  obtain ⟨cl, Ar, q1, S1, N1, H1, G1⟩ := V
  obtain ⟨T1, h1', X1, e1, W1, st⟩ := stC X C.1 C.2.1 eT Ar (j := j) (inb S1 h1 h2) (g := mkF m pc Ls (.int x :: .int j :: .ref a :: S)) rfl rfl (hb C.2.2.1 hd)
  exact of st (K T1 h1' X1 e1 W1 (Arv.set Ar q1 S1 N1 H1 G1 (fits_nar_char _) W1 _ rfl hlen))
theorem bastore (X : Stand p l e R s m args below meth c T locs cells slots) (C : Cx p s m meth c Z bytes maxL own mname ret) (eT : T.heap = h) {a : Addr} {k : ClassId} {n j x : Int32} {vs : List Value} {d : Value} (V : Arv Z h a k .byte n vs d) (h1 : 0 ≤ j.toInt) (h2 : j.toInt < n.toInt) (hlen : j.toNatClampNeg < vs.length) (hd : decode bytes pc = .ok (.bastore, 1)) (hq : pc + 1 = q)
    (K : ∀ (T' : State) (h' : Heap), Stand p l e R s m args below meth c T' (locs ++ [⟨a, j.toNatClampNeg⟩]) cells slots → T'.heap = h' → Wr h h' a j.toNatClampNeg (.int x.toInt8.toInt32) → Arv Z h' a k .byte n (vs.set j.toNatClampNeg (.int x.toInt8.toInt32)) d → Go p e below F (T'.setTop (mkF m q Ls S))) : Go p e below F (T.setTop (mkF m pc Ls (.int x :: .int j :: .ref a :: S))) := by
  subst hq
  obtain ⟨cl, Ar, q1, S1, N1, H1, G1⟩ := V
  obtain ⟨T1, h1', X1, e1, W1, st⟩ := stB X C.1 C.2.1 eT Ar (j := j) (inb S1 h1 h2) (g := mkF m pc Ls (.int x :: .int j :: .ref a :: S)) rfl rfl (hb C.2.2.1 hd)
  exact of st (K T1 h1' X1 e1 W1 (Arv.set Ar q1 S1 N1 H1 G1 (fits_nar_byte _) W1 _ rfl hlen))
theorem aastore (X : Stand p l e R s m args below meth c T locs cells slots) (C : Cx p s m meth c Z bytes maxL own mname ret) (eT : T.heap = h) {a : Addr} {k : ClassId} {n j : Int32} {x : Value} {vs : List Value} {d : Value} {ty : FieldType} (hty : ty.isReference = true) (hf : fits ty x = true) (V : Arv Z h a k ty n vs d) (hs : ∀ cl, Arr Z h a cl ty → cl.cls = k → Sto Z h a x) (h1 : 0 ≤ j.toInt) (h2 : j.toInt < n.toInt) (hlen : j.toNatClampNeg < vs.length) (hd : decode bytes pc = .ok (.aastore, 1)) (hq : pc + 1 = q)
    (K : ∀ (T' : State) (h' : Heap), Stand p l e R s m args below meth c T' (locs ++ [⟨a, j.toNatClampNeg⟩]) cells slots → T'.heap = h' → Wr h h' a j.toNatClampNeg x → Arv Z h' a k ty n (vs.set j.toNatClampNeg x) d → Go p e below F (T'.setTop (mkF m q Ls S))) : Go p e below F (T.setTop (mkF m pc Ls (x :: .int j :: .ref a :: S))) := by
  subst hq
  obtain ⟨cl, Ar, q1, S1, N1, H1, G1⟩ := V
  obtain ⟨T1, h1', X1, e1, W1, st⟩ := stR X C.1 C.2.1 eT Ar (j := j) (inb S1 h1 h2) hty (hs cl Ar q1) (g := mkF m pc Ls (x :: .int j :: .ref a :: S)) rfl rfl (hb C.2.2.1 hd)
  exact of st (K T1 h1' X1 e1 W1 (Arv.set Ar q1 S1 N1 H1 G1 hf W1 _ rfl hlen))
theorem newarray (X : Stand p l e R s m args below meth c T locs cells slots) (C : Cx p s m meth c Z bytes maxL own mname ret) {aty : ArrayType} (w : (Jvm.Cond.arrayClass (newarray.typeOf aty)).before a0 Z = true) (eT : T.heap = h) {n : Int32} (hn : 0 ≤ n.toInt) (cap : Nat) (hcap : n.toInt ≤ cap) (hb8 : cap * 8 ≤ 536870912) (hd : decode bytes pc = .ok (.newarray aty, 2)) (hc : cells + 1 ≤ R.cells) (hl : slots + cap ≤ R.slots) (hq : pc + 2 = q)
    (K : ∀ (T' : State) (h' : Heap) (b : Addr) (k : ClassId), Stand p l e R s m args below meth c T' locs (cells + 1) (slots + cap) → T'.heap = h' → b = h.size → Ext h h' → Arv Z h' b k (newarray.typeOf aty) n (List.replicate cap (defaultValue (newarray.typeOf aty))) (defaultValue (newarray.typeOf aty)) → Go p e below F (T'.setTop (mkF m q Ls (.ref b :: S)))) : Go p e below F (T.setTop (mkF m pc Ls (.int n :: S))) := by
  subst hq
  have hn' : ¬ n < 0 := by rw [Int32.lt_iff_toInt_lt]; have : (0 : Int32).toInt = 0 := rfl; omega
  obtain ⟨T1, h1, k1, X1, e1, E1, A1, st⟩ := newP X C.1 C.2.1 w eT (g := mkF m pc Ls (.int n :: S)) rfl (hb C.2.2.1 hd) rfl hn' (cap := cap) (by simp only [Int32.toNatClampNeg]; omega) hb8 hc hl
  exact of st (K T1 h1 _ k1 X1 e1 rfl E1 ((Arv.new A1 hn').pad (pad_rep [] _ cap)))
theorem anewarray (X : Stand p l e R s m args below meth c T locs cells slots) (C : Cx p s m meth c Z bytes maxL own mname ret) {i : Nat} {Cn : String} (w1 : (Jvm.Cond.classLink own i Cn).before a0 Z = true) (w2 : (Jvm.Cond.arrayOver (.object Cn)).before a0 Z = true) (eT : T.heap = h) {n : Int32} (hn : 0 ≤ n.toInt) (cap : Nat) (hcap : n.toInt ≤ cap) (hb8 : cap * 8 ≤ 536870912) (hd : decode bytes pc = .ok (.anewarray i, 3)) (hc : cells + 1 ≤ R.cells) (hl : slots + cap ≤ R.slots) (hq : pc + 3 = q)
    (K : ∀ (T' : State) (h' : Heap) (b : Addr) (k : ClassId), Stand p l e R s m args below meth c T' locs (cells + 1) (slots + cap) → T'.heap = h' → b = h.size → Ext h h' → Ovr Z k Cn → Arv Z h' b k (.object Cn) n (List.replicate cap .null) .null → Go p e below F (T'.setTop (mkF m q Ls (.ref b :: S)))) : Go p e below F (T.setTop (mkF m pc Ls (.int n :: S))) := by
  subst hq
  have hn' : ¬ n < 0 := by rw [Int32.lt_iff_toInt_lt]; have : (0 : Int32).toInt = 0 := rfl; omega
  obtain ⟨T1, h1, k1, X1, e1, E1, A1, O1, st⟩ := newR X C.1 C.2.1 C.2.2.2.2.1 w1 w2 eT (g := mkF m pc Ls (.int n :: S)) rfl (hb C.2.2.1 hd) rfl hn' (cap := cap) (by simp only [Int32.toNatClampNeg]; omega) hb8 hc hl
  exact of st (K T1 h1 _ k1 X1 e1 rfl E1 O1 ((Arv.new A1 hn').pad (pad_rep [] _ cap)))
/-! doubles -/
theorem dload (X : Stand p l e R s m args below meth c T locs cells slots) (C : Cx p s m meth c Z bytes maxL own mname ret) {k : Nat} {v : UInt64} (hd : decode bytes pc = .ok (.dload k, 2)) (hl : Ls[k]? = some (.val (.double v))) (hq : pc + 2 = q) (K : Go p e below F (T.setTop (mkF m q Ls (.double v :: S)))) : Go p e below F (T.setTop (mkF m pc Ls S)) := by
  subst hq; exact of (fun t k => XS.dload X.here C.1 rfl (hb C.2.2.1 hd) hl k) K
theorem dloadN (X : Stand p l e R s m args below meth c T locs cells slots) (C : Cx p s m meth c Z bytes maxL own mname ret) {k : Fin 4} {v : UInt64} (hd : decode bytes pc = .ok (.dload_n k, 1)) (hl : Ls[k.val]? = some (.val (.double v))) (hq : pc + 1 = q) (K : Go p e below F (T.setTop (mkF m q Ls (.double v :: S)))) : Go p e below F (T.setTop (mkF m pc Ls S)) := by
  subst hq; exact of (fun t k => XS.dloadN X.here C.1 rfl (hb C.2.2.1 hd) hl k) K
theorem dstore (X : Stand p l e R s m args below meth c T locs cells slots) (C : Cx p s m meth c Z bytes maxL own mname ret) {k : Nat} {v : UInt64} (hd : decode bytes pc = .ok (.dstore k, 2)) (hl : storeLocals Ls k (.double v) = some L') (hq : pc + 2 = q) (K : Go p e below F (T.setTop (mkF m q L' S))) : Go p e below F (T.setTop (mkF m pc Ls (.double v :: S))) := by
  subst hq; exact of (fun t k => XS.dstore X.here C.1 rfl (hb C.2.2.1 hd) rfl hl k) K
theorem dstoreN (X : Stand p l e R s m args below meth c T locs cells slots) (C : Cx p s m meth c Z bytes maxL own mname ret) {k : Fin 4} {v : UInt64} (hd : decode bytes pc = .ok (.dstore_n k, 1)) (hl : storeLocals Ls k.val (.double v) = some L') (hq : pc + 1 = q) (K : Go p e below F (T.setTop (mkF m q L' S))) : Go p e below F (T.setTop (mkF m pc Ls (.double v :: S))) := by
  subst hq; exact of (fun t k => XS.dstoreN X.here C.1 rfl (hb C.2.2.1 hd) rfl hl k) K
theorem dconst0 (X : Stand p l e R s m args below meth c T locs cells slots) (C : Cx p s m meth c Z bytes maxL own mname ret) {v : UInt64} (hd : decode bytes pc = .ok (.dconst 0, 1)) (hv : FP.dconst0 = v) (hq : pc + 1 = q) (K : Go p e below F (T.setTop (mkF m q Ls (.double v :: S)))) : Go p e below F (T.setTop (mkF m pc Ls S)) := by
  subst hq; exact of (fun t k => XS.dconst0 X.here C.1 rfl (hb C.2.2.1 hd) hv k) K
theorem dconst1 (X : Stand p l e R s m args below meth c T locs cells slots) (C : Cx p s m meth c Z bytes maxL own mname ret) {v : UInt64} (hd : decode bytes pc = .ok (.dconst 1, 1)) (hv : FP.dconst1 = v) (hq : pc + 1 = q) (K : Go p e below F (T.setTop (mkF m q Ls (.double v :: S)))) : Go p e below F (T.setTop (mkF m pc Ls S)) := by
  subst hq; exact of (fun t k => XS.dconst1 X.here C.1 rfl (hb C.2.2.1 hd) hv k) K
theorem i2d (X : Stand p l e R s m args below meth c T locs cells slots) (C : Cx p s m meth c Z bytes maxL own mname ret) {x : Int32} {v : UInt64} (hd : decode bytes pc = .ok (.i2d, 1)) (hv : FP.i2d x = v) (hq : pc + 1 = q) (K : Go p e below F (T.setTop (mkF m q Ls (.double v :: S)))) : Go p e below F (T.setTop (mkF m pc Ls (.int x :: S))) := by
  subst hq; exact of (fun t k => XS.i2dS X.here C.1 rfl (hb C.2.2.1 hd) rfl hv k) K
theorem l2d (X : Stand p l e R s m args below meth c T locs cells slots) (C : Cx p s m meth c Z bytes maxL own mname ret) {x : Int64} {v : UInt64} (hd : decode bytes pc = .ok (.l2d, 1)) (hv : FP.l2d x = v) (hq : pc + 1 = q) (K : Go p e below F (T.setTop (mkF m q Ls (.double v :: S)))) : Go p e below F (T.setTop (mkF m pc Ls (.long x :: S))) := by
  subst hq; exact of (fun t k => XS.l2dS X.here C.1 rfl (hb C.2.2.1 hd) rfl hv k) K
theorem dcmp (X : Stand p l e R s m args below meth c T locs cells slots) (C : Cx p s m meth c Z bytes maxL own mname ret) {o : CmpOp} {x y : UInt64} {v : Int32} (hd : decode bytes pc = .ok (.dcmp o, 1)) (hv : cmpValue (FP.dcmp x y) o = v) (hq : pc + 1 = q) (K : Go p e below F (T.setTop (mkF m q Ls (.int v :: S)))) : Go p e below F (T.setTop (mkF m pc Ls (.double y :: .double x :: S))) := by
  subst hq; exact of (fun t k => XS.dcmpS X.here C.1 rfl (hb C.2.2.1 hd) rfl hv k) K
theorem dadd (X : Stand p l e R s m args below meth c T locs cells slots) (C : Cx p s m meth c Z bytes maxL own mname ret) {x y v : UInt64} (hd : decode bytes pc = .ok (.dadd, 1)) (hn : Jvm.Free.Fl.NoNaN64 v) (hv : FP.dadd x y = v) (hq : pc + 1 = q) (K : Go p e below F (T.setTop (mkF m q Ls (.double v :: S)))) : Go p e below F (T.setTop (mkF m pc Ls (.double y :: .double x :: S))) := by
  subst hq; exact of (fun t k => XS.daddS X.here C.1 rfl (hb C.2.2.1 hd) rfl (hv ▸ hn) hv k) K
theorem dsub (X : Stand p l e R s m args below meth c T locs cells slots) (C : Cx p s m meth c Z bytes maxL own mname ret) {x y v : UInt64} (hd : decode bytes pc = .ok (.dsub, 1)) (hn : Jvm.Free.Fl.NoNaN64 v) (hv : FP.dsub x y = v) (hq : pc + 1 = q) (K : Go p e below F (T.setTop (mkF m q Ls (.double v :: S)))) : Go p e below F (T.setTop (mkF m pc Ls (.double y :: .double x :: S))) := by
  subst hq; exact of (fun t k => XS.dsubS X.here C.1 rfl (hb C.2.2.1 hd) rfl (hv ▸ hn) hv k) K
theorem dmul (X : Stand p l e R s m args below meth c T locs cells slots) (C : Cx p s m meth c Z bytes maxL own mname ret) {x y v : UInt64} (hd : decode bytes pc = .ok (.dmul, 1)) (hn : Jvm.Free.Fl.NoNaN64 v) (hv : FP.dmul x y = v) (hq : pc + 1 = q) (K : Go p e below F (T.setTop (mkF m q Ls (.double v :: S)))) : Go p e below F (T.setTop (mkF m pc Ls (.double y :: .double x :: S))) := by
  subst hq; exact of (fun t k => XS.dmulS X.here C.1 rfl (hb C.2.2.1 hd) rfl (hv ▸ hn) hv k) K
theorem ddiv (X : Stand p l e R s m args below meth c T locs cells slots) (C : Cx p s m meth c Z bytes maxL own mname ret) {x y v : UInt64} (hd : decode bytes pc = .ok (.ddiv, 1)) (hn : Jvm.Free.Fl.NoNaN64 v) (hv : FP.ddiv x y = v) (hq : pc + 1 = q) (K : Go p e below F (T.setTop (mkF m q Ls (.double v :: S)))) : Go p e below F (T.setTop (mkF m pc Ls (.double y :: .double x :: S))) := by
  subst hq; exact of (fun t k => XS.ddivS X.here C.1 rfl (hb C.2.2.1 hd) rfl (hv ▸ hn) hv k) K
theorem ldcD (X : Stand p l e R s m args below meth c T locs cells slots) (C : Cx p s m meth c Z bytes maxL own mname ret) {i : Nat} {v : UInt64} (w : (Jvm.Cond.constantDouble own i v).before a0 Z = true) (hd : decode bytes pc = .ok (.ldc2_w i, 3)) (hq : pc + 3 = q) (K : Go p e below F (T.setTop (mkF m q Ls (.double v :: S)))) : Go p e below F (T.setTop (mkF m pc Ls S)) := by
  subst hq; exact of (X.ldc2DoubleC C.1 C.2.2.2.2.1 (mvT C.2.1 w) (g := mkF m pc Ls S) rfl (hb C.2.2.1 hd)) K
theorem retD (X : Stand p l e R s m args below meth c T locs cells slots) (C : Cx p s m meth c Z bytes maxL own mname (some .double)) (eT : T.heap = h) {z : UInt64} (hd : decode bytes pc = .ok (.dreturn, 1)) {k n : Nat} (hk : cells ≤ k) (hn : slots ≤ n) {Q : Option Value → Heap → List Loc → Prop} (hQ : Q (some (.double z)) h locs) :
    Go p e below (Post s Q k n) (T.setTop (mkF m pc Ls (.double z :: rest))) := by
  obtain ⟨hx, hZ, hby, hml, hown, hnm, hret, hlk⟩ := C
  obtain ⟨fs, hr, hrun, hended, hW, hsame⟩ := X.leave (v := some (.double z)) (fun h => by rw [hret] at h; cases h)
  refine ⟨_, _, retOut X hx hret rfl (Or.inr (Or.inr (Or.inl ⟨rfl, rfl, z, rfl⟩))) (hb hby hd) hr, hrun, hended, _, _, rfl, ?_, ⟨_, rfl⟩, hW, hsame.mono hk hn⟩
  show Q _ T.heap _
  rw [eT]; exact hQ
theorem keepRefl (h : Heap) : Keep h h [] := Keep.refl h []
/-! kinds of objects -/
theorem nsRoot {O Kn : String} {n : Nat} (w : (Jvm.Cond.noSuperclass O).before a0 Z = true) (wi : (Jvm.Cond.instantiable Kn n).before a0 Z = true) (hn : O ≠ Kn) : NS Z O Kn := by
  obtain ⟨c, k, h1, h2, h3, -, -⟩ := Cond.noSuperclass_spec w
  obtain ⟨t, k2, g1, -⟩ := Cond.instantiable_spec wi
  have ne := ids_ne h1 g1 hn
  refine ⟨c, t, h1, g1, fun fuel => ?_⟩
  cases fuel with
  | zero => rfl
  | succ f => simp [Vm.isSubclassAux, ne, h2, h3]
theorem nsNo {Cn S Kn : String} {n : Nat} (w : (Jvm.Cond.superclass Cn S).before a0 Z = true) (wi : (Jvm.Cond.instantiable Kn n).before a0 Z = true) (nn : NS Z Cn Kn) (hn : Cn ≠ Kn) : ∃ c t, Z.vm.findClass Cn = some c ∧ Z.vm.findClass Kn = some t ∧ Z.vm.assignable c t = false := by
  obtain ⟨c, t, h0, g0, n3⟩ := nn
  obtain ⟨p, k, kp, h1, h2, h3, h4, h5, -, h7⟩ := Cond.superclass_spec h0 w
  obtain ⟨t', k', g1, g2, g5, g6, -⟩ := Cond.instantiable_spec wi
  cases g0.symm.trans g1
  have g7 : k'.isInterface = false := (Bool.or_eq_false_iff.mp g6).1
  have ne := ids_ne h0 g0 hn
  refine ⟨c, t, h0, g0, ?_⟩
  show Z.vm.assignableAux (255 + 1) c t = false
  simp [Vm.assignableAux, ne, h2, g2, h5, g5, g7, Vm.isSubclass, n3]
theorem cast (X : Stand p l e R s m args below meth c T locs cells slots) (C : Cx p s m meth c Z bytes maxL own mname ret) {i : Nat} {Kn : String} (w : (Jvm.Cond.classLink own i Kn).before a0 Z = true) (eT : T.heap = h) {a : Addr} (I : Ins Z h a Kn true) (hd : decode bytes pc = .ok (.checkcast i, 3)) (hq : pc + 3 = q)
    (K : ∀ (T' : State), Stand p l e R s m args below meth c T' locs cells slots → T'.heap = h → Go p e below F (T'.setTop (mkF m q Ls (.ref a :: S)))) : Go p e below F (T.setTop (mkF m pc Ls (.ref a :: S))) := by
  subst hq
  obtain ⟨T1, X1, e1, st⟩ := castY X C.1 C.2.1 C.2.2.2.2.1 w eT I (g := mkF m pc Ls (.ref a :: S)) rfl rfl (hb C.2.2.1 hd)
  exact of st (K T1 X1 e1)
theorem inst1 (X : Stand p l e R s m args below meth c T locs cells slots) (C : Cx p s m meth c Z bytes maxL own mname ret) {i : Nat} {Kn : String} (w : (Jvm.Cond.classLink own i Kn).before a0 Z = true) (eT : T.heap = h) {a : Addr} (I : Ins Z h a Kn true) (hd : decode bytes pc = .ok (.instanceof i, 3)) (hq : pc + 3 = q)
    (K : ∀ (T' : State), Stand p l e R s m args below meth c T' locs cells slots → T'.heap = h → Go p e below F (T'.setTop (mkF m q Ls (.int 1 :: S)))) : Go p e below F (T.setTop (mkF m pc Ls (.ref a :: S))) := by
  subst hq
  obtain ⟨T1, X1, e1, st⟩ := instY X C.1 C.2.1 C.2.2.2.2.1 w eT I (g := mkF m pc Ls (.ref a :: S)) rfl rfl (hb C.2.2.1 hd)
  exact of st (K T1 X1 e1)
theorem inst0 (X : Stand p l e R s m args below meth c T locs cells slots) (C : Cx p s m meth c Z bytes maxL own mname ret) {i : Nat} {Kn Cn : String} (w : (Jvm.Cond.classLink own i Kn).before a0 Z = true) (eT : T.heap = h) {a : Addr} (E : Exa Z h a Cn) (N : ∃ c t, Z.vm.findClass Cn = some c ∧ Z.vm.findClass Kn = some t ∧ Z.vm.assignable c t = false) (hd : decode bytes pc = .ok (.instanceof i, 3)) (hq : pc + 3 = q)
    (K : ∀ (T' : State), Stand p l e R s m args below meth c T' locs cells slots → T'.heap = h → Go p e below F (T'.setTop (mkF m q Ls (.int 0 :: S)))) : Go p e below F (T.setTop (mkF m pc Ls (.ref a :: S))) := by
  subst hq
  obtain ⟨T1, X1, e1, st⟩ := instNo X C.1 C.2.1 C.2.2.2.2.1 w eT E N (g := mkF m pc Ls (.ref a :: S)) rfl rfl (hb C.2.2.1 hd)
  exact of st (K T1 X1 e1)
theorem instNull (X : Stand p l e R s m args below meth c T locs cells slots) (C : Cx p s m meth c Z bytes maxL own mname ret) {i : Nat} (hd : decode bytes pc = .ok (.instanceof i, 3)) (hq : pc + 3 = q) (K : Go p e below F (T.setTop (mkF m q Ls (.int 0 :: S)))) : Go p e below F (T.setTop (mkF m pc Ls (.null :: S))) := by
  subst hq; exact of (X.instanceofNull C.1 (g := mkF m pc Ls (.null :: S)) rfl rfl (hb C.2.2.1 hd)) K
theorem castNull (X : Stand p l e R s m args below meth c T locs cells slots) (C : Cx p s m meth c Z bytes maxL own mname ret) {i : Nat} (hd : decode bytes pc = .ok (.checkcast i, 3)) (hq : pc + 3 = q) (K : Go p e below F (T.setTop (mkF m q Ls (.null :: S)))) : Go p e below F (T.setTop (mkF m pc Ls (.null :: S))) := by
  subst hq; exact of (X.checkcastNull C.1 (g := mkF m pc Ls (.null :: S)) rfl rfl (hb C.2.2.1 hd)) K
theorem acmp (X : Stand p l e R s m args below meth c T locs cells slots) (C : Cx p s m meth c Z bytes maxL own mname ret) {cd : ACond} {o : Int} {x y : Value} (h1 : x.isRef = true) (h2 : y.isRef = true) {same : Bool} (hs : decide (x = y) = same) (hd : decode bytes pc = .ok (.if_acmp cd o, 3)) (ho : 0 ≤ (pc : Int) + o) (hq : q = if acV cd same = true then ((pc : Int) + o).toNat else pc + 3) (K : Go p e below F (T.setTop (mkF m q Ls S))) : Go p e below F (T.setTop (mkF m pc Ls (y :: x :: S))) :=
  of (fun t k => Jvm.RoadKit.acmp (g := mkF m pc Ls (y :: x :: S)) X C.1 rfl h1 h2 rfl (hb C.2.2.1 hd) rfl hs ho hq k) K
end
end W
end Jvm.Pilot.@@N@@
namespace Jvm.Pilot.@@N@@
open Jvm Jvm.ClassFile Sem Op Lib Jvm.Free Jvm.Stand Jvm.LawKit Jvm.RoadKit Bundle Jvm.Pilot.@@N@@.Jvm.D
theorem d1_0 : decode prog_49_method_1_code 0 = .ok (.aload_n 0, 1) := by decide +kernel
theorem d1_1 : decode prog_49_method_1_code 1 = .ok (.invokespecial 1, 3) := by decide +kernel
theorem d1_4 : decode prog_49_method_1_code 4 = .ok (.aload_n 0, 1) := by decide +kernel
theorem d1_5 : decode prog_49_method_1_code 5 = .ok (.aload_n 1, 1) := by decide +kernel
theorem d1_6 : decode prog_49_method_1_code 6 = .ok (.putfield 7, 3) := by decide +kernel
theorem d1_9 : decode prog_49_method_1_code 9 = .ok (.aload_n 0, 1) := by decide +kernel
theorem d1_10 : decode prog_49_method_1_code 10 = .ok (.aload_n 2, 1) := by decide +kernel
theorem d1_11 : decode prog_49_method_1_code 11 = .ok (.putfield 13, 3) := by decide +kernel
theorem d1_14 : decode prog_49_method_1_code 14 = .ok (.return_, 1) := by decide +kernel
theorem pn_com_example_cranfield_cranfield_measures_RankedQuery : plainName "com/example/cranfield/cranfield/measures/RankedQuery" = true := by first | (simp [plainName, overriddenIn]; done) | decide +kernel
def Q1 (Z : State) (p0 : Addr) (p1 : Addr) (p2 : Addr) (h0 : Heap) (n0 : Nat) (v : Option Value) (h : Heap) (L : List Loc) : Prop := v = none ∧ Fr n0 L ∧ Keep h0 h [p0] ∧ Exa Z h p0 "com/example/cranfield/cranfield/measures/RankedQuery" ∧ Fld Z h p0 "com/example/cranfield/cranfield/measures/RankedQuery" "ranked" "[I" (.ref p1) ∧ Fld Z h p0 "com/example/cranfield/cranfield/measures/RankedQuery" "ideal" "[I" (.ref p2)
set_option maxRecDepth 65536 in
set_option maxHeartbeats 40000000 in
theorem rm1 (l : Launch) (Z : State) (a0 : Array Value) (hw : ∀ d ∈ tables_1, d.before a0 Z = true) (ws : List Jvm.Cond) (p0 : Addr) (p1 : Addr) (p2 : Addr) (h0 : Heap) (n0 : Nat) (Z0 : n0 ≤ h0.size) (E0 : Exa Z h0 p0 "com/example/cranfield/cranfield/measures/RankedQuery") (F0a : Fld Z h0 p0 "com/example/cranfield/cranfield/measures/RankedQuery" "ranked" "[I" .null) (F0b : Fld Z h0 p0 "com/example/cranfield/cranfield/measures/RankedQuery" "ideal" "[I" .null) (hge : n0 ≤ p0) :
    MetFree l (⟨"com/example/cranfield/cranfield/measures/RankedQuery", "<init>", "([I[I)V"⟩ : MethodName) (head1 (Jvm.Cond.code (⟨"com/example/cranfield/cranfield/measures/RankedQuery", "<init>", "([I[I)V"⟩ : MethodName) prog_49_method_1_code 3 none :: ws) ({ frames := 1, cells := 0, slots := 0, locals := 12 } : Room)) (fun a U => a = #[(.ref p0), (.ref p1), (.ref p2)] ∧ Z.Warmed39 U.vm ∧ U.heap = h0) (fun _ _ _ _ _ => True) (fun _ U o U' => ∃ v L, o = .returned v ∧ Q1 Z p0 p1 p2 h0 n0 v U'.heap L ∧ FrameEnd U o U' L ({ frames := 1, cells := 0, slots := 0, locals := 12 } : Room).cells ({ frames := 1, cells := 0, slots := 0, locals := 12 } : Room).slots) := by
  refine W.bodyOf (y := (⟨"com/example/cranfield/cranfield/measures/RankedQuery", "<init>", "([I[I)V"⟩ : MethodName)) (as := #[(.ref p0), (.ref p1), (.ref p2)]) (maxL := 3) (Q := Q1 Z p0 p1 p2 h0 n0) (Ls := #[.val (.ref p0), .val (.ref p1), .val (.ref p2)]) (plainFor_of_name pn_com_example_cranfield_cranfield_measures_RankedQuery) (fun m => by first | rfl | (simp [entryFrame, mkF, argsToLocals, Value.category]; done)) ?_
  intro p e s m below meth c T0 C X0 e0
  have N0 := Fr.nil n0
  have K0 := Keep.refl h0 [p0]
  refine W.aloadN (q := 1) X0 C d1_0 rfl rfl rfl ?_
  refine W.initObj (q := 4) X0 C (W.ww hw 8 rfl) (W.ww hw 9 rfl) (W.ww hw 10 rfl) e0 d1_1 rfl (by decide) (Nat.le_of_ble_eq_true rfl) rfl (fun T1 X1 e1 => ?_)
  refine W.aloadN (q := 5) X1 C d1_4 rfl rfl rfl ?_
  refine W.aloadN (q := 6) X1 C d1_5 rfl rfl rfl ?_
  refine W.putF (host := "") (q := 9) X1 C (Or.inl (W.ww hw 11 rfl)) Via.refl e1 F0a E0 (Or.inr ⟨(W.ww hw 12 rfl), rfl, rfl⟩) (W.ww hw 3 rfl) (ty := (.array .int)) (by decide) rfl rfl d1_6 rfl (fun T2 h2 X2 e2 W2 => ?_)
  have Fw2 := F0a.same W2
  have E0_3 := E0.wr W2
  have F0b_3 := F0b.other W2 (Or.inr (slot_ne (Or.inr (W.ww hw 14 rfl)) (Or.inr (W.ww hw 12 rfl)) (by decide) (t := (.array .int)) (t' := (.array .int)) (by decide) (by decide)))
  have N2 := Fr.snoc X2 N0 hge
  have K2 := K0.wr W2 (Or.inl (by simp))
  have n0_2 : n0 ≤ h2.size := by rw [W2.size]; exact Z0
  refine W.aloadN (q := 10) X2 C d1_9 rfl rfl rfl ?_
  refine W.aloadN (q := 11) X2 C d1_10 rfl rfl rfl ?_
  refine W.putF (host := "") (q := 14) X2 C (Or.inl (W.ww hw 13 rfl)) Via.refl e2 F0b_3 E0_3 (Or.inr ⟨(W.ww hw 14 rfl), rfl, rfl⟩) (W.ww hw 3 rfl) (ty := (.array .int)) (by decide) rfl rfl d1_11 rfl (fun T4 h4 X4 e4 W4 => ?_)
  have Fw4 := F0b_3.same W4
  have E0_5 := E0_3.wr W4
  have Fw2_5 := Fw2.other W4 (Or.inr (slot_ne (Or.inr (W.ww hw 12 rfl)) (Or.inr (W.ww hw 14 rfl)) (by decide) (t := (.array .int)) (t' := (.array .int)) (by decide) (by decide)))
  have N4 := Fr.snoc X4 N2 hge
  have K4 := K2.wr W4 (Or.inl (by simp))
  have n0_4 : n0 ≤ h4.size := by rw [W4.size]; exact n0_2
  exact W.retV X4 C e4 d1_14 (by decide) (by decide) ⟨rfl, N4, K4, E0_5, Fw2_5, Fw4⟩
def own_rr (l : List Int32) : UInt64 := match l with | [] => 0 | a :: l1 => if 0 < a.toInt then 4607182418800017408 else match l1 with | [] => 0 | b :: l2 => if 0 < b.toInt then 4602678819172646912 else match l2 with | [] => 0 | c :: l3 => if 0 < c.toInt then 4599676419421066581 else match l3 with | [] => 0 | d :: _ => if 0 < d.toInt then 4598175219545276416 else 0
theorem d3_0 : decode prog_49_method_5_code 0 = .ok (.iconst 0, 1) := by decide +kernel
theorem d3_1 : decode prog_49_method_5_code 1 = .ok (.istore_n 1, 1) := by decide +kernel
theorem d3_2 : decode prog_49_method_5_code 2 = .ok (.iload_n 1, 1) := by decide +kernel
theorem d3_3 : decode prog_49_method_5_code 3 = .ok (.aload_n 0, 1) := by decide +kernel
theorem d3_4 : decode prog_49_method_5_code 4 = .ok (.getfield 7, 3) := by decide +kernel
theorem d3_7 : decode prog_49_method_5_code 7 = .ok (.arraylength, 1) := by decide +kernel
theorem d3_8 : decode prog_49_method_5_code 8 = .ok (.if_icmp .ge 25, 3) := by decide +kernel
theorem d3_33 : decode prog_49_method_5_code 33 = .ok (.dconst 0, 1) := by decide +kernel
theorem d3_34 : decode prog_49_method_5_code 34 = .ok (.dreturn, 1) := by decide +kernel
theorem own_le {x : Int32} (h : x.toInt ≤ (0 : Int32).toInt) : ¬ 0 < x.toInt := by have : (0 : Int32).toInt = 0 := rfl; omega
theorem own_lt {x : Int32} (h : (0 : Int32).toInt < x.toInt) : 0 < x.toInt := h
def Q3_0 (Z : State) (p0 : Addr) (ra : Addr) (k0 : ClassId) (h0 : Heap) (n0 : Nat) (v : Option Value) (h : Heap) (L : List Loc) : Prop := v = some (.double (own_rr [])) ∧ Fr n0 L ∧ h = h0
set_option maxRecDepth 65536 in
set_option maxHeartbeats 40000000 in
theorem rm3_0 (l : Launch) (Z : State) (a0 : Array Value) (hw : ∀ d ∈ tables_1, d.before a0 Z = true) (ws : List Jvm.Cond) (p0 : Addr) (ra : Addr) (k0 : ClassId) (h0 : Heap) (n0 : Nat) (F0 : Fld Z h0 p0 "com/example/cranfield/cranfield/measures/RankedQuery" "ranked" "[I" (.ref ra)) (V0 : Arv Z h0 ra k0 .int (0 : Int32) [] (.int (0 : Int32))) :
    MetFree l (⟨"com/example/cranfield/cranfield/measures/RankedQuery", "reciprocalRank", "()D"⟩ : MethodName) (head1 (Jvm.Cond.code (⟨"com/example/cranfield/cranfield/measures/RankedQuery", "reciprocalRank", "()D"⟩ : MethodName) prog_49_method_5_code 2 (some .double) :: ws) ({ frames := 0, cells := 0, slots := 0, locals := 0 } : Room)) (fun a U => a = #[(.ref p0)] ∧ Z.Warmed39 U.vm ∧ U.heap = h0) (fun _ _ _ _ _ => True) (fun _ U o U' => ∃ v L, o = .returned v ∧ Q3_0 Z p0 ra k0 h0 n0 v U'.heap L ∧ FrameEnd U o U' L ({ frames := 0, cells := 0, slots := 0, locals := 0 } : Room).cells ({ frames := 0, cells := 0, slots := 0, locals := 0 } : Room).slots) := by
  refine W.bodyOf (y := (⟨"com/example/cranfield/cranfield/measures/RankedQuery", "reciprocalRank", "()D"⟩ : MethodName)) (as := #[(.ref p0)]) (maxL := 2) (Q := Q3_0 Z p0 ra k0 h0 n0) (Ls := #[.val (.ref p0), .unset]) (plainFor_of_name pn_com_example_cranfield_cranfield_measures_RankedQuery) (fun m => by first | rfl | (simp [entryFrame, mkF, argsToLocals, Value.category]; done)) ?_
  intro p e s m below meth c T0 C X0 e0
  have N0 := Fr.nil n0
  refine W.iconst (q := 1) (v := 0) X0 C d3_0 rfl rfl ?_
  refine W.istoreN (q := 2) (L' := #[.val (.ref p0), .val (.int (0 : Int32))]) X0 C d3_1 rfl rfl ?_
  refine W.iloadN (q := 3) X0 C d3_2 rfl rfl ?_
  refine W.aloadN (q := 4) X0 C d3_3 rfl rfl rfl ?_
  refine W.getF (host := "") (q := 7) X0 C (Or.inl (W.ww hw 11 rfl)) Via.refl e0 F0 d3_4 rfl (fun T6 X6 e6 => ?_)
  refine W.arraylength (q := 8) X6 C e6 V0 d3_7 rfl ?_
  refine W.icmpT (q := 33) X6 C d3_8 (by decide) (by decide) (by decide : W.cT .ge (0 : Int32) (0 : Int32)) ?_
  refine W.dconst0 (q := 34) (v := 0) X6 C d3_33 rfl rfl ?_
  exact W.retD X6 C e6 d3_34 (by decide) (by decide) ⟨by simp [own_rr], N0, rfl⟩
theorem d3_11 : decode prog_49_method_5_code 11 = .ok (.aload_n 0, 1) := by decide +kernel
theorem d3_12 : decode prog_49_method_5_code 12 = .ok (.getfield 7, 3) := by decide +kernel
theorem d3_15 : decode prog_49_method_5_code 15 = .ok (.iload_n 1, 1) := by decide +kernel
theorem d3_16 : decode prog_49_method_5_code 16 = .ok (.iaload, 1) := by decide +kernel
theorem d3_17 : decode prog_49_method_5_code 17 = .ok (.ifCond .le 10, 3) := by decide +kernel
theorem d3_27 : decode prog_49_method_5_code 27 = .ok (.iinc 1 1, 3) := by decide +kernel
theorem d3_30 : decode prog_49_method_5_code 30 = .ok (.goto (-28), 3) := by decide +kernel
theorem d3_20 : decode prog_49_method_5_code 20 = .ok (.dconst 1, 1) := by decide +kernel
theorem d3_21 : decode prog_49_method_5_code 21 = .ok (.iload_n 1, 1) := by decide +kernel
theorem d3_22 : decode prog_49_method_5_code 22 = .ok (.iconst 1, 1) := by decide +kernel
theorem d3_23 : decode prog_49_method_5_code 23 = .ok (.iadd, 1) := by decide +kernel
theorem d3_24 : decode prog_49_method_5_code 24 = .ok (.i2d, 1) := by decide +kernel
theorem d3_25 : decode prog_49_method_5_code 25 = .ok (.ddiv, 1) := by decide +kernel
theorem d3_26 : decode prog_49_method_5_code 26 = .ok (.dreturn, 1) := by decide +kernel
def Q3_1 (Z : State) (p0 : Addr) (ra : Addr) (k0 : ClassId) (x0 : Int32) (h0 : Heap) (n0 : Nat) (v : Option Value) (h : Heap) (L : List Loc) : Prop := v = some (.double (own_rr [x0])) ∧ Fr n0 L ∧ h = h0
set_option maxRecDepth 65536 in
set_option maxHeartbeats 40000000 in
theorem rm3_1 (l : Launch) (Z : State) (a0 : Array Value) (hw : ∀ d ∈ tables_1, d.before a0 Z = true) (ws : List Jvm.Cond) (p0 : Addr) (ra : Addr) (k0 : ClassId) (x0 : Int32) (h0 : Heap) (n0 : Nat) (F0 : Fld Z h0 p0 "com/example/cranfield/cranfield/measures/RankedQuery" "ranked" "[I" (.ref ra)) (V0 : Arv Z h0 ra k0 .int (1 : Int32) [(.int x0)] (.int (0 : Int32))) :
    MetFree l (⟨"com/example/cranfield/cranfield/measures/RankedQuery", "reciprocalRank", "()D"⟩ : MethodName) (head1 (Jvm.Cond.code (⟨"com/example/cranfield/cranfield/measures/RankedQuery", "reciprocalRank", "()D"⟩ : MethodName) prog_49_method_5_code 2 (some .double) :: ws) ({ frames := 0, cells := 0, slots := 0, locals := 0 } : Room)) (fun a U => a = #[(.ref p0)] ∧ Z.Warmed39 U.vm ∧ U.heap = h0) (fun _ _ _ _ _ => True) (fun _ U o U' => ∃ v L, o = .returned v ∧ Q3_1 Z p0 ra k0 x0 h0 n0 v U'.heap L ∧ FrameEnd U o U' L ({ frames := 0, cells := 0, slots := 0, locals := 0 } : Room).cells ({ frames := 0, cells := 0, slots := 0, locals := 0 } : Room).slots) := by
  refine W.bodyOf (y := (⟨"com/example/cranfield/cranfield/measures/RankedQuery", "reciprocalRank", "()D"⟩ : MethodName)) (as := #[(.ref p0)]) (maxL := 2) (Q := Q3_1 Z p0 ra k0 x0 h0 n0) (Ls := #[.val (.ref p0), .unset]) (plainFor_of_name pn_com_example_cranfield_cranfield_measures_RankedQuery) (fun m => by first | rfl | (simp [entryFrame, mkF, argsToLocals, Value.category]; done)) ?_
  intro p e s m below meth c T0 C X0 e0
  have N0 := Fr.nil n0
  refine W.iconst (q := 1) (v := 0) X0 C d3_0 rfl rfl ?_
  refine W.istoreN (q := 2) (L' := #[.val (.ref p0), .val (.int (0 : Int32))]) X0 C d3_1 rfl rfl ?_
  refine W.iloadN (q := 3) X0 C d3_2 rfl rfl ?_
  refine W.aloadN (q := 4) X0 C d3_3 rfl rfl rfl ?_
  refine W.getF (host := "") (q := 7) X0 C (Or.inl (W.ww hw 11 rfl)) Via.refl e0 F0 d3_4 rfl (fun T7 X7 e7 => ?_)
  refine W.arraylength (q := 8) X7 C e7 V0 d3_7 rfl ?_
  refine W.icmpF (q := 11) X7 C d3_8 rfl (by decide : W.cF .ge (0 : Int32) (1 : Int32)) ?_
  refine W.aloadN (q := 12) X7 C d3_11 rfl rfl rfl ?_
  refine W.getF (host := "") (q := 15) X7 C (Or.inl (W.ww hw 11 rfl)) Via.refl e7 F0 d3_12 rfl (fun T8 X8 e8 => ?_)
  refine W.iloadN (q := 16) X8 C d3_15 rfl rfl ?_
  refine W.iaload (q := 17) X8 C e8 V0 (by decide) (by decide) rfl d3_16 rfl ?_
  refine W.if_ (q := 27) (q' := 20) X8 C d3_17 (by decide) (by decide) rfl (fun hc9 => ?_) (fun hc9 => ?_)
  · replace hc9 : x0.toInt ≤ (0 : Int32).toInt := hc9
    refine W.iinc (q := 30) (L' := #[.val (.ref p0), .val (.int (1 : Int32))]) X8 C d3_27 rfl (by decide) rfl rfl ?_
    refine W.goto (q := 2) X8 C d3_30 (by decide) (by decide) ?_
    refine W.iloadN (q := 3) X8 C d3_2 rfl rfl ?_
    refine W.aloadN (q := 4) X8 C d3_3 rfl rfl rfl ?_
    refine W.getF (host := "") (q := 7) X8 C (Or.inl (W.ww hw 11 rfl)) Via.refl e8 F0 d3_4 rfl (fun T10 X10 e10 => ?_)
    refine W.arraylength (q := 8) X10 C e10 V0 d3_7 rfl ?_
    refine W.icmpT (q := 33) X10 C d3_8 (by decide) (by decide) (by decide : W.cT .ge (1 : Int32) (1 : Int32)) ?_
    refine W.dconst0 (q := 34) (v := 0) X10 C d3_33 rfl rfl ?_
    exact W.retD X10 C e10 d3_34 (by decide) (by decide) ⟨by simp [own_rr, own_le hc9], N0, rfl⟩
  · replace hc9 : (0 : Int32).toInt < x0.toInt := hc9
    refine W.dconst1 (q := 21) (v := 4607182418800017408) X8 C d3_20 rfl rfl ?_
    refine W.iloadN (q := 22) X8 C d3_21 rfl rfl ?_
    refine W.iconst (q := 23) (v := 1) X8 C d3_22 rfl rfl ?_
    refine W.iadd (q := 24) X8 C d3_23 rfl ?_
    rw [show ((0 : Int32) + (1 : Int32)) = (1 : Int32) by decide]
    refine W.i2d (q := 25) (v := 4607182418800017408) X8 C d3_24 (by decide +kernel) rfl ?_
    refine W.ddiv (q := 26) (v := 4607182418800017408) X8 C d3_25 (by decide +kernel) (by decide +kernel) rfl ?_
    exact W.retD X8 C e8 d3_26 (by decide) (by decide) ⟨by simp [own_rr, own_lt hc9], N0, rfl⟩
def Q3_2 (Z : State) (p0 : Addr) (ra : Addr) (k0 : ClassId) (x0 : Int32) (x1 : Int32) (h0 : Heap) (n0 : Nat) (v : Option Value) (h : Heap) (L : List Loc) : Prop := v = some (.double (own_rr [x0, x1])) ∧ Fr n0 L ∧ h = h0
set_option maxRecDepth 65536 in
set_option maxHeartbeats 40000000 in
theorem rm3_2 (l : Launch) (Z : State) (a0 : Array Value) (hw : ∀ d ∈ tables_1, d.before a0 Z = true) (ws : List Jvm.Cond) (p0 : Addr) (ra : Addr) (k0 : ClassId) (x0 : Int32) (x1 : Int32) (h0 : Heap) (n0 : Nat) (F0 : Fld Z h0 p0 "com/example/cranfield/cranfield/measures/RankedQuery" "ranked" "[I" (.ref ra)) (V0 : Arv Z h0 ra k0 .int (2 : Int32) [(.int x0), (.int x1)] (.int (0 : Int32))) :
    MetFree l (⟨"com/example/cranfield/cranfield/measures/RankedQuery", "reciprocalRank", "()D"⟩ : MethodName) (head1 (Jvm.Cond.code (⟨"com/example/cranfield/cranfield/measures/RankedQuery", "reciprocalRank", "()D"⟩ : MethodName) prog_49_method_5_code 2 (some .double) :: ws) ({ frames := 0, cells := 0, slots := 0, locals := 0 } : Room)) (fun a U => a = #[(.ref p0)] ∧ Z.Warmed39 U.vm ∧ U.heap = h0) (fun _ _ _ _ _ => True) (fun _ U o U' => ∃ v L, o = .returned v ∧ Q3_2 Z p0 ra k0 x0 x1 h0 n0 v U'.heap L ∧ FrameEnd U o U' L ({ frames := 0, cells := 0, slots := 0, locals := 0 } : Room).cells ({ frames := 0, cells := 0, slots := 0, locals := 0 } : Room).slots) := by
  refine W.bodyOf (y := (⟨"com/example/cranfield/cranfield/measures/RankedQuery", "reciprocalRank", "()D"⟩ : MethodName)) (as := #[(.ref p0)]) (maxL := 2) (Q := Q3_2 Z p0 ra k0 x0 x1 h0 n0) (Ls := #[.val (.ref p0), .unset]) (plainFor_of_name pn_com_example_cranfield_cranfield_measures_RankedQuery) (fun m => by first | rfl | (simp [entryFrame, mkF, argsToLocals, Value.category]; done)) ?_
  intro p e s m below meth c T0 C X0 e0
  have N0 := Fr.nil n0
  refine W.iconst (q := 1) (v := 0) X0 C d3_0 rfl rfl ?_
  refine W.istoreN (q := 2) (L' := #[.val (.ref p0), .val (.int (0 : Int32))]) X0 C d3_1 rfl rfl ?_
  refine W.iloadN (q := 3) X0 C d3_2 rfl rfl ?_
  refine W.aloadN (q := 4) X0 C d3_3 rfl rfl rfl ?_
  refine W.getF (host := "") (q := 7) X0 C (Or.inl (W.ww hw 11 rfl)) Via.refl e0 F0 d3_4 rfl (fun T11 X11 e11 => ?_)
  refine W.arraylength (q := 8) X11 C e11 V0 d3_7 rfl ?_
  refine W.icmpF (q := 11) X11 C d3_8 rfl (by decide : W.cF .ge (0 : Int32) (2 : Int32)) ?_
  refine W.aloadN (q := 12) X11 C d3_11 rfl rfl rfl ?_
  refine W.getF (host := "") (q := 15) X11 C (Or.inl (W.ww hw 11 rfl)) Via.refl e11 F0 d3_12 rfl (fun T12 X12 e12 => ?_)
  refine W.iloadN (q := 16) X12 C d3_15 rfl rfl ?_
  refine W.iaload (q := 17) X12 C e12 V0 (by decide) (by decide) rfl d3_16 rfl ?_
  refine W.if_ (q := 27) (q' := 20) X12 C d3_17 (by decide) (by decide) rfl (fun hc13 => ?_) (fun hc13 => ?_)
  · replace hc13 : x0.toInt ≤ (0 : Int32).toInt := hc13
    refine W.iinc (q := 30) (L' := #[.val (.ref p0), .val (.int (1 : Int32))]) X12 C d3_27 rfl (by decide) rfl rfl ?_
    refine W.goto (q := 2) X12 C d3_30 (by decide) (by decide) ?_
    refine W.iloadN (q := 3) X12 C d3_2 rfl rfl ?_
    refine W.aloadN (q := 4) X12 C d3_3 rfl rfl rfl ?_
    refine W.getF (host := "") (q := 7) X12 C (Or.inl (W.ww hw 11 rfl)) Via.refl e12 F0 d3_4 rfl (fun T14 X14 e14 => ?_)
    refine W.arraylength (q := 8) X14 C e14 V0 d3_7 rfl ?_
    refine W.icmpF (q := 11) X14 C d3_8 rfl (by decide : W.cF .ge (1 : Int32) (2 : Int32)) ?_
    refine W.aloadN (q := 12) X14 C d3_11 rfl rfl rfl ?_
    refine W.getF (host := "") (q := 15) X14 C (Or.inl (W.ww hw 11 rfl)) Via.refl e14 F0 d3_12 rfl (fun T15 X15 e15 => ?_)
    refine W.iloadN (q := 16) X15 C d3_15 rfl rfl ?_
    refine W.iaload (q := 17) X15 C e15 V0 (by decide) (by decide) rfl d3_16 rfl ?_
    refine W.if_ (q := 27) (q' := 20) X15 C d3_17 (by decide) (by decide) rfl (fun hc16 => ?_) (fun hc16 => ?_)
    · replace hc16 : x1.toInt ≤ (0 : Int32).toInt := hc16
      refine W.iinc (q := 30) (L' := #[.val (.ref p0), .val (.int (2 : Int32))]) X15 C d3_27 rfl (by decide) rfl rfl ?_
      refine W.goto (q := 2) X15 C d3_30 (by decide) (by decide) ?_
      refine W.iloadN (q := 3) X15 C d3_2 rfl rfl ?_
      refine W.aloadN (q := 4) X15 C d3_3 rfl rfl rfl ?_
      refine W.getF (host := "") (q := 7) X15 C (Or.inl (W.ww hw 11 rfl)) Via.refl e15 F0 d3_4 rfl (fun T17 X17 e17 => ?_)
      refine W.arraylength (q := 8) X17 C e17 V0 d3_7 rfl ?_
      refine W.icmpT (q := 33) X17 C d3_8 (by decide) (by decide) (by decide : W.cT .ge (2 : Int32) (2 : Int32)) ?_
      refine W.dconst0 (q := 34) (v := 0) X17 C d3_33 rfl rfl ?_
      exact W.retD X17 C e17 d3_34 (by decide) (by decide) ⟨by simp [own_rr, own_le hc13, own_le hc16], N0, rfl⟩
    · replace hc16 : (0 : Int32).toInt < x1.toInt := hc16
      refine W.dconst1 (q := 21) (v := 4607182418800017408) X15 C d3_20 rfl rfl ?_
      refine W.iloadN (q := 22) X15 C d3_21 rfl rfl ?_
      refine W.iconst (q := 23) (v := 1) X15 C d3_22 rfl rfl ?_
      refine W.iadd (q := 24) X15 C d3_23 rfl ?_
      rw [show ((1 : Int32) + (1 : Int32)) = (2 : Int32) by decide]
      refine W.i2d (q := 25) (v := 4611686018427387904) X15 C d3_24 (by decide +kernel) rfl ?_
      refine W.ddiv (q := 26) (v := 4602678819172646912) X15 C d3_25 (by decide +kernel) (by decide +kernel) rfl ?_
      exact W.retD X15 C e15 d3_26 (by decide) (by decide) ⟨by simp [own_rr, own_le hc13, own_lt hc16], N0, rfl⟩
  · replace hc13 : (0 : Int32).toInt < x0.toInt := hc13
    refine W.dconst1 (q := 21) (v := 4607182418800017408) X12 C d3_20 rfl rfl ?_
    refine W.iloadN (q := 22) X12 C d3_21 rfl rfl ?_
    refine W.iconst (q := 23) (v := 1) X12 C d3_22 rfl rfl ?_
    refine W.iadd (q := 24) X12 C d3_23 rfl ?_
    rw [show ((0 : Int32) + (1 : Int32)) = (1 : Int32) by decide]
    refine W.i2d (q := 25) (v := 4607182418800017408) X12 C d3_24 (by decide +kernel) rfl ?_
    refine W.ddiv (q := 26) (v := 4607182418800017408) X12 C d3_25 (by decide +kernel) (by decide +kernel) rfl ?_
    exact W.retD X12 C e12 d3_26 (by decide) (by decide) ⟨by simp [own_rr, own_lt hc13], N0, rfl⟩
def Q3_3 (Z : State) (p0 : Addr) (ra : Addr) (k0 : ClassId) (x0 : Int32) (x1 : Int32) (x2 : Int32) (h0 : Heap) (n0 : Nat) (v : Option Value) (h : Heap) (L : List Loc) : Prop := v = some (.double (own_rr [x0, x1, x2])) ∧ Fr n0 L ∧ h = h0
set_option maxRecDepth 65536 in
set_option maxHeartbeats 40000000 in
theorem rm3_3 (l : Launch) (Z : State) (a0 : Array Value) (hw : ∀ d ∈ tables_1, d.before a0 Z = true) (ws : List Jvm.Cond) (p0 : Addr) (ra : Addr) (k0 : ClassId) (x0 : Int32) (x1 : Int32) (x2 : Int32) (h0 : Heap) (n0 : Nat) (F0 : Fld Z h0 p0 "com/example/cranfield/cranfield/measures/RankedQuery" "ranked" "[I" (.ref ra)) (V0 : Arv Z h0 ra k0 .int (3 : Int32) [(.int x0), (.int x1), (.int x2)] (.int (0 : Int32))) :
    MetFree l (⟨"com/example/cranfield/cranfield/measures/RankedQuery", "reciprocalRank", "()D"⟩ : MethodName) (head1 (Jvm.Cond.code (⟨"com/example/cranfield/cranfield/measures/RankedQuery", "reciprocalRank", "()D"⟩ : MethodName) prog_49_method_5_code 2 (some .double) :: ws) ({ frames := 0, cells := 0, slots := 0, locals := 0 } : Room)) (fun a U => a = #[(.ref p0)] ∧ Z.Warmed39 U.vm ∧ U.heap = h0) (fun _ _ _ _ _ => True) (fun _ U o U' => ∃ v L, o = .returned v ∧ Q3_3 Z p0 ra k0 x0 x1 x2 h0 n0 v U'.heap L ∧ FrameEnd U o U' L ({ frames := 0, cells := 0, slots := 0, locals := 0 } : Room).cells ({ frames := 0, cells := 0, slots := 0, locals := 0 } : Room).slots) := by
  refine W.bodyOf (y := (⟨"com/example/cranfield/cranfield/measures/RankedQuery", "reciprocalRank", "()D"⟩ : MethodName)) (as := #[(.ref p0)]) (maxL := 2) (Q := Q3_3 Z p0 ra k0 x0 x1 x2 h0 n0) (Ls := #[.val (.ref p0), .unset]) (plainFor_of_name pn_com_example_cranfield_cranfield_measures_RankedQuery) (fun m => by first | rfl | (simp [entryFrame, mkF, argsToLocals, Value.category]; done)) ?_
  intro p e s m below meth c T0 C X0 e0
  have N0 := Fr.nil n0
  refine W.iconst (q := 1) (v := 0) X0 C d3_0 rfl rfl ?_
  refine W.istoreN (q := 2) (L' := #[.val (.ref p0), .val (.int (0 : Int32))]) X0 C d3_1 rfl rfl ?_
  refine W.iloadN (q := 3) X0 C d3_2 rfl rfl ?_
  refine W.aloadN (q := 4) X0 C d3_3 rfl rfl rfl ?_
  refine W.getF (host := "") (q := 7) X0 C (Or.inl (W.ww hw 11 rfl)) Via.refl e0 F0 d3_4 rfl (fun T18 X18 e18 => ?_)
  refine W.arraylength (q := 8) X18 C e18 V0 d3_7 rfl ?_
  refine W.icmpF (q := 11) X18 C d3_8 rfl (by decide : W.cF .ge (0 : Int32) (3 : Int32)) ?_
  refine W.aloadN (q := 12) X18 C d3_11 rfl rfl rfl ?_
  refine W.getF (host := "") (q := 15) X18 C (Or.inl (W.ww hw 11 rfl)) Via.refl e18 F0 d3_12 rfl (fun T19 X19 e19 => ?_)
  refine W.iloadN (q := 16) X19 C d3_15 rfl rfl ?_
  refine W.iaload (q := 17) X19 C e19 V0 (by decide) (by decide) rfl d3_16 rfl ?_
  refine W.if_ (q := 27) (q' := 20) X19 C d3_17 (by decide) (by decide) rfl (fun hc20 => ?_) (fun hc20 => ?_)
  · replace hc20 : x0.toInt ≤ (0 : Int32).toInt := hc20
    refine W.iinc (q := 30) (L' := #[.val (.ref p0), .val (.int (1 : Int32))]) X19 C d3_27 rfl (by decide) rfl rfl ?_
    refine W.goto (q := 2) X19 C d3_30 (by decide) (by decide) ?_
    refine W.iloadN (q := 3) X19 C d3_2 rfl rfl ?_
    refine W.aloadN (q := 4) X19 C d3_3 rfl rfl rfl ?_
    refine W.getF (host := "") (q := 7) X19 C (Or.inl (W.ww hw 11 rfl)) Via.refl e19 F0 d3_4 rfl (fun T21 X21 e21 => ?_)
    refine W.arraylength (q := 8) X21 C e21 V0 d3_7 rfl ?_
    refine W.icmpF (q := 11) X21 C d3_8 rfl (by decide : W.cF .ge (1 : Int32) (3 : Int32)) ?_
    refine W.aloadN (q := 12) X21 C d3_11 rfl rfl rfl ?_
    refine W.getF (host := "") (q := 15) X21 C (Or.inl (W.ww hw 11 rfl)) Via.refl e21 F0 d3_12 rfl (fun T22 X22 e22 => ?_)
    refine W.iloadN (q := 16) X22 C d3_15 rfl rfl ?_
    refine W.iaload (q := 17) X22 C e22 V0 (by decide) (by decide) rfl d3_16 rfl ?_
    refine W.if_ (q := 27) (q' := 20) X22 C d3_17 (by decide) (by decide) rfl (fun hc23 => ?_) (fun hc23 => ?_)
    · replace hc23 : x1.toInt ≤ (0 : Int32).toInt := hc23
      refine W.iinc (q := 30) (L' := #[.val (.ref p0), .val (.int (2 : Int32))]) X22 C d3_27 rfl (by decide) rfl rfl ?_
      refine W.goto (q := 2) X22 C d3_30 (by decide) (by decide) ?_
      refine W.iloadN (q := 3) X22 C d3_2 rfl rfl ?_
      refine W.aloadN (q := 4) X22 C d3_3 rfl rfl rfl ?_
      refine W.getF (host := "") (q := 7) X22 C (Or.inl (W.ww hw 11 rfl)) Via.refl e22 F0 d3_4 rfl (fun T24 X24 e24 => ?_)
      refine W.arraylength (q := 8) X24 C e24 V0 d3_7 rfl ?_
      refine W.icmpF (q := 11) X24 C d3_8 rfl (by decide : W.cF .ge (2 : Int32) (3 : Int32)) ?_
      refine W.aloadN (q := 12) X24 C d3_11 rfl rfl rfl ?_
      refine W.getF (host := "") (q := 15) X24 C (Or.inl (W.ww hw 11 rfl)) Via.refl e24 F0 d3_12 rfl (fun T25 X25 e25 => ?_)
      refine W.iloadN (q := 16) X25 C d3_15 rfl rfl ?_
      refine W.iaload (q := 17) X25 C e25 V0 (by decide) (by decide) rfl d3_16 rfl ?_
      refine W.if_ (q := 27) (q' := 20) X25 C d3_17 (by decide) (by decide) rfl (fun hc26 => ?_) (fun hc26 => ?_)
      · replace hc26 : x2.toInt ≤ (0 : Int32).toInt := hc26
        refine W.iinc (q := 30) (L' := #[.val (.ref p0), .val (.int (3 : Int32))]) X25 C d3_27 rfl (by decide) rfl rfl ?_
        refine W.goto (q := 2) X25 C d3_30 (by decide) (by decide) ?_
        refine W.iloadN (q := 3) X25 C d3_2 rfl rfl ?_
        refine W.aloadN (q := 4) X25 C d3_3 rfl rfl rfl ?_
        refine W.getF (host := "") (q := 7) X25 C (Or.inl (W.ww hw 11 rfl)) Via.refl e25 F0 d3_4 rfl (fun T27 X27 e27 => ?_)
        refine W.arraylength (q := 8) X27 C e27 V0 d3_7 rfl ?_
        refine W.icmpT (q := 33) X27 C d3_8 (by decide) (by decide) (by decide : W.cT .ge (3 : Int32) (3 : Int32)) ?_
        refine W.dconst0 (q := 34) (v := 0) X27 C d3_33 rfl rfl ?_
        exact W.retD X27 C e27 d3_34 (by decide) (by decide) ⟨by simp [own_rr, own_le hc20, own_le hc23, own_le hc26], N0, rfl⟩
      · replace hc26 : (0 : Int32).toInt < x2.toInt := hc26
        refine W.dconst1 (q := 21) (v := 4607182418800017408) X25 C d3_20 rfl rfl ?_
        refine W.iloadN (q := 22) X25 C d3_21 rfl rfl ?_
        refine W.iconst (q := 23) (v := 1) X25 C d3_22 rfl rfl ?_
        refine W.iadd (q := 24) X25 C d3_23 rfl ?_
        rw [show ((2 : Int32) + (1 : Int32)) = (3 : Int32) by decide]
        refine W.i2d (q := 25) (v := 4613937818241073152) X25 C d3_24 (by decide +kernel) rfl ?_
        refine W.ddiv (q := 26) (v := 4599676419421066581) X25 C d3_25 (by decide +kernel) (by decide +kernel) rfl ?_
        exact W.retD X25 C e25 d3_26 (by decide) (by decide) ⟨by simp [own_rr, own_le hc20, own_le hc23, own_lt hc26], N0, rfl⟩
    · replace hc23 : (0 : Int32).toInt < x1.toInt := hc23
      refine W.dconst1 (q := 21) (v := 4607182418800017408) X22 C d3_20 rfl rfl ?_
      refine W.iloadN (q := 22) X22 C d3_21 rfl rfl ?_
      refine W.iconst (q := 23) (v := 1) X22 C d3_22 rfl rfl ?_
      refine W.iadd (q := 24) X22 C d3_23 rfl ?_
      rw [show ((1 : Int32) + (1 : Int32)) = (2 : Int32) by decide]
      refine W.i2d (q := 25) (v := 4611686018427387904) X22 C d3_24 (by decide +kernel) rfl ?_
      refine W.ddiv (q := 26) (v := 4602678819172646912) X22 C d3_25 (by decide +kernel) (by decide +kernel) rfl ?_
      exact W.retD X22 C e22 d3_26 (by decide) (by decide) ⟨by simp [own_rr, own_le hc20, own_lt hc23], N0, rfl⟩
  · replace hc20 : (0 : Int32).toInt < x0.toInt := hc20
    refine W.dconst1 (q := 21) (v := 4607182418800017408) X19 C d3_20 rfl rfl ?_
    refine W.iloadN (q := 22) X19 C d3_21 rfl rfl ?_
    refine W.iconst (q := 23) (v := 1) X19 C d3_22 rfl rfl ?_
    refine W.iadd (q := 24) X19 C d3_23 rfl ?_
    rw [show ((0 : Int32) + (1 : Int32)) = (1 : Int32) by decide]
    refine W.i2d (q := 25) (v := 4607182418800017408) X19 C d3_24 (by decide +kernel) rfl ?_
    refine W.ddiv (q := 26) (v := 4607182418800017408) X19 C d3_25 (by decide +kernel) (by decide +kernel) rfl ?_
    exact W.retD X19 C e19 d3_26 (by decide) (by decide) ⟨by simp [own_rr, own_lt hc20], N0, rfl⟩
def Q3_4 (Z : State) (p0 : Addr) (ra : Addr) (k0 : ClassId) (x0 : Int32) (x1 : Int32) (x2 : Int32) (x3 : Int32) (h0 : Heap) (n0 : Nat) (v : Option Value) (h : Heap) (L : List Loc) : Prop := v = some (.double (own_rr [x0, x1, x2, x3])) ∧ Fr n0 L ∧ h = h0
set_option maxRecDepth 65536 in
set_option maxHeartbeats 40000000 in
theorem rm3_4 (l : Launch) (Z : State) (a0 : Array Value) (hw : ∀ d ∈ tables_1, d.before a0 Z = true) (ws : List Jvm.Cond) (p0 : Addr) (ra : Addr) (k0 : ClassId) (x0 : Int32) (x1 : Int32) (x2 : Int32) (x3 : Int32) (h0 : Heap) (n0 : Nat) (F0 : Fld Z h0 p0 "com/example/cranfield/cranfield/measures/RankedQuery" "ranked" "[I" (.ref ra)) (V0 : Arv Z h0 ra k0 .int (4 : Int32) [(.int x0), (.int x1), (.int x2), (.int x3)] (.int (0 : Int32))) :
    MetFree l (⟨"com/example/cranfield/cranfield/measures/RankedQuery", "reciprocalRank", "()D"⟩ : MethodName) (head1 (Jvm.Cond.code (⟨"com/example/cranfield/cranfield/measures/RankedQuery", "reciprocalRank", "()D"⟩ : MethodName) prog_49_method_5_code 2 (some .double) :: ws) ({ frames := 0, cells := 0, slots := 0, locals := 0 } : Room)) (fun a U => a = #[(.ref p0)] ∧ Z.Warmed39 U.vm ∧ U.heap = h0) (fun _ _ _ _ _ => True) (fun _ U o U' => ∃ v L, o = .returned v ∧ Q3_4 Z p0 ra k0 x0 x1 x2 x3 h0 n0 v U'.heap L ∧ FrameEnd U o U' L ({ frames := 0, cells := 0, slots := 0, locals := 0 } : Room).cells ({ frames := 0, cells := 0, slots := 0, locals := 0 } : Room).slots) := by
  refine W.bodyOf (y := (⟨"com/example/cranfield/cranfield/measures/RankedQuery", "reciprocalRank", "()D"⟩ : MethodName)) (as := #[(.ref p0)]) (maxL := 2) (Q := Q3_4 Z p0 ra k0 x0 x1 x2 x3 h0 n0) (Ls := #[.val (.ref p0), .unset]) (plainFor_of_name pn_com_example_cranfield_cranfield_measures_RankedQuery) (fun m => by first | rfl | (simp [entryFrame, mkF, argsToLocals, Value.category]; done)) ?_
  intro p e s m below meth c T0 C X0 e0
  have N0 := Fr.nil n0
  refine W.iconst (q := 1) (v := 0) X0 C d3_0 rfl rfl ?_
  refine W.istoreN (q := 2) (L' := #[.val (.ref p0), .val (.int (0 : Int32))]) X0 C d3_1 rfl rfl ?_
  refine W.iloadN (q := 3) X0 C d3_2 rfl rfl ?_
  refine W.aloadN (q := 4) X0 C d3_3 rfl rfl rfl ?_
  refine W.getF (host := "") (q := 7) X0 C (Or.inl (W.ww hw 11 rfl)) Via.refl e0 F0 d3_4 rfl (fun T28 X28 e28 => ?_)
  refine W.arraylength (q := 8) X28 C e28 V0 d3_7 rfl ?_
  refine W.icmpF (q := 11) X28 C d3_8 rfl (by decide : W.cF .ge (0 : Int32) (4 : Int32)) ?_
  refine W.aloadN (q := 12) X28 C d3_11 rfl rfl rfl ?_
  refine W.getF (host := "") (q := 15) X28 C (Or.inl (W.ww hw 11 rfl)) Via.refl e28 F0 d3_12 rfl (fun T29 X29 e29 => ?_)
  refine W.iloadN (q := 16) X29 C d3_15 rfl rfl ?_
  refine W.iaload (q := 17) X29 C e29 V0 (by decide) (by decide) rfl d3_16 rfl ?_
  refine W.if_ (q := 27) (q' := 20) X29 C d3_17 (by decide) (by decide) rfl (fun hc30 => ?_) (fun hc30 => ?_)
  · replace hc30 : x0.toInt ≤ (0 : Int32).toInt := hc30
    refine W.iinc (q := 30) (L' := #[.val (.ref p0), .val (.int (1 : Int32))]) X29 C d3_27 rfl (by decide) rfl rfl ?_
    refine W.goto (q := 2) X29 C d3_30 (by decide) (by decide) ?_
    refine W.iloadN (q := 3) X29 C d3_2 rfl rfl ?_
    refine W.aloadN (q := 4) X29 C d3_3 rfl rfl rfl ?_
    refine W.getF (host := "") (q := 7) X29 C (Or.inl (W.ww hw 11 rfl)) Via.refl e29 F0 d3_4 rfl (fun T31 X31 e31 => ?_)
    refine W.arraylength (q := 8) X31 C e31 V0 d3_7 rfl ?_
    refine W.icmpF (q := 11) X31 C d3_8 rfl (by decide : W.cF .ge (1 : Int32) (4 : Int32)) ?_
    refine W.aloadN (q := 12) X31 C d3_11 rfl rfl rfl ?_
    refine W.getF (host := "") (q := 15) X31 C (Or.inl (W.ww hw 11 rfl)) Via.refl e31 F0 d3_12 rfl (fun T32 X32 e32 => ?_)
    refine W.iloadN (q := 16) X32 C d3_15 rfl rfl ?_
    refine W.iaload (q := 17) X32 C e32 V0 (by decide) (by decide) rfl d3_16 rfl ?_
    refine W.if_ (q := 27) (q' := 20) X32 C d3_17 (by decide) (by decide) rfl (fun hc33 => ?_) (fun hc33 => ?_)
    · replace hc33 : x1.toInt ≤ (0 : Int32).toInt := hc33
      refine W.iinc (q := 30) (L' := #[.val (.ref p0), .val (.int (2 : Int32))]) X32 C d3_27 rfl (by decide) rfl rfl ?_
      refine W.goto (q := 2) X32 C d3_30 (by decide) (by decide) ?_
      refine W.iloadN (q := 3) X32 C d3_2 rfl rfl ?_
      refine W.aloadN (q := 4) X32 C d3_3 rfl rfl rfl ?_
      refine W.getF (host := "") (q := 7) X32 C (Or.inl (W.ww hw 11 rfl)) Via.refl e32 F0 d3_4 rfl (fun T34 X34 e34 => ?_)
      refine W.arraylength (q := 8) X34 C e34 V0 d3_7 rfl ?_
      refine W.icmpF (q := 11) X34 C d3_8 rfl (by decide : W.cF .ge (2 : Int32) (4 : Int32)) ?_
      refine W.aloadN (q := 12) X34 C d3_11 rfl rfl rfl ?_
      refine W.getF (host := "") (q := 15) X34 C (Or.inl (W.ww hw 11 rfl)) Via.refl e34 F0 d3_12 rfl (fun T35 X35 e35 => ?_)
      refine W.iloadN (q := 16) X35 C d3_15 rfl rfl ?_
      refine W.iaload (q := 17) X35 C e35 V0 (by decide) (by decide) rfl d3_16 rfl ?_
      refine W.if_ (q := 27) (q' := 20) X35 C d3_17 (by decide) (by decide) rfl (fun hc36 => ?_) (fun hc36 => ?_)
      · replace hc36 : x2.toInt ≤ (0 : Int32).toInt := hc36
        refine W.iinc (q := 30) (L' := #[.val (.ref p0), .val (.int (3 : Int32))]) X35 C d3_27 rfl (by decide) rfl rfl ?_
        refine W.goto (q := 2) X35 C d3_30 (by decide) (by decide) ?_
        refine W.iloadN (q := 3) X35 C d3_2 rfl rfl ?_
        refine W.aloadN (q := 4) X35 C d3_3 rfl rfl rfl ?_
        refine W.getF (host := "") (q := 7) X35 C (Or.inl (W.ww hw 11 rfl)) Via.refl e35 F0 d3_4 rfl (fun T37 X37 e37 => ?_)
        refine W.arraylength (q := 8) X37 C e37 V0 d3_7 rfl ?_
        refine W.icmpF (q := 11) X37 C d3_8 rfl (by decide : W.cF .ge (3 : Int32) (4 : Int32)) ?_
        refine W.aloadN (q := 12) X37 C d3_11 rfl rfl rfl ?_
        refine W.getF (host := "") (q := 15) X37 C (Or.inl (W.ww hw 11 rfl)) Via.refl e37 F0 d3_12 rfl (fun T38 X38 e38 => ?_)
        refine W.iloadN (q := 16) X38 C d3_15 rfl rfl ?_
        refine W.iaload (q := 17) X38 C e38 V0 (by decide) (by decide) rfl d3_16 rfl ?_
        refine W.if_ (q := 27) (q' := 20) X38 C d3_17 (by decide) (by decide) rfl (fun hc39 => ?_) (fun hc39 => ?_)
        · replace hc39 : x3.toInt ≤ (0 : Int32).toInt := hc39
          refine W.iinc (q := 30) (L' := #[.val (.ref p0), .val (.int (4 : Int32))]) X38 C d3_27 rfl (by decide) rfl rfl ?_
          refine W.goto (q := 2) X38 C d3_30 (by decide) (by decide) ?_
          refine W.iloadN (q := 3) X38 C d3_2 rfl rfl ?_
          refine W.aloadN (q := 4) X38 C d3_3 rfl rfl rfl ?_
          refine W.getF (host := "") (q := 7) X38 C (Or.inl (W.ww hw 11 rfl)) Via.refl e38 F0 d3_4 rfl (fun T40 X40 e40 => ?_)
          refine W.arraylength (q := 8) X40 C e40 V0 d3_7 rfl ?_
          refine W.icmpT (q := 33) X40 C d3_8 (by decide) (by decide) (by decide : W.cT .ge (4 : Int32) (4 : Int32)) ?_
          refine W.dconst0 (q := 34) (v := 0) X40 C d3_33 rfl rfl ?_
          exact W.retD X40 C e40 d3_34 (by decide) (by decide) ⟨by simp [own_rr, own_le hc30, own_le hc33, own_le hc36, own_le hc39], N0, rfl⟩
        · replace hc39 : (0 : Int32).toInt < x3.toInt := hc39
          refine W.dconst1 (q := 21) (v := 4607182418800017408) X38 C d3_20 rfl rfl ?_
          refine W.iloadN (q := 22) X38 C d3_21 rfl rfl ?_
          refine W.iconst (q := 23) (v := 1) X38 C d3_22 rfl rfl ?_
          refine W.iadd (q := 24) X38 C d3_23 rfl ?_
          rw [show ((3 : Int32) + (1 : Int32)) = (4 : Int32) by decide]
          refine W.i2d (q := 25) (v := 4616189618054758400) X38 C d3_24 (by decide +kernel) rfl ?_
          refine W.ddiv (q := 26) (v := 4598175219545276416) X38 C d3_25 (by decide +kernel) (by decide +kernel) rfl ?_
          exact W.retD X38 C e38 d3_26 (by decide) (by decide) ⟨by simp [own_rr, own_le hc30, own_le hc33, own_le hc36, own_lt hc39], N0, rfl⟩
      · replace hc36 : (0 : Int32).toInt < x2.toInt := hc36
        refine W.dconst1 (q := 21) (v := 4607182418800017408) X35 C d3_20 rfl rfl ?_
        refine W.iloadN (q := 22) X35 C d3_21 rfl rfl ?_
        refine W.iconst (q := 23) (v := 1) X35 C d3_22 rfl rfl ?_
        refine W.iadd (q := 24) X35 C d3_23 rfl ?_
        rw [show ((2 : Int32) + (1 : Int32)) = (3 : Int32) by decide]
        refine W.i2d (q := 25) (v := 4613937818241073152) X35 C d3_24 (by decide +kernel) rfl ?_
        refine W.ddiv (q := 26) (v := 4599676419421066581) X35 C d3_25 (by decide +kernel) (by decide +kernel) rfl ?_
        exact W.retD X35 C e35 d3_26 (by decide) (by decide) ⟨by simp [own_rr, own_le hc30, own_le hc33, own_lt hc36], N0, rfl⟩
    · replace hc33 : (0 : Int32).toInt < x1.toInt := hc33
      refine W.dconst1 (q := 21) (v := 4607182418800017408) X32 C d3_20 rfl rfl ?_
      refine W.iloadN (q := 22) X32 C d3_21 rfl rfl ?_
      refine W.iconst (q := 23) (v := 1) X32 C d3_22 rfl rfl ?_
      refine W.iadd (q := 24) X32 C d3_23 rfl ?_
      rw [show ((1 : Int32) + (1 : Int32)) = (2 : Int32) by decide]
      refine W.i2d (q := 25) (v := 4611686018427387904) X32 C d3_24 (by decide +kernel) rfl ?_
      refine W.ddiv (q := 26) (v := 4602678819172646912) X32 C d3_25 (by decide +kernel) (by decide +kernel) rfl ?_
      exact W.retD X32 C e32 d3_26 (by decide) (by decide) ⟨by simp [own_rr, own_le hc30, own_lt hc33], N0, rfl⟩
  · replace hc30 : (0 : Int32).toInt < x0.toInt := hc30
    refine W.dconst1 (q := 21) (v := 4607182418800017408) X29 C d3_20 rfl rfl ?_
    refine W.iloadN (q := 22) X29 C d3_21 rfl rfl ?_
    refine W.iconst (q := 23) (v := 1) X29 C d3_22 rfl rfl ?_
    refine W.iadd (q := 24) X29 C d3_23 rfl ?_
    rw [show ((0 : Int32) + (1 : Int32)) = (1 : Int32) by decide]
    refine W.i2d (q := 25) (v := 4607182418800017408) X29 C d3_24 (by decide +kernel) rfl ?_
    refine W.ddiv (q := 26) (v := 4607182418800017408) X29 C d3_25 (by decide +kernel) (by decide +kernel) rfl ?_
    exact W.retD X29 C e29 d3_26 (by decide) (by decide) ⟨by simp [own_rr, own_lt hc30], N0, rfl⟩
theorem own_04 (x v : Int32) (h : ((x &&& (2147483647 : Int32)) % (5 : Int32)) = v) : v = 0 ∨ v = 1 ∨ v = 2 ∨ v = 3 ∨ v = 4 := by
  have a1 := c_mask x 2147483647 31 (by decide) (by decide)
  have a2 := (c_irem (x &&& 2147483647) 5 5 (by decide)).1 (by omega)
  rw [h] at a2
  exact W.small (P := fun v => v = 0 ∨ v = 1 ∨ v = 2 ∨ v = 3 ∨ v = 4) 4 (by decide +kernel) v (by omega) (by omega)
theorem pd__28_5bI_5bI_29V : parseMethodDescriptor "([I[I)V" = some ⟨[(.array .int), (.array .int)], none⟩ := by decide +kernel
theorem pd__28_29D : parseMethodDescriptor "()D" = some ⟨[], some .double⟩ := by decide +kernel
theorem pn_com_example_cranfield_cranfield_measures_RankedQueryReciprocalRankPinLaw : plainName "com/example/cranfield/cranfield/measures/RankedQueryReciprocalRankPinLaw" = true := by first | (simp [plainName, overriddenIn]; done) | decide +kernel
def Q0 (Z : State) (p0 p1 p2 p3 p4 p5 : Int32) (h0 : Heap) (n0 : Nat) (v : Option Value) (h : Heap) (L : List Loc) : Prop := v = some (.int 1) ∧ Fr n0 L
set_option maxRecDepth 65536 in
set_option maxHeartbeats 40000000 in
theorem rm0 (l : Launch) (Z : State) (a0 : Array Value) (hw : ∀ d ∈ tables_1, d.before a0 Z = true) (ws : List Jvm.Cond) (p0 p1 p2 p3 p4 p5 : Int32) (h0 : Heap) (n0 : Nat) (Z0 : n0 ≤ h0.size) :
    MetFree l x (head1 (Jvm.Cond.code x code maxLocals ret :: ws) room_1) (fun a U => a = #[(.int p0), (.int p1), (.int p2), (.int p3), (.int p4), (.int p5)] ∧ Z.Warmed39 U.vm ∧ U.heap = h0) (fun _ _ _ _ _ => True) (fun _ U o U' => ∃ v L, o = .returned v ∧ Q0 Z p0 p1 p2 p3 p4 p5 h0 n0 v U'.heap L ∧ FrameEnd U o U' L room_1.cells room_1.slots) := by
  refine W.bodyOf (y := x) (as := #[(.int p0), (.int p1), (.int p2), (.int p3), (.int p4), (.int p5)]) (maxL := maxLocals) (Q := Q0 Z p0 p1 p2 p3 p4 p5 h0 n0) (Ls := #[.val (.int p0), .val (.int p1), .val (.int p2), .val (.int p3), .val (.int p4), .val (.int p5), .unset, .unset, .unset, .unset, .unset, .unset, .unset, .unset]) (plainFor_of_name pn_com_example_cranfield_cranfield_measures_RankedQueryReciprocalRankPinLaw) (fun m => by first | rfl | (simp [entryFrame, mkF, argsToLocals, Value.category, maxLocals]; done)) ?_
  intro p e s m below meth c T0 C X0 e0
  replace C : W.Cx p s m meth c Z code 14 "com/example/cranfield/cranfield/measures/RankedQueryReciprocalRankPinLaw" "law" (some .boolean) := C
  have N0 := Fr.nil n0
  refine W.iloadN (q := 1) X0 C at_0 rfl rfl ?_
  refine W.ldcI (q := 3) X0 C (W.ww hw 0 rfl) at_1 rfl ?_
  refine W.iand (q := 4) X0 C at_3 rfl ?_
  refine W.iconst (q := 5) (v := 5) X0 C at_4 rfl rfl ?_
  refine W.irem (q := 6) X0 C at_5 (by decide) rfl ?_
  generalize hv41 : ((p0 &&& (2147483647 : Int32)) % (5 : Int32)) = v41
  refine W.istore (q := 8) (L' := #[.val (.int p0), .val (.int p1), .val (.int p2), .val (.int p3), .val (.int p4), .val (.int p5), .val (.int v41), .unset, .unset, .unset, .unset, .unset, .unset, .unset]) X0 C at_6 rfl rfl ?_
  rcases own_04 _ _ hv41 with rfl | rfl | rfl | rfl | rfl
  · show W.Go p e below _ (T0.setTop (mkF m 8 #[.val (.int p0), .val (.int p1), .val (.int p2), .val (.int p3), .val (.int p4), .val (.int p5), .val (.int (0 : Int32)), .unset, .unset, .unset, .unset, .unset, .unset, .unset] []))
    refine W.iload (q := 10) X0 C at_8 rfl rfl ?_
    refine W.ifF (q := 13) X0 C at_10 rfl (by decide : W.cF .ne (0 : Int32) 0) ?_
    refine W.iconst (q := 14) (v := 0) X0 C at_13 rfl rfl ?_
    refine W.newarray (q := 16) X0 C (W.ww hw 1 rfl) e0 (by decide) 0 (by decide) (by decide) at_14 (by decide) (by decide) rfl (fun T42 h42 b42 k42 X42 e42 g42 E42 V42_ => ?_)
    have ge_b42 : n0 ≤ b42 := by rw [g42]; exact Z0
    have n0_42 : n0 ≤ h42.size := Nat.le_trans Z0 E42.1
    have V42 : Arv Z h42 b42 k42 .int (0 : Int32) [] (.int (0 : Int32)) := V42_
    refine W.astore (q := 18) (L' := #[.val (.int p0), .val (.int p1), .val (.int p2), .val (.int p3), .val (.int p4), .val (.int p5), .val (.int (0 : Int32)), .val (.ref b42), .unset, .unset, .unset, .unset, .unset, .unset]) X42 C at_16 rfl rfl rfl ?_
    refine W.goto (q := 109) X42 C at_18 (by decide) (by decide) ?_
    refine W.iload (q := 111) X42 C at_109 rfl rfl ?_
    refine W.iconst (q := 112) (v := 1) X42 C at_111 rfl rfl ?_
    refine W.iand (q := 113) X42 C at_112 rfl ?_
    refine W.if_ (q := 124) (q' := 116) X42 C at_113 (by decide) (by decide) rfl (fun hc44 => ?_) (fun hc44 => ?_)
    · replace hc44 : (p5 &&& (1 : Int32)) = 0 := hc44
      refine W.iconst (q := 125) (v := 1) X42 C at_124 rfl rfl ?_
      refine W.newarray (q := 127) X42 C (W.ww hw 1 rfl) e42 (by decide) 1 (by decide) (by decide) at_125 (by decide) (by decide) rfl (fun T45 h45 b45 k45 X45 e45 g45 E45 V45_ => ?_)
      have ne_b42_b45 : b42 ≠ b45 := by rw [g45]; exact Nat.ne_of_lt V42.lt
      have ge_b45 : n0 ≤ b45 := by rw [g45]; exact n0_42
      have n0_45 : n0 ≤ h45.size := Nat.le_trans n0_42 E45.1
      have V42_46 := V42.ext E45
      have V45 : Arv Z h45 b45 k45 .int (1 : Int32) [(.int (0 : Int32))] (.int (0 : Int32)) := V45_
      refine W.dup (q := 128) X45 C at_127 rfl rfl ?_
      refine W.iconst (q := 129) (v := 0) X45 C at_128 rfl rfl ?_
      refine W.iload (q := 131) X45 C at_129 rfl rfl ?_
      refine W.iastore (q := 132) X45 C e45 V45  (by decide) (by decide) (Nat.le_of_ble_eq_true rfl) at_131 rfl (fun T47 h47 X47 e47 W47 V47_ => ?_)
      have V42_48 := V42_46.other W47 ne_b42_b45
      have V47 : Arv Z h47 b45 k45 .int (1 : Int32) [(.int p5)] (.int (0 : Int32)) := V47_
      have N47 := Fr.snoc X47 N0 ge_b45
      have n0_47 : n0 ≤ h47.size := by rw [W47.size]; exact n0_45
      refine W.astore (q := 134) (L' := #[.val (.int p0), .val (.int p1), .val (.int p2), .val (.int p3), .val (.int p4), .val (.int p5), .val (.int (0 : Int32)), .val (.ref b42), .val (.ref b45), .unset, .unset, .unset, .unset, .unset]) X47 C at_132 rfl rfl rfl ?_
      refine W.newO (q := 137) X47 C (W.ww hw 2 rfl) (W.ww hw 3 rfl) (W.ww hw 4 rfl) e47 at_134 (by decide) (by decide) rfl (fun T49 h49 b49 X49 e49 g49 E49 A49 D49 => ?_)
      have ne_b42_b49 : b42 ≠ b49 := by rw [g49]; exact Nat.ne_of_lt V42_48.lt
      have ne_b45_b49 : b45 ≠ b49 := by rw [g49]; exact Nat.ne_of_lt V47.lt
      have ge_b49 : n0 ≤ b49 := by rw [g49]; exact n0_47
      have n0_49 : n0 ≤ h49.size := Nat.le_trans n0_47 E49.1
      have V42_50 := V42_48.ext E49
      have V47_50 := V47.ext E49
      have F_ranked_51 : Fld Z h49 b49 "com/example/cranfield/cranfield/measures/RankedQuery" "ranked" "[I" .null := D49 (Or.inr (W.ww hw 12 rfl)) (ty := (.array .int)) (by decide)
      have F_ideal_52 : Fld Z h49 b49 "com/example/cranfield/cranfield/measures/RankedQuery" "ideal" "[I" .null := D49 (Or.inr (W.ww hw 14 rfl)) (ty := (.array .int)) (by decide)
      refine W.dup (q := 138) X49 C at_137 rfl rfl ?_
      refine W.aload (q := 140) X49 C at_138 rfl rfl rfl ?_
      refine W.aload (q := 142) X49 C at_140 rfl rfl rfl ?_
      refine W.callI (q := 145) X49 C rfl (W.ww hw 5 rfl) (W.ww hw 6 rfl) (W.ww hw 4 rfl) (W.ww hw 7 rfl) (by decide) (rm1 l Z a0 hw [] b49 b42 b45 h49 n0 n0_49 A49 F_ranked_51 F_ideal_52 ge_b49) e49 at_142 (a := b49) [(.ref b42), (.ref b45)] [(.ref b49)] rfl rfl pd__28_5bI_5bI_29V rfl rfl (by decide) (Nat.le_of_ble_eq_true rfl) (by decide) (by decide) rfl (fun T53 w53 L53 X53 hQ53 => ?_)
      obtain ⟨rfl, NL53, K53, E_53, Fa_53, Fb_53⟩ := hQ53
      have N53 := Fr.app N47 NL53
      have V42_54 := V42_50.keep K53 (ninS ne_b42_b49 nin0)
      have V47_54 := V47_50.keep K53 (ninS ne_b45_b49 nin0)
      have n0_53 : n0 ≤ T53.heap.size := Nat.le_trans n0_49 K53.1
      show W.Go p e below _ (T53.setTop (mkF m 145 #[.val (.int p0), .val (.int p1), .val (.int p2), .val (.int p3), .val (.int p4), .val (.int p5), .val (.int (0 : Int32)), .val (.ref b42), .val (.ref b45), .unset, .unset, .unset, .unset, .unset] [(.ref b49)]))
      refine W.astore (q := 147) (L' := #[.val (.int p0), .val (.int p1), .val (.int p2), .val (.int p3), .val (.int p4), .val (.int p5), .val (.int (0 : Int32)), .val (.ref b42), .val (.ref b45), .val (.ref b49), .unset, .unset, .unset, .unset]) X53 C at_145 rfl rfl rfl ?_
      refine W.aload (q := 149) X53 C at_147 rfl rfl rfl ?_
      refine W.callV (q := 152) X53 C (W.ww hw 15 rfl) (W.ww hw 16 rfl) (W.nf C (W.ww hw 18 rfl)) (W.ww hw 18 rfl) (W.ww hw 17 rfl) (W.ww hw 4 rfl) (W.ww hw 19 rfl) (by decide) (rm3_0 l Z a0 hw [] b49 b42 k42  T53.heap n0 Fa_53 V42_54) rfl E_53 at_149 [] [] rfl rfl pd__28_29D rfl rfl (by decide) (Nat.le_of_ble_eq_true rfl) (by decide) (by decide) rfl (fun T55 w55 L55 X55 hQ55 => ?_)
      obtain ⟨rfl, NL55, e55⟩ := hQ55
      have N55 := Fr.app N53 NL55
      show W.Go p e below _ (T55.setTop (mkF m 152 #[.val (.int p0), .val (.int p1), .val (.int p2), .val (.int p3), .val (.int p4), .val (.int p5), .val (.int (0 : Int32)), .val (.ref b42), .val (.ref b45), .val (.ref b49), .unset, .unset, .unset, .unset] [(.double (own_rr []))]))
      refine W.dstore (q := 154) (L' := #[.val (.int p0), .val (.int p1), .val (.int p2), .val (.int p3), .val (.int p4), .val (.int p5), .val (.int (0 : Int32)), .val (.ref b42), .val (.ref b45), .val (.ref b49), .val (.double (own_rr [])), .second, .unset, .unset]) X55 C at_152 rfl rfl ?_
      refine W.iload (q := 156) X55 C at_154 rfl rfl ?_
      refine W.iconst (q := 157) (v := 1) X55 C at_156 rfl rfl ?_
      refine W.icmpT (q := 170) X55 C at_157 (by decide) (by decide) (by decide : W.cT .lt (0 : Int32) (1 : Int32)) ?_
      refine W.iload (q := 172) X55 C at_170 rfl rfl ?_
      refine W.iconst (q := 173) (v := 2) X55 C at_172 rfl rfl ?_
      refine W.icmpT (q := 188) X55 C at_173 (by decide) (by decide) (by decide : W.cT .lt (0 : Int32) (2 : Int32)) ?_
      refine W.iload (q := 190) X55 C at_188 rfl rfl ?_
      refine W.iconst (q := 191) (v := 3) X55 C at_190 rfl rfl ?_
      refine W.icmpT (q := 206) X55 C at_191 (by decide) (by decide) (by decide : W.cT .lt (0 : Int32) (3 : Int32)) ?_
      refine W.iload (q := 208) X55 C at_206 rfl rfl ?_
      refine W.iconst (q := 209) (v := 4) X55 C at_208 rfl rfl ?_
      refine W.icmpT (q := 225) X55 C at_209 (by decide) (by decide) (by decide : W.cT .lt (0 : Int32) (4 : Int32)) ?_
      refine W.dconst0 (q := 226) (v := 0) X55 C at_225 rfl rfl ?_
      refine W.dstore (q := 228) (L' := #[.val (.int p0), .val (.int p1), .val (.int p2), .val (.int p3), .val (.int p4), .val (.int p5), .val (.int (0 : Int32)), .val (.ref b42), .val (.ref b45), .val (.ref b49), .val (.double (own_rr [])), .second, .val (.double (0 : UInt64)), .second]) X55 C at_226 rfl rfl ?_
      refine W.dload (q := 230) X55 C at_228 rfl rfl ?_
      refine W.dload (q := 232) X55 C at_230 rfl rfl ?_
      refine W.dcmp (q := 233) (v := 0) X55 C at_232 (by rw [show (own_rr []) = (0 : UInt64) by simp [own_rr]]; decide +kernel) rfl ?_
      refine W.ifF (q := 236) X55 C at_233 rfl (by decide : W.cF .ne (0 : Int32) 0) ?_
      refine W.iconst (q := 237) (v := 1) X55 C at_236 rfl rfl ?_
      refine W.goto (q := 241) X55 C at_237 (by decide) (by decide) ?_
      exact W.retN X55 C (by simp) e55 at_241 rfl (by decide) (by decide) ⟨rfl, N55⟩
    · replace hc44 : (p5 &&& (1 : Int32)) ≠ 0 := hc44
      refine W.iconst (q := 117) (v := 0) X42 C at_116 rfl rfl ?_
      refine W.newarray (q := 119) X42 C (W.ww hw 1 rfl) e42 (by decide) 0 (by decide) (by decide) at_117 (by decide) (by decide) rfl (fun T56 h56 b56 k56 X56 e56 g56 E56 V56_ => ?_)
      have ne_b42_b56 : b42 ≠ b56 := by rw [g56]; exact Nat.ne_of_lt V42.lt
      have ge_b56 : n0 ≤ b56 := by rw [g56]; exact n0_42
      have n0_56 : n0 ≤ h56.size := Nat.le_trans n0_42 E56.1
      have V42_57 := V42.ext E56
      have V56 : Arv Z h56 b56 k56 .int (0 : Int32) [] (.int (0 : Int32)) := V56_
      refine W.astore (q := 121) (L' := #[.val (.int p0), .val (.int p1), .val (.int p2), .val (.int p3), .val (.int p4), .val (.int p5), .val (.int (0 : Int32)), .val (.ref b42), .val (.ref b56), .unset, .unset, .unset, .unset, .unset]) X56 C at_119 rfl rfl rfl ?_
      refine W.goto (q := 134) X56 C at_121 (by decide) (by decide) ?_
      refine W.newO (q := 137) X56 C (W.ww hw 2 rfl) (W.ww hw 3 rfl) (W.ww hw 4 rfl) e56 at_134 (by decide) (by decide) rfl (fun T58 h58 b58 X58 e58 g58 E58 A58 D58 => ?_)
      have ne_b42_b58 : b42 ≠ b58 := by rw [g58]; exact Nat.ne_of_lt V42_57.lt
      have ne_b56_b58 : b56 ≠ b58 := by rw [g58]; exact Nat.ne_of_lt V56.lt
      have ge_b58 : n0 ≤ b58 := by rw [g58]; exact n0_56
      have n0_58 : n0 ≤ h58.size := Nat.le_trans n0_56 E58.1
      have V42_59 := V42_57.ext E58
      have V56_59 := V56.ext E58
      have F_ranked_60 : Fld Z h58 b58 "com/example/cranfield/cranfield/measures/RankedQuery" "ranked" "[I" .null := D58 (Or.inr (W.ww hw 12 rfl)) (ty := (.array .int)) (by decide)
      have F_ideal_61 : Fld Z h58 b58 "com/example/cranfield/cranfield/measures/RankedQuery" "ideal" "[I" .null := D58 (Or.inr (W.ww hw 14 rfl)) (ty := (.array .int)) (by decide)
      refine W.dup (q := 138) X58 C at_137 rfl rfl ?_
      refine W.aload (q := 140) X58 C at_138 rfl rfl rfl ?_
      refine W.aload (q := 142) X58 C at_140 rfl rfl rfl ?_
      refine W.callI (q := 145) X58 C rfl (W.ww hw 5 rfl) (W.ww hw 6 rfl) (W.ww hw 4 rfl) (W.ww hw 7 rfl) (by decide) (rm1 l Z a0 hw [] b58 b42 b56 h58 n0 n0_58 A58 F_ranked_60 F_ideal_61 ge_b58) e58 at_142 (a := b58) [(.ref b42), (.ref b56)] [(.ref b58)] rfl rfl pd__28_5bI_5bI_29V rfl rfl (by decide) (Nat.le_of_ble_eq_true rfl) (by decide) (by decide) rfl (fun T62 w62 L62 X62 hQ62 => ?_)
      obtain ⟨rfl, NL62, K62, E_62, Fa_62, Fb_62⟩ := hQ62
      have N62 := Fr.app N0 NL62
      have V42_63 := V42_59.keep K62 (ninS ne_b42_b58 nin0)
      have V56_63 := V56_59.keep K62 (ninS ne_b56_b58 nin0)
      have n0_62 : n0 ≤ T62.heap.size := Nat.le_trans n0_58 K62.1
      show W.Go p e below _ (T62.setTop (mkF m 145 #[.val (.int p0), .val (.int p1), .val (.int p2), .val (.int p3), .val (.int p4), .val (.int p5), .val (.int (0 : Int32)), .val (.ref b42), .val (.ref b56), .unset, .unset, .unset, .unset, .unset] [(.ref b58)]))
      refine W.astore (q := 147) (L' := #[.val (.int p0), .val (.int p1), .val (.int p2), .val (.int p3), .val (.int p4), .val (.int p5), .val (.int (0 : Int32)), .val (.ref b42), .val (.ref b56), .val (.ref b58), .unset, .unset, .unset, .unset]) X62 C at_145 rfl rfl rfl ?_
      refine W.aload (q := 149) X62 C at_147 rfl rfl rfl ?_
      refine W.callV (q := 152) X62 C (W.ww hw 15 rfl) (W.ww hw 16 rfl) (W.nf C (W.ww hw 18 rfl)) (W.ww hw 18 rfl) (W.ww hw 17 rfl) (W.ww hw 4 rfl) (W.ww hw 19 rfl) (by decide) (rm3_0 l Z a0 hw [] b58 b42 k42  T62.heap n0 Fa_62 V42_63) rfl E_62 at_149 [] [] rfl rfl pd__28_29D rfl rfl (by decide) (Nat.le_of_ble_eq_true rfl) (by decide) (by decide) rfl (fun T64 w64 L64 X64 hQ64 => ?_)
      obtain ⟨rfl, NL64, e64⟩ := hQ64
      have N64 := Fr.app N62 NL64
      show W.Go p e below _ (T64.setTop (mkF m 152 #[.val (.int p0), .val (.int p1), .val (.int p2), .val (.int p3), .val (.int p4), .val (.int p5), .val (.int (0 : Int32)), .val (.ref b42), .val (.ref b56), .val (.ref b58), .unset, .unset, .unset, .unset] [(.double (own_rr []))]))
      refine W.dstore (q := 154) (L' := #[.val (.int p0), .val (.int p1), .val (.int p2), .val (.int p3), .val (.int p4), .val (.int p5), .val (.int (0 : Int32)), .val (.ref b42), .val (.ref b56), .val (.ref b58), .val (.double (own_rr [])), .second, .unset, .unset]) X64 C at_152 rfl rfl ?_
      refine W.iload (q := 156) X64 C at_154 rfl rfl ?_
      refine W.iconst (q := 157) (v := 1) X64 C at_156 rfl rfl ?_
      refine W.icmpT (q := 170) X64 C at_157 (by decide) (by decide) (by decide : W.cT .lt (0 : Int32) (1 : Int32)) ?_
      refine W.iload (q := 172) X64 C at_170 rfl rfl ?_
      refine W.iconst (q := 173) (v := 2) X64 C at_172 rfl rfl ?_
      refine W.icmpT (q := 188) X64 C at_173 (by decide) (by decide) (by decide : W.cT .lt (0 : Int32) (2 : Int32)) ?_
      refine W.iload (q := 190) X64 C at_188 rfl rfl ?_
      refine W.iconst (q := 191) (v := 3) X64 C at_190 rfl rfl ?_
      refine W.icmpT (q := 206) X64 C at_191 (by decide) (by decide) (by decide : W.cT .lt (0 : Int32) (3 : Int32)) ?_
      refine W.iload (q := 208) X64 C at_206 rfl rfl ?_
      refine W.iconst (q := 209) (v := 4) X64 C at_208 rfl rfl ?_
      refine W.icmpT (q := 225) X64 C at_209 (by decide) (by decide) (by decide : W.cT .lt (0 : Int32) (4 : Int32)) ?_
      refine W.dconst0 (q := 226) (v := 0) X64 C at_225 rfl rfl ?_
      refine W.dstore (q := 228) (L' := #[.val (.int p0), .val (.int p1), .val (.int p2), .val (.int p3), .val (.int p4), .val (.int p5), .val (.int (0 : Int32)), .val (.ref b42), .val (.ref b56), .val (.ref b58), .val (.double (own_rr [])), .second, .val (.double (0 : UInt64)), .second]) X64 C at_226 rfl rfl ?_
      refine W.dload (q := 230) X64 C at_228 rfl rfl ?_
      refine W.dload (q := 232) X64 C at_230 rfl rfl ?_
      refine W.dcmp (q := 233) (v := 0) X64 C at_232 (by rw [show (own_rr []) = (0 : UInt64) by simp [own_rr]]; decide +kernel) rfl ?_
      refine W.ifF (q := 236) X64 C at_233 rfl (by decide : W.cF .ne (0 : Int32) 0) ?_
      refine W.iconst (q := 237) (v := 1) X64 C at_236 rfl rfl ?_
      refine W.goto (q := 241) X64 C at_237 (by decide) (by decide) ?_
      exact W.retN X64 C (by simp) e64 at_241 rfl (by decide) (by decide) ⟨rfl, N64⟩
  · show W.Go p e below _ (T0.setTop (mkF m 8 #[.val (.int p0), .val (.int p1), .val (.int p2), .val (.int p3), .val (.int p4), .val (.int p5), .val (.int (1 : Int32)), .unset, .unset, .unset, .unset, .unset, .unset, .unset] []))
    refine W.iload (q := 10) X0 C at_8 rfl rfl ?_
    refine W.ifT (q := 21) X0 C at_10 (by decide) (by decide) (by decide : W.cT .ne (1 : Int32) 0) ?_
    refine W.iload (q := 23) X0 C at_21 rfl rfl ?_
    refine W.iconst (q := 24) (v := 1) X0 C at_23 rfl rfl ?_
    refine W.icmpF (q := 27) X0 C at_24 rfl (by decide : W.cF .ne (1 : Int32) (1 : Int32)) ?_
    refine W.iconst (q := 28) (v := 1) X0 C at_27 rfl rfl ?_
    refine W.newarray (q := 30) X0 C (W.ww hw 1 rfl) e0 (by decide) 1 (by decide) (by decide) at_28 (by decide) (by decide) rfl (fun T65 h65 b65 k65 X65 e65 g65 E65 V65_ => ?_)
    have ge_b65 : n0 ≤ b65 := by rw [g65]; exact Z0
    have n0_65 : n0 ≤ h65.size := Nat.le_trans Z0 E65.1
    have V65 : Arv Z h65 b65 k65 .int (1 : Int32) [(.int (0 : Int32))] (.int (0 : Int32)) := V65_
    refine W.dup (q := 31) X65 C at_30 rfl rfl ?_
    refine W.iconst (q := 32) (v := 0) X65 C at_31 rfl rfl ?_
    refine W.iloadN (q := 33) X65 C at_32 rfl rfl ?_
    refine W.iastore (q := 34) X65 C e65 V65  (by decide) (by decide) (Nat.le_of_ble_eq_true rfl) at_33 rfl (fun T67 h67 X67 e67 W67 V67_ => ?_)
    have V67 : Arv Z h67 b65 k65 .int (1 : Int32) [(.int p1)] (.int (0 : Int32)) := V67_
    have N67 := Fr.snoc X67 N0 ge_b65
    have n0_67 : n0 ≤ h67.size := by rw [W67.size]; exact n0_65
    refine W.astore (q := 36) (L' := #[.val (.int p0), .val (.int p1), .val (.int p2), .val (.int p3), .val (.int p4), .val (.int p5), .val (.int (1 : Int32)), .val (.ref b65), .unset, .unset, .unset, .unset, .unset, .unset]) X67 C at_34 rfl rfl rfl ?_
    refine W.goto (q := 109) X67 C at_36 (by decide) (by decide) ?_
    refine W.iload (q := 111) X67 C at_109 rfl rfl ?_
    refine W.iconst (q := 112) (v := 1) X67 C at_111 rfl rfl ?_
    refine W.iand (q := 113) X67 C at_112 rfl ?_
    refine W.if_ (q := 124) (q' := 116) X67 C at_113 (by decide) (by decide) rfl (fun hc69 => ?_) (fun hc69 => ?_)
    · replace hc69 : (p5 &&& (1 : Int32)) = 0 := hc69
      refine W.iconst (q := 125) (v := 1) X67 C at_124 rfl rfl ?_
      refine W.newarray (q := 127) X67 C (W.ww hw 1 rfl) e67 (by decide) 1 (by decide) (by decide) at_125 (by decide) (by decide) rfl (fun T70 h70 b70 k70 X70 e70 g70 E70 V70_ => ?_)
      have ne_b65_b70 : b65 ≠ b70 := by rw [g70]; exact Nat.ne_of_lt V67.lt
      have ge_b70 : n0 ≤ b70 := by rw [g70]; exact n0_67
      have n0_70 : n0 ≤ h70.size := Nat.le_trans n0_67 E70.1
      have V67_71 := V67.ext E70
      have V70 : Arv Z h70 b70 k70 .int (1 : Int32) [(.int (0 : Int32))] (.int (0 : Int32)) := V70_
      refine W.dup (q := 128) X70 C at_127 rfl rfl ?_
      refine W.iconst (q := 129) (v := 0) X70 C at_128 rfl rfl ?_
      refine W.iload (q := 131) X70 C at_129 rfl rfl ?_
      refine W.iastore (q := 132) X70 C e70 V70  (by decide) (by decide) (Nat.le_of_ble_eq_true rfl) at_131 rfl (fun T72 h72 X72 e72 W72 V72_ => ?_)
      have V67_73 := V67_71.other W72 ne_b65_b70
      have V72 : Arv Z h72 b70 k70 .int (1 : Int32) [(.int p5)] (.int (0 : Int32)) := V72_
      have N72 := Fr.snoc X72 N67 ge_b70
      have n0_72 : n0 ≤ h72.size := by rw [W72.size]; exact n0_70
      refine W.astore (q := 134) (L' := #[.val (.int p0), .val (.int p1), .val (.int p2), .val (.int p3), .val (.int p4), .val (.int p5), .val (.int (1 : Int32)), .val (.ref b65), .val (.ref b70), .unset, .unset, .unset, .unset, .unset]) X72 C at_132 rfl rfl rfl ?_
      refine W.newO (q := 137) X72 C (W.ww hw 2 rfl) (W.ww hw 3 rfl) (W.ww hw 4 rfl) e72 at_134 (by decide) (by decide) rfl (fun T74 h74 b74 X74 e74 g74 E74 A74 D74 => ?_)
      have ne_b65_b74 : b65 ≠ b74 := by rw [g74]; exact Nat.ne_of_lt V67_73.lt
      have ne_b70_b74 : b70 ≠ b74 := by rw [g74]; exact Nat.ne_of_lt V72.lt
      have ge_b74 : n0 ≤ b74 := by rw [g74]; exact n0_72
      have n0_74 : n0 ≤ h74.size := Nat.le_trans n0_72 E74.1
      have V67_75 := V67_73.ext E74
      have V72_75 := V72.ext E74
      have F_ranked_76 : Fld Z h74 b74 "com/example/cranfield/cranfield/measures/RankedQuery" "ranked" "[I" .null := D74 (Or.inr (W.ww hw 12 rfl)) (ty := (.array .int)) (by decide)
      have F_ideal_77 : Fld Z h74 b74 "com/example/cranfield/cranfield/measures/RankedQuery" "ideal" "[I" .null := D74 (Or.inr (W.ww hw 14 rfl)) (ty := (.array .int)) (by decide)
      refine W.dup (q := 138) X74 C at_137 rfl rfl ?_
      refine W.aload (q := 140) X74 C at_138 rfl rfl rfl ?_
      refine W.aload (q := 142) X74 C at_140 rfl rfl rfl ?_
      refine W.callI (q := 145) X74 C rfl (W.ww hw 5 rfl) (W.ww hw 6 rfl) (W.ww hw 4 rfl) (W.ww hw 7 rfl) (by decide) (rm1 l Z a0 hw [] b74 b65 b70 h74 n0 n0_74 A74 F_ranked_76 F_ideal_77 ge_b74) e74 at_142 (a := b74) [(.ref b65), (.ref b70)] [(.ref b74)] rfl rfl pd__28_5bI_5bI_29V rfl rfl (by decide) (Nat.le_of_ble_eq_true rfl) (by decide) (by decide) rfl (fun T78 w78 L78 X78 hQ78 => ?_)
      obtain ⟨rfl, NL78, K78, E_78, Fa_78, Fb_78⟩ := hQ78
      have N78 := Fr.app N72 NL78
      have V67_79 := V67_75.keep K78 (ninS ne_b65_b74 nin0)
      have V72_79 := V72_75.keep K78 (ninS ne_b70_b74 nin0)
      have n0_78 : n0 ≤ T78.heap.size := Nat.le_trans n0_74 K78.1
      show W.Go p e below _ (T78.setTop (mkF m 145 #[.val (.int p0), .val (.int p1), .val (.int p2), .val (.int p3), .val (.int p4), .val (.int p5), .val (.int (1 : Int32)), .val (.ref b65), .val (.ref b70), .unset, .unset, .unset, .unset, .unset] [(.ref b74)]))
      refine W.astore (q := 147) (L' := #[.val (.int p0), .val (.int p1), .val (.int p2), .val (.int p3), .val (.int p4), .val (.int p5), .val (.int (1 : Int32)), .val (.ref b65), .val (.ref b70), .val (.ref b74), .unset, .unset, .unset, .unset]) X78 C at_145 rfl rfl rfl ?_
      refine W.aload (q := 149) X78 C at_147 rfl rfl rfl ?_
      refine W.callV (q := 152) X78 C (W.ww hw 15 rfl) (W.ww hw 16 rfl) (W.nf C (W.ww hw 18 rfl)) (W.ww hw 18 rfl) (W.ww hw 17 rfl) (W.ww hw 4 rfl) (W.ww hw 19 rfl) (by decide) (rm3_1 l Z a0 hw [] b74 b65 k65 p1 T78.heap n0 Fa_78 V67_79) rfl E_78 at_149 [] [] rfl rfl pd__28_29D rfl rfl (by decide) (Nat.le_of_ble_eq_true rfl) (by decide) (by decide) rfl (fun T80 w80 L80 X80 hQ80 => ?_)
      obtain ⟨rfl, NL80, e80⟩ := hQ80
      have N80 := Fr.app N78 NL80
      show W.Go p e below _ (T80.setTop (mkF m 152 #[.val (.int p0), .val (.int p1), .val (.int p2), .val (.int p3), .val (.int p4), .val (.int p5), .val (.int (1 : Int32)), .val (.ref b65), .val (.ref b70), .val (.ref b74), .unset, .unset, .unset, .unset] [(.double (own_rr [p1]))]))
      refine W.dstore (q := 154) (L' := #[.val (.int p0), .val (.int p1), .val (.int p2), .val (.int p3), .val (.int p4), .val (.int p5), .val (.int (1 : Int32)), .val (.ref b65), .val (.ref b70), .val (.ref b74), .val (.double (own_rr [p1])), .second, .unset, .unset]) X80 C at_152 rfl rfl ?_
      refine W.iload (q := 156) X80 C at_154 rfl rfl ?_
      refine W.iconst (q := 157) (v := 1) X80 C at_156 rfl rfl ?_
      refine W.icmpF (q := 160) X80 C at_157 rfl (by decide : W.cF .lt (1 : Int32) (1 : Int32)) ?_
      refine W.iloadN (q := 161) X80 C at_160 rfl rfl ?_
      refine W.if_ (q := 170) (q' := 164) X80 C at_161 (by decide) (by decide) rfl (fun hc81 => ?_) (fun hc81 => ?_)
      · replace hc81 : p1.toInt ≤ (0 : Int32).toInt := hc81
        refine W.iload (q := 172) X80 C at_170 rfl rfl ?_
        refine W.iconst (q := 173) (v := 2) X80 C at_172 rfl rfl ?_
        refine W.icmpT (q := 188) X80 C at_173 (by decide) (by decide) (by decide : W.cT .lt (1 : Int32) (2 : Int32)) ?_
        refine W.iload (q := 190) X80 C at_188 rfl rfl ?_
        refine W.iconst (q := 191) (v := 3) X80 C at_190 rfl rfl ?_
        refine W.icmpT (q := 206) X80 C at_191 (by decide) (by decide) (by decide : W.cT .lt (1 : Int32) (3 : Int32)) ?_
        refine W.iload (q := 208) X80 C at_206 rfl rfl ?_
        refine W.iconst (q := 209) (v := 4) X80 C at_208 rfl rfl ?_
        refine W.icmpT (q := 225) X80 C at_209 (by decide) (by decide) (by decide : W.cT .lt (1 : Int32) (4 : Int32)) ?_
        refine W.dconst0 (q := 226) (v := 0) X80 C at_225 rfl rfl ?_
        refine W.dstore (q := 228) (L' := #[.val (.int p0), .val (.int p1), .val (.int p2), .val (.int p3), .val (.int p4), .val (.int p5), .val (.int (1 : Int32)), .val (.ref b65), .val (.ref b70), .val (.ref b74), .val (.double (own_rr [p1])), .second, .val (.double (0 : UInt64)), .second]) X80 C at_226 rfl rfl ?_
        refine W.dload (q := 230) X80 C at_228 rfl rfl ?_
        refine W.dload (q := 232) X80 C at_230 rfl rfl ?_
        refine W.dcmp (q := 233) (v := 0) X80 C at_232 (by rw [show (own_rr [p1]) = (0 : UInt64) by simp [own_rr, own_le hc81]]; decide +kernel) rfl ?_
        refine W.ifF (q := 236) X80 C at_233 rfl (by decide : W.cF .ne (0 : Int32) 0) ?_
        refine W.iconst (q := 237) (v := 1) X80 C at_236 rfl rfl ?_
        refine W.goto (q := 241) X80 C at_237 (by decide) (by decide) ?_
        exact W.retN X80 C (by simp) e80 at_241 rfl (by decide) (by decide) ⟨rfl, N80⟩
      · replace hc81 : (0 : Int32).toInt < p1.toInt := hc81
        refine W.dconst1 (q := 165) (v := 4607182418800017408) X80 C at_164 rfl rfl ?_
        refine W.dstore (q := 167) (L' := #[.val (.int p0), .val (.int p1), .val (.int p2), .val (.int p3), .val (.int p4), .val (.int p5), .val (.int (1 : Int32)), .val (.ref b65), .val (.ref b70), .val (.ref b74), .val (.double (own_rr [p1])), .second, .val (.double (4607182418800017408 : UInt64)), .second]) X80 C at_165 rfl rfl ?_
        refine W.goto (q := 228) X80 C at_167 (by decide) (by decide) ?_
        refine W.dload (q := 230) X80 C at_228 rfl rfl ?_
        refine W.dload (q := 232) X80 C at_230 rfl rfl ?_
        refine W.dcmp (q := 233) (v := 0) X80 C at_232 (by rw [show (own_rr [p1]) = (4607182418800017408 : UInt64) by simp [own_rr, own_lt hc81]]; decide +kernel) rfl ?_
        refine W.ifF (q := 236) X80 C at_233 rfl (by decide : W.cF .ne (0 : Int32) 0) ?_
        refine W.iconst (q := 237) (v := 1) X80 C at_236 rfl rfl ?_
        refine W.goto (q := 241) X80 C at_237 (by decide) (by decide) ?_
        exact W.retN X80 C (by simp) e80 at_241 rfl (by decide) (by decide) ⟨rfl, N80⟩
    · replace hc69 : (p5 &&& (1 : Int32)) ≠ 0 := hc69
      refine W.iconst (q := 117) (v := 0) X67 C at_116 rfl rfl ?_
      refine W.newarray (q := 119) X67 C (W.ww hw 1 rfl) e67 (by decide) 0 (by decide) (by decide) at_117 (by decide) (by decide) rfl (fun T82 h82 b82 k82 X82 e82 g82 E82 V82_ => ?_)
      have ne_b65_b82 : b65 ≠ b82 := by rw [g82]; exact Nat.ne_of_lt V67.lt
      have ge_b82 : n0 ≤ b82 := by rw [g82]; exact n0_67
      have n0_82 : n0 ≤ h82.size := Nat.le_trans n0_67 E82.1
      have V67_83 := V67.ext E82
      have V82 : Arv Z h82 b82 k82 .int (0 : Int32) [] (.int (0 : Int32)) := V82_
      refine W.astore (q := 121) (L' := #[.val (.int p0), .val (.int p1), .val (.int p2), .val (.int p3), .val (.int p4), .val (.int p5), .val (.int (1 : Int32)), .val (.ref b65), .val (.ref b82), .unset, .unset, .unset, .unset, .unset]) X82 C at_119 rfl rfl rfl ?_
      refine W.goto (q := 134) X82 C at_121 (by decide) (by decide) ?_
      refine W.newO (q := 137) X82 C (W.ww hw 2 rfl) (W.ww hw 3 rfl) (W.ww hw 4 rfl) e82 at_134 (by decide) (by decide) rfl (fun T84 h84 b84 X84 e84 g84 E84 A84 D84 => ?_)
      have ne_b65_b84 : b65 ≠ b84 := by rw [g84]; exact Nat.ne_of_lt V67_83.lt
      have ne_b82_b84 : b82 ≠ b84 := by rw [g84]; exact Nat.ne_of_lt V82.lt
      have ge_b84 : n0 ≤ b84 := by rw [g84]; exact n0_82
      have n0_84 : n0 ≤ h84.size := Nat.le_trans n0_82 E84.1
      have V67_85 := V67_83.ext E84
      have V82_85 := V82.ext E84
      have F_ranked_86 : Fld Z h84 b84 "com/example/cranfield/cranfield/measures/RankedQuery" "ranked" "[I" .null := D84 (Or.inr (W.ww hw 12 rfl)) (ty := (.array .int)) (by decide)
      have F_ideal_87 : Fld Z h84 b84 "com/example/cranfield/cranfield/measures/RankedQuery" "ideal" "[I" .null := D84 (Or.inr (W.ww hw 14 rfl)) (ty := (.array .int)) (by decide)
      refine W.dup (q := 138) X84 C at_137 rfl rfl ?_
      refine W.aload (q := 140) X84 C at_138 rfl rfl rfl ?_
      refine W.aload (q := 142) X84 C at_140 rfl rfl rfl ?_
      refine W.callI (q := 145) X84 C rfl (W.ww hw 5 rfl) (W.ww hw 6 rfl) (W.ww hw 4 rfl) (W.ww hw 7 rfl) (by decide) (rm1 l Z a0 hw [] b84 b65 b82 h84 n0 n0_84 A84 F_ranked_86 F_ideal_87 ge_b84) e84 at_142 (a := b84) [(.ref b65), (.ref b82)] [(.ref b84)] rfl rfl pd__28_5bI_5bI_29V rfl rfl (by decide) (Nat.le_of_ble_eq_true rfl) (by decide) (by decide) rfl (fun T88 w88 L88 X88 hQ88 => ?_)
      obtain ⟨rfl, NL88, K88, E_88, Fa_88, Fb_88⟩ := hQ88
      have N88 := Fr.app N67 NL88
      have V67_89 := V67_85.keep K88 (ninS ne_b65_b84 nin0)
      have V82_89 := V82_85.keep K88 (ninS ne_b82_b84 nin0)
      have n0_88 : n0 ≤ T88.heap.size := Nat.le_trans n0_84 K88.1
      show W.Go p e below _ (T88.setTop (mkF m 145 #[.val (.int p0), .val (.int p1), .val (.int p2), .val (.int p3), .val (.int p4), .val (.int p5), .val (.int (1 : Int32)), .val (.ref b65), .val (.ref b82), .unset, .unset, .unset, .unset, .unset] [(.ref b84)]))
      refine W.astore (q := 147) (L' := #[.val (.int p0), .val (.int p1), .val (.int p2), .val (.int p3), .val (.int p4), .val (.int p5), .val (.int (1 : Int32)), .val (.ref b65), .val (.ref b82), .val (.ref b84), .unset, .unset, .unset, .unset]) X88 C at_145 rfl rfl rfl ?_
      refine W.aload (q := 149) X88 C at_147 rfl rfl rfl ?_
      refine W.callV (q := 152) X88 C (W.ww hw 15 rfl) (W.ww hw 16 rfl) (W.nf C (W.ww hw 18 rfl)) (W.ww hw 18 rfl) (W.ww hw 17 rfl) (W.ww hw 4 rfl) (W.ww hw 19 rfl) (by decide) (rm3_1 l Z a0 hw [] b84 b65 k65 p1 T88.heap n0 Fa_88 V67_89) rfl E_88 at_149 [] [] rfl rfl pd__28_29D rfl rfl (by decide) (Nat.le_of_ble_eq_true rfl) (by decide) (by decide) rfl (fun T90 w90 L90 X90 hQ90 => ?_)
      obtain ⟨rfl, NL90, e90⟩ := hQ90
      have N90 := Fr.app N88 NL90
      show W.Go p e below _ (T90.setTop (mkF m 152 #[.val (.int p0), .val (.int p1), .val (.int p2), .val (.int p3), .val (.int p4), .val (.int p5), .val (.int (1 : Int32)), .val (.ref b65), .val (.ref b82), .val (.ref b84), .unset, .unset, .unset, .unset] [(.double (own_rr [p1]))]))
      refine W.dstore (q := 154) (L' := #[.val (.int p0), .val (.int p1), .val (.int p2), .val (.int p3), .val (.int p4), .val (.int p5), .val (.int (1 : Int32)), .val (.ref b65), .val (.ref b82), .val (.ref b84), .val (.double (own_rr [p1])), .second, .unset, .unset]) X90 C at_152 rfl rfl ?_
      refine W.iload (q := 156) X90 C at_154 rfl rfl ?_
      refine W.iconst (q := 157) (v := 1) X90 C at_156 rfl rfl ?_
      refine W.icmpF (q := 160) X90 C at_157 rfl (by decide : W.cF .lt (1 : Int32) (1 : Int32)) ?_
      refine W.iloadN (q := 161) X90 C at_160 rfl rfl ?_
      refine W.if_ (q := 170) (q' := 164) X90 C at_161 (by decide) (by decide) rfl (fun hc91 => ?_) (fun hc91 => ?_)
      · replace hc91 : p1.toInt ≤ (0 : Int32).toInt := hc91
        refine W.iload (q := 172) X90 C at_170 rfl rfl ?_
        refine W.iconst (q := 173) (v := 2) X90 C at_172 rfl rfl ?_
        refine W.icmpT (q := 188) X90 C at_173 (by decide) (by decide) (by decide : W.cT .lt (1 : Int32) (2 : Int32)) ?_
        refine W.iload (q := 190) X90 C at_188 rfl rfl ?_
        refine W.iconst (q := 191) (v := 3) X90 C at_190 rfl rfl ?_
        refine W.icmpT (q := 206) X90 C at_191 (by decide) (by decide) (by decide : W.cT .lt (1 : Int32) (3 : Int32)) ?_
        refine W.iload (q := 208) X90 C at_206 rfl rfl ?_
        refine W.iconst (q := 209) (v := 4) X90 C at_208 rfl rfl ?_
        refine W.icmpT (q := 225) X90 C at_209 (by decide) (by decide) (by decide : W.cT .lt (1 : Int32) (4 : Int32)) ?_
        refine W.dconst0 (q := 226) (v := 0) X90 C at_225 rfl rfl ?_
        refine W.dstore (q := 228) (L' := #[.val (.int p0), .val (.int p1), .val (.int p2), .val (.int p3), .val (.int p4), .val (.int p5), .val (.int (1 : Int32)), .val (.ref b65), .val (.ref b82), .val (.ref b84), .val (.double (own_rr [p1])), .second, .val (.double (0 : UInt64)), .second]) X90 C at_226 rfl rfl ?_
        refine W.dload (q := 230) X90 C at_228 rfl rfl ?_
        refine W.dload (q := 232) X90 C at_230 rfl rfl ?_
        refine W.dcmp (q := 233) (v := 0) X90 C at_232 (by rw [show (own_rr [p1]) = (0 : UInt64) by simp [own_rr, own_le hc91]]; decide +kernel) rfl ?_
        refine W.ifF (q := 236) X90 C at_233 rfl (by decide : W.cF .ne (0 : Int32) 0) ?_
        refine W.iconst (q := 237) (v := 1) X90 C at_236 rfl rfl ?_
        refine W.goto (q := 241) X90 C at_237 (by decide) (by decide) ?_
        exact W.retN X90 C (by simp) e90 at_241 rfl (by decide) (by decide) ⟨rfl, N90⟩
      · replace hc91 : (0 : Int32).toInt < p1.toInt := hc91
        refine W.dconst1 (q := 165) (v := 4607182418800017408) X90 C at_164 rfl rfl ?_
        refine W.dstore (q := 167) (L' := #[.val (.int p0), .val (.int p1), .val (.int p2), .val (.int p3), .val (.int p4), .val (.int p5), .val (.int (1 : Int32)), .val (.ref b65), .val (.ref b82), .val (.ref b84), .val (.double (own_rr [p1])), .second, .val (.double (4607182418800017408 : UInt64)), .second]) X90 C at_165 rfl rfl ?_
        refine W.goto (q := 228) X90 C at_167 (by decide) (by decide) ?_
        refine W.dload (q := 230) X90 C at_228 rfl rfl ?_
        refine W.dload (q := 232) X90 C at_230 rfl rfl ?_
        refine W.dcmp (q := 233) (v := 0) X90 C at_232 (by rw [show (own_rr [p1]) = (4607182418800017408 : UInt64) by simp [own_rr, own_lt hc91]]; decide +kernel) rfl ?_
        refine W.ifF (q := 236) X90 C at_233 rfl (by decide : W.cF .ne (0 : Int32) 0) ?_
        refine W.iconst (q := 237) (v := 1) X90 C at_236 rfl rfl ?_
        refine W.goto (q := 241) X90 C at_237 (by decide) (by decide) ?_
        exact W.retN X90 C (by simp) e90 at_241 rfl (by decide) (by decide) ⟨rfl, N90⟩
  · show W.Go p e below _ (T0.setTop (mkF m 8 #[.val (.int p0), .val (.int p1), .val (.int p2), .val (.int p3), .val (.int p4), .val (.int p5), .val (.int (2 : Int32)), .unset, .unset, .unset, .unset, .unset, .unset, .unset] []))
    refine W.iload (q := 10) X0 C at_8 rfl rfl ?_
    refine W.ifT (q := 21) X0 C at_10 (by decide) (by decide) (by decide : W.cT .ne (2 : Int32) 0) ?_
    refine W.iload (q := 23) X0 C at_21 rfl rfl ?_
    refine W.iconst (q := 24) (v := 1) X0 C at_23 rfl rfl ?_
    refine W.icmpT (q := 39) X0 C at_24 (by decide) (by decide) (by decide : W.cT .ne (2 : Int32) (1 : Int32)) ?_
    refine W.iload (q := 41) X0 C at_39 rfl rfl ?_
    refine W.iconst (q := 42) (v := 2) X0 C at_41 rfl rfl ?_
    refine W.icmpF (q := 45) X0 C at_42 rfl (by decide : W.cF .ne (2 : Int32) (2 : Int32)) ?_
    refine W.iconst (q := 46) (v := 2) X0 C at_45 rfl rfl ?_
    refine W.newarray (q := 48) X0 C (W.ww hw 1 rfl) e0 (by decide) 2 (by decide) (by decide) at_46 (by decide) (by decide) rfl (fun T92 h92 b92 k92 X92 e92 g92 E92 V92_ => ?_)
    have ge_b92 : n0 ≤ b92 := by rw [g92]; exact Z0
    have n0_92 : n0 ≤ h92.size := Nat.le_trans Z0 E92.1
    have V92 : Arv Z h92 b92 k92 .int (2 : Int32) [(.int (0 : Int32)), (.int (0 : Int32))] (.int (0 : Int32)) := V92_
    refine W.dup (q := 49) X92 C at_48 rfl rfl ?_
    refine W.iconst (q := 50) (v := 0) X92 C at_49 rfl rfl ?_
    refine W.iloadN (q := 51) X92 C at_50 rfl rfl ?_
    refine W.iastore (q := 52) X92 C e92 V92  (by decide) (by decide) (Nat.le_of_ble_eq_true rfl) at_51 rfl (fun T94 h94 X94 e94 W94 V94_ => ?_)
    have V94 : Arv Z h94 b92 k92 .int (2 : Int32) [(.int p1), (.int (0 : Int32))] (.int (0 : Int32)) := V94_
    have N94 := Fr.snoc X94 N0 ge_b92
    have n0_94 : n0 ≤ h94.size := by rw [W94.size]; exact n0_92
    refine W.dup (q := 53) X94 C at_52 rfl rfl ?_
    refine W.iconst (q := 54) (v := 1) X94 C at_53 rfl rfl ?_
    refine W.iloadN (q := 55) X94 C at_54 rfl rfl ?_
    refine W.iastore (q := 56) X94 C e94 V94  (by decide) (by decide) (Nat.le_of_ble_eq_true rfl) at_55 rfl (fun T96 h96 X96 e96 W96 V96_ => ?_)
    have V96 : Arv Z h96 b92 k92 .int (2 : Int32) [(.int p1), (.int p2)] (.int (0 : Int32)) := V96_
    have N96 := Fr.snoc X96 N94 ge_b92
    have n0_96 : n0 ≤ h96.size := by rw [W96.size]; exact n0_94
    refine W.astore (q := 58) (L' := #[.val (.int p0), .val (.int p1), .val (.int p2), .val (.int p3), .val (.int p4), .val (.int p5), .val (.int (2 : Int32)), .val (.ref b92), .unset, .unset, .unset, .unset, .unset, .unset]) X96 C at_56 rfl rfl rfl ?_
    refine W.goto (q := 109) X96 C at_58 (by decide) (by decide) ?_
    refine W.iload (q := 111) X96 C at_109 rfl rfl ?_
    refine W.iconst (q := 112) (v := 1) X96 C at_111 rfl rfl ?_
    refine W.iand (q := 113) X96 C at_112 rfl ?_
    refine W.if_ (q := 124) (q' := 116) X96 C at_113 (by decide) (by decide) rfl (fun hc98 => ?_) (fun hc98 => ?_)
    · replace hc98 : (p5 &&& (1 : Int32)) = 0 := hc98
      refine W.iconst (q := 125) (v := 1) X96 C at_124 rfl rfl ?_
      refine W.newarray (q := 127) X96 C (W.ww hw 1 rfl) e96 (by decide) 1 (by decide) (by decide) at_125 (by decide) (by decide) rfl (fun T99 h99 b99 k99 X99 e99 g99 E99 V99_ => ?_)
      have ne_b92_b99 : b92 ≠ b99 := by rw [g99]; exact Nat.ne_of_lt V96.lt
      have ge_b99 : n0 ≤ b99 := by rw [g99]; exact n0_96
      have n0_99 : n0 ≤ h99.size := Nat.le_trans n0_96 E99.1
      have V96_100 := V96.ext E99
      have V99 : Arv Z h99 b99 k99 .int (1 : Int32) [(.int (0 : Int32))] (.int (0 : Int32)) := V99_
      refine W.dup (q := 128) X99 C at_127 rfl rfl ?_
      refine W.iconst (q := 129) (v := 0) X99 C at_128 rfl rfl ?_
      refine W.iload (q := 131) X99 C at_129 rfl rfl ?_
      refine W.iastore (q := 132) X99 C e99 V99  (by decide) (by decide) (Nat.le_of_ble_eq_true rfl) at_131 rfl (fun T101 h101 X101 e101 W101 V101_ => ?_)
      have V96_102 := V96_100.other W101 ne_b92_b99
      have V101 : Arv Z h101 b99 k99 .int (1 : Int32) [(.int p5)] (.int (0 : Int32)) := V101_
      have N101 := Fr.snoc X101 N96 ge_b99
      have n0_101 : n0 ≤ h101.size := by rw [W101.size]; exact n0_99
      refine W.astore (q := 134) (L' := #[.val (.int p0), .val (.int p1), .val (.int p2), .val (.int p3), .val (.int p4), .val (.int p5), .val (.int (2 : Int32)), .val (.ref b92), .val (.ref b99), .unset, .unset, .unset, .unset, .unset]) X101 C at_132 rfl rfl rfl ?_
      refine W.newO (q := 137) X101 C (W.ww hw 2 rfl) (W.ww hw 3 rfl) (W.ww hw 4 rfl) e101 at_134 (by decide) (by decide) rfl (fun T103 h103 b103 X103 e103 g103 E103 A103 D103 => ?_)
      have ne_b92_b103 : b92 ≠ b103 := by rw [g103]; exact Nat.ne_of_lt V96_102.lt
      have ne_b99_b103 : b99 ≠ b103 := by rw [g103]; exact Nat.ne_of_lt V101.lt
      have ge_b103 : n0 ≤ b103 := by rw [g103]; exact n0_101
      have n0_103 : n0 ≤ h103.size := Nat.le_trans n0_101 E103.1
      have V96_104 := V96_102.ext E103
      have V101_104 := V101.ext E103
      have F_ranked_105 : Fld Z h103 b103 "com/example/cranfield/cranfield/measures/RankedQuery" "ranked" "[I" .null := D103 (Or.inr (W.ww hw 12 rfl)) (ty := (.array .int)) (by decide)
      have F_ideal_106 : Fld Z h103 b103 "com/example/cranfield/cranfield/measures/RankedQuery" "ideal" "[I" .null := D103 (Or.inr (W.ww hw 14 rfl)) (ty := (.array .int)) (by decide)
      refine W.dup (q := 138) X103 C at_137 rfl rfl ?_
      refine W.aload (q := 140) X103 C at_138 rfl rfl rfl ?_
      refine W.aload (q := 142) X103 C at_140 rfl rfl rfl ?_
      refine W.callI (q := 145) X103 C rfl (W.ww hw 5 rfl) (W.ww hw 6 rfl) (W.ww hw 4 rfl) (W.ww hw 7 rfl) (by decide) (rm1 l Z a0 hw [] b103 b92 b99 h103 n0 n0_103 A103 F_ranked_105 F_ideal_106 ge_b103) e103 at_142 (a := b103) [(.ref b92), (.ref b99)] [(.ref b103)] rfl rfl pd__28_5bI_5bI_29V rfl rfl (by decide) (Nat.le_of_ble_eq_true rfl) (by decide) (by decide) rfl (fun T107 w107 L107 X107 hQ107 => ?_)
      obtain ⟨rfl, NL107, K107, E_107, Fa_107, Fb_107⟩ := hQ107
      have N107 := Fr.app N101 NL107
      have V96_108 := V96_104.keep K107 (ninS ne_b92_b103 nin0)
      have V101_108 := V101_104.keep K107 (ninS ne_b99_b103 nin0)
      have n0_107 : n0 ≤ T107.heap.size := Nat.le_trans n0_103 K107.1
      show W.Go p e below _ (T107.setTop (mkF m 145 #[.val (.int p0), .val (.int p1), .val (.int p2), .val (.int p3), .val (.int p4), .val (.int p5), .val (.int (2 : Int32)), .val (.ref b92), .val (.ref b99), .unset, .unset, .unset, .unset, .unset] [(.ref b103)]))
      refine W.astore (q := 147) (L' := #[.val (.int p0), .val (.int p1), .val (.int p2), .val (.int p3), .val (.int p4), .val (.int p5), .val (.int (2 : Int32)), .val (.ref b92), .val (.ref b99), .val (.ref b103), .unset, .unset, .unset, .unset]) X107 C at_145 rfl rfl rfl ?_
      refine W.aload (q := 149) X107 C at_147 rfl rfl rfl ?_
      refine W.callV (q := 152) X107 C (W.ww hw 15 rfl) (W.ww hw 16 rfl) (W.nf C (W.ww hw 18 rfl)) (W.ww hw 18 rfl) (W.ww hw 17 rfl) (W.ww hw 4 rfl) (W.ww hw 19 rfl) (by decide) (rm3_2 l Z a0 hw [] b103 b92 k92 p1 p2 T107.heap n0 Fa_107 V96_108) rfl E_107 at_149 [] [] rfl rfl pd__28_29D rfl rfl (by decide) (Nat.le_of_ble_eq_true rfl) (by decide) (by decide) rfl (fun T109 w109 L109 X109 hQ109 => ?_)
      obtain ⟨rfl, NL109, e109⟩ := hQ109
      have N109 := Fr.app N107 NL109
      show W.Go p e below _ (T109.setTop (mkF m 152 #[.val (.int p0), .val (.int p1), .val (.int p2), .val (.int p3), .val (.int p4), .val (.int p5), .val (.int (2 : Int32)), .val (.ref b92), .val (.ref b99), .val (.ref b103), .unset, .unset, .unset, .unset] [(.double (own_rr [p1, p2]))]))
      refine W.dstore (q := 154) (L' := #[.val (.int p0), .val (.int p1), .val (.int p2), .val (.int p3), .val (.int p4), .val (.int p5), .val (.int (2 : Int32)), .val (.ref b92), .val (.ref b99), .val (.ref b103), .val (.double (own_rr [p1, p2])), .second, .unset, .unset]) X109 C at_152 rfl rfl ?_
      refine W.iload (q := 156) X109 C at_154 rfl rfl ?_
      refine W.iconst (q := 157) (v := 1) X109 C at_156 rfl rfl ?_
      refine W.icmpF (q := 160) X109 C at_157 rfl (by decide : W.cF .lt (2 : Int32) (1 : Int32)) ?_
      refine W.iloadN (q := 161) X109 C at_160 rfl rfl ?_
      refine W.if_ (q := 170) (q' := 164) X109 C at_161 (by decide) (by decide) rfl (fun hc110 => ?_) (fun hc110 => ?_)
      · replace hc110 : p1.toInt ≤ (0 : Int32).toInt := hc110
        refine W.iload (q := 172) X109 C at_170 rfl rfl ?_
        refine W.iconst (q := 173) (v := 2) X109 C at_172 rfl rfl ?_
        refine W.icmpF (q := 176) X109 C at_173 rfl (by decide : W.cF .lt (2 : Int32) (2 : Int32)) ?_
        refine W.iloadN (q := 177) X109 C at_176 rfl rfl ?_
        refine W.if_ (q := 188) (q' := 180) X109 C at_177 (by decide) (by decide) rfl (fun hc111 => ?_) (fun hc111 => ?_)
        · replace hc111 : p2.toInt ≤ (0 : Int32).toInt := hc111
          refine W.iload (q := 190) X109 C at_188 rfl rfl ?_
          refine W.iconst (q := 191) (v := 3) X109 C at_190 rfl rfl ?_
          refine W.icmpT (q := 206) X109 C at_191 (by decide) (by decide) (by decide : W.cT .lt (2 : Int32) (3 : Int32)) ?_
          refine W.iload (q := 208) X109 C at_206 rfl rfl ?_
          refine W.iconst (q := 209) (v := 4) X109 C at_208 rfl rfl ?_
          refine W.icmpT (q := 225) X109 C at_209 (by decide) (by decide) (by decide : W.cT .lt (2 : Int32) (4 : Int32)) ?_
          refine W.dconst0 (q := 226) (v := 0) X109 C at_225 rfl rfl ?_
          refine W.dstore (q := 228) (L' := #[.val (.int p0), .val (.int p1), .val (.int p2), .val (.int p3), .val (.int p4), .val (.int p5), .val (.int (2 : Int32)), .val (.ref b92), .val (.ref b99), .val (.ref b103), .val (.double (own_rr [p1, p2])), .second, .val (.double (0 : UInt64)), .second]) X109 C at_226 rfl rfl ?_
          refine W.dload (q := 230) X109 C at_228 rfl rfl ?_
          refine W.dload (q := 232) X109 C at_230 rfl rfl ?_
          refine W.dcmp (q := 233) (v := 0) X109 C at_232 (by rw [show (own_rr [p1, p2]) = (0 : UInt64) by simp [own_rr, own_le hc110, own_le hc111]]; decide +kernel) rfl ?_
          refine W.ifF (q := 236) X109 C at_233 rfl (by decide : W.cF .ne (0 : Int32) 0) ?_
          refine W.iconst (q := 237) (v := 1) X109 C at_236 rfl rfl ?_
          refine W.goto (q := 241) X109 C at_237 (by decide) (by decide) ?_
          exact W.retN X109 C (by simp) e109 at_241 rfl (by decide) (by decide) ⟨rfl, N109⟩
        · replace hc111 : (0 : Int32).toInt < p2.toInt := hc111
          refine W.ldcD (q := 183) X109 C (W.ww hw 20 rfl) at_180 rfl ?_
          refine W.dstore (q := 185) (L' := #[.val (.int p0), .val (.int p1), .val (.int p2), .val (.int p3), .val (.int p4), .val (.int p5), .val (.int (2 : Int32)), .val (.ref b92), .val (.ref b99), .val (.ref b103), .val (.double (own_rr [p1, p2])), .second, .val (.double (4602678819172646912 : UInt64)), .second]) X109 C at_183 rfl rfl ?_
          refine W.goto (q := 228) X109 C at_185 (by decide) (by decide) ?_
          refine W.dload (q := 230) X109 C at_228 rfl rfl ?_
          refine W.dload (q := 232) X109 C at_230 rfl rfl ?_
          refine W.dcmp (q := 233) (v := 0) X109 C at_232 (by rw [show (own_rr [p1, p2]) = (4602678819172646912 : UInt64) by simp [own_rr, own_le hc110, own_lt hc111]]; decide +kernel) rfl ?_
          refine W.ifF (q := 236) X109 C at_233 rfl (by decide : W.cF .ne (0 : Int32) 0) ?_
          refine W.iconst (q := 237) (v := 1) X109 C at_236 rfl rfl ?_
          refine W.goto (q := 241) X109 C at_237 (by decide) (by decide) ?_
          exact W.retN X109 C (by simp) e109 at_241 rfl (by decide) (by decide) ⟨rfl, N109⟩
      · replace hc110 : (0 : Int32).toInt < p1.toInt := hc110
        refine W.dconst1 (q := 165) (v := 4607182418800017408) X109 C at_164 rfl rfl ?_
        refine W.dstore (q := 167) (L' := #[.val (.int p0), .val (.int p1), .val (.int p2), .val (.int p3), .val (.int p4), .val (.int p5), .val (.int (2 : Int32)), .val (.ref b92), .val (.ref b99), .val (.ref b103), .val (.double (own_rr [p1, p2])), .second, .val (.double (4607182418800017408 : UInt64)), .second]) X109 C at_165 rfl rfl ?_
        refine W.goto (q := 228) X109 C at_167 (by decide) (by decide) ?_
        refine W.dload (q := 230) X109 C at_228 rfl rfl ?_
        refine W.dload (q := 232) X109 C at_230 rfl rfl ?_
        refine W.dcmp (q := 233) (v := 0) X109 C at_232 (by rw [show (own_rr [p1, p2]) = (4607182418800017408 : UInt64) by simp [own_rr, own_lt hc110]]; decide +kernel) rfl ?_
        refine W.ifF (q := 236) X109 C at_233 rfl (by decide : W.cF .ne (0 : Int32) 0) ?_
        refine W.iconst (q := 237) (v := 1) X109 C at_236 rfl rfl ?_
        refine W.goto (q := 241) X109 C at_237 (by decide) (by decide) ?_
        exact W.retN X109 C (by simp) e109 at_241 rfl (by decide) (by decide) ⟨rfl, N109⟩
    · replace hc98 : (p5 &&& (1 : Int32)) ≠ 0 := hc98
      refine W.iconst (q := 117) (v := 0) X96 C at_116 rfl rfl ?_
      refine W.newarray (q := 119) X96 C (W.ww hw 1 rfl) e96 (by decide) 0 (by decide) (by decide) at_117 (by decide) (by decide) rfl (fun T112 h112 b112 k112 X112 e112 g112 E112 V112_ => ?_)
      have ne_b92_b112 : b92 ≠ b112 := by rw [g112]; exact Nat.ne_of_lt V96.lt
      have ge_b112 : n0 ≤ b112 := by rw [g112]; exact n0_96
      have n0_112 : n0 ≤ h112.size := Nat.le_trans n0_96 E112.1
      have V96_113 := V96.ext E112
      have V112 : Arv Z h112 b112 k112 .int (0 : Int32) [] (.int (0 : Int32)) := V112_
      refine W.astore (q := 121) (L' := #[.val (.int p0), .val (.int p1), .val (.int p2), .val (.int p3), .val (.int p4), .val (.int p5), .val (.int (2 : Int32)), .val (.ref b92), .val (.ref b112), .unset, .unset, .unset, .unset, .unset]) X112 C at_119 rfl rfl rfl ?_
      refine W.goto (q := 134) X112 C at_121 (by decide) (by decide) ?_
      refine W.newO (q := 137) X112 C (W.ww hw 2 rfl) (W.ww hw 3 rfl) (W.ww hw 4 rfl) e112 at_134 (by decide) (by decide) rfl (fun T114 h114 b114 X114 e114 g114 E114 A114 D114 => ?_)
      have ne_b92_b114 : b92 ≠ b114 := by rw [g114]; exact Nat.ne_of_lt V96_113.lt
      have ne_b112_b114 : b112 ≠ b114 := by rw [g114]; exact Nat.ne_of_lt V112.lt
      have ge_b114 : n0 ≤ b114 := by rw [g114]; exact n0_112
      have n0_114 : n0 ≤ h114.size := Nat.le_trans n0_112 E114.1
      have V96_115 := V96_113.ext E114
      have V112_115 := V112.ext E114
      have F_ranked_116 : Fld Z h114 b114 "com/example/cranfield/cranfield/measures/RankedQuery" "ranked" "[I" .null := D114 (Or.inr (W.ww hw 12 rfl)) (ty := (.array .int)) (by decide)
      have F_ideal_117 : Fld Z h114 b114 "com/example/cranfield/cranfield/measures/RankedQuery" "ideal" "[I" .null := D114 (Or.inr (W.ww hw 14 rfl)) (ty := (.array .int)) (by decide)
      refine W.dup (q := 138) X114 C at_137 rfl rfl ?_
      refine W.aload (q := 140) X114 C at_138 rfl rfl rfl ?_
      refine W.aload (q := 142) X114 C at_140 rfl rfl rfl ?_
      refine W.callI (q := 145) X114 C rfl (W.ww hw 5 rfl) (W.ww hw 6 rfl) (W.ww hw 4 rfl) (W.ww hw 7 rfl) (by decide) (rm1 l Z a0 hw [] b114 b92 b112 h114 n0 n0_114 A114 F_ranked_116 F_ideal_117 ge_b114) e114 at_142 (a := b114) [(.ref b92), (.ref b112)] [(.ref b114)] rfl rfl pd__28_5bI_5bI_29V rfl rfl (by decide) (Nat.le_of_ble_eq_true rfl) (by decide) (by decide) rfl (fun T118 w118 L118 X118 hQ118 => ?_)
      obtain ⟨rfl, NL118, K118, E_118, Fa_118, Fb_118⟩ := hQ118
      have N118 := Fr.app N96 NL118
      have V96_119 := V96_115.keep K118 (ninS ne_b92_b114 nin0)
      have V112_119 := V112_115.keep K118 (ninS ne_b112_b114 nin0)
      have n0_118 : n0 ≤ T118.heap.size := Nat.le_trans n0_114 K118.1
      show W.Go p e below _ (T118.setTop (mkF m 145 #[.val (.int p0), .val (.int p1), .val (.int p2), .val (.int p3), .val (.int p4), .val (.int p5), .val (.int (2 : Int32)), .val (.ref b92), .val (.ref b112), .unset, .unset, .unset, .unset, .unset] [(.ref b114)]))
      refine W.astore (q := 147) (L' := #[.val (.int p0), .val (.int p1), .val (.int p2), .val (.int p3), .val (.int p4), .val (.int p5), .val (.int (2 : Int32)), .val (.ref b92), .val (.ref b112), .val (.ref b114), .unset, .unset, .unset, .unset]) X118 C at_145 rfl rfl rfl ?_
      refine W.aload (q := 149) X118 C at_147 rfl rfl rfl ?_
      refine W.callV (q := 152) X118 C (W.ww hw 15 rfl) (W.ww hw 16 rfl) (W.nf C (W.ww hw 18 rfl)) (W.ww hw 18 rfl) (W.ww hw 17 rfl) (W.ww hw 4 rfl) (W.ww hw 19 rfl) (by decide) (rm3_2 l Z a0 hw [] b114 b92 k92 p1 p2 T118.heap n0 Fa_118 V96_119) rfl E_118 at_149 [] [] rfl rfl pd__28_29D rfl rfl (by decide) (Nat.le_of_ble_eq_true rfl) (by decide) (by decide) rfl (fun T120 w120 L120 X120 hQ120 => ?_)
      obtain ⟨rfl, NL120, e120⟩ := hQ120
      have N120 := Fr.app N118 NL120
      show W.Go p e below _ (T120.setTop (mkF m 152 #[.val (.int p0), .val (.int p1), .val (.int p2), .val (.int p3), .val (.int p4), .val (.int p5), .val (.int (2 : Int32)), .val (.ref b92), .val (.ref b112), .val (.ref b114), .unset, .unset, .unset, .unset] [(.double (own_rr [p1, p2]))]))
      refine W.dstore (q := 154) (L' := #[.val (.int p0), .val (.int p1), .val (.int p2), .val (.int p3), .val (.int p4), .val (.int p5), .val (.int (2 : Int32)), .val (.ref b92), .val (.ref b112), .val (.ref b114), .val (.double (own_rr [p1, p2])), .second, .unset, .unset]) X120 C at_152 rfl rfl ?_
      refine W.iload (q := 156) X120 C at_154 rfl rfl ?_
      refine W.iconst (q := 157) (v := 1) X120 C at_156 rfl rfl ?_
      refine W.icmpF (q := 160) X120 C at_157 rfl (by decide : W.cF .lt (2 : Int32) (1 : Int32)) ?_
      refine W.iloadN (q := 161) X120 C at_160 rfl rfl ?_
      refine W.if_ (q := 170) (q' := 164) X120 C at_161 (by decide) (by decide) rfl (fun hc121 => ?_) (fun hc121 => ?_)
      · replace hc121 : p1.toInt ≤ (0 : Int32).toInt := hc121
        refine W.iload (q := 172) X120 C at_170 rfl rfl ?_
        refine W.iconst (q := 173) (v := 2) X120 C at_172 rfl rfl ?_
        refine W.icmpF (q := 176) X120 C at_173 rfl (by decide : W.cF .lt (2 : Int32) (2 : Int32)) ?_
        refine W.iloadN (q := 177) X120 C at_176 rfl rfl ?_
        refine W.if_ (q := 188) (q' := 180) X120 C at_177 (by decide) (by decide) rfl (fun hc122 => ?_) (fun hc122 => ?_)
        · replace hc122 : p2.toInt ≤ (0 : Int32).toInt := hc122
          refine W.iload (q := 190) X120 C at_188 rfl rfl ?_
          refine W.iconst (q := 191) (v := 3) X120 C at_190 rfl rfl ?_
          refine W.icmpT (q := 206) X120 C at_191 (by decide) (by decide) (by decide : W.cT .lt (2 : Int32) (3 : Int32)) ?_
          refine W.iload (q := 208) X120 C at_206 rfl rfl ?_
          refine W.iconst (q := 209) (v := 4) X120 C at_208 rfl rfl ?_
          refine W.icmpT (q := 225) X120 C at_209 (by decide) (by decide) (by decide : W.cT .lt (2 : Int32) (4 : Int32)) ?_
          refine W.dconst0 (q := 226) (v := 0) X120 C at_225 rfl rfl ?_
          refine W.dstore (q := 228) (L' := #[.val (.int p0), .val (.int p1), .val (.int p2), .val (.int p3), .val (.int p4), .val (.int p5), .val (.int (2 : Int32)), .val (.ref b92), .val (.ref b112), .val (.ref b114), .val (.double (own_rr [p1, p2])), .second, .val (.double (0 : UInt64)), .second]) X120 C at_226 rfl rfl ?_
          refine W.dload (q := 230) X120 C at_228 rfl rfl ?_
          refine W.dload (q := 232) X120 C at_230 rfl rfl ?_
          refine W.dcmp (q := 233) (v := 0) X120 C at_232 (by rw [show (own_rr [p1, p2]) = (0 : UInt64) by simp [own_rr, own_le hc121, own_le hc122]]; decide +kernel) rfl ?_
          refine W.ifF (q := 236) X120 C at_233 rfl (by decide : W.cF .ne (0 : Int32) 0) ?_
          refine W.iconst (q := 237) (v := 1) X120 C at_236 rfl rfl ?_
          refine W.goto (q := 241) X120 C at_237 (by decide) (by decide) ?_
          exact W.retN X120 C (by simp) e120 at_241 rfl (by decide) (by decide) ⟨rfl, N120⟩
        · replace hc122 : (0 : Int32).toInt < p2.toInt := hc122
          refine W.ldcD (q := 183) X120 C (W.ww hw 20 rfl) at_180 rfl ?_
          refine W.dstore (q := 185) (L' := #[.val (.int p0), .val (.int p1), .val (.int p2), .val (.int p3), .val (.int p4), .val (.int p5), .val (.int (2 : Int32)), .val (.ref b92), .val (.ref b112), .val (.ref b114), .val (.double (own_rr [p1, p2])), .second, .val (.double (4602678819172646912 : UInt64)), .second]) X120 C at_183 rfl rfl ?_
          refine W.goto (q := 228) X120 C at_185 (by decide) (by decide) ?_
          refine W.dload (q := 230) X120 C at_228 rfl rfl ?_
          refine W.dload (q := 232) X120 C at_230 rfl rfl ?_
          refine W.dcmp (q := 233) (v := 0) X120 C at_232 (by rw [show (own_rr [p1, p2]) = (4602678819172646912 : UInt64) by simp [own_rr, own_le hc121, own_lt hc122]]; decide +kernel) rfl ?_
          refine W.ifF (q := 236) X120 C at_233 rfl (by decide : W.cF .ne (0 : Int32) 0) ?_
          refine W.iconst (q := 237) (v := 1) X120 C at_236 rfl rfl ?_
          refine W.goto (q := 241) X120 C at_237 (by decide) (by decide) ?_
          exact W.retN X120 C (by simp) e120 at_241 rfl (by decide) (by decide) ⟨rfl, N120⟩
      · replace hc121 : (0 : Int32).toInt < p1.toInt := hc121
        refine W.dconst1 (q := 165) (v := 4607182418800017408) X120 C at_164 rfl rfl ?_
        refine W.dstore (q := 167) (L' := #[.val (.int p0), .val (.int p1), .val (.int p2), .val (.int p3), .val (.int p4), .val (.int p5), .val (.int (2 : Int32)), .val (.ref b92), .val (.ref b112), .val (.ref b114), .val (.double (own_rr [p1, p2])), .second, .val (.double (4607182418800017408 : UInt64)), .second]) X120 C at_165 rfl rfl ?_
        refine W.goto (q := 228) X120 C at_167 (by decide) (by decide) ?_
        refine W.dload (q := 230) X120 C at_228 rfl rfl ?_
        refine W.dload (q := 232) X120 C at_230 rfl rfl ?_
        refine W.dcmp (q := 233) (v := 0) X120 C at_232 (by rw [show (own_rr [p1, p2]) = (4607182418800017408 : UInt64) by simp [own_rr, own_lt hc121]]; decide +kernel) rfl ?_
        refine W.ifF (q := 236) X120 C at_233 rfl (by decide : W.cF .ne (0 : Int32) 0) ?_
        refine W.iconst (q := 237) (v := 1) X120 C at_236 rfl rfl ?_
        refine W.goto (q := 241) X120 C at_237 (by decide) (by decide) ?_
        exact W.retN X120 C (by simp) e120 at_241 rfl (by decide) (by decide) ⟨rfl, N120⟩
  · show W.Go p e below _ (T0.setTop (mkF m 8 #[.val (.int p0), .val (.int p1), .val (.int p2), .val (.int p3), .val (.int p4), .val (.int p5), .val (.int (3 : Int32)), .unset, .unset, .unset, .unset, .unset, .unset, .unset] []))
    refine W.iload (q := 10) X0 C at_8 rfl rfl ?_
    refine W.ifT (q := 21) X0 C at_10 (by decide) (by decide) (by decide : W.cT .ne (3 : Int32) 0) ?_
    refine W.iload (q := 23) X0 C at_21 rfl rfl ?_
    refine W.iconst (q := 24) (v := 1) X0 C at_23 rfl rfl ?_
    refine W.icmpT (q := 39) X0 C at_24 (by decide) (by decide) (by decide : W.cT .ne (3 : Int32) (1 : Int32)) ?_
    refine W.iload (q := 41) X0 C at_39 rfl rfl ?_
    refine W.iconst (q := 42) (v := 2) X0 C at_41 rfl rfl ?_
    refine W.icmpT (q := 61) X0 C at_42 (by decide) (by decide) (by decide : W.cT .ne (3 : Int32) (2 : Int32)) ?_
    refine W.iload (q := 63) X0 C at_61 rfl rfl ?_
    refine W.iconst (q := 64) (v := 3) X0 C at_63 rfl rfl ?_
    refine W.icmpF (q := 67) X0 C at_64 rfl (by decide : W.cF .ne (3 : Int32) (3 : Int32)) ?_
    refine W.iconst (q := 68) (v := 3) X0 C at_67 rfl rfl ?_
    refine W.newarray (q := 70) X0 C (W.ww hw 1 rfl) e0 (by decide) 3 (by decide) (by decide) at_68 (by decide) (by decide) rfl (fun T123 h123 b123 k123 X123 e123 g123 E123 V123_ => ?_)
    have ge_b123 : n0 ≤ b123 := by rw [g123]; exact Z0
    have n0_123 : n0 ≤ h123.size := Nat.le_trans Z0 E123.1
    have V123 : Arv Z h123 b123 k123 .int (3 : Int32) [(.int (0 : Int32)), (.int (0 : Int32)), (.int (0 : Int32))] (.int (0 : Int32)) := V123_
    refine W.dup (q := 71) X123 C at_70 rfl rfl ?_
    refine W.iconst (q := 72) (v := 0) X123 C at_71 rfl rfl ?_
    refine W.iloadN (q := 73) X123 C at_72 rfl rfl ?_
    refine W.iastore (q := 74) X123 C e123 V123  (by decide) (by decide) (Nat.le_of_ble_eq_true rfl) at_73 rfl (fun T125 h125 X125 e125 W125 V125_ => ?_)
    have V125 : Arv Z h125 b123 k123 .int (3 : Int32) [(.int p1), (.int (0 : Int32)), (.int (0 : Int32))] (.int (0 : Int32)) := V125_
    have N125 := Fr.snoc X125 N0 ge_b123
    have n0_125 : n0 ≤ h125.size := by rw [W125.size]; exact n0_123
    refine W.dup (q := 75) X125 C at_74 rfl rfl ?_
    refine W.iconst (q := 76) (v := 1) X125 C at_75 rfl rfl ?_
    refine W.iloadN (q := 77) X125 C at_76 rfl rfl ?_
    refine W.iastore (q := 78) X125 C e125 V125  (by decide) (by decide) (Nat.le_of_ble_eq_true rfl) at_77 rfl (fun T127 h127 X127 e127 W127 V127_ => ?_)
    have V127 : Arv Z h127 b123 k123 .int (3 : Int32) [(.int p1), (.int p2), (.int (0 : Int32))] (.int (0 : Int32)) := V127_
    have N127 := Fr.snoc X127 N125 ge_b123
    have n0_127 : n0 ≤ h127.size := by rw [W127.size]; exact n0_125
    refine W.dup (q := 79) X127 C at_78 rfl rfl ?_
    refine W.iconst (q := 80) (v := 2) X127 C at_79 rfl rfl ?_
    refine W.iloadN (q := 81) X127 C at_80 rfl rfl ?_
    refine W.iastore (q := 82) X127 C e127 V127  (by decide) (by decide) (Nat.le_of_ble_eq_true rfl) at_81 rfl (fun T129 h129 X129 e129 W129 V129_ => ?_)
    have V129 : Arv Z h129 b123 k123 .int (3 : Int32) [(.int p1), (.int p2), (.int p3)] (.int (0 : Int32)) := V129_
    have N129 := Fr.snoc X129 N127 ge_b123
    have n0_129 : n0 ≤ h129.size := by rw [W129.size]; exact n0_127
    refine W.astore (q := 84) (L' := #[.val (.int p0), .val (.int p1), .val (.int p2), .val (.int p3), .val (.int p4), .val (.int p5), .val (.int (3 : Int32)), .val (.ref b123), .unset, .unset, .unset, .unset, .unset, .unset]) X129 C at_82 rfl rfl rfl ?_
    refine W.goto (q := 109) X129 C at_84 (by decide) (by decide) ?_
    refine W.iload (q := 111) X129 C at_109 rfl rfl ?_
    refine W.iconst (q := 112) (v := 1) X129 C at_111 rfl rfl ?_
    refine W.iand (q := 113) X129 C at_112 rfl ?_
    refine W.if_ (q := 124) (q' := 116) X129 C at_113 (by decide) (by decide) rfl (fun hc131 => ?_) (fun hc131 => ?_)
    · replace hc131 : (p5 &&& (1 : Int32)) = 0 := hc131
      refine W.iconst (q := 125) (v := 1) X129 C at_124 rfl rfl ?_
      refine W.newarray (q := 127) X129 C (W.ww hw 1 rfl) e129 (by decide) 1 (by decide) (by decide) at_125 (by decide) (by decide) rfl (fun T132 h132 b132 k132 X132 e132 g132 E132 V132_ => ?_)
      have ne_b123_b132 : b123 ≠ b132 := by rw [g132]; exact Nat.ne_of_lt V129.lt
      have ge_b132 : n0 ≤ b132 := by rw [g132]; exact n0_129
      have n0_132 : n0 ≤ h132.size := Nat.le_trans n0_129 E132.1
      have V129_133 := V129.ext E132
      have V132 : Arv Z h132 b132 k132 .int (1 : Int32) [(.int (0 : Int32))] (.int (0 : Int32)) := V132_
      refine W.dup (q := 128) X132 C at_127 rfl rfl ?_
      refine W.iconst (q := 129) (v := 0) X132 C at_128 rfl rfl ?_
      refine W.iload (q := 131) X132 C at_129 rfl rfl ?_
      refine W.iastore (q := 132) X132 C e132 V132  (by decide) (by decide) (Nat.le_of_ble_eq_true rfl) at_131 rfl (fun T134 h134 X134 e134 W134 V134_ => ?_)
      have V129_135 := V129_133.other W134 ne_b123_b132
      have V134 : Arv Z h134 b132 k132 .int (1 : Int32) [(.int p5)] (.int (0 : Int32)) := V134_
      have N134 := Fr.snoc X134 N129 ge_b132
      have n0_134 : n0 ≤ h134.size := by rw [W134.size]; exact n0_132
      refine W.astore (q := 134) (L' := #[.val (.int p0), .val (.int p1), .val (.int p2), .val (.int p3), .val (.int p4), .val (.int p5), .val (.int (3 : Int32)), .val (.ref b123), .val (.ref b132), .unset, .unset, .unset, .unset, .unset]) X134 C at_132 rfl rfl rfl ?_
      refine W.newO (q := 137) X134 C (W.ww hw 2 rfl) (W.ww hw 3 rfl) (W.ww hw 4 rfl) e134 at_134 (by decide) (by decide) rfl (fun T136 h136 b136 X136 e136 g136 E136 A136 D136 => ?_)
      have ne_b123_b136 : b123 ≠ b136 := by rw [g136]; exact Nat.ne_of_lt V129_135.lt
      have ne_b132_b136 : b132 ≠ b136 := by rw [g136]; exact Nat.ne_of_lt V134.lt
      have ge_b136 : n0 ≤ b136 := by rw [g136]; exact n0_134
      have n0_136 : n0 ≤ h136.size := Nat.le_trans n0_134 E136.1
      have V129_137 := V129_135.ext E136
      have V134_137 := V134.ext E136
      have F_ranked_138 : Fld Z h136 b136 "com/example/cranfield/cranfield/measures/RankedQuery" "ranked" "[I" .null := D136 (Or.inr (W.ww hw 12 rfl)) (ty := (.array .int)) (by decide)
      have F_ideal_139 : Fld Z h136 b136 "com/example/cranfield/cranfield/measures/RankedQuery" "ideal" "[I" .null := D136 (Or.inr (W.ww hw 14 rfl)) (ty := (.array .int)) (by decide)
      refine W.dup (q := 138) X136 C at_137 rfl rfl ?_
      refine W.aload (q := 140) X136 C at_138 rfl rfl rfl ?_
      refine W.aload (q := 142) X136 C at_140 rfl rfl rfl ?_
      refine W.callI (q := 145) X136 C rfl (W.ww hw 5 rfl) (W.ww hw 6 rfl) (W.ww hw 4 rfl) (W.ww hw 7 rfl) (by decide) (rm1 l Z a0 hw [] b136 b123 b132 h136 n0 n0_136 A136 F_ranked_138 F_ideal_139 ge_b136) e136 at_142 (a := b136) [(.ref b123), (.ref b132)] [(.ref b136)] rfl rfl pd__28_5bI_5bI_29V rfl rfl (by decide) (Nat.le_of_ble_eq_true rfl) (by decide) (by decide) rfl (fun T140 w140 L140 X140 hQ140 => ?_)
      obtain ⟨rfl, NL140, K140, E_140, Fa_140, Fb_140⟩ := hQ140
      have N140 := Fr.app N134 NL140
      have V129_141 := V129_137.keep K140 (ninS ne_b123_b136 nin0)
      have V134_141 := V134_137.keep K140 (ninS ne_b132_b136 nin0)
      have n0_140 : n0 ≤ T140.heap.size := Nat.le_trans n0_136 K140.1
      show W.Go p e below _ (T140.setTop (mkF m 145 #[.val (.int p0), .val (.int p1), .val (.int p2), .val (.int p3), .val (.int p4), .val (.int p5), .val (.int (3 : Int32)), .val (.ref b123), .val (.ref b132), .unset, .unset, .unset, .unset, .unset] [(.ref b136)]))
      refine W.astore (q := 147) (L' := #[.val (.int p0), .val (.int p1), .val (.int p2), .val (.int p3), .val (.int p4), .val (.int p5), .val (.int (3 : Int32)), .val (.ref b123), .val (.ref b132), .val (.ref b136), .unset, .unset, .unset, .unset]) X140 C at_145 rfl rfl rfl ?_
      refine W.aload (q := 149) X140 C at_147 rfl rfl rfl ?_
      refine W.callV (q := 152) X140 C (W.ww hw 15 rfl) (W.ww hw 16 rfl) (W.nf C (W.ww hw 18 rfl)) (W.ww hw 18 rfl) (W.ww hw 17 rfl) (W.ww hw 4 rfl) (W.ww hw 19 rfl) (by decide) (rm3_3 l Z a0 hw [] b136 b123 k123 p1 p2 p3 T140.heap n0 Fa_140 V129_141) rfl E_140 at_149 [] [] rfl rfl pd__28_29D rfl rfl (by decide) (Nat.le_of_ble_eq_true rfl) (by decide) (by decide) rfl (fun T142 w142 L142 X142 hQ142 => ?_)
      obtain ⟨rfl, NL142, e142⟩ := hQ142
      have N142 := Fr.app N140 NL142
      show W.Go p e below _ (T142.setTop (mkF m 152 #[.val (.int p0), .val (.int p1), .val (.int p2), .val (.int p3), .val (.int p4), .val (.int p5), .val (.int (3 : Int32)), .val (.ref b123), .val (.ref b132), .val (.ref b136), .unset, .unset, .unset, .unset] [(.double (own_rr [p1, p2, p3]))]))
      refine W.dstore (q := 154) (L' := #[.val (.int p0), .val (.int p1), .val (.int p2), .val (.int p3), .val (.int p4), .val (.int p5), .val (.int (3 : Int32)), .val (.ref b123), .val (.ref b132), .val (.ref b136), .val (.double (own_rr [p1, p2, p3])), .second, .unset, .unset]) X142 C at_152 rfl rfl ?_
      refine W.iload (q := 156) X142 C at_154 rfl rfl ?_
      refine W.iconst (q := 157) (v := 1) X142 C at_156 rfl rfl ?_
      refine W.icmpF (q := 160) X142 C at_157 rfl (by decide : W.cF .lt (3 : Int32) (1 : Int32)) ?_
      refine W.iloadN (q := 161) X142 C at_160 rfl rfl ?_
      refine W.if_ (q := 170) (q' := 164) X142 C at_161 (by decide) (by decide) rfl (fun hc143 => ?_) (fun hc143 => ?_)
      · replace hc143 : p1.toInt ≤ (0 : Int32).toInt := hc143
        refine W.iload (q := 172) X142 C at_170 rfl rfl ?_
        refine W.iconst (q := 173) (v := 2) X142 C at_172 rfl rfl ?_
        refine W.icmpF (q := 176) X142 C at_173 rfl (by decide : W.cF .lt (3 : Int32) (2 : Int32)) ?_
        refine W.iloadN (q := 177) X142 C at_176 rfl rfl ?_
        refine W.if_ (q := 188) (q' := 180) X142 C at_177 (by decide) (by decide) rfl (fun hc144 => ?_) (fun hc144 => ?_)
        · replace hc144 : p2.toInt ≤ (0 : Int32).toInt := hc144
          refine W.iload (q := 190) X142 C at_188 rfl rfl ?_
          refine W.iconst (q := 191) (v := 3) X142 C at_190 rfl rfl ?_
          refine W.icmpF (q := 194) X142 C at_191 rfl (by decide : W.cF .lt (3 : Int32) (3 : Int32)) ?_
          refine W.iloadN (q := 195) X142 C at_194 rfl rfl ?_
          refine W.if_ (q := 206) (q' := 198) X142 C at_195 (by decide) (by decide) rfl (fun hc145 => ?_) (fun hc145 => ?_)
          · replace hc145 : p3.toInt ≤ (0 : Int32).toInt := hc145
            refine W.iload (q := 208) X142 C at_206 rfl rfl ?_
            refine W.iconst (q := 209) (v := 4) X142 C at_208 rfl rfl ?_
            refine W.icmpT (q := 225) X142 C at_209 (by decide) (by decide) (by decide : W.cT .lt (3 : Int32) (4 : Int32)) ?_
            refine W.dconst0 (q := 226) (v := 0) X142 C at_225 rfl rfl ?_
            refine W.dstore (q := 228) (L' := #[.val (.int p0), .val (.int p1), .val (.int p2), .val (.int p3), .val (.int p4), .val (.int p5), .val (.int (3 : Int32)), .val (.ref b123), .val (.ref b132), .val (.ref b136), .val (.double (own_rr [p1, p2, p3])), .second, .val (.double (0 : UInt64)), .second]) X142 C at_226 rfl rfl ?_
            refine W.dload (q := 230) X142 C at_228 rfl rfl ?_
            refine W.dload (q := 232) X142 C at_230 rfl rfl ?_
            refine W.dcmp (q := 233) (v := 0) X142 C at_232 (by rw [show (own_rr [p1, p2, p3]) = (0 : UInt64) by simp [own_rr, own_le hc143, own_le hc144, own_le hc145]]; decide +kernel) rfl ?_
            refine W.ifF (q := 236) X142 C at_233 rfl (by decide : W.cF .ne (0 : Int32) 0) ?_
            refine W.iconst (q := 237) (v := 1) X142 C at_236 rfl rfl ?_
            refine W.goto (q := 241) X142 C at_237 (by decide) (by decide) ?_
            exact W.retN X142 C (by simp) e142 at_241 rfl (by decide) (by decide) ⟨rfl, N142⟩
          · replace hc145 : (0 : Int32).toInt < p3.toInt := hc145
            refine W.ldcD (q := 201) X142 C (W.ww hw 21 rfl) at_198 rfl ?_
            refine W.dstore (q := 203) (L' := #[.val (.int p0), .val (.int p1), .val (.int p2), .val (.int p3), .val (.int p4), .val (.int p5), .val (.int (3 : Int32)), .val (.ref b123), .val (.ref b132), .val (.ref b136), .val (.double (own_rr [p1, p2, p3])), .second, .val (.double (4599676419421066581 : UInt64)), .second]) X142 C at_201 rfl rfl ?_
            refine W.goto (q := 228) X142 C at_203 (by decide) (by decide) ?_
            refine W.dload (q := 230) X142 C at_228 rfl rfl ?_
            refine W.dload (q := 232) X142 C at_230 rfl rfl ?_
            refine W.dcmp (q := 233) (v := 0) X142 C at_232 (by rw [show (own_rr [p1, p2, p3]) = (4599676419421066581 : UInt64) by simp [own_rr, own_le hc143, own_le hc144, own_lt hc145]]; decide +kernel) rfl ?_
            refine W.ifF (q := 236) X142 C at_233 rfl (by decide : W.cF .ne (0 : Int32) 0) ?_
            refine W.iconst (q := 237) (v := 1) X142 C at_236 rfl rfl ?_
            refine W.goto (q := 241) X142 C at_237 (by decide) (by decide) ?_
            exact W.retN X142 C (by simp) e142 at_241 rfl (by decide) (by decide) ⟨rfl, N142⟩
        · replace hc144 : (0 : Int32).toInt < p2.toInt := hc144
          refine W.ldcD (q := 183) X142 C (W.ww hw 20 rfl) at_180 rfl ?_
          refine W.dstore (q := 185) (L' := #[.val (.int p0), .val (.int p1), .val (.int p2), .val (.int p3), .val (.int p4), .val (.int p5), .val (.int (3 : Int32)), .val (.ref b123), .val (.ref b132), .val (.ref b136), .val (.double (own_rr [p1, p2, p3])), .second, .val (.double (4602678819172646912 : UInt64)), .second]) X142 C at_183 rfl rfl ?_
          refine W.goto (q := 228) X142 C at_185 (by decide) (by decide) ?_
          refine W.dload (q := 230) X142 C at_228 rfl rfl ?_
          refine W.dload (q := 232) X142 C at_230 rfl rfl ?_
          refine W.dcmp (q := 233) (v := 0) X142 C at_232 (by rw [show (own_rr [p1, p2, p3]) = (4602678819172646912 : UInt64) by simp [own_rr, own_le hc143, own_lt hc144]]; decide +kernel) rfl ?_
          refine W.ifF (q := 236) X142 C at_233 rfl (by decide : W.cF .ne (0 : Int32) 0) ?_
          refine W.iconst (q := 237) (v := 1) X142 C at_236 rfl rfl ?_
          refine W.goto (q := 241) X142 C at_237 (by decide) (by decide) ?_
          exact W.retN X142 C (by simp) e142 at_241 rfl (by decide) (by decide) ⟨rfl, N142⟩
      · replace hc143 : (0 : Int32).toInt < p1.toInt := hc143
        refine W.dconst1 (q := 165) (v := 4607182418800017408) X142 C at_164 rfl rfl ?_
        refine W.dstore (q := 167) (L' := #[.val (.int p0), .val (.int p1), .val (.int p2), .val (.int p3), .val (.int p4), .val (.int p5), .val (.int (3 : Int32)), .val (.ref b123), .val (.ref b132), .val (.ref b136), .val (.double (own_rr [p1, p2, p3])), .second, .val (.double (4607182418800017408 : UInt64)), .second]) X142 C at_165 rfl rfl ?_
        refine W.goto (q := 228) X142 C at_167 (by decide) (by decide) ?_
        refine W.dload (q := 230) X142 C at_228 rfl rfl ?_
        refine W.dload (q := 232) X142 C at_230 rfl rfl ?_
        refine W.dcmp (q := 233) (v := 0) X142 C at_232 (by rw [show (own_rr [p1, p2, p3]) = (4607182418800017408 : UInt64) by simp [own_rr, own_lt hc143]]; decide +kernel) rfl ?_
        refine W.ifF (q := 236) X142 C at_233 rfl (by decide : W.cF .ne (0 : Int32) 0) ?_
        refine W.iconst (q := 237) (v := 1) X142 C at_236 rfl rfl ?_
        refine W.goto (q := 241) X142 C at_237 (by decide) (by decide) ?_
        exact W.retN X142 C (by simp) e142 at_241 rfl (by decide) (by decide) ⟨rfl, N142⟩
    · replace hc131 : (p5 &&& (1 : Int32)) ≠ 0 := hc131
      refine W.iconst (q := 117) (v := 0) X129 C at_116 rfl rfl ?_
      refine W.newarray (q := 119) X129 C (W.ww hw 1 rfl) e129 (by decide) 0 (by decide) (by decide) at_117 (by decide) (by decide) rfl (fun T146 h146 b146 k146 X146 e146 g146 E146 V146_ => ?_)
      have ne_b123_b146 : b123 ≠ b146 := by rw [g146]; exact Nat.ne_of_lt V129.lt
      have ge_b146 : n0 ≤ b146 := by rw [g146]; exact n0_129
      have n0_146 : n0 ≤ h146.size := Nat.le_trans n0_129 E146.1
      have V129_147 := V129.ext E146
      have V146 : Arv Z h146 b146 k146 .int (0 : Int32) [] (.int (0 : Int32)) := V146_
      refine W.astore (q := 121) (L' := #[.val (.int p0), .val (.int p1), .val (.int p2), .val (.int p3), .val (.int p4), .val (.int p5), .val (.int (3 : Int32)), .val (.ref b123), .val (.ref b146), .unset, .unset, .unset, .unset, .unset]) X146 C at_119 rfl rfl rfl ?_
      refine W.goto (q := 134) X146 C at_121 (by decide) (by decide) ?_
      refine W.newO (q := 137) X146 C (W.ww hw 2 rfl) (W.ww hw 3 rfl) (W.ww hw 4 rfl) e146 at_134 (by decide) (by decide) rfl (fun T148 h148 b148 X148 e148 g148 E148 A148 D148 => ?_)
      have ne_b123_b148 : b123 ≠ b148 := by rw [g148]; exact Nat.ne_of_lt V129_147.lt
      have ne_b146_b148 : b146 ≠ b148 := by rw [g148]; exact Nat.ne_of_lt V146.lt
      have ge_b148 : n0 ≤ b148 := by rw [g148]; exact n0_146
      have n0_148 : n0 ≤ h148.size := Nat.le_trans n0_146 E148.1
      have V129_149 := V129_147.ext E148
      have V146_149 := V146.ext E148
      have F_ranked_150 : Fld Z h148 b148 "com/example/cranfield/cranfield/measures/RankedQuery" "ranked" "[I" .null := D148 (Or.inr (W.ww hw 12 rfl)) (ty := (.array .int)) (by decide)
      have F_ideal_151 : Fld Z h148 b148 "com/example/cranfield/cranfield/measures/RankedQuery" "ideal" "[I" .null := D148 (Or.inr (W.ww hw 14 rfl)) (ty := (.array .int)) (by decide)
      refine W.dup (q := 138) X148 C at_137 rfl rfl ?_
      refine W.aload (q := 140) X148 C at_138 rfl rfl rfl ?_
      refine W.aload (q := 142) X148 C at_140 rfl rfl rfl ?_
      refine W.callI (q := 145) X148 C rfl (W.ww hw 5 rfl) (W.ww hw 6 rfl) (W.ww hw 4 rfl) (W.ww hw 7 rfl) (by decide) (rm1 l Z a0 hw [] b148 b123 b146 h148 n0 n0_148 A148 F_ranked_150 F_ideal_151 ge_b148) e148 at_142 (a := b148) [(.ref b123), (.ref b146)] [(.ref b148)] rfl rfl pd__28_5bI_5bI_29V rfl rfl (by decide) (Nat.le_of_ble_eq_true rfl) (by decide) (by decide) rfl (fun T152 w152 L152 X152 hQ152 => ?_)
      obtain ⟨rfl, NL152, K152, E_152, Fa_152, Fb_152⟩ := hQ152
      have N152 := Fr.app N129 NL152
      have V129_153 := V129_149.keep K152 (ninS ne_b123_b148 nin0)
      have V146_153 := V146_149.keep K152 (ninS ne_b146_b148 nin0)
      have n0_152 : n0 ≤ T152.heap.size := Nat.le_trans n0_148 K152.1
      show W.Go p e below _ (T152.setTop (mkF m 145 #[.val (.int p0), .val (.int p1), .val (.int p2), .val (.int p3), .val (.int p4), .val (.int p5), .val (.int (3 : Int32)), .val (.ref b123), .val (.ref b146), .unset, .unset, .unset, .unset, .unset] [(.ref b148)]))
      refine W.astore (q := 147) (L' := #[.val (.int p0), .val (.int p1), .val (.int p2), .val (.int p3), .val (.int p4), .val (.int p5), .val (.int (3 : Int32)), .val (.ref b123), .val (.ref b146), .val (.ref b148), .unset, .unset, .unset, .unset]) X152 C at_145 rfl rfl rfl ?_
      refine W.aload (q := 149) X152 C at_147 rfl rfl rfl ?_
      refine W.callV (q := 152) X152 C (W.ww hw 15 rfl) (W.ww hw 16 rfl) (W.nf C (W.ww hw 18 rfl)) (W.ww hw 18 rfl) (W.ww hw 17 rfl) (W.ww hw 4 rfl) (W.ww hw 19 rfl) (by decide) (rm3_3 l Z a0 hw [] b148 b123 k123 p1 p2 p3 T152.heap n0 Fa_152 V129_153) rfl E_152 at_149 [] [] rfl rfl pd__28_29D rfl rfl (by decide) (Nat.le_of_ble_eq_true rfl) (by decide) (by decide) rfl (fun T154 w154 L154 X154 hQ154 => ?_)
      obtain ⟨rfl, NL154, e154⟩ := hQ154
      have N154 := Fr.app N152 NL154
      show W.Go p e below _ (T154.setTop (mkF m 152 #[.val (.int p0), .val (.int p1), .val (.int p2), .val (.int p3), .val (.int p4), .val (.int p5), .val (.int (3 : Int32)), .val (.ref b123), .val (.ref b146), .val (.ref b148), .unset, .unset, .unset, .unset] [(.double (own_rr [p1, p2, p3]))]))
      refine W.dstore (q := 154) (L' := #[.val (.int p0), .val (.int p1), .val (.int p2), .val (.int p3), .val (.int p4), .val (.int p5), .val (.int (3 : Int32)), .val (.ref b123), .val (.ref b146), .val (.ref b148), .val (.double (own_rr [p1, p2, p3])), .second, .unset, .unset]) X154 C at_152 rfl rfl ?_
      refine W.iload (q := 156) X154 C at_154 rfl rfl ?_
      refine W.iconst (q := 157) (v := 1) X154 C at_156 rfl rfl ?_
      refine W.icmpF (q := 160) X154 C at_157 rfl (by decide : W.cF .lt (3 : Int32) (1 : Int32)) ?_
      refine W.iloadN (q := 161) X154 C at_160 rfl rfl ?_
      refine W.if_ (q := 170) (q' := 164) X154 C at_161 (by decide) (by decide) rfl (fun hc155 => ?_) (fun hc155 => ?_)
      · replace hc155 : p1.toInt ≤ (0 : Int32).toInt := hc155
        refine W.iload (q := 172) X154 C at_170 rfl rfl ?_
        refine W.iconst (q := 173) (v := 2) X154 C at_172 rfl rfl ?_
        refine W.icmpF (q := 176) X154 C at_173 rfl (by decide : W.cF .lt (3 : Int32) (2 : Int32)) ?_
        refine W.iloadN (q := 177) X154 C at_176 rfl rfl ?_
        refine W.if_ (q := 188) (q' := 180) X154 C at_177 (by decide) (by decide) rfl (fun hc156 => ?_) (fun hc156 => ?_)
        · replace hc156 : p2.toInt ≤ (0 : Int32).toInt := hc156
          refine W.iload (q := 190) X154 C at_188 rfl rfl ?_
          refine W.iconst (q := 191) (v := 3) X154 C at_190 rfl rfl ?_
          refine W.icmpF (q := 194) X154 C at_191 rfl (by decide : W.cF .lt (3 : Int32) (3 : Int32)) ?_
          refine W.iloadN (q := 195) X154 C at_194 rfl rfl ?_
          refine W.if_ (q := 206) (q' := 198) X154 C at_195 (by decide) (by decide) rfl (fun hc157 => ?_) (fun hc157 => ?_)
          · replace hc157 : p3.toInt ≤ (0 : Int32).toInt := hc157
            refine W.iload (q := 208) X154 C at_206 rfl rfl ?_
            refine W.iconst (q := 209) (v := 4) X154 C at_208 rfl rfl ?_
            refine W.icmpT (q := 225) X154 C at_209 (by decide) (by decide) (by decide : W.cT .lt (3 : Int32) (4 : Int32)) ?_
            refine W.dconst0 (q := 226) (v := 0) X154 C at_225 rfl rfl ?_
            refine W.dstore (q := 228) (L' := #[.val (.int p0), .val (.int p1), .val (.int p2), .val (.int p3), .val (.int p4), .val (.int p5), .val (.int (3 : Int32)), .val (.ref b123), .val (.ref b146), .val (.ref b148), .val (.double (own_rr [p1, p2, p3])), .second, .val (.double (0 : UInt64)), .second]) X154 C at_226 rfl rfl ?_
            refine W.dload (q := 230) X154 C at_228 rfl rfl ?_
            refine W.dload (q := 232) X154 C at_230 rfl rfl ?_
            refine W.dcmp (q := 233) (v := 0) X154 C at_232 (by rw [show (own_rr [p1, p2, p3]) = (0 : UInt64) by simp [own_rr, own_le hc155, own_le hc156, own_le hc157]]; decide +kernel) rfl ?_
            refine W.ifF (q := 236) X154 C at_233 rfl (by decide : W.cF .ne (0 : Int32) 0) ?_
            refine W.iconst (q := 237) (v := 1) X154 C at_236 rfl rfl ?_
            refine W.goto (q := 241) X154 C at_237 (by decide) (by decide) ?_
            exact W.retN X154 C (by simp) e154 at_241 rfl (by decide) (by decide) ⟨rfl, N154⟩
          · replace hc157 : (0 : Int32).toInt < p3.toInt := hc157
            refine W.ldcD (q := 201) X154 C (W.ww hw 21 rfl) at_198 rfl ?_
            refine W.dstore (q := 203) (L' := #[.val (.int p0), .val (.int p1), .val (.int p2), .val (.int p3), .val (.int p4), .val (.int p5), .val (.int (3 : Int32)), .val (.ref b123), .val (.ref b146), .val (.ref b148), .val (.double (own_rr [p1, p2, p3])), .second, .val (.double (4599676419421066581 : UInt64)), .second]) X154 C at_201 rfl rfl ?_
            refine W.goto (q := 228) X154 C at_203 (by decide) (by decide) ?_
            refine W.dload (q := 230) X154 C at_228 rfl rfl ?_
            refine W.dload (q := 232) X154 C at_230 rfl rfl ?_
            refine W.dcmp (q := 233) (v := 0) X154 C at_232 (by rw [show (own_rr [p1, p2, p3]) = (4599676419421066581 : UInt64) by simp [own_rr, own_le hc155, own_le hc156, own_lt hc157]]; decide +kernel) rfl ?_
            refine W.ifF (q := 236) X154 C at_233 rfl (by decide : W.cF .ne (0 : Int32) 0) ?_
            refine W.iconst (q := 237) (v := 1) X154 C at_236 rfl rfl ?_
            refine W.goto (q := 241) X154 C at_237 (by decide) (by decide) ?_
            exact W.retN X154 C (by simp) e154 at_241 rfl (by decide) (by decide) ⟨rfl, N154⟩
        · replace hc156 : (0 : Int32).toInt < p2.toInt := hc156
          refine W.ldcD (q := 183) X154 C (W.ww hw 20 rfl) at_180 rfl ?_
          refine W.dstore (q := 185) (L' := #[.val (.int p0), .val (.int p1), .val (.int p2), .val (.int p3), .val (.int p4), .val (.int p5), .val (.int (3 : Int32)), .val (.ref b123), .val (.ref b146), .val (.ref b148), .val (.double (own_rr [p1, p2, p3])), .second, .val (.double (4602678819172646912 : UInt64)), .second]) X154 C at_183 rfl rfl ?_
          refine W.goto (q := 228) X154 C at_185 (by decide) (by decide) ?_
          refine W.dload (q := 230) X154 C at_228 rfl rfl ?_
          refine W.dload (q := 232) X154 C at_230 rfl rfl ?_
          refine W.dcmp (q := 233) (v := 0) X154 C at_232 (by rw [show (own_rr [p1, p2, p3]) = (4602678819172646912 : UInt64) by simp [own_rr, own_le hc155, own_lt hc156]]; decide +kernel) rfl ?_
          refine W.ifF (q := 236) X154 C at_233 rfl (by decide : W.cF .ne (0 : Int32) 0) ?_
          refine W.iconst (q := 237) (v := 1) X154 C at_236 rfl rfl ?_
          refine W.goto (q := 241) X154 C at_237 (by decide) (by decide) ?_
          exact W.retN X154 C (by simp) e154 at_241 rfl (by decide) (by decide) ⟨rfl, N154⟩
      · replace hc155 : (0 : Int32).toInt < p1.toInt := hc155
        refine W.dconst1 (q := 165) (v := 4607182418800017408) X154 C at_164 rfl rfl ?_
        refine W.dstore (q := 167) (L' := #[.val (.int p0), .val (.int p1), .val (.int p2), .val (.int p3), .val (.int p4), .val (.int p5), .val (.int (3 : Int32)), .val (.ref b123), .val (.ref b146), .val (.ref b148), .val (.double (own_rr [p1, p2, p3])), .second, .val (.double (4607182418800017408 : UInt64)), .second]) X154 C at_165 rfl rfl ?_
        refine W.goto (q := 228) X154 C at_167 (by decide) (by decide) ?_
        refine W.dload (q := 230) X154 C at_228 rfl rfl ?_
        refine W.dload (q := 232) X154 C at_230 rfl rfl ?_
        refine W.dcmp (q := 233) (v := 0) X154 C at_232 (by rw [show (own_rr [p1, p2, p3]) = (4607182418800017408 : UInt64) by simp [own_rr, own_lt hc155]]; decide +kernel) rfl ?_
        refine W.ifF (q := 236) X154 C at_233 rfl (by decide : W.cF .ne (0 : Int32) 0) ?_
        refine W.iconst (q := 237) (v := 1) X154 C at_236 rfl rfl ?_
        refine W.goto (q := 241) X154 C at_237 (by decide) (by decide) ?_
        exact W.retN X154 C (by simp) e154 at_241 rfl (by decide) (by decide) ⟨rfl, N154⟩
  · show W.Go p e below _ (T0.setTop (mkF m 8 #[.val (.int p0), .val (.int p1), .val (.int p2), .val (.int p3), .val (.int p4), .val (.int p5), .val (.int (4 : Int32)), .unset, .unset, .unset, .unset, .unset, .unset, .unset] []))
    refine W.iload (q := 10) X0 C at_8 rfl rfl ?_
    refine W.ifT (q := 21) X0 C at_10 (by decide) (by decide) (by decide : W.cT .ne (4 : Int32) 0) ?_
    refine W.iload (q := 23) X0 C at_21 rfl rfl ?_
    refine W.iconst (q := 24) (v := 1) X0 C at_23 rfl rfl ?_
    refine W.icmpT (q := 39) X0 C at_24 (by decide) (by decide) (by decide : W.cT .ne (4 : Int32) (1 : Int32)) ?_
    refine W.iload (q := 41) X0 C at_39 rfl rfl ?_
    refine W.iconst (q := 42) (v := 2) X0 C at_41 rfl rfl ?_
    refine W.icmpT (q := 61) X0 C at_42 (by decide) (by decide) (by decide : W.cT .ne (4 : Int32) (2 : Int32)) ?_
    refine W.iload (q := 63) X0 C at_61 rfl rfl ?_
    refine W.iconst (q := 64) (v := 3) X0 C at_63 rfl rfl ?_
    refine W.icmpT (q := 87) X0 C at_64 (by decide) (by decide) (by decide : W.cT .ne (4 : Int32) (3 : Int32)) ?_
    refine W.iconst (q := 88) (v := 4) X0 C at_87 rfl rfl ?_
    refine W.newarray (q := 90) X0 C (W.ww hw 1 rfl) e0 (by decide) 4 (by decide) (by decide) at_88 (by decide) (by decide) rfl (fun T158 h158 b158 k158 X158 e158 g158 E158 V158_ => ?_)
    have ge_b158 : n0 ≤ b158 := by rw [g158]; exact Z0
    have n0_158 : n0 ≤ h158.size := Nat.le_trans Z0 E158.1
    have V158 : Arv Z h158 b158 k158 .int (4 : Int32) [(.int (0 : Int32)), (.int (0 : Int32)), (.int (0 : Int32)), (.int (0 : Int32))] (.int (0 : Int32)) := V158_
    refine W.dup (q := 91) X158 C at_90 rfl rfl ?_
    refine W.iconst (q := 92) (v := 0) X158 C at_91 rfl rfl ?_
    refine W.iloadN (q := 93) X158 C at_92 rfl rfl ?_
    refine W.iastore (q := 94) X158 C e158 V158  (by decide) (by decide) (Nat.le_of_ble_eq_true rfl) at_93 rfl (fun T160 h160 X160 e160 W160 V160_ => ?_)
    have V160 : Arv Z h160 b158 k158 .int (4 : Int32) [(.int p1), (.int (0 : Int32)), (.int (0 : Int32)), (.int (0 : Int32))] (.int (0 : Int32)) := V160_
    have N160 := Fr.snoc X160 N0 ge_b158
    have n0_160 : n0 ≤ h160.size := by rw [W160.size]; exact n0_158
    refine W.dup (q := 95) X160 C at_94 rfl rfl ?_
    refine W.iconst (q := 96) (v := 1) X160 C at_95 rfl rfl ?_
    refine W.iloadN (q := 97) X160 C at_96 rfl rfl ?_
    refine W.iastore (q := 98) X160 C e160 V160  (by decide) (by decide) (Nat.le_of_ble_eq_true rfl) at_97 rfl (fun T162 h162 X162 e162 W162 V162_ => ?_)
    have V162 : Arv Z h162 b158 k158 .int (4 : Int32) [(.int p1), (.int p2), (.int (0 : Int32)), (.int (0 : Int32))] (.int (0 : Int32)) := V162_
    have N162 := Fr.snoc X162 N160 ge_b158
    have n0_162 : n0 ≤ h162.size := by rw [W162.size]; exact n0_160
    refine W.dup (q := 99) X162 C at_98 rfl rfl ?_
    refine W.iconst (q := 100) (v := 2) X162 C at_99 rfl rfl ?_
    refine W.iloadN (q := 101) X162 C at_100 rfl rfl ?_
    refine W.iastore (q := 102) X162 C e162 V162  (by decide) (by decide) (Nat.le_of_ble_eq_true rfl) at_101 rfl (fun T164 h164 X164 e164 W164 V164_ => ?_)
    have V164 : Arv Z h164 b158 k158 .int (4 : Int32) [(.int p1), (.int p2), (.int p3), (.int (0 : Int32))] (.int (0 : Int32)) := V164_
    have N164 := Fr.snoc X164 N162 ge_b158
    have n0_164 : n0 ≤ h164.size := by rw [W164.size]; exact n0_162
    refine W.dup (q := 103) X164 C at_102 rfl rfl ?_
    refine W.iconst (q := 104) (v := 3) X164 C at_103 rfl rfl ?_
    refine W.iload (q := 106) X164 C at_104 rfl rfl ?_
    refine W.iastore (q := 107) X164 C e164 V164  (by decide) (by decide) (Nat.le_of_ble_eq_true rfl) at_106 rfl (fun T166 h166 X166 e166 W166 V166_ => ?_)
    have V166 : Arv Z h166 b158 k158 .int (4 : Int32) [(.int p1), (.int p2), (.int p3), (.int p4)] (.int (0 : Int32)) := V166_
    have N166 := Fr.snoc X166 N164 ge_b158
    have n0_166 : n0 ≤ h166.size := by rw [W166.size]; exact n0_164
    refine W.astore (q := 109) (L' := #[.val (.int p0), .val (.int p1), .val (.int p2), .val (.int p3), .val (.int p4), .val (.int p5), .val (.int (4 : Int32)), .val (.ref b158), .unset, .unset, .unset, .unset, .unset, .unset]) X166 C at_107 rfl rfl rfl ?_
    refine W.iload (q := 111) X166 C at_109 rfl rfl ?_
    refine W.iconst (q := 112) (v := 1) X166 C at_111 rfl rfl ?_
    refine W.iand (q := 113) X166 C at_112 rfl ?_
    refine W.if_ (q := 124) (q' := 116) X166 C at_113 (by decide) (by decide) rfl (fun hc168 => ?_) (fun hc168 => ?_)
    · replace hc168 : (p5 &&& (1 : Int32)) = 0 := hc168
      refine W.iconst (q := 125) (v := 1) X166 C at_124 rfl rfl ?_
      refine W.newarray (q := 127) X166 C (W.ww hw 1 rfl) e166 (by decide) 1 (by decide) (by decide) at_125 (by decide) (by decide) rfl (fun T169 h169 b169 k169 X169 e169 g169 E169 V169_ => ?_)
      have ne_b158_b169 : b158 ≠ b169 := by rw [g169]; exact Nat.ne_of_lt V166.lt
      have ge_b169 : n0 ≤ b169 := by rw [g169]; exact n0_166
      have n0_169 : n0 ≤ h169.size := Nat.le_trans n0_166 E169.1
      have V166_170 := V166.ext E169
      have V169 : Arv Z h169 b169 k169 .int (1 : Int32) [(.int (0 : Int32))] (.int (0 : Int32)) := V169_
      refine W.dup (q := 128) X169 C at_127 rfl rfl ?_
      refine W.iconst (q := 129) (v := 0) X169 C at_128 rfl rfl ?_
      refine W.iload (q := 131) X169 C at_129 rfl rfl ?_
      refine W.iastore (q := 132) X169 C e169 V169  (by decide) (by decide) (Nat.le_of_ble_eq_true rfl) at_131 rfl (fun T171 h171 X171 e171 W171 V171_ => ?_)
      have V166_172 := V166_170.other W171 ne_b158_b169
      have V171 : Arv Z h171 b169 k169 .int (1 : Int32) [(.int p5)] (.int (0 : Int32)) := V171_
      have N171 := Fr.snoc X171 N166 ge_b169
      have n0_171 : n0 ≤ h171.size := by rw [W171.size]; exact n0_169
      refine W.astore (q := 134) (L' := #[.val (.int p0), .val (.int p1), .val (.int p2), .val (.int p3), .val (.int p4), .val (.int p5), .val (.int (4 : Int32)), .val (.ref b158), .val (.ref b169), .unset, .unset, .unset, .unset, .unset]) X171 C at_132 rfl rfl rfl ?_
      refine W.newO (q := 137) X171 C (W.ww hw 2 rfl) (W.ww hw 3 rfl) (W.ww hw 4 rfl) e171 at_134 (by decide) (by decide) rfl (fun T173 h173 b173 X173 e173 g173 E173 A173 D173 => ?_)
      have ne_b158_b173 : b158 ≠ b173 := by rw [g173]; exact Nat.ne_of_lt V166_172.lt
      have ne_b169_b173 : b169 ≠ b173 := by rw [g173]; exact Nat.ne_of_lt V171.lt
      have ge_b173 : n0 ≤ b173 := by rw [g173]; exact n0_171
      have n0_173 : n0 ≤ h173.size := Nat.le_trans n0_171 E173.1
      have V166_174 := V166_172.ext E173
      have V171_174 := V171.ext E173
      have F_ranked_175 : Fld Z h173 b173 "com/example/cranfield/cranfield/measures/RankedQuery" "ranked" "[I" .null := D173 (Or.inr (W.ww hw 12 rfl)) (ty := (.array .int)) (by decide)
      have F_ideal_176 : Fld Z h173 b173 "com/example/cranfield/cranfield/measures/RankedQuery" "ideal" "[I" .null := D173 (Or.inr (W.ww hw 14 rfl)) (ty := (.array .int)) (by decide)
      refine W.dup (q := 138) X173 C at_137 rfl rfl ?_
      refine W.aload (q := 140) X173 C at_138 rfl rfl rfl ?_
      refine W.aload (q := 142) X173 C at_140 rfl rfl rfl ?_
      refine W.callI (q := 145) X173 C rfl (W.ww hw 5 rfl) (W.ww hw 6 rfl) (W.ww hw 4 rfl) (W.ww hw 7 rfl) (by decide) (rm1 l Z a0 hw [] b173 b158 b169 h173 n0 n0_173 A173 F_ranked_175 F_ideal_176 ge_b173) e173 at_142 (a := b173) [(.ref b158), (.ref b169)] [(.ref b173)] rfl rfl pd__28_5bI_5bI_29V rfl rfl (by decide) (Nat.le_of_ble_eq_true rfl) (by decide) (by decide) rfl (fun T177 w177 L177 X177 hQ177 => ?_)
      obtain ⟨rfl, NL177, K177, E_177, Fa_177, Fb_177⟩ := hQ177
      have N177 := Fr.app N171 NL177
      have V166_178 := V166_174.keep K177 (ninS ne_b158_b173 nin0)
      have V171_178 := V171_174.keep K177 (ninS ne_b169_b173 nin0)
      have n0_177 : n0 ≤ T177.heap.size := Nat.le_trans n0_173 K177.1
      show W.Go p e below _ (T177.setTop (mkF m 145 #[.val (.int p0), .val (.int p1), .val (.int p2), .val (.int p3), .val (.int p4), .val (.int p5), .val (.int (4 : Int32)), .val (.ref b158), .val (.ref b169), .unset, .unset, .unset, .unset, .unset] [(.ref b173)]))
      refine W.astore (q := 147) (L' := #[.val (.int p0), .val (.int p1), .val (.int p2), .val (.int p3), .val (.int p4), .val (.int p5), .val (.int (4 : Int32)), .val (.ref b158), .val (.ref b169), .val (.ref b173), .unset, .unset, .unset, .unset]) X177 C at_145 rfl rfl rfl ?_
      refine W.aload (q := 149) X177 C at_147 rfl rfl rfl ?_
      refine W.callV (q := 152) X177 C (W.ww hw 15 rfl) (W.ww hw 16 rfl) (W.nf C (W.ww hw 18 rfl)) (W.ww hw 18 rfl) (W.ww hw 17 rfl) (W.ww hw 4 rfl) (W.ww hw 19 rfl) (by decide) (rm3_4 l Z a0 hw [] b173 b158 k158 p1 p2 p3 p4 T177.heap n0 Fa_177 V166_178) rfl E_177 at_149 [] [] rfl rfl pd__28_29D rfl rfl (by decide) (Nat.le_of_ble_eq_true rfl) (by decide) (by decide) rfl (fun T179 w179 L179 X179 hQ179 => ?_)
      obtain ⟨rfl, NL179, e179⟩ := hQ179
      have N179 := Fr.app N177 NL179
      show W.Go p e below _ (T179.setTop (mkF m 152 #[.val (.int p0), .val (.int p1), .val (.int p2), .val (.int p3), .val (.int p4), .val (.int p5), .val (.int (4 : Int32)), .val (.ref b158), .val (.ref b169), .val (.ref b173), .unset, .unset, .unset, .unset] [(.double (own_rr [p1, p2, p3, p4]))]))
      refine W.dstore (q := 154) (L' := #[.val (.int p0), .val (.int p1), .val (.int p2), .val (.int p3), .val (.int p4), .val (.int p5), .val (.int (4 : Int32)), .val (.ref b158), .val (.ref b169), .val (.ref b173), .val (.double (own_rr [p1, p2, p3, p4])), .second, .unset, .unset]) X179 C at_152 rfl rfl ?_
      refine W.iload (q := 156) X179 C at_154 rfl rfl ?_
      refine W.iconst (q := 157) (v := 1) X179 C at_156 rfl rfl ?_
      refine W.icmpF (q := 160) X179 C at_157 rfl (by decide : W.cF .lt (4 : Int32) (1 : Int32)) ?_
      refine W.iloadN (q := 161) X179 C at_160 rfl rfl ?_
      refine W.if_ (q := 170) (q' := 164) X179 C at_161 (by decide) (by decide) rfl (fun hc180 => ?_) (fun hc180 => ?_)
      · replace hc180 : p1.toInt ≤ (0 : Int32).toInt := hc180
        refine W.iload (q := 172) X179 C at_170 rfl rfl ?_
        refine W.iconst (q := 173) (v := 2) X179 C at_172 rfl rfl ?_
        refine W.icmpF (q := 176) X179 C at_173 rfl (by decide : W.cF .lt (4 : Int32) (2 : Int32)) ?_
        refine W.iloadN (q := 177) X179 C at_176 rfl rfl ?_
        refine W.if_ (q := 188) (q' := 180) X179 C at_177 (by decide) (by decide) rfl (fun hc181 => ?_) (fun hc181 => ?_)
        · replace hc181 : p2.toInt ≤ (0 : Int32).toInt := hc181
          refine W.iload (q := 190) X179 C at_188 rfl rfl ?_
          refine W.iconst (q := 191) (v := 3) X179 C at_190 rfl rfl ?_
          refine W.icmpF (q := 194) X179 C at_191 rfl (by decide : W.cF .lt (4 : Int32) (3 : Int32)) ?_
          refine W.iloadN (q := 195) X179 C at_194 rfl rfl ?_
          refine W.if_ (q := 206) (q' := 198) X179 C at_195 (by decide) (by decide) rfl (fun hc182 => ?_) (fun hc182 => ?_)
          · replace hc182 : p3.toInt ≤ (0 : Int32).toInt := hc182
            refine W.iload (q := 208) X179 C at_206 rfl rfl ?_
            refine W.iconst (q := 209) (v := 4) X179 C at_208 rfl rfl ?_
            refine W.icmpF (q := 212) X179 C at_209 rfl (by decide : W.cF .lt (4 : Int32) (4 : Int32)) ?_
            refine W.iload (q := 214) X179 C at_212 rfl rfl ?_
            refine W.if_ (q := 225) (q' := 217) X179 C at_214 (by decide) (by decide) rfl (fun hc183 => ?_) (fun hc183 => ?_)
            · replace hc183 : p4.toInt ≤ (0 : Int32).toInt := hc183
              refine W.dconst0 (q := 226) (v := 0) X179 C at_225 rfl rfl ?_
              refine W.dstore (q := 228) (L' := #[.val (.int p0), .val (.int p1), .val (.int p2), .val (.int p3), .val (.int p4), .val (.int p5), .val (.int (4 : Int32)), .val (.ref b158), .val (.ref b169), .val (.ref b173), .val (.double (own_rr [p1, p2, p3, p4])), .second, .val (.double (0 : UInt64)), .second]) X179 C at_226 rfl rfl ?_
              refine W.dload (q := 230) X179 C at_228 rfl rfl ?_
              refine W.dload (q := 232) X179 C at_230 rfl rfl ?_
              refine W.dcmp (q := 233) (v := 0) X179 C at_232 (by rw [show (own_rr [p1, p2, p3, p4]) = (0 : UInt64) by simp [own_rr, own_le hc180, own_le hc181, own_le hc182, own_le hc183]]; decide +kernel) rfl ?_
              refine W.ifF (q := 236) X179 C at_233 rfl (by decide : W.cF .ne (0 : Int32) 0) ?_
              refine W.iconst (q := 237) (v := 1) X179 C at_236 rfl rfl ?_
              refine W.goto (q := 241) X179 C at_237 (by decide) (by decide) ?_
              exact W.retN X179 C (by simp) e179 at_241 rfl (by decide) (by decide) ⟨rfl, N179⟩
            · replace hc183 : (0 : Int32).toInt < p4.toInt := hc183
              refine W.ldcD (q := 220) X179 C (W.ww hw 22 rfl) at_217 rfl ?_
              refine W.dstore (q := 222) (L' := #[.val (.int p0), .val (.int p1), .val (.int p2), .val (.int p3), .val (.int p4), .val (.int p5), .val (.int (4 : Int32)), .val (.ref b158), .val (.ref b169), .val (.ref b173), .val (.double (own_rr [p1, p2, p3, p4])), .second, .val (.double (4598175219545276416 : UInt64)), .second]) X179 C at_220 rfl rfl ?_
              refine W.goto (q := 228) X179 C at_222 (by decide) (by decide) ?_
              refine W.dload (q := 230) X179 C at_228 rfl rfl ?_
              refine W.dload (q := 232) X179 C at_230 rfl rfl ?_
              refine W.dcmp (q := 233) (v := 0) X179 C at_232 (by rw [show (own_rr [p1, p2, p3, p4]) = (4598175219545276416 : UInt64) by simp [own_rr, own_le hc180, own_le hc181, own_le hc182, own_lt hc183]]; decide +kernel) rfl ?_
              refine W.ifF (q := 236) X179 C at_233 rfl (by decide : W.cF .ne (0 : Int32) 0) ?_
              refine W.iconst (q := 237) (v := 1) X179 C at_236 rfl rfl ?_
              refine W.goto (q := 241) X179 C at_237 (by decide) (by decide) ?_
              exact W.retN X179 C (by simp) e179 at_241 rfl (by decide) (by decide) ⟨rfl, N179⟩
          · replace hc182 : (0 : Int32).toInt < p3.toInt := hc182
            refine W.ldcD (q := 201) X179 C (W.ww hw 21 rfl) at_198 rfl ?_
            refine W.dstore (q := 203) (L' := #[.val (.int p0), .val (.int p1), .val (.int p2), .val (.int p3), .val (.int p4), .val (.int p5), .val (.int (4 : Int32)), .val (.ref b158), .val (.ref b169), .val (.ref b173), .val (.double (own_rr [p1, p2, p3, p4])), .second, .val (.double (4599676419421066581 : UInt64)), .second]) X179 C at_201 rfl rfl ?_
            refine W.goto (q := 228) X179 C at_203 (by decide) (by decide) ?_
            refine W.dload (q := 230) X179 C at_228 rfl rfl ?_
            refine W.dload (q := 232) X179 C at_230 rfl rfl ?_
            refine W.dcmp (q := 233) (v := 0) X179 C at_232 (by rw [show (own_rr [p1, p2, p3, p4]) = (4599676419421066581 : UInt64) by simp [own_rr, own_le hc180, own_le hc181, own_lt hc182]]; decide +kernel) rfl ?_
            refine W.ifF (q := 236) X179 C at_233 rfl (by decide : W.cF .ne (0 : Int32) 0) ?_
            refine W.iconst (q := 237) (v := 1) X179 C at_236 rfl rfl ?_
            refine W.goto (q := 241) X179 C at_237 (by decide) (by decide) ?_
            exact W.retN X179 C (by simp) e179 at_241 rfl (by decide) (by decide) ⟨rfl, N179⟩
        · replace hc181 : (0 : Int32).toInt < p2.toInt := hc181
          refine W.ldcD (q := 183) X179 C (W.ww hw 20 rfl) at_180 rfl ?_
          refine W.dstore (q := 185) (L' := #[.val (.int p0), .val (.int p1), .val (.int p2), .val (.int p3), .val (.int p4), .val (.int p5), .val (.int (4 : Int32)), .val (.ref b158), .val (.ref b169), .val (.ref b173), .val (.double (own_rr [p1, p2, p3, p4])), .second, .val (.double (4602678819172646912 : UInt64)), .second]) X179 C at_183 rfl rfl ?_
          refine W.goto (q := 228) X179 C at_185 (by decide) (by decide) ?_
          refine W.dload (q := 230) X179 C at_228 rfl rfl ?_
          refine W.dload (q := 232) X179 C at_230 rfl rfl ?_
          refine W.dcmp (q := 233) (v := 0) X179 C at_232 (by rw [show (own_rr [p1, p2, p3, p4]) = (4602678819172646912 : UInt64) by simp [own_rr, own_le hc180, own_lt hc181]]; decide +kernel) rfl ?_
          refine W.ifF (q := 236) X179 C at_233 rfl (by decide : W.cF .ne (0 : Int32) 0) ?_
          refine W.iconst (q := 237) (v := 1) X179 C at_236 rfl rfl ?_
          refine W.goto (q := 241) X179 C at_237 (by decide) (by decide) ?_
          exact W.retN X179 C (by simp) e179 at_241 rfl (by decide) (by decide) ⟨rfl, N179⟩
      · replace hc180 : (0 : Int32).toInt < p1.toInt := hc180
        refine W.dconst1 (q := 165) (v := 4607182418800017408) X179 C at_164 rfl rfl ?_
        refine W.dstore (q := 167) (L' := #[.val (.int p0), .val (.int p1), .val (.int p2), .val (.int p3), .val (.int p4), .val (.int p5), .val (.int (4 : Int32)), .val (.ref b158), .val (.ref b169), .val (.ref b173), .val (.double (own_rr [p1, p2, p3, p4])), .second, .val (.double (4607182418800017408 : UInt64)), .second]) X179 C at_165 rfl rfl ?_
        refine W.goto (q := 228) X179 C at_167 (by decide) (by decide) ?_
        refine W.dload (q := 230) X179 C at_228 rfl rfl ?_
        refine W.dload (q := 232) X179 C at_230 rfl rfl ?_
        refine W.dcmp (q := 233) (v := 0) X179 C at_232 (by rw [show (own_rr [p1, p2, p3, p4]) = (4607182418800017408 : UInt64) by simp [own_rr, own_lt hc180]]; decide +kernel) rfl ?_
        refine W.ifF (q := 236) X179 C at_233 rfl (by decide : W.cF .ne (0 : Int32) 0) ?_
        refine W.iconst (q := 237) (v := 1) X179 C at_236 rfl rfl ?_
        refine W.goto (q := 241) X179 C at_237 (by decide) (by decide) ?_
        exact W.retN X179 C (by simp) e179 at_241 rfl (by decide) (by decide) ⟨rfl, N179⟩
    · replace hc168 : (p5 &&& (1 : Int32)) ≠ 0 := hc168
      refine W.iconst (q := 117) (v := 0) X166 C at_116 rfl rfl ?_
      refine W.newarray (q := 119) X166 C (W.ww hw 1 rfl) e166 (by decide) 0 (by decide) (by decide) at_117 (by decide) (by decide) rfl (fun T184 h184 b184 k184 X184 e184 g184 E184 V184_ => ?_)
      have ne_b158_b184 : b158 ≠ b184 := by rw [g184]; exact Nat.ne_of_lt V166.lt
      have ge_b184 : n0 ≤ b184 := by rw [g184]; exact n0_166
      have n0_184 : n0 ≤ h184.size := Nat.le_trans n0_166 E184.1
      have V166_185 := V166.ext E184
      have V184 : Arv Z h184 b184 k184 .int (0 : Int32) [] (.int (0 : Int32)) := V184_
      refine W.astore (q := 121) (L' := #[.val (.int p0), .val (.int p1), .val (.int p2), .val (.int p3), .val (.int p4), .val (.int p5), .val (.int (4 : Int32)), .val (.ref b158), .val (.ref b184), .unset, .unset, .unset, .unset, .unset]) X184 C at_119 rfl rfl rfl ?_
      refine W.goto (q := 134) X184 C at_121 (by decide) (by decide) ?_
      refine W.newO (q := 137) X184 C (W.ww hw 2 rfl) (W.ww hw 3 rfl) (W.ww hw 4 rfl) e184 at_134 (by decide) (by decide) rfl (fun T186 h186 b186 X186 e186 g186 E186 A186 D186 => ?_)
      have ne_b158_b186 : b158 ≠ b186 := by rw [g186]; exact Nat.ne_of_lt V166_185.lt
      have ne_b184_b186 : b184 ≠ b186 := by rw [g186]; exact Nat.ne_of_lt V184.lt
      have ge_b186 : n0 ≤ b186 := by rw [g186]; exact n0_184
      have n0_186 : n0 ≤ h186.size := Nat.le_trans n0_184 E186.1
      have V166_187 := V166_185.ext E186
      have V184_187 := V184.ext E186
      have F_ranked_188 : Fld Z h186 b186 "com/example/cranfield/cranfield/measures/RankedQuery" "ranked" "[I" .null := D186 (Or.inr (W.ww hw 12 rfl)) (ty := (.array .int)) (by decide)
      have F_ideal_189 : Fld Z h186 b186 "com/example/cranfield/cranfield/measures/RankedQuery" "ideal" "[I" .null := D186 (Or.inr (W.ww hw 14 rfl)) (ty := (.array .int)) (by decide)
      refine W.dup (q := 138) X186 C at_137 rfl rfl ?_
      refine W.aload (q := 140) X186 C at_138 rfl rfl rfl ?_
      refine W.aload (q := 142) X186 C at_140 rfl rfl rfl ?_
      refine W.callI (q := 145) X186 C rfl (W.ww hw 5 rfl) (W.ww hw 6 rfl) (W.ww hw 4 rfl) (W.ww hw 7 rfl) (by decide) (rm1 l Z a0 hw [] b186 b158 b184 h186 n0 n0_186 A186 F_ranked_188 F_ideal_189 ge_b186) e186 at_142 (a := b186) [(.ref b158), (.ref b184)] [(.ref b186)] rfl rfl pd__28_5bI_5bI_29V rfl rfl (by decide) (Nat.le_of_ble_eq_true rfl) (by decide) (by decide) rfl (fun T190 w190 L190 X190 hQ190 => ?_)
      obtain ⟨rfl, NL190, K190, E_190, Fa_190, Fb_190⟩ := hQ190
      have N190 := Fr.app N166 NL190
      have V166_191 := V166_187.keep K190 (ninS ne_b158_b186 nin0)
      have V184_191 := V184_187.keep K190 (ninS ne_b184_b186 nin0)
      have n0_190 : n0 ≤ T190.heap.size := Nat.le_trans n0_186 K190.1
      show W.Go p e below _ (T190.setTop (mkF m 145 #[.val (.int p0), .val (.int p1), .val (.int p2), .val (.int p3), .val (.int p4), .val (.int p5), .val (.int (4 : Int32)), .val (.ref b158), .val (.ref b184), .unset, .unset, .unset, .unset, .unset] [(.ref b186)]))
      refine W.astore (q := 147) (L' := #[.val (.int p0), .val (.int p1), .val (.int p2), .val (.int p3), .val (.int p4), .val (.int p5), .val (.int (4 : Int32)), .val (.ref b158), .val (.ref b184), .val (.ref b186), .unset, .unset, .unset, .unset]) X190 C at_145 rfl rfl rfl ?_
      refine W.aload (q := 149) X190 C at_147 rfl rfl rfl ?_
      refine W.callV (q := 152) X190 C (W.ww hw 15 rfl) (W.ww hw 16 rfl) (W.nf C (W.ww hw 18 rfl)) (W.ww hw 18 rfl) (W.ww hw 17 rfl) (W.ww hw 4 rfl) (W.ww hw 19 rfl) (by decide) (rm3_4 l Z a0 hw [] b186 b158 k158 p1 p2 p3 p4 T190.heap n0 Fa_190 V166_191) rfl E_190 at_149 [] [] rfl rfl pd__28_29D rfl rfl (by decide) (Nat.le_of_ble_eq_true rfl) (by decide) (by decide) rfl (fun T192 w192 L192 X192 hQ192 => ?_)
      obtain ⟨rfl, NL192, e192⟩ := hQ192
      have N192 := Fr.app N190 NL192
      show W.Go p e below _ (T192.setTop (mkF m 152 #[.val (.int p0), .val (.int p1), .val (.int p2), .val (.int p3), .val (.int p4), .val (.int p5), .val (.int (4 : Int32)), .val (.ref b158), .val (.ref b184), .val (.ref b186), .unset, .unset, .unset, .unset] [(.double (own_rr [p1, p2, p3, p4]))]))
      refine W.dstore (q := 154) (L' := #[.val (.int p0), .val (.int p1), .val (.int p2), .val (.int p3), .val (.int p4), .val (.int p5), .val (.int (4 : Int32)), .val (.ref b158), .val (.ref b184), .val (.ref b186), .val (.double (own_rr [p1, p2, p3, p4])), .second, .unset, .unset]) X192 C at_152 rfl rfl ?_
      refine W.iload (q := 156) X192 C at_154 rfl rfl ?_
      refine W.iconst (q := 157) (v := 1) X192 C at_156 rfl rfl ?_
      refine W.icmpF (q := 160) X192 C at_157 rfl (by decide : W.cF .lt (4 : Int32) (1 : Int32)) ?_
      refine W.iloadN (q := 161) X192 C at_160 rfl rfl ?_
      refine W.if_ (q := 170) (q' := 164) X192 C at_161 (by decide) (by decide) rfl (fun hc193 => ?_) (fun hc193 => ?_)
      · replace hc193 : p1.toInt ≤ (0 : Int32).toInt := hc193
        refine W.iload (q := 172) X192 C at_170 rfl rfl ?_
        refine W.iconst (q := 173) (v := 2) X192 C at_172 rfl rfl ?_
        refine W.icmpF (q := 176) X192 C at_173 rfl (by decide : W.cF .lt (4 : Int32) (2 : Int32)) ?_
        refine W.iloadN (q := 177) X192 C at_176 rfl rfl ?_
        refine W.if_ (q := 188) (q' := 180) X192 C at_177 (by decide) (by decide) rfl (fun hc194 => ?_) (fun hc194 => ?_)
        · replace hc194 : p2.toInt ≤ (0 : Int32).toInt := hc194
          refine W.iload (q := 190) X192 C at_188 rfl rfl ?_
          refine W.iconst (q := 191) (v := 3) X192 C at_190 rfl rfl ?_
          refine W.icmpF (q := 194) X192 C at_191 rfl (by decide : W.cF .lt (4 : Int32) (3 : Int32)) ?_
          refine W.iloadN (q := 195) X192 C at_194 rfl rfl ?_
          refine W.if_ (q := 206) (q' := 198) X192 C at_195 (by decide) (by decide) rfl (fun hc195 => ?_) (fun hc195 => ?_)
          · replace hc195 : p3.toInt ≤ (0 : Int32).toInt := hc195
            refine W.iload (q := 208) X192 C at_206 rfl rfl ?_
            refine W.iconst (q := 209) (v := 4) X192 C at_208 rfl rfl ?_
            refine W.icmpF (q := 212) X192 C at_209 rfl (by decide : W.cF .lt (4 : Int32) (4 : Int32)) ?_
            refine W.iload (q := 214) X192 C at_212 rfl rfl ?_
            refine W.if_ (q := 225) (q' := 217) X192 C at_214 (by decide) (by decide) rfl (fun hc196 => ?_) (fun hc196 => ?_)
            · replace hc196 : p4.toInt ≤ (0 : Int32).toInt := hc196
              refine W.dconst0 (q := 226) (v := 0) X192 C at_225 rfl rfl ?_
              refine W.dstore (q := 228) (L' := #[.val (.int p0), .val (.int p1), .val (.int p2), .val (.int p3), .val (.int p4), .val (.int p5), .val (.int (4 : Int32)), .val (.ref b158), .val (.ref b184), .val (.ref b186), .val (.double (own_rr [p1, p2, p3, p4])), .second, .val (.double (0 : UInt64)), .second]) X192 C at_226 rfl rfl ?_
              refine W.dload (q := 230) X192 C at_228 rfl rfl ?_
              refine W.dload (q := 232) X192 C at_230 rfl rfl ?_
              refine W.dcmp (q := 233) (v := 0) X192 C at_232 (by rw [show (own_rr [p1, p2, p3, p4]) = (0 : UInt64) by simp [own_rr, own_le hc193, own_le hc194, own_le hc195, own_le hc196]]; decide +kernel) rfl ?_
              refine W.ifF (q := 236) X192 C at_233 rfl (by decide : W.cF .ne (0 : Int32) 0) ?_
              refine W.iconst (q := 237) (v := 1) X192 C at_236 rfl rfl ?_
              refine W.goto (q := 241) X192 C at_237 (by decide) (by decide) ?_
              exact W.retN X192 C (by simp) e192 at_241 rfl (by decide) (by decide) ⟨rfl, N192⟩
            · replace hc196 : (0 : Int32).toInt < p4.toInt := hc196
              refine W.ldcD (q := 220) X192 C (W.ww hw 22 rfl) at_217 rfl ?_
              refine W.dstore (q := 222) (L' := #[.val (.int p0), .val (.int p1), .val (.int p2), .val (.int p3), .val (.int p4), .val (.int p5), .val (.int (4 : Int32)), .val (.ref b158), .val (.ref b184), .val (.ref b186), .val (.double (own_rr [p1, p2, p3, p4])), .second, .val (.double (4598175219545276416 : UInt64)), .second]) X192 C at_220 rfl rfl ?_
              refine W.goto (q := 228) X192 C at_222 (by decide) (by decide) ?_
              refine W.dload (q := 230) X192 C at_228 rfl rfl ?_
              refine W.dload (q := 232) X192 C at_230 rfl rfl ?_
              refine W.dcmp (q := 233) (v := 0) X192 C at_232 (by rw [show (own_rr [p1, p2, p3, p4]) = (4598175219545276416 : UInt64) by simp [own_rr, own_le hc193, own_le hc194, own_le hc195, own_lt hc196]]; decide +kernel) rfl ?_
              refine W.ifF (q := 236) X192 C at_233 rfl (by decide : W.cF .ne (0 : Int32) 0) ?_
              refine W.iconst (q := 237) (v := 1) X192 C at_236 rfl rfl ?_
              refine W.goto (q := 241) X192 C at_237 (by decide) (by decide) ?_
              exact W.retN X192 C (by simp) e192 at_241 rfl (by decide) (by decide) ⟨rfl, N192⟩
          · replace hc195 : (0 : Int32).toInt < p3.toInt := hc195
            refine W.ldcD (q := 201) X192 C (W.ww hw 21 rfl) at_198 rfl ?_
            refine W.dstore (q := 203) (L' := #[.val (.int p0), .val (.int p1), .val (.int p2), .val (.int p3), .val (.int p4), .val (.int p5), .val (.int (4 : Int32)), .val (.ref b158), .val (.ref b184), .val (.ref b186), .val (.double (own_rr [p1, p2, p3, p4])), .second, .val (.double (4599676419421066581 : UInt64)), .second]) X192 C at_201 rfl rfl ?_
            refine W.goto (q := 228) X192 C at_203 (by decide) (by decide) ?_
            refine W.dload (q := 230) X192 C at_228 rfl rfl ?_
            refine W.dload (q := 232) X192 C at_230 rfl rfl ?_
            refine W.dcmp (q := 233) (v := 0) X192 C at_232 (by rw [show (own_rr [p1, p2, p3, p4]) = (4599676419421066581 : UInt64) by simp [own_rr, own_le hc193, own_le hc194, own_lt hc195]]; decide +kernel) rfl ?_
            refine W.ifF (q := 236) X192 C at_233 rfl (by decide : W.cF .ne (0 : Int32) 0) ?_
            refine W.iconst (q := 237) (v := 1) X192 C at_236 rfl rfl ?_
            refine W.goto (q := 241) X192 C at_237 (by decide) (by decide) ?_
            exact W.retN X192 C (by simp) e192 at_241 rfl (by decide) (by decide) ⟨rfl, N192⟩
        · replace hc194 : (0 : Int32).toInt < p2.toInt := hc194
          refine W.ldcD (q := 183) X192 C (W.ww hw 20 rfl) at_180 rfl ?_
          refine W.dstore (q := 185) (L' := #[.val (.int p0), .val (.int p1), .val (.int p2), .val (.int p3), .val (.int p4), .val (.int p5), .val (.int (4 : Int32)), .val (.ref b158), .val (.ref b184), .val (.ref b186), .val (.double (own_rr [p1, p2, p3, p4])), .second, .val (.double (4602678819172646912 : UInt64)), .second]) X192 C at_183 rfl rfl ?_
          refine W.goto (q := 228) X192 C at_185 (by decide) (by decide) ?_
          refine W.dload (q := 230) X192 C at_228 rfl rfl ?_
          refine W.dload (q := 232) X192 C at_230 rfl rfl ?_
          refine W.dcmp (q := 233) (v := 0) X192 C at_232 (by rw [show (own_rr [p1, p2, p3, p4]) = (4602678819172646912 : UInt64) by simp [own_rr, own_le hc193, own_lt hc194]]; decide +kernel) rfl ?_
          refine W.ifF (q := 236) X192 C at_233 rfl (by decide : W.cF .ne (0 : Int32) 0) ?_
          refine W.iconst (q := 237) (v := 1) X192 C at_236 rfl rfl ?_
          refine W.goto (q := 241) X192 C at_237 (by decide) (by decide) ?_
          exact W.retN X192 C (by simp) e192 at_241 rfl (by decide) (by decide) ⟨rfl, N192⟩
      · replace hc193 : (0 : Int32).toInt < p1.toInt := hc193
        refine W.dconst1 (q := 165) (v := 4607182418800017408) X192 C at_164 rfl rfl ?_
        refine W.dstore (q := 167) (L' := #[.val (.int p0), .val (.int p1), .val (.int p2), .val (.int p3), .val (.int p4), .val (.int p5), .val (.int (4 : Int32)), .val (.ref b158), .val (.ref b184), .val (.ref b186), .val (.double (own_rr [p1, p2, p3, p4])), .second, .val (.double (4607182418800017408 : UInt64)), .second]) X192 C at_165 rfl rfl ?_
        refine W.goto (q := 228) X192 C at_167 (by decide) (by decide) ?_
        refine W.dload (q := 230) X192 C at_228 rfl rfl ?_
        refine W.dload (q := 232) X192 C at_230 rfl rfl ?_
        refine W.dcmp (q := 233) (v := 0) X192 C at_232 (by rw [show (own_rr [p1, p2, p3, p4]) = (4607182418800017408 : UInt64) by simp [own_rr, own_lt hc193]]; decide +kernel) rfl ?_
        refine W.ifF (q := 236) X192 C at_233 rfl (by decide : W.cF .ne (0 : Int32) 0) ?_
        refine W.iconst (q := 237) (v := 1) X192 C at_236 rfl rfl ?_
        refine W.goto (q := 241) X192 C at_237 (by decide) (by decide) ?_
        exact W.retN X192 C (by simp) e192 at_241 rfl (by decide) (by decide) ⟨rfl, N192⟩
set_option maxRecDepth 65536 in
set_option maxHeartbeats 40000000 in
theorem comes_1 {Post : Tables → Env → Array Value → State → Outcome → State → Prop} (hpost : ∀ tb e args s v u, (limb_1_1.after args s (.returned v) u = true ∧ limb_1_2.after args s (.returned v) u = true ∧ True) → FrameEnd s (.returned v) u (Jvm.fieldLocs frame_1_writes args s ++ Jvm.arrayLocs frame_1_arrays args s ++ Jvm.staticLocs frame_1_statics s) 16 128 → Post tb e args s (.returned v) u) :
    ArmFor flags0 classFile x code maxLocals ret World_1 tables_1 room_1 Calls_1 rest_1 Pre_1 Post := by
  intro l hfl _ _ p e ha hc hk s m args below hf hA hF happ hP
  obtain ⟨hcalls, hrest, hpre⟩ := hP
  obtain ⟨-, -, -, hnamed, -, -, -, hat⟩ := (Spec.applies_iff hf).mp happ
  obtain ⟨hg, hn⟩ := and_e (Cond.before_iff.mp (show (Jvm.Cond.and given_1 narrow_1).before args s = true from hpre))
  obtain ⟨g1, g2⟩ := and_e hg
  obtain ⟨g3, g4⟩ := and_e g2
  obtain ⟨g5, g6⟩ := and_e g4
  obtain ⟨g7, g8⟩ := and_e g6
  obtain ⟨g9, g10⟩ := and_e g8
  obtain ⟨g11, g12⟩ := and_e g10
  obtain ⟨w0, w1, w2, w3, w4, w5, rfl⟩ : ∃ w0 w1 w2 w3 w4 w5 : Value, args = #[w0, w1, w2, w3, w4, w5] := by
    have hs : args.size = 6 := by simpa [Cond.value, given_1] using g1
    obtain ⟨L⟩ := args
    match L, hs with
    | [w0, w1, w2, w3, w4, w5], _ => exact ⟨w0, w1, w2, w3, w4, w5, rfl⟩
  have hw := fun d (hd : d ∈ tables_1) => atoms_spec (ws := Jvm.Cond.code x code maxLocals ret :: tables_1) hat d (List.mem_cons_of_mem _ hd)
  have hfit : Fit s := fun {y c} hc i hi => by
    obtain ⟨ha, rfl⟩ := Array.getElem?_eq_some_iff.mp hc
    have q := List.all_eq_true.mp ((Array.all_eq_true_iff_forall_mem.mp hF) _ (Array.getElem_mem ha)) i (List.mem_range.mpr hi)
    simpa [Array.getElem?_eq_getElem hi] using q
  obtain ⟨i0, ei0⟩ := is_v g3
  obtain rfl : w0 = (.int i0) := Option.some.inj ei0
  obtain ⟨i1, ei1⟩ := is_v g5
  obtain rfl : w1 = (.int i1) := Option.some.inj ei1
  obtain ⟨i2, ei2⟩ := is_v g7
  obtain rfl : w2 = (.int i2) := Option.some.inj ei2
  obtain ⟨i3, ei3⟩ := is_v g9
  obtain rfl : w3 = (.int i3) := Option.some.inj ei3
  obtain ⟨i4, ei4⟩ := is_v g11
  obtain rfl : w4 = (.int i4) := Option.some.inj ei4
  obtain ⟨i5, ei5⟩ := is_v g12
  obtain rfl : w5 = (.int i5) := Option.some.inj ei5
  obtain ⟨n, o, h1, h2, h3, _, L, rfl, ⟨rfl, N⟩, hq⟩ := rm0 l s _ hw tables_1 i0 i1 i2 i3 i4 i5 s.heap s.heap.size (Nat.le_refl _) p e ha hc hk s m _ below hf ((Spec.applies_iff_loose hf).mp happ).1 ⟨rfl, State.Warmed39.refl s, rfl⟩ trivial
  refine ⟨n, _, h1, h2, h3, hpost _ _ _ _ _ _ ⟨Cond.after_iff.mpr rfl, Cond.after_iff.mpr (eq_i res_at (Term.int_eval (1)) rfl), trivial⟩ ⟨hq.1, hq.2.1, (hq.2.2.sift fun y hy => Or.inr (N y hy)).mono (by decide) (by decide)⟩⟩
theorem main_1_1 : Claimed_1_1 := comes_1 fun _ _ _ _ _ _ h hF => ⟨h.1, hF⟩
theorem main_1_2 : Claimed_1_2 := comes_1 fun _ _ _ _ _ _ h hF => ⟨h.2.1, hF⟩
end Jvm.Pilot.@@N@@
namespace Jvm.Pilot.@@N@@
open Jvm Jvm.ClassFile Sem Op Lib Jvm.Free Jvm.Stand Jvm.Pilot.@@N@@.Jvm.D
/-! MADE BY PROGRAM (witnessworld.py) out of the Statement's table words and the real class files: 9 classes; the members and pool entries that the words name. The judged class is class 1, her method 1. -/
namespace start1
open Jvm.ClassFile
def u (s : String) : CpInfo := .utf8 (stringToUtf16 s)
/-- a pool by its gaps: so many unusable entries, then the entry; so many at the end -/
def gap : Nat → List CpInfo → List CpInfo
  | 0, r => r
  | n + 1, r => .unusable :: gap n r
def poolList (es : List (Nat × CpInfo)) (last : Nat) : List CpInfo := es.foldr (fun e r => gap e.1 (e.2 :: r)) (gap last [])
def pool (es : List (Nat × CpInfo)) (last : Nat) : Array CpInfo := ⟨poolList es last⟩
def fileOf (pool : Array CpInfo) (this : Nat) (attrs : Array Attribute := #[]) (ms : Array MethodInfo := #[]) (fl : Nat := 33) (sup : Nat := 0) (ifs : Array Nat := #[]) (fds : Array FieldInfo := #[]) : ClassFile where
  minorVersion := 0
  majorVersion := 65
  constantPool := pool
  accessFlags := fl
  thisClass := this
  superClass := sup
  interfaces := ifs
  fields := fds
  methods := ms
  attributes := attrs
def plain (name : String) (sup : Option ClassId) : Class where
  name := name
  kind := .ordinary
  loader := none
  accessFlags := 33
  super := sup
  interfaces := #[]
  cf := none
  fields := #[]
  methods := #[]
  instanceTypes := #[]
  staticTypes := #[]
  resolved := #[]
  callSites := []
  init := .initialized
  statics := none
  mirror := none

def pool0 : Array CpInfo := pool [(5, u "<init>"), (0, u "()V"), (1, .class_ 10), (1, u "java/lang/Object")] 113

def k0c0 : Code := { maxStack := 0, maxLocals := 1, code := object_method_1_code, exceptionTable := #[], attributes := #[] }
def k0m0 : Method := { name := "<init>", desc := "()V", sig := { parameters := [], returnType := none }, accessFlags := 1, code := some k0c0 }
/-- java/lang/Object -/
def k0 : Class := { plain "java/lang/Object" none with
  accessFlags := 33
  interfaces := #[]
  cf := some (fileOf pool0 8 #[] #[{ accessFlags := 1, nameIndex := 5, descriptorIndex := 6, attributes := #[] }] 33 0 #[] #[])
  fields := #[]
  methods := #[k0m0]
  instanceTypes := #[]
  staticTypes := #[]
  resolved := Array.replicate 124 none
  statics := none }

def pool1 : Array CpInfo := pool [(2, .class_ 4), (1, u "java/lang/Object"), (0, u "<init>"), (0, u "()V"), (0, .integer 2147483647), (0, .class_ 9), (0, u "com/example/cranfield/cranfield/measures/RankedQuery"), (0, .methodref 8 11), (0, .nameAndType 5 12), (0, u "([I[I)V"), (0, .methodref 8 14), (0, .nameAndType 15 16), (0, u "reciprocalRank"), (0, u "()D"), (0, .double 4602678819172646912), (1, .double 4599676419421066581), (1, .double 4598175219545276416), (1, .class_ 24), (0, u "com/example/cranfield/cranfield/measures/RankedQueryReciprocalRankPinLaw"), (2, u "law"), (0, u "(IIIIII)Z")] 5

def k1m0 : Method := { name := "<init>", desc := "()V", sig := { parameters := [], returnType := none }, accessFlags := 1, code := none }
def k1c1 : Code := { maxStack := 4, maxLocals := 14, code := code, exceptionTable := #[], attributes := #[] }
def k1m1 : Method := { name := "law", desc := "(IIIIII)Z", sig := { parameters := [.int, .int, .int, .int, .int, .int], returnType := some .boolean }, accessFlags := 9, code := some k1c1 }
/-- com/example/cranfield/cranfield/measures/RankedQueryReciprocalRankPinLaw -/
def k1 : Class := { plain "com/example/cranfield/cranfield/measures/RankedQueryReciprocalRankPinLaw" (some 0) with
  accessFlags := 49
  interfaces := #[]
  cf := some (fileOf pool1 23 #[] #[{ accessFlags := 1, nameIndex := 5, descriptorIndex := 6, attributes := #[] }, { accessFlags := 9, nameIndex := 27, descriptorIndex := 28, attributes := #[] }] 49 2 #[] #[])
  fields := #[]
  methods := #[k1m0, k1m1]
  instanceTypes := #[]
  staticTypes := #[]
  resolved := Array.replicate 34 none
  statics := none }

def pool2 : Array CpInfo := pool [(1, .methodref 2 3), (0, .class_ 4), (0, .nameAndType 5 6), (0, u "java/lang/Object"), (0, u "<init>"), (0, u "()V"), (0, .fieldref 8 9), (0, .class_ 10), (0, .nameAndType 11 12), (0, u "com/example/cranfield/cranfield/measures/RankedQuery"), (0, u "ranked"), (0, u "[I"), (0, .fieldref 8 14), (0, .nameAndType 15 12), (0, u "ideal"), (12, u "LN_2"), (0, u "D"), (6, u "([I[I)V"), (7, u "()D"), (0, u "reciprocalRank")] 3

def k2c0 : Code := { maxStack := 2, maxLocals := 3, code := prog_49_method_1_code, exceptionTable := #[], attributes := #[] }
def k2m0 : Method := { name := "<init>", desc := "([I[I)V", sig := { parameters := [(.array .int), (.array .int)], returnType := none }, accessFlags := 0, code := some k2c0 }
def k2c1 : Code := { maxStack := 4, maxLocals := 2, code := prog_49_method_5_code, exceptionTable := #[], attributes := #[] }
def k2m1 : Method := { name := "reciprocalRank", desc := "()D", sig := { parameters := [], returnType := some .double }, accessFlags := 0, code := some k2c1 }
/-- com/example/cranfield/cranfield/measures/RankedQuery -/
def k2 : Class := { plain "com/example/cranfield/cranfield/measures/RankedQuery" (some 0) with
  accessFlags := 48
  interfaces := #[]
  cf := some (fileOf pool2 8 #[] #[{ accessFlags := 0, nameIndex := 5, descriptorIndex := 36, attributes := #[] }, { accessFlags := 0, nameIndex := 45, descriptorIndex := 44, attributes := #[] }] 48 2 #[] #[{ accessFlags := 26, nameIndex := 28, descriptorIndex := 29, attributes := #[] }, { accessFlags := 18, nameIndex := 11, descriptorIndex := 12, attributes := #[] }, { accessFlags := 18, nameIndex := 15, descriptorIndex := 12, attributes := #[] }])
  fields := #[{ name := "LN_2", type := .double, accessFlags := 26, slot := 0, constantValue := 0 }, { name := "ranked", type := (.array .int), accessFlags := 18, slot := 0, constantValue := 0 }, { name := "ideal", type := (.array .int), accessFlags := 18, slot := 1, constantValue := 0 }]
  methods := #[k2m0, k2m1]
  instanceTypes := #[(.array .int), (.array .int)]
  staticTypes := #[.double]
  resolved := Array.replicate 49 none
  statics := none }

def pool3 : Array CpInfo := pool [(1, u "java/lang/Cloneable"), (0, .class_ 1), (0, u "java/lang/Object"), (0, .class_ 3)] 3

/-- java/lang/Cloneable -/
def k3 : Class := { plain "java/lang/Cloneable" (some 0) with
  accessFlags := 1537
  interfaces := #[]
  cf := some (fileOf pool3 2 #[] #[] 1537 4 #[] #[])
  fields := #[]
  methods := #[]
  instanceTypes := #[]
  staticTypes := #[]
  resolved := Array.replicate 8 none
  statics := none }

def pool4 : Array CpInfo := pool [(1, u "java/io/Serializable"), (0, .class_ 1), (0, u "java/lang/Object"), (0, .class_ 3)] 3

/-- java/io/Serializable -/
def k4 : Class := { plain "java/io/Serializable" (some 0) with
  accessFlags := 1537
  interfaces := #[]
  cf := some (fileOf pool4 2 #[] #[] 1537 4 #[] #[])
  fields := #[]
  methods := #[]
  instanceTypes := #[]
  staticTypes := #[]
  resolved := Array.replicate 8 none
  statics := none }

/-- the primitive byte -/
def k5 : Class := { plain "byte" none with kind := .primitive 'B', accessFlags := 0x411 }
/-- [B -/
def k6 : Class := { plain "[B" (some 0) with kind := .array 5 .byte, interfaces := #[3, 4], accessFlags := 1041 }

/-- the primitive int -/
def k7 : Class := { plain "int" none with kind := .primitive 'I', accessFlags := 0x411 }
/-- [I -/
def k8 : Class := { plain "[I" (some 0) with kind := .array 7 .int, interfaces := #[3, 4], accessFlags := 1041 }

def heap : Heap := #[]
def classes : Array Class := #[k0, k1, k2, k3, k4, k5, k6, k7, k8]
def interned : List (Array UInt16 × Addr) := []
def slotsUsed : Nat := 0
def theMethod : MethodId := ⟨1, 1⟩
def args0 : Array Value := #[.int 5, .int 6, .int 7, .int 8, .int 9, .int 10]
def aboutOver (below : List Frame) : State where
  vm := { classes := classes, interned := interned.toArray }
  heap := heap
  slotsUsed := slotsUsed
  threads := #[{ frames := .invoking theMethod args0 :: below }]
def below0 : List Frame := [.native { method := ⟨0, 0⟩, args := #[] }]
def about1 : State := aboutOver below0
def p0 : Program := .bare "" "" ""
def e0 : Env := launch0.env 0 0 0
theorem w_frames : about1.frames = Frame.invoking theMethod args0 :: below0 := rfl
set_option maxRecDepth 65536 in
theorem w_args : argsFit about1.vm theMethod args0 = true := by decide +kernel
set_option maxRecDepth 65536 in
theorem w_heap : heapFits about1 = true := by decide +kernel
set_option maxRecDepth 65536 in
theorem w_runnable : about1.curStatus? = some .runnable := by decide +kernel
set_option maxRecDepth 65536 in
theorem w_alone : about1.alone = true := by decide +kernel
set_option maxRecDepth 65536 in
theorem w_named : about1.methodNamed? x = some theMethod := by decide +kernel
set_option maxRecDepth 65536 in
theorem w_hears : about1.hears theMethod below0 = true := by decide +kernel
set_option maxRecDepth 65536 in
theorem w_ripe : about1.ripe theMethod args0 below0 = true := by decide +kernel
theorem w_running : about1.status = .running := rfl
set_option maxRecDepth 65536 in
theorem w_room : about1.hasRoom e0.platform room_1 = true :=
  launch0.hasRoom_least _ room_1 (by decide +kernel) (by decide +kernel) (by decide +kernel) (by decide +kernel) (by decide +kernel) (by decide +kernel)
theorem allAtoms_all (ts : List Jvm.Cond) (a : Array Jvm.Value) (st : Jvm.State) : (allAtoms ts).before a st = ts.all (fun c => c.before a st) := by
  induction ts with
  | nil => rfl
  | cons c t ih =>
    show (Jvm.Cond.and c (allAtoms t)).before a st = _
    rw [Jvm.Cond.before_and, ih, List.all_cons]
def words1 : List Jvm.Cond := Jvm.Cond.code x code maxLocals ret :: tables_1
/-- a 'code' word, met by the world's own term for the bytes: nothing is compared byte by byte -/
theorem code_word {y : MethodName} {bytes : ByteArray} {mx : Nat} {rt : Option FieldType} {a : Array Value} {s : State} {m : MethodId} {meth : Method} {c : Code} (h1 : s.methodNamed? y = some m) (h2 : s.vm.method? m = some meth) (h3 : meth.code = some c) (h4 : c.code = bytes)
    (h5 : (c.maxLocals == mx && c.exceptionTable.isEmpty && decide (c.maxStack ≤ mostOperands) && decide (meth.sig.returnType = rt) && !meth.locks && decide (parseMethodDescriptor y.desc = some meth.sig)) = true) : (Jvm.Cond.code y bytes mx rt).before a s = true := by
  simp only [Bool.and_eq_true, beq_iff_eq, Bool.not_eq_true', decide_eq_true_eq] at h5
  obtain ⟨⟨⟨⟨⟨g1, g2⟩, g3⟩, g4⟩, g5⟩, g6⟩ := h5
  simp [Cond.before, Cond.holds, Cond.value, h1, h2, h3, h4, g1, g2, g3, g4, g5, g6]
def isCode : Jvm.Cond → Bool
  | .code _ _ _ _ => true
  | _ => false
theorem all_split {L : List Jvm.Cond} {P : Jvm.Cond → Bool} (h1 : L.all (fun c => isCode c || P c) = true) (h2 : ∀ c ∈ L.filter isCode, P c = true) : L.all P = true := by
  refine List.all_eq_true.mpr fun c hc => ?_
  have h := List.all_eq_true.mp h1 c hc
  rcases Bool.eq_false_or_eq_true (isCode c) with hi | hi
  · exact h2 c (List.mem_filter.mpr ⟨hc, hi⟩)
  · simpa [hi] using h
set_option maxRecDepth 65536 in
theorem w_c0 : (Jvm.Cond.code x code maxLocals ret).before args0 about1 = true := code_word (m := ⟨1, 1⟩) (meth := k1m1) (c := k1c1) (by decide +kernel) rfl rfl rfl (by decide +kernel)
set_option maxRecDepth 65536 in
theorem w_c1 : (Jvm.Cond.code ({ cls := "com/example/cranfield/cranfield/measures/RankedQuery", name := "<init>", desc := "([I[I)V" } : Jvm.MethodName) prog_49_method_1_code (3 : Nat) (Option.none : Option Jvm.ClassFile.FieldType)).before args0 about1 = true := code_word (m := ⟨2, 0⟩) (meth := k2m0) (c := k2c0) (by decide +kernel) rfl rfl rfl (by decide +kernel)
set_option maxRecDepth 65536 in
theorem w_c2 : (Jvm.Cond.code ({ cls := "java/lang/Object", name := "<init>", desc := "()V" } : Jvm.MethodName) object_method_1_code (1 : Nat) (Option.none : Option Jvm.ClassFile.FieldType)).before args0 about1 = true := code_word (m := ⟨0, 0⟩) (meth := k0m0) (c := k0c0) (by decide +kernel) rfl rfl rfl (by decide +kernel)
set_option maxRecDepth 65536 in
theorem w_c3 : (Jvm.Cond.code ({ cls := "com/example/cranfield/cranfield/measures/RankedQuery", name := "reciprocalRank", desc := "()D" } : Jvm.MethodName) prog_49_method_5_code (2 : Nat) (Option.some Jvm.ClassFile.FieldType.double)).before args0 about1 = true := code_word (m := ⟨2, 1⟩) (meth := k2m1) (c := k2c1) (by decide +kernel) rfl rfl rfl (by decide +kernel)
def codes1 : List Jvm.Cond := [Jvm.Cond.code x code maxLocals ret, Jvm.Cond.code ({ cls := "com/example/cranfield/cranfield/measures/RankedQuery", name := "<init>", desc := "([I[I)V" } : Jvm.MethodName) prog_49_method_1_code (3 : Nat) (Option.none : Option Jvm.ClassFile.FieldType), Jvm.Cond.code ({ cls := "java/lang/Object", name := "<init>", desc := "()V" } : Jvm.MethodName) object_method_1_code (1 : Nat) (Option.none : Option Jvm.ClassFile.FieldType), Jvm.Cond.code ({ cls := "com/example/cranfield/cranfield/measures/RankedQuery", name := "reciprocalRank", desc := "()D" } : Jvm.MethodName) prog_49_method_5_code (2 : Nat) (Option.some Jvm.ClassFile.FieldType.double)]
set_option maxRecDepth 65536 in
theorem codes_eq : words1.filter isCode = codes1 := rfl
theorem w_codes : ∀ c ∈ words1.filter isCode, c.before args0 about1 = true := by
  rw [codes_eq]
  intro c hc
  simp only [codes1, List.mem_cons, List.not_mem_nil, or_false] at hc
  rcases hc with rfl | rfl | rfl | rfl
  · exact w_c0
  · exact w_c1
  · exact w_c2
  · exact w_c3
set_option maxRecDepth 65536 in
theorem w_t1 : words1.all (fun c => isCode c || c.before args0 about1) = true := by decide +kernel
theorem w_tables : (allAtoms (Jvm.Cond.code x code maxLocals ret :: tables_1)).before args0 about1 = true := by
  rw [allAtoms_all]
  show words1.all (fun c => c.before args0 about1) = true
  refine all_split ?_ w_codes
  rw [w_t1]
set_option maxRecDepth 65536 in
theorem w_case : (Jvm.Cond.and given_1 narrow_1).before args0 about1 = true := by decide +kernel
theorem w_applies : (headSpec (Jvm.Cond.code x code maxLocals ret :: tables_1) room_1).applies x e0.platform about1 = true :=
  (Spec.applies_iff w_frames).mpr ⟨w_running, w_runnable, w_alone, w_named, w_hears, w_ripe, w_room, w_tables⟩
theorem atStart : AtStart classFile x code maxLocals ret World_1 tables_1 room_1 Calls_1 rest_1 Pre_1 launch0 p0 e0 about1 theMethod args0 below0 :=
  ⟨lists_1, trivial, launch0.admits_env _ _ _, launch0.least_env, fairChoices_fair.cas, fairChoices_fair.clock, w_frames, w_args, w_heap, w_applies, trivial, trivial, w_case⟩
end start1
theorem witness_1 : WitnessClaimed_1 := ⟨start1.p0, start1.e0, start1.about1, start1.theMethod, start1.args0, start1.below0, start1.atStart⟩
end Jvm.Pilot.@@N@@
