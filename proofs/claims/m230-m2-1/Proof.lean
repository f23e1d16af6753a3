import JvmDerived
import JvmDerived.Pilot.@@N@@Statement
import JvmDerived.Pilot.@@N@@Code
set_option linter.unusedVariables false
set_option linter.unusedSimpArgs false
namespace Jvm.Pilot.@@N@@
open Jvm Jvm.ClassFile Sem Op Lib Jvm.Free Jvm.Stand Jvm.LawKit Jvm.RoadKit Bundle Jvm.Pilot.@@N@@.Jvm.D
/-! OWN KIT: a walk in continuation form. Go F U: from U the run comes to an end of which F holds. -/
namespace W
def Go (p : Program) (e : Env) (below : List Frame) (F : Outcome → State → Prop) (U : State) : Prop :=
  ∃ s₂ o, Steps p.tables e below U s₂ ∧ s₂.status = .running ∧ Ended s₂ below o ∧ F o s₂
def Cx (p : Program) (s : State) (m : MethodId) (meth : Method) (c : Code) (Z : State) (bytes : ByteArray) (maxL : Nat) (own mname : String) (ret : Option FieldType) : Prop :=
  p.tables.exec = Jvm.exec ∧ Z.Warmed39 s.vm ∧ c.code = bytes ∧ c.maxLocals = maxL ∧ s.vm.findClass own = some m.cls ∧ meth.name = mname ∧ meth.sig.returnType = ret ∧ meth.locks = false
def Post (s : State) (Q : Option Value → Heap → List Loc → Prop) (k n : Nat) (o : Outcome) (U' : State) : Prop := ∃ v L, o = .returned v ∧ Q v U'.heap L ∧ FrameEnd s o U' L k n
theorem of {p : Program} {e : Env} {below : List Frame} {F : Outcome → State → Prop} {U U' : State} (h : ∀ t, Steps p.tables e below U' t → Steps p.tables e below U t) (k : Go p e below F U') : Go p e below F U := by
  obtain ⟨s₂, o, h1, h2⟩ := k
  exact ⟨s₂, o, h _ h1, h2⟩
theorem tr {p : Program} {e : Env} {below : List Frame} {F : Outcome → State → Prop} {U U' : State} (h : Steps p.tables e below U U') (k : Go p e below F U') : Go p e below F U := of (fun _ q => h.trans q) k
def cT : ClassFile.Cond → Int32 → Int32 → Prop
  | .eq, x, y => x = y
  | .ne, x, y => x ≠ y
  | .lt, x, y => x.toInt < y.toInt
  | .ge, x, y => y.toInt ≤ x.toInt
  | .gt, x, y => y.toInt < x.toInt
  | .le, x, y => x.toInt ≤ y.toInt
def cF : ClassFile.Cond → Int32 → Int32 → Prop
  | .eq, x, y => x ≠ y
  | .ne, x, y => x = y
  | .lt, x, y => y.toInt ≤ x.toInt
  | .ge, x, y => x.toInt < y.toInt
  | .gt, x, y => x.toInt ≤ y.toInt
  | .le, x, y => y.toInt < x.toInt
instance (cd : ClassFile.Cond) (x y : Int32) : Decidable (cT cd x y) := by cases cd <;> (simp only [cT]; infer_instance)
instance (cd : ClassFile.Cond) (x y : Int32) : Decidable (cF cd x y) := by cases cd <;> (simp only [cF]; infer_instance)
theorem holdsT {cd : ClassFile.Cond} {x y : Int32} (h : cT cd x y) : if_icmp.holds cd x y = true := by
  cases cd <;> simp only [cT] at h <;> simp [if_icmp.holds, h, Int32.lt_iff_toInt_lt, Int32.le_iff_toInt_le]
theorem holdsF {cd : ClassFile.Cond} {x y : Int32} (h : cF cd x y) : if_icmp.holds cd x y = false := by
  cases cd <;> simp only [cF] at h <;> simp [if_icmp.holds, h, Int32.lt_iff_toInt_lt, Int32.le_iff_toInt_le]
theorem cTF (cd : ClassFile.Cond) (x y : Int32) : cT cd x y ∨ cF cd x y := by
  cases cd <;> simp only [cT, cF] <;> first | omega | exact Decidable.em _ | exact (Decidable.em _).symm
theorem ww {a0 : Array Value} {Z : State} (hw : ∀ d ∈ tables_1, d.before a0 Z = true) (i : Nat) {d : Jvm.Cond} (h : tables_1[i]? = some d) : d.before a0 Z = true := hw _ (List.mem_of_getElem? h)
theorem small {P : Int32 → Prop} (K : Nat) (hK : ∀ i : Fin (K + 1), P (Int32.ofInt (i.1 : Int))) (k : Int32) (h1 : 0 ≤ k.toInt) (h2 : k.toInt ≤ K) : P k := by
  have e : Int32.ofInt ((k.toInt.toNat : Nat) : Int) = k := by rw [Int.toNat_of_nonneg h1]; exact Int32.ofInt_toInt k
  have := hK ⟨k.toInt.toNat, by omega⟩
  rw [e] at this; exact this
theorem eqR {args : Array Value} {s : State} {a b : Term} {idx : List Nat} {y : Addr} (hb : b.eval args s none idx s = some (.ref y)) (h : (Jvm.Cond.eq a b).value args s none s idx = some true) : a.eval args s none idx s = some (.ref y) := by
  cases ha : a.eval args s none idx s with
  | none => simp [Cond.value, ha] at h
  | some x =>
    have hx : x.isRef = true := by cases x <;> simp [Cond.value, ha, hb, Value.isRef] at h ⊢
    have q := gotT (eq_R ha hb hx rfl) h
    rw [q]
theorem elemAt {args : Array Value} {s : State} {t a : Term} {x : Addr} {j : Int32} {v : Value} {cl : Cell} {ty : FieldType} (A : Arr s s.heap x cl ty) (ht : t.eval args s none [] s = some (.ref x)) (hj : a.eval args s none [] s = some (.int j)) (h : (Term.elem t a).eval args s none [] s = some v) : cl.slots[j.toNatClampNeg]? = some v := (elem_in h ht hj A.1).2
theorem lenAt {args : Array Value} {s : State} {t : Term} {x : Addr} {z : Int32} {cl : Cell} {ty : FieldType} (A : Arr s s.heap x cl ty) (ht : t.eval args s none [] s = some (.ref x)) (h : (Jvm.Cond.eq (.length t) (.int z)).value args s none s [] = some true) : cl.slots.size < 2 ^ 31 ∧ cl.slots.size.toInt32 = z := by
  have h6 := eqv_i (Term.int_eval z) h
  have ha := A.fin (Vm.Alike.refl _)
  have sz : cl.slots.size < 2 ^ 31 := by
    refine Decidable.byContradiction fun q => ?_
    simp [Term.eval, ht, ha, q] at h6
  refine ⟨sz, ?_⟩
  rw [len_f ht ha sz] at h6
  exact Value.int.inj (Option.some.inj h6)
theorem narZ {x : Int32} (h : x = 0 ∨ x = 1) : narrow .boolean (.int x) = .int x := by rcases h with rfl | rfl <;> rfl
theorem fitZ {x : Int32} (h : x = 0 ∨ x = 1) : fits .boolean (.int x) = true := by rcases h with rfl | rfl <;> rfl
theorem fieldInt {args : Array Value} {s : State} {t : Term} {Cn n d : String} {k : Int32} {a : Addr} (ht : t.eval args s none [] s = some (.ref a)) (h : (Jvm.Cond.eq (.field t Cn n d) (.int k)).value args s none s [] = some true) : Fld s s.heap a Cn n d (.int k) := by
  exact Fld.start ((fld_at ht).symm.trans (eqv_i (Term.int_eval k) h))
section
variable {p : Program} {l : Launch} {e : Env} {R : Room} {s : State} {m : MethodId} {args : Array Value} {below : List Frame} {meth : Method} {c : Code} {T : State} {locs : List Loc} {cells slots : Nat} {Z : State} {a0 : Array Value} {h h0 : Heap} {F : Outcome → State → Prop} {bytes : ByteArray} {maxL : Nat} {own mname : String} {ret : Option FieldType} {pc q : Nat} {Ls L' : Array Slot} {S rest : List Value}
theorem bodyOf {y : MethodName} {ws : List Jvm.Cond} {rm : Room} {as : Array Value} {Q : Option Value → Heap → List Loc → Prop} (hp : plainFor y = true) (hef : ∀ m, entryFrame m as maxL = mkF m 0 Ls [])
    (body : ∀ p e s m below meth c s₁, Cx p s m meth c Z bytes maxL y.cls y.name ret → Stand p l e rm s m as below meth c s₁ [] 0 0 → s₁.heap = h0 → Go p e below (Post s Q rm.cells rm.slots) (s₁.setTop (mkF m 0 Ls []))) :
    MetFree l y (head1 (Jvm.Cond.code y bytes maxL ret :: ws) rm) (fun a U => a = as ∧ Z.Warmed39 U.vm ∧ U.heap = h0) (fun _ _ _ _ _ => True) (fun _ U o U' => ∃ v L, o = .returned v ∧ Q v U'.heap L ∧ FrameEnd U o U' L rm.cells rm.slots) := by
  refine MetFree.of_bodySF hp hisR ?_
  intro p e s m args below meth c s₁ Bd hml0 hP hK
  obtain ⟨rfl, hZ, hh⟩ := hP
  obtain ⟨s₂, o, h1, h2⟩ := body p e s m below meth c s₁ ⟨Bd.exec, hZ, Bd.bytes, hml0, findClass_of_methodNamed Bd.named, (name_of_methodNamed Bd.named Bd.method).1, Bd.returns, Bd.notSynchronized⟩ (Stand.of_body Bd) (by rw [← hh, Bd.state]; rfl)
  exact ⟨s₂, o, castTop (hef m) h1, h2⟩
/-! returns -/
theorem retN (X : Stand p l e R s m args below meth c T locs cells slots) {t : FieldType} (C : Cx p s m meth c Z bytes maxL own mname (some t)) (ht : t = .boolean ∨ t = .byte ∨ t = .char ∨ t = .short) (eT : T.heap = h) {z z' : Int32} (hd : decode bytes pc = .ok (.ireturn, 1)) (hz : narrow t (.int z) = .int z') {k n : Nat} (hk : cells ≤ k) (hn : slots ≤ n) {Q : Option Value → Heap → List Loc → Prop} (hQ : Q (some (.int z')) h locs) :
    Go p e below (Post s Q k n) (T.setTop (mkF m pc Ls (.int z :: rest))) := by
  obtain ⟨hx, hZ, hby, hml, hown, hnm, hret, hlk⟩ := C
  obtain ⟨fs, hr, hrun, hended, hW, hsame⟩ := X.leave (v := some (.int z')) (fun h => by rw [hret] at h; cases h)
  refine ⟨_, _, ?_, hrun, hended, _, _, rfl, ?_, ⟨_, rfl⟩, hW, hsame.mono hk hn⟩
  · have hm' : T.vm.method? m = some meth := X.method'
    have hd' := hb hby hd
    rcases ht with rfl | rfl | rfl | rfl
    all_goals
      show Steps p.tables e below (T.setTop { method := m, pc := pc, locals := Ls, stack := _ :: rest, locked := none }) _
      jvm_step X.here [X.here.top, hx, hd', hm', hret, hz]
      first | (intro acts; rw [hr _ acts rfl rfl rfl]) | rw [hr _ _ rfl rfl rfl]
      exact Steps.refl _
  · show Q _ T.heap _
    rw [eT]; exact hQ
theorem retI (X : Stand p l e R s m args below meth c T locs cells slots) (C : Cx p s m meth c Z bytes maxL own mname (some .int)) (eT : T.heap = h) {z : Int32} (hd : decode bytes pc = .ok (.ireturn, 1)) {k n : Nat} (hk : cells ≤ k) (hn : slots ≤ n) {Q : Option Value → Heap → List Loc → Prop} (hQ : Q (some (.int z)) h locs) :
    Go p e below (Post s Q k n) (T.setTop (mkF m pc Ls (.int z :: rest))) := by
  obtain ⟨hx, hZ, hby, hml, hown, hnm, hret, hlk⟩ := C
  obtain ⟨fs, hr, hrun, hended, hW, hsame⟩ := X.leave (v := some (.int z)) (fun h => by rw [hret] at h; cases h)
  refine ⟨_, _, ?_, hrun, hended, _, _, rfl, ?_, ⟨_, rfl⟩, hW, hsame.mono hk hn⟩
  · have hm' : T.vm.method? m = some meth := X.method'
    have hd' := hb hby hd
    have hn : narrow .int (.int z) = .int z := rfl
    show Steps p.tables e below (T.setTop { method := m, pc := pc, locals := Ls, stack := _ :: rest, locked := none }) _
    jvm_step X.here [X.here.top, hx, hd', hm', hret, hn]
    first | (intro acts; rw [hr _ acts rfl rfl rfl]) | rw [hr _ _ rfl rfl rfl]
    exact Steps.refl _
  · show Q _ T.heap _
    rw [eT]; exact hQ
theorem retJ (X : Stand p l e R s m args below meth c T locs cells slots) (C : Cx p s m meth c Z bytes maxL own mname (some .long)) (eT : T.heap = h) {z : Int64} (hd : decode bytes pc = .ok (.lreturn, 1)) {k n : Nat} (hk : cells ≤ k) (hn : slots ≤ n) {Q : Option Value → Heap → List Loc → Prop} (hQ : Q (some (.long z)) h locs) :
    Go p e below (Post s Q k n) (T.setTop (mkF m pc Ls (.long z :: rest))) := by
  obtain ⟨hx, hZ, hby, hml, hown, hnm, hret, hlk⟩ := C
  obtain ⟨fs, hr, hrun, hended, hW, hsame⟩ := X.leave (v := some (.long z)) (fun h => by rw [hret] at h; cases h)
  refine ⟨_, _, ?_, hrun, hended, _, _, rfl, ?_, ⟨_, rfl⟩, hW, hsame.mono hk hn⟩
  · have hm' : T.vm.method? m = some meth := X.method'
    have hd' := hb hby hd
    show Steps p.tables e below (T.setTop { method := m, pc := pc, locals := Ls, stack := _ :: rest, locked := none }) _
    jvm_step X.here [X.here.top, hx, hd', hm', hret, narrow]
    first | (intro acts; rw [hr _ acts rfl rfl rfl]) | rw [hr _ _ rfl rfl rfl]
    exact Steps.refl _
  · show Q _ T.heap _
    rw [eT]; exact hQ
theorem retA (X : Stand p l e R s m args below meth c T locs cells slots) {t : FieldType} (C : Cx p s m meth c Z bytes maxL own mname (some t)) (ht : t.isReference = true) (eT : T.heap = h) {z : Value} (hz : z.isRef = true) (hd : decode bytes pc = .ok (.areturn, 1)) {k n : Nat} (hk : cells ≤ k) (hn : slots ≤ n) {Q : Option Value → Heap → List Loc → Prop} (hQ : Q (some z) h locs) :
    Go p e below (Post s Q k n) (T.setTop (mkF m pc Ls (z :: rest))) := by
  obtain ⟨hx, hZ, hby, hml, hown, hnm, hret, hlk⟩ := C
  obtain ⟨fs, hr, hrun, hended, hW, hsame⟩ := X.leave (v := some z) (fun h => by rw [hret] at h; cases h)
  refine ⟨_, _, ?_, hrun, hended, _, _, rfl, ?_, ⟨_, rfl⟩, hW, hsame.mono hk hn⟩
  · have hm' : T.vm.method? m = some meth := X.method'
    have hd' := hb hby hd
    show Steps p.tables e below (T.setTop { method := m, pc := pc, locals := Ls, stack := _ :: rest, locked := none }) _
    jvm_step X.here [X.here.top, hx, hd', hm', hret, hz, ht]
    first | (intro acts; rw [hr _ acts rfl rfl rfl]) | rw [hr _ _ rfl rfl rfl]
    exact Steps.refl _
  · show Q _ T.heap _
    rw [eT]; exact hQ
theorem retV (X : Stand p l e R s m args below meth c T locs cells slots) (C : Cx p s m meth c Z bytes maxL own mname none) (eT : T.heap = h) (hd : decode bytes pc = .ok (.return_, 1)) {k n : Nat} (hk : cells ≤ k) (hn : slots ≤ n) {Q : Option Value → Heap → List Loc → Prop} (hQ : Q none h locs) :
    Go p e below (Post s Q k n) (T.setTop (mkF m pc Ls [])) := by
  obtain ⟨hx, hZ, hby, hml, hown, hnm, hret, hlk⟩ := C
  obtain ⟨fs, hr, hrun, hended, hW, hsame⟩ := X.leave (v := none) (fun _ => rfl)
  refine ⟨_, _, X.returnOut hx hret (hb hby hd) hr, hrun, hended, _, _, rfl, ?_, ⟨_, rfl⟩, hW, hsame.mono hk hn⟩
  show Q _ T.heap _
  rw [eT]; exact hQ
/-! plain steps -/
theorem iload (X : Stand p l e R s m args below meth c T locs cells slots) (C : Cx p s m meth c Z bytes maxL own mname ret) {k : Nat} {v : Int32} (hd : decode bytes pc = .ok (.iload k, 2)) (hl : Ls[k]? = some (.val (.int v))) (hq : pc + 2 = q) (K : Go p e below F (T.setTop (mkF m q Ls (.int v :: S)))) : Go p e below F (T.setTop (mkF m pc Ls S)) := by
  subst hq; exact of (fun t k => XS.iload X.here C.1 rfl (hb C.2.2.1 hd) hl k) K
theorem iloadN (X : Stand p l e R s m args below meth c T locs cells slots) (C : Cx p s m meth c Z bytes maxL own mname ret) {k : Fin 4} {v : Int32} (hd : decode bytes pc = .ok (.iload_n k, 1)) (hl : Ls[k.val]? = some (.val (.int v))) (hq : pc + 1 = q) (K : Go p e below F (T.setTop (mkF m q Ls (.int v :: S)))) : Go p e below F (T.setTop (mkF m pc Ls S)) := by
  subst hq; exact of (fun t k => XS.iloadN X.here C.1 rfl (hb C.2.2.1 hd) hl k) K
theorem lload (X : Stand p l e R s m args below meth c T locs cells slots) (C : Cx p s m meth c Z bytes maxL own mname ret) {k : Nat} {v : Int64} (hd : decode bytes pc = .ok (.lload k, 2)) (hl : Ls[k]? = some (.val (.long v))) (hq : pc + 2 = q) (K : Go p e below F (T.setTop (mkF m q Ls (.long v :: S)))) : Go p e below F (T.setTop (mkF m pc Ls S)) := by
  subst hq; exact of (fun t k => XS.lload X.here C.1 rfl (hb C.2.2.1 hd) hl k) K
theorem lloadN (X : Stand p l e R s m args below meth c T locs cells slots) (C : Cx p s m meth c Z bytes maxL own mname ret) {k : Fin 4} {v : Int64} (hd : decode bytes pc = .ok (.lload_n k, 1)) (hl : Ls[k.val]? = some (.val (.long v))) (hq : pc + 1 = q) (K : Go p e below F (T.setTop (mkF m q Ls (.long v :: S)))) : Go p e below F (T.setTop (mkF m pc Ls S)) := by
  subst hq; exact of (fun t k => XS.lloadN X.here C.1 rfl (hb C.2.2.1 hd) hl k) K
theorem aload (X : Stand p l e R s m args below meth c T locs cells slots) (C : Cx p s m meth c Z bytes maxL own mname ret) {k : Nat} {v : Value} (hd : decode bytes pc = .ok (.aload k, 2)) (hl : Ls[k]? = some (.val v)) (hv : v.isRef = true) (hq : pc + 2 = q) (K : Go p e below F (T.setTop (mkF m q Ls (v :: S)))) : Go p e below F (T.setTop (mkF m pc Ls S)) := by
  subst hq; exact of (fun t k => XS.aload X.here C.1 rfl (hb C.2.2.1 hd) hl hv k) K
theorem aloadN (X : Stand p l e R s m args below meth c T locs cells slots) (C : Cx p s m meth c Z bytes maxL own mname ret) {k : Fin 4} {v : Value} (hd : decode bytes pc = .ok (.aload_n k, 1)) (hl : Ls[k.val]? = some (.val v)) (hv : v.isRef = true) (hq : pc + 1 = q) (K : Go p e below F (T.setTop (mkF m q Ls (v :: S)))) : Go p e below F (T.setTop (mkF m pc Ls S)) := by
  subst hq; exact of (fun t k => XS.aloadN X.here C.1 rfl (hb C.2.2.1 hd) hl hv k) K
theorem istore (X : Stand p l e R s m args below meth c T locs cells slots) (C : Cx p s m meth c Z bytes maxL own mname ret) {k : Nat} {v : Int32} (hd : decode bytes pc = .ok (.istore k, 2)) (hl : storeLocals Ls k (.int v) = some L') (hq : pc + 2 = q) (K : Go p e below F (T.setTop (mkF m q L' S))) : Go p e below F (T.setTop (mkF m pc Ls (.int v :: S))) := by
  subst hq; exact of (fun t k => XS.istore X.here C.1 rfl (hb C.2.2.1 hd) rfl hl k) K
theorem istoreN (X : Stand p l e R s m args below meth c T locs cells slots) (C : Cx p s m meth c Z bytes maxL own mname ret) {k : Fin 4} {v : Int32} (hd : decode bytes pc = .ok (.istore_n k, 1)) (hl : storeLocals Ls k.val (.int v) = some L') (hq : pc + 1 = q) (K : Go p e below F (T.setTop (mkF m q L' S))) : Go p e below F (T.setTop (mkF m pc Ls (.int v :: S))) := by
  subst hq; exact of (fun t k => XS.istoreN X.here C.1 rfl (hb C.2.2.1 hd) rfl hl k) K
theorem lstore (X : Stand p l e R s m args below meth c T locs cells slots) (C : Cx p s m meth c Z bytes maxL own mname ret) {k : Nat} {v : Int64} (hd : decode bytes pc = .ok (.lstore k, 2)) (hl : storeLocals Ls k (.long v) = some L') (hq : pc + 2 = q) (K : Go p e below F (T.setTop (mkF m q L' S))) : Go p e below F (T.setTop (mkF m pc Ls (.long v :: S))) := by
  subst hq; exact of (fun t k => XS.lstore X.here C.1 rfl (hb C.2.2.1 hd) rfl hl k) K
theorem lstoreN (X : Stand p l e R s m args below meth c T locs cells slots) (C : Cx p s m meth c Z bytes maxL own mname ret) {k : Fin 4} {v : Int64} (hd : decode bytes pc = .ok (.lstore_n k, 1)) (hl : storeLocals Ls k.val (.long v) = some L') (hq : pc + 1 = q) (K : Go p e below F (T.setTop (mkF m q L' S))) : Go p e below F (T.setTop (mkF m pc Ls (.long v :: S))) := by
  subst hq; exact of (fun t k => XS.lstoreN X.here C.1 rfl (hb C.2.2.1 hd) rfl hl k) K
theorem astore (X : Stand p l e R s m args below meth c T locs cells slots) (C : Cx p s m meth c Z bytes maxL own mname ret) {k : Nat} {v : Value} (hd : decode bytes pc = .ok (.astore k, 2)) (hv : v.isRef = true) (hl : storeLocals Ls k v = some L') (hq : pc + 2 = q) (K : Go p e below F (T.setTop (mkF m q L' S))) : Go p e below F (T.setTop (mkF m pc Ls (v :: S))) := by
  subst hq; exact of (fun t k => XS.astore X.here C.1 rfl (hb C.2.2.1 hd) rfl hv hl k) K
theorem astoreN (X : Stand p l e R s m args below meth c T locs cells slots) (C : Cx p s m meth c Z bytes maxL own mname ret) {k : Fin 4} {v : Value} (hd : decode bytes pc = .ok (.astore_n k, 1)) (hv : v.isRef = true) (hl : storeLocals Ls k.val v = some L') (hq : pc + 1 = q) (K : Go p e below F (T.setTop (mkF m q L' S))) : Go p e below F (T.setTop (mkF m pc Ls (v :: S))) := by
  subst hq; exact of (fun t k => XS.astoreN X.here C.1 rfl (hb C.2.2.1 hd) rfl hv hl k) K
theorem iinc (X : Stand p l e R s m args below meth c T locs cells slots) (C : Cx p s m meth c Z bytes maxL own mname ret) {k : Nat} {i : Int} {x y : Int32} (hd : decode bytes pc = .ok (.iinc k i, 3)) (hl : Ls[k]? = some (.val (.int x))) (hy : x + Int32.ofInt i = y) (hl' : storeLocals Ls k (.int y) = some L') (hq : pc + 3 = q) (K : Go p e below F (T.setTop (mkF m q L' S))) : Go p e below F (T.setTop (mkF m pc Ls S)) := by
  subst hq hy; exact of (fun t k => XS.iinc X.here C.1 rfl (hb C.2.2.1 hd) hl hl' k) K
theorem iconst (X : Stand p l e R s m args below meth c T locs cells slots) (C : Cx p s m meth c Z bytes maxL own mname ret) {i : Int} {v : Int32} (hd : decode bytes pc = .ok (.iconst i, 1)) (hi : Int32.ofInt i = v) (hq : pc + 1 = q) (K : Go p e below F (T.setTop (mkF m q Ls (.int v :: S)))) : Go p e below F (T.setTop (mkF m pc Ls S)) := by
  subst hq hi; exact of (fun t k => XS.iconst X.here C.1 rfl (hb C.2.2.1 hd) k) K
theorem bipush (X : Stand p l e R s m args below meth c T locs cells slots) (C : Cx p s m meth c Z bytes maxL own mname ret) {i : Int} {v : Int32} (hd : decode bytes pc = .ok (.bipush i, 2)) (hi : (Int8.ofInt i).toInt32 = v) (hq : pc + 2 = q) (K : Go p e below F (T.setTop (mkF m q Ls (.int v :: S)))) : Go p e below F (T.setTop (mkF m pc Ls S)) := by
  subst hq hi; exact of (fun t k => XS.bipush X.here C.1 rfl (hb C.2.2.1 hd) k) K
theorem sipush (X : Stand p l e R s m args below meth c T locs cells slots) (C : Cx p s m meth c Z bytes maxL own mname ret) {i : Int} {v : Int32} (hd : decode bytes pc = .ok (.sipush i, 3)) (hi : (Int16.ofInt i).toInt32 = v) (hq : pc + 3 = q) (K : Go p e below F (T.setTop (mkF m q Ls (.int v :: S)))) : Go p e below F (T.setTop (mkF m pc Ls S)) := by
  subst hq hi; exact of (fun t k => XS.sipush X.here C.1 rfl (hb C.2.2.1 hd) k) K
theorem lconst0 (X : Stand p l e R s m args below meth c T locs cells slots) (C : Cx p s m meth c Z bytes maxL own mname ret) (hd : decode bytes pc = .ok (.lconst 0, 1)) (hq : pc + 1 = q) (K : Go p e below F (T.setTop (mkF m q Ls (.long 0 :: S)))) : Go p e below F (T.setTop (mkF m pc Ls S)) := by
  subst hq; exact of (fun t k => XS.lconst X.here C.1 rfl (hb C.2.2.1 hd) k) K
theorem lconst1 (X : Stand p l e R s m args below meth c T locs cells slots) (C : Cx p s m meth c Z bytes maxL own mname ret) (hd : decode bytes pc = .ok (.lconst 1, 1)) (hq : pc + 1 = q) (K : Go p e below F (T.setTop (mkF m q Ls (.long 1 :: S)))) : Go p e below F (T.setTop (mkF m pc Ls S)) := by
  subst hq; exact of (fun t k => XS.lconst X.here C.1 rfl (hb C.2.2.1 hd) k) K
theorem ldcI (X : Stand p l e R s m args below meth c T locs cells slots) (C : Cx p s m meth c Z bytes maxL own mname ret) {i : Nat} {v : Int32} (w : (Jvm.Cond.constant own i v).before a0 Z = true) (hd : decode bytes pc = .ok (.ldc i, 2)) (hq : pc + 2 = q) (K : Go p e below F (T.setTop (mkF m q Ls (.int v :: S)))) : Go p e below F (T.setTop (mkF m pc Ls S)) := by
  subst hq; exact of (X.ldcInt C.1 C.2.2.2.2.1 (mvT C.2.1 w) (g := mkF m pc Ls S) rfl (hb C.2.2.1 hd)) K
theorem ldcL (X : Stand p l e R s m args below meth c T locs cells slots) (C : Cx p s m meth c Z bytes maxL own mname ret) {i : Nat} {v : Int64} (w : (Jvm.Cond.constantLong own i v).before a0 Z = true) (hd : decode bytes pc = .ok (.ldc2_w i, 3)) (hq : pc + 3 = q) (K : Go p e below F (T.setTop (mkF m q Ls (.long v :: S)))) : Go p e below F (T.setTop (mkF m pc Ls S)) := by
  subst hq; exact of (X.ldc2Long C.1 C.2.2.2.2.1 (mvT C.2.1 w) (g := mkF m pc Ls S) rfl (hb C.2.2.1 hd)) K
theorem aconst (X : Stand p l e R s m args below meth c T locs cells slots) (C : Cx p s m meth c Z bytes maxL own mname ret) (hd : decode bytes pc = .ok (.aconst_null, 1)) (hq : pc + 1 = q) (K : Go p e below F (T.setTop (mkF m q Ls (.null :: S)))) : Go p e below F (T.setTop (mkF m pc Ls S)) := by
  subst hq; exact of (fun t k => XS.aconstNull X.here C.1 rfl (hb C.2.2.1 hd) k) K
theorem iadd (X : Stand p l e R s m args below meth c T locs cells slots) (C : Cx p s m meth c Z bytes maxL own mname ret) {x : Int32} {y : Int32} (hd : decode bytes pc = .ok (.iadd, 1)) (hq : pc + 1 = q) (K : Go p e below F (T.setTop (mkF m q Ls (.int (x + y) :: S)))) : Go p e below F (T.setTop (mkF m pc Ls (.int y :: .int x :: S))) := by
  subst hq; exact of (fun t k => XS.iadd X.here C.1 rfl (hb C.2.2.1 hd) rfl k) K
theorem ladd (X : Stand p l e R s m args below meth c T locs cells slots) (C : Cx p s m meth c Z bytes maxL own mname ret) {x : Int64} {y : Int64} (hd : decode bytes pc = .ok (.ladd, 1)) (hq : pc + 1 = q) (K : Go p e below F (T.setTop (mkF m q Ls (.long (x + y) :: S)))) : Go p e below F (T.setTop (mkF m pc Ls (.long y :: .long x :: S))) := by
  subst hq; exact of (fun t k => XS.ladd X.here C.1 rfl (hb C.2.2.1 hd) rfl k) K
theorem isub (X : Stand p l e R s m args below meth c T locs cells slots) (C : Cx p s m meth c Z bytes maxL own mname ret) {x : Int32} {y : Int32} (hd : decode bytes pc = .ok (.isub, 1)) (hq : pc + 1 = q) (K : Go p e below F (T.setTop (mkF m q Ls (.int (x - y) :: S)))) : Go p e below F (T.setTop (mkF m pc Ls (.int y :: .int x :: S))) := by
  subst hq; exact of (fun t k => XS.isub X.here C.1 rfl (hb C.2.2.1 hd) rfl k) K
theorem lsub (X : Stand p l e R s m args below meth c T locs cells slots) (C : Cx p s m meth c Z bytes maxL own mname ret) {x : Int64} {y : Int64} (hd : decode bytes pc = .ok (.lsub, 1)) (hq : pc + 1 = q) (K : Go p e below F (T.setTop (mkF m q Ls (.long (x - y) :: S)))) : Go p e below F (T.setTop (mkF m pc Ls (.long y :: .long x :: S))) := by
  subst hq; exact of (fun t k => XS.lsub X.here C.1 rfl (hb C.2.2.1 hd) rfl k) K
theorem imul (X : Stand p l e R s m args below meth c T locs cells slots) (C : Cx p s m meth c Z bytes maxL own mname ret) {x : Int32} {y : Int32} (hd : decode bytes pc = .ok (.imul, 1)) (hq : pc + 1 = q) (K : Go p e below F (T.setTop (mkF m q Ls (.int (x * y) :: S)))) : Go p e below F (T.setTop (mkF m pc Ls (.int y :: .int x :: S))) := by
  subst hq; exact of (fun t k => XS.imul X.here C.1 rfl (hb C.2.2.1 hd) rfl k) K
theorem lmul (X : Stand p l e R s m args below meth c T locs cells slots) (C : Cx p s m meth c Z bytes maxL own mname ret) {x : Int64} {y : Int64} (hd : decode bytes pc = .ok (.lmul, 1)) (hq : pc + 1 = q) (K : Go p e below F (T.setTop (mkF m q Ls (.long (x * y) :: S)))) : Go p e below F (T.setTop (mkF m pc Ls (.long y :: .long x :: S))) := by
  subst hq; exact of (fun t k => XS.lmul X.here C.1 rfl (hb C.2.2.1 hd) rfl k) K
theorem iand (X : Stand p l e R s m args below meth c T locs cells slots) (C : Cx p s m meth c Z bytes maxL own mname ret) {x : Int32} {y : Int32} (hd : decode bytes pc = .ok (.iand, 1)) (hq : pc + 1 = q) (K : Go p e below F (T.setTop (mkF m q Ls (.int (x &&& y) :: S)))) : Go p e below F (T.setTop (mkF m pc Ls (.int y :: .int x :: S))) := by
  subst hq; exact of (fun t k => XS.iand X.here C.1 rfl (hb C.2.2.1 hd) rfl k) K
theorem land (X : Stand p l e R s m args below meth c T locs cells slots) (C : Cx p s m meth c Z bytes maxL own mname ret) {x : Int64} {y : Int64} (hd : decode bytes pc = .ok (.land, 1)) (hq : pc + 1 = q) (K : Go p e below F (T.setTop (mkF m q Ls (.long (x &&& y) :: S)))) : Go p e below F (T.setTop (mkF m pc Ls (.long y :: .long x :: S))) := by
  subst hq; exact of (fun t k => XS.land X.here C.1 rfl (hb C.2.2.1 hd) rfl k) K
theorem ior (X : Stand p l e R s m args below meth c T locs cells slots) (C : Cx p s m meth c Z bytes maxL own mname ret) {x : Int32} {y : Int32} (hd : decode bytes pc = .ok (.ior, 1)) (hq : pc + 1 = q) (K : Go p e below F (T.setTop (mkF m q Ls (.int (x ||| y) :: S)))) : Go p e below F (T.setTop (mkF m pc Ls (.int y :: .int x :: S))) := by
  subst hq; exact of (fun t k => XS.ior X.here C.1 rfl (hb C.2.2.1 hd) rfl k) K
theorem lor (X : Stand p l e R s m args below meth c T locs cells slots) (C : Cx p s m meth c Z bytes maxL own mname ret) {x : Int64} {y : Int64} (hd : decode bytes pc = .ok (.lor, 1)) (hq : pc + 1 = q) (K : Go p e below F (T.setTop (mkF m q Ls (.long (x ||| y) :: S)))) : Go p e below F (T.setTop (mkF m pc Ls (.long y :: .long x :: S))) := by
  subst hq; exact of (fun t k => XS.lor X.here C.1 rfl (hb C.2.2.1 hd) rfl k) K
theorem ixor (X : Stand p l e R s m args below meth c T locs cells slots) (C : Cx p s m meth c Z bytes maxL own mname ret) {x : Int32} {y : Int32} (hd : decode bytes pc = .ok (.ixor, 1)) (hq : pc + 1 = q) (K : Go p e below F (T.setTop (mkF m q Ls (.int (x ^^^ y) :: S)))) : Go p e below F (T.setTop (mkF m pc Ls (.int y :: .int x :: S))) := by
  subst hq; exact of (fun t k => XS.ixor X.here C.1 rfl (hb C.2.2.1 hd) rfl k) K
theorem lxor (X : Stand p l e R s m args below meth c T locs cells slots) (C : Cx p s m meth c Z bytes maxL own mname ret) {x : Int64} {y : Int64} (hd : decode bytes pc = .ok (.lxor, 1)) (hq : pc + 1 = q) (K : Go p e below F (T.setTop (mkF m q Ls (.long (x ^^^ y) :: S)))) : Go p e below F (T.setTop (mkF m pc Ls (.long y :: .long x :: S))) := by
  subst hq; exact of (fun t k => XS.lxor X.here C.1 rfl (hb C.2.2.1 hd) rfl k) K
theorem ishl (X : Stand p l e R s m args below meth c T locs cells slots) (C : Cx p s m meth c Z bytes maxL own mname ret) {x : Int32} {y : Int32} (hd : decode bytes pc = .ok (.ishl, 1)) (hq : pc + 1 = q) (K : Go p e below F (T.setTop (mkF m q Ls (.int (x <<< (y &&& 31)) :: S)))) : Go p e below F (T.setTop (mkF m pc Ls (.int y :: .int x :: S))) := by
  subst hq; exact of (fun t k => XS.ishl X.here C.1 rfl (hb C.2.2.1 hd) rfl k) K
theorem ishr (X : Stand p l e R s m args below meth c T locs cells slots) (C : Cx p s m meth c Z bytes maxL own mname ret) {x : Int32} {y : Int32} (hd : decode bytes pc = .ok (.ishr, 1)) (hq : pc + 1 = q) (K : Go p e below F (T.setTop (mkF m q Ls (.int (x >>> (y &&& 31)) :: S)))) : Go p e below F (T.setTop (mkF m pc Ls (.int y :: .int x :: S))) := by
  subst hq; exact of (fun t k => XS.ishr X.here C.1 rfl (hb C.2.2.1 hd) rfl k) K
theorem iushr (X : Stand p l e R s m args below meth c T locs cells slots) (C : Cx p s m meth c Z bytes maxL own mname ret) {x : Int32} {y : Int32} (hd : decode bytes pc = .ok (.iushr, 1)) (hq : pc + 1 = q) (K : Go p e below F (T.setTop (mkF m q Ls (.int ((x.toUInt32 >>> (y &&& 31).toUInt32).toInt32) :: S)))) : Go p e below F (T.setTop (mkF m pc Ls (.int y :: .int x :: S))) := by
  subst hq; exact of (fun t k => XS.iushr X.here C.1 rfl (hb C.2.2.1 hd) rfl k) K
theorem lshl (X : Stand p l e R s m args below meth c T locs cells slots) (C : Cx p s m meth c Z bytes maxL own mname ret) {x : Int64} {y : Int32} (hd : decode bytes pc = .ok (.lshl, 1)) (hq : pc + 1 = q) (K : Go p e below F (T.setTop (mkF m q Ls (.long (x <<< (y &&& 0x3f).toInt64) :: S)))) : Go p e below F (T.setTop (mkF m pc Ls (.int y :: .long x :: S))) := by
  subst hq; exact of (fun t k => XS.lshl X.here C.1 rfl (hb C.2.2.1 hd) rfl k) K
theorem lshr (X : Stand p l e R s m args below meth c T locs cells slots) (C : Cx p s m meth c Z bytes maxL own mname ret) {x : Int64} {y : Int32} (hd : decode bytes pc = .ok (.lshr, 1)) (hq : pc + 1 = q) (K : Go p e below F (T.setTop (mkF m q Ls (.long (x >>> (y &&& 0x3f).toInt64) :: S)))) : Go p e below F (T.setTop (mkF m pc Ls (.int y :: .long x :: S))) := by
  subst hq; exact of (fun t k => XS.lshr X.here C.1 rfl (hb C.2.2.1 hd) rfl k) K
theorem lushr (X : Stand p l e R s m args below meth c T locs cells slots) (C : Cx p s m meth c Z bytes maxL own mname ret) {x : Int64} {y : Int32} (hd : decode bytes pc = .ok (.lushr, 1)) (hq : pc + 1 = q) (K : Go p e below F (T.setTop (mkF m q Ls (.long ((x.toUInt64 >>> (y &&& 0x3f).toInt64.toUInt64).toInt64) :: S)))) : Go p e below F (T.setTop (mkF m pc Ls (.int y :: .long x :: S))) := by
  subst hq; exact of (fun t k => XS.lushr X.here C.1 rfl (hb C.2.2.1 hd) rfl k) K
theorem ineg (X : Stand p l e R s m args below meth c T locs cells slots) (C : Cx p s m meth c Z bytes maxL own mname ret) {x : Int32} (hd : decode bytes pc = .ok (.ineg, 1)) (hq : pc + 1 = q) (K : Go p e below F (T.setTop (mkF m q Ls (.int (-x) :: S)))) : Go p e below F (T.setTop (mkF m pc Ls (.int x :: S))) := by
  subst hq; exact of (fun t k => XS.ineg X.here C.1 rfl (hb C.2.2.1 hd) rfl k) K
theorem lneg (X : Stand p l e R s m args below meth c T locs cells slots) (C : Cx p s m meth c Z bytes maxL own mname ret) {x : Int64} (hd : decode bytes pc = .ok (.lneg, 1)) (hq : pc + 1 = q) (K : Go p e below F (T.setTop (mkF m q Ls (.long (-x) :: S)))) : Go p e below F (T.setTop (mkF m pc Ls (.long x :: S))) := by
  subst hq; exact of (fun t k => XS.lneg X.here C.1 rfl (hb C.2.2.1 hd) rfl k) K
theorem i2l (X : Stand p l e R s m args below meth c T locs cells slots) (C : Cx p s m meth c Z bytes maxL own mname ret) {x : Int32} (hd : decode bytes pc = .ok (.i2l, 1)) (hq : pc + 1 = q) (K : Go p e below F (T.setTop (mkF m q Ls (.long (x.toInt64) :: S)))) : Go p e below F (T.setTop (mkF m pc Ls (.int x :: S))) := by
  subst hq; exact of (fun t k => XS.i2l X.here C.1 rfl (hb C.2.2.1 hd) rfl k) K
theorem l2i (X : Stand p l e R s m args below meth c T locs cells slots) (C : Cx p s m meth c Z bytes maxL own mname ret) {x : Int64} (hd : decode bytes pc = .ok (.l2i, 1)) (hq : pc + 1 = q) (K : Go p e below F (T.setTop (mkF m q Ls (.int (x.toInt32) :: S)))) : Go p e below F (T.setTop (mkF m pc Ls (.long x :: S))) := by
  subst hq; exact of (fun t k => XS.l2i X.here C.1 rfl (hb C.2.2.1 hd) rfl k) K
theorem i2b (X : Stand p l e R s m args below meth c T locs cells slots) (C : Cx p s m meth c Z bytes maxL own mname ret) {x : Int32} (hd : decode bytes pc = .ok (.i2b, 1)) (hq : pc + 1 = q) (K : Go p e below F (T.setTop (mkF m q Ls (.int (x.toInt8.toInt32) :: S)))) : Go p e below F (T.setTop (mkF m pc Ls (.int x :: S))) := by
  subst hq; exact of (fun t k => XS.i2b X.here C.1 rfl (hb C.2.2.1 hd) rfl k) K
theorem i2s (X : Stand p l e R s m args below meth c T locs cells slots) (C : Cx p s m meth c Z bytes maxL own mname ret) {x : Int32} (hd : decode bytes pc = .ok (.i2s, 1)) (hq : pc + 1 = q) (K : Go p e below F (T.setTop (mkF m q Ls (.int (x.toInt16.toInt32) :: S)))) : Go p e below F (T.setTop (mkF m pc Ls (.int x :: S))) := by
  subst hq; exact of (fun t k => XS.i2s X.here C.1 rfl (hb C.2.2.1 hd) rfl k) K
theorem i2c (X : Stand p l e R s m args below meth c T locs cells slots) (C : Cx p s m meth c Z bytes maxL own mname ret) {x : Int32} (hd : decode bytes pc = .ok (.i2c, 1)) (hq : pc + 1 = q) (K : Go p e below F (T.setTop (mkF m q Ls (.int (x.toUInt32.toUInt16.toUInt32.toInt32) :: S)))) : Go p e below F (T.setTop (mkF m pc Ls (.int x :: S))) := by
  subst hq; exact of (fun t k => XS.i2c X.here C.1 rfl (hb C.2.2.1 hd) rfl k) K
theorem idiv (X : Stand p l e R s m args below meth c T locs cells slots) (C : Cx p s m meth c Z bytes maxL own mname ret) {x y : Int32} (hd : decode bytes pc = .ok (.idiv, 1)) (hy : y ≠ 0) (hq : pc + 1 = q) (K : Go p e below F (T.setTop (mkF m q Ls (.int (x / y) :: S)))) : Go p e below F (T.setTop (mkF m pc Ls (.int y :: .int x :: S))) := by
  subst hq; exact of (fun t k => XS.idiv X.here C.1 rfl (hb C.2.2.1 hd) rfl hy k) K
theorem irem (X : Stand p l e R s m args below meth c T locs cells slots) (C : Cx p s m meth c Z bytes maxL own mname ret) {x y : Int32} (hd : decode bytes pc = .ok (.irem, 1)) (hy : y ≠ 0) (hq : pc + 1 = q) (K : Go p e below F (T.setTop (mkF m q Ls (.int (x % y) :: S)))) : Go p e below F (T.setTop (mkF m pc Ls (.int y :: .int x :: S))) := by
  subst hq; exact of (fun t k => iremM (g := mkF m pc Ls (.int y :: .int x :: S)) X C.1 rfl (hb C.2.2.1 hd) rfl hy k) K
theorem ldiv (X : Stand p l e R s m args below meth c T locs cells slots) (C : Cx p s m meth c Z bytes maxL own mname ret) {x y : Int64} (hd : decode bytes pc = .ok (.ldiv, 1)) (hy : y ≠ 0) (hq : pc + 1 = q) (K : Go p e below F (T.setTop (mkF m q Ls (.long (x / y) :: S)))) : Go p e below F (T.setTop (mkF m pc Ls (.long y :: .long x :: S))) := by
  subst hq; exact of (fun t k => XS.ldiv X.here C.1 rfl (hb C.2.2.1 hd) rfl hy k) K
theorem lcmp (X : Stand p l e R s m args below meth c T locs cells slots) (C : Cx p s m meth c Z bytes maxL own mname ret) {x y : Int64} (hd : decode bytes pc = .ok (.lcmp, 1)) (hq : pc + 1 = q) (K : Go p e below F (T.setTop (mkF m q Ls (.int (lcmpW x y) :: S)))) : Go p e below F (T.setTop (mkF m pc Ls (.long y :: .long x :: S))) := by
  subst hq; exact of (fun t k => XS.lcmp X.here C.1 rfl (hb C.2.2.1 hd) rfl k) K
theorem dup (X : Stand p l e R s m args below meth c T locs cells slots) (C : Cx p s m meth c Z bytes maxL own mname ret) {v : Value} (hd : decode bytes pc = .ok (.dup, 1)) (hv : v.category = 1) (hq : pc + 1 = q) (K : Go p e below F (T.setTop (mkF m q Ls (v :: v :: S)))) : Go p e below F (T.setTop (mkF m pc Ls (v :: S))) := by
  subst hq; exact of (fun t k => XS.dup X.here C.1 rfl (hb C.2.2.1 hd) rfl hv k) K
theorem dupX1 (X : Stand p l e R s m args below meth c T locs cells slots) (C : Cx p s m meth c Z bytes maxL own mname ret) {v w : Value} (hd : decode bytes pc = .ok (.dup_x1, 1)) (hv : v.category = 1) (hw : w.category = 1) (hq : pc + 1 = q) (K : Go p e below F (T.setTop (mkF m q Ls (v :: w :: v :: S)))) : Go p e below F (T.setTop (mkF m pc Ls (v :: w :: S))) := by
  subst hq; exact of (fun t k => XS.dupX1 X.here C.1 rfl (hb C.2.2.1 hd) rfl hv hw k) K
theorem pop (X : Stand p l e R s m args below meth c T locs cells slots) (C : Cx p s m meth c Z bytes maxL own mname ret) {v : Value} (hd : decode bytes pc = .ok (.pop, 1)) (hv : v.category = 1) (hq : pc + 1 = q) (K : Go p e below F (T.setTop (mkF m q Ls S))) : Go p e below F (T.setTop (mkF m pc Ls (v :: S))) := by
  subst hq; exact of (fun t k => XS.pop X.here C.1 rfl (hb C.2.2.1 hd) rfl hv k) K
theorem goto (X : Stand p l e R s m args below meth c T locs cells slots) (C : Cx p s m meth c Z bytes maxL own mname ret) {o : Int} (hd : decode bytes pc = .ok (.goto o, 3)) (ho : 0 ≤ (pc : Int) + o) (hq : ((pc : Int) + o).toNat = q) (K : Go p e below F (T.setTop (mkF m q Ls S))) : Go p e below F (T.setTop (mkF m pc Ls S)) :=
  of (fun t k => XS.goto X.here C.1 rfl rfl (hb C.2.2.1 hd) ho hq k) K
theorem icmpT (X : Stand p l e R s m args below meth c T locs cells slots) (C : Cx p s m meth c Z bytes maxL own mname ret) {cd : ClassFile.Cond} {o : Int} {x y : Int32} (hd : decode bytes pc = .ok (.if_icmp cd o, 3)) (ho : 0 ≤ (pc : Int) + o) (hq : ((pc : Int) + o).toNat = q) (hc : cT cd x y) (K : Go p e below F (T.setTop (mkF m q Ls S))) : Go p e below F (T.setTop (mkF m pc Ls (.int y :: .int x :: S))) :=
  of (fun t k => XS.icmpYes X.here C.1 rfl rfl (hb C.2.2.1 hd) rfl (holdsT hc) ho hq k) K
theorem icmpF (X : Stand p l e R s m args below meth c T locs cells slots) (C : Cx p s m meth c Z bytes maxL own mname ret) {cd : ClassFile.Cond} {o : Int} {x y : Int32} (hd : decode bytes pc = .ok (.if_icmp cd o, 3)) (hq : pc + 3 = q) (hc : cF cd x y) (K : Go p e below F (T.setTop (mkF m q Ls S))) : Go p e below F (T.setTop (mkF m pc Ls (.int y :: .int x :: S))) := by
  subst hq; exact of (fun t k => XS.icmpNo X.here C.1 rfl (hb C.2.2.1 hd) rfl (holdsF hc) k) K
theorem icmp (X : Stand p l e R s m args below meth c T locs cells slots) (C : Cx p s m meth c Z bytes maxL own mname ret) {cd : ClassFile.Cond} {o : Int} {x y : Int32} {q' : Nat} (hd : decode bytes pc = .ok (.if_icmp cd o, 3)) (ho : 0 ≤ (pc : Int) + o) (hq : ((pc : Int) + o).toNat = q) (hq' : pc + 3 = q') (K : cT cd x y → Go p e below F (T.setTop (mkF m q Ls S))) (K' : cF cd x y → Go p e below F (T.setTop (mkF m q' Ls S))) : Go p e below F (T.setTop (mkF m pc Ls (.int y :: .int x :: S))) :=
  (cTF cd x y).elim (fun hc => icmpT X C hd ho hq hc (K hc)) (fun hc => icmpF X C hd hq' hc (K' hc))
theorem ifT (X : Stand p l e R s m args below meth c T locs cells slots) (C : Cx p s m meth c Z bytes maxL own mname ret) {cd : ClassFile.Cond} {o : Int} {x : Int32} (hd : decode bytes pc = .ok (.ifCond cd o, 3)) (ho : 0 ≤ (pc : Int) + o) (hq : ((pc : Int) + o).toNat = q) (hc : cT cd x 0) (K : Go p e below F (T.setTop (mkF m q Ls S))) : Go p e below F (T.setTop (mkF m pc Ls (.int x :: S))) :=
  of (fun t k => XS.ifYes X.here C.1 rfl rfl (hb C.2.2.1 hd) rfl ((if0 _ _).trans (holdsT hc)) ho hq k) K
theorem ifF (X : Stand p l e R s m args below meth c T locs cells slots) (C : Cx p s m meth c Z bytes maxL own mname ret) {cd : ClassFile.Cond} {o : Int} {x : Int32} (hd : decode bytes pc = .ok (.ifCond cd o, 3)) (hq : pc + 3 = q) (hc : cF cd x 0) (K : Go p e below F (T.setTop (mkF m q Ls S))) : Go p e below F (T.setTop (mkF m pc Ls (.int x :: S))) := by
  subst hq; exact of (fun t k => XS.ifNo X.here C.1 rfl (hb C.2.2.1 hd) rfl ((if0 _ _).trans (holdsF hc)) k) K
theorem if_ (X : Stand p l e R s m args below meth c T locs cells slots) (C : Cx p s m meth c Z bytes maxL own mname ret) {cd : ClassFile.Cond} {o : Int} {x : Int32} {q' : Nat} (hd : decode bytes pc = .ok (.ifCond cd o, 3)) (ho : 0 ≤ (pc : Int) + o) (hq : ((pc : Int) + o).toNat = q) (hq' : pc + 3 = q') (K : cT cd x 0 → Go p e below F (T.setTop (mkF m q Ls S))) (K' : cF cd x 0 → Go p e below F (T.setTop (mkF m q' Ls S))) : Go p e below F (T.setTop (mkF m pc Ls (.int x :: S))) :=
  (cTF cd x 0).elim (fun hc => ifT X C hd ho hq hc (K hc)) (fun hc => ifF X C hd hq' hc (K' hc))
theorem ifnullT (X : Stand p l e R s m args below meth c T locs cells slots) (C : Cx p s m meth c Z bytes maxL own mname ret) {o : Int} (hd : decode bytes pc = .ok (.ifnull o, 3)) (ho : 0 ≤ (pc : Int) + o) (hq : ((pc : Int) + o).toNat = q) (K : Go p e below F (T.setTop (mkF m q Ls S))) : Go p e below F (T.setTop (mkF m pc Ls (.null :: S))) :=
  of (fun t k => XS.ifnullYes X.here C.1 rfl rfl (hb C.2.2.1 hd) rfl ho hq k) K
theorem ifnullF (X : Stand p l e R s m args below meth c T locs cells slots) (C : Cx p s m meth c Z bytes maxL own mname ret) {o : Int} {a : Addr} (hd : decode bytes pc = .ok (.ifnull o, 3)) (hq : pc + 3 = q) (K : Go p e below F (T.setTop (mkF m q Ls S))) : Go p e below F (T.setTop (mkF m pc Ls (.ref a :: S))) := by
  subst hq; exact of (fun t k => XS.ifnullNo X.here C.1 rfl (hb C.2.2.1 hd) rfl k) K
theorem ifnonnullT (X : Stand p l e R s m args below meth c T locs cells slots) (C : Cx p s m meth c Z bytes maxL own mname ret) {o : Int} {a : Addr} (hd : decode bytes pc = .ok (.ifnonnull o, 3)) (ho : 0 ≤ (pc : Int) + o) (hq : ((pc : Int) + o).toNat = q) (K : Go p e below F (T.setTop (mkF m q Ls S))) : Go p e below F (T.setTop (mkF m pc Ls (.ref a :: S))) :=
  of (fun t k => XS.ifnonnullYes X.here C.1 rfl rfl (hb C.2.2.1 hd) rfl ho hq k) K
theorem ifnonnullF (X : Stand p l e R s m args below meth c T locs cells slots) (C : Cx p s m meth c Z bytes maxL own mname ret) {o : Int} (hd : decode bytes pc = .ok (.ifnonnull o, 3)) (hq : pc + 3 = q) (K : Go p e below F (T.setTop (mkF m q Ls S))) : Go p e below F (T.setTop (mkF m pc Ls (.null :: S))) := by
  subst hq; exact of (fun t k => XS.ifnonnullNo X.here C.1 rfl (hb C.2.2.1 hd) rfl k) K
/-! calls -/
theorem callS (X : Stand p l e R s m args below meth c T locs cells slots) (C : Cx p s m meth c Z bytes maxL own mname ret) {y : MethodName} {i : Nat} {yb : ByteArray} {ym : Nat} {yr : Option FieldType} (w1 : (Jvm.Cond.methodLink own i y).before a0 Z = true) (w2 : (Jvm.Cond.static y).before a0 Z = true) (w3 : (Jvm.Cond.initialized y.cls).before a0 Z = true) (w4 : (Jvm.Cond.code y yb ym yr).before a0 Z = true) (hy : y.cls ≠ "java/lang/invoke/MethodHandle" ∧ y.cls ≠ "java/lang/invoke/VarHandle")
    {rm : Room} {as' : Array Value} {Q : Option Value → Heap → List Loc → Prop} (hM : MetFree l y (head1 [Jvm.Cond.code y yb ym yr] rm) (fun a U => a = as' ∧ Z.Warmed39 U.vm ∧ U.heap = h) (fun _ _ _ _ _ => True) (fun _ U o U' => ∃ v L, o = .returned v ∧ Q v U'.heap L ∧ FrameEnd U o U' L rm.cells rm.slots))
    (eT : T.heap = h) (hd : decode bytes pc = .ok (.invokestatic i, 3)) (argsL : List Value) (rest : List Value) (hS : S = argsL.reverse ++ rest) (has : as' = argsL.toArray) {ps : List FieldType} {r : Option FieldType} (hpd : parseMethodDescriptor y.desc = some ⟨ps, r⟩) (hlen : argsL.length = ps.length) (hsz : Ls.size = maxL)
    (hf : rm.frames + 1 ≤ R.frames) (hl : (rest.map fun v => v.category).sum + (ym + 11) + rm.locals ≤ R.locals) (hc : cells + rm.cells ≤ R.cells) (hsl : slots + rm.slots ≤ R.slots) (hq : pc + 3 = q)
    (K : ∀ (T' : State) (v : Option Value) (L : List Loc), Stand p l e R s m args below meth c T' (locs ++ L) (cells + rm.cells) (slots + rm.slots) → Q v T'.heap L → Go p e below F (T'.setTop (mkF m q Ls (v.toList ++ rest)))) : Go p e below F (T.setTop (mkF m pc Ls S)) := by
  subst hq hS has
  obtain ⟨hx, hZ, hby, hml, hown, hnm, hret, hlk⟩ := C
  obtain ⟨v, _, ⟨T1, L1, k1, n1⟩, -, X1, ⟨Lc, hQ, l1, y1, z1⟩, st⟩ := Jvm.LawKit.callS X hx hown (mvT hZ w1) (mvT hZ w2) (mvT hZ w3) (mvT hZ w4) hy (backOf (W := (rest.map fun v => v.category).sum) hM hZ w4 w3 hf hl) (g := mkF m pc Ls (argsL.reverse ++ rest)) rfl (by rw [hml]; exact hsz) (argsL := argsL) (rest := rest) (lenOf hpd hlen) rfl (by show 2 * 0 + _ ≤ _; omega) (hb hby hd) (fun _ _ => ⟨rfl, eT, hc, hsl⟩)
  dsimp only [Pt.U, Pt.locs, Pt.cells, Pt.slots] at X1 l1 y1 z1 st hQ
  subst l1 y1 z1
  exact of st (K T1 v Lc X1 hQ)
theorem callI (X : Stand p l e R s m args below meth c T locs cells slots) (C : Cx p s m meth c Z bytes maxL own mname ret) {y : MethodName} {i : Nat} {yb : ByteArray} {ym : Nat} (hy1 : y.name = "<init>") (w1 : (Jvm.Cond.methodLink own i y).before a0 Z = true) (w2 : (Jvm.Cond.instanceMethod y).before a0 Z = true) (w3 : (Jvm.Cond.initialized y.cls).before a0 Z = true) (w4 : (Jvm.Cond.code y yb ym none).before a0 Z = true) (hy : y.cls ≠ "java/lang/invoke/MethodHandle" ∧ y.cls ≠ "java/lang/invoke/VarHandle")
    {rm : Room} {as' : Array Value} {Q : Option Value → Heap → List Loc → Prop} (hM : MetFree l y (head1 [Jvm.Cond.code y yb ym none] rm) (fun a U => a = as' ∧ Z.Warmed39 U.vm ∧ U.heap = h) (fun _ _ _ _ _ => True) (fun _ U o U' => ∃ v L, o = .returned v ∧ Q v U'.heap L ∧ FrameEnd U o U' L rm.cells rm.slots))
    (eT : T.heap = h) (hd : decode bytes pc = .ok (.invokespecial i, 3)) {a : Addr} (argsL : List Value) (rest : List Value) (hS : S = argsL.reverse ++ .ref a :: rest) (has : as' = (.ref a :: argsL).toArray) {ps : List FieldType} {r : Option FieldType} (hpd : parseMethodDescriptor y.desc = some ⟨ps, r⟩) (hlen : argsL.length = ps.length) (hsz : Ls.size = maxL)
    (hf : rm.frames + 1 ≤ R.frames) (hl : (rest.map fun v => v.category).sum + (ym + 11) + rm.locals ≤ R.locals) (hc : cells + rm.cells ≤ R.cells) (hsl : slots + rm.slots ≤ R.slots) (hq : pc + 3 = q)
    (K : ∀ (T' : State) (v : Option Value) (L : List Loc), Stand p l e R s m args below meth c T' (locs ++ L) (cells + rm.cells) (slots + rm.slots) → Q v T'.heap L → Go p e below F (T'.setTop (mkF m q Ls (v.toList ++ rest)))) : Go p e below F (T.setTop (mkF m pc Ls S)) := by
  subst hq hS has
  obtain ⟨hx, hZ, hby, hml, hown, hnm, hret, hlk⟩ := C
  obtain ⟨v, _, ⟨T1, L1, k1, n1⟩, -, X1, ⟨Lc, hQ, l1, y1, z1⟩, st⟩ := X.specialBack hx hy1 hown (mvT hZ w1) (mvT hZ w2) (mvT hZ w4) hy (backOf (W := (rest.map fun v => v.category).sum) hM hZ w4 w3 hf hl) (g := mkF m pc Ls (argsL.reverse ++ .ref a :: rest)) rfl (by rw [hml]; exact hsz) (Steps.refl _) (a := a) (argsL := argsL) (rest := rest) (lenOf hpd hlen) rfl (by show 2 * 0 + _ ≤ _; omega) (hb hby hd) (fun _ _ => ⟨rfl, eT, hc, hsl⟩)
  dsimp only [Pt.U, Pt.locs, Pt.cells, Pt.slots] at X1 l1 y1 z1 st hQ
  subst l1 y1 z1
  exact tr st (K T1 v Lc X1 hQ)
theorem callV (X : Stand p l e R s m args below meth c T locs cells slots) (C : Cx p s m meth c Z bytes maxL own mname ret) {y z : MethodName} {i : Nat} {Cn : String} {yb : ByteArray} {ym : Nat} {yr : Option FieldType} (w1 : (Jvm.Cond.methodLink own i y).before a0 Z = true) (w2 : (Jvm.Cond.declares y).before a0 Z = true) (hnf : NotFace s y) (ws : (Jvm.Cond.selects Cn y z).before a0 Z = true) (wi : (Jvm.Cond.instanceMethod z).before a0 Z = true) (w3 : (Jvm.Cond.initialized z.cls).before a0 Z = true) (w4 : (Jvm.Cond.code z yb ym yr).before a0 Z = true) (hy : y.cls ≠ "java/lang/invoke/MethodHandle" ∧ y.cls ≠ "java/lang/invoke/VarHandle")
    {rm : Room} {as' : Array Value} {Q : Option Value → Heap → List Loc → Prop} (hM : MetFree l z (head1 [Jvm.Cond.code z yb ym yr] rm) (fun a U => a = as' ∧ Z.Warmed39 U.vm ∧ U.heap = h) (fun _ _ _ _ _ => True) (fun _ U o U' => ∃ v L, o = .returned v ∧ Q v U'.heap L ∧ FrameEnd U o U' L rm.cells rm.slots))
    (eT : T.heap = h) {a : Addr} (E : Exa Z h a Cn) (hd : decode bytes pc = .ok (.invokevirtual i, 3)) (argsL : List Value) (rest : List Value) (hS : S = argsL.reverse ++ .ref a :: rest) (has : as' = (.ref a :: argsL).toArray) {ps : List FieldType} {r : Option FieldType} (hpd : parseMethodDescriptor y.desc = some ⟨ps, r⟩) (hlen : argsL.length = ps.length) (hsz : Ls.size = maxL)
    (hf : rm.frames + 1 ≤ R.frames) (hl : (rest.map fun v => v.category).sum + (ym + 11) + rm.locals ≤ R.locals) (hc : cells + rm.cells ≤ R.cells) (hsl : slots + rm.slots ≤ R.slots) (hq : pc + 3 = q)
    (K : ∀ (T' : State) (v : Option Value) (L : List Loc), Stand p l e R s m args below meth c T' (locs ++ L) (cells + rm.cells) (slots + rm.slots) → Q v T'.heap L → Go p e below F (T'.setTop (mkF m q Ls (v.toList ++ rest)))) : Go p e below F (T.setTop (mkF m pc Ls S)) := by
  subst hq hS has
  obtain ⟨hx, hZ, hby, hml, hown, hnm, hret, hlk⟩ := C
  obtain ⟨cq, kq, qa, qb, qc⟩ := isOf hZ eT E
  obtain ⟨v, _, ⟨T1, L1, k1, n1⟩, -, X1, ⟨Lc, hQ, l1, y1, z1⟩, st⟩ := X.virtualBack hx hown (mvT hZ w1) (mvT hZ w2) hnf (mvT hZ ws) (mvT hZ wi) hy (backOf (W := (rest.map fun v => v.category).sum) hM hZ w4 w3 hf hl) qa qc (g := mkF m pc Ls (argsL.reverse ++ .ref a :: rest)) rfl (by rw [hml]; exact hsz) (Steps.refl _) (argsL := argsL) (rest := rest) (lenOf hpd hlen) rfl (by show 2 * 0 + _ ≤ _; omega) (hb hby hd) (fun _ _ => ⟨rfl, eT, hc, hsl⟩)
  dsimp only [Pt.U, Pt.locs, Pt.cells, Pt.slots] at X1 l1 y1 z1 st hQ
  subst l1 y1 z1
  exact tr st (K T1 v Lc X1 hQ)
theorem nf (C : Cx p s m meth c Z bytes maxL own mname ret) {Cn : String} {y : MethodName} (ws : (Jvm.Cond.selects Cn y y).before a0 Z = true) : NotFace s y := notFace_of_selects (args := #[]) (mvT C.2.1 ws)
theorem initObj (X : Stand p l e R s m args below meth c T locs cells slots) (C : Cx p s m meth c Z bytes maxL own mname ret) {i : Nat} (w1 : (Jvm.Cond.methodLink own i ⟨"java/lang/Object", "<init>", "()V"⟩).before a0 Z = true) (w2 : (Jvm.Cond.instanceMethod ⟨"java/lang/Object", "<init>", "()V"⟩).before a0 Z = true) (w3 : (Jvm.Cond.code ⟨"java/lang/Object", "<init>", "()V"⟩ object_method_1_code 1 none).before a0 Z = true)
    (eT : T.heap = h) {a : Addr} (hd : decode bytes pc = .ok (.invokespecial i, 3)) (hsz : Ls.size = maxL) (hf : 1 ≤ R.frames) (hl : (S.map fun v => v.category).sum + 12 ≤ R.locals) (hq : pc + 3 = q)
    (K : ∀ (T' : State), Stand p l e R s m args below meth c T' locs cells slots → T'.heap = h → Go p e below F (T'.setTop (mkF m q Ls S))) : Go p e below F (T.setTop (mkF m pc Ls (.ref a :: S))) := by
  subst hq
  obtain ⟨hx, hZ, hby, hml, hown, hnm, hret, hlk⟩ := C
  obtain ⟨T1, X1, e1, st⟩ := initO X hx hZ hown w1 w2 w3 eT (g := mkF m pc Ls (.ref a :: S)) rfl (by rw [hml]; exact hsz) rfl (hb hby hd) hf (W := (S.map fun v => v.category).sum) (by show 2 * 0 + _ ≤ _; omega) hl
  exact of st (K T1 X1 e1)
/-! objects -/
theorem newO (X : Stand p l e R s m args below meth c T locs cells slots) (C : Cx p s m meth c Z bytes maxL own mname ret) {i n : Nat} {Cn : String} (w1 : (Jvm.Cond.classLink own i Cn).before a0 Z = true) (w2 : (Jvm.Cond.instantiable Cn n).before a0 Z = true) (w3 : (Jvm.Cond.initialized Cn).before a0 Z = true) (eT : T.heap = h) (hd : decode bytes pc = .ok (.new i, 3)) (hc : cells + 1 ≤ R.cells) (hl : slots + n ≤ R.slots) (hq : pc + 3 = q)
    (K : ∀ (T' : State) (h' : Heap) (b : Addr), Stand p l e R s m args below meth c T' locs (cells + 1) (slots + n) → T'.heap = h' → b = h.size → Ext h h' → Exa Z h' b Cn → (∀ {O nm d : String} {ty : FieldType}, Laid Z a0 Cn O nm d → parseFieldDescriptor d = some ty → Fld Z h' b O nm d (defaultValue ty)) → Go p e below F (T'.setTop (mkF m q Ls (.ref b :: S)))) : Go p e below F (T.setTop (mkF m pc Ls S)) := by
  subst hq
  obtain ⟨hx, hZ, hby, hml, hown, hnm, hret, hlk⟩ := C
  obtain ⟨T1, h1, X1, e1, E1, A1, D1, -, st⟩ := Jvm.RoadKit.newO X hx hZ hown w1 w2 w3 eT (g := mkF m pc Ls S) rfl (hb hby hd) hc hl
  exact of st (K T1 h1 _ X1 e1 rfl E1 A1 D1)
theorem getF (X : Stand p l e R s m args below meth c T locs cells slots) (C : Cx p s m meth c Z bytes maxL own mname ret) {i : Nat} {R0 O n d host : String} (w : (Jvm.Cond.fieldLink own i R0 n d).before a0 Z = true ∨ (Jvm.Cond.fieldLinkNest own i R0 n d host).before a0 Z = true) (via : Via Z R0 O n d) (eT : T.heap = h) {a : Addr} {v : Value} (F0 : Fld Z h a O n d v) (hd : decode bytes pc = .ok (.getfield i, 3)) (hq : pc + 3 = q)
    (K : ∀ (T' : State), Stand p l e R s m args below meth c T' locs cells slots → T'.heap = h → Go p e below F (T'.setTop (mkF m q Ls (v :: S)))) : Go p e below F (T.setTop (mkF m pc Ls (.ref a :: S))) := by
  subst hq
  obtain ⟨hx, hZ, hby, hml, hown, hnm, hret, hlk⟩ := C
  obtain ⟨T1, X1, e1, st⟩ := Jvm.RoadKit.getF X hx hZ hown w via eT F0 (g := mkF m pc Ls (.ref a :: S)) rfl rfl (hb hby hd)
  exact of st (K T1 X1 e1)
theorem putF (X : Stand p l e R s m args below meth c T locs cells slots) (C : Cx p s m meth c Z bytes maxL own mname ret) {i kk : Nat} {R0 O n d host Cn : String} {ty : FieldType} (w : (Jvm.Cond.fieldLink own i R0 n d).before a0 Z = true ∨ (Jvm.Cond.fieldLinkNest own i R0 n d host).before a0 Z = true) (via : Via Z R0 O n d) (eT : T.heap = h) {a : Addr} {v old : Value} (F0 : Fld Z h a O n d old) (E : Exa Z h a Cn) (L : (Jvm.Cond.lays Cn O n d).before a0 Z = true ∨ ((Jvm.Cond.laysFinal Cn O n d).before a0 Z = true ∧ own = O ∧ mname = "<init>")) (wi : (Jvm.Cond.instantiable Cn kk).before a0 Z = true) (hty : parseFieldDescriptor d = some ty) (hn : narrow ty v = v) (hf : fits ty v = true) (hd : decode bytes pc = .ok (.putfield i, 3)) (hq : pc + 3 = q)
    (K : ∀ (T' : State) (h' : Heap), Stand p l e R s m args below meth c T' (locs ++ [⟨a, Jvm.RoadKit.slotOf Z O n d⟩]) cells slots → T'.heap = h' → Wr h h' a (Jvm.RoadKit.slotOf Z O n d) v → Go p e below F (T'.setTop (mkF m q Ls S))) : Go p e below F (T.setTop (mkF m pc Ls (v :: .ref a :: S))) := by
  subst hq
  obtain ⟨hx, hZ, hby, hml, hown, hnm, hret, hlk⟩ := C
  obtain ⟨T1, h1, X1, e1, W1, st⟩ := Jvm.RoadKit.putF X hx hZ hown w via eT F0 E (L.imp id fun q => ⟨q.1, q.2.1, hnm.trans q.2.2⟩) wi hty hn hf (g := mkF m pc Ls (v :: .ref a :: S)) rfl rfl (hb hby hd)
  exact of st (K T1 h1 X1 e1 W1)
theorem getS (X : Stand p l e R s m args below meth c T locs cells slots) (C : Cx p s m meth c Z bytes maxL own mname ret) {i : Nat} {R0 O n d : String} (w : (Jvm.Cond.fieldLink own i R0 n d).before a0 Z = true) (via : Via Z R0 O n d) (eT : T.heap = h) {v : Value} (F0 : Sta Z h O n d v) (hd : decode bytes pc = .ok (.getstatic i, 3)) (hq : pc + 3 = q)
    (K : ∀ (T' : State), Stand p l e R s m args below meth c T' locs cells slots → T'.heap = h → Go p e below F (T'.setTop (mkF m q Ls (v :: S)))) : Go p e below F (T.setTop (mkF m pc Ls S)) := by
  subst hq
  obtain ⟨hx, hZ, hby, hml, hown, hnm, hret, hlk⟩ := C
  obtain ⟨T1, X1, e1, st⟩ := Jvm.RoadKit.getS X hx hZ hown (host := "") w via eT F0 (g := mkF m pc Ls S) rfl (hb hby hd)
  exact of st (K T1 X1 e1)
/-! arrays: Arv Z h a k ty n vs d -/
theorem inb {cl : Cell} {n j : Int32} (S : cl.slots.size = n.toNatClampNeg) (h1 : 0 ≤ j.toInt) (h2 : j.toInt < n.toInt) : ¬ (j < 0 ∨ cl.slots.size ≤ j.toNatClampNeg) := inb_of S ⟨by rw [Int32.lt_iff_toInt_lt]; have : (0 : Int32).toInt = 0 := rfl; omega, by rw [Int32.lt_iff_toInt_lt]; exact h2⟩
theorem iaload (X : Stand p l e R s m args below meth c T locs cells slots) (C : Cx p s m meth c Z bytes maxL own mname ret) (eT : T.heap = h) {a : Addr} {k : ClassId} {n j x : Int32} {vs : List Value} {d : Value} (V : Arv Z h a k .int n vs d) (h1 : 0 ≤ j.toInt) (h2 : j.toInt < n.toInt) (hv : vs.getD j.toNatClampNeg d = .int x) (hd : decode bytes pc = .ok (.iaload, 1)) (hq : pc + 1 = q) (K : Go p e below F (T.setTop (mkF m q Ls (.int x :: S)))) : Go p e below F (T.setTop (mkF m pc Ls (.int j :: .ref a :: S))) := by
  subst hq
  obtain ⟨cl, Ar, q1, S1, N1, H1, G1⟩ := V
  exact of (X.iaload C.1 (j := j) (v := .int x) (by rw [eT]; exact Ar.1) (State.isArrayOf_alike C.2.1.alike Ar.2.1) Ar.2.2 (inb S1 h1 h2) (Has.at H1 (inb S1 h1 h2) hv) (g := mkF m pc Ls (.int j :: .ref a :: S)) rfl rfl (hb C.2.2.1 hd)) K
theorem caload (X : Stand p l e R s m args below meth c T locs cells slots) (C : Cx p s m meth c Z bytes maxL own mname ret) (eT : T.heap = h) {a : Addr} {k : ClassId} {n j x : Int32} {vs : List Value} {d : Value} (V : Arv Z h a k .char n vs d) (h1 : 0 ≤ j.toInt) (h2 : j.toInt < n.toInt) (hv : vs.getD j.toNatClampNeg d = .int x) (hd : decode bytes pc = .ok (.caload, 1)) (hq : pc + 1 = q) (K : Go p e below F (T.setTop (mkF m q Ls (.int x :: S)))) : Go p e below F (T.setTop (mkF m pc Ls (.int j :: .ref a :: S))) := by
  subst hq
  obtain ⟨cl, Ar, q1, S1, N1, H1, G1⟩ := V
  exact of (X.caload C.1 (j := j) (v := .int x) (by rw [eT]; exact Ar.1) (State.isArrayOf_alike C.2.1.alike Ar.2.1) Ar.2.2 (inb S1 h1 h2) (Has.at H1 (inb S1 h1 h2) hv) (g := mkF m pc Ls (.int j :: .ref a :: S)) rfl rfl (hb C.2.2.1 hd)) K
theorem baload (X : Stand p l e R s m args below meth c T locs cells slots) (C : Cx p s m meth c Z bytes maxL own mname ret) (eT : T.heap = h) {a : Addr} {k : ClassId} {n j x : Int32} {vs : List Value} {d : Value} (V : Arv Z h a k .byte n vs d) (h1 : 0 ≤ j.toInt) (h2 : j.toInt < n.toInt) (hv : vs.getD j.toNatClampNeg d = .int x) (hd : decode bytes pc = .ok (.baload, 1)) (hq : pc + 1 = q) (K : Go p e below F (T.setTop (mkF m q Ls (.int x :: S)))) : Go p e below F (T.setTop (mkF m pc Ls (.int j :: .ref a :: S))) := by
  subst hq
  obtain ⟨cl, Ar, q1, S1, N1, H1, G1⟩ := V
  exact of (X.baloadBytes C.1 (j := j) (v := .int x) (by rw [eT]; exact Ar.1) (State.isArrayOf_alike C.2.1.alike Ar.2.1) Ar.2.2 (inb S1 h1 h2) (Has.at H1 (inb S1 h1 h2) hv) (g := mkF m pc Ls (.int j :: .ref a :: S)) rfl rfl (hb C.2.2.1 hd)) K
theorem aaload (X : Stand p l e R s m args below meth c T locs cells slots) (C : Cx p s m meth c Z bytes maxL own mname ret) (eT : T.heap = h) {a : Addr} {k : ClassId} {n j : Int32} {x : Value} {vs : List Value} {d : Value} {ty : FieldType} (hty : ty.isReference = true) (V : Arv Z h a k ty n vs d) (h1 : 0 ≤ j.toInt) (h2 : j.toInt < n.toInt) (hv : vs.getD j.toNatClampNeg d = x) (hd : decode bytes pc = .ok (.aaload, 1)) (hq : pc + 1 = q) (K : Go p e below F (T.setTop (mkF m q Ls (x :: S)))) : Go p e below F (T.setTop (mkF m pc Ls (.int j :: .ref a :: S))) := by
  subst hq
  obtain ⟨cl, Ar, q1, S1, N1, H1, G1⟩ := V
  exact of (X.aaload C.1 (j := j) (v := x) (by rw [eT]; exact Ar.1) (State.isArrayOf_alike C.2.1.alike Ar.2.1) hty Ar.2.2 (inb S1 h1 h2) (Has.at H1 (inb S1 h1 h2) hv) (g := mkF m pc Ls (.int j :: .ref a :: S)) rfl rfl (hb C.2.2.1 hd)) K
theorem aaloadC (X : Stand p l e R s m args below meth c T locs cells slots) (C : Cx p s m meth c Z bytes maxL own mname ret) (eT : T.heap = h) {a : Addr} {cl : Cell} {j : Int32} {x : Value} {ty : FieldType} (hty : ty.isReference = true) (Ar : Arr Z h a cl ty) (hin : ¬ (j < 0 ∨ cl.slots.size ≤ j.toNatClampNeg)) (hat : cl.slots[j.toNatClampNeg]? = some x) (hd : decode bytes pc = .ok (.aaload, 1)) (hq : pc + 1 = q) (K : Go p e below F (T.setTop (mkF m q Ls (x :: S)))) : Go p e below F (T.setTop (mkF m pc Ls (.int j :: .ref a :: S))) := by
  subst hq
  exact of (X.aaload C.1 (j := j) (v := x) (by rw [eT]; exact Ar.1) (State.isArrayOf_alike C.2.1.alike Ar.2.1) hty Ar.2.2 hin hat (g := mkF m pc Ls (.int j :: .ref a :: S)) rfl rfl (hb C.2.2.1 hd)) K
theorem arraylength (X : Stand p l e R s m args below meth c T locs cells slots) (C : Cx p s m meth c Z bytes maxL own mname ret) (eT : T.heap = h) {a : Addr} {k : ClassId} {n : Int32} {vs : List Value} {d : Value} {ty : FieldType} (V : Arv Z h a k ty n vs d) (hd : decode bytes pc = .ok (.arraylength, 1)) (hq : pc + 1 = q) (K : Go p e below F (T.setTop (mkF m q Ls (.int n :: S)))) : Go p e below F (T.setTop (mkF m pc Ls (.ref a :: S))) := by
  subst hq
  obtain ⟨cl, Ar, q1, S1, N1, H1, G1⟩ := V
  refine of (X.arraylength C.1 (by rw [eT]; exact Ar.1) (State.isArrayOf_alike C.2.1.alike Ar.2.1) (g := mkF m pc Ls (.ref a :: S)) rfl rfl (hb C.2.2.1 hd)) ?_
  rw [len_of S1 N1]
  exact K
theorem iastore (X : Stand p l e R s m args below meth c T locs cells slots) (C : Cx p s m meth c Z bytes maxL own mname ret) (eT : T.heap = h) {a : Addr} {k : ClassId} {n j x : Int32} {vs : List Value} {d : Value} (V : Arv Z h a k .int n vs d) (h1 : 0 ≤ j.toInt) (h2 : j.toInt < n.toInt) (hlen : j.toNatClampNeg < vs.length) (hd : decode bytes pc = .ok (.iastore, 1)) (hq : pc + 1 = q)
    (K : ∀ (T' : State) (h' : Heap), Stand p l e R s m args below meth c T' (locs ++ [⟨a, j.toNatClampNeg⟩]) cells slots → T'.heap = h' → Wr h h' a j.toNatClampNeg (.int x) → Arv Z h' a k .int n (vs.set j.toNatClampNeg (.int x)) d → Go p e below F (T'.setTop (mkF m q Ls S))) : Go p e below F (T.setTop (mkF m pc Ls (.int x :: .int j :: .ref a :: S))) := by
  subst hq
  obtain ⟨cl, Ar, q1, S1, N1, H1, G1⟩ := V
  obtain ⟨T1, h1', X1, e1, W1, st⟩ := stI X C.1 C.2.1 eT Ar (j := j) (inb S1 h1 h2) (g := mkF m pc Ls (.int x :: .int j :: .ref a :: S)) rfl rfl (hb C.2.2.1 hd)
  exact of st (K T1 h1' X1 e1 W1 (Arv.set Ar q1 S1 N1 H1 G1 rfl W1 _ rfl hlen))
theorem castore (X : Stand p l e R s m args below meth c T locs cells slots) (C : Cx p s m meth c Z bytes maxL own mname ret) (eT : T.heap = h) {a : Addr} {k : ClassId} {n j x : Int32} {vs : List Value} {d : Value} (V : Arv Z h a k .char n vs d) (h1 : 0 ≤ j.toInt) (h2 : j.toInt < n.toInt) (hlen : j.toNatClampNeg < vs.length) (hd : decode bytes pc = .ok (.castore, 1)) (hq : pc + 1 = q)
    (K : ∀ (T' : State) (h' : Heap), Stand p l e R s m args below meth c T' (locs ++ [⟨a, j.toNatClampNeg⟩]) cells slots → T'.heap = h' → Wr h h' a j.toNatClampNeg (.int (nar .char x)) → Arv Z h' a k .char n (vs.set j.toNatClampNeg (.int (nar .char x))) d → Go p e below F (T'.setTop (mkF m q Ls S))) : Go p e below F (T.setTop (mkF m pc Ls (.int x :: .int j :: .ref a :: S))) := by
  subst hq
  obtain ⟨cl, Ar, q1, S1, N1, H1, G1⟩ := V
  obtain ⟨T1, h1', X1, e1, W1, st⟩ := stC X C.1 C.2.1 eT Ar (j := j) (inb S1 h1 h2) (g := mkF m pc Ls (.int x :: .int j :: .ref a :: S)) rfl rfl (hb C.2.2.1 hd)
  exact of st (K T1 h1' X1 e1 W1 (Arv.set Ar q1 S1 N1 H1 G1 (fits_nar_char _) W1 _ rfl hlen))
theorem bastore (X : Stand p l e R s m args below meth c T locs cells slots) (C : Cx p s m meth c Z bytes maxL own mname ret) (eT : T.heap = h) {a : Addr} {k : ClassId} {n j x : Int32} {vs : List Value} {d : Value} (V : Arv Z h a k .byte n vs d) (h1 : 0 ≤ j.toInt) (h2 : j.toInt < n.toInt) (hlen : j.toNatClampNeg < vs.length) (hd : decode bytes pc = .ok (.bastore, 1)) (hq : pc + 1 = q)
    (K : ∀ (T' : State) (h' : Heap), Stand p l e R s m args below meth c T' (locs ++ [⟨a, j.toNatClampNeg⟩]) cells slots → T'.heap = h' → Wr h h' a j.toNatClampNeg (.int x.toInt8.toInt32) → Arv Z h' a k .byte n (vs.set j.toNatClampNeg (.int x.toInt8.toInt32)) d → Go p e below F (T'.setTop (mkF m q Ls S))) : Go p e below F (T.setTop (mkF m pc Ls (.int x :: .int j :: .ref a :: S))) := by
  subst hq
  obtain ⟨cl, Ar, q1, S1, N1, H1, G1⟩ := V
  obtain ⟨T1, h1', X1, e1, W1, st⟩ := stB X C.1 C.2.1 eT Ar (j := j) (inb S1 h1 h2) (g := mkF m pc Ls (.int x :: .int j :: .ref a :: S)) rfl rfl (hb C.2.2.1 hd)
  exact of st (K T1 h1' X1 e1 W1 (Arv.set Ar q1 S1 N1 H1 G1 (fits_nar_byte _) W1 _ rfl hlen))
theorem aastore (X : Stand p l e R s m args below meth c T locs cells slots) (C : Cx p s m meth c Z bytes maxL own mname ret) (eT : T.heap = h) {a : Addr} {k : ClassId} {n j : Int32} {x : Value} {vs : List Value} {d : Value} {ty : FieldType} (hty : ty.isReference = true) (hf : fits ty x = true) (V : Arv Z h a k ty n vs d) (hs : ∀ cl, Arr Z h a cl ty → cl.cls = k → Sto Z h a x) (h1 : 0 ≤ j.toInt) (h2 : j.toInt < n.toInt) (hlen : j.toNatClampNeg < vs.length) (hd : decode bytes pc = .ok (.aastore, 1)) (hq : pc + 1 = q)
    (K : ∀ (T' : State) (h' : Heap), Stand p l e R s m args below meth c T' (locs ++ [⟨a, j.toNatClampNeg⟩]) cells slots → T'.heap = h' → Wr h h' a j.toNatClampNeg x → Arv Z h' a k ty n (vs.set j.toNatClampNeg x) d → Go p e below F (T'.setTop (mkF m q Ls S))) : Go p e below F (T.setTop (mkF m pc Ls (x :: .int j :: .ref a :: S))) := by
  subst hq
  obtain ⟨cl, Ar, q1, S1, N1, H1, G1⟩ := V
  obtain ⟨T1, h1', X1, e1, W1, st⟩ := stR X C.1 C.2.1 eT Ar (j := j) (inb S1 h1 h2) hty (hs cl Ar q1) (g := mkF m pc Ls (x :: .int j :: .ref a :: S)) rfl rfl (hb C.2.2.1 hd)
  exact of st (K T1 h1' X1 e1 W1 (Arv.set Ar q1 S1 N1 H1 G1 hf W1 _ rfl hlen))
theorem newarray (X : Stand p l e R s m args below meth c T locs cells slots) (C : Cx p s m meth c Z bytes maxL own mname ret) {aty : ArrayType} (w : (Jvm.Cond.arrayClass (newarray.typeOf aty)).before a0 Z = true) (eT : T.heap = h) {n : Int32} (hn : 0 ≤ n.toInt) (cap : Nat) (hcap : n.toInt ≤ cap) (hb8 : cap * 8 ≤ 536870912) (hd : decode bytes pc = .ok (.newarray aty, 2)) (hc : cells + 1 ≤ R.cells) (hl : slots + cap ≤ R.slots) (hq : pc + 2 = q)
    (K : ∀ (T' : State) (h' : Heap) (b : Addr) (k : ClassId), Stand p l e R s m args below meth c T' locs (cells + 1) (slots + cap) → T'.heap = h' → b = h.size → Ext h h' → Arv Z h' b k (newarray.typeOf aty) n (List.replicate cap (defaultValue (newarray.typeOf aty))) (defaultValue (newarray.typeOf aty)) → Go p e below F (T'.setTop (mkF m q Ls (.ref b :: S)))) : Go p e below F (T.setTop (mkF m pc Ls (.int n :: S))) := by
  subst hq
  have hn' : ¬ n < 0 := by rw [Int32.lt_iff_toInt_lt]; have : (0 : Int32).toInt = 0 := rfl; omega
  obtain ⟨T1, h1, k1, X1, e1, E1, A1, st⟩ := newP X C.1 C.2.1 w eT (g := mkF m pc Ls (.int n :: S)) rfl (hb C.2.2.1 hd) rfl hn' (cap := cap) (by simp only [Int32.toNatClampNeg]; omega) hb8 hc hl
  exact of st (K T1 h1 _ k1 X1 e1 rfl E1 ((Arv.new A1 hn').pad (pad_rep [] _ cap)))
theorem anewarray (X : Stand p l e R s m args below meth c T locs cells slots) (C : Cx p s m meth c Z bytes maxL own mname ret) {i : Nat} {Cn : String} (w1 : (Jvm.Cond.classLink own i Cn).before a0 Z = true) (w2 : (Jvm.Cond.arrayOver (.object Cn)).before a0 Z = true) (eT : T.heap = h) {n : Int32} (hn : 0 ≤ n.toInt) (cap : Nat) (hcap : n.toInt ≤ cap) (hb8 : cap * 8 ≤ 536870912) (hd : decode bytes pc = .ok (.anewarray i, 3)) (hc : cells + 1 ≤ R.cells) (hl : slots + cap ≤ R.slots) (hq : pc + 3 = q)
    (K : ∀ (T' : State) (h' : Heap) (b : Addr) (k : ClassId), Stand p l e R s m args below meth c T' locs (cells + 1) (slots + cap) → T'.heap = h' → b = h.size → Ext h h' → Ovr Z k Cn → Arv Z h' b k (.object Cn) n (List.replicate cap .null) .null → Go p e below F (T'.setTop (mkF m q Ls (.ref b :: S)))) : Go p e below F (T.setTop (mkF m pc Ls (.int n :: S))) := by
  subst hq
  have hn' : ¬ n < 0 := by rw [Int32.lt_iff_toInt_lt]; have : (0 : Int32).toInt = 0 := rfl; omega
  obtain ⟨T1, h1, k1, X1, e1, E1, A1, O1, st⟩ := newR X C.1 C.2.1 C.2.2.2.2.1 w1 w2 eT (g := mkF m pc Ls (.int n :: S)) rfl (hb C.2.2.1 hd) rfl hn' (cap := cap) (by simp only [Int32.toNatClampNeg]; omega) hb8 hc hl
  exact of st (K T1 h1 _ k1 X1 e1 rfl E1 O1 ((Arv.new A1 hn').pad (pad_rep [] _ cap)))
/-! doubles -/
theorem dload (X : Stand p l e R s m args below meth c T locs cells slots) (C : Cx p s m meth c Z bytes maxL own mname ret) {k : Nat} {v : UInt64} (hd : decode bytes pc = .ok (.dload k, 2)) (hl : Ls[k]? = some (.val (.double v))) (hq : pc + 2 = q) (K : Go p e below F (T.setTop (mkF m q Ls (.double v :: S)))) : Go p e below F (T.setTop (mkF m pc Ls S)) := by
  subst hq; exact of (fun t k => XS.dload X.here C.1 rfl (hb C.2.2.1 hd) hl k) K
theorem dloadN (X : Stand p l e R s m args below meth c T locs cells slots) (C : Cx p s m meth c Z bytes maxL own mname ret) {k : Fin 4} {v : UInt64} (hd : decode bytes pc = .ok (.dload_n k, 1)) (hl : Ls[k.val]? = some (.val (.double v))) (hq : pc + 1 = q) (K : Go p e below F (T.setTop (mkF m q Ls (.double v :: S)))) : Go p e below F (T.setTop (mkF m pc Ls S)) := by
  subst hq; exact of (fun t k => XS.dloadN X.here C.1 rfl (hb C.2.2.1 hd) hl k) K
theorem dstore (X : Stand p l e R s m args below meth c T locs cells slots) (C : Cx p s m meth c Z bytes maxL own mname ret) {k : Nat} {v : UInt64} (hd : decode bytes pc = .ok (.dstore k, 2)) (hl : storeLocals Ls k (.double v) = some L') (hq : pc + 2 = q) (K : Go p e below F (T.setTop (mkF m q L' S))) : Go p e below F (T.setTop (mkF m pc Ls (.double v :: S))) := by
  subst hq; exact of (fun t k => XS.dstore X.here C.1 rfl (hb C.2.2.1 hd) rfl hl k) K
theorem dstoreN (X : Stand p l e R s m args below meth c T locs cells slots) (C : Cx p s m meth c Z bytes maxL own mname ret) {k : Fin 4} {v : UInt64} (hd : decode bytes pc = .ok (.dstore_n k, 1)) (hl : storeLocals Ls k.val (.double v) = some L') (hq : pc + 1 = q) (K : Go p e below F (T.setTop (mkF m q L' S))) : Go p e below F (T.setTop (mkF m pc Ls (.double v :: S))) := by
  subst hq; exact of (fun t k => XS.dstoreN X.here C.1 rfl (hb C.2.2.1 hd) rfl hl k) K
theorem dconst0 (X : Stand p l e R s m args below meth c T locs cells slots) (C : Cx p s m meth c Z bytes maxL own mname ret) {v : UInt64} (hd : decode bytes pc = .ok (.dconst 0, 1)) (hv : FP.dconst0 = v) (hq : pc + 1 = q) (K : Go p e below F (T.setTop (mkF m q Ls (.double v :: S)))) : Go p e below F (T.setTop (mkF m pc Ls S)) := by
  subst hq; exact of (fun t k => XS.dconst0 X.here C.1 rfl (hb C.2.2.1 hd) hv k) K
theorem dconst1 (X : Stand p l e R s m args below meth c T locs cells slots) (C : Cx p s m meth c Z bytes maxL own mname ret) {v : UInt64} (hd : decode bytes pc = .ok (.dconst 1, 1)) (hv : FP.dconst1 = v) (hq : pc + 1 = q) (K : Go p e below F (T.setTop (mkF m q Ls (.double v :: S)))) : Go p e below F (T.setTop (mkF m pc Ls S)) := by
  subst hq; exact of (fun t k => XS.dconst1 X.here C.1 rfl (hb C.2.2.1 hd) hv k) K
theorem i2d (X : Stand p l e R s m args below meth c T locs cells slots) (C : Cx p s m meth c Z bytes maxL own mname ret) {x : Int32} {v : UInt64} (hd : decode bytes pc = .ok (.i2d, 1)) (hv : FP.i2d x = v) (hq : pc + 1 = q) (K : Go p e below F (T.setTop (mkF m q Ls (.double v :: S)))) : Go p e below F (T.setTop (mkF m pc Ls (.int x :: S))) := by
  subst hq; exact of (fun t k => XS.i2dS X.here C.1 rfl (hb C.2.2.1 hd) rfl hv k) K
theorem l2d (X : Stand p l e R s m args below meth c T locs cells slots) (C : Cx p s m meth c Z bytes maxL own mname ret) {x : Int64} {v : UInt64} (hd : decode bytes pc = .ok (.l2d, 1)) (hv : FP.l2d x = v) (hq : pc + 1 = q) (K : Go p e below F (T.setTop (mkF m q Ls (.double v :: S)))) : Go p e below F (T.setTop (mkF m pc Ls (.long x :: S))) := by
  subst hq; exact of (fun t k => XS.l2dS X.here C.1 rfl (hb C.2.2.1 hd) rfl hv k) K
theorem dcmp (X : Stand p l e R s m args below meth c T locs cells slots) (C : Cx p s m meth c Z bytes maxL own mname ret) {o : CmpOp} {x y : UInt64} {v : Int32} (hd : decode bytes pc = .ok (.dcmp o, 1)) (hv : cmpValue (FP.dcmp x y) o = v) (hq : pc + 1 = q) (K : Go p e below F (T.setTop (mkF m q Ls (.int v :: S)))) : Go p e below F (T.setTop (mkF m pc Ls (.double y :: .double x :: S))) := by
  subst hq; exact of (fun t k => XS.dcmpS X.here C.1 rfl (hb C.2.2.1 hd) rfl hv k) K
theorem dadd (X : Stand p l e R s m args below meth c T locs cells slots) (C : Cx p s m meth c Z bytes maxL own mname ret) {x y v : UInt64} (hd : decode bytes pc = .ok (.dadd, 1)) (hn : Jvm.Free.Fl.NoNaN64 v) (hv : FP.dadd x y = v) (hq : pc + 1 = q) (K : Go p e below F (T.setTop (mkF m q Ls (.double v :: S)))) : Go p e below F (T.setTop (mkF m pc Ls (.double y :: .double x :: S))) := by
  subst hq; exact of (fun t k => XS.daddS X.here C.1 rfl (hb C.2.2.1 hd) rfl (hv ▸ hn) hv k) K
theorem dsub (X : Stand p l e R s m args below meth c T locs cells slots) (C : Cx p s m meth c Z bytes maxL own mname ret) {x y v : UInt64} (hd : decode bytes pc = .ok (.dsub, 1)) (hn : Jvm.Free.Fl.NoNaN64 v) (hv : FP.dsub x y = v) (hq : pc + 1 = q) (K : Go p e below F (T.setTop (mkF m q Ls (.double v :: S)))) : Go p e below F (T.setTop (mkF m pc Ls (.double y :: .double x :: S))) := by
  subst hq; exact of (fun t k => XS.dsubS X.here C.1 rfl (hb C.2.2.1 hd) rfl (hv ▸ hn) hv k) K
theorem dmul (X : Stand p l e R s m args below meth c T locs cells slots) (C : Cx p s m meth c Z bytes maxL own mname ret) {x y v : UInt64} (hd : decode bytes pc = .ok (.dmul, 1)) (hn : Jvm.Free.Fl.NoNaN64 v) (hv : FP.dmul x y = v) (hq : pc + 1 = q) (K : Go p e below F (T.setTop (mkF m q Ls (.double v :: S)))) : Go p e below F (T.setTop (mkF m pc Ls (.double y :: .double x :: S))) := by
  subst hq; exact of (fun t k => XS.dmulS X.here C.1 rfl (hb C.2.2.1 hd) rfl (hv ▸ hn) hv k) K
theorem ddiv (X : Stand p l e R s m args below meth c T locs cells slots) (C : Cx p s m meth c Z bytes maxL own mname ret) {x y v : UInt64} (hd : decode bytes pc = .ok (.ddiv, 1)) (hn : Jvm.Free.Fl.NoNaN64 v) (hv : FP.ddiv x y = v) (hq : pc + 1 = q) (K : Go p e below F (T.setTop (mkF m q Ls (.double v :: S)))) : Go p e below F (T.setTop (mkF m pc Ls (.double y :: .double x :: S))) := by
  subst hq; exact of (fun t k => XS.ddivS X.here C.1 rfl (hb C.2.2.1 hd) rfl (hv ▸ hn) hv k) K
theorem ldcD (X : Stand p l e R s m args below meth c T locs cells slots) (C : Cx p s m meth c Z bytes maxL own mname ret) {i : Nat} {v : UInt64} (w : (Jvm.Cond.constantDouble own i v).before a0 Z = true) (hd : decode bytes pc = .ok (.ldc2_w i, 3)) (hq : pc + 3 = q) (K : Go p e below F (T.setTop (mkF m q Ls (.double v :: S)))) : Go p e below F (T.setTop (mkF m pc Ls S)) := by
  subst hq; exact of (X.ldc2DoubleC C.1 C.2.2.2.2.1 (mvT C.2.1 w) (g := mkF m pc Ls S) rfl (hb C.2.2.1 hd)) K
theorem retD (X : Stand p l e R s m args below meth c T locs cells slots) (C : Cx p s m meth c Z bytes maxL own mname (some .double)) (eT : T.heap = h) {z : UInt64} (hd : decode bytes pc = .ok (.dreturn, 1)) {k n : Nat} (hk : cells ≤ k) (hn : slots ≤ n) {Q : Option Value → Heap → List Loc → Prop} (hQ : Q (some (.double z)) h locs) :
    Go p e below (Post s Q k n) (T.setTop (mkF m pc Ls (.double z :: rest))) := by
  obtain ⟨hx, hZ, hby, hml, hown, hnm, hret, hlk⟩ := C
  obtain ⟨fs, hr, hrun, hended, hW, hsame⟩ := X.leave (v := some (.double z)) (fun h => by rw [hret] at h; cases h)
  refine ⟨_, _, retOut X hx hret rfl (Or.inr (Or.inr (Or.inl ⟨rfl, rfl, z, rfl⟩))) (hb hby hd) hr, hrun, hended, _, _, rfl, ?_, ⟨_, rfl⟩, hW, hsame.mono hk hn⟩
  show Q _ T.heap _
  rw [eT]; exact hQ
theorem keepRefl (h : Heap) : Keep h h [] := Keep.refl h []
/-! kinds of objects -/
theorem nsRoot {O Kn : String} {n : Nat} (w : (Jvm.Cond.noSuperclass O).before a0 Z = true) (wi : (Jvm.Cond.instantiable Kn n).before a0 Z = true) (hn : O ≠ Kn) : NS Z O Kn := by
  obtain ⟨c, k, h1, h2, h3, -, -⟩ := Cond.noSuperclass_spec w
  obtain ⟨t, k2, g1, -⟩ := Cond.instantiable_spec wi
  have ne := ids_ne h1 g1 hn
  refine ⟨c, t, h1, g1, fun fuel => ?_⟩
  cases fuel with
  | zero => rfl
  | succ f => simp [Vm.isSubclassAux, ne, h2, h3]
theorem nsNo {Cn S Kn : String} {n : Nat} (w : (Jvm.Cond.superclass Cn S).before a0 Z = true) (wi : (Jvm.Cond.instantiable Kn n).before a0 Z = true) (nn : NS Z Cn Kn) (hn : Cn ≠ Kn) : ∃ c t, Z.vm.findClass Cn = some c ∧ Z.vm.findClass Kn = some t ∧ Z.vm.assignable c t = false := by
  obtain ⟨c, t, h0, g0, n3⟩ := nn
  obtain ⟨p, k, kp, h1, h2, h3, h4, h5, -, h7⟩ := Cond.superclass_spec h0 w
  obtain ⟨t', k', g1, g2, g5, g6, -⟩ := Cond.instantiable_spec wi
  cases g0.symm.trans g1
  have g7 : k'.isInterface = false := (Bool.or_eq_false_iff.mp g6).1
  have ne := ids_ne h0 g0 hn
  refine ⟨c, t, h0, g0, ?_⟩
  show Z.vm.assignableAux (255 + 1) c t = false
  simp [Vm.assignableAux, ne, h2, g2, h5, g5, g7, Vm.isSubclass, n3]
theorem cast (X : Stand p l e R s m args below meth c T locs cells slots) (C : Cx p s m meth c Z bytes maxL own mname ret) {i : Nat} {Kn : String} (w : (Jvm.Cond.classLink own i Kn).before a0 Z = true) (eT : T.heap = h) {a : Addr} (I : Ins Z h a Kn true) (hd : decode bytes pc = .ok (.checkcast i, 3)) (hq : pc + 3 = q)
    (K : ∀ (T' : State), Stand p l e R s m args below meth c T' locs cells slots → T'.heap = h → Go p e below F (T'.setTop (mkF m q Ls (.ref a :: S)))) : Go p e below F (T.setTop (mkF m pc Ls (.ref a :: S))) := by
  subst hq
  obtain ⟨T1, X1, e1, st⟩ := castY X C.1 C.2.1 C.2.2.2.2.1 w eT I (g := mkF m pc Ls (.ref a :: S)) rfl rfl (hb C.2.2.1 hd)
  exact of st (K T1 X1 e1)
theorem inst1 (X : Stand p l e R s m args below meth c T locs cells slots) (C : Cx p s m meth c Z bytes maxL own mname ret) {i : Nat} {Kn : String} (w : (Jvm.Cond.classLink own i Kn).before a0 Z = true) (eT : T.heap = h) {a : Addr} (I : Ins Z h a Kn true) (hd : decode bytes pc = .ok (.instanceof i, 3)) (hq : pc + 3 = q)
    (K : ∀ (T' : State), Stand p l e R s m args below meth c T' locs cells slots → T'.heap = h → Go p e below F (T'.setTop (mkF m q Ls (.int 1 :: S)))) : Go p e below F (T.setTop (mkF m pc Ls (.ref a :: S))) := by
  subst hq
  obtain ⟨T1, X1, e1, st⟩ := instY X C.1 C.2.1 C.2.2.2.2.1 w eT I (g := mkF m pc Ls (.ref a :: S)) rfl rfl (hb C.2.2.1 hd)
  exact of st (K T1 X1 e1)
theorem inst0 (X : Stand p l e R s m args below meth c T locs cells slots) (C : Cx p s m meth c Z bytes maxL own mname ret) {i : Nat} {Kn Cn : String} (w : (Jvm.Cond.classLink own i Kn).before a0 Z = true) (eT : T.heap = h) {a : Addr} (E : Exa Z h a Cn) (N : ∃ c t, Z.vm.findClass Cn = some c ∧ Z.vm.findClass Kn = some t ∧ Z.vm.assignable c t = false) (hd : decode bytes pc = .ok (.instanceof i, 3)) (hq : pc + 3 = q)
    (K : ∀ (T' : State), Stand p l e R s m args below meth c T' locs cells slots → T'.heap = h → Go p e below F (T'.setTop (mkF m q Ls (.int 0 :: S)))) : Go p e below F (T.setTop (mkF m pc Ls (.ref a :: S))) := by
  subst hq
  obtain ⟨T1, X1, e1, st⟩ := instNo X C.1 C.2.1 C.2.2.2.2.1 w eT E N (g := mkF m pc Ls (.ref a :: S)) rfl rfl (hb C.2.2.1 hd)
  exact of st (K T1 X1 e1)
theorem instNull (X : Stand p l e R s m args below meth c T locs cells slots) (C : Cx p s m meth c Z bytes maxL own mname ret) {i : Nat} (hd : decode bytes pc = .ok (.instanceof i, 3)) (hq : pc + 3 = q) (K : Go p e below F (T.setTop (mkF m q Ls (.int 0 :: S)))) : Go p e below F (T.setTop (mkF m pc Ls (.null :: S))) := by
  subst hq; exact of (X.instanceofNull C.1 (g := mkF m pc Ls (.null :: S)) rfl rfl (hb C.2.2.1 hd)) K
theorem castNull (X : Stand p l e R s m args below meth c T locs cells slots) (C : Cx p s m meth c Z bytes maxL own mname ret) {i : Nat} (hd : decode bytes pc = .ok (.checkcast i, 3)) (hq : pc + 3 = q) (K : Go p e below F (T.setTop (mkF m q Ls (.null :: S)))) : Go p e below F (T.setTop (mkF m pc Ls (.null :: S))) := by
  subst hq; exact of (X.checkcastNull C.1 (g := mkF m pc Ls (.null :: S)) rfl rfl (hb C.2.2.1 hd)) K
theorem acmp (X : Stand p l e R s m args below meth c T locs cells slots) (C : Cx p s m meth c Z bytes maxL own mname ret) {cd : ACond} {o : Int} {x y : Value} (h1 : x.isRef = true) (h2 : y.isRef = true) {same : Bool} (hs : decide (x = y) = same) (hd : decode bytes pc = .ok (.if_acmp cd o, 3)) (ho : 0 ≤ (pc : Int) + o) (hq : q = if acV cd same = true then ((pc : Int) + o).toNat else pc + 3) (K : Go p e below F (T.setTop (mkF m q Ls S))) : Go p e below F (T.setTop (mkF m pc Ls (y :: x :: S))) :=
  of (fun t k => Jvm.RoadKit.acmp (g := mkF m pc Ls (y :: x :: S)) X C.1 rfl h1 h2 rfl (hb C.2.2.1 hd) rfl hs ho hq k) K
end
end W
end Jvm.Pilot.@@N@@
namespace Jvm.Pilot.@@N@@
open Jvm Jvm.ClassFile Sem Op Lib Jvm.Free Jvm.Stand Jvm.LawKit Jvm.RoadKit Bundle Jvm.Pilot.@@N@@.Jvm.D
theorem d2_0 : decode jdk_30_method_1_code 0 = .ok (.aload_n 0, 1) := by decide +kernel
theorem d2_1 : decode jdk_30_method_1_code 1 = .ok (.invokespecial 1, 3) := by decide +kernel
theorem d2_4 : decode jdk_30_method_1_code 4 = .ok (.return_, 1) := by decide +kernel
theorem pn_java_lang_Record : plainName "java/lang/Record" = true := by first | (simp [plainName, overriddenIn]; done) | decide +kernel
def Q2 (Z : State) (p0 : Addr) (h0 : Heap) (n0 : Nat) (v : Option Value) (h : Heap) (L : List Loc) : Prop := v = none ∧ Fr n0 L ∧ h = h0
set_option maxRecDepth 65536 in
set_option maxHeartbeats 40000000 in
theorem rm2 (l : Launch) (Z : State) (a0 : Array Value) (hw : ∀ d ∈ tables_1, d.before a0 Z = true) (ws : List Jvm.Cond) (p0 : Addr) (h0 : Heap) (n0 : Nat) :
    MetFree l (⟨"java/lang/Record", "<init>", "()V"⟩ : MethodName) (head1 (Jvm.Cond.code (⟨"java/lang/Record", "<init>", "()V"⟩ : MethodName) jdk_30_method_1_code 1 none :: ws) ({ frames := 1, cells := 0, slots := 0, locals := 12 } : Room)) (fun a U => a = #[(.ref p0)] ∧ Z.Warmed39 U.vm ∧ U.heap = h0) (fun _ _ _ _ _ => True) (fun _ U o U' => ∃ v L, o = .returned v ∧ Q2 Z p0 h0 n0 v U'.heap L ∧ FrameEnd U o U' L ({ frames := 1, cells := 0, slots := 0, locals := 12 } : Room).cells ({ frames := 1, cells := 0, slots := 0, locals := 12 } : Room).slots) := by
  refine W.bodyOf (y := (⟨"java/lang/Record", "<init>", "()V"⟩ : MethodName)) (as := #[(.ref p0)]) (maxL := 1) (Q := Q2 Z p0 h0 n0) (Ls := #[.val (.ref p0)]) (plainFor_of_name pn_java_lang_Record) (fun m => by first | rfl | (simp [entryFrame, mkF, argsToLocals, Value.category]; done)) ?_
  intro p e s m below meth c T0 C X0 e0
  have N0 := Fr.nil n0
  refine W.aloadN (q := 1) X0 C d2_0 rfl rfl rfl ?_
  refine W.initObj (q := 4) X0 C (W.ww hw 11 rfl) (W.ww hw 12 rfl) (W.ww hw 13 rfl) e0 d2_1 rfl (by decide) (Nat.le_of_ble_eq_true rfl) rfl (fun T1 X1 e1 => ?_)
  exact W.retV X1 C e1 d2_4 (by decide) (by decide) ⟨rfl, N0, rfl⟩
theorem d1_0 : decode prog_39_method_1_code 0 = .ok (.aload_n 0, 1) := by decide +kernel
theorem d1_1 : decode prog_39_method_1_code 1 = .ok (.invokespecial 1, 3) := by decide +kernel
theorem pd__28_29V : parseMethodDescriptor "()V" = some ⟨[], none⟩ := by decide +kernel
theorem d1_4 : decode prog_39_method_1_code 4 = .ok (.aload_n 0, 1) := by decide +kernel
theorem d1_5 : decode prog_39_method_1_code 5 = .ok (.dload_n 1, 1) := by decide +kernel
theorem d1_6 : decode prog_39_method_1_code 6 = .ok (.putfield 7, 3) := by decide +kernel
theorem d1_9 : decode prog_39_method_1_code 9 = .ok (.aload_n 0, 1) := by decide +kernel
theorem d1_10 : decode prog_39_method_1_code 10 = .ok (.dload_n 3, 1) := by decide +kernel
theorem d1_11 : decode prog_39_method_1_code 11 = .ok (.putfield 13, 3) := by decide +kernel
theorem d1_14 : decode prog_39_method_1_code 14 = .ok (.return_, 1) := by decide +kernel
theorem pn_com_example_routeloom_routeloom_Objective_Weights : plainName "com/example/routeloom/routeloom/Objective$Weights" = true := by first | (simp [plainName, overriddenIn]; done) | decide +kernel
def Q1 (Z : State) (p0 : Addr) (p1 : UInt64) (p2 : UInt64) (h0 : Heap) (n0 : Nat) (v : Option Value) (h : Heap) (L : List Loc) : Prop := v = none ∧ Fr n0 L ∧ Keep h0 h [p0] ∧ Exa Z h p0 "com/example/routeloom/routeloom/Objective$Weights" ∧ Fld Z h p0 "com/example/routeloom/routeloom/Objective$Weights" "att" "D" (.double p1) ∧ Fld Z h p0 "com/example/routeloom/routeloom/Objective$Weights" "trt" "D" (.double p2)
set_option maxRecDepth 65536 in
set_option maxHeartbeats 40000000 in
theorem rm1 (l : Launch) (Z : State) (a0 : Array Value) (hw : ∀ d ∈ tables_1, d.before a0 Z = true) (ws : List Jvm.Cond) (p0 : Addr) (p1 : UInt64) (p2 : UInt64) (h0 : Heap) (n0 : Nat) (Z0 : n0 ≤ h0.size) (E0 : Exa Z h0 p0 "com/example/routeloom/routeloom/Objective$Weights") (F0a : Fld Z h0 p0 "com/example/routeloom/routeloom/Objective$Weights" "att" "D" (.double (0 : UInt64))) (F0b : Fld Z h0 p0 "com/example/routeloom/routeloom/Objective$Weights" "trt" "D" (.double (0 : UInt64))) (hge : n0 ≤ p0) :
    MetFree l (⟨"com/example/routeloom/routeloom/Objective$Weights", "<init>", "(DD)V"⟩ : MethodName) (head1 (Jvm.Cond.code (⟨"com/example/routeloom/routeloom/Objective$Weights", "<init>", "(DD)V"⟩ : MethodName) prog_39_method_1_code 5 none :: ws) ({ frames := 2, cells := 0, slots := 0, locals := 24 } : Room)) (fun a U => a = #[(.ref p0), (.double p1), (.double p2)] ∧ Z.Warmed39 U.vm ∧ U.heap = h0) (fun _ _ _ _ _ => True) (fun _ U o U' => ∃ v L, o = .returned v ∧ Q1 Z p0 p1 p2 h0 n0 v U'.heap L ∧ FrameEnd U o U' L ({ frames := 2, cells := 0, slots := 0, locals := 24 } : Room).cells ({ frames := 2, cells := 0, slots := 0, locals := 24 } : Room).slots) := by
  refine W.bodyOf (y := (⟨"com/example/routeloom/routeloom/Objective$Weights", "<init>", "(DD)V"⟩ : MethodName)) (as := #[(.ref p0), (.double p1), (.double p2)]) (maxL := 5) (Q := Q1 Z p0 p1 p2 h0 n0) (Ls := #[.val (.ref p0), .val (.double p1), .second, .val (.double p2), .second]) (plainFor_of_name pn_com_example_routeloom_routeloom_Objective_Weights) (fun m => by first | rfl | (simp [entryFrame, mkF, argsToLocals, Value.category]; done)) ?_
  intro p e s m below meth c T0 C X0 e0
  have N0 := Fr.nil n0
  have K0 := Keep.refl h0 [p0]
  refine W.aloadN (q := 1) X0 C d1_0 rfl rfl rfl ?_
  refine W.callI (q := 4) X0 C rfl (W.ww hw 6 rfl) (W.ww hw 7 rfl) (W.ww hw 9 rfl) (W.ww hw 10 rfl) (by decide) (rm2 l Z a0 hw [] p0 h0 n0) e0 d1_1 (a := p0) [] [] rfl rfl pd__28_29V rfl rfl (by decide) (Nat.le_of_ble_eq_true rfl) (by decide) (by decide) rfl (fun T2 w2 L2 X2 hQ2 => ?_)
  obtain ⟨rfl, NL2, e2⟩ := hQ2
  have N2 := Fr.app N0 NL2
  show W.Go p e below _ (T2.setTop (mkF m 4 #[.val (.ref p0), .val (.double p1), .second, .val (.double p2), .second] []))
  refine W.aloadN (q := 5) X2 C d1_4 rfl rfl rfl ?_
  refine W.dloadN (q := 6) X2 C d1_5 rfl rfl ?_
  refine W.putF (host := "") (q := 9) X2 C (Or.inl (W.ww hw 14 rfl)) Via.refl e2 F0a E0 (Or.inr ⟨(W.ww hw 15 rfl), rfl, rfl⟩) (W.ww hw 1 rfl) (ty := .double) (by decide) rfl rfl d1_6 rfl (fun T3 h3 X3 e3 W3 => ?_)
  have Fw3 := F0a.same W3
  have E0_5 := E0.wr W3
  have F0b_7 := F0b.other W3 (Or.inr (slot_ne (Or.inr (W.ww hw 17 rfl)) (Or.inr (W.ww hw 15 rfl)) (by decide) (t := .double) (t' := .double) (by decide) (by decide)))
  have N3 := Fr.snoc X3 N2 hge
  have K3 := K0.wr W3 (Or.inl (by simp))
  have n0_3 : n0 ≤ h3.size := by rw [W3.size]; exact Z0
  refine W.aloadN (q := 10) X3 C d1_9 rfl rfl rfl ?_
  refine W.dloadN (q := 11) X3 C d1_10 rfl rfl ?_
  refine W.putF (host := "") (q := 14) X3 C (Or.inl (W.ww hw 16 rfl)) Via.refl e3 F0b_7 E0_5 (Or.inr ⟨(W.ww hw 17 rfl), rfl, rfl⟩) (W.ww hw 1 rfl) (ty := .double) (by decide) rfl rfl d1_11 rfl (fun T8 h8 X8 e8 W8 => ?_)
  have Fw8 := F0b_7.same W8
  have E0_10 := E0_5.wr W8
  have Fw3_11 := Fw3.other W8 (Or.inr (slot_ne (Or.inr (W.ww hw 15 rfl)) (Or.inr (W.ww hw 17 rfl)) (by decide) (t := .double) (t' := .double) (by decide) (by decide)))
  have N8 := Fr.snoc X8 N3 hge
  have K8 := K3.wr W8 (Or.inl (by simp))
  have n0_8 : n0 ≤ h8.size := by rw [W8.size]; exact n0_3
  exact W.retV X8 C e8 d1_14 (by decide) (by decide) ⟨rfl, N8, K8, E0_10, Fw3_11, Fw8⟩
theorem own_num {i : Int} {a : UInt64} (h : FP.Core.DInt i a) : Jvm.Free.Fl.NoNaN64 a := by
  rw [Jvm.Free.Fl.noNaN64_iff]; exact (FP.Core.ne_nan a).mp (FP.Core.DInt_ne_nan h)
def own_sg (i j : Int) : Int32 := if i < j then -1 else if i = j then 0 else 1
theorem own_cmp {i j : Int} {a b : UInt64} (ha : FP.Core.DInt i a) (hb : FP.Core.DInt j b) (o : CmpOp) : cmpValue (FP.dcmp a b) o = own_sg i j := by
  have p : (0 : Int) < (FP.Core.one64 : Int) := Int.natCast_pos.mpr FP.Core.one64_pos
  have e : FP.dcmp a b = some (compare (i * (FP.Core.one64 : Int)) (j * (FP.Core.one64 : Int))) := by
    have q := FP.Core.dcmp_zval (FP.Core.DInt_ne_nan ha) (FP.Core.DInt_ne_nan hb)
    rw [FP.Core.DInt_zval ha, FP.Core.DInt_zval hb] at q; exact q
  rw [e, own_sg]
  by_cases h1 : i < j
  · rw [if_pos h1, (FP.Core.compare_lt_iff _ _).mpr (Int.mul_lt_mul_of_pos_right h1 p)]; cases o <;> rfl
  · rw [if_neg h1]
    by_cases h2 : i = j
    · rw [if_pos h2, (FP.Core.compare_eq_iff _ _).mpr (by rw [h2])]; cases o <;> rfl
    · rw [if_neg h2, (FP.Core.compare_gt_iff _ _).mpr (Int.mul_lt_mul_of_pos_right (show j < i by omega) p)]; cases o <;> rfl
theorem own_sg0 {i : Int} (h : own_sg i 0 = 0) : i = 0 := by
  unfold own_sg at h
  by_cases h1 : i < 0
  · rw [if_pos h1] at h; exact absurd h (by decide)
  · rw [if_neg h1] at h
    by_cases h2 : i = 0
    · exact h2
    · rw [if_neg h2] at h; exact absurd h (by decide)
theorem own_sgn {i : Int} (h : own_sg i 0 ≠ 0) : i ≠ 0 := fun q => h (by rw [q]; rfl)
theorem own_sge (i : Int) : own_sg i i = 0 := by unfold own_sg; rw [if_neg (Int.lt_irrefl i), if_pos rfl]
def own_b (i : Int) : Prop := i.natAbs ≤ 524288
theorem own_mul {i j : Int} (h1 : own_b i) (h2 : own_b j) : (i * j).natAbs ≤ 274877906944 := by rw [Int.natAbs_mul]; exact Nat.mul_le_mul h1 h2
theorem own_m53 {i j : Int} (h1 : own_b i) (h2 : own_b j) : (i * j).natAbs ≤ 2 ^ 53 := Nat.le_trans (own_mul h1 h2) (by decide)
theorem own_s53 {i j k l : Int} (h1 : own_b i) (h2 : own_b j) (h3 : own_b k) (h4 : own_b l) : (i * j + k * l).natAbs ≤ 2 ^ 53 := by
  have a1 := own_mul h1 h2; have a2 := own_mul h3 h4
  generalize i * j = u at *; generalize k * l = w at *
  have : (2 : Nat) ^ 53 = 9007199254740992 := by decide
  omega
theorem own_d0 : FP.Core.DInt 0 0 := by
  have h := FP.Core.i2d_int 0
  rw [show FP.Core.i2d 0 = 0 by decide +kernel] at h; exact h
theorem own_bd (x v : Int32) (h : ((x <<< ((12 : Int32) &&& 31)) >>> ((12 : Int32) &&& 31)) = v) : own_b v.toInt := by
  have a1 := c_ishr (x <<< ((12 : Int32) &&& 31)) 12 12 (by decide)
  have r := rng32 (x <<< ((12 : Int32) &&& 31))
  have k : ((2 ^ 12 : Nat) : Int) = 4096 := by decide
  rw [h, k] at a1
  unfold own_b; omega
theorem own_ref (a x t y : Int32) (ha : own_b a.toInt) (hx : own_b x.toInt) (ht : own_b t.toInt) (hy : own_b y.toInt) : ((a.toInt64 * x.toInt64) + (t.toInt64 * y.toInt64)).toInt = a.toInt * x.toInt + t.toInt * y.toInt := by
  have m1 := own_mul ha hx; have m2 := own_mul ht hy
  have a1 := c_lmul a.toInt64 x.toInt64; have a2 := c_lmul t.toInt64 y.toInt64
  rw [c_i2l, c_i2l] at a1 a2
  have a3 := c_ladd (a.toInt64 * x.toInt64) (t.toInt64 * y.toInt64)
  have r1 := rng64 (a.toInt64 * x.toInt64); have r2 := rng64 (t.toInt64 * y.toInt64); have r3 := rng64 ((a.toInt64 * x.toInt64) + (t.toInt64 * y.toInt64))
  generalize a.toInt * x.toInt = u at *; generalize t.toInt * y.toInt = w at *
  omega
theorem d4_0 : decode prog_39_method_2_code 0 = .ok (.aload_n 0, 1) := by decide +kernel
theorem d4_1 : decode prog_39_method_2_code 1 = .ok (.getfield 13, 3) := by decide +kernel
theorem d4_4 : decode prog_39_method_2_code 4 = .ok (.dload_n 3, 1) := by decide +kernel
theorem d4_5 : decode prog_39_method_2_code 5 = .ok (.dmul, 1) := by decide +kernel
theorem d4_6 : decode prog_39_method_2_code 6 = .ok (.dstore 5, 2) := by decide +kernel
theorem d4_8 : decode prog_39_method_2_code 8 = .ok (.aload_n 0, 1) := by decide +kernel
theorem d4_9 : decode prog_39_method_2_code 9 = .ok (.getfield 7, 3) := by decide +kernel
theorem d4_12 : decode prog_39_method_2_code 12 = .ok (.dconst 0, 1) := by decide +kernel
theorem d4_13 : decode prog_39_method_2_code 13 = .ok (.dcmp .l, 1) := by decide +kernel
theorem d4_14 : decode prog_39_method_2_code 14 = .ok (.ifCond .ne 8, 3) := by decide +kernel
theorem d4_22 : decode prog_39_method_2_code 22 = .ok (.aload_n 0, 1) := by decide +kernel
theorem d4_23 : decode prog_39_method_2_code 23 = .ok (.getfield 7, 3) := by decide +kernel
theorem d4_26 : decode prog_39_method_2_code 26 = .ok (.dload_n 1, 1) := by decide +kernel
theorem d4_27 : decode prog_39_method_2_code 27 = .ok (.dmul, 1) := by decide +kernel
theorem d4_28 : decode prog_39_method_2_code 28 = .ok (.dload 5, 2) := by decide +kernel
theorem d4_30 : decode prog_39_method_2_code 30 = .ok (.dadd, 1) := by decide +kernel
theorem d4_31 : decode prog_39_method_2_code 31 = .ok (.dreturn, 1) := by decide +kernel
theorem d4_17 : decode prog_39_method_2_code 17 = .ok (.dload 5, 2) := by decide +kernel
theorem d4_19 : decode prog_39_method_2_code 19 = .ok (.goto 12, 3) := by decide +kernel
def Q4 (Z : State) (p0 : Addr) (p1 p2 : UInt64) (x1 x2 : UInt64) (A Xi T Y : Int) (h0 : Heap) (n0 : Nat) (v : Option Value) (h : Heap) (L : List Loc) : Prop := ∃ r, v = some (.double r) ∧ Fr n0 L ∧ h = h0 ∧ FP.Core.DInt (A * Xi + T * Y) r
set_option maxRecDepth 65536 in
set_option maxHeartbeats 40000000 in
theorem rm4 (l : Launch) (Z : State) (a0 : Array Value) (hw : ∀ d ∈ tables_1, d.before a0 Z = true) (ws : List Jvm.Cond) (p0 : Addr) (p1 p2 : UInt64) (x1 x2 : UInt64) (A Xi T Y : Int) (h0 : Heap) (n0 : Nat) (F0 : Fld Z h0 p0 "com/example/routeloom/routeloom/Objective$Weights" "att" "D" (.double x1)) (F1 : Fld Z h0 p0 "com/example/routeloom/routeloom/Objective$Weights" "trt" "D" (.double x2)) (hA : FP.Core.DInt A x1) (hT : FP.Core.DInt T x2) (hY : FP.Core.DInt Y p2) (hAX : A = 0 ∨ FP.Core.DInt Xi p1) (hbA : own_b A) (hbX : own_b Xi) (hbT : own_b T) (hbY : own_b Y) :
    MetFree l (⟨"com/example/routeloom/routeloom/Objective$Weights", "value", "(DD)D"⟩ : MethodName) (head1 (Jvm.Cond.code (⟨"com/example/routeloom/routeloom/Objective$Weights", "value", "(DD)D"⟩ : MethodName) prog_39_method_2_code 7 (some .double) :: ws) ({ frames := 0, cells := 0, slots := 0, locals := 0 } : Room)) (fun a U => a = #[(.ref p0), (.double p1), (.double p2)] ∧ Z.Warmed39 U.vm ∧ U.heap = h0) (fun _ _ _ _ _ => True) (fun _ U o U' => ∃ v L, o = .returned v ∧ Q4 Z p0 p1 p2 x1 x2 A Xi T Y h0 n0 v U'.heap L ∧ FrameEnd U o U' L ({ frames := 0, cells := 0, slots := 0, locals := 0 } : Room).cells ({ frames := 0, cells := 0, slots := 0, locals := 0 } : Room).slots) := by
  refine W.bodyOf (y := (⟨"com/example/routeloom/routeloom/Objective$Weights", "value", "(DD)D"⟩ : MethodName)) (as := #[(.ref p0), (.double p1), (.double p2)]) (maxL := 7) (Q := Q4 Z p0 p1 p2 x1 x2 A Xi T Y h0 n0) (Ls := #[.val (.ref p0), .val (.double p1), .second, .val (.double p2), .second, .unset, .unset]) (plainFor_of_name pn_com_example_routeloom_routeloom_Objective_Weights) (fun m => by first | rfl | (simp [entryFrame, mkF, argsToLocals, Value.category]; done)) ?_
  intro p e s m below meth c T0 C X0 e0
  have N0 := Fr.nil n0
  refine W.aloadN (q := 1) X0 C d4_0 rfl rfl rfl ?_
  refine W.getF (host := "") (q := 4) X0 C (Or.inl (W.ww hw 16 rfl)) Via.refl e0 F1 d4_1 rfl (fun T13 X13 e13 => ?_)
  refine W.dloadN (q := 5) X13 C d4_4 rfl rfl ?_
  have di14 := FP.Core.dmul_int hT hY (own_m53 hbT hbY)
  refine W.dmul (q := 6) (v := (FP.dmul x2 p2)) X13 C d4_5 (own_num di14) rfl rfl ?_
  refine W.dstore (q := 8) (L' := #[.val (.ref p0), .val (.double p1), .second, .val (.double p2), .second, .val (.double (FP.dmul x2 p2)), .second]) X13 C d4_6 rfl rfl ?_
  refine W.aloadN (q := 9) X13 C d4_8 rfl rfl rfl ?_
  refine W.getF (host := "") (q := 12) X13 C (Or.inl (W.ww hw 14 rfl)) Via.refl e13 F0 d4_9 rfl (fun T15 X15 e15 => ?_)
  refine W.dconst0 (q := 13) (v := 0) X15 C d4_12 rfl rfl ?_
  refine W.dcmp (q := 14) (v := own_sg A 0) X15 C d4_13 (own_cmp hA own_d0 _) rfl ?_
  refine W.if_ (q := 22) (q' := 17) X15 C d4_14 (by decide) (by decide) rfl (fun hc16 => ?_) (fun hc16 => ?_)
  · replace hc16 : (own_sg A 0) ≠ 0 := hc16
    have hX := hAX.resolve_left (own_sgn hc16)
    refine W.aloadN (q := 23) X15 C d4_22 rfl rfl rfl ?_
    refine W.getF (host := "") (q := 26) X15 C (Or.inl (W.ww hw 14 rfl)) Via.refl e15 F0 d4_23 rfl (fun T17 X17 e17 => ?_)
    refine W.dloadN (q := 27) X17 C d4_26 rfl rfl ?_
    have di18 := FP.Core.dmul_int hA hX (own_m53 hbA hbX)
    refine W.dmul (q := 28) (v := (FP.dmul x1 p1)) X17 C d4_27 (own_num di18) rfl rfl ?_
    refine W.dload (q := 30) X17 C d4_28 rfl rfl ?_
    have di19 := FP.Core.dadd_int di18 di14 (own_s53 hbA hbX hbT hbY)
    refine W.dadd (q := 31) (v := (FP.dadd (FP.dmul x1 p1) (FP.dmul x2 p2))) X17 C d4_30 (own_num di19) rfl rfl ?_
    exact W.retD X17 C e17 d4_31 (by decide) (by decide) ⟨(FP.dadd (FP.dmul x1 p1) (FP.dmul x2 p2)), rfl, N0, rfl, di19⟩
  · replace hc16 : (own_sg A 0) = 0 := hc16
    have hA0 := own_sg0 hc16
    refine W.dload (q := 19) X15 C d4_17 rfl rfl ?_
    refine W.goto (q := 31) X15 C d4_19 (by decide) (by decide) ?_
    exact W.retD X15 C e15 d4_31 (by decide) (by decide) ⟨(FP.dmul x2 p2), rfl, N0, rfl, (by rw [hA0, Int.zero_mul, Int.zero_add]; exact di14)⟩
theorem pd__28DD_29V : parseMethodDescriptor "(DD)V" = some ⟨[.double, .double], none⟩ := by decide +kernel
theorem pd__28DD_29D : parseMethodDescriptor "(DD)D" = some ⟨[.double, .double], some .double⟩ := by decide +kernel
theorem pn_com_example_routeloom_routeloom_WeightsValuePinLaw : plainName "com/example/routeloom/routeloom/WeightsValuePinLaw" = true := by first | (simp [plainName, overriddenIn]; done) | decide +kernel
def Q0 (Z : State) (p0 p1 p2 p3 p4 : Int32) (h0 : Heap) (n0 : Nat) (v : Option Value) (h : Heap) (L : List Loc) : Prop := v = some (.int 1) ∧ Fr n0 L
set_option maxRecDepth 65536 in
set_option maxHeartbeats 40000000 in
theorem rm0 (l : Launch) (Z : State) (a0 : Array Value) (hw : ∀ d ∈ tables_1, d.before a0 Z = true) (ws : List Jvm.Cond) (p0 p1 p2 p3 p4 : Int32) (h0 : Heap) (n0 : Nat) (Z0 : n0 ≤ h0.size) :
    MetFree l x (head1 (Jvm.Cond.code x code maxLocals ret :: ws) room_1) (fun a U => a = #[(.int p0), (.int p1), (.int p2), (.int p3), (.int p4)] ∧ Z.Warmed39 U.vm ∧ U.heap = h0) (fun _ _ _ _ _ => True) (fun _ U o U' => ∃ v L, o = .returned v ∧ Q0 Z p0 p1 p2 p3 p4 h0 n0 v U'.heap L ∧ FrameEnd U o U' L room_1.cells room_1.slots) := by
  refine W.bodyOf (y := x) (as := #[(.int p0), (.int p1), (.int p2), (.int p3), (.int p4)]) (maxL := maxLocals) (Q := Q0 Z p0 p1 p2 p3 p4 h0 n0) (Ls := #[.val (.int p0), .val (.int p1), .val (.int p2), .val (.int p3), .val (.int p4), .unset, .unset, .unset, .unset, .unset, .unset, .unset, .unset, .unset, .unset, .unset, .unset]) (plainFor_of_name pn_com_example_routeloom_routeloom_WeightsValuePinLaw) (fun m => by first | rfl | (simp [entryFrame, mkF, argsToLocals, Value.category, maxLocals]; done)) ?_
  intro p e s m below meth c T0 C X0 e0
  replace C : W.Cx p s m meth c Z code 17 "com/example/routeloom/routeloom/WeightsValuePinLaw" "law" (some .boolean) := C
  have N0 := Fr.nil n0
  refine W.iload (q := 2) X0 C at_0 rfl rfl ?_
  refine W.iconst (q := 3) (v := 2) X0 C at_2 rfl rfl ?_
  refine W.iand (q := 4) X0 C at_3 rfl ?_
  refine W.if_ (q := 11) (q' := 7) X0 C at_4 (by decide) (by decide) rfl (fun hc20 => ?_) (fun hc20 => ?_)
  · replace hc20 : (p4 &&& (2 : Int32)) = 0 := hc20
    refine W.iloadN (q := 12) X0 C at_11 rfl rfl ?_
    refine W.bipush (q := 14) (v := 12) X0 C at_12 rfl rfl ?_
    refine W.ishl (q := 15) X0 C at_14 rfl ?_
    refine W.bipush (q := 17) (v := 12) X0 C at_15 rfl rfl ?_
    refine W.ishr (q := 18) X0 C at_17 rfl ?_
    generalize hv21 : ((p0 <<< ((12 : Int32) &&& 31)) >>> ((12 : Int32) &&& 31)) = v21
    refine W.istore (q := 20) (L' := #[.val (.int p0), .val (.int p1), .val (.int p2), .val (.int p3), .val (.int p4), .val (.int v21), .unset, .unset, .unset, .unset, .unset, .unset, .unset, .unset, .unset, .unset, .unset]) X0 C at_18 rfl rfl ?_
    refine W.iloadN (q := 21) X0 C at_20 rfl rfl ?_
    refine W.bipush (q := 23) (v := 12) X0 C at_21 rfl rfl ?_
    refine W.ishl (q := 24) X0 C at_23 rfl ?_
    refine W.bipush (q := 26) (v := 12) X0 C at_24 rfl rfl ?_
    refine W.ishr (q := 27) X0 C at_26 rfl ?_
    generalize hv22 : ((p1 <<< ((12 : Int32) &&& 31)) >>> ((12 : Int32) &&& 31)) = v22
    refine W.istore (q := 29) (L' := #[.val (.int p0), .val (.int p1), .val (.int p2), .val (.int p3), .val (.int p4), .val (.int v21), .val (.int v22), .unset, .unset, .unset, .unset, .unset, .unset, .unset, .unset, .unset, .unset]) X0 C at_27 rfl rfl ?_
    refine W.iloadN (q := 30) X0 C at_29 rfl rfl ?_
    refine W.bipush (q := 32) (v := 12) X0 C at_30 rfl rfl ?_
    refine W.ishl (q := 33) X0 C at_32 rfl ?_
    refine W.bipush (q := 35) (v := 12) X0 C at_33 rfl rfl ?_
    refine W.ishr (q := 36) X0 C at_35 rfl ?_
    generalize hv23 : ((p2 <<< ((12 : Int32) &&& 31)) >>> ((12 : Int32) &&& 31)) = v23
    refine W.istore (q := 38) (L' := #[.val (.int p0), .val (.int p1), .val (.int p2), .val (.int p3), .val (.int p4), .val (.int v21), .val (.int v22), .val (.int v23), .unset, .unset, .unset, .unset, .unset, .unset, .unset, .unset, .unset]) X0 C at_36 rfl rfl ?_
    refine W.iloadN (q := 39) X0 C at_38 rfl rfl ?_
    refine W.bipush (q := 41) (v := 12) X0 C at_39 rfl rfl ?_
    refine W.ishl (q := 42) X0 C at_41 rfl ?_
    refine W.bipush (q := 44) (v := 12) X0 C at_42 rfl rfl ?_
    refine W.ishr (q := 45) X0 C at_44 rfl ?_
    generalize hv24 : ((p3 <<< ((12 : Int32) &&& 31)) >>> ((12 : Int32) &&& 31)) = v24
    refine W.istore (q := 47) (L' := #[.val (.int p0), .val (.int p1), .val (.int p2), .val (.int p3), .val (.int p4), .val (.int v21), .val (.int v22), .val (.int v23), .val (.int v24), .unset, .unset, .unset, .unset, .unset, .unset, .unset, .unset]) X0 C at_45 rfl rfl ?_
    have hb5 : own_b v21.toInt := own_bd _ _ hv21
    have hb6 : own_b v22.toInt := own_bd _ _ hv22
    have hb7 : own_b v23.toInt := own_bd _ _ hv23
    have hb8 : own_b v24.toInt := own_bd _ _ hv24
    refine W.iload (q := 49) X0 C at_47 rfl rfl ?_
    refine W.if_ (q := 63) (q' := 52) X0 C at_49 (by decide) (by decide) rfl (fun hc25 => ?_) (fun hc25 => ?_)
    · replace hc25 : v21 ≠ 0 := hc25
      refine W.iconst (q := 64) (v := 0) X0 C at_63 rfl rfl ?_
      refine W.istore (q := 66) (L' := #[.val (.int p0), .val (.int p1), .val (.int p2), .val (.int p3), .val (.int p4), .val (.int v21), .val (.int v22), .val (.int v23), .val (.int v24), .val (.int (0 : Int32)), .unset, .unset, .unset, .unset, .unset, .unset, .unset]) X0 C at_64 rfl rfl ?_
      refine W.iload (q := 68) X0 C at_66 rfl rfl ?_
      refine W.ifT (q := 77) X0 C at_68 (by decide) (by decide) (by decide : W.cT .eq (0 : Int32) 0) ?_
      refine W.iload (q := 79) X0 C at_77 rfl rfl ?_
      refine W.i2d (q := 80) (v := (FP.i2d v23)) X0 C at_79 rfl rfl ?_
      refine W.dstore (q := 82) (L' := #[.val (.int p0), .val (.int p1), .val (.int p2), .val (.int p3), .val (.int p4), .val (.int v21), .val (.int v22), .val (.int v23), .val (.int v24), .val (.int (0 : Int32)), .val (.double (FP.i2d v23)), .second, .unset, .unset, .unset, .unset, .unset]) X0 C at_80 rfl rfl ?_
      refine W.newO (q := 85) X0 C (W.ww hw 0 rfl) (W.ww hw 1 rfl) (W.ww hw 2 rfl) e0 at_82 (by decide) (by decide) rfl (fun T26 h26 b26 X26 e26 g26 E26 A26 D26 => ?_)
      have ge_b26 : n0 ≤ b26 := by rw [g26]; exact Z0
      have n0_26 : n0 ≤ h26.size := Nat.le_trans Z0 E26.1
      have F_att_28 : Fld Z h26 b26 "com/example/routeloom/routeloom/Objective$Weights" "att" "D" (.double (0 : UInt64)) := D26 (Or.inr (W.ww hw 15 rfl)) (ty := .double) (by decide)
      have F_trt_29 : Fld Z h26 b26 "com/example/routeloom/routeloom/Objective$Weights" "trt" "D" (.double (0 : UInt64)) := D26 (Or.inr (W.ww hw 17 rfl)) (ty := .double) (by decide)
      refine W.dup (q := 86) X26 C at_85 rfl rfl ?_
      refine W.iload (q := 88) X26 C at_86 rfl rfl ?_
      refine W.i2d (q := 89) (v := (FP.i2d v21)) X26 C at_88 rfl rfl ?_
      refine W.iload (q := 91) X26 C at_89 rfl rfl ?_
      refine W.i2d (q := 92) (v := (FP.i2d v22)) X26 C at_91 rfl rfl ?_
      refine W.callI (q := 95) X26 C rfl (W.ww hw 3 rfl) (W.ww hw 4 rfl) (W.ww hw 2 rfl) (W.ww hw 5 rfl) (by decide) (rm1 l Z a0 hw [] b26 (FP.i2d v21) (FP.i2d v22) h26 n0 n0_26 A26 F_att_28 F_trt_29 ge_b26) e26 at_92 (a := b26) [(.double (FP.i2d v21)), (.double (FP.i2d v22))] [(.ref b26)] rfl rfl pd__28DD_29V rfl rfl (by decide) (Nat.le_of_ble_eq_true rfl) (by decide) (by decide) rfl (fun T30 w30 L30 X30 hQ30 => ?_)
      obtain ⟨rfl, NL30, K30, E_30, Fa_30, Fb_30⟩ := hQ30
      have N30 := Fr.app N0 NL30
      have n0_30 : n0 ≤ T30.heap.size := Nat.le_trans n0_26 K30.1
      show W.Go p e below _ (T30.setTop (mkF m 95 #[.val (.int p0), .val (.int p1), .val (.int p2), .val (.int p3), .val (.int p4), .val (.int v21), .val (.int v22), .val (.int v23), .val (.int v24), .val (.int (0 : Int32)), .val (.double (FP.i2d v23)), .second, .unset, .unset, .unset, .unset, .unset] [(.ref b26)]))
      refine W.astore (q := 97) (L' := #[.val (.int p0), .val (.int p1), .val (.int p2), .val (.int p3), .val (.int p4), .val (.int v21), .val (.int v22), .val (.int v23), .val (.int v24), .val (.int (0 : Int32)), .val (.double (FP.i2d v23)), .second, .val (.ref b26), .unset, .unset, .unset, .unset]) X30 C at_95 rfl rfl rfl ?_
      refine W.aload (q := 99) X30 C at_97 rfl rfl rfl ?_
      refine W.dload (q := 101) X30 C at_99 rfl rfl ?_
      refine W.iload (q := 103) X30 C at_101 rfl rfl ?_
      refine W.i2d (q := 104) (v := (FP.i2d v24)) X30 C at_103 rfl rfl ?_
      refine W.callV (q := 107) X30 C (W.ww hw 18 rfl) (W.ww hw 19 rfl) (W.nf C (W.ww hw 21 rfl)) (W.ww hw 21 rfl) (W.ww hw 20 rfl) (W.ww hw 2 rfl) (W.ww hw 22 rfl) (by decide) (rm4 l Z a0 hw [] b26 (FP.i2d v23) (FP.i2d v24) (FP.i2d v21) (FP.i2d v22) v21.toInt v23.toInt v22.toInt v24.toInt T30.heap n0 Fa_30 Fb_30 (FP.Core.i2d_int _) (FP.Core.i2d_int _) (FP.Core.i2d_int _) (Or.inr (FP.Core.i2d_int _)) hb5 hb7 hb6 hb8) rfl E_30 at_104 [(.double (FP.i2d v23)), (.double (FP.i2d v24))] [] rfl rfl pd__28DD_29D rfl rfl (by decide) (Nat.le_of_ble_eq_true rfl) (by decide) (by decide) rfl (fun T32 w32 L32 X32 hQ32 => ?_)
      obtain ⟨r32, rfl, NL32, e32, di32⟩ := hQ32
      have N32 := Fr.app N30 NL32
      show W.Go p e below _ (T32.setTop (mkF m 107 #[.val (.int p0), .val (.int p1), .val (.int p2), .val (.int p3), .val (.int p4), .val (.int v21), .val (.int v22), .val (.int v23), .val (.int v24), .val (.int (0 : Int32)), .val (.double (FP.i2d v23)), .second, .val (.ref b26), .unset, .unset, .unset, .unset] [(.double r32)]))
      refine W.dstore (q := 109) (L' := #[.val (.int p0), .val (.int p1), .val (.int p2), .val (.int p3), .val (.int p4), .val (.int v21), .val (.int v22), .val (.int v23), .val (.int v24), .val (.int (0 : Int32)), .val (.double (FP.i2d v23)), .second, .val (.ref b26), .val (.double r32), .second, .unset, .unset]) X32 C at_107 rfl rfl ?_
      refine W.iload (q := 111) X32 C at_109 rfl rfl ?_
      refine W.i2l (q := 112) X32 C at_111 rfl ?_
      refine W.iload (q := 114) X32 C at_112 rfl rfl ?_
      refine W.i2l (q := 115) X32 C at_114 rfl ?_
      refine W.lmul (q := 116) X32 C at_115 rfl ?_
      refine W.iload (q := 118) X32 C at_116 rfl rfl ?_
      refine W.i2l (q := 119) X32 C at_118 rfl ?_
      refine W.iload (q := 121) X32 C at_119 rfl rfl ?_
      refine W.i2l (q := 122) X32 C at_121 rfl ?_
      refine W.lmul (q := 123) X32 C at_122 rfl ?_
      refine W.ladd (q := 124) X32 C at_123 rfl ?_
      generalize hv33 : (((v21.toInt64) * (v23.toInt64)) + ((v22.toInt64) * (v24.toInt64))) = v33
      refine W.lstore (q := 126) (L' := #[.val (.int p0), .val (.int p1), .val (.int p2), .val (.int p3), .val (.int p4), .val (.int v21), .val (.int v22), .val (.int v23), .val (.int v24), .val (.int (0 : Int32)), .val (.double (FP.i2d v23)), .second, .val (.ref b26), .val (.double r32), .second, .val (.long v33), .second]) X32 C at_124 rfl rfl ?_
      refine W.dload (q := 128) X32 C at_126 rfl rfl ?_
      refine W.lload (q := 130) X32 C at_128 rfl rfl ?_
      have rf34 := own_ref v21 v23 v22 v24 hb5 hb7 hb6 hb8
      rw [hv33] at rf34
      have dr34 : FP.Core.DInt (v21.toInt * v23.toInt + v22.toInt * v24.toInt) (FP.l2d v33) := by rw [← rf34]; exact FP.Core.l2d_int (by rw [rf34]; exact own_s53 hb5 hb7 hb6 hb8)
      refine W.l2d (q := 131) (v := (FP.l2d v33)) X32 C at_130 rfl rfl ?_
      refine W.dcmp (q := 132) (v := 0) X32 C at_131 ((own_cmp di32 dr34 _).trans (own_sge _)) rfl ?_
      refine W.ifF (q := 135) X32 C at_132 rfl (by decide : W.cF .ne (0 : Int32) 0) ?_
      refine W.iconst (q := 136) (v := 1) X32 C at_135 rfl rfl ?_
      refine W.goto (q := 140) X32 C at_136 (by decide) (by decide) ?_
      exact W.retN X32 C (by simp) e32 at_140 rfl (by decide) (by decide) ⟨rfl, N32⟩
    · replace hc25 : v21 = 0 := hc25
      refine W.iload (q := 54) X0 C at_52 rfl rfl ?_
      refine W.iconst (q := 55) (v := 1) X0 C at_54 rfl rfl ?_
      refine W.iand (q := 56) X0 C at_55 rfl ?_
      refine W.if_ (q := 63) (q' := 59) X0 C at_56 (by decide) (by decide) rfl (fun hc35 => ?_) (fun hc35 => ?_)
      · replace hc35 : (p4 &&& (1 : Int32)) = 0 := hc35
        refine W.iconst (q := 64) (v := 0) X0 C at_63 rfl rfl ?_
        refine W.istore (q := 66) (L' := #[.val (.int p0), .val (.int p1), .val (.int p2), .val (.int p3), .val (.int p4), .val (.int v21), .val (.int v22), .val (.int v23), .val (.int v24), .val (.int (0 : Int32)), .unset, .unset, .unset, .unset, .unset, .unset, .unset]) X0 C at_64 rfl rfl ?_
        refine W.iload (q := 68) X0 C at_66 rfl rfl ?_
        refine W.ifT (q := 77) X0 C at_68 (by decide) (by decide) (by decide : W.cT .eq (0 : Int32) 0) ?_
        refine W.iload (q := 79) X0 C at_77 rfl rfl ?_
        refine W.i2d (q := 80) (v := (FP.i2d v23)) X0 C at_79 rfl rfl ?_
        refine W.dstore (q := 82) (L' := #[.val (.int p0), .val (.int p1), .val (.int p2), .val (.int p3), .val (.int p4), .val (.int v21), .val (.int v22), .val (.int v23), .val (.int v24), .val (.int (0 : Int32)), .val (.double (FP.i2d v23)), .second, .unset, .unset, .unset, .unset, .unset]) X0 C at_80 rfl rfl ?_
        refine W.newO (q := 85) X0 C (W.ww hw 0 rfl) (W.ww hw 1 rfl) (W.ww hw 2 rfl) e0 at_82 (by decide) (by decide) rfl (fun T36 h36 b36 X36 e36 g36 E36 A36 D36 => ?_)
        have ge_b36 : n0 ≤ b36 := by rw [g36]; exact Z0
        have n0_36 : n0 ≤ h36.size := Nat.le_trans Z0 E36.1
        have F_att_38 : Fld Z h36 b36 "com/example/routeloom/routeloom/Objective$Weights" "att" "D" (.double (0 : UInt64)) := D36 (Or.inr (W.ww hw 15 rfl)) (ty := .double) (by decide)
        have F_trt_39 : Fld Z h36 b36 "com/example/routeloom/routeloom/Objective$Weights" "trt" "D" (.double (0 : UInt64)) := D36 (Or.inr (W.ww hw 17 rfl)) (ty := .double) (by decide)
        refine W.dup (q := 86) X36 C at_85 rfl rfl ?_
        refine W.iload (q := 88) X36 C at_86 rfl rfl ?_
        refine W.i2d (q := 89) (v := (FP.i2d v21)) X36 C at_88 rfl rfl ?_
        refine W.iload (q := 91) X36 C at_89 rfl rfl ?_
        refine W.i2d (q := 92) (v := (FP.i2d v22)) X36 C at_91 rfl rfl ?_
        refine W.callI (q := 95) X36 C rfl (W.ww hw 3 rfl) (W.ww hw 4 rfl) (W.ww hw 2 rfl) (W.ww hw 5 rfl) (by decide) (rm1 l Z a0 hw [] b36 (FP.i2d v21) (FP.i2d v22) h36 n0 n0_36 A36 F_att_38 F_trt_39 ge_b36) e36 at_92 (a := b36) [(.double (FP.i2d v21)), (.double (FP.i2d v22))] [(.ref b36)] rfl rfl pd__28DD_29V rfl rfl (by decide) (Nat.le_of_ble_eq_true rfl) (by decide) (by decide) rfl (fun T40 w40 L40 X40 hQ40 => ?_)
        obtain ⟨rfl, NL40, K40, E_40, Fa_40, Fb_40⟩ := hQ40
        have N40 := Fr.app N0 NL40
        have n0_40 : n0 ≤ T40.heap.size := Nat.le_trans n0_36 K40.1
        show W.Go p e below _ (T40.setTop (mkF m 95 #[.val (.int p0), .val (.int p1), .val (.int p2), .val (.int p3), .val (.int p4), .val (.int v21), .val (.int v22), .val (.int v23), .val (.int v24), .val (.int (0 : Int32)), .val (.double (FP.i2d v23)), .second, .unset, .unset, .unset, .unset, .unset] [(.ref b36)]))
        refine W.astore (q := 97) (L' := #[.val (.int p0), .val (.int p1), .val (.int p2), .val (.int p3), .val (.int p4), .val (.int v21), .val (.int v22), .val (.int v23), .val (.int v24), .val (.int (0 : Int32)), .val (.double (FP.i2d v23)), .second, .val (.ref b36), .unset, .unset, .unset, .unset]) X40 C at_95 rfl rfl rfl ?_
        refine W.aload (q := 99) X40 C at_97 rfl rfl rfl ?_
        refine W.dload (q := 101) X40 C at_99 rfl rfl ?_
        refine W.iload (q := 103) X40 C at_101 rfl rfl ?_
        refine W.i2d (q := 104) (v := (FP.i2d v24)) X40 C at_103 rfl rfl ?_
        refine W.callV (q := 107) X40 C (W.ww hw 18 rfl) (W.ww hw 19 rfl) (W.nf C (W.ww hw 21 rfl)) (W.ww hw 21 rfl) (W.ww hw 20 rfl) (W.ww hw 2 rfl) (W.ww hw 22 rfl) (by decide) (rm4 l Z a0 hw [] b36 (FP.i2d v23) (FP.i2d v24) (FP.i2d v21) (FP.i2d v22) v21.toInt v23.toInt v22.toInt v24.toInt T40.heap n0 Fa_40 Fb_40 (FP.Core.i2d_int _) (FP.Core.i2d_int _) (FP.Core.i2d_int _) (Or.inr (FP.Core.i2d_int _)) hb5 hb7 hb6 hb8) rfl E_40 at_104 [(.double (FP.i2d v23)), (.double (FP.i2d v24))] [] rfl rfl pd__28DD_29D rfl rfl (by decide) (Nat.le_of_ble_eq_true rfl) (by decide) (by decide) rfl (fun T42 w42 L42 X42 hQ42 => ?_)
        obtain ⟨r42, rfl, NL42, e42, di42⟩ := hQ42
        have N42 := Fr.app N40 NL42
        show W.Go p e below _ (T42.setTop (mkF m 107 #[.val (.int p0), .val (.int p1), .val (.int p2), .val (.int p3), .val (.int p4), .val (.int v21), .val (.int v22), .val (.int v23), .val (.int v24), .val (.int (0 : Int32)), .val (.double (FP.i2d v23)), .second, .val (.ref b36), .unset, .unset, .unset, .unset] [(.double r42)]))
        refine W.dstore (q := 109) (L' := #[.val (.int p0), .val (.int p1), .val (.int p2), .val (.int p3), .val (.int p4), .val (.int v21), .val (.int v22), .val (.int v23), .val (.int v24), .val (.int (0 : Int32)), .val (.double (FP.i2d v23)), .second, .val (.ref b36), .val (.double r42), .second, .unset, .unset]) X42 C at_107 rfl rfl ?_
        refine W.iload (q := 111) X42 C at_109 rfl rfl ?_
        refine W.i2l (q := 112) X42 C at_111 rfl ?_
        refine W.iload (q := 114) X42 C at_112 rfl rfl ?_
        refine W.i2l (q := 115) X42 C at_114 rfl ?_
        refine W.lmul (q := 116) X42 C at_115 rfl ?_
        refine W.iload (q := 118) X42 C at_116 rfl rfl ?_
        refine W.i2l (q := 119) X42 C at_118 rfl ?_
        refine W.iload (q := 121) X42 C at_119 rfl rfl ?_
        refine W.i2l (q := 122) X42 C at_121 rfl ?_
        refine W.lmul (q := 123) X42 C at_122 rfl ?_
        refine W.ladd (q := 124) X42 C at_123 rfl ?_
        generalize hv43 : (((v21.toInt64) * (v23.toInt64)) + ((v22.toInt64) * (v24.toInt64))) = v43
        refine W.lstore (q := 126) (L' := #[.val (.int p0), .val (.int p1), .val (.int p2), .val (.int p3), .val (.int p4), .val (.int v21), .val (.int v22), .val (.int v23), .val (.int v24), .val (.int (0 : Int32)), .val (.double (FP.i2d v23)), .second, .val (.ref b36), .val (.double r42), .second, .val (.long v43), .second]) X42 C at_124 rfl rfl ?_
        refine W.dload (q := 128) X42 C at_126 rfl rfl ?_
        refine W.lload (q := 130) X42 C at_128 rfl rfl ?_
        have rf44 := own_ref v21 v23 v22 v24 hb5 hb7 hb6 hb8
        rw [hv43] at rf44
        have dr44 : FP.Core.DInt (v21.toInt * v23.toInt + v22.toInt * v24.toInt) (FP.l2d v43) := by rw [← rf44]; exact FP.Core.l2d_int (by rw [rf44]; exact own_s53 hb5 hb7 hb6 hb8)
        refine W.l2d (q := 131) (v := (FP.l2d v43)) X42 C at_130 rfl rfl ?_
        refine W.dcmp (q := 132) (v := 0) X42 C at_131 ((own_cmp di42 dr44 _).trans (own_sge _)) rfl ?_
        refine W.ifF (q := 135) X42 C at_132 rfl (by decide : W.cF .ne (0 : Int32) 0) ?_
        refine W.iconst (q := 136) (v := 1) X42 C at_135 rfl rfl ?_
        refine W.goto (q := 140) X42 C at_136 (by decide) (by decide) ?_
        exact W.retN X42 C (by simp) e42 at_140 rfl (by decide) (by decide) ⟨rfl, N42⟩
      · replace hc35 : (p4 &&& (1 : Int32)) ≠ 0 := hc35
        refine W.iconst (q := 60) (v := 1) X0 C at_59 rfl rfl ?_
        refine W.goto (q := 64) X0 C at_60 (by decide) (by decide) ?_
        refine W.istore (q := 66) (L' := #[.val (.int p0), .val (.int p1), .val (.int p2), .val (.int p3), .val (.int p4), .val (.int v21), .val (.int v22), .val (.int v23), .val (.int v24), .val (.int (1 : Int32)), .unset, .unset, .unset, .unset, .unset, .unset, .unset]) X0 C at_64 rfl rfl ?_
        refine W.iload (q := 68) X0 C at_66 rfl rfl ?_
        refine W.ifF (q := 71) X0 C at_68 rfl (by decide : W.cF .eq (1 : Int32) 0) ?_
        refine W.ldcD (q := 74) X0 C (W.ww hw 23 rfl) at_71 rfl ?_
        refine W.goto (q := 80) X0 C at_74 (by decide) (by decide) ?_
        refine W.dstore (q := 82) (L' := #[.val (.int p0), .val (.int p1), .val (.int p2), .val (.int p3), .val (.int p4), .val (.int v21), .val (.int v22), .val (.int v23), .val (.int v24), .val (.int (1 : Int32)), .val (.double (9221120237041090560 : UInt64)), .second, .unset, .unset, .unset, .unset, .unset]) X0 C at_80 rfl rfl ?_
        refine W.newO (q := 85) X0 C (W.ww hw 0 rfl) (W.ww hw 1 rfl) (W.ww hw 2 rfl) e0 at_82 (by decide) (by decide) rfl (fun T45 h45 b45 X45 e45 g45 E45 A45 D45 => ?_)
        have ge_b45 : n0 ≤ b45 := by rw [g45]; exact Z0
        have n0_45 : n0 ≤ h45.size := Nat.le_trans Z0 E45.1
        have F_att_47 : Fld Z h45 b45 "com/example/routeloom/routeloom/Objective$Weights" "att" "D" (.double (0 : UInt64)) := D45 (Or.inr (W.ww hw 15 rfl)) (ty := .double) (by decide)
        have F_trt_48 : Fld Z h45 b45 "com/example/routeloom/routeloom/Objective$Weights" "trt" "D" (.double (0 : UInt64)) := D45 (Or.inr (W.ww hw 17 rfl)) (ty := .double) (by decide)
        refine W.dup (q := 86) X45 C at_85 rfl rfl ?_
        refine W.iload (q := 88) X45 C at_86 rfl rfl ?_
        refine W.i2d (q := 89) (v := (FP.i2d v21)) X45 C at_88 rfl rfl ?_
        refine W.iload (q := 91) X45 C at_89 rfl rfl ?_
        refine W.i2d (q := 92) (v := (FP.i2d v22)) X45 C at_91 rfl rfl ?_
        refine W.callI (q := 95) X45 C rfl (W.ww hw 3 rfl) (W.ww hw 4 rfl) (W.ww hw 2 rfl) (W.ww hw 5 rfl) (by decide) (rm1 l Z a0 hw [] b45 (FP.i2d v21) (FP.i2d v22) h45 n0 n0_45 A45 F_att_47 F_trt_48 ge_b45) e45 at_92 (a := b45) [(.double (FP.i2d v21)), (.double (FP.i2d v22))] [(.ref b45)] rfl rfl pd__28DD_29V rfl rfl (by decide) (Nat.le_of_ble_eq_true rfl) (by decide) (by decide) rfl (fun T49 w49 L49 X49 hQ49 => ?_)
        obtain ⟨rfl, NL49, K49, E_49, Fa_49, Fb_49⟩ := hQ49
        have N49 := Fr.app N0 NL49
        have n0_49 : n0 ≤ T49.heap.size := Nat.le_trans n0_45 K49.1
        show W.Go p e below _ (T49.setTop (mkF m 95 #[.val (.int p0), .val (.int p1), .val (.int p2), .val (.int p3), .val (.int p4), .val (.int v21), .val (.int v22), .val (.int v23), .val (.int v24), .val (.int (1 : Int32)), .val (.double (9221120237041090560 : UInt64)), .second, .unset, .unset, .unset, .unset, .unset] [(.ref b45)]))
        refine W.astore (q := 97) (L' := #[.val (.int p0), .val (.int p1), .val (.int p2), .val (.int p3), .val (.int p4), .val (.int v21), .val (.int v22), .val (.int v23), .val (.int v24), .val (.int (1 : Int32)), .val (.double (9221120237041090560 : UInt64)), .second, .val (.ref b45), .unset, .unset, .unset, .unset]) X49 C at_95 rfl rfl rfl ?_
        refine W.aload (q := 99) X49 C at_97 rfl rfl rfl ?_
        refine W.dload (q := 101) X49 C at_99 rfl rfl ?_
        refine W.iload (q := 103) X49 C at_101 rfl rfl ?_
        refine W.i2d (q := 104) (v := (FP.i2d v24)) X49 C at_103 rfl rfl ?_
        refine W.callV (q := 107) X49 C (W.ww hw 18 rfl) (W.ww hw 19 rfl) (W.nf C (W.ww hw 21 rfl)) (W.ww hw 21 rfl) (W.ww hw 20 rfl) (W.ww hw 2 rfl) (W.ww hw 22 rfl) (by decide) (rm4 l Z a0 hw [] b45 (9221120237041090560 : UInt64) (FP.i2d v24) (FP.i2d v21) (FP.i2d v22) v21.toInt v23.toInt v22.toInt v24.toInt T49.heap n0 Fa_49 Fb_49 (FP.Core.i2d_int _) (FP.Core.i2d_int _) (FP.Core.i2d_int _) (Or.inl (congrArg Int32.toInt hc25)) hb5 hb7 hb6 hb8) rfl E_49 at_104 [(.double (9221120237041090560 : UInt64)), (.double (FP.i2d v24))] [] rfl rfl pd__28DD_29D rfl rfl (by decide) (Nat.le_of_ble_eq_true rfl) (by decide) (by decide) rfl (fun T51 w51 L51 X51 hQ51 => ?_)
        obtain ⟨r51, rfl, NL51, e51, di51⟩ := hQ51
        have N51 := Fr.app N49 NL51
        show W.Go p e below _ (T51.setTop (mkF m 107 #[.val (.int p0), .val (.int p1), .val (.int p2), .val (.int p3), .val (.int p4), .val (.int v21), .val (.int v22), .val (.int v23), .val (.int v24), .val (.int (1 : Int32)), .val (.double (9221120237041090560 : UInt64)), .second, .val (.ref b45), .unset, .unset, .unset, .unset] [(.double r51)]))
        refine W.dstore (q := 109) (L' := #[.val (.int p0), .val (.int p1), .val (.int p2), .val (.int p3), .val (.int p4), .val (.int v21), .val (.int v22), .val (.int v23), .val (.int v24), .val (.int (1 : Int32)), .val (.double (9221120237041090560 : UInt64)), .second, .val (.ref b45), .val (.double r51), .second, .unset, .unset]) X51 C at_107 rfl rfl ?_
        refine W.iload (q := 111) X51 C at_109 rfl rfl ?_
        refine W.i2l (q := 112) X51 C at_111 rfl ?_
        refine W.iload (q := 114) X51 C at_112 rfl rfl ?_
        refine W.i2l (q := 115) X51 C at_114 rfl ?_
        refine W.lmul (q := 116) X51 C at_115 rfl ?_
        refine W.iload (q := 118) X51 C at_116 rfl rfl ?_
        refine W.i2l (q := 119) X51 C at_118 rfl ?_
        refine W.iload (q := 121) X51 C at_119 rfl rfl ?_
        refine W.i2l (q := 122) X51 C at_121 rfl ?_
        refine W.lmul (q := 123) X51 C at_122 rfl ?_
        refine W.ladd (q := 124) X51 C at_123 rfl ?_
        generalize hv52 : (((v21.toInt64) * (v23.toInt64)) + ((v22.toInt64) * (v24.toInt64))) = v52
        refine W.lstore (q := 126) (L' := #[.val (.int p0), .val (.int p1), .val (.int p2), .val (.int p3), .val (.int p4), .val (.int v21), .val (.int v22), .val (.int v23), .val (.int v24), .val (.int (1 : Int32)), .val (.double (9221120237041090560 : UInt64)), .second, .val (.ref b45), .val (.double r51), .second, .val (.long v52), .second]) X51 C at_124 rfl rfl ?_
        refine W.dload (q := 128) X51 C at_126 rfl rfl ?_
        refine W.lload (q := 130) X51 C at_128 rfl rfl ?_
        have rf53 := own_ref v21 v23 v22 v24 hb5 hb7 hb6 hb8
        rw [hv52] at rf53
        have dr53 : FP.Core.DInt (v21.toInt * v23.toInt + v22.toInt * v24.toInt) (FP.l2d v52) := by rw [← rf53]; exact FP.Core.l2d_int (by rw [rf53]; exact own_s53 hb5 hb7 hb6 hb8)
        refine W.l2d (q := 131) (v := (FP.l2d v52)) X51 C at_130 rfl rfl ?_
        refine W.dcmp (q := 132) (v := 0) X51 C at_131 ((own_cmp di51 dr53 _).trans (own_sge _)) rfl ?_
        refine W.ifF (q := 135) X51 C at_132 rfl (by decide : W.cF .ne (0 : Int32) 0) ?_
        refine W.iconst (q := 136) (v := 1) X51 C at_135 rfl rfl ?_
        refine W.goto (q := 140) X51 C at_136 (by decide) (by decide) ?_
        exact W.retN X51 C (by simp) e51 at_140 rfl (by decide) (by decide) ⟨rfl, N51⟩
  · replace hc20 : (p4 &&& (2 : Int32)) ≠ 0 := hc20
    refine W.iconst (q := 8) (v := 0) X0 C at_7 rfl rfl ?_
    refine W.goto (q := 18) X0 C at_8 (by decide) (by decide) ?_
    refine W.istore (q := 20) (L' := #[.val (.int p0), .val (.int p1), .val (.int p2), .val (.int p3), .val (.int p4), .val (.int (0 : Int32)), .unset, .unset, .unset, .unset, .unset, .unset, .unset, .unset, .unset, .unset, .unset]) X0 C at_18 rfl rfl ?_
    refine W.iloadN (q := 21) X0 C at_20 rfl rfl ?_
    refine W.bipush (q := 23) (v := 12) X0 C at_21 rfl rfl ?_
    refine W.ishl (q := 24) X0 C at_23 rfl ?_
    refine W.bipush (q := 26) (v := 12) X0 C at_24 rfl rfl ?_
    refine W.ishr (q := 27) X0 C at_26 rfl ?_
    generalize hv54 : ((p1 <<< ((12 : Int32) &&& 31)) >>> ((12 : Int32) &&& 31)) = v54
    refine W.istore (q := 29) (L' := #[.val (.int p0), .val (.int p1), .val (.int p2), .val (.int p3), .val (.int p4), .val (.int (0 : Int32)), .val (.int v54), .unset, .unset, .unset, .unset, .unset, .unset, .unset, .unset, .unset, .unset]) X0 C at_27 rfl rfl ?_
    refine W.iloadN (q := 30) X0 C at_29 rfl rfl ?_
    refine W.bipush (q := 32) (v := 12) X0 C at_30 rfl rfl ?_
    refine W.ishl (q := 33) X0 C at_32 rfl ?_
    refine W.bipush (q := 35) (v := 12) X0 C at_33 rfl rfl ?_
    refine W.ishr (q := 36) X0 C at_35 rfl ?_
    generalize hv55 : ((p2 <<< ((12 : Int32) &&& 31)) >>> ((12 : Int32) &&& 31)) = v55
    refine W.istore (q := 38) (L' := #[.val (.int p0), .val (.int p1), .val (.int p2), .val (.int p3), .val (.int p4), .val (.int (0 : Int32)), .val (.int v54), .val (.int v55), .unset, .unset, .unset, .unset, .unset, .unset, .unset, .unset, .unset]) X0 C at_36 rfl rfl ?_
    refine W.iloadN (q := 39) X0 C at_38 rfl rfl ?_
    refine W.bipush (q := 41) (v := 12) X0 C at_39 rfl rfl ?_
    refine W.ishl (q := 42) X0 C at_41 rfl ?_
    refine W.bipush (q := 44) (v := 12) X0 C at_42 rfl rfl ?_
    refine W.ishr (q := 45) X0 C at_44 rfl ?_
    generalize hv56 : ((p3 <<< ((12 : Int32) &&& 31)) >>> ((12 : Int32) &&& 31)) = v56
    refine W.istore (q := 47) (L' := #[.val (.int p0), .val (.int p1), .val (.int p2), .val (.int p3), .val (.int p4), .val (.int (0 : Int32)), .val (.int v54), .val (.int v55), .val (.int v56), .unset, .unset, .unset, .unset, .unset, .unset, .unset, .unset]) X0 C at_45 rfl rfl ?_
    have hb5 : own_b (0 : Int32).toInt := (by unfold own_b; decide)
    have hb6 : own_b v54.toInt := own_bd _ _ hv54
    have hb7 : own_b v55.toInt := own_bd _ _ hv55
    have hb8 : own_b v56.toInt := own_bd _ _ hv56
    refine W.iload (q := 49) X0 C at_47 rfl rfl ?_
    refine W.ifF (q := 52) X0 C at_49 rfl (by decide : W.cF .ne (0 : Int32) 0) ?_
    refine W.iload (q := 54) X0 C at_52 rfl rfl ?_
    refine W.iconst (q := 55) (v := 1) X0 C at_54 rfl rfl ?_
    refine W.iand (q := 56) X0 C at_55 rfl ?_
    refine W.if_ (q := 63) (q' := 59) X0 C at_56 (by decide) (by decide) rfl (fun hc57 => ?_) (fun hc57 => ?_)
    · replace hc57 : (p4 &&& (1 : Int32)) = 0 := hc57
      refine W.iconst (q := 64) (v := 0) X0 C at_63 rfl rfl ?_
      refine W.istore (q := 66) (L' := #[.val (.int p0), .val (.int p1), .val (.int p2), .val (.int p3), .val (.int p4), .val (.int (0 : Int32)), .val (.int v54), .val (.int v55), .val (.int v56), .val (.int (0 : Int32)), .unset, .unset, .unset, .unset, .unset, .unset, .unset]) X0 C at_64 rfl rfl ?_
      refine W.iload (q := 68) X0 C at_66 rfl rfl ?_
      refine W.ifT (q := 77) X0 C at_68 (by decide) (by decide) (by decide : W.cT .eq (0 : Int32) 0) ?_
      refine W.iload (q := 79) X0 C at_77 rfl rfl ?_
      refine W.i2d (q := 80) (v := (FP.i2d v55)) X0 C at_79 rfl rfl ?_
      refine W.dstore (q := 82) (L' := #[.val (.int p0), .val (.int p1), .val (.int p2), .val (.int p3), .val (.int p4), .val (.int (0 : Int32)), .val (.int v54), .val (.int v55), .val (.int v56), .val (.int (0 : Int32)), .val (.double (FP.i2d v55)), .second, .unset, .unset, .unset, .unset, .unset]) X0 C at_80 rfl rfl ?_
      refine W.newO (q := 85) X0 C (W.ww hw 0 rfl) (W.ww hw 1 rfl) (W.ww hw 2 rfl) e0 at_82 (by decide) (by decide) rfl (fun T58 h58 b58 X58 e58 g58 E58 A58 D58 => ?_)
      have ge_b58 : n0 ≤ b58 := by rw [g58]; exact Z0
      have n0_58 : n0 ≤ h58.size := Nat.le_trans Z0 E58.1
      have F_att_60 : Fld Z h58 b58 "com/example/routeloom/routeloom/Objective$Weights" "att" "D" (.double (0 : UInt64)) := D58 (Or.inr (W.ww hw 15 rfl)) (ty := .double) (by decide)
      have F_trt_61 : Fld Z h58 b58 "com/example/routeloom/routeloom/Objective$Weights" "trt" "D" (.double (0 : UInt64)) := D58 (Or.inr (W.ww hw 17 rfl)) (ty := .double) (by decide)
      refine W.dup (q := 86) X58 C at_85 rfl rfl ?_
      refine W.iload (q := 88) X58 C at_86 rfl rfl ?_
      refine W.i2d (q := 89) (v := (FP.i2d (0 : Int32))) X58 C at_88 rfl rfl ?_
      refine W.iload (q := 91) X58 C at_89 rfl rfl ?_
      refine W.i2d (q := 92) (v := (FP.i2d v54)) X58 C at_91 rfl rfl ?_
      refine W.callI (q := 95) X58 C rfl (W.ww hw 3 rfl) (W.ww hw 4 rfl) (W.ww hw 2 rfl) (W.ww hw 5 rfl) (by decide) (rm1 l Z a0 hw [] b58 (FP.i2d (0 : Int32)) (FP.i2d v54) h58 n0 n0_58 A58 F_att_60 F_trt_61 ge_b58) e58 at_92 (a := b58) [(.double (FP.i2d (0 : Int32))), (.double (FP.i2d v54))] [(.ref b58)] rfl rfl pd__28DD_29V rfl rfl (by decide) (Nat.le_of_ble_eq_true rfl) (by decide) (by decide) rfl (fun T62 w62 L62 X62 hQ62 => ?_)
      obtain ⟨rfl, NL62, K62, E_62, Fa_62, Fb_62⟩ := hQ62
      have N62 := Fr.app N0 NL62
      have n0_62 : n0 ≤ T62.heap.size := Nat.le_trans n0_58 K62.1
      show W.Go p e below _ (T62.setTop (mkF m 95 #[.val (.int p0), .val (.int p1), .val (.int p2), .val (.int p3), .val (.int p4), .val (.int (0 : Int32)), .val (.int v54), .val (.int v55), .val (.int v56), .val (.int (0 : Int32)), .val (.double (FP.i2d v55)), .second, .unset, .unset, .unset, .unset, .unset] [(.ref b58)]))
      refine W.astore (q := 97) (L' := #[.val (.int p0), .val (.int p1), .val (.int p2), .val (.int p3), .val (.int p4), .val (.int (0 : Int32)), .val (.int v54), .val (.int v55), .val (.int v56), .val (.int (0 : Int32)), .val (.double (FP.i2d v55)), .second, .val (.ref b58), .unset, .unset, .unset, .unset]) X62 C at_95 rfl rfl rfl ?_
      refine W.aload (q := 99) X62 C at_97 rfl rfl rfl ?_
      refine W.dload (q := 101) X62 C at_99 rfl rfl ?_
      refine W.iload (q := 103) X62 C at_101 rfl rfl ?_
      refine W.i2d (q := 104) (v := (FP.i2d v56)) X62 C at_103 rfl rfl ?_
      refine W.callV (q := 107) X62 C (W.ww hw 18 rfl) (W.ww hw 19 rfl) (W.nf C (W.ww hw 21 rfl)) (W.ww hw 21 rfl) (W.ww hw 20 rfl) (W.ww hw 2 rfl) (W.ww hw 22 rfl) (by decide) (rm4 l Z a0 hw [] b58 (FP.i2d v55) (FP.i2d v56) (FP.i2d (0 : Int32)) (FP.i2d v54) (0 : Int32).toInt v55.toInt v54.toInt v56.toInt T62.heap n0 Fa_62 Fb_62 (FP.Core.i2d_int _) (FP.Core.i2d_int _) (FP.Core.i2d_int _) (Or.inr (FP.Core.i2d_int _)) hb5 hb7 hb6 hb8) rfl E_62 at_104 [(.double (FP.i2d v55)), (.double (FP.i2d v56))] [] rfl rfl pd__28DD_29D rfl rfl (by decide) (Nat.le_of_ble_eq_true rfl) (by decide) (by decide) rfl (fun T64 w64 L64 X64 hQ64 => ?_)
      obtain ⟨r64, rfl, NL64, e64, di64⟩ := hQ64
      have N64 := Fr.app N62 NL64
      show W.Go p e below _ (T64.setTop (mkF m 107 #[.val (.int p0), .val (.int p1), .val (.int p2), .val (.int p3), .val (.int p4), .val (.int (0 : Int32)), .val (.int v54), .val (.int v55), .val (.int v56), .val (.int (0 : Int32)), .val (.double (FP.i2d v55)), .second, .val (.ref b58), .unset, .unset, .unset, .unset] [(.double r64)]))
      refine W.dstore (q := 109) (L' := #[.val (.int p0), .val (.int p1), .val (.int p2), .val (.int p3), .val (.int p4), .val (.int (0 : Int32)), .val (.int v54), .val (.int v55), .val (.int v56), .val (.int (0 : Int32)), .val (.double (FP.i2d v55)), .second, .val (.ref b58), .val (.double r64), .second, .unset, .unset]) X64 C at_107 rfl rfl ?_
      refine W.iload (q := 111) X64 C at_109 rfl rfl ?_
      refine W.i2l (q := 112) X64 C at_111 rfl ?_
      refine W.iload (q := 114) X64 C at_112 rfl rfl ?_
      refine W.i2l (q := 115) X64 C at_114 rfl ?_
      refine W.lmul (q := 116) X64 C at_115 rfl ?_
      refine W.iload (q := 118) X64 C at_116 rfl rfl ?_
      refine W.i2l (q := 119) X64 C at_118 rfl ?_
      refine W.iload (q := 121) X64 C at_119 rfl rfl ?_
      refine W.i2l (q := 122) X64 C at_121 rfl ?_
      refine W.lmul (q := 123) X64 C at_122 rfl ?_
      refine W.ladd (q := 124) X64 C at_123 rfl ?_
      generalize hv65 : ((((0 : Int32).toInt64) * (v55.toInt64)) + ((v54.toInt64) * (v56.toInt64))) = v65
      refine W.lstore (q := 126) (L' := #[.val (.int p0), .val (.int p1), .val (.int p2), .val (.int p3), .val (.int p4), .val (.int (0 : Int32)), .val (.int v54), .val (.int v55), .val (.int v56), .val (.int (0 : Int32)), .val (.double (FP.i2d v55)), .second, .val (.ref b58), .val (.double r64), .second, .val (.long v65), .second]) X64 C at_124 rfl rfl ?_
      refine W.dload (q := 128) X64 C at_126 rfl rfl ?_
      refine W.lload (q := 130) X64 C at_128 rfl rfl ?_
      have rf66 := own_ref (0 : Int32) v55 v54 v56 hb5 hb7 hb6 hb8
      rw [hv65] at rf66
      have dr66 : FP.Core.DInt ((0 : Int32).toInt * v55.toInt + v54.toInt * v56.toInt) (FP.l2d v65) := by rw [← rf66]; exact FP.Core.l2d_int (by rw [rf66]; exact own_s53 hb5 hb7 hb6 hb8)
      refine W.l2d (q := 131) (v := (FP.l2d v65)) X64 C at_130 rfl rfl ?_
      refine W.dcmp (q := 132) (v := 0) X64 C at_131 ((own_cmp di64 dr66 _).trans (own_sge _)) rfl ?_
      refine W.ifF (q := 135) X64 C at_132 rfl (by decide : W.cF .ne (0 : Int32) 0) ?_
      refine W.iconst (q := 136) (v := 1) X64 C at_135 rfl rfl ?_
      refine W.goto (q := 140) X64 C at_136 (by decide) (by decide) ?_
      exact W.retN X64 C (by simp) e64 at_140 rfl (by decide) (by decide) ⟨rfl, N64⟩
    · replace hc57 : (p4 &&& (1 : Int32)) ≠ 0 := hc57
      refine W.iconst (q := 60) (v := 1) X0 C at_59 rfl rfl ?_
      refine W.goto (q := 64) X0 C at_60 (by decide) (by decide) ?_
      refine W.istore (q := 66) (L' := #[.val (.int p0), .val (.int p1), .val (.int p2), .val (.int p3), .val (.int p4), .val (.int (0 : Int32)), .val (.int v54), .val (.int v55), .val (.int v56), .val (.int (1 : Int32)), .unset, .unset, .unset, .unset, .unset, .unset, .unset]) X0 C at_64 rfl rfl ?_
      refine W.iload (q := 68) X0 C at_66 rfl rfl ?_
      refine W.ifF (q := 71) X0 C at_68 rfl (by decide : W.cF .eq (1 : Int32) 0) ?_
      refine W.ldcD (q := 74) X0 C (W.ww hw 23 rfl) at_71 rfl ?_
      refine W.goto (q := 80) X0 C at_74 (by decide) (by decide) ?_
      refine W.dstore (q := 82) (L' := #[.val (.int p0), .val (.int p1), .val (.int p2), .val (.int p3), .val (.int p4), .val (.int (0 : Int32)), .val (.int v54), .val (.int v55), .val (.int v56), .val (.int (1 : Int32)), .val (.double (9221120237041090560 : UInt64)), .second, .unset, .unset, .unset, .unset, .unset]) X0 C at_80 rfl rfl ?_
      refine W.newO (q := 85) X0 C (W.ww hw 0 rfl) (W.ww hw 1 rfl) (W.ww hw 2 rfl) e0 at_82 (by decide) (by decide) rfl (fun T67 h67 b67 X67 e67 g67 E67 A67 D67 => ?_)
      have ge_b67 : n0 ≤ b67 := by rw [g67]; exact Z0
      have n0_67 : n0 ≤ h67.size := Nat.le_trans Z0 E67.1
      have F_att_69 : Fld Z h67 b67 "com/example/routeloom/routeloom/Objective$Weights" "att" "D" (.double (0 : UInt64)) := D67 (Or.inr (W.ww hw 15 rfl)) (ty := .double) (by decide)
      have F_trt_70 : Fld Z h67 b67 "com/example/routeloom/routeloom/Objective$Weights" "trt" "D" (.double (0 : UInt64)) := D67 (Or.inr (W.ww hw 17 rfl)) (ty := .double) (by decide)
      refine W.dup (q := 86) X67 C at_85 rfl rfl ?_
      refine W.iload (q := 88) X67 C at_86 rfl rfl ?_
      refine W.i2d (q := 89) (v := (FP.i2d (0 : Int32))) X67 C at_88 rfl rfl ?_
      refine W.iload (q := 91) X67 C at_89 rfl rfl ?_
      refine W.i2d (q := 92) (v := (FP.i2d v54)) X67 C at_91 rfl rfl ?_
      refine W.callI (q := 95) X67 C rfl (W.ww hw 3 rfl) (W.ww hw 4 rfl) (W.ww hw 2 rfl) (W.ww hw 5 rfl) (by decide) (rm1 l Z a0 hw [] b67 (FP.i2d (0 : Int32)) (FP.i2d v54) h67 n0 n0_67 A67 F_att_69 F_trt_70 ge_b67) e67 at_92 (a := b67) [(.double (FP.i2d (0 : Int32))), (.double (FP.i2d v54))] [(.ref b67)] rfl rfl pd__28DD_29V rfl rfl (by decide) (Nat.le_of_ble_eq_true rfl) (by decide) (by decide) rfl (fun T71 w71 L71 X71 hQ71 => ?_)
      obtain ⟨rfl, NL71, K71, E_71, Fa_71, Fb_71⟩ := hQ71
      have N71 := Fr.app N0 NL71
      have n0_71 : n0 ≤ T71.heap.size := Nat.le_trans n0_67 K71.1
      show W.Go p e below _ (T71.setTop (mkF m 95 #[.val (.int p0), .val (.int p1), .val (.int p2), .val (.int p3), .val (.int p4), .val (.int (0 : Int32)), .val (.int v54), .val (.int v55), .val (.int v56), .val (.int (1 : Int32)), .val (.double (9221120237041090560 : UInt64)), .second, .unset, .unset, .unset, .unset, .unset] [(.ref b67)]))
      refine W.astore (q := 97) (L' := #[.val (.int p0), .val (.int p1), .val (.int p2), .val (.int p3), .val (.int p4), .val (.int (0 : Int32)), .val (.int v54), .val (.int v55), .val (.int v56), .val (.int (1 : Int32)), .val (.double (9221120237041090560 : UInt64)), .second, .val (.ref b67), .unset, .unset, .unset, .unset]) X71 C at_95 rfl rfl rfl ?_
      refine W.aload (q := 99) X71 C at_97 rfl rfl rfl ?_
      refine W.dload (q := 101) X71 C at_99 rfl rfl ?_
      refine W.iload (q := 103) X71 C at_101 rfl rfl ?_
      refine W.i2d (q := 104) (v := (FP.i2d v56)) X71 C at_103 rfl rfl ?_
      refine W.callV (q := 107) X71 C (W.ww hw 18 rfl) (W.ww hw 19 rfl) (W.nf C (W.ww hw 21 rfl)) (W.ww hw 21 rfl) (W.ww hw 20 rfl) (W.ww hw 2 rfl) (W.ww hw 22 rfl) (by decide) (rm4 l Z a0 hw [] b67 (9221120237041090560 : UInt64) (FP.i2d v56) (FP.i2d (0 : Int32)) (FP.i2d v54) (0 : Int32).toInt v55.toInt v54.toInt v56.toInt T71.heap n0 Fa_71 Fb_71 (FP.Core.i2d_int _) (FP.Core.i2d_int _) (FP.Core.i2d_int _) (Or.inl (congrArg Int32.toInt rfl)) hb5 hb7 hb6 hb8) rfl E_71 at_104 [(.double (9221120237041090560 : UInt64)), (.double (FP.i2d v56))] [] rfl rfl pd__28DD_29D rfl rfl (by decide) (Nat.le_of_ble_eq_true rfl) (by decide) (by decide) rfl (fun T73 w73 L73 X73 hQ73 => ?_)
      obtain ⟨r73, rfl, NL73, e73, di73⟩ := hQ73
      have N73 := Fr.app N71 NL73
      show W.Go p e below _ (T73.setTop (mkF m 107 #[.val (.int p0), .val (.int p1), .val (.int p2), .val (.int p3), .val (.int p4), .val (.int (0 : Int32)), .val (.int v54), .val (.int v55), .val (.int v56), .val (.int (1 : Int32)), .val (.double (9221120237041090560 : UInt64)), .second, .val (.ref b67), .unset, .unset, .unset, .unset] [(.double r73)]))
      refine W.dstore (q := 109) (L' := #[.val (.int p0), .val (.int p1), .val (.int p2), .val (.int p3), .val (.int p4), .val (.int (0 : Int32)), .val (.int v54), .val (.int v55), .val (.int v56), .val (.int (1 : Int32)), .val (.double (9221120237041090560 : UInt64)), .second, .val (.ref b67), .val (.double r73), .second, .unset, .unset]) X73 C at_107 rfl rfl ?_
      refine W.iload (q := 111) X73 C at_109 rfl rfl ?_
      refine W.i2l (q := 112) X73 C at_111 rfl ?_
      refine W.iload (q := 114) X73 C at_112 rfl rfl ?_
      refine W.i2l (q := 115) X73 C at_114 rfl ?_
      refine W.lmul (q := 116) X73 C at_115 rfl ?_
      refine W.iload (q := 118) X73 C at_116 rfl rfl ?_
      refine W.i2l (q := 119) X73 C at_118 rfl ?_
      refine W.iload (q := 121) X73 C at_119 rfl rfl ?_
      refine W.i2l (q := 122) X73 C at_121 rfl ?_
      refine W.lmul (q := 123) X73 C at_122 rfl ?_
      refine W.ladd (q := 124) X73 C at_123 rfl ?_
      generalize hv74 : ((((0 : Int32).toInt64) * (v55.toInt64)) + ((v54.toInt64) * (v56.toInt64))) = v74
      refine W.lstore (q := 126) (L' := #[.val (.int p0), .val (.int p1), .val (.int p2), .val (.int p3), .val (.int p4), .val (.int (0 : Int32)), .val (.int v54), .val (.int v55), .val (.int v56), .val (.int (1 : Int32)), .val (.double (9221120237041090560 : UInt64)), .second, .val (.ref b67), .val (.double r73), .second, .val (.long v74), .second]) X73 C at_124 rfl rfl ?_
      refine W.dload (q := 128) X73 C at_126 rfl rfl ?_
      refine W.lload (q := 130) X73 C at_128 rfl rfl ?_
      have rf75 := own_ref (0 : Int32) v55 v54 v56 hb5 hb7 hb6 hb8
      rw [hv74] at rf75
      have dr75 : FP.Core.DInt ((0 : Int32).toInt * v55.toInt + v54.toInt * v56.toInt) (FP.l2d v74) := by rw [← rf75]; exact FP.Core.l2d_int (by rw [rf75]; exact own_s53 hb5 hb7 hb6 hb8)
      refine W.l2d (q := 131) (v := (FP.l2d v74)) X73 C at_130 rfl rfl ?_
      refine W.dcmp (q := 132) (v := 0) X73 C at_131 ((own_cmp di73 dr75 _).trans (own_sge _)) rfl ?_
      refine W.ifF (q := 135) X73 C at_132 rfl (by decide : W.cF .ne (0 : Int32) 0) ?_
      refine W.iconst (q := 136) (v := 1) X73 C at_135 rfl rfl ?_
      refine W.goto (q := 140) X73 C at_136 (by decide) (by decide) ?_
      exact W.retN X73 C (by simp) e73 at_140 rfl (by decide) (by decide) ⟨rfl, N73⟩
set_option maxRecDepth 65536 in
set_option maxHeartbeats 40000000 in
theorem comes_1 {Post : Tables → Env → Array Value → State → Outcome → State → Prop} (hpost : ∀ tb e args s v u, (limb_1_1.after args s (.returned v) u = true ∧ limb_1_2.after args s (.returned v) u = true ∧ True) → FrameEnd s (.returned v) u (Jvm.fieldLocs frame_1_writes args s ++ Jvm.arrayLocs frame_1_arrays args s ++ Jvm.staticLocs frame_1_statics s) 16 128 → Post tb e args s (.returned v) u) :
    ArmFor flags0 classFile x code maxLocals ret World_1 tables_1 room_1 Calls_1 rest_1 Pre_1 Post := by
  intro l hfl _ _ p e ha hc hk s m args below hf hA hF happ hP
  obtain ⟨hcalls, hrest, hpre⟩ := hP
  obtain ⟨-, -, -, hnamed, -, -, -, hat⟩ := (Spec.applies_iff hf).mp happ
  obtain ⟨hg, hn⟩ := and_e (Cond.before_iff.mp (show (Jvm.Cond.and given_1 narrow_1).before args s = true from hpre))
  obtain ⟨g1, g2⟩ := and_e hg
  obtain ⟨g3, g4⟩ := and_e g2
  obtain ⟨g5, g6⟩ := and_e g4
  obtain ⟨g7, g8⟩ := and_e g6
  obtain ⟨g9, g10⟩ := and_e g8
  obtain ⟨w0, w1, w2, w3, w4, rfl⟩ : ∃ w0 w1 w2 w3 w4 : Value, args = #[w0, w1, w2, w3, w4] := by
    have hs : args.size = 5 := by simpa [Cond.value, given_1] using g1
    obtain ⟨L⟩ := args
    match L, hs with
    | [w0, w1, w2, w3, w4], _ => exact ⟨w0, w1, w2, w3, w4, rfl⟩
  have hw := fun d (hd : d ∈ tables_1) => atoms_spec (ws := Jvm.Cond.code x code maxLocals ret :: tables_1) hat d (List.mem_cons_of_mem _ hd)
  have hfit : Fit s := fun {y c} hc i hi => by
    obtain ⟨ha, rfl⟩ := Array.getElem?_eq_some_iff.mp hc
    have q := List.all_eq_true.mp ((Array.all_eq_true_iff_forall_mem.mp hF) _ (Array.getElem_mem ha)) i (List.mem_range.mpr hi)
    simpa [Array.getElem?_eq_getElem hi] using q
  obtain ⟨i0, ei0⟩ := is_v g3
  obtain rfl : w0 = (.int i0) := Option.some.inj ei0
  obtain ⟨i1, ei1⟩ := is_v g5
  obtain rfl : w1 = (.int i1) := Option.some.inj ei1
  obtain ⟨i2, ei2⟩ := is_v g7
  obtain rfl : w2 = (.int i2) := Option.some.inj ei2
  obtain ⟨i3, ei3⟩ := is_v g9
  obtain rfl : w3 = (.int i3) := Option.some.inj ei3
  obtain ⟨i4, ei4⟩ := is_v g10
  obtain rfl : w4 = (.int i4) := Option.some.inj ei4
  obtain ⟨n, o, h1, h2, h3, _, L, rfl, ⟨rfl, N⟩, hq⟩ := rm0 l s _ hw tables_1 i0 i1 i2 i3 i4 s.heap s.heap.size (Nat.le_refl _) p e ha hc hk s m _ below hf ((Spec.applies_iff_loose hf).mp happ).1 ⟨rfl, State.Warmed39.refl s, rfl⟩ trivial
  refine ⟨n, _, h1, h2, h3, hpost _ _ _ _ _ _ ⟨Cond.after_iff.mpr rfl, Cond.after_iff.mpr (eq_i res_at (Term.int_eval (1)) rfl), trivial⟩ ⟨hq.1, hq.2.1, (hq.2.2.sift fun y hy => Or.inr (N y hy)).mono (by decide) (by decide)⟩⟩
theorem main_1_1 : Claimed_1_1 := comes_1 fun _ _ _ _ _ _ h hF => ⟨h.1, hF⟩
theorem main_1_2 : Claimed_1_2 := comes_1 fun _ _ _ _ _ _ h hF => ⟨h.2.1, hF⟩
end Jvm.Pilot.@@N@@
namespace Jvm.Pilot.@@N@@
open Jvm Jvm.ClassFile Sem Op Lib Jvm.Free Jvm.Stand Jvm.Pilot.@@N@@.Jvm.D
/-! MADE BY PROGRAM (witnessworld.py) out of the Statement's table words and the real class files: 10 classes; the members and pool entries that the words name. The judged class is class 1, her method 1. -/
namespace start1
open Jvm.ClassFile
def u (s : String) : CpInfo := .utf8 (stringToUtf16 s)
/-- a pool by its gaps: so many unusable entries, then the entry; so many at the end -/
def gap : Nat → List CpInfo → List CpInfo
  | 0, r => r
  | n + 1, r => .unusable :: gap n r
def poolList (es : List (Nat × CpInfo)) (last : Nat) : List CpInfo := es.foldr (fun e r => gap e.1 (e.2 :: r)) (gap last [])
def pool (es : List (Nat × CpInfo)) (last : Nat) : Array CpInfo := ⟨poolList es last⟩
def fileOf (pool : Array CpInfo) (this : Nat) (attrs : Array Attribute := #[]) (ms : Array MethodInfo := #[]) (fl : Nat := 33) (sup : Nat := 0) (ifs : Array Nat := #[]) (fds : Array FieldInfo := #[]) : ClassFile where
  minorVersion := 0
  majorVersion := 65
  constantPool := pool
  accessFlags := fl
  thisClass := this
  superClass := sup
  interfaces := ifs
  fields := fds
  methods := ms
  attributes := attrs
def plain (name : String) (sup : Option ClassId) : Class where
  name := name
  kind := .ordinary
  loader := none
  accessFlags := 33
  super := sup
  interfaces := #[]
  cf := none
  fields := #[]
  methods := #[]
  instanceTypes := #[]
  staticTypes := #[]
  resolved := #[]
  callSites := []
  init := .initialized
  statics := none
  mirror := none

def pool0 : Array CpInfo := pool [(5, u "<init>"), (0, u "()V"), (1, .class_ 10), (1, u "java/lang/Object")] 113

def k0c0 : Code := { maxStack := 0, maxLocals := 1, code := object_method_1_code, exceptionTable := #[], attributes := #[] }
def k0m0 : Method := { name := "<init>", desc := "()V", sig := { parameters := [], returnType := none }, accessFlags := 1, code := some k0c0 }
/-- java/lang/Object -/
def k0 : Class := { plain "java/lang/Object" none with
  accessFlags := 33
  interfaces := #[]
  cf := some (fileOf pool0 8 #[] #[{ accessFlags := 1, nameIndex := 5, descriptorIndex := 6, attributes := #[] }] 33 0 #[] #[])
  fields := #[]
  methods := #[k0m0]
  instanceTypes := #[]
  staticTypes := #[]
  resolved := Array.replicate 124 none
  statics := none }

def pool1 : Array CpInfo := pool [(2, .class_ 4), (1, u "java/lang/Object"), (0, u "<init>"), (0, u "()V"), (2, .double 9221120237041090560), (1, .class_ 12), (0, u "com/example/routeloom/routeloom/Objective$Weights"), (0, .methodref 11 14), (0, .nameAndType 5 15), (0, u "(DD)V"), (0, .methodref 11 17), (0, .nameAndType 18 19), (0, u "value"), (0, u "(DD)D"), (0, .class_ 21), (0, u "com/example/routeloom/routeloom/WeightsValuePinLaw"), (2, u "law"), (0, u "(IIIII)Z")] 7

def k1m0 : Method := { name := "<init>", desc := "()V", sig := { parameters := [], returnType := none }, accessFlags := 1, code := none }
def k1c1 : Code := { maxStack := 6, maxLocals := 17, code := code, exceptionTable := #[], attributes := #[] }
def k1m1 : Method := { name := "law", desc := "(IIIII)Z", sig := { parameters := [.int, .int, .int, .int, .int], returnType := some .boolean }, accessFlags := 9, code := some k1c1 }
/-- com/example/routeloom/routeloom/WeightsValuePinLaw -/
def k1 : Class := { plain "com/example/routeloom/routeloom/WeightsValuePinLaw" (some 0) with
  accessFlags := 49
  interfaces := #[]
  cf := some (fileOf pool1 20 #[] #[{ accessFlags := 1, nameIndex := 5, descriptorIndex := 6, attributes := #[] }, { accessFlags := 9, nameIndex := 24, descriptorIndex := 25, attributes := #[] }] 49 2 #[] #[])
  fields := #[]
  methods := #[k1m0, k1m1]
  instanceTypes := #[]
  staticTypes := #[]
  resolved := Array.replicate 33 none
  statics := none }

def pool2 : Array CpInfo := pool [(1, .methodref 2 3), (0, .class_ 4), (0, .nameAndType 5 6), (0, u "java/lang/Object"), (0, u "<init>"), (0, u "()V"), (0, .class_ 8), (0, u "java/lang/Record")] 13

def k2c0 : Code := { maxStack := 1, maxLocals := 1, code := jdk_30_method_1_code, exceptionTable := #[], attributes := #[] }
def k2m0 : Method := { name := "<init>", desc := "()V", sig := { parameters := [], returnType := none }, accessFlags := 4, code := some k2c0 }
/-- java/lang/Record -/
def k2 : Class := { plain "java/lang/Record" (some 0) with
  accessFlags := 1057
  interfaces := #[]
  cf := some (fileOf pool2 7 #[] #[{ accessFlags := 4, nameIndex := 5, descriptorIndex := 6, attributes := #[] }] 1057 2 #[] #[])
  fields := #[]
  methods := #[k2m0]
  instanceTypes := #[]
  staticTypes := #[]
  resolved := Array.replicate 22 none
  statics := none }

def pool3 : Array CpInfo := pool [(1, .methodref 2 3), (0, .class_ 4), (0, .nameAndType 5 6), (0, u "java/lang/Record"), (0, u "<init>"), (0, u "()V"), (0, .fieldref 8 9), (0, .class_ 10), (0, .nameAndType 11 12), (0, u "com/example/routeloom/routeloom/Objective$Weights"), (0, u "att"), (0, u "D"), (0, .fieldref 8 14), (0, .nameAndType 15 12), (0, u "trt"), (12, u "(DD)V"), (3, u "value"), (0, u "(DD)D"), (12, .class_ 47), (0, u "com/example/routeloom/routeloom/Objective")] 20

def k3c0 : Code := { maxStack := 3, maxLocals := 5, code := prog_39_method_1_code, exceptionTable := #[], attributes := #[] }
def k3m0 : Method := { name := "<init>", desc := "(DD)V", sig := { parameters := [.double, .double], returnType := none }, accessFlags := 0, code := some k3c0 }
def k3c1 : Code := { maxStack := 4, maxLocals := 7, code := prog_39_method_2_code, exceptionTable := #[], attributes := #[] }
def k3m1 : Method := { name := "value", desc := "(DD)D", sig := { parameters := [.double, .double], returnType := some .double }, accessFlags := 0, code := some k3c1 }
/-- com/example/routeloom/routeloom/Objective$Weights -/
def k3 : Class := { plain "com/example/routeloom/routeloom/Objective$Weights" (some 2) with
  accessFlags := 48
  interfaces := #[]
  cf := some (fileOf pool3 8 #[.nestHost 46] #[{ accessFlags := 0, nameIndex := 5, descriptorIndex := 28, attributes := #[] }, { accessFlags := 0, nameIndex := 32, descriptorIndex := 33, attributes := #[] }] 48 2 #[] #[{ accessFlags := 18, nameIndex := 11, descriptorIndex := 12, attributes := #[] }, { accessFlags := 18, nameIndex := 15, descriptorIndex := 12, attributes := #[] }])
  fields := #[{ name := "att", type := .double, accessFlags := 18, slot := 0, constantValue := 0 }, { name := "trt", type := .double, accessFlags := 18, slot := 1, constantValue := 0 }]
  methods := #[k3m0, k3m1]
  instanceTypes := #[.double, .double]
  staticTypes := #[]
  resolved := Array.replicate 68 none
  statics := none }

def pool4 : Array CpInfo := pool [(1, u "java/lang/Cloneable"), (0, .class_ 1), (0, u "java/lang/Object"), (0, .class_ 3)] 3

/-- java/lang/Cloneable -/
def k4 : Class := { plain "java/lang/Cloneable" (some 0) with
  accessFlags := 1537
  interfaces := #[]
  cf := some (fileOf pool4 2 #[] #[] 1537 4 #[] #[])
  fields := #[]
  methods := #[]
  instanceTypes := #[]
  staticTypes := #[]
  resolved := Array.replicate 8 none
  statics := none }

def pool5 : Array CpInfo := pool [(1, u "java/io/Serializable"), (0, .class_ 1), (0, u "java/lang/Object"), (0, .class_ 3)] 3

/-- java/io/Serializable -/
def k5 : Class := { plain "java/io/Serializable" (some 0) with
  accessFlags := 1537
  interfaces := #[]
  cf := some (fileOf pool5 2 #[] #[] 1537 4 #[] #[])
  fields := #[]
  methods := #[]
  instanceTypes := #[]
  staticTypes := #[]
  resolved := Array.replicate 8 none
  statics := none }

/-- the primitive byte -/
def k6 : Class := { plain "byte" none with kind := .primitive 'B', accessFlags := 0x411 }
/-- [B -/
def k7 : Class := { plain "[B" (some 0) with kind := .array 6 .byte, interfaces := #[4, 5], accessFlags := 1041 }

/-- the primitive int -/
def k8 : Class := { plain "int" none with kind := .primitive 'I', accessFlags := 0x411 }
/-- [I -/
def k9 : Class := { plain "[I" (some 0) with kind := .array 8 .int, interfaces := #[4, 5], accessFlags := 1041 }

def heap : Heap := #[]
def classes : Array Class := #[k0, k1, k2, k3, k4, k5, k6, k7, k8, k9]
def interned : List (Array UInt16 × Addr) := []
def slotsUsed : Nat := 0
def theMethod : MethodId := ⟨1, 1⟩
def args0 : Array Value := #[.int 5, .int 6, .int 7, .int 8, .int 9]
def aboutOver (below : List Frame) : State where
  vm := { classes := classes, interned := interned.toArray }
  heap := heap
  slotsUsed := slotsUsed
  threads := #[{ frames := .invoking theMethod args0 :: below }]
def below0 : List Frame := [.native { method := ⟨0, 0⟩, args := #[] }]
def about1 : State := aboutOver below0
def p0 : Program := .bare "" "" ""
def e0 : Env := launch0.env 0 0 0
theorem w_frames : about1.frames = Frame.invoking theMethod args0 :: below0 := rfl
set_option maxRecDepth 65536 in
theorem w_args : argsFit about1.vm theMethod args0 = true := by decide +kernel
set_option maxRecDepth 65536 in
theorem w_heap : heapFits about1 = true := by decide +kernel
set_option maxRecDepth 65536 in
theorem w_runnable : about1.curStatus? = some .runnable := by decide +kernel
set_option maxRecDepth 65536 in
theorem w_alone : about1.alone = true := by decide +kernel
set_option maxRecDepth 65536 in
theorem w_named : about1.methodNamed? x = some theMethod := by decide +kernel
set_option maxRecDepth 65536 in
theorem w_hears : about1.hears theMethod below0 = true := by decide +kernel
set_option maxRecDepth 65536 in
theorem w_ripe : about1.ripe theMethod args0 below0 = true := by decide +kernel
theorem w_running : about1.status = .running := rfl
set_option maxRecDepth 65536 in
theorem w_room : about1.hasRoom e0.platform room_1 = true :=
  launch0.hasRoom_least _ room_1 (by decide +kernel) (by decide +kernel) (by decide +kernel) (by decide +kernel) (by decide +kernel) (by decide +kernel)
theorem allAtoms_all (ts : List Jvm.Cond) (a : Array Jvm.Value) (st : Jvm.State) : (allAtoms ts).before a st = ts.all (fun c => c.before a st) := by
  induction ts with
  | nil => rfl
  | cons c t ih =>
    show (Jvm.Cond.and c (allAtoms t)).before a st = _
    rw [Jvm.Cond.before_and, ih, List.all_cons]
def words1 : List Jvm.Cond := Jvm.Cond.code x code maxLocals ret :: tables_1
/-- a 'code' word, met by the world's own term for the bytes: nothing is compared byte by byte -/
theorem code_word {y : MethodName} {bytes : ByteArray} {mx : Nat} {rt : Option FieldType} {a : Array Value} {s : State} {m : MethodId} {meth : Method} {c : Code} (h1 : s.methodNamed? y = some m) (h2 : s.vm.method? m = some meth) (h3 : meth.code = some c) (h4 : c.code = bytes)
    (h5 : (c.maxLocals == mx && c.exceptionTable.isEmpty && decide (c.maxStack ≤ mostOperands) && decide (meth.sig.returnType = rt) && !meth.locks && decide (parseMethodDescriptor y.desc = some meth.sig)) = true) : (Jvm.Cond.code y bytes mx rt).before a s = true := by
  simp only [Bool.and_eq_true, beq_iff_eq, Bool.not_eq_true', decide_eq_true_eq] at h5
  obtain ⟨⟨⟨⟨⟨g1, g2⟩, g3⟩, g4⟩, g5⟩, g6⟩ := h5
  simp [Cond.before, Cond.holds, Cond.value, h1, h2, h3, h4, g1, g2, g3, g4, g5, g6]
def isCode : Jvm.Cond → Bool
  | .code _ _ _ _ => true
  | _ => false
theorem all_split {L : List Jvm.Cond} {P : Jvm.Cond → Bool} (h1 : L.all (fun c => isCode c || P c) = true) (h2 : ∀ c ∈ L.filter isCode, P c = true) : L.all P = true := by
  refine List.all_eq_true.mpr fun c hc => ?_
  have h := List.all_eq_true.mp h1 c hc
  rcases Bool.eq_false_or_eq_true (isCode c) with hi | hi
  · exact h2 c (List.mem_filter.mpr ⟨hc, hi⟩)
  · simpa [hi] using h
set_option maxRecDepth 65536 in
theorem w_c0 : (Jvm.Cond.code x code maxLocals ret).before args0 about1 = true := code_word (m := ⟨1, 1⟩) (meth := k1m1) (c := k1c1) (by decide +kernel) rfl rfl rfl (by decide +kernel)
set_option maxRecDepth 65536 in
theorem w_c1 : (Jvm.Cond.code ({ cls := "com/example/routeloom/routeloom/Objective$Weights", name := "<init>", desc := "(DD)V" } : Jvm.MethodName) prog_39_method_1_code (5 : Nat) (Option.none : Option Jvm.ClassFile.FieldType)).before args0 about1 = true := code_word (m := ⟨3, 0⟩) (meth := k3m0) (c := k3c0) (by decide +kernel) rfl rfl rfl (by decide +kernel)
set_option maxRecDepth 65536 in
theorem w_c2 : (Jvm.Cond.code ({ cls := "java/lang/Record", name := "<init>", desc := "()V" } : Jvm.MethodName) jdk_30_method_1_code (1 : Nat) (Option.none : Option Jvm.ClassFile.FieldType)).before args0 about1 = true := code_word (m := ⟨2, 0⟩) (meth := k2m0) (c := k2c0) (by decide +kernel) rfl rfl rfl (by decide +kernel)
set_option maxRecDepth 65536 in
theorem w_c3 : (Jvm.Cond.code ({ cls := "java/lang/Object", name := "<init>", desc := "()V" } : Jvm.MethodName) object_method_1_code (1 : Nat) (Option.none : Option Jvm.ClassFile.FieldType)).before args0 about1 = true := code_word (m := ⟨0, 0⟩) (meth := k0m0) (c := k0c0) (by decide +kernel) rfl rfl rfl (by decide +kernel)
set_option maxRecDepth 65536 in
theorem w_c4 : (Jvm.Cond.code ({ cls := "com/example/routeloom/routeloom/Objective$Weights", name := "value", desc := "(DD)D" } : Jvm.MethodName) prog_39_method_2_code (7 : Nat) (Option.some Jvm.ClassFile.FieldType.double)).before args0 about1 = true := code_word (m := ⟨3, 1⟩) (meth := k3m1) (c := k3c1) (by decide +kernel) rfl rfl rfl (by decide +kernel)
def codes1 : List Jvm.Cond := [Jvm.Cond.code x code maxLocals ret, Jvm.Cond.code ({ cls := "com/example/routeloom/routeloom/Objective$Weights", name := "<init>", desc := "(DD)V" } : Jvm.MethodName) prog_39_method_1_code (5 : Nat) (Option.none : Option Jvm.ClassFile.FieldType), Jvm.Cond.code ({ cls := "java/lang/Record", name := "<init>", desc := "()V" } : Jvm.MethodName) jdk_30_method_1_code (1 : Nat) (Option.none : Option Jvm.ClassFile.FieldType), Jvm.Cond.code ({ cls := "java/lang/Object", name := "<init>", desc := "()V" } : Jvm.MethodName) object_method_1_code (1 : Nat) (Option.none : Option Jvm.ClassFile.FieldType), Jvm.Cond.code ({ cls := "com/example/routeloom/routeloom/Objective$Weights", name := "value", desc := "(DD)D" } : Jvm.MethodName) prog_39_method_2_code (7 : Nat) (Option.some Jvm.ClassFile.FieldType.double)]
set_option maxRecDepth 65536 in
theorem codes_eq : words1.filter isCode = codes1 := rfl
theorem w_codes : ∀ c ∈ words1.filter isCode, c.before args0 about1 = true := by
  rw [codes_eq]
  intro c hc
  simp only [codes1, List.mem_cons, List.not_mem_nil, or_false] at hc
  rcases hc with rfl | rfl | rfl | rfl | rfl
  · exact w_c0
  · exact w_c1
  · exact w_c2
  · exact w_c3
  · exact w_c4
set_option maxRecDepth 65536 in
theorem w_t1 : (words1.take 24).all (fun c => isCode c || c.before args0 about1) = true := by decide +kernel
set_option maxRecDepth 65536 in
theorem w_t2 : (words1.drop 24).all (fun c => isCode c || c.before args0 about1) = true := by decide +kernel
theorem w_tables : (allAtoms (Jvm.Cond.code x code maxLocals ret :: tables_1)).before args0 about1 = true := by
  rw [allAtoms_all]
  show words1.all (fun c => c.before args0 about1) = true
  refine all_split ?_ w_codes
  rw [← List.take_append_drop 24 words1, List.all_append, w_t1, w_t2]
  rfl
set_option maxRecDepth 65536 in
theorem w_case : (Jvm.Cond.and given_1 narrow_1).before args0 about1 = true := by decide +kernel
theorem w_applies : (headSpec (Jvm.Cond.code x code maxLocals ret :: tables_1) room_1).applies x e0.platform about1 = true :=
  (Spec.applies_iff w_frames).mpr ⟨w_running, w_runnable, w_alone, w_named, w_hears, w_ripe, w_room, w_tables⟩
theorem atStart : AtStart classFile x code maxLocals ret World_1 tables_1 room_1 Calls_1 rest_1 Pre_1 launch0 p0 e0 about1 theMethod args0 below0 :=
  ⟨lists_1, trivial, launch0.admits_env _ _ _, launch0.least_env, fairChoices_fair.cas, fairChoices_fair.clock, w_frames, w_args, w_heap, w_applies, trivial, trivial, w_case⟩
end start1
theorem witness_1 : WitnessClaimed_1 := ⟨start1.p0, start1.e0, start1.about1, start1.theMethod, start1.args0, start1.below0, start1.atStart⟩
end Jvm.Pilot.@@N@@
