import JvmDerived
import JvmDerived.Pilot.@@N@@Statement
import JvmDerived.Pilot.@@N@@Code
set_option linter.unusedVariables false
set_option linter.unusedSimpArgs false
namespace Jvm.Pilot.@@N@@
open Jvm Jvm.ClassFile Sem Op Lib Jvm.Free Jvm.Stand Jvm.LawKit Jvm.RoadKit Bundle Jvm.Pilot.@@N@@.Jvm.D
/-! OWN KIT: a walk in continuation form. Go F U: from U the run comes to an end of which F holds. -/
namespace W
def Go (p : Program) (e : Env) (below : List Frame) (F : Outcome → State → Prop) (U : State) : Prop :=
  ∃ s₂ o, Steps p.tables e below U s₂ ∧ s₂.status = .running ∧ Ended s₂ below o ∧ F o s₂
def Cx (p : Program) (s : State) (m : MethodId) (meth : Method) (c : Code) (Z : State) (bytes : ByteArray) (maxL : Nat) (own mname : String) (ret : Option FieldType) : Prop :=
  p.tables.exec = Jvm.exec ∧ Z.Warmed39 s.vm ∧ c.code = bytes ∧ c.maxLocals = maxL ∧ s.vm.findClass own = some m.cls ∧ meth.name = mname ∧ meth.sig.returnType = ret ∧ meth.locks = false
def Post (s : State) (Q : Option Value → Heap → List Loc → Prop) (k n : Nat) (o : Outcome) (U' : State) : Prop := ∃ v L, o = .returned v ∧ Q v U'.heap L ∧ FrameEnd s o U' L k n
theorem of {p : Program} {e : Env} {below : List Frame} {F : Outcome → State → Prop} {U U' : State} (h : ∀ t, Steps p.tables e below U' t → Steps p.tables e below U t) (k : Go p e below F U') : Go p e below F U := by
  obtain ⟨s₂, o, h1, h2⟩ := k
  exact ⟨s₂, o, h _ h1, h2⟩
theorem tr {p : Program} {e : Env} {below : List Frame} {F : Outcome → State → Prop} {U U' : State} (h : Steps p.tables e below U U') (k : Go p e below F U') : Go p e below F U := of (fun _ q => h.trans q) k
def cT : ClassFile.Cond → Int32 → Int32 → Prop
  | .eq, x, y => x = y
  | .ne, x, y => x ≠ y
  | .lt, x, y => x.toInt < y.toInt
  | .ge, x, y => y.toInt ≤ x.toInt
  | .gt, x, y => y.toInt < x.toInt
  | .le, x, y => x.toInt ≤ y.toInt
def cF : ClassFile.Cond → Int32 → Int32 → Prop
  | .eq, x, y => x ≠ y
  | .ne, x, y => x = y
  | .lt, x, y => y.toInt ≤ x.toInt
  | .ge, x, y => x.toInt < y.toInt
  | .gt, x, y => x.toInt ≤ y.toInt
  | .le, x, y => y.toInt < x.toInt
instance (cd : ClassFile.Cond) (x y : Int32) : Decidable (cT cd x y) := by cases cd <;> (simp only [cT]; infer_instance)
instance (cd : ClassFile.Cond) (x y : Int32) : Decidable (cF cd x y) := by cases cd <;> (simp only [cF]; infer_instance)
theorem holdsT {cd : ClassFile.Cond} {x y : Int32} (h : cT cd x y) : if_icmp.holds cd x y = true := by
  cases cd <;> simp only [cT] at h <;> simp [if_icmp.holds, h, Int32.lt_iff_toInt_lt, Int32.le_iff_toInt_le]
theorem holdsF {cd : ClassFile.Cond} {x y : Int32} (h : cF cd x y) : if_icmp.holds cd x y = false := by
  cases cd <;> simp only [cF] at h <;> simp [if_icmp.holds, h, Int32.lt_iff_toInt_lt, Int32.le_iff_toInt_le]
theorem cTF (cd : ClassFile.Cond) (x y : Int32) : cT cd x y ∨ cF cd x y := by
  cases cd <;> simp only [cT, cF] <;> first | omega | exact Decidable.em _ | exact (Decidable.em _).symm
theorem ww {a0 : Array Value} {Z : State} (hw : ∀ d ∈ tables_1, d.before a0 Z = true) (i : Nat) {d : Jvm.Cond} (h : tables_1[i]? = some d) : d.before a0 Z = true := hw _ (List.mem_of_getElem? h)
theorem small {P : Int32 → Prop} (K : Nat) (hK : ∀ i : Fin (K + 1), P (Int32.ofInt (i.1 : Int))) (k : Int32) (h1 : 0 ≤ k.toInt) (h2 : k.toInt ≤ K) : P k := by
  have e : Int32.ofInt ((k.toInt.toNat : Nat) : Int) = k := by rw [Int.toNat_of_nonneg h1]; exact Int32.ofInt_toInt k
  have := hK ⟨k.toInt.toNat, by omega⟩
  rw [e] at this; exact this
theorem eqR {args : Array Value} {s : State} {a b : Term} {idx : List Nat} {y : Addr} (hb : b.eval args s none idx s = some (.ref y)) (h : (Jvm.Cond.eq a b).value args s none s idx = some true) : a.eval args s none idx s = some (.ref y) := by
  cases ha : a.eval args s none idx s with
  | none => simp [Cond.value, ha] at h
  | some x =>
    have hx : x.isRef = true := by cases x <;> simp [Cond.value, ha, hb, Value.isRef] at h ⊢
    have q := gotT (eq_R ha hb hx rfl) h
    rw [q]
theorem elemAt {args : Array Value} {s : State} {t a : Term} {x : Addr} {j : Int32} {v : Value} {cl : Cell} {ty : FieldType} (A : Arr s s.heap x cl ty) (ht : t.eval args s none [] s = some (.ref x)) (hj : a.eval args s none [] s = some (.int j)) (h : (Term.elem t a).eval args s none [] s = some v) : cl.slots[j.toNatClampNeg]? = some v := (elem_in h ht hj A.1).2
theorem lenAt {args : Array Value} {s : State} {t : Term} {x : Addr} {z : Int32} {cl : Cell} {ty : FieldType} (A : Arr s s.heap x cl ty) (ht : t.eval args s none [] s = some (.ref x)) (h : (Jvm.Cond.eq (.length t) (.int z)).value args s none s [] = some true) : cl.slots.size < 2 ^ 31 ∧ cl.slots.size.toInt32 = z := by
  have h6 := eqv_i (Term.int_eval z) h
  have ha := A.fin (Vm.Alike.refl _)
  have sz : cl.slots.size < 2 ^ 31 := by
    refine Decidable.byContradiction fun q => ?_
    simp [Term.eval, ht, ha, q] at h6
  refine ⟨sz, ?_⟩
  rw [len_f ht ha sz] at h6
  exact Value.int.inj (Option.some.inj h6)
theorem narZ {x : Int32} (h : x = 0 ∨ x = 1) : narrow .boolean (.int x) = .int x := by rcases h with rfl | rfl <;> rfl
theorem fitZ {x : Int32} (h : x = 0 ∨ x = 1) : fits .boolean (.int x) = true := by rcases h with rfl | rfl <;> rfl
theorem fieldInt {args : Array Value} {s : State} {t : Term} {Cn n d : String} {k : Int32} {a : Addr} (ht : t.eval args s none [] s = some (.ref a)) (h : (Jvm.Cond.eq (.field t Cn n d) (.int k)).value args s none s [] = some true) : Fld s s.heap a Cn n d (.int k) := by
  exact Fld.start ((fld_at ht).symm.trans (eqv_i (Term.int_eval k) h))
section
variable {p : Program} {l : Launch} {e : Env} {R : Room} {s : State} {m : MethodId} {args : Array Value} {below : List Frame} {meth : Method} {c : Code} {T : State} {locs : List Loc} {cells slots : Nat} {Z : State} {a0 : Array Value} {h h0 : Heap} {F : Outcome → State → Prop} {bytes : ByteArray} {maxL : Nat} {own mname : String} {ret : Option FieldType} {pc q : Nat} {Ls L' : Array Slot} {S rest : List Value}
theorem bodyOf {y : MethodName} {ws : List Jvm.Cond} {rm : Room} {as : Array Value} {Q : Option Value → Heap → List Loc → Prop} (hp : plainFor y = true) (hef : ∀ m, entryFrame m as maxL = mkF m 0 Ls [])
    (body : ∀ p e s m below meth c s₁, Cx p s m meth c Z bytes maxL y.cls y.name ret → Stand p l e rm s m as below meth c s₁ [] 0 0 → s₁.heap = h0 → Go p e below (Post s Q rm.cells rm.slots) (s₁.setTop (mkF m 0 Ls []))) :
    MetFree l y (head1 (Jvm.Cond.code y bytes maxL ret :: ws) rm) (fun a U => a = as ∧ Z.Warmed39 U.vm ∧ U.heap = h0) (fun _ _ _ _ _ => True) (fun _ U o U' => ∃ v L, o = .returned v ∧ Q v U'.heap L ∧ FrameEnd U o U' L rm.cells rm.slots) := by
  refine MetFree.of_bodySF hp hisR ?_
  intro p e s m args below meth c s₁ Bd hml0 hP hK
  obtain ⟨rfl, hZ, hh⟩ := hP
  obtain ⟨s₂, o, h1, h2⟩ := body p e s m below meth c s₁ ⟨Bd.exec, hZ, Bd.bytes, hml0, findClass_of_methodNamed Bd.named, (name_of_methodNamed Bd.named Bd.method).1, Bd.returns, Bd.notSynchronized⟩ (Stand.of_body Bd) (by rw [← hh, Bd.state]; rfl)
  exact ⟨s₂, o, castTop (hef m) h1, h2⟩
/-! returns -/
theorem retN (X : Stand p l e R s m args below meth c T locs cells slots) {t : FieldType} (C : Cx p s m meth c Z bytes maxL own mname (some t)) (ht : t = .boolean ∨ t = .byte ∨ t = .char ∨ t = .short) (eT : T.heap = h) {z z' : Int32} (hd : decode bytes pc = .ok (.ireturn, 1)) (hz : narrow t (.int z) = .int z') {k n : Nat} (hk : cells ≤ k) (hn : slots ≤ n) {Q : Option Value → Heap → List Loc → Prop} (hQ : Q (some (.int z')) h locs) :
    Go p e below (Post s Q k n) (T.setTop (mkF m pc Ls (.int z :: rest))) := by
  obtain ⟨hx, hZ, hby, hml, hown, hnm, hret, hlk⟩ := C
  obtain ⟨fs, hr, hrun, hended, hW, hsame⟩ := X.leave (v := some (.int z')) (fun h => by rw [hret] at h; cases h)
  refine ⟨_, _, ?_, hrun, hended, _, _, rfl, ?_, ⟨_, rfl⟩, hW, hsame.mono hk hn⟩
  · have hm' : T.vm.method? m = some meth := X.method'
    have hd' := hb hby hd
    rcases ht with rfl | rfl | rfl | rfl
    all_goals
      show Steps p.tables e below (T.setTop { method := m, pc := pc, locals := Ls, stack := _ :: rest, locked := none }) _
      jvm_step X.here [X.here.top, hx, hd', hm', hret, hz]
      first | (intro acts; rw [hr _ acts rfl rfl rfl]) | rw [hr _ _ rfl rfl rfl]
      exact Steps.refl _
  · show Q _ T.heap _
    rw [eT]; exact hQ
theorem retI (X : Stand p l e R s m args below meth c T locs cells slots) (C : Cx p s m meth c Z bytes maxL own mname (some .int)) (eT : T.heap = h) {z : Int32} (hd : decode bytes pc = .ok (.ireturn, 1)) {k n : Nat} (hk : cells ≤ k) (hn : slots ≤ n) {Q : Option Value → Heap → List Loc → Prop} (hQ : Q (some (.int z)) h locs) :
    Go p e below (Post s Q k n) (T.setTop (mkF m pc Ls (.int z :: rest))) := by
  obtain ⟨hx, hZ, hby, hml, hown, hnm, hret, hlk⟩ := C
  obtain ⟨fs, hr, hrun, hended, hW, hsame⟩ := X.leave (v := some (.int z)) (fun h => by rw [hret] at h; cases h)
  refine ⟨_, _, ?_, hrun, hended, _, _, rfl, ?_, ⟨_, rfl⟩, hW, hsame.mono hk hn⟩
  · have hm' : T.vm.method? m = some meth := X.method'
    have hd' := hb hby hd
    have hn : narrow .int (.int z) = .int z := rfl
    show Steps p.tables e below (T.setTop { method := m, pc := pc, locals := Ls, stack := _ :: rest, locked := none }) _
    jvm_step X.here [X.here.top, hx, hd', hm', hret, hn]
    first | (intro acts; rw [hr _ acts rfl rfl rfl]) | rw [hr _ _ rfl rfl rfl]
    exact Steps.refl _
  · show Q _ T.heap _
    rw [eT]; exact hQ
theorem retJ (X : Stand p l e R s m args below meth c T locs cells slots) (C : Cx p s m meth c Z bytes maxL own mname (some .long)) (eT : T.heap = h) {z : Int64} (hd : decode bytes pc = .ok (.lreturn, 1)) {k n : Nat} (hk : cells ≤ k) (hn : slots ≤ n) {Q : Option Value → Heap → List Loc → Prop} (hQ : Q (some (.long z)) h locs) :
    Go p e below (Post s Q k n) (T.setTop (mkF m pc Ls (.long z :: rest))) := by
  obtain ⟨hx, hZ, hby, hml, hown, hnm, hret, hlk⟩ := C
  obtain ⟨fs, hr, hrun, hended, hW, hsame⟩ := X.leave (v := some (.long z)) (fun h => by rw [hret] at h; cases h)
  refine ⟨_, _, ?_, hrun, hended, _, _, rfl, ?_, ⟨_, rfl⟩, hW, hsame.mono hk hn⟩
  · have hm' : T.vm.method? m = some meth := X.method'
    have hd' := hb hby hd
    show Steps p.tables e below (T.setTop { method := m, pc := pc, locals := Ls, stack := _ :: rest, locked := none }) _
    jvm_step X.here [X.here.top, hx, hd', hm', hret, narrow]
    first | (intro acts; rw [hr _ acts rfl rfl rfl]) | rw [hr _ _ rfl rfl rfl]
    exact Steps.refl _
  · show Q _ T.heap _
    rw [eT]; exact hQ
theorem retA (X : Stand p l e R s m args below meth c T locs cells slots) {t : FieldType} (C : Cx p s m meth c Z bytes maxL own mname (some t)) (ht : t.isReference = true) (eT : T.heap = h) {z : Value} (hz : z.isRef = true) (hd : decode bytes pc = .ok (.areturn, 1)) {k n : Nat} (hk : cells ≤ k) (hn : slots ≤ n) {Q : Option Value → Heap → List Loc → Prop} (hQ : Q (some z) h locs) :
    Go p e below (Post s Q k n) (T.setTop (mkF m pc Ls (z :: rest))) := by
  obtain ⟨hx, hZ, hby, hml, hown, hnm, hret, hlk⟩ := C
  obtain ⟨fs, hr, hrun, hended, hW, hsame⟩ := X.leave (v := some z) (fun h => by rw [hret] at h; cases h)
  refine ⟨_, _, ?_, hrun, hended, _, _, rfl, ?_, ⟨_, rfl⟩, hW, hsame.mono hk hn⟩
  · have hm' : T.vm.method? m = some meth := X.method'
    have hd' := hb hby hd
    show Steps p.tables e below (T.setTop { method := m, pc := pc, locals := Ls, stack := _ :: rest, locked := none }) _
    jvm_step X.here [X.here.top, hx, hd', hm', hret, hz, ht]
    first | (intro acts; rw [hr _ acts rfl rfl rfl]) | rw [hr _ _ rfl rfl rfl]
    exact Steps.refl _
  · show Q _ T.heap _
    rw [eT]; exact hQ
theorem retV (X : Stand p l e R s m args below meth c T locs cells slots) (C : Cx p s m meth c Z bytes maxL own mname none) (eT : T.heap = h) (hd : decode bytes pc = .ok (.return_, 1)) {k n : Nat} (hk : cells ≤ k) (hn : slots ≤ n) {Q : Option Value → Heap → List Loc → Prop} (hQ : Q none h locs) :
    Go p e below (Post s Q k n) (T.setTop (mkF m pc Ls [])) := by
  obtain ⟨hx, hZ, hby, hml, hown, hnm, hret, hlk⟩ := C
  obtain ⟨fs, hr, hrun, hended, hW, hsame⟩ := X.leave (v := none) (fun _ => rfl)
  refine ⟨_, _, X.returnOut hx hret (hb hby hd) hr, hrun, hended, _, _, rfl, ?_, ⟨_, rfl⟩, hW, hsame.mono hk hn⟩
  show Q _ T.heap _
  rw [eT]; exact hQ
/-! plain steps -/
theorem iload (X : Stand p l e R s m args below meth c T locs cells slots) (C : Cx p s m meth c Z bytes maxL own mname ret) {k : Nat} {v : Int32} (hd : decode bytes pc = .ok (.iload k, 2)) (hl : Ls[k]? = some (.val (.int v))) (hq : pc + 2 = q) (K : Go p e below F (T.setTop (mkF m q Ls (.int v :: S)))) : Go p e below F (T.setTop (mkF m pc Ls S)) := by
  subst hq; exact of (fun t k => XS.iload X.here C.1 rfl (hb C.2.2.1 hd) hl k) K
theorem iloadN (X : Stand p l e R s m args below meth c T locs cells slots) (C : Cx p s m meth c Z bytes maxL own mname ret) {k : Fin 4} {v : Int32} (hd : decode bytes pc = .ok (.iload_n k, 1)) (hl : Ls[k.val]? = some (.val (.int v))) (hq : pc + 1 = q) (K : Go p e below F (T.setTop (mkF m q Ls (.int v :: S)))) : Go p e below F (T.setTop (mkF m pc Ls S)) := by
  subst hq; exact of (fun t k => XS.iloadN X.here C.1 rfl (hb C.2.2.1 hd) hl k) K
theorem lload (X : Stand p l e R s m args below meth c T locs cells slots) (C : Cx p s m meth c Z bytes maxL own mname ret) {k : Nat} {v : Int64} (hd : decode bytes pc = .ok (.lload k, 2)) (hl : Ls[k]? = some (.val (.long v))) (hq : pc + 2 = q) (K : Go p e below F (T.setTop (mkF m q Ls (.long v :: S)))) : Go p e below F (T.setTop (mkF m pc Ls S)) := by
  subst hq; exact of (fun t k => XS.lload X.here C.1 rfl (hb C.2.2.1 hd) hl k) K
theorem lloadN (X : Stand p l e R s m args below meth c T locs cells slots) (C : Cx p s m meth c Z bytes maxL own mname ret) {k : Fin 4} {v : Int64} (hd : decode bytes pc = .ok (.lload_n k, 1)) (hl : Ls[k.val]? = some (.val (.long v))) (hq : pc + 1 = q) (K : Go p e below F (T.setTop (mkF m q Ls (.long v :: S)))) : Go p e below F (T.setTop (mkF m pc Ls S)) := by
  subst hq; exact of (fun t k => XS.lloadN X.here C.1 rfl (hb C.2.2.1 hd) hl k) K
theorem aload (X : Stand p l e R s m args below meth c T locs cells slots) (C : Cx p s m meth c Z bytes maxL own mname ret) {k : Nat} {v : Value} (hd : decode bytes pc = .ok (.aload k, 2)) (hl : Ls[k]? = some (.val v)) (hv : v.isRef = true) (hq : pc + 2 = q) (K : Go p e below F (T.setTop (mkF m q Ls (v :: S)))) : Go p e below F (T.setTop (mkF m pc Ls S)) := by
  subst hq; exact of (fun t k => XS.aload X.here C.1 rfl (hb C.2.2.1 hd) hl hv k) K
theorem aloadN (X : Stand p l e R s m args below meth c T locs cells slots) (C : Cx p s m meth c Z bytes maxL own mname ret) {k : Fin 4} {v : Value} (hd : decode bytes pc = .ok (.aload_n k, 1)) (hl : Ls[k.val]? = some (.val v)) (hv : v.isRef = true) (hq : pc + 1 = q) (K : Go p e below F (T.setTop (mkF m q Ls (v :: S)))) : Go p e below F (T.setTop (mkF m pc Ls S)) := by
  subst hq; exact of (fun t k => XS.aloadN X.here C.1 rfl (hb C.2.2.1 hd) hl hv k) K
theorem istore (X : Stand p l e R s m args below meth c T locs cells slots) (C : Cx p s m meth c Z bytes maxL own mname ret) {k : Nat} {v : Int32} (hd : decode bytes pc = .ok (.istore k, 2)) (hl : storeLocals Ls k (.int v) = some L') (hq : pc + 2 = q) (K : Go p e below F (T.setTop (mkF m q L' S))) : Go p e below F (T.setTop (mkF m pc Ls (.int v :: S))) := by
  subst hq; exact of (fun t k => XS.istore X.here C.1 rfl (hb C.2.2.1 hd) rfl hl k) K
theorem istoreN (X : Stand p l e R s m args below meth c T locs cells slots) (C : Cx p s m meth c Z bytes maxL own mname ret) {k : Fin 4} {v : Int32} (hd : decode bytes pc = .ok (.istore_n k, 1)) (hl : storeLocals Ls k.val (.int v) = some L') (hq : pc + 1 = q) (K : Go p e below F (T.setTop (mkF m q L' S))) : Go p e below F (T.setTop (mkF m pc Ls (.int v :: S))) := by
  subst hq; exact of (fun t k => XS.istoreN X.here C.1 rfl (hb C.2.2.1 hd) rfl hl k) K
theorem lstore (X : Stand p l e R s m args below meth c T locs cells slots) (C : Cx p s m meth c Z bytes maxL own mname ret) {k : Nat} {v : Int64} (hd : decode bytes pc = .ok (.lstore k, 2)) (hl : storeLocals Ls k (.long v) = some L') (hq : pc + 2 = q) (K : Go p e below F (T.setTop (mkF m q L' S))) : Go p e below F (T.setTop (mkF m pc Ls (.long v :: S))) := by
  subst hq; exact of (fun t k => XS.lstore X.here C.1 rfl (hb C.2.2.1 hd) rfl hl k) K
theorem lstoreN (X : Stand p l e R s m args below meth c T locs cells slots) (C : Cx p s m meth c Z bytes maxL own mname ret) {k : Fin 4} {v : Int64} (hd : decode bytes pc = .ok (.lstore_n k, 1)) (hl : storeLocals Ls k.val (.long v) = some L') (hq : pc + 1 = q) (K : Go p e below F (T.setTop (mkF m q L' S))) : Go p e below F (T.setTop (mkF m pc Ls (.long v :: S))) := by
  subst hq; exact of (fun t k => XS.lstoreN X.here C.1 rfl (hb C.2.2.1 hd) rfl hl k) K
theorem astore (X : Stand p l e R s m args below meth c T locs cells slots) (C : Cx p s m meth c Z bytes maxL own mname ret) {k : Nat} {v : Value} (hd : decode bytes pc = .ok (.astore k, 2)) (hv : v.isRef = true) (hl : storeLocals Ls k v = some L') (hq : pc + 2 = q) (K : Go p e below F (T.setTop (mkF m q L' S))) : Go p e below F (T.setTop (mkF m pc Ls (v :: S))) := by
  subst hq; exact of (fun t k => XS.astore X.here C.1 rfl (hb C.2.2.1 hd) rfl hv hl k) K
theorem astoreN (X : Stand p l e R s m args below meth c T locs cells slots) (C : Cx p s m meth c Z bytes maxL own mname ret) {k : Fin 4} {v : Value} (hd : decode bytes pc = .ok (.astore_n k, 1)) (hv : v.isRef = true) (hl : storeLocals Ls k.val v = some L') (hq : pc + 1 = q) (K : Go p e below F (T.setTop (mkF m q L' S))) : Go p e below F (T.setTop (mkF m pc Ls (v :: S))) := by
  subst hq; exact of (fun t k => XS.astoreN X.here C.1 rfl (hb C.2.2.1 hd) rfl hv hl k) K
theorem iinc (X : Stand p l e R s m args below meth c T locs cells slots) (C : Cx p s m meth c Z bytes maxL own mname ret) {k : Nat} {i : Int} {x y : Int32} (hd : decode bytes pc = .ok (.iinc k i, 3)) (hl : Ls[k]? = some (.val (.int x))) (hy : x + Int32.ofInt i = y) (hl' : storeLocals Ls k (.int y) = some L') (hq : pc + 3 = q) (K : Go p e below F (T.setTop (mkF m q L' S))) : Go p e below F (T.setTop (mkF m pc Ls S)) := by
  subst hq hy; exact of (fun t k => XS.iinc X.here C.1 rfl (hb C.2.2.1 hd) hl hl' k) K
theorem iconst (X : Stand p l e R s m args below meth c T locs cells slots) (C : Cx p s m meth c Z bytes maxL own mname ret) {i : Int} {v : Int32} (hd : decode bytes pc = .ok (.iconst i, 1)) (hi : Int32.ofInt i = v) (hq : pc + 1 = q) (K : Go p e below F (T.setTop (mkF m q Ls (.int v :: S)))) : Go p e below F (T.setTop (mkF m pc Ls S)) := by
  subst hq hi; exact of (fun t k => XS.iconst X.here C.1 rfl (hb C.2.2.1 hd) k) K
theorem bipush (X : Stand p l e R s m args below meth c T locs cells slots) (C : Cx p s m meth c Z bytes maxL own mname ret) {i : Int} {v : Int32} (hd : decode bytes pc = .ok (.bipush i, 2)) (hi : (Int8.ofInt i).toInt32 = v) (hq : pc + 2 = q) (K : Go p e below F (T.setTop (mkF m q Ls (.int v :: S)))) : Go p e below F (T.setTop (mkF m pc Ls S)) := by
  subst hq hi; exact of (fun t k => XS.bipush X.here C.1 rfl (hb C.2.2.1 hd) k) K
theorem sipush (X : Stand p l e R s m args below meth c T locs cells slots) (C : Cx p s m meth c Z bytes maxL own mname ret) {i : Int} {v : Int32} (hd : decode bytes pc = .ok (.sipush i, 3)) (hi : (Int16.ofInt i).toInt32 = v) (hq : pc + 3 = q) (K : Go p e below F (T.setTop (mkF m q Ls (.int v :: S)))) : Go p e below F (T.setTop (mkF m pc Ls S)) := by
  subst hq hi; exact of (fun t k => XS.sipush X.here C.1 rfl (hb C.2.2.1 hd) k) K
theorem lconst0 (X : Stand p l e R s m args below meth c T locs cells slots) (C : Cx p s m meth c Z bytes maxL own mname ret) (hd : decode bytes pc = .ok (.lconst 0, 1)) (hq : pc + 1 = q) (K : Go p e below F (T.setTop (mkF m q Ls (.long 0 :: S)))) : Go p e below F (T.setTop (mkF m pc Ls S)) := by
  subst hq; exact of (fun t k => XS.lconst X.here C.1 rfl (hb C.2.2.1 hd) k) K
theorem lconst1 (X : Stand p l e R s m args below meth c T locs cells slots) (C : Cx p s m meth c Z bytes maxL own mname ret) (hd : decode bytes pc = .ok (.lconst 1, 1)) (hq : pc + 1 = q) (K : Go p e below F (T.setTop (mkF m q Ls (.long 1 :: S)))) : Go p e below F (T.setTop (mkF m pc Ls S)) := by
  subst hq; exact of (fun t k => XS.lconst X.here C.1 rfl (hb C.2.2.1 hd) k) K
theorem ldcI (X : Stand p l e R s m args below meth c T locs cells slots) (C : Cx p s m meth c Z bytes maxL own mname ret) {i : Nat} {v : Int32} (w : (Jvm.Cond.constant own i v).before a0 Z = true) (hd : decode bytes pc = .ok (.ldc i, 2)) (hq : pc + 2 = q) (K : Go p e below F (T.setTop (mkF m q Ls (.int v :: S)))) : Go p e below F (T.setTop (mkF m pc Ls S)) := by
  subst hq; exact of (X.ldcInt C.1 C.2.2.2.2.1 (mvT C.2.1 w) (g := mkF m pc Ls S) rfl (hb C.2.2.1 hd)) K
theorem ldcL (X : Stand p l e R s m args below meth c T locs cells slots) (C : Cx p s m meth c Z bytes maxL own mname ret) {i : Nat} {v : Int64} (w : (Jvm.Cond.constantLong own i v).before a0 Z = true) (hd : decode bytes pc = .ok (.ldc2_w i, 3)) (hq : pc + 3 = q) (K : Go p e below F (T.setTop (mkF m q Ls (.long v :: S)))) : Go p e below F (T.setTop (mkF m pc Ls S)) := by
  subst hq; exact of (X.ldc2Long C.1 C.2.2.2.2.1 (mvT C.2.1 w) (g := mkF m pc Ls S) rfl (hb C.2.2.1 hd)) K
theorem aconst (X : Stand p l e R s m args below meth c T locs cells slots) (C : Cx p s m meth c Z bytes maxL own mname ret) (hd : decode bytes pc = .ok (.aconst_null, 1)) (hq : pc + 1 = q) (K : Go p e below F (T.setTop (mkF m q Ls (.null :: S)))) : Go p e below F (T.setTop (mkF m pc Ls S)) := by
  subst hq; exact of (fun t k => XS.aconstNull X.here C.1 rfl (hb C.2.2.1 hd) k) K
theorem iadd (X : Stand p l e R s m args below meth c T locs cells slots) (C : Cx p s m meth c Z bytes maxL own mname ret) {x : Int32} {y : Int32} (hd : decode bytes pc = .ok (.iadd, 1)) (hq : pc + 1 = q) (K : Go p e below F (T.setTop (mkF m q Ls (.int (x + y) :: S)))) : Go p e below F (T.setTop (mkF m pc Ls (.int y :: .int x :: S))) := by
  subst hq; exact of (fun t k => XS.iadd X.here C.1 rfl (hb C.2.2.1 hd) rfl k) K
theorem ladd (X : Stand p l e R s m args below meth c T locs cells slots) (C : Cx p s m meth c Z bytes maxL own mname ret) {x : Int64} {y : Int64} (hd : decode bytes pc = .ok (.ladd, 1)) (hq : pc + 1 = q) (K : Go p e below F (T.setTop (mkF m q Ls (.long (x + y) :: S)))) : Go p e below F (T.setTop (mkF m pc Ls (.long y :: .long x :: S))) := by
  subst hq; exact of (fun t k => XS.ladd X.here C.1 rfl (hb C.2.2.1 hd) rfl k) K
theorem isub (X : Stand p l e R s m args below meth c T locs cells slots) (C : Cx p s m meth c Z bytes maxL own mname ret) {x : Int32} {y : Int32} (hd : decode bytes pc = .ok (.isub, 1)) (hq : pc + 1 = q) (K : Go p e below F (T.setTop (mkF m q Ls (.int (x - y) :: S)))) : Go p e below F (T.setTop (mkF m pc Ls (.int y :: .int x :: S))) := by
  subst hq; exact of (fun t k => XS.isub X.here C.1 rfl (hb C.2.2.1 hd) rfl k) K
theorem lsub (X : Stand p l e R s m args below meth c T locs cells slots) (C : Cx p s m meth c Z bytes maxL own mname ret) {x : Int64} {y : Int64} (hd : decode bytes pc = .ok (.lsub, 1)) (hq : pc + 1 = q) (K : Go p e below F (T.setTop (mkF m q Ls (.long (x - y) :: S)))) : Go p e below F (T.setTop (mkF m pc Ls (.long y :: .long x :: S))) := by
  subst hq; exact of (fun t k => XS.lsub X.here C.1 rfl (hb C.2.2.1 hd) rfl k) K
theorem imul (X : Stand p l e R s m args below meth c T locs cells slots) (C : Cx p s m meth c Z bytes maxL own mname ret) {x : Int32} {y : Int32} (hd : decode bytes pc = .ok (.imul, 1)) (hq : pc + 1 = q) (K : Go p e below F (T.setTop (mkF m q Ls (.int (x * y) :: S)))) : Go p e below F (T.setTop (mkF m pc Ls (.int y :: .int x :: S))) := by
  subst hq; exact of (fun t k => XS.imul X.here C.1 rfl (hb C.2.2.1 hd) rfl k) K
theorem lmul (X : Stand p l e R s m args below meth c T locs cells slots) (C : Cx p s m meth c Z bytes maxL own mname ret) {x : Int64} {y : Int64} (hd : decode bytes pc = .ok (.lmul, 1)) (hq : pc + 1 = q) (K : Go p e below F (T.setTop (mkF m q Ls (.long (x * y) :: S)))) : Go p e below F (T.setTop (mkF m pc Ls (.long y :: .long x :: S))) := by
  subst hq; exact of (fun t k => XS.lmul X.here C.1 rfl (hb C.2.2.1 hd) rfl k) K
theorem iand (X : Stand p l e R s m args below meth c T locs cells slots) (C : Cx p s m meth c Z bytes maxL own mname ret) {x : Int32} {y : Int32} (hd : decode bytes pc = .ok (.iand, 1)) (hq : pc + 1 = q) (K : Go p e below F (T.setTop (mkF m q Ls (.int (x &&& y) :: S)))) : Go p e below F (T.setTop (mkF m pc Ls (.int y :: .int x :: S))) := by
  subst hq; exact of (fun t k => XS.iand X.here C.1 rfl (hb C.2.2.1 hd) rfl k) K
theorem land (X : Stand p l e R s m args below meth c T locs cells slots) (C : Cx p s m meth c Z bytes maxL own mname ret) {x : Int64} {y : Int64} (hd : decode bytes pc = .ok (.land, 1)) (hq : pc + 1 = q) (K : Go p e below F (T.setTop (mkF m q Ls (.long (x &&& y) :: S)))) : Go p e below F (T.setTop (mkF m pc Ls (.long y :: .long x :: S))) := by
  subst hq; exact of (fun t k => XS.land X.here C.1 rfl (hb C.2.2.1 hd) rfl k) K
theorem ior (X : Stand p l e R s m args below meth c T locs cells slots) (C : Cx p s m meth c Z bytes maxL own mname ret) {x : Int32} {y : Int32} (hd : decode bytes pc = .ok (.ior, 1)) (hq : pc + 1 = q) (K : Go p e below F (T.setTop (mkF m q Ls (.int (x ||| y) :: S)))) : Go p e below F (T.setTop (mkF m pc Ls (.int y :: .int x :: S))) := by
  subst hq; exact of (fun t k => XS.ior X.here C.1 rfl (hb C.2.2.1 hd) rfl k) K
theorem lor (X : Stand p l e R s m args below meth c T locs cells slots) (C : Cx p s m meth c Z bytes maxL own mname ret) {x : Int64} {y : Int64} (hd : decode bytes pc = .ok (.lor, 1)) (hq : pc + 1 = q) (K : Go p e below F (T.setTop (mkF m q Ls (.long (x ||| y) :: S)))) : Go p e below F (T.setTop (mkF m pc Ls (.long y :: .long x :: S))) := by
  subst hq; exact of (fun t k => XS.lor X.here C.1 rfl (hb C.2.2.1 hd) rfl k) K
theorem ixor (X : Stand p l e R s m args below meth c T locs cells slots) (C : Cx p s m meth c Z bytes maxL own mname ret) {x : Int32} {y : Int32} (hd : decode bytes pc = .ok (.ixor, 1)) (hq : pc + 1 = q) (K : Go p e below F (T.setTop (mkF m q Ls (.int (x ^^^ y) :: S)))) : Go p e below F (T.setTop (mkF m pc Ls (.int y :: .int x :: S))) := by
  subst hq; exact of (fun t k => XS.ixor X.here C.1 rfl (hb C.2.2.1 hd) rfl k) K
theorem lxor (X : Stand p l e R s m args below meth c T locs cells slots) (C : Cx p s m meth c Z bytes maxL own mname ret) {x : Int64} {y : Int64} (hd : decode bytes pc = .ok (.lxor, 1)) (hq : pc + 1 = q) (K : Go p e below F (T.setTop (mkF m q Ls (.long (x ^^^ y) :: S)))) : Go p e below F (T.setTop (mkF m pc Ls (.long y :: .long x :: S))) := by
  subst hq; exact of (fun t k => XS.lxor X.here C.1 rfl (hb C.2.2.1 hd) rfl k) K
theorem ishl (X : Stand p l e R s m args below meth c T locs cells slots) (C : Cx p s m meth c Z bytes maxL own mname ret) {x : Int32} {y : Int32} (hd : decode bytes pc = .ok (.ishl, 1)) (hq : pc + 1 = q) (K : Go p e below F (T.setTop (mkF m q Ls (.int (x <<< (y &&& 31)) :: S)))) : Go p e below F (T.setTop (mkF m pc Ls (.int y :: .int x :: S))) := by
  subst hq; exact of (fun t k => XS.ishl X.here C.1 rfl (hb C.2.2.1 hd) rfl k) K
theorem ishr (X : Stand p l e R s m args below meth c T locs cells slots) (C : Cx p s m meth c Z bytes maxL own mname ret) {x : Int32} {y : Int32} (hd : decode bytes pc = .ok (.ishr, 1)) (hq : pc + 1 = q) (K : Go p e below F (T.setTop (mkF m q Ls (.int (x >>> (y &&& 31)) :: S)))) : Go p e below F (T.setTop (mkF m pc Ls (.int y :: .int x :: S))) := by
  subst hq; exact of (fun t k => XS.ishr X.here C.1 rfl (hb C.2.2.1 hd) rfl k) K
theorem iushr (X : Stand p l e R s m args below meth c T locs cells slots) (C : Cx p s m meth c Z bytes maxL own mname ret) {x : Int32} {y : Int32} (hd : decode bytes pc = .ok (.iushr, 1)) (hq : pc + 1 = q) (K : Go p e below F (T.setTop (mkF m q Ls (.int ((x.toUInt32 >>> (y &&& 31).toUInt32).toInt32) :: S)))) : Go p e below F (T.setTop (mkF m pc Ls (.int y :: .int x :: S))) := by
  subst hq; exact of (fun t k => XS.iushr X.here C.1 rfl (hb C.2.2.1 hd) rfl k) K
theorem lshl (X : Stand p l e R s m args below meth c T locs cells slots) (C : Cx p s m meth c Z bytes maxL own mname ret) {x : Int64} {y : Int32} (hd : decode bytes pc = .ok (.lshl, 1)) (hq : pc + 1 = q) (K : Go p e below F (T.setTop (mkF m q Ls (.long (x <<< (y &&& 0x3f).toInt64) :: S)))) : Go p e below F (T.setTop (mkF m pc Ls (.int y :: .long x :: S))) := by
  subst hq; exact of (fun t k => XS.lshl X.here C.1 rfl (hb C.2.2.1 hd) rfl k) K
theorem lshr (X : Stand p l e R s m args below meth c T locs cells slots) (C : Cx p s m meth c Z bytes maxL own mname ret) {x : Int64} {y : Int32} (hd : decode bytes pc = .ok (.lshr, 1)) (hq : pc + 1 = q) (K : Go p e below F (T.setTop (mkF m q Ls (.long (x >>> (y &&& 0x3f).toInt64) :: S)))) : Go p e below F (T.setTop (mkF m pc Ls (.int y :: .long x :: S))) := by
  subst hq; exact of (fun t k => XS.lshr X.here C.1 rfl (hb C.2.2.1 hd) rfl k) K
theorem lushr (X : Stand p l e R s m args below meth c T locs cells slots) (C : Cx p s m meth c Z bytes maxL own mname ret) {x : Int64} {y : Int32} (hd : decode bytes pc = .ok (.lushr, 1)) (hq : pc + 1 = q) (K : Go p e below F (T.setTop (mkF m q Ls (.long ((x.toUInt64 >>> (y &&& 0x3f).toInt64.toUInt64).toInt64) :: S)))) : Go p e below F (T.setTop (mkF m pc Ls (.int y :: .long x :: S))) := by
  subst hq; exact of (fun t k => XS.lushr X.here C.1 rfl (hb C.2.2.1 hd) rfl k) K
theorem ineg (X : Stand p l e R s m args below meth c T locs cells slots) (C : Cx p s m meth c Z bytes maxL own mname ret) {x : Int32} (hd : decode bytes pc = .ok (.ineg, 1)) (hq : pc + 1 = q) (K : Go p e below F (T.setTop (mkF m q Ls (.int (-x) :: S)))) : Go p e below F (T.setTop (mkF m pc Ls (.int x :: S))) := by
  subst hq; exact of (fun t k => XS.ineg X.here C.1 rfl (hb C.2.2.1 hd) rfl k) K
theorem lneg (X : Stand p l e R s m args below meth c T locs cells slots) (C : Cx p s m meth c Z bytes maxL own mname ret) {x : Int64} (hd : decode bytes pc = .ok (.lneg, 1)) (hq : pc + 1 = q) (K : Go p e below F (T.setTop (mkF m q Ls (.long (-x) :: S)))) : Go p e below F (T.setTop (mkF m pc Ls (.long x :: S))) := by
  subst hq; exact of (fun t k => XS.lneg X.here C.1 rfl (hb C.2.2.1 hd) rfl k) K
theorem i2l (X : Stand p l e R s m args below meth c T locs cells slots) (C : Cx p s m meth c Z bytes maxL own mname ret) {x : Int32} (hd : decode bytes pc = .ok (.i2l, 1)) (hq : pc + 1 = q) (K : Go p e below F (T.setTop (mkF m q Ls (.long (x.toInt64) :: S)))) : Go p e below F (T.setTop (mkF m pc Ls (.int x :: S))) := by
  subst hq; exact of (fun t k => XS.i2l X.here C.1 rfl (hb C.2.2.1 hd) rfl k) K
theorem l2i (X : Stand p l e R s m args below meth c T locs cells slots) (C : Cx p s m meth c Z bytes maxL own mname ret) {x : Int64} (hd : decode bytes pc = .ok (.l2i, 1)) (hq : pc + 1 = q) (K : Go p e below F (T.setTop (mkF m q Ls (.int (x.toInt32) :: S)))) : Go p e below F (T.setTop (mkF m pc Ls (.long x :: S))) := by
  subst hq; exact of (fun t k => XS.l2i X.here C.1 rfl (hb C.2.2.1 hd) rfl k) K
theorem i2b (X : Stand p l e R s m args below meth c T locs cells slots) (C : Cx p s m meth c Z bytes maxL own mname ret) {x : Int32} (hd : decode bytes pc = .ok (.i2b, 1)) (hq : pc + 1 = q) (K : Go p e below F (T.setTop (mkF m q Ls (.int (x.toInt8.toInt32) :: S)))) : Go p e below F (T.setTop (mkF m pc Ls (.int x :: S))) := by
  subst hq; exact of (fun t k => XS.i2b X.here C.1 rfl (hb C.2.2.1 hd) rfl k) K
theorem i2s (X : Stand p l e R s m args below meth c T locs cells slots) (C : Cx p s m meth c Z bytes maxL own mname ret) {x : Int32} (hd : decode bytes pc = .ok (.i2s, 1)) (hq : pc + 1 = q) (K : Go p e below F (T.setTop (mkF m q Ls (.int (x.toInt16.toInt32) :: S)))) : Go p e below F (T.setTop (mkF m pc Ls (.int x :: S))) := by
  subst hq; exact of (fun t k => XS.i2s X.here C.1 rfl (hb C.2.2.1 hd) rfl k) K
theorem i2c (X : Stand p l e R s m args below meth c T locs cells slots) (C : Cx p s m meth c Z bytes maxL own mname ret) {x : Int32} (hd : decode bytes pc = .ok (.i2c, 1)) (hq : pc + 1 = q) (K : Go p e below F (T.setTop (mkF m q Ls (.int (x.toUInt32.toUInt16.toUInt32.toInt32) :: S)))) : Go p e below F (T.setTop (mkF m pc Ls (.int x :: S))) := by
  subst hq; exact of (fun t k => XS.i2c X.here C.1 rfl (hb C.2.2.1 hd) rfl k) K
theorem idiv (X : Stand p l e R s m args below meth c T locs cells slots) (C : Cx p s m meth c Z bytes maxL own mname ret) {x y : Int32} (hd : decode bytes pc = .ok (.idiv, 1)) (hy : y ≠ 0) (hq : pc + 1 = q) (K : Go p e below F (T.setTop (mkF m q Ls (.int (x / y) :: S)))) : Go p e below F (T.setTop (mkF m pc Ls (.int y :: .int x :: S))) := by
  subst hq; exact of (fun t k => XS.idiv X.here C.1 rfl (hb C.2.2.1 hd) rfl hy k) K
theorem irem (X : Stand p l e R s m args below meth c T locs cells slots) (C : Cx p s m meth c Z bytes maxL own mname ret) {x y : Int32} (hd : decode bytes pc = .ok (.irem, 1)) (hy : y ≠ 0) (hq : pc + 1 = q) (K : Go p e below F (T.setTop (mkF m q Ls (.int (x % y) :: S)))) : Go p e below F (T.setTop (mkF m pc Ls (.int y :: .int x :: S))) := by
  subst hq; exact of (fun t k => iremM (g := mkF m pc Ls (.int y :: .int x :: S)) X C.1 rfl (hb C.2.2.1 hd) rfl hy k) K
theorem ldiv (X : Stand p l e R s m args below meth c T locs cells slots) (C : Cx p s m meth c Z bytes maxL own mname ret) {x y : Int64} (hd : decode bytes pc = .ok (.ldiv, 1)) (hy : y ≠ 0) (hq : pc + 1 = q) (K : Go p e below F (T.setTop (mkF m q Ls (.long (x / y) :: S)))) : Go p e below F (T.setTop (mkF m pc Ls (.long y :: .long x :: S))) := by
  subst hq; exact of (fun t k => XS.ldiv X.here C.1 rfl (hb C.2.2.1 hd) rfl hy k) K
theorem lcmp (X : Stand p l e R s m args below meth c T locs cells slots) (C : Cx p s m meth c Z bytes maxL own mname ret) {x y : Int64} (hd : decode bytes pc = .ok (.lcmp, 1)) (hq : pc + 1 = q) (K : Go p e below F (T.setTop (mkF m q Ls (.int (lcmpW x y) :: S)))) : Go p e below F (T.setTop (mkF m pc Ls (.long y :: .long x :: S))) := by
  subst hq; exact of (fun t k => XS.lcmp X.here C.1 rfl (hb C.2.2.1 hd) rfl k) K
theorem dup (X : Stand p l e R s m args below meth c T locs cells slots) (C : Cx p s m meth c Z bytes maxL own mname ret) {v : Value} (hd : decode bytes pc = .ok (.dup, 1)) (hv : v.category = 1) (hq : pc + 1 = q) (K : Go p e below F (T.setTop (mkF m q Ls (v :: v :: S)))) : Go p e below F (T.setTop (mkF m pc Ls (v :: S))) := by
  subst hq; exact of (fun t k => XS.dup X.here C.1 rfl (hb C.2.2.1 hd) rfl hv k) K
theorem dupX1 (X : Stand p l e R s m args below meth c T locs cells slots) (C : Cx p s m meth c Z bytes maxL own mname ret) {v w : Value} (hd : decode bytes pc = .ok (.dup_x1, 1)) (hv : v.category = 1) (hw : w.category = 1) (hq : pc + 1 = q) (K : Go p e below F (T.setTop (mkF m q Ls (v :: w :: v :: S)))) : Go p e below F (T.setTop (mkF m pc Ls (v :: w :: S))) := by
  subst hq; exact of (fun t k => XS.dupX1 X.here C.1 rfl (hb C.2.2.1 hd) rfl hv hw k) K
theorem pop (X : Stand p l e R s m args below meth c T locs cells slots) (C : Cx p s m meth c Z bytes maxL own mname ret) {v : Value} (hd : decode bytes pc = .ok (.pop, 1)) (hv : v.category = 1) (hq : pc + 1 = q) (K : Go p e below F (T.setTop (mkF m q Ls S))) : Go p e below F (T.setTop (mkF m pc Ls (v :: S))) := by
  subst hq; exact of (fun t k => XS.pop X.here C.1 rfl (hb C.2.2.1 hd) rfl hv k) K
theorem goto (X : Stand p l e R s m args below meth c T locs cells slots) (C : Cx p s m meth c Z bytes maxL own mname ret) {o : Int} (hd : decode bytes pc = .ok (.goto o, 3)) (ho : 0 ≤ (pc : Int) + o) (hq : ((pc : Int) + o).toNat = q) (K : Go p e below F (T.setTop (mkF m q Ls S))) : Go p e below F (T.setTop (mkF m pc Ls S)) :=
  of (fun t k => XS.goto X.here C.1 rfl rfl (hb C.2.2.1 hd) ho hq k) K
theorem icmpT (X : Stand p l e R s m args below meth c T locs cells slots) (C : Cx p s m meth c Z bytes maxL own mname ret) {cd : ClassFile.Cond} {o : Int} {x y : Int32} (hd : decode bytes pc = .ok (.if_icmp cd o, 3)) (ho : 0 ≤ (pc : Int) + o) (hq : ((pc : Int) + o).toNat = q) (hc : cT cd x y) (K : Go p e below F (T.setTop (mkF m q Ls S))) : Go p e below F (T.setTop (mkF m pc Ls (.int y :: .int x :: S))) :=
  of (fun t k => XS.icmpYes X.here C.1 rfl rfl (hb C.2.2.1 hd) rfl (holdsT hc) ho hq k) K
theorem icmpF (X : Stand p l e R s m args below meth c T locs cells slots) (C : Cx p s m meth c Z bytes maxL own mname ret) {cd : ClassFile.Cond} {o : Int} {x y : Int32} (hd : decode bytes pc = .ok (.if_icmp cd o, 3)) (hq : pc + 3 = q) (hc : cF cd x y) (K : Go p e below F (T.setTop (mkF m q Ls S))) : Go p e below F (T.setTop (mkF m pc Ls (.int y :: .int x :: S))) := by
  subst hq; exact of (fun t k => XS.icmpNo X.here C.1 rfl (hb C.2.2.1 hd) rfl (holdsF hc) k) K
theorem icmp (X : Stand p l e R s m args below meth c T locs cells slots) (C : Cx p s m meth c Z bytes maxL own mname ret) {cd : ClassFile.Cond} {o : Int} {x y : Int32} {q' : Nat} (hd : decode bytes pc = .ok (.if_icmp cd o, 3)) (ho : 0 ≤ (pc : Int) + o) (hq : ((pc : Int) + o).toNat = q) (hq' : pc + 3 = q') (K : cT cd x y → Go p e below F (T.setTop (mkF m q Ls S))) (K' : cF cd x y → Go p e below F (T.setTop (mkF m q' Ls S))) : Go p e below F (T.setTop (mkF m pc Ls (.int y :: .int x :: S))) :=
  (cTF cd x y).elim (fun hc => icmpT X C hd ho hq hc (K hc)) (fun hc => icmpF X C hd hq' hc (K' hc))
theorem ifT (X : Stand p l e R s m args below meth c T locs cells slots) (C : Cx p s m meth c Z bytes maxL own mname ret) {cd : ClassFile.Cond} {o : Int} {x : Int32} (hd : decode bytes pc = .ok (.ifCond cd o, 3)) (ho : 0 ≤ (pc : Int) + o) (hq : ((pc : Int) + o).toNat = q) (hc : cT cd x 0) (K : Go p e below F (T.setTop (mkF m q Ls S))) : Go p e below F (T.setTop (mkF m pc Ls (.int x :: S))) :=
  of (fun t k => XS.ifYes X.here C.1 rfl rfl (hb C.2.2.1 hd) rfl ((if0 _ _).trans (holdsT hc)) ho hq k) K
theorem ifF (X : Stand p l e R s m args below meth c T locs cells slots) (C : Cx p s m meth c Z bytes maxL own mname ret) {cd : ClassFile.Cond} {o : Int} {x : Int32} (hd : decode bytes pc = .ok (.ifCond cd o, 3)) (hq : pc + 3 = q) (hc : cF cd x 0) (K : Go p e below F (T.setTop (mkF m q Ls S))) : Go p e below F (T.setTop (mkF m pc Ls (.int x :: S))) := by
  subst hq; exact of (fun t k => XS.ifNo X.here C.1 rfl (hb C.2.2.1 hd) rfl ((if0 _ _).trans (holdsF hc)) k) K
theorem if_ (X : Stand p l e R s m args below meth c T locs cells slots) (C : Cx p s m meth c Z bytes maxL own mname ret) {cd : ClassFile.Cond} {o : Int} {x : Int32} {q' : Nat} (hd : decode bytes pc = .ok (.ifCond cd o, 3)) (ho : 0 ≤ (pc : Int) + o) (hq : ((pc : Int) + o).toNat = q) (hq' : pc + 3 = q') (K : cT cd x 0 → Go p e below F (T.setTop (mkF m q Ls S))) (K' : cF cd x 0 → Go p e below F (T.setTop (mkF m q' Ls S))) : Go p e below F (T.setTop (mkF m pc Ls (.int x :: S))) :=
  (cTF cd x 0).elim (fun hc => ifT X C hd ho hq hc (K hc)) (fun hc => ifF X C hd hq' hc (K' hc))
theorem ifnullT (X : Stand p l e R s m args below meth c T locs cells slots) (C : Cx p s m meth c Z bytes maxL own mname ret) {o : Int} (hd : decode bytes pc = .ok (.ifnull o, 3)) (ho : 0 ≤ (pc : Int) + o) (hq : ((pc : Int) + o).toNat = q) (K : Go p e below F (T.setTop (mkF m q Ls S))) : Go p e below F (T.setTop (mkF m pc Ls (.null :: S))) :=
  of (fun t k => XS.ifnullYes X.here C.1 rfl rfl (hb C.2.2.1 hd) rfl ho hq k) K
theorem ifnullF (X : Stand p l e R s m args below meth c T locs cells slots) (C : Cx p s m meth c Z bytes maxL own mname ret) {o : Int} {a : Addr} (hd : decode bytes pc = .ok (.ifnull o, 3)) (hq : pc + 3 = q) (K : Go p e below F (T.setTop (mkF m q Ls S))) : Go p e below F (T.setTop (mkF m pc Ls (.ref a :: S))) := by
  subst hq; exact of (fun t k => XS.ifnullNo X.here C.1 rfl (hb C.2.2.1 hd) rfl k) K
theorem ifnonnullT (X : Stand p l e R s m args below meth c T locs cells slots) (C : Cx p s m meth c Z bytes maxL own mname ret) {o : Int} {a : Addr} (hd : decode bytes pc = .ok (.ifnonnull o, 3)) (ho : 0 ≤ (pc : Int) + o) (hq : ((pc : Int) + o).toNat = q) (K : Go p e below F (T.setTop (mkF m q Ls S))) : Go p e below F (T.setTop (mkF m pc Ls (.ref a :: S))) :=
  of (fun t k => XS.ifnonnullYes X.here C.1 rfl rfl (hb C.2.2.1 hd) rfl ho hq k) K
theorem ifnonnullF (X : Stand p l e R s m args below meth c T locs cells slots) (C : Cx p s m meth c Z bytes maxL own mname ret) {o : Int} (hd : decode bytes pc = .ok (.ifnonnull o, 3)) (hq : pc + 3 = q) (K : Go p e below F (T.setTop (mkF m q Ls S))) : Go p e below F (T.setTop (mkF m pc Ls (.null :: S))) := by
  subst hq; exact of (fun t k => XS.ifnonnullNo X.here C.1 rfl (hb C.2.2.1 hd) rfl k) K
/-! calls -/
theorem callS (X : Stand p l e R s m args below meth c T locs cells slots) (C : Cx p s m meth c Z bytes maxL own mname ret) {y : MethodName} {i : Nat} {yb : ByteArray} {ym : Nat} {yr : Option FieldType} (w1 : (Jvm.Cond.methodLink own i y).before a0 Z = true) (w2 : (Jvm.Cond.static y).before a0 Z = true) (w3 : (Jvm.Cond.initialized y.cls).before a0 Z = true) (w4 : (Jvm.Cond.code y yb ym yr).before a0 Z = true) (hy : y.cls ≠ "java/lang/invoke/MethodHandle" ∧ y.cls ≠ "java/lang/invoke/VarHandle")
    {rm : Room} {as' : Array Value} {Q : Option Value → Heap → List Loc → Prop} (hM : MetFree l y (head1 [Jvm.Cond.code y yb ym yr] rm) (fun a U => a = as' ∧ Z.Warmed39 U.vm ∧ U.heap = h) (fun _ _ _ _ _ => True) (fun _ U o U' => ∃ v L, o = .returned v ∧ Q v U'.heap L ∧ FrameEnd U o U' L rm.cells rm.slots))
    (eT : T.heap = h) (hd : decode bytes pc = .ok (.invokestatic i, 3)) (argsL : List Value) (rest : List Value) (hS : S = argsL.reverse ++ rest) (has : as' = argsL.toArray) {ps : List FieldType} {r : Option FieldType} (hpd : parseMethodDescriptor y.desc = some ⟨ps, r⟩) (hlen : argsL.length = ps.length) (hsz : Ls.size = maxL)
    (hf : rm.frames + 1 ≤ R.frames) (hl : (rest.map fun v => v.category).sum + (ym + 11) + rm.locals ≤ R.locals) (hc : cells + rm.cells ≤ R.cells) (hsl : slots + rm.slots ≤ R.slots) (hq : pc + 3 = q)
    (K : ∀ (T' : State) (v : Option Value) (L : List Loc), Stand p l e R s m args below meth c T' (locs ++ L) (cells + rm.cells) (slots + rm.slots) → Q v T'.heap L → Go p e below F (T'.setTop (mkF m q Ls (v.toList ++ rest)))) : Go p e below F (T.setTop (mkF m pc Ls S)) := by
  subst hq hS has
  obtain ⟨hx, hZ, hby, hml, hown, hnm, hret, hlk⟩ := C
  obtain ⟨v, _, ⟨T1, L1, k1, n1⟩, -, X1, ⟨Lc, hQ, l1, y1, z1⟩, st⟩ := Jvm.LawKit.callS X hx hown (mvT hZ w1) (mvT hZ w2) (mvT hZ w3) (mvT hZ w4) hy (backOf (W := (rest.map fun v => v.category).sum) hM hZ w4 w3 hf hl) (g := mkF m pc Ls (argsL.reverse ++ rest)) rfl (by rw [hml]; exact hsz) (argsL := argsL) (rest := rest) (lenOf hpd hlen) rfl (by show 2 * 0 + _ ≤ _; omega) (hb hby hd) (fun _ _ => ⟨rfl, eT, hc, hsl⟩)
  dsimp only [Pt.U, Pt.locs, Pt.cells, Pt.slots] at X1 l1 y1 z1 st hQ
  subst l1 y1 z1
  exact of st (K T1 v Lc X1 hQ)
theorem callI (X : Stand p l e R s m args below meth c T locs cells slots) (C : Cx p s m meth c Z bytes maxL own mname ret) {y : MethodName} {i : Nat} {yb : ByteArray} {ym : Nat} (hy1 : y.name = "<init>") (w1 : (Jvm.Cond.methodLink own i y).before a0 Z = true) (w2 : (Jvm.Cond.instanceMethod y).before a0 Z = true) (w3 : (Jvm.Cond.initialized y.cls).before a0 Z = true) (w4 : (Jvm.Cond.code y yb ym none).before a0 Z = true) (hy : y.cls ≠ "java/lang/invoke/MethodHandle" ∧ y.cls ≠ "java/lang/invoke/VarHandle")
    {rm : Room} {as' : Array Value} {Q : Option Value → Heap → List Loc → Prop} (hM : MetFree l y (head1 [Jvm.Cond.code y yb ym none] rm) (fun a U => a = as' ∧ Z.Warmed39 U.vm ∧ U.heap = h) (fun _ _ _ _ _ => True) (fun _ U o U' => ∃ v L, o = .returned v ∧ Q v U'.heap L ∧ FrameEnd U o U' L rm.cells rm.slots))
    (eT : T.heap = h) (hd : decode bytes pc = .ok (.invokespecial i, 3)) {a : Addr} (argsL : List Value) (rest : List Value) (hS : S = argsL.reverse ++ .ref a :: rest) (has : as' = (.ref a :: argsL).toArray) {ps : List FieldType} {r : Option FieldType} (hpd : parseMethodDescriptor y.desc = some ⟨ps, r⟩) (hlen : argsL.length = ps.length) (hsz : Ls.size = maxL)
    (hf : rm.frames + 1 ≤ R.frames) (hl : (rest.map fun v => v.category).sum + (ym + 11) + rm.locals ≤ R.locals) (hc : cells + rm.cells ≤ R.cells) (hsl : slots + rm.slots ≤ R.slots) (hq : pc + 3 = q)
    (K : ∀ (T' : State) (v : Option Value) (L : List Loc), Stand p l e R s m args below meth c T' (locs ++ L) (cells + rm.cells) (slots + rm.slots) → Q v T'.heap L → Go p e below F (T'.setTop (mkF m q Ls (v.toList ++ rest)))) : Go p e below F (T.setTop (mkF m pc Ls S)) := by
  subst hq hS has
  obtain ⟨hx, hZ, hby, hml, hown, hnm, hret, hlk⟩ := C
  obtain ⟨v, _, ⟨T1, L1, k1, n1⟩, -, X1, ⟨Lc, hQ, l1, y1, z1⟩, st⟩ := X.specialBack hx hy1 hown (mvT hZ w1) (mvT hZ w2) (mvT hZ w4) hy (backOf (W := (rest.map fun v => v.category).sum) hM hZ w4 w3 hf hl) (g := mkF m pc Ls (argsL.reverse ++ .ref a :: rest)) rfl (by rw [hml]; exact hsz) (Steps.refl _) (a := a) (argsL := argsL) (rest := rest) (lenOf hpd hlen) rfl (by show 2 * 0 + _ ≤ _; omega) (hb hby hd) (fun _ _ => ⟨rfl, eT, hc, hsl⟩)
  dsimp only [Pt.U, Pt.locs, Pt.cells, Pt.slots] at X1 l1 y1 z1 st hQ
  subst l1 y1 z1
  exact tr st (K T1 v Lc X1 hQ)
theorem callV (X : Stand p l e R s m args below meth c T locs cells slots) (C : Cx p s m meth c Z bytes maxL own mname ret) {y z : MethodName} {i : Nat} {Cn : String} {yb : ByteArray} {ym : Nat} {yr : Option FieldType} (w1 : (Jvm.Cond.methodLink own i y).before a0 Z = true) (w2 : (Jvm.Cond.declares y).before a0 Z = true) (hnf : NotFace s y) (ws : (Jvm.Cond.selects Cn y z).before a0 Z = true) (wi : (Jvm.Cond.instanceMethod z).before a0 Z = true) (w3 : (Jvm.Cond.initialized z.cls).before a0 Z = true) (w4 : (Jvm.Cond.code z yb ym yr).before a0 Z = true) (hy : y.cls ≠ "java/lang/invoke/MethodHandle" ∧ y.cls ≠ "java/lang/invoke/VarHandle")
    {rm : Room} {as' : Array Value} {Q : Option Value → Heap → List Loc → Prop} (hM : MetFree l z (head1 [Jvm.Cond.code z yb ym yr] rm) (fun a U => a = as' ∧ Z.Warmed39 U.vm ∧ U.heap = h) (fun _ _ _ _ _ => True) (fun _ U o U' => ∃ v L, o = .returned v ∧ Q v U'.heap L ∧ FrameEnd U o U' L rm.cells rm.slots))
    (eT : T.heap = h) {a : Addr} (E : Exa Z h a Cn) (hd : decode bytes pc = .ok (.invokevirtual i, 3)) (argsL : List Value) (rest : List Value) (hS : S = argsL.reverse ++ .ref a :: rest) (has : as' = (.ref a :: argsL).toArray) {ps : List FieldType} {r : Option FieldType} (hpd : parseMethodDescriptor y.desc = some ⟨ps, r⟩) (hlen : argsL.length = ps.length) (hsz : Ls.size = maxL)
    (hf : rm.frames + 1 ≤ R.frames) (hl : (rest.map fun v => v.category).sum + (ym + 11) + rm.locals ≤ R.locals) (hc : cells + rm.cells ≤ R.cells) (hsl : slots + rm.slots ≤ R.slots) (hq : pc + 3 = q)
    (K : ∀ (T' : State) (v : Option Value) (L : List Loc), Stand p l e R s m args below meth c T' (locs ++ L) (cells + rm.cells) (slots + rm.slots) → Q v T'.heap L → Go p e below F (T'.setTop (mkF m q Ls (v.toList ++ rest)))) : Go p e below F (T.setTop (mkF m pc Ls S)) := by
  subst hq hS has
  obtain ⟨hx, hZ, hby, hml, hown, hnm, hret, hlk⟩ := C
  obtain ⟨cq, kq, qa, qb, qc⟩ := isOf hZ eT E
  obtain ⟨v, _, ⟨T1, L1, k1, n1⟩, -, X1, ⟨Lc, hQ, l1, y1, z1⟩, st⟩ := X.virtualBack hx hown (mvT hZ w1) (mvT hZ w2) hnf (mvT hZ ws) (mvT hZ wi) hy (backOf (W := (rest.map fun v => v.category).sum) hM hZ w4 w3 hf hl) qa qc (g := mkF m pc Ls (argsL.reverse ++ .ref a :: rest)) rfl (by rw [hml]; exact hsz) (Steps.refl _) (argsL := argsL) (rest := rest) (lenOf hpd hlen) rfl (by show 2 * 0 + _ ≤ _; omega) (hb hby hd) (fun _ _ => ⟨rfl, eT, hc, hsl⟩)
  dsimp only [Pt.U, Pt.locs, Pt.cells, Pt.slots] at X1 l1 y1 z1 st hQ
  subst l1 y1 z1
  exact tr st (K T1 v Lc X1 hQ)
theorem nf (C : Cx p s m meth c Z bytes maxL own mname ret) {Cn : String} {y : MethodName} (ws : (Jvm.Cond.selects Cn y y).before a0 Z = true) : NotFace s y := notFace_of_selects (args := #[]) (mvT C.2.1 ws)
/-! objects -/
theorem newO (X : Stand p l e R s m args below meth c T locs cells slots) (C : Cx p s m meth c Z bytes maxL own mname ret) {i n : Nat} {Cn : String} (w1 : (Jvm.Cond.classLink own i Cn).before a0 Z = true) (w2 : (Jvm.Cond.instantiable Cn n).before a0 Z = true) (w3 : (Jvm.Cond.initialized Cn).before a0 Z = true) (eT : T.heap = h) (hd : decode bytes pc = .ok (.new i, 3)) (hc : cells + 1 ≤ R.cells) (hl : slots + n ≤ R.slots) (hq : pc + 3 = q)
    (K : ∀ (T' : State) (h' : Heap) (b : Addr), Stand p l e R s m args below meth c T' locs (cells + 1) (slots + n) → T'.heap = h' → b = h.size → Ext h h' → Exa Z h' b Cn → (∀ {O nm d : String} {ty : FieldType}, Laid Z a0 Cn O nm d → parseFieldDescriptor d = some ty → Fld Z h' b O nm d (defaultValue ty)) → Go p e below F (T'.setTop (mkF m q Ls (.ref b :: S)))) : Go p e below F (T.setTop (mkF m pc Ls S)) := by
  subst hq
  obtain ⟨hx, hZ, hby, hml, hown, hnm, hret, hlk⟩ := C
  obtain ⟨T1, h1, X1, e1, E1, A1, D1, -, st⟩ := Jvm.RoadKit.newO X hx hZ hown w1 w2 w3 eT (g := mkF m pc Ls S) rfl (hb hby hd) hc hl
  exact of st (K T1 h1 _ X1 e1 rfl E1 A1 D1)
theorem getF (X : Stand p l e R s m args below meth c T locs cells slots) (C : Cx p s m meth c Z bytes maxL own mname ret) {i : Nat} {R0 O n d host : String} (w : (Jvm.Cond.fieldLink own i R0 n d).before a0 Z = true ∨ (Jvm.Cond.fieldLinkNest own i R0 n d host).before a0 Z = true) (via : Via Z R0 O n d) (eT : T.heap = h) {a : Addr} {v : Value} (F0 : Fld Z h a O n d v) (hd : decode bytes pc = .ok (.getfield i, 3)) (hq : pc + 3 = q)
    (K : ∀ (T' : State), Stand p l e R s m args below meth c T' locs cells slots → T'.heap = h → Go p e below F (T'.setTop (mkF m q Ls (v :: S)))) : Go p e below F (T.setTop (mkF m pc Ls (.ref a :: S))) := by
  subst hq
  obtain ⟨hx, hZ, hby, hml, hown, hnm, hret, hlk⟩ := C
  obtain ⟨T1, X1, e1, st⟩ := Jvm.RoadKit.getF X hx hZ hown w via eT F0 (g := mkF m pc Ls (.ref a :: S)) rfl rfl (hb hby hd)
  exact of st (K T1 X1 e1)
theorem putF (X : Stand p l e R s m args below meth c T locs cells slots) (C : Cx p s m meth c Z bytes maxL own mname ret) {i kk : Nat} {R0 O n d host Cn : String} {ty : FieldType} (w : (Jvm.Cond.fieldLink own i R0 n d).before a0 Z = true ∨ (Jvm.Cond.fieldLinkNest own i R0 n d host).before a0 Z = true) (via : Via Z R0 O n d) (eT : T.heap = h) {a : Addr} {v old : Value} (F0 : Fld Z h a O n d old) (E : Exa Z h a Cn) (L : (Jvm.Cond.lays Cn O n d).before a0 Z = true ∨ ((Jvm.Cond.laysFinal Cn O n d).before a0 Z = true ∧ own = O ∧ mname = "<init>")) (wi : (Jvm.Cond.instantiable Cn kk).before a0 Z = true) (hty : parseFieldDescriptor d = some ty) (hn : narrow ty v = v) (hf : fits ty v = true) (hd : decode bytes pc = .ok (.putfield i, 3)) (hq : pc + 3 = q)
    (K : ∀ (T' : State) (h' : Heap), Stand p l e R s m args below meth c T' (locs ++ [⟨a, Jvm.RoadKit.slotOf Z O n d⟩]) cells slots → T'.heap = h' → Wr h h' a (Jvm.RoadKit.slotOf Z O n d) v → Go p e below F (T'.setTop (mkF m q Ls S))) : Go p e below F (T.setTop (mkF m pc Ls (v :: .ref a :: S))) := by
  subst hq
  obtain ⟨hx, hZ, hby, hml, hown, hnm, hret, hlk⟩ := C
  obtain ⟨T1, h1, X1, e1, W1, st⟩ := Jvm.RoadKit.putF X hx hZ hown w via eT F0 E (L.imp id fun q => ⟨q.1, q.2.1, hnm.trans q.2.2⟩) wi hty hn hf (g := mkF m pc Ls (v :: .ref a :: S)) rfl rfl (hb hby hd)
  exact of st (K T1 h1 X1 e1 W1)
theorem getS (X : Stand p l e R s m args below meth c T locs cells slots) (C : Cx p s m meth c Z bytes maxL own mname ret) {i : Nat} {R0 O n d : String} (w : (Jvm.Cond.fieldLink own i R0 n d).before a0 Z = true) (via : Via Z R0 O n d) (eT : T.heap = h) {v : Value} (F0 : Sta Z h O n d v) (hd : decode bytes pc = .ok (.getstatic i, 3)) (hq : pc + 3 = q)
    (K : ∀ (T' : State), Stand p l e R s m args below meth c T' locs cells slots → T'.heap = h → Go p e below F (T'.setTop (mkF m q Ls (v :: S)))) : Go p e below F (T.setTop (mkF m pc Ls S)) := by
  subst hq
  obtain ⟨hx, hZ, hby, hml, hown, hnm, hret, hlk⟩ := C
  obtain ⟨T1, X1, e1, st⟩ := Jvm.RoadKit.getS X hx hZ hown (host := "") w via eT F0 (g := mkF m pc Ls S) rfl (hb hby hd)
  exact of st (K T1 X1 e1)
/-! arrays: Arv Z h a k ty n vs d -/
theorem inb {cl : Cell} {n j : Int32} (S : cl.slots.size = n.toNatClampNeg) (h1 : 0 ≤ j.toInt) (h2 : j.toInt < n.toInt) : ¬ (j < 0 ∨ cl.slots.size ≤ j.toNatClampNeg) := inb_of S ⟨by rw [Int32.lt_iff_toInt_lt]; have : (0 : Int32).toInt = 0 := rfl; omega, by rw [Int32.lt_iff_toInt_lt]; exact h2⟩
theorem iaload (X : Stand p l e R s m args below meth c T locs cells slots) (C : Cx p s m meth c Z bytes maxL own mname ret) (eT : T.heap = h) {a : Addr} {k : ClassId} {n j x : Int32} {vs : List Value} {d : Value} (V : Arv Z h a k .int n vs d) (h1 : 0 ≤ j.toInt) (h2 : j.toInt < n.toInt) (hv : vs.getD j.toNatClampNeg d = .int x) (hd : decode bytes pc = .ok (.iaload, 1)) (hq : pc + 1 = q) (K : Go p e below F (T.setTop (mkF m q Ls (.int x :: S)))) : Go p e below F (T.setTop (mkF m pc Ls (.int j :: .ref a :: S))) := by
  subst hq
  obtain ⟨cl, Ar, q1, S1, N1, H1, G1⟩ := V
  exact of (X.iaload C.1 (j := j) (v := .int x) (by rw [eT]; exact Ar.1) (State.isArrayOf_alike C.2.1.alike Ar.2.1) Ar.2.2 (inb S1 h1 h2) (Has.at H1 (inb S1 h1 h2) hv) (g := mkF m pc Ls (.int j :: .ref a :: S)) rfl rfl (hb C.2.2.1 hd)) K
theorem caload (X : Stand p l e R s m args below meth c T locs cells slots) (C : Cx p s m meth c Z bytes maxL own mname ret) (eT : T.heap = h) {a : Addr} {k : ClassId} {n j x : Int32} {vs : List Value} {d : Value} (V : Arv Z h a k .char n vs d) (h1 : 0 ≤ j.toInt) (h2 : j.toInt < n.toInt) (hv : vs.getD j.toNatClampNeg d = .int x) (hd : decode bytes pc = .ok (.caload, 1)) (hq : pc + 1 = q) (K : Go p e below F (T.setTop (mkF m q Ls (.int x :: S)))) : Go p e below F (T.setTop (mkF m pc Ls (.int j :: .ref a :: S))) := by
  subst hq
  obtain ⟨cl, Ar, q1, S1, N1, H1, G1⟩ := V
  exact of (X.caload C.1 (j := j) (v := .int x) (by rw [eT]; exact Ar.1) (State.isArrayOf_alike C.2.1.alike Ar.2.1) Ar.2.2 (inb S1 h1 h2) (Has.at H1 (inb S1 h1 h2) hv) (g := mkF m pc Ls (.int j :: .ref a :: S)) rfl rfl (hb C.2.2.1 hd)) K
theorem baload (X : Stand p l e R s m args below meth c T locs cells slots) (C : Cx p s m meth c Z bytes maxL own mname ret) (eT : T.heap = h) {a : Addr} {k : ClassId} {n j x : Int32} {vs : List Value} {d : Value} (V : Arv Z h a k .byte n vs d) (h1 : 0 ≤ j.toInt) (h2 : j.toInt < n.toInt) (hv : vs.getD j.toNatClampNeg d = .int x) (hd : decode bytes pc = .ok (.baload, 1)) (hq : pc + 1 = q) (K : Go p e below F (T.setTop (mkF m q Ls (.int x :: S)))) : Go p e below F (T.setTop (mkF m pc Ls (.int j :: .ref a :: S))) := by
  subst hq
  obtain ⟨cl, Ar, q1, S1, N1, H1, G1⟩ := V
  exact of (X.baloadBytes C.1 (j := j) (v := .int x) (by rw [eT]; exact Ar.1) (State.isArrayOf_alike C.2.1.alike Ar.2.1) Ar.2.2 (inb S1 h1 h2) (Has.at H1 (inb S1 h1 h2) hv) (g := mkF m pc Ls (.int j :: .ref a :: S)) rfl rfl (hb C.2.2.1 hd)) K
theorem aaload (X : Stand p l e R s m args below meth c T locs cells slots) (C : Cx p s m meth c Z bytes maxL own mname ret) (eT : T.heap = h) {a : Addr} {k : ClassId} {n j : Int32} {x : Value} {vs : List Value} {d : Value} {ty : FieldType} (hty : ty.isReference = true) (V : Arv Z h a k ty n vs d) (h1 : 0 ≤ j.toInt) (h2 : j.toInt < n.toInt) (hv : vs.getD j.toNatClampNeg d = x) (hd : decode bytes pc = .ok (.aaload, 1)) (hq : pc + 1 = q) (K : Go p e below F (T.setTop (mkF m q Ls (x :: S)))) : Go p e below F (T.setTop (mkF m pc Ls (.int j :: .ref a :: S))) := by
  subst hq
  obtain ⟨cl, Ar, q1, S1, N1, H1, G1⟩ := V
  exact of (X.aaload C.1 (j := j) (v := x) (by rw [eT]; exact Ar.1) (State.isArrayOf_alike C.2.1.alike Ar.2.1) hty Ar.2.2 (inb S1 h1 h2) (Has.at H1 (inb S1 h1 h2) hv) (g := mkF m pc Ls (.int j :: .ref a :: S)) rfl rfl (hb C.2.2.1 hd)) K
theorem aaloadC (X : Stand p l e R s m args below meth c T locs cells slots) (C : Cx p s m meth c Z bytes maxL own mname ret) (eT : T.heap = h) {a : Addr} {cl : Cell} {j : Int32} {x : Value} {ty : FieldType} (hty : ty.isReference = true) (Ar : Arr Z h a cl ty) (hin : ¬ (j < 0 ∨ cl.slots.size ≤ j.toNatClampNeg)) (hat : cl.slots[j.toNatClampNeg]? = some x) (hd : decode bytes pc = .ok (.aaload, 1)) (hq : pc + 1 = q) (K : Go p e below F (T.setTop (mkF m q Ls (x :: S)))) : Go p e below F (T.setTop (mkF m pc Ls (.int j :: .ref a :: S))) := by
  subst hq
  exact of (X.aaload C.1 (j := j) (v := x) (by rw [eT]; exact Ar.1) (State.isArrayOf_alike C.2.1.alike Ar.2.1) hty Ar.2.2 hin hat (g := mkF m pc Ls (.int j :: .ref a :: S)) rfl rfl (hb C.2.2.1 hd)) K
theorem arraylength (X : Stand p l e R s m args below meth c T locs cells slots) (C : Cx p s m meth c Z bytes maxL own mname ret) (eT : T.heap = h) {a : Addr} {k : ClassId} {n : Int32} {vs : List Value} {d : Value} {ty : FieldType} (V : Arv Z h a k ty n vs d) (hd : decode bytes pc = .ok (.arraylength, 1)) (hq : pc + 1 = q) (K : Go p e below F (T.setTop (mkF m q Ls (.int n :: S)))) : Go p e below F (T.setTop (mkF m pc Ls (.ref a :: S))) := by
  subst hq
  obtain ⟨cl, Ar, q1, S1, N1, H1, G1⟩ := V
  refine of (X.arraylength C.1 (by rw [eT]; exact Ar.1) (State.isArrayOf_alike C.2.1.alike Ar.2.1) (g := mkF m pc Ls (.ref a :: S)) rfl rfl (hb C.2.2.1 hd)) ?_
  rw [len_of S1 N1]
  exact K
theorem iastore (X : Stand p l e R s m args below meth c T locs cells slots) (C : Cx p s m meth c Z bytes maxL own mname ret) (eT : T.heap = h) {a : Addr} {k : ClassId} {n j x : Int32} {vs : List Value} {d : Value} (V : Arv Z h a k .int n vs d) (h1 : 0 ≤ j.toInt) (h2 : j.toInt < n.toInt) (hlen : j.toNatClampNeg < vs.length) (hd : decode bytes pc = .ok (.iastore, 1)) (hq : pc + 1 = q)
    (K : ∀ (T' : State) (h' : Heap), Stand p l e R s m args below meth c T' (locs ++ [⟨a, j.toNatClampNeg⟩]) cells slots → T'.heap = h' → Wr h h' a j.toNatClampNeg (.int x) → Arv Z h' a k .int n (vs.set j.toNatClampNeg (.int x)) d → Go p e below F (T'.setTop (mkF m q Ls S))) : Go p e below F (T.setTop (mkF m pc Ls (.int x :: .int j :: .ref a :: S))) := by
  subst hq
  obtain ⟨cl, Ar, q1, S1, N1, H1, G1⟩ := V
  obtain ⟨T1, h1', X1, e1, W1, st⟩ := stI X C.1 C.2.1 eT Ar (j := j) (inb S1 h1 h2) (g := mkF m pc Ls (.int x :: .int j :: .ref a :: S)) rfl rfl (hb C.2.2.1 hd)
  exact of st (K T1 h1' X1 e1 W1 (Arv.set Ar q1 S1 N1 H1 G1 rfl W1 _ rfl hlen))
theorem castore (X : Stand p l e R s m args below meth c T locs cells slots) (C : Cx p s m meth c Z bytes maxL own mname ret) (eT : T.heap = h) {a : Addr} {k : ClassId} {n j x : Int32} {vs : List Value} {d : Value} (V : Arv Z h a k .char n vs d) (h1 : 0 ≤ j.toInt) (h2 : j.toInt < n.toInt) (hlen : j.toNatClampNeg < vs.length) (hd : decode bytes pc = .ok (.castore, 1)) (hq : pc + 1 = q)
    (K : ∀ (T' : State) (h' : Heap), Stand p l e R s m args below meth c T' (locs ++ [⟨a, j.toNatClampNeg⟩]) cells slots → T'.heap = h' → Wr h h' a j.toNatClampNeg (.int (nar .char x)) → Arv Z h' a k .char n (vs.set j.toNatClampNeg (.int (nar .char x))) d → Go p e below F (T'.setTop (mkF m q Ls S))) : Go p e below F (T.setTop (mkF m pc Ls (.int x :: .int j :: .ref a :: S))) := by
  subst hq
  obtain ⟨cl, Ar, q1, S1, N1, H1, G1⟩ := V
  obtain ⟨T1, h1', X1, e1, W1, st⟩ := stC X C.1 C.2.1 eT Ar (j := j) (inb S1 h1 h2) (g := mkF m pc Ls (.int x :: .int j :: .ref a :: S)) rfl rfl (hb C.2.2.1 hd)
  exact of st (K T1 h1' X1 e1 W1 (Arv.set Ar q1 S1 N1 H1 G1 (fits_nar_char _) W1 _ rfl hlen))
theorem bastore (X : Stand p l e R s m args below meth c T locs cells slots) (C : Cx p s m meth c Z bytes maxL own mname ret) (eT : T.heap = h) {a : Addr} {k : ClassId} {n j x : Int32} {vs : List Value} {d : Value} (V : Arv Z h a k .byte n vs d) (h1 : 0 ≤ j.toInt) (h2 : j.toInt < n.toInt) (hlen : j.toNatClampNeg < vs.length) (hd : decode bytes pc = .ok (.bastore, 1)) (hq : pc + 1 = q)
    (K : ∀ (T' : State) (h' : Heap), Stand p l e R s m args below meth c T' (locs ++ [⟨a, j.toNatClampNeg⟩]) cells slots → T'.heap = h' → Wr h h' a j.toNatClampNeg (.int x.toInt8.toInt32) → Arv Z h' a k .byte n (vs.set j.toNatClampNeg (.int x.toInt8.toInt32)) d → Go p e below F (T'.setTop (mkF m q Ls S))) : Go p e below F (T.setTop (mkF m pc Ls (.int x :: .int j :: .ref a :: S))) := by
  subst hq
  obtain ⟨cl, Ar, q1, S1, N1, H1, G1⟩ := V
  obtain ⟨T1, h1', X1, e1, W1, st⟩ := stB X C.1 C.2.1 eT Ar (j := j) (inb S1 h1 h2) (g := mkF m pc Ls (.int x :: .int j :: .ref a :: S)) rfl rfl (hb C.2.2.1 hd)
  exact of st (K T1 h1' X1 e1 W1 (Arv.set Ar q1 S1 N1 H1 G1 (fits_nar_byte _) W1 _ rfl hlen))
theorem aastore (X : Stand p l e R s m args below meth c T locs cells slots) (C : Cx p s m meth c Z bytes maxL own mname ret) (eT : T.heap = h) {a : Addr} {k : ClassId} {n j : Int32} {x : Value} {vs : List Value} {d : Value} {ty : FieldType} (hty : ty.isReference = true) (hf : fits ty x = true) (V : Arv Z h a k ty n vs d) (hs : ∀ cl, Arr Z h a cl ty → cl.cls = k → Sto Z h a x) (h1 : 0 ≤ j.toInt) (h2 : j.toInt < n.toInt) (hlen : j.toNatClampNeg < vs.length) (hd : decode bytes pc = .ok (.aastore, 1)) (hq : pc + 1 = q)
    (K : ∀ (T' : State) (h' : Heap), Stand p l e R s m args below meth c T' (locs ++ [⟨a, j.toNatClampNeg⟩]) cells slots → T'.heap = h' → Wr h h' a j.toNatClampNeg x → Arv Z h' a k ty n (vs.set j.toNatClampNeg x) d → Go p e below F (T'.setTop (mkF m q Ls S))) : Go p e below F (T.setTop (mkF m pc Ls (x :: .int j :: .ref a :: S))) := by
  subst hq
  obtain ⟨cl, Ar, q1, S1, N1, H1, G1⟩ := V
  obtain ⟨T1, h1', X1, e1, W1, st⟩ := stR X C.1 C.2.1 eT Ar (j := j) (inb S1 h1 h2) hty (hs cl Ar q1) (g := mkF m pc Ls (x :: .int j :: .ref a :: S)) rfl rfl (hb C.2.2.1 hd)
  exact of st (K T1 h1' X1 e1 W1 (Arv.set Ar q1 S1 N1 H1 G1 hf W1 _ rfl hlen))
theorem newarray (X : Stand p l e R s m args below meth c T locs cells slots) (C : Cx p s m meth c Z bytes maxL own mname ret) {aty : ArrayType} (w : (Jvm.Cond.arrayClass (newarray.typeOf aty)).before a0 Z = true) (eT : T.heap = h) {n : Int32} (hn : 0 ≤ n.toInt) (cap : Nat) (hcap : n.toInt ≤ cap) (hb8 : cap * 8 ≤ 536870912) (hd : decode bytes pc = .ok (.newarray aty, 2)) (hc : cells + 1 ≤ R.cells) (hl : slots + cap ≤ R.slots) (hq : pc + 2 = q)
    (K : ∀ (T' : State) (h' : Heap) (b : Addr) (k : ClassId), Stand p l e R s m args below meth c T' locs (cells + 1) (slots + cap) → T'.heap = h' → b = h.size → Ext h h' → Arv Z h' b k (newarray.typeOf aty) n (List.replicate cap (defaultValue (newarray.typeOf aty))) (defaultValue (newarray.typeOf aty)) → Go p e below F (T'.setTop (mkF m q Ls (.ref b :: S)))) : Go p e below F (T.setTop (mkF m pc Ls (.int n :: S))) := by
  subst hq
  have hn' : ¬ n < 0 := by rw [Int32.lt_iff_toInt_lt]; have : (0 : Int32).toInt = 0 := rfl; omega
  obtain ⟨T1, h1, k1, X1, e1, E1, A1, st⟩ := newP X C.1 C.2.1 w eT (g := mkF m pc Ls (.int n :: S)) rfl (hb C.2.2.1 hd) rfl hn' (cap := cap) (by simp only [Int32.toNatClampNeg]; omega) hb8 hc hl
  exact of st (K T1 h1 _ k1 X1 e1 rfl E1 ((Arv.new A1 hn').pad (pad_rep [] _ cap)))
theorem anewarray (X : Stand p l e R s m args below meth c T locs cells slots) (C : Cx p s m meth c Z bytes maxL own mname ret) {i : Nat} {Cn : String} (w1 : (Jvm.Cond.classLink own i Cn).before a0 Z = true) (w2 : (Jvm.Cond.arrayOver (.object Cn)).before a0 Z = true) (eT : T.heap = h) {n : Int32} (hn : 0 ≤ n.toInt) (cap : Nat) (hcap : n.toInt ≤ cap) (hb8 : cap * 8 ≤ 536870912) (hd : decode bytes pc = .ok (.anewarray i, 3)) (hc : cells + 1 ≤ R.cells) (hl : slots + cap ≤ R.slots) (hq : pc + 3 = q)
    (K : ∀ (T' : State) (h' : Heap) (b : Addr) (k : ClassId), Stand p l e R s m args below meth c T' locs (cells + 1) (slots + cap) → T'.heap = h' → b = h.size → Ext h h' → Ovr Z k Cn → Arv Z h' b k (.object Cn) n (List.replicate cap .null) .null → Go p e below F (T'.setTop (mkF m q Ls (.ref b :: S)))) : Go p e below F (T.setTop (mkF m pc Ls (.int n :: S))) := by
  subst hq
  have hn' : ¬ n < 0 := by rw [Int32.lt_iff_toInt_lt]; have : (0 : Int32).toInt = 0 := rfl; omega
  obtain ⟨T1, h1, k1, X1, e1, E1, A1, O1, st⟩ := newR X C.1 C.2.1 C.2.2.2.2.1 w1 w2 eT (g := mkF m pc Ls (.int n :: S)) rfl (hb C.2.2.1 hd) rfl hn' (cap := cap) (by simp only [Int32.toNatClampNeg]; omega) hb8 hc hl
  exact of st (K T1 h1 _ k1 X1 e1 rfl E1 O1 ((Arv.new A1 hn').pad (pad_rep [] _ cap)))
theorem keepRefl (h : Heap) : Keep h h [] := Keep.refl h []
/-! kinds of objects -/
theorem nsRoot {O Kn : String} {n : Nat} (w : (Jvm.Cond.noSuperclass O).before a0 Z = true) (wi : (Jvm.Cond.instantiable Kn n).before a0 Z = true) (hn : O ≠ Kn) : NS Z O Kn := by
  obtain ⟨c, k, h1, h2, h3, -, -⟩ := Cond.noSuperclass_spec w
  obtain ⟨t, k2, g1, -⟩ := Cond.instantiable_spec wi
  have ne := ids_ne h1 g1 hn
  refine ⟨c, t, h1, g1, fun fuel => ?_⟩
  cases fuel with
  | zero => rfl
  | succ f => simp [Vm.isSubclassAux, ne, h2, h3]
theorem nsNo {Cn S Kn : String} {n : Nat} (w : (Jvm.Cond.superclass Cn S).before a0 Z = true) (wi : (Jvm.Cond.instantiable Kn n).before a0 Z = true) (nn : NS Z Cn Kn) (hn : Cn ≠ Kn) : ∃ c t, Z.vm.findClass Cn = some c ∧ Z.vm.findClass Kn = some t ∧ Z.vm.assignable c t = false := by
  obtain ⟨c, t, h0, g0, n3⟩ := nn
  obtain ⟨p, k, kp, h1, h2, h3, h4, h5, -, h7⟩ := Cond.superclass_spec h0 w
  obtain ⟨t', k', g1, g2, g5, g6, -⟩ := Cond.instantiable_spec wi
  cases g0.symm.trans g1
  have g7 : k'.isInterface = false := (Bool.or_eq_false_iff.mp g6).1
  have ne := ids_ne h0 g0 hn
  refine ⟨c, t, h0, g0, ?_⟩
  show Z.vm.assignableAux (255 + 1) c t = false
  simp [Vm.assignableAux, ne, h2, g2, h5, g5, g7, Vm.isSubclass, n3]
theorem cast (X : Stand p l e R s m args below meth c T locs cells slots) (C : Cx p s m meth c Z bytes maxL own mname ret) {i : Nat} {Kn : String} (w : (Jvm.Cond.classLink own i Kn).before a0 Z = true) (eT : T.heap = h) {a : Addr} (I : Ins Z h a Kn true) (hd : decode bytes pc = .ok (.checkcast i, 3)) (hq : pc + 3 = q)
    (K : ∀ (T' : State), Stand p l e R s m args below meth c T' locs cells slots → T'.heap = h → Go p e below F (T'.setTop (mkF m q Ls (.ref a :: S)))) : Go p e below F (T.setTop (mkF m pc Ls (.ref a :: S))) := by
  subst hq
  obtain ⟨T1, X1, e1, st⟩ := castY X C.1 C.2.1 C.2.2.2.2.1 w eT I (g := mkF m pc Ls (.ref a :: S)) rfl rfl (hb C.2.2.1 hd)
  exact of st (K T1 X1 e1)
theorem inst1 (X : Stand p l e R s m args below meth c T locs cells slots) (C : Cx p s m meth c Z bytes maxL own mname ret) {i : Nat} {Kn : String} (w : (Jvm.Cond.classLink own i Kn).before a0 Z = true) (eT : T.heap = h) {a : Addr} (I : Ins Z h a Kn true) (hd : decode bytes pc = .ok (.instanceof i, 3)) (hq : pc + 3 = q)
    (K : ∀ (T' : State), Stand p l e R s m args below meth c T' locs cells slots → T'.heap = h → Go p e below F (T'.setTop (mkF m q Ls (.int 1 :: S)))) : Go p e below F (T.setTop (mkF m pc Ls (.ref a :: S))) := by
  subst hq
  obtain ⟨T1, X1, e1, st⟩ := instY X C.1 C.2.1 C.2.2.2.2.1 w eT I (g := mkF m pc Ls (.ref a :: S)) rfl rfl (hb C.2.2.1 hd)
  exact of st (K T1 X1 e1)
theorem inst0 (X : Stand p l e R s m args below meth c T locs cells slots) (C : Cx p s m meth c Z bytes maxL own mname ret) {i : Nat} {Kn Cn : String} (w : (Jvm.Cond.classLink own i Kn).before a0 Z = true) (eT : T.heap = h) {a : Addr} (E : Exa Z h a Cn) (N : ∃ c t, Z.vm.findClass Cn = some c ∧ Z.vm.findClass Kn = some t ∧ Z.vm.assignable c t = false) (hd : decode bytes pc = .ok (.instanceof i, 3)) (hq : pc + 3 = q)
    (K : ∀ (T' : State), Stand p l e R s m args below meth c T' locs cells slots → T'.heap = h → Go p e below F (T'.setTop (mkF m q Ls (.int 0 :: S)))) : Go p e below F (T.setTop (mkF m pc Ls (.ref a :: S))) := by
  subst hq
  obtain ⟨T1, X1, e1, st⟩ := instNo X C.1 C.2.1 C.2.2.2.2.1 w eT E N (g := mkF m pc Ls (.ref a :: S)) rfl rfl (hb C.2.2.1 hd)
  exact of st (K T1 X1 e1)
theorem instNull (X : Stand p l e R s m args below meth c T locs cells slots) (C : Cx p s m meth c Z bytes maxL own mname ret) {i : Nat} (hd : decode bytes pc = .ok (.instanceof i, 3)) (hq : pc + 3 = q) (K : Go p e below F (T.setTop (mkF m q Ls (.int 0 :: S)))) : Go p e below F (T.setTop (mkF m pc Ls (.null :: S))) := by
  subst hq; exact of (X.instanceofNull C.1 (g := mkF m pc Ls (.null :: S)) rfl rfl (hb C.2.2.1 hd)) K
theorem castNull (X : Stand p l e R s m args below meth c T locs cells slots) (C : Cx p s m meth c Z bytes maxL own mname ret) {i : Nat} (hd : decode bytes pc = .ok (.checkcast i, 3)) (hq : pc + 3 = q) (K : Go p e below F (T.setTop (mkF m q Ls (.null :: S)))) : Go p e below F (T.setTop (mkF m pc Ls (.null :: S))) := by
  subst hq; exact of (X.checkcastNull C.1 (g := mkF m pc Ls (.null :: S)) rfl rfl (hb C.2.2.1 hd)) K
theorem acmp (X : Stand p l e R s m args below meth c T locs cells slots) (C : Cx p s m meth c Z bytes maxL own mname ret) {cd : ACond} {o : Int} {x y : Value} (h1 : x.isRef = true) (h2 : y.isRef = true) {same : Bool} (hs : decide (x = y) = same) (hd : decode bytes pc = .ok (.if_acmp cd o, 3)) (ho : 0 ≤ (pc : Int) + o) (hq : q = if acV cd same = true then ((pc : Int) + o).toNat else pc + 3) (K : Go p e below F (T.setTop (mkF m q Ls S))) : Go p e below F (T.setTop (mkF m pc Ls (y :: x :: S))) :=
  of (fun t k => Jvm.RoadKit.acmp (g := mkF m pc Ls (y :: x :: S)) X C.1 rfl h1 h2 rfl (hb C.2.2.1 hd) rfl hs ho hq k) K
end
end W
end Jvm.Pilot.@@N@@
namespace Jvm.Pilot.@@N@@
open Jvm Jvm.ClassFile Sem Op Lib Jvm.Free Jvm.Stand Jvm.LawKit Jvm.RoadKit Bundle Jvm.Pilot.@@N@@.Jvm.D
def own_lab (i k f : Int32) : Int32 := if f = 0 then (i + k) % (5 : Int32) else (4 : Int32) - (i + k) % (5 : Int32)
def own_g (l : List Int32) (j : Int32) : Int32 := l.getD j.toNatClampNeg 0
def own_s (l : List Int32) (j x : Int32) : List Int32 := l.set j.toNatClampNeg x
def own_vs (l : List Int32) : List Value := l.map Value.int
def own_in (j : Int32) : Prop := 0 ≤ j.toInt ∧ j.toInt < (5 : Int32).toInt
def own_ok (l : List Int32) : Prop := l.length = 5 ∧ ∀ x ∈ l, own_in x
instance (j : Int32) : Decidable (own_in j) := inferInstanceAs (Decidable (_ ∧ _))
instance (l : List Int32) : Decidable (own_ok l) := inferInstanceAs (Decidable (_ ∧ _))
theorem own_nat {j : Int32} (h : own_in j) : j.toNatClampNeg < 5 := by
  obtain ⟨h1, h2⟩ := h
  have : (5 : Int32).toInt = 5 := rfl
  simp only [Int32.toNatClampNeg]; omega
theorem own_len {l : List Int32} {j : Int32} (h : own_ok l) (hj : own_in j) : j.toNatClampNeg < (own_vs l).length := by
  rw [own_vs, List.length_map, h.1]; exact own_nat hj
theorem own_get {l : List Int32} {j : Int32} (h : own_ok l) (hj : own_in j) : (own_vs l).getD j.toNatClampNeg (.int (0 : Int32)) = .int (own_g l j) := by
  have q : j.toNatClampNeg < l.length := by rw [h.1]; exact own_nat hj
  simp [own_vs, own_g, List.getD, q]
theorem own_g_in {l : List Int32} {j : Int32} (h : own_ok l) (hj : own_in j) : own_in (own_g l j) := by
  have q : j.toNatClampNeg < l.length := by rw [h.1]; exact own_nat hj
  have e : own_g l j = l[j.toNatClampNeg] := by simp [own_g, List.getD, q]
  rw [e]; exact h.2 _ (List.getElem_mem q)
theorem own_set (l : List Int32) (j x : Int32) : (own_vs l).set j.toNatClampNeg (.int x) = own_vs (own_s l j x) := by simp [own_vs, own_s, List.map_set]
theorem own_s_ok {l : List Int32} {j x : Int32} (h : own_ok l) (hx : own_in x) : own_ok (own_s l j x) := by
  refine ⟨by rw [own_s, List.length_set]; exact h.1, fun y hy => ?_⟩
  rcases List.mem_or_eq_of_mem_set hy with q | q
  · exact h.2 y q
  · rw [q]; exact hx
def own_root : Nat → List Int32 → Int32 → Option (List Int32 × Int32)
  | 0, _, _ => none
  | n + 1, l, x => if own_g l x = x then some (l, x) else own_root n (own_s l x (own_g l (own_g l x))) (own_g (own_s l x (own_g l (own_g l x))) x)
theorem own_root0 (l : List Int32) (x : Int32) : own_root 0 l x = none := rfl
theorem own_rootS (n : Nat) (l : List Int32) (x : Int32) : own_root (n + 1) l x = if own_g l x = x then some (l, x) else own_root n (own_s l x (own_g l (own_g l x))) (own_g (own_s l x (own_g l (own_g l x))) x) := rfl
def own_entry (q o : List Int32) (s b j : Int32) : Int32 := if own_g q j = (if j = s ∨ j = b then own_g o (own_g o j) else own_g o j) then 1 else 0
def own_q (p1 p2 p3 p4 k f : Int32) : List Int32 := own_s (own_s (own_s (own_s (own_s [0, 0, 0, 0, 0] (own_lab 0 k f) (own_lab 0 k f)) (own_lab 1 k f) (own_lab p1 k f)) (own_lab 2 k f) (own_lab p2 k f)) (own_lab 3 k f) (own_lab p3 k f)) (own_lab 4 k f) (own_lab p4 k f)
def own_o (q : List Int32) : List Int32 := [own_g q 0, own_g q 1, own_g q 2, own_g q 3, own_g q 4]
def own_chk (p1 p2 p3 p4 k f s : Int32) : Bool :=
  let q := own_q p1 p2 p3 p4 k f
  let o := own_o q
  let b := own_g o (own_g o s)
  match own_root 6 q s with
  | none => false
  | some (q', r) => (r == own_g o (own_g o (own_g o (own_g o s)))) && (own_entry q' o s b 0 == 1) && (own_entry q' o s b 1 == 1) && (own_entry q' o s b 2 == 1) && (own_entry q' o s b 3 == 1) && (own_entry q' o s b 4 == 1)
def own_lin (i k : Int32) : Bool := decide (own_in (own_lab i k 0)) && decide (own_in (own_lab i k 1))
theorem own_lin_all : ∀ i : Fin 5, ∀ k : Fin 5, own_lin (Int32.ofInt (i.1 : Int)) (Int32.ofInt (k.1 : Int)) = true := by decide +kernel
theorem own_i5 : (5 : Int32).toInt = 5 := rfl
theorem own_lab_in {i k f : Int32} (hi : own_in i) (hk : own_in k) (hf : f = 0 ∨ f = 1) : own_in (own_lab i k f) := by
  have q : own_lin i k = true := by
    refine W.small (P := fun i => own_lin i k = true) 4 (fun a => ?_) i hi.1 (by have := hi.2; rw [own_i5] at this; omega)
    exact W.small (P := fun k => own_lin (Int32.ofInt (a.1 : Int)) k = true) 4 (fun b => own_lin_all a b) k hk.1 (by have := hk.2; rw [own_i5] at this; omega)
  rw [own_lin, Bool.and_eq_true, decide_eq_true_eq, decide_eq_true_eq] at q
  rcases hf with rfl | rfl
  · exact q.1
  · exact q.2
def own_fz (i : Fin 2) : Int32 := Int32.ofInt (i.1 : Int)
set_option maxRecDepth 65536 in
set_option maxHeartbeats 40000000 in
theorem own_chk_all : ∀ p1 : Fin 2, ∀ p2 : Fin 3, ∀ p3 : Fin 4, ∀ p4 : Fin 5, ∀ k : Fin 5, ∀ f : Fin 2, ∀ s : Fin 5, own_chk (Int32.ofInt (p1.1 : Int)) (Int32.ofInt (p2.1 : Int)) (Int32.ofInt (p3.1 : Int)) (Int32.ofInt (p4.1 : Int)) (Int32.ofInt (k.1 : Int)) (Int32.ofInt (f.1 : Int)) (Int32.ofInt (s.1 : Int)) = true := by decide +kernel
theorem own_chk_of {p1 p2 p3 p4 k f s : Int32} (h1 : 0 ≤ p1.toInt ∧ p1.toInt < 2) (h2 : 0 ≤ p2.toInt ∧ p2.toInt < 3) (h3 : 0 ≤ p3.toInt ∧ p3.toInt < 4) (h4 : own_in p4) (h5 : own_in k) (h6 : f = 0 ∨ f = 1) (h7 : own_in s) : own_chk p1 p2 p3 p4 k f s = true := by
  refine W.small (P := fun p1 => own_chk p1 p2 p3 p4 k f s = true) 1 (fun a1 => ?_) p1 h1.1 (by omega)
  refine W.small (P := fun p2 => own_chk _ p2 p3 p4 k f s = true) 2 (fun a2 => ?_) p2 h2.1 (by omega)
  refine W.small (P := fun p3 => own_chk _ _ p3 p4 k f s = true) 3 (fun a3 => ?_) p3 h3.1 (by omega)
  refine W.small (P := fun p4 => own_chk _ _ _ p4 k f s = true) 4 (fun a4 => ?_) p4 h4.1 (by have := h4.2; rw [own_i5] at this; omega)
  refine W.small (P := fun k => own_chk _ _ _ _ k f s = true) 4 (fun a5 => ?_) k h5.1 (by have := h5.2; rw [own_i5] at this; omega)
  refine W.small (P := fun s => own_chk _ _ _ _ _ f s = true) 4 (fun a7 => ?_) s h7.1 (by have := h7.2; rw [own_i5] at this; omega)
  rcases h6 with rfl | rfl
  · exact own_chk_all a1 a2 a3 a4 a5 0 a7
  · exact own_chk_all a1 a2 a3 a4 a5 1 a7
theorem own_fin {p1 p2 p3 p4 k f s : Int32} {q : List Int32} (hq : own_q p1 p2 p3 p4 k f = q) (h : own_chk p1 p2 p3 p4 k f s = true) : ∃ q' r, own_root 6 q s = some (q', r) ∧ r = own_g (own_o q) (own_g (own_o q) (own_g (own_o q) (own_g (own_o q) s))) ∧ own_entry q' (own_o q) s (own_g (own_o q) (own_g (own_o q) s)) 0 = 1 ∧ own_entry q' (own_o q) s (own_g (own_o q) (own_g (own_o q) s)) 1 = 1 ∧ own_entry q' (own_o q) s (own_g (own_o q) (own_g (own_o q) s)) 2 = 1 ∧ own_entry q' (own_o q) s (own_g (own_o q) (own_g (own_o q) s)) 3 = 1 ∧ own_entry q' (own_o q) s (own_g (own_o q) (own_g (own_o q) s)) 4 = 1 := by
  simp only [own_chk, hq] at h
  cases hr : own_root 6 q s with
  | none => rw [hr] at h; cases h
  | some w =>
    obtain ⟨q', r⟩ := w
    rw [hr] at h
    simp only [Bool.and_eq_true, beq_iff_eq] at h
    obtain ⟨⟨⟨⟨⟨a1, a2⟩, a3⟩, a4⟩, a5⟩, a6⟩ := h
    exact ⟨q', r, rfl, a1, a2, a3, a4, a5, a6⟩
theorem own_root_ok : ∀ (n : Nat) (l : List Int32) (x : Int32) (l' : List Int32) (r : Int32), own_ok l → own_in x → own_root n l x = some (l', r) → own_ok l'
  | 0, _, _, _, _, _, _, h => by rw [own_root0] at h; cases h
  | n + 1, l, x, l', r, h1, h2, h => by
    rw [own_rootS] at h
    split at h
    · cases h; exact h1
    · exact own_root_ok n _ _ l' r (own_s_ok h1 (own_g_in h1 (own_g_in h1 h2))) (own_g_in (own_s_ok h1 (own_g_in h1 (own_g_in h1 h2))) h2) h
theorem own_rem (x v y : Int32) (n : Int) (hn : y.toInt = n) (hp : 0 < n) (h : ((x &&& (2147483647 : Int32)) % y) = v) : 0 ≤ v.toInt ∧ v.toInt < n := by
  have a1 := c_mask x 2147483647 31 (by decide) (by decide)
  have a2 := (c_irem (x &&& 2147483647) y n hn).1 (by omega)
  rw [h] at a2
  have := Int.emod_nonneg (x &&& 2147483647).toInt (show n ≠ 0 by omega)
  have := Int.emod_lt_of_pos (x &&& 2147483647).toInt hp
  omega
theorem d1_0 : decode method_2_code 0 = .ok (.iload_n 0, 1) := by decide +kernel
theorem d1_1 : decode method_2_code 1 = .ok (.iload_n 1, 1) := by decide +kernel
theorem d1_2 : decode method_2_code 2 = .ok (.iadd, 1) := by decide +kernel
theorem d1_3 : decode method_2_code 3 = .ok (.iconst 5, 1) := by decide +kernel
theorem d1_4 : decode method_2_code 4 = .ok (.irem, 1) := by decide +kernel
theorem d1_5 : decode method_2_code 5 = .ok (.istore_n 3, 1) := by decide +kernel
theorem d1_6 : decode method_2_code 6 = .ok (.iload_n 2, 1) := by decide +kernel
theorem d1_7 : decode method_2_code 7 = .ok (.ifCond .eq 9, 3) := by decide +kernel
theorem d1_16 : decode method_2_code 16 = .ok (.iload_n 3, 1) := by decide +kernel
theorem d1_17 : decode method_2_code 17 = .ok (.ireturn, 1) := by decide +kernel
theorem d1_10 : decode method_2_code 10 = .ok (.iconst 4, 1) := by decide +kernel
theorem d1_11 : decode method_2_code 11 = .ok (.iload_n 3, 1) := by decide +kernel
theorem d1_12 : decode method_2_code 12 = .ok (.isub, 1) := by decide +kernel
theorem d1_13 : decode method_2_code 13 = .ok (.goto 4, 3) := by decide +kernel
theorem pn_com_example_routeloom_routeloom_ConstraintsRootPinLaw : plainName "com/example/routeloom/routeloom/ConstraintsRootPinLaw" = true := by first | (simp [plainName, overriddenIn]; done) | decide +kernel
def Q1 (Z : State) (p0 p1 p2 : Int32) (h0 : Heap) (n0 : Nat) (v : Option Value) (h : Heap) (L : List Loc) : Prop := v = some (.int (own_lab p0 p1 p2)) ∧ Fr n0 L ∧ h = h0
set_option maxRecDepth 65536 in
set_option maxHeartbeats 40000000 in
theorem rm1 (l : Launch) (Z : State) (a0 : Array Value) (hw : ∀ d ∈ tables_1, d.before a0 Z = true) (ws : List Jvm.Cond) (p0 p1 p2 : Int32) (h0 : Heap) (n0 : Nat) :
    MetFree l (⟨"com/example/routeloom/routeloom/ConstraintsRootPinLaw", "lab", "(IIZ)I"⟩ : MethodName) (head1 (Jvm.Cond.code (⟨"com/example/routeloom/routeloom/ConstraintsRootPinLaw", "lab", "(IIZ)I"⟩ : MethodName) method_2_code 4 (some .int) :: ws) ({ frames := 0, cells := 0, slots := 0, locals := 0 } : Room)) (fun a U => a = #[(.int p0), (.int p1), (.int p2)] ∧ Z.Warmed39 U.vm ∧ U.heap = h0) (fun _ _ _ _ _ => True) (fun _ U o U' => ∃ v L, o = .returned v ∧ Q1 Z p0 p1 p2 h0 n0 v U'.heap L ∧ FrameEnd U o U' L ({ frames := 0, cells := 0, slots := 0, locals := 0 } : Room).cells ({ frames := 0, cells := 0, slots := 0, locals := 0 } : Room).slots) := by
  refine W.bodyOf (y := (⟨"com/example/routeloom/routeloom/ConstraintsRootPinLaw", "lab", "(IIZ)I"⟩ : MethodName)) (as := #[(.int p0), (.int p1), (.int p2)]) (maxL := 4) (Q := Q1 Z p0 p1 p2 h0 n0) (Ls := #[.val (.int p0), .val (.int p1), .val (.int p2), .unset]) (plainFor_of_name pn_com_example_routeloom_routeloom_ConstraintsRootPinLaw) (fun m => by first | rfl | (simp [entryFrame, mkF, argsToLocals, Value.category]; done)) ?_
  intro p e s m below meth c T0 C X0 e0
  have N0 := Fr.nil n0
  refine W.iloadN (q := 1) X0 C d1_0 rfl rfl ?_
  refine W.iloadN (q := 2) X0 C d1_1 rfl rfl ?_
  refine W.iadd (q := 3) X0 C d1_2 rfl ?_
  refine W.iconst (q := 4) (v := 5) X0 C d1_3 rfl rfl ?_
  refine W.irem (q := 5) X0 C d1_4 (by decide) rfl ?_
  generalize hv1 : ((p0 + p1) % (5 : Int32)) = v1
  refine W.istoreN (q := 6) (L' := #[.val (.int p0), .val (.int p1), .val (.int p2), .val (.int v1)]) X0 C d1_5 rfl rfl ?_
  refine W.iloadN (q := 7) X0 C d1_6 rfl rfl ?_
  refine W.if_ (q := 16) (q' := 10) X0 C d1_7 (by decide) (by decide) rfl (fun hc2 => ?_) (fun hc2 => ?_)
  · replace hc2 : p2 = 0 := hc2
    refine W.iloadN (q := 17) X0 C d1_16 rfl rfl ?_
    exact W.retI X0 C e0 d1_17 (by decide) (by decide) ⟨by rw [own_lab, if_pos hc2, ← hv1], N0, rfl⟩
  · replace hc2 : p2 ≠ 0 := hc2
    refine W.iconst (q := 11) (v := 4) X0 C d1_10 rfl rfl ?_
    refine W.iloadN (q := 12) X0 C d1_11 rfl rfl ?_
    refine W.isub (q := 13) X0 C d1_12 rfl ?_
    refine W.goto (q := 17) X0 C d1_13 (by decide) (by decide) ?_
    exact W.retI X0 C e0 d1_17 (by decide) (by decide) ⟨by rw [own_lab, if_neg hc2, ← hv1], N0, rfl⟩
theorem d2_2 : decode prog_6_method_8_code 2 = .ok (.aload_n 0, 1) := by decide +kernel
theorem d2_3 : decode prog_6_method_8_code 3 = .ok (.iload_n 2, 1) := by decide +kernel
theorem d2_4 : decode prog_6_method_8_code 4 = .ok (.iaload, 1) := by decide +kernel
theorem d2_5 : decode prog_6_method_8_code 5 = .ok (.iload_n 2, 1) := by decide +kernel
theorem d2_6 : decode prog_6_method_8_code 6 = .ok (.if_icmp .eq 18, 3) := by decide +kernel
theorem d2_24 : decode prog_6_method_8_code 24 = .ok (.iload_n 2, 1) := by decide +kernel
theorem d2_25 : decode prog_6_method_8_code 25 = .ok (.ireturn, 1) := by decide +kernel
theorem d2_9 : decode prog_6_method_8_code 9 = .ok (.aload_n 0, 1) := by decide +kernel
theorem d2_10 : decode prog_6_method_8_code 10 = .ok (.iload_n 2, 1) := by decide +kernel
theorem d2_11 : decode prog_6_method_8_code 11 = .ok (.aload_n 0, 1) := by decide +kernel
theorem d2_12 : decode prog_6_method_8_code 12 = .ok (.aload_n 0, 1) := by decide +kernel
theorem d2_13 : decode prog_6_method_8_code 13 = .ok (.iload_n 2, 1) := by decide +kernel
theorem d2_14 : decode prog_6_method_8_code 14 = .ok (.iaload, 1) := by decide +kernel
theorem d2_15 : decode prog_6_method_8_code 15 = .ok (.iaload, 1) := by decide +kernel
theorem d2_16 : decode prog_6_method_8_code 16 = .ok (.iastore, 1) := by decide +kernel
theorem d2_17 : decode prog_6_method_8_code 17 = .ok (.aload_n 0, 1) := by decide +kernel
theorem d2_18 : decode prog_6_method_8_code 18 = .ok (.iload_n 2, 1) := by decide +kernel
theorem d2_19 : decode prog_6_method_8_code 19 = .ok (.iaload, 1) := by decide +kernel
theorem d2_20 : decode prog_6_method_8_code 20 = .ok (.istore_n 2, 1) := by decide +kernel
theorem d2_21 : decode prog_6_method_8_code 21 = .ok (.goto (-19), 3) := by decide +kernel
set_option maxRecDepth 65536 in
set_option maxHeartbeats 40000000 in
theorem own_loop (l : Launch) (Z : State) (n0 : Nat) (p0 : Addr) (k0 : ClassId) (s0 : Int32) (hge : n0 ≤ p0) {p : Program} {e : Env} {s : State} {m : MethodId} {args : Array Value} {below : List Frame} {meth : Method} {c : Code} (C : W.Cx p s m meth c Z prog_6_method_8_code 3 "com/example/routeloom/routeloom/Constraints" "root" (some .int)) (hb : Heap) (r : Int32) (lr : List Int32) :
    ∀ (fuel : Nat) (h0 : Heap) (ls : List Int32) (x : Int32) (T0 : State) (locs : List Loc), Stand p l e ({ frames := 0, cells := 0, slots := 0, locals := 0 } : Room) s m args below meth c T0 locs 0 0 → T0.heap = h0 → Fr n0 locs → Keep hb h0 [p0] → Arv Z h0 p0 k0 .int (5 : Int32) (own_vs ls) (.int (0 : Int32)) → own_ok ls → own_in x → own_root fuel ls x = some (lr, r) →
    W.Go p e below (W.Post s (fun v h L => v = some (.int r) ∧ Fr n0 L ∧ Keep hb h [p0] ∧ Arv Z h p0 k0 .int (5 : Int32) (own_vs lr) (.int (0 : Int32))) 0 0) (T0.setTop (mkF m 2 #[.val (.ref p0), .val (.int s0), .val (.int x)] [])) := by
  intro fuel
  induction fuel with
  | zero =>
    intro _ _ _ _ _ _ _ _ _ _ _ _ hr
    rw [own_root0] at hr; cases hr
  | succ n ih =>
    intro h0 ls x T0 locs X0 e0 N0 K0 V0 hok hin hr
    refine W.aloadN (q := 3) X0 C d2_2 rfl rfl rfl ?_
    refine W.iloadN (q := 4) X0 C d2_3 rfl rfl ?_
    refine W.iaload (q := 5) X0 C e0 V0 hin.1 hin.2 (own_get hok hin) d2_4 rfl ?_
    refine W.iloadN (q := 6) X0 C d2_5 rfl rfl ?_
    refine W.icmp (q := 24) (q' := 9) X0 C d2_6 (by decide) (by decide) rfl (fun hc3 => ?_) (fun hc3 => ?_)
    · replace hc3 : (own_g ls x) = x := hc3
      rw [own_rootS, if_pos hc3] at hr
      cases hr
      refine W.iloadN (q := 25) X0 C d2_24 rfl rfl ?_
      exact W.retI X0 C e0 d2_25 (by decide) (by decide) ⟨rfl, N0, K0, V0⟩
    · replace hc3 : (own_g ls x) ≠ x := hc3
      rw [own_rootS, if_neg hc3] at hr
      refine W.aloadN (q := 10) X0 C d2_9 rfl rfl rfl ?_
      refine W.iloadN (q := 11) X0 C d2_10 rfl rfl ?_
      refine W.aloadN (q := 12) X0 C d2_11 rfl rfl rfl ?_
      refine W.aloadN (q := 13) X0 C d2_12 rfl rfl rfl ?_
      refine W.iloadN (q := 14) X0 C d2_13 rfl rfl ?_
      refine W.iaload (q := 15) X0 C e0 V0 hin.1 hin.2 (own_get hok hin) d2_14 rfl ?_
      refine W.iaload (q := 16) X0 C e0 V0 (own_g_in hok hin).1 (own_g_in hok hin).2 (own_get hok (own_g_in hok hin)) d2_15 rfl ?_
      refine W.iastore (q := 17) X0 C e0 V0  hin.1 hin.2 (own_len hok hin) d2_16 rfl (fun T4 h4 X4 e4 W4 V4_ => ?_)
      have N4 := Fr.snoc X4 N0 hge
      have K4 := K0.wr W4 (Or.inl (List.mem_singleton.mpr rfl))
      rw [own_set] at V4_
      have ok7 : own_ok (own_s ls x (own_g ls (own_g ls x))) := own_s_ok hok (own_g_in hok (own_g_in hok hin))
      generalize hL7 : own_s ls x (own_g ls (own_g ls x)) = L7 at V4_ ok7
      refine W.aloadN (q := 18) X4 C d2_17 rfl rfl rfl ?_
      refine W.iloadN (q := 19) X4 C d2_18 rfl rfl ?_
      refine W.iaload (q := 20) X4 C e4 V4_ hin.1 hin.2 (own_get ok7 hin) d2_19 rfl ?_
      refine W.istoreN (q := 21) (L' := #[.val (.ref p0), .val (.int s0), .val (.int (own_g L7 x))]) X4 C d2_20 rfl rfl ?_
      refine W.goto (q := 2) X4 C d2_21 (by decide) (by decide) ?_
      rw [hL7] at hr
      exact ih h4 L7 (own_g L7 x) T4 _ X4 e4 N4 K4 V4_ ok7 (own_g_in ok7 hin) hr
theorem d2_0 : decode prog_6_method_8_code 0 = .ok (.iload_n 1, 1) := by decide +kernel
theorem d2_1 : decode prog_6_method_8_code 1 = .ok (.istore_n 2, 1) := by decide +kernel
theorem pn_com_example_routeloom_routeloom_Constraints : plainName "com/example/routeloom/routeloom/Constraints" = true := by first | (simp [plainName, overriddenIn]; done) | decide +kernel
def Q2 (Z : State) (p0 : Addr) (p1 : Int32) (k0 : ClassId) (ls lr : List Int32) (r : Int32) (h0 : Heap) (n0 : Nat) (v : Option Value) (h : Heap) (L : List Loc) : Prop := v = some (.int r) ∧ Fr n0 L ∧ Keep h0 h [p0] ∧ Arv Z h p0 k0 .int (5 : Int32) (own_vs lr) (.int (0 : Int32))
set_option maxRecDepth 65536 in
set_option maxHeartbeats 40000000 in
theorem rm2 (l : Launch) (Z : State) (a0 : Array Value) (hw : ∀ d ∈ tables_1, d.before a0 Z = true) (ws : List Jvm.Cond) (p0 : Addr) (p1 : Int32) (k0 : ClassId) (ls lr : List Int32) (r : Int32) (h0 : Heap) (n0 : Nat) (hge : n0 ≤ p0) (V0 : Arv Z h0 p0 k0 .int (5 : Int32) (own_vs ls) (.int (0 : Int32))) (hok : own_ok ls) (hin : own_in p1) (hr : own_root 6 ls p1 = some (lr, r)) :
    MetFree l (⟨"com/example/routeloom/routeloom/Constraints", "root", "([II)I"⟩ : MethodName) (head1 (Jvm.Cond.code (⟨"com/example/routeloom/routeloom/Constraints", "root", "([II)I"⟩ : MethodName) prog_6_method_8_code 3 (some .int) :: ws) ({ frames := 0, cells := 0, slots := 0, locals := 0 } : Room)) (fun a U => a = #[(.ref p0), (.int p1)] ∧ Z.Warmed39 U.vm ∧ U.heap = h0) (fun _ _ _ _ _ => True) (fun _ U o U' => ∃ v L, o = .returned v ∧ Q2 Z p0 p1 k0 ls lr r h0 n0 v U'.heap L ∧ FrameEnd U o U' L ({ frames := 0, cells := 0, slots := 0, locals := 0 } : Room).cells ({ frames := 0, cells := 0, slots := 0, locals := 0 } : Room).slots) := by
  refine W.bodyOf (y := (⟨"com/example/routeloom/routeloom/Constraints", "root", "([II)I"⟩ : MethodName)) (as := #[(.ref p0), (.int p1)]) (maxL := 3) (Q := Q2 Z p0 p1 k0 ls lr r h0 n0) (Ls := #[.val (.ref p0), .val (.int p1), .unset]) (plainFor_of_name pn_com_example_routeloom_routeloom_Constraints) (fun m => by first | rfl | (simp [entryFrame, mkF, argsToLocals, Value.category]; done)) ?_
  intro p e s m below meth c T0 C X0 e0
  have N0 := Fr.nil n0
  refine W.iloadN (q := 1) X0 C d2_0 rfl rfl ?_
  refine W.istoreN (q := 2) (L' := #[.val (.ref p0), .val (.int p1), .val (.int p1)]) X0 C d2_1 rfl rfl ?_
  exact own_loop l Z n0 p0 k0 p1 hge C h0 r lr 6 h0 ls p1 T0 _ X0 e0 N0 (Keep.refl _ _) V0 hok hin hr
theorem d3_0 : decode method_3_code 0 = .ok (.iload 4, 2) := by decide +kernel
theorem d3_2 : decode method_3_code 2 = .ok (.iload_n 2, 1) := by decide +kernel
theorem d3_3 : decode method_3_code 3 = .ok (.if_icmp .eq 9, 3) := by decide +kernel
theorem d3_12 : decode method_3_code 12 = .ok (.aload_n 1, 1) := by decide +kernel
theorem d3_13 : decode method_3_code 13 = .ok (.aload_n 1, 1) := by decide +kernel
theorem d3_14 : decode method_3_code 14 = .ok (.iload 4, 2) := by decide +kernel
theorem d3_16 : decode method_3_code 16 = .ok (.iaload, 1) := by decide +kernel
theorem d3_17 : decode method_3_code 17 = .ok (.iaload, 1) := by decide +kernel
theorem d3_18 : decode method_3_code 18 = .ok (.goto 7, 3) := by decide +kernel
theorem d3_25 : decode method_3_code 25 = .ok (.istore 5, 2) := by decide +kernel
theorem d3_27 : decode method_3_code 27 = .ok (.aload_n 0, 1) := by decide +kernel
theorem d3_28 : decode method_3_code 28 = .ok (.iload 4, 2) := by decide +kernel
theorem d3_30 : decode method_3_code 30 = .ok (.iaload, 1) := by decide +kernel
theorem d3_31 : decode method_3_code 31 = .ok (.iload 5, 2) := by decide +kernel
theorem d3_33 : decode method_3_code 33 = .ok (.if_icmp .ne 7, 3) := by decide +kernel
theorem d3_40 : decode method_3_code 40 = .ok (.iconst 0, 1) := by decide +kernel
theorem d3_41 : decode method_3_code 41 = .ok (.ireturn, 1) := by decide +kernel
theorem d3_36 : decode method_3_code 36 = .ok (.iconst 1, 1) := by decide +kernel
theorem d3_37 : decode method_3_code 37 = .ok (.goto 4, 3) := by decide +kernel
theorem d3_6 : decode method_3_code 6 = .ok (.iload 4, 2) := by decide +kernel
theorem d3_8 : decode method_3_code 8 = .ok (.iload_n 3, 1) := by decide +kernel
theorem d3_9 : decode method_3_code 9 = .ok (.if_icmp .ne 12, 3) := by decide +kernel
theorem d3_21 : decode method_3_code 21 = .ok (.aload_n 1, 1) := by decide +kernel
theorem d3_22 : decode method_3_code 22 = .ok (.iload 4, 2) := by decide +kernel
theorem d3_24 : decode method_3_code 24 = .ok (.iaload, 1) := by decide +kernel
def Q3 (Z : State) (p0 p1 : Addr) (p2 p3 p4 : Int32) (kp0 kp1 : ClassId) (lq lo : List Int32) (h0 : Heap) (n0 : Nat) (v : Option Value) (h : Heap) (L : List Loc) : Prop := v = some (.int (own_entry lq lo p2 p3 p4)) ∧ Fr n0 L ∧ h = h0
set_option maxRecDepth 65536 in
set_option maxHeartbeats 40000000 in
theorem rm3 (l : Launch) (Z : State) (a0 : Array Value) (hw : ∀ d ∈ tables_1, d.before a0 Z = true) (ws : List Jvm.Cond) (p0 p1 : Addr) (p2 p3 p4 : Int32) (kp0 kp1 : ClassId) (lq lo : List Int32) (h0 : Heap) (n0 : Nat) (Vp0 : Arv Z h0 p0 kp0 .int (5 : Int32) (own_vs lq) (.int (0 : Int32))) (Vp1 : Arv Z h0 p1 kp1 .int (5 : Int32) (own_vs lo) (.int (0 : Int32))) (okq : own_ok lq) (oko : own_ok lo) (hin : own_in p4) :
    MetFree l (⟨"com/example/routeloom/routeloom/ConstraintsRootPinLaw", "entry", "([I[IIII)Z"⟩ : MethodName) (head1 (Jvm.Cond.code (⟨"com/example/routeloom/routeloom/ConstraintsRootPinLaw", "entry", "([I[IIII)Z"⟩ : MethodName) method_3_code 6 (some .boolean) :: ws) ({ frames := 0, cells := 0, slots := 0, locals := 0 } : Room)) (fun a U => a = #[(.ref p0), (.ref p1), (.int p2), (.int p3), (.int p4)] ∧ Z.Warmed39 U.vm ∧ U.heap = h0) (fun _ _ _ _ _ => True) (fun _ U o U' => ∃ v L, o = .returned v ∧ Q3 Z p0 p1 p2 p3 p4 kp0 kp1 lq lo h0 n0 v U'.heap L ∧ FrameEnd U o U' L ({ frames := 0, cells := 0, slots := 0, locals := 0 } : Room).cells ({ frames := 0, cells := 0, slots := 0, locals := 0 } : Room).slots) := by
  refine W.bodyOf (y := (⟨"com/example/routeloom/routeloom/ConstraintsRootPinLaw", "entry", "([I[IIII)Z"⟩ : MethodName)) (as := #[(.ref p0), (.ref p1), (.int p2), (.int p3), (.int p4)]) (maxL := 6) (Q := Q3 Z p0 p1 p2 p3 p4 kp0 kp1 lq lo h0 n0) (Ls := #[.val (.ref p0), .val (.ref p1), .val (.int p2), .val (.int p3), .val (.int p4), .unset]) (plainFor_of_name pn_com_example_routeloom_routeloom_ConstraintsRootPinLaw) (fun m => by first | rfl | (simp [entryFrame, mkF, argsToLocals, Value.category]; done)) ?_
  intro p e s m below meth c T0 C X0 e0
  have N0 := Fr.nil n0
  refine W.iload (q := 2) X0 C d3_0 rfl rfl ?_
  refine W.iloadN (q := 3) X0 C d3_2 rfl rfl ?_
  refine W.icmp (q := 12) (q' := 6) X0 C d3_3 (by decide) (by decide) rfl (fun hc8 => ?_) (fun hc8 => ?_)
  · replace hc8 : p4 = p2 := hc8
    refine W.aloadN (q := 13) X0 C d3_12 rfl rfl rfl ?_
    refine W.aloadN (q := 14) X0 C d3_13 rfl rfl rfl ?_
    refine W.iload (q := 16) X0 C d3_14 rfl rfl ?_
    refine W.iaload (q := 17) X0 C e0 Vp1 hin.1 hin.2 (own_get oko hin) d3_16 rfl ?_
    refine W.iaload (q := 18) X0 C e0 Vp1 (own_g_in oko hin).1 (own_g_in oko hin).2 (own_get oko (own_g_in oko hin)) d3_17 rfl ?_
    refine W.goto (q := 25) X0 C d3_18 (by decide) (by decide) ?_
    refine W.istore (q := 27) (L' := #[.val (.ref p0), .val (.ref p1), .val (.int p2), .val (.int p3), .val (.int p4), .val (.int (own_g lo (own_g lo p4)))]) X0 C d3_25 rfl rfl ?_
    refine W.aloadN (q := 28) X0 C d3_27 rfl rfl rfl ?_
    refine W.iload (q := 30) X0 C d3_28 rfl rfl ?_
    refine W.iaload (q := 31) X0 C e0 Vp0 hin.1 hin.2 (own_get okq hin) d3_30 rfl ?_
    refine W.iload (q := 33) X0 C d3_31 rfl rfl ?_
    refine W.icmp (q := 40) (q' := 36) X0 C d3_33 (by decide) (by decide) rfl (fun hc9 => ?_) (fun hc9 => ?_)
    · replace hc9 : (own_g lq p4) ≠ (own_g lo (own_g lo p4)) := hc9
      refine W.iconst (q := 41) (v := 0) X0 C d3_40 rfl rfl ?_
      exact W.retN X0 C (by simp) e0 d3_41 rfl (by decide) (by decide) ⟨by rw [own_entry, if_pos (Or.inl hc8), if_neg hc9]; rfl, N0, rfl⟩
    · replace hc9 : (own_g lq p4) = (own_g lo (own_g lo p4)) := hc9
      refine W.iconst (q := 37) (v := 1) X0 C d3_36 rfl rfl ?_
      refine W.goto (q := 41) X0 C d3_37 (by decide) (by decide) ?_
      exact W.retN X0 C (by simp) e0 d3_41 rfl (by decide) (by decide) ⟨by rw [own_entry, if_pos (Or.inl hc8), if_pos hc9]; rfl, N0, rfl⟩
  · replace hc8 : p4 ≠ p2 := hc8
    refine W.iload (q := 8) X0 C d3_6 rfl rfl ?_
    refine W.iloadN (q := 9) X0 C d3_8 rfl rfl ?_
    refine W.icmp (q := 21) (q' := 12) X0 C d3_9 (by decide) (by decide) rfl (fun hc10 => ?_) (fun hc10 => ?_)
    · replace hc10 : p4 ≠ p3 := hc10
      refine W.aloadN (q := 22) X0 C d3_21 rfl rfl rfl ?_
      refine W.iload (q := 24) X0 C d3_22 rfl rfl ?_
      refine W.iaload (q := 25) X0 C e0 Vp1 hin.1 hin.2 (own_get oko hin) d3_24 rfl ?_
      refine W.istore (q := 27) (L' := #[.val (.ref p0), .val (.ref p1), .val (.int p2), .val (.int p3), .val (.int p4), .val (.int (own_g lo p4))]) X0 C d3_25 rfl rfl ?_
      refine W.aloadN (q := 28) X0 C d3_27 rfl rfl rfl ?_
      refine W.iload (q := 30) X0 C d3_28 rfl rfl ?_
      refine W.iaload (q := 31) X0 C e0 Vp0 hin.1 hin.2 (own_get okq hin) d3_30 rfl ?_
      refine W.iload (q := 33) X0 C d3_31 rfl rfl ?_
      refine W.icmp (q := 40) (q' := 36) X0 C d3_33 (by decide) (by decide) rfl (fun hc11 => ?_) (fun hc11 => ?_)
      · replace hc11 : (own_g lq p4) ≠ (own_g lo p4) := hc11
        refine W.iconst (q := 41) (v := 0) X0 C d3_40 rfl rfl ?_
        exact W.retN X0 C (by simp) e0 d3_41 rfl (by decide) (by decide) ⟨by rw [own_entry, if_neg (fun q : p4 = p2 ∨ p4 = p3 => q.elim hc8 hc10), if_neg hc11]; rfl, N0, rfl⟩
      · replace hc11 : (own_g lq p4) = (own_g lo p4) := hc11
        refine W.iconst (q := 37) (v := 1) X0 C d3_36 rfl rfl ?_
        refine W.goto (q := 41) X0 C d3_37 (by decide) (by decide) ?_
        exact W.retN X0 C (by simp) e0 d3_41 rfl (by decide) (by decide) ⟨by rw [own_entry, if_neg (fun q : p4 = p2 ∨ p4 = p3 => q.elim hc8 hc10), if_pos hc11]; rfl, N0, rfl⟩
    · replace hc10 : p4 = p3 := hc10
      refine W.aloadN (q := 13) X0 C d3_12 rfl rfl rfl ?_
      refine W.aloadN (q := 14) X0 C d3_13 rfl rfl rfl ?_
      refine W.iload (q := 16) X0 C d3_14 rfl rfl ?_
      refine W.iaload (q := 17) X0 C e0 Vp1 hin.1 hin.2 (own_get oko hin) d3_16 rfl ?_
      refine W.iaload (q := 18) X0 C e0 Vp1 (own_g_in oko hin).1 (own_g_in oko hin).2 (own_get oko (own_g_in oko hin)) d3_17 rfl ?_
      refine W.goto (q := 25) X0 C d3_18 (by decide) (by decide) ?_
      refine W.istore (q := 27) (L' := #[.val (.ref p0), .val (.ref p1), .val (.int p2), .val (.int p3), .val (.int p4), .val (.int (own_g lo (own_g lo p4)))]) X0 C d3_25 rfl rfl ?_
      refine W.aloadN (q := 28) X0 C d3_27 rfl rfl rfl ?_
      refine W.iload (q := 30) X0 C d3_28 rfl rfl ?_
      refine W.iaload (q := 31) X0 C e0 Vp0 hin.1 hin.2 (own_get okq hin) d3_30 rfl ?_
      refine W.iload (q := 33) X0 C d3_31 rfl rfl ?_
      refine W.icmp (q := 40) (q' := 36) X0 C d3_33 (by decide) (by decide) rfl (fun hc12 => ?_) (fun hc12 => ?_)
      · replace hc12 : (own_g lq p4) ≠ (own_g lo (own_g lo p4)) := hc12
        refine W.iconst (q := 41) (v := 0) X0 C d3_40 rfl rfl ?_
        exact W.retN X0 C (by simp) e0 d3_41 rfl (by decide) (by decide) ⟨by rw [own_entry, if_pos (Or.inr hc10), if_neg hc12]; rfl, N0, rfl⟩
      · replace hc12 : (own_g lq p4) = (own_g lo (own_g lo p4)) := hc12
        refine W.iconst (q := 37) (v := 1) X0 C d3_36 rfl rfl ?_
        refine W.goto (q := 41) X0 C d3_37 (by decide) (by decide) ?_
        exact W.retN X0 C (by simp) e0 d3_41 rfl (by decide) (by decide) ⟨by rw [own_entry, if_pos (Or.inr hc10), if_pos hc12]; rfl, N0, rfl⟩
theorem own_of {x : Int32} (h : 0 ≤ x.toInt ∧ x.toInt < 5) : own_in x := h
theorem own_of' {x : Int32} {n : Int} (h : 0 ≤ x.toInt ∧ x.toInt < n) (hn : n ≤ 5) : own_in x := ⟨h.1, by rw [own_i5]; omega⟩
theorem pd__28IIZ_29I : parseMethodDescriptor "(IIZ)I" = some ⟨[.int, .int, .boolean], some .int⟩ := by decide +kernel
theorem pd__28_5bII_29I : parseMethodDescriptor "([II)I" = some ⟨[(.array .int), .int], some .int⟩ := by decide +kernel
theorem pd__28_5bI_5bIIII_29Z : parseMethodDescriptor "([I[IIII)Z" = some ⟨[(.array .int), (.array .int), .int, .int, .int], some .boolean⟩ := by decide +kernel
def Q0 (Z : State) (p0 p1 p2 p3 p4 p5 : Int32) (h0 : Heap) (n0 : Nat) (v : Option Value) (h : Heap) (L : List Loc) : Prop := v = some (.int 1) ∧ Fr n0 L
set_option maxRecDepth 65536 in
set_option maxHeartbeats 40000000 in
theorem rm0 (l : Launch) (Z : State) (a0 : Array Value) (hw : ∀ d ∈ tables_1, d.before a0 Z = true) (ws : List Jvm.Cond) (p0 p1 p2 p3 p4 p5 : Int32) (h0 : Heap) (n0 : Nat) (Z0 : n0 ≤ h0.size) :
    MetFree l x (head1 (Jvm.Cond.code x code maxLocals ret :: ws) room_1) (fun a U => a = #[(.int p0), (.int p1), (.int p2), (.int p3), (.int p4), (.int p5)] ∧ Z.Warmed39 U.vm ∧ U.heap = h0) (fun _ _ _ _ _ => True) (fun _ U o U' => ∃ v L, o = .returned v ∧ Q0 Z p0 p1 p2 p3 p4 p5 h0 n0 v U'.heap L ∧ FrameEnd U o U' L room_1.cells room_1.slots) := by
  refine W.bodyOf (y := x) (as := #[(.int p0), (.int p1), (.int p2), (.int p3), (.int p4), (.int p5)]) (maxL := maxLocals) (Q := Q0 Z p0 p1 p2 p3 p4 p5 h0 n0) (Ls := #[.val (.int p0), .val (.int p1), .val (.int p2), .val (.int p3), .val (.int p4), .val (.int p5), .unset, .unset, .unset, .unset, .unset, .unset, .unset, .unset, .unset, .unset, .unset, .unset]) (plainFor_of_name pn_com_example_routeloom_routeloom_ConstraintsRootPinLaw) (fun m => by first | rfl | (simp [entryFrame, mkF, argsToLocals, Value.category, maxLocals]; done)) ?_
  intro p e s m below meth c T0 C X0 e0
  replace C : W.Cx p s m meth c Z code 18 "com/example/routeloom/routeloom/ConstraintsRootPinLaw" "law" (some .boolean) := C
  have N0 := Fr.nil n0
  refine W.iloadN (q := 1) X0 C at_0 rfl rfl ?_
  refine W.ldcI (q := 3) X0 C (W.ww hw 0 rfl) at_1 rfl ?_
  refine W.iand (q := 4) X0 C at_3 rfl ?_
  refine W.iconst (q := 5) (v := 2) X0 C at_4 rfl rfl ?_
  refine W.irem (q := 6) X0 C at_5 (by decide) rfl ?_
  generalize hv13 : ((p0 &&& (2147483647 : Int32)) % (2 : Int32)) = v13
  refine W.istore (q := 8) (L' := #[.val (.int p0), .val (.int p1), .val (.int p2), .val (.int p3), .val (.int p4), .val (.int p5), .val (.int v13), .unset, .unset, .unset, .unset, .unset, .unset, .unset, .unset, .unset, .unset, .unset]) X0 C at_6 rfl rfl ?_
  refine W.iloadN (q := 9) X0 C at_8 rfl rfl ?_
  refine W.ldcI (q := 11) X0 C (W.ww hw 0 rfl) at_9 rfl ?_
  refine W.iand (q := 12) X0 C at_11 rfl ?_
  refine W.iconst (q := 13) (v := 3) X0 C at_12 rfl rfl ?_
  refine W.irem (q := 14) X0 C at_13 (by decide) rfl ?_
  generalize hv14 : ((p1 &&& (2147483647 : Int32)) % (3 : Int32)) = v14
  refine W.istore (q := 16) (L' := #[.val (.int p0), .val (.int p1), .val (.int p2), .val (.int p3), .val (.int p4), .val (.int p5), .val (.int v13), .val (.int v14), .unset, .unset, .unset, .unset, .unset, .unset, .unset, .unset, .unset, .unset]) X0 C at_14 rfl rfl ?_
  refine W.iloadN (q := 17) X0 C at_16 rfl rfl ?_
  refine W.ldcI (q := 19) X0 C (W.ww hw 0 rfl) at_17 rfl ?_
  refine W.iand (q := 20) X0 C at_19 rfl ?_
  refine W.iconst (q := 21) (v := 4) X0 C at_20 rfl rfl ?_
  refine W.irem (q := 22) X0 C at_21 (by decide) rfl ?_
  generalize hv15 : ((p2 &&& (2147483647 : Int32)) % (4 : Int32)) = v15
  refine W.istore (q := 24) (L' := #[.val (.int p0), .val (.int p1), .val (.int p2), .val (.int p3), .val (.int p4), .val (.int p5), .val (.int v13), .val (.int v14), .val (.int v15), .unset, .unset, .unset, .unset, .unset, .unset, .unset, .unset, .unset]) X0 C at_22 rfl rfl ?_
  refine W.iloadN (q := 25) X0 C at_24 rfl rfl ?_
  refine W.ldcI (q := 27) X0 C (W.ww hw 0 rfl) at_25 rfl ?_
  refine W.iand (q := 28) X0 C at_27 rfl ?_
  refine W.iconst (q := 29) (v := 5) X0 C at_28 rfl rfl ?_
  refine W.irem (q := 30) X0 C at_29 (by decide) rfl ?_
  generalize hv16 : ((p3 &&& (2147483647 : Int32)) % (5 : Int32)) = v16
  refine W.istore (q := 32) (L' := #[.val (.int p0), .val (.int p1), .val (.int p2), .val (.int p3), .val (.int p4), .val (.int p5), .val (.int v13), .val (.int v14), .val (.int v15), .val (.int v16), .unset, .unset, .unset, .unset, .unset, .unset, .unset, .unset]) X0 C at_30 rfl rfl ?_
  refine W.iload (q := 34) X0 C at_32 rfl rfl ?_
  refine W.ldcI (q := 36) X0 C (W.ww hw 0 rfl) at_34 rfl ?_
  refine W.iand (q := 37) X0 C at_36 rfl ?_
  refine W.iconst (q := 38) (v := 5) X0 C at_37 rfl rfl ?_
  refine W.irem (q := 39) X0 C at_38 (by decide) rfl ?_
  generalize hv17 : ((p4 &&& (2147483647 : Int32)) % (5 : Int32)) = v17
  refine W.istore (q := 41) (L' := #[.val (.int p0), .val (.int p1), .val (.int p2), .val (.int p3), .val (.int p4), .val (.int p5), .val (.int v13), .val (.int v14), .val (.int v15), .val (.int v16), .val (.int v17), .unset, .unset, .unset, .unset, .unset, .unset, .unset]) X0 C at_39 rfl rfl ?_
  refine W.iload (q := 43) X0 C at_41 rfl rfl ?_
  refine W.if_ (q := 50) (q' := 46) X0 C at_43 (by decide) (by decide) rfl (fun hc18 => ?_) (fun hc18 => ?_)
  · replace hc18 : (0 : Int32).toInt ≤ p4.toInt := hc18
    refine W.iconst (q := 51) (v := 0) X0 C at_50 rfl rfl ?_
    refine W.istore (q := 53) (L' := #[.val (.int p0), .val (.int p1), .val (.int p2), .val (.int p3), .val (.int p4), .val (.int p5), .val (.int v13), .val (.int v14), .val (.int v15), .val (.int v16), .val (.int v17), .val (.int (0 : Int32)), .unset, .unset, .unset, .unset, .unset, .unset]) X0 C at_51 rfl rfl ?_
    have rv13 := own_rem _ _ _ 2 (by decide) (by decide) hv13
    have rv14 := own_rem _ _ _ 3 (by decide) (by decide) hv14
    have rv15 := own_rem _ _ _ 4 (by decide) (by decide) hv15
    have rv16 := own_rem _ _ _ 5 (by decide) (by decide) hv16
    have rv17 := own_rem _ _ _ 5 (by decide) (by decide) hv17
    have hf : (0 : Int32) = (0 : Int32) ∨ (0 : Int32) = 1 := by decide
    refine W.iload (q := 55) X0 C at_53 rfl rfl ?_
    refine W.ldcI (q := 57) X0 C (W.ww hw 0 rfl) at_55 rfl ?_
    refine W.iand (q := 58) X0 C at_57 rfl ?_
    refine W.iconst (q := 59) (v := 5) X0 C at_58 rfl rfl ?_
    refine W.irem (q := 60) X0 C at_59 (by decide) rfl ?_
    generalize hv19 : ((p5 &&& (2147483647 : Int32)) % (5 : Int32)) = v19
    refine W.istore (q := 62) (L' := #[.val (.int p0), .val (.int p1), .val (.int p2), .val (.int p3), .val (.int p4), .val (.int p5), .val (.int v13), .val (.int v14), .val (.int v15), .val (.int v16), .val (.int v17), .val (.int (0 : Int32)), .val (.int v19), .unset, .unset, .unset, .unset, .unset]) X0 C at_60 rfl rfl ?_
    have rv19 := own_rem _ _ _ 5 (by decide) (by decide) hv19
    refine W.iconst (q := 63) (v := 5) X0 C at_62 rfl rfl ?_
    refine W.newarray (q := 65) X0 C (W.ww hw 1 rfl) e0 (by decide) 5 (by decide) (by decide) at_63 (by decide) (by decide) rfl (fun T20 h20 b20 k20 X20 e20 g20 E20 V20_ => ?_)
    have ge_b20 : n0 ≤ b20 := by rw [g20]; exact Z0
    have n0_20 : n0 ≤ h20.size := Nat.le_trans Z0 E20.1
    have V20 : Arv Z h20 b20 k20 .int (5 : Int32) [(.int (0 : Int32)), (.int (0 : Int32)), (.int (0 : Int32)), (.int (0 : Int32)), (.int (0 : Int32))] (.int (0 : Int32)) := V20_
    have VV : Arv Z h20 b20 k20 .int (5 : Int32) (own_vs [0, 0, 0, 0, 0]) (.int (0 : Int32)) := V20
    have okz : own_ok [0, 0, 0, 0, 0] := by decide
    generalize hLz : ([0, 0, 0, 0, 0] : List Int32) = Lz at VV okz
    refine W.astore (q := 67) (L' := #[.val (.int p0), .val (.int p1), .val (.int p2), .val (.int p3), .val (.int p4), .val (.int p5), .val (.int v13), .val (.int v14), .val (.int v15), .val (.int v16), .val (.int v17), .val (.int (0 : Int32)), .val (.int v19), .val (.ref b20), .unset, .unset, .unset, .unset]) X20 C at_65 rfl rfl rfl ?_
    refine W.aload (q := 69) X20 C at_67 rfl rfl rfl ?_
    refine W.iconst (q := 70) (v := 0) X20 C at_69 rfl rfl ?_
    refine W.iload (q := 72) X20 C at_70 rfl rfl ?_
    refine W.iload (q := 74) X20 C at_72 rfl rfl ?_
    refine W.callS (q := 77) X20 C (W.ww hw 2 rfl) (W.ww hw 3 rfl) (W.ww hw 4 rfl) (W.ww hw 5 rfl) (by decide) (rm1 l Z a0 hw [] (0 : Int32) v17 (0 : Int32) h20 n0) e20 at_74 [(.int (0 : Int32)), (.int v17), (.int (0 : Int32))] [(.ref b20)] rfl rfl pd__28IIZ_29I rfl rfl (by decide) (Nat.le_of_ble_eq_true rfl) (by decide) (by decide) rfl (fun T22 w22 L22 X22 hQ22 => ?_)
    obtain ⟨rfl, NL22, e22⟩ := hQ22
    have N22 := Fr.app N0 NL22
    show W.Go p e below _ (T22.setTop (mkF m 77 #[.val (.int p0), .val (.int p1), .val (.int p2), .val (.int p3), .val (.int p4), .val (.int p5), .val (.int v13), .val (.int v14), .val (.int v15), .val (.int v16), .val (.int v17), .val (.int (0 : Int32)), .val (.int v19), .val (.ref b20), .unset, .unset, .unset, .unset] [(.int (own_lab (0 : Int32) v17 (0 : Int32))), (.ref b20)]))
    refine W.iconst (q := 78) (v := 0) X22 C at_77 rfl rfl ?_
    refine W.iload (q := 80) X22 C at_78 rfl rfl ?_
    refine W.iload (q := 82) X22 C at_80 rfl rfl ?_
    refine W.callS (q := 85) X22 C (W.ww hw 2 rfl) (W.ww hw 3 rfl) (W.ww hw 4 rfl) (W.ww hw 5 rfl) (by decide) (rm1 l Z a0 hw [] (0 : Int32) v17 (0 : Int32) h20 n0) e22 at_82 [(.int (0 : Int32)), (.int v17), (.int (0 : Int32))] [(.int (own_lab (0 : Int32) v17 (0 : Int32))), (.ref b20)] rfl rfl pd__28IIZ_29I rfl rfl (by decide) (Nat.le_of_ble_eq_true rfl) (by decide) (by decide) rfl (fun T23 w23 L23 X23 hQ23 => ?_)
    obtain ⟨rfl, NL23, e23⟩ := hQ23
    have N23 := Fr.app N22 NL23
    show W.Go p e below _ (T23.setTop (mkF m 85 #[.val (.int p0), .val (.int p1), .val (.int p2), .val (.int p3), .val (.int p4), .val (.int p5), .val (.int v13), .val (.int v14), .val (.int v15), .val (.int v16), .val (.int v17), .val (.int (0 : Int32)), .val (.int v19), .val (.ref b20), .unset, .unset, .unset, .unset] [(.int (own_lab (0 : Int32) v17 (0 : Int32))), (.int (own_lab (0 : Int32) v17 (0 : Int32))), (.ref b20)]))
    refine W.iastore (q := 86) X23 C e23 VV  (own_lab_in (⟨by decide, by decide⟩ : own_in (0 : Int32)) (own_of rv17) hf).1 (own_lab_in (⟨by decide, by decide⟩ : own_in (0 : Int32)) (own_of rv17) hf).2 (own_len okz (own_lab_in (⟨by decide, by decide⟩ : own_in (0 : Int32)) (own_of rv17) hf)) at_85 rfl (fun T24 h24 X24 e24 W24 V24_ => ?_)
    have N24 := Fr.snoc X24 N23 ge_b20
    have n0_24 : n0 ≤ h24.size := by rw [W24.size]; exact n0_20
    rw [own_set] at V24_
    have ok27 : own_ok (own_s Lz (own_lab (0 : Int32) v17 (0 : Int32)) (own_lab (0 : Int32) v17 (0 : Int32))) := own_s_ok okz (own_lab_in (⟨by decide, by decide⟩ : own_in (0 : Int32)) (own_of rv17) hf)
    generalize hL27 : own_s Lz (own_lab (0 : Int32) v17 (0 : Int32)) (own_lab (0 : Int32) v17 (0 : Int32)) = L27 at V24_ ok27
    refine W.aload (q := 88) X24 C at_86 rfl rfl rfl ?_
    refine W.iconst (q := 89) (v := 1) X24 C at_88 rfl rfl ?_
    refine W.iload (q := 91) X24 C at_89 rfl rfl ?_
    refine W.iload (q := 93) X24 C at_91 rfl rfl ?_
    refine W.callS (q := 96) X24 C (W.ww hw 2 rfl) (W.ww hw 3 rfl) (W.ww hw 4 rfl) (W.ww hw 5 rfl) (by decide) (rm1 l Z a0 hw [] (1 : Int32) v17 (0 : Int32) h24 n0) e24 at_93 [(.int (1 : Int32)), (.int v17), (.int (0 : Int32))] [(.ref b20)] rfl rfl pd__28IIZ_29I rfl rfl (by decide) (Nat.le_of_ble_eq_true rfl) (by decide) (by decide) rfl (fun T28 w28 L28 X28 hQ28 => ?_)
    obtain ⟨rfl, NL28, e28⟩ := hQ28
    have N28 := Fr.app N24 NL28
    show W.Go p e below _ (T28.setTop (mkF m 96 #[.val (.int p0), .val (.int p1), .val (.int p2), .val (.int p3), .val (.int p4), .val (.int p5), .val (.int v13), .val (.int v14), .val (.int v15), .val (.int v16), .val (.int v17), .val (.int (0 : Int32)), .val (.int v19), .val (.ref b20), .unset, .unset, .unset, .unset] [(.int (own_lab (1 : Int32) v17 (0 : Int32))), (.ref b20)]))
    refine W.iload (q := 98) X28 C at_96 rfl rfl ?_
    refine W.iload (q := 100) X28 C at_98 rfl rfl ?_
    refine W.iload (q := 102) X28 C at_100 rfl rfl ?_
    refine W.callS (q := 105) X28 C (W.ww hw 2 rfl) (W.ww hw 3 rfl) (W.ww hw 4 rfl) (W.ww hw 5 rfl) (by decide) (rm1 l Z a0 hw [] v13 v17 (0 : Int32) h24 n0) e28 at_102 [(.int v13), (.int v17), (.int (0 : Int32))] [(.int (own_lab (1 : Int32) v17 (0 : Int32))), (.ref b20)] rfl rfl pd__28IIZ_29I rfl rfl (by decide) (Nat.le_of_ble_eq_true rfl) (by decide) (by decide) rfl (fun T29 w29 L29 X29 hQ29 => ?_)
    obtain ⟨rfl, NL29, e29⟩ := hQ29
    have N29 := Fr.app N28 NL29
    show W.Go p e below _ (T29.setTop (mkF m 105 #[.val (.int p0), .val (.int p1), .val (.int p2), .val (.int p3), .val (.int p4), .val (.int p5), .val (.int v13), .val (.int v14), .val (.int v15), .val (.int v16), .val (.int v17), .val (.int (0 : Int32)), .val (.int v19), .val (.ref b20), .unset, .unset, .unset, .unset] [(.int (own_lab v13 v17 (0 : Int32))), (.int (own_lab (1 : Int32) v17 (0 : Int32))), (.ref b20)]))
    refine W.iastore (q := 106) X29 C e29 V24_  (own_lab_in (⟨by decide, by decide⟩ : own_in (1 : Int32)) (own_of rv17) hf).1 (own_lab_in (⟨by decide, by decide⟩ : own_in (1 : Int32)) (own_of rv17) hf).2 (own_len ok27 (own_lab_in (⟨by decide, by decide⟩ : own_in (1 : Int32)) (own_of rv17) hf)) at_105 rfl (fun T30 h30 X30 e30 W30 V30_ => ?_)
    have N30 := Fr.snoc X30 N29 ge_b20
    have n0_30 : n0 ≤ h30.size := by rw [W30.size]; exact n0_24
    rw [own_set] at V30_
    have ok33 : own_ok (own_s L27 (own_lab (1 : Int32) v17 (0 : Int32)) (own_lab v13 v17 (0 : Int32))) := own_s_ok ok27 (own_lab_in (own_of' rv13 (by decide)) (own_of rv17) hf)
    generalize hL33 : own_s L27 (own_lab (1 : Int32) v17 (0 : Int32)) (own_lab v13 v17 (0 : Int32)) = L33 at V30_ ok33
    refine W.aload (q := 108) X30 C at_106 rfl rfl rfl ?_
    refine W.iconst (q := 109) (v := 2) X30 C at_108 rfl rfl ?_
    refine W.iload (q := 111) X30 C at_109 rfl rfl ?_
    refine W.iload (q := 113) X30 C at_111 rfl rfl ?_
    refine W.callS (q := 116) X30 C (W.ww hw 2 rfl) (W.ww hw 3 rfl) (W.ww hw 4 rfl) (W.ww hw 5 rfl) (by decide) (rm1 l Z a0 hw [] (2 : Int32) v17 (0 : Int32) h30 n0) e30 at_113 [(.int (2 : Int32)), (.int v17), (.int (0 : Int32))] [(.ref b20)] rfl rfl pd__28IIZ_29I rfl rfl (by decide) (Nat.le_of_ble_eq_true rfl) (by decide) (by decide) rfl (fun T34 w34 L34 X34 hQ34 => ?_)
    obtain ⟨rfl, NL34, e34⟩ := hQ34
    have N34 := Fr.app N30 NL34
    show W.Go p e below _ (T34.setTop (mkF m 116 #[.val (.int p0), .val (.int p1), .val (.int p2), .val (.int p3), .val (.int p4), .val (.int p5), .val (.int v13), .val (.int v14), .val (.int v15), .val (.int v16), .val (.int v17), .val (.int (0 : Int32)), .val (.int v19), .val (.ref b20), .unset, .unset, .unset, .unset] [(.int (own_lab (2 : Int32) v17 (0 : Int32))), (.ref b20)]))
    refine W.iload (q := 118) X34 C at_116 rfl rfl ?_
    refine W.iload (q := 120) X34 C at_118 rfl rfl ?_
    refine W.iload (q := 122) X34 C at_120 rfl rfl ?_
    refine W.callS (q := 125) X34 C (W.ww hw 2 rfl) (W.ww hw 3 rfl) (W.ww hw 4 rfl) (W.ww hw 5 rfl) (by decide) (rm1 l Z a0 hw [] v14 v17 (0 : Int32) h30 n0) e34 at_122 [(.int v14), (.int v17), (.int (0 : Int32))] [(.int (own_lab (2 : Int32) v17 (0 : Int32))), (.ref b20)] rfl rfl pd__28IIZ_29I rfl rfl (by decide) (Nat.le_of_ble_eq_true rfl) (by decide) (by decide) rfl (fun T35 w35 L35 X35 hQ35 => ?_)
    obtain ⟨rfl, NL35, e35⟩ := hQ35
    have N35 := Fr.app N34 NL35
    show W.Go p e below _ (T35.setTop (mkF m 125 #[.val (.int p0), .val (.int p1), .val (.int p2), .val (.int p3), .val (.int p4), .val (.int p5), .val (.int v13), .val (.int v14), .val (.int v15), .val (.int v16), .val (.int v17), .val (.int (0 : Int32)), .val (.int v19), .val (.ref b20), .unset, .unset, .unset, .unset] [(.int (own_lab v14 v17 (0 : Int32))), (.int (own_lab (2 : Int32) v17 (0 : Int32))), (.ref b20)]))
    refine W.iastore (q := 126) X35 C e35 V30_  (own_lab_in (⟨by decide, by decide⟩ : own_in (2 : Int32)) (own_of rv17) hf).1 (own_lab_in (⟨by decide, by decide⟩ : own_in (2 : Int32)) (own_of rv17) hf).2 (own_len ok33 (own_lab_in (⟨by decide, by decide⟩ : own_in (2 : Int32)) (own_of rv17) hf)) at_125 rfl (fun T36 h36 X36 e36 W36 V36_ => ?_)
    have N36 := Fr.snoc X36 N35 ge_b20
    have n0_36 : n0 ≤ h36.size := by rw [W36.size]; exact n0_30
    rw [own_set] at V36_
    have ok39 : own_ok (own_s L33 (own_lab (2 : Int32) v17 (0 : Int32)) (own_lab v14 v17 (0 : Int32))) := own_s_ok ok33 (own_lab_in (own_of' rv14 (by decide)) (own_of rv17) hf)
    generalize hL39 : own_s L33 (own_lab (2 : Int32) v17 (0 : Int32)) (own_lab v14 v17 (0 : Int32)) = L39 at V36_ ok39
    refine W.aload (q := 128) X36 C at_126 rfl rfl rfl ?_
    refine W.iconst (q := 129) (v := 3) X36 C at_128 rfl rfl ?_
    refine W.iload (q := 131) X36 C at_129 rfl rfl ?_
    refine W.iload (q := 133) X36 C at_131 rfl rfl ?_
    refine W.callS (q := 136) X36 C (W.ww hw 2 rfl) (W.ww hw 3 rfl) (W.ww hw 4 rfl) (W.ww hw 5 rfl) (by decide) (rm1 l Z a0 hw [] (3 : Int32) v17 (0 : Int32) h36 n0) e36 at_133 [(.int (3 : Int32)), (.int v17), (.int (0 : Int32))] [(.ref b20)] rfl rfl pd__28IIZ_29I rfl rfl (by decide) (Nat.le_of_ble_eq_true rfl) (by decide) (by decide) rfl (fun T40 w40 L40 X40 hQ40 => ?_)
    obtain ⟨rfl, NL40, e40⟩ := hQ40
    have N40 := Fr.app N36 NL40
    show W.Go p e below _ (T40.setTop (mkF m 136 #[.val (.int p0), .val (.int p1), .val (.int p2), .val (.int p3), .val (.int p4), .val (.int p5), .val (.int v13), .val (.int v14), .val (.int v15), .val (.int v16), .val (.int v17), .val (.int (0 : Int32)), .val (.int v19), .val (.ref b20), .unset, .unset, .unset, .unset] [(.int (own_lab (3 : Int32) v17 (0 : Int32))), (.ref b20)]))
    refine W.iload (q := 138) X40 C at_136 rfl rfl ?_
    refine W.iload (q := 140) X40 C at_138 rfl rfl ?_
    refine W.iload (q := 142) X40 C at_140 rfl rfl ?_
    refine W.callS (q := 145) X40 C (W.ww hw 2 rfl) (W.ww hw 3 rfl) (W.ww hw 4 rfl) (W.ww hw 5 rfl) (by decide) (rm1 l Z a0 hw [] v15 v17 (0 : Int32) h36 n0) e40 at_142 [(.int v15), (.int v17), (.int (0 : Int32))] [(.int (own_lab (3 : Int32) v17 (0 : Int32))), (.ref b20)] rfl rfl pd__28IIZ_29I rfl rfl (by decide) (Nat.le_of_ble_eq_true rfl) (by decide) (by decide) rfl (fun T41 w41 L41 X41 hQ41 => ?_)
    obtain ⟨rfl, NL41, e41⟩ := hQ41
    have N41 := Fr.app N40 NL41
    show W.Go p e below _ (T41.setTop (mkF m 145 #[.val (.int p0), .val (.int p1), .val (.int p2), .val (.int p3), .val (.int p4), .val (.int p5), .val (.int v13), .val (.int v14), .val (.int v15), .val (.int v16), .val (.int v17), .val (.int (0 : Int32)), .val (.int v19), .val (.ref b20), .unset, .unset, .unset, .unset] [(.int (own_lab v15 v17 (0 : Int32))), (.int (own_lab (3 : Int32) v17 (0 : Int32))), (.ref b20)]))
    refine W.iastore (q := 146) X41 C e41 V36_  (own_lab_in (⟨by decide, by decide⟩ : own_in (3 : Int32)) (own_of rv17) hf).1 (own_lab_in (⟨by decide, by decide⟩ : own_in (3 : Int32)) (own_of rv17) hf).2 (own_len ok39 (own_lab_in (⟨by decide, by decide⟩ : own_in (3 : Int32)) (own_of rv17) hf)) at_145 rfl (fun T42 h42 X42 e42 W42 V42_ => ?_)
    have N42 := Fr.snoc X42 N41 ge_b20
    have n0_42 : n0 ≤ h42.size := by rw [W42.size]; exact n0_36
    rw [own_set] at V42_
    have ok45 : own_ok (own_s L39 (own_lab (3 : Int32) v17 (0 : Int32)) (own_lab v15 v17 (0 : Int32))) := own_s_ok ok39 (own_lab_in (own_of' rv15 (by decide)) (own_of rv17) hf)
    generalize hL45 : own_s L39 (own_lab (3 : Int32) v17 (0 : Int32)) (own_lab v15 v17 (0 : Int32)) = L45 at V42_ ok45
    refine W.aload (q := 148) X42 C at_146 rfl rfl rfl ?_
    refine W.iconst (q := 149) (v := 4) X42 C at_148 rfl rfl ?_
    refine W.iload (q := 151) X42 C at_149 rfl rfl ?_
    refine W.iload (q := 153) X42 C at_151 rfl rfl ?_
    refine W.callS (q := 156) X42 C (W.ww hw 2 rfl) (W.ww hw 3 rfl) (W.ww hw 4 rfl) (W.ww hw 5 rfl) (by decide) (rm1 l Z a0 hw [] (4 : Int32) v17 (0 : Int32) h42 n0) e42 at_153 [(.int (4 : Int32)), (.int v17), (.int (0 : Int32))] [(.ref b20)] rfl rfl pd__28IIZ_29I rfl rfl (by decide) (Nat.le_of_ble_eq_true rfl) (by decide) (by decide) rfl (fun T46 w46 L46 X46 hQ46 => ?_)
    obtain ⟨rfl, NL46, e46⟩ := hQ46
    have N46 := Fr.app N42 NL46
    show W.Go p e below _ (T46.setTop (mkF m 156 #[.val (.int p0), .val (.int p1), .val (.int p2), .val (.int p3), .val (.int p4), .val (.int p5), .val (.int v13), .val (.int v14), .val (.int v15), .val (.int v16), .val (.int v17), .val (.int (0 : Int32)), .val (.int v19), .val (.ref b20), .unset, .unset, .unset, .unset] [(.int (own_lab (4 : Int32) v17 (0 : Int32))), (.ref b20)]))
    refine W.iload (q := 158) X46 C at_156 rfl rfl ?_
    refine W.iload (q := 160) X46 C at_158 rfl rfl ?_
    refine W.iload (q := 162) X46 C at_160 rfl rfl ?_
    refine W.callS (q := 165) X46 C (W.ww hw 2 rfl) (W.ww hw 3 rfl) (W.ww hw 4 rfl) (W.ww hw 5 rfl) (by decide) (rm1 l Z a0 hw [] v16 v17 (0 : Int32) h42 n0) e46 at_162 [(.int v16), (.int v17), (.int (0 : Int32))] [(.int (own_lab (4 : Int32) v17 (0 : Int32))), (.ref b20)] rfl rfl pd__28IIZ_29I rfl rfl (by decide) (Nat.le_of_ble_eq_true rfl) (by decide) (by decide) rfl (fun T47 w47 L47 X47 hQ47 => ?_)
    obtain ⟨rfl, NL47, e47⟩ := hQ47
    have N47 := Fr.app N46 NL47
    show W.Go p e below _ (T47.setTop (mkF m 165 #[.val (.int p0), .val (.int p1), .val (.int p2), .val (.int p3), .val (.int p4), .val (.int p5), .val (.int v13), .val (.int v14), .val (.int v15), .val (.int v16), .val (.int v17), .val (.int (0 : Int32)), .val (.int v19), .val (.ref b20), .unset, .unset, .unset, .unset] [(.int (own_lab v16 v17 (0 : Int32))), (.int (own_lab (4 : Int32) v17 (0 : Int32))), (.ref b20)]))
    refine W.iastore (q := 166) X47 C e47 V42_  (own_lab_in (⟨by decide, by decide⟩ : own_in (4 : Int32)) (own_of rv17) hf).1 (own_lab_in (⟨by decide, by decide⟩ : own_in (4 : Int32)) (own_of rv17) hf).2 (own_len ok45 (own_lab_in (⟨by decide, by decide⟩ : own_in (4 : Int32)) (own_of rv17) hf)) at_165 rfl (fun T48 h48 X48 e48 W48 V48_ => ?_)
    have N48 := Fr.snoc X48 N47 ge_b20
    have n0_48 : n0 ≤ h48.size := by rw [W48.size]; exact n0_42
    rw [own_set] at V48_
    have ok51 : own_ok (own_s L45 (own_lab (4 : Int32) v17 (0 : Int32)) (own_lab v16 v17 (0 : Int32))) := own_s_ok ok45 (own_lab_in (own_of rv16) (own_of rv17) hf)
    generalize hL51 : own_s L45 (own_lab (4 : Int32) v17 (0 : Int32)) (own_lab v16 v17 (0 : Int32)) = L51 at V48_ ok51
    refine W.iconst (q := 167) (v := 5) X48 C at_166 rfl rfl ?_
    refine W.newarray (q := 169) X48 C (W.ww hw 1 rfl) e48 (by decide) 5 (by decide) (by decide) at_167 (by decide) (by decide) rfl (fun T52 h52 b52 k52 X52 e52 g52 E52 V52_ => ?_)
    have ne_b20_b52 : b20 ≠ b52 := by rw [g52]; exact Nat.ne_of_lt V48_.lt
    have ge_b52 : n0 ≤ b52 := by rw [g52]; exact n0_48
    have n0_52 : n0 ≤ h52.size := Nat.le_trans n0_48 E52.1
    have V48__54 := V48_.ext E52
    have V52 : Arv Z h52 b52 k52 .int (5 : Int32) [(.int (0 : Int32)), (.int (0 : Int32)), (.int (0 : Int32)), (.int (0 : Int32)), (.int (0 : Int32))] (.int (0 : Int32)) := V52_
    refine W.dup (q := 170) X52 C at_169 rfl rfl ?_
    refine W.iconst (q := 171) (v := 0) X52 C at_170 rfl rfl ?_
    refine W.aload (q := 173) X52 C at_171 rfl rfl rfl ?_
    refine W.iconst (q := 174) (v := 0) X52 C at_173 rfl rfl ?_
    refine W.iaload (q := 175) X52 C e52 V48__54 (⟨by decide, by decide⟩ : own_in (0 : Int32)).1 (⟨by decide, by decide⟩ : own_in (0 : Int32)).2 (own_get ok51 (⟨by decide, by decide⟩ : own_in (0 : Int32))) at_174 rfl ?_
    refine W.iastore (q := 176) X52 C e52 V52  (by decide) (by decide) (Nat.le_of_ble_eq_true rfl) at_175 rfl (fun T55 h55 X55 e55 W55 V55_ => ?_)
    have V48__57 := V48__54.other W55 ne_b20_b52
    have V55 : Arv Z h55 b52 k52 .int (5 : Int32) [(.int (own_g L51 (0 : Int32))), (.int (0 : Int32)), (.int (0 : Int32)), (.int (0 : Int32)), (.int (0 : Int32))] (.int (0 : Int32)) := V55_
    have N55 := Fr.snoc X55 N48 ge_b52
    have n0_55 : n0 ≤ h55.size := by rw [W55.size]; exact n0_52
    refine W.dup (q := 177) X55 C at_176 rfl rfl ?_
    refine W.iconst (q := 178) (v := 1) X55 C at_177 rfl rfl ?_
    refine W.aload (q := 180) X55 C at_178 rfl rfl rfl ?_
    refine W.iconst (q := 181) (v := 1) X55 C at_180 rfl rfl ?_
    refine W.iaload (q := 182) X55 C e55 V48__57 (⟨by decide, by decide⟩ : own_in (1 : Int32)).1 (⟨by decide, by decide⟩ : own_in (1 : Int32)).2 (own_get ok51 (⟨by decide, by decide⟩ : own_in (1 : Int32))) at_181 rfl ?_
    refine W.iastore (q := 183) X55 C e55 V55  (by decide) (by decide) (Nat.le_of_ble_eq_true rfl) at_182 rfl (fun T59 h59 X59 e59 W59 V59_ => ?_)
    have V48__61 := V48__57.other W59 ne_b20_b52
    have V59 : Arv Z h59 b52 k52 .int (5 : Int32) [(.int (own_g L51 (0 : Int32))), (.int (own_g L51 (1 : Int32))), (.int (0 : Int32)), (.int (0 : Int32)), (.int (0 : Int32))] (.int (0 : Int32)) := V59_
    have N59 := Fr.snoc X59 N55 ge_b52
    have n0_59 : n0 ≤ h59.size := by rw [W59.size]; exact n0_55
    refine W.dup (q := 184) X59 C at_183 rfl rfl ?_
    refine W.iconst (q := 185) (v := 2) X59 C at_184 rfl rfl ?_
    refine W.aload (q := 187) X59 C at_185 rfl rfl rfl ?_
    refine W.iconst (q := 188) (v := 2) X59 C at_187 rfl rfl ?_
    refine W.iaload (q := 189) X59 C e59 V48__61 (⟨by decide, by decide⟩ : own_in (2 : Int32)).1 (⟨by decide, by decide⟩ : own_in (2 : Int32)).2 (own_get ok51 (⟨by decide, by decide⟩ : own_in (2 : Int32))) at_188 rfl ?_
    refine W.iastore (q := 190) X59 C e59 V59  (by decide) (by decide) (Nat.le_of_ble_eq_true rfl) at_189 rfl (fun T63 h63 X63 e63 W63 V63_ => ?_)
    have V48__65 := V48__61.other W63 ne_b20_b52
    have V63 : Arv Z h63 b52 k52 .int (5 : Int32) [(.int (own_g L51 (0 : Int32))), (.int (own_g L51 (1 : Int32))), (.int (own_g L51 (2 : Int32))), (.int (0 : Int32)), (.int (0 : Int32))] (.int (0 : Int32)) := V63_
    have N63 := Fr.snoc X63 N59 ge_b52
    have n0_63 : n0 ≤ h63.size := by rw [W63.size]; exact n0_59
    refine W.dup (q := 191) X63 C at_190 rfl rfl ?_
    refine W.iconst (q := 192) (v := 3) X63 C at_191 rfl rfl ?_
    refine W.aload (q := 194) X63 C at_192 rfl rfl rfl ?_
    refine W.iconst (q := 195) (v := 3) X63 C at_194 rfl rfl ?_
    refine W.iaload (q := 196) X63 C e63 V48__65 (⟨by decide, by decide⟩ : own_in (3 : Int32)).1 (⟨by decide, by decide⟩ : own_in (3 : Int32)).2 (own_get ok51 (⟨by decide, by decide⟩ : own_in (3 : Int32))) at_195 rfl ?_
    refine W.iastore (q := 197) X63 C e63 V63  (by decide) (by decide) (Nat.le_of_ble_eq_true rfl) at_196 rfl (fun T67 h67 X67 e67 W67 V67_ => ?_)
    have V48__69 := V48__65.other W67 ne_b20_b52
    have V67 : Arv Z h67 b52 k52 .int (5 : Int32) [(.int (own_g L51 (0 : Int32))), (.int (own_g L51 (1 : Int32))), (.int (own_g L51 (2 : Int32))), (.int (own_g L51 (3 : Int32))), (.int (0 : Int32))] (.int (0 : Int32)) := V67_
    have N67 := Fr.snoc X67 N63 ge_b52
    have n0_67 : n0 ≤ h67.size := by rw [W67.size]; exact n0_63
    refine W.dup (q := 198) X67 C at_197 rfl rfl ?_
    refine W.iconst (q := 199) (v := 4) X67 C at_198 rfl rfl ?_
    refine W.aload (q := 201) X67 C at_199 rfl rfl rfl ?_
    refine W.iconst (q := 202) (v := 4) X67 C at_201 rfl rfl ?_
    refine W.iaload (q := 203) X67 C e67 V48__69 (⟨by decide, by decide⟩ : own_in (4 : Int32)).1 (⟨by decide, by decide⟩ : own_in (4 : Int32)).2 (own_get ok51 (⟨by decide, by decide⟩ : own_in (4 : Int32))) at_202 rfl ?_
    refine W.iastore (q := 204) X67 C e67 V67  (by decide) (by decide) (Nat.le_of_ble_eq_true rfl) at_203 rfl (fun T71 h71 X71 e71 W71 V71_ => ?_)
    have V48__73 := V48__69.other W71 ne_b20_b52
    have V71 : Arv Z h71 b52 k52 .int (5 : Int32) [(.int (own_g L51 (0 : Int32))), (.int (own_g L51 (1 : Int32))), (.int (own_g L51 (2 : Int32))), (.int (own_g L51 (3 : Int32))), (.int (own_g L51 (4 : Int32)))] (.int (0 : Int32)) := V71_
    have N71 := Fr.snoc X71 N67 ge_b52
    have n0_71 : n0 ≤ h71.size := by rw [W71.size]; exact n0_67
    have VO : Arv Z h71 b52 k52 .int (5 : Int32) (own_vs (own_o L51)) (.int (0 : Int32)) := V71
    have oko : own_ok (own_o L51) := ⟨rfl, fun x hx => by simp only [own_o, List.mem_cons, List.not_mem_nil, or_false] at hx; rcases hx with rfl | rfl | rfl | rfl | rfl <;> exact own_g_in ok51 ⟨by decide, by decide⟩⟩
    have hq : own_q v13 v14 v15 v16 v17 (0 : Int32) = L51 := by rw [own_q, hLz, hL27, hL33, hL39, hL45, hL51]
    obtain ⟨lq', rr, hroot, hrr, t0, t1, t2, t3, t4⟩ := own_fin hq (own_chk_of rv13 rv14 rv15 (own_of rv16) (own_of rv17) hf (own_of rv19))
    refine W.astore (q := 206) (L' := #[.val (.int p0), .val (.int p1), .val (.int p2), .val (.int p3), .val (.int p4), .val (.int p5), .val (.int v13), .val (.int v14), .val (.int v15), .val (.int v16), .val (.int v17), .val (.int (0 : Int32)), .val (.int v19), .val (.ref b20), .val (.ref b52), .unset, .unset, .unset]) X71 C at_204 rfl rfl rfl ?_
    refine W.aload (q := 208) X71 C at_206 rfl rfl rfl ?_
    refine W.aload (q := 210) X71 C at_208 rfl rfl rfl ?_
    refine W.aload (q := 212) X71 C at_210 rfl rfl rfl ?_
    refine W.aload (q := 214) X71 C at_212 rfl rfl rfl ?_
    refine W.iload (q := 216) X71 C at_214 rfl rfl ?_
    refine W.iaload (q := 217) X71 C e71 VO (own_of rv19).1 (own_of rv19).2 (own_get oko (own_of rv19)) at_216 rfl ?_
    refine W.iaload (q := 218) X71 C e71 VO (own_g_in oko (own_of rv19)).1 (own_g_in oko (own_of rv19)).2 (own_get oko (own_g_in oko (own_of rv19))) at_217 rfl ?_
    refine W.iaload (q := 219) X71 C e71 VO (own_g_in oko (own_g_in oko (own_of rv19))).1 (own_g_in oko (own_g_in oko (own_of rv19))).2 (own_get oko (own_g_in oko (own_g_in oko (own_of rv19)))) at_218 rfl ?_
    refine W.iaload (q := 220) X71 C e71 VO (own_g_in oko (own_g_in oko (own_g_in oko (own_of rv19)))).1 (own_g_in oko (own_g_in oko (own_g_in oko (own_of rv19)))).2 (own_get oko (own_g_in oko (own_g_in oko (own_g_in oko (own_of rv19))))) at_219 rfl ?_
    generalize hv75 : (own_g (own_o L51) (own_g (own_o L51) (own_g (own_o L51) (own_g (own_o L51) v19)))) = v75
    refine W.istore (q := 222) (L' := #[.val (.int p0), .val (.int p1), .val (.int p2), .val (.int p3), .val (.int p4), .val (.int p5), .val (.int v13), .val (.int v14), .val (.int v15), .val (.int v16), .val (.int v17), .val (.int (0 : Int32)), .val (.int v19), .val (.ref b20), .val (.ref b52), .val (.int v75), .unset, .unset]) X71 C at_220 rfl rfl ?_
    refine W.aload (q := 224) X71 C at_222 rfl rfl rfl ?_
    refine W.aload (q := 226) X71 C at_224 rfl rfl rfl ?_
    refine W.iload (q := 228) X71 C at_226 rfl rfl ?_
    refine W.iaload (q := 229) X71 C e71 VO (own_of rv19).1 (own_of rv19).2 (own_get oko (own_of rv19)) at_228 rfl ?_
    refine W.iaload (q := 230) X71 C e71 VO (own_g_in oko (own_of rv19)).1 (own_g_in oko (own_of rv19)).2 (own_get oko (own_g_in oko (own_of rv19))) at_229 rfl ?_
    generalize hv76 : (own_g (own_o L51) (own_g (own_o L51) v19)) = v76
    refine W.istore (q := 232) (L' := #[.val (.int p0), .val (.int p1), .val (.int p2), .val (.int p3), .val (.int p4), .val (.int p5), .val (.int v13), .val (.int v14), .val (.int v15), .val (.int v16), .val (.int v17), .val (.int (0 : Int32)), .val (.int v19), .val (.ref b20), .val (.ref b52), .val (.int v75), .val (.int v76), .unset]) X71 C at_230 rfl rfl ?_
    refine W.aload (q := 234) X71 C at_232 rfl rfl rfl ?_
    refine W.iload (q := 236) X71 C at_234 rfl rfl ?_
    refine W.callS (q := 239) X71 C (W.ww hw 6 rfl) (W.ww hw 7 rfl) (W.ww hw 8 rfl) (W.ww hw 9 rfl) (by decide) (rm2 l Z a0 hw [] b20 v19 k20 L51 lq' rr h71 n0 ge_b20 V48__73 ok51 (own_of rv19) hroot) e71 at_236 [(.ref b20), (.int v19)] [] rfl rfl pd__28_5bII_29I rfl rfl (by decide) (Nat.le_of_ble_eq_true rfl) (by decide) (by decide) rfl (fun T77 w77 L77 X77 hQ77 => ?_)
    obtain ⟨rfl, NL77, K77, V77⟩ := hQ77
    have N77 := Fr.app N71 NL77
    have VO_79 := VO.keep K77 (ninS (Ne.symm ne_b20_b52) nin0)
    have okq' := own_root_ok 6 _ _ _ _ ok51 (own_of rv19) hroot
    show W.Go p e below _ (T77.setTop (mkF m 239 #[.val (.int p0), .val (.int p1), .val (.int p2), .val (.int p3), .val (.int p4), .val (.int p5), .val (.int v13), .val (.int v14), .val (.int v15), .val (.int v16), .val (.int v17), .val (.int (0 : Int32)), .val (.int v19), .val (.ref b20), .val (.ref b52), .val (.int v75), .val (.int v76), .unset] [(.int rr)]))
    refine W.istore (q := 241) (L' := #[.val (.int p0), .val (.int p1), .val (.int p2), .val (.int p3), .val (.int p4), .val (.int p5), .val (.int v13), .val (.int v14), .val (.int v15), .val (.int v16), .val (.int v17), .val (.int (0 : Int32)), .val (.int v19), .val (.ref b20), .val (.ref b52), .val (.int v75), .val (.int v76), .val (.int rr)]) X77 C at_239 rfl rfl ?_
    refine W.iload (q := 243) X77 C at_241 rfl rfl ?_
    refine W.iload (q := 245) X77 C at_243 rfl rfl ?_
    refine W.icmpF (q := 248) X77 C at_245 rfl (show rr = v75 by rw [hrr, ← hv75]) ?_
    refine W.aload (q := 250) X77 C at_248 rfl rfl rfl ?_
    refine W.aload (q := 252) X77 C at_250 rfl rfl rfl ?_
    refine W.iload (q := 254) X77 C at_252 rfl rfl ?_
    refine W.iload (q := 256) X77 C at_254 rfl rfl ?_
    refine W.iconst (q := 257) (v := 0) X77 C at_256 rfl rfl ?_
    refine W.callS (q := 260) X77 C (W.ww hw 10 rfl) (W.ww hw 11 rfl) (W.ww hw 4 rfl) (W.ww hw 12 rfl) (by decide) (rm3 l Z a0 hw [] b20 b52 v19 v76 (0 : Int32) k20 k52 lq' (own_o L51)  T77.heap n0 V77 VO_79 okq' oko (⟨by decide, by decide⟩ : own_in (0 : Int32))) rfl at_257 [(.ref b20), (.ref b52), (.int v19), (.int v76), (.int (0 : Int32))] [] rfl rfl pd__28_5bI_5bIIII_29Z rfl rfl (by decide) (Nat.le_of_ble_eq_true rfl) (by decide) (by decide) rfl (fun T80 w80 L80 X80 hQ80 => ?_)
    obtain ⟨rfl, NL80, e80⟩ := hQ80
    have N80 := Fr.app N77 NL80
    show W.Go p e below _ (T80.setTop (mkF m 260 #[.val (.int p0), .val (.int p1), .val (.int p2), .val (.int p3), .val (.int p4), .val (.int p5), .val (.int v13), .val (.int v14), .val (.int v15), .val (.int v16), .val (.int v17), .val (.int (0 : Int32)), .val (.int v19), .val (.ref b20), .val (.ref b52), .val (.int v75), .val (.int v76), .val (.int rr)] [(.int (own_entry lq' (own_o L51) v19 v76 (0 : Int32)))]))
    refine W.ifF (q := 263) X80 C at_260 rfl (show (own_entry lq' (own_o L51) v19 v76 (0 : Int32)) ≠ 0 by rw [← hv76, t0]; decide) ?_
    refine W.aload (q := 265) X80 C at_263 rfl rfl rfl ?_
    refine W.aload (q := 267) X80 C at_265 rfl rfl rfl ?_
    refine W.iload (q := 269) X80 C at_267 rfl rfl ?_
    refine W.iload (q := 271) X80 C at_269 rfl rfl ?_
    refine W.iconst (q := 272) (v := 1) X80 C at_271 rfl rfl ?_
    refine W.callS (q := 275) X80 C (W.ww hw 10 rfl) (W.ww hw 11 rfl) (W.ww hw 4 rfl) (W.ww hw 12 rfl) (by decide) (rm3 l Z a0 hw [] b20 b52 v19 v76 (1 : Int32) k20 k52 lq' (own_o L51)  T77.heap n0 V77 VO_79 okq' oko (⟨by decide, by decide⟩ : own_in (1 : Int32))) e80 at_272 [(.ref b20), (.ref b52), (.int v19), (.int v76), (.int (1 : Int32))] [] rfl rfl pd__28_5bI_5bIIII_29Z rfl rfl (by decide) (Nat.le_of_ble_eq_true rfl) (by decide) (by decide) rfl (fun T81 w81 L81 X81 hQ81 => ?_)
    obtain ⟨rfl, NL81, e81⟩ := hQ81
    have N81 := Fr.app N80 NL81
    show W.Go p e below _ (T81.setTop (mkF m 275 #[.val (.int p0), .val (.int p1), .val (.int p2), .val (.int p3), .val (.int p4), .val (.int p5), .val (.int v13), .val (.int v14), .val (.int v15), .val (.int v16), .val (.int v17), .val (.int (0 : Int32)), .val (.int v19), .val (.ref b20), .val (.ref b52), .val (.int v75), .val (.int v76), .val (.int rr)] [(.int (own_entry lq' (own_o L51) v19 v76 (1 : Int32)))]))
    refine W.ifF (q := 278) X81 C at_275 rfl (show (own_entry lq' (own_o L51) v19 v76 (1 : Int32)) ≠ 0 by rw [← hv76, t1]; decide) ?_
    refine W.aload (q := 280) X81 C at_278 rfl rfl rfl ?_
    refine W.aload (q := 282) X81 C at_280 rfl rfl rfl ?_
    refine W.iload (q := 284) X81 C at_282 rfl rfl ?_
    refine W.iload (q := 286) X81 C at_284 rfl rfl ?_
    refine W.iconst (q := 287) (v := 2) X81 C at_286 rfl rfl ?_
    refine W.callS (q := 290) X81 C (W.ww hw 10 rfl) (W.ww hw 11 rfl) (W.ww hw 4 rfl) (W.ww hw 12 rfl) (by decide) (rm3 l Z a0 hw [] b20 b52 v19 v76 (2 : Int32) k20 k52 lq' (own_o L51)  T77.heap n0 V77 VO_79 okq' oko (⟨by decide, by decide⟩ : own_in (2 : Int32))) e81 at_287 [(.ref b20), (.ref b52), (.int v19), (.int v76), (.int (2 : Int32))] [] rfl rfl pd__28_5bI_5bIIII_29Z rfl rfl (by decide) (Nat.le_of_ble_eq_true rfl) (by decide) (by decide) rfl (fun T82 w82 L82 X82 hQ82 => ?_)
    obtain ⟨rfl, NL82, e82⟩ := hQ82
    have N82 := Fr.app N81 NL82
    show W.Go p e below _ (T82.setTop (mkF m 290 #[.val (.int p0), .val (.int p1), .val (.int p2), .val (.int p3), .val (.int p4), .val (.int p5), .val (.int v13), .val (.int v14), .val (.int v15), .val (.int v16), .val (.int v17), .val (.int (0 : Int32)), .val (.int v19), .val (.ref b20), .val (.ref b52), .val (.int v75), .val (.int v76), .val (.int rr)] [(.int (own_entry lq' (own_o L51) v19 v76 (2 : Int32)))]))
    refine W.ifF (q := 293) X82 C at_290 rfl (show (own_entry lq' (own_o L51) v19 v76 (2 : Int32)) ≠ 0 by rw [← hv76, t2]; decide) ?_
    refine W.aload (q := 295) X82 C at_293 rfl rfl rfl ?_
    refine W.aload (q := 297) X82 C at_295 rfl rfl rfl ?_
    refine W.iload (q := 299) X82 C at_297 rfl rfl ?_
    refine W.iload (q := 301) X82 C at_299 rfl rfl ?_
    refine W.iconst (q := 302) (v := 3) X82 C at_301 rfl rfl ?_
    refine W.callS (q := 305) X82 C (W.ww hw 10 rfl) (W.ww hw 11 rfl) (W.ww hw 4 rfl) (W.ww hw 12 rfl) (by decide) (rm3 l Z a0 hw [] b20 b52 v19 v76 (3 : Int32) k20 k52 lq' (own_o L51)  T77.heap n0 V77 VO_79 okq' oko (⟨by decide, by decide⟩ : own_in (3 : Int32))) e82 at_302 [(.ref b20), (.ref b52), (.int v19), (.int v76), (.int (3 : Int32))] [] rfl rfl pd__28_5bI_5bIIII_29Z rfl rfl (by decide) (Nat.le_of_ble_eq_true rfl) (by decide) (by decide) rfl (fun T83 w83 L83 X83 hQ83 => ?_)
    obtain ⟨rfl, NL83, e83⟩ := hQ83
    have N83 := Fr.app N82 NL83
    show W.Go p e below _ (T83.setTop (mkF m 305 #[.val (.int p0), .val (.int p1), .val (.int p2), .val (.int p3), .val (.int p4), .val (.int p5), .val (.int v13), .val (.int v14), .val (.int v15), .val (.int v16), .val (.int v17), .val (.int (0 : Int32)), .val (.int v19), .val (.ref b20), .val (.ref b52), .val (.int v75), .val (.int v76), .val (.int rr)] [(.int (own_entry lq' (own_o L51) v19 v76 (3 : Int32)))]))
    refine W.ifF (q := 308) X83 C at_305 rfl (show (own_entry lq' (own_o L51) v19 v76 (3 : Int32)) ≠ 0 by rw [← hv76, t3]; decide) ?_
    refine W.aload (q := 310) X83 C at_308 rfl rfl rfl ?_
    refine W.aload (q := 312) X83 C at_310 rfl rfl rfl ?_
    refine W.iload (q := 314) X83 C at_312 rfl rfl ?_
    refine W.iload (q := 316) X83 C at_314 rfl rfl ?_
    refine W.iconst (q := 317) (v := 4) X83 C at_316 rfl rfl ?_
    refine W.callS (q := 320) X83 C (W.ww hw 10 rfl) (W.ww hw 11 rfl) (W.ww hw 4 rfl) (W.ww hw 12 rfl) (by decide) (rm3 l Z a0 hw [] b20 b52 v19 v76 (4 : Int32) k20 k52 lq' (own_o L51)  T77.heap n0 V77 VO_79 okq' oko (⟨by decide, by decide⟩ : own_in (4 : Int32))) e83 at_317 [(.ref b20), (.ref b52), (.int v19), (.int v76), (.int (4 : Int32))] [] rfl rfl pd__28_5bI_5bIIII_29Z rfl rfl (by decide) (Nat.le_of_ble_eq_true rfl) (by decide) (by decide) rfl (fun T84 w84 L84 X84 hQ84 => ?_)
    obtain ⟨rfl, NL84, e84⟩ := hQ84
    have N84 := Fr.app N83 NL84
    show W.Go p e below _ (T84.setTop (mkF m 320 #[.val (.int p0), .val (.int p1), .val (.int p2), .val (.int p3), .val (.int p4), .val (.int p5), .val (.int v13), .val (.int v14), .val (.int v15), .val (.int v16), .val (.int v17), .val (.int (0 : Int32)), .val (.int v19), .val (.ref b20), .val (.ref b52), .val (.int v75), .val (.int v76), .val (.int rr)] [(.int (own_entry lq' (own_o L51) v19 v76 (4 : Int32)))]))
    refine W.ifF (q := 323) X84 C at_320 rfl (show (own_entry lq' (own_o L51) v19 v76 (4 : Int32)) ≠ 0 by rw [← hv76, t4]; decide) ?_
    refine W.iconst (q := 324) (v := 1) X84 C at_323 rfl rfl ?_
    refine W.goto (q := 328) X84 C at_324 (by decide) (by decide) ?_
    exact W.retN X84 C (by simp) e84 at_328 rfl (by decide) (by decide) ⟨rfl, N84⟩
  · replace hc18 : p4.toInt < (0 : Int32).toInt := hc18
    refine W.iconst (q := 47) (v := 1) X0 C at_46 rfl rfl ?_
    refine W.goto (q := 51) X0 C at_47 (by decide) (by decide) ?_
    refine W.istore (q := 53) (L' := #[.val (.int p0), .val (.int p1), .val (.int p2), .val (.int p3), .val (.int p4), .val (.int p5), .val (.int v13), .val (.int v14), .val (.int v15), .val (.int v16), .val (.int v17), .val (.int (1 : Int32)), .unset, .unset, .unset, .unset, .unset, .unset]) X0 C at_51 rfl rfl ?_
    have rv13 := own_rem _ _ _ 2 (by decide) (by decide) hv13
    have rv14 := own_rem _ _ _ 3 (by decide) (by decide) hv14
    have rv15 := own_rem _ _ _ 4 (by decide) (by decide) hv15
    have rv16 := own_rem _ _ _ 5 (by decide) (by decide) hv16
    have rv17 := own_rem _ _ _ 5 (by decide) (by decide) hv17
    have hf : (1 : Int32) = (0 : Int32) ∨ (1 : Int32) = 1 := by decide
    refine W.iload (q := 55) X0 C at_53 rfl rfl ?_
    refine W.ldcI (q := 57) X0 C (W.ww hw 0 rfl) at_55 rfl ?_
    refine W.iand (q := 58) X0 C at_57 rfl ?_
    refine W.iconst (q := 59) (v := 5) X0 C at_58 rfl rfl ?_
    refine W.irem (q := 60) X0 C at_59 (by decide) rfl ?_
    generalize hv85 : ((p5 &&& (2147483647 : Int32)) % (5 : Int32)) = v85
    refine W.istore (q := 62) (L' := #[.val (.int p0), .val (.int p1), .val (.int p2), .val (.int p3), .val (.int p4), .val (.int p5), .val (.int v13), .val (.int v14), .val (.int v15), .val (.int v16), .val (.int v17), .val (.int (1 : Int32)), .val (.int v85), .unset, .unset, .unset, .unset, .unset]) X0 C at_60 rfl rfl ?_
    have rv85 := own_rem _ _ _ 5 (by decide) (by decide) hv85
    refine W.iconst (q := 63) (v := 5) X0 C at_62 rfl rfl ?_
    refine W.newarray (q := 65) X0 C (W.ww hw 1 rfl) e0 (by decide) 5 (by decide) (by decide) at_63 (by decide) (by decide) rfl (fun T86 h86 b86 k86 X86 e86 g86 E86 V86_ => ?_)
    have ge_b86 : n0 ≤ b86 := by rw [g86]; exact Z0
    have n0_86 : n0 ≤ h86.size := Nat.le_trans Z0 E86.1
    have V86 : Arv Z h86 b86 k86 .int (5 : Int32) [(.int (0 : Int32)), (.int (0 : Int32)), (.int (0 : Int32)), (.int (0 : Int32)), (.int (0 : Int32))] (.int (0 : Int32)) := V86_
    have VV : Arv Z h86 b86 k86 .int (5 : Int32) (own_vs [0, 0, 0, 0, 0]) (.int (0 : Int32)) := V86
    have okz : own_ok [0, 0, 0, 0, 0] := by decide
    generalize hLz : ([0, 0, 0, 0, 0] : List Int32) = Lz at VV okz
    refine W.astore (q := 67) (L' := #[.val (.int p0), .val (.int p1), .val (.int p2), .val (.int p3), .val (.int p4), .val (.int p5), .val (.int v13), .val (.int v14), .val (.int v15), .val (.int v16), .val (.int v17), .val (.int (1 : Int32)), .val (.int v85), .val (.ref b86), .unset, .unset, .unset, .unset]) X86 C at_65 rfl rfl rfl ?_
    refine W.aload (q := 69) X86 C at_67 rfl rfl rfl ?_
    refine W.iconst (q := 70) (v := 0) X86 C at_69 rfl rfl ?_
    refine W.iload (q := 72) X86 C at_70 rfl rfl ?_
    refine W.iload (q := 74) X86 C at_72 rfl rfl ?_
    refine W.callS (q := 77) X86 C (W.ww hw 2 rfl) (W.ww hw 3 rfl) (W.ww hw 4 rfl) (W.ww hw 5 rfl) (by decide) (rm1 l Z a0 hw [] (0 : Int32) v17 (1 : Int32) h86 n0) e86 at_74 [(.int (0 : Int32)), (.int v17), (.int (1 : Int32))] [(.ref b86)] rfl rfl pd__28IIZ_29I rfl rfl (by decide) (Nat.le_of_ble_eq_true rfl) (by decide) (by decide) rfl (fun T88 w88 L88 X88 hQ88 => ?_)
    obtain ⟨rfl, NL88, e88⟩ := hQ88
    have N88 := Fr.app N0 NL88
    show W.Go p e below _ (T88.setTop (mkF m 77 #[.val (.int p0), .val (.int p1), .val (.int p2), .val (.int p3), .val (.int p4), .val (.int p5), .val (.int v13), .val (.int v14), .val (.int v15), .val (.int v16), .val (.int v17), .val (.int (1 : Int32)), .val (.int v85), .val (.ref b86), .unset, .unset, .unset, .unset] [(.int (own_lab (0 : Int32) v17 (1 : Int32))), (.ref b86)]))
    refine W.iconst (q := 78) (v := 0) X88 C at_77 rfl rfl ?_
    refine W.iload (q := 80) X88 C at_78 rfl rfl ?_
    refine W.iload (q := 82) X88 C at_80 rfl rfl ?_
    refine W.callS (q := 85) X88 C (W.ww hw 2 rfl) (W.ww hw 3 rfl) (W.ww hw 4 rfl) (W.ww hw 5 rfl) (by decide) (rm1 l Z a0 hw [] (0 : Int32) v17 (1 : Int32) h86 n0) e88 at_82 [(.int (0 : Int32)), (.int v17), (.int (1 : Int32))] [(.int (own_lab (0 : Int32) v17 (1 : Int32))), (.ref b86)] rfl rfl pd__28IIZ_29I rfl rfl (by decide) (Nat.le_of_ble_eq_true rfl) (by decide) (by decide) rfl (fun T89 w89 L89 X89 hQ89 => ?_)
    obtain ⟨rfl, NL89, e89⟩ := hQ89
    have N89 := Fr.app N88 NL89
    show W.Go p e below _ (T89.setTop (mkF m 85 #[.val (.int p0), .val (.int p1), .val (.int p2), .val (.int p3), .val (.int p4), .val (.int p5), .val (.int v13), .val (.int v14), .val (.int v15), .val (.int v16), .val (.int v17), .val (.int (1 : Int32)), .val (.int v85), .val (.ref b86), .unset, .unset, .unset, .unset] [(.int (own_lab (0 : Int32) v17 (1 : Int32))), (.int (own_lab (0 : Int32) v17 (1 : Int32))), (.ref b86)]))
    refine W.iastore (q := 86) X89 C e89 VV  (own_lab_in (⟨by decide, by decide⟩ : own_in (0 : Int32)) (own_of rv17) hf).1 (own_lab_in (⟨by decide, by decide⟩ : own_in (0 : Int32)) (own_of rv17) hf).2 (own_len okz (own_lab_in (⟨by decide, by decide⟩ : own_in (0 : Int32)) (own_of rv17) hf)) at_85 rfl (fun T90 h90 X90 e90 W90 V90_ => ?_)
    have N90 := Fr.snoc X90 N89 ge_b86
    have n0_90 : n0 ≤ h90.size := by rw [W90.size]; exact n0_86
    rw [own_set] at V90_
    have ok93 : own_ok (own_s Lz (own_lab (0 : Int32) v17 (1 : Int32)) (own_lab (0 : Int32) v17 (1 : Int32))) := own_s_ok okz (own_lab_in (⟨by decide, by decide⟩ : own_in (0 : Int32)) (own_of rv17) hf)
    generalize hL93 : own_s Lz (own_lab (0 : Int32) v17 (1 : Int32)) (own_lab (0 : Int32) v17 (1 : Int32)) = L93 at V90_ ok93
    refine W.aload (q := 88) X90 C at_86 rfl rfl rfl ?_
    refine W.iconst (q := 89) (v := 1) X90 C at_88 rfl rfl ?_
    refine W.iload (q := 91) X90 C at_89 rfl rfl ?_
    refine W.iload (q := 93) X90 C at_91 rfl rfl ?_
    refine W.callS (q := 96) X90 C (W.ww hw 2 rfl) (W.ww hw 3 rfl) (W.ww hw 4 rfl) (W.ww hw 5 rfl) (by decide) (rm1 l Z a0 hw [] (1 : Int32) v17 (1 : Int32) h90 n0) e90 at_93 [(.int (1 : Int32)), (.int v17), (.int (1 : Int32))] [(.ref b86)] rfl rfl pd__28IIZ_29I rfl rfl (by decide) (Nat.le_of_ble_eq_true rfl) (by decide) (by decide) rfl (fun T94 w94 L94 X94 hQ94 => ?_)
    obtain ⟨rfl, NL94, e94⟩ := hQ94
    have N94 := Fr.app N90 NL94
    show W.Go p e below _ (T94.setTop (mkF m 96 #[.val (.int p0), .val (.int p1), .val (.int p2), .val (.int p3), .val (.int p4), .val (.int p5), .val (.int v13), .val (.int v14), .val (.int v15), .val (.int v16), .val (.int v17), .val (.int (1 : Int32)), .val (.int v85), .val (.ref b86), .unset, .unset, .unset, .unset] [(.int (own_lab (1 : Int32) v17 (1 : Int32))), (.ref b86)]))
    refine W.iload (q := 98) X94 C at_96 rfl rfl ?_
    refine W.iload (q := 100) X94 C at_98 rfl rfl ?_
    refine W.iload (q := 102) X94 C at_100 rfl rfl ?_
    refine W.callS (q := 105) X94 C (W.ww hw 2 rfl) (W.ww hw 3 rfl) (W.ww hw 4 rfl) (W.ww hw 5 rfl) (by decide) (rm1 l Z a0 hw [] v13 v17 (1 : Int32) h90 n0) e94 at_102 [(.int v13), (.int v17), (.int (1 : Int32))] [(.int (own_lab (1 : Int32) v17 (1 : Int32))), (.ref b86)] rfl rfl pd__28IIZ_29I rfl rfl (by decide) (Nat.le_of_ble_eq_true rfl) (by decide) (by decide) rfl (fun T95 w95 L95 X95 hQ95 => ?_)
    obtain ⟨rfl, NL95, e95⟩ := hQ95
    have N95 := Fr.app N94 NL95
    show W.Go p e below _ (T95.setTop (mkF m 105 #[.val (.int p0), .val (.int p1), .val (.int p2), .val (.int p3), .val (.int p4), .val (.int p5), .val (.int v13), .val (.int v14), .val (.int v15), .val (.int v16), .val (.int v17), .val (.int (1 : Int32)), .val (.int v85), .val (.ref b86), .unset, .unset, .unset, .unset] [(.int (own_lab v13 v17 (1 : Int32))), (.int (own_lab (1 : Int32) v17 (1 : Int32))), (.ref b86)]))
    refine W.iastore (q := 106) X95 C e95 V90_  (own_lab_in (⟨by decide, by decide⟩ : own_in (1 : Int32)) (own_of rv17) hf).1 (own_lab_in (⟨by decide, by decide⟩ : own_in (1 : Int32)) (own_of rv17) hf).2 (own_len ok93 (own_lab_in (⟨by decide, by decide⟩ : own_in (1 : Int32)) (own_of rv17) hf)) at_105 rfl (fun T96 h96 X96 e96 W96 V96_ => ?_)
    have N96 := Fr.snoc X96 N95 ge_b86
    have n0_96 : n0 ≤ h96.size := by rw [W96.size]; exact n0_90
    rw [own_set] at V96_
    have ok99 : own_ok (own_s L93 (own_lab (1 : Int32) v17 (1 : Int32)) (own_lab v13 v17 (1 : Int32))) := own_s_ok ok93 (own_lab_in (own_of' rv13 (by decide)) (own_of rv17) hf)
    generalize hL99 : own_s L93 (own_lab (1 : Int32) v17 (1 : Int32)) (own_lab v13 v17 (1 : Int32)) = L99 at V96_ ok99
    refine W.aload (q := 108) X96 C at_106 rfl rfl rfl ?_
    refine W.iconst (q := 109) (v := 2) X96 C at_108 rfl rfl ?_
    refine W.iload (q := 111) X96 C at_109 rfl rfl ?_
    refine W.iload (q := 113) X96 C at_111 rfl rfl ?_
    refine W.callS (q := 116) X96 C (W.ww hw 2 rfl) (W.ww hw 3 rfl) (W.ww hw 4 rfl) (W.ww hw 5 rfl) (by decide) (rm1 l Z a0 hw [] (2 : Int32) v17 (1 : Int32) h96 n0) e96 at_113 [(.int (2 : Int32)), (.int v17), (.int (1 : Int32))] [(.ref b86)] rfl rfl pd__28IIZ_29I rfl rfl (by decide) (Nat.le_of_ble_eq_true rfl) (by decide) (by decide) rfl (fun T100 w100 L100 X100 hQ100 => ?_)
    obtain ⟨rfl, NL100, e100⟩ := hQ100
    have N100 := Fr.app N96 NL100
    show W.Go p e below _ (T100.setTop (mkF m 116 #[.val (.int p0), .val (.int p1), .val (.int p2), .val (.int p3), .val (.int p4), .val (.int p5), .val (.int v13), .val (.int v14), .val (.int v15), .val (.int v16), .val (.int v17), .val (.int (1 : Int32)), .val (.int v85), .val (.ref b86), .unset, .unset, .unset, .unset] [(.int (own_lab (2 : Int32) v17 (1 : Int32))), (.ref b86)]))
    refine W.iload (q := 118) X100 C at_116 rfl rfl ?_
    refine W.iload (q := 120) X100 C at_118 rfl rfl ?_
    refine W.iload (q := 122) X100 C at_120 rfl rfl ?_
    refine W.callS (q := 125) X100 C (W.ww hw 2 rfl) (W.ww hw 3 rfl) (W.ww hw 4 rfl) (W.ww hw 5 rfl) (by decide) (rm1 l Z a0 hw [] v14 v17 (1 : Int32) h96 n0) e100 at_122 [(.int v14), (.int v17), (.int (1 : Int32))] [(.int (own_lab (2 : Int32) v17 (1 : Int32))), (.ref b86)] rfl rfl pd__28IIZ_29I rfl rfl (by decide) (Nat.le_of_ble_eq_true rfl) (by decide) (by decide) rfl (fun T101 w101 L101 X101 hQ101 => ?_)
    obtain ⟨rfl, NL101, e101⟩ := hQ101
    have N101 := Fr.app N100 NL101
    show W.Go p e below _ (T101.setTop (mkF m 125 #[.val (.int p0), .val (.int p1), .val (.int p2), .val (.int p3), .val (.int p4), .val (.int p5), .val (.int v13), .val (.int v14), .val (.int v15), .val (.int v16), .val (.int v17), .val (.int (1 : Int32)), .val (.int v85), .val (.ref b86), .unset, .unset, .unset, .unset] [(.int (own_lab v14 v17 (1 : Int32))), (.int (own_lab (2 : Int32) v17 (1 : Int32))), (.ref b86)]))
    refine W.iastore (q := 126) X101 C e101 V96_  (own_lab_in (⟨by decide, by decide⟩ : own_in (2 : Int32)) (own_of rv17) hf).1 (own_lab_in (⟨by decide, by decide⟩ : own_in (2 : Int32)) (own_of rv17) hf).2 (own_len ok99 (own_lab_in (⟨by decide, by decide⟩ : own_in (2 : Int32)) (own_of rv17) hf)) at_125 rfl (fun T102 h102 X102 e102 W102 V102_ => ?_)
    have N102 := Fr.snoc X102 N101 ge_b86
    have n0_102 : n0 ≤ h102.size := by rw [W102.size]; exact n0_96
    rw [own_set] at V102_
    have ok105 : own_ok (own_s L99 (own_lab (2 : Int32) v17 (1 : Int32)) (own_lab v14 v17 (1 : Int32))) := own_s_ok ok99 (own_lab_in (own_of' rv14 (by decide)) (own_of rv17) hf)
    generalize hL105 : own_s L99 (own_lab (2 : Int32) v17 (1 : Int32)) (own_lab v14 v17 (1 : Int32)) = L105 at V102_ ok105
    refine W.aload (q := 128) X102 C at_126 rfl rfl rfl ?_
    refine W.iconst (q := 129) (v := 3) X102 C at_128 rfl rfl ?_
    refine W.iload (q := 131) X102 C at_129 rfl rfl ?_
    refine W.iload (q := 133) X102 C at_131 rfl rfl ?_
    refine W.callS (q := 136) X102 C (W.ww hw 2 rfl) (W.ww hw 3 rfl) (W.ww hw 4 rfl) (W.ww hw 5 rfl) (by decide) (rm1 l Z a0 hw [] (3 : Int32) v17 (1 : Int32) h102 n0) e102 at_133 [(.int (3 : Int32)), (.int v17), (.int (1 : Int32))] [(.ref b86)] rfl rfl pd__28IIZ_29I rfl rfl (by decide) (Nat.le_of_ble_eq_true rfl) (by decide) (by decide) rfl (fun T106 w106 L106 X106 hQ106 => ?_)
    obtain ⟨rfl, NL106, e106⟩ := hQ106
    have N106 := Fr.app N102 NL106
    show W.Go p e below _ (T106.setTop (mkF m 136 #[.val (.int p0), .val (.int p1), .val (.int p2), .val (.int p3), .val (.int p4), .val (.int p5), .val (.int v13), .val (.int v14), .val (.int v15), .val (.int v16), .val (.int v17), .val (.int (1 : Int32)), .val (.int v85), .val (.ref b86), .unset, .unset, .unset, .unset] [(.int (own_lab (3 : Int32) v17 (1 : Int32))), (.ref b86)]))
    refine W.iload (q := 138) X106 C at_136 rfl rfl ?_
    refine W.iload (q := 140) X106 C at_138 rfl rfl ?_
    refine W.iload (q := 142) X106 C at_140 rfl rfl ?_
    refine W.callS (q := 145) X106 C (W.ww hw 2 rfl) (W.ww hw 3 rfl) (W.ww hw 4 rfl) (W.ww hw 5 rfl) (by decide) (rm1 l Z a0 hw [] v15 v17 (1 : Int32) h102 n0) e106 at_142 [(.int v15), (.int v17), (.int (1 : Int32))] [(.int (own_lab (3 : Int32) v17 (1 : Int32))), (.ref b86)] rfl rfl pd__28IIZ_29I rfl rfl (by decide) (Nat.le_of_ble_eq_true rfl) (by decide) (by decide) rfl (fun T107 w107 L107 X107 hQ107 => ?_)
    obtain ⟨rfl, NL107, e107⟩ := hQ107
    have N107 := Fr.app N106 NL107
    show W.Go p e below _ (T107.setTop (mkF m 145 #[.val (.int p0), .val (.int p1), .val (.int p2), .val (.int p3), .val (.int p4), .val (.int p5), .val (.int v13), .val (.int v14), .val (.int v15), .val (.int v16), .val (.int v17), .val (.int (1 : Int32)), .val (.int v85), .val (.ref b86), .unset, .unset, .unset, .unset] [(.int (own_lab v15 v17 (1 : Int32))), (.int (own_lab (3 : Int32) v17 (1 : Int32))), (.ref b86)]))
    refine W.iastore (q := 146) X107 C e107 V102_  (own_lab_in (⟨by decide, by decide⟩ : own_in (3 : Int32)) (own_of rv17) hf).1 (own_lab_in (⟨by decide, by decide⟩ : own_in (3 : Int32)) (own_of rv17) hf).2 (own_len ok105 (own_lab_in (⟨by decide, by decide⟩ : own_in (3 : Int32)) (own_of rv17) hf)) at_145 rfl (fun T108 h108 X108 e108 W108 V108_ => ?_)
    have N108 := Fr.snoc X108 N107 ge_b86
    have n0_108 : n0 ≤ h108.size := by rw [W108.size]; exact n0_102
    rw [own_set] at V108_
    have ok111 : own_ok (own_s L105 (own_lab (3 : Int32) v17 (1 : Int32)) (own_lab v15 v17 (1 : Int32))) := own_s_ok ok105 (own_lab_in (own_of' rv15 (by decide)) (own_of rv17) hf)
    generalize hL111 : own_s L105 (own_lab (3 : Int32) v17 (1 : Int32)) (own_lab v15 v17 (1 : Int32)) = L111 at V108_ ok111
    refine W.aload (q := 148) X108 C at_146 rfl rfl rfl ?_
    refine W.iconst (q := 149) (v := 4) X108 C at_148 rfl rfl ?_
    refine W.iload (q := 151) X108 C at_149 rfl rfl ?_
    refine W.iload (q := 153) X108 C at_151 rfl rfl ?_
    refine W.callS (q := 156) X108 C (W.ww hw 2 rfl) (W.ww hw 3 rfl) (W.ww hw 4 rfl) (W.ww hw 5 rfl) (by decide) (rm1 l Z a0 hw [] (4 : Int32) v17 (1 : Int32) h108 n0) e108 at_153 [(.int (4 : Int32)), (.int v17), (.int (1 : Int32))] [(.ref b86)] rfl rfl pd__28IIZ_29I rfl rfl (by decide) (Nat.le_of_ble_eq_true rfl) (by decide) (by decide) rfl (fun T112 w112 L112 X112 hQ112 => ?_)
    obtain ⟨rfl, NL112, e112⟩ := hQ112
    have N112 := Fr.app N108 NL112
    show W.Go p e below _ (T112.setTop (mkF m 156 #[.val (.int p0), .val (.int p1), .val (.int p2), .val (.int p3), .val (.int p4), .val (.int p5), .val (.int v13), .val (.int v14), .val (.int v15), .val (.int v16), .val (.int v17), .val (.int (1 : Int32)), .val (.int v85), .val (.ref b86), .unset, .unset, .unset, .unset] [(.int (own_lab (4 : Int32) v17 (1 : Int32))), (.ref b86)]))
    refine W.iload (q := 158) X112 C at_156 rfl rfl ?_
    refine W.iload (q := 160) X112 C at_158 rfl rfl ?_
    refine W.iload (q := 162) X112 C at_160 rfl rfl ?_
    refine W.callS (q := 165) X112 C (W.ww hw 2 rfl) (W.ww hw 3 rfl) (W.ww hw 4 rfl) (W.ww hw 5 rfl) (by decide) (rm1 l Z a0 hw [] v16 v17 (1 : Int32) h108 n0) e112 at_162 [(.int v16), (.int v17), (.int (1 : Int32))] [(.int (own_lab (4 : Int32) v17 (1 : Int32))), (.ref b86)] rfl rfl pd__28IIZ_29I rfl rfl (by decide) (Nat.le_of_ble_eq_true rfl) (by decide) (by decide) rfl (fun T113 w113 L113 X113 hQ113 => ?_)
    obtain ⟨rfl, NL113, e113⟩ := hQ113
    have N113 := Fr.app N112 NL113
    show W.Go p e below _ (T113.setTop (mkF m 165 #[.val (.int p0), .val (.int p1), .val (.int p2), .val (.int p3), .val (.int p4), .val (.int p5), .val (.int v13), .val (.int v14), .val (.int v15), .val (.int v16), .val (.int v17), .val (.int (1 : Int32)), .val (.int v85), .val (.ref b86), .unset, .unset, .unset, .unset] [(.int (own_lab v16 v17 (1 : Int32))), (.int (own_lab (4 : Int32) v17 (1 : Int32))), (.ref b86)]))
    refine W.iastore (q := 166) X113 C e113 V108_  (own_lab_in (⟨by decide, by decide⟩ : own_in (4 : Int32)) (own_of rv17) hf).1 (own_lab_in (⟨by decide, by decide⟩ : own_in (4 : Int32)) (own_of rv17) hf).2 (own_len ok111 (own_lab_in (⟨by decide, by decide⟩ : own_in (4 : Int32)) (own_of rv17) hf)) at_165 rfl (fun T114 h114 X114 e114 W114 V114_ => ?_)
    have N114 := Fr.snoc X114 N113 ge_b86
    have n0_114 : n0 ≤ h114.size := by rw [W114.size]; exact n0_108
    rw [own_set] at V114_
    have ok117 : own_ok (own_s L111 (own_lab (4 : Int32) v17 (1 : Int32)) (own_lab v16 v17 (1 : Int32))) := own_s_ok ok111 (own_lab_in (own_of rv16) (own_of rv17) hf)
    generalize hL117 : own_s L111 (own_lab (4 : Int32) v17 (1 : Int32)) (own_lab v16 v17 (1 : Int32)) = L117 at V114_ ok117
    refine W.iconst (q := 167) (v := 5) X114 C at_166 rfl rfl ?_
    refine W.newarray (q := 169) X114 C (W.ww hw 1 rfl) e114 (by decide) 5 (by decide) (by decide) at_167 (by decide) (by decide) rfl (fun T118 h118 b118 k118 X118 e118 g118 E118 V118_ => ?_)
    have ne_b86_b118 : b86 ≠ b118 := by rw [g118]; exact Nat.ne_of_lt V114_.lt
    have ge_b118 : n0 ≤ b118 := by rw [g118]; exact n0_114
    have n0_118 : n0 ≤ h118.size := Nat.le_trans n0_114 E118.1
    have V114__120 := V114_.ext E118
    have V118 : Arv Z h118 b118 k118 .int (5 : Int32) [(.int (0 : Int32)), (.int (0 : Int32)), (.int (0 : Int32)), (.int (0 : Int32)), (.int (0 : Int32))] (.int (0 : Int32)) := V118_
    refine W.dup (q := 170) X118 C at_169 rfl rfl ?_
    refine W.iconst (q := 171) (v := 0) X118 C at_170 rfl rfl ?_
    refine W.aload (q := 173) X118 C at_171 rfl rfl rfl ?_
    refine W.iconst (q := 174) (v := 0) X118 C at_173 rfl rfl ?_
    refine W.iaload (q := 175) X118 C e118 V114__120 (⟨by decide, by decide⟩ : own_in (0 : Int32)).1 (⟨by decide, by decide⟩ : own_in (0 : Int32)).2 (own_get ok117 (⟨by decide, by decide⟩ : own_in (0 : Int32))) at_174 rfl ?_
    refine W.iastore (q := 176) X118 C e118 V118  (by decide) (by decide) (Nat.le_of_ble_eq_true rfl) at_175 rfl (fun T121 h121 X121 e121 W121 V121_ => ?_)
    have V114__123 := V114__120.other W121 ne_b86_b118
    have V121 : Arv Z h121 b118 k118 .int (5 : Int32) [(.int (own_g L117 (0 : Int32))), (.int (0 : Int32)), (.int (0 : Int32)), (.int (0 : Int32)), (.int (0 : Int32))] (.int (0 : Int32)) := V121_
    have N121 := Fr.snoc X121 N114 ge_b118
    have n0_121 : n0 ≤ h121.size := by rw [W121.size]; exact n0_118
    refine W.dup (q := 177) X121 C at_176 rfl rfl ?_
    refine W.iconst (q := 178) (v := 1) X121 C at_177 rfl rfl ?_
    refine W.aload (q := 180) X121 C at_178 rfl rfl rfl ?_
    refine W.iconst (q := 181) (v := 1) X121 C at_180 rfl rfl ?_
    refine W.iaload (q := 182) X121 C e121 V114__123 (⟨by decide, by decide⟩ : own_in (1 : Int32)).1 (⟨by decide, by decide⟩ : own_in (1 : Int32)).2 (own_get ok117 (⟨by decide, by decide⟩ : own_in (1 : Int32))) at_181 rfl ?_
    refine W.iastore (q := 183) X121 C e121 V121  (by decide) (by decide) (Nat.le_of_ble_eq_true rfl) at_182 rfl (fun T125 h125 X125 e125 W125 V125_ => ?_)
    have V114__127 := V114__123.other W125 ne_b86_b118
    have V125 : Arv Z h125 b118 k118 .int (5 : Int32) [(.int (own_g L117 (0 : Int32))), (.int (own_g L117 (1 : Int32))), (.int (0 : Int32)), (.int (0 : Int32)), (.int (0 : Int32))] (.int (0 : Int32)) := V125_
    have N125 := Fr.snoc X125 N121 ge_b118
    have n0_125 : n0 ≤ h125.size := by rw [W125.size]; exact n0_121
    refine W.dup (q := 184) X125 C at_183 rfl rfl ?_
    refine W.iconst (q := 185) (v := 2) X125 C at_184 rfl rfl ?_
    refine W.aload (q := 187) X125 C at_185 rfl rfl rfl ?_
    refine W.iconst (q := 188) (v := 2) X125 C at_187 rfl rfl ?_
    refine W.iaload (q := 189) X125 C e125 V114__127 (⟨by decide, by decide⟩ : own_in (2 : Int32)).1 (⟨by decide, by decide⟩ : own_in (2 : Int32)).2 (own_get ok117 (⟨by decide, by decide⟩ : own_in (2 : Int32))) at_188 rfl ?_
    refine W.iastore (q := 190) X125 C e125 V125  (by decide) (by decide) (Nat.le_of_ble_eq_true rfl) at_189 rfl (fun T129 h129 X129 e129 W129 V129_ => ?_)
    have V114__131 := V114__127.other W129 ne_b86_b118
    have V129 : Arv Z h129 b118 k118 .int (5 : Int32) [(.int (own_g L117 (0 : Int32))), (.int (own_g L117 (1 : Int32))), (.int (own_g L117 (2 : Int32))), (.int (0 : Int32)), (.int (0 : Int32))] (.int (0 : Int32)) := V129_
    have N129 := Fr.snoc X129 N125 ge_b118
    have n0_129 : n0 ≤ h129.size := by rw [W129.size]; exact n0_125
    refine W.dup (q := 191) X129 C at_190 rfl rfl ?_
    refine W.iconst (q := 192) (v := 3) X129 C at_191 rfl rfl ?_
    refine W.aload (q := 194) X129 C at_192 rfl rfl rfl ?_
    refine W.iconst (q := 195) (v := 3) X129 C at_194 rfl rfl ?_
    refine W.iaload (q := 196) X129 C e129 V114__131 (⟨by decide, by decide⟩ : own_in (3 : Int32)).1 (⟨by decide, by decide⟩ : own_in (3 : Int32)).2 (own_get ok117 (⟨by decide, by decide⟩ : own_in (3 : Int32))) at_195 rfl ?_
    refine W.iastore (q := 197) X129 C e129 V129  (by decide) (by decide) (Nat.le_of_ble_eq_true rfl) at_196 rfl (fun T133 h133 X133 e133 W133 V133_ => ?_)
    have V114__135 := V114__131.other W133 ne_b86_b118
    have V133 : Arv Z h133 b118 k118 .int (5 : Int32) [(.int (own_g L117 (0 : Int32))), (.int (own_g L117 (1 : Int32))), (.int (own_g L117 (2 : Int32))), (.int (own_g L117 (3 : Int32))), (.int (0 : Int32))] (.int (0 : Int32)) := V133_
    have N133 := Fr.snoc X133 N129 ge_b118
    have n0_133 : n0 ≤ h133.size := by rw [W133.size]; exact n0_129
    refine W.dup (q := 198) X133 C at_197 rfl rfl ?_
    refine W.iconst (q := 199) (v := 4) X133 C at_198 rfl rfl ?_
    refine W.aload (q := 201) X133 C at_199 rfl rfl rfl ?_
    refine W.iconst (q := 202) (v := 4) X133 C at_201 rfl rfl ?_
    refine W.iaload (q := 203) X133 C e133 V114__135 (⟨by decide, by decide⟩ : own_in (4 : Int32)).1 (⟨by decide, by decide⟩ : own_in (4 : Int32)).2 (own_get ok117 (⟨by decide, by decide⟩ : own_in (4 : Int32))) at_202 rfl ?_
    refine W.iastore (q := 204) X133 C e133 V133  (by decide) (by decide) (Nat.le_of_ble_eq_true rfl) at_203 rfl (fun T137 h137 X137 e137 W137 V137_ => ?_)
    have V114__139 := V114__135.other W137 ne_b86_b118
    have V137 : Arv Z h137 b118 k118 .int (5 : Int32) [(.int (own_g L117 (0 : Int32))), (.int (own_g L117 (1 : Int32))), (.int (own_g L117 (2 : Int32))), (.int (own_g L117 (3 : Int32))), (.int (own_g L117 (4 : Int32)))] (.int (0 : Int32)) := V137_
    have N137 := Fr.snoc X137 N133 ge_b118
    have n0_137 : n0 ≤ h137.size := by rw [W137.size]; exact n0_133
    have VO : Arv Z h137 b118 k118 .int (5 : Int32) (own_vs (own_o L117)) (.int (0 : Int32)) := V137
    have oko : own_ok (own_o L117) := ⟨rfl, fun x hx => by simp only [own_o, List.mem_cons, List.not_mem_nil, or_false] at hx; rcases hx with rfl | rfl | rfl | rfl | rfl <;> exact own_g_in ok117 ⟨by decide, by decide⟩⟩
    have hq : own_q v13 v14 v15 v16 v17 (1 : Int32) = L117 := by rw [own_q, hLz, hL93, hL99, hL105, hL111, hL117]
    obtain ⟨lq', rr, hroot, hrr, t0, t1, t2, t3, t4⟩ := own_fin hq (own_chk_of rv13 rv14 rv15 (own_of rv16) (own_of rv17) hf (own_of rv85))
    refine W.astore (q := 206) (L' := #[.val (.int p0), .val (.int p1), .val (.int p2), .val (.int p3), .val (.int p4), .val (.int p5), .val (.int v13), .val (.int v14), .val (.int v15), .val (.int v16), .val (.int v17), .val (.int (1 : Int32)), .val (.int v85), .val (.ref b86), .val (.ref b118), .unset, .unset, .unset]) X137 C at_204 rfl rfl rfl ?_
    refine W.aload (q := 208) X137 C at_206 rfl rfl rfl ?_
    refine W.aload (q := 210) X137 C at_208 rfl rfl rfl ?_
    refine W.aload (q := 212) X137 C at_210 rfl rfl rfl ?_
    refine W.aload (q := 214) X137 C at_212 rfl rfl rfl ?_
    refine W.iload (q := 216) X137 C at_214 rfl rfl ?_
    refine W.iaload (q := 217) X137 C e137 VO (own_of rv85).1 (own_of rv85).2 (own_get oko (own_of rv85)) at_216 rfl ?_
    refine W.iaload (q := 218) X137 C e137 VO (own_g_in oko (own_of rv85)).1 (own_g_in oko (own_of rv85)).2 (own_get oko (own_g_in oko (own_of rv85))) at_217 rfl ?_
    refine W.iaload (q := 219) X137 C e137 VO (own_g_in oko (own_g_in oko (own_of rv85))).1 (own_g_in oko (own_g_in oko (own_of rv85))).2 (own_get oko (own_g_in oko (own_g_in oko (own_of rv85)))) at_218 rfl ?_
    refine W.iaload (q := 220) X137 C e137 VO (own_g_in oko (own_g_in oko (own_g_in oko (own_of rv85)))).1 (own_g_in oko (own_g_in oko (own_g_in oko (own_of rv85)))).2 (own_get oko (own_g_in oko (own_g_in oko (own_g_in oko (own_of rv85))))) at_219 rfl ?_
    generalize hv141 : (own_g (own_o L117) (own_g (own_o L117) (own_g (own_o L117) (own_g (own_o L117) v85)))) = v141
    refine W.istore (q := 222) (L' := #[.val (.int p0), .val (.int p1), .val (.int p2), .val (.int p3), .val (.int p4), .val (.int p5), .val (.int v13), .val (.int v14), .val (.int v15), .val (.int v16), .val (.int v17), .val (.int (1 : Int32)), .val (.int v85), .val (.ref b86), .val (.ref b118), .val (.int v141), .unset, .unset]) X137 C at_220 rfl rfl ?_
    refine W.aload (q := 224) X137 C at_222 rfl rfl rfl ?_
    refine W.aload (q := 226) X137 C at_224 rfl rfl rfl ?_
    refine W.iload (q := 228) X137 C at_226 rfl rfl ?_
    refine W.iaload (q := 229) X137 C e137 VO (own_of rv85).1 (own_of rv85).2 (own_get oko (own_of rv85)) at_228 rfl ?_
    refine W.iaload (q := 230) X137 C e137 VO (own_g_in oko (own_of rv85)).1 (own_g_in oko (own_of rv85)).2 (own_get oko (own_g_in oko (own_of rv85))) at_229 rfl ?_
    generalize hv142 : (own_g (own_o L117) (own_g (own_o L117) v85)) = v142
    refine W.istore (q := 232) (L' := #[.val (.int p0), .val (.int p1), .val (.int p2), .val (.int p3), .val (.int p4), .val (.int p5), .val (.int v13), .val (.int v14), .val (.int v15), .val (.int v16), .val (.int v17), .val (.int (1 : Int32)), .val (.int v85), .val (.ref b86), .val (.ref b118), .val (.int v141), .val (.int v142), .unset]) X137 C at_230 rfl rfl ?_
    refine W.aload (q := 234) X137 C at_232 rfl rfl rfl ?_
    refine W.iload (q := 236) X137 C at_234 rfl rfl ?_
    refine W.callS (q := 239) X137 C (W.ww hw 6 rfl) (W.ww hw 7 rfl) (W.ww hw 8 rfl) (W.ww hw 9 rfl) (by decide) (rm2 l Z a0 hw [] b86 v85 k86 L117 lq' rr h137 n0 ge_b86 V114__139 ok117 (own_of rv85) hroot) e137 at_236 [(.ref b86), (.int v85)] [] rfl rfl pd__28_5bII_29I rfl rfl (by decide) (Nat.le_of_ble_eq_true rfl) (by decide) (by decide) rfl (fun T143 w143 L143 X143 hQ143 => ?_)
    obtain ⟨rfl, NL143, K143, V143⟩ := hQ143
    have N143 := Fr.app N137 NL143
    have VO_145 := VO.keep K143 (ninS (Ne.symm ne_b86_b118) nin0)
    have okq' := own_root_ok 6 _ _ _ _ ok117 (own_of rv85) hroot
    show W.Go p e below _ (T143.setTop (mkF m 239 #[.val (.int p0), .val (.int p1), .val (.int p2), .val (.int p3), .val (.int p4), .val (.int p5), .val (.int v13), .val (.int v14), .val (.int v15), .val (.int v16), .val (.int v17), .val (.int (1 : Int32)), .val (.int v85), .val (.ref b86), .val (.ref b118), .val (.int v141), .val (.int v142), .unset] [(.int rr)]))
    refine W.istore (q := 241) (L' := #[.val (.int p0), .val (.int p1), .val (.int p2), .val (.int p3), .val (.int p4), .val (.int p5), .val (.int v13), .val (.int v14), .val (.int v15), .val (.int v16), .val (.int v17), .val (.int (1 : Int32)), .val (.int v85), .val (.ref b86), .val (.ref b118), .val (.int v141), .val (.int v142), .val (.int rr)]) X143 C at_239 rfl rfl ?_
    refine W.iload (q := 243) X143 C at_241 rfl rfl ?_
    refine W.iload (q := 245) X143 C at_243 rfl rfl ?_
    refine W.icmpF (q := 248) X143 C at_245 rfl (show rr = v141 by rw [hrr, ← hv141]) ?_
    refine W.aload (q := 250) X143 C at_248 rfl rfl rfl ?_
    refine W.aload (q := 252) X143 C at_250 rfl rfl rfl ?_
    refine W.iload (q := 254) X143 C at_252 rfl rfl ?_
    refine W.iload (q := 256) X143 C at_254 rfl rfl ?_
    refine W.iconst (q := 257) (v := 0) X143 C at_256 rfl rfl ?_
    refine W.callS (q := 260) X143 C (W.ww hw 10 rfl) (W.ww hw 11 rfl) (W.ww hw 4 rfl) (W.ww hw 12 rfl) (by decide) (rm3 l Z a0 hw [] b86 b118 v85 v142 (0 : Int32) k86 k118 lq' (own_o L117)  T143.heap n0 V143 VO_145 okq' oko (⟨by decide, by decide⟩ : own_in (0 : Int32))) rfl at_257 [(.ref b86), (.ref b118), (.int v85), (.int v142), (.int (0 : Int32))] [] rfl rfl pd__28_5bI_5bIIII_29Z rfl rfl (by decide) (Nat.le_of_ble_eq_true rfl) (by decide) (by decide) rfl (fun T146 w146 L146 X146 hQ146 => ?_)
    obtain ⟨rfl, NL146, e146⟩ := hQ146
    have N146 := Fr.app N143 NL146
    show W.Go p e below _ (T146.setTop (mkF m 260 #[.val (.int p0), .val (.int p1), .val (.int p2), .val (.int p3), .val (.int p4), .val (.int p5), .val (.int v13), .val (.int v14), .val (.int v15), .val (.int v16), .val (.int v17), .val (.int (1 : Int32)), .val (.int v85), .val (.ref b86), .val (.ref b118), .val (.int v141), .val (.int v142), .val (.int rr)] [(.int (own_entry lq' (own_o L117) v85 v142 (0 : Int32)))]))
    refine W.ifF (q := 263) X146 C at_260 rfl (show (own_entry lq' (own_o L117) v85 v142 (0 : Int32)) ≠ 0 by rw [← hv142, t0]; decide) ?_
    refine W.aload (q := 265) X146 C at_263 rfl rfl rfl ?_
    refine W.aload (q := 267) X146 C at_265 rfl rfl rfl ?_
    refine W.iload (q := 269) X146 C at_267 rfl rfl ?_
    refine W.iload (q := 271) X146 C at_269 rfl rfl ?_
    refine W.iconst (q := 272) (v := 1) X146 C at_271 rfl rfl ?_
    refine W.callS (q := 275) X146 C (W.ww hw 10 rfl) (W.ww hw 11 rfl) (W.ww hw 4 rfl) (W.ww hw 12 rfl) (by decide) (rm3 l Z a0 hw [] b86 b118 v85 v142 (1 : Int32) k86 k118 lq' (own_o L117)  T143.heap n0 V143 VO_145 okq' oko (⟨by decide, by decide⟩ : own_in (1 : Int32))) e146 at_272 [(.ref b86), (.ref b118), (.int v85), (.int v142), (.int (1 : Int32))] [] rfl rfl pd__28_5bI_5bIIII_29Z rfl rfl (by decide) (Nat.le_of_ble_eq_true rfl) (by decide) (by decide) rfl (fun T147 w147 L147 X147 hQ147 => ?_)
    obtain ⟨rfl, NL147, e147⟩ := hQ147
    have N147 := Fr.app N146 NL147
    show W.Go p e below _ (T147.setTop (mkF m 275 #[.val (.int p0), .val (.int p1), .val (.int p2), .val (.int p3), .val (.int p4), .val (.int p5), .val (.int v13), .val (.int v14), .val (.int v15), .val (.int v16), .val (.int v17), .val (.int (1 : Int32)), .val (.int v85), .val (.ref b86), .val (.ref b118), .val (.int v141), .val (.int v142), .val (.int rr)] [(.int (own_entry lq' (own_o L117) v85 v142 (1 : Int32)))]))
    refine W.ifF (q := 278) X147 C at_275 rfl (show (own_entry lq' (own_o L117) v85 v142 (1 : Int32)) ≠ 0 by rw [← hv142, t1]; decide) ?_
    refine W.aload (q := 280) X147 C at_278 rfl rfl rfl ?_
    refine W.aload (q := 282) X147 C at_280 rfl rfl rfl ?_
    refine W.iload (q := 284) X147 C at_282 rfl rfl ?_
    refine W.iload (q := 286) X147 C at_284 rfl rfl ?_
    refine W.iconst (q := 287) (v := 2) X147 C at_286 rfl rfl ?_
    refine W.callS (q := 290) X147 C (W.ww hw 10 rfl) (W.ww hw 11 rfl) (W.ww hw 4 rfl) (W.ww hw 12 rfl) (by decide) (rm3 l Z a0 hw [] b86 b118 v85 v142 (2 : Int32) k86 k118 lq' (own_o L117)  T143.heap n0 V143 VO_145 okq' oko (⟨by decide, by decide⟩ : own_in (2 : Int32))) e147 at_287 [(.ref b86), (.ref b118), (.int v85), (.int v142), (.int (2 : Int32))] [] rfl rfl pd__28_5bI_5bIIII_29Z rfl rfl (by decide) (Nat.le_of_ble_eq_true rfl) (by decide) (by decide) rfl (fun T148 w148 L148 X148 hQ148 => ?_)
    obtain ⟨rfl, NL148, e148⟩ := hQ148
    have N148 := Fr.app N147 NL148
    show W.Go p e below _ (T148.setTop (mkF m 290 #[.val (.int p0), .val (.int p1), .val (.int p2), .val (.int p3), .val (.int p4), .val (.int p5), .val (.int v13), .val (.int v14), .val (.int v15), .val (.int v16), .val (.int v17), .val (.int (1 : Int32)), .val (.int v85), .val (.ref b86), .val (.ref b118), .val (.int v141), .val (.int v142), .val (.int rr)] [(.int (own_entry lq' (own_o L117) v85 v142 (2 : Int32)))]))
    refine W.ifF (q := 293) X148 C at_290 rfl (show (own_entry lq' (own_o L117) v85 v142 (2 : Int32)) ≠ 0 by rw [← hv142, t2]; decide) ?_
    refine W.aload (q := 295) X148 C at_293 rfl rfl rfl ?_
    refine W.aload (q := 297) X148 C at_295 rfl rfl rfl ?_
    refine W.iload (q := 299) X148 C at_297 rfl rfl ?_
    refine W.iload (q := 301) X148 C at_299 rfl rfl ?_
    refine W.iconst (q := 302) (v := 3) X148 C at_301 rfl rfl ?_
    refine W.callS (q := 305) X148 C (W.ww hw 10 rfl) (W.ww hw 11 rfl) (W.ww hw 4 rfl) (W.ww hw 12 rfl) (by decide) (rm3 l Z a0 hw [] b86 b118 v85 v142 (3 : Int32) k86 k118 lq' (own_o L117)  T143.heap n0 V143 VO_145 okq' oko (⟨by decide, by decide⟩ : own_in (3 : Int32))) e148 at_302 [(.ref b86), (.ref b118), (.int v85), (.int v142), (.int (3 : Int32))] [] rfl rfl pd__28_5bI_5bIIII_29Z rfl rfl (by decide) (Nat.le_of_ble_eq_true rfl) (by decide) (by decide) rfl (fun T149 w149 L149 X149 hQ149 => ?_)
    obtain ⟨rfl, NL149, e149⟩ := hQ149
    have N149 := Fr.app N148 NL149
    show W.Go p e below _ (T149.setTop (mkF m 305 #[.val (.int p0), .val (.int p1), .val (.int p2), .val (.int p3), .val (.int p4), .val (.int p5), .val (.int v13), .val (.int v14), .val (.int v15), .val (.int v16), .val (.int v17), .val (.int (1 : Int32)), .val (.int v85), .val (.ref b86), .val (.ref b118), .val (.int v141), .val (.int v142), .val (.int rr)] [(.int (own_entry lq' (own_o L117) v85 v142 (3 : Int32)))]))
    refine W.ifF (q := 308) X149 C at_305 rfl (show (own_entry lq' (own_o L117) v85 v142 (3 : Int32)) ≠ 0 by rw [← hv142, t3]; decide) ?_
    refine W.aload (q := 310) X149 C at_308 rfl rfl rfl ?_
    refine W.aload (q := 312) X149 C at_310 rfl rfl rfl ?_
    refine W.iload (q := 314) X149 C at_312 rfl rfl ?_
    refine W.iload (q := 316) X149 C at_314 rfl rfl ?_
    refine W.iconst (q := 317) (v := 4) X149 C at_316 rfl rfl ?_
    refine W.callS (q := 320) X149 C (W.ww hw 10 rfl) (W.ww hw 11 rfl) (W.ww hw 4 rfl) (W.ww hw 12 rfl) (by decide) (rm3 l Z a0 hw [] b86 b118 v85 v142 (4 : Int32) k86 k118 lq' (own_o L117)  T143.heap n0 V143 VO_145 okq' oko (⟨by decide, by decide⟩ : own_in (4 : Int32))) e149 at_317 [(.ref b86), (.ref b118), (.int v85), (.int v142), (.int (4 : Int32))] [] rfl rfl pd__28_5bI_5bIIII_29Z rfl rfl (by decide) (Nat.le_of_ble_eq_true rfl) (by decide) (by decide) rfl (fun T150 w150 L150 X150 hQ150 => ?_)
    obtain ⟨rfl, NL150, e150⟩ := hQ150
    have N150 := Fr.app N149 NL150
    show W.Go p e below _ (T150.setTop (mkF m 320 #[.val (.int p0), .val (.int p1), .val (.int p2), .val (.int p3), .val (.int p4), .val (.int p5), .val (.int v13), .val (.int v14), .val (.int v15), .val (.int v16), .val (.int v17), .val (.int (1 : Int32)), .val (.int v85), .val (.ref b86), .val (.ref b118), .val (.int v141), .val (.int v142), .val (.int rr)] [(.int (own_entry lq' (own_o L117) v85 v142 (4 : Int32)))]))
    refine W.ifF (q := 323) X150 C at_320 rfl (show (own_entry lq' (own_o L117) v85 v142 (4 : Int32)) ≠ 0 by rw [← hv142, t4]; decide) ?_
    refine W.iconst (q := 324) (v := 1) X150 C at_323 rfl rfl ?_
    refine W.goto (q := 328) X150 C at_324 (by decide) (by decide) ?_
    exact W.retN X150 C (by simp) e150 at_328 rfl (by decide) (by decide) ⟨rfl, N150⟩
set_option maxRecDepth 65536 in
set_option maxHeartbeats 40000000 in
theorem comes_1 {Post : Tables → Env → Array Value → State → Outcome → State → Prop} (hpost : ∀ tb e args s v u, (limb_1_1.after args s (.returned v) u = true ∧ limb_1_2.after args s (.returned v) u = true ∧ True) → FrameEnd s (.returned v) u (Jvm.fieldLocs frame_1_writes args s ++ Jvm.arrayLocs frame_1_arrays args s ++ Jvm.staticLocs frame_1_statics s) 16 128 → Post tb e args s (.returned v) u) :
    ArmFor flags0 classFile x code maxLocals ret World_1 tables_1 room_1 Calls_1 rest_1 Pre_1 Post := by
  intro l hfl _ _ p e ha hc hk s m args below hf hA hF happ hP
  obtain ⟨hcalls, hrest, hpre⟩ := hP
  obtain ⟨-, -, -, hnamed, -, -, -, hat⟩ := (Spec.applies_iff hf).mp happ
  obtain ⟨hg, hn⟩ := and_e (Cond.before_iff.mp (show (Jvm.Cond.and given_1 narrow_1).before args s = true from hpre))
  obtain ⟨g1, g2⟩ := and_e hg
  obtain ⟨g3, g4⟩ := and_e g2
  obtain ⟨g5, g6⟩ := and_e g4
  obtain ⟨g7, g8⟩ := and_e g6
  obtain ⟨g9, g10⟩ := and_e g8
  obtain ⟨g11, g12⟩ := and_e g10
  obtain ⟨w0, w1, w2, w3, w4, w5, rfl⟩ : ∃ w0 w1 w2 w3 w4 w5 : Value, args = #[w0, w1, w2, w3, w4, w5] := by
    have hs : args.size = 6 := by simpa [Cond.value, given_1] using g1
    obtain ⟨L⟩ := args
    match L, hs with
    | [w0, w1, w2, w3, w4, w5], _ => exact ⟨w0, w1, w2, w3, w4, w5, rfl⟩
  have hw := fun d (hd : d ∈ tables_1) => atoms_spec (ws := Jvm.Cond.code x code maxLocals ret :: tables_1) hat d (List.mem_cons_of_mem _ hd)
  have hfit : Fit s := fun {y c} hc i hi => by
    obtain ⟨ha, rfl⟩ := Array.getElem?_eq_some_iff.mp hc
    have q := List.all_eq_true.mp ((Array.all_eq_true_iff_forall_mem.mp hF) _ (Array.getElem_mem ha)) i (List.mem_range.mpr hi)
    simpa [Array.getElem?_eq_getElem hi] using q
  obtain ⟨i0, ei0⟩ := is_v g3
  obtain rfl : w0 = (.int i0) := Option.some.inj ei0
  obtain ⟨i1, ei1⟩ := is_v g5
  obtain rfl : w1 = (.int i1) := Option.some.inj ei1
  obtain ⟨i2, ei2⟩ := is_v g7
  obtain rfl : w2 = (.int i2) := Option.some.inj ei2
  obtain ⟨i3, ei3⟩ := is_v g9
  obtain rfl : w3 = (.int i3) := Option.some.inj ei3
  obtain ⟨i4, ei4⟩ := is_v g11
  obtain rfl : w4 = (.int i4) := Option.some.inj ei4
  obtain ⟨i5, ei5⟩ := is_v g12
  obtain rfl : w5 = (.int i5) := Option.some.inj ei5
  obtain ⟨n, o, h1, h2, h3, _, L, rfl, ⟨rfl, N⟩, hq⟩ := rm0 l s _ hw tables_1 i0 i1 i2 i3 i4 i5 s.heap s.heap.size (Nat.le_refl _) p e ha hc hk s m _ below hf ((Spec.applies_iff_loose hf).mp happ).1 ⟨rfl, State.Warmed39.refl s, rfl⟩ trivial
  refine ⟨n, _, h1, h2, h3, hpost _ _ _ _ _ _ ⟨Cond.after_iff.mpr rfl, Cond.after_iff.mpr (eq_i res_at (Term.int_eval (1)) rfl), trivial⟩ ⟨hq.1, hq.2.1, (hq.2.2.sift fun y hy => Or.inr (N y hy)).mono (by decide) (by decide)⟩⟩
theorem main_1_1 : Claimed_1_1 := comes_1 fun _ _ _ _ _ _ h hF => ⟨h.1, hF⟩
theorem main_1_2 : Claimed_1_2 := comes_1 fun _ _ _ _ _ _ h hF => ⟨h.2.1, hF⟩
end Jvm.Pilot.@@N@@
namespace Jvm.Pilot.@@N@@
open Jvm Jvm.ClassFile Sem Op Lib Jvm.Free Jvm.Stand Jvm.Pilot.@@N@@.Jvm.D
/-! MADE BY PROGRAM (witnessworld.py) out of the Statement's table words and the real class files: 10 classes; the members and pool entries that the words name. The judged class is class 1, her method 3. -/
namespace start1
open Jvm.ClassFile
def u (s : String) : CpInfo := .utf8 (stringToUtf16 s)
/-- a pool by its gaps: so many unusable entries, then the entry; so many at the end -/
def gap : Nat → List CpInfo → List CpInfo
  | 0, r => r
  | n + 1, r => .unusable :: gap n r
def poolList (es : List (Nat × CpInfo)) (last : Nat) : List CpInfo := es.foldr (fun e r => gap e.1 (e.2 :: r)) (gap last [])
def pool (es : List (Nat × CpInfo)) (last : Nat) : Array CpInfo := ⟨poolList es last⟩
def fileOf (pool : Array CpInfo) (this : Nat) (attrs : Array Attribute := #[]) (ms : Array MethodInfo := #[]) (fl : Nat := 33) (sup : Nat := 0) (ifs : Array Nat := #[]) (fds : Array FieldInfo := #[]) : ClassFile where
  minorVersion := 0
  majorVersion := 65
  constantPool := pool
  accessFlags := fl
  thisClass := this
  superClass := sup
  interfaces := ifs
  fields := fds
  methods := ms
  attributes := attrs
def plain (name : String) (sup : Option ClassId) : Class where
  name := name
  kind := .ordinary
  loader := none
  accessFlags := 33
  super := sup
  interfaces := #[]
  cf := none
  fields := #[]
  methods := #[]
  instanceTypes := #[]
  staticTypes := #[]
  resolved := #[]
  callSites := []
  init := .initialized
  statics := none
  mirror := none

def pool0 : Array CpInfo := pool [(5, u "<init>"), (0, u "()V"), (1, .class_ 10), (1, u "java/lang/Object")] 113

def k0m0 : Method := { name := "<init>", desc := "()V", sig := { parameters := [], returnType := none }, accessFlags := 1, code := none }
/-- java/lang/Object -/
def k0 : Class := { plain "java/lang/Object" none with
  accessFlags := 33
  interfaces := #[]
  cf := some (fileOf pool0 8 #[] #[{ accessFlags := 1, nameIndex := 5, descriptorIndex := 6, attributes := #[] }] 33 0 #[] #[])
  fields := #[]
  methods := #[k0m0]
  instanceTypes := #[]
  staticTypes := #[]
  resolved := Array.replicate 124 none
  statics := none }

def pool1 : Array CpInfo := pool [(2, .class_ 4), (1, u "java/lang/Object"), (0, u "<init>"), (0, u "()V"), (0, .integer 2147483647), (0, .methodref 9 10), (0, .class_ 11), (0, .nameAndType 12 13), (0, u "com/example/routeloom/routeloom/ConstraintsRootPinLaw"), (0, u "lab"), (0, u "(IIZ)I"), (0, .methodref 15 16), (0, .class_ 17), (0, .nameAndType 18 19), (0, u "com/example/routeloom/routeloom/Constraints"), (0, u "root"), (0, u "([II)I"), (0, .methodref 9 21), (0, .nameAndType 22 23), (0, u "entry"), (0, u "([I[IIII)Z"), (3, u "law"), (0, u "(IIIIII)Z")] 4

def k1m0 : Method := { name := "<init>", desc := "()V", sig := { parameters := [], returnType := none }, accessFlags := 2, code := none }
def k1c1 : Code := { maxStack := 2, maxLocals := 4, code := method_2_code, exceptionTable := #[], attributes := #[] }
def k1m1 : Method := { name := "lab", desc := "(IIZ)I", sig := { parameters := [.int, .int, .boolean], returnType := some .int }, accessFlags := 10, code := some k1c1 }
def k1c2 : Code := { maxStack := 3, maxLocals := 6, code := method_3_code, exceptionTable := #[], attributes := #[] }
def k1m2 : Method := { name := "entry", desc := "([I[IIII)Z", sig := { parameters := [(.array .int), (.array .int), .int, .int, .int], returnType := some .boolean }, accessFlags := 10, code := some k1c2 }
def k1c3 : Code := { maxStack := 5, maxLocals := 18, code := code, exceptionTable := #[], attributes := #[] }
def k1m3 : Method := { name := "law", desc := "(IIIIII)Z", sig := { parameters := [.int, .int, .int, .int, .int, .int], returnType := some .boolean }, accessFlags := 9, code := some k1c3 }
/-- com/example/routeloom/routeloom/ConstraintsRootPinLaw -/
def k1 : Class := { plain "com/example/routeloom/routeloom/ConstraintsRootPinLaw" (some 0) with
  accessFlags := 49
  interfaces := #[]
  cf := some (fileOf pool1 9 #[] #[{ accessFlags := 2, nameIndex := 5, descriptorIndex := 6, attributes := #[] }, { accessFlags := 10, nameIndex := 12, descriptorIndex := 13, attributes := #[] }, { accessFlags := 10, nameIndex := 22, descriptorIndex := 23, attributes := #[] }, { accessFlags := 9, nameIndex := 27, descriptorIndex := 28, attributes := #[] }] 49 2 #[] #[])
  fields := #[]
  methods := #[k1m0, k1m1, k1m2, k1m3]
  instanceTypes := #[]
  staticTypes := #[]
  resolved := Array.replicate 33 none
  statics := none }

def pool2 : Array CpInfo := pool [(2, .class_ 4), (1, u "java/lang/Object"), (0, u "<init>"), (0, u "()V"), (0, .class_ 8), (0, u "java/lang/Record")] 13

def k2m0 : Method := { name := "<init>", desc := "()V", sig := { parameters := [], returnType := none }, accessFlags := 4, code := none }
/-- java/lang/Record -/
def k2 : Class := { plain "java/lang/Record" (some 0) with
  accessFlags := 1057
  interfaces := #[]
  cf := some (fileOf pool2 7 #[] #[{ accessFlags := 4, nameIndex := 5, descriptorIndex := 6, attributes := #[] }] 1057 2 #[] #[])
  fields := #[]
  methods := #[k2m0]
  instanceTypes := #[]
  staticTypes := #[]
  resolved := Array.replicate 22 none
  statics := none }

def pool3 : Array CpInfo := pool [(2, .class_ 4), (1, u "java/lang/Record"), (5, .class_ 12), (1, u "com/example/routeloom/routeloom/Constraints"), (27, u "routeCount"), (0, u "Ljava/util/OptionalInt;"), (2, u "minStops"), (2, u "maxStops"), (69, u "root"), (0, u "([II)I")] 132

def k3c0 : Code := { maxStack := 5, maxLocals := 3, code := prog_6_method_8_code, exceptionTable := #[], attributes := #[] }
def k3m0 : Method := { name := "root", desc := "([II)I", sig := { parameters := [(.array .int), .int], returnType := some .int }, accessFlags := 8, code := some k3c0 }
/-- com/example/routeloom/routeloom/Constraints -/
def k3 : Class := { plain "com/example/routeloom/routeloom/Constraints" (some 2) with
  accessFlags := 49
  interfaces := #[]
  cf := some (fileOf pool3 10 #[] #[{ accessFlags := 8, nameIndex := 117, descriptorIndex := 118, attributes := #[] }] 49 2 #[] #[{ accessFlags := 18, nameIndex := 40, descriptorIndex := 41, attributes := #[] }, { accessFlags := 18, nameIndex := 44, descriptorIndex := 41, attributes := #[] }, { accessFlags := 18, nameIndex := 47, descriptorIndex := 41, attributes := #[] }])
  fields := #[{ name := "routeCount", type := (.object "java/util/OptionalInt"), accessFlags := 18, slot := 0, constantValue := 0 }, { name := "minStops", type := (.object "java/util/OptionalInt"), accessFlags := 18, slot := 1, constantValue := 0 }, { name := "maxStops", type := (.object "java/util/OptionalInt"), accessFlags := 18, slot := 2, constantValue := 0 }]
  methods := #[k3m0]
  instanceTypes := #[(.object "java/util/OptionalInt"), (.object "java/util/OptionalInt"), (.object "java/util/OptionalInt")]
  staticTypes := #[]
  resolved := Array.replicate 251 none
  statics := none }

def pool4 : Array CpInfo := pool [(1, u "java/lang/Cloneable"), (0, .class_ 1), (0, u "java/lang/Object"), (0, .class_ 3)] 3

/-- java/lang/Cloneable -/
def k4 : Class := { plain "java/lang/Cloneable" (some 0) with
  accessFlags := 1537
  interfaces := #[]
  cf := some (fileOf pool4 2 #[] #[] 1537 4 #[] #[])
  fields := #[]
  methods := #[]
  instanceTypes := #[]
  staticTypes := #[]
  resolved := Array.replicate 8 none
  statics := none }

def pool5 : Array CpInfo := pool [(1, u "java/io/Serializable"), (0, .class_ 1), (0, u "java/lang/Object"), (0, .class_ 3)] 3

/-- java/io/Serializable -/
def k5 : Class := { plain "java/io/Serializable" (some 0) with
  accessFlags := 1537
  interfaces := #[]
  cf := some (fileOf pool5 2 #[] #[] 1537 4 #[] #[])
  fields := #[]
  methods := #[]
  instanceTypes := #[]
  staticTypes := #[]
  resolved := Array.replicate 8 none
  statics := none }

/-- the primitive byte -/
def k6 : Class := { plain "byte" none with kind := .primitive 'B', accessFlags := 0x411 }
/-- [B -/
def k7 : Class := { plain "[B" (some 0) with kind := .array 6 .byte, interfaces := #[4, 5], accessFlags := 1041 }

/-- the primitive int -/
def k8 : Class := { plain "int" none with kind := .primitive 'I', accessFlags := 0x411 }
/-- [I -/
def k9 : Class := { plain "[I" (some 0) with kind := .array 8 .int, interfaces := #[4, 5], accessFlags := 1041 }

def heap : Heap := #[]
def classes : Array Class := #[k0, k1, k2, k3, k4, k5, k6, k7, k8, k9]
def interned : List (Array UInt16 × Addr) := []
def slotsUsed : Nat := 0
def theMethod : MethodId := ⟨1, 3⟩
def args0 : Array Value := #[.int 5, .int 6, .int 7, .int 8, .int 9, .int 10]
def aboutOver (below : List Frame) : State where
  vm := { classes := classes, interned := interned.toArray }
  heap := heap
  slotsUsed := slotsUsed
  threads := #[{ frames := .invoking theMethod args0 :: below }]
def below0 : List Frame := [.native { method := ⟨0, 0⟩, args := #[] }]
def about1 : State := aboutOver below0
def p0 : Program := .bare "" "" ""
def e0 : Env := launch0.env 0 0 0
theorem w_frames : about1.frames = Frame.invoking theMethod args0 :: below0 := rfl
set_option maxRecDepth 65536 in
theorem w_args : argsFit about1.vm theMethod args0 = true := by decide +kernel
set_option maxRecDepth 65536 in
theorem w_heap : heapFits about1 = true := by decide +kernel
set_option maxRecDepth 65536 in
theorem w_runnable : about1.curStatus? = some .runnable := by decide +kernel
set_option maxRecDepth 65536 in
theorem w_alone : about1.alone = true := by decide +kernel
set_option maxRecDepth 65536 in
theorem w_named : about1.methodNamed? x = some theMethod := by decide +kernel
set_option maxRecDepth 65536 in
theorem w_hears : about1.hears theMethod below0 = true := by decide +kernel
set_option maxRecDepth 65536 in
theorem w_ripe : about1.ripe theMethod args0 below0 = true := by decide +kernel
theorem w_running : about1.status = .running := rfl
set_option maxRecDepth 65536 in
theorem w_room : about1.hasRoom e0.platform room_1 = true :=
  launch0.hasRoom_least _ room_1 (by decide +kernel) (by decide +kernel) (by decide +kernel) (by decide +kernel) (by decide +kernel) (by decide +kernel)
theorem allAtoms_all (ts : List Jvm.Cond) (a : Array Jvm.Value) (st : Jvm.State) : (allAtoms ts).before a st = ts.all (fun c => c.before a st) := by
  induction ts with
  | nil => rfl
  | cons c t ih =>
    show (Jvm.Cond.and c (allAtoms t)).before a st = _
    rw [Jvm.Cond.before_and, ih, List.all_cons]
def words1 : List Jvm.Cond := Jvm.Cond.code x code maxLocals ret :: tables_1
/-- a 'code' word, met by the world's own term for the bytes: nothing is compared byte by byte -/
theorem code_word {y : MethodName} {bytes : ByteArray} {mx : Nat} {rt : Option FieldType} {a : Array Value} {s : State} {m : MethodId} {meth : Method} {c : Code} (h1 : s.methodNamed? y = some m) (h2 : s.vm.method? m = some meth) (h3 : meth.code = some c) (h4 : c.code = bytes)
    (h5 : (c.maxLocals == mx && c.exceptionTable.isEmpty && decide (c.maxStack ≤ mostOperands) && decide (meth.sig.returnType = rt) && !meth.locks && decide (parseMethodDescriptor y.desc = some meth.sig)) = true) : (Jvm.Cond.code y bytes mx rt).before a s = true := by
  simp only [Bool.and_eq_true, beq_iff_eq, Bool.not_eq_true', decide_eq_true_eq] at h5
  obtain ⟨⟨⟨⟨⟨g1, g2⟩, g3⟩, g4⟩, g5⟩, g6⟩ := h5
  simp [Cond.before, Cond.holds, Cond.value, h1, h2, h3, h4, g1, g2, g3, g4, g5, g6]
def isCode : Jvm.Cond → Bool
  | .code _ _ _ _ => true
  | _ => false
theorem all_split {L : List Jvm.Cond} {P : Jvm.Cond → Bool} (h1 : L.all (fun c => isCode c || P c) = true) (h2 : ∀ c ∈ L.filter isCode, P c = true) : L.all P = true := by
  refine List.all_eq_true.mpr fun c hc => ?_
  have h := List.all_eq_true.mp h1 c hc
  rcases Bool.eq_false_or_eq_true (isCode c) with hi | hi
  · exact h2 c (List.mem_filter.mpr ⟨hc, hi⟩)
  · simpa [hi] using h
set_option maxRecDepth 65536 in
theorem w_c0 : (Jvm.Cond.code x code maxLocals ret).before args0 about1 = true := code_word (m := ⟨1, 3⟩) (meth := k1m3) (c := k1c3) (by decide +kernel) rfl rfl rfl (by decide +kernel)
set_option maxRecDepth 65536 in
theorem w_c1 : (Jvm.Cond.code ({ cls := "com/example/routeloom/routeloom/ConstraintsRootPinLaw", name := "lab", desc := "(IIZ)I" } : Jvm.MethodName) method_2_code (4 : Nat) (Option.some Jvm.ClassFile.FieldType.int)).before args0 about1 = true := code_word (m := ⟨1, 1⟩) (meth := k1m1) (c := k1c1) (by decide +kernel) rfl rfl rfl (by decide +kernel)
set_option maxRecDepth 65536 in
theorem w_c2 : (Jvm.Cond.code ({ cls := "com/example/routeloom/routeloom/Constraints", name := "root", desc := "([II)I" } : Jvm.MethodName) prog_6_method_8_code (3 : Nat) (Option.some Jvm.ClassFile.FieldType.int)).before args0 about1 = true := code_word (m := ⟨3, 0⟩) (meth := k3m0) (c := k3c0) (by decide +kernel) rfl rfl rfl (by decide +kernel)
set_option maxRecDepth 65536 in
theorem w_c3 : (Jvm.Cond.code ({ cls := "com/example/routeloom/routeloom/ConstraintsRootPinLaw", name := "entry", desc := "([I[IIII)Z" } : Jvm.MethodName) method_3_code (6 : Nat) (Option.some Jvm.ClassFile.FieldType.boolean)).before args0 about1 = true := code_word (m := ⟨1, 2⟩) (meth := k1m2) (c := k1c2) (by decide +kernel) rfl rfl rfl (by decide +kernel)
def codes1 : List Jvm.Cond := [Jvm.Cond.code x code maxLocals ret, Jvm.Cond.code ({ cls := "com/example/routeloom/routeloom/ConstraintsRootPinLaw", name := "lab", desc := "(IIZ)I" } : Jvm.MethodName) method_2_code (4 : Nat) (Option.some Jvm.ClassFile.FieldType.int), Jvm.Cond.code ({ cls := "com/example/routeloom/routeloom/Constraints", name := "root", desc := "([II)I" } : Jvm.MethodName) prog_6_method_8_code (3 : Nat) (Option.some Jvm.ClassFile.FieldType.int), Jvm.Cond.code ({ cls := "com/example/routeloom/routeloom/ConstraintsRootPinLaw", name := "entry", desc := "([I[IIII)Z" } : Jvm.MethodName) method_3_code (6 : Nat) (Option.some Jvm.ClassFile.FieldType.boolean)]
set_option maxRecDepth 65536 in
theorem codes_eq : words1.filter isCode = codes1 := rfl
theorem w_codes : ∀ c ∈ words1.filter isCode, c.before args0 about1 = true := by
  rw [codes_eq]
  intro c hc
  simp only [codes1, List.mem_cons, List.not_mem_nil, or_false] at hc
  rcases hc with rfl | rfl | rfl | rfl
  · exact w_c0
  · exact w_c1
  · exact w_c2
  · exact w_c3
set_option maxRecDepth 65536 in
theorem w_t1 : words1.all (fun c => isCode c || c.before args0 about1) = true := by decide +kernel
theorem w_tables : (allAtoms (Jvm.Cond.code x code maxLocals ret :: tables_1)).before args0 about1 = true := by
  rw [allAtoms_all]
  show words1.all (fun c => c.before args0 about1) = true
  refine all_split ?_ w_codes
  rw [w_t1]
set_option maxRecDepth 65536 in
theorem w_case : (Jvm.Cond.and given_1 narrow_1).before args0 about1 = true := by decide +kernel
theorem w_applies : (headSpec (Jvm.Cond.code x code maxLocals ret :: tables_1) room_1).applies x e0.platform about1 = true :=
  (Spec.applies_iff w_frames).mpr ⟨w_running, w_runnable, w_alone, w_named, w_hears, w_ripe, w_room, w_tables⟩
theorem atStart : AtStart classFile x code maxLocals ret World_1 tables_1 room_1 Calls_1 rest_1 Pre_1 launch0 p0 e0 about1 theMethod args0 below0 :=
  ⟨lists_1, trivial, launch0.admits_env _ _ _, launch0.least_env, fairChoices_fair.cas, fairChoices_fair.clock, w_frames, w_args, w_heap, w_applies, trivial, trivial, w_case⟩
end start1
theorem witness_1 : WitnessClaimed_1 := ⟨start1.p0, start1.e0, start1.about1, start1.theMethod, start1.args0, start1.below0, start1.atStart⟩
end Jvm.Pilot.@@N@@
