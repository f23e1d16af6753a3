import JvmDerived
import JvmDerived.Pilot.@@N@@Statement
import JvmDerived.Pilot.@@N@@Code
set_option linter.unusedVariables false
set_option linter.unusedSimpArgs false
namespace Jvm.Pilot.@@N@@
open Jvm Jvm.ClassFile Sem Op Lib Jvm.Free Jvm.Stand Jvm.LawKit Jvm.RoadKit Bundle Jvm.Pilot.@@N@@.Jvm.D
/-! OWN KIT: a walk in continuation form. Go F U: from U the run comes to an end of which F holds. -/
namespace W
def Go (p : Program) (e : Env) (below : List Frame) (F : Outcome → State → Prop) (U : State) : Prop :=
  ∃ s₂ o, Steps p.tables e below U s₂ ∧ s₂.status = .running ∧ Ended s₂ below o ∧ F o s₂
def Cx (p : Program) (s : State) (m : MethodId) (meth : Method) (c : Code) (Z : State) (bytes : ByteArray) (maxL : Nat) (own mname : String) (ret : Option FieldType) : Prop :=
  p.tables.exec = Jvm.exec ∧ Z.Warmed39 s.vm ∧ c.code = bytes ∧ c.maxLocals = maxL ∧ s.vm.findClass own = some m.cls ∧ meth.name = mname ∧ meth.sig.returnType = ret ∧ meth.locks = false
def Post (s : State) (Q : Option Value → Heap → List Loc → Prop) (k n : Nat) (o : Outcome) (U' : State) : Prop := ∃ v L, o = .returned v ∧ Q v U'.heap L ∧ FrameEnd s o U' L k n
theorem of {p : Program} {e : Env} {below : List Frame} {F : Outcome → State → Prop} {U U' : State} (h : ∀ t, Steps p.tables e below U' t → Steps p.tables e below U t) (k : Go p e below F U') : Go p e below F U := by
  obtain ⟨s₂, o, h1, h2⟩ := k
  exact ⟨s₂, o, h _ h1, h2⟩
theorem tr {p : Program} {e : Env} {below : List Frame} {F : Outcome → State → Prop} {U U' : State} (h : Steps p.tables e below U U') (k : Go p e below F U') : Go p e below F U := of (fun _ q => h.trans q) k
def cT : ClassFile.Cond → Int32 → Int32 → Prop
  | .eq, x, y => x = y
  | .ne, x, y => x ≠ y
  | .lt, x, y => x.toInt < y.toInt
  | .ge, x, y => y.toInt ≤ x.toInt
  | .gt, x, y => y.toInt < x.toInt
  | .le, x, y => x.toInt ≤ y.toInt
def cF : ClassFile.Cond → Int32 → Int32 → Prop
  | .eq, x, y => x ≠ y
  | .ne, x, y => x = y
  | .lt, x, y => y.toInt ≤ x.toInt
  | .ge, x, y => x.toInt < y.toInt
  | .gt, x, y => x.toInt ≤ y.toInt
  | .le, x, y => y.toInt < x.toInt
instance (cd : ClassFile.Cond) (x y : Int32) : Decidable (cT cd x y) := by cases cd <;> (simp only [cT]; infer_instance)
instance (cd : ClassFile.Cond) (x y : Int32) : Decidable (cF cd x y) := by cases cd <;> (simp only [cF]; infer_instance)
theorem holdsT {cd : ClassFile.Cond} {x y : Int32} (h : cT cd x y) : if_icmp.holds cd x y = true := by
  cases cd <;> simp only [cT] at h <;> simp [if_icmp.holds, h, Int32.lt_iff_toInt_lt, Int32.le_iff_toInt_le]
theorem holdsF {cd : ClassFile.Cond} {x y : Int32} (h : cF cd x y) : if_icmp.holds cd x y = false := by
  cases cd <;> simp only [cF] at h <;> simp [if_icmp.holds, h, Int32.lt_iff_toInt_lt, Int32.le_iff_toInt_le]
theorem cTF (cd : ClassFile.Cond) (x y : Int32) : cT cd x y ∨ cF cd x y := by
  cases cd <;> simp only [cT, cF] <;> first | omega | exact Decidable.em _ | exact (Decidable.em _).symm
theorem ww {a0 : Array Value} {Z : State} (hw : ∀ d ∈ tables_1, d.before a0 Z = true) (i : Nat) {d : Jvm.Cond} (h : tables_1[i]? = some d) : d.before a0 Z = true := hw _ (List.mem_of_getElem? h)
theorem small {P : Int32 → Prop} (K : Nat) (hK : ∀ i : Fin (K + 1), P (Int32.ofInt (i.1 : Int))) (k : Int32) (h1 : 0 ≤ k.toInt) (h2 : k.toInt ≤ K) : P k := by
  have e : Int32.ofInt ((k.toInt.toNat : Nat) : Int) = k := by rw [Int.toNat_of_nonneg h1]; exact Int32.ofInt_toInt k
  have := hK ⟨k.toInt.toNat, by omega⟩
  rw [e] at this; exact this
theorem eqR {args : Array Value} {s : State} {a b : Term} {idx : List Nat} {y : Addr} (hb : b.eval args s none idx s = some (.ref y)) (h : (Jvm.Cond.eq a b).value args s none s idx = some true) : a.eval args s none idx s = some (.ref y) := by
  cases ha : a.eval args s none idx s with
  | none => simp [Cond.value, ha] at h
  | some x =>
    have hx : x.isRef = true := by cases x <;> simp [Cond.value, ha, hb, Value.isRef] at h ⊢
    have q := gotT (eq_R ha hb hx rfl) h
    rw [q]
theorem elemAt {args : Array Value} {s : State} {t a : Term} {x : Addr} {j : Int32} {v : Value} {cl : Cell} {ty : FieldType} (A : Arr s s.heap x cl ty) (ht : t.eval args s none [] s = some (.ref x)) (hj : a.eval args s none [] s = some (.int j)) (h : (Term.elem t a).eval args s none [] s = some v) : cl.slots[j.toNatClampNeg]? = some v := (elem_in h ht hj A.1).2
theorem lenAt {args : Array Value} {s : State} {t : Term} {x : Addr} {z : Int32} {cl : Cell} {ty : FieldType} (A : Arr s s.heap x cl ty) (ht : t.eval args s none [] s = some (.ref x)) (h : (Jvm.Cond.eq (.length t) (.int z)).value args s none s [] = some true) : cl.slots.size < 2 ^ 31 ∧ cl.slots.size.toInt32 = z := by
  have h6 := eqv_i (Term.int_eval z) h
  have ha := A.fin (Vm.Alike.refl _)
  have sz : cl.slots.size < 2 ^ 31 := by
    refine Decidable.byContradiction fun q => ?_
    simp [Term.eval, ht, ha, q] at h6
  refine ⟨sz, ?_⟩
  rw [len_f ht ha sz] at h6
  exact Value.int.inj (Option.some.inj h6)
theorem arvOf {s : State} {a : Addr} {cl : Cell} {ty : FieldType} {z : Int32} {d : Value} (hf : Fit s) (A : Arr s s.heap a cl ty) (q : cl.slots.size < 2 ^ 31) (e : cl.slots.size.toInt32 = z) (hz : ¬ z < 0) : Arv s s.heap a cl.cls ty z cl.slots.toList d := by
  have S : cl.slots.size = z.toNatClampNeg := by rw [← e]; simp only [Int32.toNatClampNeg, len_toInt q]; rfl
  have H : Has cl cl.slots.toList d := fun k hk => by simp [List.getD, hk]
  refine ⟨cl, A, rfl, S, hz, H, fun j hj => ?_⟩
  have e1 : (Nat.toInt32 j).toNatClampNeg = j := by simp only [Int32.toNatClampNeg, len_toInt (Nat.lt_trans hj q)]; rfl
  exact elem_fits (j := Nat.toInt32 j) hf A (idx_in hj q) (by rw [e1]; exact H j hj)
theorem narZ {x : Int32} (h : x = 0 ∨ x = 1) : narrow .boolean (.int x) = .int x := by rcases h with rfl | rfl <;> rfl
theorem fitZ {x : Int32} (h : x = 0 ∨ x = 1) : fits .boolean (.int x) = true := by rcases h with rfl | rfl <;> rfl
theorem fieldInt {args : Array Value} {s : State} {t : Term} {Cn n d : String} {k : Int32} {a : Addr} (ht : t.eval args s none [] s = some (.ref a)) (h : (Jvm.Cond.eq (.field t Cn n d) (.int k)).value args s none s [] = some true) : Fld s s.heap a Cn n d (.int k) := by
  exact Fld.start ((fld_at ht).symm.trans (eqv_i (Term.int_eval k) h))
section
variable {p : Program} {l : Launch} {e : Env} {R : Room} {s : State} {m : MethodId} {args : Array Value} {below : List Frame} {meth : Method} {c : Code} {T : State} {locs : List Loc} {cells slots : Nat} {Z : State} {a0 : Array Value} {h h0 : Heap} {F : Outcome → State → Prop} {bytes : ByteArray} {maxL : Nat} {own mname : String} {ret : Option FieldType} {pc q : Nat} {Ls L' : Array Slot} {S rest : List Value}
theorem bodyOf {y : MethodName} {ws : List Jvm.Cond} {rm : Room} {as : Array Value} {Q : Option Value → Heap → List Loc → Prop} (hp : plainFor y = true) (hef : ∀ m, entryFrame m as maxL = mkF m 0 Ls [])
    (body : ∀ p e s m below meth c s₁, Cx p s m meth c Z bytes maxL y.cls y.name ret → Stand p l e rm s m as below meth c s₁ [] 0 0 → s₁.heap = h0 → Go p e below (Post s Q rm.cells rm.slots) (s₁.setTop (mkF m 0 Ls []))) :
    MetFree l y (head1 (Jvm.Cond.code y bytes maxL ret :: ws) rm) (fun a U => a = as ∧ Z.Warmed39 U.vm ∧ U.heap = h0) (fun _ _ _ _ _ => True) (fun _ U o U' => ∃ v L, o = .returned v ∧ Q v U'.heap L ∧ FrameEnd U o U' L rm.cells rm.slots) := by
  refine MetFree.of_bodySF hp hisR ?_
  intro p e s m args below meth c s₁ Bd hml0 hP hK
  obtain ⟨rfl, hZ, hh⟩ := hP
  obtain ⟨s₂, o, h1, h2⟩ := body p e s m below meth c s₁ ⟨Bd.exec, hZ, Bd.bytes, hml0, findClass_of_methodNamed Bd.named, (name_of_methodNamed Bd.named Bd.method).1, Bd.returns, Bd.notSynchronized⟩ (Stand.of_body Bd) (by rw [← hh, Bd.state]; rfl)
  exact ⟨s₂, o, castTop (hef m) h1, h2⟩
/-! returns -/
theorem retN (X : Stand p l e R s m args below meth c T locs cells slots) {t : FieldType} (C : Cx p s m meth c Z bytes maxL own mname (some t)) (ht : t = .boolean ∨ t = .byte ∨ t = .char ∨ t = .short) (eT : T.heap = h) {z z' : Int32} (hd : decode bytes pc = .ok (.ireturn, 1)) (hz : narrow t (.int z) = .int z') {k n : Nat} (hk : cells ≤ k) (hn : slots ≤ n) {Q : Option Value → Heap → List Loc → Prop} (hQ : Q (some (.int z')) h locs) :
    Go p e below (Post s Q k n) (T.setTop (mkF m pc Ls (.int z :: rest))) := by
  obtain ⟨hx, hZ, hby, hml, hown, hnm, hret, hlk⟩ := C
  obtain ⟨fs, hr, hrun, hended, hW, hsame⟩ := X.leave (v := some (.int z')) (fun h => by rw [hret] at h; cases h)
  refine ⟨_, _, ?_, hrun, hended, _, _, rfl, ?_, ⟨_, rfl⟩, hW, hsame.mono hk hn⟩
  · have hm' : T.vm.method? m = some meth := X.method'
    have hd' := hb hby hd
    rcases ht with rfl | rfl | rfl | rfl
    all_goals
      show Steps p.tables e below (T.setTop { method := m, pc := pc, locals := Ls, stack := _ :: rest, locked := none }) _
      jvm_step X.here [X.here.top, hx, hd', hm', hret, hz]
      first | (intro acts; rw [hr _ acts rfl rfl rfl]) | rw [hr _ _ rfl rfl rfl]
      exact Steps.refl _
  · show Q _ T.heap _
    rw [eT]; exact hQ
theorem retI (X : Stand p l e R s m args below meth c T locs cells slots) (C : Cx p s m meth c Z bytes maxL own mname (some .int)) (eT : T.heap = h) {z : Int32} (hd : decode bytes pc = .ok (.ireturn, 1)) {k n : Nat} (hk : cells ≤ k) (hn : slots ≤ n) {Q : Option Value → Heap → List Loc → Prop} (hQ : Q (some (.int z)) h locs) :
    Go p e below (Post s Q k n) (T.setTop (mkF m pc Ls (.int z :: rest))) := by
  obtain ⟨hx, hZ, hby, hml, hown, hnm, hret, hlk⟩ := C
  obtain ⟨fs, hr, hrun, hended, hW, hsame⟩ := X.leave (v := some (.int z)) (fun h => by rw [hret] at h; cases h)
  refine ⟨_, _, ?_, hrun, hended, _, _, rfl, ?_, ⟨_, rfl⟩, hW, hsame.mono hk hn⟩
  · have hm' : T.vm.method? m = some meth := X.method'
    have hd' := hb hby hd
    have hn : narrow .int (.int z) = .int z := rfl
    show Steps p.tables e below (T.setTop { method := m, pc := pc, locals := Ls, stack := _ :: rest, locked := none }) _
    jvm_step X.here [X.here.top, hx, hd', hm', hret, hn]
    first | (intro acts; rw [hr _ acts rfl rfl rfl]) | rw [hr _ _ rfl rfl rfl]
    exact Steps.refl _
  · show Q _ T.heap _
    rw [eT]; exact hQ
theorem retJ (X : Stand p l e R s m args below meth c T locs cells slots) (C : Cx p s m meth c Z bytes maxL own mname (some .long)) (eT : T.heap = h) {z : Int64} (hd : decode bytes pc = .ok (.lreturn, 1)) {k n : Nat} (hk : cells ≤ k) (hn : slots ≤ n) {Q : Option Value → Heap → List Loc → Prop} (hQ : Q (some (.long z)) h locs) :
    Go p e below (Post s Q k n) (T.setTop (mkF m pc Ls (.long z :: rest))) := by
  obtain ⟨hx, hZ, hby, hml, hown, hnm, hret, hlk⟩ := C
  obtain ⟨fs, hr, hrun, hended, hW, hsame⟩ := X.leave (v := some (.long z)) (fun h => by rw [hret] at h; cases h)
  refine ⟨_, _, ?_, hrun, hended, _, _, rfl, ?_, ⟨_, rfl⟩, hW, hsame.mono hk hn⟩
  · have hm' : T.vm.method? m = some meth := X.method'
    have hd' := hb hby hd
    show Steps p.tables e below (T.setTop { method := m, pc := pc, locals := Ls, stack := _ :: rest, locked := none }) _
    jvm_step X.here [X.here.top, hx, hd', hm', hret, narrow]
    first | (intro acts; rw [hr _ acts rfl rfl rfl]) | rw [hr _ _ rfl rfl rfl]
    exact Steps.refl _
  · show Q _ T.heap _
    rw [eT]; exact hQ
theorem retA (X : Stand p l e R s m args below meth c T locs cells slots) {t : FieldType} (C : Cx p s m meth c Z bytes maxL own mname (some t)) (ht : t.isReference = true) (eT : T.heap = h) {z : Value} (hz : z.isRef = true) (hd : decode bytes pc = .ok (.areturn, 1)) {k n : Nat} (hk : cells ≤ k) (hn : slots ≤ n) {Q : Option Value → Heap → List Loc → Prop} (hQ : Q (some z) h locs) :
    Go p e below (Post s Q k n) (T.setTop (mkF m pc Ls (z :: rest))) := by
  obtain ⟨hx, hZ, hby, hml, hown, hnm, hret, hlk⟩ := C
  obtain ⟨fs, hr, hrun, hended, hW, hsame⟩ := X.leave (v := some z) (fun h => by rw [hret] at h; cases h)
  refine ⟨_, _, ?_, hrun, hended, _, _, rfl, ?_, ⟨_, rfl⟩, hW, hsame.mono hk hn⟩
  · have hm' : T.vm.method? m = some meth := X.method'
    have hd' := hb hby hd
    show Steps p.tables e below (T.setTop { method := m, pc := pc, locals := Ls, stack := _ :: rest, locked := none }) _
    jvm_step X.here [X.here.top, hx, hd', hm', hret, hz, ht]
    first | (intro acts; rw [hr _ acts rfl rfl rfl]) | rw [hr _ _ rfl rfl rfl]
    exact Steps.refl _
  · show Q _ T.heap _
    rw [eT]; exact hQ
theorem retV (X : Stand p l e R s m args below meth c T locs cells slots) (C : Cx p s m meth c Z bytes maxL own mname none) (eT : T.heap = h) (hd : decode bytes pc = .ok (.return_, 1)) {k n : Nat} (hk : cells ≤ k) (hn : slots ≤ n) {Q : Option Value → Heap → List Loc → Prop} (hQ : Q none h locs) :
    Go p e below (Post s Q k n) (T.setTop (mkF m pc Ls [])) := by
  obtain ⟨hx, hZ, hby, hml, hown, hnm, hret, hlk⟩ := C
  obtain ⟨fs, hr, hrun, hended, hW, hsame⟩ := X.leave (v := none) (fun _ => rfl)
  refine ⟨_, _, X.returnOut hx hret (hb hby hd) hr, hrun, hended, _, _, rfl, ?_, ⟨_, rfl⟩, hW, hsame.mono hk hn⟩
  show Q _ T.heap _
  rw [eT]; exact hQ
/-! plain steps -/
theorem iload (X : Stand p l e R s m args below meth c T locs cells slots) (C : Cx p s m meth c Z bytes maxL own mname ret) {k : Nat} {v : Int32} (hd : decode bytes pc = .ok (.iload k, 2)) (hl : Ls[k]? = some (.val (.int v))) (hq : pc + 2 = q) (K : Go p e below F (T.setTop (mkF m q Ls (.int v :: S)))) : Go p e below F (T.setTop (mkF m pc Ls S)) := by
  subst hq; exact of (fun t k => XS.iload X.here C.1 rfl (hb C.2.2.1 hd) hl k) K
theorem iloadN (X : Stand p l e R s m args below meth c T locs cells slots) (C : Cx p s m meth c Z bytes maxL own mname ret) {k : Fin 4} {v : Int32} (hd : decode bytes pc = .ok (.iload_n k, 1)) (hl : Ls[k.val]? = some (.val (.int v))) (hq : pc + 1 = q) (K : Go p e below F (T.setTop (mkF m q Ls (.int v :: S)))) : Go p e below F (T.setTop (mkF m pc Ls S)) := by
  subst hq; exact of (fun t k => XS.iloadN X.here C.1 rfl (hb C.2.2.1 hd) hl k) K
theorem lload (X : Stand p l e R s m args below meth c T locs cells slots) (C : Cx p s m meth c Z bytes maxL own mname ret) {k : Nat} {v : Int64} (hd : decode bytes pc = .ok (.lload k, 2)) (hl : Ls[k]? = some (.val (.long v))) (hq : pc + 2 = q) (K : Go p e below F (T.setTop (mkF m q Ls (.long v :: S)))) : Go p e below F (T.setTop (mkF m pc Ls S)) := by
  subst hq; exact of (fun t k => XS.lload X.here C.1 rfl (hb C.2.2.1 hd) hl k) K
theorem lloadN (X : Stand p l e R s m args below meth c T locs cells slots) (C : Cx p s m meth c Z bytes maxL own mname ret) {k : Fin 4} {v : Int64} (hd : decode bytes pc = .ok (.lload_n k, 1)) (hl : Ls[k.val]? = some (.val (.long v))) (hq : pc + 1 = q) (K : Go p e below F (T.setTop (mkF m q Ls (.long v :: S)))) : Go p e below F (T.setTop (mkF m pc Ls S)) := by
  subst hq; exact of (fun t k => XS.lloadN X.here C.1 rfl (hb C.2.2.1 hd) hl k) K
theorem aload (X : Stand p l e R s m args below meth c T locs cells slots) (C : Cx p s m meth c Z bytes maxL own mname ret) {k : Nat} {v : Value} (hd : decode bytes pc = .ok (.aload k, 2)) (hl : Ls[k]? = some (.val v)) (hv : v.isRef = true) (hq : pc + 2 = q) (K : Go p e below F (T.setTop (mkF m q Ls (v :: S)))) : Go p e below F (T.setTop (mkF m pc Ls S)) := by
  subst hq; exact of (fun t k => XS.aload X.here C.1 rfl (hb C.2.2.1 hd) hl hv k) K
theorem aloadN (X : Stand p l e R s m args below meth c T locs cells slots) (C : Cx p s m meth c Z bytes maxL own mname ret) {k : Fin 4} {v : Value} (hd : decode bytes pc = .ok (.aload_n k, 1)) (hl : Ls[k.val]? = some (.val v)) (hv : v.isRef = true) (hq : pc + 1 = q) (K : Go p e below F (T.setTop (mkF m q Ls (v :: S)))) : Go p e below F (T.setTop (mkF m pc Ls S)) := by
  subst hq; exact of (fun t k => XS.aloadN X.here C.1 rfl (hb C.2.2.1 hd) hl hv k) K
theorem istore (X : Stand p l e R s m args below meth c T locs cells slots) (C : Cx p s m meth c Z bytes maxL own mname ret) {k : Nat} {v : Int32} (hd : decode bytes pc = .ok (.istore k, 2)) (hl : storeLocals Ls k (.int v) = some L') (hq : pc + 2 = q) (K : Go p e below F (T.setTop (mkF m q L' S))) : Go p e below F (T.setTop (mkF m pc Ls (.int v :: S))) := by
  subst hq; exact of (fun t k => XS.istore X.here C.1 rfl (hb C.2.2.1 hd) rfl hl k) K
theorem istoreN (X : Stand p l e R s m args below meth c T locs cells slots) (C : Cx p s m meth c Z bytes maxL own mname ret) {k : Fin 4} {v : Int32} (hd : decode bytes pc = .ok (.istore_n k, 1)) (hl : storeLocals Ls k.val (.int v) = some L') (hq : pc + 1 = q) (K : Go p e below F (T.setTop (mkF m q L' S))) : Go p e below F (T.setTop (mkF m pc Ls (.int v :: S))) := by
  subst hq; exact of (fun t k => XS.istoreN X.here C.1 rfl (hb C.2.2.1 hd) rfl hl k) K
theorem lstore (X : Stand p l e R s m args below meth c T locs cells slots) (C : Cx p s m meth c Z bytes maxL own mname ret) {k : Nat} {v : Int64} (hd : decode bytes pc = .ok (.lstore k, 2)) (hl : storeLocals Ls k (.long v) = some L') (hq : pc + 2 = q) (K : Go p e below F (T.setTop (mkF m q L' S))) : Go p e below F (T.setTop (mkF m pc Ls (.long v :: S))) := by
  subst hq; exact of (fun t k => XS.lstore X.here C.1 rfl (hb C.2.2.1 hd) rfl hl k) K
theorem lstoreN (X : Stand p l e R s m args below meth c T locs cells slots) (C : Cx p s m meth c Z bytes maxL own mname ret) {k : Fin 4} {v : Int64} (hd : decode bytes pc = .ok (.lstore_n k, 1)) (hl : storeLocals Ls k.val (.long v) = some L') (hq : pc + 1 = q) (K : Go p e below F (T.setTop (mkF m q L' S))) : Go p e below F (T.setTop (mkF m pc Ls (.long v :: S))) := by
  subst hq; exact of (fun t k => XS.lstoreN X.here C.1 rfl (hb C.2.2.1 hd) rfl hl k) K
theorem astore (X : Stand p l e R s m args below meth c T locs cells slots) (C : Cx p s m meth c Z bytes maxL own mname ret) {k : Nat} {v : Value} (hd : decode bytes pc = .ok (.astore k, 2)) (hv : v.isRef = true) (hl : storeLocals Ls k v = some L') (hq : pc + 2 = q) (K : Go p e below F (T.setTop (mkF m q L' S))) : Go p e below F (T.setTop (mkF m pc Ls (v :: S))) := by
  subst hq; exact of (fun t k => XS.astore X.here C.1 rfl (hb C.2.2.1 hd) rfl hv hl k) K
theorem astoreN (X : Stand p l e R s m args below meth c T locs cells slots) (C : Cx p s m meth c Z bytes maxL own mname ret) {k : Fin 4} {v : Value} (hd : decode bytes pc = .ok (.astore_n k, 1)) (hv : v.isRef = true) (hl : storeLocals Ls k.val v = some L') (hq : pc + 1 = q) (K : Go p e below F (T.setTop (mkF m q L' S))) : Go p e below F (T.setTop (mkF m pc Ls (v :: S))) := by
  subst hq; exact of (fun t k => XS.astoreN X.here C.1 rfl (hb C.2.2.1 hd) rfl hv hl k) K
theorem iinc (X : Stand p l e R s m args below meth c T locs cells slots) (C : Cx p s m meth c Z bytes maxL own mname ret) {k : Nat} {i : Int} {x y : Int32} (hd : decode bytes pc = .ok (.iinc k i, 3)) (hl : Ls[k]? = some (.val (.int x))) (hy : x + Int32.ofInt i = y) (hl' : storeLocals Ls k (.int y) = some L') (hq : pc + 3 = q) (K : Go p e below F (T.setTop (mkF m q L' S))) : Go p e below F (T.setTop (mkF m pc Ls S)) := by
  subst hq hy; exact of (fun t k => XS.iinc X.here C.1 rfl (hb C.2.2.1 hd) hl hl' k) K
theorem iconst (X : Stand p l e R s m args below meth c T locs cells slots) (C : Cx p s m meth c Z bytes maxL own mname ret) {i : Int} {v : Int32} (hd : decode bytes pc = .ok (.iconst i, 1)) (hi : Int32.ofInt i = v) (hq : pc + 1 = q) (K : Go p e below F (T.setTop (mkF m q Ls (.int v :: S)))) : Go p e below F (T.setTop (mkF m pc Ls S)) := by
  subst hq hi; exact of (fun t k => XS.iconst X.here C.1 rfl (hb C.2.2.1 hd) k) K
theorem bipush (X : Stand p l e R s m args below meth c T locs cells slots) (C : Cx p s m meth c Z bytes maxL own mname ret) {i : Int} {v : Int32} (hd : decode bytes pc = .ok (.bipush i, 2)) (hi : (Int8.ofInt i).toInt32 = v) (hq : pc + 2 = q) (K : Go p e below F (T.setTop (mkF m q Ls (.int v :: S)))) : Go p e below F (T.setTop (mkF m pc Ls S)) := by
  subst hq hi; exact of (fun t k => XS.bipush X.here C.1 rfl (hb C.2.2.1 hd) k) K
theorem sipush (X : Stand p l e R s m args below meth c T locs cells slots) (C : Cx p s m meth c Z bytes maxL own mname ret) {i : Int} {v : Int32} (hd : decode bytes pc = .ok (.sipush i, 3)) (hi : (Int16.ofInt i).toInt32 = v) (hq : pc + 3 = q) (K : Go p e below F (T.setTop (mkF m q Ls (.int v :: S)))) : Go p e below F (T.setTop (mkF m pc Ls S)) := by
  subst hq hi; exact of (fun t k => XS.sipush X.here C.1 rfl (hb C.2.2.1 hd) k) K
theorem lconst0 (X : Stand p l e R s m args below meth c T locs cells slots) (C : Cx p s m meth c Z bytes maxL own mname ret) (hd : decode bytes pc = .ok (.lconst 0, 1)) (hq : pc + 1 = q) (K : Go p e below F (T.setTop (mkF m q Ls (.long 0 :: S)))) : Go p e below F (T.setTop (mkF m pc Ls S)) := by
  subst hq; exact of (fun t k => XS.lconst X.here C.1 rfl (hb C.2.2.1 hd) k) K
theorem lconst1 (X : Stand p l e R s m args below meth c T locs cells slots) (C : Cx p s m meth c Z bytes maxL own mname ret) (hd : decode bytes pc = .ok (.lconst 1, 1)) (hq : pc + 1 = q) (K : Go p e below F (T.setTop (mkF m q Ls (.long 1 :: S)))) : Go p e below F (T.setTop (mkF m pc Ls S)) := by
  subst hq; exact of (fun t k => XS.lconst X.here C.1 rfl (hb C.2.2.1 hd) k) K
theorem ldcI (X : Stand p l e R s m args below meth c T locs cells slots) (C : Cx p s m meth c Z bytes maxL own mname ret) {i : Nat} {v : Int32} (w : (Jvm.Cond.constant own i v).before a0 Z = true) (hd : decode bytes pc = .ok (.ldc i, 2)) (hq : pc + 2 = q) (K : Go p e below F (T.setTop (mkF m q Ls (.int v :: S)))) : Go p e below F (T.setTop (mkF m pc Ls S)) := by
  subst hq; exact of (X.ldcInt C.1 C.2.2.2.2.1 (mvT C.2.1 w) (g := mkF m pc Ls S) rfl (hb C.2.2.1 hd)) K
theorem ldcL (X : Stand p l e R s m args below meth c T locs cells slots) (C : Cx p s m meth c Z bytes maxL own mname ret) {i : Nat} {v : Int64} (w : (Jvm.Cond.constantLong own i v).before a0 Z = true) (hd : decode bytes pc = .ok (.ldc2_w i, 3)) (hq : pc + 3 = q) (K : Go p e below F (T.setTop (mkF m q Ls (.long v :: S)))) : Go p e below F (T.setTop (mkF m pc Ls S)) := by
  subst hq; exact of (X.ldc2Long C.1 C.2.2.2.2.1 (mvT C.2.1 w) (g := mkF m pc Ls S) rfl (hb C.2.2.1 hd)) K
theorem aconst (X : Stand p l e R s m args below meth c T locs cells slots) (C : Cx p s m meth c Z bytes maxL own mname ret) (hd : decode bytes pc = .ok (.aconst_null, 1)) (hq : pc + 1 = q) (K : Go p e below F (T.setTop (mkF m q Ls (.null :: S)))) : Go p e below F (T.setTop (mkF m pc Ls S)) := by
  subst hq; exact of (fun t k => XS.aconstNull X.here C.1 rfl (hb C.2.2.1 hd) k) K
theorem iadd (X : Stand p l e R s m args below meth c T locs cells slots) (C : Cx p s m meth c Z bytes maxL own mname ret) {x : Int32} {y : Int32} (hd : decode bytes pc = .ok (.iadd, 1)) (hq : pc + 1 = q) (K : Go p e below F (T.setTop (mkF m q Ls (.int (x + y) :: S)))) : Go p e below F (T.setTop (mkF m pc Ls (.int y :: .int x :: S))) := by
  subst hq; exact of (fun t k => XS.iadd X.here C.1 rfl (hb C.2.2.1 hd) rfl k) K
theorem ladd (X : Stand p l e R s m args below meth c T locs cells slots) (C : Cx p s m meth c Z bytes maxL own mname ret) {x : Int64} {y : Int64} (hd : decode bytes pc = .ok (.ladd, 1)) (hq : pc + 1 = q) (K : Go p e below F (T.setTop (mkF m q Ls (.long (x + y) :: S)))) : Go p e below F (T.setTop (mkF m pc Ls (.long y :: .long x :: S))) := by
  subst hq; exact of (fun t k => XS.ladd X.here C.1 rfl (hb C.2.2.1 hd) rfl k) K
theorem isub (X : Stand p l e R s m args below meth c T locs cells slots) (C : Cx p s m meth c Z bytes maxL own mname ret) {x : Int32} {y : Int32} (hd : decode bytes pc = .ok (.isub, 1)) (hq : pc + 1 = q) (K : Go p e below F (T.setTop (mkF m q Ls (.int (x - y) :: S)))) : Go p e below F (T.setTop (mkF m pc Ls (.int y :: .int x :: S))) := by
  subst hq; exact of (fun t k => XS.isub X.here C.1 rfl (hb C.2.2.1 hd) rfl k) K
theorem lsub (X : Stand p l e R s m args below meth c T locs cells slots) (C : Cx p s m meth c Z bytes maxL own mname ret) {x : Int64} {y : Int64} (hd : decode bytes pc = .ok (.lsub, 1)) (hq : pc + 1 = q) (K : Go p e below F (T.setTop (mkF m q Ls (.long (x - y) :: S)))) : Go p e below F (T.setTop (mkF m pc Ls (.long y :: .long x :: S))) := by
  subst hq; exact of (fun t k => XS.lsub X.here C.1 rfl (hb C.2.2.1 hd) rfl k) K
theorem imul (X : Stand p l e R s m args below meth c T locs cells slots) (C : Cx p s m meth c Z bytes maxL own mname ret) {x : Int32} {y : Int32} (hd : decode bytes pc = .ok (.imul, 1)) (hq : pc + 1 = q) (K : Go p e below F (T.setTop (mkF m q Ls (.int (x * y) :: S)))) : Go p e below F (T.setTop (mkF m pc Ls (.int y :: .int x :: S))) := by
  subst hq; exact of (fun t k => XS.imul X.here C.1 rfl (hb C.2.2.1 hd) rfl k) K
theorem lmul (X : Stand p l e R s m args below meth c T locs cells slots) (C : Cx p s m meth c Z bytes maxL own mname ret) {x : Int64} {y : Int64} (hd : decode bytes pc = .ok (.lmul, 1)) (hq : pc + 1 = q) (K : Go p e below F (T.setTop (mkF m q Ls (.long (x * y) :: S)))) : Go p e below F (T.setTop (mkF m pc Ls (.long y :: .long x :: S))) := by
  subst hq; exact of (fun t k => XS.lmul X.here C.1 rfl (hb C.2.2.1 hd) rfl k) K
theorem iand (X : Stand p l e R s m args below meth c T locs cells slots) (C : Cx p s m meth c Z bytes maxL own mname ret) {x : Int32} {y : Int32} (hd : decode bytes pc = .ok (.iand, 1)) (hq : pc + 1 = q) (K : Go p e below F (T.setTop (mkF m q Ls (.int (x &&& y) :: S)))) : Go p e below F (T.setTop (mkF m pc Ls (.int y :: .int x :: S))) := by
  subst hq; exact of (fun t k => XS.iand X.here C.1 rfl (hb C.2.2.1 hd) rfl k) K
theorem land (X : Stand p l e R s m args below meth c T locs cells slots) (C : Cx p s m meth c Z bytes maxL own mname ret) {x : Int64} {y : Int64} (hd : decode bytes pc = .ok (.land, 1)) (hq : pc + 1 = q) (K : Go p e below F (T.setTop (mkF m q Ls (.long (x &&& y) :: S)))) : Go p e below F (T.setTop (mkF m pc Ls (.long y :: .long x :: S))) := by
  subst hq; exact of (fun t k => XS.land X.here C.1 rfl (hb C.2.2.1 hd) rfl k) K
theorem ior (X : Stand p l e R s m args below meth c T locs cells slots) (C : Cx p s m meth c Z bytes maxL own mname ret) {x : Int32} {y : Int32} (hd : decode bytes pc = .ok (.ior, 1)) (hq : pc + 1 = q) (K : Go p e below F (T.setTop (mkF m q Ls (.int (x ||| y) :: S)))) : Go p e below F (T.setTop (mkF m pc Ls (.int y :: .int x :: S))) := by
  subst hq; exact of (fun t k => XS.ior X.here C.1 rfl (hb C.2.2.1 hd) rfl k) K
theorem lor (X : Stand p l e R s m args below meth c T locs cells slots) (C : Cx p s m meth c Z bytes maxL own mname ret) {x : Int64} {y : Int64} (hd : decode bytes pc = .ok (.lor, 1)) (hq : pc + 1 = q) (K : Go p e below F (T.setTop (mkF m q Ls (.long (x ||| y) :: S)))) : Go p e below F (T.setTop (mkF m pc Ls (.long y :: .long x :: S))) := by
  subst hq; exact of (fun t k => XS.lor X.here C.1 rfl (hb C.2.2.1 hd) rfl k) K
theorem ixor (X : Stand p l e R s m args below meth c T locs cells slots) (C : Cx p s m meth c Z bytes maxL own mname ret) {x : Int32} {y : Int32} (hd : decode bytes pc = .ok (.ixor, 1)) (hq : pc + 1 = q) (K : Go p e below F (T.setTop (mkF m q Ls (.int (x ^^^ y) :: S)))) : Go p e below F (T.setTop (mkF m pc Ls (.int y :: .int x :: S))) := by
  subst hq; exact of (fun t k => XS.ixor X.here C.1 rfl (hb C.2.2.1 hd) rfl k) K
theorem lxor (X : Stand p l e R s m args below meth c T locs cells slots) (C : Cx p s m meth c Z bytes maxL own mname ret) {x : Int64} {y : Int64} (hd : decode bytes pc = .ok (.lxor, 1)) (hq : pc + 1 = q) (K : Go p e below F (T.setTop (mkF m q Ls (.long (x ^^^ y) :: S)))) : Go p e below F (T.setTop (mkF m pc Ls (.long y :: .long x :: S))) := by
  subst hq; exact of (fun t k => XS.lxor X.here C.1 rfl (hb C.2.2.1 hd) rfl k) K
theorem ishl (X : Stand p l e R s m args below meth c T locs cells slots) (C : Cx p s m meth c Z bytes maxL own mname ret) {x : Int32} {y : Int32} (hd : decode bytes pc = .ok (.ishl, 1)) (hq : pc + 1 = q) (K : Go p e below F (T.setTop (mkF m q Ls (.int (x <<< (y &&& 31)) :: S)))) : Go p e below F (T.setTop (mkF m pc Ls (.int y :: .int x :: S))) := by
  subst hq; exact of (fun t k => XS.ishl X.here C.1 rfl (hb C.2.2.1 hd) rfl k) K
theorem ishr (X : Stand p l e R s m args below meth c T locs cells slots) (C : Cx p s m meth c Z bytes maxL own mname ret) {x : Int32} {y : Int32} (hd : decode bytes pc = .ok (.ishr, 1)) (hq : pc + 1 = q) (K : Go p e below F (T.setTop (mkF m q Ls (.int (x >>> (y &&& 31)) :: S)))) : Go p e below F (T.setTop (mkF m pc Ls (.int y :: .int x :: S))) := by
  subst hq; exact of (fun t k => XS.ishr X.here C.1 rfl (hb C.2.2.1 hd) rfl k) K
theorem iushr (X : Stand p l e R s m args below meth c T locs cells slots) (C : Cx p s m meth c Z bytes maxL own mname ret) {x : Int32} {y : Int32} (hd : decode bytes pc = .ok (.iushr, 1)) (hq : pc + 1 = q) (K : Go p e below F (T.setTop (mkF m q Ls (.int ((x.toUInt32 >>> (y &&& 31).toUInt32).toInt32) :: S)))) : Go p e below F (T.setTop (mkF m pc Ls (.int y :: .int x :: S))) := by
  subst hq; exact of (fun t k => XS.iushr X.here C.1 rfl (hb C.2.2.1 hd) rfl k) K
theorem lshl (X : Stand p l e R s m args below meth c T locs cells slots) (C : Cx p s m meth c Z bytes maxL own mname ret) {x : Int64} {y : Int32} (hd : decode bytes pc = .ok (.lshl, 1)) (hq : pc + 1 = q) (K : Go p e below F (T.setTop (mkF m q Ls (.long (x <<< (y &&& 0x3f).toInt64) :: S)))) : Go p e below F (T.setTop (mkF m pc Ls (.int y :: .long x :: S))) := by
  subst hq; exact of (fun t k => XS.lshl X.here C.1 rfl (hb C.2.2.1 hd) rfl k) K
theorem lshr (X : Stand p l e R s m args below meth c T locs cells slots) (C : Cx p s m meth c Z bytes maxL own mname ret) {x : Int64} {y : Int32} (hd : decode bytes pc = .ok (.lshr, 1)) (hq : pc + 1 = q) (K : Go p e below F (T.setTop (mkF m q Ls (.long (x >>> (y &&& 0x3f).toInt64) :: S)))) : Go p e below F (T.setTop (mkF m pc Ls (.int y :: .long x :: S))) := by
  subst hq; exact of (fun t k => XS.lshr X.here C.1 rfl (hb C.2.2.1 hd) rfl k) K
theorem lushr (X : Stand p l e R s m args below meth c T locs cells slots) (C : Cx p s m meth c Z bytes maxL own mname ret) {x : Int64} {y : Int32} (hd : decode bytes pc = .ok (.lushr, 1)) (hq : pc + 1 = q) (K : Go p e below F (T.setTop (mkF m q Ls (.long ((x.toUInt64 >>> (y &&& 0x3f).toInt64.toUInt64).toInt64) :: S)))) : Go p e below F (T.setTop (mkF m pc Ls (.int y :: .long x :: S))) := by
  subst hq; exact of (fun t k => XS.lushr X.here C.1 rfl (hb C.2.2.1 hd) rfl k) K
theorem ineg (X : Stand p l e R s m args below meth c T locs cells slots) (C : Cx p s m meth c Z bytes maxL own mname ret) {x : Int32} (hd : decode bytes pc = .ok (.ineg, 1)) (hq : pc + 1 = q) (K : Go p e below F (T.setTop (mkF m q Ls (.int (-x) :: S)))) : Go p e below F (T.setTop (mkF m pc Ls (.int x :: S))) := by
  subst hq; exact of (fun t k => XS.ineg X.here C.1 rfl (hb C.2.2.1 hd) rfl k) K
theorem lneg (X : Stand p l e R s m args below meth c T locs cells slots) (C : Cx p s m meth c Z bytes maxL own mname ret) {x : Int64} (hd : decode bytes pc = .ok (.lneg, 1)) (hq : pc + 1 = q) (K : Go p e below F (T.setTop (mkF m q Ls (.long (-x) :: S)))) : Go p e below F (T.setTop (mkF m pc Ls (.long x :: S))) := by
  subst hq; exact of (fun t k => XS.lneg X.here C.1 rfl (hb C.2.2.1 hd) rfl k) K
theorem i2l (X : Stand p l e R s m args below meth c T locs cells slots) (C : Cx p s m meth c Z bytes maxL own mname ret) {x : Int32} (hd : decode bytes pc = .ok (.i2l, 1)) (hq : pc + 1 = q) (K : Go p e below F (T.setTop (mkF m q Ls (.long (x.toInt64) :: S)))) : Go p e below F (T.setTop (mkF m pc Ls (.int x :: S))) := by
  subst hq; exact of (fun t k => XS.i2l X.here C.1 rfl (hb C.2.2.1 hd) rfl k) K
theorem l2i (X : Stand p l e R s m args below meth c T locs cells slots) (C : Cx p s m meth c Z bytes maxL own mname ret) {x : Int64} (hd : decode bytes pc = .ok (.l2i, 1)) (hq : pc + 1 = q) (K : Go p e below F (T.setTop (mkF m q Ls (.int (x.toInt32) :: S)))) : Go p e below F (T.setTop (mkF m pc Ls (.long x :: S))) := by
  subst hq; exact of (fun t k => XS.l2i X.here C.1 rfl (hb C.2.2.1 hd) rfl k) K
theorem i2b (X : Stand p l e R s m args below meth c T locs cells slots) (C : Cx p s m meth c Z bytes maxL own mname ret) {x : Int32} (hd : decode bytes pc = .ok (.i2b, 1)) (hq : pc + 1 = q) (K : Go p e below F (T.setTop (mkF m q Ls (.int (x.toInt8.toInt32) :: S)))) : Go p e below F (T.setTop (mkF m pc Ls (.int x :: S))) := by
  subst hq; exact of (fun t k => XS.i2b X.here C.1 rfl (hb C.2.2.1 hd) rfl k) K
theorem i2s (X : Stand p l e R s m args below meth c T locs cells slots) (C : Cx p s m meth c Z bytes maxL own mname ret) {x : Int32} (hd : decode bytes pc = .ok (.i2s, 1)) (hq : pc + 1 = q) (K : Go p e below F (T.setTop (mkF m q Ls (.int (x.toInt16.toInt32) :: S)))) : Go p e below F (T.setTop (mkF m pc Ls (.int x :: S))) := by
  subst hq; exact of (fun t k => XS.i2s X.here C.1 rfl (hb C.2.2.1 hd) rfl k) K
theorem i2c (X : Stand p l e R s m args below meth c T locs cells slots) (C : Cx p s m meth c Z bytes maxL own mname ret) {x : Int32} (hd : decode bytes pc = .ok (.i2c, 1)) (hq : pc + 1 = q) (K : Go p e below F (T.setTop (mkF m q Ls (.int (x.toUInt32.toUInt16.toUInt32.toInt32) :: S)))) : Go p e below F (T.setTop (mkF m pc Ls (.int x :: S))) := by
  subst hq; exact of (fun t k => XS.i2c X.here C.1 rfl (hb C.2.2.1 hd) rfl k) K
theorem idiv (X : Stand p l e R s m args below meth c T locs cells slots) (C : Cx p s m meth c Z bytes maxL own mname ret) {x y : Int32} (hd : decode bytes pc = .ok (.idiv, 1)) (hy : y ≠ 0) (hq : pc + 1 = q) (K : Go p e below F (T.setTop (mkF m q Ls (.int (x / y) :: S)))) : Go p e below F (T.setTop (mkF m pc Ls (.int y :: .int x :: S))) := by
  subst hq; exact of (fun t k => XS.idiv X.here C.1 rfl (hb C.2.2.1 hd) rfl hy k) K
theorem irem (X : Stand p l e R s m args below meth c T locs cells slots) (C : Cx p s m meth c Z bytes maxL own mname ret) {x y : Int32} (hd : decode bytes pc = .ok (.irem, 1)) (hy : y ≠ 0) (hq : pc + 1 = q) (K : Go p e below F (T.setTop (mkF m q Ls (.int (x % y) :: S)))) : Go p e below F (T.setTop (mkF m pc Ls (.int y :: .int x :: S))) := by
  subst hq; exact of (fun t k => iremM (g := mkF m pc Ls (.int y :: .int x :: S)) X C.1 rfl (hb C.2.2.1 hd) rfl hy k) K
theorem ldiv (X : Stand p l e R s m args below meth c T locs cells slots) (C : Cx p s m meth c Z bytes maxL own mname ret) {x y : Int64} (hd : decode bytes pc = .ok (.ldiv, 1)) (hy : y ≠ 0) (hq : pc + 1 = q) (K : Go p e below F (T.setTop (mkF m q Ls (.long (x / y) :: S)))) : Go p e below F (T.setTop (mkF m pc Ls (.long y :: .long x :: S))) := by
  subst hq; exact of (fun t k => XS.ldiv X.here C.1 rfl (hb C.2.2.1 hd) rfl hy k) K
theorem lcmp (X : Stand p l e R s m args below meth c T locs cells slots) (C : Cx p s m meth c Z bytes maxL own mname ret) {x y : Int64} (hd : decode bytes pc = .ok (.lcmp, 1)) (hq : pc + 1 = q) (K : Go p e below F (T.setTop (mkF m q Ls (.int (lcmpW x y) :: S)))) : Go p e below F (T.setTop (mkF m pc Ls (.long y :: .long x :: S))) := by
  subst hq; exact of (fun t k => XS.lcmp X.here C.1 rfl (hb C.2.2.1 hd) rfl k) K
theorem dup (X : Stand p l e R s m args below meth c T locs cells slots) (C : Cx p s m meth c Z bytes maxL own mname ret) {v : Value} (hd : decode bytes pc = .ok (.dup, 1)) (hv : v.category = 1) (hq : pc + 1 = q) (K : Go p e below F (T.setTop (mkF m q Ls (v :: v :: S)))) : Go p e below F (T.setTop (mkF m pc Ls (v :: S))) := by
  subst hq; exact of (fun t k => XS.dup X.here C.1 rfl (hb C.2.2.1 hd) rfl hv k) K
theorem dupX1 (X : Stand p l e R s m args below meth c T locs cells slots) (C : Cx p s m meth c Z bytes maxL own mname ret) {v w : Value} (hd : decode bytes pc = .ok (.dup_x1, 1)) (hv : v.category = 1) (hw : w.category = 1) (hq : pc + 1 = q) (K : Go p e below F (T.setTop (mkF m q Ls (v :: w :: v :: S)))) : Go p e below F (T.setTop (mkF m pc Ls (v :: w :: S))) := by
  subst hq; exact of (fun t k => XS.dupX1 X.here C.1 rfl (hb C.2.2.1 hd) rfl hv hw k) K
theorem pop (X : Stand p l e R s m args below meth c T locs cells slots) (C : Cx p s m meth c Z bytes maxL own mname ret) {v : Value} (hd : decode bytes pc = .ok (.pop, 1)) (hv : v.category = 1) (hq : pc + 1 = q) (K : Go p e below F (T.setTop (mkF m q Ls S))) : Go p e below F (T.setTop (mkF m pc Ls (v :: S))) := by
  subst hq; exact of (fun t k => XS.pop X.here C.1 rfl (hb C.2.2.1 hd) rfl hv k) K
theorem goto (X : Stand p l e R s m args below meth c T locs cells slots) (C : Cx p s m meth c Z bytes maxL own mname ret) {o : Int} (hd : decode bytes pc = .ok (.goto o, 3)) (ho : 0 ≤ (pc : Int) + o) (hq : ((pc : Int) + o).toNat = q) (K : Go p e below F (T.setTop (mkF m q Ls S))) : Go p e below F (T.setTop (mkF m pc Ls S)) :=
  of (fun t k => XS.goto X.here C.1 rfl rfl (hb C.2.2.1 hd) ho hq k) K
theorem icmpT (X : Stand p l e R s m args below meth c T locs cells slots) (C : Cx p s m meth c Z bytes maxL own mname ret) {cd : ClassFile.Cond} {o : Int} {x y : Int32} (hd : decode bytes pc = .ok (.if_icmp cd o, 3)) (ho : 0 ≤ (pc : Int) + o) (hq : ((pc : Int) + o).toNat = q) (hc : cT cd x y) (K : Go p e below F (T.setTop (mkF m q Ls S))) : Go p e below F (T.setTop (mkF m pc Ls (.int y :: .int x :: S))) :=
  of (fun t k => XS.icmpYes X.here C.1 rfl rfl (hb C.2.2.1 hd) rfl (holdsT hc) ho hq k) K
theorem icmpF (X : Stand p l e R s m args below meth c T locs cells slots) (C : Cx p s m meth c Z bytes maxL own mname ret) {cd : ClassFile.Cond} {o : Int} {x y : Int32} (hd : decode bytes pc = .ok (.if_icmp cd o, 3)) (hq : pc + 3 = q) (hc : cF cd x y) (K : Go p e below F (T.setTop (mkF m q Ls S))) : Go p e below F (T.setTop (mkF m pc Ls (.int y :: .int x :: S))) := by
  subst hq; exact of (fun t k => XS.icmpNo X.here C.1 rfl (hb C.2.2.1 hd) rfl (holdsF hc) k) K
theorem icmp (X : Stand p l e R s m args below meth c T locs cells slots) (C : Cx p s m meth c Z bytes maxL own mname ret) {cd : ClassFile.Cond} {o : Int} {x y : Int32} {q' : Nat} (hd : decode bytes pc = .ok (.if_icmp cd o, 3)) (ho : 0 ≤ (pc : Int) + o) (hq : ((pc : Int) + o).toNat = q) (hq' : pc + 3 = q') (K : cT cd x y → Go p e below F (T.setTop (mkF m q Ls S))) (K' : cF cd x y → Go p e below F (T.setTop (mkF m q' Ls S))) : Go p e below F (T.setTop (mkF m pc Ls (.int y :: .int x :: S))) :=
  (cTF cd x y).elim (fun hc => icmpT X C hd ho hq hc (K hc)) (fun hc => icmpF X C hd hq' hc (K' hc))
theorem ifT (X : Stand p l e R s m args below meth c T locs cells slots) (C : Cx p s m meth c Z bytes maxL own mname ret) {cd : ClassFile.Cond} {o : Int} {x : Int32} (hd : decode bytes pc = .ok (.ifCond cd o, 3)) (ho : 0 ≤ (pc : Int) + o) (hq : ((pc : Int) + o).toNat = q) (hc : cT cd x 0) (K : Go p e below F (T.setTop (mkF m q Ls S))) : Go p e below F (T.setTop (mkF m pc Ls (.int x :: S))) :=
  of (fun t k => XS.ifYes X.here C.1 rfl rfl (hb C.2.2.1 hd) rfl ((if0 _ _).trans (holdsT hc)) ho hq k) K
theorem ifF (X : Stand p l e R s m args below meth c T locs cells slots) (C : Cx p s m meth c Z bytes maxL own mname ret) {cd : ClassFile.Cond} {o : Int} {x : Int32} (hd : decode bytes pc = .ok (.ifCond cd o, 3)) (hq : pc + 3 = q) (hc : cF cd x 0) (K : Go p e below F (T.setTop (mkF m q Ls S))) : Go p e below F (T.setTop (mkF m pc Ls (.int x :: S))) := by
  subst hq; exact of (fun t k => XS.ifNo X.here C.1 rfl (hb C.2.2.1 hd) rfl ((if0 _ _).trans (holdsF hc)) k) K
theorem if_ (X : Stand p l e R s m args below meth c T locs cells slots) (C : Cx p s m meth c Z bytes maxL own mname ret) {cd : ClassFile.Cond} {o : Int} {x : Int32} {q' : Nat} (hd : decode bytes pc = .ok (.ifCond cd o, 3)) (ho : 0 ≤ (pc : Int) + o) (hq : ((pc : Int) + o).toNat = q) (hq' : pc + 3 = q') (K : cT cd x 0 → Go p e below F (T.setTop (mkF m q Ls S))) (K' : cF cd x 0 → Go p e below F (T.setTop (mkF m q' Ls S))) : Go p e below F (T.setTop (mkF m pc Ls (.int x :: S))) :=
  (cTF cd x 0).elim (fun hc => ifT X C hd ho hq hc (K hc)) (fun hc => ifF X C hd hq' hc (K' hc))
theorem ifnullT (X : Stand p l e R s m args below meth c T locs cells slots) (C : Cx p s m meth c Z bytes maxL own mname ret) {o : Int} (hd : decode bytes pc = .ok (.ifnull o, 3)) (ho : 0 ≤ (pc : Int) + o) (hq : ((pc : Int) + o).toNat = q) (K : Go p e below F (T.setTop (mkF m q Ls S))) : Go p e below F (T.setTop (mkF m pc Ls (.null :: S))) :=
  of (fun t k => XS.ifnullYes X.here C.1 rfl rfl (hb C.2.2.1 hd) rfl ho hq k) K
theorem ifnullF (X : Stand p l e R s m args below meth c T locs cells slots) (C : Cx p s m meth c Z bytes maxL own mname ret) {o : Int} {a : Addr} (hd : decode bytes pc = .ok (.ifnull o, 3)) (hq : pc + 3 = q) (K : Go p e below F (T.setTop (mkF m q Ls S))) : Go p e below F (T.setTop (mkF m pc Ls (.ref a :: S))) := by
  subst hq; exact of (fun t k => XS.ifnullNo X.here C.1 rfl (hb C.2.2.1 hd) rfl k) K
theorem ifnonnullT (X : Stand p l e R s m args below meth c T locs cells slots) (C : Cx p s m meth c Z bytes maxL own mname ret) {o : Int} {a : Addr} (hd : decode bytes pc = .ok (.ifnonnull o, 3)) (ho : 0 ≤ (pc : Int) + o) (hq : ((pc : Int) + o).toNat = q) (K : Go p e below F (T.setTop (mkF m q Ls S))) : Go p e below F (T.setTop (mkF m pc Ls (.ref a :: S))) :=
  of (fun t k => XS.ifnonnullYes X.here C.1 rfl rfl (hb C.2.2.1 hd) rfl ho hq k) K
theorem ifnonnullF (X : Stand p l e R s m args below meth c T locs cells slots) (C : Cx p s m meth c Z bytes maxL own mname ret) {o : Int} (hd : decode bytes pc = .ok (.ifnonnull o, 3)) (hq : pc + 3 = q) (K : Go p e below F (T.setTop (mkF m q Ls S))) : Go p e below F (T.setTop (mkF m pc Ls (.null :: S))) := by
  subst hq; exact of (fun t k => XS.ifnonnullNo X.here C.1 rfl (hb C.2.2.1 hd) rfl k) K
/-! calls -/
theorem callS (X : Stand p l e R s m args below meth c T locs cells slots) (C : Cx p s m meth c Z bytes maxL own mname ret) {y : MethodName} {i : Nat} {yb : ByteArray} {ym : Nat} {yr : Option FieldType} (w1 : (Jvm.Cond.methodLink own i y).before a0 Z = true) (w2 : (Jvm.Cond.static y).before a0 Z = true) (w3 : (Jvm.Cond.initialized y.cls).before a0 Z = true) (w4 : (Jvm.Cond.code y yb ym yr).before a0 Z = true) (hy : y.cls ≠ "java/lang/invoke/MethodHandle" ∧ y.cls ≠ "java/lang/invoke/VarHandle")
    {rm : Room} {as' : Array Value} {Q : Option Value → Heap → List Loc → Prop} (hM : MetFree l y (head1 [Jvm.Cond.code y yb ym yr] rm) (fun a U => a = as' ∧ Z.Warmed39 U.vm ∧ U.heap = h) (fun _ _ _ _ _ => True) (fun _ U o U' => ∃ v L, o = .returned v ∧ Q v U'.heap L ∧ FrameEnd U o U' L rm.cells rm.slots))
    (eT : T.heap = h) (hd : decode bytes pc = .ok (.invokestatic i, 3)) (argsL : List Value) (rest : List Value) (hS : S = argsL.reverse ++ rest) (has : as' = argsL.toArray) {ps : List FieldType} {r : Option FieldType} (hpd : parseMethodDescriptor y.desc = some ⟨ps, r⟩) (hlen : argsL.length = ps.length) (hsz : Ls.size = maxL)
    (hf : rm.frames + 1 ≤ R.frames) (hl : (rest.map fun v => v.category).sum + (ym + 11) + rm.locals ≤ R.locals) (hc : cells + rm.cells ≤ R.cells) (hsl : slots + rm.slots ≤ R.slots) (hq : pc + 3 = q)
    (K : ∀ (T' : State) (v : Option Value) (L : List Loc), Stand p l e R s m args below meth c T' (locs ++ L) (cells + rm.cells) (slots + rm.slots) → Q v T'.heap L → Go p e below F (T'.setTop (mkF m q Ls (v.toList ++ rest)))) : Go p e below F (T.setTop (mkF m pc Ls S)) := by
  subst hq hS has
  obtain ⟨hx, hZ, hby, hml, hown, hnm, hret, hlk⟩ := C
  obtain ⟨v, _, ⟨T1, L1, k1, n1⟩, -, X1, ⟨Lc, hQ, l1, y1, z1⟩, st⟩ := Jvm.LawKit.callS X hx hown (mvT hZ w1) (mvT hZ w2) (mvT hZ w3) (mvT hZ w4) hy (backOf (W := (rest.map fun v => v.category).sum) hM hZ w4 w3 hf hl) (g := mkF m pc Ls (argsL.reverse ++ rest)) rfl (by rw [hml]; exact hsz) (argsL := argsL) (rest := rest) (lenOf hpd hlen) rfl (by show 2 * 0 + _ ≤ _; omega) (hb hby hd) (fun _ _ => ⟨rfl, eT, hc, hsl⟩)
  dsimp only [Pt.U, Pt.locs, Pt.cells, Pt.slots] at X1 l1 y1 z1 st hQ
  subst l1 y1 z1
  exact of st (K T1 v Lc X1 hQ)
theorem callI (X : Stand p l e R s m args below meth c T locs cells slots) (C : Cx p s m meth c Z bytes maxL own mname ret) {y : MethodName} {i : Nat} {yb : ByteArray} {ym : Nat} (hy1 : y.name = "<init>") (w1 : (Jvm.Cond.methodLink own i y).before a0 Z = true) (w2 : (Jvm.Cond.instanceMethod y).before a0 Z = true) (w3 : (Jvm.Cond.initialized y.cls).before a0 Z = true) (w4 : (Jvm.Cond.code y yb ym none).before a0 Z = true) (hy : y.cls ≠ "java/lang/invoke/MethodHandle" ∧ y.cls ≠ "java/lang/invoke/VarHandle")
    {rm : Room} {as' : Array Value} {Q : Option Value → Heap → List Loc → Prop} (hM : MetFree l y (head1 [Jvm.Cond.code y yb ym none] rm) (fun a U => a = as' ∧ Z.Warmed39 U.vm ∧ U.heap = h) (fun _ _ _ _ _ => True) (fun _ U o U' => ∃ v L, o = .returned v ∧ Q v U'.heap L ∧ FrameEnd U o U' L rm.cells rm.slots))
    (eT : T.heap = h) (hd : decode bytes pc = .ok (.invokespecial i, 3)) {a : Addr} (argsL : List Value) (rest : List Value) (hS : S = argsL.reverse ++ .ref a :: rest) (has : as' = (.ref a :: argsL).toArray) {ps : List FieldType} {r : Option FieldType} (hpd : parseMethodDescriptor y.desc = some ⟨ps, r⟩) (hlen : argsL.length = ps.length) (hsz : Ls.size = maxL)
    (hf : rm.frames + 1 ≤ R.frames) (hl : (rest.map fun v => v.category).sum + (ym + 11) + rm.locals ≤ R.locals) (hc : cells + rm.cells ≤ R.cells) (hsl : slots + rm.slots ≤ R.slots) (hq : pc + 3 = q)
    (K : ∀ (T' : State) (v : Option Value) (L : List Loc), Stand p l e R s m args below meth c T' (locs ++ L) (cells + rm.cells) (slots + rm.slots) → Q v T'.heap L → Go p e below F (T'.setTop (mkF m q Ls (v.toList ++ rest)))) : Go p e below F (T.setTop (mkF m pc Ls S)) := by
  subst hq hS has
  obtain ⟨hx, hZ, hby, hml, hown, hnm, hret, hlk⟩ := C
  obtain ⟨v, _, ⟨T1, L1, k1, n1⟩, -, X1, ⟨Lc, hQ, l1, y1, z1⟩, st⟩ := X.specialBack hx hy1 hown (mvT hZ w1) (mvT hZ w2) (mvT hZ w4) hy (backOf (W := (rest.map fun v => v.category).sum) hM hZ w4 w3 hf hl) (g := mkF m pc Ls (argsL.reverse ++ .ref a :: rest)) rfl (by rw [hml]; exact hsz) (Steps.refl _) (a := a) (argsL := argsL) (rest := rest) (lenOf hpd hlen) rfl (by show 2 * 0 + _ ≤ _; omega) (hb hby hd) (fun _ _ => ⟨rfl, eT, hc, hsl⟩)
  dsimp only [Pt.U, Pt.locs, Pt.cells, Pt.slots] at X1 l1 y1 z1 st hQ
  subst l1 y1 z1
  exact tr st (K T1 v Lc X1 hQ)
theorem callV (X : Stand p l e R s m args below meth c T locs cells slots) (C : Cx p s m meth c Z bytes maxL own mname ret) {y z : MethodName} {i : Nat} {Cn : String} {yb : ByteArray} {ym : Nat} {yr : Option FieldType} (w1 : (Jvm.Cond.methodLink own i y).before a0 Z = true) (w2 : (Jvm.Cond.declares y).before a0 Z = true) (hnf : NotFace s y) (ws : (Jvm.Cond.selects Cn y z).before a0 Z = true) (wi : (Jvm.Cond.instanceMethod z).before a0 Z = true) (w3 : (Jvm.Cond.initialized z.cls).before a0 Z = true) (w4 : (Jvm.Cond.code z yb ym yr).before a0 Z = true) (hy : y.cls ≠ "java/lang/invoke/MethodHandle" ∧ y.cls ≠ "java/lang/invoke/VarHandle")
    {rm : Room} {as' : Array Value} {Q : Option Value → Heap → List Loc → Prop} (hM : MetFree l z (head1 [Jvm.Cond.code z yb ym yr] rm) (fun a U => a = as' ∧ Z.Warmed39 U.vm ∧ U.heap = h) (fun _ _ _ _ _ => True) (fun _ U o U' => ∃ v L, o = .returned v ∧ Q v U'.heap L ∧ FrameEnd U o U' L rm.cells rm.slots))
    (eT : T.heap = h) {a : Addr} (E : Exa Z h a Cn) (hd : decode bytes pc = .ok (.invokevirtual i, 3)) (argsL : List Value) (rest : List Value) (hS : S = argsL.reverse ++ .ref a :: rest) (has : as' = (.ref a :: argsL).toArray) {ps : List FieldType} {r : Option FieldType} (hpd : parseMethodDescriptor y.desc = some ⟨ps, r⟩) (hlen : argsL.length = ps.length) (hsz : Ls.size = maxL)
    (hf : rm.frames + 1 ≤ R.frames) (hl : (rest.map fun v => v.category).sum + (ym + 11) + rm.locals ≤ R.locals) (hc : cells + rm.cells ≤ R.cells) (hsl : slots + rm.slots ≤ R.slots) (hq : pc + 3 = q)
    (K : ∀ (T' : State) (v : Option Value) (L : List Loc), Stand p l e R s m args below meth c T' (locs ++ L) (cells + rm.cells) (slots + rm.slots) → Q v T'.heap L → Go p e below F (T'.setTop (mkF m q Ls (v.toList ++ rest)))) : Go p e below F (T.setTop (mkF m pc Ls S)) := by
  subst hq hS has
  obtain ⟨hx, hZ, hby, hml, hown, hnm, hret, hlk⟩ := C
  obtain ⟨cq, kq, qa, qb, qc⟩ := isOf hZ eT E
  obtain ⟨v, _, ⟨T1, L1, k1, n1⟩, -, X1, ⟨Lc, hQ, l1, y1, z1⟩, st⟩ := X.virtualBack hx hown (mvT hZ w1) (mvT hZ w2) hnf (mvT hZ ws) (mvT hZ wi) hy (backOf (W := (rest.map fun v => v.category).sum) hM hZ w4 w3 hf hl) qa qc (g := mkF m pc Ls (argsL.reverse ++ .ref a :: rest)) rfl (by rw [hml]; exact hsz) (Steps.refl _) (argsL := argsL) (rest := rest) (lenOf hpd hlen) rfl (by show 2 * 0 + _ ≤ _; omega) (hb hby hd) (fun _ _ => ⟨rfl, eT, hc, hsl⟩)
  dsimp only [Pt.U, Pt.locs, Pt.cells, Pt.slots] at X1 l1 y1 z1 st hQ
  subst l1 y1 z1
  exact tr st (K T1 v Lc X1 hQ)
theorem callP (X : Stand p l e R s m args below meth c T locs cells slots) (C : Cx p s m meth c Z bytes maxL own mname ret) {y y2 : MethodName} {i : Nat} {Cn : String} {yb : ByteArray} {ym : Nat} {yr : Option FieldType} (w1 : (Jvm.Cond.methodLink own i y).before a0 Z = true) (wi : (Jvm.Cond.instanceMethod y).before a0 Z = true) (wp : (Jvm.Cond.privateMethod y).before a0 Z = true) (hcls : y2.cls = y.cls) (ws : (Jvm.Cond.selects y2.cls y2 y2).before a0 Z = true) (w3 : (Jvm.Cond.initialized y.cls).before a0 Z = true) (w4 : (Jvm.Cond.code y yb ym yr).before a0 Z = true) (hy : y.cls ≠ "java/lang/invoke/MethodHandle" ∧ y.cls ≠ "java/lang/invoke/VarHandle")
    {rm : Room} {as' : Array Value} {Q : Option Value → Heap → List Loc → Prop} (hM : MetFree l y (head1 [Jvm.Cond.code y yb ym yr] rm) (fun a U => a = as' ∧ Z.Warmed39 U.vm ∧ U.heap = h) (fun _ _ _ _ _ => True) (fun _ U o U' => ∃ v L, o = .returned v ∧ Q v U'.heap L ∧ FrameEnd U o U' L rm.cells rm.slots))
    (eT : T.heap = h) {a : Addr} (E : Exa Z h a Cn) (hd : decode bytes pc = .ok (.invokevirtual i, 3)) (argsL : List Value) (rest : List Value) (hS : S = argsL.reverse ++ .ref a :: rest) (has : as' = (.ref a :: argsL).toArray) {ps : List FieldType} {r : Option FieldType} (hpd : parseMethodDescriptor y.desc = some ⟨ps, r⟩) (hlen : argsL.length = ps.length) (hsz : Ls.size = maxL)
    (hf : rm.frames + 1 ≤ R.frames) (hl : (rest.map fun v => v.category).sum + (ym + 11) + rm.locals ≤ R.locals) (hc : cells + rm.cells ≤ R.cells) (hsl : slots + rm.slots ≤ R.slots) (hq : pc + 3 = q)
    (K : ∀ (T' : State) (v : Option Value) (L : List Loc), Stand p l e R s m args below meth c T' (locs ++ L) (cells + rm.cells) (slots + rm.slots) → Q v T'.heap L → Go p e below F (T'.setTop (mkF m q Ls (v.toList ++ rest)))) : Go p e below F (T.setTop (mkF m pc Ls S)) := by
  subst hq hS has
  obtain ⟨hx, hZ, hby, hml, hown, hnm, hret, hlk⟩ := C
  obtain ⟨cl, qa, qb⟩ := E.cell
  rw [← eT] at qa
  have ws' : (Jvm.Cond.selects y2.cls y2 y2).before args s = true := mvT hZ ws
  obtain ⟨_, _, m2, -, -, q3, -, kP, hkP, hkPi⟩ := Cond.selects_spec ws'
  have hfc := findClass_of_methodNamed q3
  rw [hcls] at hfc
  have hpr : s.PrivateAt y := Cond.privateMethod_at (args := args) (mvP hZ wp)
  have hsel := Jvm.Stand.selects_self_of_private (args := args) hfc hkP hkPi hpr (mvT hZ wi) hy
  obtain ⟨v, _, ⟨T1, L1, k1, n1⟩, -, X1, ⟨Lc, hQ, l1, y1, z1⟩, st⟩ := X.privateBack hx hown (mvT hZ w1) (mvT hZ wi) hsel hpr (mvT hZ w4) hy (backOf (W := (rest.map fun v => v.category).sum) hM hZ w4 w3 hf hl) (g := mkF m pc Ls (argsL.reverse ++ .ref a :: rest)) rfl (by rw [hml]; exact hsz) (Steps.refl _) qa qb (argsL := argsL) (rest := rest) (lenOf hpd hlen) rfl (by show 2 * 0 + _ ≤ _; omega) (hb hby hd) (fun _ _ => ⟨rfl, eT, hc, hsl⟩)
  dsimp only [Pt.U, Pt.locs, Pt.cells, Pt.slots] at X1 l1 y1 z1 st hQ
  subst l1 y1 z1
  exact tr st (K T1 v Lc X1 hQ)
theorem nf (C : Cx p s m meth c Z bytes maxL own mname ret) {Cn : String} {y : MethodName} (ws : (Jvm.Cond.selects Cn y y).before a0 Z = true) : NotFace s y := notFace_of_selects (args := #[]) (mvT C.2.1 ws)
theorem initObj (X : Stand p l e R s m args below meth c T locs cells slots) (C : Cx p s m meth c Z bytes maxL own mname ret) {i : Nat} (w1 : (Jvm.Cond.methodLink own i ⟨"java/lang/Object", "<init>", "()V"⟩).before a0 Z = true) (w2 : (Jvm.Cond.instanceMethod ⟨"java/lang/Object", "<init>", "()V"⟩).before a0 Z = true) (w3 : (Jvm.Cond.code ⟨"java/lang/Object", "<init>", "()V"⟩ object_method_1_code 1 none).before a0 Z = true)
    (eT : T.heap = h) {a : Addr} (hd : decode bytes pc = .ok (.invokespecial i, 3)) (hsz : Ls.size = maxL) (hf : 1 ≤ R.frames) (hl : (S.map fun v => v.category).sum + 12 ≤ R.locals) (hq : pc + 3 = q)
    (K : ∀ (T' : State), Stand p l e R s m args below meth c T' locs cells slots → T'.heap = h → Go p e below F (T'.setTop (mkF m q Ls S))) : Go p e below F (T.setTop (mkF m pc Ls (.ref a :: S))) := by
  subst hq
  obtain ⟨hx, hZ, hby, hml, hown, hnm, hret, hlk⟩ := C
  obtain ⟨T1, X1, e1, st⟩ := initO X hx hZ hown w1 w2 w3 eT (g := mkF m pc Ls (.ref a :: S)) rfl (by rw [hml]; exact hsz) rfl (hb hby hd) hf (W := (S.map fun v => v.category).sum) (by show 2 * 0 + _ ≤ _; omega) hl
  exact of st (K T1 X1 e1)
/-! objects -/
theorem newO (X : Stand p l e R s m args below meth c T locs cells slots) (C : Cx p s m meth c Z bytes maxL own mname ret) {i n : Nat} {Cn : String} (w1 : (Jvm.Cond.classLink own i Cn).before a0 Z = true) (w2 : (Jvm.Cond.instantiable Cn n).before a0 Z = true) (w3 : (Jvm.Cond.initialized Cn).before a0 Z = true) (eT : T.heap = h) (hd : decode bytes pc = .ok (.new i, 3)) (hc : cells + 1 ≤ R.cells) (hl : slots + n ≤ R.slots) (hq : pc + 3 = q)
    (K : ∀ (T' : State) (h' : Heap) (b : Addr), Stand p l e R s m args below meth c T' locs (cells + 1) (slots + n) → T'.heap = h' → b = h.size → Ext h h' → Exa Z h' b Cn → (∀ {O nm d : String} {ty : FieldType}, Laid Z a0 Cn O nm d → parseFieldDescriptor d = some ty → Fld Z h' b O nm d (defaultValue ty)) → Go p e below F (T'.setTop (mkF m q Ls (.ref b :: S)))) : Go p e below F (T.setTop (mkF m pc Ls S)) := by
  subst hq
  obtain ⟨hx, hZ, hby, hml, hown, hnm, hret, hlk⟩ := C
  obtain ⟨T1, h1, X1, e1, E1, A1, D1, -, st⟩ := Jvm.RoadKit.newO X hx hZ hown w1 w2 w3 eT (g := mkF m pc Ls S) rfl (hb hby hd) hc hl
  exact of st (K T1 h1 _ X1 e1 rfl E1 A1 D1)
theorem getF (X : Stand p l e R s m args below meth c T locs cells slots) (C : Cx p s m meth c Z bytes maxL own mname ret) {i : Nat} {R0 O n d host : String} (w : (Jvm.Cond.fieldLink own i R0 n d).before a0 Z = true ∨ (Jvm.Cond.fieldLinkNest own i R0 n d host).before a0 Z = true) (via : Via Z R0 O n d) (eT : T.heap = h) {a : Addr} {v : Value} (F0 : Fld Z h a O n d v) (hd : decode bytes pc = .ok (.getfield i, 3)) (hq : pc + 3 = q)
    (K : ∀ (T' : State), Stand p l e R s m args below meth c T' locs cells slots → T'.heap = h → Go p e below F (T'.setTop (mkF m q Ls (v :: S)))) : Go p e below F (T.setTop (mkF m pc Ls (.ref a :: S))) := by
  subst hq
  obtain ⟨hx, hZ, hby, hml, hown, hnm, hret, hlk⟩ := C
  obtain ⟨T1, X1, e1, st⟩ := Jvm.RoadKit.getF X hx hZ hown w via eT F0 (g := mkF m pc Ls (.ref a :: S)) rfl rfl (hb hby hd)
  exact of st (K T1 X1 e1)
theorem putF (X : Stand p l e R s m args below meth c T locs cells slots) (C : Cx p s m meth c Z bytes maxL own mname ret) {i kk : Nat} {R0 O n d host Cn : String} {ty : FieldType} (w : (Jvm.Cond.fieldLink own i R0 n d).before a0 Z = true ∨ (Jvm.Cond.fieldLinkNest own i R0 n d host).before a0 Z = true) (via : Via Z R0 O n d) (eT : T.heap = h) {a : Addr} {v old : Value} (F0 : Fld Z h a O n d old) (E : Exa Z h a Cn) (L : (Jvm.Cond.lays Cn O n d).before a0 Z = true ∨ ((Jvm.Cond.laysFinal Cn O n d).before a0 Z = true ∧ own = O ∧ mname = "<init>")) (wi : (Jvm.Cond.instantiable Cn kk).before a0 Z = true) (hty : parseFieldDescriptor d = some ty) (hn : narrow ty v = v) (hf : fits ty v = true) (hd : decode bytes pc = .ok (.putfield i, 3)) (hq : pc + 3 = q)
    (K : ∀ (T' : State) (h' : Heap), Stand p l e R s m args below meth c T' (locs ++ [⟨a, Jvm.RoadKit.slotOf Z O n d⟩]) cells slots → T'.heap = h' → Wr h h' a (Jvm.RoadKit.slotOf Z O n d) v → Go p e below F (T'.setTop (mkF m q Ls S))) : Go p e below F (T.setTop (mkF m pc Ls (v :: .ref a :: S))) := by
  subst hq
  obtain ⟨hx, hZ, hby, hml, hown, hnm, hret, hlk⟩ := C
  obtain ⟨T1, h1, X1, e1, W1, st⟩ := Jvm.RoadKit.putF X hx hZ hown w via eT F0 E (L.imp id fun q => ⟨q.1, q.2.1, hnm.trans q.2.2⟩) wi hty hn hf (g := mkF m pc Ls (v :: .ref a :: S)) rfl rfl (hb hby hd)
  exact of st (K T1 h1 X1 e1 W1)
theorem getS (X : Stand p l e R s m args below meth c T locs cells slots) (C : Cx p s m meth c Z bytes maxL own mname ret) {i : Nat} {R0 O n d : String} (w : (Jvm.Cond.fieldLink own i R0 n d).before a0 Z = true) (via : Via Z R0 O n d) (eT : T.heap = h) {v : Value} (F0 : Sta Z h O n d v) (hd : decode bytes pc = .ok (.getstatic i, 3)) (hq : pc + 3 = q)
    (K : ∀ (T' : State), Stand p l e R s m args below meth c T' locs cells slots → T'.heap = h → Go p e below F (T'.setTop (mkF m q Ls (v :: S)))) : Go p e below F (T.setTop (mkF m pc Ls S)) := by
  subst hq
  obtain ⟨hx, hZ, hby, hml, hown, hnm, hret, hlk⟩ := C
  obtain ⟨T1, X1, e1, st⟩ := Jvm.RoadKit.getS X hx hZ hown (host := "") w via eT F0 (g := mkF m pc Ls S) rfl (hb hby hd)
  exact of st (K T1 X1 e1)
/-! arrays: Arv Z h a k ty n vs d -/
theorem inb {cl : Cell} {n j : Int32} (S : cl.slots.size = n.toNatClampNeg) (h1 : 0 ≤ j.toInt) (h2 : j.toInt < n.toInt) : ¬ (j < 0 ∨ cl.slots.size ≤ j.toNatClampNeg) := inb_of S ⟨by rw [Int32.lt_iff_toInt_lt]; have : (0 : Int32).toInt = 0 := rfl; omega, by rw [Int32.lt_iff_toInt_lt]; exact h2⟩
theorem iaload (X : Stand p l e R s m args below meth c T locs cells slots) (C : Cx p s m meth c Z bytes maxL own mname ret) (eT : T.heap = h) {a : Addr} {k : ClassId} {n j x : Int32} {vs : List Value} {d : Value} (V : Arv Z h a k .int n vs d) (h1 : 0 ≤ j.toInt) (h2 : j.toInt < n.toInt) (hv : vs.getD j.toNatClampNeg d = .int x) (hd : decode bytes pc = .ok (.iaload, 1)) (hq : pc + 1 = q) (K : Go p e below F (T.setTop (mkF m q Ls (.int x :: S)))) : Go p e below F (T.setTop (mkF m pc Ls (.int j :: .ref a :: S))) := by
  subst hq
  obtain ⟨cl, Ar, q1, S1, N1, H1, G1⟩ := V
  exact of (X.iaload C.1 (j := j) (v := .int x) (by rw [eT]; exact Ar.1) (State.isArrayOf_alike C.2.1.alike Ar.2.1) Ar.2.2 (inb S1 h1 h2) (Has.at H1 (inb S1 h1 h2) hv) (g := mkF m pc Ls (.int j :: .ref a :: S)) rfl rfl (hb C.2.2.1 hd)) K
theorem caload (X : Stand p l e R s m args below meth c T locs cells slots) (C : Cx p s m meth c Z bytes maxL own mname ret) (eT : T.heap = h) {a : Addr} {k : ClassId} {n j x : Int32} {vs : List Value} {d : Value} (V : Arv Z h a k .char n vs d) (h1 : 0 ≤ j.toInt) (h2 : j.toInt < n.toInt) (hv : vs.getD j.toNatClampNeg d = .int x) (hd : decode bytes pc = .ok (.caload, 1)) (hq : pc + 1 = q) (K : Go p e below F (T.setTop (mkF m q Ls (.int x :: S)))) : Go p e below F (T.setTop (mkF m pc Ls (.int j :: .ref a :: S))) := by
  subst hq
  obtain ⟨cl, Ar, q1, S1, N1, H1, G1⟩ := V
  exact of (X.caload C.1 (j := j) (v := .int x) (by rw [eT]; exact Ar.1) (State.isArrayOf_alike C.2.1.alike Ar.2.1) Ar.2.2 (inb S1 h1 h2) (Has.at H1 (inb S1 h1 h2) hv) (g := mkF m pc Ls (.int j :: .ref a :: S)) rfl rfl (hb C.2.2.1 hd)) K
theorem baload (X : Stand p l e R s m args below meth c T locs cells slots) (C : Cx p s m meth c Z bytes maxL own mname ret) (eT : T.heap = h) {a : Addr} {k : ClassId} {n j x : Int32} {vs : List Value} {d : Value} (V : Arv Z h a k .byte n vs d) (h1 : 0 ≤ j.toInt) (h2 : j.toInt < n.toInt) (hv : vs.getD j.toNatClampNeg d = .int x) (hd : decode bytes pc = .ok (.baload, 1)) (hq : pc + 1 = q) (K : Go p e below F (T.setTop (mkF m q Ls (.int x :: S)))) : Go p e below F (T.setTop (mkF m pc Ls (.int j :: .ref a :: S))) := by
  subst hq
  obtain ⟨cl, Ar, q1, S1, N1, H1, G1⟩ := V
  exact of (X.baloadBytes C.1 (j := j) (v := .int x) (by rw [eT]; exact Ar.1) (State.isArrayOf_alike C.2.1.alike Ar.2.1) Ar.2.2 (inb S1 h1 h2) (Has.at H1 (inb S1 h1 h2) hv) (g := mkF m pc Ls (.int j :: .ref a :: S)) rfl rfl (hb C.2.2.1 hd)) K
theorem aaload (X : Stand p l e R s m args below meth c T locs cells slots) (C : Cx p s m meth c Z bytes maxL own mname ret) (eT : T.heap = h) {a : Addr} {k : ClassId} {n j : Int32} {x : Value} {vs : List Value} {d : Value} {ty : FieldType} (hty : ty.isReference = true) (V : Arv Z h a k ty n vs d) (h1 : 0 ≤ j.toInt) (h2 : j.toInt < n.toInt) (hv : vs.getD j.toNatClampNeg d = x) (hd : decode bytes pc = .ok (.aaload, 1)) (hq : pc + 1 = q) (K : Go p e below F (T.setTop (mkF m q Ls (x :: S)))) : Go p e below F (T.setTop (mkF m pc Ls (.int j :: .ref a :: S))) := by
  subst hq
  obtain ⟨cl, Ar, q1, S1, N1, H1, G1⟩ := V
  exact of (X.aaload C.1 (j := j) (v := x) (by rw [eT]; exact Ar.1) (State.isArrayOf_alike C.2.1.alike Ar.2.1) hty Ar.2.2 (inb S1 h1 h2) (Has.at H1 (inb S1 h1 h2) hv) (g := mkF m pc Ls (.int j :: .ref a :: S)) rfl rfl (hb C.2.2.1 hd)) K
theorem aaloadC (X : Stand p l e R s m args below meth c T locs cells slots) (C : Cx p s m meth c Z bytes maxL own mname ret) (eT : T.heap = h) {a : Addr} {cl : Cell} {j : Int32} {x : Value} {ty : FieldType} (hty : ty.isReference = true) (Ar : Arr Z h a cl ty) (hin : ¬ (j < 0 ∨ cl.slots.size ≤ j.toNatClampNeg)) (hat : cl.slots[j.toNatClampNeg]? = some x) (hd : decode bytes pc = .ok (.aaload, 1)) (hq : pc + 1 = q) (K : Go p e below F (T.setTop (mkF m q Ls (x :: S)))) : Go p e below F (T.setTop (mkF m pc Ls (.int j :: .ref a :: S))) := by
  subst hq
  exact of (X.aaload C.1 (j := j) (v := x) (by rw [eT]; exact Ar.1) (State.isArrayOf_alike C.2.1.alike Ar.2.1) hty Ar.2.2 hin hat (g := mkF m pc Ls (.int j :: .ref a :: S)) rfl rfl (hb C.2.2.1 hd)) K
theorem arraylength (X : Stand p l e R s m args below meth c T locs cells slots) (C : Cx p s m meth c Z bytes maxL own mname ret) (eT : T.heap = h) {a : Addr} {k : ClassId} {n : Int32} {vs : List Value} {d : Value} {ty : FieldType} (V : Arv Z h a k ty n vs d) (hd : decode bytes pc = .ok (.arraylength, 1)) (hq : pc + 1 = q) (K : Go p e below F (T.setTop (mkF m q Ls (.int n :: S)))) : Go p e below F (T.setTop (mkF m pc Ls (.ref a :: S))) := by
  subst hq
  obtain ⟨cl, Ar, q1, S1, N1, H1, G1⟩ := V
  refine of (X.arraylength C.1 (by rw [eT]; exact Ar.1) (State.isArrayOf_alike C.2.1.alike Ar.2.1) (g := mkF m pc Ls (.ref a :: S)) rfl rfl (hb C.2.2.1 hd)) ?_
  rw [len_of S1 N1]
  exact K
theorem iastore (X : Stand p l e R s m args below meth c T locs cells slots) (C : Cx p s m meth c Z bytes maxL own mname ret) (eT : T.heap = h) {a : Addr} {k : ClassId} {n j x : Int32} {vs : List Value} {d : Value} (V : Arv Z h a k .int n vs d) (h1 : 0 ≤ j.toInt) (h2 : j.toInt < n.toInt) (hlen : j.toNatClampNeg < vs.length) (hd : decode bytes pc = .ok (.iastore, 1)) (hq : pc + 1 = q)
    (K : ∀ (T' : State) (h' : Heap), Stand p l e R s m args below meth c T' (locs ++ [⟨a, j.toNatClampNeg⟩]) cells slots → T'.heap = h' → Wr h h' a j.toNatClampNeg (.int x) → Arv Z h' a k .int n (vs.set j.toNatClampNeg (.int x)) d → Go p e below F (T'.setTop (mkF m q Ls S))) : Go p e below F (T.setTop (mkF m pc Ls (.int x :: .int j :: .ref a :: S))) := by
  subst hq
  obtain ⟨cl, Ar, q1, S1, N1, H1, G1⟩ := V
  obtain ⟨T1, h1', X1, e1, W1, st⟩ := stI X C.1 C.2.1 eT Ar (j := j) (inb S1 h1 h2) (g := mkF m pc Ls (.int x :: .int j :: .ref a :: S)) rfl rfl (hb C.2.2.1 hd)
  exact of st (K T1 h1' X1 e1 W1 (Arv.set Ar q1 S1 N1 H1 G1 rfl W1 _ rfl hlen))
theorem castore (X : Stand p l e R s m args below meth c T locs cells slots) (C : Cx p s m meth c Z bytes maxL own mname ret) (eT : T.heap = h) {a : Addr} {k : ClassId} {n j x : Int32} {vs : List Value} {d : Value} (V : Arv Z h a k .char n vs d) (h1 : 0 ≤ j.toInt) (h2 : j.toInt < n.toInt) (hlen : j.toNatClampNeg < vs.length) (hd : decode bytes pc = .ok (.castore, 1)) (hq : pc + 1 = q)
    (K : ∀ (T' : State) (h' : Heap), Stand p l e R s m args below meth c T' (locs ++ [⟨a, j.toNatClampNeg⟩]) cells slots → T'.heap = h' → Wr h h' a j.toNatClampNeg (.int (nar .char x)) → Arv Z h' a k .char n (vs.set j.toNatClampNeg (.int (nar .char x))) d → Go p e below F (T'.setTop (mkF m q Ls S))) : Go p e below F (T.setTop (mkF m pc Ls (.int x :: .int j :: .ref a :: S))) := by
  subst hq
  obtain ⟨cl, Ar, q1, S1, N1, H1, G1⟩ := V
  obtain ⟨T1, h1', X1, e1, W1, st⟩ := stC X C.1 C.2.1 eT Ar (j := j) (inb S1 h1 h2) (g := mkF m pc Ls (.int x :: .int j :: .ref a :: S)) rfl rfl (hb C.2.2.1 hd)
  exact of st (K T1 h1' X1 e1 W1 (Arv.set Ar q1 S1 N1 H1 G1 (fits_nar_char _) W1 _ rfl hlen))
theorem bastore (X : Stand p l e R s m args below meth c T locs cells slots) (C : Cx p s m meth c Z bytes maxL own mname ret) (eT : T.heap = h) {a : Addr} {k : ClassId} {n j x : Int32} {vs : List Value} {d : Value} (V : Arv Z h a k .byte n vs d) (h1 : 0 ≤ j.toInt) (h2 : j.toInt < n.toInt) (hlen : j.toNatClampNeg < vs.length) (hd : decode bytes pc = .ok (.bastore, 1)) (hq : pc + 1 = q)
    (K : ∀ (T' : State) (h' : Heap), Stand p l e R s m args below meth c T' (locs ++ [⟨a, j.toNatClampNeg⟩]) cells slots → T'.heap = h' → Wr h h' a j.toNatClampNeg (.int x.toInt8.toInt32) → Arv Z h' a k .byte n (vs.set j.toNatClampNeg (.int x.toInt8.toInt32)) d → Go p e below F (T'.setTop (mkF m q Ls S))) : Go p e below F (T.setTop (mkF m pc Ls (.int x :: .int j :: .ref a :: S))) := by
  subst hq
  obtain ⟨cl, Ar, q1, S1, N1, H1, G1⟩ := V
  obtain ⟨T1, h1', X1, e1, W1, st⟩ := stB X C.1 C.2.1 eT Ar (j := j) (inb S1 h1 h2) (g := mkF m pc Ls (.int x :: .int j :: .ref a :: S)) rfl rfl (hb C.2.2.1 hd)
  exact of st (K T1 h1' X1 e1 W1 (Arv.set Ar q1 S1 N1 H1 G1 (fits_nar_byte _) W1 _ rfl hlen))
theorem aastore (X : Stand p l e R s m args below meth c T locs cells slots) (C : Cx p s m meth c Z bytes maxL own mname ret) (eT : T.heap = h) {a : Addr} {k : ClassId} {n j : Int32} {x : Value} {vs : List Value} {d : Value} {ty : FieldType} (hty : ty.isReference = true) (hf : fits ty x = true) (V : Arv Z h a k ty n vs d) (hs : ∀ cl, Arr Z h a cl ty → cl.cls = k → Sto Z h a x) (h1 : 0 ≤ j.toInt) (h2 : j.toInt < n.toInt) (hlen : j.toNatClampNeg < vs.length) (hd : decode bytes pc = .ok (.aastore, 1)) (hq : pc + 1 = q)
    (K : ∀ (T' : State) (h' : Heap), Stand p l e R s m args below meth c T' (locs ++ [⟨a, j.toNatClampNeg⟩]) cells slots → T'.heap = h' → Wr h h' a j.toNatClampNeg x → Arv Z h' a k ty n (vs.set j.toNatClampNeg x) d → Go p e below F (T'.setTop (mkF m q Ls S))) : Go p e below F (T.setTop (mkF m pc Ls (x :: .int j :: .ref a :: S))) := by
  subst hq
  obtain ⟨cl, Ar, q1, S1, N1, H1, G1⟩ := V
  obtain ⟨T1, h1', X1, e1, W1, st⟩ := stR X C.1 C.2.1 eT Ar (j := j) (inb S1 h1 h2) hty (hs cl Ar q1) (g := mkF m pc Ls (x :: .int j :: .ref a :: S)) rfl rfl (hb C.2.2.1 hd)
  exact of st (K T1 h1' X1 e1 W1 (Arv.set Ar q1 S1 N1 H1 G1 hf W1 _ rfl hlen))
theorem newarray (X : Stand p l e R s m args below meth c T locs cells slots) (C : Cx p s m meth c Z bytes maxL own mname ret) {aty : ArrayType} (w : (Jvm.Cond.arrayClass (newarray.typeOf aty)).before a0 Z = true) (eT : T.heap = h) {n : Int32} (hn : 0 ≤ n.toInt) (cap : Nat) (hcap : n.toInt ≤ cap) (hb8 : cap * 8 ≤ 536870912) (hd : decode bytes pc = .ok (.newarray aty, 2)) (hc : cells + 1 ≤ R.cells) (hl : slots + cap ≤ R.slots) (hq : pc + 2 = q)
    (K : ∀ (T' : State) (h' : Heap) (b : Addr) (k : ClassId), Stand p l e R s m args below meth c T' locs (cells + 1) (slots + cap) → T'.heap = h' → b = h.size → Ext h h' → Arv Z h' b k (newarray.typeOf aty) n (List.replicate cap (defaultValue (newarray.typeOf aty))) (defaultValue (newarray.typeOf aty)) → Go p e below F (T'.setTop (mkF m q Ls (.ref b :: S)))) : Go p e below F (T.setTop (mkF m pc Ls (.int n :: S))) := by
  subst hq
  have hn' : ¬ n < 0 := by rw [Int32.lt_iff_toInt_lt]; have : (0 : Int32).toInt = 0 := rfl; omega
  obtain ⟨T1, h1, k1, X1, e1, E1, A1, st⟩ := newP X C.1 C.2.1 w eT (g := mkF m pc Ls (.int n :: S)) rfl (hb C.2.2.1 hd) rfl hn' (cap := cap) (by simp only [Int32.toNatClampNeg]; omega) hb8 hc hl
  exact of st (K T1 h1 _ k1 X1 e1 rfl E1 ((Arv.new A1 hn').pad (pad_rep [] _ cap)))
theorem anewarray (X : Stand p l e R s m args below meth c T locs cells slots) (C : Cx p s m meth c Z bytes maxL own mname ret) {i : Nat} {Cn : String} (w1 : (Jvm.Cond.classLink own i Cn).before a0 Z = true) (w2 : (Jvm.Cond.arrayOver (.object Cn)).before a0 Z = true) (eT : T.heap = h) {n : Int32} (hn : 0 ≤ n.toInt) (cap : Nat) (hcap : n.toInt ≤ cap) (hb8 : cap * 8 ≤ 536870912) (hd : decode bytes pc = .ok (.anewarray i, 3)) (hc : cells + 1 ≤ R.cells) (hl : slots + cap ≤ R.slots) (hq : pc + 3 = q)
    (K : ∀ (T' : State) (h' : Heap) (b : Addr) (k : ClassId), Stand p l e R s m args below meth c T' locs (cells + 1) (slots + cap) → T'.heap = h' → b = h.size → Ext h h' → Ovr Z k Cn → Arv Z h' b k (.object Cn) n (List.replicate cap .null) .null → Go p e below F (T'.setTop (mkF m q Ls (.ref b :: S)))) : Go p e below F (T.setTop (mkF m pc Ls (.int n :: S))) := by
  subst hq
  have hn' : ¬ n < 0 := by rw [Int32.lt_iff_toInt_lt]; have : (0 : Int32).toInt = 0 := rfl; omega
  obtain ⟨T1, h1, k1, X1, e1, E1, A1, O1, st⟩ := newR X C.1 C.2.1 C.2.2.2.2.1 w1 w2 eT (g := mkF m pc Ls (.int n :: S)) rfl (hb C.2.2.1 hd) rfl hn' (cap := cap) (by simp only [Int32.toNatClampNeg]; omega) hb8 hc hl
  exact of st (K T1 h1 _ k1 X1 e1 rfl E1 O1 ((Arv.new A1 hn').pad (pad_rep [] _ cap)))
theorem keepRefl (h : Heap) : Keep h h [] := Keep.refl h []
/-! kinds of objects -/
theorem nsRoot {O Kn : String} {n : Nat} (w : (Jvm.Cond.noSuperclass O).before a0 Z = true) (wi : (Jvm.Cond.instantiable Kn n).before a0 Z = true) (hn : O ≠ Kn) : NS Z O Kn := by
  obtain ⟨c, k, h1, h2, h3, -, -⟩ := Cond.noSuperclass_spec w
  obtain ⟨t, k2, g1, -⟩ := Cond.instantiable_spec wi
  have ne := ids_ne h1 g1 hn
  refine ⟨c, t, h1, g1, fun fuel => ?_⟩
  cases fuel with
  | zero => rfl
  | succ f => simp [Vm.isSubclassAux, ne, h2, h3]
theorem nsNo {Cn S Kn : String} {n : Nat} (w : (Jvm.Cond.superclass Cn S).before a0 Z = true) (wi : (Jvm.Cond.instantiable Kn n).before a0 Z = true) (nn : NS Z Cn Kn) (hn : Cn ≠ Kn) : ∃ c t, Z.vm.findClass Cn = some c ∧ Z.vm.findClass Kn = some t ∧ Z.vm.assignable c t = false := by
  obtain ⟨c, t, h0, g0, n3⟩ := nn
  obtain ⟨p, k, kp, h1, h2, h3, h4, h5, -, h7⟩ := Cond.superclass_spec h0 w
  obtain ⟨t', k', g1, g2, g5, g6, -⟩ := Cond.instantiable_spec wi
  cases g0.symm.trans g1
  have g7 : k'.isInterface = false := (Bool.or_eq_false_iff.mp g6).1
  have ne := ids_ne h0 g0 hn
  refine ⟨c, t, h0, g0, ?_⟩
  show Z.vm.assignableAux (255 + 1) c t = false
  simp [Vm.assignableAux, ne, h2, g2, h5, g5, g7, Vm.isSubclass, n3]
theorem cast (X : Stand p l e R s m args below meth c T locs cells slots) (C : Cx p s m meth c Z bytes maxL own mname ret) {i : Nat} {Kn : String} (w : (Jvm.Cond.classLink own i Kn).before a0 Z = true) (eT : T.heap = h) {a : Addr} (I : Ins Z h a Kn true) (hd : decode bytes pc = .ok (.checkcast i, 3)) (hq : pc + 3 = q)
    (K : ∀ (T' : State), Stand p l e R s m args below meth c T' locs cells slots → T'.heap = h → Go p e below F (T'.setTop (mkF m q Ls (.ref a :: S)))) : Go p e below F (T.setTop (mkF m pc Ls (.ref a :: S))) := by
  subst hq
  obtain ⟨T1, X1, e1, st⟩ := castY X C.1 C.2.1 C.2.2.2.2.1 w eT I (g := mkF m pc Ls (.ref a :: S)) rfl rfl (hb C.2.2.1 hd)
  exact of st (K T1 X1 e1)
theorem inst1 (X : Stand p l e R s m args below meth c T locs cells slots) (C : Cx p s m meth c Z bytes maxL own mname ret) {i : Nat} {Kn : String} (w : (Jvm.Cond.classLink own i Kn).before a0 Z = true) (eT : T.heap = h) {a : Addr} (I : Ins Z h a Kn true) (hd : decode bytes pc = .ok (.instanceof i, 3)) (hq : pc + 3 = q)
    (K : ∀ (T' : State), Stand p l e R s m args below meth c T' locs cells slots → T'.heap = h → Go p e below F (T'.setTop (mkF m q Ls (.int 1 :: S)))) : Go p e below F (T.setTop (mkF m pc Ls (.ref a :: S))) := by
  subst hq
  obtain ⟨T1, X1, e1, st⟩ := instY X C.1 C.2.1 C.2.2.2.2.1 w eT I (g := mkF m pc Ls (.ref a :: S)) rfl rfl (hb C.2.2.1 hd)
  exact of st (K T1 X1 e1)
theorem inst0 (X : Stand p l e R s m args below meth c T locs cells slots) (C : Cx p s m meth c Z bytes maxL own mname ret) {i : Nat} {Kn Cn : String} (w : (Jvm.Cond.classLink own i Kn).before a0 Z = true) (eT : T.heap = h) {a : Addr} (E : Exa Z h a Cn) (N : ∃ c t, Z.vm.findClass Cn = some c ∧ Z.vm.findClass Kn = some t ∧ Z.vm.assignable c t = false) (hd : decode bytes pc = .ok (.instanceof i, 3)) (hq : pc + 3 = q)
    (K : ∀ (T' : State), Stand p l e R s m args below meth c T' locs cells slots → T'.heap = h → Go p e below F (T'.setTop (mkF m q Ls (.int 0 :: S)))) : Go p e below F (T.setTop (mkF m pc Ls (.ref a :: S))) := by
  subst hq
  obtain ⟨T1, X1, e1, st⟩ := instNo X C.1 C.2.1 C.2.2.2.2.1 w eT E N (g := mkF m pc Ls (.ref a :: S)) rfl rfl (hb C.2.2.1 hd)
  exact of st (K T1 X1 e1)
theorem instNull (X : Stand p l e R s m args below meth c T locs cells slots) (C : Cx p s m meth c Z bytes maxL own mname ret) {i : Nat} (hd : decode bytes pc = .ok (.instanceof i, 3)) (hq : pc + 3 = q) (K : Go p e below F (T.setTop (mkF m q Ls (.int 0 :: S)))) : Go p e below F (T.setTop (mkF m pc Ls (.null :: S))) := by
  subst hq; exact of (X.instanceofNull C.1 (g := mkF m pc Ls (.null :: S)) rfl rfl (hb C.2.2.1 hd)) K
theorem castNull (X : Stand p l e R s m args below meth c T locs cells slots) (C : Cx p s m meth c Z bytes maxL own mname ret) {i : Nat} (hd : decode bytes pc = .ok (.checkcast i, 3)) (hq : pc + 3 = q) (K : Go p e below F (T.setTop (mkF m q Ls (.null :: S)))) : Go p e below F (T.setTop (mkF m pc Ls (.null :: S))) := by
  subst hq; exact of (X.checkcastNull C.1 (g := mkF m pc Ls (.null :: S)) rfl rfl (hb C.2.2.1 hd)) K
theorem acmp (X : Stand p l e R s m args below meth c T locs cells slots) (C : Cx p s m meth c Z bytes maxL own mname ret) {cd : ACond} {o : Int} {x y : Value} (h1 : x.isRef = true) (h2 : y.isRef = true) {same : Bool} (hs : decide (x = y) = same) (hd : decode bytes pc = .ok (.if_acmp cd o, 3)) (ho : 0 ≤ (pc : Int) + o) (hq : q = if acV cd same = true then ((pc : Int) + o).toNat else pc + 3) (K : Go p e below F (T.setTop (mkF m q Ls S))) : Go p e below F (T.setTop (mkF m pc Ls (y :: x :: S))) :=
  of (fun t k => Jvm.RoadKit.acmp (g := mkF m pc Ls (y :: x :: S)) X C.1 rfl h1 h2 rfl (hb C.2.2.1 hd) rfl hs ho hq k) K
end
end W
end Jvm.Pilot.@@N@@
namespace Jvm.Pilot.@@N@@
open Jvm Jvm.ClassFile Sem Op Lib Jvm.Free Jvm.Stand Jvm.LawKit Jvm.RoadKit Bundle Jvm.Pilot.@@N@@.Jvm.D

def own_g {α : Type} (z : α) (l : List α) (j : Int32) : α := l.getD j.toNatClampNeg z
def own_s {α : Type} (l : List α) (j : Int32) (x : α) : List α := l.set j.toNatClampNeg x
def own_hx (x : Int32) : Int32 := (x * (-1640531527 : Int32)) ^^^ (((x * (-1640531527 : Int32)).toUInt32 >>> ((16 : Int32) &&& 31).toUInt32).toInt32)
def own_hm (w : Int32) : Int32 := own_hx (w - 1)
section
variable {α : Type} [DecidableEq α] (z : α) (hm : α → Int32)
def own_find (mk : Int32) (l : List α) (x : α) : Nat → Int32 → Option Int32
  | 0, _ => none
  | n + 1, i => if own_g z l i = z then some i else if own_g z l i = x then some i else own_find mk l x n ((i + 1) &&& mk)
theorem own_find0 (mk : Int32) (l : List α) (x : α) (i : Int32) : own_find z mk l x 0 i = none := rfl
theorem own_findS (mk : Int32) (l : List α) (x : α) (n : Nat) (i : Int32) : own_find z mk l x (n + 1) i = if own_g z l i = z then some i else if own_g z l i = x then some i else own_find z mk l x n ((i + 1) &&& mk) := rfl
def own_fd (n : Int32) (l : List α) (x : α) : Option Int32 := if n = 4 ∨ n = 8 then own_find z (n - 1) l x 9 (hm x &&& (n - 1)) else none
def own_grow (old : List α) : Nat → Int32 → List α → Option (List α)
  | 0, _, _ => none
  | n + 1, i, nw => if (4 : Int32).toInt ≤ i.toInt then some nw else if own_g z old i = z then own_grow old n (i + 1) nw else (own_fd z hm 8 nw (own_g z old i)).bind fun j => own_grow old n (i + 1) (own_s nw j (own_g z old i))
theorem own_grow0 (old : List α) (i : Int32) (nw : List α) : own_grow z hm old 0 i nw = none := rfl
theorem own_growS (old : List α) (n : Nat) (i : Int32) (nw : List α) : own_grow z hm old (n + 1) i nw = if (4 : Int32).toInt ≤ i.toInt then some nw else if own_g z old i = z then own_grow z hm old n (i + 1) nw else (own_fd z hm 8 nw (own_g z old i)).bind fun j => own_grow z hm old n (i + 1) (own_s nw j (own_g z old i)) := rfl
def own_ins (n : Int32) (l : List α) (sz : Int32) (x : α) : Option (Int32 × List α × Int32) := (own_fd z hm n l x).bind fun j => if own_g z l j = z then some (n, own_s l j x, sz + 1) else some (n, l, sz)
def own_add (n : Int32) (l : List α) (sz : Int32) (x : α) : Option (Int32 × List α × Int32) := if ((2 : Int32) * (sz + 1)).toInt ≤ n.toInt then own_ins z hm n l sz x else if n = 4 then (own_grow z hm l 5 0 [z, z, z, z, z, z, z, z]).bind fun l' => own_ins z hm 8 l' sz x else none
def own_rl (mk : Int32) : Nat → Int32 → Int32 → List α → Option (List α)
  | 0, _, _, _ => none
  | n + 1, gap, i, l => if own_g z l i = z then some l else if ((i - (hm (own_g z l i) &&& mk)) &&& mk).toInt < ((i - gap) &&& mk).toInt then own_rl mk n gap ((i + 1) &&& mk) l else own_rl mk n i ((i + 1) &&& mk) (own_s (own_s l gap (own_g z l i)) i z)
theorem own_rl0 (mk gap i : Int32) (l : List α) : own_rl z hm mk 0 gap i l = none := rfl
theorem own_rlS (mk : Int32) (n : Nat) (gap i : Int32) (l : List α) : own_rl z hm mk (n + 1) gap i l = if own_g z l i = z then some l else if ((i - (hm (own_g z l i) &&& mk)) &&& mk).toInt < ((i - gap) &&& mk).toInt then own_rl z hm mk n gap ((i + 1) &&& mk) l else own_rl z hm mk n i ((i + 1) &&& mk) (own_s (own_s l gap (own_g z l i)) i z) := rfl
def own_rem (n : Int32) (l : List α) (sz : Int32) (x : α) : Option (Int32 × List α × Int32) := (own_fd z hm n l x).bind fun j => if own_g z l j = z then some (n, l, sz) else (own_rl z hm (n - 1) 9 j ((j + 1) &&& (n - 1)) (own_s l j z)).bind fun l' => some (n, l', sz - 1)
def own_run (a b c : α) (r : Option α) : Option (Int32 × List α × Int32) := (own_add z hm 4 [z, z, z, z] 0 a).bind fun q => (own_add z hm q.1 q.2.1 q.2.2 b).bind fun q => (own_add z hm q.1 q.2.1 q.2.2 c).bind fun q => match r with | none => some q | some r => own_rem z hm q.1 q.2.1 q.2.2 r
def own_ta {β : Type} (d : α → β) (n : Int32) (l : List α) (sz : Int32) : Nat → Int32 → Int32 → List β → Option (List β)
  | 0, _, _, _ => none
  | k + 1, i, ps, out => if n.toInt ≤ i.toInt then some out else if own_g z l i = z then own_ta d n l sz k (i + 1) ps out else if 0 ≤ ps.toInt ∧ ps.toInt < sz.toInt then own_ta d n l sz k (i + 1) (ps + 1) (own_s out ps (d (own_g z l i))) else none
theorem own_ta0 {β : Type} (d : α → β) (n : Int32) (l : List α) (sz i ps : Int32) (out : List β) : own_ta z d n l sz 0 i ps out = none := rfl
theorem own_taS {β : Type} (d : α → β) (n : Int32) (l : List α) (sz : Int32) (k : Nat) (i ps : Int32) (out : List β) : own_ta z d n l sz (k + 1) i ps out = if n.toInt ≤ i.toInt then some out else if own_g z l i = z then own_ta z d n l sz k (i + 1) ps out else if 0 ≤ ps.toInt ∧ ps.toInt < sz.toInt then own_ta z d n l sz k (i + 1) (ps + 1) (own_s out ps (d (own_g z l i))) else none := rfl
def own_pres (x a b c : α) (r : Option α) : Bool := (decide (x = a) || decide (x = b) || decide (x = c)) && !(decide (some x = r))
def own_cnt (a b c : α) (r : Option α) : Int32 := (if own_pres a a b c r = true then 1 else 0) + (if b ≠ a ∧ own_pres b a b c r = true then 1 else 0) + (if c ≠ a ∧ c ≠ b ∧ own_pres c a b c r = true then 1 else 0)
/-- what the law's end asks of the array -/
def own_end (out : Int32 → α) (sz : Int32) (a b c : α) (r : Option α) : Prop := sz = own_cnt a b c r ∧ (1 ≤ sz.toInt → own_pres (out 0) a b c r = true) ∧ (2 ≤ sz.toInt → own_pres (out 1) a b c r = true ∧ out 1 ≠ out 0) ∧ (3 ≤ sz.toInt → own_pres (out 2) a b c r = true ∧ out 2 ≠ out 0 ∧ out 2 ≠ out 1)
instance (out : Int32 → α) (sz : Int32) (a b c : α) (r : Option α) : Decidable (own_end out sz a b c r) := inferInstanceAs (Decidable (_ ∧ _))
end
theorem own_g_map {α β : Type} {z : α} {z' : β} {f : α → β} (hz : f z = z') (l : List α) (i : Int32) : own_g z' (l.map f) i = f (own_g z l i) := by
  subst hz; simp only [own_g, List.getD_eq_getElem?_getD, List.getElem?_map]; cases l[i.toNatClampNeg]? <;> rfl
theorem own_s_map {α β : Type} {f : α → β} (l : List α) (i : Int32) (x : α) : own_s (l.map f) i (f x) = (own_s l i x).map f := by simp only [own_s, List.map_set]
section
variable {α β : Type} [DecidableEq α] [DecidableEq β] {z : α} {z' : β} {f : α → β} {hm : α → Int32} {hm' : β → Int32}
theorem own_find_map (hf : ∀ x y, f x = f y → x = y) (hz : f z = z') (mk : Int32) (l : List α) (x : α) : ∀ (n : Nat) (i : Int32), own_find z' mk (l.map f) (f x) n i = own_find z mk l x n i
  | 0, _ => rfl
  | n + 1, i => by
    have e1 : (f (own_g z l i) = z') = (own_g z l i = z) := propext ⟨fun q => hf _ _ (q.trans hz.symm), fun q => by rw [q, hz]⟩
    have e2 : (f (own_g z l i) = f x) = (own_g z l i = x) := propext ⟨hf _ _, fun q => by rw [q]⟩
    simp only [own_findS, own_g_map hz, own_find_map hf hz mk l x n, e1, e2]
theorem own_fd_map (hf : ∀ x y, f x = f y → x = y) (hz : f z = z') (hh : ∀ n : Int32, n = 4 ∨ n = 8 → ∀ x, hm' (f x) &&& (n - 1) = hm x &&& (n - 1)) (n : Int32) (l : List α) (x : α) : own_fd z' hm' n (l.map f) (f x) = own_fd z hm n l x := by
  by_cases h : n = 4 ∨ n = 8
  · simp only [own_fd, if_pos h, hh n h, own_find_map hf hz]
  · simp only [own_fd, if_neg h]
theorem own_grow_map (hf : ∀ x y, f x = f y → x = y) (hz : f z = z') (hh : ∀ n : Int32, n = 4 ∨ n = 8 → ∀ x, hm' (f x) &&& (n - 1) = hm x &&& (n - 1)) (old : List α) : ∀ (n : Nat) (i : Int32) (nw : List α), own_grow z' hm' (old.map f) n i (nw.map f) = (own_grow z hm old n i nw).map (List.map f)
  | 0, _, _ => rfl
  | n + 1, i, nw => by
    have e1 : (f (own_g z old i) = z') = (own_g z old i = z) := propext ⟨fun q => hf _ _ (q.trans hz.symm), fun q => by rw [q, hz]⟩
    simp only [own_growS, own_g_map hz, e1, own_fd_map hf hz hh, own_s_map, own_grow_map hf hz hh old n]
    by_cases h1 : (4 : Int32).toInt ≤ i.toInt
    · simp only [if_pos h1]; rfl
    · by_cases h2 : own_g z old i = z
      · simp only [if_neg h1, if_pos h2]
      · simp only [if_neg h1, if_neg h2]
        cases own_fd z hm 8 nw (own_g z old i) <;> rfl
theorem own_ins_map (hf : ∀ x y, f x = f y → x = y) (hz : f z = z') (hh : ∀ n : Int32, n = 4 ∨ n = 8 → ∀ x, hm' (f x) &&& (n - 1) = hm x &&& (n - 1)) (n : Int32) (l : List α) (sz : Int32) (x : α) : own_ins z' hm' n (l.map f) sz (f x) = (own_ins z hm n l sz x).map (fun q => (q.1, q.2.1.map f, q.2.2)) := by
  simp only [own_ins, own_fd_map hf hz hh]
  cases own_fd z hm n l x with
  | none => rfl
  | some j =>
    have e1 : (f (own_g z l j) = z') = (own_g z l j = z) := propext ⟨fun q => hf _ _ (q.trans hz.symm), fun q => by rw [q, hz]⟩
    simp only [Option.bind_some, own_g_map hz, e1, own_s_map]
    by_cases h : own_g z l j = z
    · simp only [if_pos h]; rfl
    · simp only [if_neg h]; rfl
theorem own_add_map (hf : ∀ x y, f x = f y → x = y) (hz : f z = z') (hh : ∀ n : Int32, n = 4 ∨ n = 8 → ∀ x, hm' (f x) &&& (n - 1) = hm x &&& (n - 1)) (n : Int32) (l : List α) (sz : Int32) (x : α) : own_add z' hm' n (l.map f) sz (f x) = (own_add z hm n l sz x).map (fun q => (q.1, q.2.1.map f, q.2.2)) := by
  have e0 : [z', z', z', z', z', z', z', z'] = [z, z, z, z, z, z, z, z].map f := by simp only [List.map, hz]
  simp only [own_add, own_ins_map hf hz hh, e0, own_grow_map hf hz hh]
  by_cases h1 : ((2 : Int32) * (sz + 1)).toInt ≤ n.toInt
  · simp only [if_pos h1]
  · by_cases h2 : n = 4
    · simp only [if_neg h1, if_pos h2]
      cases own_grow z hm l 5 0 [z, z, z, z, z, z, z, z] with
      | none => rfl
      | some l' => simp only [Option.map_some, Option.bind_some, own_ins_map hf hz hh]
    · simp only [if_neg h1, if_neg h2]; rfl
theorem own_rl_map (hf : ∀ x y, f x = f y → x = y) (hz : f z = z') (hh : ∀ n : Int32, n = 4 ∨ n = 8 → ∀ x, hm' (f x) &&& (n - 1) = hm x &&& (n - 1)) (n0 : Int32) (hn : n0 = 4 ∨ n0 = 8) : ∀ (n : Nat) (gap i : Int32) (l : List α), own_rl z' hm' (n0 - 1) n gap i (l.map f) = (own_rl z hm (n0 - 1) n gap i l).map (List.map f)
  | 0, _, _, _ => rfl
  | n + 1, gap, i, l => by
    have e1 : (f (own_g z l i) = z') = (own_g z l i = z) := propext ⟨fun q => hf _ _ (q.trans hz.symm), fun q => by rw [q, hz]⟩
    have e2 : own_s (own_s (l.map f) gap (f (own_g z l i))) i z' = (own_s (own_s l gap (own_g z l i)) i z).map f := by rw [own_s_map, ← hz, own_s_map]
    simp only [own_rlS, own_g_map hz, e1, e2, hh n0 hn, own_rl_map hf hz hh n0 hn n]
    by_cases h1 : own_g z l i = z
    · simp only [if_pos h1]; rfl
    · simp only [if_neg h1]
      split <;> rfl
theorem own_rem_map (hf : ∀ x y, f x = f y → x = y) (hz : f z = z') (hh : ∀ n : Int32, n = 4 ∨ n = 8 → ∀ x, hm' (f x) &&& (n - 1) = hm x &&& (n - 1)) (n : Int32) (l : List α) (sz : Int32) (x : α) : own_rem z' hm' n (l.map f) sz (f x) = (own_rem z hm n l sz x).map (fun q => (q.1, q.2.1.map f, q.2.2)) := by
  simp only [own_rem, own_fd_map hf hz hh]
  by_cases hn : n = 4 ∨ n = 8
  · cases own_fd z hm n l x with
    | none => rfl
    | some j =>
      have e1 : (f (own_g z l j) = z') = (own_g z l j = z) := propext ⟨fun q => hf _ _ (q.trans hz.symm), fun q => by rw [q, hz]⟩
      have e2 : own_s (l.map f) j z' = (own_s l j z).map f := by rw [← hz, own_s_map]
      simp only [Option.bind_some, own_g_map hz, e1, e2, own_rl_map hf hz hh n hn]
      by_cases h : own_g z l j = z
      · simp only [if_pos h]; rfl
      · simp only [if_neg h]
        cases own_rl z hm (n - 1) 9 j ((j + 1) &&& (n - 1)) (own_s l j z) <;> rfl
  · simp only [own_fd, if_neg hn]; rfl
theorem own_run_map (hf : ∀ x y, f x = f y → x = y) (hz : f z = z') (hh : ∀ n : Int32, n = 4 ∨ n = 8 → ∀ x, hm' (f x) &&& (n - 1) = hm x &&& (n - 1)) (a b c : α) (r : Option α) : own_run z' hm' (f a) (f b) (f c) (r.map f) = (own_run z hm a b c r).map (fun q => (q.1, q.2.1.map f, q.2.2)) := by
  have e0 : [z', z', z', z'] = [z, z, z, z].map f := by simp only [List.map, hz]
  simp only [own_run, e0, own_add_map hf hz hh]
  cases own_add z hm 4 [z, z, z, z] 0 a with
  | none => rfl
  | some q1 =>
    simp only [Option.map_some, Option.bind_some, own_add_map hf hz hh]
    cases own_add z hm q1.1 q1.2.1 q1.2.2 b with
    | none => rfl
    | some q2 =>
      simp only [Option.map_some, Option.bind_some, own_add_map hf hz hh]
      cases own_add z hm q2.1 q2.2.1 q2.2.2 c with
      | none => rfl
      | some q3 =>
        cases r with
        | none => rfl
        | some r => simp only [Option.map_some, Option.bind_some, own_rem_map hf hz hh]
theorem own_ta_map {γ δ : Type} (hf : ∀ x y, f x = f y → x = y) (hz : f z = z') (d : α → γ) (d' : β → δ) (g : γ → δ) (hg : ∀ x, d' (f x) = g (d x)) (n : Int32) (l : List α) (sz : Int32) : ∀ (k : Nat) (i ps : Int32) (out : List γ), own_ta z' d' n (l.map f) sz k i ps (out.map g) = (own_ta z d n l sz k i ps out).map (List.map g)
  | 0, _, _, _ => rfl
  | k + 1, i, ps, out => by
    have e1 : (f (own_g z l i) = z') = (own_g z l i = z) := propext ⟨fun q => hf _ _ (q.trans hz.symm), fun q => by rw [q, hz]⟩
    simp only [own_taS, own_g_map hz, e1, hg, own_s_map, own_ta_map hf hz d d' g hg n l sz k]
    by_cases h1 : n.toInt ≤ i.toInt
    · simp only [if_pos h1]; rfl
    · by_cases h2 : own_g z l i = z
      · simp only [if_neg h1, if_pos h2]
      · simp only [if_neg h1, if_neg h2]
        split <;> rfl
end
theorem own_pres_map {α β : Type} [DecidableEq α] [DecidableEq β] {f : α → β} (hf : ∀ x y, f x = f y → x = y) (x a b c : α) (r : Option α) : own_pres (f x) (f a) (f b) (f c) (r.map f) = own_pres x a b c r := by
  have e : ∀ u v, (f u = f v) = (u = v) := fun u v => propext ⟨hf u v, fun q => by rw [q]⟩
  cases r with
  | none => simp [own_pres, e]
  | some r => simp [own_pres, e]
theorem own_cnt_map {α β : Type} [DecidableEq α] [DecidableEq β] {f : α → β} (hf : ∀ x y, f x = f y → x = y) (a b c : α) (r : Option α) : own_cnt (f a) (f b) (f c) (r.map f) = own_cnt a b c r := by
  have e : ∀ u v, (f u = f v) = (u = v) := fun u v => propext ⟨hf u v, fun q => by rw [q]⟩
  simp only [own_cnt, own_pres_map hf, ne_eq, e]
/-- the check over tags -/
def own_out {m : Nat} (out : List (Option (Fin (m + 1)))) (j : Int32) : Fin (m + 1) := ((out.getD j.toNatClampNeg none).getD 0)
def own_some {m : Nat} (out : List (Option (Fin (m + 1)))) (sz : Int32) : Bool := decide (1 ≤ sz.toInt → (out.getD 0 none).isSome = true) && decide (2 ≤ sz.toInt → (out.getD 1 none).isSome = true) && decide (3 ≤ sz.toInt → (out.getD 2 none).isSome = true)
def own_chk {m : Nat} (hv : Fin (m + 1) → Int32) (a b c : Fin (m + 1)) (r : Option (Fin (m + 1))) : Bool :=
  match own_run 0 hv a b c r with
  | none => false
  | some (n, l, sz) => decide (0 ≤ sz.toInt ∧ sz.toInt ≤ 3) && match own_ta 0 some n l sz 9 0 0 [none, none, none] with
    | none => false
    | some out => decide (out.length = 3) && own_some out sz && decide (own_end (own_out out) sz a b c r)
/-- what the walk needs -/
def own_good (a b c : Int32) (r : Option Int32) : Prop := ∃ (n : Int32) (l : List Int32) (sz : Int32) (out : List Int32), own_run 0 own_hm (a + 1) (b + 1) (c + 1) (r.map (· + 1)) = some (n, l, sz) ∧ 0 ≤ sz.toInt ∧ sz.toInt ≤ 3 ∧ own_ta 0 (· - 1) n l sz 9 0 0 [0, 0, 0] = some out ∧ out.length = 3 ∧ own_end (fun j => own_g 0 out j) sz a b c r
theorem own_p1 {x y : Int32} (h : x + 1 = y + 1) : x = y := by
  have := congrArg (· - 1) h; simpa only [Int32.add_sub_cancel] using this
theorem own_sim {m : Nat} (f : Fin (m + 1) → Int32) (hv : Fin (m + 1) → Int32) (hf : ∀ x y, f x = f y → x = y) (hz : f 0 = 0) (hh : ∀ x, own_hm (f x) &&& 7 = hv x) (ta tb tc : Fin (m + 1)) (tr : Option (Fin (m + 1))) (hc : own_chk hv ta tb tc tr = true) : own_good (f ta - 1) (f tb - 1) (f tc - 1) (tr.map fun t => f t - 1) := by
  have hh' : ∀ n : Int32, n = 4 ∨ n = 8 → ∀ x, own_hm (f x) &&& (n - 1) = hv x &&& (n - 1) := by
    intro n hn x
    rw [← hh x, Int32.and_assoc]
    rcases hn with rfl | rfl
    · rw [show (7 : Int32) &&& (4 - 1) = 4 - 1 by decide]
    · rw [show (7 : Int32) &&& (8 - 1) = 8 - 1 by decide]
  have hd : ∀ x y, f x - 1 = f y - 1 → x = y := fun x y q => hf x y (by have := congrArg (· + 1) q; simpa only [Int32.sub_add_cancel] using this)
  have hrun := own_run_map hf hz hh' ta tb tc tr
  rw [own_chk] at hc
  cases h1 : own_run 0 hv ta tb tc tr with
  | none => rw [h1] at hc; cases hc
  | some q =>
    obtain ⟨n, l, sz⟩ := q
    rw [h1] at hc hrun
    simp only [Bool.and_eq_true, decide_eq_true_eq] at hc
    obtain ⟨⟨s0, s3⟩, hc⟩ := hc
    cases h2 : own_ta 0 some n l sz 9 0 0 [none, none, none] with
    | none => rw [h2] at hc; cases hc
    | some out =>
      rw [h2] at hc
      simp only [Bool.and_eq_true, decide_eq_true_eq] at hc
      obtain ⟨⟨ho, hs⟩, e1, e2, e3, e4⟩ := hc
      have hta := own_ta_map (f := f) (z := (0 : Fin (m + 1))) (z' := (0 : Int32)) hf hz some (· - 1) (fun o : Option (Fin (m + 1)) => match o with | none => (0 : Int32) | some t => f t - 1) (fun x => rfl) n l sz 9 0 0 [none, none, none]
      rw [h2] at hta
      have em : (tr.map fun t => f t - 1).map (· + 1) = tr.map f := by cases tr with
        | none => rfl
        | some t => simp only [Option.map_some, Int32.sub_add_cancel]
      simp only [own_some, Bool.and_eq_true, decide_eq_true_eq] at hs
      obtain ⟨⟨k1, k2⟩, k3⟩ := hs
      refine ⟨n, l.map f, sz, _, by rw [Int32.sub_add_cancel, Int32.sub_add_cancel, Int32.sub_add_cancel, em]; exact hrun, s0, s3, hta, by rw [List.length_map]; exact ho, ?_⟩
      have eo : ∀ j : Int32, (out.getD j.toNatClampNeg none).isSome = true → own_g 0 (out.map fun o : Option (Fin (m + 1)) => match o with | none => (0 : Int32) | some t => f t - 1) j = f (own_out out j) - 1 := by
        intro j hj
        simp only [own_g, own_out, List.getD_eq_getElem?_getD, List.getElem?_map] at hj ⊢
        cases hq : out[j.toNatClampNeg]? with
        | none => rw [hq] at hj; cases hj
        | some o =>
          rw [hq] at hj
          cases o with
          | none => cases hj
          | some t => rfl
      have pm := fun x => own_pres_map (f := fun t => f t - 1) hd x ta tb tc tr
      have cm := own_cnt_map (f := fun t => f t - 1) hd ta tb tc tr
      refine ⟨e1.trans cm.symm, fun q => ?_, fun q => ?_, fun q => ?_⟩
      · show own_pres (own_g 0 _ 0) _ _ _ _ = true
        rw [eo 0 (k1 q)]; exact (pm _).trans (e2 q)
      · show own_pres (own_g 0 _ 1) _ _ _ _ = true ∧ own_g 0 _ 1 ≠ own_g 0 _ 0
        rw [eo 1 (k2 q), eo 0 (k1 (by omega))]; exact ⟨(pm _).trans (e3 q).1, fun w => (e3 q).2 (hd _ _ w)⟩
      · show own_pres (own_g 0 _ 2) _ _ _ _ = true ∧ own_g 0 _ 2 ≠ own_g 0 _ 0 ∧ own_g 0 _ 2 ≠ own_g 0 _ 1
        rw [eo 2 (k3 q), eo 1 (k2 (by omega)), eo 0 (k1 (by omega))]; exact ⟨(pm _).trans (e4 q).1, fun w => (e4 q).2.1 (hd _ _ w), fun w => (e4 q).2.2 (hd _ _ w)⟩
theorem own_h8 (w : Int32) : ∃ h : Fin 8, own_hm w &&& 7 = Int32.ofInt (h.1 : Int) := by
  have a1 := c_mask (own_hm w) 7 3 (by decide) (by decide)
  exact W.small (P := fun v => ∃ h : Fin 8, v = Int32.ofInt (h.1 : Int)) 7 (fun a => ⟨a, rfl⟩) (own_hm w &&& 7) (by omega) (by omega)
def own_f1 (A : Int32) : Fin 2 → Int32
  | 0 => 0
  | 1 => A
def own_hv1 (h1 : Fin 8) : Fin 2 → Int32
  | 0 => 7
  | 1 => Int32.ofInt (h1.1 : Int)
theorem own_inj1 {A : Int32} (n0A : A ≠ 0) : ∀ x y, own_f1 A x = own_f1 A y → x = y
  | 0, 0, q => rfl
  | 0, 1, q => absurd q (Ne.symm n0A)
  | 1, 0, q => absurd q n0A
  | 1, 1, q => rfl
theorem own_hh1 (A : Int32) : ∃ h1 : Fin 8, ∀ x, own_hm (own_f1 A x) &&& 7 = own_hv1 h1 x := by
  obtain ⟨h1, q1⟩ := own_h8 A
  refine ⟨h1, fun x => ?_⟩
  match x with
  | 0 => exact (by decide : own_hm 0 &&& 7 = 7)
  | 1 => exact q1
def own_f2 (A B : Int32) : Fin 3 → Int32
  | 0 => 0
  | 1 => A
  | 2 => B
def own_hv2 (h1 h2 : Fin 8) : Fin 3 → Int32
  | 0 => 7
  | 1 => Int32.ofInt (h1.1 : Int)
  | 2 => Int32.ofInt (h2.1 : Int)
theorem own_inj2 {A B : Int32} (n0A : A ≠ 0) (n0B : B ≠ 0) (nAB : A ≠ B) : ∀ x y, own_f2 A B x = own_f2 A B y → x = y
  | 0, 0, q => rfl
  | 0, 1, q => absurd q (Ne.symm n0A)
  | 0, 2, q => absurd q (Ne.symm n0B)
  | 1, 0, q => absurd q n0A
  | 1, 1, q => rfl
  | 1, 2, q => absurd q nAB
  | 2, 0, q => absurd q n0B
  | 2, 1, q => absurd q (Ne.symm nAB)
  | 2, 2, q => rfl
theorem own_hh2 (A B : Int32) : ∃ h1 h2 : Fin 8, ∀ x, own_hm (own_f2 A B x) &&& 7 = own_hv2 h1 h2 x := by
  obtain ⟨h1, q1⟩ := own_h8 A
  obtain ⟨h2, q2⟩ := own_h8 B
  refine ⟨h1, h2, fun x => ?_⟩
  match x with
  | 0 => exact (by decide : own_hm 0 &&& 7 = 7)
  | 1 => exact q1
  | 2 => exact q2
def own_f3 (A B D : Int32) : Fin 4 → Int32
  | 0 => 0
  | 1 => A
  | 2 => B
  | 3 => D
def own_hv3 (h1 h2 h3 : Fin 8) : Fin 4 → Int32
  | 0 => 7
  | 1 => Int32.ofInt (h1.1 : Int)
  | 2 => Int32.ofInt (h2.1 : Int)
  | 3 => Int32.ofInt (h3.1 : Int)
theorem own_inj3 {A B D : Int32} (n0A : A ≠ 0) (n0B : B ≠ 0) (n0D : D ≠ 0) (nAB : A ≠ B) (nAD : A ≠ D) (nBD : B ≠ D) : ∀ x y, own_f3 A B D x = own_f3 A B D y → x = y
  | 0, 0, q => rfl
  | 0, 1, q => absurd q (Ne.symm n0A)
  | 0, 2, q => absurd q (Ne.symm n0B)
  | 0, 3, q => absurd q (Ne.symm n0D)
  | 1, 0, q => absurd q n0A
  | 1, 1, q => rfl
  | 1, 2, q => absurd q nAB
  | 1, 3, q => absurd q nAD
  | 2, 0, q => absurd q n0B
  | 2, 1, q => absurd q (Ne.symm nAB)
  | 2, 2, q => rfl
  | 2, 3, q => absurd q nBD
  | 3, 0, q => absurd q n0D
  | 3, 1, q => absurd q (Ne.symm nAD)
  | 3, 2, q => absurd q (Ne.symm nBD)
  | 3, 3, q => rfl
theorem own_hh3 (A B D : Int32) : ∃ h1 h2 h3 : Fin 8, ∀ x, own_hm (own_f3 A B D x) &&& 7 = own_hv3 h1 h2 h3 x := by
  obtain ⟨h1, q1⟩ := own_h8 A
  obtain ⟨h2, q2⟩ := own_h8 B
  obtain ⟨h3, q3⟩ := own_h8 D
  refine ⟨h1, h2, h3, fun x => ?_⟩
  match x with
  | 0 => exact (by decide : own_hm 0 &&& 7 = 7)
  | 1 => exact q1
  | 2 => exact q2
  | 3 => exact q3
def own_f4 (A B D E : Int32) : Fin 5 → Int32
  | 0 => 0
  | 1 => A
  | 2 => B
  | 3 => D
  | 4 => E
def own_hv4 (h1 h2 h3 h4 : Fin 8) : Fin 5 → Int32
  | 0 => 7
  | 1 => Int32.ofInt (h1.1 : Int)
  | 2 => Int32.ofInt (h2.1 : Int)
  | 3 => Int32.ofInt (h3.1 : Int)
  | 4 => Int32.ofInt (h4.1 : Int)
theorem own_inj4 {A B D E : Int32} (n0A : A ≠ 0) (n0B : B ≠ 0) (n0D : D ≠ 0) (n0E : E ≠ 0) (nAB : A ≠ B) (nAD : A ≠ D) (nAE : A ≠ E) (nBD : B ≠ D) (nBE : B ≠ E) (nDE : D ≠ E) : ∀ x y, own_f4 A B D E x = own_f4 A B D E y → x = y
  | 0, 0, q => rfl
  | 0, 1, q => absurd q (Ne.symm n0A)
  | 0, 2, q => absurd q (Ne.symm n0B)
  | 0, 3, q => absurd q (Ne.symm n0D)
  | 0, 4, q => absurd q (Ne.symm n0E)
  | 1, 0, q => absurd q n0A
  | 1, 1, q => rfl
  | 1, 2, q => absurd q nAB
  | 1, 3, q => absurd q nAD
  | 1, 4, q => absurd q nAE
  | 2, 0, q => absurd q n0B
  | 2, 1, q => absurd q (Ne.symm nAB)
  | 2, 2, q => rfl
  | 2, 3, q => absurd q nBD
  | 2, 4, q => absurd q nBE
  | 3, 0, q => absurd q n0D
  | 3, 1, q => absurd q (Ne.symm nAD)
  | 3, 2, q => absurd q (Ne.symm nBD)
  | 3, 3, q => rfl
  | 3, 4, q => absurd q nDE
  | 4, 0, q => absurd q n0E
  | 4, 1, q => absurd q (Ne.symm nAE)
  | 4, 2, q => absurd q (Ne.symm nBE)
  | 4, 3, q => absurd q (Ne.symm nDE)
  | 4, 4, q => rfl
theorem own_hh4 (A B D E : Int32) : ∃ h1 h2 h3 h4 : Fin 8, ∀ x, own_hm (own_f4 A B D E x) &&& 7 = own_hv4 h1 h2 h3 h4 x := by
  obtain ⟨h1, q1⟩ := own_h8 A
  obtain ⟨h2, q2⟩ := own_h8 B
  obtain ⟨h3, q3⟩ := own_h8 D
  obtain ⟨h4, q4⟩ := own_h8 E
  refine ⟨h1, h2, h3, h4, fun x => ?_⟩
  match x with
  | 0 => exact (by decide : own_hm 0 &&& 7 = 7)
  | 1 => exact q1
  | 2 => exact q2
  | 3 => exact q3
  | 4 => exact q4
set_option maxRecDepth 65536 in
set_option maxHeartbeats 40000000 in
theorem own_c_111_n : ∀ h1 : Fin 8, own_chk (own_hv1 h1) (1 : Fin 2) (1 : Fin 2) (1 : Fin 2) none = true := by decide +kernel
set_option maxRecDepth 65536 in
set_option maxHeartbeats 40000000 in
theorem own_c_111_1 : ∀ h1 : Fin 8, own_chk (own_hv1 h1) (1 : Fin 2) (1 : Fin 2) (1 : Fin 2) (some 1) = true := by decide +kernel
set_option maxRecDepth 65536 in
set_option maxHeartbeats 40000000 in
theorem own_c_111_2 : ∀ h1 h2 : Fin 8, own_chk (own_hv2 h1 h2) (1 : Fin 3) (1 : Fin 3) (1 : Fin 3) (some 2) = true := by decide +kernel
set_option maxRecDepth 65536 in
set_option maxHeartbeats 40000000 in
theorem own_c_112_n : ∀ h1 h2 : Fin 8, own_chk (own_hv2 h1 h2) (1 : Fin 3) (1 : Fin 3) (2 : Fin 3) none = true := by decide +kernel
set_option maxRecDepth 65536 in
set_option maxHeartbeats 40000000 in
theorem own_c_112_1 : ∀ h1 h2 : Fin 8, own_chk (own_hv2 h1 h2) (1 : Fin 3) (1 : Fin 3) (2 : Fin 3) (some 1) = true := by decide +kernel
set_option maxRecDepth 65536 in
set_option maxHeartbeats 40000000 in
theorem own_c_112_2 : ∀ h1 h2 : Fin 8, own_chk (own_hv2 h1 h2) (1 : Fin 3) (1 : Fin 3) (2 : Fin 3) (some 2) = true := by decide +kernel
set_option maxRecDepth 65536 in
set_option maxHeartbeats 40000000 in
theorem own_c_112_3 : ∀ h1 h2 h3 : Fin 8, own_chk (own_hv3 h1 h2 h3) (1 : Fin 4) (1 : Fin 4) (2 : Fin 4) (some 3) = true := by decide +kernel
set_option maxRecDepth 65536 in
set_option maxHeartbeats 40000000 in
theorem own_c_121_n : ∀ h1 h2 : Fin 8, own_chk (own_hv2 h1 h2) (1 : Fin 3) (2 : Fin 3) (1 : Fin 3) none = true := by decide +kernel
set_option maxRecDepth 65536 in
set_option maxHeartbeats 40000000 in
theorem own_c_121_1 : ∀ h1 h2 : Fin 8, own_chk (own_hv2 h1 h2) (1 : Fin 3) (2 : Fin 3) (1 : Fin 3) (some 1) = true := by decide +kernel
set_option maxRecDepth 65536 in
set_option maxHeartbeats 40000000 in
theorem own_c_121_2 : ∀ h1 h2 : Fin 8, own_chk (own_hv2 h1 h2) (1 : Fin 3) (2 : Fin 3) (1 : Fin 3) (some 2) = true := by decide +kernel
set_option maxRecDepth 65536 in
set_option maxHeartbeats 40000000 in
theorem own_c_121_3 : ∀ h1 h2 h3 : Fin 8, own_chk (own_hv3 h1 h2 h3) (1 : Fin 4) (2 : Fin 4) (1 : Fin 4) (some 3) = true := by decide +kernel
set_option maxRecDepth 65536 in
set_option maxHeartbeats 40000000 in
theorem own_c_122_n : ∀ h1 h2 : Fin 8, own_chk (own_hv2 h1 h2) (1 : Fin 3) (2 : Fin 3) (2 : Fin 3) none = true := by decide +kernel
set_option maxRecDepth 65536 in
set_option maxHeartbeats 40000000 in
theorem own_c_122_1 : ∀ h1 h2 : Fin 8, own_chk (own_hv2 h1 h2) (1 : Fin 3) (2 : Fin 3) (2 : Fin 3) (some 1) = true := by decide +kernel
set_option maxRecDepth 65536 in
set_option maxHeartbeats 40000000 in
theorem own_c_122_2 : ∀ h1 h2 : Fin 8, own_chk (own_hv2 h1 h2) (1 : Fin 3) (2 : Fin 3) (2 : Fin 3) (some 2) = true := by decide +kernel
set_option maxRecDepth 65536 in
set_option maxHeartbeats 40000000 in
theorem own_c_122_3 : ∀ h1 h2 h3 : Fin 8, own_chk (own_hv3 h1 h2 h3) (1 : Fin 4) (2 : Fin 4) (2 : Fin 4) (some 3) = true := by decide +kernel
set_option maxRecDepth 65536 in
set_option maxHeartbeats 40000000 in
theorem own_c_123_n : ∀ h1 h2 h3 : Fin 8, own_chk (own_hv3 h1 h2 h3) (1 : Fin 4) (2 : Fin 4) (3 : Fin 4) none = true := by decide +kernel
set_option maxRecDepth 65536 in
set_option maxHeartbeats 40000000 in
theorem own_c_123_1 : ∀ h1 h2 h3 : Fin 8, own_chk (own_hv3 h1 h2 h3) (1 : Fin 4) (2 : Fin 4) (3 : Fin 4) (some 1) = true := by decide +kernel
set_option maxRecDepth 65536 in
set_option maxHeartbeats 40000000 in
theorem own_c_123_2 : ∀ h1 h2 h3 : Fin 8, own_chk (own_hv3 h1 h2 h3) (1 : Fin 4) (2 : Fin 4) (3 : Fin 4) (some 2) = true := by decide +kernel
set_option maxRecDepth 65536 in
set_option maxHeartbeats 40000000 in
theorem own_c_123_3 : ∀ h1 h2 h3 : Fin 8, own_chk (own_hv3 h1 h2 h3) (1 : Fin 4) (2 : Fin 4) (3 : Fin 4) (some 3) = true := by decide +kernel
set_option maxRecDepth 65536 in
set_option maxHeartbeats 40000000 in
theorem own_c_123_4 : ∀ h1 h2 h3 h4 : Fin 8, own_chk (own_hv4 h1 h2 h3 h4) (1 : Fin 5) (2 : Fin 5) (3 : Fin 5) (some 4) = true := by decide +kernel
theorem own_nz {x : Int32} (h : 0 ≤ x.toInt) : x + 1 ≠ 0 := fun q => by
  have a := c_iadd x 1
  rw [q] at a
  have k0 : (0 : Int32).toInt = 0 := rfl
  have k1 : (1 : Int32).toInt = 1 := rfl
  have r := rng32 x
  omega
theorem own_pe (x : Int32) : x + 1 - 1 = x := Int32.add_sub_cancel x 1
theorem own_core_n {a b c : Int32} (ha : 0 ≤ a.toInt) (hb : 0 ≤ b.toInt) (hc : 0 ≤ c.toInt) : own_good a b c none := by
  by_cases nab : a = b
  · subst nab
    by_cases nac : a = c
    · subst nac
      obtain ⟨h1, hh⟩ := own_hh1 (a + 1)
      have q := own_sim (own_f1 (a + 1)) _ (own_inj1 (own_nz ha)) rfl hh 1 1 1 none (own_c_111_n h1)
      simpa only [own_f1, own_pe, Option.map_some, Option.map_none] using q
    · skip
      obtain ⟨h1, h2, hh⟩ := own_hh2 (a + 1) (c + 1)
      have q := own_sim (own_f2 (a + 1) (c + 1)) _ (own_inj2 (own_nz ha) (own_nz hc) (fun q => nac (own_p1 q))) rfl hh 1 1 2 none (own_c_112_n h1 h2)
      simpa only [own_f2, own_pe, Option.map_some, Option.map_none] using q
  · by_cases nac : a = c
    · subst nac
      obtain ⟨h1, h2, hh⟩ := own_hh2 (a + 1) (b + 1)
      have q := own_sim (own_f2 (a + 1) (b + 1)) _ (own_inj2 (own_nz ha) (own_nz hb) (fun q => nab (own_p1 q))) rfl hh 1 2 1 none (own_c_121_n h1 h2)
      simpa only [own_f2, own_pe, Option.map_some, Option.map_none] using q
    · by_cases nbc : b = c
      · subst nbc
        obtain ⟨h1, h2, hh⟩ := own_hh2 (a + 1) (b + 1)
        have q := own_sim (own_f2 (a + 1) (b + 1)) _ (own_inj2 (own_nz ha) (own_nz hb) (fun q => nab (own_p1 q))) rfl hh 1 2 2 none (own_c_122_n h1 h2)
        simpa only [own_f2, own_pe, Option.map_some, Option.map_none] using q
      · skip
        obtain ⟨h1, h2, h3, hh⟩ := own_hh3 (a + 1) (b + 1) (c + 1)
        have q := own_sim (own_f3 (a + 1) (b + 1) (c + 1)) _ (own_inj3 (own_nz ha) (own_nz hb) (own_nz hc) (fun q => nab (own_p1 q)) (fun q => nac (own_p1 q)) (fun q => nbc (own_p1 q))) rfl hh 1 2 3 none (own_c_123_n h1 h2 h3)
        simpa only [own_f3, own_pe, Option.map_some, Option.map_none] using q
theorem own_core_s {a b c d : Int32} (ha : 0 ≤ a.toInt) (hb : 0 ≤ b.toInt) (hc : 0 ≤ c.toInt) (hd : 0 ≤ d.toInt) : own_good a b c (some d) := by
  by_cases nab : a = b
  · subst nab
    by_cases nac : a = c
    · subst nac
      by_cases nad : a = d
      · subst nad
        obtain ⟨h1, hh⟩ := own_hh1 (a + 1)
        have q := own_sim (own_f1 (a + 1)) _ (own_inj1 (own_nz ha)) rfl hh 1 1 1 (some 1) (own_c_111_1 h1)
        simpa only [own_f1, own_pe, Option.map_some, Option.map_none] using q
      · skip
        obtain ⟨h1, h2, hh⟩ := own_hh2 (a + 1) (d + 1)
        have q := own_sim (own_f2 (a + 1) (d + 1)) _ (own_inj2 (own_nz ha) (own_nz hd) (fun q => nad (own_p1 q))) rfl hh 1 1 1 (some 2) (own_c_111_2 h1 h2)
        simpa only [own_f2, own_pe, Option.map_some, Option.map_none] using q
    · skip
      by_cases nad : a = d
      · subst nad
        obtain ⟨h1, h2, hh⟩ := own_hh2 (a + 1) (c + 1)
        have q := own_sim (own_f2 (a + 1) (c + 1)) _ (own_inj2 (own_nz ha) (own_nz hc) (fun q => nac (own_p1 q))) rfl hh 1 1 2 (some 1) (own_c_112_1 h1 h2)
        simpa only [own_f2, own_pe, Option.map_some, Option.map_none] using q
      · skip
        by_cases ncd : c = d
        · subst ncd
          obtain ⟨h1, h2, hh⟩ := own_hh2 (a + 1) (c + 1)
          have q := own_sim (own_f2 (a + 1) (c + 1)) _ (own_inj2 (own_nz ha) (own_nz hc) (fun q => nac (own_p1 q))) rfl hh 1 1 2 (some 2) (own_c_112_2 h1 h2)
          simpa only [own_f2, own_pe, Option.map_some, Option.map_none] using q
        · skip
          obtain ⟨h1, h2, h3, hh⟩ := own_hh3 (a + 1) (c + 1) (d + 1)
          have q := own_sim (own_f3 (a + 1) (c + 1) (d + 1)) _ (own_inj3 (own_nz ha) (own_nz hc) (own_nz hd) (fun q => nac (own_p1 q)) (fun q => nad (own_p1 q)) (fun q => ncd (own_p1 q))) rfl hh 1 1 2 (some 3) (own_c_112_3 h1 h2 h3)
          simpa only [own_f3, own_pe, Option.map_some, Option.map_none] using q
  · by_cases nac : a = c
    · subst nac
      by_cases nad : a = d
      · subst nad
        obtain ⟨h1, h2, hh⟩ := own_hh2 (a + 1) (b + 1)
        have q := own_sim (own_f2 (a + 1) (b + 1)) _ (own_inj2 (own_nz ha) (own_nz hb) (fun q => nab (own_p1 q))) rfl hh 1 2 1 (some 1) (own_c_121_1 h1 h2)
        simpa only [own_f2, own_pe, Option.map_some, Option.map_none] using q
      · skip
        by_cases nbd : b = d
        · subst nbd
          obtain ⟨h1, h2, hh⟩ := own_hh2 (a + 1) (b + 1)
          have q := own_sim (own_f2 (a + 1) (b + 1)) _ (own_inj2 (own_nz ha) (own_nz hb) (fun q => nab (own_p1 q))) rfl hh 1 2 1 (some 2) (own_c_121_2 h1 h2)
          simpa only [own_f2, own_pe, Option.map_some, Option.map_none] using q
        · skip
          obtain ⟨h1, h2, h3, hh⟩ := own_hh3 (a + 1) (b + 1) (d + 1)
          have q := own_sim (own_f3 (a + 1) (b + 1) (d + 1)) _ (own_inj3 (own_nz ha) (own_nz hb) (own_nz hd) (fun q => nab (own_p1 q)) (fun q => nad (own_p1 q)) (fun q => nbd (own_p1 q))) rfl hh 1 2 1 (some 3) (own_c_121_3 h1 h2 h3)
          simpa only [own_f3, own_pe, Option.map_some, Option.map_none] using q
    · by_cases nbc : b = c
      · subst nbc
        by_cases nad : a = d
        · subst nad
          obtain ⟨h1, h2, hh⟩ := own_hh2 (a + 1) (b + 1)
          have q := own_sim (own_f2 (a + 1) (b + 1)) _ (own_inj2 (own_nz ha) (own_nz hb) (fun q => nab (own_p1 q))) rfl hh 1 2 2 (some 1) (own_c_122_1 h1 h2)
          simpa only [own_f2, own_pe, Option.map_some, Option.map_none] using q
        · skip
          by_cases nbd : b = d
          · subst nbd
            obtain ⟨h1, h2, hh⟩ := own_hh2 (a + 1) (b + 1)
            have q := own_sim (own_f2 (a + 1) (b + 1)) _ (own_inj2 (own_nz ha) (own_nz hb) (fun q => nab (own_p1 q))) rfl hh 1 2 2 (some 2) (own_c_122_2 h1 h2)
            simpa only [own_f2, own_pe, Option.map_some, Option.map_none] using q
          · skip
            obtain ⟨h1, h2, h3, hh⟩ := own_hh3 (a + 1) (b + 1) (d + 1)
            have q := own_sim (own_f3 (a + 1) (b + 1) (d + 1)) _ (own_inj3 (own_nz ha) (own_nz hb) (own_nz hd) (fun q => nab (own_p1 q)) (fun q => nad (own_p1 q)) (fun q => nbd (own_p1 q))) rfl hh 1 2 2 (some 3) (own_c_122_3 h1 h2 h3)
            simpa only [own_f3, own_pe, Option.map_some, Option.map_none] using q
      · skip
        by_cases nad : a = d
        · subst nad
          obtain ⟨h1, h2, h3, hh⟩ := own_hh3 (a + 1) (b + 1) (c + 1)
          have q := own_sim (own_f3 (a + 1) (b + 1) (c + 1)) _ (own_inj3 (own_nz ha) (own_nz hb) (own_nz hc) (fun q => nab (own_p1 q)) (fun q => nac (own_p1 q)) (fun q => nbc (own_p1 q))) rfl hh 1 2 3 (some 1) (own_c_123_1 h1 h2 h3)
          simpa only [own_f3, own_pe, Option.map_some, Option.map_none] using q
        · skip
          by_cases nbd : b = d
          · subst nbd
            obtain ⟨h1, h2, h3, hh⟩ := own_hh3 (a + 1) (b + 1) (c + 1)
            have q := own_sim (own_f3 (a + 1) (b + 1) (c + 1)) _ (own_inj3 (own_nz ha) (own_nz hb) (own_nz hc) (fun q => nab (own_p1 q)) (fun q => nac (own_p1 q)) (fun q => nbc (own_p1 q))) rfl hh 1 2 3 (some 2) (own_c_123_2 h1 h2 h3)
            simpa only [own_f3, own_pe, Option.map_some, Option.map_none] using q
          · skip
            by_cases ncd : c = d
            · subst ncd
              obtain ⟨h1, h2, h3, hh⟩ := own_hh3 (a + 1) (b + 1) (c + 1)
              have q := own_sim (own_f3 (a + 1) (b + 1) (c + 1)) _ (own_inj3 (own_nz ha) (own_nz hb) (own_nz hc) (fun q => nab (own_p1 q)) (fun q => nac (own_p1 q)) (fun q => nbc (own_p1 q))) rfl hh 1 2 3 (some 3) (own_c_123_3 h1 h2 h3)
              simpa only [own_f3, own_pe, Option.map_some, Option.map_none] using q
            · skip
              obtain ⟨h1, h2, h3, h4, hh⟩ := own_hh4 (a + 1) (b + 1) (c + 1) (d + 1)
              have q := own_sim (own_f4 (a + 1) (b + 1) (c + 1) (d + 1)) _ (own_inj4 (own_nz ha) (own_nz hb) (own_nz hc) (own_nz hd) (fun q => nab (own_p1 q)) (fun q => nac (own_p1 q)) (fun q => nad (own_p1 q)) (fun q => nbc (own_p1 q)) (fun q => nbd (own_p1 q)) (fun q => ncd (own_p1 q))) rfl hh 1 2 3 (some 4) (own_c_123_4 h1 h2 h3 h4)
              simpa only [own_f4, own_pe, Option.map_some, Option.map_none] using q

def own_vs (l : List Int32) : List Value := l.map Value.int
def own_in (n j : Int32) : Prop := 0 ≤ j.toInt ∧ j.toInt < n.toInt
def own_ok (n : Int32) (l : List Int32) : Prop := (n = 4 ∨ n = 8) ∧ l.length = n.toNatClampNeg
theorem own_get (l : List Int32) (j : Int32) : (own_vs l).getD j.toNatClampNeg (.int (0 : Int32)) = .int (own_g 0 l j) := by
  simp only [own_vs, own_g, List.getD_eq_getElem?_getD, List.getElem?_map]; cases l[j.toNatClampNeg]? <;> rfl
theorem own_nat {n j : Int32} (h : own_in n j) : j.toNatClampNeg < n.toNatClampNeg := by
  obtain ⟨h1, h2⟩ := h
  simp only [Int32.toNatClampNeg]; omega
theorem own_len {n j : Int32} {l : List Int32} (h : own_ok n l) (hj : own_in n j) : j.toNatClampNeg < (own_vs l).length := by
  rw [own_vs, List.length_map, h.2]; exact own_nat hj
theorem own_setv (l : List Int32) (j x : Int32) : (own_vs l).set j.toNatClampNeg (.int x) = own_vs (own_s l j x) := by simp [own_vs, own_s, List.map_set]
theorem own_s_ok {n j x : Int32} {l : List Int32} (h : own_ok n l) : own_ok n (own_s l j x) := ⟨h.1, by rw [own_s, List.length_set]; exact h.2⟩
theorem own_and {n : Int32} (h : n = 4 ∨ n = 8) (x : Int32) : own_in n (x &&& (n - (1 : Int32))) := by
  rcases h with rfl | rfl
  · have a := c_mask x (4 - 1) 2 (by decide) (by decide)
    have k : (4 : Int32).toInt = 4 := rfl
    exact ⟨by omega, by omega⟩
  · have a := c_mask x (8 - 1) 3 (by decide) (by decide)
    have k : (8 : Int32).toInt = 8 := rfl
    exact ⟨by omega, by omega⟩
theorem own_find_in {n : Int32} (hn : n = 4 ∨ n = 8) {l : List Int32} {x r : Int32} : ∀ (k : Nat) (i : Int32), own_in n i → own_find 0 (n - 1) l x k i = some r → own_in n r
  | 0, _, _, h => by rw [own_find0] at h; cases h
  | k + 1, i, hi, h => by
    rw [own_findS] at h
    split at h
    · cases h; exact hi
    · split at h
      · cases h; exact hi
      · exact own_find_in hn k _ (own_and hn _) h
theorem own_fd_e {n : Int32} {l : List Int32} {x j : Int32} (h : own_fd 0 own_hm n l x = some j) : own_find 0 (n - 1) l x 9 (own_hm x &&& (n - 1)) = some j := by
  rw [own_fd] at h; split at h
  · exact h
  · cases h
theorem own_mono {p : Program} {e : Env} {below : List Frame} {s U : State} {Q Q' : Option Value → Heap → List Loc → Prop} {k n : Nat} (hq : ∀ v h L, Q v h L → Q' v h L) (g : W.Go p e below (W.Post s Q k n) U) : W.Go p e below (W.Post s Q' k n) U := by
  obtain ⟨s2, o, h1, h2, h3, v, L, e1, q, fe⟩ := g
  exact ⟨s2, o, h1, h2, h3, v, L, e1, hq _ _ _ q, fe⟩
theorem own_hm1 (x : Int32) : own_hm (x + 1) = own_hx x := by rw [own_hm, own_pe]
theorem own_fd1 {n : Int32} {l : List Int32} {x j : Int32} (h : own_fd 0 own_hm n l (x + 1) = some j) : own_find 0 (n - 1) l (x + 1) 9 (own_hx x &&& (n - 1)) = some j := by
  have q := own_fd_e h; rw [own_hm1] at q; exact q
theorem own_fd2 {n : Int32} {l : List Int32} {w j : Int32} (h : own_fd 0 own_hm n l w = some j) : own_find 0 (n - 1) l (w - 1 + 1) 9 (own_hx (w - 1) &&& (n - 1)) = some j := by
  rw [Int32.sub_add_cancel]; exact own_fd_e h
theorem own_fdin {n : Int32} (hn : n = 4 ∨ n = 8) {l : List Int32} {x j : Int32} (h : own_fd 0 own_hm n l x = some j) : own_in n j := own_find_in hn 9 _ (own_and hn _) (own_fd_e h)
theorem own_bindE {α β : Type} {o : Option α} {k : α → Option β} {y : β} (h : o.bind k = some y) : ∃ j, o = some j ∧ k j = some y := by
  cases o with
  | none => cases h
  | some j => exact ⟨j, rfl, h⟩
theorem own_ifE {c : Prop} [Decidable c] {α : Type} {X : Option α} {y : α} (h : (if c then X else none) = some y) : c ∧ X = some y := by
  by_cases q : c
  · rw [if_pos q] at h; exact ⟨q, h⟩
  · rw [if_neg q] at h; cases h
theorem own_tri {α β γ : Type} {a a' : α} {b b' : β} {c c' : γ} (h : some (a, b, c) = some (a', b', c')) : a = a' ∧ b = b' ∧ c = c' := by cases h; exact ⟨rfl, rfl, rfl⟩
def own_lst (r : Option Int32) (q : Int32 × List Int32 × Int32) : Option (Int32 × List Int32 × Int32) := match r with | none => some q | some r => own_rem 0 own_hm q.1 q.2.1 q.2.2 r
theorem own_run_inv {a b c : Int32} {r : Option Int32} {q : Int32 × List Int32 × Int32} (h : own_run 0 own_hm a b c r = some q) : ∃ n1 l1 s1 n2 l2 s2 n3 l3 s3, own_add 0 own_hm 4 [0, 0, 0, 0] 0 a = some (n1, l1, s1) ∧ own_add 0 own_hm n1 l1 s1 b = some (n2, l2, s2) ∧ own_add 0 own_hm n2 l2 s2 c = some (n3, l3, s3) ∧ own_lst r (n3, l3, s3) = some q := by
  rw [own_run] at h
  obtain ⟨⟨n1, l1, s1⟩, h1, h⟩ := own_bindE h
  obtain ⟨⟨n2, l2, s2⟩, h2, h⟩ := own_bindE h
  obtain ⟨⟨n3, l3, s3⟩, h3, h⟩ := own_bindE h
  exact ⟨n1, l1, s1, n2, l2, s2, n3, l3, s3, h1, h2, h3, by cases r <;> exact h⟩
theorem own_inc {n i : Int32} (h0 : 0 ≤ i.toInt) (h : i.toInt < n.toInt) : 0 ≤ (i + 1).toInt := by
  have a := c_iadd i 1
  have k : (1 : Int32).toInt = 1 := rfl
  have r := rng32 n
  have r' := rng32 (i + 1)
  omega
theorem own_b0 {b : Bool} (h : (if b = true then (1 : Int32) else 0) = 0) : ¬ b = true := fun q => by rw [if_pos q] at h; exact absurd h (by decide)
theorem own_b1 {b : Bool} (h : (if b = true then (1 : Int32) else 0) ≠ 0) : b = true := Decidable.byContradiction fun q => h (if_neg q)
theorem own_bt {b : Bool} (h : b = true) : (if b = true then (1 : Int32) else 0) ≠ 0 := by rw [if_pos h]; decide
theorem own_bz (c : Prop) [Decidable c] : (if c then (1 : Int32) else 0) = 0 ∨ (if c then (1 : Int32) else 0) = 1 := by split <;> decide
theorem own_nn {x v : Int32} (h : (x &&& (2147483647 : Int32)) = v) : 0 ≤ v.toInt := by
  have a1 := c_mask x 2147483647 31 (by decide) (by decide)
  rw [h] at a1; omega
def own_R (rm r : Int32) : Option Int32 := if rm = 0 then none else some r
theorem own_core {a b c rm r : Int32} (ha : 0 ≤ a.toInt) (hb : 0 ≤ b.toInt) (hc : 0 ≤ c.toInt) (hr : 0 ≤ r.toInt) : own_good a b c (own_R rm r) := by
  by_cases q : rm = 0
  · rw [own_R, if_pos q]; exact own_core_n ha hb hc
  · rw [own_R, if_neg q]; exact own_core_s ha hb hc hr
def own_set (Z : State) (n0 : Nat) (h : Heap) (p0 bs : Addr) (ks : ClassId) (n : Int32) (l : List Int32) (sz hs : Int32) : Prop := n0 ≤ p0 ∧ n0 ≤ bs ∧ p0 ≠ bs ∧ n0 ≤ h.size ∧ Old Z n0 h ∧ Exa Z h p0 "com/example/nomina/nomina/tableau/IntSet" ∧ Fld Z h p0 "com/example/nomina/nomina/tableau/IntSet" "slots" "[I" (.ref bs) ∧ Fld Z h p0 "com/example/nomina/nomina/tableau/IntSet" "size" "I" (.int sz) ∧ Fld Z h p0 "com/example/nomina/nomina/tableau/IntSet" "contentHash" "I" (.int hs) ∧ Fld Z h p0 "com/example/nomina/nomina/tableau/IntSet" "dependencies" "[Lcom/example/nomina/nomina/tableau/Dependencies;" .null ∧ Arv Z h bs ks .int n (own_vs l) (.int (0 : Int32)) ∧ own_ok n l
theorem d5_0 : decode prog_88_method_18_code 0 = .ok (.iload_n 0, 1) := by decide +kernel
theorem d5_1 : decode prog_88_method_18_code 1 = .ok (.ldc 69, 2) := by decide +kernel
theorem d5_3 : decode prog_88_method_18_code 3 = .ok (.imul, 1) := by decide +kernel
theorem d5_4 : decode prog_88_method_18_code 4 = .ok (.istore_n 2, 1) := by decide +kernel
theorem d5_5 : decode prog_88_method_18_code 5 = .ok (.iload_n 2, 1) := by decide +kernel
theorem d5_6 : decode prog_88_method_18_code 6 = .ok (.iload_n 2, 1) := by decide +kernel
theorem d5_7 : decode prog_88_method_18_code 7 = .ok (.bipush 16, 2) := by decide +kernel
theorem d5_9 : decode prog_88_method_18_code 9 = .ok (.iushr, 1) := by decide +kernel
theorem d5_10 : decode prog_88_method_18_code 10 = .ok (.ixor, 1) := by decide +kernel
theorem d5_11 : decode prog_88_method_18_code 11 = .ok (.iload_n 1, 1) := by decide +kernel
theorem d5_12 : decode prog_88_method_18_code 12 = .ok (.iconst 1, 1) := by decide +kernel
theorem d5_13 : decode prog_88_method_18_code 13 = .ok (.isub, 1) := by decide +kernel
theorem d5_14 : decode prog_88_method_18_code 14 = .ok (.iand, 1) := by decide +kernel
theorem d5_15 : decode prog_88_method_18_code 15 = .ok (.ireturn, 1) := by decide +kernel
theorem pn_com_example_nomina_nomina_tableau_IntSet : plainName "com/example/nomina/nomina/tableau/IntSet" = true := by first | (simp [plainName, overriddenIn]; done) | decide +kernel
def Q5 (Z : State) (p0 p1 : Int32) (h0 : Heap) (n0 : Nat) (v : Option Value) (h : Heap) (L : List Loc) : Prop := v = some (.int (own_hx p0 &&& (p1 - (1 : Int32)))) ∧ Fr n0 L ∧ h = h0
set_option maxRecDepth 65536 in
set_option maxHeartbeats 40000000 in
theorem rm5 (l : Launch) (Z : State) (a0 : Array Value) (hw : ∀ d ∈ tables_1, d.before a0 Z = true) (ws : List Jvm.Cond) (p0 p1 : Int32) (h0 : Heap) (n0 : Nat) :
    MetFree l (⟨"com/example/nomina/nomina/tableau/IntSet", "home", "(II)I"⟩ : MethodName) (head1 (Jvm.Cond.code (⟨"com/example/nomina/nomina/tableau/IntSet", "home", "(II)I"⟩ : MethodName) prog_88_method_18_code 3 (some .int) :: ws) ({ frames := 0, cells := 0, slots := 0, locals := 0 } : Room)) (fun a U => a = #[(.int p0), (.int p1)] ∧ Z.Warmed39 U.vm ∧ U.heap = h0) (fun _ _ _ _ _ => True) (fun _ U o U' => ∃ v L, o = .returned v ∧ Q5 Z p0 p1 h0 n0 v U'.heap L ∧ FrameEnd U o U' L ({ frames := 0, cells := 0, slots := 0, locals := 0 } : Room).cells ({ frames := 0, cells := 0, slots := 0, locals := 0 } : Room).slots) := by
  refine W.bodyOf (y := (⟨"com/example/nomina/nomina/tableau/IntSet", "home", "(II)I"⟩ : MethodName)) (as := #[(.int p0), (.int p1)]) (maxL := 3) (Q := Q5 Z p0 p1 h0 n0) (Ls := #[.val (.int p0), .val (.int p1), .unset]) (plainFor_of_name pn_com_example_nomina_nomina_tableau_IntSet) (fun m => by first | rfl | (simp [entryFrame, mkF, argsToLocals, Value.category]; done)) ?_
  intro p e s m below meth c T0 C X0 e0
  have N0 := Fr.nil n0
  refine W.iloadN (q := 1) X0 C d5_0 rfl rfl ?_
  refine W.ldcI (q := 3) X0 C (W.ww hw 29 rfl) d5_1 rfl ?_
  refine W.imul (q := 4) X0 C d5_3 rfl ?_
  refine W.istoreN (q := 5) (L' := #[.val (.int p0), .val (.int p1), .val (.int (p0 * (-1640531527 : Int32)))]) X0 C d5_4 rfl rfl ?_
  refine W.iloadN (q := 6) X0 C d5_5 rfl rfl ?_
  refine W.iloadN (q := 7) X0 C d5_6 rfl rfl ?_
  refine W.bipush (q := 9) (v := 16) X0 C d5_7 rfl rfl ?_
  refine W.iushr (q := 10) X0 C d5_9 rfl ?_
  refine W.ixor (q := 11) X0 C d5_10 rfl ?_
  refine W.iloadN (q := 12) X0 C d5_11 rfl rfl ?_
  refine W.iconst (q := 13) (v := 1) X0 C d5_12 rfl rfl ?_
  refine W.isub (q := 14) X0 C d5_13 rfl ?_
  refine W.iand (q := 15) X0 C d5_14 rfl ?_
  exact W.retI X0 C e0 d5_15 (by decide) (by decide) ⟨rfl, N0, rfl⟩
theorem d6_0 : decode prog_88_method_19_code 0 = .ok (.iload_n 0, 1) := by decide +kernel
theorem d6_1 : decode prog_88_method_19_code 1 = .ok (.iload_n 0, 1) := by decide +kernel
theorem d6_2 : decode prog_88_method_19_code 2 = .ok (.bipush 16, 2) := by decide +kernel
theorem d6_4 : decode prog_88_method_19_code 4 = .ok (.iushr, 1) := by decide +kernel
theorem d6_5 : decode prog_88_method_19_code 5 = .ok (.ixor, 1) := by decide +kernel
theorem d6_6 : decode prog_88_method_19_code 6 = .ok (.istore_n 1, 1) := by decide +kernel
theorem d6_7 : decode prog_88_method_19_code 7 = .ok (.iload_n 1, 1) := by decide +kernel
theorem d6_8 : decode prog_88_method_19_code 8 = .ok (.ldc 70, 2) := by decide +kernel
theorem d6_10 : decode prog_88_method_19_code 10 = .ok (.imul, 1) := by decide +kernel
theorem d6_11 : decode prog_88_method_19_code 11 = .ok (.istore_n 1, 1) := by decide +kernel
theorem d6_12 : decode prog_88_method_19_code 12 = .ok (.iload_n 1, 1) := by decide +kernel
theorem d6_13 : decode prog_88_method_19_code 13 = .ok (.iload_n 1, 1) := by decide +kernel
theorem d6_14 : decode prog_88_method_19_code 14 = .ok (.bipush 13, 2) := by decide +kernel
theorem d6_16 : decode prog_88_method_19_code 16 = .ok (.iushr, 1) := by decide +kernel
theorem d6_17 : decode prog_88_method_19_code 17 = .ok (.ixor, 1) := by decide +kernel
theorem d6_18 : decode prog_88_method_19_code 18 = .ok (.istore_n 1, 1) := by decide +kernel
theorem d6_19 : decode prog_88_method_19_code 19 = .ok (.iload_n 1, 1) := by decide +kernel
theorem d6_20 : decode prog_88_method_19_code 20 = .ok (.ldc 71, 2) := by decide +kernel
theorem d6_22 : decode prog_88_method_19_code 22 = .ok (.imul, 1) := by decide +kernel
theorem d6_23 : decode prog_88_method_19_code 23 = .ok (.istore_n 1, 1) := by decide +kernel
theorem d6_24 : decode prog_88_method_19_code 24 = .ok (.iload_n 1, 1) := by decide +kernel
theorem d6_25 : decode prog_88_method_19_code 25 = .ok (.iload_n 1, 1) := by decide +kernel
theorem d6_26 : decode prog_88_method_19_code 26 = .ok (.bipush 16, 2) := by decide +kernel
theorem d6_28 : decode prog_88_method_19_code 28 = .ok (.iushr, 1) := by decide +kernel
theorem d6_29 : decode prog_88_method_19_code 29 = .ok (.ixor, 1) := by decide +kernel
theorem d6_30 : decode prog_88_method_19_code 30 = .ok (.ireturn, 1) := by decide +kernel
def Q6 (Z : State) (p0 : Int32) (h0 : Heap) (n0 : Nat) (v : Option Value) (h : Heap) (L : List Loc) : Prop := ∃ w, v = some (.int w) ∧ Fr n0 L ∧ h = h0
set_option maxRecDepth 65536 in
set_option maxHeartbeats 40000000 in
theorem rm6 (l : Launch) (Z : State) (a0 : Array Value) (hw : ∀ d ∈ tables_1, d.before a0 Z = true) (ws : List Jvm.Cond) (p0 : Int32) (h0 : Heap) (n0 : Nat) :
    MetFree l (⟨"com/example/nomina/nomina/tableau/IntSet", "mix", "(I)I"⟩ : MethodName) (head1 (Jvm.Cond.code (⟨"com/example/nomina/nomina/tableau/IntSet", "mix", "(I)I"⟩ : MethodName) prog_88_method_19_code 2 (some .int) :: ws) ({ frames := 0, cells := 0, slots := 0, locals := 0 } : Room)) (fun a U => a = #[(.int p0)] ∧ Z.Warmed39 U.vm ∧ U.heap = h0) (fun _ _ _ _ _ => True) (fun _ U o U' => ∃ v L, o = .returned v ∧ Q6 Z p0 h0 n0 v U'.heap L ∧ FrameEnd U o U' L ({ frames := 0, cells := 0, slots := 0, locals := 0 } : Room).cells ({ frames := 0, cells := 0, slots := 0, locals := 0 } : Room).slots) := by
  refine W.bodyOf (y := (⟨"com/example/nomina/nomina/tableau/IntSet", "mix", "(I)I"⟩ : MethodName)) (as := #[(.int p0)]) (maxL := 2) (Q := Q6 Z p0 h0 n0) (Ls := #[.val (.int p0), .unset]) (plainFor_of_name pn_com_example_nomina_nomina_tableau_IntSet) (fun m => by first | rfl | (simp [entryFrame, mkF, argsToLocals, Value.category]; done)) ?_
  intro p e s m below meth c T0 C X0 e0
  have N0 := Fr.nil n0
  refine W.iloadN (q := 1) X0 C d6_0 rfl rfl ?_
  refine W.iloadN (q := 2) X0 C d6_1 rfl rfl ?_
  refine W.bipush (q := 4) (v := 16) X0 C d6_2 rfl rfl ?_
  refine W.iushr (q := 5) X0 C d6_4 rfl ?_
  refine W.ixor (q := 6) X0 C d6_5 rfl ?_
  generalize hv1 : (p0 ^^^ ((p0.toUInt32 >>> ((16 : Int32) &&& 31).toUInt32).toInt32)) = v1
  refine W.istoreN (q := 7) (L' := #[.val (.int p0), .val (.int v1)]) X0 C d6_6 rfl rfl ?_
  refine W.iloadN (q := 8) X0 C d6_7 rfl rfl ?_
  refine W.ldcI (q := 10) X0 C (W.ww hw 35 rfl) d6_8 rfl ?_
  refine W.imul (q := 11) X0 C d6_10 rfl ?_
  generalize hv2 : (v1 * (-2048144789 : Int32)) = v2
  refine W.istoreN (q := 12) (L' := #[.val (.int p0), .val (.int v2)]) X0 C d6_11 rfl rfl ?_
  refine W.iloadN (q := 13) X0 C d6_12 rfl rfl ?_
  refine W.iloadN (q := 14) X0 C d6_13 rfl rfl ?_
  refine W.bipush (q := 16) (v := 13) X0 C d6_14 rfl rfl ?_
  refine W.iushr (q := 17) X0 C d6_16 rfl ?_
  refine W.ixor (q := 18) X0 C d6_17 rfl ?_
  generalize hv3 : (v2 ^^^ ((v2.toUInt32 >>> ((13 : Int32) &&& 31).toUInt32).toInt32)) = v3
  refine W.istoreN (q := 19) (L' := #[.val (.int p0), .val (.int v3)]) X0 C d6_18 rfl rfl ?_
  refine W.iloadN (q := 20) X0 C d6_19 rfl rfl ?_
  refine W.ldcI (q := 22) X0 C (W.ww hw 36 rfl) d6_20 rfl ?_
  refine W.imul (q := 23) X0 C d6_22 rfl ?_
  generalize hv4 : (v3 * (-1028477387 : Int32)) = v4
  refine W.istoreN (q := 24) (L' := #[.val (.int p0), .val (.int v4)]) X0 C d6_23 rfl rfl ?_
  refine W.iloadN (q := 25) X0 C d6_24 rfl rfl ?_
  refine W.iloadN (q := 26) X0 C d6_25 rfl rfl ?_
  refine W.bipush (q := 28) (v := 16) X0 C d6_26 rfl rfl ?_
  refine W.iushr (q := 29) X0 C d6_28 rfl ?_
  refine W.ixor (q := 30) X0 C d6_29 rfl ?_
  exact W.retI X0 C e0 d6_30 (by decide) (by decide) ⟨_, rfl, N0, rfl⟩
theorem d4_12 : decode prog_88_method_17_code 12 = .ok (.aload_n 0, 1) := by decide +kernel
theorem d4_13 : decode prog_88_method_17_code 13 = .ok (.iload_n 3, 1) := by decide +kernel
theorem d4_14 : decode prog_88_method_17_code 14 = .ok (.iaload, 1) := by decide +kernel
theorem d4_15 : decode prog_88_method_17_code 15 = .ok (.ifCond .eq 21, 3) := by decide +kernel
theorem d4_36 : decode prog_88_method_17_code 36 = .ok (.iload_n 3, 1) := by decide +kernel
theorem d4_37 : decode prog_88_method_17_code 37 = .ok (.ireturn, 1) := by decide +kernel
theorem d4_18 : decode prog_88_method_17_code 18 = .ok (.aload_n 0, 1) := by decide +kernel
theorem d4_19 : decode prog_88_method_17_code 19 = .ok (.iload_n 3, 1) := by decide +kernel
theorem d4_20 : decode prog_88_method_17_code 20 = .ok (.iaload, 1) := by decide +kernel
theorem d4_21 : decode prog_88_method_17_code 21 = .ok (.iload_n 1, 1) := by decide +kernel
theorem d4_22 : decode prog_88_method_17_code 22 = .ok (.iconst 1, 1) := by decide +kernel
theorem d4_23 : decode prog_88_method_17_code 23 = .ok (.iadd, 1) := by decide +kernel
theorem d4_24 : decode prog_88_method_17_code 24 = .ok (.if_icmp .eq 12, 3) := by decide +kernel
theorem d4_27 : decode prog_88_method_17_code 27 = .ok (.iload_n 3, 1) := by decide +kernel
theorem d4_28 : decode prog_88_method_17_code 28 = .ok (.iconst 1, 1) := by decide +kernel
theorem d4_29 : decode prog_88_method_17_code 29 = .ok (.iadd, 1) := by decide +kernel
theorem d4_30 : decode prog_88_method_17_code 30 = .ok (.iload_n 2, 1) := by decide +kernel
theorem d4_31 : decode prog_88_method_17_code 31 = .ok (.iand, 1) := by decide +kernel
theorem d4_32 : decode prog_88_method_17_code 32 = .ok (.istore_n 3, 1) := by decide +kernel
theorem d4_33 : decode prog_88_method_17_code 33 = .ok (.goto (-21), 3) := by decide +kernel
set_option maxRecDepth 65536 in
set_option maxHeartbeats 40000000 in
theorem own_floop (l : Launch) (Z : State) (n0 : Nat) (h0 : Heap) (p0 : Addr) (k0 : ClassId) (p1 n : Int32) (ls : List Int32) (r : Int32) (V0 : Arv Z h0 p0 k0 .int n (own_vs ls) (.int (0 : Int32))) (hok : own_ok n ls) {p : Program} {e : Env} {s : State} {m : MethodId} {args : Array Value} {below : List Frame} {meth : Method} {c : Code} (C : W.Cx p s m meth c Z prog_88_method_17_code 4 "com/example/nomina/nomina/tableau/IntSet" "find" (some .int)) :
    ∀ (fuel : Nat) (i : Int32) (T0 : State) (locs : List Loc), Stand p l e ({ frames := 1, cells := 0, slots := 0, locals := 24 } : Room) s m args below meth c T0 locs 0 0 → T0.heap = h0 → Fr n0 locs → own_in n i → own_find 0 (n - 1) ls (p1 + 1) fuel i = some r →
    W.Go p e below (W.Post s (fun v h L => v = some (.int r) ∧ Fr n0 L ∧ h = h0) 0 0) (T0.setTop (mkF m 12 #[.val (.ref p0), .val (.int p1), .val (.int (n - (1 : Int32))), .val (.int i)] [])) := by
  intro fuel
  induction fuel with
  | zero =>
    intro _ _ _ _ _ _ _ hr
    rw [own_find0] at hr; cases hr
  | succ k ih =>
    intro i T0 locs X0 e0 N0 hin hr
    refine W.aloadN (q := 13) X0 C d4_12 rfl rfl rfl ?_
    refine W.iloadN (q := 14) X0 C d4_13 rfl rfl ?_
    refine W.iaload (q := 15) X0 C e0 V0 hin.1 hin.2 (own_get ls i) d4_14 rfl ?_
    refine W.if_ (q := 36) (q' := 18) X0 C d4_15 (by decide) (by decide) rfl (fun hc5 => ?_) (fun hc5 => ?_)
    · replace hc5 : (own_g 0 ls i) = 0 := hc5
      rw [own_findS, if_pos hc5] at hr
      refine W.iloadN (q := 37) X0 C d4_36 rfl rfl ?_
      exact W.retI X0 C e0 d4_37 (by decide) (by decide) ⟨by rw [Option.some.inj hr], N0, rfl⟩
    · replace hc5 : (own_g 0 ls i) ≠ 0 := hc5
      refine W.aloadN (q := 19) X0 C d4_18 rfl rfl rfl ?_
      refine W.iloadN (q := 20) X0 C d4_19 rfl rfl ?_
      refine W.iaload (q := 21) X0 C e0 V0 hin.1 hin.2 (own_get ls i) d4_20 rfl ?_
      refine W.iloadN (q := 22) X0 C d4_21 rfl rfl ?_
      refine W.iconst (q := 23) (v := 1) X0 C d4_22 rfl rfl ?_
      refine W.iadd (q := 24) X0 C d4_23 rfl ?_
      refine W.icmp (q := 36) (q' := 27) X0 C d4_24 (by decide) (by decide) rfl (fun hc6 => ?_) (fun hc6 => ?_)
      · replace hc6 : (own_g 0 ls i) = (p1 + (1 : Int32)) := hc6
        rw [own_findS, if_neg hc5, if_pos hc6] at hr
        refine W.iloadN (q := 37) X0 C d4_36 rfl rfl ?_
        exact W.retI X0 C e0 d4_37 (by decide) (by decide) ⟨by rw [Option.some.inj hr], N0, rfl⟩
      · replace hc6 : (own_g 0 ls i) ≠ (p1 + (1 : Int32)) := hc6
        rw [own_findS, if_neg hc5, if_neg hc6] at hr
        refine W.iloadN (q := 28) X0 C d4_27 rfl rfl ?_
        refine W.iconst (q := 29) (v := 1) X0 C d4_28 rfl rfl ?_
        refine W.iadd (q := 30) X0 C d4_29 rfl ?_
        refine W.iloadN (q := 31) X0 C d4_30 rfl rfl ?_
        refine W.iand (q := 32) X0 C d4_31 rfl ?_
        refine W.istoreN (q := 33) (L' := #[.val (.ref p0), .val (.int p1), .val (.int (n - (1 : Int32))), .val (.int ((i + (1 : Int32)) &&& (n - (1 : Int32))))]) X0 C d4_32 rfl rfl ?_
        refine W.goto (q := 12) X0 C d4_33 (by decide) (by decide) ?_
        exact ih _ T0 _ X0 e0 N0 (own_and hok.1 _) hr
theorem d4_0 : decode prog_88_method_17_code 0 = .ok (.aload_n 0, 1) := by decide +kernel
theorem d4_1 : decode prog_88_method_17_code 1 = .ok (.arraylength, 1) := by decide +kernel
theorem d4_2 : decode prog_88_method_17_code 2 = .ok (.iconst 1, 1) := by decide +kernel
theorem d4_3 : decode prog_88_method_17_code 3 = .ok (.isub, 1) := by decide +kernel
theorem d4_4 : decode prog_88_method_17_code 4 = .ok (.istore_n 2, 1) := by decide +kernel
theorem d4_5 : decode prog_88_method_17_code 5 = .ok (.iload_n 1, 1) := by decide +kernel
theorem d4_6 : decode prog_88_method_17_code 6 = .ok (.aload_n 0, 1) := by decide +kernel
theorem d4_7 : decode prog_88_method_17_code 7 = .ok (.arraylength, 1) := by decide +kernel
theorem d4_8 : decode prog_88_method_17_code 8 = .ok (.invokestatic 45, 3) := by decide +kernel
theorem pd__28II_29I : parseMethodDescriptor "(II)I" = some ⟨[.int, .int], some .int⟩ := by decide +kernel
theorem d4_11 : decode prog_88_method_17_code 11 = .ok (.istore_n 3, 1) := by decide +kernel
def Q4 (Z : State) (p0 : Addr) (p1 : Int32) (k0 : ClassId) (n : Int32) (ls : List Int32) (r : Int32) (h0 : Heap) (n0 : Nat) (v : Option Value) (h : Heap) (L : List Loc) : Prop := v = some (.int r) ∧ Fr n0 L ∧ h = h0
set_option maxRecDepth 65536 in
set_option maxHeartbeats 40000000 in
theorem rm4 (l : Launch) (Z : State) (a0 : Array Value) (hw : ∀ d ∈ tables_1, d.before a0 Z = true) (ws : List Jvm.Cond) (p0 : Addr) (p1 : Int32) (k0 : ClassId) (n : Int32) (ls : List Int32) (r : Int32) (h0 : Heap) (n0 : Nat) (V0 : Arv Z h0 p0 k0 .int n (own_vs ls) (.int (0 : Int32))) (hok : own_ok n ls) (hr : own_find 0 (n - 1) ls (p1 + 1) 9 (own_hx p1 &&& (n - 1)) = some r) :
    MetFree l (⟨"com/example/nomina/nomina/tableau/IntSet", "find", "([II)I"⟩ : MethodName) (head1 (Jvm.Cond.code (⟨"com/example/nomina/nomina/tableau/IntSet", "find", "([II)I"⟩ : MethodName) prog_88_method_17_code 4 (some .int) :: ws) ({ frames := 1, cells := 0, slots := 0, locals := 24 } : Room)) (fun a U => a = #[(.ref p0), (.int p1)] ∧ Z.Warmed39 U.vm ∧ U.heap = h0) (fun _ _ _ _ _ => True) (fun _ U o U' => ∃ v L, o = .returned v ∧ Q4 Z p0 p1 k0 n ls r h0 n0 v U'.heap L ∧ FrameEnd U o U' L ({ frames := 1, cells := 0, slots := 0, locals := 24 } : Room).cells ({ frames := 1, cells := 0, slots := 0, locals := 24 } : Room).slots) := by
  refine W.bodyOf (y := (⟨"com/example/nomina/nomina/tableau/IntSet", "find", "([II)I"⟩ : MethodName)) (as := #[(.ref p0), (.int p1)]) (maxL := 4) (Q := Q4 Z p0 p1 k0 n ls r h0 n0) (Ls := #[.val (.ref p0), .val (.int p1), .unset, .unset]) (plainFor_of_name pn_com_example_nomina_nomina_tableau_IntSet) (fun m => by first | rfl | (simp [entryFrame, mkF, argsToLocals, Value.category]; done)) ?_
  intro p e s m below meth c T0 C X0 e0
  have N0 := Fr.nil n0
  refine W.aloadN (q := 1) X0 C d4_0 rfl rfl rfl ?_
  refine W.arraylength (q := 2) X0 C e0 V0 d4_1 rfl ?_
  refine W.iconst (q := 3) (v := 1) X0 C d4_2 rfl rfl ?_
  refine W.isub (q := 4) X0 C d4_3 rfl ?_
  refine W.istoreN (q := 5) (L' := #[.val (.ref p0), .val (.int p1), .val (.int (n - (1 : Int32))), .unset]) X0 C d4_4 rfl rfl ?_
  refine W.iloadN (q := 6) X0 C d4_5 rfl rfl ?_
  refine W.aloadN (q := 7) X0 C d4_6 rfl rfl rfl ?_
  refine W.arraylength (q := 8) X0 C e0 V0 d4_7 rfl ?_
  refine W.callS (q := 11) X0 C (W.ww hw 26 rfl) (W.ww hw 27 rfl) (W.ww hw 3 rfl) (W.ww hw 28 rfl) (by decide) (rm5 l Z a0 hw [] p1 n h0 n0) e0 d4_8 [(.int p1), (.int n)] [] rfl rfl pd__28II_29I rfl rfl (by decide) (Nat.le_of_ble_eq_true rfl) (by decide) (by decide) rfl (fun T7 w7 L7 X7 hQ7 => ?_)
  obtain ⟨rfl, NL7, e7⟩ := hQ7
  have N7 := Fr.app N0 NL7
  show W.Go p e below _ (T7.setTop (mkF m 11 #[.val (.ref p0), .val (.int p1), .val (.int (n - (1 : Int32))), .unset] [(.int (own_hx p1 &&& (n - (1 : Int32))))]))
  refine W.istoreN (q := 12) (L' := #[.val (.ref p0), .val (.int p1), .val (.int (n - (1 : Int32))), .val (.int (own_hx p1 &&& (n - (1 : Int32))))]) X7 C d4_11 rfl rfl ?_
  exact own_floop l Z n0 h0 p0 k0 p1 n ls r V0 hok C 9 _ T7 _ X7 e7 N7 (own_and hok.1 _) hr
theorem d7_0 : decode prog_79_method_3_code 0 = .ok (.aload_n 0, 1) := by decide +kernel
theorem d7_1 : decode prog_79_method_3_code 1 = .ok (.getfield 7, 3) := by decide +kernel
theorem d7_4 : decode prog_79_method_3_code 4 = .ok (.arraylength, 1) := by decide +kernel
theorem d7_5 : decode prog_79_method_3_code 5 = .ok (.ifCond .ne 7, 3) := by decide +kernel
theorem d7_8 : decode prog_79_method_3_code 8 = .ok (.iconst 1, 1) := by decide +kernel
theorem d7_9 : decode prog_79_method_3_code 9 = .ok (.goto 4, 3) := by decide +kernel
theorem d7_13 : decode prog_79_method_3_code 13 = .ok (.ireturn, 1) := by decide +kernel
theorem pn_com_example_nomina_nomina_tableau_Dependencies : plainName "com/example/nomina/nomina/tableau/Dependencies" = true := by first | (simp [plainName, overriddenIn]; done) | decide +kernel
def Q7 (Z : State) (p0 lv : Addr) (kv : ClassId) (vn : List Value) (h0 : Heap) (n0 : Nat) (v : Option Value) (h : Heap) (L : List Loc) : Prop := v = some (.int 1) ∧ Fr n0 L ∧ h = h0
set_option maxRecDepth 65536 in
set_option maxHeartbeats 40000000 in
theorem rm7 (l : Launch) (Z : State) (a0 : Array Value) (hw : ∀ d ∈ tables_1, d.before a0 Z = true) (ws : List Jvm.Cond) (p0 lv : Addr) (kv : ClassId) (vn : List Value) (h0 : Heap) (n0 : Nat) (FN : Fld Z h0 p0 "com/example/nomina/nomina/tableau/Dependencies" "levels" "[I" (.ref lv)) (VN : Arv Z h0 lv kv .int (0 : Int32) vn (.int (0 : Int32))) :
    MetFree l (⟨"com/example/nomina/nomina/tableau/Dependencies", "isEmpty", "()Z"⟩ : MethodName) (head1 (Jvm.Cond.code (⟨"com/example/nomina/nomina/tableau/Dependencies", "isEmpty", "()Z"⟩ : MethodName) prog_79_method_3_code 1 (some .boolean) :: ws) ({ frames := 0, cells := 0, slots := 0, locals := 0 } : Room)) (fun a U => a = #[(.ref p0)] ∧ Z.Warmed39 U.vm ∧ U.heap = h0) (fun _ _ _ _ _ => True) (fun _ U o U' => ∃ v L, o = .returned v ∧ Q7 Z p0 lv kv vn h0 n0 v U'.heap L ∧ FrameEnd U o U' L ({ frames := 0, cells := 0, slots := 0, locals := 0 } : Room).cells ({ frames := 0, cells := 0, slots := 0, locals := 0 } : Room).slots) := by
  refine W.bodyOf (y := (⟨"com/example/nomina/nomina/tableau/Dependencies", "isEmpty", "()Z"⟩ : MethodName)) (as := #[(.ref p0)]) (maxL := 1) (Q := Q7 Z p0 lv kv vn h0 n0) (Ls := #[.val (.ref p0)]) (plainFor_of_name pn_com_example_nomina_nomina_tableau_Dependencies) (fun m => by first | rfl | (simp [entryFrame, mkF, argsToLocals, Value.category]; done)) ?_
  intro p e s m below meth c T0 C X0 e0
  have N0 := Fr.nil n0
  refine W.aloadN (q := 1) X0 C d7_0 rfl rfl rfl ?_
  refine W.getF (host := "") (q := 4) X0 C (Or.inl (W.ww hw 42 rfl)) Via.refl e0 FN d7_1 rfl (fun T8 X8 e8 => ?_)
  refine W.arraylength (q := 5) X8 C e8 VN d7_4 rfl ?_
  refine W.ifF (q := 8) X8 C d7_5 rfl (by decide : W.cF .ne (0 : Int32) 0) ?_
  refine W.iconst (q := 9) (v := 1) X8 C d7_8 rfl rfl ?_
  refine W.goto (q := 13) X8 C d7_9 (by decide) (by decide) ?_
  exact W.retN X8 C (by simp) e8 d7_13 rfl (by decide) (by decide) ⟨rfl, N0, rfl⟩
theorem d12_0 : decode prog_88_method_16_code 0 = .ok (.aload_n 0, 1) := by decide +kernel
theorem d12_1 : decode prog_88_method_16_code 1 = .ok (.getfield 7, 3) := by decide +kernel
theorem d12_4 : decode prog_88_method_16_code 4 = .ok (.iload_n 1, 1) := by decide +kernel
theorem d12_5 : decode prog_88_method_16_code 5 = .ok (.iconst 0, 1) := by decide +kernel
theorem d12_6 : decode prog_88_method_16_code 6 = .ok (.iastore, 1) := by decide +kernel
theorem d12_7 : decode prog_88_method_16_code 7 = .ok (.aload_n 0, 1) := by decide +kernel
theorem d12_8 : decode prog_88_method_16_code 8 = .ok (.getfield 38, 3) := by decide +kernel
theorem d12_11 : decode prog_88_method_16_code 11 = .ok (.ifnull 10, 3) := by decide +kernel
theorem d12_21 : decode prog_88_method_16_code 21 = .ok (.return_, 1) := by decide +kernel
def Q12 (Z : State) (p0 : Addr) (p1 : Int32) (bs : Addr) (ks : ClassId) (n : Int32) (ls : List Int32) (sz hs : Int32) (h0 : Heap) (n0 : Nat) (v : Option Value) (h : Heap) (L : List Loc) : Prop := v = none ∧ Fr n0 L ∧ own_set Z n0 h p0 bs ks n (own_s ls p1 0) sz hs
set_option maxRecDepth 65536 in
set_option maxHeartbeats 40000000 in
theorem rm12 (l : Launch) (Z : State) (a0 : Array Value) (hw : ∀ d ∈ tables_1, d.before a0 Z = true) (ws : List Jvm.Cond) (p0 : Addr) (p1 : Int32) (bs : Addr) (ks : ClassId) (n : Int32) (ls : List Int32) (sz hs : Int32) (h0 : Heap) (n0 : Nat) (HS : own_set Z n0 h0 p0 bs ks n ls sz hs) (hin : own_in n p1) :
    MetFree l (⟨"com/example/nomina/nomina/tableau/IntSet", "clear", "(I)V"⟩ : MethodName) (head1 (Jvm.Cond.code (⟨"com/example/nomina/nomina/tableau/IntSet", "clear", "(I)V"⟩ : MethodName) prog_88_method_16_code 2 none :: ws) ({ frames := 0, cells := 0, slots := 0, locals := 0 } : Room)) (fun a U => a = #[(.ref p0), (.int p1)] ∧ Z.Warmed39 U.vm ∧ U.heap = h0) (fun _ _ _ _ _ => True) (fun _ U o U' => ∃ v L, o = .returned v ∧ Q12 Z p0 p1 bs ks n ls sz hs h0 n0 v U'.heap L ∧ FrameEnd U o U' L ({ frames := 0, cells := 0, slots := 0, locals := 0 } : Room).cells ({ frames := 0, cells := 0, slots := 0, locals := 0 } : Room).slots) := by
  refine W.bodyOf (y := (⟨"com/example/nomina/nomina/tableau/IntSet", "clear", "(I)V"⟩ : MethodName)) (as := #[(.ref p0), (.int p1)]) (maxL := 2) (Q := Q12 Z p0 p1 bs ks n ls sz hs h0 n0) (Ls := #[.val (.ref p0), .val (.int p1)]) (plainFor_of_name pn_com_example_nomina_nomina_tableau_IntSet) (fun m => by first | rfl | (simp [entryFrame, mkF, argsToLocals, Value.category]; done)) ?_
  intro p e s m below meth c T0 C X0 e0
  have N0 := Fr.nil n0
  obtain ⟨ge0_9, geb_9, neb_9, Z_9, O9, E9, Fs9, Fz9, Fh9, Fd9, V9_, ok9⟩ := HS
  refine W.aloadN (q := 1) X0 C d12_0 rfl rfl rfl ?_
  refine W.getF (host := "") (q := 4) X0 C (Or.inl (W.ww hw 11 rfl)) Via.refl e0 Fs9 d12_1 rfl (fun T10 X10 e10 => ?_)
  refine W.iloadN (q := 5) X10 C d12_4 rfl rfl ?_
  refine W.iconst (q := 6) (v := 0) X10 C d12_5 rfl rfl ?_
  refine W.iastore (q := 7) X10 C e10 V9_  hin.1 hin.2 (own_len ok9 hin) d12_6 rfl (fun T11 h11 X11 e11 W11 V11_ => ?_)
  have O9_13 := O9.wr W11 geb_9
  have E9_14 := E9.wr W11
  have Fs9_15 := Fs9.other W11 (Or.inl neb_9)
  have Fz9_16 := Fz9.other W11 (Or.inl neb_9)
  have Fh9_17 := Fh9.other W11 (Or.inl neb_9)
  have Fd9_18 := Fd9.other W11 (Or.inl neb_9)
  have N11 := Fr.snoc X11 N0 geb_9
  have n0_11 : n0 ≤ h11.size := by rw [W11.size]; exact Z_9
  rw [own_setv] at V11_
  have ok20 : own_ok n (own_s ls p1 (0 : Int32)) := own_s_ok ok9
  refine W.aloadN (q := 8) X11 C d12_7 rfl rfl rfl ?_
  refine W.getF (host := "") (q := 11) X11 C (Or.inl (W.ww hw 48 rfl)) Via.refl e11 Fd9_18 d12_8 rfl (fun T21 X21 e21 => ?_)
  refine W.ifnullT (q := 21) X21 C d12_11 (by decide) (by decide) ?_
  exact W.retV X21 C e21 d12_21 (by decide) (by decide) ⟨rfl, N11, ⟨ge0_9, geb_9, neb_9, n0_11, O9_13, E9_14, Fs9_15, Fz9_16, Fh9_17, Fd9_18, V11_, ok20⟩⟩
theorem d8_24 : decode prog_88_method_15_code 24 = .ok (.iload 4, 2) := by decide +kernel
theorem d8_26 : decode prog_88_method_15_code 26 = .ok (.aload_n 0, 1) := by decide +kernel
theorem d8_27 : decode prog_88_method_15_code 27 = .ok (.getfield 7, 3) := by decide +kernel
theorem d8_30 : decode prog_88_method_15_code 30 = .ok (.arraylength, 1) := by decide +kernel
theorem d8_31 : decode prog_88_method_15_code 31 = .ok (.if_icmp .ge 60, 3) := by decide +kernel
theorem d8_91 : decode prog_88_method_15_code 91 = .ok (.aload_n 0, 1) := by decide +kernel
theorem d8_92 : decode prog_88_method_15_code 92 = .ok (.aload_n 2, 1) := by decide +kernel
theorem d8_93 : decode prog_88_method_15_code 93 = .ok (.putfield 7, 3) := by decide +kernel
theorem d8_96 : decode prog_88_method_15_code 96 = .ok (.aload_n 0, 1) := by decide +kernel
theorem d8_97 : decode prog_88_method_15_code 97 = .ok (.aload_n 3, 1) := by decide +kernel
theorem d8_98 : decode prog_88_method_15_code 98 = .ok (.putfield 38, 3) := by decide +kernel
theorem d8_101 : decode prog_88_method_15_code 101 = .ok (.return_, 1) := by decide +kernel
theorem d8_34 : decode prog_88_method_15_code 34 = .ok (.aload_n 0, 1) := by decide +kernel
theorem d8_35 : decode prog_88_method_15_code 35 = .ok (.getfield 7, 3) := by decide +kernel
theorem d8_38 : decode prog_88_method_15_code 38 = .ok (.iload 4, 2) := by decide +kernel
theorem d8_40 : decode prog_88_method_15_code 40 = .ok (.iaload, 1) := by decide +kernel
theorem d8_41 : decode prog_88_method_15_code 41 = .ok (.ifCond .eq 44, 3) := by decide +kernel
theorem d8_85 : decode prog_88_method_15_code 85 = .ok (.iinc 4 1, 3) := by decide +kernel
theorem d8_88 : decode prog_88_method_15_code 88 = .ok (.goto (-64), 3) := by decide +kernel
theorem d8_44 : decode prog_88_method_15_code 44 = .ok (.aload_n 2, 1) := by decide +kernel
theorem d8_45 : decode prog_88_method_15_code 45 = .ok (.aload_n 0, 1) := by decide +kernel
theorem d8_46 : decode prog_88_method_15_code 46 = .ok (.getfield 7, 3) := by decide +kernel
theorem d8_49 : decode prog_88_method_15_code 49 = .ok (.iload 4, 2) := by decide +kernel
theorem d8_51 : decode prog_88_method_15_code 51 = .ok (.iaload, 1) := by decide +kernel
theorem d8_52 : decode prog_88_method_15_code 52 = .ok (.iconst 1, 1) := by decide +kernel
theorem d8_53 : decode prog_88_method_15_code 53 = .ok (.isub, 1) := by decide +kernel
theorem d8_54 : decode prog_88_method_15_code 54 = .ok (.invokestatic 21, 3) := by decide +kernel
theorem pd__28_5bII_29I : parseMethodDescriptor "([II)I" = some ⟨[(.array .int), .int], some .int⟩ := by decide +kernel
theorem d8_57 : decode prog_88_method_15_code 57 = .ok (.istore 5, 2) := by decide +kernel
theorem d8_59 : decode prog_88_method_15_code 59 = .ok (.aload_n 2, 1) := by decide +kernel
theorem d8_60 : decode prog_88_method_15_code 60 = .ok (.iload 5, 2) := by decide +kernel
theorem d8_62 : decode prog_88_method_15_code 62 = .ok (.aload_n 0, 1) := by decide +kernel
theorem d8_63 : decode prog_88_method_15_code 63 = .ok (.getfield 7, 3) := by decide +kernel
theorem d8_66 : decode prog_88_method_15_code 66 = .ok (.iload 4, 2) := by decide +kernel
theorem d8_68 : decode prog_88_method_15_code 68 = .ok (.iaload, 1) := by decide +kernel
theorem d8_69 : decode prog_88_method_15_code 69 = .ok (.iastore, 1) := by decide +kernel
theorem d8_70 : decode prog_88_method_15_code 70 = .ok (.aload_n 3, 1) := by decide +kernel
theorem d8_71 : decode prog_88_method_15_code 71 = .ok (.ifnull 14, 3) := by decide +kernel
set_option maxRecDepth 65536 in
set_option maxHeartbeats 40000000 in
theorem own_gloop (l : Launch) (Z : State) (a0 : Array Value) (hw : ∀ d ∈ tables_1, d.before a0 Z = true) (n0 : Nat) (p0 bs bn : Addr) (ks kn : ClassId) (ls lr : List Int32) (sz hs : Int32) (hge : n0 ≤ bn) (ne1 : p0 ≠ bn) (ne2 : bs ≠ bn) {p : Program} {e : Env} {s : State} {m : MethodId} {args : Array Value} {below : List Frame} {meth : Method} {c : Code} (C : W.Cx p s m meth c Z prog_88_method_15_code 6 "com/example/nomina/nomina/tableau/IntSet" "growTo" none) :
    ∀ (fuel : Nat) (h0 : Heap) (i : Int32) (nw : List Int32) (s5 : Slot) (T0 : State) (locs : List Loc), Stand p l e ({ frames := 2, cells := 1, slots := 8, locals := 48 } : Room) s m args below meth c T0 locs 1 8 → T0.heap = h0 → Fr n0 locs → own_set Z n0 h0 p0 bs ks (4 : Int32) ls sz hs → Arv Z h0 bn kn .int (8 : Int32) (own_vs nw) (.int (0 : Int32)) → own_ok (8 : Int32) nw → 0 ≤ i.toInt → One s5 → own_grow 0 own_hm ls fuel i nw = some lr →
    W.Go p e below (W.Post s (fun v h L => v = none ∧ Fr n0 L ∧ ∃ bn kn, own_set Z n0 h p0 bn kn (8 : Int32) lr sz hs) 1 8) (T0.setTop (mkF m 24 #[.val (.ref p0), .val (.int (8 : Int32)), .val (.ref bn), .val .null, .val (.int i), s5] [])) := by
  intro fuel
  induction fuel with
  | zero =>
    intro _ _ _ _ _ _ _ _ _ _ _ _ _ _ hr
    rw [own_grow0] at hr; cases hr
  | succ k ih =>
    intro h0 i nw s5 T0 locs X0 e0 N0 HS VB okn hi h5 hr
    obtain ⟨ge0_22, geb_22, neb_22, Z_22, O22, E22, Fs22, Fz22, Fh22, Fd22, V22_, ok22⟩ := HS
    refine W.iload (q := 26) X0 C d8_24 rfl rfl ?_
    refine W.aloadN (q := 27) X0 C d8_26 rfl rfl rfl ?_
    refine W.getF (host := "") (q := 30) X0 C (Or.inl (W.ww hw 11 rfl)) Via.refl e0 Fs22 d8_27 rfl (fun T23 X23 e23 => ?_)
    refine W.arraylength (q := 31) X23 C e23 V22_ d8_30 rfl ?_
    refine W.icmp (q := 91) (q' := 34) X23 C d8_31 (by decide) (by decide) rfl (fun hc24 => ?_) (fun hc24 => ?_)
    · replace hc24 : (4 : Int32).toInt ≤ i.toInt := hc24
      rw [own_growS, if_pos hc24] at hr
      have elr := Option.some.inj hr
      subst elr
      refine W.aloadN (q := 92) X23 C d8_91 rfl rfl rfl ?_
      refine W.aloadN (q := 93) X23 C d8_92 rfl rfl rfl ?_
      refine W.putF (host := "") (q := 96) X23 C (Or.inl (W.ww hw 11 rfl)) Via.refl e23 Fs22 E22 (Or.inl (W.ww hw 12 rfl)) (W.ww hw 2 rfl) (ty := (.array .int)) (by decide) rfl rfl d8_93 rfl (fun T25 h25 X25 e25 W25 => ?_)
      have Fw25 := Fs22.same W25
      have O22_27 := O22.wr W25 ge0_22
      have E22_28 := E22.wr W25
      have Fz22_30 := Fz22.other W25 (Or.inr (slot_ne (Or.inl (W.ww hw 22 rfl)) (Or.inl (W.ww hw 12 rfl)) (by decide) (t := .int) (t' := (.array .int)) (by decide) (by decide)))
      have Fh22_31 := Fh22.other W25 (Or.inr (slot_ne (Or.inl (W.ww hw 31 rfl)) (Or.inl (W.ww hw 12 rfl)) (by decide) (t := .int) (t' := (.array .int)) (by decide) (by decide)))
      have Fd22_32 := Fd22.other W25 (Or.inr (slot_ne (Or.inl (W.ww hw 49 rfl)) (Or.inl (W.ww hw 12 rfl)) (by decide) (t := (.array (.object "com/example/nomina/nomina/tableau/Dependencies"))) (t' := (.array .int)) (by decide) (by decide)))
      have V22__33 := V22_.other W25 (Ne.symm neb_22)
      have VB_34 := VB.other W25 (Ne.symm ne1)
      have N25 := Fr.snoc X25 N0 ge0_22
      have n0_25 : n0 ≤ h25.size := by rw [W25.size]; exact Z_22
      refine W.aloadN (q := 97) X25 C d8_96 rfl rfl rfl ?_
      refine W.aloadN (q := 98) X25 C d8_97 rfl rfl rfl ?_
      refine W.putF (host := "") (q := 101) X25 C (Or.inl (W.ww hw 48 rfl)) Via.refl e25 Fd22_32 E22_28 (Or.inl (W.ww hw 49 rfl)) (W.ww hw 2 rfl) (ty := (.array (.object "com/example/nomina/nomina/tableau/Dependencies"))) (by decide) rfl rfl d8_98 rfl (fun T35 h35 X35 e35 W35 => ?_)
      have Fw35 := Fd22_32.same W35
      have O22_37 := O22_27.wr W35 ge0_22
      have E22_38 := E22_28.wr W35
      have Fw25_39 := Fw25.other W35 (Or.inr (slot_ne (Or.inl (W.ww hw 12 rfl)) (Or.inl (W.ww hw 49 rfl)) (by decide) (t := (.array .int)) (t' := (.array (.object "com/example/nomina/nomina/tableau/Dependencies"))) (by decide) (by decide)))
      have Fz22_40 := Fz22_30.other W35 (Or.inr (slot_ne (Or.inl (W.ww hw 22 rfl)) (Or.inl (W.ww hw 49 rfl)) (by decide) (t := .int) (t' := (.array (.object "com/example/nomina/nomina/tableau/Dependencies"))) (by decide) (by decide)))
      have Fh22_41 := Fh22_31.other W35 (Or.inr (slot_ne (Or.inl (W.ww hw 31 rfl)) (Or.inl (W.ww hw 49 rfl)) (by decide) (t := .int) (t' := (.array (.object "com/example/nomina/nomina/tableau/Dependencies"))) (by decide) (by decide)))
      have V22__43 := V22__33.other W35 (Ne.symm neb_22)
      have VB_44 := VB_34.other W35 (Ne.symm ne1)
      have N35 := Fr.snoc X35 N25 ge0_22
      have n0_35 : n0 ≤ h35.size := by rw [W35.size]; exact n0_25
      exact W.retV X35 C e35 d8_101 (by decide) (by decide) ⟨rfl, N35, bn, kn, ⟨ge0_22, hge, ne1, n0_35, O22_37, E22_38, Fw25_39, Fz22_40, Fh22_41, Fw35, VB_44, okn⟩⟩
    · replace hc24 : i.toInt < (4 : Int32).toInt := hc24
      refine W.aloadN (q := 35) X23 C d8_34 rfl rfl rfl ?_
      refine W.getF (host := "") (q := 38) X23 C (Or.inl (W.ww hw 11 rfl)) Via.refl e23 Fs22 d8_35 rfl (fun T45 X45 e45 => ?_)
      refine W.iload (q := 40) X45 C d8_38 rfl rfl ?_
      refine W.iaload (q := 41) X45 C e45 V22_ (⟨hi, hc24⟩ : own_in (4 : Int32) i).1 (⟨hi, hc24⟩ : own_in (4 : Int32) i).2 (own_get ls i) d8_40 rfl ?_
      refine W.if_ (q := 85) (q' := 44) X45 C d8_41 (by decide) (by decide) rfl (fun hc46 => ?_) (fun hc46 => ?_)
      · replace hc46 : (own_g 0 ls i) = 0 := hc46
        rw [own_growS, if_neg (Int.not_le.mpr hc24), if_pos hc46] at hr
        refine W.iinc (q := 88) (L' := #[.val (.ref p0), .val (.int (8 : Int32)), .val (.ref bn), .val .null, .val (.int (i + (1 : Int32))), s5]) X45 C d8_85 rfl rfl rfl rfl ?_
        refine W.goto (q := 24) X45 C d8_88 (by decide) (by decide) ?_
        exact ih h0 _ nw _ T45 _ X45 e45 N0 ⟨ge0_22, geb_22, neb_22, Z_22, O22, E22, Fs22, Fz22, Fh22, Fd22, V22_, ok22⟩ VB okn (own_inc hi hc24) h5 hr
      · replace hc46 : (own_g 0 ls i) ≠ 0 := hc46
        rw [own_growS, if_neg (Int.not_le.mpr hc24), if_neg hc46] at hr
        obtain ⟨j, hfd, hr⟩ := own_bindE hr
        refine W.aloadN (q := 45) X45 C d8_44 rfl rfl rfl ?_
        refine W.aloadN (q := 46) X45 C d8_45 rfl rfl rfl ?_
        refine W.getF (host := "") (q := 49) X45 C (Or.inl (W.ww hw 11 rfl)) Via.refl e45 Fs22 d8_46 rfl (fun T47 X47 e47 => ?_)
        refine W.iload (q := 51) X47 C d8_49 rfl rfl ?_
        refine W.iaload (q := 52) X47 C e47 V22_ (⟨hi, hc24⟩ : own_in (4 : Int32) i).1 (⟨hi, hc24⟩ : own_in (4 : Int32) i).2 (own_get ls i) d8_51 rfl ?_
        refine W.iconst (q := 53) (v := 1) X47 C d8_52 rfl rfl ?_
        refine W.isub (q := 54) X47 C d8_53 rfl ?_
        refine W.callS (q := 57) X47 C (W.ww hw 23 rfl) (W.ww hw 24 rfl) (W.ww hw 3 rfl) (W.ww hw 25 rfl) (by decide) (rm4 l Z a0 hw [] bn ((own_g 0 ls i) - (1 : Int32)) kn (8 : Int32) nw j h0 n0 VB okn (own_fd2 hfd)) e47 d8_54 [(.ref bn), (.int ((own_g 0 ls i) - (1 : Int32)))] [] rfl rfl pd__28_5bII_29I rfl rfl (by decide) (Nat.le_of_ble_eq_true rfl) (by decide) (by decide) rfl (fun T48 w48 L48 X48 hQ48 => ?_)
        obtain ⟨rfl, NL48, e48⟩ := hQ48
        have N48 := Fr.app N0 NL48
        show W.Go p e below _ (T48.setTop (mkF m 57 #[.val (.ref p0), .val (.int (8 : Int32)), .val (.ref bn), .val .null, .val (.int i), s5] [(.int j)]))
        refine W.istore (q := 59) (L' := #[.val (.ref p0), .val (.int (8 : Int32)), .val (.ref bn), .val .null, .val (.int i), .val (.int j)]) X48 C d8_57 (Jvm.Free.XS.store1 rfl h5 rfl) rfl ?_
        refine W.aloadN (q := 60) X48 C d8_59 rfl rfl rfl ?_
        refine W.iload (q := 62) X48 C d8_60 rfl rfl ?_
        refine W.aloadN (q := 63) X48 C d8_62 rfl rfl rfl ?_
        refine W.getF (host := "") (q := 66) X48 C (Or.inl (W.ww hw 11 rfl)) Via.refl e48 Fs22 d8_63 rfl (fun T49 X49 e49 => ?_)
        refine W.iload (q := 68) X49 C d8_66 rfl rfl ?_
        refine W.iaload (q := 69) X49 C e49 V22_ (⟨hi, hc24⟩ : own_in (4 : Int32) i).1 (⟨hi, hc24⟩ : own_in (4 : Int32) i).2 (own_get ls i) d8_68 rfl ?_
        refine W.iastore (q := 70) X49 C e49 VB  (own_fdin (Or.inr rfl) hfd).1 (own_fdin (Or.inr rfl) hfd).2 (own_len okn (own_fdin (Or.inr rfl) hfd)) d8_69 rfl (fun T50 h50 X50 e50 W50 V50_ => ?_)
        have O22_52 := O22.wr W50 hge
        have E22_53 := E22.wr W50
        have Fs22_54 := Fs22.other W50 (Or.inl ne1)
        have Fz22_55 := Fz22.other W50 (Or.inl ne1)
        have Fh22_56 := Fh22.other W50 (Or.inl ne1)
        have Fd22_57 := Fd22.other W50 (Or.inl ne1)
        have V22__58 := V22_.other W50 ne2
        have N50 := Fr.snoc X50 N48 hge
        have n0_50 : n0 ≤ h50.size := by rw [W50.size]; exact Z_22
        rw [own_setv] at V50_
        have ok60 : own_ok (8 : Int32) (own_s nw j (own_g 0 ls i)) := own_s_ok okn
        refine W.aloadN (q := 71) X50 C d8_70 rfl rfl rfl ?_
        refine W.ifnullT (q := 85) X50 C d8_71 (by decide) (by decide) ?_
        refine W.iinc (q := 88) (L' := #[.val (.ref p0), .val (.int (8 : Int32)), .val (.ref bn), .val .null, .val (.int (i + (1 : Int32))), .val (.int j)]) X50 C d8_85 rfl rfl rfl rfl ?_
        refine W.goto (q := 24) X50 C d8_88 (by decide) (by decide) ?_
        exact ih h50 _ (own_s nw j (own_g 0 ls i)) _ T50 _ X50 e50 N50 ⟨ge0_22, geb_22, neb_22, n0_50, O22_52, E22_53, Fs22_54, Fz22_55, Fh22_56, Fd22_57, V22__58, ok22⟩ V50_ ok60 (own_inc hi hc24) (One.val rfl) hr
theorem d8_0 : decode prog_88_method_15_code 0 = .ok (.iload_n 1, 1) := by decide +kernel
theorem d8_1 : decode prog_88_method_15_code 1 = .ok (.newarray .int, 2) := by decide +kernel
theorem d8_3 : decode prog_88_method_15_code 3 = .ok (.astore_n 2, 1) := by decide +kernel
theorem d8_4 : decode prog_88_method_15_code 4 = .ok (.aload_n 0, 1) := by decide +kernel
theorem d8_5 : decode prog_88_method_15_code 5 = .ok (.getfield 38, 3) := by decide +kernel
theorem d8_8 : decode prog_88_method_15_code 8 = .ok (.ifnonnull 7, 3) := by decide +kernel
theorem d8_11 : decode prog_88_method_15_code 11 = .ok (.aconst_null, 1) := by decide +kernel
theorem d8_12 : decode prog_88_method_15_code 12 = .ok (.goto 8, 3) := by decide +kernel
theorem d8_20 : decode prog_88_method_15_code 20 = .ok (.astore_n 3, 1) := by decide +kernel
theorem d8_21 : decode prog_88_method_15_code 21 = .ok (.iconst 0, 1) := by decide +kernel
theorem d8_22 : decode prog_88_method_15_code 22 = .ok (.istore 4, 2) := by decide +kernel
def Q8 (Z : State) (p0 bs : Addr) (ks : ClassId) (ls lr : List Int32) (sz hs : Int32) (h0 : Heap) (n0 : Nat) (v : Option Value) (h : Heap) (L : List Loc) : Prop := v = none ∧ Fr n0 L ∧ ∃ bn kn, own_set Z n0 h p0 bn kn (8 : Int32) lr sz hs
set_option maxRecDepth 65536 in
set_option maxHeartbeats 40000000 in
theorem rm8 (l : Launch) (Z : State) (a0 : Array Value) (hw : ∀ d ∈ tables_1, d.before a0 Z = true) (ws : List Jvm.Cond) (p0 bs : Addr) (ks : ClassId) (ls lr : List Int32) (sz hs : Int32) (h0 : Heap) (n0 : Nat) (HS : own_set Z n0 h0 p0 bs ks (4 : Int32) ls sz hs) (hr : own_grow 0 own_hm ls 5 0 [0, 0, 0, 0, 0, 0, 0, 0] = some lr) :
    MetFree l (⟨"com/example/nomina/nomina/tableau/IntSet", "growTo", "(I)V"⟩ : MethodName) (head1 (Jvm.Cond.code (⟨"com/example/nomina/nomina/tableau/IntSet", "growTo", "(I)V"⟩ : MethodName) prog_88_method_15_code 6 none :: ws) ({ frames := 2, cells := 1, slots := 8, locals := 48 } : Room)) (fun a U => a = #[(.ref p0), (.int (8 : Int32))] ∧ Z.Warmed39 U.vm ∧ U.heap = h0) (fun _ _ _ _ _ => True) (fun _ U o U' => ∃ v L, o = .returned v ∧ Q8 Z p0 bs ks ls lr sz hs h0 n0 v U'.heap L ∧ FrameEnd U o U' L ({ frames := 2, cells := 1, slots := 8, locals := 48 } : Room).cells ({ frames := 2, cells := 1, slots := 8, locals := 48 } : Room).slots) := by
  refine W.bodyOf (y := (⟨"com/example/nomina/nomina/tableau/IntSet", "growTo", "(I)V"⟩ : MethodName)) (as := #[(.ref p0), (.int (8 : Int32))]) (maxL := 6) (Q := Q8 Z p0 bs ks ls lr sz hs h0 n0) (Ls := #[.val (.ref p0), .val (.int (8 : Int32)), .unset, .unset, .unset, .unset]) (plainFor_of_name pn_com_example_nomina_nomina_tableau_IntSet) (fun m => by first | rfl | (simp [entryFrame, mkF, argsToLocals, Value.category]; done)) ?_
  intro p e s m below meth c T0 C X0 e0
  have N0 := Fr.nil n0
  obtain ⟨ge0_61, geb_61, neb_61, Z_61, O61, E61, Fs61, Fz61, Fh61, Fd61, V61_, ok61⟩ := HS
  refine W.iloadN (q := 1) X0 C d8_0 rfl rfl ?_
  refine W.newarray (q := 3) X0 C (W.ww hw 10 rfl) e0 (by decide) 8 (by decide) (by decide) d8_1 (by decide) (by decide) rfl (fun T62 h62 b62 k62 X62 e62 g62 E62 V62_ => ?_)
  have ne_p0_b62 : p0 ≠ b62 := by rw [g62]; exact Nat.ne_of_lt E61.lt
  have ne_bs_b62 : bs ≠ b62 := by rw [g62]; exact Nat.ne_of_lt V61_.lt
  have ge_b62 : n0 ≤ b62 := by rw [g62]; exact Z_61
  have n0_62 : n0 ≤ h62.size := Nat.le_trans Z_61 E62.1
  have O61_64 := O61.ext E62
  have E61_65 := E61.ext E62
  have Fs61_66 := Fs61.ext E62
  have Fz61_67 := Fz61.ext E62
  have Fh61_68 := Fh61.ext E62
  have Fd61_69 := Fd61.ext E62
  have V61__70 := V61_.ext E62
  have V62 : Arv Z h62 b62 k62 .int (8 : Int32) [(.int (0 : Int32)), (.int (0 : Int32)), (.int (0 : Int32)), (.int (0 : Int32)), (.int (0 : Int32)), (.int (0 : Int32)), (.int (0 : Int32)), (.int (0 : Int32))] (.int (0 : Int32)) := V62_
  refine W.astoreN (q := 4) (L' := #[.val (.ref p0), .val (.int (8 : Int32)), .val (.ref b62), .unset, .unset, .unset]) X62 C d8_3 rfl rfl rfl ?_
  refine W.aloadN (q := 5) X62 C d8_4 rfl rfl rfl ?_
  refine W.getF (host := "") (q := 8) X62 C (Or.inl (W.ww hw 48 rfl)) Via.refl e62 Fd61_69 d8_5 rfl (fun T71 X71 e71 => ?_)
  refine W.ifnonnullF (q := 11) X71 C d8_8 rfl ?_
  refine W.aconst (q := 12) X71 C d8_11 rfl ?_
  refine W.goto (q := 20) X71 C d8_12 (by decide) (by decide) ?_
  refine W.astoreN (q := 21) (L' := #[.val (.ref p0), .val (.int (8 : Int32)), .val (.ref b62), .val .null, .unset, .unset]) X71 C d8_20 rfl rfl rfl ?_
  refine W.iconst (q := 22) (v := 0) X71 C d8_21 rfl rfl ?_
  refine W.istore (q := 24) (L' := #[.val (.ref p0), .val (.int (8 : Int32)), .val (.ref b62), .val .null, .val (.int (0 : Int32)), .unset]) X71 C d8_22 rfl rfl ?_
  have VV : Arv Z h62 b62 k62 .int (8 : Int32) (own_vs [0, 0, 0, 0, 0, 0, 0, 0]) (.int (0 : Int32)) := V62
  exact own_gloop l Z a0 hw n0 p0 bs b62 ks k62 ls lr sz hs ge_b62 ne_p0_b62 ne_bs_b62 C 5 h62 _ _ .unset T71 _ X71 e71 N0 ⟨ge0_61, geb_61, neb_61, n0_62, O61_64, E61_65, Fs61_66, Fz61_67, Fh61_68, Fd61_69, V61__70, ok61⟩ VV ⟨Or.inr rfl, rfl⟩ (by decide) One.u hr
theorem d3_27 : decode prog_88_method_2_code 27 = .ok (.aload_n 0, 1) := by decide +kernel
theorem d3_28 : decode prog_88_method_2_code 28 = .ok (.getfield 7, 3) := by decide +kernel
theorem d3_31 : decode prog_88_method_2_code 31 = .ok (.iload_n 1, 1) := by decide +kernel
theorem d3_32 : decode prog_88_method_2_code 32 = .ok (.invokestatic 21, 3) := by decide +kernel
theorem d3_35 : decode prog_88_method_2_code 35 = .ok (.istore_n 3, 1) := by decide +kernel
theorem d3_36 : decode prog_88_method_2_code 36 = .ok (.aload_n 0, 1) := by decide +kernel
theorem d3_37 : decode prog_88_method_2_code 37 = .ok (.getfield 7, 3) := by decide +kernel
theorem d3_40 : decode prog_88_method_2_code 40 = .ok (.iload_n 3, 1) := by decide +kernel
theorem d3_41 : decode prog_88_method_2_code 41 = .ok (.iaload, 1) := by decide +kernel
theorem d3_42 : decode prog_88_method_2_code 42 = .ok (.ifCond .eq 5, 3) := by decide +kernel
theorem d3_47 : decode prog_88_method_2_code 47 = .ok (.aload_n 0, 1) := by decide +kernel
theorem d3_48 : decode prog_88_method_2_code 48 = .ok (.getfield 7, 3) := by decide +kernel
theorem d3_51 : decode prog_88_method_2_code 51 = .ok (.iload_n 3, 1) := by decide +kernel
theorem d3_52 : decode prog_88_method_2_code 52 = .ok (.iload_n 1, 1) := by decide +kernel
theorem d3_53 : decode prog_88_method_2_code 53 = .ok (.iconst 1, 1) := by decide +kernel
theorem d3_54 : decode prog_88_method_2_code 54 = .ok (.iadd, 1) := by decide +kernel
theorem d3_55 : decode prog_88_method_2_code 55 = .ok (.iastore, 1) := by decide +kernel
theorem d3_56 : decode prog_88_method_2_code 56 = .ok (.aload_n 0, 1) := by decide +kernel
theorem d3_57 : decode prog_88_method_2_code 57 = .ok (.dup, 1) := by decide +kernel
theorem d3_58 : decode prog_88_method_2_code 58 = .ok (.getfield 13, 3) := by decide +kernel
theorem d3_61 : decode prog_88_method_2_code 61 = .ok (.iconst 1, 1) := by decide +kernel
theorem d3_62 : decode prog_88_method_2_code 62 = .ok (.iadd, 1) := by decide +kernel
theorem d3_63 : decode prog_88_method_2_code 63 = .ok (.putfield 13, 3) := by decide +kernel
theorem d3_66 : decode prog_88_method_2_code 66 = .ok (.aload_n 0, 1) := by decide +kernel
theorem d3_67 : decode prog_88_method_2_code 67 = .ok (.dup, 1) := by decide +kernel
theorem d3_68 : decode prog_88_method_2_code 68 = .ok (.getfield 25, 3) := by decide +kernel
theorem d3_71 : decode prog_88_method_2_code 71 = .ok (.iload_n 1, 1) := by decide +kernel
theorem d3_72 : decode prog_88_method_2_code 72 = .ok (.invokestatic 28, 3) := by decide +kernel
theorem pd__28I_29I : parseMethodDescriptor "(I)I" = some ⟨[.int], some .int⟩ := by decide +kernel
theorem d3_75 : decode prog_88_method_2_code 75 = .ok (.iadd, 1) := by decide +kernel
theorem d3_76 : decode prog_88_method_2_code 76 = .ok (.putfield 25, 3) := by decide +kernel
theorem d3_79 : decode prog_88_method_2_code 79 = .ok (.aload_n 2, 1) := by decide +kernel
theorem d3_80 : decode prog_88_method_2_code 80 = .ok (.invokevirtual 32, 3) := by decide +kernel
theorem pd__28_29Z : parseMethodDescriptor "()Z" = some ⟨[], some .boolean⟩ := by decide +kernel
theorem d3_83 : decode prog_88_method_2_code 83 = .ok (.ifCond .ne 29, 3) := by decide +kernel
theorem d3_112 : decode prog_88_method_2_code 112 = .ok (.iconst 1, 1) := by decide +kernel
theorem d3_113 : decode prog_88_method_2_code 113 = .ok (.ireturn, 1) := by decide +kernel
theorem d3_45 : decode prog_88_method_2_code 45 = .ok (.iconst 0, 1) := by decide +kernel
theorem d3_46 : decode prog_88_method_2_code 46 = .ok (.ireturn, 1) := by decide +kernel
set_option maxRecDepth 65536 in
set_option maxHeartbeats 40000000 in
theorem own_insw (l : Launch) (Z : State) (a0 : Array Value) (hw : ∀ d ∈ tables_1, d.before a0 Z = true) (h0 : Heap) (n0 : Nat) (p0 : Addr) (p1 : Int32) (p2 lv : Addr) (kv : ClassId) (vn : List Value) (bs : Addr) (ks : ClassId) (n : Int32) (ls : List Int32) (sz hs : Int32) (n' : Int32) (l' : List Int32) (sz' : Int32) (cc cs : Nat) (hcc : cc ≤ 1) (hcs : cs ≤ 8) {p : Program} {e : Env} {s : State} {m : MethodId} {args : Array Value} {below : List Frame} {meth : Method} {c : Code} {T0 : State} {locs : List Loc}
    (C : W.Cx p s m meth c Z prog_88_method_2_code 4 "com/example/nomina/nomina/tableau/IntSet" "add" (some .boolean)) (X0 : Stand p l e ({ frames := 3, cells := 1, slots := 8, locals := 80 } : Room) s m args below meth c T0 locs cc cs) (e0 : T0.heap = h0) (N0 : Fr n0 locs) (EN : Exa Z Z.heap p2 "com/example/nomina/nomina/tableau/Dependencies") (FN : Fld Z Z.heap p2 "com/example/nomina/nomina/tableau/Dependencies" "levels" "[I" (.ref lv)) (VN : Arv Z Z.heap lv kv .int (0 : Int32) vn (.int (0 : Int32))) (HS : own_set Z n0 h0 p0 bs ks n ls sz hs) (hr : own_ins 0 own_hm n ls sz (p1 + 1) = some (n', l', sz')) :
    W.Go p e below (W.Post s (fun v h L => ∃ w bs ks hs, v = some (.int w) ∧ Fr n0 L ∧ own_set Z n0 h p0 bs ks n' l' sz' hs) ({ frames := 3, cells := 1, slots := 8, locals := 80 } : Room).cells ({ frames := 3, cells := 1, slots := 8, locals := 80 } : Room).slots) (T0.setTop (mkF m 27 #[.val (.ref p0), .val (.int p1), .val (.ref p2), .unset] [])) := by
  obtain ⟨ge0_72, geb_72, neb_72, Z_72, O72, E72, Fs72, Fz72, Fh72, Fd72, V72_, ok72⟩ := HS
  rw [own_ins] at hr
  obtain ⟨j, hfd, hr⟩ := own_bindE hr
  refine W.aloadN (q := 28) X0 C d3_27 rfl rfl rfl ?_
  refine W.getF (host := "") (q := 31) X0 C (Or.inl (W.ww hw 11 rfl)) Via.refl e0 Fs72 d3_28 rfl (fun T73 X73 e73 => ?_)
  refine W.iloadN (q := 32) X73 C d3_31 rfl rfl ?_
  refine W.callS (q := 35) X73 C (W.ww hw 23 rfl) (W.ww hw 24 rfl) (W.ww hw 3 rfl) (W.ww hw 25 rfl) (by decide) (rm4 l Z a0 hw [] bs p1 ks n ls j h0 n0 V72_ ok72 (own_fd1 hfd)) e73 d3_32 [(.ref bs), (.int p1)] [] rfl rfl pd__28_5bII_29I rfl rfl (by decide) (Nat.le_of_ble_eq_true rfl) (by first | omega | (simp only [room_1]; omega) | (dsimp only; omega)) (by first | omega | (simp only [room_1]; omega) | (dsimp only; omega)) rfl (fun T74 w74 L74 X74 hQ74 => ?_)
  obtain ⟨rfl, NL74, e74⟩ := hQ74
  have N74 := Fr.app N0 NL74
  show W.Go p e below _ (T74.setTop (mkF m 35 #[.val (.ref p0), .val (.int p1), .val (.ref p2), .unset] [(.int j)]))
  refine W.istoreN (q := 36) (L' := #[.val (.ref p0), .val (.int p1), .val (.ref p2), .val (.int j)]) X74 C d3_35 rfl rfl ?_
  refine W.aloadN (q := 37) X74 C d3_36 rfl rfl rfl ?_
  refine W.getF (host := "") (q := 40) X74 C (Or.inl (W.ww hw 11 rfl)) Via.refl e74 Fs72 d3_37 rfl (fun T75 X75 e75 => ?_)
  refine W.iloadN (q := 41) X75 C d3_40 rfl rfl ?_
  refine W.iaload (q := 42) X75 C e75 V72_ (own_fdin ok72.1 hfd).1 (own_fdin ok72.1 hfd).2 (own_get ls j) d3_41 rfl ?_
  refine W.if_ (q := 47) (q' := 45) X75 C d3_42 (by decide) (by decide) rfl (fun hc76 => ?_) (fun hc76 => ?_)
  · replace hc76 : (own_g 0 ls j) = 0 := hc76
    rw [if_pos hc76] at hr
    obtain ⟨e1, e2, e3⟩ := own_tri hr
    subst e1 e2 e3
    refine W.aloadN (q := 48) X75 C d3_47 rfl rfl rfl ?_
    refine W.getF (host := "") (q := 51) X75 C (Or.inl (W.ww hw 11 rfl)) Via.refl e75 Fs72 d3_48 rfl (fun T77 X77 e77 => ?_)
    refine W.iloadN (q := 52) X77 C d3_51 rfl rfl ?_
    refine W.iloadN (q := 53) X77 C d3_52 rfl rfl ?_
    refine W.iconst (q := 54) (v := 1) X77 C d3_53 rfl rfl ?_
    refine W.iadd (q := 55) X77 C d3_54 rfl ?_
    refine W.iastore (q := 56) X77 C e77 V72_  (own_fdin ok72.1 hfd).1 (own_fdin ok72.1 hfd).2 (own_len ok72 (own_fdin ok72.1 hfd)) d3_55 rfl (fun T78 h78 X78 e78 W78 V78_ => ?_)
    have O72_80 := O72.wr W78 geb_72
    have E72_81 := E72.wr W78
    have Fs72_82 := Fs72.other W78 (Or.inl neb_72)
    have Fz72_83 := Fz72.other W78 (Or.inl neb_72)
    have Fh72_84 := Fh72.other W78 (Or.inl neb_72)
    have Fd72_85 := Fd72.other W78 (Or.inl neb_72)
    have N78 := Fr.snoc X78 N74 geb_72
    have n0_78 : n0 ≤ h78.size := by rw [W78.size]; exact Z_72
    rw [own_setv] at V78_
    have ok87 : own_ok n (own_s ls j (p1 + (1 : Int32))) := own_s_ok ok72
    refine W.aloadN (q := 57) X78 C d3_56 rfl rfl rfl ?_
    refine W.dup (q := 58) X78 C d3_57 rfl rfl ?_
    refine W.getF (host := "") (q := 61) X78 C (Or.inl (W.ww hw 21 rfl)) Via.refl e78 Fz72_83 d3_58 rfl (fun T88 X88 e88 => ?_)
    refine W.iconst (q := 62) (v := 1) X88 C d3_61 rfl rfl ?_
    refine W.iadd (q := 63) X88 C d3_62 rfl ?_
    refine W.putF (host := "") (q := 66) X88 C (Or.inl (W.ww hw 21 rfl)) Via.refl e88 Fz72_83 E72_81 (Or.inl (W.ww hw 22 rfl)) (W.ww hw 2 rfl) (ty := .int) (by decide) rfl rfl d3_63 rfl (fun T89 h89 X89 e89 W89 => ?_)
    have Fw89 := Fz72_83.same W89
    have O72_91 := O72_80.wr W89 ge0_72
    have E72_92 := E72_81.wr W89
    have Fs72_93 := Fs72_82.other W89 (Or.inr (slot_ne (Or.inl (W.ww hw 12 rfl)) (Or.inl (W.ww hw 22 rfl)) (by decide) (t := (.array .int)) (t' := .int) (by decide) (by decide)))
    have Fh72_95 := Fh72_84.other W89 (Or.inr (slot_ne (Or.inl (W.ww hw 31 rfl)) (Or.inl (W.ww hw 22 rfl)) (by decide) (t := .int) (t' := .int) (by decide) (by decide)))
    have Fd72_96 := Fd72_85.other W89 (Or.inr (slot_ne (Or.inl (W.ww hw 49 rfl)) (Or.inl (W.ww hw 22 rfl)) (by decide) (t := (.array (.object "com/example/nomina/nomina/tableau/Dependencies"))) (t' := .int) (by decide) (by decide)))
    have V78__97 := V78_.other W89 (Ne.symm neb_72)
    have N89 := Fr.snoc X89 N78 ge0_72
    have n0_89 : n0 ≤ h89.size := by rw [W89.size]; exact n0_78
    refine W.aloadN (q := 67) X89 C d3_66 rfl rfl rfl ?_
    refine W.dup (q := 68) X89 C d3_67 rfl rfl ?_
    refine W.getF (host := "") (q := 71) X89 C (Or.inl (W.ww hw 30 rfl)) Via.refl e89 Fh72_95 d3_68 rfl (fun T98 X98 e98 => ?_)
    refine W.iloadN (q := 72) X98 C d3_71 rfl rfl ?_
    refine W.callS (q := 75) X98 C (W.ww hw 32 rfl) (W.ww hw 33 rfl) (W.ww hw 3 rfl) (W.ww hw 34 rfl) (by decide) (rm6 l Z a0 hw [] p1 h89 n0) e98 d3_72 [(.int p1)] [(.int hs), (.ref p0)] rfl rfl pd__28I_29I rfl rfl (by decide) (Nat.le_of_ble_eq_true rfl) (by first | omega | (simp only [room_1]; omega) | (dsimp only; omega)) (by first | omega | (simp only [room_1]; omega) | (dsimp only; omega)) rfl (fun T99 w99 L99 X99 hQ99 => ?_)
    obtain ⟨w_99, rfl, NL99, e99⟩ := hQ99
    have N99 := Fr.app N89 NL99
    show W.Go p e below _ (T99.setTop (mkF m 75 #[.val (.ref p0), .val (.int p1), .val (.ref p2), .val (.int j)] [(.int w_99), (.int hs), (.ref p0)]))
    refine W.iadd (q := 76) X99 C d3_75 rfl ?_
    refine W.putF (host := "") (q := 79) X99 C (Or.inl (W.ww hw 30 rfl)) Via.refl e99 Fh72_95 E72_92 (Or.inl (W.ww hw 31 rfl)) (W.ww hw 2 rfl) (ty := .int) (by decide) rfl rfl d3_76 rfl (fun T100 h100 X100 e100 W100 => ?_)
    have Fw100 := Fh72_95.same W100
    have O72_102 := O72_91.wr W100 ge0_72
    have E72_103 := E72_92.wr W100
    have Fs72_104 := Fs72_93.other W100 (Or.inr (slot_ne (Or.inl (W.ww hw 12 rfl)) (Or.inl (W.ww hw 31 rfl)) (by decide) (t := (.array .int)) (t' := .int) (by decide) (by decide)))
    have Fw89_105 := Fw89.other W100 (Or.inr (slot_ne (Or.inl (W.ww hw 22 rfl)) (Or.inl (W.ww hw 31 rfl)) (by decide) (t := .int) (t' := .int) (by decide) (by decide)))
    have Fd72_107 := Fd72_96.other W100 (Or.inr (slot_ne (Or.inl (W.ww hw 49 rfl)) (Or.inl (W.ww hw 31 rfl)) (by decide) (t := (.array (.object "com/example/nomina/nomina/tableau/Dependencies"))) (t' := .int) (by decide) (by decide)))
    have V78__108 := V78__97.other W100 (Ne.symm neb_72)
    have N100 := Fr.snoc X100 N99 ge0_72
    have n0_100 : n0 ≤ h100.size := by rw [W100.size]; exact n0_89
    have EN109 := EN.ext O72_102.2
    have FN109 := FN.ext O72_102.2
    have VN109 := VN.ext O72_102.2
    refine W.aloadN (q := 80) X100 C d3_79 rfl rfl rfl ?_
    refine W.callV (q := 83) X100 C (W.ww hw 37 rfl) (W.ww hw 38 rfl) (W.nf C (W.ww hw 40 rfl)) (W.ww hw 40 rfl) (W.ww hw 39 rfl) (W.ww hw 14 rfl) (W.ww hw 41 rfl) (by decide) (rm7 l Z a0 hw [] p2 lv kv vn h100 n0 FN109 VN109) e100 EN109 d3_80 [] [] rfl rfl pd__28_29Z rfl rfl (by decide) (Nat.le_of_ble_eq_true rfl) (by first | omega | (simp only [room_1]; omega) | (dsimp only; omega)) (by first | omega | (simp only [room_1]; omega) | (dsimp only; omega)) rfl (fun T110 w110 L110 X110 hQ110 => ?_)
    obtain ⟨rfl, NL110, e110⟩ := hQ110
    have N110 := Fr.app N100 NL110
    show W.Go p e below _ (T110.setTop (mkF m 83 #[.val (.ref p0), .val (.int p1), .val (.ref p2), .val (.int j)] [(.int (1 : Int32))]))
    refine W.ifT (q := 112) X110 C d3_83 (by decide) (by decide) (by decide : W.cT .ne (1 : Int32) 0) ?_
    refine W.iconst (q := 113) (v := 1) X110 C d3_112 rfl rfl ?_
    exact W.retN X110 C (by simp) e110 d3_113 rfl (by first | omega | (simp only [room_1]; omega) | (dsimp only; omega)) (by first | omega | (simp only [room_1]; omega) | (dsimp only; omega)) ⟨_, _, _, _, rfl, N110, ⟨ge0_72, geb_72, neb_72, n0_100, O72_102, E72_103, Fs72_104, Fw89_105, Fw100, Fd72_107, V78__108, ok87⟩⟩
  · replace hc76 : (own_g 0 ls j) ≠ 0 := hc76
    rw [if_neg hc76] at hr
    obtain ⟨e1, e2, e3⟩ := own_tri hr
    subst e1 e2 e3
    refine W.iconst (q := 46) (v := 0) X75 C d3_45 rfl rfl ?_
    exact W.retN X75 C (by simp) e75 d3_46 rfl (by first | omega | (simp only [room_1]; omega) | (dsimp only; omega)) (by first | omega | (simp only [room_1]; omega) | (dsimp only; omega)) ⟨_, _, _, _, rfl, N74, ⟨ge0_72, geb_72, neb_72, Z_72, O72, E72, Fs72, Fz72, Fh72, Fd72, V72_, ok72⟩⟩
theorem d3_0 : decode prog_88_method_2_code 0 = .ok (.iconst 2, 1) := by decide +kernel
theorem d3_1 : decode prog_88_method_2_code 1 = .ok (.aload_n 0, 1) := by decide +kernel
theorem d3_2 : decode prog_88_method_2_code 2 = .ok (.getfield 13, 3) := by decide +kernel
theorem d3_5 : decode prog_88_method_2_code 5 = .ok (.iconst 1, 1) := by decide +kernel
theorem d3_6 : decode prog_88_method_2_code 6 = .ok (.iadd, 1) := by decide +kernel
theorem d3_7 : decode prog_88_method_2_code 7 = .ok (.imul, 1) := by decide +kernel
theorem d3_8 : decode prog_88_method_2_code 8 = .ok (.aload_n 0, 1) := by decide +kernel
theorem d3_9 : decode prog_88_method_2_code 9 = .ok (.getfield 7, 3) := by decide +kernel
theorem d3_12 : decode prog_88_method_2_code 12 = .ok (.arraylength, 1) := by decide +kernel
theorem d3_13 : decode prog_88_method_2_code 13 = .ok (.if_icmp .le 14, 3) := by decide +kernel
theorem d3_16 : decode prog_88_method_2_code 16 = .ok (.aload_n 0, 1) := by decide +kernel
theorem d3_17 : decode prog_88_method_2_code 17 = .ok (.aload_n 0, 1) := by decide +kernel
theorem d3_18 : decode prog_88_method_2_code 18 = .ok (.getfield 7, 3) := by decide +kernel
theorem d3_21 : decode prog_88_method_2_code 21 = .ok (.arraylength, 1) := by decide +kernel
theorem d3_22 : decode prog_88_method_2_code 22 = .ok (.iconst 2, 1) := by decide +kernel
theorem d3_23 : decode prog_88_method_2_code 23 = .ok (.imul, 1) := by decide +kernel
theorem d3_24 : decode prog_88_method_2_code 24 = .ok (.invokevirtual 17, 3) := by decide +kernel
theorem pd__28I_29V : parseMethodDescriptor "(I)V" = some ⟨[.int], none⟩ := by decide +kernel
def Q3 (Z : State) (p0 : Addr) (p1 : Int32) (p2 lv : Addr) (kv : ClassId) (vn : List Value) (bs : Addr) (ks : ClassId) (n : Int32) (ls : List Int32) (sz hs : Int32) (n' : Int32) (l' : List Int32) (sz' : Int32) (h0 : Heap) (n0 : Nat) (v : Option Value) (h : Heap) (L : List Loc) : Prop := ∃ w bs ks hs, v = some (.int w) ∧ Fr n0 L ∧ own_set Z n0 h p0 bs ks n' l' sz' hs
set_option maxRecDepth 65536 in
set_option maxHeartbeats 40000000 in
theorem rm3 (l : Launch) (Z : State) (a0 : Array Value) (hw : ∀ d ∈ tables_1, d.before a0 Z = true) (ws : List Jvm.Cond) (p0 : Addr) (p1 : Int32) (p2 lv : Addr) (kv : ClassId) (vn : List Value) (bs : Addr) (ks : ClassId) (n : Int32) (ls : List Int32) (sz hs : Int32) (n' : Int32) (l' : List Int32) (sz' : Int32) (h0 : Heap) (n0 : Nat) (EN : Exa Z Z.heap p2 "com/example/nomina/nomina/tableau/Dependencies") (FN : Fld Z Z.heap p2 "com/example/nomina/nomina/tableau/Dependencies" "levels" "[I" (.ref lv)) (VN : Arv Z Z.heap lv kv .int (0 : Int32) vn (.int (0 : Int32))) (HS : own_set Z n0 h0 p0 bs ks n ls sz hs) (hr : own_add 0 own_hm n ls sz (p1 + 1) = some (n', l', sz')) :
    MetFree l (⟨"com/example/nomina/nomina/tableau/IntSet", "add", "(ILcom/example/nomina/nomina/tableau/Dependencies;)Z"⟩ : MethodName) (head1 (Jvm.Cond.code (⟨"com/example/nomina/nomina/tableau/IntSet", "add", "(ILcom/example/nomina/nomina/tableau/Dependencies;)Z"⟩ : MethodName) prog_88_method_2_code 4 (some .boolean) :: ws) ({ frames := 3, cells := 1, slots := 8, locals := 80 } : Room)) (fun a U => a = #[(.ref p0), (.int p1), (.ref p2)] ∧ Z.Warmed39 U.vm ∧ U.heap = h0) (fun _ _ _ _ _ => True) (fun _ U o U' => ∃ v L, o = .returned v ∧ Q3 Z p0 p1 p2 lv kv vn bs ks n ls sz hs n' l' sz' h0 n0 v U'.heap L ∧ FrameEnd U o U' L ({ frames := 3, cells := 1, slots := 8, locals := 80 } : Room).cells ({ frames := 3, cells := 1, slots := 8, locals := 80 } : Room).slots) := by
  refine W.bodyOf (y := (⟨"com/example/nomina/nomina/tableau/IntSet", "add", "(ILcom/example/nomina/nomina/tableau/Dependencies;)Z"⟩ : MethodName)) (as := #[(.ref p0), (.int p1), (.ref p2)]) (maxL := 4) (Q := Q3 Z p0 p1 p2 lv kv vn bs ks n ls sz hs n' l' sz' h0 n0) (Ls := #[.val (.ref p0), .val (.int p1), .val (.ref p2), .unset]) (plainFor_of_name pn_com_example_nomina_nomina_tableau_IntSet) (fun m => by first | rfl | (simp [entryFrame, mkF, argsToLocals, Value.category]; done)) ?_
  intro p e s m below meth c T0 C X0 e0
  have N0 := Fr.nil n0
  obtain ⟨ge0_111, geb_111, neb_111, Z_111, O111, E111, Fs111, Fz111, Fh111, Fd111, V111_, ok111⟩ := HS
  refine W.iconst (q := 1) (v := 2) X0 C d3_0 rfl rfl ?_
  refine W.aloadN (q := 2) X0 C d3_1 rfl rfl rfl ?_
  refine W.getF (host := "") (q := 5) X0 C (Or.inl (W.ww hw 21 rfl)) Via.refl e0 Fz111 d3_2 rfl (fun T112 X112 e112 => ?_)
  refine W.iconst (q := 6) (v := 1) X112 C d3_5 rfl rfl ?_
  refine W.iadd (q := 7) X112 C d3_6 rfl ?_
  refine W.imul (q := 8) X112 C d3_7 rfl ?_
  refine W.aloadN (q := 9) X112 C d3_8 rfl rfl rfl ?_
  refine W.getF (host := "") (q := 12) X112 C (Or.inl (W.ww hw 11 rfl)) Via.refl e112 Fs111 d3_9 rfl (fun T113 X113 e113 => ?_)
  refine W.arraylength (q := 13) X113 C e113 V111_ d3_12 rfl ?_
  refine W.icmp (q := 27) (q' := 16) X113 C d3_13 (by decide) (by decide) rfl (fun hc114 => ?_) (fun hc114 => ?_)
  · replace hc114 : ((2 : Int32) * (sz + (1 : Int32))).toInt ≤ n.toInt := hc114
    rw [own_add, if_pos hc114] at hr
    exact own_insw l Z a0 hw h0 n0 p0 p1 p2 lv kv vn bs ks n ls sz hs n' l' sz' _ _ (by decide) (by decide) C X113 e113 N0 EN FN VN ⟨ge0_111, geb_111, neb_111, Z_111, O111, E111, Fs111, Fz111, Fh111, Fd111, V111_, ok111⟩ hr
  · replace hc114 : n.toInt < ((2 : Int32) * (sz + (1 : Int32))).toInt := hc114
    rw [own_add, if_neg (Int.not_le.mpr hc114)] at hr
    obtain ⟨e4, hr⟩ := own_ifE hr
    subst e4
    obtain ⟨lg, hg, hr⟩ := own_bindE hr
    refine W.aloadN (q := 17) X113 C d3_16 rfl rfl rfl ?_
    refine W.aloadN (q := 18) X113 C d3_17 rfl rfl rfl ?_
    refine W.getF (host := "") (q := 21) X113 C (Or.inl (W.ww hw 11 rfl)) Via.refl e113 Fs111 d3_18 rfl (fun T115 X115 e115 => ?_)
    refine W.arraylength (q := 22) X115 C e115 V111_ d3_21 rfl ?_
    refine W.iconst (q := 23) (v := 2) X115 C d3_22 rfl rfl ?_
    refine W.imul (q := 24) X115 C d3_23 rfl ?_
    rw [show ((4 : Int32) * (2 : Int32)) = (8 : Int32) by decide]
    refine W.callP (q := 27) (y2 := (⟨"com/example/nomina/nomina/tableau/IntSet", "add", "(ILcom/example/nomina/nomina/tableau/Dependencies;)Z"⟩ : MethodName)) X115 C (W.ww hw 44 rfl) (W.ww hw 45 rfl) (W.ww hw 46 rfl) rfl (W.ww hw 19 rfl) (W.ww hw 3 rfl) (W.ww hw 47 rfl) (by decide) (rm8 l Z a0 hw [] p0 bs ks ls lg sz hs h0 n0 ⟨ge0_111, geb_111, neb_111, Z_111, O111, E111, Fs111, Fz111, Fh111, Fd111, V111_, ok111⟩ hg) e115 E111 d3_24 [(.int (8 : Int32))] [] rfl rfl pd__28I_29V rfl rfl (by decide) (Nat.le_of_ble_eq_true rfl) (by decide) (by decide) rfl (fun T116 w116 L116 X116 hQ116 => ?_)
    obtain ⟨rfl, NL116, bn, kn, HS116⟩ := hQ116
    have N116 := Fr.app N0 NL116
    obtain ⟨ge0_117, geb_117, neb_117, Z_117, O117, E117, Fs117, Fz117, Fh117, Fd117, V117_, ok117⟩ := HS116
    show W.Go p e below _ (T116.setTop (mkF m 27 #[.val (.ref p0), .val (.int p1), .val (.ref p2), .unset] []))
    exact own_insw l Z a0 hw T116.heap n0 p0 p1 p2 lv kv vn bn kn (8 : Int32) lg sz hs n' l' sz' _ _ (by decide) (by decide) C X116 rfl N116 EN FN VN ⟨ge0_117, geb_117, neb_117, Z_117, O117, E117, Fs117, Fz117, Fh117, Fd117, V117_, ok117⟩ hr
theorem d11_62 : decode prog_88_method_4_code 62 = .ok (.aload_n 0, 1) := by decide +kernel
theorem d11_63 : decode prog_88_method_4_code 63 = .ok (.getfield 7, 3) := by decide +kernel
theorem d11_66 : decode prog_88_method_4_code 66 = .ok (.iload 4, 2) := by decide +kernel
theorem d11_68 : decode prog_88_method_4_code 68 = .ok (.iaload, 1) := by decide +kernel
theorem d11_69 : decode prog_88_method_4_code 69 = .ok (.ifCond .eq 91, 3) := by decide +kernel
theorem d11_160 : decode prog_88_method_4_code 160 = .ok (.return_, 1) := by decide +kernel
theorem d11_72 : decode prog_88_method_4_code 72 = .ok (.aload_n 0, 1) := by decide +kernel
theorem d11_73 : decode prog_88_method_4_code 73 = .ok (.getfield 7, 3) := by decide +kernel
theorem d11_76 : decode prog_88_method_4_code 76 = .ok (.iload 4, 2) := by decide +kernel
theorem d11_78 : decode prog_88_method_4_code 78 = .ok (.iaload, 1) := by decide +kernel
theorem d11_79 : decode prog_88_method_4_code 79 = .ok (.iconst 1, 1) := by decide +kernel
theorem d11_80 : decode prog_88_method_4_code 80 = .ok (.isub, 1) := by decide +kernel
theorem d11_81 : decode prog_88_method_4_code 81 = .ok (.aload_n 0, 1) := by decide +kernel
theorem d11_82 : decode prog_88_method_4_code 82 = .ok (.getfield 7, 3) := by decide +kernel
theorem d11_85 : decode prog_88_method_4_code 85 = .ok (.arraylength, 1) := by decide +kernel
theorem d11_86 : decode prog_88_method_4_code 86 = .ok (.invokestatic 45, 3) := by decide +kernel
theorem d11_89 : decode prog_88_method_4_code 89 = .ok (.istore 5, 2) := by decide +kernel
theorem d11_91 : decode prog_88_method_4_code 91 = .ok (.iload 4, 2) := by decide +kernel
theorem d11_93 : decode prog_88_method_4_code 93 = .ok (.iload 5, 2) := by decide +kernel
theorem d11_95 : decode prog_88_method_4_code 95 = .ok (.isub, 1) := by decide +kernel
theorem d11_96 : decode prog_88_method_4_code 96 = .ok (.iload_n 3, 1) := by decide +kernel
theorem d11_97 : decode prog_88_method_4_code 97 = .ok (.iand, 1) := by decide +kernel
theorem d11_98 : decode prog_88_method_4_code 98 = .ok (.iload 4, 2) := by decide +kernel
theorem d11_100 : decode prog_88_method_4_code 100 = .ok (.iload_n 2, 1) := by decide +kernel
theorem d11_101 : decode prog_88_method_4_code 101 = .ok (.isub, 1) := by decide +kernel
theorem d11_102 : decode prog_88_method_4_code 102 = .ok (.iload_n 3, 1) := by decide +kernel
theorem d11_103 : decode prog_88_method_4_code 103 = .ok (.iand, 1) := by decide +kernel
theorem d11_104 : decode prog_88_method_4_code 104 = .ok (.if_icmp .lt 45, 3) := by decide +kernel
theorem d11_149 : decode prog_88_method_4_code 149 = .ok (.iload 4, 2) := by decide +kernel
theorem d11_151 : decode prog_88_method_4_code 151 = .ok (.iconst 1, 1) := by decide +kernel
theorem d11_152 : decode prog_88_method_4_code 152 = .ok (.iadd, 1) := by decide +kernel
theorem d11_153 : decode prog_88_method_4_code 153 = .ok (.iload_n 3, 1) := by decide +kernel
theorem d11_154 : decode prog_88_method_4_code 154 = .ok (.iand, 1) := by decide +kernel
theorem d11_155 : decode prog_88_method_4_code 155 = .ok (.istore 4, 2) := by decide +kernel
theorem d11_157 : decode prog_88_method_4_code 157 = .ok (.goto (-95), 3) := by decide +kernel
theorem d11_107 : decode prog_88_method_4_code 107 = .ok (.aload_n 0, 1) := by decide +kernel
theorem d11_108 : decode prog_88_method_4_code 108 = .ok (.getfield 7, 3) := by decide +kernel
theorem d11_111 : decode prog_88_method_4_code 111 = .ok (.iload_n 2, 1) := by decide +kernel
theorem d11_112 : decode prog_88_method_4_code 112 = .ok (.aload_n 0, 1) := by decide +kernel
theorem d11_113 : decode prog_88_method_4_code 113 = .ok (.getfield 7, 3) := by decide +kernel
theorem d11_116 : decode prog_88_method_4_code 116 = .ok (.iload 4, 2) := by decide +kernel
theorem d11_118 : decode prog_88_method_4_code 118 = .ok (.iaload, 1) := by decide +kernel
theorem d11_119 : decode prog_88_method_4_code 119 = .ok (.iastore, 1) := by decide +kernel
theorem d11_120 : decode prog_88_method_4_code 120 = .ok (.aload_n 0, 1) := by decide +kernel
theorem d11_121 : decode prog_88_method_4_code 121 = .ok (.getfield 38, 3) := by decide +kernel
theorem d11_124 : decode prog_88_method_4_code 124 = .ok (.ifnull 16, 3) := by decide +kernel
theorem d11_140 : decode prog_88_method_4_code 140 = .ok (.aload_n 0, 1) := by decide +kernel
theorem d11_141 : decode prog_88_method_4_code 141 = .ok (.iload 4, 2) := by decide +kernel
theorem d11_143 : decode prog_88_method_4_code 143 = .ok (.invokevirtual 42, 3) := by decide +kernel
theorem d11_146 : decode prog_88_method_4_code 146 = .ok (.iload 4, 2) := by decide +kernel
theorem d11_148 : decode prog_88_method_4_code 148 = .ok (.istore_n 2, 1) := by decide +kernel
set_option maxRecDepth 65536 in
set_option maxHeartbeats 40000000 in
theorem own_rloop (l : Launch) (Z : State) (a0 : Array Value) (hw : ∀ d ∈ tables_1, d.before a0 Z = true) (n0 : Nat) (p0 bs : Addr) (ks : ClassId) (lr : List Int32) (p1 n sz hs : Int32) {p : Program} {e : Env} {s : State} {m : MethodId} {args : Array Value} {below : List Frame} {meth : Method} {c : Code} (C : W.Cx p s m meth c Z prog_88_method_4_code 6 "com/example/nomina/nomina/tableau/IntSet" "remove" none) :
    ∀ (fuel : Nat) (h0 : Heap) (gap i : Int32) (ls : List Int32) (s5 : Slot) (T0 : State) (locs : List Loc), Stand p l e ({ frames := 2, cells := 0, slots := 0, locals := 48 } : Room) s m args below meth c T0 locs 0 0 → T0.heap = h0 → Fr n0 locs → own_set Z n0 h0 p0 bs ks n ls sz hs → own_in n gap → own_in n i → One s5 → own_rl 0 own_hm (n - 1) fuel gap i ls = some lr →
    W.Go p e below (W.Post s (fun v h L => v = none ∧ Fr n0 L ∧ own_set Z n0 h p0 bs ks n lr sz hs) 0 0) (T0.setTop (mkF m 62 #[.val (.ref p0), .val (.int p1), .val (.int gap), .val (.int (n - (1 : Int32))), .val (.int i), s5] [])) := by
  intro fuel
  induction fuel with
  | zero =>
    intro _ _ _ _ _ _ _ _ _ _ _ _ _ _ hr
    rw [own_rl0] at hr; cases hr
  | succ k ih =>
    intro h0 gap i ls s5 T0 locs X0 e0 N0 HS hgi hin h5 hr
    obtain ⟨ge0_118, geb_118, neb_118, Z_118, O118, E118, Fs118, Fz118, Fh118, Fd118, V118_, ok118⟩ := HS
    refine W.aloadN (q := 63) X0 C d11_62 rfl rfl rfl ?_
    refine W.getF (host := "") (q := 66) X0 C (Or.inl (W.ww hw 11 rfl)) Via.refl e0 Fs118 d11_63 rfl (fun T119 X119 e119 => ?_)
    refine W.iload (q := 68) X119 C d11_66 rfl rfl ?_
    refine W.iaload (q := 69) X119 C e119 V118_ hin.1 hin.2 (own_get ls i) d11_68 rfl ?_
    refine W.if_ (q := 160) (q' := 72) X119 C d11_69 (by decide) (by decide) rfl (fun hc120 => ?_) (fun hc120 => ?_)
    · replace hc120 : (own_g 0 ls i) = 0 := hc120
      rw [own_rlS, if_pos hc120] at hr
      have elr := Option.some.inj hr
      subst elr
      exact W.retV X119 C e119 d11_160 (by decide) (by decide) ⟨rfl, N0, ⟨ge0_118, geb_118, neb_118, Z_118, O118, E118, Fs118, Fz118, Fh118, Fd118, V118_, ok118⟩⟩
    · replace hc120 : (own_g 0 ls i) ≠ 0 := hc120
      refine W.aloadN (q := 73) X119 C d11_72 rfl rfl rfl ?_
      refine W.getF (host := "") (q := 76) X119 C (Or.inl (W.ww hw 11 rfl)) Via.refl e119 Fs118 d11_73 rfl (fun T121 X121 e121 => ?_)
      refine W.iload (q := 78) X121 C d11_76 rfl rfl ?_
      refine W.iaload (q := 79) X121 C e121 V118_ hin.1 hin.2 (own_get ls i) d11_78 rfl ?_
      refine W.iconst (q := 80) (v := 1) X121 C d11_79 rfl rfl ?_
      refine W.isub (q := 81) X121 C d11_80 rfl ?_
      refine W.aloadN (q := 82) X121 C d11_81 rfl rfl rfl ?_
      refine W.getF (host := "") (q := 85) X121 C (Or.inl (W.ww hw 11 rfl)) Via.refl e121 Fs118 d11_82 rfl (fun T122 X122 e122 => ?_)
      refine W.arraylength (q := 86) X122 C e122 V118_ d11_85 rfl ?_
      refine W.callS (q := 89) X122 C (W.ww hw 26 rfl) (W.ww hw 27 rfl) (W.ww hw 3 rfl) (W.ww hw 28 rfl) (by decide) (rm5 l Z a0 hw [] ((own_g 0 ls i) - (1 : Int32)) n h0 n0) e122 d11_86 [(.int ((own_g 0 ls i) - (1 : Int32))), (.int n)] [] rfl rfl pd__28II_29I rfl rfl (by decide) (Nat.le_of_ble_eq_true rfl) (by decide) (by decide) rfl (fun T123 w123 L123 X123 hQ123 => ?_)
      obtain ⟨rfl, NL123, e123⟩ := hQ123
      have N123 := Fr.app N0 NL123
      show W.Go p e below _ (T123.setTop (mkF m 89 #[.val (.ref p0), .val (.int p1), .val (.int gap), .val (.int (n - (1 : Int32))), .val (.int i), s5] [(.int (own_hx ((own_g 0 ls i) - (1 : Int32)) &&& (n - (1 : Int32))))]))
      refine W.istore (q := 91) (L' := #[.val (.ref p0), .val (.int p1), .val (.int gap), .val (.int (n - (1 : Int32))), .val (.int i), .val (.int (own_hx ((own_g 0 ls i) - (1 : Int32)) &&& (n - (1 : Int32))))]) X123 C d11_89 (Jvm.Free.XS.store1 rfl h5 rfl) rfl ?_
      refine W.iload (q := 93) X123 C d11_91 rfl rfl ?_
      refine W.iload (q := 95) X123 C d11_93 rfl rfl ?_
      refine W.isub (q := 96) X123 C d11_95 rfl ?_
      refine W.iloadN (q := 97) X123 C d11_96 rfl rfl ?_
      refine W.iand (q := 98) X123 C d11_97 rfl ?_
      refine W.iload (q := 100) X123 C d11_98 rfl rfl ?_
      refine W.iloadN (q := 101) X123 C d11_100 rfl rfl ?_
      refine W.isub (q := 102) X123 C d11_101 rfl ?_
      refine W.iloadN (q := 103) X123 C d11_102 rfl rfl ?_
      refine W.iand (q := 104) X123 C d11_103 rfl ?_
      refine W.icmp (q := 149) (q' := 107) X123 C d11_104 (by decide) (by decide) rfl (fun hc124 => ?_) (fun hc124 => ?_)
      · replace hc124 : ((i - (own_hx ((own_g 0 ls i) - (1 : Int32)) &&& (n - (1 : Int32)))) &&& (n - (1 : Int32))).toInt < ((i - gap) &&& (n - (1 : Int32))).toInt := hc124
        rw [own_rlS, if_neg hc120, if_pos (show ((i - (own_hm (own_g 0 ls i) &&& (n - 1))) &&& (n - 1)).toInt < ((i - gap) &&& (n - 1)).toInt from hc124)] at hr
        refine W.iload (q := 151) X123 C d11_149 rfl rfl ?_
        refine W.iconst (q := 152) (v := 1) X123 C d11_151 rfl rfl ?_
        refine W.iadd (q := 153) X123 C d11_152 rfl ?_
        refine W.iloadN (q := 154) X123 C d11_153 rfl rfl ?_
        refine W.iand (q := 155) X123 C d11_154 rfl ?_
        refine W.istore (q := 157) (L' := #[.val (.ref p0), .val (.int p1), .val (.int gap), .val (.int (n - (1 : Int32))), .val (.int ((i + (1 : Int32)) &&& (n - (1 : Int32)))), .val (.int (own_hx ((own_g 0 ls i) - (1 : Int32)) &&& (n - (1 : Int32))))]) X123 C d11_155 rfl rfl ?_
        refine W.goto (q := 62) X123 C d11_157 (by decide) (by decide) ?_
        exact ih h0 gap _ ls _ T123 _ X123 e123 N123 ⟨ge0_118, geb_118, neb_118, Z_118, O118, E118, Fs118, Fz118, Fh118, Fd118, V118_, ok118⟩ hgi (own_and ok118.1 _) (One.val rfl) hr
      · replace hc124 : ((i - gap) &&& (n - (1 : Int32))).toInt ≤ ((i - (own_hx ((own_g 0 ls i) - (1 : Int32)) &&& (n - (1 : Int32)))) &&& (n - (1 : Int32))).toInt := hc124
        rw [own_rlS, if_neg hc120, if_neg (show ¬ ((i - (own_hm (own_g 0 ls i) &&& (n - 1))) &&& (n - 1)).toInt < ((i - gap) &&& (n - 1)).toInt from Int.not_lt.mpr hc124)] at hr
        refine W.aloadN (q := 108) X123 C d11_107 rfl rfl rfl ?_
        refine W.getF (host := "") (q := 111) X123 C (Or.inl (W.ww hw 11 rfl)) Via.refl e123 Fs118 d11_108 rfl (fun T125 X125 e125 => ?_)
        refine W.iloadN (q := 112) X125 C d11_111 rfl rfl ?_
        refine W.aloadN (q := 113) X125 C d11_112 rfl rfl rfl ?_
        refine W.getF (host := "") (q := 116) X125 C (Or.inl (W.ww hw 11 rfl)) Via.refl e125 Fs118 d11_113 rfl (fun T126 X126 e126 => ?_)
        refine W.iload (q := 118) X126 C d11_116 rfl rfl ?_
        refine W.iaload (q := 119) X126 C e126 V118_ hin.1 hin.2 (own_get ls i) d11_118 rfl ?_
        refine W.iastore (q := 120) X126 C e126 V118_  hgi.1 hgi.2 (own_len ok118 hgi) d11_119 rfl (fun T127 h127 X127 e127 W127 V127_ => ?_)
        have O118_129 := O118.wr W127 geb_118
        have E118_130 := E118.wr W127
        have Fs118_131 := Fs118.other W127 (Or.inl neb_118)
        have Fz118_132 := Fz118.other W127 (Or.inl neb_118)
        have Fh118_133 := Fh118.other W127 (Or.inl neb_118)
        have Fd118_134 := Fd118.other W127 (Or.inl neb_118)
        have N127 := Fr.snoc X127 N123 geb_118
        have n0_127 : n0 ≤ h127.size := by rw [W127.size]; exact Z_118
        rw [own_setv] at V127_
        have ok136 : own_ok n (own_s ls gap (own_g 0 ls i)) := own_s_ok ok118
        refine W.aloadN (q := 121) X127 C d11_120 rfl rfl rfl ?_
        refine W.getF (host := "") (q := 124) X127 C (Or.inl (W.ww hw 48 rfl)) Via.refl e127 Fd118_134 d11_121 rfl (fun T137 X137 e137 => ?_)
        refine W.ifnullT (q := 140) X137 C d11_124 (by decide) (by decide) ?_
        refine W.aloadN (q := 141) X137 C d11_140 rfl rfl rfl ?_
        refine W.iload (q := 143) X137 C d11_141 rfl rfl ?_
        refine W.callP (q := 146) (y2 := (⟨"com/example/nomina/nomina/tableau/IntSet", "add", "(ILcom/example/nomina/nomina/tableau/Dependencies;)Z"⟩ : MethodName)) X137 C (W.ww hw 64 rfl) (W.ww hw 65 rfl) (W.ww hw 66 rfl) rfl (W.ww hw 19 rfl) (W.ww hw 3 rfl) (W.ww hw 67 rfl) (by decide) (rm12 l Z a0 hw [] p0 i bs ks n (own_s ls gap (own_g 0 ls i)) sz hs h127 n0 ⟨ge0_118, geb_118, neb_118, n0_127, O118_129, E118_130, Fs118_131, Fz118_132, Fh118_133, Fd118_134, V127_, ok136⟩ hin) e137 E118_130 d11_143 [(.int i)] [] rfl rfl pd__28I_29V rfl rfl (by decide) (Nat.le_of_ble_eq_true rfl) (by decide) (by decide) rfl (fun T138 w138 L138 X138 hQ138 => ?_)
        obtain ⟨rfl, NL138, HS138⟩ := hQ138
        have N138 := Fr.app N127 NL138
        obtain ⟨ge0_139, geb_139, neb_139, Z_139, O139, E139, Fs139, Fz139, Fh139, Fd139, V139_, ok139⟩ := HS138
        show W.Go p e below _ (T138.setTop (mkF m 146 #[.val (.ref p0), .val (.int p1), .val (.int gap), .val (.int (n - (1 : Int32))), .val (.int i), .val (.int (own_hx ((own_g 0 ls i) - (1 : Int32)) &&& (n - (1 : Int32))))] []))
        refine W.iload (q := 148) X138 C d11_146 rfl rfl ?_
        refine W.istoreN (q := 149) (L' := #[.val (.ref p0), .val (.int p1), .val (.int i), .val (.int (n - (1 : Int32))), .val (.int i), .val (.int (own_hx ((own_g 0 ls i) - (1 : Int32)) &&& (n - (1 : Int32))))]) X138 C d11_148 rfl rfl ?_
        refine W.iload (q := 151) X138 C d11_149 rfl rfl ?_
        refine W.iconst (q := 152) (v := 1) X138 C d11_151 rfl rfl ?_
        refine W.iadd (q := 153) X138 C d11_152 rfl ?_
        refine W.iloadN (q := 154) X138 C d11_153 rfl rfl ?_
        refine W.iand (q := 155) X138 C d11_154 rfl ?_
        refine W.istore (q := 157) (L' := #[.val (.ref p0), .val (.int p1), .val (.int i), .val (.int (n - (1 : Int32))), .val (.int ((i + (1 : Int32)) &&& (n - (1 : Int32)))), .val (.int (own_hx ((own_g 0 ls i) - (1 : Int32)) &&& (n - (1 : Int32))))]) X138 C d11_155 rfl rfl ?_
        refine W.goto (q := 62) X138 C d11_157 (by decide) (by decide) ?_
        exact ih T138.heap i _ (own_s (own_s ls gap (own_g 0 ls i)) i 0) _ T138 _ X138 rfl N138 ⟨ge0_139, geb_139, neb_139, Z_139, O139, E139, Fs139, Fz139, Fh139, Fd139, V139_, ok139⟩ hin (own_and ok139.1 _) (One.val rfl) hr
theorem d11_0 : decode prog_88_method_4_code 0 = .ok (.aload_n 0, 1) := by decide +kernel
theorem d11_1 : decode prog_88_method_4_code 1 = .ok (.getfield 7, 3) := by decide +kernel
theorem d11_4 : decode prog_88_method_4_code 4 = .ok (.iload_n 1, 1) := by decide +kernel
theorem d11_5 : decode prog_88_method_4_code 5 = .ok (.invokestatic 21, 3) := by decide +kernel
theorem d11_8 : decode prog_88_method_4_code 8 = .ok (.istore_n 2, 1) := by decide +kernel
theorem d11_9 : decode prog_88_method_4_code 9 = .ok (.aload_n 0, 1) := by decide +kernel
theorem d11_10 : decode prog_88_method_4_code 10 = .ok (.getfield 7, 3) := by decide +kernel
theorem d11_13 : decode prog_88_method_4_code 13 = .ok (.iload_n 2, 1) := by decide +kernel
theorem d11_14 : decode prog_88_method_4_code 14 = .ok (.iaload, 1) := by decide +kernel
theorem d11_15 : decode prog_88_method_4_code 15 = .ok (.ifCond .ne 4, 3) := by decide +kernel
theorem d11_19 : decode prog_88_method_4_code 19 = .ok (.aload_n 0, 1) := by decide +kernel
theorem d11_20 : decode prog_88_method_4_code 20 = .ok (.dup, 1) := by decide +kernel
theorem d11_21 : decode prog_88_method_4_code 21 = .ok (.getfield 13, 3) := by decide +kernel
theorem d11_24 : decode prog_88_method_4_code 24 = .ok (.iconst 1, 1) := by decide +kernel
theorem d11_25 : decode prog_88_method_4_code 25 = .ok (.isub, 1) := by decide +kernel
theorem d11_26 : decode prog_88_method_4_code 26 = .ok (.putfield 13, 3) := by decide +kernel
theorem d11_29 : decode prog_88_method_4_code 29 = .ok (.aload_n 0, 1) := by decide +kernel
theorem d11_30 : decode prog_88_method_4_code 30 = .ok (.dup, 1) := by decide +kernel
theorem d11_31 : decode prog_88_method_4_code 31 = .ok (.getfield 25, 3) := by decide +kernel
theorem d11_34 : decode prog_88_method_4_code 34 = .ok (.iload_n 1, 1) := by decide +kernel
theorem d11_35 : decode prog_88_method_4_code 35 = .ok (.invokestatic 28, 3) := by decide +kernel
theorem d11_38 : decode prog_88_method_4_code 38 = .ok (.isub, 1) := by decide +kernel
theorem d11_39 : decode prog_88_method_4_code 39 = .ok (.putfield 25, 3) := by decide +kernel
theorem d11_42 : decode prog_88_method_4_code 42 = .ok (.aload_n 0, 1) := by decide +kernel
theorem d11_43 : decode prog_88_method_4_code 43 = .ok (.iload_n 2, 1) := by decide +kernel
theorem d11_44 : decode prog_88_method_4_code 44 = .ok (.invokevirtual 42, 3) := by decide +kernel
theorem d11_47 : decode prog_88_method_4_code 47 = .ok (.aload_n 0, 1) := by decide +kernel
theorem d11_48 : decode prog_88_method_4_code 48 = .ok (.getfield 7, 3) := by decide +kernel
theorem d11_51 : decode prog_88_method_4_code 51 = .ok (.arraylength, 1) := by decide +kernel
theorem d11_52 : decode prog_88_method_4_code 52 = .ok (.iconst 1, 1) := by decide +kernel
theorem d11_53 : decode prog_88_method_4_code 53 = .ok (.isub, 1) := by decide +kernel
theorem d11_54 : decode prog_88_method_4_code 54 = .ok (.istore_n 3, 1) := by decide +kernel
theorem d11_55 : decode prog_88_method_4_code 55 = .ok (.iload_n 2, 1) := by decide +kernel
theorem d11_56 : decode prog_88_method_4_code 56 = .ok (.iconst 1, 1) := by decide +kernel
theorem d11_57 : decode prog_88_method_4_code 57 = .ok (.iadd, 1) := by decide +kernel
theorem d11_58 : decode prog_88_method_4_code 58 = .ok (.iload_n 3, 1) := by decide +kernel
theorem d11_59 : decode prog_88_method_4_code 59 = .ok (.iand, 1) := by decide +kernel
theorem d11_60 : decode prog_88_method_4_code 60 = .ok (.istore 4, 2) := by decide +kernel
theorem d11_18 : decode prog_88_method_4_code 18 = .ok (.return_, 1) := by decide +kernel
def Q11 (Z : State) (p0 : Addr) (p1 : Int32) (bs : Addr) (ks : ClassId) (n : Int32) (ls : List Int32) (sz hs : Int32) (n' : Int32) (l' : List Int32) (sz' : Int32) (h0 : Heap) (n0 : Nat) (v : Option Value) (h : Heap) (L : List Loc) : Prop := v = none ∧ Fr n0 L ∧ ∃ hs, own_set Z n0 h p0 bs ks n' l' sz' hs
set_option maxRecDepth 65536 in
set_option maxHeartbeats 40000000 in
theorem rm11 (l : Launch) (Z : State) (a0 : Array Value) (hw : ∀ d ∈ tables_1, d.before a0 Z = true) (ws : List Jvm.Cond) (p0 : Addr) (p1 : Int32) (bs : Addr) (ks : ClassId) (n : Int32) (ls : List Int32) (sz hs : Int32) (n' : Int32) (l' : List Int32) (sz' : Int32) (h0 : Heap) (n0 : Nat) (HS : own_set Z n0 h0 p0 bs ks n ls sz hs) (hr : own_rem 0 own_hm n ls sz (p1 + 1) = some (n', l', sz')) :
    MetFree l (⟨"com/example/nomina/nomina/tableau/IntSet", "remove", "(I)V"⟩ : MethodName) (head1 (Jvm.Cond.code (⟨"com/example/nomina/nomina/tableau/IntSet", "remove", "(I)V"⟩ : MethodName) prog_88_method_4_code 6 none :: ws) ({ frames := 2, cells := 0, slots := 0, locals := 48 } : Room)) (fun a U => a = #[(.ref p0), (.int p1)] ∧ Z.Warmed39 U.vm ∧ U.heap = h0) (fun _ _ _ _ _ => True) (fun _ U o U' => ∃ v L, o = .returned v ∧ Q11 Z p0 p1 bs ks n ls sz hs n' l' sz' h0 n0 v U'.heap L ∧ FrameEnd U o U' L ({ frames := 2, cells := 0, slots := 0, locals := 48 } : Room).cells ({ frames := 2, cells := 0, slots := 0, locals := 48 } : Room).slots) := by
  refine W.bodyOf (y := (⟨"com/example/nomina/nomina/tableau/IntSet", "remove", "(I)V"⟩ : MethodName)) (as := #[(.ref p0), (.int p1)]) (maxL := 6) (Q := Q11 Z p0 p1 bs ks n ls sz hs n' l' sz' h0 n0) (Ls := #[.val (.ref p0), .val (.int p1), .unset, .unset, .unset, .unset]) (plainFor_of_name pn_com_example_nomina_nomina_tableau_IntSet) (fun m => by first | rfl | (simp [entryFrame, mkF, argsToLocals, Value.category]; done)) ?_
  intro p e s m below meth c T0 C X0 e0
  have N0 := Fr.nil n0
  obtain ⟨ge0_140, geb_140, neb_140, Z_140, O140, E140, Fs140, Fz140, Fh140, Fd140, V140_, ok140⟩ := HS
  rw [own_rem] at hr
  obtain ⟨j, hfd, hr⟩ := own_bindE hr
  refine W.aloadN (q := 1) X0 C d11_0 rfl rfl rfl ?_
  refine W.getF (host := "") (q := 4) X0 C (Or.inl (W.ww hw 11 rfl)) Via.refl e0 Fs140 d11_1 rfl (fun T141 X141 e141 => ?_)
  refine W.iloadN (q := 5) X141 C d11_4 rfl rfl ?_
  refine W.callS (q := 8) X141 C (W.ww hw 23 rfl) (W.ww hw 24 rfl) (W.ww hw 3 rfl) (W.ww hw 25 rfl) (by decide) (rm4 l Z a0 hw [] bs p1 ks n ls j h0 n0 V140_ ok140 (own_fd1 hfd)) e141 d11_5 [(.ref bs), (.int p1)] [] rfl rfl pd__28_5bII_29I rfl rfl (by decide) (Nat.le_of_ble_eq_true rfl) (by decide) (by decide) rfl (fun T142 w142 L142 X142 hQ142 => ?_)
  obtain ⟨rfl, NL142, e142⟩ := hQ142
  have N142 := Fr.app N0 NL142
  show W.Go p e below _ (T142.setTop (mkF m 8 #[.val (.ref p0), .val (.int p1), .unset, .unset, .unset, .unset] [(.int j)]))
  refine W.istoreN (q := 9) (L' := #[.val (.ref p0), .val (.int p1), .val (.int j), .unset, .unset, .unset]) X142 C d11_8 rfl rfl ?_
  refine W.aloadN (q := 10) X142 C d11_9 rfl rfl rfl ?_
  refine W.getF (host := "") (q := 13) X142 C (Or.inl (W.ww hw 11 rfl)) Via.refl e142 Fs140 d11_10 rfl (fun T143 X143 e143 => ?_)
  refine W.iloadN (q := 14) X143 C d11_13 rfl rfl ?_
  refine W.iaload (q := 15) X143 C e143 V140_ (own_fdin ok140.1 hfd).1 (own_fdin ok140.1 hfd).2 (own_get ls j) d11_14 rfl ?_
  refine W.if_ (q := 19) (q' := 18) X143 C d11_15 (by decide) (by decide) rfl (fun hc144 => ?_) (fun hc144 => ?_)
  · replace hc144 : (own_g 0 ls j) ≠ 0 := hc144
    rw [if_neg hc144] at hr
    obtain ⟨lr, hrl, hr⟩ := own_bindE hr
    obtain ⟨e1, e2, e3⟩ := own_tri hr
    subst e1 e2 e3
    refine W.aloadN (q := 20) X143 C d11_19 rfl rfl rfl ?_
    refine W.dup (q := 21) X143 C d11_20 rfl rfl ?_
    refine W.getF (host := "") (q := 24) X143 C (Or.inl (W.ww hw 21 rfl)) Via.refl e143 Fz140 d11_21 rfl (fun T145 X145 e145 => ?_)
    refine W.iconst (q := 25) (v := 1) X145 C d11_24 rfl rfl ?_
    refine W.isub (q := 26) X145 C d11_25 rfl ?_
    refine W.putF (host := "") (q := 29) X145 C (Or.inl (W.ww hw 21 rfl)) Via.refl e145 Fz140 E140 (Or.inl (W.ww hw 22 rfl)) (W.ww hw 2 rfl) (ty := .int) (by decide) rfl rfl d11_26 rfl (fun T146 h146 X146 e146 W146 => ?_)
    have Fw146 := Fz140.same W146
    have O140_148 := O140.wr W146 ge0_140
    have E140_149 := E140.wr W146
    have Fs140_150 := Fs140.other W146 (Or.inr (slot_ne (Or.inl (W.ww hw 12 rfl)) (Or.inl (W.ww hw 22 rfl)) (by decide) (t := (.array .int)) (t' := .int) (by decide) (by decide)))
    have Fh140_152 := Fh140.other W146 (Or.inr (slot_ne (Or.inl (W.ww hw 31 rfl)) (Or.inl (W.ww hw 22 rfl)) (by decide) (t := .int) (t' := .int) (by decide) (by decide)))
    have Fd140_153 := Fd140.other W146 (Or.inr (slot_ne (Or.inl (W.ww hw 49 rfl)) (Or.inl (W.ww hw 22 rfl)) (by decide) (t := (.array (.object "com/example/nomina/nomina/tableau/Dependencies"))) (t' := .int) (by decide) (by decide)))
    have V140__154 := V140_.other W146 (Ne.symm neb_140)
    have N146 := Fr.snoc X146 N142 ge0_140
    have n0_146 : n0 ≤ h146.size := by rw [W146.size]; exact Z_140
    refine W.aloadN (q := 30) X146 C d11_29 rfl rfl rfl ?_
    refine W.dup (q := 31) X146 C d11_30 rfl rfl ?_
    refine W.getF (host := "") (q := 34) X146 C (Or.inl (W.ww hw 30 rfl)) Via.refl e146 Fh140_152 d11_31 rfl (fun T155 X155 e155 => ?_)
    refine W.iloadN (q := 35) X155 C d11_34 rfl rfl ?_
    refine W.callS (q := 38) X155 C (W.ww hw 32 rfl) (W.ww hw 33 rfl) (W.ww hw 3 rfl) (W.ww hw 34 rfl) (by decide) (rm6 l Z a0 hw [] p1 h146 n0) e155 d11_35 [(.int p1)] [(.int hs), (.ref p0)] rfl rfl pd__28I_29I rfl rfl (by decide) (Nat.le_of_ble_eq_true rfl) (by decide) (by decide) rfl (fun T156 w156 L156 X156 hQ156 => ?_)
    obtain ⟨w_156, rfl, NL156, e156⟩ := hQ156
    have N156 := Fr.app N146 NL156
    show W.Go p e below _ (T156.setTop (mkF m 38 #[.val (.ref p0), .val (.int p1), .val (.int j), .unset, .unset, .unset] [(.int w_156), (.int hs), (.ref p0)]))
    refine W.isub (q := 39) X156 C d11_38 rfl ?_
    refine W.putF (host := "") (q := 42) X156 C (Or.inl (W.ww hw 30 rfl)) Via.refl e156 Fh140_152 E140_149 (Or.inl (W.ww hw 31 rfl)) (W.ww hw 2 rfl) (ty := .int) (by decide) rfl rfl d11_39 rfl (fun T157 h157 X157 e157 W157 => ?_)
    have Fw157 := Fh140_152.same W157
    have O140_159 := O140_148.wr W157 ge0_140
    have E140_160 := E140_149.wr W157
    have Fs140_161 := Fs140_150.other W157 (Or.inr (slot_ne (Or.inl (W.ww hw 12 rfl)) (Or.inl (W.ww hw 31 rfl)) (by decide) (t := (.array .int)) (t' := .int) (by decide) (by decide)))
    have Fw146_162 := Fw146.other W157 (Or.inr (slot_ne (Or.inl (W.ww hw 22 rfl)) (Or.inl (W.ww hw 31 rfl)) (by decide) (t := .int) (t' := .int) (by decide) (by decide)))
    have Fd140_164 := Fd140_153.other W157 (Or.inr (slot_ne (Or.inl (W.ww hw 49 rfl)) (Or.inl (W.ww hw 31 rfl)) (by decide) (t := (.array (.object "com/example/nomina/nomina/tableau/Dependencies"))) (t' := .int) (by decide) (by decide)))
    have V140__165 := V140__154.other W157 (Ne.symm neb_140)
    have N157 := Fr.snoc X157 N156 ge0_140
    have n0_157 : n0 ≤ h157.size := by rw [W157.size]; exact n0_146
    refine W.aloadN (q := 43) X157 C d11_42 rfl rfl rfl ?_
    refine W.iloadN (q := 44) X157 C d11_43 rfl rfl ?_
    refine W.callP (q := 47) (y2 := (⟨"com/example/nomina/nomina/tableau/IntSet", "add", "(ILcom/example/nomina/nomina/tableau/Dependencies;)Z"⟩ : MethodName)) X157 C (W.ww hw 64 rfl) (W.ww hw 65 rfl) (W.ww hw 66 rfl) rfl (W.ww hw 19 rfl) (W.ww hw 3 rfl) (W.ww hw 67 rfl) (by decide) (rm12 l Z a0 hw [] p0 j bs ks n ls (sz - (1 : Int32)) (hs - w_156) h157 n0 ⟨ge0_140, geb_140, neb_140, n0_157, O140_159, E140_160, Fs140_161, Fw146_162, Fw157, Fd140_164, V140__165, ok140⟩ (own_fdin ok140.1 hfd)) e157 E140_160 d11_44 [(.int j)] [] rfl rfl pd__28I_29V rfl rfl (by decide) (Nat.le_of_ble_eq_true rfl) (by decide) (by decide) rfl (fun T166 w166 L166 X166 hQ166 => ?_)
    obtain ⟨rfl, NL166, HS166⟩ := hQ166
    have N166 := Fr.app N157 NL166
    obtain ⟨ge0_167, geb_167, neb_167, Z_167, O167, E167, Fs167, Fz167, Fh167, Fd167, V167_, ok167⟩ := HS166
    show W.Go p e below _ (T166.setTop (mkF m 47 #[.val (.ref p0), .val (.int p1), .val (.int j), .unset, .unset, .unset] []))
    refine W.aloadN (q := 48) X166 C d11_47 rfl rfl rfl ?_
    refine W.getF (host := "") (q := 51) X166 C (Or.inl (W.ww hw 11 rfl)) Via.refl rfl Fs167 d11_48 rfl (fun T168 X168 e168 => ?_)
    refine W.arraylength (q := 52) X168 C e168 V167_ d11_51 rfl ?_
    refine W.iconst (q := 53) (v := 1) X168 C d11_52 rfl rfl ?_
    refine W.isub (q := 54) X168 C d11_53 rfl ?_
    refine W.istoreN (q := 55) (L' := #[.val (.ref p0), .val (.int p1), .val (.int j), .val (.int (n - (1 : Int32))), .unset, .unset]) X168 C d11_54 rfl rfl ?_
    refine W.iloadN (q := 56) X168 C d11_55 rfl rfl ?_
    refine W.iconst (q := 57) (v := 1) X168 C d11_56 rfl rfl ?_
    refine W.iadd (q := 58) X168 C d11_57 rfl ?_
    refine W.iloadN (q := 59) X168 C d11_58 rfl rfl ?_
    refine W.iand (q := 60) X168 C d11_59 rfl ?_
    refine W.istore (q := 62) (L' := #[.val (.ref p0), .val (.int p1), .val (.int j), .val (.int (n - (1 : Int32))), .val (.int ((j + (1 : Int32)) &&& (n - (1 : Int32)))), .unset]) X168 C d11_60 rfl rfl ?_
    exact own_mono (fun v h L q => ⟨q.1, q.2.1, _, q.2.2⟩) (own_rloop l Z a0 hw n0 p0 bs ks lr p1 n (sz - (1 : Int32)) (hs - w_156) C 9 T166.heap j _ (own_s ls j 0) .unset T168 _ X168 e168 N166 ⟨ge0_167, geb_167, neb_167, Z_167, O167, E167, Fs167, Fz167, Fh167, Fd167, V167_, ok167⟩ (own_fdin ok140.1 hfd) (own_and ok167.1 _) One.u hrl)
  · replace hc144 : (own_g 0 ls j) = 0 := hc144
    rw [if_pos hc144] at hr
    obtain ⟨e1, e2, e3⟩ := own_tri hr
    subst e1 e2 e3
    exact W.retV X143 C e143 d11_18 (by decide) (by decide) ⟨rfl, N142, _, ⟨ge0_140, geb_140, neb_140, Z_140, O140, E140, Fs140, Fz140, Fh140, Fd140, V140_, ok140⟩⟩
theorem own_l3 {l : List Int32} {ps sz : Int32} (h : l.length = 3) (h3 : sz.toInt ≤ 3) (hp : own_in sz ps) : ps.toNatClampNeg < (own_vs l).length := by
  obtain ⟨h1, h2⟩ := hp
  rw [own_vs, List.length_map, h]; simp only [Int32.toNatClampNeg]; omega
theorem d9_21 : decode prog_88_method_11_code 21 = .ok (.iload 5, 2) := by decide +kernel
theorem d9_23 : decode prog_88_method_11_code 23 = .ok (.iload 4, 2) := by decide +kernel
theorem d9_25 : decode prog_88_method_11_code 25 = .ok (.if_icmp .ge 30, 3) := by decide +kernel
theorem d9_55 : decode prog_88_method_11_code 55 = .ok (.aload_n 1, 1) := by decide +kernel
theorem d9_56 : decode prog_88_method_11_code 56 = .ok (.areturn, 1) := by decide +kernel
theorem d9_28 : decode prog_88_method_11_code 28 = .ok (.aload_n 3, 1) := by decide +kernel
theorem d9_29 : decode prog_88_method_11_code 29 = .ok (.iload 5, 2) := by decide +kernel
theorem d9_31 : decode prog_88_method_11_code 31 = .ok (.iaload, 1) := by decide +kernel
theorem d9_32 : decode prog_88_method_11_code 32 = .ok (.istore 6, 2) := by decide +kernel
theorem d9_34 : decode prog_88_method_11_code 34 = .ok (.iload 6, 2) := by decide +kernel
theorem d9_36 : decode prog_88_method_11_code 36 = .ok (.ifCond .eq 13, 3) := by decide +kernel
theorem d9_49 : decode prog_88_method_11_code 49 = .ok (.iinc 5 1, 3) := by decide +kernel
theorem d9_52 : decode prog_88_method_11_code 52 = .ok (.goto (-31), 3) := by decide +kernel
theorem d9_39 : decode prog_88_method_11_code 39 = .ok (.aload_n 1, 1) := by decide +kernel
theorem d9_40 : decode prog_88_method_11_code 40 = .ok (.iload_n 2, 1) := by decide +kernel
theorem d9_41 : decode prog_88_method_11_code 41 = .ok (.iinc 2 1, 3) := by decide +kernel
theorem d9_44 : decode prog_88_method_11_code 44 = .ok (.iload 6, 2) := by decide +kernel
theorem d9_46 : decode prog_88_method_11_code 46 = .ok (.iconst 1, 1) := by decide +kernel
theorem d9_47 : decode prog_88_method_11_code 47 = .ok (.isub, 1) := by decide +kernel
theorem d9_48 : decode prog_88_method_11_code 48 = .ok (.iastore, 1) := by decide +kernel
set_option maxRecDepth 65536 in
set_option maxHeartbeats 40000000 in
theorem own_tloop (l : Launch) (Z : State) (n0 : Nat) (p0 bs bo : Addr) (ks ko : ClassId) (ls lr : List Int32) (n sz : Int32) (hge : n0 ≤ bo) (nebo : bs ≠ bo) (hs3 : sz.toInt ≤ 3) {p : Program} {e : Env} {s : State} {m : MethodId} {args : Array Value} {below : List Frame} {meth : Method} {c : Code} (C : W.Cx p s m meth c Z prog_88_method_11_code 7 "com/example/nomina/nomina/tableau/IntSet" "toArray" (some (.array .int))) :
    ∀ (fuel : Nat) (h0 : Heap) (i ps : Int32) (out : List Int32) (s6 : Slot) (T0 : State) (locs : List Loc), Stand p l e ({ frames := 0, cells := 1, slots := 3, locals := 0 } : Room) s m args below meth c T0 locs 1 3 → T0.heap = h0 → Fr n0 locs → Arv Z h0 bs ks .int n (own_vs ls) (.int (0 : Int32)) → Arv Z h0 bo ko .int sz (own_vs out) (.int (0 : Int32)) → out.length = 3 → 0 ≤ i.toInt → One s6 → own_ta 0 (fun x => x - 1) n ls sz fuel i ps out = some lr →
    W.Go p e below (W.Post s (fun v h L => ∃ bo ko, v = some (.ref bo) ∧ Fr n0 L ∧ Arv Z h bo ko .int sz (own_vs lr) (.int (0 : Int32))) 1 3) (T0.setTop (mkF m 21 #[.val (.ref p0), .val (.ref bo), .val (.int ps), .val (.ref bs), .val (.int n), .val (.int i), s6] [])) := by
  intro fuel
  induction fuel with
  | zero =>
    intro _ _ _ _ _ _ _ _ _ _ _ _ _ _ _ hr
    rw [own_ta0] at hr; cases hr
  | succ k ih =>
    intro h0 i ps out s6 T0 locs X0 e0 N0 VS VO hlen hi h6 hr
    refine W.iload (q := 23) X0 C d9_21 rfl rfl ?_
    refine W.iload (q := 25) X0 C d9_23 rfl rfl ?_
    refine W.icmp (q := 55) (q' := 28) X0 C d9_25 (by decide) (by decide) rfl (fun hc169 => ?_) (fun hc169 => ?_)
    · replace hc169 : n.toInt ≤ i.toInt := hc169
      rw [own_taS, if_pos hc169] at hr
      have elr := Option.some.inj hr
      subst elr
      refine W.aloadN (q := 56) X0 C d9_55 rfl rfl rfl ?_
      exact W.retA X0 C rfl e0 rfl d9_56 (by decide) (by decide) ⟨bo, ko, rfl, N0, VO⟩
    · replace hc169 : i.toInt < n.toInt := hc169
      refine W.aloadN (q := 29) X0 C d9_28 rfl rfl rfl ?_
      refine W.iload (q := 31) X0 C d9_29 rfl rfl ?_
      refine W.iaload (q := 32) X0 C e0 VS (⟨hi, hc169⟩ : own_in n i).1 (⟨hi, hc169⟩ : own_in n i).2 (own_get ls i) d9_31 rfl ?_
      refine W.istore (q := 34) (L' := #[.val (.ref p0), .val (.ref bo), .val (.int ps), .val (.ref bs), .val (.int n), .val (.int i), .val (.int (own_g 0 ls i))]) X0 C d9_32 (Jvm.Free.XS.store1 rfl h6 rfl) rfl ?_
      refine W.iload (q := 36) X0 C d9_34 rfl rfl ?_
      refine W.if_ (q := 49) (q' := 39) X0 C d9_36 (by decide) (by decide) rfl (fun hc170 => ?_) (fun hc170 => ?_)
      · replace hc170 : (own_g 0 ls i) = 0 := hc170
        rw [own_taS, if_neg (Int.not_le.mpr hc169), if_pos hc170] at hr
        refine W.iinc (q := 52) (L' := #[.val (.ref p0), .val (.ref bo), .val (.int ps), .val (.ref bs), .val (.int n), .val (.int (i + (1 : Int32))), .val (.int (own_g 0 ls i))]) X0 C d9_49 rfl rfl rfl rfl ?_
        refine W.goto (q := 21) X0 C d9_52 (by decide) (by decide) ?_
        exact ih h0 _ _ out _ T0 _ X0 e0 N0 VS VO hlen (own_inc hi hc169) (One.val rfl) hr
      · replace hc170 : (own_g 0 ls i) ≠ 0 := hc170
        rw [own_taS, if_neg (Int.not_le.mpr hc169), if_neg hc170] at hr
        obtain ⟨hps, hr⟩ := own_ifE hr
        refine W.aloadN (q := 40) X0 C d9_39 rfl rfl rfl ?_
        refine W.iloadN (q := 41) X0 C d9_40 rfl rfl ?_
        refine W.iinc (q := 44) (L' := #[.val (.ref p0), .val (.ref bo), .val (.int (ps + (1 : Int32))), .val (.ref bs), .val (.int n), .val (.int i), .val (.int (own_g 0 ls i))]) X0 C d9_41 rfl rfl rfl rfl ?_
        refine W.iload (q := 46) X0 C d9_44 rfl rfl ?_
        refine W.iconst (q := 47) (v := 1) X0 C d9_46 rfl rfl ?_
        refine W.isub (q := 48) X0 C d9_47 rfl ?_
        refine W.iastore (q := 49) X0 C e0 VO  (show own_in sz ps from hps).1 (show own_in sz ps from hps).2 (own_l3 hlen hs3 hps) d9_48 rfl (fun T171 h171 X171 e171 W171 V171_ => ?_)
        have VS_173 := VS.other W171 nebo
        have N171 := Fr.snoc X171 N0 hge
        rw [own_setv] at V171_
        refine W.iinc (q := 52) (L' := #[.val (.ref p0), .val (.ref bo), .val (.int (ps + (1 : Int32))), .val (.ref bs), .val (.int n), .val (.int (i + (1 : Int32))), .val (.int (own_g 0 ls i))]) X171 C d9_49 rfl rfl rfl rfl ?_
        refine W.goto (q := 21) X171 C d9_52 (by decide) (by decide) ?_
        exact ih h171 _ _ (own_s out ps ((own_g 0 ls i) - (1 : Int32))) _ T171 _ X171 e171 N171 VS_173 V171_ (by rw [own_s, List.length_set]; exact hlen) (own_inc hi hc169) (One.val rfl) hr
theorem d9_0 : decode prog_88_method_11_code 0 = .ok (.aload_n 0, 1) := by decide +kernel
theorem d9_1 : decode prog_88_method_11_code 1 = .ok (.getfield 13, 3) := by decide +kernel
theorem d9_4 : decode prog_88_method_11_code 4 = .ok (.newarray .int, 2) := by decide +kernel
theorem d9_6 : decode prog_88_method_11_code 6 = .ok (.astore_n 1, 1) := by decide +kernel
theorem d9_7 : decode prog_88_method_11_code 7 = .ok (.iconst 0, 1) := by decide +kernel
theorem d9_8 : decode prog_88_method_11_code 8 = .ok (.istore_n 2, 1) := by decide +kernel
theorem d9_9 : decode prog_88_method_11_code 9 = .ok (.aload_n 0, 1) := by decide +kernel
theorem d9_10 : decode prog_88_method_11_code 10 = .ok (.getfield 7, 3) := by decide +kernel
theorem d9_13 : decode prog_88_method_11_code 13 = .ok (.astore_n 3, 1) := by decide +kernel
theorem d9_14 : decode prog_88_method_11_code 14 = .ok (.aload_n 3, 1) := by decide +kernel
theorem d9_15 : decode prog_88_method_11_code 15 = .ok (.arraylength, 1) := by decide +kernel
theorem d9_16 : decode prog_88_method_11_code 16 = .ok (.istore 4, 2) := by decide +kernel
theorem d9_18 : decode prog_88_method_11_code 18 = .ok (.iconst 0, 1) := by decide +kernel
theorem d9_19 : decode prog_88_method_11_code 19 = .ok (.istore 5, 2) := by decide +kernel
def Q9 (Z : State) (p0 : Addr) (bs : Addr) (ks : ClassId) (n : Int32) (ls : List Int32) (sz hs : Int32) (lr : List Int32) (h0 : Heap) (n0 : Nat) (v : Option Value) (h : Heap) (L : List Loc) : Prop := ∃ bo ko, v = some (.ref bo) ∧ Fr n0 L ∧ Arv Z h bo ko .int sz (own_vs lr) (.int (0 : Int32))
set_option maxRecDepth 65536 in
set_option maxHeartbeats 40000000 in
theorem rm9 (l : Launch) (Z : State) (a0 : Array Value) (hw : ∀ d ∈ tables_1, d.before a0 Z = true) (ws : List Jvm.Cond) (p0 : Addr) (bs : Addr) (ks : ClassId) (n : Int32) (ls : List Int32) (sz hs : Int32) (lr : List Int32) (h0 : Heap) (n0 : Nat) (HS : own_set Z n0 h0 p0 bs ks n ls sz hs) (hs0 : 0 ≤ sz.toInt) (hs3 : sz.toInt ≤ 3) (hr : own_ta 0 (fun x => x - 1) n ls sz 9 0 0 [0, 0, 0] = some lr) :
    MetFree l (⟨"com/example/nomina/nomina/tableau/IntSet", "toArray", "()[I"⟩ : MethodName) (head1 (Jvm.Cond.code (⟨"com/example/nomina/nomina/tableau/IntSet", "toArray", "()[I"⟩ : MethodName) prog_88_method_11_code 7 (some (.array .int)) :: ws) ({ frames := 0, cells := 1, slots := 3, locals := 0 } : Room)) (fun a U => a = #[(.ref p0)] ∧ Z.Warmed39 U.vm ∧ U.heap = h0) (fun _ _ _ _ _ => True) (fun _ U o U' => ∃ v L, o = .returned v ∧ Q9 Z p0 bs ks n ls sz hs lr h0 n0 v U'.heap L ∧ FrameEnd U o U' L ({ frames := 0, cells := 1, slots := 3, locals := 0 } : Room).cells ({ frames := 0, cells := 1, slots := 3, locals := 0 } : Room).slots) := by
  refine W.bodyOf (y := (⟨"com/example/nomina/nomina/tableau/IntSet", "toArray", "()[I"⟩ : MethodName)) (as := #[(.ref p0)]) (maxL := 7) (Q := Q9 Z p0 bs ks n ls sz hs lr h0 n0) (Ls := #[.val (.ref p0), .unset, .unset, .unset, .unset, .unset, .unset]) (plainFor_of_name pn_com_example_nomina_nomina_tableau_IntSet) (fun m => by first | rfl | (simp [entryFrame, mkF, argsToLocals, Value.category]; done)) ?_
  intro p e s m below meth c T0 C X0 e0
  have N0 := Fr.nil n0
  obtain ⟨ge0_175, geb_175, neb_175, Z_175, O175, E175, Fs175, Fz175, Fh175, Fd175, V175_, ok175⟩ := HS
  refine W.aloadN (q := 1) X0 C d9_0 rfl rfl rfl ?_
  refine W.getF (host := "") (q := 4) X0 C (Or.inl (W.ww hw 21 rfl)) Via.refl e0 Fz175 d9_1 rfl (fun T176 X176 e176 => ?_)
  refine W.newarray (q := 6) X176 C (W.ww hw 10 rfl) e176 hs0 3 hs3 (by decide) d9_4 (by decide) (by decide) rfl (fun T177 h177 b177 k177 X177 e177 g177 E177 V177_ => ?_)
  have ne_p0_b177 : p0 ≠ b177 := by rw [g177]; exact Nat.ne_of_lt E175.lt
  have ne_bs_b177 : bs ≠ b177 := by rw [g177]; exact Nat.ne_of_lt V175_.lt
  have ge_b177 : n0 ≤ b177 := by rw [g177]; exact Z_175
  have n0_177 : n0 ≤ h177.size := Nat.le_trans Z_175 E177.1
  have O175_179 := O175.ext E177
  have E175_180 := E175.ext E177
  have Fs175_181 := Fs175.ext E177
  have Fz175_182 := Fz175.ext E177
  have Fh175_183 := Fh175.ext E177
  have Fd175_184 := Fd175.ext E177
  have V175__185 := V175_.ext E177
  have V177 : Arv Z h177 b177 k177 .int sz [(.int (0 : Int32)), (.int (0 : Int32)), (.int (0 : Int32))] (.int (0 : Int32)) := V177_
  refine W.astoreN (q := 7) (L' := #[.val (.ref p0), .val (.ref b177), .unset, .unset, .unset, .unset, .unset]) X177 C d9_6 rfl rfl rfl ?_
  refine W.iconst (q := 8) (v := 0) X177 C d9_7 rfl rfl ?_
  refine W.istoreN (q := 9) (L' := #[.val (.ref p0), .val (.ref b177), .val (.int (0 : Int32)), .unset, .unset, .unset, .unset]) X177 C d9_8 rfl rfl ?_
  refine W.aloadN (q := 10) X177 C d9_9 rfl rfl rfl ?_
  refine W.getF (host := "") (q := 13) X177 C (Or.inl (W.ww hw 11 rfl)) Via.refl e177 Fs175_181 d9_10 rfl (fun T186 X186 e186 => ?_)
  refine W.astoreN (q := 14) (L' := #[.val (.ref p0), .val (.ref b177), .val (.int (0 : Int32)), .val (.ref bs), .unset, .unset, .unset]) X186 C d9_13 rfl rfl rfl ?_
  refine W.aloadN (q := 15) X186 C d9_14 rfl rfl rfl ?_
  refine W.arraylength (q := 16) X186 C e186 V175__185 d9_15 rfl ?_
  refine W.istore (q := 18) (L' := #[.val (.ref p0), .val (.ref b177), .val (.int (0 : Int32)), .val (.ref bs), .val (.int n), .unset, .unset]) X186 C d9_16 rfl rfl ?_
  refine W.iconst (q := 19) (v := 0) X186 C d9_18 rfl rfl ?_
  refine W.istore (q := 21) (L' := #[.val (.ref p0), .val (.ref b177), .val (.int (0 : Int32)), .val (.ref bs), .val (.int n), .val (.int (0 : Int32)), .unset]) X186 C d9_19 rfl rfl ?_
  have VV : Arv Z h177 b177 k177 .int sz (own_vs [0, 0, 0]) (.int (0 : Int32)) := V177
  exact own_tloop l Z n0 p0 bs b177 ks k177 ls lr n sz ge_b177 ne_bs_b177 hs3 C 9 h177 _ _ _ .unset T186 _ X186 e186 N0 V175__185 VV rfl (by decide) One.u hr
theorem d10_0 : decode method_3_code 0 = .ok (.iload_n 0, 1) := by decide +kernel
theorem d10_1 : decode method_3_code 1 = .ok (.iload_n 1, 1) := by decide +kernel
theorem d10_2 : decode method_3_code 2 = .ok (.if_icmp .eq 13, 3) := by decide +kernel
theorem d10_15 : decode method_3_code 15 = .ok (.iload 4, 2) := by decide +kernel
theorem d10_17 : decode method_3_code 17 = .ok (.ifCond .eq 9, 3) := by decide +kernel
theorem d10_26 : decode method_3_code 26 = .ok (.iconst 1, 1) := by decide +kernel
theorem d10_27 : decode method_3_code 27 = .ok (.goto 4, 3) := by decide +kernel
theorem d10_31 : decode method_3_code 31 = .ok (.ireturn, 1) := by decide +kernel
theorem d10_20 : decode method_3_code 20 = .ok (.iload_n 0, 1) := by decide +kernel
theorem d10_21 : decode method_3_code 21 = .ok (.iload 5, 2) := by decide +kernel
theorem d10_23 : decode method_3_code 23 = .ok (.if_icmp .eq 7, 3) := by decide +kernel
theorem d10_30 : decode method_3_code 30 = .ok (.iconst 0, 1) := by decide +kernel
theorem d10_5 : decode method_3_code 5 = .ok (.iload_n 0, 1) := by decide +kernel
theorem d10_6 : decode method_3_code 6 = .ok (.iload_n 2, 1) := by decide +kernel
theorem d10_7 : decode method_3_code 7 = .ok (.if_icmp .eq 8, 3) := by decide +kernel
theorem d10_10 : decode method_3_code 10 = .ok (.iload_n 0, 1) := by decide +kernel
theorem d10_11 : decode method_3_code 11 = .ok (.iload_n 3, 1) := by decide +kernel
theorem d10_12 : decode method_3_code 12 = .ok (.if_icmp .ne 18, 3) := by decide +kernel
theorem pn_com_example_nomina_nomina_tableau_IntSetToArrayPinLaw : plainName "com/example/nomina/nomina/tableau/IntSetToArrayPinLaw" = true := by first | (simp [plainName, overriddenIn]; done) | decide +kernel
def Q10 (Z : State) (p0 p1 p2 p3 p4 p5 : Int32) (h0 : Heap) (n0 : Nat) (v : Option Value) (h : Heap) (L : List Loc) : Prop := v = some (.int (if own_pres p0 p1 p2 p3 (own_R p4 p5) = true then (1 : Int32) else 0)) ∧ Fr n0 L ∧ h = h0
set_option maxRecDepth 65536 in
set_option maxHeartbeats 40000000 in
theorem rm10 (l : Launch) (Z : State) (a0 : Array Value) (hw : ∀ d ∈ tables_1, d.before a0 Z = true) (ws : List Jvm.Cond) (p0 p1 p2 p3 p4 p5 : Int32) (h0 : Heap) (n0 : Nat) :
    MetFree l (⟨"com/example/nomina/nomina/tableau/IntSetToArrayPinLaw", "present", "(IIIIZI)Z"⟩ : MethodName) (head1 (Jvm.Cond.code (⟨"com/example/nomina/nomina/tableau/IntSetToArrayPinLaw", "present", "(IIIIZI)Z"⟩ : MethodName) method_3_code 6 (some .boolean) :: ws) ({ frames := 0, cells := 0, slots := 0, locals := 0 } : Room)) (fun a U => a = #[(.int p0), (.int p1), (.int p2), (.int p3), (.int p4), (.int p5)] ∧ Z.Warmed39 U.vm ∧ U.heap = h0) (fun _ _ _ _ _ => True) (fun _ U o U' => ∃ v L, o = .returned v ∧ Q10 Z p0 p1 p2 p3 p4 p5 h0 n0 v U'.heap L ∧ FrameEnd U o U' L ({ frames := 0, cells := 0, slots := 0, locals := 0 } : Room).cells ({ frames := 0, cells := 0, slots := 0, locals := 0 } : Room).slots) := by
  refine W.bodyOf (y := (⟨"com/example/nomina/nomina/tableau/IntSetToArrayPinLaw", "present", "(IIIIZI)Z"⟩ : MethodName)) (as := #[(.int p0), (.int p1), (.int p2), (.int p3), (.int p4), (.int p5)]) (maxL := 6) (Q := Q10 Z p0 p1 p2 p3 p4 p5 h0 n0) (Ls := #[.val (.int p0), .val (.int p1), .val (.int p2), .val (.int p3), .val (.int p4), .val (.int p5)]) (plainFor_of_name pn_com_example_nomina_nomina_tableau_IntSetToArrayPinLaw) (fun m => by first | rfl | (simp [entryFrame, mkF, argsToLocals, Value.category]; done)) ?_
  intro p e s m below meth c T0 C X0 e0
  have N0 := Fr.nil n0
  refine W.iloadN (q := 1) X0 C d10_0 rfl rfl ?_
  refine W.iloadN (q := 2) X0 C d10_1 rfl rfl ?_
  refine W.icmp (q := 15) (q' := 5) X0 C d10_2 (by decide) (by decide) rfl (fun hc187 => ?_) (fun hc187 => ?_)
  · replace hc187 : p0 = p1 := hc187
    subst hc187
    refine W.iload (q := 17) X0 C d10_15 rfl rfl ?_
    refine W.if_ (q := 26) (q' := 20) X0 C d10_17 (by decide) (by decide) rfl (fun hc188 => ?_) (fun hc188 => ?_)
    · replace hc188 : p4 = 0 := hc188
      refine W.iconst (q := 27) (v := 1) X0 C d10_26 rfl rfl ?_
      refine W.goto (q := 31) X0 C d10_27 (by decide) (by decide) ?_
      exact W.retN X0 C (by simp) e0 d10_31 rfl (by decide) (by decide) ⟨by simp [own_pres, own_R, hc188], N0, rfl⟩
    · replace hc188 : p4 ≠ 0 := hc188
      refine W.iloadN (q := 21) X0 C d10_20 rfl rfl ?_
      refine W.iload (q := 23) X0 C d10_21 rfl rfl ?_
      refine W.icmp (q := 30) (q' := 26) X0 C d10_23 (by decide) (by decide) rfl (fun hc189 => ?_) (fun hc189 => ?_)
      · replace hc189 : p0 = p5 := hc189
        subst hc189
        refine W.iconst (q := 31) (v := 0) X0 C d10_30 rfl rfl ?_
        exact W.retN X0 C (by simp) e0 d10_31 rfl (by decide) (by decide) ⟨by simp [own_pres, own_R, hc188], N0, rfl⟩
      · replace hc189 : p0 ≠ p5 := hc189
        refine W.iconst (q := 27) (v := 1) X0 C d10_26 rfl rfl ?_
        refine W.goto (q := 31) X0 C d10_27 (by decide) (by decide) ?_
        exact W.retN X0 C (by simp) e0 d10_31 rfl (by decide) (by decide) ⟨by simp [own_pres, own_R, hc188, hc189], N0, rfl⟩
  · replace hc187 : p0 ≠ p1 := hc187
    refine W.iloadN (q := 6) X0 C d10_5 rfl rfl ?_
    refine W.iloadN (q := 7) X0 C d10_6 rfl rfl ?_
    refine W.icmp (q := 15) (q' := 10) X0 C d10_7 (by decide) (by decide) rfl (fun hc190 => ?_) (fun hc190 => ?_)
    · replace hc190 : p0 = p2 := hc190
      subst hc190
      refine W.iload (q := 17) X0 C d10_15 rfl rfl ?_
      refine W.if_ (q := 26) (q' := 20) X0 C d10_17 (by decide) (by decide) rfl (fun hc191 => ?_) (fun hc191 => ?_)
      · replace hc191 : p4 = 0 := hc191
        refine W.iconst (q := 27) (v := 1) X0 C d10_26 rfl rfl ?_
        refine W.goto (q := 31) X0 C d10_27 (by decide) (by decide) ?_
        exact W.retN X0 C (by simp) e0 d10_31 rfl (by decide) (by decide) ⟨by simp [own_pres, own_R, hc187, hc191], N0, rfl⟩
      · replace hc191 : p4 ≠ 0 := hc191
        refine W.iloadN (q := 21) X0 C d10_20 rfl rfl ?_
        refine W.iload (q := 23) X0 C d10_21 rfl rfl ?_
        refine W.icmp (q := 30) (q' := 26) X0 C d10_23 (by decide) (by decide) rfl (fun hc192 => ?_) (fun hc192 => ?_)
        · replace hc192 : p0 = p5 := hc192
          subst hc192
          refine W.iconst (q := 31) (v := 0) X0 C d10_30 rfl rfl ?_
          exact W.retN X0 C (by simp) e0 d10_31 rfl (by decide) (by decide) ⟨by simp [own_pres, own_R, hc187, hc191], N0, rfl⟩
        · replace hc192 : p0 ≠ p5 := hc192
          refine W.iconst (q := 27) (v := 1) X0 C d10_26 rfl rfl ?_
          refine W.goto (q := 31) X0 C d10_27 (by decide) (by decide) ?_
          exact W.retN X0 C (by simp) e0 d10_31 rfl (by decide) (by decide) ⟨by simp [own_pres, own_R, hc187, hc191, hc192], N0, rfl⟩
    · replace hc190 : p0 ≠ p2 := hc190
      refine W.iloadN (q := 11) X0 C d10_10 rfl rfl ?_
      refine W.iloadN (q := 12) X0 C d10_11 rfl rfl ?_
      refine W.icmp (q := 30) (q' := 15) X0 C d10_12 (by decide) (by decide) rfl (fun hc193 => ?_) (fun hc193 => ?_)
      · replace hc193 : p0 ≠ p3 := hc193
        refine W.iconst (q := 31) (v := 0) X0 C d10_30 rfl rfl ?_
        exact W.retN X0 C (by simp) e0 d10_31 rfl (by decide) (by decide) ⟨by simp [own_pres, own_R, hc187, hc190, hc193], N0, rfl⟩
      · replace hc193 : p0 = p3 := hc193
        subst hc193
        refine W.iload (q := 17) X0 C d10_15 rfl rfl ?_
        refine W.if_ (q := 26) (q' := 20) X0 C d10_17 (by decide) (by decide) rfl (fun hc194 => ?_) (fun hc194 => ?_)
        · replace hc194 : p4 = 0 := hc194
          refine W.iconst (q := 27) (v := 1) X0 C d10_26 rfl rfl ?_
          refine W.goto (q := 31) X0 C d10_27 (by decide) (by decide) ?_
          exact W.retN X0 C (by simp) e0 d10_31 rfl (by decide) (by decide) ⟨by simp [own_pres, own_R, hc187, hc190, hc194], N0, rfl⟩
        · replace hc194 : p4 ≠ 0 := hc194
          refine W.iloadN (q := 21) X0 C d10_20 rfl rfl ?_
          refine W.iload (q := 23) X0 C d10_21 rfl rfl ?_
          refine W.icmp (q := 30) (q' := 26) X0 C d10_23 (by decide) (by decide) rfl (fun hc195 => ?_) (fun hc195 => ?_)
          · replace hc195 : p0 = p5 := hc195
            subst hc195
            refine W.iconst (q := 31) (v := 0) X0 C d10_30 rfl rfl ?_
            exact W.retN X0 C (by simp) e0 d10_31 rfl (by decide) (by decide) ⟨by simp [own_pres, own_R, hc187, hc190, hc194], N0, rfl⟩
          · replace hc195 : p0 ≠ p5 := hc195
            refine W.iconst (q := 27) (v := 1) X0 C d10_26 rfl rfl ?_
            refine W.goto (q := 31) X0 C d10_27 (by decide) (by decide) ?_
            exact W.retN X0 C (by simp) e0 d10_31 rfl (by decide) (by decide) ⟨by simp [own_pres, own_R, hc187, hc190, hc194, hc195], N0, rfl⟩
theorem d1_0 : decode prog_88_method_1_code 0 = .ok (.aload_n 0, 1) := by decide +kernel
theorem d1_1 : decode prog_88_method_1_code 1 = .ok (.invokespecial 1, 3) := by decide +kernel
theorem d1_4 : decode prog_88_method_1_code 4 = .ok (.aload_n 0, 1) := by decide +kernel
theorem d1_5 : decode prog_88_method_1_code 5 = .ok (.iconst 4, 1) := by decide +kernel
theorem d1_6 : decode prog_88_method_1_code 6 = .ok (.newarray .int, 2) := by decide +kernel
theorem d1_8 : decode prog_88_method_1_code 8 = .ok (.putfield 7, 3) := by decide +kernel
theorem d1_11 : decode prog_88_method_1_code 11 = .ok (.return_, 1) := by decide +kernel
def Q1 (Z : State) (p0 : Addr) (h0 : Heap) (n0 : Nat) (v : Option Value) (h : Heap) (L : List Loc) : Prop := v = none ∧ Fr n0 L ∧ ∃ bs ks, own_set Z n0 h p0 bs ks (4 : Int32) [0, 0, 0, 0] 0 0
set_option maxRecDepth 65536 in
set_option maxHeartbeats 40000000 in
theorem rm1 (l : Launch) (Z : State) (a0 : Array Value) (hw : ∀ d ∈ tables_1, d.before a0 Z = true) (ws : List Jvm.Cond) (p0 : Addr) (h0 : Heap) (n0 : Nat) (Z0 : n0 ≤ h0.size) (O0 : Old Z n0 h0) (hge : n0 ≤ p0) (E0 : Exa Z h0 p0 "com/example/nomina/nomina/tableau/IntSet") (F0a : Fld Z h0 p0 "com/example/nomina/nomina/tableau/IntSet" "slots" "[I" .null) (F0b : Fld Z h0 p0 "com/example/nomina/nomina/tableau/IntSet" "size" "I" (.int (0 : Int32))) (F0c : Fld Z h0 p0 "com/example/nomina/nomina/tableau/IntSet" "contentHash" "I" (.int (0 : Int32))) (F0d : Fld Z h0 p0 "com/example/nomina/nomina/tableau/IntSet" "dependencies" "[Lcom/example/nomina/nomina/tableau/Dependencies;" .null) :
    MetFree l (⟨"com/example/nomina/nomina/tableau/IntSet", "<init>", "()V"⟩ : MethodName) (head1 (Jvm.Cond.code (⟨"com/example/nomina/nomina/tableau/IntSet", "<init>", "()V"⟩ : MethodName) prog_88_method_1_code 1 none :: ws) ({ frames := 1, cells := 1, slots := 4, locals := 12 } : Room)) (fun a U => a = #[(.ref p0)] ∧ Z.Warmed39 U.vm ∧ U.heap = h0) (fun _ _ _ _ _ => True) (fun _ U o U' => ∃ v L, o = .returned v ∧ Q1 Z p0 h0 n0 v U'.heap L ∧ FrameEnd U o U' L ({ frames := 1, cells := 1, slots := 4, locals := 12 } : Room).cells ({ frames := 1, cells := 1, slots := 4, locals := 12 } : Room).slots) := by
  refine W.bodyOf (y := (⟨"com/example/nomina/nomina/tableau/IntSet", "<init>", "()V"⟩ : MethodName)) (as := #[(.ref p0)]) (maxL := 1) (Q := Q1 Z p0 h0 n0) (Ls := #[.val (.ref p0)]) (plainFor_of_name pn_com_example_nomina_nomina_tableau_IntSet) (fun m => by first | rfl | (simp [entryFrame, mkF, argsToLocals, Value.category]; done)) ?_
  intro p e s m below meth c T0 C X0 e0
  have N0 := Fr.nil n0
  refine W.aloadN (q := 1) X0 C d1_0 rfl rfl rfl ?_
  refine W.initObj (q := 4) X0 C (W.ww hw 7 rfl) (W.ww hw 8 rfl) (W.ww hw 9 rfl) e0 d1_1 rfl (by decide) (Nat.le_of_ble_eq_true rfl) rfl (fun T196 X196 e196 => ?_)
  refine W.aloadN (q := 5) X196 C d1_4 rfl rfl rfl ?_
  refine W.iconst (q := 6) (v := 4) X196 C d1_5 rfl rfl ?_
  refine W.newarray (q := 8) X196 C (W.ww hw 10 rfl) e196 (by decide) 4 (by decide) (by decide) d1_6 (by decide) (by decide) rfl (fun T197 h197 b197 k197 X197 e197 g197 E197 V197_ => ?_)
  have ne_p0_b197 : p0 ≠ b197 := by rw [g197]; exact Nat.ne_of_lt E0.lt
  have ge_b197 : n0 ≤ b197 := by rw [g197]; exact Z0
  have n0_197 : n0 ≤ h197.size := Nat.le_trans Z0 E197.1
  have O0_199 := O0.ext E197
  have E0_200 := E0.ext E197
  have F0a_201 := F0a.ext E197
  have F0b_202 := F0b.ext E197
  have F0c_203 := F0c.ext E197
  have F0d_204 := F0d.ext E197
  have V197 : Arv Z h197 b197 k197 .int (4 : Int32) [(.int (0 : Int32)), (.int (0 : Int32)), (.int (0 : Int32)), (.int (0 : Int32))] (.int (0 : Int32)) := V197_
  refine W.putF (host := "") (q := 11) X197 C (Or.inl (W.ww hw 11 rfl)) Via.refl e197 F0a_201 E0_200 (Or.inl (W.ww hw 12 rfl)) (W.ww hw 2 rfl) (ty := (.array .int)) (by decide) rfl rfl d1_8 rfl (fun T205 h205 X205 e205 W205 => ?_)
  have Fw205 := F0a_201.same W205
  have O0_207 := O0_199.wr W205 hge
  have E0_208 := E0_200.wr W205
  have F0b_210 := F0b_202.other W205 (Or.inr (slot_ne (Or.inl (W.ww hw 22 rfl)) (Or.inl (W.ww hw 12 rfl)) (by decide) (t := .int) (t' := (.array .int)) (by decide) (by decide)))
  have F0c_211 := F0c_203.other W205 (Or.inr (slot_ne (Or.inl (W.ww hw 31 rfl)) (Or.inl (W.ww hw 12 rfl)) (by decide) (t := .int) (t' := (.array .int)) (by decide) (by decide)))
  have F0d_212 := F0d_204.other W205 (Or.inr (slot_ne (Or.inl (W.ww hw 49 rfl)) (Or.inl (W.ww hw 12 rfl)) (by decide) (t := (.array (.object "com/example/nomina/nomina/tableau/Dependencies"))) (t' := (.array .int)) (by decide) (by decide)))
  have V197_213 := V197.other W205 (Ne.symm ne_p0_b197)
  have N205 := Fr.snoc X205 N0 hge
  have n0_205 : n0 ≤ h205.size := by rw [W205.size]; exact n0_197
  have VV : Arv Z h205 b197 k197 .int (4 : Int32) (own_vs [0, 0, 0, 0]) (.int (0 : Int32)) := V197_213
  exact W.retV X205 C e205 d1_11 (by decide) (by decide) ⟨rfl, N205, b197, k197, ⟨hge, ge_b197, ne_p0_b197, n0_205, O0_207, E0_208, Fw205, F0b_210, F0c_211, F0d_212, VV, ⟨Or.inl rfl, rfl⟩⟩⟩
theorem own_ix0 {n : Int32} (h : 1 ≤ n.toInt) : own_in n (0 : Int32) := ⟨by decide, by have : (0 : Int32).toInt = 0 := rfl; omega⟩
theorem own_ix1 {n : Int32} (h : 2 ≤ n.toInt) : own_in n (1 : Int32) := ⟨by decide, by have : (1 : Int32).toInt = 1 := rfl; omega⟩
theorem own_ix2 {n : Int32} (h : 3 ≤ n.toInt) : own_in n (2 : Int32) := ⟨by decide, by have : (2 : Int32).toInt = 2 := rfl; omega⟩
theorem pd__28IIIIZI_29Z : parseMethodDescriptor "(IIIIZI)Z" = some ⟨[.int, .int, .int, .int, .boolean, .int], some .boolean⟩ := by decide +kernel
set_option maxRecDepth 65536 in
set_option maxHeartbeats 40000000 in
theorem own_p218 (l : Launch) (Z : State) (a0 : Array Value) (hw : ∀ d ∈ tables_1, d.before a0 Z = true) (h0 : Heap) (n0 : Nat) (p0 p1 p2 p3 p4 va vb vc vd vm vt vr : Int32) (q0 na bo : Addr) (ko : ClassId) (out : List Int32) (cnt : Int32) (cc cs : Nat) (hcc : cc ≤ 16) (hcs : cs ≤ 128) {p : Program} {e : Env} {s : State} {m : MethodId} {args : Array Value} {below : List Frame} {meth : Method} {c : Code} {T0 : State} {locs : List Loc}
    (C : W.Cx p s m meth c Z code 16 "com/example/nomina/nomina/tableau/IntSetToArrayPinLaw" "law" (some .boolean)) (X0 : Stand p l e room_1 s m args below meth c T0 locs cc cs) (e0 : T0.heap = h0) (N0 : Fr n0 locs) (VO : Arv Z h0 bo ko .int cnt (own_vs out) (.int (0 : Int32))) (hE : own_end (fun j => own_g 0 out j) cnt va vb vc (own_R vt vr)) :
    W.Go p e below (W.Post s (fun v h L => v = some (.int 1) ∧ Fr n0 L) room_1.cells room_1.slots) (T0.setTop (mkF m 218 #[.val (.int p0), .val (.int p1), .val (.int p2), .val (.int p3), .val (.int p4), .val (.int va), .val (.int vb), .val (.int vc), .val (.int vd), .val (.int vm), .val (.int vt), .val (.int vr), .val (.ref q0), .val (.ref na), .val (.ref bo), .val (.int cnt)] [])) := by
  refine W.aload (q := 220) X0 C at_218 rfl rfl rfl ?_
  refine W.arraylength (q := 221) X0 C e0 VO at_220 rfl ?_
  refine W.iload (q := 223) X0 C at_221 rfl rfl ?_
  refine W.icmpT (q := 228) X0 C at_223 (by decide) (by decide) rfl ?_
  refine W.iload (q := 230) X0 C at_228 rfl rfl ?_
  refine W.iconst (q := 231) (v := 1) X0 C at_230 rfl rfl ?_
  refine W.icmp (q := 256) (q' := 234) X0 C at_231 (by decide) (by decide) rfl (fun hc214 => ?_) (fun hc214 => ?_)
  · replace hc214 : cnt.toInt < 1 := hc214
    refine W.iload (q := 258) X0 C at_256 rfl rfl ?_
    refine W.iconst (q := 259) (v := 2) X0 C at_258 rfl rfl ?_
    refine W.icmp (q := 295) (q' := 262) X0 C at_259 (by decide) (by decide) rfl (fun hc215 => ?_) (fun hc215 => ?_)
    · replace hc215 : cnt.toInt < 2 := hc215
      refine W.iload (q := 297) X0 C at_295 rfl rfl ?_
      refine W.iconst (q := 298) (v := 3) X0 C at_297 rfl rfl ?_
      refine W.icmp (q := 345) (q' := 301) X0 C at_298 (by decide) (by decide) rfl (fun hc216 => ?_) (fun hc216 => ?_)
      · replace hc216 : cnt.toInt < 3 := hc216
        refine W.iconst (q := 346) (v := 1) X0 C at_345 rfl rfl ?_
        exact W.retN X0 C (by simp) e0 at_346 rfl (by first | omega | (simp only [room_1]; omega) | (dsimp only; omega)) (by first | omega | (simp only [room_1]; omega) | (dsimp only; omega)) ⟨rfl, N0⟩
      · replace hc216 : 3 ≤ cnt.toInt := hc216
        refine W.aload (q := 303) X0 C at_301 rfl rfl rfl ?_
        refine W.iconst (q := 304) (v := 2) X0 C at_303 rfl rfl ?_
        refine W.iaload (q := 305) X0 C e0 VO (own_ix2 (show 3 ≤ cnt.toInt by omega)).1 (own_ix2 (show 3 ≤ cnt.toInt by omega)).2 (own_get out (2 : Int32)) at_304 rfl ?_
        refine W.iload (q := 307) X0 C at_305 rfl rfl ?_
        refine W.iload (q := 309) X0 C at_307 rfl rfl ?_
        refine W.iload (q := 311) X0 C at_309 rfl rfl ?_
        refine W.iload (q := 313) X0 C at_311 rfl rfl ?_
        refine W.iload (q := 315) X0 C at_313 rfl rfl ?_
        refine W.callS (q := 318) X0 C (W.ww hw 55 rfl) (W.ww hw 56 rfl) (W.ww hw 57 rfl) (W.ww hw 58 rfl) (by decide) (rm10 l Z a0 hw [] (own_g 0 out (2 : Int32)) va vb vc vt vr h0 n0) e0 at_315 [(.int (own_g 0 out (2 : Int32))), (.int va), (.int vb), (.int vc), (.int vt), (.int vr)] [] rfl rfl pd__28IIIIZI_29Z rfl rfl (by decide) (Nat.le_of_ble_eq_true rfl) (by first | omega | (simp only [room_1]; omega) | (dsimp only; omega)) (by first | omega | (simp only [room_1]; omega) | (dsimp only; omega)) rfl (fun T217 w217 L217 X217 hQ217 => ?_)
        obtain ⟨rfl, NL217, e217⟩ := hQ217
        have N217 := Fr.app N0 NL217
        show W.Go p e below _ (T217.setTop (mkF m 318 #[.val (.int p0), .val (.int p1), .val (.int p2), .val (.int p3), .val (.int p4), .val (.int va), .val (.int vb), .val (.int vc), .val (.int vd), .val (.int vm), .val (.int vt), .val (.int vr), .val (.ref q0), .val (.ref na), .val (.ref bo), .val (.int cnt)] [(.int (if own_pres (own_g 0 out (2 : Int32)) va vb vc (own_R vt vr) = true then (1 : Int32) else 0))]))
        refine W.ifF (q := 321) X217 C at_318 rfl (own_bt (hE.2.2.2 hc216).1) ?_
        refine W.aload (q := 323) X217 C at_321 rfl rfl rfl ?_
        refine W.iconst (q := 324) (v := 2) X217 C at_323 rfl rfl ?_
        refine W.iaload (q := 325) X217 C e217 VO (own_ix2 (show 3 ≤ cnt.toInt by omega)).1 (own_ix2 (show 3 ≤ cnt.toInt by omega)).2 (own_get out (2 : Int32)) at_324 rfl ?_
        refine W.aload (q := 327) X217 C at_325 rfl rfl rfl ?_
        refine W.iconst (q := 328) (v := 0) X217 C at_327 rfl rfl ?_
        refine W.iaload (q := 329) X217 C e217 VO (own_ix0 (show 1 ≤ cnt.toInt by omega)).1 (own_ix0 (show 1 ≤ cnt.toInt by omega)).2 (own_get out (0 : Int32)) at_328 rfl ?_
        refine W.icmpF (q := 332) X217 C at_329 rfl ((hE.2.2.2 hc216).2.1) ?_
        refine W.aload (q := 334) X217 C at_332 rfl rfl rfl ?_
        refine W.iconst (q := 335) (v := 2) X217 C at_334 rfl rfl ?_
        refine W.iaload (q := 336) X217 C e217 VO (own_ix2 (show 3 ≤ cnt.toInt by omega)).1 (own_ix2 (show 3 ≤ cnt.toInt by omega)).2 (own_get out (2 : Int32)) at_335 rfl ?_
        refine W.aload (q := 338) X217 C at_336 rfl rfl rfl ?_
        refine W.iconst (q := 339) (v := 1) X217 C at_338 rfl rfl ?_
        refine W.iaload (q := 340) X217 C e217 VO (own_ix1 (show 2 ≤ cnt.toInt by omega)).1 (own_ix1 (show 2 ≤ cnt.toInt by omega)).2 (own_get out (1 : Int32)) at_339 rfl ?_
        refine W.icmpT (q := 345) X217 C at_340 (by decide) (by decide) ((hE.2.2.2 hc216).2.2) ?_
        refine W.iconst (q := 346) (v := 1) X217 C at_345 rfl rfl ?_
        exact W.retN X217 C (by simp) e217 at_346 rfl (by first | omega | (simp only [room_1]; omega) | (dsimp only; omega)) (by first | omega | (simp only [room_1]; omega) | (dsimp only; omega)) ⟨rfl, N217⟩
    · replace hc215 : 2 ≤ cnt.toInt := hc215
      refine W.aload (q := 264) X0 C at_262 rfl rfl rfl ?_
      refine W.iconst (q := 265) (v := 1) X0 C at_264 rfl rfl ?_
      refine W.iaload (q := 266) X0 C e0 VO (own_ix1 (show 2 ≤ cnt.toInt by omega)).1 (own_ix1 (show 2 ≤ cnt.toInt by omega)).2 (own_get out (1 : Int32)) at_265 rfl ?_
      refine W.iload (q := 268) X0 C at_266 rfl rfl ?_
      refine W.iload (q := 270) X0 C at_268 rfl rfl ?_
      refine W.iload (q := 272) X0 C at_270 rfl rfl ?_
      refine W.iload (q := 274) X0 C at_272 rfl rfl ?_
      refine W.iload (q := 276) X0 C at_274 rfl rfl ?_
      refine W.callS (q := 279) X0 C (W.ww hw 55 rfl) (W.ww hw 56 rfl) (W.ww hw 57 rfl) (W.ww hw 58 rfl) (by decide) (rm10 l Z a0 hw [] (own_g 0 out (1 : Int32)) va vb vc vt vr h0 n0) e0 at_276 [(.int (own_g 0 out (1 : Int32))), (.int va), (.int vb), (.int vc), (.int vt), (.int vr)] [] rfl rfl pd__28IIIIZI_29Z rfl rfl (by decide) (Nat.le_of_ble_eq_true rfl) (by first | omega | (simp only [room_1]; omega) | (dsimp only; omega)) (by first | omega | (simp only [room_1]; omega) | (dsimp only; omega)) rfl (fun T218 w218 L218 X218 hQ218 => ?_)
      obtain ⟨rfl, NL218, e218⟩ := hQ218
      have N218 := Fr.app N0 NL218
      show W.Go p e below _ (T218.setTop (mkF m 279 #[.val (.int p0), .val (.int p1), .val (.int p2), .val (.int p3), .val (.int p4), .val (.int va), .val (.int vb), .val (.int vc), .val (.int vd), .val (.int vm), .val (.int vt), .val (.int vr), .val (.ref q0), .val (.ref na), .val (.ref bo), .val (.int cnt)] [(.int (if own_pres (own_g 0 out (1 : Int32)) va vb vc (own_R vt vr) = true then (1 : Int32) else 0))]))
      refine W.ifF (q := 282) X218 C at_279 rfl (own_bt (hE.2.2.1 hc215).1) ?_
      refine W.aload (q := 284) X218 C at_282 rfl rfl rfl ?_
      refine W.iconst (q := 285) (v := 1) X218 C at_284 rfl rfl ?_
      refine W.iaload (q := 286) X218 C e218 VO (own_ix1 (show 2 ≤ cnt.toInt by omega)).1 (own_ix1 (show 2 ≤ cnt.toInt by omega)).2 (own_get out (1 : Int32)) at_285 rfl ?_
      refine W.aload (q := 288) X218 C at_286 rfl rfl rfl ?_
      refine W.iconst (q := 289) (v := 0) X218 C at_288 rfl rfl ?_
      refine W.iaload (q := 290) X218 C e218 VO (own_ix0 (show 1 ≤ cnt.toInt by omega)).1 (own_ix0 (show 1 ≤ cnt.toInt by omega)).2 (own_get out (0 : Int32)) at_289 rfl ?_
      refine W.icmpT (q := 295) X218 C at_290 (by decide) (by decide) ((hE.2.2.1 hc215).2) ?_
      refine W.iload (q := 297) X218 C at_295 rfl rfl ?_
      refine W.iconst (q := 298) (v := 3) X218 C at_297 rfl rfl ?_
      refine W.icmp (q := 345) (q' := 301) X218 C at_298 (by decide) (by decide) rfl (fun hc219 => ?_) (fun hc219 => ?_)
      · replace hc219 : cnt.toInt < 3 := hc219
        refine W.iconst (q := 346) (v := 1) X218 C at_345 rfl rfl ?_
        exact W.retN X218 C (by simp) e218 at_346 rfl (by first | omega | (simp only [room_1]; omega) | (dsimp only; omega)) (by first | omega | (simp only [room_1]; omega) | (dsimp only; omega)) ⟨rfl, N218⟩
      · replace hc219 : 3 ≤ cnt.toInt := hc219
        refine W.aload (q := 303) X218 C at_301 rfl rfl rfl ?_
        refine W.iconst (q := 304) (v := 2) X218 C at_303 rfl rfl ?_
        refine W.iaload (q := 305) X218 C e218 VO (own_ix2 (show 3 ≤ cnt.toInt by omega)).1 (own_ix2 (show 3 ≤ cnt.toInt by omega)).2 (own_get out (2 : Int32)) at_304 rfl ?_
        refine W.iload (q := 307) X218 C at_305 rfl rfl ?_
        refine W.iload (q := 309) X218 C at_307 rfl rfl ?_
        refine W.iload (q := 311) X218 C at_309 rfl rfl ?_
        refine W.iload (q := 313) X218 C at_311 rfl rfl ?_
        refine W.iload (q := 315) X218 C at_313 rfl rfl ?_
        refine W.callS (q := 318) X218 C (W.ww hw 55 rfl) (W.ww hw 56 rfl) (W.ww hw 57 rfl) (W.ww hw 58 rfl) (by decide) (rm10 l Z a0 hw [] (own_g 0 out (2 : Int32)) va vb vc vt vr h0 n0) e218 at_315 [(.int (own_g 0 out (2 : Int32))), (.int va), (.int vb), (.int vc), (.int vt), (.int vr)] [] rfl rfl pd__28IIIIZI_29Z rfl rfl (by decide) (Nat.le_of_ble_eq_true rfl) (by first | omega | (simp only [room_1]; omega) | (dsimp only; omega)) (by first | omega | (simp only [room_1]; omega) | (dsimp only; omega)) rfl (fun T220 w220 L220 X220 hQ220 => ?_)
        obtain ⟨rfl, NL220, e220⟩ := hQ220
        have N220 := Fr.app N218 NL220
        show W.Go p e below _ (T220.setTop (mkF m 318 #[.val (.int p0), .val (.int p1), .val (.int p2), .val (.int p3), .val (.int p4), .val (.int va), .val (.int vb), .val (.int vc), .val (.int vd), .val (.int vm), .val (.int vt), .val (.int vr), .val (.ref q0), .val (.ref na), .val (.ref bo), .val (.int cnt)] [(.int (if own_pres (own_g 0 out (2 : Int32)) va vb vc (own_R vt vr) = true then (1 : Int32) else 0))]))
        refine W.ifF (q := 321) X220 C at_318 rfl (own_bt (hE.2.2.2 hc219).1) ?_
        refine W.aload (q := 323) X220 C at_321 rfl rfl rfl ?_
        refine W.iconst (q := 324) (v := 2) X220 C at_323 rfl rfl ?_
        refine W.iaload (q := 325) X220 C e220 VO (own_ix2 (show 3 ≤ cnt.toInt by omega)).1 (own_ix2 (show 3 ≤ cnt.toInt by omega)).2 (own_get out (2 : Int32)) at_324 rfl ?_
        refine W.aload (q := 327) X220 C at_325 rfl rfl rfl ?_
        refine W.iconst (q := 328) (v := 0) X220 C at_327 rfl rfl ?_
        refine W.iaload (q := 329) X220 C e220 VO (own_ix0 (show 1 ≤ cnt.toInt by omega)).1 (own_ix0 (show 1 ≤ cnt.toInt by omega)).2 (own_get out (0 : Int32)) at_328 rfl ?_
        refine W.icmpF (q := 332) X220 C at_329 rfl ((hE.2.2.2 hc219).2.1) ?_
        refine W.aload (q := 334) X220 C at_332 rfl rfl rfl ?_
        refine W.iconst (q := 335) (v := 2) X220 C at_334 rfl rfl ?_
        refine W.iaload (q := 336) X220 C e220 VO (own_ix2 (show 3 ≤ cnt.toInt by omega)).1 (own_ix2 (show 3 ≤ cnt.toInt by omega)).2 (own_get out (2 : Int32)) at_335 rfl ?_
        refine W.aload (q := 338) X220 C at_336 rfl rfl rfl ?_
        refine W.iconst (q := 339) (v := 1) X220 C at_338 rfl rfl ?_
        refine W.iaload (q := 340) X220 C e220 VO (own_ix1 (show 2 ≤ cnt.toInt by omega)).1 (own_ix1 (show 2 ≤ cnt.toInt by omega)).2 (own_get out (1 : Int32)) at_339 rfl ?_
        refine W.icmpT (q := 345) X220 C at_340 (by decide) (by decide) ((hE.2.2.2 hc219).2.2) ?_
        refine W.iconst (q := 346) (v := 1) X220 C at_345 rfl rfl ?_
        exact W.retN X220 C (by simp) e220 at_346 rfl (by first | omega | (simp only [room_1]; omega) | (dsimp only; omega)) (by first | omega | (simp only [room_1]; omega) | (dsimp only; omega)) ⟨rfl, N220⟩
  · replace hc214 : 1 ≤ cnt.toInt := hc214
    refine W.aload (q := 236) X0 C at_234 rfl rfl rfl ?_
    refine W.iconst (q := 237) (v := 0) X0 C at_236 rfl rfl ?_
    refine W.iaload (q := 238) X0 C e0 VO (own_ix0 (show 1 ≤ cnt.toInt by omega)).1 (own_ix0 (show 1 ≤ cnt.toInt by omega)).2 (own_get out (0 : Int32)) at_237 rfl ?_
    refine W.iload (q := 240) X0 C at_238 rfl rfl ?_
    refine W.iload (q := 242) X0 C at_240 rfl rfl ?_
    refine W.iload (q := 244) X0 C at_242 rfl rfl ?_
    refine W.iload (q := 246) X0 C at_244 rfl rfl ?_
    refine W.iload (q := 248) X0 C at_246 rfl rfl ?_
    refine W.callS (q := 251) X0 C (W.ww hw 55 rfl) (W.ww hw 56 rfl) (W.ww hw 57 rfl) (W.ww hw 58 rfl) (by decide) (rm10 l Z a0 hw [] (own_g 0 out (0 : Int32)) va vb vc vt vr h0 n0) e0 at_248 [(.int (own_g 0 out (0 : Int32))), (.int va), (.int vb), (.int vc), (.int vt), (.int vr)] [] rfl rfl pd__28IIIIZI_29Z rfl rfl (by decide) (Nat.le_of_ble_eq_true rfl) (by first | omega | (simp only [room_1]; omega) | (dsimp only; omega)) (by first | omega | (simp only [room_1]; omega) | (dsimp only; omega)) rfl (fun T221 w221 L221 X221 hQ221 => ?_)
    obtain ⟨rfl, NL221, e221⟩ := hQ221
    have N221 := Fr.app N0 NL221
    show W.Go p e below _ (T221.setTop (mkF m 251 #[.val (.int p0), .val (.int p1), .val (.int p2), .val (.int p3), .val (.int p4), .val (.int va), .val (.int vb), .val (.int vc), .val (.int vd), .val (.int vm), .val (.int vt), .val (.int vr), .val (.ref q0), .val (.ref na), .val (.ref bo), .val (.int cnt)] [(.int (if own_pres (own_g 0 out (0 : Int32)) va vb vc (own_R vt vr) = true then (1 : Int32) else 0))]))
    refine W.ifT (q := 256) X221 C at_251 (by decide) (by decide) (own_bt (hE.2.1 hc214)) ?_
    refine W.iload (q := 258) X221 C at_256 rfl rfl ?_
    refine W.iconst (q := 259) (v := 2) X221 C at_258 rfl rfl ?_
    refine W.icmp (q := 295) (q' := 262) X221 C at_259 (by decide) (by decide) rfl (fun hc222 => ?_) (fun hc222 => ?_)
    · replace hc222 : cnt.toInt < 2 := hc222
      refine W.iload (q := 297) X221 C at_295 rfl rfl ?_
      refine W.iconst (q := 298) (v := 3) X221 C at_297 rfl rfl ?_
      refine W.icmp (q := 345) (q' := 301) X221 C at_298 (by decide) (by decide) rfl (fun hc223 => ?_) (fun hc223 => ?_)
      · replace hc223 : cnt.toInt < 3 := hc223
        refine W.iconst (q := 346) (v := 1) X221 C at_345 rfl rfl ?_
        exact W.retN X221 C (by simp) e221 at_346 rfl (by first | omega | (simp only [room_1]; omega) | (dsimp only; omega)) (by first | omega | (simp only [room_1]; omega) | (dsimp only; omega)) ⟨rfl, N221⟩
      · replace hc223 : 3 ≤ cnt.toInt := hc223
        refine W.aload (q := 303) X221 C at_301 rfl rfl rfl ?_
        refine W.iconst (q := 304) (v := 2) X221 C at_303 rfl rfl ?_
        refine W.iaload (q := 305) X221 C e221 VO (own_ix2 (show 3 ≤ cnt.toInt by omega)).1 (own_ix2 (show 3 ≤ cnt.toInt by omega)).2 (own_get out (2 : Int32)) at_304 rfl ?_
        refine W.iload (q := 307) X221 C at_305 rfl rfl ?_
        refine W.iload (q := 309) X221 C at_307 rfl rfl ?_
        refine W.iload (q := 311) X221 C at_309 rfl rfl ?_
        refine W.iload (q := 313) X221 C at_311 rfl rfl ?_
        refine W.iload (q := 315) X221 C at_313 rfl rfl ?_
        refine W.callS (q := 318) X221 C (W.ww hw 55 rfl) (W.ww hw 56 rfl) (W.ww hw 57 rfl) (W.ww hw 58 rfl) (by decide) (rm10 l Z a0 hw [] (own_g 0 out (2 : Int32)) va vb vc vt vr h0 n0) e221 at_315 [(.int (own_g 0 out (2 : Int32))), (.int va), (.int vb), (.int vc), (.int vt), (.int vr)] [] rfl rfl pd__28IIIIZI_29Z rfl rfl (by decide) (Nat.le_of_ble_eq_true rfl) (by first | omega | (simp only [room_1]; omega) | (dsimp only; omega)) (by first | omega | (simp only [room_1]; omega) | (dsimp only; omega)) rfl (fun T224 w224 L224 X224 hQ224 => ?_)
        obtain ⟨rfl, NL224, e224⟩ := hQ224
        have N224 := Fr.app N221 NL224
        show W.Go p e below _ (T224.setTop (mkF m 318 #[.val (.int p0), .val (.int p1), .val (.int p2), .val (.int p3), .val (.int p4), .val (.int va), .val (.int vb), .val (.int vc), .val (.int vd), .val (.int vm), .val (.int vt), .val (.int vr), .val (.ref q0), .val (.ref na), .val (.ref bo), .val (.int cnt)] [(.int (if own_pres (own_g 0 out (2 : Int32)) va vb vc (own_R vt vr) = true then (1 : Int32) else 0))]))
        refine W.ifF (q := 321) X224 C at_318 rfl (own_bt (hE.2.2.2 hc223).1) ?_
        refine W.aload (q := 323) X224 C at_321 rfl rfl rfl ?_
        refine W.iconst (q := 324) (v := 2) X224 C at_323 rfl rfl ?_
        refine W.iaload (q := 325) X224 C e224 VO (own_ix2 (show 3 ≤ cnt.toInt by omega)).1 (own_ix2 (show 3 ≤ cnt.toInt by omega)).2 (own_get out (2 : Int32)) at_324 rfl ?_
        refine W.aload (q := 327) X224 C at_325 rfl rfl rfl ?_
        refine W.iconst (q := 328) (v := 0) X224 C at_327 rfl rfl ?_
        refine W.iaload (q := 329) X224 C e224 VO (own_ix0 (show 1 ≤ cnt.toInt by omega)).1 (own_ix0 (show 1 ≤ cnt.toInt by omega)).2 (own_get out (0 : Int32)) at_328 rfl ?_
        refine W.icmpF (q := 332) X224 C at_329 rfl ((hE.2.2.2 hc223).2.1) ?_
        refine W.aload (q := 334) X224 C at_332 rfl rfl rfl ?_
        refine W.iconst (q := 335) (v := 2) X224 C at_334 rfl rfl ?_
        refine W.iaload (q := 336) X224 C e224 VO (own_ix2 (show 3 ≤ cnt.toInt by omega)).1 (own_ix2 (show 3 ≤ cnt.toInt by omega)).2 (own_get out (2 : Int32)) at_335 rfl ?_
        refine W.aload (q := 338) X224 C at_336 rfl rfl rfl ?_
        refine W.iconst (q := 339) (v := 1) X224 C at_338 rfl rfl ?_
        refine W.iaload (q := 340) X224 C e224 VO (own_ix1 (show 2 ≤ cnt.toInt by omega)).1 (own_ix1 (show 2 ≤ cnt.toInt by omega)).2 (own_get out (1 : Int32)) at_339 rfl ?_
        refine W.icmpT (q := 345) X224 C at_340 (by decide) (by decide) ((hE.2.2.2 hc223).2.2) ?_
        refine W.iconst (q := 346) (v := 1) X224 C at_345 rfl rfl ?_
        exact W.retN X224 C (by simp) e224 at_346 rfl (by first | omega | (simp only [room_1]; omega) | (dsimp only; omega)) (by first | omega | (simp only [room_1]; omega) | (dsimp only; omega)) ⟨rfl, N224⟩
    · replace hc222 : 2 ≤ cnt.toInt := hc222
      refine W.aload (q := 264) X221 C at_262 rfl rfl rfl ?_
      refine W.iconst (q := 265) (v := 1) X221 C at_264 rfl rfl ?_
      refine W.iaload (q := 266) X221 C e221 VO (own_ix1 (show 2 ≤ cnt.toInt by omega)).1 (own_ix1 (show 2 ≤ cnt.toInt by omega)).2 (own_get out (1 : Int32)) at_265 rfl ?_
      refine W.iload (q := 268) X221 C at_266 rfl rfl ?_
      refine W.iload (q := 270) X221 C at_268 rfl rfl ?_
      refine W.iload (q := 272) X221 C at_270 rfl rfl ?_
      refine W.iload (q := 274) X221 C at_272 rfl rfl ?_
      refine W.iload (q := 276) X221 C at_274 rfl rfl ?_
      refine W.callS (q := 279) X221 C (W.ww hw 55 rfl) (W.ww hw 56 rfl) (W.ww hw 57 rfl) (W.ww hw 58 rfl) (by decide) (rm10 l Z a0 hw [] (own_g 0 out (1 : Int32)) va vb vc vt vr h0 n0) e221 at_276 [(.int (own_g 0 out (1 : Int32))), (.int va), (.int vb), (.int vc), (.int vt), (.int vr)] [] rfl rfl pd__28IIIIZI_29Z rfl rfl (by decide) (Nat.le_of_ble_eq_true rfl) (by first | omega | (simp only [room_1]; omega) | (dsimp only; omega)) (by first | omega | (simp only [room_1]; omega) | (dsimp only; omega)) rfl (fun T225 w225 L225 X225 hQ225 => ?_)
      obtain ⟨rfl, NL225, e225⟩ := hQ225
      have N225 := Fr.app N221 NL225
      show W.Go p e below _ (T225.setTop (mkF m 279 #[.val (.int p0), .val (.int p1), .val (.int p2), .val (.int p3), .val (.int p4), .val (.int va), .val (.int vb), .val (.int vc), .val (.int vd), .val (.int vm), .val (.int vt), .val (.int vr), .val (.ref q0), .val (.ref na), .val (.ref bo), .val (.int cnt)] [(.int (if own_pres (own_g 0 out (1 : Int32)) va vb vc (own_R vt vr) = true then (1 : Int32) else 0))]))
      refine W.ifF (q := 282) X225 C at_279 rfl (own_bt (hE.2.2.1 hc222).1) ?_
      refine W.aload (q := 284) X225 C at_282 rfl rfl rfl ?_
      refine W.iconst (q := 285) (v := 1) X225 C at_284 rfl rfl ?_
      refine W.iaload (q := 286) X225 C e225 VO (own_ix1 (show 2 ≤ cnt.toInt by omega)).1 (own_ix1 (show 2 ≤ cnt.toInt by omega)).2 (own_get out (1 : Int32)) at_285 rfl ?_
      refine W.aload (q := 288) X225 C at_286 rfl rfl rfl ?_
      refine W.iconst (q := 289) (v := 0) X225 C at_288 rfl rfl ?_
      refine W.iaload (q := 290) X225 C e225 VO (own_ix0 (show 1 ≤ cnt.toInt by omega)).1 (own_ix0 (show 1 ≤ cnt.toInt by omega)).2 (own_get out (0 : Int32)) at_289 rfl ?_
      refine W.icmpT (q := 295) X225 C at_290 (by decide) (by decide) ((hE.2.2.1 hc222).2) ?_
      refine W.iload (q := 297) X225 C at_295 rfl rfl ?_
      refine W.iconst (q := 298) (v := 3) X225 C at_297 rfl rfl ?_
      refine W.icmp (q := 345) (q' := 301) X225 C at_298 (by decide) (by decide) rfl (fun hc226 => ?_) (fun hc226 => ?_)
      · replace hc226 : cnt.toInt < 3 := hc226
        refine W.iconst (q := 346) (v := 1) X225 C at_345 rfl rfl ?_
        exact W.retN X225 C (by simp) e225 at_346 rfl (by first | omega | (simp only [room_1]; omega) | (dsimp only; omega)) (by first | omega | (simp only [room_1]; omega) | (dsimp only; omega)) ⟨rfl, N225⟩
      · replace hc226 : 3 ≤ cnt.toInt := hc226
        refine W.aload (q := 303) X225 C at_301 rfl rfl rfl ?_
        refine W.iconst (q := 304) (v := 2) X225 C at_303 rfl rfl ?_
        refine W.iaload (q := 305) X225 C e225 VO (own_ix2 (show 3 ≤ cnt.toInt by omega)).1 (own_ix2 (show 3 ≤ cnt.toInt by omega)).2 (own_get out (2 : Int32)) at_304 rfl ?_
        refine W.iload (q := 307) X225 C at_305 rfl rfl ?_
        refine W.iload (q := 309) X225 C at_307 rfl rfl ?_
        refine W.iload (q := 311) X225 C at_309 rfl rfl ?_
        refine W.iload (q := 313) X225 C at_311 rfl rfl ?_
        refine W.iload (q := 315) X225 C at_313 rfl rfl ?_
        refine W.callS (q := 318) X225 C (W.ww hw 55 rfl) (W.ww hw 56 rfl) (W.ww hw 57 rfl) (W.ww hw 58 rfl) (by decide) (rm10 l Z a0 hw [] (own_g 0 out (2 : Int32)) va vb vc vt vr h0 n0) e225 at_315 [(.int (own_g 0 out (2 : Int32))), (.int va), (.int vb), (.int vc), (.int vt), (.int vr)] [] rfl rfl pd__28IIIIZI_29Z rfl rfl (by decide) (Nat.le_of_ble_eq_true rfl) (by first | omega | (simp only [room_1]; omega) | (dsimp only; omega)) (by first | omega | (simp only [room_1]; omega) | (dsimp only; omega)) rfl (fun T227 w227 L227 X227 hQ227 => ?_)
        obtain ⟨rfl, NL227, e227⟩ := hQ227
        have N227 := Fr.app N225 NL227
        show W.Go p e below _ (T227.setTop (mkF m 318 #[.val (.int p0), .val (.int p1), .val (.int p2), .val (.int p3), .val (.int p4), .val (.int va), .val (.int vb), .val (.int vc), .val (.int vd), .val (.int vm), .val (.int vt), .val (.int vr), .val (.ref q0), .val (.ref na), .val (.ref bo), .val (.int cnt)] [(.int (if own_pres (own_g 0 out (2 : Int32)) va vb vc (own_R vt vr) = true then (1 : Int32) else 0))]))
        refine W.ifF (q := 321) X227 C at_318 rfl (own_bt (hE.2.2.2 hc226).1) ?_
        refine W.aload (q := 323) X227 C at_321 rfl rfl rfl ?_
        refine W.iconst (q := 324) (v := 2) X227 C at_323 rfl rfl ?_
        refine W.iaload (q := 325) X227 C e227 VO (own_ix2 (show 3 ≤ cnt.toInt by omega)).1 (own_ix2 (show 3 ≤ cnt.toInt by omega)).2 (own_get out (2 : Int32)) at_324 rfl ?_
        refine W.aload (q := 327) X227 C at_325 rfl rfl rfl ?_
        refine W.iconst (q := 328) (v := 0) X227 C at_327 rfl rfl ?_
        refine W.iaload (q := 329) X227 C e227 VO (own_ix0 (show 1 ≤ cnt.toInt by omega)).1 (own_ix0 (show 1 ≤ cnt.toInt by omega)).2 (own_get out (0 : Int32)) at_328 rfl ?_
        refine W.icmpF (q := 332) X227 C at_329 rfl ((hE.2.2.2 hc226).2.1) ?_
        refine W.aload (q := 334) X227 C at_332 rfl rfl rfl ?_
        refine W.iconst (q := 335) (v := 2) X227 C at_334 rfl rfl ?_
        refine W.iaload (q := 336) X227 C e227 VO (own_ix2 (show 3 ≤ cnt.toInt by omega)).1 (own_ix2 (show 3 ≤ cnt.toInt by omega)).2 (own_get out (2 : Int32)) at_335 rfl ?_
        refine W.aload (q := 338) X227 C at_336 rfl rfl rfl ?_
        refine W.iconst (q := 339) (v := 1) X227 C at_338 rfl rfl ?_
        refine W.iaload (q := 340) X227 C e227 VO (own_ix1 (show 2 ≤ cnt.toInt by omega)).1 (own_ix1 (show 2 ≤ cnt.toInt by omega)).2 (own_get out (1 : Int32)) at_339 rfl ?_
        refine W.icmpT (q := 345) X227 C at_340 (by decide) (by decide) ((hE.2.2.2 hc226).2.2) ?_
        refine W.iconst (q := 346) (v := 1) X227 C at_345 rfl rfl ?_
        exact W.retN X227 C (by simp) e227 at_346 rfl (by first | omega | (simp only [room_1]; omega) | (dsimp only; omega)) (by first | omega | (simp only [room_1]; omega) | (dsimp only; omega)) ⟨rfl, N227⟩
theorem pd__28_29_5bI : parseMethodDescriptor "()[I" = some ⟨[], some (.array .int)⟩ := by decide +kernel
set_option maxRecDepth 65536 in
set_option maxHeartbeats 40000000 in
theorem own_p124 (l : Launch) (Z : State) (a0 : Array Value) (hw : ∀ d ∈ tables_1, d.before a0 Z = true) (h0 : Heap) (n0 : Nat) (p0 p1 p2 p3 p4 va vb vc vd vm vt vr : Int32) (q0 na : Addr) (bs : Addr) (ks : ClassId) (n : Int32) (ls : List Int32) (sz hs : Int32) (out : List Int32) (cc cs : Nat) (hcc : cc ≤ 8) (hcs : cs ≤ 64) {p : Program} {e : Env} {s : State} {m : MethodId} {args : Array Value} {below : List Frame} {meth : Method} {c : Code} {T0 : State} {locs : List Loc}
    (C : W.Cx p s m meth c Z code 16 "com/example/nomina/nomina/tableau/IntSetToArrayPinLaw" "law" (some .boolean)) (X0 : Stand p l e room_1 s m args below meth c T0 locs cc cs) (e0 : T0.heap = h0) (N0 : Fr n0 locs) (HS : own_set Z n0 h0 q0 bs ks n ls sz hs) (hz0 : 0 ≤ sz.toInt) (hz3 : sz.toInt ≤ 3) (hta : own_ta 0 (fun x => x - 1) n ls sz 9 0 0 [0, 0, 0] = some out) (hend : own_end (fun j => own_g 0 out j) sz va vb vc (own_R vt vr)) :
    W.Go p e below (W.Post s (fun v h L => v = some (.int 1) ∧ Fr n0 L) room_1.cells room_1.slots) (T0.setTop (mkF m 124 #[.val (.int p0), .val (.int p1), .val (.int p2), .val (.int p3), .val (.int p4), .val (.int va), .val (.int vb), .val (.int vc), .val (.int vd), .val (.int vm), .val (.int vt), .val (.int vr), .val (.ref q0), .val (.ref na), .unset, .unset] [])) := by
  obtain ⟨ge0_228, geb_228, neb_228, Z_228, O228, E228, Fs228, Fz228, Fh228, Fd228, V228_, ok228⟩ := HS
  refine W.aload (q := 126) X0 C at_124 rfl rfl rfl ?_
  refine W.callV (q := 129) X0 C (W.ww hw 50 rfl) (W.ww hw 51 rfl) (W.nf C (W.ww hw 53 rfl)) (W.ww hw 53 rfl) (W.ww hw 52 rfl) (W.ww hw 3 rfl) (W.ww hw 54 rfl) (by decide) (rm9 l Z a0 hw [] q0 bs ks n ls sz hs out h0 n0 ⟨ge0_228, geb_228, neb_228, Z_228, O228, E228, Fs228, Fz228, Fh228, Fd228, V228_, ok228⟩ hz0 hz3 hta) e0 E228 at_126 [] [] rfl rfl pd__28_29_5bI rfl rfl (by decide) (Nat.le_of_ble_eq_true rfl) (by first | omega | (simp only [room_1]; omega) | (dsimp only; omega)) (by first | omega | (simp only [room_1]; omega) | (dsimp only; omega)) rfl (fun T229 w229 L229 X229 hQ229 => ?_)
  obtain ⟨bo, ko, rfl, NL229, VO⟩ := hQ229
  have N229 := Fr.app N0 NL229
  show W.Go p e below _ (T229.setTop (mkF m 129 #[.val (.int p0), .val (.int p1), .val (.int p2), .val (.int p3), .val (.int p4), .val (.int va), .val (.int vb), .val (.int vc), .val (.int vd), .val (.int vm), .val (.int vt), .val (.int vr), .val (.ref q0), .val (.ref na), .unset, .unset] [(.ref bo)]))
  refine W.astore (q := 131) (L' := #[.val (.int p0), .val (.int p1), .val (.int p2), .val (.int p3), .val (.int p4), .val (.int va), .val (.int vb), .val (.int vc), .val (.int vd), .val (.int vm), .val (.int vt), .val (.int vr), .val (.ref q0), .val (.ref na), .val (.ref bo), .unset]) X229 C at_129 rfl rfl rfl ?_
  refine W.iconst (q := 132) (v := 0) X229 C at_131 rfl rfl ?_
  refine W.istore (q := 134) (L' := #[.val (.int p0), .val (.int p1), .val (.int p2), .val (.int p3), .val (.int p4), .val (.int va), .val (.int vb), .val (.int vc), .val (.int vd), .val (.int vm), .val (.int vt), .val (.int vr), .val (.ref q0), .val (.ref na), .val (.ref bo), .val (.int (0 : Int32))]) X229 C at_132 rfl rfl ?_
  refine W.iload (q := 136) X229 C at_134 rfl rfl ?_
  refine W.iload (q := 138) X229 C at_136 rfl rfl ?_
  refine W.iload (q := 140) X229 C at_138 rfl rfl ?_
  refine W.iload (q := 142) X229 C at_140 rfl rfl ?_
  refine W.iload (q := 144) X229 C at_142 rfl rfl ?_
  refine W.iload (q := 146) X229 C at_144 rfl rfl ?_
  refine W.callS (q := 149) X229 C (W.ww hw 55 rfl) (W.ww hw 56 rfl) (W.ww hw 57 rfl) (W.ww hw 58 rfl) (by decide) (rm10 l Z a0 hw [] va va vb vc vt vr T229.heap n0) rfl at_146 [(.int va), (.int va), (.int vb), (.int vc), (.int vt), (.int vr)] [] rfl rfl pd__28IIIIZI_29Z rfl rfl (by decide) (Nat.le_of_ble_eq_true rfl) (by first | omega | (simp only [room_1]; omega) | (dsimp only; omega)) (by first | omega | (simp only [room_1]; omega) | (dsimp only; omega)) rfl (fun T230 w230 L230 X230 hQ230 => ?_)
  obtain ⟨rfl, NL230, e230⟩ := hQ230
  have N230 := Fr.app N229 NL230
  show W.Go p e below _ (T230.setTop (mkF m 149 #[.val (.int p0), .val (.int p1), .val (.int p2), .val (.int p3), .val (.int p4), .val (.int va), .val (.int vb), .val (.int vc), .val (.int vd), .val (.int vm), .val (.int vt), .val (.int vr), .val (.ref q0), .val (.ref na), .val (.ref bo), .val (.int (0 : Int32))] [(.int (if own_pres va va vb vc (own_R vt vr) = true then (1 : Int32) else 0))]))
  refine W.if_ (q := 155) (q' := 152) X230 C at_149 (by decide) (by decide) rfl (fun hc231 => ?_) (fun hc231 => ?_)
  · replace hc231 : (if own_pres va va vb vc (own_R vt vr) = true then (1 : Int32) else 0) = 0 := hc231
    have pb149 := own_b0 hc231
    refine W.iload (q := 157) X230 C at_155 rfl rfl ?_
    refine W.iload (q := 159) X230 C at_157 rfl rfl ?_
    refine W.icmp (q := 183) (q' := 162) X230 C at_159 (by decide) (by decide) rfl (fun hc232 => ?_) (fun hc232 => ?_)
    · replace hc232 : vb = va := hc232
      refine W.iload (q := 185) X230 C at_183 rfl rfl ?_
      refine W.iload (q := 187) X230 C at_185 rfl rfl ?_
      refine W.icmp (q := 218) (q' := 190) X230 C at_187 (by decide) (by decide) rfl (fun hc233 => ?_) (fun hc233 => ?_)
      · replace hc233 : vc = va := hc233
        have hk234 : sz = (0 : Int32) := by rw [hend.1, own_cnt, if_neg pb149, if_neg (fun q => q.1 hc232), if_neg (fun q => q.1 hc233)]; decide
        rw [hk234] at VO hend
        exact own_p218 l Z a0 hw T229.heap n0 p0 p1 p2 p3 p4 va vb vc vd vm vt vr q0 na bo ko out (0 : Int32) _ _ (by first | omega | (simp only [room_1]; omega) | (dsimp only; omega)) (by first | omega | (simp only [room_1]; omega) | (dsimp only; omega)) C X230 e230 N230 VO hend
      · replace hc233 : vc ≠ va := hc233
        refine W.iload (q := 192) X230 C at_190 rfl rfl ?_
        refine W.iload (q := 194) X230 C at_192 rfl rfl ?_
        refine W.icmp (q := 218) (q' := 197) X230 C at_194 (by decide) (by decide) rfl (fun hc235 => ?_) (fun hc235 => ?_)
        · replace hc235 : vc = vb := hc235
          have hk236 : sz = (0 : Int32) := by rw [hend.1, own_cnt, if_neg pb149, if_neg (fun q => q.1 hc232), if_neg (fun q => q.2.1 hc235)]; decide
          rw [hk236] at VO hend
          exact own_p218 l Z a0 hw T229.heap n0 p0 p1 p2 p3 p4 va vb vc vd vm vt vr q0 na bo ko out (0 : Int32) _ _ (by first | omega | (simp only [room_1]; omega) | (dsimp only; omega)) (by first | omega | (simp only [room_1]; omega) | (dsimp only; omega)) C X230 e230 N230 VO hend
        · replace hc235 : vc ≠ vb := hc235
          refine W.iload (q := 199) X230 C at_197 rfl rfl ?_
          refine W.iload (q := 201) X230 C at_199 rfl rfl ?_
          refine W.iload (q := 203) X230 C at_201 rfl rfl ?_
          refine W.iload (q := 205) X230 C at_203 rfl rfl ?_
          refine W.iload (q := 207) X230 C at_205 rfl rfl ?_
          refine W.iload (q := 209) X230 C at_207 rfl rfl ?_
          refine W.callS (q := 212) X230 C (W.ww hw 55 rfl) (W.ww hw 56 rfl) (W.ww hw 57 rfl) (W.ww hw 58 rfl) (by decide) (rm10 l Z a0 hw [] vc va vb vc vt vr T229.heap n0) e230 at_209 [(.int vc), (.int va), (.int vb), (.int vc), (.int vt), (.int vr)] [] rfl rfl pd__28IIIIZI_29Z rfl rfl (by decide) (Nat.le_of_ble_eq_true rfl) (by first | omega | (simp only [room_1]; omega) | (dsimp only; omega)) (by first | omega | (simp only [room_1]; omega) | (dsimp only; omega)) rfl (fun T237 w237 L237 X237 hQ237 => ?_)
          obtain ⟨rfl, NL237, e237⟩ := hQ237
          have N237 := Fr.app N230 NL237
          show W.Go p e below _ (T237.setTop (mkF m 212 #[.val (.int p0), .val (.int p1), .val (.int p2), .val (.int p3), .val (.int p4), .val (.int va), .val (.int vb), .val (.int vc), .val (.int vd), .val (.int vm), .val (.int vt), .val (.int vr), .val (.ref q0), .val (.ref na), .val (.ref bo), .val (.int (0 : Int32))] [(.int (if own_pres vc va vb vc (own_R vt vr) = true then (1 : Int32) else 0))]))
          refine W.if_ (q := 218) (q' := 215) X237 C at_212 (by decide) (by decide) rfl (fun hc238 => ?_) (fun hc238 => ?_)
          · replace hc238 : (if own_pres vc va vb vc (own_R vt vr) = true then (1 : Int32) else 0) = 0 := hc238
            have pb212 := own_b0 hc238
            have hk239 : sz = (0 : Int32) := by rw [hend.1, own_cnt, if_neg pb149, if_neg (fun q => q.1 hc232), if_neg (fun q => pb212 q.2.2)]; decide
            rw [hk239] at VO hend
            exact own_p218 l Z a0 hw T229.heap n0 p0 p1 p2 p3 p4 va vb vc vd vm vt vr q0 na bo ko out (0 : Int32) _ _ (by first | omega | (simp only [room_1]; omega) | (dsimp only; omega)) (by first | omega | (simp only [room_1]; omega) | (dsimp only; omega)) C X237 e237 N237 VO hend
          · replace hc238 : (if own_pres vc va vb vc (own_R vt vr) = true then (1 : Int32) else 0) ≠ 0 := hc238
            have pb212 := own_b1 hc238
            refine W.iinc (q := 218) (L' := #[.val (.int p0), .val (.int p1), .val (.int p2), .val (.int p3), .val (.int p4), .val (.int va), .val (.int vb), .val (.int vc), .val (.int vd), .val (.int vm), .val (.int vt), .val (.int vr), .val (.ref q0), .val (.ref na), .val (.ref bo), .val (.int (1 : Int32))]) X237 C at_215 rfl (by decide) rfl rfl ?_
            have hk240 : sz = (1 : Int32) := by rw [hend.1, own_cnt, if_neg pb149, if_neg (fun q => q.1 hc232), if_pos ⟨hc233, hc235, pb212⟩]; decide
            rw [hk240] at VO hend
            exact own_p218 l Z a0 hw T229.heap n0 p0 p1 p2 p3 p4 va vb vc vd vm vt vr q0 na bo ko out (1 : Int32) _ _ (by first | omega | (simp only [room_1]; omega) | (dsimp only; omega)) (by first | omega | (simp only [room_1]; omega) | (dsimp only; omega)) C X237 e237 N237 VO hend
    · replace hc232 : vb ≠ va := hc232
      refine W.iload (q := 164) X230 C at_162 rfl rfl ?_
      refine W.iload (q := 166) X230 C at_164 rfl rfl ?_
      refine W.iload (q := 168) X230 C at_166 rfl rfl ?_
      refine W.iload (q := 170) X230 C at_168 rfl rfl ?_
      refine W.iload (q := 172) X230 C at_170 rfl rfl ?_
      refine W.iload (q := 174) X230 C at_172 rfl rfl ?_
      refine W.callS (q := 177) X230 C (W.ww hw 55 rfl) (W.ww hw 56 rfl) (W.ww hw 57 rfl) (W.ww hw 58 rfl) (by decide) (rm10 l Z a0 hw [] vb va vb vc vt vr T229.heap n0) e230 at_174 [(.int vb), (.int va), (.int vb), (.int vc), (.int vt), (.int vr)] [] rfl rfl pd__28IIIIZI_29Z rfl rfl (by decide) (Nat.le_of_ble_eq_true rfl) (by first | omega | (simp only [room_1]; omega) | (dsimp only; omega)) (by first | omega | (simp only [room_1]; omega) | (dsimp only; omega)) rfl (fun T241 w241 L241 X241 hQ241 => ?_)
      obtain ⟨rfl, NL241, e241⟩ := hQ241
      have N241 := Fr.app N230 NL241
      show W.Go p e below _ (T241.setTop (mkF m 177 #[.val (.int p0), .val (.int p1), .val (.int p2), .val (.int p3), .val (.int p4), .val (.int va), .val (.int vb), .val (.int vc), .val (.int vd), .val (.int vm), .val (.int vt), .val (.int vr), .val (.ref q0), .val (.ref na), .val (.ref bo), .val (.int (0 : Int32))] [(.int (if own_pres vb va vb vc (own_R vt vr) = true then (1 : Int32) else 0))]))
      refine W.if_ (q := 183) (q' := 180) X241 C at_177 (by decide) (by decide) rfl (fun hc242 => ?_) (fun hc242 => ?_)
      · replace hc242 : (if own_pres vb va vb vc (own_R vt vr) = true then (1 : Int32) else 0) = 0 := hc242
        have pb177 := own_b0 hc242
        refine W.iload (q := 185) X241 C at_183 rfl rfl ?_
        refine W.iload (q := 187) X241 C at_185 rfl rfl ?_
        refine W.icmp (q := 218) (q' := 190) X241 C at_187 (by decide) (by decide) rfl (fun hc243 => ?_) (fun hc243 => ?_)
        · replace hc243 : vc = va := hc243
          have hk244 : sz = (0 : Int32) := by rw [hend.1, own_cnt, if_neg pb149, if_neg (fun q => pb177 q.2), if_neg (fun q => q.1 hc243)]; decide
          rw [hk244] at VO hend
          exact own_p218 l Z a0 hw T229.heap n0 p0 p1 p2 p3 p4 va vb vc vd vm vt vr q0 na bo ko out (0 : Int32) _ _ (by first | omega | (simp only [room_1]; omega) | (dsimp only; omega)) (by first | omega | (simp only [room_1]; omega) | (dsimp only; omega)) C X241 e241 N241 VO hend
        · replace hc243 : vc ≠ va := hc243
          refine W.iload (q := 192) X241 C at_190 rfl rfl ?_
          refine W.iload (q := 194) X241 C at_192 rfl rfl ?_
          refine W.icmp (q := 218) (q' := 197) X241 C at_194 (by decide) (by decide) rfl (fun hc245 => ?_) (fun hc245 => ?_)
          · replace hc245 : vc = vb := hc245
            have hk246 : sz = (0 : Int32) := by rw [hend.1, own_cnt, if_neg pb149, if_neg (fun q => pb177 q.2), if_neg (fun q => q.2.1 hc245)]; decide
            rw [hk246] at VO hend
            exact own_p218 l Z a0 hw T229.heap n0 p0 p1 p2 p3 p4 va vb vc vd vm vt vr q0 na bo ko out (0 : Int32) _ _ (by first | omega | (simp only [room_1]; omega) | (dsimp only; omega)) (by first | omega | (simp only [room_1]; omega) | (dsimp only; omega)) C X241 e241 N241 VO hend
          · replace hc245 : vc ≠ vb := hc245
            refine W.iload (q := 199) X241 C at_197 rfl rfl ?_
            refine W.iload (q := 201) X241 C at_199 rfl rfl ?_
            refine W.iload (q := 203) X241 C at_201 rfl rfl ?_
            refine W.iload (q := 205) X241 C at_203 rfl rfl ?_
            refine W.iload (q := 207) X241 C at_205 rfl rfl ?_
            refine W.iload (q := 209) X241 C at_207 rfl rfl ?_
            refine W.callS (q := 212) X241 C (W.ww hw 55 rfl) (W.ww hw 56 rfl) (W.ww hw 57 rfl) (W.ww hw 58 rfl) (by decide) (rm10 l Z a0 hw [] vc va vb vc vt vr T229.heap n0) e241 at_209 [(.int vc), (.int va), (.int vb), (.int vc), (.int vt), (.int vr)] [] rfl rfl pd__28IIIIZI_29Z rfl rfl (by decide) (Nat.le_of_ble_eq_true rfl) (by first | omega | (simp only [room_1]; omega) | (dsimp only; omega)) (by first | omega | (simp only [room_1]; omega) | (dsimp only; omega)) rfl (fun T247 w247 L247 X247 hQ247 => ?_)
            obtain ⟨rfl, NL247, e247⟩ := hQ247
            have N247 := Fr.app N241 NL247
            show W.Go p e below _ (T247.setTop (mkF m 212 #[.val (.int p0), .val (.int p1), .val (.int p2), .val (.int p3), .val (.int p4), .val (.int va), .val (.int vb), .val (.int vc), .val (.int vd), .val (.int vm), .val (.int vt), .val (.int vr), .val (.ref q0), .val (.ref na), .val (.ref bo), .val (.int (0 : Int32))] [(.int (if own_pres vc va vb vc (own_R vt vr) = true then (1 : Int32) else 0))]))
            refine W.if_ (q := 218) (q' := 215) X247 C at_212 (by decide) (by decide) rfl (fun hc248 => ?_) (fun hc248 => ?_)
            · replace hc248 : (if own_pres vc va vb vc (own_R vt vr) = true then (1 : Int32) else 0) = 0 := hc248
              have pb212 := own_b0 hc248
              have hk249 : sz = (0 : Int32) := by rw [hend.1, own_cnt, if_neg pb149, if_neg (fun q => pb177 q.2), if_neg (fun q => pb212 q.2.2)]; decide
              rw [hk249] at VO hend
              exact own_p218 l Z a0 hw T229.heap n0 p0 p1 p2 p3 p4 va vb vc vd vm vt vr q0 na bo ko out (0 : Int32) _ _ (by first | omega | (simp only [room_1]; omega) | (dsimp only; omega)) (by first | omega | (simp only [room_1]; omega) | (dsimp only; omega)) C X247 e247 N247 VO hend
            · replace hc248 : (if own_pres vc va vb vc (own_R vt vr) = true then (1 : Int32) else 0) ≠ 0 := hc248
              have pb212 := own_b1 hc248
              refine W.iinc (q := 218) (L' := #[.val (.int p0), .val (.int p1), .val (.int p2), .val (.int p3), .val (.int p4), .val (.int va), .val (.int vb), .val (.int vc), .val (.int vd), .val (.int vm), .val (.int vt), .val (.int vr), .val (.ref q0), .val (.ref na), .val (.ref bo), .val (.int (1 : Int32))]) X247 C at_215 rfl (by decide) rfl rfl ?_
              have hk250 : sz = (1 : Int32) := by rw [hend.1, own_cnt, if_neg pb149, if_neg (fun q => pb177 q.2), if_pos ⟨hc243, hc245, pb212⟩]; decide
              rw [hk250] at VO hend
              exact own_p218 l Z a0 hw T229.heap n0 p0 p1 p2 p3 p4 va vb vc vd vm vt vr q0 na bo ko out (1 : Int32) _ _ (by first | omega | (simp only [room_1]; omega) | (dsimp only; omega)) (by first | omega | (simp only [room_1]; omega) | (dsimp only; omega)) C X247 e247 N247 VO hend
      · replace hc242 : (if own_pres vb va vb vc (own_R vt vr) = true then (1 : Int32) else 0) ≠ 0 := hc242
        have pb177 := own_b1 hc242
        refine W.iinc (q := 183) (L' := #[.val (.int p0), .val (.int p1), .val (.int p2), .val (.int p3), .val (.int p4), .val (.int va), .val (.int vb), .val (.int vc), .val (.int vd), .val (.int vm), .val (.int vt), .val (.int vr), .val (.ref q0), .val (.ref na), .val (.ref bo), .val (.int (1 : Int32))]) X241 C at_180 rfl (by decide) rfl rfl ?_
        refine W.iload (q := 185) X241 C at_183 rfl rfl ?_
        refine W.iload (q := 187) X241 C at_185 rfl rfl ?_
        refine W.icmp (q := 218) (q' := 190) X241 C at_187 (by decide) (by decide) rfl (fun hc251 => ?_) (fun hc251 => ?_)
        · replace hc251 : vc = va := hc251
          have hk252 : sz = (1 : Int32) := by rw [hend.1, own_cnt, if_neg pb149, if_pos ⟨hc232, pb177⟩, if_neg (fun q => q.1 hc251)]; decide
          rw [hk252] at VO hend
          exact own_p218 l Z a0 hw T229.heap n0 p0 p1 p2 p3 p4 va vb vc vd vm vt vr q0 na bo ko out (1 : Int32) _ _ (by first | omega | (simp only [room_1]; omega) | (dsimp only; omega)) (by first | omega | (simp only [room_1]; omega) | (dsimp only; omega)) C X241 e241 N241 VO hend
        · replace hc251 : vc ≠ va := hc251
          refine W.iload (q := 192) X241 C at_190 rfl rfl ?_
          refine W.iload (q := 194) X241 C at_192 rfl rfl ?_
          refine W.icmp (q := 218) (q' := 197) X241 C at_194 (by decide) (by decide) rfl (fun hc253 => ?_) (fun hc253 => ?_)
          · replace hc253 : vc = vb := hc253
            have hk254 : sz = (1 : Int32) := by rw [hend.1, own_cnt, if_neg pb149, if_pos ⟨hc232, pb177⟩, if_neg (fun q => q.2.1 hc253)]; decide
            rw [hk254] at VO hend
            exact own_p218 l Z a0 hw T229.heap n0 p0 p1 p2 p3 p4 va vb vc vd vm vt vr q0 na bo ko out (1 : Int32) _ _ (by first | omega | (simp only [room_1]; omega) | (dsimp only; omega)) (by first | omega | (simp only [room_1]; omega) | (dsimp only; omega)) C X241 e241 N241 VO hend
          · replace hc253 : vc ≠ vb := hc253
            refine W.iload (q := 199) X241 C at_197 rfl rfl ?_
            refine W.iload (q := 201) X241 C at_199 rfl rfl ?_
            refine W.iload (q := 203) X241 C at_201 rfl rfl ?_
            refine W.iload (q := 205) X241 C at_203 rfl rfl ?_
            refine W.iload (q := 207) X241 C at_205 rfl rfl ?_
            refine W.iload (q := 209) X241 C at_207 rfl rfl ?_
            refine W.callS (q := 212) X241 C (W.ww hw 55 rfl) (W.ww hw 56 rfl) (W.ww hw 57 rfl) (W.ww hw 58 rfl) (by decide) (rm10 l Z a0 hw [] vc va vb vc vt vr T229.heap n0) e241 at_209 [(.int vc), (.int va), (.int vb), (.int vc), (.int vt), (.int vr)] [] rfl rfl pd__28IIIIZI_29Z rfl rfl (by decide) (Nat.le_of_ble_eq_true rfl) (by first | omega | (simp only [room_1]; omega) | (dsimp only; omega)) (by first | omega | (simp only [room_1]; omega) | (dsimp only; omega)) rfl (fun T255 w255 L255 X255 hQ255 => ?_)
            obtain ⟨rfl, NL255, e255⟩ := hQ255
            have N255 := Fr.app N241 NL255
            show W.Go p e below _ (T255.setTop (mkF m 212 #[.val (.int p0), .val (.int p1), .val (.int p2), .val (.int p3), .val (.int p4), .val (.int va), .val (.int vb), .val (.int vc), .val (.int vd), .val (.int vm), .val (.int vt), .val (.int vr), .val (.ref q0), .val (.ref na), .val (.ref bo), .val (.int (1 : Int32))] [(.int (if own_pres vc va vb vc (own_R vt vr) = true then (1 : Int32) else 0))]))
            refine W.if_ (q := 218) (q' := 215) X255 C at_212 (by decide) (by decide) rfl (fun hc256 => ?_) (fun hc256 => ?_)
            · replace hc256 : (if own_pres vc va vb vc (own_R vt vr) = true then (1 : Int32) else 0) = 0 := hc256
              have pb212 := own_b0 hc256
              have hk257 : sz = (1 : Int32) := by rw [hend.1, own_cnt, if_neg pb149, if_pos ⟨hc232, pb177⟩, if_neg (fun q => pb212 q.2.2)]; decide
              rw [hk257] at VO hend
              exact own_p218 l Z a0 hw T229.heap n0 p0 p1 p2 p3 p4 va vb vc vd vm vt vr q0 na bo ko out (1 : Int32) _ _ (by first | omega | (simp only [room_1]; omega) | (dsimp only; omega)) (by first | omega | (simp only [room_1]; omega) | (dsimp only; omega)) C X255 e255 N255 VO hend
            · replace hc256 : (if own_pres vc va vb vc (own_R vt vr) = true then (1 : Int32) else 0) ≠ 0 := hc256
              have pb212 := own_b1 hc256
              refine W.iinc (q := 218) (L' := #[.val (.int p0), .val (.int p1), .val (.int p2), .val (.int p3), .val (.int p4), .val (.int va), .val (.int vb), .val (.int vc), .val (.int vd), .val (.int vm), .val (.int vt), .val (.int vr), .val (.ref q0), .val (.ref na), .val (.ref bo), .val (.int (2 : Int32))]) X255 C at_215 rfl (by decide) rfl rfl ?_
              have hk258 : sz = (2 : Int32) := by rw [hend.1, own_cnt, if_neg pb149, if_pos ⟨hc232, pb177⟩, if_pos ⟨hc251, hc253, pb212⟩]; decide
              rw [hk258] at VO hend
              exact own_p218 l Z a0 hw T229.heap n0 p0 p1 p2 p3 p4 va vb vc vd vm vt vr q0 na bo ko out (2 : Int32) _ _ (by first | omega | (simp only [room_1]; omega) | (dsimp only; omega)) (by first | omega | (simp only [room_1]; omega) | (dsimp only; omega)) C X255 e255 N255 VO hend
  · replace hc231 : (if own_pres va va vb vc (own_R vt vr) = true then (1 : Int32) else 0) ≠ 0 := hc231
    have pb149 := own_b1 hc231
    refine W.iinc (q := 155) (L' := #[.val (.int p0), .val (.int p1), .val (.int p2), .val (.int p3), .val (.int p4), .val (.int va), .val (.int vb), .val (.int vc), .val (.int vd), .val (.int vm), .val (.int vt), .val (.int vr), .val (.ref q0), .val (.ref na), .val (.ref bo), .val (.int (1 : Int32))]) X230 C at_152 rfl (by decide) rfl rfl ?_
    refine W.iload (q := 157) X230 C at_155 rfl rfl ?_
    refine W.iload (q := 159) X230 C at_157 rfl rfl ?_
    refine W.icmp (q := 183) (q' := 162) X230 C at_159 (by decide) (by decide) rfl (fun hc259 => ?_) (fun hc259 => ?_)
    · replace hc259 : vb = va := hc259
      refine W.iload (q := 185) X230 C at_183 rfl rfl ?_
      refine W.iload (q := 187) X230 C at_185 rfl rfl ?_
      refine W.icmp (q := 218) (q' := 190) X230 C at_187 (by decide) (by decide) rfl (fun hc260 => ?_) (fun hc260 => ?_)
      · replace hc260 : vc = va := hc260
        have hk261 : sz = (1 : Int32) := by rw [hend.1, own_cnt, if_pos pb149, if_neg (fun q => q.1 hc259), if_neg (fun q => q.1 hc260)]; decide
        rw [hk261] at VO hend
        exact own_p218 l Z a0 hw T229.heap n0 p0 p1 p2 p3 p4 va vb vc vd vm vt vr q0 na bo ko out (1 : Int32) _ _ (by first | omega | (simp only [room_1]; omega) | (dsimp only; omega)) (by first | omega | (simp only [room_1]; omega) | (dsimp only; omega)) C X230 e230 N230 VO hend
      · replace hc260 : vc ≠ va := hc260
        refine W.iload (q := 192) X230 C at_190 rfl rfl ?_
        refine W.iload (q := 194) X230 C at_192 rfl rfl ?_
        refine W.icmp (q := 218) (q' := 197) X230 C at_194 (by decide) (by decide) rfl (fun hc262 => ?_) (fun hc262 => ?_)
        · replace hc262 : vc = vb := hc262
          have hk263 : sz = (1 : Int32) := by rw [hend.1, own_cnt, if_pos pb149, if_neg (fun q => q.1 hc259), if_neg (fun q => q.2.1 hc262)]; decide
          rw [hk263] at VO hend
          exact own_p218 l Z a0 hw T229.heap n0 p0 p1 p2 p3 p4 va vb vc vd vm vt vr q0 na bo ko out (1 : Int32) _ _ (by first | omega | (simp only [room_1]; omega) | (dsimp only; omega)) (by first | omega | (simp only [room_1]; omega) | (dsimp only; omega)) C X230 e230 N230 VO hend
        · replace hc262 : vc ≠ vb := hc262
          refine W.iload (q := 199) X230 C at_197 rfl rfl ?_
          refine W.iload (q := 201) X230 C at_199 rfl rfl ?_
          refine W.iload (q := 203) X230 C at_201 rfl rfl ?_
          refine W.iload (q := 205) X230 C at_203 rfl rfl ?_
          refine W.iload (q := 207) X230 C at_205 rfl rfl ?_
          refine W.iload (q := 209) X230 C at_207 rfl rfl ?_
          refine W.callS (q := 212) X230 C (W.ww hw 55 rfl) (W.ww hw 56 rfl) (W.ww hw 57 rfl) (W.ww hw 58 rfl) (by decide) (rm10 l Z a0 hw [] vc va vb vc vt vr T229.heap n0) e230 at_209 [(.int vc), (.int va), (.int vb), (.int vc), (.int vt), (.int vr)] [] rfl rfl pd__28IIIIZI_29Z rfl rfl (by decide) (Nat.le_of_ble_eq_true rfl) (by first | omega | (simp only [room_1]; omega) | (dsimp only; omega)) (by first | omega | (simp only [room_1]; omega) | (dsimp only; omega)) rfl (fun T264 w264 L264 X264 hQ264 => ?_)
          obtain ⟨rfl, NL264, e264⟩ := hQ264
          have N264 := Fr.app N230 NL264
          show W.Go p e below _ (T264.setTop (mkF m 212 #[.val (.int p0), .val (.int p1), .val (.int p2), .val (.int p3), .val (.int p4), .val (.int va), .val (.int vb), .val (.int vc), .val (.int vd), .val (.int vm), .val (.int vt), .val (.int vr), .val (.ref q0), .val (.ref na), .val (.ref bo), .val (.int (1 : Int32))] [(.int (if own_pres vc va vb vc (own_R vt vr) = true then (1 : Int32) else 0))]))
          refine W.if_ (q := 218) (q' := 215) X264 C at_212 (by decide) (by decide) rfl (fun hc265 => ?_) (fun hc265 => ?_)
          · replace hc265 : (if own_pres vc va vb vc (own_R vt vr) = true then (1 : Int32) else 0) = 0 := hc265
            have pb212 := own_b0 hc265
            have hk266 : sz = (1 : Int32) := by rw [hend.1, own_cnt, if_pos pb149, if_neg (fun q => q.1 hc259), if_neg (fun q => pb212 q.2.2)]; decide
            rw [hk266] at VO hend
            exact own_p218 l Z a0 hw T229.heap n0 p0 p1 p2 p3 p4 va vb vc vd vm vt vr q0 na bo ko out (1 : Int32) _ _ (by first | omega | (simp only [room_1]; omega) | (dsimp only; omega)) (by first | omega | (simp only [room_1]; omega) | (dsimp only; omega)) C X264 e264 N264 VO hend
          · replace hc265 : (if own_pres vc va vb vc (own_R vt vr) = true then (1 : Int32) else 0) ≠ 0 := hc265
            have pb212 := own_b1 hc265
            refine W.iinc (q := 218) (L' := #[.val (.int p0), .val (.int p1), .val (.int p2), .val (.int p3), .val (.int p4), .val (.int va), .val (.int vb), .val (.int vc), .val (.int vd), .val (.int vm), .val (.int vt), .val (.int vr), .val (.ref q0), .val (.ref na), .val (.ref bo), .val (.int (2 : Int32))]) X264 C at_215 rfl (by decide) rfl rfl ?_
            have hk267 : sz = (2 : Int32) := by rw [hend.1, own_cnt, if_pos pb149, if_neg (fun q => q.1 hc259), if_pos ⟨hc260, hc262, pb212⟩]; decide
            rw [hk267] at VO hend
            exact own_p218 l Z a0 hw T229.heap n0 p0 p1 p2 p3 p4 va vb vc vd vm vt vr q0 na bo ko out (2 : Int32) _ _ (by first | omega | (simp only [room_1]; omega) | (dsimp only; omega)) (by first | omega | (simp only [room_1]; omega) | (dsimp only; omega)) C X264 e264 N264 VO hend
    · replace hc259 : vb ≠ va := hc259
      refine W.iload (q := 164) X230 C at_162 rfl rfl ?_
      refine W.iload (q := 166) X230 C at_164 rfl rfl ?_
      refine W.iload (q := 168) X230 C at_166 rfl rfl ?_
      refine W.iload (q := 170) X230 C at_168 rfl rfl ?_
      refine W.iload (q := 172) X230 C at_170 rfl rfl ?_
      refine W.iload (q := 174) X230 C at_172 rfl rfl ?_
      refine W.callS (q := 177) X230 C (W.ww hw 55 rfl) (W.ww hw 56 rfl) (W.ww hw 57 rfl) (W.ww hw 58 rfl) (by decide) (rm10 l Z a0 hw [] vb va vb vc vt vr T229.heap n0) e230 at_174 [(.int vb), (.int va), (.int vb), (.int vc), (.int vt), (.int vr)] [] rfl rfl pd__28IIIIZI_29Z rfl rfl (by decide) (Nat.le_of_ble_eq_true rfl) (by first | omega | (simp only [room_1]; omega) | (dsimp only; omega)) (by first | omega | (simp only [room_1]; omega) | (dsimp only; omega)) rfl (fun T268 w268 L268 X268 hQ268 => ?_)
      obtain ⟨rfl, NL268, e268⟩ := hQ268
      have N268 := Fr.app N230 NL268
      show W.Go p e below _ (T268.setTop (mkF m 177 #[.val (.int p0), .val (.int p1), .val (.int p2), .val (.int p3), .val (.int p4), .val (.int va), .val (.int vb), .val (.int vc), .val (.int vd), .val (.int vm), .val (.int vt), .val (.int vr), .val (.ref q0), .val (.ref na), .val (.ref bo), .val (.int (1 : Int32))] [(.int (if own_pres vb va vb vc (own_R vt vr) = true then (1 : Int32) else 0))]))
      refine W.if_ (q := 183) (q' := 180) X268 C at_177 (by decide) (by decide) rfl (fun hc269 => ?_) (fun hc269 => ?_)
      · replace hc269 : (if own_pres vb va vb vc (own_R vt vr) = true then (1 : Int32) else 0) = 0 := hc269
        have pb177 := own_b0 hc269
        refine W.iload (q := 185) X268 C at_183 rfl rfl ?_
        refine W.iload (q := 187) X268 C at_185 rfl rfl ?_
        refine W.icmp (q := 218) (q' := 190) X268 C at_187 (by decide) (by decide) rfl (fun hc270 => ?_) (fun hc270 => ?_)
        · replace hc270 : vc = va := hc270
          have hk271 : sz = (1 : Int32) := by rw [hend.1, own_cnt, if_pos pb149, if_neg (fun q => pb177 q.2), if_neg (fun q => q.1 hc270)]; decide
          rw [hk271] at VO hend
          exact own_p218 l Z a0 hw T229.heap n0 p0 p1 p2 p3 p4 va vb vc vd vm vt vr q0 na bo ko out (1 : Int32) _ _ (by first | omega | (simp only [room_1]; omega) | (dsimp only; omega)) (by first | omega | (simp only [room_1]; omega) | (dsimp only; omega)) C X268 e268 N268 VO hend
        · replace hc270 : vc ≠ va := hc270
          refine W.iload (q := 192) X268 C at_190 rfl rfl ?_
          refine W.iload (q := 194) X268 C at_192 rfl rfl ?_
          refine W.icmp (q := 218) (q' := 197) X268 C at_194 (by decide) (by decide) rfl (fun hc272 => ?_) (fun hc272 => ?_)
          · replace hc272 : vc = vb := hc272
            have hk273 : sz = (1 : Int32) := by rw [hend.1, own_cnt, if_pos pb149, if_neg (fun q => pb177 q.2), if_neg (fun q => q.2.1 hc272)]; decide
            rw [hk273] at VO hend
            exact own_p218 l Z a0 hw T229.heap n0 p0 p1 p2 p3 p4 va vb vc vd vm vt vr q0 na bo ko out (1 : Int32) _ _ (by first | omega | (simp only [room_1]; omega) | (dsimp only; omega)) (by first | omega | (simp only [room_1]; omega) | (dsimp only; omega)) C X268 e268 N268 VO hend
          · replace hc272 : vc ≠ vb := hc272
            refine W.iload (q := 199) X268 C at_197 rfl rfl ?_
            refine W.iload (q := 201) X268 C at_199 rfl rfl ?_
            refine W.iload (q := 203) X268 C at_201 rfl rfl ?_
            refine W.iload (q := 205) X268 C at_203 rfl rfl ?_
            refine W.iload (q := 207) X268 C at_205 rfl rfl ?_
            refine W.iload (q := 209) X268 C at_207 rfl rfl ?_
            refine W.callS (q := 212) X268 C (W.ww hw 55 rfl) (W.ww hw 56 rfl) (W.ww hw 57 rfl) (W.ww hw 58 rfl) (by decide) (rm10 l Z a0 hw [] vc va vb vc vt vr T229.heap n0) e268 at_209 [(.int vc), (.int va), (.int vb), (.int vc), (.int vt), (.int vr)] [] rfl rfl pd__28IIIIZI_29Z rfl rfl (by decide) (Nat.le_of_ble_eq_true rfl) (by first | omega | (simp only [room_1]; omega) | (dsimp only; omega)) (by first | omega | (simp only [room_1]; omega) | (dsimp only; omega)) rfl (fun T274 w274 L274 X274 hQ274 => ?_)
            obtain ⟨rfl, NL274, e274⟩ := hQ274
            have N274 := Fr.app N268 NL274
            show W.Go p e below _ (T274.setTop (mkF m 212 #[.val (.int p0), .val (.int p1), .val (.int p2), .val (.int p3), .val (.int p4), .val (.int va), .val (.int vb), .val (.int vc), .val (.int vd), .val (.int vm), .val (.int vt), .val (.int vr), .val (.ref q0), .val (.ref na), .val (.ref bo), .val (.int (1 : Int32))] [(.int (if own_pres vc va vb vc (own_R vt vr) = true then (1 : Int32) else 0))]))
            refine W.if_ (q := 218) (q' := 215) X274 C at_212 (by decide) (by decide) rfl (fun hc275 => ?_) (fun hc275 => ?_)
            · replace hc275 : (if own_pres vc va vb vc (own_R vt vr) = true then (1 : Int32) else 0) = 0 := hc275
              have pb212 := own_b0 hc275
              have hk276 : sz = (1 : Int32) := by rw [hend.1, own_cnt, if_pos pb149, if_neg (fun q => pb177 q.2), if_neg (fun q => pb212 q.2.2)]; decide
              rw [hk276] at VO hend
              exact own_p218 l Z a0 hw T229.heap n0 p0 p1 p2 p3 p4 va vb vc vd vm vt vr q0 na bo ko out (1 : Int32) _ _ (by first | omega | (simp only [room_1]; omega) | (dsimp only; omega)) (by first | omega | (simp only [room_1]; omega) | (dsimp only; omega)) C X274 e274 N274 VO hend
            · replace hc275 : (if own_pres vc va vb vc (own_R vt vr) = true then (1 : Int32) else 0) ≠ 0 := hc275
              have pb212 := own_b1 hc275
              refine W.iinc (q := 218) (L' := #[.val (.int p0), .val (.int p1), .val (.int p2), .val (.int p3), .val (.int p4), .val (.int va), .val (.int vb), .val (.int vc), .val (.int vd), .val (.int vm), .val (.int vt), .val (.int vr), .val (.ref q0), .val (.ref na), .val (.ref bo), .val (.int (2 : Int32))]) X274 C at_215 rfl (by decide) rfl rfl ?_
              have hk277 : sz = (2 : Int32) := by rw [hend.1, own_cnt, if_pos pb149, if_neg (fun q => pb177 q.2), if_pos ⟨hc270, hc272, pb212⟩]; decide
              rw [hk277] at VO hend
              exact own_p218 l Z a0 hw T229.heap n0 p0 p1 p2 p3 p4 va vb vc vd vm vt vr q0 na bo ko out (2 : Int32) _ _ (by first | omega | (simp only [room_1]; omega) | (dsimp only; omega)) (by first | omega | (simp only [room_1]; omega) | (dsimp only; omega)) C X274 e274 N274 VO hend
      · replace hc269 : (if own_pres vb va vb vc (own_R vt vr) = true then (1 : Int32) else 0) ≠ 0 := hc269
        have pb177 := own_b1 hc269
        refine W.iinc (q := 183) (L' := #[.val (.int p0), .val (.int p1), .val (.int p2), .val (.int p3), .val (.int p4), .val (.int va), .val (.int vb), .val (.int vc), .val (.int vd), .val (.int vm), .val (.int vt), .val (.int vr), .val (.ref q0), .val (.ref na), .val (.ref bo), .val (.int (2 : Int32))]) X268 C at_180 rfl (by decide) rfl rfl ?_
        refine W.iload (q := 185) X268 C at_183 rfl rfl ?_
        refine W.iload (q := 187) X268 C at_185 rfl rfl ?_
        refine W.icmp (q := 218) (q' := 190) X268 C at_187 (by decide) (by decide) rfl (fun hc278 => ?_) (fun hc278 => ?_)
        · replace hc278 : vc = va := hc278
          have hk279 : sz = (2 : Int32) := by rw [hend.1, own_cnt, if_pos pb149, if_pos ⟨hc259, pb177⟩, if_neg (fun q => q.1 hc278)]; decide
          rw [hk279] at VO hend
          exact own_p218 l Z a0 hw T229.heap n0 p0 p1 p2 p3 p4 va vb vc vd vm vt vr q0 na bo ko out (2 : Int32) _ _ (by first | omega | (simp only [room_1]; omega) | (dsimp only; omega)) (by first | omega | (simp only [room_1]; omega) | (dsimp only; omega)) C X268 e268 N268 VO hend
        · replace hc278 : vc ≠ va := hc278
          refine W.iload (q := 192) X268 C at_190 rfl rfl ?_
          refine W.iload (q := 194) X268 C at_192 rfl rfl ?_
          refine W.icmp (q := 218) (q' := 197) X268 C at_194 (by decide) (by decide) rfl (fun hc280 => ?_) (fun hc280 => ?_)
          · replace hc280 : vc = vb := hc280
            have hk281 : sz = (2 : Int32) := by rw [hend.1, own_cnt, if_pos pb149, if_pos ⟨hc259, pb177⟩, if_neg (fun q => q.2.1 hc280)]; decide
            rw [hk281] at VO hend
            exact own_p218 l Z a0 hw T229.heap n0 p0 p1 p2 p3 p4 va vb vc vd vm vt vr q0 na bo ko out (2 : Int32) _ _ (by first | omega | (simp only [room_1]; omega) | (dsimp only; omega)) (by first | omega | (simp only [room_1]; omega) | (dsimp only; omega)) C X268 e268 N268 VO hend
          · replace hc280 : vc ≠ vb := hc280
            refine W.iload (q := 199) X268 C at_197 rfl rfl ?_
            refine W.iload (q := 201) X268 C at_199 rfl rfl ?_
            refine W.iload (q := 203) X268 C at_201 rfl rfl ?_
            refine W.iload (q := 205) X268 C at_203 rfl rfl ?_
            refine W.iload (q := 207) X268 C at_205 rfl rfl ?_
            refine W.iload (q := 209) X268 C at_207 rfl rfl ?_
            refine W.callS (q := 212) X268 C (W.ww hw 55 rfl) (W.ww hw 56 rfl) (W.ww hw 57 rfl) (W.ww hw 58 rfl) (by decide) (rm10 l Z a0 hw [] vc va vb vc vt vr T229.heap n0) e268 at_209 [(.int vc), (.int va), (.int vb), (.int vc), (.int vt), (.int vr)] [] rfl rfl pd__28IIIIZI_29Z rfl rfl (by decide) (Nat.le_of_ble_eq_true rfl) (by first | omega | (simp only [room_1]; omega) | (dsimp only; omega)) (by first | omega | (simp only [room_1]; omega) | (dsimp only; omega)) rfl (fun T282 w282 L282 X282 hQ282 => ?_)
            obtain ⟨rfl, NL282, e282⟩ := hQ282
            have N282 := Fr.app N268 NL282
            show W.Go p e below _ (T282.setTop (mkF m 212 #[.val (.int p0), .val (.int p1), .val (.int p2), .val (.int p3), .val (.int p4), .val (.int va), .val (.int vb), .val (.int vc), .val (.int vd), .val (.int vm), .val (.int vt), .val (.int vr), .val (.ref q0), .val (.ref na), .val (.ref bo), .val (.int (2 : Int32))] [(.int (if own_pres vc va vb vc (own_R vt vr) = true then (1 : Int32) else 0))]))
            refine W.if_ (q := 218) (q' := 215) X282 C at_212 (by decide) (by decide) rfl (fun hc283 => ?_) (fun hc283 => ?_)
            · replace hc283 : (if own_pres vc va vb vc (own_R vt vr) = true then (1 : Int32) else 0) = 0 := hc283
              have pb212 := own_b0 hc283
              have hk284 : sz = (2 : Int32) := by rw [hend.1, own_cnt, if_pos pb149, if_pos ⟨hc259, pb177⟩, if_neg (fun q => pb212 q.2.2)]; decide
              rw [hk284] at VO hend
              exact own_p218 l Z a0 hw T229.heap n0 p0 p1 p2 p3 p4 va vb vc vd vm vt vr q0 na bo ko out (2 : Int32) _ _ (by first | omega | (simp only [room_1]; omega) | (dsimp only; omega)) (by first | omega | (simp only [room_1]; omega) | (dsimp only; omega)) C X282 e282 N282 VO hend
            · replace hc283 : (if own_pres vc va vb vc (own_R vt vr) = true then (1 : Int32) else 0) ≠ 0 := hc283
              have pb212 := own_b1 hc283
              refine W.iinc (q := 218) (L' := #[.val (.int p0), .val (.int p1), .val (.int p2), .val (.int p3), .val (.int p4), .val (.int va), .val (.int vb), .val (.int vc), .val (.int vd), .val (.int vm), .val (.int vt), .val (.int vr), .val (.ref q0), .val (.ref na), .val (.ref bo), .val (.int (3 : Int32))]) X282 C at_215 rfl (by decide) rfl rfl ?_
              have hk285 : sz = (3 : Int32) := by rw [hend.1, own_cnt, if_pos pb149, if_pos ⟨hc259, pb177⟩, if_pos ⟨hc278, hc280, pb212⟩]; decide
              rw [hk285] at VO hend
              exact own_p218 l Z a0 hw T229.heap n0 p0 p1 p2 p3 p4 va vb vc vd vm vt vr q0 na bo ko out (3 : Int32) _ _ (by first | omega | (simp only [room_1]; omega) | (dsimp only; omega)) (by first | omega | (simp only [room_1]; omega) | (dsimp only; omega)) C X282 e282 N282 VO hend
theorem pd__28_29V : parseMethodDescriptor "()V" = some ⟨[], none⟩ := by decide +kernel
theorem pd__28ILcom_2fexample_2fnomina_2fnomina_2ftableau_2fDependencies_3b_29Z : parseMethodDescriptor "(ILcom/example/nomina/nomina/tableau/Dependencies;)Z" = some ⟨[.int, (.object "com/example/nomina/nomina/tableau/Dependencies")], some .boolean⟩ := by decide +kernel
set_option maxRecDepth 65536 in
set_option maxHeartbeats 40000000 in
theorem own_p68 (l : Launch) (Z : State) (a0 : Array Value) (hw : ∀ d ∈ tables_1, d.before a0 Z = true) (h0 : Heap) (n0 : Nat) (p0 p1 p2 p3 p4 va vb vc vd vm vt vr : Int32) (na lv : Addr) (kv : ClassId) (vn : List Value) {p : Program} {e : Env} {s : State} {m : MethodId} {args : Array Value} {below : List Frame} {meth : Method} {c : Code} {T0 : State} {locs : List Loc}
    (C : W.Cx p s m meth c Z code 16 "com/example/nomina/nomina/tableau/IntSetToArrayPinLaw" "law" (some .boolean)) (X0 : Stand p l e room_1 s m args below meth c T0 locs 0 0) (e0 : T0.heap = h0) (N0 : Fr n0 locs) (Z0 : n0 ≤ h0.size) (O0 : Old Z n0 h0) (SN : Sta Z Z.heap "com/example/nomina/nomina/tableau/Dependencies" "NONE" "Lcom/example/nomina/nomina/tableau/Dependencies;" (.ref na)) (EN : Exa Z Z.heap na "com/example/nomina/nomina/tableau/Dependencies") (FN : Fld Z Z.heap na "com/example/nomina/nomina/tableau/Dependencies" "levels" "[I" (.ref lv)) (VN : Arv Z Z.heap lv kv .int (0 : Int32) vn (.int (0 : Int32))) (hva : 0 ≤ va.toInt) (hvb : 0 ≤ vb.toInt) (hvc : 0 ≤ vc.toInt) (hvr : 0 ≤ vr.toInt) :
    W.Go p e below (W.Post s (fun v h L => v = some (.int 1) ∧ Fr n0 L) room_1.cells room_1.slots) (T0.setTop (mkF m 68 #[.val (.int p0), .val (.int p1), .val (.int p2), .val (.int p3), .val (.int p4), .val (.int va), .val (.int vb), .val (.int vc), .val (.int vd), .val (.int vm), .val (.int vt), .val (.int vr), .unset, .unset, .unset, .unset] [])) := by
  obtain ⟨nn, ll, zz, out, hrun, hz0, hz3, hta, -, hend⟩ := own_core (rm := vt) hva hvb hvc hvr
  obtain ⟨n1, l1, z1, n2, l2, z2, n3, l3, z3, ha1, ha2, ha3, hlast⟩ := own_run_inv hrun
  refine W.newO (q := 71) X0 C (W.ww hw 1 rfl) (W.ww hw 2 rfl) (W.ww hw 3 rfl) e0 at_68 (by decide) (by decide) rfl (fun T286 h286 b286 X286 e286 g286 E286 A286 D286 => ?_)
  have ge_b286 : n0 ≤ b286 := by rw [g286]; exact Z0
  have n0_286 : n0 ≤ h286.size := Nat.le_trans Z0 E286.1
  have O0_288 := O0.ext E286
  have F_slots_289 : Fld Z h286 b286 "com/example/nomina/nomina/tableau/IntSet" "slots" "[I" .null := D286 (Or.inl (W.ww hw 12 rfl)) (ty := (.array .int)) (by decide)
  have F_size_290 : Fld Z h286 b286 "com/example/nomina/nomina/tableau/IntSet" "size" "I" (.int (0 : Int32)) := D286 (Or.inl (W.ww hw 22 rfl)) (ty := .int) (by decide)
  have F_contentHash_291 : Fld Z h286 b286 "com/example/nomina/nomina/tableau/IntSet" "contentHash" "I" (.int (0 : Int32)) := D286 (Or.inl (W.ww hw 31 rfl)) (ty := .int) (by decide)
  have F_dependencies_292 : Fld Z h286 b286 "com/example/nomina/nomina/tableau/IntSet" "dependencies" "[Lcom/example/nomina/nomina/tableau/Dependencies;" .null := D286 (Or.inl (W.ww hw 49 rfl)) (ty := (.array (.object "com/example/nomina/nomina/tableau/Dependencies"))) (by decide)
  refine W.dup (q := 72) X286 C at_71 rfl rfl ?_
  refine W.callI (q := 75) X286 C rfl (W.ww hw 4 rfl) (W.ww hw 5 rfl) (W.ww hw 3 rfl) (W.ww hw 6 rfl) (by decide) (rm1 l Z a0 hw [] b286 h286 n0 n0_286 O0_288 ge_b286 A286 F_slots_289 F_size_290 F_contentHash_291 F_dependencies_292) e286 at_72 (a := b286) [] [(.ref b286)] rfl rfl pd__28_29V rfl rfl (by decide) (Nat.le_of_ble_eq_true rfl) (by decide) (by decide) rfl (fun T293 w293 L293 X293 hQ293 => ?_)
  obtain ⟨rfl, NL293, bs293, ks293, HS293⟩ := hQ293
  have N293 := Fr.app N0 NL293
  obtain ⟨ge0_294, geb_294, neb_294, Z_294, O294, E294, Fs294, Fz294, Fh294, Fd294, V294_, ok294⟩ := HS293
  show W.Go p e below _ (T293.setTop (mkF m 75 #[.val (.int p0), .val (.int p1), .val (.int p2), .val (.int p3), .val (.int p4), .val (.int va), .val (.int vb), .val (.int vc), .val (.int vd), .val (.int vm), .val (.int vt), .val (.int vr), .unset, .unset, .unset, .unset] [(.ref b286)]))
  refine W.astore (q := 77) (L' := #[.val (.int p0), .val (.int p1), .val (.int p2), .val (.int p3), .val (.int p4), .val (.int va), .val (.int vb), .val (.int vc), .val (.int vd), .val (.int vm), .val (.int vt), .val (.int vr), .val (.ref b286), .unset, .unset, .unset]) X293 C at_75 rfl rfl rfl ?_
  have SN77 := SN.ext O294.2
  refine W.getS (q := 80) X293 C (W.ww hw 13 rfl) Via.refl rfl SN77 at_77 rfl (fun T295 X295 e295 => ?_)
  refine W.astore (q := 82) (L' := #[.val (.int p0), .val (.int p1), .val (.int p2), .val (.int p3), .val (.int p4), .val (.int va), .val (.int vb), .val (.int vc), .val (.int vd), .val (.int vm), .val (.int vt), .val (.int vr), .val (.ref b286), .val (.ref na), .unset, .unset]) X295 C at_80 rfl rfl rfl ?_
  refine W.aload (q := 84) X295 C at_82 rfl rfl rfl ?_
  refine W.iload (q := 86) X295 C at_84 rfl rfl ?_
  refine W.aload (q := 88) X295 C at_86 rfl rfl rfl ?_
  refine W.callV (q := 91) X295 C (W.ww hw 16 rfl) (W.ww hw 17 rfl) (W.nf C (W.ww hw 19 rfl)) (W.ww hw 19 rfl) (W.ww hw 18 rfl) (W.ww hw 3 rfl) (W.ww hw 20 rfl) (by decide) (rm3 l Z a0 hw [] b286 va na lv kv vn bs293 ks293 (4 : Int32) [0, 0, 0, 0] (0 : Int32) (0 : Int32) n1 l1 z1 T293.heap n0 EN FN VN ⟨ge0_294, geb_294, neb_294, Z_294, O294, E294, Fs294, Fz294, Fh294, Fd294, V294_, ok294⟩ ha1) e295 E294 at_88 [(.int va), (.ref na)] [] rfl rfl pd__28ILcom_2fexample_2fnomina_2fnomina_2ftableau_2fDependencies_3b_29Z rfl rfl (by decide) (Nat.le_of_ble_eq_true rfl) (by decide) (by decide) rfl (fun T296 w296 L296 X296 hQ296 => ?_)
  obtain ⟨w_296, bs296, ks296, hs296, rfl, NL296, HS296⟩ := hQ296
  have N296 := Fr.app N293 NL296
  obtain ⟨ge0_297, geb_297, neb_297, Z_297, O297, E297, Fs297, Fz297, Fh297, Fd297, V297_, ok297⟩ := HS296
  show W.Go p e below _ (T296.setTop (mkF m 91 #[.val (.int p0), .val (.int p1), .val (.int p2), .val (.int p3), .val (.int p4), .val (.int va), .val (.int vb), .val (.int vc), .val (.int vd), .val (.int vm), .val (.int vt), .val (.int vr), .val (.ref b286), .val (.ref na), .unset, .unset] [(.int w_296)]))
  refine W.pop (q := 92) X296 C at_91 rfl rfl ?_
  refine W.aload (q := 94) X296 C at_92 rfl rfl rfl ?_
  refine W.iload (q := 96) X296 C at_94 rfl rfl ?_
  refine W.aload (q := 98) X296 C at_96 rfl rfl rfl ?_
  refine W.callV (q := 101) X296 C (W.ww hw 16 rfl) (W.ww hw 17 rfl) (W.nf C (W.ww hw 19 rfl)) (W.ww hw 19 rfl) (W.ww hw 18 rfl) (W.ww hw 3 rfl) (W.ww hw 20 rfl) (by decide) (rm3 l Z a0 hw [] b286 vb na lv kv vn bs296 ks296 n1 l1 z1 hs296 n2 l2 z2 T296.heap n0 EN FN VN ⟨ge0_297, geb_297, neb_297, Z_297, O297, E297, Fs297, Fz297, Fh297, Fd297, V297_, ok297⟩ ha2) rfl E297 at_98 [(.int vb), (.ref na)] [] rfl rfl pd__28ILcom_2fexample_2fnomina_2fnomina_2ftableau_2fDependencies_3b_29Z rfl rfl (by decide) (Nat.le_of_ble_eq_true rfl) (by decide) (by decide) rfl (fun T298 w298 L298 X298 hQ298 => ?_)
  obtain ⟨w_298, bs298, ks298, hs298, rfl, NL298, HS298⟩ := hQ298
  have N298 := Fr.app N296 NL298
  obtain ⟨ge0_299, geb_299, neb_299, Z_299, O299, E299, Fs299, Fz299, Fh299, Fd299, V299_, ok299⟩ := HS298
  show W.Go p e below _ (T298.setTop (mkF m 101 #[.val (.int p0), .val (.int p1), .val (.int p2), .val (.int p3), .val (.int p4), .val (.int va), .val (.int vb), .val (.int vc), .val (.int vd), .val (.int vm), .val (.int vt), .val (.int vr), .val (.ref b286), .val (.ref na), .unset, .unset] [(.int w_298)]))
  refine W.pop (q := 102) X298 C at_101 rfl rfl ?_
  refine W.aload (q := 104) X298 C at_102 rfl rfl rfl ?_
  refine W.iload (q := 106) X298 C at_104 rfl rfl ?_
  refine W.aload (q := 108) X298 C at_106 rfl rfl rfl ?_
  refine W.callV (q := 111) X298 C (W.ww hw 16 rfl) (W.ww hw 17 rfl) (W.nf C (W.ww hw 19 rfl)) (W.ww hw 19 rfl) (W.ww hw 18 rfl) (W.ww hw 3 rfl) (W.ww hw 20 rfl) (by decide) (rm3 l Z a0 hw [] b286 vc na lv kv vn bs298 ks298 n2 l2 z2 hs298 n3 l3 z3 T298.heap n0 EN FN VN ⟨ge0_299, geb_299, neb_299, Z_299, O299, E299, Fs299, Fz299, Fh299, Fd299, V299_, ok299⟩ ha3) rfl E299 at_108 [(.int vc), (.ref na)] [] rfl rfl pd__28ILcom_2fexample_2fnomina_2fnomina_2ftableau_2fDependencies_3b_29Z rfl rfl (by decide) (Nat.le_of_ble_eq_true rfl) (by decide) (by decide) rfl (fun T300 w300 L300 X300 hQ300 => ?_)
  obtain ⟨w_300, bs300, ks300, hs300, rfl, NL300, HS300⟩ := hQ300
  have N300 := Fr.app N298 NL300
  obtain ⟨ge0_301, geb_301, neb_301, Z_301, O301, E301, Fs301, Fz301, Fh301, Fd301, V301_, ok301⟩ := HS300
  show W.Go p e below _ (T300.setTop (mkF m 111 #[.val (.int p0), .val (.int p1), .val (.int p2), .val (.int p3), .val (.int p4), .val (.int va), .val (.int vb), .val (.int vc), .val (.int vd), .val (.int vm), .val (.int vt), .val (.int vr), .val (.ref b286), .val (.ref na), .unset, .unset] [(.int w_300)]))
  refine W.pop (q := 112) X300 C at_111 rfl rfl ?_
  refine W.iload (q := 114) X300 C at_112 rfl rfl ?_
  refine W.if_ (q := 124) (q' := 117) X300 C at_114 (by decide) (by decide) rfl (fun hc302 => ?_) (fun hc302 => ?_)
  · replace hc302 : vt = 0 := hc302
    rw [own_R, if_pos hc302] at hlast
    obtain ⟨e1, e2, e3⟩ := own_tri (show some (n3, l3, z3) = some (nn, ll, zz) from hlast)
    subst e1 e2 e3
    exact own_p124 l Z a0 hw T300.heap n0 p0 p1 p2 p3 p4 va vb vc vd vm vt vr b286 na bs300 ks300 n3 l3 z3 hs300 out _ _ (by decide) (by decide) C X300 rfl N300 ⟨ge0_301, geb_301, neb_301, Z_301, O301, E301, Fs301, Fz301, Fh301, Fd301, V301_, ok301⟩ hz0 hz3 hta hend
  · replace hc302 : vt ≠ 0 := hc302
    rw [own_R, if_neg hc302] at hlast
    have hrem : own_rem 0 own_hm n3 l3 z3 (vr + 1) = some (nn, ll, zz) := hlast
    refine W.aload (q := 119) X300 C at_117 rfl rfl rfl ?_
    refine W.iload (q := 121) X300 C at_119 rfl rfl ?_
    refine W.callV (q := 124) X300 C (W.ww hw 59 rfl) (W.ww hw 60 rfl) (W.nf C (W.ww hw 62 rfl)) (W.ww hw 62 rfl) (W.ww hw 61 rfl) (W.ww hw 3 rfl) (W.ww hw 63 rfl) (by decide) (rm11 l Z a0 hw [] b286 vr bs300 ks300 n3 l3 z3 hs300 nn ll zz T300.heap n0 ⟨ge0_301, geb_301, neb_301, Z_301, O301, E301, Fs301, Fz301, Fh301, Fd301, V301_, ok301⟩ hrem) rfl E301 at_121 [(.int vr)] [] rfl rfl pd__28I_29V rfl rfl (by decide) (Nat.le_of_ble_eq_true rfl) (by decide) (by decide) rfl (fun T303 w303 L303 X303 hQ303 => ?_)
    obtain ⟨rfl, NL303, hs303, HS303⟩ := hQ303
    have N303 := Fr.app N300 NL303
    obtain ⟨ge0_304, geb_304, neb_304, Z_304, O304, E304, Fs304, Fz304, Fh304, Fd304, V304_, ok304⟩ := HS303
    show W.Go p e below _ (T303.setTop (mkF m 124 #[.val (.int p0), .val (.int p1), .val (.int p2), .val (.int p3), .val (.int p4), .val (.int va), .val (.int vb), .val (.int vc), .val (.int vd), .val (.int vm), .val (.int vt), .val (.int vr), .val (.ref b286), .val (.ref na), .unset, .unset] []))
    exact own_p124 l Z a0 hw T303.heap n0 p0 p1 p2 p3 p4 va vb vc vd vm vt vr b286 na bs300 ks300 nn ll zz hs303 out _ _ (by decide) (by decide) C X303 rfl N303 ⟨ge0_304, geb_304, neb_304, Z_304, O304, E304, Fs304, Fz304, Fh304, Fd304, V304_, ok304⟩ hz0 hz3 hta hend
def Q0 (Z : State) (p0 p1 p2 p3 p4 : Int32) (na lv : Addr) (kv : ClassId) (vn : List Value) (h0 : Heap) (n0 : Nat) (v : Option Value) (h : Heap) (L : List Loc) : Prop := v = some (.int 1) ∧ Fr n0 L
set_option maxRecDepth 65536 in
set_option maxHeartbeats 40000000 in
theorem rm0 (l : Launch) (Z : State) (a0 : Array Value) (hw : ∀ d ∈ tables_1, d.before a0 Z = true) (ws : List Jvm.Cond) (p0 p1 p2 p3 p4 : Int32) (na lv : Addr) (kv : ClassId) (vn : List Value) (h0 : Heap) (n0 : Nat) (Z0 : n0 ≤ h0.size) (O0 : Old Z n0 h0) (SN : Sta Z Z.heap "com/example/nomina/nomina/tableau/Dependencies" "NONE" "Lcom/example/nomina/nomina/tableau/Dependencies;" (.ref na)) (EN : Exa Z Z.heap na "com/example/nomina/nomina/tableau/Dependencies") (FN : Fld Z Z.heap na "com/example/nomina/nomina/tableau/Dependencies" "levels" "[I" (.ref lv)) (VN : Arv Z Z.heap lv kv .int (0 : Int32) vn (.int (0 : Int32))) :
    MetFree l x (head1 (Jvm.Cond.code x code maxLocals ret :: ws) room_1) (fun a U => a = #[(.int p0), (.int p1), (.int p2), (.int p3), (.int p4)] ∧ Z.Warmed39 U.vm ∧ U.heap = h0) (fun _ _ _ _ _ => True) (fun _ U o U' => ∃ v L, o = .returned v ∧ Q0 Z p0 p1 p2 p3 p4 na lv kv vn h0 n0 v U'.heap L ∧ FrameEnd U o U' L room_1.cells room_1.slots) := by
  refine W.bodyOf (y := x) (as := #[(.int p0), (.int p1), (.int p2), (.int p3), (.int p4)]) (maxL := maxLocals) (Q := Q0 Z p0 p1 p2 p3 p4 na lv kv vn h0 n0) (Ls := #[.val (.int p0), .val (.int p1), .val (.int p2), .val (.int p3), .val (.int p4), .unset, .unset, .unset, .unset, .unset, .unset, .unset, .unset, .unset, .unset, .unset]) (plainFor_of_name pn_com_example_nomina_nomina_tableau_IntSetToArrayPinLaw) (fun m => by first | rfl | (simp [entryFrame, mkF, argsToLocals, Value.category, maxLocals]; done)) ?_
  intro p e s m below meth c T0 C X0 e0
  replace C : W.Cx p s m meth c Z code 16 "com/example/nomina/nomina/tableau/IntSetToArrayPinLaw" "law" (some .boolean) := C
  have N0 := Fr.nil n0
  refine W.iloadN (q := 1) X0 C at_0 rfl rfl ?_
  refine W.ldcI (q := 3) X0 C (W.ww hw 0 rfl) at_1 rfl ?_
  refine W.iand (q := 4) X0 C at_3 rfl ?_
  generalize hv305 : (p0 &&& (2147483647 : Int32)) = v305
  refine W.istore (q := 6) (L' := #[.val (.int p0), .val (.int p1), .val (.int p2), .val (.int p3), .val (.int p4), .val (.int v305), .unset, .unset, .unset, .unset, .unset, .unset, .unset, .unset, .unset, .unset]) X0 C at_4 rfl rfl ?_
  refine W.iloadN (q := 7) X0 C at_6 rfl rfl ?_
  refine W.ldcI (q := 9) X0 C (W.ww hw 0 rfl) at_7 rfl ?_
  refine W.iand (q := 10) X0 C at_9 rfl ?_
  generalize hv306 : (p1 &&& (2147483647 : Int32)) = v306
  refine W.istore (q := 12) (L' := #[.val (.int p0), .val (.int p1), .val (.int p2), .val (.int p3), .val (.int p4), .val (.int v305), .val (.int v306), .unset, .unset, .unset, .unset, .unset, .unset, .unset, .unset, .unset]) X0 C at_10 rfl rfl ?_
  refine W.iloadN (q := 13) X0 C at_12 rfl rfl ?_
  refine W.ldcI (q := 15) X0 C (W.ww hw 0 rfl) at_13 rfl ?_
  refine W.iand (q := 16) X0 C at_15 rfl ?_
  generalize hv307 : (p2 &&& (2147483647 : Int32)) = v307
  refine W.istore (q := 18) (L' := #[.val (.int p0), .val (.int p1), .val (.int p2), .val (.int p3), .val (.int p4), .val (.int v305), .val (.int v306), .val (.int v307), .unset, .unset, .unset, .unset, .unset, .unset, .unset, .unset]) X0 C at_16 rfl rfl ?_
  refine W.iloadN (q := 19) X0 C at_18 rfl rfl ?_
  refine W.ldcI (q := 21) X0 C (W.ww hw 0 rfl) at_19 rfl ?_
  refine W.iand (q := 22) X0 C at_21 rfl ?_
  generalize hv308 : (p3 &&& (2147483647 : Int32)) = v308
  refine W.istore (q := 24) (L' := #[.val (.int p0), .val (.int p1), .val (.int p2), .val (.int p3), .val (.int p4), .val (.int v305), .val (.int v306), .val (.int v307), .val (.int v308), .unset, .unset, .unset, .unset, .unset, .unset, .unset]) X0 C at_22 rfl rfl ?_
  refine W.iload (q := 26) X0 C at_24 rfl rfl ?_
  refine W.iconst (q := 27) (v := 3) X0 C at_26 rfl rfl ?_
  refine W.iand (q := 28) X0 C at_27 rfl ?_
  generalize hv309 : (p4 &&& (3 : Int32)) = v309
  refine W.istore (q := 30) (L' := #[.val (.int p0), .val (.int p1), .val (.int p2), .val (.int p3), .val (.int p4), .val (.int v305), .val (.int v306), .val (.int v307), .val (.int v308), .val (.int v309), .unset, .unset, .unset, .unset, .unset, .unset]) X0 C at_28 rfl rfl ?_
  refine W.iload (q := 32) X0 C at_30 rfl rfl ?_
  refine W.if_ (q := 39) (q' := 35) X0 C at_32 (by decide) (by decide) rfl (fun hc310 => ?_) (fun hc310 => ?_)
  · replace hc310 : v309 = 0 := hc310
    refine W.iconst (q := 40) (v := 0) X0 C at_39 rfl rfl ?_
    refine W.istore (q := 42) (L' := #[.val (.int p0), .val (.int p1), .val (.int p2), .val (.int p3), .val (.int p4), .val (.int v305), .val (.int v306), .val (.int v307), .val (.int v308), .val (.int v309), .val (.int (0 : Int32)), .unset, .unset, .unset, .unset, .unset]) X0 C at_40 rfl rfl ?_
    refine W.iload (q := 44) X0 C at_42 rfl rfl ?_
    refine W.iconst (q := 45) (v := 1) X0 C at_44 rfl rfl ?_
    refine W.icmp (q := 53) (q' := 48) X0 C at_45 (by decide) (by decide) rfl (fun hc311 => ?_) (fun hc311 => ?_)
    · replace hc311 : v309 ≠ (1 : Int32) := hc311
      refine W.iload (q := 55) X0 C at_53 rfl rfl ?_
      refine W.iconst (q := 56) (v := 2) X0 C at_55 rfl rfl ?_
      refine W.icmp (q := 64) (q' := 59) X0 C at_56 (by decide) (by decide) rfl (fun hc312 => ?_) (fun hc312 => ?_)
      · replace hc312 : v309 ≠ (2 : Int32) := hc312
        refine W.iload (q := 66) X0 C at_64 rfl rfl ?_
        refine W.istore (q := 68) (L' := #[.val (.int p0), .val (.int p1), .val (.int p2), .val (.int p3), .val (.int p4), .val (.int v305), .val (.int v306), .val (.int v307), .val (.int v308), .val (.int v309), .val (.int (0 : Int32)), .val (.int v308), .unset, .unset, .unset, .unset]) X0 C at_66 rfl rfl ?_
        exact own_p68 l Z a0 hw h0 n0 p0 p1 p2 p3 p4 v305 v306 v307 v308 v309 (0 : Int32) v308 na lv kv vn C X0 e0 N0 Z0 O0 SN EN FN VN (own_nn hv305) (own_nn hv306) (own_nn hv307) (own_nn hv308)
      · replace hc312 : v309 = (2 : Int32) := hc312
        refine W.iload (q := 61) X0 C at_59 rfl rfl ?_
        refine W.goto (q := 66) X0 C at_61 (by decide) (by decide) ?_
        refine W.istore (q := 68) (L' := #[.val (.int p0), .val (.int p1), .val (.int p2), .val (.int p3), .val (.int p4), .val (.int v305), .val (.int v306), .val (.int v307), .val (.int v308), .val (.int v309), .val (.int (0 : Int32)), .val (.int v306), .unset, .unset, .unset, .unset]) X0 C at_66 rfl rfl ?_
        exact own_p68 l Z a0 hw h0 n0 p0 p1 p2 p3 p4 v305 v306 v307 v308 v309 (0 : Int32) v306 na lv kv vn C X0 e0 N0 Z0 O0 SN EN FN VN (own_nn hv305) (own_nn hv306) (own_nn hv307) (own_nn hv306)
    · replace hc311 : v309 = (1 : Int32) := hc311
      refine W.iload (q := 50) X0 C at_48 rfl rfl ?_
      refine W.goto (q := 66) X0 C at_50 (by decide) (by decide) ?_
      refine W.istore (q := 68) (L' := #[.val (.int p0), .val (.int p1), .val (.int p2), .val (.int p3), .val (.int p4), .val (.int v305), .val (.int v306), .val (.int v307), .val (.int v308), .val (.int v309), .val (.int (0 : Int32)), .val (.int v305), .unset, .unset, .unset, .unset]) X0 C at_66 rfl rfl ?_
      exact own_p68 l Z a0 hw h0 n0 p0 p1 p2 p3 p4 v305 v306 v307 v308 v309 (0 : Int32) v305 na lv kv vn C X0 e0 N0 Z0 O0 SN EN FN VN (own_nn hv305) (own_nn hv306) (own_nn hv307) (own_nn hv305)
  · replace hc310 : v309 ≠ 0 := hc310
    refine W.iconst (q := 36) (v := 1) X0 C at_35 rfl rfl ?_
    refine W.goto (q := 40) X0 C at_36 (by decide) (by decide) ?_
    refine W.istore (q := 42) (L' := #[.val (.int p0), .val (.int p1), .val (.int p2), .val (.int p3), .val (.int p4), .val (.int v305), .val (.int v306), .val (.int v307), .val (.int v308), .val (.int v309), .val (.int (1 : Int32)), .unset, .unset, .unset, .unset, .unset]) X0 C at_40 rfl rfl ?_
    refine W.iload (q := 44) X0 C at_42 rfl rfl ?_
    refine W.iconst (q := 45) (v := 1) X0 C at_44 rfl rfl ?_
    refine W.icmp (q := 53) (q' := 48) X0 C at_45 (by decide) (by decide) rfl (fun hc313 => ?_) (fun hc313 => ?_)
    · replace hc313 : v309 ≠ (1 : Int32) := hc313
      refine W.iload (q := 55) X0 C at_53 rfl rfl ?_
      refine W.iconst (q := 56) (v := 2) X0 C at_55 rfl rfl ?_
      refine W.icmp (q := 64) (q' := 59) X0 C at_56 (by decide) (by decide) rfl (fun hc314 => ?_) (fun hc314 => ?_)
      · replace hc314 : v309 ≠ (2 : Int32) := hc314
        refine W.iload (q := 66) X0 C at_64 rfl rfl ?_
        refine W.istore (q := 68) (L' := #[.val (.int p0), .val (.int p1), .val (.int p2), .val (.int p3), .val (.int p4), .val (.int v305), .val (.int v306), .val (.int v307), .val (.int v308), .val (.int v309), .val (.int (1 : Int32)), .val (.int v308), .unset, .unset, .unset, .unset]) X0 C at_66 rfl rfl ?_
        exact own_p68 l Z a0 hw h0 n0 p0 p1 p2 p3 p4 v305 v306 v307 v308 v309 (1 : Int32) v308 na lv kv vn C X0 e0 N0 Z0 O0 SN EN FN VN (own_nn hv305) (own_nn hv306) (own_nn hv307) (own_nn hv308)
      · replace hc314 : v309 = (2 : Int32) := hc314
        refine W.iload (q := 61) X0 C at_59 rfl rfl ?_
        refine W.goto (q := 66) X0 C at_61 (by decide) (by decide) ?_
        refine W.istore (q := 68) (L' := #[.val (.int p0), .val (.int p1), .val (.int p2), .val (.int p3), .val (.int p4), .val (.int v305), .val (.int v306), .val (.int v307), .val (.int v308), .val (.int v309), .val (.int (1 : Int32)), .val (.int v306), .unset, .unset, .unset, .unset]) X0 C at_66 rfl rfl ?_
        exact own_p68 l Z a0 hw h0 n0 p0 p1 p2 p3 p4 v305 v306 v307 v308 v309 (1 : Int32) v306 na lv kv vn C X0 e0 N0 Z0 O0 SN EN FN VN (own_nn hv305) (own_nn hv306) (own_nn hv307) (own_nn hv306)
    · replace hc313 : v309 = (1 : Int32) := hc313
      refine W.iload (q := 50) X0 C at_48 rfl rfl ?_
      refine W.goto (q := 66) X0 C at_50 (by decide) (by decide) ?_
      refine W.istore (q := 68) (L' := #[.val (.int p0), .val (.int p1), .val (.int p2), .val (.int p3), .val (.int p4), .val (.int v305), .val (.int v306), .val (.int v307), .val (.int v308), .val (.int v309), .val (.int (1 : Int32)), .val (.int v305), .unset, .unset, .unset, .unset]) X0 C at_66 rfl rfl ?_
      exact own_p68 l Z a0 hw h0 n0 p0 p1 p2 p3 p4 v305 v306 v307 v308 v309 (1 : Int32) v305 na lv kv vn C X0 e0 N0 Z0 O0 SN EN FN VN (own_nn hv305) (own_nn hv306) (own_nn hv307) (own_nn hv305)
set_option maxRecDepth 65536 in
set_option maxHeartbeats 40000000 in
theorem comes_1 {Post : Tables → Env → Array Value → State → Outcome → State → Prop} (hpost : ∀ tb e args s v u, (limb_1_1.after args s (.returned v) u = true ∧ limb_1_2.after args s (.returned v) u = true ∧ True) → FrameEnd s (.returned v) u (Jvm.fieldLocs frame_1_writes args s ++ Jvm.arrayLocs frame_1_arrays args s ++ Jvm.staticLocs frame_1_statics s) 16 128 → Post tb e args s (.returned v) u) :
    ArmFor flags0 classFile x code maxLocals ret World_1 tables_1 room_1 Calls_1 rest_1 Pre_1 Post := by
  intro l hfl _ _ p e ha hc hk s m args below hf hA hF happ hP
  obtain ⟨hcalls, hrest, hpre⟩ := hP
  obtain ⟨-, -, -, hnamed, -, -, -, hat⟩ := (Spec.applies_iff hf).mp happ
  obtain ⟨hg, hn⟩ := and_e (Cond.before_iff.mp (show (Jvm.Cond.and given_1 narrow_1).before args s = true from hpre))
  obtain ⟨g1, g2⟩ := and_e hg
  obtain ⟨g3, g4⟩ := and_e g2
  obtain ⟨g5, g6⟩ := and_e g4
  obtain ⟨g7, g8⟩ := and_e g6
  obtain ⟨g9, g10⟩ := and_e g8
  obtain ⟨g11, g12⟩ := and_e hn
  obtain ⟨g13, g14⟩ := and_e g12
  obtain ⟨w0, w1, w2, w3, w4, rfl⟩ : ∃ w0 w1 w2 w3 w4 : Value, args = #[w0, w1, w2, w3, w4] := by
    have hs : args.size = 5 := by simpa [Cond.value, given_1] using g1
    obtain ⟨L⟩ := args
    match L, hs with
    | [w0, w1, w2, w3, w4], _ => exact ⟨w0, w1, w2, w3, w4, rfl⟩
  have hw := fun d (hd : d ∈ tables_1) => atoms_spec (ws := Jvm.Cond.code x code maxLocals ret :: tables_1) hat d (List.mem_cons_of_mem _ hd)
  have hfit : Fit s := fun {y c} hc i hi => by
    obtain ⟨ha, rfl⟩ := Array.getElem?_eq_some_iff.mp hc
    have q := List.all_eq_true.mp ((Array.all_eq_true_iff_forall_mem.mp hF) _ (Array.getElem_mem ha)) i (List.mem_range.mpr hi)
    simpa [Array.getElem?_eq_getElem hi] using q
  obtain ⟨i0, ei0⟩ := is_v g3
  obtain rfl : w0 = (.int i0) := Option.some.inj ei0
  obtain ⟨i1, ei1⟩ := is_v g5
  obtain rfl : w1 = (.int i1) := Option.some.inj ei1
  obtain ⟨i2, ei2⟩ := is_v g7
  obtain rfl : w2 = (.int i2) := Option.some.inj ei2
  obtain ⟨i3, ei3⟩ := is_v g9
  obtain rfl : w3 = (.int i3) := Option.some.inj ei3
  obtain ⟨i4, ei4⟩ := is_v g10
  obtain rfl : w4 = (.int i4) := Option.some.inj ei4
  obtain ⟨na, evN⟩ := exa_v g11
  have SN := Sta.start evN (Or.inr ⟨(W.ww hw 14 rfl), (W.ww hw 15 rfl)⟩)
  have EN := Exa.start evN g11
  obtain ⟨lv, evL⟩ := arr_v g13
  obtain ⟨cl, AL⟩ := Arr.start evL g13
  have FN : Fld s s.heap na "com/example/nomina/nomina/tableau/Dependencies" "levels" "[I" (.ref lv) := Fld.start ((fld_at evN).symm.trans evL)
  obtain ⟨szV, lnV⟩ := W.lenAt AL evL g14
  have VN : Arv s s.heap lv cl.cls .int (0 : Int32) cl.slots.toList (.int (0 : Int32)) := W.arvOf hfit AL szV lnV (by decide)
  obtain ⟨n, o, h1, h2, h3, _, L, rfl, ⟨rfl, N⟩, hq⟩ := rm0 l s _ hw tables_1 i0 i1 i2 i3 i4 na lv cl.cls cl.slots.toList s.heap s.heap.size (Nat.le_refl _) (Old.start s) SN EN FN VN p e ha hc hk s m _ below hf ((Spec.applies_iff_loose hf).mp happ).1 ⟨rfl, State.Warmed39.refl s, rfl⟩ trivial
  refine ⟨n, _, h1, h2, h3, hpost _ _ _ _ _ _ ⟨Cond.after_iff.mpr rfl, Cond.after_iff.mpr (eq_i res_at (Term.int_eval (1)) rfl), trivial⟩ ⟨hq.1, hq.2.1, (hq.2.2.sift fun y hy => Or.inr (N y hy)).mono (by decide) (by decide)⟩⟩
theorem main_1_1 : Claimed_1_1 := comes_1 fun _ _ _ _ _ _ h hF => ⟨h.1, hF⟩
theorem main_1_2 : Claimed_1_2 := comes_1 fun _ _ _ _ _ _ h hF => ⟨h.2.1, hF⟩
end Jvm.Pilot.@@N@@
namespace Jvm.Pilot.@@N@@
open Jvm Jvm.ClassFile Sem Op Lib Jvm.Free Jvm.Stand Jvm.Pilot.@@N@@.Jvm.D
/-! MADE BY PROGRAM (witnessworld.py) out of the Statement's table words and the real class files: 10 classes; the members and pool entries that the words name. The judged class is class 1, her method 1. -/
namespace start1
open Jvm.ClassFile
def u (s : String) : CpInfo := .utf8 (stringToUtf16 s)
/-- a pool by its gaps: so many unusable entries, then the entry; so many at the end -/
def gap : Nat → List CpInfo → List CpInfo
  | 0, r => r
  | n + 1, r => .unusable :: gap n r
def poolList (es : List (Nat × CpInfo)) (last : Nat) : List CpInfo := es.foldr (fun e r => gap e.1 (e.2 :: r)) (gap last [])
def pool (es : List (Nat × CpInfo)) (last : Nat) : Array CpInfo := ⟨poolList es last⟩
def fileOf (pool : Array CpInfo) (this : Nat) (attrs : Array Attribute := #[]) (ms : Array MethodInfo := #[]) (fl : Nat := 33) (sup : Nat := 0) (ifs : Array Nat := #[]) (fds : Array FieldInfo := #[]) : ClassFile where
  minorVersion := 0
  majorVersion := 65
  constantPool := pool
  accessFlags := fl
  thisClass := this
  superClass := sup
  interfaces := ifs
  fields := fds
  methods := ms
  attributes := attrs
def plain (name : String) (sup : Option ClassId) : Class where
  name := name
  kind := .ordinary
  loader := none
  accessFlags := 33
  super := sup
  interfaces := #[]
  cf := none
  fields := #[]
  methods := #[]
  instanceTypes := #[]
  staticTypes := #[]
  resolved := #[]
  callSites := []
  init := .initialized
  statics := none
  mirror := none

def pool0 : Array CpInfo := pool [(5, u "<init>"), (0, u "()V"), (1, .class_ 10), (1, u "java/lang/Object")] 113

def k0c0 : Code := { maxStack := 0, maxLocals := 1, code := object_method_1_code, exceptionTable := #[], attributes := #[] }
def k0m0 : Method := { name := "<init>", desc := "()V", sig := { parameters := [], returnType := none }, accessFlags := 1, code := some k0c0 }
/-- java/lang/Object -/
def k0 : Class := { plain "java/lang/Object" none with
  accessFlags := 33
  interfaces := #[]
  cf := some (fileOf pool0 8 #[] #[{ accessFlags := 1, nameIndex := 5, descriptorIndex := 6, attributes := #[] }] 33 0 #[] #[])
  fields := #[]
  methods := #[k0m0]
  instanceTypes := #[]
  staticTypes := #[]
  resolved := Array.replicate 124 none
  statics := none }

def pool1 : Array CpInfo := pool [(2, .class_ 4), (0, .nameAndType 5 6), (0, u "java/lang/Object"), (0, u "<init>"), (0, u "()V"), (0, .integer 2147483647), (0, .class_ 9), (0, u "com/example/nomina/nomina/tableau/IntSet"), (0, .methodref 8 3), (0, .fieldref 12 13), (0, .class_ 14), (0, .nameAndType 15 16), (0, u "com/example/nomina/nomina/tableau/Dependencies"), (0, u "NONE"), (0, u "Lcom/example/nomina/nomina/tableau/Dependencies;"), (0, .methodref 8 18), (0, .nameAndType 19 20), (0, u "add"), (0, u "(ILcom/example/nomina/nomina/tableau/Dependencies;)Z"), (0, .methodref 8 22), (0, .nameAndType 23 24), (0, u "remove"), (0, u "(I)V"), (0, .methodref 8 26), (0, .nameAndType 27 28), (0, u "toArray"), (0, u "()[I"), (0, .methodref 30 31), (0, .class_ 32), (0, .nameAndType 33 34), (0, u "com/example/nomina/nomina/tableau/IntSetToArrayPinLaw"), (0, u "present"), (0, u "(IIIIZI)Z"), (2, u "law"), (0, u "(IIIII)Z")] 5

def k1m0 : Method := { name := "<init>", desc := "()V", sig := { parameters := [], returnType := none }, accessFlags := 1, code := none }
def k1c1 : Code := { maxStack := 6, maxLocals := 16, code := code, exceptionTable := #[], attributes := #[] }
def k1m1 : Method := { name := "law", desc := "(IIIII)Z", sig := { parameters := [.int, .int, .int, .int, .int], returnType := some .boolean }, accessFlags := 9, code := some k1c1 }
def k1c2 : Code := { maxStack := 2, maxLocals := 6, code := method_3_code, exceptionTable := #[], attributes := #[] }
def k1m2 : Method := { name := "present", desc := "(IIIIZI)Z", sig := { parameters := [.int, .int, .int, .int, .boolean, .int], returnType := some .boolean }, accessFlags := 10, code := some k1c2 }
/-- com/example/nomina/nomina/tableau/IntSetToArrayPinLaw -/
def k1 : Class := { plain "com/example/nomina/nomina/tableau/IntSetToArrayPinLaw" (some 0) with
  accessFlags := 49
  interfaces := #[]
  cf := some (fileOf pool1 30 #[] #[{ accessFlags := 1, nameIndex := 5, descriptorIndex := 6, attributes := #[] }, { accessFlags := 9, nameIndex := 37, descriptorIndex := 38, attributes := #[] }, { accessFlags := 10, nameIndex := 33, descriptorIndex := 34, attributes := #[] }] 49 2 #[] #[])
  fields := #[]
  methods := #[k1m0, k1m1, k1m2]
  instanceTypes := #[]
  staticTypes := #[]
  resolved := Array.replicate 44 none
  statics := none }

def pool2 : Array CpInfo := pool [(1, .methodref 2 3), (0, .class_ 4), (0, .nameAndType 5 6), (0, u "java/lang/Object"), (0, u "<init>"), (0, u "()V"), (0, .fieldref 8 9), (0, .class_ 10), (0, .nameAndType 11 12), (0, u "com/example/nomina/nomina/tableau/IntSet"), (0, u "slots"), (0, u "[I"), (0, .fieldref 8 14), (0, .nameAndType 15 16), (0, u "size"), (0, u "I"), (0, .methodref 8 18), (0, .nameAndType 19 20), (0, u "growTo"), (0, u "(I)V"), (0, .methodref 8 22), (0, .nameAndType 23 24), (0, u "find"), (0, u "([II)I"), (0, .fieldref 8 26), (0, .nameAndType 27 16), (0, u "contentHash"), (0, .methodref 8 29), (0, .nameAndType 30 31), (0, u "mix"), (0, u "(I)I"), (0, .methodref 33 34), (0, .class_ 35), (0, .nameAndType 36 37), (0, u "com/example/nomina/nomina/tableau/Dependencies"), (0, u "isEmpty"), (0, u "()Z"), (0, .fieldref 8 39), (0, .nameAndType 40 41), (0, u "dependencies"), (0, u "[Lcom/example/nomina/nomina/tableau/Dependencies;"), (0, .methodref 8 43), (0, .nameAndType 44 20), (0, u "clear"), (0, .methodref 8 46), (0, .nameAndType 47 48), (0, u "home"), (0, u "(II)I"), (20, .integer 2654435769), (0, .integer 2246822507), (0, .integer 3266489909), (2, u "add"), (0, u "(ILcom/example/nomina/nomina/tableau/Dependencies;)Z"), (2, u "remove"), (6, u "toArray"), (0, u "()[I")] 9

def k2c0 : Code := { maxStack := 2, maxLocals := 1, code := prog_88_method_1_code, exceptionTable := #[], attributes := #[] }
def k2m0 : Method := { name := "<init>", desc := "()V", sig := { parameters := [], returnType := none }, accessFlags := 0, code := some k2c0 }
def k2c1 : Code := { maxStack := 4, maxLocals := 4, code := prog_88_method_2_code, exceptionTable := #[], attributes := #[] }
def k2m1 : Method := { name := "add", desc := "(ILcom/example/nomina/nomina/tableau/Dependencies;)Z", sig := { parameters := [.int, (.object "com/example/nomina/nomina/tableau/Dependencies")], returnType := some .boolean }, accessFlags := 0, code := some k2c1 }
def k2c2 : Code := { maxStack := 4, maxLocals := 6, code := prog_88_method_4_code, exceptionTable := #[], attributes := #[] }
def k2m2 : Method := { name := "remove", desc := "(I)V", sig := { parameters := [.int], returnType := none }, accessFlags := 0, code := some k2c2 }
def k2c3 : Code := { maxStack := 4, maxLocals := 7, code := prog_88_method_11_code, exceptionTable := #[], attributes := #[] }
def k2m3 : Method := { name := "toArray", desc := "()[I", sig := { parameters := [], returnType := some (.array .int) }, accessFlags := 0, code := some k2c3 }
def k2c4 : Code := { maxStack := 4, maxLocals := 6, code := prog_88_method_15_code, exceptionTable := #[], attributes := #[] }
def k2m4 : Method := { name := "growTo", desc := "(I)V", sig := { parameters := [.int], returnType := none }, accessFlags := 2, code := some k2c4 }
def k2c5 : Code := { maxStack := 3, maxLocals := 2, code := prog_88_method_16_code, exceptionTable := #[], attributes := #[] }
def k2m5 : Method := { name := "clear", desc := "(I)V", sig := { parameters := [.int], returnType := none }, accessFlags := 2, code := some k2c5 }
def k2c6 : Code := { maxStack := 3, maxLocals := 4, code := prog_88_method_17_code, exceptionTable := #[], attributes := #[] }
def k2m6 : Method := { name := "find", desc := "([II)I", sig := { parameters := [(.array .int), .int], returnType := some .int }, accessFlags := 10, code := some k2c6 }
def k2c7 : Code := { maxStack := 3, maxLocals := 3, code := prog_88_method_18_code, exceptionTable := #[], attributes := #[] }
def k2m7 : Method := { name := "home", desc := "(II)I", sig := { parameters := [.int, .int], returnType := some .int }, accessFlags := 10, code := some k2c7 }
def k2c8 : Code := { maxStack := 3, maxLocals := 2, code := prog_88_method_19_code, exceptionTable := #[], attributes := #[] }
def k2m8 : Method := { name := "mix", desc := "(I)I", sig := { parameters := [.int], returnType := some .int }, accessFlags := 10, code := some k2c8 }
/-- com/example/nomina/nomina/tableau/IntSet -/
def k2 : Class := { plain "com/example/nomina/nomina/tableau/IntSet" (some 0) with
  accessFlags := 48
  interfaces := #[]
  cf := some (fileOf pool2 8 #[] #[{ accessFlags := 0, nameIndex := 5, descriptorIndex := 6, attributes := #[] }, { accessFlags := 0, nameIndex := 74, descriptorIndex := 75, attributes := #[] }, { accessFlags := 0, nameIndex := 78, descriptorIndex := 20, attributes := #[] }, { accessFlags := 0, nameIndex := 85, descriptorIndex := 86, attributes := #[] }, { accessFlags := 2, nameIndex := 19, descriptorIndex := 20, attributes := #[] }, { accessFlags := 2, nameIndex := 44, descriptorIndex := 20, attributes := #[] }, { accessFlags := 10, nameIndex := 23, descriptorIndex := 24, attributes := #[] }, { accessFlags := 10, nameIndex := 47, descriptorIndex := 48, attributes := #[] }, { accessFlags := 10, nameIndex := 30, descriptorIndex := 31, attributes := #[] }] 48 2 #[] #[{ accessFlags := 2, nameIndex := 11, descriptorIndex := 12, attributes := #[] }, { accessFlags := 2, nameIndex := 40, descriptorIndex := 41, attributes := #[] }, { accessFlags := 2, nameIndex := 15, descriptorIndex := 16, attributes := #[] }, { accessFlags := 2, nameIndex := 27, descriptorIndex := 16, attributes := #[] }])
  fields := #[{ name := "slots", type := (.array .int), accessFlags := 2, slot := 0, constantValue := 0 }, { name := "dependencies", type := (.array (.object "com/example/nomina/nomina/tableau/Dependencies")), accessFlags := 2, slot := 1, constantValue := 0 }, { name := "size", type := .int, accessFlags := 2, slot := 2, constantValue := 0 }, { name := "contentHash", type := .int, accessFlags := 2, slot := 3, constantValue := 0 }]
  methods := #[k2m0, k2m1, k2m2, k2m3, k2m4, k2m5, k2m6, k2m7, k2m8]
  instanceTypes := #[(.array .int), (.array (.object "com/example/nomina/nomina/tableau/Dependencies")), .int, .int]
  staticTypes := #[]
  resolved := Array.replicate 96 none
  statics := none }

def pool3 : Array CpInfo := pool [(2, .class_ 4), (1, u "java/lang/Object"), (2, .fieldref 8 9), (0, .class_ 10), (0, .nameAndType 11 12), (0, u "com/example/nomina/nomina/tableau/Dependencies"), (0, u "levels"), (0, u "[I"), (18, u "NONE"), (0, u "Lcom/example/nomina/nomina/tableau/Dependencies;"), (4, u "isEmpty"), (0, u "()Z")] 10

def k3c0 : Code := { maxStack := 1, maxLocals := 1, code := prog_79_method_3_code, exceptionTable := #[], attributes := #[] }
def k3m0 : Method := { name := "isEmpty", desc := "()Z", sig := { parameters := [], returnType := some .boolean }, accessFlags := 0, code := some k3c0 }
/-- com/example/nomina/nomina/tableau/Dependencies -/
def k3 : Class := { plain "com/example/nomina/nomina/tableau/Dependencies" (some 0) with
  accessFlags := 48
  interfaces := #[]
  cf := some (fileOf pool3 8 #[] #[{ accessFlags := 0, nameIndex := 37, descriptorIndex := 38, attributes := #[] }] 48 2 #[] #[{ accessFlags := 24, nameIndex := 31, descriptorIndex := 32, attributes := #[] }, { accessFlags := 18, nameIndex := 11, descriptorIndex := 12, attributes := #[] }])
  fields := #[{ name := "NONE", type := (.object "com/example/nomina/nomina/tableau/Dependencies"), accessFlags := 24, slot := 0, constantValue := 0 }, { name := "levels", type := (.array .int), accessFlags := 18, slot := 0, constantValue := 0 }]
  methods := #[k3m0]
  instanceTypes := #[(.array .int)]
  staticTypes := #[(.object "com/example/nomina/nomina/tableau/Dependencies")]
  resolved := Array.replicate 49 none
  statics := some 0 }

def pool4 : Array CpInfo := pool [(1, u "java/lang/Cloneable"), (0, .class_ 1), (0, u "java/lang/Object"), (0, .class_ 3)] 3

/-- java/lang/Cloneable -/
def k4 : Class := { plain "java/lang/Cloneable" (some 0) with
  accessFlags := 1537
  interfaces := #[]
  cf := some (fileOf pool4 2 #[] #[] 1537 4 #[] #[])
  fields := #[]
  methods := #[]
  instanceTypes := #[]
  staticTypes := #[]
  resolved := Array.replicate 8 none
  statics := none }

def pool5 : Array CpInfo := pool [(1, u "java/io/Serializable"), (0, .class_ 1), (0, u "java/lang/Object"), (0, .class_ 3)] 3

/-- java/io/Serializable -/
def k5 : Class := { plain "java/io/Serializable" (some 0) with
  accessFlags := 1537
  interfaces := #[]
  cf := some (fileOf pool5 2 #[] #[] 1537 4 #[] #[])
  fields := #[]
  methods := #[]
  instanceTypes := #[]
  staticTypes := #[]
  resolved := Array.replicate 8 none
  statics := none }

/-- the primitive byte -/
def k6 : Class := { plain "byte" none with kind := .primitive 'B', accessFlags := 0x411 }
/-- [B -/
def k7 : Class := { plain "[B" (some 0) with kind := .array 6 .byte, interfaces := #[4, 5], accessFlags := 1041 }

/-- the primitive int -/
def k8 : Class := { plain "int" none with kind := .primitive 'I', accessFlags := 0x411 }
/-- [I -/
def k9 : Class := { plain "[I" (some 0) with kind := .array 8 .int, interfaces := #[4, 5], accessFlags := 1041 }

def heap : Heap := #[{ cls := 3, slots := #[.ref 2], vm := .statics 3 },
  { cls := 9, slots := #[], vm := .none },
  { cls := 3, slots := #[.ref 1], vm := .none }]
def classes : Array Class := #[k0, k1, k2, k3, k4, k5, k6, k7, k8, k9]
def interned : List (Array UInt16 × Addr) := []
def slotsUsed : Nat := 2
def theMethod : MethodId := ⟨1, 1⟩
def args0 : Array Value := #[.int 5, .int 6, .int 7, .int 8, .int 9]
def aboutOver (below : List Frame) : State where
  vm := { classes := classes, interned := interned.toArray }
  heap := heap
  slotsUsed := slotsUsed
  threads := #[{ frames := .invoking theMethod args0 :: below }]
def below0 : List Frame := [.native { method := ⟨0, 0⟩, args := #[] }]
def about1 : State := aboutOver below0
def p0 : Program := .bare "" "" ""
def e0 : Env := launch0.env 0 0 0
theorem w_frames : about1.frames = Frame.invoking theMethod args0 :: below0 := rfl
set_option maxRecDepth 65536 in
theorem w_args : argsFit about1.vm theMethod args0 = true := by decide +kernel
set_option maxRecDepth 65536 in
theorem w_heap : heapFits about1 = true := by decide +kernel
set_option maxRecDepth 65536 in
theorem w_runnable : about1.curStatus? = some .runnable := by decide +kernel
set_option maxRecDepth 65536 in
theorem w_alone : about1.alone = true := by decide +kernel
set_option maxRecDepth 65536 in
theorem w_named : about1.methodNamed? x = some theMethod := by decide +kernel
set_option maxRecDepth 65536 in
theorem w_hears : about1.hears theMethod below0 = true := by decide +kernel
set_option maxRecDepth 65536 in
theorem w_ripe : about1.ripe theMethod args0 below0 = true := by decide +kernel
theorem w_running : about1.status = .running := rfl
set_option maxRecDepth 65536 in
theorem w_room : about1.hasRoom e0.platform room_1 = true :=
  launch0.hasRoom_least _ room_1 (by decide +kernel) (by decide +kernel) (by decide +kernel) (by decide +kernel) (by decide +kernel) (by decide +kernel)
theorem allAtoms_all (ts : List Jvm.Cond) (a : Array Jvm.Value) (st : Jvm.State) : (allAtoms ts).before a st = ts.all (fun c => c.before a st) := by
  induction ts with
  | nil => rfl
  | cons c t ih =>
    show (Jvm.Cond.and c (allAtoms t)).before a st = _
    rw [Jvm.Cond.before_and, ih, List.all_cons]
def words1 : List Jvm.Cond := Jvm.Cond.code x code maxLocals ret :: tables_1
/-- a 'code' word, met by the world's own term for the bytes: nothing is compared byte by byte -/
theorem code_word {y : MethodName} {bytes : ByteArray} {mx : Nat} {rt : Option FieldType} {a : Array Value} {s : State} {m : MethodId} {meth : Method} {c : Code} (h1 : s.methodNamed? y = some m) (h2 : s.vm.method? m = some meth) (h3 : meth.code = some c) (h4 : c.code = bytes)
    (h5 : (c.maxLocals == mx && c.exceptionTable.isEmpty && decide (c.maxStack ≤ mostOperands) && decide (meth.sig.returnType = rt) && !meth.locks && decide (parseMethodDescriptor y.desc = some meth.sig)) = true) : (Jvm.Cond.code y bytes mx rt).before a s = true := by
  simp only [Bool.and_eq_true, beq_iff_eq, Bool.not_eq_true', decide_eq_true_eq] at h5
  obtain ⟨⟨⟨⟨⟨g1, g2⟩, g3⟩, g4⟩, g5⟩, g6⟩ := h5
  simp [Cond.before, Cond.holds, Cond.value, h1, h2, h3, h4, g1, g2, g3, g4, g5, g6]
def isCode : Jvm.Cond → Bool
  | .code _ _ _ _ => true
  | _ => false
theorem all_split {L : List Jvm.Cond} {P : Jvm.Cond → Bool} (h1 : L.all (fun c => isCode c || P c) = true) (h2 : ∀ c ∈ L.filter isCode, P c = true) : L.all P = true := by
  refine List.all_eq_true.mpr fun c hc => ?_
  have h := List.all_eq_true.mp h1 c hc
  rcases Bool.eq_false_or_eq_true (isCode c) with hi | hi
  · exact h2 c (List.mem_filter.mpr ⟨hc, hi⟩)
  · simpa [hi] using h
set_option maxRecDepth 65536 in
theorem w_c0 : (Jvm.Cond.code x code maxLocals ret).before args0 about1 = true := code_word (m := ⟨1, 1⟩) (meth := k1m1) (c := k1c1) (by decide +kernel) rfl rfl rfl (by decide +kernel)
set_option maxRecDepth 65536 in
theorem w_c1 : (Jvm.Cond.code ({ cls := "com/example/nomina/nomina/tableau/IntSet", name := "<init>", desc := "()V" } : Jvm.MethodName) prog_88_method_1_code (1 : Nat) (Option.none : Option Jvm.ClassFile.FieldType)).before args0 about1 = true := code_word (m := ⟨2, 0⟩) (meth := k2m0) (c := k2c0) (by decide +kernel) rfl rfl rfl (by decide +kernel)
set_option maxRecDepth 65536 in
theorem w_c2 : (Jvm.Cond.code ({ cls := "java/lang/Object", name := "<init>", desc := "()V" } : Jvm.MethodName) object_method_1_code (1 : Nat) (Option.none : Option Jvm.ClassFile.FieldType)).before args0 about1 = true := code_word (m := ⟨0, 0⟩) (meth := k0m0) (c := k0c0) (by decide +kernel) rfl rfl rfl (by decide +kernel)
set_option maxRecDepth 65536 in
theorem w_c3 : (Jvm.Cond.code ({ cls := "com/example/nomina/nomina/tableau/IntSet", name := "add", desc := "(ILcom/example/nomina/nomina/tableau/Dependencies;)Z" } : Jvm.MethodName) prog_88_method_2_code (4 : Nat) (Option.some Jvm.ClassFile.FieldType.boolean)).before args0 about1 = true := code_word (m := ⟨2, 1⟩) (meth := k2m1) (c := k2c1) (by decide +kernel) rfl rfl rfl (by decide +kernel)
set_option maxRecDepth 65536 in
theorem w_c4 : (Jvm.Cond.code ({ cls := "com/example/nomina/nomina/tableau/IntSet", name := "find", desc := "([II)I" } : Jvm.MethodName) prog_88_method_17_code (4 : Nat) (Option.some Jvm.ClassFile.FieldType.int)).before args0 about1 = true := code_word (m := ⟨2, 6⟩) (meth := k2m6) (c := k2c6) (by decide +kernel) rfl rfl rfl (by decide +kernel)
set_option maxRecDepth 65536 in
theorem w_c5 : (Jvm.Cond.code ({ cls := "com/example/nomina/nomina/tableau/IntSet", name := "home", desc := "(II)I" } : Jvm.MethodName) prog_88_method_18_code (3 : Nat) (Option.some Jvm.ClassFile.FieldType.int)).before args0 about1 = true := code_word (m := ⟨2, 7⟩) (meth := k2m7) (c := k2c7) (by decide +kernel) rfl rfl rfl (by decide +kernel)
set_option maxRecDepth 65536 in
theorem w_c6 : (Jvm.Cond.code ({ cls := "com/example/nomina/nomina/tableau/IntSet", name := "mix", desc := "(I)I" } : Jvm.MethodName) prog_88_method_19_code (2 : Nat) (Option.some Jvm.ClassFile.FieldType.int)).before args0 about1 = true := code_word (m := ⟨2, 8⟩) (meth := k2m8) (c := k2c8) (by decide +kernel) rfl rfl rfl (by decide +kernel)
set_option maxRecDepth 65536 in
theorem w_c7 : (Jvm.Cond.code ({ cls := "com/example/nomina/nomina/tableau/Dependencies", name := "isEmpty", desc := "()Z" } : Jvm.MethodName) prog_79_method_3_code (1 : Nat) (Option.some Jvm.ClassFile.FieldType.boolean)).before args0 about1 = true := code_word (m := ⟨3, 0⟩) (meth := k3m0) (c := k3c0) (by decide +kernel) rfl rfl rfl (by decide +kernel)
set_option maxRecDepth 65536 in
theorem w_c8 : (Jvm.Cond.code ({ cls := "com/example/nomina/nomina/tableau/IntSet", name := "growTo", desc := "(I)V" } : Jvm.MethodName) prog_88_method_15_code (6 : Nat) (Option.none : Option Jvm.ClassFile.FieldType)).before args0 about1 = true := code_word (m := ⟨2, 4⟩) (meth := k2m4) (c := k2c4) (by decide +kernel) rfl rfl rfl (by decide +kernel)
set_option maxRecDepth 65536 in
theorem w_c9 : (Jvm.Cond.code ({ cls := "com/example/nomina/nomina/tableau/IntSet", name := "toArray", desc := "()[I" } : Jvm.MethodName) prog_88_method_11_code (7 : Nat) (Option.some (Jvm.ClassFile.FieldType.array Jvm.ClassFile.FieldType.int))).before args0 about1 = true := code_word (m := ⟨2, 3⟩) (meth := k2m3) (c := k2c3) (by decide +kernel) rfl rfl rfl (by decide +kernel)
set_option maxRecDepth 65536 in
theorem w_c10 : (Jvm.Cond.code ({ cls := "com/example/nomina/nomina/tableau/IntSetToArrayPinLaw", name := "present", desc := "(IIIIZI)Z" } : Jvm.MethodName) method_3_code (6 : Nat) (Option.some Jvm.ClassFile.FieldType.boolean)).before args0 about1 = true := code_word (m := ⟨1, 2⟩) (meth := k1m2) (c := k1c2) (by decide +kernel) rfl rfl rfl (by decide +kernel)
set_option maxRecDepth 65536 in
theorem w_c11 : (Jvm.Cond.code ({ cls := "com/example/nomina/nomina/tableau/IntSet", name := "remove", desc := "(I)V" } : Jvm.MethodName) prog_88_method_4_code (6 : Nat) (Option.none : Option Jvm.ClassFile.FieldType)).before args0 about1 = true := code_word (m := ⟨2, 2⟩) (meth := k2m2) (c := k2c2) (by decide +kernel) rfl rfl rfl (by decide +kernel)
set_option maxRecDepth 65536 in
theorem w_c12 : (Jvm.Cond.code ({ cls := "com/example/nomina/nomina/tableau/IntSet", name := "clear", desc := "(I)V" } : Jvm.MethodName) prog_88_method_16_code (2 : Nat) (Option.none : Option Jvm.ClassFile.FieldType)).before args0 about1 = true := code_word (m := ⟨2, 5⟩) (meth := k2m5) (c := k2c5) (by decide +kernel) rfl rfl rfl (by decide +kernel)
def codes1 : List Jvm.Cond := [Jvm.Cond.code x code maxLocals ret, Jvm.Cond.code ({ cls := "com/example/nomina/nomina/tableau/IntSet", name := "<init>", desc := "()V" } : Jvm.MethodName) prog_88_method_1_code (1 : Nat) (Option.none : Option Jvm.ClassFile.FieldType), Jvm.Cond.code ({ cls := "java/lang/Object", name := "<init>", desc := "()V" } : Jvm.MethodName) object_method_1_code (1 : Nat) (Option.none : Option Jvm.ClassFile.FieldType), Jvm.Cond.code ({ cls := "com/example/nomina/nomina/tableau/IntSet", name := "add", desc := "(ILcom/example/nomina/nomina/tableau/Dependencies;)Z" } : Jvm.MethodName) prog_88_method_2_code (4 : Nat) (Option.some Jvm.ClassFile.FieldType.boolean), Jvm.Cond.code ({ cls := "com/example/nomina/nomina/tableau/IntSet", name := "find", desc := "([II)I" } : Jvm.MethodName) prog_88_method_17_code (4 : Nat) (Option.some Jvm.ClassFile.FieldType.int), Jvm.Cond.code ({ cls := "com/example/nomina/nomina/tableau/IntSet", name := "home", desc := "(II)I" } : Jvm.MethodName) prog_88_method_18_code (3 : Nat) (Option.some Jvm.ClassFile.FieldType.int), Jvm.Cond.code ({ cls := "com/example/nomina/nomina/tableau/IntSet", name := "mix", desc := "(I)I" } : Jvm.MethodName) prog_88_method_19_code (2 : Nat) (Option.some Jvm.ClassFile.FieldType.int), Jvm.Cond.code ({ cls := "com/example/nomina/nomina/tableau/Dependencies", name := "isEmpty", desc := "()Z" } : Jvm.MethodName) prog_79_method_3_code (1 : Nat) (Option.some Jvm.ClassFile.FieldType.boolean), Jvm.Cond.code ({ cls := "com/example/nomina/nomina/tableau/IntSet", name := "growTo", desc := "(I)V" } : Jvm.MethodName) prog_88_method_15_code (6 : Nat) (Option.none : Option Jvm.ClassFile.FieldType), Jvm.Cond.code ({ cls := "com/example/nomina/nomina/tableau/IntSet", name := "toArray", desc := "()[I" } : Jvm.MethodName) prog_88_method_11_code (7 : Nat) (Option.some (Jvm.ClassFile.FieldType.array Jvm.ClassFile.FieldType.int)), Jvm.Cond.code ({ cls := "com/example/nomina/nomina/tableau/IntSetToArrayPinLaw", name := "present", desc := "(IIIIZI)Z" } : Jvm.MethodName) method_3_code (6 : Nat) (Option.some Jvm.ClassFile.FieldType.boolean), Jvm.Cond.code ({ cls := "com/example/nomina/nomina/tableau/IntSet", name := "remove", desc := "(I)V" } : Jvm.MethodName) prog_88_method_4_code (6 : Nat) (Option.none : Option Jvm.ClassFile.FieldType), Jvm.Cond.code ({ cls := "com/example/nomina/nomina/tableau/IntSet", name := "clear", desc := "(I)V" } : Jvm.MethodName) prog_88_method_16_code (2 : Nat) (Option.none : Option Jvm.ClassFile.FieldType)]
set_option maxRecDepth 65536 in
theorem codes_eq : words1.filter isCode = codes1 := rfl
theorem w_codes : ∀ c ∈ words1.filter isCode, c.before args0 about1 = true := by
  rw [codes_eq]
  intro c hc
  simp only [codes1, List.mem_cons, List.not_mem_nil, or_false] at hc
  rcases hc with rfl | rfl | rfl | rfl | rfl | rfl | rfl | rfl | rfl | rfl | rfl | rfl | rfl
  · exact w_c0
  · exact w_c1
  · exact w_c2
  · exact w_c3
  · exact w_c4
  · exact w_c5
  · exact w_c6
  · exact w_c7
  · exact w_c8
  · exact w_c9
  · exact w_c10
  · exact w_c11
  · exact w_c12
set_option maxRecDepth 65536 in
theorem w_t1 : (words1.take 24).all (fun c => isCode c || c.before args0 about1) = true := by decide +kernel
set_option maxRecDepth 65536 in
theorem w_t2 : ((words1.drop 24).take 24).all (fun c => isCode c || c.before args0 about1) = true := by decide +kernel
set_option maxRecDepth 65536 in
theorem w_t3 : ((words1.drop 24).drop 24).all (fun c => isCode c || c.before args0 about1) = true := by decide +kernel
theorem w_tables : (allAtoms (Jvm.Cond.code x code maxLocals ret :: tables_1)).before args0 about1 = true := by
  rw [allAtoms_all]
  show words1.all (fun c => c.before args0 about1) = true
  refine all_split ?_ w_codes
  rw [← List.take_append_drop 24 words1, List.all_append, w_t1, ← List.take_append_drop 24 (words1.drop 24), List.all_append, w_t2, w_t3]
  rfl
set_option maxRecDepth 65536 in
theorem w_case : (Jvm.Cond.and given_1 narrow_1).before args0 about1 = true := by decide +kernel
theorem w_applies : (headSpec (Jvm.Cond.code x code maxLocals ret :: tables_1) room_1).applies x e0.platform about1 = true :=
  (Spec.applies_iff w_frames).mpr ⟨w_running, w_runnable, w_alone, w_named, w_hears, w_ripe, w_room, w_tables⟩
theorem atStart : AtStart classFile x code maxLocals ret World_1 tables_1 room_1 Calls_1 rest_1 Pre_1 launch0 p0 e0 about1 theMethod args0 below0 :=
  ⟨lists_1, trivial, launch0.admits_env _ _ _, launch0.least_env, fairChoices_fair.cas, fairChoices_fair.clock, w_frames, w_args, w_heap, w_applies, trivial, trivial, w_case⟩
end start1
theorem witness_1 : WitnessClaimed_1 := ⟨start1.p0, start1.e0, start1.about1, start1.theMethod, start1.args0, start1.below0, start1.atStart⟩
end Jvm.Pilot.@@N@@
