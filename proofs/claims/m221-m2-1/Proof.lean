import JvmDerived
import JvmDerived.Pilot.@@N@@Statement
import JvmDerived.Pilot.@@N@@Code
set_option linter.unusedVariables false
set_option linter.unusedSimpArgs false
namespace Jvm.Pilot.@@N@@
open Jvm Jvm.ClassFile Sem Op Lib Jvm.Free Jvm.Stand Jvm.LawKit Jvm.RoadKit Bundle Jvm.Pilot.@@N@@.Jvm.D
/-! OWN KIT: a walk in continuation form. Go F U: from U the run comes to an end of which F holds. -/
namespace W
def Go (p : Program) (e : Env) (below : List Frame) (F : Outcome → State → Prop) (U : State) : Prop :=
  ∃ s₂ o, Steps p.tables e below U s₂ ∧ s₂.status = .running ∧ Ended s₂ below o ∧ F o s₂
def Cx (p : Program) (s : State) (m : MethodId) (meth : Method) (c : Code) (Z : State) (bytes : ByteArray) (maxL : Nat) (own mname : String) (ret : Option FieldType) : Prop :=
  p.tables.exec = Jvm.exec ∧ Z.Warmed39 s.vm ∧ c.code = bytes ∧ c.maxLocals = maxL ∧ s.vm.findClass own = some m.cls ∧ meth.name = mname ∧ meth.sig.returnType = ret ∧ meth.locks = false
def Post (s : State) (Q : Option Value → Heap → List Loc → Prop) (k n : Nat) (o : Outcome) (U' : State) : Prop := ∃ v L, o = .returned v ∧ Q v U'.heap L ∧ FrameEnd s o U' L k n
theorem of {p : Program} {e : Env} {below : List Frame} {F : Outcome → State → Prop} {U U' : State} (h : ∀ t, Steps p.tables e below U' t → Steps p.tables e below U t) (k : Go p e below F U') : Go p e below F U := by
  obtain ⟨s₂, o, h1, h2⟩ := k
  exact ⟨s₂, o, h _ h1, h2⟩
theorem tr {p : Program} {e : Env} {below : List Frame} {F : Outcome → State → Prop} {U U' : State} (h : Steps p.tables e below U U') (k : Go p e below F U') : Go p e below F U := of (fun _ q => h.trans q) k
def cT : ClassFile.Cond → Int32 → Int32 → Prop
  | .eq, x, y => x = y
  | .ne, x, y => x ≠ y
  | .lt, x, y => x.toInt < y.toInt
  | .ge, x, y => y.toInt ≤ x.toInt
  | .gt, x, y => y.toInt < x.toInt
  | .le, x, y => x.toInt ≤ y.toInt
def cF : ClassFile.Cond → Int32 → Int32 → Prop
  | .eq, x, y => x ≠ y
  | .ne, x, y => x = y
  | .lt, x, y => y.toInt ≤ x.toInt
  | .ge, x, y => x.toInt < y.toInt
  | .gt, x, y => x.toInt ≤ y.toInt
  | .le, x, y => y.toInt < x.toInt
theorem holdsT {cd : ClassFile.Cond} {x y : Int32} (h : cT cd x y) : if_icmp.holds cd x y = true := by
  cases cd <;> simp only [cT] at h <;> simp [if_icmp.holds, h, Int32.lt_iff_toInt_lt, Int32.le_iff_toInt_le]
theorem holdsF {cd : ClassFile.Cond} {x y : Int32} (h : cF cd x y) : if_icmp.holds cd x y = false := by
  cases cd <;> simp only [cF] at h <;> simp [if_icmp.holds, h, Int32.lt_iff_toInt_lt, Int32.le_iff_toInt_le]
theorem cTF (cd : ClassFile.Cond) (x y : Int32) : cT cd x y ∨ cF cd x y := by
  cases cd <;> simp only [cT, cF] <;> first | omega | exact Decidable.em _ | exact (Decidable.em _).symm
theorem ww {a0 : Array Value} {Z : State} (hw : ∀ d ∈ tables_1, d.before a0 Z = true) (i : Nat) {d : Jvm.Cond} (h : tables_1[i]? = some d) : d.before a0 Z = true := hw _ (List.mem_of_getElem? h)
theorem small {P : Int32 → Prop} (K : Nat) (hK : ∀ i : Fin (K + 1), P (Int32.ofInt (i.1 : Int))) (k : Int32) (h1 : 0 ≤ k.toInt) (h2 : k.toInt ≤ K) : P k := by
  have e : Int32.ofInt ((k.toInt.toNat : Nat) : Int) = k := by rw [Int.toNat_of_nonneg h1]; exact Int32.ofInt_toInt k
  have := hK ⟨k.toInt.toNat, by omega⟩
  rw [e] at this; exact this
theorem eqR {args : Array Value} {s : State} {a b : Term} {idx : List Nat} {y : Addr} (hb : b.eval args s none idx s = some (.ref y)) (h : (Jvm.Cond.eq a b).value args s none s idx = some true) : a.eval args s none idx s = some (.ref y) := by
  cases ha : a.eval args s none idx s with
  | none => simp [Cond.value, ha] at h
  | some x =>
    have hx : x.isRef = true := by cases x <;> simp [Cond.value, ha, hb, Value.isRef] at h ⊢
    have q := gotT (eq_R ha hb hx rfl) h
    rw [q]
theorem elemAt {args : Array Value} {s : State} {t a : Term} {x : Addr} {j : Int32} {v : Value} {cl : Cell} {ty : FieldType} (A : Arr s s.heap x cl ty) (ht : t.eval args s none [] s = some (.ref x)) (hj : a.eval args s none [] s = some (.int j)) (h : (Term.elem t a).eval args s none [] s = some v) : cl.slots[j.toNatClampNeg]? = some v := (elem_in h ht hj A.1).2
theorem lenAt {args : Array Value} {s : State} {t : Term} {x : Addr} {z : Int32} {cl : Cell} {ty : FieldType} (A : Arr s s.heap x cl ty) (ht : t.eval args s none [] s = some (.ref x)) (h : (Jvm.Cond.eq (.length t) (.int z)).value args s none s [] = some true) : cl.slots.size < 2 ^ 31 ∧ cl.slots.size.toInt32 = z := by
  have h6 := eqv_i (Term.int_eval z) h
  have ha := A.fin (Vm.Alike.refl _)
  have sz : cl.slots.size < 2 ^ 31 := by
    refine Decidable.byContradiction fun q => ?_
    simp [Term.eval, ht, ha, q] at h6
  refine ⟨sz, ?_⟩
  rw [len_f ht ha sz] at h6
  exact Value.int.inj (Option.some.inj h6)
theorem narZ {x : Int32} (h : x = 0 ∨ x = 1) : narrow .boolean (.int x) = .int x := by rcases h with rfl | rfl <;> rfl
theorem fitZ {x : Int32} (h : x = 0 ∨ x = 1) : fits .boolean (.int x) = true := by rcases h with rfl | rfl <;> rfl
theorem fieldInt {args : Array Value} {s : State} {t : Term} {Cn n d : String} {k : Int32} {a : Addr} (ht : t.eval args s none [] s = some (.ref a)) (h : (Jvm.Cond.eq (.field t Cn n d) (.int k)).value args s none s [] = some true) : Fld s s.heap a Cn n d (.int k) := by
  exact Fld.start ((fld_at ht).symm.trans (eqv_i (Term.int_eval k) h))
section
variable {p : Program} {l : Launch} {e : Env} {R : Room} {s : State} {m : MethodId} {args : Array Value} {below : List Frame} {meth : Method} {c : Code} {T : State} {locs : List Loc} {cells slots : Nat} {Z : State} {a0 : Array Value} {h h0 : Heap} {F : Outcome → State → Prop} {bytes : ByteArray} {maxL : Nat} {own mname : String} {ret : Option FieldType} {pc q : Nat} {Ls L' : Array Slot} {S rest : List Value}
theorem bodyOf {y : MethodName} {ws : List Jvm.Cond} {rm : Room} {as : Array Value} {Q : Option Value → Heap → List Loc → Prop} (hp : plainFor y = true) (hef : ∀ m, entryFrame m as maxL = mkF m 0 Ls [])
    (body : ∀ p e s m below meth c s₁, Cx p s m meth c Z bytes maxL y.cls y.name ret → Stand p l e rm s m as below meth c s₁ [] 0 0 → s₁.heap = h0 → Go p e below (Post s Q rm.cells rm.slots) (s₁.setTop (mkF m 0 Ls []))) :
    MetFree l y (head1 (Jvm.Cond.code y bytes maxL ret :: ws) rm) (fun a U => a = as ∧ Z.Warmed39 U.vm ∧ U.heap = h0) (fun _ _ _ _ _ => True) (fun _ U o U' => ∃ v L, o = .returned v ∧ Q v U'.heap L ∧ FrameEnd U o U' L rm.cells rm.slots) := by
  refine MetFree.of_bodySF hp hisR ?_
  intro p e s m args below meth c s₁ Bd hml0 hP hK
  obtain ⟨rfl, hZ, hh⟩ := hP
  obtain ⟨s₂, o, h1, h2⟩ := body p e s m below meth c s₁ ⟨Bd.exec, hZ, Bd.bytes, hml0, findClass_of_methodNamed Bd.named, (name_of_methodNamed Bd.named Bd.method).1, Bd.returns, Bd.notSynchronized⟩ (Stand.of_body Bd) (by rw [← hh, Bd.state]; rfl)
  exact ⟨s₂, o, castTop (hef m) h1, h2⟩
/-! returns -/
theorem retN (X : Stand p l e R s m args below meth c T locs cells slots) {t : FieldType} (C : Cx p s m meth c Z bytes maxL own mname (some t)) (ht : t = .boolean ∨ t = .byte ∨ t = .char ∨ t = .short) (eT : T.heap = h) {z z' : Int32} (hd : decode bytes pc = .ok (.ireturn, 1)) (hz : narrow t (.int z) = .int z') {k n : Nat} (hk : cells ≤ k) (hn : slots ≤ n) {Q : Option Value → Heap → List Loc → Prop} (hQ : Q (some (.int z')) h locs) :
    Go p e below (Post s Q k n) (T.setTop (mkF m pc Ls (.int z :: rest))) := by
  obtain ⟨hx, hZ, hby, hml, hown, hnm, hret, hlk⟩ := C
  obtain ⟨fs, hr, hrun, hended, hW, hsame⟩ := X.leave (v := some (.int z')) (fun h => by rw [hret] at h; cases h)
  refine ⟨_, _, ?_, hrun, hended, _, _, rfl, ?_, ⟨_, rfl⟩, hW, hsame.mono hk hn⟩
  · have hm' : T.vm.method? m = some meth := X.method'
    have hd' := hb hby hd
    rcases ht with rfl | rfl | rfl | rfl
    all_goals
      show Steps p.tables e below (T.setTop { method := m, pc := pc, locals := Ls, stack := _ :: rest, locked := none }) _
      jvm_step X.here [X.here.top, hx, hd', hm', hret, hz]
      first | (intro acts; rw [hr _ acts rfl rfl rfl]) | rw [hr _ _ rfl rfl rfl]
      exact Steps.refl _
  · show Q _ T.heap _
    rw [eT]; exact hQ
theorem retI (X : Stand p l e R s m args below meth c T locs cells slots) (C : Cx p s m meth c Z bytes maxL own mname (some .int)) (eT : T.heap = h) {z : Int32} (hd : decode bytes pc = .ok (.ireturn, 1)) {k n : Nat} (hk : cells ≤ k) (hn : slots ≤ n) {Q : Option Value → Heap → List Loc → Prop} (hQ : Q (some (.int z)) h locs) :
    Go p e below (Post s Q k n) (T.setTop (mkF m pc Ls (.int z :: rest))) := by
  obtain ⟨hx, hZ, hby, hml, hown, hnm, hret, hlk⟩ := C
  obtain ⟨fs, hr, hrun, hended, hW, hsame⟩ := X.leave (v := some (.int z)) (fun h => by rw [hret] at h; cases h)
  refine ⟨_, _, ?_, hrun, hended, _, _, rfl, ?_, ⟨_, rfl⟩, hW, hsame.mono hk hn⟩
  · have hm' : T.vm.method? m = some meth := X.method'
    have hd' := hb hby hd
    have hn : narrow .int (.int z) = .int z := rfl
    show Steps p.tables e below (T.setTop { method := m, pc := pc, locals := Ls, stack := _ :: rest, locked := none }) _
    jvm_step X.here [X.here.top, hx, hd', hm', hret, hn]
    first | (intro acts; rw [hr _ acts rfl rfl rfl]) | rw [hr _ _ rfl rfl rfl]
    exact Steps.refl _
  · show Q _ T.heap _
    rw [eT]; exact hQ
theorem retJ (X : Stand p l e R s m args below meth c T locs cells slots) (C : Cx p s m meth c Z bytes maxL own mname (some .long)) (eT : T.heap = h) {z : Int64} (hd : decode bytes pc = .ok (.lreturn, 1)) {k n : Nat} (hk : cells ≤ k) (hn : slots ≤ n) {Q : Option Value → Heap → List Loc → Prop} (hQ : Q (some (.long z)) h locs) :
    Go p e below (Post s Q k n) (T.setTop (mkF m pc Ls (.long z :: rest))) := by
  obtain ⟨hx, hZ, hby, hml, hown, hnm, hret, hlk⟩ := C
  obtain ⟨fs, hr, hrun, hended, hW, hsame⟩ := X.leave (v := some (.long z)) (fun h => by rw [hret] at h; cases h)
  refine ⟨_, _, ?_, hrun, hended, _, _, rfl, ?_, ⟨_, rfl⟩, hW, hsame.mono hk hn⟩
  · have hm' : T.vm.method? m = some meth := X.method'
    have hd' := hb hby hd
    show Steps p.tables e below (T.setTop { method := m, pc := pc, locals := Ls, stack := _ :: rest, locked := none }) _
    jvm_step X.here [X.here.top, hx, hd', hm', hret, narrow]
    first | (intro acts; rw [hr _ acts rfl rfl rfl]) | rw [hr _ _ rfl rfl rfl]
    exact Steps.refl _
  · show Q _ T.heap _
    rw [eT]; exact hQ
theorem retA (X : Stand p l e R s m args below meth c T locs cells slots) {t : FieldType} (C : Cx p s m meth c Z bytes maxL own mname (some t)) (ht : t.isReference = true) (eT : T.heap = h) {z : Value} (hz : z.isRef = true) (hd : decode bytes pc = .ok (.areturn, 1)) {k n : Nat} (hk : cells ≤ k) (hn : slots ≤ n) {Q : Option Value → Heap → List Loc → Prop} (hQ : Q (some z) h locs) :
    Go p e below (Post s Q k n) (T.setTop (mkF m pc Ls (z :: rest))) := by
  obtain ⟨hx, hZ, hby, hml, hown, hnm, hret, hlk⟩ := C
  obtain ⟨fs, hr, hrun, hended, hW, hsame⟩ := X.leave (v := some z) (fun h => by rw [hret] at h; cases h)
  refine ⟨_, _, ?_, hrun, hended, _, _, rfl, ?_, ⟨_, rfl⟩, hW, hsame.mono hk hn⟩
  · have hm' : T.vm.method? m = some meth := X.method'
    have hd' := hb hby hd
    show Steps p.tables e below (T.setTop { method := m, pc := pc, locals := Ls, stack := _ :: rest, locked := none }) _
    jvm_step X.here [X.here.top, hx, hd', hm', hret, hz, ht]
    first | (intro acts; rw [hr _ acts rfl rfl rfl]) | rw [hr _ _ rfl rfl rfl]
    exact Steps.refl _
  · show Q _ T.heap _
    rw [eT]; exact hQ
theorem retV (X : Stand p l e R s m args below meth c T locs cells slots) (C : Cx p s m meth c Z bytes maxL own mname none) (eT : T.heap = h) (hd : decode bytes pc = .ok (.return_, 1)) {k n : Nat} (hk : cells ≤ k) (hn : slots ≤ n) {Q : Option Value → Heap → List Loc → Prop} (hQ : Q none h locs) :
    Go p e below (Post s Q k n) (T.setTop (mkF m pc Ls [])) := by
  obtain ⟨hx, hZ, hby, hml, hown, hnm, hret, hlk⟩ := C
  obtain ⟨fs, hr, hrun, hended, hW, hsame⟩ := X.leave (v := none) (fun _ => rfl)
  refine ⟨_, _, X.returnOut hx hret (hb hby hd) hr, hrun, hended, _, _, rfl, ?_, ⟨_, rfl⟩, hW, hsame.mono hk hn⟩
  show Q _ T.heap _
  rw [eT]; exact hQ
/-! plain steps -/
theorem iload (X : Stand p l e R s m args below meth c T locs cells slots) (C : Cx p s m meth c Z bytes maxL own mname ret) {k : Nat} {v : Int32} (hd : decode bytes pc = .ok (.iload k, 2)) (hl : Ls[k]? = some (.val (.int v))) (hq : pc + 2 = q) (K : Go p e below F (T.setTop (mkF m q Ls (.int v :: S)))) : Go p e below F (T.setTop (mkF m pc Ls S)) := by
  subst hq; exact of (fun t k => XS.iload X.here C.1 rfl (hb C.2.2.1 hd) hl k) K
theorem iloadN (X : Stand p l e R s m args below meth c T locs cells slots) (C : Cx p s m meth c Z bytes maxL own mname ret) {k : Fin 4} {v : Int32} (hd : decode bytes pc = .ok (.iload_n k, 1)) (hl : Ls[k.val]? = some (.val (.int v))) (hq : pc + 1 = q) (K : Go p e below F (T.setTop (mkF m q Ls (.int v :: S)))) : Go p e below F (T.setTop (mkF m pc Ls S)) := by
  subst hq; exact of (fun t k => XS.iloadN X.here C.1 rfl (hb C.2.2.1 hd) hl k) K
theorem lload (X : Stand p l e R s m args below meth c T locs cells slots) (C : Cx p s m meth c Z bytes maxL own mname ret) {k : Nat} {v : Int64} (hd : decode bytes pc = .ok (.lload k, 2)) (hl : Ls[k]? = some (.val (.long v))) (hq : pc + 2 = q) (K : Go p e below F (T.setTop (mkF m q Ls (.long v :: S)))) : Go p e below F (T.setTop (mkF m pc Ls S)) := by
  subst hq; exact of (fun t k => XS.lload X.here C.1 rfl (hb C.2.2.1 hd) hl k) K
theorem lloadN (X : Stand p l e R s m args below meth c T locs cells slots) (C : Cx p s m meth c Z bytes maxL own mname ret) {k : Fin 4} {v : Int64} (hd : decode bytes pc = .ok (.lload_n k, 1)) (hl : Ls[k.val]? = some (.val (.long v))) (hq : pc + 1 = q) (K : Go p e below F (T.setTop (mkF m q Ls (.long v :: S)))) : Go p e below F (T.setTop (mkF m pc Ls S)) := by
  subst hq; exact of (fun t k => XS.lloadN X.here C.1 rfl (hb C.2.2.1 hd) hl k) K
theorem aload (X : Stand p l e R s m args below meth c T locs cells slots) (C : Cx p s m meth c Z bytes maxL own mname ret) {k : Nat} {v : Value} (hd : decode bytes pc = .ok (.aload k, 2)) (hl : Ls[k]? = some (.val v)) (hv : v.isRef = true) (hq : pc + 2 = q) (K : Go p e below F (T.setTop (mkF m q Ls (v :: S)))) : Go p e below F (T.setTop (mkF m pc Ls S)) := by
  subst hq; exact of (fun t k => XS.aload X.here C.1 rfl (hb C.2.2.1 hd) hl hv k) K
theorem aloadN (X : Stand p l e R s m args below meth c T locs cells slots) (C : Cx p s m meth c Z bytes maxL own mname ret) {k : Fin 4} {v : Value} (hd : decode bytes pc = .ok (.aload_n k, 1)) (hl : Ls[k.val]? = some (.val v)) (hv : v.isRef = true) (hq : pc + 1 = q) (K : Go p e below F (T.setTop (mkF m q Ls (v :: S)))) : Go p e below F (T.setTop (mkF m pc Ls S)) := by
  subst hq; exact of (fun t k => XS.aloadN X.here C.1 rfl (hb C.2.2.1 hd) hl hv k) K
theorem istore (X : Stand p l e R s m args below meth c T locs cells slots) (C : Cx p s m meth c Z bytes maxL own mname ret) {k : Nat} {v : Int32} (hd : decode bytes pc = .ok (.istore k, 2)) (hl : storeLocals Ls k (.int v) = some L') (hq : pc + 2 = q) (K : Go p e below F (T.setTop (mkF m q L' S))) : Go p e below F (T.setTop (mkF m pc Ls (.int v :: S))) := by
  subst hq; exact of (fun t k => XS.istore X.here C.1 rfl (hb C.2.2.1 hd) rfl hl k) K
theorem istoreN (X : Stand p l e R s m args below meth c T locs cells slots) (C : Cx p s m meth c Z bytes maxL own mname ret) {k : Fin 4} {v : Int32} (hd : decode bytes pc = .ok (.istore_n k, 1)) (hl : storeLocals Ls k.val (.int v) = some L') (hq : pc + 1 = q) (K : Go p e below F (T.setTop (mkF m q L' S))) : Go p e below F (T.setTop (mkF m pc Ls (.int v :: S))) := by
  subst hq; exact of (fun t k => XS.istoreN X.here C.1 rfl (hb C.2.2.1 hd) rfl hl k) K
theorem lstore (X : Stand p l e R s m args below meth c T locs cells slots) (C : Cx p s m meth c Z bytes maxL own mname ret) {k : Nat} {v : Int64} (hd : decode bytes pc = .ok (.lstore k, 2)) (hl : storeLocals Ls k (.long v) = some L') (hq : pc + 2 = q) (K : Go p e below F (T.setTop (mkF m q L' S))) : Go p e below F (T.setTop (mkF m pc Ls (.long v :: S))) := by
  subst hq; exact of (fun t k => XS.lstore X.here C.1 rfl (hb C.2.2.1 hd) rfl hl k) K
theorem lstoreN (X : Stand p l e R s m args below meth c T locs cells slots) (C : Cx p s m meth c Z bytes maxL own mname ret) {k : Fin 4} {v : Int64} (hd : decode bytes pc = .ok (.lstore_n k, 1)) (hl : storeLocals Ls k.val (.long v) = some L') (hq : pc + 1 = q) (K : Go p e below F (T.setTop (mkF m q L' S))) : Go p e below F (T.setTop (mkF m pc Ls (.long v :: S))) := by
  subst hq; exact of (fun t k => XS.lstoreN X.here C.1 rfl (hb C.2.2.1 hd) rfl hl k) K
theorem astore (X : Stand p l e R s m args below meth c T locs cells slots) (C : Cx p s m meth c Z bytes maxL own mname ret) {k : Nat} {v : Value} (hd : decode bytes pc = .ok (.astore k, 2)) (hv : v.isRef = true) (hl : storeLocals Ls k v = some L') (hq : pc + 2 = q) (K : Go p e below F (T.setTop (mkF m q L' S))) : Go p e below F (T.setTop (mkF m pc Ls (v :: S))) := by
  subst hq; exact of (fun t k => XS.astore X.here C.1 rfl (hb C.2.2.1 hd) rfl hv hl k) K
theorem astoreN (X : Stand p l e R s m args below meth c T locs cells slots) (C : Cx p s m meth c Z bytes maxL own mname ret) {k : Fin 4} {v : Value} (hd : decode bytes pc = .ok (.astore_n k, 1)) (hv : v.isRef = true) (hl : storeLocals Ls k.val v = some L') (hq : pc + 1 = q) (K : Go p e below F (T.setTop (mkF m q L' S))) : Go p e below F (T.setTop (mkF m pc Ls (v :: S))) := by
  subst hq; exact of (fun t k => XS.astoreN X.here C.1 rfl (hb C.2.2.1 hd) rfl hv hl k) K
theorem iinc (X : Stand p l e R s m args below meth c T locs cells slots) (C : Cx p s m meth c Z bytes maxL own mname ret) {k : Nat} {i : Int} {x y : Int32} (hd : decode bytes pc = .ok (.iinc k i, 3)) (hl : Ls[k]? = some (.val (.int x))) (hy : x + Int32.ofInt i = y) (hl' : storeLocals Ls k (.int y) = some L') (hq : pc + 3 = q) (K : Go p e below F (T.setTop (mkF m q L' S))) : Go p e below F (T.setTop (mkF m pc Ls S)) := by
  subst hq hy; exact of (fun t k => XS.iinc X.here C.1 rfl (hb C.2.2.1 hd) hl hl' k) K
theorem iconst (X : Stand p l e R s m args below meth c T locs cells slots) (C : Cx p s m meth c Z bytes maxL own mname ret) {i : Int} {v : Int32} (hd : decode bytes pc = .ok (.iconst i, 1)) (hi : Int32.ofInt i = v) (hq : pc + 1 = q) (K : Go p e below F (T.setTop (mkF m q Ls (.int v :: S)))) : Go p e below F (T.setTop (mkF m pc Ls S)) := by
  subst hq hi; exact of (fun t k => XS.iconst X.here C.1 rfl (hb C.2.2.1 hd) k) K
theorem bipush (X : Stand p l e R s m args below meth c T locs cells slots) (C : Cx p s m meth c Z bytes maxL own mname ret) {i : Int} {v : Int32} (hd : decode bytes pc = .ok (.bipush i, 2)) (hi : (Int8.ofInt i).toInt32 = v) (hq : pc + 2 = q) (K : Go p e below F (T.setTop (mkF m q Ls (.int v :: S)))) : Go p e below F (T.setTop (mkF m pc Ls S)) := by
  subst hq hi; exact of (fun t k => XS.bipush X.here C.1 rfl (hb C.2.2.1 hd) k) K
theorem sipush (X : Stand p l e R s m args below meth c T locs cells slots) (C : Cx p s m meth c Z bytes maxL own mname ret) {i : Int} {v : Int32} (hd : decode bytes pc = .ok (.sipush i, 3)) (hi : (Int16.ofInt i).toInt32 = v) (hq : pc + 3 = q) (K : Go p e below F (T.setTop (mkF m q Ls (.int v :: S)))) : Go p e below F (T.setTop (mkF m pc Ls S)) := by
  subst hq hi; exact of (fun t k => XS.sipush X.here C.1 rfl (hb C.2.2.1 hd) k) K
theorem lconst0 (X : Stand p l e R s m args below meth c T locs cells slots) (C : Cx p s m meth c Z bytes maxL own mname ret) (hd : decode bytes pc = .ok (.lconst 0, 1)) (hq : pc + 1 = q) (K : Go p e below F (T.setTop (mkF m q Ls (.long 0 :: S)))) : Go p e below F (T.setTop (mkF m pc Ls S)) := by
  subst hq; exact of (fun t k => XS.lconst X.here C.1 rfl (hb C.2.2.1 hd) k) K
theorem lconst1 (X : Stand p l e R s m args below meth c T locs cells slots) (C : Cx p s m meth c Z bytes maxL own mname ret) (hd : decode bytes pc = .ok (.lconst 1, 1)) (hq : pc + 1 = q) (K : Go p e below F (T.setTop (mkF m q Ls (.long 1 :: S)))) : Go p e below F (T.setTop (mkF m pc Ls S)) := by
  subst hq; exact of (fun t k => XS.lconst X.here C.1 rfl (hb C.2.2.1 hd) k) K
theorem ldcI (X : Stand p l e R s m args below meth c T locs cells slots) (C : Cx p s m meth c Z bytes maxL own mname ret) {i : Nat} {v : Int32} (w : (Jvm.Cond.constant own i v).before a0 Z = true) (hd : decode bytes pc = .ok (.ldc i, 2)) (hq : pc + 2 = q) (K : Go p e below F (T.setTop (mkF m q Ls (.int v :: S)))) : Go p e below F (T.setTop (mkF m pc Ls S)) := by
  subst hq; exact of (X.ldcInt C.1 C.2.2.2.2.1 (mvT C.2.1 w) (g := mkF m pc Ls S) rfl (hb C.2.2.1 hd)) K
theorem ldcL (X : Stand p l e R s m args below meth c T locs cells slots) (C : Cx p s m meth c Z bytes maxL own mname ret) {i : Nat} {v : Int64} (w : (Jvm.Cond.constantLong own i v).before a0 Z = true) (hd : decode bytes pc = .ok (.ldc2_w i, 3)) (hq : pc + 3 = q) (K : Go p e below F (T.setTop (mkF m q Ls (.long v :: S)))) : Go p e below F (T.setTop (mkF m pc Ls S)) := by
  subst hq; exact of (X.ldc2Long C.1 C.2.2.2.2.1 (mvT C.2.1 w) (g := mkF m pc Ls S) rfl (hb C.2.2.1 hd)) K
theorem aconst (X : Stand p l e R s m args below meth c T locs cells slots) (C : Cx p s m meth c Z bytes maxL own mname ret) (hd : decode bytes pc = .ok (.aconst_null, 1)) (hq : pc + 1 = q) (K : Go p e below F (T.setTop (mkF m q Ls (.null :: S)))) : Go p e below F (T.setTop (mkF m pc Ls S)) := by
  subst hq; exact of (fun t k => XS.aconstNull X.here C.1 rfl (hb C.2.2.1 hd) k) K
theorem iadd (X : Stand p l e R s m args below meth c T locs cells slots) (C : Cx p s m meth c Z bytes maxL own mname ret) {x : Int32} {y : Int32} (hd : decode bytes pc = .ok (.iadd, 1)) (hq : pc + 1 = q) (K : Go p e below F (T.setTop (mkF m q Ls (.int (x + y) :: S)))) : Go p e below F (T.setTop (mkF m pc Ls (.int y :: .int x :: S))) := by
  subst hq; exact of (fun t k => XS.iadd X.here C.1 rfl (hb C.2.2.1 hd) rfl k) K
theorem ladd (X : Stand p l e R s m args below meth c T locs cells slots) (C : Cx p s m meth c Z bytes maxL own mname ret) {x : Int64} {y : Int64} (hd : decode bytes pc = .ok (.ladd, 1)) (hq : pc + 1 = q) (K : Go p e below F (T.setTop (mkF m q Ls (.long (x + y) :: S)))) : Go p e below F (T.setTop (mkF m pc Ls (.long y :: .long x :: S))) := by
  subst hq; exact of (fun t k => XS.ladd X.here C.1 rfl (hb C.2.2.1 hd) rfl k) K
theorem isub (X : Stand p l e R s m args below meth c T locs cells slots) (C : Cx p s m meth c Z bytes maxL own mname ret) {x : Int32} {y : Int32} (hd : decode bytes pc = .ok (.isub, 1)) (hq : pc + 1 = q) (K : Go p e below F (T.setTop (mkF m q Ls (.int (x - y) :: S)))) : Go p e below F (T.setTop (mkF m pc Ls (.int y :: .int x :: S))) := by
  subst hq; exact of (fun t k => XS.isub X.here C.1 rfl (hb C.2.2.1 hd) rfl k) K
theorem lsub (X : Stand p l e R s m args below meth c T locs cells slots) (C : Cx p s m meth c Z bytes maxL own mname ret) {x : Int64} {y : Int64} (hd : decode bytes pc = .ok (.lsub, 1)) (hq : pc + 1 = q) (K : Go p e below F (T.setTop (mkF m q Ls (.long (x - y) :: S)))) : Go p e below F (T.setTop (mkF m pc Ls (.long y :: .long x :: S))) := by
  subst hq; exact of (fun t k => XS.lsub X.here C.1 rfl (hb C.2.2.1 hd) rfl k) K
theorem imul (X : Stand p l e R s m args below meth c T locs cells slots) (C : Cx p s m meth c Z bytes maxL own mname ret) {x : Int32} {y : Int32} (hd : decode bytes pc = .ok (.imul, 1)) (hq : pc + 1 = q) (K : Go p e below F (T.setTop (mkF m q Ls (.int (x * y) :: S)))) : Go p e below F (T.setTop (mkF m pc Ls (.int y :: .int x :: S))) := by
  subst hq; exact of (fun t k => XS.imul X.here C.1 rfl (hb C.2.2.1 hd) rfl k) K
theorem lmul (X : Stand p l e R s m args below meth c T locs cells slots) (C : Cx p s m meth c Z bytes maxL own mname ret) {x : Int64} {y : Int64} (hd : decode bytes pc = .ok (.lmul, 1)) (hq : pc + 1 = q) (K : Go p e below F (T.setTop (mkF m q Ls (.long (x * y) :: S)))) : Go p e below F (T.setTop (mkF m pc Ls (.long y :: .long x :: S))) := by
  subst hq; exact of (fun t k => XS.lmul X.here C.1 rfl (hb C.2.2.1 hd) rfl k) K
theorem iand (X : Stand p l e R s m args below meth c T locs cells slots) (C : Cx p s m meth c Z bytes maxL own mname ret) {x : Int32} {y : Int32} (hd : decode bytes pc = .ok (.iand, 1)) (hq : pc + 1 = q) (K : Go p e below F (T.setTop (mkF m q Ls (.int (x &&& y) :: S)))) : Go p e below F (T.setTop (mkF m pc Ls (.int y :: .int x :: S))) := by
  subst hq; exact of (fun t k => XS.iand X.here C.1 rfl (hb C.2.2.1 hd) rfl k) K
theorem land (X : Stand p l e R s m args below meth c T locs cells slots) (C : Cx p s m meth c Z bytes maxL own mname ret) {x : Int64} {y : Int64} (hd : decode bytes pc = .ok (.land, 1)) (hq : pc + 1 = q) (K : Go p e below F (T.setTop (mkF m q Ls (.long (x &&& y) :: S)))) : Go p e below F (T.setTop (mkF m pc Ls (.long y :: .long x :: S))) := by
  subst hq; exact of (fun t k => XS.land X.here C.1 rfl (hb C.2.2.1 hd) rfl k) K
theorem ior (X : Stand p l e R s m args below meth c T locs cells slots) (C : Cx p s m meth c Z bytes maxL own mname ret) {x : Int32} {y : Int32} (hd : decode bytes pc = .ok (.ior, 1)) (hq : pc + 1 = q) (K : Go p e below F (T.setTop (mkF m q Ls (.int (x ||| y) :: S)))) : Go p e below F (T.setTop (mkF m pc Ls (.int y :: .int x :: S))) := by
  subst hq; exact of (fun t k => XS.ior X.here C.1 rfl (hb C.2.2.1 hd) rfl k) K
theorem lor (X : Stand p l e R s m args below meth c T locs cells slots) (C : Cx p s m meth c Z bytes maxL own mname ret) {x : Int64} {y : Int64} (hd : decode bytes pc = .ok (.lor, 1)) (hq : pc + 1 = q) (K : Go p e below F (T.setTop (mkF m q Ls (.long (x ||| y) :: S)))) : Go p e below F (T.setTop (mkF m pc Ls (.long y :: .long x :: S))) := by
  subst hq; exact of (fun t k => XS.lor X.here C.1 rfl (hb C.2.2.1 hd) rfl k) K
theorem ixor (X : Stand p l e R s m args below meth c T locs cells slots) (C : Cx p s m meth c Z bytes maxL own mname ret) {x : Int32} {y : Int32} (hd : decode bytes pc = .ok (.ixor, 1)) (hq : pc + 1 = q) (K : Go p e below F (T.setTop (mkF m q Ls (.int (x ^^^ y) :: S)))) : Go p e below F (T.setTop (mkF m pc Ls (.int y :: .int x :: S))) := by
  subst hq; exact of (fun t k => XS.ixor X.here C.1 rfl (hb C.2.2.1 hd) rfl k) K
theorem lxor (X : Stand p l e R s m args below meth c T locs cells slots) (C : Cx p s m meth c Z bytes maxL own mname ret) {x : Int64} {y : Int64} (hd : decode bytes pc = .ok (.lxor, 1)) (hq : pc + 1 = q) (K : Go p e below F (T.setTop (mkF m q Ls (.long (x ^^^ y) :: S)))) : Go p e below F (T.setTop (mkF m pc Ls (.long y :: .long x :: S))) := by
  subst hq; exact of (fun t k => XS.lxor X.here C.1 rfl (hb C.2.2.1 hd) rfl k) K
theorem ishl (X : Stand p l e R s m args below meth c T locs cells slots) (C : Cx p s m meth c Z bytes maxL own mname ret) {x : Int32} {y : Int32} (hd : decode bytes pc = .ok (.ishl, 1)) (hq : pc + 1 = q) (K : Go p e below F (T.setTop (mkF m q Ls (.int (x <<< (y &&& 31)) :: S)))) : Go p e below F (T.setTop (mkF m pc Ls (.int y :: .int x :: S))) := by
  subst hq; exact of (fun t k => XS.ishl X.here C.1 rfl (hb C.2.2.1 hd) rfl k) K
theorem ishr (X : Stand p l e R s m args below meth c T locs cells slots) (C : Cx p s m meth c Z bytes maxL own mname ret) {x : Int32} {y : Int32} (hd : decode bytes pc = .ok (.ishr, 1)) (hq : pc + 1 = q) (K : Go p e below F (T.setTop (mkF m q Ls (.int (x >>> (y &&& 31)) :: S)))) : Go p e below F (T.setTop (mkF m pc Ls (.int y :: .int x :: S))) := by
  subst hq; exact of (fun t k => XS.ishr X.here C.1 rfl (hb C.2.2.1 hd) rfl k) K
theorem iushr (X : Stand p l e R s m args below meth c T locs cells slots) (C : Cx p s m meth c Z bytes maxL own mname ret) {x : Int32} {y : Int32} (hd : decode bytes pc = .ok (.iushr, 1)) (hq : pc + 1 = q) (K : Go p e below F (T.setTop (mkF m q Ls (.int ((x.toUInt32 >>> (y &&& 31).toUInt32).toInt32) :: S)))) : Go p e below F (T.setTop (mkF m pc Ls (.int y :: .int x :: S))) := by
  subst hq; exact of (fun t k => XS.iushr X.here C.1 rfl (hb C.2.2.1 hd) rfl k) K
theorem lshl (X : Stand p l e R s m args below meth c T locs cells slots) (C : Cx p s m meth c Z bytes maxL own mname ret) {x : Int64} {y : Int32} (hd : decode bytes pc = .ok (.lshl, 1)) (hq : pc + 1 = q) (K : Go p e below F (T.setTop (mkF m q Ls (.long (x <<< (y &&& 0x3f).toInt64) :: S)))) : Go p e below F (T.setTop (mkF m pc Ls (.int y :: .long x :: S))) := by
  subst hq; exact of (fun t k => XS.lshl X.here C.1 rfl (hb C.2.2.1 hd) rfl k) K
theorem lshr (X : Stand p l e R s m args below meth c T locs cells slots) (C : Cx p s m meth c Z bytes maxL own mname ret) {x : Int64} {y : Int32} (hd : decode bytes pc = .ok (.lshr, 1)) (hq : pc + 1 = q) (K : Go p e below F (T.setTop (mkF m q Ls (.long (x >>> (y &&& 0x3f).toInt64) :: S)))) : Go p e below F (T.setTop (mkF m pc Ls (.int y :: .long x :: S))) := by
  subst hq; exact of (fun t k => XS.lshr X.here C.1 rfl (hb C.2.2.1 hd) rfl k) K
theorem lushr (X : Stand p l e R s m args below meth c T locs cells slots) (C : Cx p s m meth c Z bytes maxL own mname ret) {x : Int64} {y : Int32} (hd : decode bytes pc = .ok (.lushr, 1)) (hq : pc + 1 = q) (K : Go p e below F (T.setTop (mkF m q Ls (.long ((x.toUInt64 >>> (y &&& 0x3f).toInt64.toUInt64).toInt64) :: S)))) : Go p e below F (T.setTop (mkF m pc Ls (.int y :: .long x :: S))) := by
  subst hq; exact of (fun t k => XS.lushr X.here C.1 rfl (hb C.2.2.1 hd) rfl k) K
theorem ineg (X : Stand p l e R s m args below meth c T locs cells slots) (C : Cx p s m meth c Z bytes maxL own mname ret) {x : Int32} (hd : decode bytes pc = .ok (.ineg, 1)) (hq : pc + 1 = q) (K : Go p e below F (T.setTop (mkF m q Ls (.int (-x) :: S)))) : Go p e below F (T.setTop (mkF m pc Ls (.int x :: S))) := by
  subst hq; exact of (fun t k => XS.ineg X.here C.1 rfl (hb C.2.2.1 hd) rfl k) K
theorem lneg (X : Stand p l e R s m args below meth c T locs cells slots) (C : Cx p s m meth c Z bytes maxL own mname ret) {x : Int64} (hd : decode bytes pc = .ok (.lneg, 1)) (hq : pc + 1 = q) (K : Go p e below F (T.setTop (mkF m q Ls (.long (-x) :: S)))) : Go p e below F (T.setTop (mkF m pc Ls (.long x :: S))) := by
  subst hq; exact of (fun t k => XS.lneg X.here C.1 rfl (hb C.2.2.1 hd) rfl k) K
theorem i2l (X : Stand p l e R s m args below meth c T locs cells slots) (C : Cx p s m meth c Z bytes maxL own mname ret) {x : Int32} (hd : decode bytes pc = .ok (.i2l, 1)) (hq : pc + 1 = q) (K : Go p e below F (T.setTop (mkF m q Ls (.long (x.toInt64) :: S)))) : Go p e below F (T.setTop (mkF m pc Ls (.int x :: S))) := by
  subst hq; exact of (fun t k => XS.i2l X.here C.1 rfl (hb C.2.2.1 hd) rfl k) K
theorem l2i (X : Stand p l e R s m args below meth c T locs cells slots) (C : Cx p s m meth c Z bytes maxL own mname ret) {x : Int64} (hd : decode bytes pc = .ok (.l2i, 1)) (hq : pc + 1 = q) (K : Go p e below F (T.setTop (mkF m q Ls (.int (x.toInt32) :: S)))) : Go p e below F (T.setTop (mkF m pc Ls (.long x :: S))) := by
  subst hq; exact of (fun t k => XS.l2i X.here C.1 rfl (hb C.2.2.1 hd) rfl k) K
theorem i2b (X : Stand p l e R s m args below meth c T locs cells slots) (C : Cx p s m meth c Z bytes maxL own mname ret) {x : Int32} (hd : decode bytes pc = .ok (.i2b, 1)) (hq : pc + 1 = q) (K : Go p e below F (T.setTop (mkF m q Ls (.int (x.toInt8.toInt32) :: S)))) : Go p e below F (T.setTop (mkF m pc Ls (.int x :: S))) := by
  subst hq; exact of (fun t k => XS.i2b X.here C.1 rfl (hb C.2.2.1 hd) rfl k) K
theorem i2s (X : Stand p l e R s m args below meth c T locs cells slots) (C : Cx p s m meth c Z bytes maxL own mname ret) {x : Int32} (hd : decode bytes pc = .ok (.i2s, 1)) (hq : pc + 1 = q) (K : Go p e below F (T.setTop (mkF m q Ls (.int (x.toInt16.toInt32) :: S)))) : Go p e below F (T.setTop (mkF m pc Ls (.int x :: S))) := by
  subst hq; exact of (fun t k => XS.i2s X.here C.1 rfl (hb C.2.2.1 hd) rfl k) K
theorem i2c (X : Stand p l e R s m args below meth c T locs cells slots) (C : Cx p s m meth c Z bytes maxL own mname ret) {x : Int32} (hd : decode bytes pc = .ok (.i2c, 1)) (hq : pc + 1 = q) (K : Go p e below F (T.setTop (mkF m q Ls (.int (x.toUInt32.toUInt16.toUInt32.toInt32) :: S)))) : Go p e below F (T.setTop (mkF m pc Ls (.int x :: S))) := by
  subst hq; exact of (fun t k => XS.i2c X.here C.1 rfl (hb C.2.2.1 hd) rfl k) K
theorem idiv (X : Stand p l e R s m args below meth c T locs cells slots) (C : Cx p s m meth c Z bytes maxL own mname ret) {x y : Int32} (hd : decode bytes pc = .ok (.idiv, 1)) (hy : y ≠ 0) (hq : pc + 1 = q) (K : Go p e below F (T.setTop (mkF m q Ls (.int (x / y) :: S)))) : Go p e below F (T.setTop (mkF m pc Ls (.int y :: .int x :: S))) := by
  subst hq; exact of (fun t k => XS.idiv X.here C.1 rfl (hb C.2.2.1 hd) rfl hy k) K
theorem irem (X : Stand p l e R s m args below meth c T locs cells slots) (C : Cx p s m meth c Z bytes maxL own mname ret) {x y : Int32} (hd : decode bytes pc = .ok (.irem, 1)) (hy : y ≠ 0) (hq : pc + 1 = q) (K : Go p e below F (T.setTop (mkF m q Ls (.int (x % y) :: S)))) : Go p e below F (T.setTop (mkF m pc Ls (.int y :: .int x :: S))) := by
  subst hq; exact of (fun t k => iremM (g := mkF m pc Ls (.int y :: .int x :: S)) X C.1 rfl (hb C.2.2.1 hd) rfl hy k) K
theorem ldiv (X : Stand p l e R s m args below meth c T locs cells slots) (C : Cx p s m meth c Z bytes maxL own mname ret) {x y : Int64} (hd : decode bytes pc = .ok (.ldiv, 1)) (hy : y ≠ 0) (hq : pc + 1 = q) (K : Go p e below F (T.setTop (mkF m q Ls (.long (x / y) :: S)))) : Go p e below F (T.setTop (mkF m pc Ls (.long y :: .long x :: S))) := by
  subst hq; exact of (fun t k => XS.ldiv X.here C.1 rfl (hb C.2.2.1 hd) rfl hy k) K
theorem lcmp (X : Stand p l e R s m args below meth c T locs cells slots) (C : Cx p s m meth c Z bytes maxL own mname ret) {x y : Int64} (hd : decode bytes pc = .ok (.lcmp, 1)) (hq : pc + 1 = q) (K : Go p e below F (T.setTop (mkF m q Ls (.int (lcmpW x y) :: S)))) : Go p e below F (T.setTop (mkF m pc Ls (.long y :: .long x :: S))) := by
  subst hq; exact of (fun t k => XS.lcmp X.here C.1 rfl (hb C.2.2.1 hd) rfl k) K
theorem dup (X : Stand p l e R s m args below meth c T locs cells slots) (C : Cx p s m meth c Z bytes maxL own mname ret) {v : Value} (hd : decode bytes pc = .ok (.dup, 1)) (hv : v.category = 1) (hq : pc + 1 = q) (K : Go p e below F (T.setTop (mkF m q Ls (v :: v :: S)))) : Go p e below F (T.setTop (mkF m pc Ls (v :: S))) := by
  subst hq; exact of (fun t k => XS.dup X.here C.1 rfl (hb C.2.2.1 hd) rfl hv k) K
theorem dupX1 (X : Stand p l e R s m args below meth c T locs cells slots) (C : Cx p s m meth c Z bytes maxL own mname ret) {v w : Value} (hd : decode bytes pc = .ok (.dup_x1, 1)) (hv : v.category = 1) (hw : w.category = 1) (hq : pc + 1 = q) (K : Go p e below F (T.setTop (mkF m q Ls (v :: w :: v :: S)))) : Go p e below F (T.setTop (mkF m pc Ls (v :: w :: S))) := by
  subst hq; exact of (fun t k => XS.dupX1 X.here C.1 rfl (hb C.2.2.1 hd) rfl hv hw k) K
theorem pop (X : Stand p l e R s m args below meth c T locs cells slots) (C : Cx p s m meth c Z bytes maxL own mname ret) {v : Value} (hd : decode bytes pc = .ok (.pop, 1)) (hv : v.category = 1) (hq : pc + 1 = q) (K : Go p e below F (T.setTop (mkF m q Ls S))) : Go p e below F (T.setTop (mkF m pc Ls (v :: S))) := by
  subst hq; exact of (fun t k => XS.pop X.here C.1 rfl (hb C.2.2.1 hd) rfl hv k) K
theorem goto (X : Stand p l e R s m args below meth c T locs cells slots) (C : Cx p s m meth c Z bytes maxL own mname ret) {o : Int} (hd : decode bytes pc = .ok (.goto o, 3)) (ho : 0 ≤ (pc : Int) + o) (hq : ((pc : Int) + o).toNat = q) (K : Go p e below F (T.setTop (mkF m q Ls S))) : Go p e below F (T.setTop (mkF m pc Ls S)) :=
  of (fun t k => XS.goto X.here C.1 rfl rfl (hb C.2.2.1 hd) ho hq k) K
theorem icmpT (X : Stand p l e R s m args below meth c T locs cells slots) (C : Cx p s m meth c Z bytes maxL own mname ret) {cd : ClassFile.Cond} {o : Int} {x y : Int32} (hd : decode bytes pc = .ok (.if_icmp cd o, 3)) (ho : 0 ≤ (pc : Int) + o) (hq : ((pc : Int) + o).toNat = q) (hc : cT cd x y) (K : Go p e below F (T.setTop (mkF m q Ls S))) : Go p e below F (T.setTop (mkF m pc Ls (.int y :: .int x :: S))) :=
  of (fun t k => XS.icmpYes X.here C.1 rfl rfl (hb C.2.2.1 hd) rfl (holdsT hc) ho hq k) K
theorem icmpF (X : Stand p l e R s m args below meth c T locs cells slots) (C : Cx p s m meth c Z bytes maxL own mname ret) {cd : ClassFile.Cond} {o : Int} {x y : Int32} (hd : decode bytes pc = .ok (.if_icmp cd o, 3)) (hq : pc + 3 = q) (hc : cF cd x y) (K : Go p e below F (T.setTop (mkF m q Ls S))) : Go p e below F (T.setTop (mkF m pc Ls (.int y :: .int x :: S))) := by
  subst hq; exact of (fun t k => XS.icmpNo X.here C.1 rfl (hb C.2.2.1 hd) rfl (holdsF hc) k) K
theorem icmp (X : Stand p l e R s m args below meth c T locs cells slots) (C : Cx p s m meth c Z bytes maxL own mname ret) {cd : ClassFile.Cond} {o : Int} {x y : Int32} {q' : Nat} (hd : decode bytes pc = .ok (.if_icmp cd o, 3)) (ho : 0 ≤ (pc : Int) + o) (hq : ((pc : Int) + o).toNat = q) (hq' : pc + 3 = q') (K : cT cd x y → Go p e below F (T.setTop (mkF m q Ls S))) (K' : cF cd x y → Go p e below F (T.setTop (mkF m q' Ls S))) : Go p e below F (T.setTop (mkF m pc Ls (.int y :: .int x :: S))) :=
  (cTF cd x y).elim (fun hc => icmpT X C hd ho hq hc (K hc)) (fun hc => icmpF X C hd hq' hc (K' hc))
theorem ifT (X : Stand p l e R s m args below meth c T locs cells slots) (C : Cx p s m meth c Z bytes maxL own mname ret) {cd : ClassFile.Cond} {o : Int} {x : Int32} (hd : decode bytes pc = .ok (.ifCond cd o, 3)) (ho : 0 ≤ (pc : Int) + o) (hq : ((pc : Int) + o).toNat = q) (hc : cT cd x 0) (K : Go p e below F (T.setTop (mkF m q Ls S))) : Go p e below F (T.setTop (mkF m pc Ls (.int x :: S))) :=
  of (fun t k => XS.ifYes X.here C.1 rfl rfl (hb C.2.2.1 hd) rfl ((if0 _ _).trans (holdsT hc)) ho hq k) K
theorem ifF (X : Stand p l e R s m args below meth c T locs cells slots) (C : Cx p s m meth c Z bytes maxL own mname ret) {cd : ClassFile.Cond} {o : Int} {x : Int32} (hd : decode bytes pc = .ok (.ifCond cd o, 3)) (hq : pc + 3 = q) (hc : cF cd x 0) (K : Go p e below F (T.setTop (mkF m q Ls S))) : Go p e below F (T.setTop (mkF m pc Ls (.int x :: S))) := by
  subst hq; exact of (fun t k => XS.ifNo X.here C.1 rfl (hb C.2.2.1 hd) rfl ((if0 _ _).trans (holdsF hc)) k) K
theorem if_ (X : Stand p l e R s m args below meth c T locs cells slots) (C : Cx p s m meth c Z bytes maxL own mname ret) {cd : ClassFile.Cond} {o : Int} {x : Int32} {q' : Nat} (hd : decode bytes pc = .ok (.ifCond cd o, 3)) (ho : 0 ≤ (pc : Int) + o) (hq : ((pc : Int) + o).toNat = q) (hq' : pc + 3 = q') (K : cT cd x 0 → Go p e below F (T.setTop (mkF m q Ls S))) (K' : cF cd x 0 → Go p e below F (T.setTop (mkF m q' Ls S))) : Go p e below F (T.setTop (mkF m pc Ls (.int x :: S))) :=
  (cTF cd x 0).elim (fun hc => ifT X C hd ho hq hc (K hc)) (fun hc => ifF X C hd hq' hc (K' hc))
theorem ifnullT (X : Stand p l e R s m args below meth c T locs cells slots) (C : Cx p s m meth c Z bytes maxL own mname ret) {o : Int} (hd : decode bytes pc = .ok (.ifnull o, 3)) (ho : 0 ≤ (pc : Int) + o) (hq : ((pc : Int) + o).toNat = q) (K : Go p e below F (T.setTop (mkF m q Ls S))) : Go p e below F (T.setTop (mkF m pc Ls (.null :: S))) :=
  of (fun t k => XS.ifnullYes X.here C.1 rfl rfl (hb C.2.2.1 hd) rfl ho hq k) K
theorem ifnullF (X : Stand p l e R s m args below meth c T locs cells slots) (C : Cx p s m meth c Z bytes maxL own mname ret) {o : Int} {a : Addr} (hd : decode bytes pc = .ok (.ifnull o, 3)) (hq : pc + 3 = q) (K : Go p e below F (T.setTop (mkF m q Ls S))) : Go p e below F (T.setTop (mkF m pc Ls (.ref a :: S))) := by
  subst hq; exact of (fun t k => XS.ifnullNo X.here C.1 rfl (hb C.2.2.1 hd) rfl k) K
theorem ifnonnullT (X : Stand p l e R s m args below meth c T locs cells slots) (C : Cx p s m meth c Z bytes maxL own mname ret) {o : Int} {a : Addr} (hd : decode bytes pc = .ok (.ifnonnull o, 3)) (ho : 0 ≤ (pc : Int) + o) (hq : ((pc : Int) + o).toNat = q) (K : Go p e below F (T.setTop (mkF m q Ls S))) : Go p e below F (T.setTop (mkF m pc Ls (.ref a :: S))) :=
  of (fun t k => XS.ifnonnullYes X.here C.1 rfl rfl (hb C.2.2.1 hd) rfl ho hq k) K
theorem ifnonnullF (X : Stand p l e R s m args below meth c T locs cells slots) (C : Cx p s m meth c Z bytes maxL own mname ret) {o : Int} (hd : decode bytes pc = .ok (.ifnonnull o, 3)) (hq : pc + 3 = q) (K : Go p e below F (T.setTop (mkF m q Ls S))) : Go p e below F (T.setTop (mkF m pc Ls (.null :: S))) := by
  subst hq; exact of (fun t k => XS.ifnonnullNo X.here C.1 rfl (hb C.2.2.1 hd) rfl k) K
/-! calls -/
theorem callS (X : Stand p l e R s m args below meth c T locs cells slots) (C : Cx p s m meth c Z bytes maxL own mname ret) {y : MethodName} {i : Nat} {yb : ByteArray} {ym : Nat} {yr : Option FieldType} (w1 : (Jvm.Cond.methodLink own i y).before a0 Z = true) (w2 : (Jvm.Cond.static y).before a0 Z = true) (w3 : (Jvm.Cond.initialized y.cls).before a0 Z = true) (w4 : (Jvm.Cond.code y yb ym yr).before a0 Z = true) (hy : y.cls ≠ "java/lang/invoke/MethodHandle" ∧ y.cls ≠ "java/lang/invoke/VarHandle")
    {rm : Room} {as' : Array Value} {Q : Option Value → Heap → List Loc → Prop} (hM : MetFree l y (head1 [Jvm.Cond.code y yb ym yr] rm) (fun a U => a = as' ∧ Z.Warmed39 U.vm ∧ U.heap = h) (fun _ _ _ _ _ => True) (fun _ U o U' => ∃ v L, o = .returned v ∧ Q v U'.heap L ∧ FrameEnd U o U' L rm.cells rm.slots))
    (eT : T.heap = h) (hd : decode bytes pc = .ok (.invokestatic i, 3)) (argsL : List Value) (rest : List Value) (hS : S = argsL.reverse ++ rest) (has : as' = argsL.toArray) {ps : List FieldType} {r : Option FieldType} (hpd : parseMethodDescriptor y.desc = some ⟨ps, r⟩) (hlen : argsL.length = ps.length) (hsz : Ls.size = maxL)
    (hf : rm.frames + 1 ≤ R.frames) (hl : (rest.map fun v => v.category).sum + (ym + 11) + rm.locals ≤ R.locals) (hc : cells + rm.cells ≤ R.cells) (hsl : slots + rm.slots ≤ R.slots) (hq : pc + 3 = q)
    (K : ∀ (T' : State) (v : Option Value) (L : List Loc), Stand p l e R s m args below meth c T' (locs ++ L) (cells + rm.cells) (slots + rm.slots) → Q v T'.heap L → Go p e below F (T'.setTop (mkF m q Ls (v.toList ++ rest)))) : Go p e below F (T.setTop (mkF m pc Ls S)) := by
  subst hq hS has
  obtain ⟨hx, hZ, hby, hml, hown, hnm, hret, hlk⟩ := C
  obtain ⟨v, _, ⟨T1, L1, k1, n1⟩, -, X1, ⟨Lc, hQ, l1, y1, z1⟩, st⟩ := Jvm.LawKit.callS X hx hown (mvT hZ w1) (mvT hZ w2) (mvT hZ w3) (mvT hZ w4) hy (backOf (W := (rest.map fun v => v.category).sum) hM hZ w4 w3 hf hl) (g := mkF m pc Ls (argsL.reverse ++ rest)) rfl (by rw [hml]; exact hsz) (argsL := argsL) (rest := rest) (lenOf hpd hlen) rfl (by show 2 * 0 + _ ≤ _; omega) (hb hby hd) (fun _ _ => ⟨rfl, eT, hc, hsl⟩)
  dsimp only [Pt.U, Pt.locs, Pt.cells, Pt.slots] at X1 l1 y1 z1 st hQ
  subst l1 y1 z1
  exact of st (K T1 v Lc X1 hQ)
theorem callI (X : Stand p l e R s m args below meth c T locs cells slots) (C : Cx p s m meth c Z bytes maxL own mname ret) {y : MethodName} {i : Nat} {yb : ByteArray} {ym : Nat} (hy1 : y.name = "<init>") (w1 : (Jvm.Cond.methodLink own i y).before a0 Z = true) (w2 : (Jvm.Cond.instanceMethod y).before a0 Z = true) (w3 : (Jvm.Cond.initialized y.cls).before a0 Z = true) (w4 : (Jvm.Cond.code y yb ym none).before a0 Z = true) (hy : y.cls ≠ "java/lang/invoke/MethodHandle" ∧ y.cls ≠ "java/lang/invoke/VarHandle")
    {rm : Room} {as' : Array Value} {Q : Option Value → Heap → List Loc → Prop} (hM : MetFree l y (head1 [Jvm.Cond.code y yb ym none] rm) (fun a U => a = as' ∧ Z.Warmed39 U.vm ∧ U.heap = h) (fun _ _ _ _ _ => True) (fun _ U o U' => ∃ v L, o = .returned v ∧ Q v U'.heap L ∧ FrameEnd U o U' L rm.cells rm.slots))
    (eT : T.heap = h) (hd : decode bytes pc = .ok (.invokespecial i, 3)) {a : Addr} (argsL : List Value) (rest : List Value) (hS : S = argsL.reverse ++ .ref a :: rest) (has : as' = (.ref a :: argsL).toArray) {ps : List FieldType} {r : Option FieldType} (hpd : parseMethodDescriptor y.desc = some ⟨ps, r⟩) (hlen : argsL.length = ps.length) (hsz : Ls.size = maxL)
    (hf : rm.frames + 1 ≤ R.frames) (hl : (rest.map fun v => v.category).sum + (ym + 11) + rm.locals ≤ R.locals) (hc : cells + rm.cells ≤ R.cells) (hsl : slots + rm.slots ≤ R.slots) (hq : pc + 3 = q)
    (K : ∀ (T' : State) (v : Option Value) (L : List Loc), Stand p l e R s m args below meth c T' (locs ++ L) (cells + rm.cells) (slots + rm.slots) → Q v T'.heap L → Go p e below F (T'.setTop (mkF m q Ls (v.toList ++ rest)))) : Go p e below F (T.setTop (mkF m pc Ls S)) := by
  subst hq hS has
  obtain ⟨hx, hZ, hby, hml, hown, hnm, hret, hlk⟩ := C
  obtain ⟨v, _, ⟨T1, L1, k1, n1⟩, -, X1, ⟨Lc, hQ, l1, y1, z1⟩, st⟩ := X.specialBack hx hy1 hown (mvT hZ w1) (mvT hZ w2) (mvT hZ w4) hy (backOf (W := (rest.map fun v => v.category).sum) hM hZ w4 w3 hf hl) (g := mkF m pc Ls (argsL.reverse ++ .ref a :: rest)) rfl (by rw [hml]; exact hsz) (Steps.refl _) (a := a) (argsL := argsL) (rest := rest) (lenOf hpd hlen) rfl (by show 2 * 0 + _ ≤ _; omega) (hb hby hd) (fun _ _ => ⟨rfl, eT, hc, hsl⟩)
  dsimp only [Pt.U, Pt.locs, Pt.cells, Pt.slots] at X1 l1 y1 z1 st hQ
  subst l1 y1 z1
  exact tr st (K T1 v Lc X1 hQ)
theorem callV (X : Stand p l e R s m args below meth c T locs cells slots) (C : Cx p s m meth c Z bytes maxL own mname ret) {y z : MethodName} {i : Nat} {Cn : String} {yb : ByteArray} {ym : Nat} {yr : Option FieldType} (w1 : (Jvm.Cond.methodLink own i y).before a0 Z = true) (w2 : (Jvm.Cond.declares y).before a0 Z = true) (hnf : NotFace s y) (ws : (Jvm.Cond.selects Cn y z).before a0 Z = true) (wi : (Jvm.Cond.instanceMethod z).before a0 Z = true) (w3 : (Jvm.Cond.initialized z.cls).before a0 Z = true) (w4 : (Jvm.Cond.code z yb ym yr).before a0 Z = true) (hy : y.cls ≠ "java/lang/invoke/MethodHandle" ∧ y.cls ≠ "java/lang/invoke/VarHandle")
    {rm : Room} {as' : Array Value} {Q : Option Value → Heap → List Loc → Prop} (hM : MetFree l z (head1 [Jvm.Cond.code z yb ym yr] rm) (fun a U => a = as' ∧ Z.Warmed39 U.vm ∧ U.heap = h) (fun _ _ _ _ _ => True) (fun _ U o U' => ∃ v L, o = .returned v ∧ Q v U'.heap L ∧ FrameEnd U o U' L rm.cells rm.slots))
    (eT : T.heap = h) {a : Addr} (E : Exa Z h a Cn) (hd : decode bytes pc = .ok (.invokevirtual i, 3)) (argsL : List Value) (rest : List Value) (hS : S = argsL.reverse ++ .ref a :: rest) (has : as' = (.ref a :: argsL).toArray) {ps : List FieldType} {r : Option FieldType} (hpd : parseMethodDescriptor y.desc = some ⟨ps, r⟩) (hlen : argsL.length = ps.length) (hsz : Ls.size = maxL)
    (hf : rm.frames + 1 ≤ R.frames) (hl : (rest.map fun v => v.category).sum + (ym + 11) + rm.locals ≤ R.locals) (hc : cells + rm.cells ≤ R.cells) (hsl : slots + rm.slots ≤ R.slots) (hq : pc + 3 = q)
    (K : ∀ (T' : State) (v : Option Value) (L : List Loc), Stand p l e R s m args below meth c T' (locs ++ L) (cells + rm.cells) (slots + rm.slots) → Q v T'.heap L → Go p e below F (T'.setTop (mkF m q Ls (v.toList ++ rest)))) : Go p e below F (T.setTop (mkF m pc Ls S)) := by
  subst hq hS has
  obtain ⟨hx, hZ, hby, hml, hown, hnm, hret, hlk⟩ := C
  obtain ⟨cq, kq, qa, qb, qc⟩ := isOf hZ eT E
  obtain ⟨v, _, ⟨T1, L1, k1, n1⟩, -, X1, ⟨Lc, hQ, l1, y1, z1⟩, st⟩ := X.virtualBack hx hown (mvT hZ w1) (mvT hZ w2) hnf (mvT hZ ws) (mvT hZ wi) hy (backOf (W := (rest.map fun v => v.category).sum) hM hZ w4 w3 hf hl) qa qc (g := mkF m pc Ls (argsL.reverse ++ .ref a :: rest)) rfl (by rw [hml]; exact hsz) (Steps.refl _) (argsL := argsL) (rest := rest) (lenOf hpd hlen) rfl (by show 2 * 0 + _ ≤ _; omega) (hb hby hd) (fun _ _ => ⟨rfl, eT, hc, hsl⟩)
  dsimp only [Pt.U, Pt.locs, Pt.cells, Pt.slots] at X1 l1 y1 z1 st hQ
  subst l1 y1 z1
  exact tr st (K T1 v Lc X1 hQ)
theorem nf (C : Cx p s m meth c Z bytes maxL own mname ret) {Cn : String} {y : MethodName} (ws : (Jvm.Cond.selects Cn y y).before a0 Z = true) : NotFace s y := notFace_of_selects (args := #[]) (mvT C.2.1 ws)
/-! objects -/
theorem newO (X : Stand p l e R s m args below meth c T locs cells slots) (C : Cx p s m meth c Z bytes maxL own mname ret) {i n : Nat} {Cn : String} (w1 : (Jvm.Cond.classLink own i Cn).before a0 Z = true) (w2 : (Jvm.Cond.instantiable Cn n).before a0 Z = true) (w3 : (Jvm.Cond.initialized Cn).before a0 Z = true) (eT : T.heap = h) (hd : decode bytes pc = .ok (.new i, 3)) (hc : cells + 1 ≤ R.cells) (hl : slots + n ≤ R.slots) (hq : pc + 3 = q)
    (K : ∀ (T' : State) (h' : Heap) (b : Addr), Stand p l e R s m args below meth c T' locs (cells + 1) (slots + n) → T'.heap = h' → b = h.size → Ext h h' → Exa Z h' b Cn → (∀ {O nm d : String} {ty : FieldType}, Laid Z a0 Cn O nm d → parseFieldDescriptor d = some ty → Fld Z h' b O nm d (defaultValue ty)) → Go p e below F (T'.setTop (mkF m q Ls (.ref b :: S)))) : Go p e below F (T.setTop (mkF m pc Ls S)) := by
  subst hq
  obtain ⟨hx, hZ, hby, hml, hown, hnm, hret, hlk⟩ := C
  obtain ⟨T1, h1, X1, e1, E1, A1, D1, -, st⟩ := Jvm.RoadKit.newO X hx hZ hown w1 w2 w3 eT (g := mkF m pc Ls S) rfl (hb hby hd) hc hl
  exact of st (K T1 h1 _ X1 e1 rfl E1 A1 D1)
theorem getF (X : Stand p l e R s m args below meth c T locs cells slots) (C : Cx p s m meth c Z bytes maxL own mname ret) {i : Nat} {R0 O n d host : String} (w : (Jvm.Cond.fieldLink own i R0 n d).before a0 Z = true ∨ (Jvm.Cond.fieldLinkNest own i R0 n d host).before a0 Z = true) (via : Via Z R0 O n d) (eT : T.heap = h) {a : Addr} {v : Value} (F0 : Fld Z h a O n d v) (hd : decode bytes pc = .ok (.getfield i, 3)) (hq : pc + 3 = q)
    (K : ∀ (T' : State), Stand p l e R s m args below meth c T' locs cells slots → T'.heap = h → Go p e below F (T'.setTop (mkF m q Ls (v :: S)))) : Go p e below F (T.setTop (mkF m pc Ls (.ref a :: S))) := by
  subst hq
  obtain ⟨hx, hZ, hby, hml, hown, hnm, hret, hlk⟩ := C
  obtain ⟨T1, X1, e1, st⟩ := Jvm.RoadKit.getF X hx hZ hown w via eT F0 (g := mkF m pc Ls (.ref a :: S)) rfl rfl (hb hby hd)
  exact of st (K T1 X1 e1)
theorem putF (X : Stand p l e R s m args below meth c T locs cells slots) (C : Cx p s m meth c Z bytes maxL own mname ret) {i kk : Nat} {R0 O n d host Cn : String} {ty : FieldType} (w : (Jvm.Cond.fieldLink own i R0 n d).before a0 Z = true ∨ (Jvm.Cond.fieldLinkNest own i R0 n d host).before a0 Z = true) (via : Via Z R0 O n d) (eT : T.heap = h) {a : Addr} {v old : Value} (F0 : Fld Z h a O n d old) (E : Exa Z h a Cn) (L : (Jvm.Cond.lays Cn O n d).before a0 Z = true ∨ ((Jvm.Cond.laysFinal Cn O n d).before a0 Z = true ∧ own = O ∧ mname = "<init>")) (wi : (Jvm.Cond.instantiable Cn kk).before a0 Z = true) (hty : parseFieldDescriptor d = some ty) (hn : narrow ty v = v) (hf : fits ty v = true) (hd : decode bytes pc = .ok (.putfield i, 3)) (hq : pc + 3 = q)
    (K : ∀ (T' : State) (h' : Heap), Stand p l e R s m args below meth c T' (locs ++ [⟨a, Jvm.RoadKit.slotOf Z O n d⟩]) cells slots → T'.heap = h' → Wr h h' a (Jvm.RoadKit.slotOf Z O n d) v → Go p e below F (T'.setTop (mkF m q Ls S))) : Go p e below F (T.setTop (mkF m pc Ls (v :: .ref a :: S))) := by
  subst hq
  obtain ⟨hx, hZ, hby, hml, hown, hnm, hret, hlk⟩ := C
  obtain ⟨T1, h1, X1, e1, W1, st⟩ := Jvm.RoadKit.putF X hx hZ hown w via eT F0 E (L.imp id fun q => ⟨q.1, q.2.1, hnm.trans q.2.2⟩) wi hty hn hf (g := mkF m pc Ls (v :: .ref a :: S)) rfl rfl (hb hby hd)
  exact of st (K T1 h1 X1 e1 W1)
theorem getS (X : Stand p l e R s m args below meth c T locs cells slots) (C : Cx p s m meth c Z bytes maxL own mname ret) {i : Nat} {R0 O n d : String} (w : (Jvm.Cond.fieldLink own i R0 n d).before a0 Z = true) (via : Via Z R0 O n d) (eT : T.heap = h) {v : Value} (F0 : Sta Z h O n d v) (hd : decode bytes pc = .ok (.getstatic i, 3)) (hq : pc + 3 = q)
    (K : ∀ (T' : State), Stand p l e R s m args below meth c T' locs cells slots → T'.heap = h → Go p e below F (T'.setTop (mkF m q Ls (v :: S)))) : Go p e below F (T.setTop (mkF m pc Ls S)) := by
  subst hq
  obtain ⟨hx, hZ, hby, hml, hown, hnm, hret, hlk⟩ := C
  obtain ⟨T1, X1, e1, st⟩ := Jvm.RoadKit.getS X hx hZ hown (host := "") w via eT F0 (g := mkF m pc Ls S) rfl (hb hby hd)
  exact of st (K T1 X1 e1)
/-! arrays: Arv Z h a k ty n vs d -/
theorem inb {cl : Cell} {n j : Int32} (S : cl.slots.size = n.toNatClampNeg) (h1 : 0 ≤ j.toInt) (h2 : j.toInt < n.toInt) : ¬ (j < 0 ∨ cl.slots.size ≤ j.toNatClampNeg) := inb_of S ⟨by rw [Int32.lt_iff_toInt_lt]; have : (0 : Int32).toInt = 0 := rfl; omega, by rw [Int32.lt_iff_toInt_lt]; exact h2⟩
theorem iaload (X : Stand p l e R s m args below meth c T locs cells slots) (C : Cx p s m meth c Z bytes maxL own mname ret) (eT : T.heap = h) {a : Addr} {k : ClassId} {n j x : Int32} {vs : List Value} {d : Value} (V : Arv Z h a k .int n vs d) (h1 : 0 ≤ j.toInt) (h2 : j.toInt < n.toInt) (hv : vs.getD j.toNatClampNeg d = .int x) (hd : decode bytes pc = .ok (.iaload, 1)) (hq : pc + 1 = q) (K : Go p e below F (T.setTop (mkF m q Ls (.int x :: S)))) : Go p e below F (T.setTop (mkF m pc Ls (.int j :: .ref a :: S))) := by
  subst hq
  obtain ⟨cl, Ar, q1, S1, N1, H1, G1⟩ := V
  exact of (X.iaload C.1 (j := j) (v := .int x) (by rw [eT]; exact Ar.1) (State.isArrayOf_alike C.2.1.alike Ar.2.1) Ar.2.2 (inb S1 h1 h2) (Has.at H1 (inb S1 h1 h2) hv) (g := mkF m pc Ls (.int j :: .ref a :: S)) rfl rfl (hb C.2.2.1 hd)) K
theorem caload (X : Stand p l e R s m args below meth c T locs cells slots) (C : Cx p s m meth c Z bytes maxL own mname ret) (eT : T.heap = h) {a : Addr} {k : ClassId} {n j x : Int32} {vs : List Value} {d : Value} (V : Arv Z h a k .char n vs d) (h1 : 0 ≤ j.toInt) (h2 : j.toInt < n.toInt) (hv : vs.getD j.toNatClampNeg d = .int x) (hd : decode bytes pc = .ok (.caload, 1)) (hq : pc + 1 = q) (K : Go p e below F (T.setTop (mkF m q Ls (.int x :: S)))) : Go p e below F (T.setTop (mkF m pc Ls (.int j :: .ref a :: S))) := by
  subst hq
  obtain ⟨cl, Ar, q1, S1, N1, H1, G1⟩ := V
  exact of (X.caload C.1 (j := j) (v := .int x) (by rw [eT]; exact Ar.1) (State.isArrayOf_alike C.2.1.alike Ar.2.1) Ar.2.2 (inb S1 h1 h2) (Has.at H1 (inb S1 h1 h2) hv) (g := mkF m pc Ls (.int j :: .ref a :: S)) rfl rfl (hb C.2.2.1 hd)) K
theorem baload (X : Stand p l e R s m args below meth c T locs cells slots) (C : Cx p s m meth c Z bytes maxL own mname ret) (eT : T.heap = h) {a : Addr} {k : ClassId} {n j x : Int32} {vs : List Value} {d : Value} (V : Arv Z h a k .byte n vs d) (h1 : 0 ≤ j.toInt) (h2 : j.toInt < n.toInt) (hv : vs.getD j.toNatClampNeg d = .int x) (hd : decode bytes pc = .ok (.baload, 1)) (hq : pc + 1 = q) (K : Go p e below F (T.setTop (mkF m q Ls (.int x :: S)))) : Go p e below F (T.setTop (mkF m pc Ls (.int j :: .ref a :: S))) := by
  subst hq
  obtain ⟨cl, Ar, q1, S1, N1, H1, G1⟩ := V
  exact of (X.baloadBytes C.1 (j := j) (v := .int x) (by rw [eT]; exact Ar.1) (State.isArrayOf_alike C.2.1.alike Ar.2.1) Ar.2.2 (inb S1 h1 h2) (Has.at H1 (inb S1 h1 h2) hv) (g := mkF m pc Ls (.int j :: .ref a :: S)) rfl rfl (hb C.2.2.1 hd)) K
theorem aaload (X : Stand p l e R s m args below meth c T locs cells slots) (C : Cx p s m meth c Z bytes maxL own mname ret) (eT : T.heap = h) {a : Addr} {k : ClassId} {n j : Int32} {x : Value} {vs : List Value} {d : Value} {ty : FieldType} (hty : ty.isReference = true) (V : Arv Z h a k ty n vs d) (h1 : 0 ≤ j.toInt) (h2 : j.toInt < n.toInt) (hv : vs.getD j.toNatClampNeg d = x) (hd : decode bytes pc = .ok (.aaload, 1)) (hq : pc + 1 = q) (K : Go p e below F (T.setTop (mkF m q Ls (x :: S)))) : Go p e below F (T.setTop (mkF m pc Ls (.int j :: .ref a :: S))) := by
  subst hq
  obtain ⟨cl, Ar, q1, S1, N1, H1, G1⟩ := V
  exact of (X.aaload C.1 (j := j) (v := x) (by rw [eT]; exact Ar.1) (State.isArrayOf_alike C.2.1.alike Ar.2.1) hty Ar.2.2 (inb S1 h1 h2) (Has.at H1 (inb S1 h1 h2) hv) (g := mkF m pc Ls (.int j :: .ref a :: S)) rfl rfl (hb C.2.2.1 hd)) K
theorem aaloadC (X : Stand p l e R s m args below meth c T locs cells slots) (C : Cx p s m meth c Z bytes maxL own mname ret) (eT : T.heap = h) {a : Addr} {cl : Cell} {j : Int32} {x : Value} {ty : FieldType} (hty : ty.isReference = true) (Ar : Arr Z h a cl ty) (hin : ¬ (j < 0 ∨ cl.slots.size ≤ j.toNatClampNeg)) (hat : cl.slots[j.toNatClampNeg]? = some x) (hd : decode bytes pc = .ok (.aaload, 1)) (hq : pc + 1 = q) (K : Go p e below F (T.setTop (mkF m q Ls (x :: S)))) : Go p e below F (T.setTop (mkF m pc Ls (.int j :: .ref a :: S))) := by
  subst hq
  exact of (X.aaload C.1 (j := j) (v := x) (by rw [eT]; exact Ar.1) (State.isArrayOf_alike C.2.1.alike Ar.2.1) hty Ar.2.2 hin hat (g := mkF m pc Ls (.int j :: .ref a :: S)) rfl rfl (hb C.2.2.1 hd)) K
theorem arraylength (X : Stand p l e R s m args below meth c T locs cells slots) (C : Cx p s m meth c Z bytes maxL own mname ret) (eT : T.heap = h) {a : Addr} {k : ClassId} {n : Int32} {vs : List Value} {d : Value} {ty : FieldType} (V : Arv Z h a k ty n vs d) (hd : decode bytes pc = .ok (.arraylength, 1)) (hq : pc + 1 = q) (K : Go p e below F (T.setTop (mkF m q Ls (.int n :: S)))) : Go p e below F (T.setTop (mkF m pc Ls (.ref a :: S))) := by
  subst hq
  obtain ⟨cl, Ar, q1, S1, N1, H1, G1⟩ := V
  refine of (X.arraylength C.1 (by rw [eT]; exact Ar.1) (State.isArrayOf_alike C.2.1.alike Ar.2.1) (g := mkF m pc Ls (.ref a :: S)) rfl rfl (hb C.2.2.1 hd)) ?_
  rw [len_of S1 N1]
  exact K
theorem iastore (X : Stand p l e R s m args below meth c T locs cells slots) (C : Cx p s m meth c Z bytes maxL own mname ret) (eT : T.heap = h) {a : Addr} {k : ClassId} {n j x : Int32} {vs : List Value} {d : Value} (V : Arv Z h a k .int n vs d) (h1 : 0 ≤ j.toInt) (h2 : j.toInt < n.toInt) (hlen : j.toNatClampNeg < vs.length) (hd : decode bytes pc = .ok (.iastore, 1)) (hq : pc + 1 = q)
    (K : ∀ (T' : State) (h' : Heap), Stand p l e R s m args below meth c T' (locs ++ [⟨a, j.toNatClampNeg⟩]) cells slots → T'.heap = h' → Wr h h' a j.toNatClampNeg (.int x) → Arv Z h' a k .int n (vs.set j.toNatClampNeg (.int x)) d → Go p e below F (T'.setTop (mkF m q Ls S))) : Go p e below F (T.setTop (mkF m pc Ls (.int x :: .int j :: .ref a :: S))) := by
  subst hq
  obtain ⟨cl, Ar, q1, S1, N1, H1, G1⟩ := V
  obtain ⟨T1, h1', X1, e1, W1, st⟩ := stI X C.1 C.2.1 eT Ar (j := j) (inb S1 h1 h2) (g := mkF m pc Ls (.int x :: .int j :: .ref a :: S)) rfl rfl (hb C.2.2.1 hd)
  exact of st (K T1 h1' X1 e1 W1 (Arv.set Ar q1 S1 N1 H1 G1 rfl W1 _ rfl hlen))
theorem castore (X : Stand p l e R s m args below meth c T locs cells slots) (C : Cx p s m meth c Z bytes maxL own mname ret) (eT : T.heap = h) {a : Addr} {k : ClassId} {n j x : Int32} {vs : List Value} {d : Value} (V : Arv Z h a k .char n vs d) (h1 : 0 ≤ j.toInt) (h2 : j.toInt < n.toInt) (hlen : j.toNatClampNeg < vs.length) (hd : decode bytes pc = .ok (.castore, 1)) (hq : pc + 1 = q)
    (K : ∀ (T' : State) (h' : Heap), Stand p l e R s m args below meth c T' (locs ++ [⟨a, j.toNatClampNeg⟩]) cells slots → T'.heap = h' → Wr h h' a j.toNatClampNeg (.int (nar .char x)) → Arv Z h' a k .char n (vs.set j.toNatClampNeg (.int (nar .char x))) d → Go p e below F (T'.setTop (mkF m q Ls S))) : Go p e below F (T.setTop (mkF m pc Ls (.int x :: .int j :: .ref a :: S))) := by
  subst hq
  obtain ⟨cl, Ar, q1, S1, N1, H1, G1⟩ := V
  obtain ⟨T1, h1', X1, e1, W1, st⟩ := stC X C.1 C.2.1 eT Ar (j := j) (inb S1 h1 h2) (g := mkF m pc Ls (.int x :: .int j :: .ref a :: S)) rfl rfl (hb C.2.2.1 hd)
  exact of st (K T1 h1' X1 e1 W1 (Arv.set Ar q1 S1 N1 H1 G1 (fits_nar_char _) W1 _ rfl hlen))
theorem bastore (X : Stand p l e R s m args below meth c T locs cells slots) (C : Cx p s m meth c Z bytes maxL own mname ret) (eT : T.heap = h) {a : Addr} {k : ClassId} {n j x : Int32} {vs : List Value} {d : Value} (V : Arv Z h a k .byte n vs d) (h1 : 0 ≤ j.toInt) (h2 : j.toInt < n.toInt) (hlen : j.toNatClampNeg < vs.length) (hd : decode bytes pc = .ok (.bastore, 1)) (hq : pc + 1 = q)
    (K : ∀ (T' : State) (h' : Heap), Stand p l e R s m args below meth c T' (locs ++ [⟨a, j.toNatClampNeg⟩]) cells slots → T'.heap = h' → Wr h h' a j.toNatClampNeg (.int x.toInt8.toInt32) → Arv Z h' a k .byte n (vs.set j.toNatClampNeg (.int x.toInt8.toInt32)) d → Go p e below F (T'.setTop (mkF m q Ls S))) : Go p e below F (T.setTop (mkF m pc Ls (.int x :: .int j :: .ref a :: S))) := by
  subst hq
  obtain ⟨cl, Ar, q1, S1, N1, H1, G1⟩ := V
  obtain ⟨T1, h1', X1, e1, W1, st⟩ := stB X C.1 C.2.1 eT Ar (j := j) (inb S1 h1 h2) (g := mkF m pc Ls (.int x :: .int j :: .ref a :: S)) rfl rfl (hb C.2.2.1 hd)
  exact of st (K T1 h1' X1 e1 W1 (Arv.set Ar q1 S1 N1 H1 G1 (fits_nar_byte _) W1 _ rfl hlen))
theorem aastore (X : Stand p l e R s m args below meth c T locs cells slots) (C : Cx p s m meth c Z bytes maxL own mname ret) (eT : T.heap = h) {a : Addr} {k : ClassId} {n j : Int32} {x : Value} {vs : List Value} {d : Value} {ty : FieldType} (hty : ty.isReference = true) (hf : fits ty x = true) (V : Arv Z h a k ty n vs d) (hs : ∀ cl, Arr Z h a cl ty → cl.cls = k → Sto Z h a x) (h1 : 0 ≤ j.toInt) (h2 : j.toInt < n.toInt) (hlen : j.toNatClampNeg < vs.length) (hd : decode bytes pc = .ok (.aastore, 1)) (hq : pc + 1 = q)
    (K : ∀ (T' : State) (h' : Heap), Stand p l e R s m args below meth c T' (locs ++ [⟨a, j.toNatClampNeg⟩]) cells slots → T'.heap = h' → Wr h h' a j.toNatClampNeg x → Arv Z h' a k ty n (vs.set j.toNatClampNeg x) d → Go p e below F (T'.setTop (mkF m q Ls S))) : Go p e below F (T.setTop (mkF m pc Ls (x :: .int j :: .ref a :: S))) := by
  subst hq
  obtain ⟨cl, Ar, q1, S1, N1, H1, G1⟩ := V
  obtain ⟨T1, h1', X1, e1, W1, st⟩ := stR X C.1 C.2.1 eT Ar (j := j) (inb S1 h1 h2) hty (hs cl Ar q1) (g := mkF m pc Ls (x :: .int j :: .ref a :: S)) rfl rfl (hb C.2.2.1 hd)
  exact of st (K T1 h1' X1 e1 W1 (Arv.set Ar q1 S1 N1 H1 G1 hf W1 _ rfl hlen))
theorem newarray (X : Stand p l e R s m args below meth c T locs cells slots) (C : Cx p s m meth c Z bytes maxL own mname ret) {aty : ArrayType} (w : (Jvm.Cond.arrayClass (newarray.typeOf aty)).before a0 Z = true) (eT : T.heap = h) {n : Int32} (hn : 0 ≤ n.toInt) (cap : Nat) (hcap : n.toInt ≤ cap) (hb8 : cap * 8 ≤ 536870912) (hd : decode bytes pc = .ok (.newarray aty, 2)) (hc : cells + 1 ≤ R.cells) (hl : slots + cap ≤ R.slots) (hq : pc + 2 = q)
    (K : ∀ (T' : State) (h' : Heap) (b : Addr) (k : ClassId), Stand p l e R s m args below meth c T' locs (cells + 1) (slots + cap) → T'.heap = h' → b = h.size → Ext h h' → Arv Z h' b k (newarray.typeOf aty) n (List.replicate cap (defaultValue (newarray.typeOf aty))) (defaultValue (newarray.typeOf aty)) → Go p e below F (T'.setTop (mkF m q Ls (.ref b :: S)))) : Go p e below F (T.setTop (mkF m pc Ls (.int n :: S))) := by
  subst hq
  have hn' : ¬ n < 0 := by rw [Int32.lt_iff_toInt_lt]; have : (0 : Int32).toInt = 0 := rfl; omega
  obtain ⟨T1, h1, k1, X1, e1, E1, A1, st⟩ := newP X C.1 C.2.1 w eT (g := mkF m pc Ls (.int n :: S)) rfl (hb C.2.2.1 hd) rfl hn' (cap := cap) (by simp only [Int32.toNatClampNeg]; omega) hb8 hc hl
  exact of st (K T1 h1 _ k1 X1 e1 rfl E1 ((Arv.new A1 hn').pad (pad_rep [] _ cap)))
theorem anewarray (X : Stand p l e R s m args below meth c T locs cells slots) (C : Cx p s m meth c Z bytes maxL own mname ret) {i : Nat} {Cn : String} (w1 : (Jvm.Cond.classLink own i Cn).before a0 Z = true) (w2 : (Jvm.Cond.arrayOver (.object Cn)).before a0 Z = true) (eT : T.heap = h) {n : Int32} (hn : 0 ≤ n.toInt) (cap : Nat) (hcap : n.toInt ≤ cap) (hb8 : cap * 8 ≤ 536870912) (hd : decode bytes pc = .ok (.anewarray i, 3)) (hc : cells + 1 ≤ R.cells) (hl : slots + cap ≤ R.slots) (hq : pc + 3 = q)
    (K : ∀ (T' : State) (h' : Heap) (b : Addr) (k : ClassId), Stand p l e R s m args below meth c T' locs (cells + 1) (slots + cap) → T'.heap = h' → b = h.size → Ext h h' → Ovr Z k Cn → Arv Z h' b k (.object Cn) n (List.replicate cap .null) .null → Go p e below F (T'.setTop (mkF m q Ls (.ref b :: S)))) : Go p e below F (T.setTop (mkF m pc Ls (.int n :: S))) := by
  subst hq
  have hn' : ¬ n < 0 := by rw [Int32.lt_iff_toInt_lt]; have : (0 : Int32).toInt = 0 := rfl; omega
  obtain ⟨T1, h1, k1, X1, e1, E1, A1, O1, st⟩ := newR X C.1 C.2.1 C.2.2.2.2.1 w1 w2 eT (g := mkF m pc Ls (.int n :: S)) rfl (hb C.2.2.1 hd) rfl hn' (cap := cap) (by simp only [Int32.toNatClampNeg]; omega) hb8 hc hl
  exact of st (K T1 h1 _ k1 X1 e1 rfl E1 O1 ((Arv.new A1 hn').pad (pad_rep [] _ cap)))
theorem keepRefl (h : Heap) : Keep h h [] := Keep.refl h []
/-! kinds of objects -/
theorem nsRoot {O Kn : String} {n : Nat} (w : (Jvm.Cond.noSuperclass O).before a0 Z = true) (wi : (Jvm.Cond.instantiable Kn n).before a0 Z = true) (hn : O ≠ Kn) : NS Z O Kn := by
  obtain ⟨c, k, h1, h2, h3, -, -⟩ := Cond.noSuperclass_spec w
  obtain ⟨t, k2, g1, -⟩ := Cond.instantiable_spec wi
  have ne := ids_ne h1 g1 hn
  refine ⟨c, t, h1, g1, fun fuel => ?_⟩
  cases fuel with
  | zero => rfl
  | succ f => simp [Vm.isSubclassAux, ne, h2, h3]
theorem nsNo {Cn S Kn : String} {n : Nat} (w : (Jvm.Cond.superclass Cn S).before a0 Z = true) (wi : (Jvm.Cond.instantiable Kn n).before a0 Z = true) (nn : NS Z Cn Kn) (hn : Cn ≠ Kn) : ∃ c t, Z.vm.findClass Cn = some c ∧ Z.vm.findClass Kn = some t ∧ Z.vm.assignable c t = false := by
  obtain ⟨c, t, h0, g0, n3⟩ := nn
  obtain ⟨p, k, kp, h1, h2, h3, h4, h5, -, h7⟩ := Cond.superclass_spec h0 w
  obtain ⟨t', k', g1, g2, g5, g6, -⟩ := Cond.instantiable_spec wi
  cases g0.symm.trans g1
  have g7 : k'.isInterface = false := (Bool.or_eq_false_iff.mp g6).1
  have ne := ids_ne h0 g0 hn
  refine ⟨c, t, h0, g0, ?_⟩
  show Z.vm.assignableAux (255 + 1) c t = false
  simp [Vm.assignableAux, ne, h2, g2, h5, g5, g7, Vm.isSubclass, n3]
theorem cast (X : Stand p l e R s m args below meth c T locs cells slots) (C : Cx p s m meth c Z bytes maxL own mname ret) {i : Nat} {Kn : String} (w : (Jvm.Cond.classLink own i Kn).before a0 Z = true) (eT : T.heap = h) {a : Addr} (I : Ins Z h a Kn true) (hd : decode bytes pc = .ok (.checkcast i, 3)) (hq : pc + 3 = q)
    (K : ∀ (T' : State), Stand p l e R s m args below meth c T' locs cells slots → T'.heap = h → Go p e below F (T'.setTop (mkF m q Ls (.ref a :: S)))) : Go p e below F (T.setTop (mkF m pc Ls (.ref a :: S))) := by
  subst hq
  obtain ⟨T1, X1, e1, st⟩ := castY X C.1 C.2.1 C.2.2.2.2.1 w eT I (g := mkF m pc Ls (.ref a :: S)) rfl rfl (hb C.2.2.1 hd)
  exact of st (K T1 X1 e1)
theorem inst1 (X : Stand p l e R s m args below meth c T locs cells slots) (C : Cx p s m meth c Z bytes maxL own mname ret) {i : Nat} {Kn : String} (w : (Jvm.Cond.classLink own i Kn).before a0 Z = true) (eT : T.heap = h) {a : Addr} (I : Ins Z h a Kn true) (hd : decode bytes pc = .ok (.instanceof i, 3)) (hq : pc + 3 = q)
    (K : ∀ (T' : State), Stand p l e R s m args below meth c T' locs cells slots → T'.heap = h → Go p e below F (T'.setTop (mkF m q Ls (.int 1 :: S)))) : Go p e below F (T.setTop (mkF m pc Ls (.ref a :: S))) := by
  subst hq
  obtain ⟨T1, X1, e1, st⟩ := instY X C.1 C.2.1 C.2.2.2.2.1 w eT I (g := mkF m pc Ls (.ref a :: S)) rfl rfl (hb C.2.2.1 hd)
  exact of st (K T1 X1 e1)
theorem inst0 (X : Stand p l e R s m args below meth c T locs cells slots) (C : Cx p s m meth c Z bytes maxL own mname ret) {i : Nat} {Kn Cn : String} (w : (Jvm.Cond.classLink own i Kn).before a0 Z = true) (eT : T.heap = h) {a : Addr} (E : Exa Z h a Cn) (N : ∃ c t, Z.vm.findClass Cn = some c ∧ Z.vm.findClass Kn = some t ∧ Z.vm.assignable c t = false) (hd : decode bytes pc = .ok (.instanceof i, 3)) (hq : pc + 3 = q)
    (K : ∀ (T' : State), Stand p l e R s m args below meth c T' locs cells slots → T'.heap = h → Go p e below F (T'.setTop (mkF m q Ls (.int 0 :: S)))) : Go p e below F (T.setTop (mkF m pc Ls (.ref a :: S))) := by
  subst hq
  obtain ⟨T1, X1, e1, st⟩ := instNo X C.1 C.2.1 C.2.2.2.2.1 w eT E N (g := mkF m pc Ls (.ref a :: S)) rfl rfl (hb C.2.2.1 hd)
  exact of st (K T1 X1 e1)
theorem instNull (X : Stand p l e R s m args below meth c T locs cells slots) (C : Cx p s m meth c Z bytes maxL own mname ret) {i : Nat} (hd : decode bytes pc = .ok (.instanceof i, 3)) (hq : pc + 3 = q) (K : Go p e below F (T.setTop (mkF m q Ls (.int 0 :: S)))) : Go p e below F (T.setTop (mkF m pc Ls (.null :: S))) := by
  subst hq; exact of (X.instanceofNull C.1 (g := mkF m pc Ls (.null :: S)) rfl rfl (hb C.2.2.1 hd)) K
theorem castNull (X : Stand p l e R s m args below meth c T locs cells slots) (C : Cx p s m meth c Z bytes maxL own mname ret) {i : Nat} (hd : decode bytes pc = .ok (.checkcast i, 3)) (hq : pc + 3 = q) (K : Go p e below F (T.setTop (mkF m q Ls (.null :: S)))) : Go p e below F (T.setTop (mkF m pc Ls (.null :: S))) := by
  subst hq; exact of (X.checkcastNull C.1 (g := mkF m pc Ls (.null :: S)) rfl rfl (hb C.2.2.1 hd)) K
theorem acmp (X : Stand p l e R s m args below meth c T locs cells slots) (C : Cx p s m meth c Z bytes maxL own mname ret) {cd : ACond} {o : Int} {x y : Value} (h1 : x.isRef = true) (h2 : y.isRef = true) {same : Bool} (hs : decide (x = y) = same) (hd : decode bytes pc = .ok (.if_acmp cd o, 3)) (ho : 0 ≤ (pc : Int) + o) (hq : q = if acV cd same = true then ((pc : Int) + o).toNat else pc + 3) (K : Go p e below F (T.setTop (mkF m q Ls S))) : Go p e below F (T.setTop (mkF m pc Ls (y :: x :: S))) :=
  of (fun t k => Jvm.RoadKit.acmp (g := mkF m pc Ls (y :: x :: S)) X C.1 rfl h1 h2 rfl (hb C.2.2.1 hd) rfl hs ho hq k) K
end
end W
end Jvm.Pilot.@@N@@
namespace Jvm.Pilot.@@N@@
open Jvm Jvm.ClassFile Sem Op Lib Jvm.Free Jvm.Stand Jvm.LawKit Jvm.RoadKit Bundle Jvm.Pilot.@@N@@.Jvm.D
def own_sp (c : Int32) : Int32 := if c = 32 ∨ c = 9 ∨ c = 10 ∨ c = 13 then 1 else 0
theorem own_tab (c : Int32) (h1 : 0 ≤ c.toInt) (h2 : c.toInt ≤ (32 : Int32).toInt) : lcmpW ((((4294977024 : Int64).toUInt64 >>> (c &&& 0x3f).toInt64.toUInt64).toInt64) &&& (1 : Int64)) (0 : Int64) = (if c = 32 ∨ c = 9 ∨ c = 10 ∨ c = 13 then 1 else 0 : Int32) :=
  W.small (P := fun c => lcmpW ((((4294977024 : Int64).toUInt64 >>> (c &&& 0x3f).toInt64.toUInt64).toInt64) &&& (1 : Int64)) (0 : Int64) = (if c = 32 ∨ c = 9 ∨ c = 10 ∨ c = 13 then 1 else 0 : Int32)) 32 (by decide +kernel) c h1 h2
theorem own_hi (c : Int32) (h : (32 : Int32).toInt < c.toInt) : 0 = own_sp c := by
  unfold own_sp
  rw [if_neg]
  rintro (rfl | rfl | rfl | rfl) <;> revert h <;> decide
theorem own_lo0 (c : Int32) (h1 : 0 ≤ c.toInt) (h2 : c.toInt ≤ (32 : Int32).toInt) (h3 : lcmpW ((((4294977024 : Int64).toUInt64 >>> (c &&& 0x3f).toInt64.toUInt64).toInt64) &&& (1 : Int64)) (0 : Int64) = 0) : 0 = own_sp c := by
  rw [own_tab c h1 h2] at h3; exact h3.symm
theorem own_lo1 (c : Int32) (h1 : 0 ≤ c.toInt) (h2 : c.toInt ≤ (32 : Int32).toInt) (h3 : lcmpW ((((4294977024 : Int64).toUInt64 >>> (c &&& 0x3f).toInt64.toUInt64).toInt64) &&& (1 : Int64)) (0 : Int64) ≠ 0) : 1 = own_sp c := by
  rw [own_tab c h1 h2] at h3; unfold own_sp
  by_cases q : c = 32 ∨ c = 9 ∨ c = 10 ∨ c = 13
  · rw [if_pos q]
  · rw [if_neg q] at h3; exact absurd rfl h3
theorem d1_0 : decode prog_17_method_21_code 0 = .ok (.iload_n 0, 1) := by decide +kernel
theorem d1_1 : decode prog_17_method_21_code 1 = .ok (.bipush 32, 2) := by decide +kernel
theorem d1_3 : decode prog_17_method_21_code 3 = .ok (.if_icmp .gt 19, 3) := by decide +kernel
theorem d1_22 : decode prog_17_method_21_code 22 = .ok (.iconst 0, 1) := by decide +kernel
theorem d1_23 : decode prog_17_method_21_code 23 = .ok (.ireturn, 1) := by decide +kernel
theorem d1_6 : decode prog_17_method_21_code 6 = .ok (.ldc2_w 169, 3) := by decide +kernel
theorem d1_9 : decode prog_17_method_21_code 9 = .ok (.iload_n 0, 1) := by decide +kernel
theorem d1_10 : decode prog_17_method_21_code 10 = .ok (.lushr, 1) := by decide +kernel
theorem d1_11 : decode prog_17_method_21_code 11 = .ok (.lconst 1, 1) := by decide +kernel
theorem d1_12 : decode prog_17_method_21_code 12 = .ok (.land, 1) := by decide +kernel
theorem d1_13 : decode prog_17_method_21_code 13 = .ok (.lconst 0, 1) := by decide +kernel
theorem d1_14 : decode prog_17_method_21_code 14 = .ok (.lcmp, 1) := by decide +kernel
theorem d1_15 : decode prog_17_method_21_code 15 = .ok (.ifCond .eq 7, 3) := by decide +kernel
theorem d1_18 : decode prog_17_method_21_code 18 = .ok (.iconst 1, 1) := by decide +kernel
theorem d1_19 : decode prog_17_method_21_code 19 = .ok (.goto 4, 3) := by decide +kernel
theorem pn_com_example_fedlint_fedlint_Element : plainName "com/example/fedlint/fedlint/Element" = true := by first | (simp [plainName, overriddenIn]; done) | decide +kernel
def Q1 (Z : State) (p0 : Int32) (h0 : Heap) (n0 : Nat) (v : Option Value) (h : Heap) (L : List Loc) : Prop := v = some (.int (own_sp p0)) ∧ Fr n0 L ∧ h = h0
set_option maxRecDepth 65536 in
set_option maxHeartbeats 40000000 in
theorem rm1 (l : Launch) (Z : State) (a0 : Array Value) (hw : ∀ d ∈ tables_1, d.before a0 Z = true) (ws : List Jvm.Cond) (p0 : Int32) (h0 : Heap) (n0 : Nat) (hp : 0 ≤ p0.toInt) :
    MetFree l (⟨"com/example/fedlint/fedlint/Element", "isXmlSpace", "(C)Z"⟩ : MethodName) (head1 (Jvm.Cond.code (⟨"com/example/fedlint/fedlint/Element", "isXmlSpace", "(C)Z"⟩ : MethodName) prog_17_method_21_code 1 (some .boolean) :: ws) ({ frames := 0, cells := 0, slots := 0, locals := 0 } : Room)) (fun a U => a = #[(.int p0)] ∧ Z.Warmed39 U.vm ∧ U.heap = h0) (fun _ _ _ _ _ => True) (fun _ U o U' => ∃ v L, o = .returned v ∧ Q1 Z p0 h0 n0 v U'.heap L ∧ FrameEnd U o U' L ({ frames := 0, cells := 0, slots := 0, locals := 0 } : Room).cells ({ frames := 0, cells := 0, slots := 0, locals := 0 } : Room).slots) := by
  refine W.bodyOf (y := (⟨"com/example/fedlint/fedlint/Element", "isXmlSpace", "(C)Z"⟩ : MethodName)) (as := #[(.int p0)]) (maxL := 1) (Q := Q1 Z p0 h0 n0) (Ls := #[.val (.int p0)]) (plainFor_of_name pn_com_example_fedlint_fedlint_Element) (fun m => by first | rfl | (simp [entryFrame, mkF, argsToLocals, Value.category]; done)) ?_
  intro p e s m below meth c T0 C X0 e0
  have N0 := Fr.nil n0
  refine W.iloadN (q := 1) X0 C d1_0 rfl rfl ?_
  refine W.bipush (q := 3) (v := 32) X0 C d1_1 rfl rfl ?_
  refine W.icmp (q := 22) (q' := 6) X0 C d1_3 (by decide) (by decide) rfl (fun hc1 => ?_) (fun hc1 => ?_)
  · replace hc1 : (32 : Int32).toInt < p0.toInt := hc1
    refine W.iconst (q := 23) (v := 0) X0 C d1_22 rfl rfl ?_
    exact W.retN X0 C (by simp) e0 d1_23 rfl (by decide) (by decide) ⟨congrArg (fun z => some (Value.int z)) (own_hi p0 hc1), N0, rfl⟩
  · replace hc1 : p0.toInt ≤ (32 : Int32).toInt := hc1
    refine W.ldcL (q := 9) X0 C (W.ww hw 4 rfl) d1_6 rfl ?_
    refine W.iloadN (q := 10) X0 C d1_9 rfl rfl ?_
    refine W.lushr (q := 11) X0 C d1_10 rfl ?_
    refine W.lconst1 (q := 12) X0 C d1_11 rfl ?_
    refine W.land (q := 13) X0 C d1_12 rfl ?_
    refine W.lconst0 (q := 14) X0 C d1_13 rfl ?_
    refine W.lcmp (q := 15) X0 C d1_14 rfl ?_
    refine W.if_ (q := 22) (q' := 18) X0 C d1_15 (by decide) (by decide) rfl (fun hc2 => ?_) (fun hc2 => ?_)
    · replace hc2 : (lcmpW ((((4294977024 : Int64).toUInt64 >>> (p0 &&& 0x3f).toInt64.toUInt64).toInt64) &&& (1 : Int64)) (0 : Int64)) = 0 := hc2
      refine W.iconst (q := 23) (v := 0) X0 C d1_22 rfl rfl ?_
      exact W.retN X0 C (by simp) e0 d1_23 rfl (by decide) (by decide) ⟨congrArg (fun z => some (Value.int z)) (own_lo0 p0 hp hc1 hc2), N0, rfl⟩
    · replace hc2 : (lcmpW ((((4294977024 : Int64).toUInt64 >>> (p0 &&& 0x3f).toInt64.toUInt64).toInt64) &&& (1 : Int64)) (0 : Int64)) ≠ 0 := hc2
      refine W.iconst (q := 19) (v := 1) X0 C d1_18 rfl rfl ?_
      refine W.goto (q := 23) X0 C d1_19 (by decide) (by decide) ?_
      exact W.retN X0 C (by simp) e0 d1_23 rfl (by decide) (by decide) ⟨congrArg (fun z => some (Value.int z)) (own_lo1 p0 hp hc1 hc2), N0, rfl⟩
theorem pd__28C_29Z : parseMethodDescriptor "(C)Z" = some ⟨[.char], some .boolean⟩ := by decide +kernel
theorem pn_com_example_fedlint_fedlint_ElementIsXmlSpacePinLaw : plainName "com/example/fedlint/fedlint/ElementIsXmlSpacePinLaw" = true := by first | (simp [plainName, overriddenIn]; done) | decide +kernel
def Q0 (Z : State) (p0 : Int32) (p1 : Int32) (h0 : Heap) (n0 : Nat) (v : Option Value) (h : Heap) (L : List Loc) : Prop := v = some (.int 1) ∧ Fr n0 L
set_option maxRecDepth 65536 in
set_option maxHeartbeats 40000000 in
theorem rm0 (l : Launch) (Z : State) (a0 : Array Value) (hw : ∀ d ∈ tables_1, d.before a0 Z = true) (ws : List Jvm.Cond) (p0 : Int32) (p1 : Int32) (h0 : Heap) (n0 : Nat) :
    MetFree l x (head1 (Jvm.Cond.code x code maxLocals ret :: ws) room_1) (fun a U => a = #[(.int p0), (.int p1)] ∧ Z.Warmed39 U.vm ∧ U.heap = h0) (fun _ _ _ _ _ => True) (fun _ U o U' => ∃ v L, o = .returned v ∧ Q0 Z p0 p1 h0 n0 v U'.heap L ∧ FrameEnd U o U' L room_1.cells room_1.slots) := by
  refine W.bodyOf (y := x) (as := #[(.int p0), (.int p1)]) (maxL := maxLocals) (Q := Q0 Z p0 p1 h0 n0) (Ls := #[.val (.int p0), .val (.int p1), .unset, .unset]) (plainFor_of_name pn_com_example_fedlint_fedlint_ElementIsXmlSpacePinLaw) (fun m => by first | rfl | (simp [entryFrame, mkF, argsToLocals, Value.category, maxLocals]; done)) ?_
  intro p e s m below meth c T0 C X0 e0
  replace C : W.Cx p s m meth c Z code 4 "com/example/fedlint/fedlint/ElementIsXmlSpacePinLaw" "law" (some .boolean) := C
  have N0 := Fr.nil n0
  refine W.iloadN (q := 1) X0 C at_0 rfl rfl ?_
  refine W.iconst (q := 2) (v := 1) X0 C at_1 rfl rfl ?_
  refine W.iand (q := 3) X0 C at_2 rfl ?_
  refine W.if_ (q := 14) (q' := 6) X0 C at_3 (by decide) (by decide) rfl (fun hc3 => ?_) (fun hc3 => ?_)
  · replace hc3 : (p1 &&& (1 : Int32)) = 0 := hc3
    refine W.iloadN (q := 15) X0 C at_14 rfl rfl ?_
    refine W.i2c (q := 16) X0 C at_15 rfl ?_
    generalize hv4 : (p0.toUInt32.toUInt16.toUInt32.toInt32) = v4
    refine W.istoreN (q := 17) (L' := #[.val (.int p0), .val (.int p1), .val (.int v4), .unset]) X0 C at_16 rfl rfl ?_
    refine W.iloadN (q := 18) X0 C at_17 rfl rfl ?_
    refine W.bipush (q := 20) (v := 32) X0 C at_18 rfl rfl ?_
    refine W.icmp (q := 41) (q' := 23) X0 C at_20 (by decide) (by decide) rfl (fun hc5 => ?_) (fun hc5 => ?_)
    · replace hc5 : v4 = (32 : Int32) := hc5
      refine W.iconst (q := 42) (v := 1) X0 C at_41 rfl rfl ?_
      refine W.goto (q := 46) X0 C at_42 (by decide) (by decide) ?_
      refine W.istoreN (q := 47) (L' := #[.val (.int p0), .val (.int p1), .val (.int v4), .val (.int (1 : Int32))]) X0 C at_46 rfl rfl ?_
      refine W.iloadN (q := 48) X0 C at_47 rfl rfl ?_
      refine W.callS (q := 51) X0 C (W.ww hw 0 rfl) (W.ww hw 1 rfl) (W.ww hw 2 rfl) (W.ww hw 3 rfl) (by decide) (rm1 l Z a0 hw [] v4 h0 n0 (hv4 ▸ (c_i2c _).2.1)) e0 at_48 [(.int v4)] [] rfl rfl pd__28C_29Z rfl rfl (by decide) (by decide) (by decide) (by decide) rfl (fun T6 w6 L6 X6 hQ6 => ?_)
      obtain ⟨rfl, NL6, e6⟩ := hQ6
      have N6 := Fr.app N0 NL6
      show W.Go p e below _ (T6.setTop (mkF m 51 #[.val (.int p0), .val (.int p1), .val (.int v4), .val (.int (1 : Int32))] [(.int (own_sp v4))]))
      refine W.iloadN (q := 52) X6 C at_51 rfl rfl ?_
      refine W.icmpF (q := 55) X6 C at_52 rfl (show (own_sp v4) = (1 : Int32) by simp [own_sp, hc5]) ?_
      refine W.iconst (q := 56) (v := 1) X6 C at_55 rfl rfl ?_
      refine W.goto (q := 60) X6 C at_56 (by decide) (by decide) ?_
      exact W.retN X6 C (by simp) e6 at_60 rfl (by decide) (by decide) ⟨rfl, N6⟩
    · replace hc5 : v4 ≠ (32 : Int32) := hc5
      refine W.iloadN (q := 24) X0 C at_23 rfl rfl ?_
      refine W.bipush (q := 26) (v := 9) X0 C at_24 rfl rfl ?_
      refine W.icmp (q := 41) (q' := 29) X0 C at_26 (by decide) (by decide) rfl (fun hc7 => ?_) (fun hc7 => ?_)
      · replace hc7 : v4 = (9 : Int32) := hc7
        refine W.iconst (q := 42) (v := 1) X0 C at_41 rfl rfl ?_
        refine W.goto (q := 46) X0 C at_42 (by decide) (by decide) ?_
        refine W.istoreN (q := 47) (L' := #[.val (.int p0), .val (.int p1), .val (.int v4), .val (.int (1 : Int32))]) X0 C at_46 rfl rfl ?_
        refine W.iloadN (q := 48) X0 C at_47 rfl rfl ?_
        refine W.callS (q := 51) X0 C (W.ww hw 0 rfl) (W.ww hw 1 rfl) (W.ww hw 2 rfl) (W.ww hw 3 rfl) (by decide) (rm1 l Z a0 hw [] v4 h0 n0 (hv4 ▸ (c_i2c _).2.1)) e0 at_48 [(.int v4)] [] rfl rfl pd__28C_29Z rfl rfl (by decide) (by decide) (by decide) (by decide) rfl (fun T8 w8 L8 X8 hQ8 => ?_)
        obtain ⟨rfl, NL8, e8⟩ := hQ8
        have N8 := Fr.app N0 NL8
        show W.Go p e below _ (T8.setTop (mkF m 51 #[.val (.int p0), .val (.int p1), .val (.int v4), .val (.int (1 : Int32))] [(.int (own_sp v4))]))
        refine W.iloadN (q := 52) X8 C at_51 rfl rfl ?_
        refine W.icmpF (q := 55) X8 C at_52 rfl (show (own_sp v4) = (1 : Int32) by simp [own_sp, hc5, hc7]) ?_
        refine W.iconst (q := 56) (v := 1) X8 C at_55 rfl rfl ?_
        refine W.goto (q := 60) X8 C at_56 (by decide) (by decide) ?_
        exact W.retN X8 C (by simp) e8 at_60 rfl (by decide) (by decide) ⟨rfl, N8⟩
      · replace hc7 : v4 ≠ (9 : Int32) := hc7
        refine W.iloadN (q := 30) X0 C at_29 rfl rfl ?_
        refine W.bipush (q := 32) (v := 10) X0 C at_30 rfl rfl ?_
        refine W.icmp (q := 41) (q' := 35) X0 C at_32 (by decide) (by decide) rfl (fun hc9 => ?_) (fun hc9 => ?_)
        · replace hc9 : v4 = (10 : Int32) := hc9
          refine W.iconst (q := 42) (v := 1) X0 C at_41 rfl rfl ?_
          refine W.goto (q := 46) X0 C at_42 (by decide) (by decide) ?_
          refine W.istoreN (q := 47) (L' := #[.val (.int p0), .val (.int p1), .val (.int v4), .val (.int (1 : Int32))]) X0 C at_46 rfl rfl ?_
          refine W.iloadN (q := 48) X0 C at_47 rfl rfl ?_
          refine W.callS (q := 51) X0 C (W.ww hw 0 rfl) (W.ww hw 1 rfl) (W.ww hw 2 rfl) (W.ww hw 3 rfl) (by decide) (rm1 l Z a0 hw [] v4 h0 n0 (hv4 ▸ (c_i2c _).2.1)) e0 at_48 [(.int v4)] [] rfl rfl pd__28C_29Z rfl rfl (by decide) (by decide) (by decide) (by decide) rfl (fun T10 w10 L10 X10 hQ10 => ?_)
          obtain ⟨rfl, NL10, e10⟩ := hQ10
          have N10 := Fr.app N0 NL10
          show W.Go p e below _ (T10.setTop (mkF m 51 #[.val (.int p0), .val (.int p1), .val (.int v4), .val (.int (1 : Int32))] [(.int (own_sp v4))]))
          refine W.iloadN (q := 52) X10 C at_51 rfl rfl ?_
          refine W.icmpF (q := 55) X10 C at_52 rfl (show (own_sp v4) = (1 : Int32) by simp [own_sp, hc5, hc7, hc9]) ?_
          refine W.iconst (q := 56) (v := 1) X10 C at_55 rfl rfl ?_
          refine W.goto (q := 60) X10 C at_56 (by decide) (by decide) ?_
          exact W.retN X10 C (by simp) e10 at_60 rfl (by decide) (by decide) ⟨rfl, N10⟩
        · replace hc9 : v4 ≠ (10 : Int32) := hc9
          refine W.iloadN (q := 36) X0 C at_35 rfl rfl ?_
          refine W.bipush (q := 38) (v := 13) X0 C at_36 rfl rfl ?_
          refine W.icmp (q := 45) (q' := 41) X0 C at_38 (by decide) (by decide) rfl (fun hc11 => ?_) (fun hc11 => ?_)
          · replace hc11 : v4 ≠ (13 : Int32) := hc11
            refine W.iconst (q := 46) (v := 0) X0 C at_45 rfl rfl ?_
            refine W.istoreN (q := 47) (L' := #[.val (.int p0), .val (.int p1), .val (.int v4), .val (.int (0 : Int32))]) X0 C at_46 rfl rfl ?_
            refine W.iloadN (q := 48) X0 C at_47 rfl rfl ?_
            refine W.callS (q := 51) X0 C (W.ww hw 0 rfl) (W.ww hw 1 rfl) (W.ww hw 2 rfl) (W.ww hw 3 rfl) (by decide) (rm1 l Z a0 hw [] v4 h0 n0 (hv4 ▸ (c_i2c _).2.1)) e0 at_48 [(.int v4)] [] rfl rfl pd__28C_29Z rfl rfl (by decide) (by decide) (by decide) (by decide) rfl (fun T12 w12 L12 X12 hQ12 => ?_)
            obtain ⟨rfl, NL12, e12⟩ := hQ12
            have N12 := Fr.app N0 NL12
            show W.Go p e below _ (T12.setTop (mkF m 51 #[.val (.int p0), .val (.int p1), .val (.int v4), .val (.int (0 : Int32))] [(.int (own_sp v4))]))
            refine W.iloadN (q := 52) X12 C at_51 rfl rfl ?_
            refine W.icmpF (q := 55) X12 C at_52 rfl (show (own_sp v4) = (0 : Int32) by simp [own_sp, hc5, hc7, hc9, hc11]) ?_
            refine W.iconst (q := 56) (v := 1) X12 C at_55 rfl rfl ?_
            refine W.goto (q := 60) X12 C at_56 (by decide) (by decide) ?_
            exact W.retN X12 C (by simp) e12 at_60 rfl (by decide) (by decide) ⟨rfl, N12⟩
          · replace hc11 : v4 = (13 : Int32) := hc11
            refine W.iconst (q := 42) (v := 1) X0 C at_41 rfl rfl ?_
            refine W.goto (q := 46) X0 C at_42 (by decide) (by decide) ?_
            refine W.istoreN (q := 47) (L' := #[.val (.int p0), .val (.int p1), .val (.int v4), .val (.int (1 : Int32))]) X0 C at_46 rfl rfl ?_
            refine W.iloadN (q := 48) X0 C at_47 rfl rfl ?_
            refine W.callS (q := 51) X0 C (W.ww hw 0 rfl) (W.ww hw 1 rfl) (W.ww hw 2 rfl) (W.ww hw 3 rfl) (by decide) (rm1 l Z a0 hw [] v4 h0 n0 (hv4 ▸ (c_i2c _).2.1)) e0 at_48 [(.int v4)] [] rfl rfl pd__28C_29Z rfl rfl (by decide) (by decide) (by decide) (by decide) rfl (fun T13 w13 L13 X13 hQ13 => ?_)
            obtain ⟨rfl, NL13, e13⟩ := hQ13
            have N13 := Fr.app N0 NL13
            show W.Go p e below _ (T13.setTop (mkF m 51 #[.val (.int p0), .val (.int p1), .val (.int v4), .val (.int (1 : Int32))] [(.int (own_sp v4))]))
            refine W.iloadN (q := 52) X13 C at_51 rfl rfl ?_
            refine W.icmpF (q := 55) X13 C at_52 rfl (show (own_sp v4) = (1 : Int32) by simp [own_sp, hc5, hc7, hc9, hc11]) ?_
            refine W.iconst (q := 56) (v := 1) X13 C at_55 rfl rfl ?_
            refine W.goto (q := 60) X13 C at_56 (by decide) (by decide) ?_
            exact W.retN X13 C (by simp) e13 at_60 rfl (by decide) (by decide) ⟨rfl, N13⟩
  · replace hc3 : (p1 &&& (1 : Int32)) ≠ 0 := hc3
    refine W.iloadN (q := 7) X0 C at_6 rfl rfl ?_
    refine W.bipush (q := 9) (v := 127) X0 C at_7 rfl rfl ?_
    refine W.iand (q := 10) X0 C at_9 rfl ?_
    refine W.i2c (q := 11) X0 C at_10 rfl ?_
    refine W.goto (q := 16) X0 C at_11 (by decide) (by decide) ?_
    generalize hv14 : ((p0 &&& (127 : Int32)).toUInt32.toUInt16.toUInt32.toInt32) = v14
    refine W.istoreN (q := 17) (L' := #[.val (.int p0), .val (.int p1), .val (.int v14), .unset]) X0 C at_16 rfl rfl ?_
    refine W.iloadN (q := 18) X0 C at_17 rfl rfl ?_
    refine W.bipush (q := 20) (v := 32) X0 C at_18 rfl rfl ?_
    refine W.icmp (q := 41) (q' := 23) X0 C at_20 (by decide) (by decide) rfl (fun hc15 => ?_) (fun hc15 => ?_)
    · replace hc15 : v14 = (32 : Int32) := hc15
      refine W.iconst (q := 42) (v := 1) X0 C at_41 rfl rfl ?_
      refine W.goto (q := 46) X0 C at_42 (by decide) (by decide) ?_
      refine W.istoreN (q := 47) (L' := #[.val (.int p0), .val (.int p1), .val (.int v14), .val (.int (1 : Int32))]) X0 C at_46 rfl rfl ?_
      refine W.iloadN (q := 48) X0 C at_47 rfl rfl ?_
      refine W.callS (q := 51) X0 C (W.ww hw 0 rfl) (W.ww hw 1 rfl) (W.ww hw 2 rfl) (W.ww hw 3 rfl) (by decide) (rm1 l Z a0 hw [] v14 h0 n0 (hv14 ▸ (c_i2c _).2.1)) e0 at_48 [(.int v14)] [] rfl rfl pd__28C_29Z rfl rfl (by decide) (by decide) (by decide) (by decide) rfl (fun T16 w16 L16 X16 hQ16 => ?_)
      obtain ⟨rfl, NL16, e16⟩ := hQ16
      have N16 := Fr.app N0 NL16
      show W.Go p e below _ (T16.setTop (mkF m 51 #[.val (.int p0), .val (.int p1), .val (.int v14), .val (.int (1 : Int32))] [(.int (own_sp v14))]))
      refine W.iloadN (q := 52) X16 C at_51 rfl rfl ?_
      refine W.icmpF (q := 55) X16 C at_52 rfl (show (own_sp v14) = (1 : Int32) by simp [own_sp, hc15]) ?_
      refine W.iconst (q := 56) (v := 1) X16 C at_55 rfl rfl ?_
      refine W.goto (q := 60) X16 C at_56 (by decide) (by decide) ?_
      exact W.retN X16 C (by simp) e16 at_60 rfl (by decide) (by decide) ⟨rfl, N16⟩
    · replace hc15 : v14 ≠ (32 : Int32) := hc15
      refine W.iloadN (q := 24) X0 C at_23 rfl rfl ?_
      refine W.bipush (q := 26) (v := 9) X0 C at_24 rfl rfl ?_
      refine W.icmp (q := 41) (q' := 29) X0 C at_26 (by decide) (by decide) rfl (fun hc17 => ?_) (fun hc17 => ?_)
      · replace hc17 : v14 = (9 : Int32) := hc17
        refine W.iconst (q := 42) (v := 1) X0 C at_41 rfl rfl ?_
        refine W.goto (q := 46) X0 C at_42 (by decide) (by decide) ?_
        refine W.istoreN (q := 47) (L' := #[.val (.int p0), .val (.int p1), .val (.int v14), .val (.int (1 : Int32))]) X0 C at_46 rfl rfl ?_
        refine W.iloadN (q := 48) X0 C at_47 rfl rfl ?_
        refine W.callS (q := 51) X0 C (W.ww hw 0 rfl) (W.ww hw 1 rfl) (W.ww hw 2 rfl) (W.ww hw 3 rfl) (by decide) (rm1 l Z a0 hw [] v14 h0 n0 (hv14 ▸ (c_i2c _).2.1)) e0 at_48 [(.int v14)] [] rfl rfl pd__28C_29Z rfl rfl (by decide) (by decide) (by decide) (by decide) rfl (fun T18 w18 L18 X18 hQ18 => ?_)
        obtain ⟨rfl, NL18, e18⟩ := hQ18
        have N18 := Fr.app N0 NL18
        show W.Go p e below _ (T18.setTop (mkF m 51 #[.val (.int p0), .val (.int p1), .val (.int v14), .val (.int (1 : Int32))] [(.int (own_sp v14))]))
        refine W.iloadN (q := 52) X18 C at_51 rfl rfl ?_
        refine W.icmpF (q := 55) X18 C at_52 rfl (show (own_sp v14) = (1 : Int32) by simp [own_sp, hc15, hc17]) ?_
        refine W.iconst (q := 56) (v := 1) X18 C at_55 rfl rfl ?_
        refine W.goto (q := 60) X18 C at_56 (by decide) (by decide) ?_
        exact W.retN X18 C (by simp) e18 at_60 rfl (by decide) (by decide) ⟨rfl, N18⟩
      · replace hc17 : v14 ≠ (9 : Int32) := hc17
        refine W.iloadN (q := 30) X0 C at_29 rfl rfl ?_
        refine W.bipush (q := 32) (v := 10) X0 C at_30 rfl rfl ?_
        refine W.icmp (q := 41) (q' := 35) X0 C at_32 (by decide) (by decide) rfl (fun hc19 => ?_) (fun hc19 => ?_)
        · replace hc19 : v14 = (10 : Int32) := hc19
          refine W.iconst (q := 42) (v := 1) X0 C at_41 rfl rfl ?_
          refine W.goto (q := 46) X0 C at_42 (by decide) (by decide) ?_
          refine W.istoreN (q := 47) (L' := #[.val (.int p0), .val (.int p1), .val (.int v14), .val (.int (1 : Int32))]) X0 C at_46 rfl rfl ?_
          refine W.iloadN (q := 48) X0 C at_47 rfl rfl ?_
          refine W.callS (q := 51) X0 C (W.ww hw 0 rfl) (W.ww hw 1 rfl) (W.ww hw 2 rfl) (W.ww hw 3 rfl) (by decide) (rm1 l Z a0 hw [] v14 h0 n0 (hv14 ▸ (c_i2c _).2.1)) e0 at_48 [(.int v14)] [] rfl rfl pd__28C_29Z rfl rfl (by decide) (by decide) (by decide) (by decide) rfl (fun T20 w20 L20 X20 hQ20 => ?_)
          obtain ⟨rfl, NL20, e20⟩ := hQ20
          have N20 := Fr.app N0 NL20
          show W.Go p e below _ (T20.setTop (mkF m 51 #[.val (.int p0), .val (.int p1), .val (.int v14), .val (.int (1 : Int32))] [(.int (own_sp v14))]))
          refine W.iloadN (q := 52) X20 C at_51 rfl rfl ?_
          refine W.icmpF (q := 55) X20 C at_52 rfl (show (own_sp v14) = (1 : Int32) by simp [own_sp, hc15, hc17, hc19]) ?_
          refine W.iconst (q := 56) (v := 1) X20 C at_55 rfl rfl ?_
          refine W.goto (q := 60) X20 C at_56 (by decide) (by decide) ?_
          exact W.retN X20 C (by simp) e20 at_60 rfl (by decide) (by decide) ⟨rfl, N20⟩
        · replace hc19 : v14 ≠ (10 : Int32) := hc19
          refine W.iloadN (q := 36) X0 C at_35 rfl rfl ?_
          refine W.bipush (q := 38) (v := 13) X0 C at_36 rfl rfl ?_
          refine W.icmp (q := 45) (q' := 41) X0 C at_38 (by decide) (by decide) rfl (fun hc21 => ?_) (fun hc21 => ?_)
          · replace hc21 : v14 ≠ (13 : Int32) := hc21
            refine W.iconst (q := 46) (v := 0) X0 C at_45 rfl rfl ?_
            refine W.istoreN (q := 47) (L' := #[.val (.int p0), .val (.int p1), .val (.int v14), .val (.int (0 : Int32))]) X0 C at_46 rfl rfl ?_
            refine W.iloadN (q := 48) X0 C at_47 rfl rfl ?_
            refine W.callS (q := 51) X0 C (W.ww hw 0 rfl) (W.ww hw 1 rfl) (W.ww hw 2 rfl) (W.ww hw 3 rfl) (by decide) (rm1 l Z a0 hw [] v14 h0 n0 (hv14 ▸ (c_i2c _).2.1)) e0 at_48 [(.int v14)] [] rfl rfl pd__28C_29Z rfl rfl (by decide) (by decide) (by decide) (by decide) rfl (fun T22 w22 L22 X22 hQ22 => ?_)
            obtain ⟨rfl, NL22, e22⟩ := hQ22
            have N22 := Fr.app N0 NL22
            show W.Go p e below _ (T22.setTop (mkF m 51 #[.val (.int p0), .val (.int p1), .val (.int v14), .val (.int (0 : Int32))] [(.int (own_sp v14))]))
            refine W.iloadN (q := 52) X22 C at_51 rfl rfl ?_
            refine W.icmpF (q := 55) X22 C at_52 rfl (show (own_sp v14) = (0 : Int32) by simp [own_sp, hc15, hc17, hc19, hc21]) ?_
            refine W.iconst (q := 56) (v := 1) X22 C at_55 rfl rfl ?_
            refine W.goto (q := 60) X22 C at_56 (by decide) (by decide) ?_
            exact W.retN X22 C (by simp) e22 at_60 rfl (by decide) (by decide) ⟨rfl, N22⟩
          · replace hc21 : v14 = (13 : Int32) := hc21
            refine W.iconst (q := 42) (v := 1) X0 C at_41 rfl rfl ?_
            refine W.goto (q := 46) X0 C at_42 (by decide) (by decide) ?_
            refine W.istoreN (q := 47) (L' := #[.val (.int p0), .val (.int p1), .val (.int v14), .val (.int (1 : Int32))]) X0 C at_46 rfl rfl ?_
            refine W.iloadN (q := 48) X0 C at_47 rfl rfl ?_
            refine W.callS (q := 51) X0 C (W.ww hw 0 rfl) (W.ww hw 1 rfl) (W.ww hw 2 rfl) (W.ww hw 3 rfl) (by decide) (rm1 l Z a0 hw [] v14 h0 n0 (hv14 ▸ (c_i2c _).2.1)) e0 at_48 [(.int v14)] [] rfl rfl pd__28C_29Z rfl rfl (by decide) (by decide) (by decide) (by decide) rfl (fun T23 w23 L23 X23 hQ23 => ?_)
            obtain ⟨rfl, NL23, e23⟩ := hQ23
            have N23 := Fr.app N0 NL23
            show W.Go p e below _ (T23.setTop (mkF m 51 #[.val (.int p0), .val (.int p1), .val (.int v14), .val (.int (1 : Int32))] [(.int (own_sp v14))]))
            refine W.iloadN (q := 52) X23 C at_51 rfl rfl ?_
            refine W.icmpF (q := 55) X23 C at_52 rfl (show (own_sp v14) = (1 : Int32) by simp [own_sp, hc15, hc17, hc19, hc21]) ?_
            refine W.iconst (q := 56) (v := 1) X23 C at_55 rfl rfl ?_
            refine W.goto (q := 60) X23 C at_56 (by decide) (by decide) ?_
            exact W.retN X23 C (by simp) e23 at_60 rfl (by decide) (by decide) ⟨rfl, N23⟩
set_option maxRecDepth 65536 in
set_option maxHeartbeats 40000000 in
theorem comes_1 {Post : Tables → Env → Array Value → State → Outcome → State → Prop} (hpost : ∀ tb e args s v u, (limb_1_1.after args s (.returned v) u = true ∧ limb_1_2.after args s (.returned v) u = true ∧ True) → FrameEnd s (.returned v) u (Jvm.fieldLocs frame_1_writes args s ++ Jvm.arrayLocs frame_1_arrays args s ++ Jvm.staticLocs frame_1_statics s) 0 0 → Post tb e args s (.returned v) u) :
    ArmFor flags0 classFile x code maxLocals ret World_1 tables_1 room_1 Calls_1 rest_1 Pre_1 Post := by
  intro l hfl _ _ p e ha hc hk s m args below hf hA hF happ hP
  obtain ⟨hcalls, hrest, hpre⟩ := hP
  obtain ⟨-, -, -, hnamed, -, -, -, hat⟩ := (Spec.applies_iff hf).mp happ
  obtain ⟨hg, hn⟩ := and_e (Cond.before_iff.mp (show (Jvm.Cond.and given_1 narrow_1).before args s = true from hpre))
  obtain ⟨g1, g2⟩ := and_e hg
  obtain ⟨g3, g4⟩ := and_e g2
  obtain ⟨w0, w1, rfl⟩ : ∃ w0 w1 : Value, args = #[w0, w1] := by
    have hs : args.size = 2 := by simpa [Cond.value, given_1] using g1
    obtain ⟨L⟩ := args
    match L, hs with
    | [w0, w1], _ => exact ⟨w0, w1, rfl⟩
  have hw := fun d (hd : d ∈ tables_1) => atoms_spec (ws := Jvm.Cond.code x code maxLocals ret :: tables_1) hat d (List.mem_cons_of_mem _ hd)
  have hfit : Fit s := fun {y c} hc i hi => by
    obtain ⟨ha, rfl⟩ := Array.getElem?_eq_some_iff.mp hc
    have q := List.all_eq_true.mp ((Array.all_eq_true_iff_forall_mem.mp hF) _ (Array.getElem_mem ha)) i (List.mem_range.mpr hi)
    simpa [Array.getElem?_eq_getElem hi] using q
  obtain ⟨i0, ei0⟩ := is_v g3
  obtain rfl : w0 = (.int i0) := Option.some.inj ei0
  obtain ⟨i1, ei1⟩ := is_v g4
  obtain rfl : w1 = (.int i1) := Option.some.inj ei1
  obtain ⟨n, o, h1, h2, h3, _, L, rfl, ⟨rfl, N⟩, hq⟩ := rm0 l s _ hw tables_1 i0 i1 s.heap s.heap.size  p e ha hc hk s m _ below hf ((Spec.applies_iff_loose hf).mp happ).1 ⟨rfl, State.Warmed39.refl s, rfl⟩ trivial
  refine ⟨n, _, h1, h2, h3, hpost _ _ _ _ _ _ ⟨Cond.after_iff.mpr rfl, Cond.after_iff.mpr (eq_i res_at (Term.int_eval (1)) rfl), trivial⟩ ⟨hq.1, hq.2.1, (hq.2.2.sift fun y hy => Or.inr (N y hy)).mono (by decide) (by decide)⟩⟩
theorem main_1_1 : Claimed_1_1 := comes_1 fun _ _ _ _ _ _ h hF => ⟨h.1, hF⟩
theorem main_1_2 : Claimed_1_2 := comes_1 fun _ _ _ _ _ _ h hF => ⟨h.2.1, hF⟩
end Jvm.Pilot.@@N@@
namespace Jvm.Pilot.@@N@@
open Jvm Jvm.ClassFile Sem Op Lib Jvm.Free Jvm.Stand Jvm.Pilot.@@N@@.Jvm.D
/-! MADE BY PROGRAM (witnessworld.py) out of the Statement's table words and the real class files: 9 classes; the members and pool entries that the words name. The judged class is class 1, her method 1. -/
namespace start1
open Jvm.ClassFile
def u (s : String) : CpInfo := .utf8 (stringToUtf16 s)
/-- a pool by its gaps: so many unusable entries, then the entry; so many at the end -/
def gap : Nat → List CpInfo → List CpInfo
  | 0, r => r
  | n + 1, r => .unusable :: gap n r
def poolList (es : List (Nat × CpInfo)) (last : Nat) : List CpInfo := es.foldr (fun e r => gap e.1 (e.2 :: r)) (gap last [])
def pool (es : List (Nat × CpInfo)) (last : Nat) : Array CpInfo := ⟨poolList es last⟩
def fileOf (pool : Array CpInfo) (this : Nat) (attrs : Array Attribute := #[]) (ms : Array MethodInfo := #[]) (fl : Nat := 33) (sup : Nat := 0) (ifs : Array Nat := #[]) (fds : Array FieldInfo := #[]) : ClassFile where
  minorVersion := 0
  majorVersion := 65
  constantPool := pool
  accessFlags := fl
  thisClass := this
  superClass := sup
  interfaces := ifs
  fields := fds
  methods := ms
  attributes := attrs
def plain (name : String) (sup : Option ClassId) : Class where
  name := name
  kind := .ordinary
  loader := none
  accessFlags := 33
  super := sup
  interfaces := #[]
  cf := none
  fields := #[]
  methods := #[]
  instanceTypes := #[]
  staticTypes := #[]
  resolved := #[]
  callSites := []
  init := .initialized
  statics := none
  mirror := none

def pool0 : Array CpInfo := pool [(5, u "<init>"), (0, u "()V"), (1, .class_ 10), (1, u "java/lang/Object")] 113

def k0m0 : Method := { name := "<init>", desc := "()V", sig := { parameters := [], returnType := none }, accessFlags := 1, code := none }
/-- java/lang/Object -/
def k0 : Class := { plain "java/lang/Object" none with
  accessFlags := 33
  interfaces := #[]
  cf := some (fileOf pool0 8 #[] #[{ accessFlags := 1, nameIndex := 5, descriptorIndex := 6, attributes := #[] }] 33 0 #[] #[])
  fields := #[]
  methods := #[k0m0]
  instanceTypes := #[]
  staticTypes := #[]
  resolved := Array.replicate 124 none
  statics := none }

def pool1 : Array CpInfo := pool [(2, .class_ 4), (1, u "java/lang/Object"), (0, u "<init>"), (0, u "()V"), (0, .methodref 8 9), (0, .class_ 10), (0, .nameAndType 11 12), (0, u "com/example/fedlint/fedlint/Element"), (0, u "isXmlSpace"), (0, u "(C)Z"), (0, .class_ 14), (0, u "com/example/fedlint/fedlint/ElementIsXmlSpacePinLaw"), (2, u "law"), (0, u "(II)Z")] 3

def k1m0 : Method := { name := "<init>", desc := "()V", sig := { parameters := [], returnType := none }, accessFlags := 1, code := none }
def k1c1 : Code := { maxStack := 2, maxLocals := 4, code := code, exceptionTable := #[], attributes := #[] }
def k1m1 : Method := { name := "law", desc := "(II)Z", sig := { parameters := [.int, .int], returnType := some .boolean }, accessFlags := 9, code := some k1c1 }
/-- com/example/fedlint/fedlint/ElementIsXmlSpacePinLaw -/
def k1 : Class := { plain "com/example/fedlint/fedlint/ElementIsXmlSpacePinLaw" (some 0) with
  accessFlags := 49
  interfaces := #[]
  cf := some (fileOf pool1 13 #[] #[{ accessFlags := 1, nameIndex := 5, descriptorIndex := 6, attributes := #[] }, { accessFlags := 9, nameIndex := 17, descriptorIndex := 18, attributes := #[] }] 49 2 #[] #[])
  fields := #[]
  methods := #[k1m0, k1m1]
  instanceTypes := #[]
  staticTypes := #[]
  resolved := Array.replicate 22 none
  statics := none }

def pool2 : Array CpInfo := pool [(2, .class_ 4), (1, u "java/lang/Object"), (3, .class_ 10), (1, u "com/example/fedlint/fedlint/Element"), (0, u "namespace"), (0, u "Ljava/lang/String;"), (2, u "localName"), (2, u "qualifiedName"), (2, u "declarations"), (0, u "Ljava/util/Map;"), (2, u "attributes"), (0, u "Lorg/xml/sax/Attributes;"), (2, u "line"), (0, u "I"), (2, u "entityId"), (2, u "parent"), (0, u "Lcom/example/fedlint/fedlint/Element;"), (75, u "marks"), (0, u "Ljava/util/Set;"), (12, u "text"), (0, u "Lcom/example/fedlint/fedlint/Element$TextPrefix;"), (0, .class_ 130), (0, u "com/example/fedlint/fedlint/Element$TextPrefix"), (21, u "decoded"), (0, u "Ljava/lang/Object;"), (15, .long 4294977024), (1, u "XML_SPACE"), (0, u "J"), (29, u "isXmlSpace"), (0, u "(C)Z")] 20

def k2c0 : Code := { maxStack := 4, maxLocals := 1, code := prog_17_method_21_code, exceptionTable := #[], attributes := #[] }
def k2m0 : Method := { name := "isXmlSpace", desc := "(C)Z", sig := { parameters := [.char], returnType := some .boolean }, accessFlags := 8, code := some k2c0 }
/-- com/example/fedlint/fedlint/Element -/
def k2 : Class := { plain "com/example/fedlint/fedlint/Element" (some 0) with
  accessFlags := 48
  interfaces := #[]
  cf := some (fileOf pool2 8 #[.nestMembers #[129]] #[{ accessFlags := 8, nameIndex := 202, descriptorIndex := 203, attributes := #[] }] 48 2 #[] #[{ accessFlags := 26, nameIndex := 171, descriptorIndex := 172, attributes := #[] }, { accessFlags := 18, nameIndex := 11, descriptorIndex := 12, attributes := #[] }, { accessFlags := 18, nameIndex := 15, descriptorIndex := 12, attributes := #[] }, { accessFlags := 18, nameIndex := 18, descriptorIndex := 12, attributes := #[] }, { accessFlags := 18, nameIndex := 21, descriptorIndex := 22, attributes := #[] }, { accessFlags := 18, nameIndex := 25, descriptorIndex := 26, attributes := #[] }, { accessFlags := 18, nameIndex := 29, descriptorIndex := 30, attributes := #[] }, { accessFlags := 18, nameIndex := 33, descriptorIndex := 12, attributes := #[] }, { accessFlags := 18, nameIndex := 36, descriptorIndex := 37, attributes := #[] }, { accessFlags := 2, nameIndex := 113, descriptorIndex := 114, attributes := #[] }, { accessFlags := 2, nameIndex := 127, descriptorIndex := 128, attributes := #[] }, { accessFlags := 2, nameIndex := 152, descriptorIndex := 153, attributes := #[] }])
  fields := #[{ name := "XML_SPACE", type := .long, accessFlags := 26, slot := 0, constantValue := 0 }, { name := "namespace", type := (.object "java/lang/String"), accessFlags := 18, slot := 0, constantValue := 0 }, { name := "localName", type := (.object "java/lang/String"), accessFlags := 18, slot := 1, constantValue := 0 }, { name := "qualifiedName", type := (.object "java/lang/String"), accessFlags := 18, slot := 2, constantValue := 0 }, { name := "declarations", type := (.object "java/util/Map"), accessFlags := 18, slot := 3, constantValue := 0 }, { name := "attributes", type := (.object "org/xml/sax/Attributes"), accessFlags := 18, slot := 4, constantValue := 0 }, { name := "line", type := .int, accessFlags := 18, slot := 5, constantValue := 0 }, { name := "entityId", type := (.object "java/lang/String"), accessFlags := 18, slot := 6, constantValue := 0 }, { name := "parent", type := (.object "com/example/fedlint/fedlint/Element"), accessFlags := 18, slot := 7, constantValue := 0 }, { name := "marks", type := (.object "java/util/Set"), accessFlags := 2, slot := 8, constantValue := 0 }, { name := "text", type := (.object "com/example/fedlint/fedlint/Element$TextPrefix"), accessFlags := 2, slot := 9, constantValue := 0 }, { name := "decoded", type := (.object "java/lang/Object"), accessFlags := 2, slot := 10, constantValue := 0 }]
  methods := #[k2m0]
  instanceTypes := #[(.object "java/lang/String"), (.object "java/lang/String"), (.object "java/lang/String"), (.object "java/util/Map"), (.object "org/xml/sax/Attributes"), .int, (.object "java/lang/String"), (.object "com/example/fedlint/fedlint/Element"), (.object "java/util/Set"), (.object "com/example/fedlint/fedlint/Element$TextPrefix"), (.object "java/lang/Object")]
  staticTypes := #[.long]
  resolved := Array.replicate 224 none
  statics := none }

def pool3 : Array CpInfo := pool [(1, u "java/lang/Cloneable"), (0, .class_ 1), (0, u "java/lang/Object"), (0, .class_ 3)] 3

/-- java/lang/Cloneable -/
def k3 : Class := { plain "java/lang/Cloneable" (some 0) with
  accessFlags := 1537
  interfaces := #[]
  cf := some (fileOf pool3 2 #[] #[] 1537 4 #[] #[])
  fields := #[]
  methods := #[]
  instanceTypes := #[]
  staticTypes := #[]
  resolved := Array.replicate 8 none
  statics := none }

def pool4 : Array CpInfo := pool [(1, u "java/io/Serializable"), (0, .class_ 1), (0, u "java/lang/Object"), (0, .class_ 3)] 3

/-- java/io/Serializable -/
def k4 : Class := { plain "java/io/Serializable" (some 0) with
  accessFlags := 1537
  interfaces := #[]
  cf := some (fileOf pool4 2 #[] #[] 1537 4 #[] #[])
  fields := #[]
  methods := #[]
  instanceTypes := #[]
  staticTypes := #[]
  resolved := Array.replicate 8 none
  statics := none }

/-- the primitive byte -/
def k5 : Class := { plain "byte" none with kind := .primitive 'B', accessFlags := 0x411 }
/-- [B -/
def k6 : Class := { plain "[B" (some 0) with kind := .array 5 .byte, interfaces := #[3, 4], accessFlags := 1041 }

/-- the primitive int -/
def k7 : Class := { plain "int" none with kind := .primitive 'I', accessFlags := 0x411 }
/-- [I -/
def k8 : Class := { plain "[I" (some 0) with kind := .array 7 .int, interfaces := #[3, 4], accessFlags := 1041 }

def heap : Heap := #[]
def classes : Array Class := #[k0, k1, k2, k3, k4, k5, k6, k7, k8]
def interned : List (Array UInt16 × Addr) := []
def slotsUsed : Nat := 0
def theMethod : MethodId := ⟨1, 1⟩
def args0 : Array Value := #[.int 32, .int 77]
def aboutOver (below : List Frame) : State where
  vm := { classes := classes, interned := interned.toArray }
  heap := heap
  slotsUsed := slotsUsed
  threads := #[{ frames := .invoking theMethod args0 :: below }]
def below0 : List Frame := [.native { method := ⟨0, 0⟩, args := #[] }]
def about1 : State := aboutOver below0
def p0 : Program := .bare "" "" ""
def e0 : Env := launch0.env 0 0 0
theorem w_frames : about1.frames = Frame.invoking theMethod args0 :: below0 := rfl
set_option maxRecDepth 65536 in
theorem w_args : argsFit about1.vm theMethod args0 = true := by decide +kernel
set_option maxRecDepth 65536 in
theorem w_heap : heapFits about1 = true := by decide +kernel
set_option maxRecDepth 65536 in
theorem w_runnable : about1.curStatus? = some .runnable := by decide +kernel
set_option maxRecDepth 65536 in
theorem w_alone : about1.alone = true := by decide +kernel
set_option maxRecDepth 65536 in
theorem w_named : about1.methodNamed? x = some theMethod := by decide +kernel
set_option maxRecDepth 65536 in
theorem w_hears : about1.hears theMethod below0 = true := by decide +kernel
set_option maxRecDepth 65536 in
theorem w_ripe : about1.ripe theMethod args0 below0 = true := by decide +kernel
theorem w_running : about1.status = .running := rfl
set_option maxRecDepth 65536 in
theorem w_room : about1.hasRoom e0.platform room_1 = true :=
  launch0.hasRoom_least _ room_1 (by decide +kernel) (by decide +kernel) (by decide +kernel) (by decide +kernel) (by decide +kernel) (by decide +kernel)
theorem allAtoms_all (ts : List Jvm.Cond) (a : Array Jvm.Value) (st : Jvm.State) : (allAtoms ts).before a st = ts.all (fun c => c.before a st) := by
  induction ts with
  | nil => rfl
  | cons c t ih =>
    show (Jvm.Cond.and c (allAtoms t)).before a st = _
    rw [Jvm.Cond.before_and, ih, List.all_cons]
def words1 : List Jvm.Cond := Jvm.Cond.code x code maxLocals ret :: tables_1
/-- a 'code' word, met by the world's own term for the bytes: nothing is compared byte by byte -/
theorem code_word {y : MethodName} {bytes : ByteArray} {mx : Nat} {rt : Option FieldType} {a : Array Value} {s : State} {m : MethodId} {meth : Method} {c : Code} (h1 : s.methodNamed? y = some m) (h2 : s.vm.method? m = some meth) (h3 : meth.code = some c) (h4 : c.code = bytes)
    (h5 : (c.maxLocals == mx && c.exceptionTable.isEmpty && decide (c.maxStack ≤ mostOperands) && decide (meth.sig.returnType = rt) && !meth.locks && decide (parseMethodDescriptor y.desc = some meth.sig)) = true) : (Jvm.Cond.code y bytes mx rt).before a s = true := by
  simp only [Bool.and_eq_true, beq_iff_eq, Bool.not_eq_true', decide_eq_true_eq] at h5
  obtain ⟨⟨⟨⟨⟨g1, g2⟩, g3⟩, g4⟩, g5⟩, g6⟩ := h5
  simp [Cond.before, Cond.holds, Cond.value, h1, h2, h3, h4, g1, g2, g3, g4, g5, g6]
def isCode : Jvm.Cond → Bool
  | .code _ _ _ _ => true
  | _ => false
theorem all_split {L : List Jvm.Cond} {P : Jvm.Cond → Bool} (h1 : L.all (fun c => isCode c || P c) = true) (h2 : ∀ c ∈ L.filter isCode, P c = true) : L.all P = true := by
  refine List.all_eq_true.mpr fun c hc => ?_
  have h := List.all_eq_true.mp h1 c hc
  rcases Bool.eq_false_or_eq_true (isCode c) with hi | hi
  · exact h2 c (List.mem_filter.mpr ⟨hc, hi⟩)
  · simpa [hi] using h
set_option maxRecDepth 65536 in
theorem w_c0 : (Jvm.Cond.code x code maxLocals ret).before args0 about1 = true := code_word (m := ⟨1, 1⟩) (meth := k1m1) (c := k1c1) (by decide +kernel) rfl rfl rfl (by decide +kernel)
set_option maxRecDepth 65536 in
theorem w_c1 : (Jvm.Cond.code ({ cls := "com/example/fedlint/fedlint/Element", name := "isXmlSpace", desc := "(C)Z" } : Jvm.MethodName) prog_17_method_21_code (1 : Nat) (Option.some Jvm.ClassFile.FieldType.boolean)).before args0 about1 = true := code_word (m := ⟨2, 0⟩) (meth := k2m0) (c := k2c0) (by decide +kernel) rfl rfl rfl (by decide +kernel)
def codes1 : List Jvm.Cond := [Jvm.Cond.code x code maxLocals ret, Jvm.Cond.code ({ cls := "com/example/fedlint/fedlint/Element", name := "isXmlSpace", desc := "(C)Z" } : Jvm.MethodName) prog_17_method_21_code (1 : Nat) (Option.some Jvm.ClassFile.FieldType.boolean)]
set_option maxRecDepth 65536 in
theorem codes_eq : words1.filter isCode = codes1 := rfl
theorem w_codes : ∀ c ∈ words1.filter isCode, c.before args0 about1 = true := by
  rw [codes_eq]
  intro c hc
  simp only [codes1, List.mem_cons, List.not_mem_nil, or_false] at hc
  rcases hc with rfl | rfl
  · exact w_c0
  · exact w_c1
set_option maxRecDepth 65536 in
theorem w_t1 : words1.all (fun c => isCode c || c.before args0 about1) = true := by decide +kernel
theorem w_tables : (allAtoms (Jvm.Cond.code x code maxLocals ret :: tables_1)).before args0 about1 = true := by
  rw [allAtoms_all]
  show words1.all (fun c => c.before args0 about1) = true
  refine all_split ?_ w_codes
  rw [w_t1]
set_option maxRecDepth 65536 in
theorem w_case : (Jvm.Cond.and given_1 narrow_1).before args0 about1 = true := by decide +kernel
theorem w_applies : (headSpec (Jvm.Cond.code x code maxLocals ret :: tables_1) room_1).applies x e0.platform about1 = true :=
  (Spec.applies_iff w_frames).mpr ⟨w_running, w_runnable, w_alone, w_named, w_hears, w_ripe, w_room, w_tables⟩
theorem atStart : AtStart classFile x code maxLocals ret World_1 tables_1 room_1 Calls_1 rest_1 Pre_1 launch0 p0 e0 about1 theMethod args0 below0 :=
  ⟨lists_1, trivial, launch0.admits_env _ _ _, launch0.least_env, fairChoices_fair.cas, fairChoices_fair.clock, w_frames, w_args, w_heap, w_applies, trivial, trivial, w_case⟩
end start1
theorem witness_1 : WitnessClaimed_1 := ⟨start1.p0, start1.e0, start1.about1, start1.theMethod, start1.args0, start1.below0, start1.atStart⟩
end Jvm.Pilot.@@N@@
