import JvmDerived
import JvmDerived.Pilot.@@N@@Statement
import JvmDerived.Pilot.@@N@@Code
set_option linter.unusedVariables false
set_option linter.unusedSimpArgs false
namespace Jvm.Pilot.@@N@@
open Jvm Jvm.ClassFile Sem Op Lib Jvm.Free Jvm.Stand Jvm.LawKit Jvm.RoadKit Bundle Jvm.Pilot.@@N@@.Jvm.D
/-! OWN KIT: a walk in continuation form. Go F U: from U the run comes to an end of which F holds. -/
namespace W
def Go (p : Program) (e : Env) (below : List Frame) (F : Outcome → State → Prop) (U : State) : Prop :=
  ∃ s₂ o, Steps p.tables e below U s₂ ∧ s₂.status = .running ∧ Ended s₂ below o ∧ F o s₂
def Cx (p : Program) (s : State) (m : MethodId) (meth : Method) (c : Code) (Z : State) (bytes : ByteArray) (maxL : Nat) (own mname : String) (ret : Option FieldType) : Prop :=
  p.tables.exec = Jvm.exec ∧ Z.Warmed39 s.vm ∧ c.code = bytes ∧ c.maxLocals = maxL ∧ s.vm.findClass own = some m.cls ∧ meth.name = mname ∧ meth.sig.returnType = ret ∧ meth.locks = false
def Post (s : State) (Q : Option Value → Heap → List Loc → Prop) (k n : Nat) (o : Outcome) (U' : State) : Prop := ∃ v L, o = .returned v ∧ Q v U'.heap L ∧ FrameEnd s o U' L k n
theorem of {p : Program} {e : Env} {below : List Frame} {F : Outcome → State → Prop} {U U' : State} (h : ∀ t, Steps p.tables e below U' t → Steps p.tables e below U t) (k : Go p e below F U') : Go p e below F U := by
  obtain ⟨s₂, o, h1, h2⟩ := k
  exact ⟨s₂, o, h _ h1, h2⟩
theorem tr {p : Program} {e : Env} {below : List Frame} {F : Outcome → State → Prop} {U U' : State} (h : Steps p.tables e below U U') (k : Go p e below F U') : Go p e below F U := of (fun _ q => h.trans q) k
def fillL : List Value → List Slot
  | [] => []
  | v :: t => if v.category = 2 then .val v :: .second :: fillL t else .val v :: fillL t
theorem fill_eq : ∀ (l : List Value) (acc : Array Slot), l.foldl (fun acc v => if v.category = 2 then (acc.push (.val v)).push .second else acc.push (.val v)) acc = acc ++ (fillL l).toArray
  | [], acc => by simp [fillL]
  | v :: t, acc => by
    rw [List.foldl_cons, fill_eq t, fillL]
    split <;> (apply Array.toList_inj.mp; simp)
theorem entry_of {m : MethodId} {as : List Value} {maxL : Nat} {Ls : List Slot} (h : Ls = fillL as ++ List.replicate (maxL - (fillL as).length) .unset) : entryFrame m as.toArray maxL = mkF m 0 Ls.toArray [] := by
  subst h
  simp only [entryFrame, mkF, argsToLocals]
  congr 1
  rw [List.foldl_toArray, fill_eq]
  simp
def cT : ClassFile.Cond → Int32 → Int32 → Prop
  | .eq, x, y => x = y
  | .ne, x, y => x ≠ y
  | .lt, x, y => x.toInt < y.toInt
  | .ge, x, y => y.toInt ≤ x.toInt
  | .gt, x, y => y.toInt < x.toInt
  | .le, x, y => x.toInt ≤ y.toInt
def cF : ClassFile.Cond → Int32 → Int32 → Prop
  | .eq, x, y => x ≠ y
  | .ne, x, y => x = y
  | .lt, x, y => y.toInt ≤ x.toInt
  | .ge, x, y => x.toInt < y.toInt
  | .gt, x, y => x.toInt ≤ y.toInt
  | .le, x, y => y.toInt < x.toInt
instance (cd : ClassFile.Cond) (x y : Int32) : Decidable (cT cd x y) := by cases cd <;> (simp only [cT]; infer_instance)
instance (cd : ClassFile.Cond) (x y : Int32) : Decidable (cF cd x y) := by cases cd <;> (simp only [cF]; infer_instance)
theorem holdsT {cd : ClassFile.Cond} {x y : Int32} (h : cT cd x y) : if_icmp.holds cd x y = true := by
  cases cd <;> simp only [cT] at h <;> simp [if_icmp.holds, h, Int32.lt_iff_toInt_lt, Int32.le_iff_toInt_le]
theorem holdsF {cd : ClassFile.Cond} {x y : Int32} (h : cF cd x y) : if_icmp.holds cd x y = false := by
  cases cd <;> simp only [cF] at h <;> simp [if_icmp.holds, h, Int32.lt_iff_toInt_lt, Int32.le_iff_toInt_le]
theorem cTF (cd : ClassFile.Cond) (x y : Int32) : cT cd x y ∨ cF cd x y := by
  cases cd <;> simp only [cT, cF] <;> first | omega | exact Decidable.em _ | exact (Decidable.em _).symm
theorem ww {a0 : Array Value} {Z : State} (hw : ∀ d ∈ tables_1, d.before a0 Z = true) (i : Nat) {d : Jvm.Cond} (h : tables_1[i]? = some d) : d.before a0 Z = true := hw _ (List.mem_of_getElem? h)
theorem small {P : Int32 → Prop} (K : Nat) (hK : ∀ i : Fin (K + 1), P (Int32.ofInt (i.1 : Int))) (k : Int32) (h1 : 0 ≤ k.toInt) (h2 : k.toInt ≤ K) : P k := by
  have e : Int32.ofInt ((k.toInt.toNat : Nat) : Int) = k := by rw [Int.toNat_of_nonneg h1]; exact Int32.ofInt_toInt k
  have := hK ⟨k.toInt.toNat, by omega⟩
  rw [e] at this; exact this
theorem eqR {args : Array Value} {s : State} {a b : Term} {idx : List Nat} {y : Addr} (hb : b.eval args s none idx s = some (.ref y)) (h : (Jvm.Cond.eq a b).value args s none s idx = some true) : a.eval args s none idx s = some (.ref y) := by
  cases ha : a.eval args s none idx s with
  | none => simp [Cond.value, ha] at h
  | some x =>
    have hx : x.isRef = true := by cases x <;> simp [Cond.value, ha, hb, Value.isRef] at h ⊢
    have q := gotT (eq_R ha hb hx rfl) h
    rw [q]
theorem elemAt {args : Array Value} {s : State} {t a : Term} {x : Addr} {j : Int32} {v : Value} {cl : Cell} {ty : FieldType} (A : Arr s s.heap x cl ty) (ht : t.eval args s none [] s = some (.ref x)) (hj : a.eval args s none [] s = some (.int j)) (h : (Term.elem t a).eval args s none [] s = some v) : cl.slots[j.toNatClampNeg]? = some v := (elem_in h ht hj A.1).2
theorem lenAt {args : Array Value} {s : State} {t : Term} {x : Addr} {z : Int32} {cl : Cell} {ty : FieldType} (A : Arr s s.heap x cl ty) (ht : t.eval args s none [] s = some (.ref x)) (h : (Jvm.Cond.eq (.length t) (.int z)).value args s none s [] = some true) : cl.slots.size < 2 ^ 31 ∧ cl.slots.size.toInt32 = z := by
  have h6 := eqv_i (Term.int_eval z) h
  have ha := A.fin (Vm.Alike.refl _)
  have sz : cl.slots.size < 2 ^ 31 := by
    refine Decidable.byContradiction fun q => ?_
    simp [Term.eval, ht, ha, q] at h6
  refine ⟨sz, ?_⟩
  rw [len_f ht ha sz] at h6
  exact Value.int.inj (Option.some.inj h6)
theorem arvOf {s : State} {a : Addr} {cl : Cell} {ty : FieldType} {z : Int32} {d : Value} (hf : Fit s) (A : Arr s s.heap a cl ty) (q : cl.slots.size < 2 ^ 31) (e : cl.slots.size.toInt32 = z) (hz : ¬ z < 0) : Arv s s.heap a cl.cls ty z cl.slots.toList d := by
  have S : cl.slots.size = z.toNatClampNeg := by rw [← e]; simp only [Int32.toNatClampNeg, len_toInt q]; rfl
  have H : Has cl cl.slots.toList d := fun k hk => by simp [List.getD, hk]
  refine ⟨cl, A, rfl, S, hz, H, fun j hj => ?_⟩
  have e1 : (Nat.toInt32 j).toNatClampNeg = j := by simp only [Int32.toNatClampNeg, len_toInt (Nat.lt_trans hj q)]; rfl
  exact elem_fits (j := Nat.toInt32 j) hf A (idx_in hj q) (by rw [e1]; exact H j hj)
theorem catRef {v : Value} (h : v.isRef = true) : v.category = 1 := by
  rcases ref_cases h with rfl | ⟨a, rfl⟩ <;> rfl
theorem narRef {t : FieldType} {v : Value} (h : v.isRef = true) : narrow t v = v := by
  rcases ref_cases h with rfl | ⟨a, rfl⟩ <;> cases t <;> rfl
theorem fitsRef {t : FieldType} {v : Value} (h : v.isRef = true) (ht : t.isReference = true) : fits t v = true := by
  rcases ref_cases h with rfl | ⟨a, rfl⟩ <;> cases t <;> first | rfl | cases ht
theorem narZ {x : Int32} (h : x = 0 ∨ x = 1) : narrow .boolean (.int x) = .int x := by rcases h with rfl | rfl <;> rfl
theorem fitZ {x : Int32} (h : x = 0 ∨ x = 1) : fits .boolean (.int x) = true := by rcases h with rfl | rfl <;> rfl
theorem fieldInt {args : Array Value} {s : State} {t : Term} {Cn n d : String} {k : Int32} {a : Addr} (ht : t.eval args s none [] s = some (.ref a)) (h : (Jvm.Cond.eq (.field t Cn n d) (.int k)).value args s none s [] = some true) : Fld s s.heap a Cn n d (.int k) := by
  exact Fld.start ((fld_at ht).symm.trans (eqv_i (Term.int_eval k) h))
section
variable {p : Program} {l : Launch} {e : Env} {R : Room} {s : State} {m : MethodId} {args : Array Value} {below : List Frame} {meth : Method} {c : Code} {T : State} {locs : List Loc} {cells slots : Nat} {Z : State} {a0 : Array Value} {h h0 : Heap} {F : Outcome → State → Prop} {bytes : ByteArray} {maxL : Nat} {own mname : String} {ret : Option FieldType} {pc q : Nat} {Ls L' : Array Slot} {S rest : List Value}
theorem bodyOf {y : MethodName} {ws : List Jvm.Cond} {rm : Room} {as : Array Value} {Q : Option Value → Heap → List Loc → Prop} (hp : plainFor y = true) (hef : ∀ m, entryFrame m as maxL = mkF m 0 Ls [])
    (body : ∀ p e s m below meth c s₁, Cx p s m meth c Z bytes maxL y.cls y.name ret → Stand p l e rm s m as below meth c s₁ [] 0 0 → s₁.heap = h0 → Go p e below (Post s Q rm.cells rm.slots) (s₁.setTop (mkF m 0 Ls []))) :
    MetFree l y (head1 (Jvm.Cond.code y bytes maxL ret :: ws) rm) (fun a U => a = as ∧ Z.Warmed39 U.vm ∧ U.heap = h0) (fun _ _ _ _ _ => True) (fun _ U o U' => ∃ v L, o = .returned v ∧ Q v U'.heap L ∧ FrameEnd U o U' L rm.cells rm.slots) := by
  refine MetFree.of_bodySF hp hisR ?_
  intro p e s m args below meth c s₁ Bd hml0 hP hK
  obtain ⟨rfl, hZ, hh⟩ := hP
  obtain ⟨s₂, o, h1, h2⟩ := body p e s m below meth c s₁ ⟨Bd.exec, hZ, Bd.bytes, hml0, findClass_of_methodNamed Bd.named, (name_of_methodNamed Bd.named Bd.method).1, Bd.returns, Bd.notSynchronized⟩ (Stand.of_body Bd) (by rw [← hh, Bd.state]; rfl)
  exact ⟨s₂, o, castTop (hef m) h1, h2⟩
/-! returns -/
theorem retN (X : Stand p l e R s m args below meth c T locs cells slots) {t : FieldType} (C : Cx p s m meth c Z bytes maxL own mname (some t)) (ht : t = .boolean ∨ t = .byte ∨ t = .char ∨ t = .short) (eT : T.heap = h) {z z' : Int32} (hd : decode bytes pc = .ok (.ireturn, 1)) (hz : narrow t (.int z) = .int z') {k n : Nat} (hk : cells ≤ k) (hn : slots ≤ n) {Q : Option Value → Heap → List Loc → Prop} (hQ : Q (some (.int z')) h locs) :
    Go p e below (Post s Q k n) (T.setTop (mkF m pc Ls (.int z :: rest))) := by
  obtain ⟨hx, hZ, hby, hml, hown, hnm, hret, hlk⟩ := C
  obtain ⟨fs, hr, hrun, hended, hW, hsame⟩ := X.leave (v := some (.int z')) (fun h => by rw [hret] at h; cases h)
  refine ⟨_, _, ?_, hrun, hended, _, _, rfl, ?_, ⟨_, rfl⟩, hW, hsame.mono hk hn⟩
  · have hm' : T.vm.method? m = some meth := X.method'
    have hd' := hb hby hd
    rcases ht with rfl | rfl | rfl | rfl
    all_goals
      show Steps p.tables e below (T.setTop { method := m, pc := pc, locals := Ls, stack := _ :: rest, locked := none }) _
      jvm_step X.here [X.here.top, hx, hd', hm', hret, hz]
      first | (intro acts; rw [hr _ acts rfl rfl rfl]) | rw [hr _ _ rfl rfl rfl]
      exact Steps.refl _
  · show Q _ T.heap _
    rw [eT]; exact hQ
theorem retI (X : Stand p l e R s m args below meth c T locs cells slots) (C : Cx p s m meth c Z bytes maxL own mname (some .int)) (eT : T.heap = h) {z : Int32} (hd : decode bytes pc = .ok (.ireturn, 1)) {k n : Nat} (hk : cells ≤ k) (hn : slots ≤ n) {Q : Option Value → Heap → List Loc → Prop} (hQ : Q (some (.int z)) h locs) :
    Go p e below (Post s Q k n) (T.setTop (mkF m pc Ls (.int z :: rest))) := by
  obtain ⟨hx, hZ, hby, hml, hown, hnm, hret, hlk⟩ := C
  obtain ⟨fs, hr, hrun, hended, hW, hsame⟩ := X.leave (v := some (.int z)) (fun h => by rw [hret] at h; cases h)
  refine ⟨_, _, ?_, hrun, hended, _, _, rfl, ?_, ⟨_, rfl⟩, hW, hsame.mono hk hn⟩
  · have hm' : T.vm.method? m = some meth := X.method'
    have hd' := hb hby hd
    have hn : narrow .int (.int z) = .int z := rfl
    show Steps p.tables e below (T.setTop { method := m, pc := pc, locals := Ls, stack := _ :: rest, locked := none }) _
    jvm_step X.here [X.here.top, hx, hd', hm', hret, hn]
    first | (intro acts; rw [hr _ acts rfl rfl rfl]) | rw [hr _ _ rfl rfl rfl]
    exact Steps.refl _
  · show Q _ T.heap _
    rw [eT]; exact hQ
theorem retJ (X : Stand p l e R s m args below meth c T locs cells slots) (C : Cx p s m meth c Z bytes maxL own mname (some .long)) (eT : T.heap = h) {z : Int64} (hd : decode bytes pc = .ok (.lreturn, 1)) {k n : Nat} (hk : cells ≤ k) (hn : slots ≤ n) {Q : Option Value → Heap → List Loc → Prop} (hQ : Q (some (.long z)) h locs) :
    Go p e below (Post s Q k n) (T.setTop (mkF m pc Ls (.long z :: rest))) := by
  obtain ⟨hx, hZ, hby, hml, hown, hnm, hret, hlk⟩ := C
  obtain ⟨fs, hr, hrun, hended, hW, hsame⟩ := X.leave (v := some (.long z)) (fun h => by rw [hret] at h; cases h)
  refine ⟨_, _, ?_, hrun, hended, _, _, rfl, ?_, ⟨_, rfl⟩, hW, hsame.mono hk hn⟩
  · have hm' : T.vm.method? m = some meth := X.method'
    have hd' := hb hby hd
    show Steps p.tables e below (T.setTop { method := m, pc := pc, locals := Ls, stack := _ :: rest, locked := none }) _
    jvm_step X.here [X.here.top, hx, hd', hm', hret, narrow]
    first | (intro acts; rw [hr _ acts rfl rfl rfl]) | rw [hr _ _ rfl rfl rfl]
    exact Steps.refl _
  · show Q _ T.heap _
    rw [eT]; exact hQ
theorem retA (X : Stand p l e R s m args below meth c T locs cells slots) {t : FieldType} (C : Cx p s m meth c Z bytes maxL own mname (some t)) (ht : t.isReference = true) (eT : T.heap = h) {z : Value} (hz : z.isRef = true) (hd : decode bytes pc = .ok (.areturn, 1)) {k n : Nat} (hk : cells ≤ k) (hn : slots ≤ n) {Q : Option Value → Heap → List Loc → Prop} (hQ : Q (some z) h locs) :
    Go p e below (Post s Q k n) (T.setTop (mkF m pc Ls (z :: rest))) := by
  obtain ⟨hx, hZ, hby, hml, hown, hnm, hret, hlk⟩ := C
  obtain ⟨fs, hr, hrun, hended, hW, hsame⟩ := X.leave (v := some z) (fun h => by rw [hret] at h; cases h)
  refine ⟨_, _, ?_, hrun, hended, _, _, rfl, ?_, ⟨_, rfl⟩, hW, hsame.mono hk hn⟩
  · have hm' : T.vm.method? m = some meth := X.method'
    have hd' := hb hby hd
    show Steps p.tables e below (T.setTop { method := m, pc := pc, locals := Ls, stack := _ :: rest, locked := none }) _
    jvm_step X.here [X.here.top, hx, hd', hm', hret, hz, ht]
    first | (intro acts; rw [hr _ acts rfl rfl rfl]) | rw [hr _ _ rfl rfl rfl]
    exact Steps.refl _
  · show Q _ T.heap _
    rw [eT]; exact hQ
theorem retV (X : Stand p l e R s m args below meth c T locs cells slots) (C : Cx p s m meth c Z bytes maxL own mname none) (eT : T.heap = h) (hd : decode bytes pc = .ok (.return_, 1)) {k n : Nat} (hk : cells ≤ k) (hn : slots ≤ n) {Q : Option Value → Heap → List Loc → Prop} (hQ : Q none h locs) :
    Go p e below (Post s Q k n) (T.setTop (mkF m pc Ls [])) := by
  obtain ⟨hx, hZ, hby, hml, hown, hnm, hret, hlk⟩ := C
  obtain ⟨fs, hr, hrun, hended, hW, hsame⟩ := X.leave (v := none) (fun _ => rfl)
  refine ⟨_, _, X.returnOut hx hret (hb hby hd) hr, hrun, hended, _, _, rfl, ?_, ⟨_, rfl⟩, hW, hsame.mono hk hn⟩
  show Q _ T.heap _
  rw [eT]; exact hQ
/-! plain steps -/
theorem iload (X : Stand p l e R s m args below meth c T locs cells slots) (C : Cx p s m meth c Z bytes maxL own mname ret) {k : Nat} {v : Int32} (hd : decode bytes pc = .ok (.iload k, 2)) (hl : Ls[k]? = some (.val (.int v))) (hq : pc + 2 = q) (K : Go p e below F (T.setTop (mkF m q Ls (.int v :: S)))) : Go p e below F (T.setTop (mkF m pc Ls S)) := by
  subst hq; exact of (fun t k => XS.iload X.here C.1 rfl (hb C.2.2.1 hd) hl k) K
theorem iloadN (X : Stand p l e R s m args below meth c T locs cells slots) (C : Cx p s m meth c Z bytes maxL own mname ret) {k : Fin 4} {v : Int32} (hd : decode bytes pc = .ok (.iload_n k, 1)) (hl : Ls[k.val]? = some (.val (.int v))) (hq : pc + 1 = q) (K : Go p e below F (T.setTop (mkF m q Ls (.int v :: S)))) : Go p e below F (T.setTop (mkF m pc Ls S)) := by
  subst hq; exact of (fun t k => XS.iloadN X.here C.1 rfl (hb C.2.2.1 hd) hl k) K
theorem lload (X : Stand p l e R s m args below meth c T locs cells slots) (C : Cx p s m meth c Z bytes maxL own mname ret) {k : Nat} {v : Int64} (hd : decode bytes pc = .ok (.lload k, 2)) (hl : Ls[k]? = some (.val (.long v))) (hq : pc + 2 = q) (K : Go p e below F (T.setTop (mkF m q Ls (.long v :: S)))) : Go p e below F (T.setTop (mkF m pc Ls S)) := by
  subst hq; exact of (fun t k => XS.lload X.here C.1 rfl (hb C.2.2.1 hd) hl k) K
theorem lloadN (X : Stand p l e R s m args below meth c T locs cells slots) (C : Cx p s m meth c Z bytes maxL own mname ret) {k : Fin 4} {v : Int64} (hd : decode bytes pc = .ok (.lload_n k, 1)) (hl : Ls[k.val]? = some (.val (.long v))) (hq : pc + 1 = q) (K : Go p e below F (T.setTop (mkF m q Ls (.long v :: S)))) : Go p e below F (T.setTop (mkF m pc Ls S)) := by
  subst hq; exact of (fun t k => XS.lloadN X.here C.1 rfl (hb C.2.2.1 hd) hl k) K
theorem aload (X : Stand p l e R s m args below meth c T locs cells slots) (C : Cx p s m meth c Z bytes maxL own mname ret) {k : Nat} {v : Value} (hd : decode bytes pc = .ok (.aload k, 2)) (hl : Ls[k]? = some (.val v)) (hv : v.isRef = true) (hq : pc + 2 = q) (K : Go p e below F (T.setTop (mkF m q Ls (v :: S)))) : Go p e below F (T.setTop (mkF m pc Ls S)) := by
  subst hq; exact of (fun t k => XS.aload X.here C.1 rfl (hb C.2.2.1 hd) hl hv k) K
theorem aloadN (X : Stand p l e R s m args below meth c T locs cells slots) (C : Cx p s m meth c Z bytes maxL own mname ret) {k : Fin 4} {v : Value} (hd : decode bytes pc = .ok (.aload_n k, 1)) (hl : Ls[k.val]? = some (.val v)) (hv : v.isRef = true) (hq : pc + 1 = q) (K : Go p e below F (T.setTop (mkF m q Ls (v :: S)))) : Go p e below F (T.setTop (mkF m pc Ls S)) := by
  subst hq; exact of (fun t k => XS.aloadN X.here C.1 rfl (hb C.2.2.1 hd) hl hv k) K
theorem istore (X : Stand p l e R s m args below meth c T locs cells slots) (C : Cx p s m meth c Z bytes maxL own mname ret) {k : Nat} {v : Int32} (hd : decode bytes pc = .ok (.istore k, 2)) (hl : storeLocals Ls k (.int v) = some L') (hq : pc + 2 = q) (K : Go p e below F (T.setTop (mkF m q L' S))) : Go p e below F (T.setTop (mkF m pc Ls (.int v :: S))) := by
  subst hq; exact of (fun t k => XS.istore X.here C.1 rfl (hb C.2.2.1 hd) rfl hl k) K
theorem istoreN (X : Stand p l e R s m args below meth c T locs cells slots) (C : Cx p s m meth c Z bytes maxL own mname ret) {k : Fin 4} {v : Int32} (hd : decode bytes pc = .ok (.istore_n k, 1)) (hl : storeLocals Ls k.val (.int v) = some L') (hq : pc + 1 = q) (K : Go p e below F (T.setTop (mkF m q L' S))) : Go p e below F (T.setTop (mkF m pc Ls (.int v :: S))) := by
  subst hq; exact of (fun t k => XS.istoreN X.here C.1 rfl (hb C.2.2.1 hd) rfl hl k) K
theorem lstore (X : Stand p l e R s m args below meth c T locs cells slots) (C : Cx p s m meth c Z bytes maxL own mname ret) {k : Nat} {v : Int64} (hd : decode bytes pc = .ok (.lstore k, 2)) (hl : storeLocals Ls k (.long v) = some L') (hq : pc + 2 = q) (K : Go p e below F (T.setTop (mkF m q L' S))) : Go p e below F (T.setTop (mkF m pc Ls (.long v :: S))) := by
  subst hq; exact of (fun t k => XS.lstore X.here C.1 rfl (hb C.2.2.1 hd) rfl hl k) K
theorem lstoreN (X : Stand p l e R s m args below meth c T locs cells slots) (C : Cx p s m meth c Z bytes maxL own mname ret) {k : Fin 4} {v : Int64} (hd : decode bytes pc = .ok (.lstore_n k, 1)) (hl : storeLocals Ls k.val (.long v) = some L') (hq : pc + 1 = q) (K : Go p e below F (T.setTop (mkF m q L' S))) : Go p e below F (T.setTop (mkF m pc Ls (.long v :: S))) := by
  subst hq; exact of (fun t k => XS.lstoreN X.here C.1 rfl (hb C.2.2.1 hd) rfl hl k) K
theorem astore (X : Stand p l e R s m args below meth c T locs cells slots) (C : Cx p s m meth c Z bytes maxL own mname ret) {k : Nat} {v : Value} (hd : decode bytes pc = .ok (.astore k, 2)) (hv : v.isRef = true) (hl : storeLocals Ls k v = some L') (hq : pc + 2 = q) (K : Go p e below F (T.setTop (mkF m q L' S))) : Go p e below F (T.setTop (mkF m pc Ls (v :: S))) := by
  subst hq; exact of (fun t k => XS.astore X.here C.1 rfl (hb C.2.2.1 hd) rfl hv hl k) K
theorem astoreN (X : Stand p l e R s m args below meth c T locs cells slots) (C : Cx p s m meth c Z bytes maxL own mname ret) {k : Fin 4} {v : Value} (hd : decode bytes pc = .ok (.astore_n k, 1)) (hv : v.isRef = true) (hl : storeLocals Ls k.val v = some L') (hq : pc + 1 = q) (K : Go p e below F (T.setTop (mkF m q L' S))) : Go p e below F (T.setTop (mkF m pc Ls (v :: S))) := by
  subst hq; exact of (fun t k => XS.astoreN X.here C.1 rfl (hb C.2.2.1 hd) rfl hv hl k) K
theorem iinc (X : Stand p l e R s m args below meth c T locs cells slots) (C : Cx p s m meth c Z bytes maxL own mname ret) {k : Nat} {i : Int} {x y : Int32} (hd : decode bytes pc = .ok (.iinc k i, 3)) (hl : Ls[k]? = some (.val (.int x))) (hy : x + Int32.ofInt i = y) (hl' : storeLocals Ls k (.int y) = some L') (hq : pc + 3 = q) (K : Go p e below F (T.setTop (mkF m q L' S))) : Go p e below F (T.setTop (mkF m pc Ls S)) := by
  subst hq hy; exact of (fun t k => XS.iinc X.here C.1 rfl (hb C.2.2.1 hd) hl hl' k) K
theorem iconst (X : Stand p l e R s m args below meth c T locs cells slots) (C : Cx p s m meth c Z bytes maxL own mname ret) {i : Int} {v : Int32} (hd : decode bytes pc = .ok (.iconst i, 1)) (hi : Int32.ofInt i = v) (hq : pc + 1 = q) (K : Go p e below F (T.setTop (mkF m q Ls (.int v :: S)))) : Go p e below F (T.setTop (mkF m pc Ls S)) := by
  subst hq hi; exact of (fun t k => XS.iconst X.here C.1 rfl (hb C.2.2.1 hd) k) K
theorem bipush (X : Stand p l e R s m args below meth c T locs cells slots) (C : Cx p s m meth c Z bytes maxL own mname ret) {i : Int} {v : Int32} (hd : decode bytes pc = .ok (.bipush i, 2)) (hi : (Int8.ofInt i).toInt32 = v) (hq : pc + 2 = q) (K : Go p e below F (T.setTop (mkF m q Ls (.int v :: S)))) : Go p e below F (T.setTop (mkF m pc Ls S)) := by
  subst hq hi; exact of (fun t k => XS.bipush X.here C.1 rfl (hb C.2.2.1 hd) k) K
theorem sipush (X : Stand p l e R s m args below meth c T locs cells slots) (C : Cx p s m meth c Z bytes maxL own mname ret) {i : Int} {v : Int32} (hd : decode bytes pc = .ok (.sipush i, 3)) (hi : (Int16.ofInt i).toInt32 = v) (hq : pc + 3 = q) (K : Go p e below F (T.setTop (mkF m q Ls (.int v :: S)))) : Go p e below F (T.setTop (mkF m pc Ls S)) := by
  subst hq hi; exact of (fun t k => XS.sipush X.here C.1 rfl (hb C.2.2.1 hd) k) K
theorem lconst0 (X : Stand p l e R s m args below meth c T locs cells slots) (C : Cx p s m meth c Z bytes maxL own mname ret) (hd : decode bytes pc = .ok (.lconst 0, 1)) (hq : pc + 1 = q) (K : Go p e below F (T.setTop (mkF m q Ls (.long 0 :: S)))) : Go p e below F (T.setTop (mkF m pc Ls S)) := by
  subst hq; exact of (fun t k => XS.lconst X.here C.1 rfl (hb C.2.2.1 hd) k) K
theorem lconst1 (X : Stand p l e R s m args below meth c T locs cells slots) (C : Cx p s m meth c Z bytes maxL own mname ret) (hd : decode bytes pc = .ok (.lconst 1, 1)) (hq : pc + 1 = q) (K : Go p e below F (T.setTop (mkF m q Ls (.long 1 :: S)))) : Go p e below F (T.setTop (mkF m pc Ls S)) := by
  subst hq; exact of (fun t k => XS.lconst X.here C.1 rfl (hb C.2.2.1 hd) k) K
theorem ldcI (X : Stand p l e R s m args below meth c T locs cells slots) (C : Cx p s m meth c Z bytes maxL own mname ret) {i : Nat} {v : Int32} (w : (Jvm.Cond.constant own i v).before a0 Z = true) (hd : decode bytes pc = .ok (.ldc i, 2)) (hq : pc + 2 = q) (K : Go p e below F (T.setTop (mkF m q Ls (.int v :: S)))) : Go p e below F (T.setTop (mkF m pc Ls S)) := by
  subst hq; exact of (X.ldcInt C.1 C.2.2.2.2.1 (mvT C.2.1 w) (g := mkF m pc Ls S) rfl (hb C.2.2.1 hd)) K
theorem ldcL (X : Stand p l e R s m args below meth c T locs cells slots) (C : Cx p s m meth c Z bytes maxL own mname ret) {i : Nat} {v : Int64} (w : (Jvm.Cond.constantLong own i v).before a0 Z = true) (hd : decode bytes pc = .ok (.ldc2_w i, 3)) (hq : pc + 3 = q) (K : Go p e below F (T.setTop (mkF m q Ls (.long v :: S)))) : Go p e below F (T.setTop (mkF m pc Ls S)) := by
  subst hq; exact of (X.ldc2Long C.1 C.2.2.2.2.1 (mvT C.2.1 w) (g := mkF m pc Ls S) rfl (hb C.2.2.1 hd)) K
theorem aconst (X : Stand p l e R s m args below meth c T locs cells slots) (C : Cx p s m meth c Z bytes maxL own mname ret) (hd : decode bytes pc = .ok (.aconst_null, 1)) (hq : pc + 1 = q) (K : Go p e below F (T.setTop (mkF m q Ls (.null :: S)))) : Go p e below F (T.setTop (mkF m pc Ls S)) := by
  subst hq; exact of (fun t k => XS.aconstNull X.here C.1 rfl (hb C.2.2.1 hd) k) K
theorem iadd (X : Stand p l e R s m args below meth c T locs cells slots) (C : Cx p s m meth c Z bytes maxL own mname ret) {x : Int32} {y : Int32} (hd : decode bytes pc = .ok (.iadd, 1)) (hq : pc + 1 = q) (K : Go p e below F (T.setTop (mkF m q Ls (.int (x + y) :: S)))) : Go p e below F (T.setTop (mkF m pc Ls (.int y :: .int x :: S))) := by
  subst hq; exact of (fun t k => XS.iadd X.here C.1 rfl (hb C.2.2.1 hd) rfl k) K
theorem ladd (X : Stand p l e R s m args below meth c T locs cells slots) (C : Cx p s m meth c Z bytes maxL own mname ret) {x : Int64} {y : Int64} (hd : decode bytes pc = .ok (.ladd, 1)) (hq : pc + 1 = q) (K : Go p e below F (T.setTop (mkF m q Ls (.long (x + y) :: S)))) : Go p e below F (T.setTop (mkF m pc Ls (.long y :: .long x :: S))) := by
  subst hq; exact of (fun t k => XS.ladd X.here C.1 rfl (hb C.2.2.1 hd) rfl k) K
theorem isub (X : Stand p l e R s m args below meth c T locs cells slots) (C : Cx p s m meth c Z bytes maxL own mname ret) {x : Int32} {y : Int32} (hd : decode bytes pc = .ok (.isub, 1)) (hq : pc + 1 = q) (K : Go p e below F (T.setTop (mkF m q Ls (.int (x - y) :: S)))) : Go p e below F (T.setTop (mkF m pc Ls (.int y :: .int x :: S))) := by
  subst hq; exact of (fun t k => XS.isub X.here C.1 rfl (hb C.2.2.1 hd) rfl k) K
theorem lsub (X : Stand p l e R s m args below meth c T locs cells slots) (C : Cx p s m meth c Z bytes maxL own mname ret) {x : Int64} {y : Int64} (hd : decode bytes pc = .ok (.lsub, 1)) (hq : pc + 1 = q) (K : Go p e below F (T.setTop (mkF m q Ls (.long (x - y) :: S)))) : Go p e below F (T.setTop (mkF m pc Ls (.long y :: .long x :: S))) := by
  subst hq; exact of (fun t k => XS.lsub X.here C.1 rfl (hb C.2.2.1 hd) rfl k) K
theorem imul (X : Stand p l e R s m args below meth c T locs cells slots) (C : Cx p s m meth c Z bytes maxL own mname ret) {x : Int32} {y : Int32} (hd : decode bytes pc = .ok (.imul, 1)) (hq : pc + 1 = q) (K : Go p e below F (T.setTop (mkF m q Ls (.int (x * y) :: S)))) : Go p e below F (T.setTop (mkF m pc Ls (.int y :: .int x :: S))) := by
  subst hq; exact of (fun t k => XS.imul X.here C.1 rfl (hb C.2.2.1 hd) rfl k) K
theorem lmul (X : Stand p l e R s m args below meth c T locs cells slots) (C : Cx p s m meth c Z bytes maxL own mname ret) {x : Int64} {y : Int64} (hd : decode bytes pc = .ok (.lmul, 1)) (hq : pc + 1 = q) (K : Go p e below F (T.setTop (mkF m q Ls (.long (x * y) :: S)))) : Go p e below F (T.setTop (mkF m pc Ls (.long y :: .long x :: S))) := by
  subst hq; exact of (fun t k => XS.lmul X.here C.1 rfl (hb C.2.2.1 hd) rfl k) K
theorem iand (X : Stand p l e R s m args below meth c T locs cells slots) (C : Cx p s m meth c Z bytes maxL own mname ret) {x : Int32} {y : Int32} (hd : decode bytes pc = .ok (.iand, 1)) (hq : pc + 1 = q) (K : Go p e below F (T.setTop (mkF m q Ls (.int (x &&& y) :: S)))) : Go p e below F (T.setTop (mkF m pc Ls (.int y :: .int x :: S))) := by
  subst hq; exact of (fun t k => XS.iand X.here C.1 rfl (hb C.2.2.1 hd) rfl k) K
theorem land (X : Stand p l e R s m args below meth c T locs cells slots) (C : Cx p s m meth c Z bytes maxL own mname ret) {x : Int64} {y : Int64} (hd : decode bytes pc = .ok (.land, 1)) (hq : pc + 1 = q) (K : Go p e below F (T.setTop (mkF m q Ls (.long (x &&& y) :: S)))) : Go p e below F (T.setTop (mkF m pc Ls (.long y :: .long x :: S))) := by
  subst hq; exact of (fun t k => XS.land X.here C.1 rfl (hb C.2.2.1 hd) rfl k) K
theorem ior (X : Stand p l e R s m args below meth c T locs cells slots) (C : Cx p s m meth c Z bytes maxL own mname ret) {x : Int32} {y : Int32} (hd : decode bytes pc = .ok (.ior, 1)) (hq : pc + 1 = q) (K : Go p e below F (T.setTop (mkF m q Ls (.int (x ||| y) :: S)))) : Go p e below F (T.setTop (mkF m pc Ls (.int y :: .int x :: S))) := by
  subst hq; exact of (fun t k => XS.ior X.here C.1 rfl (hb C.2.2.1 hd) rfl k) K
theorem lor (X : Stand p l e R s m args below meth c T locs cells slots) (C : Cx p s m meth c Z bytes maxL own mname ret) {x : Int64} {y : Int64} (hd : decode bytes pc = .ok (.lor, 1)) (hq : pc + 1 = q) (K : Go p e below F (T.setTop (mkF m q Ls (.long (x ||| y) :: S)))) : Go p e below F (T.setTop (mkF m pc Ls (.long y :: .long x :: S))) := by
  subst hq; exact of (fun t k => XS.lor X.here C.1 rfl (hb C.2.2.1 hd) rfl k) K
theorem ixor (X : Stand p l e R s m args below meth c T locs cells slots) (C : Cx p s m meth c Z bytes maxL own mname ret) {x : Int32} {y : Int32} (hd : decode bytes pc = .ok (.ixor, 1)) (hq : pc + 1 = q) (K : Go p e below F (T.setTop (mkF m q Ls (.int (x ^^^ y) :: S)))) : Go p e below F (T.setTop (mkF m pc Ls (.int y :: .int x :: S))) := by
  subst hq; exact of (fun t k => XS.ixor X.here C.1 rfl (hb C.2.2.1 hd) rfl k) K
theorem lxor (X : Stand p l e R s m args below meth c T locs cells slots) (C : Cx p s m meth c Z bytes maxL own mname ret) {x : Int64} {y : Int64} (hd : decode bytes pc = .ok (.lxor, 1)) (hq : pc + 1 = q) (K : Go p e below F (T.setTop (mkF m q Ls (.long (x ^^^ y) :: S)))) : Go p e below F (T.setTop (mkF m pc Ls (.long y :: .long x :: S))) := by
  subst hq; exact of (fun t k => XS.lxor X.here C.1 rfl (hb C.2.2.1 hd) rfl k) K
theorem ishl (X : Stand p l e R s m args below meth c T locs cells slots) (C : Cx p s m meth c Z bytes maxL own mname ret) {x : Int32} {y : Int32} (hd : decode bytes pc = .ok (.ishl, 1)) (hq : pc + 1 = q) (K : Go p e below F (T.setTop (mkF m q Ls (.int (x <<< (y &&& 31)) :: S)))) : Go p e below F (T.setTop (mkF m pc Ls (.int y :: .int x :: S))) := by
  subst hq; exact of (fun t k => XS.ishl X.here C.1 rfl (hb C.2.2.1 hd) rfl k) K
theorem ishr (X : Stand p l e R s m args below meth c T locs cells slots) (C : Cx p s m meth c Z bytes maxL own mname ret) {x : Int32} {y : Int32} (hd : decode bytes pc = .ok (.ishr, 1)) (hq : pc + 1 = q) (K : Go p e below F (T.setTop (mkF m q Ls (.int (x >>> (y &&& 31)) :: S)))) : Go p e below F (T.setTop (mkF m pc Ls (.int y :: .int x :: S))) := by
  subst hq; exact of (fun t k => XS.ishr X.here C.1 rfl (hb C.2.2.1 hd) rfl k) K
theorem iushr (X : Stand p l e R s m args below meth c T locs cells slots) (C : Cx p s m meth c Z bytes maxL own mname ret) {x : Int32} {y : Int32} (hd : decode bytes pc = .ok (.iushr, 1)) (hq : pc + 1 = q) (K : Go p e below F (T.setTop (mkF m q Ls (.int ((x.toUInt32 >>> (y &&& 31).toUInt32).toInt32) :: S)))) : Go p e below F (T.setTop (mkF m pc Ls (.int y :: .int x :: S))) := by
  subst hq; exact of (fun t k => XS.iushr X.here C.1 rfl (hb C.2.2.1 hd) rfl k) K
theorem lshl (X : Stand p l e R s m args below meth c T locs cells slots) (C : Cx p s m meth c Z bytes maxL own mname ret) {x : Int64} {y : Int32} (hd : decode bytes pc = .ok (.lshl, 1)) (hq : pc + 1 = q) (K : Go p e below F (T.setTop (mkF m q Ls (.long (x <<< (y &&& 0x3f).toInt64) :: S)))) : Go p e below F (T.setTop (mkF m pc Ls (.int y :: .long x :: S))) := by
  subst hq; exact of (fun t k => XS.lshl X.here C.1 rfl (hb C.2.2.1 hd) rfl k) K
theorem lshr (X : Stand p l e R s m args below meth c T locs cells slots) (C : Cx p s m meth c Z bytes maxL own mname ret) {x : Int64} {y : Int32} (hd : decode bytes pc = .ok (.lshr, 1)) (hq : pc + 1 = q) (K : Go p e below F (T.setTop (mkF m q Ls (.long (x >>> (y &&& 0x3f).toInt64) :: S)))) : Go p e below F (T.setTop (mkF m pc Ls (.int y :: .long x :: S))) := by
  subst hq; exact of (fun t k => XS.lshr X.here C.1 rfl (hb C.2.2.1 hd) rfl k) K
theorem lushr (X : Stand p l e R s m args below meth c T locs cells slots) (C : Cx p s m meth c Z bytes maxL own mname ret) {x : Int64} {y : Int32} (hd : decode bytes pc = .ok (.lushr, 1)) (hq : pc + 1 = q) (K : Go p e below F (T.setTop (mkF m q Ls (.long ((x.toUInt64 >>> (y &&& 0x3f).toInt64.toUInt64).toInt64) :: S)))) : Go p e below F (T.setTop (mkF m pc Ls (.int y :: .long x :: S))) := by
  subst hq; exact of (fun t k => XS.lushr X.here C.1 rfl (hb C.2.2.1 hd) rfl k) K
theorem ineg (X : Stand p l e R s m args below meth c T locs cells slots) (C : Cx p s m meth c Z bytes maxL own mname ret) {x : Int32} (hd : decode bytes pc = .ok (.ineg, 1)) (hq : pc + 1 = q) (K : Go p e below F (T.setTop (mkF m q Ls (.int (-x) :: S)))) : Go p e below F (T.setTop (mkF m pc Ls (.int x :: S))) := by
  subst hq; exact of (fun t k => XS.ineg X.here C.1 rfl (hb C.2.2.1 hd) rfl k) K
theorem lneg (X : Stand p l e R s m args below meth c T locs cells slots) (C : Cx p s m meth c Z bytes maxL own mname ret) {x : Int64} (hd : decode bytes pc = .ok (.lneg, 1)) (hq : pc + 1 = q) (K : Go p e below F (T.setTop (mkF m q Ls (.long (-x) :: S)))) : Go p e below F (T.setTop (mkF m pc Ls (.long x :: S))) := by
  subst hq; exact of (fun t k => XS.lneg X.here C.1 rfl (hb C.2.2.1 hd) rfl k) K
theorem i2l (X : Stand p l e R s m args below meth c T locs cells slots) (C : Cx p s m meth c Z bytes maxL own mname ret) {x : Int32} (hd : decode bytes pc = .ok (.i2l, 1)) (hq : pc + 1 = q) (K : Go p e below F (T.setTop (mkF m q Ls (.long (x.toInt64) :: S)))) : Go p e below F (T.setTop (mkF m pc Ls (.int x :: S))) := by
  subst hq; exact of (fun t k => XS.i2l X.here C.1 rfl (hb C.2.2.1 hd) rfl k) K
theorem l2i (X : Stand p l e R s m args below meth c T locs cells slots) (C : Cx p s m meth c Z bytes maxL own mname ret) {x : Int64} (hd : decode bytes pc = .ok (.l2i, 1)) (hq : pc + 1 = q) (K : Go p e below F (T.setTop (mkF m q Ls (.int (x.toInt32) :: S)))) : Go p e below F (T.setTop (mkF m pc Ls (.long x :: S))) := by
  subst hq; exact of (fun t k => XS.l2i X.here C.1 rfl (hb C.2.2.1 hd) rfl k) K
theorem i2b (X : Stand p l e R s m args below meth c T locs cells slots) (C : Cx p s m meth c Z bytes maxL own mname ret) {x : Int32} (hd : decode bytes pc = .ok (.i2b, 1)) (hq : pc + 1 = q) (K : Go p e below F (T.setTop (mkF m q Ls (.int (x.toInt8.toInt32) :: S)))) : Go p e below F (T.setTop (mkF m pc Ls (.int x :: S))) := by
  subst hq; exact of (fun t k => XS.i2b X.here C.1 rfl (hb C.2.2.1 hd) rfl k) K
theorem i2s (X : Stand p l e R s m args below meth c T locs cells slots) (C : Cx p s m meth c Z bytes maxL own mname ret) {x : Int32} (hd : decode bytes pc = .ok (.i2s, 1)) (hq : pc + 1 = q) (K : Go p e below F (T.setTop (mkF m q Ls (.int (x.toInt16.toInt32) :: S)))) : Go p e below F (T.setTop (mkF m pc Ls (.int x :: S))) := by
  subst hq; exact of (fun t k => XS.i2s X.here C.1 rfl (hb C.2.2.1 hd) rfl k) K
theorem i2c (X : Stand p l e R s m args below meth c T locs cells slots) (C : Cx p s m meth c Z bytes maxL own mname ret) {x : Int32} (hd : decode bytes pc = .ok (.i2c, 1)) (hq : pc + 1 = q) (K : Go p e below F (T.setTop (mkF m q Ls (.int (x.toUInt32.toUInt16.toUInt32.toInt32) :: S)))) : Go p e below F (T.setTop (mkF m pc Ls (.int x :: S))) := by
  subst hq; exact of (fun t k => XS.i2c X.here C.1 rfl (hb C.2.2.1 hd) rfl k) K
theorem idiv (X : Stand p l e R s m args below meth c T locs cells slots) (C : Cx p s m meth c Z bytes maxL own mname ret) {x y : Int32} (hd : decode bytes pc = .ok (.idiv, 1)) (hy : y ≠ 0) (hq : pc + 1 = q) (K : Go p e below F (T.setTop (mkF m q Ls (.int (x / y) :: S)))) : Go p e below F (T.setTop (mkF m pc Ls (.int y :: .int x :: S))) := by
  subst hq; exact of (fun t k => XS.idiv X.here C.1 rfl (hb C.2.2.1 hd) rfl hy k) K
theorem irem (X : Stand p l e R s m args below meth c T locs cells slots) (C : Cx p s m meth c Z bytes maxL own mname ret) {x y : Int32} (hd : decode bytes pc = .ok (.irem, 1)) (hy : y ≠ 0) (hq : pc + 1 = q) (K : Go p e below F (T.setTop (mkF m q Ls (.int (x % y) :: S)))) : Go p e below F (T.setTop (mkF m pc Ls (.int y :: .int x :: S))) := by
  subst hq; exact of (fun t k => iremM (g := mkF m pc Ls (.int y :: .int x :: S)) X C.1 rfl (hb C.2.2.1 hd) rfl hy k) K
theorem ldiv (X : Stand p l e R s m args below meth c T locs cells slots) (C : Cx p s m meth c Z bytes maxL own mname ret) {x y : Int64} (hd : decode bytes pc = .ok (.ldiv, 1)) (hy : y ≠ 0) (hq : pc + 1 = q) (K : Go p e below F (T.setTop (mkF m q Ls (.long (x / y) :: S)))) : Go p e below F (T.setTop (mkF m pc Ls (.long y :: .long x :: S))) := by
  subst hq; exact of (fun t k => XS.ldiv X.here C.1 rfl (hb C.2.2.1 hd) rfl hy k) K
theorem lcmp (X : Stand p l e R s m args below meth c T locs cells slots) (C : Cx p s m meth c Z bytes maxL own mname ret) {x y : Int64} (hd : decode bytes pc = .ok (.lcmp, 1)) (hq : pc + 1 = q) (K : Go p e below F (T.setTop (mkF m q Ls (.int (lcmpW x y) :: S)))) : Go p e below F (T.setTop (mkF m pc Ls (.long y :: .long x :: S))) := by
  subst hq; exact of (fun t k => XS.lcmp X.here C.1 rfl (hb C.2.2.1 hd) rfl k) K
theorem dup (X : Stand p l e R s m args below meth c T locs cells slots) (C : Cx p s m meth c Z bytes maxL own mname ret) {v : Value} (hd : decode bytes pc = .ok (.dup, 1)) (hv : v.category = 1) (hq : pc + 1 = q) (K : Go p e below F (T.setTop (mkF m q Ls (v :: v :: S)))) : Go p e below F (T.setTop (mkF m pc Ls (v :: S))) := by
  subst hq; exact of (fun t k => XS.dup X.here C.1 rfl (hb C.2.2.1 hd) rfl hv k) K
theorem dupX1 (X : Stand p l e R s m args below meth c T locs cells slots) (C : Cx p s m meth c Z bytes maxL own mname ret) {v w : Value} (hd : decode bytes pc = .ok (.dup_x1, 1)) (hv : v.category = 1) (hw : w.category = 1) (hq : pc + 1 = q) (K : Go p e below F (T.setTop (mkF m q Ls (v :: w :: v :: S)))) : Go p e below F (T.setTop (mkF m pc Ls (v :: w :: S))) := by
  subst hq; exact of (fun t k => XS.dupX1 X.here C.1 rfl (hb C.2.2.1 hd) rfl hv hw k) K
theorem pop (X : Stand p l e R s m args below meth c T locs cells slots) (C : Cx p s m meth c Z bytes maxL own mname ret) {v : Value} (hd : decode bytes pc = .ok (.pop, 1)) (hv : v.category = 1) (hq : pc + 1 = q) (K : Go p e below F (T.setTop (mkF m q Ls S))) : Go p e below F (T.setTop (mkF m pc Ls (v :: S))) := by
  subst hq; exact of (fun t k => XS.pop X.here C.1 rfl (hb C.2.2.1 hd) rfl hv k) K
theorem goto (X : Stand p l e R s m args below meth c T locs cells slots) (C : Cx p s m meth c Z bytes maxL own mname ret) {o : Int} (hd : decode bytes pc = .ok (.goto o, 3)) (ho : 0 ≤ (pc : Int) + o) (hq : ((pc : Int) + o).toNat = q) (K : Go p e below F (T.setTop (mkF m q Ls S))) : Go p e below F (T.setTop (mkF m pc Ls S)) :=
  of (fun t k => XS.goto X.here C.1 rfl rfl (hb C.2.2.1 hd) ho hq k) K
theorem icmpT (X : Stand p l e R s m args below meth c T locs cells slots) (C : Cx p s m meth c Z bytes maxL own mname ret) {cd : ClassFile.Cond} {o : Int} {x y : Int32} (hd : decode bytes pc = .ok (.if_icmp cd o, 3)) (ho : 0 ≤ (pc : Int) + o) (hq : ((pc : Int) + o).toNat = q) (hc : cT cd x y) (K : Go p e below F (T.setTop (mkF m q Ls S))) : Go p e below F (T.setTop (mkF m pc Ls (.int y :: .int x :: S))) :=
  of (fun t k => XS.icmpYes X.here C.1 rfl rfl (hb C.2.2.1 hd) rfl (holdsT hc) ho hq k) K
theorem icmpF (X : Stand p l e R s m args below meth c T locs cells slots) (C : Cx p s m meth c Z bytes maxL own mname ret) {cd : ClassFile.Cond} {o : Int} {x y : Int32} (hd : decode bytes pc = .ok (.if_icmp cd o, 3)) (hq : pc + 3 = q) (hc : cF cd x y) (K : Go p e below F (T.setTop (mkF m q Ls S))) : Go p e below F (T.setTop (mkF m pc Ls (.int y :: .int x :: S))) := by
  subst hq; exact of (fun t k => XS.icmpNo X.here C.1 rfl (hb C.2.2.1 hd) rfl (holdsF hc) k) K
theorem icmp (X : Stand p l e R s m args below meth c T locs cells slots) (C : Cx p s m meth c Z bytes maxL own mname ret) {cd : ClassFile.Cond} {o : Int} {x y : Int32} {q' : Nat} (hd : decode bytes pc = .ok (.if_icmp cd o, 3)) (ho : 0 ≤ (pc : Int) + o) (hq : ((pc : Int) + o).toNat = q) (hq' : pc + 3 = q') (K : cT cd x y → Go p e below F (T.setTop (mkF m q Ls S))) (K' : cF cd x y → Go p e below F (T.setTop (mkF m q' Ls S))) : Go p e below F (T.setTop (mkF m pc Ls (.int y :: .int x :: S))) :=
  (cTF cd x y).elim (fun hc => icmpT X C hd ho hq hc (K hc)) (fun hc => icmpF X C hd hq' hc (K' hc))
theorem ifT (X : Stand p l e R s m args below meth c T locs cells slots) (C : Cx p s m meth c Z bytes maxL own mname ret) {cd : ClassFile.Cond} {o : Int} {x : Int32} (hd : decode bytes pc = .ok (.ifCond cd o, 3)) (ho : 0 ≤ (pc : Int) + o) (hq : ((pc : Int) + o).toNat = q) (hc : cT cd x 0) (K : Go p e below F (T.setTop (mkF m q Ls S))) : Go p e below F (T.setTop (mkF m pc Ls (.int x :: S))) :=
  of (fun t k => XS.ifYes X.here C.1 rfl rfl (hb C.2.2.1 hd) rfl ((if0 _ _).trans (holdsT hc)) ho hq k) K
theorem ifF (X : Stand p l e R s m args below meth c T locs cells slots) (C : Cx p s m meth c Z bytes maxL own mname ret) {cd : ClassFile.Cond} {o : Int} {x : Int32} (hd : decode bytes pc = .ok (.ifCond cd o, 3)) (hq : pc + 3 = q) (hc : cF cd x 0) (K : Go p e below F (T.setTop (mkF m q Ls S))) : Go p e below F (T.setTop (mkF m pc Ls (.int x :: S))) := by
  subst hq; exact of (fun t k => XS.ifNo X.here C.1 rfl (hb C.2.2.1 hd) rfl ((if0 _ _).trans (holdsF hc)) k) K
theorem if_ (X : Stand p l e R s m args below meth c T locs cells slots) (C : Cx p s m meth c Z bytes maxL own mname ret) {cd : ClassFile.Cond} {o : Int} {x : Int32} {q' : Nat} (hd : decode bytes pc = .ok (.ifCond cd o, 3)) (ho : 0 ≤ (pc : Int) + o) (hq : ((pc : Int) + o).toNat = q) (hq' : pc + 3 = q') (K : cT cd x 0 → Go p e below F (T.setTop (mkF m q Ls S))) (K' : cF cd x 0 → Go p e below F (T.setTop (mkF m q' Ls S))) : Go p e below F (T.setTop (mkF m pc Ls (.int x :: S))) :=
  (cTF cd x 0).elim (fun hc => ifT X C hd ho hq hc (K hc)) (fun hc => ifF X C hd hq' hc (K' hc))
theorem ifnullT (X : Stand p l e R s m args below meth c T locs cells slots) (C : Cx p s m meth c Z bytes maxL own mname ret) {o : Int} (hd : decode bytes pc = .ok (.ifnull o, 3)) (ho : 0 ≤ (pc : Int) + o) (hq : ((pc : Int) + o).toNat = q) (K : Go p e below F (T.setTop (mkF m q Ls S))) : Go p e below F (T.setTop (mkF m pc Ls (.null :: S))) :=
  of (fun t k => XS.ifnullYes X.here C.1 rfl rfl (hb C.2.2.1 hd) rfl ho hq k) K
theorem ifnullF (X : Stand p l e R s m args below meth c T locs cells slots) (C : Cx p s m meth c Z bytes maxL own mname ret) {o : Int} {a : Addr} (hd : decode bytes pc = .ok (.ifnull o, 3)) (hq : pc + 3 = q) (K : Go p e below F (T.setTop (mkF m q Ls S))) : Go p e below F (T.setTop (mkF m pc Ls (.ref a :: S))) := by
  subst hq; exact of (fun t k => XS.ifnullNo X.here C.1 rfl (hb C.2.2.1 hd) rfl k) K
theorem ifnonnullT (X : Stand p l e R s m args below meth c T locs cells slots) (C : Cx p s m meth c Z bytes maxL own mname ret) {o : Int} {a : Addr} (hd : decode bytes pc = .ok (.ifnonnull o, 3)) (ho : 0 ≤ (pc : Int) + o) (hq : ((pc : Int) + o).toNat = q) (K : Go p e below F (T.setTop (mkF m q Ls S))) : Go p e below F (T.setTop (mkF m pc Ls (.ref a :: S))) :=
  of (fun t k => XS.ifnonnullYes X.here C.1 rfl rfl (hb C.2.2.1 hd) rfl ho hq k) K
theorem ifnonnullF (X : Stand p l e R s m args below meth c T locs cells slots) (C : Cx p s m meth c Z bytes maxL own mname ret) {o : Int} (hd : decode bytes pc = .ok (.ifnonnull o, 3)) (hq : pc + 3 = q) (K : Go p e below F (T.setTop (mkF m q Ls S))) : Go p e below F (T.setTop (mkF m pc Ls (.null :: S))) := by
  subst hq; exact of (fun t k => XS.ifnonnullNo X.here C.1 rfl (hb C.2.2.1 hd) rfl k) K
/-! calls -/
theorem callS (X : Stand p l e R s m args below meth c T locs cells slots) (C : Cx p s m meth c Z bytes maxL own mname ret) {y : MethodName} {i : Nat} {yb : ByteArray} {ym : Nat} {yr : Option FieldType} (w1 : (Jvm.Cond.methodLink own i y).before a0 Z = true) (w2 : (Jvm.Cond.static y).before a0 Z = true) (w3 : (Jvm.Cond.initialized y.cls).before a0 Z = true) (w4 : (Jvm.Cond.code y yb ym yr).before a0 Z = true) (hy : y.cls ≠ "java/lang/invoke/MethodHandle" ∧ y.cls ≠ "java/lang/invoke/VarHandle")
    {rm : Room} {as' : Array Value} {Q : Option Value → Heap → List Loc → Prop} (hM : MetFree l y (head1 [Jvm.Cond.code y yb ym yr] rm) (fun a U => a = as' ∧ Z.Warmed39 U.vm ∧ U.heap = h) (fun _ _ _ _ _ => True) (fun _ U o U' => ∃ v L, o = .returned v ∧ Q v U'.heap L ∧ FrameEnd U o U' L rm.cells rm.slots))
    (eT : T.heap = h) (hd : decode bytes pc = .ok (.invokestatic i, 3)) (argsL : List Value) (rest : List Value) (hS : S = argsL.reverse ++ rest) (has : as' = argsL.toArray) {ps : List FieldType} {r : Option FieldType} (hpd : parseMethodDescriptor y.desc = some ⟨ps, r⟩) (hlen : argsL.length = ps.length) (hsz : Ls.size = maxL)
    (hf : rm.frames + 1 ≤ R.frames) (hl : (rest.map fun v => v.category).sum + (ym + 11) + rm.locals ≤ R.locals) (hc : cells + rm.cells ≤ R.cells) (hsl : slots + rm.slots ≤ R.slots) (hq : pc + 3 = q)
    (K : ∀ (T' : State) (v : Option Value) (L : List Loc), Stand p l e R s m args below meth c T' (locs ++ L) (cells + rm.cells) (slots + rm.slots) → Q v T'.heap L → Go p e below F (T'.setTop (mkF m q Ls (v.toList ++ rest)))) : Go p e below F (T.setTop (mkF m pc Ls S)) := by
  subst hq hS has
  obtain ⟨hx, hZ, hby, hml, hown, hnm, hret, hlk⟩ := C
  obtain ⟨v, _, ⟨T1, L1, k1, n1⟩, -, X1, ⟨Lc, hQ, l1, y1, z1⟩, st⟩ := Jvm.LawKit.callS X hx hown (mvT hZ w1) (mvT hZ w2) (mvT hZ w3) (mvT hZ w4) hy (backOf (W := (rest.map fun v => v.category).sum) hM hZ w4 w3 hf hl) (g := mkF m pc Ls (argsL.reverse ++ rest)) rfl (by rw [hml]; exact hsz) (argsL := argsL) (rest := rest) (lenOf hpd hlen) rfl (by show 2 * 0 + _ ≤ _; omega) (hb hby hd) (fun _ _ => ⟨rfl, eT, hc, hsl⟩)
  dsimp only [Pt.U, Pt.locs, Pt.cells, Pt.slots] at X1 l1 y1 z1 st hQ
  subst l1 y1 z1
  exact of st (K T1 v Lc X1 hQ)
theorem callI (X : Stand p l e R s m args below meth c T locs cells slots) (C : Cx p s m meth c Z bytes maxL own mname ret) {y : MethodName} {i : Nat} {yb : ByteArray} {ym : Nat} (hy1 : y.name = "<init>") (w1 : (Jvm.Cond.methodLink own i y).before a0 Z = true) (w2 : (Jvm.Cond.instanceMethod y).before a0 Z = true) (w3 : (Jvm.Cond.initialized y.cls).before a0 Z = true) (w4 : (Jvm.Cond.code y yb ym none).before a0 Z = true) (hy : y.cls ≠ "java/lang/invoke/MethodHandle" ∧ y.cls ≠ "java/lang/invoke/VarHandle")
    {rm : Room} {as' : Array Value} {Q : Option Value → Heap → List Loc → Prop} (hM : MetFree l y (head1 [Jvm.Cond.code y yb ym none] rm) (fun a U => a = as' ∧ Z.Warmed39 U.vm ∧ U.heap = h) (fun _ _ _ _ _ => True) (fun _ U o U' => ∃ v L, o = .returned v ∧ Q v U'.heap L ∧ FrameEnd U o U' L rm.cells rm.slots))
    (eT : T.heap = h) (hd : decode bytes pc = .ok (.invokespecial i, 3)) {a : Addr} (argsL : List Value) (rest : List Value) (hS : S = argsL.reverse ++ .ref a :: rest) (has : as' = (.ref a :: argsL).toArray) {ps : List FieldType} {r : Option FieldType} (hpd : parseMethodDescriptor y.desc = some ⟨ps, r⟩) (hlen : argsL.length = ps.length) (hsz : Ls.size = maxL)
    (hf : rm.frames + 1 ≤ R.frames) (hl : (rest.map fun v => v.category).sum + (ym + 11) + rm.locals ≤ R.locals) (hc : cells + rm.cells ≤ R.cells) (hsl : slots + rm.slots ≤ R.slots) (hq : pc + 3 = q)
    (K : ∀ (T' : State) (v : Option Value) (L : List Loc), Stand p l e R s m args below meth c T' (locs ++ L) (cells + rm.cells) (slots + rm.slots) → Q v T'.heap L → Go p e below F (T'.setTop (mkF m q Ls (v.toList ++ rest)))) : Go p e below F (T.setTop (mkF m pc Ls S)) := by
  subst hq hS has
  obtain ⟨hx, hZ, hby, hml, hown, hnm, hret, hlk⟩ := C
  obtain ⟨v, _, ⟨T1, L1, k1, n1⟩, -, X1, ⟨Lc, hQ, l1, y1, z1⟩, st⟩ := X.specialBack hx hy1 hown (mvT hZ w1) (mvT hZ w2) (mvT hZ w4) hy (backOf (W := (rest.map fun v => v.category).sum) hM hZ w4 w3 hf hl) (g := mkF m pc Ls (argsL.reverse ++ .ref a :: rest)) rfl (by rw [hml]; exact hsz) (Steps.refl _) (a := a) (argsL := argsL) (rest := rest) (lenOf hpd hlen) rfl (by show 2 * 0 + _ ≤ _; omega) (hb hby hd) (fun _ _ => ⟨rfl, eT, hc, hsl⟩)
  dsimp only [Pt.U, Pt.locs, Pt.cells, Pt.slots] at X1 l1 y1 z1 st hQ
  subst l1 y1 z1
  exact tr st (K T1 v Lc X1 hQ)
theorem callV (X : Stand p l e R s m args below meth c T locs cells slots) (C : Cx p s m meth c Z bytes maxL own mname ret) {y z : MethodName} {i : Nat} {Cn : String} {yb : ByteArray} {ym : Nat} {yr : Option FieldType} (w1 : (Jvm.Cond.methodLink own i y).before a0 Z = true) (w2 : (Jvm.Cond.declares y).before a0 Z = true) (hnf : NotFace s y) (ws : (Jvm.Cond.selects Cn y z).before a0 Z = true) (wi : (Jvm.Cond.instanceMethod z).before a0 Z = true) (w3 : (Jvm.Cond.initialized z.cls).before a0 Z = true) (w4 : (Jvm.Cond.code z yb ym yr).before a0 Z = true) (hy : y.cls ≠ "java/lang/invoke/MethodHandle" ∧ y.cls ≠ "java/lang/invoke/VarHandle")
    {rm : Room} {as' : Array Value} {Q : Option Value → Heap → List Loc → Prop} (hM : MetFree l z (head1 [Jvm.Cond.code z yb ym yr] rm) (fun a U => a = as' ∧ Z.Warmed39 U.vm ∧ U.heap = h) (fun _ _ _ _ _ => True) (fun _ U o U' => ∃ v L, o = .returned v ∧ Q v U'.heap L ∧ FrameEnd U o U' L rm.cells rm.slots))
    (eT : T.heap = h) {a : Addr} (E : Exa Z h a Cn) (hd : decode bytes pc = .ok (.invokevirtual i, 3)) (argsL : List Value) (rest : List Value) (hS : S = argsL.reverse ++ .ref a :: rest) (has : as' = (.ref a :: argsL).toArray) {ps : List FieldType} {r : Option FieldType} (hpd : parseMethodDescriptor y.desc = some ⟨ps, r⟩) (hlen : argsL.length = ps.length) (hsz : Ls.size = maxL)
    (hf : rm.frames + 1 ≤ R.frames) (hl : (rest.map fun v => v.category).sum + (ym + 11) + rm.locals ≤ R.locals) (hc : cells + rm.cells ≤ R.cells) (hsl : slots + rm.slots ≤ R.slots) (hq : pc + 3 = q)
    (K : ∀ (T' : State) (v : Option Value) (L : List Loc), Stand p l e R s m args below meth c T' (locs ++ L) (cells + rm.cells) (slots + rm.slots) → Q v T'.heap L → Go p e below F (T'.setTop (mkF m q Ls (v.toList ++ rest)))) : Go p e below F (T.setTop (mkF m pc Ls S)) := by
  subst hq hS has
  obtain ⟨hx, hZ, hby, hml, hown, hnm, hret, hlk⟩ := C
  obtain ⟨cq, kq, qa, qb, qc⟩ := isOf hZ eT E
  obtain ⟨v, _, ⟨T1, L1, k1, n1⟩, -, X1, ⟨Lc, hQ, l1, y1, z1⟩, st⟩ := X.virtualBack hx hown (mvT hZ w1) (mvT hZ w2) hnf (mvT hZ ws) (mvT hZ wi) hy (backOf (W := (rest.map fun v => v.category).sum) hM hZ w4 w3 hf hl) qa qc (g := mkF m pc Ls (argsL.reverse ++ .ref a :: rest)) rfl (by rw [hml]; exact hsz) (Steps.refl _) (argsL := argsL) (rest := rest) (lenOf hpd hlen) rfl (by show 2 * 0 + _ ≤ _; omega) (hb hby hd) (fun _ _ => ⟨rfl, eT, hc, hsl⟩)
  dsimp only [Pt.U, Pt.locs, Pt.cells, Pt.slots] at X1 l1 y1 z1 st hQ
  subst l1 y1 z1
  exact tr st (K T1 v Lc X1 hQ)
theorem callP (X : Stand p l e R s m args below meth c T locs cells slots) (C : Cx p s m meth c Z bytes maxL own mname ret) {y y2 : MethodName} {i : Nat} {Cn : String} {yb : ByteArray} {ym : Nat} {yr : Option FieldType} (w1 : (Jvm.Cond.methodLink own i y).before a0 Z = true) (wi : (Jvm.Cond.instanceMethod y).before a0 Z = true) (wp : (Jvm.Cond.privateMethod y).before a0 Z = true) (hcls : y2.cls = y.cls) (ws : (Jvm.Cond.selects y2.cls y2 y2).before a0 Z = true) (w3 : (Jvm.Cond.initialized y.cls).before a0 Z = true) (w4 : (Jvm.Cond.code y yb ym yr).before a0 Z = true) (hy : y.cls ≠ "java/lang/invoke/MethodHandle" ∧ y.cls ≠ "java/lang/invoke/VarHandle")
    {rm : Room} {as' : Array Value} {Q : Option Value → Heap → List Loc → Prop} (hM : MetFree l y (head1 [Jvm.Cond.code y yb ym yr] rm) (fun a U => a = as' ∧ Z.Warmed39 U.vm ∧ U.heap = h) (fun _ _ _ _ _ => True) (fun _ U o U' => ∃ v L, o = .returned v ∧ Q v U'.heap L ∧ FrameEnd U o U' L rm.cells rm.slots))
    (eT : T.heap = h) {a : Addr} (E : Exa Z h a Cn) (hd : decode bytes pc = .ok (.invokevirtual i, 3)) (argsL : List Value) (rest : List Value) (hS : S = argsL.reverse ++ .ref a :: rest) (has : as' = (.ref a :: argsL).toArray) {ps : List FieldType} {r : Option FieldType} (hpd : parseMethodDescriptor y.desc = some ⟨ps, r⟩) (hlen : argsL.length = ps.length) (hsz : Ls.size = maxL)
    (hf : rm.frames + 1 ≤ R.frames) (hl : (rest.map fun v => v.category).sum + (ym + 11) + rm.locals ≤ R.locals) (hc : cells + rm.cells ≤ R.cells) (hsl : slots + rm.slots ≤ R.slots) (hq : pc + 3 = q)
    (K : ∀ (T' : State) (v : Option Value) (L : List Loc), Stand p l e R s m args below meth c T' (locs ++ L) (cells + rm.cells) (slots + rm.slots) → Q v T'.heap L → Go p e below F (T'.setTop (mkF m q Ls (v.toList ++ rest)))) : Go p e below F (T.setTop (mkF m pc Ls S)) := by
  subst hq hS has
  obtain ⟨hx, hZ, hby, hml, hown, hnm, hret, hlk⟩ := C
  obtain ⟨cl, qa, qb⟩ := E.cell
  rw [← eT] at qa
  have ws' : (Jvm.Cond.selects y2.cls y2 y2).before args s = true := mvT hZ ws
  obtain ⟨_, _, m2, -, -, q3, -, kP, hkP, hkPi⟩ := Cond.selects_spec ws'
  have hfc := findClass_of_methodNamed q3
  rw [hcls] at hfc
  have hpr : s.PrivateAt y := Cond.privateMethod_at (args := args) (mvP hZ wp)
  have hsel := Jvm.Stand.selects_self_of_private (args := args) hfc hkP hkPi hpr (mvT hZ wi) hy
  obtain ⟨v, _, ⟨T1, L1, k1, n1⟩, -, X1, ⟨Lc, hQ, l1, y1, z1⟩, st⟩ := X.privateBack hx hown (mvT hZ w1) (mvT hZ wi) hsel hpr (mvT hZ w4) hy (backOf (W := (rest.map fun v => v.category).sum) hM hZ w4 w3 hf hl) (g := mkF m pc Ls (argsL.reverse ++ .ref a :: rest)) rfl (by rw [hml]; exact hsz) (Steps.refl _) qa qb (argsL := argsL) (rest := rest) (lenOf hpd hlen) rfl (by show 2 * 0 + _ ≤ _; omega) (hb hby hd) (fun _ _ => ⟨rfl, eT, hc, hsl⟩)
  dsimp only [Pt.U, Pt.locs, Pt.cells, Pt.slots] at X1 l1 y1 z1 st hQ
  subst l1 y1 z1
  exact tr st (K T1 v Lc X1 hQ)
theorem nf (C : Cx p s m meth c Z bytes maxL own mname ret) {Cn : String} {y : MethodName} (ws : (Jvm.Cond.selects Cn y y).before a0 Z = true) : NotFace s y := notFace_of_selects (args := #[]) (mvT C.2.1 ws)
theorem initObj (X : Stand p l e R s m args below meth c T locs cells slots) (C : Cx p s m meth c Z bytes maxL own mname ret) {i : Nat} (w1 : (Jvm.Cond.methodLink own i ⟨"java/lang/Object", "<init>", "()V"⟩).before a0 Z = true) (w2 : (Jvm.Cond.instanceMethod ⟨"java/lang/Object", "<init>", "()V"⟩).before a0 Z = true) (w3 : (Jvm.Cond.code ⟨"java/lang/Object", "<init>", "()V"⟩ object_method_1_code 1 none).before a0 Z = true)
    (eT : T.heap = h) {a : Addr} (hd : decode bytes pc = .ok (.invokespecial i, 3)) (hsz : Ls.size = maxL) (hf : 1 ≤ R.frames) (hl : (S.map fun v => v.category).sum + 12 ≤ R.locals) (hq : pc + 3 = q)
    (K : ∀ (T' : State), Stand p l e R s m args below meth c T' locs cells slots → T'.heap = h → Go p e below F (T'.setTop (mkF m q Ls S))) : Go p e below F (T.setTop (mkF m pc Ls (.ref a :: S))) := by
  subst hq
  obtain ⟨hx, hZ, hby, hml, hown, hnm, hret, hlk⟩ := C
  obtain ⟨T1, X1, e1, st⟩ := initO X hx hZ hown w1 w2 w3 eT (g := mkF m pc Ls (.ref a :: S)) rfl (by rw [hml]; exact hsz) rfl (hb hby hd) hf (W := (S.map fun v => v.category).sum) (by show 2 * 0 + _ ≤ _; omega) hl
  exact of st (K T1 X1 e1)
/-! objects -/
theorem newO (X : Stand p l e R s m args below meth c T locs cells slots) (C : Cx p s m meth c Z bytes maxL own mname ret) {i n : Nat} {Cn : String} (w1 : (Jvm.Cond.classLink own i Cn).before a0 Z = true) (w2 : (Jvm.Cond.instantiable Cn n).before a0 Z = true) (w3 : (Jvm.Cond.initialized Cn).before a0 Z = true) (eT : T.heap = h) (hd : decode bytes pc = .ok (.new i, 3)) (hc : cells + 1 ≤ R.cells) (hl : slots + n ≤ R.slots) (hq : pc + 3 = q)
    (K : ∀ (T' : State) (h' : Heap) (b : Addr), Stand p l e R s m args below meth c T' locs (cells + 1) (slots + n) → T'.heap = h' → b = h.size → Ext h h' → Exa Z h' b Cn → (∀ {O nm d : String} {ty : FieldType}, Laid Z a0 Cn O nm d → parseFieldDescriptor d = some ty → Fld Z h' b O nm d (defaultValue ty)) → Go p e below F (T'.setTop (mkF m q Ls (.ref b :: S)))) : Go p e below F (T.setTop (mkF m pc Ls S)) := by
  subst hq
  obtain ⟨hx, hZ, hby, hml, hown, hnm, hret, hlk⟩ := C
  obtain ⟨T1, h1, X1, e1, E1, A1, D1, -, st⟩ := Jvm.RoadKit.newO X hx hZ hown w1 w2 w3 eT (g := mkF m pc Ls S) rfl (hb hby hd) hc hl
  exact of st (K T1 h1 _ X1 e1 rfl E1 A1 D1)
theorem getF (X : Stand p l e R s m args below meth c T locs cells slots) (C : Cx p s m meth c Z bytes maxL own mname ret) {i : Nat} {R0 O n d host : String} (w : (Jvm.Cond.fieldLink own i R0 n d).before a0 Z = true ∨ (Jvm.Cond.fieldLinkNest own i R0 n d host).before a0 Z = true) (via : Via Z R0 O n d) (eT : T.heap = h) {a : Addr} {v : Value} (F0 : Fld Z h a O n d v) (hd : decode bytes pc = .ok (.getfield i, 3)) (hq : pc + 3 = q)
    (K : ∀ (T' : State), Stand p l e R s m args below meth c T' locs cells slots → T'.heap = h → Go p e below F (T'.setTop (mkF m q Ls (v :: S)))) : Go p e below F (T.setTop (mkF m pc Ls (.ref a :: S))) := by
  subst hq
  obtain ⟨hx, hZ, hby, hml, hown, hnm, hret, hlk⟩ := C
  obtain ⟨T1, X1, e1, st⟩ := Jvm.RoadKit.getF X hx hZ hown w via eT F0 (g := mkF m pc Ls (.ref a :: S)) rfl rfl (hb hby hd)
  exact of st (K T1 X1 e1)
theorem putF (X : Stand p l e R s m args below meth c T locs cells slots) (C : Cx p s m meth c Z bytes maxL own mname ret) {i kk : Nat} {R0 O n d host Cn : String} {ty : FieldType} (w : (Jvm.Cond.fieldLink own i R0 n d).before a0 Z = true ∨ (Jvm.Cond.fieldLinkNest own i R0 n d host).before a0 Z = true) (via : Via Z R0 O n d) (eT : T.heap = h) {a : Addr} {v old : Value} (F0 : Fld Z h a O n d old) (E : Exa Z h a Cn) (L : (Jvm.Cond.lays Cn O n d).before a0 Z = true ∨ ((Jvm.Cond.laysFinal Cn O n d).before a0 Z = true ∧ own = O ∧ mname = "<init>")) (wi : (Jvm.Cond.instantiable Cn kk).before a0 Z = true) (hty : parseFieldDescriptor d = some ty) (hn : narrow ty v = v) (hf : fits ty v = true) (hd : decode bytes pc = .ok (.putfield i, 3)) (hq : pc + 3 = q)
    (K : ∀ (T' : State) (h' : Heap), Stand p l e R s m args below meth c T' (locs ++ [⟨a, Jvm.RoadKit.slotOf Z O n d⟩]) cells slots → T'.heap = h' → Wr h h' a (Jvm.RoadKit.slotOf Z O n d) v → Go p e below F (T'.setTop (mkF m q Ls S))) : Go p e below F (T.setTop (mkF m pc Ls (v :: .ref a :: S))) := by
  subst hq
  obtain ⟨hx, hZ, hby, hml, hown, hnm, hret, hlk⟩ := C
  obtain ⟨T1, h1, X1, e1, W1, st⟩ := Jvm.RoadKit.putF X hx hZ hown w via eT F0 E (L.imp id fun q => ⟨q.1, q.2.1, hnm.trans q.2.2⟩) wi hty hn hf (g := mkF m pc Ls (v :: .ref a :: S)) rfl rfl (hb hby hd)
  exact of st (K T1 h1 X1 e1 W1)
theorem getS (X : Stand p l e R s m args below meth c T locs cells slots) (C : Cx p s m meth c Z bytes maxL own mname ret) {i : Nat} {R0 O n d : String} (w : (Jvm.Cond.fieldLink own i R0 n d).before a0 Z = true) (via : Via Z R0 O n d) (eT : T.heap = h) {v : Value} (F0 : Sta Z h O n d v) (hd : decode bytes pc = .ok (.getstatic i, 3)) (hq : pc + 3 = q)
    (K : ∀ (T' : State), Stand p l e R s m args below meth c T' locs cells slots → T'.heap = h → Go p e below F (T'.setTop (mkF m q Ls (v :: S)))) : Go p e below F (T.setTop (mkF m pc Ls S)) := by
  subst hq
  obtain ⟨hx, hZ, hby, hml, hown, hnm, hret, hlk⟩ := C
  obtain ⟨T1, X1, e1, st⟩ := Jvm.RoadKit.getS X hx hZ hown (host := "") w via eT F0 (g := mkF m pc Ls S) rfl (hb hby hd)
  exact of st (K T1 X1 e1)
/-! arrays: Arv Z h a k ty n vs d -/
theorem inb {cl : Cell} {n j : Int32} (S : cl.slots.size = n.toNatClampNeg) (h1 : 0 ≤ j.toInt) (h2 : j.toInt < n.toInt) : ¬ (j < 0 ∨ cl.slots.size ≤ j.toNatClampNeg) := inb_of S ⟨by rw [Int32.lt_iff_toInt_lt]; have : (0 : Int32).toInt = 0 := rfl; omega, by rw [Int32.lt_iff_toInt_lt]; exact h2⟩
theorem iaload (X : Stand p l e R s m args below meth c T locs cells slots) (C : Cx p s m meth c Z bytes maxL own mname ret) (eT : T.heap = h) {a : Addr} {k : ClassId} {n j x : Int32} {vs : List Value} {d : Value} (V : Arv Z h a k .int n vs d) (h1 : 0 ≤ j.toInt) (h2 : j.toInt < n.toInt) (hv : vs.getD j.toNatClampNeg d = .int x) (hd : decode bytes pc = .ok (.iaload, 1)) (hq : pc + 1 = q) (K : Go p e below F (T.setTop (mkF m q Ls (.int x :: S)))) : Go p e below F (T.setTop (mkF m pc Ls (.int j :: .ref a :: S))) := by
  subst hq
  obtain ⟨cl, Ar, q1, S1, N1, H1, G1⟩ := V
  exact of (X.iaload C.1 (j := j) (v := .int x) (by rw [eT]; exact Ar.1) (State.isArrayOf_alike C.2.1.alike Ar.2.1) Ar.2.2 (inb S1 h1 h2) (Has.at H1 (inb S1 h1 h2) hv) (g := mkF m pc Ls (.int j :: .ref a :: S)) rfl rfl (hb C.2.2.1 hd)) K
theorem caload (X : Stand p l e R s m args below meth c T locs cells slots) (C : Cx p s m meth c Z bytes maxL own mname ret) (eT : T.heap = h) {a : Addr} {k : ClassId} {n j x : Int32} {vs : List Value} {d : Value} (V : Arv Z h a k .char n vs d) (h1 : 0 ≤ j.toInt) (h2 : j.toInt < n.toInt) (hv : vs.getD j.toNatClampNeg d = .int x) (hd : decode bytes pc = .ok (.caload, 1)) (hq : pc + 1 = q) (K : Go p e below F (T.setTop (mkF m q Ls (.int x :: S)))) : Go p e below F (T.setTop (mkF m pc Ls (.int j :: .ref a :: S))) := by
  subst hq
  obtain ⟨cl, Ar, q1, S1, N1, H1, G1⟩ := V
  exact of (X.caload C.1 (j := j) (v := .int x) (by rw [eT]; exact Ar.1) (State.isArrayOf_alike C.2.1.alike Ar.2.1) Ar.2.2 (inb S1 h1 h2) (Has.at H1 (inb S1 h1 h2) hv) (g := mkF m pc Ls (.int j :: .ref a :: S)) rfl rfl (hb C.2.2.1 hd)) K
theorem baload (X : Stand p l e R s m args below meth c T locs cells slots) (C : Cx p s m meth c Z bytes maxL own mname ret) (eT : T.heap = h) {a : Addr} {k : ClassId} {n j x : Int32} {vs : List Value} {d : Value} (V : Arv Z h a k .byte n vs d) (h1 : 0 ≤ j.toInt) (h2 : j.toInt < n.toInt) (hv : vs.getD j.toNatClampNeg d = .int x) (hd : decode bytes pc = .ok (.baload, 1)) (hq : pc + 1 = q) (K : Go p e below F (T.setTop (mkF m q Ls (.int x :: S)))) : Go p e below F (T.setTop (mkF m pc Ls (.int j :: .ref a :: S))) := by
  subst hq
  obtain ⟨cl, Ar, q1, S1, N1, H1, G1⟩ := V
  exact of (X.baloadBytes C.1 (j := j) (v := .int x) (by rw [eT]; exact Ar.1) (State.isArrayOf_alike C.2.1.alike Ar.2.1) Ar.2.2 (inb S1 h1 h2) (Has.at H1 (inb S1 h1 h2) hv) (g := mkF m pc Ls (.int j :: .ref a :: S)) rfl rfl (hb C.2.2.1 hd)) K
theorem aaload (X : Stand p l e R s m args below meth c T locs cells slots) (C : Cx p s m meth c Z bytes maxL own mname ret) (eT : T.heap = h) {a : Addr} {k : ClassId} {n j : Int32} {x : Value} {vs : List Value} {d : Value} {ty : FieldType} (hty : ty.isReference = true) (V : Arv Z h a k ty n vs d) (h1 : 0 ≤ j.toInt) (h2 : j.toInt < n.toInt) (hv : vs.getD j.toNatClampNeg d = x) (hd : decode bytes pc = .ok (.aaload, 1)) (hq : pc + 1 = q) (K : Go p e below F (T.setTop (mkF m q Ls (x :: S)))) : Go p e below F (T.setTop (mkF m pc Ls (.int j :: .ref a :: S))) := by
  subst hq
  obtain ⟨cl, Ar, q1, S1, N1, H1, G1⟩ := V
  exact of (X.aaload C.1 (j := j) (v := x) (by rw [eT]; exact Ar.1) (State.isArrayOf_alike C.2.1.alike Ar.2.1) hty Ar.2.2 (inb S1 h1 h2) (Has.at H1 (inb S1 h1 h2) hv) (g := mkF m pc Ls (.int j :: .ref a :: S)) rfl rfl (hb C.2.2.1 hd)) K
theorem aaloadC (X : Stand p l e R s m args below meth c T locs cells slots) (C : Cx p s m meth c Z bytes maxL own mname ret) (eT : T.heap = h) {a : Addr} {cl : Cell} {j : Int32} {x : Value} {ty : FieldType} (hty : ty.isReference = true) (Ar : Arr Z h a cl ty) (hin : ¬ (j < 0 ∨ cl.slots.size ≤ j.toNatClampNeg)) (hat : cl.slots[j.toNatClampNeg]? = some x) (hd : decode bytes pc = .ok (.aaload, 1)) (hq : pc + 1 = q) (K : Go p e below F (T.setTop (mkF m q Ls (x :: S)))) : Go p e below F (T.setTop (mkF m pc Ls (.int j :: .ref a :: S))) := by
  subst hq
  exact of (X.aaload C.1 (j := j) (v := x) (by rw [eT]; exact Ar.1) (State.isArrayOf_alike C.2.1.alike Ar.2.1) hty Ar.2.2 hin hat (g := mkF m pc Ls (.int j :: .ref a :: S)) rfl rfl (hb C.2.2.1 hd)) K
theorem arraylength (X : Stand p l e R s m args below meth c T locs cells slots) (C : Cx p s m meth c Z bytes maxL own mname ret) (eT : T.heap = h) {a : Addr} {k : ClassId} {n : Int32} {vs : List Value} {d : Value} {ty : FieldType} (V : Arv Z h a k ty n vs d) (hd : decode bytes pc = .ok (.arraylength, 1)) (hq : pc + 1 = q) (K : Go p e below F (T.setTop (mkF m q Ls (.int n :: S)))) : Go p e below F (T.setTop (mkF m pc Ls (.ref a :: S))) := by
  subst hq
  obtain ⟨cl, Ar, q1, S1, N1, H1, G1⟩ := V
  refine of (X.arraylength C.1 (by rw [eT]; exact Ar.1) (State.isArrayOf_alike C.2.1.alike Ar.2.1) (g := mkF m pc Ls (.ref a :: S)) rfl rfl (hb C.2.2.1 hd)) ?_
  rw [len_of S1 N1]
  exact K
theorem iastore (X : Stand p l e R s m args below meth c T locs cells slots) (C : Cx p s m meth c Z bytes maxL own mname ret) (eT : T.heap = h) {a : Addr} {k : ClassId} {n j x : Int32} {vs : List Value} {d : Value} (V : Arv Z h a k .int n vs d) (h1 : 0 ≤ j.toInt) (h2 : j.toInt < n.toInt) (hlen : j.toNatClampNeg < vs.length) (hd : decode bytes pc = .ok (.iastore, 1)) (hq : pc + 1 = q)
    (K : ∀ (T' : State) (h' : Heap), Stand p l e R s m args below meth c T' (locs ++ [⟨a, j.toNatClampNeg⟩]) cells slots → T'.heap = h' → Wr h h' a j.toNatClampNeg (.int x) → Arv Z h' a k .int n (vs.set j.toNatClampNeg (.int x)) d → Go p e below F (T'.setTop (mkF m q Ls S))) : Go p e below F (T.setTop (mkF m pc Ls (.int x :: .int j :: .ref a :: S))) := by
  subst hq
  obtain ⟨cl, Ar, q1, S1, N1, H1, G1⟩ := V
  obtain ⟨T1, h1', X1, e1, W1, st⟩ := stI X C.1 C.2.1 eT Ar (j := j) (inb S1 h1 h2) (g := mkF m pc Ls (.int x :: .int j :: .ref a :: S)) rfl rfl (hb C.2.2.1 hd)
  exact of st (K T1 h1' X1 e1 W1 (Arv.set Ar q1 S1 N1 H1 G1 rfl W1 _ rfl hlen))
theorem castore (X : Stand p l e R s m args below meth c T locs cells slots) (C : Cx p s m meth c Z bytes maxL own mname ret) (eT : T.heap = h) {a : Addr} {k : ClassId} {n j x : Int32} {vs : List Value} {d : Value} (V : Arv Z h a k .char n vs d) (h1 : 0 ≤ j.toInt) (h2 : j.toInt < n.toInt) (hlen : j.toNatClampNeg < vs.length) (hd : decode bytes pc = .ok (.castore, 1)) (hq : pc + 1 = q)
    (K : ∀ (T' : State) (h' : Heap), Stand p l e R s m args below meth c T' (locs ++ [⟨a, j.toNatClampNeg⟩]) cells slots → T'.heap = h' → Wr h h' a j.toNatClampNeg (.int (nar .char x)) → Arv Z h' a k .char n (vs.set j.toNatClampNeg (.int (nar .char x))) d → Go p e below F (T'.setTop (mkF m q Ls S))) : Go p e below F (T.setTop (mkF m pc Ls (.int x :: .int j :: .ref a :: S))) := by
  subst hq
  obtain ⟨cl, Ar, q1, S1, N1, H1, G1⟩ := V
  obtain ⟨T1, h1', X1, e1, W1, st⟩ := stC X C.1 C.2.1 eT Ar (j := j) (inb S1 h1 h2) (g := mkF m pc Ls (.int x :: .int j :: .ref a :: S)) rfl rfl (hb C.2.2.1 hd)
  exact of st (K T1 h1' X1 e1 W1 (Arv.set Ar q1 S1 N1 H1 G1 (fits_nar_char _) W1 _ rfl hlen))
theorem bastore (X : Stand p l e R s m args below meth c T locs cells slots) (C : Cx p s m meth c Z bytes maxL own mname ret) (eT : T.heap = h) {a : Addr} {k : ClassId} {n j x : Int32} {vs : List Value} {d : Value} (V : Arv Z h a k .byte n vs d) (h1 : 0 ≤ j.toInt) (h2 : j.toInt < n.toInt) (hlen : j.toNatClampNeg < vs.length) (hd : decode bytes pc = .ok (.bastore, 1)) (hq : pc + 1 = q)
    (K : ∀ (T' : State) (h' : Heap), Stand p l e R s m args below meth c T' (locs ++ [⟨a, j.toNatClampNeg⟩]) cells slots → T'.heap = h' → Wr h h' a j.toNatClampNeg (.int x.toInt8.toInt32) → Arv Z h' a k .byte n (vs.set j.toNatClampNeg (.int x.toInt8.toInt32)) d → Go p e below F (T'.setTop (mkF m q Ls S))) : Go p e below F (T.setTop (mkF m pc Ls (.int x :: .int j :: .ref a :: S))) := by
  subst hq
  obtain ⟨cl, Ar, q1, S1, N1, H1, G1⟩ := V
  obtain ⟨T1, h1', X1, e1, W1, st⟩ := stB X C.1 C.2.1 eT Ar (j := j) (inb S1 h1 h2) (g := mkF m pc Ls (.int x :: .int j :: .ref a :: S)) rfl rfl (hb C.2.2.1 hd)
  exact of st (K T1 h1' X1 e1 W1 (Arv.set Ar q1 S1 N1 H1 G1 (fits_nar_byte _) W1 _ rfl hlen))
theorem aastore (X : Stand p l e R s m args below meth c T locs cells slots) (C : Cx p s m meth c Z bytes maxL own mname ret) (eT : T.heap = h) {a : Addr} {k : ClassId} {n j : Int32} {x : Value} {vs : List Value} {d : Value} {ty : FieldType} (hty : ty.isReference = true) (hf : fits ty x = true) (V : Arv Z h a k ty n vs d) (hs : ∀ cl, Arr Z h a cl ty → cl.cls = k → Sto Z h a x) (h1 : 0 ≤ j.toInt) (h2 : j.toInt < n.toInt) (hlen : j.toNatClampNeg < vs.length) (hd : decode bytes pc = .ok (.aastore, 1)) (hq : pc + 1 = q)
    (K : ∀ (T' : State) (h' : Heap), Stand p l e R s m args below meth c T' (locs ++ [⟨a, j.toNatClampNeg⟩]) cells slots → T'.heap = h' → Wr h h' a j.toNatClampNeg x → Arv Z h' a k ty n (vs.set j.toNatClampNeg x) d → Go p e below F (T'.setTop (mkF m q Ls S))) : Go p e below F (T.setTop (mkF m pc Ls (x :: .int j :: .ref a :: S))) := by
  subst hq
  obtain ⟨cl, Ar, q1, S1, N1, H1, G1⟩ := V
  obtain ⟨T1, h1', X1, e1, W1, st⟩ := stR X C.1 C.2.1 eT Ar (j := j) (inb S1 h1 h2) hty (hs cl Ar q1) (g := mkF m pc Ls (x :: .int j :: .ref a :: S)) rfl rfl (hb C.2.2.1 hd)
  exact of st (K T1 h1' X1 e1 W1 (Arv.set Ar q1 S1 N1 H1 G1 hf W1 _ rfl hlen))
theorem newarray (X : Stand p l e R s m args below meth c T locs cells slots) (C : Cx p s m meth c Z bytes maxL own mname ret) {aty : ArrayType} (w : (Jvm.Cond.arrayClass (newarray.typeOf aty)).before a0 Z = true) (eT : T.heap = h) {n : Int32} (hn : 0 ≤ n.toInt) (cap : Nat) (hcap : n.toInt ≤ cap) (hb8 : cap * 8 ≤ 536870912) (hd : decode bytes pc = .ok (.newarray aty, 2)) (hc : cells + 1 ≤ R.cells) (hl : slots + cap ≤ R.slots) (hq : pc + 2 = q)
    (K : ∀ (T' : State) (h' : Heap) (b : Addr) (k : ClassId), Stand p l e R s m args below meth c T' locs (cells + 1) (slots + cap) → T'.heap = h' → b = h.size → Ext h h' → Arv Z h' b k (newarray.typeOf aty) n (List.replicate cap (defaultValue (newarray.typeOf aty))) (defaultValue (newarray.typeOf aty)) → Go p e below F (T'.setTop (mkF m q Ls (.ref b :: S)))) : Go p e below F (T.setTop (mkF m pc Ls (.int n :: S))) := by
  subst hq
  have hn' : ¬ n < 0 := by rw [Int32.lt_iff_toInt_lt]; have : (0 : Int32).toInt = 0 := rfl; omega
  obtain ⟨T1, h1, k1, X1, e1, E1, A1, st⟩ := newP X C.1 C.2.1 w eT (g := mkF m pc Ls (.int n :: S)) rfl (hb C.2.2.1 hd) rfl hn' (cap := cap) (by simp only [Int32.toNatClampNeg]; omega) hb8 hc hl
  exact of st (K T1 h1 _ k1 X1 e1 rfl E1 ((Arv.new A1 hn').pad (pad_rep [] _ cap)))
theorem anewarray (X : Stand p l e R s m args below meth c T locs cells slots) (C : Cx p s m meth c Z bytes maxL own mname ret) {i : Nat} {Cn : String} (w1 : (Jvm.Cond.classLink own i Cn).before a0 Z = true) (w2 : (Jvm.Cond.arrayOver (.object Cn)).before a0 Z = true) (eT : T.heap = h) {n : Int32} (hn : 0 ≤ n.toInt) (cap : Nat) (hcap : n.toInt ≤ cap) (hb8 : cap * 8 ≤ 536870912) (hd : decode bytes pc = .ok (.anewarray i, 3)) (hc : cells + 1 ≤ R.cells) (hl : slots + cap ≤ R.slots) (hq : pc + 3 = q)
    (K : ∀ (T' : State) (h' : Heap) (b : Addr) (k : ClassId), Stand p l e R s m args below meth c T' locs (cells + 1) (slots + cap) → T'.heap = h' → b = h.size → Ext h h' → Ovr Z k Cn → Arv Z h' b k (.object Cn) n (List.replicate cap .null) .null → Go p e below F (T'.setTop (mkF m q Ls (.ref b :: S)))) : Go p e below F (T.setTop (mkF m pc Ls (.int n :: S))) := by
  subst hq
  have hn' : ¬ n < 0 := by rw [Int32.lt_iff_toInt_lt]; have : (0 : Int32).toInt = 0 := rfl; omega
  obtain ⟨T1, h1, k1, X1, e1, E1, A1, O1, st⟩ := newR X C.1 C.2.1 C.2.2.2.2.1 w1 w2 eT (g := mkF m pc Ls (.int n :: S)) rfl (hb C.2.2.1 hd) rfl hn' (cap := cap) (by simp only [Int32.toNatClampNeg]; omega) hb8 hc hl
  exact of st (K T1 h1 _ k1 X1 e1 rfl E1 O1 ((Arv.new A1 hn').pad (pad_rep [] _ cap)))
/-! String constants (ldc): the tables grow; the end is said of the true start -/
def PostW (s : State) (Q : Option Value → Heap → List Loc → Prop) (k n : Nat) (o : Outcome) (U' : State) : Prop := ∃ v L, o = .returned v ∧ Q v U'.heap L ∧ ReturnedEndW s o U' L k n
theorem postW {vm1 : Vm} {kk k n : Nat} {U : State} {Q : Option Value → Heap → List Loc → Prop} (hS : s.Since vm1 kk) (g : Go p e below (Post (s.setVm vm1) (fun v h L => Q v h L ∧ kk ≤ h.size) k n) U) : Go p e below (PostW s Q k n) U := by
  obtain ⟨s2, o, h1, h2, h3, v, L, e1, ⟨q1, q2⟩, hr, hW, hs⟩ := g
  obtain ⟨a, b, c'⟩ := hS.ended (U := s2) hW q2 hs
  exact ⟨s2, o, h1, h2, h3, v, L, e1, q1, hr, a, b, c'⟩
theorem bodyOfW {y : MethodName} {ws : List Jvm.Cond} {rm : Room} {as : Array Value} {Q : Option Value → Heap → List Loc → Prop} (hp : plainFor y = true) (hef : ∀ m, entryFrame m as maxL = mkF m 0 Ls [])
    (body : ∀ p e s m below meth c s₁, Cx p (s.setVm s.vm) m meth c Z bytes maxL y.cls y.name ret → Stand p l e rm (s.setVm s.vm) m as below meth c s₁ [] 0 0 → s₁.heap = h0 → s.Since s.vm 0 → Go p e below (PostW s Q rm.cells rm.slots) (s₁.setTop (mkF m 0 Ls []))) :
    MetFree l y (head1 (Jvm.Cond.code y bytes maxL ret :: ws) rm) (fun a U => a = as ∧ Z.Warmed39 U.vm ∧ U.heap = h0) (fun _ _ _ _ _ => True) (fun _ U o U' => ∃ v L, o = .returned v ∧ Q v U'.heap L ∧ ReturnedEndW U o U' L rm.cells rm.slots) := by
  refine MetFree.of_bodySF hp hisR ?_
  intro p e s m args below meth c s₁ Bd hml0 hP hK
  obtain ⟨rfl, hZ, hh⟩ := hP
  obtain ⟨s₂, o, h1, h2⟩ := body p e s m below meth c s₁ ⟨Bd.exec, hZ, Bd.bytes, hml0, findClass_of_methodNamed Bd.named, (name_of_methodNamed Bd.named Bd.method).1, Bd.returns, Bd.notSynchronized⟩ (Stand.of_body Bd) (by rw [← hh, Bd.state]; rfl) ((State.WarmedH.refl s).since 0)
  exact ⟨s₂, o, castTop (hef m) h1, h2⟩
theorem ldcS {vm0 : Vm} (X : Stand p l e R (s.setVm vm0) m args below meth c T locs cells slots) (C : Cx p (s.setVm vm0) m meth c Z bytes maxL own mname ret) {i : Nat} {text : String} (w : (Jvm.Cond.stringLink own i text).before a0 Z = true) (wS : ∀ a ∈ Bundle.stringAtoms, a.before a0 Z = true) (eT : T.heap = h) {k0 : Nat} (hS : s.Since vm0 k0) (hk : k0 ≤ h.size) (hd : decode bytes pc = .ok (.ldc i, 2)) (n : Nat) (hn : 4 * text.toList.length ≤ n) (hbig : n ≤ 536870912) (hc : cells + 2 ≤ R.cells) (hl' : slots + (n + 4) ≤ R.slots) (hq : pc + 2 = q)
    (K : ∀ (a : Addr) (T' : State) (h' : Heap) (k1 : Nat), Stand p l e R (s.setVm T'.vm) m args below meth c T' locs (cells + 2) (slots + (n + 4)) → Cx p (s.setVm T'.vm) m meth c Z bytes maxL own mname ret → T'.heap = h' → Ext h h' → s.Since T'.vm k1 → k1 ≤ h'.size → Go p e below F (T'.setTop (mkF m q Ls (.ref a :: S)))) : Go p e below F (T.setTop (mkF m pc Ls S)) := by
  subst hq
  obtain ⟨hx, hZ, hby, hml, hown, hnm, hret, hlk⟩ := C
  obtain ⟨a, T', h', k1, X1, e1, E1, S1, K1, Z1, O1, -, -, st⟩ := ldcOH (EL := []) X hx hZ hown w wS eT hS hk EW.nil (fun p hp => by cases hp) (g := mkF m pc Ls S) rfl (hb hby hd) hn hbig hc hl'
  exact of st (K a T' h' k1 X1 ⟨hx, Z1, hby, hml, O1, hnm, hret, hlk⟩ e1 E1 S1 K1)
/-! String constants that are read (EL): callees that load them -/
def PostH (s : State) (Z : State) (EL : List (String × Nat)) (Q : Option Value → Heap → List Loc → Prop) (k n : Nat) (o : Outcome) (U' : State) : Prop := ∃ v L, o = .returned v ∧ Q v U'.heap L ∧ CHr Z EL s.vm s.heap U'.vm U'.heap ∧ ReturnedEndW s o U' L k n
theorem ldcC {vm0 : Vm} {EL : List (String × Nat)} (X : Stand p l e R (s.setVm vm0) m args below meth c T locs cells slots) (C : Cx p (s.setVm vm0) m meth c Z bytes maxL own mname ret) {i : Nat} {text : String} (w : (Jvm.Cond.stringLink own i text).before a0 Z = true) (wS : ∀ a ∈ Bundle.stringAtoms, a.before a0 Z = true) (eT : T.heap = h) {k0 : Nat} (hS : s.Since vm0 k0) (hk : k0 ≤ h.size) (hEL : EW Z a0 EL) (hmem : (own, i) ∈ EL) (H : CHv Z EL vm0 h) {vs : List Value} {z : Int32} (ht : (∀ c ∈ text.toList, c.toNat < 256) ∧ text.toList.map (fun c => Value.int (Jvm.Lit.byteI c.toNat.toUInt16)) = vs) (hz : ¬ z < 0) (hl : z.toNatClampNeg = vs.length) (hd : decode bytes pc = .ok (.ldc i, 2)) (n : Nat) (hn : 4 * text.toList.length ≤ n) (hbig : n ≤ 536870912) (hc : cells + 2 ≤ R.cells) (hl' : slots + (n + 4) ≤ R.slots) (hq : pc + 2 = q)
    (K : ∀ (a : Addr) (T' : State) (h' : Heap) (k1 : Nat) (b : Addr) (k : ClassId), Stand p l e R (s.setVm T'.vm) m args below meth c T' locs (cells + 2) (slots + (n + 4)) → Cx p (s.setVm T'.vm) m meth c Z bytes maxL own mname ret → T'.heap = h' → Ext h h' → s.Since T'.vm k1 → k1 ≤ h'.size → Exa Z h' a "java/lang/String" → Fld Z h' a "java/lang/String" "coder" "B" (.int 0) → Fld Z h' a "java/lang/String" "value" "[B" (.ref b) → Arv Z h' b k .byte z vs (.int 0) → CHr Z EL vm0 h T'.vm h' → Go p e below F (T'.setTop (mkF m q Ls (.ref a :: S)))) : Go p e below F (T.setTop (mkF m pc Ls S)) := by
  subst hq
  obtain ⟨hx, hZ, hby, hml, hown, hnm, hret, hlk⟩ := C
  obtain ⟨a, T', h', k1, b, k, X1, e1, E1, S1, K1, Z1, O1, f1, f2, f3, f4, -, -, H1, -, -, st⟩ := ldcCH X hx hZ hown w wS eT hS hk hEL hmem H ht hz hl (g := mkF m pc Ls S) rfl (hb hby hd) hn hbig hc hl'
  exact of st (K a T' h' k1 b k X1 ⟨hx, Z1, hby, hml, O1, hnm, hret, hlk⟩ e1 E1 S1 K1 f1 f2 f3 f4 H1)
theorem callSW {vm0 : Vm} {EL : List (String × Nat)} (X : Stand p l e R (s.setVm vm0) m args below meth c T locs cells slots) (C : Cx p (s.setVm vm0) m meth c Z bytes maxL own mname ret) {y : MethodName} {i : Nat} {yb : ByteArray} {ym : Nat} {yr : Option FieldType} (w1 : (Jvm.Cond.methodLink own i y).before a0 Z = true) (w2 : (Jvm.Cond.static y).before a0 Z = true) (w3 : (Jvm.Cond.initialized y.cls).before a0 Z = true) (w4 : (Jvm.Cond.code y yb ym yr).before a0 Z = true) (hy : y.cls ≠ "java/lang/invoke/MethodHandle" ∧ y.cls ≠ "java/lang/invoke/VarHandle")
    {rm : Room} {as' : Array Value} {Q : Option Value → Heap → List Loc → Prop} (hM : MetFree l y (head1 [Jvm.Cond.code y yb ym yr] rm) (fun a U => a = as' ∧ Z.Warmed39 U.vm ∧ U.heap = h ∧ CHv Z EL U.vm h) (fun _ _ _ _ _ => True) (fun _ U o U' => ∃ v L, o = .returned v ∧ Q v U'.heap L ∧ CHr Z EL U.vm U.heap U'.vm U'.heap ∧ ReturnedEndW U o U' L rm.cells rm.slots))
    (eT : T.heap = h) {k0 : Nat} (hS : s.Since vm0 k0) (hk : k0 ≤ h.size) (hEL : EW Z a0 EL) (H : CHv Z EL vm0 h) (hd : decode bytes pc = .ok (.invokestatic i, 3)) (argsL : List Value) (rest : List Value) (hSt : S = argsL.reverse ++ rest) (has : as' = argsL.toArray) {ps : List FieldType} {r : Option FieldType} (hpd : parseMethodDescriptor y.desc = some ⟨ps, r⟩) (hlen : argsL.length = ps.length) (hsz : Ls.size = maxL)
    (hf : rm.frames + 1 ≤ R.frames) (hl : (rest.map fun v => v.category).sum + (ym + 11) + rm.locals ≤ R.locals) (hc : cells + rm.cells ≤ R.cells) (hsl : slots + rm.slots ≤ R.slots) (hq : pc + 3 = q)
    (K : ∀ (T' : State) (v : Option Value) (L : List Loc), Stand p l e R (s.setVm T'.vm) m args below meth c T' (locs ++ L) (cells + rm.cells) (slots + rm.slots) → Cx p (s.setVm T'.vm) m meth c Z bytes maxL own mname ret → s.Since T'.vm T'.heap.size → h.size ≤ T'.heap.size → Q v T'.heap L → CHr Z EL vm0 h T'.vm T'.heap → Go p e below F (T'.setTop (mkF m q Ls (v.toList ++ rest)))) : Go p e below F (T.setTop (mkF m pc Ls S)) := by
  subst hq hSt has
  obtain ⟨hx, hZ, hby, hml, hown, hnm, hret, hlk⟩ := C
  have hcode : (Jvm.Cond.code y yb ym yr).before args (s.setVm vm0) = true := mvT hZ w4
  obtain ⟨mk, hnamed⟩ := Cond.named_of_code (x := y) hcode
  obtain ⟨methM, cM, hmethM, -, -, -, -, -, -, hsig⟩ := Cond.code_spec hnamed hcode
  obtain ⟨v, _, ⟨T1, L1, k1, n1⟩, -, X1, S1, G1, ⟨Lc, hQ, l1, y1, z1, H1⟩, st⟩ := X.staticBackS hx hown (mvT hZ w1) (mvT hZ w2) (mvT hZ w3) hnamed hmethM hsig hy (backOfSH (W := (rest.map fun v => v.category).sum) hM hZ w4 w3 hf hl hEL H) (g := mkF m pc Ls (argsL.reverse ++ rest)) rfl (by rw [hml]; exact hsz) (Steps.refl _) (argsL := argsL) (rest := rest) (lenOf hpd hlen) rfl (by show 2 * 0 + _ ≤ _; omega) (hb hby hd) (fun _ _ => ⟨rfl, eT, hc, hsl⟩)
  dsimp only [Pt.U, Pt.locs, Pt.cells, Pt.slots] at X1 S1 G1 l1 y1 z1 st hQ H1
  subst l1 y1 z1
  rw [eT] at G1
  have S2 : s.Since T1.vm T1.heap.size := hS.trans S1 (Nat.le_trans hk G1)
  exact tr st (K T1 v Lc X1 ⟨hx, State.Warmed39.trans (t := s.setVm vm0) hZ S1.1, hby, hml, by rw [show (s.setVm T1.vm).vm = T1.vm from rfl, S1.1.alike.findClass]; exact hown, hnm, hret, hlk⟩ S2 G1 hQ H1)
theorem bodyOfH {EL : List (String × Nat)} {y : MethodName} {ws : List Jvm.Cond} {rm : Room} {as : Array Value} {Q : Option Value → Heap → List Loc → Prop} (hp : plainFor y = true) (hef : ∀ m, entryFrame m as maxL = mkF m 0 Ls [])
    (body : ∀ p e s m below meth c s₁, Cx p (s.setVm s.vm) m meth c Z bytes maxL y.cls y.name ret → Stand p l e rm (s.setVm s.vm) m as below meth c s₁ [] 0 0 → s₁.heap = h0 → s.heap = h0 → CHv Z EL s.vm h0 → s.Since s.vm 0 → Go p e below (PostH s Z EL Q rm.cells rm.slots) (s₁.setTop (mkF m 0 Ls []))) :
    MetFree l y (head1 (Jvm.Cond.code y bytes maxL ret :: ws) rm) (fun a U => a = as ∧ Z.Warmed39 U.vm ∧ U.heap = h0 ∧ CHv Z EL U.vm h0) (fun _ _ _ _ _ => True) (fun _ U o U' => ∃ v L, o = .returned v ∧ Q v U'.heap L ∧ CHr Z EL U.vm U.heap U'.vm U'.heap ∧ ReturnedEndW U o U' L rm.cells rm.slots) := by
  refine MetFree.of_bodySF hp hisR ?_
  intro p e s m args below meth c s₁ Bd hml0 hP hK
  obtain ⟨rfl, hZ, hh, hH⟩ := hP
  obtain ⟨s₂, o, h1, h2⟩ := body p e s m below meth c s₁ ⟨Bd.exec, hZ, Bd.bytes, hml0, findClass_of_methodNamed Bd.named, (name_of_methodNamed Bd.named Bd.method).1, Bd.returns, Bd.notSynchronized⟩ (Stand.of_body Bd) (by rw [← hh, Bd.state]; rfl) hh hH ((State.WarmedH.refl s).since 0)
  exact ⟨s₂, o, castTop (hef m) h1, h2⟩
theorem retAH {vm0 : Vm} {EL : List (String × Nat)} (X : Stand p l e R (s.setVm vm0) m args below meth c T locs cells slots) {t : FieldType} (C : Cx p (s.setVm vm0) m meth c Z bytes maxL own mname (some t)) (ht : t.isReference = true) (eT : T.heap = h) {z : Value} (hz : z.isRef = true) (hd : decode bytes pc = .ok (.areturn, 1)) {k n : Nat} (hk : cells ≤ k) (hn : slots ≤ n) {k0 : Nat} (hS : s.Since vm0 k0) (hk0 : k0 ≤ h.size) (hEL : EW Z a0 EL) (H : CHr Z EL s.vm s.heap vm0 h) {Q : Option Value → Heap → List Loc → Prop} (hQ : Q (some z) h locs) :
    Go p e below (PostH s Z EL Q k n) (T.setTop (mkF m pc Ls (z :: rest))) := by
  have HT := CHv.at X C.2.1 hEL H.1
  obtain ⟨hx, hZ, hby, hml, hown, hnm, hret, hlk⟩ := C
  obtain ⟨fs, hr, hrun, hended, hr2, hW, hin, hsame⟩ := X.leaveW hS (by rw [eT]; exact hk0) (v := some z) (fun h => by rw [hret] at h; cases h)
  refine ⟨_, _, ?_, hrun, hended, _, _, rfl, ?_, ?_, hr2, hW, hin, hsame.mono hk hn⟩
  · have hm' : T.vm.method? m = some meth := X.method'
    have hd' := hb hby hd
    show Steps p.tables e below (T.setTop { method := m, pc := pc, locals := Ls, stack := _ :: rest, locked := none }) _
    jvm_step X.here [X.here.top, hx, hd', hm', hret, hz, ht]
    first | (intro acts; rw [hr _ acts rfl rfl rfl]) | rw [hr _ _ rfl rfl rfl]
    exact Steps.refl _
  · show Q _ T.heap _
    rw [eT]; exact hQ
  · show CHr Z EL s.vm s.heap T.vm T.heap
    rw [eT]; exact H.trans HT
theorem retVH {vm0 : Vm} {EL : List (String × Nat)} (X : Stand p l e R (s.setVm vm0) m args below meth c T locs cells slots) (C : Cx p (s.setVm vm0) m meth c Z bytes maxL own mname none) (eT : T.heap = h) (hd : decode bytes pc = .ok (.return_, 1)) {k n : Nat} (hk : cells ≤ k) (hn : slots ≤ n) {k0 : Nat} (hS : s.Since vm0 k0) (hk0 : k0 ≤ h.size) (hEL : EW Z a0 EL) (H : CHr Z EL s.vm s.heap vm0 h) {Q : Option Value → Heap → List Loc → Prop} (hQ : Q none h locs) :
    Go p e below (PostH s Z EL Q k n) (T.setTop (mkF m pc Ls [])) := by
  have HT := CHv.at X C.2.1 hEL H.1
  obtain ⟨hx, hZ, hby, hml, hown, hnm, hret, hlk⟩ := C
  obtain ⟨fs, hr, hrun, hended, hr2, hW, hin, hsame⟩ := X.leaveW hS (by rw [eT]; exact hk0) (v := none) (fun _ => rfl)
  refine ⟨_, _, X.returnOut hx hret (hb hby hd) hr, hrun, hended, _, _, rfl, ?_, ?_, hr2, hW, hin, hsame.mono hk hn⟩
  · show Q _ T.heap _
    rw [eT]; exact hQ
  · show CHr Z EL s.vm s.heap T.vm T.heap
    rw [eT]; exact H.trans HT
theorem ldcH {vm0 : Vm} {EL : List (String × Nat)} (X : Stand p l e R (s.setVm vm0) m args below meth c T locs cells slots) (C : Cx p (s.setVm vm0) m meth c Z bytes maxL own mname ret) {i : Nat} {text : String} (w : (Jvm.Cond.stringLink own i text).before a0 Z = true) (wS : ∀ a ∈ Bundle.stringAtoms, a.before a0 Z = true) (eT : T.heap = h) {k0 : Nat} (hS : s.Since vm0 k0) (hk : k0 ≤ h.size) (hEL : EW Z a0 EL) (H : CHv Z EL vm0 h) (hd : decode bytes pc = .ok (.ldc i, 2)) (n : Nat) (hn : 4 * text.toList.length ≤ n) (hbig : n ≤ 536870912) (hc : cells + 2 ≤ R.cells) (hl' : slots + (n + 4) ≤ R.slots) (hq : pc + 2 = q)
    (K : ∀ (a : Addr) (T' : State) (h' : Heap) (k1 : Nat), Stand p l e R (s.setVm T'.vm) m args below meth c T' locs (cells + 2) (slots + (n + 4)) → Cx p (s.setVm T'.vm) m meth c Z bytes maxL own mname ret → T'.heap = h' → Ext h h' → s.Since T'.vm k1 → k1 ≤ h'.size → CHr Z EL vm0 h T'.vm h' → Go p e below F (T'.setTop (mkF m q Ls (.ref a :: S)))) : Go p e below F (T.setTop (mkF m pc Ls S)) := by
  subst hq
  obtain ⟨hx, hZ, hby, hml, hown, hnm, hret, hlk⟩ := C
  obtain ⟨a, T', h', k1, X1, e1, E1, S1, K1, Z1, O1, H1, -, st⟩ := ldcOH X hx hZ hown w wS eT hS hk hEL H (g := mkF m pc Ls S) rfl (hb hby hd) hn hbig hc hl'
  exact of st (K a T' h' k1 X1 ⟨hx, Z1, hby, hml, O1, hnm, hret, hlk⟩ e1 E1 S1 K1 H1)
theorem callIW {vm0 : Vm} {EL : List (String × Nat)} (X : Stand p l e R (s.setVm vm0) m args below meth c T locs cells slots) (C : Cx p (s.setVm vm0) m meth c Z bytes maxL own mname ret) {y : MethodName} {i : Nat} {yb : ByteArray} {ym : Nat} (hy1 : y.name = "<init>") (w1 : (Jvm.Cond.methodLink own i y).before a0 Z = true) (w2 : (Jvm.Cond.instanceMethod y).before a0 Z = true) (w3 : (Jvm.Cond.initialized y.cls).before a0 Z = true) (w4 : (Jvm.Cond.code y yb ym none).before a0 Z = true) (hy : y.cls ≠ "java/lang/invoke/MethodHandle" ∧ y.cls ≠ "java/lang/invoke/VarHandle")
    {rm : Room} {as' : Array Value} {Q : Option Value → Heap → List Loc → Prop} (hM : MetFree l y (head1 [Jvm.Cond.code y yb ym none] rm) (fun a U => a = as' ∧ Z.Warmed39 U.vm ∧ U.heap = h ∧ CHv Z EL U.vm h) (fun _ _ _ _ _ => True) (fun _ U o U' => ∃ v L, o = .returned v ∧ Q v U'.heap L ∧ CHr Z EL U.vm U.heap U'.vm U'.heap ∧ ReturnedEndW U o U' L rm.cells rm.slots))
    (eT : T.heap = h) {k0 : Nat} (hS : s.Since vm0 k0) (hk : k0 ≤ h.size) (hEL : EW Z a0 EL) (H : CHv Z EL vm0 h) (hd : decode bytes pc = .ok (.invokespecial i, 3)) {a : Addr} (argsL : List Value) (rest : List Value) (hSt : S = argsL.reverse ++ .ref a :: rest) (has : as' = (.ref a :: argsL).toArray) {ps : List FieldType} {r : Option FieldType} (hpd : parseMethodDescriptor y.desc = some ⟨ps, r⟩) (hlen : argsL.length = ps.length) (hsz : Ls.size = maxL)
    (hf : rm.frames + 1 ≤ R.frames) (hl : (rest.map fun v => v.category).sum + (ym + 11) + rm.locals ≤ R.locals) (hc : cells + rm.cells ≤ R.cells) (hsl : slots + rm.slots ≤ R.slots) (hq : pc + 3 = q)
    (K : ∀ (T' : State) (v : Option Value) (L : List Loc), Stand p l e R (s.setVm T'.vm) m args below meth c T' (locs ++ L) (cells + rm.cells) (slots + rm.slots) → Cx p (s.setVm T'.vm) m meth c Z bytes maxL own mname ret → s.Since T'.vm T'.heap.size → h.size ≤ T'.heap.size → Q v T'.heap L → CHr Z EL vm0 h T'.vm T'.heap → Go p e below F (T'.setTop (mkF m q Ls (v.toList ++ rest)))) : Go p e below F (T.setTop (mkF m pc Ls S)) := by
  subst hq hSt has
  obtain ⟨hx, hZ, hby, hml, hown, hnm, hret, hlk⟩ := C
  obtain ⟨v, _, ⟨T1, L1, k1, n1⟩, -, X1, S1, G1, ⟨Lc, hQ, l1, y1, z1, H1⟩, st⟩ := X.specialBackS hx hy1 hown (mvT hZ w1) (mvT hZ w2) (mvT hZ w4) hy (backOfSH (W := (rest.map fun v => v.category).sum) hM hZ w4 w3 hf hl hEL H) (g := mkF m pc Ls (argsL.reverse ++ .ref a :: rest)) rfl (by rw [hml]; exact hsz) (Steps.refl _) (a := a) (argsL := argsL) (rest := rest) (lenOf hpd hlen) rfl (by show 2 * 0 + _ ≤ _; omega) (hb hby hd) (fun _ _ => ⟨rfl, eT, hc, hsl⟩)
  dsimp only [Pt.U, Pt.locs, Pt.cells, Pt.slots] at X1 S1 G1 l1 y1 z1 st hQ H1
  subst l1 y1 z1
  rw [eT] at G1
  exact tr st (K T1 v Lc X1 ⟨hx, State.Warmed39.trans (t := s.setVm vm0) hZ S1.1, hby, hml, by rw [show (s.setVm T1.vm).vm = T1.vm from rfl, S1.1.alike.findClass]; exact hown, hnm, hret, hlk⟩ (hS.trans S1 (Nat.le_trans hk G1)) G1 hQ H1)
theorem bodyOfHW {EL : List (String × Nat)} {y : MethodName} {ws : List Jvm.Cond} {rm : Room} {as : Array Value} {Q : Option Value → Heap → List Loc → Prop} (hp : plainFor y = true) (hef : ∀ m, entryFrame m as maxL = mkF m 0 Ls [])
    (body : ∀ p e s m below meth c s₁, Cx p (s.setVm s.vm) m meth c Z bytes maxL y.cls y.name ret → Stand p l e rm (s.setVm s.vm) m as below meth c s₁ [] 0 0 → s₁.heap = h0 → s.heap = h0 → CHv Z EL s.vm h0 → s.Since s.vm 0 → Go p e below (PostW s Q rm.cells rm.slots) (s₁.setTop (mkF m 0 Ls []))) :
    MetFree l y (head1 (Jvm.Cond.code y bytes maxL ret :: ws) rm) (fun a U => a = as ∧ Z.Warmed39 U.vm ∧ U.heap = h0 ∧ CHv Z EL U.vm h0) (fun _ _ _ _ _ => True) (fun _ U o U' => ∃ v L, o = .returned v ∧ Q v U'.heap L ∧ ReturnedEndW U o U' L rm.cells rm.slots) := by
  refine MetFree.of_bodySF hp hisR ?_
  intro p e s m args below meth c s₁ Bd hml0 hP hK
  obtain ⟨rfl, hZ, hh, hH⟩ := hP
  obtain ⟨s₂, o, h1, h2⟩ := body p e s m below meth c s₁ ⟨Bd.exec, hZ, Bd.bytes, hml0, findClass_of_methodNamed Bd.named, (name_of_methodNamed Bd.named Bd.method).1, Bd.returns, Bd.notSynchronized⟩ (Stand.of_body Bd) (by rw [← hh, Bd.state]; rfl) hh hH ((State.WarmedH.refl s).since 0)
  exact ⟨s₂, o, castTop (hef m) h1, h2⟩
theorem keepRefl (h : Heap) : Keep h h [] := Keep.refl h []
/-! kinds of objects -/
theorem nsRoot {O Kn : String} {n : Nat} (w : (Jvm.Cond.noSuperclass O).before a0 Z = true) (wi : (Jvm.Cond.instantiable Kn n).before a0 Z = true) (hn : O ≠ Kn) : NS Z O Kn := by
  obtain ⟨c, k, h1, h2, h3, -, -⟩ := Cond.noSuperclass_spec w
  obtain ⟨t, k2, g1, -⟩ := Cond.instantiable_spec wi
  have ne := ids_ne h1 g1 hn
  refine ⟨c, t, h1, g1, fun fuel => ?_⟩
  cases fuel with
  | zero => rfl
  | succ f => simp [Vm.isSubclassAux, ne, h2, h3]
theorem nsNo {Cn S Kn : String} {n : Nat} (w : (Jvm.Cond.superclass Cn S).before a0 Z = true) (wi : (Jvm.Cond.instantiable Kn n).before a0 Z = true) (nn : NS Z Cn Kn) (hn : Cn ≠ Kn) : ∃ c t, Z.vm.findClass Cn = some c ∧ Z.vm.findClass Kn = some t ∧ Z.vm.assignable c t = false := by
  obtain ⟨c, t, h0, g0, n3⟩ := nn
  obtain ⟨p, k, kp, h1, h2, h3, h4, h5, -, h7⟩ := Cond.superclass_spec h0 w
  obtain ⟨t', k', g1, g2, g5, g6, -⟩ := Cond.instantiable_spec wi
  cases g0.symm.trans g1
  have g7 : k'.isInterface = false := (Bool.or_eq_false_iff.mp g6).1
  have ne := ids_ne h0 g0 hn
  refine ⟨c, t, h0, g0, ?_⟩
  show Z.vm.assignableAux (255 + 1) c t = false
  simp [Vm.assignableAux, ne, h2, g2, h5, g5, g7, Vm.isSubclass, n3]
theorem cast (X : Stand p l e R s m args below meth c T locs cells slots) (C : Cx p s m meth c Z bytes maxL own mname ret) {i : Nat} {Kn : String} (w : (Jvm.Cond.classLink own i Kn).before a0 Z = true) (eT : T.heap = h) {a : Addr} (I : Ins Z h a Kn true) (hd : decode bytes pc = .ok (.checkcast i, 3)) (hq : pc + 3 = q)
    (K : ∀ (T' : State), Stand p l e R s m args below meth c T' locs cells slots → T'.heap = h → Go p e below F (T'.setTop (mkF m q Ls (.ref a :: S)))) : Go p e below F (T.setTop (mkF m pc Ls (.ref a :: S))) := by
  subst hq
  obtain ⟨T1, X1, e1, st⟩ := castY X C.1 C.2.1 C.2.2.2.2.1 w eT I (g := mkF m pc Ls (.ref a :: S)) rfl rfl (hb C.2.2.1 hd)
  exact of st (K T1 X1 e1)
theorem inst1 (X : Stand p l e R s m args below meth c T locs cells slots) (C : Cx p s m meth c Z bytes maxL own mname ret) {i : Nat} {Kn : String} (w : (Jvm.Cond.classLink own i Kn).before a0 Z = true) (eT : T.heap = h) {a : Addr} (I : Ins Z h a Kn true) (hd : decode bytes pc = .ok (.instanceof i, 3)) (hq : pc + 3 = q)
    (K : ∀ (T' : State), Stand p l e R s m args below meth c T' locs cells slots → T'.heap = h → Go p e below F (T'.setTop (mkF m q Ls (.int 1 :: S)))) : Go p e below F (T.setTop (mkF m pc Ls (.ref a :: S))) := by
  subst hq
  obtain ⟨T1, X1, e1, st⟩ := instY X C.1 C.2.1 C.2.2.2.2.1 w eT I (g := mkF m pc Ls (.ref a :: S)) rfl rfl (hb C.2.2.1 hd)
  exact of st (K T1 X1 e1)
theorem inst0 (X : Stand p l e R s m args below meth c T locs cells slots) (C : Cx p s m meth c Z bytes maxL own mname ret) {i : Nat} {Kn Cn : String} (w : (Jvm.Cond.classLink own i Kn).before a0 Z = true) (eT : T.heap = h) {a : Addr} (E : Exa Z h a Cn) (N : ∃ c t, Z.vm.findClass Cn = some c ∧ Z.vm.findClass Kn = some t ∧ Z.vm.assignable c t = false) (hd : decode bytes pc = .ok (.instanceof i, 3)) (hq : pc + 3 = q)
    (K : ∀ (T' : State), Stand p l e R s m args below meth c T' locs cells slots → T'.heap = h → Go p e below F (T'.setTop (mkF m q Ls (.int 0 :: S)))) : Go p e below F (T.setTop (mkF m pc Ls (.ref a :: S))) := by
  subst hq
  obtain ⟨T1, X1, e1, st⟩ := instNo X C.1 C.2.1 C.2.2.2.2.1 w eT E N (g := mkF m pc Ls (.ref a :: S)) rfl rfl (hb C.2.2.1 hd)
  exact of st (K T1 X1 e1)
theorem instNull (X : Stand p l e R s m args below meth c T locs cells slots) (C : Cx p s m meth c Z bytes maxL own mname ret) {i : Nat} (hd : decode bytes pc = .ok (.instanceof i, 3)) (hq : pc + 3 = q) (K : Go p e below F (T.setTop (mkF m q Ls (.int 0 :: S)))) : Go p e below F (T.setTop (mkF m pc Ls (.null :: S))) := by
  subst hq; exact of (X.instanceofNull C.1 (g := mkF m pc Ls (.null :: S)) rfl rfl (hb C.2.2.1 hd)) K
theorem castNull (X : Stand p l e R s m args below meth c T locs cells slots) (C : Cx p s m meth c Z bytes maxL own mname ret) {i : Nat} (hd : decode bytes pc = .ok (.checkcast i, 3)) (hq : pc + 3 = q) (K : Go p e below F (T.setTop (mkF m q Ls (.null :: S)))) : Go p e below F (T.setTop (mkF m pc Ls (.null :: S))) := by
  subst hq; exact of (X.checkcastNull C.1 (g := mkF m pc Ls (.null :: S)) rfl rfl (hb C.2.2.1 hd)) K
theorem acmp (X : Stand p l e R s m args below meth c T locs cells slots) (C : Cx p s m meth c Z bytes maxL own mname ret) {cd : ACond} {o : Int} {x y : Value} (h1 : x.isRef = true) (h2 : y.isRef = true) {same : Bool} (hs : decide (x = y) = same) (hd : decode bytes pc = .ok (.if_acmp cd o, 3)) (ho : 0 ≤ (pc : Int) + o) (hq : q = if acV cd same = true then ((pc : Int) + o).toNat else pc + 3) (K : Go p e below F (T.setTop (mkF m q Ls S))) : Go p e below F (T.setTop (mkF m pc Ls (y :: x :: S))) :=
  of (fun t k => Jvm.RoadKit.acmp (g := mkF m pc Ls (y :: x :: S)) X C.1 rfl h1 h2 rfl (hb C.2.2.1 hd) rfl hs ho hq k) K
end
end W
end Jvm.Pilot.@@N@@
namespace Jvm.Pilot.@@N@@
open Jvm Jvm.ClassFile Sem Op Lib Jvm.Free Jvm.Stand Jvm.LawKit Jvm.RoadKit Bundle Jvm.Pilot.@@N@@.Jvm.D
set_option maxRecDepth 65536
set_option maxHeartbeats 40000000
abbrev own_HW (a0 : Array Value) (Z : State) : Prop := ∀ d ∈ tables_1, d.before a0 Z = true
abbrev own_M (l : Launch) (y : MethodName) (bytes : ByteArray) (maxL : Nat) (ret : Option FieldType) (ws : List Jvm.Cond) (rm : Room) (as : Array Value) (Z : State) (h0 : Heap) (Q : Option Value → Heap → List Loc → Prop) : Prop := MetFree l y (head1 (Jvm.Cond.code y bytes maxL ret :: ws) rm) (fun a U => a = as ∧ Z.Warmed39 U.vm ∧ U.heap = h0) (fun _ _ _ _ _ => True) (fun _ U o U' => ∃ v L, o = .returned v ∧ Q v U'.heap L ∧ FrameEnd U o U' L rm.cells rm.slots)
theorem own_wS {Z : State} {a0 : Array Value} (hw : ∀ d ∈ tables_1, d.before a0 Z = true) : ∀ d ∈ Bundle.stringAtoms, d.before a0 Z = true := by
  intro d hd
  simp only [Bundle.stringAtoms, List.mem_cons, List.not_mem_nil, or_false] at hd
  rcases hd with rfl | rfl | rfl | rfl | rfl | rfl | rfl
  · exact W.ww hw 3 rfl
  · exact W.ww hw 2 rfl
  · exact W.ww hw 15 rfl
  · exact W.ww hw 16 rfl
  · exact W.ww hw 17 rfl
  · exact W.ww hw 18 rfl
  · exact W.ww hw 19 rfl
abbrev own_el : List (String × Nat) := [("java/lang/String", 7)]
theorem own_EL {Z : State} {a0 : Array Value} (hw : ∀ d ∈ tables_1, d.before a0 Z = true) : EW Z a0 own_el := (EW.cons (W.ww hw 14 rfl) (by simp) EW.nil)
theorem own_CH {s : State} {a0 : Array Value} (hw : ∀ d ∈ tables_1, d.before a0 s = true) (hh : constsHeld consts_1 s) (hcw : Jvm.Lit.compactW.before a0 s = true) : CHv s own_el s.vm s.heap := by
  refine CHv.start (own_EL hw) ?_ hcw (W.ww hw 15 rfl) (W.ww hw 2 rfl)
  intro p hp
  simp only [own_el, List.mem_cons, List.not_mem_nil, or_false] at hp
  subst hp
  exact hh _ (List.mem_of_getElem? (i := 0) rfl)
def own_r16 (c : Int32) : Prop := 0 ≤ c.toInt ∧ c.toInt < 65536
def own_r8 (c : Int32) : Prop := 0 ≤ c.toInt ∧ c.toInt ≤ 255
theorem own_nc {z : Int32} (h : own_r16 z) : z.toUInt32.toUInt16.toUInt32.toInt32 = z := by
  have q := c_i2c z
  obtain ⟨h1, h2⟩ := h
  apply Int32.toInt_inj.mp
  omega
theorem own_nar {z : Int32} (h : own_r16 z) : narrow .char (.int z) = .int z := congrArg Value.int (own_nc h)
theorem own_narc {z : Int32} (h : own_r16 z) : nar .char z = z := own_nc h
theorem own_c16 {x v : Int32} (h : x.toUInt32.toUInt16.toUInt32.toInt32 = v) : own_r16 v := h ▸ (c_i2c x).2
theorem own_16_8 {x : Int32} (h : own_r16 x) (q : x.toInt ≤ (255 : Int32).toInt) : own_r8 x := ⟨h.1, q⟩
theorem own_bb (x : Int32) : (x.toInt8.toInt32).toInt8.toInt32 = x.toInt8.toInt32 := by rw [Int8.toInt8_toInt32]
def own_hb (x : Int32) : Int32 := (x >>> ((0 : Int32) &&& 31)).toInt8.toInt32
def own_lb (x : Int32) : Int32 := (x >>> ((8 : Int32) &&& 31)).toInt8.toInt32
theorem own_gc {x : Int32} (h : own_r16 x) : ((((own_hb x &&& (255 : Int32)) <<< ((0 : Int32) &&& 31)) ||| ((own_lb x &&& (255 : Int32)) <<< ((8 : Int32) &&& 31))).toUInt32.toUInt16.toUInt32.toInt32) = x := by
  have a1 := c_ishr x 0 0 (by decide)
  have a2 := c_ishr x 8 8 (by decide)
  have b1 := c_i2b (x >>> ((0 : Int32) &&& 31))
  have b2 := c_i2b (x >>> ((8 : Int32) &&& 31))
  have d1 := c_mask (own_hb x) 255 8 (by decide) (by decide)
  have d2 := c_mask (own_lb x) 255 8 (by decide) (by decide)
  have e1 := c_ishl (own_hb x &&& (255 : Int32)) 0 0 (by decide)
  have e2 := c_ishl (own_lb x &&& (255 : Int32)) 8 8 (by decide)
  have hh : (own_hb x) = (x >>> ((0 : Int32) &&& 31)).toInt8.toInt32 := rfl
  have hl : (own_lb x) = (x >>> ((8 : Int32) &&& 31)).toInt8.toInt32 := rfl
  rw [← hh] at b1; rw [← hl] at b2
  obtain ⟨x1, x2⟩ := h
  generalize hu : (own_hb x &&& (255 : Int32)) <<< ((0 : Int32) &&& 31) = u at *
  generalize hw : (own_lb x &&& (255 : Int32)) <<< ((8 : Int32) &&& 31) = w at *
  have lu := Int32.toInt_lt u; have lu' := Int32.le_toInt u
  have lw := Int32.toInt_lt w; have lw' := Int32.le_toInt w
  have u1 : u.toInt = x.toInt % 256 := by omega
  have w1 : w.toInt = x.toInt / 256 * 256 := by omega
  have f := c_or' u w 8 (by decide) 256 rfl (by omega) (by omega) (by omega)
  have g := c_i2c (u ||| w)
  have lo := Int32.toInt_lt (u ||| w); have lo' := Int32.le_toInt (u ||| w)
  apply Int32.toInt_inj.mp
  omega
theorem own_deq {x s : Int32} (h : own_r8 x) (q : own_r8 s) : decide (x.toInt8.toInt32 = s.toInt8.toInt32) = decide (x = s) := by
  have a := c_i2b x; have b := c_i2b s
  obtain ⟨x1, x2⟩ := h; obtain ⟨s1, s2⟩ := q
  refine decide_eq_decide.mpr ⟨fun e => Int32.toInt_inj.mp ?_, fun e => by rw [e]⟩
  rw [e] at a; omega
theorem own_big {x s : Int32} (h : own_r8 x) (q : (255 : Int32).toInt < s.toInt) : ¬ x = s := fun e => by
  subst e; have := h.2; have e : (255 : Int32).toInt = 255 := rfl; omega
def own_ix : List Bool → Int32 → Int32
  | [], _ => -1
  | true :: _, i => i
  | false :: t, i => own_ix t (i + 1)
theorem own_ix_t {P : Prop} [Decidable P] {t : List Bool} {i : Int32} (h : P) : own_ix (decide P :: t) i = i := by rw [decide_eq_true h]; rfl
theorem own_ix_f {P : Prop} [Decidable P] {t : List Bool} {i : Int32} (h : ¬ P) : own_ix (decide P :: t) i = own_ix t (i + 1) := by rw [decide_eq_false h]; rfl
theorem own_ix_n {i : Int32} : own_ix [] i = -1 := rfl
def own_sc : List Bool → Int32 → Int → Int32 → Int32
  | [], _, _, _ => -1
  | true :: t, p, i, n => if n.toInt ≤ i + 1 then p + 1 else own_sc t (p + 1) (i + 1) n
  | false :: t, p, i, n => own_sc t (p + 1) i n
def own_rs (es : List Bool) (p : Int32) (i : Int) (n : Int32) : Int32 := if n.toInt ≤ i then p else own_sc es p i n
theorem own_sc_t {P : Prop} [Decidable P] {t : List Bool} {p n : Int32} {i : Int} (h : P) : own_sc (decide P :: t) p i n = own_rs t (p + 1) (i + 1) n := by rw [decide_eq_true h]; rfl
theorem own_sc_f {P : Prop} [Decidable P] {t : List Bool} {p n : Int32} {i : Int} (h : ¬ P) : own_sc (decide P :: t) p i n = own_sc t (p + 1) i n := by rw [decide_eq_false h]; rfl
theorem own_sc_n {p n : Int32} {i : Int} : own_sc [] p i n = -1 := rfl
theorem own_rs_p {es : List Bool} {p n : Int32} {i : Int} (h : n.toInt ≤ i) : own_rs es p i n = p := if_pos h
theorem own_rs_s {es : List Bool} {p n : Int32} {i : Int} (h : ¬ n.toInt ≤ i) : own_rs es p i n = own_sc es p i n := if_neg h
theorem own_sc_none {n : Int32} : ∀ (es : List Bool) (p : Int32) (i : Int), i + es.length < n.toInt → own_sc es p i n = -1
  | [], _, _, _ => rfl
  | true :: t, p, i, h => by
    rw [List.length_cons] at h
    rw [own_sc, if_neg (by omega)]; exact own_sc_none t _ _ (by omega)
  | false :: t, p, i, h => by
    rw [List.length_cons] at h
    rw [own_sc]; exact own_sc_none t _ _ (by omega)
def own_rf : List (Int32 × Int32) → Int32 → Int32 → Int32 → Int32
  | [], _, _, ans => ans
  | (s, v) :: t, k, cum, ans => if s = 0 then own_rf t k cum ans else if cum + 1 = k then own_rf t k (cum + 1) v else own_rf t k (cum + 1) ans
theorem own_rf_none {k ans : Int32} : ∀ (L : List (Int32 × Int32)) (cum : Int32), 0 ≤ cum.toInt → cum.toInt + L.length < k.toInt → own_rf L k cum ans = ans
  | [], _, _, _ => rfl
  | (s, v) :: t, cum, h0, h => by
    rw [List.length_cons] at h
    have e := c_iadd cum 1
    have e1 : (1 : Int32).toInt = 1 := rfl
    have l1 := Int32.toInt_lt k
    have l2 := Int32.toInt_lt (cum + 1); have l3 := Int32.le_toInt (cum + 1)
    have l4 := Int32.toInt_lt cum
    rw [e1] at e
    have e2 : (cum + 1).toInt = cum.toInt + 1 := by omega
    rw [own_rf]; split
    · exact own_rf_none t _ h0 (by omega)
    · rw [if_neg (fun q => by rw [q] at e2; omega)]; exact own_rf_none t _ (by omega) (by omega)
theorem own_rf_z {s v k cum ans : Int32} {t : List (Int32 × Int32)} (h : s = 0) : own_rf ((s, v) :: t) k cum ans = own_rf t k cum ans := if_pos h
theorem own_rf_e {s v k cum ans : Int32} {t : List (Int32 × Int32)} (h : s ≠ 0) (q : cum + 1 = k) : own_rf ((s, v) :: t) k cum ans = own_rf t k (cum + 1) v := (if_neg h).trans (if_pos q)
theorem own_rf_n {s v k cum ans : Int32} {t : List (Int32 × Int32)} (h : s ≠ 0) (q : cum + 1 ≠ k) : own_rf ((s, v) :: t) k cum ans = own_rf t k (cum + 1) ans := (if_neg h).trans (if_neg q)
def own_r0 (n s0 s1 s2 s3 : Int32) : Int32 := if n.toInt ≤ 1 then 0 else own_rf [(s0, 1), (s1, 2), (s2, 3), (s3, 4)] (n - 1) 0 (-1)
def own_bi (b : Bool) : Int32 := if b then 1 else 0
theorem own_le1 {n : Int32} (h : ¬ n.toInt ≤ 1) : n = 2 ∨ n = 3 ∨ n = 4 ∨ n = 5 ∨ 6 ≤ n.toInt := by
  by_cases q : n.toInt < 6
  · have := W.small (P := fun n => n = 0 ∨ n = 1 ∨ n = 2 ∨ n = 3 ∨ n = 4 ∨ n = 5) 5 (by decide +kernel) n (by omega) (by omega)
    rcases this with rfl | rfl | r
    · exact absurd (by decide) h
    · exact absurd (by decide) h
    · rcases r with r | r | r | r
      · exact Or.inl r
      · exact Or.inr (Or.inl r)
      · exact Or.inr (Or.inr (Or.inl r))
      · exact Or.inr (Or.inr (Or.inr (Or.inl r)))
  · exact Or.inr (Or.inr (Or.inr (Or.inr (by omega))))
theorem own_law {es : List Bool} (n s0 s1 s2 s3 : Int32) (hl : es.length ≤ 4) (h2 : own_rs es 0 1 2 = own_r0 2 s0 s1 s2 s3) (h3 : own_rs es 0 1 3 = own_r0 3 s0 s1 s2 s3) (h4 : own_rs es 0 1 4 = own_r0 4 s0 s1 s2 s3) (h5 : own_rs es 0 1 5 = own_r0 5 s0 s1 s2 s3) : own_rs es 0 1 n = own_r0 n s0 s1 s2 s3 := by
  by_cases h : n.toInt ≤ 1
  · rw [own_rs_p h, own_r0, if_pos h]
  · rcases own_le1 h with rfl | rfl | rfl | rfl | q
    · exact h2
    · exact h3
    · exact h4
    · exact h5
    · have e := c_isub n 1
      have e1 : (1 : Int32).toInt = 1 := rfl
      have l1 := Int32.toInt_lt n
      have l2 := Int32.toInt_lt (n - 1); have l3 := Int32.le_toInt (n - 1)
      rw [e1] at e
      rw [own_rs_s h, own_sc_none es _ _ (by omega), own_r0, if_neg h, own_rf_none]
      · decide
      · show (0 : Int) + 4 < _
        omega
theorem own_law0 (n : Int32) : own_rs [] 0 1 n = own_r0 n 0 0 0 0 := own_law n 0 0 0 0 (by decide) (by decide) (by decide) (by decide) (by decide)
theorem own_law1 (n : Int32) (b0 : Bool) : own_rs [b0] 0 1 n = own_r0 n (own_bi b0) 0 0 0 := own_law n _ _ _ _ (by simp) (by revert b0; decide) (by revert b0; decide) (by revert b0; decide) (by revert b0; decide)
theorem own_law2 (n : Int32) (b0 b1 : Bool) : own_rs [b0, b1] 0 1 n = own_r0 n (own_bi b0) (own_bi b1) 0 0 := own_law n _ _ _ _ (by simp) (by revert b0 b1; decide) (by revert b0 b1; decide) (by revert b0 b1; decide) (by revert b0 b1; decide)
theorem own_law3 (n : Int32) (b0 b1 b2 : Bool) : own_rs [b0, b1, b2] 0 1 n = own_r0 n (own_bi b0) (own_bi b1) (own_bi b2) 0 := own_law n _ _ _ _ (by simp) (by revert b0 b1 b2; decide) (by revert b0 b1 b2; decide) (by revert b0 b1 b2; decide) (by revert b0 b1 b2; decide)
theorem own_law4 (n : Int32) (b0 b1 b2 b3 : Bool) : own_rs [b0, b1, b2, b3] 0 1 n = own_r0 n (own_bi b0) (own_bi b1) (own_bi b2) (own_bi b3) := own_law n _ _ _ _ (by simp) (by revert b0 b1 b2 b3; decide) (by revert b0 b1 b2 b3; decide) (by revert b0 b1 b2 b3; decide) (by revert b0 b1 b2 b3; decide)
theorem own_bi1 {P : Prop} [Decidable P] (h : P) : (1 : Int32) = own_bi (decide P) := by rw [decide_eq_true h]; rfl
theorem own_bi0 {P : Prop} [Decidable P] (h : ¬ P) : (0 : Int32) = own_bi (decide P) := by rw [decide_eq_false h]; rfl
theorem own_inc {v : Int32} {i : Int} (h : v.toInt = i) (h0 : 0 ≤ i) (h1 : i ≤ 100) : (v + (1 : Int32)).toInt = i + 1 := by
  have e := c_iadd v 1
  have e1 : (1 : Int32).toInt = 1 := rfl
  have l2 := Int32.toInt_lt (v + 1); have l3 := Int32.le_toInt (v + 1)
  rw [e1] at e; omega
theorem own_ixd {es : List Bool} {p : Int32} {n : Int} (h : n ≤ p.toInt) (hn : n = es.length) : own_ix (es.drop p.toInt.toNat) p = -1 := by
  rw [List.drop_eq_nil_of_le (by omega)]; rfl
theorem own_03 {p : Int32} {n : Nat} (h0 : 0 ≤ p.toInt) (h1 : p.toInt ≤ n) (hn : n ≤ 4) : p = 0 ∧ 0 ≤ n ∨ p = 1 ∧ 1 ≤ n ∨ p = 2 ∧ 2 ≤ n ∨ p = 3 ∧ 3 ≤ n ∨ p = 4 ∧ 4 ≤ n := by
  have := W.small (P := fun n => n = 0 ∨ n = 1 ∨ n = 2 ∨ n = 3 ∨ n = 4) 4 (by decide +kernel) p h0 (by omega)
  rcases this with rfl | rfl | rfl | rfl | rfl
  · exact Or.inl ⟨rfl, by omega⟩
  · exact Or.inr (Or.inl ⟨rfl, by have : (1 : Int32).toInt = 1 := rfl; omega⟩)
  · exact Or.inr (Or.inr (Or.inl ⟨rfl, by have : (2 : Int32).toInt = 2 := rfl; omega⟩))
  · exact Or.inr (Or.inr (Or.inr (Or.inl ⟨rfl, by have : (3 : Int32).toInt = 3 := rfl; omega⟩)))
  · exact Or.inr (Or.inr (Or.inr (Or.inr ⟨rfl, by have : (4 : Int32).toInt = 4 := rfl; omega⟩)))
theorem own_m5 {x v : Int32} (h : ((((x.toUInt32 >>> ((4 : Int32) &&& 31).toUInt32).toInt32) &&& (7 : Int32)) % (5 : Int32)) = v) : v = 0 ∨ v = 1 ∨ v = 2 ∨ v = 3 ∨ v = 4 := by
  have a1 := c_mask ((x.toUInt32 >>> ((4 : Int32) &&& 31).toUInt32).toInt32) 7 3 (by decide) (by decide)
  rw [← h]
  exact W.small (P := fun y => y % 5 = 0 ∨ y % 5 = 1 ∨ y % 5 = 2 ∨ y % 5 = 3 ∨ y % 5 = 4) 7 (by decide +kernel) _ (by omega) (by omega)
theorem own_fdet {Z : State} {h : Heap} {a : Addr} {D n d : String} {v w : Value} (F : Fld Z h a D n d v) (G : Fld Z h a D n d w) : v = w := by
  obtain ⟨c1, _, _, _, f1, q1, q2, -, -, -, -, q3⟩ := F
  obtain ⟨c2, _, _, _, f2, r1, r2, -, -, -, -, r3⟩ := G
  cases q1.symm.trans r1; cases q2.symm.trans r2; exact Option.some.inj (q3.symm.trans r3)
theorem own_safeN {Z : State} {EL : List (String × Nat)} {vm : Vm} {h : Heap} {x : Addr} (hal : Z.vm.Alike vm) (E : Exa Z h x "java/lang/String") (F : Fld Z h x "java/lang/String" "value" "[B" .null) : Safe Z EL vm h x := fun B => by
  obtain ⟨p, -, u, a, -, q, -, G, rfl | rfl⟩ := B
  · have hq := G.ha
    obtain ⟨cS, ⟨⟨s1, s2, s3, ⟨cv, kv, iv, s4, s4'⟩, -, s6, s7, s8, -⟩, -⟩, -⟩ := G
    obtain ⟨kv', z4⟩ := ff_back hal s4
    obtain ⟨c1, _, _, _, f1, q1, q2, -, -, -, -, q3⟩ := F
    cases q1.symm.trans s1; cases q2.symm.trans z4
    have := q3.symm.trans s8
    cases this
  · obtain ⟨cell, k, e1, e2, e3, -, -⟩ := E
    cases (show h[q.sd]? = some q.SA from G.hd).symm.trans e1
    obtain ⟨cS, -, -, f, -⟩ := G
    have f' : vm.findClass "[B" = some q.SA.cls := f
    rw [hal.findClass] at f'
    obtain ⟨k1, q1, q2⟩ := Vm.findClass_spec f'
    obtain ⟨k2, q3, q4⟩ := Vm.findClass_spec e2
    cases q1.symm.trans q3
    exact absurd (q2.symm.trans q4) (by decide)
def own_txt0 (Z : State) (h : Heap) (a : Addr) : Prop := ∃ (b : Addr) (kb : ClassId), Exa Z h a "java/lang/String" ∧ Fld Z h a "java/lang/String" "value" "[B" (.ref b) ∧ (Fld Z h a "java/lang/String" "coder" "B" (.int (0 : Int32)) ∧ Arv Z h b kb .byte (0 : Int32) [] (.int (0 : Int32)))
theorem own_txt0.exa {Z : State} {h : Heap} {a : Addr} (F : own_txt0 Z h a ) : Exa Z h a "java/lang/String" := by obtain ⟨_, _, f, -⟩ := F; exact f
def own_txt1 (Z : State) (h : Heap) (a : Addr) (x0 : Int32) : Prop := ∃ (b : Addr) (kb : ClassId), Exa Z h a "java/lang/String" ∧ Fld Z h a "java/lang/String" "value" "[B" (.ref b) ∧ ((Fld Z h a "java/lang/String" "coder" "B" (.int (0 : Int32)) ∧ own_r8 x0 ∧ Arv Z h b kb .byte (1 : Int32) [(.int (x0.toInt8.toInt32))] (.int (0 : Int32))) ∨ (Fld Z h a "java/lang/String" "coder" "B" (.int (1 : Int32)) ∧ Arv Z h b kb .byte (2 : Int32) [(.int (own_hb x0)), (.int (own_lb x0))] (.int (0 : Int32))))
theorem own_txt1.exa {Z : State} {h : Heap} {a : Addr} {x0 : Int32} (F : own_txt1 Z h a x0) : Exa Z h a "java/lang/String" := by obtain ⟨_, _, f, -⟩ := F; exact f
def own_txt2 (Z : State) (h : Heap) (a : Addr) (x0 x1 : Int32) : Prop := ∃ (b : Addr) (kb : ClassId), Exa Z h a "java/lang/String" ∧ Fld Z h a "java/lang/String" "value" "[B" (.ref b) ∧ ((Fld Z h a "java/lang/String" "coder" "B" (.int (0 : Int32)) ∧ own_r8 x0 ∧ own_r8 x1 ∧ Arv Z h b kb .byte (2 : Int32) [(.int (x0.toInt8.toInt32)), (.int (x1.toInt8.toInt32))] (.int (0 : Int32))) ∨ (Fld Z h a "java/lang/String" "coder" "B" (.int (1 : Int32)) ∧ Arv Z h b kb .byte (4 : Int32) [(.int (own_hb x0)), (.int (own_lb x0)), (.int (own_hb x1)), (.int (own_lb x1))] (.int (0 : Int32))))
theorem own_txt2.exa {Z : State} {h : Heap} {a : Addr} {x0 x1 : Int32} (F : own_txt2 Z h a x0 x1) : Exa Z h a "java/lang/String" := by obtain ⟨_, _, f, -⟩ := F; exact f
def own_txt3 (Z : State) (h : Heap) (a : Addr) (x0 x1 x2 : Int32) : Prop := ∃ (b : Addr) (kb : ClassId), Exa Z h a "java/lang/String" ∧ Fld Z h a "java/lang/String" "value" "[B" (.ref b) ∧ ((Fld Z h a "java/lang/String" "coder" "B" (.int (0 : Int32)) ∧ own_r8 x0 ∧ own_r8 x1 ∧ own_r8 x2 ∧ Arv Z h b kb .byte (3 : Int32) [(.int (x0.toInt8.toInt32)), (.int (x1.toInt8.toInt32)), (.int (x2.toInt8.toInt32))] (.int (0 : Int32))) ∨ (Fld Z h a "java/lang/String" "coder" "B" (.int (1 : Int32)) ∧ Arv Z h b kb .byte (6 : Int32) [(.int (own_hb x0)), (.int (own_lb x0)), (.int (own_hb x1)), (.int (own_lb x1)), (.int (own_hb x2)), (.int (own_lb x2))] (.int (0 : Int32))))
theorem own_txt3.exa {Z : State} {h : Heap} {a : Addr} {x0 x1 x2 : Int32} (F : own_txt3 Z h a x0 x1 x2) : Exa Z h a "java/lang/String" := by obtain ⟨_, _, f, -⟩ := F; exact f
def own_txt4 (Z : State) (h : Heap) (a : Addr) (x0 x1 x2 x3 : Int32) : Prop := ∃ (b : Addr) (kb : ClassId), Exa Z h a "java/lang/String" ∧ Fld Z h a "java/lang/String" "value" "[B" (.ref b) ∧ ((Fld Z h a "java/lang/String" "coder" "B" (.int (0 : Int32)) ∧ own_r8 x0 ∧ own_r8 x1 ∧ own_r8 x2 ∧ own_r8 x3 ∧ Arv Z h b kb .byte (4 : Int32) [(.int (x0.toInt8.toInt32)), (.int (x1.toInt8.toInt32)), (.int (x2.toInt8.toInt32)), (.int (x3.toInt8.toInt32))] (.int (0 : Int32))) ∨ (Fld Z h a "java/lang/String" "coder" "B" (.int (1 : Int32)) ∧ Arv Z h b kb .byte (8 : Int32) [(.int (own_hb x0)), (.int (own_lb x0)), (.int (own_hb x1)), (.int (own_lb x1)), (.int (own_hb x2)), (.int (own_lb x2)), (.int (own_hb x3)), (.int (own_lb x3))] (.int (0 : Int32))))
theorem own_txt4.exa {Z : State} {h : Heap} {a : Addr} {x0 x1 x2 x3 : Int32} (F : own_txt4 Z h a x0 x1 x2 x3) : Exa Z h a "java/lang/String" := by obtain ⟨_, _, f, -⟩ := F; exact f
def own_max (a b : Int32) : Int32 := if a.toInt < b.toInt then b else a
def own_min (a b : Int32) : Int32 := if b.toInt < a.toInt then b else a
theorem d12_0 : decode jdk_29_method_65_code 0 = .ok (.iload_n 0, 1) := by decide +kernel
theorem d12_1 : decode jdk_29_method_65_code 1 = .ok (.iload_n 1, 1) := by decide +kernel
theorem d12_2 : decode jdk_29_method_65_code 2 = .ok (.if_icmp .lt 7, 3) := by decide +kernel
theorem d12_9 : decode jdk_29_method_65_code 9 = .ok (.iload_n 1, 1) := by decide +kernel
theorem d12_10 : decode jdk_29_method_65_code 10 = .ok (.ireturn, 1) := by decide +kernel
theorem d12_5 : decode jdk_29_method_65_code 5 = .ok (.iload_n 0, 1) := by decide +kernel
theorem d12_6 : decode jdk_29_method_65_code 6 = .ok (.goto 4, 3) := by decide +kernel
abbrev y12 : MethodName := ⟨"java/lang/Math", "max", "(II)I"⟩
abbrev r_0_0_0_0 : Room := { frames := 0, cells := 0, slots := 0, locals := 0 }
def Q12 (Z : State) (p0 p1 : Int32) (h0 : Heap) (n0 : Nat) (v : Option Value) (h : Heap) (L : List Loc) : Prop := v = some (.int (own_max p0 p1)) ∧ Fr n0 L ∧ h = h0
theorem rm12 (l : Launch) (Z : State) (a0 : Array Value) (hw : own_HW a0 Z) (ws : List Jvm.Cond) (p0 p1 : Int32) (h0 : Heap) (n0 : Nat) : own_M l y12 jdk_29_method_65_code 2 (some .int) ws r_0_0_0_0 #[(.int p0), (.int p1)] Z h0 (Q12 Z p0 p1 h0 n0) := by
  refine W.bodyOf (Ls := #[.val (.int p0), .val (.int p1)]) (Jvm.Free.JP.mathPlain rfl (by decide +kernel)) (fun m => by first | exact W.entry_of rfl) ?_
  intro p e s m below meth c T0 C X0 e0
  have N0 := Fr.nil n0
  refine W.iloadN (q := 1) X0 C d12_0 rfl rfl ?_
  refine W.iloadN (q := 2) X0 C d12_1 rfl rfl ?_
  refine W.icmp (q := 9) (q' := 5) X0 C d12_2 (by decide) (by decide) rfl (fun hc1 => ?_) (fun hc1 => ?_)
  · replace hc1 : p0.toInt < p1.toInt := hc1
    refine W.iloadN (q := 10) X0 C d12_9 rfl rfl ?_
    exact W.retI X0 C e0 d12_10 (by decide) (by decide) ⟨by rw [own_max, if_pos hc1], N0, rfl⟩
  · replace hc1 : p1.toInt ≤ p0.toInt := hc1
    refine W.iloadN (q := 6) X0 C d12_5 rfl rfl ?_
    refine W.goto (q := 10) X0 C d12_6 (by decide) (by decide) ?_
    exact W.retI X0 C e0 d12_10 (by decide) (by decide) ⟨by rw [own_max, if_neg (Int.not_lt.mpr hc1)], N0, rfl⟩
theorem d13_0 : decode jdk_29_method_69_code 0 = .ok (.iload_n 0, 1) := by decide +kernel
theorem d13_1 : decode jdk_29_method_69_code 1 = .ok (.iload_n 1, 1) := by decide +kernel
theorem d13_2 : decode jdk_29_method_69_code 2 = .ok (.if_icmp .gt 7, 3) := by decide +kernel
theorem d13_9 : decode jdk_29_method_69_code 9 = .ok (.iload_n 1, 1) := by decide +kernel
theorem d13_10 : decode jdk_29_method_69_code 10 = .ok (.ireturn, 1) := by decide +kernel
theorem d13_5 : decode jdk_29_method_69_code 5 = .ok (.iload_n 0, 1) := by decide +kernel
theorem d13_6 : decode jdk_29_method_69_code 6 = .ok (.goto 4, 3) := by decide +kernel
abbrev y13 : MethodName := ⟨"java/lang/Math", "min", "(II)I"⟩
def Q13 (Z : State) (p0 p1 : Int32) (h0 : Heap) (n0 : Nat) (v : Option Value) (h : Heap) (L : List Loc) : Prop := v = some (.int (own_min p0 p1)) ∧ Fr n0 L ∧ h = h0
theorem rm13 (l : Launch) (Z : State) (a0 : Array Value) (hw : own_HW a0 Z) (ws : List Jvm.Cond) (p0 p1 : Int32) (h0 : Heap) (n0 : Nat) : own_M l y13 jdk_29_method_69_code 2 (some .int) ws r_0_0_0_0 #[(.int p0), (.int p1)] Z h0 (Q13 Z p0 p1 h0 n0) := by
  refine W.bodyOf (Ls := #[.val (.int p0), .val (.int p1)]) (Jvm.Free.JP.mathPlain rfl (by decide +kernel)) (fun m => by first | exact W.entry_of rfl) ?_
  intro p e s m below meth c T0 C X0 e0
  have N0 := Fr.nil n0
  refine W.iloadN (q := 1) X0 C d13_0 rfl rfl ?_
  refine W.iloadN (q := 2) X0 C d13_1 rfl rfl ?_
  refine W.icmp (q := 9) (q' := 5) X0 C d13_2 (by decide) (by decide) rfl (fun hc2 => ?_) (fun hc2 => ?_)
  · replace hc2 : p1.toInt < p0.toInt := hc2
    refine W.iloadN (q := 10) X0 C d13_9 rfl rfl ?_
    exact W.retI X0 C e0 d13_10 (by decide) (by decide) ⟨by rw [own_min, if_pos hc2], N0, rfl⟩
  · replace hc2 : p0.toInt ≤ p1.toInt := hc2
    refine W.iloadN (q := 6) X0 C d13_5 rfl rfl ?_
    refine W.goto (q := 10) X0 C d13_6 (by decide) (by decide) ?_
    exact W.retI X0 C e0 d13_10 (by decide) (by decide) ⟨by rw [own_min, if_neg (Int.not_lt.mpr hc2)], N0, rfl⟩
def own_ce (x : Int32) : Int32 := if x.toInt ≤ (255 : Int32).toInt then 1 else 0
theorem d11_0 : decode jdk_43_method_4_code 0 = .ok (.iload_n 0, 1) := by decide +kernel
theorem d11_1 : decode jdk_43_method_4_code 1 = .ok (.ifCond .lt 14, 3) := by decide +kernel
theorem d11_4 : decode jdk_43_method_4_code 4 = .ok (.iload_n 0, 1) := by decide +kernel
theorem d11_5 : decode jdk_43_method_4_code 5 = .ok (.sipush 255, 3) := by decide +kernel
theorem d11_8 : decode jdk_43_method_4_code 8 = .ok (.if_icmp .gt 7, 3) := by decide +kernel
theorem d11_15 : decode jdk_43_method_4_code 15 = .ok (.iconst 0, 1) := by decide +kernel
theorem d11_16 : decode jdk_43_method_4_code 16 = .ok (.ireturn, 1) := by decide +kernel
theorem d11_11 : decode jdk_43_method_4_code 11 = .ok (.iconst 1, 1) := by decide +kernel
theorem d11_12 : decode jdk_43_method_4_code 12 = .ok (.goto 4, 3) := by decide +kernel
theorem pn_java_lang_StringLatin1 : plainName "java/lang/StringLatin1" = true := by first | (simp [plainName, overriddenIn]; done) | decide +kernel
abbrev y11 : MethodName := ⟨"java/lang/StringLatin1", "canEncode", "(I)Z"⟩
def Q11 (Z : State) (p0 : Int32) (h0 : Heap) (n0 : Nat) (v : Option Value) (h : Heap) (L : List Loc) : Prop := v = some (.int (own_ce p0)) ∧ Fr n0 L ∧ h = h0
theorem rm11 (l : Launch) (Z : State) (a0 : Array Value) (hw : own_HW a0 Z) (ws : List Jvm.Cond) (p0 : Int32) (h0 : Heap) (n0 : Nat) (hp : own_r16 p0) : own_M l y11 jdk_43_method_4_code 1 (some .boolean) ws r_0_0_0_0 #[(.int p0)] Z h0 (Q11 Z p0 h0 n0) := by
  refine W.bodyOf (Ls := #[.val (.int p0)]) (plainFor_of_name pn_java_lang_StringLatin1) (fun m => by first | exact W.entry_of rfl) ?_
  intro p e s m below meth c T0 C X0 e0
  have N0 := Fr.nil n0
  refine W.iloadN (q := 1) X0 C d11_0 rfl rfl ?_
  refine W.ifF (q := 4) X0 C d11_1 rfl (show (0 : Int32).toInt ≤ p0.toInt from hp.1) ?_
  refine W.iloadN (q := 5) X0 C d11_4 rfl rfl ?_
  refine W.sipush (q := 8) (v := 255) X0 C d11_5 rfl rfl ?_
  refine W.icmp (q := 15) (q' := 11) X0 C d11_8 (by decide) (by decide) rfl (fun hc3 => ?_) (fun hc3 => ?_)
  · replace hc3 : (255 : Int32).toInt < p0.toInt := hc3
    refine W.iconst (q := 16) (v := 0) X0 C d11_15 rfl rfl ?_
    exact W.retN X0 C (by simp) e0 d11_16 rfl (by decide) (by decide) ⟨by rw [own_ce, if_neg (Int.not_le.mpr hc3)] <;> rfl, N0, rfl⟩
  · replace hc3 : p0.toInt ≤ (255 : Int32).toInt := hc3
    refine W.iconst (q := 12) (v := 1) X0 C d11_11 rfl rfl ?_
    refine W.goto (q := 16) X0 C d11_12 (by decide) (by decide) ?_
    exact W.retN X0 C (by simp) e0 d11_16 rfl (by decide) (by decide) ⟨by rw [own_ce, if_pos hc3] <;> rfl, N0, rfl⟩
theorem d17_7 : decode jdk_43_method_23_code 7 = .ok (.iload 5, 2) := by decide +kernel
theorem d17_9 : decode jdk_43_method_23_code 9 = .ok (.iload_n 3, 1) := by decide +kernel
theorem d17_10 : decode jdk_43_method_23_code 10 = .ok (.if_icmp .ge 21, 3) := by decide +kernel
theorem d17_31 : decode jdk_43_method_23_code 31 = .ok (.iconst (-1), 1) := by decide +kernel
theorem d17_32 : decode jdk_43_method_23_code 32 = .ok (.ireturn, 1) := by decide +kernel
set_option maxRecDepth 65536 in
set_option maxHeartbeats 40000000 in
theorem own_f_1_1 (l : Launch) (Z : State) (a0 : Array Value) (hw : ∀ d ∈ tables_1, d.before a0 Z = true) (h0 : Heap) (n0 : Nat) (p0 : Addr) (kb : ClassId) (x0 : Int32) (p1 : Int32) (p2 : Int32) {p : Program} {e : Env} {s : State} {m : MethodId} {args : Array Value} {below : List Frame} {meth : Method} {c : Code} {T0 : State} {locs : List Loc}
    (C : W.Cx p s m meth c Z jdk_43_method_23_code 6 "java/lang/StringLatin1" "indexOfChar" (some .int)) (X0 : Stand p l e ({ frames := 0, cells := 0, slots := 0, locals := 0 } : Room) s m args below meth c T0 locs 0 0) (e0 : T0.heap = h0) (N0 : Fr n0 locs) (V0 : Arv Z h0 p0 kb .byte (1 : Int32) [(.int (x0.toInt8.toInt32))] (.int (0 : Int32))) :
    W.Go p e below (W.Post s (fun v h L => v = some (.int (own_ix [] (1 : Int32))) ∧ Fr n0 L ∧ h = h0) ({ frames := 0, cells := 0, slots := 0, locals := 0 } : Room).cells ({ frames := 0, cells := 0, slots := 0, locals := 0 } : Room).slots) (T0.setTop (mkF m 7 #[.val (.ref p0), .val (.int p1), .val (.int p2), .val (.int (1 : Int32)), .val (.int (p1.toInt8.toInt32)), .val (.int (1 : Int32))] [])) := by
  refine W.iload (q := 9) X0 C d17_7 rfl rfl ?_
  refine W.iloadN (q := 10) X0 C d17_9 rfl rfl ?_
  refine W.icmpT (q := 31) X0 C d17_10 (by decide) (by decide) (by decide : W.cT .ge (1 : Int32) (1 : Int32)) ?_
  refine W.iconst (q := 32) (v := (-1)) X0 C d17_31 rfl rfl ?_
  exact W.retI X0 C e0 d17_32 (by decide) (by decide) ⟨by rw [own_ix_n] <;> rfl, N0, rfl⟩
theorem d17_13 : decode jdk_43_method_23_code 13 = .ok (.aload_n 0, 1) := by decide +kernel
theorem d17_14 : decode jdk_43_method_23_code 14 = .ok (.iload 5, 2) := by decide +kernel
theorem d17_16 : decode jdk_43_method_23_code 16 = .ok (.baload, 1) := by decide +kernel
theorem d17_17 : decode jdk_43_method_23_code 17 = .ok (.iload 4, 2) := by decide +kernel
theorem d17_19 : decode jdk_43_method_23_code 19 = .ok (.if_icmp .ne 6, 3) := by decide +kernel
theorem d17_25 : decode jdk_43_method_23_code 25 = .ok (.iinc 5 1, 3) := by decide +kernel
theorem d17_28 : decode jdk_43_method_23_code 28 = .ok (.goto (-21), 3) := by decide +kernel
theorem d17_22 : decode jdk_43_method_23_code 22 = .ok (.iload 5, 2) := by decide +kernel
theorem d17_24 : decode jdk_43_method_23_code 24 = .ok (.ireturn, 1) := by decide +kernel
set_option maxRecDepth 65536 in
set_option maxHeartbeats 40000000 in
theorem own_f_1_0 (l : Launch) (Z : State) (a0 : Array Value) (hw : ∀ d ∈ tables_1, d.before a0 Z = true) (h0 : Heap) (n0 : Nat) (p0 : Addr) (kb : ClassId) (x0 : Int32) (p1 : Int32) (p2 : Int32) {p : Program} {e : Env} {s : State} {m : MethodId} {args : Array Value} {below : List Frame} {meth : Method} {c : Code} {T0 : State} {locs : List Loc}
    (C : W.Cx p s m meth c Z jdk_43_method_23_code 6 "java/lang/StringLatin1" "indexOfChar" (some .int)) (X0 : Stand p l e ({ frames := 0, cells := 0, slots := 0, locals := 0 } : Room) s m args below meth c T0 locs 0 0) (e0 : T0.heap = h0) (N0 : Fr n0 locs) (V0 : Arv Z h0 p0 kb .byte (1 : Int32) [(.int (x0.toInt8.toInt32))] (.int (0 : Int32))) :
    W.Go p e below (W.Post s (fun v h L => v = some (.int (own_ix [decide ((x0.toInt8.toInt32) = (p1.toInt8.toInt32))] (0 : Int32))) ∧ Fr n0 L ∧ h = h0) ({ frames := 0, cells := 0, slots := 0, locals := 0 } : Room).cells ({ frames := 0, cells := 0, slots := 0, locals := 0 } : Room).slots) (T0.setTop (mkF m 7 #[.val (.ref p0), .val (.int p1), .val (.int p2), .val (.int (1 : Int32)), .val (.int (p1.toInt8.toInt32)), .val (.int (0 : Int32))] [])) := by
  refine W.iload (q := 9) X0 C d17_7 rfl rfl ?_
  refine W.iloadN (q := 10) X0 C d17_9 rfl rfl ?_
  refine W.icmpF (q := 13) X0 C d17_10 rfl (by decide : W.cF .ge (0 : Int32) (1 : Int32)) ?_
  refine W.aloadN (q := 14) X0 C d17_13 rfl rfl rfl ?_
  refine W.iload (q := 16) X0 C d17_14 rfl rfl ?_
  refine W.baload (q := 17) X0 C e0 V0 (by decide) (by decide) rfl d17_16 rfl ?_
  refine W.iload (q := 19) X0 C d17_17 rfl rfl ?_
  refine W.icmp (q := 25) (q' := 22) X0 C d17_19 (by decide) (by decide) rfl (fun hc4 => ?_) (fun hc4 => ?_)
  · replace hc4 : (x0.toInt8.toInt32) ≠ (p1.toInt8.toInt32) := hc4
    refine W.iinc (q := 28) (L' := #[.val (.ref p0), .val (.int p1), .val (.int p2), .val (.int (1 : Int32)), .val (.int (p1.toInt8.toInt32)), .val (.int (1 : Int32))]) X0 C d17_25 rfl (by decide) rfl rfl ?_
    refine W.goto (q := 7) X0 C d17_28 (by decide) (by decide) ?_
    rw [own_ix_f hc4]
    exact own_f_1_1 l Z a0 hw h0 n0 p0 kb x0 p1 p2 C X0 e0 N0 V0
  · replace hc4 : (x0.toInt8.toInt32) = (p1.toInt8.toInt32) := hc4
    refine W.iload (q := 24) X0 C d17_22 rfl rfl ?_
    exact W.retI X0 C e0 d17_24 (by decide) (by decide) ⟨by rw [own_ix_t hc4] <;> rfl, N0, rfl⟩
theorem d17_0 : decode jdk_43_method_23_code 0 = .ok (.iload_n 1, 1) := by decide +kernel
theorem d17_1 : decode jdk_43_method_23_code 1 = .ok (.i2b, 1) := by decide +kernel
theorem d17_2 : decode jdk_43_method_23_code 2 = .ok (.istore 4, 2) := by decide +kernel
theorem d17_4 : decode jdk_43_method_23_code 4 = .ok (.iload_n 2, 1) := by decide +kernel
theorem d17_5 : decode jdk_43_method_23_code 5 = .ok (.istore 5, 2) := by decide +kernel
abbrev y17 : MethodName := ⟨"java/lang/StringLatin1", "indexOfChar", "([BIII)I"⟩
def Q17_1 (Z : State) (p0 : Addr) (kb : ClassId) (x0 : Int32) (p1 : Int32) (p2 : Int32) (h0 : Heap) (n0 : Nat) (v : Option Value) (h : Heap) (L : List Loc) : Prop := v = some (.int (own_ix (List.drop p2.toInt.toNat [decide ((x0.toInt8.toInt32) = (p1.toInt8.toInt32))]) p2)) ∧ Fr n0 L ∧ h = h0
theorem rm17_1 (l : Launch) (Z : State) (a0 : Array Value) (hw : own_HW a0 Z) (ws : List Jvm.Cond) (p0 : Addr) (kb : ClassId) (x0 : Int32) (p1 : Int32) (p2 : Int32) (h0 : Heap) (n0 : Nat) (V0 : Arv Z h0 p0 kb .byte (1 : Int32) [(.int (x0.toInt8.toInt32))] (.int (0 : Int32))) (hf0 : 0 ≤ p2.toInt) (hf1 : p2.toInt ≤ (1 : Nat)) : own_M l y17 jdk_43_method_23_code 6 (some .int) ws r_0_0_0_0 #[(.ref p0), (.int p1), (.int p2), (.int (1 : Int32))] Z h0 (Q17_1 Z p0 kb x0 p1 p2 h0 n0) := by
  refine W.bodyOf (Ls := #[.val (.ref p0), .val (.int p1), .val (.int p2), .val (.int (1 : Int32)), .unset, .unset]) (plainFor_of_name pn_java_lang_StringLatin1) (fun m => by first | exact W.entry_of rfl) ?_
  intro p e s m below meth c T0 C X0 e0
  have N0 := Fr.nil n0
  refine W.iloadN (q := 1) X0 C d17_0 rfl rfl ?_
  refine W.i2b (q := 2) X0 C d17_1 rfl ?_
  refine W.istore (q := 4) (L' := #[.val (.ref p0), .val (.int p1), .val (.int p2), .val (.int (1 : Int32)), .val (.int (p1.toInt8.toInt32)), .unset]) X0 C d17_2 rfl rfl ?_
  refine W.iloadN (q := 5) X0 C d17_4 rfl rfl ?_
  refine W.istore (q := 7) (L' := #[.val (.ref p0), .val (.int p1), .val (.int p2), .val (.int (1 : Int32)), .val (.int (p1.toInt8.toInt32)), .val (.int p2)]) X0 C d17_5 rfl rfl ?_
  rcases own_03 hf0 hf1 (by decide) with ⟨rfl, hn⟩ | ⟨rfl, hn⟩ | ⟨rfl, hn⟩ | ⟨rfl, hn⟩ | ⟨rfl, hn⟩
  · exact own_f_1_0 l Z a0 hw h0 n0 p0 kb x0 p1 (0 : Int32) C X0 e0 N0 V0
  · exact own_f_1_1 l Z a0 hw h0 n0 p0 kb x0 p1 (1 : Int32) C X0 e0 N0 V0
  · exact absurd hn (by decide)
  · exact absurd hn (by decide)
  · exact absurd hn (by decide)
set_option maxRecDepth 65536 in
set_option maxHeartbeats 40000000 in
theorem own_f_2_2 (l : Launch) (Z : State) (a0 : Array Value) (hw : ∀ d ∈ tables_1, d.before a0 Z = true) (h0 : Heap) (n0 : Nat) (p0 : Addr) (kb : ClassId) (x0 x1 : Int32) (p1 : Int32) (p2 : Int32) {p : Program} {e : Env} {s : State} {m : MethodId} {args : Array Value} {below : List Frame} {meth : Method} {c : Code} {T0 : State} {locs : List Loc}
    (C : W.Cx p s m meth c Z jdk_43_method_23_code 6 "java/lang/StringLatin1" "indexOfChar" (some .int)) (X0 : Stand p l e ({ frames := 0, cells := 0, slots := 0, locals := 0 } : Room) s m args below meth c T0 locs 0 0) (e0 : T0.heap = h0) (N0 : Fr n0 locs) (V0 : Arv Z h0 p0 kb .byte (2 : Int32) [(.int (x0.toInt8.toInt32)), (.int (x1.toInt8.toInt32))] (.int (0 : Int32))) :
    W.Go p e below (W.Post s (fun v h L => v = some (.int (own_ix [] (2 : Int32))) ∧ Fr n0 L ∧ h = h0) ({ frames := 0, cells := 0, slots := 0, locals := 0 } : Room).cells ({ frames := 0, cells := 0, slots := 0, locals := 0 } : Room).slots) (T0.setTop (mkF m 7 #[.val (.ref p0), .val (.int p1), .val (.int p2), .val (.int (2 : Int32)), .val (.int (p1.toInt8.toInt32)), .val (.int (2 : Int32))] [])) := by
  refine W.iload (q := 9) X0 C d17_7 rfl rfl ?_
  refine W.iloadN (q := 10) X0 C d17_9 rfl rfl ?_
  refine W.icmpT (q := 31) X0 C d17_10 (by decide) (by decide) (by decide : W.cT .ge (2 : Int32) (2 : Int32)) ?_
  refine W.iconst (q := 32) (v := (-1)) X0 C d17_31 rfl rfl ?_
  exact W.retI X0 C e0 d17_32 (by decide) (by decide) ⟨by rw [own_ix_n] <;> rfl, N0, rfl⟩
set_option maxRecDepth 65536 in
set_option maxHeartbeats 40000000 in
theorem own_f_2_1 (l : Launch) (Z : State) (a0 : Array Value) (hw : ∀ d ∈ tables_1, d.before a0 Z = true) (h0 : Heap) (n0 : Nat) (p0 : Addr) (kb : ClassId) (x0 x1 : Int32) (p1 : Int32) (p2 : Int32) {p : Program} {e : Env} {s : State} {m : MethodId} {args : Array Value} {below : List Frame} {meth : Method} {c : Code} {T0 : State} {locs : List Loc}
    (C : W.Cx p s m meth c Z jdk_43_method_23_code 6 "java/lang/StringLatin1" "indexOfChar" (some .int)) (X0 : Stand p l e ({ frames := 0, cells := 0, slots := 0, locals := 0 } : Room) s m args below meth c T0 locs 0 0) (e0 : T0.heap = h0) (N0 : Fr n0 locs) (V0 : Arv Z h0 p0 kb .byte (2 : Int32) [(.int (x0.toInt8.toInt32)), (.int (x1.toInt8.toInt32))] (.int (0 : Int32))) :
    W.Go p e below (W.Post s (fun v h L => v = some (.int (own_ix [decide ((x1.toInt8.toInt32) = (p1.toInt8.toInt32))] (1 : Int32))) ∧ Fr n0 L ∧ h = h0) ({ frames := 0, cells := 0, slots := 0, locals := 0 } : Room).cells ({ frames := 0, cells := 0, slots := 0, locals := 0 } : Room).slots) (T0.setTop (mkF m 7 #[.val (.ref p0), .val (.int p1), .val (.int p2), .val (.int (2 : Int32)), .val (.int (p1.toInt8.toInt32)), .val (.int (1 : Int32))] [])) := by
  refine W.iload (q := 9) X0 C d17_7 rfl rfl ?_
  refine W.iloadN (q := 10) X0 C d17_9 rfl rfl ?_
  refine W.icmpF (q := 13) X0 C d17_10 rfl (by decide : W.cF .ge (1 : Int32) (2 : Int32)) ?_
  refine W.aloadN (q := 14) X0 C d17_13 rfl rfl rfl ?_
  refine W.iload (q := 16) X0 C d17_14 rfl rfl ?_
  refine W.baload (q := 17) X0 C e0 V0 (by decide) (by decide) rfl d17_16 rfl ?_
  refine W.iload (q := 19) X0 C d17_17 rfl rfl ?_
  refine W.icmp (q := 25) (q' := 22) X0 C d17_19 (by decide) (by decide) rfl (fun hc5 => ?_) (fun hc5 => ?_)
  · replace hc5 : (x1.toInt8.toInt32) ≠ (p1.toInt8.toInt32) := hc5
    refine W.iinc (q := 28) (L' := #[.val (.ref p0), .val (.int p1), .val (.int p2), .val (.int (2 : Int32)), .val (.int (p1.toInt8.toInt32)), .val (.int (2 : Int32))]) X0 C d17_25 rfl (by decide) rfl rfl ?_
    refine W.goto (q := 7) X0 C d17_28 (by decide) (by decide) ?_
    rw [own_ix_f hc5]
    exact own_f_2_2 l Z a0 hw h0 n0 p0 kb x0 x1 p1 p2 C X0 e0 N0 V0
  · replace hc5 : (x1.toInt8.toInt32) = (p1.toInt8.toInt32) := hc5
    refine W.iload (q := 24) X0 C d17_22 rfl rfl ?_
    exact W.retI X0 C e0 d17_24 (by decide) (by decide) ⟨by rw [own_ix_t hc5] <;> rfl, N0, rfl⟩
set_option maxRecDepth 65536 in
set_option maxHeartbeats 40000000 in
theorem own_f_2_0 (l : Launch) (Z : State) (a0 : Array Value) (hw : ∀ d ∈ tables_1, d.before a0 Z = true) (h0 : Heap) (n0 : Nat) (p0 : Addr) (kb : ClassId) (x0 x1 : Int32) (p1 : Int32) (p2 : Int32) {p : Program} {e : Env} {s : State} {m : MethodId} {args : Array Value} {below : List Frame} {meth : Method} {c : Code} {T0 : State} {locs : List Loc}
    (C : W.Cx p s m meth c Z jdk_43_method_23_code 6 "java/lang/StringLatin1" "indexOfChar" (some .int)) (X0 : Stand p l e ({ frames := 0, cells := 0, slots := 0, locals := 0 } : Room) s m args below meth c T0 locs 0 0) (e0 : T0.heap = h0) (N0 : Fr n0 locs) (V0 : Arv Z h0 p0 kb .byte (2 : Int32) [(.int (x0.toInt8.toInt32)), (.int (x1.toInt8.toInt32))] (.int (0 : Int32))) :
    W.Go p e below (W.Post s (fun v h L => v = some (.int (own_ix [decide ((x0.toInt8.toInt32) = (p1.toInt8.toInt32)), decide ((x1.toInt8.toInt32) = (p1.toInt8.toInt32))] (0 : Int32))) ∧ Fr n0 L ∧ h = h0) ({ frames := 0, cells := 0, slots := 0, locals := 0 } : Room).cells ({ frames := 0, cells := 0, slots := 0, locals := 0 } : Room).slots) (T0.setTop (mkF m 7 #[.val (.ref p0), .val (.int p1), .val (.int p2), .val (.int (2 : Int32)), .val (.int (p1.toInt8.toInt32)), .val (.int (0 : Int32))] [])) := by
  refine W.iload (q := 9) X0 C d17_7 rfl rfl ?_
  refine W.iloadN (q := 10) X0 C d17_9 rfl rfl ?_
  refine W.icmpF (q := 13) X0 C d17_10 rfl (by decide : W.cF .ge (0 : Int32) (2 : Int32)) ?_
  refine W.aloadN (q := 14) X0 C d17_13 rfl rfl rfl ?_
  refine W.iload (q := 16) X0 C d17_14 rfl rfl ?_
  refine W.baload (q := 17) X0 C e0 V0 (by decide) (by decide) rfl d17_16 rfl ?_
  refine W.iload (q := 19) X0 C d17_17 rfl rfl ?_
  refine W.icmp (q := 25) (q' := 22) X0 C d17_19 (by decide) (by decide) rfl (fun hc6 => ?_) (fun hc6 => ?_)
  · replace hc6 : (x0.toInt8.toInt32) ≠ (p1.toInt8.toInt32) := hc6
    refine W.iinc (q := 28) (L' := #[.val (.ref p0), .val (.int p1), .val (.int p2), .val (.int (2 : Int32)), .val (.int (p1.toInt8.toInt32)), .val (.int (1 : Int32))]) X0 C d17_25 rfl (by decide) rfl rfl ?_
    refine W.goto (q := 7) X0 C d17_28 (by decide) (by decide) ?_
    rw [own_ix_f hc6]
    exact own_f_2_1 l Z a0 hw h0 n0 p0 kb x0 x1 p1 p2 C X0 e0 N0 V0
  · replace hc6 : (x0.toInt8.toInt32) = (p1.toInt8.toInt32) := hc6
    refine W.iload (q := 24) X0 C d17_22 rfl rfl ?_
    exact W.retI X0 C e0 d17_24 (by decide) (by decide) ⟨by rw [own_ix_t hc6] <;> rfl, N0, rfl⟩
def Q17_2 (Z : State) (p0 : Addr) (kb : ClassId) (x0 x1 : Int32) (p1 : Int32) (p2 : Int32) (h0 : Heap) (n0 : Nat) (v : Option Value) (h : Heap) (L : List Loc) : Prop := v = some (.int (own_ix (List.drop p2.toInt.toNat [decide ((x0.toInt8.toInt32) = (p1.toInt8.toInt32)), decide ((x1.toInt8.toInt32) = (p1.toInt8.toInt32))]) p2)) ∧ Fr n0 L ∧ h = h0
theorem rm17_2 (l : Launch) (Z : State) (a0 : Array Value) (hw : own_HW a0 Z) (ws : List Jvm.Cond) (p0 : Addr) (kb : ClassId) (x0 x1 : Int32) (p1 : Int32) (p2 : Int32) (h0 : Heap) (n0 : Nat) (V0 : Arv Z h0 p0 kb .byte (2 : Int32) [(.int (x0.toInt8.toInt32)), (.int (x1.toInt8.toInt32))] (.int (0 : Int32))) (hf0 : 0 ≤ p2.toInt) (hf1 : p2.toInt ≤ (2 : Nat)) : own_M l y17 jdk_43_method_23_code 6 (some .int) ws r_0_0_0_0 #[(.ref p0), (.int p1), (.int p2), (.int (2 : Int32))] Z h0 (Q17_2 Z p0 kb x0 x1 p1 p2 h0 n0) := by
  refine W.bodyOf (Ls := #[.val (.ref p0), .val (.int p1), .val (.int p2), .val (.int (2 : Int32)), .unset, .unset]) (plainFor_of_name pn_java_lang_StringLatin1) (fun m => by first | exact W.entry_of rfl) ?_
  intro p e s m below meth c T0 C X0 e0
  have N0 := Fr.nil n0
  refine W.iloadN (q := 1) X0 C d17_0 rfl rfl ?_
  refine W.i2b (q := 2) X0 C d17_1 rfl ?_
  refine W.istore (q := 4) (L' := #[.val (.ref p0), .val (.int p1), .val (.int p2), .val (.int (2 : Int32)), .val (.int (p1.toInt8.toInt32)), .unset]) X0 C d17_2 rfl rfl ?_
  refine W.iloadN (q := 5) X0 C d17_4 rfl rfl ?_
  refine W.istore (q := 7) (L' := #[.val (.ref p0), .val (.int p1), .val (.int p2), .val (.int (2 : Int32)), .val (.int (p1.toInt8.toInt32)), .val (.int p2)]) X0 C d17_5 rfl rfl ?_
  rcases own_03 hf0 hf1 (by decide) with ⟨rfl, hn⟩ | ⟨rfl, hn⟩ | ⟨rfl, hn⟩ | ⟨rfl, hn⟩ | ⟨rfl, hn⟩
  · exact own_f_2_0 l Z a0 hw h0 n0 p0 kb x0 x1 p1 (0 : Int32) C X0 e0 N0 V0
  · exact own_f_2_1 l Z a0 hw h0 n0 p0 kb x0 x1 p1 (1 : Int32) C X0 e0 N0 V0
  · exact own_f_2_2 l Z a0 hw h0 n0 p0 kb x0 x1 p1 (2 : Int32) C X0 e0 N0 V0
  · exact absurd hn (by decide)
  · exact absurd hn (by decide)
set_option maxRecDepth 65536 in
set_option maxHeartbeats 40000000 in
theorem own_f_3_3 (l : Launch) (Z : State) (a0 : Array Value) (hw : ∀ d ∈ tables_1, d.before a0 Z = true) (h0 : Heap) (n0 : Nat) (p0 : Addr) (kb : ClassId) (x0 x1 x2 : Int32) (p1 : Int32) (p2 : Int32) {p : Program} {e : Env} {s : State} {m : MethodId} {args : Array Value} {below : List Frame} {meth : Method} {c : Code} {T0 : State} {locs : List Loc}
    (C : W.Cx p s m meth c Z jdk_43_method_23_code 6 "java/lang/StringLatin1" "indexOfChar" (some .int)) (X0 : Stand p l e ({ frames := 0, cells := 0, slots := 0, locals := 0 } : Room) s m args below meth c T0 locs 0 0) (e0 : T0.heap = h0) (N0 : Fr n0 locs) (V0 : Arv Z h0 p0 kb .byte (3 : Int32) [(.int (x0.toInt8.toInt32)), (.int (x1.toInt8.toInt32)), (.int (x2.toInt8.toInt32))] (.int (0 : Int32))) :
    W.Go p e below (W.Post s (fun v h L => v = some (.int (own_ix [] (3 : Int32))) ∧ Fr n0 L ∧ h = h0) ({ frames := 0, cells := 0, slots := 0, locals := 0 } : Room).cells ({ frames := 0, cells := 0, slots := 0, locals := 0 } : Room).slots) (T0.setTop (mkF m 7 #[.val (.ref p0), .val (.int p1), .val (.int p2), .val (.int (3 : Int32)), .val (.int (p1.toInt8.toInt32)), .val (.int (3 : Int32))] [])) := by
  refine W.iload (q := 9) X0 C d17_7 rfl rfl ?_
  refine W.iloadN (q := 10) X0 C d17_9 rfl rfl ?_
  refine W.icmpT (q := 31) X0 C d17_10 (by decide) (by decide) (by decide : W.cT .ge (3 : Int32) (3 : Int32)) ?_
  refine W.iconst (q := 32) (v := (-1)) X0 C d17_31 rfl rfl ?_
  exact W.retI X0 C e0 d17_32 (by decide) (by decide) ⟨by rw [own_ix_n] <;> rfl, N0, rfl⟩
set_option maxRecDepth 65536 in
set_option maxHeartbeats 40000000 in
theorem own_f_3_2 (l : Launch) (Z : State) (a0 : Array Value) (hw : ∀ d ∈ tables_1, d.before a0 Z = true) (h0 : Heap) (n0 : Nat) (p0 : Addr) (kb : ClassId) (x0 x1 x2 : Int32) (p1 : Int32) (p2 : Int32) {p : Program} {e : Env} {s : State} {m : MethodId} {args : Array Value} {below : List Frame} {meth : Method} {c : Code} {T0 : State} {locs : List Loc}
    (C : W.Cx p s m meth c Z jdk_43_method_23_code 6 "java/lang/StringLatin1" "indexOfChar" (some .int)) (X0 : Stand p l e ({ frames := 0, cells := 0, slots := 0, locals := 0 } : Room) s m args below meth c T0 locs 0 0) (e0 : T0.heap = h0) (N0 : Fr n0 locs) (V0 : Arv Z h0 p0 kb .byte (3 : Int32) [(.int (x0.toInt8.toInt32)), (.int (x1.toInt8.toInt32)), (.int (x2.toInt8.toInt32))] (.int (0 : Int32))) :
    W.Go p e below (W.Post s (fun v h L => v = some (.int (own_ix [decide ((x2.toInt8.toInt32) = (p1.toInt8.toInt32))] (2 : Int32))) ∧ Fr n0 L ∧ h = h0) ({ frames := 0, cells := 0, slots := 0, locals := 0 } : Room).cells ({ frames := 0, cells := 0, slots := 0, locals := 0 } : Room).slots) (T0.setTop (mkF m 7 #[.val (.ref p0), .val (.int p1), .val (.int p2), .val (.int (3 : Int32)), .val (.int (p1.toInt8.toInt32)), .val (.int (2 : Int32))] [])) := by
  refine W.iload (q := 9) X0 C d17_7 rfl rfl ?_
  refine W.iloadN (q := 10) X0 C d17_9 rfl rfl ?_
  refine W.icmpF (q := 13) X0 C d17_10 rfl (by decide : W.cF .ge (2 : Int32) (3 : Int32)) ?_
  refine W.aloadN (q := 14) X0 C d17_13 rfl rfl rfl ?_
  refine W.iload (q := 16) X0 C d17_14 rfl rfl ?_
  refine W.baload (q := 17) X0 C e0 V0 (by decide) (by decide) rfl d17_16 rfl ?_
  refine W.iload (q := 19) X0 C d17_17 rfl rfl ?_
  refine W.icmp (q := 25) (q' := 22) X0 C d17_19 (by decide) (by decide) rfl (fun hc7 => ?_) (fun hc7 => ?_)
  · replace hc7 : (x2.toInt8.toInt32) ≠ (p1.toInt8.toInt32) := hc7
    refine W.iinc (q := 28) (L' := #[.val (.ref p0), .val (.int p1), .val (.int p2), .val (.int (3 : Int32)), .val (.int (p1.toInt8.toInt32)), .val (.int (3 : Int32))]) X0 C d17_25 rfl (by decide) rfl rfl ?_
    refine W.goto (q := 7) X0 C d17_28 (by decide) (by decide) ?_
    rw [own_ix_f hc7]
    exact own_f_3_3 l Z a0 hw h0 n0 p0 kb x0 x1 x2 p1 p2 C X0 e0 N0 V0
  · replace hc7 : (x2.toInt8.toInt32) = (p1.toInt8.toInt32) := hc7
    refine W.iload (q := 24) X0 C d17_22 rfl rfl ?_
    exact W.retI X0 C e0 d17_24 (by decide) (by decide) ⟨by rw [own_ix_t hc7] <;> rfl, N0, rfl⟩
set_option maxRecDepth 65536 in
set_option maxHeartbeats 40000000 in
theorem own_f_3_1 (l : Launch) (Z : State) (a0 : Array Value) (hw : ∀ d ∈ tables_1, d.before a0 Z = true) (h0 : Heap) (n0 : Nat) (p0 : Addr) (kb : ClassId) (x0 x1 x2 : Int32) (p1 : Int32) (p2 : Int32) {p : Program} {e : Env} {s : State} {m : MethodId} {args : Array Value} {below : List Frame} {meth : Method} {c : Code} {T0 : State} {locs : List Loc}
    (C : W.Cx p s m meth c Z jdk_43_method_23_code 6 "java/lang/StringLatin1" "indexOfChar" (some .int)) (X0 : Stand p l e ({ frames := 0, cells := 0, slots := 0, locals := 0 } : Room) s m args below meth c T0 locs 0 0) (e0 : T0.heap = h0) (N0 : Fr n0 locs) (V0 : Arv Z h0 p0 kb .byte (3 : Int32) [(.int (x0.toInt8.toInt32)), (.int (x1.toInt8.toInt32)), (.int (x2.toInt8.toInt32))] (.int (0 : Int32))) :
    W.Go p e below (W.Post s (fun v h L => v = some (.int (own_ix [decide ((x1.toInt8.toInt32) = (p1.toInt8.toInt32)), decide ((x2.toInt8.toInt32) = (p1.toInt8.toInt32))] (1 : Int32))) ∧ Fr n0 L ∧ h = h0) ({ frames := 0, cells := 0, slots := 0, locals := 0 } : Room).cells ({ frames := 0, cells := 0, slots := 0, locals := 0 } : Room).slots) (T0.setTop (mkF m 7 #[.val (.ref p0), .val (.int p1), .val (.int p2), .val (.int (3 : Int32)), .val (.int (p1.toInt8.toInt32)), .val (.int (1 : Int32))] [])) := by
  refine W.iload (q := 9) X0 C d17_7 rfl rfl ?_
  refine W.iloadN (q := 10) X0 C d17_9 rfl rfl ?_
  refine W.icmpF (q := 13) X0 C d17_10 rfl (by decide : W.cF .ge (1 : Int32) (3 : Int32)) ?_
  refine W.aloadN (q := 14) X0 C d17_13 rfl rfl rfl ?_
  refine W.iload (q := 16) X0 C d17_14 rfl rfl ?_
  refine W.baload (q := 17) X0 C e0 V0 (by decide) (by decide) rfl d17_16 rfl ?_
  refine W.iload (q := 19) X0 C d17_17 rfl rfl ?_
  refine W.icmp (q := 25) (q' := 22) X0 C d17_19 (by decide) (by decide) rfl (fun hc8 => ?_) (fun hc8 => ?_)
  · replace hc8 : (x1.toInt8.toInt32) ≠ (p1.toInt8.toInt32) := hc8
    refine W.iinc (q := 28) (L' := #[.val (.ref p0), .val (.int p1), .val (.int p2), .val (.int (3 : Int32)), .val (.int (p1.toInt8.toInt32)), .val (.int (2 : Int32))]) X0 C d17_25 rfl (by decide) rfl rfl ?_
    refine W.goto (q := 7) X0 C d17_28 (by decide) (by decide) ?_
    rw [own_ix_f hc8]
    exact own_f_3_2 l Z a0 hw h0 n0 p0 kb x0 x1 x2 p1 p2 C X0 e0 N0 V0
  · replace hc8 : (x1.toInt8.toInt32) = (p1.toInt8.toInt32) := hc8
    refine W.iload (q := 24) X0 C d17_22 rfl rfl ?_
    exact W.retI X0 C e0 d17_24 (by decide) (by decide) ⟨by rw [own_ix_t hc8] <;> rfl, N0, rfl⟩
set_option maxRecDepth 65536 in
set_option maxHeartbeats 40000000 in
theorem own_f_3_0 (l : Launch) (Z : State) (a0 : Array Value) (hw : ∀ d ∈ tables_1, d.before a0 Z = true) (h0 : Heap) (n0 : Nat) (p0 : Addr) (kb : ClassId) (x0 x1 x2 : Int32) (p1 : Int32) (p2 : Int32) {p : Program} {e : Env} {s : State} {m : MethodId} {args : Array Value} {below : List Frame} {meth : Method} {c : Code} {T0 : State} {locs : List Loc}
    (C : W.Cx p s m meth c Z jdk_43_method_23_code 6 "java/lang/StringLatin1" "indexOfChar" (some .int)) (X0 : Stand p l e ({ frames := 0, cells := 0, slots := 0, locals := 0 } : Room) s m args below meth c T0 locs 0 0) (e0 : T0.heap = h0) (N0 : Fr n0 locs) (V0 : Arv Z h0 p0 kb .byte (3 : Int32) [(.int (x0.toInt8.toInt32)), (.int (x1.toInt8.toInt32)), (.int (x2.toInt8.toInt32))] (.int (0 : Int32))) :
    W.Go p e below (W.Post s (fun v h L => v = some (.int (own_ix [decide ((x0.toInt8.toInt32) = (p1.toInt8.toInt32)), decide ((x1.toInt8.toInt32) = (p1.toInt8.toInt32)), decide ((x2.toInt8.toInt32) = (p1.toInt8.toInt32))] (0 : Int32))) ∧ Fr n0 L ∧ h = h0) ({ frames := 0, cells := 0, slots := 0, locals := 0 } : Room).cells ({ frames := 0, cells := 0, slots := 0, locals := 0 } : Room).slots) (T0.setTop (mkF m 7 #[.val (.ref p0), .val (.int p1), .val (.int p2), .val (.int (3 : Int32)), .val (.int (p1.toInt8.toInt32)), .val (.int (0 : Int32))] [])) := by
  refine W.iload (q := 9) X0 C d17_7 rfl rfl ?_
  refine W.iloadN (q := 10) X0 C d17_9 rfl rfl ?_
  refine W.icmpF (q := 13) X0 C d17_10 rfl (by decide : W.cF .ge (0 : Int32) (3 : Int32)) ?_
  refine W.aloadN (q := 14) X0 C d17_13 rfl rfl rfl ?_
  refine W.iload (q := 16) X0 C d17_14 rfl rfl ?_
  refine W.baload (q := 17) X0 C e0 V0 (by decide) (by decide) rfl d17_16 rfl ?_
  refine W.iload (q := 19) X0 C d17_17 rfl rfl ?_
  refine W.icmp (q := 25) (q' := 22) X0 C d17_19 (by decide) (by decide) rfl (fun hc9 => ?_) (fun hc9 => ?_)
  · replace hc9 : (x0.toInt8.toInt32) ≠ (p1.toInt8.toInt32) := hc9
    refine W.iinc (q := 28) (L' := #[.val (.ref p0), .val (.int p1), .val (.int p2), .val (.int (3 : Int32)), .val (.int (p1.toInt8.toInt32)), .val (.int (1 : Int32))]) X0 C d17_25 rfl (by decide) rfl rfl ?_
    refine W.goto (q := 7) X0 C d17_28 (by decide) (by decide) ?_
    rw [own_ix_f hc9]
    exact own_f_3_1 l Z a0 hw h0 n0 p0 kb x0 x1 x2 p1 p2 C X0 e0 N0 V0
  · replace hc9 : (x0.toInt8.toInt32) = (p1.toInt8.toInt32) := hc9
    refine W.iload (q := 24) X0 C d17_22 rfl rfl ?_
    exact W.retI X0 C e0 d17_24 (by decide) (by decide) ⟨by rw [own_ix_t hc9] <;> rfl, N0, rfl⟩
def Q17_3 (Z : State) (p0 : Addr) (kb : ClassId) (x0 x1 x2 : Int32) (p1 : Int32) (p2 : Int32) (h0 : Heap) (n0 : Nat) (v : Option Value) (h : Heap) (L : List Loc) : Prop := v = some (.int (own_ix (List.drop p2.toInt.toNat [decide ((x0.toInt8.toInt32) = (p1.toInt8.toInt32)), decide ((x1.toInt8.toInt32) = (p1.toInt8.toInt32)), decide ((x2.toInt8.toInt32) = (p1.toInt8.toInt32))]) p2)) ∧ Fr n0 L ∧ h = h0
theorem rm17_3 (l : Launch) (Z : State) (a0 : Array Value) (hw : own_HW a0 Z) (ws : List Jvm.Cond) (p0 : Addr) (kb : ClassId) (x0 x1 x2 : Int32) (p1 : Int32) (p2 : Int32) (h0 : Heap) (n0 : Nat) (V0 : Arv Z h0 p0 kb .byte (3 : Int32) [(.int (x0.toInt8.toInt32)), (.int (x1.toInt8.toInt32)), (.int (x2.toInt8.toInt32))] (.int (0 : Int32))) (hf0 : 0 ≤ p2.toInt) (hf1 : p2.toInt ≤ (3 : Nat)) : own_M l y17 jdk_43_method_23_code 6 (some .int) ws r_0_0_0_0 #[(.ref p0), (.int p1), (.int p2), (.int (3 : Int32))] Z h0 (Q17_3 Z p0 kb x0 x1 x2 p1 p2 h0 n0) := by
  refine W.bodyOf (Ls := #[.val (.ref p0), .val (.int p1), .val (.int p2), .val (.int (3 : Int32)), .unset, .unset]) (plainFor_of_name pn_java_lang_StringLatin1) (fun m => by first | exact W.entry_of rfl) ?_
  intro p e s m below meth c T0 C X0 e0
  have N0 := Fr.nil n0
  refine W.iloadN (q := 1) X0 C d17_0 rfl rfl ?_
  refine W.i2b (q := 2) X0 C d17_1 rfl ?_
  refine W.istore (q := 4) (L' := #[.val (.ref p0), .val (.int p1), .val (.int p2), .val (.int (3 : Int32)), .val (.int (p1.toInt8.toInt32)), .unset]) X0 C d17_2 rfl rfl ?_
  refine W.iloadN (q := 5) X0 C d17_4 rfl rfl ?_
  refine W.istore (q := 7) (L' := #[.val (.ref p0), .val (.int p1), .val (.int p2), .val (.int (3 : Int32)), .val (.int (p1.toInt8.toInt32)), .val (.int p2)]) X0 C d17_5 rfl rfl ?_
  rcases own_03 hf0 hf1 (by decide) with ⟨rfl, hn⟩ | ⟨rfl, hn⟩ | ⟨rfl, hn⟩ | ⟨rfl, hn⟩ | ⟨rfl, hn⟩
  · exact own_f_3_0 l Z a0 hw h0 n0 p0 kb x0 x1 x2 p1 (0 : Int32) C X0 e0 N0 V0
  · exact own_f_3_1 l Z a0 hw h0 n0 p0 kb x0 x1 x2 p1 (1 : Int32) C X0 e0 N0 V0
  · exact own_f_3_2 l Z a0 hw h0 n0 p0 kb x0 x1 x2 p1 (2 : Int32) C X0 e0 N0 V0
  · exact own_f_3_3 l Z a0 hw h0 n0 p0 kb x0 x1 x2 p1 (3 : Int32) C X0 e0 N0 V0
  · exact absurd hn (by decide)
set_option maxRecDepth 65536 in
set_option maxHeartbeats 40000000 in
theorem own_f_4_4 (l : Launch) (Z : State) (a0 : Array Value) (hw : ∀ d ∈ tables_1, d.before a0 Z = true) (h0 : Heap) (n0 : Nat) (p0 : Addr) (kb : ClassId) (x0 x1 x2 x3 : Int32) (p1 : Int32) (p2 : Int32) {p : Program} {e : Env} {s : State} {m : MethodId} {args : Array Value} {below : List Frame} {meth : Method} {c : Code} {T0 : State} {locs : List Loc}
    (C : W.Cx p s m meth c Z jdk_43_method_23_code 6 "java/lang/StringLatin1" "indexOfChar" (some .int)) (X0 : Stand p l e ({ frames := 0, cells := 0, slots := 0, locals := 0 } : Room) s m args below meth c T0 locs 0 0) (e0 : T0.heap = h0) (N0 : Fr n0 locs) (V0 : Arv Z h0 p0 kb .byte (4 : Int32) [(.int (x0.toInt8.toInt32)), (.int (x1.toInt8.toInt32)), (.int (x2.toInt8.toInt32)), (.int (x3.toInt8.toInt32))] (.int (0 : Int32))) :
    W.Go p e below (W.Post s (fun v h L => v = some (.int (own_ix [] (4 : Int32))) ∧ Fr n0 L ∧ h = h0) ({ frames := 0, cells := 0, slots := 0, locals := 0 } : Room).cells ({ frames := 0, cells := 0, slots := 0, locals := 0 } : Room).slots) (T0.setTop (mkF m 7 #[.val (.ref p0), .val (.int p1), .val (.int p2), .val (.int (4 : Int32)), .val (.int (p1.toInt8.toInt32)), .val (.int (4 : Int32))] [])) := by
  refine W.iload (q := 9) X0 C d17_7 rfl rfl ?_
  refine W.iloadN (q := 10) X0 C d17_9 rfl rfl ?_
  refine W.icmpT (q := 31) X0 C d17_10 (by decide) (by decide) (by decide : W.cT .ge (4 : Int32) (4 : Int32)) ?_
  refine W.iconst (q := 32) (v := (-1)) X0 C d17_31 rfl rfl ?_
  exact W.retI X0 C e0 d17_32 (by decide) (by decide) ⟨by rw [own_ix_n] <;> rfl, N0, rfl⟩
set_option maxRecDepth 65536 in
set_option maxHeartbeats 40000000 in
theorem own_f_4_3 (l : Launch) (Z : State) (a0 : Array Value) (hw : ∀ d ∈ tables_1, d.before a0 Z = true) (h0 : Heap) (n0 : Nat) (p0 : Addr) (kb : ClassId) (x0 x1 x2 x3 : Int32) (p1 : Int32) (p2 : Int32) {p : Program} {e : Env} {s : State} {m : MethodId} {args : Array Value} {below : List Frame} {meth : Method} {c : Code} {T0 : State} {locs : List Loc}
    (C : W.Cx p s m meth c Z jdk_43_method_23_code 6 "java/lang/StringLatin1" "indexOfChar" (some .int)) (X0 : Stand p l e ({ frames := 0, cells := 0, slots := 0, locals := 0 } : Room) s m args below meth c T0 locs 0 0) (e0 : T0.heap = h0) (N0 : Fr n0 locs) (V0 : Arv Z h0 p0 kb .byte (4 : Int32) [(.int (x0.toInt8.toInt32)), (.int (x1.toInt8.toInt32)), (.int (x2.toInt8.toInt32)), (.int (x3.toInt8.toInt32))] (.int (0 : Int32))) :
    W.Go p e below (W.Post s (fun v h L => v = some (.int (own_ix [decide ((x3.toInt8.toInt32) = (p1.toInt8.toInt32))] (3 : Int32))) ∧ Fr n0 L ∧ h = h0) ({ frames := 0, cells := 0, slots := 0, locals := 0 } : Room).cells ({ frames := 0, cells := 0, slots := 0, locals := 0 } : Room).slots) (T0.setTop (mkF m 7 #[.val (.ref p0), .val (.int p1), .val (.int p2), .val (.int (4 : Int32)), .val (.int (p1.toInt8.toInt32)), .val (.int (3 : Int32))] [])) := by
  refine W.iload (q := 9) X0 C d17_7 rfl rfl ?_
  refine W.iloadN (q := 10) X0 C d17_9 rfl rfl ?_
  refine W.icmpF (q := 13) X0 C d17_10 rfl (by decide : W.cF .ge (3 : Int32) (4 : Int32)) ?_
  refine W.aloadN (q := 14) X0 C d17_13 rfl rfl rfl ?_
  refine W.iload (q := 16) X0 C d17_14 rfl rfl ?_
  refine W.baload (q := 17) X0 C e0 V0 (by decide) (by decide) rfl d17_16 rfl ?_
  refine W.iload (q := 19) X0 C d17_17 rfl rfl ?_
  refine W.icmp (q := 25) (q' := 22) X0 C d17_19 (by decide) (by decide) rfl (fun hc10 => ?_) (fun hc10 => ?_)
  · replace hc10 : (x3.toInt8.toInt32) ≠ (p1.toInt8.toInt32) := hc10
    refine W.iinc (q := 28) (L' := #[.val (.ref p0), .val (.int p1), .val (.int p2), .val (.int (4 : Int32)), .val (.int (p1.toInt8.toInt32)), .val (.int (4 : Int32))]) X0 C d17_25 rfl (by decide) rfl rfl ?_
    refine W.goto (q := 7) X0 C d17_28 (by decide) (by decide) ?_
    rw [own_ix_f hc10]
    exact own_f_4_4 l Z a0 hw h0 n0 p0 kb x0 x1 x2 x3 p1 p2 C X0 e0 N0 V0
  · replace hc10 : (x3.toInt8.toInt32) = (p1.toInt8.toInt32) := hc10
    refine W.iload (q := 24) X0 C d17_22 rfl rfl ?_
    exact W.retI X0 C e0 d17_24 (by decide) (by decide) ⟨by rw [own_ix_t hc10] <;> rfl, N0, rfl⟩
set_option maxRecDepth 65536 in
set_option maxHeartbeats 40000000 in
theorem own_f_4_2 (l : Launch) (Z : State) (a0 : Array Value) (hw : ∀ d ∈ tables_1, d.before a0 Z = true) (h0 : Heap) (n0 : Nat) (p0 : Addr) (kb : ClassId) (x0 x1 x2 x3 : Int32) (p1 : Int32) (p2 : Int32) {p : Program} {e : Env} {s : State} {m : MethodId} {args : Array Value} {below : List Frame} {meth : Method} {c : Code} {T0 : State} {locs : List Loc}
    (C : W.Cx p s m meth c Z jdk_43_method_23_code 6 "java/lang/StringLatin1" "indexOfChar" (some .int)) (X0 : Stand p l e ({ frames := 0, cells := 0, slots := 0, locals := 0 } : Room) s m args below meth c T0 locs 0 0) (e0 : T0.heap = h0) (N0 : Fr n0 locs) (V0 : Arv Z h0 p0 kb .byte (4 : Int32) [(.int (x0.toInt8.toInt32)), (.int (x1.toInt8.toInt32)), (.int (x2.toInt8.toInt32)), (.int (x3.toInt8.toInt32))] (.int (0 : Int32))) :
    W.Go p e below (W.Post s (fun v h L => v = some (.int (own_ix [decide ((x2.toInt8.toInt32) = (p1.toInt8.toInt32)), decide ((x3.toInt8.toInt32) = (p1.toInt8.toInt32))] (2 : Int32))) ∧ Fr n0 L ∧ h = h0) ({ frames := 0, cells := 0, slots := 0, locals := 0 } : Room).cells ({ frames := 0, cells := 0, slots := 0, locals := 0 } : Room).slots) (T0.setTop (mkF m 7 #[.val (.ref p0), .val (.int p1), .val (.int p2), .val (.int (4 : Int32)), .val (.int (p1.toInt8.toInt32)), .val (.int (2 : Int32))] [])) := by
  refine W.iload (q := 9) X0 C d17_7 rfl rfl ?_
  refine W.iloadN (q := 10) X0 C d17_9 rfl rfl ?_
  refine W.icmpF (q := 13) X0 C d17_10 rfl (by decide : W.cF .ge (2 : Int32) (4 : Int32)) ?_
  refine W.aloadN (q := 14) X0 C d17_13 rfl rfl rfl ?_
  refine W.iload (q := 16) X0 C d17_14 rfl rfl ?_
  refine W.baload (q := 17) X0 C e0 V0 (by decide) (by decide) rfl d17_16 rfl ?_
  refine W.iload (q := 19) X0 C d17_17 rfl rfl ?_
  refine W.icmp (q := 25) (q' := 22) X0 C d17_19 (by decide) (by decide) rfl (fun hc11 => ?_) (fun hc11 => ?_)
  · replace hc11 : (x2.toInt8.toInt32) ≠ (p1.toInt8.toInt32) := hc11
    refine W.iinc (q := 28) (L' := #[.val (.ref p0), .val (.int p1), .val (.int p2), .val (.int (4 : Int32)), .val (.int (p1.toInt8.toInt32)), .val (.int (3 : Int32))]) X0 C d17_25 rfl (by decide) rfl rfl ?_
    refine W.goto (q := 7) X0 C d17_28 (by decide) (by decide) ?_
    rw [own_ix_f hc11]
    exact own_f_4_3 l Z a0 hw h0 n0 p0 kb x0 x1 x2 x3 p1 p2 C X0 e0 N0 V0
  · replace hc11 : (x2.toInt8.toInt32) = (p1.toInt8.toInt32) := hc11
    refine W.iload (q := 24) X0 C d17_22 rfl rfl ?_
    exact W.retI X0 C e0 d17_24 (by decide) (by decide) ⟨by rw [own_ix_t hc11] <;> rfl, N0, rfl⟩
set_option maxRecDepth 65536 in
set_option maxHeartbeats 40000000 in
theorem own_f_4_1 (l : Launch) (Z : State) (a0 : Array Value) (hw : ∀ d ∈ tables_1, d.before a0 Z = true) (h0 : Heap) (n0 : Nat) (p0 : Addr) (kb : ClassId) (x0 x1 x2 x3 : Int32) (p1 : Int32) (p2 : Int32) {p : Program} {e : Env} {s : State} {m : MethodId} {args : Array Value} {below : List Frame} {meth : Method} {c : Code} {T0 : State} {locs : List Loc}
    (C : W.Cx p s m meth c Z jdk_43_method_23_code 6 "java/lang/StringLatin1" "indexOfChar" (some .int)) (X0 : Stand p l e ({ frames := 0, cells := 0, slots := 0, locals := 0 } : Room) s m args below meth c T0 locs 0 0) (e0 : T0.heap = h0) (N0 : Fr n0 locs) (V0 : Arv Z h0 p0 kb .byte (4 : Int32) [(.int (x0.toInt8.toInt32)), (.int (x1.toInt8.toInt32)), (.int (x2.toInt8.toInt32)), (.int (x3.toInt8.toInt32))] (.int (0 : Int32))) :
    W.Go p e below (W.Post s (fun v h L => v = some (.int (own_ix [decide ((x1.toInt8.toInt32) = (p1.toInt8.toInt32)), decide ((x2.toInt8.toInt32) = (p1.toInt8.toInt32)), decide ((x3.toInt8.toInt32) = (p1.toInt8.toInt32))] (1 : Int32))) ∧ Fr n0 L ∧ h = h0) ({ frames := 0, cells := 0, slots := 0, locals := 0 } : Room).cells ({ frames := 0, cells := 0, slots := 0, locals := 0 } : Room).slots) (T0.setTop (mkF m 7 #[.val (.ref p0), .val (.int p1), .val (.int p2), .val (.int (4 : Int32)), .val (.int (p1.toInt8.toInt32)), .val (.int (1 : Int32))] [])) := by
  refine W.iload (q := 9) X0 C d17_7 rfl rfl ?_
  refine W.iloadN (q := 10) X0 C d17_9 rfl rfl ?_
  refine W.icmpF (q := 13) X0 C d17_10 rfl (by decide : W.cF .ge (1 : Int32) (4 : Int32)) ?_
  refine W.aloadN (q := 14) X0 C d17_13 rfl rfl rfl ?_
  refine W.iload (q := 16) X0 C d17_14 rfl rfl ?_
  refine W.baload (q := 17) X0 C e0 V0 (by decide) (by decide) rfl d17_16 rfl ?_
  refine W.iload (q := 19) X0 C d17_17 rfl rfl ?_
  refine W.icmp (q := 25) (q' := 22) X0 C d17_19 (by decide) (by decide) rfl (fun hc12 => ?_) (fun hc12 => ?_)
  · replace hc12 : (x1.toInt8.toInt32) ≠ (p1.toInt8.toInt32) := hc12
    refine W.iinc (q := 28) (L' := #[.val (.ref p0), .val (.int p1), .val (.int p2), .val (.int (4 : Int32)), .val (.int (p1.toInt8.toInt32)), .val (.int (2 : Int32))]) X0 C d17_25 rfl (by decide) rfl rfl ?_
    refine W.goto (q := 7) X0 C d17_28 (by decide) (by decide) ?_
    rw [own_ix_f hc12]
    exact own_f_4_2 l Z a0 hw h0 n0 p0 kb x0 x1 x2 x3 p1 p2 C X0 e0 N0 V0
  · replace hc12 : (x1.toInt8.toInt32) = (p1.toInt8.toInt32) := hc12
    refine W.iload (q := 24) X0 C d17_22 rfl rfl ?_
    exact W.retI X0 C e0 d17_24 (by decide) (by decide) ⟨by rw [own_ix_t hc12] <;> rfl, N0, rfl⟩
set_option maxRecDepth 65536 in
set_option maxHeartbeats 40000000 in
theorem own_f_4_0 (l : Launch) (Z : State) (a0 : Array Value) (hw : ∀ d ∈ tables_1, d.before a0 Z = true) (h0 : Heap) (n0 : Nat) (p0 : Addr) (kb : ClassId) (x0 x1 x2 x3 : Int32) (p1 : Int32) (p2 : Int32) {p : Program} {e : Env} {s : State} {m : MethodId} {args : Array Value} {below : List Frame} {meth : Method} {c : Code} {T0 : State} {locs : List Loc}
    (C : W.Cx p s m meth c Z jdk_43_method_23_code 6 "java/lang/StringLatin1" "indexOfChar" (some .int)) (X0 : Stand p l e ({ frames := 0, cells := 0, slots := 0, locals := 0 } : Room) s m args below meth c T0 locs 0 0) (e0 : T0.heap = h0) (N0 : Fr n0 locs) (V0 : Arv Z h0 p0 kb .byte (4 : Int32) [(.int (x0.toInt8.toInt32)), (.int (x1.toInt8.toInt32)), (.int (x2.toInt8.toInt32)), (.int (x3.toInt8.toInt32))] (.int (0 : Int32))) :
    W.Go p e below (W.Post s (fun v h L => v = some (.int (own_ix [decide ((x0.toInt8.toInt32) = (p1.toInt8.toInt32)), decide ((x1.toInt8.toInt32) = (p1.toInt8.toInt32)), decide ((x2.toInt8.toInt32) = (p1.toInt8.toInt32)), decide ((x3.toInt8.toInt32) = (p1.toInt8.toInt32))] (0 : Int32))) ∧ Fr n0 L ∧ h = h0) ({ frames := 0, cells := 0, slots := 0, locals := 0 } : Room).cells ({ frames := 0, cells := 0, slots := 0, locals := 0 } : Room).slots) (T0.setTop (mkF m 7 #[.val (.ref p0), .val (.int p1), .val (.int p2), .val (.int (4 : Int32)), .val (.int (p1.toInt8.toInt32)), .val (.int (0 : Int32))] [])) := by
  refine W.iload (q := 9) X0 C d17_7 rfl rfl ?_
  refine W.iloadN (q := 10) X0 C d17_9 rfl rfl ?_
  refine W.icmpF (q := 13) X0 C d17_10 rfl (by decide : W.cF .ge (0 : Int32) (4 : Int32)) ?_
  refine W.aloadN (q := 14) X0 C d17_13 rfl rfl rfl ?_
  refine W.iload (q := 16) X0 C d17_14 rfl rfl ?_
  refine W.baload (q := 17) X0 C e0 V0 (by decide) (by decide) rfl d17_16 rfl ?_
  refine W.iload (q := 19) X0 C d17_17 rfl rfl ?_
  refine W.icmp (q := 25) (q' := 22) X0 C d17_19 (by decide) (by decide) rfl (fun hc13 => ?_) (fun hc13 => ?_)
  · replace hc13 : (x0.toInt8.toInt32) ≠ (p1.toInt8.toInt32) := hc13
    refine W.iinc (q := 28) (L' := #[.val (.ref p0), .val (.int p1), .val (.int p2), .val (.int (4 : Int32)), .val (.int (p1.toInt8.toInt32)), .val (.int (1 : Int32))]) X0 C d17_25 rfl (by decide) rfl rfl ?_
    refine W.goto (q := 7) X0 C d17_28 (by decide) (by decide) ?_
    rw [own_ix_f hc13]
    exact own_f_4_1 l Z a0 hw h0 n0 p0 kb x0 x1 x2 x3 p1 p2 C X0 e0 N0 V0
  · replace hc13 : (x0.toInt8.toInt32) = (p1.toInt8.toInt32) := hc13
    refine W.iload (q := 24) X0 C d17_22 rfl rfl ?_
    exact W.retI X0 C e0 d17_24 (by decide) (by decide) ⟨by rw [own_ix_t hc13] <;> rfl, N0, rfl⟩
def Q17_4 (Z : State) (p0 : Addr) (kb : ClassId) (x0 x1 x2 x3 : Int32) (p1 : Int32) (p2 : Int32) (h0 : Heap) (n0 : Nat) (v : Option Value) (h : Heap) (L : List Loc) : Prop := v = some (.int (own_ix (List.drop p2.toInt.toNat [decide ((x0.toInt8.toInt32) = (p1.toInt8.toInt32)), decide ((x1.toInt8.toInt32) = (p1.toInt8.toInt32)), decide ((x2.toInt8.toInt32) = (p1.toInt8.toInt32)), decide ((x3.toInt8.toInt32) = (p1.toInt8.toInt32))]) p2)) ∧ Fr n0 L ∧ h = h0
theorem rm17_4 (l : Launch) (Z : State) (a0 : Array Value) (hw : own_HW a0 Z) (ws : List Jvm.Cond) (p0 : Addr) (kb : ClassId) (x0 x1 x2 x3 : Int32) (p1 : Int32) (p2 : Int32) (h0 : Heap) (n0 : Nat) (V0 : Arv Z h0 p0 kb .byte (4 : Int32) [(.int (x0.toInt8.toInt32)), (.int (x1.toInt8.toInt32)), (.int (x2.toInt8.toInt32)), (.int (x3.toInt8.toInt32))] (.int (0 : Int32))) (hf0 : 0 ≤ p2.toInt) (hf1 : p2.toInt ≤ (4 : Nat)) : own_M l y17 jdk_43_method_23_code 6 (some .int) ws r_0_0_0_0 #[(.ref p0), (.int p1), (.int p2), (.int (4 : Int32))] Z h0 (Q17_4 Z p0 kb x0 x1 x2 x3 p1 p2 h0 n0) := by
  refine W.bodyOf (Ls := #[.val (.ref p0), .val (.int p1), .val (.int p2), .val (.int (4 : Int32)), .unset, .unset]) (plainFor_of_name pn_java_lang_StringLatin1) (fun m => by first | exact W.entry_of rfl) ?_
  intro p e s m below meth c T0 C X0 e0
  have N0 := Fr.nil n0
  refine W.iloadN (q := 1) X0 C d17_0 rfl rfl ?_
  refine W.i2b (q := 2) X0 C d17_1 rfl ?_
  refine W.istore (q := 4) (L' := #[.val (.ref p0), .val (.int p1), .val (.int p2), .val (.int (4 : Int32)), .val (.int (p1.toInt8.toInt32)), .unset]) X0 C d17_2 rfl rfl ?_
  refine W.iloadN (q := 5) X0 C d17_4 rfl rfl ?_
  refine W.istore (q := 7) (L' := #[.val (.ref p0), .val (.int p1), .val (.int p2), .val (.int (4 : Int32)), .val (.int (p1.toInt8.toInt32)), .val (.int p2)]) X0 C d17_5 rfl rfl ?_
  rcases own_03 hf0 hf1 (by decide) with ⟨rfl, hn⟩ | ⟨rfl, hn⟩ | ⟨rfl, hn⟩ | ⟨rfl, hn⟩ | ⟨rfl, hn⟩
  · exact own_f_4_0 l Z a0 hw h0 n0 p0 kb x0 x1 x2 x3 p1 (0 : Int32) C X0 e0 N0 V0
  · exact own_f_4_1 l Z a0 hw h0 n0 p0 kb x0 x1 x2 x3 p1 (1 : Int32) C X0 e0 N0 V0
  · exact own_f_4_2 l Z a0 hw h0 n0 p0 kb x0 x1 x2 x3 p1 (2 : Int32) C X0 e0 N0 V0
  · exact own_f_4_3 l Z a0 hw h0 n0 p0 kb x0 x1 x2 x3 p1 (3 : Int32) C X0 e0 N0 V0
  · exact own_f_4_4 l Z a0 hw h0 n0 p0 kb x0 x1 x2 x3 p1 (4 : Int32) C X0 e0 N0 V0
theorem own_ix_no {p : Int32} : own_ix (List.drop p.toInt.toNat []) p = -1 := by rw [List.drop_nil]; rfl
theorem d10_0 : decode jdk_43_method_22_code 0 = .ok (.iload_n 1, 1) := by decide +kernel
theorem d10_1 : decode jdk_43_method_22_code 1 = .ok (.invokestatic 88, 3) := by decide +kernel
theorem pd__28I_29Z : parseMethodDescriptor "(I)Z" = some ⟨[.int], some .boolean⟩ := by decide +kernel
theorem d10_4 : decode jdk_43_method_22_code 4 = .ok (.ifCond .ne 5, 3) := by decide +kernel
theorem d10_9 : decode jdk_43_method_22_code 9 = .ok (.iload_n 2, 1) := by decide +kernel
theorem d10_10 : decode jdk_43_method_22_code 10 = .ok (.iconst 0, 1) := by decide +kernel
theorem d10_11 : decode jdk_43_method_22_code 11 = .ok (.invokestatic 92, 3) := by decide +kernel
theorem pd__28II_29I : parseMethodDescriptor "(II)I" = some ⟨[.int, .int], some .int⟩ := by decide +kernel
theorem d10_14 : decode jdk_43_method_22_code 14 = .ok (.istore_n 2, 1) := by decide +kernel
theorem d10_15 : decode jdk_43_method_22_code 15 = .ok (.iload_n 3, 1) := by decide +kernel
theorem d10_16 : decode jdk_43_method_22_code 16 = .ok (.aload_n 0, 1) := by decide +kernel
theorem d10_17 : decode jdk_43_method_22_code 17 = .ok (.arraylength, 1) := by decide +kernel
theorem d10_18 : decode jdk_43_method_22_code 18 = .ok (.invokestatic 38, 3) := by decide +kernel
theorem d10_21 : decode jdk_43_method_22_code 21 = .ok (.istore_n 3, 1) := by decide +kernel
theorem d10_22 : decode jdk_43_method_22_code 22 = .ok (.iload_n 2, 1) := by decide +kernel
theorem d10_23 : decode jdk_43_method_22_code 23 = .ok (.iload_n 3, 1) := by decide +kernel
theorem d10_24 : decode jdk_43_method_22_code 24 = .ok (.if_icmp .lt 5, 3) := by decide +kernel
theorem d10_27 : decode jdk_43_method_22_code 27 = .ok (.iconst (-1), 1) := by decide +kernel
theorem d10_28 : decode jdk_43_method_22_code 28 = .ok (.ireturn, 1) := by decide +kernel
theorem d10_7 : decode jdk_43_method_22_code 7 = .ok (.iconst (-1), 1) := by decide +kernel
theorem d10_8 : decode jdk_43_method_22_code 8 = .ok (.ireturn, 1) := by decide +kernel
abbrev y10 : MethodName := ⟨"java/lang/StringLatin1", "indexOf", "([BIII)I"⟩
abbrev r_1_0_0_20 : Room := { frames := 1, cells := 0, slots := 0, locals := 20 }
def Q10_0 (Z : State) (p0 : Addr) (kb : ClassId) (p1 p2 : Int32) (h0 : Heap) (n0 : Nat) (v : Option Value) (h : Heap) (L : List Loc) : Prop := v = some (.int (own_ix (List.drop p2.toInt.toNat []) p2)) ∧ Fr n0 L ∧ h = h0
theorem rm10_0 (l : Launch) (Z : State) (a0 : Array Value) (hw : own_HW a0 Z) (ws : List Jvm.Cond) (p0 : Addr) (kb : ClassId) (p1 p2 : Int32) (h0 : Heap) (n0 : Nat) (V0 : Arv Z h0 p0 kb .byte (0 : Int32) [] (.int (0 : Int32))) (hs16 : own_r16 p1) (hf0 : 0 ≤ p2.toInt) (hf1 : p2.toInt ≤ (0 : Nat)) : own_M l y10 jdk_43_method_22_code 4 (some .int) ws r_1_0_0_20 #[(.ref p0), (.int p1), (.int p2), (.int (0 : Int32))] Z h0 (Q10_0 Z p0 kb p1 p2 h0 n0) := by
  refine W.bodyOf (Ls := #[.val (.ref p0), .val (.int p1), .val (.int p2), .val (.int (0 : Int32))]) (plainFor_of_name pn_java_lang_StringLatin1) (fun m => by first | exact W.entry_of rfl) ?_
  intro p e s m below meth c T0 C X0 e0
  have N0 := Fr.nil n0
  by_cases hsm : p1.toInt ≤ (255 : Int32).toInt
  · refine W.iloadN (q := 1) X0 C d10_0 rfl rfl ?_
    refine W.callS (q := 4) X0 C (W.ww hw 55 rfl) (W.ww hw 56 rfl) (W.ww hw 53 rfl) (W.ww hw 57 rfl) (by decide) (rm11 l Z a0 hw [] p1 h0 n0 hs16) e0 d10_1 [(.int p1)] [] rfl rfl pd__28I_29Z rfl rfl (by decide) (Nat.le_of_ble_eq_true rfl) (by decide) (by decide) rfl (fun T14 w14 L14 X14 hQ14 => ?_)
    obtain ⟨rfl, NL14, e14⟩ := hQ14
    have N14 := Fr.app N0 NL14
    rw [show own_ce p1 = (1 : Int32) from if_pos hsm]
    show W.Go p e below _ (T14.setTop (mkF m 4 #[.val (.ref p0), .val (.int p1), .val (.int p2), .val (.int (0 : Int32))] [(.int (1 : Int32))]))
    refine W.ifT (q := 9) X14 C d10_4 (by decide) (by decide) (by decide : W.cT .ne (1 : Int32) 0) ?_
    refine W.iloadN (q := 10) X14 C d10_9 rfl rfl ?_
    refine W.iconst (q := 11) (v := 0) X14 C d10_10 rfl rfl ?_
    refine W.callS (q := 14) X14 C (W.ww hw 58 rfl) (W.ww hw 59 rfl) (W.ww hw 60 rfl) (W.ww hw 61 rfl) (by decide) (rm12 l Z a0 hw [] p2 (0 : Int32) h0 n0) e14 d10_11 [(.int p2), (.int (0 : Int32))] [] rfl rfl pd__28II_29I rfl rfl (by decide) (Nat.le_of_ble_eq_true rfl) (by decide) (by decide) rfl (fun T15 w15 L15 X15 hQ15 => ?_)
    obtain ⟨rfl, NL15, e15⟩ := hQ15
    have N15 := Fr.app N14 NL15
    rw [show own_max p2 (0 : Int32) = p2 from if_neg (Int.not_lt.mpr hf0)]
    show W.Go p e below _ (T15.setTop (mkF m 14 #[.val (.ref p0), .val (.int p1), .val (.int p2), .val (.int (0 : Int32))] [(.int p2)]))
    refine W.istoreN (q := 15) (L' := #[.val (.ref p0), .val (.int p1), .val (.int p2), .val (.int (0 : Int32))]) X15 C d10_14 rfl rfl ?_
    refine W.iloadN (q := 16) X15 C d10_15 rfl rfl ?_
    refine W.aloadN (q := 17) X15 C d10_16 rfl rfl rfl ?_
    refine W.arraylength (q := 18) X15 C e15 V0 d10_17 rfl ?_
    refine W.callS (q := 21) X15 C (W.ww hw 62 rfl) (W.ww hw 63 rfl) (W.ww hw 60 rfl) (W.ww hw 64 rfl) (by decide) (rm13 l Z a0 hw [] (0 : Int32) (0 : Int32) h0 n0) e15 d10_18 [(.int (0 : Int32)), (.int (0 : Int32))] [] rfl rfl pd__28II_29I rfl rfl (by decide) (Nat.le_of_ble_eq_true rfl) (by decide) (by decide) rfl (fun T16 w16 L16 X16 hQ16 => ?_)
    obtain ⟨rfl, NL16, e16⟩ := hQ16
    have N16 := Fr.app N15 NL16
    rw [show own_min (0 : Int32) (0 : Int32) = (0 : Int32) by decide]
    show W.Go p e below _ (T16.setTop (mkF m 21 #[.val (.ref p0), .val (.int p1), .val (.int p2), .val (.int (0 : Int32))] [(.int (0 : Int32))]))
    refine W.istoreN (q := 22) (L' := #[.val (.ref p0), .val (.int p1), .val (.int p2), .val (.int (0 : Int32))]) X16 C d10_21 rfl rfl ?_
    refine W.iloadN (q := 23) X16 C d10_22 rfl rfl ?_
    refine W.iloadN (q := 24) X16 C d10_23 rfl rfl ?_
    refine W.icmpF (q := 27) X16 C d10_24 rfl (show (0 : Int32).toInt ≤ p2.toInt from hf0) ?_
    refine W.iconst (q := 28) (v := (-1)) X16 C d10_27 rfl rfl ?_
    exact W.retI X16 C e16 d10_28 (by decide) (by decide) ⟨by rw [own_ix_no], N16, rfl⟩
  · replace hsm := Int.not_le.mp hsm
    refine W.iloadN (q := 1) X0 C d10_0 rfl rfl ?_
    refine W.callS (q := 4) X0 C (W.ww hw 55 rfl) (W.ww hw 56 rfl) (W.ww hw 53 rfl) (W.ww hw 57 rfl) (by decide) (rm11 l Z a0 hw [] p1 h0 n0 hs16) e0 d10_1 [(.int p1)] [] rfl rfl pd__28I_29Z rfl rfl (by decide) (Nat.le_of_ble_eq_true rfl) (by decide) (by decide) rfl (fun T17 w17 L17 X17 hQ17 => ?_)
    obtain ⟨rfl, NL17, e17⟩ := hQ17
    have N17 := Fr.app N0 NL17
    rw [show own_ce p1 = (0 : Int32) from if_neg (Int.not_le.mpr hsm)]
    show W.Go p e below _ (T17.setTop (mkF m 4 #[.val (.ref p0), .val (.int p1), .val (.int p2), .val (.int (0 : Int32))] [(.int (0 : Int32))]))
    refine W.ifF (q := 7) X17 C d10_4 rfl (by decide : W.cF .ne (0 : Int32) 0) ?_
    refine W.iconst (q := 8) (v := (-1)) X17 C d10_7 rfl rfl ?_
    exact W.retI X17 C e17 d10_8 (by decide) (by decide) ⟨by rw [own_ix_no], N17, rfl⟩
theorem own_ix_no1 {p : Int32} : own_ix (List.drop p.toInt.toNat [false]) p = -1 := by
  have h : ∀ (k : Nat) (q : Int32), own_ix (List.replicate k false) q = -1 := fun k => by
    induction k with
    | zero => intro q; rfl
    | succ k ih => intro q; exact ih _
  have e : ([false] : List Bool) = List.replicate 1 false := rfl
  rw [e, List.drop_replicate]; exact h _ _
theorem d10_29 : decode jdk_43_method_22_code 29 = .ok (.aload_n 0, 1) := by decide +kernel
theorem d10_30 : decode jdk_43_method_22_code 30 = .ok (.iload_n 1, 1) := by decide +kernel
theorem d10_31 : decode jdk_43_method_22_code 31 = .ok (.iload_n 2, 1) := by decide +kernel
theorem d10_32 : decode jdk_43_method_22_code 32 = .ok (.iload_n 3, 1) := by decide +kernel
theorem d10_33 : decode jdk_43_method_22_code 33 = .ok (.invokestatic 95, 3) := by decide +kernel
theorem pd__28_5bBIII_29I : parseMethodDescriptor "([BIII)I" = some ⟨[(.array .byte), .int, .int, .int], some .int⟩ := by decide +kernel
theorem d10_36 : decode jdk_43_method_22_code 36 = .ok (.ireturn, 1) := by decide +kernel
def Q10_1 (Z : State) (p0 : Addr) (kb : ClassId) (x0 : Int32) (p1 p2 : Int32) (h0 : Heap) (n0 : Nat) (v : Option Value) (h : Heap) (L : List Loc) : Prop := v = some (.int (own_ix (List.drop p2.toInt.toNat [decide (x0 = p1)]) p2)) ∧ Fr n0 L ∧ h = h0
theorem rm10_1 (l : Launch) (Z : State) (a0 : Array Value) (hw : own_HW a0 Z) (ws : List Jvm.Cond) (p0 : Addr) (kb : ClassId) (x0 : Int32) (p1 p2 : Int32) (h0 : Heap) (n0 : Nat) (V0 : Arv Z h0 p0 kb .byte (1 : Int32) [(.int (x0.toInt8.toInt32))] (.int (0 : Int32))) (hs16 : own_r16 p1) (hx0 : own_r8 x0) (hf0 : 0 ≤ p2.toInt) (hf1 : p2.toInt ≤ (1 : Nat)) : own_M l y10 jdk_43_method_22_code 4 (some .int) ws r_1_0_0_20 #[(.ref p0), (.int p1), (.int p2), (.int (1 : Int32))] Z h0 (Q10_1 Z p0 kb x0 p1 p2 h0 n0) := by
  refine W.bodyOf (Ls := #[.val (.ref p0), .val (.int p1), .val (.int p2), .val (.int (1 : Int32))]) (plainFor_of_name pn_java_lang_StringLatin1) (fun m => by first | exact W.entry_of rfl) ?_
  intro p e s m below meth c T0 C X0 e0
  have N0 := Fr.nil n0
  by_cases hsm : p1.toInt ≤ (255 : Int32).toInt
  · refine W.iloadN (q := 1) X0 C d10_0 rfl rfl ?_
    refine W.callS (q := 4) X0 C (W.ww hw 55 rfl) (W.ww hw 56 rfl) (W.ww hw 53 rfl) (W.ww hw 57 rfl) (by decide) (rm11 l Z a0 hw [] p1 h0 n0 hs16) e0 d10_1 [(.int p1)] [] rfl rfl pd__28I_29Z rfl rfl (by decide) (Nat.le_of_ble_eq_true rfl) (by decide) (by decide) rfl (fun T18 w18 L18 X18 hQ18 => ?_)
    obtain ⟨rfl, NL18, e18⟩ := hQ18
    have N18 := Fr.app N0 NL18
    rw [show own_ce p1 = (1 : Int32) from if_pos hsm]
    show W.Go p e below _ (T18.setTop (mkF m 4 #[.val (.ref p0), .val (.int p1), .val (.int p2), .val (.int (1 : Int32))] [(.int (1 : Int32))]))
    refine W.ifT (q := 9) X18 C d10_4 (by decide) (by decide) (by decide : W.cT .ne (1 : Int32) 0) ?_
    refine W.iloadN (q := 10) X18 C d10_9 rfl rfl ?_
    refine W.iconst (q := 11) (v := 0) X18 C d10_10 rfl rfl ?_
    refine W.callS (q := 14) X18 C (W.ww hw 58 rfl) (W.ww hw 59 rfl) (W.ww hw 60 rfl) (W.ww hw 61 rfl) (by decide) (rm12 l Z a0 hw [] p2 (0 : Int32) h0 n0) e18 d10_11 [(.int p2), (.int (0 : Int32))] [] rfl rfl pd__28II_29I rfl rfl (by decide) (Nat.le_of_ble_eq_true rfl) (by decide) (by decide) rfl (fun T19 w19 L19 X19 hQ19 => ?_)
    obtain ⟨rfl, NL19, e19⟩ := hQ19
    have N19 := Fr.app N18 NL19
    rw [show own_max p2 (0 : Int32) = p2 from if_neg (Int.not_lt.mpr hf0)]
    show W.Go p e below _ (T19.setTop (mkF m 14 #[.val (.ref p0), .val (.int p1), .val (.int p2), .val (.int (1 : Int32))] [(.int p2)]))
    refine W.istoreN (q := 15) (L' := #[.val (.ref p0), .val (.int p1), .val (.int p2), .val (.int (1 : Int32))]) X19 C d10_14 rfl rfl ?_
    refine W.iloadN (q := 16) X19 C d10_15 rfl rfl ?_
    refine W.aloadN (q := 17) X19 C d10_16 rfl rfl rfl ?_
    refine W.arraylength (q := 18) X19 C e19 V0 d10_17 rfl ?_
    refine W.callS (q := 21) X19 C (W.ww hw 62 rfl) (W.ww hw 63 rfl) (W.ww hw 60 rfl) (W.ww hw 64 rfl) (by decide) (rm13 l Z a0 hw [] (1 : Int32) (1 : Int32) h0 n0) e19 d10_18 [(.int (1 : Int32)), (.int (1 : Int32))] [] rfl rfl pd__28II_29I rfl rfl (by decide) (Nat.le_of_ble_eq_true rfl) (by decide) (by decide) rfl (fun T20 w20 L20 X20 hQ20 => ?_)
    obtain ⟨rfl, NL20, e20⟩ := hQ20
    have N20 := Fr.app N19 NL20
    rw [show own_min (1 : Int32) (1 : Int32) = (1 : Int32) by decide]
    show W.Go p e below _ (T20.setTop (mkF m 21 #[.val (.ref p0), .val (.int p1), .val (.int p2), .val (.int (1 : Int32))] [(.int (1 : Int32))]))
    refine W.istoreN (q := 22) (L' := #[.val (.ref p0), .val (.int p1), .val (.int p2), .val (.int (1 : Int32))]) X20 C d10_21 rfl rfl ?_
    refine W.iloadN (q := 23) X20 C d10_22 rfl rfl ?_
    refine W.iloadN (q := 24) X20 C d10_23 rfl rfl ?_
    refine W.icmp (q := 29) (q' := 27) X20 C d10_24 (by decide) (by decide) rfl (fun hc21 => ?_) (fun hc21 => ?_)
    · replace hc21 : p2.toInt < (1 : Int32).toInt := hc21
      refine W.aloadN (q := 30) X20 C d10_29 rfl rfl rfl ?_
      refine W.iloadN (q := 31) X20 C d10_30 rfl rfl ?_
      refine W.iloadN (q := 32) X20 C d10_31 rfl rfl ?_
      refine W.iloadN (q := 33) X20 C d10_32 rfl rfl ?_
      refine W.callS (q := 36) X20 C (W.ww hw 75 rfl) (W.ww hw 76 rfl) (W.ww hw 53 rfl) (W.ww hw 77 rfl) (by decide) (rm17_1 l Z a0 hw [] p0 kb x0 p1 p2 h0 n0 V0 hf0 hf1) e20 d10_33 [(.ref p0), (.int p1), (.int p2), (.int (1 : Int32))] [] rfl rfl pd__28_5bBIII_29I rfl rfl (by decide) (Nat.le_of_ble_eq_true rfl) (by decide) (by decide) rfl (fun T22 w22 L22 X22 hQ22 => ?_)
      obtain ⟨rfl, NL22, e22⟩ := hQ22
      have N22 := Fr.app N20 NL22
      show W.Go p e below _ (T22.setTop (mkF m 36 #[.val (.ref p0), .val (.int p1), .val (.int p2), .val (.int (1 : Int32))] [(.int (own_ix (List.drop p2.toInt.toNat [decide ((x0.toInt8.toInt32) = (p1.toInt8.toInt32))]) p2))]))
      exact W.retI X22 C e22 d10_36 (by decide) (by decide) ⟨by rw [own_deq hx0 (own_16_8 hs16 hsm)], N22, rfl⟩
    · replace hc21 : (1 : Int32).toInt ≤ p2.toInt := hc21
      refine W.iconst (q := 28) (v := (-1)) X20 C d10_27 rfl rfl ?_
      exact W.retI X20 C e20 d10_28 (by decide) (by decide) ⟨by rw [own_ixd hc21 rfl], N20, rfl⟩
  · replace hsm := Int.not_le.mp hsm
    refine W.iloadN (q := 1) X0 C d10_0 rfl rfl ?_
    refine W.callS (q := 4) X0 C (W.ww hw 55 rfl) (W.ww hw 56 rfl) (W.ww hw 53 rfl) (W.ww hw 57 rfl) (by decide) (rm11 l Z a0 hw [] p1 h0 n0 hs16) e0 d10_1 [(.int p1)] [] rfl rfl pd__28I_29Z rfl rfl (by decide) (Nat.le_of_ble_eq_true rfl) (by decide) (by decide) rfl (fun T23 w23 L23 X23 hQ23 => ?_)
    obtain ⟨rfl, NL23, e23⟩ := hQ23
    have N23 := Fr.app N0 NL23
    rw [show own_ce p1 = (0 : Int32) from if_neg (Int.not_le.mpr hsm)]
    show W.Go p e below _ (T23.setTop (mkF m 4 #[.val (.ref p0), .val (.int p1), .val (.int p2), .val (.int (1 : Int32))] [(.int (0 : Int32))]))
    refine W.ifF (q := 7) X23 C d10_4 rfl (by decide : W.cF .ne (0 : Int32) 0) ?_
    refine W.iconst (q := 8) (v := (-1)) X23 C d10_7 rfl rfl ?_
    exact W.retI X23 C e23 d10_8 (by decide) (by decide) ⟨by rw [decide_eq_false (own_big hx0 hsm), own_ix_no1], N23, rfl⟩
theorem own_ix_no2 {p : Int32} : own_ix (List.drop p.toInt.toNat [false, false]) p = -1 := by
  have h : ∀ (k : Nat) (q : Int32), own_ix (List.replicate k false) q = -1 := fun k => by
    induction k with
    | zero => intro q; rfl
    | succ k ih => intro q; exact ih _
  have e : ([false, false] : List Bool) = List.replicate 2 false := rfl
  rw [e, List.drop_replicate]; exact h _ _
def Q10_2 (Z : State) (p0 : Addr) (kb : ClassId) (x0 x1 : Int32) (p1 p2 : Int32) (h0 : Heap) (n0 : Nat) (v : Option Value) (h : Heap) (L : List Loc) : Prop := v = some (.int (own_ix (List.drop p2.toInt.toNat [decide (x0 = p1), decide (x1 = p1)]) p2)) ∧ Fr n0 L ∧ h = h0
theorem rm10_2 (l : Launch) (Z : State) (a0 : Array Value) (hw : own_HW a0 Z) (ws : List Jvm.Cond) (p0 : Addr) (kb : ClassId) (x0 x1 : Int32) (p1 p2 : Int32) (h0 : Heap) (n0 : Nat) (V0 : Arv Z h0 p0 kb .byte (2 : Int32) [(.int (x0.toInt8.toInt32)), (.int (x1.toInt8.toInt32))] (.int (0 : Int32))) (hs16 : own_r16 p1) (hx0 : own_r8 x0) (hx1 : own_r8 x1) (hf0 : 0 ≤ p2.toInt) (hf1 : p2.toInt ≤ (2 : Nat)) : own_M l y10 jdk_43_method_22_code 4 (some .int) ws r_1_0_0_20 #[(.ref p0), (.int p1), (.int p2), (.int (2 : Int32))] Z h0 (Q10_2 Z p0 kb x0 x1 p1 p2 h0 n0) := by
  refine W.bodyOf (Ls := #[.val (.ref p0), .val (.int p1), .val (.int p2), .val (.int (2 : Int32))]) (plainFor_of_name pn_java_lang_StringLatin1) (fun m => by first | exact W.entry_of rfl) ?_
  intro p e s m below meth c T0 C X0 e0
  have N0 := Fr.nil n0
  by_cases hsm : p1.toInt ≤ (255 : Int32).toInt
  · refine W.iloadN (q := 1) X0 C d10_0 rfl rfl ?_
    refine W.callS (q := 4) X0 C (W.ww hw 55 rfl) (W.ww hw 56 rfl) (W.ww hw 53 rfl) (W.ww hw 57 rfl) (by decide) (rm11 l Z a0 hw [] p1 h0 n0 hs16) e0 d10_1 [(.int p1)] [] rfl rfl pd__28I_29Z rfl rfl (by decide) (Nat.le_of_ble_eq_true rfl) (by decide) (by decide) rfl (fun T24 w24 L24 X24 hQ24 => ?_)
    obtain ⟨rfl, NL24, e24⟩ := hQ24
    have N24 := Fr.app N0 NL24
    rw [show own_ce p1 = (1 : Int32) from if_pos hsm]
    show W.Go p e below _ (T24.setTop (mkF m 4 #[.val (.ref p0), .val (.int p1), .val (.int p2), .val (.int (2 : Int32))] [(.int (1 : Int32))]))
    refine W.ifT (q := 9) X24 C d10_4 (by decide) (by decide) (by decide : W.cT .ne (1 : Int32) 0) ?_
    refine W.iloadN (q := 10) X24 C d10_9 rfl rfl ?_
    refine W.iconst (q := 11) (v := 0) X24 C d10_10 rfl rfl ?_
    refine W.callS (q := 14) X24 C (W.ww hw 58 rfl) (W.ww hw 59 rfl) (W.ww hw 60 rfl) (W.ww hw 61 rfl) (by decide) (rm12 l Z a0 hw [] p2 (0 : Int32) h0 n0) e24 d10_11 [(.int p2), (.int (0 : Int32))] [] rfl rfl pd__28II_29I rfl rfl (by decide) (Nat.le_of_ble_eq_true rfl) (by decide) (by decide) rfl (fun T25 w25 L25 X25 hQ25 => ?_)
    obtain ⟨rfl, NL25, e25⟩ := hQ25
    have N25 := Fr.app N24 NL25
    rw [show own_max p2 (0 : Int32) = p2 from if_neg (Int.not_lt.mpr hf0)]
    show W.Go p e below _ (T25.setTop (mkF m 14 #[.val (.ref p0), .val (.int p1), .val (.int p2), .val (.int (2 : Int32))] [(.int p2)]))
    refine W.istoreN (q := 15) (L' := #[.val (.ref p0), .val (.int p1), .val (.int p2), .val (.int (2 : Int32))]) X25 C d10_14 rfl rfl ?_
    refine W.iloadN (q := 16) X25 C d10_15 rfl rfl ?_
    refine W.aloadN (q := 17) X25 C d10_16 rfl rfl rfl ?_
    refine W.arraylength (q := 18) X25 C e25 V0 d10_17 rfl ?_
    refine W.callS (q := 21) X25 C (W.ww hw 62 rfl) (W.ww hw 63 rfl) (W.ww hw 60 rfl) (W.ww hw 64 rfl) (by decide) (rm13 l Z a0 hw [] (2 : Int32) (2 : Int32) h0 n0) e25 d10_18 [(.int (2 : Int32)), (.int (2 : Int32))] [] rfl rfl pd__28II_29I rfl rfl (by decide) (Nat.le_of_ble_eq_true rfl) (by decide) (by decide) rfl (fun T26 w26 L26 X26 hQ26 => ?_)
    obtain ⟨rfl, NL26, e26⟩ := hQ26
    have N26 := Fr.app N25 NL26
    rw [show own_min (2 : Int32) (2 : Int32) = (2 : Int32) by decide]
    show W.Go p e below _ (T26.setTop (mkF m 21 #[.val (.ref p0), .val (.int p1), .val (.int p2), .val (.int (2 : Int32))] [(.int (2 : Int32))]))
    refine W.istoreN (q := 22) (L' := #[.val (.ref p0), .val (.int p1), .val (.int p2), .val (.int (2 : Int32))]) X26 C d10_21 rfl rfl ?_
    refine W.iloadN (q := 23) X26 C d10_22 rfl rfl ?_
    refine W.iloadN (q := 24) X26 C d10_23 rfl rfl ?_
    refine W.icmp (q := 29) (q' := 27) X26 C d10_24 (by decide) (by decide) rfl (fun hc27 => ?_) (fun hc27 => ?_)
    · replace hc27 : p2.toInt < (2 : Int32).toInt := hc27
      refine W.aloadN (q := 30) X26 C d10_29 rfl rfl rfl ?_
      refine W.iloadN (q := 31) X26 C d10_30 rfl rfl ?_
      refine W.iloadN (q := 32) X26 C d10_31 rfl rfl ?_
      refine W.iloadN (q := 33) X26 C d10_32 rfl rfl ?_
      refine W.callS (q := 36) X26 C (W.ww hw 75 rfl) (W.ww hw 76 rfl) (W.ww hw 53 rfl) (W.ww hw 77 rfl) (by decide) (rm17_2 l Z a0 hw [] p0 kb x0 x1 p1 p2 h0 n0 V0 hf0 hf1) e26 d10_33 [(.ref p0), (.int p1), (.int p2), (.int (2 : Int32))] [] rfl rfl pd__28_5bBIII_29I rfl rfl (by decide) (Nat.le_of_ble_eq_true rfl) (by decide) (by decide) rfl (fun T28 w28 L28 X28 hQ28 => ?_)
      obtain ⟨rfl, NL28, e28⟩ := hQ28
      have N28 := Fr.app N26 NL28
      show W.Go p e below _ (T28.setTop (mkF m 36 #[.val (.ref p0), .val (.int p1), .val (.int p2), .val (.int (2 : Int32))] [(.int (own_ix (List.drop p2.toInt.toNat [decide ((x0.toInt8.toInt32) = (p1.toInt8.toInt32)), decide ((x1.toInt8.toInt32) = (p1.toInt8.toInt32))]) p2))]))
      exact W.retI X28 C e28 d10_36 (by decide) (by decide) ⟨by rw [own_deq hx0 (own_16_8 hs16 hsm), own_deq hx1 (own_16_8 hs16 hsm)], N28, rfl⟩
    · replace hc27 : (2 : Int32).toInt ≤ p2.toInt := hc27
      refine W.iconst (q := 28) (v := (-1)) X26 C d10_27 rfl rfl ?_
      exact W.retI X26 C e26 d10_28 (by decide) (by decide) ⟨by rw [own_ixd hc27 rfl], N26, rfl⟩
  · replace hsm := Int.not_le.mp hsm
    refine W.iloadN (q := 1) X0 C d10_0 rfl rfl ?_
    refine W.callS (q := 4) X0 C (W.ww hw 55 rfl) (W.ww hw 56 rfl) (W.ww hw 53 rfl) (W.ww hw 57 rfl) (by decide) (rm11 l Z a0 hw [] p1 h0 n0 hs16) e0 d10_1 [(.int p1)] [] rfl rfl pd__28I_29Z rfl rfl (by decide) (Nat.le_of_ble_eq_true rfl) (by decide) (by decide) rfl (fun T29 w29 L29 X29 hQ29 => ?_)
    obtain ⟨rfl, NL29, e29⟩ := hQ29
    have N29 := Fr.app N0 NL29
    rw [show own_ce p1 = (0 : Int32) from if_neg (Int.not_le.mpr hsm)]
    show W.Go p e below _ (T29.setTop (mkF m 4 #[.val (.ref p0), .val (.int p1), .val (.int p2), .val (.int (2 : Int32))] [(.int (0 : Int32))]))
    refine W.ifF (q := 7) X29 C d10_4 rfl (by decide : W.cF .ne (0 : Int32) 0) ?_
    refine W.iconst (q := 8) (v := (-1)) X29 C d10_7 rfl rfl ?_
    exact W.retI X29 C e29 d10_8 (by decide) (by decide) ⟨by rw [decide_eq_false (own_big hx0 hsm), decide_eq_false (own_big hx1 hsm), own_ix_no2], N29, rfl⟩
theorem own_ix_no3 {p : Int32} : own_ix (List.drop p.toInt.toNat [false, false, false]) p = -1 := by
  have h : ∀ (k : Nat) (q : Int32), own_ix (List.replicate k false) q = -1 := fun k => by
    induction k with
    | zero => intro q; rfl
    | succ k ih => intro q; exact ih _
  have e : ([false, false, false] : List Bool) = List.replicate 3 false := rfl
  rw [e, List.drop_replicate]; exact h _ _
def Q10_3 (Z : State) (p0 : Addr) (kb : ClassId) (x0 x1 x2 : Int32) (p1 p2 : Int32) (h0 : Heap) (n0 : Nat) (v : Option Value) (h : Heap) (L : List Loc) : Prop := v = some (.int (own_ix (List.drop p2.toInt.toNat [decide (x0 = p1), decide (x1 = p1), decide (x2 = p1)]) p2)) ∧ Fr n0 L ∧ h = h0
theorem rm10_3 (l : Launch) (Z : State) (a0 : Array Value) (hw : own_HW a0 Z) (ws : List Jvm.Cond) (p0 : Addr) (kb : ClassId) (x0 x1 x2 : Int32) (p1 p2 : Int32) (h0 : Heap) (n0 : Nat) (V0 : Arv Z h0 p0 kb .byte (3 : Int32) [(.int (x0.toInt8.toInt32)), (.int (x1.toInt8.toInt32)), (.int (x2.toInt8.toInt32))] (.int (0 : Int32))) (hs16 : own_r16 p1) (hx0 : own_r8 x0) (hx1 : own_r8 x1) (hx2 : own_r8 x2) (hf0 : 0 ≤ p2.toInt) (hf1 : p2.toInt ≤ (3 : Nat)) : own_M l y10 jdk_43_method_22_code 4 (some .int) ws r_1_0_0_20 #[(.ref p0), (.int p1), (.int p2), (.int (3 : Int32))] Z h0 (Q10_3 Z p0 kb x0 x1 x2 p1 p2 h0 n0) := by
  refine W.bodyOf (Ls := #[.val (.ref p0), .val (.int p1), .val (.int p2), .val (.int (3 : Int32))]) (plainFor_of_name pn_java_lang_StringLatin1) (fun m => by first | exact W.entry_of rfl) ?_
  intro p e s m below meth c T0 C X0 e0
  have N0 := Fr.nil n0
  by_cases hsm : p1.toInt ≤ (255 : Int32).toInt
  · refine W.iloadN (q := 1) X0 C d10_0 rfl rfl ?_
    refine W.callS (q := 4) X0 C (W.ww hw 55 rfl) (W.ww hw 56 rfl) (W.ww hw 53 rfl) (W.ww hw 57 rfl) (by decide) (rm11 l Z a0 hw [] p1 h0 n0 hs16) e0 d10_1 [(.int p1)] [] rfl rfl pd__28I_29Z rfl rfl (by decide) (Nat.le_of_ble_eq_true rfl) (by decide) (by decide) rfl (fun T30 w30 L30 X30 hQ30 => ?_)
    obtain ⟨rfl, NL30, e30⟩ := hQ30
    have N30 := Fr.app N0 NL30
    rw [show own_ce p1 = (1 : Int32) from if_pos hsm]
    show W.Go p e below _ (T30.setTop (mkF m 4 #[.val (.ref p0), .val (.int p1), .val (.int p2), .val (.int (3 : Int32))] [(.int (1 : Int32))]))
    refine W.ifT (q := 9) X30 C d10_4 (by decide) (by decide) (by decide : W.cT .ne (1 : Int32) 0) ?_
    refine W.iloadN (q := 10) X30 C d10_9 rfl rfl ?_
    refine W.iconst (q := 11) (v := 0) X30 C d10_10 rfl rfl ?_
    refine W.callS (q := 14) X30 C (W.ww hw 58 rfl) (W.ww hw 59 rfl) (W.ww hw 60 rfl) (W.ww hw 61 rfl) (by decide) (rm12 l Z a0 hw [] p2 (0 : Int32) h0 n0) e30 d10_11 [(.int p2), (.int (0 : Int32))] [] rfl rfl pd__28II_29I rfl rfl (by decide) (Nat.le_of_ble_eq_true rfl) (by decide) (by decide) rfl (fun T31 w31 L31 X31 hQ31 => ?_)
    obtain ⟨rfl, NL31, e31⟩ := hQ31
    have N31 := Fr.app N30 NL31
    rw [show own_max p2 (0 : Int32) = p2 from if_neg (Int.not_lt.mpr hf0)]
    show W.Go p e below _ (T31.setTop (mkF m 14 #[.val (.ref p0), .val (.int p1), .val (.int p2), .val (.int (3 : Int32))] [(.int p2)]))
    refine W.istoreN (q := 15) (L' := #[.val (.ref p0), .val (.int p1), .val (.int p2), .val (.int (3 : Int32))]) X31 C d10_14 rfl rfl ?_
    refine W.iloadN (q := 16) X31 C d10_15 rfl rfl ?_
    refine W.aloadN (q := 17) X31 C d10_16 rfl rfl rfl ?_
    refine W.arraylength (q := 18) X31 C e31 V0 d10_17 rfl ?_
    refine W.callS (q := 21) X31 C (W.ww hw 62 rfl) (W.ww hw 63 rfl) (W.ww hw 60 rfl) (W.ww hw 64 rfl) (by decide) (rm13 l Z a0 hw [] (3 : Int32) (3 : Int32) h0 n0) e31 d10_18 [(.int (3 : Int32)), (.int (3 : Int32))] [] rfl rfl pd__28II_29I rfl rfl (by decide) (Nat.le_of_ble_eq_true rfl) (by decide) (by decide) rfl (fun T32 w32 L32 X32 hQ32 => ?_)
    obtain ⟨rfl, NL32, e32⟩ := hQ32
    have N32 := Fr.app N31 NL32
    rw [show own_min (3 : Int32) (3 : Int32) = (3 : Int32) by decide]
    show W.Go p e below _ (T32.setTop (mkF m 21 #[.val (.ref p0), .val (.int p1), .val (.int p2), .val (.int (3 : Int32))] [(.int (3 : Int32))]))
    refine W.istoreN (q := 22) (L' := #[.val (.ref p0), .val (.int p1), .val (.int p2), .val (.int (3 : Int32))]) X32 C d10_21 rfl rfl ?_
    refine W.iloadN (q := 23) X32 C d10_22 rfl rfl ?_
    refine W.iloadN (q := 24) X32 C d10_23 rfl rfl ?_
    refine W.icmp (q := 29) (q' := 27) X32 C d10_24 (by decide) (by decide) rfl (fun hc33 => ?_) (fun hc33 => ?_)
    · replace hc33 : p2.toInt < (3 : Int32).toInt := hc33
      refine W.aloadN (q := 30) X32 C d10_29 rfl rfl rfl ?_
      refine W.iloadN (q := 31) X32 C d10_30 rfl rfl ?_
      refine W.iloadN (q := 32) X32 C d10_31 rfl rfl ?_
      refine W.iloadN (q := 33) X32 C d10_32 rfl rfl ?_
      refine W.callS (q := 36) X32 C (W.ww hw 75 rfl) (W.ww hw 76 rfl) (W.ww hw 53 rfl) (W.ww hw 77 rfl) (by decide) (rm17_3 l Z a0 hw [] p0 kb x0 x1 x2 p1 p2 h0 n0 V0 hf0 hf1) e32 d10_33 [(.ref p0), (.int p1), (.int p2), (.int (3 : Int32))] [] rfl rfl pd__28_5bBIII_29I rfl rfl (by decide) (Nat.le_of_ble_eq_true rfl) (by decide) (by decide) rfl (fun T34 w34 L34 X34 hQ34 => ?_)
      obtain ⟨rfl, NL34, e34⟩ := hQ34
      have N34 := Fr.app N32 NL34
      show W.Go p e below _ (T34.setTop (mkF m 36 #[.val (.ref p0), .val (.int p1), .val (.int p2), .val (.int (3 : Int32))] [(.int (own_ix (List.drop p2.toInt.toNat [decide ((x0.toInt8.toInt32) = (p1.toInt8.toInt32)), decide ((x1.toInt8.toInt32) = (p1.toInt8.toInt32)), decide ((x2.toInt8.toInt32) = (p1.toInt8.toInt32))]) p2))]))
      exact W.retI X34 C e34 d10_36 (by decide) (by decide) ⟨by rw [own_deq hx0 (own_16_8 hs16 hsm), own_deq hx1 (own_16_8 hs16 hsm), own_deq hx2 (own_16_8 hs16 hsm)], N34, rfl⟩
    · replace hc33 : (3 : Int32).toInt ≤ p2.toInt := hc33
      refine W.iconst (q := 28) (v := (-1)) X32 C d10_27 rfl rfl ?_
      exact W.retI X32 C e32 d10_28 (by decide) (by decide) ⟨by rw [own_ixd hc33 rfl], N32, rfl⟩
  · replace hsm := Int.not_le.mp hsm
    refine W.iloadN (q := 1) X0 C d10_0 rfl rfl ?_
    refine W.callS (q := 4) X0 C (W.ww hw 55 rfl) (W.ww hw 56 rfl) (W.ww hw 53 rfl) (W.ww hw 57 rfl) (by decide) (rm11 l Z a0 hw [] p1 h0 n0 hs16) e0 d10_1 [(.int p1)] [] rfl rfl pd__28I_29Z rfl rfl (by decide) (Nat.le_of_ble_eq_true rfl) (by decide) (by decide) rfl (fun T35 w35 L35 X35 hQ35 => ?_)
    obtain ⟨rfl, NL35, e35⟩ := hQ35
    have N35 := Fr.app N0 NL35
    rw [show own_ce p1 = (0 : Int32) from if_neg (Int.not_le.mpr hsm)]
    show W.Go p e below _ (T35.setTop (mkF m 4 #[.val (.ref p0), .val (.int p1), .val (.int p2), .val (.int (3 : Int32))] [(.int (0 : Int32))]))
    refine W.ifF (q := 7) X35 C d10_4 rfl (by decide : W.cF .ne (0 : Int32) 0) ?_
    refine W.iconst (q := 8) (v := (-1)) X35 C d10_7 rfl rfl ?_
    exact W.retI X35 C e35 d10_8 (by decide) (by decide) ⟨by rw [decide_eq_false (own_big hx0 hsm), decide_eq_false (own_big hx1 hsm), decide_eq_false (own_big hx2 hsm), own_ix_no3], N35, rfl⟩
theorem own_ix_no4 {p : Int32} : own_ix (List.drop p.toInt.toNat [false, false, false, false]) p = -1 := by
  have h : ∀ (k : Nat) (q : Int32), own_ix (List.replicate k false) q = -1 := fun k => by
    induction k with
    | zero => intro q; rfl
    | succ k ih => intro q; exact ih _
  have e : ([false, false, false, false] : List Bool) = List.replicate 4 false := rfl
  rw [e, List.drop_replicate]; exact h _ _
def Q10_4 (Z : State) (p0 : Addr) (kb : ClassId) (x0 x1 x2 x3 : Int32) (p1 p2 : Int32) (h0 : Heap) (n0 : Nat) (v : Option Value) (h : Heap) (L : List Loc) : Prop := v = some (.int (own_ix (List.drop p2.toInt.toNat [decide (x0 = p1), decide (x1 = p1), decide (x2 = p1), decide (x3 = p1)]) p2)) ∧ Fr n0 L ∧ h = h0
theorem rm10_4 (l : Launch) (Z : State) (a0 : Array Value) (hw : own_HW a0 Z) (ws : List Jvm.Cond) (p0 : Addr) (kb : ClassId) (x0 x1 x2 x3 : Int32) (p1 p2 : Int32) (h0 : Heap) (n0 : Nat) (V0 : Arv Z h0 p0 kb .byte (4 : Int32) [(.int (x0.toInt8.toInt32)), (.int (x1.toInt8.toInt32)), (.int (x2.toInt8.toInt32)), (.int (x3.toInt8.toInt32))] (.int (0 : Int32))) (hs16 : own_r16 p1) (hx0 : own_r8 x0) (hx1 : own_r8 x1) (hx2 : own_r8 x2) (hx3 : own_r8 x3) (hf0 : 0 ≤ p2.toInt) (hf1 : p2.toInt ≤ (4 : Nat)) : own_M l y10 jdk_43_method_22_code 4 (some .int) ws r_1_0_0_20 #[(.ref p0), (.int p1), (.int p2), (.int (4 : Int32))] Z h0 (Q10_4 Z p0 kb x0 x1 x2 x3 p1 p2 h0 n0) := by
  refine W.bodyOf (Ls := #[.val (.ref p0), .val (.int p1), .val (.int p2), .val (.int (4 : Int32))]) (plainFor_of_name pn_java_lang_StringLatin1) (fun m => by first | exact W.entry_of rfl) ?_
  intro p e s m below meth c T0 C X0 e0
  have N0 := Fr.nil n0
  by_cases hsm : p1.toInt ≤ (255 : Int32).toInt
  · refine W.iloadN (q := 1) X0 C d10_0 rfl rfl ?_
    refine W.callS (q := 4) X0 C (W.ww hw 55 rfl) (W.ww hw 56 rfl) (W.ww hw 53 rfl) (W.ww hw 57 rfl) (by decide) (rm11 l Z a0 hw [] p1 h0 n0 hs16) e0 d10_1 [(.int p1)] [] rfl rfl pd__28I_29Z rfl rfl (by decide) (Nat.le_of_ble_eq_true rfl) (by decide) (by decide) rfl (fun T36 w36 L36 X36 hQ36 => ?_)
    obtain ⟨rfl, NL36, e36⟩ := hQ36
    have N36 := Fr.app N0 NL36
    rw [show own_ce p1 = (1 : Int32) from if_pos hsm]
    show W.Go p e below _ (T36.setTop (mkF m 4 #[.val (.ref p0), .val (.int p1), .val (.int p2), .val (.int (4 : Int32))] [(.int (1 : Int32))]))
    refine W.ifT (q := 9) X36 C d10_4 (by decide) (by decide) (by decide : W.cT .ne (1 : Int32) 0) ?_
    refine W.iloadN (q := 10) X36 C d10_9 rfl rfl ?_
    refine W.iconst (q := 11) (v := 0) X36 C d10_10 rfl rfl ?_
    refine W.callS (q := 14) X36 C (W.ww hw 58 rfl) (W.ww hw 59 rfl) (W.ww hw 60 rfl) (W.ww hw 61 rfl) (by decide) (rm12 l Z a0 hw [] p2 (0 : Int32) h0 n0) e36 d10_11 [(.int p2), (.int (0 : Int32))] [] rfl rfl pd__28II_29I rfl rfl (by decide) (Nat.le_of_ble_eq_true rfl) (by decide) (by decide) rfl (fun T37 w37 L37 X37 hQ37 => ?_)
    obtain ⟨rfl, NL37, e37⟩ := hQ37
    have N37 := Fr.app N36 NL37
    rw [show own_max p2 (0 : Int32) = p2 from if_neg (Int.not_lt.mpr hf0)]
    show W.Go p e below _ (T37.setTop (mkF m 14 #[.val (.ref p0), .val (.int p1), .val (.int p2), .val (.int (4 : Int32))] [(.int p2)]))
    refine W.istoreN (q := 15) (L' := #[.val (.ref p0), .val (.int p1), .val (.int p2), .val (.int (4 : Int32))]) X37 C d10_14 rfl rfl ?_
    refine W.iloadN (q := 16) X37 C d10_15 rfl rfl ?_
    refine W.aloadN (q := 17) X37 C d10_16 rfl rfl rfl ?_
    refine W.arraylength (q := 18) X37 C e37 V0 d10_17 rfl ?_
    refine W.callS (q := 21) X37 C (W.ww hw 62 rfl) (W.ww hw 63 rfl) (W.ww hw 60 rfl) (W.ww hw 64 rfl) (by decide) (rm13 l Z a0 hw [] (4 : Int32) (4 : Int32) h0 n0) e37 d10_18 [(.int (4 : Int32)), (.int (4 : Int32))] [] rfl rfl pd__28II_29I rfl rfl (by decide) (Nat.le_of_ble_eq_true rfl) (by decide) (by decide) rfl (fun T38 w38 L38 X38 hQ38 => ?_)
    obtain ⟨rfl, NL38, e38⟩ := hQ38
    have N38 := Fr.app N37 NL38
    rw [show own_min (4 : Int32) (4 : Int32) = (4 : Int32) by decide]
    show W.Go p e below _ (T38.setTop (mkF m 21 #[.val (.ref p0), .val (.int p1), .val (.int p2), .val (.int (4 : Int32))] [(.int (4 : Int32))]))
    refine W.istoreN (q := 22) (L' := #[.val (.ref p0), .val (.int p1), .val (.int p2), .val (.int (4 : Int32))]) X38 C d10_21 rfl rfl ?_
    refine W.iloadN (q := 23) X38 C d10_22 rfl rfl ?_
    refine W.iloadN (q := 24) X38 C d10_23 rfl rfl ?_
    refine W.icmp (q := 29) (q' := 27) X38 C d10_24 (by decide) (by decide) rfl (fun hc39 => ?_) (fun hc39 => ?_)
    · replace hc39 : p2.toInt < (4 : Int32).toInt := hc39
      refine W.aloadN (q := 30) X38 C d10_29 rfl rfl rfl ?_
      refine W.iloadN (q := 31) X38 C d10_30 rfl rfl ?_
      refine W.iloadN (q := 32) X38 C d10_31 rfl rfl ?_
      refine W.iloadN (q := 33) X38 C d10_32 rfl rfl ?_
      refine W.callS (q := 36) X38 C (W.ww hw 75 rfl) (W.ww hw 76 rfl) (W.ww hw 53 rfl) (W.ww hw 77 rfl) (by decide) (rm17_4 l Z a0 hw [] p0 kb x0 x1 x2 x3 p1 p2 h0 n0 V0 hf0 hf1) e38 d10_33 [(.ref p0), (.int p1), (.int p2), (.int (4 : Int32))] [] rfl rfl pd__28_5bBIII_29I rfl rfl (by decide) (Nat.le_of_ble_eq_true rfl) (by decide) (by decide) rfl (fun T40 w40 L40 X40 hQ40 => ?_)
      obtain ⟨rfl, NL40, e40⟩ := hQ40
      have N40 := Fr.app N38 NL40
      show W.Go p e below _ (T40.setTop (mkF m 36 #[.val (.ref p0), .val (.int p1), .val (.int p2), .val (.int (4 : Int32))] [(.int (own_ix (List.drop p2.toInt.toNat [decide ((x0.toInt8.toInt32) = (p1.toInt8.toInt32)), decide ((x1.toInt8.toInt32) = (p1.toInt8.toInt32)), decide ((x2.toInt8.toInt32) = (p1.toInt8.toInt32)), decide ((x3.toInt8.toInt32) = (p1.toInt8.toInt32))]) p2))]))
      exact W.retI X40 C e40 d10_36 (by decide) (by decide) ⟨by rw [own_deq hx0 (own_16_8 hs16 hsm), own_deq hx1 (own_16_8 hs16 hsm), own_deq hx2 (own_16_8 hs16 hsm), own_deq hx3 (own_16_8 hs16 hsm)], N40, rfl⟩
    · replace hc39 : (4 : Int32).toInt ≤ p2.toInt := hc39
      refine W.iconst (q := 28) (v := (-1)) X38 C d10_27 rfl rfl ?_
      exact W.retI X38 C e38 d10_28 (by decide) (by decide) ⟨by rw [own_ixd hc39 rfl], N38, rfl⟩
  · replace hsm := Int.not_le.mp hsm
    refine W.iloadN (q := 1) X0 C d10_0 rfl rfl ?_
    refine W.callS (q := 4) X0 C (W.ww hw 55 rfl) (W.ww hw 56 rfl) (W.ww hw 53 rfl) (W.ww hw 57 rfl) (by decide) (rm11 l Z a0 hw [] p1 h0 n0 hs16) e0 d10_1 [(.int p1)] [] rfl rfl pd__28I_29Z rfl rfl (by decide) (Nat.le_of_ble_eq_true rfl) (by decide) (by decide) rfl (fun T41 w41 L41 X41 hQ41 => ?_)
    obtain ⟨rfl, NL41, e41⟩ := hQ41
    have N41 := Fr.app N0 NL41
    rw [show own_ce p1 = (0 : Int32) from if_neg (Int.not_le.mpr hsm)]
    show W.Go p e below _ (T41.setTop (mkF m 4 #[.val (.ref p0), .val (.int p1), .val (.int p2), .val (.int (4 : Int32))] [(.int (0 : Int32))]))
    refine W.ifF (q := 7) X41 C d10_4 rfl (by decide : W.cF .ne (0 : Int32) 0) ?_
    refine W.iconst (q := 8) (v := (-1)) X41 C d10_7 rfl rfl ?_
    exact W.retI X41 C e41 d10_8 (by decide) (by decide) ⟨by rw [decide_eq_false (own_big hx0 hsm), decide_eq_false (own_big hx1 hsm), decide_eq_false (own_big hx2 hsm), decide_eq_false (own_big hx3 hsm), own_ix_no4], N41, rfl⟩
theorem d7_0 : decode jdk_42_method_154_code 0 = .ok (.getstatic 38, 3) := by decide +kernel
theorem d7_3 : decode jdk_42_method_154_code 3 = .ok (.ifCond .eq 14, 3) := by decide +kernel
theorem d7_6 : decode jdk_42_method_154_code 6 = .ok (.aload_n 0, 1) := by decide +kernel
theorem d7_7 : decode jdk_42_method_154_code 7 = .ok (.getfield 15, 3) := by decide +kernel
theorem d7_10 : decode jdk_42_method_154_code 10 = .ok (.ifCond .ne 7, 3) := by decide +kernel
theorem d7_13 : decode jdk_42_method_154_code 13 = .ok (.iconst 1, 1) := by decide +kernel
theorem d7_14 : decode jdk_42_method_154_code 14 = .ok (.goto 4, 3) := by decide +kernel
theorem d7_18 : decode jdk_42_method_154_code 18 = .ok (.ireturn, 1) := by decide +kernel
theorem pn_java_lang_String : plainName "java/lang/String" = true := by first | (simp [plainName, overriddenIn]; done) | decide +kernel
abbrev y7 : MethodName := ⟨"java/lang/String", "isLatin1", "()Z"⟩
def Q7_0 (Z : State) (p0 : Addr) (cs : Int32) (h0 : Heap) (n0 : Nat) (v : Option Value) (h : Heap) (L : List Loc) : Prop := v = some (.int (1 : Int32)) ∧ Fr n0 L ∧ h = h0
theorem rm7_0 (l : Launch) (Z : State) (a0 : Array Value) (hw : own_HW a0 Z) (ws : List Jvm.Cond) (p0 : Addr) (cs : Int32) (h0 : Heap) (n0 : Nat) (F0 : Fld Z h0 p0 "java/lang/String" "coder" "B" (.int (0 : Int32))) (SC : Sta Z h0 "java/lang/String" "COMPACT_STRINGS" "Z" (.int cs)) (hcs : cs ≠ 0) : own_M l y7 jdk_42_method_154_code 1 (some .boolean) ws r_0_0_0_0 #[(.ref p0)] Z h0 (Q7_0 Z p0 cs h0 n0) := by
  refine W.bodyOf (Ls := #[.val (.ref p0)]) (plainFor_of_name pn_java_lang_String) (fun m => by first | exact W.entry_of rfl) ?_
  intro p e s m below meth c T0 C X0 e0
  have N0 := Fr.nil n0
  refine W.getS (q := 3) X0 C (W.ww hw 40 rfl) Via.refl e0 SC d7_0 rfl (fun T42 X42 e42 => ?_)
  refine W.ifF (q := 6) X42 C d7_3 rfl hcs ?_
  refine W.aloadN (q := 7) X42 C d7_6 rfl rfl rfl ?_
  refine W.getF (host := "") (q := 10) X42 C (Or.inl (W.ww hw 21 rfl)) Via.refl e42 F0 d7_7 rfl (fun T43 X43 e43 => ?_)
  refine W.ifF (q := 13) X43 C d7_10 rfl (by decide : W.cF .ne (0 : Int32) 0) ?_
  refine W.iconst (q := 14) (v := 1) X43 C d7_13 rfl rfl ?_
  refine W.goto (q := 18) X43 C d7_14 (by decide) (by decide) ?_
  exact W.retN X43 C (by simp) e43 d7_18 rfl (by decide) (by decide) ⟨rfl, N0, rfl⟩
theorem d9_0 : decode jdk_42_method_152_code 0 = .ok (.getstatic 38, 3) := by decide +kernel
theorem d9_3 : decode jdk_42_method_152_code 3 = .ok (.ifCond .eq 10, 3) := by decide +kernel
theorem d9_6 : decode jdk_42_method_152_code 6 = .ok (.aload_n 0, 1) := by decide +kernel
theorem d9_7 : decode jdk_42_method_152_code 7 = .ok (.getfield 15, 3) := by decide +kernel
theorem d9_10 : decode jdk_42_method_152_code 10 = .ok (.goto 4, 3) := by decide +kernel
theorem d9_14 : decode jdk_42_method_152_code 14 = .ok (.ireturn, 1) := by decide +kernel
abbrev y9 : MethodName := ⟨"java/lang/String", "coder", "()B"⟩
def Q9_0 (Z : State) (p0 : Addr) (cs : Int32) (h0 : Heap) (n0 : Nat) (v : Option Value) (h : Heap) (L : List Loc) : Prop := v = some (.int (0 : Int32)) ∧ Fr n0 L ∧ h = h0
theorem rm9_0 (l : Launch) (Z : State) (a0 : Array Value) (hw : own_HW a0 Z) (ws : List Jvm.Cond) (p0 : Addr) (cs : Int32) (h0 : Heap) (n0 : Nat) (F0 : Fld Z h0 p0 "java/lang/String" "coder" "B" (.int (0 : Int32))) (SC : Sta Z h0 "java/lang/String" "COMPACT_STRINGS" "Z" (.int cs)) (hcs : cs ≠ 0) : own_M l y9 jdk_42_method_152_code 1 (some .byte) ws r_0_0_0_0 #[(.ref p0)] Z h0 (Q9_0 Z p0 cs h0 n0) := by
  refine W.bodyOf (Ls := #[.val (.ref p0)]) (plainFor_of_name pn_java_lang_String) (fun m => by first | exact W.entry_of rfl) ?_
  intro p e s m below meth c T0 C X0 e0
  have N0 := Fr.nil n0
  refine W.getS (q := 3) X0 C (W.ww hw 40 rfl) Via.refl e0 SC d9_0 rfl (fun T44 X44 e44 => ?_)
  refine W.ifF (q := 6) X44 C d9_3 rfl hcs ?_
  refine W.aloadN (q := 7) X44 C d9_6 rfl rfl rfl ?_
  refine W.getF (host := "") (q := 10) X44 C (Or.inl (W.ww hw 21 rfl)) Via.refl e44 F0 d9_7 rfl (fun T45 X45 e45 => ?_)
  refine W.goto (q := 14) X45 C d9_10 (by decide) (by decide) ?_
  exact W.retN X45 C (by simp) e45 d9_14 rfl (by decide) (by decide) ⟨rfl, N0, rfl⟩
theorem d7_17 : decode jdk_42_method_154_code 17 = .ok (.iconst 0, 1) := by decide +kernel
def Q7_1 (Z : State) (p0 : Addr) (cs : Int32) (h0 : Heap) (n0 : Nat) (v : Option Value) (h : Heap) (L : List Loc) : Prop := v = some (.int (0 : Int32)) ∧ Fr n0 L ∧ h = h0
theorem rm7_1 (l : Launch) (Z : State) (a0 : Array Value) (hw : own_HW a0 Z) (ws : List Jvm.Cond) (p0 : Addr) (cs : Int32) (h0 : Heap) (n0 : Nat) (F0 : Fld Z h0 p0 "java/lang/String" "coder" "B" (.int (1 : Int32))) (SC : Sta Z h0 "java/lang/String" "COMPACT_STRINGS" "Z" (.int cs)) (hcs : cs ≠ 0) : own_M l y7 jdk_42_method_154_code 1 (some .boolean) ws r_0_0_0_0 #[(.ref p0)] Z h0 (Q7_1 Z p0 cs h0 n0) := by
  refine W.bodyOf (Ls := #[.val (.ref p0)]) (plainFor_of_name pn_java_lang_String) (fun m => by first | exact W.entry_of rfl) ?_
  intro p e s m below meth c T0 C X0 e0
  have N0 := Fr.nil n0
  refine W.getS (q := 3) X0 C (W.ww hw 40 rfl) Via.refl e0 SC d7_0 rfl (fun T46 X46 e46 => ?_)
  refine W.ifF (q := 6) X46 C d7_3 rfl hcs ?_
  refine W.aloadN (q := 7) X46 C d7_6 rfl rfl rfl ?_
  refine W.getF (host := "") (q := 10) X46 C (Or.inl (W.ww hw 21 rfl)) Via.refl e46 F0 d7_7 rfl (fun T47 X47 e47 => ?_)
  refine W.ifT (q := 17) X47 C d7_10 (by decide) (by decide) (by decide : W.cT .ne (1 : Int32) 0) ?_
  refine W.iconst (q := 18) (v := 0) X47 C d7_17 rfl rfl ?_
  exact W.retN X47 C (by simp) e47 d7_18 rfl (by decide) (by decide) ⟨rfl, N0, rfl⟩
def Q9_1 (Z : State) (p0 : Addr) (cs : Int32) (h0 : Heap) (n0 : Nat) (v : Option Value) (h : Heap) (L : List Loc) : Prop := v = some (.int (1 : Int32)) ∧ Fr n0 L ∧ h = h0
theorem rm9_1 (l : Launch) (Z : State) (a0 : Array Value) (hw : own_HW a0 Z) (ws : List Jvm.Cond) (p0 : Addr) (cs : Int32) (h0 : Heap) (n0 : Nat) (F0 : Fld Z h0 p0 "java/lang/String" "coder" "B" (.int (1 : Int32))) (SC : Sta Z h0 "java/lang/String" "COMPACT_STRINGS" "Z" (.int cs)) (hcs : cs ≠ 0) : own_M l y9 jdk_42_method_152_code 1 (some .byte) ws r_0_0_0_0 #[(.ref p0)] Z h0 (Q9_1 Z p0 cs h0 n0) := by
  refine W.bodyOf (Ls := #[.val (.ref p0)]) (plainFor_of_name pn_java_lang_String) (fun m => by first | exact W.entry_of rfl) ?_
  intro p e s m below meth c T0 C X0 e0
  have N0 := Fr.nil n0
  refine W.getS (q := 3) X0 C (W.ww hw 40 rfl) Via.refl e0 SC d9_0 rfl (fun T48 X48 e48 => ?_)
  refine W.ifF (q := 6) X48 C d9_3 rfl hcs ?_
  refine W.aloadN (q := 7) X48 C d9_6 rfl rfl rfl ?_
  refine W.getF (host := "") (q := 10) X48 C (Or.inl (W.ww hw 21 rfl)) Via.refl e48 F0 d9_7 rfl (fun T49 X49 e49 => ?_)
  refine W.goto (q := 14) X49 C d9_10 (by decide) (by decide) ?_
  exact W.retN X49 C (by simp) e49 d9_14 rfl (by decide) (by decide) ⟨rfl, N0, rfl⟩
theorem d8_0 : decode jdk_42_method_54_code 0 = .ok (.aload_n 0, 1) := by decide +kernel
theorem d8_1 : decode jdk_42_method_54_code 1 = .ok (.getfield 9, 3) := by decide +kernel
theorem d8_4 : decode jdk_42_method_54_code 4 = .ok (.arraylength, 1) := by decide +kernel
theorem d8_5 : decode jdk_42_method_54_code 5 = .ok (.aload_n 0, 1) := by decide +kernel
theorem d8_6 : decode jdk_42_method_54_code 6 = .ok (.invokevirtual 335, 3) := by decide +kernel
theorem pd__28_29B : parseMethodDescriptor "()B" = some ⟨[], some .byte⟩ := by decide +kernel
theorem d8_9 : decode jdk_42_method_54_code 9 = .ok (.ishr, 1) := by decide +kernel
theorem d8_10 : decode jdk_42_method_54_code 10 = .ok (.ireturn, 1) := by decide +kernel
abbrev y8 : MethodName := ⟨"java/lang/String", "length", "()I"⟩
abbrev r_1_0_0_14 : Room := { frames := 1, cells := 0, slots := 0, locals := 14 }
def Q8_0_0 (Z : State) (p0 b : Addr) (kb : ClassId) (vs : List Value) (cs : Int32) (h0 : Heap) (n0 : Nat) (v : Option Value) (h : Heap) (L : List Loc) : Prop := v = some (.int (0 : Int32)) ∧ Fr n0 L ∧ h = h0
theorem rm8_0_0 (l : Launch) (Z : State) (a0 : Array Value) (hw : own_HW a0 Z) (ws : List Jvm.Cond) (p0 b : Addr) (kb : ClassId) (vs : List Value) (cs : Int32) (h0 : Heap) (n0 : Nat) (E0 : Exa Z h0 p0 "java/lang/String") (F0 : Fld Z h0 p0 "java/lang/String" "coder" "B" (.int (0 : Int32))) (F1 : Fld Z h0 p0 "java/lang/String" "value" "[B" (.ref b)) (V0 : Arv Z h0 b kb .byte (0 : Int32) vs (.int (0 : Int32))) (SC : Sta Z h0 "java/lang/String" "COMPACT_STRINGS" "Z" (.int cs)) (hcs : cs ≠ 0) : own_M l y8 jdk_42_method_54_code 1 (some .int) ws r_1_0_0_14 #[(.ref p0)] Z h0 (Q8_0_0 Z p0 b kb vs cs h0 n0) := by
  refine W.bodyOf (Ls := #[.val (.ref p0)]) (plainFor_of_name pn_java_lang_String) (fun m => by first | exact W.entry_of rfl) ?_
  intro p e s m below meth c T0 C X0 e0
  have N0 := Fr.nil n0
  refine W.aloadN (q := 1) X0 C d8_0 rfl rfl rfl ?_
  refine W.getF (host := "") (q := 4) X0 C (Or.inl (W.ww hw 20 rfl)) Via.refl e0 F1 d8_1 rfl (fun T50 X50 e50 => ?_)
  refine W.arraylength (q := 5) X50 C e50 V0 d8_4 rfl ?_
  refine W.aloadN (q := 6) X50 C d8_5 rfl rfl rfl ?_
  refine W.callV (q := 9) X50 C (W.ww hw 46 rfl) (W.ww hw 47 rfl) (W.nf C (W.ww hw 49 rfl)) (W.ww hw 49 rfl) (W.ww hw 48 rfl) (W.ww hw 3 rfl) (W.ww hw 50 rfl) (by decide) (rm9_0 l Z a0 hw [] p0 cs h0 n0 F0 SC hcs) e50 E0 d8_6 [] [(.int (0 : Int32))] rfl rfl pd__28_29B rfl rfl (by decide) (Nat.le_of_ble_eq_true rfl) (by decide) (by decide) rfl (fun T51 w51 L51 X51 hQ51 => ?_)
  obtain ⟨rfl, NL51, e51⟩ := hQ51
  have N51 := Fr.app N0 NL51
  show W.Go p e below _ (T51.setTop (mkF m 9 #[.val (.ref p0)] [(.int (0 : Int32)), (.int (0 : Int32))]))
  refine W.ishr (q := 10) X51 C d8_9 rfl ?_
  rw [show ((0 : Int32) >>> ((0 : Int32) &&& 31)) = (0 : Int32) by decide]
  exact W.retI X51 C e51 d8_10 (by decide) (by decide) ⟨rfl, N51, rfl⟩
def Q8_1_0 (Z : State) (p0 b : Addr) (kb : ClassId) (vs : List Value) (cs : Int32) (h0 : Heap) (n0 : Nat) (v : Option Value) (h : Heap) (L : List Loc) : Prop := v = some (.int (1 : Int32)) ∧ Fr n0 L ∧ h = h0
theorem rm8_1_0 (l : Launch) (Z : State) (a0 : Array Value) (hw : own_HW a0 Z) (ws : List Jvm.Cond) (p0 b : Addr) (kb : ClassId) (vs : List Value) (cs : Int32) (h0 : Heap) (n0 : Nat) (E0 : Exa Z h0 p0 "java/lang/String") (F0 : Fld Z h0 p0 "java/lang/String" "coder" "B" (.int (0 : Int32))) (F1 : Fld Z h0 p0 "java/lang/String" "value" "[B" (.ref b)) (V0 : Arv Z h0 b kb .byte (1 : Int32) vs (.int (0 : Int32))) (SC : Sta Z h0 "java/lang/String" "COMPACT_STRINGS" "Z" (.int cs)) (hcs : cs ≠ 0) : own_M l y8 jdk_42_method_54_code 1 (some .int) ws r_1_0_0_14 #[(.ref p0)] Z h0 (Q8_1_0 Z p0 b kb vs cs h0 n0) := by
  refine W.bodyOf (Ls := #[.val (.ref p0)]) (plainFor_of_name pn_java_lang_String) (fun m => by first | exact W.entry_of rfl) ?_
  intro p e s m below meth c T0 C X0 e0
  have N0 := Fr.nil n0
  refine W.aloadN (q := 1) X0 C d8_0 rfl rfl rfl ?_
  refine W.getF (host := "") (q := 4) X0 C (Or.inl (W.ww hw 20 rfl)) Via.refl e0 F1 d8_1 rfl (fun T52 X52 e52 => ?_)
  refine W.arraylength (q := 5) X52 C e52 V0 d8_4 rfl ?_
  refine W.aloadN (q := 6) X52 C d8_5 rfl rfl rfl ?_
  refine W.callV (q := 9) X52 C (W.ww hw 46 rfl) (W.ww hw 47 rfl) (W.nf C (W.ww hw 49 rfl)) (W.ww hw 49 rfl) (W.ww hw 48 rfl) (W.ww hw 3 rfl) (W.ww hw 50 rfl) (by decide) (rm9_0 l Z a0 hw [] p0 cs h0 n0 F0 SC hcs) e52 E0 d8_6 [] [(.int (1 : Int32))] rfl rfl pd__28_29B rfl rfl (by decide) (Nat.le_of_ble_eq_true rfl) (by decide) (by decide) rfl (fun T53 w53 L53 X53 hQ53 => ?_)
  obtain ⟨rfl, NL53, e53⟩ := hQ53
  have N53 := Fr.app N0 NL53
  show W.Go p e below _ (T53.setTop (mkF m 9 #[.val (.ref p0)] [(.int (0 : Int32)), (.int (1 : Int32))]))
  refine W.ishr (q := 10) X53 C d8_9 rfl ?_
  rw [show ((1 : Int32) >>> ((0 : Int32) &&& 31)) = (1 : Int32) by decide]
  exact W.retI X53 C e53 d8_10 (by decide) (by decide) ⟨rfl, N53, rfl⟩
def Q8_1_1 (Z : State) (p0 b : Addr) (kb : ClassId) (vs : List Value) (cs : Int32) (h0 : Heap) (n0 : Nat) (v : Option Value) (h : Heap) (L : List Loc) : Prop := v = some (.int (1 : Int32)) ∧ Fr n0 L ∧ h = h0
theorem rm8_1_1 (l : Launch) (Z : State) (a0 : Array Value) (hw : own_HW a0 Z) (ws : List Jvm.Cond) (p0 b : Addr) (kb : ClassId) (vs : List Value) (cs : Int32) (h0 : Heap) (n0 : Nat) (E0 : Exa Z h0 p0 "java/lang/String") (F0 : Fld Z h0 p0 "java/lang/String" "coder" "B" (.int (1 : Int32))) (F1 : Fld Z h0 p0 "java/lang/String" "value" "[B" (.ref b)) (V0 : Arv Z h0 b kb .byte (2 : Int32) vs (.int (0 : Int32))) (SC : Sta Z h0 "java/lang/String" "COMPACT_STRINGS" "Z" (.int cs)) (hcs : cs ≠ 0) : own_M l y8 jdk_42_method_54_code 1 (some .int) ws r_1_0_0_14 #[(.ref p0)] Z h0 (Q8_1_1 Z p0 b kb vs cs h0 n0) := by
  refine W.bodyOf (Ls := #[.val (.ref p0)]) (plainFor_of_name pn_java_lang_String) (fun m => by first | exact W.entry_of rfl) ?_
  intro p e s m below meth c T0 C X0 e0
  have N0 := Fr.nil n0
  refine W.aloadN (q := 1) X0 C d8_0 rfl rfl rfl ?_
  refine W.getF (host := "") (q := 4) X0 C (Or.inl (W.ww hw 20 rfl)) Via.refl e0 F1 d8_1 rfl (fun T54 X54 e54 => ?_)
  refine W.arraylength (q := 5) X54 C e54 V0 d8_4 rfl ?_
  refine W.aloadN (q := 6) X54 C d8_5 rfl rfl rfl ?_
  refine W.callV (q := 9) X54 C (W.ww hw 46 rfl) (W.ww hw 47 rfl) (W.nf C (W.ww hw 49 rfl)) (W.ww hw 49 rfl) (W.ww hw 48 rfl) (W.ww hw 3 rfl) (W.ww hw 50 rfl) (by decide) (rm9_1 l Z a0 hw [] p0 cs h0 n0 F0 SC hcs) e54 E0 d8_6 [] [(.int (2 : Int32))] rfl rfl pd__28_29B rfl rfl (by decide) (Nat.le_of_ble_eq_true rfl) (by decide) (by decide) rfl (fun T55 w55 L55 X55 hQ55 => ?_)
  obtain ⟨rfl, NL55, e55⟩ := hQ55
  have N55 := Fr.app N0 NL55
  show W.Go p e below _ (T55.setTop (mkF m 9 #[.val (.ref p0)] [(.int (1 : Int32)), (.int (2 : Int32))]))
  refine W.ishr (q := 10) X55 C d8_9 rfl ?_
  rw [show ((2 : Int32) >>> ((1 : Int32) &&& 31)) = (1 : Int32) by decide]
  exact W.retI X55 C e55 d8_10 (by decide) (by decide) ⟨rfl, N55, rfl⟩
def Q8_2_0 (Z : State) (p0 b : Addr) (kb : ClassId) (vs : List Value) (cs : Int32) (h0 : Heap) (n0 : Nat) (v : Option Value) (h : Heap) (L : List Loc) : Prop := v = some (.int (2 : Int32)) ∧ Fr n0 L ∧ h = h0
theorem rm8_2_0 (l : Launch) (Z : State) (a0 : Array Value) (hw : own_HW a0 Z) (ws : List Jvm.Cond) (p0 b : Addr) (kb : ClassId) (vs : List Value) (cs : Int32) (h0 : Heap) (n0 : Nat) (E0 : Exa Z h0 p0 "java/lang/String") (F0 : Fld Z h0 p0 "java/lang/String" "coder" "B" (.int (0 : Int32))) (F1 : Fld Z h0 p0 "java/lang/String" "value" "[B" (.ref b)) (V0 : Arv Z h0 b kb .byte (2 : Int32) vs (.int (0 : Int32))) (SC : Sta Z h0 "java/lang/String" "COMPACT_STRINGS" "Z" (.int cs)) (hcs : cs ≠ 0) : own_M l y8 jdk_42_method_54_code 1 (some .int) ws r_1_0_0_14 #[(.ref p0)] Z h0 (Q8_2_0 Z p0 b kb vs cs h0 n0) := by
  refine W.bodyOf (Ls := #[.val (.ref p0)]) (plainFor_of_name pn_java_lang_String) (fun m => by first | exact W.entry_of rfl) ?_
  intro p e s m below meth c T0 C X0 e0
  have N0 := Fr.nil n0
  refine W.aloadN (q := 1) X0 C d8_0 rfl rfl rfl ?_
  refine W.getF (host := "") (q := 4) X0 C (Or.inl (W.ww hw 20 rfl)) Via.refl e0 F1 d8_1 rfl (fun T56 X56 e56 => ?_)
  refine W.arraylength (q := 5) X56 C e56 V0 d8_4 rfl ?_
  refine W.aloadN (q := 6) X56 C d8_5 rfl rfl rfl ?_
  refine W.callV (q := 9) X56 C (W.ww hw 46 rfl) (W.ww hw 47 rfl) (W.nf C (W.ww hw 49 rfl)) (W.ww hw 49 rfl) (W.ww hw 48 rfl) (W.ww hw 3 rfl) (W.ww hw 50 rfl) (by decide) (rm9_0 l Z a0 hw [] p0 cs h0 n0 F0 SC hcs) e56 E0 d8_6 [] [(.int (2 : Int32))] rfl rfl pd__28_29B rfl rfl (by decide) (Nat.le_of_ble_eq_true rfl) (by decide) (by decide) rfl (fun T57 w57 L57 X57 hQ57 => ?_)
  obtain ⟨rfl, NL57, e57⟩ := hQ57
  have N57 := Fr.app N0 NL57
  show W.Go p e below _ (T57.setTop (mkF m 9 #[.val (.ref p0)] [(.int (0 : Int32)), (.int (2 : Int32))]))
  refine W.ishr (q := 10) X57 C d8_9 rfl ?_
  rw [show ((2 : Int32) >>> ((0 : Int32) &&& 31)) = (2 : Int32) by decide]
  exact W.retI X57 C e57 d8_10 (by decide) (by decide) ⟨rfl, N57, rfl⟩
def Q8_2_1 (Z : State) (p0 b : Addr) (kb : ClassId) (vs : List Value) (cs : Int32) (h0 : Heap) (n0 : Nat) (v : Option Value) (h : Heap) (L : List Loc) : Prop := v = some (.int (2 : Int32)) ∧ Fr n0 L ∧ h = h0
theorem rm8_2_1 (l : Launch) (Z : State) (a0 : Array Value) (hw : own_HW a0 Z) (ws : List Jvm.Cond) (p0 b : Addr) (kb : ClassId) (vs : List Value) (cs : Int32) (h0 : Heap) (n0 : Nat) (E0 : Exa Z h0 p0 "java/lang/String") (F0 : Fld Z h0 p0 "java/lang/String" "coder" "B" (.int (1 : Int32))) (F1 : Fld Z h0 p0 "java/lang/String" "value" "[B" (.ref b)) (V0 : Arv Z h0 b kb .byte (4 : Int32) vs (.int (0 : Int32))) (SC : Sta Z h0 "java/lang/String" "COMPACT_STRINGS" "Z" (.int cs)) (hcs : cs ≠ 0) : own_M l y8 jdk_42_method_54_code 1 (some .int) ws r_1_0_0_14 #[(.ref p0)] Z h0 (Q8_2_1 Z p0 b kb vs cs h0 n0) := by
  refine W.bodyOf (Ls := #[.val (.ref p0)]) (plainFor_of_name pn_java_lang_String) (fun m => by first | exact W.entry_of rfl) ?_
  intro p e s m below meth c T0 C X0 e0
  have N0 := Fr.nil n0
  refine W.aloadN (q := 1) X0 C d8_0 rfl rfl rfl ?_
  refine W.getF (host := "") (q := 4) X0 C (Or.inl (W.ww hw 20 rfl)) Via.refl e0 F1 d8_1 rfl (fun T58 X58 e58 => ?_)
  refine W.arraylength (q := 5) X58 C e58 V0 d8_4 rfl ?_
  refine W.aloadN (q := 6) X58 C d8_5 rfl rfl rfl ?_
  refine W.callV (q := 9) X58 C (W.ww hw 46 rfl) (W.ww hw 47 rfl) (W.nf C (W.ww hw 49 rfl)) (W.ww hw 49 rfl) (W.ww hw 48 rfl) (W.ww hw 3 rfl) (W.ww hw 50 rfl) (by decide) (rm9_1 l Z a0 hw [] p0 cs h0 n0 F0 SC hcs) e58 E0 d8_6 [] [(.int (4 : Int32))] rfl rfl pd__28_29B rfl rfl (by decide) (Nat.le_of_ble_eq_true rfl) (by decide) (by decide) rfl (fun T59 w59 L59 X59 hQ59 => ?_)
  obtain ⟨rfl, NL59, e59⟩ := hQ59
  have N59 := Fr.app N0 NL59
  show W.Go p e below _ (T59.setTop (mkF m 9 #[.val (.ref p0)] [(.int (1 : Int32)), (.int (4 : Int32))]))
  refine W.ishr (q := 10) X59 C d8_9 rfl ?_
  rw [show ((4 : Int32) >>> ((1 : Int32) &&& 31)) = (2 : Int32) by decide]
  exact W.retI X59 C e59 d8_10 (by decide) (by decide) ⟨rfl, N59, rfl⟩
def Q8_3_0 (Z : State) (p0 b : Addr) (kb : ClassId) (vs : List Value) (cs : Int32) (h0 : Heap) (n0 : Nat) (v : Option Value) (h : Heap) (L : List Loc) : Prop := v = some (.int (3 : Int32)) ∧ Fr n0 L ∧ h = h0
theorem rm8_3_0 (l : Launch) (Z : State) (a0 : Array Value) (hw : own_HW a0 Z) (ws : List Jvm.Cond) (p0 b : Addr) (kb : ClassId) (vs : List Value) (cs : Int32) (h0 : Heap) (n0 : Nat) (E0 : Exa Z h0 p0 "java/lang/String") (F0 : Fld Z h0 p0 "java/lang/String" "coder" "B" (.int (0 : Int32))) (F1 : Fld Z h0 p0 "java/lang/String" "value" "[B" (.ref b)) (V0 : Arv Z h0 b kb .byte (3 : Int32) vs (.int (0 : Int32))) (SC : Sta Z h0 "java/lang/String" "COMPACT_STRINGS" "Z" (.int cs)) (hcs : cs ≠ 0) : own_M l y8 jdk_42_method_54_code 1 (some .int) ws r_1_0_0_14 #[(.ref p0)] Z h0 (Q8_3_0 Z p0 b kb vs cs h0 n0) := by
  refine W.bodyOf (Ls := #[.val (.ref p0)]) (plainFor_of_name pn_java_lang_String) (fun m => by first | exact W.entry_of rfl) ?_
  intro p e s m below meth c T0 C X0 e0
  have N0 := Fr.nil n0
  refine W.aloadN (q := 1) X0 C d8_0 rfl rfl rfl ?_
  refine W.getF (host := "") (q := 4) X0 C (Or.inl (W.ww hw 20 rfl)) Via.refl e0 F1 d8_1 rfl (fun T60 X60 e60 => ?_)
  refine W.arraylength (q := 5) X60 C e60 V0 d8_4 rfl ?_
  refine W.aloadN (q := 6) X60 C d8_5 rfl rfl rfl ?_
  refine W.callV (q := 9) X60 C (W.ww hw 46 rfl) (W.ww hw 47 rfl) (W.nf C (W.ww hw 49 rfl)) (W.ww hw 49 rfl) (W.ww hw 48 rfl) (W.ww hw 3 rfl) (W.ww hw 50 rfl) (by decide) (rm9_0 l Z a0 hw [] p0 cs h0 n0 F0 SC hcs) e60 E0 d8_6 [] [(.int (3 : Int32))] rfl rfl pd__28_29B rfl rfl (by decide) (Nat.le_of_ble_eq_true rfl) (by decide) (by decide) rfl (fun T61 w61 L61 X61 hQ61 => ?_)
  obtain ⟨rfl, NL61, e61⟩ := hQ61
  have N61 := Fr.app N0 NL61
  show W.Go p e below _ (T61.setTop (mkF m 9 #[.val (.ref p0)] [(.int (0 : Int32)), (.int (3 : Int32))]))
  refine W.ishr (q := 10) X61 C d8_9 rfl ?_
  rw [show ((3 : Int32) >>> ((0 : Int32) &&& 31)) = (3 : Int32) by decide]
  exact W.retI X61 C e61 d8_10 (by decide) (by decide) ⟨rfl, N61, rfl⟩
def Q8_3_1 (Z : State) (p0 b : Addr) (kb : ClassId) (vs : List Value) (cs : Int32) (h0 : Heap) (n0 : Nat) (v : Option Value) (h : Heap) (L : List Loc) : Prop := v = some (.int (3 : Int32)) ∧ Fr n0 L ∧ h = h0
theorem rm8_3_1 (l : Launch) (Z : State) (a0 : Array Value) (hw : own_HW a0 Z) (ws : List Jvm.Cond) (p0 b : Addr) (kb : ClassId) (vs : List Value) (cs : Int32) (h0 : Heap) (n0 : Nat) (E0 : Exa Z h0 p0 "java/lang/String") (F0 : Fld Z h0 p0 "java/lang/String" "coder" "B" (.int (1 : Int32))) (F1 : Fld Z h0 p0 "java/lang/String" "value" "[B" (.ref b)) (V0 : Arv Z h0 b kb .byte (6 : Int32) vs (.int (0 : Int32))) (SC : Sta Z h0 "java/lang/String" "COMPACT_STRINGS" "Z" (.int cs)) (hcs : cs ≠ 0) : own_M l y8 jdk_42_method_54_code 1 (some .int) ws r_1_0_0_14 #[(.ref p0)] Z h0 (Q8_3_1 Z p0 b kb vs cs h0 n0) := by
  refine W.bodyOf (Ls := #[.val (.ref p0)]) (plainFor_of_name pn_java_lang_String) (fun m => by first | exact W.entry_of rfl) ?_
  intro p e s m below meth c T0 C X0 e0
  have N0 := Fr.nil n0
  refine W.aloadN (q := 1) X0 C d8_0 rfl rfl rfl ?_
  refine W.getF (host := "") (q := 4) X0 C (Or.inl (W.ww hw 20 rfl)) Via.refl e0 F1 d8_1 rfl (fun T62 X62 e62 => ?_)
  refine W.arraylength (q := 5) X62 C e62 V0 d8_4 rfl ?_
  refine W.aloadN (q := 6) X62 C d8_5 rfl rfl rfl ?_
  refine W.callV (q := 9) X62 C (W.ww hw 46 rfl) (W.ww hw 47 rfl) (W.nf C (W.ww hw 49 rfl)) (W.ww hw 49 rfl) (W.ww hw 48 rfl) (W.ww hw 3 rfl) (W.ww hw 50 rfl) (by decide) (rm9_1 l Z a0 hw [] p0 cs h0 n0 F0 SC hcs) e62 E0 d8_6 [] [(.int (6 : Int32))] rfl rfl pd__28_29B rfl rfl (by decide) (Nat.le_of_ble_eq_true rfl) (by decide) (by decide) rfl (fun T63 w63 L63 X63 hQ63 => ?_)
  obtain ⟨rfl, NL63, e63⟩ := hQ63
  have N63 := Fr.app N0 NL63
  show W.Go p e below _ (T63.setTop (mkF m 9 #[.val (.ref p0)] [(.int (1 : Int32)), (.int (6 : Int32))]))
  refine W.ishr (q := 10) X63 C d8_9 rfl ?_
  rw [show ((6 : Int32) >>> ((1 : Int32) &&& 31)) = (3 : Int32) by decide]
  exact W.retI X63 C e63 d8_10 (by decide) (by decide) ⟨rfl, N63, rfl⟩
def Q8_4_0 (Z : State) (p0 b : Addr) (kb : ClassId) (vs : List Value) (cs : Int32) (h0 : Heap) (n0 : Nat) (v : Option Value) (h : Heap) (L : List Loc) : Prop := v = some (.int (4 : Int32)) ∧ Fr n0 L ∧ h = h0
theorem rm8_4_0 (l : Launch) (Z : State) (a0 : Array Value) (hw : own_HW a0 Z) (ws : List Jvm.Cond) (p0 b : Addr) (kb : ClassId) (vs : List Value) (cs : Int32) (h0 : Heap) (n0 : Nat) (E0 : Exa Z h0 p0 "java/lang/String") (F0 : Fld Z h0 p0 "java/lang/String" "coder" "B" (.int (0 : Int32))) (F1 : Fld Z h0 p0 "java/lang/String" "value" "[B" (.ref b)) (V0 : Arv Z h0 b kb .byte (4 : Int32) vs (.int (0 : Int32))) (SC : Sta Z h0 "java/lang/String" "COMPACT_STRINGS" "Z" (.int cs)) (hcs : cs ≠ 0) : own_M l y8 jdk_42_method_54_code 1 (some .int) ws r_1_0_0_14 #[(.ref p0)] Z h0 (Q8_4_0 Z p0 b kb vs cs h0 n0) := by
  refine W.bodyOf (Ls := #[.val (.ref p0)]) (plainFor_of_name pn_java_lang_String) (fun m => by first | exact W.entry_of rfl) ?_
  intro p e s m below meth c T0 C X0 e0
  have N0 := Fr.nil n0
  refine W.aloadN (q := 1) X0 C d8_0 rfl rfl rfl ?_
  refine W.getF (host := "") (q := 4) X0 C (Or.inl (W.ww hw 20 rfl)) Via.refl e0 F1 d8_1 rfl (fun T64 X64 e64 => ?_)
  refine W.arraylength (q := 5) X64 C e64 V0 d8_4 rfl ?_
  refine W.aloadN (q := 6) X64 C d8_5 rfl rfl rfl ?_
  refine W.callV (q := 9) X64 C (W.ww hw 46 rfl) (W.ww hw 47 rfl) (W.nf C (W.ww hw 49 rfl)) (W.ww hw 49 rfl) (W.ww hw 48 rfl) (W.ww hw 3 rfl) (W.ww hw 50 rfl) (by decide) (rm9_0 l Z a0 hw [] p0 cs h0 n0 F0 SC hcs) e64 E0 d8_6 [] [(.int (4 : Int32))] rfl rfl pd__28_29B rfl rfl (by decide) (Nat.le_of_ble_eq_true rfl) (by decide) (by decide) rfl (fun T65 w65 L65 X65 hQ65 => ?_)
  obtain ⟨rfl, NL65, e65⟩ := hQ65
  have N65 := Fr.app N0 NL65
  show W.Go p e below _ (T65.setTop (mkF m 9 #[.val (.ref p0)] [(.int (0 : Int32)), (.int (4 : Int32))]))
  refine W.ishr (q := 10) X65 C d8_9 rfl ?_
  rw [show ((4 : Int32) >>> ((0 : Int32) &&& 31)) = (4 : Int32) by decide]
  exact W.retI X65 C e65 d8_10 (by decide) (by decide) ⟨rfl, N65, rfl⟩
def Q8_4_1 (Z : State) (p0 b : Addr) (kb : ClassId) (vs : List Value) (cs : Int32) (h0 : Heap) (n0 : Nat) (v : Option Value) (h : Heap) (L : List Loc) : Prop := v = some (.int (4 : Int32)) ∧ Fr n0 L ∧ h = h0
theorem rm8_4_1 (l : Launch) (Z : State) (a0 : Array Value) (hw : own_HW a0 Z) (ws : List Jvm.Cond) (p0 b : Addr) (kb : ClassId) (vs : List Value) (cs : Int32) (h0 : Heap) (n0 : Nat) (E0 : Exa Z h0 p0 "java/lang/String") (F0 : Fld Z h0 p0 "java/lang/String" "coder" "B" (.int (1 : Int32))) (F1 : Fld Z h0 p0 "java/lang/String" "value" "[B" (.ref b)) (V0 : Arv Z h0 b kb .byte (8 : Int32) vs (.int (0 : Int32))) (SC : Sta Z h0 "java/lang/String" "COMPACT_STRINGS" "Z" (.int cs)) (hcs : cs ≠ 0) : own_M l y8 jdk_42_method_54_code 1 (some .int) ws r_1_0_0_14 #[(.ref p0)] Z h0 (Q8_4_1 Z p0 b kb vs cs h0 n0) := by
  refine W.bodyOf (Ls := #[.val (.ref p0)]) (plainFor_of_name pn_java_lang_String) (fun m => by first | exact W.entry_of rfl) ?_
  intro p e s m below meth c T0 C X0 e0
  have N0 := Fr.nil n0
  refine W.aloadN (q := 1) X0 C d8_0 rfl rfl rfl ?_
  refine W.getF (host := "") (q := 4) X0 C (Or.inl (W.ww hw 20 rfl)) Via.refl e0 F1 d8_1 rfl (fun T66 X66 e66 => ?_)
  refine W.arraylength (q := 5) X66 C e66 V0 d8_4 rfl ?_
  refine W.aloadN (q := 6) X66 C d8_5 rfl rfl rfl ?_
  refine W.callV (q := 9) X66 C (W.ww hw 46 rfl) (W.ww hw 47 rfl) (W.nf C (W.ww hw 49 rfl)) (W.ww hw 49 rfl) (W.ww hw 48 rfl) (W.ww hw 3 rfl) (W.ww hw 50 rfl) (by decide) (rm9_1 l Z a0 hw [] p0 cs h0 n0 F0 SC hcs) e66 E0 d8_6 [] [(.int (8 : Int32))] rfl rfl pd__28_29B rfl rfl (by decide) (Nat.le_of_ble_eq_true rfl) (by decide) (by decide) rfl (fun T67 w67 L67 X67 hQ67 => ?_)
  obtain ⟨rfl, NL67, e67⟩ := hQ67
  have N67 := Fr.app N0 NL67
  show W.Go p e below _ (T67.setTop (mkF m 9 #[.val (.ref p0)] [(.int (1 : Int32)), (.int (8 : Int32))]))
  refine W.ishr (q := 10) X67 C d8_9 rfl ?_
  rw [show ((8 : Int32) >>> ((1 : Int32) &&& 31)) = (4 : Int32) by decide]
  exact W.retI X67 C e67 d8_10 (by decide) (by decide) ⟨rfl, N67, rfl⟩
theorem d26_0 : decode jdk_52_method_6_code 0 = .ok (.aload_n 0, 1) := by decide +kernel
theorem d26_1 : decode jdk_52_method_6_code 1 = .ok (.arraylength, 1) := by decide +kernel
theorem d26_2 : decode jdk_52_method_6_code 2 = .ok (.iconst 1, 1) := by decide +kernel
theorem d26_3 : decode jdk_52_method_6_code 3 = .ok (.ishr, 1) := by decide +kernel
theorem d26_4 : decode jdk_52_method_6_code 4 = .ok (.ireturn, 1) := by decide +kernel
theorem pn_java_lang_StringUTF16 : plainName "java/lang/StringUTF16" = true := by first | (simp [plainName, overriddenIn]; done) | decide +kernel
abbrev y26 : MethodName := ⟨"java/lang/StringUTF16", "length", "([B)I"⟩
def Q26 (Z : State) (p0 : Addr) (kb : ClassId) (vs : List Value) (N : Int32) (h0 : Heap) (n0 : Nat) (v : Option Value) (h : Heap) (L : List Loc) : Prop := v = some (.int (N >>> ((1 : Int32) &&& 31))) ∧ Fr n0 L ∧ h = h0
theorem rm26 (l : Launch) (Z : State) (a0 : Array Value) (hw : own_HW a0 Z) (ws : List Jvm.Cond) (p0 : Addr) (kb : ClassId) (vs : List Value) (N : Int32) (h0 : Heap) (n0 : Nat) (V0 : Arv Z h0 p0 kb .byte N vs (.int (0 : Int32))) : own_M l y26 jdk_52_method_6_code 1 (some .int) ws r_0_0_0_0 #[(.ref p0)] Z h0 (Q26 Z p0 kb vs N h0 n0) := by
  refine W.bodyOf (Ls := #[.val (.ref p0)]) (plainFor_of_name pn_java_lang_StringUTF16) (fun m => by first | exact W.entry_of rfl) ?_
  intro p e s m below meth c T0 C X0 e0
  have N0 := Fr.nil n0
  refine W.aloadN (q := 1) X0 C d26_0 rfl rfl rfl ?_
  refine W.arraylength (q := 2) X0 C e0 V0 d26_1 rfl ?_
  refine W.iconst (q := 3) (v := 1) X0 C d26_2 rfl rfl ?_
  refine W.ishr (q := 4) X0 C d26_3 rfl ?_
  exact W.retI X0 C e0 d26_4 (by decide) (by decide) ⟨rfl, N0, rfl⟩
theorem d28_0 : decode jdk_41_method_12_code 0 = .ok (.iload_n 0, 1) := by decide +kernel
theorem d28_1 : decode jdk_41_method_12_code 1 = .ok (.ifCond .lt 13, 3) := by decide +kernel
theorem d28_4 : decode jdk_41_method_12_code 4 = .ok (.iload_n 0, 1) := by decide +kernel
theorem d28_5 : decode jdk_41_method_12_code 5 = .ok (.iload_n 1, 1) := by decide +kernel
theorem d28_6 : decode jdk_41_method_12_code 6 = .ok (.if_icmp .gt 8, 3) := by decide +kernel
theorem d28_9 : decode jdk_41_method_12_code 9 = .ok (.iload_n 1, 1) := by decide +kernel
theorem d28_10 : decode jdk_41_method_12_code 10 = .ok (.iload_n 2, 1) := by decide +kernel
theorem d28_11 : decode jdk_41_method_12_code 11 = .ok (.if_icmp .le 11, 3) := by decide +kernel
theorem d28_22 : decode jdk_41_method_12_code 22 = .ok (.iload_n 0, 1) := by decide +kernel
theorem d28_23 : decode jdk_41_method_12_code 23 = .ok (.ireturn, 1) := by decide +kernel
theorem pn_jdk_internal_util_Preconditions : plainName "jdk/internal/util/Preconditions" = true := by first | (simp [plainName, overriddenIn]; done) | decide +kernel
abbrev y28 : MethodName := ⟨"jdk/internal/util/Preconditions", "checkFromToIndex", "(IIILjava/util/function/BiFunction;)I"⟩
def Q28 (Z : State) (p0 p1 p2 : Int32) (fv : Value) (h0 : Heap) (n0 : Nat) (v : Option Value) (h : Heap) (L : List Loc) : Prop := v = some (.int p0) ∧ Fr n0 L ∧ h = h0
theorem rm28 (l : Launch) (Z : State) (a0 : Array Value) (hw : own_HW a0 Z) (ws : List Jvm.Cond) (p0 p1 p2 : Int32) (fv : Value) (h0 : Heap) (n0 : Nat) (h1 : 0 ≤ p0.toInt) (h2 : p0.toInt ≤ p1.toInt) (h3 : p1.toInt ≤ p2.toInt) (hfv : fv.isRef = true) : own_M l y28 jdk_41_method_12_code 4 (some .int) ws r_0_0_0_0 #[(.int p0), (.int p1), (.int p2), fv] Z h0 (Q28 Z p0 p1 p2 fv h0 n0) := by
  refine W.bodyOf (Ls := #[.val (.int p0), .val (.int p1), .val (.int p2), .val fv]) (plainFor_of_name pn_jdk_internal_util_Preconditions) (fun m => by first | exact W.entry_of rfl | exact W.entry_of (by simp [W.fillL, (show ((.int p0) : Value).category = 1 from rfl), (show ((.int p1) : Value).category = 1 from rfl), (show ((.int p2) : Value).category = 1 from rfl), (W.catRef hfv)])) ?_
  intro p e s m below meth c T0 C X0 e0
  have N0 := Fr.nil n0
  refine W.iloadN (q := 1) X0 C d28_0 rfl rfl ?_
  refine W.ifF (q := 4) X0 C d28_1 rfl (show (0 : Int32).toInt ≤ p0.toInt from h1) ?_
  refine W.iloadN (q := 5) X0 C d28_4 rfl rfl ?_
  refine W.iloadN (q := 6) X0 C d28_5 rfl rfl ?_
  refine W.icmpF (q := 9) X0 C d28_6 rfl h2 ?_
  refine W.iloadN (q := 10) X0 C d28_9 rfl rfl ?_
  refine W.iloadN (q := 11) X0 C d28_10 rfl rfl ?_
  refine W.icmpT (q := 22) X0 C d28_11 (by decide) (by decide) h3 ?_
  refine W.iloadN (q := 23) X0 C d28_22 rfl rfl ?_
  exact W.retI X0 C e0 d28_23 (by decide) (by decide) ⟨rfl, N0, rfl⟩
theorem d27_0 : decode jdk_42_method_158_code 0 = .ok (.iload_n 0, 1) := by decide +kernel
theorem d27_1 : decode jdk_42_method_158_code 1 = .ok (.iload_n 1, 1) := by decide +kernel
theorem d27_2 : decode jdk_42_method_158_code 2 = .ok (.iload_n 2, 1) := by decide +kernel
theorem d27_3 : decode jdk_42_method_158_code 3 = .ok (.getstatic 1053, 3) := by decide +kernel
theorem d27_6 : decode jdk_42_method_158_code 6 = .ok (.invokestatic 1062, 3) := by decide +kernel
theorem pd__28IIILjava_2futil_2ffunction_2fBiFunction_3b_29I : parseMethodDescriptor "(IIILjava/util/function/BiFunction;)I" = some ⟨[.int, .int, .int, (.object "java/util/function/BiFunction")], some .int⟩ := by decide +kernel
theorem d27_9 : decode jdk_42_method_158_code 9 = .ok (.pop, 1) := by decide +kernel
theorem d27_10 : decode jdk_42_method_158_code 10 = .ok (.return_, 1) := by decide +kernel
abbrev y27 : MethodName := ⟨"java/lang/String", "checkBoundsBeginEnd", "(III)V"⟩
abbrev r_1_0_0_16 : Room := { frames := 1, cells := 0, slots := 0, locals := 16 }
def Q27 (Z : State) (p0 p1 : Int32) (fv : Value) (h0 : Heap) (n0 : Nat) (v : Option Value) (h : Heap) (L : List Loc) : Prop := v = none ∧ Fr n0 L ∧ h = h0
theorem rm27 (l : Launch) (Z : State) (a0 : Array Value) (hw : own_HW a0 Z) (ws : List Jvm.Cond) (p0 p1 : Int32) (fv : Value) (h0 : Heap) (n0 : Nat) (h1 : 0 ≤ p0.toInt) (h2 : p0.toInt ≤ p1.toInt) (SF : Sta Z h0 "jdk/internal/util/Preconditions" "SIOOBE_FORMATTER" "Ljava/util/function/BiFunction;" fv) (hfv : fv.isRef = true) : own_M l y27 jdk_42_method_158_code 3 none ws r_1_0_0_16 #[(.int p0), (.int p1), (.int p1)] Z h0 (Q27 Z p0 p1 fv h0 n0) := by
  refine W.bodyOf (Ls := #[.val (.int p0), .val (.int p1), .val (.int p1)]) (plainFor_of_name pn_java_lang_String) (fun m => by first | exact W.entry_of rfl) ?_
  intro p e s m below meth c T0 C X0 e0
  have N0 := Fr.nil n0
  refine W.iloadN (q := 1) X0 C d27_0 rfl rfl ?_
  refine W.iloadN (q := 2) X0 C d27_1 rfl rfl ?_
  refine W.iloadN (q := 3) X0 C d27_2 rfl rfl ?_
  refine W.getS (q := 6) X0 C (W.ww hw 115 rfl) Via.refl e0 SF d27_3 rfl (fun T68 X68 e68 => ?_)
  refine W.callS (q := 9) X68 C (W.ww hw 117 rfl) (W.ww hw 118 rfl) (W.ww hw 116 rfl) (W.ww hw 119 rfl) (by decide) (rm28 l Z a0 hw [] p0 p1 p1 fv h0 n0 h1 h2 (Int.le_refl _) hfv) e68 d27_6 [(.int p0), (.int p1), (.int p1), fv] [] rfl rfl pd__28IIILjava_2futil_2ffunction_2fBiFunction_3b_29I rfl rfl (by decide) (Nat.le_of_ble_eq_true rfl) (by decide) (by decide) rfl (fun T69 w69 L69 X69 hQ69 => ?_)
  obtain ⟨rfl, NL69, e69⟩ := hQ69
  have N69 := Fr.app N0 NL69
  show W.Go p e below _ (T69.setTop (mkF m 9 #[.val (.int p0), .val (.int p1), .val (.int p1)] [(.int p0)]))
  refine W.pop (q := 10) X69 C d27_9 rfl rfl ?_
  exact W.retV X69 C e69 d27_10 (by decide) (by decide) ⟨rfl, N69, rfl⟩
theorem d25_0 : decode jdk_52_method_93_code 0 = .ok (.iload_n 0, 1) := by decide +kernel
theorem d25_1 : decode jdk_52_method_93_code 1 = .ok (.iload_n 1, 1) := by decide +kernel
theorem d25_2 : decode jdk_52_method_93_code 2 = .ok (.aload_n 2, 1) := by decide +kernel
theorem d25_3 : decode jdk_52_method_93_code 3 = .ok (.invokestatic 48, 3) := by decide +kernel
theorem pd__28_5bB_29I : parseMethodDescriptor "([B)I" = some ⟨[(.array .byte)], some .int⟩ := by decide +kernel
theorem d25_6 : decode jdk_52_method_93_code 6 = .ok (.invokestatic 241, 3) := by decide +kernel
theorem pd__28III_29V : parseMethodDescriptor "(III)V" = some ⟨[.int, .int, .int], none⟩ := by decide +kernel
theorem d25_9 : decode jdk_52_method_93_code 9 = .ok (.return_, 1) := by decide +kernel
abbrev y25 : MethodName := ⟨"java/lang/StringUTF16", "checkBoundsBeginEnd", "(II[B)V"⟩
abbrev r_2_0_0_32 : Room := { frames := 2, cells := 0, slots := 0, locals := 32 }
def Q25 (Z : State) (p0 p1 : Int32) (p2 : Addr) (kb : ClassId) (vs : List Value) (N : Int32) (fv : Value) (h0 : Heap) (n0 : Nat) (v : Option Value) (h : Heap) (L : List Loc) : Prop := v = none ∧ Fr n0 L ∧ h = h0
theorem rm25 (l : Launch) (Z : State) (a0 : Array Value) (hw : own_HW a0 Z) (ws : List Jvm.Cond) (p0 p1 : Int32) (p2 : Addr) (kb : ClassId) (vs : List Value) (N : Int32) (fv : Value) (h0 : Heap) (n0 : Nat) (h1 : 0 ≤ p0.toInt) (h2 : p0.toInt ≤ p1.toInt) (hN : N >>> ((1 : Int32) &&& 31) = p1) (V0 : Arv Z h0 p2 kb .byte N vs (.int (0 : Int32))) (SF : Sta Z h0 "jdk/internal/util/Preconditions" "SIOOBE_FORMATTER" "Ljava/util/function/BiFunction;" fv) (hfv : fv.isRef = true) : own_M l y25 jdk_52_method_93_code 3 none ws r_2_0_0_32 #[(.int p0), (.int p1), (.ref p2)] Z h0 (Q25 Z p0 p1 p2 kb vs N fv h0 n0) := by
  refine W.bodyOf (Ls := #[.val (.int p0), .val (.int p1), .val (.ref p2)]) (plainFor_of_name pn_java_lang_StringUTF16) (fun m => by first | exact W.entry_of rfl) ?_
  intro p e s m below meth c T0 C X0 e0
  have N0 := Fr.nil n0
  refine W.iloadN (q := 1) X0 C d25_0 rfl rfl ?_
  refine W.iloadN (q := 2) X0 C d25_1 rfl rfl ?_
  refine W.aloadN (q := 3) X0 C d25_2 rfl rfl rfl ?_
  refine W.callS (q := 6) X0 C (W.ww hw 109 rfl) (W.ww hw 110 rfl) (W.ww hw 67 rfl) (W.ww hw 111 rfl) (by decide) (rm26 l Z a0 hw [] p2 kb _ N h0 n0 V0) e0 d25_3 [(.ref p2)] [(.int p1), (.int p0)] rfl rfl pd__28_5bB_29I rfl rfl (by decide) (Nat.le_of_ble_eq_true rfl) (by decide) (by decide) rfl (fun T70 w70 L70 X70 hQ70 => ?_)
  obtain ⟨rfl, NL70, e70⟩ := hQ70
  have N70 := Fr.app N0 NL70
  rw [hN]
  show W.Go p e below _ (T70.setTop (mkF m 6 #[.val (.int p0), .val (.int p1), .val (.ref p2)] [(.int p1), (.int p1), (.int p0)]))
  refine W.callS (q := 9) X70 C (W.ww hw 112 rfl) (W.ww hw 113 rfl) (W.ww hw 3 rfl) (W.ww hw 114 rfl) (by decide) (rm27 l Z a0 hw [] p0 p1 fv h0 n0 h1 h2 SF hfv) e70 d25_6 [(.int p0), (.int p1), (.int p1)] [] rfl rfl pd__28III_29V rfl rfl (by decide) (Nat.le_of_ble_eq_true rfl) (by decide) (by decide) rfl (fun T71 w71 L71 X71 hQ71 => ?_)
  obtain ⟨rfl, NL71, e71⟩ := hQ71
  have N71 := Fr.app N70 NL71
  show W.Go p e below _ (T71.setTop (mkF m 9 #[.val (.int p0), .val (.int p1), .val (.ref p2)] []))
  exact W.retV X71 C e71 d25_9 (by decide) (by decide) ⟨rfl, N71, rfl⟩
theorem d22_0 : decode jdk_52_method_5_code 0 = .ok (.getstatic 44, 3) := by decide +kernel
theorem d22_3 : decode jdk_52_method_5_code 3 = .ok (.ifCond .ne 25, 3) := by decide +kernel
theorem d22_28 : decode jdk_52_method_5_code 28 = .ok (.iload_n 1, 1) := by decide +kernel
theorem d22_29 : decode jdk_52_method_5_code 29 = .ok (.iconst 1, 1) := by decide +kernel
theorem d22_30 : decode jdk_52_method_5_code 30 = .ok (.ishl, 1) := by decide +kernel
theorem d22_31 : decode jdk_52_method_5_code 31 = .ok (.istore_n 1, 1) := by decide +kernel
theorem d22_32 : decode jdk_52_method_5_code 32 = .ok (.aload_n 0, 1) := by decide +kernel
theorem d22_33 : decode jdk_52_method_5_code 33 = .ok (.iload_n 1, 1) := by decide +kernel
theorem d22_34 : decode jdk_52_method_5_code 34 = .ok (.iinc 1 1, 3) := by decide +kernel
theorem d22_37 : decode jdk_52_method_5_code 37 = .ok (.baload, 1) := by decide +kernel
theorem d22_38 : decode jdk_52_method_5_code 38 = .ok (.sipush 255, 3) := by decide +kernel
theorem d22_41 : decode jdk_52_method_5_code 41 = .ok (.iand, 1) := by decide +kernel
theorem d22_42 : decode jdk_52_method_5_code 42 = .ok (.getstatic 59, 3) := by decide +kernel
theorem d22_45 : decode jdk_52_method_5_code 45 = .ok (.ishl, 1) := by decide +kernel
theorem d22_46 : decode jdk_52_method_5_code 46 = .ok (.aload_n 0, 1) := by decide +kernel
theorem d22_47 : decode jdk_52_method_5_code 47 = .ok (.iload_n 1, 1) := by decide +kernel
theorem d22_48 : decode jdk_52_method_5_code 48 = .ok (.baload, 1) := by decide +kernel
theorem d22_49 : decode jdk_52_method_5_code 49 = .ok (.sipush 255, 3) := by decide +kernel
theorem d22_52 : decode jdk_52_method_5_code 52 = .ok (.iand, 1) := by decide +kernel
theorem d22_53 : decode jdk_52_method_5_code 53 = .ok (.getstatic 63, 3) := by decide +kernel
theorem d22_56 : decode jdk_52_method_5_code 56 = .ok (.ishl, 1) := by decide +kernel
theorem d22_57 : decode jdk_52_method_5_code 57 = .ok (.ior, 1) := by decide +kernel
theorem d22_58 : decode jdk_52_method_5_code 58 = .ok (.i2c, 1) := by decide +kernel
theorem d22_59 : decode jdk_52_method_5_code 59 = .ok (.ireturn, 1) := by decide +kernel
abbrev y22 : MethodName := ⟨"java/lang/StringUTF16", "getChar", "([BI)C"⟩
def Q22 (Z : State) (p0 : Addr) (kb : ClassId) (vs : List Value) (N i j j1 x : Int32) (h0 : Heap) (n0 : Nat) (v : Option Value) (h : Heap) (L : List Loc) : Prop := v = some (.int x) ∧ Fr n0 L ∧ h = h0
theorem rm22 (l : Launch) (Z : State) (a0 : Array Value) (hw : own_HW a0 Z) (ws : List Jvm.Cond) (p0 : Addr) (kb : ClassId) (vs : List Value) (N i j j1 x : Int32) (h0 : Heap) (n0 : Nat) (V0 : Arv Z h0 p0 kb .byte N vs (.int (0 : Int32))) (hj : i <<< ((1 : Int32) &&& 31) = j) (hj1 : j + (1 : Int32) = j1) (b0 : 0 ≤ j.toInt) (b1 : j.toInt < N.toInt) (b2 : 0 ≤ j1.toInt) (b3 : j1.toInt < N.toInt) (g0 : vs.getD j.toNatClampNeg (.int (0 : Int32)) = .int (own_hb x)) (g1 : vs.getD j1.toNatClampNeg (.int (0 : Int32)) = .int (own_lb x)) (hx : own_r16 x) (SA : Sta Z h0 "java/lang/StringUTF16" "$assertionsDisabled" "Z" (.int (1 : Int32))) (SH : Sta Z h0 "java/lang/StringUTF16" "HI_BYTE_SHIFT" "I" (.int (0 : Int32))) (SL : Sta Z h0 "java/lang/StringUTF16" "LO_BYTE_SHIFT" "I" (.int (8 : Int32))) : own_M l y22 jdk_52_method_5_code 2 (some .char) ws r_0_0_0_0 #[(.ref p0), (.int i)] Z h0 (Q22 Z p0 kb vs N i j j1 x h0 n0) := by
  refine W.bodyOf (Ls := #[.val (.ref p0), .val (.int i)]) (plainFor_of_name pn_java_lang_StringUTF16) (fun m => by first | exact W.entry_of rfl) ?_
  intro p e s m below meth c T0 C X0 e0
  have N0 := Fr.nil n0
  refine W.getS (q := 3) X0 C (W.ww hw 91 rfl) Via.refl e0 SA d22_0 rfl (fun T72 X72 e72 => ?_)
  refine W.ifT (q := 28) X72 C d22_3 (by decide) (by decide) (by decide : W.cT .ne (1 : Int32) 0) ?_
  refine W.iloadN (q := 29) X72 C d22_28 rfl rfl ?_
  refine W.iconst (q := 30) (v := 1) X72 C d22_29 rfl rfl ?_
  refine W.ishl (q := 31) X72 C d22_30 rfl ?_
  rw [hj]
  refine W.istoreN (q := 32) (L' := #[.val (.ref p0), .val (.int j)]) X72 C d22_31 rfl rfl ?_
  refine W.aloadN (q := 33) X72 C d22_32 rfl rfl rfl ?_
  refine W.iloadN (q := 34) X72 C d22_33 rfl rfl ?_
  refine W.iinc (q := 37) (L' := #[.val (.ref p0), .val (.int (j + (1 : Int32)))]) X72 C d22_34 rfl rfl rfl rfl ?_
  rw [hj1]
  refine W.baload (q := 38) X72 C e72 V0 b0 b1 g0 d22_37 rfl ?_
  refine W.sipush (q := 41) (v := 255) X72 C d22_38 rfl rfl ?_
  refine W.iand (q := 42) X72 C d22_41 rfl ?_
  refine W.getS (q := 45) X72 C (W.ww hw 92 rfl) Via.refl e72 SH d22_42 rfl (fun T73 X73 e73 => ?_)
  refine W.ishl (q := 46) X73 C d22_45 rfl ?_
  refine W.aloadN (q := 47) X73 C d22_46 rfl rfl rfl ?_
  refine W.iloadN (q := 48) X73 C d22_47 rfl rfl ?_
  refine W.baload (q := 49) X73 C e73 V0 b2 b3 g1 d22_48 rfl ?_
  refine W.sipush (q := 52) (v := 255) X73 C d22_49 rfl rfl ?_
  refine W.iand (q := 53) X73 C d22_52 rfl ?_
  refine W.getS (q := 56) X73 C (W.ww hw 93 rfl) Via.refl e73 SL d22_53 rfl (fun T74 X74 e74 => ?_)
  refine W.ishl (q := 57) X74 C d22_56 rfl ?_
  refine W.ior (q := 58) X74 C d22_57 rfl ?_
  refine W.i2c (q := 59) X74 C d22_58 rfl ?_
  rw [own_gc hx]
  exact W.retN X74 C (by simp) e74 d22_59 (own_nar hx) (by decide) (by decide) ⟨rfl, N0, rfl⟩
theorem d29_3 : decode jdk_52_method_48_code 3 = .ok (.iload 4, 2) := by decide +kernel
theorem d29_5 : decode jdk_52_method_48_code 5 = .ok (.iload_n 3, 1) := by decide +kernel
theorem d29_6 : decode jdk_52_method_48_code 6 = .ok (.if_icmp .ge 22, 3) := by decide +kernel
theorem d29_28 : decode jdk_52_method_48_code 28 = .ok (.iconst (-1), 1) := by decide +kernel
theorem d29_29 : decode jdk_52_method_48_code 29 = .ok (.ireturn, 1) := by decide +kernel
set_option maxRecDepth 65536 in
set_option maxHeartbeats 40000000 in
theorem own_g_1_1 (l : Launch) (Z : State) (a0 : Array Value) (hw : ∀ d ∈ tables_1, d.before a0 Z = true) (h0 : Heap) (n0 : Nat) (p0 : Addr) (kb : ClassId) (x0 : Int32) (p1 : Int32) (p2 : Int32) {p : Program} {e : Env} {s : State} {m : MethodId} {args : Array Value} {below : List Frame} {meth : Method} {c : Code} {T0 : State} {locs : List Loc}
    (C : W.Cx p s m meth c Z jdk_52_method_48_code 5 "java/lang/StringUTF16" "indexOfCharUnsafe" (some .int)) (X0 : Stand p l e ({ frames := 1, cells := 0, slots := 0, locals := 20 } : Room) s m args below meth c T0 locs 0 0) (e0 : T0.heap = h0) (N0 : Fr n0 locs) (V0 : Arv Z h0 p0 kb .byte (2 : Int32) [(.int (own_hb x0)), (.int (own_lb x0))] (.int (0 : Int32))) (hr0 : own_r16 x0) (SA : Sta Z h0 "java/lang/StringUTF16" "$assertionsDisabled" "Z" (.int (1 : Int32))) (SH : Sta Z h0 "java/lang/StringUTF16" "HI_BYTE_SHIFT" "I" (.int (0 : Int32))) (SL : Sta Z h0 "java/lang/StringUTF16" "LO_BYTE_SHIFT" "I" (.int (8 : Int32))) :
    W.Go p e below (W.Post s (fun v h L => v = some (.int (own_ix [] (1 : Int32))) ∧ Fr n0 L ∧ h = h0) ({ frames := 1, cells := 0, slots := 0, locals := 20 } : Room).cells ({ frames := 1, cells := 0, slots := 0, locals := 20 } : Room).slots) (T0.setTop (mkF m 3 #[.val (.ref p0), .val (.int p1), .val (.int p2), .val (.int (1 : Int32)), .val (.int (1 : Int32))] [])) := by
  refine W.iload (q := 5) X0 C d29_3 rfl rfl ?_
  refine W.iloadN (q := 6) X0 C d29_5 rfl rfl ?_
  refine W.icmpT (q := 28) X0 C d29_6 (by decide) (by decide) (by decide : W.cT .ge (1 : Int32) (1 : Int32)) ?_
  refine W.iconst (q := 29) (v := (-1)) X0 C d29_28 rfl rfl ?_
  exact W.retI X0 C e0 d29_29 (by decide) (by decide) ⟨by rw [own_ix_n] <;> rfl, N0, rfl⟩
theorem d29_9 : decode jdk_52_method_48_code 9 = .ok (.aload_n 0, 1) := by decide +kernel
theorem d29_10 : decode jdk_52_method_48_code 10 = .ok (.iload 4, 2) := by decide +kernel
theorem d29_12 : decode jdk_52_method_48_code 12 = .ok (.invokestatic 71, 3) := by decide +kernel
theorem pd__28_5bBI_29C : parseMethodDescriptor "([BI)C" = some ⟨[(.array .byte), .int], some .char⟩ := by decide +kernel
theorem d29_15 : decode jdk_52_method_48_code 15 = .ok (.iload_n 1, 1) := by decide +kernel
theorem d29_16 : decode jdk_52_method_48_code 16 = .ok (.if_icmp .ne 6, 3) := by decide +kernel
theorem d29_22 : decode jdk_52_method_48_code 22 = .ok (.iinc 4 1, 3) := by decide +kernel
theorem d29_25 : decode jdk_52_method_48_code 25 = .ok (.goto (-22), 3) := by decide +kernel
theorem d29_19 : decode jdk_52_method_48_code 19 = .ok (.iload 4, 2) := by decide +kernel
theorem d29_21 : decode jdk_52_method_48_code 21 = .ok (.ireturn, 1) := by decide +kernel
set_option maxRecDepth 65536 in
set_option maxHeartbeats 40000000 in
theorem own_g_1_0 (l : Launch) (Z : State) (a0 : Array Value) (hw : ∀ d ∈ tables_1, d.before a0 Z = true) (h0 : Heap) (n0 : Nat) (p0 : Addr) (kb : ClassId) (x0 : Int32) (p1 : Int32) (p2 : Int32) {p : Program} {e : Env} {s : State} {m : MethodId} {args : Array Value} {below : List Frame} {meth : Method} {c : Code} {T0 : State} {locs : List Loc}
    (C : W.Cx p s m meth c Z jdk_52_method_48_code 5 "java/lang/StringUTF16" "indexOfCharUnsafe" (some .int)) (X0 : Stand p l e ({ frames := 1, cells := 0, slots := 0, locals := 20 } : Room) s m args below meth c T0 locs 0 0) (e0 : T0.heap = h0) (N0 : Fr n0 locs) (V0 : Arv Z h0 p0 kb .byte (2 : Int32) [(.int (own_hb x0)), (.int (own_lb x0))] (.int (0 : Int32))) (hr0 : own_r16 x0) (SA : Sta Z h0 "java/lang/StringUTF16" "$assertionsDisabled" "Z" (.int (1 : Int32))) (SH : Sta Z h0 "java/lang/StringUTF16" "HI_BYTE_SHIFT" "I" (.int (0 : Int32))) (SL : Sta Z h0 "java/lang/StringUTF16" "LO_BYTE_SHIFT" "I" (.int (8 : Int32))) :
    W.Go p e below (W.Post s (fun v h L => v = some (.int (own_ix [decide (x0 = p1)] (0 : Int32))) ∧ Fr n0 L ∧ h = h0) ({ frames := 1, cells := 0, slots := 0, locals := 20 } : Room).cells ({ frames := 1, cells := 0, slots := 0, locals := 20 } : Room).slots) (T0.setTop (mkF m 3 #[.val (.ref p0), .val (.int p1), .val (.int p2), .val (.int (1 : Int32)), .val (.int (0 : Int32))] [])) := by
  refine W.iload (q := 5) X0 C d29_3 rfl rfl ?_
  refine W.iloadN (q := 6) X0 C d29_5 rfl rfl ?_
  refine W.icmpF (q := 9) X0 C d29_6 rfl (by decide : W.cF .ge (0 : Int32) (1 : Int32)) ?_
  refine W.aloadN (q := 10) X0 C d29_9 rfl rfl rfl ?_
  refine W.iload (q := 12) X0 C d29_10 rfl rfl ?_
  refine W.callS (q := 15) X0 C (W.ww hw 94 rfl) (W.ww hw 95 rfl) (W.ww hw 67 rfl) (W.ww hw 96 rfl) (by decide) (rm22 l Z a0 hw [] p0 kb [(.int (own_hb x0)), (.int (own_lb x0))] (2 : Int32) (0 : Int32) (0 : Int32) (1 : Int32) x0 h0 n0 V0 (by decide) (by decide) (by decide) (by decide) (by decide) (by decide) rfl rfl hr0 SA SH SL) e0 d29_12 [(.ref p0), (.int (0 : Int32))] [] rfl rfl pd__28_5bBI_29C rfl rfl (by decide) (Nat.le_of_ble_eq_true rfl) (by decide) (by decide) rfl (fun T75 w75 L75 X75 hQ75 => ?_)
  obtain ⟨rfl, NL75, e75⟩ := hQ75
  have N75 := Fr.app N0 NL75
  show W.Go p e below _ (T75.setTop (mkF m 15 #[.val (.ref p0), .val (.int p1), .val (.int p2), .val (.int (1 : Int32)), .val (.int (0 : Int32))] [(.int x0)]))
  refine W.iloadN (q := 16) X75 C d29_15 rfl rfl ?_
  refine W.icmp (q := 22) (q' := 19) X75 C d29_16 (by decide) (by decide) rfl (fun hc76 => ?_) (fun hc76 => ?_)
  · replace hc76 : x0 ≠ p1 := hc76
    refine W.iinc (q := 25) (L' := #[.val (.ref p0), .val (.int p1), .val (.int p2), .val (.int (1 : Int32)), .val (.int (1 : Int32))]) X75 C d29_22 rfl (by decide) rfl rfl ?_
    refine W.goto (q := 3) X75 C d29_25 (by decide) (by decide) ?_
    rw [own_ix_f hc76]
    exact own_g_1_1 l Z a0 hw h0 n0 p0 kb x0 p1 p2 C X75 e75 N75 V0 hr0 SA SH SL
  · replace hc76 : x0 = p1 := hc76
    refine W.iload (q := 21) X75 C d29_19 rfl rfl ?_
    exact W.retI X75 C e75 d29_21 (by decide) (by decide) ⟨by rw [own_ix_t hc76] <;> rfl, N75, rfl⟩
theorem d29_0 : decode jdk_52_method_48_code 0 = .ok (.iload_n 2, 1) := by decide +kernel
theorem d29_1 : decode jdk_52_method_48_code 1 = .ok (.istore 4, 2) := by decide +kernel
abbrev y29 : MethodName := ⟨"java/lang/StringUTF16", "indexOfCharUnsafe", "([BIII)I"⟩
def Q29_1 (Z : State) (p0 : Addr) (kb : ClassId) (x0 : Int32) (p1 : Int32) (p2 : Int32) (h0 : Heap) (n0 : Nat) (v : Option Value) (h : Heap) (L : List Loc) : Prop := v = some (.int (own_ix (List.drop p2.toInt.toNat [decide (x0 = p1)]) p2)) ∧ Fr n0 L ∧ h = h0
theorem rm29_1 (l : Launch) (Z : State) (a0 : Array Value) (hw : own_HW a0 Z) (ws : List Jvm.Cond) (p0 : Addr) (kb : ClassId) (x0 : Int32) (p1 : Int32) (p2 : Int32) (h0 : Heap) (n0 : Nat) (V0 : Arv Z h0 p0 kb .byte (2 : Int32) [(.int (own_hb x0)), (.int (own_lb x0))] (.int (0 : Int32))) (hr0 : own_r16 x0) (SA : Sta Z h0 "java/lang/StringUTF16" "$assertionsDisabled" "Z" (.int (1 : Int32))) (SH : Sta Z h0 "java/lang/StringUTF16" "HI_BYTE_SHIFT" "I" (.int (0 : Int32))) (SL : Sta Z h0 "java/lang/StringUTF16" "LO_BYTE_SHIFT" "I" (.int (8 : Int32))) (hf0 : 0 ≤ p2.toInt) (hf1 : p2.toInt ≤ (1 : Nat)) : own_M l y29 jdk_52_method_48_code 5 (some .int) ws r_1_0_0_20 #[(.ref p0), (.int p1), (.int p2), (.int (1 : Int32))] Z h0 (Q29_1 Z p0 kb x0 p1 p2 h0 n0) := by
  refine W.bodyOf (Ls := #[.val (.ref p0), .val (.int p1), .val (.int p2), .val (.int (1 : Int32)), .unset]) (plainFor_of_name pn_java_lang_StringUTF16) (fun m => by first | exact W.entry_of rfl) ?_
  intro p e s m below meth c T0 C X0 e0
  have N0 := Fr.nil n0
  refine W.iloadN (q := 1) X0 C d29_0 rfl rfl ?_
  refine W.istore (q := 3) (L' := #[.val (.ref p0), .val (.int p1), .val (.int p2), .val (.int (1 : Int32)), .val (.int p2)]) X0 C d29_1 rfl rfl ?_
  rcases own_03 hf0 hf1 (by decide) with ⟨rfl, hn⟩ | ⟨rfl, hn⟩ | ⟨rfl, hn⟩ | ⟨rfl, hn⟩ | ⟨rfl, hn⟩
  · exact own_g_1_0 l Z a0 hw h0 n0 p0 kb x0 p1 (0 : Int32) C X0 e0 N0 V0 hr0 SA SH SL
  · exact own_g_1_1 l Z a0 hw h0 n0 p0 kb x0 p1 (1 : Int32) C X0 e0 N0 V0 hr0 SA SH SL
  · exact absurd hn (by decide)
  · exact absurd hn (by decide)
  · exact absurd hn (by decide)
theorem d24_0 : decode jdk_52_method_47_code 0 = .ok (.iload_n 2, 1) := by decide +kernel
theorem d24_1 : decode jdk_52_method_47_code 1 = .ok (.iload_n 3, 1) := by decide +kernel
theorem d24_2 : decode jdk_52_method_47_code 2 = .ok (.aload_n 0, 1) := by decide +kernel
theorem d24_3 : decode jdk_52_method_47_code 3 = .ok (.invokestatic 96, 3) := by decide +kernel
theorem pd__28II_5bB_29V : parseMethodDescriptor "(II[B)V" = some ⟨[.int, .int, (.array .byte)], none⟩ := by decide +kernel
theorem d24_6 : decode jdk_52_method_47_code 6 = .ok (.aload_n 0, 1) := by decide +kernel
theorem d24_7 : decode jdk_52_method_47_code 7 = .ok (.iload_n 1, 1) := by decide +kernel
theorem d24_8 : decode jdk_52_method_47_code 8 = .ok (.iload_n 2, 1) := by decide +kernel
theorem d24_9 : decode jdk_52_method_47_code 9 = .ok (.iload_n 3, 1) := by decide +kernel
theorem d24_10 : decode jdk_52_method_47_code 10 = .ok (.invokestatic 244, 3) := by decide +kernel
theorem d24_13 : decode jdk_52_method_47_code 13 = .ok (.ireturn, 1) := by decide +kernel
abbrev y24 : MethodName := ⟨"java/lang/StringUTF16", "indexOfChar", "([BIII)I"⟩
abbrev r_3_0_0_48 : Room := { frames := 3, cells := 0, slots := 0, locals := 48 }
def Q24_1 (Z : State) (p0 : Addr) (kb : ClassId) (x0 : Int32) (p1 : Int32) (p2 : Int32) (fv : Value) (h0 : Heap) (n0 : Nat) (v : Option Value) (h : Heap) (L : List Loc) : Prop := v = some (.int (own_ix (List.drop p2.toInt.toNat [decide (x0 = p1)]) p2)) ∧ Fr n0 L ∧ h = h0
theorem rm24_1 (l : Launch) (Z : State) (a0 : Array Value) (hw : own_HW a0 Z) (ws : List Jvm.Cond) (p0 : Addr) (kb : ClassId) (x0 : Int32) (p1 : Int32) (p2 : Int32) (fv : Value) (h0 : Heap) (n0 : Nat) (V0 : Arv Z h0 p0 kb .byte (2 : Int32) [(.int (own_hb x0)), (.int (own_lb x0))] (.int (0 : Int32))) (hr0 : own_r16 x0) (SA : Sta Z h0 "java/lang/StringUTF16" "$assertionsDisabled" "Z" (.int (1 : Int32))) (SH : Sta Z h0 "java/lang/StringUTF16" "HI_BYTE_SHIFT" "I" (.int (0 : Int32))) (SL : Sta Z h0 "java/lang/StringUTF16" "LO_BYTE_SHIFT" "I" (.int (8 : Int32))) (SF : Sta Z h0 "jdk/internal/util/Preconditions" "SIOOBE_FORMATTER" "Ljava/util/function/BiFunction;" fv) (hfv : fv.isRef = true) (hf0 : 0 ≤ p2.toInt) (hf1 : p2.toInt ≤ (1 : Nat)) : own_M l y24 jdk_52_method_47_code 4 (some .int) ws r_3_0_0_48 #[(.ref p0), (.int p1), (.int p2), (.int (1 : Int32))] Z h0 (Q24_1 Z p0 kb x0 p1 p2 fv h0 n0) := by
  refine W.bodyOf (Ls := #[.val (.ref p0), .val (.int p1), .val (.int p2), .val (.int (1 : Int32))]) (plainFor_of_name pn_java_lang_StringUTF16) (fun m => by first | exact W.entry_of rfl) ?_
  intro p e s m below meth c T0 C X0 e0
  have N0 := Fr.nil n0
  refine W.iloadN (q := 1) X0 C d24_0 rfl rfl ?_
  refine W.iloadN (q := 2) X0 C d24_1 rfl rfl ?_
  refine W.aloadN (q := 3) X0 C d24_2 rfl rfl rfl ?_
  refine W.callS (q := 6) X0 C (W.ww hw 106 rfl) (W.ww hw 107 rfl) (W.ww hw 67 rfl) (W.ww hw 108 rfl) (by decide) (rm25 l Z a0 hw [] p2 (1 : Int32) p0 kb _ (2 : Int32) fv h0 n0 hf0 hf1 (by decide) V0 SF hfv) e0 d24_3 [(.int p2), (.int (1 : Int32)), (.ref p0)] [] rfl rfl pd__28II_5bB_29V rfl rfl (by decide) (Nat.le_of_ble_eq_true rfl) (by decide) (by decide) rfl (fun T77 w77 L77 X77 hQ77 => ?_)
  obtain ⟨rfl, NL77, e77⟩ := hQ77
  have N77 := Fr.app N0 NL77
  show W.Go p e below _ (T77.setTop (mkF m 6 #[.val (.ref p0), .val (.int p1), .val (.int p2), .val (.int (1 : Int32))] []))
  refine W.aloadN (q := 7) X77 C d24_6 rfl rfl rfl ?_
  refine W.iloadN (q := 8) X77 C d24_7 rfl rfl ?_
  refine W.iloadN (q := 9) X77 C d24_8 rfl rfl ?_
  refine W.iloadN (q := 10) X77 C d24_9 rfl rfl ?_
  refine W.callS (q := 13) X77 C (W.ww hw 120 rfl) (W.ww hw 121 rfl) (W.ww hw 67 rfl) (W.ww hw 122 rfl) (by decide) (rm29_1 l Z a0 hw [] p0 kb x0 p1 p2 h0 n0 V0 hr0 SA SH SL hf0 hf1) e77 d24_10 [(.ref p0), (.int p1), (.int p2), (.int (1 : Int32))] [] rfl rfl pd__28_5bBIII_29I rfl rfl (by decide) (Nat.le_of_ble_eq_true rfl) (by decide) (by decide) rfl (fun T78 w78 L78 X78 hQ78 => ?_)
  obtain ⟨rfl, NL78, e78⟩ := hQ78
  have N78 := Fr.app N77 NL78
  show W.Go p e below _ (T78.setTop (mkF m 13 #[.val (.ref p0), .val (.int p1), .val (.int p2), .val (.int (1 : Int32))] [(.int (own_ix (List.drop p2.toInt.toNat [decide (x0 = p1)]) p2))]))
  exact W.retI X78 C e78 d24_13 (by decide) (by decide) ⟨rfl, N78, rfl⟩
theorem d23_0 : decode jdk_52_method_40_code 0 = .ok (.iload_n 2, 1) := by decide +kernel
theorem d23_1 : decode jdk_52_method_40_code 1 = .ok (.iconst 0, 1) := by decide +kernel
theorem d23_2 : decode jdk_52_method_40_code 2 = .ok (.invokestatic 224, 3) := by decide +kernel
theorem d23_5 : decode jdk_52_method_40_code 5 = .ok (.istore_n 2, 1) := by decide +kernel
theorem d23_6 : decode jdk_52_method_40_code 6 = .ok (.iload_n 3, 1) := by decide +kernel
theorem d23_7 : decode jdk_52_method_40_code 7 = .ok (.aload_n 0, 1) := by decide +kernel
theorem d23_8 : decode jdk_52_method_40_code 8 = .ok (.arraylength, 1) := by decide +kernel
theorem d23_9 : decode jdk_52_method_40_code 9 = .ok (.iconst 1, 1) := by decide +kernel
theorem d23_10 : decode jdk_52_method_40_code 10 = .ok (.ishr, 1) := by decide +kernel
theorem d23_11 : decode jdk_52_method_40_code 11 = .ok (.invokestatic 183, 3) := by decide +kernel
theorem d23_14 : decode jdk_52_method_40_code 14 = .ok (.istore_n 3, 1) := by decide +kernel
theorem d23_15 : decode jdk_52_method_40_code 15 = .ok (.iload_n 2, 1) := by decide +kernel
theorem d23_16 : decode jdk_52_method_40_code 16 = .ok (.iload_n 3, 1) := by decide +kernel
theorem d23_17 : decode jdk_52_method_40_code 17 = .ok (.if_icmp .lt 5, 3) := by decide +kernel
theorem d23_22 : decode jdk_52_method_40_code 22 = .ok (.iload_n 1, 1) := by decide +kernel
theorem d23_23 : decode jdk_52_method_40_code 23 = .ok (.ldc 227, 2) := by decide +kernel
theorem d23_25 : decode jdk_52_method_40_code 25 = .ok (.if_icmp .ge 11, 3) := by decide +kernel
theorem d23_28 : decode jdk_52_method_40_code 28 = .ok (.aload_n 0, 1) := by decide +kernel
theorem d23_29 : decode jdk_52_method_40_code 29 = .ok (.iload_n 1, 1) := by decide +kernel
theorem d23_30 : decode jdk_52_method_40_code 30 = .ok (.iload_n 2, 1) := by decide +kernel
theorem d23_31 : decode jdk_52_method_40_code 31 = .ok (.iload_n 3, 1) := by decide +kernel
theorem d23_32 : decode jdk_52_method_40_code 32 = .ok (.invokestatic 228, 3) := by decide +kernel
theorem d23_35 : decode jdk_52_method_40_code 35 = .ok (.ireturn, 1) := by decide +kernel
theorem d23_20 : decode jdk_52_method_40_code 20 = .ok (.iconst (-1), 1) := by decide +kernel
theorem d23_21 : decode jdk_52_method_40_code 21 = .ok (.ireturn, 1) := by decide +kernel
abbrev y23 : MethodName := ⟨"java/lang/StringUTF16", "indexOf", "([BIII)I"⟩
abbrev r_4_0_0_64 : Room := { frames := 4, cells := 0, slots := 0, locals := 64 }
def Q23_1 (Z : State) (p0 : Addr) (kb : ClassId) (x0 : Int32) (p1 : Int32) (p2 : Int32) (fv : Value) (h0 : Heap) (n0 : Nat) (v : Option Value) (h : Heap) (L : List Loc) : Prop := v = some (.int (own_ix (List.drop p2.toInt.toNat [decide (x0 = p1)]) p2)) ∧ Fr n0 L ∧ h = h0
theorem rm23_1 (l : Launch) (Z : State) (a0 : Array Value) (hw : own_HW a0 Z) (ws : List Jvm.Cond) (p0 : Addr) (kb : ClassId) (x0 : Int32) (p1 : Int32) (p2 : Int32) (fv : Value) (h0 : Heap) (n0 : Nat) (V0 : Arv Z h0 p0 kb .byte (2 : Int32) [(.int (own_hb x0)), (.int (own_lb x0))] (.int (0 : Int32))) (hs16 : own_r16 p1) (hr0 : own_r16 x0) (SA : Sta Z h0 "java/lang/StringUTF16" "$assertionsDisabled" "Z" (.int (1 : Int32))) (SH : Sta Z h0 "java/lang/StringUTF16" "HI_BYTE_SHIFT" "I" (.int (0 : Int32))) (SL : Sta Z h0 "java/lang/StringUTF16" "LO_BYTE_SHIFT" "I" (.int (8 : Int32))) (SF : Sta Z h0 "jdk/internal/util/Preconditions" "SIOOBE_FORMATTER" "Ljava/util/function/BiFunction;" fv) (hfv : fv.isRef = true) (hf0 : 0 ≤ p2.toInt) (hf1 : p2.toInt ≤ (1 : Nat)) : own_M l y23 jdk_52_method_40_code 4 (some .int) ws r_4_0_0_64 #[(.ref p0), (.int p1), (.int p2), (.int (1 : Int32))] Z h0 (Q23_1 Z p0 kb x0 p1 p2 fv h0 n0) := by
  refine W.bodyOf (Ls := #[.val (.ref p0), .val (.int p1), .val (.int p2), .val (.int (1 : Int32))]) (plainFor_of_name pn_java_lang_StringUTF16) (fun m => by first | exact W.entry_of rfl) ?_
  intro p e s m below meth c T0 C X0 e0
  have N0 := Fr.nil n0
  refine W.iloadN (q := 1) X0 C d23_0 rfl rfl ?_
  refine W.iconst (q := 2) (v := 0) X0 C d23_1 rfl rfl ?_
  refine W.callS (q := 5) X0 C (W.ww hw 100 rfl) (W.ww hw 59 rfl) (W.ww hw 60 rfl) (W.ww hw 61 rfl) (by decide) (rm12 l Z a0 hw [] p2 (0 : Int32) h0 n0) e0 d23_2 [(.int p2), (.int (0 : Int32))] [] rfl rfl pd__28II_29I rfl rfl (by decide) (Nat.le_of_ble_eq_true rfl) (by decide) (by decide) rfl (fun T79 w79 L79 X79 hQ79 => ?_)
  obtain ⟨rfl, NL79, e79⟩ := hQ79
  have N79 := Fr.app N0 NL79
  rw [show own_max p2 (0 : Int32) = p2 from if_neg (Int.not_lt.mpr hf0)]
  show W.Go p e below _ (T79.setTop (mkF m 5 #[.val (.ref p0), .val (.int p1), .val (.int p2), .val (.int (1 : Int32))] [(.int p2)]))
  refine W.istoreN (q := 6) (L' := #[.val (.ref p0), .val (.int p1), .val (.int p2), .val (.int (1 : Int32))]) X79 C d23_5 rfl rfl ?_
  refine W.iloadN (q := 7) X79 C d23_6 rfl rfl ?_
  refine W.aloadN (q := 8) X79 C d23_7 rfl rfl rfl ?_
  refine W.arraylength (q := 9) X79 C e79 V0 d23_8 rfl ?_
  refine W.iconst (q := 10) (v := 1) X79 C d23_9 rfl rfl ?_
  refine W.ishr (q := 11) X79 C d23_10 rfl ?_
  rw [show ((2 : Int32) >>> ((1 : Int32) &&& 31)) = (1 : Int32) by decide]
  refine W.callS (q := 14) X79 C (W.ww hw 101 rfl) (W.ww hw 63 rfl) (W.ww hw 60 rfl) (W.ww hw 64 rfl) (by decide) (rm13 l Z a0 hw [] (1 : Int32) (1 : Int32) h0 n0) e79 d23_11 [(.int (1 : Int32)), (.int (1 : Int32))] [] rfl rfl pd__28II_29I rfl rfl (by decide) (Nat.le_of_ble_eq_true rfl) (by decide) (by decide) rfl (fun T80 w80 L80 X80 hQ80 => ?_)
  obtain ⟨rfl, NL80, e80⟩ := hQ80
  have N80 := Fr.app N79 NL80
  rw [show own_min (1 : Int32) (1 : Int32) = (1 : Int32) by decide]
  show W.Go p e below _ (T80.setTop (mkF m 14 #[.val (.ref p0), .val (.int p1), .val (.int p2), .val (.int (1 : Int32))] [(.int (1 : Int32))]))
  refine W.istoreN (q := 15) (L' := #[.val (.ref p0), .val (.int p1), .val (.int p2), .val (.int (1 : Int32))]) X80 C d23_14 rfl rfl ?_
  refine W.iloadN (q := 16) X80 C d23_15 rfl rfl ?_
  refine W.iloadN (q := 17) X80 C d23_16 rfl rfl ?_
  refine W.icmp (q := 22) (q' := 20) X80 C d23_17 (by decide) (by decide) rfl (fun hc81 => ?_) (fun hc81 => ?_)
  · replace hc81 : p2.toInt < (1 : Int32).toInt := hc81
    refine W.iloadN (q := 23) X80 C d23_22 rfl rfl ?_
    refine W.ldcI (q := 25) X80 C (W.ww hw 102 rfl) d23_23 rfl ?_
    refine W.icmpF (q := 28) X80 C d23_25 rfl (show p1.toInt < (65536 : Int32).toInt from hs16.2) ?_
    refine W.aloadN (q := 29) X80 C d23_28 rfl rfl rfl ?_
    refine W.iloadN (q := 30) X80 C d23_29 rfl rfl ?_
    refine W.iloadN (q := 31) X80 C d23_30 rfl rfl ?_
    refine W.iloadN (q := 32) X80 C d23_31 rfl rfl ?_
    refine W.callS (q := 35) X80 C (W.ww hw 103 rfl) (W.ww hw 104 rfl) (W.ww hw 67 rfl) (W.ww hw 105 rfl) (by decide) (rm24_1 l Z a0 hw [] p0 kb x0 p1 p2 fv h0 n0 V0 hr0 SA SH SL SF hfv hf0 hf1) e80 d23_32 [(.ref p0), (.int p1), (.int p2), (.int (1 : Int32))] [] rfl rfl pd__28_5bBIII_29I rfl rfl (by decide) (Nat.le_of_ble_eq_true rfl) (by decide) (by decide) rfl (fun T82 w82 L82 X82 hQ82 => ?_)
    obtain ⟨rfl, NL82, e82⟩ := hQ82
    have N82 := Fr.app N80 NL82
    show W.Go p e below _ (T82.setTop (mkF m 35 #[.val (.ref p0), .val (.int p1), .val (.int p2), .val (.int (1 : Int32))] [(.int (own_ix (List.drop p2.toInt.toNat [decide (x0 = p1)]) p2))]))
    exact W.retI X82 C e82 d23_35 (by decide) (by decide) ⟨rfl, N82, rfl⟩
  · replace hc81 : (1 : Int32).toInt ≤ p2.toInt := hc81
    refine W.iconst (q := 21) (v := (-1)) X80 C d23_20 rfl rfl ?_
    exact W.retI X80 C e80 d23_21 (by decide) (by decide) ⟨by rw [own_ixd hc81 rfl], N80, rfl⟩
set_option maxRecDepth 65536 in
set_option maxHeartbeats 40000000 in
theorem own_g_2_2 (l : Launch) (Z : State) (a0 : Array Value) (hw : ∀ d ∈ tables_1, d.before a0 Z = true) (h0 : Heap) (n0 : Nat) (p0 : Addr) (kb : ClassId) (x0 x1 : Int32) (p1 : Int32) (p2 : Int32) {p : Program} {e : Env} {s : State} {m : MethodId} {args : Array Value} {below : List Frame} {meth : Method} {c : Code} {T0 : State} {locs : List Loc}
    (C : W.Cx p s m meth c Z jdk_52_method_48_code 5 "java/lang/StringUTF16" "indexOfCharUnsafe" (some .int)) (X0 : Stand p l e ({ frames := 1, cells := 0, slots := 0, locals := 20 } : Room) s m args below meth c T0 locs 0 0) (e0 : T0.heap = h0) (N0 : Fr n0 locs) (V0 : Arv Z h0 p0 kb .byte (4 : Int32) [(.int (own_hb x0)), (.int (own_lb x0)), (.int (own_hb x1)), (.int (own_lb x1))] (.int (0 : Int32))) (hr0 : own_r16 x0) (hr1 : own_r16 x1) (SA : Sta Z h0 "java/lang/StringUTF16" "$assertionsDisabled" "Z" (.int (1 : Int32))) (SH : Sta Z h0 "java/lang/StringUTF16" "HI_BYTE_SHIFT" "I" (.int (0 : Int32))) (SL : Sta Z h0 "java/lang/StringUTF16" "LO_BYTE_SHIFT" "I" (.int (8 : Int32))) :
    W.Go p e below (W.Post s (fun v h L => v = some (.int (own_ix [] (2 : Int32))) ∧ Fr n0 L ∧ h = h0) ({ frames := 1, cells := 0, slots := 0, locals := 20 } : Room).cells ({ frames := 1, cells := 0, slots := 0, locals := 20 } : Room).slots) (T0.setTop (mkF m 3 #[.val (.ref p0), .val (.int p1), .val (.int p2), .val (.int (2 : Int32)), .val (.int (2 : Int32))] [])) := by
  refine W.iload (q := 5) X0 C d29_3 rfl rfl ?_
  refine W.iloadN (q := 6) X0 C d29_5 rfl rfl ?_
  refine W.icmpT (q := 28) X0 C d29_6 (by decide) (by decide) (by decide : W.cT .ge (2 : Int32) (2 : Int32)) ?_
  refine W.iconst (q := 29) (v := (-1)) X0 C d29_28 rfl rfl ?_
  exact W.retI X0 C e0 d29_29 (by decide) (by decide) ⟨by rw [own_ix_n] <;> rfl, N0, rfl⟩
set_option maxRecDepth 65536 in
set_option maxHeartbeats 40000000 in
theorem own_g_2_1 (l : Launch) (Z : State) (a0 : Array Value) (hw : ∀ d ∈ tables_1, d.before a0 Z = true) (h0 : Heap) (n0 : Nat) (p0 : Addr) (kb : ClassId) (x0 x1 : Int32) (p1 : Int32) (p2 : Int32) {p : Program} {e : Env} {s : State} {m : MethodId} {args : Array Value} {below : List Frame} {meth : Method} {c : Code} {T0 : State} {locs : List Loc}
    (C : W.Cx p s m meth c Z jdk_52_method_48_code 5 "java/lang/StringUTF16" "indexOfCharUnsafe" (some .int)) (X0 : Stand p l e ({ frames := 1, cells := 0, slots := 0, locals := 20 } : Room) s m args below meth c T0 locs 0 0) (e0 : T0.heap = h0) (N0 : Fr n0 locs) (V0 : Arv Z h0 p0 kb .byte (4 : Int32) [(.int (own_hb x0)), (.int (own_lb x0)), (.int (own_hb x1)), (.int (own_lb x1))] (.int (0 : Int32))) (hr0 : own_r16 x0) (hr1 : own_r16 x1) (SA : Sta Z h0 "java/lang/StringUTF16" "$assertionsDisabled" "Z" (.int (1 : Int32))) (SH : Sta Z h0 "java/lang/StringUTF16" "HI_BYTE_SHIFT" "I" (.int (0 : Int32))) (SL : Sta Z h0 "java/lang/StringUTF16" "LO_BYTE_SHIFT" "I" (.int (8 : Int32))) :
    W.Go p e below (W.Post s (fun v h L => v = some (.int (own_ix [decide (x1 = p1)] (1 : Int32))) ∧ Fr n0 L ∧ h = h0) ({ frames := 1, cells := 0, slots := 0, locals := 20 } : Room).cells ({ frames := 1, cells := 0, slots := 0, locals := 20 } : Room).slots) (T0.setTop (mkF m 3 #[.val (.ref p0), .val (.int p1), .val (.int p2), .val (.int (2 : Int32)), .val (.int (1 : Int32))] [])) := by
  refine W.iload (q := 5) X0 C d29_3 rfl rfl ?_
  refine W.iloadN (q := 6) X0 C d29_5 rfl rfl ?_
  refine W.icmpF (q := 9) X0 C d29_6 rfl (by decide : W.cF .ge (1 : Int32) (2 : Int32)) ?_
  refine W.aloadN (q := 10) X0 C d29_9 rfl rfl rfl ?_
  refine W.iload (q := 12) X0 C d29_10 rfl rfl ?_
  refine W.callS (q := 15) X0 C (W.ww hw 94 rfl) (W.ww hw 95 rfl) (W.ww hw 67 rfl) (W.ww hw 96 rfl) (by decide) (rm22 l Z a0 hw [] p0 kb [(.int (own_hb x0)), (.int (own_lb x0)), (.int (own_hb x1)), (.int (own_lb x1))] (4 : Int32) (1 : Int32) (2 : Int32) (3 : Int32) x1 h0 n0 V0 (by decide) (by decide) (by decide) (by decide) (by decide) (by decide) rfl rfl hr1 SA SH SL) e0 d29_12 [(.ref p0), (.int (1 : Int32))] [] rfl rfl pd__28_5bBI_29C rfl rfl (by decide) (Nat.le_of_ble_eq_true rfl) (by decide) (by decide) rfl (fun T83 w83 L83 X83 hQ83 => ?_)
  obtain ⟨rfl, NL83, e83⟩ := hQ83
  have N83 := Fr.app N0 NL83
  show W.Go p e below _ (T83.setTop (mkF m 15 #[.val (.ref p0), .val (.int p1), .val (.int p2), .val (.int (2 : Int32)), .val (.int (1 : Int32))] [(.int x1)]))
  refine W.iloadN (q := 16) X83 C d29_15 rfl rfl ?_
  refine W.icmp (q := 22) (q' := 19) X83 C d29_16 (by decide) (by decide) rfl (fun hc84 => ?_) (fun hc84 => ?_)
  · replace hc84 : x1 ≠ p1 := hc84
    refine W.iinc (q := 25) (L' := #[.val (.ref p0), .val (.int p1), .val (.int p2), .val (.int (2 : Int32)), .val (.int (2 : Int32))]) X83 C d29_22 rfl (by decide) rfl rfl ?_
    refine W.goto (q := 3) X83 C d29_25 (by decide) (by decide) ?_
    rw [own_ix_f hc84]
    exact own_g_2_2 l Z a0 hw h0 n0 p0 kb x0 x1 p1 p2 C X83 e83 N83 V0 hr0 hr1 SA SH SL
  · replace hc84 : x1 = p1 := hc84
    refine W.iload (q := 21) X83 C d29_19 rfl rfl ?_
    exact W.retI X83 C e83 d29_21 (by decide) (by decide) ⟨by rw [own_ix_t hc84] <;> rfl, N83, rfl⟩
set_option maxRecDepth 65536 in
set_option maxHeartbeats 40000000 in
theorem own_g_2_0 (l : Launch) (Z : State) (a0 : Array Value) (hw : ∀ d ∈ tables_1, d.before a0 Z = true) (h0 : Heap) (n0 : Nat) (p0 : Addr) (kb : ClassId) (x0 x1 : Int32) (p1 : Int32) (p2 : Int32) {p : Program} {e : Env} {s : State} {m : MethodId} {args : Array Value} {below : List Frame} {meth : Method} {c : Code} {T0 : State} {locs : List Loc}
    (C : W.Cx p s m meth c Z jdk_52_method_48_code 5 "java/lang/StringUTF16" "indexOfCharUnsafe" (some .int)) (X0 : Stand p l e ({ frames := 1, cells := 0, slots := 0, locals := 20 } : Room) s m args below meth c T0 locs 0 0) (e0 : T0.heap = h0) (N0 : Fr n0 locs) (V0 : Arv Z h0 p0 kb .byte (4 : Int32) [(.int (own_hb x0)), (.int (own_lb x0)), (.int (own_hb x1)), (.int (own_lb x1))] (.int (0 : Int32))) (hr0 : own_r16 x0) (hr1 : own_r16 x1) (SA : Sta Z h0 "java/lang/StringUTF16" "$assertionsDisabled" "Z" (.int (1 : Int32))) (SH : Sta Z h0 "java/lang/StringUTF16" "HI_BYTE_SHIFT" "I" (.int (0 : Int32))) (SL : Sta Z h0 "java/lang/StringUTF16" "LO_BYTE_SHIFT" "I" (.int (8 : Int32))) :
    W.Go p e below (W.Post s (fun v h L => v = some (.int (own_ix [decide (x0 = p1), decide (x1 = p1)] (0 : Int32))) ∧ Fr n0 L ∧ h = h0) ({ frames := 1, cells := 0, slots := 0, locals := 20 } : Room).cells ({ frames := 1, cells := 0, slots := 0, locals := 20 } : Room).slots) (T0.setTop (mkF m 3 #[.val (.ref p0), .val (.int p1), .val (.int p2), .val (.int (2 : Int32)), .val (.int (0 : Int32))] [])) := by
  refine W.iload (q := 5) X0 C d29_3 rfl rfl ?_
  refine W.iloadN (q := 6) X0 C d29_5 rfl rfl ?_
  refine W.icmpF (q := 9) X0 C d29_6 rfl (by decide : W.cF .ge (0 : Int32) (2 : Int32)) ?_
  refine W.aloadN (q := 10) X0 C d29_9 rfl rfl rfl ?_
  refine W.iload (q := 12) X0 C d29_10 rfl rfl ?_
  refine W.callS (q := 15) X0 C (W.ww hw 94 rfl) (W.ww hw 95 rfl) (W.ww hw 67 rfl) (W.ww hw 96 rfl) (by decide) (rm22 l Z a0 hw [] p0 kb [(.int (own_hb x0)), (.int (own_lb x0)), (.int (own_hb x1)), (.int (own_lb x1))] (4 : Int32) (0 : Int32) (0 : Int32) (1 : Int32) x0 h0 n0 V0 (by decide) (by decide) (by decide) (by decide) (by decide) (by decide) rfl rfl hr0 SA SH SL) e0 d29_12 [(.ref p0), (.int (0 : Int32))] [] rfl rfl pd__28_5bBI_29C rfl rfl (by decide) (Nat.le_of_ble_eq_true rfl) (by decide) (by decide) rfl (fun T85 w85 L85 X85 hQ85 => ?_)
  obtain ⟨rfl, NL85, e85⟩ := hQ85
  have N85 := Fr.app N0 NL85
  show W.Go p e below _ (T85.setTop (mkF m 15 #[.val (.ref p0), .val (.int p1), .val (.int p2), .val (.int (2 : Int32)), .val (.int (0 : Int32))] [(.int x0)]))
  refine W.iloadN (q := 16) X85 C d29_15 rfl rfl ?_
  refine W.icmp (q := 22) (q' := 19) X85 C d29_16 (by decide) (by decide) rfl (fun hc86 => ?_) (fun hc86 => ?_)
  · replace hc86 : x0 ≠ p1 := hc86
    refine W.iinc (q := 25) (L' := #[.val (.ref p0), .val (.int p1), .val (.int p2), .val (.int (2 : Int32)), .val (.int (1 : Int32))]) X85 C d29_22 rfl (by decide) rfl rfl ?_
    refine W.goto (q := 3) X85 C d29_25 (by decide) (by decide) ?_
    rw [own_ix_f hc86]
    exact own_g_2_1 l Z a0 hw h0 n0 p0 kb x0 x1 p1 p2 C X85 e85 N85 V0 hr0 hr1 SA SH SL
  · replace hc86 : x0 = p1 := hc86
    refine W.iload (q := 21) X85 C d29_19 rfl rfl ?_
    exact W.retI X85 C e85 d29_21 (by decide) (by decide) ⟨by rw [own_ix_t hc86] <;> rfl, N85, rfl⟩
def Q29_2 (Z : State) (p0 : Addr) (kb : ClassId) (x0 x1 : Int32) (p1 : Int32) (p2 : Int32) (h0 : Heap) (n0 : Nat) (v : Option Value) (h : Heap) (L : List Loc) : Prop := v = some (.int (own_ix (List.drop p2.toInt.toNat [decide (x0 = p1), decide (x1 = p1)]) p2)) ∧ Fr n0 L ∧ h = h0
theorem rm29_2 (l : Launch) (Z : State) (a0 : Array Value) (hw : own_HW a0 Z) (ws : List Jvm.Cond) (p0 : Addr) (kb : ClassId) (x0 x1 : Int32) (p1 : Int32) (p2 : Int32) (h0 : Heap) (n0 : Nat) (V0 : Arv Z h0 p0 kb .byte (4 : Int32) [(.int (own_hb x0)), (.int (own_lb x0)), (.int (own_hb x1)), (.int (own_lb x1))] (.int (0 : Int32))) (hr0 : own_r16 x0) (hr1 : own_r16 x1) (SA : Sta Z h0 "java/lang/StringUTF16" "$assertionsDisabled" "Z" (.int (1 : Int32))) (SH : Sta Z h0 "java/lang/StringUTF16" "HI_BYTE_SHIFT" "I" (.int (0 : Int32))) (SL : Sta Z h0 "java/lang/StringUTF16" "LO_BYTE_SHIFT" "I" (.int (8 : Int32))) (hf0 : 0 ≤ p2.toInt) (hf1 : p2.toInt ≤ (2 : Nat)) : own_M l y29 jdk_52_method_48_code 5 (some .int) ws r_1_0_0_20 #[(.ref p0), (.int p1), (.int p2), (.int (2 : Int32))] Z h0 (Q29_2 Z p0 kb x0 x1 p1 p2 h0 n0) := by
  refine W.bodyOf (Ls := #[.val (.ref p0), .val (.int p1), .val (.int p2), .val (.int (2 : Int32)), .unset]) (plainFor_of_name pn_java_lang_StringUTF16) (fun m => by first | exact W.entry_of rfl) ?_
  intro p e s m below meth c T0 C X0 e0
  have N0 := Fr.nil n0
  refine W.iloadN (q := 1) X0 C d29_0 rfl rfl ?_
  refine W.istore (q := 3) (L' := #[.val (.ref p0), .val (.int p1), .val (.int p2), .val (.int (2 : Int32)), .val (.int p2)]) X0 C d29_1 rfl rfl ?_
  rcases own_03 hf0 hf1 (by decide) with ⟨rfl, hn⟩ | ⟨rfl, hn⟩ | ⟨rfl, hn⟩ | ⟨rfl, hn⟩ | ⟨rfl, hn⟩
  · exact own_g_2_0 l Z a0 hw h0 n0 p0 kb x0 x1 p1 (0 : Int32) C X0 e0 N0 V0 hr0 hr1 SA SH SL
  · exact own_g_2_1 l Z a0 hw h0 n0 p0 kb x0 x1 p1 (1 : Int32) C X0 e0 N0 V0 hr0 hr1 SA SH SL
  · exact own_g_2_2 l Z a0 hw h0 n0 p0 kb x0 x1 p1 (2 : Int32) C X0 e0 N0 V0 hr0 hr1 SA SH SL
  · exact absurd hn (by decide)
  · exact absurd hn (by decide)
def Q24_2 (Z : State) (p0 : Addr) (kb : ClassId) (x0 x1 : Int32) (p1 : Int32) (p2 : Int32) (fv : Value) (h0 : Heap) (n0 : Nat) (v : Option Value) (h : Heap) (L : List Loc) : Prop := v = some (.int (own_ix (List.drop p2.toInt.toNat [decide (x0 = p1), decide (x1 = p1)]) p2)) ∧ Fr n0 L ∧ h = h0
theorem rm24_2 (l : Launch) (Z : State) (a0 : Array Value) (hw : own_HW a0 Z) (ws : List Jvm.Cond) (p0 : Addr) (kb : ClassId) (x0 x1 : Int32) (p1 : Int32) (p2 : Int32) (fv : Value) (h0 : Heap) (n0 : Nat) (V0 : Arv Z h0 p0 kb .byte (4 : Int32) [(.int (own_hb x0)), (.int (own_lb x0)), (.int (own_hb x1)), (.int (own_lb x1))] (.int (0 : Int32))) (hr0 : own_r16 x0) (hr1 : own_r16 x1) (SA : Sta Z h0 "java/lang/StringUTF16" "$assertionsDisabled" "Z" (.int (1 : Int32))) (SH : Sta Z h0 "java/lang/StringUTF16" "HI_BYTE_SHIFT" "I" (.int (0 : Int32))) (SL : Sta Z h0 "java/lang/StringUTF16" "LO_BYTE_SHIFT" "I" (.int (8 : Int32))) (SF : Sta Z h0 "jdk/internal/util/Preconditions" "SIOOBE_FORMATTER" "Ljava/util/function/BiFunction;" fv) (hfv : fv.isRef = true) (hf0 : 0 ≤ p2.toInt) (hf1 : p2.toInt ≤ (2 : Nat)) : own_M l y24 jdk_52_method_47_code 4 (some .int) ws r_3_0_0_48 #[(.ref p0), (.int p1), (.int p2), (.int (2 : Int32))] Z h0 (Q24_2 Z p0 kb x0 x1 p1 p2 fv h0 n0) := by
  refine W.bodyOf (Ls := #[.val (.ref p0), .val (.int p1), .val (.int p2), .val (.int (2 : Int32))]) (plainFor_of_name pn_java_lang_StringUTF16) (fun m => by first | exact W.entry_of rfl) ?_
  intro p e s m below meth c T0 C X0 e0
  have N0 := Fr.nil n0
  refine W.iloadN (q := 1) X0 C d24_0 rfl rfl ?_
  refine W.iloadN (q := 2) X0 C d24_1 rfl rfl ?_
  refine W.aloadN (q := 3) X0 C d24_2 rfl rfl rfl ?_
  refine W.callS (q := 6) X0 C (W.ww hw 106 rfl) (W.ww hw 107 rfl) (W.ww hw 67 rfl) (W.ww hw 108 rfl) (by decide) (rm25 l Z a0 hw [] p2 (2 : Int32) p0 kb _ (4 : Int32) fv h0 n0 hf0 hf1 (by decide) V0 SF hfv) e0 d24_3 [(.int p2), (.int (2 : Int32)), (.ref p0)] [] rfl rfl pd__28II_5bB_29V rfl rfl (by decide) (Nat.le_of_ble_eq_true rfl) (by decide) (by decide) rfl (fun T87 w87 L87 X87 hQ87 => ?_)
  obtain ⟨rfl, NL87, e87⟩ := hQ87
  have N87 := Fr.app N0 NL87
  show W.Go p e below _ (T87.setTop (mkF m 6 #[.val (.ref p0), .val (.int p1), .val (.int p2), .val (.int (2 : Int32))] []))
  refine W.aloadN (q := 7) X87 C d24_6 rfl rfl rfl ?_
  refine W.iloadN (q := 8) X87 C d24_7 rfl rfl ?_
  refine W.iloadN (q := 9) X87 C d24_8 rfl rfl ?_
  refine W.iloadN (q := 10) X87 C d24_9 rfl rfl ?_
  refine W.callS (q := 13) X87 C (W.ww hw 120 rfl) (W.ww hw 121 rfl) (W.ww hw 67 rfl) (W.ww hw 122 rfl) (by decide) (rm29_2 l Z a0 hw [] p0 kb x0 x1 p1 p2 h0 n0 V0 hr0 hr1 SA SH SL hf0 hf1) e87 d24_10 [(.ref p0), (.int p1), (.int p2), (.int (2 : Int32))] [] rfl rfl pd__28_5bBIII_29I rfl rfl (by decide) (Nat.le_of_ble_eq_true rfl) (by decide) (by decide) rfl (fun T88 w88 L88 X88 hQ88 => ?_)
  obtain ⟨rfl, NL88, e88⟩ := hQ88
  have N88 := Fr.app N87 NL88
  show W.Go p e below _ (T88.setTop (mkF m 13 #[.val (.ref p0), .val (.int p1), .val (.int p2), .val (.int (2 : Int32))] [(.int (own_ix (List.drop p2.toInt.toNat [decide (x0 = p1), decide (x1 = p1)]) p2))]))
  exact W.retI X88 C e88 d24_13 (by decide) (by decide) ⟨rfl, N88, rfl⟩
def Q23_2 (Z : State) (p0 : Addr) (kb : ClassId) (x0 x1 : Int32) (p1 : Int32) (p2 : Int32) (fv : Value) (h0 : Heap) (n0 : Nat) (v : Option Value) (h : Heap) (L : List Loc) : Prop := v = some (.int (own_ix (List.drop p2.toInt.toNat [decide (x0 = p1), decide (x1 = p1)]) p2)) ∧ Fr n0 L ∧ h = h0
theorem rm23_2 (l : Launch) (Z : State) (a0 : Array Value) (hw : own_HW a0 Z) (ws : List Jvm.Cond) (p0 : Addr) (kb : ClassId) (x0 x1 : Int32) (p1 : Int32) (p2 : Int32) (fv : Value) (h0 : Heap) (n0 : Nat) (V0 : Arv Z h0 p0 kb .byte (4 : Int32) [(.int (own_hb x0)), (.int (own_lb x0)), (.int (own_hb x1)), (.int (own_lb x1))] (.int (0 : Int32))) (hs16 : own_r16 p1) (hr0 : own_r16 x0) (hr1 : own_r16 x1) (SA : Sta Z h0 "java/lang/StringUTF16" "$assertionsDisabled" "Z" (.int (1 : Int32))) (SH : Sta Z h0 "java/lang/StringUTF16" "HI_BYTE_SHIFT" "I" (.int (0 : Int32))) (SL : Sta Z h0 "java/lang/StringUTF16" "LO_BYTE_SHIFT" "I" (.int (8 : Int32))) (SF : Sta Z h0 "jdk/internal/util/Preconditions" "SIOOBE_FORMATTER" "Ljava/util/function/BiFunction;" fv) (hfv : fv.isRef = true) (hf0 : 0 ≤ p2.toInt) (hf1 : p2.toInt ≤ (2 : Nat)) : own_M l y23 jdk_52_method_40_code 4 (some .int) ws r_4_0_0_64 #[(.ref p0), (.int p1), (.int p2), (.int (2 : Int32))] Z h0 (Q23_2 Z p0 kb x0 x1 p1 p2 fv h0 n0) := by
  refine W.bodyOf (Ls := #[.val (.ref p0), .val (.int p1), .val (.int p2), .val (.int (2 : Int32))]) (plainFor_of_name pn_java_lang_StringUTF16) (fun m => by first | exact W.entry_of rfl) ?_
  intro p e s m below meth c T0 C X0 e0
  have N0 := Fr.nil n0
  refine W.iloadN (q := 1) X0 C d23_0 rfl rfl ?_
  refine W.iconst (q := 2) (v := 0) X0 C d23_1 rfl rfl ?_
  refine W.callS (q := 5) X0 C (W.ww hw 100 rfl) (W.ww hw 59 rfl) (W.ww hw 60 rfl) (W.ww hw 61 rfl) (by decide) (rm12 l Z a0 hw [] p2 (0 : Int32) h0 n0) e0 d23_2 [(.int p2), (.int (0 : Int32))] [] rfl rfl pd__28II_29I rfl rfl (by decide) (Nat.le_of_ble_eq_true rfl) (by decide) (by decide) rfl (fun T89 w89 L89 X89 hQ89 => ?_)
  obtain ⟨rfl, NL89, e89⟩ := hQ89
  have N89 := Fr.app N0 NL89
  rw [show own_max p2 (0 : Int32) = p2 from if_neg (Int.not_lt.mpr hf0)]
  show W.Go p e below _ (T89.setTop (mkF m 5 #[.val (.ref p0), .val (.int p1), .val (.int p2), .val (.int (2 : Int32))] [(.int p2)]))
  refine W.istoreN (q := 6) (L' := #[.val (.ref p0), .val (.int p1), .val (.int p2), .val (.int (2 : Int32))]) X89 C d23_5 rfl rfl ?_
  refine W.iloadN (q := 7) X89 C d23_6 rfl rfl ?_
  refine W.aloadN (q := 8) X89 C d23_7 rfl rfl rfl ?_
  refine W.arraylength (q := 9) X89 C e89 V0 d23_8 rfl ?_
  refine W.iconst (q := 10) (v := 1) X89 C d23_9 rfl rfl ?_
  refine W.ishr (q := 11) X89 C d23_10 rfl ?_
  rw [show ((4 : Int32) >>> ((1 : Int32) &&& 31)) = (2 : Int32) by decide]
  refine W.callS (q := 14) X89 C (W.ww hw 101 rfl) (W.ww hw 63 rfl) (W.ww hw 60 rfl) (W.ww hw 64 rfl) (by decide) (rm13 l Z a0 hw [] (2 : Int32) (2 : Int32) h0 n0) e89 d23_11 [(.int (2 : Int32)), (.int (2 : Int32))] [] rfl rfl pd__28II_29I rfl rfl (by decide) (Nat.le_of_ble_eq_true rfl) (by decide) (by decide) rfl (fun T90 w90 L90 X90 hQ90 => ?_)
  obtain ⟨rfl, NL90, e90⟩ := hQ90
  have N90 := Fr.app N89 NL90
  rw [show own_min (2 : Int32) (2 : Int32) = (2 : Int32) by decide]
  show W.Go p e below _ (T90.setTop (mkF m 14 #[.val (.ref p0), .val (.int p1), .val (.int p2), .val (.int (2 : Int32))] [(.int (2 : Int32))]))
  refine W.istoreN (q := 15) (L' := #[.val (.ref p0), .val (.int p1), .val (.int p2), .val (.int (2 : Int32))]) X90 C d23_14 rfl rfl ?_
  refine W.iloadN (q := 16) X90 C d23_15 rfl rfl ?_
  refine W.iloadN (q := 17) X90 C d23_16 rfl rfl ?_
  refine W.icmp (q := 22) (q' := 20) X90 C d23_17 (by decide) (by decide) rfl (fun hc91 => ?_) (fun hc91 => ?_)
  · replace hc91 : p2.toInt < (2 : Int32).toInt := hc91
    refine W.iloadN (q := 23) X90 C d23_22 rfl rfl ?_
    refine W.ldcI (q := 25) X90 C (W.ww hw 102 rfl) d23_23 rfl ?_
    refine W.icmpF (q := 28) X90 C d23_25 rfl (show p1.toInt < (65536 : Int32).toInt from hs16.2) ?_
    refine W.aloadN (q := 29) X90 C d23_28 rfl rfl rfl ?_
    refine W.iloadN (q := 30) X90 C d23_29 rfl rfl ?_
    refine W.iloadN (q := 31) X90 C d23_30 rfl rfl ?_
    refine W.iloadN (q := 32) X90 C d23_31 rfl rfl ?_
    refine W.callS (q := 35) X90 C (W.ww hw 103 rfl) (W.ww hw 104 rfl) (W.ww hw 67 rfl) (W.ww hw 105 rfl) (by decide) (rm24_2 l Z a0 hw [] p0 kb x0 x1 p1 p2 fv h0 n0 V0 hr0 hr1 SA SH SL SF hfv hf0 hf1) e90 d23_32 [(.ref p0), (.int p1), (.int p2), (.int (2 : Int32))] [] rfl rfl pd__28_5bBIII_29I rfl rfl (by decide) (Nat.le_of_ble_eq_true rfl) (by decide) (by decide) rfl (fun T92 w92 L92 X92 hQ92 => ?_)
    obtain ⟨rfl, NL92, e92⟩ := hQ92
    have N92 := Fr.app N90 NL92
    show W.Go p e below _ (T92.setTop (mkF m 35 #[.val (.ref p0), .val (.int p1), .val (.int p2), .val (.int (2 : Int32))] [(.int (own_ix (List.drop p2.toInt.toNat [decide (x0 = p1), decide (x1 = p1)]) p2))]))
    exact W.retI X92 C e92 d23_35 (by decide) (by decide) ⟨rfl, N92, rfl⟩
  · replace hc91 : (2 : Int32).toInt ≤ p2.toInt := hc91
    refine W.iconst (q := 21) (v := (-1)) X90 C d23_20 rfl rfl ?_
    exact W.retI X90 C e90 d23_21 (by decide) (by decide) ⟨by rw [own_ixd hc91 rfl], N90, rfl⟩
set_option maxRecDepth 65536 in
set_option maxHeartbeats 40000000 in
theorem own_g_3_3 (l : Launch) (Z : State) (a0 : Array Value) (hw : ∀ d ∈ tables_1, d.before a0 Z = true) (h0 : Heap) (n0 : Nat) (p0 : Addr) (kb : ClassId) (x0 x1 x2 : Int32) (p1 : Int32) (p2 : Int32) {p : Program} {e : Env} {s : State} {m : MethodId} {args : Array Value} {below : List Frame} {meth : Method} {c : Code} {T0 : State} {locs : List Loc}
    (C : W.Cx p s m meth c Z jdk_52_method_48_code 5 "java/lang/StringUTF16" "indexOfCharUnsafe" (some .int)) (X0 : Stand p l e ({ frames := 1, cells := 0, slots := 0, locals := 20 } : Room) s m args below meth c T0 locs 0 0) (e0 : T0.heap = h0) (N0 : Fr n0 locs) (V0 : Arv Z h0 p0 kb .byte (6 : Int32) [(.int (own_hb x0)), (.int (own_lb x0)), (.int (own_hb x1)), (.int (own_lb x1)), (.int (own_hb x2)), (.int (own_lb x2))] (.int (0 : Int32))) (hr0 : own_r16 x0) (hr1 : own_r16 x1) (hr2 : own_r16 x2) (SA : Sta Z h0 "java/lang/StringUTF16" "$assertionsDisabled" "Z" (.int (1 : Int32))) (SH : Sta Z h0 "java/lang/StringUTF16" "HI_BYTE_SHIFT" "I" (.int (0 : Int32))) (SL : Sta Z h0 "java/lang/StringUTF16" "LO_BYTE_SHIFT" "I" (.int (8 : Int32))) :
    W.Go p e below (W.Post s (fun v h L => v = some (.int (own_ix [] (3 : Int32))) ∧ Fr n0 L ∧ h = h0) ({ frames := 1, cells := 0, slots := 0, locals := 20 } : Room).cells ({ frames := 1, cells := 0, slots := 0, locals := 20 } : Room).slots) (T0.setTop (mkF m 3 #[.val (.ref p0), .val (.int p1), .val (.int p2), .val (.int (3 : Int32)), .val (.int (3 : Int32))] [])) := by
  refine W.iload (q := 5) X0 C d29_3 rfl rfl ?_
  refine W.iloadN (q := 6) X0 C d29_5 rfl rfl ?_
  refine W.icmpT (q := 28) X0 C d29_6 (by decide) (by decide) (by decide : W.cT .ge (3 : Int32) (3 : Int32)) ?_
  refine W.iconst (q := 29) (v := (-1)) X0 C d29_28 rfl rfl ?_
  exact W.retI X0 C e0 d29_29 (by decide) (by decide) ⟨by rw [own_ix_n] <;> rfl, N0, rfl⟩
set_option maxRecDepth 65536 in
set_option maxHeartbeats 40000000 in
theorem own_g_3_2 (l : Launch) (Z : State) (a0 : Array Value) (hw : ∀ d ∈ tables_1, d.before a0 Z = true) (h0 : Heap) (n0 : Nat) (p0 : Addr) (kb : ClassId) (x0 x1 x2 : Int32) (p1 : Int32) (p2 : Int32) {p : Program} {e : Env} {s : State} {m : MethodId} {args : Array Value} {below : List Frame} {meth : Method} {c : Code} {T0 : State} {locs : List Loc}
    (C : W.Cx p s m meth c Z jdk_52_method_48_code 5 "java/lang/StringUTF16" "indexOfCharUnsafe" (some .int)) (X0 : Stand p l e ({ frames := 1, cells := 0, slots := 0, locals := 20 } : Room) s m args below meth c T0 locs 0 0) (e0 : T0.heap = h0) (N0 : Fr n0 locs) (V0 : Arv Z h0 p0 kb .byte (6 : Int32) [(.int (own_hb x0)), (.int (own_lb x0)), (.int (own_hb x1)), (.int (own_lb x1)), (.int (own_hb x2)), (.int (own_lb x2))] (.int (0 : Int32))) (hr0 : own_r16 x0) (hr1 : own_r16 x1) (hr2 : own_r16 x2) (SA : Sta Z h0 "java/lang/StringUTF16" "$assertionsDisabled" "Z" (.int (1 : Int32))) (SH : Sta Z h0 "java/lang/StringUTF16" "HI_BYTE_SHIFT" "I" (.int (0 : Int32))) (SL : Sta Z h0 "java/lang/StringUTF16" "LO_BYTE_SHIFT" "I" (.int (8 : Int32))) :
    W.Go p e below (W.Post s (fun v h L => v = some (.int (own_ix [decide (x2 = p1)] (2 : Int32))) ∧ Fr n0 L ∧ h = h0) ({ frames := 1, cells := 0, slots := 0, locals := 20 } : Room).cells ({ frames := 1, cells := 0, slots := 0, locals := 20 } : Room).slots) (T0.setTop (mkF m 3 #[.val (.ref p0), .val (.int p1), .val (.int p2), .val (.int (3 : Int32)), .val (.int (2 : Int32))] [])) := by
  refine W.iload (q := 5) X0 C d29_3 rfl rfl ?_
  refine W.iloadN (q := 6) X0 C d29_5 rfl rfl ?_
  refine W.icmpF (q := 9) X0 C d29_6 rfl (by decide : W.cF .ge (2 : Int32) (3 : Int32)) ?_
  refine W.aloadN (q := 10) X0 C d29_9 rfl rfl rfl ?_
  refine W.iload (q := 12) X0 C d29_10 rfl rfl ?_
  refine W.callS (q := 15) X0 C (W.ww hw 94 rfl) (W.ww hw 95 rfl) (W.ww hw 67 rfl) (W.ww hw 96 rfl) (by decide) (rm22 l Z a0 hw [] p0 kb [(.int (own_hb x0)), (.int (own_lb x0)), (.int (own_hb x1)), (.int (own_lb x1)), (.int (own_hb x2)), (.int (own_lb x2))] (6 : Int32) (2 : Int32) (4 : Int32) (5 : Int32) x2 h0 n0 V0 (by decide) (by decide) (by decide) (by decide) (by decide) (by decide) rfl rfl hr2 SA SH SL) e0 d29_12 [(.ref p0), (.int (2 : Int32))] [] rfl rfl pd__28_5bBI_29C rfl rfl (by decide) (Nat.le_of_ble_eq_true rfl) (by decide) (by decide) rfl (fun T93 w93 L93 X93 hQ93 => ?_)
  obtain ⟨rfl, NL93, e93⟩ := hQ93
  have N93 := Fr.app N0 NL93
  show W.Go p e below _ (T93.setTop (mkF m 15 #[.val (.ref p0), .val (.int p1), .val (.int p2), .val (.int (3 : Int32)), .val (.int (2 : Int32))] [(.int x2)]))
  refine W.iloadN (q := 16) X93 C d29_15 rfl rfl ?_
  refine W.icmp (q := 22) (q' := 19) X93 C d29_16 (by decide) (by decide) rfl (fun hc94 => ?_) (fun hc94 => ?_)
  · replace hc94 : x2 ≠ p1 := hc94
    refine W.iinc (q := 25) (L' := #[.val (.ref p0), .val (.int p1), .val (.int p2), .val (.int (3 : Int32)), .val (.int (3 : Int32))]) X93 C d29_22 rfl (by decide) rfl rfl ?_
    refine W.goto (q := 3) X93 C d29_25 (by decide) (by decide) ?_
    rw [own_ix_f hc94]
    exact own_g_3_3 l Z a0 hw h0 n0 p0 kb x0 x1 x2 p1 p2 C X93 e93 N93 V0 hr0 hr1 hr2 SA SH SL
  · replace hc94 : x2 = p1 := hc94
    refine W.iload (q := 21) X93 C d29_19 rfl rfl ?_
    exact W.retI X93 C e93 d29_21 (by decide) (by decide) ⟨by rw [own_ix_t hc94] <;> rfl, N93, rfl⟩
set_option maxRecDepth 65536 in
set_option maxHeartbeats 40000000 in
theorem own_g_3_1 (l : Launch) (Z : State) (a0 : Array Value) (hw : ∀ d ∈ tables_1, d.before a0 Z = true) (h0 : Heap) (n0 : Nat) (p0 : Addr) (kb : ClassId) (x0 x1 x2 : Int32) (p1 : Int32) (p2 : Int32) {p : Program} {e : Env} {s : State} {m : MethodId} {args : Array Value} {below : List Frame} {meth : Method} {c : Code} {T0 : State} {locs : List Loc}
    (C : W.Cx p s m meth c Z jdk_52_method_48_code 5 "java/lang/StringUTF16" "indexOfCharUnsafe" (some .int)) (X0 : Stand p l e ({ frames := 1, cells := 0, slots := 0, locals := 20 } : Room) s m args below meth c T0 locs 0 0) (e0 : T0.heap = h0) (N0 : Fr n0 locs) (V0 : Arv Z h0 p0 kb .byte (6 : Int32) [(.int (own_hb x0)), (.int (own_lb x0)), (.int (own_hb x1)), (.int (own_lb x1)), (.int (own_hb x2)), (.int (own_lb x2))] (.int (0 : Int32))) (hr0 : own_r16 x0) (hr1 : own_r16 x1) (hr2 : own_r16 x2) (SA : Sta Z h0 "java/lang/StringUTF16" "$assertionsDisabled" "Z" (.int (1 : Int32))) (SH : Sta Z h0 "java/lang/StringUTF16" "HI_BYTE_SHIFT" "I" (.int (0 : Int32))) (SL : Sta Z h0 "java/lang/StringUTF16" "LO_BYTE_SHIFT" "I" (.int (8 : Int32))) :
    W.Go p e below (W.Post s (fun v h L => v = some (.int (own_ix [decide (x1 = p1), decide (x2 = p1)] (1 : Int32))) ∧ Fr n0 L ∧ h = h0) ({ frames := 1, cells := 0, slots := 0, locals := 20 } : Room).cells ({ frames := 1, cells := 0, slots := 0, locals := 20 } : Room).slots) (T0.setTop (mkF m 3 #[.val (.ref p0), .val (.int p1), .val (.int p2), .val (.int (3 : Int32)), .val (.int (1 : Int32))] [])) := by
  refine W.iload (q := 5) X0 C d29_3 rfl rfl ?_
  refine W.iloadN (q := 6) X0 C d29_5 rfl rfl ?_
  refine W.icmpF (q := 9) X0 C d29_6 rfl (by decide : W.cF .ge (1 : Int32) (3 : Int32)) ?_
  refine W.aloadN (q := 10) X0 C d29_9 rfl rfl rfl ?_
  refine W.iload (q := 12) X0 C d29_10 rfl rfl ?_
  refine W.callS (q := 15) X0 C (W.ww hw 94 rfl) (W.ww hw 95 rfl) (W.ww hw 67 rfl) (W.ww hw 96 rfl) (by decide) (rm22 l Z a0 hw [] p0 kb [(.int (own_hb x0)), (.int (own_lb x0)), (.int (own_hb x1)), (.int (own_lb x1)), (.int (own_hb x2)), (.int (own_lb x2))] (6 : Int32) (1 : Int32) (2 : Int32) (3 : Int32) x1 h0 n0 V0 (by decide) (by decide) (by decide) (by decide) (by decide) (by decide) rfl rfl hr1 SA SH SL) e0 d29_12 [(.ref p0), (.int (1 : Int32))] [] rfl rfl pd__28_5bBI_29C rfl rfl (by decide) (Nat.le_of_ble_eq_true rfl) (by decide) (by decide) rfl (fun T95 w95 L95 X95 hQ95 => ?_)
  obtain ⟨rfl, NL95, e95⟩ := hQ95
  have N95 := Fr.app N0 NL95
  show W.Go p e below _ (T95.setTop (mkF m 15 #[.val (.ref p0), .val (.int p1), .val (.int p2), .val (.int (3 : Int32)), .val (.int (1 : Int32))] [(.int x1)]))
  refine W.iloadN (q := 16) X95 C d29_15 rfl rfl ?_
  refine W.icmp (q := 22) (q' := 19) X95 C d29_16 (by decide) (by decide) rfl (fun hc96 => ?_) (fun hc96 => ?_)
  · replace hc96 : x1 ≠ p1 := hc96
    refine W.iinc (q := 25) (L' := #[.val (.ref p0), .val (.int p1), .val (.int p2), .val (.int (3 : Int32)), .val (.int (2 : Int32))]) X95 C d29_22 rfl (by decide) rfl rfl ?_
    refine W.goto (q := 3) X95 C d29_25 (by decide) (by decide) ?_
    rw [own_ix_f hc96]
    exact own_g_3_2 l Z a0 hw h0 n0 p0 kb x0 x1 x2 p1 p2 C X95 e95 N95 V0 hr0 hr1 hr2 SA SH SL
  · replace hc96 : x1 = p1 := hc96
    refine W.iload (q := 21) X95 C d29_19 rfl rfl ?_
    exact W.retI X95 C e95 d29_21 (by decide) (by decide) ⟨by rw [own_ix_t hc96] <;> rfl, N95, rfl⟩
set_option maxRecDepth 65536 in
set_option maxHeartbeats 40000000 in
theorem own_g_3_0 (l : Launch) (Z : State) (a0 : Array Value) (hw : ∀ d ∈ tables_1, d.before a0 Z = true) (h0 : Heap) (n0 : Nat) (p0 : Addr) (kb : ClassId) (x0 x1 x2 : Int32) (p1 : Int32) (p2 : Int32) {p : Program} {e : Env} {s : State} {m : MethodId} {args : Array Value} {below : List Frame} {meth : Method} {c : Code} {T0 : State} {locs : List Loc}
    (C : W.Cx p s m meth c Z jdk_52_method_48_code 5 "java/lang/StringUTF16" "indexOfCharUnsafe" (some .int)) (X0 : Stand p l e ({ frames := 1, cells := 0, slots := 0, locals := 20 } : Room) s m args below meth c T0 locs 0 0) (e0 : T0.heap = h0) (N0 : Fr n0 locs) (V0 : Arv Z h0 p0 kb .byte (6 : Int32) [(.int (own_hb x0)), (.int (own_lb x0)), (.int (own_hb x1)), (.int (own_lb x1)), (.int (own_hb x2)), (.int (own_lb x2))] (.int (0 : Int32))) (hr0 : own_r16 x0) (hr1 : own_r16 x1) (hr2 : own_r16 x2) (SA : Sta Z h0 "java/lang/StringUTF16" "$assertionsDisabled" "Z" (.int (1 : Int32))) (SH : Sta Z h0 "java/lang/StringUTF16" "HI_BYTE_SHIFT" "I" (.int (0 : Int32))) (SL : Sta Z h0 "java/lang/StringUTF16" "LO_BYTE_SHIFT" "I" (.int (8 : Int32))) :
    W.Go p e below (W.Post s (fun v h L => v = some (.int (own_ix [decide (x0 = p1), decide (x1 = p1), decide (x2 = p1)] (0 : Int32))) ∧ Fr n0 L ∧ h = h0) ({ frames := 1, cells := 0, slots := 0, locals := 20 } : Room).cells ({ frames := 1, cells := 0, slots := 0, locals := 20 } : Room).slots) (T0.setTop (mkF m 3 #[.val (.ref p0), .val (.int p1), .val (.int p2), .val (.int (3 : Int32)), .val (.int (0 : Int32))] [])) := by
  refine W.iload (q := 5) X0 C d29_3 rfl rfl ?_
  refine W.iloadN (q := 6) X0 C d29_5 rfl rfl ?_
  refine W.icmpF (q := 9) X0 C d29_6 rfl (by decide : W.cF .ge (0 : Int32) (3 : Int32)) ?_
  refine W.aloadN (q := 10) X0 C d29_9 rfl rfl rfl ?_
  refine W.iload (q := 12) X0 C d29_10 rfl rfl ?_
  refine W.callS (q := 15) X0 C (W.ww hw 94 rfl) (W.ww hw 95 rfl) (W.ww hw 67 rfl) (W.ww hw 96 rfl) (by decide) (rm22 l Z a0 hw [] p0 kb [(.int (own_hb x0)), (.int (own_lb x0)), (.int (own_hb x1)), (.int (own_lb x1)), (.int (own_hb x2)), (.int (own_lb x2))] (6 : Int32) (0 : Int32) (0 : Int32) (1 : Int32) x0 h0 n0 V0 (by decide) (by decide) (by decide) (by decide) (by decide) (by decide) rfl rfl hr0 SA SH SL) e0 d29_12 [(.ref p0), (.int (0 : Int32))] [] rfl rfl pd__28_5bBI_29C rfl rfl (by decide) (Nat.le_of_ble_eq_true rfl) (by decide) (by decide) rfl (fun T97 w97 L97 X97 hQ97 => ?_)
  obtain ⟨rfl, NL97, e97⟩ := hQ97
  have N97 := Fr.app N0 NL97
  show W.Go p e below _ (T97.setTop (mkF m 15 #[.val (.ref p0), .val (.int p1), .val (.int p2), .val (.int (3 : Int32)), .val (.int (0 : Int32))] [(.int x0)]))
  refine W.iloadN (q := 16) X97 C d29_15 rfl rfl ?_
  refine W.icmp (q := 22) (q' := 19) X97 C d29_16 (by decide) (by decide) rfl (fun hc98 => ?_) (fun hc98 => ?_)
  · replace hc98 : x0 ≠ p1 := hc98
    refine W.iinc (q := 25) (L' := #[.val (.ref p0), .val (.int p1), .val (.int p2), .val (.int (3 : Int32)), .val (.int (1 : Int32))]) X97 C d29_22 rfl (by decide) rfl rfl ?_
    refine W.goto (q := 3) X97 C d29_25 (by decide) (by decide) ?_
    rw [own_ix_f hc98]
    exact own_g_3_1 l Z a0 hw h0 n0 p0 kb x0 x1 x2 p1 p2 C X97 e97 N97 V0 hr0 hr1 hr2 SA SH SL
  · replace hc98 : x0 = p1 := hc98
    refine W.iload (q := 21) X97 C d29_19 rfl rfl ?_
    exact W.retI X97 C e97 d29_21 (by decide) (by decide) ⟨by rw [own_ix_t hc98] <;> rfl, N97, rfl⟩
def Q29_3 (Z : State) (p0 : Addr) (kb : ClassId) (x0 x1 x2 : Int32) (p1 : Int32) (p2 : Int32) (h0 : Heap) (n0 : Nat) (v : Option Value) (h : Heap) (L : List Loc) : Prop := v = some (.int (own_ix (List.drop p2.toInt.toNat [decide (x0 = p1), decide (x1 = p1), decide (x2 = p1)]) p2)) ∧ Fr n0 L ∧ h = h0
theorem rm29_3 (l : Launch) (Z : State) (a0 : Array Value) (hw : own_HW a0 Z) (ws : List Jvm.Cond) (p0 : Addr) (kb : ClassId) (x0 x1 x2 : Int32) (p1 : Int32) (p2 : Int32) (h0 : Heap) (n0 : Nat) (V0 : Arv Z h0 p0 kb .byte (6 : Int32) [(.int (own_hb x0)), (.int (own_lb x0)), (.int (own_hb x1)), (.int (own_lb x1)), (.int (own_hb x2)), (.int (own_lb x2))] (.int (0 : Int32))) (hr0 : own_r16 x0) (hr1 : own_r16 x1) (hr2 : own_r16 x2) (SA : Sta Z h0 "java/lang/StringUTF16" "$assertionsDisabled" "Z" (.int (1 : Int32))) (SH : Sta Z h0 "java/lang/StringUTF16" "HI_BYTE_SHIFT" "I" (.int (0 : Int32))) (SL : Sta Z h0 "java/lang/StringUTF16" "LO_BYTE_SHIFT" "I" (.int (8 : Int32))) (hf0 : 0 ≤ p2.toInt) (hf1 : p2.toInt ≤ (3 : Nat)) : own_M l y29 jdk_52_method_48_code 5 (some .int) ws r_1_0_0_20 #[(.ref p0), (.int p1), (.int p2), (.int (3 : Int32))] Z h0 (Q29_3 Z p0 kb x0 x1 x2 p1 p2 h0 n0) := by
  refine W.bodyOf (Ls := #[.val (.ref p0), .val (.int p1), .val (.int p2), .val (.int (3 : Int32)), .unset]) (plainFor_of_name pn_java_lang_StringUTF16) (fun m => by first | exact W.entry_of rfl) ?_
  intro p e s m below meth c T0 C X0 e0
  have N0 := Fr.nil n0
  refine W.iloadN (q := 1) X0 C d29_0 rfl rfl ?_
  refine W.istore (q := 3) (L' := #[.val (.ref p0), .val (.int p1), .val (.int p2), .val (.int (3 : Int32)), .val (.int p2)]) X0 C d29_1 rfl rfl ?_
  rcases own_03 hf0 hf1 (by decide) with ⟨rfl, hn⟩ | ⟨rfl, hn⟩ | ⟨rfl, hn⟩ | ⟨rfl, hn⟩ | ⟨rfl, hn⟩
  · exact own_g_3_0 l Z a0 hw h0 n0 p0 kb x0 x1 x2 p1 (0 : Int32) C X0 e0 N0 V0 hr0 hr1 hr2 SA SH SL
  · exact own_g_3_1 l Z a0 hw h0 n0 p0 kb x0 x1 x2 p1 (1 : Int32) C X0 e0 N0 V0 hr0 hr1 hr2 SA SH SL
  · exact own_g_3_2 l Z a0 hw h0 n0 p0 kb x0 x1 x2 p1 (2 : Int32) C X0 e0 N0 V0 hr0 hr1 hr2 SA SH SL
  · exact own_g_3_3 l Z a0 hw h0 n0 p0 kb x0 x1 x2 p1 (3 : Int32) C X0 e0 N0 V0 hr0 hr1 hr2 SA SH SL
  · exact absurd hn (by decide)
def Q24_3 (Z : State) (p0 : Addr) (kb : ClassId) (x0 x1 x2 : Int32) (p1 : Int32) (p2 : Int32) (fv : Value) (h0 : Heap) (n0 : Nat) (v : Option Value) (h : Heap) (L : List Loc) : Prop := v = some (.int (own_ix (List.drop p2.toInt.toNat [decide (x0 = p1), decide (x1 = p1), decide (x2 = p1)]) p2)) ∧ Fr n0 L ∧ h = h0
theorem rm24_3 (l : Launch) (Z : State) (a0 : Array Value) (hw : own_HW a0 Z) (ws : List Jvm.Cond) (p0 : Addr) (kb : ClassId) (x0 x1 x2 : Int32) (p1 : Int32) (p2 : Int32) (fv : Value) (h0 : Heap) (n0 : Nat) (V0 : Arv Z h0 p0 kb .byte (6 : Int32) [(.int (own_hb x0)), (.int (own_lb x0)), (.int (own_hb x1)), (.int (own_lb x1)), (.int (own_hb x2)), (.int (own_lb x2))] (.int (0 : Int32))) (hr0 : own_r16 x0) (hr1 : own_r16 x1) (hr2 : own_r16 x2) (SA : Sta Z h0 "java/lang/StringUTF16" "$assertionsDisabled" "Z" (.int (1 : Int32))) (SH : Sta Z h0 "java/lang/StringUTF16" "HI_BYTE_SHIFT" "I" (.int (0 : Int32))) (SL : Sta Z h0 "java/lang/StringUTF16" "LO_BYTE_SHIFT" "I" (.int (8 : Int32))) (SF : Sta Z h0 "jdk/internal/util/Preconditions" "SIOOBE_FORMATTER" "Ljava/util/function/BiFunction;" fv) (hfv : fv.isRef = true) (hf0 : 0 ≤ p2.toInt) (hf1 : p2.toInt ≤ (3 : Nat)) : own_M l y24 jdk_52_method_47_code 4 (some .int) ws r_3_0_0_48 #[(.ref p0), (.int p1), (.int p2), (.int (3 : Int32))] Z h0 (Q24_3 Z p0 kb x0 x1 x2 p1 p2 fv h0 n0) := by
  refine W.bodyOf (Ls := #[.val (.ref p0), .val (.int p1), .val (.int p2), .val (.int (3 : Int32))]) (plainFor_of_name pn_java_lang_StringUTF16) (fun m => by first | exact W.entry_of rfl) ?_
  intro p e s m below meth c T0 C X0 e0
  have N0 := Fr.nil n0
  refine W.iloadN (q := 1) X0 C d24_0 rfl rfl ?_
  refine W.iloadN (q := 2) X0 C d24_1 rfl rfl ?_
  refine W.aloadN (q := 3) X0 C d24_2 rfl rfl rfl ?_
  refine W.callS (q := 6) X0 C (W.ww hw 106 rfl) (W.ww hw 107 rfl) (W.ww hw 67 rfl) (W.ww hw 108 rfl) (by decide) (rm25 l Z a0 hw [] p2 (3 : Int32) p0 kb _ (6 : Int32) fv h0 n0 hf0 hf1 (by decide) V0 SF hfv) e0 d24_3 [(.int p2), (.int (3 : Int32)), (.ref p0)] [] rfl rfl pd__28II_5bB_29V rfl rfl (by decide) (Nat.le_of_ble_eq_true rfl) (by decide) (by decide) rfl (fun T99 w99 L99 X99 hQ99 => ?_)
  obtain ⟨rfl, NL99, e99⟩ := hQ99
  have N99 := Fr.app N0 NL99
  show W.Go p e below _ (T99.setTop (mkF m 6 #[.val (.ref p0), .val (.int p1), .val (.int p2), .val (.int (3 : Int32))] []))
  refine W.aloadN (q := 7) X99 C d24_6 rfl rfl rfl ?_
  refine W.iloadN (q := 8) X99 C d24_7 rfl rfl ?_
  refine W.iloadN (q := 9) X99 C d24_8 rfl rfl ?_
  refine W.iloadN (q := 10) X99 C d24_9 rfl rfl ?_
  refine W.callS (q := 13) X99 C (W.ww hw 120 rfl) (W.ww hw 121 rfl) (W.ww hw 67 rfl) (W.ww hw 122 rfl) (by decide) (rm29_3 l Z a0 hw [] p0 kb x0 x1 x2 p1 p2 h0 n0 V0 hr0 hr1 hr2 SA SH SL hf0 hf1) e99 d24_10 [(.ref p0), (.int p1), (.int p2), (.int (3 : Int32))] [] rfl rfl pd__28_5bBIII_29I rfl rfl (by decide) (Nat.le_of_ble_eq_true rfl) (by decide) (by decide) rfl (fun T100 w100 L100 X100 hQ100 => ?_)
  obtain ⟨rfl, NL100, e100⟩ := hQ100
  have N100 := Fr.app N99 NL100
  show W.Go p e below _ (T100.setTop (mkF m 13 #[.val (.ref p0), .val (.int p1), .val (.int p2), .val (.int (3 : Int32))] [(.int (own_ix (List.drop p2.toInt.toNat [decide (x0 = p1), decide (x1 = p1), decide (x2 = p1)]) p2))]))
  exact W.retI X100 C e100 d24_13 (by decide) (by decide) ⟨rfl, N100, rfl⟩
def Q23_3 (Z : State) (p0 : Addr) (kb : ClassId) (x0 x1 x2 : Int32) (p1 : Int32) (p2 : Int32) (fv : Value) (h0 : Heap) (n0 : Nat) (v : Option Value) (h : Heap) (L : List Loc) : Prop := v = some (.int (own_ix (List.drop p2.toInt.toNat [decide (x0 = p1), decide (x1 = p1), decide (x2 = p1)]) p2)) ∧ Fr n0 L ∧ h = h0
theorem rm23_3 (l : Launch) (Z : State) (a0 : Array Value) (hw : own_HW a0 Z) (ws : List Jvm.Cond) (p0 : Addr) (kb : ClassId) (x0 x1 x2 : Int32) (p1 : Int32) (p2 : Int32) (fv : Value) (h0 : Heap) (n0 : Nat) (V0 : Arv Z h0 p0 kb .byte (6 : Int32) [(.int (own_hb x0)), (.int (own_lb x0)), (.int (own_hb x1)), (.int (own_lb x1)), (.int (own_hb x2)), (.int (own_lb x2))] (.int (0 : Int32))) (hs16 : own_r16 p1) (hr0 : own_r16 x0) (hr1 : own_r16 x1) (hr2 : own_r16 x2) (SA : Sta Z h0 "java/lang/StringUTF16" "$assertionsDisabled" "Z" (.int (1 : Int32))) (SH : Sta Z h0 "java/lang/StringUTF16" "HI_BYTE_SHIFT" "I" (.int (0 : Int32))) (SL : Sta Z h0 "java/lang/StringUTF16" "LO_BYTE_SHIFT" "I" (.int (8 : Int32))) (SF : Sta Z h0 "jdk/internal/util/Preconditions" "SIOOBE_FORMATTER" "Ljava/util/function/BiFunction;" fv) (hfv : fv.isRef = true) (hf0 : 0 ≤ p2.toInt) (hf1 : p2.toInt ≤ (3 : Nat)) : own_M l y23 jdk_52_method_40_code 4 (some .int) ws r_4_0_0_64 #[(.ref p0), (.int p1), (.int p2), (.int (3 : Int32))] Z h0 (Q23_3 Z p0 kb x0 x1 x2 p1 p2 fv h0 n0) := by
  refine W.bodyOf (Ls := #[.val (.ref p0), .val (.int p1), .val (.int p2), .val (.int (3 : Int32))]) (plainFor_of_name pn_java_lang_StringUTF16) (fun m => by first | exact W.entry_of rfl) ?_
  intro p e s m below meth c T0 C X0 e0
  have N0 := Fr.nil n0
  refine W.iloadN (q := 1) X0 C d23_0 rfl rfl ?_
  refine W.iconst (q := 2) (v := 0) X0 C d23_1 rfl rfl ?_
  refine W.callS (q := 5) X0 C (W.ww hw 100 rfl) (W.ww hw 59 rfl) (W.ww hw 60 rfl) (W.ww hw 61 rfl) (by decide) (rm12 l Z a0 hw [] p2 (0 : Int32) h0 n0) e0 d23_2 [(.int p2), (.int (0 : Int32))] [] rfl rfl pd__28II_29I rfl rfl (by decide) (Nat.le_of_ble_eq_true rfl) (by decide) (by decide) rfl (fun T101 w101 L101 X101 hQ101 => ?_)
  obtain ⟨rfl, NL101, e101⟩ := hQ101
  have N101 := Fr.app N0 NL101
  rw [show own_max p2 (0 : Int32) = p2 from if_neg (Int.not_lt.mpr hf0)]
  show W.Go p e below _ (T101.setTop (mkF m 5 #[.val (.ref p0), .val (.int p1), .val (.int p2), .val (.int (3 : Int32))] [(.int p2)]))
  refine W.istoreN (q := 6) (L' := #[.val (.ref p0), .val (.int p1), .val (.int p2), .val (.int (3 : Int32))]) X101 C d23_5 rfl rfl ?_
  refine W.iloadN (q := 7) X101 C d23_6 rfl rfl ?_
  refine W.aloadN (q := 8) X101 C d23_7 rfl rfl rfl ?_
  refine W.arraylength (q := 9) X101 C e101 V0 d23_8 rfl ?_
  refine W.iconst (q := 10) (v := 1) X101 C d23_9 rfl rfl ?_
  refine W.ishr (q := 11) X101 C d23_10 rfl ?_
  rw [show ((6 : Int32) >>> ((1 : Int32) &&& 31)) = (3 : Int32) by decide]
  refine W.callS (q := 14) X101 C (W.ww hw 101 rfl) (W.ww hw 63 rfl) (W.ww hw 60 rfl) (W.ww hw 64 rfl) (by decide) (rm13 l Z a0 hw [] (3 : Int32) (3 : Int32) h0 n0) e101 d23_11 [(.int (3 : Int32)), (.int (3 : Int32))] [] rfl rfl pd__28II_29I rfl rfl (by decide) (Nat.le_of_ble_eq_true rfl) (by decide) (by decide) rfl (fun T102 w102 L102 X102 hQ102 => ?_)
  obtain ⟨rfl, NL102, e102⟩ := hQ102
  have N102 := Fr.app N101 NL102
  rw [show own_min (3 : Int32) (3 : Int32) = (3 : Int32) by decide]
  show W.Go p e below _ (T102.setTop (mkF m 14 #[.val (.ref p0), .val (.int p1), .val (.int p2), .val (.int (3 : Int32))] [(.int (3 : Int32))]))
  refine W.istoreN (q := 15) (L' := #[.val (.ref p0), .val (.int p1), .val (.int p2), .val (.int (3 : Int32))]) X102 C d23_14 rfl rfl ?_
  refine W.iloadN (q := 16) X102 C d23_15 rfl rfl ?_
  refine W.iloadN (q := 17) X102 C d23_16 rfl rfl ?_
  refine W.icmp (q := 22) (q' := 20) X102 C d23_17 (by decide) (by decide) rfl (fun hc103 => ?_) (fun hc103 => ?_)
  · replace hc103 : p2.toInt < (3 : Int32).toInt := hc103
    refine W.iloadN (q := 23) X102 C d23_22 rfl rfl ?_
    refine W.ldcI (q := 25) X102 C (W.ww hw 102 rfl) d23_23 rfl ?_
    refine W.icmpF (q := 28) X102 C d23_25 rfl (show p1.toInt < (65536 : Int32).toInt from hs16.2) ?_
    refine W.aloadN (q := 29) X102 C d23_28 rfl rfl rfl ?_
    refine W.iloadN (q := 30) X102 C d23_29 rfl rfl ?_
    refine W.iloadN (q := 31) X102 C d23_30 rfl rfl ?_
    refine W.iloadN (q := 32) X102 C d23_31 rfl rfl ?_
    refine W.callS (q := 35) X102 C (W.ww hw 103 rfl) (W.ww hw 104 rfl) (W.ww hw 67 rfl) (W.ww hw 105 rfl) (by decide) (rm24_3 l Z a0 hw [] p0 kb x0 x1 x2 p1 p2 fv h0 n0 V0 hr0 hr1 hr2 SA SH SL SF hfv hf0 hf1) e102 d23_32 [(.ref p0), (.int p1), (.int p2), (.int (3 : Int32))] [] rfl rfl pd__28_5bBIII_29I rfl rfl (by decide) (Nat.le_of_ble_eq_true rfl) (by decide) (by decide) rfl (fun T104 w104 L104 X104 hQ104 => ?_)
    obtain ⟨rfl, NL104, e104⟩ := hQ104
    have N104 := Fr.app N102 NL104
    show W.Go p e below _ (T104.setTop (mkF m 35 #[.val (.ref p0), .val (.int p1), .val (.int p2), .val (.int (3 : Int32))] [(.int (own_ix (List.drop p2.toInt.toNat [decide (x0 = p1), decide (x1 = p1), decide (x2 = p1)]) p2))]))
    exact W.retI X104 C e104 d23_35 (by decide) (by decide) ⟨rfl, N104, rfl⟩
  · replace hc103 : (3 : Int32).toInt ≤ p2.toInt := hc103
    refine W.iconst (q := 21) (v := (-1)) X102 C d23_20 rfl rfl ?_
    exact W.retI X102 C e102 d23_21 (by decide) (by decide) ⟨by rw [own_ixd hc103 rfl], N102, rfl⟩
set_option maxRecDepth 65536 in
set_option maxHeartbeats 40000000 in
theorem own_g_4_4 (l : Launch) (Z : State) (a0 : Array Value) (hw : ∀ d ∈ tables_1, d.before a0 Z = true) (h0 : Heap) (n0 : Nat) (p0 : Addr) (kb : ClassId) (x0 x1 x2 x3 : Int32) (p1 : Int32) (p2 : Int32) {p : Program} {e : Env} {s : State} {m : MethodId} {args : Array Value} {below : List Frame} {meth : Method} {c : Code} {T0 : State} {locs : List Loc}
    (C : W.Cx p s m meth c Z jdk_52_method_48_code 5 "java/lang/StringUTF16" "indexOfCharUnsafe" (some .int)) (X0 : Stand p l e ({ frames := 1, cells := 0, slots := 0, locals := 20 } : Room) s m args below meth c T0 locs 0 0) (e0 : T0.heap = h0) (N0 : Fr n0 locs) (V0 : Arv Z h0 p0 kb .byte (8 : Int32) [(.int (own_hb x0)), (.int (own_lb x0)), (.int (own_hb x1)), (.int (own_lb x1)), (.int (own_hb x2)), (.int (own_lb x2)), (.int (own_hb x3)), (.int (own_lb x3))] (.int (0 : Int32))) (hr0 : own_r16 x0) (hr1 : own_r16 x1) (hr2 : own_r16 x2) (hr3 : own_r16 x3) (SA : Sta Z h0 "java/lang/StringUTF16" "$assertionsDisabled" "Z" (.int (1 : Int32))) (SH : Sta Z h0 "java/lang/StringUTF16" "HI_BYTE_SHIFT" "I" (.int (0 : Int32))) (SL : Sta Z h0 "java/lang/StringUTF16" "LO_BYTE_SHIFT" "I" (.int (8 : Int32))) :
    W.Go p e below (W.Post s (fun v h L => v = some (.int (own_ix [] (4 : Int32))) ∧ Fr n0 L ∧ h = h0) ({ frames := 1, cells := 0, slots := 0, locals := 20 } : Room).cells ({ frames := 1, cells := 0, slots := 0, locals := 20 } : Room).slots) (T0.setTop (mkF m 3 #[.val (.ref p0), .val (.int p1), .val (.int p2), .val (.int (4 : Int32)), .val (.int (4 : Int32))] [])) := by
  refine W.iload (q := 5) X0 C d29_3 rfl rfl ?_
  refine W.iloadN (q := 6) X0 C d29_5 rfl rfl ?_
  refine W.icmpT (q := 28) X0 C d29_6 (by decide) (by decide) (by decide : W.cT .ge (4 : Int32) (4 : Int32)) ?_
  refine W.iconst (q := 29) (v := (-1)) X0 C d29_28 rfl rfl ?_
  exact W.retI X0 C e0 d29_29 (by decide) (by decide) ⟨by rw [own_ix_n] <;> rfl, N0, rfl⟩
set_option maxRecDepth 65536 in
set_option maxHeartbeats 40000000 in
theorem own_g_4_3 (l : Launch) (Z : State) (a0 : Array Value) (hw : ∀ d ∈ tables_1, d.before a0 Z = true) (h0 : Heap) (n0 : Nat) (p0 : Addr) (kb : ClassId) (x0 x1 x2 x3 : Int32) (p1 : Int32) (p2 : Int32) {p : Program} {e : Env} {s : State} {m : MethodId} {args : Array Value} {below : List Frame} {meth : Method} {c : Code} {T0 : State} {locs : List Loc}
    (C : W.Cx p s m meth c Z jdk_52_method_48_code 5 "java/lang/StringUTF16" "indexOfCharUnsafe" (some .int)) (X0 : Stand p l e ({ frames := 1, cells := 0, slots := 0, locals := 20 } : Room) s m args below meth c T0 locs 0 0) (e0 : T0.heap = h0) (N0 : Fr n0 locs) (V0 : Arv Z h0 p0 kb .byte (8 : Int32) [(.int (own_hb x0)), (.int (own_lb x0)), (.int (own_hb x1)), (.int (own_lb x1)), (.int (own_hb x2)), (.int (own_lb x2)), (.int (own_hb x3)), (.int (own_lb x3))] (.int (0 : Int32))) (hr0 : own_r16 x0) (hr1 : own_r16 x1) (hr2 : own_r16 x2) (hr3 : own_r16 x3) (SA : Sta Z h0 "java/lang/StringUTF16" "$assertionsDisabled" "Z" (.int (1 : Int32))) (SH : Sta Z h0 "java/lang/StringUTF16" "HI_BYTE_SHIFT" "I" (.int (0 : Int32))) (SL : Sta Z h0 "java/lang/StringUTF16" "LO_BYTE_SHIFT" "I" (.int (8 : Int32))) :
    W.Go p e below (W.Post s (fun v h L => v = some (.int (own_ix [decide (x3 = p1)] (3 : Int32))) ∧ Fr n0 L ∧ h = h0) ({ frames := 1, cells := 0, slots := 0, locals := 20 } : Room).cells ({ frames := 1, cells := 0, slots := 0, locals := 20 } : Room).slots) (T0.setTop (mkF m 3 #[.val (.ref p0), .val (.int p1), .val (.int p2), .val (.int (4 : Int32)), .val (.int (3 : Int32))] [])) := by
  refine W.iload (q := 5) X0 C d29_3 rfl rfl ?_
  refine W.iloadN (q := 6) X0 C d29_5 rfl rfl ?_
  refine W.icmpF (q := 9) X0 C d29_6 rfl (by decide : W.cF .ge (3 : Int32) (4 : Int32)) ?_
  refine W.aloadN (q := 10) X0 C d29_9 rfl rfl rfl ?_
  refine W.iload (q := 12) X0 C d29_10 rfl rfl ?_
  refine W.callS (q := 15) X0 C (W.ww hw 94 rfl) (W.ww hw 95 rfl) (W.ww hw 67 rfl) (W.ww hw 96 rfl) (by decide) (rm22 l Z a0 hw [] p0 kb [(.int (own_hb x0)), (.int (own_lb x0)), (.int (own_hb x1)), (.int (own_lb x1)), (.int (own_hb x2)), (.int (own_lb x2)), (.int (own_hb x3)), (.int (own_lb x3))] (8 : Int32) (3 : Int32) (6 : Int32) (7 : Int32) x3 h0 n0 V0 (by decide) (by decide) (by decide) (by decide) (by decide) (by decide) rfl rfl hr3 SA SH SL) e0 d29_12 [(.ref p0), (.int (3 : Int32))] [] rfl rfl pd__28_5bBI_29C rfl rfl (by decide) (Nat.le_of_ble_eq_true rfl) (by decide) (by decide) rfl (fun T105 w105 L105 X105 hQ105 => ?_)
  obtain ⟨rfl, NL105, e105⟩ := hQ105
  have N105 := Fr.app N0 NL105
  show W.Go p e below _ (T105.setTop (mkF m 15 #[.val (.ref p0), .val (.int p1), .val (.int p2), .val (.int (4 : Int32)), .val (.int (3 : Int32))] [(.int x3)]))
  refine W.iloadN (q := 16) X105 C d29_15 rfl rfl ?_
  refine W.icmp (q := 22) (q' := 19) X105 C d29_16 (by decide) (by decide) rfl (fun hc106 => ?_) (fun hc106 => ?_)
  · replace hc106 : x3 ≠ p1 := hc106
    refine W.iinc (q := 25) (L' := #[.val (.ref p0), .val (.int p1), .val (.int p2), .val (.int (4 : Int32)), .val (.int (4 : Int32))]) X105 C d29_22 rfl (by decide) rfl rfl ?_
    refine W.goto (q := 3) X105 C d29_25 (by decide) (by decide) ?_
    rw [own_ix_f hc106]
    exact own_g_4_4 l Z a0 hw h0 n0 p0 kb x0 x1 x2 x3 p1 p2 C X105 e105 N105 V0 hr0 hr1 hr2 hr3 SA SH SL
  · replace hc106 : x3 = p1 := hc106
    refine W.iload (q := 21) X105 C d29_19 rfl rfl ?_
    exact W.retI X105 C e105 d29_21 (by decide) (by decide) ⟨by rw [own_ix_t hc106] <;> rfl, N105, rfl⟩
set_option maxRecDepth 65536 in
set_option maxHeartbeats 40000000 in
theorem own_g_4_2 (l : Launch) (Z : State) (a0 : Array Value) (hw : ∀ d ∈ tables_1, d.before a0 Z = true) (h0 : Heap) (n0 : Nat) (p0 : Addr) (kb : ClassId) (x0 x1 x2 x3 : Int32) (p1 : Int32) (p2 : Int32) {p : Program} {e : Env} {s : State} {m : MethodId} {args : Array Value} {below : List Frame} {meth : Method} {c : Code} {T0 : State} {locs : List Loc}
    (C : W.Cx p s m meth c Z jdk_52_method_48_code 5 "java/lang/StringUTF16" "indexOfCharUnsafe" (some .int)) (X0 : Stand p l e ({ frames := 1, cells := 0, slots := 0, locals := 20 } : Room) s m args below meth c T0 locs 0 0) (e0 : T0.heap = h0) (N0 : Fr n0 locs) (V0 : Arv Z h0 p0 kb .byte (8 : Int32) [(.int (own_hb x0)), (.int (own_lb x0)), (.int (own_hb x1)), (.int (own_lb x1)), (.int (own_hb x2)), (.int (own_lb x2)), (.int (own_hb x3)), (.int (own_lb x3))] (.int (0 : Int32))) (hr0 : own_r16 x0) (hr1 : own_r16 x1) (hr2 : own_r16 x2) (hr3 : own_r16 x3) (SA : Sta Z h0 "java/lang/StringUTF16" "$assertionsDisabled" "Z" (.int (1 : Int32))) (SH : Sta Z h0 "java/lang/StringUTF16" "HI_BYTE_SHIFT" "I" (.int (0 : Int32))) (SL : Sta Z h0 "java/lang/StringUTF16" "LO_BYTE_SHIFT" "I" (.int (8 : Int32))) :
    W.Go p e below (W.Post s (fun v h L => v = some (.int (own_ix [decide (x2 = p1), decide (x3 = p1)] (2 : Int32))) ∧ Fr n0 L ∧ h = h0) ({ frames := 1, cells := 0, slots := 0, locals := 20 } : Room).cells ({ frames := 1, cells := 0, slots := 0, locals := 20 } : Room).slots) (T0.setTop (mkF m 3 #[.val (.ref p0), .val (.int p1), .val (.int p2), .val (.int (4 : Int32)), .val (.int (2 : Int32))] [])) := by
  refine W.iload (q := 5) X0 C d29_3 rfl rfl ?_
  refine W.iloadN (q := 6) X0 C d29_5 rfl rfl ?_
  refine W.icmpF (q := 9) X0 C d29_6 rfl (by decide : W.cF .ge (2 : Int32) (4 : Int32)) ?_
  refine W.aloadN (q := 10) X0 C d29_9 rfl rfl rfl ?_
  refine W.iload (q := 12) X0 C d29_10 rfl rfl ?_
  refine W.callS (q := 15) X0 C (W.ww hw 94 rfl) (W.ww hw 95 rfl) (W.ww hw 67 rfl) (W.ww hw 96 rfl) (by decide) (rm22 l Z a0 hw [] p0 kb [(.int (own_hb x0)), (.int (own_lb x0)), (.int (own_hb x1)), (.int (own_lb x1)), (.int (own_hb x2)), (.int (own_lb x2)), (.int (own_hb x3)), (.int (own_lb x3))] (8 : Int32) (2 : Int32) (4 : Int32) (5 : Int32) x2 h0 n0 V0 (by decide) (by decide) (by decide) (by decide) (by decide) (by decide) rfl rfl hr2 SA SH SL) e0 d29_12 [(.ref p0), (.int (2 : Int32))] [] rfl rfl pd__28_5bBI_29C rfl rfl (by decide) (Nat.le_of_ble_eq_true rfl) (by decide) (by decide) rfl (fun T107 w107 L107 X107 hQ107 => ?_)
  obtain ⟨rfl, NL107, e107⟩ := hQ107
  have N107 := Fr.app N0 NL107
  show W.Go p e below _ (T107.setTop (mkF m 15 #[.val (.ref p0), .val (.int p1), .val (.int p2), .val (.int (4 : Int32)), .val (.int (2 : Int32))] [(.int x2)]))
  refine W.iloadN (q := 16) X107 C d29_15 rfl rfl ?_
  refine W.icmp (q := 22) (q' := 19) X107 C d29_16 (by decide) (by decide) rfl (fun hc108 => ?_) (fun hc108 => ?_)
  · replace hc108 : x2 ≠ p1 := hc108
    refine W.iinc (q := 25) (L' := #[.val (.ref p0), .val (.int p1), .val (.int p2), .val (.int (4 : Int32)), .val (.int (3 : Int32))]) X107 C d29_22 rfl (by decide) rfl rfl ?_
    refine W.goto (q := 3) X107 C d29_25 (by decide) (by decide) ?_
    rw [own_ix_f hc108]
    exact own_g_4_3 l Z a0 hw h0 n0 p0 kb x0 x1 x2 x3 p1 p2 C X107 e107 N107 V0 hr0 hr1 hr2 hr3 SA SH SL
  · replace hc108 : x2 = p1 := hc108
    refine W.iload (q := 21) X107 C d29_19 rfl rfl ?_
    exact W.retI X107 C e107 d29_21 (by decide) (by decide) ⟨by rw [own_ix_t hc108] <;> rfl, N107, rfl⟩
set_option maxRecDepth 65536 in
set_option maxHeartbeats 40000000 in
theorem own_g_4_1 (l : Launch) (Z : State) (a0 : Array Value) (hw : ∀ d ∈ tables_1, d.before a0 Z = true) (h0 : Heap) (n0 : Nat) (p0 : Addr) (kb : ClassId) (x0 x1 x2 x3 : Int32) (p1 : Int32) (p2 : Int32) {p : Program} {e : Env} {s : State} {m : MethodId} {args : Array Value} {below : List Frame} {meth : Method} {c : Code} {T0 : State} {locs : List Loc}
    (C : W.Cx p s m meth c Z jdk_52_method_48_code 5 "java/lang/StringUTF16" "indexOfCharUnsafe" (some .int)) (X0 : Stand p l e ({ frames := 1, cells := 0, slots := 0, locals := 20 } : Room) s m args below meth c T0 locs 0 0) (e0 : T0.heap = h0) (N0 : Fr n0 locs) (V0 : Arv Z h0 p0 kb .byte (8 : Int32) [(.int (own_hb x0)), (.int (own_lb x0)), (.int (own_hb x1)), (.int (own_lb x1)), (.int (own_hb x2)), (.int (own_lb x2)), (.int (own_hb x3)), (.int (own_lb x3))] (.int (0 : Int32))) (hr0 : own_r16 x0) (hr1 : own_r16 x1) (hr2 : own_r16 x2) (hr3 : own_r16 x3) (SA : Sta Z h0 "java/lang/StringUTF16" "$assertionsDisabled" "Z" (.int (1 : Int32))) (SH : Sta Z h0 "java/lang/StringUTF16" "HI_BYTE_SHIFT" "I" (.int (0 : Int32))) (SL : Sta Z h0 "java/lang/StringUTF16" "LO_BYTE_SHIFT" "I" (.int (8 : Int32))) :
    W.Go p e below (W.Post s (fun v h L => v = some (.int (own_ix [decide (x1 = p1), decide (x2 = p1), decide (x3 = p1)] (1 : Int32))) ∧ Fr n0 L ∧ h = h0) ({ frames := 1, cells := 0, slots := 0, locals := 20 } : Room).cells ({ frames := 1, cells := 0, slots := 0, locals := 20 } : Room).slots) (T0.setTop (mkF m 3 #[.val (.ref p0), .val (.int p1), .val (.int p2), .val (.int (4 : Int32)), .val (.int (1 : Int32))] [])) := by
  refine W.iload (q := 5) X0 C d29_3 rfl rfl ?_
  refine W.iloadN (q := 6) X0 C d29_5 rfl rfl ?_
  refine W.icmpF (q := 9) X0 C d29_6 rfl (by decide : W.cF .ge (1 : Int32) (4 : Int32)) ?_
  refine W.aloadN (q := 10) X0 C d29_9 rfl rfl rfl ?_
  refine W.iload (q := 12) X0 C d29_10 rfl rfl ?_
  refine W.callS (q := 15) X0 C (W.ww hw 94 rfl) (W.ww hw 95 rfl) (W.ww hw 67 rfl) (W.ww hw 96 rfl) (by decide) (rm22 l Z a0 hw [] p0 kb [(.int (own_hb x0)), (.int (own_lb x0)), (.int (own_hb x1)), (.int (own_lb x1)), (.int (own_hb x2)), (.int (own_lb x2)), (.int (own_hb x3)), (.int (own_lb x3))] (8 : Int32) (1 : Int32) (2 : Int32) (3 : Int32) x1 h0 n0 V0 (by decide) (by decide) (by decide) (by decide) (by decide) (by decide) rfl rfl hr1 SA SH SL) e0 d29_12 [(.ref p0), (.int (1 : Int32))] [] rfl rfl pd__28_5bBI_29C rfl rfl (by decide) (Nat.le_of_ble_eq_true rfl) (by decide) (by decide) rfl (fun T109 w109 L109 X109 hQ109 => ?_)
  obtain ⟨rfl, NL109, e109⟩ := hQ109
  have N109 := Fr.app N0 NL109
  show W.Go p e below _ (T109.setTop (mkF m 15 #[.val (.ref p0), .val (.int p1), .val (.int p2), .val (.int (4 : Int32)), .val (.int (1 : Int32))] [(.int x1)]))
  refine W.iloadN (q := 16) X109 C d29_15 rfl rfl ?_
  refine W.icmp (q := 22) (q' := 19) X109 C d29_16 (by decide) (by decide) rfl (fun hc110 => ?_) (fun hc110 => ?_)
  · replace hc110 : x1 ≠ p1 := hc110
    refine W.iinc (q := 25) (L' := #[.val (.ref p0), .val (.int p1), .val (.int p2), .val (.int (4 : Int32)), .val (.int (2 : Int32))]) X109 C d29_22 rfl (by decide) rfl rfl ?_
    refine W.goto (q := 3) X109 C d29_25 (by decide) (by decide) ?_
    rw [own_ix_f hc110]
    exact own_g_4_2 l Z a0 hw h0 n0 p0 kb x0 x1 x2 x3 p1 p2 C X109 e109 N109 V0 hr0 hr1 hr2 hr3 SA SH SL
  · replace hc110 : x1 = p1 := hc110
    refine W.iload (q := 21) X109 C d29_19 rfl rfl ?_
    exact W.retI X109 C e109 d29_21 (by decide) (by decide) ⟨by rw [own_ix_t hc110] <;> rfl, N109, rfl⟩
set_option maxRecDepth 65536 in
set_option maxHeartbeats 40000000 in
theorem own_g_4_0 (l : Launch) (Z : State) (a0 : Array Value) (hw : ∀ d ∈ tables_1, d.before a0 Z = true) (h0 : Heap) (n0 : Nat) (p0 : Addr) (kb : ClassId) (x0 x1 x2 x3 : Int32) (p1 : Int32) (p2 : Int32) {p : Program} {e : Env} {s : State} {m : MethodId} {args : Array Value} {below : List Frame} {meth : Method} {c : Code} {T0 : State} {locs : List Loc}
    (C : W.Cx p s m meth c Z jdk_52_method_48_code 5 "java/lang/StringUTF16" "indexOfCharUnsafe" (some .int)) (X0 : Stand p l e ({ frames := 1, cells := 0, slots := 0, locals := 20 } : Room) s m args below meth c T0 locs 0 0) (e0 : T0.heap = h0) (N0 : Fr n0 locs) (V0 : Arv Z h0 p0 kb .byte (8 : Int32) [(.int (own_hb x0)), (.int (own_lb x0)), (.int (own_hb x1)), (.int (own_lb x1)), (.int (own_hb x2)), (.int (own_lb x2)), (.int (own_hb x3)), (.int (own_lb x3))] (.int (0 : Int32))) (hr0 : own_r16 x0) (hr1 : own_r16 x1) (hr2 : own_r16 x2) (hr3 : own_r16 x3) (SA : Sta Z h0 "java/lang/StringUTF16" "$assertionsDisabled" "Z" (.int (1 : Int32))) (SH : Sta Z h0 "java/lang/StringUTF16" "HI_BYTE_SHIFT" "I" (.int (0 : Int32))) (SL : Sta Z h0 "java/lang/StringUTF16" "LO_BYTE_SHIFT" "I" (.int (8 : Int32))) :
    W.Go p e below (W.Post s (fun v h L => v = some (.int (own_ix [decide (x0 = p1), decide (x1 = p1), decide (x2 = p1), decide (x3 = p1)] (0 : Int32))) ∧ Fr n0 L ∧ h = h0) ({ frames := 1, cells := 0, slots := 0, locals := 20 } : Room).cells ({ frames := 1, cells := 0, slots := 0, locals := 20 } : Room).slots) (T0.setTop (mkF m 3 #[.val (.ref p0), .val (.int p1), .val (.int p2), .val (.int (4 : Int32)), .val (.int (0 : Int32))] [])) := by
  refine W.iload (q := 5) X0 C d29_3 rfl rfl ?_
  refine W.iloadN (q := 6) X0 C d29_5 rfl rfl ?_
  refine W.icmpF (q := 9) X0 C d29_6 rfl (by decide : W.cF .ge (0 : Int32) (4 : Int32)) ?_
  refine W.aloadN (q := 10) X0 C d29_9 rfl rfl rfl ?_
  refine W.iload (q := 12) X0 C d29_10 rfl rfl ?_
  refine W.callS (q := 15) X0 C (W.ww hw 94 rfl) (W.ww hw 95 rfl) (W.ww hw 67 rfl) (W.ww hw 96 rfl) (by decide) (rm22 l Z a0 hw [] p0 kb [(.int (own_hb x0)), (.int (own_lb x0)), (.int (own_hb x1)), (.int (own_lb x1)), (.int (own_hb x2)), (.int (own_lb x2)), (.int (own_hb x3)), (.int (own_lb x3))] (8 : Int32) (0 : Int32) (0 : Int32) (1 : Int32) x0 h0 n0 V0 (by decide) (by decide) (by decide) (by decide) (by decide) (by decide) rfl rfl hr0 SA SH SL) e0 d29_12 [(.ref p0), (.int (0 : Int32))] [] rfl rfl pd__28_5bBI_29C rfl rfl (by decide) (Nat.le_of_ble_eq_true rfl) (by decide) (by decide) rfl (fun T111 w111 L111 X111 hQ111 => ?_)
  obtain ⟨rfl, NL111, e111⟩ := hQ111
  have N111 := Fr.app N0 NL111
  show W.Go p e below _ (T111.setTop (mkF m 15 #[.val (.ref p0), .val (.int p1), .val (.int p2), .val (.int (4 : Int32)), .val (.int (0 : Int32))] [(.int x0)]))
  refine W.iloadN (q := 16) X111 C d29_15 rfl rfl ?_
  refine W.icmp (q := 22) (q' := 19) X111 C d29_16 (by decide) (by decide) rfl (fun hc112 => ?_) (fun hc112 => ?_)
  · replace hc112 : x0 ≠ p1 := hc112
    refine W.iinc (q := 25) (L' := #[.val (.ref p0), .val (.int p1), .val (.int p2), .val (.int (4 : Int32)), .val (.int (1 : Int32))]) X111 C d29_22 rfl (by decide) rfl rfl ?_
    refine W.goto (q := 3) X111 C d29_25 (by decide) (by decide) ?_
    rw [own_ix_f hc112]
    exact own_g_4_1 l Z a0 hw h0 n0 p0 kb x0 x1 x2 x3 p1 p2 C X111 e111 N111 V0 hr0 hr1 hr2 hr3 SA SH SL
  · replace hc112 : x0 = p1 := hc112
    refine W.iload (q := 21) X111 C d29_19 rfl rfl ?_
    exact W.retI X111 C e111 d29_21 (by decide) (by decide) ⟨by rw [own_ix_t hc112] <;> rfl, N111, rfl⟩
def Q29_4 (Z : State) (p0 : Addr) (kb : ClassId) (x0 x1 x2 x3 : Int32) (p1 : Int32) (p2 : Int32) (h0 : Heap) (n0 : Nat) (v : Option Value) (h : Heap) (L : List Loc) : Prop := v = some (.int (own_ix (List.drop p2.toInt.toNat [decide (x0 = p1), decide (x1 = p1), decide (x2 = p1), decide (x3 = p1)]) p2)) ∧ Fr n0 L ∧ h = h0
theorem rm29_4 (l : Launch) (Z : State) (a0 : Array Value) (hw : own_HW a0 Z) (ws : List Jvm.Cond) (p0 : Addr) (kb : ClassId) (x0 x1 x2 x3 : Int32) (p1 : Int32) (p2 : Int32) (h0 : Heap) (n0 : Nat) (V0 : Arv Z h0 p0 kb .byte (8 : Int32) [(.int (own_hb x0)), (.int (own_lb x0)), (.int (own_hb x1)), (.int (own_lb x1)), (.int (own_hb x2)), (.int (own_lb x2)), (.int (own_hb x3)), (.int (own_lb x3))] (.int (0 : Int32))) (hr0 : own_r16 x0) (hr1 : own_r16 x1) (hr2 : own_r16 x2) (hr3 : own_r16 x3) (SA : Sta Z h0 "java/lang/StringUTF16" "$assertionsDisabled" "Z" (.int (1 : Int32))) (SH : Sta Z h0 "java/lang/StringUTF16" "HI_BYTE_SHIFT" "I" (.int (0 : Int32))) (SL : Sta Z h0 "java/lang/StringUTF16" "LO_BYTE_SHIFT" "I" (.int (8 : Int32))) (hf0 : 0 ≤ p2.toInt) (hf1 : p2.toInt ≤ (4 : Nat)) : own_M l y29 jdk_52_method_48_code 5 (some .int) ws r_1_0_0_20 #[(.ref p0), (.int p1), (.int p2), (.int (4 : Int32))] Z h0 (Q29_4 Z p0 kb x0 x1 x2 x3 p1 p2 h0 n0) := by
  refine W.bodyOf (Ls := #[.val (.ref p0), .val (.int p1), .val (.int p2), .val (.int (4 : Int32)), .unset]) (plainFor_of_name pn_java_lang_StringUTF16) (fun m => by first | exact W.entry_of rfl) ?_
  intro p e s m below meth c T0 C X0 e0
  have N0 := Fr.nil n0
  refine W.iloadN (q := 1) X0 C d29_0 rfl rfl ?_
  refine W.istore (q := 3) (L' := #[.val (.ref p0), .val (.int p1), .val (.int p2), .val (.int (4 : Int32)), .val (.int p2)]) X0 C d29_1 rfl rfl ?_
  rcases own_03 hf0 hf1 (by decide) with ⟨rfl, hn⟩ | ⟨rfl, hn⟩ | ⟨rfl, hn⟩ | ⟨rfl, hn⟩ | ⟨rfl, hn⟩
  · exact own_g_4_0 l Z a0 hw h0 n0 p0 kb x0 x1 x2 x3 p1 (0 : Int32) C X0 e0 N0 V0 hr0 hr1 hr2 hr3 SA SH SL
  · exact own_g_4_1 l Z a0 hw h0 n0 p0 kb x0 x1 x2 x3 p1 (1 : Int32) C X0 e0 N0 V0 hr0 hr1 hr2 hr3 SA SH SL
  · exact own_g_4_2 l Z a0 hw h0 n0 p0 kb x0 x1 x2 x3 p1 (2 : Int32) C X0 e0 N0 V0 hr0 hr1 hr2 hr3 SA SH SL
  · exact own_g_4_3 l Z a0 hw h0 n0 p0 kb x0 x1 x2 x3 p1 (3 : Int32) C X0 e0 N0 V0 hr0 hr1 hr2 hr3 SA SH SL
  · exact own_g_4_4 l Z a0 hw h0 n0 p0 kb x0 x1 x2 x3 p1 (4 : Int32) C X0 e0 N0 V0 hr0 hr1 hr2 hr3 SA SH SL
def Q24_4 (Z : State) (p0 : Addr) (kb : ClassId) (x0 x1 x2 x3 : Int32) (p1 : Int32) (p2 : Int32) (fv : Value) (h0 : Heap) (n0 : Nat) (v : Option Value) (h : Heap) (L : List Loc) : Prop := v = some (.int (own_ix (List.drop p2.toInt.toNat [decide (x0 = p1), decide (x1 = p1), decide (x2 = p1), decide (x3 = p1)]) p2)) ∧ Fr n0 L ∧ h = h0
theorem rm24_4 (l : Launch) (Z : State) (a0 : Array Value) (hw : own_HW a0 Z) (ws : List Jvm.Cond) (p0 : Addr) (kb : ClassId) (x0 x1 x2 x3 : Int32) (p1 : Int32) (p2 : Int32) (fv : Value) (h0 : Heap) (n0 : Nat) (V0 : Arv Z h0 p0 kb .byte (8 : Int32) [(.int (own_hb x0)), (.int (own_lb x0)), (.int (own_hb x1)), (.int (own_lb x1)), (.int (own_hb x2)), (.int (own_lb x2)), (.int (own_hb x3)), (.int (own_lb x3))] (.int (0 : Int32))) (hr0 : own_r16 x0) (hr1 : own_r16 x1) (hr2 : own_r16 x2) (hr3 : own_r16 x3) (SA : Sta Z h0 "java/lang/StringUTF16" "$assertionsDisabled" "Z" (.int (1 : Int32))) (SH : Sta Z h0 "java/lang/StringUTF16" "HI_BYTE_SHIFT" "I" (.int (0 : Int32))) (SL : Sta Z h0 "java/lang/StringUTF16" "LO_BYTE_SHIFT" "I" (.int (8 : Int32))) (SF : Sta Z h0 "jdk/internal/util/Preconditions" "SIOOBE_FORMATTER" "Ljava/util/function/BiFunction;" fv) (hfv : fv.isRef = true) (hf0 : 0 ≤ p2.toInt) (hf1 : p2.toInt ≤ (4 : Nat)) : own_M l y24 jdk_52_method_47_code 4 (some .int) ws r_3_0_0_48 #[(.ref p0), (.int p1), (.int p2), (.int (4 : Int32))] Z h0 (Q24_4 Z p0 kb x0 x1 x2 x3 p1 p2 fv h0 n0) := by
  refine W.bodyOf (Ls := #[.val (.ref p0), .val (.int p1), .val (.int p2), .val (.int (4 : Int32))]) (plainFor_of_name pn_java_lang_StringUTF16) (fun m => by first | exact W.entry_of rfl) ?_
  intro p e s m below meth c T0 C X0 e0
  have N0 := Fr.nil n0
  refine W.iloadN (q := 1) X0 C d24_0 rfl rfl ?_
  refine W.iloadN (q := 2) X0 C d24_1 rfl rfl ?_
  refine W.aloadN (q := 3) X0 C d24_2 rfl rfl rfl ?_
  refine W.callS (q := 6) X0 C (W.ww hw 106 rfl) (W.ww hw 107 rfl) (W.ww hw 67 rfl) (W.ww hw 108 rfl) (by decide) (rm25 l Z a0 hw [] p2 (4 : Int32) p0 kb _ (8 : Int32) fv h0 n0 hf0 hf1 (by decide) V0 SF hfv) e0 d24_3 [(.int p2), (.int (4 : Int32)), (.ref p0)] [] rfl rfl pd__28II_5bB_29V rfl rfl (by decide) (Nat.le_of_ble_eq_true rfl) (by decide) (by decide) rfl (fun T113 w113 L113 X113 hQ113 => ?_)
  obtain ⟨rfl, NL113, e113⟩ := hQ113
  have N113 := Fr.app N0 NL113
  show W.Go p e below _ (T113.setTop (mkF m 6 #[.val (.ref p0), .val (.int p1), .val (.int p2), .val (.int (4 : Int32))] []))
  refine W.aloadN (q := 7) X113 C d24_6 rfl rfl rfl ?_
  refine W.iloadN (q := 8) X113 C d24_7 rfl rfl ?_
  refine W.iloadN (q := 9) X113 C d24_8 rfl rfl ?_
  refine W.iloadN (q := 10) X113 C d24_9 rfl rfl ?_
  refine W.callS (q := 13) X113 C (W.ww hw 120 rfl) (W.ww hw 121 rfl) (W.ww hw 67 rfl) (W.ww hw 122 rfl) (by decide) (rm29_4 l Z a0 hw [] p0 kb x0 x1 x2 x3 p1 p2 h0 n0 V0 hr0 hr1 hr2 hr3 SA SH SL hf0 hf1) e113 d24_10 [(.ref p0), (.int p1), (.int p2), (.int (4 : Int32))] [] rfl rfl pd__28_5bBIII_29I rfl rfl (by decide) (Nat.le_of_ble_eq_true rfl) (by decide) (by decide) rfl (fun T114 w114 L114 X114 hQ114 => ?_)
  obtain ⟨rfl, NL114, e114⟩ := hQ114
  have N114 := Fr.app N113 NL114
  show W.Go p e below _ (T114.setTop (mkF m 13 #[.val (.ref p0), .val (.int p1), .val (.int p2), .val (.int (4 : Int32))] [(.int (own_ix (List.drop p2.toInt.toNat [decide (x0 = p1), decide (x1 = p1), decide (x2 = p1), decide (x3 = p1)]) p2))]))
  exact W.retI X114 C e114 d24_13 (by decide) (by decide) ⟨rfl, N114, rfl⟩
def Q23_4 (Z : State) (p0 : Addr) (kb : ClassId) (x0 x1 x2 x3 : Int32) (p1 : Int32) (p2 : Int32) (fv : Value) (h0 : Heap) (n0 : Nat) (v : Option Value) (h : Heap) (L : List Loc) : Prop := v = some (.int (own_ix (List.drop p2.toInt.toNat [decide (x0 = p1), decide (x1 = p1), decide (x2 = p1), decide (x3 = p1)]) p2)) ∧ Fr n0 L ∧ h = h0
theorem rm23_4 (l : Launch) (Z : State) (a0 : Array Value) (hw : own_HW a0 Z) (ws : List Jvm.Cond) (p0 : Addr) (kb : ClassId) (x0 x1 x2 x3 : Int32) (p1 : Int32) (p2 : Int32) (fv : Value) (h0 : Heap) (n0 : Nat) (V0 : Arv Z h0 p0 kb .byte (8 : Int32) [(.int (own_hb x0)), (.int (own_lb x0)), (.int (own_hb x1)), (.int (own_lb x1)), (.int (own_hb x2)), (.int (own_lb x2)), (.int (own_hb x3)), (.int (own_lb x3))] (.int (0 : Int32))) (hs16 : own_r16 p1) (hr0 : own_r16 x0) (hr1 : own_r16 x1) (hr2 : own_r16 x2) (hr3 : own_r16 x3) (SA : Sta Z h0 "java/lang/StringUTF16" "$assertionsDisabled" "Z" (.int (1 : Int32))) (SH : Sta Z h0 "java/lang/StringUTF16" "HI_BYTE_SHIFT" "I" (.int (0 : Int32))) (SL : Sta Z h0 "java/lang/StringUTF16" "LO_BYTE_SHIFT" "I" (.int (8 : Int32))) (SF : Sta Z h0 "jdk/internal/util/Preconditions" "SIOOBE_FORMATTER" "Ljava/util/function/BiFunction;" fv) (hfv : fv.isRef = true) (hf0 : 0 ≤ p2.toInt) (hf1 : p2.toInt ≤ (4 : Nat)) : own_M l y23 jdk_52_method_40_code 4 (some .int) ws r_4_0_0_64 #[(.ref p0), (.int p1), (.int p2), (.int (4 : Int32))] Z h0 (Q23_4 Z p0 kb x0 x1 x2 x3 p1 p2 fv h0 n0) := by
  refine W.bodyOf (Ls := #[.val (.ref p0), .val (.int p1), .val (.int p2), .val (.int (4 : Int32))]) (plainFor_of_name pn_java_lang_StringUTF16) (fun m => by first | exact W.entry_of rfl) ?_
  intro p e s m below meth c T0 C X0 e0
  have N0 := Fr.nil n0
  refine W.iloadN (q := 1) X0 C d23_0 rfl rfl ?_
  refine W.iconst (q := 2) (v := 0) X0 C d23_1 rfl rfl ?_
  refine W.callS (q := 5) X0 C (W.ww hw 100 rfl) (W.ww hw 59 rfl) (W.ww hw 60 rfl) (W.ww hw 61 rfl) (by decide) (rm12 l Z a0 hw [] p2 (0 : Int32) h0 n0) e0 d23_2 [(.int p2), (.int (0 : Int32))] [] rfl rfl pd__28II_29I rfl rfl (by decide) (Nat.le_of_ble_eq_true rfl) (by decide) (by decide) rfl (fun T115 w115 L115 X115 hQ115 => ?_)
  obtain ⟨rfl, NL115, e115⟩ := hQ115
  have N115 := Fr.app N0 NL115
  rw [show own_max p2 (0 : Int32) = p2 from if_neg (Int.not_lt.mpr hf0)]
  show W.Go p e below _ (T115.setTop (mkF m 5 #[.val (.ref p0), .val (.int p1), .val (.int p2), .val (.int (4 : Int32))] [(.int p2)]))
  refine W.istoreN (q := 6) (L' := #[.val (.ref p0), .val (.int p1), .val (.int p2), .val (.int (4 : Int32))]) X115 C d23_5 rfl rfl ?_
  refine W.iloadN (q := 7) X115 C d23_6 rfl rfl ?_
  refine W.aloadN (q := 8) X115 C d23_7 rfl rfl rfl ?_
  refine W.arraylength (q := 9) X115 C e115 V0 d23_8 rfl ?_
  refine W.iconst (q := 10) (v := 1) X115 C d23_9 rfl rfl ?_
  refine W.ishr (q := 11) X115 C d23_10 rfl ?_
  rw [show ((8 : Int32) >>> ((1 : Int32) &&& 31)) = (4 : Int32) by decide]
  refine W.callS (q := 14) X115 C (W.ww hw 101 rfl) (W.ww hw 63 rfl) (W.ww hw 60 rfl) (W.ww hw 64 rfl) (by decide) (rm13 l Z a0 hw [] (4 : Int32) (4 : Int32) h0 n0) e115 d23_11 [(.int (4 : Int32)), (.int (4 : Int32))] [] rfl rfl pd__28II_29I rfl rfl (by decide) (Nat.le_of_ble_eq_true rfl) (by decide) (by decide) rfl (fun T116 w116 L116 X116 hQ116 => ?_)
  obtain ⟨rfl, NL116, e116⟩ := hQ116
  have N116 := Fr.app N115 NL116
  rw [show own_min (4 : Int32) (4 : Int32) = (4 : Int32) by decide]
  show W.Go p e below _ (T116.setTop (mkF m 14 #[.val (.ref p0), .val (.int p1), .val (.int p2), .val (.int (4 : Int32))] [(.int (4 : Int32))]))
  refine W.istoreN (q := 15) (L' := #[.val (.ref p0), .val (.int p1), .val (.int p2), .val (.int (4 : Int32))]) X116 C d23_14 rfl rfl ?_
  refine W.iloadN (q := 16) X116 C d23_15 rfl rfl ?_
  refine W.iloadN (q := 17) X116 C d23_16 rfl rfl ?_
  refine W.icmp (q := 22) (q' := 20) X116 C d23_17 (by decide) (by decide) rfl (fun hc117 => ?_) (fun hc117 => ?_)
  · replace hc117 : p2.toInt < (4 : Int32).toInt := hc117
    refine W.iloadN (q := 23) X116 C d23_22 rfl rfl ?_
    refine W.ldcI (q := 25) X116 C (W.ww hw 102 rfl) d23_23 rfl ?_
    refine W.icmpF (q := 28) X116 C d23_25 rfl (show p1.toInt < (65536 : Int32).toInt from hs16.2) ?_
    refine W.aloadN (q := 29) X116 C d23_28 rfl rfl rfl ?_
    refine W.iloadN (q := 30) X116 C d23_29 rfl rfl ?_
    refine W.iloadN (q := 31) X116 C d23_30 rfl rfl ?_
    refine W.iloadN (q := 32) X116 C d23_31 rfl rfl ?_
    refine W.callS (q := 35) X116 C (W.ww hw 103 rfl) (W.ww hw 104 rfl) (W.ww hw 67 rfl) (W.ww hw 105 rfl) (by decide) (rm24_4 l Z a0 hw [] p0 kb x0 x1 x2 x3 p1 p2 fv h0 n0 V0 hr0 hr1 hr2 hr3 SA SH SL SF hfv hf0 hf1) e116 d23_32 [(.ref p0), (.int p1), (.int p2), (.int (4 : Int32))] [] rfl rfl pd__28_5bBIII_29I rfl rfl (by decide) (Nat.le_of_ble_eq_true rfl) (by decide) (by decide) rfl (fun T118 w118 L118 X118 hQ118 => ?_)
    obtain ⟨rfl, NL118, e118⟩ := hQ118
    have N118 := Fr.app N116 NL118
    show W.Go p e below _ (T118.setTop (mkF m 35 #[.val (.ref p0), .val (.int p1), .val (.int p2), .val (.int (4 : Int32))] [(.int (own_ix (List.drop p2.toInt.toNat [decide (x0 = p1), decide (x1 = p1), decide (x2 = p1), decide (x3 = p1)]) p2))]))
    exact W.retI X118 C e118 d23_35 (by decide) (by decide) ⟨rfl, N118, rfl⟩
  · replace hc117 : (4 : Int32).toInt ≤ p2.toInt := hc117
    refine W.iconst (q := 21) (v := (-1)) X116 C d23_20 rfl rfl ?_
    exact W.retI X116 C e116 d23_21 (by decide) (by decide) ⟨by rw [own_ixd hc117 rfl], N116, rfl⟩
abbrev own_S (Z : State) (h0 : Heap) (cs : Int32) (fv : Value) : Prop := Sta Z h0 "java/lang/String" "COMPACT_STRINGS" "Z" (.int cs) ∧ cs ≠ 0 ∧ Sta Z h0 "java/lang/StringUTF16" "$assertionsDisabled" "Z" (.int (1 : Int32)) ∧ Sta Z h0 "java/lang/StringUTF16" "HI_BYTE_SHIFT" "I" (.int (0 : Int32)) ∧ Sta Z h0 "java/lang/StringUTF16" "LO_BYTE_SHIFT" "I" (.int (8 : Int32)) ∧ Sta Z h0 "jdk/internal/util/Preconditions" "SIOOBE_FORMATTER" "Ljava/util/function/BiFunction;" fv ∧ fv.isRef = true
theorem d6_0 : decode jdk_42_method_80_code 0 = .ok (.aload_n 0, 1) := by decide +kernel
theorem d6_1 : decode jdk_42_method_80_code 1 = .ok (.invokevirtual 492, 3) := by decide +kernel
theorem pd__28_29Z : parseMethodDescriptor "()Z" = some ⟨[], some .boolean⟩ := by decide +kernel
theorem d6_4 : decode jdk_42_method_80_code 4 = .ok (.ifCond .eq 19, 3) := by decide +kernel
theorem d6_7 : decode jdk_42_method_80_code 7 = .ok (.aload_n 0, 1) := by decide +kernel
theorem d6_8 : decode jdk_42_method_80_code 8 = .ok (.getfield 9, 3) := by decide +kernel
theorem d6_11 : decode jdk_42_method_80_code 11 = .ok (.iload_n 1, 1) := by decide +kernel
theorem d6_12 : decode jdk_42_method_80_code 12 = .ok (.iload_n 2, 1) := by decide +kernel
theorem d6_13 : decode jdk_42_method_80_code 13 = .ok (.aload_n 0, 1) := by decide +kernel
theorem d6_14 : decode jdk_42_method_80_code 14 = .ok (.invokevirtual 505, 3) := by decide +kernel
theorem pd__28_29I : parseMethodDescriptor "()I" = some ⟨[], some .int⟩ := by decide +kernel
theorem d6_17 : decode jdk_42_method_80_code 17 = .ok (.invokestatic 637, 3) := by decide +kernel
theorem d6_20 : decode jdk_42_method_80_code 20 = .ok (.goto 16, 3) := by decide +kernel
theorem d6_36 : decode jdk_42_method_80_code 36 = .ok (.ireturn, 1) := by decide +kernel
abbrev y6 : MethodName := ⟨"java/lang/String", "indexOf", "(II)I"⟩
abbrev r_5_0_0_84 : Room := { frames := 5, cells := 0, slots := 0, locals := 84 }
def Q6_0 (Z : State) (p0 : Addr) (p1 p2 cs : Int32) (fv : Value) (h0 : Heap) (n0 : Nat) (v : Option Value) (h : Heap) (L : List Loc) : Prop := v = some (.int (own_ix (List.drop p2.toInt.toNat []) p2)) ∧ Fr n0 L ∧ h = h0
theorem rm6_0 (l : Launch) (Z : State) (a0 : Array Value) (hw : own_HW a0 Z) (ws : List Jvm.Cond) (p0 : Addr) (p1 p2 cs : Int32) (fv : Value) (h0 : Heap) (n0 : Nat) (Y0 : own_txt0 Z h0 p0 ) (hs16 : own_r16 p1) (hf0 : 0 ≤ p2.toInt) (hf1 : p2.toInt ≤ (0 : Nat)) (SS : own_S Z h0 cs fv) : own_M l y6 jdk_42_method_80_code 3 (some .int) ws r_5_0_0_84 #[(.ref p0), (.int p1), (.int p2)] Z h0 (Q6_0 Z p0 p1 p2 cs fv h0 n0) := by
  refine W.bodyOf (Ls := #[.val (.ref p0), .val (.int p1), .val (.int p2)]) (plainFor_of_name pn_java_lang_String) (fun m => by first | exact W.entry_of rfl) ?_
  intro p e s m below meth c T0 C X0 e0
  have N0 := Fr.nil n0
  obtain ⟨SC, hcs, SA, SH, SL, SF, hfv⟩ := SS
  obtain ⟨b, kb, E0, Fv, D⟩ := Y0
  obtain ⟨Fc, Vb⟩ := D
  show W.Go p e below _ (T0.setTop (mkF m 0 #[.val (.ref p0), .val (.int p1), .val (.int p2)] []))
  refine W.aloadN (q := 1) X0 C d6_0 rfl rfl rfl ?_
  refine W.callV (q := 4) X0 C (W.ww hw 35 rfl) (W.ww hw 36 rfl) (W.nf C (W.ww hw 38 rfl)) (W.ww hw 38 rfl) (W.ww hw 37 rfl) (W.ww hw 3 rfl) (W.ww hw 39 rfl) (by decide) (rm7_0 l Z a0 hw [] p0 cs h0 n0 Fc SC hcs) e0 E0 d6_1 [] [] rfl rfl pd__28_29Z rfl rfl (by decide) (Nat.le_of_ble_eq_true rfl) (by decide) (by decide) rfl (fun T119 w119 L119 X119 hQ119 => ?_)
  obtain ⟨rfl, NL119, e119⟩ := hQ119
  have N119 := Fr.app N0 NL119
  show W.Go p e below _ (T119.setTop (mkF m 4 #[.val (.ref p0), .val (.int p1), .val (.int p2)] [(.int (1 : Int32))]))
  refine W.ifF (q := 7) X119 C d6_4 rfl (by decide : W.cF .eq (1 : Int32) 0) ?_
  refine W.aloadN (q := 8) X119 C d6_7 rfl rfl rfl ?_
  refine W.getF (host := "") (q := 11) X119 C (Or.inl (W.ww hw 20 rfl)) Via.refl e119 Fv d6_8 rfl (fun T120 X120 e120 => ?_)
  refine W.iloadN (q := 12) X120 C d6_11 rfl rfl ?_
  refine W.iloadN (q := 13) X120 C d6_12 rfl rfl ?_
  refine W.aloadN (q := 14) X120 C d6_13 rfl rfl rfl ?_
  refine W.callV (q := 17) X120 C (W.ww hw 41 rfl) (W.ww hw 42 rfl) (W.nf C (W.ww hw 44 rfl)) (W.ww hw 44 rfl) (W.ww hw 43 rfl) (W.ww hw 3 rfl) (W.ww hw 45 rfl) (by decide) (rm8_0_0 l Z a0 hw [] p0 b kb _ cs h0 n0 E0 Fc Fv Vb SC hcs) e120 E0 d6_14 [] [(.int p2), (.int p1), (.ref b)] rfl rfl pd__28_29I rfl rfl (by decide) (Nat.le_of_ble_eq_true rfl) (by decide) (by decide) rfl (fun T121 w121 L121 X121 hQ121 => ?_)
  obtain ⟨rfl, NL121, e121⟩ := hQ121
  have N121 := Fr.app N119 NL121
  show W.Go p e below _ (T121.setTop (mkF m 17 #[.val (.ref p0), .val (.int p1), .val (.int p2)] [(.int (0 : Int32)), (.int p2), (.int p1), (.ref b)]))
  refine W.callS (q := 20) X121 C (W.ww hw 51 rfl) (W.ww hw 52 rfl) (W.ww hw 53 rfl) (W.ww hw 54 rfl) (by decide) (rm10_0 l Z a0 hw [] b kb  p1 p2 h0 n0 Vb hs16  hf0 hf1) e121 d6_17 [(.ref b), (.int p1), (.int p2), (.int (0 : Int32))] [] rfl rfl pd__28_5bBIII_29I rfl rfl (by decide) (Nat.le_of_ble_eq_true rfl) (by decide) (by decide) rfl (fun T122 w122 L122 X122 hQ122 => ?_)
  obtain ⟨rfl, NL122, e122⟩ := hQ122
  have N122 := Fr.app N121 NL122
  show W.Go p e below _ (T122.setTop (mkF m 20 #[.val (.ref p0), .val (.int p1), .val (.int p2)] [(.int (own_ix (List.drop p2.toInt.toNat []) p2))]))
  refine W.goto (q := 36) X122 C d6_20 (by decide) (by decide) ?_
  exact W.retI X122 C e122 d6_36 (by decide) (by decide) ⟨rfl, N122, rfl⟩
theorem d6_23 : decode jdk_42_method_80_code 23 = .ok (.aload_n 0, 1) := by decide +kernel
theorem d6_24 : decode jdk_42_method_80_code 24 = .ok (.getfield 9, 3) := by decide +kernel
theorem d6_27 : decode jdk_42_method_80_code 27 = .ok (.iload_n 1, 1) := by decide +kernel
theorem d6_28 : decode jdk_42_method_80_code 28 = .ok (.iload_n 2, 1) := by decide +kernel
theorem d6_29 : decode jdk_42_method_80_code 29 = .ok (.aload_n 0, 1) := by decide +kernel
theorem d6_30 : decode jdk_42_method_80_code 30 = .ok (.invokevirtual 505, 3) := by decide +kernel
theorem d6_33 : decode jdk_42_method_80_code 33 = .ok (.invokestatic 640, 3) := by decide +kernel
def Q6_1 (Z : State) (p0 : Addr) (x0 : Int32) (p1 p2 cs : Int32) (fv : Value) (h0 : Heap) (n0 : Nat) (v : Option Value) (h : Heap) (L : List Loc) : Prop := v = some (.int (own_ix (List.drop p2.toInt.toNat [decide (x0 = p1)]) p2)) ∧ Fr n0 L ∧ h = h0
theorem rm6_1 (l : Launch) (Z : State) (a0 : Array Value) (hw : own_HW a0 Z) (ws : List Jvm.Cond) (p0 : Addr) (x0 : Int32) (p1 p2 cs : Int32) (fv : Value) (h0 : Heap) (n0 : Nat) (Y0 : own_txt1 Z h0 p0 x0) (hs16 : own_r16 p1) (hr0 : own_r16 x0) (hf0 : 0 ≤ p2.toInt) (hf1 : p2.toInt ≤ (1 : Nat)) (SS : own_S Z h0 cs fv) : own_M l y6 jdk_42_method_80_code 3 (some .int) ws r_5_0_0_84 #[(.ref p0), (.int p1), (.int p2)] Z h0 (Q6_1 Z p0 x0 p1 p2 cs fv h0 n0) := by
  refine W.bodyOf (Ls := #[.val (.ref p0), .val (.int p1), .val (.int p2)]) (plainFor_of_name pn_java_lang_String) (fun m => by first | exact W.entry_of rfl) ?_
  intro p e s m below meth c T0 C X0 e0
  have N0 := Fr.nil n0
  obtain ⟨SC, hcs, SA, SH, SL, SF, hfv⟩ := SS
  obtain ⟨b, kb, E0, Fv, D⟩ := Y0
  rcases D with ⟨Fc, hx0, Vb⟩ | ⟨Fc, Vb⟩
  · show W.Go p e below _ (T0.setTop (mkF m 0 #[.val (.ref p0), .val (.int p1), .val (.int p2)] []))
    refine W.aloadN (q := 1) X0 C d6_0 rfl rfl rfl ?_
    refine W.callV (q := 4) X0 C (W.ww hw 35 rfl) (W.ww hw 36 rfl) (W.nf C (W.ww hw 38 rfl)) (W.ww hw 38 rfl) (W.ww hw 37 rfl) (W.ww hw 3 rfl) (W.ww hw 39 rfl) (by decide) (rm7_0 l Z a0 hw [] p0 cs h0 n0 Fc SC hcs) e0 E0 d6_1 [] [] rfl rfl pd__28_29Z rfl rfl (by decide) (Nat.le_of_ble_eq_true rfl) (by decide) (by decide) rfl (fun T123 w123 L123 X123 hQ123 => ?_)
    obtain ⟨rfl, NL123, e123⟩ := hQ123
    have N123 := Fr.app N0 NL123
    show W.Go p e below _ (T123.setTop (mkF m 4 #[.val (.ref p0), .val (.int p1), .val (.int p2)] [(.int (1 : Int32))]))
    refine W.ifF (q := 7) X123 C d6_4 rfl (by decide : W.cF .eq (1 : Int32) 0) ?_
    refine W.aloadN (q := 8) X123 C d6_7 rfl rfl rfl ?_
    refine W.getF (host := "") (q := 11) X123 C (Or.inl (W.ww hw 20 rfl)) Via.refl e123 Fv d6_8 rfl (fun T124 X124 e124 => ?_)
    refine W.iloadN (q := 12) X124 C d6_11 rfl rfl ?_
    refine W.iloadN (q := 13) X124 C d6_12 rfl rfl ?_
    refine W.aloadN (q := 14) X124 C d6_13 rfl rfl rfl ?_
    refine W.callV (q := 17) X124 C (W.ww hw 41 rfl) (W.ww hw 42 rfl) (W.nf C (W.ww hw 44 rfl)) (W.ww hw 44 rfl) (W.ww hw 43 rfl) (W.ww hw 3 rfl) (W.ww hw 45 rfl) (by decide) (rm8_1_0 l Z a0 hw [] p0 b kb _ cs h0 n0 E0 Fc Fv Vb SC hcs) e124 E0 d6_14 [] [(.int p2), (.int p1), (.ref b)] rfl rfl pd__28_29I rfl rfl (by decide) (Nat.le_of_ble_eq_true rfl) (by decide) (by decide) rfl (fun T125 w125 L125 X125 hQ125 => ?_)
    obtain ⟨rfl, NL125, e125⟩ := hQ125
    have N125 := Fr.app N123 NL125
    show W.Go p e below _ (T125.setTop (mkF m 17 #[.val (.ref p0), .val (.int p1), .val (.int p2)] [(.int (1 : Int32)), (.int p2), (.int p1), (.ref b)]))
    refine W.callS (q := 20) X125 C (W.ww hw 51 rfl) (W.ww hw 52 rfl) (W.ww hw 53 rfl) (W.ww hw 54 rfl) (by decide) (rm10_1 l Z a0 hw [] b kb x0 p1 p2 h0 n0 Vb hs16 hx0 hf0 hf1) e125 d6_17 [(.ref b), (.int p1), (.int p2), (.int (1 : Int32))] [] rfl rfl pd__28_5bBIII_29I rfl rfl (by decide) (Nat.le_of_ble_eq_true rfl) (by decide) (by decide) rfl (fun T126 w126 L126 X126 hQ126 => ?_)
    obtain ⟨rfl, NL126, e126⟩ := hQ126
    have N126 := Fr.app N125 NL126
    show W.Go p e below _ (T126.setTop (mkF m 20 #[.val (.ref p0), .val (.int p1), .val (.int p2)] [(.int (own_ix (List.drop p2.toInt.toNat [decide (x0 = p1)]) p2))]))
    refine W.goto (q := 36) X126 C d6_20 (by decide) (by decide) ?_
    exact W.retI X126 C e126 d6_36 (by decide) (by decide) ⟨rfl, N126, rfl⟩
  · show W.Go p e below _ (T0.setTop (mkF m 0 #[.val (.ref p0), .val (.int p1), .val (.int p2)] []))
    refine W.aloadN (q := 1) X0 C d6_0 rfl rfl rfl ?_
    refine W.callV (q := 4) X0 C (W.ww hw 35 rfl) (W.ww hw 36 rfl) (W.nf C (W.ww hw 38 rfl)) (W.ww hw 38 rfl) (W.ww hw 37 rfl) (W.ww hw 3 rfl) (W.ww hw 39 rfl) (by decide) (rm7_1 l Z a0 hw [] p0 cs h0 n0 Fc SC hcs) e0 E0 d6_1 [] [] rfl rfl pd__28_29Z rfl rfl (by decide) (Nat.le_of_ble_eq_true rfl) (by decide) (by decide) rfl (fun T127 w127 L127 X127 hQ127 => ?_)
    obtain ⟨rfl, NL127, e127⟩ := hQ127
    have N127 := Fr.app N0 NL127
    show W.Go p e below _ (T127.setTop (mkF m 4 #[.val (.ref p0), .val (.int p1), .val (.int p2)] [(.int (0 : Int32))]))
    refine W.ifT (q := 23) X127 C d6_4 (by decide) (by decide) (by decide : W.cT .eq (0 : Int32) 0) ?_
    refine W.aloadN (q := 24) X127 C d6_23 rfl rfl rfl ?_
    refine W.getF (host := "") (q := 27) X127 C (Or.inl (W.ww hw 20 rfl)) Via.refl e127 Fv d6_24 rfl (fun T128 X128 e128 => ?_)
    refine W.iloadN (q := 28) X128 C d6_27 rfl rfl ?_
    refine W.iloadN (q := 29) X128 C d6_28 rfl rfl ?_
    refine W.aloadN (q := 30) X128 C d6_29 rfl rfl rfl ?_
    refine W.callV (q := 33) X128 C (W.ww hw 41 rfl) (W.ww hw 42 rfl) (W.nf C (W.ww hw 44 rfl)) (W.ww hw 44 rfl) (W.ww hw 43 rfl) (W.ww hw 3 rfl) (W.ww hw 45 rfl) (by decide) (rm8_1_1 l Z a0 hw [] p0 b kb _ cs h0 n0 E0 Fc Fv Vb SC hcs) e128 E0 d6_30 [] [(.int p2), (.int p1), (.ref b)] rfl rfl pd__28_29I rfl rfl (by decide) (Nat.le_of_ble_eq_true rfl) (by decide) (by decide) rfl (fun T129 w129 L129 X129 hQ129 => ?_)
    obtain ⟨rfl, NL129, e129⟩ := hQ129
    have N129 := Fr.app N127 NL129
    show W.Go p e below _ (T129.setTop (mkF m 33 #[.val (.ref p0), .val (.int p1), .val (.int p2)] [(.int (1 : Int32)), (.int p2), (.int p1), (.ref b)]))
    refine W.callS (q := 36) X129 C (W.ww hw 97 rfl) (W.ww hw 98 rfl) (W.ww hw 67 rfl) (W.ww hw 99 rfl) (by decide) (rm23_1 l Z a0 hw [] b kb x0 p1 p2 fv h0 n0 Vb hs16 hr0 SA SH SL SF hfv hf0 hf1) e129 d6_33 [(.ref b), (.int p1), (.int p2), (.int (1 : Int32))] [] rfl rfl pd__28_5bBIII_29I rfl rfl (by decide) (Nat.le_of_ble_eq_true rfl) (by decide) (by decide) rfl (fun T130 w130 L130 X130 hQ130 => ?_)
    obtain ⟨rfl, NL130, e130⟩ := hQ130
    have N130 := Fr.app N129 NL130
    show W.Go p e below _ (T130.setTop (mkF m 36 #[.val (.ref p0), .val (.int p1), .val (.int p2)] [(.int (own_ix (List.drop p2.toInt.toNat [decide (x0 = p1)]) p2))]))
    exact W.retI X130 C e130 d6_36 (by decide) (by decide) ⟨rfl, N130, rfl⟩
def Q6_2 (Z : State) (p0 : Addr) (x0 x1 : Int32) (p1 p2 cs : Int32) (fv : Value) (h0 : Heap) (n0 : Nat) (v : Option Value) (h : Heap) (L : List Loc) : Prop := v = some (.int (own_ix (List.drop p2.toInt.toNat [decide (x0 = p1), decide (x1 = p1)]) p2)) ∧ Fr n0 L ∧ h = h0
theorem rm6_2 (l : Launch) (Z : State) (a0 : Array Value) (hw : own_HW a0 Z) (ws : List Jvm.Cond) (p0 : Addr) (x0 x1 : Int32) (p1 p2 cs : Int32) (fv : Value) (h0 : Heap) (n0 : Nat) (Y0 : own_txt2 Z h0 p0 x0 x1) (hs16 : own_r16 p1) (hr0 : own_r16 x0) (hr1 : own_r16 x1) (hf0 : 0 ≤ p2.toInt) (hf1 : p2.toInt ≤ (2 : Nat)) (SS : own_S Z h0 cs fv) : own_M l y6 jdk_42_method_80_code 3 (some .int) ws r_5_0_0_84 #[(.ref p0), (.int p1), (.int p2)] Z h0 (Q6_2 Z p0 x0 x1 p1 p2 cs fv h0 n0) := by
  refine W.bodyOf (Ls := #[.val (.ref p0), .val (.int p1), .val (.int p2)]) (plainFor_of_name pn_java_lang_String) (fun m => by first | exact W.entry_of rfl) ?_
  intro p e s m below meth c T0 C X0 e0
  have N0 := Fr.nil n0
  obtain ⟨SC, hcs, SA, SH, SL, SF, hfv⟩ := SS
  obtain ⟨b, kb, E0, Fv, D⟩ := Y0
  rcases D with ⟨Fc, hx0, hx1, Vb⟩ | ⟨Fc, Vb⟩
  · show W.Go p e below _ (T0.setTop (mkF m 0 #[.val (.ref p0), .val (.int p1), .val (.int p2)] []))
    refine W.aloadN (q := 1) X0 C d6_0 rfl rfl rfl ?_
    refine W.callV (q := 4) X0 C (W.ww hw 35 rfl) (W.ww hw 36 rfl) (W.nf C (W.ww hw 38 rfl)) (W.ww hw 38 rfl) (W.ww hw 37 rfl) (W.ww hw 3 rfl) (W.ww hw 39 rfl) (by decide) (rm7_0 l Z a0 hw [] p0 cs h0 n0 Fc SC hcs) e0 E0 d6_1 [] [] rfl rfl pd__28_29Z rfl rfl (by decide) (Nat.le_of_ble_eq_true rfl) (by decide) (by decide) rfl (fun T131 w131 L131 X131 hQ131 => ?_)
    obtain ⟨rfl, NL131, e131⟩ := hQ131
    have N131 := Fr.app N0 NL131
    show W.Go p e below _ (T131.setTop (mkF m 4 #[.val (.ref p0), .val (.int p1), .val (.int p2)] [(.int (1 : Int32))]))
    refine W.ifF (q := 7) X131 C d6_4 rfl (by decide : W.cF .eq (1 : Int32) 0) ?_
    refine W.aloadN (q := 8) X131 C d6_7 rfl rfl rfl ?_
    refine W.getF (host := "") (q := 11) X131 C (Or.inl (W.ww hw 20 rfl)) Via.refl e131 Fv d6_8 rfl (fun T132 X132 e132 => ?_)
    refine W.iloadN (q := 12) X132 C d6_11 rfl rfl ?_
    refine W.iloadN (q := 13) X132 C d6_12 rfl rfl ?_
    refine W.aloadN (q := 14) X132 C d6_13 rfl rfl rfl ?_
    refine W.callV (q := 17) X132 C (W.ww hw 41 rfl) (W.ww hw 42 rfl) (W.nf C (W.ww hw 44 rfl)) (W.ww hw 44 rfl) (W.ww hw 43 rfl) (W.ww hw 3 rfl) (W.ww hw 45 rfl) (by decide) (rm8_2_0 l Z a0 hw [] p0 b kb _ cs h0 n0 E0 Fc Fv Vb SC hcs) e132 E0 d6_14 [] [(.int p2), (.int p1), (.ref b)] rfl rfl pd__28_29I rfl rfl (by decide) (Nat.le_of_ble_eq_true rfl) (by decide) (by decide) rfl (fun T133 w133 L133 X133 hQ133 => ?_)
    obtain ⟨rfl, NL133, e133⟩ := hQ133
    have N133 := Fr.app N131 NL133
    show W.Go p e below _ (T133.setTop (mkF m 17 #[.val (.ref p0), .val (.int p1), .val (.int p2)] [(.int (2 : Int32)), (.int p2), (.int p1), (.ref b)]))
    refine W.callS (q := 20) X133 C (W.ww hw 51 rfl) (W.ww hw 52 rfl) (W.ww hw 53 rfl) (W.ww hw 54 rfl) (by decide) (rm10_2 l Z a0 hw [] b kb x0 x1 p1 p2 h0 n0 Vb hs16 hx0 hx1 hf0 hf1) e133 d6_17 [(.ref b), (.int p1), (.int p2), (.int (2 : Int32))] [] rfl rfl pd__28_5bBIII_29I rfl rfl (by decide) (Nat.le_of_ble_eq_true rfl) (by decide) (by decide) rfl (fun T134 w134 L134 X134 hQ134 => ?_)
    obtain ⟨rfl, NL134, e134⟩ := hQ134
    have N134 := Fr.app N133 NL134
    show W.Go p e below _ (T134.setTop (mkF m 20 #[.val (.ref p0), .val (.int p1), .val (.int p2)] [(.int (own_ix (List.drop p2.toInt.toNat [decide (x0 = p1), decide (x1 = p1)]) p2))]))
    refine W.goto (q := 36) X134 C d6_20 (by decide) (by decide) ?_
    exact W.retI X134 C e134 d6_36 (by decide) (by decide) ⟨rfl, N134, rfl⟩
  · show W.Go p e below _ (T0.setTop (mkF m 0 #[.val (.ref p0), .val (.int p1), .val (.int p2)] []))
    refine W.aloadN (q := 1) X0 C d6_0 rfl rfl rfl ?_
    refine W.callV (q := 4) X0 C (W.ww hw 35 rfl) (W.ww hw 36 rfl) (W.nf C (W.ww hw 38 rfl)) (W.ww hw 38 rfl) (W.ww hw 37 rfl) (W.ww hw 3 rfl) (W.ww hw 39 rfl) (by decide) (rm7_1 l Z a0 hw [] p0 cs h0 n0 Fc SC hcs) e0 E0 d6_1 [] [] rfl rfl pd__28_29Z rfl rfl (by decide) (Nat.le_of_ble_eq_true rfl) (by decide) (by decide) rfl (fun T135 w135 L135 X135 hQ135 => ?_)
    obtain ⟨rfl, NL135, e135⟩ := hQ135
    have N135 := Fr.app N0 NL135
    show W.Go p e below _ (T135.setTop (mkF m 4 #[.val (.ref p0), .val (.int p1), .val (.int p2)] [(.int (0 : Int32))]))
    refine W.ifT (q := 23) X135 C d6_4 (by decide) (by decide) (by decide : W.cT .eq (0 : Int32) 0) ?_
    refine W.aloadN (q := 24) X135 C d6_23 rfl rfl rfl ?_
    refine W.getF (host := "") (q := 27) X135 C (Or.inl (W.ww hw 20 rfl)) Via.refl e135 Fv d6_24 rfl (fun T136 X136 e136 => ?_)
    refine W.iloadN (q := 28) X136 C d6_27 rfl rfl ?_
    refine W.iloadN (q := 29) X136 C d6_28 rfl rfl ?_
    refine W.aloadN (q := 30) X136 C d6_29 rfl rfl rfl ?_
    refine W.callV (q := 33) X136 C (W.ww hw 41 rfl) (W.ww hw 42 rfl) (W.nf C (W.ww hw 44 rfl)) (W.ww hw 44 rfl) (W.ww hw 43 rfl) (W.ww hw 3 rfl) (W.ww hw 45 rfl) (by decide) (rm8_2_1 l Z a0 hw [] p0 b kb _ cs h0 n0 E0 Fc Fv Vb SC hcs) e136 E0 d6_30 [] [(.int p2), (.int p1), (.ref b)] rfl rfl pd__28_29I rfl rfl (by decide) (Nat.le_of_ble_eq_true rfl) (by decide) (by decide) rfl (fun T137 w137 L137 X137 hQ137 => ?_)
    obtain ⟨rfl, NL137, e137⟩ := hQ137
    have N137 := Fr.app N135 NL137
    show W.Go p e below _ (T137.setTop (mkF m 33 #[.val (.ref p0), .val (.int p1), .val (.int p2)] [(.int (2 : Int32)), (.int p2), (.int p1), (.ref b)]))
    refine W.callS (q := 36) X137 C (W.ww hw 97 rfl) (W.ww hw 98 rfl) (W.ww hw 67 rfl) (W.ww hw 99 rfl) (by decide) (rm23_2 l Z a0 hw [] b kb x0 x1 p1 p2 fv h0 n0 Vb hs16 hr0 hr1 SA SH SL SF hfv hf0 hf1) e137 d6_33 [(.ref b), (.int p1), (.int p2), (.int (2 : Int32))] [] rfl rfl pd__28_5bBIII_29I rfl rfl (by decide) (Nat.le_of_ble_eq_true rfl) (by decide) (by decide) rfl (fun T138 w138 L138 X138 hQ138 => ?_)
    obtain ⟨rfl, NL138, e138⟩ := hQ138
    have N138 := Fr.app N137 NL138
    show W.Go p e below _ (T138.setTop (mkF m 36 #[.val (.ref p0), .val (.int p1), .val (.int p2)] [(.int (own_ix (List.drop p2.toInt.toNat [decide (x0 = p1), decide (x1 = p1)]) p2))]))
    exact W.retI X138 C e138 d6_36 (by decide) (by decide) ⟨rfl, N138, rfl⟩
def Q6_3 (Z : State) (p0 : Addr) (x0 x1 x2 : Int32) (p1 p2 cs : Int32) (fv : Value) (h0 : Heap) (n0 : Nat) (v : Option Value) (h : Heap) (L : List Loc) : Prop := v = some (.int (own_ix (List.drop p2.toInt.toNat [decide (x0 = p1), decide (x1 = p1), decide (x2 = p1)]) p2)) ∧ Fr n0 L ∧ h = h0
theorem rm6_3 (l : Launch) (Z : State) (a0 : Array Value) (hw : own_HW a0 Z) (ws : List Jvm.Cond) (p0 : Addr) (x0 x1 x2 : Int32) (p1 p2 cs : Int32) (fv : Value) (h0 : Heap) (n0 : Nat) (Y0 : own_txt3 Z h0 p0 x0 x1 x2) (hs16 : own_r16 p1) (hr0 : own_r16 x0) (hr1 : own_r16 x1) (hr2 : own_r16 x2) (hf0 : 0 ≤ p2.toInt) (hf1 : p2.toInt ≤ (3 : Nat)) (SS : own_S Z h0 cs fv) : own_M l y6 jdk_42_method_80_code 3 (some .int) ws r_5_0_0_84 #[(.ref p0), (.int p1), (.int p2)] Z h0 (Q6_3 Z p0 x0 x1 x2 p1 p2 cs fv h0 n0) := by
  refine W.bodyOf (Ls := #[.val (.ref p0), .val (.int p1), .val (.int p2)]) (plainFor_of_name pn_java_lang_String) (fun m => by first | exact W.entry_of rfl) ?_
  intro p e s m below meth c T0 C X0 e0
  have N0 := Fr.nil n0
  obtain ⟨SC, hcs, SA, SH, SL, SF, hfv⟩ := SS
  obtain ⟨b, kb, E0, Fv, D⟩ := Y0
  rcases D with ⟨Fc, hx0, hx1, hx2, Vb⟩ | ⟨Fc, Vb⟩
  · show W.Go p e below _ (T0.setTop (mkF m 0 #[.val (.ref p0), .val (.int p1), .val (.int p2)] []))
    refine W.aloadN (q := 1) X0 C d6_0 rfl rfl rfl ?_
    refine W.callV (q := 4) X0 C (W.ww hw 35 rfl) (W.ww hw 36 rfl) (W.nf C (W.ww hw 38 rfl)) (W.ww hw 38 rfl) (W.ww hw 37 rfl) (W.ww hw 3 rfl) (W.ww hw 39 rfl) (by decide) (rm7_0 l Z a0 hw [] p0 cs h0 n0 Fc SC hcs) e0 E0 d6_1 [] [] rfl rfl pd__28_29Z rfl rfl (by decide) (Nat.le_of_ble_eq_true rfl) (by decide) (by decide) rfl (fun T139 w139 L139 X139 hQ139 => ?_)
    obtain ⟨rfl, NL139, e139⟩ := hQ139
    have N139 := Fr.app N0 NL139
    show W.Go p e below _ (T139.setTop (mkF m 4 #[.val (.ref p0), .val (.int p1), .val (.int p2)] [(.int (1 : Int32))]))
    refine W.ifF (q := 7) X139 C d6_4 rfl (by decide : W.cF .eq (1 : Int32) 0) ?_
    refine W.aloadN (q := 8) X139 C d6_7 rfl rfl rfl ?_
    refine W.getF (host := "") (q := 11) X139 C (Or.inl (W.ww hw 20 rfl)) Via.refl e139 Fv d6_8 rfl (fun T140 X140 e140 => ?_)
    refine W.iloadN (q := 12) X140 C d6_11 rfl rfl ?_
    refine W.iloadN (q := 13) X140 C d6_12 rfl rfl ?_
    refine W.aloadN (q := 14) X140 C d6_13 rfl rfl rfl ?_
    refine W.callV (q := 17) X140 C (W.ww hw 41 rfl) (W.ww hw 42 rfl) (W.nf C (W.ww hw 44 rfl)) (W.ww hw 44 rfl) (W.ww hw 43 rfl) (W.ww hw 3 rfl) (W.ww hw 45 rfl) (by decide) (rm8_3_0 l Z a0 hw [] p0 b kb _ cs h0 n0 E0 Fc Fv Vb SC hcs) e140 E0 d6_14 [] [(.int p2), (.int p1), (.ref b)] rfl rfl pd__28_29I rfl rfl (by decide) (Nat.le_of_ble_eq_true rfl) (by decide) (by decide) rfl (fun T141 w141 L141 X141 hQ141 => ?_)
    obtain ⟨rfl, NL141, e141⟩ := hQ141
    have N141 := Fr.app N139 NL141
    show W.Go p e below _ (T141.setTop (mkF m 17 #[.val (.ref p0), .val (.int p1), .val (.int p2)] [(.int (3 : Int32)), (.int p2), (.int p1), (.ref b)]))
    refine W.callS (q := 20) X141 C (W.ww hw 51 rfl) (W.ww hw 52 rfl) (W.ww hw 53 rfl) (W.ww hw 54 rfl) (by decide) (rm10_3 l Z a0 hw [] b kb x0 x1 x2 p1 p2 h0 n0 Vb hs16 hx0 hx1 hx2 hf0 hf1) e141 d6_17 [(.ref b), (.int p1), (.int p2), (.int (3 : Int32))] [] rfl rfl pd__28_5bBIII_29I rfl rfl (by decide) (Nat.le_of_ble_eq_true rfl) (by decide) (by decide) rfl (fun T142 w142 L142 X142 hQ142 => ?_)
    obtain ⟨rfl, NL142, e142⟩ := hQ142
    have N142 := Fr.app N141 NL142
    show W.Go p e below _ (T142.setTop (mkF m 20 #[.val (.ref p0), .val (.int p1), .val (.int p2)] [(.int (own_ix (List.drop p2.toInt.toNat [decide (x0 = p1), decide (x1 = p1), decide (x2 = p1)]) p2))]))
    refine W.goto (q := 36) X142 C d6_20 (by decide) (by decide) ?_
    exact W.retI X142 C e142 d6_36 (by decide) (by decide) ⟨rfl, N142, rfl⟩
  · show W.Go p e below _ (T0.setTop (mkF m 0 #[.val (.ref p0), .val (.int p1), .val (.int p2)] []))
    refine W.aloadN (q := 1) X0 C d6_0 rfl rfl rfl ?_
    refine W.callV (q := 4) X0 C (W.ww hw 35 rfl) (W.ww hw 36 rfl) (W.nf C (W.ww hw 38 rfl)) (W.ww hw 38 rfl) (W.ww hw 37 rfl) (W.ww hw 3 rfl) (W.ww hw 39 rfl) (by decide) (rm7_1 l Z a0 hw [] p0 cs h0 n0 Fc SC hcs) e0 E0 d6_1 [] [] rfl rfl pd__28_29Z rfl rfl (by decide) (Nat.le_of_ble_eq_true rfl) (by decide) (by decide) rfl (fun T143 w143 L143 X143 hQ143 => ?_)
    obtain ⟨rfl, NL143, e143⟩ := hQ143
    have N143 := Fr.app N0 NL143
    show W.Go p e below _ (T143.setTop (mkF m 4 #[.val (.ref p0), .val (.int p1), .val (.int p2)] [(.int (0 : Int32))]))
    refine W.ifT (q := 23) X143 C d6_4 (by decide) (by decide) (by decide : W.cT .eq (0 : Int32) 0) ?_
    refine W.aloadN (q := 24) X143 C d6_23 rfl rfl rfl ?_
    refine W.getF (host := "") (q := 27) X143 C (Or.inl (W.ww hw 20 rfl)) Via.refl e143 Fv d6_24 rfl (fun T144 X144 e144 => ?_)
    refine W.iloadN (q := 28) X144 C d6_27 rfl rfl ?_
    refine W.iloadN (q := 29) X144 C d6_28 rfl rfl ?_
    refine W.aloadN (q := 30) X144 C d6_29 rfl rfl rfl ?_
    refine W.callV (q := 33) X144 C (W.ww hw 41 rfl) (W.ww hw 42 rfl) (W.nf C (W.ww hw 44 rfl)) (W.ww hw 44 rfl) (W.ww hw 43 rfl) (W.ww hw 3 rfl) (W.ww hw 45 rfl) (by decide) (rm8_3_1 l Z a0 hw [] p0 b kb _ cs h0 n0 E0 Fc Fv Vb SC hcs) e144 E0 d6_30 [] [(.int p2), (.int p1), (.ref b)] rfl rfl pd__28_29I rfl rfl (by decide) (Nat.le_of_ble_eq_true rfl) (by decide) (by decide) rfl (fun T145 w145 L145 X145 hQ145 => ?_)
    obtain ⟨rfl, NL145, e145⟩ := hQ145
    have N145 := Fr.app N143 NL145
    show W.Go p e below _ (T145.setTop (mkF m 33 #[.val (.ref p0), .val (.int p1), .val (.int p2)] [(.int (3 : Int32)), (.int p2), (.int p1), (.ref b)]))
    refine W.callS (q := 36) X145 C (W.ww hw 97 rfl) (W.ww hw 98 rfl) (W.ww hw 67 rfl) (W.ww hw 99 rfl) (by decide) (rm23_3 l Z a0 hw [] b kb x0 x1 x2 p1 p2 fv h0 n0 Vb hs16 hr0 hr1 hr2 SA SH SL SF hfv hf0 hf1) e145 d6_33 [(.ref b), (.int p1), (.int p2), (.int (3 : Int32))] [] rfl rfl pd__28_5bBIII_29I rfl rfl (by decide) (Nat.le_of_ble_eq_true rfl) (by decide) (by decide) rfl (fun T146 w146 L146 X146 hQ146 => ?_)
    obtain ⟨rfl, NL146, e146⟩ := hQ146
    have N146 := Fr.app N145 NL146
    show W.Go p e below _ (T146.setTop (mkF m 36 #[.val (.ref p0), .val (.int p1), .val (.int p2)] [(.int (own_ix (List.drop p2.toInt.toNat [decide (x0 = p1), decide (x1 = p1), decide (x2 = p1)]) p2))]))
    exact W.retI X146 C e146 d6_36 (by decide) (by decide) ⟨rfl, N146, rfl⟩
def Q6_4 (Z : State) (p0 : Addr) (x0 x1 x2 x3 : Int32) (p1 p2 cs : Int32) (fv : Value) (h0 : Heap) (n0 : Nat) (v : Option Value) (h : Heap) (L : List Loc) : Prop := v = some (.int (own_ix (List.drop p2.toInt.toNat [decide (x0 = p1), decide (x1 = p1), decide (x2 = p1), decide (x3 = p1)]) p2)) ∧ Fr n0 L ∧ h = h0
theorem rm6_4 (l : Launch) (Z : State) (a0 : Array Value) (hw : own_HW a0 Z) (ws : List Jvm.Cond) (p0 : Addr) (x0 x1 x2 x3 : Int32) (p1 p2 cs : Int32) (fv : Value) (h0 : Heap) (n0 : Nat) (Y0 : own_txt4 Z h0 p0 x0 x1 x2 x3) (hs16 : own_r16 p1) (hr0 : own_r16 x0) (hr1 : own_r16 x1) (hr2 : own_r16 x2) (hr3 : own_r16 x3) (hf0 : 0 ≤ p2.toInt) (hf1 : p2.toInt ≤ (4 : Nat)) (SS : own_S Z h0 cs fv) : own_M l y6 jdk_42_method_80_code 3 (some .int) ws r_5_0_0_84 #[(.ref p0), (.int p1), (.int p2)] Z h0 (Q6_4 Z p0 x0 x1 x2 x3 p1 p2 cs fv h0 n0) := by
  refine W.bodyOf (Ls := #[.val (.ref p0), .val (.int p1), .val (.int p2)]) (plainFor_of_name pn_java_lang_String) (fun m => by first | exact W.entry_of rfl) ?_
  intro p e s m below meth c T0 C X0 e0
  have N0 := Fr.nil n0
  obtain ⟨SC, hcs, SA, SH, SL, SF, hfv⟩ := SS
  obtain ⟨b, kb, E0, Fv, D⟩ := Y0
  rcases D with ⟨Fc, hx0, hx1, hx2, hx3, Vb⟩ | ⟨Fc, Vb⟩
  · show W.Go p e below _ (T0.setTop (mkF m 0 #[.val (.ref p0), .val (.int p1), .val (.int p2)] []))
    refine W.aloadN (q := 1) X0 C d6_0 rfl rfl rfl ?_
    refine W.callV (q := 4) X0 C (W.ww hw 35 rfl) (W.ww hw 36 rfl) (W.nf C (W.ww hw 38 rfl)) (W.ww hw 38 rfl) (W.ww hw 37 rfl) (W.ww hw 3 rfl) (W.ww hw 39 rfl) (by decide) (rm7_0 l Z a0 hw [] p0 cs h0 n0 Fc SC hcs) e0 E0 d6_1 [] [] rfl rfl pd__28_29Z rfl rfl (by decide) (Nat.le_of_ble_eq_true rfl) (by decide) (by decide) rfl (fun T147 w147 L147 X147 hQ147 => ?_)
    obtain ⟨rfl, NL147, e147⟩ := hQ147
    have N147 := Fr.app N0 NL147
    show W.Go p e below _ (T147.setTop (mkF m 4 #[.val (.ref p0), .val (.int p1), .val (.int p2)] [(.int (1 : Int32))]))
    refine W.ifF (q := 7) X147 C d6_4 rfl (by decide : W.cF .eq (1 : Int32) 0) ?_
    refine W.aloadN (q := 8) X147 C d6_7 rfl rfl rfl ?_
    refine W.getF (host := "") (q := 11) X147 C (Or.inl (W.ww hw 20 rfl)) Via.refl e147 Fv d6_8 rfl (fun T148 X148 e148 => ?_)
    refine W.iloadN (q := 12) X148 C d6_11 rfl rfl ?_
    refine W.iloadN (q := 13) X148 C d6_12 rfl rfl ?_
    refine W.aloadN (q := 14) X148 C d6_13 rfl rfl rfl ?_
    refine W.callV (q := 17) X148 C (W.ww hw 41 rfl) (W.ww hw 42 rfl) (W.nf C (W.ww hw 44 rfl)) (W.ww hw 44 rfl) (W.ww hw 43 rfl) (W.ww hw 3 rfl) (W.ww hw 45 rfl) (by decide) (rm8_4_0 l Z a0 hw [] p0 b kb _ cs h0 n0 E0 Fc Fv Vb SC hcs) e148 E0 d6_14 [] [(.int p2), (.int p1), (.ref b)] rfl rfl pd__28_29I rfl rfl (by decide) (Nat.le_of_ble_eq_true rfl) (by decide) (by decide) rfl (fun T149 w149 L149 X149 hQ149 => ?_)
    obtain ⟨rfl, NL149, e149⟩ := hQ149
    have N149 := Fr.app N147 NL149
    show W.Go p e below _ (T149.setTop (mkF m 17 #[.val (.ref p0), .val (.int p1), .val (.int p2)] [(.int (4 : Int32)), (.int p2), (.int p1), (.ref b)]))
    refine W.callS (q := 20) X149 C (W.ww hw 51 rfl) (W.ww hw 52 rfl) (W.ww hw 53 rfl) (W.ww hw 54 rfl) (by decide) (rm10_4 l Z a0 hw [] b kb x0 x1 x2 x3 p1 p2 h0 n0 Vb hs16 hx0 hx1 hx2 hx3 hf0 hf1) e149 d6_17 [(.ref b), (.int p1), (.int p2), (.int (4 : Int32))] [] rfl rfl pd__28_5bBIII_29I rfl rfl (by decide) (Nat.le_of_ble_eq_true rfl) (by decide) (by decide) rfl (fun T150 w150 L150 X150 hQ150 => ?_)
    obtain ⟨rfl, NL150, e150⟩ := hQ150
    have N150 := Fr.app N149 NL150
    show W.Go p e below _ (T150.setTop (mkF m 20 #[.val (.ref p0), .val (.int p1), .val (.int p2)] [(.int (own_ix (List.drop p2.toInt.toNat [decide (x0 = p1), decide (x1 = p1), decide (x2 = p1), decide (x3 = p1)]) p2))]))
    refine W.goto (q := 36) X150 C d6_20 (by decide) (by decide) ?_
    exact W.retI X150 C e150 d6_36 (by decide) (by decide) ⟨rfl, N150, rfl⟩
  · show W.Go p e below _ (T0.setTop (mkF m 0 #[.val (.ref p0), .val (.int p1), .val (.int p2)] []))
    refine W.aloadN (q := 1) X0 C d6_0 rfl rfl rfl ?_
    refine W.callV (q := 4) X0 C (W.ww hw 35 rfl) (W.ww hw 36 rfl) (W.nf C (W.ww hw 38 rfl)) (W.ww hw 38 rfl) (W.ww hw 37 rfl) (W.ww hw 3 rfl) (W.ww hw 39 rfl) (by decide) (rm7_1 l Z a0 hw [] p0 cs h0 n0 Fc SC hcs) e0 E0 d6_1 [] [] rfl rfl pd__28_29Z rfl rfl (by decide) (Nat.le_of_ble_eq_true rfl) (by decide) (by decide) rfl (fun T151 w151 L151 X151 hQ151 => ?_)
    obtain ⟨rfl, NL151, e151⟩ := hQ151
    have N151 := Fr.app N0 NL151
    show W.Go p e below _ (T151.setTop (mkF m 4 #[.val (.ref p0), .val (.int p1), .val (.int p2)] [(.int (0 : Int32))]))
    refine W.ifT (q := 23) X151 C d6_4 (by decide) (by decide) (by decide : W.cT .eq (0 : Int32) 0) ?_
    refine W.aloadN (q := 24) X151 C d6_23 rfl rfl rfl ?_
    refine W.getF (host := "") (q := 27) X151 C (Or.inl (W.ww hw 20 rfl)) Via.refl e151 Fv d6_24 rfl (fun T152 X152 e152 => ?_)
    refine W.iloadN (q := 28) X152 C d6_27 rfl rfl ?_
    refine W.iloadN (q := 29) X152 C d6_28 rfl rfl ?_
    refine W.aloadN (q := 30) X152 C d6_29 rfl rfl rfl ?_
    refine W.callV (q := 33) X152 C (W.ww hw 41 rfl) (W.ww hw 42 rfl) (W.nf C (W.ww hw 44 rfl)) (W.ww hw 44 rfl) (W.ww hw 43 rfl) (W.ww hw 3 rfl) (W.ww hw 45 rfl) (by decide) (rm8_4_1 l Z a0 hw [] p0 b kb _ cs h0 n0 E0 Fc Fv Vb SC hcs) e152 E0 d6_30 [] [(.int p2), (.int p1), (.ref b)] rfl rfl pd__28_29I rfl rfl (by decide) (Nat.le_of_ble_eq_true rfl) (by decide) (by decide) rfl (fun T153 w153 L153 X153 hQ153 => ?_)
    obtain ⟨rfl, NL153, e153⟩ := hQ153
    have N153 := Fr.app N151 NL153
    show W.Go p e below _ (T153.setTop (mkF m 33 #[.val (.ref p0), .val (.int p1), .val (.int p2)] [(.int (4 : Int32)), (.int p2), (.int p1), (.ref b)]))
    refine W.callS (q := 36) X153 C (W.ww hw 97 rfl) (W.ww hw 98 rfl) (W.ww hw 67 rfl) (W.ww hw 99 rfl) (by decide) (rm23_4 l Z a0 hw [] b kb x0 x1 x2 x3 p1 p2 fv h0 n0 Vb hs16 hr0 hr1 hr2 hr3 SA SH SL SF hfv hf0 hf1) e153 d6_33 [(.ref b), (.int p1), (.int p2), (.int (4 : Int32))] [] rfl rfl pd__28_5bBIII_29I rfl rfl (by decide) (Nat.le_of_ble_eq_true rfl) (by decide) (by decide) rfl (fun T154 w154 L154 X154 hQ154 => ?_)
    obtain ⟨rfl, NL154, e154⟩ := hQ154
    have N154 := Fr.app N153 NL154
    show W.Go p e below _ (T154.setTop (mkF m 36 #[.val (.ref p0), .val (.int p1), .val (.int p2)] [(.int (own_ix (List.drop p2.toInt.toNat [decide (x0 = p1), decide (x1 = p1), decide (x2 = p1), decide (x3 = p1)]) p2))]))
    exact W.retI X154 C e154 d6_36 (by decide) (by decide) ⟨rfl, N154, rfl⟩
theorem d5_5 : decode prog_5_method_36_code 5 = .ok (.iload 4, 2) := by decide +kernel
theorem d5_7 : decode prog_5_method_36_code 7 = .ok (.iload_n 2, 1) := by decide +kernel
theorem d5_8 : decode prog_5_method_36_code 8 = .ok (.if_icmp .ge 29, 3) := by decide +kernel
theorem d5_37 : decode prog_5_method_36_code 37 = .ok (.iload_n 3, 1) := by decide +kernel
theorem d5_38 : decode prog_5_method_36_code 38 = .ok (.ireturn, 1) := by decide +kernel
theorem d5_11 : decode prog_5_method_36_code 11 = .ok (.aload_n 0, 1) := by decide +kernel
theorem d5_12 : decode prog_5_method_36_code 12 = .ok (.iload_n 1, 1) := by decide +kernel
theorem d5_13 : decode prog_5_method_36_code 13 = .ok (.iload_n 3, 1) := by decide +kernel
theorem d5_14 : decode prog_5_method_36_code 14 = .ok (.invokevirtual 100, 3) := by decide +kernel
theorem d5_17 : decode prog_5_method_36_code 17 = .ok (.istore 5, 2) := by decide +kernel
theorem d5_19 : decode prog_5_method_36_code 19 = .ok (.iload 5, 2) := by decide +kernel
theorem d5_21 : decode prog_5_method_36_code 21 = .ok (.ifCond .ge 5, 3) := by decide +kernel
theorem d5_24 : decode prog_5_method_36_code 24 = .ok (.iconst (-1), 1) := by decide +kernel
theorem d5_25 : decode prog_5_method_36_code 25 = .ok (.ireturn, 1) := by decide +kernel
set_option maxRecDepth 65536 in
set_option maxHeartbeats 40000000 in
theorem own_h_0_0 (l : Launch) (Z : State) (a0 : Array Value) (hw : ∀ d ∈ tables_1, d.before a0 Z = true) (h0 : Heap) (n0 : Nat) (p0 : Addr) (p1 p2 cs : Int32) (fv : Value) (iv : Int32) (ii : Int) (sl : Slot) {p : Program} {e : Env} {s : State} {m : MethodId} {args : Array Value} {below : List Frame} {meth : Method} {c : Code} {T0 : State} {locs : List Loc}
    (C : W.Cx p s m meth c Z prog_5_method_36_code 6 "com/example/orderwire/orderwire/hl7/Encoding" "partStart" (some .int)) (X0 : Stand p l e ({ frames := 6, cells := 0, slots := 0, locals := 104 } : Room) s m args below meth c T0 locs 0 0) (e0 : T0.heap = h0) (N0 : Fr n0 locs) (Y0 : own_txt0 Z h0 p0 ) (hs16 : own_r16 p1) (SS : own_S Z h0 cs fv) (hi : iv.toInt = ii) (hi0 : 0 ≤ ii) (hi1 : ii ≤ 1) (hsl : One sl) :
    W.Go p e below (W.Post s (fun v h L => v = some (.int (own_rs [] (0 : Int32) ii p2)) ∧ Fr n0 L ∧ h = h0) ({ frames := 6, cells := 0, slots := 0, locals := 104 } : Room).cells ({ frames := 6, cells := 0, slots := 0, locals := 104 } : Room).slots) (T0.setTop (mkF m 5 #[.val (.ref p0), .val (.int p1), .val (.int p2), .val (.int (0 : Int32)), .val (.int iv), sl] [])) := by
  refine W.iload (q := 7) X0 C d5_5 rfl rfl ?_
  refine W.iloadN (q := 8) X0 C d5_7 rfl rfl ?_
  refine W.icmp (q := 37) (q' := 11) X0 C d5_8 (by decide) (by decide) rfl (fun hc155 => ?_) (fun hc155 => ?_)
  · replace hc155 : p2.toInt ≤ iv.toInt := hc155
    refine W.iloadN (q := 38) X0 C d5_37 rfl rfl ?_
    exact W.retI X0 C e0 d5_38 (by decide) (by decide) ⟨by rw [own_rs_p (by omega)], N0, rfl⟩
  · replace hc155 : iv.toInt < p2.toInt := hc155
    refine W.aloadN (q := 12) X0 C d5_11 rfl rfl rfl ?_
    refine W.iloadN (q := 13) X0 C d5_12 rfl rfl ?_
    refine W.iloadN (q := 14) X0 C d5_13 rfl rfl ?_
    refine W.callV (q := 17) X0 C (W.ww hw 30 rfl) (W.ww hw 31 rfl) (W.nf C (W.ww hw 33 rfl)) (W.ww hw 33 rfl) (W.ww hw 32 rfl) (W.ww hw 3 rfl) (W.ww hw 34 rfl) (by decide) (rm6_0 l Z a0 hw [] p0  p1 (0 : Int32) cs fv h0 n0 Y0 hs16  (by decide) (by decide) SS) e0 Y0.exa d5_14 [(.int p1), (.int (0 : Int32))] [] rfl rfl pd__28II_29I rfl rfl (by decide) (Nat.le_of_ble_eq_true rfl) (by decide) (by decide) rfl (fun T156 w156 L156 X156 hQ156 => ?_)
    obtain ⟨rfl, NL156, e156⟩ := hQ156
    have N156 := Fr.app N0 NL156
    rw [show (own_ix (List.drop (0 : Int32).toInt.toNat []) (0 : Int32)) = (own_ix [] (0 : Int32)) from rfl]
    show W.Go p e below _ (T156.setTop (mkF m 17 #[.val (.ref p0), .val (.int p1), .val (.int p2), .val (.int (0 : Int32)), .val (.int iv), sl] [(.int (own_ix [] (0 : Int32)))]))
    rw [show (own_ix [] (0 : Int32)) = (-1 : Int32) by rw [own_ix_n] <;> rfl]
    refine W.istore (q := 19) (L' := #[.val (.ref p0), .val (.int p1), .val (.int p2), .val (.int (0 : Int32)), .val (.int iv), .val (.int (-1 : Int32))]) X156 C d5_17 (Jvm.Free.XS.store1 rfl hsl rfl) rfl ?_
    refine W.iload (q := 21) X156 C d5_19 rfl rfl ?_
    refine W.ifF (q := 24) X156 C d5_21 rfl (by decide : W.cF .ge (-1 : Int32) 0) ?_
    refine W.iconst (q := 25) (v := (-1)) X156 C d5_24 rfl rfl ?_
    exact W.retI X156 C e156 d5_25 (by decide) (by decide) ⟨by rw [own_rs_s (by omega), own_sc_n], N156, rfl⟩
theorem d5_0 : decode prog_5_method_36_code 0 = .ok (.iconst 0, 1) := by decide +kernel
theorem d5_1 : decode prog_5_method_36_code 1 = .ok (.istore_n 3, 1) := by decide +kernel
theorem d5_2 : decode prog_5_method_36_code 2 = .ok (.iconst 1, 1) := by decide +kernel
theorem d5_3 : decode prog_5_method_36_code 3 = .ok (.istore 4, 2) := by decide +kernel
theorem pn_com_example_orderwire_orderwire_hl7_Encoding : plainName "com/example/orderwire/orderwire/hl7/Encoding" = true := by first | (simp [plainName, overriddenIn]; done) | decide +kernel
abbrev y5 : MethodName := ⟨"com/example/orderwire/orderwire/hl7/Encoding", "partStart", "(Ljava/lang/String;CI)I"⟩
abbrev r_6_0_0_104 : Room := { frames := 6, cells := 0, slots := 0, locals := 104 }
def Q5_0 (Z : State) (p0 : Addr) (p1 p2 cs : Int32) (fv : Value) (h0 : Heap) (n0 : Nat) (v : Option Value) (h : Heap) (L : List Loc) : Prop := v = some (.int (own_rs [] (0 : Int32) 1 p2)) ∧ Fr n0 L ∧ h = h0
theorem rm5_0 (l : Launch) (Z : State) (a0 : Array Value) (hw : own_HW a0 Z) (ws : List Jvm.Cond) (p0 : Addr) (p1 p2 cs : Int32) (fv : Value) (h0 : Heap) (n0 : Nat) (Y0 : own_txt0 Z h0 p0 ) (hs16 : own_r16 p1) (SS : own_S Z h0 cs fv) : own_M l y5 prog_5_method_36_code 6 (some .int) ws r_6_0_0_104 #[(.ref p0), (.int p1), (.int p2)] Z h0 (Q5_0 Z p0 p1 p2 cs fv h0 n0) := by
  refine W.bodyOf (Ls := #[.val (.ref p0), .val (.int p1), .val (.int p2), .unset, .unset, .unset]) (plainFor_of_name pn_com_example_orderwire_orderwire_hl7_Encoding) (fun m => by first | exact W.entry_of rfl) ?_
  intro p e s m below meth c T0 C X0 e0
  have N0 := Fr.nil n0
  refine W.iconst (q := 1) (v := 0) X0 C d5_0 rfl rfl ?_
  refine W.istoreN (q := 2) (L' := #[.val (.ref p0), .val (.int p1), .val (.int p2), .val (.int (0 : Int32)), .unset, .unset]) X0 C d5_1 rfl rfl ?_
  refine W.iconst (q := 3) (v := 1) X0 C d5_2 rfl rfl ?_
  refine W.istore (q := 5) (L' := #[.val (.ref p0), .val (.int p1), .val (.int p2), .val (.int (0 : Int32)), .val (.int (1 : Int32)), .unset]) X0 C d5_3 rfl rfl ?_
  exact own_h_0_0 l Z a0 hw h0 n0 p0  p1 p2 cs fv (1 : Int32) 1 .unset C X0 e0 N0 Y0 hs16  SS rfl (by decide) (by decide) One.u
set_option maxRecDepth 65536 in
set_option maxHeartbeats 40000000 in
theorem own_h_1_1 (l : Launch) (Z : State) (a0 : Array Value) (hw : ∀ d ∈ tables_1, d.before a0 Z = true) (h0 : Heap) (n0 : Nat) (p0 : Addr) (x0 : Int32) (p1 p2 cs : Int32) (fv : Value) (iv : Int32) (ii : Int) (sl : Slot) {p : Program} {e : Env} {s : State} {m : MethodId} {args : Array Value} {below : List Frame} {meth : Method} {c : Code} {T0 : State} {locs : List Loc}
    (C : W.Cx p s m meth c Z prog_5_method_36_code 6 "com/example/orderwire/orderwire/hl7/Encoding" "partStart" (some .int)) (X0 : Stand p l e ({ frames := 6, cells := 0, slots := 0, locals := 104 } : Room) s m args below meth c T0 locs 0 0) (e0 : T0.heap = h0) (N0 : Fr n0 locs) (Y0 : own_txt1 Z h0 p0 x0) (hs16 : own_r16 p1) (hr0 : own_r16 x0) (SS : own_S Z h0 cs fv) (hi : iv.toInt = ii) (hi0 : 0 ≤ ii) (hi1 : ii ≤ 2) (hsl : One sl) :
    W.Go p e below (W.Post s (fun v h L => v = some (.int (own_rs [] (1 : Int32) ii p2)) ∧ Fr n0 L ∧ h = h0) ({ frames := 6, cells := 0, slots := 0, locals := 104 } : Room).cells ({ frames := 6, cells := 0, slots := 0, locals := 104 } : Room).slots) (T0.setTop (mkF m 5 #[.val (.ref p0), .val (.int p1), .val (.int p2), .val (.int (1 : Int32)), .val (.int iv), sl] [])) := by
  refine W.iload (q := 7) X0 C d5_5 rfl rfl ?_
  refine W.iloadN (q := 8) X0 C d5_7 rfl rfl ?_
  refine W.icmp (q := 37) (q' := 11) X0 C d5_8 (by decide) (by decide) rfl (fun hc157 => ?_) (fun hc157 => ?_)
  · replace hc157 : p2.toInt ≤ iv.toInt := hc157
    refine W.iloadN (q := 38) X0 C d5_37 rfl rfl ?_
    exact W.retI X0 C e0 d5_38 (by decide) (by decide) ⟨by rw [own_rs_p (by omega)], N0, rfl⟩
  · replace hc157 : iv.toInt < p2.toInt := hc157
    refine W.aloadN (q := 12) X0 C d5_11 rfl rfl rfl ?_
    refine W.iloadN (q := 13) X0 C d5_12 rfl rfl ?_
    refine W.iloadN (q := 14) X0 C d5_13 rfl rfl ?_
    refine W.callV (q := 17) X0 C (W.ww hw 30 rfl) (W.ww hw 31 rfl) (W.nf C (W.ww hw 33 rfl)) (W.ww hw 33 rfl) (W.ww hw 32 rfl) (W.ww hw 3 rfl) (W.ww hw 34 rfl) (by decide) (rm6_1 l Z a0 hw [] p0 x0 p1 (1 : Int32) cs fv h0 n0 Y0 hs16 hr0 (by decide) (by decide) SS) e0 Y0.exa d5_14 [(.int p1), (.int (1 : Int32))] [] rfl rfl pd__28II_29I rfl rfl (by decide) (Nat.le_of_ble_eq_true rfl) (by decide) (by decide) rfl (fun T158 w158 L158 X158 hQ158 => ?_)
    obtain ⟨rfl, NL158, e158⟩ := hQ158
    have N158 := Fr.app N0 NL158
    rw [show (own_ix (List.drop (1 : Int32).toInt.toNat [decide (x0 = p1)]) (1 : Int32)) = (own_ix [] (1 : Int32)) from rfl]
    show W.Go p e below _ (T158.setTop (mkF m 17 #[.val (.ref p0), .val (.int p1), .val (.int p2), .val (.int (1 : Int32)), .val (.int iv), sl] [(.int (own_ix [] (1 : Int32)))]))
    rw [show (own_ix [] (1 : Int32)) = (-1 : Int32) by rw [own_ix_n] <;> rfl]
    refine W.istore (q := 19) (L' := #[.val (.ref p0), .val (.int p1), .val (.int p2), .val (.int (1 : Int32)), .val (.int iv), .val (.int (-1 : Int32))]) X158 C d5_17 (Jvm.Free.XS.store1 rfl hsl rfl) rfl ?_
    refine W.iload (q := 21) X158 C d5_19 rfl rfl ?_
    refine W.ifF (q := 24) X158 C d5_21 rfl (by decide : W.cF .ge (-1 : Int32) 0) ?_
    refine W.iconst (q := 25) (v := (-1)) X158 C d5_24 rfl rfl ?_
    exact W.retI X158 C e158 d5_25 (by decide) (by decide) ⟨by rw [own_rs_s (by omega), own_sc_n], N158, rfl⟩
theorem d5_26 : decode prog_5_method_36_code 26 = .ok (.iload 5, 2) := by decide +kernel
theorem d5_28 : decode prog_5_method_36_code 28 = .ok (.iconst 1, 1) := by decide +kernel
theorem d5_29 : decode prog_5_method_36_code 29 = .ok (.iadd, 1) := by decide +kernel
theorem d5_30 : decode prog_5_method_36_code 30 = .ok (.istore_n 3, 1) := by decide +kernel
theorem d5_31 : decode prog_5_method_36_code 31 = .ok (.iinc 4 1, 3) := by decide +kernel
theorem d5_34 : decode prog_5_method_36_code 34 = .ok (.goto (-29), 3) := by decide +kernel
set_option maxRecDepth 65536 in
set_option maxHeartbeats 40000000 in
theorem own_h_1_0 (l : Launch) (Z : State) (a0 : Array Value) (hw : ∀ d ∈ tables_1, d.before a0 Z = true) (h0 : Heap) (n0 : Nat) (p0 : Addr) (x0 : Int32) (p1 p2 cs : Int32) (fv : Value) (iv : Int32) (ii : Int) (sl : Slot) {p : Program} {e : Env} {s : State} {m : MethodId} {args : Array Value} {below : List Frame} {meth : Method} {c : Code} {T0 : State} {locs : List Loc}
    (C : W.Cx p s m meth c Z prog_5_method_36_code 6 "com/example/orderwire/orderwire/hl7/Encoding" "partStart" (some .int)) (X0 : Stand p l e ({ frames := 6, cells := 0, slots := 0, locals := 104 } : Room) s m args below meth c T0 locs 0 0) (e0 : T0.heap = h0) (N0 : Fr n0 locs) (Y0 : own_txt1 Z h0 p0 x0) (hs16 : own_r16 p1) (hr0 : own_r16 x0) (SS : own_S Z h0 cs fv) (hi : iv.toInt = ii) (hi0 : 0 ≤ ii) (hi1 : ii ≤ 1) (hsl : One sl) :
    W.Go p e below (W.Post s (fun v h L => v = some (.int (own_rs [decide (x0 = p1)] (0 : Int32) ii p2)) ∧ Fr n0 L ∧ h = h0) ({ frames := 6, cells := 0, slots := 0, locals := 104 } : Room).cells ({ frames := 6, cells := 0, slots := 0, locals := 104 } : Room).slots) (T0.setTop (mkF m 5 #[.val (.ref p0), .val (.int p1), .val (.int p2), .val (.int (0 : Int32)), .val (.int iv), sl] [])) := by
  refine W.iload (q := 7) X0 C d5_5 rfl rfl ?_
  refine W.iloadN (q := 8) X0 C d5_7 rfl rfl ?_
  refine W.icmp (q := 37) (q' := 11) X0 C d5_8 (by decide) (by decide) rfl (fun hc159 => ?_) (fun hc159 => ?_)
  · replace hc159 : p2.toInt ≤ iv.toInt := hc159
    refine W.iloadN (q := 38) X0 C d5_37 rfl rfl ?_
    exact W.retI X0 C e0 d5_38 (by decide) (by decide) ⟨by rw [own_rs_p (by omega)], N0, rfl⟩
  · replace hc159 : iv.toInt < p2.toInt := hc159
    refine W.aloadN (q := 12) X0 C d5_11 rfl rfl rfl ?_
    refine W.iloadN (q := 13) X0 C d5_12 rfl rfl ?_
    refine W.iloadN (q := 14) X0 C d5_13 rfl rfl ?_
    refine W.callV (q := 17) X0 C (W.ww hw 30 rfl) (W.ww hw 31 rfl) (W.nf C (W.ww hw 33 rfl)) (W.ww hw 33 rfl) (W.ww hw 32 rfl) (W.ww hw 3 rfl) (W.ww hw 34 rfl) (by decide) (rm6_1 l Z a0 hw [] p0 x0 p1 (0 : Int32) cs fv h0 n0 Y0 hs16 hr0 (by decide) (by decide) SS) e0 Y0.exa d5_14 [(.int p1), (.int (0 : Int32))] [] rfl rfl pd__28II_29I rfl rfl (by decide) (Nat.le_of_ble_eq_true rfl) (by decide) (by decide) rfl (fun T160 w160 L160 X160 hQ160 => ?_)
    obtain ⟨rfl, NL160, e160⟩ := hQ160
    have N160 := Fr.app N0 NL160
    rw [show (own_ix (List.drop (0 : Int32).toInt.toNat [decide (x0 = p1)]) (0 : Int32)) = (own_ix [decide (x0 = p1)] (0 : Int32)) from rfl]
    show W.Go p e below _ (T160.setTop (mkF m 17 #[.val (.ref p0), .val (.int p1), .val (.int p2), .val (.int (0 : Int32)), .val (.int iv), sl] [(.int (own_ix [decide (x0 = p1)] (0 : Int32)))]))
    by_cases e0 : x0 = p1
    · rw [show (own_ix [decide (x0 = p1)] (0 : Int32)) = (0 : Int32) by rw [own_ix_t e0] <;> rfl]
      refine W.istore (q := 19) (L' := #[.val (.ref p0), .val (.int p1), .val (.int p2), .val (.int (0 : Int32)), .val (.int iv), .val (.int (0 : Int32))]) X160 C d5_17 (Jvm.Free.XS.store1 rfl hsl rfl) rfl ?_
      refine W.iload (q := 21) X160 C d5_19 rfl rfl ?_
      refine W.ifT (q := 26) X160 C d5_21 (by decide) (by decide) (by decide : W.cT .ge (0 : Int32) 0) ?_
      refine W.iload (q := 28) X160 C d5_26 rfl rfl ?_
      refine W.iconst (q := 29) (v := 1) X160 C d5_28 rfl rfl ?_
      refine W.iadd (q := 30) X160 C d5_29 rfl ?_
      rw [show ((0 : Int32) + (1 : Int32)) = (1 : Int32) by decide]
      refine W.istoreN (q := 31) (L' := #[.val (.ref p0), .val (.int p1), .val (.int p2), .val (.int (1 : Int32)), .val (.int iv), .val (.int (0 : Int32))]) X160 C d5_30 rfl rfl ?_
      refine W.iinc (q := 34) (L' := #[.val (.ref p0), .val (.int p1), .val (.int p2), .val (.int (1 : Int32)), .val (.int (iv + (1 : Int32))), .val (.int (0 : Int32))]) X160 C d5_31 rfl rfl rfl rfl ?_
      refine W.goto (q := 5) X160 C d5_34 (by decide) (by decide) ?_
      rw [show (own_rs [decide (x0 = p1)] (0 : Int32) ii p2) = own_rs [] (1 : Int32) (ii + 1) p2 by rw [own_rs_s (by omega), own_sc_t e0] <;> rfl]
      exact own_h_1_1 l Z a0 hw h0 n0 p0 x0 p1 p2 cs fv (iv + (1 : Int32)) (ii + 1) (.val (.int (0 : Int32))) C X160 e160 N160 Y0 hs16 hr0 SS (own_inc hi (by omega) (by omega)) (by omega) (by omega) (One.val rfl)
    · rw [show (own_ix [decide (x0 = p1)] (0 : Int32)) = (-1 : Int32) by rw [own_ix_f e0, own_ix_n] <;> rfl]
      refine W.istore (q := 19) (L' := #[.val (.ref p0), .val (.int p1), .val (.int p2), .val (.int (0 : Int32)), .val (.int iv), .val (.int (-1 : Int32))]) X160 C d5_17 (Jvm.Free.XS.store1 rfl hsl rfl) rfl ?_
      refine W.iload (q := 21) X160 C d5_19 rfl rfl ?_
      refine W.ifF (q := 24) X160 C d5_21 rfl (by decide : W.cF .ge (-1 : Int32) 0) ?_
      refine W.iconst (q := 25) (v := (-1)) X160 C d5_24 rfl rfl ?_
      exact W.retI X160 C e160 d5_25 (by decide) (by decide) ⟨by rw [own_rs_s (by omega), own_sc_f e0, own_sc_n], N160, rfl⟩
def Q5_1 (Z : State) (p0 : Addr) (x0 : Int32) (p1 p2 cs : Int32) (fv : Value) (h0 : Heap) (n0 : Nat) (v : Option Value) (h : Heap) (L : List Loc) : Prop := v = some (.int (own_rs [decide (x0 = p1)] (0 : Int32) 1 p2)) ∧ Fr n0 L ∧ h = h0
theorem rm5_1 (l : Launch) (Z : State) (a0 : Array Value) (hw : own_HW a0 Z) (ws : List Jvm.Cond) (p0 : Addr) (x0 : Int32) (p1 p2 cs : Int32) (fv : Value) (h0 : Heap) (n0 : Nat) (Y0 : own_txt1 Z h0 p0 x0) (hs16 : own_r16 p1) (hr0 : own_r16 x0) (SS : own_S Z h0 cs fv) : own_M l y5 prog_5_method_36_code 6 (some .int) ws r_6_0_0_104 #[(.ref p0), (.int p1), (.int p2)] Z h0 (Q5_1 Z p0 x0 p1 p2 cs fv h0 n0) := by
  refine W.bodyOf (Ls := #[.val (.ref p0), .val (.int p1), .val (.int p2), .unset, .unset, .unset]) (plainFor_of_name pn_com_example_orderwire_orderwire_hl7_Encoding) (fun m => by first | exact W.entry_of rfl) ?_
  intro p e s m below meth c T0 C X0 e0
  have N0 := Fr.nil n0
  refine W.iconst (q := 1) (v := 0) X0 C d5_0 rfl rfl ?_
  refine W.istoreN (q := 2) (L' := #[.val (.ref p0), .val (.int p1), .val (.int p2), .val (.int (0 : Int32)), .unset, .unset]) X0 C d5_1 rfl rfl ?_
  refine W.iconst (q := 3) (v := 1) X0 C d5_2 rfl rfl ?_
  refine W.istore (q := 5) (L' := #[.val (.ref p0), .val (.int p1), .val (.int p2), .val (.int (0 : Int32)), .val (.int (1 : Int32)), .unset]) X0 C d5_3 rfl rfl ?_
  exact own_h_1_0 l Z a0 hw h0 n0 p0 x0 p1 p2 cs fv (1 : Int32) 1 .unset C X0 e0 N0 Y0 hs16 hr0 SS rfl (by decide) (by decide) One.u
set_option maxRecDepth 65536 in
set_option maxHeartbeats 40000000 in
theorem own_h_2_2 (l : Launch) (Z : State) (a0 : Array Value) (hw : ∀ d ∈ tables_1, d.before a0 Z = true) (h0 : Heap) (n0 : Nat) (p0 : Addr) (x0 x1 : Int32) (p1 p2 cs : Int32) (fv : Value) (iv : Int32) (ii : Int) (sl : Slot) {p : Program} {e : Env} {s : State} {m : MethodId} {args : Array Value} {below : List Frame} {meth : Method} {c : Code} {T0 : State} {locs : List Loc}
    (C : W.Cx p s m meth c Z prog_5_method_36_code 6 "com/example/orderwire/orderwire/hl7/Encoding" "partStart" (some .int)) (X0 : Stand p l e ({ frames := 6, cells := 0, slots := 0, locals := 104 } : Room) s m args below meth c T0 locs 0 0) (e0 : T0.heap = h0) (N0 : Fr n0 locs) (Y0 : own_txt2 Z h0 p0 x0 x1) (hs16 : own_r16 p1) (hr0 : own_r16 x0) (hr1 : own_r16 x1) (SS : own_S Z h0 cs fv) (hi : iv.toInt = ii) (hi0 : 0 ≤ ii) (hi1 : ii ≤ 3) (hsl : One sl) :
    W.Go p e below (W.Post s (fun v h L => v = some (.int (own_rs [] (2 : Int32) ii p2)) ∧ Fr n0 L ∧ h = h0) ({ frames := 6, cells := 0, slots := 0, locals := 104 } : Room).cells ({ frames := 6, cells := 0, slots := 0, locals := 104 } : Room).slots) (T0.setTop (mkF m 5 #[.val (.ref p0), .val (.int p1), .val (.int p2), .val (.int (2 : Int32)), .val (.int iv), sl] [])) := by
  refine W.iload (q := 7) X0 C d5_5 rfl rfl ?_
  refine W.iloadN (q := 8) X0 C d5_7 rfl rfl ?_
  refine W.icmp (q := 37) (q' := 11) X0 C d5_8 (by decide) (by decide) rfl (fun hc161 => ?_) (fun hc161 => ?_)
  · replace hc161 : p2.toInt ≤ iv.toInt := hc161
    refine W.iloadN (q := 38) X0 C d5_37 rfl rfl ?_
    exact W.retI X0 C e0 d5_38 (by decide) (by decide) ⟨by rw [own_rs_p (by omega)], N0, rfl⟩
  · replace hc161 : iv.toInt < p2.toInt := hc161
    refine W.aloadN (q := 12) X0 C d5_11 rfl rfl rfl ?_
    refine W.iloadN (q := 13) X0 C d5_12 rfl rfl ?_
    refine W.iloadN (q := 14) X0 C d5_13 rfl rfl ?_
    refine W.callV (q := 17) X0 C (W.ww hw 30 rfl) (W.ww hw 31 rfl) (W.nf C (W.ww hw 33 rfl)) (W.ww hw 33 rfl) (W.ww hw 32 rfl) (W.ww hw 3 rfl) (W.ww hw 34 rfl) (by decide) (rm6_2 l Z a0 hw [] p0 x0 x1 p1 (2 : Int32) cs fv h0 n0 Y0 hs16 hr0 hr1 (by decide) (by decide) SS) e0 Y0.exa d5_14 [(.int p1), (.int (2 : Int32))] [] rfl rfl pd__28II_29I rfl rfl (by decide) (Nat.le_of_ble_eq_true rfl) (by decide) (by decide) rfl (fun T162 w162 L162 X162 hQ162 => ?_)
    obtain ⟨rfl, NL162, e162⟩ := hQ162
    have N162 := Fr.app N0 NL162
    rw [show (own_ix (List.drop (2 : Int32).toInt.toNat [decide (x0 = p1), decide (x1 = p1)]) (2 : Int32)) = (own_ix [] (2 : Int32)) from rfl]
    show W.Go p e below _ (T162.setTop (mkF m 17 #[.val (.ref p0), .val (.int p1), .val (.int p2), .val (.int (2 : Int32)), .val (.int iv), sl] [(.int (own_ix [] (2 : Int32)))]))
    rw [show (own_ix [] (2 : Int32)) = (-1 : Int32) by rw [own_ix_n] <;> rfl]
    refine W.istore (q := 19) (L' := #[.val (.ref p0), .val (.int p1), .val (.int p2), .val (.int (2 : Int32)), .val (.int iv), .val (.int (-1 : Int32))]) X162 C d5_17 (Jvm.Free.XS.store1 rfl hsl rfl) rfl ?_
    refine W.iload (q := 21) X162 C d5_19 rfl rfl ?_
    refine W.ifF (q := 24) X162 C d5_21 rfl (by decide : W.cF .ge (-1 : Int32) 0) ?_
    refine W.iconst (q := 25) (v := (-1)) X162 C d5_24 rfl rfl ?_
    exact W.retI X162 C e162 d5_25 (by decide) (by decide) ⟨by rw [own_rs_s (by omega), own_sc_n], N162, rfl⟩
set_option maxRecDepth 65536 in
set_option maxHeartbeats 40000000 in
theorem own_h_2_1 (l : Launch) (Z : State) (a0 : Array Value) (hw : ∀ d ∈ tables_1, d.before a0 Z = true) (h0 : Heap) (n0 : Nat) (p0 : Addr) (x0 x1 : Int32) (p1 p2 cs : Int32) (fv : Value) (iv : Int32) (ii : Int) (sl : Slot) {p : Program} {e : Env} {s : State} {m : MethodId} {args : Array Value} {below : List Frame} {meth : Method} {c : Code} {T0 : State} {locs : List Loc}
    (C : W.Cx p s m meth c Z prog_5_method_36_code 6 "com/example/orderwire/orderwire/hl7/Encoding" "partStart" (some .int)) (X0 : Stand p l e ({ frames := 6, cells := 0, slots := 0, locals := 104 } : Room) s m args below meth c T0 locs 0 0) (e0 : T0.heap = h0) (N0 : Fr n0 locs) (Y0 : own_txt2 Z h0 p0 x0 x1) (hs16 : own_r16 p1) (hr0 : own_r16 x0) (hr1 : own_r16 x1) (SS : own_S Z h0 cs fv) (hi : iv.toInt = ii) (hi0 : 0 ≤ ii) (hi1 : ii ≤ 2) (hsl : One sl) :
    W.Go p e below (W.Post s (fun v h L => v = some (.int (own_rs [decide (x1 = p1)] (1 : Int32) ii p2)) ∧ Fr n0 L ∧ h = h0) ({ frames := 6, cells := 0, slots := 0, locals := 104 } : Room).cells ({ frames := 6, cells := 0, slots := 0, locals := 104 } : Room).slots) (T0.setTop (mkF m 5 #[.val (.ref p0), .val (.int p1), .val (.int p2), .val (.int (1 : Int32)), .val (.int iv), sl] [])) := by
  refine W.iload (q := 7) X0 C d5_5 rfl rfl ?_
  refine W.iloadN (q := 8) X0 C d5_7 rfl rfl ?_
  refine W.icmp (q := 37) (q' := 11) X0 C d5_8 (by decide) (by decide) rfl (fun hc163 => ?_) (fun hc163 => ?_)
  · replace hc163 : p2.toInt ≤ iv.toInt := hc163
    refine W.iloadN (q := 38) X0 C d5_37 rfl rfl ?_
    exact W.retI X0 C e0 d5_38 (by decide) (by decide) ⟨by rw [own_rs_p (by omega)], N0, rfl⟩
  · replace hc163 : iv.toInt < p2.toInt := hc163
    refine W.aloadN (q := 12) X0 C d5_11 rfl rfl rfl ?_
    refine W.iloadN (q := 13) X0 C d5_12 rfl rfl ?_
    refine W.iloadN (q := 14) X0 C d5_13 rfl rfl ?_
    refine W.callV (q := 17) X0 C (W.ww hw 30 rfl) (W.ww hw 31 rfl) (W.nf C (W.ww hw 33 rfl)) (W.ww hw 33 rfl) (W.ww hw 32 rfl) (W.ww hw 3 rfl) (W.ww hw 34 rfl) (by decide) (rm6_2 l Z a0 hw [] p0 x0 x1 p1 (1 : Int32) cs fv h0 n0 Y0 hs16 hr0 hr1 (by decide) (by decide) SS) e0 Y0.exa d5_14 [(.int p1), (.int (1 : Int32))] [] rfl rfl pd__28II_29I rfl rfl (by decide) (Nat.le_of_ble_eq_true rfl) (by decide) (by decide) rfl (fun T164 w164 L164 X164 hQ164 => ?_)
    obtain ⟨rfl, NL164, e164⟩ := hQ164
    have N164 := Fr.app N0 NL164
    rw [show (own_ix (List.drop (1 : Int32).toInt.toNat [decide (x0 = p1), decide (x1 = p1)]) (1 : Int32)) = (own_ix [decide (x1 = p1)] (1 : Int32)) from rfl]
    show W.Go p e below _ (T164.setTop (mkF m 17 #[.val (.ref p0), .val (.int p1), .val (.int p2), .val (.int (1 : Int32)), .val (.int iv), sl] [(.int (own_ix [decide (x1 = p1)] (1 : Int32)))]))
    by_cases e1 : x1 = p1
    · rw [show (own_ix [decide (x1 = p1)] (1 : Int32)) = (1 : Int32) by rw [own_ix_t e1] <;> rfl]
      refine W.istore (q := 19) (L' := #[.val (.ref p0), .val (.int p1), .val (.int p2), .val (.int (1 : Int32)), .val (.int iv), .val (.int (1 : Int32))]) X164 C d5_17 (Jvm.Free.XS.store1 rfl hsl rfl) rfl ?_
      refine W.iload (q := 21) X164 C d5_19 rfl rfl ?_
      refine W.ifT (q := 26) X164 C d5_21 (by decide) (by decide) (by decide : W.cT .ge (1 : Int32) 0) ?_
      refine W.iload (q := 28) X164 C d5_26 rfl rfl ?_
      refine W.iconst (q := 29) (v := 1) X164 C d5_28 rfl rfl ?_
      refine W.iadd (q := 30) X164 C d5_29 rfl ?_
      rw [show ((1 : Int32) + (1 : Int32)) = (2 : Int32) by decide]
      refine W.istoreN (q := 31) (L' := #[.val (.ref p0), .val (.int p1), .val (.int p2), .val (.int (2 : Int32)), .val (.int iv), .val (.int (1 : Int32))]) X164 C d5_30 rfl rfl ?_
      refine W.iinc (q := 34) (L' := #[.val (.ref p0), .val (.int p1), .val (.int p2), .val (.int (2 : Int32)), .val (.int (iv + (1 : Int32))), .val (.int (1 : Int32))]) X164 C d5_31 rfl rfl rfl rfl ?_
      refine W.goto (q := 5) X164 C d5_34 (by decide) (by decide) ?_
      rw [show (own_rs [decide (x1 = p1)] (1 : Int32) ii p2) = own_rs [] (2 : Int32) (ii + 1) p2 by rw [own_rs_s (by omega), own_sc_t e1] <;> rfl]
      exact own_h_2_2 l Z a0 hw h0 n0 p0 x0 x1 p1 p2 cs fv (iv + (1 : Int32)) (ii + 1) (.val (.int (1 : Int32))) C X164 e164 N164 Y0 hs16 hr0 hr1 SS (own_inc hi (by omega) (by omega)) (by omega) (by omega) (One.val rfl)
    · rw [show (own_ix [decide (x1 = p1)] (1 : Int32)) = (-1 : Int32) by rw [own_ix_f e1, own_ix_n] <;> rfl]
      refine W.istore (q := 19) (L' := #[.val (.ref p0), .val (.int p1), .val (.int p2), .val (.int (1 : Int32)), .val (.int iv), .val (.int (-1 : Int32))]) X164 C d5_17 (Jvm.Free.XS.store1 rfl hsl rfl) rfl ?_
      refine W.iload (q := 21) X164 C d5_19 rfl rfl ?_
      refine W.ifF (q := 24) X164 C d5_21 rfl (by decide : W.cF .ge (-1 : Int32) 0) ?_
      refine W.iconst (q := 25) (v := (-1)) X164 C d5_24 rfl rfl ?_
      exact W.retI X164 C e164 d5_25 (by decide) (by decide) ⟨by rw [own_rs_s (by omega), own_sc_f e1, own_sc_n], N164, rfl⟩
set_option maxRecDepth 65536 in
set_option maxHeartbeats 40000000 in
theorem own_h_2_0 (l : Launch) (Z : State) (a0 : Array Value) (hw : ∀ d ∈ tables_1, d.before a0 Z = true) (h0 : Heap) (n0 : Nat) (p0 : Addr) (x0 x1 : Int32) (p1 p2 cs : Int32) (fv : Value) (iv : Int32) (ii : Int) (sl : Slot) {p : Program} {e : Env} {s : State} {m : MethodId} {args : Array Value} {below : List Frame} {meth : Method} {c : Code} {T0 : State} {locs : List Loc}
    (C : W.Cx p s m meth c Z prog_5_method_36_code 6 "com/example/orderwire/orderwire/hl7/Encoding" "partStart" (some .int)) (X0 : Stand p l e ({ frames := 6, cells := 0, slots := 0, locals := 104 } : Room) s m args below meth c T0 locs 0 0) (e0 : T0.heap = h0) (N0 : Fr n0 locs) (Y0 : own_txt2 Z h0 p0 x0 x1) (hs16 : own_r16 p1) (hr0 : own_r16 x0) (hr1 : own_r16 x1) (SS : own_S Z h0 cs fv) (hi : iv.toInt = ii) (hi0 : 0 ≤ ii) (hi1 : ii ≤ 1) (hsl : One sl) :
    W.Go p e below (W.Post s (fun v h L => v = some (.int (own_rs [decide (x0 = p1), decide (x1 = p1)] (0 : Int32) ii p2)) ∧ Fr n0 L ∧ h = h0) ({ frames := 6, cells := 0, slots := 0, locals := 104 } : Room).cells ({ frames := 6, cells := 0, slots := 0, locals := 104 } : Room).slots) (T0.setTop (mkF m 5 #[.val (.ref p0), .val (.int p1), .val (.int p2), .val (.int (0 : Int32)), .val (.int iv), sl] [])) := by
  refine W.iload (q := 7) X0 C d5_5 rfl rfl ?_
  refine W.iloadN (q := 8) X0 C d5_7 rfl rfl ?_
  refine W.icmp (q := 37) (q' := 11) X0 C d5_8 (by decide) (by decide) rfl (fun hc165 => ?_) (fun hc165 => ?_)
  · replace hc165 : p2.toInt ≤ iv.toInt := hc165
    refine W.iloadN (q := 38) X0 C d5_37 rfl rfl ?_
    exact W.retI X0 C e0 d5_38 (by decide) (by decide) ⟨by rw [own_rs_p (by omega)], N0, rfl⟩
  · replace hc165 : iv.toInt < p2.toInt := hc165
    refine W.aloadN (q := 12) X0 C d5_11 rfl rfl rfl ?_
    refine W.iloadN (q := 13) X0 C d5_12 rfl rfl ?_
    refine W.iloadN (q := 14) X0 C d5_13 rfl rfl ?_
    refine W.callV (q := 17) X0 C (W.ww hw 30 rfl) (W.ww hw 31 rfl) (W.nf C (W.ww hw 33 rfl)) (W.ww hw 33 rfl) (W.ww hw 32 rfl) (W.ww hw 3 rfl) (W.ww hw 34 rfl) (by decide) (rm6_2 l Z a0 hw [] p0 x0 x1 p1 (0 : Int32) cs fv h0 n0 Y0 hs16 hr0 hr1 (by decide) (by decide) SS) e0 Y0.exa d5_14 [(.int p1), (.int (0 : Int32))] [] rfl rfl pd__28II_29I rfl rfl (by decide) (Nat.le_of_ble_eq_true rfl) (by decide) (by decide) rfl (fun T166 w166 L166 X166 hQ166 => ?_)
    obtain ⟨rfl, NL166, e166⟩ := hQ166
    have N166 := Fr.app N0 NL166
    rw [show (own_ix (List.drop (0 : Int32).toInt.toNat [decide (x0 = p1), decide (x1 = p1)]) (0 : Int32)) = (own_ix [decide (x0 = p1), decide (x1 = p1)] (0 : Int32)) from rfl]
    show W.Go p e below _ (T166.setTop (mkF m 17 #[.val (.ref p0), .val (.int p1), .val (.int p2), .val (.int (0 : Int32)), .val (.int iv), sl] [(.int (own_ix [decide (x0 = p1), decide (x1 = p1)] (0 : Int32)))]))
    by_cases e0 : x0 = p1
    · rw [show (own_ix [decide (x0 = p1), decide (x1 = p1)] (0 : Int32)) = (0 : Int32) by rw [own_ix_t e0] <;> rfl]
      refine W.istore (q := 19) (L' := #[.val (.ref p0), .val (.int p1), .val (.int p2), .val (.int (0 : Int32)), .val (.int iv), .val (.int (0 : Int32))]) X166 C d5_17 (Jvm.Free.XS.store1 rfl hsl rfl) rfl ?_
      refine W.iload (q := 21) X166 C d5_19 rfl rfl ?_
      refine W.ifT (q := 26) X166 C d5_21 (by decide) (by decide) (by decide : W.cT .ge (0 : Int32) 0) ?_
      refine W.iload (q := 28) X166 C d5_26 rfl rfl ?_
      refine W.iconst (q := 29) (v := 1) X166 C d5_28 rfl rfl ?_
      refine W.iadd (q := 30) X166 C d5_29 rfl ?_
      rw [show ((0 : Int32) + (1 : Int32)) = (1 : Int32) by decide]
      refine W.istoreN (q := 31) (L' := #[.val (.ref p0), .val (.int p1), .val (.int p2), .val (.int (1 : Int32)), .val (.int iv), .val (.int (0 : Int32))]) X166 C d5_30 rfl rfl ?_
      refine W.iinc (q := 34) (L' := #[.val (.ref p0), .val (.int p1), .val (.int p2), .val (.int (1 : Int32)), .val (.int (iv + (1 : Int32))), .val (.int (0 : Int32))]) X166 C d5_31 rfl rfl rfl rfl ?_
      refine W.goto (q := 5) X166 C d5_34 (by decide) (by decide) ?_
      rw [show (own_rs [decide (x0 = p1), decide (x1 = p1)] (0 : Int32) ii p2) = own_rs [decide (x1 = p1)] (1 : Int32) (ii + 1) p2 by rw [own_rs_s (by omega), own_sc_t e0] <;> rfl]
      exact own_h_2_1 l Z a0 hw h0 n0 p0 x0 x1 p1 p2 cs fv (iv + (1 : Int32)) (ii + 1) (.val (.int (0 : Int32))) C X166 e166 N166 Y0 hs16 hr0 hr1 SS (own_inc hi (by omega) (by omega)) (by omega) (by omega) (One.val rfl)
    · by_cases e1 : x1 = p1
      · rw [show (own_ix [decide (x0 = p1), decide (x1 = p1)] (0 : Int32)) = (1 : Int32) by rw [own_ix_f e0, own_ix_t e1] <;> rfl]
        refine W.istore (q := 19) (L' := #[.val (.ref p0), .val (.int p1), .val (.int p2), .val (.int (0 : Int32)), .val (.int iv), .val (.int (1 : Int32))]) X166 C d5_17 (Jvm.Free.XS.store1 rfl hsl rfl) rfl ?_
        refine W.iload (q := 21) X166 C d5_19 rfl rfl ?_
        refine W.ifT (q := 26) X166 C d5_21 (by decide) (by decide) (by decide : W.cT .ge (1 : Int32) 0) ?_
        refine W.iload (q := 28) X166 C d5_26 rfl rfl ?_
        refine W.iconst (q := 29) (v := 1) X166 C d5_28 rfl rfl ?_
        refine W.iadd (q := 30) X166 C d5_29 rfl ?_
        rw [show ((1 : Int32) + (1 : Int32)) = (2 : Int32) by decide]
        refine W.istoreN (q := 31) (L' := #[.val (.ref p0), .val (.int p1), .val (.int p2), .val (.int (2 : Int32)), .val (.int iv), .val (.int (1 : Int32))]) X166 C d5_30 rfl rfl ?_
        refine W.iinc (q := 34) (L' := #[.val (.ref p0), .val (.int p1), .val (.int p2), .val (.int (2 : Int32)), .val (.int (iv + (1 : Int32))), .val (.int (1 : Int32))]) X166 C d5_31 rfl rfl rfl rfl ?_
        refine W.goto (q := 5) X166 C d5_34 (by decide) (by decide) ?_
        rw [show (own_rs [decide (x0 = p1), decide (x1 = p1)] (0 : Int32) ii p2) = own_rs [] (2 : Int32) (ii + 1) p2 by rw [own_rs_s (by omega), own_sc_f e0, own_sc_t e1] <;> rfl]
        exact own_h_2_2 l Z a0 hw h0 n0 p0 x0 x1 p1 p2 cs fv (iv + (1 : Int32)) (ii + 1) (.val (.int (1 : Int32))) C X166 e166 N166 Y0 hs16 hr0 hr1 SS (own_inc hi (by omega) (by omega)) (by omega) (by omega) (One.val rfl)
      · rw [show (own_ix [decide (x0 = p1), decide (x1 = p1)] (0 : Int32)) = (-1 : Int32) by rw [own_ix_f e0, own_ix_f e1, own_ix_n] <;> rfl]
        refine W.istore (q := 19) (L' := #[.val (.ref p0), .val (.int p1), .val (.int p2), .val (.int (0 : Int32)), .val (.int iv), .val (.int (-1 : Int32))]) X166 C d5_17 (Jvm.Free.XS.store1 rfl hsl rfl) rfl ?_
        refine W.iload (q := 21) X166 C d5_19 rfl rfl ?_
        refine W.ifF (q := 24) X166 C d5_21 rfl (by decide : W.cF .ge (-1 : Int32) 0) ?_
        refine W.iconst (q := 25) (v := (-1)) X166 C d5_24 rfl rfl ?_
        exact W.retI X166 C e166 d5_25 (by decide) (by decide) ⟨by rw [own_rs_s (by omega), own_sc_f e0, own_sc_f e1, own_sc_n], N166, rfl⟩
def Q5_2 (Z : State) (p0 : Addr) (x0 x1 : Int32) (p1 p2 cs : Int32) (fv : Value) (h0 : Heap) (n0 : Nat) (v : Option Value) (h : Heap) (L : List Loc) : Prop := v = some (.int (own_rs [decide (x0 = p1), decide (x1 = p1)] (0 : Int32) 1 p2)) ∧ Fr n0 L ∧ h = h0
theorem rm5_2 (l : Launch) (Z : State) (a0 : Array Value) (hw : own_HW a0 Z) (ws : List Jvm.Cond) (p0 : Addr) (x0 x1 : Int32) (p1 p2 cs : Int32) (fv : Value) (h0 : Heap) (n0 : Nat) (Y0 : own_txt2 Z h0 p0 x0 x1) (hs16 : own_r16 p1) (hr0 : own_r16 x0) (hr1 : own_r16 x1) (SS : own_S Z h0 cs fv) : own_M l y5 prog_5_method_36_code 6 (some .int) ws r_6_0_0_104 #[(.ref p0), (.int p1), (.int p2)] Z h0 (Q5_2 Z p0 x0 x1 p1 p2 cs fv h0 n0) := by
  refine W.bodyOf (Ls := #[.val (.ref p0), .val (.int p1), .val (.int p2), .unset, .unset, .unset]) (plainFor_of_name pn_com_example_orderwire_orderwire_hl7_Encoding) (fun m => by first | exact W.entry_of rfl) ?_
  intro p e s m below meth c T0 C X0 e0
  have N0 := Fr.nil n0
  refine W.iconst (q := 1) (v := 0) X0 C d5_0 rfl rfl ?_
  refine W.istoreN (q := 2) (L' := #[.val (.ref p0), .val (.int p1), .val (.int p2), .val (.int (0 : Int32)), .unset, .unset]) X0 C d5_1 rfl rfl ?_
  refine W.iconst (q := 3) (v := 1) X0 C d5_2 rfl rfl ?_
  refine W.istore (q := 5) (L' := #[.val (.ref p0), .val (.int p1), .val (.int p2), .val (.int (0 : Int32)), .val (.int (1 : Int32)), .unset]) X0 C d5_3 rfl rfl ?_
  exact own_h_2_0 l Z a0 hw h0 n0 p0 x0 x1 p1 p2 cs fv (1 : Int32) 1 .unset C X0 e0 N0 Y0 hs16 hr0 hr1 SS rfl (by decide) (by decide) One.u
set_option maxRecDepth 65536 in
set_option maxHeartbeats 40000000 in
theorem own_h_3_3 (l : Launch) (Z : State) (a0 : Array Value) (hw : ∀ d ∈ tables_1, d.before a0 Z = true) (h0 : Heap) (n0 : Nat) (p0 : Addr) (x0 x1 x2 : Int32) (p1 p2 cs : Int32) (fv : Value) (iv : Int32) (ii : Int) (sl : Slot) {p : Program} {e : Env} {s : State} {m : MethodId} {args : Array Value} {below : List Frame} {meth : Method} {c : Code} {T0 : State} {locs : List Loc}
    (C : W.Cx p s m meth c Z prog_5_method_36_code 6 "com/example/orderwire/orderwire/hl7/Encoding" "partStart" (some .int)) (X0 : Stand p l e ({ frames := 6, cells := 0, slots := 0, locals := 104 } : Room) s m args below meth c T0 locs 0 0) (e0 : T0.heap = h0) (N0 : Fr n0 locs) (Y0 : own_txt3 Z h0 p0 x0 x1 x2) (hs16 : own_r16 p1) (hr0 : own_r16 x0) (hr1 : own_r16 x1) (hr2 : own_r16 x2) (SS : own_S Z h0 cs fv) (hi : iv.toInt = ii) (hi0 : 0 ≤ ii) (hi1 : ii ≤ 4) (hsl : One sl) :
    W.Go p e below (W.Post s (fun v h L => v = some (.int (own_rs [] (3 : Int32) ii p2)) ∧ Fr n0 L ∧ h = h0) ({ frames := 6, cells := 0, slots := 0, locals := 104 } : Room).cells ({ frames := 6, cells := 0, slots := 0, locals := 104 } : Room).slots) (T0.setTop (mkF m 5 #[.val (.ref p0), .val (.int p1), .val (.int p2), .val (.int (3 : Int32)), .val (.int iv), sl] [])) := by
  refine W.iload (q := 7) X0 C d5_5 rfl rfl ?_
  refine W.iloadN (q := 8) X0 C d5_7 rfl rfl ?_
  refine W.icmp (q := 37) (q' := 11) X0 C d5_8 (by decide) (by decide) rfl (fun hc167 => ?_) (fun hc167 => ?_)
  · replace hc167 : p2.toInt ≤ iv.toInt := hc167
    refine W.iloadN (q := 38) X0 C d5_37 rfl rfl ?_
    exact W.retI X0 C e0 d5_38 (by decide) (by decide) ⟨by rw [own_rs_p (by omega)], N0, rfl⟩
  · replace hc167 : iv.toInt < p2.toInt := hc167
    refine W.aloadN (q := 12) X0 C d5_11 rfl rfl rfl ?_
    refine W.iloadN (q := 13) X0 C d5_12 rfl rfl ?_
    refine W.iloadN (q := 14) X0 C d5_13 rfl rfl ?_
    refine W.callV (q := 17) X0 C (W.ww hw 30 rfl) (W.ww hw 31 rfl) (W.nf C (W.ww hw 33 rfl)) (W.ww hw 33 rfl) (W.ww hw 32 rfl) (W.ww hw 3 rfl) (W.ww hw 34 rfl) (by decide) (rm6_3 l Z a0 hw [] p0 x0 x1 x2 p1 (3 : Int32) cs fv h0 n0 Y0 hs16 hr0 hr1 hr2 (by decide) (by decide) SS) e0 Y0.exa d5_14 [(.int p1), (.int (3 : Int32))] [] rfl rfl pd__28II_29I rfl rfl (by decide) (Nat.le_of_ble_eq_true rfl) (by decide) (by decide) rfl (fun T168 w168 L168 X168 hQ168 => ?_)
    obtain ⟨rfl, NL168, e168⟩ := hQ168
    have N168 := Fr.app N0 NL168
    rw [show (own_ix (List.drop (3 : Int32).toInt.toNat [decide (x0 = p1), decide (x1 = p1), decide (x2 = p1)]) (3 : Int32)) = (own_ix [] (3 : Int32)) from rfl]
    show W.Go p e below _ (T168.setTop (mkF m 17 #[.val (.ref p0), .val (.int p1), .val (.int p2), .val (.int (3 : Int32)), .val (.int iv), sl] [(.int (own_ix [] (3 : Int32)))]))
    rw [show (own_ix [] (3 : Int32)) = (-1 : Int32) by rw [own_ix_n] <;> rfl]
    refine W.istore (q := 19) (L' := #[.val (.ref p0), .val (.int p1), .val (.int p2), .val (.int (3 : Int32)), .val (.int iv), .val (.int (-1 : Int32))]) X168 C d5_17 (Jvm.Free.XS.store1 rfl hsl rfl) rfl ?_
    refine W.iload (q := 21) X168 C d5_19 rfl rfl ?_
    refine W.ifF (q := 24) X168 C d5_21 rfl (by decide : W.cF .ge (-1 : Int32) 0) ?_
    refine W.iconst (q := 25) (v := (-1)) X168 C d5_24 rfl rfl ?_
    exact W.retI X168 C e168 d5_25 (by decide) (by decide) ⟨by rw [own_rs_s (by omega), own_sc_n], N168, rfl⟩
set_option maxRecDepth 65536 in
set_option maxHeartbeats 40000000 in
theorem own_h_3_2 (l : Launch) (Z : State) (a0 : Array Value) (hw : ∀ d ∈ tables_1, d.before a0 Z = true) (h0 : Heap) (n0 : Nat) (p0 : Addr) (x0 x1 x2 : Int32) (p1 p2 cs : Int32) (fv : Value) (iv : Int32) (ii : Int) (sl : Slot) {p : Program} {e : Env} {s : State} {m : MethodId} {args : Array Value} {below : List Frame} {meth : Method} {c : Code} {T0 : State} {locs : List Loc}
    (C : W.Cx p s m meth c Z prog_5_method_36_code 6 "com/example/orderwire/orderwire/hl7/Encoding" "partStart" (some .int)) (X0 : Stand p l e ({ frames := 6, cells := 0, slots := 0, locals := 104 } : Room) s m args below meth c T0 locs 0 0) (e0 : T0.heap = h0) (N0 : Fr n0 locs) (Y0 : own_txt3 Z h0 p0 x0 x1 x2) (hs16 : own_r16 p1) (hr0 : own_r16 x0) (hr1 : own_r16 x1) (hr2 : own_r16 x2) (SS : own_S Z h0 cs fv) (hi : iv.toInt = ii) (hi0 : 0 ≤ ii) (hi1 : ii ≤ 3) (hsl : One sl) :
    W.Go p e below (W.Post s (fun v h L => v = some (.int (own_rs [decide (x2 = p1)] (2 : Int32) ii p2)) ∧ Fr n0 L ∧ h = h0) ({ frames := 6, cells := 0, slots := 0, locals := 104 } : Room).cells ({ frames := 6, cells := 0, slots := 0, locals := 104 } : Room).slots) (T0.setTop (mkF m 5 #[.val (.ref p0), .val (.int p1), .val (.int p2), .val (.int (2 : Int32)), .val (.int iv), sl] [])) := by
  refine W.iload (q := 7) X0 C d5_5 rfl rfl ?_
  refine W.iloadN (q := 8) X0 C d5_7 rfl rfl ?_
  refine W.icmp (q := 37) (q' := 11) X0 C d5_8 (by decide) (by decide) rfl (fun hc169 => ?_) (fun hc169 => ?_)
  · replace hc169 : p2.toInt ≤ iv.toInt := hc169
    refine W.iloadN (q := 38) X0 C d5_37 rfl rfl ?_
    exact W.retI X0 C e0 d5_38 (by decide) (by decide) ⟨by rw [own_rs_p (by omega)], N0, rfl⟩
  · replace hc169 : iv.toInt < p2.toInt := hc169
    refine W.aloadN (q := 12) X0 C d5_11 rfl rfl rfl ?_
    refine W.iloadN (q := 13) X0 C d5_12 rfl rfl ?_
    refine W.iloadN (q := 14) X0 C d5_13 rfl rfl ?_
    refine W.callV (q := 17) X0 C (W.ww hw 30 rfl) (W.ww hw 31 rfl) (W.nf C (W.ww hw 33 rfl)) (W.ww hw 33 rfl) (W.ww hw 32 rfl) (W.ww hw 3 rfl) (W.ww hw 34 rfl) (by decide) (rm6_3 l Z a0 hw [] p0 x0 x1 x2 p1 (2 : Int32) cs fv h0 n0 Y0 hs16 hr0 hr1 hr2 (by decide) (by decide) SS) e0 Y0.exa d5_14 [(.int p1), (.int (2 : Int32))] [] rfl rfl pd__28II_29I rfl rfl (by decide) (Nat.le_of_ble_eq_true rfl) (by decide) (by decide) rfl (fun T170 w170 L170 X170 hQ170 => ?_)
    obtain ⟨rfl, NL170, e170⟩ := hQ170
    have N170 := Fr.app N0 NL170
    rw [show (own_ix (List.drop (2 : Int32).toInt.toNat [decide (x0 = p1), decide (x1 = p1), decide (x2 = p1)]) (2 : Int32)) = (own_ix [decide (x2 = p1)] (2 : Int32)) from rfl]
    show W.Go p e below _ (T170.setTop (mkF m 17 #[.val (.ref p0), .val (.int p1), .val (.int p2), .val (.int (2 : Int32)), .val (.int iv), sl] [(.int (own_ix [decide (x2 = p1)] (2 : Int32)))]))
    by_cases e2 : x2 = p1
    · rw [show (own_ix [decide (x2 = p1)] (2 : Int32)) = (2 : Int32) by rw [own_ix_t e2] <;> rfl]
      refine W.istore (q := 19) (L' := #[.val (.ref p0), .val (.int p1), .val (.int p2), .val (.int (2 : Int32)), .val (.int iv), .val (.int (2 : Int32))]) X170 C d5_17 (Jvm.Free.XS.store1 rfl hsl rfl) rfl ?_
      refine W.iload (q := 21) X170 C d5_19 rfl rfl ?_
      refine W.ifT (q := 26) X170 C d5_21 (by decide) (by decide) (by decide : W.cT .ge (2 : Int32) 0) ?_
      refine W.iload (q := 28) X170 C d5_26 rfl rfl ?_
      refine W.iconst (q := 29) (v := 1) X170 C d5_28 rfl rfl ?_
      refine W.iadd (q := 30) X170 C d5_29 rfl ?_
      rw [show ((2 : Int32) + (1 : Int32)) = (3 : Int32) by decide]
      refine W.istoreN (q := 31) (L' := #[.val (.ref p0), .val (.int p1), .val (.int p2), .val (.int (3 : Int32)), .val (.int iv), .val (.int (2 : Int32))]) X170 C d5_30 rfl rfl ?_
      refine W.iinc (q := 34) (L' := #[.val (.ref p0), .val (.int p1), .val (.int p2), .val (.int (3 : Int32)), .val (.int (iv + (1 : Int32))), .val (.int (2 : Int32))]) X170 C d5_31 rfl rfl rfl rfl ?_
      refine W.goto (q := 5) X170 C d5_34 (by decide) (by decide) ?_
      rw [show (own_rs [decide (x2 = p1)] (2 : Int32) ii p2) = own_rs [] (3 : Int32) (ii + 1) p2 by rw [own_rs_s (by omega), own_sc_t e2] <;> rfl]
      exact own_h_3_3 l Z a0 hw h0 n0 p0 x0 x1 x2 p1 p2 cs fv (iv + (1 : Int32)) (ii + 1) (.val (.int (2 : Int32))) C X170 e170 N170 Y0 hs16 hr0 hr1 hr2 SS (own_inc hi (by omega) (by omega)) (by omega) (by omega) (One.val rfl)
    · rw [show (own_ix [decide (x2 = p1)] (2 : Int32)) = (-1 : Int32) by rw [own_ix_f e2, own_ix_n] <;> rfl]
      refine W.istore (q := 19) (L' := #[.val (.ref p0), .val (.int p1), .val (.int p2), .val (.int (2 : Int32)), .val (.int iv), .val (.int (-1 : Int32))]) X170 C d5_17 (Jvm.Free.XS.store1 rfl hsl rfl) rfl ?_
      refine W.iload (q := 21) X170 C d5_19 rfl rfl ?_
      refine W.ifF (q := 24) X170 C d5_21 rfl (by decide : W.cF .ge (-1 : Int32) 0) ?_
      refine W.iconst (q := 25) (v := (-1)) X170 C d5_24 rfl rfl ?_
      exact W.retI X170 C e170 d5_25 (by decide) (by decide) ⟨by rw [own_rs_s (by omega), own_sc_f e2, own_sc_n], N170, rfl⟩
set_option maxRecDepth 65536 in
set_option maxHeartbeats 40000000 in
theorem own_h_3_1 (l : Launch) (Z : State) (a0 : Array Value) (hw : ∀ d ∈ tables_1, d.before a0 Z = true) (h0 : Heap) (n0 : Nat) (p0 : Addr) (x0 x1 x2 : Int32) (p1 p2 cs : Int32) (fv : Value) (iv : Int32) (ii : Int) (sl : Slot) {p : Program} {e : Env} {s : State} {m : MethodId} {args : Array Value} {below : List Frame} {meth : Method} {c : Code} {T0 : State} {locs : List Loc}
    (C : W.Cx p s m meth c Z prog_5_method_36_code 6 "com/example/orderwire/orderwire/hl7/Encoding" "partStart" (some .int)) (X0 : Stand p l e ({ frames := 6, cells := 0, slots := 0, locals := 104 } : Room) s m args below meth c T0 locs 0 0) (e0 : T0.heap = h0) (N0 : Fr n0 locs) (Y0 : own_txt3 Z h0 p0 x0 x1 x2) (hs16 : own_r16 p1) (hr0 : own_r16 x0) (hr1 : own_r16 x1) (hr2 : own_r16 x2) (SS : own_S Z h0 cs fv) (hi : iv.toInt = ii) (hi0 : 0 ≤ ii) (hi1 : ii ≤ 2) (hsl : One sl) :
    W.Go p e below (W.Post s (fun v h L => v = some (.int (own_rs [decide (x1 = p1), decide (x2 = p1)] (1 : Int32) ii p2)) ∧ Fr n0 L ∧ h = h0) ({ frames := 6, cells := 0, slots := 0, locals := 104 } : Room).cells ({ frames := 6, cells := 0, slots := 0, locals := 104 } : Room).slots) (T0.setTop (mkF m 5 #[.val (.ref p0), .val (.int p1), .val (.int p2), .val (.int (1 : Int32)), .val (.int iv), sl] [])) := by
  refine W.iload (q := 7) X0 C d5_5 rfl rfl ?_
  refine W.iloadN (q := 8) X0 C d5_7 rfl rfl ?_
  refine W.icmp (q := 37) (q' := 11) X0 C d5_8 (by decide) (by decide) rfl (fun hc171 => ?_) (fun hc171 => ?_)
  · replace hc171 : p2.toInt ≤ iv.toInt := hc171
    refine W.iloadN (q := 38) X0 C d5_37 rfl rfl ?_
    exact W.retI X0 C e0 d5_38 (by decide) (by decide) ⟨by rw [own_rs_p (by omega)], N0, rfl⟩
  · replace hc171 : iv.toInt < p2.toInt := hc171
    refine W.aloadN (q := 12) X0 C d5_11 rfl rfl rfl ?_
    refine W.iloadN (q := 13) X0 C d5_12 rfl rfl ?_
    refine W.iloadN (q := 14) X0 C d5_13 rfl rfl ?_
    refine W.callV (q := 17) X0 C (W.ww hw 30 rfl) (W.ww hw 31 rfl) (W.nf C (W.ww hw 33 rfl)) (W.ww hw 33 rfl) (W.ww hw 32 rfl) (W.ww hw 3 rfl) (W.ww hw 34 rfl) (by decide) (rm6_3 l Z a0 hw [] p0 x0 x1 x2 p1 (1 : Int32) cs fv h0 n0 Y0 hs16 hr0 hr1 hr2 (by decide) (by decide) SS) e0 Y0.exa d5_14 [(.int p1), (.int (1 : Int32))] [] rfl rfl pd__28II_29I rfl rfl (by decide) (Nat.le_of_ble_eq_true rfl) (by decide) (by decide) rfl (fun T172 w172 L172 X172 hQ172 => ?_)
    obtain ⟨rfl, NL172, e172⟩ := hQ172
    have N172 := Fr.app N0 NL172
    rw [show (own_ix (List.drop (1 : Int32).toInt.toNat [decide (x0 = p1), decide (x1 = p1), decide (x2 = p1)]) (1 : Int32)) = (own_ix [decide (x1 = p1), decide (x2 = p1)] (1 : Int32)) from rfl]
    show W.Go p e below _ (T172.setTop (mkF m 17 #[.val (.ref p0), .val (.int p1), .val (.int p2), .val (.int (1 : Int32)), .val (.int iv), sl] [(.int (own_ix [decide (x1 = p1), decide (x2 = p1)] (1 : Int32)))]))
    by_cases e1 : x1 = p1
    · rw [show (own_ix [decide (x1 = p1), decide (x2 = p1)] (1 : Int32)) = (1 : Int32) by rw [own_ix_t e1] <;> rfl]
      refine W.istore (q := 19) (L' := #[.val (.ref p0), .val (.int p1), .val (.int p2), .val (.int (1 : Int32)), .val (.int iv), .val (.int (1 : Int32))]) X172 C d5_17 (Jvm.Free.XS.store1 rfl hsl rfl) rfl ?_
      refine W.iload (q := 21) X172 C d5_19 rfl rfl ?_
      refine W.ifT (q := 26) X172 C d5_21 (by decide) (by decide) (by decide : W.cT .ge (1 : Int32) 0) ?_
      refine W.iload (q := 28) X172 C d5_26 rfl rfl ?_
      refine W.iconst (q := 29) (v := 1) X172 C d5_28 rfl rfl ?_
      refine W.iadd (q := 30) X172 C d5_29 rfl ?_
      rw [show ((1 : Int32) + (1 : Int32)) = (2 : Int32) by decide]
      refine W.istoreN (q := 31) (L' := #[.val (.ref p0), .val (.int p1), .val (.int p2), .val (.int (2 : Int32)), .val (.int iv), .val (.int (1 : Int32))]) X172 C d5_30 rfl rfl ?_
      refine W.iinc (q := 34) (L' := #[.val (.ref p0), .val (.int p1), .val (.int p2), .val (.int (2 : Int32)), .val (.int (iv + (1 : Int32))), .val (.int (1 : Int32))]) X172 C d5_31 rfl rfl rfl rfl ?_
      refine W.goto (q := 5) X172 C d5_34 (by decide) (by decide) ?_
      rw [show (own_rs [decide (x1 = p1), decide (x2 = p1)] (1 : Int32) ii p2) = own_rs [decide (x2 = p1)] (2 : Int32) (ii + 1) p2 by rw [own_rs_s (by omega), own_sc_t e1] <;> rfl]
      exact own_h_3_2 l Z a0 hw h0 n0 p0 x0 x1 x2 p1 p2 cs fv (iv + (1 : Int32)) (ii + 1) (.val (.int (1 : Int32))) C X172 e172 N172 Y0 hs16 hr0 hr1 hr2 SS (own_inc hi (by omega) (by omega)) (by omega) (by omega) (One.val rfl)
    · by_cases e2 : x2 = p1
      · rw [show (own_ix [decide (x1 = p1), decide (x2 = p1)] (1 : Int32)) = (2 : Int32) by rw [own_ix_f e1, own_ix_t e2] <;> rfl]
        refine W.istore (q := 19) (L' := #[.val (.ref p0), .val (.int p1), .val (.int p2), .val (.int (1 : Int32)), .val (.int iv), .val (.int (2 : Int32))]) X172 C d5_17 (Jvm.Free.XS.store1 rfl hsl rfl) rfl ?_
        refine W.iload (q := 21) X172 C d5_19 rfl rfl ?_
        refine W.ifT (q := 26) X172 C d5_21 (by decide) (by decide) (by decide : W.cT .ge (2 : Int32) 0) ?_
        refine W.iload (q := 28) X172 C d5_26 rfl rfl ?_
        refine W.iconst (q := 29) (v := 1) X172 C d5_28 rfl rfl ?_
        refine W.iadd (q := 30) X172 C d5_29 rfl ?_
        rw [show ((2 : Int32) + (1 : Int32)) = (3 : Int32) by decide]
        refine W.istoreN (q := 31) (L' := #[.val (.ref p0), .val (.int p1), .val (.int p2), .val (.int (3 : Int32)), .val (.int iv), .val (.int (2 : Int32))]) X172 C d5_30 rfl rfl ?_
        refine W.iinc (q := 34) (L' := #[.val (.ref p0), .val (.int p1), .val (.int p2), .val (.int (3 : Int32)), .val (.int (iv + (1 : Int32))), .val (.int (2 : Int32))]) X172 C d5_31 rfl rfl rfl rfl ?_
        refine W.goto (q := 5) X172 C d5_34 (by decide) (by decide) ?_
        rw [show (own_rs [decide (x1 = p1), decide (x2 = p1)] (1 : Int32) ii p2) = own_rs [] (3 : Int32) (ii + 1) p2 by rw [own_rs_s (by omega), own_sc_f e1, own_sc_t e2] <;> rfl]
        exact own_h_3_3 l Z a0 hw h0 n0 p0 x0 x1 x2 p1 p2 cs fv (iv + (1 : Int32)) (ii + 1) (.val (.int (2 : Int32))) C X172 e172 N172 Y0 hs16 hr0 hr1 hr2 SS (own_inc hi (by omega) (by omega)) (by omega) (by omega) (One.val rfl)
      · rw [show (own_ix [decide (x1 = p1), decide (x2 = p1)] (1 : Int32)) = (-1 : Int32) by rw [own_ix_f e1, own_ix_f e2, own_ix_n] <;> rfl]
        refine W.istore (q := 19) (L' := #[.val (.ref p0), .val (.int p1), .val (.int p2), .val (.int (1 : Int32)), .val (.int iv), .val (.int (-1 : Int32))]) X172 C d5_17 (Jvm.Free.XS.store1 rfl hsl rfl) rfl ?_
        refine W.iload (q := 21) X172 C d5_19 rfl rfl ?_
        refine W.ifF (q := 24) X172 C d5_21 rfl (by decide : W.cF .ge (-1 : Int32) 0) ?_
        refine W.iconst (q := 25) (v := (-1)) X172 C d5_24 rfl rfl ?_
        exact W.retI X172 C e172 d5_25 (by decide) (by decide) ⟨by rw [own_rs_s (by omega), own_sc_f e1, own_sc_f e2, own_sc_n], N172, rfl⟩
set_option maxRecDepth 65536 in
set_option maxHeartbeats 40000000 in
theorem own_h_3_0 (l : Launch) (Z : State) (a0 : Array Value) (hw : ∀ d ∈ tables_1, d.before a0 Z = true) (h0 : Heap) (n0 : Nat) (p0 : Addr) (x0 x1 x2 : Int32) (p1 p2 cs : Int32) (fv : Value) (iv : Int32) (ii : Int) (sl : Slot) {p : Program} {e : Env} {s : State} {m : MethodId} {args : Array Value} {below : List Frame} {meth : Method} {c : Code} {T0 : State} {locs : List Loc}
    (C : W.Cx p s m meth c Z prog_5_method_36_code 6 "com/example/orderwire/orderwire/hl7/Encoding" "partStart" (some .int)) (X0 : Stand p l e ({ frames := 6, cells := 0, slots := 0, locals := 104 } : Room) s m args below meth c T0 locs 0 0) (e0 : T0.heap = h0) (N0 : Fr n0 locs) (Y0 : own_txt3 Z h0 p0 x0 x1 x2) (hs16 : own_r16 p1) (hr0 : own_r16 x0) (hr1 : own_r16 x1) (hr2 : own_r16 x2) (SS : own_S Z h0 cs fv) (hi : iv.toInt = ii) (hi0 : 0 ≤ ii) (hi1 : ii ≤ 1) (hsl : One sl) :
    W.Go p e below (W.Post s (fun v h L => v = some (.int (own_rs [decide (x0 = p1), decide (x1 = p1), decide (x2 = p1)] (0 : Int32) ii p2)) ∧ Fr n0 L ∧ h = h0) ({ frames := 6, cells := 0, slots := 0, locals := 104 } : Room).cells ({ frames := 6, cells := 0, slots := 0, locals := 104 } : Room).slots) (T0.setTop (mkF m 5 #[.val (.ref p0), .val (.int p1), .val (.int p2), .val (.int (0 : Int32)), .val (.int iv), sl] [])) := by
  refine W.iload (q := 7) X0 C d5_5 rfl rfl ?_
  refine W.iloadN (q := 8) X0 C d5_7 rfl rfl ?_
  refine W.icmp (q := 37) (q' := 11) X0 C d5_8 (by decide) (by decide) rfl (fun hc173 => ?_) (fun hc173 => ?_)
  · replace hc173 : p2.toInt ≤ iv.toInt := hc173
    refine W.iloadN (q := 38) X0 C d5_37 rfl rfl ?_
    exact W.retI X0 C e0 d5_38 (by decide) (by decide) ⟨by rw [own_rs_p (by omega)], N0, rfl⟩
  · replace hc173 : iv.toInt < p2.toInt := hc173
    refine W.aloadN (q := 12) X0 C d5_11 rfl rfl rfl ?_
    refine W.iloadN (q := 13) X0 C d5_12 rfl rfl ?_
    refine W.iloadN (q := 14) X0 C d5_13 rfl rfl ?_
    refine W.callV (q := 17) X0 C (W.ww hw 30 rfl) (W.ww hw 31 rfl) (W.nf C (W.ww hw 33 rfl)) (W.ww hw 33 rfl) (W.ww hw 32 rfl) (W.ww hw 3 rfl) (W.ww hw 34 rfl) (by decide) (rm6_3 l Z a0 hw [] p0 x0 x1 x2 p1 (0 : Int32) cs fv h0 n0 Y0 hs16 hr0 hr1 hr2 (by decide) (by decide) SS) e0 Y0.exa d5_14 [(.int p1), (.int (0 : Int32))] [] rfl rfl pd__28II_29I rfl rfl (by decide) (Nat.le_of_ble_eq_true rfl) (by decide) (by decide) rfl (fun T174 w174 L174 X174 hQ174 => ?_)
    obtain ⟨rfl, NL174, e174⟩ := hQ174
    have N174 := Fr.app N0 NL174
    rw [show (own_ix (List.drop (0 : Int32).toInt.toNat [decide (x0 = p1), decide (x1 = p1), decide (x2 = p1)]) (0 : Int32)) = (own_ix [decide (x0 = p1), decide (x1 = p1), decide (x2 = p1)] (0 : Int32)) from rfl]
    show W.Go p e below _ (T174.setTop (mkF m 17 #[.val (.ref p0), .val (.int p1), .val (.int p2), .val (.int (0 : Int32)), .val (.int iv), sl] [(.int (own_ix [decide (x0 = p1), decide (x1 = p1), decide (x2 = p1)] (0 : Int32)))]))
    by_cases e0 : x0 = p1
    · rw [show (own_ix [decide (x0 = p1), decide (x1 = p1), decide (x2 = p1)] (0 : Int32)) = (0 : Int32) by rw [own_ix_t e0] <;> rfl]
      refine W.istore (q := 19) (L' := #[.val (.ref p0), .val (.int p1), .val (.int p2), .val (.int (0 : Int32)), .val (.int iv), .val (.int (0 : Int32))]) X174 C d5_17 (Jvm.Free.XS.store1 rfl hsl rfl) rfl ?_
      refine W.iload (q := 21) X174 C d5_19 rfl rfl ?_
      refine W.ifT (q := 26) X174 C d5_21 (by decide) (by decide) (by decide : W.cT .ge (0 : Int32) 0) ?_
      refine W.iload (q := 28) X174 C d5_26 rfl rfl ?_
      refine W.iconst (q := 29) (v := 1) X174 C d5_28 rfl rfl ?_
      refine W.iadd (q := 30) X174 C d5_29 rfl ?_
      rw [show ((0 : Int32) + (1 : Int32)) = (1 : Int32) by decide]
      refine W.istoreN (q := 31) (L' := #[.val (.ref p0), .val (.int p1), .val (.int p2), .val (.int (1 : Int32)), .val (.int iv), .val (.int (0 : Int32))]) X174 C d5_30 rfl rfl ?_
      refine W.iinc (q := 34) (L' := #[.val (.ref p0), .val (.int p1), .val (.int p2), .val (.int (1 : Int32)), .val (.int (iv + (1 : Int32))), .val (.int (0 : Int32))]) X174 C d5_31 rfl rfl rfl rfl ?_
      refine W.goto (q := 5) X174 C d5_34 (by decide) (by decide) ?_
      rw [show (own_rs [decide (x0 = p1), decide (x1 = p1), decide (x2 = p1)] (0 : Int32) ii p2) = own_rs [decide (x1 = p1), decide (x2 = p1)] (1 : Int32) (ii + 1) p2 by rw [own_rs_s (by omega), own_sc_t e0] <;> rfl]
      exact own_h_3_1 l Z a0 hw h0 n0 p0 x0 x1 x2 p1 p2 cs fv (iv + (1 : Int32)) (ii + 1) (.val (.int (0 : Int32))) C X174 e174 N174 Y0 hs16 hr0 hr1 hr2 SS (own_inc hi (by omega) (by omega)) (by omega) (by omega) (One.val rfl)
    · by_cases e1 : x1 = p1
      · rw [show (own_ix [decide (x0 = p1), decide (x1 = p1), decide (x2 = p1)] (0 : Int32)) = (1 : Int32) by rw [own_ix_f e0, own_ix_t e1] <;> rfl]
        refine W.istore (q := 19) (L' := #[.val (.ref p0), .val (.int p1), .val (.int p2), .val (.int (0 : Int32)), .val (.int iv), .val (.int (1 : Int32))]) X174 C d5_17 (Jvm.Free.XS.store1 rfl hsl rfl) rfl ?_
        refine W.iload (q := 21) X174 C d5_19 rfl rfl ?_
        refine W.ifT (q := 26) X174 C d5_21 (by decide) (by decide) (by decide : W.cT .ge (1 : Int32) 0) ?_
        refine W.iload (q := 28) X174 C d5_26 rfl rfl ?_
        refine W.iconst (q := 29) (v := 1) X174 C d5_28 rfl rfl ?_
        refine W.iadd (q := 30) X174 C d5_29 rfl ?_
        rw [show ((1 : Int32) + (1 : Int32)) = (2 : Int32) by decide]
        refine W.istoreN (q := 31) (L' := #[.val (.ref p0), .val (.int p1), .val (.int p2), .val (.int (2 : Int32)), .val (.int iv), .val (.int (1 : Int32))]) X174 C d5_30 rfl rfl ?_
        refine W.iinc (q := 34) (L' := #[.val (.ref p0), .val (.int p1), .val (.int p2), .val (.int (2 : Int32)), .val (.int (iv + (1 : Int32))), .val (.int (1 : Int32))]) X174 C d5_31 rfl rfl rfl rfl ?_
        refine W.goto (q := 5) X174 C d5_34 (by decide) (by decide) ?_
        rw [show (own_rs [decide (x0 = p1), decide (x1 = p1), decide (x2 = p1)] (0 : Int32) ii p2) = own_rs [decide (x2 = p1)] (2 : Int32) (ii + 1) p2 by rw [own_rs_s (by omega), own_sc_f e0, own_sc_t e1] <;> rfl]
        exact own_h_3_2 l Z a0 hw h0 n0 p0 x0 x1 x2 p1 p2 cs fv (iv + (1 : Int32)) (ii + 1) (.val (.int (1 : Int32))) C X174 e174 N174 Y0 hs16 hr0 hr1 hr2 SS (own_inc hi (by omega) (by omega)) (by omega) (by omega) (One.val rfl)
      · by_cases e2 : x2 = p1
        · rw [show (own_ix [decide (x0 = p1), decide (x1 = p1), decide (x2 = p1)] (0 : Int32)) = (2 : Int32) by rw [own_ix_f e0, own_ix_f e1, own_ix_t e2] <;> rfl]
          refine W.istore (q := 19) (L' := #[.val (.ref p0), .val (.int p1), .val (.int p2), .val (.int (0 : Int32)), .val (.int iv), .val (.int (2 : Int32))]) X174 C d5_17 (Jvm.Free.XS.store1 rfl hsl rfl) rfl ?_
          refine W.iload (q := 21) X174 C d5_19 rfl rfl ?_
          refine W.ifT (q := 26) X174 C d5_21 (by decide) (by decide) (by decide : W.cT .ge (2 : Int32) 0) ?_
          refine W.iload (q := 28) X174 C d5_26 rfl rfl ?_
          refine W.iconst (q := 29) (v := 1) X174 C d5_28 rfl rfl ?_
          refine W.iadd (q := 30) X174 C d5_29 rfl ?_
          rw [show ((2 : Int32) + (1 : Int32)) = (3 : Int32) by decide]
          refine W.istoreN (q := 31) (L' := #[.val (.ref p0), .val (.int p1), .val (.int p2), .val (.int (3 : Int32)), .val (.int iv), .val (.int (2 : Int32))]) X174 C d5_30 rfl rfl ?_
          refine W.iinc (q := 34) (L' := #[.val (.ref p0), .val (.int p1), .val (.int p2), .val (.int (3 : Int32)), .val (.int (iv + (1 : Int32))), .val (.int (2 : Int32))]) X174 C d5_31 rfl rfl rfl rfl ?_
          refine W.goto (q := 5) X174 C d5_34 (by decide) (by decide) ?_
          rw [show (own_rs [decide (x0 = p1), decide (x1 = p1), decide (x2 = p1)] (0 : Int32) ii p2) = own_rs [] (3 : Int32) (ii + 1) p2 by rw [own_rs_s (by omega), own_sc_f e0, own_sc_f e1, own_sc_t e2] <;> rfl]
          exact own_h_3_3 l Z a0 hw h0 n0 p0 x0 x1 x2 p1 p2 cs fv (iv + (1 : Int32)) (ii + 1) (.val (.int (2 : Int32))) C X174 e174 N174 Y0 hs16 hr0 hr1 hr2 SS (own_inc hi (by omega) (by omega)) (by omega) (by omega) (One.val rfl)
        · rw [show (own_ix [decide (x0 = p1), decide (x1 = p1), decide (x2 = p1)] (0 : Int32)) = (-1 : Int32) by rw [own_ix_f e0, own_ix_f e1, own_ix_f e2, own_ix_n] <;> rfl]
          refine W.istore (q := 19) (L' := #[.val (.ref p0), .val (.int p1), .val (.int p2), .val (.int (0 : Int32)), .val (.int iv), .val (.int (-1 : Int32))]) X174 C d5_17 (Jvm.Free.XS.store1 rfl hsl rfl) rfl ?_
          refine W.iload (q := 21) X174 C d5_19 rfl rfl ?_
          refine W.ifF (q := 24) X174 C d5_21 rfl (by decide : W.cF .ge (-1 : Int32) 0) ?_
          refine W.iconst (q := 25) (v := (-1)) X174 C d5_24 rfl rfl ?_
          exact W.retI X174 C e174 d5_25 (by decide) (by decide) ⟨by rw [own_rs_s (by omega), own_sc_f e0, own_sc_f e1, own_sc_f e2, own_sc_n], N174, rfl⟩
def Q5_3 (Z : State) (p0 : Addr) (x0 x1 x2 : Int32) (p1 p2 cs : Int32) (fv : Value) (h0 : Heap) (n0 : Nat) (v : Option Value) (h : Heap) (L : List Loc) : Prop := v = some (.int (own_rs [decide (x0 = p1), decide (x1 = p1), decide (x2 = p1)] (0 : Int32) 1 p2)) ∧ Fr n0 L ∧ h = h0
theorem rm5_3 (l : Launch) (Z : State) (a0 : Array Value) (hw : own_HW a0 Z) (ws : List Jvm.Cond) (p0 : Addr) (x0 x1 x2 : Int32) (p1 p2 cs : Int32) (fv : Value) (h0 : Heap) (n0 : Nat) (Y0 : own_txt3 Z h0 p0 x0 x1 x2) (hs16 : own_r16 p1) (hr0 : own_r16 x0) (hr1 : own_r16 x1) (hr2 : own_r16 x2) (SS : own_S Z h0 cs fv) : own_M l y5 prog_5_method_36_code 6 (some .int) ws r_6_0_0_104 #[(.ref p0), (.int p1), (.int p2)] Z h0 (Q5_3 Z p0 x0 x1 x2 p1 p2 cs fv h0 n0) := by
  refine W.bodyOf (Ls := #[.val (.ref p0), .val (.int p1), .val (.int p2), .unset, .unset, .unset]) (plainFor_of_name pn_com_example_orderwire_orderwire_hl7_Encoding) (fun m => by first | exact W.entry_of rfl) ?_
  intro p e s m below meth c T0 C X0 e0
  have N0 := Fr.nil n0
  refine W.iconst (q := 1) (v := 0) X0 C d5_0 rfl rfl ?_
  refine W.istoreN (q := 2) (L' := #[.val (.ref p0), .val (.int p1), .val (.int p2), .val (.int (0 : Int32)), .unset, .unset]) X0 C d5_1 rfl rfl ?_
  refine W.iconst (q := 3) (v := 1) X0 C d5_2 rfl rfl ?_
  refine W.istore (q := 5) (L' := #[.val (.ref p0), .val (.int p1), .val (.int p2), .val (.int (0 : Int32)), .val (.int (1 : Int32)), .unset]) X0 C d5_3 rfl rfl ?_
  exact own_h_3_0 l Z a0 hw h0 n0 p0 x0 x1 x2 p1 p2 cs fv (1 : Int32) 1 .unset C X0 e0 N0 Y0 hs16 hr0 hr1 hr2 SS rfl (by decide) (by decide) One.u
set_option maxRecDepth 65536 in
set_option maxHeartbeats 40000000 in
theorem own_h_4_4 (l : Launch) (Z : State) (a0 : Array Value) (hw : ∀ d ∈ tables_1, d.before a0 Z = true) (h0 : Heap) (n0 : Nat) (p0 : Addr) (x0 x1 x2 x3 : Int32) (p1 p2 cs : Int32) (fv : Value) (iv : Int32) (ii : Int) (sl : Slot) {p : Program} {e : Env} {s : State} {m : MethodId} {args : Array Value} {below : List Frame} {meth : Method} {c : Code} {T0 : State} {locs : List Loc}
    (C : W.Cx p s m meth c Z prog_5_method_36_code 6 "com/example/orderwire/orderwire/hl7/Encoding" "partStart" (some .int)) (X0 : Stand p l e ({ frames := 6, cells := 0, slots := 0, locals := 104 } : Room) s m args below meth c T0 locs 0 0) (e0 : T0.heap = h0) (N0 : Fr n0 locs) (Y0 : own_txt4 Z h0 p0 x0 x1 x2 x3) (hs16 : own_r16 p1) (hr0 : own_r16 x0) (hr1 : own_r16 x1) (hr2 : own_r16 x2) (hr3 : own_r16 x3) (SS : own_S Z h0 cs fv) (hi : iv.toInt = ii) (hi0 : 0 ≤ ii) (hi1 : ii ≤ 5) (hsl : One sl) :
    W.Go p e below (W.Post s (fun v h L => v = some (.int (own_rs [] (4 : Int32) ii p2)) ∧ Fr n0 L ∧ h = h0) ({ frames := 6, cells := 0, slots := 0, locals := 104 } : Room).cells ({ frames := 6, cells := 0, slots := 0, locals := 104 } : Room).slots) (T0.setTop (mkF m 5 #[.val (.ref p0), .val (.int p1), .val (.int p2), .val (.int (4 : Int32)), .val (.int iv), sl] [])) := by
  refine W.iload (q := 7) X0 C d5_5 rfl rfl ?_
  refine W.iloadN (q := 8) X0 C d5_7 rfl rfl ?_
  refine W.icmp (q := 37) (q' := 11) X0 C d5_8 (by decide) (by decide) rfl (fun hc175 => ?_) (fun hc175 => ?_)
  · replace hc175 : p2.toInt ≤ iv.toInt := hc175
    refine W.iloadN (q := 38) X0 C d5_37 rfl rfl ?_
    exact W.retI X0 C e0 d5_38 (by decide) (by decide) ⟨by rw [own_rs_p (by omega)], N0, rfl⟩
  · replace hc175 : iv.toInt < p2.toInt := hc175
    refine W.aloadN (q := 12) X0 C d5_11 rfl rfl rfl ?_
    refine W.iloadN (q := 13) X0 C d5_12 rfl rfl ?_
    refine W.iloadN (q := 14) X0 C d5_13 rfl rfl ?_
    refine W.callV (q := 17) X0 C (W.ww hw 30 rfl) (W.ww hw 31 rfl) (W.nf C (W.ww hw 33 rfl)) (W.ww hw 33 rfl) (W.ww hw 32 rfl) (W.ww hw 3 rfl) (W.ww hw 34 rfl) (by decide) (rm6_4 l Z a0 hw [] p0 x0 x1 x2 x3 p1 (4 : Int32) cs fv h0 n0 Y0 hs16 hr0 hr1 hr2 hr3 (by decide) (by decide) SS) e0 Y0.exa d5_14 [(.int p1), (.int (4 : Int32))] [] rfl rfl pd__28II_29I rfl rfl (by decide) (Nat.le_of_ble_eq_true rfl) (by decide) (by decide) rfl (fun T176 w176 L176 X176 hQ176 => ?_)
    obtain ⟨rfl, NL176, e176⟩ := hQ176
    have N176 := Fr.app N0 NL176
    rw [show (own_ix (List.drop (4 : Int32).toInt.toNat [decide (x0 = p1), decide (x1 = p1), decide (x2 = p1), decide (x3 = p1)]) (4 : Int32)) = (own_ix [] (4 : Int32)) from rfl]
    show W.Go p e below _ (T176.setTop (mkF m 17 #[.val (.ref p0), .val (.int p1), .val (.int p2), .val (.int (4 : Int32)), .val (.int iv), sl] [(.int (own_ix [] (4 : Int32)))]))
    rw [show (own_ix [] (4 : Int32)) = (-1 : Int32) by rw [own_ix_n] <;> rfl]
    refine W.istore (q := 19) (L' := #[.val (.ref p0), .val (.int p1), .val (.int p2), .val (.int (4 : Int32)), .val (.int iv), .val (.int (-1 : Int32))]) X176 C d5_17 (Jvm.Free.XS.store1 rfl hsl rfl) rfl ?_
    refine W.iload (q := 21) X176 C d5_19 rfl rfl ?_
    refine W.ifF (q := 24) X176 C d5_21 rfl (by decide : W.cF .ge (-1 : Int32) 0) ?_
    refine W.iconst (q := 25) (v := (-1)) X176 C d5_24 rfl rfl ?_
    exact W.retI X176 C e176 d5_25 (by decide) (by decide) ⟨by rw [own_rs_s (by omega), own_sc_n], N176, rfl⟩
set_option maxRecDepth 65536 in
set_option maxHeartbeats 40000000 in
theorem own_h_4_3 (l : Launch) (Z : State) (a0 : Array Value) (hw : ∀ d ∈ tables_1, d.before a0 Z = true) (h0 : Heap) (n0 : Nat) (p0 : Addr) (x0 x1 x2 x3 : Int32) (p1 p2 cs : Int32) (fv : Value) (iv : Int32) (ii : Int) (sl : Slot) {p : Program} {e : Env} {s : State} {m : MethodId} {args : Array Value} {below : List Frame} {meth : Method} {c : Code} {T0 : State} {locs : List Loc}
    (C : W.Cx p s m meth c Z prog_5_method_36_code 6 "com/example/orderwire/orderwire/hl7/Encoding" "partStart" (some .int)) (X0 : Stand p l e ({ frames := 6, cells := 0, slots := 0, locals := 104 } : Room) s m args below meth c T0 locs 0 0) (e0 : T0.heap = h0) (N0 : Fr n0 locs) (Y0 : own_txt4 Z h0 p0 x0 x1 x2 x3) (hs16 : own_r16 p1) (hr0 : own_r16 x0) (hr1 : own_r16 x1) (hr2 : own_r16 x2) (hr3 : own_r16 x3) (SS : own_S Z h0 cs fv) (hi : iv.toInt = ii) (hi0 : 0 ≤ ii) (hi1 : ii ≤ 4) (hsl : One sl) :
    W.Go p e below (W.Post s (fun v h L => v = some (.int (own_rs [decide (x3 = p1)] (3 : Int32) ii p2)) ∧ Fr n0 L ∧ h = h0) ({ frames := 6, cells := 0, slots := 0, locals := 104 } : Room).cells ({ frames := 6, cells := 0, slots := 0, locals := 104 } : Room).slots) (T0.setTop (mkF m 5 #[.val (.ref p0), .val (.int p1), .val (.int p2), .val (.int (3 : Int32)), .val (.int iv), sl] [])) := by
  refine W.iload (q := 7) X0 C d5_5 rfl rfl ?_
  refine W.iloadN (q := 8) X0 C d5_7 rfl rfl ?_
  refine W.icmp (q := 37) (q' := 11) X0 C d5_8 (by decide) (by decide) rfl (fun hc177 => ?_) (fun hc177 => ?_)
  · replace hc177 : p2.toInt ≤ iv.toInt := hc177
    refine W.iloadN (q := 38) X0 C d5_37 rfl rfl ?_
    exact W.retI X0 C e0 d5_38 (by decide) (by decide) ⟨by rw [own_rs_p (by omega)], N0, rfl⟩
  · replace hc177 : iv.toInt < p2.toInt := hc177
    refine W.aloadN (q := 12) X0 C d5_11 rfl rfl rfl ?_
    refine W.iloadN (q := 13) X0 C d5_12 rfl rfl ?_
    refine W.iloadN (q := 14) X0 C d5_13 rfl rfl ?_
    refine W.callV (q := 17) X0 C (W.ww hw 30 rfl) (W.ww hw 31 rfl) (W.nf C (W.ww hw 33 rfl)) (W.ww hw 33 rfl) (W.ww hw 32 rfl) (W.ww hw 3 rfl) (W.ww hw 34 rfl) (by decide) (rm6_4 l Z a0 hw [] p0 x0 x1 x2 x3 p1 (3 : Int32) cs fv h0 n0 Y0 hs16 hr0 hr1 hr2 hr3 (by decide) (by decide) SS) e0 Y0.exa d5_14 [(.int p1), (.int (3 : Int32))] [] rfl rfl pd__28II_29I rfl rfl (by decide) (Nat.le_of_ble_eq_true rfl) (by decide) (by decide) rfl (fun T178 w178 L178 X178 hQ178 => ?_)
    obtain ⟨rfl, NL178, e178⟩ := hQ178
    have N178 := Fr.app N0 NL178
    rw [show (own_ix (List.drop (3 : Int32).toInt.toNat [decide (x0 = p1), decide (x1 = p1), decide (x2 = p1), decide (x3 = p1)]) (3 : Int32)) = (own_ix [decide (x3 = p1)] (3 : Int32)) from rfl]
    show W.Go p e below _ (T178.setTop (mkF m 17 #[.val (.ref p0), .val (.int p1), .val (.int p2), .val (.int (3 : Int32)), .val (.int iv), sl] [(.int (own_ix [decide (x3 = p1)] (3 : Int32)))]))
    by_cases e3 : x3 = p1
    · rw [show (own_ix [decide (x3 = p1)] (3 : Int32)) = (3 : Int32) by rw [own_ix_t e3] <;> rfl]
      refine W.istore (q := 19) (L' := #[.val (.ref p0), .val (.int p1), .val (.int p2), .val (.int (3 : Int32)), .val (.int iv), .val (.int (3 : Int32))]) X178 C d5_17 (Jvm.Free.XS.store1 rfl hsl rfl) rfl ?_
      refine W.iload (q := 21) X178 C d5_19 rfl rfl ?_
      refine W.ifT (q := 26) X178 C d5_21 (by decide) (by decide) (by decide : W.cT .ge (3 : Int32) 0) ?_
      refine W.iload (q := 28) X178 C d5_26 rfl rfl ?_
      refine W.iconst (q := 29) (v := 1) X178 C d5_28 rfl rfl ?_
      refine W.iadd (q := 30) X178 C d5_29 rfl ?_
      rw [show ((3 : Int32) + (1 : Int32)) = (4 : Int32) by decide]
      refine W.istoreN (q := 31) (L' := #[.val (.ref p0), .val (.int p1), .val (.int p2), .val (.int (4 : Int32)), .val (.int iv), .val (.int (3 : Int32))]) X178 C d5_30 rfl rfl ?_
      refine W.iinc (q := 34) (L' := #[.val (.ref p0), .val (.int p1), .val (.int p2), .val (.int (4 : Int32)), .val (.int (iv + (1 : Int32))), .val (.int (3 : Int32))]) X178 C d5_31 rfl rfl rfl rfl ?_
      refine W.goto (q := 5) X178 C d5_34 (by decide) (by decide) ?_
      rw [show (own_rs [decide (x3 = p1)] (3 : Int32) ii p2) = own_rs [] (4 : Int32) (ii + 1) p2 by rw [own_rs_s (by omega), own_sc_t e3] <;> rfl]
      exact own_h_4_4 l Z a0 hw h0 n0 p0 x0 x1 x2 x3 p1 p2 cs fv (iv + (1 : Int32)) (ii + 1) (.val (.int (3 : Int32))) C X178 e178 N178 Y0 hs16 hr0 hr1 hr2 hr3 SS (own_inc hi (by omega) (by omega)) (by omega) (by omega) (One.val rfl)
    · rw [show (own_ix [decide (x3 = p1)] (3 : Int32)) = (-1 : Int32) by rw [own_ix_f e3, own_ix_n] <;> rfl]
      refine W.istore (q := 19) (L' := #[.val (.ref p0), .val (.int p1), .val (.int p2), .val (.int (3 : Int32)), .val (.int iv), .val (.int (-1 : Int32))]) X178 C d5_17 (Jvm.Free.XS.store1 rfl hsl rfl) rfl ?_
      refine W.iload (q := 21) X178 C d5_19 rfl rfl ?_
      refine W.ifF (q := 24) X178 C d5_21 rfl (by decide : W.cF .ge (-1 : Int32) 0) ?_
      refine W.iconst (q := 25) (v := (-1)) X178 C d5_24 rfl rfl ?_
      exact W.retI X178 C e178 d5_25 (by decide) (by decide) ⟨by rw [own_rs_s (by omega), own_sc_f e3, own_sc_n], N178, rfl⟩
set_option maxRecDepth 65536 in
set_option maxHeartbeats 40000000 in
theorem own_h_4_2 (l : Launch) (Z : State) (a0 : Array Value) (hw : ∀ d ∈ tables_1, d.before a0 Z = true) (h0 : Heap) (n0 : Nat) (p0 : Addr) (x0 x1 x2 x3 : Int32) (p1 p2 cs : Int32) (fv : Value) (iv : Int32) (ii : Int) (sl : Slot) {p : Program} {e : Env} {s : State} {m : MethodId} {args : Array Value} {below : List Frame} {meth : Method} {c : Code} {T0 : State} {locs : List Loc}
    (C : W.Cx p s m meth c Z prog_5_method_36_code 6 "com/example/orderwire/orderwire/hl7/Encoding" "partStart" (some .int)) (X0 : Stand p l e ({ frames := 6, cells := 0, slots := 0, locals := 104 } : Room) s m args below meth c T0 locs 0 0) (e0 : T0.heap = h0) (N0 : Fr n0 locs) (Y0 : own_txt4 Z h0 p0 x0 x1 x2 x3) (hs16 : own_r16 p1) (hr0 : own_r16 x0) (hr1 : own_r16 x1) (hr2 : own_r16 x2) (hr3 : own_r16 x3) (SS : own_S Z h0 cs fv) (hi : iv.toInt = ii) (hi0 : 0 ≤ ii) (hi1 : ii ≤ 3) (hsl : One sl) :
    W.Go p e below (W.Post s (fun v h L => v = some (.int (own_rs [decide (x2 = p1), decide (x3 = p1)] (2 : Int32) ii p2)) ∧ Fr n0 L ∧ h = h0) ({ frames := 6, cells := 0, slots := 0, locals := 104 } : Room).cells ({ frames := 6, cells := 0, slots := 0, locals := 104 } : Room).slots) (T0.setTop (mkF m 5 #[.val (.ref p0), .val (.int p1), .val (.int p2), .val (.int (2 : Int32)), .val (.int iv), sl] [])) := by
  refine W.iload (q := 7) X0 C d5_5 rfl rfl ?_
  refine W.iloadN (q := 8) X0 C d5_7 rfl rfl ?_
  refine W.icmp (q := 37) (q' := 11) X0 C d5_8 (by decide) (by decide) rfl (fun hc179 => ?_) (fun hc179 => ?_)
  · replace hc179 : p2.toInt ≤ iv.toInt := hc179
    refine W.iloadN (q := 38) X0 C d5_37 rfl rfl ?_
    exact W.retI X0 C e0 d5_38 (by decide) (by decide) ⟨by rw [own_rs_p (by omega)], N0, rfl⟩
  · replace hc179 : iv.toInt < p2.toInt := hc179
    refine W.aloadN (q := 12) X0 C d5_11 rfl rfl rfl ?_
    refine W.iloadN (q := 13) X0 C d5_12 rfl rfl ?_
    refine W.iloadN (q := 14) X0 C d5_13 rfl rfl ?_
    refine W.callV (q := 17) X0 C (W.ww hw 30 rfl) (W.ww hw 31 rfl) (W.nf C (W.ww hw 33 rfl)) (W.ww hw 33 rfl) (W.ww hw 32 rfl) (W.ww hw 3 rfl) (W.ww hw 34 rfl) (by decide) (rm6_4 l Z a0 hw [] p0 x0 x1 x2 x3 p1 (2 : Int32) cs fv h0 n0 Y0 hs16 hr0 hr1 hr2 hr3 (by decide) (by decide) SS) e0 Y0.exa d5_14 [(.int p1), (.int (2 : Int32))] [] rfl rfl pd__28II_29I rfl rfl (by decide) (Nat.le_of_ble_eq_true rfl) (by decide) (by decide) rfl (fun T180 w180 L180 X180 hQ180 => ?_)
    obtain ⟨rfl, NL180, e180⟩ := hQ180
    have N180 := Fr.app N0 NL180
    rw [show (own_ix (List.drop (2 : Int32).toInt.toNat [decide (x0 = p1), decide (x1 = p1), decide (x2 = p1), decide (x3 = p1)]) (2 : Int32)) = (own_ix [decide (x2 = p1), decide (x3 = p1)] (2 : Int32)) from rfl]
    show W.Go p e below _ (T180.setTop (mkF m 17 #[.val (.ref p0), .val (.int p1), .val (.int p2), .val (.int (2 : Int32)), .val (.int iv), sl] [(.int (own_ix [decide (x2 = p1), decide (x3 = p1)] (2 : Int32)))]))
    by_cases e2 : x2 = p1
    · rw [show (own_ix [decide (x2 = p1), decide (x3 = p1)] (2 : Int32)) = (2 : Int32) by rw [own_ix_t e2] <;> rfl]
      refine W.istore (q := 19) (L' := #[.val (.ref p0), .val (.int p1), .val (.int p2), .val (.int (2 : Int32)), .val (.int iv), .val (.int (2 : Int32))]) X180 C d5_17 (Jvm.Free.XS.store1 rfl hsl rfl) rfl ?_
      refine W.iload (q := 21) X180 C d5_19 rfl rfl ?_
      refine W.ifT (q := 26) X180 C d5_21 (by decide) (by decide) (by decide : W.cT .ge (2 : Int32) 0) ?_
      refine W.iload (q := 28) X180 C d5_26 rfl rfl ?_
      refine W.iconst (q := 29) (v := 1) X180 C d5_28 rfl rfl ?_
      refine W.iadd (q := 30) X180 C d5_29 rfl ?_
      rw [show ((2 : Int32) + (1 : Int32)) = (3 : Int32) by decide]
      refine W.istoreN (q := 31) (L' := #[.val (.ref p0), .val (.int p1), .val (.int p2), .val (.int (3 : Int32)), .val (.int iv), .val (.int (2 : Int32))]) X180 C d5_30 rfl rfl ?_
      refine W.iinc (q := 34) (L' := #[.val (.ref p0), .val (.int p1), .val (.int p2), .val (.int (3 : Int32)), .val (.int (iv + (1 : Int32))), .val (.int (2 : Int32))]) X180 C d5_31 rfl rfl rfl rfl ?_
      refine W.goto (q := 5) X180 C d5_34 (by decide) (by decide) ?_
      rw [show (own_rs [decide (x2 = p1), decide (x3 = p1)] (2 : Int32) ii p2) = own_rs [decide (x3 = p1)] (3 : Int32) (ii + 1) p2 by rw [own_rs_s (by omega), own_sc_t e2] <;> rfl]
      exact own_h_4_3 l Z a0 hw h0 n0 p0 x0 x1 x2 x3 p1 p2 cs fv (iv + (1 : Int32)) (ii + 1) (.val (.int (2 : Int32))) C X180 e180 N180 Y0 hs16 hr0 hr1 hr2 hr3 SS (own_inc hi (by omega) (by omega)) (by omega) (by omega) (One.val rfl)
    · by_cases e3 : x3 = p1
      · rw [show (own_ix [decide (x2 = p1), decide (x3 = p1)] (2 : Int32)) = (3 : Int32) by rw [own_ix_f e2, own_ix_t e3] <;> rfl]
        refine W.istore (q := 19) (L' := #[.val (.ref p0), .val (.int p1), .val (.int p2), .val (.int (2 : Int32)), .val (.int iv), .val (.int (3 : Int32))]) X180 C d5_17 (Jvm.Free.XS.store1 rfl hsl rfl) rfl ?_
        refine W.iload (q := 21) X180 C d5_19 rfl rfl ?_
        refine W.ifT (q := 26) X180 C d5_21 (by decide) (by decide) (by decide : W.cT .ge (3 : Int32) 0) ?_
        refine W.iload (q := 28) X180 C d5_26 rfl rfl ?_
        refine W.iconst (q := 29) (v := 1) X180 C d5_28 rfl rfl ?_
        refine W.iadd (q := 30) X180 C d5_29 rfl ?_
        rw [show ((3 : Int32) + (1 : Int32)) = (4 : Int32) by decide]
        refine W.istoreN (q := 31) (L' := #[.val (.ref p0), .val (.int p1), .val (.int p2), .val (.int (4 : Int32)), .val (.int iv), .val (.int (3 : Int32))]) X180 C d5_30 rfl rfl ?_
        refine W.iinc (q := 34) (L' := #[.val (.ref p0), .val (.int p1), .val (.int p2), .val (.int (4 : Int32)), .val (.int (iv + (1 : Int32))), .val (.int (3 : Int32))]) X180 C d5_31 rfl rfl rfl rfl ?_
        refine W.goto (q := 5) X180 C d5_34 (by decide) (by decide) ?_
        rw [show (own_rs [decide (x2 = p1), decide (x3 = p1)] (2 : Int32) ii p2) = own_rs [] (4 : Int32) (ii + 1) p2 by rw [own_rs_s (by omega), own_sc_f e2, own_sc_t e3] <;> rfl]
        exact own_h_4_4 l Z a0 hw h0 n0 p0 x0 x1 x2 x3 p1 p2 cs fv (iv + (1 : Int32)) (ii + 1) (.val (.int (3 : Int32))) C X180 e180 N180 Y0 hs16 hr0 hr1 hr2 hr3 SS (own_inc hi (by omega) (by omega)) (by omega) (by omega) (One.val rfl)
      · rw [show (own_ix [decide (x2 = p1), decide (x3 = p1)] (2 : Int32)) = (-1 : Int32) by rw [own_ix_f e2, own_ix_f e3, own_ix_n] <;> rfl]
        refine W.istore (q := 19) (L' := #[.val (.ref p0), .val (.int p1), .val (.int p2), .val (.int (2 : Int32)), .val (.int iv), .val (.int (-1 : Int32))]) X180 C d5_17 (Jvm.Free.XS.store1 rfl hsl rfl) rfl ?_
        refine W.iload (q := 21) X180 C d5_19 rfl rfl ?_
        refine W.ifF (q := 24) X180 C d5_21 rfl (by decide : W.cF .ge (-1 : Int32) 0) ?_
        refine W.iconst (q := 25) (v := (-1)) X180 C d5_24 rfl rfl ?_
        exact W.retI X180 C e180 d5_25 (by decide) (by decide) ⟨by rw [own_rs_s (by omega), own_sc_f e2, own_sc_f e3, own_sc_n], N180, rfl⟩
set_option maxRecDepth 65536 in
set_option maxHeartbeats 40000000 in
theorem own_h_4_1 (l : Launch) (Z : State) (a0 : Array Value) (hw : ∀ d ∈ tables_1, d.before a0 Z = true) (h0 : Heap) (n0 : Nat) (p0 : Addr) (x0 x1 x2 x3 : Int32) (p1 p2 cs : Int32) (fv : Value) (iv : Int32) (ii : Int) (sl : Slot) {p : Program} {e : Env} {s : State} {m : MethodId} {args : Array Value} {below : List Frame} {meth : Method} {c : Code} {T0 : State} {locs : List Loc}
    (C : W.Cx p s m meth c Z prog_5_method_36_code 6 "com/example/orderwire/orderwire/hl7/Encoding" "partStart" (some .int)) (X0 : Stand p l e ({ frames := 6, cells := 0, slots := 0, locals := 104 } : Room) s m args below meth c T0 locs 0 0) (e0 : T0.heap = h0) (N0 : Fr n0 locs) (Y0 : own_txt4 Z h0 p0 x0 x1 x2 x3) (hs16 : own_r16 p1) (hr0 : own_r16 x0) (hr1 : own_r16 x1) (hr2 : own_r16 x2) (hr3 : own_r16 x3) (SS : own_S Z h0 cs fv) (hi : iv.toInt = ii) (hi0 : 0 ≤ ii) (hi1 : ii ≤ 2) (hsl : One sl) :
    W.Go p e below (W.Post s (fun v h L => v = some (.int (own_rs [decide (x1 = p1), decide (x2 = p1), decide (x3 = p1)] (1 : Int32) ii p2)) ∧ Fr n0 L ∧ h = h0) ({ frames := 6, cells := 0, slots := 0, locals := 104 } : Room).cells ({ frames := 6, cells := 0, slots := 0, locals := 104 } : Room).slots) (T0.setTop (mkF m 5 #[.val (.ref p0), .val (.int p1), .val (.int p2), .val (.int (1 : Int32)), .val (.int iv), sl] [])) := by
  refine W.iload (q := 7) X0 C d5_5 rfl rfl ?_
  refine W.iloadN (q := 8) X0 C d5_7 rfl rfl ?_
  refine W.icmp (q := 37) (q' := 11) X0 C d5_8 (by decide) (by decide) rfl (fun hc181 => ?_) (fun hc181 => ?_)
  · replace hc181 : p2.toInt ≤ iv.toInt := hc181
    refine W.iloadN (q := 38) X0 C d5_37 rfl rfl ?_
    exact W.retI X0 C e0 d5_38 (by decide) (by decide) ⟨by rw [own_rs_p (by omega)], N0, rfl⟩
  · replace hc181 : iv.toInt < p2.toInt := hc181
    refine W.aloadN (q := 12) X0 C d5_11 rfl rfl rfl ?_
    refine W.iloadN (q := 13) X0 C d5_12 rfl rfl ?_
    refine W.iloadN (q := 14) X0 C d5_13 rfl rfl ?_
    refine W.callV (q := 17) X0 C (W.ww hw 30 rfl) (W.ww hw 31 rfl) (W.nf C (W.ww hw 33 rfl)) (W.ww hw 33 rfl) (W.ww hw 32 rfl) (W.ww hw 3 rfl) (W.ww hw 34 rfl) (by decide) (rm6_4 l Z a0 hw [] p0 x0 x1 x2 x3 p1 (1 : Int32) cs fv h0 n0 Y0 hs16 hr0 hr1 hr2 hr3 (by decide) (by decide) SS) e0 Y0.exa d5_14 [(.int p1), (.int (1 : Int32))] [] rfl rfl pd__28II_29I rfl rfl (by decide) (Nat.le_of_ble_eq_true rfl) (by decide) (by decide) rfl (fun T182 w182 L182 X182 hQ182 => ?_)
    obtain ⟨rfl, NL182, e182⟩ := hQ182
    have N182 := Fr.app N0 NL182
    rw [show (own_ix (List.drop (1 : Int32).toInt.toNat [decide (x0 = p1), decide (x1 = p1), decide (x2 = p1), decide (x3 = p1)]) (1 : Int32)) = (own_ix [decide (x1 = p1), decide (x2 = p1), decide (x3 = p1)] (1 : Int32)) from rfl]
    show W.Go p e below _ (T182.setTop (mkF m 17 #[.val (.ref p0), .val (.int p1), .val (.int p2), .val (.int (1 : Int32)), .val (.int iv), sl] [(.int (own_ix [decide (x1 = p1), decide (x2 = p1), decide (x3 = p1)] (1 : Int32)))]))
    by_cases e1 : x1 = p1
    · rw [show (own_ix [decide (x1 = p1), decide (x2 = p1), decide (x3 = p1)] (1 : Int32)) = (1 : Int32) by rw [own_ix_t e1] <;> rfl]
      refine W.istore (q := 19) (L' := #[.val (.ref p0), .val (.int p1), .val (.int p2), .val (.int (1 : Int32)), .val (.int iv), .val (.int (1 : Int32))]) X182 C d5_17 (Jvm.Free.XS.store1 rfl hsl rfl) rfl ?_
      refine W.iload (q := 21) X182 C d5_19 rfl rfl ?_
      refine W.ifT (q := 26) X182 C d5_21 (by decide) (by decide) (by decide : W.cT .ge (1 : Int32) 0) ?_
      refine W.iload (q := 28) X182 C d5_26 rfl rfl ?_
      refine W.iconst (q := 29) (v := 1) X182 C d5_28 rfl rfl ?_
      refine W.iadd (q := 30) X182 C d5_29 rfl ?_
      rw [show ((1 : Int32) + (1 : Int32)) = (2 : Int32) by decide]
      refine W.istoreN (q := 31) (L' := #[.val (.ref p0), .val (.int p1), .val (.int p2), .val (.int (2 : Int32)), .val (.int iv), .val (.int (1 : Int32))]) X182 C d5_30 rfl rfl ?_
      refine W.iinc (q := 34) (L' := #[.val (.ref p0), .val (.int p1), .val (.int p2), .val (.int (2 : Int32)), .val (.int (iv + (1 : Int32))), .val (.int (1 : Int32))]) X182 C d5_31 rfl rfl rfl rfl ?_
      refine W.goto (q := 5) X182 C d5_34 (by decide) (by decide) ?_
      rw [show (own_rs [decide (x1 = p1), decide (x2 = p1), decide (x3 = p1)] (1 : Int32) ii p2) = own_rs [decide (x2 = p1), decide (x3 = p1)] (2 : Int32) (ii + 1) p2 by rw [own_rs_s (by omega), own_sc_t e1] <;> rfl]
      exact own_h_4_2 l Z a0 hw h0 n0 p0 x0 x1 x2 x3 p1 p2 cs fv (iv + (1 : Int32)) (ii + 1) (.val (.int (1 : Int32))) C X182 e182 N182 Y0 hs16 hr0 hr1 hr2 hr3 SS (own_inc hi (by omega) (by omega)) (by omega) (by omega) (One.val rfl)
    · by_cases e2 : x2 = p1
      · rw [show (own_ix [decide (x1 = p1), decide (x2 = p1), decide (x3 = p1)] (1 : Int32)) = (2 : Int32) by rw [own_ix_f e1, own_ix_t e2] <;> rfl]
        refine W.istore (q := 19) (L' := #[.val (.ref p0), .val (.int p1), .val (.int p2), .val (.int (1 : Int32)), .val (.int iv), .val (.int (2 : Int32))]) X182 C d5_17 (Jvm.Free.XS.store1 rfl hsl rfl) rfl ?_
        refine W.iload (q := 21) X182 C d5_19 rfl rfl ?_
        refine W.ifT (q := 26) X182 C d5_21 (by decide) (by decide) (by decide : W.cT .ge (2 : Int32) 0) ?_
        refine W.iload (q := 28) X182 C d5_26 rfl rfl ?_
        refine W.iconst (q := 29) (v := 1) X182 C d5_28 rfl rfl ?_
        refine W.iadd (q := 30) X182 C d5_29 rfl ?_
        rw [show ((2 : Int32) + (1 : Int32)) = (3 : Int32) by decide]
        refine W.istoreN (q := 31) (L' := #[.val (.ref p0), .val (.int p1), .val (.int p2), .val (.int (3 : Int32)), .val (.int iv), .val (.int (2 : Int32))]) X182 C d5_30 rfl rfl ?_
        refine W.iinc (q := 34) (L' := #[.val (.ref p0), .val (.int p1), .val (.int p2), .val (.int (3 : Int32)), .val (.int (iv + (1 : Int32))), .val (.int (2 : Int32))]) X182 C d5_31 rfl rfl rfl rfl ?_
        refine W.goto (q := 5) X182 C d5_34 (by decide) (by decide) ?_
        rw [show (own_rs [decide (x1 = p1), decide (x2 = p1), decide (x3 = p1)] (1 : Int32) ii p2) = own_rs [decide (x3 = p1)] (3 : Int32) (ii + 1) p2 by rw [own_rs_s (by omega), own_sc_f e1, own_sc_t e2] <;> rfl]
        exact own_h_4_3 l Z a0 hw h0 n0 p0 x0 x1 x2 x3 p1 p2 cs fv (iv + (1 : Int32)) (ii + 1) (.val (.int (2 : Int32))) C X182 e182 N182 Y0 hs16 hr0 hr1 hr2 hr3 SS (own_inc hi (by omega) (by omega)) (by omega) (by omega) (One.val rfl)
      · by_cases e3 : x3 = p1
        · rw [show (own_ix [decide (x1 = p1), decide (x2 = p1), decide (x3 = p1)] (1 : Int32)) = (3 : Int32) by rw [own_ix_f e1, own_ix_f e2, own_ix_t e3] <;> rfl]
          refine W.istore (q := 19) (L' := #[.val (.ref p0), .val (.int p1), .val (.int p2), .val (.int (1 : Int32)), .val (.int iv), .val (.int (3 : Int32))]) X182 C d5_17 (Jvm.Free.XS.store1 rfl hsl rfl) rfl ?_
          refine W.iload (q := 21) X182 C d5_19 rfl rfl ?_
          refine W.ifT (q := 26) X182 C d5_21 (by decide) (by decide) (by decide : W.cT .ge (3 : Int32) 0) ?_
          refine W.iload (q := 28) X182 C d5_26 rfl rfl ?_
          refine W.iconst (q := 29) (v := 1) X182 C d5_28 rfl rfl ?_
          refine W.iadd (q := 30) X182 C d5_29 rfl ?_
          rw [show ((3 : Int32) + (1 : Int32)) = (4 : Int32) by decide]
          refine W.istoreN (q := 31) (L' := #[.val (.ref p0), .val (.int p1), .val (.int p2), .val (.int (4 : Int32)), .val (.int iv), .val (.int (3 : Int32))]) X182 C d5_30 rfl rfl ?_
          refine W.iinc (q := 34) (L' := #[.val (.ref p0), .val (.int p1), .val (.int p2), .val (.int (4 : Int32)), .val (.int (iv + (1 : Int32))), .val (.int (3 : Int32))]) X182 C d5_31 rfl rfl rfl rfl ?_
          refine W.goto (q := 5) X182 C d5_34 (by decide) (by decide) ?_
          rw [show (own_rs [decide (x1 = p1), decide (x2 = p1), decide (x3 = p1)] (1 : Int32) ii p2) = own_rs [] (4 : Int32) (ii + 1) p2 by rw [own_rs_s (by omega), own_sc_f e1, own_sc_f e2, own_sc_t e3] <;> rfl]
          exact own_h_4_4 l Z a0 hw h0 n0 p0 x0 x1 x2 x3 p1 p2 cs fv (iv + (1 : Int32)) (ii + 1) (.val (.int (3 : Int32))) C X182 e182 N182 Y0 hs16 hr0 hr1 hr2 hr3 SS (own_inc hi (by omega) (by omega)) (by omega) (by omega) (One.val rfl)
        · rw [show (own_ix [decide (x1 = p1), decide (x2 = p1), decide (x3 = p1)] (1 : Int32)) = (-1 : Int32) by rw [own_ix_f e1, own_ix_f e2, own_ix_f e3, own_ix_n] <;> rfl]
          refine W.istore (q := 19) (L' := #[.val (.ref p0), .val (.int p1), .val (.int p2), .val (.int (1 : Int32)), .val (.int iv), .val (.int (-1 : Int32))]) X182 C d5_17 (Jvm.Free.XS.store1 rfl hsl rfl) rfl ?_
          refine W.iload (q := 21) X182 C d5_19 rfl rfl ?_
          refine W.ifF (q := 24) X182 C d5_21 rfl (by decide : W.cF .ge (-1 : Int32) 0) ?_
          refine W.iconst (q := 25) (v := (-1)) X182 C d5_24 rfl rfl ?_
          exact W.retI X182 C e182 d5_25 (by decide) (by decide) ⟨by rw [own_rs_s (by omega), own_sc_f e1, own_sc_f e2, own_sc_f e3, own_sc_n], N182, rfl⟩
set_option maxRecDepth 65536 in
set_option maxHeartbeats 40000000 in
theorem own_h_4_0 (l : Launch) (Z : State) (a0 : Array Value) (hw : ∀ d ∈ tables_1, d.before a0 Z = true) (h0 : Heap) (n0 : Nat) (p0 : Addr) (x0 x1 x2 x3 : Int32) (p1 p2 cs : Int32) (fv : Value) (iv : Int32) (ii : Int) (sl : Slot) {p : Program} {e : Env} {s : State} {m : MethodId} {args : Array Value} {below : List Frame} {meth : Method} {c : Code} {T0 : State} {locs : List Loc}
    (C : W.Cx p s m meth c Z prog_5_method_36_code 6 "com/example/orderwire/orderwire/hl7/Encoding" "partStart" (some .int)) (X0 : Stand p l e ({ frames := 6, cells := 0, slots := 0, locals := 104 } : Room) s m args below meth c T0 locs 0 0) (e0 : T0.heap = h0) (N0 : Fr n0 locs) (Y0 : own_txt4 Z h0 p0 x0 x1 x2 x3) (hs16 : own_r16 p1) (hr0 : own_r16 x0) (hr1 : own_r16 x1) (hr2 : own_r16 x2) (hr3 : own_r16 x3) (SS : own_S Z h0 cs fv) (hi : iv.toInt = ii) (hi0 : 0 ≤ ii) (hi1 : ii ≤ 1) (hsl : One sl) :
    W.Go p e below (W.Post s (fun v h L => v = some (.int (own_rs [decide (x0 = p1), decide (x1 = p1), decide (x2 = p1), decide (x3 = p1)] (0 : Int32) ii p2)) ∧ Fr n0 L ∧ h = h0) ({ frames := 6, cells := 0, slots := 0, locals := 104 } : Room).cells ({ frames := 6, cells := 0, slots := 0, locals := 104 } : Room).slots) (T0.setTop (mkF m 5 #[.val (.ref p0), .val (.int p1), .val (.int p2), .val (.int (0 : Int32)), .val (.int iv), sl] [])) := by
  refine W.iload (q := 7) X0 C d5_5 rfl rfl ?_
  refine W.iloadN (q := 8) X0 C d5_7 rfl rfl ?_
  refine W.icmp (q := 37) (q' := 11) X0 C d5_8 (by decide) (by decide) rfl (fun hc183 => ?_) (fun hc183 => ?_)
  · replace hc183 : p2.toInt ≤ iv.toInt := hc183
    refine W.iloadN (q := 38) X0 C d5_37 rfl rfl ?_
    exact W.retI X0 C e0 d5_38 (by decide) (by decide) ⟨by rw [own_rs_p (by omega)], N0, rfl⟩
  · replace hc183 : iv.toInt < p2.toInt := hc183
    refine W.aloadN (q := 12) X0 C d5_11 rfl rfl rfl ?_
    refine W.iloadN (q := 13) X0 C d5_12 rfl rfl ?_
    refine W.iloadN (q := 14) X0 C d5_13 rfl rfl ?_
    refine W.callV (q := 17) X0 C (W.ww hw 30 rfl) (W.ww hw 31 rfl) (W.nf C (W.ww hw 33 rfl)) (W.ww hw 33 rfl) (W.ww hw 32 rfl) (W.ww hw 3 rfl) (W.ww hw 34 rfl) (by decide) (rm6_4 l Z a0 hw [] p0 x0 x1 x2 x3 p1 (0 : Int32) cs fv h0 n0 Y0 hs16 hr0 hr1 hr2 hr3 (by decide) (by decide) SS) e0 Y0.exa d5_14 [(.int p1), (.int (0 : Int32))] [] rfl rfl pd__28II_29I rfl rfl (by decide) (Nat.le_of_ble_eq_true rfl) (by decide) (by decide) rfl (fun T184 w184 L184 X184 hQ184 => ?_)
    obtain ⟨rfl, NL184, e184⟩ := hQ184
    have N184 := Fr.app N0 NL184
    rw [show (own_ix (List.drop (0 : Int32).toInt.toNat [decide (x0 = p1), decide (x1 = p1), decide (x2 = p1), decide (x3 = p1)]) (0 : Int32)) = (own_ix [decide (x0 = p1), decide (x1 = p1), decide (x2 = p1), decide (x3 = p1)] (0 : Int32)) from rfl]
    show W.Go p e below _ (T184.setTop (mkF m 17 #[.val (.ref p0), .val (.int p1), .val (.int p2), .val (.int (0 : Int32)), .val (.int iv), sl] [(.int (own_ix [decide (x0 = p1), decide (x1 = p1), decide (x2 = p1), decide (x3 = p1)] (0 : Int32)))]))
    by_cases e0 : x0 = p1
    · rw [show (own_ix [decide (x0 = p1), decide (x1 = p1), decide (x2 = p1), decide (x3 = p1)] (0 : Int32)) = (0 : Int32) by rw [own_ix_t e0] <;> rfl]
      refine W.istore (q := 19) (L' := #[.val (.ref p0), .val (.int p1), .val (.int p2), .val (.int (0 : Int32)), .val (.int iv), .val (.int (0 : Int32))]) X184 C d5_17 (Jvm.Free.XS.store1 rfl hsl rfl) rfl ?_
      refine W.iload (q := 21) X184 C d5_19 rfl rfl ?_
      refine W.ifT (q := 26) X184 C d5_21 (by decide) (by decide) (by decide : W.cT .ge (0 : Int32) 0) ?_
      refine W.iload (q := 28) X184 C d5_26 rfl rfl ?_
      refine W.iconst (q := 29) (v := 1) X184 C d5_28 rfl rfl ?_
      refine W.iadd (q := 30) X184 C d5_29 rfl ?_
      rw [show ((0 : Int32) + (1 : Int32)) = (1 : Int32) by decide]
      refine W.istoreN (q := 31) (L' := #[.val (.ref p0), .val (.int p1), .val (.int p2), .val (.int (1 : Int32)), .val (.int iv), .val (.int (0 : Int32))]) X184 C d5_30 rfl rfl ?_
      refine W.iinc (q := 34) (L' := #[.val (.ref p0), .val (.int p1), .val (.int p2), .val (.int (1 : Int32)), .val (.int (iv + (1 : Int32))), .val (.int (0 : Int32))]) X184 C d5_31 rfl rfl rfl rfl ?_
      refine W.goto (q := 5) X184 C d5_34 (by decide) (by decide) ?_
      rw [show (own_rs [decide (x0 = p1), decide (x1 = p1), decide (x2 = p1), decide (x3 = p1)] (0 : Int32) ii p2) = own_rs [decide (x1 = p1), decide (x2 = p1), decide (x3 = p1)] (1 : Int32) (ii + 1) p2 by rw [own_rs_s (by omega), own_sc_t e0] <;> rfl]
      exact own_h_4_1 l Z a0 hw h0 n0 p0 x0 x1 x2 x3 p1 p2 cs fv (iv + (1 : Int32)) (ii + 1) (.val (.int (0 : Int32))) C X184 e184 N184 Y0 hs16 hr0 hr1 hr2 hr3 SS (own_inc hi (by omega) (by omega)) (by omega) (by omega) (One.val rfl)
    · by_cases e1 : x1 = p1
      · rw [show (own_ix [decide (x0 = p1), decide (x1 = p1), decide (x2 = p1), decide (x3 = p1)] (0 : Int32)) = (1 : Int32) by rw [own_ix_f e0, own_ix_t e1] <;> rfl]
        refine W.istore (q := 19) (L' := #[.val (.ref p0), .val (.int p1), .val (.int p2), .val (.int (0 : Int32)), .val (.int iv), .val (.int (1 : Int32))]) X184 C d5_17 (Jvm.Free.XS.store1 rfl hsl rfl) rfl ?_
        refine W.iload (q := 21) X184 C d5_19 rfl rfl ?_
        refine W.ifT (q := 26) X184 C d5_21 (by decide) (by decide) (by decide : W.cT .ge (1 : Int32) 0) ?_
        refine W.iload (q := 28) X184 C d5_26 rfl rfl ?_
        refine W.iconst (q := 29) (v := 1) X184 C d5_28 rfl rfl ?_
        refine W.iadd (q := 30) X184 C d5_29 rfl ?_
        rw [show ((1 : Int32) + (1 : Int32)) = (2 : Int32) by decide]
        refine W.istoreN (q := 31) (L' := #[.val (.ref p0), .val (.int p1), .val (.int p2), .val (.int (2 : Int32)), .val (.int iv), .val (.int (1 : Int32))]) X184 C d5_30 rfl rfl ?_
        refine W.iinc (q := 34) (L' := #[.val (.ref p0), .val (.int p1), .val (.int p2), .val (.int (2 : Int32)), .val (.int (iv + (1 : Int32))), .val (.int (1 : Int32))]) X184 C d5_31 rfl rfl rfl rfl ?_
        refine W.goto (q := 5) X184 C d5_34 (by decide) (by decide) ?_
        rw [show (own_rs [decide (x0 = p1), decide (x1 = p1), decide (x2 = p1), decide (x3 = p1)] (0 : Int32) ii p2) = own_rs [decide (x2 = p1), decide (x3 = p1)] (2 : Int32) (ii + 1) p2 by rw [own_rs_s (by omega), own_sc_f e0, own_sc_t e1] <;> rfl]
        exact own_h_4_2 l Z a0 hw h0 n0 p0 x0 x1 x2 x3 p1 p2 cs fv (iv + (1 : Int32)) (ii + 1) (.val (.int (1 : Int32))) C X184 e184 N184 Y0 hs16 hr0 hr1 hr2 hr3 SS (own_inc hi (by omega) (by omega)) (by omega) (by omega) (One.val rfl)
      · by_cases e2 : x2 = p1
        · rw [show (own_ix [decide (x0 = p1), decide (x1 = p1), decide (x2 = p1), decide (x3 = p1)] (0 : Int32)) = (2 : Int32) by rw [own_ix_f e0, own_ix_f e1, own_ix_t e2] <;> rfl]
          refine W.istore (q := 19) (L' := #[.val (.ref p0), .val (.int p1), .val (.int p2), .val (.int (0 : Int32)), .val (.int iv), .val (.int (2 : Int32))]) X184 C d5_17 (Jvm.Free.XS.store1 rfl hsl rfl) rfl ?_
          refine W.iload (q := 21) X184 C d5_19 rfl rfl ?_
          refine W.ifT (q := 26) X184 C d5_21 (by decide) (by decide) (by decide : W.cT .ge (2 : Int32) 0) ?_
          refine W.iload (q := 28) X184 C d5_26 rfl rfl ?_
          refine W.iconst (q := 29) (v := 1) X184 C d5_28 rfl rfl ?_
          refine W.iadd (q := 30) X184 C d5_29 rfl ?_
          rw [show ((2 : Int32) + (1 : Int32)) = (3 : Int32) by decide]
          refine W.istoreN (q := 31) (L' := #[.val (.ref p0), .val (.int p1), .val (.int p2), .val (.int (3 : Int32)), .val (.int iv), .val (.int (2 : Int32))]) X184 C d5_30 rfl rfl ?_
          refine W.iinc (q := 34) (L' := #[.val (.ref p0), .val (.int p1), .val (.int p2), .val (.int (3 : Int32)), .val (.int (iv + (1 : Int32))), .val (.int (2 : Int32))]) X184 C d5_31 rfl rfl rfl rfl ?_
          refine W.goto (q := 5) X184 C d5_34 (by decide) (by decide) ?_
          rw [show (own_rs [decide (x0 = p1), decide (x1 = p1), decide (x2 = p1), decide (x3 = p1)] (0 : Int32) ii p2) = own_rs [decide (x3 = p1)] (3 : Int32) (ii + 1) p2 by rw [own_rs_s (by omega), own_sc_f e0, own_sc_f e1, own_sc_t e2] <;> rfl]
          exact own_h_4_3 l Z a0 hw h0 n0 p0 x0 x1 x2 x3 p1 p2 cs fv (iv + (1 : Int32)) (ii + 1) (.val (.int (2 : Int32))) C X184 e184 N184 Y0 hs16 hr0 hr1 hr2 hr3 SS (own_inc hi (by omega) (by omega)) (by omega) (by omega) (One.val rfl)
        · by_cases e3 : x3 = p1
          · rw [show (own_ix [decide (x0 = p1), decide (x1 = p1), decide (x2 = p1), decide (x3 = p1)] (0 : Int32)) = (3 : Int32) by rw [own_ix_f e0, own_ix_f e1, own_ix_f e2, own_ix_t e3] <;> rfl]
            refine W.istore (q := 19) (L' := #[.val (.ref p0), .val (.int p1), .val (.int p2), .val (.int (0 : Int32)), .val (.int iv), .val (.int (3 : Int32))]) X184 C d5_17 (Jvm.Free.XS.store1 rfl hsl rfl) rfl ?_
            refine W.iload (q := 21) X184 C d5_19 rfl rfl ?_
            refine W.ifT (q := 26) X184 C d5_21 (by decide) (by decide) (by decide : W.cT .ge (3 : Int32) 0) ?_
            refine W.iload (q := 28) X184 C d5_26 rfl rfl ?_
            refine W.iconst (q := 29) (v := 1) X184 C d5_28 rfl rfl ?_
            refine W.iadd (q := 30) X184 C d5_29 rfl ?_
            rw [show ((3 : Int32) + (1 : Int32)) = (4 : Int32) by decide]
            refine W.istoreN (q := 31) (L' := #[.val (.ref p0), .val (.int p1), .val (.int p2), .val (.int (4 : Int32)), .val (.int iv), .val (.int (3 : Int32))]) X184 C d5_30 rfl rfl ?_
            refine W.iinc (q := 34) (L' := #[.val (.ref p0), .val (.int p1), .val (.int p2), .val (.int (4 : Int32)), .val (.int (iv + (1 : Int32))), .val (.int (3 : Int32))]) X184 C d5_31 rfl rfl rfl rfl ?_
            refine W.goto (q := 5) X184 C d5_34 (by decide) (by decide) ?_
            rw [show (own_rs [decide (x0 = p1), decide (x1 = p1), decide (x2 = p1), decide (x3 = p1)] (0 : Int32) ii p2) = own_rs [] (4 : Int32) (ii + 1) p2 by rw [own_rs_s (by omega), own_sc_f e0, own_sc_f e1, own_sc_f e2, own_sc_t e3] <;> rfl]
            exact own_h_4_4 l Z a0 hw h0 n0 p0 x0 x1 x2 x3 p1 p2 cs fv (iv + (1 : Int32)) (ii + 1) (.val (.int (3 : Int32))) C X184 e184 N184 Y0 hs16 hr0 hr1 hr2 hr3 SS (own_inc hi (by omega) (by omega)) (by omega) (by omega) (One.val rfl)
          · rw [show (own_ix [decide (x0 = p1), decide (x1 = p1), decide (x2 = p1), decide (x3 = p1)] (0 : Int32)) = (-1 : Int32) by rw [own_ix_f e0, own_ix_f e1, own_ix_f e2, own_ix_f e3, own_ix_n] <;> rfl]
            refine W.istore (q := 19) (L' := #[.val (.ref p0), .val (.int p1), .val (.int p2), .val (.int (0 : Int32)), .val (.int iv), .val (.int (-1 : Int32))]) X184 C d5_17 (Jvm.Free.XS.store1 rfl hsl rfl) rfl ?_
            refine W.iload (q := 21) X184 C d5_19 rfl rfl ?_
            refine W.ifF (q := 24) X184 C d5_21 rfl (by decide : W.cF .ge (-1 : Int32) 0) ?_
            refine W.iconst (q := 25) (v := (-1)) X184 C d5_24 rfl rfl ?_
            exact W.retI X184 C e184 d5_25 (by decide) (by decide) ⟨by rw [own_rs_s (by omega), own_sc_f e0, own_sc_f e1, own_sc_f e2, own_sc_f e3, own_sc_n], N184, rfl⟩
def Q5_4 (Z : State) (p0 : Addr) (x0 x1 x2 x3 : Int32) (p1 p2 cs : Int32) (fv : Value) (h0 : Heap) (n0 : Nat) (v : Option Value) (h : Heap) (L : List Loc) : Prop := v = some (.int (own_rs [decide (x0 = p1), decide (x1 = p1), decide (x2 = p1), decide (x3 = p1)] (0 : Int32) 1 p2)) ∧ Fr n0 L ∧ h = h0
theorem rm5_4 (l : Launch) (Z : State) (a0 : Array Value) (hw : own_HW a0 Z) (ws : List Jvm.Cond) (p0 : Addr) (x0 x1 x2 x3 : Int32) (p1 p2 cs : Int32) (fv : Value) (h0 : Heap) (n0 : Nat) (Y0 : own_txt4 Z h0 p0 x0 x1 x2 x3) (hs16 : own_r16 p1) (hr0 : own_r16 x0) (hr1 : own_r16 x1) (hr2 : own_r16 x2) (hr3 : own_r16 x3) (SS : own_S Z h0 cs fv) : own_M l y5 prog_5_method_36_code 6 (some .int) ws r_6_0_0_104 #[(.ref p0), (.int p1), (.int p2)] Z h0 (Q5_4 Z p0 x0 x1 x2 x3 p1 p2 cs fv h0 n0) := by
  refine W.bodyOf (Ls := #[.val (.ref p0), .val (.int p1), .val (.int p2), .unset, .unset, .unset]) (plainFor_of_name pn_com_example_orderwire_orderwire_hl7_Encoding) (fun m => by first | exact W.entry_of rfl) ?_
  intro p e s m below meth c T0 C X0 e0
  have N0 := Fr.nil n0
  refine W.iconst (q := 1) (v := 0) X0 C d5_0 rfl rfl ?_
  refine W.istoreN (q := 2) (L' := #[.val (.ref p0), .val (.int p1), .val (.int p2), .val (.int (0 : Int32)), .unset, .unset]) X0 C d5_1 rfl rfl ?_
  refine W.iconst (q := 3) (v := 1) X0 C d5_2 rfl rfl ?_
  refine W.istore (q := 5) (L' := #[.val (.ref p0), .val (.int p1), .val (.int p2), .val (.int (0 : Int32)), .val (.int (1 : Int32)), .unset]) X0 C d5_3 rfl rfl ?_
  exact own_h_4_0 l Z a0 hw h0 n0 p0 x0 x1 x2 x3 p1 p2 cs fv (1 : Int32) 1 .unset C X0 e0 N0 Y0 hs16 hr0 hr1 hr2 hr3 SS rfl (by decide) (by decide) One.u
theorem d4_100 : decode method_3_code 100 = .ok (.iload 6, 2) := by decide +kernel
theorem d4_102 : decode method_3_code 102 = .ok (.ireturn, 1) := by decide +kernel
set_option maxRecDepth 65536 in
set_option maxHeartbeats 40000000 in
theorem own_v4 (l : Launch) (Z : State) (a0 : Array Value) (hw : ∀ d ∈ tables_1, d.before a0 Z = true) (h0 : Heap) (n0 : Nat) (s0 s1 s2 s3 p4 k ans cum : Int32) {p : Program} {e : Env} {s : State} {m : MethodId} {args : Array Value} {below : List Frame} {meth : Method} {c : Code} {T0 : State} {locs : List Loc}
    (C : W.Cx p s m meth c Z method_3_code 8 "com/example/orderwire/orderwire/hl7/EncodingPartStartPinLaw" "reference" (some .int)) (X0 : Stand p l e ({ frames := 0, cells := 0, slots := 0, locals := 0 } : Room) s m args below meth c T0 locs 0 0) (e0 : T0.heap = h0) (N0 : Fr n0 locs) :
    W.Go p e below (W.Post s (fun v h L => v = some (.int (own_rf [] k cum ans)) ∧ Fr n0 L ∧ h = h0) ({ frames := 0, cells := 0, slots := 0, locals := 0 } : Room).cells ({ frames := 0, cells := 0, slots := 0, locals := 0 } : Room).slots) (T0.setTop (mkF m 100 #[.val (.int s0), .val (.int s1), .val (.int s2), .val (.int s3), .val (.int p4), .val (.int k), .val (.int ans), .val (.int cum)] [])) := by
  refine W.iload (q := 102) X0 C d4_100 rfl rfl ?_
  exact W.retI X0 C e0 d4_102 (by decide) (by decide) ⟨rfl, N0, rfl⟩
theorem d4_80 : decode method_3_code 80 = .ok (.iload_n 3, 1) := by decide +kernel
theorem d4_81 : decode method_3_code 81 = .ok (.ifCond .eq 19, 3) := by decide +kernel
theorem d4_84 : decode method_3_code 84 = .ok (.iload 7, 2) := by decide +kernel
theorem d4_86 : decode method_3_code 86 = .ok (.iconst 1, 1) := by decide +kernel
theorem d4_87 : decode method_3_code 87 = .ok (.iadd, 1) := by decide +kernel
theorem d4_88 : decode method_3_code 88 = .ok (.istore 7, 2) := by decide +kernel
theorem d4_90 : decode method_3_code 90 = .ok (.iload 7, 2) := by decide +kernel
theorem d4_92 : decode method_3_code 92 = .ok (.iload 5, 2) := by decide +kernel
theorem d4_94 : decode method_3_code 94 = .ok (.if_icmp .ne 6, 3) := by decide +kernel
theorem d4_97 : decode method_3_code 97 = .ok (.iconst 4, 1) := by decide +kernel
theorem d4_98 : decode method_3_code 98 = .ok (.istore 6, 2) := by decide +kernel
set_option maxRecDepth 65536 in
set_option maxHeartbeats 40000000 in
theorem own_v3 (l : Launch) (Z : State) (a0 : Array Value) (hw : ∀ d ∈ tables_1, d.before a0 Z = true) (h0 : Heap) (n0 : Nat) (s0 s1 s2 s3 p4 k ans cum : Int32) {p : Program} {e : Env} {s : State} {m : MethodId} {args : Array Value} {below : List Frame} {meth : Method} {c : Code} {T0 : State} {locs : List Loc}
    (C : W.Cx p s m meth c Z method_3_code 8 "com/example/orderwire/orderwire/hl7/EncodingPartStartPinLaw" "reference" (some .int)) (X0 : Stand p l e ({ frames := 0, cells := 0, slots := 0, locals := 0 } : Room) s m args below meth c T0 locs 0 0) (e0 : T0.heap = h0) (N0 : Fr n0 locs) :
    W.Go p e below (W.Post s (fun v h L => v = some (.int (own_rf [(s3, 4)] k cum ans)) ∧ Fr n0 L ∧ h = h0) ({ frames := 0, cells := 0, slots := 0, locals := 0 } : Room).cells ({ frames := 0, cells := 0, slots := 0, locals := 0 } : Room).slots) (T0.setTop (mkF m 80 #[.val (.int s0), .val (.int s1), .val (.int s2), .val (.int s3), .val (.int p4), .val (.int k), .val (.int ans), .val (.int cum)] [])) := by
  refine W.iloadN (q := 81) X0 C d4_80 rfl rfl ?_
  refine W.if_ (q := 100) (q' := 84) X0 C d4_81 (by decide) (by decide) rfl (fun hc185 => ?_) (fun hc185 => ?_)
  · replace hc185 : s3 = 0 := hc185
    rw [show own_rf [(s3, 4)] k cum ans = own_rf [] k cum ans from own_rf_z hc185]
    exact own_v4 l Z a0 hw h0 n0 s0 s1 s2 s3 p4 k ans cum C X0 e0 N0
  · replace hc185 : s3 ≠ 0 := hc185
    refine W.iload (q := 86) X0 C d4_84 rfl rfl ?_
    refine W.iconst (q := 87) (v := 1) X0 C d4_86 rfl rfl ?_
    refine W.iadd (q := 88) X0 C d4_87 rfl ?_
    refine W.istore (q := 90) (L' := #[.val (.int s0), .val (.int s1), .val (.int s2), .val (.int s3), .val (.int p4), .val (.int k), .val (.int ans), .val (.int (cum + (1 : Int32)))]) X0 C d4_88 rfl rfl ?_
    refine W.iload (q := 92) X0 C d4_90 rfl rfl ?_
    refine W.iload (q := 94) X0 C d4_92 rfl rfl ?_
    refine W.icmp (q := 100) (q' := 97) X0 C d4_94 (by decide) (by decide) rfl (fun hc186 => ?_) (fun hc186 => ?_)
    · replace hc186 : (cum + (1 : Int32)) ≠ k := hc186
      rw [show own_rf [(s3, 4)] k cum ans = own_rf [] k (cum + (1 : Int32)) ans from own_rf_n hc185 hc186]
      exact own_v4 l Z a0 hw h0 n0 s0 s1 s2 s3 p4 k ans (cum + (1 : Int32)) C X0 e0 N0
    · replace hc186 : (cum + (1 : Int32)) = k := hc186
      refine W.iconst (q := 98) (v := 4) X0 C d4_97 rfl rfl ?_
      refine W.istore (q := 100) (L' := #[.val (.int s0), .val (.int s1), .val (.int s2), .val (.int s3), .val (.int p4), .val (.int k), .val (.int (4 : Int32)), .val (.int (cum + (1 : Int32)))]) X0 C d4_98 rfl rfl ?_
      rw [show own_rf [(s3, 4)] k cum ans = own_rf [] k (cum + (1 : Int32)) (4 : Int32) from own_rf_e hc185 hc186]
      exact own_v4 l Z a0 hw h0 n0 s0 s1 s2 s3 p4 k (4 : Int32) (cum + (1 : Int32)) C X0 e0 N0
theorem d4_60 : decode method_3_code 60 = .ok (.iload_n 2, 1) := by decide +kernel
theorem d4_61 : decode method_3_code 61 = .ok (.ifCond .eq 19, 3) := by decide +kernel
theorem d4_64 : decode method_3_code 64 = .ok (.iload 7, 2) := by decide +kernel
theorem d4_66 : decode method_3_code 66 = .ok (.iconst 1, 1) := by decide +kernel
theorem d4_67 : decode method_3_code 67 = .ok (.iadd, 1) := by decide +kernel
theorem d4_68 : decode method_3_code 68 = .ok (.istore 7, 2) := by decide +kernel
theorem d4_70 : decode method_3_code 70 = .ok (.iload 7, 2) := by decide +kernel
theorem d4_72 : decode method_3_code 72 = .ok (.iload 5, 2) := by decide +kernel
theorem d4_74 : decode method_3_code 74 = .ok (.if_icmp .ne 6, 3) := by decide +kernel
theorem d4_77 : decode method_3_code 77 = .ok (.iconst 3, 1) := by decide +kernel
theorem d4_78 : decode method_3_code 78 = .ok (.istore 6, 2) := by decide +kernel
set_option maxRecDepth 65536 in
set_option maxHeartbeats 40000000 in
theorem own_v2 (l : Launch) (Z : State) (a0 : Array Value) (hw : ∀ d ∈ tables_1, d.before a0 Z = true) (h0 : Heap) (n0 : Nat) (s0 s1 s2 s3 p4 k ans cum : Int32) {p : Program} {e : Env} {s : State} {m : MethodId} {args : Array Value} {below : List Frame} {meth : Method} {c : Code} {T0 : State} {locs : List Loc}
    (C : W.Cx p s m meth c Z method_3_code 8 "com/example/orderwire/orderwire/hl7/EncodingPartStartPinLaw" "reference" (some .int)) (X0 : Stand p l e ({ frames := 0, cells := 0, slots := 0, locals := 0 } : Room) s m args below meth c T0 locs 0 0) (e0 : T0.heap = h0) (N0 : Fr n0 locs) :
    W.Go p e below (W.Post s (fun v h L => v = some (.int (own_rf [(s2, 3), (s3, 4)] k cum ans)) ∧ Fr n0 L ∧ h = h0) ({ frames := 0, cells := 0, slots := 0, locals := 0 } : Room).cells ({ frames := 0, cells := 0, slots := 0, locals := 0 } : Room).slots) (T0.setTop (mkF m 60 #[.val (.int s0), .val (.int s1), .val (.int s2), .val (.int s3), .val (.int p4), .val (.int k), .val (.int ans), .val (.int cum)] [])) := by
  refine W.iloadN (q := 61) X0 C d4_60 rfl rfl ?_
  refine W.if_ (q := 80) (q' := 64) X0 C d4_61 (by decide) (by decide) rfl (fun hc187 => ?_) (fun hc187 => ?_)
  · replace hc187 : s2 = 0 := hc187
    rw [show own_rf [(s2, 3), (s3, 4)] k cum ans = own_rf [(s3, 4)] k cum ans from own_rf_z hc187]
    exact own_v3 l Z a0 hw h0 n0 s0 s1 s2 s3 p4 k ans cum C X0 e0 N0
  · replace hc187 : s2 ≠ 0 := hc187
    refine W.iload (q := 66) X0 C d4_64 rfl rfl ?_
    refine W.iconst (q := 67) (v := 1) X0 C d4_66 rfl rfl ?_
    refine W.iadd (q := 68) X0 C d4_67 rfl ?_
    refine W.istore (q := 70) (L' := #[.val (.int s0), .val (.int s1), .val (.int s2), .val (.int s3), .val (.int p4), .val (.int k), .val (.int ans), .val (.int (cum + (1 : Int32)))]) X0 C d4_68 rfl rfl ?_
    refine W.iload (q := 72) X0 C d4_70 rfl rfl ?_
    refine W.iload (q := 74) X0 C d4_72 rfl rfl ?_
    refine W.icmp (q := 80) (q' := 77) X0 C d4_74 (by decide) (by decide) rfl (fun hc188 => ?_) (fun hc188 => ?_)
    · replace hc188 : (cum + (1 : Int32)) ≠ k := hc188
      rw [show own_rf [(s2, 3), (s3, 4)] k cum ans = own_rf [(s3, 4)] k (cum + (1 : Int32)) ans from own_rf_n hc187 hc188]
      exact own_v3 l Z a0 hw h0 n0 s0 s1 s2 s3 p4 k ans (cum + (1 : Int32)) C X0 e0 N0
    · replace hc188 : (cum + (1 : Int32)) = k := hc188
      refine W.iconst (q := 78) (v := 3) X0 C d4_77 rfl rfl ?_
      refine W.istore (q := 80) (L' := #[.val (.int s0), .val (.int s1), .val (.int s2), .val (.int s3), .val (.int p4), .val (.int k), .val (.int (3 : Int32)), .val (.int (cum + (1 : Int32)))]) X0 C d4_78 rfl rfl ?_
      rw [show own_rf [(s2, 3), (s3, 4)] k cum ans = own_rf [(s3, 4)] k (cum + (1 : Int32)) (3 : Int32) from own_rf_e hc187 hc188]
      exact own_v3 l Z a0 hw h0 n0 s0 s1 s2 s3 p4 k (3 : Int32) (cum + (1 : Int32)) C X0 e0 N0
theorem d4_40 : decode method_3_code 40 = .ok (.iload_n 1, 1) := by decide +kernel
theorem d4_41 : decode method_3_code 41 = .ok (.ifCond .eq 19, 3) := by decide +kernel
theorem d4_44 : decode method_3_code 44 = .ok (.iload 7, 2) := by decide +kernel
theorem d4_46 : decode method_3_code 46 = .ok (.iconst 1, 1) := by decide +kernel
theorem d4_47 : decode method_3_code 47 = .ok (.iadd, 1) := by decide +kernel
theorem d4_48 : decode method_3_code 48 = .ok (.istore 7, 2) := by decide +kernel
theorem d4_50 : decode method_3_code 50 = .ok (.iload 7, 2) := by decide +kernel
theorem d4_52 : decode method_3_code 52 = .ok (.iload 5, 2) := by decide +kernel
theorem d4_54 : decode method_3_code 54 = .ok (.if_icmp .ne 6, 3) := by decide +kernel
theorem d4_57 : decode method_3_code 57 = .ok (.iconst 2, 1) := by decide +kernel
theorem d4_58 : decode method_3_code 58 = .ok (.istore 6, 2) := by decide +kernel
set_option maxRecDepth 65536 in
set_option maxHeartbeats 40000000 in
theorem own_v1 (l : Launch) (Z : State) (a0 : Array Value) (hw : ∀ d ∈ tables_1, d.before a0 Z = true) (h0 : Heap) (n0 : Nat) (s0 s1 s2 s3 p4 k ans cum : Int32) {p : Program} {e : Env} {s : State} {m : MethodId} {args : Array Value} {below : List Frame} {meth : Method} {c : Code} {T0 : State} {locs : List Loc}
    (C : W.Cx p s m meth c Z method_3_code 8 "com/example/orderwire/orderwire/hl7/EncodingPartStartPinLaw" "reference" (some .int)) (X0 : Stand p l e ({ frames := 0, cells := 0, slots := 0, locals := 0 } : Room) s m args below meth c T0 locs 0 0) (e0 : T0.heap = h0) (N0 : Fr n0 locs) :
    W.Go p e below (W.Post s (fun v h L => v = some (.int (own_rf [(s1, 2), (s2, 3), (s3, 4)] k cum ans)) ∧ Fr n0 L ∧ h = h0) ({ frames := 0, cells := 0, slots := 0, locals := 0 } : Room).cells ({ frames := 0, cells := 0, slots := 0, locals := 0 } : Room).slots) (T0.setTop (mkF m 40 #[.val (.int s0), .val (.int s1), .val (.int s2), .val (.int s3), .val (.int p4), .val (.int k), .val (.int ans), .val (.int cum)] [])) := by
  refine W.iloadN (q := 41) X0 C d4_40 rfl rfl ?_
  refine W.if_ (q := 60) (q' := 44) X0 C d4_41 (by decide) (by decide) rfl (fun hc189 => ?_) (fun hc189 => ?_)
  · replace hc189 : s1 = 0 := hc189
    rw [show own_rf [(s1, 2), (s2, 3), (s3, 4)] k cum ans = own_rf [(s2, 3), (s3, 4)] k cum ans from own_rf_z hc189]
    exact own_v2 l Z a0 hw h0 n0 s0 s1 s2 s3 p4 k ans cum C X0 e0 N0
  · replace hc189 : s1 ≠ 0 := hc189
    refine W.iload (q := 46) X0 C d4_44 rfl rfl ?_
    refine W.iconst (q := 47) (v := 1) X0 C d4_46 rfl rfl ?_
    refine W.iadd (q := 48) X0 C d4_47 rfl ?_
    refine W.istore (q := 50) (L' := #[.val (.int s0), .val (.int s1), .val (.int s2), .val (.int s3), .val (.int p4), .val (.int k), .val (.int ans), .val (.int (cum + (1 : Int32)))]) X0 C d4_48 rfl rfl ?_
    refine W.iload (q := 52) X0 C d4_50 rfl rfl ?_
    refine W.iload (q := 54) X0 C d4_52 rfl rfl ?_
    refine W.icmp (q := 60) (q' := 57) X0 C d4_54 (by decide) (by decide) rfl (fun hc190 => ?_) (fun hc190 => ?_)
    · replace hc190 : (cum + (1 : Int32)) ≠ k := hc190
      rw [show own_rf [(s1, 2), (s2, 3), (s3, 4)] k cum ans = own_rf [(s2, 3), (s3, 4)] k (cum + (1 : Int32)) ans from own_rf_n hc189 hc190]
      exact own_v2 l Z a0 hw h0 n0 s0 s1 s2 s3 p4 k ans (cum + (1 : Int32)) C X0 e0 N0
    · replace hc190 : (cum + (1 : Int32)) = k := hc190
      refine W.iconst (q := 58) (v := 2) X0 C d4_57 rfl rfl ?_
      refine W.istore (q := 60) (L' := #[.val (.int s0), .val (.int s1), .val (.int s2), .val (.int s3), .val (.int p4), .val (.int k), .val (.int (2 : Int32)), .val (.int (cum + (1 : Int32)))]) X0 C d4_58 rfl rfl ?_
      rw [show own_rf [(s1, 2), (s2, 3), (s3, 4)] k cum ans = own_rf [(s2, 3), (s3, 4)] k (cum + (1 : Int32)) (2 : Int32) from own_rf_e hc189 hc190]
      exact own_v2 l Z a0 hw h0 n0 s0 s1 s2 s3 p4 k (2 : Int32) (cum + (1 : Int32)) C X0 e0 N0
theorem d4_20 : decode method_3_code 20 = .ok (.iload_n 0, 1) := by decide +kernel
theorem d4_21 : decode method_3_code 21 = .ok (.ifCond .eq 19, 3) := by decide +kernel
theorem d4_24 : decode method_3_code 24 = .ok (.iload 7, 2) := by decide +kernel
theorem d4_26 : decode method_3_code 26 = .ok (.iconst 1, 1) := by decide +kernel
theorem d4_27 : decode method_3_code 27 = .ok (.iadd, 1) := by decide +kernel
theorem d4_28 : decode method_3_code 28 = .ok (.istore 7, 2) := by decide +kernel
theorem d4_30 : decode method_3_code 30 = .ok (.iload 7, 2) := by decide +kernel
theorem d4_32 : decode method_3_code 32 = .ok (.iload 5, 2) := by decide +kernel
theorem d4_34 : decode method_3_code 34 = .ok (.if_icmp .ne 6, 3) := by decide +kernel
theorem d4_37 : decode method_3_code 37 = .ok (.iconst 1, 1) := by decide +kernel
theorem d4_38 : decode method_3_code 38 = .ok (.istore 6, 2) := by decide +kernel
set_option maxRecDepth 65536 in
set_option maxHeartbeats 40000000 in
theorem own_v0 (l : Launch) (Z : State) (a0 : Array Value) (hw : ∀ d ∈ tables_1, d.before a0 Z = true) (h0 : Heap) (n0 : Nat) (s0 s1 s2 s3 p4 k ans cum : Int32) {p : Program} {e : Env} {s : State} {m : MethodId} {args : Array Value} {below : List Frame} {meth : Method} {c : Code} {T0 : State} {locs : List Loc}
    (C : W.Cx p s m meth c Z method_3_code 8 "com/example/orderwire/orderwire/hl7/EncodingPartStartPinLaw" "reference" (some .int)) (X0 : Stand p l e ({ frames := 0, cells := 0, slots := 0, locals := 0 } : Room) s m args below meth c T0 locs 0 0) (e0 : T0.heap = h0) (N0 : Fr n0 locs) :
    W.Go p e below (W.Post s (fun v h L => v = some (.int (own_rf [(s0, 1), (s1, 2), (s2, 3), (s3, 4)] k cum ans)) ∧ Fr n0 L ∧ h = h0) ({ frames := 0, cells := 0, slots := 0, locals := 0 } : Room).cells ({ frames := 0, cells := 0, slots := 0, locals := 0 } : Room).slots) (T0.setTop (mkF m 20 #[.val (.int s0), .val (.int s1), .val (.int s2), .val (.int s3), .val (.int p4), .val (.int k), .val (.int ans), .val (.int cum)] [])) := by
  refine W.iloadN (q := 21) X0 C d4_20 rfl rfl ?_
  refine W.if_ (q := 40) (q' := 24) X0 C d4_21 (by decide) (by decide) rfl (fun hc191 => ?_) (fun hc191 => ?_)
  · replace hc191 : s0 = 0 := hc191
    rw [show own_rf [(s0, 1), (s1, 2), (s2, 3), (s3, 4)] k cum ans = own_rf [(s1, 2), (s2, 3), (s3, 4)] k cum ans from own_rf_z hc191]
    exact own_v1 l Z a0 hw h0 n0 s0 s1 s2 s3 p4 k ans cum C X0 e0 N0
  · replace hc191 : s0 ≠ 0 := hc191
    refine W.iload (q := 26) X0 C d4_24 rfl rfl ?_
    refine W.iconst (q := 27) (v := 1) X0 C d4_26 rfl rfl ?_
    refine W.iadd (q := 28) X0 C d4_27 rfl ?_
    refine W.istore (q := 30) (L' := #[.val (.int s0), .val (.int s1), .val (.int s2), .val (.int s3), .val (.int p4), .val (.int k), .val (.int ans), .val (.int (cum + (1 : Int32)))]) X0 C d4_28 rfl rfl ?_
    refine W.iload (q := 32) X0 C d4_30 rfl rfl ?_
    refine W.iload (q := 34) X0 C d4_32 rfl rfl ?_
    refine W.icmp (q := 40) (q' := 37) X0 C d4_34 (by decide) (by decide) rfl (fun hc192 => ?_) (fun hc192 => ?_)
    · replace hc192 : (cum + (1 : Int32)) ≠ k := hc192
      rw [show own_rf [(s0, 1), (s1, 2), (s2, 3), (s3, 4)] k cum ans = own_rf [(s1, 2), (s2, 3), (s3, 4)] k (cum + (1 : Int32)) ans from own_rf_n hc191 hc192]
      exact own_v1 l Z a0 hw h0 n0 s0 s1 s2 s3 p4 k ans (cum + (1 : Int32)) C X0 e0 N0
    · replace hc192 : (cum + (1 : Int32)) = k := hc192
      refine W.iconst (q := 38) (v := 1) X0 C d4_37 rfl rfl ?_
      refine W.istore (q := 40) (L' := #[.val (.int s0), .val (.int s1), .val (.int s2), .val (.int s3), .val (.int p4), .val (.int k), .val (.int (1 : Int32)), .val (.int (cum + (1 : Int32)))]) X0 C d4_38 rfl rfl ?_
      rw [show own_rf [(s0, 1), (s1, 2), (s2, 3), (s3, 4)] k cum ans = own_rf [(s1, 2), (s2, 3), (s3, 4)] k (cum + (1 : Int32)) (1 : Int32) from own_rf_e hc191 hc192]
      exact own_v1 l Z a0 hw h0 n0 s0 s1 s2 s3 p4 k (1 : Int32) (cum + (1 : Int32)) C X0 e0 N0
theorem d4_0 : decode method_3_code 0 = .ok (.iload 4, 2) := by decide +kernel
theorem d4_2 : decode method_3_code 2 = .ok (.iconst 1, 1) := by decide +kernel
theorem d4_3 : decode method_3_code 3 = .ok (.if_icmp .gt 5, 3) := by decide +kernel
theorem d4_8 : decode method_3_code 8 = .ok (.iload 4, 2) := by decide +kernel
theorem d4_10 : decode method_3_code 10 = .ok (.iconst 1, 1) := by decide +kernel
theorem d4_11 : decode method_3_code 11 = .ok (.isub, 1) := by decide +kernel
theorem d4_12 : decode method_3_code 12 = .ok (.istore 5, 2) := by decide +kernel
theorem d4_14 : decode method_3_code 14 = .ok (.iconst (-1), 1) := by decide +kernel
theorem d4_15 : decode method_3_code 15 = .ok (.istore 6, 2) := by decide +kernel
theorem d4_17 : decode method_3_code 17 = .ok (.iconst 0, 1) := by decide +kernel
theorem d4_18 : decode method_3_code 18 = .ok (.istore 7, 2) := by decide +kernel
theorem d4_6 : decode method_3_code 6 = .ok (.iconst 0, 1) := by decide +kernel
theorem d4_7 : decode method_3_code 7 = .ok (.ireturn, 1) := by decide +kernel
theorem pn_com_example_orderwire_orderwire_hl7_EncodingPartStartPinLaw : plainName "com/example/orderwire/orderwire/hl7/EncodingPartStartPinLaw" = true := by first | (simp [plainName, overriddenIn]; done) | decide +kernel
abbrev y4 : MethodName := ⟨"com/example/orderwire/orderwire/hl7/EncodingPartStartPinLaw", "reference", "(ZZZZI)I"⟩
def Q4 (Z : State) (s0 s1 s2 s3 p4 : Int32) (h0 : Heap) (n0 : Nat) (v : Option Value) (h : Heap) (L : List Loc) : Prop := v = some (.int (own_r0 p4 s0 s1 s2 s3)) ∧ Fr n0 L ∧ h = h0
theorem rm4 (l : Launch) (Z : State) (a0 : Array Value) (hw : own_HW a0 Z) (ws : List Jvm.Cond) (s0 s1 s2 s3 p4 : Int32) (h0 : Heap) (n0 : Nat) : own_M l y4 method_3_code 8 (some .int) ws r_0_0_0_0 #[(.int s0), (.int s1), (.int s2), (.int s3), (.int p4)] Z h0 (Q4 Z s0 s1 s2 s3 p4 h0 n0) := by
  refine W.bodyOf (Ls := #[.val (.int s0), .val (.int s1), .val (.int s2), .val (.int s3), .val (.int p4), .unset, .unset, .unset]) (plainFor_of_name pn_com_example_orderwire_orderwire_hl7_EncodingPartStartPinLaw) (fun m => by first | exact W.entry_of rfl) ?_
  intro p e s m below meth c T0 C X0 e0
  have N0 := Fr.nil n0
  refine W.iload (q := 2) X0 C d4_0 rfl rfl ?_
  refine W.iconst (q := 3) (v := 1) X0 C d4_2 rfl rfl ?_
  refine W.icmp (q := 8) (q' := 6) X0 C d4_3 (by decide) (by decide) rfl (fun hc193 => ?_) (fun hc193 => ?_)
  · replace hc193 : (1 : Int32).toInt < p4.toInt := hc193
    refine W.iload (q := 10) X0 C d4_8 rfl rfl ?_
    refine W.iconst (q := 11) (v := 1) X0 C d4_10 rfl rfl ?_
    refine W.isub (q := 12) X0 C d4_11 rfl ?_
    refine W.istore (q := 14) (L' := #[.val (.int s0), .val (.int s1), .val (.int s2), .val (.int s3), .val (.int p4), .val (.int (p4 - (1 : Int32))), .unset, .unset]) X0 C d4_12 rfl rfl ?_
    refine W.iconst (q := 15) (v := (-1)) X0 C d4_14 rfl rfl ?_
    refine W.istore (q := 17) (L' := #[.val (.int s0), .val (.int s1), .val (.int s2), .val (.int s3), .val (.int p4), .val (.int (p4 - (1 : Int32))), .val (.int (-1 : Int32)), .unset]) X0 C d4_15 rfl rfl ?_
    refine W.iconst (q := 18) (v := 0) X0 C d4_17 rfl rfl ?_
    refine W.istore (q := 20) (L' := #[.val (.int s0), .val (.int s1), .val (.int s2), .val (.int s3), .val (.int p4), .val (.int (p4 - (1 : Int32))), .val (.int (-1 : Int32)), .val (.int (0 : Int32))]) X0 C d4_18 rfl rfl ?_
    have q := own_v0 l Z a0 hw h0 n0 s0 s1 s2 s3 p4 (p4 - (1 : Int32)) (-1) 0 C X0 e0 N0
    rw [show own_rf [(s0, 1), (s1, 2), (s2, 3), (s3, 4)] (p4 - (1 : Int32)) 0 (-1) = own_r0 p4 s0 s1 s2 s3 by rw [own_r0, if_neg (Int.not_le.mpr (show 1 < p4.toInt from hc193))]] at q
    exact q
  · replace hc193 : p4.toInt ≤ (1 : Int32).toInt := hc193
    refine W.iconst (q := 7) (v := 0) X0 C d4_6 rfl rfl ?_
    exact W.retI X0 C e0 d4_7 (by decide) (by decide) ⟨by rw [own_r0, if_pos (show p4.toInt ≤ 1 from hc193)], N0, rfl⟩
theorem d16_0 : decode jdk_52_method_15_code 0 = .ok (.iload_n 1, 1) := by decide +kernel
theorem d16_1 : decode jdk_52_method_15_code 1 = .ok (.aload_n 0, 1) := by decide +kernel
theorem d16_2 : decode jdk_52_method_15_code 2 = .ok (.arraylength, 1) := by decide +kernel
theorem d16_3 : decode jdk_52_method_15_code 3 = .ok (.isub, 1) := by decide +kernel
theorem d16_4 : decode jdk_52_method_15_code 4 = .ok (.bipush 31, 2) := by decide +kernel
theorem d16_6 : decode jdk_52_method_15_code 6 = .ok (.iushr, 1) := by decide +kernel
theorem d16_7 : decode jdk_52_method_15_code 7 = .ok (.i2b, 1) := by decide +kernel
theorem d16_8 : decode jdk_52_method_15_code 8 = .ok (.ireturn, 1) := by decide +kernel
abbrev y16 : MethodName := ⟨"java/lang/StringUTF16", "coderFromArrayLen", "([BI)B"⟩
def Q16_1_1 (Z : State) (p0 : Addr) (kb : ClassId) (vs : List Value) (h0 : Heap) (n0 : Nat) (v : Option Value) (h : Heap) (L : List Loc) : Prop := v = some (.int (0 : Int32)) ∧ Fr n0 L ∧ h = h0
theorem rm16_1_1 (l : Launch) (Z : State) (a0 : Array Value) (hw : own_HW a0 Z) (ws : List Jvm.Cond) (p0 : Addr) (kb : ClassId) (vs : List Value) (h0 : Heap) (n0 : Nat) (V0 : Arv Z h0 p0 kb .byte (1 : Int32) vs (.int (0 : Int32))) : own_M l y16 jdk_52_method_15_code 2 (some .byte) ws r_0_0_0_0 #[(.ref p0), (.int (1 : Int32))] Z h0 (Q16_1_1 Z p0 kb vs h0 n0) := by
  refine W.bodyOf (Ls := #[.val (.ref p0), .val (.int (1 : Int32))]) (plainFor_of_name pn_java_lang_StringUTF16) (fun m => by first | exact W.entry_of rfl) ?_
  intro p e s m below meth c T0 C X0 e0
  have N0 := Fr.nil n0
  refine W.iloadN (q := 1) X0 C d16_0 rfl rfl ?_
  refine W.aloadN (q := 2) X0 C d16_1 rfl rfl rfl ?_
  refine W.arraylength (q := 3) X0 C e0 V0 d16_2 rfl ?_
  refine W.isub (q := 4) X0 C d16_3 rfl ?_
  rw [show ((1 : Int32) - (1 : Int32)) = (0 : Int32) by decide]
  refine W.bipush (q := 6) (v := 31) X0 C d16_4 rfl rfl ?_
  refine W.iushr (q := 7) X0 C d16_6 rfl ?_
  refine W.i2b (q := 8) X0 C d16_7 rfl ?_
  exact W.retN X0 C (by simp) e0 d16_8 (by decide +kernel) (by decide) (by decide) ⟨rfl, N0, rfl⟩
def Q16_1_2 (Z : State) (p0 : Addr) (kb : ClassId) (vs : List Value) (h0 : Heap) (n0 : Nat) (v : Option Value) (h : Heap) (L : List Loc) : Prop := v = some (.int (1 : Int32)) ∧ Fr n0 L ∧ h = h0
theorem rm16_1_2 (l : Launch) (Z : State) (a0 : Array Value) (hw : own_HW a0 Z) (ws : List Jvm.Cond) (p0 : Addr) (kb : ClassId) (vs : List Value) (h0 : Heap) (n0 : Nat) (V0 : Arv Z h0 p0 kb .byte (2 : Int32) vs (.int (0 : Int32))) : own_M l y16 jdk_52_method_15_code 2 (some .byte) ws r_0_0_0_0 #[(.ref p0), (.int (1 : Int32))] Z h0 (Q16_1_2 Z p0 kb vs h0 n0) := by
  refine W.bodyOf (Ls := #[.val (.ref p0), .val (.int (1 : Int32))]) (plainFor_of_name pn_java_lang_StringUTF16) (fun m => by first | exact W.entry_of rfl) ?_
  intro p e s m below meth c T0 C X0 e0
  have N0 := Fr.nil n0
  refine W.iloadN (q := 1) X0 C d16_0 rfl rfl ?_
  refine W.aloadN (q := 2) X0 C d16_1 rfl rfl rfl ?_
  refine W.arraylength (q := 3) X0 C e0 V0 d16_2 rfl ?_
  refine W.isub (q := 4) X0 C d16_3 rfl ?_
  rw [show ((1 : Int32) - (2 : Int32)) = (-1 : Int32) by decide]
  refine W.bipush (q := 6) (v := 31) X0 C d16_4 rfl rfl ?_
  refine W.iushr (q := 7) X0 C d16_6 rfl ?_
  refine W.i2b (q := 8) X0 C d16_7 rfl ?_
  exact W.retN X0 C (by simp) e0 d16_8 (by decide +kernel) (by decide) (by decide) ⟨rfl, N0, rfl⟩
def Q16_2_2 (Z : State) (p0 : Addr) (kb : ClassId) (vs : List Value) (h0 : Heap) (n0 : Nat) (v : Option Value) (h : Heap) (L : List Loc) : Prop := v = some (.int (0 : Int32)) ∧ Fr n0 L ∧ h = h0
theorem rm16_2_2 (l : Launch) (Z : State) (a0 : Array Value) (hw : own_HW a0 Z) (ws : List Jvm.Cond) (p0 : Addr) (kb : ClassId) (vs : List Value) (h0 : Heap) (n0 : Nat) (V0 : Arv Z h0 p0 kb .byte (2 : Int32) vs (.int (0 : Int32))) : own_M l y16 jdk_52_method_15_code 2 (some .byte) ws r_0_0_0_0 #[(.ref p0), (.int (2 : Int32))] Z h0 (Q16_2_2 Z p0 kb vs h0 n0) := by
  refine W.bodyOf (Ls := #[.val (.ref p0), .val (.int (2 : Int32))]) (plainFor_of_name pn_java_lang_StringUTF16) (fun m => by first | exact W.entry_of rfl) ?_
  intro p e s m below meth c T0 C X0 e0
  have N0 := Fr.nil n0
  refine W.iloadN (q := 1) X0 C d16_0 rfl rfl ?_
  refine W.aloadN (q := 2) X0 C d16_1 rfl rfl rfl ?_
  refine W.arraylength (q := 3) X0 C e0 V0 d16_2 rfl ?_
  refine W.isub (q := 4) X0 C d16_3 rfl ?_
  rw [show ((2 : Int32) - (2 : Int32)) = (0 : Int32) by decide]
  refine W.bipush (q := 6) (v := 31) X0 C d16_4 rfl rfl ?_
  refine W.iushr (q := 7) X0 C d16_6 rfl ?_
  refine W.i2b (q := 8) X0 C d16_7 rfl ?_
  exact W.retN X0 C (by simp) e0 d16_8 (by decide +kernel) (by decide) (by decide) ⟨rfl, N0, rfl⟩
def Q16_2_4 (Z : State) (p0 : Addr) (kb : ClassId) (vs : List Value) (h0 : Heap) (n0 : Nat) (v : Option Value) (h : Heap) (L : List Loc) : Prop := v = some (.int (1 : Int32)) ∧ Fr n0 L ∧ h = h0
theorem rm16_2_4 (l : Launch) (Z : State) (a0 : Array Value) (hw : own_HW a0 Z) (ws : List Jvm.Cond) (p0 : Addr) (kb : ClassId) (vs : List Value) (h0 : Heap) (n0 : Nat) (V0 : Arv Z h0 p0 kb .byte (4 : Int32) vs (.int (0 : Int32))) : own_M l y16 jdk_52_method_15_code 2 (some .byte) ws r_0_0_0_0 #[(.ref p0), (.int (2 : Int32))] Z h0 (Q16_2_4 Z p0 kb vs h0 n0) := by
  refine W.bodyOf (Ls := #[.val (.ref p0), .val (.int (2 : Int32))]) (plainFor_of_name pn_java_lang_StringUTF16) (fun m => by first | exact W.entry_of rfl) ?_
  intro p e s m below meth c T0 C X0 e0
  have N0 := Fr.nil n0
  refine W.iloadN (q := 1) X0 C d16_0 rfl rfl ?_
  refine W.aloadN (q := 2) X0 C d16_1 rfl rfl rfl ?_
  refine W.arraylength (q := 3) X0 C e0 V0 d16_2 rfl ?_
  refine W.isub (q := 4) X0 C d16_3 rfl ?_
  rw [show ((2 : Int32) - (4 : Int32)) = (-2 : Int32) by decide]
  refine W.bipush (q := 6) (v := 31) X0 C d16_4 rfl rfl ?_
  refine W.iushr (q := 7) X0 C d16_6 rfl ?_
  refine W.i2b (q := 8) X0 C d16_7 rfl ?_
  exact W.retN X0 C (by simp) e0 d16_8 (by decide +kernel) (by decide) (by decide) ⟨rfl, N0, rfl⟩
def Q16_3_3 (Z : State) (p0 : Addr) (kb : ClassId) (vs : List Value) (h0 : Heap) (n0 : Nat) (v : Option Value) (h : Heap) (L : List Loc) : Prop := v = some (.int (0 : Int32)) ∧ Fr n0 L ∧ h = h0
theorem rm16_3_3 (l : Launch) (Z : State) (a0 : Array Value) (hw : own_HW a0 Z) (ws : List Jvm.Cond) (p0 : Addr) (kb : ClassId) (vs : List Value) (h0 : Heap) (n0 : Nat) (V0 : Arv Z h0 p0 kb .byte (3 : Int32) vs (.int (0 : Int32))) : own_M l y16 jdk_52_method_15_code 2 (some .byte) ws r_0_0_0_0 #[(.ref p0), (.int (3 : Int32))] Z h0 (Q16_3_3 Z p0 kb vs h0 n0) := by
  refine W.bodyOf (Ls := #[.val (.ref p0), .val (.int (3 : Int32))]) (plainFor_of_name pn_java_lang_StringUTF16) (fun m => by first | exact W.entry_of rfl) ?_
  intro p e s m below meth c T0 C X0 e0
  have N0 := Fr.nil n0
  refine W.iloadN (q := 1) X0 C d16_0 rfl rfl ?_
  refine W.aloadN (q := 2) X0 C d16_1 rfl rfl rfl ?_
  refine W.arraylength (q := 3) X0 C e0 V0 d16_2 rfl ?_
  refine W.isub (q := 4) X0 C d16_3 rfl ?_
  rw [show ((3 : Int32) - (3 : Int32)) = (0 : Int32) by decide]
  refine W.bipush (q := 6) (v := 31) X0 C d16_4 rfl rfl ?_
  refine W.iushr (q := 7) X0 C d16_6 rfl ?_
  refine W.i2b (q := 8) X0 C d16_7 rfl ?_
  exact W.retN X0 C (by simp) e0 d16_8 (by decide +kernel) (by decide) (by decide) ⟨rfl, N0, rfl⟩
def Q16_3_6 (Z : State) (p0 : Addr) (kb : ClassId) (vs : List Value) (h0 : Heap) (n0 : Nat) (v : Option Value) (h : Heap) (L : List Loc) : Prop := v = some (.int (1 : Int32)) ∧ Fr n0 L ∧ h = h0
theorem rm16_3_6 (l : Launch) (Z : State) (a0 : Array Value) (hw : own_HW a0 Z) (ws : List Jvm.Cond) (p0 : Addr) (kb : ClassId) (vs : List Value) (h0 : Heap) (n0 : Nat) (V0 : Arv Z h0 p0 kb .byte (6 : Int32) vs (.int (0 : Int32))) : own_M l y16 jdk_52_method_15_code 2 (some .byte) ws r_0_0_0_0 #[(.ref p0), (.int (3 : Int32))] Z h0 (Q16_3_6 Z p0 kb vs h0 n0) := by
  refine W.bodyOf (Ls := #[.val (.ref p0), .val (.int (3 : Int32))]) (plainFor_of_name pn_java_lang_StringUTF16) (fun m => by first | exact W.entry_of rfl) ?_
  intro p e s m below meth c T0 C X0 e0
  have N0 := Fr.nil n0
  refine W.iloadN (q := 1) X0 C d16_0 rfl rfl ?_
  refine W.aloadN (q := 2) X0 C d16_1 rfl rfl rfl ?_
  refine W.arraylength (q := 3) X0 C e0 V0 d16_2 rfl ?_
  refine W.isub (q := 4) X0 C d16_3 rfl ?_
  rw [show ((3 : Int32) - (6 : Int32)) = (-3 : Int32) by decide]
  refine W.bipush (q := 6) (v := 31) X0 C d16_4 rfl rfl ?_
  refine W.iushr (q := 7) X0 C d16_6 rfl ?_
  refine W.i2b (q := 8) X0 C d16_7 rfl ?_
  exact W.retN X0 C (by simp) e0 d16_8 (by decide +kernel) (by decide) (by decide) ⟨rfl, N0, rfl⟩
def Q16_4_4 (Z : State) (p0 : Addr) (kb : ClassId) (vs : List Value) (h0 : Heap) (n0 : Nat) (v : Option Value) (h : Heap) (L : List Loc) : Prop := v = some (.int (0 : Int32)) ∧ Fr n0 L ∧ h = h0
theorem rm16_4_4 (l : Launch) (Z : State) (a0 : Array Value) (hw : own_HW a0 Z) (ws : List Jvm.Cond) (p0 : Addr) (kb : ClassId) (vs : List Value) (h0 : Heap) (n0 : Nat) (V0 : Arv Z h0 p0 kb .byte (4 : Int32) vs (.int (0 : Int32))) : own_M l y16 jdk_52_method_15_code 2 (some .byte) ws r_0_0_0_0 #[(.ref p0), (.int (4 : Int32))] Z h0 (Q16_4_4 Z p0 kb vs h0 n0) := by
  refine W.bodyOf (Ls := #[.val (.ref p0), .val (.int (4 : Int32))]) (plainFor_of_name pn_java_lang_StringUTF16) (fun m => by first | exact W.entry_of rfl) ?_
  intro p e s m below meth c T0 C X0 e0
  have N0 := Fr.nil n0
  refine W.iloadN (q := 1) X0 C d16_0 rfl rfl ?_
  refine W.aloadN (q := 2) X0 C d16_1 rfl rfl rfl ?_
  refine W.arraylength (q := 3) X0 C e0 V0 d16_2 rfl ?_
  refine W.isub (q := 4) X0 C d16_3 rfl ?_
  rw [show ((4 : Int32) - (4 : Int32)) = (0 : Int32) by decide]
  refine W.bipush (q := 6) (v := 31) X0 C d16_4 rfl rfl ?_
  refine W.iushr (q := 7) X0 C d16_6 rfl ?_
  refine W.i2b (q := 8) X0 C d16_7 rfl ?_
  exact W.retN X0 C (by simp) e0 d16_8 (by decide +kernel) (by decide) (by decide) ⟨rfl, N0, rfl⟩
def Q16_4_8 (Z : State) (p0 : Addr) (kb : ClassId) (vs : List Value) (h0 : Heap) (n0 : Nat) (v : Option Value) (h : Heap) (L : List Loc) : Prop := v = some (.int (1 : Int32)) ∧ Fr n0 L ∧ h = h0
theorem rm16_4_8 (l : Launch) (Z : State) (a0 : Array Value) (hw : own_HW a0 Z) (ws : List Jvm.Cond) (p0 : Addr) (kb : ClassId) (vs : List Value) (h0 : Heap) (n0 : Nat) (V0 : Arv Z h0 p0 kb .byte (8 : Int32) vs (.int (0 : Int32))) : own_M l y16 jdk_52_method_15_code 2 (some .byte) ws r_0_0_0_0 #[(.ref p0), (.int (4 : Int32))] Z h0 (Q16_4_8 Z p0 kb vs h0 n0) := by
  refine W.bodyOf (Ls := #[.val (.ref p0), .val (.int (4 : Int32))]) (plainFor_of_name pn_java_lang_StringUTF16) (fun m => by first | exact W.entry_of rfl) ?_
  intro p e s m below meth c T0 C X0 e0
  have N0 := Fr.nil n0
  refine W.iloadN (q := 1) X0 C d16_0 rfl rfl ?_
  refine W.aloadN (q := 2) X0 C d16_1 rfl rfl rfl ?_
  refine W.arraylength (q := 3) X0 C e0 V0 d16_2 rfl ?_
  refine W.isub (q := 4) X0 C d16_3 rfl ?_
  rw [show ((4 : Int32) - (8 : Int32)) = (-4 : Int32) by decide]
  refine W.bipush (q := 6) (v := 31) X0 C d16_4 rfl rfl ?_
  refine W.iushr (q := 7) X0 C d16_6 rfl ?_
  refine W.i2b (q := 8) X0 C d16_7 rfl ?_
  exact W.retN X0 C (by simp) e0 d16_8 (by decide +kernel) (by decide) (by decide) ⟨rfl, N0, rfl⟩
theorem d15_0 : decode jdk_52_method_21_code 0 = .ok (.iconst 0, 1) := by decide +kernel
theorem d15_1 : decode jdk_52_method_21_code 1 = .ok (.istore 5, 2) := by decide +kernel
theorem d15_3 : decode jdk_52_method_21_code 3 = .ok (.iload 5, 2) := by decide +kernel
theorem d15_5 : decode jdk_52_method_21_code 5 = .ok (.iload 4, 2) := by decide +kernel
theorem d15_7 : decode jdk_52_method_21_code 7 = .ok (.if_icmp .ge 37, 3) := by decide +kernel
theorem d15_10 : decode jdk_52_method_21_code 10 = .ok (.aload_n 0, 1) := by decide +kernel
theorem d15_11 : decode jdk_52_method_21_code 11 = .ok (.iload_n 1, 1) := by decide +kernel
theorem d15_12 : decode jdk_52_method_21_code 12 = .ok (.caload, 1) := by decide +kernel
theorem d15_13 : decode jdk_52_method_21_code 13 = .ok (.istore 6, 2) := by decide +kernel
theorem d15_15 : decode jdk_52_method_21_code 15 = .ok (.iload 6, 2) := by decide +kernel
theorem d15_17 : decode jdk_52_method_21_code 17 = .ok (.sipush 255, 3) := by decide +kernel
theorem d15_20 : decode jdk_52_method_21_code 20 = .ok (.if_icmp .le 6, 3) := by decide +kernel
theorem d15_26 : decode jdk_52_method_21_code 26 = .ok (.aload_n 2, 1) := by decide +kernel
theorem d15_27 : decode jdk_52_method_21_code 27 = .ok (.iload_n 3, 1) := by decide +kernel
theorem d15_28 : decode jdk_52_method_21_code 28 = .ok (.iload 6, 2) := by decide +kernel
theorem d15_30 : decode jdk_52_method_21_code 30 = .ok (.i2b, 1) := by decide +kernel
theorem d15_31 : decode jdk_52_method_21_code 31 = .ok (.bastore, 1) := by decide +kernel
theorem d15_32 : decode jdk_52_method_21_code 32 = .ok (.iinc 1 1, 3) := by decide +kernel
theorem d15_35 : decode jdk_52_method_21_code 35 = .ok (.iinc 3 1, 3) := by decide +kernel
theorem d15_38 : decode jdk_52_method_21_code 38 = .ok (.iinc 5 1, 3) := by decide +kernel
theorem d15_41 : decode jdk_52_method_21_code 41 = .ok (.goto (-38), 3) := by decide +kernel
theorem d15_44 : decode jdk_52_method_21_code 44 = .ok (.iload 4, 2) := by decide +kernel
theorem d15_46 : decode jdk_52_method_21_code 46 = .ok (.ireturn, 1) := by decide +kernel
theorem d15_23 : decode jdk_52_method_21_code 23 = .ok (.iload 5, 2) := by decide +kernel
theorem d15_25 : decode jdk_52_method_21_code 25 = .ok (.ireturn, 1) := by decide +kernel
abbrev y15 : MethodName := ⟨"java/lang/StringUTF16", "compress", "([CI[BII)I"⟩
def Q15_1 (Z : State) (p0 p2 : Addr) (kc kb : ClassId) (x0 : Int32) (h0 : Heap) (n0 : Nat) (v : Option Value) (h : Heap) (L : List Loc) : Prop := Fr n0 L ∧ Keep h0 h [p2] ∧ ((v = some (.int (1 : Int32)) ∧ own_r8 x0 ∧ Arv Z h p2 kb .byte (1 : Int32) [(.int (x0.toInt8.toInt32))] (.int (0 : Int32))) ∨ (v = some (.int (0 : Int32)) ∧ (255 : Int32).toInt < x0.toInt))
theorem rm15_1 (l : Launch) (Z : State) (a0 : Array Value) (hw : own_HW a0 Z) (ws : List Jvm.Cond) (p0 p2 : Addr) (kc kb : ClassId) (x0 : Int32) (h0 : Heap) (n0 : Nat) (Z0 : n0 ≤ h0.size) (hge : n0 ≤ p2) (hne : p0 ≠ p2) (Vc : Arv Z h0 p0 kc .char (1 : Int32) [(.int x0)] (.int (0 : Int32))) (Vb : Arv Z h0 p2 kb .byte (1 : Int32) [(.int (0 : Int32))] (.int (0 : Int32))) (hr0 : own_r16 x0) : own_M l y15 jdk_52_method_21_code 7 (some .int) ws r_0_0_0_0 #[(.ref p0), (.int (0 : Int32)), (.ref p2), (.int (0 : Int32)), (.int (1 : Int32))] Z h0 (Q15_1 Z p0 p2 kc kb x0 h0 n0) := by
  refine W.bodyOf (Ls := #[.val (.ref p0), .val (.int (0 : Int32)), .val (.ref p2), .val (.int (0 : Int32)), .val (.int (1 : Int32)), .unset, .unset]) (plainFor_of_name pn_java_lang_StringUTF16) (fun m => by first | exact W.entry_of rfl) ?_
  intro p e s m below meth c T0 C X0 e0
  have N0 := Fr.nil n0
  have K0 := Keep.refl h0 [p2]
  refine W.iconst (q := 1) (v := 0) X0 C d15_0 rfl rfl ?_
  refine W.istore (q := 3) (L' := #[.val (.ref p0), .val (.int (0 : Int32)), .val (.ref p2), .val (.int (0 : Int32)), .val (.int (1 : Int32)), .val (.int (0 : Int32)), .unset]) X0 C d15_1 rfl rfl ?_
  refine W.iload (q := 5) X0 C d15_3 rfl rfl ?_
  refine W.iload (q := 7) X0 C d15_5 rfl rfl ?_
  refine W.icmpF (q := 10) X0 C d15_7 rfl (by decide : W.cF .ge (0 : Int32) (1 : Int32)) ?_
  refine W.aloadN (q := 11) X0 C d15_10 rfl rfl rfl ?_
  refine W.iloadN (q := 12) X0 C d15_11 rfl rfl ?_
  refine W.caload (q := 13) X0 C e0 Vc (by decide) (by decide) rfl d15_12 rfl ?_
  refine W.istore (q := 15) (L' := #[.val (.ref p0), .val (.int (0 : Int32)), .val (.ref p2), .val (.int (0 : Int32)), .val (.int (1 : Int32)), .val (.int (0 : Int32)), .val (.int x0)]) X0 C d15_13 rfl rfl ?_
  refine W.iload (q := 17) X0 C d15_15 rfl rfl ?_
  refine W.sipush (q := 20) (v := 255) X0 C d15_17 rfl rfl ?_
  refine W.icmp (q := 26) (q' := 23) X0 C d15_20 (by decide) (by decide) rfl (fun hc194 => ?_) (fun hc194 => ?_)
  · replace hc194 : x0.toInt ≤ (255 : Int32).toInt := hc194
    refine W.aloadN (q := 27) X0 C d15_26 rfl rfl rfl ?_
    refine W.iloadN (q := 28) X0 C d15_27 rfl rfl ?_
    refine W.iload (q := 30) X0 C d15_28 rfl rfl ?_
    refine W.i2b (q := 31) X0 C d15_30 rfl ?_
    refine W.bastore (q := 32) X0 C e0 Vb  (by decide) (by decide) (Nat.le_of_ble_eq_true rfl) d15_31 rfl (fun T195 h195 X195 e195 W195 V195_ => ?_)
    rw [own_bb x0] at V195_
    have Vc_197 := Vc.other W195 hne
    have V195 : Arv Z h195 p2 kb .byte (1 : Int32) [(.int (x0.toInt8.toInt32))] (.int (0 : Int32)) := V195_
    have N195 := Fr.snoc X195 N0 hge
    have K195 := K0.wr W195 (Or.inl (by simp))
    have n0_195 : n0 ≤ h195.size := by rw [W195.size]; exact Z0
    refine W.iinc (q := 35) (L' := #[.val (.ref p0), .val (.int (1 : Int32)), .val (.ref p2), .val (.int (0 : Int32)), .val (.int (1 : Int32)), .val (.int (0 : Int32)), .val (.int x0)]) X195 C d15_32 rfl (by decide) rfl rfl ?_
    refine W.iinc (q := 38) (L' := #[.val (.ref p0), .val (.int (1 : Int32)), .val (.ref p2), .val (.int (1 : Int32)), .val (.int (1 : Int32)), .val (.int (0 : Int32)), .val (.int x0)]) X195 C d15_35 rfl (by decide) rfl rfl ?_
    refine W.iinc (q := 41) (L' := #[.val (.ref p0), .val (.int (1 : Int32)), .val (.ref p2), .val (.int (1 : Int32)), .val (.int (1 : Int32)), .val (.int (1 : Int32)), .val (.int x0)]) X195 C d15_38 rfl (by decide) rfl rfl ?_
    refine W.goto (q := 3) X195 C d15_41 (by decide) (by decide) ?_
    refine W.iload (q := 5) X195 C d15_3 rfl rfl ?_
    refine W.iload (q := 7) X195 C d15_5 rfl rfl ?_
    refine W.icmpT (q := 44) X195 C d15_7 (by decide) (by decide) (by decide : W.cT .ge (1 : Int32) (1 : Int32)) ?_
    refine W.iload (q := 46) X195 C d15_44 rfl rfl ?_
    exact W.retI X195 C e195 d15_46 (by decide) (by decide) ⟨N195, K195, Or.inl ⟨rfl, own_16_8 hr0 hc194, V195⟩⟩
  · replace hc194 : (255 : Int32).toInt < x0.toInt := hc194
    refine W.iload (q := 25) X0 C d15_23 rfl rfl ?_
    exact W.retI X0 C e0 d15_25 (by decide) (by decide) ⟨N0, K0, Or.inr (⟨rfl, hc194⟩)⟩
def Q15_2 (Z : State) (p0 p2 : Addr) (kc kb : ClassId) (x0 x1 : Int32) (h0 : Heap) (n0 : Nat) (v : Option Value) (h : Heap) (L : List Loc) : Prop := Fr n0 L ∧ Keep h0 h [p2] ∧ ((v = some (.int (2 : Int32)) ∧ own_r8 x0 ∧ own_r8 x1 ∧ Arv Z h p2 kb .byte (2 : Int32) [(.int (x0.toInt8.toInt32)), (.int (x1.toInt8.toInt32))] (.int (0 : Int32))) ∨ (v = some (.int (0 : Int32)) ∧ (255 : Int32).toInt < x0.toInt) ∨ (v = some (.int (1 : Int32)) ∧ (255 : Int32).toInt < x1.toInt))
theorem rm15_2 (l : Launch) (Z : State) (a0 : Array Value) (hw : own_HW a0 Z) (ws : List Jvm.Cond) (p0 p2 : Addr) (kc kb : ClassId) (x0 x1 : Int32) (h0 : Heap) (n0 : Nat) (Z0 : n0 ≤ h0.size) (hge : n0 ≤ p2) (hne : p0 ≠ p2) (Vc : Arv Z h0 p0 kc .char (2 : Int32) [(.int x0), (.int x1)] (.int (0 : Int32))) (Vb : Arv Z h0 p2 kb .byte (2 : Int32) [(.int (0 : Int32)), (.int (0 : Int32))] (.int (0 : Int32))) (hr0 : own_r16 x0) (hr1 : own_r16 x1) : own_M l y15 jdk_52_method_21_code 7 (some .int) ws r_0_0_0_0 #[(.ref p0), (.int (0 : Int32)), (.ref p2), (.int (0 : Int32)), (.int (2 : Int32))] Z h0 (Q15_2 Z p0 p2 kc kb x0 x1 h0 n0) := by
  refine W.bodyOf (Ls := #[.val (.ref p0), .val (.int (0 : Int32)), .val (.ref p2), .val (.int (0 : Int32)), .val (.int (2 : Int32)), .unset, .unset]) (plainFor_of_name pn_java_lang_StringUTF16) (fun m => by first | exact W.entry_of rfl) ?_
  intro p e s m below meth c T0 C X0 e0
  have N0 := Fr.nil n0
  have K0 := Keep.refl h0 [p2]
  refine W.iconst (q := 1) (v := 0) X0 C d15_0 rfl rfl ?_
  refine W.istore (q := 3) (L' := #[.val (.ref p0), .val (.int (0 : Int32)), .val (.ref p2), .val (.int (0 : Int32)), .val (.int (2 : Int32)), .val (.int (0 : Int32)), .unset]) X0 C d15_1 rfl rfl ?_
  refine W.iload (q := 5) X0 C d15_3 rfl rfl ?_
  refine W.iload (q := 7) X0 C d15_5 rfl rfl ?_
  refine W.icmpF (q := 10) X0 C d15_7 rfl (by decide : W.cF .ge (0 : Int32) (2 : Int32)) ?_
  refine W.aloadN (q := 11) X0 C d15_10 rfl rfl rfl ?_
  refine W.iloadN (q := 12) X0 C d15_11 rfl rfl ?_
  refine W.caload (q := 13) X0 C e0 Vc (by decide) (by decide) rfl d15_12 rfl ?_
  refine W.istore (q := 15) (L' := #[.val (.ref p0), .val (.int (0 : Int32)), .val (.ref p2), .val (.int (0 : Int32)), .val (.int (2 : Int32)), .val (.int (0 : Int32)), .val (.int x0)]) X0 C d15_13 rfl rfl ?_
  refine W.iload (q := 17) X0 C d15_15 rfl rfl ?_
  refine W.sipush (q := 20) (v := 255) X0 C d15_17 rfl rfl ?_
  refine W.icmp (q := 26) (q' := 23) X0 C d15_20 (by decide) (by decide) rfl (fun hc199 => ?_) (fun hc199 => ?_)
  · replace hc199 : x0.toInt ≤ (255 : Int32).toInt := hc199
    refine W.aloadN (q := 27) X0 C d15_26 rfl rfl rfl ?_
    refine W.iloadN (q := 28) X0 C d15_27 rfl rfl ?_
    refine W.iload (q := 30) X0 C d15_28 rfl rfl ?_
    refine W.i2b (q := 31) X0 C d15_30 rfl ?_
    refine W.bastore (q := 32) X0 C e0 Vb  (by decide) (by decide) (Nat.le_of_ble_eq_true rfl) d15_31 rfl (fun T200 h200 X200 e200 W200 V200_ => ?_)
    rw [own_bb x0] at V200_
    have Vc_202 := Vc.other W200 hne
    have V200 : Arv Z h200 p2 kb .byte (2 : Int32) [(.int (x0.toInt8.toInt32)), (.int (0 : Int32))] (.int (0 : Int32)) := V200_
    have N200 := Fr.snoc X200 N0 hge
    have K200 := K0.wr W200 (Or.inl (by simp))
    have n0_200 : n0 ≤ h200.size := by rw [W200.size]; exact Z0
    refine W.iinc (q := 35) (L' := #[.val (.ref p0), .val (.int (1 : Int32)), .val (.ref p2), .val (.int (0 : Int32)), .val (.int (2 : Int32)), .val (.int (0 : Int32)), .val (.int x0)]) X200 C d15_32 rfl (by decide) rfl rfl ?_
    refine W.iinc (q := 38) (L' := #[.val (.ref p0), .val (.int (1 : Int32)), .val (.ref p2), .val (.int (1 : Int32)), .val (.int (2 : Int32)), .val (.int (0 : Int32)), .val (.int x0)]) X200 C d15_35 rfl (by decide) rfl rfl ?_
    refine W.iinc (q := 41) (L' := #[.val (.ref p0), .val (.int (1 : Int32)), .val (.ref p2), .val (.int (1 : Int32)), .val (.int (2 : Int32)), .val (.int (1 : Int32)), .val (.int x0)]) X200 C d15_38 rfl (by decide) rfl rfl ?_
    refine W.goto (q := 3) X200 C d15_41 (by decide) (by decide) ?_
    refine W.iload (q := 5) X200 C d15_3 rfl rfl ?_
    refine W.iload (q := 7) X200 C d15_5 rfl rfl ?_
    refine W.icmpF (q := 10) X200 C d15_7 rfl (by decide : W.cF .ge (1 : Int32) (2 : Int32)) ?_
    refine W.aloadN (q := 11) X200 C d15_10 rfl rfl rfl ?_
    refine W.iloadN (q := 12) X200 C d15_11 rfl rfl ?_
    refine W.caload (q := 13) X200 C e200 Vc_202 (by decide) (by decide) rfl d15_12 rfl ?_
    refine W.istore (q := 15) (L' := #[.val (.ref p0), .val (.int (1 : Int32)), .val (.ref p2), .val (.int (1 : Int32)), .val (.int (2 : Int32)), .val (.int (1 : Int32)), .val (.int x1)]) X200 C d15_13 rfl rfl ?_
    refine W.iload (q := 17) X200 C d15_15 rfl rfl ?_
    refine W.sipush (q := 20) (v := 255) X200 C d15_17 rfl rfl ?_
    refine W.icmp (q := 26) (q' := 23) X200 C d15_20 (by decide) (by decide) rfl (fun hc204 => ?_) (fun hc204 => ?_)
    · replace hc204 : x1.toInt ≤ (255 : Int32).toInt := hc204
      refine W.aloadN (q := 27) X200 C d15_26 rfl rfl rfl ?_
      refine W.iloadN (q := 28) X200 C d15_27 rfl rfl ?_
      refine W.iload (q := 30) X200 C d15_28 rfl rfl ?_
      refine W.i2b (q := 31) X200 C d15_30 rfl ?_
      refine W.bastore (q := 32) X200 C e200 V200  (by decide) (by decide) (Nat.le_of_ble_eq_true rfl) d15_31 rfl (fun T205 h205 X205 e205 W205 V205_ => ?_)
      rw [own_bb x1] at V205_
      have Vc_207 := Vc_202.other W205 hne
      have V205 : Arv Z h205 p2 kb .byte (2 : Int32) [(.int (x0.toInt8.toInt32)), (.int (x1.toInt8.toInt32))] (.int (0 : Int32)) := V205_
      have N205 := Fr.snoc X205 N200 hge
      have K205 := K200.wr W205 (Or.inl (by simp))
      have n0_205 : n0 ≤ h205.size := by rw [W205.size]; exact n0_200
      refine W.iinc (q := 35) (L' := #[.val (.ref p0), .val (.int (2 : Int32)), .val (.ref p2), .val (.int (1 : Int32)), .val (.int (2 : Int32)), .val (.int (1 : Int32)), .val (.int x1)]) X205 C d15_32 rfl (by decide) rfl rfl ?_
      refine W.iinc (q := 38) (L' := #[.val (.ref p0), .val (.int (2 : Int32)), .val (.ref p2), .val (.int (2 : Int32)), .val (.int (2 : Int32)), .val (.int (1 : Int32)), .val (.int x1)]) X205 C d15_35 rfl (by decide) rfl rfl ?_
      refine W.iinc (q := 41) (L' := #[.val (.ref p0), .val (.int (2 : Int32)), .val (.ref p2), .val (.int (2 : Int32)), .val (.int (2 : Int32)), .val (.int (2 : Int32)), .val (.int x1)]) X205 C d15_38 rfl (by decide) rfl rfl ?_
      refine W.goto (q := 3) X205 C d15_41 (by decide) (by decide) ?_
      refine W.iload (q := 5) X205 C d15_3 rfl rfl ?_
      refine W.iload (q := 7) X205 C d15_5 rfl rfl ?_
      refine W.icmpT (q := 44) X205 C d15_7 (by decide) (by decide) (by decide : W.cT .ge (2 : Int32) (2 : Int32)) ?_
      refine W.iload (q := 46) X205 C d15_44 rfl rfl ?_
      exact W.retI X205 C e205 d15_46 (by decide) (by decide) ⟨N205, K205, Or.inl ⟨rfl, own_16_8 hr0 hc199, own_16_8 hr1 hc204, V205⟩⟩
    · replace hc204 : (255 : Int32).toInt < x1.toInt := hc204
      refine W.iload (q := 25) X200 C d15_23 rfl rfl ?_
      exact W.retI X200 C e200 d15_25 (by decide) (by decide) ⟨N200, K200, Or.inr (Or.inr (⟨rfl, hc204⟩))⟩
  · replace hc199 : (255 : Int32).toInt < x0.toInt := hc199
    refine W.iload (q := 25) X0 C d15_23 rfl rfl ?_
    exact W.retI X0 C e0 d15_25 (by decide) (by decide) ⟨N0, K0, Or.inr (Or.inl ⟨rfl, hc199⟩)⟩
def Q15_3 (Z : State) (p0 p2 : Addr) (kc kb : ClassId) (x0 x1 x2 : Int32) (h0 : Heap) (n0 : Nat) (v : Option Value) (h : Heap) (L : List Loc) : Prop := Fr n0 L ∧ Keep h0 h [p2] ∧ ((v = some (.int (3 : Int32)) ∧ own_r8 x0 ∧ own_r8 x1 ∧ own_r8 x2 ∧ Arv Z h p2 kb .byte (3 : Int32) [(.int (x0.toInt8.toInt32)), (.int (x1.toInt8.toInt32)), (.int (x2.toInt8.toInt32))] (.int (0 : Int32))) ∨ (v = some (.int (0 : Int32)) ∧ (255 : Int32).toInt < x0.toInt) ∨ (v = some (.int (1 : Int32)) ∧ (255 : Int32).toInt < x1.toInt) ∨ (v = some (.int (2 : Int32)) ∧ (255 : Int32).toInt < x2.toInt))
theorem rm15_3 (l : Launch) (Z : State) (a0 : Array Value) (hw : own_HW a0 Z) (ws : List Jvm.Cond) (p0 p2 : Addr) (kc kb : ClassId) (x0 x1 x2 : Int32) (h0 : Heap) (n0 : Nat) (Z0 : n0 ≤ h0.size) (hge : n0 ≤ p2) (hne : p0 ≠ p2) (Vc : Arv Z h0 p0 kc .char (3 : Int32) [(.int x0), (.int x1), (.int x2)] (.int (0 : Int32))) (Vb : Arv Z h0 p2 kb .byte (3 : Int32) [(.int (0 : Int32)), (.int (0 : Int32)), (.int (0 : Int32))] (.int (0 : Int32))) (hr0 : own_r16 x0) (hr1 : own_r16 x1) (hr2 : own_r16 x2) : own_M l y15 jdk_52_method_21_code 7 (some .int) ws r_0_0_0_0 #[(.ref p0), (.int (0 : Int32)), (.ref p2), (.int (0 : Int32)), (.int (3 : Int32))] Z h0 (Q15_3 Z p0 p2 kc kb x0 x1 x2 h0 n0) := by
  refine W.bodyOf (Ls := #[.val (.ref p0), .val (.int (0 : Int32)), .val (.ref p2), .val (.int (0 : Int32)), .val (.int (3 : Int32)), .unset, .unset]) (plainFor_of_name pn_java_lang_StringUTF16) (fun m => by first | exact W.entry_of rfl) ?_
  intro p e s m below meth c T0 C X0 e0
  have N0 := Fr.nil n0
  have K0 := Keep.refl h0 [p2]
  refine W.iconst (q := 1) (v := 0) X0 C d15_0 rfl rfl ?_
  refine W.istore (q := 3) (L' := #[.val (.ref p0), .val (.int (0 : Int32)), .val (.ref p2), .val (.int (0 : Int32)), .val (.int (3 : Int32)), .val (.int (0 : Int32)), .unset]) X0 C d15_1 rfl rfl ?_
  refine W.iload (q := 5) X0 C d15_3 rfl rfl ?_
  refine W.iload (q := 7) X0 C d15_5 rfl rfl ?_
  refine W.icmpF (q := 10) X0 C d15_7 rfl (by decide : W.cF .ge (0 : Int32) (3 : Int32)) ?_
  refine W.aloadN (q := 11) X0 C d15_10 rfl rfl rfl ?_
  refine W.iloadN (q := 12) X0 C d15_11 rfl rfl ?_
  refine W.caload (q := 13) X0 C e0 Vc (by decide) (by decide) rfl d15_12 rfl ?_
  refine W.istore (q := 15) (L' := #[.val (.ref p0), .val (.int (0 : Int32)), .val (.ref p2), .val (.int (0 : Int32)), .val (.int (3 : Int32)), .val (.int (0 : Int32)), .val (.int x0)]) X0 C d15_13 rfl rfl ?_
  refine W.iload (q := 17) X0 C d15_15 rfl rfl ?_
  refine W.sipush (q := 20) (v := 255) X0 C d15_17 rfl rfl ?_
  refine W.icmp (q := 26) (q' := 23) X0 C d15_20 (by decide) (by decide) rfl (fun hc209 => ?_) (fun hc209 => ?_)
  · replace hc209 : x0.toInt ≤ (255 : Int32).toInt := hc209
    refine W.aloadN (q := 27) X0 C d15_26 rfl rfl rfl ?_
    refine W.iloadN (q := 28) X0 C d15_27 rfl rfl ?_
    refine W.iload (q := 30) X0 C d15_28 rfl rfl ?_
    refine W.i2b (q := 31) X0 C d15_30 rfl ?_
    refine W.bastore (q := 32) X0 C e0 Vb  (by decide) (by decide) (Nat.le_of_ble_eq_true rfl) d15_31 rfl (fun T210 h210 X210 e210 W210 V210_ => ?_)
    rw [own_bb x0] at V210_
    have Vc_212 := Vc.other W210 hne
    have V210 : Arv Z h210 p2 kb .byte (3 : Int32) [(.int (x0.toInt8.toInt32)), (.int (0 : Int32)), (.int (0 : Int32))] (.int (0 : Int32)) := V210_
    have N210 := Fr.snoc X210 N0 hge
    have K210 := K0.wr W210 (Or.inl (by simp))
    have n0_210 : n0 ≤ h210.size := by rw [W210.size]; exact Z0
    refine W.iinc (q := 35) (L' := #[.val (.ref p0), .val (.int (1 : Int32)), .val (.ref p2), .val (.int (0 : Int32)), .val (.int (3 : Int32)), .val (.int (0 : Int32)), .val (.int x0)]) X210 C d15_32 rfl (by decide) rfl rfl ?_
    refine W.iinc (q := 38) (L' := #[.val (.ref p0), .val (.int (1 : Int32)), .val (.ref p2), .val (.int (1 : Int32)), .val (.int (3 : Int32)), .val (.int (0 : Int32)), .val (.int x0)]) X210 C d15_35 rfl (by decide) rfl rfl ?_
    refine W.iinc (q := 41) (L' := #[.val (.ref p0), .val (.int (1 : Int32)), .val (.ref p2), .val (.int (1 : Int32)), .val (.int (3 : Int32)), .val (.int (1 : Int32)), .val (.int x0)]) X210 C d15_38 rfl (by decide) rfl rfl ?_
    refine W.goto (q := 3) X210 C d15_41 (by decide) (by decide) ?_
    refine W.iload (q := 5) X210 C d15_3 rfl rfl ?_
    refine W.iload (q := 7) X210 C d15_5 rfl rfl ?_
    refine W.icmpF (q := 10) X210 C d15_7 rfl (by decide : W.cF .ge (1 : Int32) (3 : Int32)) ?_
    refine W.aloadN (q := 11) X210 C d15_10 rfl rfl rfl ?_
    refine W.iloadN (q := 12) X210 C d15_11 rfl rfl ?_
    refine W.caload (q := 13) X210 C e210 Vc_212 (by decide) (by decide) rfl d15_12 rfl ?_
    refine W.istore (q := 15) (L' := #[.val (.ref p0), .val (.int (1 : Int32)), .val (.ref p2), .val (.int (1 : Int32)), .val (.int (3 : Int32)), .val (.int (1 : Int32)), .val (.int x1)]) X210 C d15_13 rfl rfl ?_
    refine W.iload (q := 17) X210 C d15_15 rfl rfl ?_
    refine W.sipush (q := 20) (v := 255) X210 C d15_17 rfl rfl ?_
    refine W.icmp (q := 26) (q' := 23) X210 C d15_20 (by decide) (by decide) rfl (fun hc214 => ?_) (fun hc214 => ?_)
    · replace hc214 : x1.toInt ≤ (255 : Int32).toInt := hc214
      refine W.aloadN (q := 27) X210 C d15_26 rfl rfl rfl ?_
      refine W.iloadN (q := 28) X210 C d15_27 rfl rfl ?_
      refine W.iload (q := 30) X210 C d15_28 rfl rfl ?_
      refine W.i2b (q := 31) X210 C d15_30 rfl ?_
      refine W.bastore (q := 32) X210 C e210 V210  (by decide) (by decide) (Nat.le_of_ble_eq_true rfl) d15_31 rfl (fun T215 h215 X215 e215 W215 V215_ => ?_)
      rw [own_bb x1] at V215_
      have Vc_217 := Vc_212.other W215 hne
      have V215 : Arv Z h215 p2 kb .byte (3 : Int32) [(.int (x0.toInt8.toInt32)), (.int (x1.toInt8.toInt32)), (.int (0 : Int32))] (.int (0 : Int32)) := V215_
      have N215 := Fr.snoc X215 N210 hge
      have K215 := K210.wr W215 (Or.inl (by simp))
      have n0_215 : n0 ≤ h215.size := by rw [W215.size]; exact n0_210
      refine W.iinc (q := 35) (L' := #[.val (.ref p0), .val (.int (2 : Int32)), .val (.ref p2), .val (.int (1 : Int32)), .val (.int (3 : Int32)), .val (.int (1 : Int32)), .val (.int x1)]) X215 C d15_32 rfl (by decide) rfl rfl ?_
      refine W.iinc (q := 38) (L' := #[.val (.ref p0), .val (.int (2 : Int32)), .val (.ref p2), .val (.int (2 : Int32)), .val (.int (3 : Int32)), .val (.int (1 : Int32)), .val (.int x1)]) X215 C d15_35 rfl (by decide) rfl rfl ?_
      refine W.iinc (q := 41) (L' := #[.val (.ref p0), .val (.int (2 : Int32)), .val (.ref p2), .val (.int (2 : Int32)), .val (.int (3 : Int32)), .val (.int (2 : Int32)), .val (.int x1)]) X215 C d15_38 rfl (by decide) rfl rfl ?_
      refine W.goto (q := 3) X215 C d15_41 (by decide) (by decide) ?_
      refine W.iload (q := 5) X215 C d15_3 rfl rfl ?_
      refine W.iload (q := 7) X215 C d15_5 rfl rfl ?_
      refine W.icmpF (q := 10) X215 C d15_7 rfl (by decide : W.cF .ge (2 : Int32) (3 : Int32)) ?_
      refine W.aloadN (q := 11) X215 C d15_10 rfl rfl rfl ?_
      refine W.iloadN (q := 12) X215 C d15_11 rfl rfl ?_
      refine W.caload (q := 13) X215 C e215 Vc_217 (by decide) (by decide) rfl d15_12 rfl ?_
      refine W.istore (q := 15) (L' := #[.val (.ref p0), .val (.int (2 : Int32)), .val (.ref p2), .val (.int (2 : Int32)), .val (.int (3 : Int32)), .val (.int (2 : Int32)), .val (.int x2)]) X215 C d15_13 rfl rfl ?_
      refine W.iload (q := 17) X215 C d15_15 rfl rfl ?_
      refine W.sipush (q := 20) (v := 255) X215 C d15_17 rfl rfl ?_
      refine W.icmp (q := 26) (q' := 23) X215 C d15_20 (by decide) (by decide) rfl (fun hc219 => ?_) (fun hc219 => ?_)
      · replace hc219 : x2.toInt ≤ (255 : Int32).toInt := hc219
        refine W.aloadN (q := 27) X215 C d15_26 rfl rfl rfl ?_
        refine W.iloadN (q := 28) X215 C d15_27 rfl rfl ?_
        refine W.iload (q := 30) X215 C d15_28 rfl rfl ?_
        refine W.i2b (q := 31) X215 C d15_30 rfl ?_
        refine W.bastore (q := 32) X215 C e215 V215  (by decide) (by decide) (Nat.le_of_ble_eq_true rfl) d15_31 rfl (fun T220 h220 X220 e220 W220 V220_ => ?_)
        rw [own_bb x2] at V220_
        have Vc_222 := Vc_217.other W220 hne
        have V220 : Arv Z h220 p2 kb .byte (3 : Int32) [(.int (x0.toInt8.toInt32)), (.int (x1.toInt8.toInt32)), (.int (x2.toInt8.toInt32))] (.int (0 : Int32)) := V220_
        have N220 := Fr.snoc X220 N215 hge
        have K220 := K215.wr W220 (Or.inl (by simp))
        have n0_220 : n0 ≤ h220.size := by rw [W220.size]; exact n0_215
        refine W.iinc (q := 35) (L' := #[.val (.ref p0), .val (.int (3 : Int32)), .val (.ref p2), .val (.int (2 : Int32)), .val (.int (3 : Int32)), .val (.int (2 : Int32)), .val (.int x2)]) X220 C d15_32 rfl (by decide) rfl rfl ?_
        refine W.iinc (q := 38) (L' := #[.val (.ref p0), .val (.int (3 : Int32)), .val (.ref p2), .val (.int (3 : Int32)), .val (.int (3 : Int32)), .val (.int (2 : Int32)), .val (.int x2)]) X220 C d15_35 rfl (by decide) rfl rfl ?_
        refine W.iinc (q := 41) (L' := #[.val (.ref p0), .val (.int (3 : Int32)), .val (.ref p2), .val (.int (3 : Int32)), .val (.int (3 : Int32)), .val (.int (3 : Int32)), .val (.int x2)]) X220 C d15_38 rfl (by decide) rfl rfl ?_
        refine W.goto (q := 3) X220 C d15_41 (by decide) (by decide) ?_
        refine W.iload (q := 5) X220 C d15_3 rfl rfl ?_
        refine W.iload (q := 7) X220 C d15_5 rfl rfl ?_
        refine W.icmpT (q := 44) X220 C d15_7 (by decide) (by decide) (by decide : W.cT .ge (3 : Int32) (3 : Int32)) ?_
        refine W.iload (q := 46) X220 C d15_44 rfl rfl ?_
        exact W.retI X220 C e220 d15_46 (by decide) (by decide) ⟨N220, K220, Or.inl ⟨rfl, own_16_8 hr0 hc209, own_16_8 hr1 hc214, own_16_8 hr2 hc219, V220⟩⟩
      · replace hc219 : (255 : Int32).toInt < x2.toInt := hc219
        refine W.iload (q := 25) X215 C d15_23 rfl rfl ?_
        exact W.retI X215 C e215 d15_25 (by decide) (by decide) ⟨N215, K215, Or.inr (Or.inr (Or.inr (⟨rfl, hc219⟩)))⟩
    · replace hc214 : (255 : Int32).toInt < x1.toInt := hc214
      refine W.iload (q := 25) X210 C d15_23 rfl rfl ?_
      exact W.retI X210 C e210 d15_25 (by decide) (by decide) ⟨N210, K210, Or.inr (Or.inr (Or.inl ⟨rfl, hc214⟩))⟩
  · replace hc209 : (255 : Int32).toInt < x0.toInt := hc209
    refine W.iload (q := 25) X0 C d15_23 rfl rfl ?_
    exact W.retI X0 C e0 d15_25 (by decide) (by decide) ⟨N0, K0, Or.inr (Or.inl ⟨rfl, hc209⟩)⟩
def Q15_4 (Z : State) (p0 p2 : Addr) (kc kb : ClassId) (x0 x1 x2 x3 : Int32) (h0 : Heap) (n0 : Nat) (v : Option Value) (h : Heap) (L : List Loc) : Prop := Fr n0 L ∧ Keep h0 h [p2] ∧ ((v = some (.int (4 : Int32)) ∧ own_r8 x0 ∧ own_r8 x1 ∧ own_r8 x2 ∧ own_r8 x3 ∧ Arv Z h p2 kb .byte (4 : Int32) [(.int (x0.toInt8.toInt32)), (.int (x1.toInt8.toInt32)), (.int (x2.toInt8.toInt32)), (.int (x3.toInt8.toInt32))] (.int (0 : Int32))) ∨ (v = some (.int (0 : Int32)) ∧ (255 : Int32).toInt < x0.toInt) ∨ (v = some (.int (1 : Int32)) ∧ (255 : Int32).toInt < x1.toInt) ∨ (v = some (.int (2 : Int32)) ∧ (255 : Int32).toInt < x2.toInt) ∨ (v = some (.int (3 : Int32)) ∧ (255 : Int32).toInt < x3.toInt))
theorem rm15_4 (l : Launch) (Z : State) (a0 : Array Value) (hw : own_HW a0 Z) (ws : List Jvm.Cond) (p0 p2 : Addr) (kc kb : ClassId) (x0 x1 x2 x3 : Int32) (h0 : Heap) (n0 : Nat) (Z0 : n0 ≤ h0.size) (hge : n0 ≤ p2) (hne : p0 ≠ p2) (Vc : Arv Z h0 p0 kc .char (4 : Int32) [(.int x0), (.int x1), (.int x2), (.int x3)] (.int (0 : Int32))) (Vb : Arv Z h0 p2 kb .byte (4 : Int32) [(.int (0 : Int32)), (.int (0 : Int32)), (.int (0 : Int32)), (.int (0 : Int32))] (.int (0 : Int32))) (hr0 : own_r16 x0) (hr1 : own_r16 x1) (hr2 : own_r16 x2) (hr3 : own_r16 x3) : own_M l y15 jdk_52_method_21_code 7 (some .int) ws r_0_0_0_0 #[(.ref p0), (.int (0 : Int32)), (.ref p2), (.int (0 : Int32)), (.int (4 : Int32))] Z h0 (Q15_4 Z p0 p2 kc kb x0 x1 x2 x3 h0 n0) := by
  refine W.bodyOf (Ls := #[.val (.ref p0), .val (.int (0 : Int32)), .val (.ref p2), .val (.int (0 : Int32)), .val (.int (4 : Int32)), .unset, .unset]) (plainFor_of_name pn_java_lang_StringUTF16) (fun m => by first | exact W.entry_of rfl) ?_
  intro p e s m below meth c T0 C X0 e0
  have N0 := Fr.nil n0
  have K0 := Keep.refl h0 [p2]
  refine W.iconst (q := 1) (v := 0) X0 C d15_0 rfl rfl ?_
  refine W.istore (q := 3) (L' := #[.val (.ref p0), .val (.int (0 : Int32)), .val (.ref p2), .val (.int (0 : Int32)), .val (.int (4 : Int32)), .val (.int (0 : Int32)), .unset]) X0 C d15_1 rfl rfl ?_
  refine W.iload (q := 5) X0 C d15_3 rfl rfl ?_
  refine W.iload (q := 7) X0 C d15_5 rfl rfl ?_
  refine W.icmpF (q := 10) X0 C d15_7 rfl (by decide : W.cF .ge (0 : Int32) (4 : Int32)) ?_
  refine W.aloadN (q := 11) X0 C d15_10 rfl rfl rfl ?_
  refine W.iloadN (q := 12) X0 C d15_11 rfl rfl ?_
  refine W.caload (q := 13) X0 C e0 Vc (by decide) (by decide) rfl d15_12 rfl ?_
  refine W.istore (q := 15) (L' := #[.val (.ref p0), .val (.int (0 : Int32)), .val (.ref p2), .val (.int (0 : Int32)), .val (.int (4 : Int32)), .val (.int (0 : Int32)), .val (.int x0)]) X0 C d15_13 rfl rfl ?_
  refine W.iload (q := 17) X0 C d15_15 rfl rfl ?_
  refine W.sipush (q := 20) (v := 255) X0 C d15_17 rfl rfl ?_
  refine W.icmp (q := 26) (q' := 23) X0 C d15_20 (by decide) (by decide) rfl (fun hc224 => ?_) (fun hc224 => ?_)
  · replace hc224 : x0.toInt ≤ (255 : Int32).toInt := hc224
    refine W.aloadN (q := 27) X0 C d15_26 rfl rfl rfl ?_
    refine W.iloadN (q := 28) X0 C d15_27 rfl rfl ?_
    refine W.iload (q := 30) X0 C d15_28 rfl rfl ?_
    refine W.i2b (q := 31) X0 C d15_30 rfl ?_
    refine W.bastore (q := 32) X0 C e0 Vb  (by decide) (by decide) (Nat.le_of_ble_eq_true rfl) d15_31 rfl (fun T225 h225 X225 e225 W225 V225_ => ?_)
    rw [own_bb x0] at V225_
    have Vc_227 := Vc.other W225 hne
    have V225 : Arv Z h225 p2 kb .byte (4 : Int32) [(.int (x0.toInt8.toInt32)), (.int (0 : Int32)), (.int (0 : Int32)), (.int (0 : Int32))] (.int (0 : Int32)) := V225_
    have N225 := Fr.snoc X225 N0 hge
    have K225 := K0.wr W225 (Or.inl (by simp))
    have n0_225 : n0 ≤ h225.size := by rw [W225.size]; exact Z0
    refine W.iinc (q := 35) (L' := #[.val (.ref p0), .val (.int (1 : Int32)), .val (.ref p2), .val (.int (0 : Int32)), .val (.int (4 : Int32)), .val (.int (0 : Int32)), .val (.int x0)]) X225 C d15_32 rfl (by decide) rfl rfl ?_
    refine W.iinc (q := 38) (L' := #[.val (.ref p0), .val (.int (1 : Int32)), .val (.ref p2), .val (.int (1 : Int32)), .val (.int (4 : Int32)), .val (.int (0 : Int32)), .val (.int x0)]) X225 C d15_35 rfl (by decide) rfl rfl ?_
    refine W.iinc (q := 41) (L' := #[.val (.ref p0), .val (.int (1 : Int32)), .val (.ref p2), .val (.int (1 : Int32)), .val (.int (4 : Int32)), .val (.int (1 : Int32)), .val (.int x0)]) X225 C d15_38 rfl (by decide) rfl rfl ?_
    refine W.goto (q := 3) X225 C d15_41 (by decide) (by decide) ?_
    refine W.iload (q := 5) X225 C d15_3 rfl rfl ?_
    refine W.iload (q := 7) X225 C d15_5 rfl rfl ?_
    refine W.icmpF (q := 10) X225 C d15_7 rfl (by decide : W.cF .ge (1 : Int32) (4 : Int32)) ?_
    refine W.aloadN (q := 11) X225 C d15_10 rfl rfl rfl ?_
    refine W.iloadN (q := 12) X225 C d15_11 rfl rfl ?_
    refine W.caload (q := 13) X225 C e225 Vc_227 (by decide) (by decide) rfl d15_12 rfl ?_
    refine W.istore (q := 15) (L' := #[.val (.ref p0), .val (.int (1 : Int32)), .val (.ref p2), .val (.int (1 : Int32)), .val (.int (4 : Int32)), .val (.int (1 : Int32)), .val (.int x1)]) X225 C d15_13 rfl rfl ?_
    refine W.iload (q := 17) X225 C d15_15 rfl rfl ?_
    refine W.sipush (q := 20) (v := 255) X225 C d15_17 rfl rfl ?_
    refine W.icmp (q := 26) (q' := 23) X225 C d15_20 (by decide) (by decide) rfl (fun hc229 => ?_) (fun hc229 => ?_)
    · replace hc229 : x1.toInt ≤ (255 : Int32).toInt := hc229
      refine W.aloadN (q := 27) X225 C d15_26 rfl rfl rfl ?_
      refine W.iloadN (q := 28) X225 C d15_27 rfl rfl ?_
      refine W.iload (q := 30) X225 C d15_28 rfl rfl ?_
      refine W.i2b (q := 31) X225 C d15_30 rfl ?_
      refine W.bastore (q := 32) X225 C e225 V225  (by decide) (by decide) (Nat.le_of_ble_eq_true rfl) d15_31 rfl (fun T230 h230 X230 e230 W230 V230_ => ?_)
      rw [own_bb x1] at V230_
      have Vc_232 := Vc_227.other W230 hne
      have V230 : Arv Z h230 p2 kb .byte (4 : Int32) [(.int (x0.toInt8.toInt32)), (.int (x1.toInt8.toInt32)), (.int (0 : Int32)), (.int (0 : Int32))] (.int (0 : Int32)) := V230_
      have N230 := Fr.snoc X230 N225 hge
      have K230 := K225.wr W230 (Or.inl (by simp))
      have n0_230 : n0 ≤ h230.size := by rw [W230.size]; exact n0_225
      refine W.iinc (q := 35) (L' := #[.val (.ref p0), .val (.int (2 : Int32)), .val (.ref p2), .val (.int (1 : Int32)), .val (.int (4 : Int32)), .val (.int (1 : Int32)), .val (.int x1)]) X230 C d15_32 rfl (by decide) rfl rfl ?_
      refine W.iinc (q := 38) (L' := #[.val (.ref p0), .val (.int (2 : Int32)), .val (.ref p2), .val (.int (2 : Int32)), .val (.int (4 : Int32)), .val (.int (1 : Int32)), .val (.int x1)]) X230 C d15_35 rfl (by decide) rfl rfl ?_
      refine W.iinc (q := 41) (L' := #[.val (.ref p0), .val (.int (2 : Int32)), .val (.ref p2), .val (.int (2 : Int32)), .val (.int (4 : Int32)), .val (.int (2 : Int32)), .val (.int x1)]) X230 C d15_38 rfl (by decide) rfl rfl ?_
      refine W.goto (q := 3) X230 C d15_41 (by decide) (by decide) ?_
      refine W.iload (q := 5) X230 C d15_3 rfl rfl ?_
      refine W.iload (q := 7) X230 C d15_5 rfl rfl ?_
      refine W.icmpF (q := 10) X230 C d15_7 rfl (by decide : W.cF .ge (2 : Int32) (4 : Int32)) ?_
      refine W.aloadN (q := 11) X230 C d15_10 rfl rfl rfl ?_
      refine W.iloadN (q := 12) X230 C d15_11 rfl rfl ?_
      refine W.caload (q := 13) X230 C e230 Vc_232 (by decide) (by decide) rfl d15_12 rfl ?_
      refine W.istore (q := 15) (L' := #[.val (.ref p0), .val (.int (2 : Int32)), .val (.ref p2), .val (.int (2 : Int32)), .val (.int (4 : Int32)), .val (.int (2 : Int32)), .val (.int x2)]) X230 C d15_13 rfl rfl ?_
      refine W.iload (q := 17) X230 C d15_15 rfl rfl ?_
      refine W.sipush (q := 20) (v := 255) X230 C d15_17 rfl rfl ?_
      refine W.icmp (q := 26) (q' := 23) X230 C d15_20 (by decide) (by decide) rfl (fun hc234 => ?_) (fun hc234 => ?_)
      · replace hc234 : x2.toInt ≤ (255 : Int32).toInt := hc234
        refine W.aloadN (q := 27) X230 C d15_26 rfl rfl rfl ?_
        refine W.iloadN (q := 28) X230 C d15_27 rfl rfl ?_
        refine W.iload (q := 30) X230 C d15_28 rfl rfl ?_
        refine W.i2b (q := 31) X230 C d15_30 rfl ?_
        refine W.bastore (q := 32) X230 C e230 V230  (by decide) (by decide) (Nat.le_of_ble_eq_true rfl) d15_31 rfl (fun T235 h235 X235 e235 W235 V235_ => ?_)
        rw [own_bb x2] at V235_
        have Vc_237 := Vc_232.other W235 hne
        have V235 : Arv Z h235 p2 kb .byte (4 : Int32) [(.int (x0.toInt8.toInt32)), (.int (x1.toInt8.toInt32)), (.int (x2.toInt8.toInt32)), (.int (0 : Int32))] (.int (0 : Int32)) := V235_
        have N235 := Fr.snoc X235 N230 hge
        have K235 := K230.wr W235 (Or.inl (by simp))
        have n0_235 : n0 ≤ h235.size := by rw [W235.size]; exact n0_230
        refine W.iinc (q := 35) (L' := #[.val (.ref p0), .val (.int (3 : Int32)), .val (.ref p2), .val (.int (2 : Int32)), .val (.int (4 : Int32)), .val (.int (2 : Int32)), .val (.int x2)]) X235 C d15_32 rfl (by decide) rfl rfl ?_
        refine W.iinc (q := 38) (L' := #[.val (.ref p0), .val (.int (3 : Int32)), .val (.ref p2), .val (.int (3 : Int32)), .val (.int (4 : Int32)), .val (.int (2 : Int32)), .val (.int x2)]) X235 C d15_35 rfl (by decide) rfl rfl ?_
        refine W.iinc (q := 41) (L' := #[.val (.ref p0), .val (.int (3 : Int32)), .val (.ref p2), .val (.int (3 : Int32)), .val (.int (4 : Int32)), .val (.int (3 : Int32)), .val (.int x2)]) X235 C d15_38 rfl (by decide) rfl rfl ?_
        refine W.goto (q := 3) X235 C d15_41 (by decide) (by decide) ?_
        refine W.iload (q := 5) X235 C d15_3 rfl rfl ?_
        refine W.iload (q := 7) X235 C d15_5 rfl rfl ?_
        refine W.icmpF (q := 10) X235 C d15_7 rfl (by decide : W.cF .ge (3 : Int32) (4 : Int32)) ?_
        refine W.aloadN (q := 11) X235 C d15_10 rfl rfl rfl ?_
        refine W.iloadN (q := 12) X235 C d15_11 rfl rfl ?_
        refine W.caload (q := 13) X235 C e235 Vc_237 (by decide) (by decide) rfl d15_12 rfl ?_
        refine W.istore (q := 15) (L' := #[.val (.ref p0), .val (.int (3 : Int32)), .val (.ref p2), .val (.int (3 : Int32)), .val (.int (4 : Int32)), .val (.int (3 : Int32)), .val (.int x3)]) X235 C d15_13 rfl rfl ?_
        refine W.iload (q := 17) X235 C d15_15 rfl rfl ?_
        refine W.sipush (q := 20) (v := 255) X235 C d15_17 rfl rfl ?_
        refine W.icmp (q := 26) (q' := 23) X235 C d15_20 (by decide) (by decide) rfl (fun hc239 => ?_) (fun hc239 => ?_)
        · replace hc239 : x3.toInt ≤ (255 : Int32).toInt := hc239
          refine W.aloadN (q := 27) X235 C d15_26 rfl rfl rfl ?_
          refine W.iloadN (q := 28) X235 C d15_27 rfl rfl ?_
          refine W.iload (q := 30) X235 C d15_28 rfl rfl ?_
          refine W.i2b (q := 31) X235 C d15_30 rfl ?_
          refine W.bastore (q := 32) X235 C e235 V235  (by decide) (by decide) (Nat.le_of_ble_eq_true rfl) d15_31 rfl (fun T240 h240 X240 e240 W240 V240_ => ?_)
          rw [own_bb x3] at V240_
          have Vc_242 := Vc_237.other W240 hne
          have V240 : Arv Z h240 p2 kb .byte (4 : Int32) [(.int (x0.toInt8.toInt32)), (.int (x1.toInt8.toInt32)), (.int (x2.toInt8.toInt32)), (.int (x3.toInt8.toInt32))] (.int (0 : Int32)) := V240_
          have N240 := Fr.snoc X240 N235 hge
          have K240 := K235.wr W240 (Or.inl (by simp))
          have n0_240 : n0 ≤ h240.size := by rw [W240.size]; exact n0_235
          refine W.iinc (q := 35) (L' := #[.val (.ref p0), .val (.int (4 : Int32)), .val (.ref p2), .val (.int (3 : Int32)), .val (.int (4 : Int32)), .val (.int (3 : Int32)), .val (.int x3)]) X240 C d15_32 rfl (by decide) rfl rfl ?_
          refine W.iinc (q := 38) (L' := #[.val (.ref p0), .val (.int (4 : Int32)), .val (.ref p2), .val (.int (4 : Int32)), .val (.int (4 : Int32)), .val (.int (3 : Int32)), .val (.int x3)]) X240 C d15_35 rfl (by decide) rfl rfl ?_
          refine W.iinc (q := 41) (L' := #[.val (.ref p0), .val (.int (4 : Int32)), .val (.ref p2), .val (.int (4 : Int32)), .val (.int (4 : Int32)), .val (.int (4 : Int32)), .val (.int x3)]) X240 C d15_38 rfl (by decide) rfl rfl ?_
          refine W.goto (q := 3) X240 C d15_41 (by decide) (by decide) ?_
          refine W.iload (q := 5) X240 C d15_3 rfl rfl ?_
          refine W.iload (q := 7) X240 C d15_5 rfl rfl ?_
          refine W.icmpT (q := 44) X240 C d15_7 (by decide) (by decide) (by decide : W.cT .ge (4 : Int32) (4 : Int32)) ?_
          refine W.iload (q := 46) X240 C d15_44 rfl rfl ?_
          exact W.retI X240 C e240 d15_46 (by decide) (by decide) ⟨N240, K240, Or.inl ⟨rfl, own_16_8 hr0 hc224, own_16_8 hr1 hc229, own_16_8 hr2 hc234, own_16_8 hr3 hc239, V240⟩⟩
        · replace hc239 : (255 : Int32).toInt < x3.toInt := hc239
          refine W.iload (q := 25) X235 C d15_23 rfl rfl ?_
          exact W.retI X235 C e235 d15_25 (by decide) (by decide) ⟨N235, K235, Or.inr (Or.inr (Or.inr (Or.inr (⟨rfl, hc239⟩))))⟩
      · replace hc234 : (255 : Int32).toInt < x2.toInt := hc234
        refine W.iload (q := 25) X230 C d15_23 rfl rfl ?_
        exact W.retI X230 C e230 d15_25 (by decide) (by decide) ⟨N230, K230, Or.inr (Or.inr (Or.inr (Or.inl ⟨rfl, hc234⟩)))⟩
    · replace hc229 : (255 : Int32).toInt < x1.toInt := hc229
      refine W.iload (q := 25) X225 C d15_23 rfl rfl ?_
      exact W.retI X225 C e225 d15_25 (by decide) (by decide) ⟨N225, K225, Or.inr (Or.inr (Or.inl ⟨rfl, hc229⟩))⟩
  · replace hc224 : (255 : Int32).toInt < x0.toInt := hc224
    refine W.iload (q := 25) X0 C d15_23 rfl rfl ?_
    exact W.retI X0 C e0 d15_25 (by decide) (by decide) ⟨N0, K0, Or.inr (Or.inl ⟨rfl, hc224⟩)⟩
theorem d20_0 : decode jdk_52_method_3_code 0 = .ok (.iload_n 0, 1) := by decide +kernel
theorem d20_1 : decode jdk_52_method_3_code 1 = .ok (.ifCond .ge 11, 3) := by decide +kernel
theorem d20_12 : decode jdk_52_method_3_code 12 = .ok (.iload_n 0, 1) := by decide +kernel
theorem d20_13 : decode jdk_52_method_3_code 13 = .ok (.ldc 20, 2) := by decide +kernel
theorem d20_15 : decode jdk_52_method_3_code 15 = .ok (.if_icmp .lt 40, 3) := by decide +kernel
theorem d20_55 : decode jdk_52_method_3_code 55 = .ok (.iload_n 0, 1) := by decide +kernel
theorem d20_56 : decode jdk_52_method_3_code 56 = .ok (.iconst 1, 1) := by decide +kernel
theorem d20_57 : decode jdk_52_method_3_code 57 = .ok (.ishl, 1) := by decide +kernel
theorem d20_58 : decode jdk_52_method_3_code 58 = .ok (.ireturn, 1) := by decide +kernel
abbrev y20 : MethodName := ⟨"java/lang/StringUTF16", "newBytesLength", "(I)I"⟩
def Q20_1 (Z : State) (u0 : Int32) (h0 : Heap) (n0 : Nat) (v : Option Value) (h : Heap) (L : List Loc) : Prop := v = some (.int (2 : Int32)) ∧ Fr n0 L ∧ h = h0
theorem rm20_1 (l : Launch) (Z : State) (a0 : Array Value) (hw : own_HW a0 Z) (ws : List Jvm.Cond) (u0 : Int32) (h0 : Heap) (n0 : Nat) : own_M l y20 jdk_52_method_3_code 1 (some .int) ws r_0_0_0_0 #[(.int (1 : Int32))] Z h0 (Q20_1 Z u0 h0 n0) := by
  refine W.bodyOf (Ls := #[.val (.int (1 : Int32))]) (plainFor_of_name pn_java_lang_StringUTF16) (fun m => by first | exact W.entry_of rfl) ?_
  intro p e s m below meth c T0 C X0 e0
  have N0 := Fr.nil n0
  refine W.iloadN (q := 1) X0 C d20_0 rfl rfl ?_
  refine W.ifT (q := 12) X0 C d20_1 (by decide) (by decide) (by decide : W.cT .ge (1 : Int32) 0) ?_
  refine W.iloadN (q := 13) X0 C d20_12 rfl rfl ?_
  refine W.ldcI (q := 15) X0 C (W.ww hw 87 rfl) d20_13 rfl ?_
  refine W.icmpT (q := 55) X0 C d20_15 (by decide) (by decide) (by decide : W.cT .lt (1 : Int32) (1073741823 : Int32)) ?_
  refine W.iloadN (q := 56) X0 C d20_55 rfl rfl ?_
  refine W.iconst (q := 57) (v := 1) X0 C d20_56 rfl rfl ?_
  refine W.ishl (q := 58) X0 C d20_57 rfl ?_
  rw [show ((1 : Int32) <<< ((1 : Int32) &&& 31)) = (2 : Int32) by decide]
  exact W.retI X0 C e0 d20_58 (by decide) (by decide) ⟨rfl, N0, rfl⟩
theorem d19_0 : decode jdk_52_method_2_code 0 = .ok (.iload_n 0, 1) := by decide +kernel
theorem d19_1 : decode jdk_52_method_2_code 1 = .ok (.invokestatic 11, 3) := by decide +kernel
theorem pd__28I_29I : parseMethodDescriptor "(I)I" = some ⟨[.int], some .int⟩ := by decide +kernel
theorem d19_4 : decode jdk_52_method_2_code 4 = .ok (.newarray .byte, 2) := by decide +kernel
theorem d19_6 : decode jdk_52_method_2_code 6 = .ok (.areturn, 1) := by decide +kernel
abbrev y19 : MethodName := ⟨"java/lang/StringUTF16", "newBytesFor", "(I)[B"⟩
abbrev r_1_1_8_16 : Room := { frames := 1, cells := 1, slots := 8, locals := 16 }
def Q19_1 (Z : State) (u0 : Int32) (h0 : Heap) (n0 : Nat) (v : Option Value) (h : Heap) (L : List Loc) : Prop := ∃ b kb, v = some (.ref b) ∧ Fr n0 L ∧ Keep h0 h [] ∧ h0.size ≤ b ∧ Arv Z h b kb .byte (2 : Int32) [(.int (0 : Int32)), (.int (0 : Int32))] (.int (0 : Int32))
theorem rm19_1 (l : Launch) (Z : State) (a0 : Array Value) (hw : own_HW a0 Z) (ws : List Jvm.Cond) (u0 : Int32) (h0 : Heap) (n0 : Nat) (Z0 : n0 ≤ h0.size) : own_M l y19 jdk_52_method_2_code 1 (some (.array .byte)) ws r_1_1_8_16 #[(.int (1 : Int32))] Z h0 (Q19_1 Z u0 h0 n0) := by
  refine W.bodyOf (Ls := #[.val (.int (1 : Int32))]) (plainFor_of_name pn_java_lang_StringUTF16) (fun m => by first | exact W.entry_of rfl) ?_
  intro p e s m below meth c T0 C X0 e0
  have N0 := Fr.nil n0
  have K0 := Keep.refl h0 []
  refine W.iloadN (q := 1) X0 C d19_0 rfl rfl ?_
  refine W.callS (q := 4) X0 C (W.ww hw 84 rfl) (W.ww hw 85 rfl) (W.ww hw 67 rfl) (W.ww hw 86 rfl) (by decide) (rm20_1 l Z a0 hw [] 0 h0 n0) e0 d19_1 [(.int (1 : Int32))] [] rfl rfl pd__28I_29I rfl rfl (by decide) (Nat.le_of_ble_eq_true rfl) (by decide) (by decide) rfl (fun T244 w244 L244 X244 hQ244 => ?_)
  obtain ⟨rfl, NL244, e244⟩ := hQ244
  have N244 := Fr.app N0 NL244
  show W.Go p e below _ (T244.setTop (mkF m 4 #[.val (.int (1 : Int32))] [(.int (2 : Int32))]))
  refine W.newarray (q := 6) X244 C (W.ww hw 15 rfl) e244 (by decide) 2 (by decide) (by decide) d19_4 (by decide) (by decide) rfl (fun T245 h245 b245 k245 X245 e245 g245 E245 V245_ => ?_)
  have ge_b245 : n0 ≤ b245 := by rw [g245]; exact Z0
  have sz_b245 : h0.size ≤ b245 := by rw [g245]; exact K0.1
  have n0_245 : n0 ≤ h245.size := Nat.le_trans Z0 E245.1
  have K245 := K0.ext E245
  have V245 : Arv Z h245 b245 k245 .byte (2 : Int32) [(.int (0 : Int32)), (.int (0 : Int32))] (.int (0 : Int32)) := V245_
  exact W.retA X245 C rfl e245 rfl d19_6 (by decide) (by decide) ⟨_, _, rfl, N244, K245, sz_b245, V245⟩
theorem d21_0 : decode jdk_52_method_4_code 0 = .ok (.getstatic 44, 3) := by decide +kernel
theorem d21_3 : decode jdk_52_method_4_code 3 = .ok (.ifCond .ne 25, 3) := by decide +kernel
theorem d21_28 : decode jdk_52_method_4_code 28 = .ok (.iload_n 1, 1) := by decide +kernel
theorem d21_29 : decode jdk_52_method_4_code 29 = .ok (.iconst 1, 1) := by decide +kernel
theorem d21_30 : decode jdk_52_method_4_code 30 = .ok (.ishl, 1) := by decide +kernel
theorem d21_31 : decode jdk_52_method_4_code 31 = .ok (.istore_n 1, 1) := by decide +kernel
theorem d21_32 : decode jdk_52_method_4_code 32 = .ok (.aload_n 0, 1) := by decide +kernel
theorem d21_33 : decode jdk_52_method_4_code 33 = .ok (.iload_n 1, 1) := by decide +kernel
theorem d21_34 : decode jdk_52_method_4_code 34 = .ok (.iinc 1 1, 3) := by decide +kernel
theorem d21_37 : decode jdk_52_method_4_code 37 = .ok (.iload_n 2, 1) := by decide +kernel
theorem d21_38 : decode jdk_52_method_4_code 38 = .ok (.getstatic 59, 3) := by decide +kernel
theorem d21_41 : decode jdk_52_method_4_code 41 = .ok (.ishr, 1) := by decide +kernel
theorem d21_42 : decode jdk_52_method_4_code 42 = .ok (.i2b, 1) := by decide +kernel
theorem d21_43 : decode jdk_52_method_4_code 43 = .ok (.bastore, 1) := by decide +kernel
theorem d21_44 : decode jdk_52_method_4_code 44 = .ok (.aload_n 0, 1) := by decide +kernel
theorem d21_45 : decode jdk_52_method_4_code 45 = .ok (.iload_n 1, 1) := by decide +kernel
theorem d21_46 : decode jdk_52_method_4_code 46 = .ok (.iload_n 2, 1) := by decide +kernel
theorem d21_47 : decode jdk_52_method_4_code 47 = .ok (.getstatic 63, 3) := by decide +kernel
theorem d21_50 : decode jdk_52_method_4_code 50 = .ok (.ishr, 1) := by decide +kernel
theorem d21_51 : decode jdk_52_method_4_code 51 = .ok (.i2b, 1) := by decide +kernel
theorem d21_52 : decode jdk_52_method_4_code 52 = .ok (.bastore, 1) := by decide +kernel
theorem d21_53 : decode jdk_52_method_4_code 53 = .ok (.return_, 1) := by decide +kernel
abbrev y21 : MethodName := ⟨"java/lang/StringUTF16", "putChar", "([BII)V"⟩
def Q21_1_0 (Z : State) (p0 : Addr) (kb : ClassId) (y0 y1 p2 : Int32) (h0 : Heap) (n0 : Nat) (v : Option Value) (h : Heap) (L : List Loc) : Prop := v = none ∧ Fr n0 L ∧ Keep h0 h [p0] ∧ Arv Z h p0 kb .byte (2 : Int32) [(.int (own_hb p2)), (.int (own_lb p2))] (.int (0 : Int32))
theorem rm21_1_0 (l : Launch) (Z : State) (a0 : Array Value) (hw : own_HW a0 Z) (ws : List Jvm.Cond) (p0 : Addr) (kb : ClassId) (y0 y1 p2 : Int32) (h0 : Heap) (n0 : Nat) (Z0 : n0 ≤ h0.size) (hge : n0 ≤ p0) (V0 : Arv Z h0 p0 kb .byte (2 : Int32) [(.int y0), (.int y1)] (.int (0 : Int32))) (SA : Sta Z h0 "java/lang/StringUTF16" "$assertionsDisabled" "Z" (.int (1 : Int32))) (SH : Sta Z h0 "java/lang/StringUTF16" "HI_BYTE_SHIFT" "I" (.int (0 : Int32))) (SL : Sta Z h0 "java/lang/StringUTF16" "LO_BYTE_SHIFT" "I" (.int (8 : Int32))) : own_M l y21 jdk_52_method_4_code 3 none ws r_0_0_0_0 #[(.ref p0), (.int (0 : Int32)), (.int p2)] Z h0 (Q21_1_0 Z p0 kb y0 y1 p2 h0 n0) := by
  refine W.bodyOf (Ls := #[.val (.ref p0), .val (.int (0 : Int32)), .val (.int p2)]) (plainFor_of_name pn_java_lang_StringUTF16) (fun m => by first | exact W.entry_of rfl) ?_
  intro p e s m below meth c T0 C X0 e0
  have N0 := Fr.nil n0
  have K0 := Keep.refl h0 [p0]
  refine W.getS (q := 3) X0 C (W.ww hw 91 rfl) Via.refl e0 SA d21_0 rfl (fun T247 X247 e247 => ?_)
  refine W.ifT (q := 28) X247 C d21_3 (by decide) (by decide) (by decide : W.cT .ne (1 : Int32) 0) ?_
  refine W.iloadN (q := 29) X247 C d21_28 rfl rfl ?_
  refine W.iconst (q := 30) (v := 1) X247 C d21_29 rfl rfl ?_
  refine W.ishl (q := 31) X247 C d21_30 rfl ?_
  rw [show ((0 : Int32) <<< ((1 : Int32) &&& 31)) = (0 : Int32) by decide]
  refine W.istoreN (q := 32) (L' := #[.val (.ref p0), .val (.int (0 : Int32)), .val (.int p2)]) X247 C d21_31 rfl rfl ?_
  refine W.aloadN (q := 33) X247 C d21_32 rfl rfl rfl ?_
  refine W.iloadN (q := 34) X247 C d21_33 rfl rfl ?_
  refine W.iinc (q := 37) (L' := #[.val (.ref p0), .val (.int (1 : Int32)), .val (.int p2)]) X247 C d21_34 rfl (by decide) rfl rfl ?_
  refine W.iloadN (q := 38) X247 C d21_37 rfl rfl ?_
  refine W.getS (q := 41) X247 C (W.ww hw 92 rfl) Via.refl e247 SH d21_38 rfl (fun T248 X248 e248 => ?_)
  refine W.ishr (q := 42) X248 C d21_41 rfl ?_
  refine W.i2b (q := 43) X248 C d21_42 rfl ?_
  refine W.bastore (q := 44) X248 C e248 V0  (by decide) (by decide) (Nat.le_of_ble_eq_true rfl) d21_43 rfl (fun T249 h249 X249 e249 W249 V249_ => ?_)
  rw [own_bb (p2 >>> ((0 : Int32) &&& 31))] at V249_
  have SA_251 := SA.wr W249
  have SH_252 := SH.wr W249
  have SL_253 := SL.wr W249
  have V249 : Arv Z h249 p0 kb .byte (2 : Int32) [(.int ((p2 >>> ((0 : Int32) &&& 31)).toInt8.toInt32)), (.int y1)] (.int (0 : Int32)) := V249_
  have N249 := Fr.snoc X249 N0 hge
  have K249 := K0.wr W249 (Or.inl (by simp))
  have n0_249 : n0 ≤ h249.size := by rw [W249.size]; exact Z0
  refine W.aloadN (q := 45) X249 C d21_44 rfl rfl rfl ?_
  refine W.iloadN (q := 46) X249 C d21_45 rfl rfl ?_
  refine W.iloadN (q := 47) X249 C d21_46 rfl rfl ?_
  refine W.getS (q := 50) X249 C (W.ww hw 93 rfl) Via.refl e249 SL_253 d21_47 rfl (fun T255 X255 e255 => ?_)
  refine W.ishr (q := 51) X255 C d21_50 rfl ?_
  refine W.i2b (q := 52) X255 C d21_51 rfl ?_
  refine W.bastore (q := 53) X255 C e255 V249  (by decide) (by decide) (Nat.le_of_ble_eq_true rfl) d21_52 rfl (fun T256 h256 X256 e256 W256 V256_ => ?_)
  rw [own_bb (p2 >>> ((8 : Int32) &&& 31))] at V256_
  have SA_258 := SA_251.wr W256
  have SH_259 := SH_252.wr W256
  have SL_260 := SL_253.wr W256
  have V256 : Arv Z h256 p0 kb .byte (2 : Int32) [(.int ((p2 >>> ((0 : Int32) &&& 31)).toInt8.toInt32)), (.int ((p2 >>> ((8 : Int32) &&& 31)).toInt8.toInt32))] (.int (0 : Int32)) := V256_
  have N256 := Fr.snoc X256 N249 hge
  have K256 := K249.wr W256 (Or.inl (by simp))
  have n0_256 : n0 ≤ h256.size := by rw [W256.size]; exact n0_249
  exact W.retV X256 C e256 d21_53 (by decide) (by decide) ⟨rfl, N256, K256, V256⟩
theorem d18_0 : decode jdk_52_method_14_code 0 = .ok (.iload_n 2, 1) := by decide +kernel
theorem d18_1 : decode jdk_52_method_14_code 1 = .ok (.invokestatic 107, 3) := by decide +kernel
theorem pd__28I_29_5bB : parseMethodDescriptor "(I)[B" = some ⟨[.int], some (.array .byte)⟩ := by decide +kernel
theorem d18_4 : decode jdk_52_method_14_code 4 = .ok (.astore_n 3, 1) := by decide +kernel
theorem d18_5 : decode jdk_52_method_14_code 5 = .ok (.iconst 0, 1) := by decide +kernel
theorem d18_6 : decode jdk_52_method_14_code 6 = .ok (.istore 4, 2) := by decide +kernel
theorem d18_8 : decode jdk_52_method_14_code 8 = .ok (.iload 4, 2) := by decide +kernel
theorem d18_10 : decode jdk_52_method_14_code 10 = .ok (.iload_n 2, 1) := by decide +kernel
theorem d18_11 : decode jdk_52_method_14_code 11 = .ok (.if_icmp .ge 21, 3) := by decide +kernel
theorem d18_14 : decode jdk_52_method_14_code 14 = .ok (.aload_n 3, 1) := by decide +kernel
theorem d18_15 : decode jdk_52_method_14_code 15 = .ok (.iload 4, 2) := by decide +kernel
theorem d18_17 : decode jdk_52_method_14_code 17 = .ok (.aload_n 0, 1) := by decide +kernel
theorem d18_18 : decode jdk_52_method_14_code 18 = .ok (.iload_n 1, 1) := by decide +kernel
theorem d18_19 : decode jdk_52_method_14_code 19 = .ok (.caload, 1) := by decide +kernel
theorem d18_20 : decode jdk_52_method_14_code 20 = .ok (.invokestatic 111, 3) := by decide +kernel
theorem pd__28_5bBII_29V : parseMethodDescriptor "([BII)V" = some ⟨[(.array .byte), .int, .int], none⟩ := by decide +kernel
theorem d18_23 : decode jdk_52_method_14_code 23 = .ok (.iinc 1 1, 3) := by decide +kernel
theorem d18_26 : decode jdk_52_method_14_code 26 = .ok (.iinc 4 1, 3) := by decide +kernel
theorem d18_29 : decode jdk_52_method_14_code 29 = .ok (.goto (-21), 3) := by decide +kernel
theorem d18_32 : decode jdk_52_method_14_code 32 = .ok (.aload_n 3, 1) := by decide +kernel
theorem d18_33 : decode jdk_52_method_14_code 33 = .ok (.areturn, 1) := by decide +kernel
abbrev y18 : MethodName := ⟨"java/lang/StringUTF16", "toBytes", "([CII)[B"⟩
abbrev r_2_1_8_32 : Room := { frames := 2, cells := 1, slots := 8, locals := 32 }
def Q18_1 (Z : State) (p0 : Addr) (kc : ClassId) (x0 : Int32) (h0 : Heap) (n0 : Nat) (v : Option Value) (h : Heap) (L : List Loc) : Prop := ∃ b kb, v = some (.ref b) ∧ Fr n0 L ∧ Keep h0 h [] ∧ Arv Z h b kb .byte (2 : Int32) [(.int (own_hb x0)), (.int (own_lb x0))] (.int (0 : Int32))
theorem rm18_1 (l : Launch) (Z : State) (a0 : Array Value) (hw : own_HW a0 Z) (ws : List Jvm.Cond) (p0 : Addr) (kc : ClassId) (x0 : Int32) (h0 : Heap) (n0 : Nat) (Z0 : n0 ≤ h0.size) (Vc : Arv Z h0 p0 kc .char (1 : Int32) [(.int x0)] (.int (0 : Int32))) (O0 : Old Z n0 h0) (SA : Sta Z Z.heap "java/lang/StringUTF16" "$assertionsDisabled" "Z" (.int (1 : Int32))) (SH : Sta Z Z.heap "java/lang/StringUTF16" "HI_BYTE_SHIFT" "I" (.int (0 : Int32))) (SL : Sta Z Z.heap "java/lang/StringUTF16" "LO_BYTE_SHIFT" "I" (.int (8 : Int32))) : own_M l y18 jdk_52_method_14_code 5 (some (.array .byte)) ws r_2_1_8_32 #[(.ref p0), (.int (0 : Int32)), (.int (1 : Int32))] Z h0 (Q18_1 Z p0 kc x0 h0 n0) := by
  refine W.bodyOf (Ls := #[.val (.ref p0), .val (.int (0 : Int32)), .val (.int (1 : Int32)), .unset, .unset]) (plainFor_of_name pn_java_lang_StringUTF16) (fun m => by first | exact W.entry_of rfl) ?_
  intro p e s m below meth c T0 C X0 e0
  have N0 := Fr.nil n0
  have K0 := Keep.refl h0 []
  refine W.iloadN (q := 1) X0 C d18_0 rfl rfl ?_
  refine W.callS (q := 4) X0 C (W.ww hw 81 rfl) (W.ww hw 82 rfl) (W.ww hw 67 rfl) (W.ww hw 83 rfl) (by decide) (rm19_1 l Z a0 hw [] 0 h0 n0 Z0) e0 d18_1 [(.int (1 : Int32))] [] rfl rfl pd__28I_29_5bB rfl rfl (by decide) (Nat.le_of_ble_eq_true rfl) (by decide) (by decide) rfl (fun T262 w262 L262 X262 hQ262 => ?_)
  obtain ⟨b262, kb262, rfl, NL262, K262, hz262, V262⟩ := hQ262
  have N262 := Fr.app N0 NL262
  have ne_p0_b262 : p0 ≠ b262 := Nat.ne_of_lt (Nat.lt_of_lt_of_le Vc.lt hz262)
  have ge_b262 : n0 ≤ b262 := Nat.le_trans Z0 hz262
  have sz_b262 : h0.size ≤ b262 := Nat.le_trans K0.1 hz262
  have Vc_264 := Vc.keep K262 nin0
  have O0_265 := O0.keep K262 all0
  have n0_262 : n0 ≤ T262.heap.size := Nat.le_trans Z0 K262.1
  have KK262 := K0.trans K262 all0
  show W.Go p e below _ (T262.setTop (mkF m 4 #[.val (.ref p0), .val (.int (0 : Int32)), .val (.int (1 : Int32)), .unset, .unset] [(.ref b262)]))
  refine W.astoreN (q := 5) (L' := #[.val (.ref p0), .val (.int (0 : Int32)), .val (.int (1 : Int32)), .val (.ref b262), .unset]) X262 C d18_4 rfl rfl rfl ?_
  refine W.iconst (q := 6) (v := 0) X262 C d18_5 rfl rfl ?_
  refine W.istore (q := 8) (L' := #[.val (.ref p0), .val (.int (0 : Int32)), .val (.int (1 : Int32)), .val (.ref b262), .val (.int (0 : Int32))]) X262 C d18_6 rfl rfl ?_
  refine W.iload (q := 10) X262 C d18_8 rfl rfl ?_
  refine W.iloadN (q := 11) X262 C d18_10 rfl rfl ?_
  refine W.icmpF (q := 14) X262 C d18_11 rfl (by decide : W.cF .ge (0 : Int32) (1 : Int32)) ?_
  refine W.aloadN (q := 15) X262 C d18_14 rfl rfl rfl ?_
  refine W.iload (q := 17) X262 C d18_15 rfl rfl ?_
  refine W.aloadN (q := 18) X262 C d18_17 rfl rfl rfl ?_
  refine W.iloadN (q := 19) X262 C d18_18 rfl rfl ?_
  refine W.caload (q := 20) X262 C rfl Vc_264 (by decide) (by decide) rfl d18_19 rfl ?_
  refine W.callS (q := 23) X262 C (W.ww hw 88 rfl) (W.ww hw 89 rfl) (W.ww hw 67 rfl) (W.ww hw 90 rfl) (by decide) (rm21_1_0 l Z a0 hw [] b262 kb262 (0 : Int32) (0 : Int32) x0 T262.heap n0 n0_262 ge_b262 V262 (SA.ext O0_265.2) (SH.ext O0_265.2) (SL.ext O0_265.2)) rfl d18_20 [(.ref b262), (.int (0 : Int32)), (.int x0)] [] rfl rfl pd__28_5bBII_29V rfl rfl (by decide) (Nat.le_of_ble_eq_true rfl) (by decide) (by decide) rfl (fun T266 w266 L266 X266 hQ266 => ?_)
  obtain ⟨rfl, NL266, K266, V266⟩ := hQ266
  have N266 := Fr.app N262 NL266
  have Vc_268 := Vc_264.keep K266 (ninS ne_p0_b262 nin0)
  have O0_269 := O0_265.keep K266 (allS ge_b262 all0)
  have n0_266 : n0 ≤ T266.heap.size := Nat.le_trans n0_262 K266.1
  have KK266 := KK262.trans K266 (allS (Or.inr sz_b262) all0)
  show W.Go p e below _ (T266.setTop (mkF m 23 #[.val (.ref p0), .val (.int (0 : Int32)), .val (.int (1 : Int32)), .val (.ref b262), .val (.int (0 : Int32))] []))
  refine W.iinc (q := 26) (L' := #[.val (.ref p0), .val (.int (1 : Int32)), .val (.int (1 : Int32)), .val (.ref b262), .val (.int (0 : Int32))]) X266 C d18_23 rfl (by decide) rfl rfl ?_
  refine W.iinc (q := 29) (L' := #[.val (.ref p0), .val (.int (1 : Int32)), .val (.int (1 : Int32)), .val (.ref b262), .val (.int (1 : Int32))]) X266 C d18_26 rfl (by decide) rfl rfl ?_
  refine W.goto (q := 8) X266 C d18_29 (by decide) (by decide) ?_
  refine W.iload (q := 10) X266 C d18_8 rfl rfl ?_
  refine W.iloadN (q := 11) X266 C d18_10 rfl rfl ?_
  refine W.icmpT (q := 32) X266 C d18_11 (by decide) (by decide) (by decide : W.cT .ge (1 : Int32) (1 : Int32)) ?_
  refine W.aloadN (q := 33) X266 C d18_32 rfl rfl rfl ?_
  exact W.retA X266 C rfl rfl rfl d18_33 (by decide) (by decide) ⟨_, _, rfl, N266, KK266, V266⟩
theorem d14_0 : decode jdk_52_method_16_code 0 = .ok (.iload_n 2, 1) := by decide +kernel
theorem d14_1 : decode jdk_52_method_16_code 1 = .ok (.newarray .byte, 2) := by decide +kernel
theorem d14_3 : decode jdk_52_method_16_code 3 = .ok (.astore_n 3, 1) := by decide +kernel
theorem d14_4 : decode jdk_52_method_16_code 4 = .ok (.aload_n 0, 1) := by decide +kernel
theorem d14_5 : decode jdk_52_method_16_code 5 = .ok (.iload_n 1, 1) := by decide +kernel
theorem d14_6 : decode jdk_52_method_16_code 6 = .ok (.aload_n 3, 1) := by decide +kernel
theorem d14_7 : decode jdk_52_method_16_code 7 = .ok (.iconst 0, 1) := by decide +kernel
theorem d14_8 : decode jdk_52_method_16_code 8 = .ok (.iload_n 2, 1) := by decide +kernel
theorem d14_9 : decode jdk_52_method_16_code 9 = .ok (.invokestatic 115, 3) := by decide +kernel
theorem pd__28_5bCI_5bBII_29I : parseMethodDescriptor "([CI[BII)I" = some ⟨[(.array .char), .int, (.array .byte), .int, .int], some .int⟩ := by decide +kernel
theorem d14_12 : decode jdk_52_method_16_code 12 = .ok (.istore 4, 2) := by decide +kernel
theorem d14_14 : decode jdk_52_method_16_code 14 = .ok (.iload 4, 2) := by decide +kernel
theorem d14_16 : decode jdk_52_method_16_code 16 = .ok (.iload_n 2, 1) := by decide +kernel
theorem d14_17 : decode jdk_52_method_16_code 17 = .ok (.if_icmp .eq 40, 3) := by decide +kernel
theorem d14_57 : decode jdk_52_method_16_code 57 = .ok (.aload_n 3, 1) := by decide +kernel
theorem d14_58 : decode jdk_52_method_16_code 58 = .ok (.areturn, 1) := by decide +kernel
theorem d14_20 : decode jdk_52_method_16_code 20 = .ok (.aload_n 0, 1) := by decide +kernel
theorem d14_21 : decode jdk_52_method_16_code 21 = .ok (.iload_n 1, 1) := by decide +kernel
theorem d14_22 : decode jdk_52_method_16_code 22 = .ok (.iload_n 2, 1) := by decide +kernel
theorem d14_23 : decode jdk_52_method_16_code 23 = .ok (.invokestatic 119, 3) := by decide +kernel
theorem pd__28_5bCII_29_5bB : parseMethodDescriptor "([CII)[B" = some ⟨[(.array .char), .int, .int], some (.array .byte)⟩ := by decide +kernel
theorem d14_26 : decode jdk_52_method_16_code 26 = .ok (.astore 5, 2) := by decide +kernel
theorem d14_28 : decode jdk_52_method_16_code 28 = .ok (.aload 5, 2) := by decide +kernel
theorem d14_30 : decode jdk_52_method_16_code 30 = .ok (.iload 4, 2) := by decide +kernel
theorem d14_32 : decode jdk_52_method_16_code 32 = .ok (.invokestatic 71, 3) := by decide +kernel
theorem d14_35 : decode jdk_52_method_16_code 35 = .ok (.sipush 255, 3) := by decide +kernel
theorem d14_38 : decode jdk_52_method_16_code 38 = .ok (.if_icmp .gt 16, 3) := by decide +kernel
theorem d14_54 : decode jdk_52_method_16_code 54 = .ok (.aload 5, 2) := by decide +kernel
theorem d14_56 : decode jdk_52_method_16_code 56 = .ok (.areturn, 1) := by decide +kernel
abbrev y14 : MethodName := ⟨"java/lang/StringUTF16", "compress", "([CII)[B"⟩
abbrev r_3_2_12_50 : Room := { frames := 3, cells := 2, slots := 12, locals := 50 }
def Q14_1 (Z : State) (p0 : Addr) (kc : ClassId) (x0 : Int32) (h0 : Heap) (n0 : Nat) (v : Option Value) (h : Heap) (L : List Loc) : Prop := ∃ b kb, v = some (.ref b) ∧ Fr n0 L ∧ Keep h0 h [] ∧ ((own_r8 x0 ∧ Arv Z h b kb .byte (1 : Int32) [(.int (x0.toInt8.toInt32))] (.int (0 : Int32))) ∨ Arv Z h b kb .byte (2 : Int32) [(.int (own_hb x0)), (.int (own_lb x0))] (.int (0 : Int32)))
theorem rm14_1 (l : Launch) (Z : State) (a0 : Array Value) (hw : own_HW a0 Z) (ws : List Jvm.Cond) (p0 : Addr) (kc : ClassId) (x0 : Int32) (h0 : Heap) (n0 : Nat) (Z0 : n0 ≤ h0.size) (Vc : Arv Z h0 p0 kc .char (1 : Int32) [(.int x0)] (.int (0 : Int32))) (hr0 : own_r16 x0) (O0 : Old Z n0 h0) (SA : Sta Z Z.heap "java/lang/StringUTF16" "$assertionsDisabled" "Z" (.int (1 : Int32))) (SH : Sta Z Z.heap "java/lang/StringUTF16" "HI_BYTE_SHIFT" "I" (.int (0 : Int32))) (SL : Sta Z Z.heap "java/lang/StringUTF16" "LO_BYTE_SHIFT" "I" (.int (8 : Int32))) : own_M l y14 jdk_52_method_16_code 6 (some (.array .byte)) ws r_3_2_12_50 #[(.ref p0), (.int (0 : Int32)), (.int (1 : Int32))] Z h0 (Q14_1 Z p0 kc x0 h0 n0) := by
  refine W.bodyOf (Ls := #[.val (.ref p0), .val (.int (0 : Int32)), .val (.int (1 : Int32)), .unset, .unset, .unset]) (plainFor_of_name pn_java_lang_StringUTF16) (fun m => by first | exact W.entry_of rfl) ?_
  intro p e s m below meth c T0 C X0 e0
  have N0 := Fr.nil n0
  have K0 := Keep.refl h0 []
  refine W.iloadN (q := 1) X0 C d14_0 rfl rfl ?_
  refine W.newarray (q := 3) X0 C (W.ww hw 15 rfl) e0 (by decide) 1 (by decide) (by decide) d14_1 (by decide) (by decide) rfl (fun T270 h270 b270 k270 X270 e270 g270 E270 V270_ => ?_)
  have ne_p0_b270 : p0 ≠ b270 := by rw [g270]; exact Nat.ne_of_lt Vc.lt
  have ge_b270 : n0 ≤ b270 := by rw [g270]; exact Z0
  have sz_b270 : h0.size ≤ b270 := by rw [g270]; exact K0.1
  have n0_270 : n0 ≤ h270.size := Nat.le_trans Z0 E270.1
  have Vc_272 := Vc.ext E270
  have O0_273 := O0.ext E270
  have K270 := K0.ext E270
  have V270 : Arv Z h270 b270 k270 .byte (1 : Int32) [(.int (0 : Int32))] (.int (0 : Int32)) := V270_
  refine W.astoreN (q := 4) (L' := #[.val (.ref p0), .val (.int (0 : Int32)), .val (.int (1 : Int32)), .val (.ref b270), .unset, .unset]) X270 C d14_3 rfl rfl rfl ?_
  refine W.aloadN (q := 5) X270 C d14_4 rfl rfl rfl ?_
  refine W.iloadN (q := 6) X270 C d14_5 rfl rfl ?_
  refine W.aloadN (q := 7) X270 C d14_6 rfl rfl rfl ?_
  refine W.iconst (q := 8) (v := 0) X270 C d14_7 rfl rfl ?_
  refine W.iloadN (q := 9) X270 C d14_8 rfl rfl ?_
  refine W.callS (q := 12) X270 C (W.ww hw 69 rfl) (W.ww hw 70 rfl) (W.ww hw 67 rfl) (W.ww hw 71 rfl) (by decide) (rm15_1 l Z a0 hw [] p0 b270 kc k270 x0 h270 n0 n0_270 ge_b270 ne_p0_b270 Vc_272 V270 hr0) e270 d14_9 [(.ref p0), (.int (0 : Int32)), (.ref b270), (.int (0 : Int32)), (.int (1 : Int32))] [] rfl rfl pd__28_5bCI_5bBII_29I rfl rfl (by decide) (Nat.le_of_ble_eq_true rfl) (by decide) (by decide) rfl (fun T274 w274 L274 X274 hQ274 => ?_)
  obtain ⟨NL274, K274, D274⟩ := hQ274
  have N274 := Fr.app N0 NL274
  have Vc_276 := Vc_272.keep K274 (ninS ne_p0_b270 nin0)
  have O0_277 := O0_273.keep K274 (allS ge_b270 all0)
  have n0_274 : n0 ≤ T274.heap.size := Nat.le_trans n0_270 K274.1
  have KK274 := K270.trans K274 (allS (Or.inr sz_b270) all0)
  rcases D274 with ⟨rfl, hx0, Vl⟩ | ⟨rfl, hbig⟩
  · show W.Go p e below _ (T274.setTop (mkF m 12 #[.val (.ref p0), .val (.int (0 : Int32)), .val (.int (1 : Int32)), .val (.ref b270), .unset, .unset] [(.int (1 : Int32))]))
    refine W.istore (q := 14) (L' := #[.val (.ref p0), .val (.int (0 : Int32)), .val (.int (1 : Int32)), .val (.ref b270), .val (.int (1 : Int32)), .unset]) X274 C d14_12 rfl rfl ?_
    refine W.iload (q := 16) X274 C d14_14 rfl rfl ?_
    refine W.iloadN (q := 17) X274 C d14_16 rfl rfl ?_
    refine W.icmpT (q := 57) X274 C d14_17 (by decide) (by decide) (by decide : W.cT .eq (1 : Int32) (1 : Int32)) ?_
    refine W.aloadN (q := 58) X274 C d14_57 rfl rfl rfl ?_
    exact W.retA X274 C rfl rfl rfl d14_58 (by decide) (by decide) ⟨_, _, rfl, N274, KK274, Or.inl ⟨hx0, Vl⟩⟩
  · show W.Go p e below _ (T274.setTop (mkF m 12 #[.val (.ref p0), .val (.int (0 : Int32)), .val (.int (1 : Int32)), .val (.ref b270), .unset, .unset] [(.int (0 : Int32))]))
    refine W.istore (q := 14) (L' := #[.val (.ref p0), .val (.int (0 : Int32)), .val (.int (1 : Int32)), .val (.ref b270), .val (.int (0 : Int32)), .unset]) X274 C d14_12 rfl rfl ?_
    refine W.iload (q := 16) X274 C d14_14 rfl rfl ?_
    refine W.iloadN (q := 17) X274 C d14_16 rfl rfl ?_
    refine W.icmpF (q := 20) X274 C d14_17 rfl (by decide : W.cF .eq (0 : Int32) (1 : Int32)) ?_
    refine W.aloadN (q := 21) X274 C d14_20 rfl rfl rfl ?_
    refine W.iloadN (q := 22) X274 C d14_21 rfl rfl ?_
    refine W.iloadN (q := 23) X274 C d14_22 rfl rfl ?_
    refine W.callS (q := 26) X274 C (W.ww hw 78 rfl) (W.ww hw 79 rfl) (W.ww hw 67 rfl) (W.ww hw 80 rfl) (by decide) (rm18_1 l Z a0 hw [] p0 kc x0 T274.heap n0 n0_274 Vc_276 O0_277 SA SH SL) rfl d14_23 [(.ref p0), (.int (0 : Int32)), (.int (1 : Int32))] [] rfl rfl pd__28_5bCII_29_5bB rfl rfl (by decide) (Nat.le_of_ble_eq_true rfl) (by decide) (by decide) rfl (fun T278 w278 L278 X278 hQ278 => ?_)
    obtain ⟨b278, kb278, rfl, NL278, K278, V278⟩ := hQ278
    have N278 := Fr.app N274 NL278
    have Vc_280 := Vc_276.keep K278 nin0
    have O0_281 := O0_277.keep K278 all0
    have n0_278 : n0 ≤ T278.heap.size := Nat.le_trans n0_274 K278.1
    have KK278 := KK274.trans K278 all0
    show W.Go p e below _ (T278.setTop (mkF m 26 #[.val (.ref p0), .val (.int (0 : Int32)), .val (.int (1 : Int32)), .val (.ref b270), .val (.int (0 : Int32)), .unset] [(.ref b278)]))
    refine W.astore (q := 28) (L' := #[.val (.ref p0), .val (.int (0 : Int32)), .val (.int (1 : Int32)), .val (.ref b270), .val (.int (0 : Int32)), .val (.ref b278)]) X278 C d14_26 rfl rfl rfl ?_
    refine W.aload (q := 30) X278 C d14_28 rfl rfl rfl ?_
    refine W.iload (q := 32) X278 C d14_30 rfl rfl ?_
    refine W.callS (q := 35) X278 C (W.ww hw 94 rfl) (W.ww hw 95 rfl) (W.ww hw 67 rfl) (W.ww hw 96 rfl) (by decide) (rm22 l Z a0 hw [] b278 kb278 [(.int (own_hb x0)), (.int (own_lb x0))] (2 : Int32) (0 : Int32) (0 : Int32) (1 : Int32) x0 T278.heap n0 V278 (by decide) (by decide) (by decide) (by decide) (by decide) (by decide) rfl rfl hr0 (SA.ext O0_281.2) (SH.ext O0_281.2) (SL.ext O0_281.2)) rfl d14_32 [(.ref b278), (.int (0 : Int32))] [] rfl rfl pd__28_5bBI_29C rfl rfl (by decide) (Nat.le_of_ble_eq_true rfl) (by decide) (by decide) rfl (fun T282 w282 L282 X282 hQ282 => ?_)
    obtain ⟨rfl, NL282, e282⟩ := hQ282
    have N282 := Fr.app N278 NL282
    show W.Go p e below _ (T282.setTop (mkF m 35 #[.val (.ref p0), .val (.int (0 : Int32)), .val (.int (1 : Int32)), .val (.ref b270), .val (.int (0 : Int32)), .val (.ref b278)] [(.int x0)]))
    refine W.sipush (q := 38) (v := 255) X282 C d14_35 rfl rfl ?_
    refine W.icmpT (q := 54) X282 C d14_38 (by decide) (by decide) hbig ?_
    refine W.aload (q := 56) X282 C d14_54 rfl rfl rfl ?_
    exact W.retA X282 C rfl e282 rfl d14_56 (by decide) (by decide) ⟨_, _, rfl, N282, KK278, Or.inr V278⟩
theorem d2_0 : decode jdk_42_method_149_code 0 = .ok (.aload_n 0, 1) := by decide +kernel
theorem d2_1 : decode jdk_42_method_149_code 1 = .ok (.invokespecial 1, 3) := by decide +kernel
theorem d2_4 : decode jdk_42_method_149_code 4 = .ok (.iload_n 3, 1) := by decide +kernel
theorem d2_5 : decode jdk_42_method_149_code 5 = .ok (.ifCond .ne 22, 3) := by decide +kernel
theorem d2_27 : decode jdk_42_method_149_code 27 = .ok (.getstatic 38, 3) := by decide +kernel
theorem d2_30 : decode jdk_42_method_149_code 30 = .ok (.ifCond .eq 28, 3) := by decide +kernel
theorem d2_33 : decode jdk_42_method_149_code 33 = .ok (.aload_n 1, 1) := by decide +kernel
theorem d2_34 : decode jdk_42_method_149_code 34 = .ok (.iload_n 2, 1) := by decide +kernel
theorem d2_35 : decode jdk_42_method_149_code 35 = .ok (.iload_n 3, 1) := by decide +kernel
theorem d2_36 : decode jdk_42_method_149_code 36 = .ok (.invokestatic 177, 3) := by decide +kernel
theorem d2_39 : decode jdk_42_method_149_code 39 = .ok (.astore 5, 2) := by decide +kernel
theorem d2_41 : decode jdk_42_method_149_code 41 = .ok (.aload_n 0, 1) := by decide +kernel
theorem d2_42 : decode jdk_42_method_149_code 42 = .ok (.aload 5, 2) := by decide +kernel
theorem d2_44 : decode jdk_42_method_149_code 44 = .ok (.iload_n 3, 1) := by decide +kernel
theorem d2_45 : decode jdk_42_method_149_code 45 = .ok (.invokestatic 47, 3) := by decide +kernel
theorem pd__28_5bBI_29B : parseMethodDescriptor "([BI)B" = some ⟨[(.array .byte), .int], some .byte⟩ := by decide +kernel
theorem d2_48 : decode jdk_42_method_149_code 48 = .ok (.putfield 15, 3) := by decide +kernel
theorem d2_51 : decode jdk_42_method_149_code 51 = .ok (.aload_n 0, 1) := by decide +kernel
theorem d2_52 : decode jdk_42_method_149_code 52 = .ok (.aload 5, 2) := by decide +kernel
theorem d2_54 : decode jdk_42_method_149_code 54 = .ok (.putfield 9, 3) := by decide +kernel
theorem d2_57 : decode jdk_42_method_149_code 57 = .ok (.return_, 1) := by decide +kernel
abbrev y2 : MethodName := ⟨"java/lang/String", "<init>", "([CIILjava/lang/Void;)V"⟩
abbrev r_4_2_12_70 : Room := { frames := 4, cells := 2, slots := 12, locals := 70 }
def Q2_1 (Z : State) (p0 p1 : Addr) (kc : ClassId) (x0 : Int32) (cs : Int32) (h0 : Heap) (n0 : Nat) (v : Option Value) (h : Heap) (L : List Loc) : Prop := v = none ∧ Fr n0 L ∧ Keep h0 h [p0] ∧ own_txt1 Z h p0 x0
theorem rm2_1 (l : Launch) (Z : State) (a0 : Array Value) (hw : own_HW a0 Z) (ws : List Jvm.Cond) (p0 p1 : Addr) (kc : ClassId) (x0 : Int32) (cs : Int32) (h0 : Heap) (n0 : Nat) (Z0 : n0 ≤ h0.size) (hge : n0 ≤ p0) (E0 : Exa Z h0 p0 "java/lang/String") (F0a : Fld Z h0 p0 "java/lang/String" "value" "[B" .null) (F0b : Fld Z h0 p0 "java/lang/String" "coder" "B" (.int (0 : Int32))) (Vc : Arv Z h0 p1 kc .char (1 : Int32) [(.int x0)] (.int (0 : Int32))) (hr0 : own_r16 x0) (O0 : Old Z n0 h0) (SC : Sta Z Z.heap "java/lang/String" "COMPACT_STRINGS" "Z" (.int cs)) (hcs : cs ≠ 0) (SA : Sta Z Z.heap "java/lang/StringUTF16" "$assertionsDisabled" "Z" (.int (1 : Int32))) (SH : Sta Z Z.heap "java/lang/StringUTF16" "HI_BYTE_SHIFT" "I" (.int (0 : Int32))) (SL : Sta Z Z.heap "java/lang/StringUTF16" "LO_BYTE_SHIFT" "I" (.int (8 : Int32))) : own_M l y2 jdk_42_method_149_code 6 none ws r_4_2_12_70 #[(.ref p0), (.ref p1), (.int (0 : Int32)), (.int (1 : Int32)), .null] Z h0 (Q2_1 Z p0 p1 kc x0 cs h0 n0) := by
  refine W.bodyOf (Ls := #[.val (.ref p0), .val (.ref p1), .val (.int (0 : Int32)), .val (.int (1 : Int32)), .val .null, .unset]) (plainFor_of_name pn_java_lang_String) (fun m => by first | exact W.entry_of rfl) ?_
  intro p e s m below meth c T0 C X0 e0
  have N0 := Fr.nil n0
  have K0 := Keep.refl h0 [p0]
  have ne01 : p0 ≠ p1 := E0.neArv Vc (W.ww hw 2 rfl)
  have SC0 := SC.ext O0.2
  refine W.aloadN (q := 1) X0 C d2_0 rfl rfl rfl ?_
  refine W.initObj (q := 4) X0 C (W.ww hw 11 rfl) (W.ww hw 12 rfl) (W.ww hw 13 rfl) e0 d2_1 rfl (by decide) (Nat.le_of_ble_eq_true rfl) rfl (fun T283 X283 e283 => ?_)
  refine W.iloadN (q := 5) X283 C d2_4 rfl rfl ?_
  refine W.ifT (q := 27) X283 C d2_5 (by decide) (by decide) (by decide : W.cT .ne (1 : Int32) 0) ?_
  refine W.getS (q := 30) X283 C (W.ww hw 40 rfl) Via.refl e283 SC0 d2_27 rfl (fun T284 X284 e284 => ?_)
  refine W.ifF (q := 33) X284 C d2_30 rfl hcs ?_
  refine W.aloadN (q := 34) X284 C d2_33 rfl rfl rfl ?_
  refine W.iloadN (q := 35) X284 C d2_34 rfl rfl ?_
  refine W.iloadN (q := 36) X284 C d2_35 rfl rfl ?_
  refine W.callS (q := 39) X284 C (W.ww hw 65 rfl) (W.ww hw 66 rfl) (W.ww hw 67 rfl) (W.ww hw 68 rfl) (by decide) (rm14_1 l Z a0 hw [] p1 kc x0 h0 n0 Z0 Vc hr0 O0 SA SH SL) e284 d2_36 [(.ref p1), (.int (0 : Int32)), (.int (1 : Int32))] [] rfl rfl pd__28_5bCII_29_5bB rfl rfl (by decide) (Nat.le_of_ble_eq_true rfl) (by decide) (by decide) rfl (fun T285 w285 L285 X285 hQ285 => ?_)
  obtain ⟨b285, kb285, rfl, NL285, K285, D285⟩ := hQ285
  have N285 := Fr.app N0 NL285
  have Vc_287 := Vc.keep K285 nin0
  have O0_288 := O0.keep K285 all0
  have E0_289 := E0.keep K285
  have F0a_290 := F0a.keep K285 nin0
  have F0b_291 := F0b.keep K285 nin0
  have n0_285 : n0 ≤ T285.heap.size := Nat.le_trans Z0 K285.1
  have KK285 := K0.trans K285 all0
  show W.Go p e below _ (T285.setTop (mkF m 39 #[.val (.ref p0), .val (.ref p1), .val (.int (0 : Int32)), .val (.int (1 : Int32)), .val .null, .unset] [(.ref b285)]))
  rcases D285 with ⟨hx0, Vb⟩ | Vb
  · have ne_p0_b285 : p0 ≠ b285 := E0_289.neArv Vb (W.ww hw 2 rfl)
    show W.Go p e below _ (T285.setTop (mkF m 39 #[.val (.ref p0), .val (.ref p1), .val (.int (0 : Int32)), .val (.int (1 : Int32)), .val .null, .unset] [(.ref b285)]))
    refine W.astore (q := 41) (L' := #[.val (.ref p0), .val (.ref p1), .val (.int (0 : Int32)), .val (.int (1 : Int32)), .val .null, .val (.ref b285)]) X285 C d2_39 rfl rfl rfl ?_
    refine W.aloadN (q := 42) X285 C d2_41 rfl rfl rfl ?_
    refine W.aload (q := 44) X285 C d2_42 rfl rfl rfl ?_
    refine W.iloadN (q := 45) X285 C d2_44 rfl rfl ?_
    refine W.callS (q := 48) X285 C (W.ww hw 72 rfl) (W.ww hw 73 rfl) (W.ww hw 67 rfl) (W.ww hw 74 rfl) (by decide) (rm16_1_1 l Z a0 hw [] b285 kb285 _ T285.heap n0 Vb) rfl d2_45 [(.ref b285), (.int (1 : Int32))] [(.ref p0)] rfl rfl pd__28_5bBI_29B rfl rfl (by decide) (Nat.le_of_ble_eq_true rfl) (by decide) (by decide) rfl (fun T293 w293 L293 X293 hQ293 => ?_)
    obtain ⟨rfl, NL293, e293⟩ := hQ293
    have N293 := Fr.app N285 NL293
    show W.Go p e below _ (T293.setTop (mkF m 48 #[.val (.ref p0), .val (.ref p1), .val (.int (0 : Int32)), .val (.int (1 : Int32)), .val .null, .val (.ref b285)] [(.int (0 : Int32)), (.ref p0)]))
    refine W.putF (host := "") (q := 51) X293 C (Or.inl (W.ww hw 21 rfl)) Via.refl e293 F0b_291 E0_289 (Or.inr ⟨(W.ww hw 17 rfl), rfl, rfl⟩) (W.ww hw 2 rfl) (ty := .byte) (by decide) rfl rfl d2_48 rfl (fun T294 h294 X294 e294 W294 => ?_)
    have Fw294 := F0b_291.same W294
    have Vc_296 := Vc_287.other W294 (Ne.symm ne01)
    have O0_297 := O0_288.wr W294 hge
    have E0_298 := E0_289.wr W294
    have F0a_299 := F0a_290.other W294 (Or.inr (slot_ne (Or.inr (W.ww hw 16 rfl)) (Or.inr (W.ww hw 17 rfl)) (by decide) (t := (.array .byte)) (t' := .byte) (by decide) (by decide)))
    have Vb_301 := Vb.other W294 (Ne.symm ne_p0_b285)
    have N294 := Fr.snoc X294 N293 hge
    have K294 := KK285.wr W294 (Or.inl (by simp))
    have n0_294 : n0 ≤ h294.size := by rw [W294.size]; exact n0_285
    refine W.aloadN (q := 52) X294 C d2_51 rfl rfl rfl ?_
    refine W.aload (q := 54) X294 C d2_52 rfl rfl rfl ?_
    refine W.putF (host := "") (q := 57) X294 C (Or.inl (W.ww hw 20 rfl)) Via.refl e294 F0a_299 E0_298 (Or.inr ⟨(W.ww hw 16 rfl), rfl, rfl⟩) (W.ww hw 2 rfl) (ty := (.array .byte)) (by decide) rfl rfl d2_54 rfl (fun T302 h302 X302 e302 W302 => ?_)
    have Fw302 := F0a_299.same W302
    have Vc_304 := Vc_296.other W302 (Ne.symm ne01)
    have O0_305 := O0_297.wr W302 hge
    have E0_306 := E0_298.wr W302
    have Fw294_308 := Fw294.other W302 (Or.inr (slot_ne (Or.inr (W.ww hw 17 rfl)) (Or.inr (W.ww hw 16 rfl)) (by decide) (t := .byte) (t' := (.array .byte)) (by decide) (by decide)))
    have Vb_309 := Vb_301.other W302 (Ne.symm ne_p0_b285)
    have N302 := Fr.snoc X302 N294 hge
    have K302 := K294.wr W302 (Or.inl (by simp))
    have n0_302 : n0 ≤ h302.size := by rw [W302.size]; exact n0_294
    exact W.retV X302 C e302 d2_57 (by decide) (by decide) ⟨rfl, N302, K302, _, _, E0_306, Fw302, Or.inl ⟨Fw294_308, hx0, Vb_309⟩⟩
  · have ne_p0_b285 : p0 ≠ b285 := E0_289.neArv Vb (W.ww hw 2 rfl)
    show W.Go p e below _ (T285.setTop (mkF m 39 #[.val (.ref p0), .val (.ref p1), .val (.int (0 : Int32)), .val (.int (1 : Int32)), .val .null, .unset] [(.ref b285)]))
    refine W.astore (q := 41) (L' := #[.val (.ref p0), .val (.ref p1), .val (.int (0 : Int32)), .val (.int (1 : Int32)), .val .null, .val (.ref b285)]) X285 C d2_39 rfl rfl rfl ?_
    refine W.aloadN (q := 42) X285 C d2_41 rfl rfl rfl ?_
    refine W.aload (q := 44) X285 C d2_42 rfl rfl rfl ?_
    refine W.iloadN (q := 45) X285 C d2_44 rfl rfl ?_
    refine W.callS (q := 48) X285 C (W.ww hw 72 rfl) (W.ww hw 73 rfl) (W.ww hw 67 rfl) (W.ww hw 74 rfl) (by decide) (rm16_1_2 l Z a0 hw [] b285 kb285 _ T285.heap n0 Vb) rfl d2_45 [(.ref b285), (.int (1 : Int32))] [(.ref p0)] rfl rfl pd__28_5bBI_29B rfl rfl (by decide) (Nat.le_of_ble_eq_true rfl) (by decide) (by decide) rfl (fun T310 w310 L310 X310 hQ310 => ?_)
    obtain ⟨rfl, NL310, e310⟩ := hQ310
    have N310 := Fr.app N285 NL310
    show W.Go p e below _ (T310.setTop (mkF m 48 #[.val (.ref p0), .val (.ref p1), .val (.int (0 : Int32)), .val (.int (1 : Int32)), .val .null, .val (.ref b285)] [(.int (1 : Int32)), (.ref p0)]))
    refine W.putF (host := "") (q := 51) X310 C (Or.inl (W.ww hw 21 rfl)) Via.refl e310 F0b_291 E0_289 (Or.inr ⟨(W.ww hw 17 rfl), rfl, rfl⟩) (W.ww hw 2 rfl) (ty := .byte) (by decide) rfl rfl d2_48 rfl (fun T311 h311 X311 e311 W311 => ?_)
    have Fw311 := F0b_291.same W311
    have Vc_313 := Vc_287.other W311 (Ne.symm ne01)
    have O0_314 := O0_288.wr W311 hge
    have E0_315 := E0_289.wr W311
    have F0a_316 := F0a_290.other W311 (Or.inr (slot_ne (Or.inr (W.ww hw 16 rfl)) (Or.inr (W.ww hw 17 rfl)) (by decide) (t := (.array .byte)) (t' := .byte) (by decide) (by decide)))
    have Vb_318 := Vb.other W311 (Ne.symm ne_p0_b285)
    have N311 := Fr.snoc X311 N310 hge
    have K311 := KK285.wr W311 (Or.inl (by simp))
    have n0_311 : n0 ≤ h311.size := by rw [W311.size]; exact n0_285
    refine W.aloadN (q := 52) X311 C d2_51 rfl rfl rfl ?_
    refine W.aload (q := 54) X311 C d2_52 rfl rfl rfl ?_
    refine W.putF (host := "") (q := 57) X311 C (Or.inl (W.ww hw 20 rfl)) Via.refl e311 F0a_316 E0_315 (Or.inr ⟨(W.ww hw 16 rfl), rfl, rfl⟩) (W.ww hw 2 rfl) (ty := (.array .byte)) (by decide) rfl rfl d2_54 rfl (fun T319 h319 X319 e319 W319 => ?_)
    have Fw319 := F0a_316.same W319
    have Vc_321 := Vc_313.other W319 (Ne.symm ne01)
    have O0_322 := O0_314.wr W319 hge
    have E0_323 := E0_315.wr W319
    have Fw311_325 := Fw311.other W319 (Or.inr (slot_ne (Or.inr (W.ww hw 17 rfl)) (Or.inr (W.ww hw 16 rfl)) (by decide) (t := .byte) (t' := (.array .byte)) (by decide) (by decide)))
    have Vb_326 := Vb_318.other W319 (Ne.symm ne_p0_b285)
    have N319 := Fr.snoc X319 N311 hge
    have K319 := K311.wr W319 (Or.inl (by simp))
    have n0_319 : n0 ≤ h319.size := by rw [W319.size]; exact n0_311
    exact W.retV X319 C e319 d2_57 (by decide) (by decide) ⟨rfl, N319, K319, _, _, E0_323, Fw319, Or.inr ⟨Fw311_325, Vb_326⟩⟩
theorem d1_0 : decode jdk_42_method_3_code 0 = .ok (.aload_n 0, 1) := by decide +kernel
theorem d1_1 : decode jdk_42_method_3_code 1 = .ok (.aload_n 1, 1) := by decide +kernel
theorem d1_2 : decode jdk_42_method_3_code 2 = .ok (.iconst 0, 1) := by decide +kernel
theorem d1_3 : decode jdk_42_method_3_code 3 = .ok (.aload_n 1, 1) := by decide +kernel
theorem d1_4 : decode jdk_42_method_3_code 4 = .ok (.arraylength, 1) := by decide +kernel
theorem d1_5 : decode jdk_42_method_3_code 5 = .ok (.aconst_null, 1) := by decide +kernel
theorem d1_6 : decode jdk_42_method_3_code 6 = .ok (.invokespecial 27, 3) := by decide +kernel
theorem pd__28_5bCIILjava_2flang_2fVoid_3b_29V : parseMethodDescriptor "([CIILjava/lang/Void;)V" = some ⟨[(.array .char), .int, .int, (.object "java/lang/Void")], none⟩ := by decide +kernel
theorem d1_9 : decode jdk_42_method_3_code 9 = .ok (.return_, 1) := by decide +kernel
abbrev y1 : MethodName := ⟨"java/lang/String", "<init>", "([C)V"⟩
abbrev r_5_2_12_90 : Room := { frames := 5, cells := 2, slots := 12, locals := 90 }
def Q1_1 (Z : State) (p0 p1 : Addr) (kc : ClassId) (x0 : Int32) (cs : Int32) (h0 : Heap) (n0 : Nat) (v : Option Value) (h : Heap) (L : List Loc) : Prop := v = none ∧ Fr n0 L ∧ Keep h0 h [p0] ∧ own_txt1 Z h p0 x0
theorem rm1_1 (l : Launch) (Z : State) (a0 : Array Value) (hw : own_HW a0 Z) (ws : List Jvm.Cond) (p0 p1 : Addr) (kc : ClassId) (x0 : Int32) (cs : Int32) (h0 : Heap) (n0 : Nat) (Z0 : n0 ≤ h0.size) (hge : n0 ≤ p0) (E0 : Exa Z h0 p0 "java/lang/String") (F0a : Fld Z h0 p0 "java/lang/String" "value" "[B" .null) (F0b : Fld Z h0 p0 "java/lang/String" "coder" "B" (.int (0 : Int32))) (Vc : Arv Z h0 p1 kc .char (1 : Int32) [(.int x0)] (.int (0 : Int32))) (hr0 : own_r16 x0) (O0 : Old Z n0 h0) (SC : Sta Z Z.heap "java/lang/String" "COMPACT_STRINGS" "Z" (.int cs)) (hcs : cs ≠ 0) (SA : Sta Z Z.heap "java/lang/StringUTF16" "$assertionsDisabled" "Z" (.int (1 : Int32))) (SH : Sta Z Z.heap "java/lang/StringUTF16" "HI_BYTE_SHIFT" "I" (.int (0 : Int32))) (SL : Sta Z Z.heap "java/lang/StringUTF16" "LO_BYTE_SHIFT" "I" (.int (8 : Int32))) : own_M l y1 jdk_42_method_3_code 2 none ws r_5_2_12_90 #[(.ref p0), (.ref p1)] Z h0 (Q1_1 Z p0 p1 kc x0 cs h0 n0) := by
  refine W.bodyOf (Ls := #[.val (.ref p0), .val (.ref p1)]) (plainFor_of_name pn_java_lang_String) (fun m => by first | exact W.entry_of rfl) ?_
  intro p e s m below meth c T0 C X0 e0
  have N0 := Fr.nil n0
  have K0 := Keep.refl h0 [p0]
  have ne01 : p0 ≠ p1 := E0.neArv Vc (W.ww hw 2 rfl)
  refine W.aloadN (q := 1) X0 C d1_0 rfl rfl rfl ?_
  refine W.aloadN (q := 2) X0 C d1_1 rfl rfl rfl ?_
  refine W.iconst (q := 3) (v := 0) X0 C d1_2 rfl rfl ?_
  refine W.aloadN (q := 4) X0 C d1_3 rfl rfl rfl ?_
  refine W.arraylength (q := 5) X0 C e0 Vc d1_4 rfl ?_
  refine W.aconst (q := 6) X0 C d1_5 rfl ?_
  refine W.callI (q := 9) X0 C rfl (W.ww hw 7 rfl) (W.ww hw 8 rfl) (W.ww hw 3 rfl) (W.ww hw 10 rfl) (by decide) (rm2_1 l Z a0 hw [] p0 p1 kc x0 cs h0 n0 Z0 hge E0 F0a F0b Vc hr0 O0 SC hcs SA SH SL) e0 d1_6 (a := p0) [(.ref p1), (.int (0 : Int32)), (.int (1 : Int32)), .null] [] rfl rfl pd__28_5bCIILjava_2flang_2fVoid_3b_29V rfl rfl (by decide) (Nat.le_of_ble_eq_true rfl) (by decide) (by decide) rfl (fun T327 w327 L327 X327 hQ327 => ?_)
  obtain ⟨rfl, NL327, K327, Yn327⟩ := hQ327
  have N327 := Fr.app N0 NL327
  have Vc_329 := Vc.keep K327 (ninS (Ne.symm ne01) nin0)
  have O0_330 := O0.keep K327 (allS hge all0)
  have E0_331 := E0.keep K327
  have n0_327 : n0 ≤ T327.heap.size := Nat.le_trans Z0 K327.1
  have KK327 := K0.trans K327 (allS (Or.inl (List.mem_singleton.mpr rfl)) all0)
  show W.Go p e below _ (T327.setTop (mkF m 9 #[.val (.ref p0), .val (.ref p1)] []))
  exact W.retV X327 C rfl d1_9 (by decide) (by decide) ⟨rfl, N327, KK327, Yn327⟩
def Q20_2 (Z : State) (u0 : Int32) (h0 : Heap) (n0 : Nat) (v : Option Value) (h : Heap) (L : List Loc) : Prop := v = some (.int (4 : Int32)) ∧ Fr n0 L ∧ h = h0
theorem rm20_2 (l : Launch) (Z : State) (a0 : Array Value) (hw : own_HW a0 Z) (ws : List Jvm.Cond) (u0 : Int32) (h0 : Heap) (n0 : Nat) : own_M l y20 jdk_52_method_3_code 1 (some .int) ws r_0_0_0_0 #[(.int (2 : Int32))] Z h0 (Q20_2 Z u0 h0 n0) := by
  refine W.bodyOf (Ls := #[.val (.int (2 : Int32))]) (plainFor_of_name pn_java_lang_StringUTF16) (fun m => by first | exact W.entry_of rfl) ?_
  intro p e s m below meth c T0 C X0 e0
  have N0 := Fr.nil n0
  refine W.iloadN (q := 1) X0 C d20_0 rfl rfl ?_
  refine W.ifT (q := 12) X0 C d20_1 (by decide) (by decide) (by decide : W.cT .ge (2 : Int32) 0) ?_
  refine W.iloadN (q := 13) X0 C d20_12 rfl rfl ?_
  refine W.ldcI (q := 15) X0 C (W.ww hw 87 rfl) d20_13 rfl ?_
  refine W.icmpT (q := 55) X0 C d20_15 (by decide) (by decide) (by decide : W.cT .lt (2 : Int32) (1073741823 : Int32)) ?_
  refine W.iloadN (q := 56) X0 C d20_55 rfl rfl ?_
  refine W.iconst (q := 57) (v := 1) X0 C d20_56 rfl rfl ?_
  refine W.ishl (q := 58) X0 C d20_57 rfl ?_
  rw [show ((2 : Int32) <<< ((1 : Int32) &&& 31)) = (4 : Int32) by decide]
  exact W.retI X0 C e0 d20_58 (by decide) (by decide) ⟨rfl, N0, rfl⟩
def Q19_2 (Z : State) (u0 : Int32) (h0 : Heap) (n0 : Nat) (v : Option Value) (h : Heap) (L : List Loc) : Prop := ∃ b kb, v = some (.ref b) ∧ Fr n0 L ∧ Keep h0 h [] ∧ h0.size ≤ b ∧ Arv Z h b kb .byte (4 : Int32) [(.int (0 : Int32)), (.int (0 : Int32)), (.int (0 : Int32)), (.int (0 : Int32))] (.int (0 : Int32))
theorem rm19_2 (l : Launch) (Z : State) (a0 : Array Value) (hw : own_HW a0 Z) (ws : List Jvm.Cond) (u0 : Int32) (h0 : Heap) (n0 : Nat) (Z0 : n0 ≤ h0.size) : own_M l y19 jdk_52_method_2_code 1 (some (.array .byte)) ws r_1_1_8_16 #[(.int (2 : Int32))] Z h0 (Q19_2 Z u0 h0 n0) := by
  refine W.bodyOf (Ls := #[.val (.int (2 : Int32))]) (plainFor_of_name pn_java_lang_StringUTF16) (fun m => by first | exact W.entry_of rfl) ?_
  intro p e s m below meth c T0 C X0 e0
  have N0 := Fr.nil n0
  have K0 := Keep.refl h0 []
  refine W.iloadN (q := 1) X0 C d19_0 rfl rfl ?_
  refine W.callS (q := 4) X0 C (W.ww hw 84 rfl) (W.ww hw 85 rfl) (W.ww hw 67 rfl) (W.ww hw 86 rfl) (by decide) (rm20_2 l Z a0 hw [] 0 h0 n0) e0 d19_1 [(.int (2 : Int32))] [] rfl rfl pd__28I_29I rfl rfl (by decide) (Nat.le_of_ble_eq_true rfl) (by decide) (by decide) rfl (fun T332 w332 L332 X332 hQ332 => ?_)
  obtain ⟨rfl, NL332, e332⟩ := hQ332
  have N332 := Fr.app N0 NL332
  show W.Go p e below _ (T332.setTop (mkF m 4 #[.val (.int (2 : Int32))] [(.int (4 : Int32))]))
  refine W.newarray (q := 6) X332 C (W.ww hw 15 rfl) e332 (by decide) 4 (by decide) (by decide) d19_4 (by decide) (by decide) rfl (fun T333 h333 b333 k333 X333 e333 g333 E333 V333_ => ?_)
  have ge_b333 : n0 ≤ b333 := by rw [g333]; exact Z0
  have sz_b333 : h0.size ≤ b333 := by rw [g333]; exact K0.1
  have n0_333 : n0 ≤ h333.size := Nat.le_trans Z0 E333.1
  have K333 := K0.ext E333
  have V333 : Arv Z h333 b333 k333 .byte (4 : Int32) [(.int (0 : Int32)), (.int (0 : Int32)), (.int (0 : Int32)), (.int (0 : Int32))] (.int (0 : Int32)) := V333_
  exact W.retA X333 C rfl e333 rfl d19_6 (by decide) (by decide) ⟨_, _, rfl, N332, K333, sz_b333, V333⟩
def Q21_2_0 (Z : State) (p0 : Addr) (kb : ClassId) (y0 y1 y2 y3 p2 : Int32) (h0 : Heap) (n0 : Nat) (v : Option Value) (h : Heap) (L : List Loc) : Prop := v = none ∧ Fr n0 L ∧ Keep h0 h [p0] ∧ Arv Z h p0 kb .byte (4 : Int32) [(.int (own_hb p2)), (.int (own_lb p2)), (.int y2), (.int y3)] (.int (0 : Int32))
theorem rm21_2_0 (l : Launch) (Z : State) (a0 : Array Value) (hw : own_HW a0 Z) (ws : List Jvm.Cond) (p0 : Addr) (kb : ClassId) (y0 y1 y2 y3 p2 : Int32) (h0 : Heap) (n0 : Nat) (Z0 : n0 ≤ h0.size) (hge : n0 ≤ p0) (V0 : Arv Z h0 p0 kb .byte (4 : Int32) [(.int y0), (.int y1), (.int y2), (.int y3)] (.int (0 : Int32))) (SA : Sta Z h0 "java/lang/StringUTF16" "$assertionsDisabled" "Z" (.int (1 : Int32))) (SH : Sta Z h0 "java/lang/StringUTF16" "HI_BYTE_SHIFT" "I" (.int (0 : Int32))) (SL : Sta Z h0 "java/lang/StringUTF16" "LO_BYTE_SHIFT" "I" (.int (8 : Int32))) : own_M l y21 jdk_52_method_4_code 3 none ws r_0_0_0_0 #[(.ref p0), (.int (0 : Int32)), (.int p2)] Z h0 (Q21_2_0 Z p0 kb y0 y1 y2 y3 p2 h0 n0) := by
  refine W.bodyOf (Ls := #[.val (.ref p0), .val (.int (0 : Int32)), .val (.int p2)]) (plainFor_of_name pn_java_lang_StringUTF16) (fun m => by first | exact W.entry_of rfl) ?_
  intro p e s m below meth c T0 C X0 e0
  have N0 := Fr.nil n0
  have K0 := Keep.refl h0 [p0]
  refine W.getS (q := 3) X0 C (W.ww hw 91 rfl) Via.refl e0 SA d21_0 rfl (fun T335 X335 e335 => ?_)
  refine W.ifT (q := 28) X335 C d21_3 (by decide) (by decide) (by decide : W.cT .ne (1 : Int32) 0) ?_
  refine W.iloadN (q := 29) X335 C d21_28 rfl rfl ?_
  refine W.iconst (q := 30) (v := 1) X335 C d21_29 rfl rfl ?_
  refine W.ishl (q := 31) X335 C d21_30 rfl ?_
  rw [show ((0 : Int32) <<< ((1 : Int32) &&& 31)) = (0 : Int32) by decide]
  refine W.istoreN (q := 32) (L' := #[.val (.ref p0), .val (.int (0 : Int32)), .val (.int p2)]) X335 C d21_31 rfl rfl ?_
  refine W.aloadN (q := 33) X335 C d21_32 rfl rfl rfl ?_
  refine W.iloadN (q := 34) X335 C d21_33 rfl rfl ?_
  refine W.iinc (q := 37) (L' := #[.val (.ref p0), .val (.int (1 : Int32)), .val (.int p2)]) X335 C d21_34 rfl (by decide) rfl rfl ?_
  refine W.iloadN (q := 38) X335 C d21_37 rfl rfl ?_
  refine W.getS (q := 41) X335 C (W.ww hw 92 rfl) Via.refl e335 SH d21_38 rfl (fun T336 X336 e336 => ?_)
  refine W.ishr (q := 42) X336 C d21_41 rfl ?_
  refine W.i2b (q := 43) X336 C d21_42 rfl ?_
  refine W.bastore (q := 44) X336 C e336 V0  (by decide) (by decide) (Nat.le_of_ble_eq_true rfl) d21_43 rfl (fun T337 h337 X337 e337 W337 V337_ => ?_)
  rw [own_bb (p2 >>> ((0 : Int32) &&& 31))] at V337_
  have SA_339 := SA.wr W337
  have SH_340 := SH.wr W337
  have SL_341 := SL.wr W337
  have V337 : Arv Z h337 p0 kb .byte (4 : Int32) [(.int ((p2 >>> ((0 : Int32) &&& 31)).toInt8.toInt32)), (.int y1), (.int y2), (.int y3)] (.int (0 : Int32)) := V337_
  have N337 := Fr.snoc X337 N0 hge
  have K337 := K0.wr W337 (Or.inl (by simp))
  have n0_337 : n0 ≤ h337.size := by rw [W337.size]; exact Z0
  refine W.aloadN (q := 45) X337 C d21_44 rfl rfl rfl ?_
  refine W.iloadN (q := 46) X337 C d21_45 rfl rfl ?_
  refine W.iloadN (q := 47) X337 C d21_46 rfl rfl ?_
  refine W.getS (q := 50) X337 C (W.ww hw 93 rfl) Via.refl e337 SL_341 d21_47 rfl (fun T343 X343 e343 => ?_)
  refine W.ishr (q := 51) X343 C d21_50 rfl ?_
  refine W.i2b (q := 52) X343 C d21_51 rfl ?_
  refine W.bastore (q := 53) X343 C e343 V337  (by decide) (by decide) (Nat.le_of_ble_eq_true rfl) d21_52 rfl (fun T344 h344 X344 e344 W344 V344_ => ?_)
  rw [own_bb (p2 >>> ((8 : Int32) &&& 31))] at V344_
  have SA_346 := SA_339.wr W344
  have SH_347 := SH_340.wr W344
  have SL_348 := SL_341.wr W344
  have V344 : Arv Z h344 p0 kb .byte (4 : Int32) [(.int ((p2 >>> ((0 : Int32) &&& 31)).toInt8.toInt32)), (.int ((p2 >>> ((8 : Int32) &&& 31)).toInt8.toInt32)), (.int y2), (.int y3)] (.int (0 : Int32)) := V344_
  have N344 := Fr.snoc X344 N337 hge
  have K344 := K337.wr W344 (Or.inl (by simp))
  have n0_344 : n0 ≤ h344.size := by rw [W344.size]; exact n0_337
  exact W.retV X344 C e344 d21_53 (by decide) (by decide) ⟨rfl, N344, K344, V344⟩
def Q21_2_1 (Z : State) (p0 : Addr) (kb : ClassId) (y0 y1 y2 y3 p2 : Int32) (h0 : Heap) (n0 : Nat) (v : Option Value) (h : Heap) (L : List Loc) : Prop := v = none ∧ Fr n0 L ∧ Keep h0 h [p0] ∧ Arv Z h p0 kb .byte (4 : Int32) [(.int y0), (.int y1), (.int (own_hb p2)), (.int (own_lb p2))] (.int (0 : Int32))
theorem rm21_2_1 (l : Launch) (Z : State) (a0 : Array Value) (hw : own_HW a0 Z) (ws : List Jvm.Cond) (p0 : Addr) (kb : ClassId) (y0 y1 y2 y3 p2 : Int32) (h0 : Heap) (n0 : Nat) (Z0 : n0 ≤ h0.size) (hge : n0 ≤ p0) (V0 : Arv Z h0 p0 kb .byte (4 : Int32) [(.int y0), (.int y1), (.int y2), (.int y3)] (.int (0 : Int32))) (SA : Sta Z h0 "java/lang/StringUTF16" "$assertionsDisabled" "Z" (.int (1 : Int32))) (SH : Sta Z h0 "java/lang/StringUTF16" "HI_BYTE_SHIFT" "I" (.int (0 : Int32))) (SL : Sta Z h0 "java/lang/StringUTF16" "LO_BYTE_SHIFT" "I" (.int (8 : Int32))) : own_M l y21 jdk_52_method_4_code 3 none ws r_0_0_0_0 #[(.ref p0), (.int (1 : Int32)), (.int p2)] Z h0 (Q21_2_1 Z p0 kb y0 y1 y2 y3 p2 h0 n0) := by
  refine W.bodyOf (Ls := #[.val (.ref p0), .val (.int (1 : Int32)), .val (.int p2)]) (plainFor_of_name pn_java_lang_StringUTF16) (fun m => by first | exact W.entry_of rfl) ?_
  intro p e s m below meth c T0 C X0 e0
  have N0 := Fr.nil n0
  have K0 := Keep.refl h0 [p0]
  refine W.getS (q := 3) X0 C (W.ww hw 91 rfl) Via.refl e0 SA d21_0 rfl (fun T350 X350 e350 => ?_)
  refine W.ifT (q := 28) X350 C d21_3 (by decide) (by decide) (by decide : W.cT .ne (1 : Int32) 0) ?_
  refine W.iloadN (q := 29) X350 C d21_28 rfl rfl ?_
  refine W.iconst (q := 30) (v := 1) X350 C d21_29 rfl rfl ?_
  refine W.ishl (q := 31) X350 C d21_30 rfl ?_
  rw [show ((1 : Int32) <<< ((1 : Int32) &&& 31)) = (2 : Int32) by decide]
  refine W.istoreN (q := 32) (L' := #[.val (.ref p0), .val (.int (2 : Int32)), .val (.int p2)]) X350 C d21_31 rfl rfl ?_
  refine W.aloadN (q := 33) X350 C d21_32 rfl rfl rfl ?_
  refine W.iloadN (q := 34) X350 C d21_33 rfl rfl ?_
  refine W.iinc (q := 37) (L' := #[.val (.ref p0), .val (.int (3 : Int32)), .val (.int p2)]) X350 C d21_34 rfl (by decide) rfl rfl ?_
  refine W.iloadN (q := 38) X350 C d21_37 rfl rfl ?_
  refine W.getS (q := 41) X350 C (W.ww hw 92 rfl) Via.refl e350 SH d21_38 rfl (fun T351 X351 e351 => ?_)
  refine W.ishr (q := 42) X351 C d21_41 rfl ?_
  refine W.i2b (q := 43) X351 C d21_42 rfl ?_
  refine W.bastore (q := 44) X351 C e351 V0  (by decide) (by decide) (Nat.le_of_ble_eq_true rfl) d21_43 rfl (fun T352 h352 X352 e352 W352 V352_ => ?_)
  rw [own_bb (p2 >>> ((0 : Int32) &&& 31))] at V352_
  have SA_354 := SA.wr W352
  have SH_355 := SH.wr W352
  have SL_356 := SL.wr W352
  have V352 : Arv Z h352 p0 kb .byte (4 : Int32) [(.int y0), (.int y1), (.int ((p2 >>> ((0 : Int32) &&& 31)).toInt8.toInt32)), (.int y3)] (.int (0 : Int32)) := V352_
  have N352 := Fr.snoc X352 N0 hge
  have K352 := K0.wr W352 (Or.inl (by simp))
  have n0_352 : n0 ≤ h352.size := by rw [W352.size]; exact Z0
  refine W.aloadN (q := 45) X352 C d21_44 rfl rfl rfl ?_
  refine W.iloadN (q := 46) X352 C d21_45 rfl rfl ?_
  refine W.iloadN (q := 47) X352 C d21_46 rfl rfl ?_
  refine W.getS (q := 50) X352 C (W.ww hw 93 rfl) Via.refl e352 SL_356 d21_47 rfl (fun T358 X358 e358 => ?_)
  refine W.ishr (q := 51) X358 C d21_50 rfl ?_
  refine W.i2b (q := 52) X358 C d21_51 rfl ?_
  refine W.bastore (q := 53) X358 C e358 V352  (by decide) (by decide) (Nat.le_of_ble_eq_true rfl) d21_52 rfl (fun T359 h359 X359 e359 W359 V359_ => ?_)
  rw [own_bb (p2 >>> ((8 : Int32) &&& 31))] at V359_
  have SA_361 := SA_354.wr W359
  have SH_362 := SH_355.wr W359
  have SL_363 := SL_356.wr W359
  have V359 : Arv Z h359 p0 kb .byte (4 : Int32) [(.int y0), (.int y1), (.int ((p2 >>> ((0 : Int32) &&& 31)).toInt8.toInt32)), (.int ((p2 >>> ((8 : Int32) &&& 31)).toInt8.toInt32))] (.int (0 : Int32)) := V359_
  have N359 := Fr.snoc X359 N352 hge
  have K359 := K352.wr W359 (Or.inl (by simp))
  have n0_359 : n0 ≤ h359.size := by rw [W359.size]; exact n0_352
  exact W.retV X359 C e359 d21_53 (by decide) (by decide) ⟨rfl, N359, K359, V359⟩
def Q18_2 (Z : State) (p0 : Addr) (kc : ClassId) (x0 x1 : Int32) (h0 : Heap) (n0 : Nat) (v : Option Value) (h : Heap) (L : List Loc) : Prop := ∃ b kb, v = some (.ref b) ∧ Fr n0 L ∧ Keep h0 h [] ∧ Arv Z h b kb .byte (4 : Int32) [(.int (own_hb x0)), (.int (own_lb x0)), (.int (own_hb x1)), (.int (own_lb x1))] (.int (0 : Int32))
theorem rm18_2 (l : Launch) (Z : State) (a0 : Array Value) (hw : own_HW a0 Z) (ws : List Jvm.Cond) (p0 : Addr) (kc : ClassId) (x0 x1 : Int32) (h0 : Heap) (n0 : Nat) (Z0 : n0 ≤ h0.size) (Vc : Arv Z h0 p0 kc .char (2 : Int32) [(.int x0), (.int x1)] (.int (0 : Int32))) (O0 : Old Z n0 h0) (SA : Sta Z Z.heap "java/lang/StringUTF16" "$assertionsDisabled" "Z" (.int (1 : Int32))) (SH : Sta Z Z.heap "java/lang/StringUTF16" "HI_BYTE_SHIFT" "I" (.int (0 : Int32))) (SL : Sta Z Z.heap "java/lang/StringUTF16" "LO_BYTE_SHIFT" "I" (.int (8 : Int32))) : own_M l y18 jdk_52_method_14_code 5 (some (.array .byte)) ws r_2_1_8_32 #[(.ref p0), (.int (0 : Int32)), (.int (2 : Int32))] Z h0 (Q18_2 Z p0 kc x0 x1 h0 n0) := by
  refine W.bodyOf (Ls := #[.val (.ref p0), .val (.int (0 : Int32)), .val (.int (2 : Int32)), .unset, .unset]) (plainFor_of_name pn_java_lang_StringUTF16) (fun m => by first | exact W.entry_of rfl) ?_
  intro p e s m below meth c T0 C X0 e0
  have N0 := Fr.nil n0
  have K0 := Keep.refl h0 []
  refine W.iloadN (q := 1) X0 C d18_0 rfl rfl ?_
  refine W.callS (q := 4) X0 C (W.ww hw 81 rfl) (W.ww hw 82 rfl) (W.ww hw 67 rfl) (W.ww hw 83 rfl) (by decide) (rm19_2 l Z a0 hw [] 0 h0 n0 Z0) e0 d18_1 [(.int (2 : Int32))] [] rfl rfl pd__28I_29_5bB rfl rfl (by decide) (Nat.le_of_ble_eq_true rfl) (by decide) (by decide) rfl (fun T365 w365 L365 X365 hQ365 => ?_)
  obtain ⟨b365, kb365, rfl, NL365, K365, hz365, V365⟩ := hQ365
  have N365 := Fr.app N0 NL365
  have ne_p0_b365 : p0 ≠ b365 := Nat.ne_of_lt (Nat.lt_of_lt_of_le Vc.lt hz365)
  have ge_b365 : n0 ≤ b365 := Nat.le_trans Z0 hz365
  have sz_b365 : h0.size ≤ b365 := Nat.le_trans K0.1 hz365
  have Vc_367 := Vc.keep K365 nin0
  have O0_368 := O0.keep K365 all0
  have n0_365 : n0 ≤ T365.heap.size := Nat.le_trans Z0 K365.1
  have KK365 := K0.trans K365 all0
  show W.Go p e below _ (T365.setTop (mkF m 4 #[.val (.ref p0), .val (.int (0 : Int32)), .val (.int (2 : Int32)), .unset, .unset] [(.ref b365)]))
  refine W.astoreN (q := 5) (L' := #[.val (.ref p0), .val (.int (0 : Int32)), .val (.int (2 : Int32)), .val (.ref b365), .unset]) X365 C d18_4 rfl rfl rfl ?_
  refine W.iconst (q := 6) (v := 0) X365 C d18_5 rfl rfl ?_
  refine W.istore (q := 8) (L' := #[.val (.ref p0), .val (.int (0 : Int32)), .val (.int (2 : Int32)), .val (.ref b365), .val (.int (0 : Int32))]) X365 C d18_6 rfl rfl ?_
  refine W.iload (q := 10) X365 C d18_8 rfl rfl ?_
  refine W.iloadN (q := 11) X365 C d18_10 rfl rfl ?_
  refine W.icmpF (q := 14) X365 C d18_11 rfl (by decide : W.cF .ge (0 : Int32) (2 : Int32)) ?_
  refine W.aloadN (q := 15) X365 C d18_14 rfl rfl rfl ?_
  refine W.iload (q := 17) X365 C d18_15 rfl rfl ?_
  refine W.aloadN (q := 18) X365 C d18_17 rfl rfl rfl ?_
  refine W.iloadN (q := 19) X365 C d18_18 rfl rfl ?_
  refine W.caload (q := 20) X365 C rfl Vc_367 (by decide) (by decide) rfl d18_19 rfl ?_
  refine W.callS (q := 23) X365 C (W.ww hw 88 rfl) (W.ww hw 89 rfl) (W.ww hw 67 rfl) (W.ww hw 90 rfl) (by decide) (rm21_2_0 l Z a0 hw [] b365 kb365 (0 : Int32) (0 : Int32) (0 : Int32) (0 : Int32) x0 T365.heap n0 n0_365 ge_b365 V365 (SA.ext O0_368.2) (SH.ext O0_368.2) (SL.ext O0_368.2)) rfl d18_20 [(.ref b365), (.int (0 : Int32)), (.int x0)] [] rfl rfl pd__28_5bBII_29V rfl rfl (by decide) (Nat.le_of_ble_eq_true rfl) (by decide) (by decide) rfl (fun T369 w369 L369 X369 hQ369 => ?_)
  obtain ⟨rfl, NL369, K369, V369⟩ := hQ369
  have N369 := Fr.app N365 NL369
  have Vc_371 := Vc_367.keep K369 (ninS ne_p0_b365 nin0)
  have O0_372 := O0_368.keep K369 (allS ge_b365 all0)
  have n0_369 : n0 ≤ T369.heap.size := Nat.le_trans n0_365 K369.1
  have KK369 := KK365.trans K369 (allS (Or.inr sz_b365) all0)
  show W.Go p e below _ (T369.setTop (mkF m 23 #[.val (.ref p0), .val (.int (0 : Int32)), .val (.int (2 : Int32)), .val (.ref b365), .val (.int (0 : Int32))] []))
  refine W.iinc (q := 26) (L' := #[.val (.ref p0), .val (.int (1 : Int32)), .val (.int (2 : Int32)), .val (.ref b365), .val (.int (0 : Int32))]) X369 C d18_23 rfl (by decide) rfl rfl ?_
  refine W.iinc (q := 29) (L' := #[.val (.ref p0), .val (.int (1 : Int32)), .val (.int (2 : Int32)), .val (.ref b365), .val (.int (1 : Int32))]) X369 C d18_26 rfl (by decide) rfl rfl ?_
  refine W.goto (q := 8) X369 C d18_29 (by decide) (by decide) ?_
  refine W.iload (q := 10) X369 C d18_8 rfl rfl ?_
  refine W.iloadN (q := 11) X369 C d18_10 rfl rfl ?_
  refine W.icmpF (q := 14) X369 C d18_11 rfl (by decide : W.cF .ge (1 : Int32) (2 : Int32)) ?_
  refine W.aloadN (q := 15) X369 C d18_14 rfl rfl rfl ?_
  refine W.iload (q := 17) X369 C d18_15 rfl rfl ?_
  refine W.aloadN (q := 18) X369 C d18_17 rfl rfl rfl ?_
  refine W.iloadN (q := 19) X369 C d18_18 rfl rfl ?_
  refine W.caload (q := 20) X369 C rfl Vc_371 (by decide) (by decide) rfl d18_19 rfl ?_
  refine W.callS (q := 23) X369 C (W.ww hw 88 rfl) (W.ww hw 89 rfl) (W.ww hw 67 rfl) (W.ww hw 90 rfl) (by decide) (rm21_2_1 l Z a0 hw [] b365 kb365 (own_hb x0) (own_lb x0) (0 : Int32) (0 : Int32) x1 T369.heap n0 n0_369 ge_b365 V369 (SA.ext O0_372.2) (SH.ext O0_372.2) (SL.ext O0_372.2)) rfl d18_20 [(.ref b365), (.int (1 : Int32)), (.int x1)] [] rfl rfl pd__28_5bBII_29V rfl rfl (by decide) (Nat.le_of_ble_eq_true rfl) (by decide) (by decide) rfl (fun T373 w373 L373 X373 hQ373 => ?_)
  obtain ⟨rfl, NL373, K373, V373⟩ := hQ373
  have N373 := Fr.app N369 NL373
  have Vc_375 := Vc_371.keep K373 (ninS ne_p0_b365 nin0)
  have O0_376 := O0_372.keep K373 (allS ge_b365 all0)
  have n0_373 : n0 ≤ T373.heap.size := Nat.le_trans n0_369 K373.1
  have KK373 := KK369.trans K373 (allS (Or.inr sz_b365) all0)
  show W.Go p e below _ (T373.setTop (mkF m 23 #[.val (.ref p0), .val (.int (1 : Int32)), .val (.int (2 : Int32)), .val (.ref b365), .val (.int (1 : Int32))] []))
  refine W.iinc (q := 26) (L' := #[.val (.ref p0), .val (.int (2 : Int32)), .val (.int (2 : Int32)), .val (.ref b365), .val (.int (1 : Int32))]) X373 C d18_23 rfl (by decide) rfl rfl ?_
  refine W.iinc (q := 29) (L' := #[.val (.ref p0), .val (.int (2 : Int32)), .val (.int (2 : Int32)), .val (.ref b365), .val (.int (2 : Int32))]) X373 C d18_26 rfl (by decide) rfl rfl ?_
  refine W.goto (q := 8) X373 C d18_29 (by decide) (by decide) ?_
  refine W.iload (q := 10) X373 C d18_8 rfl rfl ?_
  refine W.iloadN (q := 11) X373 C d18_10 rfl rfl ?_
  refine W.icmpT (q := 32) X373 C d18_11 (by decide) (by decide) (by decide : W.cT .ge (2 : Int32) (2 : Int32)) ?_
  refine W.aloadN (q := 33) X373 C d18_32 rfl rfl rfl ?_
  exact W.retA X373 C rfl rfl rfl d18_33 (by decide) (by decide) ⟨_, _, rfl, N373, KK373, V373⟩
def Q14_2 (Z : State) (p0 : Addr) (kc : ClassId) (x0 x1 : Int32) (h0 : Heap) (n0 : Nat) (v : Option Value) (h : Heap) (L : List Loc) : Prop := ∃ b kb, v = some (.ref b) ∧ Fr n0 L ∧ Keep h0 h [] ∧ ((own_r8 x0 ∧ own_r8 x1 ∧ Arv Z h b kb .byte (2 : Int32) [(.int (x0.toInt8.toInt32)), (.int (x1.toInt8.toInt32))] (.int (0 : Int32))) ∨ Arv Z h b kb .byte (4 : Int32) [(.int (own_hb x0)), (.int (own_lb x0)), (.int (own_hb x1)), (.int (own_lb x1))] (.int (0 : Int32)))
theorem rm14_2 (l : Launch) (Z : State) (a0 : Array Value) (hw : own_HW a0 Z) (ws : List Jvm.Cond) (p0 : Addr) (kc : ClassId) (x0 x1 : Int32) (h0 : Heap) (n0 : Nat) (Z0 : n0 ≤ h0.size) (Vc : Arv Z h0 p0 kc .char (2 : Int32) [(.int x0), (.int x1)] (.int (0 : Int32))) (hr0 : own_r16 x0) (hr1 : own_r16 x1) (O0 : Old Z n0 h0) (SA : Sta Z Z.heap "java/lang/StringUTF16" "$assertionsDisabled" "Z" (.int (1 : Int32))) (SH : Sta Z Z.heap "java/lang/StringUTF16" "HI_BYTE_SHIFT" "I" (.int (0 : Int32))) (SL : Sta Z Z.heap "java/lang/StringUTF16" "LO_BYTE_SHIFT" "I" (.int (8 : Int32))) : own_M l y14 jdk_52_method_16_code 6 (some (.array .byte)) ws r_3_2_12_50 #[(.ref p0), (.int (0 : Int32)), (.int (2 : Int32))] Z h0 (Q14_2 Z p0 kc x0 x1 h0 n0) := by
  refine W.bodyOf (Ls := #[.val (.ref p0), .val (.int (0 : Int32)), .val (.int (2 : Int32)), .unset, .unset, .unset]) (plainFor_of_name pn_java_lang_StringUTF16) (fun m => by first | exact W.entry_of rfl) ?_
  intro p e s m below meth c T0 C X0 e0
  have N0 := Fr.nil n0
  have K0 := Keep.refl h0 []
  refine W.iloadN (q := 1) X0 C d14_0 rfl rfl ?_
  refine W.newarray (q := 3) X0 C (W.ww hw 15 rfl) e0 (by decide) 2 (by decide) (by decide) d14_1 (by decide) (by decide) rfl (fun T377 h377 b377 k377 X377 e377 g377 E377 V377_ => ?_)
  have ne_p0_b377 : p0 ≠ b377 := by rw [g377]; exact Nat.ne_of_lt Vc.lt
  have ge_b377 : n0 ≤ b377 := by rw [g377]; exact Z0
  have sz_b377 : h0.size ≤ b377 := by rw [g377]; exact K0.1
  have n0_377 : n0 ≤ h377.size := Nat.le_trans Z0 E377.1
  have Vc_379 := Vc.ext E377
  have O0_380 := O0.ext E377
  have K377 := K0.ext E377
  have V377 : Arv Z h377 b377 k377 .byte (2 : Int32) [(.int (0 : Int32)), (.int (0 : Int32))] (.int (0 : Int32)) := V377_
  refine W.astoreN (q := 4) (L' := #[.val (.ref p0), .val (.int (0 : Int32)), .val (.int (2 : Int32)), .val (.ref b377), .unset, .unset]) X377 C d14_3 rfl rfl rfl ?_
  refine W.aloadN (q := 5) X377 C d14_4 rfl rfl rfl ?_
  refine W.iloadN (q := 6) X377 C d14_5 rfl rfl ?_
  refine W.aloadN (q := 7) X377 C d14_6 rfl rfl rfl ?_
  refine W.iconst (q := 8) (v := 0) X377 C d14_7 rfl rfl ?_
  refine W.iloadN (q := 9) X377 C d14_8 rfl rfl ?_
  refine W.callS (q := 12) X377 C (W.ww hw 69 rfl) (W.ww hw 70 rfl) (W.ww hw 67 rfl) (W.ww hw 71 rfl) (by decide) (rm15_2 l Z a0 hw [] p0 b377 kc k377 x0 x1 h377 n0 n0_377 ge_b377 ne_p0_b377 Vc_379 V377 hr0 hr1) e377 d14_9 [(.ref p0), (.int (0 : Int32)), (.ref b377), (.int (0 : Int32)), (.int (2 : Int32))] [] rfl rfl pd__28_5bCI_5bBII_29I rfl rfl (by decide) (Nat.le_of_ble_eq_true rfl) (by decide) (by decide) rfl (fun T381 w381 L381 X381 hQ381 => ?_)
  obtain ⟨NL381, K381, D381⟩ := hQ381
  have N381 := Fr.app N0 NL381
  have Vc_383 := Vc_379.keep K381 (ninS ne_p0_b377 nin0)
  have O0_384 := O0_380.keep K381 (allS ge_b377 all0)
  have n0_381 : n0 ≤ T381.heap.size := Nat.le_trans n0_377 K381.1
  have KK381 := K377.trans K381 (allS (Or.inr sz_b377) all0)
  rcases D381 with ⟨rfl, hx0, hx1, Vl⟩ | ⟨rfl, hbig⟩ | ⟨rfl, hbig⟩
  · show W.Go p e below _ (T381.setTop (mkF m 12 #[.val (.ref p0), .val (.int (0 : Int32)), .val (.int (2 : Int32)), .val (.ref b377), .unset, .unset] [(.int (2 : Int32))]))
    refine W.istore (q := 14) (L' := #[.val (.ref p0), .val (.int (0 : Int32)), .val (.int (2 : Int32)), .val (.ref b377), .val (.int (2 : Int32)), .unset]) X381 C d14_12 rfl rfl ?_
    refine W.iload (q := 16) X381 C d14_14 rfl rfl ?_
    refine W.iloadN (q := 17) X381 C d14_16 rfl rfl ?_
    refine W.icmpT (q := 57) X381 C d14_17 (by decide) (by decide) (by decide : W.cT .eq (2 : Int32) (2 : Int32)) ?_
    refine W.aloadN (q := 58) X381 C d14_57 rfl rfl rfl ?_
    exact W.retA X381 C rfl rfl rfl d14_58 (by decide) (by decide) ⟨_, _, rfl, N381, KK381, Or.inl ⟨hx0, hx1, Vl⟩⟩
  · show W.Go p e below _ (T381.setTop (mkF m 12 #[.val (.ref p0), .val (.int (0 : Int32)), .val (.int (2 : Int32)), .val (.ref b377), .unset, .unset] [(.int (0 : Int32))]))
    refine W.istore (q := 14) (L' := #[.val (.ref p0), .val (.int (0 : Int32)), .val (.int (2 : Int32)), .val (.ref b377), .val (.int (0 : Int32)), .unset]) X381 C d14_12 rfl rfl ?_
    refine W.iload (q := 16) X381 C d14_14 rfl rfl ?_
    refine W.iloadN (q := 17) X381 C d14_16 rfl rfl ?_
    refine W.icmpF (q := 20) X381 C d14_17 rfl (by decide : W.cF .eq (0 : Int32) (2 : Int32)) ?_
    refine W.aloadN (q := 21) X381 C d14_20 rfl rfl rfl ?_
    refine W.iloadN (q := 22) X381 C d14_21 rfl rfl ?_
    refine W.iloadN (q := 23) X381 C d14_22 rfl rfl ?_
    refine W.callS (q := 26) X381 C (W.ww hw 78 rfl) (W.ww hw 79 rfl) (W.ww hw 67 rfl) (W.ww hw 80 rfl) (by decide) (rm18_2 l Z a0 hw [] p0 kc x0 x1 T381.heap n0 n0_381 Vc_383 O0_384 SA SH SL) rfl d14_23 [(.ref p0), (.int (0 : Int32)), (.int (2 : Int32))] [] rfl rfl pd__28_5bCII_29_5bB rfl rfl (by decide) (Nat.le_of_ble_eq_true rfl) (by decide) (by decide) rfl (fun T385 w385 L385 X385 hQ385 => ?_)
    obtain ⟨b385, kb385, rfl, NL385, K385, V385⟩ := hQ385
    have N385 := Fr.app N381 NL385
    have Vc_387 := Vc_383.keep K385 nin0
    have O0_388 := O0_384.keep K385 all0
    have n0_385 : n0 ≤ T385.heap.size := Nat.le_trans n0_381 K385.1
    have KK385 := KK381.trans K385 all0
    show W.Go p e below _ (T385.setTop (mkF m 26 #[.val (.ref p0), .val (.int (0 : Int32)), .val (.int (2 : Int32)), .val (.ref b377), .val (.int (0 : Int32)), .unset] [(.ref b385)]))
    refine W.astore (q := 28) (L' := #[.val (.ref p0), .val (.int (0 : Int32)), .val (.int (2 : Int32)), .val (.ref b377), .val (.int (0 : Int32)), .val (.ref b385)]) X385 C d14_26 rfl rfl rfl ?_
    refine W.aload (q := 30) X385 C d14_28 rfl rfl rfl ?_
    refine W.iload (q := 32) X385 C d14_30 rfl rfl ?_
    refine W.callS (q := 35) X385 C (W.ww hw 94 rfl) (W.ww hw 95 rfl) (W.ww hw 67 rfl) (W.ww hw 96 rfl) (by decide) (rm22 l Z a0 hw [] b385 kb385 [(.int (own_hb x0)), (.int (own_lb x0)), (.int (own_hb x1)), (.int (own_lb x1))] (4 : Int32) (0 : Int32) (0 : Int32) (1 : Int32) x0 T385.heap n0 V385 (by decide) (by decide) (by decide) (by decide) (by decide) (by decide) rfl rfl hr0 (SA.ext O0_388.2) (SH.ext O0_388.2) (SL.ext O0_388.2)) rfl d14_32 [(.ref b385), (.int (0 : Int32))] [] rfl rfl pd__28_5bBI_29C rfl rfl (by decide) (Nat.le_of_ble_eq_true rfl) (by decide) (by decide) rfl (fun T389 w389 L389 X389 hQ389 => ?_)
    obtain ⟨rfl, NL389, e389⟩ := hQ389
    have N389 := Fr.app N385 NL389
    show W.Go p e below _ (T389.setTop (mkF m 35 #[.val (.ref p0), .val (.int (0 : Int32)), .val (.int (2 : Int32)), .val (.ref b377), .val (.int (0 : Int32)), .val (.ref b385)] [(.int x0)]))
    refine W.sipush (q := 38) (v := 255) X389 C d14_35 rfl rfl ?_
    refine W.icmpT (q := 54) X389 C d14_38 (by decide) (by decide) hbig ?_
    refine W.aload (q := 56) X389 C d14_54 rfl rfl rfl ?_
    exact W.retA X389 C rfl e389 rfl d14_56 (by decide) (by decide) ⟨_, _, rfl, N389, KK385, Or.inr V385⟩
  · show W.Go p e below _ (T381.setTop (mkF m 12 #[.val (.ref p0), .val (.int (0 : Int32)), .val (.int (2 : Int32)), .val (.ref b377), .unset, .unset] [(.int (1 : Int32))]))
    refine W.istore (q := 14) (L' := #[.val (.ref p0), .val (.int (0 : Int32)), .val (.int (2 : Int32)), .val (.ref b377), .val (.int (1 : Int32)), .unset]) X381 C d14_12 rfl rfl ?_
    refine W.iload (q := 16) X381 C d14_14 rfl rfl ?_
    refine W.iloadN (q := 17) X381 C d14_16 rfl rfl ?_
    refine W.icmpF (q := 20) X381 C d14_17 rfl (by decide : W.cF .eq (1 : Int32) (2 : Int32)) ?_
    refine W.aloadN (q := 21) X381 C d14_20 rfl rfl rfl ?_
    refine W.iloadN (q := 22) X381 C d14_21 rfl rfl ?_
    refine W.iloadN (q := 23) X381 C d14_22 rfl rfl ?_
    refine W.callS (q := 26) X381 C (W.ww hw 78 rfl) (W.ww hw 79 rfl) (W.ww hw 67 rfl) (W.ww hw 80 rfl) (by decide) (rm18_2 l Z a0 hw [] p0 kc x0 x1 T381.heap n0 n0_381 Vc_383 O0_384 SA SH SL) rfl d14_23 [(.ref p0), (.int (0 : Int32)), (.int (2 : Int32))] [] rfl rfl pd__28_5bCII_29_5bB rfl rfl (by decide) (Nat.le_of_ble_eq_true rfl) (by decide) (by decide) rfl (fun T390 w390 L390 X390 hQ390 => ?_)
    obtain ⟨b390, kb390, rfl, NL390, K390, V390⟩ := hQ390
    have N390 := Fr.app N381 NL390
    have Vc_392 := Vc_383.keep K390 nin0
    have O0_393 := O0_384.keep K390 all0
    have n0_390 : n0 ≤ T390.heap.size := Nat.le_trans n0_381 K390.1
    have KK390 := KK381.trans K390 all0
    show W.Go p e below _ (T390.setTop (mkF m 26 #[.val (.ref p0), .val (.int (0 : Int32)), .val (.int (2 : Int32)), .val (.ref b377), .val (.int (1 : Int32)), .unset] [(.ref b390)]))
    refine W.astore (q := 28) (L' := #[.val (.ref p0), .val (.int (0 : Int32)), .val (.int (2 : Int32)), .val (.ref b377), .val (.int (1 : Int32)), .val (.ref b390)]) X390 C d14_26 rfl rfl rfl ?_
    refine W.aload (q := 30) X390 C d14_28 rfl rfl rfl ?_
    refine W.iload (q := 32) X390 C d14_30 rfl rfl ?_
    refine W.callS (q := 35) X390 C (W.ww hw 94 rfl) (W.ww hw 95 rfl) (W.ww hw 67 rfl) (W.ww hw 96 rfl) (by decide) (rm22 l Z a0 hw [] b390 kb390 [(.int (own_hb x0)), (.int (own_lb x0)), (.int (own_hb x1)), (.int (own_lb x1))] (4 : Int32) (1 : Int32) (2 : Int32) (3 : Int32) x1 T390.heap n0 V390 (by decide) (by decide) (by decide) (by decide) (by decide) (by decide) rfl rfl hr1 (SA.ext O0_393.2) (SH.ext O0_393.2) (SL.ext O0_393.2)) rfl d14_32 [(.ref b390), (.int (1 : Int32))] [] rfl rfl pd__28_5bBI_29C rfl rfl (by decide) (Nat.le_of_ble_eq_true rfl) (by decide) (by decide) rfl (fun T394 w394 L394 X394 hQ394 => ?_)
    obtain ⟨rfl, NL394, e394⟩ := hQ394
    have N394 := Fr.app N390 NL394
    show W.Go p e below _ (T394.setTop (mkF m 35 #[.val (.ref p0), .val (.int (0 : Int32)), .val (.int (2 : Int32)), .val (.ref b377), .val (.int (1 : Int32)), .val (.ref b390)] [(.int x1)]))
    refine W.sipush (q := 38) (v := 255) X394 C d14_35 rfl rfl ?_
    refine W.icmpT (q := 54) X394 C d14_38 (by decide) (by decide) hbig ?_
    refine W.aload (q := 56) X394 C d14_54 rfl rfl rfl ?_
    exact W.retA X394 C rfl e394 rfl d14_56 (by decide) (by decide) ⟨_, _, rfl, N394, KK390, Or.inr V390⟩
def Q2_2 (Z : State) (p0 p1 : Addr) (kc : ClassId) (x0 x1 : Int32) (cs : Int32) (h0 : Heap) (n0 : Nat) (v : Option Value) (h : Heap) (L : List Loc) : Prop := v = none ∧ Fr n0 L ∧ Keep h0 h [p0] ∧ own_txt2 Z h p0 x0 x1
theorem rm2_2 (l : Launch) (Z : State) (a0 : Array Value) (hw : own_HW a0 Z) (ws : List Jvm.Cond) (p0 p1 : Addr) (kc : ClassId) (x0 x1 : Int32) (cs : Int32) (h0 : Heap) (n0 : Nat) (Z0 : n0 ≤ h0.size) (hge : n0 ≤ p0) (E0 : Exa Z h0 p0 "java/lang/String") (F0a : Fld Z h0 p0 "java/lang/String" "value" "[B" .null) (F0b : Fld Z h0 p0 "java/lang/String" "coder" "B" (.int (0 : Int32))) (Vc : Arv Z h0 p1 kc .char (2 : Int32) [(.int x0), (.int x1)] (.int (0 : Int32))) (hr0 : own_r16 x0) (hr1 : own_r16 x1) (O0 : Old Z n0 h0) (SC : Sta Z Z.heap "java/lang/String" "COMPACT_STRINGS" "Z" (.int cs)) (hcs : cs ≠ 0) (SA : Sta Z Z.heap "java/lang/StringUTF16" "$assertionsDisabled" "Z" (.int (1 : Int32))) (SH : Sta Z Z.heap "java/lang/StringUTF16" "HI_BYTE_SHIFT" "I" (.int (0 : Int32))) (SL : Sta Z Z.heap "java/lang/StringUTF16" "LO_BYTE_SHIFT" "I" (.int (8 : Int32))) : own_M l y2 jdk_42_method_149_code 6 none ws r_4_2_12_70 #[(.ref p0), (.ref p1), (.int (0 : Int32)), (.int (2 : Int32)), .null] Z h0 (Q2_2 Z p0 p1 kc x0 x1 cs h0 n0) := by
  refine W.bodyOf (Ls := #[.val (.ref p0), .val (.ref p1), .val (.int (0 : Int32)), .val (.int (2 : Int32)), .val .null, .unset]) (plainFor_of_name pn_java_lang_String) (fun m => by first | exact W.entry_of rfl) ?_
  intro p e s m below meth c T0 C X0 e0
  have N0 := Fr.nil n0
  have K0 := Keep.refl h0 [p0]
  have ne01 : p0 ≠ p1 := E0.neArv Vc (W.ww hw 2 rfl)
  have SC0 := SC.ext O0.2
  refine W.aloadN (q := 1) X0 C d2_0 rfl rfl rfl ?_
  refine W.initObj (q := 4) X0 C (W.ww hw 11 rfl) (W.ww hw 12 rfl) (W.ww hw 13 rfl) e0 d2_1 rfl (by decide) (Nat.le_of_ble_eq_true rfl) rfl (fun T395 X395 e395 => ?_)
  refine W.iloadN (q := 5) X395 C d2_4 rfl rfl ?_
  refine W.ifT (q := 27) X395 C d2_5 (by decide) (by decide) (by decide : W.cT .ne (2 : Int32) 0) ?_
  refine W.getS (q := 30) X395 C (W.ww hw 40 rfl) Via.refl e395 SC0 d2_27 rfl (fun T396 X396 e396 => ?_)
  refine W.ifF (q := 33) X396 C d2_30 rfl hcs ?_
  refine W.aloadN (q := 34) X396 C d2_33 rfl rfl rfl ?_
  refine W.iloadN (q := 35) X396 C d2_34 rfl rfl ?_
  refine W.iloadN (q := 36) X396 C d2_35 rfl rfl ?_
  refine W.callS (q := 39) X396 C (W.ww hw 65 rfl) (W.ww hw 66 rfl) (W.ww hw 67 rfl) (W.ww hw 68 rfl) (by decide) (rm14_2 l Z a0 hw [] p1 kc x0 x1 h0 n0 Z0 Vc hr0 hr1 O0 SA SH SL) e396 d2_36 [(.ref p1), (.int (0 : Int32)), (.int (2 : Int32))] [] rfl rfl pd__28_5bCII_29_5bB rfl rfl (by decide) (Nat.le_of_ble_eq_true rfl) (by decide) (by decide) rfl (fun T397 w397 L397 X397 hQ397 => ?_)
  obtain ⟨b397, kb397, rfl, NL397, K397, D397⟩ := hQ397
  have N397 := Fr.app N0 NL397
  have Vc_399 := Vc.keep K397 nin0
  have O0_400 := O0.keep K397 all0
  have E0_401 := E0.keep K397
  have F0a_402 := F0a.keep K397 nin0
  have F0b_403 := F0b.keep K397 nin0
  have n0_397 : n0 ≤ T397.heap.size := Nat.le_trans Z0 K397.1
  have KK397 := K0.trans K397 all0
  show W.Go p e below _ (T397.setTop (mkF m 39 #[.val (.ref p0), .val (.ref p1), .val (.int (0 : Int32)), .val (.int (2 : Int32)), .val .null, .unset] [(.ref b397)]))
  rcases D397 with ⟨hx0, hx1, Vb⟩ | Vb
  · have ne_p0_b397 : p0 ≠ b397 := E0_401.neArv Vb (W.ww hw 2 rfl)
    show W.Go p e below _ (T397.setTop (mkF m 39 #[.val (.ref p0), .val (.ref p1), .val (.int (0 : Int32)), .val (.int (2 : Int32)), .val .null, .unset] [(.ref b397)]))
    refine W.astore (q := 41) (L' := #[.val (.ref p0), .val (.ref p1), .val (.int (0 : Int32)), .val (.int (2 : Int32)), .val .null, .val (.ref b397)]) X397 C d2_39 rfl rfl rfl ?_
    refine W.aloadN (q := 42) X397 C d2_41 rfl rfl rfl ?_
    refine W.aload (q := 44) X397 C d2_42 rfl rfl rfl ?_
    refine W.iloadN (q := 45) X397 C d2_44 rfl rfl ?_
    refine W.callS (q := 48) X397 C (W.ww hw 72 rfl) (W.ww hw 73 rfl) (W.ww hw 67 rfl) (W.ww hw 74 rfl) (by decide) (rm16_2_2 l Z a0 hw [] b397 kb397 _ T397.heap n0 Vb) rfl d2_45 [(.ref b397), (.int (2 : Int32))] [(.ref p0)] rfl rfl pd__28_5bBI_29B rfl rfl (by decide) (Nat.le_of_ble_eq_true rfl) (by decide) (by decide) rfl (fun T405 w405 L405 X405 hQ405 => ?_)
    obtain ⟨rfl, NL405, e405⟩ := hQ405
    have N405 := Fr.app N397 NL405
    show W.Go p e below _ (T405.setTop (mkF m 48 #[.val (.ref p0), .val (.ref p1), .val (.int (0 : Int32)), .val (.int (2 : Int32)), .val .null, .val (.ref b397)] [(.int (0 : Int32)), (.ref p0)]))
    refine W.putF (host := "") (q := 51) X405 C (Or.inl (W.ww hw 21 rfl)) Via.refl e405 F0b_403 E0_401 (Or.inr ⟨(W.ww hw 17 rfl), rfl, rfl⟩) (W.ww hw 2 rfl) (ty := .byte) (by decide) rfl rfl d2_48 rfl (fun T406 h406 X406 e406 W406 => ?_)
    have Fw406 := F0b_403.same W406
    have Vc_408 := Vc_399.other W406 (Ne.symm ne01)
    have O0_409 := O0_400.wr W406 hge
    have E0_410 := E0_401.wr W406
    have F0a_411 := F0a_402.other W406 (Or.inr (slot_ne (Or.inr (W.ww hw 16 rfl)) (Or.inr (W.ww hw 17 rfl)) (by decide) (t := (.array .byte)) (t' := .byte) (by decide) (by decide)))
    have Vb_413 := Vb.other W406 (Ne.symm ne_p0_b397)
    have N406 := Fr.snoc X406 N405 hge
    have K406 := KK397.wr W406 (Or.inl (by simp))
    have n0_406 : n0 ≤ h406.size := by rw [W406.size]; exact n0_397
    refine W.aloadN (q := 52) X406 C d2_51 rfl rfl rfl ?_
    refine W.aload (q := 54) X406 C d2_52 rfl rfl rfl ?_
    refine W.putF (host := "") (q := 57) X406 C (Or.inl (W.ww hw 20 rfl)) Via.refl e406 F0a_411 E0_410 (Or.inr ⟨(W.ww hw 16 rfl), rfl, rfl⟩) (W.ww hw 2 rfl) (ty := (.array .byte)) (by decide) rfl rfl d2_54 rfl (fun T414 h414 X414 e414 W414 => ?_)
    have Fw414 := F0a_411.same W414
    have Vc_416 := Vc_408.other W414 (Ne.symm ne01)
    have O0_417 := O0_409.wr W414 hge
    have E0_418 := E0_410.wr W414
    have Fw406_420 := Fw406.other W414 (Or.inr (slot_ne (Or.inr (W.ww hw 17 rfl)) (Or.inr (W.ww hw 16 rfl)) (by decide) (t := .byte) (t' := (.array .byte)) (by decide) (by decide)))
    have Vb_421 := Vb_413.other W414 (Ne.symm ne_p0_b397)
    have N414 := Fr.snoc X414 N406 hge
    have K414 := K406.wr W414 (Or.inl (by simp))
    have n0_414 : n0 ≤ h414.size := by rw [W414.size]; exact n0_406
    exact W.retV X414 C e414 d2_57 (by decide) (by decide) ⟨rfl, N414, K414, _, _, E0_418, Fw414, Or.inl ⟨Fw406_420, hx0, hx1, Vb_421⟩⟩
  · have ne_p0_b397 : p0 ≠ b397 := E0_401.neArv Vb (W.ww hw 2 rfl)
    show W.Go p e below _ (T397.setTop (mkF m 39 #[.val (.ref p0), .val (.ref p1), .val (.int (0 : Int32)), .val (.int (2 : Int32)), .val .null, .unset] [(.ref b397)]))
    refine W.astore (q := 41) (L' := #[.val (.ref p0), .val (.ref p1), .val (.int (0 : Int32)), .val (.int (2 : Int32)), .val .null, .val (.ref b397)]) X397 C d2_39 rfl rfl rfl ?_
    refine W.aloadN (q := 42) X397 C d2_41 rfl rfl rfl ?_
    refine W.aload (q := 44) X397 C d2_42 rfl rfl rfl ?_
    refine W.iloadN (q := 45) X397 C d2_44 rfl rfl ?_
    refine W.callS (q := 48) X397 C (W.ww hw 72 rfl) (W.ww hw 73 rfl) (W.ww hw 67 rfl) (W.ww hw 74 rfl) (by decide) (rm16_2_4 l Z a0 hw [] b397 kb397 _ T397.heap n0 Vb) rfl d2_45 [(.ref b397), (.int (2 : Int32))] [(.ref p0)] rfl rfl pd__28_5bBI_29B rfl rfl (by decide) (Nat.le_of_ble_eq_true rfl) (by decide) (by decide) rfl (fun T422 w422 L422 X422 hQ422 => ?_)
    obtain ⟨rfl, NL422, e422⟩ := hQ422
    have N422 := Fr.app N397 NL422
    show W.Go p e below _ (T422.setTop (mkF m 48 #[.val (.ref p0), .val (.ref p1), .val (.int (0 : Int32)), .val (.int (2 : Int32)), .val .null, .val (.ref b397)] [(.int (1 : Int32)), (.ref p0)]))
    refine W.putF (host := "") (q := 51) X422 C (Or.inl (W.ww hw 21 rfl)) Via.refl e422 F0b_403 E0_401 (Or.inr ⟨(W.ww hw 17 rfl), rfl, rfl⟩) (W.ww hw 2 rfl) (ty := .byte) (by decide) rfl rfl d2_48 rfl (fun T423 h423 X423 e423 W423 => ?_)
    have Fw423 := F0b_403.same W423
    have Vc_425 := Vc_399.other W423 (Ne.symm ne01)
    have O0_426 := O0_400.wr W423 hge
    have E0_427 := E0_401.wr W423
    have F0a_428 := F0a_402.other W423 (Or.inr (slot_ne (Or.inr (W.ww hw 16 rfl)) (Or.inr (W.ww hw 17 rfl)) (by decide) (t := (.array .byte)) (t' := .byte) (by decide) (by decide)))
    have Vb_430 := Vb.other W423 (Ne.symm ne_p0_b397)
    have N423 := Fr.snoc X423 N422 hge
    have K423 := KK397.wr W423 (Or.inl (by simp))
    have n0_423 : n0 ≤ h423.size := by rw [W423.size]; exact n0_397
    refine W.aloadN (q := 52) X423 C d2_51 rfl rfl rfl ?_
    refine W.aload (q := 54) X423 C d2_52 rfl rfl rfl ?_
    refine W.putF (host := "") (q := 57) X423 C (Or.inl (W.ww hw 20 rfl)) Via.refl e423 F0a_428 E0_427 (Or.inr ⟨(W.ww hw 16 rfl), rfl, rfl⟩) (W.ww hw 2 rfl) (ty := (.array .byte)) (by decide) rfl rfl d2_54 rfl (fun T431 h431 X431 e431 W431 => ?_)
    have Fw431 := F0a_428.same W431
    have Vc_433 := Vc_425.other W431 (Ne.symm ne01)
    have O0_434 := O0_426.wr W431 hge
    have E0_435 := E0_427.wr W431
    have Fw423_437 := Fw423.other W431 (Or.inr (slot_ne (Or.inr (W.ww hw 17 rfl)) (Or.inr (W.ww hw 16 rfl)) (by decide) (t := .byte) (t' := (.array .byte)) (by decide) (by decide)))
    have Vb_438 := Vb_430.other W431 (Ne.symm ne_p0_b397)
    have N431 := Fr.snoc X431 N423 hge
    have K431 := K423.wr W431 (Or.inl (by simp))
    have n0_431 : n0 ≤ h431.size := by rw [W431.size]; exact n0_423
    exact W.retV X431 C e431 d2_57 (by decide) (by decide) ⟨rfl, N431, K431, _, _, E0_435, Fw431, Or.inr ⟨Fw423_437, Vb_438⟩⟩
def Q1_2 (Z : State) (p0 p1 : Addr) (kc : ClassId) (x0 x1 : Int32) (cs : Int32) (h0 : Heap) (n0 : Nat) (v : Option Value) (h : Heap) (L : List Loc) : Prop := v = none ∧ Fr n0 L ∧ Keep h0 h [p0] ∧ own_txt2 Z h p0 x0 x1
theorem rm1_2 (l : Launch) (Z : State) (a0 : Array Value) (hw : own_HW a0 Z) (ws : List Jvm.Cond) (p0 p1 : Addr) (kc : ClassId) (x0 x1 : Int32) (cs : Int32) (h0 : Heap) (n0 : Nat) (Z0 : n0 ≤ h0.size) (hge : n0 ≤ p0) (E0 : Exa Z h0 p0 "java/lang/String") (F0a : Fld Z h0 p0 "java/lang/String" "value" "[B" .null) (F0b : Fld Z h0 p0 "java/lang/String" "coder" "B" (.int (0 : Int32))) (Vc : Arv Z h0 p1 kc .char (2 : Int32) [(.int x0), (.int x1)] (.int (0 : Int32))) (hr0 : own_r16 x0) (hr1 : own_r16 x1) (O0 : Old Z n0 h0) (SC : Sta Z Z.heap "java/lang/String" "COMPACT_STRINGS" "Z" (.int cs)) (hcs : cs ≠ 0) (SA : Sta Z Z.heap "java/lang/StringUTF16" "$assertionsDisabled" "Z" (.int (1 : Int32))) (SH : Sta Z Z.heap "java/lang/StringUTF16" "HI_BYTE_SHIFT" "I" (.int (0 : Int32))) (SL : Sta Z Z.heap "java/lang/StringUTF16" "LO_BYTE_SHIFT" "I" (.int (8 : Int32))) : own_M l y1 jdk_42_method_3_code 2 none ws r_5_2_12_90 #[(.ref p0), (.ref p1)] Z h0 (Q1_2 Z p0 p1 kc x0 x1 cs h0 n0) := by
  refine W.bodyOf (Ls := #[.val (.ref p0), .val (.ref p1)]) (plainFor_of_name pn_java_lang_String) (fun m => by first | exact W.entry_of rfl) ?_
  intro p e s m below meth c T0 C X0 e0
  have N0 := Fr.nil n0
  have K0 := Keep.refl h0 [p0]
  have ne01 : p0 ≠ p1 := E0.neArv Vc (W.ww hw 2 rfl)
  refine W.aloadN (q := 1) X0 C d1_0 rfl rfl rfl ?_
  refine W.aloadN (q := 2) X0 C d1_1 rfl rfl rfl ?_
  refine W.iconst (q := 3) (v := 0) X0 C d1_2 rfl rfl ?_
  refine W.aloadN (q := 4) X0 C d1_3 rfl rfl rfl ?_
  refine W.arraylength (q := 5) X0 C e0 Vc d1_4 rfl ?_
  refine W.aconst (q := 6) X0 C d1_5 rfl ?_
  refine W.callI (q := 9) X0 C rfl (W.ww hw 7 rfl) (W.ww hw 8 rfl) (W.ww hw 3 rfl) (W.ww hw 10 rfl) (by decide) (rm2_2 l Z a0 hw [] p0 p1 kc x0 x1 cs h0 n0 Z0 hge E0 F0a F0b Vc hr0 hr1 O0 SC hcs SA SH SL) e0 d1_6 (a := p0) [(.ref p1), (.int (0 : Int32)), (.int (2 : Int32)), .null] [] rfl rfl pd__28_5bCIILjava_2flang_2fVoid_3b_29V rfl rfl (by decide) (Nat.le_of_ble_eq_true rfl) (by decide) (by decide) rfl (fun T439 w439 L439 X439 hQ439 => ?_)
  obtain ⟨rfl, NL439, K439, Yn439⟩ := hQ439
  have N439 := Fr.app N0 NL439
  have Vc_441 := Vc.keep K439 (ninS (Ne.symm ne01) nin0)
  have O0_442 := O0.keep K439 (allS hge all0)
  have E0_443 := E0.keep K439
  have n0_439 : n0 ≤ T439.heap.size := Nat.le_trans Z0 K439.1
  have KK439 := K0.trans K439 (allS (Or.inl (List.mem_singleton.mpr rfl)) all0)
  show W.Go p e below _ (T439.setTop (mkF m 9 #[.val (.ref p0), .val (.ref p1)] []))
  exact W.retV X439 C rfl d1_9 (by decide) (by decide) ⟨rfl, N439, KK439, Yn439⟩
def Q20_3 (Z : State) (u0 : Int32) (h0 : Heap) (n0 : Nat) (v : Option Value) (h : Heap) (L : List Loc) : Prop := v = some (.int (6 : Int32)) ∧ Fr n0 L ∧ h = h0
theorem rm20_3 (l : Launch) (Z : State) (a0 : Array Value) (hw : own_HW a0 Z) (ws : List Jvm.Cond) (u0 : Int32) (h0 : Heap) (n0 : Nat) : own_M l y20 jdk_52_method_3_code 1 (some .int) ws r_0_0_0_0 #[(.int (3 : Int32))] Z h0 (Q20_3 Z u0 h0 n0) := by
  refine W.bodyOf (Ls := #[.val (.int (3 : Int32))]) (plainFor_of_name pn_java_lang_StringUTF16) (fun m => by first | exact W.entry_of rfl) ?_
  intro p e s m below meth c T0 C X0 e0
  have N0 := Fr.nil n0
  refine W.iloadN (q := 1) X0 C d20_0 rfl rfl ?_
  refine W.ifT (q := 12) X0 C d20_1 (by decide) (by decide) (by decide : W.cT .ge (3 : Int32) 0) ?_
  refine W.iloadN (q := 13) X0 C d20_12 rfl rfl ?_
  refine W.ldcI (q := 15) X0 C (W.ww hw 87 rfl) d20_13 rfl ?_
  refine W.icmpT (q := 55) X0 C d20_15 (by decide) (by decide) (by decide : W.cT .lt (3 : Int32) (1073741823 : Int32)) ?_
  refine W.iloadN (q := 56) X0 C d20_55 rfl rfl ?_
  refine W.iconst (q := 57) (v := 1) X0 C d20_56 rfl rfl ?_
  refine W.ishl (q := 58) X0 C d20_57 rfl ?_
  rw [show ((3 : Int32) <<< ((1 : Int32) &&& 31)) = (6 : Int32) by decide]
  exact W.retI X0 C e0 d20_58 (by decide) (by decide) ⟨rfl, N0, rfl⟩
def Q19_3 (Z : State) (u0 : Int32) (h0 : Heap) (n0 : Nat) (v : Option Value) (h : Heap) (L : List Loc) : Prop := ∃ b kb, v = some (.ref b) ∧ Fr n0 L ∧ Keep h0 h [] ∧ h0.size ≤ b ∧ Arv Z h b kb .byte (6 : Int32) [(.int (0 : Int32)), (.int (0 : Int32)), (.int (0 : Int32)), (.int (0 : Int32)), (.int (0 : Int32)), (.int (0 : Int32))] (.int (0 : Int32))
theorem rm19_3 (l : Launch) (Z : State) (a0 : Array Value) (hw : own_HW a0 Z) (ws : List Jvm.Cond) (u0 : Int32) (h0 : Heap) (n0 : Nat) (Z0 : n0 ≤ h0.size) : own_M l y19 jdk_52_method_2_code 1 (some (.array .byte)) ws r_1_1_8_16 #[(.int (3 : Int32))] Z h0 (Q19_3 Z u0 h0 n0) := by
  refine W.bodyOf (Ls := #[.val (.int (3 : Int32))]) (plainFor_of_name pn_java_lang_StringUTF16) (fun m => by first | exact W.entry_of rfl) ?_
  intro p e s m below meth c T0 C X0 e0
  have N0 := Fr.nil n0
  have K0 := Keep.refl h0 []
  refine W.iloadN (q := 1) X0 C d19_0 rfl rfl ?_
  refine W.callS (q := 4) X0 C (W.ww hw 84 rfl) (W.ww hw 85 rfl) (W.ww hw 67 rfl) (W.ww hw 86 rfl) (by decide) (rm20_3 l Z a0 hw [] 0 h0 n0) e0 d19_1 [(.int (3 : Int32))] [] rfl rfl pd__28I_29I rfl rfl (by decide) (Nat.le_of_ble_eq_true rfl) (by decide) (by decide) rfl (fun T444 w444 L444 X444 hQ444 => ?_)
  obtain ⟨rfl, NL444, e444⟩ := hQ444
  have N444 := Fr.app N0 NL444
  show W.Go p e below _ (T444.setTop (mkF m 4 #[.val (.int (3 : Int32))] [(.int (6 : Int32))]))
  refine W.newarray (q := 6) X444 C (W.ww hw 15 rfl) e444 (by decide) 6 (by decide) (by decide) d19_4 (by decide) (by decide) rfl (fun T445 h445 b445 k445 X445 e445 g445 E445 V445_ => ?_)
  have ge_b445 : n0 ≤ b445 := by rw [g445]; exact Z0
  have sz_b445 : h0.size ≤ b445 := by rw [g445]; exact K0.1
  have n0_445 : n0 ≤ h445.size := Nat.le_trans Z0 E445.1
  have K445 := K0.ext E445
  have V445 : Arv Z h445 b445 k445 .byte (6 : Int32) [(.int (0 : Int32)), (.int (0 : Int32)), (.int (0 : Int32)), (.int (0 : Int32)), (.int (0 : Int32)), (.int (0 : Int32))] (.int (0 : Int32)) := V445_
  exact W.retA X445 C rfl e445 rfl d19_6 (by decide) (by decide) ⟨_, _, rfl, N444, K445, sz_b445, V445⟩
def Q21_3_0 (Z : State) (p0 : Addr) (kb : ClassId) (y0 y1 y2 y3 y4 y5 p2 : Int32) (h0 : Heap) (n0 : Nat) (v : Option Value) (h : Heap) (L : List Loc) : Prop := v = none ∧ Fr n0 L ∧ Keep h0 h [p0] ∧ Arv Z h p0 kb .byte (6 : Int32) [(.int (own_hb p2)), (.int (own_lb p2)), (.int y2), (.int y3), (.int y4), (.int y5)] (.int (0 : Int32))
theorem rm21_3_0 (l : Launch) (Z : State) (a0 : Array Value) (hw : own_HW a0 Z) (ws : List Jvm.Cond) (p0 : Addr) (kb : ClassId) (y0 y1 y2 y3 y4 y5 p2 : Int32) (h0 : Heap) (n0 : Nat) (Z0 : n0 ≤ h0.size) (hge : n0 ≤ p0) (V0 : Arv Z h0 p0 kb .byte (6 : Int32) [(.int y0), (.int y1), (.int y2), (.int y3), (.int y4), (.int y5)] (.int (0 : Int32))) (SA : Sta Z h0 "java/lang/StringUTF16" "$assertionsDisabled" "Z" (.int (1 : Int32))) (SH : Sta Z h0 "java/lang/StringUTF16" "HI_BYTE_SHIFT" "I" (.int (0 : Int32))) (SL : Sta Z h0 "java/lang/StringUTF16" "LO_BYTE_SHIFT" "I" (.int (8 : Int32))) : own_M l y21 jdk_52_method_4_code 3 none ws r_0_0_0_0 #[(.ref p0), (.int (0 : Int32)), (.int p2)] Z h0 (Q21_3_0 Z p0 kb y0 y1 y2 y3 y4 y5 p2 h0 n0) := by
  refine W.bodyOf (Ls := #[.val (.ref p0), .val (.int (0 : Int32)), .val (.int p2)]) (plainFor_of_name pn_java_lang_StringUTF16) (fun m => by first | exact W.entry_of rfl) ?_
  intro p e s m below meth c T0 C X0 e0
  have N0 := Fr.nil n0
  have K0 := Keep.refl h0 [p0]
  refine W.getS (q := 3) X0 C (W.ww hw 91 rfl) Via.refl e0 SA d21_0 rfl (fun T447 X447 e447 => ?_)
  refine W.ifT (q := 28) X447 C d21_3 (by decide) (by decide) (by decide : W.cT .ne (1 : Int32) 0) ?_
  refine W.iloadN (q := 29) X447 C d21_28 rfl rfl ?_
  refine W.iconst (q := 30) (v := 1) X447 C d21_29 rfl rfl ?_
  refine W.ishl (q := 31) X447 C d21_30 rfl ?_
  rw [show ((0 : Int32) <<< ((1 : Int32) &&& 31)) = (0 : Int32) by decide]
  refine W.istoreN (q := 32) (L' := #[.val (.ref p0), .val (.int (0 : Int32)), .val (.int p2)]) X447 C d21_31 rfl rfl ?_
  refine W.aloadN (q := 33) X447 C d21_32 rfl rfl rfl ?_
  refine W.iloadN (q := 34) X447 C d21_33 rfl rfl ?_
  refine W.iinc (q := 37) (L' := #[.val (.ref p0), .val (.int (1 : Int32)), .val (.int p2)]) X447 C d21_34 rfl (by decide) rfl rfl ?_
  refine W.iloadN (q := 38) X447 C d21_37 rfl rfl ?_
  refine W.getS (q := 41) X447 C (W.ww hw 92 rfl) Via.refl e447 SH d21_38 rfl (fun T448 X448 e448 => ?_)
  refine W.ishr (q := 42) X448 C d21_41 rfl ?_
  refine W.i2b (q := 43) X448 C d21_42 rfl ?_
  refine W.bastore (q := 44) X448 C e448 V0  (by decide) (by decide) (Nat.le_of_ble_eq_true rfl) d21_43 rfl (fun T449 h449 X449 e449 W449 V449_ => ?_)
  rw [own_bb (p2 >>> ((0 : Int32) &&& 31))] at V449_
  have SA_451 := SA.wr W449
  have SH_452 := SH.wr W449
  have SL_453 := SL.wr W449
  have V449 : Arv Z h449 p0 kb .byte (6 : Int32) [(.int ((p2 >>> ((0 : Int32) &&& 31)).toInt8.toInt32)), (.int y1), (.int y2), (.int y3), (.int y4), (.int y5)] (.int (0 : Int32)) := V449_
  have N449 := Fr.snoc X449 N0 hge
  have K449 := K0.wr W449 (Or.inl (by simp))
  have n0_449 : n0 ≤ h449.size := by rw [W449.size]; exact Z0
  refine W.aloadN (q := 45) X449 C d21_44 rfl rfl rfl ?_
  refine W.iloadN (q := 46) X449 C d21_45 rfl rfl ?_
  refine W.iloadN (q := 47) X449 C d21_46 rfl rfl ?_
  refine W.getS (q := 50) X449 C (W.ww hw 93 rfl) Via.refl e449 SL_453 d21_47 rfl (fun T455 X455 e455 => ?_)
  refine W.ishr (q := 51) X455 C d21_50 rfl ?_
  refine W.i2b (q := 52) X455 C d21_51 rfl ?_
  refine W.bastore (q := 53) X455 C e455 V449  (by decide) (by decide) (Nat.le_of_ble_eq_true rfl) d21_52 rfl (fun T456 h456 X456 e456 W456 V456_ => ?_)
  rw [own_bb (p2 >>> ((8 : Int32) &&& 31))] at V456_
  have SA_458 := SA_451.wr W456
  have SH_459 := SH_452.wr W456
  have SL_460 := SL_453.wr W456
  have V456 : Arv Z h456 p0 kb .byte (6 : Int32) [(.int ((p2 >>> ((0 : Int32) &&& 31)).toInt8.toInt32)), (.int ((p2 >>> ((8 : Int32) &&& 31)).toInt8.toInt32)), (.int y2), (.int y3), (.int y4), (.int y5)] (.int (0 : Int32)) := V456_
  have N456 := Fr.snoc X456 N449 hge
  have K456 := K449.wr W456 (Or.inl (by simp))
  have n0_456 : n0 ≤ h456.size := by rw [W456.size]; exact n0_449
  exact W.retV X456 C e456 d21_53 (by decide) (by decide) ⟨rfl, N456, K456, V456⟩
def Q21_3_1 (Z : State) (p0 : Addr) (kb : ClassId) (y0 y1 y2 y3 y4 y5 p2 : Int32) (h0 : Heap) (n0 : Nat) (v : Option Value) (h : Heap) (L : List Loc) : Prop := v = none ∧ Fr n0 L ∧ Keep h0 h [p0] ∧ Arv Z h p0 kb .byte (6 : Int32) [(.int y0), (.int y1), (.int (own_hb p2)), (.int (own_lb p2)), (.int y4), (.int y5)] (.int (0 : Int32))
theorem rm21_3_1 (l : Launch) (Z : State) (a0 : Array Value) (hw : own_HW a0 Z) (ws : List Jvm.Cond) (p0 : Addr) (kb : ClassId) (y0 y1 y2 y3 y4 y5 p2 : Int32) (h0 : Heap) (n0 : Nat) (Z0 : n0 ≤ h0.size) (hge : n0 ≤ p0) (V0 : Arv Z h0 p0 kb .byte (6 : Int32) [(.int y0), (.int y1), (.int y2), (.int y3), (.int y4), (.int y5)] (.int (0 : Int32))) (SA : Sta Z h0 "java/lang/StringUTF16" "$assertionsDisabled" "Z" (.int (1 : Int32))) (SH : Sta Z h0 "java/lang/StringUTF16" "HI_BYTE_SHIFT" "I" (.int (0 : Int32))) (SL : Sta Z h0 "java/lang/StringUTF16" "LO_BYTE_SHIFT" "I" (.int (8 : Int32))) : own_M l y21 jdk_52_method_4_code 3 none ws r_0_0_0_0 #[(.ref p0), (.int (1 : Int32)), (.int p2)] Z h0 (Q21_3_1 Z p0 kb y0 y1 y2 y3 y4 y5 p2 h0 n0) := by
  refine W.bodyOf (Ls := #[.val (.ref p0), .val (.int (1 : Int32)), .val (.int p2)]) (plainFor_of_name pn_java_lang_StringUTF16) (fun m => by first | exact W.entry_of rfl) ?_
  intro p e s m below meth c T0 C X0 e0
  have N0 := Fr.nil n0
  have K0 := Keep.refl h0 [p0]
  refine W.getS (q := 3) X0 C (W.ww hw 91 rfl) Via.refl e0 SA d21_0 rfl (fun T462 X462 e462 => ?_)
  refine W.ifT (q := 28) X462 C d21_3 (by decide) (by decide) (by decide : W.cT .ne (1 : Int32) 0) ?_
  refine W.iloadN (q := 29) X462 C d21_28 rfl rfl ?_
  refine W.iconst (q := 30) (v := 1) X462 C d21_29 rfl rfl ?_
  refine W.ishl (q := 31) X462 C d21_30 rfl ?_
  rw [show ((1 : Int32) <<< ((1 : Int32) &&& 31)) = (2 : Int32) by decide]
  refine W.istoreN (q := 32) (L' := #[.val (.ref p0), .val (.int (2 : Int32)), .val (.int p2)]) X462 C d21_31 rfl rfl ?_
  refine W.aloadN (q := 33) X462 C d21_32 rfl rfl rfl ?_
  refine W.iloadN (q := 34) X462 C d21_33 rfl rfl ?_
  refine W.iinc (q := 37) (L' := #[.val (.ref p0), .val (.int (3 : Int32)), .val (.int p2)]) X462 C d21_34 rfl (by decide) rfl rfl ?_
  refine W.iloadN (q := 38) X462 C d21_37 rfl rfl ?_
  refine W.getS (q := 41) X462 C (W.ww hw 92 rfl) Via.refl e462 SH d21_38 rfl (fun T463 X463 e463 => ?_)
  refine W.ishr (q := 42) X463 C d21_41 rfl ?_
  refine W.i2b (q := 43) X463 C d21_42 rfl ?_
  refine W.bastore (q := 44) X463 C e463 V0  (by decide) (by decide) (Nat.le_of_ble_eq_true rfl) d21_43 rfl (fun T464 h464 X464 e464 W464 V464_ => ?_)
  rw [own_bb (p2 >>> ((0 : Int32) &&& 31))] at V464_
  have SA_466 := SA.wr W464
  have SH_467 := SH.wr W464
  have SL_468 := SL.wr W464
  have V464 : Arv Z h464 p0 kb .byte (6 : Int32) [(.int y0), (.int y1), (.int ((p2 >>> ((0 : Int32) &&& 31)).toInt8.toInt32)), (.int y3), (.int y4), (.int y5)] (.int (0 : Int32)) := V464_
  have N464 := Fr.snoc X464 N0 hge
  have K464 := K0.wr W464 (Or.inl (by simp))
  have n0_464 : n0 ≤ h464.size := by rw [W464.size]; exact Z0
  refine W.aloadN (q := 45) X464 C d21_44 rfl rfl rfl ?_
  refine W.iloadN (q := 46) X464 C d21_45 rfl rfl ?_
  refine W.iloadN (q := 47) X464 C d21_46 rfl rfl ?_
  refine W.getS (q := 50) X464 C (W.ww hw 93 rfl) Via.refl e464 SL_468 d21_47 rfl (fun T470 X470 e470 => ?_)
  refine W.ishr (q := 51) X470 C d21_50 rfl ?_
  refine W.i2b (q := 52) X470 C d21_51 rfl ?_
  refine W.bastore (q := 53) X470 C e470 V464  (by decide) (by decide) (Nat.le_of_ble_eq_true rfl) d21_52 rfl (fun T471 h471 X471 e471 W471 V471_ => ?_)
  rw [own_bb (p2 >>> ((8 : Int32) &&& 31))] at V471_
  have SA_473 := SA_466.wr W471
  have SH_474 := SH_467.wr W471
  have SL_475 := SL_468.wr W471
  have V471 : Arv Z h471 p0 kb .byte (6 : Int32) [(.int y0), (.int y1), (.int ((p2 >>> ((0 : Int32) &&& 31)).toInt8.toInt32)), (.int ((p2 >>> ((8 : Int32) &&& 31)).toInt8.toInt32)), (.int y4), (.int y5)] (.int (0 : Int32)) := V471_
  have N471 := Fr.snoc X471 N464 hge
  have K471 := K464.wr W471 (Or.inl (by simp))
  have n0_471 : n0 ≤ h471.size := by rw [W471.size]; exact n0_464
  exact W.retV X471 C e471 d21_53 (by decide) (by decide) ⟨rfl, N471, K471, V471⟩
def Q21_3_2 (Z : State) (p0 : Addr) (kb : ClassId) (y0 y1 y2 y3 y4 y5 p2 : Int32) (h0 : Heap) (n0 : Nat) (v : Option Value) (h : Heap) (L : List Loc) : Prop := v = none ∧ Fr n0 L ∧ Keep h0 h [p0] ∧ Arv Z h p0 kb .byte (6 : Int32) [(.int y0), (.int y1), (.int y2), (.int y3), (.int (own_hb p2)), (.int (own_lb p2))] (.int (0 : Int32))
theorem rm21_3_2 (l : Launch) (Z : State) (a0 : Array Value) (hw : own_HW a0 Z) (ws : List Jvm.Cond) (p0 : Addr) (kb : ClassId) (y0 y1 y2 y3 y4 y5 p2 : Int32) (h0 : Heap) (n0 : Nat) (Z0 : n0 ≤ h0.size) (hge : n0 ≤ p0) (V0 : Arv Z h0 p0 kb .byte (6 : Int32) [(.int y0), (.int y1), (.int y2), (.int y3), (.int y4), (.int y5)] (.int (0 : Int32))) (SA : Sta Z h0 "java/lang/StringUTF16" "$assertionsDisabled" "Z" (.int (1 : Int32))) (SH : Sta Z h0 "java/lang/StringUTF16" "HI_BYTE_SHIFT" "I" (.int (0 : Int32))) (SL : Sta Z h0 "java/lang/StringUTF16" "LO_BYTE_SHIFT" "I" (.int (8 : Int32))) : own_M l y21 jdk_52_method_4_code 3 none ws r_0_0_0_0 #[(.ref p0), (.int (2 : Int32)), (.int p2)] Z h0 (Q21_3_2 Z p0 kb y0 y1 y2 y3 y4 y5 p2 h0 n0) := by
  refine W.bodyOf (Ls := #[.val (.ref p0), .val (.int (2 : Int32)), .val (.int p2)]) (plainFor_of_name pn_java_lang_StringUTF16) (fun m => by first | exact W.entry_of rfl) ?_
  intro p e s m below meth c T0 C X0 e0
  have N0 := Fr.nil n0
  have K0 := Keep.refl h0 [p0]
  refine W.getS (q := 3) X0 C (W.ww hw 91 rfl) Via.refl e0 SA d21_0 rfl (fun T477 X477 e477 => ?_)
  refine W.ifT (q := 28) X477 C d21_3 (by decide) (by decide) (by decide : W.cT .ne (1 : Int32) 0) ?_
  refine W.iloadN (q := 29) X477 C d21_28 rfl rfl ?_
  refine W.iconst (q := 30) (v := 1) X477 C d21_29 rfl rfl ?_
  refine W.ishl (q := 31) X477 C d21_30 rfl ?_
  rw [show ((2 : Int32) <<< ((1 : Int32) &&& 31)) = (4 : Int32) by decide]
  refine W.istoreN (q := 32) (L' := #[.val (.ref p0), .val (.int (4 : Int32)), .val (.int p2)]) X477 C d21_31 rfl rfl ?_
  refine W.aloadN (q := 33) X477 C d21_32 rfl rfl rfl ?_
  refine W.iloadN (q := 34) X477 C d21_33 rfl rfl ?_
  refine W.iinc (q := 37) (L' := #[.val (.ref p0), .val (.int (5 : Int32)), .val (.int p2)]) X477 C d21_34 rfl (by decide) rfl rfl ?_
  refine W.iloadN (q := 38) X477 C d21_37 rfl rfl ?_
  refine W.getS (q := 41) X477 C (W.ww hw 92 rfl) Via.refl e477 SH d21_38 rfl (fun T478 X478 e478 => ?_)
  refine W.ishr (q := 42) X478 C d21_41 rfl ?_
  refine W.i2b (q := 43) X478 C d21_42 rfl ?_
  refine W.bastore (q := 44) X478 C e478 V0  (by decide) (by decide) (Nat.le_of_ble_eq_true rfl) d21_43 rfl (fun T479 h479 X479 e479 W479 V479_ => ?_)
  rw [own_bb (p2 >>> ((0 : Int32) &&& 31))] at V479_
  have SA_481 := SA.wr W479
  have SH_482 := SH.wr W479
  have SL_483 := SL.wr W479
  have V479 : Arv Z h479 p0 kb .byte (6 : Int32) [(.int y0), (.int y1), (.int y2), (.int y3), (.int ((p2 >>> ((0 : Int32) &&& 31)).toInt8.toInt32)), (.int y5)] (.int (0 : Int32)) := V479_
  have N479 := Fr.snoc X479 N0 hge
  have K479 := K0.wr W479 (Or.inl (by simp))
  have n0_479 : n0 ≤ h479.size := by rw [W479.size]; exact Z0
  refine W.aloadN (q := 45) X479 C d21_44 rfl rfl rfl ?_
  refine W.iloadN (q := 46) X479 C d21_45 rfl rfl ?_
  refine W.iloadN (q := 47) X479 C d21_46 rfl rfl ?_
  refine W.getS (q := 50) X479 C (W.ww hw 93 rfl) Via.refl e479 SL_483 d21_47 rfl (fun T485 X485 e485 => ?_)
  refine W.ishr (q := 51) X485 C d21_50 rfl ?_
  refine W.i2b (q := 52) X485 C d21_51 rfl ?_
  refine W.bastore (q := 53) X485 C e485 V479  (by decide) (by decide) (Nat.le_of_ble_eq_true rfl) d21_52 rfl (fun T486 h486 X486 e486 W486 V486_ => ?_)
  rw [own_bb (p2 >>> ((8 : Int32) &&& 31))] at V486_
  have SA_488 := SA_481.wr W486
  have SH_489 := SH_482.wr W486
  have SL_490 := SL_483.wr W486
  have V486 : Arv Z h486 p0 kb .byte (6 : Int32) [(.int y0), (.int y1), (.int y2), (.int y3), (.int ((p2 >>> ((0 : Int32) &&& 31)).toInt8.toInt32)), (.int ((p2 >>> ((8 : Int32) &&& 31)).toInt8.toInt32))] (.int (0 : Int32)) := V486_
  have N486 := Fr.snoc X486 N479 hge
  have K486 := K479.wr W486 (Or.inl (by simp))
  have n0_486 : n0 ≤ h486.size := by rw [W486.size]; exact n0_479
  exact W.retV X486 C e486 d21_53 (by decide) (by decide) ⟨rfl, N486, K486, V486⟩
def Q18_3 (Z : State) (p0 : Addr) (kc : ClassId) (x0 x1 x2 : Int32) (h0 : Heap) (n0 : Nat) (v : Option Value) (h : Heap) (L : List Loc) : Prop := ∃ b kb, v = some (.ref b) ∧ Fr n0 L ∧ Keep h0 h [] ∧ Arv Z h b kb .byte (6 : Int32) [(.int (own_hb x0)), (.int (own_lb x0)), (.int (own_hb x1)), (.int (own_lb x1)), (.int (own_hb x2)), (.int (own_lb x2))] (.int (0 : Int32))
theorem rm18_3 (l : Launch) (Z : State) (a0 : Array Value) (hw : own_HW a0 Z) (ws : List Jvm.Cond) (p0 : Addr) (kc : ClassId) (x0 x1 x2 : Int32) (h0 : Heap) (n0 : Nat) (Z0 : n0 ≤ h0.size) (Vc : Arv Z h0 p0 kc .char (3 : Int32) [(.int x0), (.int x1), (.int x2)] (.int (0 : Int32))) (O0 : Old Z n0 h0) (SA : Sta Z Z.heap "java/lang/StringUTF16" "$assertionsDisabled" "Z" (.int (1 : Int32))) (SH : Sta Z Z.heap "java/lang/StringUTF16" "HI_BYTE_SHIFT" "I" (.int (0 : Int32))) (SL : Sta Z Z.heap "java/lang/StringUTF16" "LO_BYTE_SHIFT" "I" (.int (8 : Int32))) : own_M l y18 jdk_52_method_14_code 5 (some (.array .byte)) ws r_2_1_8_32 #[(.ref p0), (.int (0 : Int32)), (.int (3 : Int32))] Z h0 (Q18_3 Z p0 kc x0 x1 x2 h0 n0) := by
  refine W.bodyOf (Ls := #[.val (.ref p0), .val (.int (0 : Int32)), .val (.int (3 : Int32)), .unset, .unset]) (plainFor_of_name pn_java_lang_StringUTF16) (fun m => by first | exact W.entry_of rfl) ?_
  intro p e s m below meth c T0 C X0 e0
  have N0 := Fr.nil n0
  have K0 := Keep.refl h0 []
  refine W.iloadN (q := 1) X0 C d18_0 rfl rfl ?_
  refine W.callS (q := 4) X0 C (W.ww hw 81 rfl) (W.ww hw 82 rfl) (W.ww hw 67 rfl) (W.ww hw 83 rfl) (by decide) (rm19_3 l Z a0 hw [] 0 h0 n0 Z0) e0 d18_1 [(.int (3 : Int32))] [] rfl rfl pd__28I_29_5bB rfl rfl (by decide) (Nat.le_of_ble_eq_true rfl) (by decide) (by decide) rfl (fun T492 w492 L492 X492 hQ492 => ?_)
  obtain ⟨b492, kb492, rfl, NL492, K492, hz492, V492⟩ := hQ492
  have N492 := Fr.app N0 NL492
  have ne_p0_b492 : p0 ≠ b492 := Nat.ne_of_lt (Nat.lt_of_lt_of_le Vc.lt hz492)
  have ge_b492 : n0 ≤ b492 := Nat.le_trans Z0 hz492
  have sz_b492 : h0.size ≤ b492 := Nat.le_trans K0.1 hz492
  have Vc_494 := Vc.keep K492 nin0
  have O0_495 := O0.keep K492 all0
  have n0_492 : n0 ≤ T492.heap.size := Nat.le_trans Z0 K492.1
  have KK492 := K0.trans K492 all0
  show W.Go p e below _ (T492.setTop (mkF m 4 #[.val (.ref p0), .val (.int (0 : Int32)), .val (.int (3 : Int32)), .unset, .unset] [(.ref b492)]))
  refine W.astoreN (q := 5) (L' := #[.val (.ref p0), .val (.int (0 : Int32)), .val (.int (3 : Int32)), .val (.ref b492), .unset]) X492 C d18_4 rfl rfl rfl ?_
  refine W.iconst (q := 6) (v := 0) X492 C d18_5 rfl rfl ?_
  refine W.istore (q := 8) (L' := #[.val (.ref p0), .val (.int (0 : Int32)), .val (.int (3 : Int32)), .val (.ref b492), .val (.int (0 : Int32))]) X492 C d18_6 rfl rfl ?_
  refine W.iload (q := 10) X492 C d18_8 rfl rfl ?_
  refine W.iloadN (q := 11) X492 C d18_10 rfl rfl ?_
  refine W.icmpF (q := 14) X492 C d18_11 rfl (by decide : W.cF .ge (0 : Int32) (3 : Int32)) ?_
  refine W.aloadN (q := 15) X492 C d18_14 rfl rfl rfl ?_
  refine W.iload (q := 17) X492 C d18_15 rfl rfl ?_
  refine W.aloadN (q := 18) X492 C d18_17 rfl rfl rfl ?_
  refine W.iloadN (q := 19) X492 C d18_18 rfl rfl ?_
  refine W.caload (q := 20) X492 C rfl Vc_494 (by decide) (by decide) rfl d18_19 rfl ?_
  refine W.callS (q := 23) X492 C (W.ww hw 88 rfl) (W.ww hw 89 rfl) (W.ww hw 67 rfl) (W.ww hw 90 rfl) (by decide) (rm21_3_0 l Z a0 hw [] b492 kb492 (0 : Int32) (0 : Int32) (0 : Int32) (0 : Int32) (0 : Int32) (0 : Int32) x0 T492.heap n0 n0_492 ge_b492 V492 (SA.ext O0_495.2) (SH.ext O0_495.2) (SL.ext O0_495.2)) rfl d18_20 [(.ref b492), (.int (0 : Int32)), (.int x0)] [] rfl rfl pd__28_5bBII_29V rfl rfl (by decide) (Nat.le_of_ble_eq_true rfl) (by decide) (by decide) rfl (fun T496 w496 L496 X496 hQ496 => ?_)
  obtain ⟨rfl, NL496, K496, V496⟩ := hQ496
  have N496 := Fr.app N492 NL496
  have Vc_498 := Vc_494.keep K496 (ninS ne_p0_b492 nin0)
  have O0_499 := O0_495.keep K496 (allS ge_b492 all0)
  have n0_496 : n0 ≤ T496.heap.size := Nat.le_trans n0_492 K496.1
  have KK496 := KK492.trans K496 (allS (Or.inr sz_b492) all0)
  show W.Go p e below _ (T496.setTop (mkF m 23 #[.val (.ref p0), .val (.int (0 : Int32)), .val (.int (3 : Int32)), .val (.ref b492), .val (.int (0 : Int32))] []))
  refine W.iinc (q := 26) (L' := #[.val (.ref p0), .val (.int (1 : Int32)), .val (.int (3 : Int32)), .val (.ref b492), .val (.int (0 : Int32))]) X496 C d18_23 rfl (by decide) rfl rfl ?_
  refine W.iinc (q := 29) (L' := #[.val (.ref p0), .val (.int (1 : Int32)), .val (.int (3 : Int32)), .val (.ref b492), .val (.int (1 : Int32))]) X496 C d18_26 rfl (by decide) rfl rfl ?_
  refine W.goto (q := 8) X496 C d18_29 (by decide) (by decide) ?_
  refine W.iload (q := 10) X496 C d18_8 rfl rfl ?_
  refine W.iloadN (q := 11) X496 C d18_10 rfl rfl ?_
  refine W.icmpF (q := 14) X496 C d18_11 rfl (by decide : W.cF .ge (1 : Int32) (3 : Int32)) ?_
  refine W.aloadN (q := 15) X496 C d18_14 rfl rfl rfl ?_
  refine W.iload (q := 17) X496 C d18_15 rfl rfl ?_
  refine W.aloadN (q := 18) X496 C d18_17 rfl rfl rfl ?_
  refine W.iloadN (q := 19) X496 C d18_18 rfl rfl ?_
  refine W.caload (q := 20) X496 C rfl Vc_498 (by decide) (by decide) rfl d18_19 rfl ?_
  refine W.callS (q := 23) X496 C (W.ww hw 88 rfl) (W.ww hw 89 rfl) (W.ww hw 67 rfl) (W.ww hw 90 rfl) (by decide) (rm21_3_1 l Z a0 hw [] b492 kb492 (own_hb x0) (own_lb x0) (0 : Int32) (0 : Int32) (0 : Int32) (0 : Int32) x1 T496.heap n0 n0_496 ge_b492 V496 (SA.ext O0_499.2) (SH.ext O0_499.2) (SL.ext O0_499.2)) rfl d18_20 [(.ref b492), (.int (1 : Int32)), (.int x1)] [] rfl rfl pd__28_5bBII_29V rfl rfl (by decide) (Nat.le_of_ble_eq_true rfl) (by decide) (by decide) rfl (fun T500 w500 L500 X500 hQ500 => ?_)
  obtain ⟨rfl, NL500, K500, V500⟩ := hQ500
  have N500 := Fr.app N496 NL500
  have Vc_502 := Vc_498.keep K500 (ninS ne_p0_b492 nin0)
  have O0_503 := O0_499.keep K500 (allS ge_b492 all0)
  have n0_500 : n0 ≤ T500.heap.size := Nat.le_trans n0_496 K500.1
  have KK500 := KK496.trans K500 (allS (Or.inr sz_b492) all0)
  show W.Go p e below _ (T500.setTop (mkF m 23 #[.val (.ref p0), .val (.int (1 : Int32)), .val (.int (3 : Int32)), .val (.ref b492), .val (.int (1 : Int32))] []))
  refine W.iinc (q := 26) (L' := #[.val (.ref p0), .val (.int (2 : Int32)), .val (.int (3 : Int32)), .val (.ref b492), .val (.int (1 : Int32))]) X500 C d18_23 rfl (by decide) rfl rfl ?_
  refine W.iinc (q := 29) (L' := #[.val (.ref p0), .val (.int (2 : Int32)), .val (.int (3 : Int32)), .val (.ref b492), .val (.int (2 : Int32))]) X500 C d18_26 rfl (by decide) rfl rfl ?_
  refine W.goto (q := 8) X500 C d18_29 (by decide) (by decide) ?_
  refine W.iload (q := 10) X500 C d18_8 rfl rfl ?_
  refine W.iloadN (q := 11) X500 C d18_10 rfl rfl ?_
  refine W.icmpF (q := 14) X500 C d18_11 rfl (by decide : W.cF .ge (2 : Int32) (3 : Int32)) ?_
  refine W.aloadN (q := 15) X500 C d18_14 rfl rfl rfl ?_
  refine W.iload (q := 17) X500 C d18_15 rfl rfl ?_
  refine W.aloadN (q := 18) X500 C d18_17 rfl rfl rfl ?_
  refine W.iloadN (q := 19) X500 C d18_18 rfl rfl ?_
  refine W.caload (q := 20) X500 C rfl Vc_502 (by decide) (by decide) rfl d18_19 rfl ?_
  refine W.callS (q := 23) X500 C (W.ww hw 88 rfl) (W.ww hw 89 rfl) (W.ww hw 67 rfl) (W.ww hw 90 rfl) (by decide) (rm21_3_2 l Z a0 hw [] b492 kb492 (own_hb x0) (own_lb x0) (own_hb x1) (own_lb x1) (0 : Int32) (0 : Int32) x2 T500.heap n0 n0_500 ge_b492 V500 (SA.ext O0_503.2) (SH.ext O0_503.2) (SL.ext O0_503.2)) rfl d18_20 [(.ref b492), (.int (2 : Int32)), (.int x2)] [] rfl rfl pd__28_5bBII_29V rfl rfl (by decide) (Nat.le_of_ble_eq_true rfl) (by decide) (by decide) rfl (fun T504 w504 L504 X504 hQ504 => ?_)
  obtain ⟨rfl, NL504, K504, V504⟩ := hQ504
  have N504 := Fr.app N500 NL504
  have Vc_506 := Vc_502.keep K504 (ninS ne_p0_b492 nin0)
  have O0_507 := O0_503.keep K504 (allS ge_b492 all0)
  have n0_504 : n0 ≤ T504.heap.size := Nat.le_trans n0_500 K504.1
  have KK504 := KK500.trans K504 (allS (Or.inr sz_b492) all0)
  show W.Go p e below _ (T504.setTop (mkF m 23 #[.val (.ref p0), .val (.int (2 : Int32)), .val (.int (3 : Int32)), .val (.ref b492), .val (.int (2 : Int32))] []))
  refine W.iinc (q := 26) (L' := #[.val (.ref p0), .val (.int (3 : Int32)), .val (.int (3 : Int32)), .val (.ref b492), .val (.int (2 : Int32))]) X504 C d18_23 rfl (by decide) rfl rfl ?_
  refine W.iinc (q := 29) (L' := #[.val (.ref p0), .val (.int (3 : Int32)), .val (.int (3 : Int32)), .val (.ref b492), .val (.int (3 : Int32))]) X504 C d18_26 rfl (by decide) rfl rfl ?_
  refine W.goto (q := 8) X504 C d18_29 (by decide) (by decide) ?_
  refine W.iload (q := 10) X504 C d18_8 rfl rfl ?_
  refine W.iloadN (q := 11) X504 C d18_10 rfl rfl ?_
  refine W.icmpT (q := 32) X504 C d18_11 (by decide) (by decide) (by decide : W.cT .ge (3 : Int32) (3 : Int32)) ?_
  refine W.aloadN (q := 33) X504 C d18_32 rfl rfl rfl ?_
  exact W.retA X504 C rfl rfl rfl d18_33 (by decide) (by decide) ⟨_, _, rfl, N504, KK504, V504⟩
def Q14_3 (Z : State) (p0 : Addr) (kc : ClassId) (x0 x1 x2 : Int32) (h0 : Heap) (n0 : Nat) (v : Option Value) (h : Heap) (L : List Loc) : Prop := ∃ b kb, v = some (.ref b) ∧ Fr n0 L ∧ Keep h0 h [] ∧ ((own_r8 x0 ∧ own_r8 x1 ∧ own_r8 x2 ∧ Arv Z h b kb .byte (3 : Int32) [(.int (x0.toInt8.toInt32)), (.int (x1.toInt8.toInt32)), (.int (x2.toInt8.toInt32))] (.int (0 : Int32))) ∨ Arv Z h b kb .byte (6 : Int32) [(.int (own_hb x0)), (.int (own_lb x0)), (.int (own_hb x1)), (.int (own_lb x1)), (.int (own_hb x2)), (.int (own_lb x2))] (.int (0 : Int32)))
theorem rm14_3 (l : Launch) (Z : State) (a0 : Array Value) (hw : own_HW a0 Z) (ws : List Jvm.Cond) (p0 : Addr) (kc : ClassId) (x0 x1 x2 : Int32) (h0 : Heap) (n0 : Nat) (Z0 : n0 ≤ h0.size) (Vc : Arv Z h0 p0 kc .char (3 : Int32) [(.int x0), (.int x1), (.int x2)] (.int (0 : Int32))) (hr0 : own_r16 x0) (hr1 : own_r16 x1) (hr2 : own_r16 x2) (O0 : Old Z n0 h0) (SA : Sta Z Z.heap "java/lang/StringUTF16" "$assertionsDisabled" "Z" (.int (1 : Int32))) (SH : Sta Z Z.heap "java/lang/StringUTF16" "HI_BYTE_SHIFT" "I" (.int (0 : Int32))) (SL : Sta Z Z.heap "java/lang/StringUTF16" "LO_BYTE_SHIFT" "I" (.int (8 : Int32))) : own_M l y14 jdk_52_method_16_code 6 (some (.array .byte)) ws r_3_2_12_50 #[(.ref p0), (.int (0 : Int32)), (.int (3 : Int32))] Z h0 (Q14_3 Z p0 kc x0 x1 x2 h0 n0) := by
  refine W.bodyOf (Ls := #[.val (.ref p0), .val (.int (0 : Int32)), .val (.int (3 : Int32)), .unset, .unset, .unset]) (plainFor_of_name pn_java_lang_StringUTF16) (fun m => by first | exact W.entry_of rfl) ?_
  intro p e s m below meth c T0 C X0 e0
  have N0 := Fr.nil n0
  have K0 := Keep.refl h0 []
  refine W.iloadN (q := 1) X0 C d14_0 rfl rfl ?_
  refine W.newarray (q := 3) X0 C (W.ww hw 15 rfl) e0 (by decide) 3 (by decide) (by decide) d14_1 (by decide) (by decide) rfl (fun T508 h508 b508 k508 X508 e508 g508 E508 V508_ => ?_)
  have ne_p0_b508 : p0 ≠ b508 := by rw [g508]; exact Nat.ne_of_lt Vc.lt
  have ge_b508 : n0 ≤ b508 := by rw [g508]; exact Z0
  have sz_b508 : h0.size ≤ b508 := by rw [g508]; exact K0.1
  have n0_508 : n0 ≤ h508.size := Nat.le_trans Z0 E508.1
  have Vc_510 := Vc.ext E508
  have O0_511 := O0.ext E508
  have K508 := K0.ext E508
  have V508 : Arv Z h508 b508 k508 .byte (3 : Int32) [(.int (0 : Int32)), (.int (0 : Int32)), (.int (0 : Int32))] (.int (0 : Int32)) := V508_
  refine W.astoreN (q := 4) (L' := #[.val (.ref p0), .val (.int (0 : Int32)), .val (.int (3 : Int32)), .val (.ref b508), .unset, .unset]) X508 C d14_3 rfl rfl rfl ?_
  refine W.aloadN (q := 5) X508 C d14_4 rfl rfl rfl ?_
  refine W.iloadN (q := 6) X508 C d14_5 rfl rfl ?_
  refine W.aloadN (q := 7) X508 C d14_6 rfl rfl rfl ?_
  refine W.iconst (q := 8) (v := 0) X508 C d14_7 rfl rfl ?_
  refine W.iloadN (q := 9) X508 C d14_8 rfl rfl ?_
  refine W.callS (q := 12) X508 C (W.ww hw 69 rfl) (W.ww hw 70 rfl) (W.ww hw 67 rfl) (W.ww hw 71 rfl) (by decide) (rm15_3 l Z a0 hw [] p0 b508 kc k508 x0 x1 x2 h508 n0 n0_508 ge_b508 ne_p0_b508 Vc_510 V508 hr0 hr1 hr2) e508 d14_9 [(.ref p0), (.int (0 : Int32)), (.ref b508), (.int (0 : Int32)), (.int (3 : Int32))] [] rfl rfl pd__28_5bCI_5bBII_29I rfl rfl (by decide) (Nat.le_of_ble_eq_true rfl) (by decide) (by decide) rfl (fun T512 w512 L512 X512 hQ512 => ?_)
  obtain ⟨NL512, K512, D512⟩ := hQ512
  have N512 := Fr.app N0 NL512
  have Vc_514 := Vc_510.keep K512 (ninS ne_p0_b508 nin0)
  have O0_515 := O0_511.keep K512 (allS ge_b508 all0)
  have n0_512 : n0 ≤ T512.heap.size := Nat.le_trans n0_508 K512.1
  have KK512 := K508.trans K512 (allS (Or.inr sz_b508) all0)
  rcases D512 with ⟨rfl, hx0, hx1, hx2, Vl⟩ | ⟨rfl, hbig⟩ | ⟨rfl, hbig⟩ | ⟨rfl, hbig⟩
  · show W.Go p e below _ (T512.setTop (mkF m 12 #[.val (.ref p0), .val (.int (0 : Int32)), .val (.int (3 : Int32)), .val (.ref b508), .unset, .unset] [(.int (3 : Int32))]))
    refine W.istore (q := 14) (L' := #[.val (.ref p0), .val (.int (0 : Int32)), .val (.int (3 : Int32)), .val (.ref b508), .val (.int (3 : Int32)), .unset]) X512 C d14_12 rfl rfl ?_
    refine W.iload (q := 16) X512 C d14_14 rfl rfl ?_
    refine W.iloadN (q := 17) X512 C d14_16 rfl rfl ?_
    refine W.icmpT (q := 57) X512 C d14_17 (by decide) (by decide) (by decide : W.cT .eq (3 : Int32) (3 : Int32)) ?_
    refine W.aloadN (q := 58) X512 C d14_57 rfl rfl rfl ?_
    exact W.retA X512 C rfl rfl rfl d14_58 (by decide) (by decide) ⟨_, _, rfl, N512, KK512, Or.inl ⟨hx0, hx1, hx2, Vl⟩⟩
  · show W.Go p e below _ (T512.setTop (mkF m 12 #[.val (.ref p0), .val (.int (0 : Int32)), .val (.int (3 : Int32)), .val (.ref b508), .unset, .unset] [(.int (0 : Int32))]))
    refine W.istore (q := 14) (L' := #[.val (.ref p0), .val (.int (0 : Int32)), .val (.int (3 : Int32)), .val (.ref b508), .val (.int (0 : Int32)), .unset]) X512 C d14_12 rfl rfl ?_
    refine W.iload (q := 16) X512 C d14_14 rfl rfl ?_
    refine W.iloadN (q := 17) X512 C d14_16 rfl rfl ?_
    refine W.icmpF (q := 20) X512 C d14_17 rfl (by decide : W.cF .eq (0 : Int32) (3 : Int32)) ?_
    refine W.aloadN (q := 21) X512 C d14_20 rfl rfl rfl ?_
    refine W.iloadN (q := 22) X512 C d14_21 rfl rfl ?_
    refine W.iloadN (q := 23) X512 C d14_22 rfl rfl ?_
    refine W.callS (q := 26) X512 C (W.ww hw 78 rfl) (W.ww hw 79 rfl) (W.ww hw 67 rfl) (W.ww hw 80 rfl) (by decide) (rm18_3 l Z a0 hw [] p0 kc x0 x1 x2 T512.heap n0 n0_512 Vc_514 O0_515 SA SH SL) rfl d14_23 [(.ref p0), (.int (0 : Int32)), (.int (3 : Int32))] [] rfl rfl pd__28_5bCII_29_5bB rfl rfl (by decide) (Nat.le_of_ble_eq_true rfl) (by decide) (by decide) rfl (fun T516 w516 L516 X516 hQ516 => ?_)
    obtain ⟨b516, kb516, rfl, NL516, K516, V516⟩ := hQ516
    have N516 := Fr.app N512 NL516
    have Vc_518 := Vc_514.keep K516 nin0
    have O0_519 := O0_515.keep K516 all0
    have n0_516 : n0 ≤ T516.heap.size := Nat.le_trans n0_512 K516.1
    have KK516 := KK512.trans K516 all0
    show W.Go p e below _ (T516.setTop (mkF m 26 #[.val (.ref p0), .val (.int (0 : Int32)), .val (.int (3 : Int32)), .val (.ref b508), .val (.int (0 : Int32)), .unset] [(.ref b516)]))
    refine W.astore (q := 28) (L' := #[.val (.ref p0), .val (.int (0 : Int32)), .val (.int (3 : Int32)), .val (.ref b508), .val (.int (0 : Int32)), .val (.ref b516)]) X516 C d14_26 rfl rfl rfl ?_
    refine W.aload (q := 30) X516 C d14_28 rfl rfl rfl ?_
    refine W.iload (q := 32) X516 C d14_30 rfl rfl ?_
    refine W.callS (q := 35) X516 C (W.ww hw 94 rfl) (W.ww hw 95 rfl) (W.ww hw 67 rfl) (W.ww hw 96 rfl) (by decide) (rm22 l Z a0 hw [] b516 kb516 [(.int (own_hb x0)), (.int (own_lb x0)), (.int (own_hb x1)), (.int (own_lb x1)), (.int (own_hb x2)), (.int (own_lb x2))] (6 : Int32) (0 : Int32) (0 : Int32) (1 : Int32) x0 T516.heap n0 V516 (by decide) (by decide) (by decide) (by decide) (by decide) (by decide) rfl rfl hr0 (SA.ext O0_519.2) (SH.ext O0_519.2) (SL.ext O0_519.2)) rfl d14_32 [(.ref b516), (.int (0 : Int32))] [] rfl rfl pd__28_5bBI_29C rfl rfl (by decide) (Nat.le_of_ble_eq_true rfl) (by decide) (by decide) rfl (fun T520 w520 L520 X520 hQ520 => ?_)
    obtain ⟨rfl, NL520, e520⟩ := hQ520
    have N520 := Fr.app N516 NL520
    show W.Go p e below _ (T520.setTop (mkF m 35 #[.val (.ref p0), .val (.int (0 : Int32)), .val (.int (3 : Int32)), .val (.ref b508), .val (.int (0 : Int32)), .val (.ref b516)] [(.int x0)]))
    refine W.sipush (q := 38) (v := 255) X520 C d14_35 rfl rfl ?_
    refine W.icmpT (q := 54) X520 C d14_38 (by decide) (by decide) hbig ?_
    refine W.aload (q := 56) X520 C d14_54 rfl rfl rfl ?_
    exact W.retA X520 C rfl e520 rfl d14_56 (by decide) (by decide) ⟨_, _, rfl, N520, KK516, Or.inr V516⟩
  · show W.Go p e below _ (T512.setTop (mkF m 12 #[.val (.ref p0), .val (.int (0 : Int32)), .val (.int (3 : Int32)), .val (.ref b508), .unset, .unset] [(.int (1 : Int32))]))
    refine W.istore (q := 14) (L' := #[.val (.ref p0), .val (.int (0 : Int32)), .val (.int (3 : Int32)), .val (.ref b508), .val (.int (1 : Int32)), .unset]) X512 C d14_12 rfl rfl ?_
    refine W.iload (q := 16) X512 C d14_14 rfl rfl ?_
    refine W.iloadN (q := 17) X512 C d14_16 rfl rfl ?_
    refine W.icmpF (q := 20) X512 C d14_17 rfl (by decide : W.cF .eq (1 : Int32) (3 : Int32)) ?_
    refine W.aloadN (q := 21) X512 C d14_20 rfl rfl rfl ?_
    refine W.iloadN (q := 22) X512 C d14_21 rfl rfl ?_
    refine W.iloadN (q := 23) X512 C d14_22 rfl rfl ?_
    refine W.callS (q := 26) X512 C (W.ww hw 78 rfl) (W.ww hw 79 rfl) (W.ww hw 67 rfl) (W.ww hw 80 rfl) (by decide) (rm18_3 l Z a0 hw [] p0 kc x0 x1 x2 T512.heap n0 n0_512 Vc_514 O0_515 SA SH SL) rfl d14_23 [(.ref p0), (.int (0 : Int32)), (.int (3 : Int32))] [] rfl rfl pd__28_5bCII_29_5bB rfl rfl (by decide) (Nat.le_of_ble_eq_true rfl) (by decide) (by decide) rfl (fun T521 w521 L521 X521 hQ521 => ?_)
    obtain ⟨b521, kb521, rfl, NL521, K521, V521⟩ := hQ521
    have N521 := Fr.app N512 NL521
    have Vc_523 := Vc_514.keep K521 nin0
    have O0_524 := O0_515.keep K521 all0
    have n0_521 : n0 ≤ T521.heap.size := Nat.le_trans n0_512 K521.1
    have KK521 := KK512.trans K521 all0
    show W.Go p e below _ (T521.setTop (mkF m 26 #[.val (.ref p0), .val (.int (0 : Int32)), .val (.int (3 : Int32)), .val (.ref b508), .val (.int (1 : Int32)), .unset] [(.ref b521)]))
    refine W.astore (q := 28) (L' := #[.val (.ref p0), .val (.int (0 : Int32)), .val (.int (3 : Int32)), .val (.ref b508), .val (.int (1 : Int32)), .val (.ref b521)]) X521 C d14_26 rfl rfl rfl ?_
    refine W.aload (q := 30) X521 C d14_28 rfl rfl rfl ?_
    refine W.iload (q := 32) X521 C d14_30 rfl rfl ?_
    refine W.callS (q := 35) X521 C (W.ww hw 94 rfl) (W.ww hw 95 rfl) (W.ww hw 67 rfl) (W.ww hw 96 rfl) (by decide) (rm22 l Z a0 hw [] b521 kb521 [(.int (own_hb x0)), (.int (own_lb x0)), (.int (own_hb x1)), (.int (own_lb x1)), (.int (own_hb x2)), (.int (own_lb x2))] (6 : Int32) (1 : Int32) (2 : Int32) (3 : Int32) x1 T521.heap n0 V521 (by decide) (by decide) (by decide) (by decide) (by decide) (by decide) rfl rfl hr1 (SA.ext O0_524.2) (SH.ext O0_524.2) (SL.ext O0_524.2)) rfl d14_32 [(.ref b521), (.int (1 : Int32))] [] rfl rfl pd__28_5bBI_29C rfl rfl (by decide) (Nat.le_of_ble_eq_true rfl) (by decide) (by decide) rfl (fun T525 w525 L525 X525 hQ525 => ?_)
    obtain ⟨rfl, NL525, e525⟩ := hQ525
    have N525 := Fr.app N521 NL525
    show W.Go p e below _ (T525.setTop (mkF m 35 #[.val (.ref p0), .val (.int (0 : Int32)), .val (.int (3 : Int32)), .val (.ref b508), .val (.int (1 : Int32)), .val (.ref b521)] [(.int x1)]))
    refine W.sipush (q := 38) (v := 255) X525 C d14_35 rfl rfl ?_
    refine W.icmpT (q := 54) X525 C d14_38 (by decide) (by decide) hbig ?_
    refine W.aload (q := 56) X525 C d14_54 rfl rfl rfl ?_
    exact W.retA X525 C rfl e525 rfl d14_56 (by decide) (by decide) ⟨_, _, rfl, N525, KK521, Or.inr V521⟩
  · show W.Go p e below _ (T512.setTop (mkF m 12 #[.val (.ref p0), .val (.int (0 : Int32)), .val (.int (3 : Int32)), .val (.ref b508), .unset, .unset] [(.int (2 : Int32))]))
    refine W.istore (q := 14) (L' := #[.val (.ref p0), .val (.int (0 : Int32)), .val (.int (3 : Int32)), .val (.ref b508), .val (.int (2 : Int32)), .unset]) X512 C d14_12 rfl rfl ?_
    refine W.iload (q := 16) X512 C d14_14 rfl rfl ?_
    refine W.iloadN (q := 17) X512 C d14_16 rfl rfl ?_
    refine W.icmpF (q := 20) X512 C d14_17 rfl (by decide : W.cF .eq (2 : Int32) (3 : Int32)) ?_
    refine W.aloadN (q := 21) X512 C d14_20 rfl rfl rfl ?_
    refine W.iloadN (q := 22) X512 C d14_21 rfl rfl ?_
    refine W.iloadN (q := 23) X512 C d14_22 rfl rfl ?_
    refine W.callS (q := 26) X512 C (W.ww hw 78 rfl) (W.ww hw 79 rfl) (W.ww hw 67 rfl) (W.ww hw 80 rfl) (by decide) (rm18_3 l Z a0 hw [] p0 kc x0 x1 x2 T512.heap n0 n0_512 Vc_514 O0_515 SA SH SL) rfl d14_23 [(.ref p0), (.int (0 : Int32)), (.int (3 : Int32))] [] rfl rfl pd__28_5bCII_29_5bB rfl rfl (by decide) (Nat.le_of_ble_eq_true rfl) (by decide) (by decide) rfl (fun T526 w526 L526 X526 hQ526 => ?_)
    obtain ⟨b526, kb526, rfl, NL526, K526, V526⟩ := hQ526
    have N526 := Fr.app N512 NL526
    have Vc_528 := Vc_514.keep K526 nin0
    have O0_529 := O0_515.keep K526 all0
    have n0_526 : n0 ≤ T526.heap.size := Nat.le_trans n0_512 K526.1
    have KK526 := KK512.trans K526 all0
    show W.Go p e below _ (T526.setTop (mkF m 26 #[.val (.ref p0), .val (.int (0 : Int32)), .val (.int (3 : Int32)), .val (.ref b508), .val (.int (2 : Int32)), .unset] [(.ref b526)]))
    refine W.astore (q := 28) (L' := #[.val (.ref p0), .val (.int (0 : Int32)), .val (.int (3 : Int32)), .val (.ref b508), .val (.int (2 : Int32)), .val (.ref b526)]) X526 C d14_26 rfl rfl rfl ?_
    refine W.aload (q := 30) X526 C d14_28 rfl rfl rfl ?_
    refine W.iload (q := 32) X526 C d14_30 rfl rfl ?_
    refine W.callS (q := 35) X526 C (W.ww hw 94 rfl) (W.ww hw 95 rfl) (W.ww hw 67 rfl) (W.ww hw 96 rfl) (by decide) (rm22 l Z a0 hw [] b526 kb526 [(.int (own_hb x0)), (.int (own_lb x0)), (.int (own_hb x1)), (.int (own_lb x1)), (.int (own_hb x2)), (.int (own_lb x2))] (6 : Int32) (2 : Int32) (4 : Int32) (5 : Int32) x2 T526.heap n0 V526 (by decide) (by decide) (by decide) (by decide) (by decide) (by decide) rfl rfl hr2 (SA.ext O0_529.2) (SH.ext O0_529.2) (SL.ext O0_529.2)) rfl d14_32 [(.ref b526), (.int (2 : Int32))] [] rfl rfl pd__28_5bBI_29C rfl rfl (by decide) (Nat.le_of_ble_eq_true rfl) (by decide) (by decide) rfl (fun T530 w530 L530 X530 hQ530 => ?_)
    obtain ⟨rfl, NL530, e530⟩ := hQ530
    have N530 := Fr.app N526 NL530
    show W.Go p e below _ (T530.setTop (mkF m 35 #[.val (.ref p0), .val (.int (0 : Int32)), .val (.int (3 : Int32)), .val (.ref b508), .val (.int (2 : Int32)), .val (.ref b526)] [(.int x2)]))
    refine W.sipush (q := 38) (v := 255) X530 C d14_35 rfl rfl ?_
    refine W.icmpT (q := 54) X530 C d14_38 (by decide) (by decide) hbig ?_
    refine W.aload (q := 56) X530 C d14_54 rfl rfl rfl ?_
    exact W.retA X530 C rfl e530 rfl d14_56 (by decide) (by decide) ⟨_, _, rfl, N530, KK526, Or.inr V526⟩
def Q2_3 (Z : State) (p0 p1 : Addr) (kc : ClassId) (x0 x1 x2 : Int32) (cs : Int32) (h0 : Heap) (n0 : Nat) (v : Option Value) (h : Heap) (L : List Loc) : Prop := v = none ∧ Fr n0 L ∧ Keep h0 h [p0] ∧ own_txt3 Z h p0 x0 x1 x2
theorem rm2_3 (l : Launch) (Z : State) (a0 : Array Value) (hw : own_HW a0 Z) (ws : List Jvm.Cond) (p0 p1 : Addr) (kc : ClassId) (x0 x1 x2 : Int32) (cs : Int32) (h0 : Heap) (n0 : Nat) (Z0 : n0 ≤ h0.size) (hge : n0 ≤ p0) (E0 : Exa Z h0 p0 "java/lang/String") (F0a : Fld Z h0 p0 "java/lang/String" "value" "[B" .null) (F0b : Fld Z h0 p0 "java/lang/String" "coder" "B" (.int (0 : Int32))) (Vc : Arv Z h0 p1 kc .char (3 : Int32) [(.int x0), (.int x1), (.int x2)] (.int (0 : Int32))) (hr0 : own_r16 x0) (hr1 : own_r16 x1) (hr2 : own_r16 x2) (O0 : Old Z n0 h0) (SC : Sta Z Z.heap "java/lang/String" "COMPACT_STRINGS" "Z" (.int cs)) (hcs : cs ≠ 0) (SA : Sta Z Z.heap "java/lang/StringUTF16" "$assertionsDisabled" "Z" (.int (1 : Int32))) (SH : Sta Z Z.heap "java/lang/StringUTF16" "HI_BYTE_SHIFT" "I" (.int (0 : Int32))) (SL : Sta Z Z.heap "java/lang/StringUTF16" "LO_BYTE_SHIFT" "I" (.int (8 : Int32))) : own_M l y2 jdk_42_method_149_code 6 none ws r_4_2_12_70 #[(.ref p0), (.ref p1), (.int (0 : Int32)), (.int (3 : Int32)), .null] Z h0 (Q2_3 Z p0 p1 kc x0 x1 x2 cs h0 n0) := by
  refine W.bodyOf (Ls := #[.val (.ref p0), .val (.ref p1), .val (.int (0 : Int32)), .val (.int (3 : Int32)), .val .null, .unset]) (plainFor_of_name pn_java_lang_String) (fun m => by first | exact W.entry_of rfl) ?_
  intro p e s m below meth c T0 C X0 e0
  have N0 := Fr.nil n0
  have K0 := Keep.refl h0 [p0]
  have ne01 : p0 ≠ p1 := E0.neArv Vc (W.ww hw 2 rfl)
  have SC0 := SC.ext O0.2
  refine W.aloadN (q := 1) X0 C d2_0 rfl rfl rfl ?_
  refine W.initObj (q := 4) X0 C (W.ww hw 11 rfl) (W.ww hw 12 rfl) (W.ww hw 13 rfl) e0 d2_1 rfl (by decide) (Nat.le_of_ble_eq_true rfl) rfl (fun T531 X531 e531 => ?_)
  refine W.iloadN (q := 5) X531 C d2_4 rfl rfl ?_
  refine W.ifT (q := 27) X531 C d2_5 (by decide) (by decide) (by decide : W.cT .ne (3 : Int32) 0) ?_
  refine W.getS (q := 30) X531 C (W.ww hw 40 rfl) Via.refl e531 SC0 d2_27 rfl (fun T532 X532 e532 => ?_)
  refine W.ifF (q := 33) X532 C d2_30 rfl hcs ?_
  refine W.aloadN (q := 34) X532 C d2_33 rfl rfl rfl ?_
  refine W.iloadN (q := 35) X532 C d2_34 rfl rfl ?_
  refine W.iloadN (q := 36) X532 C d2_35 rfl rfl ?_
  refine W.callS (q := 39) X532 C (W.ww hw 65 rfl) (W.ww hw 66 rfl) (W.ww hw 67 rfl) (W.ww hw 68 rfl) (by decide) (rm14_3 l Z a0 hw [] p1 kc x0 x1 x2 h0 n0 Z0 Vc hr0 hr1 hr2 O0 SA SH SL) e532 d2_36 [(.ref p1), (.int (0 : Int32)), (.int (3 : Int32))] [] rfl rfl pd__28_5bCII_29_5bB rfl rfl (by decide) (Nat.le_of_ble_eq_true rfl) (by decide) (by decide) rfl (fun T533 w533 L533 X533 hQ533 => ?_)
  obtain ⟨b533, kb533, rfl, NL533, K533, D533⟩ := hQ533
  have N533 := Fr.app N0 NL533
  have Vc_535 := Vc.keep K533 nin0
  have O0_536 := O0.keep K533 all0
  have E0_537 := E0.keep K533
  have F0a_538 := F0a.keep K533 nin0
  have F0b_539 := F0b.keep K533 nin0
  have n0_533 : n0 ≤ T533.heap.size := Nat.le_trans Z0 K533.1
  have KK533 := K0.trans K533 all0
  show W.Go p e below _ (T533.setTop (mkF m 39 #[.val (.ref p0), .val (.ref p1), .val (.int (0 : Int32)), .val (.int (3 : Int32)), .val .null, .unset] [(.ref b533)]))
  rcases D533 with ⟨hx0, hx1, hx2, Vb⟩ | Vb
  · have ne_p0_b533 : p0 ≠ b533 := E0_537.neArv Vb (W.ww hw 2 rfl)
    show W.Go p e below _ (T533.setTop (mkF m 39 #[.val (.ref p0), .val (.ref p1), .val (.int (0 : Int32)), .val (.int (3 : Int32)), .val .null, .unset] [(.ref b533)]))
    refine W.astore (q := 41) (L' := #[.val (.ref p0), .val (.ref p1), .val (.int (0 : Int32)), .val (.int (3 : Int32)), .val .null, .val (.ref b533)]) X533 C d2_39 rfl rfl rfl ?_
    refine W.aloadN (q := 42) X533 C d2_41 rfl rfl rfl ?_
    refine W.aload (q := 44) X533 C d2_42 rfl rfl rfl ?_
    refine W.iloadN (q := 45) X533 C d2_44 rfl rfl ?_
    refine W.callS (q := 48) X533 C (W.ww hw 72 rfl) (W.ww hw 73 rfl) (W.ww hw 67 rfl) (W.ww hw 74 rfl) (by decide) (rm16_3_3 l Z a0 hw [] b533 kb533 _ T533.heap n0 Vb) rfl d2_45 [(.ref b533), (.int (3 : Int32))] [(.ref p0)] rfl rfl pd__28_5bBI_29B rfl rfl (by decide) (Nat.le_of_ble_eq_true rfl) (by decide) (by decide) rfl (fun T541 w541 L541 X541 hQ541 => ?_)
    obtain ⟨rfl, NL541, e541⟩ := hQ541
    have N541 := Fr.app N533 NL541
    show W.Go p e below _ (T541.setTop (mkF m 48 #[.val (.ref p0), .val (.ref p1), .val (.int (0 : Int32)), .val (.int (3 : Int32)), .val .null, .val (.ref b533)] [(.int (0 : Int32)), (.ref p0)]))
    refine W.putF (host := "") (q := 51) X541 C (Or.inl (W.ww hw 21 rfl)) Via.refl e541 F0b_539 E0_537 (Or.inr ⟨(W.ww hw 17 rfl), rfl, rfl⟩) (W.ww hw 2 rfl) (ty := .byte) (by decide) rfl rfl d2_48 rfl (fun T542 h542 X542 e542 W542 => ?_)
    have Fw542 := F0b_539.same W542
    have Vc_544 := Vc_535.other W542 (Ne.symm ne01)
    have O0_545 := O0_536.wr W542 hge
    have E0_546 := E0_537.wr W542
    have F0a_547 := F0a_538.other W542 (Or.inr (slot_ne (Or.inr (W.ww hw 16 rfl)) (Or.inr (W.ww hw 17 rfl)) (by decide) (t := (.array .byte)) (t' := .byte) (by decide) (by decide)))
    have Vb_549 := Vb.other W542 (Ne.symm ne_p0_b533)
    have N542 := Fr.snoc X542 N541 hge
    have K542 := KK533.wr W542 (Or.inl (by simp))
    have n0_542 : n0 ≤ h542.size := by rw [W542.size]; exact n0_533
    refine W.aloadN (q := 52) X542 C d2_51 rfl rfl rfl ?_
    refine W.aload (q := 54) X542 C d2_52 rfl rfl rfl ?_
    refine W.putF (host := "") (q := 57) X542 C (Or.inl (W.ww hw 20 rfl)) Via.refl e542 F0a_547 E0_546 (Or.inr ⟨(W.ww hw 16 rfl), rfl, rfl⟩) (W.ww hw 2 rfl) (ty := (.array .byte)) (by decide) rfl rfl d2_54 rfl (fun T550 h550 X550 e550 W550 => ?_)
    have Fw550 := F0a_547.same W550
    have Vc_552 := Vc_544.other W550 (Ne.symm ne01)
    have O0_553 := O0_545.wr W550 hge
    have E0_554 := E0_546.wr W550
    have Fw542_556 := Fw542.other W550 (Or.inr (slot_ne (Or.inr (W.ww hw 17 rfl)) (Or.inr (W.ww hw 16 rfl)) (by decide) (t := .byte) (t' := (.array .byte)) (by decide) (by decide)))
    have Vb_557 := Vb_549.other W550 (Ne.symm ne_p0_b533)
    have N550 := Fr.snoc X550 N542 hge
    have K550 := K542.wr W550 (Or.inl (by simp))
    have n0_550 : n0 ≤ h550.size := by rw [W550.size]; exact n0_542
    exact W.retV X550 C e550 d2_57 (by decide) (by decide) ⟨rfl, N550, K550, _, _, E0_554, Fw550, Or.inl ⟨Fw542_556, hx0, hx1, hx2, Vb_557⟩⟩
  · have ne_p0_b533 : p0 ≠ b533 := E0_537.neArv Vb (W.ww hw 2 rfl)
    show W.Go p e below _ (T533.setTop (mkF m 39 #[.val (.ref p0), .val (.ref p1), .val (.int (0 : Int32)), .val (.int (3 : Int32)), .val .null, .unset] [(.ref b533)]))
    refine W.astore (q := 41) (L' := #[.val (.ref p0), .val (.ref p1), .val (.int (0 : Int32)), .val (.int (3 : Int32)), .val .null, .val (.ref b533)]) X533 C d2_39 rfl rfl rfl ?_
    refine W.aloadN (q := 42) X533 C d2_41 rfl rfl rfl ?_
    refine W.aload (q := 44) X533 C d2_42 rfl rfl rfl ?_
    refine W.iloadN (q := 45) X533 C d2_44 rfl rfl ?_
    refine W.callS (q := 48) X533 C (W.ww hw 72 rfl) (W.ww hw 73 rfl) (W.ww hw 67 rfl) (W.ww hw 74 rfl) (by decide) (rm16_3_6 l Z a0 hw [] b533 kb533 _ T533.heap n0 Vb) rfl d2_45 [(.ref b533), (.int (3 : Int32))] [(.ref p0)] rfl rfl pd__28_5bBI_29B rfl rfl (by decide) (Nat.le_of_ble_eq_true rfl) (by decide) (by decide) rfl (fun T558 w558 L558 X558 hQ558 => ?_)
    obtain ⟨rfl, NL558, e558⟩ := hQ558
    have N558 := Fr.app N533 NL558
    show W.Go p e below _ (T558.setTop (mkF m 48 #[.val (.ref p0), .val (.ref p1), .val (.int (0 : Int32)), .val (.int (3 : Int32)), .val .null, .val (.ref b533)] [(.int (1 : Int32)), (.ref p0)]))
    refine W.putF (host := "") (q := 51) X558 C (Or.inl (W.ww hw 21 rfl)) Via.refl e558 F0b_539 E0_537 (Or.inr ⟨(W.ww hw 17 rfl), rfl, rfl⟩) (W.ww hw 2 rfl) (ty := .byte) (by decide) rfl rfl d2_48 rfl (fun T559 h559 X559 e559 W559 => ?_)
    have Fw559 := F0b_539.same W559
    have Vc_561 := Vc_535.other W559 (Ne.symm ne01)
    have O0_562 := O0_536.wr W559 hge
    have E0_563 := E0_537.wr W559
    have F0a_564 := F0a_538.other W559 (Or.inr (slot_ne (Or.inr (W.ww hw 16 rfl)) (Or.inr (W.ww hw 17 rfl)) (by decide) (t := (.array .byte)) (t' := .byte) (by decide) (by decide)))
    have Vb_566 := Vb.other W559 (Ne.symm ne_p0_b533)
    have N559 := Fr.snoc X559 N558 hge
    have K559 := KK533.wr W559 (Or.inl (by simp))
    have n0_559 : n0 ≤ h559.size := by rw [W559.size]; exact n0_533
    refine W.aloadN (q := 52) X559 C d2_51 rfl rfl rfl ?_
    refine W.aload (q := 54) X559 C d2_52 rfl rfl rfl ?_
    refine W.putF (host := "") (q := 57) X559 C (Or.inl (W.ww hw 20 rfl)) Via.refl e559 F0a_564 E0_563 (Or.inr ⟨(W.ww hw 16 rfl), rfl, rfl⟩) (W.ww hw 2 rfl) (ty := (.array .byte)) (by decide) rfl rfl d2_54 rfl (fun T567 h567 X567 e567 W567 => ?_)
    have Fw567 := F0a_564.same W567
    have Vc_569 := Vc_561.other W567 (Ne.symm ne01)
    have O0_570 := O0_562.wr W567 hge
    have E0_571 := E0_563.wr W567
    have Fw559_573 := Fw559.other W567 (Or.inr (slot_ne (Or.inr (W.ww hw 17 rfl)) (Or.inr (W.ww hw 16 rfl)) (by decide) (t := .byte) (t' := (.array .byte)) (by decide) (by decide)))
    have Vb_574 := Vb_566.other W567 (Ne.symm ne_p0_b533)
    have N567 := Fr.snoc X567 N559 hge
    have K567 := K559.wr W567 (Or.inl (by simp))
    have n0_567 : n0 ≤ h567.size := by rw [W567.size]; exact n0_559
    exact W.retV X567 C e567 d2_57 (by decide) (by decide) ⟨rfl, N567, K567, _, _, E0_571, Fw567, Or.inr ⟨Fw559_573, Vb_574⟩⟩
def Q1_3 (Z : State) (p0 p1 : Addr) (kc : ClassId) (x0 x1 x2 : Int32) (cs : Int32) (h0 : Heap) (n0 : Nat) (v : Option Value) (h : Heap) (L : List Loc) : Prop := v = none ∧ Fr n0 L ∧ Keep h0 h [p0] ∧ own_txt3 Z h p0 x0 x1 x2
theorem rm1_3 (l : Launch) (Z : State) (a0 : Array Value) (hw : own_HW a0 Z) (ws : List Jvm.Cond) (p0 p1 : Addr) (kc : ClassId) (x0 x1 x2 : Int32) (cs : Int32) (h0 : Heap) (n0 : Nat) (Z0 : n0 ≤ h0.size) (hge : n0 ≤ p0) (E0 : Exa Z h0 p0 "java/lang/String") (F0a : Fld Z h0 p0 "java/lang/String" "value" "[B" .null) (F0b : Fld Z h0 p0 "java/lang/String" "coder" "B" (.int (0 : Int32))) (Vc : Arv Z h0 p1 kc .char (3 : Int32) [(.int x0), (.int x1), (.int x2)] (.int (0 : Int32))) (hr0 : own_r16 x0) (hr1 : own_r16 x1) (hr2 : own_r16 x2) (O0 : Old Z n0 h0) (SC : Sta Z Z.heap "java/lang/String" "COMPACT_STRINGS" "Z" (.int cs)) (hcs : cs ≠ 0) (SA : Sta Z Z.heap "java/lang/StringUTF16" "$assertionsDisabled" "Z" (.int (1 : Int32))) (SH : Sta Z Z.heap "java/lang/StringUTF16" "HI_BYTE_SHIFT" "I" (.int (0 : Int32))) (SL : Sta Z Z.heap "java/lang/StringUTF16" "LO_BYTE_SHIFT" "I" (.int (8 : Int32))) : own_M l y1 jdk_42_method_3_code 2 none ws r_5_2_12_90 #[(.ref p0), (.ref p1)] Z h0 (Q1_3 Z p0 p1 kc x0 x1 x2 cs h0 n0) := by
  refine W.bodyOf (Ls := #[.val (.ref p0), .val (.ref p1)]) (plainFor_of_name pn_java_lang_String) (fun m => by first | exact W.entry_of rfl) ?_
  intro p e s m below meth c T0 C X0 e0
  have N0 := Fr.nil n0
  have K0 := Keep.refl h0 [p0]
  have ne01 : p0 ≠ p1 := E0.neArv Vc (W.ww hw 2 rfl)
  refine W.aloadN (q := 1) X0 C d1_0 rfl rfl rfl ?_
  refine W.aloadN (q := 2) X0 C d1_1 rfl rfl rfl ?_
  refine W.iconst (q := 3) (v := 0) X0 C d1_2 rfl rfl ?_
  refine W.aloadN (q := 4) X0 C d1_3 rfl rfl rfl ?_
  refine W.arraylength (q := 5) X0 C e0 Vc d1_4 rfl ?_
  refine W.aconst (q := 6) X0 C d1_5 rfl ?_
  refine W.callI (q := 9) X0 C rfl (W.ww hw 7 rfl) (W.ww hw 8 rfl) (W.ww hw 3 rfl) (W.ww hw 10 rfl) (by decide) (rm2_3 l Z a0 hw [] p0 p1 kc x0 x1 x2 cs h0 n0 Z0 hge E0 F0a F0b Vc hr0 hr1 hr2 O0 SC hcs SA SH SL) e0 d1_6 (a := p0) [(.ref p1), (.int (0 : Int32)), (.int (3 : Int32)), .null] [] rfl rfl pd__28_5bCIILjava_2flang_2fVoid_3b_29V rfl rfl (by decide) (Nat.le_of_ble_eq_true rfl) (by decide) (by decide) rfl (fun T575 w575 L575 X575 hQ575 => ?_)
  obtain ⟨rfl, NL575, K575, Yn575⟩ := hQ575
  have N575 := Fr.app N0 NL575
  have Vc_577 := Vc.keep K575 (ninS (Ne.symm ne01) nin0)
  have O0_578 := O0.keep K575 (allS hge all0)
  have E0_579 := E0.keep K575
  have n0_575 : n0 ≤ T575.heap.size := Nat.le_trans Z0 K575.1
  have KK575 := K0.trans K575 (allS (Or.inl (List.mem_singleton.mpr rfl)) all0)
  show W.Go p e below _ (T575.setTop (mkF m 9 #[.val (.ref p0), .val (.ref p1)] []))
  exact W.retV X575 C rfl d1_9 (by decide) (by decide) ⟨rfl, N575, KK575, Yn575⟩
def Q20_4 (Z : State) (u0 : Int32) (h0 : Heap) (n0 : Nat) (v : Option Value) (h : Heap) (L : List Loc) : Prop := v = some (.int (8 : Int32)) ∧ Fr n0 L ∧ h = h0
theorem rm20_4 (l : Launch) (Z : State) (a0 : Array Value) (hw : own_HW a0 Z) (ws : List Jvm.Cond) (u0 : Int32) (h0 : Heap) (n0 : Nat) : own_M l y20 jdk_52_method_3_code 1 (some .int) ws r_0_0_0_0 #[(.int (4 : Int32))] Z h0 (Q20_4 Z u0 h0 n0) := by
  refine W.bodyOf (Ls := #[.val (.int (4 : Int32))]) (plainFor_of_name pn_java_lang_StringUTF16) (fun m => by first | exact W.entry_of rfl) ?_
  intro p e s m below meth c T0 C X0 e0
  have N0 := Fr.nil n0
  refine W.iloadN (q := 1) X0 C d20_0 rfl rfl ?_
  refine W.ifT (q := 12) X0 C d20_1 (by decide) (by decide) (by decide : W.cT .ge (4 : Int32) 0) ?_
  refine W.iloadN (q := 13) X0 C d20_12 rfl rfl ?_
  refine W.ldcI (q := 15) X0 C (W.ww hw 87 rfl) d20_13 rfl ?_
  refine W.icmpT (q := 55) X0 C d20_15 (by decide) (by decide) (by decide : W.cT .lt (4 : Int32) (1073741823 : Int32)) ?_
  refine W.iloadN (q := 56) X0 C d20_55 rfl rfl ?_
  refine W.iconst (q := 57) (v := 1) X0 C d20_56 rfl rfl ?_
  refine W.ishl (q := 58) X0 C d20_57 rfl ?_
  rw [show ((4 : Int32) <<< ((1 : Int32) &&& 31)) = (8 : Int32) by decide]
  exact W.retI X0 C e0 d20_58 (by decide) (by decide) ⟨rfl, N0, rfl⟩
def Q19_4 (Z : State) (u0 : Int32) (h0 : Heap) (n0 : Nat) (v : Option Value) (h : Heap) (L : List Loc) : Prop := ∃ b kb, v = some (.ref b) ∧ Fr n0 L ∧ Keep h0 h [] ∧ h0.size ≤ b ∧ Arv Z h b kb .byte (8 : Int32) [(.int (0 : Int32)), (.int (0 : Int32)), (.int (0 : Int32)), (.int (0 : Int32)), (.int (0 : Int32)), (.int (0 : Int32)), (.int (0 : Int32)), (.int (0 : Int32))] (.int (0 : Int32))
theorem rm19_4 (l : Launch) (Z : State) (a0 : Array Value) (hw : own_HW a0 Z) (ws : List Jvm.Cond) (u0 : Int32) (h0 : Heap) (n0 : Nat) (Z0 : n0 ≤ h0.size) : own_M l y19 jdk_52_method_2_code 1 (some (.array .byte)) ws r_1_1_8_16 #[(.int (4 : Int32))] Z h0 (Q19_4 Z u0 h0 n0) := by
  refine W.bodyOf (Ls := #[.val (.int (4 : Int32))]) (plainFor_of_name pn_java_lang_StringUTF16) (fun m => by first | exact W.entry_of rfl) ?_
  intro p e s m below meth c T0 C X0 e0
  have N0 := Fr.nil n0
  have K0 := Keep.refl h0 []
  refine W.iloadN (q := 1) X0 C d19_0 rfl rfl ?_
  refine W.callS (q := 4) X0 C (W.ww hw 84 rfl) (W.ww hw 85 rfl) (W.ww hw 67 rfl) (W.ww hw 86 rfl) (by decide) (rm20_4 l Z a0 hw [] 0 h0 n0) e0 d19_1 [(.int (4 : Int32))] [] rfl rfl pd__28I_29I rfl rfl (by decide) (Nat.le_of_ble_eq_true rfl) (by decide) (by decide) rfl (fun T580 w580 L580 X580 hQ580 => ?_)
  obtain ⟨rfl, NL580, e580⟩ := hQ580
  have N580 := Fr.app N0 NL580
  show W.Go p e below _ (T580.setTop (mkF m 4 #[.val (.int (4 : Int32))] [(.int (8 : Int32))]))
  refine W.newarray (q := 6) X580 C (W.ww hw 15 rfl) e580 (by decide) 8 (by decide) (by decide) d19_4 (by decide) (by decide) rfl (fun T581 h581 b581 k581 X581 e581 g581 E581 V581_ => ?_)
  have ge_b581 : n0 ≤ b581 := by rw [g581]; exact Z0
  have sz_b581 : h0.size ≤ b581 := by rw [g581]; exact K0.1
  have n0_581 : n0 ≤ h581.size := Nat.le_trans Z0 E581.1
  have K581 := K0.ext E581
  have V581 : Arv Z h581 b581 k581 .byte (8 : Int32) [(.int (0 : Int32)), (.int (0 : Int32)), (.int (0 : Int32)), (.int (0 : Int32)), (.int (0 : Int32)), (.int (0 : Int32)), (.int (0 : Int32)), (.int (0 : Int32))] (.int (0 : Int32)) := V581_
  exact W.retA X581 C rfl e581 rfl d19_6 (by decide) (by decide) ⟨_, _, rfl, N580, K581, sz_b581, V581⟩
def Q21_4_0 (Z : State) (p0 : Addr) (kb : ClassId) (y0 y1 y2 y3 y4 y5 y6 y7 p2 : Int32) (h0 : Heap) (n0 : Nat) (v : Option Value) (h : Heap) (L : List Loc) : Prop := v = none ∧ Fr n0 L ∧ Keep h0 h [p0] ∧ Arv Z h p0 kb .byte (8 : Int32) [(.int (own_hb p2)), (.int (own_lb p2)), (.int y2), (.int y3), (.int y4), (.int y5), (.int y6), (.int y7)] (.int (0 : Int32))
theorem rm21_4_0 (l : Launch) (Z : State) (a0 : Array Value) (hw : own_HW a0 Z) (ws : List Jvm.Cond) (p0 : Addr) (kb : ClassId) (y0 y1 y2 y3 y4 y5 y6 y7 p2 : Int32) (h0 : Heap) (n0 : Nat) (Z0 : n0 ≤ h0.size) (hge : n0 ≤ p0) (V0 : Arv Z h0 p0 kb .byte (8 : Int32) [(.int y0), (.int y1), (.int y2), (.int y3), (.int y4), (.int y5), (.int y6), (.int y7)] (.int (0 : Int32))) (SA : Sta Z h0 "java/lang/StringUTF16" "$assertionsDisabled" "Z" (.int (1 : Int32))) (SH : Sta Z h0 "java/lang/StringUTF16" "HI_BYTE_SHIFT" "I" (.int (0 : Int32))) (SL : Sta Z h0 "java/lang/StringUTF16" "LO_BYTE_SHIFT" "I" (.int (8 : Int32))) : own_M l y21 jdk_52_method_4_code 3 none ws r_0_0_0_0 #[(.ref p0), (.int (0 : Int32)), (.int p2)] Z h0 (Q21_4_0 Z p0 kb y0 y1 y2 y3 y4 y5 y6 y7 p2 h0 n0) := by
  refine W.bodyOf (Ls := #[.val (.ref p0), .val (.int (0 : Int32)), .val (.int p2)]) (plainFor_of_name pn_java_lang_StringUTF16) (fun m => by first | exact W.entry_of rfl) ?_
  intro p e s m below meth c T0 C X0 e0
  have N0 := Fr.nil n0
  have K0 := Keep.refl h0 [p0]
  refine W.getS (q := 3) X0 C (W.ww hw 91 rfl) Via.refl e0 SA d21_0 rfl (fun T583 X583 e583 => ?_)
  refine W.ifT (q := 28) X583 C d21_3 (by decide) (by decide) (by decide : W.cT .ne (1 : Int32) 0) ?_
  refine W.iloadN (q := 29) X583 C d21_28 rfl rfl ?_
  refine W.iconst (q := 30) (v := 1) X583 C d21_29 rfl rfl ?_
  refine W.ishl (q := 31) X583 C d21_30 rfl ?_
  rw [show ((0 : Int32) <<< ((1 : Int32) &&& 31)) = (0 : Int32) by decide]
  refine W.istoreN (q := 32) (L' := #[.val (.ref p0), .val (.int (0 : Int32)), .val (.int p2)]) X583 C d21_31 rfl rfl ?_
  refine W.aloadN (q := 33) X583 C d21_32 rfl rfl rfl ?_
  refine W.iloadN (q := 34) X583 C d21_33 rfl rfl ?_
  refine W.iinc (q := 37) (L' := #[.val (.ref p0), .val (.int (1 : Int32)), .val (.int p2)]) X583 C d21_34 rfl (by decide) rfl rfl ?_
  refine W.iloadN (q := 38) X583 C d21_37 rfl rfl ?_
  refine W.getS (q := 41) X583 C (W.ww hw 92 rfl) Via.refl e583 SH d21_38 rfl (fun T584 X584 e584 => ?_)
  refine W.ishr (q := 42) X584 C d21_41 rfl ?_
  refine W.i2b (q := 43) X584 C d21_42 rfl ?_
  refine W.bastore (q := 44) X584 C e584 V0  (by decide) (by decide) (Nat.le_of_ble_eq_true rfl) d21_43 rfl (fun T585 h585 X585 e585 W585 V585_ => ?_)
  rw [own_bb (p2 >>> ((0 : Int32) &&& 31))] at V585_
  have SA_587 := SA.wr W585
  have SH_588 := SH.wr W585
  have SL_589 := SL.wr W585
  have V585 : Arv Z h585 p0 kb .byte (8 : Int32) [(.int ((p2 >>> ((0 : Int32) &&& 31)).toInt8.toInt32)), (.int y1), (.int y2), (.int y3), (.int y4), (.int y5), (.int y6), (.int y7)] (.int (0 : Int32)) := V585_
  have N585 := Fr.snoc X585 N0 hge
  have K585 := K0.wr W585 (Or.inl (by simp))
  have n0_585 : n0 ≤ h585.size := by rw [W585.size]; exact Z0
  refine W.aloadN (q := 45) X585 C d21_44 rfl rfl rfl ?_
  refine W.iloadN (q := 46) X585 C d21_45 rfl rfl ?_
  refine W.iloadN (q := 47) X585 C d21_46 rfl rfl ?_
  refine W.getS (q := 50) X585 C (W.ww hw 93 rfl) Via.refl e585 SL_589 d21_47 rfl (fun T591 X591 e591 => ?_)
  refine W.ishr (q := 51) X591 C d21_50 rfl ?_
  refine W.i2b (q := 52) X591 C d21_51 rfl ?_
  refine W.bastore (q := 53) X591 C e591 V585  (by decide) (by decide) (Nat.le_of_ble_eq_true rfl) d21_52 rfl (fun T592 h592 X592 e592 W592 V592_ => ?_)
  rw [own_bb (p2 >>> ((8 : Int32) &&& 31))] at V592_
  have SA_594 := SA_587.wr W592
  have SH_595 := SH_588.wr W592
  have SL_596 := SL_589.wr W592
  have V592 : Arv Z h592 p0 kb .byte (8 : Int32) [(.int ((p2 >>> ((0 : Int32) &&& 31)).toInt8.toInt32)), (.int ((p2 >>> ((8 : Int32) &&& 31)).toInt8.toInt32)), (.int y2), (.int y3), (.int y4), (.int y5), (.int y6), (.int y7)] (.int (0 : Int32)) := V592_
  have N592 := Fr.snoc X592 N585 hge
  have K592 := K585.wr W592 (Or.inl (by simp))
  have n0_592 : n0 ≤ h592.size := by rw [W592.size]; exact n0_585
  exact W.retV X592 C e592 d21_53 (by decide) (by decide) ⟨rfl, N592, K592, V592⟩
def Q21_4_1 (Z : State) (p0 : Addr) (kb : ClassId) (y0 y1 y2 y3 y4 y5 y6 y7 p2 : Int32) (h0 : Heap) (n0 : Nat) (v : Option Value) (h : Heap) (L : List Loc) : Prop := v = none ∧ Fr n0 L ∧ Keep h0 h [p0] ∧ Arv Z h p0 kb .byte (8 : Int32) [(.int y0), (.int y1), (.int (own_hb p2)), (.int (own_lb p2)), (.int y4), (.int y5), (.int y6), (.int y7)] (.int (0 : Int32))
theorem rm21_4_1 (l : Launch) (Z : State) (a0 : Array Value) (hw : own_HW a0 Z) (ws : List Jvm.Cond) (p0 : Addr) (kb : ClassId) (y0 y1 y2 y3 y4 y5 y6 y7 p2 : Int32) (h0 : Heap) (n0 : Nat) (Z0 : n0 ≤ h0.size) (hge : n0 ≤ p0) (V0 : Arv Z h0 p0 kb .byte (8 : Int32) [(.int y0), (.int y1), (.int y2), (.int y3), (.int y4), (.int y5), (.int y6), (.int y7)] (.int (0 : Int32))) (SA : Sta Z h0 "java/lang/StringUTF16" "$assertionsDisabled" "Z" (.int (1 : Int32))) (SH : Sta Z h0 "java/lang/StringUTF16" "HI_BYTE_SHIFT" "I" (.int (0 : Int32))) (SL : Sta Z h0 "java/lang/StringUTF16" "LO_BYTE_SHIFT" "I" (.int (8 : Int32))) : own_M l y21 jdk_52_method_4_code 3 none ws r_0_0_0_0 #[(.ref p0), (.int (1 : Int32)), (.int p2)] Z h0 (Q21_4_1 Z p0 kb y0 y1 y2 y3 y4 y5 y6 y7 p2 h0 n0) := by
  refine W.bodyOf (Ls := #[.val (.ref p0), .val (.int (1 : Int32)), .val (.int p2)]) (plainFor_of_name pn_java_lang_StringUTF16) (fun m => by first | exact W.entry_of rfl) ?_
  intro p e s m below meth c T0 C X0 e0
  have N0 := Fr.nil n0
  have K0 := Keep.refl h0 [p0]
  refine W.getS (q := 3) X0 C (W.ww hw 91 rfl) Via.refl e0 SA d21_0 rfl (fun T598 X598 e598 => ?_)
  refine W.ifT (q := 28) X598 C d21_3 (by decide) (by decide) (by decide : W.cT .ne (1 : Int32) 0) ?_
  refine W.iloadN (q := 29) X598 C d21_28 rfl rfl ?_
  refine W.iconst (q := 30) (v := 1) X598 C d21_29 rfl rfl ?_
  refine W.ishl (q := 31) X598 C d21_30 rfl ?_
  rw [show ((1 : Int32) <<< ((1 : Int32) &&& 31)) = (2 : Int32) by decide]
  refine W.istoreN (q := 32) (L' := #[.val (.ref p0), .val (.int (2 : Int32)), .val (.int p2)]) X598 C d21_31 rfl rfl ?_
  refine W.aloadN (q := 33) X598 C d21_32 rfl rfl rfl ?_
  refine W.iloadN (q := 34) X598 C d21_33 rfl rfl ?_
  refine W.iinc (q := 37) (L' := #[.val (.ref p0), .val (.int (3 : Int32)), .val (.int p2)]) X598 C d21_34 rfl (by decide) rfl rfl ?_
  refine W.iloadN (q := 38) X598 C d21_37 rfl rfl ?_
  refine W.getS (q := 41) X598 C (W.ww hw 92 rfl) Via.refl e598 SH d21_38 rfl (fun T599 X599 e599 => ?_)
  refine W.ishr (q := 42) X599 C d21_41 rfl ?_
  refine W.i2b (q := 43) X599 C d21_42 rfl ?_
  refine W.bastore (q := 44) X599 C e599 V0  (by decide) (by decide) (Nat.le_of_ble_eq_true rfl) d21_43 rfl (fun T600 h600 X600 e600 W600 V600_ => ?_)
  rw [own_bb (p2 >>> ((0 : Int32) &&& 31))] at V600_
  have SA_602 := SA.wr W600
  have SH_603 := SH.wr W600
  have SL_604 := SL.wr W600
  have V600 : Arv Z h600 p0 kb .byte (8 : Int32) [(.int y0), (.int y1), (.int ((p2 >>> ((0 : Int32) &&& 31)).toInt8.toInt32)), (.int y3), (.int y4), (.int y5), (.int y6), (.int y7)] (.int (0 : Int32)) := V600_
  have N600 := Fr.snoc X600 N0 hge
  have K600 := K0.wr W600 (Or.inl (by simp))
  have n0_600 : n0 ≤ h600.size := by rw [W600.size]; exact Z0
  refine W.aloadN (q := 45) X600 C d21_44 rfl rfl rfl ?_
  refine W.iloadN (q := 46) X600 C d21_45 rfl rfl ?_
  refine W.iloadN (q := 47) X600 C d21_46 rfl rfl ?_
  refine W.getS (q := 50) X600 C (W.ww hw 93 rfl) Via.refl e600 SL_604 d21_47 rfl (fun T606 X606 e606 => ?_)
  refine W.ishr (q := 51) X606 C d21_50 rfl ?_
  refine W.i2b (q := 52) X606 C d21_51 rfl ?_
  refine W.bastore (q := 53) X606 C e606 V600  (by decide) (by decide) (Nat.le_of_ble_eq_true rfl) d21_52 rfl (fun T607 h607 X607 e607 W607 V607_ => ?_)
  rw [own_bb (p2 >>> ((8 : Int32) &&& 31))] at V607_
  have SA_609 := SA_602.wr W607
  have SH_610 := SH_603.wr W607
  have SL_611 := SL_604.wr W607
  have V607 : Arv Z h607 p0 kb .byte (8 : Int32) [(.int y0), (.int y1), (.int ((p2 >>> ((0 : Int32) &&& 31)).toInt8.toInt32)), (.int ((p2 >>> ((8 : Int32) &&& 31)).toInt8.toInt32)), (.int y4), (.int y5), (.int y6), (.int y7)] (.int (0 : Int32)) := V607_
  have N607 := Fr.snoc X607 N600 hge
  have K607 := K600.wr W607 (Or.inl (by simp))
  have n0_607 : n0 ≤ h607.size := by rw [W607.size]; exact n0_600
  exact W.retV X607 C e607 d21_53 (by decide) (by decide) ⟨rfl, N607, K607, V607⟩
def Q21_4_2 (Z : State) (p0 : Addr) (kb : ClassId) (y0 y1 y2 y3 y4 y5 y6 y7 p2 : Int32) (h0 : Heap) (n0 : Nat) (v : Option Value) (h : Heap) (L : List Loc) : Prop := v = none ∧ Fr n0 L ∧ Keep h0 h [p0] ∧ Arv Z h p0 kb .byte (8 : Int32) [(.int y0), (.int y1), (.int y2), (.int y3), (.int (own_hb p2)), (.int (own_lb p2)), (.int y6), (.int y7)] (.int (0 : Int32))
theorem rm21_4_2 (l : Launch) (Z : State) (a0 : Array Value) (hw : own_HW a0 Z) (ws : List Jvm.Cond) (p0 : Addr) (kb : ClassId) (y0 y1 y2 y3 y4 y5 y6 y7 p2 : Int32) (h0 : Heap) (n0 : Nat) (Z0 : n0 ≤ h0.size) (hge : n0 ≤ p0) (V0 : Arv Z h0 p0 kb .byte (8 : Int32) [(.int y0), (.int y1), (.int y2), (.int y3), (.int y4), (.int y5), (.int y6), (.int y7)] (.int (0 : Int32))) (SA : Sta Z h0 "java/lang/StringUTF16" "$assertionsDisabled" "Z" (.int (1 : Int32))) (SH : Sta Z h0 "java/lang/StringUTF16" "HI_BYTE_SHIFT" "I" (.int (0 : Int32))) (SL : Sta Z h0 "java/lang/StringUTF16" "LO_BYTE_SHIFT" "I" (.int (8 : Int32))) : own_M l y21 jdk_52_method_4_code 3 none ws r_0_0_0_0 #[(.ref p0), (.int (2 : Int32)), (.int p2)] Z h0 (Q21_4_2 Z p0 kb y0 y1 y2 y3 y4 y5 y6 y7 p2 h0 n0) := by
  refine W.bodyOf (Ls := #[.val (.ref p0), .val (.int (2 : Int32)), .val (.int p2)]) (plainFor_of_name pn_java_lang_StringUTF16) (fun m => by first | exact W.entry_of rfl) ?_
  intro p e s m below meth c T0 C X0 e0
  have N0 := Fr.nil n0
  have K0 := Keep.refl h0 [p0]
  refine W.getS (q := 3) X0 C (W.ww hw 91 rfl) Via.refl e0 SA d21_0 rfl (fun T613 X613 e613 => ?_)
  refine W.ifT (q := 28) X613 C d21_3 (by decide) (by decide) (by decide : W.cT .ne (1 : Int32) 0) ?_
  refine W.iloadN (q := 29) X613 C d21_28 rfl rfl ?_
  refine W.iconst (q := 30) (v := 1) X613 C d21_29 rfl rfl ?_
  refine W.ishl (q := 31) X613 C d21_30 rfl ?_
  rw [show ((2 : Int32) <<< ((1 : Int32) &&& 31)) = (4 : Int32) by decide]
  refine W.istoreN (q := 32) (L' := #[.val (.ref p0), .val (.int (4 : Int32)), .val (.int p2)]) X613 C d21_31 rfl rfl ?_
  refine W.aloadN (q := 33) X613 C d21_32 rfl rfl rfl ?_
  refine W.iloadN (q := 34) X613 C d21_33 rfl rfl ?_
  refine W.iinc (q := 37) (L' := #[.val (.ref p0), .val (.int (5 : Int32)), .val (.int p2)]) X613 C d21_34 rfl (by decide) rfl rfl ?_
  refine W.iloadN (q := 38) X613 C d21_37 rfl rfl ?_
  refine W.getS (q := 41) X613 C (W.ww hw 92 rfl) Via.refl e613 SH d21_38 rfl (fun T614 X614 e614 => ?_)
  refine W.ishr (q := 42) X614 C d21_41 rfl ?_
  refine W.i2b (q := 43) X614 C d21_42 rfl ?_
  refine W.bastore (q := 44) X614 C e614 V0  (by decide) (by decide) (Nat.le_of_ble_eq_true rfl) d21_43 rfl (fun T615 h615 X615 e615 W615 V615_ => ?_)
  rw [own_bb (p2 >>> ((0 : Int32) &&& 31))] at V615_
  have SA_617 := SA.wr W615
  have SH_618 := SH.wr W615
  have SL_619 := SL.wr W615
  have V615 : Arv Z h615 p0 kb .byte (8 : Int32) [(.int y0), (.int y1), (.int y2), (.int y3), (.int ((p2 >>> ((0 : Int32) &&& 31)).toInt8.toInt32)), (.int y5), (.int y6), (.int y7)] (.int (0 : Int32)) := V615_
  have N615 := Fr.snoc X615 N0 hge
  have K615 := K0.wr W615 (Or.inl (by simp))
  have n0_615 : n0 ≤ h615.size := by rw [W615.size]; exact Z0
  refine W.aloadN (q := 45) X615 C d21_44 rfl rfl rfl ?_
  refine W.iloadN (q := 46) X615 C d21_45 rfl rfl ?_
  refine W.iloadN (q := 47) X615 C d21_46 rfl rfl ?_
  refine W.getS (q := 50) X615 C (W.ww hw 93 rfl) Via.refl e615 SL_619 d21_47 rfl (fun T621 X621 e621 => ?_)
  refine W.ishr (q := 51) X621 C d21_50 rfl ?_
  refine W.i2b (q := 52) X621 C d21_51 rfl ?_
  refine W.bastore (q := 53) X621 C e621 V615  (by decide) (by decide) (Nat.le_of_ble_eq_true rfl) d21_52 rfl (fun T622 h622 X622 e622 W622 V622_ => ?_)
  rw [own_bb (p2 >>> ((8 : Int32) &&& 31))] at V622_
  have SA_624 := SA_617.wr W622
  have SH_625 := SH_618.wr W622
  have SL_626 := SL_619.wr W622
  have V622 : Arv Z h622 p0 kb .byte (8 : Int32) [(.int y0), (.int y1), (.int y2), (.int y3), (.int ((p2 >>> ((0 : Int32) &&& 31)).toInt8.toInt32)), (.int ((p2 >>> ((8 : Int32) &&& 31)).toInt8.toInt32)), (.int y6), (.int y7)] (.int (0 : Int32)) := V622_
  have N622 := Fr.snoc X622 N615 hge
  have K622 := K615.wr W622 (Or.inl (by simp))
  have n0_622 : n0 ≤ h622.size := by rw [W622.size]; exact n0_615
  exact W.retV X622 C e622 d21_53 (by decide) (by decide) ⟨rfl, N622, K622, V622⟩
def Q21_4_3 (Z : State) (p0 : Addr) (kb : ClassId) (y0 y1 y2 y3 y4 y5 y6 y7 p2 : Int32) (h0 : Heap) (n0 : Nat) (v : Option Value) (h : Heap) (L : List Loc) : Prop := v = none ∧ Fr n0 L ∧ Keep h0 h [p0] ∧ Arv Z h p0 kb .byte (8 : Int32) [(.int y0), (.int y1), (.int y2), (.int y3), (.int y4), (.int y5), (.int (own_hb p2)), (.int (own_lb p2))] (.int (0 : Int32))
theorem rm21_4_3 (l : Launch) (Z : State) (a0 : Array Value) (hw : own_HW a0 Z) (ws : List Jvm.Cond) (p0 : Addr) (kb : ClassId) (y0 y1 y2 y3 y4 y5 y6 y7 p2 : Int32) (h0 : Heap) (n0 : Nat) (Z0 : n0 ≤ h0.size) (hge : n0 ≤ p0) (V0 : Arv Z h0 p0 kb .byte (8 : Int32) [(.int y0), (.int y1), (.int y2), (.int y3), (.int y4), (.int y5), (.int y6), (.int y7)] (.int (0 : Int32))) (SA : Sta Z h0 "java/lang/StringUTF16" "$assertionsDisabled" "Z" (.int (1 : Int32))) (SH : Sta Z h0 "java/lang/StringUTF16" "HI_BYTE_SHIFT" "I" (.int (0 : Int32))) (SL : Sta Z h0 "java/lang/StringUTF16" "LO_BYTE_SHIFT" "I" (.int (8 : Int32))) : own_M l y21 jdk_52_method_4_code 3 none ws r_0_0_0_0 #[(.ref p0), (.int (3 : Int32)), (.int p2)] Z h0 (Q21_4_3 Z p0 kb y0 y1 y2 y3 y4 y5 y6 y7 p2 h0 n0) := by
  refine W.bodyOf (Ls := #[.val (.ref p0), .val (.int (3 : Int32)), .val (.int p2)]) (plainFor_of_name pn_java_lang_StringUTF16) (fun m => by first | exact W.entry_of rfl) ?_
  intro p e s m below meth c T0 C X0 e0
  have N0 := Fr.nil n0
  have K0 := Keep.refl h0 [p0]
  refine W.getS (q := 3) X0 C (W.ww hw 91 rfl) Via.refl e0 SA d21_0 rfl (fun T628 X628 e628 => ?_)
  refine W.ifT (q := 28) X628 C d21_3 (by decide) (by decide) (by decide : W.cT .ne (1 : Int32) 0) ?_
  refine W.iloadN (q := 29) X628 C d21_28 rfl rfl ?_
  refine W.iconst (q := 30) (v := 1) X628 C d21_29 rfl rfl ?_
  refine W.ishl (q := 31) X628 C d21_30 rfl ?_
  rw [show ((3 : Int32) <<< ((1 : Int32) &&& 31)) = (6 : Int32) by decide]
  refine W.istoreN (q := 32) (L' := #[.val (.ref p0), .val (.int (6 : Int32)), .val (.int p2)]) X628 C d21_31 rfl rfl ?_
  refine W.aloadN (q := 33) X628 C d21_32 rfl rfl rfl ?_
  refine W.iloadN (q := 34) X628 C d21_33 rfl rfl ?_
  refine W.iinc (q := 37) (L' := #[.val (.ref p0), .val (.int (7 : Int32)), .val (.int p2)]) X628 C d21_34 rfl (by decide) rfl rfl ?_
  refine W.iloadN (q := 38) X628 C d21_37 rfl rfl ?_
  refine W.getS (q := 41) X628 C (W.ww hw 92 rfl) Via.refl e628 SH d21_38 rfl (fun T629 X629 e629 => ?_)
  refine W.ishr (q := 42) X629 C d21_41 rfl ?_
  refine W.i2b (q := 43) X629 C d21_42 rfl ?_
  refine W.bastore (q := 44) X629 C e629 V0  (by decide) (by decide) (Nat.le_of_ble_eq_true rfl) d21_43 rfl (fun T630 h630 X630 e630 W630 V630_ => ?_)
  rw [own_bb (p2 >>> ((0 : Int32) &&& 31))] at V630_
  have SA_632 := SA.wr W630
  have SH_633 := SH.wr W630
  have SL_634 := SL.wr W630
  have V630 : Arv Z h630 p0 kb .byte (8 : Int32) [(.int y0), (.int y1), (.int y2), (.int y3), (.int y4), (.int y5), (.int ((p2 >>> ((0 : Int32) &&& 31)).toInt8.toInt32)), (.int y7)] (.int (0 : Int32)) := V630_
  have N630 := Fr.snoc X630 N0 hge
  have K630 := K0.wr W630 (Or.inl (by simp))
  have n0_630 : n0 ≤ h630.size := by rw [W630.size]; exact Z0
  refine W.aloadN (q := 45) X630 C d21_44 rfl rfl rfl ?_
  refine W.iloadN (q := 46) X630 C d21_45 rfl rfl ?_
  refine W.iloadN (q := 47) X630 C d21_46 rfl rfl ?_
  refine W.getS (q := 50) X630 C (W.ww hw 93 rfl) Via.refl e630 SL_634 d21_47 rfl (fun T636 X636 e636 => ?_)
  refine W.ishr (q := 51) X636 C d21_50 rfl ?_
  refine W.i2b (q := 52) X636 C d21_51 rfl ?_
  refine W.bastore (q := 53) X636 C e636 V630  (by decide) (by decide) (Nat.le_of_ble_eq_true rfl) d21_52 rfl (fun T637 h637 X637 e637 W637 V637_ => ?_)
  rw [own_bb (p2 >>> ((8 : Int32) &&& 31))] at V637_
  have SA_639 := SA_632.wr W637
  have SH_640 := SH_633.wr W637
  have SL_641 := SL_634.wr W637
  have V637 : Arv Z h637 p0 kb .byte (8 : Int32) [(.int y0), (.int y1), (.int y2), (.int y3), (.int y4), (.int y5), (.int ((p2 >>> ((0 : Int32) &&& 31)).toInt8.toInt32)), (.int ((p2 >>> ((8 : Int32) &&& 31)).toInt8.toInt32))] (.int (0 : Int32)) := V637_
  have N637 := Fr.snoc X637 N630 hge
  have K637 := K630.wr W637 (Or.inl (by simp))
  have n0_637 : n0 ≤ h637.size := by rw [W637.size]; exact n0_630
  exact W.retV X637 C e637 d21_53 (by decide) (by decide) ⟨rfl, N637, K637, V637⟩
def Q18_4 (Z : State) (p0 : Addr) (kc : ClassId) (x0 x1 x2 x3 : Int32) (h0 : Heap) (n0 : Nat) (v : Option Value) (h : Heap) (L : List Loc) : Prop := ∃ b kb, v = some (.ref b) ∧ Fr n0 L ∧ Keep h0 h [] ∧ Arv Z h b kb .byte (8 : Int32) [(.int (own_hb x0)), (.int (own_lb x0)), (.int (own_hb x1)), (.int (own_lb x1)), (.int (own_hb x2)), (.int (own_lb x2)), (.int (own_hb x3)), (.int (own_lb x3))] (.int (0 : Int32))
theorem rm18_4 (l : Launch) (Z : State) (a0 : Array Value) (hw : own_HW a0 Z) (ws : List Jvm.Cond) (p0 : Addr) (kc : ClassId) (x0 x1 x2 x3 : Int32) (h0 : Heap) (n0 : Nat) (Z0 : n0 ≤ h0.size) (Vc : Arv Z h0 p0 kc .char (4 : Int32) [(.int x0), (.int x1), (.int x2), (.int x3)] (.int (0 : Int32))) (O0 : Old Z n0 h0) (SA : Sta Z Z.heap "java/lang/StringUTF16" "$assertionsDisabled" "Z" (.int (1 : Int32))) (SH : Sta Z Z.heap "java/lang/StringUTF16" "HI_BYTE_SHIFT" "I" (.int (0 : Int32))) (SL : Sta Z Z.heap "java/lang/StringUTF16" "LO_BYTE_SHIFT" "I" (.int (8 : Int32))) : own_M l y18 jdk_52_method_14_code 5 (some (.array .byte)) ws r_2_1_8_32 #[(.ref p0), (.int (0 : Int32)), (.int (4 : Int32))] Z h0 (Q18_4 Z p0 kc x0 x1 x2 x3 h0 n0) := by
  refine W.bodyOf (Ls := #[.val (.ref p0), .val (.int (0 : Int32)), .val (.int (4 : Int32)), .unset, .unset]) (plainFor_of_name pn_java_lang_StringUTF16) (fun m => by first | exact W.entry_of rfl) ?_
  intro p e s m below meth c T0 C X0 e0
  have N0 := Fr.nil n0
  have K0 := Keep.refl h0 []
  refine W.iloadN (q := 1) X0 C d18_0 rfl rfl ?_
  refine W.callS (q := 4) X0 C (W.ww hw 81 rfl) (W.ww hw 82 rfl) (W.ww hw 67 rfl) (W.ww hw 83 rfl) (by decide) (rm19_4 l Z a0 hw [] 0 h0 n0 Z0) e0 d18_1 [(.int (4 : Int32))] [] rfl rfl pd__28I_29_5bB rfl rfl (by decide) (Nat.le_of_ble_eq_true rfl) (by decide) (by decide) rfl (fun T643 w643 L643 X643 hQ643 => ?_)
  obtain ⟨b643, kb643, rfl, NL643, K643, hz643, V643⟩ := hQ643
  have N643 := Fr.app N0 NL643
  have ne_p0_b643 : p0 ≠ b643 := Nat.ne_of_lt (Nat.lt_of_lt_of_le Vc.lt hz643)
  have ge_b643 : n0 ≤ b643 := Nat.le_trans Z0 hz643
  have sz_b643 : h0.size ≤ b643 := Nat.le_trans K0.1 hz643
  have Vc_645 := Vc.keep K643 nin0
  have O0_646 := O0.keep K643 all0
  have n0_643 : n0 ≤ T643.heap.size := Nat.le_trans Z0 K643.1
  have KK643 := K0.trans K643 all0
  show W.Go p e below _ (T643.setTop (mkF m 4 #[.val (.ref p0), .val (.int (0 : Int32)), .val (.int (4 : Int32)), .unset, .unset] [(.ref b643)]))
  refine W.astoreN (q := 5) (L' := #[.val (.ref p0), .val (.int (0 : Int32)), .val (.int (4 : Int32)), .val (.ref b643), .unset]) X643 C d18_4 rfl rfl rfl ?_
  refine W.iconst (q := 6) (v := 0) X643 C d18_5 rfl rfl ?_
  refine W.istore (q := 8) (L' := #[.val (.ref p0), .val (.int (0 : Int32)), .val (.int (4 : Int32)), .val (.ref b643), .val (.int (0 : Int32))]) X643 C d18_6 rfl rfl ?_
  refine W.iload (q := 10) X643 C d18_8 rfl rfl ?_
  refine W.iloadN (q := 11) X643 C d18_10 rfl rfl ?_
  refine W.icmpF (q := 14) X643 C d18_11 rfl (by decide : W.cF .ge (0 : Int32) (4 : Int32)) ?_
  refine W.aloadN (q := 15) X643 C d18_14 rfl rfl rfl ?_
  refine W.iload (q := 17) X643 C d18_15 rfl rfl ?_
  refine W.aloadN (q := 18) X643 C d18_17 rfl rfl rfl ?_
  refine W.iloadN (q := 19) X643 C d18_18 rfl rfl ?_
  refine W.caload (q := 20) X643 C rfl Vc_645 (by decide) (by decide) rfl d18_19 rfl ?_
  refine W.callS (q := 23) X643 C (W.ww hw 88 rfl) (W.ww hw 89 rfl) (W.ww hw 67 rfl) (W.ww hw 90 rfl) (by decide) (rm21_4_0 l Z a0 hw [] b643 kb643 (0 : Int32) (0 : Int32) (0 : Int32) (0 : Int32) (0 : Int32) (0 : Int32) (0 : Int32) (0 : Int32) x0 T643.heap n0 n0_643 ge_b643 V643 (SA.ext O0_646.2) (SH.ext O0_646.2) (SL.ext O0_646.2)) rfl d18_20 [(.ref b643), (.int (0 : Int32)), (.int x0)] [] rfl rfl pd__28_5bBII_29V rfl rfl (by decide) (Nat.le_of_ble_eq_true rfl) (by decide) (by decide) rfl (fun T647 w647 L647 X647 hQ647 => ?_)
  obtain ⟨rfl, NL647, K647, V647⟩ := hQ647
  have N647 := Fr.app N643 NL647
  have Vc_649 := Vc_645.keep K647 (ninS ne_p0_b643 nin0)
  have O0_650 := O0_646.keep K647 (allS ge_b643 all0)
  have n0_647 : n0 ≤ T647.heap.size := Nat.le_trans n0_643 K647.1
  have KK647 := KK643.trans K647 (allS (Or.inr sz_b643) all0)
  show W.Go p e below _ (T647.setTop (mkF m 23 #[.val (.ref p0), .val (.int (0 : Int32)), .val (.int (4 : Int32)), .val (.ref b643), .val (.int (0 : Int32))] []))
  refine W.iinc (q := 26) (L' := #[.val (.ref p0), .val (.int (1 : Int32)), .val (.int (4 : Int32)), .val (.ref b643), .val (.int (0 : Int32))]) X647 C d18_23 rfl (by decide) rfl rfl ?_
  refine W.iinc (q := 29) (L' := #[.val (.ref p0), .val (.int (1 : Int32)), .val (.int (4 : Int32)), .val (.ref b643), .val (.int (1 : Int32))]) X647 C d18_26 rfl (by decide) rfl rfl ?_
  refine W.goto (q := 8) X647 C d18_29 (by decide) (by decide) ?_
  refine W.iload (q := 10) X647 C d18_8 rfl rfl ?_
  refine W.iloadN (q := 11) X647 C d18_10 rfl rfl ?_
  refine W.icmpF (q := 14) X647 C d18_11 rfl (by decide : W.cF .ge (1 : Int32) (4 : Int32)) ?_
  refine W.aloadN (q := 15) X647 C d18_14 rfl rfl rfl ?_
  refine W.iload (q := 17) X647 C d18_15 rfl rfl ?_
  refine W.aloadN (q := 18) X647 C d18_17 rfl rfl rfl ?_
  refine W.iloadN (q := 19) X647 C d18_18 rfl rfl ?_
  refine W.caload (q := 20) X647 C rfl Vc_649 (by decide) (by decide) rfl d18_19 rfl ?_
  refine W.callS (q := 23) X647 C (W.ww hw 88 rfl) (W.ww hw 89 rfl) (W.ww hw 67 rfl) (W.ww hw 90 rfl) (by decide) (rm21_4_1 l Z a0 hw [] b643 kb643 (own_hb x0) (own_lb x0) (0 : Int32) (0 : Int32) (0 : Int32) (0 : Int32) (0 : Int32) (0 : Int32) x1 T647.heap n0 n0_647 ge_b643 V647 (SA.ext O0_650.2) (SH.ext O0_650.2) (SL.ext O0_650.2)) rfl d18_20 [(.ref b643), (.int (1 : Int32)), (.int x1)] [] rfl rfl pd__28_5bBII_29V rfl rfl (by decide) (Nat.le_of_ble_eq_true rfl) (by decide) (by decide) rfl (fun T651 w651 L651 X651 hQ651 => ?_)
  obtain ⟨rfl, NL651, K651, V651⟩ := hQ651
  have N651 := Fr.app N647 NL651
  have Vc_653 := Vc_649.keep K651 (ninS ne_p0_b643 nin0)
  have O0_654 := O0_650.keep K651 (allS ge_b643 all0)
  have n0_651 : n0 ≤ T651.heap.size := Nat.le_trans n0_647 K651.1
  have KK651 := KK647.trans K651 (allS (Or.inr sz_b643) all0)
  show W.Go p e below _ (T651.setTop (mkF m 23 #[.val (.ref p0), .val (.int (1 : Int32)), .val (.int (4 : Int32)), .val (.ref b643), .val (.int (1 : Int32))] []))
  refine W.iinc (q := 26) (L' := #[.val (.ref p0), .val (.int (2 : Int32)), .val (.int (4 : Int32)), .val (.ref b643), .val (.int (1 : Int32))]) X651 C d18_23 rfl (by decide) rfl rfl ?_
  refine W.iinc (q := 29) (L' := #[.val (.ref p0), .val (.int (2 : Int32)), .val (.int (4 : Int32)), .val (.ref b643), .val (.int (2 : Int32))]) X651 C d18_26 rfl (by decide) rfl rfl ?_
  refine W.goto (q := 8) X651 C d18_29 (by decide) (by decide) ?_
  refine W.iload (q := 10) X651 C d18_8 rfl rfl ?_
  refine W.iloadN (q := 11) X651 C d18_10 rfl rfl ?_
  refine W.icmpF (q := 14) X651 C d18_11 rfl (by decide : W.cF .ge (2 : Int32) (4 : Int32)) ?_
  refine W.aloadN (q := 15) X651 C d18_14 rfl rfl rfl ?_
  refine W.iload (q := 17) X651 C d18_15 rfl rfl ?_
  refine W.aloadN (q := 18) X651 C d18_17 rfl rfl rfl ?_
  refine W.iloadN (q := 19) X651 C d18_18 rfl rfl ?_
  refine W.caload (q := 20) X651 C rfl Vc_653 (by decide) (by decide) rfl d18_19 rfl ?_
  refine W.callS (q := 23) X651 C (W.ww hw 88 rfl) (W.ww hw 89 rfl) (W.ww hw 67 rfl) (W.ww hw 90 rfl) (by decide) (rm21_4_2 l Z a0 hw [] b643 kb643 (own_hb x0) (own_lb x0) (own_hb x1) (own_lb x1) (0 : Int32) (0 : Int32) (0 : Int32) (0 : Int32) x2 T651.heap n0 n0_651 ge_b643 V651 (SA.ext O0_654.2) (SH.ext O0_654.2) (SL.ext O0_654.2)) rfl d18_20 [(.ref b643), (.int (2 : Int32)), (.int x2)] [] rfl rfl pd__28_5bBII_29V rfl rfl (by decide) (Nat.le_of_ble_eq_true rfl) (by decide) (by decide) rfl (fun T655 w655 L655 X655 hQ655 => ?_)
  obtain ⟨rfl, NL655, K655, V655⟩ := hQ655
  have N655 := Fr.app N651 NL655
  have Vc_657 := Vc_653.keep K655 (ninS ne_p0_b643 nin0)
  have O0_658 := O0_654.keep K655 (allS ge_b643 all0)
  have n0_655 : n0 ≤ T655.heap.size := Nat.le_trans n0_651 K655.1
  have KK655 := KK651.trans K655 (allS (Or.inr sz_b643) all0)
  show W.Go p e below _ (T655.setTop (mkF m 23 #[.val (.ref p0), .val (.int (2 : Int32)), .val (.int (4 : Int32)), .val (.ref b643), .val (.int (2 : Int32))] []))
  refine W.iinc (q := 26) (L' := #[.val (.ref p0), .val (.int (3 : Int32)), .val (.int (4 : Int32)), .val (.ref b643), .val (.int (2 : Int32))]) X655 C d18_23 rfl (by decide) rfl rfl ?_
  refine W.iinc (q := 29) (L' := #[.val (.ref p0), .val (.int (3 : Int32)), .val (.int (4 : Int32)), .val (.ref b643), .val (.int (3 : Int32))]) X655 C d18_26 rfl (by decide) rfl rfl ?_
  refine W.goto (q := 8) X655 C d18_29 (by decide) (by decide) ?_
  refine W.iload (q := 10) X655 C d18_8 rfl rfl ?_
  refine W.iloadN (q := 11) X655 C d18_10 rfl rfl ?_
  refine W.icmpF (q := 14) X655 C d18_11 rfl (by decide : W.cF .ge (3 : Int32) (4 : Int32)) ?_
  refine W.aloadN (q := 15) X655 C d18_14 rfl rfl rfl ?_
  refine W.iload (q := 17) X655 C d18_15 rfl rfl ?_
  refine W.aloadN (q := 18) X655 C d18_17 rfl rfl rfl ?_
  refine W.iloadN (q := 19) X655 C d18_18 rfl rfl ?_
  refine W.caload (q := 20) X655 C rfl Vc_657 (by decide) (by decide) rfl d18_19 rfl ?_
  refine W.callS (q := 23) X655 C (W.ww hw 88 rfl) (W.ww hw 89 rfl) (W.ww hw 67 rfl) (W.ww hw 90 rfl) (by decide) (rm21_4_3 l Z a0 hw [] b643 kb643 (own_hb x0) (own_lb x0) (own_hb x1) (own_lb x1) (own_hb x2) (own_lb x2) (0 : Int32) (0 : Int32) x3 T655.heap n0 n0_655 ge_b643 V655 (SA.ext O0_658.2) (SH.ext O0_658.2) (SL.ext O0_658.2)) rfl d18_20 [(.ref b643), (.int (3 : Int32)), (.int x3)] [] rfl rfl pd__28_5bBII_29V rfl rfl (by decide) (Nat.le_of_ble_eq_true rfl) (by decide) (by decide) rfl (fun T659 w659 L659 X659 hQ659 => ?_)
  obtain ⟨rfl, NL659, K659, V659⟩ := hQ659
  have N659 := Fr.app N655 NL659
  have Vc_661 := Vc_657.keep K659 (ninS ne_p0_b643 nin0)
  have O0_662 := O0_658.keep K659 (allS ge_b643 all0)
  have n0_659 : n0 ≤ T659.heap.size := Nat.le_trans n0_655 K659.1
  have KK659 := KK655.trans K659 (allS (Or.inr sz_b643) all0)
  show W.Go p e below _ (T659.setTop (mkF m 23 #[.val (.ref p0), .val (.int (3 : Int32)), .val (.int (4 : Int32)), .val (.ref b643), .val (.int (3 : Int32))] []))
  refine W.iinc (q := 26) (L' := #[.val (.ref p0), .val (.int (4 : Int32)), .val (.int (4 : Int32)), .val (.ref b643), .val (.int (3 : Int32))]) X659 C d18_23 rfl (by decide) rfl rfl ?_
  refine W.iinc (q := 29) (L' := #[.val (.ref p0), .val (.int (4 : Int32)), .val (.int (4 : Int32)), .val (.ref b643), .val (.int (4 : Int32))]) X659 C d18_26 rfl (by decide) rfl rfl ?_
  refine W.goto (q := 8) X659 C d18_29 (by decide) (by decide) ?_
  refine W.iload (q := 10) X659 C d18_8 rfl rfl ?_
  refine W.iloadN (q := 11) X659 C d18_10 rfl rfl ?_
  refine W.icmpT (q := 32) X659 C d18_11 (by decide) (by decide) (by decide : W.cT .ge (4 : Int32) (4 : Int32)) ?_
  refine W.aloadN (q := 33) X659 C d18_32 rfl rfl rfl ?_
  exact W.retA X659 C rfl rfl rfl d18_33 (by decide) (by decide) ⟨_, _, rfl, N659, KK659, V659⟩
def Q14_4 (Z : State) (p0 : Addr) (kc : ClassId) (x0 x1 x2 x3 : Int32) (h0 : Heap) (n0 : Nat) (v : Option Value) (h : Heap) (L : List Loc) : Prop := ∃ b kb, v = some (.ref b) ∧ Fr n0 L ∧ Keep h0 h [] ∧ ((own_r8 x0 ∧ own_r8 x1 ∧ own_r8 x2 ∧ own_r8 x3 ∧ Arv Z h b kb .byte (4 : Int32) [(.int (x0.toInt8.toInt32)), (.int (x1.toInt8.toInt32)), (.int (x2.toInt8.toInt32)), (.int (x3.toInt8.toInt32))] (.int (0 : Int32))) ∨ Arv Z h b kb .byte (8 : Int32) [(.int (own_hb x0)), (.int (own_lb x0)), (.int (own_hb x1)), (.int (own_lb x1)), (.int (own_hb x2)), (.int (own_lb x2)), (.int (own_hb x3)), (.int (own_lb x3))] (.int (0 : Int32)))
theorem rm14_4 (l : Launch) (Z : State) (a0 : Array Value) (hw : own_HW a0 Z) (ws : List Jvm.Cond) (p0 : Addr) (kc : ClassId) (x0 x1 x2 x3 : Int32) (h0 : Heap) (n0 : Nat) (Z0 : n0 ≤ h0.size) (Vc : Arv Z h0 p0 kc .char (4 : Int32) [(.int x0), (.int x1), (.int x2), (.int x3)] (.int (0 : Int32))) (hr0 : own_r16 x0) (hr1 : own_r16 x1) (hr2 : own_r16 x2) (hr3 : own_r16 x3) (O0 : Old Z n0 h0) (SA : Sta Z Z.heap "java/lang/StringUTF16" "$assertionsDisabled" "Z" (.int (1 : Int32))) (SH : Sta Z Z.heap "java/lang/StringUTF16" "HI_BYTE_SHIFT" "I" (.int (0 : Int32))) (SL : Sta Z Z.heap "java/lang/StringUTF16" "LO_BYTE_SHIFT" "I" (.int (8 : Int32))) : own_M l y14 jdk_52_method_16_code 6 (some (.array .byte)) ws r_3_2_12_50 #[(.ref p0), (.int (0 : Int32)), (.int (4 : Int32))] Z h0 (Q14_4 Z p0 kc x0 x1 x2 x3 h0 n0) := by
  refine W.bodyOf (Ls := #[.val (.ref p0), .val (.int (0 : Int32)), .val (.int (4 : Int32)), .unset, .unset, .unset]) (plainFor_of_name pn_java_lang_StringUTF16) (fun m => by first | exact W.entry_of rfl) ?_
  intro p e s m below meth c T0 C X0 e0
  have N0 := Fr.nil n0
  have K0 := Keep.refl h0 []
  refine W.iloadN (q := 1) X0 C d14_0 rfl rfl ?_
  refine W.newarray (q := 3) X0 C (W.ww hw 15 rfl) e0 (by decide) 4 (by decide) (by decide) d14_1 (by decide) (by decide) rfl (fun T663 h663 b663 k663 X663 e663 g663 E663 V663_ => ?_)
  have ne_p0_b663 : p0 ≠ b663 := by rw [g663]; exact Nat.ne_of_lt Vc.lt
  have ge_b663 : n0 ≤ b663 := by rw [g663]; exact Z0
  have sz_b663 : h0.size ≤ b663 := by rw [g663]; exact K0.1
  have n0_663 : n0 ≤ h663.size := Nat.le_trans Z0 E663.1
  have Vc_665 := Vc.ext E663
  have O0_666 := O0.ext E663
  have K663 := K0.ext E663
  have V663 : Arv Z h663 b663 k663 .byte (4 : Int32) [(.int (0 : Int32)), (.int (0 : Int32)), (.int (0 : Int32)), (.int (0 : Int32))] (.int (0 : Int32)) := V663_
  refine W.astoreN (q := 4) (L' := #[.val (.ref p0), .val (.int (0 : Int32)), .val (.int (4 : Int32)), .val (.ref b663), .unset, .unset]) X663 C d14_3 rfl rfl rfl ?_
  refine W.aloadN (q := 5) X663 C d14_4 rfl rfl rfl ?_
  refine W.iloadN (q := 6) X663 C d14_5 rfl rfl ?_
  refine W.aloadN (q := 7) X663 C d14_6 rfl rfl rfl ?_
  refine W.iconst (q := 8) (v := 0) X663 C d14_7 rfl rfl ?_
  refine W.iloadN (q := 9) X663 C d14_8 rfl rfl ?_
  refine W.callS (q := 12) X663 C (W.ww hw 69 rfl) (W.ww hw 70 rfl) (W.ww hw 67 rfl) (W.ww hw 71 rfl) (by decide) (rm15_4 l Z a0 hw [] p0 b663 kc k663 x0 x1 x2 x3 h663 n0 n0_663 ge_b663 ne_p0_b663 Vc_665 V663 hr0 hr1 hr2 hr3) e663 d14_9 [(.ref p0), (.int (0 : Int32)), (.ref b663), (.int (0 : Int32)), (.int (4 : Int32))] [] rfl rfl pd__28_5bCI_5bBII_29I rfl rfl (by decide) (Nat.le_of_ble_eq_true rfl) (by decide) (by decide) rfl (fun T667 w667 L667 X667 hQ667 => ?_)
  obtain ⟨NL667, K667, D667⟩ := hQ667
  have N667 := Fr.app N0 NL667
  have Vc_669 := Vc_665.keep K667 (ninS ne_p0_b663 nin0)
  have O0_670 := O0_666.keep K667 (allS ge_b663 all0)
  have n0_667 : n0 ≤ T667.heap.size := Nat.le_trans n0_663 K667.1
  have KK667 := K663.trans K667 (allS (Or.inr sz_b663) all0)
  rcases D667 with ⟨rfl, hx0, hx1, hx2, hx3, Vl⟩ | ⟨rfl, hbig⟩ | ⟨rfl, hbig⟩ | ⟨rfl, hbig⟩ | ⟨rfl, hbig⟩
  · show W.Go p e below _ (T667.setTop (mkF m 12 #[.val (.ref p0), .val (.int (0 : Int32)), .val (.int (4 : Int32)), .val (.ref b663), .unset, .unset] [(.int (4 : Int32))]))
    refine W.istore (q := 14) (L' := #[.val (.ref p0), .val (.int (0 : Int32)), .val (.int (4 : Int32)), .val (.ref b663), .val (.int (4 : Int32)), .unset]) X667 C d14_12 rfl rfl ?_
    refine W.iload (q := 16) X667 C d14_14 rfl rfl ?_
    refine W.iloadN (q := 17) X667 C d14_16 rfl rfl ?_
    refine W.icmpT (q := 57) X667 C d14_17 (by decide) (by decide) (by decide : W.cT .eq (4 : Int32) (4 : Int32)) ?_
    refine W.aloadN (q := 58) X667 C d14_57 rfl rfl rfl ?_
    exact W.retA X667 C rfl rfl rfl d14_58 (by decide) (by decide) ⟨_, _, rfl, N667, KK667, Or.inl ⟨hx0, hx1, hx2, hx3, Vl⟩⟩
  · show W.Go p e below _ (T667.setTop (mkF m 12 #[.val (.ref p0), .val (.int (0 : Int32)), .val (.int (4 : Int32)), .val (.ref b663), .unset, .unset] [(.int (0 : Int32))]))
    refine W.istore (q := 14) (L' := #[.val (.ref p0), .val (.int (0 : Int32)), .val (.int (4 : Int32)), .val (.ref b663), .val (.int (0 : Int32)), .unset]) X667 C d14_12 rfl rfl ?_
    refine W.iload (q := 16) X667 C d14_14 rfl rfl ?_
    refine W.iloadN (q := 17) X667 C d14_16 rfl rfl ?_
    refine W.icmpF (q := 20) X667 C d14_17 rfl (by decide : W.cF .eq (0 : Int32) (4 : Int32)) ?_
    refine W.aloadN (q := 21) X667 C d14_20 rfl rfl rfl ?_
    refine W.iloadN (q := 22) X667 C d14_21 rfl rfl ?_
    refine W.iloadN (q := 23) X667 C d14_22 rfl rfl ?_
    refine W.callS (q := 26) X667 C (W.ww hw 78 rfl) (W.ww hw 79 rfl) (W.ww hw 67 rfl) (W.ww hw 80 rfl) (by decide) (rm18_4 l Z a0 hw [] p0 kc x0 x1 x2 x3 T667.heap n0 n0_667 Vc_669 O0_670 SA SH SL) rfl d14_23 [(.ref p0), (.int (0 : Int32)), (.int (4 : Int32))] [] rfl rfl pd__28_5bCII_29_5bB rfl rfl (by decide) (Nat.le_of_ble_eq_true rfl) (by decide) (by decide) rfl (fun T671 w671 L671 X671 hQ671 => ?_)
    obtain ⟨b671, kb671, rfl, NL671, K671, V671⟩ := hQ671
    have N671 := Fr.app N667 NL671
    have Vc_673 := Vc_669.keep K671 nin0
    have O0_674 := O0_670.keep K671 all0
    have n0_671 : n0 ≤ T671.heap.size := Nat.le_trans n0_667 K671.1
    have KK671 := KK667.trans K671 all0
    show W.Go p e below _ (T671.setTop (mkF m 26 #[.val (.ref p0), .val (.int (0 : Int32)), .val (.int (4 : Int32)), .val (.ref b663), .val (.int (0 : Int32)), .unset] [(.ref b671)]))
    refine W.astore (q := 28) (L' := #[.val (.ref p0), .val (.int (0 : Int32)), .val (.int (4 : Int32)), .val (.ref b663), .val (.int (0 : Int32)), .val (.ref b671)]) X671 C d14_26 rfl rfl rfl ?_
    refine W.aload (q := 30) X671 C d14_28 rfl rfl rfl ?_
    refine W.iload (q := 32) X671 C d14_30 rfl rfl ?_
    refine W.callS (q := 35) X671 C (W.ww hw 94 rfl) (W.ww hw 95 rfl) (W.ww hw 67 rfl) (W.ww hw 96 rfl) (by decide) (rm22 l Z a0 hw [] b671 kb671 [(.int (own_hb x0)), (.int (own_lb x0)), (.int (own_hb x1)), (.int (own_lb x1)), (.int (own_hb x2)), (.int (own_lb x2)), (.int (own_hb x3)), (.int (own_lb x3))] (8 : Int32) (0 : Int32) (0 : Int32) (1 : Int32) x0 T671.heap n0 V671 (by decide) (by decide) (by decide) (by decide) (by decide) (by decide) rfl rfl hr0 (SA.ext O0_674.2) (SH.ext O0_674.2) (SL.ext O0_674.2)) rfl d14_32 [(.ref b671), (.int (0 : Int32))] [] rfl rfl pd__28_5bBI_29C rfl rfl (by decide) (Nat.le_of_ble_eq_true rfl) (by decide) (by decide) rfl (fun T675 w675 L675 X675 hQ675 => ?_)
    obtain ⟨rfl, NL675, e675⟩ := hQ675
    have N675 := Fr.app N671 NL675
    show W.Go p e below _ (T675.setTop (mkF m 35 #[.val (.ref p0), .val (.int (0 : Int32)), .val (.int (4 : Int32)), .val (.ref b663), .val (.int (0 : Int32)), .val (.ref b671)] [(.int x0)]))
    refine W.sipush (q := 38) (v := 255) X675 C d14_35 rfl rfl ?_
    refine W.icmpT (q := 54) X675 C d14_38 (by decide) (by decide) hbig ?_
    refine W.aload (q := 56) X675 C d14_54 rfl rfl rfl ?_
    exact W.retA X675 C rfl e675 rfl d14_56 (by decide) (by decide) ⟨_, _, rfl, N675, KK671, Or.inr V671⟩
  · show W.Go p e below _ (T667.setTop (mkF m 12 #[.val (.ref p0), .val (.int (0 : Int32)), .val (.int (4 : Int32)), .val (.ref b663), .unset, .unset] [(.int (1 : Int32))]))
    refine W.istore (q := 14) (L' := #[.val (.ref p0), .val (.int (0 : Int32)), .val (.int (4 : Int32)), .val (.ref b663), .val (.int (1 : Int32)), .unset]) X667 C d14_12 rfl rfl ?_
    refine W.iload (q := 16) X667 C d14_14 rfl rfl ?_
    refine W.iloadN (q := 17) X667 C d14_16 rfl rfl ?_
    refine W.icmpF (q := 20) X667 C d14_17 rfl (by decide : W.cF .eq (1 : Int32) (4 : Int32)) ?_
    refine W.aloadN (q := 21) X667 C d14_20 rfl rfl rfl ?_
    refine W.iloadN (q := 22) X667 C d14_21 rfl rfl ?_
    refine W.iloadN (q := 23) X667 C d14_22 rfl rfl ?_
    refine W.callS (q := 26) X667 C (W.ww hw 78 rfl) (W.ww hw 79 rfl) (W.ww hw 67 rfl) (W.ww hw 80 rfl) (by decide) (rm18_4 l Z a0 hw [] p0 kc x0 x1 x2 x3 T667.heap n0 n0_667 Vc_669 O0_670 SA SH SL) rfl d14_23 [(.ref p0), (.int (0 : Int32)), (.int (4 : Int32))] [] rfl rfl pd__28_5bCII_29_5bB rfl rfl (by decide) (Nat.le_of_ble_eq_true rfl) (by decide) (by decide) rfl (fun T676 w676 L676 X676 hQ676 => ?_)
    obtain ⟨b676, kb676, rfl, NL676, K676, V676⟩ := hQ676
    have N676 := Fr.app N667 NL676
    have Vc_678 := Vc_669.keep K676 nin0
    have O0_679 := O0_670.keep K676 all0
    have n0_676 : n0 ≤ T676.heap.size := Nat.le_trans n0_667 K676.1
    have KK676 := KK667.trans K676 all0
    show W.Go p e below _ (T676.setTop (mkF m 26 #[.val (.ref p0), .val (.int (0 : Int32)), .val (.int (4 : Int32)), .val (.ref b663), .val (.int (1 : Int32)), .unset] [(.ref b676)]))
    refine W.astore (q := 28) (L' := #[.val (.ref p0), .val (.int (0 : Int32)), .val (.int (4 : Int32)), .val (.ref b663), .val (.int (1 : Int32)), .val (.ref b676)]) X676 C d14_26 rfl rfl rfl ?_
    refine W.aload (q := 30) X676 C d14_28 rfl rfl rfl ?_
    refine W.iload (q := 32) X676 C d14_30 rfl rfl ?_
    refine W.callS (q := 35) X676 C (W.ww hw 94 rfl) (W.ww hw 95 rfl) (W.ww hw 67 rfl) (W.ww hw 96 rfl) (by decide) (rm22 l Z a0 hw [] b676 kb676 [(.int (own_hb x0)), (.int (own_lb x0)), (.int (own_hb x1)), (.int (own_lb x1)), (.int (own_hb x2)), (.int (own_lb x2)), (.int (own_hb x3)), (.int (own_lb x3))] (8 : Int32) (1 : Int32) (2 : Int32) (3 : Int32) x1 T676.heap n0 V676 (by decide) (by decide) (by decide) (by decide) (by decide) (by decide) rfl rfl hr1 (SA.ext O0_679.2) (SH.ext O0_679.2) (SL.ext O0_679.2)) rfl d14_32 [(.ref b676), (.int (1 : Int32))] [] rfl rfl pd__28_5bBI_29C rfl rfl (by decide) (Nat.le_of_ble_eq_true rfl) (by decide) (by decide) rfl (fun T680 w680 L680 X680 hQ680 => ?_)
    obtain ⟨rfl, NL680, e680⟩ := hQ680
    have N680 := Fr.app N676 NL680
    show W.Go p e below _ (T680.setTop (mkF m 35 #[.val (.ref p0), .val (.int (0 : Int32)), .val (.int (4 : Int32)), .val (.ref b663), .val (.int (1 : Int32)), .val (.ref b676)] [(.int x1)]))
    refine W.sipush (q := 38) (v := 255) X680 C d14_35 rfl rfl ?_
    refine W.icmpT (q := 54) X680 C d14_38 (by decide) (by decide) hbig ?_
    refine W.aload (q := 56) X680 C d14_54 rfl rfl rfl ?_
    exact W.retA X680 C rfl e680 rfl d14_56 (by decide) (by decide) ⟨_, _, rfl, N680, KK676, Or.inr V676⟩
  · show W.Go p e below _ (T667.setTop (mkF m 12 #[.val (.ref p0), .val (.int (0 : Int32)), .val (.int (4 : Int32)), .val (.ref b663), .unset, .unset] [(.int (2 : Int32))]))
    refine W.istore (q := 14) (L' := #[.val (.ref p0), .val (.int (0 : Int32)), .val (.int (4 : Int32)), .val (.ref b663), .val (.int (2 : Int32)), .unset]) X667 C d14_12 rfl rfl ?_
    refine W.iload (q := 16) X667 C d14_14 rfl rfl ?_
    refine W.iloadN (q := 17) X667 C d14_16 rfl rfl ?_
    refine W.icmpF (q := 20) X667 C d14_17 rfl (by decide : W.cF .eq (2 : Int32) (4 : Int32)) ?_
    refine W.aloadN (q := 21) X667 C d14_20 rfl rfl rfl ?_
    refine W.iloadN (q := 22) X667 C d14_21 rfl rfl ?_
    refine W.iloadN (q := 23) X667 C d14_22 rfl rfl ?_
    refine W.callS (q := 26) X667 C (W.ww hw 78 rfl) (W.ww hw 79 rfl) (W.ww hw 67 rfl) (W.ww hw 80 rfl) (by decide) (rm18_4 l Z a0 hw [] p0 kc x0 x1 x2 x3 T667.heap n0 n0_667 Vc_669 O0_670 SA SH SL) rfl d14_23 [(.ref p0), (.int (0 : Int32)), (.int (4 : Int32))] [] rfl rfl pd__28_5bCII_29_5bB rfl rfl (by decide) (Nat.le_of_ble_eq_true rfl) (by decide) (by decide) rfl (fun T681 w681 L681 X681 hQ681 => ?_)
    obtain ⟨b681, kb681, rfl, NL681, K681, V681⟩ := hQ681
    have N681 := Fr.app N667 NL681
    have Vc_683 := Vc_669.keep K681 nin0
    have O0_684 := O0_670.keep K681 all0
    have n0_681 : n0 ≤ T681.heap.size := Nat.le_trans n0_667 K681.1
    have KK681 := KK667.trans K681 all0
    show W.Go p e below _ (T681.setTop (mkF m 26 #[.val (.ref p0), .val (.int (0 : Int32)), .val (.int (4 : Int32)), .val (.ref b663), .val (.int (2 : Int32)), .unset] [(.ref b681)]))
    refine W.astore (q := 28) (L' := #[.val (.ref p0), .val (.int (0 : Int32)), .val (.int (4 : Int32)), .val (.ref b663), .val (.int (2 : Int32)), .val (.ref b681)]) X681 C d14_26 rfl rfl rfl ?_
    refine W.aload (q := 30) X681 C d14_28 rfl rfl rfl ?_
    refine W.iload (q := 32) X681 C d14_30 rfl rfl ?_
    refine W.callS (q := 35) X681 C (W.ww hw 94 rfl) (W.ww hw 95 rfl) (W.ww hw 67 rfl) (W.ww hw 96 rfl) (by decide) (rm22 l Z a0 hw [] b681 kb681 [(.int (own_hb x0)), (.int (own_lb x0)), (.int (own_hb x1)), (.int (own_lb x1)), (.int (own_hb x2)), (.int (own_lb x2)), (.int (own_hb x3)), (.int (own_lb x3))] (8 : Int32) (2 : Int32) (4 : Int32) (5 : Int32) x2 T681.heap n0 V681 (by decide) (by decide) (by decide) (by decide) (by decide) (by decide) rfl rfl hr2 (SA.ext O0_684.2) (SH.ext O0_684.2) (SL.ext O0_684.2)) rfl d14_32 [(.ref b681), (.int (2 : Int32))] [] rfl rfl pd__28_5bBI_29C rfl rfl (by decide) (Nat.le_of_ble_eq_true rfl) (by decide) (by decide) rfl (fun T685 w685 L685 X685 hQ685 => ?_)
    obtain ⟨rfl, NL685, e685⟩ := hQ685
    have N685 := Fr.app N681 NL685
    show W.Go p e below _ (T685.setTop (mkF m 35 #[.val (.ref p0), .val (.int (0 : Int32)), .val (.int (4 : Int32)), .val (.ref b663), .val (.int (2 : Int32)), .val (.ref b681)] [(.int x2)]))
    refine W.sipush (q := 38) (v := 255) X685 C d14_35 rfl rfl ?_
    refine W.icmpT (q := 54) X685 C d14_38 (by decide) (by decide) hbig ?_
    refine W.aload (q := 56) X685 C d14_54 rfl rfl rfl ?_
    exact W.retA X685 C rfl e685 rfl d14_56 (by decide) (by decide) ⟨_, _, rfl, N685, KK681, Or.inr V681⟩
  · show W.Go p e below _ (T667.setTop (mkF m 12 #[.val (.ref p0), .val (.int (0 : Int32)), .val (.int (4 : Int32)), .val (.ref b663), .unset, .unset] [(.int (3 : Int32))]))
    refine W.istore (q := 14) (L' := #[.val (.ref p0), .val (.int (0 : Int32)), .val (.int (4 : Int32)), .val (.ref b663), .val (.int (3 : Int32)), .unset]) X667 C d14_12 rfl rfl ?_
    refine W.iload (q := 16) X667 C d14_14 rfl rfl ?_
    refine W.iloadN (q := 17) X667 C d14_16 rfl rfl ?_
    refine W.icmpF (q := 20) X667 C d14_17 rfl (by decide : W.cF .eq (3 : Int32) (4 : Int32)) ?_
    refine W.aloadN (q := 21) X667 C d14_20 rfl rfl rfl ?_
    refine W.iloadN (q := 22) X667 C d14_21 rfl rfl ?_
    refine W.iloadN (q := 23) X667 C d14_22 rfl rfl ?_
    refine W.callS (q := 26) X667 C (W.ww hw 78 rfl) (W.ww hw 79 rfl) (W.ww hw 67 rfl) (W.ww hw 80 rfl) (by decide) (rm18_4 l Z a0 hw [] p0 kc x0 x1 x2 x3 T667.heap n0 n0_667 Vc_669 O0_670 SA SH SL) rfl d14_23 [(.ref p0), (.int (0 : Int32)), (.int (4 : Int32))] [] rfl rfl pd__28_5bCII_29_5bB rfl rfl (by decide) (Nat.le_of_ble_eq_true rfl) (by decide) (by decide) rfl (fun T686 w686 L686 X686 hQ686 => ?_)
    obtain ⟨b686, kb686, rfl, NL686, K686, V686⟩ := hQ686
    have N686 := Fr.app N667 NL686
    have Vc_688 := Vc_669.keep K686 nin0
    have O0_689 := O0_670.keep K686 all0
    have n0_686 : n0 ≤ T686.heap.size := Nat.le_trans n0_667 K686.1
    have KK686 := KK667.trans K686 all0
    show W.Go p e below _ (T686.setTop (mkF m 26 #[.val (.ref p0), .val (.int (0 : Int32)), .val (.int (4 : Int32)), .val (.ref b663), .val (.int (3 : Int32)), .unset] [(.ref b686)]))
    refine W.astore (q := 28) (L' := #[.val (.ref p0), .val (.int (0 : Int32)), .val (.int (4 : Int32)), .val (.ref b663), .val (.int (3 : Int32)), .val (.ref b686)]) X686 C d14_26 rfl rfl rfl ?_
    refine W.aload (q := 30) X686 C d14_28 rfl rfl rfl ?_
    refine W.iload (q := 32) X686 C d14_30 rfl rfl ?_
    refine W.callS (q := 35) X686 C (W.ww hw 94 rfl) (W.ww hw 95 rfl) (W.ww hw 67 rfl) (W.ww hw 96 rfl) (by decide) (rm22 l Z a0 hw [] b686 kb686 [(.int (own_hb x0)), (.int (own_lb x0)), (.int (own_hb x1)), (.int (own_lb x1)), (.int (own_hb x2)), (.int (own_lb x2)), (.int (own_hb x3)), (.int (own_lb x3))] (8 : Int32) (3 : Int32) (6 : Int32) (7 : Int32) x3 T686.heap n0 V686 (by decide) (by decide) (by decide) (by decide) (by decide) (by decide) rfl rfl hr3 (SA.ext O0_689.2) (SH.ext O0_689.2) (SL.ext O0_689.2)) rfl d14_32 [(.ref b686), (.int (3 : Int32))] [] rfl rfl pd__28_5bBI_29C rfl rfl (by decide) (Nat.le_of_ble_eq_true rfl) (by decide) (by decide) rfl (fun T690 w690 L690 X690 hQ690 => ?_)
    obtain ⟨rfl, NL690, e690⟩ := hQ690
    have N690 := Fr.app N686 NL690
    show W.Go p e below _ (T690.setTop (mkF m 35 #[.val (.ref p0), .val (.int (0 : Int32)), .val (.int (4 : Int32)), .val (.ref b663), .val (.int (3 : Int32)), .val (.ref b686)] [(.int x3)]))
    refine W.sipush (q := 38) (v := 255) X690 C d14_35 rfl rfl ?_
    refine W.icmpT (q := 54) X690 C d14_38 (by decide) (by decide) hbig ?_
    refine W.aload (q := 56) X690 C d14_54 rfl rfl rfl ?_
    exact W.retA X690 C rfl e690 rfl d14_56 (by decide) (by decide) ⟨_, _, rfl, N690, KK686, Or.inr V686⟩
def Q2_4 (Z : State) (p0 p1 : Addr) (kc : ClassId) (x0 x1 x2 x3 : Int32) (cs : Int32) (h0 : Heap) (n0 : Nat) (v : Option Value) (h : Heap) (L : List Loc) : Prop := v = none ∧ Fr n0 L ∧ Keep h0 h [p0] ∧ own_txt4 Z h p0 x0 x1 x2 x3
theorem rm2_4 (l : Launch) (Z : State) (a0 : Array Value) (hw : own_HW a0 Z) (ws : List Jvm.Cond) (p0 p1 : Addr) (kc : ClassId) (x0 x1 x2 x3 : Int32) (cs : Int32) (h0 : Heap) (n0 : Nat) (Z0 : n0 ≤ h0.size) (hge : n0 ≤ p0) (E0 : Exa Z h0 p0 "java/lang/String") (F0a : Fld Z h0 p0 "java/lang/String" "value" "[B" .null) (F0b : Fld Z h0 p0 "java/lang/String" "coder" "B" (.int (0 : Int32))) (Vc : Arv Z h0 p1 kc .char (4 : Int32) [(.int x0), (.int x1), (.int x2), (.int x3)] (.int (0 : Int32))) (hr0 : own_r16 x0) (hr1 : own_r16 x1) (hr2 : own_r16 x2) (hr3 : own_r16 x3) (O0 : Old Z n0 h0) (SC : Sta Z Z.heap "java/lang/String" "COMPACT_STRINGS" "Z" (.int cs)) (hcs : cs ≠ 0) (SA : Sta Z Z.heap "java/lang/StringUTF16" "$assertionsDisabled" "Z" (.int (1 : Int32))) (SH : Sta Z Z.heap "java/lang/StringUTF16" "HI_BYTE_SHIFT" "I" (.int (0 : Int32))) (SL : Sta Z Z.heap "java/lang/StringUTF16" "LO_BYTE_SHIFT" "I" (.int (8 : Int32))) : own_M l y2 jdk_42_method_149_code 6 none ws r_4_2_12_70 #[(.ref p0), (.ref p1), (.int (0 : Int32)), (.int (4 : Int32)), .null] Z h0 (Q2_4 Z p0 p1 kc x0 x1 x2 x3 cs h0 n0) := by
  refine W.bodyOf (Ls := #[.val (.ref p0), .val (.ref p1), .val (.int (0 : Int32)), .val (.int (4 : Int32)), .val .null, .unset]) (plainFor_of_name pn_java_lang_String) (fun m => by first | exact W.entry_of rfl) ?_
  intro p e s m below meth c T0 C X0 e0
  have N0 := Fr.nil n0
  have K0 := Keep.refl h0 [p0]
  have ne01 : p0 ≠ p1 := E0.neArv Vc (W.ww hw 2 rfl)
  have SC0 := SC.ext O0.2
  refine W.aloadN (q := 1) X0 C d2_0 rfl rfl rfl ?_
  refine W.initObj (q := 4) X0 C (W.ww hw 11 rfl) (W.ww hw 12 rfl) (W.ww hw 13 rfl) e0 d2_1 rfl (by decide) (Nat.le_of_ble_eq_true rfl) rfl (fun T691 X691 e691 => ?_)
  refine W.iloadN (q := 5) X691 C d2_4 rfl rfl ?_
  refine W.ifT (q := 27) X691 C d2_5 (by decide) (by decide) (by decide : W.cT .ne (4 : Int32) 0) ?_
  refine W.getS (q := 30) X691 C (W.ww hw 40 rfl) Via.refl e691 SC0 d2_27 rfl (fun T692 X692 e692 => ?_)
  refine W.ifF (q := 33) X692 C d2_30 rfl hcs ?_
  refine W.aloadN (q := 34) X692 C d2_33 rfl rfl rfl ?_
  refine W.iloadN (q := 35) X692 C d2_34 rfl rfl ?_
  refine W.iloadN (q := 36) X692 C d2_35 rfl rfl ?_
  refine W.callS (q := 39) X692 C (W.ww hw 65 rfl) (W.ww hw 66 rfl) (W.ww hw 67 rfl) (W.ww hw 68 rfl) (by decide) (rm14_4 l Z a0 hw [] p1 kc x0 x1 x2 x3 h0 n0 Z0 Vc hr0 hr1 hr2 hr3 O0 SA SH SL) e692 d2_36 [(.ref p1), (.int (0 : Int32)), (.int (4 : Int32))] [] rfl rfl pd__28_5bCII_29_5bB rfl rfl (by decide) (Nat.le_of_ble_eq_true rfl) (by decide) (by decide) rfl (fun T693 w693 L693 X693 hQ693 => ?_)
  obtain ⟨b693, kb693, rfl, NL693, K693, D693⟩ := hQ693
  have N693 := Fr.app N0 NL693
  have Vc_695 := Vc.keep K693 nin0
  have O0_696 := O0.keep K693 all0
  have E0_697 := E0.keep K693
  have F0a_698 := F0a.keep K693 nin0
  have F0b_699 := F0b.keep K693 nin0
  have n0_693 : n0 ≤ T693.heap.size := Nat.le_trans Z0 K693.1
  have KK693 := K0.trans K693 all0
  show W.Go p e below _ (T693.setTop (mkF m 39 #[.val (.ref p0), .val (.ref p1), .val (.int (0 : Int32)), .val (.int (4 : Int32)), .val .null, .unset] [(.ref b693)]))
  rcases D693 with ⟨hx0, hx1, hx2, hx3, Vb⟩ | Vb
  · have ne_p0_b693 : p0 ≠ b693 := E0_697.neArv Vb (W.ww hw 2 rfl)
    show W.Go p e below _ (T693.setTop (mkF m 39 #[.val (.ref p0), .val (.ref p1), .val (.int (0 : Int32)), .val (.int (4 : Int32)), .val .null, .unset] [(.ref b693)]))
    refine W.astore (q := 41) (L' := #[.val (.ref p0), .val (.ref p1), .val (.int (0 : Int32)), .val (.int (4 : Int32)), .val .null, .val (.ref b693)]) X693 C d2_39 rfl rfl rfl ?_
    refine W.aloadN (q := 42) X693 C d2_41 rfl rfl rfl ?_
    refine W.aload (q := 44) X693 C d2_42 rfl rfl rfl ?_
    refine W.iloadN (q := 45) X693 C d2_44 rfl rfl ?_
    refine W.callS (q := 48) X693 C (W.ww hw 72 rfl) (W.ww hw 73 rfl) (W.ww hw 67 rfl) (W.ww hw 74 rfl) (by decide) (rm16_4_4 l Z a0 hw [] b693 kb693 _ T693.heap n0 Vb) rfl d2_45 [(.ref b693), (.int (4 : Int32))] [(.ref p0)] rfl rfl pd__28_5bBI_29B rfl rfl (by decide) (Nat.le_of_ble_eq_true rfl) (by decide) (by decide) rfl (fun T701 w701 L701 X701 hQ701 => ?_)
    obtain ⟨rfl, NL701, e701⟩ := hQ701
    have N701 := Fr.app N693 NL701
    show W.Go p e below _ (T701.setTop (mkF m 48 #[.val (.ref p0), .val (.ref p1), .val (.int (0 : Int32)), .val (.int (4 : Int32)), .val .null, .val (.ref b693)] [(.int (0 : Int32)), (.ref p0)]))
    refine W.putF (host := "") (q := 51) X701 C (Or.inl (W.ww hw 21 rfl)) Via.refl e701 F0b_699 E0_697 (Or.inr ⟨(W.ww hw 17 rfl), rfl, rfl⟩) (W.ww hw 2 rfl) (ty := .byte) (by decide) rfl rfl d2_48 rfl (fun T702 h702 X702 e702 W702 => ?_)
    have Fw702 := F0b_699.same W702
    have Vc_704 := Vc_695.other W702 (Ne.symm ne01)
    have O0_705 := O0_696.wr W702 hge
    have E0_706 := E0_697.wr W702
    have F0a_707 := F0a_698.other W702 (Or.inr (slot_ne (Or.inr (W.ww hw 16 rfl)) (Or.inr (W.ww hw 17 rfl)) (by decide) (t := (.array .byte)) (t' := .byte) (by decide) (by decide)))
    have Vb_709 := Vb.other W702 (Ne.symm ne_p0_b693)
    have N702 := Fr.snoc X702 N701 hge
    have K702 := KK693.wr W702 (Or.inl (by simp))
    have n0_702 : n0 ≤ h702.size := by rw [W702.size]; exact n0_693
    refine W.aloadN (q := 52) X702 C d2_51 rfl rfl rfl ?_
    refine W.aload (q := 54) X702 C d2_52 rfl rfl rfl ?_
    refine W.putF (host := "") (q := 57) X702 C (Or.inl (W.ww hw 20 rfl)) Via.refl e702 F0a_707 E0_706 (Or.inr ⟨(W.ww hw 16 rfl), rfl, rfl⟩) (W.ww hw 2 rfl) (ty := (.array .byte)) (by decide) rfl rfl d2_54 rfl (fun T710 h710 X710 e710 W710 => ?_)
    have Fw710 := F0a_707.same W710
    have Vc_712 := Vc_704.other W710 (Ne.symm ne01)
    have O0_713 := O0_705.wr W710 hge
    have E0_714 := E0_706.wr W710
    have Fw702_716 := Fw702.other W710 (Or.inr (slot_ne (Or.inr (W.ww hw 17 rfl)) (Or.inr (W.ww hw 16 rfl)) (by decide) (t := .byte) (t' := (.array .byte)) (by decide) (by decide)))
    have Vb_717 := Vb_709.other W710 (Ne.symm ne_p0_b693)
    have N710 := Fr.snoc X710 N702 hge
    have K710 := K702.wr W710 (Or.inl (by simp))
    have n0_710 : n0 ≤ h710.size := by rw [W710.size]; exact n0_702
    exact W.retV X710 C e710 d2_57 (by decide) (by decide) ⟨rfl, N710, K710, _, _, E0_714, Fw710, Or.inl ⟨Fw702_716, hx0, hx1, hx2, hx3, Vb_717⟩⟩
  · have ne_p0_b693 : p0 ≠ b693 := E0_697.neArv Vb (W.ww hw 2 rfl)
    show W.Go p e below _ (T693.setTop (mkF m 39 #[.val (.ref p0), .val (.ref p1), .val (.int (0 : Int32)), .val (.int (4 : Int32)), .val .null, .unset] [(.ref b693)]))
    refine W.astore (q := 41) (L' := #[.val (.ref p0), .val (.ref p1), .val (.int (0 : Int32)), .val (.int (4 : Int32)), .val .null, .val (.ref b693)]) X693 C d2_39 rfl rfl rfl ?_
    refine W.aloadN (q := 42) X693 C d2_41 rfl rfl rfl ?_
    refine W.aload (q := 44) X693 C d2_42 rfl rfl rfl ?_
    refine W.iloadN (q := 45) X693 C d2_44 rfl rfl ?_
    refine W.callS (q := 48) X693 C (W.ww hw 72 rfl) (W.ww hw 73 rfl) (W.ww hw 67 rfl) (W.ww hw 74 rfl) (by decide) (rm16_4_8 l Z a0 hw [] b693 kb693 _ T693.heap n0 Vb) rfl d2_45 [(.ref b693), (.int (4 : Int32))] [(.ref p0)] rfl rfl pd__28_5bBI_29B rfl rfl (by decide) (Nat.le_of_ble_eq_true rfl) (by decide) (by decide) rfl (fun T718 w718 L718 X718 hQ718 => ?_)
    obtain ⟨rfl, NL718, e718⟩ := hQ718
    have N718 := Fr.app N693 NL718
    show W.Go p e below _ (T718.setTop (mkF m 48 #[.val (.ref p0), .val (.ref p1), .val (.int (0 : Int32)), .val (.int (4 : Int32)), .val .null, .val (.ref b693)] [(.int (1 : Int32)), (.ref p0)]))
    refine W.putF (host := "") (q := 51) X718 C (Or.inl (W.ww hw 21 rfl)) Via.refl e718 F0b_699 E0_697 (Or.inr ⟨(W.ww hw 17 rfl), rfl, rfl⟩) (W.ww hw 2 rfl) (ty := .byte) (by decide) rfl rfl d2_48 rfl (fun T719 h719 X719 e719 W719 => ?_)
    have Fw719 := F0b_699.same W719
    have Vc_721 := Vc_695.other W719 (Ne.symm ne01)
    have O0_722 := O0_696.wr W719 hge
    have E0_723 := E0_697.wr W719
    have F0a_724 := F0a_698.other W719 (Or.inr (slot_ne (Or.inr (W.ww hw 16 rfl)) (Or.inr (W.ww hw 17 rfl)) (by decide) (t := (.array .byte)) (t' := .byte) (by decide) (by decide)))
    have Vb_726 := Vb.other W719 (Ne.symm ne_p0_b693)
    have N719 := Fr.snoc X719 N718 hge
    have K719 := KK693.wr W719 (Or.inl (by simp))
    have n0_719 : n0 ≤ h719.size := by rw [W719.size]; exact n0_693
    refine W.aloadN (q := 52) X719 C d2_51 rfl rfl rfl ?_
    refine W.aload (q := 54) X719 C d2_52 rfl rfl rfl ?_
    refine W.putF (host := "") (q := 57) X719 C (Or.inl (W.ww hw 20 rfl)) Via.refl e719 F0a_724 E0_723 (Or.inr ⟨(W.ww hw 16 rfl), rfl, rfl⟩) (W.ww hw 2 rfl) (ty := (.array .byte)) (by decide) rfl rfl d2_54 rfl (fun T727 h727 X727 e727 W727 => ?_)
    have Fw727 := F0a_724.same W727
    have Vc_729 := Vc_721.other W727 (Ne.symm ne01)
    have O0_730 := O0_722.wr W727 hge
    have E0_731 := E0_723.wr W727
    have Fw719_733 := Fw719.other W727 (Or.inr (slot_ne (Or.inr (W.ww hw 17 rfl)) (Or.inr (W.ww hw 16 rfl)) (by decide) (t := .byte) (t' := (.array .byte)) (by decide) (by decide)))
    have Vb_734 := Vb_726.other W727 (Ne.symm ne_p0_b693)
    have N727 := Fr.snoc X727 N719 hge
    have K727 := K719.wr W727 (Or.inl (by simp))
    have n0_727 : n0 ≤ h727.size := by rw [W727.size]; exact n0_719
    exact W.retV X727 C e727 d2_57 (by decide) (by decide) ⟨rfl, N727, K727, _, _, E0_731, Fw727, Or.inr ⟨Fw719_733, Vb_734⟩⟩
def Q1_4 (Z : State) (p0 p1 : Addr) (kc : ClassId) (x0 x1 x2 x3 : Int32) (cs : Int32) (h0 : Heap) (n0 : Nat) (v : Option Value) (h : Heap) (L : List Loc) : Prop := v = none ∧ Fr n0 L ∧ Keep h0 h [p0] ∧ own_txt4 Z h p0 x0 x1 x2 x3
theorem rm1_4 (l : Launch) (Z : State) (a0 : Array Value) (hw : own_HW a0 Z) (ws : List Jvm.Cond) (p0 p1 : Addr) (kc : ClassId) (x0 x1 x2 x3 : Int32) (cs : Int32) (h0 : Heap) (n0 : Nat) (Z0 : n0 ≤ h0.size) (hge : n0 ≤ p0) (E0 : Exa Z h0 p0 "java/lang/String") (F0a : Fld Z h0 p0 "java/lang/String" "value" "[B" .null) (F0b : Fld Z h0 p0 "java/lang/String" "coder" "B" (.int (0 : Int32))) (Vc : Arv Z h0 p1 kc .char (4 : Int32) [(.int x0), (.int x1), (.int x2), (.int x3)] (.int (0 : Int32))) (hr0 : own_r16 x0) (hr1 : own_r16 x1) (hr2 : own_r16 x2) (hr3 : own_r16 x3) (O0 : Old Z n0 h0) (SC : Sta Z Z.heap "java/lang/String" "COMPACT_STRINGS" "Z" (.int cs)) (hcs : cs ≠ 0) (SA : Sta Z Z.heap "java/lang/StringUTF16" "$assertionsDisabled" "Z" (.int (1 : Int32))) (SH : Sta Z Z.heap "java/lang/StringUTF16" "HI_BYTE_SHIFT" "I" (.int (0 : Int32))) (SL : Sta Z Z.heap "java/lang/StringUTF16" "LO_BYTE_SHIFT" "I" (.int (8 : Int32))) : own_M l y1 jdk_42_method_3_code 2 none ws r_5_2_12_90 #[(.ref p0), (.ref p1)] Z h0 (Q1_4 Z p0 p1 kc x0 x1 x2 x3 cs h0 n0) := by
  refine W.bodyOf (Ls := #[.val (.ref p0), .val (.ref p1)]) (plainFor_of_name pn_java_lang_String) (fun m => by first | exact W.entry_of rfl) ?_
  intro p e s m below meth c T0 C X0 e0
  have N0 := Fr.nil n0
  have K0 := Keep.refl h0 [p0]
  have ne01 : p0 ≠ p1 := E0.neArv Vc (W.ww hw 2 rfl)
  refine W.aloadN (q := 1) X0 C d1_0 rfl rfl rfl ?_
  refine W.aloadN (q := 2) X0 C d1_1 rfl rfl rfl ?_
  refine W.iconst (q := 3) (v := 0) X0 C d1_2 rfl rfl ?_
  refine W.aloadN (q := 4) X0 C d1_3 rfl rfl rfl ?_
  refine W.arraylength (q := 5) X0 C e0 Vc d1_4 rfl ?_
  refine W.aconst (q := 6) X0 C d1_5 rfl ?_
  refine W.callI (q := 9) X0 C rfl (W.ww hw 7 rfl) (W.ww hw 8 rfl) (W.ww hw 3 rfl) (W.ww hw 10 rfl) (by decide) (rm2_4 l Z a0 hw [] p0 p1 kc x0 x1 x2 x3 cs h0 n0 Z0 hge E0 F0a F0b Vc hr0 hr1 hr2 hr3 O0 SC hcs SA SH SL) e0 d1_6 (a := p0) [(.ref p1), (.int (0 : Int32)), (.int (4 : Int32)), .null] [] rfl rfl pd__28_5bCIILjava_2flang_2fVoid_3b_29V rfl rfl (by decide) (Nat.le_of_ble_eq_true rfl) (by decide) (by decide) rfl (fun T735 w735 L735 X735 hQ735 => ?_)
  obtain ⟨rfl, NL735, K735, Yn735⟩ := hQ735
  have N735 := Fr.app N0 NL735
  have Vc_737 := Vc.keep K735 (ninS (Ne.symm ne01) nin0)
  have O0_738 := O0.keep K735 (allS hge all0)
  have E0_739 := E0.keep K735
  have n0_735 : n0 ≤ T735.heap.size := Nat.le_trans Z0 K735.1
  have KK735 := K0.trans K735 (allS (Or.inl (List.mem_singleton.mpr rfl)) all0)
  show W.Go p e below _ (T735.setTop (mkF m 9 #[.val (.ref p0), .val (.ref p1)] []))
  exact W.retV X735 C rfl d1_9 (by decide) (by decide) ⟨rfl, N735, KK735, Yn735⟩
theorem d2_8 : decode jdk_42_method_149_code 8 = .ok (.aload_n 0, 1) := by decide +kernel
theorem d2_9 : decode jdk_42_method_149_code 9 = .ok (.ldc 7, 2) := by decide +kernel
theorem d2_11 : decode jdk_42_method_149_code 11 = .ok (.getfield 9, 3) := by decide +kernel
theorem d2_14 : decode jdk_42_method_149_code 14 = .ok (.putfield 9, 3) := by decide +kernel
theorem d2_17 : decode jdk_42_method_149_code 17 = .ok (.aload_n 0, 1) := by decide +kernel
theorem d2_18 : decode jdk_42_method_149_code 18 = .ok (.ldc 7, 2) := by decide +kernel
theorem d2_20 : decode jdk_42_method_149_code 20 = .ok (.getfield 15, 3) := by decide +kernel
theorem d2_23 : decode jdk_42_method_149_code 23 = .ok (.putfield 15, 3) := by decide +kernel
theorem d2_26 : decode jdk_42_method_149_code 26 = .ok (.return_, 1) := by decide +kernel
def Q2_0 (Z : State) (p0 p1 : Addr) (h0 : Heap) (n0 : Nat) (v : Option Value) (h : Heap) (L : List Loc) : Prop := v = none ∧ Fr n0 L ∧ Keep h0 h [p0] ∧ own_txt0 Z h p0
set_option maxRecDepth 65536 in
set_option maxHeartbeats 40000000 in
theorem rm2_0 (l : Launch) (Z : State) (a0 : Array Value) (hw : ∀ d ∈ tables_1, d.before a0 Z = true) (ws : List Jvm.Cond) (p0 p1 : Addr) (h0 : Heap) (n0 : Nat) (Z0 : n0 ≤ h0.size) (hge : n0 ≤ p0) (E0 : Exa Z h0 p0 "java/lang/String") (F0a : Fld Z h0 p0 "java/lang/String" "value" "[B" .null) (F0b : Fld Z h0 p0 "java/lang/String" "coder" "B" (.int (0 : Int32))) :
    MetFree l (⟨"java/lang/String", "<init>", "([CIILjava/lang/Void;)V"⟩ : MethodName) (head1 (Jvm.Cond.code (⟨"java/lang/String", "<init>", "([CIILjava/lang/Void;)V"⟩ : MethodName) jdk_42_method_149_code 6 none :: ws) ({ frames := 1, cells := 4, slots := 8, locals := 16 } : Room)) (fun a U => a = #[(.ref p0), (.ref p1), (.int (0 : Int32)), (.int (0 : Int32)), .null] ∧ Z.Warmed39 U.vm ∧ U.heap = h0 ∧ CHv Z own_el U.vm h0) (fun _ _ _ _ _ => True) (fun _ U o U' => ∃ v L, o = .returned v ∧ Q2_0 Z p0 p1 h0 n0 v U'.heap L ∧ CHr Z own_el U.vm U.heap U'.vm U'.heap ∧ ReturnedEndW U o U' L ({ frames := 1, cells := 4, slots := 8, locals := 16 } : Room).cells ({ frames := 1, cells := 4, slots := 8, locals := 16 } : Room).slots) := by
  refine W.bodyOfH (y := (⟨"java/lang/String", "<init>", "([CIILjava/lang/Void;)V"⟩ : MethodName)) (as := #[(.ref p0), (.ref p1), (.int (0 : Int32)), (.int (0 : Int32)), .null]) (maxL := 6) (Q := Q2_0 Z p0 p1 h0 n0) (Ls := #[.val (.ref p0), .val (.ref p1), .val (.int (0 : Int32)), .val (.int (0 : Int32)), .val .null, .unset]) (plainFor_of_name pn_java_lang_String) (fun m => by first | exact W.entry_of rfl | rfl | (simp [entryFrame, mkF, argsToLocals, Value.category]; done)) ?_
  intro p e s m below meth c T0 C X0 e0 hs hH hS0
  have R0 : CHr Z own_el s.vm s.heap s.vm h0 := by rw [hs]; exact CHr.refl hH
  have hk0 : 0 ≤ h0.size := Nat.zero_le _
  have N0 := Fr.nil n0
  have K0 := Keep.refl h0 [p0]
  have sf0 : Safe Z own_el s.vm h0 p0 := own_safeN C.2.1.alike E0 F0a
  refine W.aloadN (q := 1) X0 C d2_0 rfl rfl rfl ?_
  refine W.initObj (q := 4) X0 C (W.ww hw 11 rfl) (W.ww hw 12 rfl) (W.ww hw 13 rfl) e0 d2_1 rfl (by decide) (Nat.le_of_ble_eq_true rfl) rfl (fun T740 X740 e740 => ?_)
  refine W.iloadN (q := 5) X740 C d2_4 rfl rfl ?_
  refine W.ifF (q := 8) X740 C d2_5 rfl (by decide : W.cF .ne (0 : Int32) 0) ?_
  refine W.aloadN (q := 9) X740 C d2_8 rfl rfl rfl ?_
  refine W.ldcC (q := 11) (s := s) (EL := own_el) (vs := []) (z := (0 : Int32)) X740 C (W.ww hw 14 rfl) (own_wS hw) e740 hS0 hk0 (own_EL hw) (List.mem_singleton.mpr rfl) R0.1 (by simp) (by decide) rfl d2_9 0 (by decide) (by decide) (by decide) (by decide) rfl (fun sa741 T741 h741 kk741 sb741 sk741 X741 C e741 E741 hS741 hk741 A741 fc741 fv741 V741 Rn741 => ?_)
  have E0_744 := E0.ext E741
  have F0a_745 := F0a.ext E741
  have F0b_746 := F0b.ext E741
  have K741 := K0.ext E741
  have n0_741 : n0 ≤ h741.size := Nat.le_trans Z0 E741.1
  have R_741 := R0.trans Rn741
  have sf_741 := Rn741.safe E0.lt sf0
  have ne_p0_sa741 : p0 ≠ sa741 := fun e => by rw [← e] at fv741; exact absurd (own_fdet F0a_745 fv741) nofun
  have ne_p0_sb741 : p0 ≠ sb741 := E0_744.neArv V741 (W.ww hw 2 rfl)
  refine W.getF (host := "") (q := 14) X741 C (Or.inl (W.ww hw 20 rfl)) Via.refl e741 fv741 d2_11 rfl (fun T747 X747 e747 => ?_)
  refine W.putF (host := "") (q := 17) X747 C (Or.inl (W.ww hw 20 rfl)) Via.refl e747 F0a_745 E0_744 (Or.inr ⟨(W.ww hw 16 rfl), rfl, rfl⟩) (W.ww hw 2 rfl) (ty := (.array .byte)) (by decide) rfl rfl d2_14 rfl (fun T748 h748 X748 e748 W748 => ?_)
  have Fw748 := F0a_745.same W748
  have sf749 := Safe.wr W748 sf_741 R_741.1 sf_741
  have R_750 := R_741.trans (CHr.wr W748 sf_741 R_741.1)
  have E0_752 := E0_744.wr W748
  have F0b_754 := F0b_746.other W748 (Or.inr (slot_ne (Or.inr (W.ww hw 17 rfl)) (Or.inr (W.ww hw 16 rfl)) (by decide) (t := .byte) (t' := (.array .byte)) (by decide) (by decide)))
  have hk741_755 := Nat.le_trans hk741 (Nat.le_of_eq W748.size.symm)
  have V741_756 := V741.other W748 (Ne.symm ne_p0_sb741)
  have N748 := Fr.snoc X748 N0 hge
  have K748 := K741.wr W748 (Or.inl (by simp))
  have n0_748 : n0 ≤ h748.size := by rw [W748.size]; exact n0_741
  refine W.aloadN (q := 18) X748 C d2_17 rfl rfl rfl ?_
  refine W.ldcC (q := 20) (s := s) (EL := own_el) (vs := []) (z := (0 : Int32)) X748 C (W.ww hw 14 rfl) (own_wS hw) e748 hS741 hk741_755 (own_EL hw) (List.mem_singleton.mpr rfl) R_750.1 (by simp) (by decide) rfl d2_18 0 (by decide) (by decide) (by decide) (by decide) rfl (fun sa757 T757 h757 kk757 sb757 sk757 X757 C e757 E757 hS757 hk757 A757 fc757 fv757 V757 Rn757 => ?_)
  have E0_760 := E0_752.ext E757
  have Fw748_761 := Fw748.ext E757
  have F0b_762 := F0b_754.ext E757
  have V741_763 := V741_756.ext E757
  have K757 := K748.ext E757
  have n0_757 : n0 ≤ h757.size := Nat.le_trans n0_748 E757.1
  have R_757 := R_750.trans Rn757
  have sf_757 := Rn757.safe E0_752.lt sf749
  refine W.getF (host := "") (q := 23) X757 C (Or.inl (W.ww hw 21 rfl)) Via.refl e757 fc757 d2_20 rfl (fun T764 X764 e764 => ?_)
  refine W.putF (host := "") (q := 26) X764 C (Or.inl (W.ww hw 21 rfl)) Via.refl e764 F0b_762 E0_760 (Or.inr ⟨(W.ww hw 17 rfl), rfl, rfl⟩) (W.ww hw 2 rfl) (ty := .byte) (by decide) rfl rfl d2_23 rfl (fun T765 h765 X765 e765 W765 => ?_)
  have Fw765 := F0b_762.same W765
  have sf766 := Safe.wr W765 sf_757 R_757.1 sf_757
  have R_767 := R_757.trans (CHr.wr W765 sf_757 R_757.1)
  have E0_769 := E0_760.wr W765
  have Fw748_770 := Fw748_761.other W765 (Or.inr (slot_ne (Or.inr (W.ww hw 16 rfl)) (Or.inr (W.ww hw 17 rfl)) (by decide) (t := (.array .byte)) (t' := .byte) (by decide) (by decide)))
  have V741_772 := V741_763.other W765 (Ne.symm ne_p0_sb741)
  have hk757_773 := Nat.le_trans hk757 (Nat.le_of_eq W765.size.symm)
  have N765 := Fr.snoc X765 N748 hge
  have K765 := K757.wr W765 (Or.inl (by simp))
  have n0_765 : n0 ≤ h765.size := by rw [W765.size]; exact n0_757
  exact W.retVH X765 C e765 d2_26 (by decide) (by decide) hS757 hk757_773 (own_EL hw) R_767 ⟨rfl, N765, K765, _, _, E0_769, Fw748_770, Fw765, V741_772⟩
def Q1_0 (Z : State) (p0 p1 : Addr) (kc : ClassId) (h0 : Heap) (n0 : Nat) (v : Option Value) (h : Heap) (L : List Loc) : Prop := v = none ∧ Fr n0 L ∧ Keep h0 h [p0] ∧ own_txt0 Z h p0
set_option maxRecDepth 65536 in
set_option maxHeartbeats 40000000 in
theorem rm1_0 (l : Launch) (Z : State) (a0 : Array Value) (hw : ∀ d ∈ tables_1, d.before a0 Z = true) (ws : List Jvm.Cond) (p0 p1 : Addr) (kc : ClassId) (h0 : Heap) (n0 : Nat) (Z0 : n0 ≤ h0.size) (hge : n0 ≤ p0) (E0 : Exa Z h0 p0 "java/lang/String") (F0a : Fld Z h0 p0 "java/lang/String" "value" "[B" .null) (F0b : Fld Z h0 p0 "java/lang/String" "coder" "B" (.int (0 : Int32))) (Vc : Arv Z h0 p1 kc .char (0 : Int32) [] (.int (0 : Int32))) :
    MetFree l (⟨"java/lang/String", "<init>", "([C)V"⟩ : MethodName) (head1 (Jvm.Cond.code (⟨"java/lang/String", "<init>", "([C)V"⟩ : MethodName) jdk_42_method_3_code 2 none :: ws) ({ frames := 2, cells := 4, slots := 8, locals := 40 } : Room)) (fun a U => a = #[(.ref p0), (.ref p1)] ∧ Z.Warmed39 U.vm ∧ U.heap = h0 ∧ CHv Z own_el U.vm h0) (fun _ _ _ _ _ => True) (fun _ U o U' => ∃ v L, o = .returned v ∧ Q1_0 Z p0 p1 kc h0 n0 v U'.heap L ∧ CHr Z own_el U.vm U.heap U'.vm U'.heap ∧ ReturnedEndW U o U' L ({ frames := 2, cells := 4, slots := 8, locals := 40 } : Room).cells ({ frames := 2, cells := 4, slots := 8, locals := 40 } : Room).slots) := by
  refine W.bodyOfH (y := (⟨"java/lang/String", "<init>", "([C)V"⟩ : MethodName)) (as := #[(.ref p0), (.ref p1)]) (maxL := 2) (Q := Q1_0 Z p0 p1 kc h0 n0) (Ls := #[.val (.ref p0), .val (.ref p1)]) (plainFor_of_name pn_java_lang_String) (fun m => by first | exact W.entry_of rfl | rfl | (simp [entryFrame, mkF, argsToLocals, Value.category]; done)) ?_
  intro p e s m below meth c T0 C X0 e0 hs hH hS0
  have R0 : CHr Z own_el s.vm s.heap s.vm h0 := by rw [hs]; exact CHr.refl hH
  have hk0 : 0 ≤ h0.size := Nat.zero_le _
  have N0 := Fr.nil n0
  have K0 := Keep.refl h0 [p0]
  have ne01 : p0 ≠ p1 := E0.neArv Vc (W.ww hw 2 rfl)
  refine W.aloadN (q := 1) X0 C d1_0 rfl rfl rfl ?_
  refine W.aloadN (q := 2) X0 C d1_1 rfl rfl rfl ?_
  refine W.iconst (q := 3) (v := 0) X0 C d1_2 rfl rfl ?_
  refine W.aloadN (q := 4) X0 C d1_3 rfl rfl rfl ?_
  refine W.arraylength (q := 5) X0 C e0 Vc d1_4 rfl ?_
  refine W.aconst (q := 6) X0 C d1_5 rfl ?_
  refine W.callIW (q := 9) (s := s) X0 C rfl (W.ww hw 7 rfl) (W.ww hw 8 rfl) (W.ww hw 3 rfl) (W.ww hw 10 rfl) (by decide) (rm2_0 l Z a0 hw [] p0 p1 h0 n0 Z0 hge E0 F0a F0b) e0 hS0 hk0 (own_EL hw) R0.1 d1_6 (a := p0) [(.ref p1), (.int (0 : Int32)), (.int (0 : Int32)), .null] [] rfl rfl pd__28_5bCIILjava_2flang_2fVoid_3b_29V rfl rfl (by decide) (Nat.le_of_ble_eq_true rfl) (by decide) (by decide) rfl (fun T774 w774 L774 X774 C hS774 hg774 hQ774 Rn774 => ?_)
  obtain ⟨rfl, NL774, K774, Yn774⟩ := hQ774
  have N774 := Fr.app N0 NL774
  have E0_776 := E0.keep K774
  have Vc_777 := Vc.keep K774 (ninS (Ne.symm ne01) nin0)
  have n0_774 : n0 ≤ T774.heap.size := Nat.le_trans Z0 K774.1
  have R_774 := R0.trans Rn774
  have hk774 := Nat.le_refl T774.heap.size
  have KK774 := K0.trans K774 (allS (Or.inl (List.mem_singleton.mpr rfl)) all0)
  show W.Go p e below _ (T774.setTop (mkF m 9 #[.val (.ref p0), .val (.ref p1)] []))
  exact W.retVH X774 C rfl d1_9 (by decide) (by decide) hS774 hk774 (own_EL hw) R_774 ⟨rfl, N774, KK774, Yn774⟩
theorem own_S.ext {Z : State} {n0 : Nat} {h0 : Heap} {cs : Int32} {fv : Value} (O : Old Z n0 h0) (S : own_S Z Z.heap cs fv) : own_S Z h0 cs fv := ⟨S.1.ext O.2, S.2.1, S.2.2.1.ext O.2, S.2.2.2.1.ext O.2, S.2.2.2.2.1.ext O.2, S.2.2.2.2.2.1.ext O.2, S.2.2.2.2.2.2⟩
theorem pd__28ZZZZI_29I : parseMethodDescriptor "(ZZZZI)I" = some ⟨[.boolean, .boolean, .boolean, .boolean, .int], some .int⟩ := by decide +kernel
theorem pd__28Ljava_2flang_2fString_3bCI_29I : parseMethodDescriptor "(Ljava/lang/String;CI)I" = some ⟨[(.object "java/lang/String"), .char, .int], some .int⟩ := by decide +kernel
set_option maxRecDepth 65536 in
set_option maxHeartbeats 40000000 in
theorem own_t_0_0 (l : Launch) (Z : State) (a0 : Array Value) (hw : ∀ d ∈ tables_1, d.before a0 Z = true) (h0 : Heap) (n0 : Nat) (p0 p1 p2 p3 p4 sp y0 y1 y2 y3 cs : Int32) (fv : Value) (ca sa : Addr) (kk cc cl : Nat) (hcc : cc ≤ 20) (hcl : cl ≤ 200) {p : Program} {e : Env} {s : State} {m : MethodId} {args : Array Value} {below : List Frame} {meth : Method} {c : Code} {T0 : State} {locs : List Loc}
    (C : W.Cx p s m meth c Z code 18 "com/example/orderwire/orderwire/hl7/EncodingPartStartPinLaw" "law" (some .boolean)) (X0 : Stand p l e room_1 s m args below meth c T0 locs cc cl) (e0 : T0.heap = h0) (N0 : Fr n0 locs) (Z0 : n0 ≤ h0.size) (hk0 : kk ≤ h0.size) (Y0 : own_txt0 Z h0 sa ) (hsp : own_r16 sp) (hy0 : own_r16 y0) (hy1 : own_r16 y1) (hy2 : own_r16 y2) (hy3 : own_r16 y3) (O0 : Old Z n0 h0) (SS : own_S Z Z.heap cs fv) :
    W.Go p e below (W.Post s (fun v h L => (v = some (.int 1) ∧ Fr n0 L) ∧ kk ≤ h.size) room_1.cells room_1.slots) (T0.setTop (mkF m 207 #[.val (.int p0), .val (.int p1), .val (.int p2), .val (.int p3), .val (.int p4), .val (.int sp), .val (.int y0), .val (.int y1), .val (.int y2), .val (.int y3), .val (.int (0 : Int32)), .val (.ref ca), .val (.ref sa), .unset, .unset, .unset, .unset, .unset] [])) := by
  refine W.iload (q := 209) X0 C at_207 rfl rfl ?_
  refine W.ifT (q := 223) X0 C at_209 (by decide) (by decide) (by decide : W.cT .le (0 : Int32) 0) ?_
  refine W.iconst (q := 224) (v := 0) X0 C at_223 rfl rfl ?_
  refine W.istore (q := 226) (L' := #[.val (.int p0), .val (.int p1), .val (.int p2), .val (.int p3), .val (.int p4), .val (.int sp), .val (.int y0), .val (.int y1), .val (.int y2), .val (.int y3), .val (.int (0 : Int32)), .val (.ref ca), .val (.ref sa), .val (.int (0 : Int32)), .unset, .unset, .unset, .unset]) X0 C at_224 rfl rfl ?_
  refine W.iload (q := 228) X0 C at_226 rfl rfl ?_
  refine W.iconst (q := 229) (v := 1) X0 C at_228 rfl rfl ?_
  refine W.icmpT (q := 243) X0 C at_229 (by decide) (by decide) (by decide : W.cT .le (0 : Int32) (1 : Int32)) ?_
  refine W.iconst (q := 244) (v := 0) X0 C at_243 rfl rfl ?_
  refine W.istore (q := 246) (L' := #[.val (.int p0), .val (.int p1), .val (.int p2), .val (.int p3), .val (.int p4), .val (.int sp), .val (.int y0), .val (.int y1), .val (.int y2), .val (.int y3), .val (.int (0 : Int32)), .val (.ref ca), .val (.ref sa), .val (.int (0 : Int32)), .val (.int (0 : Int32)), .unset, .unset, .unset]) X0 C at_244 rfl rfl ?_
  refine W.iload (q := 248) X0 C at_246 rfl rfl ?_
  refine W.iconst (q := 249) (v := 2) X0 C at_248 rfl rfl ?_
  refine W.icmpT (q := 263) X0 C at_249 (by decide) (by decide) (by decide : W.cT .le (0 : Int32) (2 : Int32)) ?_
  refine W.iconst (q := 264) (v := 0) X0 C at_263 rfl rfl ?_
  refine W.istore (q := 266) (L' := #[.val (.int p0), .val (.int p1), .val (.int p2), .val (.int p3), .val (.int p4), .val (.int sp), .val (.int y0), .val (.int y1), .val (.int y2), .val (.int y3), .val (.int (0 : Int32)), .val (.ref ca), .val (.ref sa), .val (.int (0 : Int32)), .val (.int (0 : Int32)), .val (.int (0 : Int32)), .unset, .unset]) X0 C at_264 rfl rfl ?_
  refine W.iload (q := 268) X0 C at_266 rfl rfl ?_
  refine W.iconst (q := 269) (v := 3) X0 C at_268 rfl rfl ?_
  refine W.icmpT (q := 283) X0 C at_269 (by decide) (by decide) (by decide : W.cT .le (0 : Int32) (3 : Int32)) ?_
  refine W.iconst (q := 284) (v := 0) X0 C at_283 rfl rfl ?_
  refine W.istore (q := 286) (L' := #[.val (.int p0), .val (.int p1), .val (.int p2), .val (.int p3), .val (.int p4), .val (.int sp), .val (.int y0), .val (.int y1), .val (.int y2), .val (.int y3), .val (.int (0 : Int32)), .val (.ref ca), .val (.ref sa), .val (.int (0 : Int32)), .val (.int (0 : Int32)), .val (.int (0 : Int32)), .val (.int (0 : Int32)), .unset]) X0 C at_284 rfl rfl ?_
  refine W.iload (q := 288) X0 C at_286 rfl rfl ?_
  refine W.iload (q := 290) X0 C at_288 rfl rfl ?_
  refine W.iload (q := 292) X0 C at_290 rfl rfl ?_
  refine W.iload (q := 294) X0 C at_292 rfl rfl ?_
  refine W.iloadN (q := 295) X0 C at_294 rfl rfl ?_
  refine W.callS (q := 298) X0 C (W.ww hw 22 rfl) (W.ww hw 23 rfl) (W.ww hw 24 rfl) (W.ww hw 25 rfl) (by decide) (rm4 l Z a0 hw [] (0 : Int32) (0 : Int32) (0 : Int32) (0 : Int32) p3 h0 n0) e0 at_295 [(.int (0 : Int32)), (.int (0 : Int32)), (.int (0 : Int32)), (.int (0 : Int32)), (.int p3)] [] rfl rfl pd__28ZZZZI_29I rfl rfl (by decide) (Nat.le_of_ble_eq_true rfl) (by first | omega | (simp only [room_1]; omega) | (dsimp only; omega)) (by first | omega | (simp only [room_1]; omega) | (dsimp only; omega)) rfl (fun T778 w778 L778 X778 hQ778 => ?_)
  obtain ⟨rfl, NL778, e778⟩ := hQ778
  have N778 := Fr.app N0 NL778
  show W.Go p e below _ (T778.setTop (mkF m 298 #[.val (.int p0), .val (.int p1), .val (.int p2), .val (.int p3), .val (.int p4), .val (.int sp), .val (.int y0), .val (.int y1), .val (.int y2), .val (.int y3), .val (.int (0 : Int32)), .val (.ref ca), .val (.ref sa), .val (.int (0 : Int32)), .val (.int (0 : Int32)), .val (.int (0 : Int32)), .val (.int (0 : Int32)), .unset] [(.int (own_r0 p3 (0 : Int32) (0 : Int32) (0 : Int32) (0 : Int32)))]))
  refine W.istore (q := 300) (L' := #[.val (.int p0), .val (.int p1), .val (.int p2), .val (.int p3), .val (.int p4), .val (.int sp), .val (.int y0), .val (.int y1), .val (.int y2), .val (.int y3), .val (.int (0 : Int32)), .val (.ref ca), .val (.ref sa), .val (.int (0 : Int32)), .val (.int (0 : Int32)), .val (.int (0 : Int32)), .val (.int (0 : Int32)), .val (.int (own_r0 p3 (0 : Int32) (0 : Int32) (0 : Int32) (0 : Int32)))]) X778 C at_298 rfl rfl ?_
  refine W.aload (q := 302) X778 C at_300 rfl rfl rfl ?_
  refine W.iload (q := 304) X778 C at_302 rfl rfl ?_
  refine W.iloadN (q := 305) X778 C at_304 rfl rfl ?_
  refine W.callS (q := 308) X778 C (W.ww hw 26 rfl) (W.ww hw 27 rfl) (W.ww hw 28 rfl) (W.ww hw 29 rfl) (by decide) (rm5_0 l Z a0 hw [] sa  sp p3 cs fv h0 n0 Y0 hsp  (own_S.ext O0 SS)) e778 at_305 [(.ref sa), (.int sp), (.int p3)] [] rfl rfl pd__28Ljava_2flang_2fString_3bCI_29I rfl rfl (by decide) (Nat.le_of_ble_eq_true rfl) (by first | omega | (simp only [room_1]; omega) | (dsimp only; omega)) (by first | omega | (simp only [room_1]; omega) | (dsimp only; omega)) rfl (fun T779 w779 L779 X779 hQ779 => ?_)
  obtain ⟨rfl, NL779, e779⟩ := hQ779
  have N779 := Fr.app N778 NL779
  rw [show own_rs [] (0 : Int32) 1 p3 = (own_r0 p3 (0 : Int32) (0 : Int32) (0 : Int32) (0 : Int32)) from own_law0 p3 ]
  show W.Go p e below _ (T779.setTop (mkF m 308 #[.val (.int p0), .val (.int p1), .val (.int p2), .val (.int p3), .val (.int p4), .val (.int sp), .val (.int y0), .val (.int y1), .val (.int y2), .val (.int y3), .val (.int (0 : Int32)), .val (.ref ca), .val (.ref sa), .val (.int (0 : Int32)), .val (.int (0 : Int32)), .val (.int (0 : Int32)), .val (.int (0 : Int32)), .val (.int (own_r0 p3 (0 : Int32) (0 : Int32) (0 : Int32) (0 : Int32)))] [(.int (own_r0 p3 (0 : Int32) (0 : Int32) (0 : Int32) (0 : Int32)))]))
  refine W.iload (q := 310) X779 C at_308 rfl rfl ?_
  refine W.icmpF (q := 313) X779 C at_310 rfl rfl ?_
  refine W.iconst (q := 314) (v := 1) X779 C at_313 rfl rfl ?_
  refine W.goto (q := 318) X779 C at_314 (by decide) (by decide) ?_
  exact W.retN X779 C (by simp) e779 at_318 rfl (by first | omega | (simp only [room_1]; omega) | (dsimp only; omega)) (by first | omega | (simp only [room_1]; omega) | (dsimp only; omega)) ⟨⟨rfl, N779⟩, hk0⟩
theorem pd__28_5bC_29V : parseMethodDescriptor "([C)V" = some ⟨[(.array .char)], none⟩ := by decide +kernel
set_option maxRecDepth 65536 in
set_option maxHeartbeats 40000000 in
theorem own_q0 (l : Launch) (Z : State) (a0 : Array Value) (hw : ∀ d ∈ tables_1, d.before a0 Z = true) (h0 : Heap) (n0 : Nat) (p0 p1 p2 p3 p4 sp y0 y1 y2 y3 cs : Int32) (fv : Value) (vm0 : Vm) (kk : Nat) {p : Program} {e : Env} {s : State} {m : MethodId} {args : Array Value} {below : List Frame} {meth : Method} {c : Code} {T0 : State} {locs : List Loc}
    (C : W.Cx p (s.setVm vm0) m meth c Z code 18 "com/example/orderwire/orderwire/hl7/EncodingPartStartPinLaw" "law" (some .boolean)) (X0 : Stand p l e room_1 (s.setVm vm0) m args below meth c T0 locs 0 0) (e0 : T0.heap = h0) (N0 : Fr n0 locs) (Z0 : n0 ≤ h0.size) (hS0 : s.Since vm0 kk) (hk0 : kk ≤ h0.size) (H0 : CHv Z own_el vm0 h0) (hsp : own_r16 sp) (hy0 : own_r16 y0) (hy1 : own_r16 y1) (hy2 : own_r16 y2) (hy3 : own_r16 y3) (O0 : Old Z n0 h0) (SS : own_S Z Z.heap cs fv) :
    W.Go p e below (W.PostW s (fun v h L => v = some (.int 1) ∧ Fr n0 L) room_1.cells room_1.slots) (T0.setTop (mkF m 86 #[.val (.int p0), .val (.int p1), .val (.int p2), .val (.int p3), .val (.int p4), .val (.int sp), .val (.int y0), .val (.int y1), .val (.int y2), .val (.int y3), .val (.int (0 : Int32)), .unset, .unset, .unset, .unset, .unset, .unset, .unset] [])) := by
  have R0 := CHr.refl H0
  have SS0 := SS
  obtain ⟨SC, hcs, SA, SH, SL, SF, hfv⟩ := SS0
  refine W.iload (q := 88) X0 C at_86 rfl rfl ?_
  refine W.ifF (q := 91) X0 C at_88 rfl (by decide : W.cF .ne (0 : Int32) 0) ?_
  refine W.iconst (q := 92) (v := 0) X0 C at_91 rfl rfl ?_
  refine W.newarray (q := 94) X0 C (W.ww hw 0 rfl) e0 (by decide) 0 (by decide) (by decide) at_92 (by decide) (by decide) rfl (fun T780 h780 b780 k780 X780 e780 g780 E780 V780_ => ?_)
  have ge_b780 : n0 ≤ b780 := by rw [g780]; exact Z0
  have n0_780 : n0 ≤ h780.size := Nat.le_trans Z0 E780.1
  have R_781 := R0.trans (CHr.ext E780 R0.1)
  have O0_783 := O0.ext E780
  have hk0_784 := Nat.le_trans hk0 E780.1
  have V780 : Arv Z h780 b780 k780 .char (0 : Int32) [] (.int (0 : Int32)) := V780_
  refine W.astore (q := 96) (L' := #[.val (.int p0), .val (.int p1), .val (.int p2), .val (.int p3), .val (.int p4), .val (.int sp), .val (.int y0), .val (.int y1), .val (.int y2), .val (.int y3), .val (.int (0 : Int32)), .val (.ref b780), .unset, .unset, .unset, .unset, .unset, .unset]) X780 C at_94 rfl rfl rfl ?_
  refine W.goto (q := 196) X780 C at_96 (by decide) (by decide) ?_
  refine W.newO (q := 199) X780 C (W.ww hw 1 rfl) (W.ww hw 2 rfl) (W.ww hw 3 rfl) e780 at_196 (by decide) (by decide) rfl (fun T785 h785 b785 X785 e785 g785 E785 A785 D785 => ?_)
  have ne_b780_b785 : b780 ≠ b785 := by rw [g785]; exact Nat.ne_of_lt V780.lt
  have ge_b785 : n0 ≤ b785 := by rw [g785]; exact n0_780
  have n0_785 : n0 ≤ h785.size := Nat.le_trans n0_780 E785.1
  have R_786 := R_781.trans (CHr.ext E785 R_781.1)
  have O0_788 := O0_783.ext E785
  have hk0_789 := Nat.le_trans hk0_784 E785.1
  have V780_790 := V780.ext E785
  have F_value_791 : Fld Z h785 b785 "java/lang/String" "value" "[B" .null := D785 (Or.inr (W.ww hw 16 rfl)) (ty := (.array .byte)) (by decide)
  have F_coder_792 : Fld Z h785 b785 "java/lang/String" "coder" "B" (.int (0 : Int32)) := D785 (Or.inr (W.ww hw 17 rfl)) (ty := .byte) (by decide)
  refine W.dup (q := 200) X785 C at_199 rfl rfl ?_
  refine W.aload (q := 202) X785 C at_200 rfl rfl rfl ?_
  refine W.callIW (q := 205) (s := s) X785 C rfl (W.ww hw 4 rfl) (W.ww hw 5 rfl) (W.ww hw 3 rfl) (W.ww hw 6 rfl) (by decide) (rm1_0 l Z a0 hw [] b785 b780 k780 h785 n0 n0_785 ge_b785 A785 F_value_791 F_coder_792 V780_790) e785 hS0 hk0_789 (own_EL hw) R_786.1 at_202 (a := b785) [(.ref b780)] [(.ref b785)] rfl rfl pd__28_5bC_29V rfl rfl (by decide) (Nat.le_of_ble_eq_true rfl) (by decide) (by decide) rfl (fun T793 w793 L793 X793 C hS793 hg793 hQ793 Rn793 => ?_)
  obtain ⟨rfl, NL793, K793, Yn793⟩ := hQ793
  have N793 := Fr.app N0 NL793
  have O0_795 := O0_788.keep K793 (allS ge_b785 all0)
  have V780_796 := V780_790.keep K793 (ninS ne_b780_b785 nin0)
  have A785_797 := A785.keep K793
  have n0_793 : n0 ≤ T793.heap.size := Nat.le_trans n0_785 K793.1
  have R_793 := R_786.trans Rn793
  have hk793 := Nat.le_refl T793.heap.size
  show W.Go p e below _ (T793.setTop (mkF m 205 #[.val (.int p0), .val (.int p1), .val (.int p2), .val (.int p3), .val (.int p4), .val (.int sp), .val (.int y0), .val (.int y1), .val (.int y2), .val (.int y3), .val (.int (0 : Int32)), .val (.ref b780), .unset, .unset, .unset, .unset, .unset, .unset] [(.ref b785)]))
  refine W.astore (q := 207) (L' := #[.val (.int p0), .val (.int p1), .val (.int p2), .val (.int p3), .val (.int p4), .val (.int sp), .val (.int y0), .val (.int y1), .val (.int y2), .val (.int y3), .val (.int (0 : Int32)), .val (.ref b780), .val (.ref b785), .unset, .unset, .unset, .unset, .unset]) X793 C at_205 rfl rfl rfl ?_
  refine W.postW hS793 ?_
  exact own_t_0_0 l Z a0 hw T793.heap n0 p0 p1 p2 p3 p4 sp y0 y1 y2 y3 cs fv b780 b785 _ _ _ (by first | omega | (simp only [room_1]; omega) | (dsimp only; omega)) (by first | omega | (simp only [room_1]; omega) | (dsimp only; omega)) C X793 rfl N793 n0_793 hk793 Yn793 hsp hy0 hy1 hy2 hy3 O0_795 SS
set_option maxRecDepth 65536 in
set_option maxHeartbeats 40000000 in
theorem own_t_1_1 (l : Launch) (Z : State) (a0 : Array Value) (hw : ∀ d ∈ tables_1, d.before a0 Z = true) (h0 : Heap) (n0 : Nat) (p0 p1 p2 p3 p4 sp y0 y1 y2 y3 cs : Int32) (fv : Value) (ca sa : Addr) (kk cc cl : Nat) (hcc : cc ≤ 20) (hcl : cl ≤ 200) {p : Program} {e : Env} {s : State} {m : MethodId} {args : Array Value} {below : List Frame} {meth : Method} {c : Code} {T0 : State} {locs : List Loc}
    (C : W.Cx p s m meth c Z code 18 "com/example/orderwire/orderwire/hl7/EncodingPartStartPinLaw" "law" (some .boolean)) (X0 : Stand p l e room_1 s m args below meth c T0 locs cc cl) (e0 : T0.heap = h0) (N0 : Fr n0 locs) (Z0 : n0 ≤ h0.size) (hk0 : kk ≤ h0.size) (Y0 : own_txt1 Z h0 sa y0) (hsp : own_r16 sp) (hy0 : own_r16 y0) (hy1 : own_r16 y1) (hy2 : own_r16 y2) (hy3 : own_r16 y3) (O0 : Old Z n0 h0) (SS : own_S Z Z.heap cs fv) :
    W.Go p e below (W.Post s (fun v h L => (v = some (.int 1) ∧ Fr n0 L) ∧ kk ≤ h.size) room_1.cells room_1.slots) (T0.setTop (mkF m 226 #[.val (.int p0), .val (.int p1), .val (.int p2), .val (.int p3), .val (.int p4), .val (.int sp), .val (.int y0), .val (.int y1), .val (.int y2), .val (.int y3), .val (.int (1 : Int32)), .val (.ref ca), .val (.ref sa), .val (.int (own_bi (decide (y0 = sp)))), .unset, .unset, .unset, .unset] [])) := by
  refine W.iload (q := 228) X0 C at_226 rfl rfl ?_
  refine W.iconst (q := 229) (v := 1) X0 C at_228 rfl rfl ?_
  refine W.icmpT (q := 243) X0 C at_229 (by decide) (by decide) (by decide : W.cT .le (1 : Int32) (1 : Int32)) ?_
  refine W.iconst (q := 244) (v := 0) X0 C at_243 rfl rfl ?_
  refine W.istore (q := 246) (L' := #[.val (.int p0), .val (.int p1), .val (.int p2), .val (.int p3), .val (.int p4), .val (.int sp), .val (.int y0), .val (.int y1), .val (.int y2), .val (.int y3), .val (.int (1 : Int32)), .val (.ref ca), .val (.ref sa), .val (.int (own_bi (decide (y0 = sp)))), .val (.int (0 : Int32)), .unset, .unset, .unset]) X0 C at_244 rfl rfl ?_
  refine W.iload (q := 248) X0 C at_246 rfl rfl ?_
  refine W.iconst (q := 249) (v := 2) X0 C at_248 rfl rfl ?_
  refine W.icmpT (q := 263) X0 C at_249 (by decide) (by decide) (by decide : W.cT .le (1 : Int32) (2 : Int32)) ?_
  refine W.iconst (q := 264) (v := 0) X0 C at_263 rfl rfl ?_
  refine W.istore (q := 266) (L' := #[.val (.int p0), .val (.int p1), .val (.int p2), .val (.int p3), .val (.int p4), .val (.int sp), .val (.int y0), .val (.int y1), .val (.int y2), .val (.int y3), .val (.int (1 : Int32)), .val (.ref ca), .val (.ref sa), .val (.int (own_bi (decide (y0 = sp)))), .val (.int (0 : Int32)), .val (.int (0 : Int32)), .unset, .unset]) X0 C at_264 rfl rfl ?_
  refine W.iload (q := 268) X0 C at_266 rfl rfl ?_
  refine W.iconst (q := 269) (v := 3) X0 C at_268 rfl rfl ?_
  refine W.icmpT (q := 283) X0 C at_269 (by decide) (by decide) (by decide : W.cT .le (1 : Int32) (3 : Int32)) ?_
  refine W.iconst (q := 284) (v := 0) X0 C at_283 rfl rfl ?_
  refine W.istore (q := 286) (L' := #[.val (.int p0), .val (.int p1), .val (.int p2), .val (.int p3), .val (.int p4), .val (.int sp), .val (.int y0), .val (.int y1), .val (.int y2), .val (.int y3), .val (.int (1 : Int32)), .val (.ref ca), .val (.ref sa), .val (.int (own_bi (decide (y0 = sp)))), .val (.int (0 : Int32)), .val (.int (0 : Int32)), .val (.int (0 : Int32)), .unset]) X0 C at_284 rfl rfl ?_
  refine W.iload (q := 288) X0 C at_286 rfl rfl ?_
  refine W.iload (q := 290) X0 C at_288 rfl rfl ?_
  refine W.iload (q := 292) X0 C at_290 rfl rfl ?_
  refine W.iload (q := 294) X0 C at_292 rfl rfl ?_
  refine W.iloadN (q := 295) X0 C at_294 rfl rfl ?_
  refine W.callS (q := 298) X0 C (W.ww hw 22 rfl) (W.ww hw 23 rfl) (W.ww hw 24 rfl) (W.ww hw 25 rfl) (by decide) (rm4 l Z a0 hw [] (own_bi (decide (y0 = sp))) (0 : Int32) (0 : Int32) (0 : Int32) p3 h0 n0) e0 at_295 [(.int (own_bi (decide (y0 = sp)))), (.int (0 : Int32)), (.int (0 : Int32)), (.int (0 : Int32)), (.int p3)] [] rfl rfl pd__28ZZZZI_29I rfl rfl (by decide) (Nat.le_of_ble_eq_true rfl) (by first | omega | (simp only [room_1]; omega) | (dsimp only; omega)) (by first | omega | (simp only [room_1]; omega) | (dsimp only; omega)) rfl (fun T798 w798 L798 X798 hQ798 => ?_)
  obtain ⟨rfl, NL798, e798⟩ := hQ798
  have N798 := Fr.app N0 NL798
  show W.Go p e below _ (T798.setTop (mkF m 298 #[.val (.int p0), .val (.int p1), .val (.int p2), .val (.int p3), .val (.int p4), .val (.int sp), .val (.int y0), .val (.int y1), .val (.int y2), .val (.int y3), .val (.int (1 : Int32)), .val (.ref ca), .val (.ref sa), .val (.int (own_bi (decide (y0 = sp)))), .val (.int (0 : Int32)), .val (.int (0 : Int32)), .val (.int (0 : Int32)), .unset] [(.int (own_r0 p3 (own_bi (decide (y0 = sp))) (0 : Int32) (0 : Int32) (0 : Int32)))]))
  refine W.istore (q := 300) (L' := #[.val (.int p0), .val (.int p1), .val (.int p2), .val (.int p3), .val (.int p4), .val (.int sp), .val (.int y0), .val (.int y1), .val (.int y2), .val (.int y3), .val (.int (1 : Int32)), .val (.ref ca), .val (.ref sa), .val (.int (own_bi (decide (y0 = sp)))), .val (.int (0 : Int32)), .val (.int (0 : Int32)), .val (.int (0 : Int32)), .val (.int (own_r0 p3 (own_bi (decide (y0 = sp))) (0 : Int32) (0 : Int32) (0 : Int32)))]) X798 C at_298 rfl rfl ?_
  refine W.aload (q := 302) X798 C at_300 rfl rfl rfl ?_
  refine W.iload (q := 304) X798 C at_302 rfl rfl ?_
  refine W.iloadN (q := 305) X798 C at_304 rfl rfl ?_
  refine W.callS (q := 308) X798 C (W.ww hw 26 rfl) (W.ww hw 27 rfl) (W.ww hw 28 rfl) (W.ww hw 29 rfl) (by decide) (rm5_1 l Z a0 hw [] sa y0 sp p3 cs fv h0 n0 Y0 hsp hy0 (own_S.ext O0 SS)) e798 at_305 [(.ref sa), (.int sp), (.int p3)] [] rfl rfl pd__28Ljava_2flang_2fString_3bCI_29I rfl rfl (by decide) (Nat.le_of_ble_eq_true rfl) (by first | omega | (simp only [room_1]; omega) | (dsimp only; omega)) (by first | omega | (simp only [room_1]; omega) | (dsimp only; omega)) rfl (fun T799 w799 L799 X799 hQ799 => ?_)
  obtain ⟨rfl, NL799, e799⟩ := hQ799
  have N799 := Fr.app N798 NL799
  rw [show own_rs [decide (y0 = sp)] (0 : Int32) 1 p3 = (own_r0 p3 (own_bi (decide (y0 = sp))) (0 : Int32) (0 : Int32) (0 : Int32)) from own_law1 p3 (decide (y0 = sp))]
  show W.Go p e below _ (T799.setTop (mkF m 308 #[.val (.int p0), .val (.int p1), .val (.int p2), .val (.int p3), .val (.int p4), .val (.int sp), .val (.int y0), .val (.int y1), .val (.int y2), .val (.int y3), .val (.int (1 : Int32)), .val (.ref ca), .val (.ref sa), .val (.int (own_bi (decide (y0 = sp)))), .val (.int (0 : Int32)), .val (.int (0 : Int32)), .val (.int (0 : Int32)), .val (.int (own_r0 p3 (own_bi (decide (y0 = sp))) (0 : Int32) (0 : Int32) (0 : Int32)))] [(.int (own_r0 p3 (own_bi (decide (y0 = sp))) (0 : Int32) (0 : Int32) (0 : Int32)))]))
  refine W.iload (q := 310) X799 C at_308 rfl rfl ?_
  refine W.icmpF (q := 313) X799 C at_310 rfl rfl ?_
  refine W.iconst (q := 314) (v := 1) X799 C at_313 rfl rfl ?_
  refine W.goto (q := 318) X799 C at_314 (by decide) (by decide) ?_
  exact W.retN X799 C (by simp) e799 at_318 rfl (by first | omega | (simp only [room_1]; omega) | (dsimp only; omega)) (by first | omega | (simp only [room_1]; omega) | (dsimp only; omega)) ⟨⟨rfl, N799⟩, hk0⟩
set_option maxRecDepth 65536 in
set_option maxHeartbeats 40000000 in
theorem own_t_1_0 (l : Launch) (Z : State) (a0 : Array Value) (hw : ∀ d ∈ tables_1, d.before a0 Z = true) (h0 : Heap) (n0 : Nat) (p0 p1 p2 p3 p4 sp y0 y1 y2 y3 cs : Int32) (fv : Value) (ca sa : Addr) (kk cc cl : Nat) (hcc : cc ≤ 20) (hcl : cl ≤ 200) {p : Program} {e : Env} {s : State} {m : MethodId} {args : Array Value} {below : List Frame} {meth : Method} {c : Code} {T0 : State} {locs : List Loc}
    (C : W.Cx p s m meth c Z code 18 "com/example/orderwire/orderwire/hl7/EncodingPartStartPinLaw" "law" (some .boolean)) (X0 : Stand p l e room_1 s m args below meth c T0 locs cc cl) (e0 : T0.heap = h0) (N0 : Fr n0 locs) (Z0 : n0 ≤ h0.size) (hk0 : kk ≤ h0.size) (Y0 : own_txt1 Z h0 sa y0) (hsp : own_r16 sp) (hy0 : own_r16 y0) (hy1 : own_r16 y1) (hy2 : own_r16 y2) (hy3 : own_r16 y3) (O0 : Old Z n0 h0) (SS : own_S Z Z.heap cs fv) :
    W.Go p e below (W.Post s (fun v h L => (v = some (.int 1) ∧ Fr n0 L) ∧ kk ≤ h.size) room_1.cells room_1.slots) (T0.setTop (mkF m 207 #[.val (.int p0), .val (.int p1), .val (.int p2), .val (.int p3), .val (.int p4), .val (.int sp), .val (.int y0), .val (.int y1), .val (.int y2), .val (.int y3), .val (.int (1 : Int32)), .val (.ref ca), .val (.ref sa), .unset, .unset, .unset, .unset, .unset] [])) := by
  refine W.iload (q := 209) X0 C at_207 rfl rfl ?_
  refine W.ifF (q := 212) X0 C at_209 rfl (by decide : W.cF .le (1 : Int32) 0) ?_
  refine W.iload (q := 214) X0 C at_212 rfl rfl ?_
  refine W.iload (q := 216) X0 C at_214 rfl rfl ?_
  refine W.icmp (q := 223) (q' := 219) X0 C at_216 (by decide) (by decide) rfl (fun hc800 => ?_) (fun hc800 => ?_)
  · replace hc800 : y0 ≠ sp := hc800
    refine W.iconst (q := 224) (v := 0) X0 C at_223 rfl rfl ?_
    refine W.istore (q := 226) (L' := #[.val (.int p0), .val (.int p1), .val (.int p2), .val (.int p3), .val (.int p4), .val (.int sp), .val (.int y0), .val (.int y1), .val (.int y2), .val (.int y3), .val (.int (1 : Int32)), .val (.ref ca), .val (.ref sa), .val (.int (0 : Int32)), .unset, .unset, .unset, .unset]) X0 C at_224 rfl rfl ?_
    have q := own_t_1_1 l Z a0 hw h0 n0 p0 p1 p2 p3 p4 sp y0 y1 y2 y3 cs fv ca sa kk cc cl hcc hcl C X0 e0 N0 Z0 hk0 Y0 hsp hy0 hy1 hy2 hy3 O0 SS
    rw [show (own_bi (decide (y0 = sp))) = (0 : Int32) from (own_bi0 hc800).symm] at q
    exact q
  · replace hc800 : y0 = sp := hc800
    refine W.iconst (q := 220) (v := 1) X0 C at_219 rfl rfl ?_
    refine W.goto (q := 224) X0 C at_220 (by decide) (by decide) ?_
    refine W.istore (q := 226) (L' := #[.val (.int p0), .val (.int p1), .val (.int p2), .val (.int p3), .val (.int p4), .val (.int sp), .val (.int y0), .val (.int y1), .val (.int y2), .val (.int y3), .val (.int (1 : Int32)), .val (.ref ca), .val (.ref sa), .val (.int (1 : Int32)), .unset, .unset, .unset, .unset]) X0 C at_224 rfl rfl ?_
    have q := own_t_1_1 l Z a0 hw h0 n0 p0 p1 p2 p3 p4 sp y0 y1 y2 y3 cs fv ca sa kk cc cl hcc hcl C X0 e0 N0 Z0 hk0 Y0 hsp hy0 hy1 hy2 hy3 O0 SS
    rw [show (own_bi (decide (y0 = sp))) = (1 : Int32) from (own_bi1 hc800).symm] at q
    exact q
set_option maxRecDepth 65536 in
set_option maxHeartbeats 40000000 in
theorem own_q1 (l : Launch) (Z : State) (a0 : Array Value) (hw : ∀ d ∈ tables_1, d.before a0 Z = true) (h0 : Heap) (n0 : Nat) (p0 p1 p2 p3 p4 sp y0 y1 y2 y3 cs : Int32) (fv : Value) (vm0 : Vm) (kk : Nat) {p : Program} {e : Env} {s : State} {m : MethodId} {args : Array Value} {below : List Frame} {meth : Method} {c : Code} {T0 : State} {locs : List Loc}
    (C : W.Cx p (s.setVm vm0) m meth c Z code 18 "com/example/orderwire/orderwire/hl7/EncodingPartStartPinLaw" "law" (some .boolean)) (X0 : Stand p l e room_1 (s.setVm vm0) m args below meth c T0 locs 0 0) (e0 : T0.heap = h0) (N0 : Fr n0 locs) (Z0 : n0 ≤ h0.size) (hS0 : s.Since vm0 kk) (hk0 : kk ≤ h0.size) (H0 : CHv Z own_el vm0 h0) (hsp : own_r16 sp) (hy0 : own_r16 y0) (hy1 : own_r16 y1) (hy2 : own_r16 y2) (hy3 : own_r16 y3) (O0 : Old Z n0 h0) (SS : own_S Z Z.heap cs fv) :
    W.Go p e below (W.PostW s (fun v h L => v = some (.int 1) ∧ Fr n0 L) room_1.cells room_1.slots) (T0.setTop (mkF m 86 #[.val (.int p0), .val (.int p1), .val (.int p2), .val (.int p3), .val (.int p4), .val (.int sp), .val (.int y0), .val (.int y1), .val (.int y2), .val (.int y3), .val (.int (1 : Int32)), .unset, .unset, .unset, .unset, .unset, .unset, .unset] [])) := by
  refine W.postW hS0 ?_
  have SS0 := SS
  obtain ⟨SC, hcs, SA, SH, SL, SF, hfv⟩ := SS0
  refine W.iload (q := 88) X0 C at_86 rfl rfl ?_
  refine W.ifT (q := 99) X0 C at_88 (by decide) (by decide) (by decide : W.cT .ne (1 : Int32) 0) ?_
  refine W.iload (q := 101) X0 C at_99 rfl rfl ?_
  refine W.iconst (q := 102) (v := 1) X0 C at_101 rfl rfl ?_
  refine W.icmpF (q := 105) X0 C at_102 rfl (by decide : W.cF .ne (1 : Int32) (1 : Int32)) ?_
  refine W.iconst (q := 106) (v := 1) X0 C at_105 rfl rfl ?_
  refine W.newarray (q := 108) X0 C (W.ww hw 0 rfl) e0 (by decide) 1 (by decide) (by decide) at_106 (by decide) (by decide) rfl (fun T801 h801 b801 k801 X801 e801 g801 E801 V801_ => ?_)
  have ge_b801 : n0 ≤ b801 := by rw [g801]; exact Z0
  have n0_801 : n0 ≤ h801.size := Nat.le_trans Z0 E801.1
  have O0_803 := O0.ext E801
  have hk0_804 := Nat.le_trans hk0 E801.1
  have V801 : Arv Z h801 b801 k801 .char (1 : Int32) [(.int (0 : Int32))] (.int (0 : Int32)) := V801_
  refine W.dup (q := 109) X801 C at_108 rfl rfl ?_
  refine W.iconst (q := 110) (v := 0) X801 C at_109 rfl rfl ?_
  refine W.iload (q := 112) X801 C at_110 rfl rfl ?_
  refine W.castore (q := 113) X801 C e801 V801  (by decide) (by decide) (Nat.le_of_ble_eq_true rfl) at_112 rfl (fun T805 h805 X805 e805 W805 V805_ => ?_)
  rw [own_narc hy0] at V805_
  have O0_807 := O0_803.wr W805 ge_b801
  have hk0_808 := Nat.le_trans hk0_804 (Nat.le_of_eq W805.size.symm)
  have V805 : Arv Z h805 b801 k801 .char (1 : Int32) [(.int y0)] (.int (0 : Int32)) := V805_
  have N805 := Fr.snoc X805 N0 ge_b801
  have n0_805 : n0 ≤ h805.size := by rw [W805.size]; exact n0_801
  refine W.astore (q := 115) (L' := #[.val (.int p0), .val (.int p1), .val (.int p2), .val (.int p3), .val (.int p4), .val (.int sp), .val (.int y0), .val (.int y1), .val (.int y2), .val (.int y3), .val (.int (1 : Int32)), .val (.ref b801), .unset, .unset, .unset, .unset, .unset, .unset]) X805 C at_113 rfl rfl rfl ?_
  refine W.goto (q := 196) X805 C at_115 (by decide) (by decide) ?_
  refine W.newO (q := 199) X805 C (W.ww hw 1 rfl) (W.ww hw 2 rfl) (W.ww hw 3 rfl) e805 at_196 (by decide) (by decide) rfl (fun T810 h810 b810 X810 e810 g810 E810 A810 D810 => ?_)
  have ne_b801_b810 : b801 ≠ b810 := by rw [g810]; exact Nat.ne_of_lt V805.lt
  have ge_b810 : n0 ≤ b810 := by rw [g810]; exact n0_805
  have n0_810 : n0 ≤ h810.size := Nat.le_trans n0_805 E810.1
  have O0_812 := O0_807.ext E810
  have hk0_813 := Nat.le_trans hk0_808 E810.1
  have V805_814 := V805.ext E810
  have F_value_815 : Fld Z h810 b810 "java/lang/String" "value" "[B" .null := D810 (Or.inr (W.ww hw 16 rfl)) (ty := (.array .byte)) (by decide)
  have F_coder_816 : Fld Z h810 b810 "java/lang/String" "coder" "B" (.int (0 : Int32)) := D810 (Or.inr (W.ww hw 17 rfl)) (ty := .byte) (by decide)
  refine W.dup (q := 200) X810 C at_199 rfl rfl ?_
  refine W.aload (q := 202) X810 C at_200 rfl rfl rfl ?_
  refine W.callI (q := 205) X810 C rfl (W.ww hw 4 rfl) (W.ww hw 5 rfl) (W.ww hw 3 rfl) (W.ww hw 6 rfl) (by decide) (rm1_1 l Z a0 hw [] b810 b801 k801 y0 cs h810 n0 n0_810 ge_b810 A810 F_value_815 F_coder_816 V805_814 hy0 O0_812 SC hcs SA SH SL) e810 at_202 (a := b810) [(.ref b801)] [(.ref b810)] rfl rfl pd__28_5bC_29V rfl rfl (by decide) (Nat.le_of_ble_eq_true rfl) (by decide) (by decide) rfl (fun T817 w817 L817 X817 hQ817 => ?_)
  obtain ⟨rfl, NL817, K817, Yn817⟩ := hQ817
  have N817 := Fr.app N805 NL817
  have O0_819 := O0_812.keep K817 (allS ge_b810 all0)
  have hk0_820 := Nat.le_trans hk0_813 K817.1
  have V805_821 := V805_814.keep K817 (ninS ne_b801_b810 nin0)
  have A810_822 := A810.keep K817
  have n0_817 : n0 ≤ T817.heap.size := Nat.le_trans n0_810 K817.1
  show W.Go p e below _ (T817.setTop (mkF m 205 #[.val (.int p0), .val (.int p1), .val (.int p2), .val (.int p3), .val (.int p4), .val (.int sp), .val (.int y0), .val (.int y1), .val (.int y2), .val (.int y3), .val (.int (1 : Int32)), .val (.ref b801), .unset, .unset, .unset, .unset, .unset, .unset] [(.ref b810)]))
  refine W.astore (q := 207) (L' := #[.val (.int p0), .val (.int p1), .val (.int p2), .val (.int p3), .val (.int p4), .val (.int sp), .val (.int y0), .val (.int y1), .val (.int y2), .val (.int y3), .val (.int (1 : Int32)), .val (.ref b801), .val (.ref b810), .unset, .unset, .unset, .unset, .unset]) X817 C at_205 rfl rfl rfl ?_
  exact own_t_1_0 l Z a0 hw T817.heap n0 p0 p1 p2 p3 p4 sp y0 y1 y2 y3 cs fv b801 b810 _ _ _ (by first | omega | (simp only [room_1]; omega) | (dsimp only; omega)) (by first | omega | (simp only [room_1]; omega) | (dsimp only; omega)) C X817 rfl N817 n0_817 hk0_820 Yn817 hsp hy0 hy1 hy2 hy3 O0_819 SS
set_option maxRecDepth 65536 in
set_option maxHeartbeats 40000000 in
theorem own_t_2_2 (l : Launch) (Z : State) (a0 : Array Value) (hw : ∀ d ∈ tables_1, d.before a0 Z = true) (h0 : Heap) (n0 : Nat) (p0 p1 p2 p3 p4 sp y0 y1 y2 y3 cs : Int32) (fv : Value) (ca sa : Addr) (kk cc cl : Nat) (hcc : cc ≤ 20) (hcl : cl ≤ 200) {p : Program} {e : Env} {s : State} {m : MethodId} {args : Array Value} {below : List Frame} {meth : Method} {c : Code} {T0 : State} {locs : List Loc}
    (C : W.Cx p s m meth c Z code 18 "com/example/orderwire/orderwire/hl7/EncodingPartStartPinLaw" "law" (some .boolean)) (X0 : Stand p l e room_1 s m args below meth c T0 locs cc cl) (e0 : T0.heap = h0) (N0 : Fr n0 locs) (Z0 : n0 ≤ h0.size) (hk0 : kk ≤ h0.size) (Y0 : own_txt2 Z h0 sa y0 y1) (hsp : own_r16 sp) (hy0 : own_r16 y0) (hy1 : own_r16 y1) (hy2 : own_r16 y2) (hy3 : own_r16 y3) (O0 : Old Z n0 h0) (SS : own_S Z Z.heap cs fv) :
    W.Go p e below (W.Post s (fun v h L => (v = some (.int 1) ∧ Fr n0 L) ∧ kk ≤ h.size) room_1.cells room_1.slots) (T0.setTop (mkF m 246 #[.val (.int p0), .val (.int p1), .val (.int p2), .val (.int p3), .val (.int p4), .val (.int sp), .val (.int y0), .val (.int y1), .val (.int y2), .val (.int y3), .val (.int (2 : Int32)), .val (.ref ca), .val (.ref sa), .val (.int (own_bi (decide (y0 = sp)))), .val (.int (own_bi (decide (y1 = sp)))), .unset, .unset, .unset] [])) := by
  refine W.iload (q := 248) X0 C at_246 rfl rfl ?_
  refine W.iconst (q := 249) (v := 2) X0 C at_248 rfl rfl ?_
  refine W.icmpT (q := 263) X0 C at_249 (by decide) (by decide) (by decide : W.cT .le (2 : Int32) (2 : Int32)) ?_
  refine W.iconst (q := 264) (v := 0) X0 C at_263 rfl rfl ?_
  refine W.istore (q := 266) (L' := #[.val (.int p0), .val (.int p1), .val (.int p2), .val (.int p3), .val (.int p4), .val (.int sp), .val (.int y0), .val (.int y1), .val (.int y2), .val (.int y3), .val (.int (2 : Int32)), .val (.ref ca), .val (.ref sa), .val (.int (own_bi (decide (y0 = sp)))), .val (.int (own_bi (decide (y1 = sp)))), .val (.int (0 : Int32)), .unset, .unset]) X0 C at_264 rfl rfl ?_
  refine W.iload (q := 268) X0 C at_266 rfl rfl ?_
  refine W.iconst (q := 269) (v := 3) X0 C at_268 rfl rfl ?_
  refine W.icmpT (q := 283) X0 C at_269 (by decide) (by decide) (by decide : W.cT .le (2 : Int32) (3 : Int32)) ?_
  refine W.iconst (q := 284) (v := 0) X0 C at_283 rfl rfl ?_
  refine W.istore (q := 286) (L' := #[.val (.int p0), .val (.int p1), .val (.int p2), .val (.int p3), .val (.int p4), .val (.int sp), .val (.int y0), .val (.int y1), .val (.int y2), .val (.int y3), .val (.int (2 : Int32)), .val (.ref ca), .val (.ref sa), .val (.int (own_bi (decide (y0 = sp)))), .val (.int (own_bi (decide (y1 = sp)))), .val (.int (0 : Int32)), .val (.int (0 : Int32)), .unset]) X0 C at_284 rfl rfl ?_
  refine W.iload (q := 288) X0 C at_286 rfl rfl ?_
  refine W.iload (q := 290) X0 C at_288 rfl rfl ?_
  refine W.iload (q := 292) X0 C at_290 rfl rfl ?_
  refine W.iload (q := 294) X0 C at_292 rfl rfl ?_
  refine W.iloadN (q := 295) X0 C at_294 rfl rfl ?_
  refine W.callS (q := 298) X0 C (W.ww hw 22 rfl) (W.ww hw 23 rfl) (W.ww hw 24 rfl) (W.ww hw 25 rfl) (by decide) (rm4 l Z a0 hw [] (own_bi (decide (y0 = sp))) (own_bi (decide (y1 = sp))) (0 : Int32) (0 : Int32) p3 h0 n0) e0 at_295 [(.int (own_bi (decide (y0 = sp)))), (.int (own_bi (decide (y1 = sp)))), (.int (0 : Int32)), (.int (0 : Int32)), (.int p3)] [] rfl rfl pd__28ZZZZI_29I rfl rfl (by decide) (Nat.le_of_ble_eq_true rfl) (by first | omega | (simp only [room_1]; omega) | (dsimp only; omega)) (by first | omega | (simp only [room_1]; omega) | (dsimp only; omega)) rfl (fun T823 w823 L823 X823 hQ823 => ?_)
  obtain ⟨rfl, NL823, e823⟩ := hQ823
  have N823 := Fr.app N0 NL823
  show W.Go p e below _ (T823.setTop (mkF m 298 #[.val (.int p0), .val (.int p1), .val (.int p2), .val (.int p3), .val (.int p4), .val (.int sp), .val (.int y0), .val (.int y1), .val (.int y2), .val (.int y3), .val (.int (2 : Int32)), .val (.ref ca), .val (.ref sa), .val (.int (own_bi (decide (y0 = sp)))), .val (.int (own_bi (decide (y1 = sp)))), .val (.int (0 : Int32)), .val (.int (0 : Int32)), .unset] [(.int (own_r0 p3 (own_bi (decide (y0 = sp))) (own_bi (decide (y1 = sp))) (0 : Int32) (0 : Int32)))]))
  refine W.istore (q := 300) (L' := #[.val (.int p0), .val (.int p1), .val (.int p2), .val (.int p3), .val (.int p4), .val (.int sp), .val (.int y0), .val (.int y1), .val (.int y2), .val (.int y3), .val (.int (2 : Int32)), .val (.ref ca), .val (.ref sa), .val (.int (own_bi (decide (y0 = sp)))), .val (.int (own_bi (decide (y1 = sp)))), .val (.int (0 : Int32)), .val (.int (0 : Int32)), .val (.int (own_r0 p3 (own_bi (decide (y0 = sp))) (own_bi (decide (y1 = sp))) (0 : Int32) (0 : Int32)))]) X823 C at_298 rfl rfl ?_
  refine W.aload (q := 302) X823 C at_300 rfl rfl rfl ?_
  refine W.iload (q := 304) X823 C at_302 rfl rfl ?_
  refine W.iloadN (q := 305) X823 C at_304 rfl rfl ?_
  refine W.callS (q := 308) X823 C (W.ww hw 26 rfl) (W.ww hw 27 rfl) (W.ww hw 28 rfl) (W.ww hw 29 rfl) (by decide) (rm5_2 l Z a0 hw [] sa y0 y1 sp p3 cs fv h0 n0 Y0 hsp hy0 hy1 (own_S.ext O0 SS)) e823 at_305 [(.ref sa), (.int sp), (.int p3)] [] rfl rfl pd__28Ljava_2flang_2fString_3bCI_29I rfl rfl (by decide) (Nat.le_of_ble_eq_true rfl) (by first | omega | (simp only [room_1]; omega) | (dsimp only; omega)) (by first | omega | (simp only [room_1]; omega) | (dsimp only; omega)) rfl (fun T824 w824 L824 X824 hQ824 => ?_)
  obtain ⟨rfl, NL824, e824⟩ := hQ824
  have N824 := Fr.app N823 NL824
  rw [show own_rs [decide (y0 = sp), decide (y1 = sp)] (0 : Int32) 1 p3 = (own_r0 p3 (own_bi (decide (y0 = sp))) (own_bi (decide (y1 = sp))) (0 : Int32) (0 : Int32)) from own_law2 p3 (decide (y0 = sp)) (decide (y1 = sp))]
  show W.Go p e below _ (T824.setTop (mkF m 308 #[.val (.int p0), .val (.int p1), .val (.int p2), .val (.int p3), .val (.int p4), .val (.int sp), .val (.int y0), .val (.int y1), .val (.int y2), .val (.int y3), .val (.int (2 : Int32)), .val (.ref ca), .val (.ref sa), .val (.int (own_bi (decide (y0 = sp)))), .val (.int (own_bi (decide (y1 = sp)))), .val (.int (0 : Int32)), .val (.int (0 : Int32)), .val (.int (own_r0 p3 (own_bi (decide (y0 = sp))) (own_bi (decide (y1 = sp))) (0 : Int32) (0 : Int32)))] [(.int (own_r0 p3 (own_bi (decide (y0 = sp))) (own_bi (decide (y1 = sp))) (0 : Int32) (0 : Int32)))]))
  refine W.iload (q := 310) X824 C at_308 rfl rfl ?_
  refine W.icmpF (q := 313) X824 C at_310 rfl rfl ?_
  refine W.iconst (q := 314) (v := 1) X824 C at_313 rfl rfl ?_
  refine W.goto (q := 318) X824 C at_314 (by decide) (by decide) ?_
  exact W.retN X824 C (by simp) e824 at_318 rfl (by first | omega | (simp only [room_1]; omega) | (dsimp only; omega)) (by first | omega | (simp only [room_1]; omega) | (dsimp only; omega)) ⟨⟨rfl, N824⟩, hk0⟩
set_option maxRecDepth 65536 in
set_option maxHeartbeats 40000000 in
theorem own_t_2_1 (l : Launch) (Z : State) (a0 : Array Value) (hw : ∀ d ∈ tables_1, d.before a0 Z = true) (h0 : Heap) (n0 : Nat) (p0 p1 p2 p3 p4 sp y0 y1 y2 y3 cs : Int32) (fv : Value) (ca sa : Addr) (kk cc cl : Nat) (hcc : cc ≤ 20) (hcl : cl ≤ 200) {p : Program} {e : Env} {s : State} {m : MethodId} {args : Array Value} {below : List Frame} {meth : Method} {c : Code} {T0 : State} {locs : List Loc}
    (C : W.Cx p s m meth c Z code 18 "com/example/orderwire/orderwire/hl7/EncodingPartStartPinLaw" "law" (some .boolean)) (X0 : Stand p l e room_1 s m args below meth c T0 locs cc cl) (e0 : T0.heap = h0) (N0 : Fr n0 locs) (Z0 : n0 ≤ h0.size) (hk0 : kk ≤ h0.size) (Y0 : own_txt2 Z h0 sa y0 y1) (hsp : own_r16 sp) (hy0 : own_r16 y0) (hy1 : own_r16 y1) (hy2 : own_r16 y2) (hy3 : own_r16 y3) (O0 : Old Z n0 h0) (SS : own_S Z Z.heap cs fv) :
    W.Go p e below (W.Post s (fun v h L => (v = some (.int 1) ∧ Fr n0 L) ∧ kk ≤ h.size) room_1.cells room_1.slots) (T0.setTop (mkF m 226 #[.val (.int p0), .val (.int p1), .val (.int p2), .val (.int p3), .val (.int p4), .val (.int sp), .val (.int y0), .val (.int y1), .val (.int y2), .val (.int y3), .val (.int (2 : Int32)), .val (.ref ca), .val (.ref sa), .val (.int (own_bi (decide (y0 = sp)))), .unset, .unset, .unset, .unset] [])) := by
  refine W.iload (q := 228) X0 C at_226 rfl rfl ?_
  refine W.iconst (q := 229) (v := 1) X0 C at_228 rfl rfl ?_
  refine W.icmpF (q := 232) X0 C at_229 rfl (by decide : W.cF .le (2 : Int32) (1 : Int32)) ?_
  refine W.iload (q := 234) X0 C at_232 rfl rfl ?_
  refine W.iload (q := 236) X0 C at_234 rfl rfl ?_
  refine W.icmp (q := 243) (q' := 239) X0 C at_236 (by decide) (by decide) rfl (fun hc825 => ?_) (fun hc825 => ?_)
  · replace hc825 : y1 ≠ sp := hc825
    refine W.iconst (q := 244) (v := 0) X0 C at_243 rfl rfl ?_
    refine W.istore (q := 246) (L' := #[.val (.int p0), .val (.int p1), .val (.int p2), .val (.int p3), .val (.int p4), .val (.int sp), .val (.int y0), .val (.int y1), .val (.int y2), .val (.int y3), .val (.int (2 : Int32)), .val (.ref ca), .val (.ref sa), .val (.int (own_bi (decide (y0 = sp)))), .val (.int (0 : Int32)), .unset, .unset, .unset]) X0 C at_244 rfl rfl ?_
    have q := own_t_2_2 l Z a0 hw h0 n0 p0 p1 p2 p3 p4 sp y0 y1 y2 y3 cs fv ca sa kk cc cl hcc hcl C X0 e0 N0 Z0 hk0 Y0 hsp hy0 hy1 hy2 hy3 O0 SS
    rw [show (own_bi (decide (y1 = sp))) = (0 : Int32) from (own_bi0 hc825).symm] at q
    exact q
  · replace hc825 : y1 = sp := hc825
    refine W.iconst (q := 240) (v := 1) X0 C at_239 rfl rfl ?_
    refine W.goto (q := 244) X0 C at_240 (by decide) (by decide) ?_
    refine W.istore (q := 246) (L' := #[.val (.int p0), .val (.int p1), .val (.int p2), .val (.int p3), .val (.int p4), .val (.int sp), .val (.int y0), .val (.int y1), .val (.int y2), .val (.int y3), .val (.int (2 : Int32)), .val (.ref ca), .val (.ref sa), .val (.int (own_bi (decide (y0 = sp)))), .val (.int (1 : Int32)), .unset, .unset, .unset]) X0 C at_244 rfl rfl ?_
    have q := own_t_2_2 l Z a0 hw h0 n0 p0 p1 p2 p3 p4 sp y0 y1 y2 y3 cs fv ca sa kk cc cl hcc hcl C X0 e0 N0 Z0 hk0 Y0 hsp hy0 hy1 hy2 hy3 O0 SS
    rw [show (own_bi (decide (y1 = sp))) = (1 : Int32) from (own_bi1 hc825).symm] at q
    exact q
set_option maxRecDepth 65536 in
set_option maxHeartbeats 40000000 in
theorem own_t_2_0 (l : Launch) (Z : State) (a0 : Array Value) (hw : ∀ d ∈ tables_1, d.before a0 Z = true) (h0 : Heap) (n0 : Nat) (p0 p1 p2 p3 p4 sp y0 y1 y2 y3 cs : Int32) (fv : Value) (ca sa : Addr) (kk cc cl : Nat) (hcc : cc ≤ 20) (hcl : cl ≤ 200) {p : Program} {e : Env} {s : State} {m : MethodId} {args : Array Value} {below : List Frame} {meth : Method} {c : Code} {T0 : State} {locs : List Loc}
    (C : W.Cx p s m meth c Z code 18 "com/example/orderwire/orderwire/hl7/EncodingPartStartPinLaw" "law" (some .boolean)) (X0 : Stand p l e room_1 s m args below meth c T0 locs cc cl) (e0 : T0.heap = h0) (N0 : Fr n0 locs) (Z0 : n0 ≤ h0.size) (hk0 : kk ≤ h0.size) (Y0 : own_txt2 Z h0 sa y0 y1) (hsp : own_r16 sp) (hy0 : own_r16 y0) (hy1 : own_r16 y1) (hy2 : own_r16 y2) (hy3 : own_r16 y3) (O0 : Old Z n0 h0) (SS : own_S Z Z.heap cs fv) :
    W.Go p e below (W.Post s (fun v h L => (v = some (.int 1) ∧ Fr n0 L) ∧ kk ≤ h.size) room_1.cells room_1.slots) (T0.setTop (mkF m 207 #[.val (.int p0), .val (.int p1), .val (.int p2), .val (.int p3), .val (.int p4), .val (.int sp), .val (.int y0), .val (.int y1), .val (.int y2), .val (.int y3), .val (.int (2 : Int32)), .val (.ref ca), .val (.ref sa), .unset, .unset, .unset, .unset, .unset] [])) := by
  refine W.iload (q := 209) X0 C at_207 rfl rfl ?_
  refine W.ifF (q := 212) X0 C at_209 rfl (by decide : W.cF .le (2 : Int32) 0) ?_
  refine W.iload (q := 214) X0 C at_212 rfl rfl ?_
  refine W.iload (q := 216) X0 C at_214 rfl rfl ?_
  refine W.icmp (q := 223) (q' := 219) X0 C at_216 (by decide) (by decide) rfl (fun hc826 => ?_) (fun hc826 => ?_)
  · replace hc826 : y0 ≠ sp := hc826
    refine W.iconst (q := 224) (v := 0) X0 C at_223 rfl rfl ?_
    refine W.istore (q := 226) (L' := #[.val (.int p0), .val (.int p1), .val (.int p2), .val (.int p3), .val (.int p4), .val (.int sp), .val (.int y0), .val (.int y1), .val (.int y2), .val (.int y3), .val (.int (2 : Int32)), .val (.ref ca), .val (.ref sa), .val (.int (0 : Int32)), .unset, .unset, .unset, .unset]) X0 C at_224 rfl rfl ?_
    have q := own_t_2_1 l Z a0 hw h0 n0 p0 p1 p2 p3 p4 sp y0 y1 y2 y3 cs fv ca sa kk cc cl hcc hcl C X0 e0 N0 Z0 hk0 Y0 hsp hy0 hy1 hy2 hy3 O0 SS
    rw [show (own_bi (decide (y0 = sp))) = (0 : Int32) from (own_bi0 hc826).symm] at q
    exact q
  · replace hc826 : y0 = sp := hc826
    refine W.iconst (q := 220) (v := 1) X0 C at_219 rfl rfl ?_
    refine W.goto (q := 224) X0 C at_220 (by decide) (by decide) ?_
    refine W.istore (q := 226) (L' := #[.val (.int p0), .val (.int p1), .val (.int p2), .val (.int p3), .val (.int p4), .val (.int sp), .val (.int y0), .val (.int y1), .val (.int y2), .val (.int y3), .val (.int (2 : Int32)), .val (.ref ca), .val (.ref sa), .val (.int (1 : Int32)), .unset, .unset, .unset, .unset]) X0 C at_224 rfl rfl ?_
    have q := own_t_2_1 l Z a0 hw h0 n0 p0 p1 p2 p3 p4 sp y0 y1 y2 y3 cs fv ca sa kk cc cl hcc hcl C X0 e0 N0 Z0 hk0 Y0 hsp hy0 hy1 hy2 hy3 O0 SS
    rw [show (own_bi (decide (y0 = sp))) = (1 : Int32) from (own_bi1 hc826).symm] at q
    exact q
set_option maxRecDepth 65536 in
set_option maxHeartbeats 40000000 in
theorem own_q2 (l : Launch) (Z : State) (a0 : Array Value) (hw : ∀ d ∈ tables_1, d.before a0 Z = true) (h0 : Heap) (n0 : Nat) (p0 p1 p2 p3 p4 sp y0 y1 y2 y3 cs : Int32) (fv : Value) (vm0 : Vm) (kk : Nat) {p : Program} {e : Env} {s : State} {m : MethodId} {args : Array Value} {below : List Frame} {meth : Method} {c : Code} {T0 : State} {locs : List Loc}
    (C : W.Cx p (s.setVm vm0) m meth c Z code 18 "com/example/orderwire/orderwire/hl7/EncodingPartStartPinLaw" "law" (some .boolean)) (X0 : Stand p l e room_1 (s.setVm vm0) m args below meth c T0 locs 0 0) (e0 : T0.heap = h0) (N0 : Fr n0 locs) (Z0 : n0 ≤ h0.size) (hS0 : s.Since vm0 kk) (hk0 : kk ≤ h0.size) (H0 : CHv Z own_el vm0 h0) (hsp : own_r16 sp) (hy0 : own_r16 y0) (hy1 : own_r16 y1) (hy2 : own_r16 y2) (hy3 : own_r16 y3) (O0 : Old Z n0 h0) (SS : own_S Z Z.heap cs fv) :
    W.Go p e below (W.PostW s (fun v h L => v = some (.int 1) ∧ Fr n0 L) room_1.cells room_1.slots) (T0.setTop (mkF m 86 #[.val (.int p0), .val (.int p1), .val (.int p2), .val (.int p3), .val (.int p4), .val (.int sp), .val (.int y0), .val (.int y1), .val (.int y2), .val (.int y3), .val (.int (2 : Int32)), .unset, .unset, .unset, .unset, .unset, .unset, .unset] [])) := by
  refine W.postW hS0 ?_
  have SS0 := SS
  obtain ⟨SC, hcs, SA, SH, SL, SF, hfv⟩ := SS0
  refine W.iload (q := 88) X0 C at_86 rfl rfl ?_
  refine W.ifT (q := 99) X0 C at_88 (by decide) (by decide) (by decide : W.cT .ne (2 : Int32) 0) ?_
  refine W.iload (q := 101) X0 C at_99 rfl rfl ?_
  refine W.iconst (q := 102) (v := 1) X0 C at_101 rfl rfl ?_
  refine W.icmpT (q := 118) X0 C at_102 (by decide) (by decide) (by decide : W.cT .ne (2 : Int32) (1 : Int32)) ?_
  refine W.iload (q := 120) X0 C at_118 rfl rfl ?_
  refine W.iconst (q := 121) (v := 2) X0 C at_120 rfl rfl ?_
  refine W.icmpF (q := 124) X0 C at_121 rfl (by decide : W.cF .ne (2 : Int32) (2 : Int32)) ?_
  refine W.iconst (q := 125) (v := 2) X0 C at_124 rfl rfl ?_
  refine W.newarray (q := 127) X0 C (W.ww hw 0 rfl) e0 (by decide) 2 (by decide) (by decide) at_125 (by decide) (by decide) rfl (fun T827 h827 b827 k827 X827 e827 g827 E827 V827_ => ?_)
  have ge_b827 : n0 ≤ b827 := by rw [g827]; exact Z0
  have n0_827 : n0 ≤ h827.size := Nat.le_trans Z0 E827.1
  have O0_829 := O0.ext E827
  have hk0_830 := Nat.le_trans hk0 E827.1
  have V827 : Arv Z h827 b827 k827 .char (2 : Int32) [(.int (0 : Int32)), (.int (0 : Int32))] (.int (0 : Int32)) := V827_
  refine W.dup (q := 128) X827 C at_127 rfl rfl ?_
  refine W.iconst (q := 129) (v := 0) X827 C at_128 rfl rfl ?_
  refine W.iload (q := 131) X827 C at_129 rfl rfl ?_
  refine W.castore (q := 132) X827 C e827 V827  (by decide) (by decide) (Nat.le_of_ble_eq_true rfl) at_131 rfl (fun T831 h831 X831 e831 W831 V831_ => ?_)
  rw [own_narc hy0] at V831_
  have O0_833 := O0_829.wr W831 ge_b827
  have hk0_834 := Nat.le_trans hk0_830 (Nat.le_of_eq W831.size.symm)
  have V831 : Arv Z h831 b827 k827 .char (2 : Int32) [(.int y0), (.int (0 : Int32))] (.int (0 : Int32)) := V831_
  have N831 := Fr.snoc X831 N0 ge_b827
  have n0_831 : n0 ≤ h831.size := by rw [W831.size]; exact n0_827
  refine W.dup (q := 133) X831 C at_132 rfl rfl ?_
  refine W.iconst (q := 134) (v := 1) X831 C at_133 rfl rfl ?_
  refine W.iload (q := 136) X831 C at_134 rfl rfl ?_
  refine W.castore (q := 137) X831 C e831 V831  (by decide) (by decide) (Nat.le_of_ble_eq_true rfl) at_136 rfl (fun T836 h836 X836 e836 W836 V836_ => ?_)
  rw [own_narc hy1] at V836_
  have O0_838 := O0_833.wr W836 ge_b827
  have hk0_839 := Nat.le_trans hk0_834 (Nat.le_of_eq W836.size.symm)
  have V836 : Arv Z h836 b827 k827 .char (2 : Int32) [(.int y0), (.int y1)] (.int (0 : Int32)) := V836_
  have N836 := Fr.snoc X836 N831 ge_b827
  have n0_836 : n0 ≤ h836.size := by rw [W836.size]; exact n0_831
  refine W.astore (q := 139) (L' := #[.val (.int p0), .val (.int p1), .val (.int p2), .val (.int p3), .val (.int p4), .val (.int sp), .val (.int y0), .val (.int y1), .val (.int y2), .val (.int y3), .val (.int (2 : Int32)), .val (.ref b827), .unset, .unset, .unset, .unset, .unset, .unset]) X836 C at_137 rfl rfl rfl ?_
  refine W.goto (q := 196) X836 C at_139 (by decide) (by decide) ?_
  refine W.newO (q := 199) X836 C (W.ww hw 1 rfl) (W.ww hw 2 rfl) (W.ww hw 3 rfl) e836 at_196 (by decide) (by decide) rfl (fun T841 h841 b841 X841 e841 g841 E841 A841 D841 => ?_)
  have ne_b827_b841 : b827 ≠ b841 := by rw [g841]; exact Nat.ne_of_lt V836.lt
  have ge_b841 : n0 ≤ b841 := by rw [g841]; exact n0_836
  have n0_841 : n0 ≤ h841.size := Nat.le_trans n0_836 E841.1
  have O0_843 := O0_838.ext E841
  have hk0_844 := Nat.le_trans hk0_839 E841.1
  have V836_845 := V836.ext E841
  have F_value_846 : Fld Z h841 b841 "java/lang/String" "value" "[B" .null := D841 (Or.inr (W.ww hw 16 rfl)) (ty := (.array .byte)) (by decide)
  have F_coder_847 : Fld Z h841 b841 "java/lang/String" "coder" "B" (.int (0 : Int32)) := D841 (Or.inr (W.ww hw 17 rfl)) (ty := .byte) (by decide)
  refine W.dup (q := 200) X841 C at_199 rfl rfl ?_
  refine W.aload (q := 202) X841 C at_200 rfl rfl rfl ?_
  refine W.callI (q := 205) X841 C rfl (W.ww hw 4 rfl) (W.ww hw 5 rfl) (W.ww hw 3 rfl) (W.ww hw 6 rfl) (by decide) (rm1_2 l Z a0 hw [] b841 b827 k827 y0 y1 cs h841 n0 n0_841 ge_b841 A841 F_value_846 F_coder_847 V836_845 hy0 hy1 O0_843 SC hcs SA SH SL) e841 at_202 (a := b841) [(.ref b827)] [(.ref b841)] rfl rfl pd__28_5bC_29V rfl rfl (by decide) (Nat.le_of_ble_eq_true rfl) (by decide) (by decide) rfl (fun T848 w848 L848 X848 hQ848 => ?_)
  obtain ⟨rfl, NL848, K848, Yn848⟩ := hQ848
  have N848 := Fr.app N836 NL848
  have O0_850 := O0_843.keep K848 (allS ge_b841 all0)
  have hk0_851 := Nat.le_trans hk0_844 K848.1
  have V836_852 := V836_845.keep K848 (ninS ne_b827_b841 nin0)
  have A841_853 := A841.keep K848
  have n0_848 : n0 ≤ T848.heap.size := Nat.le_trans n0_841 K848.1
  show W.Go p e below _ (T848.setTop (mkF m 205 #[.val (.int p0), .val (.int p1), .val (.int p2), .val (.int p3), .val (.int p4), .val (.int sp), .val (.int y0), .val (.int y1), .val (.int y2), .val (.int y3), .val (.int (2 : Int32)), .val (.ref b827), .unset, .unset, .unset, .unset, .unset, .unset] [(.ref b841)]))
  refine W.astore (q := 207) (L' := #[.val (.int p0), .val (.int p1), .val (.int p2), .val (.int p3), .val (.int p4), .val (.int sp), .val (.int y0), .val (.int y1), .val (.int y2), .val (.int y3), .val (.int (2 : Int32)), .val (.ref b827), .val (.ref b841), .unset, .unset, .unset, .unset, .unset]) X848 C at_205 rfl rfl rfl ?_
  exact own_t_2_0 l Z a0 hw T848.heap n0 p0 p1 p2 p3 p4 sp y0 y1 y2 y3 cs fv b827 b841 _ _ _ (by first | omega | (simp only [room_1]; omega) | (dsimp only; omega)) (by first | omega | (simp only [room_1]; omega) | (dsimp only; omega)) C X848 rfl N848 n0_848 hk0_851 Yn848 hsp hy0 hy1 hy2 hy3 O0_850 SS
set_option maxRecDepth 65536 in
set_option maxHeartbeats 40000000 in
theorem own_t_3_3 (l : Launch) (Z : State) (a0 : Array Value) (hw : ∀ d ∈ tables_1, d.before a0 Z = true) (h0 : Heap) (n0 : Nat) (p0 p1 p2 p3 p4 sp y0 y1 y2 y3 cs : Int32) (fv : Value) (ca sa : Addr) (kk cc cl : Nat) (hcc : cc ≤ 20) (hcl : cl ≤ 200) {p : Program} {e : Env} {s : State} {m : MethodId} {args : Array Value} {below : List Frame} {meth : Method} {c : Code} {T0 : State} {locs : List Loc}
    (C : W.Cx p s m meth c Z code 18 "com/example/orderwire/orderwire/hl7/EncodingPartStartPinLaw" "law" (some .boolean)) (X0 : Stand p l e room_1 s m args below meth c T0 locs cc cl) (e0 : T0.heap = h0) (N0 : Fr n0 locs) (Z0 : n0 ≤ h0.size) (hk0 : kk ≤ h0.size) (Y0 : own_txt3 Z h0 sa y0 y1 y2) (hsp : own_r16 sp) (hy0 : own_r16 y0) (hy1 : own_r16 y1) (hy2 : own_r16 y2) (hy3 : own_r16 y3) (O0 : Old Z n0 h0) (SS : own_S Z Z.heap cs fv) :
    W.Go p e below (W.Post s (fun v h L => (v = some (.int 1) ∧ Fr n0 L) ∧ kk ≤ h.size) room_1.cells room_1.slots) (T0.setTop (mkF m 266 #[.val (.int p0), .val (.int p1), .val (.int p2), .val (.int p3), .val (.int p4), .val (.int sp), .val (.int y0), .val (.int y1), .val (.int y2), .val (.int y3), .val (.int (3 : Int32)), .val (.ref ca), .val (.ref sa), .val (.int (own_bi (decide (y0 = sp)))), .val (.int (own_bi (decide (y1 = sp)))), .val (.int (own_bi (decide (y2 = sp)))), .unset, .unset] [])) := by
  refine W.iload (q := 268) X0 C at_266 rfl rfl ?_
  refine W.iconst (q := 269) (v := 3) X0 C at_268 rfl rfl ?_
  refine W.icmpT (q := 283) X0 C at_269 (by decide) (by decide) (by decide : W.cT .le (3 : Int32) (3 : Int32)) ?_
  refine W.iconst (q := 284) (v := 0) X0 C at_283 rfl rfl ?_
  refine W.istore (q := 286) (L' := #[.val (.int p0), .val (.int p1), .val (.int p2), .val (.int p3), .val (.int p4), .val (.int sp), .val (.int y0), .val (.int y1), .val (.int y2), .val (.int y3), .val (.int (3 : Int32)), .val (.ref ca), .val (.ref sa), .val (.int (own_bi (decide (y0 = sp)))), .val (.int (own_bi (decide (y1 = sp)))), .val (.int (own_bi (decide (y2 = sp)))), .val (.int (0 : Int32)), .unset]) X0 C at_284 rfl rfl ?_
  refine W.iload (q := 288) X0 C at_286 rfl rfl ?_
  refine W.iload (q := 290) X0 C at_288 rfl rfl ?_
  refine W.iload (q := 292) X0 C at_290 rfl rfl ?_
  refine W.iload (q := 294) X0 C at_292 rfl rfl ?_
  refine W.iloadN (q := 295) X0 C at_294 rfl rfl ?_
  refine W.callS (q := 298) X0 C (W.ww hw 22 rfl) (W.ww hw 23 rfl) (W.ww hw 24 rfl) (W.ww hw 25 rfl) (by decide) (rm4 l Z a0 hw [] (own_bi (decide (y0 = sp))) (own_bi (decide (y1 = sp))) (own_bi (decide (y2 = sp))) (0 : Int32) p3 h0 n0) e0 at_295 [(.int (own_bi (decide (y0 = sp)))), (.int (own_bi (decide (y1 = sp)))), (.int (own_bi (decide (y2 = sp)))), (.int (0 : Int32)), (.int p3)] [] rfl rfl pd__28ZZZZI_29I rfl rfl (by decide) (Nat.le_of_ble_eq_true rfl) (by first | omega | (simp only [room_1]; omega) | (dsimp only; omega)) (by first | omega | (simp only [room_1]; omega) | (dsimp only; omega)) rfl (fun T854 w854 L854 X854 hQ854 => ?_)
  obtain ⟨rfl, NL854, e854⟩ := hQ854
  have N854 := Fr.app N0 NL854
  show W.Go p e below _ (T854.setTop (mkF m 298 #[.val (.int p0), .val (.int p1), .val (.int p2), .val (.int p3), .val (.int p4), .val (.int sp), .val (.int y0), .val (.int y1), .val (.int y2), .val (.int y3), .val (.int (3 : Int32)), .val (.ref ca), .val (.ref sa), .val (.int (own_bi (decide (y0 = sp)))), .val (.int (own_bi (decide (y1 = sp)))), .val (.int (own_bi (decide (y2 = sp)))), .val (.int (0 : Int32)), .unset] [(.int (own_r0 p3 (own_bi (decide (y0 = sp))) (own_bi (decide (y1 = sp))) (own_bi (decide (y2 = sp))) (0 : Int32)))]))
  refine W.istore (q := 300) (L' := #[.val (.int p0), .val (.int p1), .val (.int p2), .val (.int p3), .val (.int p4), .val (.int sp), .val (.int y0), .val (.int y1), .val (.int y2), .val (.int y3), .val (.int (3 : Int32)), .val (.ref ca), .val (.ref sa), .val (.int (own_bi (decide (y0 = sp)))), .val (.int (own_bi (decide (y1 = sp)))), .val (.int (own_bi (decide (y2 = sp)))), .val (.int (0 : Int32)), .val (.int (own_r0 p3 (own_bi (decide (y0 = sp))) (own_bi (decide (y1 = sp))) (own_bi (decide (y2 = sp))) (0 : Int32)))]) X854 C at_298 rfl rfl ?_
  refine W.aload (q := 302) X854 C at_300 rfl rfl rfl ?_
  refine W.iload (q := 304) X854 C at_302 rfl rfl ?_
  refine W.iloadN (q := 305) X854 C at_304 rfl rfl ?_
  refine W.callS (q := 308) X854 C (W.ww hw 26 rfl) (W.ww hw 27 rfl) (W.ww hw 28 rfl) (W.ww hw 29 rfl) (by decide) (rm5_3 l Z a0 hw [] sa y0 y1 y2 sp p3 cs fv h0 n0 Y0 hsp hy0 hy1 hy2 (own_S.ext O0 SS)) e854 at_305 [(.ref sa), (.int sp), (.int p3)] [] rfl rfl pd__28Ljava_2flang_2fString_3bCI_29I rfl rfl (by decide) (Nat.le_of_ble_eq_true rfl) (by first | omega | (simp only [room_1]; omega) | (dsimp only; omega)) (by first | omega | (simp only [room_1]; omega) | (dsimp only; omega)) rfl (fun T855 w855 L855 X855 hQ855 => ?_)
  obtain ⟨rfl, NL855, e855⟩ := hQ855
  have N855 := Fr.app N854 NL855
  rw [show own_rs [decide (y0 = sp), decide (y1 = sp), decide (y2 = sp)] (0 : Int32) 1 p3 = (own_r0 p3 (own_bi (decide (y0 = sp))) (own_bi (decide (y1 = sp))) (own_bi (decide (y2 = sp))) (0 : Int32)) from own_law3 p3 (decide (y0 = sp)) (decide (y1 = sp)) (decide (y2 = sp))]
  show W.Go p e below _ (T855.setTop (mkF m 308 #[.val (.int p0), .val (.int p1), .val (.int p2), .val (.int p3), .val (.int p4), .val (.int sp), .val (.int y0), .val (.int y1), .val (.int y2), .val (.int y3), .val (.int (3 : Int32)), .val (.ref ca), .val (.ref sa), .val (.int (own_bi (decide (y0 = sp)))), .val (.int (own_bi (decide (y1 = sp)))), .val (.int (own_bi (decide (y2 = sp)))), .val (.int (0 : Int32)), .val (.int (own_r0 p3 (own_bi (decide (y0 = sp))) (own_bi (decide (y1 = sp))) (own_bi (decide (y2 = sp))) (0 : Int32)))] [(.int (own_r0 p3 (own_bi (decide (y0 = sp))) (own_bi (decide (y1 = sp))) (own_bi (decide (y2 = sp))) (0 : Int32)))]))
  refine W.iload (q := 310) X855 C at_308 rfl rfl ?_
  refine W.icmpF (q := 313) X855 C at_310 rfl rfl ?_
  refine W.iconst (q := 314) (v := 1) X855 C at_313 rfl rfl ?_
  refine W.goto (q := 318) X855 C at_314 (by decide) (by decide) ?_
  exact W.retN X855 C (by simp) e855 at_318 rfl (by first | omega | (simp only [room_1]; omega) | (dsimp only; omega)) (by first | omega | (simp only [room_1]; omega) | (dsimp only; omega)) ⟨⟨rfl, N855⟩, hk0⟩
set_option maxRecDepth 65536 in
set_option maxHeartbeats 40000000 in
theorem own_t_3_2 (l : Launch) (Z : State) (a0 : Array Value) (hw : ∀ d ∈ tables_1, d.before a0 Z = true) (h0 : Heap) (n0 : Nat) (p0 p1 p2 p3 p4 sp y0 y1 y2 y3 cs : Int32) (fv : Value) (ca sa : Addr) (kk cc cl : Nat) (hcc : cc ≤ 20) (hcl : cl ≤ 200) {p : Program} {e : Env} {s : State} {m : MethodId} {args : Array Value} {below : List Frame} {meth : Method} {c : Code} {T0 : State} {locs : List Loc}
    (C : W.Cx p s m meth c Z code 18 "com/example/orderwire/orderwire/hl7/EncodingPartStartPinLaw" "law" (some .boolean)) (X0 : Stand p l e room_1 s m args below meth c T0 locs cc cl) (e0 : T0.heap = h0) (N0 : Fr n0 locs) (Z0 : n0 ≤ h0.size) (hk0 : kk ≤ h0.size) (Y0 : own_txt3 Z h0 sa y0 y1 y2) (hsp : own_r16 sp) (hy0 : own_r16 y0) (hy1 : own_r16 y1) (hy2 : own_r16 y2) (hy3 : own_r16 y3) (O0 : Old Z n0 h0) (SS : own_S Z Z.heap cs fv) :
    W.Go p e below (W.Post s (fun v h L => (v = some (.int 1) ∧ Fr n0 L) ∧ kk ≤ h.size) room_1.cells room_1.slots) (T0.setTop (mkF m 246 #[.val (.int p0), .val (.int p1), .val (.int p2), .val (.int p3), .val (.int p4), .val (.int sp), .val (.int y0), .val (.int y1), .val (.int y2), .val (.int y3), .val (.int (3 : Int32)), .val (.ref ca), .val (.ref sa), .val (.int (own_bi (decide (y0 = sp)))), .val (.int (own_bi (decide (y1 = sp)))), .unset, .unset, .unset] [])) := by
  refine W.iload (q := 248) X0 C at_246 rfl rfl ?_
  refine W.iconst (q := 249) (v := 2) X0 C at_248 rfl rfl ?_
  refine W.icmpF (q := 252) X0 C at_249 rfl (by decide : W.cF .le (3 : Int32) (2 : Int32)) ?_
  refine W.iload (q := 254) X0 C at_252 rfl rfl ?_
  refine W.iload (q := 256) X0 C at_254 rfl rfl ?_
  refine W.icmp (q := 263) (q' := 259) X0 C at_256 (by decide) (by decide) rfl (fun hc856 => ?_) (fun hc856 => ?_)
  · replace hc856 : y2 ≠ sp := hc856
    refine W.iconst (q := 264) (v := 0) X0 C at_263 rfl rfl ?_
    refine W.istore (q := 266) (L' := #[.val (.int p0), .val (.int p1), .val (.int p2), .val (.int p3), .val (.int p4), .val (.int sp), .val (.int y0), .val (.int y1), .val (.int y2), .val (.int y3), .val (.int (3 : Int32)), .val (.ref ca), .val (.ref sa), .val (.int (own_bi (decide (y0 = sp)))), .val (.int (own_bi (decide (y1 = sp)))), .val (.int (0 : Int32)), .unset, .unset]) X0 C at_264 rfl rfl ?_
    have q := own_t_3_3 l Z a0 hw h0 n0 p0 p1 p2 p3 p4 sp y0 y1 y2 y3 cs fv ca sa kk cc cl hcc hcl C X0 e0 N0 Z0 hk0 Y0 hsp hy0 hy1 hy2 hy3 O0 SS
    rw [show (own_bi (decide (y2 = sp))) = (0 : Int32) from (own_bi0 hc856).symm] at q
    exact q
  · replace hc856 : y2 = sp := hc856
    refine W.iconst (q := 260) (v := 1) X0 C at_259 rfl rfl ?_
    refine W.goto (q := 264) X0 C at_260 (by decide) (by decide) ?_
    refine W.istore (q := 266) (L' := #[.val (.int p0), .val (.int p1), .val (.int p2), .val (.int p3), .val (.int p4), .val (.int sp), .val (.int y0), .val (.int y1), .val (.int y2), .val (.int y3), .val (.int (3 : Int32)), .val (.ref ca), .val (.ref sa), .val (.int (own_bi (decide (y0 = sp)))), .val (.int (own_bi (decide (y1 = sp)))), .val (.int (1 : Int32)), .unset, .unset]) X0 C at_264 rfl rfl ?_
    have q := own_t_3_3 l Z a0 hw h0 n0 p0 p1 p2 p3 p4 sp y0 y1 y2 y3 cs fv ca sa kk cc cl hcc hcl C X0 e0 N0 Z0 hk0 Y0 hsp hy0 hy1 hy2 hy3 O0 SS
    rw [show (own_bi (decide (y2 = sp))) = (1 : Int32) from (own_bi1 hc856).symm] at q
    exact q
set_option maxRecDepth 65536 in
set_option maxHeartbeats 40000000 in
theorem own_t_3_1 (l : Launch) (Z : State) (a0 : Array Value) (hw : ∀ d ∈ tables_1, d.before a0 Z = true) (h0 : Heap) (n0 : Nat) (p0 p1 p2 p3 p4 sp y0 y1 y2 y3 cs : Int32) (fv : Value) (ca sa : Addr) (kk cc cl : Nat) (hcc : cc ≤ 20) (hcl : cl ≤ 200) {p : Program} {e : Env} {s : State} {m : MethodId} {args : Array Value} {below : List Frame} {meth : Method} {c : Code} {T0 : State} {locs : List Loc}
    (C : W.Cx p s m meth c Z code 18 "com/example/orderwire/orderwire/hl7/EncodingPartStartPinLaw" "law" (some .boolean)) (X0 : Stand p l e room_1 s m args below meth c T0 locs cc cl) (e0 : T0.heap = h0) (N0 : Fr n0 locs) (Z0 : n0 ≤ h0.size) (hk0 : kk ≤ h0.size) (Y0 : own_txt3 Z h0 sa y0 y1 y2) (hsp : own_r16 sp) (hy0 : own_r16 y0) (hy1 : own_r16 y1) (hy2 : own_r16 y2) (hy3 : own_r16 y3) (O0 : Old Z n0 h0) (SS : own_S Z Z.heap cs fv) :
    W.Go p e below (W.Post s (fun v h L => (v = some (.int 1) ∧ Fr n0 L) ∧ kk ≤ h.size) room_1.cells room_1.slots) (T0.setTop (mkF m 226 #[.val (.int p0), .val (.int p1), .val (.int p2), .val (.int p3), .val (.int p4), .val (.int sp), .val (.int y0), .val (.int y1), .val (.int y2), .val (.int y3), .val (.int (3 : Int32)), .val (.ref ca), .val (.ref sa), .val (.int (own_bi (decide (y0 = sp)))), .unset, .unset, .unset, .unset] [])) := by
  refine W.iload (q := 228) X0 C at_226 rfl rfl ?_
  refine W.iconst (q := 229) (v := 1) X0 C at_228 rfl rfl ?_
  refine W.icmpF (q := 232) X0 C at_229 rfl (by decide : W.cF .le (3 : Int32) (1 : Int32)) ?_
  refine W.iload (q := 234) X0 C at_232 rfl rfl ?_
  refine W.iload (q := 236) X0 C at_234 rfl rfl ?_
  refine W.icmp (q := 243) (q' := 239) X0 C at_236 (by decide) (by decide) rfl (fun hc857 => ?_) (fun hc857 => ?_)
  · replace hc857 : y1 ≠ sp := hc857
    refine W.iconst (q := 244) (v := 0) X0 C at_243 rfl rfl ?_
    refine W.istore (q := 246) (L' := #[.val (.int p0), .val (.int p1), .val (.int p2), .val (.int p3), .val (.int p4), .val (.int sp), .val (.int y0), .val (.int y1), .val (.int y2), .val (.int y3), .val (.int (3 : Int32)), .val (.ref ca), .val (.ref sa), .val (.int (own_bi (decide (y0 = sp)))), .val (.int (0 : Int32)), .unset, .unset, .unset]) X0 C at_244 rfl rfl ?_
    have q := own_t_3_2 l Z a0 hw h0 n0 p0 p1 p2 p3 p4 sp y0 y1 y2 y3 cs fv ca sa kk cc cl hcc hcl C X0 e0 N0 Z0 hk0 Y0 hsp hy0 hy1 hy2 hy3 O0 SS
    rw [show (own_bi (decide (y1 = sp))) = (0 : Int32) from (own_bi0 hc857).symm] at q
    exact q
  · replace hc857 : y1 = sp := hc857
    refine W.iconst (q := 240) (v := 1) X0 C at_239 rfl rfl ?_
    refine W.goto (q := 244) X0 C at_240 (by decide) (by decide) ?_
    refine W.istore (q := 246) (L' := #[.val (.int p0), .val (.int p1), .val (.int p2), .val (.int p3), .val (.int p4), .val (.int sp), .val (.int y0), .val (.int y1), .val (.int y2), .val (.int y3), .val (.int (3 : Int32)), .val (.ref ca), .val (.ref sa), .val (.int (own_bi (decide (y0 = sp)))), .val (.int (1 : Int32)), .unset, .unset, .unset]) X0 C at_244 rfl rfl ?_
    have q := own_t_3_2 l Z a0 hw h0 n0 p0 p1 p2 p3 p4 sp y0 y1 y2 y3 cs fv ca sa kk cc cl hcc hcl C X0 e0 N0 Z0 hk0 Y0 hsp hy0 hy1 hy2 hy3 O0 SS
    rw [show (own_bi (decide (y1 = sp))) = (1 : Int32) from (own_bi1 hc857).symm] at q
    exact q
set_option maxRecDepth 65536 in
set_option maxHeartbeats 40000000 in
theorem own_t_3_0 (l : Launch) (Z : State) (a0 : Array Value) (hw : ∀ d ∈ tables_1, d.before a0 Z = true) (h0 : Heap) (n0 : Nat) (p0 p1 p2 p3 p4 sp y0 y1 y2 y3 cs : Int32) (fv : Value) (ca sa : Addr) (kk cc cl : Nat) (hcc : cc ≤ 20) (hcl : cl ≤ 200) {p : Program} {e : Env} {s : State} {m : MethodId} {args : Array Value} {below : List Frame} {meth : Method} {c : Code} {T0 : State} {locs : List Loc}
    (C : W.Cx p s m meth c Z code 18 "com/example/orderwire/orderwire/hl7/EncodingPartStartPinLaw" "law" (some .boolean)) (X0 : Stand p l e room_1 s m args below meth c T0 locs cc cl) (e0 : T0.heap = h0) (N0 : Fr n0 locs) (Z0 : n0 ≤ h0.size) (hk0 : kk ≤ h0.size) (Y0 : own_txt3 Z h0 sa y0 y1 y2) (hsp : own_r16 sp) (hy0 : own_r16 y0) (hy1 : own_r16 y1) (hy2 : own_r16 y2) (hy3 : own_r16 y3) (O0 : Old Z n0 h0) (SS : own_S Z Z.heap cs fv) :
    W.Go p e below (W.Post s (fun v h L => (v = some (.int 1) ∧ Fr n0 L) ∧ kk ≤ h.size) room_1.cells room_1.slots) (T0.setTop (mkF m 207 #[.val (.int p0), .val (.int p1), .val (.int p2), .val (.int p3), .val (.int p4), .val (.int sp), .val (.int y0), .val (.int y1), .val (.int y2), .val (.int y3), .val (.int (3 : Int32)), .val (.ref ca), .val (.ref sa), .unset, .unset, .unset, .unset, .unset] [])) := by
  refine W.iload (q := 209) X0 C at_207 rfl rfl ?_
  refine W.ifF (q := 212) X0 C at_209 rfl (by decide : W.cF .le (3 : Int32) 0) ?_
  refine W.iload (q := 214) X0 C at_212 rfl rfl ?_
  refine W.iload (q := 216) X0 C at_214 rfl rfl ?_
  refine W.icmp (q := 223) (q' := 219) X0 C at_216 (by decide) (by decide) rfl (fun hc858 => ?_) (fun hc858 => ?_)
  · replace hc858 : y0 ≠ sp := hc858
    refine W.iconst (q := 224) (v := 0) X0 C at_223 rfl rfl ?_
    refine W.istore (q := 226) (L' := #[.val (.int p0), .val (.int p1), .val (.int p2), .val (.int p3), .val (.int p4), .val (.int sp), .val (.int y0), .val (.int y1), .val (.int y2), .val (.int y3), .val (.int (3 : Int32)), .val (.ref ca), .val (.ref sa), .val (.int (0 : Int32)), .unset, .unset, .unset, .unset]) X0 C at_224 rfl rfl ?_
    have q := own_t_3_1 l Z a0 hw h0 n0 p0 p1 p2 p3 p4 sp y0 y1 y2 y3 cs fv ca sa kk cc cl hcc hcl C X0 e0 N0 Z0 hk0 Y0 hsp hy0 hy1 hy2 hy3 O0 SS
    rw [show (own_bi (decide (y0 = sp))) = (0 : Int32) from (own_bi0 hc858).symm] at q
    exact q
  · replace hc858 : y0 = sp := hc858
    refine W.iconst (q := 220) (v := 1) X0 C at_219 rfl rfl ?_
    refine W.goto (q := 224) X0 C at_220 (by decide) (by decide) ?_
    refine W.istore (q := 226) (L' := #[.val (.int p0), .val (.int p1), .val (.int p2), .val (.int p3), .val (.int p4), .val (.int sp), .val (.int y0), .val (.int y1), .val (.int y2), .val (.int y3), .val (.int (3 : Int32)), .val (.ref ca), .val (.ref sa), .val (.int (1 : Int32)), .unset, .unset, .unset, .unset]) X0 C at_224 rfl rfl ?_
    have q := own_t_3_1 l Z a0 hw h0 n0 p0 p1 p2 p3 p4 sp y0 y1 y2 y3 cs fv ca sa kk cc cl hcc hcl C X0 e0 N0 Z0 hk0 Y0 hsp hy0 hy1 hy2 hy3 O0 SS
    rw [show (own_bi (decide (y0 = sp))) = (1 : Int32) from (own_bi1 hc858).symm] at q
    exact q
set_option maxRecDepth 65536 in
set_option maxHeartbeats 40000000 in
theorem own_q3 (l : Launch) (Z : State) (a0 : Array Value) (hw : ∀ d ∈ tables_1, d.before a0 Z = true) (h0 : Heap) (n0 : Nat) (p0 p1 p2 p3 p4 sp y0 y1 y2 y3 cs : Int32) (fv : Value) (vm0 : Vm) (kk : Nat) {p : Program} {e : Env} {s : State} {m : MethodId} {args : Array Value} {below : List Frame} {meth : Method} {c : Code} {T0 : State} {locs : List Loc}
    (C : W.Cx p (s.setVm vm0) m meth c Z code 18 "com/example/orderwire/orderwire/hl7/EncodingPartStartPinLaw" "law" (some .boolean)) (X0 : Stand p l e room_1 (s.setVm vm0) m args below meth c T0 locs 0 0) (e0 : T0.heap = h0) (N0 : Fr n0 locs) (Z0 : n0 ≤ h0.size) (hS0 : s.Since vm0 kk) (hk0 : kk ≤ h0.size) (H0 : CHv Z own_el vm0 h0) (hsp : own_r16 sp) (hy0 : own_r16 y0) (hy1 : own_r16 y1) (hy2 : own_r16 y2) (hy3 : own_r16 y3) (O0 : Old Z n0 h0) (SS : own_S Z Z.heap cs fv) :
    W.Go p e below (W.PostW s (fun v h L => v = some (.int 1) ∧ Fr n0 L) room_1.cells room_1.slots) (T0.setTop (mkF m 86 #[.val (.int p0), .val (.int p1), .val (.int p2), .val (.int p3), .val (.int p4), .val (.int sp), .val (.int y0), .val (.int y1), .val (.int y2), .val (.int y3), .val (.int (3 : Int32)), .unset, .unset, .unset, .unset, .unset, .unset, .unset] [])) := by
  refine W.postW hS0 ?_
  have SS0 := SS
  obtain ⟨SC, hcs, SA, SH, SL, SF, hfv⟩ := SS0
  refine W.iload (q := 88) X0 C at_86 rfl rfl ?_
  refine W.ifT (q := 99) X0 C at_88 (by decide) (by decide) (by decide : W.cT .ne (3 : Int32) 0) ?_
  refine W.iload (q := 101) X0 C at_99 rfl rfl ?_
  refine W.iconst (q := 102) (v := 1) X0 C at_101 rfl rfl ?_
  refine W.icmpT (q := 118) X0 C at_102 (by decide) (by decide) (by decide : W.cT .ne (3 : Int32) (1 : Int32)) ?_
  refine W.iload (q := 120) X0 C at_118 rfl rfl ?_
  refine W.iconst (q := 121) (v := 2) X0 C at_120 rfl rfl ?_
  refine W.icmpT (q := 142) X0 C at_121 (by decide) (by decide) (by decide : W.cT .ne (3 : Int32) (2 : Int32)) ?_
  refine W.iload (q := 144) X0 C at_142 rfl rfl ?_
  refine W.iconst (q := 145) (v := 3) X0 C at_144 rfl rfl ?_
  refine W.icmpF (q := 148) X0 C at_145 rfl (by decide : W.cF .ne (3 : Int32) (3 : Int32)) ?_
  refine W.iconst (q := 149) (v := 3) X0 C at_148 rfl rfl ?_
  refine W.newarray (q := 151) X0 C (W.ww hw 0 rfl) e0 (by decide) 3 (by decide) (by decide) at_149 (by decide) (by decide) rfl (fun T859 h859 b859 k859 X859 e859 g859 E859 V859_ => ?_)
  have ge_b859 : n0 ≤ b859 := by rw [g859]; exact Z0
  have n0_859 : n0 ≤ h859.size := Nat.le_trans Z0 E859.1
  have O0_861 := O0.ext E859
  have hk0_862 := Nat.le_trans hk0 E859.1
  have V859 : Arv Z h859 b859 k859 .char (3 : Int32) [(.int (0 : Int32)), (.int (0 : Int32)), (.int (0 : Int32))] (.int (0 : Int32)) := V859_
  refine W.dup (q := 152) X859 C at_151 rfl rfl ?_
  refine W.iconst (q := 153) (v := 0) X859 C at_152 rfl rfl ?_
  refine W.iload (q := 155) X859 C at_153 rfl rfl ?_
  refine W.castore (q := 156) X859 C e859 V859  (by decide) (by decide) (Nat.le_of_ble_eq_true rfl) at_155 rfl (fun T863 h863 X863 e863 W863 V863_ => ?_)
  rw [own_narc hy0] at V863_
  have O0_865 := O0_861.wr W863 ge_b859
  have hk0_866 := Nat.le_trans hk0_862 (Nat.le_of_eq W863.size.symm)
  have V863 : Arv Z h863 b859 k859 .char (3 : Int32) [(.int y0), (.int (0 : Int32)), (.int (0 : Int32))] (.int (0 : Int32)) := V863_
  have N863 := Fr.snoc X863 N0 ge_b859
  have n0_863 : n0 ≤ h863.size := by rw [W863.size]; exact n0_859
  refine W.dup (q := 157) X863 C at_156 rfl rfl ?_
  refine W.iconst (q := 158) (v := 1) X863 C at_157 rfl rfl ?_
  refine W.iload (q := 160) X863 C at_158 rfl rfl ?_
  refine W.castore (q := 161) X863 C e863 V863  (by decide) (by decide) (Nat.le_of_ble_eq_true rfl) at_160 rfl (fun T868 h868 X868 e868 W868 V868_ => ?_)
  rw [own_narc hy1] at V868_
  have O0_870 := O0_865.wr W868 ge_b859
  have hk0_871 := Nat.le_trans hk0_866 (Nat.le_of_eq W868.size.symm)
  have V868 : Arv Z h868 b859 k859 .char (3 : Int32) [(.int y0), (.int y1), (.int (0 : Int32))] (.int (0 : Int32)) := V868_
  have N868 := Fr.snoc X868 N863 ge_b859
  have n0_868 : n0 ≤ h868.size := by rw [W868.size]; exact n0_863
  refine W.dup (q := 162) X868 C at_161 rfl rfl ?_
  refine W.iconst (q := 163) (v := 2) X868 C at_162 rfl rfl ?_
  refine W.iload (q := 165) X868 C at_163 rfl rfl ?_
  refine W.castore (q := 166) X868 C e868 V868  (by decide) (by decide) (Nat.le_of_ble_eq_true rfl) at_165 rfl (fun T873 h873 X873 e873 W873 V873_ => ?_)
  rw [own_narc hy2] at V873_
  have O0_875 := O0_870.wr W873 ge_b859
  have hk0_876 := Nat.le_trans hk0_871 (Nat.le_of_eq W873.size.symm)
  have V873 : Arv Z h873 b859 k859 .char (3 : Int32) [(.int y0), (.int y1), (.int y2)] (.int (0 : Int32)) := V873_
  have N873 := Fr.snoc X873 N868 ge_b859
  have n0_873 : n0 ≤ h873.size := by rw [W873.size]; exact n0_868
  refine W.astore (q := 168) (L' := #[.val (.int p0), .val (.int p1), .val (.int p2), .val (.int p3), .val (.int p4), .val (.int sp), .val (.int y0), .val (.int y1), .val (.int y2), .val (.int y3), .val (.int (3 : Int32)), .val (.ref b859), .unset, .unset, .unset, .unset, .unset, .unset]) X873 C at_166 rfl rfl rfl ?_
  refine W.goto (q := 196) X873 C at_168 (by decide) (by decide) ?_
  refine W.newO (q := 199) X873 C (W.ww hw 1 rfl) (W.ww hw 2 rfl) (W.ww hw 3 rfl) e873 at_196 (by decide) (by decide) rfl (fun T878 h878 b878 X878 e878 g878 E878 A878 D878 => ?_)
  have ne_b859_b878 : b859 ≠ b878 := by rw [g878]; exact Nat.ne_of_lt V873.lt
  have ge_b878 : n0 ≤ b878 := by rw [g878]; exact n0_873
  have n0_878 : n0 ≤ h878.size := Nat.le_trans n0_873 E878.1
  have O0_880 := O0_875.ext E878
  have hk0_881 := Nat.le_trans hk0_876 E878.1
  have V873_882 := V873.ext E878
  have F_value_883 : Fld Z h878 b878 "java/lang/String" "value" "[B" .null := D878 (Or.inr (W.ww hw 16 rfl)) (ty := (.array .byte)) (by decide)
  have F_coder_884 : Fld Z h878 b878 "java/lang/String" "coder" "B" (.int (0 : Int32)) := D878 (Or.inr (W.ww hw 17 rfl)) (ty := .byte) (by decide)
  refine W.dup (q := 200) X878 C at_199 rfl rfl ?_
  refine W.aload (q := 202) X878 C at_200 rfl rfl rfl ?_
  refine W.callI (q := 205) X878 C rfl (W.ww hw 4 rfl) (W.ww hw 5 rfl) (W.ww hw 3 rfl) (W.ww hw 6 rfl) (by decide) (rm1_3 l Z a0 hw [] b878 b859 k859 y0 y1 y2 cs h878 n0 n0_878 ge_b878 A878 F_value_883 F_coder_884 V873_882 hy0 hy1 hy2 O0_880 SC hcs SA SH SL) e878 at_202 (a := b878) [(.ref b859)] [(.ref b878)] rfl rfl pd__28_5bC_29V rfl rfl (by decide) (Nat.le_of_ble_eq_true rfl) (by decide) (by decide) rfl (fun T885 w885 L885 X885 hQ885 => ?_)
  obtain ⟨rfl, NL885, K885, Yn885⟩ := hQ885
  have N885 := Fr.app N873 NL885
  have O0_887 := O0_880.keep K885 (allS ge_b878 all0)
  have hk0_888 := Nat.le_trans hk0_881 K885.1
  have V873_889 := V873_882.keep K885 (ninS ne_b859_b878 nin0)
  have A878_890 := A878.keep K885
  have n0_885 : n0 ≤ T885.heap.size := Nat.le_trans n0_878 K885.1
  show W.Go p e below _ (T885.setTop (mkF m 205 #[.val (.int p0), .val (.int p1), .val (.int p2), .val (.int p3), .val (.int p4), .val (.int sp), .val (.int y0), .val (.int y1), .val (.int y2), .val (.int y3), .val (.int (3 : Int32)), .val (.ref b859), .unset, .unset, .unset, .unset, .unset, .unset] [(.ref b878)]))
  refine W.astore (q := 207) (L' := #[.val (.int p0), .val (.int p1), .val (.int p2), .val (.int p3), .val (.int p4), .val (.int sp), .val (.int y0), .val (.int y1), .val (.int y2), .val (.int y3), .val (.int (3 : Int32)), .val (.ref b859), .val (.ref b878), .unset, .unset, .unset, .unset, .unset]) X885 C at_205 rfl rfl rfl ?_
  exact own_t_3_0 l Z a0 hw T885.heap n0 p0 p1 p2 p3 p4 sp y0 y1 y2 y3 cs fv b859 b878 _ _ _ (by first | omega | (simp only [room_1]; omega) | (dsimp only; omega)) (by first | omega | (simp only [room_1]; omega) | (dsimp only; omega)) C X885 rfl N885 n0_885 hk0_888 Yn885 hsp hy0 hy1 hy2 hy3 O0_887 SS
set_option maxRecDepth 65536 in
set_option maxHeartbeats 40000000 in
theorem own_t_4_4 (l : Launch) (Z : State) (a0 : Array Value) (hw : ∀ d ∈ tables_1, d.before a0 Z = true) (h0 : Heap) (n0 : Nat) (p0 p1 p2 p3 p4 sp y0 y1 y2 y3 cs : Int32) (fv : Value) (ca sa : Addr) (kk cc cl : Nat) (hcc : cc ≤ 20) (hcl : cl ≤ 200) {p : Program} {e : Env} {s : State} {m : MethodId} {args : Array Value} {below : List Frame} {meth : Method} {c : Code} {T0 : State} {locs : List Loc}
    (C : W.Cx p s m meth c Z code 18 "com/example/orderwire/orderwire/hl7/EncodingPartStartPinLaw" "law" (some .boolean)) (X0 : Stand p l e room_1 s m args below meth c T0 locs cc cl) (e0 : T0.heap = h0) (N0 : Fr n0 locs) (Z0 : n0 ≤ h0.size) (hk0 : kk ≤ h0.size) (Y0 : own_txt4 Z h0 sa y0 y1 y2 y3) (hsp : own_r16 sp) (hy0 : own_r16 y0) (hy1 : own_r16 y1) (hy2 : own_r16 y2) (hy3 : own_r16 y3) (O0 : Old Z n0 h0) (SS : own_S Z Z.heap cs fv) :
    W.Go p e below (W.Post s (fun v h L => (v = some (.int 1) ∧ Fr n0 L) ∧ kk ≤ h.size) room_1.cells room_1.slots) (T0.setTop (mkF m 286 #[.val (.int p0), .val (.int p1), .val (.int p2), .val (.int p3), .val (.int p4), .val (.int sp), .val (.int y0), .val (.int y1), .val (.int y2), .val (.int y3), .val (.int (4 : Int32)), .val (.ref ca), .val (.ref sa), .val (.int (own_bi (decide (y0 = sp)))), .val (.int (own_bi (decide (y1 = sp)))), .val (.int (own_bi (decide (y2 = sp)))), .val (.int (own_bi (decide (y3 = sp)))), .unset] [])) := by
  refine W.iload (q := 288) X0 C at_286 rfl rfl ?_
  refine W.iload (q := 290) X0 C at_288 rfl rfl ?_
  refine W.iload (q := 292) X0 C at_290 rfl rfl ?_
  refine W.iload (q := 294) X0 C at_292 rfl rfl ?_
  refine W.iloadN (q := 295) X0 C at_294 rfl rfl ?_
  refine W.callS (q := 298) X0 C (W.ww hw 22 rfl) (W.ww hw 23 rfl) (W.ww hw 24 rfl) (W.ww hw 25 rfl) (by decide) (rm4 l Z a0 hw [] (own_bi (decide (y0 = sp))) (own_bi (decide (y1 = sp))) (own_bi (decide (y2 = sp))) (own_bi (decide (y3 = sp))) p3 h0 n0) e0 at_295 [(.int (own_bi (decide (y0 = sp)))), (.int (own_bi (decide (y1 = sp)))), (.int (own_bi (decide (y2 = sp)))), (.int (own_bi (decide (y3 = sp)))), (.int p3)] [] rfl rfl pd__28ZZZZI_29I rfl rfl (by decide) (Nat.le_of_ble_eq_true rfl) (by first | omega | (simp only [room_1]; omega) | (dsimp only; omega)) (by first | omega | (simp only [room_1]; omega) | (dsimp only; omega)) rfl (fun T891 w891 L891 X891 hQ891 => ?_)
  obtain ⟨rfl, NL891, e891⟩ := hQ891
  have N891 := Fr.app N0 NL891
  show W.Go p e below _ (T891.setTop (mkF m 298 #[.val (.int p0), .val (.int p1), .val (.int p2), .val (.int p3), .val (.int p4), .val (.int sp), .val (.int y0), .val (.int y1), .val (.int y2), .val (.int y3), .val (.int (4 : Int32)), .val (.ref ca), .val (.ref sa), .val (.int (own_bi (decide (y0 = sp)))), .val (.int (own_bi (decide (y1 = sp)))), .val (.int (own_bi (decide (y2 = sp)))), .val (.int (own_bi (decide (y3 = sp)))), .unset] [(.int (own_r0 p3 (own_bi (decide (y0 = sp))) (own_bi (decide (y1 = sp))) (own_bi (decide (y2 = sp))) (own_bi (decide (y3 = sp)))))]))
  refine W.istore (q := 300) (L' := #[.val (.int p0), .val (.int p1), .val (.int p2), .val (.int p3), .val (.int p4), .val (.int sp), .val (.int y0), .val (.int y1), .val (.int y2), .val (.int y3), .val (.int (4 : Int32)), .val (.ref ca), .val (.ref sa), .val (.int (own_bi (decide (y0 = sp)))), .val (.int (own_bi (decide (y1 = sp)))), .val (.int (own_bi (decide (y2 = sp)))), .val (.int (own_bi (decide (y3 = sp)))), .val (.int (own_r0 p3 (own_bi (decide (y0 = sp))) (own_bi (decide (y1 = sp))) (own_bi (decide (y2 = sp))) (own_bi (decide (y3 = sp)))))]) X891 C at_298 rfl rfl ?_
  refine W.aload (q := 302) X891 C at_300 rfl rfl rfl ?_
  refine W.iload (q := 304) X891 C at_302 rfl rfl ?_
  refine W.iloadN (q := 305) X891 C at_304 rfl rfl ?_
  refine W.callS (q := 308) X891 C (W.ww hw 26 rfl) (W.ww hw 27 rfl) (W.ww hw 28 rfl) (W.ww hw 29 rfl) (by decide) (rm5_4 l Z a0 hw [] sa y0 y1 y2 y3 sp p3 cs fv h0 n0 Y0 hsp hy0 hy1 hy2 hy3 (own_S.ext O0 SS)) e891 at_305 [(.ref sa), (.int sp), (.int p3)] [] rfl rfl pd__28Ljava_2flang_2fString_3bCI_29I rfl rfl (by decide) (Nat.le_of_ble_eq_true rfl) (by first | omega | (simp only [room_1]; omega) | (dsimp only; omega)) (by first | omega | (simp only [room_1]; omega) | (dsimp only; omega)) rfl (fun T892 w892 L892 X892 hQ892 => ?_)
  obtain ⟨rfl, NL892, e892⟩ := hQ892
  have N892 := Fr.app N891 NL892
  rw [show own_rs [decide (y0 = sp), decide (y1 = sp), decide (y2 = sp), decide (y3 = sp)] (0 : Int32) 1 p3 = (own_r0 p3 (own_bi (decide (y0 = sp))) (own_bi (decide (y1 = sp))) (own_bi (decide (y2 = sp))) (own_bi (decide (y3 = sp)))) from own_law4 p3 (decide (y0 = sp)) (decide (y1 = sp)) (decide (y2 = sp)) (decide (y3 = sp))]
  show W.Go p e below _ (T892.setTop (mkF m 308 #[.val (.int p0), .val (.int p1), .val (.int p2), .val (.int p3), .val (.int p4), .val (.int sp), .val (.int y0), .val (.int y1), .val (.int y2), .val (.int y3), .val (.int (4 : Int32)), .val (.ref ca), .val (.ref sa), .val (.int (own_bi (decide (y0 = sp)))), .val (.int (own_bi (decide (y1 = sp)))), .val (.int (own_bi (decide (y2 = sp)))), .val (.int (own_bi (decide (y3 = sp)))), .val (.int (own_r0 p3 (own_bi (decide (y0 = sp))) (own_bi (decide (y1 = sp))) (own_bi (decide (y2 = sp))) (own_bi (decide (y3 = sp)))))] [(.int (own_r0 p3 (own_bi (decide (y0 = sp))) (own_bi (decide (y1 = sp))) (own_bi (decide (y2 = sp))) (own_bi (decide (y3 = sp)))))]))
  refine W.iload (q := 310) X892 C at_308 rfl rfl ?_
  refine W.icmpF (q := 313) X892 C at_310 rfl rfl ?_
  refine W.iconst (q := 314) (v := 1) X892 C at_313 rfl rfl ?_
  refine W.goto (q := 318) X892 C at_314 (by decide) (by decide) ?_
  exact W.retN X892 C (by simp) e892 at_318 rfl (by first | omega | (simp only [room_1]; omega) | (dsimp only; omega)) (by first | omega | (simp only [room_1]; omega) | (dsimp only; omega)) ⟨⟨rfl, N892⟩, hk0⟩
set_option maxRecDepth 65536 in
set_option maxHeartbeats 40000000 in
theorem own_t_4_3 (l : Launch) (Z : State) (a0 : Array Value) (hw : ∀ d ∈ tables_1, d.before a0 Z = true) (h0 : Heap) (n0 : Nat) (p0 p1 p2 p3 p4 sp y0 y1 y2 y3 cs : Int32) (fv : Value) (ca sa : Addr) (kk cc cl : Nat) (hcc : cc ≤ 20) (hcl : cl ≤ 200) {p : Program} {e : Env} {s : State} {m : MethodId} {args : Array Value} {below : List Frame} {meth : Method} {c : Code} {T0 : State} {locs : List Loc}
    (C : W.Cx p s m meth c Z code 18 "com/example/orderwire/orderwire/hl7/EncodingPartStartPinLaw" "law" (some .boolean)) (X0 : Stand p l e room_1 s m args below meth c T0 locs cc cl) (e0 : T0.heap = h0) (N0 : Fr n0 locs) (Z0 : n0 ≤ h0.size) (hk0 : kk ≤ h0.size) (Y0 : own_txt4 Z h0 sa y0 y1 y2 y3) (hsp : own_r16 sp) (hy0 : own_r16 y0) (hy1 : own_r16 y1) (hy2 : own_r16 y2) (hy3 : own_r16 y3) (O0 : Old Z n0 h0) (SS : own_S Z Z.heap cs fv) :
    W.Go p e below (W.Post s (fun v h L => (v = some (.int 1) ∧ Fr n0 L) ∧ kk ≤ h.size) room_1.cells room_1.slots) (T0.setTop (mkF m 266 #[.val (.int p0), .val (.int p1), .val (.int p2), .val (.int p3), .val (.int p4), .val (.int sp), .val (.int y0), .val (.int y1), .val (.int y2), .val (.int y3), .val (.int (4 : Int32)), .val (.ref ca), .val (.ref sa), .val (.int (own_bi (decide (y0 = sp)))), .val (.int (own_bi (decide (y1 = sp)))), .val (.int (own_bi (decide (y2 = sp)))), .unset, .unset] [])) := by
  refine W.iload (q := 268) X0 C at_266 rfl rfl ?_
  refine W.iconst (q := 269) (v := 3) X0 C at_268 rfl rfl ?_
  refine W.icmpF (q := 272) X0 C at_269 rfl (by decide : W.cF .le (4 : Int32) (3 : Int32)) ?_
  refine W.iload (q := 274) X0 C at_272 rfl rfl ?_
  refine W.iload (q := 276) X0 C at_274 rfl rfl ?_
  refine W.icmp (q := 283) (q' := 279) X0 C at_276 (by decide) (by decide) rfl (fun hc893 => ?_) (fun hc893 => ?_)
  · replace hc893 : y3 ≠ sp := hc893
    refine W.iconst (q := 284) (v := 0) X0 C at_283 rfl rfl ?_
    refine W.istore (q := 286) (L' := #[.val (.int p0), .val (.int p1), .val (.int p2), .val (.int p3), .val (.int p4), .val (.int sp), .val (.int y0), .val (.int y1), .val (.int y2), .val (.int y3), .val (.int (4 : Int32)), .val (.ref ca), .val (.ref sa), .val (.int (own_bi (decide (y0 = sp)))), .val (.int (own_bi (decide (y1 = sp)))), .val (.int (own_bi (decide (y2 = sp)))), .val (.int (0 : Int32)), .unset]) X0 C at_284 rfl rfl ?_
    have q := own_t_4_4 l Z a0 hw h0 n0 p0 p1 p2 p3 p4 sp y0 y1 y2 y3 cs fv ca sa kk cc cl hcc hcl C X0 e0 N0 Z0 hk0 Y0 hsp hy0 hy1 hy2 hy3 O0 SS
    rw [show (own_bi (decide (y3 = sp))) = (0 : Int32) from (own_bi0 hc893).symm] at q
    exact q
  · replace hc893 : y3 = sp := hc893
    refine W.iconst (q := 280) (v := 1) X0 C at_279 rfl rfl ?_
    refine W.goto (q := 284) X0 C at_280 (by decide) (by decide) ?_
    refine W.istore (q := 286) (L' := #[.val (.int p0), .val (.int p1), .val (.int p2), .val (.int p3), .val (.int p4), .val (.int sp), .val (.int y0), .val (.int y1), .val (.int y2), .val (.int y3), .val (.int (4 : Int32)), .val (.ref ca), .val (.ref sa), .val (.int (own_bi (decide (y0 = sp)))), .val (.int (own_bi (decide (y1 = sp)))), .val (.int (own_bi (decide (y2 = sp)))), .val (.int (1 : Int32)), .unset]) X0 C at_284 rfl rfl ?_
    have q := own_t_4_4 l Z a0 hw h0 n0 p0 p1 p2 p3 p4 sp y0 y1 y2 y3 cs fv ca sa kk cc cl hcc hcl C X0 e0 N0 Z0 hk0 Y0 hsp hy0 hy1 hy2 hy3 O0 SS
    rw [show (own_bi (decide (y3 = sp))) = (1 : Int32) from (own_bi1 hc893).symm] at q
    exact q
set_option maxRecDepth 65536 in
set_option maxHeartbeats 40000000 in
theorem own_t_4_2 (l : Launch) (Z : State) (a0 : Array Value) (hw : ∀ d ∈ tables_1, d.before a0 Z = true) (h0 : Heap) (n0 : Nat) (p0 p1 p2 p3 p4 sp y0 y1 y2 y3 cs : Int32) (fv : Value) (ca sa : Addr) (kk cc cl : Nat) (hcc : cc ≤ 20) (hcl : cl ≤ 200) {p : Program} {e : Env} {s : State} {m : MethodId} {args : Array Value} {below : List Frame} {meth : Method} {c : Code} {T0 : State} {locs : List Loc}
    (C : W.Cx p s m meth c Z code 18 "com/example/orderwire/orderwire/hl7/EncodingPartStartPinLaw" "law" (some .boolean)) (X0 : Stand p l e room_1 s m args below meth c T0 locs cc cl) (e0 : T0.heap = h0) (N0 : Fr n0 locs) (Z0 : n0 ≤ h0.size) (hk0 : kk ≤ h0.size) (Y0 : own_txt4 Z h0 sa y0 y1 y2 y3) (hsp : own_r16 sp) (hy0 : own_r16 y0) (hy1 : own_r16 y1) (hy2 : own_r16 y2) (hy3 : own_r16 y3) (O0 : Old Z n0 h0) (SS : own_S Z Z.heap cs fv) :
    W.Go p e below (W.Post s (fun v h L => (v = some (.int 1) ∧ Fr n0 L) ∧ kk ≤ h.size) room_1.cells room_1.slots) (T0.setTop (mkF m 246 #[.val (.int p0), .val (.int p1), .val (.int p2), .val (.int p3), .val (.int p4), .val (.int sp), .val (.int y0), .val (.int y1), .val (.int y2), .val (.int y3), .val (.int (4 : Int32)), .val (.ref ca), .val (.ref sa), .val (.int (own_bi (decide (y0 = sp)))), .val (.int (own_bi (decide (y1 = sp)))), .unset, .unset, .unset] [])) := by
  refine W.iload (q := 248) X0 C at_246 rfl rfl ?_
  refine W.iconst (q := 249) (v := 2) X0 C at_248 rfl rfl ?_
  refine W.icmpF (q := 252) X0 C at_249 rfl (by decide : W.cF .le (4 : Int32) (2 : Int32)) ?_
  refine W.iload (q := 254) X0 C at_252 rfl rfl ?_
  refine W.iload (q := 256) X0 C at_254 rfl rfl ?_
  refine W.icmp (q := 263) (q' := 259) X0 C at_256 (by decide) (by decide) rfl (fun hc894 => ?_) (fun hc894 => ?_)
  · replace hc894 : y2 ≠ sp := hc894
    refine W.iconst (q := 264) (v := 0) X0 C at_263 rfl rfl ?_
    refine W.istore (q := 266) (L' := #[.val (.int p0), .val (.int p1), .val (.int p2), .val (.int p3), .val (.int p4), .val (.int sp), .val (.int y0), .val (.int y1), .val (.int y2), .val (.int y3), .val (.int (4 : Int32)), .val (.ref ca), .val (.ref sa), .val (.int (own_bi (decide (y0 = sp)))), .val (.int (own_bi (decide (y1 = sp)))), .val (.int (0 : Int32)), .unset, .unset]) X0 C at_264 rfl rfl ?_
    have q := own_t_4_3 l Z a0 hw h0 n0 p0 p1 p2 p3 p4 sp y0 y1 y2 y3 cs fv ca sa kk cc cl hcc hcl C X0 e0 N0 Z0 hk0 Y0 hsp hy0 hy1 hy2 hy3 O0 SS
    rw [show (own_bi (decide (y2 = sp))) = (0 : Int32) from (own_bi0 hc894).symm] at q
    exact q
  · replace hc894 : y2 = sp := hc894
    refine W.iconst (q := 260) (v := 1) X0 C at_259 rfl rfl ?_
    refine W.goto (q := 264) X0 C at_260 (by decide) (by decide) ?_
    refine W.istore (q := 266) (L' := #[.val (.int p0), .val (.int p1), .val (.int p2), .val (.int p3), .val (.int p4), .val (.int sp), .val (.int y0), .val (.int y1), .val (.int y2), .val (.int y3), .val (.int (4 : Int32)), .val (.ref ca), .val (.ref sa), .val (.int (own_bi (decide (y0 = sp)))), .val (.int (own_bi (decide (y1 = sp)))), .val (.int (1 : Int32)), .unset, .unset]) X0 C at_264 rfl rfl ?_
    have q := own_t_4_3 l Z a0 hw h0 n0 p0 p1 p2 p3 p4 sp y0 y1 y2 y3 cs fv ca sa kk cc cl hcc hcl C X0 e0 N0 Z0 hk0 Y0 hsp hy0 hy1 hy2 hy3 O0 SS
    rw [show (own_bi (decide (y2 = sp))) = (1 : Int32) from (own_bi1 hc894).symm] at q
    exact q
set_option maxRecDepth 65536 in
set_option maxHeartbeats 40000000 in
theorem own_t_4_1 (l : Launch) (Z : State) (a0 : Array Value) (hw : ∀ d ∈ tables_1, d.before a0 Z = true) (h0 : Heap) (n0 : Nat) (p0 p1 p2 p3 p4 sp y0 y1 y2 y3 cs : Int32) (fv : Value) (ca sa : Addr) (kk cc cl : Nat) (hcc : cc ≤ 20) (hcl : cl ≤ 200) {p : Program} {e : Env} {s : State} {m : MethodId} {args : Array Value} {below : List Frame} {meth : Method} {c : Code} {T0 : State} {locs : List Loc}
    (C : W.Cx p s m meth c Z code 18 "com/example/orderwire/orderwire/hl7/EncodingPartStartPinLaw" "law" (some .boolean)) (X0 : Stand p l e room_1 s m args below meth c T0 locs cc cl) (e0 : T0.heap = h0) (N0 : Fr n0 locs) (Z0 : n0 ≤ h0.size) (hk0 : kk ≤ h0.size) (Y0 : own_txt4 Z h0 sa y0 y1 y2 y3) (hsp : own_r16 sp) (hy0 : own_r16 y0) (hy1 : own_r16 y1) (hy2 : own_r16 y2) (hy3 : own_r16 y3) (O0 : Old Z n0 h0) (SS : own_S Z Z.heap cs fv) :
    W.Go p e below (W.Post s (fun v h L => (v = some (.int 1) ∧ Fr n0 L) ∧ kk ≤ h.size) room_1.cells room_1.slots) (T0.setTop (mkF m 226 #[.val (.int p0), .val (.int p1), .val (.int p2), .val (.int p3), .val (.int p4), .val (.int sp), .val (.int y0), .val (.int y1), .val (.int y2), .val (.int y3), .val (.int (4 : Int32)), .val (.ref ca), .val (.ref sa), .val (.int (own_bi (decide (y0 = sp)))), .unset, .unset, .unset, .unset] [])) := by
  refine W.iload (q := 228) X0 C at_226 rfl rfl ?_
  refine W.iconst (q := 229) (v := 1) X0 C at_228 rfl rfl ?_
  refine W.icmpF (q := 232) X0 C at_229 rfl (by decide : W.cF .le (4 : Int32) (1 : Int32)) ?_
  refine W.iload (q := 234) X0 C at_232 rfl rfl ?_
  refine W.iload (q := 236) X0 C at_234 rfl rfl ?_
  refine W.icmp (q := 243) (q' := 239) X0 C at_236 (by decide) (by decide) rfl (fun hc895 => ?_) (fun hc895 => ?_)
  · replace hc895 : y1 ≠ sp := hc895
    refine W.iconst (q := 244) (v := 0) X0 C at_243 rfl rfl ?_
    refine W.istore (q := 246) (L' := #[.val (.int p0), .val (.int p1), .val (.int p2), .val (.int p3), .val (.int p4), .val (.int sp), .val (.int y0), .val (.int y1), .val (.int y2), .val (.int y3), .val (.int (4 : Int32)), .val (.ref ca), .val (.ref sa), .val (.int (own_bi (decide (y0 = sp)))), .val (.int (0 : Int32)), .unset, .unset, .unset]) X0 C at_244 rfl rfl ?_
    have q := own_t_4_2 l Z a0 hw h0 n0 p0 p1 p2 p3 p4 sp y0 y1 y2 y3 cs fv ca sa kk cc cl hcc hcl C X0 e0 N0 Z0 hk0 Y0 hsp hy0 hy1 hy2 hy3 O0 SS
    rw [show (own_bi (decide (y1 = sp))) = (0 : Int32) from (own_bi0 hc895).symm] at q
    exact q
  · replace hc895 : y1 = sp := hc895
    refine W.iconst (q := 240) (v := 1) X0 C at_239 rfl rfl ?_
    refine W.goto (q := 244) X0 C at_240 (by decide) (by decide) ?_
    refine W.istore (q := 246) (L' := #[.val (.int p0), .val (.int p1), .val (.int p2), .val (.int p3), .val (.int p4), .val (.int sp), .val (.int y0), .val (.int y1), .val (.int y2), .val (.int y3), .val (.int (4 : Int32)), .val (.ref ca), .val (.ref sa), .val (.int (own_bi (decide (y0 = sp)))), .val (.int (1 : Int32)), .unset, .unset, .unset]) X0 C at_244 rfl rfl ?_
    have q := own_t_4_2 l Z a0 hw h0 n0 p0 p1 p2 p3 p4 sp y0 y1 y2 y3 cs fv ca sa kk cc cl hcc hcl C X0 e0 N0 Z0 hk0 Y0 hsp hy0 hy1 hy2 hy3 O0 SS
    rw [show (own_bi (decide (y1 = sp))) = (1 : Int32) from (own_bi1 hc895).symm] at q
    exact q
set_option maxRecDepth 65536 in
set_option maxHeartbeats 40000000 in
theorem own_t_4_0 (l : Launch) (Z : State) (a0 : Array Value) (hw : ∀ d ∈ tables_1, d.before a0 Z = true) (h0 : Heap) (n0 : Nat) (p0 p1 p2 p3 p4 sp y0 y1 y2 y3 cs : Int32) (fv : Value) (ca sa : Addr) (kk cc cl : Nat) (hcc : cc ≤ 20) (hcl : cl ≤ 200) {p : Program} {e : Env} {s : State} {m : MethodId} {args : Array Value} {below : List Frame} {meth : Method} {c : Code} {T0 : State} {locs : List Loc}
    (C : W.Cx p s m meth c Z code 18 "com/example/orderwire/orderwire/hl7/EncodingPartStartPinLaw" "law" (some .boolean)) (X0 : Stand p l e room_1 s m args below meth c T0 locs cc cl) (e0 : T0.heap = h0) (N0 : Fr n0 locs) (Z0 : n0 ≤ h0.size) (hk0 : kk ≤ h0.size) (Y0 : own_txt4 Z h0 sa y0 y1 y2 y3) (hsp : own_r16 sp) (hy0 : own_r16 y0) (hy1 : own_r16 y1) (hy2 : own_r16 y2) (hy3 : own_r16 y3) (O0 : Old Z n0 h0) (SS : own_S Z Z.heap cs fv) :
    W.Go p e below (W.Post s (fun v h L => (v = some (.int 1) ∧ Fr n0 L) ∧ kk ≤ h.size) room_1.cells room_1.slots) (T0.setTop (mkF m 207 #[.val (.int p0), .val (.int p1), .val (.int p2), .val (.int p3), .val (.int p4), .val (.int sp), .val (.int y0), .val (.int y1), .val (.int y2), .val (.int y3), .val (.int (4 : Int32)), .val (.ref ca), .val (.ref sa), .unset, .unset, .unset, .unset, .unset] [])) := by
  refine W.iload (q := 209) X0 C at_207 rfl rfl ?_
  refine W.ifF (q := 212) X0 C at_209 rfl (by decide : W.cF .le (4 : Int32) 0) ?_
  refine W.iload (q := 214) X0 C at_212 rfl rfl ?_
  refine W.iload (q := 216) X0 C at_214 rfl rfl ?_
  refine W.icmp (q := 223) (q' := 219) X0 C at_216 (by decide) (by decide) rfl (fun hc896 => ?_) (fun hc896 => ?_)
  · replace hc896 : y0 ≠ sp := hc896
    refine W.iconst (q := 224) (v := 0) X0 C at_223 rfl rfl ?_
    refine W.istore (q := 226) (L' := #[.val (.int p0), .val (.int p1), .val (.int p2), .val (.int p3), .val (.int p4), .val (.int sp), .val (.int y0), .val (.int y1), .val (.int y2), .val (.int y3), .val (.int (4 : Int32)), .val (.ref ca), .val (.ref sa), .val (.int (0 : Int32)), .unset, .unset, .unset, .unset]) X0 C at_224 rfl rfl ?_
    have q := own_t_4_1 l Z a0 hw h0 n0 p0 p1 p2 p3 p4 sp y0 y1 y2 y3 cs fv ca sa kk cc cl hcc hcl C X0 e0 N0 Z0 hk0 Y0 hsp hy0 hy1 hy2 hy3 O0 SS
    rw [show (own_bi (decide (y0 = sp))) = (0 : Int32) from (own_bi0 hc896).symm] at q
    exact q
  · replace hc896 : y0 = sp := hc896
    refine W.iconst (q := 220) (v := 1) X0 C at_219 rfl rfl ?_
    refine W.goto (q := 224) X0 C at_220 (by decide) (by decide) ?_
    refine W.istore (q := 226) (L' := #[.val (.int p0), .val (.int p1), .val (.int p2), .val (.int p3), .val (.int p4), .val (.int sp), .val (.int y0), .val (.int y1), .val (.int y2), .val (.int y3), .val (.int (4 : Int32)), .val (.ref ca), .val (.ref sa), .val (.int (1 : Int32)), .unset, .unset, .unset, .unset]) X0 C at_224 rfl rfl ?_
    have q := own_t_4_1 l Z a0 hw h0 n0 p0 p1 p2 p3 p4 sp y0 y1 y2 y3 cs fv ca sa kk cc cl hcc hcl C X0 e0 N0 Z0 hk0 Y0 hsp hy0 hy1 hy2 hy3 O0 SS
    rw [show (own_bi (decide (y0 = sp))) = (1 : Int32) from (own_bi1 hc896).symm] at q
    exact q
set_option maxRecDepth 65536 in
set_option maxHeartbeats 40000000 in
theorem own_q4 (l : Launch) (Z : State) (a0 : Array Value) (hw : ∀ d ∈ tables_1, d.before a0 Z = true) (h0 : Heap) (n0 : Nat) (p0 p1 p2 p3 p4 sp y0 y1 y2 y3 cs : Int32) (fv : Value) (vm0 : Vm) (kk : Nat) {p : Program} {e : Env} {s : State} {m : MethodId} {args : Array Value} {below : List Frame} {meth : Method} {c : Code} {T0 : State} {locs : List Loc}
    (C : W.Cx p (s.setVm vm0) m meth c Z code 18 "com/example/orderwire/orderwire/hl7/EncodingPartStartPinLaw" "law" (some .boolean)) (X0 : Stand p l e room_1 (s.setVm vm0) m args below meth c T0 locs 0 0) (e0 : T0.heap = h0) (N0 : Fr n0 locs) (Z0 : n0 ≤ h0.size) (hS0 : s.Since vm0 kk) (hk0 : kk ≤ h0.size) (H0 : CHv Z own_el vm0 h0) (hsp : own_r16 sp) (hy0 : own_r16 y0) (hy1 : own_r16 y1) (hy2 : own_r16 y2) (hy3 : own_r16 y3) (O0 : Old Z n0 h0) (SS : own_S Z Z.heap cs fv) :
    W.Go p e below (W.PostW s (fun v h L => v = some (.int 1) ∧ Fr n0 L) room_1.cells room_1.slots) (T0.setTop (mkF m 86 #[.val (.int p0), .val (.int p1), .val (.int p2), .val (.int p3), .val (.int p4), .val (.int sp), .val (.int y0), .val (.int y1), .val (.int y2), .val (.int y3), .val (.int (4 : Int32)), .unset, .unset, .unset, .unset, .unset, .unset, .unset] [])) := by
  refine W.postW hS0 ?_
  have SS0 := SS
  obtain ⟨SC, hcs, SA, SH, SL, SF, hfv⟩ := SS0
  refine W.iload (q := 88) X0 C at_86 rfl rfl ?_
  refine W.ifT (q := 99) X0 C at_88 (by decide) (by decide) (by decide : W.cT .ne (4 : Int32) 0) ?_
  refine W.iload (q := 101) X0 C at_99 rfl rfl ?_
  refine W.iconst (q := 102) (v := 1) X0 C at_101 rfl rfl ?_
  refine W.icmpT (q := 118) X0 C at_102 (by decide) (by decide) (by decide : W.cT .ne (4 : Int32) (1 : Int32)) ?_
  refine W.iload (q := 120) X0 C at_118 rfl rfl ?_
  refine W.iconst (q := 121) (v := 2) X0 C at_120 rfl rfl ?_
  refine W.icmpT (q := 142) X0 C at_121 (by decide) (by decide) (by decide : W.cT .ne (4 : Int32) (2 : Int32)) ?_
  refine W.iload (q := 144) X0 C at_142 rfl rfl ?_
  refine W.iconst (q := 145) (v := 3) X0 C at_144 rfl rfl ?_
  refine W.icmpT (q := 171) X0 C at_145 (by decide) (by decide) (by decide : W.cT .ne (4 : Int32) (3 : Int32)) ?_
  refine W.iconst (q := 172) (v := 4) X0 C at_171 rfl rfl ?_
  refine W.newarray (q := 174) X0 C (W.ww hw 0 rfl) e0 (by decide) 4 (by decide) (by decide) at_172 (by decide) (by decide) rfl (fun T897 h897 b897 k897 X897 e897 g897 E897 V897_ => ?_)
  have ge_b897 : n0 ≤ b897 := by rw [g897]; exact Z0
  have n0_897 : n0 ≤ h897.size := Nat.le_trans Z0 E897.1
  have O0_899 := O0.ext E897
  have hk0_900 := Nat.le_trans hk0 E897.1
  have V897 : Arv Z h897 b897 k897 .char (4 : Int32) [(.int (0 : Int32)), (.int (0 : Int32)), (.int (0 : Int32)), (.int (0 : Int32))] (.int (0 : Int32)) := V897_
  refine W.dup (q := 175) X897 C at_174 rfl rfl ?_
  refine W.iconst (q := 176) (v := 0) X897 C at_175 rfl rfl ?_
  refine W.iload (q := 178) X897 C at_176 rfl rfl ?_
  refine W.castore (q := 179) X897 C e897 V897  (by decide) (by decide) (Nat.le_of_ble_eq_true rfl) at_178 rfl (fun T901 h901 X901 e901 W901 V901_ => ?_)
  rw [own_narc hy0] at V901_
  have O0_903 := O0_899.wr W901 ge_b897
  have hk0_904 := Nat.le_trans hk0_900 (Nat.le_of_eq W901.size.symm)
  have V901 : Arv Z h901 b897 k897 .char (4 : Int32) [(.int y0), (.int (0 : Int32)), (.int (0 : Int32)), (.int (0 : Int32))] (.int (0 : Int32)) := V901_
  have N901 := Fr.snoc X901 N0 ge_b897
  have n0_901 : n0 ≤ h901.size := by rw [W901.size]; exact n0_897
  refine W.dup (q := 180) X901 C at_179 rfl rfl ?_
  refine W.iconst (q := 181) (v := 1) X901 C at_180 rfl rfl ?_
  refine W.iload (q := 183) X901 C at_181 rfl rfl ?_
  refine W.castore (q := 184) X901 C e901 V901  (by decide) (by decide) (Nat.le_of_ble_eq_true rfl) at_183 rfl (fun T906 h906 X906 e906 W906 V906_ => ?_)
  rw [own_narc hy1] at V906_
  have O0_908 := O0_903.wr W906 ge_b897
  have hk0_909 := Nat.le_trans hk0_904 (Nat.le_of_eq W906.size.symm)
  have V906 : Arv Z h906 b897 k897 .char (4 : Int32) [(.int y0), (.int y1), (.int (0 : Int32)), (.int (0 : Int32))] (.int (0 : Int32)) := V906_
  have N906 := Fr.snoc X906 N901 ge_b897
  have n0_906 : n0 ≤ h906.size := by rw [W906.size]; exact n0_901
  refine W.dup (q := 185) X906 C at_184 rfl rfl ?_
  refine W.iconst (q := 186) (v := 2) X906 C at_185 rfl rfl ?_
  refine W.iload (q := 188) X906 C at_186 rfl rfl ?_
  refine W.castore (q := 189) X906 C e906 V906  (by decide) (by decide) (Nat.le_of_ble_eq_true rfl) at_188 rfl (fun T911 h911 X911 e911 W911 V911_ => ?_)
  rw [own_narc hy2] at V911_
  have O0_913 := O0_908.wr W911 ge_b897
  have hk0_914 := Nat.le_trans hk0_909 (Nat.le_of_eq W911.size.symm)
  have V911 : Arv Z h911 b897 k897 .char (4 : Int32) [(.int y0), (.int y1), (.int y2), (.int (0 : Int32))] (.int (0 : Int32)) := V911_
  have N911 := Fr.snoc X911 N906 ge_b897
  have n0_911 : n0 ≤ h911.size := by rw [W911.size]; exact n0_906
  refine W.dup (q := 190) X911 C at_189 rfl rfl ?_
  refine W.iconst (q := 191) (v := 3) X911 C at_190 rfl rfl ?_
  refine W.iload (q := 193) X911 C at_191 rfl rfl ?_
  refine W.castore (q := 194) X911 C e911 V911  (by decide) (by decide) (Nat.le_of_ble_eq_true rfl) at_193 rfl (fun T916 h916 X916 e916 W916 V916_ => ?_)
  rw [own_narc hy3] at V916_
  have O0_918 := O0_913.wr W916 ge_b897
  have hk0_919 := Nat.le_trans hk0_914 (Nat.le_of_eq W916.size.symm)
  have V916 : Arv Z h916 b897 k897 .char (4 : Int32) [(.int y0), (.int y1), (.int y2), (.int y3)] (.int (0 : Int32)) := V916_
  have N916 := Fr.snoc X916 N911 ge_b897
  have n0_916 : n0 ≤ h916.size := by rw [W916.size]; exact n0_911
  refine W.astore (q := 196) (L' := #[.val (.int p0), .val (.int p1), .val (.int p2), .val (.int p3), .val (.int p4), .val (.int sp), .val (.int y0), .val (.int y1), .val (.int y2), .val (.int y3), .val (.int (4 : Int32)), .val (.ref b897), .unset, .unset, .unset, .unset, .unset, .unset]) X916 C at_194 rfl rfl rfl ?_
  refine W.newO (q := 199) X916 C (W.ww hw 1 rfl) (W.ww hw 2 rfl) (W.ww hw 3 rfl) e916 at_196 (by decide) (by decide) rfl (fun T921 h921 b921 X921 e921 g921 E921 A921 D921 => ?_)
  have ne_b897_b921 : b897 ≠ b921 := by rw [g921]; exact Nat.ne_of_lt V916.lt
  have ge_b921 : n0 ≤ b921 := by rw [g921]; exact n0_916
  have n0_921 : n0 ≤ h921.size := Nat.le_trans n0_916 E921.1
  have O0_923 := O0_918.ext E921
  have hk0_924 := Nat.le_trans hk0_919 E921.1
  have V916_925 := V916.ext E921
  have F_value_926 : Fld Z h921 b921 "java/lang/String" "value" "[B" .null := D921 (Or.inr (W.ww hw 16 rfl)) (ty := (.array .byte)) (by decide)
  have F_coder_927 : Fld Z h921 b921 "java/lang/String" "coder" "B" (.int (0 : Int32)) := D921 (Or.inr (W.ww hw 17 rfl)) (ty := .byte) (by decide)
  refine W.dup (q := 200) X921 C at_199 rfl rfl ?_
  refine W.aload (q := 202) X921 C at_200 rfl rfl rfl ?_
  refine W.callI (q := 205) X921 C rfl (W.ww hw 4 rfl) (W.ww hw 5 rfl) (W.ww hw 3 rfl) (W.ww hw 6 rfl) (by decide) (rm1_4 l Z a0 hw [] b921 b897 k897 y0 y1 y2 y3 cs h921 n0 n0_921 ge_b921 A921 F_value_926 F_coder_927 V916_925 hy0 hy1 hy2 hy3 O0_923 SC hcs SA SH SL) e921 at_202 (a := b921) [(.ref b897)] [(.ref b921)] rfl rfl pd__28_5bC_29V rfl rfl (by decide) (Nat.le_of_ble_eq_true rfl) (by decide) (by decide) rfl (fun T928 w928 L928 X928 hQ928 => ?_)
  obtain ⟨rfl, NL928, K928, Yn928⟩ := hQ928
  have N928 := Fr.app N916 NL928
  have O0_930 := O0_923.keep K928 (allS ge_b921 all0)
  have hk0_931 := Nat.le_trans hk0_924 K928.1
  have V916_932 := V916_925.keep K928 (ninS ne_b897_b921 nin0)
  have A921_933 := A921.keep K928
  have n0_928 : n0 ≤ T928.heap.size := Nat.le_trans n0_921 K928.1
  show W.Go p e below _ (T928.setTop (mkF m 205 #[.val (.int p0), .val (.int p1), .val (.int p2), .val (.int p3), .val (.int p4), .val (.int sp), .val (.int y0), .val (.int y1), .val (.int y2), .val (.int y3), .val (.int (4 : Int32)), .val (.ref b897), .unset, .unset, .unset, .unset, .unset, .unset] [(.ref b921)]))
  refine W.astore (q := 207) (L' := #[.val (.int p0), .val (.int p1), .val (.int p2), .val (.int p3), .val (.int p4), .val (.int sp), .val (.int y0), .val (.int y1), .val (.int y2), .val (.int y3), .val (.int (4 : Int32)), .val (.ref b897), .val (.ref b921), .unset, .unset, .unset, .unset, .unset]) X928 C at_205 rfl rfl rfl ?_
  exact own_t_4_0 l Z a0 hw T928.heap n0 p0 p1 p2 p3 p4 sp y0 y1 y2 y3 cs fv b897 b921 _ _ _ (by first | omega | (simp only [room_1]; omega) | (dsimp only; omega)) (by first | omega | (simp only [room_1]; omega) | (dsimp only; omega)) C X928 rfl N928 n0_928 hk0_931 Yn928 hsp hy0 hy1 hy2 hy3 O0_930 SS
set_option maxRecDepth 65536 in
set_option maxHeartbeats 40000000 in
theorem own_qa (l : Launch) (Z : State) (a0 : Array Value) (hw : ∀ d ∈ tables_1, d.before a0 Z = true) (h0 : Heap) (n0 : Nat) (p0 p1 p2 p3 p4 sp y0 y1 y2 y3 cs : Int32) (fv : Value) (vm0 : Vm) (kk : Nat) (nn : Int32) {p : Program} {e : Env} {s : State} {m : MethodId} {args : Array Value} {below : List Frame} {meth : Method} {c : Code} {T0 : State} {locs : List Loc}
    (C : W.Cx p (s.setVm vm0) m meth c Z code 18 "com/example/orderwire/orderwire/hl7/EncodingPartStartPinLaw" "law" (some .boolean)) (X0 : Stand p l e room_1 (s.setVm vm0) m args below meth c T0 locs 0 0) (e0 : T0.heap = h0) (N0 : Fr n0 locs) (Z0 : n0 ≤ h0.size) (hS0 : s.Since vm0 kk) (hk0 : kk ≤ h0.size) (H0 : CHv Z own_el vm0 h0) (hsp : own_r16 sp) (hy0 : own_r16 y0) (hy1 : own_r16 y1) (hy2 : own_r16 y2) (hy3 : own_r16 y3) (O0 : Old Z n0 h0) (SS : own_S Z Z.heap cs fv) (hnn : nn = 0 ∨ nn = 1 ∨ nn = 2 ∨ nn = 3 ∨ nn = 4) :
    W.Go p e below (W.PostW s (fun v h L => v = some (.int 1) ∧ Fr n0 L) room_1.cells room_1.slots) (T0.setTop (mkF m 86 #[.val (.int p0), .val (.int p1), .val (.int p2), .val (.int p3), .val (.int p4), .val (.int sp), .val (.int y0), .val (.int y1), .val (.int y2), .val (.int y3), .val (.int nn), .unset, .unset, .unset, .unset, .unset, .unset, .unset] [])) := by
  rcases hnn with rfl | rfl | rfl | rfl | rfl
  · exact own_q0 l Z a0 hw h0 n0 p0 p1 p2 p3 p4 sp y0 y1 y2 y3 cs fv vm0 kk C X0 e0 N0 Z0 hS0 hk0 H0 hsp hy0 hy1 hy2 hy3 O0 SS
  · exact own_q1 l Z a0 hw h0 n0 p0 p1 p2 p3 p4 sp y0 y1 y2 y3 cs fv vm0 kk C X0 e0 N0 Z0 hS0 hk0 H0 hsp hy0 hy1 hy2 hy3 O0 SS
  · exact own_q2 l Z a0 hw h0 n0 p0 p1 p2 p3 p4 sp y0 y1 y2 y3 cs fv vm0 kk C X0 e0 N0 Z0 hS0 hk0 H0 hsp hy0 hy1 hy2 hy3 O0 SS
  · exact own_q3 l Z a0 hw h0 n0 p0 p1 p2 p3 p4 sp y0 y1 y2 y3 cs fv vm0 kk C X0 e0 N0 Z0 hS0 hk0 H0 hsp hy0 hy1 hy2 hy3 O0 SS
  · exact own_q4 l Z a0 hw h0 n0 p0 p1 p2 p3 p4 sp y0 y1 y2 y3 cs fv vm0 kk C X0 e0 N0 Z0 hS0 hk0 H0 hsp hy0 hy1 hy2 hy3 O0 SS
def Q0 (Z : State) (p0 p1 p2 p3 p4 cs : Int32) (fv : Value) (h0 : Heap) (n0 : Nat) (v : Option Value) (h : Heap) (L : List Loc) : Prop := v = some (.int 1) ∧ Fr n0 L
set_option maxRecDepth 65536 in
set_option maxHeartbeats 40000000 in
theorem rm0 (l : Launch) (Z : State) (a0 : Array Value) (hw : ∀ d ∈ tables_1, d.before a0 Z = true) (ws : List Jvm.Cond) (p0 p1 p2 p3 p4 cs : Int32) (fv : Value) (h0 : Heap) (n0 : Nat) (Z0 : n0 ≤ h0.size) (O0 : Old Z n0 h0) (SS : own_S Z Z.heap cs fv) :
    MetFree l x (head1 (Jvm.Cond.code x code maxLocals ret :: ws) room_1) (fun a U => a = #[(.int p0), (.int p1), (.int p2), (.int p3), (.int p4)] ∧ Z.Warmed39 U.vm ∧ U.heap = h0 ∧ CHv Z own_el U.vm h0) (fun _ _ _ _ _ => True) (fun _ U o U' => ∃ v L, o = .returned v ∧ Q0 Z p0 p1 p2 p3 p4 cs fv h0 n0 v U'.heap L ∧ ReturnedEndW U o U' L room_1.cells room_1.slots) := by
  refine W.bodyOfHW (y := x) (as := #[(.int p0), (.int p1), (.int p2), (.int p3), (.int p4)]) (maxL := maxLocals) (Q := Q0 Z p0 p1 p2 p3 p4 cs fv h0 n0) (Ls := #[.val (.int p0), .val (.int p1), .val (.int p2), .val (.int p3), .val (.int p4), .unset, .unset, .unset, .unset, .unset, .unset, .unset, .unset, .unset, .unset, .unset, .unset, .unset]) (plainFor_of_name pn_com_example_orderwire_orderwire_hl7_EncodingPartStartPinLaw) (fun m => by first | exact W.entry_of rfl | rfl | (simp [entryFrame, mkF, argsToLocals, Value.category, maxLocals]; done)) ?_
  intro p e s m below meth c T0 C X0 e0 hs hH hS0
  have R0 : CHr Z own_el s.vm s.heap s.vm h0 := by rw [hs]; exact CHr.refl hH
  have hk0 : 0 ≤ h0.size := Nat.zero_le _
  replace C : W.Cx p (s.setVm s.vm) m meth c Z code 18 "com/example/orderwire/orderwire/hl7/EncodingPartStartPinLaw" "law" (some .boolean) := C
  have N0 := Fr.nil n0
  refine W.iloadN (q := 1) X0 C at_0 rfl rfl ?_
  refine W.i2c (q := 2) X0 C at_1 rfl ?_
  generalize hv934 : (p2.toUInt32.toUInt16.toUInt32.toInt32) = v934
  refine W.istore (q := 4) (L' := #[.val (.int p0), .val (.int p1), .val (.int p2), .val (.int p3), .val (.int p4), .val (.int v934), .unset, .unset, .unset, .unset, .unset, .unset, .unset, .unset, .unset, .unset, .unset, .unset]) X0 C at_2 rfl rfl ?_
  refine W.iload (q := 6) X0 C at_4 rfl rfl ?_
  refine W.iconst (q := 7) (v := 1) X0 C at_6 rfl rfl ?_
  refine W.iand (q := 8) X0 C at_7 rfl ?_
  refine W.if_ (q := 16) (q' := 11) X0 C at_8 (by decide) (by decide) rfl (fun hc935 => ?_) (fun hc935 => ?_)
  · replace hc935 : (p4 &&& (1 : Int32)) = 0 := hc935
    refine W.iloadN (q := 17) X0 C at_16 rfl rfl ?_
    refine W.i2c (q := 18) X0 C at_17 rfl ?_
    generalize hv936 : (p0.toUInt32.toUInt16.toUInt32.toInt32) = v936
    refine W.istore (q := 20) (L' := #[.val (.int p0), .val (.int p1), .val (.int p2), .val (.int p3), .val (.int p4), .val (.int v934), .val (.int v936), .unset, .unset, .unset, .unset, .unset, .unset, .unset, .unset, .unset, .unset, .unset]) X0 C at_18 rfl rfl ?_
    refine W.iload (q := 22) X0 C at_20 rfl rfl ?_
    refine W.iconst (q := 23) (v := 2) X0 C at_22 rfl rfl ?_
    refine W.iand (q := 24) X0 C at_23 rfl ?_
    refine W.if_ (q := 32) (q' := 27) X0 C at_24 (by decide) (by decide) rfl (fun hc937 => ?_) (fun hc937 => ?_)
    · replace hc937 : (p4 &&& (2 : Int32)) = 0 := hc937
      refine W.iloadN (q := 33) X0 C at_32 rfl rfl ?_
      refine W.bipush (q := 35) (v := 16) X0 C at_33 rfl rfl ?_
      refine W.iushr (q := 36) X0 C at_35 rfl ?_
      refine W.i2c (q := 37) X0 C at_36 rfl ?_
      generalize hv938 : (((p0.toUInt32 >>> ((16 : Int32) &&& 31).toUInt32).toInt32).toUInt32.toUInt16.toUInt32.toInt32) = v938
      refine W.istore (q := 39) (L' := #[.val (.int p0), .val (.int p1), .val (.int p2), .val (.int p3), .val (.int p4), .val (.int v934), .val (.int v936), .val (.int v938), .unset, .unset, .unset, .unset, .unset, .unset, .unset, .unset, .unset, .unset]) X0 C at_37 rfl rfl ?_
      refine W.iload (q := 41) X0 C at_39 rfl rfl ?_
      refine W.iconst (q := 42) (v := 4) X0 C at_41 rfl rfl ?_
      refine W.iand (q := 43) X0 C at_42 rfl ?_
      refine W.if_ (q := 51) (q' := 46) X0 C at_43 (by decide) (by decide) rfl (fun hc939 => ?_) (fun hc939 => ?_)
      · replace hc939 : (p4 &&& (4 : Int32)) = 0 := hc939
        refine W.iloadN (q := 52) X0 C at_51 rfl rfl ?_
        refine W.i2c (q := 53) X0 C at_52 rfl ?_
        generalize hv940 : (p1.toUInt32.toUInt16.toUInt32.toInt32) = v940
        refine W.istore (q := 55) (L' := #[.val (.int p0), .val (.int p1), .val (.int p2), .val (.int p3), .val (.int p4), .val (.int v934), .val (.int v936), .val (.int v938), .val (.int v940), .unset, .unset, .unset, .unset, .unset, .unset, .unset, .unset, .unset]) X0 C at_53 rfl rfl ?_
        refine W.iload (q := 57) X0 C at_55 rfl rfl ?_
        refine W.bipush (q := 59) (v := 8) X0 C at_57 rfl rfl ?_
        refine W.iand (q := 60) X0 C at_59 rfl ?_
        refine W.if_ (q := 68) (q' := 63) X0 C at_60 (by decide) (by decide) rfl (fun hc941 => ?_) (fun hc941 => ?_)
        · replace hc941 : (p4 &&& (8 : Int32)) = 0 := hc941
          refine W.iloadN (q := 69) X0 C at_68 rfl rfl ?_
          refine W.bipush (q := 71) (v := 16) X0 C at_69 rfl rfl ?_
          refine W.iushr (q := 72) X0 C at_71 rfl ?_
          refine W.i2c (q := 73) X0 C at_72 rfl ?_
          generalize hv942 : (((p1.toUInt32 >>> ((16 : Int32) &&& 31).toUInt32).toInt32).toUInt32.toUInt16.toUInt32.toInt32) = v942
          refine W.istore (q := 75) (L' := #[.val (.int p0), .val (.int p1), .val (.int p2), .val (.int p3), .val (.int p4), .val (.int v934), .val (.int v936), .val (.int v938), .val (.int v940), .val (.int v942), .unset, .unset, .unset, .unset, .unset, .unset, .unset, .unset]) X0 C at_73 rfl rfl ?_
          refine W.iload (q := 77) X0 C at_75 rfl rfl ?_
          refine W.iconst (q := 78) (v := 4) X0 C at_77 rfl rfl ?_
          refine W.iushr (q := 79) X0 C at_78 rfl ?_
          refine W.bipush (q := 81) (v := 7) X0 C at_79 rfl rfl ?_
          refine W.iand (q := 82) X0 C at_81 rfl ?_
          refine W.iconst (q := 83) (v := 5) X0 C at_82 rfl rfl ?_
          refine W.irem (q := 84) X0 C at_83 (by decide) rfl ?_
          generalize hv943 : ((((p4.toUInt32 >>> ((4 : Int32) &&& 31).toUInt32).toInt32) &&& (7 : Int32)) % (5 : Int32)) = v943
          refine W.istore (q := 86) (L' := #[.val (.int p0), .val (.int p1), .val (.int p2), .val (.int p3), .val (.int p4), .val (.int v934), .val (.int v936), .val (.int v938), .val (.int v940), .val (.int v942), .val (.int v943), .unset, .unset, .unset, .unset, .unset, .unset, .unset]) X0 C at_84 rfl rfl ?_
          exact own_qa l Z a0 hw h0 n0 p0 p1 p2 p3 p4 v934 v936 v938 v940 v942 cs fv _ _ v943 C X0 e0 N0 Z0 hS0 hk0 R0.1 (own_c16 hv934) (own_c16 hv936) (own_c16 hv938) (own_c16 hv940) (own_c16 hv942) O0 SS (own_m5 hv943)
        · replace hc941 : (p4 &&& (8 : Int32)) ≠ 0 := hc941
          refine W.iload (q := 65) X0 C at_63 rfl rfl ?_
          refine W.goto (q := 73) X0 C at_65 (by decide) (by decide) ?_
          refine W.istore (q := 75) (L' := #[.val (.int p0), .val (.int p1), .val (.int p2), .val (.int p3), .val (.int p4), .val (.int v934), .val (.int v936), .val (.int v938), .val (.int v940), .val (.int v934), .unset, .unset, .unset, .unset, .unset, .unset, .unset, .unset]) X0 C at_73 rfl rfl ?_
          refine W.iload (q := 77) X0 C at_75 rfl rfl ?_
          refine W.iconst (q := 78) (v := 4) X0 C at_77 rfl rfl ?_
          refine W.iushr (q := 79) X0 C at_78 rfl ?_
          refine W.bipush (q := 81) (v := 7) X0 C at_79 rfl rfl ?_
          refine W.iand (q := 82) X0 C at_81 rfl ?_
          refine W.iconst (q := 83) (v := 5) X0 C at_82 rfl rfl ?_
          refine W.irem (q := 84) X0 C at_83 (by decide) rfl ?_
          generalize hv944 : ((((p4.toUInt32 >>> ((4 : Int32) &&& 31).toUInt32).toInt32) &&& (7 : Int32)) % (5 : Int32)) = v944
          refine W.istore (q := 86) (L' := #[.val (.int p0), .val (.int p1), .val (.int p2), .val (.int p3), .val (.int p4), .val (.int v934), .val (.int v936), .val (.int v938), .val (.int v940), .val (.int v934), .val (.int v944), .unset, .unset, .unset, .unset, .unset, .unset, .unset]) X0 C at_84 rfl rfl ?_
          exact own_qa l Z a0 hw h0 n0 p0 p1 p2 p3 p4 v934 v936 v938 v940 v934 cs fv _ _ v944 C X0 e0 N0 Z0 hS0 hk0 R0.1 (own_c16 hv934) (own_c16 hv936) (own_c16 hv938) (own_c16 hv940) (own_c16 hv934) O0 SS (own_m5 hv944)
      · replace hc939 : (p4 &&& (4 : Int32)) ≠ 0 := hc939
        refine W.iload (q := 48) X0 C at_46 rfl rfl ?_
        refine W.goto (q := 53) X0 C at_48 (by decide) (by decide) ?_
        refine W.istore (q := 55) (L' := #[.val (.int p0), .val (.int p1), .val (.int p2), .val (.int p3), .val (.int p4), .val (.int v934), .val (.int v936), .val (.int v938), .val (.int v934), .unset, .unset, .unset, .unset, .unset, .unset, .unset, .unset, .unset]) X0 C at_53 rfl rfl ?_
        refine W.iload (q := 57) X0 C at_55 rfl rfl ?_
        refine W.bipush (q := 59) (v := 8) X0 C at_57 rfl rfl ?_
        refine W.iand (q := 60) X0 C at_59 rfl ?_
        refine W.if_ (q := 68) (q' := 63) X0 C at_60 (by decide) (by decide) rfl (fun hc945 => ?_) (fun hc945 => ?_)
        · replace hc945 : (p4 &&& (8 : Int32)) = 0 := hc945
          refine W.iloadN (q := 69) X0 C at_68 rfl rfl ?_
          refine W.bipush (q := 71) (v := 16) X0 C at_69 rfl rfl ?_
          refine W.iushr (q := 72) X0 C at_71 rfl ?_
          refine W.i2c (q := 73) X0 C at_72 rfl ?_
          generalize hv946 : (((p1.toUInt32 >>> ((16 : Int32) &&& 31).toUInt32).toInt32).toUInt32.toUInt16.toUInt32.toInt32) = v946
          refine W.istore (q := 75) (L' := #[.val (.int p0), .val (.int p1), .val (.int p2), .val (.int p3), .val (.int p4), .val (.int v934), .val (.int v936), .val (.int v938), .val (.int v934), .val (.int v946), .unset, .unset, .unset, .unset, .unset, .unset, .unset, .unset]) X0 C at_73 rfl rfl ?_
          refine W.iload (q := 77) X0 C at_75 rfl rfl ?_
          refine W.iconst (q := 78) (v := 4) X0 C at_77 rfl rfl ?_
          refine W.iushr (q := 79) X0 C at_78 rfl ?_
          refine W.bipush (q := 81) (v := 7) X0 C at_79 rfl rfl ?_
          refine W.iand (q := 82) X0 C at_81 rfl ?_
          refine W.iconst (q := 83) (v := 5) X0 C at_82 rfl rfl ?_
          refine W.irem (q := 84) X0 C at_83 (by decide) rfl ?_
          generalize hv947 : ((((p4.toUInt32 >>> ((4 : Int32) &&& 31).toUInt32).toInt32) &&& (7 : Int32)) % (5 : Int32)) = v947
          refine W.istore (q := 86) (L' := #[.val (.int p0), .val (.int p1), .val (.int p2), .val (.int p3), .val (.int p4), .val (.int v934), .val (.int v936), .val (.int v938), .val (.int v934), .val (.int v946), .val (.int v947), .unset, .unset, .unset, .unset, .unset, .unset, .unset]) X0 C at_84 rfl rfl ?_
          exact own_qa l Z a0 hw h0 n0 p0 p1 p2 p3 p4 v934 v936 v938 v934 v946 cs fv _ _ v947 C X0 e0 N0 Z0 hS0 hk0 R0.1 (own_c16 hv934) (own_c16 hv936) (own_c16 hv938) (own_c16 hv934) (own_c16 hv946) O0 SS (own_m5 hv947)
        · replace hc945 : (p4 &&& (8 : Int32)) ≠ 0 := hc945
          refine W.iload (q := 65) X0 C at_63 rfl rfl ?_
          refine W.goto (q := 73) X0 C at_65 (by decide) (by decide) ?_
          refine W.istore (q := 75) (L' := #[.val (.int p0), .val (.int p1), .val (.int p2), .val (.int p3), .val (.int p4), .val (.int v934), .val (.int v936), .val (.int v938), .val (.int v934), .val (.int v934), .unset, .unset, .unset, .unset, .unset, .unset, .unset, .unset]) X0 C at_73 rfl rfl ?_
          refine W.iload (q := 77) X0 C at_75 rfl rfl ?_
          refine W.iconst (q := 78) (v := 4) X0 C at_77 rfl rfl ?_
          refine W.iushr (q := 79) X0 C at_78 rfl ?_
          refine W.bipush (q := 81) (v := 7) X0 C at_79 rfl rfl ?_
          refine W.iand (q := 82) X0 C at_81 rfl ?_
          refine W.iconst (q := 83) (v := 5) X0 C at_82 rfl rfl ?_
          refine W.irem (q := 84) X0 C at_83 (by decide) rfl ?_
          generalize hv948 : ((((p4.toUInt32 >>> ((4 : Int32) &&& 31).toUInt32).toInt32) &&& (7 : Int32)) % (5 : Int32)) = v948
          refine W.istore (q := 86) (L' := #[.val (.int p0), .val (.int p1), .val (.int p2), .val (.int p3), .val (.int p4), .val (.int v934), .val (.int v936), .val (.int v938), .val (.int v934), .val (.int v934), .val (.int v948), .unset, .unset, .unset, .unset, .unset, .unset, .unset]) X0 C at_84 rfl rfl ?_
          exact own_qa l Z a0 hw h0 n0 p0 p1 p2 p3 p4 v934 v936 v938 v934 v934 cs fv _ _ v948 C X0 e0 N0 Z0 hS0 hk0 R0.1 (own_c16 hv934) (own_c16 hv936) (own_c16 hv938) (own_c16 hv934) (own_c16 hv934) O0 SS (own_m5 hv948)
    · replace hc937 : (p4 &&& (2 : Int32)) ≠ 0 := hc937
      refine W.iload (q := 29) X0 C at_27 rfl rfl ?_
      refine W.goto (q := 37) X0 C at_29 (by decide) (by decide) ?_
      refine W.istore (q := 39) (L' := #[.val (.int p0), .val (.int p1), .val (.int p2), .val (.int p3), .val (.int p4), .val (.int v934), .val (.int v936), .val (.int v934), .unset, .unset, .unset, .unset, .unset, .unset, .unset, .unset, .unset, .unset]) X0 C at_37 rfl rfl ?_
      refine W.iload (q := 41) X0 C at_39 rfl rfl ?_
      refine W.iconst (q := 42) (v := 4) X0 C at_41 rfl rfl ?_
      refine W.iand (q := 43) X0 C at_42 rfl ?_
      refine W.if_ (q := 51) (q' := 46) X0 C at_43 (by decide) (by decide) rfl (fun hc949 => ?_) (fun hc949 => ?_)
      · replace hc949 : (p4 &&& (4 : Int32)) = 0 := hc949
        refine W.iloadN (q := 52) X0 C at_51 rfl rfl ?_
        refine W.i2c (q := 53) X0 C at_52 rfl ?_
        generalize hv950 : (p1.toUInt32.toUInt16.toUInt32.toInt32) = v950
        refine W.istore (q := 55) (L' := #[.val (.int p0), .val (.int p1), .val (.int p2), .val (.int p3), .val (.int p4), .val (.int v934), .val (.int v936), .val (.int v934), .val (.int v950), .unset, .unset, .unset, .unset, .unset, .unset, .unset, .unset, .unset]) X0 C at_53 rfl rfl ?_
        refine W.iload (q := 57) X0 C at_55 rfl rfl ?_
        refine W.bipush (q := 59) (v := 8) X0 C at_57 rfl rfl ?_
        refine W.iand (q := 60) X0 C at_59 rfl ?_
        refine W.if_ (q := 68) (q' := 63) X0 C at_60 (by decide) (by decide) rfl (fun hc951 => ?_) (fun hc951 => ?_)
        · replace hc951 : (p4 &&& (8 : Int32)) = 0 := hc951
          refine W.iloadN (q := 69) X0 C at_68 rfl rfl ?_
          refine W.bipush (q := 71) (v := 16) X0 C at_69 rfl rfl ?_
          refine W.iushr (q := 72) X0 C at_71 rfl ?_
          refine W.i2c (q := 73) X0 C at_72 rfl ?_
          generalize hv952 : (((p1.toUInt32 >>> ((16 : Int32) &&& 31).toUInt32).toInt32).toUInt32.toUInt16.toUInt32.toInt32) = v952
          refine W.istore (q := 75) (L' := #[.val (.int p0), .val (.int p1), .val (.int p2), .val (.int p3), .val (.int p4), .val (.int v934), .val (.int v936), .val (.int v934), .val (.int v950), .val (.int v952), .unset, .unset, .unset, .unset, .unset, .unset, .unset, .unset]) X0 C at_73 rfl rfl ?_
          refine W.iload (q := 77) X0 C at_75 rfl rfl ?_
          refine W.iconst (q := 78) (v := 4) X0 C at_77 rfl rfl ?_
          refine W.iushr (q := 79) X0 C at_78 rfl ?_
          refine W.bipush (q := 81) (v := 7) X0 C at_79 rfl rfl ?_
          refine W.iand (q := 82) X0 C at_81 rfl ?_
          refine W.iconst (q := 83) (v := 5) X0 C at_82 rfl rfl ?_
          refine W.irem (q := 84) X0 C at_83 (by decide) rfl ?_
          generalize hv953 : ((((p4.toUInt32 >>> ((4 : Int32) &&& 31).toUInt32).toInt32) &&& (7 : Int32)) % (5 : Int32)) = v953
          refine W.istore (q := 86) (L' := #[.val (.int p0), .val (.int p1), .val (.int p2), .val (.int p3), .val (.int p4), .val (.int v934), .val (.int v936), .val (.int v934), .val (.int v950), .val (.int v952), .val (.int v953), .unset, .unset, .unset, .unset, .unset, .unset, .unset]) X0 C at_84 rfl rfl ?_
          exact own_qa l Z a0 hw h0 n0 p0 p1 p2 p3 p4 v934 v936 v934 v950 v952 cs fv _ _ v953 C X0 e0 N0 Z0 hS0 hk0 R0.1 (own_c16 hv934) (own_c16 hv936) (own_c16 hv934) (own_c16 hv950) (own_c16 hv952) O0 SS (own_m5 hv953)
        · replace hc951 : (p4 &&& (8 : Int32)) ≠ 0 := hc951
          refine W.iload (q := 65) X0 C at_63 rfl rfl ?_
          refine W.goto (q := 73) X0 C at_65 (by decide) (by decide) ?_
          refine W.istore (q := 75) (L' := #[.val (.int p0), .val (.int p1), .val (.int p2), .val (.int p3), .val (.int p4), .val (.int v934), .val (.int v936), .val (.int v934), .val (.int v950), .val (.int v934), .unset, .unset, .unset, .unset, .unset, .unset, .unset, .unset]) X0 C at_73 rfl rfl ?_
          refine W.iload (q := 77) X0 C at_75 rfl rfl ?_
          refine W.iconst (q := 78) (v := 4) X0 C at_77 rfl rfl ?_
          refine W.iushr (q := 79) X0 C at_78 rfl ?_
          refine W.bipush (q := 81) (v := 7) X0 C at_79 rfl rfl ?_
          refine W.iand (q := 82) X0 C at_81 rfl ?_
          refine W.iconst (q := 83) (v := 5) X0 C at_82 rfl rfl ?_
          refine W.irem (q := 84) X0 C at_83 (by decide) rfl ?_
          generalize hv954 : ((((p4.toUInt32 >>> ((4 : Int32) &&& 31).toUInt32).toInt32) &&& (7 : Int32)) % (5 : Int32)) = v954
          refine W.istore (q := 86) (L' := #[.val (.int p0), .val (.int p1), .val (.int p2), .val (.int p3), .val (.int p4), .val (.int v934), .val (.int v936), .val (.int v934), .val (.int v950), .val (.int v934), .val (.int v954), .unset, .unset, .unset, .unset, .unset, .unset, .unset]) X0 C at_84 rfl rfl ?_
          exact own_qa l Z a0 hw h0 n0 p0 p1 p2 p3 p4 v934 v936 v934 v950 v934 cs fv _ _ v954 C X0 e0 N0 Z0 hS0 hk0 R0.1 (own_c16 hv934) (own_c16 hv936) (own_c16 hv934) (own_c16 hv950) (own_c16 hv934) O0 SS (own_m5 hv954)
      · replace hc949 : (p4 &&& (4 : Int32)) ≠ 0 := hc949
        refine W.iload (q := 48) X0 C at_46 rfl rfl ?_
        refine W.goto (q := 53) X0 C at_48 (by decide) (by decide) ?_
        refine W.istore (q := 55) (L' := #[.val (.int p0), .val (.int p1), .val (.int p2), .val (.int p3), .val (.int p4), .val (.int v934), .val (.int v936), .val (.int v934), .val (.int v934), .unset, .unset, .unset, .unset, .unset, .unset, .unset, .unset, .unset]) X0 C at_53 rfl rfl ?_
        refine W.iload (q := 57) X0 C at_55 rfl rfl ?_
        refine W.bipush (q := 59) (v := 8) X0 C at_57 rfl rfl ?_
        refine W.iand (q := 60) X0 C at_59 rfl ?_
        refine W.if_ (q := 68) (q' := 63) X0 C at_60 (by decide) (by decide) rfl (fun hc955 => ?_) (fun hc955 => ?_)
        · replace hc955 : (p4 &&& (8 : Int32)) = 0 := hc955
          refine W.iloadN (q := 69) X0 C at_68 rfl rfl ?_
          refine W.bipush (q := 71) (v := 16) X0 C at_69 rfl rfl ?_
          refine W.iushr (q := 72) X0 C at_71 rfl ?_
          refine W.i2c (q := 73) X0 C at_72 rfl ?_
          generalize hv956 : (((p1.toUInt32 >>> ((16 : Int32) &&& 31).toUInt32).toInt32).toUInt32.toUInt16.toUInt32.toInt32) = v956
          refine W.istore (q := 75) (L' := #[.val (.int p0), .val (.int p1), .val (.int p2), .val (.int p3), .val (.int p4), .val (.int v934), .val (.int v936), .val (.int v934), .val (.int v934), .val (.int v956), .unset, .unset, .unset, .unset, .unset, .unset, .unset, .unset]) X0 C at_73 rfl rfl ?_
          refine W.iload (q := 77) X0 C at_75 rfl rfl ?_
          refine W.iconst (q := 78) (v := 4) X0 C at_77 rfl rfl ?_
          refine W.iushr (q := 79) X0 C at_78 rfl ?_
          refine W.bipush (q := 81) (v := 7) X0 C at_79 rfl rfl ?_
          refine W.iand (q := 82) X0 C at_81 rfl ?_
          refine W.iconst (q := 83) (v := 5) X0 C at_82 rfl rfl ?_
          refine W.irem (q := 84) X0 C at_83 (by decide) rfl ?_
          generalize hv957 : ((((p4.toUInt32 >>> ((4 : Int32) &&& 31).toUInt32).toInt32) &&& (7 : Int32)) % (5 : Int32)) = v957
          refine W.istore (q := 86) (L' := #[.val (.int p0), .val (.int p1), .val (.int p2), .val (.int p3), .val (.int p4), .val (.int v934), .val (.int v936), .val (.int v934), .val (.int v934), .val (.int v956), .val (.int v957), .unset, .unset, .unset, .unset, .unset, .unset, .unset]) X0 C at_84 rfl rfl ?_
          exact own_qa l Z a0 hw h0 n0 p0 p1 p2 p3 p4 v934 v936 v934 v934 v956 cs fv _ _ v957 C X0 e0 N0 Z0 hS0 hk0 R0.1 (own_c16 hv934) (own_c16 hv936) (own_c16 hv934) (own_c16 hv934) (own_c16 hv956) O0 SS (own_m5 hv957)
        · replace hc955 : (p4 &&& (8 : Int32)) ≠ 0 := hc955
          refine W.iload (q := 65) X0 C at_63 rfl rfl ?_
          refine W.goto (q := 73) X0 C at_65 (by decide) (by decide) ?_
          refine W.istore (q := 75) (L' := #[.val (.int p0), .val (.int p1), .val (.int p2), .val (.int p3), .val (.int p4), .val (.int v934), .val (.int v936), .val (.int v934), .val (.int v934), .val (.int v934), .unset, .unset, .unset, .unset, .unset, .unset, .unset, .unset]) X0 C at_73 rfl rfl ?_
          refine W.iload (q := 77) X0 C at_75 rfl rfl ?_
          refine W.iconst (q := 78) (v := 4) X0 C at_77 rfl rfl ?_
          refine W.iushr (q := 79) X0 C at_78 rfl ?_
          refine W.bipush (q := 81) (v := 7) X0 C at_79 rfl rfl ?_
          refine W.iand (q := 82) X0 C at_81 rfl ?_
          refine W.iconst (q := 83) (v := 5) X0 C at_82 rfl rfl ?_
          refine W.irem (q := 84) X0 C at_83 (by decide) rfl ?_
          generalize hv958 : ((((p4.toUInt32 >>> ((4 : Int32) &&& 31).toUInt32).toInt32) &&& (7 : Int32)) % (5 : Int32)) = v958
          refine W.istore (q := 86) (L' := #[.val (.int p0), .val (.int p1), .val (.int p2), .val (.int p3), .val (.int p4), .val (.int v934), .val (.int v936), .val (.int v934), .val (.int v934), .val (.int v934), .val (.int v958), .unset, .unset, .unset, .unset, .unset, .unset, .unset]) X0 C at_84 rfl rfl ?_
          exact own_qa l Z a0 hw h0 n0 p0 p1 p2 p3 p4 v934 v936 v934 v934 v934 cs fv _ _ v958 C X0 e0 N0 Z0 hS0 hk0 R0.1 (own_c16 hv934) (own_c16 hv936) (own_c16 hv934) (own_c16 hv934) (own_c16 hv934) O0 SS (own_m5 hv958)
  · replace hc935 : (p4 &&& (1 : Int32)) ≠ 0 := hc935
    refine W.iload (q := 13) X0 C at_11 rfl rfl ?_
    refine W.goto (q := 18) X0 C at_13 (by decide) (by decide) ?_
    refine W.istore (q := 20) (L' := #[.val (.int p0), .val (.int p1), .val (.int p2), .val (.int p3), .val (.int p4), .val (.int v934), .val (.int v934), .unset, .unset, .unset, .unset, .unset, .unset, .unset, .unset, .unset, .unset, .unset]) X0 C at_18 rfl rfl ?_
    refine W.iload (q := 22) X0 C at_20 rfl rfl ?_
    refine W.iconst (q := 23) (v := 2) X0 C at_22 rfl rfl ?_
    refine W.iand (q := 24) X0 C at_23 rfl ?_
    refine W.if_ (q := 32) (q' := 27) X0 C at_24 (by decide) (by decide) rfl (fun hc959 => ?_) (fun hc959 => ?_)
    · replace hc959 : (p4 &&& (2 : Int32)) = 0 := hc959
      refine W.iloadN (q := 33) X0 C at_32 rfl rfl ?_
      refine W.bipush (q := 35) (v := 16) X0 C at_33 rfl rfl ?_
      refine W.iushr (q := 36) X0 C at_35 rfl ?_
      refine W.i2c (q := 37) X0 C at_36 rfl ?_
      generalize hv960 : (((p0.toUInt32 >>> ((16 : Int32) &&& 31).toUInt32).toInt32).toUInt32.toUInt16.toUInt32.toInt32) = v960
      refine W.istore (q := 39) (L' := #[.val (.int p0), .val (.int p1), .val (.int p2), .val (.int p3), .val (.int p4), .val (.int v934), .val (.int v934), .val (.int v960), .unset, .unset, .unset, .unset, .unset, .unset, .unset, .unset, .unset, .unset]) X0 C at_37 rfl rfl ?_
      refine W.iload (q := 41) X0 C at_39 rfl rfl ?_
      refine W.iconst (q := 42) (v := 4) X0 C at_41 rfl rfl ?_
      refine W.iand (q := 43) X0 C at_42 rfl ?_
      refine W.if_ (q := 51) (q' := 46) X0 C at_43 (by decide) (by decide) rfl (fun hc961 => ?_) (fun hc961 => ?_)
      · replace hc961 : (p4 &&& (4 : Int32)) = 0 := hc961
        refine W.iloadN (q := 52) X0 C at_51 rfl rfl ?_
        refine W.i2c (q := 53) X0 C at_52 rfl ?_
        generalize hv962 : (p1.toUInt32.toUInt16.toUInt32.toInt32) = v962
        refine W.istore (q := 55) (L' := #[.val (.int p0), .val (.int p1), .val (.int p2), .val (.int p3), .val (.int p4), .val (.int v934), .val (.int v934), .val (.int v960), .val (.int v962), .unset, .unset, .unset, .unset, .unset, .unset, .unset, .unset, .unset]) X0 C at_53 rfl rfl ?_
        refine W.iload (q := 57) X0 C at_55 rfl rfl ?_
        refine W.bipush (q := 59) (v := 8) X0 C at_57 rfl rfl ?_
        refine W.iand (q := 60) X0 C at_59 rfl ?_
        refine W.if_ (q := 68) (q' := 63) X0 C at_60 (by decide) (by decide) rfl (fun hc963 => ?_) (fun hc963 => ?_)
        · replace hc963 : (p4 &&& (8 : Int32)) = 0 := hc963
          refine W.iloadN (q := 69) X0 C at_68 rfl rfl ?_
          refine W.bipush (q := 71) (v := 16) X0 C at_69 rfl rfl ?_
          refine W.iushr (q := 72) X0 C at_71 rfl ?_
          refine W.i2c (q := 73) X0 C at_72 rfl ?_
          generalize hv964 : (((p1.toUInt32 >>> ((16 : Int32) &&& 31).toUInt32).toInt32).toUInt32.toUInt16.toUInt32.toInt32) = v964
          refine W.istore (q := 75) (L' := #[.val (.int p0), .val (.int p1), .val (.int p2), .val (.int p3), .val (.int p4), .val (.int v934), .val (.int v934), .val (.int v960), .val (.int v962), .val (.int v964), .unset, .unset, .unset, .unset, .unset, .unset, .unset, .unset]) X0 C at_73 rfl rfl ?_
          refine W.iload (q := 77) X0 C at_75 rfl rfl ?_
          refine W.iconst (q := 78) (v := 4) X0 C at_77 rfl rfl ?_
          refine W.iushr (q := 79) X0 C at_78 rfl ?_
          refine W.bipush (q := 81) (v := 7) X0 C at_79 rfl rfl ?_
          refine W.iand (q := 82) X0 C at_81 rfl ?_
          refine W.iconst (q := 83) (v := 5) X0 C at_82 rfl rfl ?_
          refine W.irem (q := 84) X0 C at_83 (by decide) rfl ?_
          generalize hv965 : ((((p4.toUInt32 >>> ((4 : Int32) &&& 31).toUInt32).toInt32) &&& (7 : Int32)) % (5 : Int32)) = v965
          refine W.istore (q := 86) (L' := #[.val (.int p0), .val (.int p1), .val (.int p2), .val (.int p3), .val (.int p4), .val (.int v934), .val (.int v934), .val (.int v960), .val (.int v962), .val (.int v964), .val (.int v965), .unset, .unset, .unset, .unset, .unset, .unset, .unset]) X0 C at_84 rfl rfl ?_
          exact own_qa l Z a0 hw h0 n0 p0 p1 p2 p3 p4 v934 v934 v960 v962 v964 cs fv _ _ v965 C X0 e0 N0 Z0 hS0 hk0 R0.1 (own_c16 hv934) (own_c16 hv934) (own_c16 hv960) (own_c16 hv962) (own_c16 hv964) O0 SS (own_m5 hv965)
        · replace hc963 : (p4 &&& (8 : Int32)) ≠ 0 := hc963
          refine W.iload (q := 65) X0 C at_63 rfl rfl ?_
          refine W.goto (q := 73) X0 C at_65 (by decide) (by decide) ?_
          refine W.istore (q := 75) (L' := #[.val (.int p0), .val (.int p1), .val (.int p2), .val (.int p3), .val (.int p4), .val (.int v934), .val (.int v934), .val (.int v960), .val (.int v962), .val (.int v934), .unset, .unset, .unset, .unset, .unset, .unset, .unset, .unset]) X0 C at_73 rfl rfl ?_
          refine W.iload (q := 77) X0 C at_75 rfl rfl ?_
          refine W.iconst (q := 78) (v := 4) X0 C at_77 rfl rfl ?_
          refine W.iushr (q := 79) X0 C at_78 rfl ?_
          refine W.bipush (q := 81) (v := 7) X0 C at_79 rfl rfl ?_
          refine W.iand (q := 82) X0 C at_81 rfl ?_
          refine W.iconst (q := 83) (v := 5) X0 C at_82 rfl rfl ?_
          refine W.irem (q := 84) X0 C at_83 (by decide) rfl ?_
          generalize hv966 : ((((p4.toUInt32 >>> ((4 : Int32) &&& 31).toUInt32).toInt32) &&& (7 : Int32)) % (5 : Int32)) = v966
          refine W.istore (q := 86) (L' := #[.val (.int p0), .val (.int p1), .val (.int p2), .val (.int p3), .val (.int p4), .val (.int v934), .val (.int v934), .val (.int v960), .val (.int v962), .val (.int v934), .val (.int v966), .unset, .unset, .unset, .unset, .unset, .unset, .unset]) X0 C at_84 rfl rfl ?_
          exact own_qa l Z a0 hw h0 n0 p0 p1 p2 p3 p4 v934 v934 v960 v962 v934 cs fv _ _ v966 C X0 e0 N0 Z0 hS0 hk0 R0.1 (own_c16 hv934) (own_c16 hv934) (own_c16 hv960) (own_c16 hv962) (own_c16 hv934) O0 SS (own_m5 hv966)
      · replace hc961 : (p4 &&& (4 : Int32)) ≠ 0 := hc961
        refine W.iload (q := 48) X0 C at_46 rfl rfl ?_
        refine W.goto (q := 53) X0 C at_48 (by decide) (by decide) ?_
        refine W.istore (q := 55) (L' := #[.val (.int p0), .val (.int p1), .val (.int p2), .val (.int p3), .val (.int p4), .val (.int v934), .val (.int v934), .val (.int v960), .val (.int v934), .unset, .unset, .unset, .unset, .unset, .unset, .unset, .unset, .unset]) X0 C at_53 rfl rfl ?_
        refine W.iload (q := 57) X0 C at_55 rfl rfl ?_
        refine W.bipush (q := 59) (v := 8) X0 C at_57 rfl rfl ?_
        refine W.iand (q := 60) X0 C at_59 rfl ?_
        refine W.if_ (q := 68) (q' := 63) X0 C at_60 (by decide) (by decide) rfl (fun hc967 => ?_) (fun hc967 => ?_)
        · replace hc967 : (p4 &&& (8 : Int32)) = 0 := hc967
          refine W.iloadN (q := 69) X0 C at_68 rfl rfl ?_
          refine W.bipush (q := 71) (v := 16) X0 C at_69 rfl rfl ?_
          refine W.iushr (q := 72) X0 C at_71 rfl ?_
          refine W.i2c (q := 73) X0 C at_72 rfl ?_
          generalize hv968 : (((p1.toUInt32 >>> ((16 : Int32) &&& 31).toUInt32).toInt32).toUInt32.toUInt16.toUInt32.toInt32) = v968
          refine W.istore (q := 75) (L' := #[.val (.int p0), .val (.int p1), .val (.int p2), .val (.int p3), .val (.int p4), .val (.int v934), .val (.int v934), .val (.int v960), .val (.int v934), .val (.int v968), .unset, .unset, .unset, .unset, .unset, .unset, .unset, .unset]) X0 C at_73 rfl rfl ?_
          refine W.iload (q := 77) X0 C at_75 rfl rfl ?_
          refine W.iconst (q := 78) (v := 4) X0 C at_77 rfl rfl ?_
          refine W.iushr (q := 79) X0 C at_78 rfl ?_
          refine W.bipush (q := 81) (v := 7) X0 C at_79 rfl rfl ?_
          refine W.iand (q := 82) X0 C at_81 rfl ?_
          refine W.iconst (q := 83) (v := 5) X0 C at_82 rfl rfl ?_
          refine W.irem (q := 84) X0 C at_83 (by decide) rfl ?_
          generalize hv969 : ((((p4.toUInt32 >>> ((4 : Int32) &&& 31).toUInt32).toInt32) &&& (7 : Int32)) % (5 : Int32)) = v969
          refine W.istore (q := 86) (L' := #[.val (.int p0), .val (.int p1), .val (.int p2), .val (.int p3), .val (.int p4), .val (.int v934), .val (.int v934), .val (.int v960), .val (.int v934), .val (.int v968), .val (.int v969), .unset, .unset, .unset, .unset, .unset, .unset, .unset]) X0 C at_84 rfl rfl ?_
          exact own_qa l Z a0 hw h0 n0 p0 p1 p2 p3 p4 v934 v934 v960 v934 v968 cs fv _ _ v969 C X0 e0 N0 Z0 hS0 hk0 R0.1 (own_c16 hv934) (own_c16 hv934) (own_c16 hv960) (own_c16 hv934) (own_c16 hv968) O0 SS (own_m5 hv969)
        · replace hc967 : (p4 &&& (8 : Int32)) ≠ 0 := hc967
          refine W.iload (q := 65) X0 C at_63 rfl rfl ?_
          refine W.goto (q := 73) X0 C at_65 (by decide) (by decide) ?_
          refine W.istore (q := 75) (L' := #[.val (.int p0), .val (.int p1), .val (.int p2), .val (.int p3), .val (.int p4), .val (.int v934), .val (.int v934), .val (.int v960), .val (.int v934), .val (.int v934), .unset, .unset, .unset, .unset, .unset, .unset, .unset, .unset]) X0 C at_73 rfl rfl ?_
          refine W.iload (q := 77) X0 C at_75 rfl rfl ?_
          refine W.iconst (q := 78) (v := 4) X0 C at_77 rfl rfl ?_
          refine W.iushr (q := 79) X0 C at_78 rfl ?_
          refine W.bipush (q := 81) (v := 7) X0 C at_79 rfl rfl ?_
          refine W.iand (q := 82) X0 C at_81 rfl ?_
          refine W.iconst (q := 83) (v := 5) X0 C at_82 rfl rfl ?_
          refine W.irem (q := 84) X0 C at_83 (by decide) rfl ?_
          generalize hv970 : ((((p4.toUInt32 >>> ((4 : Int32) &&& 31).toUInt32).toInt32) &&& (7 : Int32)) % (5 : Int32)) = v970
          refine W.istore (q := 86) (L' := #[.val (.int p0), .val (.int p1), .val (.int p2), .val (.int p3), .val (.int p4), .val (.int v934), .val (.int v934), .val (.int v960), .val (.int v934), .val (.int v934), .val (.int v970), .unset, .unset, .unset, .unset, .unset, .unset, .unset]) X0 C at_84 rfl rfl ?_
          exact own_qa l Z a0 hw h0 n0 p0 p1 p2 p3 p4 v934 v934 v960 v934 v934 cs fv _ _ v970 C X0 e0 N0 Z0 hS0 hk0 R0.1 (own_c16 hv934) (own_c16 hv934) (own_c16 hv960) (own_c16 hv934) (own_c16 hv934) O0 SS (own_m5 hv970)
    · replace hc959 : (p4 &&& (2 : Int32)) ≠ 0 := hc959
      refine W.iload (q := 29) X0 C at_27 rfl rfl ?_
      refine W.goto (q := 37) X0 C at_29 (by decide) (by decide) ?_
      refine W.istore (q := 39) (L' := #[.val (.int p0), .val (.int p1), .val (.int p2), .val (.int p3), .val (.int p4), .val (.int v934), .val (.int v934), .val (.int v934), .unset, .unset, .unset, .unset, .unset, .unset, .unset, .unset, .unset, .unset]) X0 C at_37 rfl rfl ?_
      refine W.iload (q := 41) X0 C at_39 rfl rfl ?_
      refine W.iconst (q := 42) (v := 4) X0 C at_41 rfl rfl ?_
      refine W.iand (q := 43) X0 C at_42 rfl ?_
      refine W.if_ (q := 51) (q' := 46) X0 C at_43 (by decide) (by decide) rfl (fun hc971 => ?_) (fun hc971 => ?_)
      · replace hc971 : (p4 &&& (4 : Int32)) = 0 := hc971
        refine W.iloadN (q := 52) X0 C at_51 rfl rfl ?_
        refine W.i2c (q := 53) X0 C at_52 rfl ?_
        generalize hv972 : (p1.toUInt32.toUInt16.toUInt32.toInt32) = v972
        refine W.istore (q := 55) (L' := #[.val (.int p0), .val (.int p1), .val (.int p2), .val (.int p3), .val (.int p4), .val (.int v934), .val (.int v934), .val (.int v934), .val (.int v972), .unset, .unset, .unset, .unset, .unset, .unset, .unset, .unset, .unset]) X0 C at_53 rfl rfl ?_
        refine W.iload (q := 57) X0 C at_55 rfl rfl ?_
        refine W.bipush (q := 59) (v := 8) X0 C at_57 rfl rfl ?_
        refine W.iand (q := 60) X0 C at_59 rfl ?_
        refine W.if_ (q := 68) (q' := 63) X0 C at_60 (by decide) (by decide) rfl (fun hc973 => ?_) (fun hc973 => ?_)
        · replace hc973 : (p4 &&& (8 : Int32)) = 0 := hc973
          refine W.iloadN (q := 69) X0 C at_68 rfl rfl ?_
          refine W.bipush (q := 71) (v := 16) X0 C at_69 rfl rfl ?_
          refine W.iushr (q := 72) X0 C at_71 rfl ?_
          refine W.i2c (q := 73) X0 C at_72 rfl ?_
          generalize hv974 : (((p1.toUInt32 >>> ((16 : Int32) &&& 31).toUInt32).toInt32).toUInt32.toUInt16.toUInt32.toInt32) = v974
          refine W.istore (q := 75) (L' := #[.val (.int p0), .val (.int p1), .val (.int p2), .val (.int p3), .val (.int p4), .val (.int v934), .val (.int v934), .val (.int v934), .val (.int v972), .val (.int v974), .unset, .unset, .unset, .unset, .unset, .unset, .unset, .unset]) X0 C at_73 rfl rfl ?_
          refine W.iload (q := 77) X0 C at_75 rfl rfl ?_
          refine W.iconst (q := 78) (v := 4) X0 C at_77 rfl rfl ?_
          refine W.iushr (q := 79) X0 C at_78 rfl ?_
          refine W.bipush (q := 81) (v := 7) X0 C at_79 rfl rfl ?_
          refine W.iand (q := 82) X0 C at_81 rfl ?_
          refine W.iconst (q := 83) (v := 5) X0 C at_82 rfl rfl ?_
          refine W.irem (q := 84) X0 C at_83 (by decide) rfl ?_
          generalize hv975 : ((((p4.toUInt32 >>> ((4 : Int32) &&& 31).toUInt32).toInt32) &&& (7 : Int32)) % (5 : Int32)) = v975
          refine W.istore (q := 86) (L' := #[.val (.int p0), .val (.int p1), .val (.int p2), .val (.int p3), .val (.int p4), .val (.int v934), .val (.int v934), .val (.int v934), .val (.int v972), .val (.int v974), .val (.int v975), .unset, .unset, .unset, .unset, .unset, .unset, .unset]) X0 C at_84 rfl rfl ?_
          exact own_qa l Z a0 hw h0 n0 p0 p1 p2 p3 p4 v934 v934 v934 v972 v974 cs fv _ _ v975 C X0 e0 N0 Z0 hS0 hk0 R0.1 (own_c16 hv934) (own_c16 hv934) (own_c16 hv934) (own_c16 hv972) (own_c16 hv974) O0 SS (own_m5 hv975)
        · replace hc973 : (p4 &&& (8 : Int32)) ≠ 0 := hc973
          refine W.iload (q := 65) X0 C at_63 rfl rfl ?_
          refine W.goto (q := 73) X0 C at_65 (by decide) (by decide) ?_
          refine W.istore (q := 75) (L' := #[.val (.int p0), .val (.int p1), .val (.int p2), .val (.int p3), .val (.int p4), .val (.int v934), .val (.int v934), .val (.int v934), .val (.int v972), .val (.int v934), .unset, .unset, .unset, .unset, .unset, .unset, .unset, .unset]) X0 C at_73 rfl rfl ?_
          refine W.iload (q := 77) X0 C at_75 rfl rfl ?_
          refine W.iconst (q := 78) (v := 4) X0 C at_77 rfl rfl ?_
          refine W.iushr (q := 79) X0 C at_78 rfl ?_
          refine W.bipush (q := 81) (v := 7) X0 C at_79 rfl rfl ?_
          refine W.iand (q := 82) X0 C at_81 rfl ?_
          refine W.iconst (q := 83) (v := 5) X0 C at_82 rfl rfl ?_
          refine W.irem (q := 84) X0 C at_83 (by decide) rfl ?_
          generalize hv976 : ((((p4.toUInt32 >>> ((4 : Int32) &&& 31).toUInt32).toInt32) &&& (7 : Int32)) % (5 : Int32)) = v976
          refine W.istore (q := 86) (L' := #[.val (.int p0), .val (.int p1), .val (.int p2), .val (.int p3), .val (.int p4), .val (.int v934), .val (.int v934), .val (.int v934), .val (.int v972), .val (.int v934), .val (.int v976), .unset, .unset, .unset, .unset, .unset, .unset, .unset]) X0 C at_84 rfl rfl ?_
          exact own_qa l Z a0 hw h0 n0 p0 p1 p2 p3 p4 v934 v934 v934 v972 v934 cs fv _ _ v976 C X0 e0 N0 Z0 hS0 hk0 R0.1 (own_c16 hv934) (own_c16 hv934) (own_c16 hv934) (own_c16 hv972) (own_c16 hv934) O0 SS (own_m5 hv976)
      · replace hc971 : (p4 &&& (4 : Int32)) ≠ 0 := hc971
        refine W.iload (q := 48) X0 C at_46 rfl rfl ?_
        refine W.goto (q := 53) X0 C at_48 (by decide) (by decide) ?_
        refine W.istore (q := 55) (L' := #[.val (.int p0), .val (.int p1), .val (.int p2), .val (.int p3), .val (.int p4), .val (.int v934), .val (.int v934), .val (.int v934), .val (.int v934), .unset, .unset, .unset, .unset, .unset, .unset, .unset, .unset, .unset]) X0 C at_53 rfl rfl ?_
        refine W.iload (q := 57) X0 C at_55 rfl rfl ?_
        refine W.bipush (q := 59) (v := 8) X0 C at_57 rfl rfl ?_
        refine W.iand (q := 60) X0 C at_59 rfl ?_
        refine W.if_ (q := 68) (q' := 63) X0 C at_60 (by decide) (by decide) rfl (fun hc977 => ?_) (fun hc977 => ?_)
        · replace hc977 : (p4 &&& (8 : Int32)) = 0 := hc977
          refine W.iloadN (q := 69) X0 C at_68 rfl rfl ?_
          refine W.bipush (q := 71) (v := 16) X0 C at_69 rfl rfl ?_
          refine W.iushr (q := 72) X0 C at_71 rfl ?_
          refine W.i2c (q := 73) X0 C at_72 rfl ?_
          generalize hv978 : (((p1.toUInt32 >>> ((16 : Int32) &&& 31).toUInt32).toInt32).toUInt32.toUInt16.toUInt32.toInt32) = v978
          refine W.istore (q := 75) (L' := #[.val (.int p0), .val (.int p1), .val (.int p2), .val (.int p3), .val (.int p4), .val (.int v934), .val (.int v934), .val (.int v934), .val (.int v934), .val (.int v978), .unset, .unset, .unset, .unset, .unset, .unset, .unset, .unset]) X0 C at_73 rfl rfl ?_
          refine W.iload (q := 77) X0 C at_75 rfl rfl ?_
          refine W.iconst (q := 78) (v := 4) X0 C at_77 rfl rfl ?_
          refine W.iushr (q := 79) X0 C at_78 rfl ?_
          refine W.bipush (q := 81) (v := 7) X0 C at_79 rfl rfl ?_
          refine W.iand (q := 82) X0 C at_81 rfl ?_
          refine W.iconst (q := 83) (v := 5) X0 C at_82 rfl rfl ?_
          refine W.irem (q := 84) X0 C at_83 (by decide) rfl ?_
          generalize hv979 : ((((p4.toUInt32 >>> ((4 : Int32) &&& 31).toUInt32).toInt32) &&& (7 : Int32)) % (5 : Int32)) = v979
          refine W.istore (q := 86) (L' := #[.val (.int p0), .val (.int p1), .val (.int p2), .val (.int p3), .val (.int p4), .val (.int v934), .val (.int v934), .val (.int v934), .val (.int v934), .val (.int v978), .val (.int v979), .unset, .unset, .unset, .unset, .unset, .unset, .unset]) X0 C at_84 rfl rfl ?_
          exact own_qa l Z a0 hw h0 n0 p0 p1 p2 p3 p4 v934 v934 v934 v934 v978 cs fv _ _ v979 C X0 e0 N0 Z0 hS0 hk0 R0.1 (own_c16 hv934) (own_c16 hv934) (own_c16 hv934) (own_c16 hv934) (own_c16 hv978) O0 SS (own_m5 hv979)
        · replace hc977 : (p4 &&& (8 : Int32)) ≠ 0 := hc977
          refine W.iload (q := 65) X0 C at_63 rfl rfl ?_
          refine W.goto (q := 73) X0 C at_65 (by decide) (by decide) ?_
          refine W.istore (q := 75) (L' := #[.val (.int p0), .val (.int p1), .val (.int p2), .val (.int p3), .val (.int p4), .val (.int v934), .val (.int v934), .val (.int v934), .val (.int v934), .val (.int v934), .unset, .unset, .unset, .unset, .unset, .unset, .unset, .unset]) X0 C at_73 rfl rfl ?_
          refine W.iload (q := 77) X0 C at_75 rfl rfl ?_
          refine W.iconst (q := 78) (v := 4) X0 C at_77 rfl rfl ?_
          refine W.iushr (q := 79) X0 C at_78 rfl ?_
          refine W.bipush (q := 81) (v := 7) X0 C at_79 rfl rfl ?_
          refine W.iand (q := 82) X0 C at_81 rfl ?_
          refine W.iconst (q := 83) (v := 5) X0 C at_82 rfl rfl ?_
          refine W.irem (q := 84) X0 C at_83 (by decide) rfl ?_
          generalize hv980 : ((((p4.toUInt32 >>> ((4 : Int32) &&& 31).toUInt32).toInt32) &&& (7 : Int32)) % (5 : Int32)) = v980
          refine W.istore (q := 86) (L' := #[.val (.int p0), .val (.int p1), .val (.int p2), .val (.int p3), .val (.int p4), .val (.int v934), .val (.int v934), .val (.int v934), .val (.int v934), .val (.int v934), .val (.int v980), .unset, .unset, .unset, .unset, .unset, .unset, .unset]) X0 C at_84 rfl rfl ?_
          exact own_qa l Z a0 hw h0 n0 p0 p1 p2 p3 p4 v934 v934 v934 v934 v934 cs fv _ _ v980 C X0 e0 N0 Z0 hS0 hk0 R0.1 (own_c16 hv934) (own_c16 hv934) (own_c16 hv934) (own_c16 hv934) (own_c16 hv934) O0 SS (own_m5 hv980)
set_option maxRecDepth 65536 in
set_option maxHeartbeats 40000000 in
theorem comes_1 {Post : Tables → Env → Array Value → State → Outcome → State → Prop} (hpost : ∀ tb e args s v u, (limb_1_1.after args s (.returned v) u = true ∧ limb_1_2.after args s (.returned v) u = true ∧ True) → ReturnedEndW s (.returned v) u (Jvm.fieldLocs frame_1_writes args s ++ Jvm.arrayLocs frame_1_arrays args s ++ Jvm.staticLocs frame_1_statics s) 24 1152 → Post tb e args s (.returned v) u) :
    ArmFor flags0 classFile x code maxLocals ret World_1 tables_1 room_1 Calls_1 rest_1 Pre_1 Post := by
  intro l hfl _ _ p e ha hc hk s m args below hf hA hF happ hP
  obtain ⟨hcalls, hrest, hpre⟩ := hP
  obtain ⟨-, -, -, hnamed, -, -, -, hat⟩ := (Spec.applies_iff hf).mp happ
  obtain ⟨hg, hn⟩ := and_e (Cond.before_iff.mp (show (Jvm.Cond.and given_1 narrow_1).before args s = true from hpre))
  obtain ⟨g1, g2⟩ := and_e hg
  obtain ⟨g3, g4⟩ := and_e g2
  obtain ⟨g5, g6⟩ := and_e g4
  obtain ⟨g7, g8⟩ := and_e g6
  obtain ⟨g9, g10⟩ := and_e g8
  obtain ⟨w0, w1, w2, w3, w4, rfl⟩ : ∃ w0 w1 w2 w3 w4 : Value, args = #[w0, w1, w2, w3, w4] := by
    have hs : args.size = 5 := by simpa [Cond.value, given_1] using g1
    obtain ⟨L⟩ := args
    match L, hs with
    | [w0, w1, w2, w3, w4], _ => exact ⟨w0, w1, w2, w3, w4, rfl⟩
  have hw := fun d (hd : d ∈ tables_1) => atoms_spec (ws := Jvm.Cond.code x code maxLocals ret :: tables_1) hat d (List.mem_cons_of_mem _ hd)
  have hfit : Fit s := fun {y c} hc i hi => by
    obtain ⟨ha, rfl⟩ := Array.getElem?_eq_some_iff.mp hc
    have q := List.all_eq_true.mp ((Array.all_eq_true_iff_forall_mem.mp hF) _ (Array.getElem_mem ha)) i (List.mem_range.mpr hi)
    simpa [Array.getElem?_eq_getElem hi] using q
  obtain ⟨hsets, hown0⟩ := atoms_of _ (rest_1_c_eq ▸ (show rest_1_c.before _ s = true from hrest))
  have hr0 := Cond.before_iff.mp hown0
  obtain ⟨i0, ei0⟩ := is_v g3
  obtain rfl : w0 = (.int i0) := Option.some.inj ei0
  obtain ⟨i1, ei1⟩ := is_v g5
  obtain rfl : w1 = (.int i1) := Option.some.inj ei1
  obtain ⟨i2, ei2⟩ := is_v g7
  obtain rfl : w2 = (.int i2) := Option.some.inj ei2
  obtain ⟨i3, ei3⟩ := is_v g9
  obtain rfl : w3 = (.int i3) := Option.some.inj ei3
  obtain ⟨i4, ei4⟩ := is_v g10
  obtain rfl : w4 = (.int i4) := Option.some.inj ei4
  have hs1 := Cond.before_iff.mp (hsets _ (List.mem_of_getElem? (i := 1) rfl))
  obtain ⟨cs, evC⟩ := is_v hs1
  have SC := Sta.start evC (Or.inl (hsets _ (List.mem_of_getElem? (i := 0) rfl)))
  have hs2 := Cond.before_iff.mp (hsets _ (List.mem_of_getElem? (i := 2) rfl))
  have hcs : cs ≠ 0 := fun q => by subst q; exact absurd ((eq_i evC (Term.int_eval 0) rfl).symm.trans (not_v hs2)) (by decide)
  have hs8 := Cond.before_iff.mp (hsets _ (List.mem_of_getElem? (i := 8) rfl))
  obtain ⟨fv, evF, hfv⟩ := isR_v hs8
  have SF := Sta.start evF (Or.inl (hsets _ (List.mem_of_getElem? (i := 7) rfl)))
  have SA := Sta.start (eqv_i (Term.int_eval 1) (Cond.before_iff.mp (hsets _ (List.mem_of_getElem? (i := 12) rfl)))) (Or.inl (hsets _ (List.mem_of_getElem? (i := 11) rfl)))
  have SH := Sta.start (eqv_i (Term.int_eval 0) (Cond.before_iff.mp (hsets _ (List.mem_of_getElem? (i := 15) rfl)))) (Or.inl (hsets _ (List.mem_of_getElem? (i := 14) rfl)))
  have SL := Sta.start (eqv_i (Term.int_eval 8) (Cond.before_iff.mp (hsets _ (List.mem_of_getElem? (i := 18) rfl)))) (Or.inl (hsets _ (List.mem_of_getElem? (i := 17) rfl)))
  obtain ⟨n, o, h1, h2, h3, _, L, rfl, ⟨rfl, N⟩, hq⟩ := rm0 l s _ hw tables_1 i0 i1 i2 i3 i4 cs fv s.heap s.heap.size (Nat.le_refl _) (Old.start s) ⟨SC, hcs, SA, SH, SL, SF, hfv⟩ p e ha hc hk s m _ below hf ((Spec.applies_iff_loose hf).mp happ).1 ⟨rfl, State.Warmed39.refl s, rfl, own_CH hw hcalls.1 (hsets _ (List.mem_of_getElem? (i := 2) rfl))⟩ trivial
  refine ⟨n, _, h1, h2, h3, hpost _ _ _ _ _ _ ⟨Cond.after_iff.mpr rfl, Cond.after_iff.mpr (eq_i res_at (Term.int_eval (1)) rfl), trivial⟩ ⟨hq.1, hq.2.1, hq.2.2.1, (hq.2.2.2.sift fun y hy => Or.inr (N y hy)).mono (by decide) (by decide)⟩⟩
theorem main_1_1 : Claimed_1_1 := comes_1 fun _ _ _ _ _ _ h hF => ⟨h.1, hF⟩
theorem main_1_2 : Claimed_1_2 := comes_1 fun _ _ _ _ _ _ h hF => ⟨h.2.1, hF⟩
end Jvm.Pilot.@@N@@
namespace Jvm.Pilot.@@N@@
open Jvm Jvm.ClassFile Sem Op Lib Jvm.Free Jvm.Stand Jvm.Pilot.@@N@@.Jvm.D
/-! MADE BY PROGRAM (witnessworld.py) out of the Statement's table words and the real class files: 21 classes; the members and pool entries that the words name. The judged class is class 1, her method 1. -/
namespace start1
open Jvm.ClassFile
def u (s : String) : CpInfo := .utf8 (stringToUtf16 s)
/-- a pool by its gaps: so many unusable entries, then the entry; so many at the end -/
def gap : Nat → List CpInfo → List CpInfo
  | 0, r => r
  | n + 1, r => .unusable :: gap n r
def poolList (es : List (Nat × CpInfo)) (last : Nat) : List CpInfo := es.foldr (fun e r => gap e.1 (e.2 :: r)) (gap last [])
def pool (es : List (Nat × CpInfo)) (last : Nat) : Array CpInfo := ⟨poolList es last⟩
def fileOf (pool : Array CpInfo) (this : Nat) (attrs : Array Attribute := #[]) (ms : Array MethodInfo := #[]) (fl : Nat := 33) (sup : Nat := 0) (ifs : Array Nat := #[]) (fds : Array FieldInfo := #[]) : ClassFile where
  minorVersion := 0
  majorVersion := 65
  constantPool := pool
  accessFlags := fl
  thisClass := this
  superClass := sup
  interfaces := ifs
  fields := fds
  methods := ms
  attributes := attrs
def plain (name : String) (sup : Option ClassId) : Class where
  name := name
  kind := .ordinary
  loader := none
  accessFlags := 33
  super := sup
  interfaces := #[]
  cf := none
  fields := #[]
  methods := #[]
  instanceTypes := #[]
  staticTypes := #[]
  resolved := #[]
  callSites := []
  init := .initialized
  statics := none
  mirror := none

def pool0 : Array CpInfo := pool [(5, u "<init>"), (0, u "()V"), (1, .class_ 10), (1, u "java/lang/Object")] 113

def k0c0 : Code := { maxStack := 0, maxLocals := 1, code := object_method_1_code, exceptionTable := #[], attributes := #[] }
def k0m0 : Method := { name := "<init>", desc := "()V", sig := { parameters := [], returnType := none }, accessFlags := 1, code := some k0c0 }
/-- java/lang/Object -/
def k0 : Class := { plain "java/lang/Object" none with
  accessFlags := 33
  interfaces := #[]
  cf := some (fileOf pool0 8 #[] #[{ accessFlags := 1, nameIndex := 5, descriptorIndex := 6, attributes := #[] }] 33 0 #[] #[])
  fields := #[]
  methods := #[k0m0]
  instanceTypes := #[]
  staticTypes := #[]
  resolved := Array.replicate 124 none
  statics := none }

def pool1 : Array CpInfo := pool [(2, .class_ 4), (1, u "java/lang/Object"), (0, u "<init>"), (0, u "()V"), (0, .class_ 8), (0, u "java/lang/String"), (0, .methodref 7 10), (0, .nameAndType 5 11), (0, u "([C)V"), (0, .methodref 13 14), (0, .class_ 15), (0, .nameAndType 16 17), (0, u "com/example/orderwire/orderwire/hl7/EncodingPartStartPinLaw"), (0, u "reference"), (0, u "(ZZZZI)I"), (0, .methodref 19 20), (0, .class_ 21), (0, .nameAndType 22 23), (0, u "com/example/orderwire/orderwire/hl7/Encoding"), (0, u "partStart"), (0, u "(Ljava/lang/String;CI)I"), (2, u "law"), (0, u "(IIIII)Z")] 5

def k1m0 : Method := { name := "<init>", desc := "()V", sig := { parameters := [], returnType := none }, accessFlags := 1, code := none }
def k1c1 : Code := { maxStack := 5, maxLocals := 18, code := code, exceptionTable := #[], attributes := #[] }
def k1m1 : Method := { name := "law", desc := "(IIIII)Z", sig := { parameters := [.int, .int, .int, .int, .int], returnType := some .boolean }, accessFlags := 9, code := some k1c1 }
def k1c2 : Code := { maxStack := 2, maxLocals := 8, code := method_3_code, exceptionTable := #[], attributes := #[] }
def k1m2 : Method := { name := "reference", desc := "(ZZZZI)I", sig := { parameters := [.boolean, .boolean, .boolean, .boolean, .int], returnType := some .int }, accessFlags := 10, code := some k1c2 }
/-- com/example/orderwire/orderwire/hl7/EncodingPartStartPinLaw -/
def k1 : Class := { plain "com/example/orderwire/orderwire/hl7/EncodingPartStartPinLaw" (some 0) with
  accessFlags := 49
  interfaces := #[]
  cf := some (fileOf pool1 13 #[] #[{ accessFlags := 1, nameIndex := 5, descriptorIndex := 6, attributes := #[] }, { accessFlags := 9, nameIndex := 26, descriptorIndex := 27, attributes := #[] }, { accessFlags := 10, nameIndex := 16, descriptorIndex := 17, attributes := #[] }] 49 2 #[] #[])
  fields := #[]
  methods := #[k1m0, k1m1, k1m2]
  instanceTypes := #[]
  staticTypes := #[]
  resolved := Array.replicate 33 none
  statics := none }

def pool2 : Array CpInfo := pool [(1, .class_ 2), (0, u "java/io/Serializable"), (0, .class_ 4), (0, u "java/lang/Object")] 2

/-- java/io/Serializable -/
def k2 : Class := { plain "java/io/Serializable" (some 0) with
  accessFlags := 1537
  interfaces := #[]
  cf := some (fileOf pool2 1 #[] #[] 1537 3 #[] #[])
  fields := #[]
  methods := #[]
  instanceTypes := #[]
  staticTypes := #[]
  resolved := Array.replicate 7 none
  statics := none }

def pool3 : Array CpInfo := pool [(1, .class_ 2), (0, u "java/lang/Comparable"), (0, .class_ 4), (0, u "java/lang/Object")] 7

/-- java/lang/Comparable -/
def k3 : Class := { plain "java/lang/Comparable" (some 0) with
  accessFlags := 1537
  interfaces := #[]
  cf := some (fileOf pool3 1 #[] #[] 1537 3 #[] #[])
  fields := #[]
  methods := #[]
  instanceTypes := #[]
  staticTypes := #[]
  resolved := Array.replicate 12 none
  statics := none }

def pool4 : Array CpInfo := pool [(2, .class_ 4), (1, u "java/lang/CharSequence"), (42, .class_ 48), (0, u "java/lang/CharSequence$1CodePointIterator"), (10, .class_ 60), (0, u "java/lang/CharSequence$1CharIterator"), (5, .class_ 67), (0, u "java/lang/Object")] 63

/-- java/lang/CharSequence -/
def k4 : Class := { plain "java/lang/CharSequence" (some 0) with
  accessFlags := 1537
  interfaces := #[]
  cf := some (fileOf pool4 2 #[.nestMembers #[47, 59]] #[] 1537 66 #[] #[])
  fields := #[]
  methods := #[]
  instanceTypes := #[]
  staticTypes := #[]
  resolved := Array.replicate 131 none
  statics := none }

def pool5 : Array CpInfo := pool [(1, .class_ 2), (0, u "java/lang/constant/Constable"), (0, .class_ 4), (0, u "java/lang/Object")] 6

/-- java/lang/constant/Constable -/
def k5 : Class := { plain "java/lang/constant/Constable" (some 0) with
  accessFlags := 1537
  interfaces := #[]
  cf := some (fileOf pool5 1 #[] #[] 1537 3 #[] #[])
  fields := #[]
  methods := #[]
  instanceTypes := #[]
  staticTypes := #[]
  resolved := Array.replicate 11 none
  statics := none }

def pool6 : Array CpInfo := pool [(1, .class_ 2), (0, u "java/lang/constant/ConstantDesc"), (0, .class_ 4), (0, u "java/lang/Object")] 32

/-- java/lang/constant/ConstantDesc -/
def k6 : Class := { plain "java/lang/constant/ConstantDesc" (some 0) with
  accessFlags := 1537
  interfaces := #[]
  cf := some (fileOf pool6 1 #[] #[] 1537 3 #[] #[])
  fields := #[]
  methods := #[]
  instanceTypes := #[]
  staticTypes := #[]
  resolved := Array.replicate 37 none
  statics := none }

def pool7 : Array CpInfo := pool [(1, .methodref 2 3), (0, .class_ 4), (0, .nameAndType 5 6), (0, u "java/lang/Object"), (0, u "<init>"), (0, u "()V"), (0, .string 8), (0, u ""), (0, .fieldref 10 11), (0, .class_ 12), (0, .nameAndType 13 14), (0, u "java/lang/String"), (0, u "value"), (0, u "[B"), (0, .fieldref 10 16), (0, .nameAndType 17 18), (0, u "coder"), (0, u "B"), (2, u "hash"), (0, u "I"), (2, u "hashIsZero"), (0, u "Z"), (0, .methodref 10 28), (0, .nameAndType 5 29), (0, u "([CIILjava/lang/Void;)V"), (8, .fieldref 10 39), (0, .nameAndType 40 26), (0, u "COMPACT_STRINGS"), (1, .class_ 44), (1, u "java/lang/StringUTF16"), (0, u "compress"), (1, .methodref 42 48), (0, .nameAndType 49 50), (0, u "coderFromArrayLen"), (0, u "([BI)B"), (56, .class_ 109), (1, u "java/lang/StringLatin1"), (32, u "()Z"), (34, .methodref 42 178), (0, .nameAndType 45 179), (0, u "([CII)[B"), (154, u "()I"), (0, .methodref 10 336), (0, .nameAndType 17 337), (0, u "()B"), (154, .methodref 10 493), (0, .nameAndType 494 142), (0, u "isLatin1"), (10, .methodref 10 506), (0, .nameAndType 507 334), (0, u "length"), (5, u "checkFromToIndex"), (9, u "checkBoundsBeginEnd"), (0, u "(III)V"), (50, .class_ 576), (0, u "java/lang/CharSequence"), (22, u "CASE_INSENSITIVE_ORDER"), (0, u "Ljava/util/Comparator;"), (34, u "indexOf"), (0, u "(II)I"), (0, .methodref 107 638), (0, .nameAndType 635 639), (0, u "([BIII)I"), (0, .methodref 42 638), (369, u "([C)V"), (42, .fieldref 1054 1055), (0, .class_ 1056), (0, .nameAndType 1057 1058), (0, u "jdk/internal/util/Preconditions"), (0, u "SIOOBE_FORMATTER"), (0, u "Ljava/util/function/BiFunction;"), (3, .methodref 1054 1063), (0, .nameAndType 513 1064), (0, u "(IIILjava/util/function/BiFunction;)I"), (36, u "serialPersistentFields"), (0, u "[Ljava/io/ObjectStreamField;"), (0, .class_ 1104), (0, u "java/lang/String$CaseInsensitiveComparator"), (1, .class_ 1107), (0, u "java/io/Serializable"), (0, .class_ 1109), (0, u "java/lang/Comparable"), (0, .class_ 1111), (0, u "java/lang/constant/Constable"), (0, .class_ 1113), (0, u "java/lang/constant/ConstantDesc"), (2, u "serialVersionUID"), (0, u "J"), (3, u "REPL"), (0, u "C"), (2, u "LATIN1"), (1, u "UTF16")] 323

def k7m0 : Method := { name := "<init>", desc := "()V", sig := { parameters := [], returnType := none }, accessFlags := 1, code := none }
def k7c1 : Code := { maxStack := 5, maxLocals := 2, code := jdk_42_method_3_code, exceptionTable := #[], attributes := #[] }
def k7m1 : Method := { name := "<init>", desc := "([C)V", sig := { parameters := [(.array .char)], returnType := none }, accessFlags := 1, code := some k7c1 }
def k7c2 : Code := { maxStack := 2, maxLocals := 1, code := jdk_42_method_54_code, exceptionTable := #[], attributes := #[] }
def k7m2 : Method := { name := "length", desc := "()I", sig := { parameters := [], returnType := some .int }, accessFlags := 1, code := some k7c2 }
def k7c3 : Code := { maxStack := 4, maxLocals := 3, code := jdk_42_method_80_code, exceptionTable := #[], attributes := #[] }
def k7m3 : Method := { name := "indexOf", desc := "(II)I", sig := { parameters := [.int, .int], returnType := some .int }, accessFlags := 1, code := some k7c3 }
def k7c4 : Code := { maxStack := 4, maxLocals := 6, code := jdk_42_method_149_code, exceptionTable := #[], attributes := #[] }
def k7m4 : Method := { name := "<init>", desc := "([CIILjava/lang/Void;)V", sig := { parameters := [(.array .char), .int, .int, (.object "java/lang/Void")], returnType := none }, accessFlags := 2, code := some k7c4 }
def k7c5 : Code := { maxStack := 1, maxLocals := 1, code := jdk_42_method_152_code, exceptionTable := #[], attributes := #[] }
def k7m5 : Method := { name := "coder", desc := "()B", sig := { parameters := [], returnType := some .byte }, accessFlags := 0, code := some k7c5 }
def k7c6 : Code := { maxStack := 1, maxLocals := 1, code := jdk_42_method_154_code, exceptionTable := #[], attributes := #[] }
def k7m6 : Method := { name := "isLatin1", desc := "()Z", sig := { parameters := [], returnType := some .boolean }, accessFlags := 0, code := some k7c6 }
def k7c7 : Code := { maxStack := 4, maxLocals := 3, code := jdk_42_method_158_code, exceptionTable := #[], attributes := #[] }
def k7m7 : Method := { name := "checkBoundsBeginEnd", desc := "(III)V", sig := { parameters := [.int, .int, .int], returnType := none }, accessFlags := 8, code := some k7c7 }
/-- java/lang/String -/
def k7 : Class := { plain "java/lang/String" (some 0) with
  accessFlags := 49
  interfaces := #[2, 3, 4, 5, 6]
  cf := some (fileOf pool7 10 #[.nestMembers #[1103]] #[{ accessFlags := 1, nameIndex := 5, descriptorIndex := 6, attributes := #[] }, { accessFlags := 1, nameIndex := 5, descriptorIndex := 1010, attributes := #[] }, { accessFlags := 1, nameIndex := 507, descriptorIndex := 334, attributes := #[] }, { accessFlags := 1, nameIndex := 635, descriptorIndex := 636, attributes := #[] }, { accessFlags := 2, nameIndex := 5, descriptorIndex := 29, attributes := #[] }, { accessFlags := 0, nameIndex := 17, descriptorIndex := 337, attributes := #[] }, { accessFlags := 0, nameIndex := 494, descriptorIndex := 142, attributes := #[] }, { accessFlags := 8, nameIndex := 523, descriptorIndex := 524, attributes := #[] }] 49 2 #[1106, 1108, 575, 1110, 1112] #[{ accessFlags := 18, nameIndex := 13, descriptorIndex := 14, attributes := #[] }, { accessFlags := 18, nameIndex := 17, descriptorIndex := 18, attributes := #[] }, { accessFlags := 2, nameIndex := 21, descriptorIndex := 22, attributes := #[] }, { accessFlags := 2, nameIndex := 25, descriptorIndex := 26, attributes := #[] }, { accessFlags := 26, nameIndex := 1116, descriptorIndex := 1117, attributes := #[] }, { accessFlags := 24, nameIndex := 40, descriptorIndex := 26, attributes := #[] }, { accessFlags := 26, nameIndex := 1101, descriptorIndex := 1102, attributes := #[] }, { accessFlags := 26, nameIndex := 1121, descriptorIndex := 1122, attributes := #[] }, { accessFlags := 25, nameIndex := 599, descriptorIndex := 600, attributes := #[] }, { accessFlags := 24, nameIndex := 1125, descriptorIndex := 18, attributes := #[] }, { accessFlags := 24, nameIndex := 1127, descriptorIndex := 18, attributes := #[] }])
  fields := #[{ name := "value", type := (.array .byte), accessFlags := 18, slot := 0, constantValue := 0 }, { name := "coder", type := .byte, accessFlags := 18, slot := 1, constantValue := 0 }, { name := "hash", type := .int, accessFlags := 2, slot := 2, constantValue := 0 }, { name := "hashIsZero", type := .boolean, accessFlags := 2, slot := 3, constantValue := 0 }, { name := "serialVersionUID", type := .long, accessFlags := 26, slot := 0, constantValue := 0 }, { name := "COMPACT_STRINGS", type := .boolean, accessFlags := 24, slot := 1, constantValue := 0 }, { name := "serialPersistentFields", type := (.array (.object "java/io/ObjectStreamField")), accessFlags := 26, slot := 2, constantValue := 0 }, { name := "REPL", type := .char, accessFlags := 26, slot := 3, constantValue := 0 }, { name := "CASE_INSENSITIVE_ORDER", type := (.object "java/util/Comparator"), accessFlags := 25, slot := 4, constantValue := 0 }, { name := "LATIN1", type := .byte, accessFlags := 24, slot := 5, constantValue := 0 }, { name := "UTF16", type := .byte, accessFlags := 24, slot := 6, constantValue := 0 }]
  methods := #[k7m0, k7m1, k7m2, k7m3, k7m4, k7m5, k7m6, k7m7]
  instanceTypes := #[(.array .byte), .byte, .int, .boolean]
  staticTypes := #[.long, .boolean, (.array (.object "java/io/ObjectStreamField")), .char, (.object "java/util/Comparator"), .byte, .byte]
  resolved := Array.replicate 1451 none
  statics := some 0 }

def pool8 : Array CpInfo := pool [(2, .class_ 4), (1, u "java/lang/Object"), (3, .class_ 10), (1, u "com/example/orderwire/orderwire/hl7/Encoding"), (0, u "fieldSeparator"), (0, u "C"), (1, .class_ 16), (1, u "java/lang/String"), (4, u "componentSeparator"), (2, u "repetitionSeparator"), (2, u "escapeCharacter"), (2, u "subcomponentSeparator"), (5, u "delimiters"), (0, u "Ljava/lang/String;"), (2, u "charset"), (0, u "Ljava/nio/charset/Charset;"), (4, u "readsCharacters"), (3, u "Z"), (49, .methodref 14 101), (0, .nameAndType 102 103), (0, u "indexOf"), (0, u "(II)I"), (234, u "partStart"), (0, u "(Ljava/lang/String;CI)I"), (2, u "ENCODING_CHARACTERS"), (0, u "I"), (2, u "REPLACEMENT"), (0, u "DELIMITER_ESCAPES"), (0, u "HEXADECIMAL_DIGITS"), (0, u "DELETE")] 26

def k8c0 : Code := { maxStack := 3, maxLocals := 6, code := prog_5_method_36_code, exceptionTable := #[], attributes := #[] }
def k8m0 : Method := { name := "partStart", desc := "(Ljava/lang/String;CI)I", sig := { parameters := [(.object "java/lang/String"), .char, .int], returnType := some .int }, accessFlags := 8, code := some k8c0 }
/-- com/example/orderwire/orderwire/hl7/Encoding -/
def k8 : Class := { plain "com/example/orderwire/orderwire/hl7/Encoding" (some 0) with
  accessFlags := 49
  interfaces := #[]
  cf := some (fileOf pool8 8 #[] #[{ accessFlags := 8, nameIndex := 338, descriptorIndex := 339, attributes := #[] }] 49 2 #[] #[{ accessFlags := 26, nameIndex := 342, descriptorIndex := 343, attributes := #[] }, { accessFlags := 26, nameIndex := 346, descriptorIndex := 12, attributes := #[] }, { accessFlags := 26, nameIndex := 347, descriptorIndex := 37, attributes := #[] }, { accessFlags := 26, nameIndex := 348, descriptorIndex := 37, attributes := #[] }, { accessFlags := 26, nameIndex := 349, descriptorIndex := 12, attributes := #[] }, { accessFlags := 18, nameIndex := 11, descriptorIndex := 12, attributes := #[] }, { accessFlags := 18, nameIndex := 21, descriptorIndex := 12, attributes := #[] }, { accessFlags := 18, nameIndex := 24, descriptorIndex := 12, attributes := #[] }, { accessFlags := 18, nameIndex := 27, descriptorIndex := 12, attributes := #[] }, { accessFlags := 18, nameIndex := 30, descriptorIndex := 12, attributes := #[] }, { accessFlags := 18, nameIndex := 36, descriptorIndex := 37, attributes := #[] }, { accessFlags := 18, nameIndex := 40, descriptorIndex := 41, attributes := #[] }, { accessFlags := 18, nameIndex := 46, descriptorIndex := 50, attributes := #[] }])
  fields := #[{ name := "ENCODING_CHARACTERS", type := .int, accessFlags := 26, slot := 0, constantValue := 0 }, { name := "REPLACEMENT", type := .char, accessFlags := 26, slot := 1, constantValue := 0 }, { name := "DELIMITER_ESCAPES", type := (.object "java/lang/String"), accessFlags := 26, slot := 2, constantValue := 0 }, { name := "HEXADECIMAL_DIGITS", type := (.object "java/lang/String"), accessFlags := 26, slot := 3, constantValue := 0 }, { name := "DELETE", type := .char, accessFlags := 26, slot := 4, constantValue := 0 }, { name := "fieldSeparator", type := .char, accessFlags := 18, slot := 0, constantValue := 0 }, { name := "componentSeparator", type := .char, accessFlags := 18, slot := 1, constantValue := 0 }, { name := "repetitionSeparator", type := .char, accessFlags := 18, slot := 2, constantValue := 0 }, { name := "escapeCharacter", type := .char, accessFlags := 18, slot := 3, constantValue := 0 }, { name := "subcomponentSeparator", type := .char, accessFlags := 18, slot := 4, constantValue := 0 }, { name := "delimiters", type := (.object "java/lang/String"), accessFlags := 18, slot := 5, constantValue := 0 }, { name := "charset", type := (.object "java/nio/charset/Charset"), accessFlags := 18, slot := 6, constantValue := 0 }, { name := "readsCharacters", type := .boolean, accessFlags := 18, slot := 7, constantValue := 0 }]
  methods := #[k8m0]
  instanceTypes := #[.char, .char, .char, .char, .char, (.object "java/lang/String"), (.object "java/nio/charset/Charset"), .boolean]
  staticTypes := #[.int, .char, (.object "java/lang/String"), (.object "java/lang/String"), .char]
  resolved := Array.replicate 376 none
  statics := none }

def pool9 : Array CpInfo := pool [(4, .class_ 6), (1, u "java/lang/Object"), (0, u "<init>"), (0, u "()V"), (5, .class_ 16), (1, u "java/lang/StringLatin1"), (21, .methodref 39 40), (0, .class_ 41), (0, .nameAndType 42 43), (0, u "java/lang/Math"), (0, u "min"), (0, u "(II)I"), (44, .methodref 14 89), (0, .nameAndType 90 91), (0, u "canEncode"), (0, u "(I)Z"), (0, .methodref 39 93), (0, .nameAndType 94 43), (0, u "max"), (0, .methodref 14 96), (0, .nameAndType 97 98), (0, u "indexOfChar"), (0, u "([BIII)I"), (2, u "indexOf"), (19, u "$assertionsDisabled"), (0, u "Z"), (98, .class_ 223), (1, u "java/lang/StringLatin1$LinesSpliterator"), (166, .class_ 391), (0, u "java/lang/StringLatin1$CharsSpliterator")] 3

def k9m0 : Method := { name := "<init>", desc := "()V", sig := { parameters := [], returnType := none }, accessFlags := 0, code := none }
def k9c1 : Code := { maxStack := 2, maxLocals := 1, code := jdk_43_method_4_code, exceptionTable := #[], attributes := #[] }
def k9m1 : Method := { name := "canEncode", desc := "(I)Z", sig := { parameters := [.int], returnType := some .boolean }, accessFlags := 9, code := some k9c1 }
def k9c2 : Code := { maxStack := 4, maxLocals := 4, code := jdk_43_method_22_code, exceptionTable := #[], attributes := #[] }
def k9m2 : Method := { name := "indexOf", desc := "([BIII)I", sig := { parameters := [(.array .byte), .int, .int, .int], returnType := some .int }, accessFlags := 9, code := some k9c2 }
def k9c3 : Code := { maxStack := 2, maxLocals := 6, code := jdk_43_method_23_code, exceptionTable := #[], attributes := #[] }
def k9m3 : Method := { name := "indexOfChar", desc := "([BIII)I", sig := { parameters := [(.array .byte), .int, .int, .int], returnType := some .int }, accessFlags := 10, code := some k9c3 }
/-- java/lang/StringLatin1 -/
def k9 : Class := { plain "java/lang/StringLatin1" (some 0) with
  accessFlags := 48
  interfaces := #[]
  cf := some (fileOf pool9 14 #[.nestMembers #[390, 221]] #[{ accessFlags := 0, nameIndex := 7, descriptorIndex := 8, attributes := #[] }, { accessFlags := 9, nameIndex := 90, descriptorIndex := 91, attributes := #[] }, { accessFlags := 9, nameIndex := 101, descriptorIndex := 98, attributes := #[] }, { accessFlags := 10, nameIndex := 97, descriptorIndex := 98, attributes := #[] }] 48 4 #[] #[{ accessFlags := 4120, nameIndex := 121, descriptorIndex := 122, attributes := #[] }])
  fields := #[{ name := "$assertionsDisabled", type := .boolean, accessFlags := 4120, slot := 0, constantValue := 0 }]
  methods := #[k9m0, k9m1, k9m2, k9m3]
  instanceTypes := #[]
  staticTypes := #[.boolean]
  resolved := Array.replicate 395 none
  statics := none }

def pool10 : Array CpInfo := pool [(1, .class_ 2), (0, u "java/lang/Math"), (1, .class_ 6), (1, u "java/lang/Object"), (0, u "<init>"), (0, u "()V"), (89, .class_ 100), (1, u "java/lang/Math$RandomNumberGeneratorHolder"), (71, u "negativeZeroFloatBits"), (0, u "J"), (2, u "negativeZeroDoubleBits"), (21, u "max"), (2, u "min"), (43, u "$assertionsDisabled"), (0, u "Z"), (88, u "(II)I"), (2, u "twoToTheDoubleScaleDown"), (0, u "D"), (4, u "twoToTheDoubleScaleUp"), (9, u "E"), (3, u "PI"), (2, u "TAU"), (2, u "DEGREES_TO_RADIANS"), (0, u "RADIANS_TO_DEGREES")] 94

def k10m0 : Method := { name := "<init>", desc := "()V", sig := { parameters := [], returnType := none }, accessFlags := 2, code := none }
def k10c1 : Code := { maxStack := 2, maxLocals := 2, code := jdk_29_method_65_code, exceptionTable := #[], attributes := #[] }
def k10m1 : Method := { name := "max", desc := "(II)I", sig := { parameters := [.int, .int], returnType := some .int }, accessFlags := 9, code := some k10c1 }
def k10c2 : Code := { maxStack := 2, maxLocals := 2, code := jdk_29_method_69_code, exceptionTable := #[], attributes := #[] }
def k10m2 : Method := { name := "min", desc := "(II)I", sig := { parameters := [.int, .int], returnType := some .int }, accessFlags := 9, code := some k10c2 }
/-- java/lang/Math -/
def k10 : Class := { plain "java/lang/Math" (some 0) with
  accessFlags := 49
  interfaces := #[]
  cf := some (fileOf pool10 1 #[.nestMembers #[98]] #[{ accessFlags := 2, nameIndex := 7, descriptorIndex := 8, attributes := #[] }, { accessFlags := 9, nameIndex := 198, descriptorIndex := 335, attributes := #[] }, { accessFlags := 9, nameIndex := 201, descriptorIndex := 335, attributes := #[] }] 49 4 #[] #[{ accessFlags := 25, nameIndex := 354, descriptorIndex := 339, attributes := #[] }, { accessFlags := 25, nameIndex := 358, descriptorIndex := 339, attributes := #[] }, { accessFlags := 25, nameIndex := 361, descriptorIndex := 339, attributes := #[] }, { accessFlags := 26, nameIndex := 364, descriptorIndex := 339, attributes := #[] }, { accessFlags := 26, nameIndex := 365, descriptorIndex := 339, attributes := #[] }, { accessFlags := 26, nameIndex := 172, descriptorIndex := 173, attributes := #[] }, { accessFlags := 26, nameIndex := 176, descriptorIndex := 173, attributes := #[] }, { accessFlags := 8, nameIndex := 344, descriptorIndex := 339, attributes := #[] }, { accessFlags := 8, nameIndex := 338, descriptorIndex := 339, attributes := #[] }, { accessFlags := 4120, nameIndex := 245, descriptorIndex := 246, attributes := #[] }])
  fields := #[{ name := "E", type := .double, accessFlags := 25, slot := 0, constantValue := 0 }, { name := "PI", type := .double, accessFlags := 25, slot := 1, constantValue := 0 }, { name := "TAU", type := .double, accessFlags := 25, slot := 2, constantValue := 0 }, { name := "DEGREES_TO_RADIANS", type := .double, accessFlags := 26, slot := 3, constantValue := 0 }, { name := "RADIANS_TO_DEGREES", type := .double, accessFlags := 26, slot := 4, constantValue := 0 }, { name := "negativeZeroFloatBits", type := .long, accessFlags := 26, slot := 5, constantValue := 0 }, { name := "negativeZeroDoubleBits", type := .long, accessFlags := 26, slot := 6, constantValue := 0 }, { name := "twoToTheDoubleScaleUp", type := .double, accessFlags := 8, slot := 7, constantValue := 0 }, { name := "twoToTheDoubleScaleDown", type := .double, accessFlags := 8, slot := 8, constantValue := 0 }, { name := "$assertionsDisabled", type := .boolean, accessFlags := 4120, slot := 9, constantValue := 0 }]
  methods := #[k10m0, k10m1, k10m2]
  instanceTypes := #[]
  staticTypes := #[.double, .double, .double, .double, .double, .long, .long, .double, .double, .boolean]
  resolved := Array.replicate 460 none
  statics := none }

def pool11 : Array CpInfo := pool [(3, .class_ 4), (0, u "java/lang/String"), (1, .class_ 8), (1, u "java/lang/Object"), (0, u "<init>"), (0, u "()V"), (0, .methodref 12 13), (0, .class_ 14), (0, .nameAndType 15 16), (0, u "java/lang/StringUTF16"), (0, u "newBytesLength"), (0, u "(I)I"), (3, .integer 1073741823), (23, .fieldref 12 45), (0, .nameAndType 46 47), (0, u "$assertionsDisabled"), (0, u "Z"), (0, .methodref 12 49), (0, .nameAndType 50 51), (0, u "length"), (0, u "([B)I"), (7, .fieldref 12 60), (0, .nameAndType 61 62), (0, u "HI_BYTE_SHIFT"), (0, u "I"), (0, .fieldref 12 64), (0, .nameAndType 65 62), (0, u "LO_BYTE_SHIFT"), (5, .methodref 12 72), (0, .nameAndType 73 74), (0, u "getChar"), (0, u "([BI)C"), (21, .methodref 12 97), (0, .nameAndType 98 99), (0, u "checkBoundsBeginEnd"), (0, u "(II[B)V"), (7, .methodref 12 108), (0, .nameAndType 109 110), (0, u "newBytesFor"), (0, u "(I)[B"), (0, .methodref 12 112), (0, .nameAndType 113 114), (0, u "putChar"), (0, u "([BII)V"), (0, .methodref 12 116), (0, .nameAndType 117 118), (0, u "compress"), (0, u "([CI[BII)I"), (0, .methodref 12 120), (0, .nameAndType 121 122), (0, u "toBytes"), (0, u "([CII)[B"), (60, .methodref 184 185), (0, .class_ 186), (0, .nameAndType 187 188), (0, u "java/lang/Math"), (0, u "min"), (0, u "(II)I"), (35, .methodref 184 225), (0, .nameAndType 226 188), (0, u "max"), (0, .integer 65536), (0, .methodref 12 229), (0, .nameAndType 230 231), (0, u "indexOfChar"), (0, u "([BIII)I"), (9, .methodref 3 242), (0, .nameAndType 98 243), (0, u "(III)V"), (0, .methodref 12 245), (0, .nameAndType 246 231), (0, u "indexOfCharUnsafe"), (14, u "coderFromArrayLen"), (0, u "([BI)B"), (5, u "indexOf"), (100, .class_ 371), (1, u "java/lang/StringUTF16$LinesSpliterator"), (58, u "MAX_LENGTH"), (196, .class_ 628), (0, u "java/lang/StringUTF16$CodePointsSpliterator"), (0, .class_ 630), (0, u "java/lang/StringUTF16$CharsSpliterator")] 4

def k11m0 : Method := { name := "<init>", desc := "()V", sig := { parameters := [], returnType := none }, accessFlags := 0, code := none }
def k11c1 : Code := { maxStack := 1, maxLocals := 1, code := jdk_52_method_2_code, exceptionTable := #[], attributes := #[] }
def k11m1 : Method := { name := "newBytesFor", desc := "(I)[B", sig := { parameters := [.int], returnType := some (.array .byte) }, accessFlags := 9, code := some k11c1 }
def k11c2 : Code := { maxStack := 4, maxLocals := 1, code := jdk_52_method_3_code, exceptionTable := #[], attributes := #[] }
def k11m2 : Method := { name := "newBytesLength", desc := "(I)I", sig := { parameters := [.int], returnType := some .int }, accessFlags := 9, code := some k11c2 }
def k11c3 : Code := { maxStack := 4, maxLocals := 3, code := jdk_52_method_4_code, exceptionTable := #[], attributes := #[] }
def k11m3 : Method := { name := "putChar", desc := "([BII)V", sig := { parameters := [(.array .byte), .int, .int], returnType := none }, accessFlags := 8, code := some k11c3 }
def k11c4 : Code := { maxStack := 3, maxLocals := 2, code := jdk_52_method_5_code, exceptionTable := #[], attributes := #[] }
def k11m4 : Method := { name := "getChar", desc := "([BI)C", sig := { parameters := [(.array .byte), .int], returnType := some .char }, accessFlags := 8, code := some k11c4 }
def k11c5 : Code := { maxStack := 2, maxLocals := 1, code := jdk_52_method_6_code, exceptionTable := #[], attributes := #[] }
def k11m5 : Method := { name := "length", desc := "([B)I", sig := { parameters := [(.array .byte)], returnType := some .int }, accessFlags := 9, code := some k11c5 }
def k11c6 : Code := { maxStack := 4, maxLocals := 5, code := jdk_52_method_14_code, exceptionTable := #[], attributes := #[] }
def k11m6 : Method := { name := "toBytes", desc := "([CII)[B", sig := { parameters := [(.array .char), .int, .int], returnType := some (.array .byte) }, accessFlags := 9, code := some k11c6 }
def k11c7 : Code := { maxStack := 2, maxLocals := 2, code := jdk_52_method_15_code, exceptionTable := #[], attributes := #[] }
def k11m7 : Method := { name := "coderFromArrayLen", desc := "([BI)B", sig := { parameters := [(.array .byte), .int], returnType := some .byte }, accessFlags := 8, code := some k11c7 }
def k11c8 : Code := { maxStack := 5, maxLocals := 6, code := jdk_52_method_16_code, exceptionTable := #[], attributes := #[] }
def k11m8 : Method := { name := "compress", desc := "([CII)[B", sig := { parameters := [(.array .char), .int, .int], returnType := some (.array .byte) }, accessFlags := 9, code := some k11c8 }
def k11c9 : Code := { maxStack := 3, maxLocals := 7, code := jdk_52_method_21_code, exceptionTable := #[], attributes := #[] }
def k11m9 : Method := { name := "compress", desc := "([CI[BII)I", sig := { parameters := [(.array .char), .int, (.array .byte), .int, .int], returnType := some .int }, accessFlags := 9, code := some k11c9 }
def k11c10 : Code := { maxStack := 4, maxLocals := 4, code := jdk_52_method_40_code, exceptionTable := #[], attributes := #[] }
def k11m10 : Method := { name := "indexOf", desc := "([BIII)I", sig := { parameters := [(.array .byte), .int, .int, .int], returnType := some .int }, accessFlags := 9, code := some k11c10 }
def k11c11 : Code := { maxStack := 4, maxLocals := 4, code := jdk_52_method_47_code, exceptionTable := #[], attributes := #[] }
def k11m11 : Method := { name := "indexOfChar", desc := "([BIII)I", sig := { parameters := [(.array .byte), .int, .int, .int], returnType := some .int }, accessFlags := 10, code := some k11c11 }
def k11c12 : Code := { maxStack := 2, maxLocals := 5, code := jdk_52_method_48_code, exceptionTable := #[], attributes := #[] }
def k11m12 : Method := { name := "indexOfCharUnsafe", desc := "([BIII)I", sig := { parameters := [(.array .byte), .int, .int, .int], returnType := some .int }, accessFlags := 10, code := some k11c12 }
def k11c13 : Code := { maxStack := 3, maxLocals := 3, code := jdk_52_method_93_code, exceptionTable := #[], attributes := #[] }
def k11m13 : Method := { name := "checkBoundsBeginEnd", desc := "(II[B)V", sig := { parameters := [.int, .int, (.array .byte)], returnType := none }, accessFlags := 9, code := some k11c13 }
/-- java/lang/StringUTF16 -/
def k11 : Class := { plain "java/lang/StringUTF16" (some 0) with
  accessFlags := 48
  interfaces := #[]
  cf := some (fileOf pool11 12 #[.nestMembers #[627, 629, 369]] #[{ accessFlags := 0, nameIndex := 9, descriptorIndex := 10, attributes := #[] }, { accessFlags := 9, nameIndex := 109, descriptorIndex := 110, attributes := #[] }, { accessFlags := 9, nameIndex := 15, descriptorIndex := 16, attributes := #[] }, { accessFlags := 8, nameIndex := 113, descriptorIndex := 114, attributes := #[] }, { accessFlags := 8, nameIndex := 73, descriptorIndex := 74, attributes := #[] }, { accessFlags := 9, nameIndex := 50, descriptorIndex := 51, attributes := #[] }, { accessFlags := 9, nameIndex := 121, descriptorIndex := 122, attributes := #[] }, { accessFlags := 8, nameIndex := 261, descriptorIndex := 262, attributes := #[] }, { accessFlags := 9, nameIndex := 117, descriptorIndex := 122, attributes := #[] }, { accessFlags := 9, nameIndex := 117, descriptorIndex := 118, attributes := #[] }, { accessFlags := 9, nameIndex := 268, descriptorIndex := 231, attributes := #[] }, { accessFlags := 10, nameIndex := 230, descriptorIndex := 231, attributes := #[] }, { accessFlags := 10, nameIndex := 246, descriptorIndex := 231, attributes := #[] }, { accessFlags := 9, nameIndex := 98, descriptorIndex := 99, attributes := #[] }] 48 6 #[] #[{ accessFlags := 26, nameIndex := 61, descriptorIndex := 62, attributes := #[] }, { accessFlags := 26, nameIndex := 65, descriptorIndex := 62, attributes := #[] }, { accessFlags := 24, nameIndex := 430, descriptorIndex := 62, attributes := #[] }, { accessFlags := 4120, nameIndex := 46, descriptorIndex := 47, attributes := #[] }])
  fields := #[{ name := "HI_BYTE_SHIFT", type := .int, accessFlags := 26, slot := 0, constantValue := 0 }, { name := "LO_BYTE_SHIFT", type := .int, accessFlags := 26, slot := 1, constantValue := 0 }, { name := "MAX_LENGTH", type := .int, accessFlags := 24, slot := 2, constantValue := 0 }, { name := "$assertionsDisabled", type := .boolean, accessFlags := 4120, slot := 3, constantValue := 0 }]
  methods := #[k11m0, k11m1, k11m2, k11m3, k11m4, k11m5, k11m6, k11m7, k11m8, k11m9, k11m10, k11m11, k11m12, k11m13]
  instanceTypes := #[]
  staticTypes := #[.int, .int, .int, .boolean]
  resolved := Array.replicate 635 none
  statics := some 1 }

def pool12 : Array CpInfo := pool [(2, .class_ 4), (1, u "java/lang/Object"), (0, u "<init>"), (0, u "()V"), (17, .class_ 26), (1, u "jdk/internal/util/Preconditions"), (20, u "checkFromToIndex"), (7, .class_ 56), (0, u "jdk/internal/util/Preconditions$4"), (57, .class_ 115), (0, u "jdk/internal/util/Preconditions$1"), (7, u "SIOOBE_FORMATTER"), (0, u "Ljava/util/function/BiFunction;"), (0, .class_ 126), (0, u "jdk/internal/util/Preconditions$2"), (3, u "AIOOBE_FORMATTER"), (0, .class_ 132), (0, u "jdk/internal/util/Preconditions$3"), (3, u "IOOBE_FORMATTER"), (46, u "(IIILjava/util/function/BiFunction;)I")] 10

def k12m0 : Method := { name := "<init>", desc := "()V", sig := { parameters := [], returnType := none }, accessFlags := 1, code := none }
def k12c1 : Code := { maxStack := 4, maxLocals := 4, code := jdk_41_method_12_code, exceptionTable := #[], attributes := #[] }
def k12m1 : Method := { name := "checkFromToIndex", desc := "(IIILjava/util/function/BiFunction;)I", sig := { parameters := [.int, .int, .int, (.object "java/util/function/BiFunction")], returnType := some .int }, accessFlags := 9, code := some k12c1 }
/-- jdk/internal/util/Preconditions -/
def k12 : Class := { plain "jdk/internal/util/Preconditions" (some 0) with
  accessFlags := 33
  interfaces := #[]
  cf := some (fileOf pool12 24 #[.nestMembers #[55, 131, 125, 114]] #[{ accessFlags := 1, nameIndex := 5, descriptorIndex := 6, attributes := #[] }, { accessFlags := 9, nameIndex := 47, descriptorIndex := 183, attributes := #[] }] 33 2 #[] #[{ accessFlags := 25, nameIndex := 123, descriptorIndex := 124, attributes := #[] }, { accessFlags := 25, nameIndex := 130, descriptorIndex := 124, attributes := #[] }, { accessFlags := 25, nameIndex := 136, descriptorIndex := 124, attributes := #[] }])
  fields := #[{ name := "SIOOBE_FORMATTER", type := (.object "java/util/function/BiFunction"), accessFlags := 25, slot := 0, constantValue := 0 }, { name := "AIOOBE_FORMATTER", type := (.object "java/util/function/BiFunction"), accessFlags := 25, slot := 1, constantValue := 0 }, { name := "IOOBE_FORMATTER", type := (.object "java/util/function/BiFunction"), accessFlags := 25, slot := 2, constantValue := 0 }]
  methods := #[k12m0, k12m1]
  instanceTypes := #[]
  staticTypes := #[(.object "java/util/function/BiFunction"), (.object "java/util/function/BiFunction"), (.object "java/util/function/BiFunction")]
  resolved := Array.replicate 194 none
  statics := some 2 }

def pool13 : Array CpInfo := pool [(9, u "<init>"), (6, .class_ 18), (1, u "java/lang/Object"), (0, u "()V"), (1, .class_ 23), (1, u "jdk/internal/util/ArraysSupport"), (0, u "LOG2_ARRAY_LONG_INDEX_SCALE"), (0, u "I"), (2, u "U"), (0, u "Ljdk/internal/misc/Unsafe;"), (8, u "BIG_ENDIAN"), (0, u "Z"), (8, u "LOG2_BYTE_BIT_SIZE"), (4, u "LOG2_ARRAY_INT_INDEX_SCALE"), (54, u "JLA"), (0, u "Ljdk/internal/access/JavaLangAccess;"), (11, u "LOG2_ARRAY_BOOLEAN_INDEX_SCALE"), (9, u "LOG2_ARRAY_BYTE_INDEX_SCALE"), (5, u "LOG2_ARRAY_CHAR_INDEX_SCALE"), (5, u "LOG2_ARRAY_SHORT_INDEX_SCALE"), (18, u "LOG2_ARRAY_FLOAT_INDEX_SCALE"), (24, u "LOG2_ARRAY_DOUBLE_INDEX_SCALE"), (89, u "T_BOOLEAN"), (2, u "T_CHAR"), (1, u "T_FLOAT"), (1, u "T_DOUBLE"), (1, u "T_BYTE"), (1, u "T_SHORT"), (1, u "T_INT"), (1, u "T_LONG"), (1, u "SOFT_MAX_ARRAY_LENGTH")] 83

def k13m0 : Method := { name := "<init>", desc := "()V", sig := { parameters := [], returnType := none }, accessFlags := 2, code := none }
/-- jdk/internal/util/ArraysSupport -/
def k13 : Class := { plain "jdk/internal/util/ArraysSupport" (some 0) with
  accessFlags := 33
  interfaces := #[]
  cf := some (fileOf pool13 21 #[] #[{ accessFlags := 2, nameIndex := 9, descriptorIndex := 19, attributes := #[] }] 33 16 #[] #[{ accessFlags := 24, nameIndex := 28, descriptorIndex := 29, attributes := #[] }, { accessFlags := 26, nameIndex := 38, descriptorIndex := 39, attributes := #[] }, { accessFlags := 25, nameIndex := 121, descriptorIndex := 25, attributes := #[] }, { accessFlags := 25, nameIndex := 131, descriptorIndex := 25, attributes := #[] }, { accessFlags := 25, nameIndex := 137, descriptorIndex := 25, attributes := #[] }, { accessFlags := 25, nameIndex := 143, descriptorIndex := 25, attributes := #[] }, { accessFlags := 25, nameIndex := 53, descriptorIndex := 25, attributes := #[] }, { accessFlags := 25, nameIndex := 24, descriptorIndex := 25, attributes := #[] }, { accessFlags := 25, nameIndex := 162, descriptorIndex := 25, attributes := #[] }, { accessFlags := 25, nameIndex := 187, descriptorIndex := 25, attributes := #[] }, { accessFlags := 26, nameIndex := 48, descriptorIndex := 25, attributes := #[] }, { accessFlags := 25, nameIndex := 277, descriptorIndex := 25, attributes := #[] }, { accessFlags := 25, nameIndex := 280, descriptorIndex := 25, attributes := #[] }, { accessFlags := 25, nameIndex := 282, descriptorIndex := 25, attributes := #[] }, { accessFlags := 25, nameIndex := 284, descriptorIndex := 25, attributes := #[] }, { accessFlags := 25, nameIndex := 286, descriptorIndex := 25, attributes := #[] }, { accessFlags := 25, nameIndex := 288, descriptorIndex := 25, attributes := #[] }, { accessFlags := 25, nameIndex := 290, descriptorIndex := 25, attributes := #[] }, { accessFlags := 25, nameIndex := 292, descriptorIndex := 25, attributes := #[] }, { accessFlags := 26, nameIndex := 108, descriptorIndex := 109, attributes := #[] }, { accessFlags := 25, nameIndex := 294, descriptorIndex := 25, attributes := #[] }])
  fields := #[{ name := "U", type := (.object "jdk/internal/misc/Unsafe"), accessFlags := 24, slot := 0, constantValue := 0 }, { name := "BIG_ENDIAN", type := .boolean, accessFlags := 26, slot := 1, constantValue := 0 }, { name := "LOG2_ARRAY_BOOLEAN_INDEX_SCALE", type := .int, accessFlags := 25, slot := 2, constantValue := 0 }, { name := "LOG2_ARRAY_BYTE_INDEX_SCALE", type := .int, accessFlags := 25, slot := 3, constantValue := 0 }, { name := "LOG2_ARRAY_CHAR_INDEX_SCALE", type := .int, accessFlags := 25, slot := 4, constantValue := 0 }, { name := "LOG2_ARRAY_SHORT_INDEX_SCALE", type := .int, accessFlags := 25, slot := 5, constantValue := 0 }, { name := "LOG2_ARRAY_INT_INDEX_SCALE", type := .int, accessFlags := 25, slot := 6, constantValue := 0 }, { name := "LOG2_ARRAY_LONG_INDEX_SCALE", type := .int, accessFlags := 25, slot := 7, constantValue := 0 }, { name := "LOG2_ARRAY_FLOAT_INDEX_SCALE", type := .int, accessFlags := 25, slot := 8, constantValue := 0 }, { name := "LOG2_ARRAY_DOUBLE_INDEX_SCALE", type := .int, accessFlags := 25, slot := 9, constantValue := 0 }, { name := "LOG2_BYTE_BIT_SIZE", type := .int, accessFlags := 26, slot := 10, constantValue := 0 }, { name := "T_BOOLEAN", type := .int, accessFlags := 25, slot := 11, constantValue := 0 }, { name := "T_CHAR", type := .int, accessFlags := 25, slot := 12, constantValue := 0 }, { name := "T_FLOAT", type := .int, accessFlags := 25, slot := 13, constantValue := 0 }, { name := "T_DOUBLE", type := .int, accessFlags := 25, slot := 14, constantValue := 0 }, { name := "T_BYTE", type := .int, accessFlags := 25, slot := 15, constantValue := 0 }, { name := "T_SHORT", type := .int, accessFlags := 25, slot := 16, constantValue := 0 }, { name := "T_INT", type := .int, accessFlags := 25, slot := 17, constantValue := 0 }, { name := "T_LONG", type := .int, accessFlags := 25, slot := 18, constantValue := 0 }, { name := "JLA", type := (.object "jdk/internal/access/JavaLangAccess"), accessFlags := 26, slot := 19, constantValue := 0 }, { name := "SOFT_MAX_ARRAY_LENGTH", type := .int, accessFlags := 25, slot := 20, constantValue := 0 }]
  methods := #[k13m0]
  instanceTypes := #[]
  staticTypes := #[(.object "jdk/internal/misc/Unsafe"), .boolean, .int, .int, .int, .int, .int, .int, .int, .int, .int, .int, .int, .int, .int, .int, .int, .int, .int, (.object "jdk/internal/access/JavaLangAccess"), .int]
  resolved := Array.replicate 378 none
  statics := none }

def pool14 : Array CpInfo := pool [(1, u "java/lang/Cloneable"), (0, .class_ 1), (0, u "java/lang/Object"), (0, .class_ 3)] 3

/-- java/lang/Cloneable -/
def k14 : Class := { plain "java/lang/Cloneable" (some 0) with
  accessFlags := 1537
  interfaces := #[]
  cf := some (fileOf pool14 2 #[] #[] 1537 4 #[] #[])
  fields := #[]
  methods := #[]
  instanceTypes := #[]
  staticTypes := #[]
  resolved := Array.replicate 8 none
  statics := none }

/-- the primitive byte -/
def k15 : Class := { plain "byte" none with kind := .primitive 'B', accessFlags := 0x411 }
/-- [B -/
def k16 : Class := { plain "[B" (some 0) with kind := .array 15 .byte, interfaces := #[14, 2], accessFlags := 1041 }

/-- the primitive char -/
def k17 : Class := { plain "char" none with kind := .primitive 'C', accessFlags := 0x411 }
/-- [C -/
def k18 : Class := { plain "[C" (some 0) with kind := .array 17 .char, interfaces := #[14, 2], accessFlags := 1041 }

/-- the primitive int -/
def k19 : Class := { plain "int" none with kind := .primitive 'I', accessFlags := 0x411 }
/-- [I -/
def k20 : Class := { plain "[I" (some 0) with kind := .array 19 .int, interfaces := #[14, 2], accessFlags := 1041 }

def heap : Heap := #[{ cls := 7, slots := #[.long 0, .int 1, .null, .int 0, .null, .int 0, .int 0], vm := .statics 7 },
  { cls := 11, slots := #[.int 0, .int 8, .int 0, .int 1], vm := .statics 11 },
  { cls := 12, slots := #[.null, .null, .null], vm := .statics 12 }]
def classes : Array Class := #[k0, k1, k2, k3, k4, k5, k6, k7, k8, k9, k10, k11, k12, k13, k14, k15, k16, k17, k18, k19, k20]
def interned : List (Array UInt16 × Addr) := []
def slotsUsed : Nat := 14
def theMethod : MethodId := ⟨1, 1⟩
def args0 : Array Value := #[.int 5, .int 6, .int 7, .int 2, .int 3]
def aboutOver (below : List Frame) : State where
  vm := { classes := classes, interned := interned.toArray }
  heap := heap
  slotsUsed := slotsUsed
  threads := #[{ frames := .invoking theMethod args0 :: below }]
def below0 : List Frame := [.native { method := ⟨0, 0⟩, args := #[] }]
def about1 : State := aboutOver below0
def p0 : Program := .bare "" "" ""
def e0 : Env := launch0.env 0 0 0
theorem w_frames : about1.frames = Frame.invoking theMethod args0 :: below0 := rfl
set_option maxRecDepth 65536 in
theorem w_args : argsFit about1.vm theMethod args0 = true := by decide +kernel
set_option maxRecDepth 65536 in
theorem w_heap : heapFits about1 = true := by decide +kernel
set_option maxRecDepth 65536 in
theorem w_runnable : about1.curStatus? = some .runnable := by decide +kernel
set_option maxRecDepth 65536 in
theorem w_alone : about1.alone = true := by decide +kernel
set_option maxRecDepth 65536 in
theorem w_named : about1.methodNamed? x = some theMethod := by decide +kernel
set_option maxRecDepth 65536 in
theorem w_hears : about1.hears theMethod below0 = true := by decide +kernel
set_option maxRecDepth 65536 in
theorem w_ripe : about1.ripe theMethod args0 below0 = true := by decide +kernel
theorem w_running : about1.status = .running := rfl
set_option maxRecDepth 65536 in
theorem w_room : about1.hasRoom e0.platform room_1 = true :=
  launch0.hasRoom_least _ room_1 (by decide +kernel) (by decide +kernel) (by decide +kernel) (by decide +kernel) (by decide +kernel) (by decide +kernel)
theorem allAtoms_all (ts : List Jvm.Cond) (a : Array Jvm.Value) (st : Jvm.State) : (allAtoms ts).before a st = ts.all (fun c => c.before a st) := by
  induction ts with
  | nil => rfl
  | cons c t ih =>
    show (Jvm.Cond.and c (allAtoms t)).before a st = _
    rw [Jvm.Cond.before_and, ih, List.all_cons]
def words1 : List Jvm.Cond := Jvm.Cond.code x code maxLocals ret :: tables_1
/-- a 'code' word, met by the world's own term for the bytes: nothing is compared byte by byte -/
theorem code_word {y : MethodName} {bytes : ByteArray} {mx : Nat} {rt : Option FieldType} {a : Array Value} {s : State} {m : MethodId} {meth : Method} {c : Code} (h1 : s.methodNamed? y = some m) (h2 : s.vm.method? m = some meth) (h3 : meth.code = some c) (h4 : c.code = bytes)
    (h5 : (c.maxLocals == mx && c.exceptionTable.isEmpty && decide (c.maxStack ≤ mostOperands) && decide (meth.sig.returnType = rt) && !meth.locks && decide (parseMethodDescriptor y.desc = some meth.sig)) = true) : (Jvm.Cond.code y bytes mx rt).before a s = true := by
  simp only [Bool.and_eq_true, beq_iff_eq, Bool.not_eq_true', decide_eq_true_eq] at h5
  obtain ⟨⟨⟨⟨⟨g1, g2⟩, g3⟩, g4⟩, g5⟩, g6⟩ := h5
  simp [Cond.before, Cond.holds, Cond.value, h1, h2, h3, h4, g1, g2, g3, g4, g5, g6]
def isCode : Jvm.Cond → Bool
  | .code _ _ _ _ => true
  | _ => false
theorem all_split {L : List Jvm.Cond} {P : Jvm.Cond → Bool} (h1 : L.all (fun c => isCode c || P c) = true) (h2 : ∀ c ∈ L.filter isCode, P c = true) : L.all P = true := by
  refine List.all_eq_true.mpr fun c hc => ?_
  have h := List.all_eq_true.mp h1 c hc
  rcases Bool.eq_false_or_eq_true (isCode c) with hi | hi
  · exact h2 c (List.mem_filter.mpr ⟨hc, hi⟩)
  · simpa [hi] using h
set_option maxRecDepth 65536 in
theorem w_c0 : (Jvm.Cond.code x code maxLocals ret).before args0 about1 = true := code_word (m := ⟨1, 1⟩) (meth := k1m1) (c := k1c1) (by decide +kernel) rfl rfl rfl (by decide +kernel)
set_option maxRecDepth 65536 in
theorem w_c1 : (Jvm.Cond.code ({ cls := "java/lang/String", name := "<init>", desc := "([C)V" } : Jvm.MethodName) jdk_42_method_3_code (2 : Nat) (Option.none : Option Jvm.ClassFile.FieldType)).before args0 about1 = true := code_word (m := ⟨7, 1⟩) (meth := k7m1) (c := k7c1) (by decide +kernel) rfl rfl rfl (by decide +kernel)
set_option maxRecDepth 65536 in
theorem w_c2 : (Jvm.Cond.code ({ cls := "java/lang/String", name := "<init>", desc := "([CIILjava/lang/Void;)V" } : Jvm.MethodName) jdk_42_method_149_code (6 : Nat) (Option.none : Option Jvm.ClassFile.FieldType)).before args0 about1 = true := code_word (m := ⟨7, 4⟩) (meth := k7m4) (c := k7c4) (by decide +kernel) rfl rfl rfl (by decide +kernel)
set_option maxRecDepth 65536 in
theorem w_c3 : (Jvm.Cond.code ({ cls := "java/lang/Object", name := "<init>", desc := "()V" } : Jvm.MethodName) object_method_1_code (1 : Nat) (Option.none : Option Jvm.ClassFile.FieldType)).before args0 about1 = true := code_word (m := ⟨0, 0⟩) (meth := k0m0) (c := k0c0) (by decide +kernel) rfl rfl rfl (by decide +kernel)
set_option maxRecDepth 65536 in
theorem w_c4 : (Jvm.Cond.code ({ cls := "com/example/orderwire/orderwire/hl7/EncodingPartStartPinLaw", name := "reference", desc := "(ZZZZI)I" } : Jvm.MethodName) method_3_code (8 : Nat) (Option.some Jvm.ClassFile.FieldType.int)).before args0 about1 = true := code_word (m := ⟨1, 2⟩) (meth := k1m2) (c := k1c2) (by decide +kernel) rfl rfl rfl (by decide +kernel)
set_option maxRecDepth 65536 in
theorem w_c5 : (Jvm.Cond.code ({ cls := "com/example/orderwire/orderwire/hl7/Encoding", name := "partStart", desc := "(Ljava/lang/String;CI)I" } : Jvm.MethodName) prog_5_method_36_code (6 : Nat) (Option.some Jvm.ClassFile.FieldType.int)).before args0 about1 = true := code_word (m := ⟨8, 0⟩) (meth := k8m0) (c := k8c0) (by decide +kernel) rfl rfl rfl (by decide +kernel)
set_option maxRecDepth 65536 in
theorem w_c6 : (Jvm.Cond.code ({ cls := "java/lang/String", name := "indexOf", desc := "(II)I" } : Jvm.MethodName) jdk_42_method_80_code (3 : Nat) (Option.some Jvm.ClassFile.FieldType.int)).before args0 about1 = true := code_word (m := ⟨7, 3⟩) (meth := k7m3) (c := k7c3) (by decide +kernel) rfl rfl rfl (by decide +kernel)
set_option maxRecDepth 65536 in
theorem w_c7 : (Jvm.Cond.code ({ cls := "java/lang/String", name := "isLatin1", desc := "()Z" } : Jvm.MethodName) jdk_42_method_154_code (1 : Nat) (Option.some Jvm.ClassFile.FieldType.boolean)).before args0 about1 = true := code_word (m := ⟨7, 6⟩) (meth := k7m6) (c := k7c6) (by decide +kernel) rfl rfl rfl (by decide +kernel)
set_option maxRecDepth 65536 in
theorem w_c8 : (Jvm.Cond.code ({ cls := "java/lang/String", name := "length", desc := "()I" } : Jvm.MethodName) jdk_42_method_54_code (1 : Nat) (Option.some Jvm.ClassFile.FieldType.int)).before args0 about1 = true := code_word (m := ⟨7, 2⟩) (meth := k7m2) (c := k7c2) (by decide +kernel) rfl rfl rfl (by decide +kernel)
set_option maxRecDepth 65536 in
theorem w_c9 : (Jvm.Cond.code ({ cls := "java/lang/String", name := "coder", desc := "()B" } : Jvm.MethodName) jdk_42_method_152_code (1 : Nat) (Option.some Jvm.ClassFile.FieldType.byte)).before args0 about1 = true := code_word (m := ⟨7, 5⟩) (meth := k7m5) (c := k7c5) (by decide +kernel) rfl rfl rfl (by decide +kernel)
set_option maxRecDepth 65536 in
theorem w_c10 : (Jvm.Cond.code ({ cls := "java/lang/StringLatin1", name := "indexOf", desc := "([BIII)I" } : Jvm.MethodName) jdk_43_method_22_code (4 : Nat) (Option.some Jvm.ClassFile.FieldType.int)).before args0 about1 = true := code_word (m := ⟨9, 2⟩) (meth := k9m2) (c := k9c2) (by decide +kernel) rfl rfl rfl (by decide +kernel)
set_option maxRecDepth 65536 in
theorem w_c11 : (Jvm.Cond.code ({ cls := "java/lang/StringLatin1", name := "canEncode", desc := "(I)Z" } : Jvm.MethodName) jdk_43_method_4_code (1 : Nat) (Option.some Jvm.ClassFile.FieldType.boolean)).before args0 about1 = true := code_word (m := ⟨9, 1⟩) (meth := k9m1) (c := k9c1) (by decide +kernel) rfl rfl rfl (by decide +kernel)
set_option maxRecDepth 65536 in
theorem w_c12 : (Jvm.Cond.code ({ cls := "java/lang/Math", name := "max", desc := "(II)I" } : Jvm.MethodName) jdk_29_method_65_code (2 : Nat) (Option.some Jvm.ClassFile.FieldType.int)).before args0 about1 = true := code_word (m := ⟨10, 1⟩) (meth := k10m1) (c := k10c1) (by decide +kernel) rfl rfl rfl (by decide +kernel)
set_option maxRecDepth 65536 in
theorem w_c13 : (Jvm.Cond.code ({ cls := "java/lang/Math", name := "min", desc := "(II)I" } : Jvm.MethodName) jdk_29_method_69_code (2 : Nat) (Option.some Jvm.ClassFile.FieldType.int)).before args0 about1 = true := code_word (m := ⟨10, 2⟩) (meth := k10m2) (c := k10c2) (by decide +kernel) rfl rfl rfl (by decide +kernel)
set_option maxRecDepth 65536 in
theorem w_c14 : (Jvm.Cond.code ({ cls := "java/lang/StringUTF16", name := "compress", desc := "([CII)[B" } : Jvm.MethodName) jdk_52_method_16_code (6 : Nat) (Option.some (Jvm.ClassFile.FieldType.array Jvm.ClassFile.FieldType.byte))).before args0 about1 = true := code_word (m := ⟨11, 8⟩) (meth := k11m8) (c := k11c8) (by decide +kernel) rfl rfl rfl (by decide +kernel)
set_option maxRecDepth 65536 in
theorem w_c15 : (Jvm.Cond.code ({ cls := "java/lang/StringUTF16", name := "compress", desc := "([CI[BII)I" } : Jvm.MethodName) jdk_52_method_21_code (7 : Nat) (Option.some Jvm.ClassFile.FieldType.int)).before args0 about1 = true := code_word (m := ⟨11, 9⟩) (meth := k11m9) (c := k11c9) (by decide +kernel) rfl rfl rfl (by decide +kernel)
set_option maxRecDepth 65536 in
theorem w_c16 : (Jvm.Cond.code ({ cls := "java/lang/StringUTF16", name := "coderFromArrayLen", desc := "([BI)B" } : Jvm.MethodName) jdk_52_method_15_code (2 : Nat) (Option.some Jvm.ClassFile.FieldType.byte)).before args0 about1 = true := code_word (m := ⟨11, 7⟩) (meth := k11m7) (c := k11c7) (by decide +kernel) rfl rfl rfl (by decide +kernel)
set_option maxRecDepth 65536 in
theorem w_c17 : (Jvm.Cond.code ({ cls := "java/lang/StringLatin1", name := "indexOfChar", desc := "([BIII)I" } : Jvm.MethodName) jdk_43_method_23_code (6 : Nat) (Option.some Jvm.ClassFile.FieldType.int)).before args0 about1 = true := code_word (m := ⟨9, 3⟩) (meth := k9m3) (c := k9c3) (by decide +kernel) rfl rfl rfl (by decide +kernel)
set_option maxRecDepth 65536 in
theorem w_c18 : (Jvm.Cond.code ({ cls := "java/lang/StringUTF16", name := "toBytes", desc := "([CII)[B" } : Jvm.MethodName) jdk_52_method_14_code (5 : Nat) (Option.some (Jvm.ClassFile.FieldType.array Jvm.ClassFile.FieldType.byte))).before args0 about1 = true := code_word (m := ⟨11, 6⟩) (meth := k11m6) (c := k11c6) (by decide +kernel) rfl rfl rfl (by decide +kernel)
set_option maxRecDepth 65536 in
theorem w_c19 : (Jvm.Cond.code ({ cls := "java/lang/StringUTF16", name := "newBytesFor", desc := "(I)[B" } : Jvm.MethodName) jdk_52_method_2_code (1 : Nat) (Option.some (Jvm.ClassFile.FieldType.array Jvm.ClassFile.FieldType.byte))).before args0 about1 = true := code_word (m := ⟨11, 1⟩) (meth := k11m1) (c := k11c1) (by decide +kernel) rfl rfl rfl (by decide +kernel)
set_option maxRecDepth 65536 in
theorem w_c20 : (Jvm.Cond.code ({ cls := "java/lang/StringUTF16", name := "newBytesLength", desc := "(I)I" } : Jvm.MethodName) jdk_52_method_3_code (1 : Nat) (Option.some Jvm.ClassFile.FieldType.int)).before args0 about1 = true := code_word (m := ⟨11, 2⟩) (meth := k11m2) (c := k11c2) (by decide +kernel) rfl rfl rfl (by decide +kernel)
set_option maxRecDepth 65536 in
theorem w_c21 : (Jvm.Cond.code ({ cls := "java/lang/StringUTF16", name := "putChar", desc := "([BII)V" } : Jvm.MethodName) jdk_52_method_4_code (3 : Nat) (Option.none : Option Jvm.ClassFile.FieldType)).before args0 about1 = true := code_word (m := ⟨11, 3⟩) (meth := k11m3) (c := k11c3) (by decide +kernel) rfl rfl rfl (by decide +kernel)
set_option maxRecDepth 65536 in
theorem w_c22 : (Jvm.Cond.code ({ cls := "java/lang/StringUTF16", name := "getChar", desc := "([BI)C" } : Jvm.MethodName) jdk_52_method_5_code (2 : Nat) (Option.some Jvm.ClassFile.FieldType.char)).before args0 about1 = true := code_word (m := ⟨11, 4⟩) (meth := k11m4) (c := k11c4) (by decide +kernel) rfl rfl rfl (by decide +kernel)
set_option maxRecDepth 65536 in
theorem w_c23 : (Jvm.Cond.code ({ cls := "java/lang/StringUTF16", name := "indexOf", desc := "([BIII)I" } : Jvm.MethodName) jdk_52_method_40_code (4 : Nat) (Option.some Jvm.ClassFile.FieldType.int)).before args0 about1 = true := code_word (m := ⟨11, 10⟩) (meth := k11m10) (c := k11c10) (by decide +kernel) rfl rfl rfl (by decide +kernel)
set_option maxRecDepth 65536 in
theorem w_c24 : (Jvm.Cond.code ({ cls := "java/lang/StringUTF16", name := "indexOfChar", desc := "([BIII)I" } : Jvm.MethodName) jdk_52_method_47_code (4 : Nat) (Option.some Jvm.ClassFile.FieldType.int)).before args0 about1 = true := code_word (m := ⟨11, 11⟩) (meth := k11m11) (c := k11c11) (by decide +kernel) rfl rfl rfl (by decide +kernel)
set_option maxRecDepth 65536 in
theorem w_c25 : (Jvm.Cond.code ({ cls := "java/lang/StringUTF16", name := "checkBoundsBeginEnd", desc := "(II[B)V" } : Jvm.MethodName) jdk_52_method_93_code (3 : Nat) (Option.none : Option Jvm.ClassFile.FieldType)).before args0 about1 = true := code_word (m := ⟨11, 13⟩) (meth := k11m13) (c := k11c13) (by decide +kernel) rfl rfl rfl (by decide +kernel)
set_option maxRecDepth 65536 in
theorem w_c26 : (Jvm.Cond.code ({ cls := "java/lang/StringUTF16", name := "length", desc := "([B)I" } : Jvm.MethodName) jdk_52_method_6_code (1 : Nat) (Option.some Jvm.ClassFile.FieldType.int)).before args0 about1 = true := code_word (m := ⟨11, 5⟩) (meth := k11m5) (c := k11c5) (by decide +kernel) rfl rfl rfl (by decide +kernel)
set_option maxRecDepth 65536 in
theorem w_c27 : (Jvm.Cond.code ({ cls := "java/lang/String", name := "checkBoundsBeginEnd", desc := "(III)V" } : Jvm.MethodName) jdk_42_method_158_code (3 : Nat) (Option.none : Option Jvm.ClassFile.FieldType)).before args0 about1 = true := code_word (m := ⟨7, 7⟩) (meth := k7m7) (c := k7c7) (by decide +kernel) rfl rfl rfl (by decide +kernel)
set_option maxRecDepth 65536 in
theorem w_c28 : (Jvm.Cond.code ({ cls := "jdk/internal/util/Preconditions", name := "checkFromToIndex", desc := "(IIILjava/util/function/BiFunction;)I" } : Jvm.MethodName) jdk_41_method_12_code (4 : Nat) (Option.some Jvm.ClassFile.FieldType.int)).before args0 about1 = true := code_word (m := ⟨12, 1⟩) (meth := k12m1) (c := k12c1) (by decide +kernel) rfl rfl rfl (by decide +kernel)
set_option maxRecDepth 65536 in
theorem w_c29 : (Jvm.Cond.code ({ cls := "java/lang/StringUTF16", name := "indexOfCharUnsafe", desc := "([BIII)I" } : Jvm.MethodName) jdk_52_method_48_code (5 : Nat) (Option.some Jvm.ClassFile.FieldType.int)).before args0 about1 = true := code_word (m := ⟨11, 12⟩) (meth := k11m12) (c := k11c12) (by decide +kernel) rfl rfl rfl (by decide +kernel)
def codes1 : List Jvm.Cond := [Jvm.Cond.code x code maxLocals ret, Jvm.Cond.code ({ cls := "java/lang/String", name := "<init>", desc := "([C)V" } : Jvm.MethodName) jdk_42_method_3_code (2 : Nat) (Option.none : Option Jvm.ClassFile.FieldType), Jvm.Cond.code ({ cls := "java/lang/String", name := "<init>", desc := "([CIILjava/lang/Void;)V" } : Jvm.MethodName) jdk_42_method_149_code (6 : Nat) (Option.none : Option Jvm.ClassFile.FieldType), Jvm.Cond.code ({ cls := "java/lang/Object", name := "<init>", desc := "()V" } : Jvm.MethodName) object_method_1_code (1 : Nat) (Option.none : Option Jvm.ClassFile.FieldType), Jvm.Cond.code ({ cls := "com/example/orderwire/orderwire/hl7/EncodingPartStartPinLaw", name := "reference", desc := "(ZZZZI)I" } : Jvm.MethodName) method_3_code (8 : Nat) (Option.some Jvm.ClassFile.FieldType.int), Jvm.Cond.code ({ cls := "com/example/orderwire/orderwire/hl7/Encoding", name := "partStart", desc := "(Ljava/lang/String;CI)I" } : Jvm.MethodName) prog_5_method_36_code (6 : Nat) (Option.some Jvm.ClassFile.FieldType.int), Jvm.Cond.code ({ cls := "java/lang/String", name := "indexOf", desc := "(II)I" } : Jvm.MethodName) jdk_42_method_80_code (3 : Nat) (Option.some Jvm.ClassFile.FieldType.int), Jvm.Cond.code ({ cls := "java/lang/String", name := "isLatin1", desc := "()Z" } : Jvm.MethodName) jdk_42_method_154_code (1 : Nat) (Option.some Jvm.ClassFile.FieldType.boolean), Jvm.Cond.code ({ cls := "java/lang/String", name := "length", desc := "()I" } : Jvm.MethodName) jdk_42_method_54_code (1 : Nat) (Option.some Jvm.ClassFile.FieldType.int), Jvm.Cond.code ({ cls := "java/lang/String", name := "coder", desc := "()B" } : Jvm.MethodName) jdk_42_method_152_code (1 : Nat) (Option.some Jvm.ClassFile.FieldType.byte), Jvm.Cond.code ({ cls := "java/lang/StringLatin1", name := "indexOf", desc := "([BIII)I" } : Jvm.MethodName) jdk_43_method_22_code (4 : Nat) (Option.some Jvm.ClassFile.FieldType.int), Jvm.Cond.code ({ cls := "java/lang/StringLatin1", name := "canEncode", desc := "(I)Z" } : Jvm.MethodName) jdk_43_method_4_code (1 : Nat) (Option.some Jvm.ClassFile.FieldType.boolean), Jvm.Cond.code ({ cls := "java/lang/Math", name := "max", desc := "(II)I" } : Jvm.MethodName) jdk_29_method_65_code (2 : Nat) (Option.some Jvm.ClassFile.FieldType.int), Jvm.Cond.code ({ cls := "java/lang/Math", name := "min", desc := "(II)I" } : Jvm.MethodName) jdk_29_method_69_code (2 : Nat) (Option.some Jvm.ClassFile.FieldType.int), Jvm.Cond.code ({ cls := "java/lang/StringUTF16", name := "compress", desc := "([CII)[B" } : Jvm.MethodName) jdk_52_method_16_code (6 : Nat) (Option.some (Jvm.ClassFile.FieldType.array Jvm.ClassFile.FieldType.byte)), Jvm.Cond.code ({ cls := "java/lang/StringUTF16", name := "compress", desc := "([CI[BII)I" } : Jvm.MethodName) jdk_52_method_21_code (7 : Nat) (Option.some Jvm.ClassFile.FieldType.int), Jvm.Cond.code ({ cls := "java/lang/StringUTF16", name := "coderFromArrayLen", desc := "([BI)B" } : Jvm.MethodName) jdk_52_method_15_code (2 : Nat) (Option.some Jvm.ClassFile.FieldType.byte), Jvm.Cond.code ({ cls := "java/lang/StringLatin1", name := "indexOfChar", desc := "([BIII)I" } : Jvm.MethodName) jdk_43_method_23_code (6 : Nat) (Option.some Jvm.ClassFile.FieldType.int), Jvm.Cond.code ({ cls := "java/lang/StringUTF16", name := "toBytes", desc := "([CII)[B" } : Jvm.MethodName) jdk_52_method_14_code (5 : Nat) (Option.some (Jvm.ClassFile.FieldType.array Jvm.ClassFile.FieldType.byte)), Jvm.Cond.code ({ cls := "java/lang/StringUTF16", name := "newBytesFor", desc := "(I)[B" } : Jvm.MethodName) jdk_52_method_2_code (1 : Nat) (Option.some (Jvm.ClassFile.FieldType.array Jvm.ClassFile.FieldType.byte)), Jvm.Cond.code ({ cls := "java/lang/StringUTF16", name := "newBytesLength", desc := "(I)I" } : Jvm.MethodName) jdk_52_method_3_code (1 : Nat) (Option.some Jvm.ClassFile.FieldType.int), Jvm.Cond.code ({ cls := "java/lang/StringUTF16", name := "putChar", desc := "([BII)V" } : Jvm.MethodName) jdk_52_method_4_code (3 : Nat) (Option.none : Option Jvm.ClassFile.FieldType), Jvm.Cond.code ({ cls := "java/lang/StringUTF16", name := "getChar", desc := "([BI)C" } : Jvm.MethodName) jdk_52_method_5_code (2 : Nat) (Option.some Jvm.ClassFile.FieldType.char), Jvm.Cond.code ({ cls := "java/lang/StringUTF16", name := "indexOf", desc := "([BIII)I" } : Jvm.MethodName) jdk_52_method_40_code (4 : Nat) (Option.some Jvm.ClassFile.FieldType.int), Jvm.Cond.code ({ cls := "java/lang/StringUTF16", name := "indexOfChar", desc := "([BIII)I" } : Jvm.MethodName) jdk_52_method_47_code (4 : Nat) (Option.some Jvm.ClassFile.FieldType.int), Jvm.Cond.code ({ cls := "java/lang/StringUTF16", name := "checkBoundsBeginEnd", desc := "(II[B)V" } : Jvm.MethodName) jdk_52_method_93_code (3 : Nat) (Option.none : Option Jvm.ClassFile.FieldType), Jvm.Cond.code ({ cls := "java/lang/StringUTF16", name := "length", desc := "([B)I" } : Jvm.MethodName) jdk_52_method_6_code (1 : Nat) (Option.some Jvm.ClassFile.FieldType.int), Jvm.Cond.code ({ cls := "java/lang/String", name := "checkBoundsBeginEnd", desc := "(III)V" } : Jvm.MethodName) jdk_42_method_158_code (3 : Nat) (Option.none : Option Jvm.ClassFile.FieldType), Jvm.Cond.code ({ cls := "jdk/internal/util/Preconditions", name := "checkFromToIndex", desc := "(IIILjava/util/function/BiFunction;)I" } : Jvm.MethodName) jdk_41_method_12_code (4 : Nat) (Option.some Jvm.ClassFile.FieldType.int), Jvm.Cond.code ({ cls := "java/lang/StringUTF16", name := "indexOfCharUnsafe", desc := "([BIII)I" } : Jvm.MethodName) jdk_52_method_48_code (5 : Nat) (Option.some Jvm.ClassFile.FieldType.int)]
set_option maxRecDepth 65536 in
theorem codes_eq : words1.filter isCode = codes1 := rfl
theorem w_codes : ∀ c ∈ words1.filter isCode, c.before args0 about1 = true := by
  rw [codes_eq]
  intro c hc
  simp only [codes1, List.mem_cons, List.not_mem_nil, or_false] at hc
  rcases hc with rfl | rfl | rfl | rfl | rfl | rfl | rfl | rfl | rfl | rfl | rfl | rfl | rfl | rfl | rfl | rfl | rfl | rfl | rfl | rfl | rfl | rfl | rfl | rfl | rfl | rfl | rfl | rfl | rfl | rfl
  · exact w_c0
  · exact w_c1
  · exact w_c2
  · exact w_c3
  · exact w_c4
  · exact w_c5
  · exact w_c6
  · exact w_c7
  · exact w_c8
  · exact w_c9
  · exact w_c10
  · exact w_c11
  · exact w_c12
  · exact w_c13
  · exact w_c14
  · exact w_c15
  · exact w_c16
  · exact w_c17
  · exact w_c18
  · exact w_c19
  · exact w_c20
  · exact w_c21
  · exact w_c22
  · exact w_c23
  · exact w_c24
  · exact w_c25
  · exact w_c26
  · exact w_c27
  · exact w_c28
  · exact w_c29
set_option maxRecDepth 65536 in
theorem w_t1 : (words1.take 24).all (fun c => isCode c || c.before args0 about1) = true := by decide +kernel
set_option maxRecDepth 65536 in
theorem w_t2 : ((words1.drop 24).take 24).all (fun c => isCode c || c.before args0 about1) = true := by decide +kernel
set_option maxRecDepth 65536 in
theorem w_t3 : (((words1.drop 24).drop 24).take 24).all (fun c => isCode c || c.before args0 about1) = true := by decide +kernel
set_option maxRecDepth 65536 in
theorem w_t4 : ((((words1.drop 24).drop 24).drop 24).take 24).all (fun c => isCode c || c.before args0 about1) = true := by decide +kernel
set_option maxRecDepth 65536 in
theorem w_t5 : (((((words1.drop 24).drop 24).drop 24).drop 24).take 24).all (fun c => isCode c || c.before args0 about1) = true := by decide +kernel
set_option maxRecDepth 65536 in
theorem w_t6 : (((((words1.drop 24).drop 24).drop 24).drop 24).drop 24).all (fun c => isCode c || c.before args0 about1) = true := by decide +kernel
theorem w_tables : (allAtoms (Jvm.Cond.code x code maxLocals ret :: tables_1)).before args0 about1 = true := by
  rw [allAtoms_all]
  show words1.all (fun c => c.before args0 about1) = true
  refine all_split ?_ w_codes
  rw [← List.take_append_drop 24 words1, List.all_append, w_t1, ← List.take_append_drop 24 (words1.drop 24), List.all_append, w_t2, ← List.take_append_drop 24 ((words1.drop 24).drop 24), List.all_append, w_t3, ← List.take_append_drop 24 (((words1.drop 24).drop 24).drop 24), List.all_append, w_t4, ← List.take_append_drop 24 ((((words1.drop 24).drop 24).drop 24).drop 24), List.all_append, w_t5, w_t6]
  rfl
set_option maxRecDepth 65536 in
theorem w_rest : rest_1_c.before args0 about1 = true := by decide +kernel
set_option maxRecDepth 65536 in
theorem w_case : (Jvm.Cond.and given_1 narrow_1).before args0 about1 = true := by decide +kernel
set_option maxRecDepth 65536 in
theorem w_consts : constsHeld consts_1 about1 := Jvm.Lit.constsHeldB_iff.mp (by decide +kernel)
theorem w_applies : (headSpec (Jvm.Cond.code x code maxLocals ret :: tables_1) room_1).applies x e0.platform about1 = true :=
  (Spec.applies_iff w_frames).mpr ⟨w_running, w_runnable, w_alone, w_named, w_hears, w_ripe, w_room, w_tables⟩
theorem atStart : AtStart classFile x code maxLocals ret World_1 tables_1 room_1 Calls_1 rest_1 Pre_1 launch0 p0 e0 about1 theMethod args0 below0 :=
  ⟨lists_1, trivial, launch0.admits_env _ _ _, launch0.least_env, fairChoices_fair.cas, fairChoices_fair.clock, w_frames, w_args, w_heap, w_applies, ⟨w_consts, trivial⟩, w_rest, w_case⟩
end start1
theorem witness_1 : WitnessClaimed_1 := ⟨start1.p0, start1.e0, start1.about1, start1.theMethod, start1.args0, start1.below0, start1.atStart⟩
end Jvm.Pilot.@@N@@
