import JvmDerived
import JvmDerived.Pilot.@@N@@Statement
import JvmDerived.Pilot.@@N@@Code
set_option linter.unusedVariables false
set_option linter.unusedSimpArgs false
namespace Jvm.Pilot.@@N@@
open Jvm Jvm.ClassFile Sem Op Lib Jvm.Free Jvm.Stand Jvm.LawKit Jvm.RoadKit Bundle Jvm.Pilot.@@N@@.Jvm.D
/-! OWN KIT: a walk in continuation form. Go F U: from U the run comes to an end of which F holds. -/
namespace W
def Go (p : Program) (e : Env) (below : List Frame) (F : Outcome → State → Prop) (U : State) : Prop :=
  ∃ s₂ o, Steps p.tables e below U s₂ ∧ s₂.status = .running ∧ Ended s₂ below o ∧ F o s₂
def Cx (p : Program) (s : State) (m : MethodId) (meth : Method) (c : Code) (Z : State) (bytes : ByteArray) (maxL : Nat) (own mname : String) (ret : Option FieldType) : Prop :=
  p.tables.exec = Jvm.exec ∧ Z.Warmed39 s.vm ∧ c.code = bytes ∧ c.maxLocals = maxL ∧ s.vm.findClass own = some m.cls ∧ meth.name = mname ∧ meth.sig.returnType = ret ∧ meth.locks = false
def Post (s : State) (Q : Option Value → Heap → List Loc → Prop) (k n : Nat) (o : Outcome) (U' : State) : Prop := ∃ v L, o = .returned v ∧ Q v U'.heap L ∧ FrameEnd s o U' L k n
theorem of {p : Program} {e : Env} {below : List Frame} {F : Outcome → State → Prop} {U U' : State} (h : ∀ t, Steps p.tables e below U' t → Steps p.tables e below U t) (k : Go p e below F U') : Go p e below F U := by
  obtain ⟨s₂, o, h1, h2⟩ := k
  exact ⟨s₂, o, h _ h1, h2⟩
theorem tr {p : Program} {e : Env} {below : List Frame} {F : Outcome → State → Prop} {U U' : State} (h : Steps p.tables e below U U') (k : Go p e below F U') : Go p e below F U := of (fun _ q => h.trans q) k
def fillL : List Value → List Slot
  | [] => []
  | v :: t => if v.category = 2 then .val v :: .second :: fillL t else .val v :: fillL t
theorem fill_eq : ∀ (l : List Value) (acc : Array Slot), l.foldl (fun acc v => if v.category = 2 then (acc.push (.val v)).push .second else acc.push (.val v)) acc = acc ++ (fillL l).toArray
  | [], acc => by simp [fillL]
  | v :: t, acc => by
    rw [List.foldl_cons, fill_eq t, fillL]
    split <;> (apply Array.toList_inj.mp; simp)
theorem entry_of {m : MethodId} {as : List Value} {maxL : Nat} {Ls : List Slot} (h : Ls = fillL as ++ List.replicate (maxL - (fillL as).length) .unset) : entryFrame m as.toArray maxL = mkF m 0 Ls.toArray [] := by
  subst h
  simp only [entryFrame, mkF, argsToLocals]
  congr 1
  rw [List.foldl_toArray, fill_eq]
  simp
def cT : ClassFile.Cond → Int32 → Int32 → Prop
  | .eq, x, y => x = y
  | .ne, x, y => x ≠ y
  | .lt, x, y => x.toInt < y.toInt
  | .ge, x, y => y.toInt ≤ x.toInt
  | .gt, x, y => y.toInt < x.toInt
  | .le, x, y => x.toInt ≤ y.toInt
def cF : ClassFile.Cond → Int32 → Int32 → Prop
  | .eq, x, y => x ≠ y
  | .ne, x, y => x = y
  | .lt, x, y => y.toInt ≤ x.toInt
  | .ge, x, y => x.toInt < y.toInt
  | .gt, x, y => x.toInt ≤ y.toInt
  | .le, x, y => y.toInt < x.toInt
instance (cd : ClassFile.Cond) (x y : Int32) : Decidable (cT cd x y) := by cases cd <;> (simp only [cT]; infer_instance)
instance (cd : ClassFile.Cond) (x y : Int32) : Decidable (cF cd x y) := by cases cd <;> (simp only [cF]; infer_instance)
theorem holdsT {cd : ClassFile.Cond} {x y : Int32} (h : cT cd x y) : if_icmp.holds cd x y = true := by
  cases cd <;> simp only [cT] at h <;> simp [if_icmp.holds, h, Int32.lt_iff_toInt_lt, Int32.le_iff_toInt_le]
theorem holdsF {cd : ClassFile.Cond} {x y : Int32} (h : cF cd x y) : if_icmp.holds cd x y = false := by
  cases cd <;> simp only [cF] at h <;> simp [if_icmp.holds, h, Int32.lt_iff_toInt_lt, Int32.le_iff_toInt_le]
theorem cTF (cd : ClassFile.Cond) (x y : Int32) : cT cd x y ∨ cF cd x y := by
  cases cd <;> simp only [cT, cF] <;> first | omega | exact Decidable.em _ | exact (Decidable.em _).symm
theorem ww {a0 : Array Value} {Z : State} (hw : ∀ d ∈ tables_1, d.before a0 Z = true) (i : Nat) {d : Jvm.Cond} (h : tables_1[i]? = some d) : d.before a0 Z = true := hw _ (List.mem_of_getElem? h)
theorem small {P : Int32 → Prop} (K : Nat) (hK : ∀ i : Fin (K + 1), P (Int32.ofInt (i.1 : Int))) (k : Int32) (h1 : 0 ≤ k.toInt) (h2 : k.toInt ≤ K) : P k := by
  have e : Int32.ofInt ((k.toInt.toNat : Nat) : Int) = k := by rw [Int.toNat_of_nonneg h1]; exact Int32.ofInt_toInt k
  have := hK ⟨k.toInt.toNat, by omega⟩
  rw [e] at this; exact this
theorem eqR {args : Array Value} {s : State} {a b : Term} {idx : List Nat} {y : Addr} (hb : b.eval args s none idx s = some (.ref y)) (h : (Jvm.Cond.eq a b).value args s none s idx = some true) : a.eval args s none idx s = some (.ref y) := by
  cases ha : a.eval args s none idx s with
  | none => simp [Cond.value, ha] at h
  | some x =>
    have hx : x.isRef = true := by cases x <;> simp [Cond.value, ha, hb, Value.isRef] at h ⊢
    have q := gotT (eq_R ha hb hx rfl) h
    rw [q]
theorem elemAt {args : Array Value} {s : State} {t a : Term} {x : Addr} {j : Int32} {v : Value} {cl : Cell} {ty : FieldType} (A : Arr s s.heap x cl ty) (ht : t.eval args s none [] s = some (.ref x)) (hj : a.eval args s none [] s = some (.int j)) (h : (Term.elem t a).eval args s none [] s = some v) : cl.slots[j.toNatClampNeg]? = some v := (elem_in h ht hj A.1).2
theorem lenAt {args : Array Value} {s : State} {t : Term} {x : Addr} {z : Int32} {cl : Cell} {ty : FieldType} (A : Arr s s.heap x cl ty) (ht : t.eval args s none [] s = some (.ref x)) (h : (Jvm.Cond.eq (.length t) (.int z)).value args s none s [] = some true) : cl.slots.size < 2 ^ 31 ∧ cl.slots.size.toInt32 = z := by
  have h6 := eqv_i (Term.int_eval z) h
  have ha := A.fin (Vm.Alike.refl _)
  have sz : cl.slots.size < 2 ^ 31 := by
    refine Decidable.byContradiction fun q => ?_
    simp [Term.eval, ht, ha, q] at h6
  refine ⟨sz, ?_⟩
  rw [len_f ht ha sz] at h6
  exact Value.int.inj (Option.some.inj h6)
theorem arvOf {s : State} {a : Addr} {cl : Cell} {ty : FieldType} {z : Int32} {d : Value} (hf : Fit s) (A : Arr s s.heap a cl ty) (q : cl.slots.size < 2 ^ 31) (e : cl.slots.size.toInt32 = z) (hz : ¬ z < 0) : Arv s s.heap a cl.cls ty z cl.slots.toList d := by
  have S : cl.slots.size = z.toNatClampNeg := by rw [← e]; simp only [Int32.toNatClampNeg, len_toInt q]; rfl
  have H : Has cl cl.slots.toList d := fun k hk => by simp [List.getD, hk]
  refine ⟨cl, A, rfl, S, hz, H, fun j hj => ?_⟩
  have e1 : (Nat.toInt32 j).toNatClampNeg = j := by simp only [Int32.toNatClampNeg, len_toInt (Nat.lt_trans hj q)]; rfl
  exact elem_fits (j := Nat.toInt32 j) hf A (idx_in hj q) (by rw [e1]; exact H j hj)
theorem catRef {v : Value} (h : v.isRef = true) : v.category = 1 := by
  rcases ref_cases h with rfl | ⟨a, rfl⟩ <;> rfl
theorem narRef {t : FieldType} {v : Value} (h : v.isRef = true) : narrow t v = v := by
  rcases ref_cases h with rfl | ⟨a, rfl⟩ <;> cases t <;> rfl
theorem fitsRef {t : FieldType} {v : Value} (h : v.isRef = true) (ht : t.isReference = true) : fits t v = true := by
  rcases ref_cases h with rfl | ⟨a, rfl⟩ <;> cases t <;> first | rfl | cases ht
theorem narZ {x : Int32} (h : x = 0 ∨ x = 1) : narrow .boolean (.int x) = .int x := by rcases h with rfl | rfl <;> rfl
theorem fitZ {x : Int32} (h : x = 0 ∨ x = 1) : fits .boolean (.int x) = true := by rcases h with rfl | rfl <;> rfl
theorem fieldInt {args : Array Value} {s : State} {t : Term} {Cn n d : String} {k : Int32} {a : Addr} (ht : t.eval args s none [] s = some (.ref a)) (h : (Jvm.Cond.eq (.field t Cn n d) (.int k)).value args s none s [] = some true) : Fld s s.heap a Cn n d (.int k) := by
  exact Fld.start ((fld_at ht).symm.trans (eqv_i (Term.int_eval k) h))
section
variable {p : Program} {l : Launch} {e : Env} {R : Room} {s : State} {m : MethodId} {args : Array Value} {below : List Frame} {meth : Method} {c : Code} {T : State} {locs : List Loc} {cells slots : Nat} {Z : State} {a0 : Array Value} {h h0 : Heap} {F : Outcome → State → Prop} {bytes : ByteArray} {maxL : Nat} {own mname : String} {ret : Option FieldType} {pc q : Nat} {Ls L' : Array Slot} {S rest : List Value}
theorem bodyOf {y : MethodName} {ws : List Jvm.Cond} {rm : Room} {as : Array Value} {Q : Option Value → Heap → List Loc → Prop} (hp : plainFor y = true) (hef : ∀ m, entryFrame m as maxL = mkF m 0 Ls [])
    (body : ∀ p e s m below meth c s₁, Cx p s m meth c Z bytes maxL y.cls y.name ret → Stand p l e rm s m as below meth c s₁ [] 0 0 → s₁.heap = h0 → Go p e below (Post s Q rm.cells rm.slots) (s₁.setTop (mkF m 0 Ls []))) :
    MetFree l y (head1 (Jvm.Cond.code y bytes maxL ret :: ws) rm) (fun a U => a = as ∧ Z.Warmed39 U.vm ∧ U.heap = h0) (fun _ _ _ _ _ => True) (fun _ U o U' => ∃ v L, o = .returned v ∧ Q v U'.heap L ∧ FrameEnd U o U' L rm.cells rm.slots) := by
  refine MetFree.of_bodySF hp hisR ?_
  intro p e s m args below meth c s₁ Bd hml0 hP hK
  obtain ⟨rfl, hZ, hh⟩ := hP
  obtain ⟨s₂, o, h1, h2⟩ := body p e s m below meth c s₁ ⟨Bd.exec, hZ, Bd.bytes, hml0, findClass_of_methodNamed Bd.named, (name_of_methodNamed Bd.named Bd.method).1, Bd.returns, Bd.notSynchronized⟩ (Stand.of_body Bd) (by rw [← hh, Bd.state]; rfl)
  exact ⟨s₂, o, castTop (hef m) h1, h2⟩
/-! returns -/
theorem retN (X : Stand p l e R s m args below meth c T locs cells slots) {t : FieldType} (C : Cx p s m meth c Z bytes maxL own mname (some t)) (ht : t = .boolean ∨ t = .byte ∨ t = .char ∨ t = .short) (eT : T.heap = h) {z z' : Int32} (hd : decode bytes pc = .ok (.ireturn, 1)) (hz : narrow t (.int z) = .int z') {k n : Nat} (hk : cells ≤ k) (hn : slots ≤ n) {Q : Option Value → Heap → List Loc → Prop} (hQ : Q (some (.int z')) h locs) :
    Go p e below (Post s Q k n) (T.setTop (mkF m pc Ls (.int z :: rest))) := by
  obtain ⟨hx, hZ, hby, hml, hown, hnm, hret, hlk⟩ := C
  obtain ⟨fs, hr, hrun, hended, hW, hsame⟩ := X.leave (v := some (.int z')) (fun h => by rw [hret] at h; cases h)
  refine ⟨_, _, ?_, hrun, hended, _, _, rfl, ?_, ⟨_, rfl⟩, hW, hsame.mono hk hn⟩
  · have hm' : T.vm.method? m = some meth := X.method'
    have hd' := hb hby hd
    rcases ht with rfl | rfl | rfl | rfl
    all_goals
      show Steps p.tables e below (T.setTop { method := m, pc := pc, locals := Ls, stack := _ :: rest, locked := none }) _
      jvm_step X.here [X.here.top, hx, hd', hm', hret, hz]
      first | (intro acts; rw [hr _ acts rfl rfl rfl]) | rw [hr _ _ rfl rfl rfl]
      exact Steps.refl _
  · show Q _ T.heap _
    rw [eT]; exact hQ
theorem retI (X : Stand p l e R s m args below meth c T locs cells slots) (C : Cx p s m meth c Z bytes maxL own mname (some .int)) (eT : T.heap = h) {z : Int32} (hd : decode bytes pc = .ok (.ireturn, 1)) {k n : Nat} (hk : cells ≤ k) (hn : slots ≤ n) {Q : Option Value → Heap → List Loc → Prop} (hQ : Q (some (.int z)) h locs) :
    Go p e below (Post s Q k n) (T.setTop (mkF m pc Ls (.int z :: rest))) := by
  obtain ⟨hx, hZ, hby, hml, hown, hnm, hret, hlk⟩ := C
  obtain ⟨fs, hr, hrun, hended, hW, hsame⟩ := X.leave (v := some (.int z)) (fun h => by rw [hret] at h; cases h)
  refine ⟨_, _, ?_, hrun, hended, _, _, rfl, ?_, ⟨_, rfl⟩, hW, hsame.mono hk hn⟩
  · have hm' : T.vm.method? m = some meth := X.method'
    have hd' := hb hby hd
    have hn : narrow .int (.int z) = .int z := rfl
    show Steps p.tables e below (T.setTop { method := m, pc := pc, locals := Ls, stack := _ :: rest, locked := none }) _
    jvm_step X.here [X.here.top, hx, hd', hm', hret, hn]
    first | (intro acts; rw [hr _ acts rfl rfl rfl]) | rw [hr _ _ rfl rfl rfl]
    exact Steps.refl _
  · show Q _ T.heap _
    rw [eT]; exact hQ
theorem retJ (X : Stand p l e R s m args below meth c T locs cells slots) (C : Cx p s m meth c Z bytes maxL own mname (some .long)) (eT : T.heap = h) {z : Int64} (hd : decode bytes pc = .ok (.lreturn, 1)) {k n : Nat} (hk : cells ≤ k) (hn : slots ≤ n) {Q : Option Value → Heap → List Loc → Prop} (hQ : Q (some (.long z)) h locs) :
    Go p e below (Post s Q k n) (T.setTop (mkF m pc Ls (.long z :: rest))) := by
  obtain ⟨hx, hZ, hby, hml, hown, hnm, hret, hlk⟩ := C
  obtain ⟨fs, hr, hrun, hended, hW, hsame⟩ := X.leave (v := some (.long z)) (fun h => by rw [hret] at h; cases h)
  refine ⟨_, _, ?_, hrun, hended, _, _, rfl, ?_, ⟨_, rfl⟩, hW, hsame.mono hk hn⟩
  · have hm' : T.vm.method? m = some meth := X.method'
    have hd' := hb hby hd
    show Steps p.tables e below (T.setTop { method := m, pc := pc, locals := Ls, stack := _ :: rest, locked := none }) _
    jvm_step X.here [X.here.top, hx, hd', hm', hret, narrow]
    first | (intro acts; rw [hr _ acts rfl rfl rfl]) | rw [hr _ _ rfl rfl rfl]
    exact Steps.refl _
  · show Q _ T.heap _
    rw [eT]; exact hQ
theorem retA (X : Stand p l e R s m args below meth c T locs cells slots) {t : FieldType} (C : Cx p s m meth c Z bytes maxL own mname (some t)) (ht : t.isReference = true) (eT : T.heap = h) {z : Value} (hz : z.isRef = true) (hd : decode bytes pc = .ok (.areturn, 1)) {k n : Nat} (hk : cells ≤ k) (hn : slots ≤ n) {Q : Option Value → Heap → List Loc → Prop} (hQ : Q (some z) h locs) :
    Go p e below (Post s Q k n) (T.setTop (mkF m pc Ls (z :: rest))) := by
  obtain ⟨hx, hZ, hby, hml, hown, hnm, hret, hlk⟩ := C
  obtain ⟨fs, hr, hrun, hended, hW, hsame⟩ := X.leave (v := some z) (fun h => by rw [hret] at h; cases h)
  refine ⟨_, _, ?_, hrun, hended, _, _, rfl, ?_, ⟨_, rfl⟩, hW, hsame.mono hk hn⟩
  · have hm' : T.vm.method? m = some meth := X.method'
    have hd' := hb hby hd
    show Steps p.tables e below (T.setTop { method := m, pc := pc, locals := Ls, stack := _ :: rest, locked := none }) _
    jvm_step X.here [X.here.top, hx, hd', hm', hret, hz, ht]
    first | (intro acts; rw [hr _ acts rfl rfl rfl]) | rw [hr _ _ rfl rfl rfl]
    exact Steps.refl _
  · show Q _ T.heap _
    rw [eT]; exact hQ
theorem retV (X : Stand p l e R s m args below meth c T locs cells slots) (C : Cx p s m meth c Z bytes maxL own mname none) (eT : T.heap = h) (hd : decode bytes pc = .ok (.return_, 1)) {k n : Nat} (hk : cells ≤ k) (hn : slots ≤ n) {Q : Option Value → Heap → List Loc → Prop} (hQ : Q none h locs) :
    Go p e below (Post s Q k n) (T.setTop (mkF m pc Ls [])) := by
  obtain ⟨hx, hZ, hby, hml, hown, hnm, hret, hlk⟩ := C
  obtain ⟨fs, hr, hrun, hended, hW, hsame⟩ := X.leave (v := none) (fun _ => rfl)
  refine ⟨_, _, X.returnOut hx hret (hb hby hd) hr, hrun, hended, _, _, rfl, ?_, ⟨_, rfl⟩, hW, hsame.mono hk hn⟩
  show Q _ T.heap _
  rw [eT]; exact hQ
/-! plain steps -/
theorem iload (X : Stand p l e R s m args below meth c T locs cells slots) (C : Cx p s m meth c Z bytes maxL own mname ret) {k : Nat} {v : Int32} (hd : decode bytes pc = .ok (.iload k, 2)) (hl : Ls[k]? = some (.val (.int v))) (hq : pc + 2 = q) (K : Go p e below F (T.setTop (mkF m q Ls (.int v :: S)))) : Go p e below F (T.setTop (mkF m pc Ls S)) := by
  subst hq; exact of (fun t k => XS.iload X.here C.1 rfl (hb C.2.2.1 hd) hl k) K
theorem iloadN (X : Stand p l e R s m args below meth c T locs cells slots) (C : Cx p s m meth c Z bytes maxL own mname ret) {k : Fin 4} {v : Int32} (hd : decode bytes pc = .ok (.iload_n k, 1)) (hl : Ls[k.val]? = some (.val (.int v))) (hq : pc + 1 = q) (K : Go p e below F (T.setTop (mkF m q Ls (.int v :: S)))) : Go p e below F (T.setTop (mkF m pc Ls S)) := by
  subst hq; exact of (fun t k => XS.iloadN X.here C.1 rfl (hb C.2.2.1 hd) hl k) K
theorem lload (X : Stand p l e R s m args below meth c T locs cells slots) (C : Cx p s m meth c Z bytes maxL own mname ret) {k : Nat} {v : Int64} (hd : decode bytes pc = .ok (.lload k, 2)) (hl : Ls[k]? = some (.val (.long v))) (hq : pc + 2 = q) (K : Go p e below F (T.setTop (mkF m q Ls (.long v :: S)))) : Go p e below F (T.setTop (mkF m pc Ls S)) := by
  subst hq; exact of (fun t k => XS.lload X.here C.1 rfl (hb C.2.2.1 hd) hl k) K
theorem lloadN (X : Stand p l e R s m args below meth c T locs cells slots) (C : Cx p s m meth c Z bytes maxL own mname ret) {k : Fin 4} {v : Int64} (hd : decode bytes pc = .ok (.lload_n k, 1)) (hl : Ls[k.val]? = some (.val (.long v))) (hq : pc + 1 = q) (K : Go p e below F (T.setTop (mkF m q Ls (.long v :: S)))) : Go p e below F (T.setTop (mkF m pc Ls S)) := by
  subst hq; exact of (fun t k => XS.lloadN X.here C.1 rfl (hb C.2.2.1 hd) hl k) K
theorem aload (X : Stand p l e R s m args below meth c T locs cells slots) (C : Cx p s m meth c Z bytes maxL own mname ret) {k : Nat} {v : Value} (hd : decode bytes pc = .ok (.aload k, 2)) (hl : Ls[k]? = some (.val v)) (hv : v.isRef = true) (hq : pc + 2 = q) (K : Go p e below F (T.setTop (mkF m q Ls (v :: S)))) : Go p e below F (T.setTop (mkF m pc Ls S)) := by
  subst hq; exact of (fun t k => XS.aload X.here C.1 rfl (hb C.2.2.1 hd) hl hv k) K
theorem aloadN (X : Stand p l e R s m args below meth c T locs cells slots) (C : Cx p s m meth c Z bytes maxL own mname ret) {k : Fin 4} {v : Value} (hd : decode bytes pc = .ok (.aload_n k, 1)) (hl : Ls[k.val]? = some (.val v)) (hv : v.isRef = true) (hq : pc + 1 = q) (K : Go p e below F (T.setTop (mkF m q Ls (v :: S)))) : Go p e below F (T.setTop (mkF m pc Ls S)) := by
  subst hq; exact of (fun t k => XS.aloadN X.here C.1 rfl (hb C.2.2.1 hd) hl hv k) K
theorem istore (X : Stand p l e R s m args below meth c T locs cells slots) (C : Cx p s m meth c Z bytes maxL own mname ret) {k : Nat} {v : Int32} (hd : decode bytes pc = .ok (.istore k, 2)) (hl : storeLocals Ls k (.int v) = some L') (hq : pc + 2 = q) (K : Go p e below F (T.setTop (mkF m q L' S))) : Go p e below F (T.setTop (mkF m pc Ls (.int v :: S))) := by
  subst hq; exact of (fun t k => XS.istore X.here C.1 rfl (hb C.2.2.1 hd) rfl hl k) K
theorem istoreN (X : Stand p l e R s m args below meth c T locs cells slots) (C : Cx p s m meth c Z bytes maxL own mname ret) {k : Fin 4} {v : Int32} (hd : decode bytes pc = .ok (.istore_n k, 1)) (hl : storeLocals Ls k.val (.int v) = some L') (hq : pc + 1 = q) (K : Go p e below F (T.setTop (mkF m q L' S))) : Go p e below F (T.setTop (mkF m pc Ls (.int v :: S))) := by
  subst hq; exact of (fun t k => XS.istoreN X.here C.1 rfl (hb C.2.2.1 hd) rfl hl k) K
theorem lstore (X : Stand p l e R s m args below meth c T locs cells slots) (C : Cx p s m meth c Z bytes maxL own mname ret) {k : Nat} {v : Int64} (hd : decode bytes pc = .ok (.lstore k, 2)) (hl : storeLocals Ls k (.long v) = some L') (hq : pc + 2 = q) (K : Go p e below F (T.setTop (mkF m q L' S))) : Go p e below F (T.setTop (mkF m pc Ls (.long v :: S))) := by
  subst hq; exact of (fun t k => XS.lstore X.here C.1 rfl (hb C.2.2.1 hd) rfl hl k) K
theorem lstoreN (X : Stand p l e R s m args below meth c T locs cells slots) (C : Cx p s m meth c Z bytes maxL own mname ret) {k : Fin 4} {v : Int64} (hd : decode bytes pc = .ok (.lstore_n k, 1)) (hl : storeLocals Ls k.val (.long v) = some L') (hq : pc + 1 = q) (K : Go p e below F (T.setTop (mkF m q L' S))) : Go p e below F (T.setTop (mkF m pc Ls (.long v :: S))) := by
  subst hq; exact of (fun t k => XS.lstoreN X.here C.1 rfl (hb C.2.2.1 hd) rfl hl k) K
theorem astore (X : Stand p l e R s m args below meth c T locs cells slots) (C : Cx p s m meth c Z bytes maxL own mname ret) {k : Nat} {v : Value} (hd : decode bytes pc = .ok (.astore k, 2)) (hv : v.isRef = true) (hl : storeLocals Ls k v = some L') (hq : pc + 2 = q) (K : Go p e below F (T.setTop (mkF m q L' S))) : Go p e below F (T.setTop (mkF m pc Ls (v :: S))) := by
  subst hq; exact of (fun t k => XS.astore X.here C.1 rfl (hb C.2.2.1 hd) rfl hv hl k) K
theorem astoreN (X : Stand p l e R s m args below meth c T locs cells slots) (C : Cx p s m meth c Z bytes maxL own mname ret) {k : Fin 4} {v : Value} (hd : decode bytes pc = .ok (.astore_n k, 1)) (hv : v.isRef = true) (hl : storeLocals Ls k.val v = some L') (hq : pc + 1 = q) (K : Go p e below F (T.setTop (mkF m q L' S))) : Go p e below F (T.setTop (mkF m pc Ls (v :: S))) := by
  subst hq; exact of (fun t k => XS.astoreN X.here C.1 rfl (hb C.2.2.1 hd) rfl hv hl k) K
theorem iinc (X : Stand p l e R s m args below meth c T locs cells slots) (C : Cx p s m meth c Z bytes maxL own mname ret) {k : Nat} {i : Int} {x y : Int32} (hd : decode bytes pc = .ok (.iinc k i, 3)) (hl : Ls[k]? = some (.val (.int x))) (hy : x + Int32.ofInt i = y) (hl' : storeLocals Ls k (.int y) = some L') (hq : pc + 3 = q) (K : Go p e below F (T.setTop (mkF m q L' S))) : Go p e below F (T.setTop (mkF m pc Ls S)) := by
  subst hq hy; exact of (fun t k => XS.iinc X.here C.1 rfl (hb C.2.2.1 hd) hl hl' k) K
theorem iconst (X : Stand p l e R s m args below meth c T locs cells slots) (C : Cx p s m meth c Z bytes maxL own mname ret) {i : Int} {v : Int32} (hd : decode bytes pc = .ok (.iconst i, 1)) (hi : Int32.ofInt i = v) (hq : pc + 1 = q) (K : Go p e below F (T.setTop (mkF m q Ls (.int v :: S)))) : Go p e below F (T.setTop (mkF m pc Ls S)) := by
  subst hq hi; exact of (fun t k => XS.iconst X.here C.1 rfl (hb C.2.2.1 hd) k) K
theorem bipush (X : Stand p l e R s m args below meth c T locs cells slots) (C : Cx p s m meth c Z bytes maxL own mname ret) {i : Int} {v : Int32} (hd : decode bytes pc = .ok (.bipush i, 2)) (hi : (Int8.ofInt i).toInt32 = v) (hq : pc + 2 = q) (K : Go p e below F (T.setTop (mkF m q Ls (.int v :: S)))) : Go p e below F (T.setTop (mkF m pc Ls S)) := by
  subst hq hi; exact of (fun t k => XS.bipush X.here C.1 rfl (hb C.2.2.1 hd) k) K
theorem sipush (X : Stand p l e R s m args below meth c T locs cells slots) (C : Cx p s m meth c Z bytes maxL own mname ret) {i : Int} {v : Int32} (hd : decode bytes pc = .ok (.sipush i, 3)) (hi : (Int16.ofInt i).toInt32 = v) (hq : pc + 3 = q) (K : Go p e below F (T.setTop (mkF m q Ls (.int v :: S)))) : Go p e below F (T.setTop (mkF m pc Ls S)) := by
  subst hq hi; exact of (fun t k => XS.sipush X.here C.1 rfl (hb C.2.2.1 hd) k) K
theorem lconst0 (X : Stand p l e R s m args below meth c T locs cells slots) (C : Cx p s m meth c Z bytes maxL own mname ret) (hd : decode bytes pc = .ok (.lconst 0, 1)) (hq : pc + 1 = q) (K : Go p e below F (T.setTop (mkF m q Ls (.long 0 :: S)))) : Go p e below F (T.setTop (mkF m pc Ls S)) := by
  subst hq; exact of (fun t k => XS.lconst X.here C.1 rfl (hb C.2.2.1 hd) k) K
theorem lconst1 (X : Stand p l e R s m args below meth c T locs cells slots) (C : Cx p s m meth c Z bytes maxL own mname ret) (hd : decode bytes pc = .ok (.lconst 1, 1)) (hq : pc + 1 = q) (K : Go p e below F (T.setTop (mkF m q Ls (.long 1 :: S)))) : Go p e below F (T.setTop (mkF m pc Ls S)) := by
  subst hq; exact of (fun t k => XS.lconst X.here C.1 rfl (hb C.2.2.1 hd) k) K
theorem ldcI (X : Stand p l e R s m args below meth c T locs cells slots) (C : Cx p s m meth c Z bytes maxL own mname ret) {i : Nat} {v : Int32} (w : (Jvm.Cond.constant own i v).before a0 Z = true) (hd : decode bytes pc = .ok (.ldc i, 2)) (hq : pc + 2 = q) (K : Go p e below F (T.setTop (mkF m q Ls (.int v :: S)))) : Go p e below F (T.setTop (mkF m pc Ls S)) := by
  subst hq; exact of (X.ldcInt C.1 C.2.2.2.2.1 (mvT C.2.1 w) (g := mkF m pc Ls S) rfl (hb C.2.2.1 hd)) K
theorem ldcL (X : Stand p l e R s m args below meth c T locs cells slots) (C : Cx p s m meth c Z bytes maxL own mname ret) {i : Nat} {v : Int64} (w : (Jvm.Cond.constantLong own i v).before a0 Z = true) (hd : decode bytes pc = .ok (.ldc2_w i, 3)) (hq : pc + 3 = q) (K : Go p e below F (T.setTop (mkF m q Ls (.long v :: S)))) : Go p e below F (T.setTop (mkF m pc Ls S)) := by
  subst hq; exact of (X.ldc2Long C.1 C.2.2.2.2.1 (mvT C.2.1 w) (g := mkF m pc Ls S) rfl (hb C.2.2.1 hd)) K
theorem aconst (X : Stand p l e R s m args below meth c T locs cells slots) (C : Cx p s m meth c Z bytes maxL own mname ret) (hd : decode bytes pc = .ok (.aconst_null, 1)) (hq : pc + 1 = q) (K : Go p e below F (T.setTop (mkF m q Ls (.null :: S)))) : Go p e below F (T.setTop (mkF m pc Ls S)) := by
  subst hq; exact of (fun t k => XS.aconstNull X.here C.1 rfl (hb C.2.2.1 hd) k) K
theorem iadd (X : Stand p l e R s m args below meth c T locs cells slots) (C : Cx p s m meth c Z bytes maxL own mname ret) {x : Int32} {y : Int32} (hd : decode bytes pc = .ok (.iadd, 1)) (hq : pc + 1 = q) (K : Go p e below F (T.setTop (mkF m q Ls (.int (x + y) :: S)))) : Go p e below F (T.setTop (mkF m pc Ls (.int y :: .int x :: S))) := by
  subst hq; exact of (fun t k => XS.iadd X.here C.1 rfl (hb C.2.2.1 hd) rfl k) K
theorem ladd (X : Stand p l e R s m args below meth c T locs cells slots) (C : Cx p s m meth c Z bytes maxL own mname ret) {x : Int64} {y : Int64} (hd : decode bytes pc = .ok (.ladd, 1)) (hq : pc + 1 = q) (K : Go p e below F (T.setTop (mkF m q Ls (.long (x + y) :: S)))) : Go p e below F (T.setTop (mkF m pc Ls (.long y :: .long x :: S))) := by
  subst hq; exact of (fun t k => XS.ladd X.here C.1 rfl (hb C.2.2.1 hd) rfl k) K
theorem isub (X : Stand p l e R s m args below meth c T locs cells slots) (C : Cx p s m meth c Z bytes maxL own mname ret) {x : Int32} {y : Int32} (hd : decode bytes pc = .ok (.isub, 1)) (hq : pc + 1 = q) (K : Go p e below F (T.setTop (mkF m q Ls (.int (x - y) :: S)))) : Go p e below F (T.setTop (mkF m pc Ls (.int y :: .int x :: S))) := by
  subst hq; exact of (fun t k => XS.isub X.here C.1 rfl (hb C.2.2.1 hd) rfl k) K
theorem lsub (X : Stand p l e R s m args below meth c T locs cells slots) (C : Cx p s m meth c Z bytes maxL own mname ret) {x : Int64} {y : Int64} (hd : decode bytes pc = .ok (.lsub, 1)) (hq : pc + 1 = q) (K : Go p e below F (T.setTop (mkF m q Ls (.long (x - y) :: S)))) : Go p e below F (T.setTop (mkF m pc Ls (.long y :: .long x :: S))) := by
  subst hq; exact of (fun t k => XS.lsub X.here C.1 rfl (hb C.2.2.1 hd) rfl k) K
theorem imul (X : Stand p l e R s m args below meth c T locs cells slots) (C : Cx p s m meth c Z bytes maxL own mname ret) {x : Int32} {y : Int32} (hd : decode bytes pc = .ok (.imul, 1)) (hq : pc + 1 = q) (K : Go p e below F (T.setTop (mkF m q Ls (.int (x * y) :: S)))) : Go p e below F (T.setTop (mkF m pc Ls (.int y :: .int x :: S))) := by
  subst hq; exact of (fun t k => XS.imul X.here C.1 rfl (hb C.2.2.1 hd) rfl k) K
theorem lmul (X : Stand p l e R s m args below meth c T locs cells slots) (C : Cx p s m meth c Z bytes maxL own mname ret) {x : Int64} {y : Int64} (hd : decode bytes pc = .ok (.lmul, 1)) (hq : pc + 1 = q) (K : Go p e below F (T.setTop (mkF m q Ls (.long (x * y) :: S)))) : Go p e below F (T.setTop (mkF m pc Ls (.long y :: .long x :: S))) := by
  subst hq; exact of (fun t k => XS.lmul X.here C.1 rfl (hb C.2.2.1 hd) rfl k) K
theorem iand (X : Stand p l e R s m args below meth c T locs cells slots) (C : Cx p s m meth c Z bytes maxL own mname ret) {x : Int32} {y : Int32} (hd : decode bytes pc = .ok (.iand, 1)) (hq : pc + 1 = q) (K : Go p e below F (T.setTop (mkF m q Ls (.int (x &&& y) :: S)))) : Go p e below F (T.setTop (mkF m pc Ls (.int y :: .int x :: S))) := by
  subst hq; exact of (fun t k => XS.iand X.here C.1 rfl (hb C.2.2.1 hd) rfl k) K
theorem land (X : Stand p l e R s m args below meth c T locs cells slots) (C : Cx p s m meth c Z bytes maxL own mname ret) {x : Int64} {y : Int64} (hd : decode bytes pc = .ok (.land, 1)) (hq : pc + 1 = q) (K : Go p e below F (T.setTop (mkF m q Ls (.long (x &&& y) :: S)))) : Go p e below F (T.setTop (mkF m pc Ls (.long y :: .long x :: S))) := by
  subst hq; exact of (fun t k => XS.land X.here C.1 rfl (hb C.2.2.1 hd) rfl k) K
theorem ior (X : Stand p l e R s m args below meth c T locs cells slots) (C : Cx p s m meth c Z bytes maxL own mname ret) {x : Int32} {y : Int32} (hd : decode bytes pc = .ok (.ior, 1)) (hq : pc + 1 = q) (K : Go p e below F (T.setTop (mkF m q Ls (.int (x ||| y) :: S)))) : Go p e below F (T.setTop (mkF m pc Ls (.int y :: .int x :: S))) := by
  subst hq; exact of (fun t k => XS.ior X.here C.1 rfl (hb C.2.2.1 hd) rfl k) K
theorem lor (X : Stand p l e R s m args below meth c T locs cells slots) (C : Cx p s m meth c Z bytes maxL own mname ret) {x : Int64} {y : Int64} (hd : decode bytes pc = .ok (.lor, 1)) (hq : pc + 1 = q) (K : Go p e below F (T.setTop (mkF m q Ls (.long (x ||| y) :: S)))) : Go p e below F (T.setTop (mkF m pc Ls (.long y :: .long x :: S))) := by
  subst hq; exact of (fun t k => XS.lor X.here C.1 rfl (hb C.2.2.1 hd) rfl k) K
theorem ixor (X : Stand p l e R s m args below meth c T locs cells slots) (C : Cx p s m meth c Z bytes maxL own mname ret) {x : Int32} {y : Int32} (hd : decode bytes pc = .ok (.ixor, 1)) (hq : pc + 1 = q) (K : Go p e below F (T.setTop (mkF m q Ls (.int (x ^^^ y) :: S)))) : Go p e below F (T.setTop (mkF m pc Ls (.int y :: .int x :: S))) := by
  subst hq; exact of (fun t k => XS.ixor X.here C.1 rfl (hb C.2.2.1 hd) rfl k) K
theorem lxor (X : Stand p l e R s m args below meth c T locs cells slots) (C : Cx p s m meth c Z bytes maxL own mname ret) {x : Int64} {y : Int64} (hd : decode bytes pc = .ok (.lxor, 1)) (hq : pc + 1 = q) (K : Go p e below F (T.setTop (mkF m q Ls (.long (x ^^^ y) :: S)))) : Go p e below F (T.setTop (mkF m pc Ls (.long y :: .long x :: S))) := by
  subst hq; exact of (fun t k => XS.lxor X.here C.1 rfl (hb C.2.2.1 hd) rfl k) K
theorem ishl (X : Stand p l e R s m args below meth c T locs cells slots) (C : Cx p s m meth c Z bytes maxL own mname ret) {x : Int32} {y : Int32} (hd : decode bytes pc = .ok (.ishl, 1)) (hq : pc + 1 = q) (K : Go p e below F (T.setTop (mkF m q Ls (.int (x <<< (y &&& 31)) :: S)))) : Go p e below F (T.setTop (mkF m pc Ls (.int y :: .int x :: S))) := by
  subst hq; exact of (fun t k => XS.ishl X.here C.1 rfl (hb C.2.2.1 hd) rfl k) K
theorem ishr (X : Stand p l e R s m args below meth c T locs cells slots) (C : Cx p s m meth c Z bytes maxL own mname ret) {x : Int32} {y : Int32} (hd : decode bytes pc = .ok (.ishr, 1)) (hq : pc + 1 = q) (K : Go p e below F (T.setTop (mkF m q Ls (.int (x >>> (y &&& 31)) :: S)))) : Go p e below F (T.setTop (mkF m pc Ls (.int y :: .int x :: S))) := by
  subst hq; exact of (fun t k => XS.ishr X.here C.1 rfl (hb C.2.2.1 hd) rfl k) K
theorem iushr (X : Stand p l e R s m args below meth c T locs cells slots) (C : Cx p s m meth c Z bytes maxL own mname ret) {x : Int32} {y : Int32} (hd : decode bytes pc = .ok (.iushr, 1)) (hq : pc + 1 = q) (K : Go p e below F (T.setTop (mkF m q Ls (.int ((x.toUInt32 >>> (y &&& 31).toUInt32).toInt32) :: S)))) : Go p e below F (T.setTop (mkF m pc Ls (.int y :: .int x :: S))) := by
  subst hq; exact of (fun t k => XS.iushr X.here C.1 rfl (hb C.2.2.1 hd) rfl k) K
theorem lshl (X : Stand p l e R s m args below meth c T locs cells slots) (C : Cx p s m meth c Z bytes maxL own mname ret) {x : Int64} {y : Int32} (hd : decode bytes pc = .ok (.lshl, 1)) (hq : pc + 1 = q) (K : Go p e below F (T.setTop (mkF m q Ls (.long (x <<< (y &&& 0x3f).toInt64) :: S)))) : Go p e below F (T.setTop (mkF m pc Ls (.int y :: .long x :: S))) := by
  subst hq; exact of (fun t k => XS.lshl X.here C.1 rfl (hb C.2.2.1 hd) rfl k) K
theorem lshr (X : Stand p l e R s m args below meth c T locs cells slots) (C : Cx p s m meth c Z bytes maxL own mname ret) {x : Int64} {y : Int32} (hd : decode bytes pc = .ok (.lshr, 1)) (hq : pc + 1 = q) (K : Go p e below F (T.setTop (mkF m q Ls (.long (x >>> (y &&& 0x3f).toInt64) :: S)))) : Go p e below F (T.setTop (mkF m pc Ls (.int y :: .long x :: S))) := by
  subst hq; exact of (fun t k => XS.lshr X.here C.1 rfl (hb C.2.2.1 hd) rfl k) K
theorem lushr (X : Stand p l e R s m args below meth c T locs cells slots) (C : Cx p s m meth c Z bytes maxL own mname ret) {x : Int64} {y : Int32} (hd : decode bytes pc = .ok (.lushr, 1)) (hq : pc + 1 = q) (K : Go p e below F (T.setTop (mkF m q Ls (.long ((x.toUInt64 >>> (y &&& 0x3f).toInt64.toUInt64).toInt64) :: S)))) : Go p e below F (T.setTop (mkF m pc Ls (.int y :: .long x :: S))) := by
  subst hq; exact of (fun t k => XS.lushr X.here C.1 rfl (hb C.2.2.1 hd) rfl k) K
theorem ineg (X : Stand p l e R s m args below meth c T locs cells slots) (C : Cx p s m meth c Z bytes maxL own mname ret) {x : Int32} (hd : decode bytes pc = .ok (.ineg, 1)) (hq : pc + 1 = q) (K : Go p e below F (T.setTop (mkF m q Ls (.int (-x) :: S)))) : Go p e below F (T.setTop (mkF m pc Ls (.int x :: S))) := by
  subst hq; exact of (fun t k => XS.ineg X.here C.1 rfl (hb C.2.2.1 hd) rfl k) K
theorem lneg (X : Stand p l e R s m args below meth c T locs cells slots) (C : Cx p s m meth c Z bytes maxL own mname ret) {x : Int64} (hd : decode bytes pc = .ok (.lneg, 1)) (hq : pc + 1 = q) (K : Go p e below F (T.setTop (mkF m q Ls (.long (-x) :: S)))) : Go p e below F (T.setTop (mkF m pc Ls (.long x :: S))) := by
  subst hq; exact of (fun t k => XS.lneg X.here C.1 rfl (hb C.2.2.1 hd) rfl k) K
theorem i2l (X : Stand p l e R s m args below meth c T locs cells slots) (C : Cx p s m meth c Z bytes maxL own mname ret) {x : Int32} (hd : decode bytes pc = .ok (.i2l, 1)) (hq : pc + 1 = q) (K : Go p e below F (T.setTop (mkF m q Ls (.long (x.toInt64) :: S)))) : Go p e below F (T.setTop (mkF m pc Ls (.int x :: S))) := by
  subst hq; exact of (fun t k => XS.i2l X.here C.1 rfl (hb C.2.2.1 hd) rfl k) K
theorem l2i (X : Stand p l e R s m args below meth c T locs cells slots) (C : Cx p s m meth c Z bytes maxL own mname ret) {x : Int64} (hd : decode bytes pc = .ok (.l2i, 1)) (hq : pc + 1 = q) (K : Go p e below F (T.setTop (mkF m q Ls (.int (x.toInt32) :: S)))) : Go p e below F (T.setTop (mkF m pc Ls (.long x :: S))) := by
  subst hq; exact of (fun t k => XS.l2i X.here C.1 rfl (hb C.2.2.1 hd) rfl k) K
theorem i2b (X : Stand p l e R s m args below meth c T locs cells slots) (C : Cx p s m meth c Z bytes maxL own mname ret) {x : Int32} (hd : decode bytes pc = .ok (.i2b, 1)) (hq : pc + 1 = q) (K : Go p e below F (T.setTop (mkF m q Ls (.int (x.toInt8.toInt32) :: S)))) : Go p e below F (T.setTop (mkF m pc Ls (.int x :: S))) := by
  subst hq; exact of (fun t k => XS.i2b X.here C.1 rfl (hb C.2.2.1 hd) rfl k) K
theorem i2s (X : Stand p l e R s m args below meth c T locs cells slots) (C : Cx p s m meth c Z bytes maxL own mname ret) {x : Int32} (hd : decode bytes pc = .ok (.i2s, 1)) (hq : pc + 1 = q) (K : Go p e below F (T.setTop (mkF m q Ls (.int (x.toInt16.toInt32) :: S)))) : Go p e below F (T.setTop (mkF m pc Ls (.int x :: S))) := by
  subst hq; exact of (fun t k => XS.i2s X.here C.1 rfl (hb C.2.2.1 hd) rfl k) K
theorem i2c (X : Stand p l e R s m args below meth c T locs cells slots) (C : Cx p s m meth c Z bytes maxL own mname ret) {x : Int32} (hd : decode bytes pc = .ok (.i2c, 1)) (hq : pc + 1 = q) (K : Go p e below F (T.setTop (mkF m q Ls (.int (x.toUInt32.toUInt16.toUInt32.toInt32) :: S)))) : Go p e below F (T.setTop (mkF m pc Ls (.int x :: S))) := by
  subst hq; exact of (fun t k => XS.i2c X.here C.1 rfl (hb C.2.2.1 hd) rfl k) K
theorem idiv (X : Stand p l e R s m args below meth c T locs cells slots) (C : Cx p s m meth c Z bytes maxL own mname ret) {x y : Int32} (hd : decode bytes pc = .ok (.idiv, 1)) (hy : y ≠ 0) (hq : pc + 1 = q) (K : Go p e below F (T.setTop (mkF m q Ls (.int (x / y) :: S)))) : Go p e below F (T.setTop (mkF m pc Ls (.int y :: .int x :: S))) := by
  subst hq; exact of (fun t k => XS.idiv X.here C.1 rfl (hb C.2.2.1 hd) rfl hy k) K
theorem irem (X : Stand p l e R s m args below meth c T locs cells slots) (C : Cx p s m meth c Z bytes maxL own mname ret) {x y : Int32} (hd : decode bytes pc = .ok (.irem, 1)) (hy : y ≠ 0) (hq : pc + 1 = q) (K : Go p e below F (T.setTop (mkF m q Ls (.int (x % y) :: S)))) : Go p e below F (T.setTop (mkF m pc Ls (.int y :: .int x :: S))) := by
  subst hq; exact of (fun t k => iremM (g := mkF m pc Ls (.int y :: .int x :: S)) X C.1 rfl (hb C.2.2.1 hd) rfl hy k) K
theorem ldiv (X : Stand p l e R s m args below meth c T locs cells slots) (C : Cx p s m meth c Z bytes maxL own mname ret) {x y : Int64} (hd : decode bytes pc = .ok (.ldiv, 1)) (hy : y ≠ 0) (hq : pc + 1 = q) (K : Go p e below F (T.setTop (mkF m q Ls (.long (x / y) :: S)))) : Go p e below F (T.setTop (mkF m pc Ls (.long y :: .long x :: S))) := by
  subst hq; exact of (fun t k => XS.ldiv X.here C.1 rfl (hb C.2.2.1 hd) rfl hy k) K
theorem lcmp (X : Stand p l e R s m args below meth c T locs cells slots) (C : Cx p s m meth c Z bytes maxL own mname ret) {x y : Int64} (hd : decode bytes pc = .ok (.lcmp, 1)) (hq : pc + 1 = q) (K : Go p e below F (T.setTop (mkF m q Ls (.int (lcmpW x y) :: S)))) : Go p e below F (T.setTop (mkF m pc Ls (.long y :: .long x :: S))) := by
  subst hq; exact of (fun t k => XS.lcmp X.here C.1 rfl (hb C.2.2.1 hd) rfl k) K
theorem dup (X : Stand p l e R s m args below meth c T locs cells slots) (C : Cx p s m meth c Z bytes maxL own mname ret) {v : Value} (hd : decode bytes pc = .ok (.dup, 1)) (hv : v.category = 1) (hq : pc + 1 = q) (K : Go p e below F (T.setTop (mkF m q Ls (v :: v :: S)))) : Go p e below F (T.setTop (mkF m pc Ls (v :: S))) := by
  subst hq; exact of (fun t k => XS.dup X.here C.1 rfl (hb C.2.2.1 hd) rfl hv k) K
theorem dupX1 (X : Stand p l e R s m args below meth c T locs cells slots) (C : Cx p s m meth c Z bytes maxL own mname ret) {v w : Value} (hd : decode bytes pc = .ok (.dup_x1, 1)) (hv : v.category = 1) (hw : w.category = 1) (hq : pc + 1 = q) (K : Go p e below F (T.setTop (mkF m q Ls (v :: w :: v :: S)))) : Go p e below F (T.setTop (mkF m pc Ls (v :: w :: S))) := by
  subst hq; exact of (fun t k => XS.dupX1 X.here C.1 rfl (hb C.2.2.1 hd) rfl hv hw k) K
theorem pop (X : Stand p l e R s m args below meth c T locs cells slots) (C : Cx p s m meth c Z bytes maxL own mname ret) {v : Value} (hd : decode bytes pc = .ok (.pop, 1)) (hv : v.category = 1) (hq : pc + 1 = q) (K : Go p e below F (T.setTop (mkF m q Ls S))) : Go p e below F (T.setTop (mkF m pc Ls (v :: S))) := by
  subst hq; exact of (fun t k => XS.pop X.here C.1 rfl (hb C.2.2.1 hd) rfl hv k) K
theorem goto (X : Stand p l e R s m args below meth c T locs cells slots) (C : Cx p s m meth c Z bytes maxL own mname ret) {o : Int} (hd : decode bytes pc = .ok (.goto o, 3)) (ho : 0 ≤ (pc : Int) + o) (hq : ((pc : Int) + o).toNat = q) (K : Go p e below F (T.setTop (mkF m q Ls S))) : Go p e below F (T.setTop (mkF m pc Ls S)) :=
  of (fun t k => XS.goto X.here C.1 rfl rfl (hb C.2.2.1 hd) ho hq k) K
theorem icmpT (X : Stand p l e R s m args below meth c T locs cells slots) (C : Cx p s m meth c Z bytes maxL own mname ret) {cd : ClassFile.Cond} {o : Int} {x y : Int32} (hd : decode bytes pc = .ok (.if_icmp cd o, 3)) (ho : 0 ≤ (pc : Int) + o) (hq : ((pc : Int) + o).toNat = q) (hc : cT cd x y) (K : Go p e below F (T.setTop (mkF m q Ls S))) : Go p e below F (T.setTop (mkF m pc Ls (.int y :: .int x :: S))) :=
  of (fun t k => XS.icmpYes X.here C.1 rfl rfl (hb C.2.2.1 hd) rfl (holdsT hc) ho hq k) K
theorem icmpF (X : Stand p l e R s m args below meth c T locs cells slots) (C : Cx p s m meth c Z bytes maxL own mname ret) {cd : ClassFile.Cond} {o : Int} {x y : Int32} (hd : decode bytes pc = .ok (.if_icmp cd o, 3)) (hq : pc + 3 = q) (hc : cF cd x y) (K : Go p e below F (T.setTop (mkF m q Ls S))) : Go p e below F (T.setTop (mkF m pc Ls (.int y :: .int x :: S))) := by
  subst hq; exact of (fun t k => XS.icmpNo X.here C.1 rfl (hb C.2.2.1 hd) rfl (holdsF hc) k) K
theorem icmp (X : Stand p l e R s m args below meth c T locs cells slots) (C : Cx p s m meth c Z bytes maxL own mname ret) {cd : ClassFile.Cond} {o : Int} {x y : Int32} {q' : Nat} (hd : decode bytes pc = .ok (.if_icmp cd o, 3)) (ho : 0 ≤ (pc : Int) + o) (hq : ((pc : Int) + o).toNat = q) (hq' : pc + 3 = q') (K : cT cd x y → Go p e below F (T.setTop (mkF m q Ls S))) (K' : cF cd x y → Go p e below F (T.setTop (mkF m q' Ls S))) : Go p e below F (T.setTop (mkF m pc Ls (.int y :: .int x :: S))) :=
  (cTF cd x y).elim (fun hc => icmpT X C hd ho hq hc (K hc)) (fun hc => icmpF X C hd hq' hc (K' hc))
theorem ifT (X : Stand p l e R s m args below meth c T locs cells slots) (C : Cx p s m meth c Z bytes maxL own mname ret) {cd : ClassFile.Cond} {o : Int} {x : Int32} (hd : decode bytes pc = .ok (.ifCond cd o, 3)) (ho : 0 ≤ (pc : Int) + o) (hq : ((pc : Int) + o).toNat = q) (hc : cT cd x 0) (K : Go p e below F (T.setTop (mkF m q Ls S))) : Go p e below F (T.setTop (mkF m pc Ls (.int x :: S))) :=
  of (fun t k => XS.ifYes X.here C.1 rfl rfl (hb C.2.2.1 hd) rfl ((if0 _ _).trans (holdsT hc)) ho hq k) K
theorem ifF (X : Stand p l e R s m args below meth c T locs cells slots) (C : Cx p s m meth c Z bytes maxL own mname ret) {cd : ClassFile.Cond} {o : Int} {x : Int32} (hd : decode bytes pc = .ok (.ifCond cd o, 3)) (hq : pc + 3 = q) (hc : cF cd x 0) (K : Go p e below F (T.setTop (mkF m q Ls S))) : Go p e below F (T.setTop (mkF m pc Ls (.int x :: S))) := by
  subst hq; exact of (fun t k => XS.ifNo X.here C.1 rfl (hb C.2.2.1 hd) rfl ((if0 _ _).trans (holdsF hc)) k) K
theorem if_ (X : Stand p l e R s m args below meth c T locs cells slots) (C : Cx p s m meth c Z bytes maxL own mname ret) {cd : ClassFile.Cond} {o : Int} {x : Int32} {q' : Nat} (hd : decode bytes pc = .ok (.ifCond cd o, 3)) (ho : 0 ≤ (pc : Int) + o) (hq : ((pc : Int) + o).toNat = q) (hq' : pc + 3 = q') (K : cT cd x 0 → Go p e below F (T.setTop (mkF m q Ls S))) (K' : cF cd x 0 → Go p e below F (T.setTop (mkF m q' Ls S))) : Go p e below F (T.setTop (mkF m pc Ls (.int x :: S))) :=
  (cTF cd x 0).elim (fun hc => ifT X C hd ho hq hc (K hc)) (fun hc => ifF X C hd hq' hc (K' hc))
theorem ifnullT (X : Stand p l e R s m args below meth c T locs cells slots) (C : Cx p s m meth c Z bytes maxL own mname ret) {o : Int} (hd : decode bytes pc = .ok (.ifnull o, 3)) (ho : 0 ≤ (pc : Int) + o) (hq : ((pc : Int) + o).toNat = q) (K : Go p e below F (T.setTop (mkF m q Ls S))) : Go p e below F (T.setTop (mkF m pc Ls (.null :: S))) :=
  of (fun t k => XS.ifnullYes X.here C.1 rfl rfl (hb C.2.2.1 hd) rfl ho hq k) K
theorem ifnullF (X : Stand p l e R s m args below meth c T locs cells slots) (C : Cx p s m meth c Z bytes maxL own mname ret) {o : Int} {a : Addr} (hd : decode bytes pc = .ok (.ifnull o, 3)) (hq : pc + 3 = q) (K : Go p e below F (T.setTop (mkF m q Ls S))) : Go p e below F (T.setTop (mkF m pc Ls (.ref a :: S))) := by
  subst hq; exact of (fun t k => XS.ifnullNo X.here C.1 rfl (hb C.2.2.1 hd) rfl k) K
theorem ifnonnullT (X : Stand p l e R s m args below meth c T locs cells slots) (C : Cx p s m meth c Z bytes maxL own mname ret) {o : Int} {a : Addr} (hd : decode bytes pc = .ok (.ifnonnull o, 3)) (ho : 0 ≤ (pc : Int) + o) (hq : ((pc : Int) + o).toNat = q) (K : Go p e below F (T.setTop (mkF m q Ls S))) : Go p e below F (T.setTop (mkF m pc Ls (.ref a :: S))) :=
  of (fun t k => XS.ifnonnullYes X.here C.1 rfl rfl (hb C.2.2.1 hd) rfl ho hq k) K
theorem ifnonnullF (X : Stand p l e R s m args below meth c T locs cells slots) (C : Cx p s m meth c Z bytes maxL own mname ret) {o : Int} (hd : decode bytes pc = .ok (.ifnonnull o, 3)) (hq : pc + 3 = q) (K : Go p e below F (T.setTop (mkF m q Ls S))) : Go p e below F (T.setTop (mkF m pc Ls (.null :: S))) := by
  subst hq; exact of (fun t k => XS.ifnonnullNo X.here C.1 rfl (hb C.2.2.1 hd) rfl k) K
/-! calls -/
theorem callS (X : Stand p l e R s m args below meth c T locs cells slots) (C : Cx p s m meth c Z bytes maxL own mname ret) {y : MethodName} {i : Nat} {yb : ByteArray} {ym : Nat} {yr : Option FieldType} (w1 : (Jvm.Cond.methodLink own i y).before a0 Z = true) (w2 : (Jvm.Cond.static y).before a0 Z = true) (w3 : (Jvm.Cond.initialized y.cls).before a0 Z = true) (w4 : (Jvm.Cond.code y yb ym yr).before a0 Z = true) (hy : y.cls ≠ "java/lang/invoke/MethodHandle" ∧ y.cls ≠ "java/lang/invoke/VarHandle")
    {rm : Room} {as' : Array Value} {Q : Option Value → Heap → List Loc → Prop} (hM : MetFree l y (head1 [Jvm.Cond.code y yb ym yr] rm) (fun a U => a = as' ∧ Z.Warmed39 U.vm ∧ U.heap = h) (fun _ _ _ _ _ => True) (fun _ U o U' => ∃ v L, o = .returned v ∧ Q v U'.heap L ∧ FrameEnd U o U' L rm.cells rm.slots))
    (eT : T.heap = h) (hd : decode bytes pc = .ok (.invokestatic i, 3)) (argsL : List Value) (rest : List Value) (hS : S = argsL.reverse ++ rest) (has : as' = argsL.toArray) {ps : List FieldType} {r : Option FieldType} (hpd : parseMethodDescriptor y.desc = some ⟨ps, r⟩) (hlen : argsL.length = ps.length) (hsz : Ls.size = maxL)
    (hf : rm.frames + 1 ≤ R.frames) (hl : (rest.map fun v => v.category).sum + (ym + 11) + rm.locals ≤ R.locals) (hc : cells + rm.cells ≤ R.cells) (hsl : slots + rm.slots ≤ R.slots) (hq : pc + 3 = q)
    (K : ∀ (T' : State) (v : Option Value) (L : List Loc), Stand p l e R s m args below meth c T' (locs ++ L) (cells + rm.cells) (slots + rm.slots) → Q v T'.heap L → Go p e below F (T'.setTop (mkF m q Ls (v.toList ++ rest)))) : Go p e below F (T.setTop (mkF m pc Ls S)) := by
  subst hq hS has
  obtain ⟨hx, hZ, hby, hml, hown, hnm, hret, hlk⟩ := C
  obtain ⟨v, _, ⟨T1, L1, k1, n1⟩, -, X1, ⟨Lc, hQ, l1, y1, z1⟩, st⟩ := Jvm.LawKit.callS X hx hown (mvT hZ w1) (mvT hZ w2) (mvT hZ w3) (mvT hZ w4) hy (backOf (W := (rest.map fun v => v.category).sum) hM hZ w4 w3 hf hl) (g := mkF m pc Ls (argsL.reverse ++ rest)) rfl (by rw [hml]; exact hsz) (argsL := argsL) (rest := rest) (lenOf hpd hlen) rfl (by show 2 * 0 + _ ≤ _; omega) (hb hby hd) (fun _ _ => ⟨rfl, eT, hc, hsl⟩)
  dsimp only [Pt.U, Pt.locs, Pt.cells, Pt.slots] at X1 l1 y1 z1 st hQ
  subst l1 y1 z1
  exact of st (K T1 v Lc X1 hQ)
theorem callI (X : Stand p l e R s m args below meth c T locs cells slots) (C : Cx p s m meth c Z bytes maxL own mname ret) {y : MethodName} {i : Nat} {yb : ByteArray} {ym : Nat} (hy1 : y.name = "<init>") (w1 : (Jvm.Cond.methodLink own i y).before a0 Z = true) (w2 : (Jvm.Cond.instanceMethod y).before a0 Z = true) (w3 : (Jvm.Cond.initialized y.cls).before a0 Z = true) (w4 : (Jvm.Cond.code y yb ym none).before a0 Z = true) (hy : y.cls ≠ "java/lang/invoke/MethodHandle" ∧ y.cls ≠ "java/lang/invoke/VarHandle")
    {rm : Room} {as' : Array Value} {Q : Option Value → Heap → List Loc → Prop} (hM : MetFree l y (head1 [Jvm.Cond.code y yb ym none] rm) (fun a U => a = as' ∧ Z.Warmed39 U.vm ∧ U.heap = h) (fun _ _ _ _ _ => True) (fun _ U o U' => ∃ v L, o = .returned v ∧ Q v U'.heap L ∧ FrameEnd U o U' L rm.cells rm.slots))
    (eT : T.heap = h) (hd : decode bytes pc = .ok (.invokespecial i, 3)) {a : Addr} (argsL : List Value) (rest : List Value) (hS : S = argsL.reverse ++ .ref a :: rest) (has : as' = (.ref a :: argsL).toArray) {ps : List FieldType} {r : Option FieldType} (hpd : parseMethodDescriptor y.desc = some ⟨ps, r⟩) (hlen : argsL.length = ps.length) (hsz : Ls.size = maxL)
    (hf : rm.frames + 1 ≤ R.frames) (hl : (rest.map fun v => v.category).sum + (ym + 11) + rm.locals ≤ R.locals) (hc : cells + rm.cells ≤ R.cells) (hsl : slots + rm.slots ≤ R.slots) (hq : pc + 3 = q)
    (K : ∀ (T' : State) (v : Option Value) (L : List Loc), Stand p l e R s m args below meth c T' (locs ++ L) (cells + rm.cells) (slots + rm.slots) → Q v T'.heap L → Go p e below F (T'.setTop (mkF m q Ls (v.toList ++ rest)))) : Go p e below F (T.setTop (mkF m pc Ls S)) := by
  subst hq hS has
  obtain ⟨hx, hZ, hby, hml, hown, hnm, hret, hlk⟩ := C
  obtain ⟨v, _, ⟨T1, L1, k1, n1⟩, -, X1, ⟨Lc, hQ, l1, y1, z1⟩, st⟩ := X.specialBack hx hy1 hown (mvT hZ w1) (mvT hZ w2) (mvT hZ w4) hy (backOf (W := (rest.map fun v => v.category).sum) hM hZ w4 w3 hf hl) (g := mkF m pc Ls (argsL.reverse ++ .ref a :: rest)) rfl (by rw [hml]; exact hsz) (Steps.refl _) (a := a) (argsL := argsL) (rest := rest) (lenOf hpd hlen) rfl (by show 2 * 0 + _ ≤ _; omega) (hb hby hd) (fun _ _ => ⟨rfl, eT, hc, hsl⟩)
  dsimp only [Pt.U, Pt.locs, Pt.cells, Pt.slots] at X1 l1 y1 z1 st hQ
  subst l1 y1 z1
  exact tr st (K T1 v Lc X1 hQ)
theorem callV (X : Stand p l e R s m args below meth c T locs cells slots) (C : Cx p s m meth c Z bytes maxL own mname ret) {y z : MethodName} {i : Nat} {Cn : String} {yb : ByteArray} {ym : Nat} {yr : Option FieldType} (w1 : (Jvm.Cond.methodLink own i y).before a0 Z = true) (w2 : (Jvm.Cond.declares y).before a0 Z = true) (hnf : NotFace s y) (ws : (Jvm.Cond.selects Cn y z).before a0 Z = true) (wi : (Jvm.Cond.instanceMethod z).before a0 Z = true) (w3 : (Jvm.Cond.initialized z.cls).before a0 Z = true) (w4 : (Jvm.Cond.code z yb ym yr).before a0 Z = true) (hy : y.cls ≠ "java/lang/invoke/MethodHandle" ∧ y.cls ≠ "java/lang/invoke/VarHandle")
    {rm : Room} {as' : Array Value} {Q : Option Value → Heap → List Loc → Prop} (hM : MetFree l z (head1 [Jvm.Cond.code z yb ym yr] rm) (fun a U => a = as' ∧ Z.Warmed39 U.vm ∧ U.heap = h) (fun _ _ _ _ _ => True) (fun _ U o U' => ∃ v L, o = .returned v ∧ Q v U'.heap L ∧ FrameEnd U o U' L rm.cells rm.slots))
    (eT : T.heap = h) {a : Addr} (E : Exa Z h a Cn) (hd : decode bytes pc = .ok (.invokevirtual i, 3)) (argsL : List Value) (rest : List Value) (hS : S = argsL.reverse ++ .ref a :: rest) (has : as' = (.ref a :: argsL).toArray) {ps : List FieldType} {r : Option FieldType} (hpd : parseMethodDescriptor y.desc = some ⟨ps, r⟩) (hlen : argsL.length = ps.length) (hsz : Ls.size = maxL)
    (hf : rm.frames + 1 ≤ R.frames) (hl : (rest.map fun v => v.category).sum + (ym + 11) + rm.locals ≤ R.locals) (hc : cells + rm.cells ≤ R.cells) (hsl : slots + rm.slots ≤ R.slots) (hq : pc + 3 = q)
    (K : ∀ (T' : State) (v : Option Value) (L : List Loc), Stand p l e R s m args below meth c T' (locs ++ L) (cells + rm.cells) (slots + rm.slots) → Q v T'.heap L → Go p e below F (T'.setTop (mkF m q Ls (v.toList ++ rest)))) : Go p e below F (T.setTop (mkF m pc Ls S)) := by
  subst hq hS has
  obtain ⟨hx, hZ, hby, hml, hown, hnm, hret, hlk⟩ := C
  obtain ⟨cq, kq, qa, qb, qc⟩ := isOf hZ eT E
  obtain ⟨v, _, ⟨T1, L1, k1, n1⟩, -, X1, ⟨Lc, hQ, l1, y1, z1⟩, st⟩ := X.virtualBack hx hown (mvT hZ w1) (mvT hZ w2) hnf (mvT hZ ws) (mvT hZ wi) hy (backOf (W := (rest.map fun v => v.category).sum) hM hZ w4 w3 hf hl) qa qc (g := mkF m pc Ls (argsL.reverse ++ .ref a :: rest)) rfl (by rw [hml]; exact hsz) (Steps.refl _) (argsL := argsL) (rest := rest) (lenOf hpd hlen) rfl (by show 2 * 0 + _ ≤ _; omega) (hb hby hd) (fun _ _ => ⟨rfl, eT, hc, hsl⟩)
  dsimp only [Pt.U, Pt.locs, Pt.cells, Pt.slots] at X1 l1 y1 z1 st hQ
  subst l1 y1 z1
  exact tr st (K T1 v Lc X1 hQ)
theorem callP (X : Stand p l e R s m args below meth c T locs cells slots) (C : Cx p s m meth c Z bytes maxL own mname ret) {y y2 : MethodName} {i : Nat} {Cn : String} {yb : ByteArray} {ym : Nat} {yr : Option FieldType} (w1 : (Jvm.Cond.methodLink own i y).before a0 Z = true) (wi : (Jvm.Cond.instanceMethod y).before a0 Z = true) (wp : (Jvm.Cond.privateMethod y).before a0 Z = true) (hcls : y2.cls = y.cls) (ws : (Jvm.Cond.selects y2.cls y2 y2).before a0 Z = true) (w3 : (Jvm.Cond.initialized y.cls).before a0 Z = true) (w4 : (Jvm.Cond.code y yb ym yr).before a0 Z = true) (hy : y.cls ≠ "java/lang/invoke/MethodHandle" ∧ y.cls ≠ "java/lang/invoke/VarHandle")
    {rm : Room} {as' : Array Value} {Q : Option Value → Heap → List Loc → Prop} (hM : MetFree l y (head1 [Jvm.Cond.code y yb ym yr] rm) (fun a U => a = as' ∧ Z.Warmed39 U.vm ∧ U.heap = h) (fun _ _ _ _ _ => True) (fun _ U o U' => ∃ v L, o = .returned v ∧ Q v U'.heap L ∧ FrameEnd U o U' L rm.cells rm.slots))
    (eT : T.heap = h) {a : Addr} (E : Exa Z h a Cn) (hd : decode bytes pc = .ok (.invokevirtual i, 3)) (argsL : List Value) (rest : List Value) (hS : S = argsL.reverse ++ .ref a :: rest) (has : as' = (.ref a :: argsL).toArray) {ps : List FieldType} {r : Option FieldType} (hpd : parseMethodDescriptor y.desc = some ⟨ps, r⟩) (hlen : argsL.length = ps.length) (hsz : Ls.size = maxL)
    (hf : rm.frames + 1 ≤ R.frames) (hl : (rest.map fun v => v.category).sum + (ym + 11) + rm.locals ≤ R.locals) (hc : cells + rm.cells ≤ R.cells) (hsl : slots + rm.slots ≤ R.slots) (hq : pc + 3 = q)
    (K : ∀ (T' : State) (v : Option Value) (L : List Loc), Stand p l e R s m args below meth c T' (locs ++ L) (cells + rm.cells) (slots + rm.slots) → Q v T'.heap L → Go p e below F (T'.setTop (mkF m q Ls (v.toList ++ rest)))) : Go p e below F (T.setTop (mkF m pc Ls S)) := by
  subst hq hS has
  obtain ⟨hx, hZ, hby, hml, hown, hnm, hret, hlk⟩ := C
  obtain ⟨cl, qa, qb⟩ := E.cell
  rw [← eT] at qa
  have ws' : (Jvm.Cond.selects y2.cls y2 y2).before args s = true := mvT hZ ws
  obtain ⟨_, _, m2, -, -, q3, -, kP, hkP, hkPi⟩ := Cond.selects_spec ws'
  have hfc := findClass_of_methodNamed q3
  rw [hcls] at hfc
  have hpr : s.PrivateAt y := Cond.privateMethod_at (args := args) (mvP hZ wp)
  have hsel := Jvm.Stand.selects_self_of_private (args := args) hfc hkP hkPi hpr (mvT hZ wi) hy
  obtain ⟨v, _, ⟨T1, L1, k1, n1⟩, -, X1, ⟨Lc, hQ, l1, y1, z1⟩, st⟩ := X.privateBack hx hown (mvT hZ w1) (mvT hZ wi) hsel hpr (mvT hZ w4) hy (backOf (W := (rest.map fun v => v.category).sum) hM hZ w4 w3 hf hl) (g := mkF m pc Ls (argsL.reverse ++ .ref a :: rest)) rfl (by rw [hml]; exact hsz) (Steps.refl _) qa qb (argsL := argsL) (rest := rest) (lenOf hpd hlen) rfl (by show 2 * 0 + _ ≤ _; omega) (hb hby hd) (fun _ _ => ⟨rfl, eT, hc, hsl⟩)
  dsimp only [Pt.U, Pt.locs, Pt.cells, Pt.slots] at X1 l1 y1 z1 st hQ
  subst l1 y1 z1
  exact tr st (K T1 v Lc X1 hQ)
theorem nf (C : Cx p s m meth c Z bytes maxL own mname ret) {Cn : String} {y : MethodName} (ws : (Jvm.Cond.selects Cn y y).before a0 Z = true) : NotFace s y := notFace_of_selects (args := #[]) (mvT C.2.1 ws)
theorem initObj (X : Stand p l e R s m args below meth c T locs cells slots) (C : Cx p s m meth c Z bytes maxL own mname ret) {i : Nat} (w1 : (Jvm.Cond.methodLink own i ⟨"java/lang/Object", "<init>", "()V"⟩).before a0 Z = true) (w2 : (Jvm.Cond.instanceMethod ⟨"java/lang/Object", "<init>", "()V"⟩).before a0 Z = true) (w3 : (Jvm.Cond.code ⟨"java/lang/Object", "<init>", "()V"⟩ object_method_1_code 1 none).before a0 Z = true)
    (eT : T.heap = h) {a : Addr} (hd : decode bytes pc = .ok (.invokespecial i, 3)) (hsz : Ls.size = maxL) (hf : 1 ≤ R.frames) (hl : (S.map fun v => v.category).sum + 12 ≤ R.locals) (hq : pc + 3 = q)
    (K : ∀ (T' : State), Stand p l e R s m args below meth c T' locs cells slots → T'.heap = h → Go p e below F (T'.setTop (mkF m q Ls S))) : Go p e below F (T.setTop (mkF m pc Ls (.ref a :: S))) := by
  subst hq
  obtain ⟨hx, hZ, hby, hml, hown, hnm, hret, hlk⟩ := C
  obtain ⟨T1, X1, e1, st⟩ := initO X hx hZ hown w1 w2 w3 eT (g := mkF m pc Ls (.ref a :: S)) rfl (by rw [hml]; exact hsz) rfl (hb hby hd) hf (W := (S.map fun v => v.category).sum) (by show 2 * 0 + _ ≤ _; omega) hl
  exact of st (K T1 X1 e1)
/-! objects -/
theorem newO (X : Stand p l e R s m args below meth c T locs cells slots) (C : Cx p s m meth c Z bytes maxL own mname ret) {i n : Nat} {Cn : String} (w1 : (Jvm.Cond.classLink own i Cn).before a0 Z = true) (w2 : (Jvm.Cond.instantiable Cn n).before a0 Z = true) (w3 : (Jvm.Cond.initialized Cn).before a0 Z = true) (eT : T.heap = h) (hd : decode bytes pc = .ok (.new i, 3)) (hc : cells + 1 ≤ R.cells) (hl : slots + n ≤ R.slots) (hq : pc + 3 = q)
    (K : ∀ (T' : State) (h' : Heap) (b : Addr), Stand p l e R s m args below meth c T' locs (cells + 1) (slots + n) → T'.heap = h' → b = h.size → Ext h h' → Exa Z h' b Cn → (∀ {O nm d : String} {ty : FieldType}, Laid Z a0 Cn O nm d → parseFieldDescriptor d = some ty → Fld Z h' b O nm d (defaultValue ty)) → Go p e below F (T'.setTop (mkF m q Ls (.ref b :: S)))) : Go p e below F (T.setTop (mkF m pc Ls S)) := by
  subst hq
  obtain ⟨hx, hZ, hby, hml, hown, hnm, hret, hlk⟩ := C
  obtain ⟨T1, h1, X1, e1, E1, A1, D1, -, st⟩ := Jvm.RoadKit.newO X hx hZ hown w1 w2 w3 eT (g := mkF m pc Ls S) rfl (hb hby hd) hc hl
  exact of st (K T1 h1 _ X1 e1 rfl E1 A1 D1)
theorem getF (X : Stand p l e R s m args below meth c T locs cells slots) (C : Cx p s m meth c Z bytes maxL own mname ret) {i : Nat} {R0 O n d host : String} (w : (Jvm.Cond.fieldLink own i R0 n d).before a0 Z = true ∨ (Jvm.Cond.fieldLinkNest own i R0 n d host).before a0 Z = true) (via : Via Z R0 O n d) (eT : T.heap = h) {a : Addr} {v : Value} (F0 : Fld Z h a O n d v) (hd : decode bytes pc = .ok (.getfield i, 3)) (hq : pc + 3 = q)
    (K : ∀ (T' : State), Stand p l e R s m args below meth c T' locs cells slots → T'.heap = h → Go p e below F (T'.setTop (mkF m q Ls (v :: S)))) : Go p e below F (T.setTop (mkF m pc Ls (.ref a :: S))) := by
  subst hq
  obtain ⟨hx, hZ, hby, hml, hown, hnm, hret, hlk⟩ := C
  obtain ⟨T1, X1, e1, st⟩ := Jvm.RoadKit.getF X hx hZ hown w via eT F0 (g := mkF m pc Ls (.ref a :: S)) rfl rfl (hb hby hd)
  exact of st (K T1 X1 e1)
theorem putF (X : Stand p l e R s m args below meth c T locs cells slots) (C : Cx p s m meth c Z bytes maxL own mname ret) {i kk : Nat} {R0 O n d host Cn : String} {ty : FieldType} (w : (Jvm.Cond.fieldLink own i R0 n d).before a0 Z = true ∨ (Jvm.Cond.fieldLinkNest own i R0 n d host).before a0 Z = true) (via : Via Z R0 O n d) (eT : T.heap = h) {a : Addr} {v old : Value} (F0 : Fld Z h a O n d old) (E : Exa Z h a Cn) (L : (Jvm.Cond.lays Cn O n d).before a0 Z = true ∨ ((Jvm.Cond.laysFinal Cn O n d).before a0 Z = true ∧ own = O ∧ mname = "<init>")) (wi : (Jvm.Cond.instantiable Cn kk).before a0 Z = true) (hty : parseFieldDescriptor d = some ty) (hn : narrow ty v = v) (hf : fits ty v = true) (hd : decode bytes pc = .ok (.putfield i, 3)) (hq : pc + 3 = q)
    (K : ∀ (T' : State) (h' : Heap), Stand p l e R s m args below meth c T' (locs ++ [⟨a, Jvm.RoadKit.slotOf Z O n d⟩]) cells slots → T'.heap = h' → Wr h h' a (Jvm.RoadKit.slotOf Z O n d) v → Go p e below F (T'.setTop (mkF m q Ls S))) : Go p e below F (T.setTop (mkF m pc Ls (v :: .ref a :: S))) := by
  subst hq
  obtain ⟨hx, hZ, hby, hml, hown, hnm, hret, hlk⟩ := C
  obtain ⟨T1, h1, X1, e1, W1, st⟩ := Jvm.RoadKit.putF X hx hZ hown w via eT F0 E (L.imp id fun q => ⟨q.1, q.2.1, hnm.trans q.2.2⟩) wi hty hn hf (g := mkF m pc Ls (v :: .ref a :: S)) rfl rfl (hb hby hd)
  exact of st (K T1 h1 X1 e1 W1)
theorem getS (X : Stand p l e R s m args below meth c T locs cells slots) (C : Cx p s m meth c Z bytes maxL own mname ret) {i : Nat} {R0 O n d : String} (w : (Jvm.Cond.fieldLink own i R0 n d).before a0 Z = true) (via : Via Z R0 O n d) (eT : T.heap = h) {v : Value} (F0 : Sta Z h O n d v) (hd : decode bytes pc = .ok (.getstatic i, 3)) (hq : pc + 3 = q)
    (K : ∀ (T' : State), Stand p l e R s m args below meth c T' locs cells slots → T'.heap = h → Go p e below F (T'.setTop (mkF m q Ls (v :: S)))) : Go p e below F (T.setTop (mkF m pc Ls S)) := by
  subst hq
  obtain ⟨hx, hZ, hby, hml, hown, hnm, hret, hlk⟩ := C
  obtain ⟨T1, X1, e1, st⟩ := Jvm.RoadKit.getS X hx hZ hown (host := "") w via eT F0 (g := mkF m pc Ls S) rfl (hb hby hd)
  exact of st (K T1 X1 e1)
/-! arrays: Arv Z h a k ty n vs d -/
theorem inb {cl : Cell} {n j : Int32} (S : cl.slots.size = n.toNatClampNeg) (h1 : 0 ≤ j.toInt) (h2 : j.toInt < n.toInt) : ¬ (j < 0 ∨ cl.slots.size ≤ j.toNatClampNeg) := inb_of S ⟨by rw [Int32.lt_iff_toInt_lt]; have : (0 : Int32).toInt = 0 := rfl; omega, by rw [Int32.lt_iff_toInt_lt]; exact h2⟩
theorem iaload (X : Stand p l e R s m args below meth c T locs cells slots) (C : Cx p s m meth c Z bytes maxL own mname ret) (eT : T.heap = h) {a : Addr} {k : ClassId} {n j x : Int32} {vs : List Value} {d : Value} (V : Arv Z h a k .int n vs d) (h1 : 0 ≤ j.toInt) (h2 : j.toInt < n.toInt) (hv : vs.getD j.toNatClampNeg d = .int x) (hd : decode bytes pc = .ok (.iaload, 1)) (hq : pc + 1 = q) (K : Go p e below F (T.setTop (mkF m q Ls (.int x :: S)))) : Go p e below F (T.setTop (mkF m pc Ls (.int j :: .ref a :: S))) := by
  subst hq
  obtain ⟨cl, Ar, q1, S1, N1, H1, G1⟩ := V
  exact of (X.iaload C.1 (j := j) (v := .int x) (by rw [eT]; exact Ar.1) (State.isArrayOf_alike C.2.1.alike Ar.2.1) Ar.2.2 (inb S1 h1 h2) (Has.at H1 (inb S1 h1 h2) hv) (g := mkF m pc Ls (.int j :: .ref a :: S)) rfl rfl (hb C.2.2.1 hd)) K
theorem caload (X : Stand p l e R s m args below meth c T locs cells slots) (C : Cx p s m meth c Z bytes maxL own mname ret) (eT : T.heap = h) {a : Addr} {k : ClassId} {n j x : Int32} {vs : List Value} {d : Value} (V : Arv Z h a k .char n vs d) (h1 : 0 ≤ j.toInt) (h2 : j.toInt < n.toInt) (hv : vs.getD j.toNatClampNeg d = .int x) (hd : decode bytes pc = .ok (.caload, 1)) (hq : pc + 1 = q) (K : Go p e below F (T.setTop (mkF m q Ls (.int x :: S)))) : Go p e below F (T.setTop (mkF m pc Ls (.int j :: .ref a :: S))) := by
  subst hq
  obtain ⟨cl, Ar, q1, S1, N1, H1, G1⟩ := V
  exact of (X.caload C.1 (j := j) (v := .int x) (by rw [eT]; exact Ar.1) (State.isArrayOf_alike C.2.1.alike Ar.2.1) Ar.2.2 (inb S1 h1 h2) (Has.at H1 (inb S1 h1 h2) hv) (g := mkF m pc Ls (.int j :: .ref a :: S)) rfl rfl (hb C.2.2.1 hd)) K
theorem baload (X : Stand p l e R s m args below meth c T locs cells slots) (C : Cx p s m meth c Z bytes maxL own mname ret) (eT : T.heap = h) {a : Addr} {k : ClassId} {n j x : Int32} {vs : List Value} {d : Value} (V : Arv Z h a k .byte n vs d) (h1 : 0 ≤ j.toInt) (h2 : j.toInt < n.toInt) (hv : vs.getD j.toNatClampNeg d = .int x) (hd : decode bytes pc = .ok (.baload, 1)) (hq : pc + 1 = q) (K : Go p e below F (T.setTop (mkF m q Ls (.int x :: S)))) : Go p e below F (T.setTop (mkF m pc Ls (.int j :: .ref a :: S))) := by
  subst hq
  obtain ⟨cl, Ar, q1, S1, N1, H1, G1⟩ := V
  exact of (X.baloadBytes C.1 (j := j) (v := .int x) (by rw [eT]; exact Ar.1) (State.isArrayOf_alike C.2.1.alike Ar.2.1) Ar.2.2 (inb S1 h1 h2) (Has.at H1 (inb S1 h1 h2) hv) (g := mkF m pc Ls (.int j :: .ref a :: S)) rfl rfl (hb C.2.2.1 hd)) K
theorem aaload (X : Stand p l e R s m args below meth c T locs cells slots) (C : Cx p s m meth c Z bytes maxL own mname ret) (eT : T.heap = h) {a : Addr} {k : ClassId} {n j : Int32} {x : Value} {vs : List Value} {d : Value} {ty : FieldType} (hty : ty.isReference = true) (V : Arv Z h a k ty n vs d) (h1 : 0 ≤ j.toInt) (h2 : j.toInt < n.toInt) (hv : vs.getD j.toNatClampNeg d = x) (hd : decode bytes pc = .ok (.aaload, 1)) (hq : pc + 1 = q) (K : Go p e below F (T.setTop (mkF m q Ls (x :: S)))) : Go p e below F (T.setTop (mkF m pc Ls (.int j :: .ref a :: S))) := by
  subst hq
  obtain ⟨cl, Ar, q1, S1, N1, H1, G1⟩ := V
  exact of (X.aaload C.1 (j := j) (v := x) (by rw [eT]; exact Ar.1) (State.isArrayOf_alike C.2.1.alike Ar.2.1) hty Ar.2.2 (inb S1 h1 h2) (Has.at H1 (inb S1 h1 h2) hv) (g := mkF m pc Ls (.int j :: .ref a :: S)) rfl rfl (hb C.2.2.1 hd)) K
theorem aaloadC (X : Stand p l e R s m args below meth c T locs cells slots) (C : Cx p s m meth c Z bytes maxL own mname ret) (eT : T.heap = h) {a : Addr} {cl : Cell} {j : Int32} {x : Value} {ty : FieldType} (hty : ty.isReference = true) (Ar : Arr Z h a cl ty) (hin : ¬ (j < 0 ∨ cl.slots.size ≤ j.toNatClampNeg)) (hat : cl.slots[j.toNatClampNeg]? = some x) (hd : decode bytes pc = .ok (.aaload, 1)) (hq : pc + 1 = q) (K : Go p e below F (T.setTop (mkF m q Ls (x :: S)))) : Go p e below F (T.setTop (mkF m pc Ls (.int j :: .ref a :: S))) := by
  subst hq
  exact of (X.aaload C.1 (j := j) (v := x) (by rw [eT]; exact Ar.1) (State.isArrayOf_alike C.2.1.alike Ar.2.1) hty Ar.2.2 hin hat (g := mkF m pc Ls (.int j :: .ref a :: S)) rfl rfl (hb C.2.2.1 hd)) K
theorem arraylength (X : Stand p l e R s m args below meth c T locs cells slots) (C : Cx p s m meth c Z bytes maxL own mname ret) (eT : T.heap = h) {a : Addr} {k : ClassId} {n : Int32} {vs : List Value} {d : Value} {ty : FieldType} (V : Arv Z h a k ty n vs d) (hd : decode bytes pc = .ok (.arraylength, 1)) (hq : pc + 1 = q) (K : Go p e below F (T.setTop (mkF m q Ls (.int n :: S)))) : Go p e below F (T.setTop (mkF m pc Ls (.ref a :: S))) := by
  subst hq
  obtain ⟨cl, Ar, q1, S1, N1, H1, G1⟩ := V
  refine of (X.arraylength C.1 (by rw [eT]; exact Ar.1) (State.isArrayOf_alike C.2.1.alike Ar.2.1) (g := mkF m pc Ls (.ref a :: S)) rfl rfl (hb C.2.2.1 hd)) ?_
  rw [len_of S1 N1]
  exact K
theorem iastore (X : Stand p l e R s m args below meth c T locs cells slots) (C : Cx p s m meth c Z bytes maxL own mname ret) (eT : T.heap = h) {a : Addr} {k : ClassId} {n j x : Int32} {vs : List Value} {d : Value} (V : Arv Z h a k .int n vs d) (h1 : 0 ≤ j.toInt) (h2 : j.toInt < n.toInt) (hlen : j.toNatClampNeg < vs.length) (hd : decode bytes pc = .ok (.iastore, 1)) (hq : pc + 1 = q)
    (K : ∀ (T' : State) (h' : Heap), Stand p l e R s m args below meth c T' (locs ++ [⟨a, j.toNatClampNeg⟩]) cells slots → T'.heap = h' → Wr h h' a j.toNatClampNeg (.int x) → Arv Z h' a k .int n (vs.set j.toNatClampNeg (.int x)) d → Go p e below F (T'.setTop (mkF m q Ls S))) : Go p e below F (T.setTop (mkF m pc Ls (.int x :: .int j :: .ref a :: S))) := by
  subst hq
  obtain ⟨cl, Ar, q1, S1, N1, H1, G1⟩ := V
  obtain ⟨T1, h1', X1, e1, W1, st⟩ := stI X C.1 C.2.1 eT Ar (j := j) (inb S1 h1 h2) (g := mkF m pc Ls (.int x :: .int j :: .ref a :: S)) rfl rfl (hb C.2.2.1 hd)
  exact of st (K T1 h1' X1 e1 W1 (Arv.set Ar q1 S1 N1 H1 G1 rfl W1 _ rfl hlen))
theorem castore (X : Stand p l e R s m args below meth c T locs cells slots) (C : Cx p s m meth c Z bytes maxL own mname ret) (eT : T.heap = h) {a : Addr} {k : ClassId} {n j x : Int32} {vs : List Value} {d : Value} (V : Arv Z h a k .char n vs d) (h1 : 0 ≤ j.toInt) (h2 : j.toInt < n.toInt) (hlen : j.toNatClampNeg < vs.length) (hd : decode bytes pc = .ok (.castore, 1)) (hq : pc + 1 = q)
    (K : ∀ (T' : State) (h' : Heap), Stand p l e R s m args below meth c T' (locs ++ [⟨a, j.toNatClampNeg⟩]) cells slots → T'.heap = h' → Wr h h' a j.toNatClampNeg (.int (nar .char x)) → Arv Z h' a k .char n (vs.set j.toNatClampNeg (.int (nar .char x))) d → Go p e below F (T'.setTop (mkF m q Ls S))) : Go p e below F (T.setTop (mkF m pc Ls (.int x :: .int j :: .ref a :: S))) := by
  subst hq
  obtain ⟨cl, Ar, q1, S1, N1, H1, G1⟩ := V
  obtain ⟨T1, h1', X1, e1, W1, st⟩ := stC X C.1 C.2.1 eT Ar (j := j) (inb S1 h1 h2) (g := mkF m pc Ls (.int x :: .int j :: .ref a :: S)) rfl rfl (hb C.2.2.1 hd)
  exact of st (K T1 h1' X1 e1 W1 (Arv.set Ar q1 S1 N1 H1 G1 (fits_nar_char _) W1 _ rfl hlen))
theorem bastore (X : Stand p l e R s m args below meth c T locs cells slots) (C : Cx p s m meth c Z bytes maxL own mname ret) (eT : T.heap = h) {a : Addr} {k : ClassId} {n j x : Int32} {vs : List Value} {d : Value} (V : Arv Z h a k .byte n vs d) (h1 : 0 ≤ j.toInt) (h2 : j.toInt < n.toInt) (hlen : j.toNatClampNeg < vs.length) (hd : decode bytes pc = .ok (.bastore, 1)) (hq : pc + 1 = q)
    (K : ∀ (T' : State) (h' : Heap), Stand p l e R s m args below meth c T' (locs ++ [⟨a, j.toNatClampNeg⟩]) cells slots → T'.heap = h' → Wr h h' a j.toNatClampNeg (.int x.toInt8.toInt32) → Arv Z h' a k .byte n (vs.set j.toNatClampNeg (.int x.toInt8.toInt32)) d → Go p e below F (T'.setTop (mkF m q Ls S))) : Go p e below F (T.setTop (mkF m pc Ls (.int x :: .int j :: .ref a :: S))) := by
  subst hq
  obtain ⟨cl, Ar, q1, S1, N1, H1, G1⟩ := V
  obtain ⟨T1, h1', X1, e1, W1, st⟩ := stB X C.1 C.2.1 eT Ar (j := j) (inb S1 h1 h2) (g := mkF m pc Ls (.int x :: .int j :: .ref a :: S)) rfl rfl (hb C.2.2.1 hd)
  exact of st (K T1 h1' X1 e1 W1 (Arv.set Ar q1 S1 N1 H1 G1 (fits_nar_byte _) W1 _ rfl hlen))
theorem aastore (X : Stand p l e R s m args below meth c T locs cells slots) (C : Cx p s m meth c Z bytes maxL own mname ret) (eT : T.heap = h) {a : Addr} {k : ClassId} {n j : Int32} {x : Value} {vs : List Value} {d : Value} {ty : FieldType} (hty : ty.isReference = true) (hf : fits ty x = true) (V : Arv Z h a k ty n vs d) (hs : ∀ cl, Arr Z h a cl ty → cl.cls = k → Sto Z h a x) (h1 : 0 ≤ j.toInt) (h2 : j.toInt < n.toInt) (hlen : j.toNatClampNeg < vs.length) (hd : decode bytes pc = .ok (.aastore, 1)) (hq : pc + 1 = q)
    (K : ∀ (T' : State) (h' : Heap), Stand p l e R s m args below meth c T' (locs ++ [⟨a, j.toNatClampNeg⟩]) cells slots → T'.heap = h' → Wr h h' a j.toNatClampNeg x → Arv Z h' a k ty n (vs.set j.toNatClampNeg x) d → Go p e below F (T'.setTop (mkF m q Ls S))) : Go p e below F (T.setTop (mkF m pc Ls (x :: .int j :: .ref a :: S))) := by
  subst hq
  obtain ⟨cl, Ar, q1, S1, N1, H1, G1⟩ := V
  obtain ⟨T1, h1', X1, e1, W1, st⟩ := stR X C.1 C.2.1 eT Ar (j := j) (inb S1 h1 h2) hty (hs cl Ar q1) (g := mkF m pc Ls (x :: .int j :: .ref a :: S)) rfl rfl (hb C.2.2.1 hd)
  exact of st (K T1 h1' X1 e1 W1 (Arv.set Ar q1 S1 N1 H1 G1 hf W1 _ rfl hlen))
theorem newarray (X : Stand p l e R s m args below meth c T locs cells slots) (C : Cx p s m meth c Z bytes maxL own mname ret) {aty : ArrayType} (w : (Jvm.Cond.arrayClass (newarray.typeOf aty)).before a0 Z = true) (eT : T.heap = h) {n : Int32} (hn : 0 ≤ n.toInt) (cap : Nat) (hcap : n.toInt ≤ cap) (hb8 : cap * 8 ≤ 536870912) (hd : decode bytes pc = .ok (.newarray aty, 2)) (hc : cells + 1 ≤ R.cells) (hl : slots + cap ≤ R.slots) (hq : pc + 2 = q)
    (K : ∀ (T' : State) (h' : Heap) (b : Addr) (k : ClassId), Stand p l e R s m args below meth c T' locs (cells + 1) (slots + cap) → T'.heap = h' → b = h.size → Ext h h' → Arv Z h' b k (newarray.typeOf aty) n (List.replicate cap (defaultValue (newarray.typeOf aty))) (defaultValue (newarray.typeOf aty)) → Go p e below F (T'.setTop (mkF m q Ls (.ref b :: S)))) : Go p e below F (T.setTop (mkF m pc Ls (.int n :: S))) := by
  subst hq
  have hn' : ¬ n < 0 := by rw [Int32.lt_iff_toInt_lt]; have : (0 : Int32).toInt = 0 := rfl; omega
  obtain ⟨T1, h1, k1, X1, e1, E1, A1, st⟩ := newP X C.1 C.2.1 w eT (g := mkF m pc Ls (.int n :: S)) rfl (hb C.2.2.1 hd) rfl hn' (cap := cap) (by simp only [Int32.toNatClampNeg]; omega) hb8 hc hl
  exact of st (K T1 h1 _ k1 X1 e1 rfl E1 ((Arv.new A1 hn').pad (pad_rep [] _ cap)))
theorem anewarray (X : Stand p l e R s m args below meth c T locs cells slots) (C : Cx p s m meth c Z bytes maxL own mname ret) {i : Nat} {Cn : String} (w1 : (Jvm.Cond.classLink own i Cn).before a0 Z = true) (w2 : (Jvm.Cond.arrayOver (.object Cn)).before a0 Z = true) (eT : T.heap = h) {n : Int32} (hn : 0 ≤ n.toInt) (cap : Nat) (hcap : n.toInt ≤ cap) (hb8 : cap * 8 ≤ 536870912) (hd : decode bytes pc = .ok (.anewarray i, 3)) (hc : cells + 1 ≤ R.cells) (hl : slots + cap ≤ R.slots) (hq : pc + 3 = q)
    (K : ∀ (T' : State) (h' : Heap) (b : Addr) (k : ClassId), Stand p l e R s m args below meth c T' locs (cells + 1) (slots + cap) → T'.heap = h' → b = h.size → Ext h h' → Ovr Z k Cn → Arv Z h' b k (.object Cn) n (List.replicate cap .null) .null → Go p e below F (T'.setTop (mkF m q Ls (.ref b :: S)))) : Go p e below F (T.setTop (mkF m pc Ls (.int n :: S))) := by
  subst hq
  have hn' : ¬ n < 0 := by rw [Int32.lt_iff_toInt_lt]; have : (0 : Int32).toInt = 0 := rfl; omega
  obtain ⟨T1, h1, k1, X1, e1, E1, A1, O1, st⟩ := newR X C.1 C.2.1 C.2.2.2.2.1 w1 w2 eT (g := mkF m pc Ls (.int n :: S)) rfl (hb C.2.2.1 hd) rfl hn' (cap := cap) (by simp only [Int32.toNatClampNeg]; omega) hb8 hc hl
  exact of st (K T1 h1 _ k1 X1 e1 rfl E1 O1 ((Arv.new A1 hn').pad (pad_rep [] _ cap)))
/-! String constants (ldc): the tables grow; the end is said of the true start -/
def PostW (s : State) (Q : Option Value → Heap → List Loc → Prop) (k n : Nat) (o : Outcome) (U' : State) : Prop := ∃ v L, o = .returned v ∧ Q v U'.heap L ∧ ReturnedEndW s o U' L k n
theorem postW {vm1 : Vm} {kk k n : Nat} {U : State} {Q : Option Value → Heap → List Loc → Prop} (hS : s.Since vm1 kk) (g : Go p e below (Post (s.setVm vm1) (fun v h L => Q v h L ∧ kk ≤ h.size) k n) U) : Go p e below (PostW s Q k n) U := by
  obtain ⟨s2, o, h1, h2, h3, v, L, e1, ⟨q1, q2⟩, hr, hW, hs⟩ := g
  obtain ⟨a, b, c'⟩ := hS.ended (U := s2) hW q2 hs
  exact ⟨s2, o, h1, h2, h3, v, L, e1, q1, hr, a, b, c'⟩
theorem bodyOfW {y : MethodName} {ws : List Jvm.Cond} {rm : Room} {as : Array Value} {Q : Option Value → Heap → List Loc → Prop} (hp : plainFor y = true) (hef : ∀ m, entryFrame m as maxL = mkF m 0 Ls [])
    (body : ∀ p e s m below meth c s₁, Cx p (s.setVm s.vm) m meth c Z bytes maxL y.cls y.name ret → Stand p l e rm (s.setVm s.vm) m as below meth c s₁ [] 0 0 → s₁.heap = h0 → s.Since s.vm 0 → Go p e below (PostW s Q rm.cells rm.slots) (s₁.setTop (mkF m 0 Ls []))) :
    MetFree l y (head1 (Jvm.Cond.code y bytes maxL ret :: ws) rm) (fun a U => a = as ∧ Z.Warmed39 U.vm ∧ U.heap = h0) (fun _ _ _ _ _ => True) (fun _ U o U' => ∃ v L, o = .returned v ∧ Q v U'.heap L ∧ ReturnedEndW U o U' L rm.cells rm.slots) := by
  refine MetFree.of_bodySF hp hisR ?_
  intro p e s m args below meth c s₁ Bd hml0 hP hK
  obtain ⟨rfl, hZ, hh⟩ := hP
  obtain ⟨s₂, o, h1, h2⟩ := body p e s m below meth c s₁ ⟨Bd.exec, hZ, Bd.bytes, hml0, findClass_of_methodNamed Bd.named, (name_of_methodNamed Bd.named Bd.method).1, Bd.returns, Bd.notSynchronized⟩ (Stand.of_body Bd) (by rw [← hh, Bd.state]; rfl) ((State.WarmedH.refl s).since 0)
  exact ⟨s₂, o, castTop (hef m) h1, h2⟩
theorem ldcS {vm0 : Vm} (X : Stand p l e R (s.setVm vm0) m args below meth c T locs cells slots) (C : Cx p (s.setVm vm0) m meth c Z bytes maxL own mname ret) {i : Nat} {text : String} (w : (Jvm.Cond.stringLink own i text).before a0 Z = true) (wS : ∀ a ∈ Bundle.stringAtoms, a.before a0 Z = true) (eT : T.heap = h) {k0 : Nat} (hS : s.Since vm0 k0) (hk : k0 ≤ h.size) (hd : decode bytes pc = .ok (.ldc i, 2)) (n : Nat) (hn : 4 * text.toList.length ≤ n) (hbig : n ≤ 536870912) (hc : cells + 2 ≤ R.cells) (hl' : slots + (n + 4) ≤ R.slots) (hq : pc + 2 = q)
    (K : ∀ (a : Addr) (T' : State) (h' : Heap) (k1 : Nat), Stand p l e R (s.setVm T'.vm) m args below meth c T' locs (cells + 2) (slots + (n + 4)) → Cx p (s.setVm T'.vm) m meth c Z bytes maxL own mname ret → T'.heap = h' → Ext h h' → s.Since T'.vm k1 → k1 ≤ h'.size → Go p e below F (T'.setTop (mkF m q Ls (.ref a :: S)))) : Go p e below F (T.setTop (mkF m pc Ls S)) := by
  subst hq
  obtain ⟨hx, hZ, hby, hml, hown, hnm, hret, hlk⟩ := C
  obtain ⟨a, T', h', k1, X1, e1, E1, S1, K1, Z1, O1, -, -, st⟩ := ldcOH (EL := []) X hx hZ hown w wS eT hS hk EW.nil (fun p hp => by cases hp) (g := mkF m pc Ls S) rfl (hb hby hd) hn hbig hc hl'
  exact of st (K a T' h' k1 X1 ⟨hx, Z1, hby, hml, O1, hnm, hret, hlk⟩ e1 E1 S1 K1)
/-! String constants that are read (EL): callees that load them -/
def PostH (s : State) (Z : State) (EL : List (String × Nat)) (Q : Option Value → Heap → List Loc → Prop) (k n : Nat) (o : Outcome) (U' : State) : Prop := ∃ v L, o = .returned v ∧ Q v U'.heap L ∧ CHr Z EL s.vm s.heap U'.vm U'.heap ∧ ReturnedEndW s o U' L k n
theorem ldcC {vm0 : Vm} {EL : List (String × Nat)} (X : Stand p l e R (s.setVm vm0) m args below meth c T locs cells slots) (C : Cx p (s.setVm vm0) m meth c Z bytes maxL own mname ret) {i : Nat} {text : String} (w : (Jvm.Cond.stringLink own i text).before a0 Z = true) (wS : ∀ a ∈ Bundle.stringAtoms, a.before a0 Z = true) (eT : T.heap = h) {k0 : Nat} (hS : s.Since vm0 k0) (hk : k0 ≤ h.size) (hEL : EW Z a0 EL) (hmem : (own, i) ∈ EL) (H : CHv Z EL vm0 h) {vs : List Value} {z : Int32} (ht : (∀ c ∈ text.toList, c.toNat < 256) ∧ text.toList.map (fun c => Value.int (Jvm.Lit.byteI c.toNat.toUInt16)) = vs) (hz : ¬ z < 0) (hl : z.toNatClampNeg = vs.length) (hd : decode bytes pc = .ok (.ldc i, 2)) (n : Nat) (hn : 4 * text.toList.length ≤ n) (hbig : n ≤ 536870912) (hc : cells + 2 ≤ R.cells) (hl' : slots + (n + 4) ≤ R.slots) (hq : pc + 2 = q)
    (K : ∀ (a : Addr) (T' : State) (h' : Heap) (k1 : Nat) (b : Addr) (k : ClassId), Stand p l e R (s.setVm T'.vm) m args below meth c T' locs (cells + 2) (slots + (n + 4)) → Cx p (s.setVm T'.vm) m meth c Z bytes maxL own mname ret → T'.heap = h' → Ext h h' → s.Since T'.vm k1 → k1 ≤ h'.size → Exa Z h' a "java/lang/String" → Fld Z h' a "java/lang/String" "coder" "B" (.int 0) → Fld Z h' a "java/lang/String" "value" "[B" (.ref b) → Arv Z h' b k .byte z vs (.int 0) → CHr Z EL vm0 h T'.vm h' → Go p e below F (T'.setTop (mkF m q Ls (.ref a :: S)))) : Go p e below F (T.setTop (mkF m pc Ls S)) := by
  subst hq
  obtain ⟨hx, hZ, hby, hml, hown, hnm, hret, hlk⟩ := C
  obtain ⟨a, T', h', k1, b, k, X1, e1, E1, S1, K1, Z1, O1, f1, f2, f3, f4, -, -, H1, -, -, st⟩ := ldcCH X hx hZ hown w wS eT hS hk hEL hmem H ht hz hl (g := mkF m pc Ls S) rfl (hb hby hd) hn hbig hc hl'
  exact of st (K a T' h' k1 b k X1 ⟨hx, Z1, hby, hml, O1, hnm, hret, hlk⟩ e1 E1 S1 K1 f1 f2 f3 f4 H1)
theorem callSW {vm0 : Vm} {EL : List (String × Nat)} (X : Stand p l e R (s.setVm vm0) m args below meth c T locs cells slots) (C : Cx p (s.setVm vm0) m meth c Z bytes maxL own mname ret) {y : MethodName} {i : Nat} {yb : ByteArray} {ym : Nat} {yr : Option FieldType} (w1 : (Jvm.Cond.methodLink own i y).before a0 Z = true) (w2 : (Jvm.Cond.static y).before a0 Z = true) (w3 : (Jvm.Cond.initialized y.cls).before a0 Z = true) (w4 : (Jvm.Cond.code y yb ym yr).before a0 Z = true) (hy : y.cls ≠ "java/lang/invoke/MethodHandle" ∧ y.cls ≠ "java/lang/invoke/VarHandle")
    {rm : Room} {as' : Array Value} {Q : Option Value → Heap → List Loc → Prop} (hM : MetFree l y (head1 [Jvm.Cond.code y yb ym yr] rm) (fun a U => a = as' ∧ Z.Warmed39 U.vm ∧ U.heap = h ∧ CHv Z EL U.vm h) (fun _ _ _ _ _ => True) (fun _ U o U' => ∃ v L, o = .returned v ∧ Q v U'.heap L ∧ CHr Z EL U.vm U.heap U'.vm U'.heap ∧ ReturnedEndW U o U' L rm.cells rm.slots))
    (eT : T.heap = h) {k0 : Nat} (hS : s.Since vm0 k0) (hk : k0 ≤ h.size) (hEL : EW Z a0 EL) (H : CHv Z EL vm0 h) (hd : decode bytes pc = .ok (.invokestatic i, 3)) (argsL : List Value) (rest : List Value) (hSt : S = argsL.reverse ++ rest) (has : as' = argsL.toArray) {ps : List FieldType} {r : Option FieldType} (hpd : parseMethodDescriptor y.desc = some ⟨ps, r⟩) (hlen : argsL.length = ps.length) (hsz : Ls.size = maxL)
    (hf : rm.frames + 1 ≤ R.frames) (hl : (rest.map fun v => v.category).sum + (ym + 11) + rm.locals ≤ R.locals) (hc : cells + rm.cells ≤ R.cells) (hsl : slots + rm.slots ≤ R.slots) (hq : pc + 3 = q)
    (K : ∀ (T' : State) (v : Option Value) (L : List Loc), Stand p l e R (s.setVm T'.vm) m args below meth c T' (locs ++ L) (cells + rm.cells) (slots + rm.slots) → Cx p (s.setVm T'.vm) m meth c Z bytes maxL own mname ret → s.Since T'.vm T'.heap.size → h.size ≤ T'.heap.size → Q v T'.heap L → CHr Z EL vm0 h T'.vm T'.heap → Go p e below F (T'.setTop (mkF m q Ls (v.toList ++ rest)))) : Go p e below F (T.setTop (mkF m pc Ls S)) := by
  subst hq hSt has
  obtain ⟨hx, hZ, hby, hml, hown, hnm, hret, hlk⟩ := C
  have hcode : (Jvm.Cond.code y yb ym yr).before args (s.setVm vm0) = true := mvT hZ w4
  obtain ⟨mk, hnamed⟩ := Cond.named_of_code (x := y) hcode
  obtain ⟨methM, cM, hmethM, -, -, -, -, -, -, hsig⟩ := Cond.code_spec hnamed hcode
  obtain ⟨v, _, ⟨T1, L1, k1, n1⟩, -, X1, S1, G1, ⟨Lc, hQ, l1, y1, z1, H1⟩, st⟩ := X.staticBackS hx hown (mvT hZ w1) (mvT hZ w2) (mvT hZ w3) hnamed hmethM hsig hy (backOfSH (W := (rest.map fun v => v.category).sum) hM hZ w4 w3 hf hl hEL H) (g := mkF m pc Ls (argsL.reverse ++ rest)) rfl (by rw [hml]; exact hsz) (Steps.refl _) (argsL := argsL) (rest := rest) (lenOf hpd hlen) rfl (by show 2 * 0 + _ ≤ _; omega) (hb hby hd) (fun _ _ => ⟨rfl, eT, hc, hsl⟩)
  dsimp only [Pt.U, Pt.locs, Pt.cells, Pt.slots] at X1 S1 G1 l1 y1 z1 st hQ H1
  subst l1 y1 z1
  rw [eT] at G1
  have S2 : s.Since T1.vm T1.heap.size := hS.trans S1 (Nat.le_trans hk G1)
  exact tr st (K T1 v Lc X1 ⟨hx, State.Warmed39.trans (t := s.setVm vm0) hZ S1.1, hby, hml, by rw [show (s.setVm T1.vm).vm = T1.vm from rfl, S1.1.alike.findClass]; exact hown, hnm, hret, hlk⟩ S2 G1 hQ H1)
theorem bodyOfH {EL : List (String × Nat)} {y : MethodName} {ws : List Jvm.Cond} {rm : Room} {as : Array Value} {Q : Option Value → Heap → List Loc → Prop} (hp : plainFor y = true) (hef : ∀ m, entryFrame m as maxL = mkF m 0 Ls [])
    (body : ∀ p e s m below meth c s₁, Cx p (s.setVm s.vm) m meth c Z bytes maxL y.cls y.name ret → Stand p l e rm (s.setVm s.vm) m as below meth c s₁ [] 0 0 → s₁.heap = h0 → s.heap = h0 → CHv Z EL s.vm h0 → s.Since s.vm 0 → Go p e below (PostH s Z EL Q rm.cells rm.slots) (s₁.setTop (mkF m 0 Ls []))) :
    MetFree l y (head1 (Jvm.Cond.code y bytes maxL ret :: ws) rm) (fun a U => a = as ∧ Z.Warmed39 U.vm ∧ U.heap = h0 ∧ CHv Z EL U.vm h0) (fun _ _ _ _ _ => True) (fun _ U o U' => ∃ v L, o = .returned v ∧ Q v U'.heap L ∧ CHr Z EL U.vm U.heap U'.vm U'.heap ∧ ReturnedEndW U o U' L rm.cells rm.slots) := by
  refine MetFree.of_bodySF hp hisR ?_
  intro p e s m args below meth c s₁ Bd hml0 hP hK
  obtain ⟨rfl, hZ, hh, hH⟩ := hP
  obtain ⟨s₂, o, h1, h2⟩ := body p e s m below meth c s₁ ⟨Bd.exec, hZ, Bd.bytes, hml0, findClass_of_methodNamed Bd.named, (name_of_methodNamed Bd.named Bd.method).1, Bd.returns, Bd.notSynchronized⟩ (Stand.of_body Bd) (by rw [← hh, Bd.state]; rfl) hh hH ((State.WarmedH.refl s).since 0)
  exact ⟨s₂, o, castTop (hef m) h1, h2⟩
theorem retAH {vm0 : Vm} {EL : List (String × Nat)} (X : Stand p l e R (s.setVm vm0) m args below meth c T locs cells slots) {t : FieldType} (C : Cx p (s.setVm vm0) m meth c Z bytes maxL own mname (some t)) (ht : t.isReference = true) (eT : T.heap = h) {z : Value} (hz : z.isRef = true) (hd : decode bytes pc = .ok (.areturn, 1)) {k n : Nat} (hk : cells ≤ k) (hn : slots ≤ n) {k0 : Nat} (hS : s.Since vm0 k0) (hk0 : k0 ≤ h.size) (hEL : EW Z a0 EL) (H : CHr Z EL s.vm s.heap vm0 h) {Q : Option Value → Heap → List Loc → Prop} (hQ : Q (some z) h locs) :
    Go p e below (PostH s Z EL Q k n) (T.setTop (mkF m pc Ls (z :: rest))) := by
  have HT := CHv.at X C.2.1 hEL H.1
  obtain ⟨hx, hZ, hby, hml, hown, hnm, hret, hlk⟩ := C
  obtain ⟨fs, hr, hrun, hended, hr2, hW, hin, hsame⟩ := X.leaveW hS (by rw [eT]; exact hk0) (v := some z) (fun h => by rw [hret] at h; cases h)
  refine ⟨_, _, ?_, hrun, hended, _, _, rfl, ?_, ?_, hr2, hW, hin, hsame.mono hk hn⟩
  · have hm' : T.vm.method? m = some meth := X.method'
    have hd' := hb hby hd
    show Steps p.tables e below (T.setTop { method := m, pc := pc, locals := Ls, stack := _ :: rest, locked := none }) _
    jvm_step X.here [X.here.top, hx, hd', hm', hret, hz, ht]
    first | (intro acts; rw [hr _ acts rfl rfl rfl]) | rw [hr _ _ rfl rfl rfl]
    exact Steps.refl _
  · show Q _ T.heap _
    rw [eT]; exact hQ
  · show CHr Z EL s.vm s.heap T.vm T.heap
    rw [eT]; exact H.trans HT
theorem retVH {vm0 : Vm} {EL : List (String × Nat)} (X : Stand p l e R (s.setVm vm0) m args below meth c T locs cells slots) (C : Cx p (s.setVm vm0) m meth c Z bytes maxL own mname none) (eT : T.heap = h) (hd : decode bytes pc = .ok (.return_, 1)) {k n : Nat} (hk : cells ≤ k) (hn : slots ≤ n) {k0 : Nat} (hS : s.Since vm0 k0) (hk0 : k0 ≤ h.size) (hEL : EW Z a0 EL) (H : CHr Z EL s.vm s.heap vm0 h) {Q : Option Value → Heap → List Loc → Prop} (hQ : Q none h locs) :
    Go p e below (PostH s Z EL Q k n) (T.setTop (mkF m pc Ls [])) := by
  have HT := CHv.at X C.2.1 hEL H.1
  obtain ⟨hx, hZ, hby, hml, hown, hnm, hret, hlk⟩ := C
  obtain ⟨fs, hr, hrun, hended, hr2, hW, hin, hsame⟩ := X.leaveW hS (by rw [eT]; exact hk0) (v := none) (fun _ => rfl)
  refine ⟨_, _, X.returnOut hx hret (hb hby hd) hr, hrun, hended, _, _, rfl, ?_, ?_, hr2, hW, hin, hsame.mono hk hn⟩
  · show Q _ T.heap _
    rw [eT]; exact hQ
  · show CHr Z EL s.vm s.heap T.vm T.heap
    rw [eT]; exact H.trans HT
theorem ldcH {vm0 : Vm} {EL : List (String × Nat)} (X : Stand p l e R (s.setVm vm0) m args below meth c T locs cells slots) (C : Cx p (s.setVm vm0) m meth c Z bytes maxL own mname ret) {i : Nat} {text : String} (w : (Jvm.Cond.stringLink own i text).before a0 Z = true) (wS : ∀ a ∈ Bundle.stringAtoms, a.before a0 Z = true) (eT : T.heap = h) {k0 : Nat} (hS : s.Since vm0 k0) (hk : k0 ≤ h.size) (hEL : EW Z a0 EL) (H : CHv Z EL vm0 h) (hd : decode bytes pc = .ok (.ldc i, 2)) (n : Nat) (hn : 4 * text.toList.length ≤ n) (hbig : n ≤ 536870912) (hc : cells + 2 ≤ R.cells) (hl' : slots + (n + 4) ≤ R.slots) (hq : pc + 2 = q)
    (K : ∀ (a : Addr) (T' : State) (h' : Heap) (k1 : Nat), Stand p l e R (s.setVm T'.vm) m args below meth c T' locs (cells + 2) (slots + (n + 4)) → Cx p (s.setVm T'.vm) m meth c Z bytes maxL own mname ret → T'.heap = h' → Ext h h' → s.Since T'.vm k1 → k1 ≤ h'.size → CHr Z EL vm0 h T'.vm h' → Go p e below F (T'.setTop (mkF m q Ls (.ref a :: S)))) : Go p e below F (T.setTop (mkF m pc Ls S)) := by
  subst hq
  obtain ⟨hx, hZ, hby, hml, hown, hnm, hret, hlk⟩ := C
  obtain ⟨a, T', h', k1, X1, e1, E1, S1, K1, Z1, O1, H1, -, st⟩ := ldcOH X hx hZ hown w wS eT hS hk hEL H (g := mkF m pc Ls S) rfl (hb hby hd) hn hbig hc hl'
  exact of st (K a T' h' k1 X1 ⟨hx, Z1, hby, hml, O1, hnm, hret, hlk⟩ e1 E1 S1 K1 H1)
theorem callIW {vm0 : Vm} {EL : List (String × Nat)} (X : Stand p l e R (s.setVm vm0) m args below meth c T locs cells slots) (C : Cx p (s.setVm vm0) m meth c Z bytes maxL own mname ret) {y : MethodName} {i : Nat} {yb : ByteArray} {ym : Nat} (hy1 : y.name = "<init>") (w1 : (Jvm.Cond.methodLink own i y).before a0 Z = true) (w2 : (Jvm.Cond.instanceMethod y).before a0 Z = true) (w3 : (Jvm.Cond.initialized y.cls).before a0 Z = true) (w4 : (Jvm.Cond.code y yb ym none).before a0 Z = true) (hy : y.cls ≠ "java/lang/invoke/MethodHandle" ∧ y.cls ≠ "java/lang/invoke/VarHandle")
    {rm : Room} {as' : Array Value} {Q : Option Value → Heap → List Loc → Prop} (hM : MetFree l y (head1 [Jvm.Cond.code y yb ym none] rm) (fun a U => a = as' ∧ Z.Warmed39 U.vm ∧ U.heap = h ∧ CHv Z EL U.vm h) (fun _ _ _ _ _ => True) (fun _ U o U' => ∃ v L, o = .returned v ∧ Q v U'.heap L ∧ CHr Z EL U.vm U.heap U'.vm U'.heap ∧ ReturnedEndW U o U' L rm.cells rm.slots))
    (eT : T.heap = h) {k0 : Nat} (hS : s.Since vm0 k0) (hk : k0 ≤ h.size) (hEL : EW Z a0 EL) (H : CHv Z EL vm0 h) (hd : decode bytes pc = .ok (.invokespecial i, 3)) {a : Addr} (argsL : List Value) (rest : List Value) (hSt : S = argsL.reverse ++ .ref a :: rest) (has : as' = (.ref a :: argsL).toArray) {ps : List FieldType} {r : Option FieldType} (hpd : parseMethodDescriptor y.desc = some ⟨ps, r⟩) (hlen : argsL.length = ps.length) (hsz : Ls.size = maxL)
    (hf : rm.frames + 1 ≤ R.frames) (hl : (rest.map fun v => v.category).sum + (ym + 11) + rm.locals ≤ R.locals) (hc : cells + rm.cells ≤ R.cells) (hsl : slots + rm.slots ≤ R.slots) (hq : pc + 3 = q)
    (K : ∀ (T' : State) (v : Option Value) (L : List Loc), Stand p l e R (s.setVm T'.vm) m args below meth c T' (locs ++ L) (cells + rm.cells) (slots + rm.slots) → Cx p (s.setVm T'.vm) m meth c Z bytes maxL own mname ret → s.Since T'.vm T'.heap.size → h.size ≤ T'.heap.size → Q v T'.heap L → CHr Z EL vm0 h T'.vm T'.heap → Go p e below F (T'.setTop (mkF m q Ls (v.toList ++ rest)))) : Go p e below F (T.setTop (mkF m pc Ls S)) := by
  subst hq hSt has
  obtain ⟨hx, hZ, hby, hml, hown, hnm, hret, hlk⟩ := C
  obtain ⟨v, _, ⟨T1, L1, k1, n1⟩, -, X1, S1, G1, ⟨Lc, hQ, l1, y1, z1, H1⟩, st⟩ := X.specialBackS hx hy1 hown (mvT hZ w1) (mvT hZ w2) (mvT hZ w4) hy (backOfSH (W := (rest.map fun v => v.category).sum) hM hZ w4 w3 hf hl hEL H) (g := mkF m pc Ls (argsL.reverse ++ .ref a :: rest)) rfl (by rw [hml]; exact hsz) (Steps.refl _) (a := a) (argsL := argsL) (rest := rest) (lenOf hpd hlen) rfl (by show 2 * 0 + _ ≤ _; omega) (hb hby hd) (fun _ _ => ⟨rfl, eT, hc, hsl⟩)
  dsimp only [Pt.U, Pt.locs, Pt.cells, Pt.slots] at X1 S1 G1 l1 y1 z1 st hQ H1
  subst l1 y1 z1
  rw [eT] at G1
  exact tr st (K T1 v Lc X1 ⟨hx, State.Warmed39.trans (t := s.setVm vm0) hZ S1.1, hby, hml, by rw [show (s.setVm T1.vm).vm = T1.vm from rfl, S1.1.alike.findClass]; exact hown, hnm, hret, hlk⟩ (hS.trans S1 (Nat.le_trans hk G1)) G1 hQ H1)
theorem bodyOfHW {EL : List (String × Nat)} {y : MethodName} {ws : List Jvm.Cond} {rm : Room} {as : Array Value} {Q : Option Value → Heap → List Loc → Prop} (hp : plainFor y = true) (hef : ∀ m, entryFrame m as maxL = mkF m 0 Ls [])
    (body : ∀ p e s m below meth c s₁, Cx p (s.setVm s.vm) m meth c Z bytes maxL y.cls y.name ret → Stand p l e rm (s.setVm s.vm) m as below meth c s₁ [] 0 0 → s₁.heap = h0 → s.heap = h0 → CHv Z EL s.vm h0 → s.Since s.vm 0 → Go p e below (PostW s Q rm.cells rm.slots) (s₁.setTop (mkF m 0 Ls []))) :
    MetFree l y (head1 (Jvm.Cond.code y bytes maxL ret :: ws) rm) (fun a U => a = as ∧ Z.Warmed39 U.vm ∧ U.heap = h0 ∧ CHv Z EL U.vm h0) (fun _ _ _ _ _ => True) (fun _ U o U' => ∃ v L, o = .returned v ∧ Q v U'.heap L ∧ ReturnedEndW U o U' L rm.cells rm.slots) := by
  refine MetFree.of_bodySF hp hisR ?_
  intro p e s m args below meth c s₁ Bd hml0 hP hK
  obtain ⟨rfl, hZ, hh, hH⟩ := hP
  obtain ⟨s₂, o, h1, h2⟩ := body p e s m below meth c s₁ ⟨Bd.exec, hZ, Bd.bytes, hml0, findClass_of_methodNamed Bd.named, (name_of_methodNamed Bd.named Bd.method).1, Bd.returns, Bd.notSynchronized⟩ (Stand.of_body Bd) (by rw [← hh, Bd.state]; rfl) hh hH ((State.WarmedH.refl s).since 0)
  exact ⟨s₂, o, castTop (hef m) h1, h2⟩
theorem keepRefl (h : Heap) : Keep h h [] := Keep.refl h []
/-! kinds of objects -/
theorem nsRoot {O Kn : String} {n : Nat} (w : (Jvm.Cond.noSuperclass O).before a0 Z = true) (wi : (Jvm.Cond.instantiable Kn n).before a0 Z = true) (hn : O ≠ Kn) : NS Z O Kn := by
  obtain ⟨c, k, h1, h2, h3, -, -⟩ := Cond.noSuperclass_spec w
  obtain ⟨t, k2, g1, -⟩ := Cond.instantiable_spec wi
  have ne := ids_ne h1 g1 hn
  refine ⟨c, t, h1, g1, fun fuel => ?_⟩
  cases fuel with
  | zero => rfl
  | succ f => simp [Vm.isSubclassAux, ne, h2, h3]
theorem nsNo {Cn S Kn : String} {n : Nat} (w : (Jvm.Cond.superclass Cn S).before a0 Z = true) (wi : (Jvm.Cond.instantiable Kn n).before a0 Z = true) (nn : NS Z Cn Kn) (hn : Cn ≠ Kn) : ∃ c t, Z.vm.findClass Cn = some c ∧ Z.vm.findClass Kn = some t ∧ Z.vm.assignable c t = false := by
  obtain ⟨c, t, h0, g0, n3⟩ := nn
  obtain ⟨p, k, kp, h1, h2, h3, h4, h5, -, h7⟩ := Cond.superclass_spec h0 w
  obtain ⟨t', k', g1, g2, g5, g6, -⟩ := Cond.instantiable_spec wi
  cases g0.symm.trans g1
  have g7 : k'.isInterface = false := (Bool.or_eq_false_iff.mp g6).1
  have ne := ids_ne h0 g0 hn
  refine ⟨c, t, h0, g0, ?_⟩
  show Z.vm.assignableAux (255 + 1) c t = false
  simp [Vm.assignableAux, ne, h2, g2, h5, g5, g7, Vm.isSubclass, n3]
theorem cast (X : Stand p l e R s m args below meth c T locs cells slots) (C : Cx p s m meth c Z bytes maxL own mname ret) {i : Nat} {Kn : String} (w : (Jvm.Cond.classLink own i Kn).before a0 Z = true) (eT : T.heap = h) {a : Addr} (I : Ins Z h a Kn true) (hd : decode bytes pc = .ok (.checkcast i, 3)) (hq : pc + 3 = q)
    (K : ∀ (T' : State), Stand p l e R s m args below meth c T' locs cells slots → T'.heap = h → Go p e below F (T'.setTop (mkF m q Ls (.ref a :: S)))) : Go p e below F (T.setTop (mkF m pc Ls (.ref a :: S))) := by
  subst hq
  obtain ⟨T1, X1, e1, st⟩ := castY X C.1 C.2.1 C.2.2.2.2.1 w eT I (g := mkF m pc Ls (.ref a :: S)) rfl rfl (hb C.2.2.1 hd)
  exact of st (K T1 X1 e1)
theorem inst1 (X : Stand p l e R s m args below meth c T locs cells slots) (C : Cx p s m meth c Z bytes maxL own mname ret) {i : Nat} {Kn : String} (w : (Jvm.Cond.classLink own i Kn).before a0 Z = true) (eT : T.heap = h) {a : Addr} (I : Ins Z h a Kn true) (hd : decode bytes pc = .ok (.instanceof i, 3)) (hq : pc + 3 = q)
    (K : ∀ (T' : State), Stand p l e R s m args below meth c T' locs cells slots → T'.heap = h → Go p e below F (T'.setTop (mkF m q Ls (.int 1 :: S)))) : Go p e below F (T.setTop (mkF m pc Ls (.ref a :: S))) := by
  subst hq
  obtain ⟨T1, X1, e1, st⟩ := instY X C.1 C.2.1 C.2.2.2.2.1 w eT I (g := mkF m pc Ls (.ref a :: S)) rfl rfl (hb C.2.2.1 hd)
  exact of st (K T1 X1 e1)
theorem inst0 (X : Stand p l e R s m args below meth c T locs cells slots) (C : Cx p s m meth c Z bytes maxL own mname ret) {i : Nat} {Kn Cn : String} (w : (Jvm.Cond.classLink own i Kn).before a0 Z = true) (eT : T.heap = h) {a : Addr} (E : Exa Z h a Cn) (N : ∃ c t, Z.vm.findClass Cn = some c ∧ Z.vm.findClass Kn = some t ∧ Z.vm.assignable c t = false) (hd : decode bytes pc = .ok (.instanceof i, 3)) (hq : pc + 3 = q)
    (K : ∀ (T' : State), Stand p l e R s m args below meth c T' locs cells slots → T'.heap = h → Go p e below F (T'.setTop (mkF m q Ls (.int 0 :: S)))) : Go p e below F (T.setTop (mkF m pc Ls (.ref a :: S))) := by
  subst hq
  obtain ⟨T1, X1, e1, st⟩ := instNo X C.1 C.2.1 C.2.2.2.2.1 w eT E N (g := mkF m pc Ls (.ref a :: S)) rfl rfl (hb C.2.2.1 hd)
  exact of st (K T1 X1 e1)
theorem instNull (X : Stand p l e R s m args below meth c T locs cells slots) (C : Cx p s m meth c Z bytes maxL own mname ret) {i : Nat} (hd : decode bytes pc = .ok (.instanceof i, 3)) (hq : pc + 3 = q) (K : Go p e below F (T.setTop (mkF m q Ls (.int 0 :: S)))) : Go p e below F (T.setTop (mkF m pc Ls (.null :: S))) := by
  subst hq; exact of (X.instanceofNull C.1 (g := mkF m pc Ls (.null :: S)) rfl rfl (hb C.2.2.1 hd)) K
theorem castNull (X : Stand p l e R s m args below meth c T locs cells slots) (C : Cx p s m meth c Z bytes maxL own mname ret) {i : Nat} (hd : decode bytes pc = .ok (.checkcast i, 3)) (hq : pc + 3 = q) (K : Go p e below F (T.setTop (mkF m q Ls (.null :: S)))) : Go p e below F (T.setTop (mkF m pc Ls (.null :: S))) := by
  subst hq; exact of (X.checkcastNull C.1 (g := mkF m pc Ls (.null :: S)) rfl rfl (hb C.2.2.1 hd)) K
theorem acmp (X : Stand p l e R s m args below meth c T locs cells slots) (C : Cx p s m meth c Z bytes maxL own mname ret) {cd : ACond} {o : Int} {x y : Value} (h1 : x.isRef = true) (h2 : y.isRef = true) {same : Bool} (hs : decide (x = y) = same) (hd : decode bytes pc = .ok (.if_acmp cd o, 3)) (ho : 0 ≤ (pc : Int) + o) (hq : q = if acV cd same = true then ((pc : Int) + o).toNat else pc + 3) (K : Go p e below F (T.setTop (mkF m q Ls S))) : Go p e below F (T.setTop (mkF m pc Ls (y :: x :: S))) :=
  of (fun t k => Jvm.RoadKit.acmp (g := mkF m pc Ls (y :: x :: S)) X C.1 rfl h1 h2 rfl (hb C.2.2.1 hd) rfl hs ho hq k) K
end
end W
end Jvm.Pilot.@@N@@
namespace Jvm.Pilot.@@N@@
open Jvm Jvm.ClassFile Sem Op Lib Jvm.Free Jvm.Stand Jvm.LawKit Jvm.RoadKit Bundle Jvm.Pilot.@@N@@.Jvm.D
theorem own_wS {Z : State} {a0 : Array Value} (hw : ∀ d ∈ tables_1, d.before a0 Z = true) : ∀ d ∈ Bundle.stringAtoms, d.before a0 Z = true := by
  intro d hd
  simp only [Bundle.stringAtoms, List.mem_cons, List.not_mem_nil, or_false] at hd
  rcases hd with rfl | rfl | rfl | rfl | rfl | rfl | rfl
  · exact W.ww hw 5 rfl
  · exact W.ww hw 6 rfl
  · exact W.ww hw 7 rfl
  · exact W.ww hw 8 rfl
  · exact W.ww hw 9 rfl
  · exact W.ww hw 10 rfl
  · exact W.ww hw 11 rfl
abbrev own_el : List (String × Nat) := [("com/example/orderwire/orderwire/imaging/Fields", 44), ("com/example/orderwire/orderwire/imaging/FieldsFirstNonEmptyPinLaw", 26)]
theorem own_EL {Z : State} {a0 : Array Value} (hw : ∀ d ∈ tables_1, d.before a0 Z = true) : EW Z a0 own_el := (EW.cons (W.ww hw 43 rfl) (by simp) (EW.cons (W.ww hw 4 rfl) (by simp) EW.nil))
theorem own_CH {s : State} {a0 : Array Value} (hw : ∀ d ∈ tables_1, d.before a0 s = true) (hh : constsHeld consts_1 s) (hcw : Jvm.Lit.compactW.before a0 s = true) : CHv s own_el s.vm s.heap := by
  refine CHv.start (own_EL hw) ?_ hcw (W.ww hw 7 rfl) (W.ww hw 6 rfl)
  intro p hp
  simp only [own_el, List.mem_cons, List.not_mem_nil, or_false] at hp
  rcases hp with rfl | rfl
  · exact hh _ (List.mem_of_getElem? (i := 0) rfl)
  · exact hh _ (List.mem_of_getElem? (i := 1) rfl)
def own_len (Z : State) (h : Heap) (a : Addr) (n : Int32) : Prop := ∃ (b : Addr) (kb : ClassId) (vs : List Value), Exa Z h a "java/lang/String" ∧ Fld Z h a "java/lang/String" "value" "[B" (.ref b) ∧ Arv Z h b kb .byte n vs (.int (0 : Int32))
theorem own_len.ext {Z : State} {h h' : Heap} {a : Addr} {n : Int32} (F : own_len Z h a n) (E : Ext h h') : own_len Z h' a n := by
  obtain ⟨b, kb, vs, f1, f2, f3⟩ := F
  exact ⟨b, kb, vs, f1.ext E, f2.ext E, f3.ext E⟩
theorem own_len.keep0 {Z : State} {h h' : Heap} {a : Addr} {n : Int32} (F : own_len Z h a n) (K : Keep h h' []) : own_len Z h' a n := by
  obtain ⟨b, kb, vs, f1, f2, f3⟩ := F
  exact ⟨b, kb, vs, f1.keep K, f2.keep K nin0, f3.keep K nin0⟩
theorem own_len.exa {Z : State} {h : Heap} {a : Addr} {n : Int32} (F : own_len Z h a n) : Exa Z h a "java/lang/String" := by obtain ⟨_, _, _, f, -⟩ := F; exact f
def own_r8 (x : Int32) : Prop := 0 ≤ x.toInt ∧ x.toInt ≤ 255
theorem own_narc {x : Int32} (h : own_r8 x) : nar .char x = x := W.small (P := fun x => nar .char x = x) 255 (by decide +kernel) x h.1 h.2
theorem own_le {x : Int32} (h : own_r8 x) : x.toInt ≤ (255 : Int32).toInt := h.2
theorem own_c8 (y : Int32) : own_r8 ((y &&& (255 : Int32)).toUInt32.toUInt16.toUInt32.toInt32) := by
  have a1 := c_mask y 255 8 (by decide) (by decide)
  exact W.small (P := fun y => own_r8 (y.toUInt32.toUInt16.toUInt32.toInt32)) 255 (fun a => (by decide +kernel : ∀ a : Fin 256, (0 ≤ ((Int32.ofInt (a.1 : Int)).toUInt32.toUInt16.toUInt32.toInt32).toInt ∧ ((Int32.ofInt (a.1 : Int)).toUInt32.toUInt16.toUInt32.toInt32).toInt ≤ 255)) a) _ (by omega) (by omega)
theorem own_m3 {x v : Int32} (h : (x &&& (3 : Int32)) = v) : v = 0 ∨ v = 1 ∨ v = 2 ∨ v = 3 := by
  have a1 := c_mask x 3 2 (by decide) (by decide)
  rw [← h]
  exact W.small (P := fun y => y = 0 ∨ y = 1 ∨ y = 2 ∨ y = 3) 3 (by decide +kernel) _ (by omega) (by omega)
theorem own_m5 {x v : Int32} (h : ((x &&& (2147483647 : Int32)) % (5 : Int32)) = v) : v = 0 ∨ v = 1 ∨ v = 2 ∨ v = 3 ∨ v = 4 := by
  have a1 := c_mask x 2147483647 31 (by decide) (by decide)
  have a2 : ((x &&& (2147483647 : Int32)) % (5 : Int32)).toInt = (x &&& (2147483647 : Int32)).toInt.tmod 5 := Int32.toInt_mod _ _
  have a3 : 0 ≤ (x &&& (2147483647 : Int32)).toInt := by omega
  rw [Int.tmod_eq_emod_of_nonneg a3] at a2
  rw [← h]
  exact W.small (P := fun y => y = 0 ∨ y = 1 ∨ y = 2 ∨ y = 3 ∨ y = 4) 4 (by decide +kernel) _ (by omega) (by omega)
theorem own_ite0 {x : Int32} (h : (if x = 0 then (1 : Int32) else 0) = 0) : x ≠ 0 := fun e => by rw [if_pos e] at h; exact absurd h (by decide)
theorem own_ite1 {x : Int32} (h : (if x = 0 then (1 : Int32) else 0) ≠ 0) : x = 0 := Decidable.byContradiction fun e => h (if_neg e)
theorem d7_0 : decode jdk_52_method_15_code 0 = .ok (.iload_n 1, 1) := by decide +kernel
theorem d7_1 : decode jdk_52_method_15_code 1 = .ok (.aload_n 0, 1) := by decide +kernel
theorem d7_2 : decode jdk_52_method_15_code 2 = .ok (.arraylength, 1) := by decide +kernel
theorem d7_3 : decode jdk_52_method_15_code 3 = .ok (.isub, 1) := by decide +kernel
theorem d7_4 : decode jdk_52_method_15_code 4 = .ok (.bipush 31, 2) := by decide +kernel
theorem d7_6 : decode jdk_52_method_15_code 6 = .ok (.iushr, 1) := by decide +kernel
theorem d7_7 : decode jdk_52_method_15_code 7 = .ok (.i2b, 1) := by decide +kernel
theorem d7_8 : decode jdk_52_method_15_code 8 = .ok (.ireturn, 1) := by decide +kernel
theorem pn_java_lang_StringUTF16 : plainName "java/lang/StringUTF16" = true := by first | (simp [plainName, overriddenIn]; done) | decide +kernel
def Q7_1 (Z : State) (p0 : Addr) (kb : ClassId) (vs : List Value) (h0 : Heap) (n0 : Nat) (v : Option Value) (h : Heap) (L : List Loc) : Prop := v = some (.int 0) ∧ Fr n0 L ∧ h = h0
set_option maxRecDepth 65536 in
set_option maxHeartbeats 40000000 in
theorem rm7_1 (l : Launch) (Z : State) (a0 : Array Value) (hw : ∀ d ∈ tables_1, d.before a0 Z = true) (ws : List Jvm.Cond) (p0 : Addr) (kb : ClassId) (vs : List Value) (h0 : Heap) (n0 : Nat) (V0 : Arv Z h0 p0 kb .byte (1 : Int32) vs (.int (0 : Int32))) :
    MetFree l (⟨"java/lang/StringUTF16", "coderFromArrayLen", "([BI)B"⟩ : MethodName) (head1 (Jvm.Cond.code (⟨"java/lang/StringUTF16", "coderFromArrayLen", "([BI)B"⟩ : MethodName) jdk_52_method_15_code 2 (some .byte) :: ws) ({ frames := 0, cells := 0, slots := 0, locals := 0 } : Room)) (fun a U => a = #[(.ref p0), (.int (1 : Int32))] ∧ Z.Warmed39 U.vm ∧ U.heap = h0) (fun _ _ _ _ _ => True) (fun _ U o U' => ∃ v L, o = .returned v ∧ Q7_1 Z p0 kb vs h0 n0 v U'.heap L ∧ FrameEnd U o U' L ({ frames := 0, cells := 0, slots := 0, locals := 0 } : Room).cells ({ frames := 0, cells := 0, slots := 0, locals := 0 } : Room).slots) := by
  refine W.bodyOf (y := (⟨"java/lang/StringUTF16", "coderFromArrayLen", "([BI)B"⟩ : MethodName)) (as := #[(.ref p0), (.int (1 : Int32))]) (maxL := 2) (Q := Q7_1 Z p0 kb vs h0 n0) (Ls := #[.val (.ref p0), .val (.int (1 : Int32))]) (plainFor_of_name pn_java_lang_StringUTF16) (fun m => by first | exact W.entry_of rfl | rfl | (simp [entryFrame, mkF, argsToLocals, Value.category]; done)) ?_
  intro p e s m below meth c T0 C X0 e0
  have N0 := Fr.nil n0
  refine W.iloadN (q := 1) X0 C d7_0 rfl rfl ?_
  refine W.aloadN (q := 2) X0 C d7_1 rfl rfl rfl ?_
  refine W.arraylength (q := 3) X0 C e0 V0 d7_2 rfl ?_
  refine W.isub (q := 4) X0 C d7_3 rfl ?_
  rw [show ((1 : Int32) - (1 : Int32)) = (0 : Int32) by decide]
  refine W.bipush (q := 6) (v := 31) X0 C d7_4 rfl rfl ?_
  refine W.iushr (q := 7) X0 C d7_6 rfl ?_
  refine W.i2b (q := 8) X0 C d7_7 rfl ?_
  exact W.retN X0 C (by simp) e0 d7_8 (by decide +kernel) (by decide) (by decide) ⟨rfl, N0, rfl⟩
def Q7_2 (Z : State) (p0 : Addr) (kb : ClassId) (vs : List Value) (h0 : Heap) (n0 : Nat) (v : Option Value) (h : Heap) (L : List Loc) : Prop := v = some (.int 0) ∧ Fr n0 L ∧ h = h0
set_option maxRecDepth 65536 in
set_option maxHeartbeats 40000000 in
theorem rm7_2 (l : Launch) (Z : State) (a0 : Array Value) (hw : ∀ d ∈ tables_1, d.before a0 Z = true) (ws : List Jvm.Cond) (p0 : Addr) (kb : ClassId) (vs : List Value) (h0 : Heap) (n0 : Nat) (V0 : Arv Z h0 p0 kb .byte (2 : Int32) vs (.int (0 : Int32))) :
    MetFree l (⟨"java/lang/StringUTF16", "coderFromArrayLen", "([BI)B"⟩ : MethodName) (head1 (Jvm.Cond.code (⟨"java/lang/StringUTF16", "coderFromArrayLen", "([BI)B"⟩ : MethodName) jdk_52_method_15_code 2 (some .byte) :: ws) ({ frames := 0, cells := 0, slots := 0, locals := 0 } : Room)) (fun a U => a = #[(.ref p0), (.int (2 : Int32))] ∧ Z.Warmed39 U.vm ∧ U.heap = h0) (fun _ _ _ _ _ => True) (fun _ U o U' => ∃ v L, o = .returned v ∧ Q7_2 Z p0 kb vs h0 n0 v U'.heap L ∧ FrameEnd U o U' L ({ frames := 0, cells := 0, slots := 0, locals := 0 } : Room).cells ({ frames := 0, cells := 0, slots := 0, locals := 0 } : Room).slots) := by
  refine W.bodyOf (y := (⟨"java/lang/StringUTF16", "coderFromArrayLen", "([BI)B"⟩ : MethodName)) (as := #[(.ref p0), (.int (2 : Int32))]) (maxL := 2) (Q := Q7_2 Z p0 kb vs h0 n0) (Ls := #[.val (.ref p0), .val (.int (2 : Int32))]) (plainFor_of_name pn_java_lang_StringUTF16) (fun m => by first | exact W.entry_of rfl | rfl | (simp [entryFrame, mkF, argsToLocals, Value.category]; done)) ?_
  intro p e s m below meth c T0 C X0 e0
  have N0 := Fr.nil n0
  refine W.iloadN (q := 1) X0 C d7_0 rfl rfl ?_
  refine W.aloadN (q := 2) X0 C d7_1 rfl rfl rfl ?_
  refine W.arraylength (q := 3) X0 C e0 V0 d7_2 rfl ?_
  refine W.isub (q := 4) X0 C d7_3 rfl ?_
  rw [show ((2 : Int32) - (2 : Int32)) = (0 : Int32) by decide]
  refine W.bipush (q := 6) (v := 31) X0 C d7_4 rfl rfl ?_
  refine W.iushr (q := 7) X0 C d7_6 rfl ?_
  refine W.i2b (q := 8) X0 C d7_7 rfl ?_
  exact W.retN X0 C (by simp) e0 d7_8 (by decide +kernel) (by decide) (by decide) ⟨rfl, N0, rfl⟩
def Q7_3 (Z : State) (p0 : Addr) (kb : ClassId) (vs : List Value) (h0 : Heap) (n0 : Nat) (v : Option Value) (h : Heap) (L : List Loc) : Prop := v = some (.int 0) ∧ Fr n0 L ∧ h = h0
set_option maxRecDepth 65536 in
set_option maxHeartbeats 40000000 in
theorem rm7_3 (l : Launch) (Z : State) (a0 : Array Value) (hw : ∀ d ∈ tables_1, d.before a0 Z = true) (ws : List Jvm.Cond) (p0 : Addr) (kb : ClassId) (vs : List Value) (h0 : Heap) (n0 : Nat) (V0 : Arv Z h0 p0 kb .byte (3 : Int32) vs (.int (0 : Int32))) :
    MetFree l (⟨"java/lang/StringUTF16", "coderFromArrayLen", "([BI)B"⟩ : MethodName) (head1 (Jvm.Cond.code (⟨"java/lang/StringUTF16", "coderFromArrayLen", "([BI)B"⟩ : MethodName) jdk_52_method_15_code 2 (some .byte) :: ws) ({ frames := 0, cells := 0, slots := 0, locals := 0 } : Room)) (fun a U => a = #[(.ref p0), (.int (3 : Int32))] ∧ Z.Warmed39 U.vm ∧ U.heap = h0) (fun _ _ _ _ _ => True) (fun _ U o U' => ∃ v L, o = .returned v ∧ Q7_3 Z p0 kb vs h0 n0 v U'.heap L ∧ FrameEnd U o U' L ({ frames := 0, cells := 0, slots := 0, locals := 0 } : Room).cells ({ frames := 0, cells := 0, slots := 0, locals := 0 } : Room).slots) := by
  refine W.bodyOf (y := (⟨"java/lang/StringUTF16", "coderFromArrayLen", "([BI)B"⟩ : MethodName)) (as := #[(.ref p0), (.int (3 : Int32))]) (maxL := 2) (Q := Q7_3 Z p0 kb vs h0 n0) (Ls := #[.val (.ref p0), .val (.int (3 : Int32))]) (plainFor_of_name pn_java_lang_StringUTF16) (fun m => by first | exact W.entry_of rfl | rfl | (simp [entryFrame, mkF, argsToLocals, Value.category]; done)) ?_
  intro p e s m below meth c T0 C X0 e0
  have N0 := Fr.nil n0
  refine W.iloadN (q := 1) X0 C d7_0 rfl rfl ?_
  refine W.aloadN (q := 2) X0 C d7_1 rfl rfl rfl ?_
  refine W.arraylength (q := 3) X0 C e0 V0 d7_2 rfl ?_
  refine W.isub (q := 4) X0 C d7_3 rfl ?_
  rw [show ((3 : Int32) - (3 : Int32)) = (0 : Int32) by decide]
  refine W.bipush (q := 6) (v := 31) X0 C d7_4 rfl rfl ?_
  refine W.iushr (q := 7) X0 C d7_6 rfl ?_
  refine W.i2b (q := 8) X0 C d7_7 rfl ?_
  exact W.retN X0 C (by simp) e0 d7_8 (by decide +kernel) (by decide) (by decide) ⟨rfl, N0, rfl⟩
theorem d6_0 : decode jdk_52_method_21_code 0 = .ok (.iconst 0, 1) := by decide +kernel
theorem d6_1 : decode jdk_52_method_21_code 1 = .ok (.istore 5, 2) := by decide +kernel
theorem d6_3 : decode jdk_52_method_21_code 3 = .ok (.iload 5, 2) := by decide +kernel
theorem d6_5 : decode jdk_52_method_21_code 5 = .ok (.iload 4, 2) := by decide +kernel
theorem d6_7 : decode jdk_52_method_21_code 7 = .ok (.if_icmp .ge 37, 3) := by decide +kernel
theorem d6_10 : decode jdk_52_method_21_code 10 = .ok (.aload_n 0, 1) := by decide +kernel
theorem d6_11 : decode jdk_52_method_21_code 11 = .ok (.iload_n 1, 1) := by decide +kernel
theorem d6_12 : decode jdk_52_method_21_code 12 = .ok (.caload, 1) := by decide +kernel
theorem d6_13 : decode jdk_52_method_21_code 13 = .ok (.istore 6, 2) := by decide +kernel
theorem d6_15 : decode jdk_52_method_21_code 15 = .ok (.iload 6, 2) := by decide +kernel
theorem d6_17 : decode jdk_52_method_21_code 17 = .ok (.sipush 255, 3) := by decide +kernel
theorem d6_20 : decode jdk_52_method_21_code 20 = .ok (.if_icmp .le 6, 3) := by decide +kernel
theorem d6_26 : decode jdk_52_method_21_code 26 = .ok (.aload_n 2, 1) := by decide +kernel
theorem d6_27 : decode jdk_52_method_21_code 27 = .ok (.iload_n 3, 1) := by decide +kernel
theorem d6_28 : decode jdk_52_method_21_code 28 = .ok (.iload 6, 2) := by decide +kernel
theorem d6_30 : decode jdk_52_method_21_code 30 = .ok (.i2b, 1) := by decide +kernel
theorem d6_31 : decode jdk_52_method_21_code 31 = .ok (.bastore, 1) := by decide +kernel
theorem d6_32 : decode jdk_52_method_21_code 32 = .ok (.iinc 1 1, 3) := by decide +kernel
theorem d6_35 : decode jdk_52_method_21_code 35 = .ok (.iinc 3 1, 3) := by decide +kernel
theorem d6_38 : decode jdk_52_method_21_code 38 = .ok (.iinc 5 1, 3) := by decide +kernel
theorem d6_41 : decode jdk_52_method_21_code 41 = .ok (.goto (-38), 3) := by decide +kernel
theorem d6_44 : decode jdk_52_method_21_code 44 = .ok (.iload 4, 2) := by decide +kernel
theorem d6_46 : decode jdk_52_method_21_code 46 = .ok (.ireturn, 1) := by decide +kernel
def Q6_1 (Z : State) (p0 p2 : Addr) (kc kb : ClassId) (x0 : Int32) (h0 : Heap) (n0 : Nat) (v : Option Value) (h : Heap) (L : List Loc) : Prop := v = some (.int (1 : Int32)) ∧ Fr n0 L ∧ Keep h0 h [p2] ∧ ∃ vs, Arv Z h p2 kb .byte (1 : Int32) vs (.int (0 : Int32))
set_option maxRecDepth 65536 in
set_option maxHeartbeats 40000000 in
theorem rm6_1 (l : Launch) (Z : State) (a0 : Array Value) (hw : ∀ d ∈ tables_1, d.before a0 Z = true) (ws : List Jvm.Cond) (p0 p2 : Addr) (kc kb : ClassId) (x0 : Int32) (h0 : Heap) (n0 : Nat) (Z0 : n0 ≤ h0.size) (hge : n0 ≤ p2) (hne : p0 ≠ p2) (Vc : Arv Z h0 p0 kc .char (1 : Int32) [(.int x0)] (.int (0 : Int32))) (Vb : Arv Z h0 p2 kb .byte (1 : Int32) [(.int (0 : Int32))] (.int (0 : Int32))) (hx0 : own_r8 x0) :
    MetFree l (⟨"java/lang/StringUTF16", "compress", "([CI[BII)I"⟩ : MethodName) (head1 (Jvm.Cond.code (⟨"java/lang/StringUTF16", "compress", "([CI[BII)I"⟩ : MethodName) jdk_52_method_21_code 7 (some .int) :: ws) ({ frames := 0, cells := 0, slots := 0, locals := 0 } : Room)) (fun a U => a = #[(.ref p0), (.int (0 : Int32)), (.ref p2), (.int (0 : Int32)), (.int (1 : Int32))] ∧ Z.Warmed39 U.vm ∧ U.heap = h0) (fun _ _ _ _ _ => True) (fun _ U o U' => ∃ v L, o = .returned v ∧ Q6_1 Z p0 p2 kc kb x0 h0 n0 v U'.heap L ∧ FrameEnd U o U' L ({ frames := 0, cells := 0, slots := 0, locals := 0 } : Room).cells ({ frames := 0, cells := 0, slots := 0, locals := 0 } : Room).slots) := by
  refine W.bodyOf (y := (⟨"java/lang/StringUTF16", "compress", "([CI[BII)I"⟩ : MethodName)) (as := #[(.ref p0), (.int (0 : Int32)), (.ref p2), (.int (0 : Int32)), (.int (1 : Int32))]) (maxL := 7) (Q := Q6_1 Z p0 p2 kc kb x0 h0 n0) (Ls := #[.val (.ref p0), .val (.int (0 : Int32)), .val (.ref p2), .val (.int (0 : Int32)), .val (.int (1 : Int32)), .unset, .unset]) (plainFor_of_name pn_java_lang_StringUTF16) (fun m => by first | exact W.entry_of rfl | rfl | (simp [entryFrame, mkF, argsToLocals, Value.category]; done)) ?_
  intro p e s m below meth c T0 C X0 e0
  have N0 := Fr.nil n0
  have K0 := Keep.refl h0 [p2]
  refine W.iconst (q := 1) (v := 0) X0 C d6_0 rfl rfl ?_
  refine W.istore (q := 3) (L' := #[.val (.ref p0), .val (.int (0 : Int32)), .val (.ref p2), .val (.int (0 : Int32)), .val (.int (1 : Int32)), .val (.int (0 : Int32)), .unset]) X0 C d6_1 rfl rfl ?_
  refine W.iload (q := 5) X0 C d6_3 rfl rfl ?_
  refine W.iload (q := 7) X0 C d6_5 rfl rfl ?_
  refine W.icmpF (q := 10) X0 C d6_7 rfl (by decide : W.cF .ge (0 : Int32) (1 : Int32)) ?_
  refine W.aloadN (q := 11) X0 C d6_10 rfl rfl rfl ?_
  refine W.iloadN (q := 12) X0 C d6_11 rfl rfl ?_
  refine W.caload (q := 13) X0 C e0 Vc (by decide) (by decide) rfl d6_12 rfl ?_
  refine W.istore (q := 15) (L' := #[.val (.ref p0), .val (.int (0 : Int32)), .val (.ref p2), .val (.int (0 : Int32)), .val (.int (1 : Int32)), .val (.int (0 : Int32)), .val (.int x0)]) X0 C d6_13 rfl rfl ?_
  refine W.iload (q := 17) X0 C d6_15 rfl rfl ?_
  refine W.sipush (q := 20) (v := 255) X0 C d6_17 rfl rfl ?_
  refine W.icmpT (q := 26) X0 C d6_20 (by decide) (by decide) (own_le hx0) ?_
  refine W.aloadN (q := 27) X0 C d6_26 rfl rfl rfl ?_
  refine W.iloadN (q := 28) X0 C d6_27 rfl rfl ?_
  refine W.iload (q := 30) X0 C d6_28 rfl rfl ?_
  refine W.i2b (q := 31) X0 C d6_30 rfl ?_
  refine W.bastore (q := 32) X0 C e0 Vb  (by decide) (by decide) (Nat.le_of_ble_eq_true rfl) d6_31 rfl (fun T1 h1 X1 e1 W1 V1_ => ?_)
  have Vc_3 := Vc.other W1 hne
  have V1 : Arv Z h1 p2 kb .byte (1 : Int32) [(.int (x0.toInt8.toInt32).toInt8.toInt32)] (.int (0 : Int32)) := V1_
  have N1 := Fr.snoc X1 N0 hge
  have K1 := K0.wr W1 (Or.inl (by simp))
  have n0_1 : n0 ≤ h1.size := by rw [W1.size]; exact Z0
  refine W.iinc (q := 35) (L' := #[.val (.ref p0), .val (.int (1 : Int32)), .val (.ref p2), .val (.int (0 : Int32)), .val (.int (1 : Int32)), .val (.int (0 : Int32)), .val (.int x0)]) X1 C d6_32 rfl (by decide) rfl rfl ?_
  refine W.iinc (q := 38) (L' := #[.val (.ref p0), .val (.int (1 : Int32)), .val (.ref p2), .val (.int (1 : Int32)), .val (.int (1 : Int32)), .val (.int (0 : Int32)), .val (.int x0)]) X1 C d6_35 rfl (by decide) rfl rfl ?_
  refine W.iinc (q := 41) (L' := #[.val (.ref p0), .val (.int (1 : Int32)), .val (.ref p2), .val (.int (1 : Int32)), .val (.int (1 : Int32)), .val (.int (1 : Int32)), .val (.int x0)]) X1 C d6_38 rfl (by decide) rfl rfl ?_
  refine W.goto (q := 3) X1 C d6_41 (by decide) (by decide) ?_
  refine W.iload (q := 5) X1 C d6_3 rfl rfl ?_
  refine W.iload (q := 7) X1 C d6_5 rfl rfl ?_
  refine W.icmpT (q := 44) X1 C d6_7 (by decide) (by decide) (by decide : W.cT .ge (1 : Int32) (1 : Int32)) ?_
  refine W.iload (q := 46) X1 C d6_44 rfl rfl ?_
  exact W.retI X1 C e1 d6_46 (by decide) (by decide) ⟨rfl, N1, K1, _, V1⟩
def Q6_2 (Z : State) (p0 p2 : Addr) (kc kb : ClassId) (x0 x1 : Int32) (h0 : Heap) (n0 : Nat) (v : Option Value) (h : Heap) (L : List Loc) : Prop := v = some (.int (2 : Int32)) ∧ Fr n0 L ∧ Keep h0 h [p2] ∧ ∃ vs, Arv Z h p2 kb .byte (2 : Int32) vs (.int (0 : Int32))
set_option maxRecDepth 65536 in
set_option maxHeartbeats 40000000 in
theorem rm6_2 (l : Launch) (Z : State) (a0 : Array Value) (hw : ∀ d ∈ tables_1, d.before a0 Z = true) (ws : List Jvm.Cond) (p0 p2 : Addr) (kc kb : ClassId) (x0 x1 : Int32) (h0 : Heap) (n0 : Nat) (Z0 : n0 ≤ h0.size) (hge : n0 ≤ p2) (hne : p0 ≠ p2) (Vc : Arv Z h0 p0 kc .char (2 : Int32) [(.int x0), (.int x1)] (.int (0 : Int32))) (Vb : Arv Z h0 p2 kb .byte (2 : Int32) [(.int (0 : Int32)), (.int (0 : Int32))] (.int (0 : Int32))) (hx0 : own_r8 x0) (hx1 : own_r8 x1) :
    MetFree l (⟨"java/lang/StringUTF16", "compress", "([CI[BII)I"⟩ : MethodName) (head1 (Jvm.Cond.code (⟨"java/lang/StringUTF16", "compress", "([CI[BII)I"⟩ : MethodName) jdk_52_method_21_code 7 (some .int) :: ws) ({ frames := 0, cells := 0, slots := 0, locals := 0 } : Room)) (fun a U => a = #[(.ref p0), (.int (0 : Int32)), (.ref p2), (.int (0 : Int32)), (.int (2 : Int32))] ∧ Z.Warmed39 U.vm ∧ U.heap = h0) (fun _ _ _ _ _ => True) (fun _ U o U' => ∃ v L, o = .returned v ∧ Q6_2 Z p0 p2 kc kb x0 x1 h0 n0 v U'.heap L ∧ FrameEnd U o U' L ({ frames := 0, cells := 0, slots := 0, locals := 0 } : Room).cells ({ frames := 0, cells := 0, slots := 0, locals := 0 } : Room).slots) := by
  refine W.bodyOf (y := (⟨"java/lang/StringUTF16", "compress", "([CI[BII)I"⟩ : MethodName)) (as := #[(.ref p0), (.int (0 : Int32)), (.ref p2), (.int (0 : Int32)), (.int (2 : Int32))]) (maxL := 7) (Q := Q6_2 Z p0 p2 kc kb x0 x1 h0 n0) (Ls := #[.val (.ref p0), .val (.int (0 : Int32)), .val (.ref p2), .val (.int (0 : Int32)), .val (.int (2 : Int32)), .unset, .unset]) (plainFor_of_name pn_java_lang_StringUTF16) (fun m => by first | exact W.entry_of rfl | rfl | (simp [entryFrame, mkF, argsToLocals, Value.category]; done)) ?_
  intro p e s m below meth c T0 C X0 e0
  have N0 := Fr.nil n0
  have K0 := Keep.refl h0 [p2]
  refine W.iconst (q := 1) (v := 0) X0 C d6_0 rfl rfl ?_
  refine W.istore (q := 3) (L' := #[.val (.ref p0), .val (.int (0 : Int32)), .val (.ref p2), .val (.int (0 : Int32)), .val (.int (2 : Int32)), .val (.int (0 : Int32)), .unset]) X0 C d6_1 rfl rfl ?_
  refine W.iload (q := 5) X0 C d6_3 rfl rfl ?_
  refine W.iload (q := 7) X0 C d6_5 rfl rfl ?_
  refine W.icmpF (q := 10) X0 C d6_7 rfl (by decide : W.cF .ge (0 : Int32) (2 : Int32)) ?_
  refine W.aloadN (q := 11) X0 C d6_10 rfl rfl rfl ?_
  refine W.iloadN (q := 12) X0 C d6_11 rfl rfl ?_
  refine W.caload (q := 13) X0 C e0 Vc (by decide) (by decide) rfl d6_12 rfl ?_
  refine W.istore (q := 15) (L' := #[.val (.ref p0), .val (.int (0 : Int32)), .val (.ref p2), .val (.int (0 : Int32)), .val (.int (2 : Int32)), .val (.int (0 : Int32)), .val (.int x0)]) X0 C d6_13 rfl rfl ?_
  refine W.iload (q := 17) X0 C d6_15 rfl rfl ?_
  refine W.sipush (q := 20) (v := 255) X0 C d6_17 rfl rfl ?_
  refine W.icmpT (q := 26) X0 C d6_20 (by decide) (by decide) (own_le hx0) ?_
  refine W.aloadN (q := 27) X0 C d6_26 rfl rfl rfl ?_
  refine W.iloadN (q := 28) X0 C d6_27 rfl rfl ?_
  refine W.iload (q := 30) X0 C d6_28 rfl rfl ?_
  refine W.i2b (q := 31) X0 C d6_30 rfl ?_
  refine W.bastore (q := 32) X0 C e0 Vb  (by decide) (by decide) (Nat.le_of_ble_eq_true rfl) d6_31 rfl (fun T5 h5 X5 e5 W5 V5_ => ?_)
  have Vc_7 := Vc.other W5 hne
  have V5 : Arv Z h5 p2 kb .byte (2 : Int32) [(.int (x0.toInt8.toInt32).toInt8.toInt32), (.int (0 : Int32))] (.int (0 : Int32)) := V5_
  have N5 := Fr.snoc X5 N0 hge
  have K5 := K0.wr W5 (Or.inl (by simp))
  have n0_5 : n0 ≤ h5.size := by rw [W5.size]; exact Z0
  refine W.iinc (q := 35) (L' := #[.val (.ref p0), .val (.int (1 : Int32)), .val (.ref p2), .val (.int (0 : Int32)), .val (.int (2 : Int32)), .val (.int (0 : Int32)), .val (.int x0)]) X5 C d6_32 rfl (by decide) rfl rfl ?_
  refine W.iinc (q := 38) (L' := #[.val (.ref p0), .val (.int (1 : Int32)), .val (.ref p2), .val (.int (1 : Int32)), .val (.int (2 : Int32)), .val (.int (0 : Int32)), .val (.int x0)]) X5 C d6_35 rfl (by decide) rfl rfl ?_
  refine W.iinc (q := 41) (L' := #[.val (.ref p0), .val (.int (1 : Int32)), .val (.ref p2), .val (.int (1 : Int32)), .val (.int (2 : Int32)), .val (.int (1 : Int32)), .val (.int x0)]) X5 C d6_38 rfl (by decide) rfl rfl ?_
  refine W.goto (q := 3) X5 C d6_41 (by decide) (by decide) ?_
  refine W.iload (q := 5) X5 C d6_3 rfl rfl ?_
  refine W.iload (q := 7) X5 C d6_5 rfl rfl ?_
  refine W.icmpF (q := 10) X5 C d6_7 rfl (by decide : W.cF .ge (1 : Int32) (2 : Int32)) ?_
  refine W.aloadN (q := 11) X5 C d6_10 rfl rfl rfl ?_
  refine W.iloadN (q := 12) X5 C d6_11 rfl rfl ?_
  refine W.caload (q := 13) X5 C e5 Vc_7 (by decide) (by decide) rfl d6_12 rfl ?_
  refine W.istore (q := 15) (L' := #[.val (.ref p0), .val (.int (1 : Int32)), .val (.ref p2), .val (.int (1 : Int32)), .val (.int (2 : Int32)), .val (.int (1 : Int32)), .val (.int x1)]) X5 C d6_13 rfl rfl ?_
  refine W.iload (q := 17) X5 C d6_15 rfl rfl ?_
  refine W.sipush (q := 20) (v := 255) X5 C d6_17 rfl rfl ?_
  refine W.icmpT (q := 26) X5 C d6_20 (by decide) (by decide) (own_le hx1) ?_
  refine W.aloadN (q := 27) X5 C d6_26 rfl rfl rfl ?_
  refine W.iloadN (q := 28) X5 C d6_27 rfl rfl ?_
  refine W.iload (q := 30) X5 C d6_28 rfl rfl ?_
  refine W.i2b (q := 31) X5 C d6_30 rfl ?_
  refine W.bastore (q := 32) X5 C e5 V5  (by decide) (by decide) (Nat.le_of_ble_eq_true rfl) d6_31 rfl (fun T9 h9 X9 e9 W9 V9_ => ?_)
  have Vc_11 := Vc_7.other W9 hne
  have V9 : Arv Z h9 p2 kb .byte (2 : Int32) [(.int (x0.toInt8.toInt32).toInt8.toInt32), (.int (x1.toInt8.toInt32).toInt8.toInt32)] (.int (0 : Int32)) := V9_
  have N9 := Fr.snoc X9 N5 hge
  have K9 := K5.wr W9 (Or.inl (by simp))
  have n0_9 : n0 ≤ h9.size := by rw [W9.size]; exact n0_5
  refine W.iinc (q := 35) (L' := #[.val (.ref p0), .val (.int (2 : Int32)), .val (.ref p2), .val (.int (1 : Int32)), .val (.int (2 : Int32)), .val (.int (1 : Int32)), .val (.int x1)]) X9 C d6_32 rfl (by decide) rfl rfl ?_
  refine W.iinc (q := 38) (L' := #[.val (.ref p0), .val (.int (2 : Int32)), .val (.ref p2), .val (.int (2 : Int32)), .val (.int (2 : Int32)), .val (.int (1 : Int32)), .val (.int x1)]) X9 C d6_35 rfl (by decide) rfl rfl ?_
  refine W.iinc (q := 41) (L' := #[.val (.ref p0), .val (.int (2 : Int32)), .val (.ref p2), .val (.int (2 : Int32)), .val (.int (2 : Int32)), .val (.int (2 : Int32)), .val (.int x1)]) X9 C d6_38 rfl (by decide) rfl rfl ?_
  refine W.goto (q := 3) X9 C d6_41 (by decide) (by decide) ?_
  refine W.iload (q := 5) X9 C d6_3 rfl rfl ?_
  refine W.iload (q := 7) X9 C d6_5 rfl rfl ?_
  refine W.icmpT (q := 44) X9 C d6_7 (by decide) (by decide) (by decide : W.cT .ge (2 : Int32) (2 : Int32)) ?_
  refine W.iload (q := 46) X9 C d6_44 rfl rfl ?_
  exact W.retI X9 C e9 d6_46 (by decide) (by decide) ⟨rfl, N9, K9, _, V9⟩
def Q6_3 (Z : State) (p0 p2 : Addr) (kc kb : ClassId) (x0 x1 x2 : Int32) (h0 : Heap) (n0 : Nat) (v : Option Value) (h : Heap) (L : List Loc) : Prop := v = some (.int (3 : Int32)) ∧ Fr n0 L ∧ Keep h0 h [p2] ∧ ∃ vs, Arv Z h p2 kb .byte (3 : Int32) vs (.int (0 : Int32))
set_option maxRecDepth 65536 in
set_option maxHeartbeats 40000000 in
theorem rm6_3 (l : Launch) (Z : State) (a0 : Array Value) (hw : ∀ d ∈ tables_1, d.before a0 Z = true) (ws : List Jvm.Cond) (p0 p2 : Addr) (kc kb : ClassId) (x0 x1 x2 : Int32) (h0 : Heap) (n0 : Nat) (Z0 : n0 ≤ h0.size) (hge : n0 ≤ p2) (hne : p0 ≠ p2) (Vc : Arv Z h0 p0 kc .char (3 : Int32) [(.int x0), (.int x1), (.int x2)] (.int (0 : Int32))) (Vb : Arv Z h0 p2 kb .byte (3 : Int32) [(.int (0 : Int32)), (.int (0 : Int32)), (.int (0 : Int32))] (.int (0 : Int32))) (hx0 : own_r8 x0) (hx1 : own_r8 x1) (hx2 : own_r8 x2) :
    MetFree l (⟨"java/lang/StringUTF16", "compress", "([CI[BII)I"⟩ : MethodName) (head1 (Jvm.Cond.code (⟨"java/lang/StringUTF16", "compress", "([CI[BII)I"⟩ : MethodName) jdk_52_method_21_code 7 (some .int) :: ws) ({ frames := 0, cells := 0, slots := 0, locals := 0 } : Room)) (fun a U => a = #[(.ref p0), (.int (0 : Int32)), (.ref p2), (.int (0 : Int32)), (.int (3 : Int32))] ∧ Z.Warmed39 U.vm ∧ U.heap = h0) (fun _ _ _ _ _ => True) (fun _ U o U' => ∃ v L, o = .returned v ∧ Q6_3 Z p0 p2 kc kb x0 x1 x2 h0 n0 v U'.heap L ∧ FrameEnd U o U' L ({ frames := 0, cells := 0, slots := 0, locals := 0 } : Room).cells ({ frames := 0, cells := 0, slots := 0, locals := 0 } : Room).slots) := by
  refine W.bodyOf (y := (⟨"java/lang/StringUTF16", "compress", "([CI[BII)I"⟩ : MethodName)) (as := #[(.ref p0), (.int (0 : Int32)), (.ref p2), (.int (0 : Int32)), (.int (3 : Int32))]) (maxL := 7) (Q := Q6_3 Z p0 p2 kc kb x0 x1 x2 h0 n0) (Ls := #[.val (.ref p0), .val (.int (0 : Int32)), .val (.ref p2), .val (.int (0 : Int32)), .val (.int (3 : Int32)), .unset, .unset]) (plainFor_of_name pn_java_lang_StringUTF16) (fun m => by first | exact W.entry_of rfl | rfl | (simp [entryFrame, mkF, argsToLocals, Value.category]; done)) ?_
  intro p e s m below meth c T0 C X0 e0
  have N0 := Fr.nil n0
  have K0 := Keep.refl h0 [p2]
  refine W.iconst (q := 1) (v := 0) X0 C d6_0 rfl rfl ?_
  refine W.istore (q := 3) (L' := #[.val (.ref p0), .val (.int (0 : Int32)), .val (.ref p2), .val (.int (0 : Int32)), .val (.int (3 : Int32)), .val (.int (0 : Int32)), .unset]) X0 C d6_1 rfl rfl ?_
  refine W.iload (q := 5) X0 C d6_3 rfl rfl ?_
  refine W.iload (q := 7) X0 C d6_5 rfl rfl ?_
  refine W.icmpF (q := 10) X0 C d6_7 rfl (by decide : W.cF .ge (0 : Int32) (3 : Int32)) ?_
  refine W.aloadN (q := 11) X0 C d6_10 rfl rfl rfl ?_
  refine W.iloadN (q := 12) X0 C d6_11 rfl rfl ?_
  refine W.caload (q := 13) X0 C e0 Vc (by decide) (by decide) rfl d6_12 rfl ?_
  refine W.istore (q := 15) (L' := #[.val (.ref p0), .val (.int (0 : Int32)), .val (.ref p2), .val (.int (0 : Int32)), .val (.int (3 : Int32)), .val (.int (0 : Int32)), .val (.int x0)]) X0 C d6_13 rfl rfl ?_
  refine W.iload (q := 17) X0 C d6_15 rfl rfl ?_
  refine W.sipush (q := 20) (v := 255) X0 C d6_17 rfl rfl ?_
  refine W.icmpT (q := 26) X0 C d6_20 (by decide) (by decide) (own_le hx0) ?_
  refine W.aloadN (q := 27) X0 C d6_26 rfl rfl rfl ?_
  refine W.iloadN (q := 28) X0 C d6_27 rfl rfl ?_
  refine W.iload (q := 30) X0 C d6_28 rfl rfl ?_
  refine W.i2b (q := 31) X0 C d6_30 rfl ?_
  refine W.bastore (q := 32) X0 C e0 Vb  (by decide) (by decide) (Nat.le_of_ble_eq_true rfl) d6_31 rfl (fun T13 h13 X13 e13 W13 V13_ => ?_)
  have Vc_15 := Vc.other W13 hne
  have V13 : Arv Z h13 p2 kb .byte (3 : Int32) [(.int (x0.toInt8.toInt32).toInt8.toInt32), (.int (0 : Int32)), (.int (0 : Int32))] (.int (0 : Int32)) := V13_
  have N13 := Fr.snoc X13 N0 hge
  have K13 := K0.wr W13 (Or.inl (by simp))
  have n0_13 : n0 ≤ h13.size := by rw [W13.size]; exact Z0
  refine W.iinc (q := 35) (L' := #[.val (.ref p0), .val (.int (1 : Int32)), .val (.ref p2), .val (.int (0 : Int32)), .val (.int (3 : Int32)), .val (.int (0 : Int32)), .val (.int x0)]) X13 C d6_32 rfl (by decide) rfl rfl ?_
  refine W.iinc (q := 38) (L' := #[.val (.ref p0), .val (.int (1 : Int32)), .val (.ref p2), .val (.int (1 : Int32)), .val (.int (3 : Int32)), .val (.int (0 : Int32)), .val (.int x0)]) X13 C d6_35 rfl (by decide) rfl rfl ?_
  refine W.iinc (q := 41) (L' := #[.val (.ref p0), .val (.int (1 : Int32)), .val (.ref p2), .val (.int (1 : Int32)), .val (.int (3 : Int32)), .val (.int (1 : Int32)), .val (.int x0)]) X13 C d6_38 rfl (by decide) rfl rfl ?_
  refine W.goto (q := 3) X13 C d6_41 (by decide) (by decide) ?_
  refine W.iload (q := 5) X13 C d6_3 rfl rfl ?_
  refine W.iload (q := 7) X13 C d6_5 rfl rfl ?_
  refine W.icmpF (q := 10) X13 C d6_7 rfl (by decide : W.cF .ge (1 : Int32) (3 : Int32)) ?_
  refine W.aloadN (q := 11) X13 C d6_10 rfl rfl rfl ?_
  refine W.iloadN (q := 12) X13 C d6_11 rfl rfl ?_
  refine W.caload (q := 13) X13 C e13 Vc_15 (by decide) (by decide) rfl d6_12 rfl ?_
  refine W.istore (q := 15) (L' := #[.val (.ref p0), .val (.int (1 : Int32)), .val (.ref p2), .val (.int (1 : Int32)), .val (.int (3 : Int32)), .val (.int (1 : Int32)), .val (.int x1)]) X13 C d6_13 rfl rfl ?_
  refine W.iload (q := 17) X13 C d6_15 rfl rfl ?_
  refine W.sipush (q := 20) (v := 255) X13 C d6_17 rfl rfl ?_
  refine W.icmpT (q := 26) X13 C d6_20 (by decide) (by decide) (own_le hx1) ?_
  refine W.aloadN (q := 27) X13 C d6_26 rfl rfl rfl ?_
  refine W.iloadN (q := 28) X13 C d6_27 rfl rfl ?_
  refine W.iload (q := 30) X13 C d6_28 rfl rfl ?_
  refine W.i2b (q := 31) X13 C d6_30 rfl ?_
  refine W.bastore (q := 32) X13 C e13 V13  (by decide) (by decide) (Nat.le_of_ble_eq_true rfl) d6_31 rfl (fun T17 h17 X17 e17 W17 V17_ => ?_)
  have Vc_19 := Vc_15.other W17 hne
  have V17 : Arv Z h17 p2 kb .byte (3 : Int32) [(.int (x0.toInt8.toInt32).toInt8.toInt32), (.int (x1.toInt8.toInt32).toInt8.toInt32), (.int (0 : Int32))] (.int (0 : Int32)) := V17_
  have N17 := Fr.snoc X17 N13 hge
  have K17 := K13.wr W17 (Or.inl (by simp))
  have n0_17 : n0 ≤ h17.size := by rw [W17.size]; exact n0_13
  refine W.iinc (q := 35) (L' := #[.val (.ref p0), .val (.int (2 : Int32)), .val (.ref p2), .val (.int (1 : Int32)), .val (.int (3 : Int32)), .val (.int (1 : Int32)), .val (.int x1)]) X17 C d6_32 rfl (by decide) rfl rfl ?_
  refine W.iinc (q := 38) (L' := #[.val (.ref p0), .val (.int (2 : Int32)), .val (.ref p2), .val (.int (2 : Int32)), .val (.int (3 : Int32)), .val (.int (1 : Int32)), .val (.int x1)]) X17 C d6_35 rfl (by decide) rfl rfl ?_
  refine W.iinc (q := 41) (L' := #[.val (.ref p0), .val (.int (2 : Int32)), .val (.ref p2), .val (.int (2 : Int32)), .val (.int (3 : Int32)), .val (.int (2 : Int32)), .val (.int x1)]) X17 C d6_38 rfl (by decide) rfl rfl ?_
  refine W.goto (q := 3) X17 C d6_41 (by decide) (by decide) ?_
  refine W.iload (q := 5) X17 C d6_3 rfl rfl ?_
  refine W.iload (q := 7) X17 C d6_5 rfl rfl ?_
  refine W.icmpF (q := 10) X17 C d6_7 rfl (by decide : W.cF .ge (2 : Int32) (3 : Int32)) ?_
  refine W.aloadN (q := 11) X17 C d6_10 rfl rfl rfl ?_
  refine W.iloadN (q := 12) X17 C d6_11 rfl rfl ?_
  refine W.caload (q := 13) X17 C e17 Vc_19 (by decide) (by decide) rfl d6_12 rfl ?_
  refine W.istore (q := 15) (L' := #[.val (.ref p0), .val (.int (2 : Int32)), .val (.ref p2), .val (.int (2 : Int32)), .val (.int (3 : Int32)), .val (.int (2 : Int32)), .val (.int x2)]) X17 C d6_13 rfl rfl ?_
  refine W.iload (q := 17) X17 C d6_15 rfl rfl ?_
  refine W.sipush (q := 20) (v := 255) X17 C d6_17 rfl rfl ?_
  refine W.icmpT (q := 26) X17 C d6_20 (by decide) (by decide) (own_le hx2) ?_
  refine W.aloadN (q := 27) X17 C d6_26 rfl rfl rfl ?_
  refine W.iloadN (q := 28) X17 C d6_27 rfl rfl ?_
  refine W.iload (q := 30) X17 C d6_28 rfl rfl ?_
  refine W.i2b (q := 31) X17 C d6_30 rfl ?_
  refine W.bastore (q := 32) X17 C e17 V17  (by decide) (by decide) (Nat.le_of_ble_eq_true rfl) d6_31 rfl (fun T21 h21 X21 e21 W21 V21_ => ?_)
  have Vc_23 := Vc_19.other W21 hne
  have V21 : Arv Z h21 p2 kb .byte (3 : Int32) [(.int (x0.toInt8.toInt32).toInt8.toInt32), (.int (x1.toInt8.toInt32).toInt8.toInt32), (.int (x2.toInt8.toInt32).toInt8.toInt32)] (.int (0 : Int32)) := V21_
  have N21 := Fr.snoc X21 N17 hge
  have K21 := K17.wr W21 (Or.inl (by simp))
  have n0_21 : n0 ≤ h21.size := by rw [W21.size]; exact n0_17
  refine W.iinc (q := 35) (L' := #[.val (.ref p0), .val (.int (3 : Int32)), .val (.ref p2), .val (.int (2 : Int32)), .val (.int (3 : Int32)), .val (.int (2 : Int32)), .val (.int x2)]) X21 C d6_32 rfl (by decide) rfl rfl ?_
  refine W.iinc (q := 38) (L' := #[.val (.ref p0), .val (.int (3 : Int32)), .val (.ref p2), .val (.int (3 : Int32)), .val (.int (3 : Int32)), .val (.int (2 : Int32)), .val (.int x2)]) X21 C d6_35 rfl (by decide) rfl rfl ?_
  refine W.iinc (q := 41) (L' := #[.val (.ref p0), .val (.int (3 : Int32)), .val (.ref p2), .val (.int (3 : Int32)), .val (.int (3 : Int32)), .val (.int (3 : Int32)), .val (.int x2)]) X21 C d6_38 rfl (by decide) rfl rfl ?_
  refine W.goto (q := 3) X21 C d6_41 (by decide) (by decide) ?_
  refine W.iload (q := 5) X21 C d6_3 rfl rfl ?_
  refine W.iload (q := 7) X21 C d6_5 rfl rfl ?_
  refine W.icmpT (q := 44) X21 C d6_7 (by decide) (by decide) (by decide : W.cT .ge (3 : Int32) (3 : Int32)) ?_
  refine W.iload (q := 46) X21 C d6_44 rfl rfl ?_
  exact W.retI X21 C e21 d6_46 (by decide) (by decide) ⟨rfl, N21, K21, _, V21⟩
theorem d5_0 : decode jdk_52_method_16_code 0 = .ok (.iload_n 2, 1) := by decide +kernel
theorem d5_1 : decode jdk_52_method_16_code 1 = .ok (.newarray .byte, 2) := by decide +kernel
theorem d5_3 : decode jdk_52_method_16_code 3 = .ok (.astore_n 3, 1) := by decide +kernel
theorem d5_4 : decode jdk_52_method_16_code 4 = .ok (.aload_n 0, 1) := by decide +kernel
theorem d5_5 : decode jdk_52_method_16_code 5 = .ok (.iload_n 1, 1) := by decide +kernel
theorem d5_6 : decode jdk_52_method_16_code 6 = .ok (.aload_n 3, 1) := by decide +kernel
theorem d5_7 : decode jdk_52_method_16_code 7 = .ok (.iconst 0, 1) := by decide +kernel
theorem d5_8 : decode jdk_52_method_16_code 8 = .ok (.iload_n 2, 1) := by decide +kernel
theorem d5_9 : decode jdk_52_method_16_code 9 = .ok (.invokestatic 115, 3) := by decide +kernel
theorem pd__28_5bCI_5bBII_29I : parseMethodDescriptor "([CI[BII)I" = some ⟨[(.array .char), .int, (.array .byte), .int, .int], some .int⟩ := by decide +kernel
theorem d5_12 : decode jdk_52_method_16_code 12 = .ok (.istore 4, 2) := by decide +kernel
theorem d5_14 : decode jdk_52_method_16_code 14 = .ok (.iload 4, 2) := by decide +kernel
theorem d5_16 : decode jdk_52_method_16_code 16 = .ok (.iload_n 2, 1) := by decide +kernel
theorem d5_17 : decode jdk_52_method_16_code 17 = .ok (.if_icmp .eq 40, 3) := by decide +kernel
theorem d5_57 : decode jdk_52_method_16_code 57 = .ok (.aload_n 3, 1) := by decide +kernel
theorem d5_58 : decode jdk_52_method_16_code 58 = .ok (.areturn, 1) := by decide +kernel
def Q5_1 (Z : State) (p0 : Addr) (kc : ClassId) (x0 : Int32) (h0 : Heap) (n0 : Nat) (v : Option Value) (h : Heap) (L : List Loc) : Prop := ∃ b kb vs, v = some (.ref b) ∧ Fr n0 L ∧ Keep h0 h [] ∧ Arv Z h b kb .byte (1 : Int32) vs (.int (0 : Int32))
set_option maxRecDepth 65536 in
set_option maxHeartbeats 40000000 in
theorem rm5_1 (l : Launch) (Z : State) (a0 : Array Value) (hw : ∀ d ∈ tables_1, d.before a0 Z = true) (ws : List Jvm.Cond) (p0 : Addr) (kc : ClassId) (x0 : Int32) (h0 : Heap) (n0 : Nat) (Z0 : n0 ≤ h0.size) (Vc : Arv Z h0 p0 kc .char (1 : Int32) [(.int x0)] (.int (0 : Int32))) (hx0 : own_r8 x0) :
    MetFree l (⟨"java/lang/StringUTF16", "compress", "([CII)[B"⟩ : MethodName) (head1 (Jvm.Cond.code (⟨"java/lang/StringUTF16", "compress", "([CII)[B"⟩ : MethodName) jdk_52_method_16_code 6 (some (.array .byte)) :: ws) ({ frames := 1, cells := 1, slots := 3, locals := 20 } : Room)) (fun a U => a = #[(.ref p0), (.int (0 : Int32)), (.int (1 : Int32))] ∧ Z.Warmed39 U.vm ∧ U.heap = h0) (fun _ _ _ _ _ => True) (fun _ U o U' => ∃ v L, o = .returned v ∧ Q5_1 Z p0 kc x0 h0 n0 v U'.heap L ∧ FrameEnd U o U' L ({ frames := 1, cells := 1, slots := 3, locals := 20 } : Room).cells ({ frames := 1, cells := 1, slots := 3, locals := 20 } : Room).slots) := by
  refine W.bodyOf (y := (⟨"java/lang/StringUTF16", "compress", "([CII)[B"⟩ : MethodName)) (as := #[(.ref p0), (.int (0 : Int32)), (.int (1 : Int32))]) (maxL := 6) (Q := Q5_1 Z p0 kc x0 h0 n0) (Ls := #[.val (.ref p0), .val (.int (0 : Int32)), .val (.int (1 : Int32)), .unset, .unset, .unset]) (plainFor_of_name pn_java_lang_StringUTF16) (fun m => by first | exact W.entry_of rfl | rfl | (simp [entryFrame, mkF, argsToLocals, Value.category]; done)) ?_
  intro p e s m below meth c T0 C X0 e0
  have N0 := Fr.nil n0
  have K0 := Keep.refl h0 []
  refine W.iloadN (q := 1) X0 C d5_0 rfl rfl ?_
  refine W.newarray (q := 3) X0 C (W.ww hw 7 rfl) e0 (by decide) 1 (by decide) (by decide) d5_1 (by decide) (by decide) rfl (fun T25 h25 b25 k25 X25 e25 g25 E25 V25_ => ?_)
  have ne_p0_b25 : p0 ≠ b25 := by rw [g25]; exact Nat.ne_of_lt Vc.lt
  have ge_b25 : n0 ≤ b25 := by rw [g25]; exact Z0
  have sz_b25 : h0.size ≤ b25 := by rw [g25]; exact K0.1
  have n0_25 : n0 ≤ h25.size := Nat.le_trans Z0 E25.1
  have Vc_27 := Vc.ext E25
  have K25 := K0.ext E25
  have V25 : Arv Z h25 b25 k25 .byte (1 : Int32) [(.int (0 : Int32))] (.int (0 : Int32)) := V25_
  refine W.astoreN (q := 4) (L' := #[.val (.ref p0), .val (.int (0 : Int32)), .val (.int (1 : Int32)), .val (.ref b25), .unset, .unset]) X25 C d5_3 rfl rfl rfl ?_
  refine W.aloadN (q := 5) X25 C d5_4 rfl rfl rfl ?_
  refine W.iloadN (q := 6) X25 C d5_5 rfl rfl ?_
  refine W.aloadN (q := 7) X25 C d5_6 rfl rfl rfl ?_
  refine W.iconst (q := 8) (v := 0) X25 C d5_7 rfl rfl ?_
  refine W.iloadN (q := 9) X25 C d5_8 rfl rfl ?_
  refine W.callS (q := 12) X25 C (W.ww hw 29 rfl) (W.ww hw 30 rfl) (W.ww hw 27 rfl) (W.ww hw 31 rfl) (by decide) (rm6_1 l Z a0 hw [] p0 b25 kc k25 x0 h25 n0 n0_25 ge_b25 ne_p0_b25 Vc_27 V25 hx0) e25 d5_9 [(.ref p0), (.int (0 : Int32)), (.ref b25), (.int (0 : Int32)), (.int (1 : Int32))] [] rfl rfl pd__28_5bCI_5bBII_29I rfl rfl (by decide) (Nat.le_of_ble_eq_true rfl) (by decide) (by decide) rfl (fun T28 w28 L28 X28 hQ28 => ?_)
  obtain ⟨rfl, NL28, K28, vs28, V28⟩ := hQ28
  have N28 := Fr.app N0 NL28
  have Vc_30 := Vc_27.keep K28 (ninS ne_p0_b25 nin0)
  have n0_28 : n0 ≤ T28.heap.size := Nat.le_trans n0_25 K28.1
  have KK28 := K25.trans K28 (allS (Or.inr sz_b25) all0)
  show W.Go p e below _ (T28.setTop (mkF m 12 #[.val (.ref p0), .val (.int (0 : Int32)), .val (.int (1 : Int32)), .val (.ref b25), .unset, .unset] [(.int (1 : Int32))]))
  refine W.istore (q := 14) (L' := #[.val (.ref p0), .val (.int (0 : Int32)), .val (.int (1 : Int32)), .val (.ref b25), .val (.int (1 : Int32)), .unset]) X28 C d5_12 rfl rfl ?_
  refine W.iload (q := 16) X28 C d5_14 rfl rfl ?_
  refine W.iloadN (q := 17) X28 C d5_16 rfl rfl ?_
  refine W.icmpT (q := 57) X28 C d5_17 (by decide) (by decide) (by decide : W.cT .eq (1 : Int32) (1 : Int32)) ?_
  refine W.aloadN (q := 58) X28 C d5_57 rfl rfl rfl ?_
  exact W.retA X28 C rfl rfl rfl d5_58 (by decide) (by decide) ⟨_, _, _, rfl, N28, KK28, V28⟩
def Q5_2 (Z : State) (p0 : Addr) (kc : ClassId) (x0 x1 : Int32) (h0 : Heap) (n0 : Nat) (v : Option Value) (h : Heap) (L : List Loc) : Prop := ∃ b kb vs, v = some (.ref b) ∧ Fr n0 L ∧ Keep h0 h [] ∧ Arv Z h b kb .byte (2 : Int32) vs (.int (0 : Int32))
set_option maxRecDepth 65536 in
set_option maxHeartbeats 40000000 in
theorem rm5_2 (l : Launch) (Z : State) (a0 : Array Value) (hw : ∀ d ∈ tables_1, d.before a0 Z = true) (ws : List Jvm.Cond) (p0 : Addr) (kc : ClassId) (x0 x1 : Int32) (h0 : Heap) (n0 : Nat) (Z0 : n0 ≤ h0.size) (Vc : Arv Z h0 p0 kc .char (2 : Int32) [(.int x0), (.int x1)] (.int (0 : Int32))) (hx0 : own_r8 x0) (hx1 : own_r8 x1) :
    MetFree l (⟨"java/lang/StringUTF16", "compress", "([CII)[B"⟩ : MethodName) (head1 (Jvm.Cond.code (⟨"java/lang/StringUTF16", "compress", "([CII)[B"⟩ : MethodName) jdk_52_method_16_code 6 (some (.array .byte)) :: ws) ({ frames := 1, cells := 1, slots := 3, locals := 20 } : Room)) (fun a U => a = #[(.ref p0), (.int (0 : Int32)), (.int (2 : Int32))] ∧ Z.Warmed39 U.vm ∧ U.heap = h0) (fun _ _ _ _ _ => True) (fun _ U o U' => ∃ v L, o = .returned v ∧ Q5_2 Z p0 kc x0 x1 h0 n0 v U'.heap L ∧ FrameEnd U o U' L ({ frames := 1, cells := 1, slots := 3, locals := 20 } : Room).cells ({ frames := 1, cells := 1, slots := 3, locals := 20 } : Room).slots) := by
  refine W.bodyOf (y := (⟨"java/lang/StringUTF16", "compress", "([CII)[B"⟩ : MethodName)) (as := #[(.ref p0), (.int (0 : Int32)), (.int (2 : Int32))]) (maxL := 6) (Q := Q5_2 Z p0 kc x0 x1 h0 n0) (Ls := #[.val (.ref p0), .val (.int (0 : Int32)), .val (.int (2 : Int32)), .unset, .unset, .unset]) (plainFor_of_name pn_java_lang_StringUTF16) (fun m => by first | exact W.entry_of rfl | rfl | (simp [entryFrame, mkF, argsToLocals, Value.category]; done)) ?_
  intro p e s m below meth c T0 C X0 e0
  have N0 := Fr.nil n0
  have K0 := Keep.refl h0 []
  refine W.iloadN (q := 1) X0 C d5_0 rfl rfl ?_
  refine W.newarray (q := 3) X0 C (W.ww hw 7 rfl) e0 (by decide) 2 (by decide) (by decide) d5_1 (by decide) (by decide) rfl (fun T31 h31 b31 k31 X31 e31 g31 E31 V31_ => ?_)
  have ne_p0_b31 : p0 ≠ b31 := by rw [g31]; exact Nat.ne_of_lt Vc.lt
  have ge_b31 : n0 ≤ b31 := by rw [g31]; exact Z0
  have sz_b31 : h0.size ≤ b31 := by rw [g31]; exact K0.1
  have n0_31 : n0 ≤ h31.size := Nat.le_trans Z0 E31.1
  have Vc_33 := Vc.ext E31
  have K31 := K0.ext E31
  have V31 : Arv Z h31 b31 k31 .byte (2 : Int32) [(.int (0 : Int32)), (.int (0 : Int32))] (.int (0 : Int32)) := V31_
  refine W.astoreN (q := 4) (L' := #[.val (.ref p0), .val (.int (0 : Int32)), .val (.int (2 : Int32)), .val (.ref b31), .unset, .unset]) X31 C d5_3 rfl rfl rfl ?_
  refine W.aloadN (q := 5) X31 C d5_4 rfl rfl rfl ?_
  refine W.iloadN (q := 6) X31 C d5_5 rfl rfl ?_
  refine W.aloadN (q := 7) X31 C d5_6 rfl rfl rfl ?_
  refine W.iconst (q := 8) (v := 0) X31 C d5_7 rfl rfl ?_
  refine W.iloadN (q := 9) X31 C d5_8 rfl rfl ?_
  refine W.callS (q := 12) X31 C (W.ww hw 29 rfl) (W.ww hw 30 rfl) (W.ww hw 27 rfl) (W.ww hw 31 rfl) (by decide) (rm6_2 l Z a0 hw [] p0 b31 kc k31 x0 x1 h31 n0 n0_31 ge_b31 ne_p0_b31 Vc_33 V31 hx0 hx1) e31 d5_9 [(.ref p0), (.int (0 : Int32)), (.ref b31), (.int (0 : Int32)), (.int (2 : Int32))] [] rfl rfl pd__28_5bCI_5bBII_29I rfl rfl (by decide) (Nat.le_of_ble_eq_true rfl) (by decide) (by decide) rfl (fun T34 w34 L34 X34 hQ34 => ?_)
  obtain ⟨rfl, NL34, K34, vs34, V34⟩ := hQ34
  have N34 := Fr.app N0 NL34
  have Vc_36 := Vc_33.keep K34 (ninS ne_p0_b31 nin0)
  have n0_34 : n0 ≤ T34.heap.size := Nat.le_trans n0_31 K34.1
  have KK34 := K31.trans K34 (allS (Or.inr sz_b31) all0)
  show W.Go p e below _ (T34.setTop (mkF m 12 #[.val (.ref p0), .val (.int (0 : Int32)), .val (.int (2 : Int32)), .val (.ref b31), .unset, .unset] [(.int (2 : Int32))]))
  refine W.istore (q := 14) (L' := #[.val (.ref p0), .val (.int (0 : Int32)), .val (.int (2 : Int32)), .val (.ref b31), .val (.int (2 : Int32)), .unset]) X34 C d5_12 rfl rfl ?_
  refine W.iload (q := 16) X34 C d5_14 rfl rfl ?_
  refine W.iloadN (q := 17) X34 C d5_16 rfl rfl ?_
  refine W.icmpT (q := 57) X34 C d5_17 (by decide) (by decide) (by decide : W.cT .eq (2 : Int32) (2 : Int32)) ?_
  refine W.aloadN (q := 58) X34 C d5_57 rfl rfl rfl ?_
  exact W.retA X34 C rfl rfl rfl d5_58 (by decide) (by decide) ⟨_, _, _, rfl, N34, KK34, V34⟩
def Q5_3 (Z : State) (p0 : Addr) (kc : ClassId) (x0 x1 x2 : Int32) (h0 : Heap) (n0 : Nat) (v : Option Value) (h : Heap) (L : List Loc) : Prop := ∃ b kb vs, v = some (.ref b) ∧ Fr n0 L ∧ Keep h0 h [] ∧ Arv Z h b kb .byte (3 : Int32) vs (.int (0 : Int32))
set_option maxRecDepth 65536 in
set_option maxHeartbeats 40000000 in
theorem rm5_3 (l : Launch) (Z : State) (a0 : Array Value) (hw : ∀ d ∈ tables_1, d.before a0 Z = true) (ws : List Jvm.Cond) (p0 : Addr) (kc : ClassId) (x0 x1 x2 : Int32) (h0 : Heap) (n0 : Nat) (Z0 : n0 ≤ h0.size) (Vc : Arv Z h0 p0 kc .char (3 : Int32) [(.int x0), (.int x1), (.int x2)] (.int (0 : Int32))) (hx0 : own_r8 x0) (hx1 : own_r8 x1) (hx2 : own_r8 x2) :
    MetFree l (⟨"java/lang/StringUTF16", "compress", "([CII)[B"⟩ : MethodName) (head1 (Jvm.Cond.code (⟨"java/lang/StringUTF16", "compress", "([CII)[B"⟩ : MethodName) jdk_52_method_16_code 6 (some (.array .byte)) :: ws) ({ frames := 1, cells := 1, slots := 3, locals := 20 } : Room)) (fun a U => a = #[(.ref p0), (.int (0 : Int32)), (.int (3 : Int32))] ∧ Z.Warmed39 U.vm ∧ U.heap = h0) (fun _ _ _ _ _ => True) (fun _ U o U' => ∃ v L, o = .returned v ∧ Q5_3 Z p0 kc x0 x1 x2 h0 n0 v U'.heap L ∧ FrameEnd U o U' L ({ frames := 1, cells := 1, slots := 3, locals := 20 } : Room).cells ({ frames := 1, cells := 1, slots := 3, locals := 20 } : Room).slots) := by
  refine W.bodyOf (y := (⟨"java/lang/StringUTF16", "compress", "([CII)[B"⟩ : MethodName)) (as := #[(.ref p0), (.int (0 : Int32)), (.int (3 : Int32))]) (maxL := 6) (Q := Q5_3 Z p0 kc x0 x1 x2 h0 n0) (Ls := #[.val (.ref p0), .val (.int (0 : Int32)), .val (.int (3 : Int32)), .unset, .unset, .unset]) (plainFor_of_name pn_java_lang_StringUTF16) (fun m => by first | exact W.entry_of rfl | rfl | (simp [entryFrame, mkF, argsToLocals, Value.category]; done)) ?_
  intro p e s m below meth c T0 C X0 e0
  have N0 := Fr.nil n0
  have K0 := Keep.refl h0 []
  refine W.iloadN (q := 1) X0 C d5_0 rfl rfl ?_
  refine W.newarray (q := 3) X0 C (W.ww hw 7 rfl) e0 (by decide) 3 (by decide) (by decide) d5_1 (by decide) (by decide) rfl (fun T37 h37 b37 k37 X37 e37 g37 E37 V37_ => ?_)
  have ne_p0_b37 : p0 ≠ b37 := by rw [g37]; exact Nat.ne_of_lt Vc.lt
  have ge_b37 : n0 ≤ b37 := by rw [g37]; exact Z0
  have sz_b37 : h0.size ≤ b37 := by rw [g37]; exact K0.1
  have n0_37 : n0 ≤ h37.size := Nat.le_trans Z0 E37.1
  have Vc_39 := Vc.ext E37
  have K37 := K0.ext E37
  have V37 : Arv Z h37 b37 k37 .byte (3 : Int32) [(.int (0 : Int32)), (.int (0 : Int32)), (.int (0 : Int32))] (.int (0 : Int32)) := V37_
  refine W.astoreN (q := 4) (L' := #[.val (.ref p0), .val (.int (0 : Int32)), .val (.int (3 : Int32)), .val (.ref b37), .unset, .unset]) X37 C d5_3 rfl rfl rfl ?_
  refine W.aloadN (q := 5) X37 C d5_4 rfl rfl rfl ?_
  refine W.iloadN (q := 6) X37 C d5_5 rfl rfl ?_
  refine W.aloadN (q := 7) X37 C d5_6 rfl rfl rfl ?_
  refine W.iconst (q := 8) (v := 0) X37 C d5_7 rfl rfl ?_
  refine W.iloadN (q := 9) X37 C d5_8 rfl rfl ?_
  refine W.callS (q := 12) X37 C (W.ww hw 29 rfl) (W.ww hw 30 rfl) (W.ww hw 27 rfl) (W.ww hw 31 rfl) (by decide) (rm6_3 l Z a0 hw [] p0 b37 kc k37 x0 x1 x2 h37 n0 n0_37 ge_b37 ne_p0_b37 Vc_39 V37 hx0 hx1 hx2) e37 d5_9 [(.ref p0), (.int (0 : Int32)), (.ref b37), (.int (0 : Int32)), (.int (3 : Int32))] [] rfl rfl pd__28_5bCI_5bBII_29I rfl rfl (by decide) (Nat.le_of_ble_eq_true rfl) (by decide) (by decide) rfl (fun T40 w40 L40 X40 hQ40 => ?_)
  obtain ⟨rfl, NL40, K40, vs40, V40⟩ := hQ40
  have N40 := Fr.app N0 NL40
  have Vc_42 := Vc_39.keep K40 (ninS ne_p0_b37 nin0)
  have n0_40 : n0 ≤ T40.heap.size := Nat.le_trans n0_37 K40.1
  have KK40 := K37.trans K40 (allS (Or.inr sz_b37) all0)
  show W.Go p e below _ (T40.setTop (mkF m 12 #[.val (.ref p0), .val (.int (0 : Int32)), .val (.int (3 : Int32)), .val (.ref b37), .unset, .unset] [(.int (3 : Int32))]))
  refine W.istore (q := 14) (L' := #[.val (.ref p0), .val (.int (0 : Int32)), .val (.int (3 : Int32)), .val (.ref b37), .val (.int (3 : Int32)), .unset]) X40 C d5_12 rfl rfl ?_
  refine W.iload (q := 16) X40 C d5_14 rfl rfl ?_
  refine W.iloadN (q := 17) X40 C d5_16 rfl rfl ?_
  refine W.icmpT (q := 57) X40 C d5_17 (by decide) (by decide) (by decide : W.cT .eq (3 : Int32) (3 : Int32)) ?_
  refine W.aloadN (q := 58) X40 C d5_57 rfl rfl rfl ?_
  exact W.retA X40 C rfl rfl rfl d5_58 (by decide) (by decide) ⟨_, _, _, rfl, N40, KK40, V40⟩
theorem d3_0 : decode jdk_42_method_149_code 0 = .ok (.aload_n 0, 1) := by decide +kernel
theorem d3_1 : decode jdk_42_method_149_code 1 = .ok (.invokespecial 1, 3) := by decide +kernel
theorem d3_4 : decode jdk_42_method_149_code 4 = .ok (.iload_n 3, 1) := by decide +kernel
theorem d3_5 : decode jdk_42_method_149_code 5 = .ok (.ifCond .ne 22, 3) := by decide +kernel
theorem d3_27 : decode jdk_42_method_149_code 27 = .ok (.getstatic 38, 3) := by decide +kernel
theorem d3_30 : decode jdk_42_method_149_code 30 = .ok (.ifCond .eq 28, 3) := by decide +kernel
theorem d3_33 : decode jdk_42_method_149_code 33 = .ok (.aload_n 1, 1) := by decide +kernel
theorem d3_34 : decode jdk_42_method_149_code 34 = .ok (.iload_n 2, 1) := by decide +kernel
theorem d3_35 : decode jdk_42_method_149_code 35 = .ok (.iload_n 3, 1) := by decide +kernel
theorem d3_36 : decode jdk_42_method_149_code 36 = .ok (.invokestatic 177, 3) := by decide +kernel
theorem pd__28_5bCII_29_5bB : parseMethodDescriptor "([CII)[B" = some ⟨[(.array .char), .int, .int], some (.array .byte)⟩ := by decide +kernel
theorem d3_39 : decode jdk_42_method_149_code 39 = .ok (.astore 5, 2) := by decide +kernel
theorem d3_41 : decode jdk_42_method_149_code 41 = .ok (.aload_n 0, 1) := by decide +kernel
theorem d3_42 : decode jdk_42_method_149_code 42 = .ok (.aload 5, 2) := by decide +kernel
theorem d3_44 : decode jdk_42_method_149_code 44 = .ok (.iload_n 3, 1) := by decide +kernel
theorem d3_45 : decode jdk_42_method_149_code 45 = .ok (.invokestatic 47, 3) := by decide +kernel
theorem pd__28_5bBI_29B : parseMethodDescriptor "([BI)B" = some ⟨[(.array .byte), .int], some .byte⟩ := by decide +kernel
theorem d3_48 : decode jdk_42_method_149_code 48 = .ok (.putfield 15, 3) := by decide +kernel
theorem d3_51 : decode jdk_42_method_149_code 51 = .ok (.aload_n 0, 1) := by decide +kernel
theorem d3_52 : decode jdk_42_method_149_code 52 = .ok (.aload 5, 2) := by decide +kernel
theorem d3_54 : decode jdk_42_method_149_code 54 = .ok (.putfield 9, 3) := by decide +kernel
theorem d3_57 : decode jdk_42_method_149_code 57 = .ok (.return_, 1) := by decide +kernel
theorem pn_java_lang_String : plainName "java/lang/String" = true := by first | (simp [plainName, overriddenIn]; done) | decide +kernel
def Q3_1 (Z : State) (p0 p1 : Addr) (kc : ClassId) (x0 cs : Int32) (h0 : Heap) (n0 : Nat) (v : Option Value) (h : Heap) (L : List Loc) : Prop := v = none ∧ Fr n0 L ∧ Keep h0 h [p0] ∧ own_len Z h p0 (1 : Int32)
set_option maxRecDepth 65536 in
set_option maxHeartbeats 40000000 in
theorem rm3_1 (l : Launch) (Z : State) (a0 : Array Value) (hw : ∀ d ∈ tables_1, d.before a0 Z = true) (ws : List Jvm.Cond) (p0 p1 : Addr) (kc : ClassId) (x0 cs : Int32) (h0 : Heap) (n0 : Nat) (Z0 : n0 ≤ h0.size) (hge : n0 ≤ p0) (E0 : Exa Z h0 p0 "java/lang/String") (F0a : Fld Z h0 p0 "java/lang/String" "value" "[B" .null) (F0b : Fld Z h0 p0 "java/lang/String" "coder" "B" (.int (0 : Int32))) (Vc : Arv Z h0 p1 kc .char (1 : Int32) [(.int x0)] (.int (0 : Int32))) (hx0 : own_r8 x0) (O0 : Old Z n0 h0) (SC : Sta Z Z.heap "java/lang/String" "COMPACT_STRINGS" "Z" (.int cs)) (hcs : cs ≠ 0) :
    MetFree l (⟨"java/lang/String", "<init>", "([CIILjava/lang/Void;)V"⟩ : MethodName) (head1 (Jvm.Cond.code (⟨"java/lang/String", "<init>", "([CIILjava/lang/Void;)V"⟩ : MethodName) jdk_42_method_149_code 6 none :: ws) ({ frames := 2, cells := 1, slots := 3, locals := 40 } : Room)) (fun a U => a = #[(.ref p0), (.ref p1), (.int (0 : Int32)), (.int (1 : Int32)), .null] ∧ Z.Warmed39 U.vm ∧ U.heap = h0) (fun _ _ _ _ _ => True) (fun _ U o U' => ∃ v L, o = .returned v ∧ Q3_1 Z p0 p1 kc x0 cs h0 n0 v U'.heap L ∧ FrameEnd U o U' L ({ frames := 2, cells := 1, slots := 3, locals := 40 } : Room).cells ({ frames := 2, cells := 1, slots := 3, locals := 40 } : Room).slots) := by
  refine W.bodyOf (y := (⟨"java/lang/String", "<init>", "([CIILjava/lang/Void;)V"⟩ : MethodName)) (as := #[(.ref p0), (.ref p1), (.int (0 : Int32)), (.int (1 : Int32)), .null]) (maxL := 6) (Q := Q3_1 Z p0 p1 kc x0 cs h0 n0) (Ls := #[.val (.ref p0), .val (.ref p1), .val (.int (0 : Int32)), .val (.int (1 : Int32)), .val .null, .unset]) (plainFor_of_name pn_java_lang_String) (fun m => by first | exact W.entry_of rfl | rfl | (simp [entryFrame, mkF, argsToLocals, Value.category]; done)) ?_
  intro p e s m below meth c T0 C X0 e0
  have N0 := Fr.nil n0
  have K0 := Keep.refl h0 [p0]
  have SC0 := SC.ext O0.2
  have ne01 : p0 ≠ p1 := E0.neArv Vc (W.ww hw 6 rfl)
  refine W.aloadN (q := 1) X0 C d3_0 rfl rfl rfl ?_
  refine W.initObj (q := 4) X0 C (W.ww hw 21 rfl) (W.ww hw 22 rfl) (W.ww hw 23 rfl) e0 d3_1 rfl (by decide) (Nat.le_of_ble_eq_true rfl) rfl (fun T43 X43 e43 => ?_)
  refine W.iloadN (q := 5) X43 C d3_4 rfl rfl ?_
  refine W.ifT (q := 27) X43 C d3_5 (by decide) (by decide) (by decide : W.cT .ne (1 : Int32) 0) ?_
  refine W.getS (q := 30) X43 C (W.ww hw 24 rfl) Via.refl e43 SC0 d3_27 rfl (fun T44 X44 e44 => ?_)
  refine W.ifF (q := 33) X44 C d3_30 rfl hcs ?_
  refine W.aloadN (q := 34) X44 C d3_33 rfl rfl rfl ?_
  refine W.iloadN (q := 35) X44 C d3_34 rfl rfl ?_
  refine W.iloadN (q := 36) X44 C d3_35 rfl rfl ?_
  refine W.callS (q := 39) X44 C (W.ww hw 25 rfl) (W.ww hw 26 rfl) (W.ww hw 27 rfl) (W.ww hw 28 rfl) (by decide) (rm5_1 l Z a0 hw [] p1 kc x0 h0 n0 Z0 Vc hx0) e44 d3_36 [(.ref p1), (.int (0 : Int32)), (.int (1 : Int32))] [] rfl rfl pd__28_5bCII_29_5bB rfl rfl (by decide) (Nat.le_of_ble_eq_true rfl) (by decide) (by decide) rfl (fun T45 w45 L45 X45 hQ45 => ?_)
  obtain ⟨b45, kb45, vs45, rfl, NL45, K45, V45⟩ := hQ45
  have N45 := Fr.app N0 NL45
  have E0_47 := E0.keep K45
  have F0a_48 := F0a.keep K45 nin0
  have F0b_49 := F0b.keep K45 nin0
  have O0_50 := O0.keep K45 all0
  have Vc_51 := Vc.keep K45 nin0
  have n0_45 : n0 ≤ T45.heap.size := Nat.le_trans Z0 K45.1
  have KK45 := K0.trans K45 all0
  have ne_p0_b45 : p0 ≠ b45 := E0_47.neArv V45 (W.ww hw 6 rfl)
  show W.Go p e below _ (T45.setTop (mkF m 39 #[.val (.ref p0), .val (.ref p1), .val (.int (0 : Int32)), .val (.int (1 : Int32)), .val .null, .unset] [(.ref b45)]))
  refine W.astore (q := 41) (L' := #[.val (.ref p0), .val (.ref p1), .val (.int (0 : Int32)), .val (.int (1 : Int32)), .val .null, .val (.ref b45)]) X45 C d3_39 rfl rfl rfl ?_
  refine W.aloadN (q := 42) X45 C d3_41 rfl rfl rfl ?_
  refine W.aload (q := 44) X45 C d3_42 rfl rfl rfl ?_
  refine W.iloadN (q := 45) X45 C d3_44 rfl rfl ?_
  refine W.callS (q := 48) X45 C (W.ww hw 32 rfl) (W.ww hw 33 rfl) (W.ww hw 27 rfl) (W.ww hw 34 rfl) (by decide) (rm7_1 l Z a0 hw [] b45 kb45 _ T45.heap n0 V45) rfl d3_45 [(.ref b45), (.int (1 : Int32))] [(.ref p0)] rfl rfl pd__28_5bBI_29B rfl rfl (by decide) (Nat.le_of_ble_eq_true rfl) (by decide) (by decide) rfl (fun T53 w53 L53 X53 hQ53 => ?_)
  obtain ⟨rfl, NL53, e53⟩ := hQ53
  have N53 := Fr.app N45 NL53
  show W.Go p e below _ (T53.setTop (mkF m 48 #[.val (.ref p0), .val (.ref p1), .val (.int (0 : Int32)), .val (.int (1 : Int32)), .val .null, .val (.ref b45)] [(.int (0 : Int32)), (.ref p0)]))
  refine W.putF (host := "") (q := 51) X53 C (Or.inl (W.ww hw 35 rfl)) Via.refl e53 F0b_49 E0_47 (Or.inr ⟨(W.ww hw 9 rfl), rfl, rfl⟩) (W.ww hw 6 rfl) (ty := .byte) (by decide) rfl rfl d3_48 rfl (fun T54 h54 X54 e54 W54 => ?_)
  have Fw54 := F0b_49.same W54
  have E0_56 := E0_47.wr W54
  have F0a_57 := F0a_48.other W54 (Or.inr (slot_ne (Or.inr (W.ww hw 8 rfl)) (Or.inr (W.ww hw 9 rfl)) (by decide) (t := (.array .byte)) (t' := .byte) (by decide) (by decide)))
  have O0_59 := O0_50.wr W54 hge
  have Vc_60 := Vc_51.other W54 (Ne.symm ne01)
  have V45_61 := V45.other W54 (Ne.symm ne_p0_b45)
  have N54 := Fr.snoc X54 N53 hge
  have K54 := KK45.wr W54 (Or.inl (by simp))
  have n0_54 : n0 ≤ h54.size := by rw [W54.size]; exact n0_45
  refine W.aloadN (q := 52) X54 C d3_51 rfl rfl rfl ?_
  refine W.aload (q := 54) X54 C d3_52 rfl rfl rfl ?_
  refine W.putF (host := "") (q := 57) X54 C (Or.inl (W.ww hw 36 rfl)) Via.refl e54 F0a_57 E0_56 (Or.inr ⟨(W.ww hw 8 rfl), rfl, rfl⟩) (W.ww hw 6 rfl) (ty := (.array .byte)) (by decide) rfl rfl d3_54 rfl (fun T62 h62 X62 e62 W62 => ?_)
  have Fw62 := F0a_57.same W62
  have E0_64 := E0_56.wr W62
  have Fw54_66 := Fw54.other W62 (Or.inr (slot_ne (Or.inr (W.ww hw 9 rfl)) (Or.inr (W.ww hw 8 rfl)) (by decide) (t := .byte) (t' := (.array .byte)) (by decide) (by decide)))
  have O0_67 := O0_59.wr W62 hge
  have Vc_68 := Vc_60.other W62 (Ne.symm ne01)
  have V45_69 := V45_61.other W62 (Ne.symm ne_p0_b45)
  have N62 := Fr.snoc X62 N54 hge
  have K62 := K54.wr W62 (Or.inl (by simp))
  have n0_62 : n0 ≤ h62.size := by rw [W62.size]; exact n0_54
  exact W.retV X62 C e62 d3_57 (by decide) (by decide) ⟨rfl, N62, K62, _, _, _, E0_64, Fw62, V45_69⟩
def Q3_2 (Z : State) (p0 p1 : Addr) (kc : ClassId) (x0 x1 cs : Int32) (h0 : Heap) (n0 : Nat) (v : Option Value) (h : Heap) (L : List Loc) : Prop := v = none ∧ Fr n0 L ∧ Keep h0 h [p0] ∧ own_len Z h p0 (2 : Int32)
set_option maxRecDepth 65536 in
set_option maxHeartbeats 40000000 in
theorem rm3_2 (l : Launch) (Z : State) (a0 : Array Value) (hw : ∀ d ∈ tables_1, d.before a0 Z = true) (ws : List Jvm.Cond) (p0 p1 : Addr) (kc : ClassId) (x0 x1 cs : Int32) (h0 : Heap) (n0 : Nat) (Z0 : n0 ≤ h0.size) (hge : n0 ≤ p0) (E0 : Exa Z h0 p0 "java/lang/String") (F0a : Fld Z h0 p0 "java/lang/String" "value" "[B" .null) (F0b : Fld Z h0 p0 "java/lang/String" "coder" "B" (.int (0 : Int32))) (Vc : Arv Z h0 p1 kc .char (2 : Int32) [(.int x0), (.int x1)] (.int (0 : Int32))) (hx0 : own_r8 x0) (hx1 : own_r8 x1) (O0 : Old Z n0 h0) (SC : Sta Z Z.heap "java/lang/String" "COMPACT_STRINGS" "Z" (.int cs)) (hcs : cs ≠ 0) :
    MetFree l (⟨"java/lang/String", "<init>", "([CIILjava/lang/Void;)V"⟩ : MethodName) (head1 (Jvm.Cond.code (⟨"java/lang/String", "<init>", "([CIILjava/lang/Void;)V"⟩ : MethodName) jdk_42_method_149_code 6 none :: ws) ({ frames := 2, cells := 1, slots := 3, locals := 40 } : Room)) (fun a U => a = #[(.ref p0), (.ref p1), (.int (0 : Int32)), (.int (2 : Int32)), .null] ∧ Z.Warmed39 U.vm ∧ U.heap = h0) (fun _ _ _ _ _ => True) (fun _ U o U' => ∃ v L, o = .returned v ∧ Q3_2 Z p0 p1 kc x0 x1 cs h0 n0 v U'.heap L ∧ FrameEnd U o U' L ({ frames := 2, cells := 1, slots := 3, locals := 40 } : Room).cells ({ frames := 2, cells := 1, slots := 3, locals := 40 } : Room).slots) := by
  refine W.bodyOf (y := (⟨"java/lang/String", "<init>", "([CIILjava/lang/Void;)V"⟩ : MethodName)) (as := #[(.ref p0), (.ref p1), (.int (0 : Int32)), (.int (2 : Int32)), .null]) (maxL := 6) (Q := Q3_2 Z p0 p1 kc x0 x1 cs h0 n0) (Ls := #[.val (.ref p0), .val (.ref p1), .val (.int (0 : Int32)), .val (.int (2 : Int32)), .val .null, .unset]) (plainFor_of_name pn_java_lang_String) (fun m => by first | exact W.entry_of rfl | rfl | (simp [entryFrame, mkF, argsToLocals, Value.category]; done)) ?_
  intro p e s m below meth c T0 C X0 e0
  have N0 := Fr.nil n0
  have K0 := Keep.refl h0 [p0]
  have SC0 := SC.ext O0.2
  have ne01 : p0 ≠ p1 := E0.neArv Vc (W.ww hw 6 rfl)
  refine W.aloadN (q := 1) X0 C d3_0 rfl rfl rfl ?_
  refine W.initObj (q := 4) X0 C (W.ww hw 21 rfl) (W.ww hw 22 rfl) (W.ww hw 23 rfl) e0 d3_1 rfl (by decide) (Nat.le_of_ble_eq_true rfl) rfl (fun T70 X70 e70 => ?_)
  refine W.iloadN (q := 5) X70 C d3_4 rfl rfl ?_
  refine W.ifT (q := 27) X70 C d3_5 (by decide) (by decide) (by decide : W.cT .ne (2 : Int32) 0) ?_
  refine W.getS (q := 30) X70 C (W.ww hw 24 rfl) Via.refl e70 SC0 d3_27 rfl (fun T71 X71 e71 => ?_)
  refine W.ifF (q := 33) X71 C d3_30 rfl hcs ?_
  refine W.aloadN (q := 34) X71 C d3_33 rfl rfl rfl ?_
  refine W.iloadN (q := 35) X71 C d3_34 rfl rfl ?_
  refine W.iloadN (q := 36) X71 C d3_35 rfl rfl ?_
  refine W.callS (q := 39) X71 C (W.ww hw 25 rfl) (W.ww hw 26 rfl) (W.ww hw 27 rfl) (W.ww hw 28 rfl) (by decide) (rm5_2 l Z a0 hw [] p1 kc x0 x1 h0 n0 Z0 Vc hx0 hx1) e71 d3_36 [(.ref p1), (.int (0 : Int32)), (.int (2 : Int32))] [] rfl rfl pd__28_5bCII_29_5bB rfl rfl (by decide) (Nat.le_of_ble_eq_true rfl) (by decide) (by decide) rfl (fun T72 w72 L72 X72 hQ72 => ?_)
  obtain ⟨b72, kb72, vs72, rfl, NL72, K72, V72⟩ := hQ72
  have N72 := Fr.app N0 NL72
  have E0_74 := E0.keep K72
  have F0a_75 := F0a.keep K72 nin0
  have F0b_76 := F0b.keep K72 nin0
  have O0_77 := O0.keep K72 all0
  have Vc_78 := Vc.keep K72 nin0
  have n0_72 : n0 ≤ T72.heap.size := Nat.le_trans Z0 K72.1
  have KK72 := K0.trans K72 all0
  have ne_p0_b72 : p0 ≠ b72 := E0_74.neArv V72 (W.ww hw 6 rfl)
  show W.Go p e below _ (T72.setTop (mkF m 39 #[.val (.ref p0), .val (.ref p1), .val (.int (0 : Int32)), .val (.int (2 : Int32)), .val .null, .unset] [(.ref b72)]))
  refine W.astore (q := 41) (L' := #[.val (.ref p0), .val (.ref p1), .val (.int (0 : Int32)), .val (.int (2 : Int32)), .val .null, .val (.ref b72)]) X72 C d3_39 rfl rfl rfl ?_
  refine W.aloadN (q := 42) X72 C d3_41 rfl rfl rfl ?_
  refine W.aload (q := 44) X72 C d3_42 rfl rfl rfl ?_
  refine W.iloadN (q := 45) X72 C d3_44 rfl rfl ?_
  refine W.callS (q := 48) X72 C (W.ww hw 32 rfl) (W.ww hw 33 rfl) (W.ww hw 27 rfl) (W.ww hw 34 rfl) (by decide) (rm7_2 l Z a0 hw [] b72 kb72 _ T72.heap n0 V72) rfl d3_45 [(.ref b72), (.int (2 : Int32))] [(.ref p0)] rfl rfl pd__28_5bBI_29B rfl rfl (by decide) (Nat.le_of_ble_eq_true rfl) (by decide) (by decide) rfl (fun T80 w80 L80 X80 hQ80 => ?_)
  obtain ⟨rfl, NL80, e80⟩ := hQ80
  have N80 := Fr.app N72 NL80
  show W.Go p e below _ (T80.setTop (mkF m 48 #[.val (.ref p0), .val (.ref p1), .val (.int (0 : Int32)), .val (.int (2 : Int32)), .val .null, .val (.ref b72)] [(.int (0 : Int32)), (.ref p0)]))
  refine W.putF (host := "") (q := 51) X80 C (Or.inl (W.ww hw 35 rfl)) Via.refl e80 F0b_76 E0_74 (Or.inr ⟨(W.ww hw 9 rfl), rfl, rfl⟩) (W.ww hw 6 rfl) (ty := .byte) (by decide) rfl rfl d3_48 rfl (fun T81 h81 X81 e81 W81 => ?_)
  have Fw81 := F0b_76.same W81
  have E0_83 := E0_74.wr W81
  have F0a_84 := F0a_75.other W81 (Or.inr (slot_ne (Or.inr (W.ww hw 8 rfl)) (Or.inr (W.ww hw 9 rfl)) (by decide) (t := (.array .byte)) (t' := .byte) (by decide) (by decide)))
  have O0_86 := O0_77.wr W81 hge
  have Vc_87 := Vc_78.other W81 (Ne.symm ne01)
  have V72_88 := V72.other W81 (Ne.symm ne_p0_b72)
  have N81 := Fr.snoc X81 N80 hge
  have K81 := KK72.wr W81 (Or.inl (by simp))
  have n0_81 : n0 ≤ h81.size := by rw [W81.size]; exact n0_72
  refine W.aloadN (q := 52) X81 C d3_51 rfl rfl rfl ?_
  refine W.aload (q := 54) X81 C d3_52 rfl rfl rfl ?_
  refine W.putF (host := "") (q := 57) X81 C (Or.inl (W.ww hw 36 rfl)) Via.refl e81 F0a_84 E0_83 (Or.inr ⟨(W.ww hw 8 rfl), rfl, rfl⟩) (W.ww hw 6 rfl) (ty := (.array .byte)) (by decide) rfl rfl d3_54 rfl (fun T89 h89 X89 e89 W89 => ?_)
  have Fw89 := F0a_84.same W89
  have E0_91 := E0_83.wr W89
  have Fw81_93 := Fw81.other W89 (Or.inr (slot_ne (Or.inr (W.ww hw 9 rfl)) (Or.inr (W.ww hw 8 rfl)) (by decide) (t := .byte) (t' := (.array .byte)) (by decide) (by decide)))
  have O0_94 := O0_86.wr W89 hge
  have Vc_95 := Vc_87.other W89 (Ne.symm ne01)
  have V72_96 := V72_88.other W89 (Ne.symm ne_p0_b72)
  have N89 := Fr.snoc X89 N81 hge
  have K89 := K81.wr W89 (Or.inl (by simp))
  have n0_89 : n0 ≤ h89.size := by rw [W89.size]; exact n0_81
  exact W.retV X89 C e89 d3_57 (by decide) (by decide) ⟨rfl, N89, K89, _, _, _, E0_91, Fw89, V72_96⟩
def Q3_3 (Z : State) (p0 p1 : Addr) (kc : ClassId) (x0 x1 x2 cs : Int32) (h0 : Heap) (n0 : Nat) (v : Option Value) (h : Heap) (L : List Loc) : Prop := v = none ∧ Fr n0 L ∧ Keep h0 h [p0] ∧ own_len Z h p0 (3 : Int32)
set_option maxRecDepth 65536 in
set_option maxHeartbeats 40000000 in
theorem rm3_3 (l : Launch) (Z : State) (a0 : Array Value) (hw : ∀ d ∈ tables_1, d.before a0 Z = true) (ws : List Jvm.Cond) (p0 p1 : Addr) (kc : ClassId) (x0 x1 x2 cs : Int32) (h0 : Heap) (n0 : Nat) (Z0 : n0 ≤ h0.size) (hge : n0 ≤ p0) (E0 : Exa Z h0 p0 "java/lang/String") (F0a : Fld Z h0 p0 "java/lang/String" "value" "[B" .null) (F0b : Fld Z h0 p0 "java/lang/String" "coder" "B" (.int (0 : Int32))) (Vc : Arv Z h0 p1 kc .char (3 : Int32) [(.int x0), (.int x1), (.int x2)] (.int (0 : Int32))) (hx0 : own_r8 x0) (hx1 : own_r8 x1) (hx2 : own_r8 x2) (O0 : Old Z n0 h0) (SC : Sta Z Z.heap "java/lang/String" "COMPACT_STRINGS" "Z" (.int cs)) (hcs : cs ≠ 0) :
    MetFree l (⟨"java/lang/String", "<init>", "([CIILjava/lang/Void;)V"⟩ : MethodName) (head1 (Jvm.Cond.code (⟨"java/lang/String", "<init>", "([CIILjava/lang/Void;)V"⟩ : MethodName) jdk_42_method_149_code 6 none :: ws) ({ frames := 2, cells := 1, slots := 3, locals := 40 } : Room)) (fun a U => a = #[(.ref p0), (.ref p1), (.int (0 : Int32)), (.int (3 : Int32)), .null] ∧ Z.Warmed39 U.vm ∧ U.heap = h0) (fun _ _ _ _ _ => True) (fun _ U o U' => ∃ v L, o = .returned v ∧ Q3_3 Z p0 p1 kc x0 x1 x2 cs h0 n0 v U'.heap L ∧ FrameEnd U o U' L ({ frames := 2, cells := 1, slots := 3, locals := 40 } : Room).cells ({ frames := 2, cells := 1, slots := 3, locals := 40 } : Room).slots) := by
  refine W.bodyOf (y := (⟨"java/lang/String", "<init>", "([CIILjava/lang/Void;)V"⟩ : MethodName)) (as := #[(.ref p0), (.ref p1), (.int (0 : Int32)), (.int (3 : Int32)), .null]) (maxL := 6) (Q := Q3_3 Z p0 p1 kc x0 x1 x2 cs h0 n0) (Ls := #[.val (.ref p0), .val (.ref p1), .val (.int (0 : Int32)), .val (.int (3 : Int32)), .val .null, .unset]) (plainFor_of_name pn_java_lang_String) (fun m => by first | exact W.entry_of rfl | rfl | (simp [entryFrame, mkF, argsToLocals, Value.category]; done)) ?_
  intro p e s m below meth c T0 C X0 e0
  have N0 := Fr.nil n0
  have K0 := Keep.refl h0 [p0]
  have SC0 := SC.ext O0.2
  have ne01 : p0 ≠ p1 := E0.neArv Vc (W.ww hw 6 rfl)
  refine W.aloadN (q := 1) X0 C d3_0 rfl rfl rfl ?_
  refine W.initObj (q := 4) X0 C (W.ww hw 21 rfl) (W.ww hw 22 rfl) (W.ww hw 23 rfl) e0 d3_1 rfl (by decide) (Nat.le_of_ble_eq_true rfl) rfl (fun T97 X97 e97 => ?_)
  refine W.iloadN (q := 5) X97 C d3_4 rfl rfl ?_
  refine W.ifT (q := 27) X97 C d3_5 (by decide) (by decide) (by decide : W.cT .ne (3 : Int32) 0) ?_
  refine W.getS (q := 30) X97 C (W.ww hw 24 rfl) Via.refl e97 SC0 d3_27 rfl (fun T98 X98 e98 => ?_)
  refine W.ifF (q := 33) X98 C d3_30 rfl hcs ?_
  refine W.aloadN (q := 34) X98 C d3_33 rfl rfl rfl ?_
  refine W.iloadN (q := 35) X98 C d3_34 rfl rfl ?_
  refine W.iloadN (q := 36) X98 C d3_35 rfl rfl ?_
  refine W.callS (q := 39) X98 C (W.ww hw 25 rfl) (W.ww hw 26 rfl) (W.ww hw 27 rfl) (W.ww hw 28 rfl) (by decide) (rm5_3 l Z a0 hw [] p1 kc x0 x1 x2 h0 n0 Z0 Vc hx0 hx1 hx2) e98 d3_36 [(.ref p1), (.int (0 : Int32)), (.int (3 : Int32))] [] rfl rfl pd__28_5bCII_29_5bB rfl rfl (by decide) (Nat.le_of_ble_eq_true rfl) (by decide) (by decide) rfl (fun T99 w99 L99 X99 hQ99 => ?_)
  obtain ⟨b99, kb99, vs99, rfl, NL99, K99, V99⟩ := hQ99
  have N99 := Fr.app N0 NL99
  have E0_101 := E0.keep K99
  have F0a_102 := F0a.keep K99 nin0
  have F0b_103 := F0b.keep K99 nin0
  have O0_104 := O0.keep K99 all0
  have Vc_105 := Vc.keep K99 nin0
  have n0_99 : n0 ≤ T99.heap.size := Nat.le_trans Z0 K99.1
  have KK99 := K0.trans K99 all0
  have ne_p0_b99 : p0 ≠ b99 := E0_101.neArv V99 (W.ww hw 6 rfl)
  show W.Go p e below _ (T99.setTop (mkF m 39 #[.val (.ref p0), .val (.ref p1), .val (.int (0 : Int32)), .val (.int (3 : Int32)), .val .null, .unset] [(.ref b99)]))
  refine W.astore (q := 41) (L' := #[.val (.ref p0), .val (.ref p1), .val (.int (0 : Int32)), .val (.int (3 : Int32)), .val .null, .val (.ref b99)]) X99 C d3_39 rfl rfl rfl ?_
  refine W.aloadN (q := 42) X99 C d3_41 rfl rfl rfl ?_
  refine W.aload (q := 44) X99 C d3_42 rfl rfl rfl ?_
  refine W.iloadN (q := 45) X99 C d3_44 rfl rfl ?_
  refine W.callS (q := 48) X99 C (W.ww hw 32 rfl) (W.ww hw 33 rfl) (W.ww hw 27 rfl) (W.ww hw 34 rfl) (by decide) (rm7_3 l Z a0 hw [] b99 kb99 _ T99.heap n0 V99) rfl d3_45 [(.ref b99), (.int (3 : Int32))] [(.ref p0)] rfl rfl pd__28_5bBI_29B rfl rfl (by decide) (Nat.le_of_ble_eq_true rfl) (by decide) (by decide) rfl (fun T107 w107 L107 X107 hQ107 => ?_)
  obtain ⟨rfl, NL107, e107⟩ := hQ107
  have N107 := Fr.app N99 NL107
  show W.Go p e below _ (T107.setTop (mkF m 48 #[.val (.ref p0), .val (.ref p1), .val (.int (0 : Int32)), .val (.int (3 : Int32)), .val .null, .val (.ref b99)] [(.int (0 : Int32)), (.ref p0)]))
  refine W.putF (host := "") (q := 51) X107 C (Or.inl (W.ww hw 35 rfl)) Via.refl e107 F0b_103 E0_101 (Or.inr ⟨(W.ww hw 9 rfl), rfl, rfl⟩) (W.ww hw 6 rfl) (ty := .byte) (by decide) rfl rfl d3_48 rfl (fun T108 h108 X108 e108 W108 => ?_)
  have Fw108 := F0b_103.same W108
  have E0_110 := E0_101.wr W108
  have F0a_111 := F0a_102.other W108 (Or.inr (slot_ne (Or.inr (W.ww hw 8 rfl)) (Or.inr (W.ww hw 9 rfl)) (by decide) (t := (.array .byte)) (t' := .byte) (by decide) (by decide)))
  have O0_113 := O0_104.wr W108 hge
  have Vc_114 := Vc_105.other W108 (Ne.symm ne01)
  have V99_115 := V99.other W108 (Ne.symm ne_p0_b99)
  have N108 := Fr.snoc X108 N107 hge
  have K108 := KK99.wr W108 (Or.inl (by simp))
  have n0_108 : n0 ≤ h108.size := by rw [W108.size]; exact n0_99
  refine W.aloadN (q := 52) X108 C d3_51 rfl rfl rfl ?_
  refine W.aload (q := 54) X108 C d3_52 rfl rfl rfl ?_
  refine W.putF (host := "") (q := 57) X108 C (Or.inl (W.ww hw 36 rfl)) Via.refl e108 F0a_111 E0_110 (Or.inr ⟨(W.ww hw 8 rfl), rfl, rfl⟩) (W.ww hw 6 rfl) (ty := (.array .byte)) (by decide) rfl rfl d3_54 rfl (fun T116 h116 X116 e116 W116 => ?_)
  have Fw116 := F0a_111.same W116
  have E0_118 := E0_110.wr W116
  have Fw108_120 := Fw108.other W116 (Or.inr (slot_ne (Or.inr (W.ww hw 9 rfl)) (Or.inr (W.ww hw 8 rfl)) (by decide) (t := .byte) (t' := (.array .byte)) (by decide) (by decide)))
  have O0_121 := O0_113.wr W116 hge
  have Vc_122 := Vc_114.other W116 (Ne.symm ne01)
  have V99_123 := V99_115.other W116 (Ne.symm ne_p0_b99)
  have N116 := Fr.snoc X116 N108 hge
  have K116 := K108.wr W116 (Or.inl (by simp))
  have n0_116 : n0 ≤ h116.size := by rw [W116.size]; exact n0_108
  exact W.retV X116 C e116 d3_57 (by decide) (by decide) ⟨rfl, N116, K116, _, _, _, E0_118, Fw116, V99_123⟩
theorem d2_0 : decode jdk_42_method_3_code 0 = .ok (.aload_n 0, 1) := by decide +kernel
theorem d2_1 : decode jdk_42_method_3_code 1 = .ok (.aload_n 1, 1) := by decide +kernel
theorem d2_2 : decode jdk_42_method_3_code 2 = .ok (.iconst 0, 1) := by decide +kernel
theorem d2_3 : decode jdk_42_method_3_code 3 = .ok (.aload_n 1, 1) := by decide +kernel
theorem d2_4 : decode jdk_42_method_3_code 4 = .ok (.arraylength, 1) := by decide +kernel
theorem d2_5 : decode jdk_42_method_3_code 5 = .ok (.aconst_null, 1) := by decide +kernel
theorem d2_6 : decode jdk_42_method_3_code 6 = .ok (.invokespecial 27, 3) := by decide +kernel
theorem pd__28_5bCIILjava_2flang_2fVoid_3b_29V : parseMethodDescriptor "([CIILjava/lang/Void;)V" = some ⟨[(.array .char), .int, .int, (.object "java/lang/Void")], none⟩ := by decide +kernel
theorem d2_9 : decode jdk_42_method_3_code 9 = .ok (.return_, 1) := by decide +kernel
def Q2_1 (Z : State) (p0 p1 : Addr) (kc : ClassId) (x0 cs : Int32) (h0 : Heap) (n0 : Nat) (v : Option Value) (h : Heap) (L : List Loc) : Prop := v = none ∧ Fr n0 L ∧ Keep h0 h [p0] ∧ own_len Z h p0 (1 : Int32)
set_option maxRecDepth 65536 in
set_option maxHeartbeats 40000000 in
theorem rm2_1 (l : Launch) (Z : State) (a0 : Array Value) (hw : ∀ d ∈ tables_1, d.before a0 Z = true) (ws : List Jvm.Cond) (p0 p1 : Addr) (kc : ClassId) (x0 cs : Int32) (h0 : Heap) (n0 : Nat) (Z0 : n0 ≤ h0.size) (hge : n0 ≤ p0) (E0 : Exa Z h0 p0 "java/lang/String") (F0a : Fld Z h0 p0 "java/lang/String" "value" "[B" .null) (F0b : Fld Z h0 p0 "java/lang/String" "coder" "B" (.int (0 : Int32))) (Vc : Arv Z h0 p1 kc .char (1 : Int32) [(.int x0)] (.int (0 : Int32))) (hx0 : own_r8 x0) (O0 : Old Z n0 h0) (SC : Sta Z Z.heap "java/lang/String" "COMPACT_STRINGS" "Z" (.int cs)) (hcs : cs ≠ 0) :
    MetFree l (⟨"java/lang/String", "<init>", "([C)V"⟩ : MethodName) (head1 (Jvm.Cond.code (⟨"java/lang/String", "<init>", "([C)V"⟩ : MethodName) jdk_42_method_3_code 2 none :: ws) ({ frames := 3, cells := 1, slots := 3, locals := 60 } : Room)) (fun a U => a = #[(.ref p0), (.ref p1)] ∧ Z.Warmed39 U.vm ∧ U.heap = h0) (fun _ _ _ _ _ => True) (fun _ U o U' => ∃ v L, o = .returned v ∧ Q2_1 Z p0 p1 kc x0 cs h0 n0 v U'.heap L ∧ FrameEnd U o U' L ({ frames := 3, cells := 1, slots := 3, locals := 60 } : Room).cells ({ frames := 3, cells := 1, slots := 3, locals := 60 } : Room).slots) := by
  refine W.bodyOf (y := (⟨"java/lang/String", "<init>", "([C)V"⟩ : MethodName)) (as := #[(.ref p0), (.ref p1)]) (maxL := 2) (Q := Q2_1 Z p0 p1 kc x0 cs h0 n0) (Ls := #[.val (.ref p0), .val (.ref p1)]) (plainFor_of_name pn_java_lang_String) (fun m => by first | exact W.entry_of rfl | rfl | (simp [entryFrame, mkF, argsToLocals, Value.category]; done)) ?_
  intro p e s m below meth c T0 C X0 e0
  have N0 := Fr.nil n0
  have K0 := Keep.refl h0 [p0]
  have ne01 : p0 ≠ p1 := E0.neArv Vc (W.ww hw 6 rfl)
  refine W.aloadN (q := 1) X0 C d2_0 rfl rfl rfl ?_
  refine W.aloadN (q := 2) X0 C d2_1 rfl rfl rfl ?_
  refine W.iconst (q := 3) (v := 0) X0 C d2_2 rfl rfl ?_
  refine W.aloadN (q := 4) X0 C d2_3 rfl rfl rfl ?_
  refine W.arraylength (q := 5) X0 C e0 Vc d2_4 rfl ?_
  refine W.aconst (q := 6) X0 C d2_5 rfl ?_
  refine W.callI (q := 9) X0 C rfl (W.ww hw 17 rfl) (W.ww hw 18 rfl) (W.ww hw 5 rfl) (W.ww hw 20 rfl) (by decide) (rm3_1 l Z a0 hw [] p0 p1 kc x0 cs h0 n0 Z0 hge E0 F0a F0b Vc hx0 O0 SC hcs) e0 d2_6 (a := p0) [(.ref p1), (.int (0 : Int32)), (.int (1 : Int32)), .null] [] rfl rfl pd__28_5bCIILjava_2flang_2fVoid_3b_29V rfl rfl (by decide) (Nat.le_of_ble_eq_true rfl) (by decide) (by decide) rfl (fun T124 w124 L124 X124 hQ124 => ?_)
  obtain ⟨rfl, NL124, K124, Yn124⟩ := hQ124
  have N124 := Fr.app N0 NL124
  have E0_126 := E0.keep K124
  have O0_127 := O0.keep K124 (allS hge all0)
  have Vc_128 := Vc.keep K124 (ninS (Ne.symm ne01) nin0)
  have n0_124 : n0 ≤ T124.heap.size := Nat.le_trans Z0 K124.1
  have KK124 := K0.trans K124 (allS (Or.inl (List.mem_singleton.mpr rfl)) all0)
  show W.Go p e below _ (T124.setTop (mkF m 9 #[.val (.ref p0), .val (.ref p1)] []))
  exact W.retV X124 C rfl d2_9 (by decide) (by decide) ⟨rfl, N124, KK124, Yn124⟩
def Q2_2 (Z : State) (p0 p1 : Addr) (kc : ClassId) (x0 x1 cs : Int32) (h0 : Heap) (n0 : Nat) (v : Option Value) (h : Heap) (L : List Loc) : Prop := v = none ∧ Fr n0 L ∧ Keep h0 h [p0] ∧ own_len Z h p0 (2 : Int32)
set_option maxRecDepth 65536 in
set_option maxHeartbeats 40000000 in
theorem rm2_2 (l : Launch) (Z : State) (a0 : Array Value) (hw : ∀ d ∈ tables_1, d.before a0 Z = true) (ws : List Jvm.Cond) (p0 p1 : Addr) (kc : ClassId) (x0 x1 cs : Int32) (h0 : Heap) (n0 : Nat) (Z0 : n0 ≤ h0.size) (hge : n0 ≤ p0) (E0 : Exa Z h0 p0 "java/lang/String") (F0a : Fld Z h0 p0 "java/lang/String" "value" "[B" .null) (F0b : Fld Z h0 p0 "java/lang/String" "coder" "B" (.int (0 : Int32))) (Vc : Arv Z h0 p1 kc .char (2 : Int32) [(.int x0), (.int x1)] (.int (0 : Int32))) (hx0 : own_r8 x0) (hx1 : own_r8 x1) (O0 : Old Z n0 h0) (SC : Sta Z Z.heap "java/lang/String" "COMPACT_STRINGS" "Z" (.int cs)) (hcs : cs ≠ 0) :
    MetFree l (⟨"java/lang/String", "<init>", "([C)V"⟩ : MethodName) (head1 (Jvm.Cond.code (⟨"java/lang/String", "<init>", "([C)V"⟩ : MethodName) jdk_42_method_3_code 2 none :: ws) ({ frames := 3, cells := 1, slots := 3, locals := 60 } : Room)) (fun a U => a = #[(.ref p0), (.ref p1)] ∧ Z.Warmed39 U.vm ∧ U.heap = h0) (fun _ _ _ _ _ => True) (fun _ U o U' => ∃ v L, o = .returned v ∧ Q2_2 Z p0 p1 kc x0 x1 cs h0 n0 v U'.heap L ∧ FrameEnd U o U' L ({ frames := 3, cells := 1, slots := 3, locals := 60 } : Room).cells ({ frames := 3, cells := 1, slots := 3, locals := 60 } : Room).slots) := by
  refine W.bodyOf (y := (⟨"java/lang/String", "<init>", "([C)V"⟩ : MethodName)) (as := #[(.ref p0), (.ref p1)]) (maxL := 2) (Q := Q2_2 Z p0 p1 kc x0 x1 cs h0 n0) (Ls := #[.val (.ref p0), .val (.ref p1)]) (plainFor_of_name pn_java_lang_String) (fun m => by first | exact W.entry_of rfl | rfl | (simp [entryFrame, mkF, argsToLocals, Value.category]; done)) ?_
  intro p e s m below meth c T0 C X0 e0
  have N0 := Fr.nil n0
  have K0 := Keep.refl h0 [p0]
  have ne01 : p0 ≠ p1 := E0.neArv Vc (W.ww hw 6 rfl)
  refine W.aloadN (q := 1) X0 C d2_0 rfl rfl rfl ?_
  refine W.aloadN (q := 2) X0 C d2_1 rfl rfl rfl ?_
  refine W.iconst (q := 3) (v := 0) X0 C d2_2 rfl rfl ?_
  refine W.aloadN (q := 4) X0 C d2_3 rfl rfl rfl ?_
  refine W.arraylength (q := 5) X0 C e0 Vc d2_4 rfl ?_
  refine W.aconst (q := 6) X0 C d2_5 rfl ?_
  refine W.callI (q := 9) X0 C rfl (W.ww hw 17 rfl) (W.ww hw 18 rfl) (W.ww hw 5 rfl) (W.ww hw 20 rfl) (by decide) (rm3_2 l Z a0 hw [] p0 p1 kc x0 x1 cs h0 n0 Z0 hge E0 F0a F0b Vc hx0 hx1 O0 SC hcs) e0 d2_6 (a := p0) [(.ref p1), (.int (0 : Int32)), (.int (2 : Int32)), .null] [] rfl rfl pd__28_5bCIILjava_2flang_2fVoid_3b_29V rfl rfl (by decide) (Nat.le_of_ble_eq_true rfl) (by decide) (by decide) rfl (fun T129 w129 L129 X129 hQ129 => ?_)
  obtain ⟨rfl, NL129, K129, Yn129⟩ := hQ129
  have N129 := Fr.app N0 NL129
  have E0_131 := E0.keep K129
  have O0_132 := O0.keep K129 (allS hge all0)
  have Vc_133 := Vc.keep K129 (ninS (Ne.symm ne01) nin0)
  have n0_129 : n0 ≤ T129.heap.size := Nat.le_trans Z0 K129.1
  have KK129 := K0.trans K129 (allS (Or.inl (List.mem_singleton.mpr rfl)) all0)
  show W.Go p e below _ (T129.setTop (mkF m 9 #[.val (.ref p0), .val (.ref p1)] []))
  exact W.retV X129 C rfl d2_9 (by decide) (by decide) ⟨rfl, N129, KK129, Yn129⟩
def Q2_3 (Z : State) (p0 p1 : Addr) (kc : ClassId) (x0 x1 x2 cs : Int32) (h0 : Heap) (n0 : Nat) (v : Option Value) (h : Heap) (L : List Loc) : Prop := v = none ∧ Fr n0 L ∧ Keep h0 h [p0] ∧ own_len Z h p0 (3 : Int32)
set_option maxRecDepth 65536 in
set_option maxHeartbeats 40000000 in
theorem rm2_3 (l : Launch) (Z : State) (a0 : Array Value) (hw : ∀ d ∈ tables_1, d.before a0 Z = true) (ws : List Jvm.Cond) (p0 p1 : Addr) (kc : ClassId) (x0 x1 x2 cs : Int32) (h0 : Heap) (n0 : Nat) (Z0 : n0 ≤ h0.size) (hge : n0 ≤ p0) (E0 : Exa Z h0 p0 "java/lang/String") (F0a : Fld Z h0 p0 "java/lang/String" "value" "[B" .null) (F0b : Fld Z h0 p0 "java/lang/String" "coder" "B" (.int (0 : Int32))) (Vc : Arv Z h0 p1 kc .char (3 : Int32) [(.int x0), (.int x1), (.int x2)] (.int (0 : Int32))) (hx0 : own_r8 x0) (hx1 : own_r8 x1) (hx2 : own_r8 x2) (O0 : Old Z n0 h0) (SC : Sta Z Z.heap "java/lang/String" "COMPACT_STRINGS" "Z" (.int cs)) (hcs : cs ≠ 0) :
    MetFree l (⟨"java/lang/String", "<init>", "([C)V"⟩ : MethodName) (head1 (Jvm.Cond.code (⟨"java/lang/String", "<init>", "([C)V"⟩ : MethodName) jdk_42_method_3_code 2 none :: ws) ({ frames := 3, cells := 1, slots := 3, locals := 60 } : Room)) (fun a U => a = #[(.ref p0), (.ref p1)] ∧ Z.Warmed39 U.vm ∧ U.heap = h0) (fun _ _ _ _ _ => True) (fun _ U o U' => ∃ v L, o = .returned v ∧ Q2_3 Z p0 p1 kc x0 x1 x2 cs h0 n0 v U'.heap L ∧ FrameEnd U o U' L ({ frames := 3, cells := 1, slots := 3, locals := 60 } : Room).cells ({ frames := 3, cells := 1, slots := 3, locals := 60 } : Room).slots) := by
  refine W.bodyOf (y := (⟨"java/lang/String", "<init>", "([C)V"⟩ : MethodName)) (as := #[(.ref p0), (.ref p1)]) (maxL := 2) (Q := Q2_3 Z p0 p1 kc x0 x1 x2 cs h0 n0) (Ls := #[.val (.ref p0), .val (.ref p1)]) (plainFor_of_name pn_java_lang_String) (fun m => by first | exact W.entry_of rfl | rfl | (simp [entryFrame, mkF, argsToLocals, Value.category]; done)) ?_
  intro p e s m below meth c T0 C X0 e0
  have N0 := Fr.nil n0
  have K0 := Keep.refl h0 [p0]
  have ne01 : p0 ≠ p1 := E0.neArv Vc (W.ww hw 6 rfl)
  refine W.aloadN (q := 1) X0 C d2_0 rfl rfl rfl ?_
  refine W.aloadN (q := 2) X0 C d2_1 rfl rfl rfl ?_
  refine W.iconst (q := 3) (v := 0) X0 C d2_2 rfl rfl ?_
  refine W.aloadN (q := 4) X0 C d2_3 rfl rfl rfl ?_
  refine W.arraylength (q := 5) X0 C e0 Vc d2_4 rfl ?_
  refine W.aconst (q := 6) X0 C d2_5 rfl ?_
  refine W.callI (q := 9) X0 C rfl (W.ww hw 17 rfl) (W.ww hw 18 rfl) (W.ww hw 5 rfl) (W.ww hw 20 rfl) (by decide) (rm3_3 l Z a0 hw [] p0 p1 kc x0 x1 x2 cs h0 n0 Z0 hge E0 F0a F0b Vc hx0 hx1 hx2 O0 SC hcs) e0 d2_6 (a := p0) [(.ref p1), (.int (0 : Int32)), (.int (3 : Int32)), .null] [] rfl rfl pd__28_5bCIILjava_2flang_2fVoid_3b_29V rfl rfl (by decide) (Nat.le_of_ble_eq_true rfl) (by decide) (by decide) rfl (fun T134 w134 L134 X134 hQ134 => ?_)
  obtain ⟨rfl, NL134, K134, Yn134⟩ := hQ134
  have N134 := Fr.app N0 NL134
  have E0_136 := E0.keep K134
  have O0_137 := O0.keep K134 (allS hge all0)
  have Vc_138 := Vc.keep K134 (ninS (Ne.symm ne01) nin0)
  have n0_134 : n0 ≤ T134.heap.size := Nat.le_trans Z0 K134.1
  have KK134 := K0.trans K134 (allS (Or.inl (List.mem_singleton.mpr rfl)) all0)
  show W.Go p e below _ (T134.setTop (mkF m 9 #[.val (.ref p0), .val (.ref p1)] []))
  exact W.retV X134 C rfl d2_9 (by decide) (by decide) ⟨rfl, N134, KK134, Yn134⟩
theorem d9_0 : decode jdk_42_method_55_code 0 = .ok (.aload_n 0, 1) := by decide +kernel
theorem d9_1 : decode jdk_42_method_55_code 1 = .ok (.getfield 9, 3) := by decide +kernel
theorem d9_4 : decode jdk_42_method_55_code 4 = .ok (.arraylength, 1) := by decide +kernel
theorem d9_5 : decode jdk_42_method_55_code 5 = .ok (.ifCond .ne 7, 3) := by decide +kernel
theorem d9_12 : decode jdk_42_method_55_code 12 = .ok (.iconst 0, 1) := by decide +kernel
theorem d9_13 : decode jdk_42_method_55_code 13 = .ok (.ireturn, 1) := by decide +kernel
theorem d9_8 : decode jdk_42_method_55_code 8 = .ok (.iconst 1, 1) := by decide +kernel
theorem d9_9 : decode jdk_42_method_55_code 9 = .ok (.goto 4, 3) := by decide +kernel
def Q9 (Z : State) (p0 : Addr) (m_ : Int32) (h0 : Heap) (n0 : Nat) (v : Option Value) (h : Heap) (L : List Loc) : Prop := v = some (.int (if m_ = 0 then (1 : Int32) else 0)) ∧ Fr n0 L ∧ h = h0
set_option maxRecDepth 65536 in
set_option maxHeartbeats 40000000 in
theorem rm9 (l : Launch) (Z : State) (a0 : Array Value) (hw : ∀ d ∈ tables_1, d.before a0 Z = true) (ws : List Jvm.Cond) (p0 : Addr) (m_ : Int32) (h0 : Heap) (n0 : Nat) (Y0 : own_len Z h0 p0 m_) :
    MetFree l (⟨"java/lang/String", "isEmpty", "()Z"⟩ : MethodName) (head1 (Jvm.Cond.code (⟨"java/lang/String", "isEmpty", "()Z"⟩ : MethodName) jdk_42_method_55_code 1 (some .boolean) :: ws) ({ frames := 0, cells := 0, slots := 0, locals := 0 } : Room)) (fun a U => a = #[(.ref p0)] ∧ Z.Warmed39 U.vm ∧ U.heap = h0) (fun _ _ _ _ _ => True) (fun _ U o U' => ∃ v L, o = .returned v ∧ Q9 Z p0 m_ h0 n0 v U'.heap L ∧ FrameEnd U o U' L ({ frames := 0, cells := 0, slots := 0, locals := 0 } : Room).cells ({ frames := 0, cells := 0, slots := 0, locals := 0 } : Room).slots) := by
  refine W.bodyOf (y := (⟨"java/lang/String", "isEmpty", "()Z"⟩ : MethodName)) (as := #[(.ref p0)]) (maxL := 1) (Q := Q9 Z p0 m_ h0 n0) (Ls := #[.val (.ref p0)]) (plainFor_of_name pn_java_lang_String) (fun m => by first | exact W.entry_of rfl | rfl | (simp [entryFrame, mkF, argsToLocals, Value.category]; done)) ?_
  intro p e s m below meth c T0 C X0 e0
  have N0 := Fr.nil n0
  obtain ⟨b0, kb0, vs0, E0, F0, V0⟩ := Y0
  refine W.aloadN (q := 1) X0 C d9_0 rfl rfl rfl ?_
  refine W.getF (host := "") (q := 4) X0 C (Or.inl (W.ww hw 36 rfl)) Via.refl e0 F0 d9_1 rfl (fun T139 X139 e139 => ?_)
  refine W.arraylength (q := 5) X139 C e139 V0 d9_4 rfl ?_
  refine W.if_ (q := 12) (q' := 8) X139 C d9_5 (by decide) (by decide) rfl (fun hc140 => ?_) (fun hc140 => ?_)
  · replace hc140 : m_ ≠ 0 := hc140
    refine W.iconst (q := 13) (v := 0) X139 C d9_12 rfl rfl ?_
    exact W.retN X139 C (by simp) e139 d9_13 rfl (by decide) (by decide) ⟨by rw [if_neg hc140] <;> rfl, N0, rfl⟩
  · replace hc140 : m_ = 0 := hc140
    refine W.iconst (q := 9) (v := 1) X139 C d9_8 rfl rfl ?_
    refine W.goto (q := 13) X139 C d9_9 (by decide) (by decide) ?_
    exact W.retN X139 C (by simp) e139 d9_13 rfl (by decide) (by decide) ⟨by rw [if_pos hc140] <;> rfl, N0, rfl⟩
theorem own_fresh {Z : State} {vm0 vm : Vm} {h0 h : Heap} {x : Addr} (R : CHr Z own_el vm0 h0 vm h) (S : Safe Z own_el vm h x) : Safe Z own_el vm h x := S
theorem d1_0 : decode method_3_code 0 = .ok (.iload_n 0, 1) := by decide +kernel
theorem d1_1 : decode method_3_code 1 = .ok (.iconst 3, 1) := by decide +kernel
theorem d1_2 : decode method_3_code 2 = .ok (.iand, 1) := by decide +kernel
theorem d1_3 : decode method_3_code 3 = .ok (.istore_n 1, 1) := by decide +kernel
theorem d1_4 : decode method_3_code 4 = .ok (.iload_n 0, 1) := by decide +kernel
theorem d1_5 : decode method_3_code 5 = .ok (.bipush 8, 2) := by decide +kernel
theorem d1_7 : decode method_3_code 7 = .ok (.iushr, 1) := by decide +kernel
theorem d1_8 : decode method_3_code 8 = .ok (.sipush 255, 3) := by decide +kernel
theorem d1_11 : decode method_3_code 11 = .ok (.iand, 1) := by decide +kernel
theorem d1_12 : decode method_3_code 12 = .ok (.i2c, 1) := by decide +kernel
theorem d1_13 : decode method_3_code 13 = .ok (.istore_n 2, 1) := by decide +kernel
theorem d1_14 : decode method_3_code 14 = .ok (.iload_n 0, 1) := by decide +kernel
theorem d1_15 : decode method_3_code 15 = .ok (.bipush 16, 2) := by decide +kernel
theorem d1_17 : decode method_3_code 17 = .ok (.iushr, 1) := by decide +kernel
theorem d1_18 : decode method_3_code 18 = .ok (.sipush 255, 3) := by decide +kernel
theorem d1_21 : decode method_3_code 21 = .ok (.iand, 1) := by decide +kernel
theorem d1_22 : decode method_3_code 22 = .ok (.i2c, 1) := by decide +kernel
theorem d1_23 : decode method_3_code 23 = .ok (.istore_n 3, 1) := by decide +kernel
theorem d1_24 : decode method_3_code 24 = .ok (.iload_n 0, 1) := by decide +kernel
theorem d1_25 : decode method_3_code 25 = .ok (.bipush 24, 2) := by decide +kernel
theorem d1_27 : decode method_3_code 27 = .ok (.iushr, 1) := by decide +kernel
theorem d1_28 : decode method_3_code 28 = .ok (.sipush 255, 3) := by decide +kernel
theorem d1_31 : decode method_3_code 31 = .ok (.iand, 1) := by decide +kernel
theorem d1_32 : decode method_3_code 32 = .ok (.i2c, 1) := by decide +kernel
theorem d1_33 : decode method_3_code 33 = .ok (.istore 4, 2) := by decide +kernel
theorem d1_35 : decode method_3_code 35 = .ok (.iload_n 1, 1) := by decide +kernel
theorem d1_36 : decode method_3_code 36 = .ok (.ifCond .ne 6, 3) := by decide +kernel
theorem d1_39 : decode method_3_code 39 = .ok (.ldc 26, 2) := by decide +kernel
theorem d1_41 : decode method_3_code 41 = .ok (.areturn, 1) := by decide +kernel
theorem d1_42 : decode method_3_code 42 = .ok (.iload_n 1, 1) := by decide +kernel
theorem d1_43 : decode method_3_code 43 = .ok (.iconst 1, 1) := by decide +kernel
theorem d1_44 : decode method_3_code 44 = .ok (.if_icmp .ne 18, 3) := by decide +kernel
theorem d1_47 : decode method_3_code 47 = .ok (.new 14, 3) := by decide +kernel
theorem d1_50 : decode method_3_code 50 = .ok (.dup, 1) := by decide +kernel
theorem d1_51 : decode method_3_code 51 = .ok (.iconst 1, 1) := by decide +kernel
theorem d1_52 : decode method_3_code 52 = .ok (.newarray .char, 2) := by decide +kernel
theorem d1_54 : decode method_3_code 54 = .ok (.dup, 1) := by decide +kernel
theorem d1_55 : decode method_3_code 55 = .ok (.iconst 0, 1) := by decide +kernel
theorem d1_56 : decode method_3_code 56 = .ok (.iload_n 2, 1) := by decide +kernel
theorem d1_57 : decode method_3_code 57 = .ok (.castore, 1) := by decide +kernel
theorem d1_58 : decode method_3_code 58 = .ok (.invokespecial 28, 3) := by decide +kernel
theorem pd__28_5bC_29V : parseMethodDescriptor "([C)V" = some ⟨[(.array .char)], none⟩ := by decide +kernel
theorem d1_61 : decode method_3_code 61 = .ok (.areturn, 1) := by decide +kernel
theorem d1_62 : decode method_3_code 62 = .ok (.iload_n 1, 1) := by decide +kernel
theorem d1_63 : decode method_3_code 63 = .ok (.iconst 2, 1) := by decide +kernel
theorem d1_64 : decode method_3_code 64 = .ok (.if_icmp .ne 22, 3) := by decide +kernel
theorem d1_67 : decode method_3_code 67 = .ok (.new 14, 3) := by decide +kernel
theorem d1_70 : decode method_3_code 70 = .ok (.dup, 1) := by decide +kernel
theorem d1_71 : decode method_3_code 71 = .ok (.iconst 2, 1) := by decide +kernel
theorem d1_72 : decode method_3_code 72 = .ok (.newarray .char, 2) := by decide +kernel
theorem d1_74 : decode method_3_code 74 = .ok (.dup, 1) := by decide +kernel
theorem d1_75 : decode method_3_code 75 = .ok (.iconst 0, 1) := by decide +kernel
theorem d1_76 : decode method_3_code 76 = .ok (.iload_n 2, 1) := by decide +kernel
theorem d1_77 : decode method_3_code 77 = .ok (.castore, 1) := by decide +kernel
theorem d1_78 : decode method_3_code 78 = .ok (.dup, 1) := by decide +kernel
theorem d1_79 : decode method_3_code 79 = .ok (.iconst 1, 1) := by decide +kernel
theorem d1_80 : decode method_3_code 80 = .ok (.iload_n 3, 1) := by decide +kernel
theorem d1_81 : decode method_3_code 81 = .ok (.castore, 1) := by decide +kernel
theorem d1_82 : decode method_3_code 82 = .ok (.invokespecial 28, 3) := by decide +kernel
theorem d1_85 : decode method_3_code 85 = .ok (.areturn, 1) := by decide +kernel
theorem d1_86 : decode method_3_code 86 = .ok (.new 14, 3) := by decide +kernel
theorem d1_89 : decode method_3_code 89 = .ok (.dup, 1) := by decide +kernel
theorem d1_90 : decode method_3_code 90 = .ok (.iconst 3, 1) := by decide +kernel
theorem d1_91 : decode method_3_code 91 = .ok (.newarray .char, 2) := by decide +kernel
theorem d1_93 : decode method_3_code 93 = .ok (.dup, 1) := by decide +kernel
theorem d1_94 : decode method_3_code 94 = .ok (.iconst 0, 1) := by decide +kernel
theorem d1_95 : decode method_3_code 95 = .ok (.iload_n 2, 1) := by decide +kernel
theorem d1_96 : decode method_3_code 96 = .ok (.castore, 1) := by decide +kernel
theorem d1_97 : decode method_3_code 97 = .ok (.dup, 1) := by decide +kernel
theorem d1_98 : decode method_3_code 98 = .ok (.iconst 1, 1) := by decide +kernel
theorem d1_99 : decode method_3_code 99 = .ok (.iload_n 3, 1) := by decide +kernel
theorem d1_100 : decode method_3_code 100 = .ok (.castore, 1) := by decide +kernel
theorem d1_101 : decode method_3_code 101 = .ok (.dup, 1) := by decide +kernel
theorem d1_102 : decode method_3_code 102 = .ok (.iconst 2, 1) := by decide +kernel
theorem d1_103 : decode method_3_code 103 = .ok (.iload 4, 2) := by decide +kernel
theorem d1_105 : decode method_3_code 105 = .ok (.castore, 1) := by decide +kernel
theorem d1_106 : decode method_3_code 106 = .ok (.invokespecial 28, 3) := by decide +kernel
theorem d1_109 : decode method_3_code 109 = .ok (.areturn, 1) := by decide +kernel
theorem pn_com_example_orderwire_orderwire_imaging_FieldsFirstNonEmptyPinLaw : plainName "com/example/orderwire/orderwire/imaging/FieldsFirstNonEmptyPinLaw" = true := by first | (simp [plainName, overriddenIn]; done) | decide +kernel
def Q1 (Z : State) (p0 cs : Int32) (h0 : Heap) (n0 : Nat) (v : Option Value) (h : Heap) (L : List Loc) : Prop := ∃ a, v = some (.ref a) ∧ Fr n0 L ∧ Keep h0 h [] ∧ own_len Z h a (p0 &&& (3 : Int32))
set_option maxRecDepth 65536 in
set_option maxHeartbeats 40000000 in
theorem rm1 (l : Launch) (Z : State) (a0 : Array Value) (hw : ∀ d ∈ tables_1, d.before a0 Z = true) (ws : List Jvm.Cond) (p0 cs : Int32) (h0 : Heap) (n0 : Nat) (Z0 : n0 ≤ h0.size) (O0 : Old Z n0 h0) (SC : Sta Z Z.heap "java/lang/String" "COMPACT_STRINGS" "Z" (.int cs)) (hcs : cs ≠ 0) :
    MetFree l (⟨"com/example/orderwire/orderwire/imaging/FieldsFirstNonEmptyPinLaw", "make", "(I)Ljava/lang/String;"⟩ : MethodName) (head1 (Jvm.Cond.code (⟨"com/example/orderwire/orderwire/imaging/FieldsFirstNonEmptyPinLaw", "make", "(I)Ljava/lang/String;"⟩ : MethodName) method_3_code 5 (some (.object "java/lang/String")) :: ws) ({ frames := 4, cells := 3, slots := 10, locals := 80 } : Room)) (fun a U => a = #[(.int p0)] ∧ Z.Warmed39 U.vm ∧ U.heap = h0 ∧ CHv Z own_el U.vm h0) (fun _ _ _ _ _ => True) (fun _ U o U' => ∃ v L, o = .returned v ∧ Q1 Z p0 cs h0 n0 v U'.heap L ∧ CHr Z own_el U.vm U.heap U'.vm U'.heap ∧ ReturnedEndW U o U' L ({ frames := 4, cells := 3, slots := 10, locals := 80 } : Room).cells ({ frames := 4, cells := 3, slots := 10, locals := 80 } : Room).slots) := by
  refine W.bodyOfH (y := (⟨"com/example/orderwire/orderwire/imaging/FieldsFirstNonEmptyPinLaw", "make", "(I)Ljava/lang/String;"⟩ : MethodName)) (as := #[(.int p0)]) (maxL := 5) (Q := Q1 Z p0 cs h0 n0) (Ls := #[.val (.int p0), .unset, .unset, .unset, .unset]) (plainFor_of_name pn_com_example_orderwire_orderwire_imaging_FieldsFirstNonEmptyPinLaw) (fun m => by first | exact W.entry_of rfl | rfl | (simp [entryFrame, mkF, argsToLocals, Value.category]; done)) ?_
  intro p e s m below meth c T0 C X0 e0 hs hH hS0
  have R0 : CHr Z own_el s.vm s.heap s.vm h0 := by rw [hs]; exact CHr.refl hH
  have hk0 : 0 ≤ h0.size := Nat.zero_le _
  have N0 := Fr.nil n0
  have K0 := Keep.refl h0 []
  refine W.iloadN (q := 1) X0 C d1_0 rfl rfl ?_
  refine W.iconst (q := 2) (v := 3) X0 C d1_1 rfl rfl ?_
  refine W.iand (q := 3) X0 C d1_2 rfl ?_
  generalize hv141 : (p0 &&& (3 : Int32)) = v141
  refine W.istoreN (q := 4) (L' := #[.val (.int p0), .val (.int v141), .unset, .unset, .unset]) X0 C d1_3 rfl rfl ?_
  refine W.iloadN (q := 5) X0 C d1_4 rfl rfl ?_
  refine W.bipush (q := 7) (v := 8) X0 C d1_5 rfl rfl ?_
  refine W.iushr (q := 8) X0 C d1_7 rfl ?_
  refine W.sipush (q := 11) (v := 255) X0 C d1_8 rfl rfl ?_
  refine W.iand (q := 12) X0 C d1_11 rfl ?_
  refine W.i2c (q := 13) X0 C d1_12 rfl ?_
  generalize hv142 : ((((p0.toUInt32 >>> ((8 : Int32) &&& 31).toUInt32).toInt32) &&& (255 : Int32)).toUInt32.toUInt16.toUInt32.toInt32) = v142
  refine W.istoreN (q := 14) (L' := #[.val (.int p0), .val (.int v141), .val (.int v142), .unset, .unset]) X0 C d1_13 rfl rfl ?_
  have hv142 : own_r8 v142 := hv142 ▸ own_c8 _
  refine W.iloadN (q := 15) X0 C d1_14 rfl rfl ?_
  refine W.bipush (q := 17) (v := 16) X0 C d1_15 rfl rfl ?_
  refine W.iushr (q := 18) X0 C d1_17 rfl ?_
  refine W.sipush (q := 21) (v := 255) X0 C d1_18 rfl rfl ?_
  refine W.iand (q := 22) X0 C d1_21 rfl ?_
  refine W.i2c (q := 23) X0 C d1_22 rfl ?_
  generalize hv143 : ((((p0.toUInt32 >>> ((16 : Int32) &&& 31).toUInt32).toInt32) &&& (255 : Int32)).toUInt32.toUInt16.toUInt32.toInt32) = v143
  refine W.istoreN (q := 24) (L' := #[.val (.int p0), .val (.int v141), .val (.int v142), .val (.int v143), .unset]) X0 C d1_23 rfl rfl ?_
  have hv143 : own_r8 v143 := hv143 ▸ own_c8 _
  refine W.iloadN (q := 25) X0 C d1_24 rfl rfl ?_
  refine W.bipush (q := 27) (v := 24) X0 C d1_25 rfl rfl ?_
  refine W.iushr (q := 28) X0 C d1_27 rfl ?_
  refine W.sipush (q := 31) (v := 255) X0 C d1_28 rfl rfl ?_
  refine W.iand (q := 32) X0 C d1_31 rfl ?_
  refine W.i2c (q := 33) X0 C d1_32 rfl ?_
  generalize hv144 : ((((p0.toUInt32 >>> ((24 : Int32) &&& 31).toUInt32).toInt32) &&& (255 : Int32)).toUInt32.toUInt16.toUInt32.toInt32) = v144
  refine W.istore (q := 35) (L' := #[.val (.int p0), .val (.int v141), .val (.int v142), .val (.int v143), .val (.int v144)]) X0 C d1_33 rfl rfl ?_
  have hv144 : own_r8 v144 := hv144 ▸ own_c8 _
  rcases own_m3 hv141 with rfl | rfl | rfl | rfl
  · show W.Go p e below _ (T0.setTop (mkF m 35 #[.val (.int p0), .val (.int (0 : Int32)), .val (.int v142), .val (.int v143), .val (.int v144)] []))
    refine W.iloadN (q := 36) X0 C d1_35 rfl rfl ?_
    refine W.ifF (q := 39) X0 C d1_36 rfl (by decide : W.cF .ne (0 : Int32) 0) ?_
    refine W.ldcC (q := 41) (s := s) (EL := own_el) (vs := []) (z := (0 : Int32)) X0 C (W.ww hw 4 rfl) (own_wS hw) e0 hS0 hk0 (own_EL hw) (List.mem_of_getElem? (i := 1) rfl) R0.1 (by simp) (by decide) rfl d1_39 0 (by decide) (by decide) (by decide) (by decide) rfl (fun sa145 T145 h145 kk145 sb145 sk145 X145 C e145 E145 hS145 hk145 A145 fc145 fv145 V145 Rn145 => ?_)
    have O0_147 := O0.ext E145
    have K145 := K0.ext E145
    have n0_145 : n0 ≤ h145.size := Nat.le_trans Z0 E145.1
    have R_145 := R0.trans Rn145
    have Yn145 : own_len Z h145 sa145 (0 : Int32) := ⟨_, _, _, A145, fv145, V145⟩
    exact W.retAH X145 C rfl e145 rfl d1_41 (by decide) (by decide) hS145 hk145 (own_EL hw) R_145 ⟨_, rfl, N0, K145, by rw [hv141]; exact Yn145⟩
  · show W.Go p e below _ (T0.setTop (mkF m 35 #[.val (.int p0), .val (.int (1 : Int32)), .val (.int v142), .val (.int v143), .val (.int v144)] []))
    refine W.iloadN (q := 36) X0 C d1_35 rfl rfl ?_
    refine W.ifT (q := 42) X0 C d1_36 (by decide) (by decide) (by decide : W.cT .ne (1 : Int32) 0) ?_
    refine W.iloadN (q := 43) X0 C d1_42 rfl rfl ?_
    refine W.iconst (q := 44) (v := 1) X0 C d1_43 rfl rfl ?_
    refine W.icmpF (q := 47) X0 C d1_44 rfl (by decide : W.cF .ne (1 : Int32) (1 : Int32)) ?_
    refine W.newO (q := 50) X0 C (W.ww hw 12 rfl) (W.ww hw 6 rfl) (W.ww hw 5 rfl) e0 d1_47 (by decide) (by decide) rfl (fun T148 h148 b148 X148 e148 g148 E148 A148 D148 => ?_)
    have ge_b148 : n0 ≤ b148 := by rw [g148]; exact Z0
    have sz_b148 : h0.size ≤ b148 := by rw [g148]; exact K0.1
    have n0_148 : n0 ≤ h148.size := Nat.le_trans Z0 E148.1
    have R_149 := R0.trans (CHr.ext E148 R0.1)
    have hk0_151 := Nat.le_trans hk0 E148.1
    have O0_152 := O0.ext E148
    have K148 := K0.ext E148
    have F_value_153 : Fld Z h148 b148 "java/lang/String" "value" "[B" .null := D148 (Or.inr (W.ww hw 8 rfl)) (ty := (.array .byte)) (by decide)
    have F_coder_154 : Fld Z h148 b148 "java/lang/String" "coder" "B" (.int (0 : Int32)) := D148 (Or.inr (W.ww hw 9 rfl)) (ty := .byte) (by decide)
    have sf_b148 : Safe Z own_el s.vm h148 b148 := Safe.ext E148 R0.1 (Safe.new (Nat.le_of_eq g148.symm))
    refine W.dup (q := 51) X148 C d1_50 rfl rfl ?_
    refine W.iconst (q := 52) (v := 1) X148 C d1_51 rfl rfl ?_
    refine W.newarray (q := 54) X148 C (W.ww hw 13 rfl) e148 (by decide) 1 (by decide) (by decide) d1_52 (by decide) (by decide) rfl (fun T155 h155 b155 k155 X155 e155 g155 E155 V155_ => ?_)
    have ne_b148_b155 : b148 ≠ b155 := by rw [g155]; exact Nat.ne_of_lt A148.lt
    have ge_b155 : n0 ≤ b155 := by rw [g155]; exact n0_148
    have sz_b155 : h0.size ≤ b155 := by rw [g155]; exact K148.1
    have n0_155 : n0 ≤ h155.size := Nat.le_trans n0_148 E155.1
    have R_156 := R_149.trans (CHr.ext E155 R_149.1)
    have hk0_158 := Nat.le_trans hk0_151 E155.1
    have O0_159 := O0_152.ext E155
    have A148_160 := A148.ext E155
    have F_value_161 := F_value_153.ext E155
    have F_coder_162 := F_coder_154.ext E155
    have sf163 := Safe.ext E155 R_149.1 sf_b148
    have K155 := K148.ext E155
    have V155 : Arv Z h155 b155 k155 .char (1 : Int32) [(.int (0 : Int32))] (.int (0 : Int32)) := V155_
    refine W.dup (q := 55) X155 C d1_54 rfl rfl ?_
    refine W.iconst (q := 56) (v := 0) X155 C d1_55 rfl rfl ?_
    refine W.iloadN (q := 57) X155 C d1_56 rfl rfl ?_
    refine W.castore (q := 58) X155 C e155 V155  (by decide) (by decide) (Nat.le_of_ble_eq_true rfl) d1_57 rfl (fun T164 h164 X164 e164 W164 V164_ => ?_)
    rw [own_narc hv142] at V164_
    have R_165 := R_156.trans (CHr.wr W164 (Safe.arv C.2.1.alike V155 nofun) R_156.1)
    have hk0_167 := Nat.le_trans hk0_158 (Nat.le_of_eq W164.size.symm)
    have O0_168 := O0_159.wr W164 ge_b155
    have A148_169 := A148_160.wr W164
    have F_value_170 := F_value_161.other W164 (Or.inl ne_b148_b155)
    have F_coder_171 := F_coder_162.other W164 (Or.inl ne_b148_b155)
    have sf173 := Safe.wr W164 (Safe.arv C.2.1.alike V155 nofun) R_156.1 sf163
    have V164 : Arv Z h164 b155 k155 .char (1 : Int32) [(.int v142)] (.int (0 : Int32)) := V164_
    have N164 := Fr.snoc X164 N0 ge_b155
    have K164 := K155.wr W164 (Or.inr sz_b155)
    have n0_164 : n0 ≤ h164.size := by rw [W164.size]; exact n0_155
    refine W.callI (q := 61) X164 C rfl (W.ww hw 14 rfl) (W.ww hw 15 rfl) (W.ww hw 5 rfl) (W.ww hw 16 rfl) (by decide) (rm2_1 l Z a0 hw [] b148 b155 k155 v142 cs h164 n0 n0_164 ge_b148 A148_169 F_value_170 F_coder_171 V164 hv142 O0_168 SC hcs) e164 d1_58 (a := b148) [(.ref b155)] [(.ref b148)] rfl rfl pd__28_5bC_29V rfl rfl (by decide) (Nat.le_of_ble_eq_true rfl) (by decide) (by decide) rfl (fun T174 w174 L174 X174 hQ174 => ?_)
    obtain ⟨rfl, NL174, K174, Yn174⟩ := hQ174
    have N174 := Fr.app N164 NL174
    have R_175 := R_165.trans (CHr.keep K174 (sfS sf173 sf0) R_165.1)
    have hk0_177 := Nat.le_trans hk0_167 K174.1
    have O0_178 := O0_168.keep K174 (allS ge_b148 all0)
    have A148_179 := A148_169.keep K174
    have V164_180 := V164.keep K174 (ninS (Ne.symm ne_b148_b155) nin0)
    have sf181 := Safe.keep K174 (sfS sf173 sf0) R_165.1 sf173
    have n0_174 : n0 ≤ T174.heap.size := Nat.le_trans n0_164 K174.1
    have KK174 := K164.trans K174 (allS (Or.inr sz_b148) all0)
    show W.Go p e below _ (T174.setTop (mkF m 61 #[.val (.int p0), .val (.int (1 : Int32)), .val (.int v142), .val (.int v143), .val (.int v144)] [(.ref b148)]))
    exact W.retAH X174 C rfl rfl rfl d1_61 (by decide) (by decide) hS0 hk0_177 (own_EL hw) R_175 ⟨_, rfl, N174, KK174, by rw [hv141]; exact Yn174⟩
  · show W.Go p e below _ (T0.setTop (mkF m 35 #[.val (.int p0), .val (.int (2 : Int32)), .val (.int v142), .val (.int v143), .val (.int v144)] []))
    refine W.iloadN (q := 36) X0 C d1_35 rfl rfl ?_
    refine W.ifT (q := 42) X0 C d1_36 (by decide) (by decide) (by decide : W.cT .ne (2 : Int32) 0) ?_
    refine W.iloadN (q := 43) X0 C d1_42 rfl rfl ?_
    refine W.iconst (q := 44) (v := 1) X0 C d1_43 rfl rfl ?_
    refine W.icmpT (q := 62) X0 C d1_44 (by decide) (by decide) (by decide : W.cT .ne (2 : Int32) (1 : Int32)) ?_
    refine W.iloadN (q := 63) X0 C d1_62 rfl rfl ?_
    refine W.iconst (q := 64) (v := 2) X0 C d1_63 rfl rfl ?_
    refine W.icmpF (q := 67) X0 C d1_64 rfl (by decide : W.cF .ne (2 : Int32) (2 : Int32)) ?_
    refine W.newO (q := 70) X0 C (W.ww hw 12 rfl) (W.ww hw 6 rfl) (W.ww hw 5 rfl) e0 d1_67 (by decide) (by decide) rfl (fun T182 h182 b182 X182 e182 g182 E182 A182 D182 => ?_)
    have ge_b182 : n0 ≤ b182 := by rw [g182]; exact Z0
    have sz_b182 : h0.size ≤ b182 := by rw [g182]; exact K0.1
    have n0_182 : n0 ≤ h182.size := Nat.le_trans Z0 E182.1
    have R_183 := R0.trans (CHr.ext E182 R0.1)
    have hk0_185 := Nat.le_trans hk0 E182.1
    have O0_186 := O0.ext E182
    have K182 := K0.ext E182
    have F_value_187 : Fld Z h182 b182 "java/lang/String" "value" "[B" .null := D182 (Or.inr (W.ww hw 8 rfl)) (ty := (.array .byte)) (by decide)
    have F_coder_188 : Fld Z h182 b182 "java/lang/String" "coder" "B" (.int (0 : Int32)) := D182 (Or.inr (W.ww hw 9 rfl)) (ty := .byte) (by decide)
    have sf_b182 : Safe Z own_el s.vm h182 b182 := Safe.ext E182 R0.1 (Safe.new (Nat.le_of_eq g182.symm))
    refine W.dup (q := 71) X182 C d1_70 rfl rfl ?_
    refine W.iconst (q := 72) (v := 2) X182 C d1_71 rfl rfl ?_
    refine W.newarray (q := 74) X182 C (W.ww hw 13 rfl) e182 (by decide) 2 (by decide) (by decide) d1_72 (by decide) (by decide) rfl (fun T189 h189 b189 k189 X189 e189 g189 E189 V189_ => ?_)
    have ne_b182_b189 : b182 ≠ b189 := by rw [g189]; exact Nat.ne_of_lt A182.lt
    have ge_b189 : n0 ≤ b189 := by rw [g189]; exact n0_182
    have sz_b189 : h0.size ≤ b189 := by rw [g189]; exact K182.1
    have n0_189 : n0 ≤ h189.size := Nat.le_trans n0_182 E189.1
    have R_190 := R_183.trans (CHr.ext E189 R_183.1)
    have hk0_192 := Nat.le_trans hk0_185 E189.1
    have O0_193 := O0_186.ext E189
    have A182_194 := A182.ext E189
    have F_value_195 := F_value_187.ext E189
    have F_coder_196 := F_coder_188.ext E189
    have sf197 := Safe.ext E189 R_183.1 sf_b182
    have K189 := K182.ext E189
    have V189 : Arv Z h189 b189 k189 .char (2 : Int32) [(.int (0 : Int32)), (.int (0 : Int32))] (.int (0 : Int32)) := V189_
    refine W.dup (q := 75) X189 C d1_74 rfl rfl ?_
    refine W.iconst (q := 76) (v := 0) X189 C d1_75 rfl rfl ?_
    refine W.iloadN (q := 77) X189 C d1_76 rfl rfl ?_
    refine W.castore (q := 78) X189 C e189 V189  (by decide) (by decide) (Nat.le_of_ble_eq_true rfl) d1_77 rfl (fun T198 h198 X198 e198 W198 V198_ => ?_)
    rw [own_narc hv142] at V198_
    have R_199 := R_190.trans (CHr.wr W198 (Safe.arv C.2.1.alike V189 nofun) R_190.1)
    have hk0_201 := Nat.le_trans hk0_192 (Nat.le_of_eq W198.size.symm)
    have O0_202 := O0_193.wr W198 ge_b189
    have A182_203 := A182_194.wr W198
    have F_value_204 := F_value_195.other W198 (Or.inl ne_b182_b189)
    have F_coder_205 := F_coder_196.other W198 (Or.inl ne_b182_b189)
    have sf207 := Safe.wr W198 (Safe.arv C.2.1.alike V189 nofun) R_190.1 sf197
    have V198 : Arv Z h198 b189 k189 .char (2 : Int32) [(.int v142), (.int (0 : Int32))] (.int (0 : Int32)) := V198_
    have N198 := Fr.snoc X198 N0 ge_b189
    have K198 := K189.wr W198 (Or.inr sz_b189)
    have n0_198 : n0 ≤ h198.size := by rw [W198.size]; exact n0_189
    refine W.dup (q := 79) X198 C d1_78 rfl rfl ?_
    refine W.iconst (q := 80) (v := 1) X198 C d1_79 rfl rfl ?_
    refine W.iloadN (q := 81) X198 C d1_80 rfl rfl ?_
    refine W.castore (q := 82) X198 C e198 V198  (by decide) (by decide) (Nat.le_of_ble_eq_true rfl) d1_81 rfl (fun T208 h208 X208 e208 W208 V208_ => ?_)
    rw [own_narc hv143] at V208_
    have R_209 := R_199.trans (CHr.wr W208 (Safe.arv C.2.1.alike V198 nofun) R_199.1)
    have hk0_211 := Nat.le_trans hk0_201 (Nat.le_of_eq W208.size.symm)
    have O0_212 := O0_202.wr W208 ge_b189
    have A182_213 := A182_203.wr W208
    have F_value_214 := F_value_204.other W208 (Or.inl ne_b182_b189)
    have F_coder_215 := F_coder_205.other W208 (Or.inl ne_b182_b189)
    have sf217 := Safe.wr W208 (Safe.arv C.2.1.alike V198 nofun) R_199.1 sf207
    have V208 : Arv Z h208 b189 k189 .char (2 : Int32) [(.int v142), (.int v143)] (.int (0 : Int32)) := V208_
    have N208 := Fr.snoc X208 N198 ge_b189
    have K208 := K198.wr W208 (Or.inr sz_b189)
    have n0_208 : n0 ≤ h208.size := by rw [W208.size]; exact n0_198
    refine W.callI (q := 85) X208 C rfl (W.ww hw 14 rfl) (W.ww hw 15 rfl) (W.ww hw 5 rfl) (W.ww hw 16 rfl) (by decide) (rm2_2 l Z a0 hw [] b182 b189 k189 v142 v143 cs h208 n0 n0_208 ge_b182 A182_213 F_value_214 F_coder_215 V208 hv142 hv143 O0_212 SC hcs) e208 d1_82 (a := b182) [(.ref b189)] [(.ref b182)] rfl rfl pd__28_5bC_29V rfl rfl (by decide) (Nat.le_of_ble_eq_true rfl) (by decide) (by decide) rfl (fun T218 w218 L218 X218 hQ218 => ?_)
    obtain ⟨rfl, NL218, K218, Yn218⟩ := hQ218
    have N218 := Fr.app N208 NL218
    have R_219 := R_209.trans (CHr.keep K218 (sfS sf217 sf0) R_209.1)
    have hk0_221 := Nat.le_trans hk0_211 K218.1
    have O0_222 := O0_212.keep K218 (allS ge_b182 all0)
    have A182_223 := A182_213.keep K218
    have V208_224 := V208.keep K218 (ninS (Ne.symm ne_b182_b189) nin0)
    have sf225 := Safe.keep K218 (sfS sf217 sf0) R_209.1 sf217
    have n0_218 : n0 ≤ T218.heap.size := Nat.le_trans n0_208 K218.1
    have KK218 := K208.trans K218 (allS (Or.inr sz_b182) all0)
    show W.Go p e below _ (T218.setTop (mkF m 85 #[.val (.int p0), .val (.int (2 : Int32)), .val (.int v142), .val (.int v143), .val (.int v144)] [(.ref b182)]))
    exact W.retAH X218 C rfl rfl rfl d1_85 (by decide) (by decide) hS0 hk0_221 (own_EL hw) R_219 ⟨_, rfl, N218, KK218, by rw [hv141]; exact Yn218⟩
  · show W.Go p e below _ (T0.setTop (mkF m 35 #[.val (.int p0), .val (.int (3 : Int32)), .val (.int v142), .val (.int v143), .val (.int v144)] []))
    refine W.iloadN (q := 36) X0 C d1_35 rfl rfl ?_
    refine W.ifT (q := 42) X0 C d1_36 (by decide) (by decide) (by decide : W.cT .ne (3 : Int32) 0) ?_
    refine W.iloadN (q := 43) X0 C d1_42 rfl rfl ?_
    refine W.iconst (q := 44) (v := 1) X0 C d1_43 rfl rfl ?_
    refine W.icmpT (q := 62) X0 C d1_44 (by decide) (by decide) (by decide : W.cT .ne (3 : Int32) (1 : Int32)) ?_
    refine W.iloadN (q := 63) X0 C d1_62 rfl rfl ?_
    refine W.iconst (q := 64) (v := 2) X0 C d1_63 rfl rfl ?_
    refine W.icmpT (q := 86) X0 C d1_64 (by decide) (by decide) (by decide : W.cT .ne (3 : Int32) (2 : Int32)) ?_
    refine W.newO (q := 89) X0 C (W.ww hw 12 rfl) (W.ww hw 6 rfl) (W.ww hw 5 rfl) e0 d1_86 (by decide) (by decide) rfl (fun T226 h226 b226 X226 e226 g226 E226 A226 D226 => ?_)
    have ge_b226 : n0 ≤ b226 := by rw [g226]; exact Z0
    have sz_b226 : h0.size ≤ b226 := by rw [g226]; exact K0.1
    have n0_226 : n0 ≤ h226.size := Nat.le_trans Z0 E226.1
    have R_227 := R0.trans (CHr.ext E226 R0.1)
    have hk0_229 := Nat.le_trans hk0 E226.1
    have O0_230 := O0.ext E226
    have K226 := K0.ext E226
    have F_value_231 : Fld Z h226 b226 "java/lang/String" "value" "[B" .null := D226 (Or.inr (W.ww hw 8 rfl)) (ty := (.array .byte)) (by decide)
    have F_coder_232 : Fld Z h226 b226 "java/lang/String" "coder" "B" (.int (0 : Int32)) := D226 (Or.inr (W.ww hw 9 rfl)) (ty := .byte) (by decide)
    have sf_b226 : Safe Z own_el s.vm h226 b226 := Safe.ext E226 R0.1 (Safe.new (Nat.le_of_eq g226.symm))
    refine W.dup (q := 90) X226 C d1_89 rfl rfl ?_
    refine W.iconst (q := 91) (v := 3) X226 C d1_90 rfl rfl ?_
    refine W.newarray (q := 93) X226 C (W.ww hw 13 rfl) e226 (by decide) 3 (by decide) (by decide) d1_91 (by decide) (by decide) rfl (fun T233 h233 b233 k233 X233 e233 g233 E233 V233_ => ?_)
    have ne_b226_b233 : b226 ≠ b233 := by rw [g233]; exact Nat.ne_of_lt A226.lt
    have ge_b233 : n0 ≤ b233 := by rw [g233]; exact n0_226
    have sz_b233 : h0.size ≤ b233 := by rw [g233]; exact K226.1
    have n0_233 : n0 ≤ h233.size := Nat.le_trans n0_226 E233.1
    have R_234 := R_227.trans (CHr.ext E233 R_227.1)
    have hk0_236 := Nat.le_trans hk0_229 E233.1
    have O0_237 := O0_230.ext E233
    have A226_238 := A226.ext E233
    have F_value_239 := F_value_231.ext E233
    have F_coder_240 := F_coder_232.ext E233
    have sf241 := Safe.ext E233 R_227.1 sf_b226
    have K233 := K226.ext E233
    have V233 : Arv Z h233 b233 k233 .char (3 : Int32) [(.int (0 : Int32)), (.int (0 : Int32)), (.int (0 : Int32))] (.int (0 : Int32)) := V233_
    refine W.dup (q := 94) X233 C d1_93 rfl rfl ?_
    refine W.iconst (q := 95) (v := 0) X233 C d1_94 rfl rfl ?_
    refine W.iloadN (q := 96) X233 C d1_95 rfl rfl ?_
    refine W.castore (q := 97) X233 C e233 V233  (by decide) (by decide) (Nat.le_of_ble_eq_true rfl) d1_96 rfl (fun T242 h242 X242 e242 W242 V242_ => ?_)
    rw [own_narc hv142] at V242_
    have R_243 := R_234.trans (CHr.wr W242 (Safe.arv C.2.1.alike V233 nofun) R_234.1)
    have hk0_245 := Nat.le_trans hk0_236 (Nat.le_of_eq W242.size.symm)
    have O0_246 := O0_237.wr W242 ge_b233
    have A226_247 := A226_238.wr W242
    have F_value_248 := F_value_239.other W242 (Or.inl ne_b226_b233)
    have F_coder_249 := F_coder_240.other W242 (Or.inl ne_b226_b233)
    have sf251 := Safe.wr W242 (Safe.arv C.2.1.alike V233 nofun) R_234.1 sf241
    have V242 : Arv Z h242 b233 k233 .char (3 : Int32) [(.int v142), (.int (0 : Int32)), (.int (0 : Int32))] (.int (0 : Int32)) := V242_
    have N242 := Fr.snoc X242 N0 ge_b233
    have K242 := K233.wr W242 (Or.inr sz_b233)
    have n0_242 : n0 ≤ h242.size := by rw [W242.size]; exact n0_233
    refine W.dup (q := 98) X242 C d1_97 rfl rfl ?_
    refine W.iconst (q := 99) (v := 1) X242 C d1_98 rfl rfl ?_
    refine W.iloadN (q := 100) X242 C d1_99 rfl rfl ?_
    refine W.castore (q := 101) X242 C e242 V242  (by decide) (by decide) (Nat.le_of_ble_eq_true rfl) d1_100 rfl (fun T252 h252 X252 e252 W252 V252_ => ?_)
    rw [own_narc hv143] at V252_
    have R_253 := R_243.trans (CHr.wr W252 (Safe.arv C.2.1.alike V242 nofun) R_243.1)
    have hk0_255 := Nat.le_trans hk0_245 (Nat.le_of_eq W252.size.symm)
    have O0_256 := O0_246.wr W252 ge_b233
    have A226_257 := A226_247.wr W252
    have F_value_258 := F_value_248.other W252 (Or.inl ne_b226_b233)
    have F_coder_259 := F_coder_249.other W252 (Or.inl ne_b226_b233)
    have sf261 := Safe.wr W252 (Safe.arv C.2.1.alike V242 nofun) R_243.1 sf251
    have V252 : Arv Z h252 b233 k233 .char (3 : Int32) [(.int v142), (.int v143), (.int (0 : Int32))] (.int (0 : Int32)) := V252_
    have N252 := Fr.snoc X252 N242 ge_b233
    have K252 := K242.wr W252 (Or.inr sz_b233)
    have n0_252 : n0 ≤ h252.size := by rw [W252.size]; exact n0_242
    refine W.dup (q := 102) X252 C d1_101 rfl rfl ?_
    refine W.iconst (q := 103) (v := 2) X252 C d1_102 rfl rfl ?_
    refine W.iload (q := 105) X252 C d1_103 rfl rfl ?_
    refine W.castore (q := 106) X252 C e252 V252  (by decide) (by decide) (Nat.le_of_ble_eq_true rfl) d1_105 rfl (fun T262 h262 X262 e262 W262 V262_ => ?_)
    rw [own_narc hv144] at V262_
    have R_263 := R_253.trans (CHr.wr W262 (Safe.arv C.2.1.alike V252 nofun) R_253.1)
    have hk0_265 := Nat.le_trans hk0_255 (Nat.le_of_eq W262.size.symm)
    have O0_266 := O0_256.wr W262 ge_b233
    have A226_267 := A226_257.wr W262
    have F_value_268 := F_value_258.other W262 (Or.inl ne_b226_b233)
    have F_coder_269 := F_coder_259.other W262 (Or.inl ne_b226_b233)
    have sf271 := Safe.wr W262 (Safe.arv C.2.1.alike V252 nofun) R_253.1 sf261
    have V262 : Arv Z h262 b233 k233 .char (3 : Int32) [(.int v142), (.int v143), (.int v144)] (.int (0 : Int32)) := V262_
    have N262 := Fr.snoc X262 N252 ge_b233
    have K262 := K252.wr W262 (Or.inr sz_b233)
    have n0_262 : n0 ≤ h262.size := by rw [W262.size]; exact n0_252
    refine W.callI (q := 109) X262 C rfl (W.ww hw 14 rfl) (W.ww hw 15 rfl) (W.ww hw 5 rfl) (W.ww hw 16 rfl) (by decide) (rm2_3 l Z a0 hw [] b226 b233 k233 v142 v143 v144 cs h262 n0 n0_262 ge_b226 A226_267 F_value_268 F_coder_269 V262 hv142 hv143 hv144 O0_266 SC hcs) e262 d1_106 (a := b226) [(.ref b233)] [(.ref b226)] rfl rfl pd__28_5bC_29V rfl rfl (by decide) (Nat.le_of_ble_eq_true rfl) (by decide) (by decide) rfl (fun T272 w272 L272 X272 hQ272 => ?_)
    obtain ⟨rfl, NL272, K272, Yn272⟩ := hQ272
    have N272 := Fr.app N262 NL272
    have R_273 := R_263.trans (CHr.keep K272 (sfS sf271 sf0) R_263.1)
    have hk0_275 := Nat.le_trans hk0_265 K272.1
    have O0_276 := O0_266.keep K272 (allS ge_b226 all0)
    have A226_277 := A226_267.keep K272
    have V262_278 := V262.keep K272 (ninS (Ne.symm ne_b226_b233) nin0)
    have sf279 := Safe.keep K272 (sfS sf271 sf0) R_263.1 sf271
    have n0_272 : n0 ≤ T272.heap.size := Nat.le_trans n0_262 K272.1
    have KK272 := K262.trans K272 (allS (Or.inr sz_b226) all0)
    show W.Go p e below _ (T272.setTop (mkF m 109 #[.val (.int p0), .val (.int (3 : Int32)), .val (.int v142), .val (.int v143), .val (.int v144)] [(.ref b226)]))
    exact W.retAH X272 C rfl rfl rfl d1_109 (by decide) (by decide) hS0 hk0_275 (own_EL hw) R_273 ⟨_, rfl, N272, KK272, by rw [hv141]; exact Yn272⟩
theorem d8_0 : decode prog_28_method_3_code 0 = .ok (.aload_n 0, 1) := by decide +kernel
theorem d8_1 : decode prog_28_method_3_code 1 = .ok (.astore_n 1, 1) := by decide +kernel
theorem d8_2 : decode prog_28_method_3_code 2 = .ok (.aload_n 1, 1) := by decide +kernel
theorem d8_3 : decode prog_28_method_3_code 3 = .ok (.arraylength, 1) := by decide +kernel
theorem d8_4 : decode prog_28_method_3_code 4 = .ok (.istore_n 2, 1) := by decide +kernel
theorem d8_5 : decode prog_28_method_3_code 5 = .ok (.iconst 0, 1) := by decide +kernel
theorem d8_6 : decode prog_28_method_3_code 6 = .ok (.istore_n 3, 1) := by decide +kernel
theorem d8_7 : decode prog_28_method_3_code 7 = .ok (.iload_n 3, 1) := by decide +kernel
theorem d8_8 : decode prog_28_method_3_code 8 = .ok (.iload_n 2, 1) := by decide +kernel
theorem d8_9 : decode prog_28_method_3_code 9 = .ok (.if_icmp .ge 25, 3) := by decide +kernel
theorem d8_34 : decode prog_28_method_3_code 34 = .ok (.ldc 44, 2) := by decide +kernel
theorem d8_36 : decode prog_28_method_3_code 36 = .ok (.areturn, 1) := by decide +kernel
theorem pn_com_example_orderwire_orderwire_imaging_Fields : plainName "com/example/orderwire/orderwire/imaging/Fields" = true := by first | (simp [plainName, overriddenIn]; done) | decide +kernel
def Q8_0 (Z : State) (p0 : Addr) (ka : ClassId) (h0 : Heap) (n0 : Nat) (v : Option Value) (h : Heap) (L : List Loc) : Prop := ∃ r, v = some (.ref r) ∧ Fr n0 L ∧ Keep h0 h [] ∧ ((own_len Z h r (0 : Int32)))
set_option maxRecDepth 65536 in
set_option maxHeartbeats 40000000 in
theorem rm8_0 (l : Launch) (Z : State) (a0 : Array Value) (hw : ∀ d ∈ tables_1, d.before a0 Z = true) (ws : List Jvm.Cond) (p0 : Addr) (ka : ClassId) (h0 : Heap) (n0 : Nat) (Z0 : n0 ≤ h0.size) (V0 : Arv Z h0 p0 ka (.object "java/lang/String") (0 : Int32) [] .null) :
    MetFree l (⟨"com/example/orderwire/orderwire/imaging/Fields", "firstNonEmpty", "([Ljava/lang/String;)Ljava/lang/String;"⟩ : MethodName) (head1 (Jvm.Cond.code (⟨"com/example/orderwire/orderwire/imaging/Fields", "firstNonEmpty", "([Ljava/lang/String;)Ljava/lang/String;"⟩ : MethodName) prog_28_method_3_code 5 (some (.object "java/lang/String")) :: ws) ({ frames := 1, cells := 2, slots := 4, locals := 14 } : Room)) (fun a U => a = #[(.ref p0)] ∧ Z.Warmed39 U.vm ∧ U.heap = h0 ∧ CHv Z own_el U.vm h0) (fun _ _ _ _ _ => True) (fun _ U o U' => ∃ v L, o = .returned v ∧ Q8_0 Z p0 ka h0 n0 v U'.heap L ∧ CHr Z own_el U.vm U.heap U'.vm U'.heap ∧ ReturnedEndW U o U' L ({ frames := 1, cells := 2, slots := 4, locals := 14 } : Room).cells ({ frames := 1, cells := 2, slots := 4, locals := 14 } : Room).slots) := by
  refine W.bodyOfH (y := (⟨"com/example/orderwire/orderwire/imaging/Fields", "firstNonEmpty", "([Ljava/lang/String;)Ljava/lang/String;"⟩ : MethodName)) (as := #[(.ref p0)]) (maxL := 5) (Q := Q8_0 Z p0 ka h0 n0) (Ls := #[.val (.ref p0), .unset, .unset, .unset, .unset]) (plainFor_of_name pn_com_example_orderwire_orderwire_imaging_Fields) (fun m => by first | exact W.entry_of rfl | rfl | (simp [entryFrame, mkF, argsToLocals, Value.category]; done)) ?_
  intro p e s m below meth c T0 C X0 e0 hs hH hS0
  have R0 : CHr Z own_el s.vm s.heap s.vm h0 := by rw [hs]; exact CHr.refl hH
  have hk0 : 0 ≤ h0.size := Nat.zero_le _
  have N0 := Fr.nil n0
  have K0 := Keep.refl h0 []
  refine W.aloadN (q := 1) X0 C d8_0 rfl rfl rfl ?_
  refine W.astoreN (q := 2) (L' := #[.val (.ref p0), .val (.ref p0), .unset, .unset, .unset]) X0 C d8_1 rfl rfl rfl ?_
  refine W.aloadN (q := 3) X0 C d8_2 rfl rfl rfl ?_
  refine W.arraylength (q := 4) X0 C e0 V0 d8_3 rfl ?_
  refine W.istoreN (q := 5) (L' := #[.val (.ref p0), .val (.ref p0), .val (.int (0 : Int32)), .unset, .unset]) X0 C d8_4 rfl rfl ?_
  refine W.iconst (q := 6) (v := 0) X0 C d8_5 rfl rfl ?_
  refine W.istoreN (q := 7) (L' := #[.val (.ref p0), .val (.ref p0), .val (.int (0 : Int32)), .val (.int (0 : Int32)), .unset]) X0 C d8_6 rfl rfl ?_
  refine W.iloadN (q := 8) X0 C d8_7 rfl rfl ?_
  refine W.iloadN (q := 9) X0 C d8_8 rfl rfl ?_
  refine W.icmpT (q := 34) X0 C d8_9 (by decide) (by decide) (by decide : W.cT .ge (0 : Int32) (0 : Int32)) ?_
  refine W.ldcC (q := 36) (s := s) (EL := own_el) (vs := []) (z := (0 : Int32)) X0 C (W.ww hw 43 rfl) (own_wS hw) e0 hS0 hk0 (own_EL hw) (List.mem_of_getElem? (i := 0) rfl) R0.1 (by simp) (by decide) rfl d8_34 0 (by decide) (by decide) (by decide) (by decide) rfl (fun sa280 T280 h280 kk280 sb280 sk280 X280 C e280 E280 hS280 hk280 A280 fc280 fv280 V280 Rn280 => ?_)
  have V0_282 := V0.ext E280
  have K280 := K0.ext E280
  have n0_280 : n0 ≤ h280.size := Nat.le_trans Z0 E280.1
  have R_280 := R0.trans Rn280
  have Yn280 : own_len Z h280 sa280 (0 : Int32) := ⟨_, _, _, A280, fv280, V280⟩
  exact W.retAH X280 C rfl e280 rfl d8_36 (by decide) (by decide) hS280 hk280 (own_EL hw) R_280 ⟨_, rfl, N0, K280, Yn280⟩
theorem d8_12 : decode prog_28_method_3_code 12 = .ok (.aload_n 1, 1) := by decide +kernel
theorem d8_13 : decode prog_28_method_3_code 13 = .ok (.iload_n 3, 1) := by decide +kernel
theorem d8_14 : decode prog_28_method_3_code 14 = .ok (.aaload, 1) := by decide +kernel
theorem d8_15 : decode prog_28_method_3_code 15 = .ok (.astore 4, 2) := by decide +kernel
theorem d8_17 : decode prog_28_method_3_code 17 = .ok (.aload 4, 2) := by decide +kernel
theorem d8_19 : decode prog_28_method_3_code 19 = .ok (.invokevirtual 41, 3) := by decide +kernel
theorem pd__28_29Z : parseMethodDescriptor "()Z" = some ⟨[], some .boolean⟩ := by decide +kernel
theorem d8_22 : decode prog_28_method_3_code 22 = .ok (.ifCond .ne 6, 3) := by decide +kernel
theorem d8_28 : decode prog_28_method_3_code 28 = .ok (.iinc 3 1, 3) := by decide +kernel
theorem d8_31 : decode prog_28_method_3_code 31 = .ok (.goto (-24), 3) := by decide +kernel
theorem d8_25 : decode prog_28_method_3_code 25 = .ok (.aload 4, 2) := by decide +kernel
theorem d8_27 : decode prog_28_method_3_code 27 = .ok (.areturn, 1) := by decide +kernel
def Q8_1 (Z : State) (p0 : Addr) (ka : ClassId) (s0 : Addr) (m0 : Int32) (h0 : Heap) (n0 : Nat) (v : Option Value) (h : Heap) (L : List Loc) : Prop := ∃ r, v = some (.ref r) ∧ Fr n0 L ∧ Keep h0 h [] ∧ ((m0 ≠ 0 ∧ r = s0) ∨ (m0 = 0 ∧ own_len Z h r (0 : Int32)))
set_option maxRecDepth 65536 in
set_option maxHeartbeats 40000000 in
theorem rm8_1 (l : Launch) (Z : State) (a0 : Array Value) (hw : ∀ d ∈ tables_1, d.before a0 Z = true) (ws : List Jvm.Cond) (p0 : Addr) (ka : ClassId) (s0 : Addr) (m0 : Int32) (h0 : Heap) (n0 : Nat) (Z0 : n0 ≤ h0.size) (V0 : Arv Z h0 p0 ka (.object "java/lang/String") (1 : Int32) [(.ref s0)] .null) (Y0 : own_len Z h0 s0 m0) :
    MetFree l (⟨"com/example/orderwire/orderwire/imaging/Fields", "firstNonEmpty", "([Ljava/lang/String;)Ljava/lang/String;"⟩ : MethodName) (head1 (Jvm.Cond.code (⟨"com/example/orderwire/orderwire/imaging/Fields", "firstNonEmpty", "([Ljava/lang/String;)Ljava/lang/String;"⟩ : MethodName) prog_28_method_3_code 5 (some (.object "java/lang/String")) :: ws) ({ frames := 1, cells := 2, slots := 4, locals := 14 } : Room)) (fun a U => a = #[(.ref p0)] ∧ Z.Warmed39 U.vm ∧ U.heap = h0 ∧ CHv Z own_el U.vm h0) (fun _ _ _ _ _ => True) (fun _ U o U' => ∃ v L, o = .returned v ∧ Q8_1 Z p0 ka s0 m0 h0 n0 v U'.heap L ∧ CHr Z own_el U.vm U.heap U'.vm U'.heap ∧ ReturnedEndW U o U' L ({ frames := 1, cells := 2, slots := 4, locals := 14 } : Room).cells ({ frames := 1, cells := 2, slots := 4, locals := 14 } : Room).slots) := by
  refine W.bodyOfH (y := (⟨"com/example/orderwire/orderwire/imaging/Fields", "firstNonEmpty", "([Ljava/lang/String;)Ljava/lang/String;"⟩ : MethodName)) (as := #[(.ref p0)]) (maxL := 5) (Q := Q8_1 Z p0 ka s0 m0 h0 n0) (Ls := #[.val (.ref p0), .unset, .unset, .unset, .unset]) (plainFor_of_name pn_com_example_orderwire_orderwire_imaging_Fields) (fun m => by first | exact W.entry_of rfl | rfl | (simp [entryFrame, mkF, argsToLocals, Value.category]; done)) ?_
  intro p e s m below meth c T0 C X0 e0 hs hH hS0
  have R0 : CHr Z own_el s.vm s.heap s.vm h0 := by rw [hs]; exact CHr.refl hH
  have hk0 : 0 ≤ h0.size := Nat.zero_le _
  have N0 := Fr.nil n0
  have K0 := Keep.refl h0 []
  have Ey0 := Y0.exa
  refine W.aloadN (q := 1) X0 C d8_0 rfl rfl rfl ?_
  refine W.astoreN (q := 2) (L' := #[.val (.ref p0), .val (.ref p0), .unset, .unset, .unset]) X0 C d8_1 rfl rfl rfl ?_
  refine W.aloadN (q := 3) X0 C d8_2 rfl rfl rfl ?_
  refine W.arraylength (q := 4) X0 C e0 V0 d8_3 rfl ?_
  refine W.istoreN (q := 5) (L' := #[.val (.ref p0), .val (.ref p0), .val (.int (1 : Int32)), .unset, .unset]) X0 C d8_4 rfl rfl ?_
  refine W.iconst (q := 6) (v := 0) X0 C d8_5 rfl rfl ?_
  refine W.istoreN (q := 7) (L' := #[.val (.ref p0), .val (.ref p0), .val (.int (1 : Int32)), .val (.int (0 : Int32)), .unset]) X0 C d8_6 rfl rfl ?_
  refine W.iloadN (q := 8) X0 C d8_7 rfl rfl ?_
  refine W.iloadN (q := 9) X0 C d8_8 rfl rfl ?_
  refine W.icmpF (q := 12) X0 C d8_9 rfl (by decide : W.cF .ge (0 : Int32) (1 : Int32)) ?_
  refine W.aloadN (q := 13) X0 C d8_12 rfl rfl rfl ?_
  refine W.iloadN (q := 14) X0 C d8_13 rfl rfl ?_
  refine W.aaload (q := 15) X0 C e0 rfl V0 (by decide) (by decide) rfl d8_14 rfl ?_
  refine W.astore (q := 17) (L' := #[.val (.ref p0), .val (.ref p0), .val (.int (1 : Int32)), .val (.int (0 : Int32)), .val (.ref s0)]) X0 C d8_15 rfl rfl rfl ?_
  refine W.aload (q := 19) X0 C d8_17 rfl rfl rfl ?_
  refine W.callV (q := 22) X0 C (W.ww hw 49 rfl) (W.ww hw 45 rfl) (W.nf C (W.ww hw 47 rfl)) (W.ww hw 47 rfl) (W.ww hw 46 rfl) (W.ww hw 5 rfl) (W.ww hw 48 rfl) (by decide) (rm9 l Z a0 hw [] s0 m0 h0 n0 Y0) e0 Ey0 d8_19 [] [] rfl rfl pd__28_29Z rfl rfl (by decide) (Nat.le_of_ble_eq_true rfl) (by decide) (by decide) rfl (fun T283 w283 L283 X283 hQ283 => ?_)
  obtain ⟨rfl, NL283, e283⟩ := hQ283
  have N283 := Fr.app N0 NL283
  show W.Go p e below _ (T283.setTop (mkF m 22 #[.val (.ref p0), .val (.ref p0), .val (.int (1 : Int32)), .val (.int (0 : Int32)), .val (.ref s0)] [(.int (if m0 = 0 then (1 : Int32) else 0))]))
  refine W.if_ (q := 28) (q' := 25) X283 C d8_22 (by decide) (by decide) rfl (fun hc284 => ?_) (fun hc284 => ?_)
  · replace hc284 : (if m0 = 0 then (1 : Int32) else 0) ≠ 0 := hc284
    replace hc284 := own_ite1 hc284
    refine W.iinc (q := 31) (L' := #[.val (.ref p0), .val (.ref p0), .val (.int (1 : Int32)), .val (.int (1 : Int32)), .val (.ref s0)]) X283 C d8_28 rfl (by decide) rfl rfl ?_
    refine W.goto (q := 7) X283 C d8_31 (by decide) (by decide) ?_
    refine W.iloadN (q := 8) X283 C d8_7 rfl rfl ?_
    refine W.iloadN (q := 9) X283 C d8_8 rfl rfl ?_
    refine W.icmpT (q := 34) X283 C d8_9 (by decide) (by decide) (by decide : W.cT .ge (1 : Int32) (1 : Int32)) ?_
    refine W.ldcC (q := 36) (s := s) (EL := own_el) (vs := []) (z := (0 : Int32)) X283 C (W.ww hw 43 rfl) (own_wS hw) e283 hS0 hk0 (own_EL hw) (List.mem_of_getElem? (i := 0) rfl) R0.1 (by simp) (by decide) rfl d8_34 0 (by decide) (by decide) (by decide) (by decide) rfl (fun sa285 T285 h285 kk285 sb285 sk285 X285 C e285 E285 hS285 hk285 A285 fc285 fv285 V285 Rn285 => ?_)
    have Y_286 := Y0.ext E285
    have V0_288 := V0.ext E285
    have Ey0_289 := Ey0.ext E285
    have K285 := K0.ext E285
    have n0_285 : n0 ≤ h285.size := Nat.le_trans Z0 E285.1
    have R_285 := R0.trans Rn285
    have Yn285 : own_len Z h285 sa285 (0 : Int32) := ⟨_, _, _, A285, fv285, V285⟩
    exact W.retAH X285 C rfl e285 rfl d8_36 (by decide) (by decide) hS285 hk285 (own_EL hw) R_285 ⟨_, rfl, N283, K285, Or.inr (⟨hc284, Yn285⟩)⟩
  · replace hc284 : (if m0 = 0 then (1 : Int32) else 0) = 0 := hc284
    replace hc284 := own_ite0 hc284
    refine W.aload (q := 27) X283 C d8_25 rfl rfl rfl ?_
    exact W.retAH X283 C rfl e283 rfl d8_27 (by decide) (by decide) hS0 hk0 (own_EL hw) R0 ⟨_, rfl, N283, K0, Or.inl ⟨hc284, rfl⟩⟩
def Q8_2 (Z : State) (p0 : Addr) (ka : ClassId) (s0 s1 : Addr) (m0 m1 : Int32) (h0 : Heap) (n0 : Nat) (v : Option Value) (h : Heap) (L : List Loc) : Prop := ∃ r, v = some (.ref r) ∧ Fr n0 L ∧ Keep h0 h [] ∧ ((m0 ≠ 0 ∧ r = s0) ∨ (m0 = 0 ∧ m1 ≠ 0 ∧ r = s1) ∨ (m0 = 0 ∧ m1 = 0 ∧ own_len Z h r (0 : Int32)))
set_option maxRecDepth 65536 in
set_option maxHeartbeats 40000000 in
theorem rm8_2 (l : Launch) (Z : State) (a0 : Array Value) (hw : ∀ d ∈ tables_1, d.before a0 Z = true) (ws : List Jvm.Cond) (p0 : Addr) (ka : ClassId) (s0 s1 : Addr) (m0 m1 : Int32) (h0 : Heap) (n0 : Nat) (Z0 : n0 ≤ h0.size) (V0 : Arv Z h0 p0 ka (.object "java/lang/String") (2 : Int32) [(.ref s0), (.ref s1)] .null) (Y0 : own_len Z h0 s0 m0) (Y1 : own_len Z h0 s1 m1) :
    MetFree l (⟨"com/example/orderwire/orderwire/imaging/Fields", "firstNonEmpty", "([Ljava/lang/String;)Ljava/lang/String;"⟩ : MethodName) (head1 (Jvm.Cond.code (⟨"com/example/orderwire/orderwire/imaging/Fields", "firstNonEmpty", "([Ljava/lang/String;)Ljava/lang/String;"⟩ : MethodName) prog_28_method_3_code 5 (some (.object "java/lang/String")) :: ws) ({ frames := 1, cells := 2, slots := 4, locals := 14 } : Room)) (fun a U => a = #[(.ref p0)] ∧ Z.Warmed39 U.vm ∧ U.heap = h0 ∧ CHv Z own_el U.vm h0) (fun _ _ _ _ _ => True) (fun _ U o U' => ∃ v L, o = .returned v ∧ Q8_2 Z p0 ka s0 s1 m0 m1 h0 n0 v U'.heap L ∧ CHr Z own_el U.vm U.heap U'.vm U'.heap ∧ ReturnedEndW U o U' L ({ frames := 1, cells := 2, slots := 4, locals := 14 } : Room).cells ({ frames := 1, cells := 2, slots := 4, locals := 14 } : Room).slots) := by
  refine W.bodyOfH (y := (⟨"com/example/orderwire/orderwire/imaging/Fields", "firstNonEmpty", "([Ljava/lang/String;)Ljava/lang/String;"⟩ : MethodName)) (as := #[(.ref p0)]) (maxL := 5) (Q := Q8_2 Z p0 ka s0 s1 m0 m1 h0 n0) (Ls := #[.val (.ref p0), .unset, .unset, .unset, .unset]) (plainFor_of_name pn_com_example_orderwire_orderwire_imaging_Fields) (fun m => by first | exact W.entry_of rfl | rfl | (simp [entryFrame, mkF, argsToLocals, Value.category]; done)) ?_
  intro p e s m below meth c T0 C X0 e0 hs hH hS0
  have R0 : CHr Z own_el s.vm s.heap s.vm h0 := by rw [hs]; exact CHr.refl hH
  have hk0 : 0 ≤ h0.size := Nat.zero_le _
  have N0 := Fr.nil n0
  have K0 := Keep.refl h0 []
  have Ey0 := Y0.exa
  have Ey1 := Y1.exa
  refine W.aloadN (q := 1) X0 C d8_0 rfl rfl rfl ?_
  refine W.astoreN (q := 2) (L' := #[.val (.ref p0), .val (.ref p0), .unset, .unset, .unset]) X0 C d8_1 rfl rfl rfl ?_
  refine W.aloadN (q := 3) X0 C d8_2 rfl rfl rfl ?_
  refine W.arraylength (q := 4) X0 C e0 V0 d8_3 rfl ?_
  refine W.istoreN (q := 5) (L' := #[.val (.ref p0), .val (.ref p0), .val (.int (2 : Int32)), .unset, .unset]) X0 C d8_4 rfl rfl ?_
  refine W.iconst (q := 6) (v := 0) X0 C d8_5 rfl rfl ?_
  refine W.istoreN (q := 7) (L' := #[.val (.ref p0), .val (.ref p0), .val (.int (2 : Int32)), .val (.int (0 : Int32)), .unset]) X0 C d8_6 rfl rfl ?_
  refine W.iloadN (q := 8) X0 C d8_7 rfl rfl ?_
  refine W.iloadN (q := 9) X0 C d8_8 rfl rfl ?_
  refine W.icmpF (q := 12) X0 C d8_9 rfl (by decide : W.cF .ge (0 : Int32) (2 : Int32)) ?_
  refine W.aloadN (q := 13) X0 C d8_12 rfl rfl rfl ?_
  refine W.iloadN (q := 14) X0 C d8_13 rfl rfl ?_
  refine W.aaload (q := 15) X0 C e0 rfl V0 (by decide) (by decide) rfl d8_14 rfl ?_
  refine W.astore (q := 17) (L' := #[.val (.ref p0), .val (.ref p0), .val (.int (2 : Int32)), .val (.int (0 : Int32)), .val (.ref s0)]) X0 C d8_15 rfl rfl rfl ?_
  refine W.aload (q := 19) X0 C d8_17 rfl rfl rfl ?_
  refine W.callV (q := 22) X0 C (W.ww hw 49 rfl) (W.ww hw 45 rfl) (W.nf C (W.ww hw 47 rfl)) (W.ww hw 47 rfl) (W.ww hw 46 rfl) (W.ww hw 5 rfl) (W.ww hw 48 rfl) (by decide) (rm9 l Z a0 hw [] s0 m0 h0 n0 Y0) e0 Ey0 d8_19 [] [] rfl rfl pd__28_29Z rfl rfl (by decide) (Nat.le_of_ble_eq_true rfl) (by decide) (by decide) rfl (fun T290 w290 L290 X290 hQ290 => ?_)
  obtain ⟨rfl, NL290, e290⟩ := hQ290
  have N290 := Fr.app N0 NL290
  show W.Go p e below _ (T290.setTop (mkF m 22 #[.val (.ref p0), .val (.ref p0), .val (.int (2 : Int32)), .val (.int (0 : Int32)), .val (.ref s0)] [(.int (if m0 = 0 then (1 : Int32) else 0))]))
  refine W.if_ (q := 28) (q' := 25) X290 C d8_22 (by decide) (by decide) rfl (fun hc291 => ?_) (fun hc291 => ?_)
  · replace hc291 : (if m0 = 0 then (1 : Int32) else 0) ≠ 0 := hc291
    replace hc291 := own_ite1 hc291
    refine W.iinc (q := 31) (L' := #[.val (.ref p0), .val (.ref p0), .val (.int (2 : Int32)), .val (.int (1 : Int32)), .val (.ref s0)]) X290 C d8_28 rfl (by decide) rfl rfl ?_
    refine W.goto (q := 7) X290 C d8_31 (by decide) (by decide) ?_
    refine W.iloadN (q := 8) X290 C d8_7 rfl rfl ?_
    refine W.iloadN (q := 9) X290 C d8_8 rfl rfl ?_
    refine W.icmpF (q := 12) X290 C d8_9 rfl (by decide : W.cF .ge (1 : Int32) (2 : Int32)) ?_
    refine W.aloadN (q := 13) X290 C d8_12 rfl rfl rfl ?_
    refine W.iloadN (q := 14) X290 C d8_13 rfl rfl ?_
    refine W.aaload (q := 15) X290 C e290 rfl V0 (by decide) (by decide) rfl d8_14 rfl ?_
    refine W.astore (q := 17) (L' := #[.val (.ref p0), .val (.ref p0), .val (.int (2 : Int32)), .val (.int (1 : Int32)), .val (.ref s1)]) X290 C d8_15 rfl rfl rfl ?_
    refine W.aload (q := 19) X290 C d8_17 rfl rfl rfl ?_
    refine W.callV (q := 22) X290 C (W.ww hw 49 rfl) (W.ww hw 45 rfl) (W.nf C (W.ww hw 47 rfl)) (W.ww hw 47 rfl) (W.ww hw 46 rfl) (W.ww hw 5 rfl) (W.ww hw 48 rfl) (by decide) (rm9 l Z a0 hw [] s1 m1 h0 n0 Y1) e290 Ey1 d8_19 [] [] rfl rfl pd__28_29Z rfl rfl (by decide) (Nat.le_of_ble_eq_true rfl) (by decide) (by decide) rfl (fun T292 w292 L292 X292 hQ292 => ?_)
    obtain ⟨rfl, NL292, e292⟩ := hQ292
    have N292 := Fr.app N290 NL292
    show W.Go p e below _ (T292.setTop (mkF m 22 #[.val (.ref p0), .val (.ref p0), .val (.int (2 : Int32)), .val (.int (1 : Int32)), .val (.ref s1)] [(.int (if m1 = 0 then (1 : Int32) else 0))]))
    refine W.if_ (q := 28) (q' := 25) X292 C d8_22 (by decide) (by decide) rfl (fun hc293 => ?_) (fun hc293 => ?_)
    · replace hc293 : (if m1 = 0 then (1 : Int32) else 0) ≠ 0 := hc293
      replace hc293 := own_ite1 hc293
      refine W.iinc (q := 31) (L' := #[.val (.ref p0), .val (.ref p0), .val (.int (2 : Int32)), .val (.int (2 : Int32)), .val (.ref s1)]) X292 C d8_28 rfl (by decide) rfl rfl ?_
      refine W.goto (q := 7) X292 C d8_31 (by decide) (by decide) ?_
      refine W.iloadN (q := 8) X292 C d8_7 rfl rfl ?_
      refine W.iloadN (q := 9) X292 C d8_8 rfl rfl ?_
      refine W.icmpT (q := 34) X292 C d8_9 (by decide) (by decide) (by decide : W.cT .ge (2 : Int32) (2 : Int32)) ?_
      refine W.ldcC (q := 36) (s := s) (EL := own_el) (vs := []) (z := (0 : Int32)) X292 C (W.ww hw 43 rfl) (own_wS hw) e292 hS0 hk0 (own_EL hw) (List.mem_of_getElem? (i := 0) rfl) R0.1 (by simp) (by decide) rfl d8_34 0 (by decide) (by decide) (by decide) (by decide) rfl (fun sa294 T294 h294 kk294 sb294 sk294 X294 C e294 E294 hS294 hk294 A294 fc294 fv294 V294 Rn294 => ?_)
      have Y_295 := Y0.ext E294
      have Y_296 := Y1.ext E294
      have V0_298 := V0.ext E294
      have Ey0_299 := Ey0.ext E294
      have Ey1_300 := Ey1.ext E294
      have K294 := K0.ext E294
      have n0_294 : n0 ≤ h294.size := Nat.le_trans Z0 E294.1
      have R_294 := R0.trans Rn294
      have Yn294 : own_len Z h294 sa294 (0 : Int32) := ⟨_, _, _, A294, fv294, V294⟩
      exact W.retAH X294 C rfl e294 rfl d8_36 (by decide) (by decide) hS294 hk294 (own_EL hw) R_294 ⟨_, rfl, N292, K294, Or.inr (Or.inr (⟨hc291, hc293, Yn294⟩))⟩
    · replace hc293 : (if m1 = 0 then (1 : Int32) else 0) = 0 := hc293
      replace hc293 := own_ite0 hc293
      refine W.aload (q := 27) X292 C d8_25 rfl rfl rfl ?_
      exact W.retAH X292 C rfl e292 rfl d8_27 (by decide) (by decide) hS0 hk0 (own_EL hw) R0 ⟨_, rfl, N292, K0, Or.inr (Or.inl ⟨hc291, hc293, rfl⟩)⟩
  · replace hc291 : (if m0 = 0 then (1 : Int32) else 0) = 0 := hc291
    replace hc291 := own_ite0 hc291
    refine W.aload (q := 27) X290 C d8_25 rfl rfl rfl ?_
    exact W.retAH X290 C rfl e290 rfl d8_27 (by decide) (by decide) hS0 hk0 (own_EL hw) R0 ⟨_, rfl, N290, K0, Or.inl ⟨hc291, rfl⟩⟩
def Q8_3 (Z : State) (p0 : Addr) (ka : ClassId) (s0 s1 s2 : Addr) (m0 m1 m2 : Int32) (h0 : Heap) (n0 : Nat) (v : Option Value) (h : Heap) (L : List Loc) : Prop := ∃ r, v = some (.ref r) ∧ Fr n0 L ∧ Keep h0 h [] ∧ ((m0 ≠ 0 ∧ r = s0) ∨ (m0 = 0 ∧ m1 ≠ 0 ∧ r = s1) ∨ (m0 = 0 ∧ m1 = 0 ∧ m2 ≠ 0 ∧ r = s2) ∨ (m0 = 0 ∧ m1 = 0 ∧ m2 = 0 ∧ own_len Z h r (0 : Int32)))
set_option maxRecDepth 65536 in
set_option maxHeartbeats 40000000 in
theorem rm8_3 (l : Launch) (Z : State) (a0 : Array Value) (hw : ∀ d ∈ tables_1, d.before a0 Z = true) (ws : List Jvm.Cond) (p0 : Addr) (ka : ClassId) (s0 s1 s2 : Addr) (m0 m1 m2 : Int32) (h0 : Heap) (n0 : Nat) (Z0 : n0 ≤ h0.size) (V0 : Arv Z h0 p0 ka (.object "java/lang/String") (3 : Int32) [(.ref s0), (.ref s1), (.ref s2)] .null) (Y0 : own_len Z h0 s0 m0) (Y1 : own_len Z h0 s1 m1) (Y2 : own_len Z h0 s2 m2) :
    MetFree l (⟨"com/example/orderwire/orderwire/imaging/Fields", "firstNonEmpty", "([Ljava/lang/String;)Ljava/lang/String;"⟩ : MethodName) (head1 (Jvm.Cond.code (⟨"com/example/orderwire/orderwire/imaging/Fields", "firstNonEmpty", "([Ljava/lang/String;)Ljava/lang/String;"⟩ : MethodName) prog_28_method_3_code 5 (some (.object "java/lang/String")) :: ws) ({ frames := 1, cells := 2, slots := 4, locals := 14 } : Room)) (fun a U => a = #[(.ref p0)] ∧ Z.Warmed39 U.vm ∧ U.heap = h0 ∧ CHv Z own_el U.vm h0) (fun _ _ _ _ _ => True) (fun _ U o U' => ∃ v L, o = .returned v ∧ Q8_3 Z p0 ka s0 s1 s2 m0 m1 m2 h0 n0 v U'.heap L ∧ CHr Z own_el U.vm U.heap U'.vm U'.heap ∧ ReturnedEndW U o U' L ({ frames := 1, cells := 2, slots := 4, locals := 14 } : Room).cells ({ frames := 1, cells := 2, slots := 4, locals := 14 } : Room).slots) := by
  refine W.bodyOfH (y := (⟨"com/example/orderwire/orderwire/imaging/Fields", "firstNonEmpty", "([Ljava/lang/String;)Ljava/lang/String;"⟩ : MethodName)) (as := #[(.ref p0)]) (maxL := 5) (Q := Q8_3 Z p0 ka s0 s1 s2 m0 m1 m2 h0 n0) (Ls := #[.val (.ref p0), .unset, .unset, .unset, .unset]) (plainFor_of_name pn_com_example_orderwire_orderwire_imaging_Fields) (fun m => by first | exact W.entry_of rfl | rfl | (simp [entryFrame, mkF, argsToLocals, Value.category]; done)) ?_
  intro p e s m below meth c T0 C X0 e0 hs hH hS0
  have R0 : CHr Z own_el s.vm s.heap s.vm h0 := by rw [hs]; exact CHr.refl hH
  have hk0 : 0 ≤ h0.size := Nat.zero_le _
  have N0 := Fr.nil n0
  have K0 := Keep.refl h0 []
  have Ey0 := Y0.exa
  have Ey1 := Y1.exa
  have Ey2 := Y2.exa
  refine W.aloadN (q := 1) X0 C d8_0 rfl rfl rfl ?_
  refine W.astoreN (q := 2) (L' := #[.val (.ref p0), .val (.ref p0), .unset, .unset, .unset]) X0 C d8_1 rfl rfl rfl ?_
  refine W.aloadN (q := 3) X0 C d8_2 rfl rfl rfl ?_
  refine W.arraylength (q := 4) X0 C e0 V0 d8_3 rfl ?_
  refine W.istoreN (q := 5) (L' := #[.val (.ref p0), .val (.ref p0), .val (.int (3 : Int32)), .unset, .unset]) X0 C d8_4 rfl rfl ?_
  refine W.iconst (q := 6) (v := 0) X0 C d8_5 rfl rfl ?_
  refine W.istoreN (q := 7) (L' := #[.val (.ref p0), .val (.ref p0), .val (.int (3 : Int32)), .val (.int (0 : Int32)), .unset]) X0 C d8_6 rfl rfl ?_
  refine W.iloadN (q := 8) X0 C d8_7 rfl rfl ?_
  refine W.iloadN (q := 9) X0 C d8_8 rfl rfl ?_
  refine W.icmpF (q := 12) X0 C d8_9 rfl (by decide : W.cF .ge (0 : Int32) (3 : Int32)) ?_
  refine W.aloadN (q := 13) X0 C d8_12 rfl rfl rfl ?_
  refine W.iloadN (q := 14) X0 C d8_13 rfl rfl ?_
  refine W.aaload (q := 15) X0 C e0 rfl V0 (by decide) (by decide) rfl d8_14 rfl ?_
  refine W.astore (q := 17) (L' := #[.val (.ref p0), .val (.ref p0), .val (.int (3 : Int32)), .val (.int (0 : Int32)), .val (.ref s0)]) X0 C d8_15 rfl rfl rfl ?_
  refine W.aload (q := 19) X0 C d8_17 rfl rfl rfl ?_
  refine W.callV (q := 22) X0 C (W.ww hw 49 rfl) (W.ww hw 45 rfl) (W.nf C (W.ww hw 47 rfl)) (W.ww hw 47 rfl) (W.ww hw 46 rfl) (W.ww hw 5 rfl) (W.ww hw 48 rfl) (by decide) (rm9 l Z a0 hw [] s0 m0 h0 n0 Y0) e0 Ey0 d8_19 [] [] rfl rfl pd__28_29Z rfl rfl (by decide) (Nat.le_of_ble_eq_true rfl) (by decide) (by decide) rfl (fun T301 w301 L301 X301 hQ301 => ?_)
  obtain ⟨rfl, NL301, e301⟩ := hQ301
  have N301 := Fr.app N0 NL301
  show W.Go p e below _ (T301.setTop (mkF m 22 #[.val (.ref p0), .val (.ref p0), .val (.int (3 : Int32)), .val (.int (0 : Int32)), .val (.ref s0)] [(.int (if m0 = 0 then (1 : Int32) else 0))]))
  refine W.if_ (q := 28) (q' := 25) X301 C d8_22 (by decide) (by decide) rfl (fun hc302 => ?_) (fun hc302 => ?_)
  · replace hc302 : (if m0 = 0 then (1 : Int32) else 0) ≠ 0 := hc302
    replace hc302 := own_ite1 hc302
    refine W.iinc (q := 31) (L' := #[.val (.ref p0), .val (.ref p0), .val (.int (3 : Int32)), .val (.int (1 : Int32)), .val (.ref s0)]) X301 C d8_28 rfl (by decide) rfl rfl ?_
    refine W.goto (q := 7) X301 C d8_31 (by decide) (by decide) ?_
    refine W.iloadN (q := 8) X301 C d8_7 rfl rfl ?_
    refine W.iloadN (q := 9) X301 C d8_8 rfl rfl ?_
    refine W.icmpF (q := 12) X301 C d8_9 rfl (by decide : W.cF .ge (1 : Int32) (3 : Int32)) ?_
    refine W.aloadN (q := 13) X301 C d8_12 rfl rfl rfl ?_
    refine W.iloadN (q := 14) X301 C d8_13 rfl rfl ?_
    refine W.aaload (q := 15) X301 C e301 rfl V0 (by decide) (by decide) rfl d8_14 rfl ?_
    refine W.astore (q := 17) (L' := #[.val (.ref p0), .val (.ref p0), .val (.int (3 : Int32)), .val (.int (1 : Int32)), .val (.ref s1)]) X301 C d8_15 rfl rfl rfl ?_
    refine W.aload (q := 19) X301 C d8_17 rfl rfl rfl ?_
    refine W.callV (q := 22) X301 C (W.ww hw 49 rfl) (W.ww hw 45 rfl) (W.nf C (W.ww hw 47 rfl)) (W.ww hw 47 rfl) (W.ww hw 46 rfl) (W.ww hw 5 rfl) (W.ww hw 48 rfl) (by decide) (rm9 l Z a0 hw [] s1 m1 h0 n0 Y1) e301 Ey1 d8_19 [] [] rfl rfl pd__28_29Z rfl rfl (by decide) (Nat.le_of_ble_eq_true rfl) (by decide) (by decide) rfl (fun T303 w303 L303 X303 hQ303 => ?_)
    obtain ⟨rfl, NL303, e303⟩ := hQ303
    have N303 := Fr.app N301 NL303
    show W.Go p e below _ (T303.setTop (mkF m 22 #[.val (.ref p0), .val (.ref p0), .val (.int (3 : Int32)), .val (.int (1 : Int32)), .val (.ref s1)] [(.int (if m1 = 0 then (1 : Int32) else 0))]))
    refine W.if_ (q := 28) (q' := 25) X303 C d8_22 (by decide) (by decide) rfl (fun hc304 => ?_) (fun hc304 => ?_)
    · replace hc304 : (if m1 = 0 then (1 : Int32) else 0) ≠ 0 := hc304
      replace hc304 := own_ite1 hc304
      refine W.iinc (q := 31) (L' := #[.val (.ref p0), .val (.ref p0), .val (.int (3 : Int32)), .val (.int (2 : Int32)), .val (.ref s1)]) X303 C d8_28 rfl (by decide) rfl rfl ?_
      refine W.goto (q := 7) X303 C d8_31 (by decide) (by decide) ?_
      refine W.iloadN (q := 8) X303 C d8_7 rfl rfl ?_
      refine W.iloadN (q := 9) X303 C d8_8 rfl rfl ?_
      refine W.icmpF (q := 12) X303 C d8_9 rfl (by decide : W.cF .ge (2 : Int32) (3 : Int32)) ?_
      refine W.aloadN (q := 13) X303 C d8_12 rfl rfl rfl ?_
      refine W.iloadN (q := 14) X303 C d8_13 rfl rfl ?_
      refine W.aaload (q := 15) X303 C e303 rfl V0 (by decide) (by decide) rfl d8_14 rfl ?_
      refine W.astore (q := 17) (L' := #[.val (.ref p0), .val (.ref p0), .val (.int (3 : Int32)), .val (.int (2 : Int32)), .val (.ref s2)]) X303 C d8_15 rfl rfl rfl ?_
      refine W.aload (q := 19) X303 C d8_17 rfl rfl rfl ?_
      refine W.callV (q := 22) X303 C (W.ww hw 49 rfl) (W.ww hw 45 rfl) (W.nf C (W.ww hw 47 rfl)) (W.ww hw 47 rfl) (W.ww hw 46 rfl) (W.ww hw 5 rfl) (W.ww hw 48 rfl) (by decide) (rm9 l Z a0 hw [] s2 m2 h0 n0 Y2) e303 Ey2 d8_19 [] [] rfl rfl pd__28_29Z rfl rfl (by decide) (Nat.le_of_ble_eq_true rfl) (by decide) (by decide) rfl (fun T305 w305 L305 X305 hQ305 => ?_)
      obtain ⟨rfl, NL305, e305⟩ := hQ305
      have N305 := Fr.app N303 NL305
      show W.Go p e below _ (T305.setTop (mkF m 22 #[.val (.ref p0), .val (.ref p0), .val (.int (3 : Int32)), .val (.int (2 : Int32)), .val (.ref s2)] [(.int (if m2 = 0 then (1 : Int32) else 0))]))
      refine W.if_ (q := 28) (q' := 25) X305 C d8_22 (by decide) (by decide) rfl (fun hc306 => ?_) (fun hc306 => ?_)
      · replace hc306 : (if m2 = 0 then (1 : Int32) else 0) ≠ 0 := hc306
        replace hc306 := own_ite1 hc306
        refine W.iinc (q := 31) (L' := #[.val (.ref p0), .val (.ref p0), .val (.int (3 : Int32)), .val (.int (3 : Int32)), .val (.ref s2)]) X305 C d8_28 rfl (by decide) rfl rfl ?_
        refine W.goto (q := 7) X305 C d8_31 (by decide) (by decide) ?_
        refine W.iloadN (q := 8) X305 C d8_7 rfl rfl ?_
        refine W.iloadN (q := 9) X305 C d8_8 rfl rfl ?_
        refine W.icmpT (q := 34) X305 C d8_9 (by decide) (by decide) (by decide : W.cT .ge (3 : Int32) (3 : Int32)) ?_
        refine W.ldcC (q := 36) (s := s) (EL := own_el) (vs := []) (z := (0 : Int32)) X305 C (W.ww hw 43 rfl) (own_wS hw) e305 hS0 hk0 (own_EL hw) (List.mem_of_getElem? (i := 0) rfl) R0.1 (by simp) (by decide) rfl d8_34 0 (by decide) (by decide) (by decide) (by decide) rfl (fun sa307 T307 h307 kk307 sb307 sk307 X307 C e307 E307 hS307 hk307 A307 fc307 fv307 V307 Rn307 => ?_)
        have Y_308 := Y0.ext E307
        have Y_309 := Y1.ext E307
        have Y_310 := Y2.ext E307
        have V0_312 := V0.ext E307
        have Ey0_313 := Ey0.ext E307
        have Ey1_314 := Ey1.ext E307
        have Ey2_315 := Ey2.ext E307
        have K307 := K0.ext E307
        have n0_307 : n0 ≤ h307.size := Nat.le_trans Z0 E307.1
        have R_307 := R0.trans Rn307
        have Yn307 : own_len Z h307 sa307 (0 : Int32) := ⟨_, _, _, A307, fv307, V307⟩
        exact W.retAH X307 C rfl e307 rfl d8_36 (by decide) (by decide) hS307 hk307 (own_EL hw) R_307 ⟨_, rfl, N305, K307, Or.inr (Or.inr (Or.inr (⟨hc302, hc304, hc306, Yn307⟩)))⟩
      · replace hc306 : (if m2 = 0 then (1 : Int32) else 0) = 0 := hc306
        replace hc306 := own_ite0 hc306
        refine W.aload (q := 27) X305 C d8_25 rfl rfl rfl ?_
        exact W.retAH X305 C rfl e305 rfl d8_27 (by decide) (by decide) hS0 hk0 (own_EL hw) R0 ⟨_, rfl, N305, K0, Or.inr (Or.inr (Or.inl ⟨hc302, hc304, hc306, rfl⟩))⟩
    · replace hc304 : (if m1 = 0 then (1 : Int32) else 0) = 0 := hc304
      replace hc304 := own_ite0 hc304
      refine W.aload (q := 27) X303 C d8_25 rfl rfl rfl ?_
      exact W.retAH X303 C rfl e303 rfl d8_27 (by decide) (by decide) hS0 hk0 (own_EL hw) R0 ⟨_, rfl, N303, K0, Or.inr (Or.inl ⟨hc302, hc304, rfl⟩)⟩
  · replace hc302 : (if m0 = 0 then (1 : Int32) else 0) = 0 := hc302
    replace hc302 := own_ite0 hc302
    refine W.aload (q := 27) X301 C d8_25 rfl rfl rfl ?_
    exact W.retAH X301 C rfl e301 rfl d8_27 (by decide) (by decide) hS0 hk0 (own_EL hw) R0 ⟨_, rfl, N301, K0, Or.inl ⟨hc302, rfl⟩⟩
def Q8_4 (Z : State) (p0 : Addr) (ka : ClassId) (s0 s1 s2 s3 : Addr) (m0 m1 m2 m3 : Int32) (h0 : Heap) (n0 : Nat) (v : Option Value) (h : Heap) (L : List Loc) : Prop := ∃ r, v = some (.ref r) ∧ Fr n0 L ∧ Keep h0 h [] ∧ ((m0 ≠ 0 ∧ r = s0) ∨ (m0 = 0 ∧ m1 ≠ 0 ∧ r = s1) ∨ (m0 = 0 ∧ m1 = 0 ∧ m2 ≠ 0 ∧ r = s2) ∨ (m0 = 0 ∧ m1 = 0 ∧ m2 = 0 ∧ m3 ≠ 0 ∧ r = s3) ∨ (m0 = 0 ∧ m1 = 0 ∧ m2 = 0 ∧ m3 = 0 ∧ own_len Z h r (0 : Int32)))
set_option maxRecDepth 65536 in
set_option maxHeartbeats 40000000 in
theorem rm8_4 (l : Launch) (Z : State) (a0 : Array Value) (hw : ∀ d ∈ tables_1, d.before a0 Z = true) (ws : List Jvm.Cond) (p0 : Addr) (ka : ClassId) (s0 s1 s2 s3 : Addr) (m0 m1 m2 m3 : Int32) (h0 : Heap) (n0 : Nat) (Z0 : n0 ≤ h0.size) (V0 : Arv Z h0 p0 ka (.object "java/lang/String") (4 : Int32) [(.ref s0), (.ref s1), (.ref s2), (.ref s3)] .null) (Y0 : own_len Z h0 s0 m0) (Y1 : own_len Z h0 s1 m1) (Y2 : own_len Z h0 s2 m2) (Y3 : own_len Z h0 s3 m3) :
    MetFree l (⟨"com/example/orderwire/orderwire/imaging/Fields", "firstNonEmpty", "([Ljava/lang/String;)Ljava/lang/String;"⟩ : MethodName) (head1 (Jvm.Cond.code (⟨"com/example/orderwire/orderwire/imaging/Fields", "firstNonEmpty", "([Ljava/lang/String;)Ljava/lang/String;"⟩ : MethodName) prog_28_method_3_code 5 (some (.object "java/lang/String")) :: ws) ({ frames := 1, cells := 2, slots := 4, locals := 14 } : Room)) (fun a U => a = #[(.ref p0)] ∧ Z.Warmed39 U.vm ∧ U.heap = h0 ∧ CHv Z own_el U.vm h0) (fun _ _ _ _ _ => True) (fun _ U o U' => ∃ v L, o = .returned v ∧ Q8_4 Z p0 ka s0 s1 s2 s3 m0 m1 m2 m3 h0 n0 v U'.heap L ∧ CHr Z own_el U.vm U.heap U'.vm U'.heap ∧ ReturnedEndW U o U' L ({ frames := 1, cells := 2, slots := 4, locals := 14 } : Room).cells ({ frames := 1, cells := 2, slots := 4, locals := 14 } : Room).slots) := by
  refine W.bodyOfH (y := (⟨"com/example/orderwire/orderwire/imaging/Fields", "firstNonEmpty", "([Ljava/lang/String;)Ljava/lang/String;"⟩ : MethodName)) (as := #[(.ref p0)]) (maxL := 5) (Q := Q8_4 Z p0 ka s0 s1 s2 s3 m0 m1 m2 m3 h0 n0) (Ls := #[.val (.ref p0), .unset, .unset, .unset, .unset]) (plainFor_of_name pn_com_example_orderwire_orderwire_imaging_Fields) (fun m => by first | exact W.entry_of rfl | rfl | (simp [entryFrame, mkF, argsToLocals, Value.category]; done)) ?_
  intro p e s m below meth c T0 C X0 e0 hs hH hS0
  have R0 : CHr Z own_el s.vm s.heap s.vm h0 := by rw [hs]; exact CHr.refl hH
  have hk0 : 0 ≤ h0.size := Nat.zero_le _
  have N0 := Fr.nil n0
  have K0 := Keep.refl h0 []
  have Ey0 := Y0.exa
  have Ey1 := Y1.exa
  have Ey2 := Y2.exa
  have Ey3 := Y3.exa
  refine W.aloadN (q := 1) X0 C d8_0 rfl rfl rfl ?_
  refine W.astoreN (q := 2) (L' := #[.val (.ref p0), .val (.ref p0), .unset, .unset, .unset]) X0 C d8_1 rfl rfl rfl ?_
  refine W.aloadN (q := 3) X0 C d8_2 rfl rfl rfl ?_
  refine W.arraylength (q := 4) X0 C e0 V0 d8_3 rfl ?_
  refine W.istoreN (q := 5) (L' := #[.val (.ref p0), .val (.ref p0), .val (.int (4 : Int32)), .unset, .unset]) X0 C d8_4 rfl rfl ?_
  refine W.iconst (q := 6) (v := 0) X0 C d8_5 rfl rfl ?_
  refine W.istoreN (q := 7) (L' := #[.val (.ref p0), .val (.ref p0), .val (.int (4 : Int32)), .val (.int (0 : Int32)), .unset]) X0 C d8_6 rfl rfl ?_
  refine W.iloadN (q := 8) X0 C d8_7 rfl rfl ?_
  refine W.iloadN (q := 9) X0 C d8_8 rfl rfl ?_
  refine W.icmpF (q := 12) X0 C d8_9 rfl (by decide : W.cF .ge (0 : Int32) (4 : Int32)) ?_
  refine W.aloadN (q := 13) X0 C d8_12 rfl rfl rfl ?_
  refine W.iloadN (q := 14) X0 C d8_13 rfl rfl ?_
  refine W.aaload (q := 15) X0 C e0 rfl V0 (by decide) (by decide) rfl d8_14 rfl ?_
  refine W.astore (q := 17) (L' := #[.val (.ref p0), .val (.ref p0), .val (.int (4 : Int32)), .val (.int (0 : Int32)), .val (.ref s0)]) X0 C d8_15 rfl rfl rfl ?_
  refine W.aload (q := 19) X0 C d8_17 rfl rfl rfl ?_
  refine W.callV (q := 22) X0 C (W.ww hw 49 rfl) (W.ww hw 45 rfl) (W.nf C (W.ww hw 47 rfl)) (W.ww hw 47 rfl) (W.ww hw 46 rfl) (W.ww hw 5 rfl) (W.ww hw 48 rfl) (by decide) (rm9 l Z a0 hw [] s0 m0 h0 n0 Y0) e0 Ey0 d8_19 [] [] rfl rfl pd__28_29Z rfl rfl (by decide) (Nat.le_of_ble_eq_true rfl) (by decide) (by decide) rfl (fun T316 w316 L316 X316 hQ316 => ?_)
  obtain ⟨rfl, NL316, e316⟩ := hQ316
  have N316 := Fr.app N0 NL316
  show W.Go p e below _ (T316.setTop (mkF m 22 #[.val (.ref p0), .val (.ref p0), .val (.int (4 : Int32)), .val (.int (0 : Int32)), .val (.ref s0)] [(.int (if m0 = 0 then (1 : Int32) else 0))]))
  refine W.if_ (q := 28) (q' := 25) X316 C d8_22 (by decide) (by decide) rfl (fun hc317 => ?_) (fun hc317 => ?_)
  · replace hc317 : (if m0 = 0 then (1 : Int32) else 0) ≠ 0 := hc317
    replace hc317 := own_ite1 hc317
    refine W.iinc (q := 31) (L' := #[.val (.ref p0), .val (.ref p0), .val (.int (4 : Int32)), .val (.int (1 : Int32)), .val (.ref s0)]) X316 C d8_28 rfl (by decide) rfl rfl ?_
    refine W.goto (q := 7) X316 C d8_31 (by decide) (by decide) ?_
    refine W.iloadN (q := 8) X316 C d8_7 rfl rfl ?_
    refine W.iloadN (q := 9) X316 C d8_8 rfl rfl ?_
    refine W.icmpF (q := 12) X316 C d8_9 rfl (by decide : W.cF .ge (1 : Int32) (4 : Int32)) ?_
    refine W.aloadN (q := 13) X316 C d8_12 rfl rfl rfl ?_
    refine W.iloadN (q := 14) X316 C d8_13 rfl rfl ?_
    refine W.aaload (q := 15) X316 C e316 rfl V0 (by decide) (by decide) rfl d8_14 rfl ?_
    refine W.astore (q := 17) (L' := #[.val (.ref p0), .val (.ref p0), .val (.int (4 : Int32)), .val (.int (1 : Int32)), .val (.ref s1)]) X316 C d8_15 rfl rfl rfl ?_
    refine W.aload (q := 19) X316 C d8_17 rfl rfl rfl ?_
    refine W.callV (q := 22) X316 C (W.ww hw 49 rfl) (W.ww hw 45 rfl) (W.nf C (W.ww hw 47 rfl)) (W.ww hw 47 rfl) (W.ww hw 46 rfl) (W.ww hw 5 rfl) (W.ww hw 48 rfl) (by decide) (rm9 l Z a0 hw [] s1 m1 h0 n0 Y1) e316 Ey1 d8_19 [] [] rfl rfl pd__28_29Z rfl rfl (by decide) (Nat.le_of_ble_eq_true rfl) (by decide) (by decide) rfl (fun T318 w318 L318 X318 hQ318 => ?_)
    obtain ⟨rfl, NL318, e318⟩ := hQ318
    have N318 := Fr.app N316 NL318
    show W.Go p e below _ (T318.setTop (mkF m 22 #[.val (.ref p0), .val (.ref p0), .val (.int (4 : Int32)), .val (.int (1 : Int32)), .val (.ref s1)] [(.int (if m1 = 0 then (1 : Int32) else 0))]))
    refine W.if_ (q := 28) (q' := 25) X318 C d8_22 (by decide) (by decide) rfl (fun hc319 => ?_) (fun hc319 => ?_)
    · replace hc319 : (if m1 = 0 then (1 : Int32) else 0) ≠ 0 := hc319
      replace hc319 := own_ite1 hc319
      refine W.iinc (q := 31) (L' := #[.val (.ref p0), .val (.ref p0), .val (.int (4 : Int32)), .val (.int (2 : Int32)), .val (.ref s1)]) X318 C d8_28 rfl (by decide) rfl rfl ?_
      refine W.goto (q := 7) X318 C d8_31 (by decide) (by decide) ?_
      refine W.iloadN (q := 8) X318 C d8_7 rfl rfl ?_
      refine W.iloadN (q := 9) X318 C d8_8 rfl rfl ?_
      refine W.icmpF (q := 12) X318 C d8_9 rfl (by decide : W.cF .ge (2 : Int32) (4 : Int32)) ?_
      refine W.aloadN (q := 13) X318 C d8_12 rfl rfl rfl ?_
      refine W.iloadN (q := 14) X318 C d8_13 rfl rfl ?_
      refine W.aaload (q := 15) X318 C e318 rfl V0 (by decide) (by decide) rfl d8_14 rfl ?_
      refine W.astore (q := 17) (L' := #[.val (.ref p0), .val (.ref p0), .val (.int (4 : Int32)), .val (.int (2 : Int32)), .val (.ref s2)]) X318 C d8_15 rfl rfl rfl ?_
      refine W.aload (q := 19) X318 C d8_17 rfl rfl rfl ?_
      refine W.callV (q := 22) X318 C (W.ww hw 49 rfl) (W.ww hw 45 rfl) (W.nf C (W.ww hw 47 rfl)) (W.ww hw 47 rfl) (W.ww hw 46 rfl) (W.ww hw 5 rfl) (W.ww hw 48 rfl) (by decide) (rm9 l Z a0 hw [] s2 m2 h0 n0 Y2) e318 Ey2 d8_19 [] [] rfl rfl pd__28_29Z rfl rfl (by decide) (Nat.le_of_ble_eq_true rfl) (by decide) (by decide) rfl (fun T320 w320 L320 X320 hQ320 => ?_)
      obtain ⟨rfl, NL320, e320⟩ := hQ320
      have N320 := Fr.app N318 NL320
      show W.Go p e below _ (T320.setTop (mkF m 22 #[.val (.ref p0), .val (.ref p0), .val (.int (4 : Int32)), .val (.int (2 : Int32)), .val (.ref s2)] [(.int (if m2 = 0 then (1 : Int32) else 0))]))
      refine W.if_ (q := 28) (q' := 25) X320 C d8_22 (by decide) (by decide) rfl (fun hc321 => ?_) (fun hc321 => ?_)
      · replace hc321 : (if m2 = 0 then (1 : Int32) else 0) ≠ 0 := hc321
        replace hc321 := own_ite1 hc321
        refine W.iinc (q := 31) (L' := #[.val (.ref p0), .val (.ref p0), .val (.int (4 : Int32)), .val (.int (3 : Int32)), .val (.ref s2)]) X320 C d8_28 rfl (by decide) rfl rfl ?_
        refine W.goto (q := 7) X320 C d8_31 (by decide) (by decide) ?_
        refine W.iloadN (q := 8) X320 C d8_7 rfl rfl ?_
        refine W.iloadN (q := 9) X320 C d8_8 rfl rfl ?_
        refine W.icmpF (q := 12) X320 C d8_9 rfl (by decide : W.cF .ge (3 : Int32) (4 : Int32)) ?_
        refine W.aloadN (q := 13) X320 C d8_12 rfl rfl rfl ?_
        refine W.iloadN (q := 14) X320 C d8_13 rfl rfl ?_
        refine W.aaload (q := 15) X320 C e320 rfl V0 (by decide) (by decide) rfl d8_14 rfl ?_
        refine W.astore (q := 17) (L' := #[.val (.ref p0), .val (.ref p0), .val (.int (4 : Int32)), .val (.int (3 : Int32)), .val (.ref s3)]) X320 C d8_15 rfl rfl rfl ?_
        refine W.aload (q := 19) X320 C d8_17 rfl rfl rfl ?_
        refine W.callV (q := 22) X320 C (W.ww hw 49 rfl) (W.ww hw 45 rfl) (W.nf C (W.ww hw 47 rfl)) (W.ww hw 47 rfl) (W.ww hw 46 rfl) (W.ww hw 5 rfl) (W.ww hw 48 rfl) (by decide) (rm9 l Z a0 hw [] s3 m3 h0 n0 Y3) e320 Ey3 d8_19 [] [] rfl rfl pd__28_29Z rfl rfl (by decide) (Nat.le_of_ble_eq_true rfl) (by decide) (by decide) rfl (fun T322 w322 L322 X322 hQ322 => ?_)
        obtain ⟨rfl, NL322, e322⟩ := hQ322
        have N322 := Fr.app N320 NL322
        show W.Go p e below _ (T322.setTop (mkF m 22 #[.val (.ref p0), .val (.ref p0), .val (.int (4 : Int32)), .val (.int (3 : Int32)), .val (.ref s3)] [(.int (if m3 = 0 then (1 : Int32) else 0))]))
        refine W.if_ (q := 28) (q' := 25) X322 C d8_22 (by decide) (by decide) rfl (fun hc323 => ?_) (fun hc323 => ?_)
        · replace hc323 : (if m3 = 0 then (1 : Int32) else 0) ≠ 0 := hc323
          replace hc323 := own_ite1 hc323
          refine W.iinc (q := 31) (L' := #[.val (.ref p0), .val (.ref p0), .val (.int (4 : Int32)), .val (.int (4 : Int32)), .val (.ref s3)]) X322 C d8_28 rfl (by decide) rfl rfl ?_
          refine W.goto (q := 7) X322 C d8_31 (by decide) (by decide) ?_
          refine W.iloadN (q := 8) X322 C d8_7 rfl rfl ?_
          refine W.iloadN (q := 9) X322 C d8_8 rfl rfl ?_
          refine W.icmpT (q := 34) X322 C d8_9 (by decide) (by decide) (by decide : W.cT .ge (4 : Int32) (4 : Int32)) ?_
          refine W.ldcC (q := 36) (s := s) (EL := own_el) (vs := []) (z := (0 : Int32)) X322 C (W.ww hw 43 rfl) (own_wS hw) e322 hS0 hk0 (own_EL hw) (List.mem_of_getElem? (i := 0) rfl) R0.1 (by simp) (by decide) rfl d8_34 0 (by decide) (by decide) (by decide) (by decide) rfl (fun sa324 T324 h324 kk324 sb324 sk324 X324 C e324 E324 hS324 hk324 A324 fc324 fv324 V324 Rn324 => ?_)
          have Y_325 := Y0.ext E324
          have Y_326 := Y1.ext E324
          have Y_327 := Y2.ext E324
          have Y_328 := Y3.ext E324
          have V0_330 := V0.ext E324
          have Ey0_331 := Ey0.ext E324
          have Ey1_332 := Ey1.ext E324
          have Ey2_333 := Ey2.ext E324
          have Ey3_334 := Ey3.ext E324
          have K324 := K0.ext E324
          have n0_324 : n0 ≤ h324.size := Nat.le_trans Z0 E324.1
          have R_324 := R0.trans Rn324
          have Yn324 : own_len Z h324 sa324 (0 : Int32) := ⟨_, _, _, A324, fv324, V324⟩
          exact W.retAH X324 C rfl e324 rfl d8_36 (by decide) (by decide) hS324 hk324 (own_EL hw) R_324 ⟨_, rfl, N322, K324, Or.inr (Or.inr (Or.inr (Or.inr (⟨hc317, hc319, hc321, hc323, Yn324⟩))))⟩
        · replace hc323 : (if m3 = 0 then (1 : Int32) else 0) = 0 := hc323
          replace hc323 := own_ite0 hc323
          refine W.aload (q := 27) X322 C d8_25 rfl rfl rfl ?_
          exact W.retAH X322 C rfl e322 rfl d8_27 (by decide) (by decide) hS0 hk0 (own_EL hw) R0 ⟨_, rfl, N322, K0, Or.inr (Or.inr (Or.inr (Or.inl ⟨hc317, hc319, hc321, hc323, rfl⟩)))⟩
      · replace hc321 : (if m2 = 0 then (1 : Int32) else 0) = 0 := hc321
        replace hc321 := own_ite0 hc321
        refine W.aload (q := 27) X320 C d8_25 rfl rfl rfl ?_
        exact W.retAH X320 C rfl e320 rfl d8_27 (by decide) (by decide) hS0 hk0 (own_EL hw) R0 ⟨_, rfl, N320, K0, Or.inr (Or.inr (Or.inl ⟨hc317, hc319, hc321, rfl⟩))⟩
    · replace hc319 : (if m1 = 0 then (1 : Int32) else 0) = 0 := hc319
      replace hc319 := own_ite0 hc319
      refine W.aload (q := 27) X318 C d8_25 rfl rfl rfl ?_
      exact W.retAH X318 C rfl e318 rfl d8_27 (by decide) (by decide) hS0 hk0 (own_EL hw) R0 ⟨_, rfl, N318, K0, Or.inr (Or.inl ⟨hc317, hc319, rfl⟩)⟩
  · replace hc317 : (if m0 = 0 then (1 : Int32) else 0) = 0 := hc317
    replace hc317 := own_ite0 hc317
    refine W.aload (q := 27) X316 C d8_25 rfl rfl rfl ?_
    exact W.retAH X316 C rfl e316 rfl d8_27 (by decide) (by decide) hS0 hk0 (own_EL hw) R0 ⟨_, rfl, N316, K0, Or.inl ⟨hc317, rfl⟩⟩
theorem pd__28_5bLjava_2flang_2fString_3b_29Ljava_2flang_2fString_3b : parseMethodDescriptor "([Ljava/lang/String;)Ljava/lang/String;" = some ⟨[(.array (.object "java/lang/String"))], some (.object "java/lang/String")⟩ := by decide +kernel
set_option maxRecDepth 65536 in
set_option maxHeartbeats 40000000 in
theorem own_p33 (l : Launch) (Z : State) (a0 : Array Value) (hw : ∀ d ∈ tables_1, d.before a0 Z = true) (h0 : Heap) (n0 : Nat) (p0 p1 p2 p3 p4 n_ m0 m1 m2 m3 : Int32) (s0 s1 s2 s3 : Addr) (vm0 : Vm) (kk cc cs : Nat) (hcc : cc ≤ 20) (hcs : cs ≤ 200) {p : Program} {e : Env} {s : State} {m : MethodId} {args : Array Value} {below : List Frame} {meth : Method} {c : Code} {T0 : State} {locs : List Loc}
    (C : W.Cx p (s.setVm vm0) m meth c Z code 13 "com/example/orderwire/orderwire/imaging/FieldsFirstNonEmptyPinLaw" "law" (some .boolean)) (X0 : Stand p l e room_1 (s.setVm vm0) m args below meth c T0 locs cc cs) (e0 : T0.heap = h0) (N0 : Fr n0 locs) (Z0 : n0 ≤ h0.size) (hS0 : s.Since vm0 kk) (hk0 : kk ≤ h0.size) (H0 : CHv Z own_el vm0 h0) (hn : n_ = 0 ∨ n_ = 1 ∨ n_ = 2 ∨ n_ = 3 ∨ n_ = 4) (Y0 : own_len Z h0 s0 m0) (Y1 : own_len Z h0 s1 m1) (Y2 : own_len Z h0 s2 m2) (Y3 : own_len Z h0 s3 m3) :
    W.Go p e below (W.PostW s (fun v h L => v = some (.int 1) ∧ Fr n0 L) room_1.cells room_1.slots) (T0.setTop (mkF m 33 #[.val (.int p0), .val (.int p1), .val (.int p2), .val (.int p3), .val (.int p4), .val (.ref s0), .val (.ref s1), .val (.ref s2), .val (.ref s3), .val (.int n_), .unset, .unset, .unset] [])) := by
  have K0 := Keep.refl h0 []
  have R0 := CHr.refl H0
  have Ey0 := Y0.exa
  have Ey1 := Y1.exa
  have Ey2 := Y2.exa
  have Ey3 := Y3.exa
  rcases hn with rfl | rfl | rfl | rfl | rfl
  · show W.Go p e below _ (T0.setTop (mkF m 33 #[.val (.int p0), .val (.int p1), .val (.int p2), .val (.int p3), .val (.int p4), .val (.ref s0), .val (.ref s1), .val (.ref s2), .val (.ref s3), .val (.int (0 : Int32)), .unset, .unset, .unset] []))
    refine W.iload (q := 35) X0 C at_33 rfl rfl ?_
    refine W.ifF (q := 38) X0 C at_35 rfl (by decide : W.cF .ne (0 : Int32) 0) ?_
    refine W.iconst (q := 39) (v := 0) X0 C at_38 rfl rfl ?_
    refine W.anewarray (q := 42) X0 C (W.ww hw 12 rfl) (W.ww hw 38 rfl) e0 (by decide) 0 (by decide) (by decide) at_39 (by first | omega | (simp only [room_1]; omega) | (dsimp only; omega)) (by first | omega | (simp only [room_1]; omega) | (dsimp only; omega)) rfl (fun T335 h335 b335 k335 X335 e335 g335 E335 Ov335 V335_ => ?_)
    have ne_s0_b335 : s0 ≠ b335 := by rw [g335]; exact Nat.ne_of_lt Ey0.lt
    have ne_s1_b335 : s1 ≠ b335 := by rw [g335]; exact Nat.ne_of_lt Ey1.lt
    have ne_s2_b335 : s2 ≠ b335 := by rw [g335]; exact Nat.ne_of_lt Ey2.lt
    have ne_s3_b335 : s3 ≠ b335 := by rw [g335]; exact Nat.ne_of_lt Ey3.lt
    have ge_b335 : n0 ≤ b335 := by rw [g335]; exact Z0
    have sz_b335 : h0.size ≤ b335 := by rw [g335]; exact K0.1
    have n0_335 : n0 ≤ h335.size := Nat.le_trans Z0 E335.1
    have R_336 := R0.trans (CHr.ext E335 R0.1)
    have hk0_338 := Nat.le_trans hk0 E335.1
    have Ey0_339 := Ey0.ext E335
    have Ey1_340 := Ey1.ext E335
    have Ey2_341 := Ey2.ext E335
    have Ey3_342 := Ey3.ext E335
    have K335 := K0.ext E335
    have V335 : Arv Z h335 b335 k335 (.object "java/lang/String") (0 : Int32) [] .null := V335_
    refine W.astore (q := 44) (L' := #[.val (.int p0), .val (.int p1), .val (.int p2), .val (.int p3), .val (.int p4), .val (.ref s0), .val (.ref s1), .val (.ref s2), .val (.ref s3), .val (.int (0 : Int32)), .val (.ref b335), .unset, .unset]) X335 C at_42 rfl rfl rfl ?_
    refine W.goto (q := 148) X335 C at_44 (by decide) (by decide) ?_
    have Y_343 := Y0.keep0 K335
    have Y_344 := Y1.keep0 K335
    have Y_345 := Y2.keep0 K335
    have Y_346 := Y3.keep0 K335
    refine W.aload (q := 150) X335 C at_148 rfl rfl rfl ?_
    refine W.callSW (q := 153) (s := s) X335 C (W.ww hw 39 rfl) (W.ww hw 40 rfl) (W.ww hw 41 rfl) (W.ww hw 42 rfl) (by decide) (rm8_0 l Z a0 hw [] b335 k335   h335 n0 n0_335 V335 ) e335 hS0 hk0_338 (own_EL hw) R_336.1 at_150 [(.ref b335)] [] rfl rfl pd__28_5bLjava_2flang_2fString_3b_29Ljava_2flang_2fString_3b rfl rfl (by decide) (Nat.le_of_ble_eq_true rfl) (by first | omega | (simp only [room_1]; omega) | (dsimp only; omega)) (by first | omega | (simp only [room_1]; omega) | (dsimp only; omega)) rfl (fun T347 w347 L347 X347 C hS347 hg347 hQ347 Rn347 => ?_)
    obtain ⟨r347, rfl, NL347, K347, D347⟩ := hQ347
    have N347 := Fr.app N0 NL347
    have Y_348 := Y_343.keep0 K347
    have Y_349 := Y_344.keep0 K347
    have Y_350 := Y_345.keep0 K347
    have Y_351 := Y_346.keep0 K347
    have Ey0_353 := Ey0_339.keep K347
    have Ey1_354 := Ey1_340.keep K347
    have Ey2_355 := Ey2_341.keep K347
    have Ey3_356 := Ey3_342.keep K347
    have V335_357 := V335.keep K347 nin0
    have n0_347 : n0 ≤ T347.heap.size := Nat.le_trans n0_335 K347.1
    have R_347 := R_336.trans Rn347
    have hk347 := Nat.le_refl T347.heap.size
    have KK347 := K335.trans K347 all0
    show W.Go p e below _ (T347.setTop (mkF m 153 #[.val (.int p0), .val (.int p1), .val (.int p2), .val (.int p3), .val (.int p4), .val (.ref s0), .val (.ref s1), .val (.ref s2), .val (.ref s3), .val (.int (0 : Int32)), .val (.ref b335), .unset, .unset] [(.ref r347)]))
    refine W.postW hS347 ?_
    have Yr := D347
    have Er := Yr.exa
    show W.Go p e below _ (T347.setTop (mkF m 153 #[.val (.int p0), .val (.int p1), .val (.int p2), .val (.int p3), .val (.int p4), .val (.ref s0), .val (.ref s1), .val (.ref s2), .val (.ref s3), .val (.int (0 : Int32)), .val (.ref b335), .unset, .unset] [(.ref r347)]))
    refine W.astore (q := 155) (L' := #[.val (.int p0), .val (.int p1), .val (.int p2), .val (.int p3), .val (.int p4), .val (.ref s0), .val (.ref s1), .val (.ref s2), .val (.ref s3), .val (.int (0 : Int32)), .val (.ref b335), .val (.ref r347), .unset]) X347 C at_153 rfl rfl rfl ?_
    refine W.aconst (q := 156) X347 C at_155 rfl ?_
    refine W.astore (q := 158) (L' := #[.val (.int p0), .val (.int p1), .val (.int p2), .val (.int p3), .val (.int p4), .val (.ref s0), .val (.ref s1), .val (.ref s2), .val (.ref s3), .val (.int (0 : Int32)), .val (.ref b335), .val (.ref r347), .val .null]) X347 C at_156 rfl rfl rfl ?_
    refine W.iload (q := 160) X347 C at_158 rfl rfl ?_
    refine W.iconst (q := 161) (v := 1) X347 C at_160 rfl rfl ?_
    refine W.icmpT (q := 179) X347 C at_161 (by decide) (by decide) (by decide : W.cT .lt (0 : Int32) (1 : Int32)) ?_
    refine W.iload (q := 181) X347 C at_179 rfl rfl ?_
    refine W.iconst (q := 182) (v := 2) X347 C at_181 rfl rfl ?_
    refine W.icmpT (q := 200) X347 C at_182 (by decide) (by decide) (by decide : W.cT .lt (0 : Int32) (2 : Int32)) ?_
    refine W.iload (q := 202) X347 C at_200 rfl rfl ?_
    refine W.iconst (q := 203) (v := 3) X347 C at_202 rfl rfl ?_
    refine W.icmpT (q := 221) X347 C at_203 (by decide) (by decide) (by decide : W.cT .lt (0 : Int32) (3 : Int32)) ?_
    refine W.iload (q := 223) X347 C at_221 rfl rfl ?_
    refine W.iconst (q := 224) (v := 4) X347 C at_223 rfl rfl ?_
    refine W.icmpT (q := 239) X347 C at_224 (by decide) (by decide) (by decide : W.cT .lt (0 : Int32) (4 : Int32)) ?_
    refine W.aload (q := 241) X347 C at_239 rfl rfl rfl ?_
    refine W.ifnonnullF (q := 244) X347 C at_241 rfl ?_
    refine W.aload (q := 246) X347 C at_244 rfl rfl rfl ?_
    refine W.ifnullF (q := 249) X347 C at_246 rfl ?_
    refine W.aload (q := 251) X347 C at_249 rfl rfl rfl ?_
    refine W.callV (q := 254) X347 C (W.ww hw 44 rfl) (W.ww hw 45 rfl) (W.nf C (W.ww hw 47 rfl)) (W.ww hw 47 rfl) (W.ww hw 46 rfl) (W.ww hw 5 rfl) (W.ww hw 48 rfl) (by decide) (rm9 l Z a0 hw [] r347 (0 : Int32) T347.heap n0 Yr) rfl Er at_251 [] [] rfl rfl pd__28_29Z rfl rfl (by decide) (Nat.le_of_ble_eq_true rfl) (by first | omega | (simp only [room_1]; omega) | (dsimp only; omega)) (by first | omega | (simp only [room_1]; omega) | (dsimp only; omega)) rfl (fun T358 w358 L358 X358 hQ358 => ?_)
    obtain ⟨rfl, NL358, e358⟩ := hQ358
    have N358 := Fr.app N347 NL358
    rw [show (if (0 : Int32) = 0 then (1 : Int32) else 0) = (1 : Int32) from if_pos rfl]
    show W.Go p e below _ (T358.setTop (mkF m 254 #[.val (.int p0), .val (.int p1), .val (.int p2), .val (.int p3), .val (.int p4), .val (.ref s0), .val (.ref s1), .val (.ref s2), .val (.ref s3), .val (.int (0 : Int32)), .val (.ref b335), .val (.ref r347), .val .null] [(.int (1 : Int32))]))
    refine W.ifF (q := 257) X358 C at_254 rfl (by decide : W.cF .eq (1 : Int32) 0) ?_
    refine W.iconst (q := 258) (v := 1) X358 C at_257 rfl rfl ?_
    refine W.goto (q := 262) X358 C at_258 (by decide) (by decide) ?_
    exact W.retN X358 C (by simp) e358 at_262 rfl (by first | omega | (simp only [room_1]; omega) | (dsimp only; omega)) (by first | omega | (simp only [room_1]; omega) | (dsimp only; omega)) ⟨⟨rfl, N358⟩, hk347⟩
  · show W.Go p e below _ (T0.setTop (mkF m 33 #[.val (.int p0), .val (.int p1), .val (.int p2), .val (.int p3), .val (.int p4), .val (.ref s0), .val (.ref s1), .val (.ref s2), .val (.ref s3), .val (.int (1 : Int32)), .unset, .unset, .unset] []))
    refine W.iload (q := 35) X0 C at_33 rfl rfl ?_
    refine W.ifT (q := 47) X0 C at_35 (by decide) (by decide) (by decide : W.cT .ne (1 : Int32) 0) ?_
    refine W.iload (q := 49) X0 C at_47 rfl rfl ?_
    refine W.iconst (q := 50) (v := 1) X0 C at_49 rfl rfl ?_
    refine W.icmpF (q := 53) X0 C at_50 rfl (by decide : W.cF .ne (1 : Int32) (1 : Int32)) ?_
    refine W.iconst (q := 54) (v := 1) X0 C at_53 rfl rfl ?_
    refine W.anewarray (q := 57) X0 C (W.ww hw 12 rfl) (W.ww hw 38 rfl) e0 (by decide) 1 (by decide) (by decide) at_54 (by first | omega | (simp only [room_1]; omega) | (dsimp only; omega)) (by first | omega | (simp only [room_1]; omega) | (dsimp only; omega)) rfl (fun T359 h359 b359 k359 X359 e359 g359 E359 Ov359 V359_ => ?_)
    have ne_s0_b359 : s0 ≠ b359 := by rw [g359]; exact Nat.ne_of_lt Ey0.lt
    have ne_s1_b359 : s1 ≠ b359 := by rw [g359]; exact Nat.ne_of_lt Ey1.lt
    have ne_s2_b359 : s2 ≠ b359 := by rw [g359]; exact Nat.ne_of_lt Ey2.lt
    have ne_s3_b359 : s3 ≠ b359 := by rw [g359]; exact Nat.ne_of_lt Ey3.lt
    have ge_b359 : n0 ≤ b359 := by rw [g359]; exact Z0
    have sz_b359 : h0.size ≤ b359 := by rw [g359]; exact K0.1
    have n0_359 : n0 ≤ h359.size := Nat.le_trans Z0 E359.1
    have R_360 := R0.trans (CHr.ext E359 R0.1)
    have hk0_362 := Nat.le_trans hk0 E359.1
    have Ey0_363 := Ey0.ext E359
    have Ey1_364 := Ey1.ext E359
    have Ey2_365 := Ey2.ext E359
    have Ey3_366 := Ey3.ext E359
    have K359 := K0.ext E359
    have V359 : Arv Z h359 b359 k359 (.object "java/lang/String") (1 : Int32) [.null] .null := V359_
    refine W.dup (q := 58) X359 C at_57 rfl rfl ?_
    refine W.iconst (q := 59) (v := 0) X359 C at_58 rfl rfl ?_
    refine W.aload (q := 61) X359 C at_59 rfl rfl rfl ?_
    refine W.aastore (q := 62) X359 C e359 rfl rfl V359 (fun cl A q => Sto.ofV A q Ov359 (Ins.self Ey0_363))  (by decide) (by decide) (Nat.le_of_ble_eq_true rfl) at_61 rfl (fun T367 h367 X367 e367 W367 V367_ => ?_)
    have R_368 := R_360.trans (CHr.wr W367 (Safe.arv C.2.1.alike V359 nofun) R_360.1)
    have hk0_370 := Nat.le_trans hk0_362 (Nat.le_of_eq W367.size.symm)
    have Ey0_371 := Ey0_363.wr W367
    have Ey1_372 := Ey1_364.wr W367
    have Ey2_373 := Ey2_365.wr W367
    have Ey3_374 := Ey3_366.wr W367
    have V367 : Arv Z h367 b359 k359 (.object "java/lang/String") (1 : Int32) [(.ref s0)] .null := V367_
    have N367 := Fr.snoc X367 N0 ge_b359
    have K367 := K359.wr W367 (Or.inr sz_b359)
    have n0_367 : n0 ≤ h367.size := by rw [W367.size]; exact n0_359
    refine W.astore (q := 64) (L' := #[.val (.int p0), .val (.int p1), .val (.int p2), .val (.int p3), .val (.int p4), .val (.ref s0), .val (.ref s1), .val (.ref s2), .val (.ref s3), .val (.int (1 : Int32)), .val (.ref b359), .unset, .unset]) X367 C at_62 rfl rfl rfl ?_
    refine W.goto (q := 148) X367 C at_64 (by decide) (by decide) ?_
    have Y_376 := Y0.keep0 K367
    have Y_377 := Y1.keep0 K367
    have Y_378 := Y2.keep0 K367
    have Y_379 := Y3.keep0 K367
    refine W.aload (q := 150) X367 C at_148 rfl rfl rfl ?_
    refine W.callSW (q := 153) (s := s) X367 C (W.ww hw 39 rfl) (W.ww hw 40 rfl) (W.ww hw 41 rfl) (W.ww hw 42 rfl) (by decide) (rm8_1 l Z a0 hw [] b359 k359 s0 m0 h367 n0 n0_367 V367 Y_376) e367 hS0 hk0_370 (own_EL hw) R_368.1 at_150 [(.ref b359)] [] rfl rfl pd__28_5bLjava_2flang_2fString_3b_29Ljava_2flang_2fString_3b rfl rfl (by decide) (Nat.le_of_ble_eq_true rfl) (by first | omega | (simp only [room_1]; omega) | (dsimp only; omega)) (by first | omega | (simp only [room_1]; omega) | (dsimp only; omega)) rfl (fun T380 w380 L380 X380 C hS380 hg380 hQ380 Rn380 => ?_)
    obtain ⟨r380, rfl, NL380, K380, D380⟩ := hQ380
    have N380 := Fr.app N367 NL380
    have Y_381 := Y_376.keep0 K380
    have Y_382 := Y_377.keep0 K380
    have Y_383 := Y_378.keep0 K380
    have Y_384 := Y_379.keep0 K380
    have Ey0_386 := Ey0_371.keep K380
    have Ey1_387 := Ey1_372.keep K380
    have Ey2_388 := Ey2_373.keep K380
    have Ey3_389 := Ey3_374.keep K380
    have V367_390 := V367.keep K380 nin0
    have n0_380 : n0 ≤ T380.heap.size := Nat.le_trans n0_367 K380.1
    have R_380 := R_368.trans Rn380
    have hk380 := Nat.le_refl T380.heap.size
    have KK380 := K367.trans K380 all0
    show W.Go p e below _ (T380.setTop (mkF m 153 #[.val (.int p0), .val (.int p1), .val (.int p2), .val (.int p3), .val (.int p4), .val (.ref s0), .val (.ref s1), .val (.ref s2), .val (.ref s3), .val (.int (1 : Int32)), .val (.ref b359), .unset, .unset] [(.ref r380)]))
    refine W.postW hS380 ?_
    rcases D380 with ⟨z0, hr⟩ | ⟨z0, Yr⟩
    · rw [hr]
      show W.Go p e below _ (T380.setTop (mkF m 153 #[.val (.int p0), .val (.int p1), .val (.int p2), .val (.int p3), .val (.int p4), .val (.ref s0), .val (.ref s1), .val (.ref s2), .val (.ref s3), .val (.int (1 : Int32)), .val (.ref b359), .unset, .unset] [(.ref s0)]))
      refine W.astore (q := 155) (L' := #[.val (.int p0), .val (.int p1), .val (.int p2), .val (.int p3), .val (.int p4), .val (.ref s0), .val (.ref s1), .val (.ref s2), .val (.ref s3), .val (.int (1 : Int32)), .val (.ref b359), .val (.ref s0), .unset]) X380 C at_153 rfl rfl rfl ?_
      refine W.aconst (q := 156) X380 C at_155 rfl ?_
      refine W.astore (q := 158) (L' := #[.val (.int p0), .val (.int p1), .val (.int p2), .val (.int p3), .val (.int p4), .val (.ref s0), .val (.ref s1), .val (.ref s2), .val (.ref s3), .val (.int (1 : Int32)), .val (.ref b359), .val (.ref s0), .val .null]) X380 C at_156 rfl rfl rfl ?_
      refine W.iload (q := 160) X380 C at_158 rfl rfl ?_
      refine W.iconst (q := 161) (v := 1) X380 C at_160 rfl rfl ?_
      refine W.icmpF (q := 164) X380 C at_161 rfl (by decide : W.cF .lt (1 : Int32) (1 : Int32)) ?_
      refine W.aload (q := 166) X380 C at_164 rfl rfl rfl ?_
      refine W.callV (q := 169) X380 C (W.ww hw 44 rfl) (W.ww hw 45 rfl) (W.nf C (W.ww hw 47 rfl)) (W.ww hw 47 rfl) (W.ww hw 46 rfl) (W.ww hw 5 rfl) (W.ww hw 48 rfl) (by decide) (rm9 l Z a0 hw [] s0 m0 T380.heap n0 Y_381) rfl Ey0_386 at_166 [] [] rfl rfl pd__28_29Z rfl rfl (by decide) (Nat.le_of_ble_eq_true rfl) (by first | omega | (simp only [room_1]; omega) | (dsimp only; omega)) (by first | omega | (simp only [room_1]; omega) | (dsimp only; omega)) rfl (fun T391 w391 L391 X391 hQ391 => ?_)
      obtain ⟨rfl, NL391, e391⟩ := hQ391
      have N391 := Fr.app N380 NL391
      rw [show (if m0 = 0 then (1 : Int32) else 0) = (0 : Int32) from if_neg z0]
      show W.Go p e below _ (T391.setTop (mkF m 169 #[.val (.int p0), .val (.int p1), .val (.int p2), .val (.int p3), .val (.int p4), .val (.ref s0), .val (.ref s1), .val (.ref s2), .val (.ref s3), .val (.int (1 : Int32)), .val (.ref b359), .val (.ref s0), .val .null] [(.int (0 : Int32))]))
      refine W.ifF (q := 172) X391 C at_169 rfl (by decide : W.cF .ne (0 : Int32) 0) ?_
      refine W.aload (q := 174) X391 C at_172 rfl rfl rfl ?_
      refine W.astore (q := 176) (L' := #[.val (.int p0), .val (.int p1), .val (.int p2), .val (.int p3), .val (.int p4), .val (.ref s0), .val (.ref s1), .val (.ref s2), .val (.ref s3), .val (.int (1 : Int32)), .val (.ref b359), .val (.ref s0), .val (.ref s0)]) X391 C at_174 rfl rfl rfl ?_
      refine W.goto (q := 239) X391 C at_176 (by decide) (by decide) ?_
      refine W.aload (q := 241) X391 C at_239 rfl rfl rfl ?_
      refine W.ifnonnullT (q := 263) X391 C at_241 (by decide) (by decide) ?_
      refine W.aload (q := 265) X391 C at_263 rfl rfl rfl ?_
      refine W.aload (q := 267) X391 C at_265 rfl rfl rfl ?_
      refine W.acmp (q := 270) X391 C rfl rfl (same := true) (decide_eq_true rfl) at_267 (by decide) (by decide) ?_
      refine W.iconst (q := 271) (v := 1) X391 C at_270 rfl rfl ?_
      refine W.goto (q := 275) X391 C at_271 (by decide) (by decide) ?_
      exact W.retN X391 C (by simp) e391 at_275 rfl (by first | omega | (simp only [room_1]; omega) | (dsimp only; omega)) (by first | omega | (simp only [room_1]; omega) | (dsimp only; omega)) ⟨⟨rfl, N391⟩, hk380⟩
    · have Er := Yr.exa
      refine W.astore (q := 155) (L' := #[.val (.int p0), .val (.int p1), .val (.int p2), .val (.int p3), .val (.int p4), .val (.ref s0), .val (.ref s1), .val (.ref s2), .val (.ref s3), .val (.int (1 : Int32)), .val (.ref b359), .val (.ref r380), .unset]) X380 C at_153 rfl rfl rfl ?_
      refine W.aconst (q := 156) X380 C at_155 rfl ?_
      refine W.astore (q := 158) (L' := #[.val (.int p0), .val (.int p1), .val (.int p2), .val (.int p3), .val (.int p4), .val (.ref s0), .val (.ref s1), .val (.ref s2), .val (.ref s3), .val (.int (1 : Int32)), .val (.ref b359), .val (.ref r380), .val .null]) X380 C at_156 rfl rfl rfl ?_
      refine W.iload (q := 160) X380 C at_158 rfl rfl ?_
      refine W.iconst (q := 161) (v := 1) X380 C at_160 rfl rfl ?_
      refine W.icmpF (q := 164) X380 C at_161 rfl (by decide : W.cF .lt (1 : Int32) (1 : Int32)) ?_
      refine W.aload (q := 166) X380 C at_164 rfl rfl rfl ?_
      refine W.callV (q := 169) X380 C (W.ww hw 44 rfl) (W.ww hw 45 rfl) (W.nf C (W.ww hw 47 rfl)) (W.ww hw 47 rfl) (W.ww hw 46 rfl) (W.ww hw 5 rfl) (W.ww hw 48 rfl) (by decide) (rm9 l Z a0 hw [] s0 m0 T380.heap n0 Y_381) rfl Ey0_386 at_166 [] [] rfl rfl pd__28_29Z rfl rfl (by decide) (Nat.le_of_ble_eq_true rfl) (by first | omega | (simp only [room_1]; omega) | (dsimp only; omega)) (by first | omega | (simp only [room_1]; omega) | (dsimp only; omega)) rfl (fun T392 w392 L392 X392 hQ392 => ?_)
      obtain ⟨rfl, NL392, e392⟩ := hQ392
      have N392 := Fr.app N380 NL392
      rw [show (if m0 = 0 then (1 : Int32) else 0) = (1 : Int32) from if_pos z0]
      show W.Go p e below _ (T392.setTop (mkF m 169 #[.val (.int p0), .val (.int p1), .val (.int p2), .val (.int p3), .val (.int p4), .val (.ref s0), .val (.ref s1), .val (.ref s2), .val (.ref s3), .val (.int (1 : Int32)), .val (.ref b359), .val (.ref r380), .val .null] [(.int (1 : Int32))]))
      refine W.ifT (q := 179) X392 C at_169 (by decide) (by decide) (by decide : W.cT .ne (1 : Int32) 0) ?_
      refine W.iload (q := 181) X392 C at_179 rfl rfl ?_
      refine W.iconst (q := 182) (v := 2) X392 C at_181 rfl rfl ?_
      refine W.icmpT (q := 200) X392 C at_182 (by decide) (by decide) (by decide : W.cT .lt (1 : Int32) (2 : Int32)) ?_
      refine W.iload (q := 202) X392 C at_200 rfl rfl ?_
      refine W.iconst (q := 203) (v := 3) X392 C at_202 rfl rfl ?_
      refine W.icmpT (q := 221) X392 C at_203 (by decide) (by decide) (by decide : W.cT .lt (1 : Int32) (3 : Int32)) ?_
      refine W.iload (q := 223) X392 C at_221 rfl rfl ?_
      refine W.iconst (q := 224) (v := 4) X392 C at_223 rfl rfl ?_
      refine W.icmpT (q := 239) X392 C at_224 (by decide) (by decide) (by decide : W.cT .lt (1 : Int32) (4 : Int32)) ?_
      refine W.aload (q := 241) X392 C at_239 rfl rfl rfl ?_
      refine W.ifnonnullF (q := 244) X392 C at_241 rfl ?_
      refine W.aload (q := 246) X392 C at_244 rfl rfl rfl ?_
      refine W.ifnullF (q := 249) X392 C at_246 rfl ?_
      refine W.aload (q := 251) X392 C at_249 rfl rfl rfl ?_
      refine W.callV (q := 254) X392 C (W.ww hw 44 rfl) (W.ww hw 45 rfl) (W.nf C (W.ww hw 47 rfl)) (W.ww hw 47 rfl) (W.ww hw 46 rfl) (W.ww hw 5 rfl) (W.ww hw 48 rfl) (by decide) (rm9 l Z a0 hw [] r380 (0 : Int32) T380.heap n0 Yr) e392 Er at_251 [] [] rfl rfl pd__28_29Z rfl rfl (by decide) (Nat.le_of_ble_eq_true rfl) (by first | omega | (simp only [room_1]; omega) | (dsimp only; omega)) (by first | omega | (simp only [room_1]; omega) | (dsimp only; omega)) rfl (fun T393 w393 L393 X393 hQ393 => ?_)
      obtain ⟨rfl, NL393, e393⟩ := hQ393
      have N393 := Fr.app N392 NL393
      rw [show (if (0 : Int32) = 0 then (1 : Int32) else 0) = (1 : Int32) from if_pos rfl]
      show W.Go p e below _ (T393.setTop (mkF m 254 #[.val (.int p0), .val (.int p1), .val (.int p2), .val (.int p3), .val (.int p4), .val (.ref s0), .val (.ref s1), .val (.ref s2), .val (.ref s3), .val (.int (1 : Int32)), .val (.ref b359), .val (.ref r380), .val .null] [(.int (1 : Int32))]))
      refine W.ifF (q := 257) X393 C at_254 rfl (by decide : W.cF .eq (1 : Int32) 0) ?_
      refine W.iconst (q := 258) (v := 1) X393 C at_257 rfl rfl ?_
      refine W.goto (q := 262) X393 C at_258 (by decide) (by decide) ?_
      exact W.retN X393 C (by simp) e393 at_262 rfl (by first | omega | (simp only [room_1]; omega) | (dsimp only; omega)) (by first | omega | (simp only [room_1]; omega) | (dsimp only; omega)) ⟨⟨rfl, N393⟩, hk380⟩
  · show W.Go p e below _ (T0.setTop (mkF m 33 #[.val (.int p0), .val (.int p1), .val (.int p2), .val (.int p3), .val (.int p4), .val (.ref s0), .val (.ref s1), .val (.ref s2), .val (.ref s3), .val (.int (2 : Int32)), .unset, .unset, .unset] []))
    refine W.iload (q := 35) X0 C at_33 rfl rfl ?_
    refine W.ifT (q := 47) X0 C at_35 (by decide) (by decide) (by decide : W.cT .ne (2 : Int32) 0) ?_
    refine W.iload (q := 49) X0 C at_47 rfl rfl ?_
    refine W.iconst (q := 50) (v := 1) X0 C at_49 rfl rfl ?_
    refine W.icmpT (q := 67) X0 C at_50 (by decide) (by decide) (by decide : W.cT .ne (2 : Int32) (1 : Int32)) ?_
    refine W.iload (q := 69) X0 C at_67 rfl rfl ?_
    refine W.iconst (q := 70) (v := 2) X0 C at_69 rfl rfl ?_
    refine W.icmpF (q := 73) X0 C at_70 rfl (by decide : W.cF .ne (2 : Int32) (2 : Int32)) ?_
    refine W.iconst (q := 74) (v := 2) X0 C at_73 rfl rfl ?_
    refine W.anewarray (q := 77) X0 C (W.ww hw 12 rfl) (W.ww hw 38 rfl) e0 (by decide) 2 (by decide) (by decide) at_74 (by first | omega | (simp only [room_1]; omega) | (dsimp only; omega)) (by first | omega | (simp only [room_1]; omega) | (dsimp only; omega)) rfl (fun T394 h394 b394 k394 X394 e394 g394 E394 Ov394 V394_ => ?_)
    have ne_s0_b394 : s0 ≠ b394 := by rw [g394]; exact Nat.ne_of_lt Ey0.lt
    have ne_s1_b394 : s1 ≠ b394 := by rw [g394]; exact Nat.ne_of_lt Ey1.lt
    have ne_s2_b394 : s2 ≠ b394 := by rw [g394]; exact Nat.ne_of_lt Ey2.lt
    have ne_s3_b394 : s3 ≠ b394 := by rw [g394]; exact Nat.ne_of_lt Ey3.lt
    have ge_b394 : n0 ≤ b394 := by rw [g394]; exact Z0
    have sz_b394 : h0.size ≤ b394 := by rw [g394]; exact K0.1
    have n0_394 : n0 ≤ h394.size := Nat.le_trans Z0 E394.1
    have R_395 := R0.trans (CHr.ext E394 R0.1)
    have hk0_397 := Nat.le_trans hk0 E394.1
    have Ey0_398 := Ey0.ext E394
    have Ey1_399 := Ey1.ext E394
    have Ey2_400 := Ey2.ext E394
    have Ey3_401 := Ey3.ext E394
    have K394 := K0.ext E394
    have V394 : Arv Z h394 b394 k394 (.object "java/lang/String") (2 : Int32) [.null, .null] .null := V394_
    refine W.dup (q := 78) X394 C at_77 rfl rfl ?_
    refine W.iconst (q := 79) (v := 0) X394 C at_78 rfl rfl ?_
    refine W.aload (q := 81) X394 C at_79 rfl rfl rfl ?_
    refine W.aastore (q := 82) X394 C e394 rfl rfl V394 (fun cl A q => Sto.ofV A q Ov394 (Ins.self Ey0_398))  (by decide) (by decide) (Nat.le_of_ble_eq_true rfl) at_81 rfl (fun T402 h402 X402 e402 W402 V402_ => ?_)
    have R_403 := R_395.trans (CHr.wr W402 (Safe.arv C.2.1.alike V394 nofun) R_395.1)
    have hk0_405 := Nat.le_trans hk0_397 (Nat.le_of_eq W402.size.symm)
    have Ey0_406 := Ey0_398.wr W402
    have Ey1_407 := Ey1_399.wr W402
    have Ey2_408 := Ey2_400.wr W402
    have Ey3_409 := Ey3_401.wr W402
    have V402 : Arv Z h402 b394 k394 (.object "java/lang/String") (2 : Int32) [(.ref s0), .null] .null := V402_
    have N402 := Fr.snoc X402 N0 ge_b394
    have K402 := K394.wr W402 (Or.inr sz_b394)
    have n0_402 : n0 ≤ h402.size := by rw [W402.size]; exact n0_394
    refine W.dup (q := 83) X402 C at_82 rfl rfl ?_
    refine W.iconst (q := 84) (v := 1) X402 C at_83 rfl rfl ?_
    refine W.aload (q := 86) X402 C at_84 rfl rfl rfl ?_
    refine W.aastore (q := 87) X402 C e402 rfl rfl V402 (fun cl A q => Sto.ofV A q Ov394 (Ins.self Ey1_407))  (by decide) (by decide) (Nat.le_of_ble_eq_true rfl) at_86 rfl (fun T411 h411 X411 e411 W411 V411_ => ?_)
    have R_412 := R_403.trans (CHr.wr W411 (Safe.arv C.2.1.alike V402 nofun) R_403.1)
    have hk0_414 := Nat.le_trans hk0_405 (Nat.le_of_eq W411.size.symm)
    have Ey0_415 := Ey0_406.wr W411
    have Ey1_416 := Ey1_407.wr W411
    have Ey2_417 := Ey2_408.wr W411
    have Ey3_418 := Ey3_409.wr W411
    have V411 : Arv Z h411 b394 k394 (.object "java/lang/String") (2 : Int32) [(.ref s0), (.ref s1)] .null := V411_
    have N411 := Fr.snoc X411 N402 ge_b394
    have K411 := K402.wr W411 (Or.inr sz_b394)
    have n0_411 : n0 ≤ h411.size := by rw [W411.size]; exact n0_402
    refine W.astore (q := 89) (L' := #[.val (.int p0), .val (.int p1), .val (.int p2), .val (.int p3), .val (.int p4), .val (.ref s0), .val (.ref s1), .val (.ref s2), .val (.ref s3), .val (.int (2 : Int32)), .val (.ref b394), .unset, .unset]) X411 C at_87 rfl rfl rfl ?_
    refine W.goto (q := 148) X411 C at_89 (by decide) (by decide) ?_
    have Y_420 := Y0.keep0 K411
    have Y_421 := Y1.keep0 K411
    have Y_422 := Y2.keep0 K411
    have Y_423 := Y3.keep0 K411
    refine W.aload (q := 150) X411 C at_148 rfl rfl rfl ?_
    refine W.callSW (q := 153) (s := s) X411 C (W.ww hw 39 rfl) (W.ww hw 40 rfl) (W.ww hw 41 rfl) (W.ww hw 42 rfl) (by decide) (rm8_2 l Z a0 hw [] b394 k394 s0 s1 m0 m1 h411 n0 n0_411 V411 Y_420 Y_421) e411 hS0 hk0_414 (own_EL hw) R_412.1 at_150 [(.ref b394)] [] rfl rfl pd__28_5bLjava_2flang_2fString_3b_29Ljava_2flang_2fString_3b rfl rfl (by decide) (Nat.le_of_ble_eq_true rfl) (by first | omega | (simp only [room_1]; omega) | (dsimp only; omega)) (by first | omega | (simp only [room_1]; omega) | (dsimp only; omega)) rfl (fun T424 w424 L424 X424 C hS424 hg424 hQ424 Rn424 => ?_)
    obtain ⟨r424, rfl, NL424, K424, D424⟩ := hQ424
    have N424 := Fr.app N411 NL424
    have Y_425 := Y_420.keep0 K424
    have Y_426 := Y_421.keep0 K424
    have Y_427 := Y_422.keep0 K424
    have Y_428 := Y_423.keep0 K424
    have Ey0_430 := Ey0_415.keep K424
    have Ey1_431 := Ey1_416.keep K424
    have Ey2_432 := Ey2_417.keep K424
    have Ey3_433 := Ey3_418.keep K424
    have V411_434 := V411.keep K424 nin0
    have n0_424 : n0 ≤ T424.heap.size := Nat.le_trans n0_411 K424.1
    have R_424 := R_412.trans Rn424
    have hk424 := Nat.le_refl T424.heap.size
    have KK424 := K411.trans K424 all0
    show W.Go p e below _ (T424.setTop (mkF m 153 #[.val (.int p0), .val (.int p1), .val (.int p2), .val (.int p3), .val (.int p4), .val (.ref s0), .val (.ref s1), .val (.ref s2), .val (.ref s3), .val (.int (2 : Int32)), .val (.ref b394), .unset, .unset] [(.ref r424)]))
    refine W.postW hS424 ?_
    rcases D424 with ⟨z0, hr⟩ | ⟨z0, z1, hr⟩ | ⟨z0, z1, Yr⟩
    · rw [hr]
      show W.Go p e below _ (T424.setTop (mkF m 153 #[.val (.int p0), .val (.int p1), .val (.int p2), .val (.int p3), .val (.int p4), .val (.ref s0), .val (.ref s1), .val (.ref s2), .val (.ref s3), .val (.int (2 : Int32)), .val (.ref b394), .unset, .unset] [(.ref s0)]))
      refine W.astore (q := 155) (L' := #[.val (.int p0), .val (.int p1), .val (.int p2), .val (.int p3), .val (.int p4), .val (.ref s0), .val (.ref s1), .val (.ref s2), .val (.ref s3), .val (.int (2 : Int32)), .val (.ref b394), .val (.ref s0), .unset]) X424 C at_153 rfl rfl rfl ?_
      refine W.aconst (q := 156) X424 C at_155 rfl ?_
      refine W.astore (q := 158) (L' := #[.val (.int p0), .val (.int p1), .val (.int p2), .val (.int p3), .val (.int p4), .val (.ref s0), .val (.ref s1), .val (.ref s2), .val (.ref s3), .val (.int (2 : Int32)), .val (.ref b394), .val (.ref s0), .val .null]) X424 C at_156 rfl rfl rfl ?_
      refine W.iload (q := 160) X424 C at_158 rfl rfl ?_
      refine W.iconst (q := 161) (v := 1) X424 C at_160 rfl rfl ?_
      refine W.icmpF (q := 164) X424 C at_161 rfl (by decide : W.cF .lt (2 : Int32) (1 : Int32)) ?_
      refine W.aload (q := 166) X424 C at_164 rfl rfl rfl ?_
      refine W.callV (q := 169) X424 C (W.ww hw 44 rfl) (W.ww hw 45 rfl) (W.nf C (W.ww hw 47 rfl)) (W.ww hw 47 rfl) (W.ww hw 46 rfl) (W.ww hw 5 rfl) (W.ww hw 48 rfl) (by decide) (rm9 l Z a0 hw [] s0 m0 T424.heap n0 Y_425) rfl Ey0_430 at_166 [] [] rfl rfl pd__28_29Z rfl rfl (by decide) (Nat.le_of_ble_eq_true rfl) (by first | omega | (simp only [room_1]; omega) | (dsimp only; omega)) (by first | omega | (simp only [room_1]; omega) | (dsimp only; omega)) rfl (fun T435 w435 L435 X435 hQ435 => ?_)
      obtain ⟨rfl, NL435, e435⟩ := hQ435
      have N435 := Fr.app N424 NL435
      rw [show (if m0 = 0 then (1 : Int32) else 0) = (0 : Int32) from if_neg z0]
      show W.Go p e below _ (T435.setTop (mkF m 169 #[.val (.int p0), .val (.int p1), .val (.int p2), .val (.int p3), .val (.int p4), .val (.ref s0), .val (.ref s1), .val (.ref s2), .val (.ref s3), .val (.int (2 : Int32)), .val (.ref b394), .val (.ref s0), .val .null] [(.int (0 : Int32))]))
      refine W.ifF (q := 172) X435 C at_169 rfl (by decide : W.cF .ne (0 : Int32) 0) ?_
      refine W.aload (q := 174) X435 C at_172 rfl rfl rfl ?_
      refine W.astore (q := 176) (L' := #[.val (.int p0), .val (.int p1), .val (.int p2), .val (.int p3), .val (.int p4), .val (.ref s0), .val (.ref s1), .val (.ref s2), .val (.ref s3), .val (.int (2 : Int32)), .val (.ref b394), .val (.ref s0), .val (.ref s0)]) X435 C at_174 rfl rfl rfl ?_
      refine W.goto (q := 239) X435 C at_176 (by decide) (by decide) ?_
      refine W.aload (q := 241) X435 C at_239 rfl rfl rfl ?_
      refine W.ifnonnullT (q := 263) X435 C at_241 (by decide) (by decide) ?_
      refine W.aload (q := 265) X435 C at_263 rfl rfl rfl ?_
      refine W.aload (q := 267) X435 C at_265 rfl rfl rfl ?_
      refine W.acmp (q := 270) X435 C rfl rfl (same := true) (decide_eq_true rfl) at_267 (by decide) (by decide) ?_
      refine W.iconst (q := 271) (v := 1) X435 C at_270 rfl rfl ?_
      refine W.goto (q := 275) X435 C at_271 (by decide) (by decide) ?_
      exact W.retN X435 C (by simp) e435 at_275 rfl (by first | omega | (simp only [room_1]; omega) | (dsimp only; omega)) (by first | omega | (simp only [room_1]; omega) | (dsimp only; omega)) ⟨⟨rfl, N435⟩, hk424⟩
    · rw [hr]
      show W.Go p e below _ (T424.setTop (mkF m 153 #[.val (.int p0), .val (.int p1), .val (.int p2), .val (.int p3), .val (.int p4), .val (.ref s0), .val (.ref s1), .val (.ref s2), .val (.ref s3), .val (.int (2 : Int32)), .val (.ref b394), .unset, .unset] [(.ref s1)]))
      refine W.astore (q := 155) (L' := #[.val (.int p0), .val (.int p1), .val (.int p2), .val (.int p3), .val (.int p4), .val (.ref s0), .val (.ref s1), .val (.ref s2), .val (.ref s3), .val (.int (2 : Int32)), .val (.ref b394), .val (.ref s1), .unset]) X424 C at_153 rfl rfl rfl ?_
      refine W.aconst (q := 156) X424 C at_155 rfl ?_
      refine W.astore (q := 158) (L' := #[.val (.int p0), .val (.int p1), .val (.int p2), .val (.int p3), .val (.int p4), .val (.ref s0), .val (.ref s1), .val (.ref s2), .val (.ref s3), .val (.int (2 : Int32)), .val (.ref b394), .val (.ref s1), .val .null]) X424 C at_156 rfl rfl rfl ?_
      refine W.iload (q := 160) X424 C at_158 rfl rfl ?_
      refine W.iconst (q := 161) (v := 1) X424 C at_160 rfl rfl ?_
      refine W.icmpF (q := 164) X424 C at_161 rfl (by decide : W.cF .lt (2 : Int32) (1 : Int32)) ?_
      refine W.aload (q := 166) X424 C at_164 rfl rfl rfl ?_
      refine W.callV (q := 169) X424 C (W.ww hw 44 rfl) (W.ww hw 45 rfl) (W.nf C (W.ww hw 47 rfl)) (W.ww hw 47 rfl) (W.ww hw 46 rfl) (W.ww hw 5 rfl) (W.ww hw 48 rfl) (by decide) (rm9 l Z a0 hw [] s0 m0 T424.heap n0 Y_425) rfl Ey0_430 at_166 [] [] rfl rfl pd__28_29Z rfl rfl (by decide) (Nat.le_of_ble_eq_true rfl) (by first | omega | (simp only [room_1]; omega) | (dsimp only; omega)) (by first | omega | (simp only [room_1]; omega) | (dsimp only; omega)) rfl (fun T436 w436 L436 X436 hQ436 => ?_)
      obtain ⟨rfl, NL436, e436⟩ := hQ436
      have N436 := Fr.app N424 NL436
      rw [show (if m0 = 0 then (1 : Int32) else 0) = (1 : Int32) from if_pos z0]
      show W.Go p e below _ (T436.setTop (mkF m 169 #[.val (.int p0), .val (.int p1), .val (.int p2), .val (.int p3), .val (.int p4), .val (.ref s0), .val (.ref s1), .val (.ref s2), .val (.ref s3), .val (.int (2 : Int32)), .val (.ref b394), .val (.ref s1), .val .null] [(.int (1 : Int32))]))
      refine W.ifT (q := 179) X436 C at_169 (by decide) (by decide) (by decide : W.cT .ne (1 : Int32) 0) ?_
      refine W.iload (q := 181) X436 C at_179 rfl rfl ?_
      refine W.iconst (q := 182) (v := 2) X436 C at_181 rfl rfl ?_
      refine W.icmpF (q := 185) X436 C at_182 rfl (by decide : W.cF .lt (2 : Int32) (2 : Int32)) ?_
      refine W.aload (q := 187) X436 C at_185 rfl rfl rfl ?_
      refine W.callV (q := 190) X436 C (W.ww hw 44 rfl) (W.ww hw 45 rfl) (W.nf C (W.ww hw 47 rfl)) (W.ww hw 47 rfl) (W.ww hw 46 rfl) (W.ww hw 5 rfl) (W.ww hw 48 rfl) (by decide) (rm9 l Z a0 hw [] s1 m1 T424.heap n0 Y_426) e436 Ey1_431 at_187 [] [] rfl rfl pd__28_29Z rfl rfl (by decide) (Nat.le_of_ble_eq_true rfl) (by first | omega | (simp only [room_1]; omega) | (dsimp only; omega)) (by first | omega | (simp only [room_1]; omega) | (dsimp only; omega)) rfl (fun T437 w437 L437 X437 hQ437 => ?_)
      obtain ⟨rfl, NL437, e437⟩ := hQ437
      have N437 := Fr.app N436 NL437
      rw [show (if m1 = 0 then (1 : Int32) else 0) = (0 : Int32) from if_neg z1]
      show W.Go p e below _ (T437.setTop (mkF m 190 #[.val (.int p0), .val (.int p1), .val (.int p2), .val (.int p3), .val (.int p4), .val (.ref s0), .val (.ref s1), .val (.ref s2), .val (.ref s3), .val (.int (2 : Int32)), .val (.ref b394), .val (.ref s1), .val .null] [(.int (0 : Int32))]))
      refine W.ifF (q := 193) X437 C at_190 rfl (by decide : W.cF .ne (0 : Int32) 0) ?_
      refine W.aload (q := 195) X437 C at_193 rfl rfl rfl ?_
      refine W.astore (q := 197) (L' := #[.val (.int p0), .val (.int p1), .val (.int p2), .val (.int p3), .val (.int p4), .val (.ref s0), .val (.ref s1), .val (.ref s2), .val (.ref s3), .val (.int (2 : Int32)), .val (.ref b394), .val (.ref s1), .val (.ref s1)]) X437 C at_195 rfl rfl rfl ?_
      refine W.goto (q := 239) X437 C at_197 (by decide) (by decide) ?_
      refine W.aload (q := 241) X437 C at_239 rfl rfl rfl ?_
      refine W.ifnonnullT (q := 263) X437 C at_241 (by decide) (by decide) ?_
      refine W.aload (q := 265) X437 C at_263 rfl rfl rfl ?_
      refine W.aload (q := 267) X437 C at_265 rfl rfl rfl ?_
      refine W.acmp (q := 270) X437 C rfl rfl (same := true) (decide_eq_true rfl) at_267 (by decide) (by decide) ?_
      refine W.iconst (q := 271) (v := 1) X437 C at_270 rfl rfl ?_
      refine W.goto (q := 275) X437 C at_271 (by decide) (by decide) ?_
      exact W.retN X437 C (by simp) e437 at_275 rfl (by first | omega | (simp only [room_1]; omega) | (dsimp only; omega)) (by first | omega | (simp only [room_1]; omega) | (dsimp only; omega)) ⟨⟨rfl, N437⟩, hk424⟩
    · have Er := Yr.exa
      refine W.astore (q := 155) (L' := #[.val (.int p0), .val (.int p1), .val (.int p2), .val (.int p3), .val (.int p4), .val (.ref s0), .val (.ref s1), .val (.ref s2), .val (.ref s3), .val (.int (2 : Int32)), .val (.ref b394), .val (.ref r424), .unset]) X424 C at_153 rfl rfl rfl ?_
      refine W.aconst (q := 156) X424 C at_155 rfl ?_
      refine W.astore (q := 158) (L' := #[.val (.int p0), .val (.int p1), .val (.int p2), .val (.int p3), .val (.int p4), .val (.ref s0), .val (.ref s1), .val (.ref s2), .val (.ref s3), .val (.int (2 : Int32)), .val (.ref b394), .val (.ref r424), .val .null]) X424 C at_156 rfl rfl rfl ?_
      refine W.iload (q := 160) X424 C at_158 rfl rfl ?_
      refine W.iconst (q := 161) (v := 1) X424 C at_160 rfl rfl ?_
      refine W.icmpF (q := 164) X424 C at_161 rfl (by decide : W.cF .lt (2 : Int32) (1 : Int32)) ?_
      refine W.aload (q := 166) X424 C at_164 rfl rfl rfl ?_
      refine W.callV (q := 169) X424 C (W.ww hw 44 rfl) (W.ww hw 45 rfl) (W.nf C (W.ww hw 47 rfl)) (W.ww hw 47 rfl) (W.ww hw 46 rfl) (W.ww hw 5 rfl) (W.ww hw 48 rfl) (by decide) (rm9 l Z a0 hw [] s0 m0 T424.heap n0 Y_425) rfl Ey0_430 at_166 [] [] rfl rfl pd__28_29Z rfl rfl (by decide) (Nat.le_of_ble_eq_true rfl) (by first | omega | (simp only [room_1]; omega) | (dsimp only; omega)) (by first | omega | (simp only [room_1]; omega) | (dsimp only; omega)) rfl (fun T438 w438 L438 X438 hQ438 => ?_)
      obtain ⟨rfl, NL438, e438⟩ := hQ438
      have N438 := Fr.app N424 NL438
      rw [show (if m0 = 0 then (1 : Int32) else 0) = (1 : Int32) from if_pos z0]
      show W.Go p e below _ (T438.setTop (mkF m 169 #[.val (.int p0), .val (.int p1), .val (.int p2), .val (.int p3), .val (.int p4), .val (.ref s0), .val (.ref s1), .val (.ref s2), .val (.ref s3), .val (.int (2 : Int32)), .val (.ref b394), .val (.ref r424), .val .null] [(.int (1 : Int32))]))
      refine W.ifT (q := 179) X438 C at_169 (by decide) (by decide) (by decide : W.cT .ne (1 : Int32) 0) ?_
      refine W.iload (q := 181) X438 C at_179 rfl rfl ?_
      refine W.iconst (q := 182) (v := 2) X438 C at_181 rfl rfl ?_
      refine W.icmpF (q := 185) X438 C at_182 rfl (by decide : W.cF .lt (2 : Int32) (2 : Int32)) ?_
      refine W.aload (q := 187) X438 C at_185 rfl rfl rfl ?_
      refine W.callV (q := 190) X438 C (W.ww hw 44 rfl) (W.ww hw 45 rfl) (W.nf C (W.ww hw 47 rfl)) (W.ww hw 47 rfl) (W.ww hw 46 rfl) (W.ww hw 5 rfl) (W.ww hw 48 rfl) (by decide) (rm9 l Z a0 hw [] s1 m1 T424.heap n0 Y_426) e438 Ey1_431 at_187 [] [] rfl rfl pd__28_29Z rfl rfl (by decide) (Nat.le_of_ble_eq_true rfl) (by first | omega | (simp only [room_1]; omega) | (dsimp only; omega)) (by first | omega | (simp only [room_1]; omega) | (dsimp only; omega)) rfl (fun T439 w439 L439 X439 hQ439 => ?_)
      obtain ⟨rfl, NL439, e439⟩ := hQ439
      have N439 := Fr.app N438 NL439
      rw [show (if m1 = 0 then (1 : Int32) else 0) = (1 : Int32) from if_pos z1]
      show W.Go p e below _ (T439.setTop (mkF m 190 #[.val (.int p0), .val (.int p1), .val (.int p2), .val (.int p3), .val (.int p4), .val (.ref s0), .val (.ref s1), .val (.ref s2), .val (.ref s3), .val (.int (2 : Int32)), .val (.ref b394), .val (.ref r424), .val .null] [(.int (1 : Int32))]))
      refine W.ifT (q := 200) X439 C at_190 (by decide) (by decide) (by decide : W.cT .ne (1 : Int32) 0) ?_
      refine W.iload (q := 202) X439 C at_200 rfl rfl ?_
      refine W.iconst (q := 203) (v := 3) X439 C at_202 rfl rfl ?_
      refine W.icmpT (q := 221) X439 C at_203 (by decide) (by decide) (by decide : W.cT .lt (2 : Int32) (3 : Int32)) ?_
      refine W.iload (q := 223) X439 C at_221 rfl rfl ?_
      refine W.iconst (q := 224) (v := 4) X439 C at_223 rfl rfl ?_
      refine W.icmpT (q := 239) X439 C at_224 (by decide) (by decide) (by decide : W.cT .lt (2 : Int32) (4 : Int32)) ?_
      refine W.aload (q := 241) X439 C at_239 rfl rfl rfl ?_
      refine W.ifnonnullF (q := 244) X439 C at_241 rfl ?_
      refine W.aload (q := 246) X439 C at_244 rfl rfl rfl ?_
      refine W.ifnullF (q := 249) X439 C at_246 rfl ?_
      refine W.aload (q := 251) X439 C at_249 rfl rfl rfl ?_
      refine W.callV (q := 254) X439 C (W.ww hw 44 rfl) (W.ww hw 45 rfl) (W.nf C (W.ww hw 47 rfl)) (W.ww hw 47 rfl) (W.ww hw 46 rfl) (W.ww hw 5 rfl) (W.ww hw 48 rfl) (by decide) (rm9 l Z a0 hw [] r424 (0 : Int32) T424.heap n0 Yr) e439 Er at_251 [] [] rfl rfl pd__28_29Z rfl rfl (by decide) (Nat.le_of_ble_eq_true rfl) (by first | omega | (simp only [room_1]; omega) | (dsimp only; omega)) (by first | omega | (simp only [room_1]; omega) | (dsimp only; omega)) rfl (fun T440 w440 L440 X440 hQ440 => ?_)
      obtain ⟨rfl, NL440, e440⟩ := hQ440
      have N440 := Fr.app N439 NL440
      rw [show (if (0 : Int32) = 0 then (1 : Int32) else 0) = (1 : Int32) from if_pos rfl]
      show W.Go p e below _ (T440.setTop (mkF m 254 #[.val (.int p0), .val (.int p1), .val (.int p2), .val (.int p3), .val (.int p4), .val (.ref s0), .val (.ref s1), .val (.ref s2), .val (.ref s3), .val (.int (2 : Int32)), .val (.ref b394), .val (.ref r424), .val .null] [(.int (1 : Int32))]))
      refine W.ifF (q := 257) X440 C at_254 rfl (by decide : W.cF .eq (1 : Int32) 0) ?_
      refine W.iconst (q := 258) (v := 1) X440 C at_257 rfl rfl ?_
      refine W.goto (q := 262) X440 C at_258 (by decide) (by decide) ?_
      exact W.retN X440 C (by simp) e440 at_262 rfl (by first | omega | (simp only [room_1]; omega) | (dsimp only; omega)) (by first | omega | (simp only [room_1]; omega) | (dsimp only; omega)) ⟨⟨rfl, N440⟩, hk424⟩
  · show W.Go p e below _ (T0.setTop (mkF m 33 #[.val (.int p0), .val (.int p1), .val (.int p2), .val (.int p3), .val (.int p4), .val (.ref s0), .val (.ref s1), .val (.ref s2), .val (.ref s3), .val (.int (3 : Int32)), .unset, .unset, .unset] []))
    refine W.iload (q := 35) X0 C at_33 rfl rfl ?_
    refine W.ifT (q := 47) X0 C at_35 (by decide) (by decide) (by decide : W.cT .ne (3 : Int32) 0) ?_
    refine W.iload (q := 49) X0 C at_47 rfl rfl ?_
    refine W.iconst (q := 50) (v := 1) X0 C at_49 rfl rfl ?_
    refine W.icmpT (q := 67) X0 C at_50 (by decide) (by decide) (by decide : W.cT .ne (3 : Int32) (1 : Int32)) ?_
    refine W.iload (q := 69) X0 C at_67 rfl rfl ?_
    refine W.iconst (q := 70) (v := 2) X0 C at_69 rfl rfl ?_
    refine W.icmpT (q := 92) X0 C at_70 (by decide) (by decide) (by decide : W.cT .ne (3 : Int32) (2 : Int32)) ?_
    refine W.iload (q := 94) X0 C at_92 rfl rfl ?_
    refine W.iconst (q := 95) (v := 3) X0 C at_94 rfl rfl ?_
    refine W.icmpF (q := 98) X0 C at_95 rfl (by decide : W.cF .ne (3 : Int32) (3 : Int32)) ?_
    refine W.iconst (q := 99) (v := 3) X0 C at_98 rfl rfl ?_
    refine W.anewarray (q := 102) X0 C (W.ww hw 12 rfl) (W.ww hw 38 rfl) e0 (by decide) 3 (by decide) (by decide) at_99 (by first | omega | (simp only [room_1]; omega) | (dsimp only; omega)) (by first | omega | (simp only [room_1]; omega) | (dsimp only; omega)) rfl (fun T441 h441 b441 k441 X441 e441 g441 E441 Ov441 V441_ => ?_)
    have ne_s0_b441 : s0 ≠ b441 := by rw [g441]; exact Nat.ne_of_lt Ey0.lt
    have ne_s1_b441 : s1 ≠ b441 := by rw [g441]; exact Nat.ne_of_lt Ey1.lt
    have ne_s2_b441 : s2 ≠ b441 := by rw [g441]; exact Nat.ne_of_lt Ey2.lt
    have ne_s3_b441 : s3 ≠ b441 := by rw [g441]; exact Nat.ne_of_lt Ey3.lt
    have ge_b441 : n0 ≤ b441 := by rw [g441]; exact Z0
    have sz_b441 : h0.size ≤ b441 := by rw [g441]; exact K0.1
    have n0_441 : n0 ≤ h441.size := Nat.le_trans Z0 E441.1
    have R_442 := R0.trans (CHr.ext E441 R0.1)
    have hk0_444 := Nat.le_trans hk0 E441.1
    have Ey0_445 := Ey0.ext E441
    have Ey1_446 := Ey1.ext E441
    have Ey2_447 := Ey2.ext E441
    have Ey3_448 := Ey3.ext E441
    have K441 := K0.ext E441
    have V441 : Arv Z h441 b441 k441 (.object "java/lang/String") (3 : Int32) [.null, .null, .null] .null := V441_
    refine W.dup (q := 103) X441 C at_102 rfl rfl ?_
    refine W.iconst (q := 104) (v := 0) X441 C at_103 rfl rfl ?_
    refine W.aload (q := 106) X441 C at_104 rfl rfl rfl ?_
    refine W.aastore (q := 107) X441 C e441 rfl rfl V441 (fun cl A q => Sto.ofV A q Ov441 (Ins.self Ey0_445))  (by decide) (by decide) (Nat.le_of_ble_eq_true rfl) at_106 rfl (fun T449 h449 X449 e449 W449 V449_ => ?_)
    have R_450 := R_442.trans (CHr.wr W449 (Safe.arv C.2.1.alike V441 nofun) R_442.1)
    have hk0_452 := Nat.le_trans hk0_444 (Nat.le_of_eq W449.size.symm)
    have Ey0_453 := Ey0_445.wr W449
    have Ey1_454 := Ey1_446.wr W449
    have Ey2_455 := Ey2_447.wr W449
    have Ey3_456 := Ey3_448.wr W449
    have V449 : Arv Z h449 b441 k441 (.object "java/lang/String") (3 : Int32) [(.ref s0), .null, .null] .null := V449_
    have N449 := Fr.snoc X449 N0 ge_b441
    have K449 := K441.wr W449 (Or.inr sz_b441)
    have n0_449 : n0 ≤ h449.size := by rw [W449.size]; exact n0_441
    refine W.dup (q := 108) X449 C at_107 rfl rfl ?_
    refine W.iconst (q := 109) (v := 1) X449 C at_108 rfl rfl ?_
    refine W.aload (q := 111) X449 C at_109 rfl rfl rfl ?_
    refine W.aastore (q := 112) X449 C e449 rfl rfl V449 (fun cl A q => Sto.ofV A q Ov441 (Ins.self Ey1_454))  (by decide) (by decide) (Nat.le_of_ble_eq_true rfl) at_111 rfl (fun T458 h458 X458 e458 W458 V458_ => ?_)
    have R_459 := R_450.trans (CHr.wr W458 (Safe.arv C.2.1.alike V449 nofun) R_450.1)
    have hk0_461 := Nat.le_trans hk0_452 (Nat.le_of_eq W458.size.symm)
    have Ey0_462 := Ey0_453.wr W458
    have Ey1_463 := Ey1_454.wr W458
    have Ey2_464 := Ey2_455.wr W458
    have Ey3_465 := Ey3_456.wr W458
    have V458 : Arv Z h458 b441 k441 (.object "java/lang/String") (3 : Int32) [(.ref s0), (.ref s1), .null] .null := V458_
    have N458 := Fr.snoc X458 N449 ge_b441
    have K458 := K449.wr W458 (Or.inr sz_b441)
    have n0_458 : n0 ≤ h458.size := by rw [W458.size]; exact n0_449
    refine W.dup (q := 113) X458 C at_112 rfl rfl ?_
    refine W.iconst (q := 114) (v := 2) X458 C at_113 rfl rfl ?_
    refine W.aload (q := 116) X458 C at_114 rfl rfl rfl ?_
    refine W.aastore (q := 117) X458 C e458 rfl rfl V458 (fun cl A q => Sto.ofV A q Ov441 (Ins.self Ey2_464))  (by decide) (by decide) (Nat.le_of_ble_eq_true rfl) at_116 rfl (fun T467 h467 X467 e467 W467 V467_ => ?_)
    have R_468 := R_459.trans (CHr.wr W467 (Safe.arv C.2.1.alike V458 nofun) R_459.1)
    have hk0_470 := Nat.le_trans hk0_461 (Nat.le_of_eq W467.size.symm)
    have Ey0_471 := Ey0_462.wr W467
    have Ey1_472 := Ey1_463.wr W467
    have Ey2_473 := Ey2_464.wr W467
    have Ey3_474 := Ey3_465.wr W467
    have V467 : Arv Z h467 b441 k441 (.object "java/lang/String") (3 : Int32) [(.ref s0), (.ref s1), (.ref s2)] .null := V467_
    have N467 := Fr.snoc X467 N458 ge_b441
    have K467 := K458.wr W467 (Or.inr sz_b441)
    have n0_467 : n0 ≤ h467.size := by rw [W467.size]; exact n0_458
    refine W.astore (q := 119) (L' := #[.val (.int p0), .val (.int p1), .val (.int p2), .val (.int p3), .val (.int p4), .val (.ref s0), .val (.ref s1), .val (.ref s2), .val (.ref s3), .val (.int (3 : Int32)), .val (.ref b441), .unset, .unset]) X467 C at_117 rfl rfl rfl ?_
    refine W.goto (q := 148) X467 C at_119 (by decide) (by decide) ?_
    have Y_476 := Y0.keep0 K467
    have Y_477 := Y1.keep0 K467
    have Y_478 := Y2.keep0 K467
    have Y_479 := Y3.keep0 K467
    refine W.aload (q := 150) X467 C at_148 rfl rfl rfl ?_
    refine W.callSW (q := 153) (s := s) X467 C (W.ww hw 39 rfl) (W.ww hw 40 rfl) (W.ww hw 41 rfl) (W.ww hw 42 rfl) (by decide) (rm8_3 l Z a0 hw [] b441 k441 s0 s1 s2 m0 m1 m2 h467 n0 n0_467 V467 Y_476 Y_477 Y_478) e467 hS0 hk0_470 (own_EL hw) R_468.1 at_150 [(.ref b441)] [] rfl rfl pd__28_5bLjava_2flang_2fString_3b_29Ljava_2flang_2fString_3b rfl rfl (by decide) (Nat.le_of_ble_eq_true rfl) (by first | omega | (simp only [room_1]; omega) | (dsimp only; omega)) (by first | omega | (simp only [room_1]; omega) | (dsimp only; omega)) rfl (fun T480 w480 L480 X480 C hS480 hg480 hQ480 Rn480 => ?_)
    obtain ⟨r480, rfl, NL480, K480, D480⟩ := hQ480
    have N480 := Fr.app N467 NL480
    have Y_481 := Y_476.keep0 K480
    have Y_482 := Y_477.keep0 K480
    have Y_483 := Y_478.keep0 K480
    have Y_484 := Y_479.keep0 K480
    have Ey0_486 := Ey0_471.keep K480
    have Ey1_487 := Ey1_472.keep K480
    have Ey2_488 := Ey2_473.keep K480
    have Ey3_489 := Ey3_474.keep K480
    have V467_490 := V467.keep K480 nin0
    have n0_480 : n0 ≤ T480.heap.size := Nat.le_trans n0_467 K480.1
    have R_480 := R_468.trans Rn480
    have hk480 := Nat.le_refl T480.heap.size
    have KK480 := K467.trans K480 all0
    show W.Go p e below _ (T480.setTop (mkF m 153 #[.val (.int p0), .val (.int p1), .val (.int p2), .val (.int p3), .val (.int p4), .val (.ref s0), .val (.ref s1), .val (.ref s2), .val (.ref s3), .val (.int (3 : Int32)), .val (.ref b441), .unset, .unset] [(.ref r480)]))
    refine W.postW hS480 ?_
    rcases D480 with ⟨z0, hr⟩ | ⟨z0, z1, hr⟩ | ⟨z0, z1, z2, hr⟩ | ⟨z0, z1, z2, Yr⟩
    · rw [hr]
      show W.Go p e below _ (T480.setTop (mkF m 153 #[.val (.int p0), .val (.int p1), .val (.int p2), .val (.int p3), .val (.int p4), .val (.ref s0), .val (.ref s1), .val (.ref s2), .val (.ref s3), .val (.int (3 : Int32)), .val (.ref b441), .unset, .unset] [(.ref s0)]))
      refine W.astore (q := 155) (L' := #[.val (.int p0), .val (.int p1), .val (.int p2), .val (.int p3), .val (.int p4), .val (.ref s0), .val (.ref s1), .val (.ref s2), .val (.ref s3), .val (.int (3 : Int32)), .val (.ref b441), .val (.ref s0), .unset]) X480 C at_153 rfl rfl rfl ?_
      refine W.aconst (q := 156) X480 C at_155 rfl ?_
      refine W.astore (q := 158) (L' := #[.val (.int p0), .val (.int p1), .val (.int p2), .val (.int p3), .val (.int p4), .val (.ref s0), .val (.ref s1), .val (.ref s2), .val (.ref s3), .val (.int (3 : Int32)), .val (.ref b441), .val (.ref s0), .val .null]) X480 C at_156 rfl rfl rfl ?_
      refine W.iload (q := 160) X480 C at_158 rfl rfl ?_
      refine W.iconst (q := 161) (v := 1) X480 C at_160 rfl rfl ?_
      refine W.icmpF (q := 164) X480 C at_161 rfl (by decide : W.cF .lt (3 : Int32) (1 : Int32)) ?_
      refine W.aload (q := 166) X480 C at_164 rfl rfl rfl ?_
      refine W.callV (q := 169) X480 C (W.ww hw 44 rfl) (W.ww hw 45 rfl) (W.nf C (W.ww hw 47 rfl)) (W.ww hw 47 rfl) (W.ww hw 46 rfl) (W.ww hw 5 rfl) (W.ww hw 48 rfl) (by decide) (rm9 l Z a0 hw [] s0 m0 T480.heap n0 Y_481) rfl Ey0_486 at_166 [] [] rfl rfl pd__28_29Z rfl rfl (by decide) (Nat.le_of_ble_eq_true rfl) (by first | omega | (simp only [room_1]; omega) | (dsimp only; omega)) (by first | omega | (simp only [room_1]; omega) | (dsimp only; omega)) rfl (fun T491 w491 L491 X491 hQ491 => ?_)
      obtain ⟨rfl, NL491, e491⟩ := hQ491
      have N491 := Fr.app N480 NL491
      rw [show (if m0 = 0 then (1 : Int32) else 0) = (0 : Int32) from if_neg z0]
      show W.Go p e below _ (T491.setTop (mkF m 169 #[.val (.int p0), .val (.int p1), .val (.int p2), .val (.int p3), .val (.int p4), .val (.ref s0), .val (.ref s1), .val (.ref s2), .val (.ref s3), .val (.int (3 : Int32)), .val (.ref b441), .val (.ref s0), .val .null] [(.int (0 : Int32))]))
      refine W.ifF (q := 172) X491 C at_169 rfl (by decide : W.cF .ne (0 : Int32) 0) ?_
      refine W.aload (q := 174) X491 C at_172 rfl rfl rfl ?_
      refine W.astore (q := 176) (L' := #[.val (.int p0), .val (.int p1), .val (.int p2), .val (.int p3), .val (.int p4), .val (.ref s0), .val (.ref s1), .val (.ref s2), .val (.ref s3), .val (.int (3 : Int32)), .val (.ref b441), .val (.ref s0), .val (.ref s0)]) X491 C at_174 rfl rfl rfl ?_
      refine W.goto (q := 239) X491 C at_176 (by decide) (by decide) ?_
      refine W.aload (q := 241) X491 C at_239 rfl rfl rfl ?_
      refine W.ifnonnullT (q := 263) X491 C at_241 (by decide) (by decide) ?_
      refine W.aload (q := 265) X491 C at_263 rfl rfl rfl ?_
      refine W.aload (q := 267) X491 C at_265 rfl rfl rfl ?_
      refine W.acmp (q := 270) X491 C rfl rfl (same := true) (decide_eq_true rfl) at_267 (by decide) (by decide) ?_
      refine W.iconst (q := 271) (v := 1) X491 C at_270 rfl rfl ?_
      refine W.goto (q := 275) X491 C at_271 (by decide) (by decide) ?_
      exact W.retN X491 C (by simp) e491 at_275 rfl (by first | omega | (simp only [room_1]; omega) | (dsimp only; omega)) (by first | omega | (simp only [room_1]; omega) | (dsimp only; omega)) ⟨⟨rfl, N491⟩, hk480⟩
    · rw [hr]
      show W.Go p e below _ (T480.setTop (mkF m 153 #[.val (.int p0), .val (.int p1), .val (.int p2), .val (.int p3), .val (.int p4), .val (.ref s0), .val (.ref s1), .val (.ref s2), .val (.ref s3), .val (.int (3 : Int32)), .val (.ref b441), .unset, .unset] [(.ref s1)]))
      refine W.astore (q := 155) (L' := #[.val (.int p0), .val (.int p1), .val (.int p2), .val (.int p3), .val (.int p4), .val (.ref s0), .val (.ref s1), .val (.ref s2), .val (.ref s3), .val (.int (3 : Int32)), .val (.ref b441), .val (.ref s1), .unset]) X480 C at_153 rfl rfl rfl ?_
      refine W.aconst (q := 156) X480 C at_155 rfl ?_
      refine W.astore (q := 158) (L' := #[.val (.int p0), .val (.int p1), .val (.int p2), .val (.int p3), .val (.int p4), .val (.ref s0), .val (.ref s1), .val (.ref s2), .val (.ref s3), .val (.int (3 : Int32)), .val (.ref b441), .val (.ref s1), .val .null]) X480 C at_156 rfl rfl rfl ?_
      refine W.iload (q := 160) X480 C at_158 rfl rfl ?_
      refine W.iconst (q := 161) (v := 1) X480 C at_160 rfl rfl ?_
      refine W.icmpF (q := 164) X480 C at_161 rfl (by decide : W.cF .lt (3 : Int32) (1 : Int32)) ?_
      refine W.aload (q := 166) X480 C at_164 rfl rfl rfl ?_
      refine W.callV (q := 169) X480 C (W.ww hw 44 rfl) (W.ww hw 45 rfl) (W.nf C (W.ww hw 47 rfl)) (W.ww hw 47 rfl) (W.ww hw 46 rfl) (W.ww hw 5 rfl) (W.ww hw 48 rfl) (by decide) (rm9 l Z a0 hw [] s0 m0 T480.heap n0 Y_481) rfl Ey0_486 at_166 [] [] rfl rfl pd__28_29Z rfl rfl (by decide) (Nat.le_of_ble_eq_true rfl) (by first | omega | (simp only [room_1]; omega) | (dsimp only; omega)) (by first | omega | (simp only [room_1]; omega) | (dsimp only; omega)) rfl (fun T492 w492 L492 X492 hQ492 => ?_)
      obtain ⟨rfl, NL492, e492⟩ := hQ492
      have N492 := Fr.app N480 NL492
      rw [show (if m0 = 0 then (1 : Int32) else 0) = (1 : Int32) from if_pos z0]
      show W.Go p e below _ (T492.setTop (mkF m 169 #[.val (.int p0), .val (.int p1), .val (.int p2), .val (.int p3), .val (.int p4), .val (.ref s0), .val (.ref s1), .val (.ref s2), .val (.ref s3), .val (.int (3 : Int32)), .val (.ref b441), .val (.ref s1), .val .null] [(.int (1 : Int32))]))
      refine W.ifT (q := 179) X492 C at_169 (by decide) (by decide) (by decide : W.cT .ne (1 : Int32) 0) ?_
      refine W.iload (q := 181) X492 C at_179 rfl rfl ?_
      refine W.iconst (q := 182) (v := 2) X492 C at_181 rfl rfl ?_
      refine W.icmpF (q := 185) X492 C at_182 rfl (by decide : W.cF .lt (3 : Int32) (2 : Int32)) ?_
      refine W.aload (q := 187) X492 C at_185 rfl rfl rfl ?_
      refine W.callV (q := 190) X492 C (W.ww hw 44 rfl) (W.ww hw 45 rfl) (W.nf C (W.ww hw 47 rfl)) (W.ww hw 47 rfl) (W.ww hw 46 rfl) (W.ww hw 5 rfl) (W.ww hw 48 rfl) (by decide) (rm9 l Z a0 hw [] s1 m1 T480.heap n0 Y_482) e492 Ey1_487 at_187 [] [] rfl rfl pd__28_29Z rfl rfl (by decide) (Nat.le_of_ble_eq_true rfl) (by first | omega | (simp only [room_1]; omega) | (dsimp only; omega)) (by first | omega | (simp only [room_1]; omega) | (dsimp only; omega)) rfl (fun T493 w493 L493 X493 hQ493 => ?_)
      obtain ⟨rfl, NL493, e493⟩ := hQ493
      have N493 := Fr.app N492 NL493
      rw [show (if m1 = 0 then (1 : Int32) else 0) = (0 : Int32) from if_neg z1]
      show W.Go p e below _ (T493.setTop (mkF m 190 #[.val (.int p0), .val (.int p1), .val (.int p2), .val (.int p3), .val (.int p4), .val (.ref s0), .val (.ref s1), .val (.ref s2), .val (.ref s3), .val (.int (3 : Int32)), .val (.ref b441), .val (.ref s1), .val .null] [(.int (0 : Int32))]))
      refine W.ifF (q := 193) X493 C at_190 rfl (by decide : W.cF .ne (0 : Int32) 0) ?_
      refine W.aload (q := 195) X493 C at_193 rfl rfl rfl ?_
      refine W.astore (q := 197) (L' := #[.val (.int p0), .val (.int p1), .val (.int p2), .val (.int p3), .val (.int p4), .val (.ref s0), .val (.ref s1), .val (.ref s2), .val (.ref s3), .val (.int (3 : Int32)), .val (.ref b441), .val (.ref s1), .val (.ref s1)]) X493 C at_195 rfl rfl rfl ?_
      refine W.goto (q := 239) X493 C at_197 (by decide) (by decide) ?_
      refine W.aload (q := 241) X493 C at_239 rfl rfl rfl ?_
      refine W.ifnonnullT (q := 263) X493 C at_241 (by decide) (by decide) ?_
      refine W.aload (q := 265) X493 C at_263 rfl rfl rfl ?_
      refine W.aload (q := 267) X493 C at_265 rfl rfl rfl ?_
      refine W.acmp (q := 270) X493 C rfl rfl (same := true) (decide_eq_true rfl) at_267 (by decide) (by decide) ?_
      refine W.iconst (q := 271) (v := 1) X493 C at_270 rfl rfl ?_
      refine W.goto (q := 275) X493 C at_271 (by decide) (by decide) ?_
      exact W.retN X493 C (by simp) e493 at_275 rfl (by first | omega | (simp only [room_1]; omega) | (dsimp only; omega)) (by first | omega | (simp only [room_1]; omega) | (dsimp only; omega)) ⟨⟨rfl, N493⟩, hk480⟩
    · rw [hr]
      show W.Go p e below _ (T480.setTop (mkF m 153 #[.val (.int p0), .val (.int p1), .val (.int p2), .val (.int p3), .val (.int p4), .val (.ref s0), .val (.ref s1), .val (.ref s2), .val (.ref s3), .val (.int (3 : Int32)), .val (.ref b441), .unset, .unset] [(.ref s2)]))
      refine W.astore (q := 155) (L' := #[.val (.int p0), .val (.int p1), .val (.int p2), .val (.int p3), .val (.int p4), .val (.ref s0), .val (.ref s1), .val (.ref s2), .val (.ref s3), .val (.int (3 : Int32)), .val (.ref b441), .val (.ref s2), .unset]) X480 C at_153 rfl rfl rfl ?_
      refine W.aconst (q := 156) X480 C at_155 rfl ?_
      refine W.astore (q := 158) (L' := #[.val (.int p0), .val (.int p1), .val (.int p2), .val (.int p3), .val (.int p4), .val (.ref s0), .val (.ref s1), .val (.ref s2), .val (.ref s3), .val (.int (3 : Int32)), .val (.ref b441), .val (.ref s2), .val .null]) X480 C at_156 rfl rfl rfl ?_
      refine W.iload (q := 160) X480 C at_158 rfl rfl ?_
      refine W.iconst (q := 161) (v := 1) X480 C at_160 rfl rfl ?_
      refine W.icmpF (q := 164) X480 C at_161 rfl (by decide : W.cF .lt (3 : Int32) (1 : Int32)) ?_
      refine W.aload (q := 166) X480 C at_164 rfl rfl rfl ?_
      refine W.callV (q := 169) X480 C (W.ww hw 44 rfl) (W.ww hw 45 rfl) (W.nf C (W.ww hw 47 rfl)) (W.ww hw 47 rfl) (W.ww hw 46 rfl) (W.ww hw 5 rfl) (W.ww hw 48 rfl) (by decide) (rm9 l Z a0 hw [] s0 m0 T480.heap n0 Y_481) rfl Ey0_486 at_166 [] [] rfl rfl pd__28_29Z rfl rfl (by decide) (Nat.le_of_ble_eq_true rfl) (by first | omega | (simp only [room_1]; omega) | (dsimp only; omega)) (by first | omega | (simp only [room_1]; omega) | (dsimp only; omega)) rfl (fun T494 w494 L494 X494 hQ494 => ?_)
      obtain ⟨rfl, NL494, e494⟩ := hQ494
      have N494 := Fr.app N480 NL494
      rw [show (if m0 = 0 then (1 : Int32) else 0) = (1 : Int32) from if_pos z0]
      show W.Go p e below _ (T494.setTop (mkF m 169 #[.val (.int p0), .val (.int p1), .val (.int p2), .val (.int p3), .val (.int p4), .val (.ref s0), .val (.ref s1), .val (.ref s2), .val (.ref s3), .val (.int (3 : Int32)), .val (.ref b441), .val (.ref s2), .val .null] [(.int (1 : Int32))]))
      refine W.ifT (q := 179) X494 C at_169 (by decide) (by decide) (by decide : W.cT .ne (1 : Int32) 0) ?_
      refine W.iload (q := 181) X494 C at_179 rfl rfl ?_
      refine W.iconst (q := 182) (v := 2) X494 C at_181 rfl rfl ?_
      refine W.icmpF (q := 185) X494 C at_182 rfl (by decide : W.cF .lt (3 : Int32) (2 : Int32)) ?_
      refine W.aload (q := 187) X494 C at_185 rfl rfl rfl ?_
      refine W.callV (q := 190) X494 C (W.ww hw 44 rfl) (W.ww hw 45 rfl) (W.nf C (W.ww hw 47 rfl)) (W.ww hw 47 rfl) (W.ww hw 46 rfl) (W.ww hw 5 rfl) (W.ww hw 48 rfl) (by decide) (rm9 l Z a0 hw [] s1 m1 T480.heap n0 Y_482) e494 Ey1_487 at_187 [] [] rfl rfl pd__28_29Z rfl rfl (by decide) (Nat.le_of_ble_eq_true rfl) (by first | omega | (simp only [room_1]; omega) | (dsimp only; omega)) (by first | omega | (simp only [room_1]; omega) | (dsimp only; omega)) rfl (fun T495 w495 L495 X495 hQ495 => ?_)
      obtain ⟨rfl, NL495, e495⟩ := hQ495
      have N495 := Fr.app N494 NL495
      rw [show (if m1 = 0 then (1 : Int32) else 0) = (1 : Int32) from if_pos z1]
      show W.Go p e below _ (T495.setTop (mkF m 190 #[.val (.int p0), .val (.int p1), .val (.int p2), .val (.int p3), .val (.int p4), .val (.ref s0), .val (.ref s1), .val (.ref s2), .val (.ref s3), .val (.int (3 : Int32)), .val (.ref b441), .val (.ref s2), .val .null] [(.int (1 : Int32))]))
      refine W.ifT (q := 200) X495 C at_190 (by decide) (by decide) (by decide : W.cT .ne (1 : Int32) 0) ?_
      refine W.iload (q := 202) X495 C at_200 rfl rfl ?_
      refine W.iconst (q := 203) (v := 3) X495 C at_202 rfl rfl ?_
      refine W.icmpF (q := 206) X495 C at_203 rfl (by decide : W.cF .lt (3 : Int32) (3 : Int32)) ?_
      refine W.aload (q := 208) X495 C at_206 rfl rfl rfl ?_
      refine W.callV (q := 211) X495 C (W.ww hw 44 rfl) (W.ww hw 45 rfl) (W.nf C (W.ww hw 47 rfl)) (W.ww hw 47 rfl) (W.ww hw 46 rfl) (W.ww hw 5 rfl) (W.ww hw 48 rfl) (by decide) (rm9 l Z a0 hw [] s2 m2 T480.heap n0 Y_483) e495 Ey2_488 at_208 [] [] rfl rfl pd__28_29Z rfl rfl (by decide) (Nat.le_of_ble_eq_true rfl) (by first | omega | (simp only [room_1]; omega) | (dsimp only; omega)) (by first | omega | (simp only [room_1]; omega) | (dsimp only; omega)) rfl (fun T496 w496 L496 X496 hQ496 => ?_)
      obtain ⟨rfl, NL496, e496⟩ := hQ496
      have N496 := Fr.app N495 NL496
      rw [show (if m2 = 0 then (1 : Int32) else 0) = (0 : Int32) from if_neg z2]
      show W.Go p e below _ (T496.setTop (mkF m 211 #[.val (.int p0), .val (.int p1), .val (.int p2), .val (.int p3), .val (.int p4), .val (.ref s0), .val (.ref s1), .val (.ref s2), .val (.ref s3), .val (.int (3 : Int32)), .val (.ref b441), .val (.ref s2), .val .null] [(.int (0 : Int32))]))
      refine W.ifF (q := 214) X496 C at_211 rfl (by decide : W.cF .ne (0 : Int32) 0) ?_
      refine W.aload (q := 216) X496 C at_214 rfl rfl rfl ?_
      refine W.astore (q := 218) (L' := #[.val (.int p0), .val (.int p1), .val (.int p2), .val (.int p3), .val (.int p4), .val (.ref s0), .val (.ref s1), .val (.ref s2), .val (.ref s3), .val (.int (3 : Int32)), .val (.ref b441), .val (.ref s2), .val (.ref s2)]) X496 C at_216 rfl rfl rfl ?_
      refine W.goto (q := 239) X496 C at_218 (by decide) (by decide) ?_
      refine W.aload (q := 241) X496 C at_239 rfl rfl rfl ?_
      refine W.ifnonnullT (q := 263) X496 C at_241 (by decide) (by decide) ?_
      refine W.aload (q := 265) X496 C at_263 rfl rfl rfl ?_
      refine W.aload (q := 267) X496 C at_265 rfl rfl rfl ?_
      refine W.acmp (q := 270) X496 C rfl rfl (same := true) (decide_eq_true rfl) at_267 (by decide) (by decide) ?_
      refine W.iconst (q := 271) (v := 1) X496 C at_270 rfl rfl ?_
      refine W.goto (q := 275) X496 C at_271 (by decide) (by decide) ?_
      exact W.retN X496 C (by simp) e496 at_275 rfl (by first | omega | (simp only [room_1]; omega) | (dsimp only; omega)) (by first | omega | (simp only [room_1]; omega) | (dsimp only; omega)) ⟨⟨rfl, N496⟩, hk480⟩
    · have Er := Yr.exa
      refine W.astore (q := 155) (L' := #[.val (.int p0), .val (.int p1), .val (.int p2), .val (.int p3), .val (.int p4), .val (.ref s0), .val (.ref s1), .val (.ref s2), .val (.ref s3), .val (.int (3 : Int32)), .val (.ref b441), .val (.ref r480), .unset]) X480 C at_153 rfl rfl rfl ?_
      refine W.aconst (q := 156) X480 C at_155 rfl ?_
      refine W.astore (q := 158) (L' := #[.val (.int p0), .val (.int p1), .val (.int p2), .val (.int p3), .val (.int p4), .val (.ref s0), .val (.ref s1), .val (.ref s2), .val (.ref s3), .val (.int (3 : Int32)), .val (.ref b441), .val (.ref r480), .val .null]) X480 C at_156 rfl rfl rfl ?_
      refine W.iload (q := 160) X480 C at_158 rfl rfl ?_
      refine W.iconst (q := 161) (v := 1) X480 C at_160 rfl rfl ?_
      refine W.icmpF (q := 164) X480 C at_161 rfl (by decide : W.cF .lt (3 : Int32) (1 : Int32)) ?_
      refine W.aload (q := 166) X480 C at_164 rfl rfl rfl ?_
      refine W.callV (q := 169) X480 C (W.ww hw 44 rfl) (W.ww hw 45 rfl) (W.nf C (W.ww hw 47 rfl)) (W.ww hw 47 rfl) (W.ww hw 46 rfl) (W.ww hw 5 rfl) (W.ww hw 48 rfl) (by decide) (rm9 l Z a0 hw [] s0 m0 T480.heap n0 Y_481) rfl Ey0_486 at_166 [] [] rfl rfl pd__28_29Z rfl rfl (by decide) (Nat.le_of_ble_eq_true rfl) (by first | omega | (simp only [room_1]; omega) | (dsimp only; omega)) (by first | omega | (simp only [room_1]; omega) | (dsimp only; omega)) rfl (fun T497 w497 L497 X497 hQ497 => ?_)
      obtain ⟨rfl, NL497, e497⟩ := hQ497
      have N497 := Fr.app N480 NL497
      rw [show (if m0 = 0 then (1 : Int32) else 0) = (1 : Int32) from if_pos z0]
      show W.Go p e below _ (T497.setTop (mkF m 169 #[.val (.int p0), .val (.int p1), .val (.int p2), .val (.int p3), .val (.int p4), .val (.ref s0), .val (.ref s1), .val (.ref s2), .val (.ref s3), .val (.int (3 : Int32)), .val (.ref b441), .val (.ref r480), .val .null] [(.int (1 : Int32))]))
      refine W.ifT (q := 179) X497 C at_169 (by decide) (by decide) (by decide : W.cT .ne (1 : Int32) 0) ?_
      refine W.iload (q := 181) X497 C at_179 rfl rfl ?_
      refine W.iconst (q := 182) (v := 2) X497 C at_181 rfl rfl ?_
      refine W.icmpF (q := 185) X497 C at_182 rfl (by decide : W.cF .lt (3 : Int32) (2 : Int32)) ?_
      refine W.aload (q := 187) X497 C at_185 rfl rfl rfl ?_
      refine W.callV (q := 190) X497 C (W.ww hw 44 rfl) (W.ww hw 45 rfl) (W.nf C (W.ww hw 47 rfl)) (W.ww hw 47 rfl) (W.ww hw 46 rfl) (W.ww hw 5 rfl) (W.ww hw 48 rfl) (by decide) (rm9 l Z a0 hw [] s1 m1 T480.heap n0 Y_482) e497 Ey1_487 at_187 [] [] rfl rfl pd__28_29Z rfl rfl (by decide) (Nat.le_of_ble_eq_true rfl) (by first | omega | (simp only [room_1]; omega) | (dsimp only; omega)) (by first | omega | (simp only [room_1]; omega) | (dsimp only; omega)) rfl (fun T498 w498 L498 X498 hQ498 => ?_)
      obtain ⟨rfl, NL498, e498⟩ := hQ498
      have N498 := Fr.app N497 NL498
      rw [show (if m1 = 0 then (1 : Int32) else 0) = (1 : Int32) from if_pos z1]
      show W.Go p e below _ (T498.setTop (mkF m 190 #[.val (.int p0), .val (.int p1), .val (.int p2), .val (.int p3), .val (.int p4), .val (.ref s0), .val (.ref s1), .val (.ref s2), .val (.ref s3), .val (.int (3 : Int32)), .val (.ref b441), .val (.ref r480), .val .null] [(.int (1 : Int32))]))
      refine W.ifT (q := 200) X498 C at_190 (by decide) (by decide) (by decide : W.cT .ne (1 : Int32) 0) ?_
      refine W.iload (q := 202) X498 C at_200 rfl rfl ?_
      refine W.iconst (q := 203) (v := 3) X498 C at_202 rfl rfl ?_
      refine W.icmpF (q := 206) X498 C at_203 rfl (by decide : W.cF .lt (3 : Int32) (3 : Int32)) ?_
      refine W.aload (q := 208) X498 C at_206 rfl rfl rfl ?_
      refine W.callV (q := 211) X498 C (W.ww hw 44 rfl) (W.ww hw 45 rfl) (W.nf C (W.ww hw 47 rfl)) (W.ww hw 47 rfl) (W.ww hw 46 rfl) (W.ww hw 5 rfl) (W.ww hw 48 rfl) (by decide) (rm9 l Z a0 hw [] s2 m2 T480.heap n0 Y_483) e498 Ey2_488 at_208 [] [] rfl rfl pd__28_29Z rfl rfl (by decide) (Nat.le_of_ble_eq_true rfl) (by first | omega | (simp only [room_1]; omega) | (dsimp only; omega)) (by first | omega | (simp only [room_1]; omega) | (dsimp only; omega)) rfl (fun T499 w499 L499 X499 hQ499 => ?_)
      obtain ⟨rfl, NL499, e499⟩ := hQ499
      have N499 := Fr.app N498 NL499
      rw [show (if m2 = 0 then (1 : Int32) else 0) = (1 : Int32) from if_pos z2]
      show W.Go p e below _ (T499.setTop (mkF m 211 #[.val (.int p0), .val (.int p1), .val (.int p2), .val (.int p3), .val (.int p4), .val (.ref s0), .val (.ref s1), .val (.ref s2), .val (.ref s3), .val (.int (3 : Int32)), .val (.ref b441), .val (.ref r480), .val .null] [(.int (1 : Int32))]))
      refine W.ifT (q := 221) X499 C at_211 (by decide) (by decide) (by decide : W.cT .ne (1 : Int32) 0) ?_
      refine W.iload (q := 223) X499 C at_221 rfl rfl ?_
      refine W.iconst (q := 224) (v := 4) X499 C at_223 rfl rfl ?_
      refine W.icmpT (q := 239) X499 C at_224 (by decide) (by decide) (by decide : W.cT .lt (3 : Int32) (4 : Int32)) ?_
      refine W.aload (q := 241) X499 C at_239 rfl rfl rfl ?_
      refine W.ifnonnullF (q := 244) X499 C at_241 rfl ?_
      refine W.aload (q := 246) X499 C at_244 rfl rfl rfl ?_
      refine W.ifnullF (q := 249) X499 C at_246 rfl ?_
      refine W.aload (q := 251) X499 C at_249 rfl rfl rfl ?_
      refine W.callV (q := 254) X499 C (W.ww hw 44 rfl) (W.ww hw 45 rfl) (W.nf C (W.ww hw 47 rfl)) (W.ww hw 47 rfl) (W.ww hw 46 rfl) (W.ww hw 5 rfl) (W.ww hw 48 rfl) (by decide) (rm9 l Z a0 hw [] r480 (0 : Int32) T480.heap n0 Yr) e499 Er at_251 [] [] rfl rfl pd__28_29Z rfl rfl (by decide) (Nat.le_of_ble_eq_true rfl) (by first | omega | (simp only [room_1]; omega) | (dsimp only; omega)) (by first | omega | (simp only [room_1]; omega) | (dsimp only; omega)) rfl (fun T500 w500 L500 X500 hQ500 => ?_)
      obtain ⟨rfl, NL500, e500⟩ := hQ500
      have N500 := Fr.app N499 NL500
      rw [show (if (0 : Int32) = 0 then (1 : Int32) else 0) = (1 : Int32) from if_pos rfl]
      show W.Go p e below _ (T500.setTop (mkF m 254 #[.val (.int p0), .val (.int p1), .val (.int p2), .val (.int p3), .val (.int p4), .val (.ref s0), .val (.ref s1), .val (.ref s2), .val (.ref s3), .val (.int (3 : Int32)), .val (.ref b441), .val (.ref r480), .val .null] [(.int (1 : Int32))]))
      refine W.ifF (q := 257) X500 C at_254 rfl (by decide : W.cF .eq (1 : Int32) 0) ?_
      refine W.iconst (q := 258) (v := 1) X500 C at_257 rfl rfl ?_
      refine W.goto (q := 262) X500 C at_258 (by decide) (by decide) ?_
      exact W.retN X500 C (by simp) e500 at_262 rfl (by first | omega | (simp only [room_1]; omega) | (dsimp only; omega)) (by first | omega | (simp only [room_1]; omega) | (dsimp only; omega)) ⟨⟨rfl, N500⟩, hk480⟩
  · show W.Go p e below _ (T0.setTop (mkF m 33 #[.val (.int p0), .val (.int p1), .val (.int p2), .val (.int p3), .val (.int p4), .val (.ref s0), .val (.ref s1), .val (.ref s2), .val (.ref s3), .val (.int (4 : Int32)), .unset, .unset, .unset] []))
    refine W.iload (q := 35) X0 C at_33 rfl rfl ?_
    refine W.ifT (q := 47) X0 C at_35 (by decide) (by decide) (by decide : W.cT .ne (4 : Int32) 0) ?_
    refine W.iload (q := 49) X0 C at_47 rfl rfl ?_
    refine W.iconst (q := 50) (v := 1) X0 C at_49 rfl rfl ?_
    refine W.icmpT (q := 67) X0 C at_50 (by decide) (by decide) (by decide : W.cT .ne (4 : Int32) (1 : Int32)) ?_
    refine W.iload (q := 69) X0 C at_67 rfl rfl ?_
    refine W.iconst (q := 70) (v := 2) X0 C at_69 rfl rfl ?_
    refine W.icmpT (q := 92) X0 C at_70 (by decide) (by decide) (by decide : W.cT .ne (4 : Int32) (2 : Int32)) ?_
    refine W.iload (q := 94) X0 C at_92 rfl rfl ?_
    refine W.iconst (q := 95) (v := 3) X0 C at_94 rfl rfl ?_
    refine W.icmpT (q := 122) X0 C at_95 (by decide) (by decide) (by decide : W.cT .ne (4 : Int32) (3 : Int32)) ?_
    refine W.iconst (q := 123) (v := 4) X0 C at_122 rfl rfl ?_
    refine W.anewarray (q := 126) X0 C (W.ww hw 12 rfl) (W.ww hw 38 rfl) e0 (by decide) 4 (by decide) (by decide) at_123 (by first | omega | (simp only [room_1]; omega) | (dsimp only; omega)) (by first | omega | (simp only [room_1]; omega) | (dsimp only; omega)) rfl (fun T501 h501 b501 k501 X501 e501 g501 E501 Ov501 V501_ => ?_)
    have ne_s0_b501 : s0 ≠ b501 := by rw [g501]; exact Nat.ne_of_lt Ey0.lt
    have ne_s1_b501 : s1 ≠ b501 := by rw [g501]; exact Nat.ne_of_lt Ey1.lt
    have ne_s2_b501 : s2 ≠ b501 := by rw [g501]; exact Nat.ne_of_lt Ey2.lt
    have ne_s3_b501 : s3 ≠ b501 := by rw [g501]; exact Nat.ne_of_lt Ey3.lt
    have ge_b501 : n0 ≤ b501 := by rw [g501]; exact Z0
    have sz_b501 : h0.size ≤ b501 := by rw [g501]; exact K0.1
    have n0_501 : n0 ≤ h501.size := Nat.le_trans Z0 E501.1
    have R_502 := R0.trans (CHr.ext E501 R0.1)
    have hk0_504 := Nat.le_trans hk0 E501.1
    have Ey0_505 := Ey0.ext E501
    have Ey1_506 := Ey1.ext E501
    have Ey2_507 := Ey2.ext E501
    have Ey3_508 := Ey3.ext E501
    have K501 := K0.ext E501
    have V501 : Arv Z h501 b501 k501 (.object "java/lang/String") (4 : Int32) [.null, .null, .null, .null] .null := V501_
    refine W.dup (q := 127) X501 C at_126 rfl rfl ?_
    refine W.iconst (q := 128) (v := 0) X501 C at_127 rfl rfl ?_
    refine W.aload (q := 130) X501 C at_128 rfl rfl rfl ?_
    refine W.aastore (q := 131) X501 C e501 rfl rfl V501 (fun cl A q => Sto.ofV A q Ov501 (Ins.self Ey0_505))  (by decide) (by decide) (Nat.le_of_ble_eq_true rfl) at_130 rfl (fun T509 h509 X509 e509 W509 V509_ => ?_)
    have R_510 := R_502.trans (CHr.wr W509 (Safe.arv C.2.1.alike V501 nofun) R_502.1)
    have hk0_512 := Nat.le_trans hk0_504 (Nat.le_of_eq W509.size.symm)
    have Ey0_513 := Ey0_505.wr W509
    have Ey1_514 := Ey1_506.wr W509
    have Ey2_515 := Ey2_507.wr W509
    have Ey3_516 := Ey3_508.wr W509
    have V509 : Arv Z h509 b501 k501 (.object "java/lang/String") (4 : Int32) [(.ref s0), .null, .null, .null] .null := V509_
    have N509 := Fr.snoc X509 N0 ge_b501
    have K509 := K501.wr W509 (Or.inr sz_b501)
    have n0_509 : n0 ≤ h509.size := by rw [W509.size]; exact n0_501
    refine W.dup (q := 132) X509 C at_131 rfl rfl ?_
    refine W.iconst (q := 133) (v := 1) X509 C at_132 rfl rfl ?_
    refine W.aload (q := 135) X509 C at_133 rfl rfl rfl ?_
    refine W.aastore (q := 136) X509 C e509 rfl rfl V509 (fun cl A q => Sto.ofV A q Ov501 (Ins.self Ey1_514))  (by decide) (by decide) (Nat.le_of_ble_eq_true rfl) at_135 rfl (fun T518 h518 X518 e518 W518 V518_ => ?_)
    have R_519 := R_510.trans (CHr.wr W518 (Safe.arv C.2.1.alike V509 nofun) R_510.1)
    have hk0_521 := Nat.le_trans hk0_512 (Nat.le_of_eq W518.size.symm)
    have Ey0_522 := Ey0_513.wr W518
    have Ey1_523 := Ey1_514.wr W518
    have Ey2_524 := Ey2_515.wr W518
    have Ey3_525 := Ey3_516.wr W518
    have V518 : Arv Z h518 b501 k501 (.object "java/lang/String") (4 : Int32) [(.ref s0), (.ref s1), .null, .null] .null := V518_
    have N518 := Fr.snoc X518 N509 ge_b501
    have K518 := K509.wr W518 (Or.inr sz_b501)
    have n0_518 : n0 ≤ h518.size := by rw [W518.size]; exact n0_509
    refine W.dup (q := 137) X518 C at_136 rfl rfl ?_
    refine W.iconst (q := 138) (v := 2) X518 C at_137 rfl rfl ?_
    refine W.aload (q := 140) X518 C at_138 rfl rfl rfl ?_
    refine W.aastore (q := 141) X518 C e518 rfl rfl V518 (fun cl A q => Sto.ofV A q Ov501 (Ins.self Ey2_524))  (by decide) (by decide) (Nat.le_of_ble_eq_true rfl) at_140 rfl (fun T527 h527 X527 e527 W527 V527_ => ?_)
    have R_528 := R_519.trans (CHr.wr W527 (Safe.arv C.2.1.alike V518 nofun) R_519.1)
    have hk0_530 := Nat.le_trans hk0_521 (Nat.le_of_eq W527.size.symm)
    have Ey0_531 := Ey0_522.wr W527
    have Ey1_532 := Ey1_523.wr W527
    have Ey2_533 := Ey2_524.wr W527
    have Ey3_534 := Ey3_525.wr W527
    have V527 : Arv Z h527 b501 k501 (.object "java/lang/String") (4 : Int32) [(.ref s0), (.ref s1), (.ref s2), .null] .null := V527_
    have N527 := Fr.snoc X527 N518 ge_b501
    have K527 := K518.wr W527 (Or.inr sz_b501)
    have n0_527 : n0 ≤ h527.size := by rw [W527.size]; exact n0_518
    refine W.dup (q := 142) X527 C at_141 rfl rfl ?_
    refine W.iconst (q := 143) (v := 3) X527 C at_142 rfl rfl ?_
    refine W.aload (q := 145) X527 C at_143 rfl rfl rfl ?_
    refine W.aastore (q := 146) X527 C e527 rfl rfl V527 (fun cl A q => Sto.ofV A q Ov501 (Ins.self Ey3_534))  (by decide) (by decide) (Nat.le_of_ble_eq_true rfl) at_145 rfl (fun T536 h536 X536 e536 W536 V536_ => ?_)
    have R_537 := R_528.trans (CHr.wr W536 (Safe.arv C.2.1.alike V527 nofun) R_528.1)
    have hk0_539 := Nat.le_trans hk0_530 (Nat.le_of_eq W536.size.symm)
    have Ey0_540 := Ey0_531.wr W536
    have Ey1_541 := Ey1_532.wr W536
    have Ey2_542 := Ey2_533.wr W536
    have Ey3_543 := Ey3_534.wr W536
    have V536 : Arv Z h536 b501 k501 (.object "java/lang/String") (4 : Int32) [(.ref s0), (.ref s1), (.ref s2), (.ref s3)] .null := V536_
    have N536 := Fr.snoc X536 N527 ge_b501
    have K536 := K527.wr W536 (Or.inr sz_b501)
    have n0_536 : n0 ≤ h536.size := by rw [W536.size]; exact n0_527
    refine W.astore (q := 148) (L' := #[.val (.int p0), .val (.int p1), .val (.int p2), .val (.int p3), .val (.int p4), .val (.ref s0), .val (.ref s1), .val (.ref s2), .val (.ref s3), .val (.int (4 : Int32)), .val (.ref b501), .unset, .unset]) X536 C at_146 rfl rfl rfl ?_
    have Y_545 := Y0.keep0 K536
    have Y_546 := Y1.keep0 K536
    have Y_547 := Y2.keep0 K536
    have Y_548 := Y3.keep0 K536
    refine W.aload (q := 150) X536 C at_148 rfl rfl rfl ?_
    refine W.callSW (q := 153) (s := s) X536 C (W.ww hw 39 rfl) (W.ww hw 40 rfl) (W.ww hw 41 rfl) (W.ww hw 42 rfl) (by decide) (rm8_4 l Z a0 hw [] b501 k501 s0 s1 s2 s3 m0 m1 m2 m3 h536 n0 n0_536 V536 Y_545 Y_546 Y_547 Y_548) e536 hS0 hk0_539 (own_EL hw) R_537.1 at_150 [(.ref b501)] [] rfl rfl pd__28_5bLjava_2flang_2fString_3b_29Ljava_2flang_2fString_3b rfl rfl (by decide) (Nat.le_of_ble_eq_true rfl) (by first | omega | (simp only [room_1]; omega) | (dsimp only; omega)) (by first | omega | (simp only [room_1]; omega) | (dsimp only; omega)) rfl (fun T549 w549 L549 X549 C hS549 hg549 hQ549 Rn549 => ?_)
    obtain ⟨r549, rfl, NL549, K549, D549⟩ := hQ549
    have N549 := Fr.app N536 NL549
    have Y_550 := Y_545.keep0 K549
    have Y_551 := Y_546.keep0 K549
    have Y_552 := Y_547.keep0 K549
    have Y_553 := Y_548.keep0 K549
    have Ey0_555 := Ey0_540.keep K549
    have Ey1_556 := Ey1_541.keep K549
    have Ey2_557 := Ey2_542.keep K549
    have Ey3_558 := Ey3_543.keep K549
    have V536_559 := V536.keep K549 nin0
    have n0_549 : n0 ≤ T549.heap.size := Nat.le_trans n0_536 K549.1
    have R_549 := R_537.trans Rn549
    have hk549 := Nat.le_refl T549.heap.size
    have KK549 := K536.trans K549 all0
    show W.Go p e below _ (T549.setTop (mkF m 153 #[.val (.int p0), .val (.int p1), .val (.int p2), .val (.int p3), .val (.int p4), .val (.ref s0), .val (.ref s1), .val (.ref s2), .val (.ref s3), .val (.int (4 : Int32)), .val (.ref b501), .unset, .unset] [(.ref r549)]))
    refine W.postW hS549 ?_
    rcases D549 with ⟨z0, hr⟩ | ⟨z0, z1, hr⟩ | ⟨z0, z1, z2, hr⟩ | ⟨z0, z1, z2, z3, hr⟩ | ⟨z0, z1, z2, z3, Yr⟩
    · rw [hr]
      show W.Go p e below _ (T549.setTop (mkF m 153 #[.val (.int p0), .val (.int p1), .val (.int p2), .val (.int p3), .val (.int p4), .val (.ref s0), .val (.ref s1), .val (.ref s2), .val (.ref s3), .val (.int (4 : Int32)), .val (.ref b501), .unset, .unset] [(.ref s0)]))
      refine W.astore (q := 155) (L' := #[.val (.int p0), .val (.int p1), .val (.int p2), .val (.int p3), .val (.int p4), .val (.ref s0), .val (.ref s1), .val (.ref s2), .val (.ref s3), .val (.int (4 : Int32)), .val (.ref b501), .val (.ref s0), .unset]) X549 C at_153 rfl rfl rfl ?_
      refine W.aconst (q := 156) X549 C at_155 rfl ?_
      refine W.astore (q := 158) (L' := #[.val (.int p0), .val (.int p1), .val (.int p2), .val (.int p3), .val (.int p4), .val (.ref s0), .val (.ref s1), .val (.ref s2), .val (.ref s3), .val (.int (4 : Int32)), .val (.ref b501), .val (.ref s0), .val .null]) X549 C at_156 rfl rfl rfl ?_
      refine W.iload (q := 160) X549 C at_158 rfl rfl ?_
      refine W.iconst (q := 161) (v := 1) X549 C at_160 rfl rfl ?_
      refine W.icmpF (q := 164) X549 C at_161 rfl (by decide : W.cF .lt (4 : Int32) (1 : Int32)) ?_
      refine W.aload (q := 166) X549 C at_164 rfl rfl rfl ?_
      refine W.callV (q := 169) X549 C (W.ww hw 44 rfl) (W.ww hw 45 rfl) (W.nf C (W.ww hw 47 rfl)) (W.ww hw 47 rfl) (W.ww hw 46 rfl) (W.ww hw 5 rfl) (W.ww hw 48 rfl) (by decide) (rm9 l Z a0 hw [] s0 m0 T549.heap n0 Y_550) rfl Ey0_555 at_166 [] [] rfl rfl pd__28_29Z rfl rfl (by decide) (Nat.le_of_ble_eq_true rfl) (by first | omega | (simp only [room_1]; omega) | (dsimp only; omega)) (by first | omega | (simp only [room_1]; omega) | (dsimp only; omega)) rfl (fun T560 w560 L560 X560 hQ560 => ?_)
      obtain ⟨rfl, NL560, e560⟩ := hQ560
      have N560 := Fr.app N549 NL560
      rw [show (if m0 = 0 then (1 : Int32) else 0) = (0 : Int32) from if_neg z0]
      show W.Go p e below _ (T560.setTop (mkF m 169 #[.val (.int p0), .val (.int p1), .val (.int p2), .val (.int p3), .val (.int p4), .val (.ref s0), .val (.ref s1), .val (.ref s2), .val (.ref s3), .val (.int (4 : Int32)), .val (.ref b501), .val (.ref s0), .val .null] [(.int (0 : Int32))]))
      refine W.ifF (q := 172) X560 C at_169 rfl (by decide : W.cF .ne (0 : Int32) 0) ?_
      refine W.aload (q := 174) X560 C at_172 rfl rfl rfl ?_
      refine W.astore (q := 176) (L' := #[.val (.int p0), .val (.int p1), .val (.int p2), .val (.int p3), .val (.int p4), .val (.ref s0), .val (.ref s1), .val (.ref s2), .val (.ref s3), .val (.int (4 : Int32)), .val (.ref b501), .val (.ref s0), .val (.ref s0)]) X560 C at_174 rfl rfl rfl ?_
      refine W.goto (q := 239) X560 C at_176 (by decide) (by decide) ?_
      refine W.aload (q := 241) X560 C at_239 rfl rfl rfl ?_
      refine W.ifnonnullT (q := 263) X560 C at_241 (by decide) (by decide) ?_
      refine W.aload (q := 265) X560 C at_263 rfl rfl rfl ?_
      refine W.aload (q := 267) X560 C at_265 rfl rfl rfl ?_
      refine W.acmp (q := 270) X560 C rfl rfl (same := true) (decide_eq_true rfl) at_267 (by decide) (by decide) ?_
      refine W.iconst (q := 271) (v := 1) X560 C at_270 rfl rfl ?_
      refine W.goto (q := 275) X560 C at_271 (by decide) (by decide) ?_
      exact W.retN X560 C (by simp) e560 at_275 rfl (by first | omega | (simp only [room_1]; omega) | (dsimp only; omega)) (by first | omega | (simp only [room_1]; omega) | (dsimp only; omega)) ⟨⟨rfl, N560⟩, hk549⟩
    · rw [hr]
      show W.Go p e below _ (T549.setTop (mkF m 153 #[.val (.int p0), .val (.int p1), .val (.int p2), .val (.int p3), .val (.int p4), .val (.ref s0), .val (.ref s1), .val (.ref s2), .val (.ref s3), .val (.int (4 : Int32)), .val (.ref b501), .unset, .unset] [(.ref s1)]))
      refine W.astore (q := 155) (L' := #[.val (.int p0), .val (.int p1), .val (.int p2), .val (.int p3), .val (.int p4), .val (.ref s0), .val (.ref s1), .val (.ref s2), .val (.ref s3), .val (.int (4 : Int32)), .val (.ref b501), .val (.ref s1), .unset]) X549 C at_153 rfl rfl rfl ?_
      refine W.aconst (q := 156) X549 C at_155 rfl ?_
      refine W.astore (q := 158) (L' := #[.val (.int p0), .val (.int p1), .val (.int p2), .val (.int p3), .val (.int p4), .val (.ref s0), .val (.ref s1), .val (.ref s2), .val (.ref s3), .val (.int (4 : Int32)), .val (.ref b501), .val (.ref s1), .val .null]) X549 C at_156 rfl rfl rfl ?_
      refine W.iload (q := 160) X549 C at_158 rfl rfl ?_
      refine W.iconst (q := 161) (v := 1) X549 C at_160 rfl rfl ?_
      refine W.icmpF (q := 164) X549 C at_161 rfl (by decide : W.cF .lt (4 : Int32) (1 : Int32)) ?_
      refine W.aload (q := 166) X549 C at_164 rfl rfl rfl ?_
      refine W.callV (q := 169) X549 C (W.ww hw 44 rfl) (W.ww hw 45 rfl) (W.nf C (W.ww hw 47 rfl)) (W.ww hw 47 rfl) (W.ww hw 46 rfl) (W.ww hw 5 rfl) (W.ww hw 48 rfl) (by decide) (rm9 l Z a0 hw [] s0 m0 T549.heap n0 Y_550) rfl Ey0_555 at_166 [] [] rfl rfl pd__28_29Z rfl rfl (by decide) (Nat.le_of_ble_eq_true rfl) (by first | omega | (simp only [room_1]; omega) | (dsimp only; omega)) (by first | omega | (simp only [room_1]; omega) | (dsimp only; omega)) rfl (fun T561 w561 L561 X561 hQ561 => ?_)
      obtain ⟨rfl, NL561, e561⟩ := hQ561
      have N561 := Fr.app N549 NL561
      rw [show (if m0 = 0 then (1 : Int32) else 0) = (1 : Int32) from if_pos z0]
      show W.Go p e below _ (T561.setTop (mkF m 169 #[.val (.int p0), .val (.int p1), .val (.int p2), .val (.int p3), .val (.int p4), .val (.ref s0), .val (.ref s1), .val (.ref s2), .val (.ref s3), .val (.int (4 : Int32)), .val (.ref b501), .val (.ref s1), .val .null] [(.int (1 : Int32))]))
      refine W.ifT (q := 179) X561 C at_169 (by decide) (by decide) (by decide : W.cT .ne (1 : Int32) 0) ?_
      refine W.iload (q := 181) X561 C at_179 rfl rfl ?_
      refine W.iconst (q := 182) (v := 2) X561 C at_181 rfl rfl ?_
      refine W.icmpF (q := 185) X561 C at_182 rfl (by decide : W.cF .lt (4 : Int32) (2 : Int32)) ?_
      refine W.aload (q := 187) X561 C at_185 rfl rfl rfl ?_
      refine W.callV (q := 190) X561 C (W.ww hw 44 rfl) (W.ww hw 45 rfl) (W.nf C (W.ww hw 47 rfl)) (W.ww hw 47 rfl) (W.ww hw 46 rfl) (W.ww hw 5 rfl) (W.ww hw 48 rfl) (by decide) (rm9 l Z a0 hw [] s1 m1 T549.heap n0 Y_551) e561 Ey1_556 at_187 [] [] rfl rfl pd__28_29Z rfl rfl (by decide) (Nat.le_of_ble_eq_true rfl) (by first | omega | (simp only [room_1]; omega) | (dsimp only; omega)) (by first | omega | (simp only [room_1]; omega) | (dsimp only; omega)) rfl (fun T562 w562 L562 X562 hQ562 => ?_)
      obtain ⟨rfl, NL562, e562⟩ := hQ562
      have N562 := Fr.app N561 NL562
      rw [show (if m1 = 0 then (1 : Int32) else 0) = (0 : Int32) from if_neg z1]
      show W.Go p e below _ (T562.setTop (mkF m 190 #[.val (.int p0), .val (.int p1), .val (.int p2), .val (.int p3), .val (.int p4), .val (.ref s0), .val (.ref s1), .val (.ref s2), .val (.ref s3), .val (.int (4 : Int32)), .val (.ref b501), .val (.ref s1), .val .null] [(.int (0 : Int32))]))
      refine W.ifF (q := 193) X562 C at_190 rfl (by decide : W.cF .ne (0 : Int32) 0) ?_
      refine W.aload (q := 195) X562 C at_193 rfl rfl rfl ?_
      refine W.astore (q := 197) (L' := #[.val (.int p0), .val (.int p1), .val (.int p2), .val (.int p3), .val (.int p4), .val (.ref s0), .val (.ref s1), .val (.ref s2), .val (.ref s3), .val (.int (4 : Int32)), .val (.ref b501), .val (.ref s1), .val (.ref s1)]) X562 C at_195 rfl rfl rfl ?_
      refine W.goto (q := 239) X562 C at_197 (by decide) (by decide) ?_
      refine W.aload (q := 241) X562 C at_239 rfl rfl rfl ?_
      refine W.ifnonnullT (q := 263) X562 C at_241 (by decide) (by decide) ?_
      refine W.aload (q := 265) X562 C at_263 rfl rfl rfl ?_
      refine W.aload (q := 267) X562 C at_265 rfl rfl rfl ?_
      refine W.acmp (q := 270) X562 C rfl rfl (same := true) (decide_eq_true rfl) at_267 (by decide) (by decide) ?_
      refine W.iconst (q := 271) (v := 1) X562 C at_270 rfl rfl ?_
      refine W.goto (q := 275) X562 C at_271 (by decide) (by decide) ?_
      exact W.retN X562 C (by simp) e562 at_275 rfl (by first | omega | (simp only [room_1]; omega) | (dsimp only; omega)) (by first | omega | (simp only [room_1]; omega) | (dsimp only; omega)) ⟨⟨rfl, N562⟩, hk549⟩
    · rw [hr]
      show W.Go p e below _ (T549.setTop (mkF m 153 #[.val (.int p0), .val (.int p1), .val (.int p2), .val (.int p3), .val (.int p4), .val (.ref s0), .val (.ref s1), .val (.ref s2), .val (.ref s3), .val (.int (4 : Int32)), .val (.ref b501), .unset, .unset] [(.ref s2)]))
      refine W.astore (q := 155) (L' := #[.val (.int p0), .val (.int p1), .val (.int p2), .val (.int p3), .val (.int p4), .val (.ref s0), .val (.ref s1), .val (.ref s2), .val (.ref s3), .val (.int (4 : Int32)), .val (.ref b501), .val (.ref s2), .unset]) X549 C at_153 rfl rfl rfl ?_
      refine W.aconst (q := 156) X549 C at_155 rfl ?_
      refine W.astore (q := 158) (L' := #[.val (.int p0), .val (.int p1), .val (.int p2), .val (.int p3), .val (.int p4), .val (.ref s0), .val (.ref s1), .val (.ref s2), .val (.ref s3), .val (.int (4 : Int32)), .val (.ref b501), .val (.ref s2), .val .null]) X549 C at_156 rfl rfl rfl ?_
      refine W.iload (q := 160) X549 C at_158 rfl rfl ?_
      refine W.iconst (q := 161) (v := 1) X549 C at_160 rfl rfl ?_
      refine W.icmpF (q := 164) X549 C at_161 rfl (by decide : W.cF .lt (4 : Int32) (1 : Int32)) ?_
      refine W.aload (q := 166) X549 C at_164 rfl rfl rfl ?_
      refine W.callV (q := 169) X549 C (W.ww hw 44 rfl) (W.ww hw 45 rfl) (W.nf C (W.ww hw 47 rfl)) (W.ww hw 47 rfl) (W.ww hw 46 rfl) (W.ww hw 5 rfl) (W.ww hw 48 rfl) (by decide) (rm9 l Z a0 hw [] s0 m0 T549.heap n0 Y_550) rfl Ey0_555 at_166 [] [] rfl rfl pd__28_29Z rfl rfl (by decide) (Nat.le_of_ble_eq_true rfl) (by first | omega | (simp only [room_1]; omega) | (dsimp only; omega)) (by first | omega | (simp only [room_1]; omega) | (dsimp only; omega)) rfl (fun T563 w563 L563 X563 hQ563 => ?_)
      obtain ⟨rfl, NL563, e563⟩ := hQ563
      have N563 := Fr.app N549 NL563
      rw [show (if m0 = 0 then (1 : Int32) else 0) = (1 : Int32) from if_pos z0]
      show W.Go p e below _ (T563.setTop (mkF m 169 #[.val (.int p0), .val (.int p1), .val (.int p2), .val (.int p3), .val (.int p4), .val (.ref s0), .val (.ref s1), .val (.ref s2), .val (.ref s3), .val (.int (4 : Int32)), .val (.ref b501), .val (.ref s2), .val .null] [(.int (1 : Int32))]))
      refine W.ifT (q := 179) X563 C at_169 (by decide) (by decide) (by decide : W.cT .ne (1 : Int32) 0) ?_
      refine W.iload (q := 181) X563 C at_179 rfl rfl ?_
      refine W.iconst (q := 182) (v := 2) X563 C at_181 rfl rfl ?_
      refine W.icmpF (q := 185) X563 C at_182 rfl (by decide : W.cF .lt (4 : Int32) (2 : Int32)) ?_
      refine W.aload (q := 187) X563 C at_185 rfl rfl rfl ?_
      refine W.callV (q := 190) X563 C (W.ww hw 44 rfl) (W.ww hw 45 rfl) (W.nf C (W.ww hw 47 rfl)) (W.ww hw 47 rfl) (W.ww hw 46 rfl) (W.ww hw 5 rfl) (W.ww hw 48 rfl) (by decide) (rm9 l Z a0 hw [] s1 m1 T549.heap n0 Y_551) e563 Ey1_556 at_187 [] [] rfl rfl pd__28_29Z rfl rfl (by decide) (Nat.le_of_ble_eq_true rfl) (by first | omega | (simp only [room_1]; omega) | (dsimp only; omega)) (by first | omega | (simp only [room_1]; omega) | (dsimp only; omega)) rfl (fun T564 w564 L564 X564 hQ564 => ?_)
      obtain ⟨rfl, NL564, e564⟩ := hQ564
      have N564 := Fr.app N563 NL564
      rw [show (if m1 = 0 then (1 : Int32) else 0) = (1 : Int32) from if_pos z1]
      show W.Go p e below _ (T564.setTop (mkF m 190 #[.val (.int p0), .val (.int p1), .val (.int p2), .val (.int p3), .val (.int p4), .val (.ref s0), .val (.ref s1), .val (.ref s2), .val (.ref s3), .val (.int (4 : Int32)), .val (.ref b501), .val (.ref s2), .val .null] [(.int (1 : Int32))]))
      refine W.ifT (q := 200) X564 C at_190 (by decide) (by decide) (by decide : W.cT .ne (1 : Int32) 0) ?_
      refine W.iload (q := 202) X564 C at_200 rfl rfl ?_
      refine W.iconst (q := 203) (v := 3) X564 C at_202 rfl rfl ?_
      refine W.icmpF (q := 206) X564 C at_203 rfl (by decide : W.cF .lt (4 : Int32) (3 : Int32)) ?_
      refine W.aload (q := 208) X564 C at_206 rfl rfl rfl ?_
      refine W.callV (q := 211) X564 C (W.ww hw 44 rfl) (W.ww hw 45 rfl) (W.nf C (W.ww hw 47 rfl)) (W.ww hw 47 rfl) (W.ww hw 46 rfl) (W.ww hw 5 rfl) (W.ww hw 48 rfl) (by decide) (rm9 l Z a0 hw [] s2 m2 T549.heap n0 Y_552) e564 Ey2_557 at_208 [] [] rfl rfl pd__28_29Z rfl rfl (by decide) (Nat.le_of_ble_eq_true rfl) (by first | omega | (simp only [room_1]; omega) | (dsimp only; omega)) (by first | omega | (simp only [room_1]; omega) | (dsimp only; omega)) rfl (fun T565 w565 L565 X565 hQ565 => ?_)
      obtain ⟨rfl, NL565, e565⟩ := hQ565
      have N565 := Fr.app N564 NL565
      rw [show (if m2 = 0 then (1 : Int32) else 0) = (0 : Int32) from if_neg z2]
      show W.Go p e below _ (T565.setTop (mkF m 211 #[.val (.int p0), .val (.int p1), .val (.int p2), .val (.int p3), .val (.int p4), .val (.ref s0), .val (.ref s1), .val (.ref s2), .val (.ref s3), .val (.int (4 : Int32)), .val (.ref b501), .val (.ref s2), .val .null] [(.int (0 : Int32))]))
      refine W.ifF (q := 214) X565 C at_211 rfl (by decide : W.cF .ne (0 : Int32) 0) ?_
      refine W.aload (q := 216) X565 C at_214 rfl rfl rfl ?_
      refine W.astore (q := 218) (L' := #[.val (.int p0), .val (.int p1), .val (.int p2), .val (.int p3), .val (.int p4), .val (.ref s0), .val (.ref s1), .val (.ref s2), .val (.ref s3), .val (.int (4 : Int32)), .val (.ref b501), .val (.ref s2), .val (.ref s2)]) X565 C at_216 rfl rfl rfl ?_
      refine W.goto (q := 239) X565 C at_218 (by decide) (by decide) ?_
      refine W.aload (q := 241) X565 C at_239 rfl rfl rfl ?_
      refine W.ifnonnullT (q := 263) X565 C at_241 (by decide) (by decide) ?_
      refine W.aload (q := 265) X565 C at_263 rfl rfl rfl ?_
      refine W.aload (q := 267) X565 C at_265 rfl rfl rfl ?_
      refine W.acmp (q := 270) X565 C rfl rfl (same := true) (decide_eq_true rfl) at_267 (by decide) (by decide) ?_
      refine W.iconst (q := 271) (v := 1) X565 C at_270 rfl rfl ?_
      refine W.goto (q := 275) X565 C at_271 (by decide) (by decide) ?_
      exact W.retN X565 C (by simp) e565 at_275 rfl (by first | omega | (simp only [room_1]; omega) | (dsimp only; omega)) (by first | omega | (simp only [room_1]; omega) | (dsimp only; omega)) ⟨⟨rfl, N565⟩, hk549⟩
    · rw [hr]
      show W.Go p e below _ (T549.setTop (mkF m 153 #[.val (.int p0), .val (.int p1), .val (.int p2), .val (.int p3), .val (.int p4), .val (.ref s0), .val (.ref s1), .val (.ref s2), .val (.ref s3), .val (.int (4 : Int32)), .val (.ref b501), .unset, .unset] [(.ref s3)]))
      refine W.astore (q := 155) (L' := #[.val (.int p0), .val (.int p1), .val (.int p2), .val (.int p3), .val (.int p4), .val (.ref s0), .val (.ref s1), .val (.ref s2), .val (.ref s3), .val (.int (4 : Int32)), .val (.ref b501), .val (.ref s3), .unset]) X549 C at_153 rfl rfl rfl ?_
      refine W.aconst (q := 156) X549 C at_155 rfl ?_
      refine W.astore (q := 158) (L' := #[.val (.int p0), .val (.int p1), .val (.int p2), .val (.int p3), .val (.int p4), .val (.ref s0), .val (.ref s1), .val (.ref s2), .val (.ref s3), .val (.int (4 : Int32)), .val (.ref b501), .val (.ref s3), .val .null]) X549 C at_156 rfl rfl rfl ?_
      refine W.iload (q := 160) X549 C at_158 rfl rfl ?_
      refine W.iconst (q := 161) (v := 1) X549 C at_160 rfl rfl ?_
      refine W.icmpF (q := 164) X549 C at_161 rfl (by decide : W.cF .lt (4 : Int32) (1 : Int32)) ?_
      refine W.aload (q := 166) X549 C at_164 rfl rfl rfl ?_
      refine W.callV (q := 169) X549 C (W.ww hw 44 rfl) (W.ww hw 45 rfl) (W.nf C (W.ww hw 47 rfl)) (W.ww hw 47 rfl) (W.ww hw 46 rfl) (W.ww hw 5 rfl) (W.ww hw 48 rfl) (by decide) (rm9 l Z a0 hw [] s0 m0 T549.heap n0 Y_550) rfl Ey0_555 at_166 [] [] rfl rfl pd__28_29Z rfl rfl (by decide) (Nat.le_of_ble_eq_true rfl) (by first | omega | (simp only [room_1]; omega) | (dsimp only; omega)) (by first | omega | (simp only [room_1]; omega) | (dsimp only; omega)) rfl (fun T566 w566 L566 X566 hQ566 => ?_)
      obtain ⟨rfl, NL566, e566⟩ := hQ566
      have N566 := Fr.app N549 NL566
      rw [show (if m0 = 0 then (1 : Int32) else 0) = (1 : Int32) from if_pos z0]
      show W.Go p e below _ (T566.setTop (mkF m 169 #[.val (.int p0), .val (.int p1), .val (.int p2), .val (.int p3), .val (.int p4), .val (.ref s0), .val (.ref s1), .val (.ref s2), .val (.ref s3), .val (.int (4 : Int32)), .val (.ref b501), .val (.ref s3), .val .null] [(.int (1 : Int32))]))
      refine W.ifT (q := 179) X566 C at_169 (by decide) (by decide) (by decide : W.cT .ne (1 : Int32) 0) ?_
      refine W.iload (q := 181) X566 C at_179 rfl rfl ?_
      refine W.iconst (q := 182) (v := 2) X566 C at_181 rfl rfl ?_
      refine W.icmpF (q := 185) X566 C at_182 rfl (by decide : W.cF .lt (4 : Int32) (2 : Int32)) ?_
      refine W.aload (q := 187) X566 C at_185 rfl rfl rfl ?_
      refine W.callV (q := 190) X566 C (W.ww hw 44 rfl) (W.ww hw 45 rfl) (W.nf C (W.ww hw 47 rfl)) (W.ww hw 47 rfl) (W.ww hw 46 rfl) (W.ww hw 5 rfl) (W.ww hw 48 rfl) (by decide) (rm9 l Z a0 hw [] s1 m1 T549.heap n0 Y_551) e566 Ey1_556 at_187 [] [] rfl rfl pd__28_29Z rfl rfl (by decide) (Nat.le_of_ble_eq_true rfl) (by first | omega | (simp only [room_1]; omega) | (dsimp only; omega)) (by first | omega | (simp only [room_1]; omega) | (dsimp only; omega)) rfl (fun T567 w567 L567 X567 hQ567 => ?_)
      obtain ⟨rfl, NL567, e567⟩ := hQ567
      have N567 := Fr.app N566 NL567
      rw [show (if m1 = 0 then (1 : Int32) else 0) = (1 : Int32) from if_pos z1]
      show W.Go p e below _ (T567.setTop (mkF m 190 #[.val (.int p0), .val (.int p1), .val (.int p2), .val (.int p3), .val (.int p4), .val (.ref s0), .val (.ref s1), .val (.ref s2), .val (.ref s3), .val (.int (4 : Int32)), .val (.ref b501), .val (.ref s3), .val .null] [(.int (1 : Int32))]))
      refine W.ifT (q := 200) X567 C at_190 (by decide) (by decide) (by decide : W.cT .ne (1 : Int32) 0) ?_
      refine W.iload (q := 202) X567 C at_200 rfl rfl ?_
      refine W.iconst (q := 203) (v := 3) X567 C at_202 rfl rfl ?_
      refine W.icmpF (q := 206) X567 C at_203 rfl (by decide : W.cF .lt (4 : Int32) (3 : Int32)) ?_
      refine W.aload (q := 208) X567 C at_206 rfl rfl rfl ?_
      refine W.callV (q := 211) X567 C (W.ww hw 44 rfl) (W.ww hw 45 rfl) (W.nf C (W.ww hw 47 rfl)) (W.ww hw 47 rfl) (W.ww hw 46 rfl) (W.ww hw 5 rfl) (W.ww hw 48 rfl) (by decide) (rm9 l Z a0 hw [] s2 m2 T549.heap n0 Y_552) e567 Ey2_557 at_208 [] [] rfl rfl pd__28_29Z rfl rfl (by decide) (Nat.le_of_ble_eq_true rfl) (by first | omega | (simp only [room_1]; omega) | (dsimp only; omega)) (by first | omega | (simp only [room_1]; omega) | (dsimp only; omega)) rfl (fun T568 w568 L568 X568 hQ568 => ?_)
      obtain ⟨rfl, NL568, e568⟩ := hQ568
      have N568 := Fr.app N567 NL568
      rw [show (if m2 = 0 then (1 : Int32) else 0) = (1 : Int32) from if_pos z2]
      show W.Go p e below _ (T568.setTop (mkF m 211 #[.val (.int p0), .val (.int p1), .val (.int p2), .val (.int p3), .val (.int p4), .val (.ref s0), .val (.ref s1), .val (.ref s2), .val (.ref s3), .val (.int (4 : Int32)), .val (.ref b501), .val (.ref s3), .val .null] [(.int (1 : Int32))]))
      refine W.ifT (q := 221) X568 C at_211 (by decide) (by decide) (by decide : W.cT .ne (1 : Int32) 0) ?_
      refine W.iload (q := 223) X568 C at_221 rfl rfl ?_
      refine W.iconst (q := 224) (v := 4) X568 C at_223 rfl rfl ?_
      refine W.icmpF (q := 227) X568 C at_224 rfl (by decide : W.cF .lt (4 : Int32) (4 : Int32)) ?_
      refine W.aload (q := 229) X568 C at_227 rfl rfl rfl ?_
      refine W.callV (q := 232) X568 C (W.ww hw 44 rfl) (W.ww hw 45 rfl) (W.nf C (W.ww hw 47 rfl)) (W.ww hw 47 rfl) (W.ww hw 46 rfl) (W.ww hw 5 rfl) (W.ww hw 48 rfl) (by decide) (rm9 l Z a0 hw [] s3 m3 T549.heap n0 Y_553) e568 Ey3_558 at_229 [] [] rfl rfl pd__28_29Z rfl rfl (by decide) (Nat.le_of_ble_eq_true rfl) (by first | omega | (simp only [room_1]; omega) | (dsimp only; omega)) (by first | omega | (simp only [room_1]; omega) | (dsimp only; omega)) rfl (fun T569 w569 L569 X569 hQ569 => ?_)
      obtain ⟨rfl, NL569, e569⟩ := hQ569
      have N569 := Fr.app N568 NL569
      rw [show (if m3 = 0 then (1 : Int32) else 0) = (0 : Int32) from if_neg z3]
      show W.Go p e below _ (T569.setTop (mkF m 232 #[.val (.int p0), .val (.int p1), .val (.int p2), .val (.int p3), .val (.int p4), .val (.ref s0), .val (.ref s1), .val (.ref s2), .val (.ref s3), .val (.int (4 : Int32)), .val (.ref b501), .val (.ref s3), .val .null] [(.int (0 : Int32))]))
      refine W.ifF (q := 235) X569 C at_232 rfl (by decide : W.cF .ne (0 : Int32) 0) ?_
      refine W.aload (q := 237) X569 C at_235 rfl rfl rfl ?_
      refine W.astore (q := 239) (L' := #[.val (.int p0), .val (.int p1), .val (.int p2), .val (.int p3), .val (.int p4), .val (.ref s0), .val (.ref s1), .val (.ref s2), .val (.ref s3), .val (.int (4 : Int32)), .val (.ref b501), .val (.ref s3), .val (.ref s3)]) X569 C at_237 rfl rfl rfl ?_
      refine W.aload (q := 241) X569 C at_239 rfl rfl rfl ?_
      refine W.ifnonnullT (q := 263) X569 C at_241 (by decide) (by decide) ?_
      refine W.aload (q := 265) X569 C at_263 rfl rfl rfl ?_
      refine W.aload (q := 267) X569 C at_265 rfl rfl rfl ?_
      refine W.acmp (q := 270) X569 C rfl rfl (same := true) (decide_eq_true rfl) at_267 (by decide) (by decide) ?_
      refine W.iconst (q := 271) (v := 1) X569 C at_270 rfl rfl ?_
      refine W.goto (q := 275) X569 C at_271 (by decide) (by decide) ?_
      exact W.retN X569 C (by simp) e569 at_275 rfl (by first | omega | (simp only [room_1]; omega) | (dsimp only; omega)) (by first | omega | (simp only [room_1]; omega) | (dsimp only; omega)) ⟨⟨rfl, N569⟩, hk549⟩
    · have Er := Yr.exa
      refine W.astore (q := 155) (L' := #[.val (.int p0), .val (.int p1), .val (.int p2), .val (.int p3), .val (.int p4), .val (.ref s0), .val (.ref s1), .val (.ref s2), .val (.ref s3), .val (.int (4 : Int32)), .val (.ref b501), .val (.ref r549), .unset]) X549 C at_153 rfl rfl rfl ?_
      refine W.aconst (q := 156) X549 C at_155 rfl ?_
      refine W.astore (q := 158) (L' := #[.val (.int p0), .val (.int p1), .val (.int p2), .val (.int p3), .val (.int p4), .val (.ref s0), .val (.ref s1), .val (.ref s2), .val (.ref s3), .val (.int (4 : Int32)), .val (.ref b501), .val (.ref r549), .val .null]) X549 C at_156 rfl rfl rfl ?_
      refine W.iload (q := 160) X549 C at_158 rfl rfl ?_
      refine W.iconst (q := 161) (v := 1) X549 C at_160 rfl rfl ?_
      refine W.icmpF (q := 164) X549 C at_161 rfl (by decide : W.cF .lt (4 : Int32) (1 : Int32)) ?_
      refine W.aload (q := 166) X549 C at_164 rfl rfl rfl ?_
      refine W.callV (q := 169) X549 C (W.ww hw 44 rfl) (W.ww hw 45 rfl) (W.nf C (W.ww hw 47 rfl)) (W.ww hw 47 rfl) (W.ww hw 46 rfl) (W.ww hw 5 rfl) (W.ww hw 48 rfl) (by decide) (rm9 l Z a0 hw [] s0 m0 T549.heap n0 Y_550) rfl Ey0_555 at_166 [] [] rfl rfl pd__28_29Z rfl rfl (by decide) (Nat.le_of_ble_eq_true rfl) (by first | omega | (simp only [room_1]; omega) | (dsimp only; omega)) (by first | omega | (simp only [room_1]; omega) | (dsimp only; omega)) rfl (fun T570 w570 L570 X570 hQ570 => ?_)
      obtain ⟨rfl, NL570, e570⟩ := hQ570
      have N570 := Fr.app N549 NL570
      rw [show (if m0 = 0 then (1 : Int32) else 0) = (1 : Int32) from if_pos z0]
      show W.Go p e below _ (T570.setTop (mkF m 169 #[.val (.int p0), .val (.int p1), .val (.int p2), .val (.int p3), .val (.int p4), .val (.ref s0), .val (.ref s1), .val (.ref s2), .val (.ref s3), .val (.int (4 : Int32)), .val (.ref b501), .val (.ref r549), .val .null] [(.int (1 : Int32))]))
      refine W.ifT (q := 179) X570 C at_169 (by decide) (by decide) (by decide : W.cT .ne (1 : Int32) 0) ?_
      refine W.iload (q := 181) X570 C at_179 rfl rfl ?_
      refine W.iconst (q := 182) (v := 2) X570 C at_181 rfl rfl ?_
      refine W.icmpF (q := 185) X570 C at_182 rfl (by decide : W.cF .lt (4 : Int32) (2 : Int32)) ?_
      refine W.aload (q := 187) X570 C at_185 rfl rfl rfl ?_
      refine W.callV (q := 190) X570 C (W.ww hw 44 rfl) (W.ww hw 45 rfl) (W.nf C (W.ww hw 47 rfl)) (W.ww hw 47 rfl) (W.ww hw 46 rfl) (W.ww hw 5 rfl) (W.ww hw 48 rfl) (by decide) (rm9 l Z a0 hw [] s1 m1 T549.heap n0 Y_551) e570 Ey1_556 at_187 [] [] rfl rfl pd__28_29Z rfl rfl (by decide) (Nat.le_of_ble_eq_true rfl) (by first | omega | (simp only [room_1]; omega) | (dsimp only; omega)) (by first | omega | (simp only [room_1]; omega) | (dsimp only; omega)) rfl (fun T571 w571 L571 X571 hQ571 => ?_)
      obtain ⟨rfl, NL571, e571⟩ := hQ571
      have N571 := Fr.app N570 NL571
      rw [show (if m1 = 0 then (1 : Int32) else 0) = (1 : Int32) from if_pos z1]
      show W.Go p e below _ (T571.setTop (mkF m 190 #[.val (.int p0), .val (.int p1), .val (.int p2), .val (.int p3), .val (.int p4), .val (.ref s0), .val (.ref s1), .val (.ref s2), .val (.ref s3), .val (.int (4 : Int32)), .val (.ref b501), .val (.ref r549), .val .null] [(.int (1 : Int32))]))
      refine W.ifT (q := 200) X571 C at_190 (by decide) (by decide) (by decide : W.cT .ne (1 : Int32) 0) ?_
      refine W.iload (q := 202) X571 C at_200 rfl rfl ?_
      refine W.iconst (q := 203) (v := 3) X571 C at_202 rfl rfl ?_
      refine W.icmpF (q := 206) X571 C at_203 rfl (by decide : W.cF .lt (4 : Int32) (3 : Int32)) ?_
      refine W.aload (q := 208) X571 C at_206 rfl rfl rfl ?_
      refine W.callV (q := 211) X571 C (W.ww hw 44 rfl) (W.ww hw 45 rfl) (W.nf C (W.ww hw 47 rfl)) (W.ww hw 47 rfl) (W.ww hw 46 rfl) (W.ww hw 5 rfl) (W.ww hw 48 rfl) (by decide) (rm9 l Z a0 hw [] s2 m2 T549.heap n0 Y_552) e571 Ey2_557 at_208 [] [] rfl rfl pd__28_29Z rfl rfl (by decide) (Nat.le_of_ble_eq_true rfl) (by first | omega | (simp only [room_1]; omega) | (dsimp only; omega)) (by first | omega | (simp only [room_1]; omega) | (dsimp only; omega)) rfl (fun T572 w572 L572 X572 hQ572 => ?_)
      obtain ⟨rfl, NL572, e572⟩ := hQ572
      have N572 := Fr.app N571 NL572
      rw [show (if m2 = 0 then (1 : Int32) else 0) = (1 : Int32) from if_pos z2]
      show W.Go p e below _ (T572.setTop (mkF m 211 #[.val (.int p0), .val (.int p1), .val (.int p2), .val (.int p3), .val (.int p4), .val (.ref s0), .val (.ref s1), .val (.ref s2), .val (.ref s3), .val (.int (4 : Int32)), .val (.ref b501), .val (.ref r549), .val .null] [(.int (1 : Int32))]))
      refine W.ifT (q := 221) X572 C at_211 (by decide) (by decide) (by decide : W.cT .ne (1 : Int32) 0) ?_
      refine W.iload (q := 223) X572 C at_221 rfl rfl ?_
      refine W.iconst (q := 224) (v := 4) X572 C at_223 rfl rfl ?_
      refine W.icmpF (q := 227) X572 C at_224 rfl (by decide : W.cF .lt (4 : Int32) (4 : Int32)) ?_
      refine W.aload (q := 229) X572 C at_227 rfl rfl rfl ?_
      refine W.callV (q := 232) X572 C (W.ww hw 44 rfl) (W.ww hw 45 rfl) (W.nf C (W.ww hw 47 rfl)) (W.ww hw 47 rfl) (W.ww hw 46 rfl) (W.ww hw 5 rfl) (W.ww hw 48 rfl) (by decide) (rm9 l Z a0 hw [] s3 m3 T549.heap n0 Y_553) e572 Ey3_558 at_229 [] [] rfl rfl pd__28_29Z rfl rfl (by decide) (Nat.le_of_ble_eq_true rfl) (by first | omega | (simp only [room_1]; omega) | (dsimp only; omega)) (by first | omega | (simp only [room_1]; omega) | (dsimp only; omega)) rfl (fun T573 w573 L573 X573 hQ573 => ?_)
      obtain ⟨rfl, NL573, e573⟩ := hQ573
      have N573 := Fr.app N572 NL573
      rw [show (if m3 = 0 then (1 : Int32) else 0) = (1 : Int32) from if_pos z3]
      show W.Go p e below _ (T573.setTop (mkF m 232 #[.val (.int p0), .val (.int p1), .val (.int p2), .val (.int p3), .val (.int p4), .val (.ref s0), .val (.ref s1), .val (.ref s2), .val (.ref s3), .val (.int (4 : Int32)), .val (.ref b501), .val (.ref r549), .val .null] [(.int (1 : Int32))]))
      refine W.ifT (q := 239) X573 C at_232 (by decide) (by decide) (by decide : W.cT .ne (1 : Int32) 0) ?_
      refine W.aload (q := 241) X573 C at_239 rfl rfl rfl ?_
      refine W.ifnonnullF (q := 244) X573 C at_241 rfl ?_
      refine W.aload (q := 246) X573 C at_244 rfl rfl rfl ?_
      refine W.ifnullF (q := 249) X573 C at_246 rfl ?_
      refine W.aload (q := 251) X573 C at_249 rfl rfl rfl ?_
      refine W.callV (q := 254) X573 C (W.ww hw 44 rfl) (W.ww hw 45 rfl) (W.nf C (W.ww hw 47 rfl)) (W.ww hw 47 rfl) (W.ww hw 46 rfl) (W.ww hw 5 rfl) (W.ww hw 48 rfl) (by decide) (rm9 l Z a0 hw [] r549 (0 : Int32) T549.heap n0 Yr) e573 Er at_251 [] [] rfl rfl pd__28_29Z rfl rfl (by decide) (Nat.le_of_ble_eq_true rfl) (by first | omega | (simp only [room_1]; omega) | (dsimp only; omega)) (by first | omega | (simp only [room_1]; omega) | (dsimp only; omega)) rfl (fun T574 w574 L574 X574 hQ574 => ?_)
      obtain ⟨rfl, NL574, e574⟩ := hQ574
      have N574 := Fr.app N573 NL574
      rw [show (if (0 : Int32) = 0 then (1 : Int32) else 0) = (1 : Int32) from if_pos rfl]
      show W.Go p e below _ (T574.setTop (mkF m 254 #[.val (.int p0), .val (.int p1), .val (.int p2), .val (.int p3), .val (.int p4), .val (.ref s0), .val (.ref s1), .val (.ref s2), .val (.ref s3), .val (.int (4 : Int32)), .val (.ref b501), .val (.ref r549), .val .null] [(.int (1 : Int32))]))
      refine W.ifF (q := 257) X574 C at_254 rfl (by decide : W.cF .eq (1 : Int32) 0) ?_
      refine W.iconst (q := 258) (v := 1) X574 C at_257 rfl rfl ?_
      refine W.goto (q := 262) X574 C at_258 (by decide) (by decide) ?_
      exact W.retN X574 C (by simp) e574 at_262 rfl (by first | omega | (simp only [room_1]; omega) | (dsimp only; omega)) (by first | omega | (simp only [room_1]; omega) | (dsimp only; omega)) ⟨⟨rfl, N574⟩, hk549⟩
theorem pd__28I_29Ljava_2flang_2fString_3b : parseMethodDescriptor "(I)Ljava/lang/String;" = some ⟨[.int], some (.object "java/lang/String")⟩ := by decide +kernel
def Q0 (Z : State) (p0 p1 p2 p3 p4 cs : Int32) (h0 : Heap) (n0 : Nat) (v : Option Value) (h : Heap) (L : List Loc) : Prop := v = some (.int 1) ∧ Fr n0 L
set_option maxRecDepth 65536 in
set_option maxHeartbeats 40000000 in
theorem rm0 (l : Launch) (Z : State) (a0 : Array Value) (hw : ∀ d ∈ tables_1, d.before a0 Z = true) (ws : List Jvm.Cond) (p0 p1 p2 p3 p4 cs : Int32) (h0 : Heap) (n0 : Nat) (Z0 : n0 ≤ h0.size) (O0 : Old Z n0 h0) (SC : Sta Z Z.heap "java/lang/String" "COMPACT_STRINGS" "Z" (.int cs)) (hcs : cs ≠ 0) :
    MetFree l x (head1 (Jvm.Cond.code x code maxLocals ret :: ws) room_1) (fun a U => a = #[(.int p0), (.int p1), (.int p2), (.int p3), (.int p4)] ∧ Z.Warmed39 U.vm ∧ U.heap = h0 ∧ CHv Z own_el U.vm h0) (fun _ _ _ _ _ => True) (fun _ U o U' => ∃ v L, o = .returned v ∧ Q0 Z p0 p1 p2 p3 p4 cs h0 n0 v U'.heap L ∧ ReturnedEndW U o U' L room_1.cells room_1.slots) := by
  refine W.bodyOfHW (y := x) (as := #[(.int p0), (.int p1), (.int p2), (.int p3), (.int p4)]) (maxL := maxLocals) (Q := Q0 Z p0 p1 p2 p3 p4 cs h0 n0) (Ls := #[.val (.int p0), .val (.int p1), .val (.int p2), .val (.int p3), .val (.int p4), .unset, .unset, .unset, .unset, .unset, .unset, .unset, .unset]) (plainFor_of_name pn_com_example_orderwire_orderwire_imaging_FieldsFirstNonEmptyPinLaw) (fun m => by first | exact W.entry_of rfl | rfl | (simp [entryFrame, mkF, argsToLocals, Value.category, maxLocals]; done)) ?_
  intro p e s m below meth c T0 C X0 e0 hs hH hS0
  have R0 : CHr Z own_el s.vm s.heap s.vm h0 := by rw [hs]; exact CHr.refl hH
  have hk0 : 0 ≤ h0.size := Nat.zero_le _
  replace C : W.Cx p (s.setVm s.vm) m meth c Z code 13 "com/example/orderwire/orderwire/imaging/FieldsFirstNonEmptyPinLaw" "law" (some .boolean) := C
  have N0 := Fr.nil n0
  refine W.iloadN (q := 1) X0 C at_0 rfl rfl ?_
  refine W.callSW (q := 4) (s := s) X0 C (W.ww hw 0 rfl) (W.ww hw 1 rfl) (W.ww hw 2 rfl) (W.ww hw 3 rfl) (by decide) (rm1 l Z a0 hw [] p0 cs h0 n0 Z0 O0 SC hcs) e0 hS0 hk0 (own_EL hw) R0.1 at_1 [(.int p0)] [] rfl rfl pd__28I_29Ljava_2flang_2fString_3b rfl rfl (by decide) (Nat.le_of_ble_eq_true rfl) (by decide) (by decide) rfl (fun T575 w575 L575 X575 C hS575 hg575 hQ575 Rn575 => ?_)
  obtain ⟨b575, rfl, NL575, K575, Yn575⟩ := hQ575
  have N575 := Fr.app N0 NL575
  have O0_577 := O0.keep K575 all0
  have n0_575 : n0 ≤ T575.heap.size := Nat.le_trans Z0 K575.1
  have R_575 := R0.trans Rn575
  have hk575 := Nat.le_refl T575.heap.size
  show W.Go p e below _ (T575.setTop (mkF m 4 #[.val (.int p0), .val (.int p1), .val (.int p2), .val (.int p3), .val (.int p4), .unset, .unset, .unset, .unset, .unset, .unset, .unset, .unset] [(.ref b575)]))
  refine W.astore (q := 6) (L' := #[.val (.int p0), .val (.int p1), .val (.int p2), .val (.int p3), .val (.int p4), .val (.ref b575), .unset, .unset, .unset, .unset, .unset, .unset, .unset]) X575 C at_4 rfl rfl rfl ?_
  refine W.iloadN (q := 7) X575 C at_6 rfl rfl ?_
  refine W.callSW (q := 10) (s := s) X575 C (W.ww hw 0 rfl) (W.ww hw 1 rfl) (W.ww hw 2 rfl) (W.ww hw 3 rfl) (by decide) (rm1 l Z a0 hw [] p1 cs T575.heap n0 n0_575 O0_577 SC hcs) rfl hS575 hk575 (own_EL hw) R_575.1 at_7 [(.int p1)] [] rfl rfl pd__28I_29Ljava_2flang_2fString_3b rfl rfl (by decide) (Nat.le_of_ble_eq_true rfl) (by decide) (by decide) rfl (fun T578 w578 L578 X578 C hS578 hg578 hQ578 Rn578 => ?_)
  obtain ⟨b578, rfl, NL578, K578, Yn578⟩ := hQ578
  have N578 := Fr.app N575 NL578
  have Y_579 := Yn575.keep0 K578
  have O0_581 := O0_577.keep K578 all0
  have n0_578 : n0 ≤ T578.heap.size := Nat.le_trans n0_575 K578.1
  have R_578 := R_575.trans Rn578
  have hk578 := Nat.le_refl T578.heap.size
  show W.Go p e below _ (T578.setTop (mkF m 10 #[.val (.int p0), .val (.int p1), .val (.int p2), .val (.int p3), .val (.int p4), .val (.ref b575), .unset, .unset, .unset, .unset, .unset, .unset, .unset] [(.ref b578)]))
  refine W.astore (q := 12) (L' := #[.val (.int p0), .val (.int p1), .val (.int p2), .val (.int p3), .val (.int p4), .val (.ref b575), .val (.ref b578), .unset, .unset, .unset, .unset, .unset, .unset]) X578 C at_10 rfl rfl rfl ?_
  refine W.iloadN (q := 13) X578 C at_12 rfl rfl ?_
  refine W.callSW (q := 16) (s := s) X578 C (W.ww hw 0 rfl) (W.ww hw 1 rfl) (W.ww hw 2 rfl) (W.ww hw 3 rfl) (by decide) (rm1 l Z a0 hw [] p2 cs T578.heap n0 n0_578 O0_581 SC hcs) rfl hS578 hk578 (own_EL hw) R_578.1 at_13 [(.int p2)] [] rfl rfl pd__28I_29Ljava_2flang_2fString_3b rfl rfl (by decide) (Nat.le_of_ble_eq_true rfl) (by decide) (by decide) rfl (fun T582 w582 L582 X582 C hS582 hg582 hQ582 Rn582 => ?_)
  obtain ⟨b582, rfl, NL582, K582, Yn582⟩ := hQ582
  have N582 := Fr.app N578 NL582
  have Y_583 := Y_579.keep0 K582
  have Y_584 := Yn578.keep0 K582
  have O0_586 := O0_581.keep K582 all0
  have n0_582 : n0 ≤ T582.heap.size := Nat.le_trans n0_578 K582.1
  have R_582 := R_578.trans Rn582
  have hk582 := Nat.le_refl T582.heap.size
  show W.Go p e below _ (T582.setTop (mkF m 16 #[.val (.int p0), .val (.int p1), .val (.int p2), .val (.int p3), .val (.int p4), .val (.ref b575), .val (.ref b578), .unset, .unset, .unset, .unset, .unset, .unset] [(.ref b582)]))
  refine W.astore (q := 18) (L' := #[.val (.int p0), .val (.int p1), .val (.int p2), .val (.int p3), .val (.int p4), .val (.ref b575), .val (.ref b578), .val (.ref b582), .unset, .unset, .unset, .unset, .unset]) X582 C at_16 rfl rfl rfl ?_
  refine W.iloadN (q := 19) X582 C at_18 rfl rfl ?_
  refine W.callSW (q := 22) (s := s) X582 C (W.ww hw 0 rfl) (W.ww hw 1 rfl) (W.ww hw 2 rfl) (W.ww hw 3 rfl) (by decide) (rm1 l Z a0 hw [] p3 cs T582.heap n0 n0_582 O0_586 SC hcs) rfl hS582 hk582 (own_EL hw) R_582.1 at_19 [(.int p3)] [] rfl rfl pd__28I_29Ljava_2flang_2fString_3b rfl rfl (by decide) (Nat.le_of_ble_eq_true rfl) (by decide) (by decide) rfl (fun T587 w587 L587 X587 C hS587 hg587 hQ587 Rn587 => ?_)
  obtain ⟨b587, rfl, NL587, K587, Yn587⟩ := hQ587
  have N587 := Fr.app N582 NL587
  have Y_588 := Y_583.keep0 K587
  have Y_589 := Y_584.keep0 K587
  have Y_590 := Yn582.keep0 K587
  have O0_592 := O0_586.keep K587 all0
  have n0_587 : n0 ≤ T587.heap.size := Nat.le_trans n0_582 K587.1
  have R_587 := R_582.trans Rn587
  have hk587 := Nat.le_refl T587.heap.size
  show W.Go p e below _ (T587.setTop (mkF m 22 #[.val (.int p0), .val (.int p1), .val (.int p2), .val (.int p3), .val (.int p4), .val (.ref b575), .val (.ref b578), .val (.ref b582), .unset, .unset, .unset, .unset, .unset] [(.ref b587)]))
  refine W.astore (q := 24) (L' := #[.val (.int p0), .val (.int p1), .val (.int p2), .val (.int p3), .val (.int p4), .val (.ref b575), .val (.ref b578), .val (.ref b582), .val (.ref b587), .unset, .unset, .unset, .unset]) X587 C at_22 rfl rfl rfl ?_
  refine W.iload (q := 26) X587 C at_24 rfl rfl ?_
  refine W.ldcI (q := 28) X587 C (W.ww hw 37 rfl) at_26 rfl ?_
  refine W.iand (q := 29) X587 C at_28 rfl ?_
  refine W.iconst (q := 30) (v := 5) X587 C at_29 rfl rfl ?_
  refine W.irem (q := 31) X587 C at_30 (by decide) rfl ?_
  generalize hv593 : ((p4 &&& (2147483647 : Int32)) % (5 : Int32)) = v593
  refine W.istore (q := 33) (L' := #[.val (.int p0), .val (.int p1), .val (.int p2), .val (.int p3), .val (.int p4), .val (.ref b575), .val (.ref b578), .val (.ref b582), .val (.ref b587), .val (.int v593), .unset, .unset, .unset]) X587 C at_31 rfl rfl ?_
  exact own_p33 l Z a0 hw T587.heap n0 p0 p1 p2 p3 p4 v593 (p0 &&& (3 : Int32)) (p1 &&& (3 : Int32)) (p2 &&& (3 : Int32)) (p3 &&& (3 : Int32)) b575 b578 b582 b587 _ _ _ _ (by first | omega | (simp only [room_1]; omega) | (dsimp only; omega)) (by first | omega | (simp only [room_1]; omega) | (dsimp only; omega)) C X587 rfl N587 n0_587 hS587 hk587 R_587.1 (own_m5 hv593) Y_588 Y_589 Y_590 Yn587
set_option maxRecDepth 65536 in
set_option maxHeartbeats 40000000 in
theorem comes_1 {Post : Tables → Env → Array Value → State → Outcome → State → Prop} (hpost : ∀ tb e args s v u, (limb_1_1.after args s (.returned v) u = true ∧ limb_1_2.after args s (.returned v) u = true ∧ True) → ReturnedEndW s (.returned v) u (Jvm.fieldLocs frame_1_writes args s ++ Jvm.arrayLocs frame_1_arrays args s ++ Jvm.staticLocs frame_1_statics s) 40 2240 → Post tb e args s (.returned v) u) :
    ArmFor flags0 classFile x code maxLocals ret World_1 tables_1 room_1 Calls_1 rest_1 Pre_1 Post := by
  intro l hfl _ _ p e ha hc hk s m args below hf hA hF happ hP
  obtain ⟨hcalls, hrest, hpre⟩ := hP
  obtain ⟨-, -, -, hnamed, -, -, -, hat⟩ := (Spec.applies_iff hf).mp happ
  obtain ⟨hg, hn⟩ := and_e (Cond.before_iff.mp (show (Jvm.Cond.and given_1 narrow_1).before args s = true from hpre))
  obtain ⟨g1, g2⟩ := and_e hg
  obtain ⟨g3, g4⟩ := and_e g2
  obtain ⟨g5, g6⟩ := and_e g4
  obtain ⟨g7, g8⟩ := and_e g6
  obtain ⟨g9, g10⟩ := and_e g8
  obtain ⟨w0, w1, w2, w3, w4, rfl⟩ : ∃ w0 w1 w2 w3 w4 : Value, args = #[w0, w1, w2, w3, w4] := by
    have hs : args.size = 5 := by simpa [Cond.value, given_1] using g1
    obtain ⟨L⟩ := args
    match L, hs with
    | [w0, w1, w2, w3, w4], _ => exact ⟨w0, w1, w2, w3, w4, rfl⟩
  have hw := fun d (hd : d ∈ tables_1) => atoms_spec (ws := Jvm.Cond.code x code maxLocals ret :: tables_1) hat d (List.mem_cons_of_mem _ hd)
  have hfit : Fit s := fun {y c} hc i hi => by
    obtain ⟨ha, rfl⟩ := Array.getElem?_eq_some_iff.mp hc
    have q := List.all_eq_true.mp ((Array.all_eq_true_iff_forall_mem.mp hF) _ (Array.getElem_mem ha)) i (List.mem_range.mpr hi)
    simpa [Array.getElem?_eq_getElem hi] using q
  obtain ⟨hsets, hown0⟩ := atoms_of _ (rest_1_c_eq ▸ (show rest_1_c.before _ s = true from hrest))
  have hr0 := Cond.before_iff.mp hown0
  obtain ⟨i0, ei0⟩ := is_v g3
  obtain rfl : w0 = (.int i0) := Option.some.inj ei0
  obtain ⟨i1, ei1⟩ := is_v g5
  obtain rfl : w1 = (.int i1) := Option.some.inj ei1
  obtain ⟨i2, ei2⟩ := is_v g7
  obtain rfl : w2 = (.int i2) := Option.some.inj ei2
  obtain ⟨i3, ei3⟩ := is_v g9
  obtain rfl : w3 = (.int i3) := Option.some.inj ei3
  obtain ⟨i4, ei4⟩ := is_v g10
  obtain rfl : w4 = (.int i4) := Option.some.inj ei4
  have hs1 := Cond.before_iff.mp (hsets _ (List.mem_of_getElem? (i := 1) rfl))
  obtain ⟨cs, evC⟩ := is_v hs1
  have SC := Sta.start evC (Or.inl (hsets _ (List.mem_of_getElem? (i := 0) rfl)))
  have hs2 := Cond.before_iff.mp (hsets _ (List.mem_of_getElem? (i := 2) rfl))
  have hcs : cs ≠ 0 := fun q => by subst q; exact absurd ((eq_i evC (Term.int_eval 0) rfl).symm.trans (not_v hs2)) (by decide)
  obtain ⟨n, o, h1, h2, h3, _, L, rfl, ⟨rfl, N⟩, hq⟩ := rm0 l s _ hw tables_1 i0 i1 i2 i3 i4 cs s.heap s.heap.size (Nat.le_refl _) (Old.start s) SC hcs p e ha hc hk s m _ below hf ((Spec.applies_iff_loose hf).mp happ).1 ⟨rfl, State.Warmed39.refl s, rfl, own_CH hw hcalls.1 (hsets _ (List.mem_of_getElem? (i := 2) rfl))⟩ trivial
  refine ⟨n, _, h1, h2, h3, hpost _ _ _ _ _ _ ⟨Cond.after_iff.mpr rfl, Cond.after_iff.mpr (eq_i res_at (Term.int_eval (1)) rfl), trivial⟩ ⟨hq.1, hq.2.1, hq.2.2.1, (hq.2.2.2.sift fun y hy => Or.inr (N y hy)).mono (by decide) (by decide)⟩⟩
theorem main_1_1 : Claimed_1_1 := comes_1 fun _ _ _ _ _ _ h hF => ⟨h.1, hF⟩
theorem main_1_2 : Claimed_1_2 := comes_1 fun _ _ _ _ _ _ h hF => ⟨h.2.1, hF⟩
end Jvm.Pilot.@@N@@
namespace Jvm.Pilot.@@N@@
open Jvm Jvm.ClassFile Sem Op Lib Jvm.Free Jvm.Stand Jvm.Pilot.@@N@@.Jvm.D
/-! MADE BY PROGRAM (witnessworld.py) out of the Statement's table words and the real class files: 21 classes; the members and pool entries that the words name. The judged class is class 1, her method 1. -/
namespace start1
open Jvm.ClassFile
def u (s : String) : CpInfo := .utf8 (stringToUtf16 s)
/-- a pool by its gaps: so many unusable entries, then the entry; so many at the end -/
def gap : Nat → List CpInfo → List CpInfo
  | 0, r => r
  | n + 1, r => .unusable :: gap n r
def poolList (es : List (Nat × CpInfo)) (last : Nat) : List CpInfo := es.foldr (fun e r => gap e.1 (e.2 :: r)) (gap last [])
def pool (es : List (Nat × CpInfo)) (last : Nat) : Array CpInfo := ⟨poolList es last⟩
def fileOf (pool : Array CpInfo) (this : Nat) (attrs : Array Attribute := #[]) (ms : Array MethodInfo := #[]) (fl : Nat := 33) (sup : Nat := 0) (ifs : Array Nat := #[]) (fds : Array FieldInfo := #[]) : ClassFile where
  minorVersion := 0
  majorVersion := 65
  constantPool := pool
  accessFlags := fl
  thisClass := this
  superClass := sup
  interfaces := ifs
  fields := fds
  methods := ms
  attributes := attrs
def plain (name : String) (sup : Option ClassId) : Class where
  name := name
  kind := .ordinary
  loader := none
  accessFlags := 33
  super := sup
  interfaces := #[]
  cf := none
  fields := #[]
  methods := #[]
  instanceTypes := #[]
  staticTypes := #[]
  resolved := #[]
  callSites := []
  init := .initialized
  statics := none
  mirror := none

def pool0 : Array CpInfo := pool [(5, u "<init>"), (0, u "()V"), (1, .class_ 10), (1, u "java/lang/Object")] 113

def k0c0 : Code := { maxStack := 0, maxLocals := 1, code := object_method_1_code, exceptionTable := #[], attributes := #[] }
def k0m0 : Method := { name := "<init>", desc := "()V", sig := { parameters := [], returnType := none }, accessFlags := 1, code := some k0c0 }
/-- java/lang/Object -/
def k0 : Class := { plain "java/lang/Object" none with
  accessFlags := 33
  interfaces := #[]
  cf := some (fileOf pool0 8 #[] #[{ accessFlags := 1, nameIndex := 5, descriptorIndex := 6, attributes := #[] }] 33 0 #[] #[])
  fields := #[]
  methods := #[k0m0]
  instanceTypes := #[]
  staticTypes := #[]
  resolved := Array.replicate 124 none
  statics := none }

def pool1 : Array CpInfo := pool [(2, .class_ 4), (1, u "java/lang/Object"), (0, u "<init>"), (0, u "()V"), (0, .methodref 8 9), (0, .class_ 10), (0, .nameAndType 11 12), (0, u "com/example/orderwire/orderwire/imaging/FieldsFirstNonEmptyPinLaw"), (0, u "make"), (0, u "(I)Ljava/lang/String;"), (0, .integer 2147483647), (0, .class_ 15), (0, u "java/lang/String"), (0, .methodref 17 18), (0, .class_ 19), (0, .nameAndType 20 21), (0, u "com/example/orderwire/orderwire/imaging/Fields"), (0, u "firstNonEmpty"), (0, u "([Ljava/lang/String;)Ljava/lang/String;"), (0, .methodref 14 23), (0, .nameAndType 24 25), (0, u "isEmpty"), (0, u "()Z"), (0, .string 27), (0, u ""), (0, .methodref 14 29), (0, .nameAndType 5 30), (0, u "([C)V"), (2, u "law"), (0, u "(IIIII)Z")] 5

def k1m0 : Method := { name := "<init>", desc := "()V", sig := { parameters := [], returnType := none }, accessFlags := 2, code := none }
def k1c1 : Code := { maxStack := 4, maxLocals := 13, code := code, exceptionTable := #[], attributes := #[] }
def k1m1 : Method := { name := "law", desc := "(IIIII)Z", sig := { parameters := [.int, .int, .int, .int, .int], returnType := some .boolean }, accessFlags := 9, code := some k1c1 }
def k1c2 : Code := { maxStack := 6, maxLocals := 5, code := method_3_code, exceptionTable := #[], attributes := #[] }
def k1m2 : Method := { name := "make", desc := "(I)Ljava/lang/String;", sig := { parameters := [.int], returnType := some (.object "java/lang/String") }, accessFlags := 10, code := some k1c2 }
/-- com/example/orderwire/orderwire/imaging/FieldsFirstNonEmptyPinLaw -/
def k1 : Class := { plain "com/example/orderwire/orderwire/imaging/FieldsFirstNonEmptyPinLaw" (some 0) with
  accessFlags := 49
  interfaces := #[]
  cf := some (fileOf pool1 8 #[] #[{ accessFlags := 2, nameIndex := 5, descriptorIndex := 6, attributes := #[] }, { accessFlags := 9, nameIndex := 33, descriptorIndex := 34, attributes := #[] }, { accessFlags := 10, nameIndex := 11, descriptorIndex := 12, attributes := #[] }] 49 2 #[] #[])
  fields := #[]
  methods := #[k1m0, k1m1, k1m2]
  instanceTypes := #[]
  staticTypes := #[]
  resolved := Array.replicate 40 none
  statics := none }

def pool2 : Array CpInfo := pool [(1, .class_ 2), (0, u "java/io/Serializable"), (0, .class_ 4), (0, u "java/lang/Object")] 2

/-- java/io/Serializable -/
def k2 : Class := { plain "java/io/Serializable" (some 0) with
  accessFlags := 1537
  interfaces := #[]
  cf := some (fileOf pool2 1 #[] #[] 1537 3 #[] #[])
  fields := #[]
  methods := #[]
  instanceTypes := #[]
  staticTypes := #[]
  resolved := Array.replicate 7 none
  statics := none }

def pool3 : Array CpInfo := pool [(1, .class_ 2), (0, u "java/lang/Comparable"), (0, .class_ 4), (0, u "java/lang/Object")] 7

/-- java/lang/Comparable -/
def k3 : Class := { plain "java/lang/Comparable" (some 0) with
  accessFlags := 1537
  interfaces := #[]
  cf := some (fileOf pool3 1 #[] #[] 1537 3 #[] #[])
  fields := #[]
  methods := #[]
  instanceTypes := #[]
  staticTypes := #[]
  resolved := Array.replicate 12 none
  statics := none }

def pool4 : Array CpInfo := pool [(2, .class_ 4), (1, u "java/lang/CharSequence"), (42, .class_ 48), (0, u "java/lang/CharSequence$1CodePointIterator"), (10, .class_ 60), (0, u "java/lang/CharSequence$1CharIterator"), (5, .class_ 67), (0, u "java/lang/Object")] 63

/-- java/lang/CharSequence -/
def k4 : Class := { plain "java/lang/CharSequence" (some 0) with
  accessFlags := 1537
  interfaces := #[]
  cf := some (fileOf pool4 2 #[.nestMembers #[47, 59]] #[] 1537 66 #[] #[])
  fields := #[]
  methods := #[]
  instanceTypes := #[]
  staticTypes := #[]
  resolved := Array.replicate 131 none
  statics := none }

def pool5 : Array CpInfo := pool [(1, .class_ 2), (0, u "java/lang/constant/Constable"), (0, .class_ 4), (0, u "java/lang/Object")] 6

/-- java/lang/constant/Constable -/
def k5 : Class := { plain "java/lang/constant/Constable" (some 0) with
  accessFlags := 1537
  interfaces := #[]
  cf := some (fileOf pool5 1 #[] #[] 1537 3 #[] #[])
  fields := #[]
  methods := #[]
  instanceTypes := #[]
  staticTypes := #[]
  resolved := Array.replicate 11 none
  statics := none }

def pool6 : Array CpInfo := pool [(1, .class_ 2), (0, u "java/lang/constant/ConstantDesc"), (0, .class_ 4), (0, u "java/lang/Object")] 32

/-- java/lang/constant/ConstantDesc -/
def k6 : Class := { plain "java/lang/constant/ConstantDesc" (some 0) with
  accessFlags := 1537
  interfaces := #[]
  cf := some (fileOf pool6 1 #[] #[] 1537 3 #[] #[])
  fields := #[]
  methods := #[]
  instanceTypes := #[]
  staticTypes := #[]
  resolved := Array.replicate 37 none
  statics := none }

def pool7 : Array CpInfo := pool [(1, .methodref 2 3), (0, .class_ 4), (0, .nameAndType 5 6), (0, u "java/lang/Object"), (0, u "<init>"), (0, u "()V"), (2, .fieldref 10 11), (0, .class_ 12), (0, .nameAndType 13 14), (0, u "java/lang/String"), (0, u "value"), (0, u "[B"), (0, .fieldref 10 16), (0, .nameAndType 17 18), (0, u "coder"), (0, u "B"), (2, u "hash"), (0, u "I"), (2, u "hashIsZero"), (0, u "Z"), (0, .methodref 10 28), (0, .nameAndType 5 29), (0, u "([CIILjava/lang/Void;)V"), (8, .fieldref 10 39), (0, .nameAndType 40 26), (0, u "COMPACT_STRINGS"), (1, .class_ 44), (1, u "java/lang/StringUTF16"), (0, u "compress"), (1, .methodref 42 48), (0, .nameAndType 49 50), (0, u "coderFromArrayLen"), (0, u "([BI)B"), (91, u "()Z"), (34, .methodref 42 178), (0, .nameAndType 45 179), (0, u "([CII)[B"), (395, .class_ 576), (0, u "java/lang/CharSequence"), (22, u "CASE_INSENSITIVE_ORDER"), (0, u "Ljava/util/Comparator;"), (91, u "isEmpty"), (317, u "([C)V"), (90, u "serialPersistentFields"), (0, u "[Ljava/io/ObjectStreamField;"), (0, .class_ 1104), (0, u "java/lang/String$CaseInsensitiveComparator"), (1, .class_ 1107), (0, u "java/io/Serializable"), (0, .class_ 1109), (0, u "java/lang/Comparable"), (0, .class_ 1111), (0, u "java/lang/constant/Constable"), (0, .class_ 1113), (0, u "java/lang/constant/ConstantDesc"), (2, u "serialVersionUID"), (0, u "J"), (3, u "REPL"), (0, u "C"), (2, u "LATIN1"), (1, u "UTF16")] 323

def k7m0 : Method := { name := "<init>", desc := "()V", sig := { parameters := [], returnType := none }, accessFlags := 1, code := none }
def k7c1 : Code := { maxStack := 5, maxLocals := 2, code := jdk_42_method_3_code, exceptionTable := #[], attributes := #[] }
def k7m1 : Method := { name := "<init>", desc := "([C)V", sig := { parameters := [(.array .char)], returnType := none }, accessFlags := 1, code := some k7c1 }
def k7c2 : Code := { maxStack := 1, maxLocals := 1, code := jdk_42_method_55_code, exceptionTable := #[], attributes := #[] }
def k7m2 : Method := { name := "isEmpty", desc := "()Z", sig := { parameters := [], returnType := some .boolean }, accessFlags := 1, code := some k7c2 }
def k7c3 : Code := { maxStack := 4, maxLocals := 6, code := jdk_42_method_149_code, exceptionTable := #[], attributes := #[] }
def k7m3 : Method := { name := "<init>", desc := "([CIILjava/lang/Void;)V", sig := { parameters := [(.array .char), .int, .int, (.object "java/lang/Void")], returnType := none }, accessFlags := 2, code := some k7c3 }
/-- java/lang/String -/
def k7 : Class := { plain "java/lang/String" (some 0) with
  accessFlags := 49
  interfaces := #[2, 3, 4, 5, 6]
  cf := some (fileOf pool7 10 #[.nestMembers #[1103]] #[{ accessFlags := 1, nameIndex := 5, descriptorIndex := 6, attributes := #[] }, { accessFlags := 1, nameIndex := 5, descriptorIndex := 1010, attributes := #[] }, { accessFlags := 1, nameIndex := 692, descriptorIndex := 142, attributes := #[] }, { accessFlags := 2, nameIndex := 5, descriptorIndex := 29, attributes := #[] }] 49 2 #[1106, 1108, 575, 1110, 1112] #[{ accessFlags := 18, nameIndex := 13, descriptorIndex := 14, attributes := #[] }, { accessFlags := 18, nameIndex := 17, descriptorIndex := 18, attributes := #[] }, { accessFlags := 2, nameIndex := 21, descriptorIndex := 22, attributes := #[] }, { accessFlags := 2, nameIndex := 25, descriptorIndex := 26, attributes := #[] }, { accessFlags := 26, nameIndex := 1116, descriptorIndex := 1117, attributes := #[] }, { accessFlags := 24, nameIndex := 40, descriptorIndex := 26, attributes := #[] }, { accessFlags := 26, nameIndex := 1101, descriptorIndex := 1102, attributes := #[] }, { accessFlags := 26, nameIndex := 1121, descriptorIndex := 1122, attributes := #[] }, { accessFlags := 25, nameIndex := 599, descriptorIndex := 600, attributes := #[] }, { accessFlags := 24, nameIndex := 1125, descriptorIndex := 18, attributes := #[] }, { accessFlags := 24, nameIndex := 1127, descriptorIndex := 18, attributes := #[] }])
  fields := #[{ name := "value", type := (.array .byte), accessFlags := 18, slot := 0, constantValue := 0 }, { name := "coder", type := .byte, accessFlags := 18, slot := 1, constantValue := 0 }, { name := "hash", type := .int, accessFlags := 2, slot := 2, constantValue := 0 }, { name := "hashIsZero", type := .boolean, accessFlags := 2, slot := 3, constantValue := 0 }, { name := "serialVersionUID", type := .long, accessFlags := 26, slot := 0, constantValue := 0 }, { name := "COMPACT_STRINGS", type := .boolean, accessFlags := 24, slot := 1, constantValue := 0 }, { name := "serialPersistentFields", type := (.array (.object "java/io/ObjectStreamField")), accessFlags := 26, slot := 2, constantValue := 0 }, { name := "REPL", type := .char, accessFlags := 26, slot := 3, constantValue := 0 }, { name := "CASE_INSENSITIVE_ORDER", type := (.object "java/util/Comparator"), accessFlags := 25, slot := 4, constantValue := 0 }, { name := "LATIN1", type := .byte, accessFlags := 24, slot := 5, constantValue := 0 }, { name := "UTF16", type := .byte, accessFlags := 24, slot := 6, constantValue := 0 }]
  methods := #[k7m0, k7m1, k7m2, k7m3]
  instanceTypes := #[(.array .byte), .byte, .int, .boolean]
  staticTypes := #[.long, .boolean, (.array (.object "java/io/ObjectStreamField")), .char, (.object "java/util/Comparator"), .byte, .byte]
  resolved := Array.replicate 1451 none
  statics := some 0 }

def pool8 : Array CpInfo := pool [(6, .class_ 8), (1, u "java/lang/Object"), (0, u "<init>"), (0, u "()V"), (1, .class_ 14), (1, u "java/lang/StringUTF16"), (31, u "$assertionsDisabled"), (0, u "Z"), (13, u "HI_BYTE_SHIFT"), (0, u "I"), (2, u "LO_BYTE_SHIFT"), (49, .methodref 12 116), (0, .nameAndType 117 118), (0, u "compress"), (0, u "([CI[BII)I"), (3, u "([CII)[B"), (138, u "coderFromArrayLen"), (0, u "([BI)B"), (106, .class_ 371), (1, u "java/lang/StringUTF16$LinesSpliterator"), (58, u "MAX_LENGTH"), (196, .class_ 628), (0, u "java/lang/StringUTF16$CodePointsSpliterator"), (0, .class_ 630), (0, u "java/lang/StringUTF16$CharsSpliterator")] 4

def k8m0 : Method := { name := "<init>", desc := "()V", sig := { parameters := [], returnType := none }, accessFlags := 0, code := none }
def k8c1 : Code := { maxStack := 2, maxLocals := 2, code := jdk_52_method_15_code, exceptionTable := #[], attributes := #[] }
def k8m1 : Method := { name := "coderFromArrayLen", desc := "([BI)B", sig := { parameters := [(.array .byte), .int], returnType := some .byte }, accessFlags := 8, code := some k8c1 }
def k8c2 : Code := { maxStack := 5, maxLocals := 6, code := jdk_52_method_16_code, exceptionTable := #[], attributes := #[] }
def k8m2 : Method := { name := "compress", desc := "([CII)[B", sig := { parameters := [(.array .char), .int, .int], returnType := some (.array .byte) }, accessFlags := 9, code := some k8c2 }
def k8c3 : Code := { maxStack := 3, maxLocals := 7, code := jdk_52_method_21_code, exceptionTable := #[], attributes := #[] }
def k8m3 : Method := { name := "compress", desc := "([CI[BII)I", sig := { parameters := [(.array .char), .int, (.array .byte), .int, .int], returnType := some .int }, accessFlags := 9, code := some k8c3 }
/-- java/lang/StringUTF16 -/
def k8 : Class := { plain "java/lang/StringUTF16" (some 0) with
  accessFlags := 48
  interfaces := #[]
  cf := some (fileOf pool8 12 #[.nestMembers #[627, 629, 369]] #[{ accessFlags := 0, nameIndex := 9, descriptorIndex := 10, attributes := #[] }, { accessFlags := 8, nameIndex := 261, descriptorIndex := 262, attributes := #[] }, { accessFlags := 9, nameIndex := 117, descriptorIndex := 122, attributes := #[] }, { accessFlags := 9, nameIndex := 117, descriptorIndex := 118, attributes := #[] }] 48 6 #[] #[{ accessFlags := 26, nameIndex := 61, descriptorIndex := 62, attributes := #[] }, { accessFlags := 26, nameIndex := 65, descriptorIndex := 62, attributes := #[] }, { accessFlags := 24, nameIndex := 430, descriptorIndex := 62, attributes := #[] }, { accessFlags := 4120, nameIndex := 46, descriptorIndex := 47, attributes := #[] }])
  fields := #[{ name := "HI_BYTE_SHIFT", type := .int, accessFlags := 26, slot := 0, constantValue := 0 }, { name := "LO_BYTE_SHIFT", type := .int, accessFlags := 26, slot := 1, constantValue := 0 }, { name := "MAX_LENGTH", type := .int, accessFlags := 24, slot := 2, constantValue := 0 }, { name := "$assertionsDisabled", type := .boolean, accessFlags := 4120, slot := 3, constantValue := 0 }]
  methods := #[k8m0, k8m1, k8m2, k8m3]
  instanceTypes := #[]
  staticTypes := #[.int, .int, .int, .boolean]
  resolved := Array.replicate 635 none
  statics := none }

def pool9 : Array CpInfo := pool [(2, .class_ 4), (1, u "java/lang/Object"), (0, u "<init>"), (0, u "()V"), (17, u "()Z"), (11, .class_ 38), (1, u "java/lang/String"), (2, .methodref 36 42), (0, .nameAndType 43 24), (0, u "isEmpty"), (0, .string 45), (0, u ""), (15, .class_ 63), (1, u "com/example/orderwire/orderwire/imaging/Fields"), (33, u "firstNonEmpty"), (0, u "([Ljava/lang/String;)Ljava/lang/String;")] 10

def k9m0 : Method := { name := "<init>", desc := "()V", sig := { parameters := [], returnType := none }, accessFlags := 2, code := none }
def k9c1 : Code := { maxStack := 2, maxLocals := 5, code := prog_28_method_3_code, exceptionTable := #[], attributes := #[] }
def k9m1 : Method := { name := "firstNonEmpty", desc := "([Ljava/lang/String;)Ljava/lang/String;", sig := { parameters := [(.array (.object "java/lang/String"))], returnType := some (.object "java/lang/String") }, accessFlags := 136, code := some k9c1 }
/-- com/example/orderwire/orderwire/imaging/Fields -/
def k9 : Class := { plain "com/example/orderwire/orderwire/imaging/Fields" (some 0) with
  accessFlags := 48
  interfaces := #[]
  cf := some (fileOf pool9 61 #[] #[{ accessFlags := 2, nameIndex := 5, descriptorIndex := 6, attributes := #[] }, { accessFlags := 136, nameIndex := 97, descriptorIndex := 98, attributes := #[] }] 48 2 #[] #[])
  fields := #[]
  methods := #[k9m0, k9m1]
  instanceTypes := #[]
  staticTypes := #[]
  resolved := Array.replicate 109 none
  statics := none }

def pool10 : Array CpInfo := pool [(4, .class_ 6), (1, u "java/lang/Object"), (0, u "<init>"), (0, u "()V"), (5, .class_ 16), (1, u "java/lang/StringLatin1"), (104, u "$assertionsDisabled"), (0, u "Z"), (98, .class_ 223), (1, u "java/lang/StringLatin1$LinesSpliterator"), (166, .class_ 391), (0, u "java/lang/StringLatin1$CharsSpliterator")] 3

def k10m0 : Method := { name := "<init>", desc := "()V", sig := { parameters := [], returnType := none }, accessFlags := 0, code := none }
/-- java/lang/StringLatin1 -/
def k10 : Class := { plain "java/lang/StringLatin1" (some 0) with
  accessFlags := 48
  interfaces := #[]
  cf := some (fileOf pool10 14 #[.nestMembers #[390, 221]] #[{ accessFlags := 0, nameIndex := 7, descriptorIndex := 8, attributes := #[] }] 48 4 #[] #[{ accessFlags := 4120, nameIndex := 121, descriptorIndex := 122, attributes := #[] }])
  fields := #[{ name := "$assertionsDisabled", type := .boolean, accessFlags := 4120, slot := 0, constantValue := 0 }]
  methods := #[k10m0]
  instanceTypes := #[]
  staticTypes := #[.boolean]
  resolved := Array.replicate 395 none
  statics := none }

def pool11 : Array CpInfo := pool [(2, .class_ 4), (1, u "java/lang/Object"), (0, u "<init>"), (0, u "()V"), (17, .class_ 26), (1, u "jdk/internal/util/Preconditions"), (28, .class_ 56), (0, u "jdk/internal/util/Preconditions$4"), (57, .class_ 115), (0, u "jdk/internal/util/Preconditions$1"), (7, u "SIOOBE_FORMATTER"), (0, u "Ljava/util/function/BiFunction;"), (0, .class_ 126), (0, u "jdk/internal/util/Preconditions$2"), (3, u "AIOOBE_FORMATTER"), (0, .class_ 132), (0, u "jdk/internal/util/Preconditions$3"), (3, u "IOOBE_FORMATTER")] 57

def k11m0 : Method := { name := "<init>", desc := "()V", sig := { parameters := [], returnType := none }, accessFlags := 1, code := none }
/-- jdk/internal/util/Preconditions -/
def k11 : Class := { plain "jdk/internal/util/Preconditions" (some 0) with
  accessFlags := 33
  interfaces := #[]
  cf := some (fileOf pool11 24 #[.nestMembers #[55, 131, 125, 114]] #[{ accessFlags := 1, nameIndex := 5, descriptorIndex := 6, attributes := #[] }] 33 2 #[] #[{ accessFlags := 25, nameIndex := 123, descriptorIndex := 124, attributes := #[] }, { accessFlags := 25, nameIndex := 130, descriptorIndex := 124, attributes := #[] }, { accessFlags := 25, nameIndex := 136, descriptorIndex := 124, attributes := #[] }])
  fields := #[{ name := "SIOOBE_FORMATTER", type := (.object "java/util/function/BiFunction"), accessFlags := 25, slot := 0, constantValue := 0 }, { name := "AIOOBE_FORMATTER", type := (.object "java/util/function/BiFunction"), accessFlags := 25, slot := 1, constantValue := 0 }, { name := "IOOBE_FORMATTER", type := (.object "java/util/function/BiFunction"), accessFlags := 25, slot := 2, constantValue := 0 }]
  methods := #[k11m0]
  instanceTypes := #[]
  staticTypes := #[(.object "java/util/function/BiFunction"), (.object "java/util/function/BiFunction"), (.object "java/util/function/BiFunction")]
  resolved := Array.replicate 194 none
  statics := some 1 }

def pool12 : Array CpInfo := pool [(9, u "<init>"), (6, .class_ 18), (1, u "java/lang/Object"), (0, u "()V"), (1, .class_ 23), (1, u "jdk/internal/util/ArraysSupport"), (0, u "LOG2_ARRAY_LONG_INDEX_SCALE"), (0, u "I"), (2, u "U"), (0, u "Ljdk/internal/misc/Unsafe;"), (8, u "BIG_ENDIAN"), (0, u "Z"), (8, u "LOG2_BYTE_BIT_SIZE"), (4, u "LOG2_ARRAY_INT_INDEX_SCALE"), (54, u "JLA"), (0, u "Ljdk/internal/access/JavaLangAccess;"), (11, u "LOG2_ARRAY_BOOLEAN_INDEX_SCALE"), (9, u "LOG2_ARRAY_BYTE_INDEX_SCALE"), (5, u "LOG2_ARRAY_CHAR_INDEX_SCALE"), (5, u "LOG2_ARRAY_SHORT_INDEX_SCALE"), (18, u "LOG2_ARRAY_FLOAT_INDEX_SCALE"), (24, u "LOG2_ARRAY_DOUBLE_INDEX_SCALE"), (89, u "T_BOOLEAN"), (2, u "T_CHAR"), (1, u "T_FLOAT"), (1, u "T_DOUBLE"), (1, u "T_BYTE"), (1, u "T_SHORT"), (1, u "T_INT"), (1, u "T_LONG"), (1, u "SOFT_MAX_ARRAY_LENGTH")] 83

def k12m0 : Method := { name := "<init>", desc := "()V", sig := { parameters := [], returnType := none }, accessFlags := 2, code := none }
/-- jdk/internal/util/ArraysSupport -/
def k12 : Class := { plain "jdk/internal/util/ArraysSupport" (some 0) with
  accessFlags := 33
  interfaces := #[]
  cf := some (fileOf pool12 21 #[] #[{ accessFlags := 2, nameIndex := 9, descriptorIndex := 19, attributes := #[] }] 33 16 #[] #[{ accessFlags := 24, nameIndex := 28, descriptorIndex := 29, attributes := #[] }, { accessFlags := 26, nameIndex := 38, descriptorIndex := 39, attributes := #[] }, { accessFlags := 25, nameIndex := 121, descriptorIndex := 25, attributes := #[] }, { accessFlags := 25, nameIndex := 131, descriptorIndex := 25, attributes := #[] }, { accessFlags := 25, nameIndex := 137, descriptorIndex := 25, attributes := #[] }, { accessFlags := 25, nameIndex := 143, descriptorIndex := 25, attributes := #[] }, { accessFlags := 25, nameIndex := 53, descriptorIndex := 25, attributes := #[] }, { accessFlags := 25, nameIndex := 24, descriptorIndex := 25, attributes := #[] }, { accessFlags := 25, nameIndex := 162, descriptorIndex := 25, attributes := #[] }, { accessFlags := 25, nameIndex := 187, descriptorIndex := 25, attributes := #[] }, { accessFlags := 26, nameIndex := 48, descriptorIndex := 25, attributes := #[] }, { accessFlags := 25, nameIndex := 277, descriptorIndex := 25, attributes := #[] }, { accessFlags := 25, nameIndex := 280, descriptorIndex := 25, attributes := #[] }, { accessFlags := 25, nameIndex := 282, descriptorIndex := 25, attributes := #[] }, { accessFlags := 25, nameIndex := 284, descriptorIndex := 25, attributes := #[] }, { accessFlags := 25, nameIndex := 286, descriptorIndex := 25, attributes := #[] }, { accessFlags := 25, nameIndex := 288, descriptorIndex := 25, attributes := #[] }, { accessFlags := 25, nameIndex := 290, descriptorIndex := 25, attributes := #[] }, { accessFlags := 25, nameIndex := 292, descriptorIndex := 25, attributes := #[] }, { accessFlags := 26, nameIndex := 108, descriptorIndex := 109, attributes := #[] }, { accessFlags := 25, nameIndex := 294, descriptorIndex := 25, attributes := #[] }])
  fields := #[{ name := "U", type := (.object "jdk/internal/misc/Unsafe"), accessFlags := 24, slot := 0, constantValue := 0 }, { name := "BIG_ENDIAN", type := .boolean, accessFlags := 26, slot := 1, constantValue := 0 }, { name := "LOG2_ARRAY_BOOLEAN_INDEX_SCALE", type := .int, accessFlags := 25, slot := 2, constantValue := 0 }, { name := "LOG2_ARRAY_BYTE_INDEX_SCALE", type := .int, accessFlags := 25, slot := 3, constantValue := 0 }, { name := "LOG2_ARRAY_CHAR_INDEX_SCALE", type := .int, accessFlags := 25, slot := 4, constantValue := 0 }, { name := "LOG2_ARRAY_SHORT_INDEX_SCALE", type := .int, accessFlags := 25, slot := 5, constantValue := 0 }, { name := "LOG2_ARRAY_INT_INDEX_SCALE", type := .int, accessFlags := 25, slot := 6, constantValue := 0 }, { name := "LOG2_ARRAY_LONG_INDEX_SCALE", type := .int, accessFlags := 25, slot := 7, constantValue := 0 }, { name := "LOG2_ARRAY_FLOAT_INDEX_SCALE", type := .int, accessFlags := 25, slot := 8, constantValue := 0 }, { name := "LOG2_ARRAY_DOUBLE_INDEX_SCALE", type := .int, accessFlags := 25, slot := 9, constantValue := 0 }, { name := "LOG2_BYTE_BIT_SIZE", type := .int, accessFlags := 26, slot := 10, constantValue := 0 }, { name := "T_BOOLEAN", type := .int, accessFlags := 25, slot := 11, constantValue := 0 }, { name := "T_CHAR", type := .int, accessFlags := 25, slot := 12, constantValue := 0 }, { name := "T_FLOAT", type := .int, accessFlags := 25, slot := 13, constantValue := 0 }, { name := "T_DOUBLE", type := .int, accessFlags := 25, slot := 14, constantValue := 0 }, { name := "T_BYTE", type := .int, accessFlags := 25, slot := 15, constantValue := 0 }, { name := "T_SHORT", type := .int, accessFlags := 25, slot := 16, constantValue := 0 }, { name := "T_INT", type := .int, accessFlags := 25, slot := 17, constantValue := 0 }, { name := "T_LONG", type := .int, accessFlags := 25, slot := 18, constantValue := 0 }, { name := "JLA", type := (.object "jdk/internal/access/JavaLangAccess"), accessFlags := 26, slot := 19, constantValue := 0 }, { name := "SOFT_MAX_ARRAY_LENGTH", type := .int, accessFlags := 25, slot := 20, constantValue := 0 }]
  methods := #[k12m0]
  instanceTypes := #[]
  staticTypes := #[(.object "jdk/internal/misc/Unsafe"), .boolean, .int, .int, .int, .int, .int, .int, .int, .int, .int, .int, .int, .int, .int, .int, .int, .int, .int, (.object "jdk/internal/access/JavaLangAccess"), .int]
  resolved := Array.replicate 378 none
  statics := none }

def pool13 : Array CpInfo := pool [(1, u "java/lang/Cloneable"), (0, .class_ 1), (0, u "java/lang/Object"), (0, .class_ 3)] 3

/-- java/lang/Cloneable -/
def k13 : Class := { plain "java/lang/Cloneable" (some 0) with
  accessFlags := 1537
  interfaces := #[]
  cf := some (fileOf pool13 2 #[] #[] 1537 4 #[] #[])
  fields := #[]
  methods := #[]
  instanceTypes := #[]
  staticTypes := #[]
  resolved := Array.replicate 8 none
  statics := none }

/-- the primitive byte -/
def k14 : Class := { plain "byte" none with kind := .primitive 'B', accessFlags := 0x411 }
/-- [B -/
def k15 : Class := { plain "[B" (some 0) with kind := .array 14 .byte, interfaces := #[13, 2], accessFlags := 1041 }

/-- the primitive char -/
def k16 : Class := { plain "char" none with kind := .primitive 'C', accessFlags := 0x411 }
/-- [C -/
def k17 : Class := { plain "[C" (some 0) with kind := .array 16 .char, interfaces := #[13, 2], accessFlags := 1041 }

/-- the primitive int -/
def k18 : Class := { plain "int" none with kind := .primitive 'I', accessFlags := 0x411 }
/-- [I -/
def k19 : Class := { plain "[I" (some 0) with kind := .array 18 .int, interfaces := #[13, 2], accessFlags := 1041 }

/-- [Ljava/lang/String; -/
def k20 : Class := { plain "[Ljava/lang/String;" (some 0) with kind := .array 7 (.object "java/lang/String"), interfaces := #[13, 2], accessFlags := 1041 }

def heap : Heap := #[{ cls := 7, slots := #[.long 0, .int 1, .null, .int 0, .null, .int 0, .int 0], vm := .statics 7 },
  { cls := 11, slots := #[.null, .null, .null], vm := .statics 11 }]
def classes : Array Class := #[k0, k1, k2, k3, k4, k5, k6, k7, k8, k9, k10, k11, k12, k13, k14, k15, k16, k17, k18, k19, k20]
def interned : List (Array UInt16 × Addr) := []
def slotsUsed : Nat := 10
def theMethod : MethodId := ⟨1, 1⟩
def args0 : Array Value := #[.int 5, .int 6, .int 7, .int 2, .int 3]
def aboutOver (below : List Frame) : State where
  vm := { classes := classes, interned := interned.toArray }
  heap := heap
  slotsUsed := slotsUsed
  threads := #[{ frames := .invoking theMethod args0 :: below }]
def below0 : List Frame := [.native { method := ⟨0, 0⟩, args := #[] }]
def about1 : State := aboutOver below0
def p0 : Program := .bare "" "" ""
def e0 : Env := launch0.env 0 0 0
theorem w_frames : about1.frames = Frame.invoking theMethod args0 :: below0 := rfl
set_option maxRecDepth 65536 in
theorem w_args : argsFit about1.vm theMethod args0 = true := by decide +kernel
set_option maxRecDepth 65536 in
theorem w_heap : heapFits about1 = true := by decide +kernel
set_option maxRecDepth 65536 in
theorem w_runnable : about1.curStatus? = some .runnable := by decide +kernel
set_option maxRecDepth 65536 in
theorem w_alone : about1.alone = true := by decide +kernel
set_option maxRecDepth 65536 in
theorem w_named : about1.methodNamed? x = some theMethod := by decide +kernel
set_option maxRecDepth 65536 in
theorem w_hears : about1.hears theMethod below0 = true := by decide +kernel
set_option maxRecDepth 65536 in
theorem w_ripe : about1.ripe theMethod args0 below0 = true := by decide +kernel
theorem w_running : about1.status = .running := rfl
set_option maxRecDepth 65536 in
theorem w_room : about1.hasRoom e0.platform room_1 = true :=
  launch0.hasRoom_least _ room_1 (by decide +kernel) (by decide +kernel) (by decide +kernel) (by decide +kernel) (by decide +kernel) (by decide +kernel)
theorem allAtoms_all (ts : List Jvm.Cond) (a : Array Jvm.Value) (st : Jvm.State) : (allAtoms ts).before a st = ts.all (fun c => c.before a st) := by
  induction ts with
  | nil => rfl
  | cons c t ih =>
    show (Jvm.Cond.and c (allAtoms t)).before a st = _
    rw [Jvm.Cond.before_and, ih, List.all_cons]
def words1 : List Jvm.Cond := Jvm.Cond.code x code maxLocals ret :: tables_1
/-- a 'code' word, met by the world's own term for the bytes: nothing is compared byte by byte -/
theorem code_word {y : MethodName} {bytes : ByteArray} {mx : Nat} {rt : Option FieldType} {a : Array Value} {s : State} {m : MethodId} {meth : Method} {c : Code} (h1 : s.methodNamed? y = some m) (h2 : s.vm.method? m = some meth) (h3 : meth.code = some c) (h4 : c.code = bytes)
    (h5 : (c.maxLocals == mx && c.exceptionTable.isEmpty && decide (c.maxStack ≤ mostOperands) && decide (meth.sig.returnType = rt) && !meth.locks && decide (parseMethodDescriptor y.desc = some meth.sig)) = true) : (Jvm.Cond.code y bytes mx rt).before a s = true := by
  simp only [Bool.and_eq_true, beq_iff_eq, Bool.not_eq_true', decide_eq_true_eq] at h5
  obtain ⟨⟨⟨⟨⟨g1, g2⟩, g3⟩, g4⟩, g5⟩, g6⟩ := h5
  simp [Cond.before, Cond.holds, Cond.value, h1, h2, h3, h4, g1, g2, g3, g4, g5, g6]
def isCode : Jvm.Cond → Bool
  | .code _ _ _ _ => true
  | _ => false
theorem all_split {L : List Jvm.Cond} {P : Jvm.Cond → Bool} (h1 : L.all (fun c => isCode c || P c) = true) (h2 : ∀ c ∈ L.filter isCode, P c = true) : L.all P = true := by
  refine List.all_eq_true.mpr fun c hc => ?_
  have h := List.all_eq_true.mp h1 c hc
  rcases Bool.eq_false_or_eq_true (isCode c) with hi | hi
  · exact h2 c (List.mem_filter.mpr ⟨hc, hi⟩)
  · simpa [hi] using h
set_option maxRecDepth 65536 in
theorem w_c0 : (Jvm.Cond.code x code maxLocals ret).before args0 about1 = true := code_word (m := ⟨1, 1⟩) (meth := k1m1) (c := k1c1) (by decide +kernel) rfl rfl rfl (by decide +kernel)
set_option maxRecDepth 65536 in
theorem w_c1 : (Jvm.Cond.code ({ cls := "com/example/orderwire/orderwire/imaging/FieldsFirstNonEmptyPinLaw", name := "make", desc := "(I)Ljava/lang/String;" } : Jvm.MethodName) method_3_code (5 : Nat) (Option.some (Jvm.ClassFile.FieldType.object "java/lang/String"))).before args0 about1 = true := code_word (m := ⟨1, 2⟩) (meth := k1m2) (c := k1c2) (by decide +kernel) rfl rfl rfl (by decide +kernel)
set_option maxRecDepth 65536 in
theorem w_c2 : (Jvm.Cond.code ({ cls := "java/lang/String", name := "<init>", desc := "([C)V" } : Jvm.MethodName) jdk_42_method_3_code (2 : Nat) (Option.none : Option Jvm.ClassFile.FieldType)).before args0 about1 = true := code_word (m := ⟨7, 1⟩) (meth := k7m1) (c := k7c1) (by decide +kernel) rfl rfl rfl (by decide +kernel)
set_option maxRecDepth 65536 in
theorem w_c3 : (Jvm.Cond.code ({ cls := "java/lang/String", name := "<init>", desc := "([CIILjava/lang/Void;)V" } : Jvm.MethodName) jdk_42_method_149_code (6 : Nat) (Option.none : Option Jvm.ClassFile.FieldType)).before args0 about1 = true := code_word (m := ⟨7, 3⟩) (meth := k7m3) (c := k7c3) (by decide +kernel) rfl rfl rfl (by decide +kernel)
set_option maxRecDepth 65536 in
theorem w_c4 : (Jvm.Cond.code ({ cls := "java/lang/Object", name := "<init>", desc := "()V" } : Jvm.MethodName) object_method_1_code (1 : Nat) (Option.none : Option Jvm.ClassFile.FieldType)).before args0 about1 = true := code_word (m := ⟨0, 0⟩) (meth := k0m0) (c := k0c0) (by decide +kernel) rfl rfl rfl (by decide +kernel)
set_option maxRecDepth 65536 in
theorem w_c5 : (Jvm.Cond.code ({ cls := "java/lang/StringUTF16", name := "compress", desc := "([CII)[B" } : Jvm.MethodName) jdk_52_method_16_code (6 : Nat) (Option.some (Jvm.ClassFile.FieldType.array Jvm.ClassFile.FieldType.byte))).before args0 about1 = true := code_word (m := ⟨8, 2⟩) (meth := k8m2) (c := k8c2) (by decide +kernel) rfl rfl rfl (by decide +kernel)
set_option maxRecDepth 65536 in
theorem w_c6 : (Jvm.Cond.code ({ cls := "java/lang/StringUTF16", name := "compress", desc := "([CI[BII)I" } : Jvm.MethodName) jdk_52_method_21_code (7 : Nat) (Option.some Jvm.ClassFile.FieldType.int)).before args0 about1 = true := code_word (m := ⟨8, 3⟩) (meth := k8m3) (c := k8c3) (by decide +kernel) rfl rfl rfl (by decide +kernel)
set_option maxRecDepth 65536 in
theorem w_c7 : (Jvm.Cond.code ({ cls := "java/lang/StringUTF16", name := "coderFromArrayLen", desc := "([BI)B" } : Jvm.MethodName) jdk_52_method_15_code (2 : Nat) (Option.some Jvm.ClassFile.FieldType.byte)).before args0 about1 = true := code_word (m := ⟨8, 1⟩) (meth := k8m1) (c := k8c1) (by decide +kernel) rfl rfl rfl (by decide +kernel)
set_option maxRecDepth 65536 in
theorem w_c8 : (Jvm.Cond.code ({ cls := "com/example/orderwire/orderwire/imaging/Fields", name := "firstNonEmpty", desc := "([Ljava/lang/String;)Ljava/lang/String;" } : Jvm.MethodName) prog_28_method_3_code (5 : Nat) (Option.some (Jvm.ClassFile.FieldType.object "java/lang/String"))).before args0 about1 = true := code_word (m := ⟨9, 1⟩) (meth := k9m1) (c := k9c1) (by decide +kernel) rfl rfl rfl (by decide +kernel)
set_option maxRecDepth 65536 in
theorem w_c9 : (Jvm.Cond.code ({ cls := "java/lang/String", name := "isEmpty", desc := "()Z" } : Jvm.MethodName) jdk_42_method_55_code (1 : Nat) (Option.some Jvm.ClassFile.FieldType.boolean)).before args0 about1 = true := code_word (m := ⟨7, 2⟩) (meth := k7m2) (c := k7c2) (by decide +kernel) rfl rfl rfl (by decide +kernel)
def codes1 : List Jvm.Cond := [Jvm.Cond.code x code maxLocals ret, Jvm.Cond.code ({ cls := "com/example/orderwire/orderwire/imaging/FieldsFirstNonEmptyPinLaw", name := "make", desc := "(I)Ljava/lang/String;" } : Jvm.MethodName) method_3_code (5 : Nat) (Option.some (Jvm.ClassFile.FieldType.object "java/lang/String")), Jvm.Cond.code ({ cls := "java/lang/String", name := "<init>", desc := "([C)V" } : Jvm.MethodName) jdk_42_method_3_code (2 : Nat) (Option.none : Option Jvm.ClassFile.FieldType), Jvm.Cond.code ({ cls := "java/lang/String", name := "<init>", desc := "([CIILjava/lang/Void;)V" } : Jvm.MethodName) jdk_42_method_149_code (6 : Nat) (Option.none : Option Jvm.ClassFile.FieldType), Jvm.Cond.code ({ cls := "java/lang/Object", name := "<init>", desc := "()V" } : Jvm.MethodName) object_method_1_code (1 : Nat) (Option.none : Option Jvm.ClassFile.FieldType), Jvm.Cond.code ({ cls := "java/lang/StringUTF16", name := "compress", desc := "([CII)[B" } : Jvm.MethodName) jdk_52_method_16_code (6 : Nat) (Option.some (Jvm.ClassFile.FieldType.array Jvm.ClassFile.FieldType.byte)), Jvm.Cond.code ({ cls := "java/lang/StringUTF16", name := "compress", desc := "([CI[BII)I" } : Jvm.MethodName) jdk_52_method_21_code (7 : Nat) (Option.some Jvm.ClassFile.FieldType.int), Jvm.Cond.code ({ cls := "java/lang/StringUTF16", name := "coderFromArrayLen", desc := "([BI)B" } : Jvm.MethodName) jdk_52_method_15_code (2 : Nat) (Option.some Jvm.ClassFile.FieldType.byte), Jvm.Cond.code ({ cls := "com/example/orderwire/orderwire/imaging/Fields", name := "firstNonEmpty", desc := "([Ljava/lang/String;)Ljava/lang/String;" } : Jvm.MethodName) prog_28_method_3_code (5 : Nat) (Option.some (Jvm.ClassFile.FieldType.object "java/lang/String")), Jvm.Cond.code ({ cls := "java/lang/String", name := "isEmpty", desc := "()Z" } : Jvm.MethodName) jdk_42_method_55_code (1 : Nat) (Option.some Jvm.ClassFile.FieldType.boolean)]
set_option maxRecDepth 65536 in
theorem codes_eq : words1.filter isCode = codes1 := rfl
theorem w_codes : ∀ c ∈ words1.filter isCode, c.before args0 about1 = true := by
  rw [codes_eq]
  intro c hc
  simp only [codes1, List.mem_cons, List.not_mem_nil, or_false] at hc
  rcases hc with rfl | rfl | rfl | rfl | rfl | rfl | rfl | rfl | rfl | rfl
  · exact w_c0
  · exact w_c1
  · exact w_c2
  · exact w_c3
  · exact w_c4
  · exact w_c5
  · exact w_c6
  · exact w_c7
  · exact w_c8
  · exact w_c9
set_option maxRecDepth 65536 in
theorem w_t1 : (words1.take 24).all (fun c => isCode c || c.before args0 about1) = true := by decide +kernel
set_option maxRecDepth 65536 in
theorem w_t2 : ((words1.drop 24).take 24).all (fun c => isCode c || c.before args0 about1) = true := by decide +kernel
set_option maxRecDepth 65536 in
theorem w_t3 : ((words1.drop 24).drop 24).all (fun c => isCode c || c.before args0 about1) = true := by decide +kernel
theorem w_tables : (allAtoms (Jvm.Cond.code x code maxLocals ret :: tables_1)).before args0 about1 = true := by
  rw [allAtoms_all]
  show words1.all (fun c => c.before args0 about1) = true
  refine all_split ?_ w_codes
  rw [← List.take_append_drop 24 words1, List.all_append, w_t1, ← List.take_append_drop 24 (words1.drop 24), List.all_append, w_t2, w_t3]
  rfl
set_option maxRecDepth 65536 in
theorem w_rest : rest_1_c.before args0 about1 = true := by decide +kernel
set_option maxRecDepth 65536 in
theorem w_case : (Jvm.Cond.and given_1 narrow_1).before args0 about1 = true := by decide +kernel
set_option maxRecDepth 65536 in
theorem w_consts : constsHeld consts_1 about1 := Jvm.Lit.constsHeldB_iff.mp (by decide +kernel)
theorem w_applies : (headSpec (Jvm.Cond.code x code maxLocals ret :: tables_1) room_1).applies x e0.platform about1 = true :=
  (Spec.applies_iff w_frames).mpr ⟨w_running, w_runnable, w_alone, w_named, w_hears, w_ripe, w_room, w_tables⟩
theorem atStart : AtStart classFile x code maxLocals ret World_1 tables_1 room_1 Calls_1 rest_1 Pre_1 launch0 p0 e0 about1 theMethod args0 below0 :=
  ⟨lists_1, trivial, launch0.admits_env _ _ _, launch0.least_env, fairChoices_fair.cas, fairChoices_fair.clock, w_frames, w_args, w_heap, w_applies, ⟨w_consts, trivial⟩, w_rest, w_case⟩
end start1
theorem witness_1 : WitnessClaimed_1 := ⟨start1.p0, start1.e0, start1.about1, start1.theMethod, start1.args0, start1.below0, start1.atStart⟩
end Jvm.Pilot.@@N@@
