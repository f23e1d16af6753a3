import JvmDerived
import JvmDerived.Pilot.@@N@@Statement
import JvmDerived.Pilot.@@N@@Code
set_option linter.unusedVariables false
set_option linter.unusedSimpArgs false
namespace Jvm.Pilot.@@N@@
open Jvm Jvm.ClassFile Sem Op Lib Jvm.Free Jvm.Stand Jvm.LawKit Jvm.RoadKit Bundle Jvm.Pilot.@@N@@.Jvm.D
/-! OWN KIT: a walk in continuation form. Go F U: from U the run comes to an end of which F holds. -/
namespace W
def Go (p : Program) (e : Env) (below : List Frame) (F : Outcome → State → Prop) (U : State) : Prop :=
  ∃ s₂ o, Steps p.tables e below U s₂ ∧ s₂.status = .running ∧ Ended s₂ below o ∧ F o s₂
def Cx (p : Program) (s : State) (m : MethodId) (meth : Method) (c : Code) (Z : State) (bytes : ByteArray) (maxL : Nat) (own mname : String) (ret : Option FieldType) : Prop :=
  p.tables.exec = Jvm.exec ∧ Z.Warmed39 s.vm ∧ c.code = bytes ∧ c.maxLocals = maxL ∧ s.vm.findClass own = some m.cls ∧ meth.name = mname ∧ meth.sig.returnType = ret ∧ meth.locks = false
def Post (s : State) (Q : Option Value → Heap → List Loc → Prop) (k n : Nat) (o : Outcome) (U' : State) : Prop := ∃ v L, o = .returned v ∧ Q v U'.heap L ∧ FrameEnd s o U' L k n
theorem of {p : Program} {e : Env} {below : List Frame} {F : Outcome → State → Prop} {U U' : State} (h : ∀ t, Steps p.tables e below U' t → Steps p.tables e below U t) (k : Go p e below F U') : Go p e below F U := by
  obtain ⟨s₂, o, h1, h2⟩ := k
  exact ⟨s₂, o, h _ h1, h2⟩
theorem tr {p : Program} {e : Env} {below : List Frame} {F : Outcome → State → Prop} {U U' : State} (h : Steps p.tables e below U U') (k : Go p e below F U') : Go p e below F U := of (fun _ q => h.trans q) k
def fillL : List Value → List Slot
  | [] => []
  | v :: t => if v.category = 2 then .val v :: .second :: fillL t else .val v :: fillL t
theorem fill_eq : ∀ (l : List Value) (acc : Array Slot), l.foldl (fun acc v => if v.category = 2 then (acc.push (.val v)).push .second else acc.push (.val v)) acc = acc ++ (fillL l).toArray
  | [], acc => by simp [fillL]
  | v :: t, acc => by
    rw [List.foldl_cons, fill_eq t, fillL]
    split <;> (apply Array.toList_inj.mp; simp)
theorem entry_of {m : MethodId} {as : List Value} {maxL : Nat} {Ls : List Slot} (h : Ls = fillL as ++ List.replicate (maxL - (fillL as).length) .unset) : entryFrame m as.toArray maxL = mkF m 0 Ls.toArray [] := by
  subst h
  simp only [entryFrame, mkF, argsToLocals]
  congr 1
  rw [List.foldl_toArray, fill_eq]
  simp
def cT : ClassFile.Cond → Int32 → Int32 → Prop
  | .eq, x, y => x = y
  | .ne, x, y => x ≠ y
  | .lt, x, y => x.toInt < y.toInt
  | .ge, x, y => y.toInt ≤ x.toInt
  | .gt, x, y => y.toInt < x.toInt
  | .le, x, y => x.toInt ≤ y.toInt
def cF : ClassFile.Cond → Int32 → Int32 → Prop
  | .eq, x, y => x ≠ y
  | .ne, x, y => x = y
  | .lt, x, y => y.toInt ≤ x.toInt
  | .ge, x, y => x.toInt < y.toInt
  | .gt, x, y => x.toInt ≤ y.toInt
  | .le, x, y => y.toInt < x.toInt
instance (cd : ClassFile.Cond) (x y : Int32) : Decidable (cT cd x y) := by cases cd <;> (simp only [cT]; infer_instance)
instance (cd : ClassFile.Cond) (x y : Int32) : Decidable (cF cd x y) := by cases cd <;> (simp only [cF]; infer_instance)
theorem holdsT {cd : ClassFile.Cond} {x y : Int32} (h : cT cd x y) : if_icmp.holds cd x y = true := by
  cases cd <;> simp only [cT] at h <;> simp [if_icmp.holds, h, Int32.lt_iff_toInt_lt, Int32.le_iff_toInt_le]
theorem holdsF {cd : ClassFile.Cond} {x y : Int32} (h : cF cd x y) : if_icmp.holds cd x y = false := by
  cases cd <;> simp only [cF] at h <;> simp [if_icmp.holds, h, Int32.lt_iff_toInt_lt, Int32.le_iff_toInt_le]
theorem cTF (cd : ClassFile.Cond) (x y : Int32) : cT cd x y ∨ cF cd x y := by
  cases cd <;> simp only [cT, cF] <;> first | omega | exact Decidable.em _ | exact (Decidable.em _).symm
theorem ww {a0 : Array Value} {Z : State} (hw : ∀ d ∈ tables_1, d.before a0 Z = true) (i : Nat) {d : Jvm.Cond} (h : tables_1[i]? = some d) : d.before a0 Z = true := hw _ (List.mem_of_getElem? h)
theorem small {P : Int32 → Prop} (K : Nat) (hK : ∀ i : Fin (K + 1), P (Int32.ofInt (i.1 : Int))) (k : Int32) (h1 : 0 ≤ k.toInt) (h2 : k.toInt ≤ K) : P k := by
  have e : Int32.ofInt ((k.toInt.toNat : Nat) : Int) = k := by rw [Int.toNat_of_nonneg h1]; exact Int32.ofInt_toInt k
  have := hK ⟨k.toInt.toNat, by omega⟩
  rw [e] at this; exact this
theorem eqR {args : Array Value} {s : State} {a b : Term} {idx : List Nat} {y : Addr} (hb : b.eval args s none idx s = some (.ref y)) (h : (Jvm.Cond.eq a b).value args s none s idx = some true) : a.eval args s none idx s = some (.ref y) := by
  cases ha : a.eval args s none idx s with
  | none => simp [Cond.value, ha] at h
  | some x =>
    have hx : x.isRef = true := by cases x <;> simp [Cond.value, ha, hb, Value.isRef] at h ⊢
    have q := gotT (eq_R ha hb hx rfl) h
    rw [q]
theorem elemAt {args : Array Value} {s : State} {t a : Term} {x : Addr} {j : Int32} {v : Value} {cl : Cell} {ty : FieldType} (A : Arr s s.heap x cl ty) (ht : t.eval args s none [] s = some (.ref x)) (hj : a.eval args s none [] s = some (.int j)) (h : (Term.elem t a).eval args s none [] s = some v) : cl.slots[j.toNatClampNeg]? = some v := (elem_in h ht hj A.1).2
theorem lenAt {args : Array Value} {s : State} {t : Term} {x : Addr} {z : Int32} {cl : Cell} {ty : FieldType} (A : Arr s s.heap x cl ty) (ht : t.eval args s none [] s = some (.ref x)) (h : (Jvm.Cond.eq (.length t) (.int z)).value args s none s [] = some true) : cl.slots.size < 2 ^ 31 ∧ cl.slots.size.toInt32 = z := by
  have h6 := eqv_i (Term.int_eval z) h
  have ha := A.fin (Vm.Alike.refl _)
  have sz : cl.slots.size < 2 ^ 31 := by
    refine Decidable.byContradiction fun q => ?_
    simp [Term.eval, ht, ha, q] at h6
  refine ⟨sz, ?_⟩
  rw [len_f ht ha sz] at h6
  exact Value.int.inj (Option.some.inj h6)
theorem arvOf {s : State} {a : Addr} {cl : Cell} {ty : FieldType} {z : Int32} {d : Value} (hf : Fit s) (A : Arr s s.heap a cl ty) (q : cl.slots.size < 2 ^ 31) (e : cl.slots.size.toInt32 = z) (hz : ¬ z < 0) : Arv s s.heap a cl.cls ty z cl.slots.toList d := by
  have S : cl.slots.size = z.toNatClampNeg := by rw [← e]; simp only [Int32.toNatClampNeg, len_toInt q]; rfl
  have H : Has cl cl.slots.toList d := fun k hk => by simp [List.getD, hk]
  refine ⟨cl, A, rfl, S, hz, H, fun j hj => ?_⟩
  have e1 : (Nat.toInt32 j).toNatClampNeg = j := by simp only [Int32.toNatClampNeg, len_toInt (Nat.lt_trans hj q)]; rfl
  exact elem_fits (j := Nat.toInt32 j) hf A (idx_in hj q) (by rw [e1]; exact H j hj)
theorem catRef {v : Value} (h : v.isRef = true) : v.category = 1 := by
  rcases ref_cases h with rfl | ⟨a, rfl⟩ <;> rfl
theorem narRef {t : FieldType} {v : Value} (h : v.isRef = true) : narrow t v = v := by
  rcases ref_cases h with rfl | ⟨a, rfl⟩ <;> cases t <;> rfl
theorem fitsRef {t : FieldType} {v : Value} (h : v.isRef = true) (ht : t.isReference = true) : fits t v = true := by
  rcases ref_cases h with rfl | ⟨a, rfl⟩ <;> cases t <;> first | rfl | cases ht
theorem narZ {x : Int32} (h : x = 0 ∨ x = 1) : narrow .boolean (.int x) = .int x := by rcases h with rfl | rfl <;> rfl
theorem fitZ {x : Int32} (h : x = 0 ∨ x = 1) : fits .boolean (.int x) = true := by rcases h with rfl | rfl <;> rfl
theorem fieldInt {args : Array Value} {s : State} {t : Term} {Cn n d : String} {k : Int32} {a : Addr} (ht : t.eval args s none [] s = some (.ref a)) (h : (Jvm.Cond.eq (.field t Cn n d) (.int k)).value args s none s [] = some true) : Fld s s.heap a Cn n d (.int k) := by
  exact Fld.start ((fld_at ht).symm.trans (eqv_i (Term.int_eval k) h))
section
variable {p : Program} {l : Launch} {e : Env} {R : Room} {s : State} {m : MethodId} {args : Array Value} {below : List Frame} {meth : Method} {c : Code} {T : State} {locs : List Loc} {cells slots : Nat} {Z : State} {a0 : Array Value} {h h0 : Heap} {F : Outcome → State → Prop} {bytes : ByteArray} {maxL : Nat} {own mname : String} {ret : Option FieldType} {pc q : Nat} {Ls L' : Array Slot} {S rest : List Value}
theorem bodyOf {y : MethodName} {ws : List Jvm.Cond} {rm : Room} {as : Array Value} {Q : Option Value → Heap → List Loc → Prop} (hp : plainFor y = true) (hef : ∀ m, entryFrame m as maxL = mkF m 0 Ls [])
    (body : ∀ p e s m below meth c s₁, Cx p s m meth c Z bytes maxL y.cls y.name ret → Stand p l e rm s m as below meth c s₁ [] 0 0 → s₁.heap = h0 → Go p e below (Post s Q rm.cells rm.slots) (s₁.setTop (mkF m 0 Ls []))) :
    MetFree l y (head1 (Jvm.Cond.code y bytes maxL ret :: ws) rm) (fun a U => a = as ∧ Z.Warmed39 U.vm ∧ U.heap = h0) (fun _ _ _ _ _ => True) (fun _ U o U' => ∃ v L, o = .returned v ∧ Q v U'.heap L ∧ FrameEnd U o U' L rm.cells rm.slots) := by
  refine MetFree.of_bodySF hp hisR ?_
  intro p e s m args below meth c s₁ Bd hml0 hP hK
  obtain ⟨rfl, hZ, hh⟩ := hP
  obtain ⟨s₂, o, h1, h2⟩ := body p e s m below meth c s₁ ⟨Bd.exec, hZ, Bd.bytes, hml0, findClass_of_methodNamed Bd.named, (name_of_methodNamed Bd.named Bd.method).1, Bd.returns, Bd.notSynchronized⟩ (Stand.of_body Bd) (by rw [← hh, Bd.state]; rfl)
  exact ⟨s₂, o, castTop (hef m) h1, h2⟩
/-! returns -/
theorem retN (X : Stand p l e R s m args below meth c T locs cells slots) {t : FieldType} (C : Cx p s m meth c Z bytes maxL own mname (some t)) (ht : t = .boolean ∨ t = .byte ∨ t = .char ∨ t = .short) (eT : T.heap = h) {z z' : Int32} (hd : decode bytes pc = .ok (.ireturn, 1)) (hz : narrow t (.int z) = .int z') {k n : Nat} (hk : cells ≤ k) (hn : slots ≤ n) {Q : Option Value → Heap → List Loc → Prop} (hQ : Q (some (.int z')) h locs) :
    Go p e below (Post s Q k n) (T.setTop (mkF m pc Ls (.int z :: rest))) := by
  obtain ⟨hx, hZ, hby, hml, hown, hnm, hret, hlk⟩ := C
  obtain ⟨fs, hr, hrun, hended, hW, hsame⟩ := X.leave (v := some (.int z')) (fun h => by rw [hret] at h; cases h)
  refine ⟨_, _, ?_, hrun, hended, _, _, rfl, ?_, ⟨_, rfl⟩, hW, hsame.mono hk hn⟩
  · have hm' : T.vm.method? m = some meth := X.method'
    have hd' := hb hby hd
    rcases ht with rfl | rfl | rfl | rfl
    all_goals
      show Steps p.tables e below (T.setTop { method := m, pc := pc, locals := Ls, stack := _ :: rest, locked := none }) _
      jvm_step X.here [X.here.top, hx, hd', hm', hret, hz]
      first | (intro acts; rw [hr _ acts rfl rfl rfl]) | rw [hr _ _ rfl rfl rfl]
      exact Steps.refl _
  · show Q _ T.heap _
    rw [eT]; exact hQ
theorem retI (X : Stand p l e R s m args below meth c T locs cells slots) (C : Cx p s m meth c Z bytes maxL own mname (some .int)) (eT : T.heap = h) {z : Int32} (hd : decode bytes pc = .ok (.ireturn, 1)) {k n : Nat} (hk : cells ≤ k) (hn : slots ≤ n) {Q : Option Value → Heap → List Loc → Prop} (hQ : Q (some (.int z)) h locs) :
    Go p e below (Post s Q k n) (T.setTop (mkF m pc Ls (.int z :: rest))) := by
  obtain ⟨hx, hZ, hby, hml, hown, hnm, hret, hlk⟩ := C
  obtain ⟨fs, hr, hrun, hended, hW, hsame⟩ := X.leave (v := some (.int z)) (fun h => by rw [hret] at h; cases h)
  refine ⟨_, _, ?_, hrun, hended, _, _, rfl, ?_, ⟨_, rfl⟩, hW, hsame.mono hk hn⟩
  · have hm' : T.vm.method? m = some meth := X.method'
    have hd' := hb hby hd
    have hn : narrow .int (.int z) = .int z := rfl
    show Steps p.tables e below (T.setTop { method := m, pc := pc, locals := Ls, stack := _ :: rest, locked := none }) _
    jvm_step X.here [X.here.top, hx, hd', hm', hret, hn]
    first | (intro acts; rw [hr _ acts rfl rfl rfl]) | rw [hr _ _ rfl rfl rfl]
    exact Steps.refl _
  · show Q _ T.heap _
    rw [eT]; exact hQ
theorem retJ (X : Stand p l e R s m args below meth c T locs cells slots) (C : Cx p s m meth c Z bytes maxL own mname (some .long)) (eT : T.heap = h) {z : Int64} (hd : decode bytes pc = .ok (.lreturn, 1)) {k n : Nat} (hk : cells ≤ k) (hn : slots ≤ n) {Q : Option Value → Heap → List Loc → Prop} (hQ : Q (some (.long z)) h locs) :
    Go p e below (Post s Q k n) (T.setTop (mkF m pc Ls (.long z :: rest))) := by
  obtain ⟨hx, hZ, hby, hml, hown, hnm, hret, hlk⟩ := C
  obtain ⟨fs, hr, hrun, hended, hW, hsame⟩ := X.leave (v := some (.long z)) (fun h => by rw [hret] at h; cases h)
  refine ⟨_, _, ?_, hrun, hended, _, _, rfl, ?_, ⟨_, rfl⟩, hW, hsame.mono hk hn⟩
  · have hm' : T.vm.method? m = some meth := X.method'
    have hd' := hb hby hd
    show Steps p.tables e below (T.setTop { method := m, pc := pc, locals := Ls, stack := _ :: rest, locked := none }) _
    jvm_step X.here [X.here.top, hx, hd', hm', hret, narrow]
    first | (intro acts; rw [hr _ acts rfl rfl rfl]) | rw [hr _ _ rfl rfl rfl]
    exact Steps.refl _
  · show Q _ T.heap _
    rw [eT]; exact hQ
theorem retA (X : Stand p l e R s m args below meth c T locs cells slots) {t : FieldType} (C : Cx p s m meth c Z bytes maxL own mname (some t)) (ht : t.isReference = true) (eT : T.heap = h) {z : Value} (hz : z.isRef = true) (hd : decode bytes pc = .ok (.areturn, 1)) {k n : Nat} (hk : cells ≤ k) (hn : slots ≤ n) {Q : Option Value → Heap → List Loc → Prop} (hQ : Q (some z) h locs) :
    Go p e below (Post s Q k n) (T.setTop (mkF m pc Ls (z :: rest))) := by
  obtain ⟨hx, hZ, hby, hml, hown, hnm, hret, hlk⟩ := C
  obtain ⟨fs, hr, hrun, hended, hW, hsame⟩ := X.leave (v := some z) (fun h => by rw [hret] at h; cases h)
  refine ⟨_, _, ?_, hrun, hended, _, _, rfl, ?_, ⟨_, rfl⟩, hW, hsame.mono hk hn⟩
  · have hm' : T.vm.method? m = some meth := X.method'
    have hd' := hb hby hd
    show Steps p.tables e below (T.setTop { method := m, pc := pc, locals := Ls, stack := _ :: rest, locked := none }) _
    jvm_step X.here [X.here.top, hx, hd', hm', hret, hz, ht]
    first | (intro acts; rw [hr _ acts rfl rfl rfl]) | rw [hr _ _ rfl rfl rfl]
    exact Steps.refl _
  · show Q _ T.heap _
    rw [eT]; exact hQ
theorem retV (X : Stand p l e R s m args below meth c T locs cells slots) (C : Cx p s m meth c Z bytes maxL own mname none) (eT : T.heap = h) (hd : decode bytes pc = .ok (.return_, 1)) {k n : Nat} (hk : cells ≤ k) (hn : slots ≤ n) {Q : Option Value → Heap → List Loc → Prop} (hQ : Q none h locs) :
    Go p e below (Post s Q k n) (T.setTop (mkF m pc Ls [])) := by
  obtain ⟨hx, hZ, hby, hml, hown, hnm, hret, hlk⟩ := C
  obtain ⟨fs, hr, hrun, hended, hW, hsame⟩ := X.leave (v := none) (fun _ => rfl)
  refine ⟨_, _, X.returnOut hx hret (hb hby hd) hr, hrun, hended, _, _, rfl, ?_, ⟨_, rfl⟩, hW, hsame.mono hk hn⟩
  show Q _ T.heap _
  rw [eT]; exact hQ
/-! plain steps -/
theorem iload (X : Stand p l e R s m args below meth c T locs cells slots) (C : Cx p s m meth c Z bytes maxL own mname ret) {k : Nat} {v : Int32} (hd : decode bytes pc = .ok (.iload k, 2)) (hl : Ls[k]? = some (.val (.int v))) (hq : pc + 2 = q) (K : Go p e below F (T.setTop (mkF m q Ls (.int v :: S)))) : Go p e below F (T.setTop (mkF m pc Ls S)) := by
  subst hq; exact of (fun t k => XS.iload X.here C.1 rfl (hb C.2.2.1 hd) hl k) K
theorem iloadN (X : Stand p l e R s m args below meth c T locs cells slots) (C : Cx p s m meth c Z bytes maxL own mname ret) {k : Fin 4} {v : Int32} (hd : decode bytes pc = .ok (.iload_n k, 1)) (hl : Ls[k.val]? = some (.val (.int v))) (hq : pc + 1 = q) (K : Go p e below F (T.setTop (mkF m q Ls (.int v :: S)))) : Go p e below F (T.setTop (mkF m pc Ls S)) := by
  subst hq; exact of (fun t k => XS.iloadN X.here C.1 rfl (hb C.2.2.1 hd) hl k) K
theorem lload (X : Stand p l e R s m args below meth c T locs cells slots) (C : Cx p s m meth c Z bytes maxL own mname ret) {k : Nat} {v : Int64} (hd : decode bytes pc = .ok (.lload k, 2)) (hl : Ls[k]? = some (.val (.long v))) (hq : pc + 2 = q) (K : Go p e below F (T.setTop (mkF m q Ls (.long v :: S)))) : Go p e below F (T.setTop (mkF m pc Ls S)) := by
  subst hq; exact of (fun t k => XS.lload X.here C.1 rfl (hb C.2.2.1 hd) hl k) K
theorem lloadN (X : Stand p l e R s m args below meth c T locs cells slots) (C : Cx p s m meth c Z bytes maxL own mname ret) {k : Fin 4} {v : Int64} (hd : decode bytes pc = .ok (.lload_n k, 1)) (hl : Ls[k.val]? = some (.val (.long v))) (hq : pc + 1 = q) (K : Go p e below F (T.setTop (mkF m q Ls (.long v :: S)))) : Go p e below F (T.setTop (mkF m pc Ls S)) := by
  subst hq; exact of (fun t k => XS.lloadN X.here C.1 rfl (hb C.2.2.1 hd) hl k) K
theorem aload (X : Stand p l e R s m args below meth c T locs cells slots) (C : Cx p s m meth c Z bytes maxL own mname ret) {k : Nat} {v : Value} (hd : decode bytes pc = .ok (.aload k, 2)) (hl : Ls[k]? = some (.val v)) (hv : v.isRef = true) (hq : pc + 2 = q) (K : Go p e below F (T.setTop (mkF m q Ls (v :: S)))) : Go p e below F (T.setTop (mkF m pc Ls S)) := by
  subst hq; exact of (fun t k => XS.aload X.here C.1 rfl (hb C.2.2.1 hd) hl hv k) K
theorem aloadN (X : Stand p l e R s m args below meth c T locs cells slots) (C : Cx p s m meth c Z bytes maxL own mname ret) {k : Fin 4} {v : Value} (hd : decode bytes pc = .ok (.aload_n k, 1)) (hl : Ls[k.val]? = some (.val v)) (hv : v.isRef = true) (hq : pc + 1 = q) (K : Go p e below F (T.setTop (mkF m q Ls (v :: S)))) : Go p e below F (T.setTop (mkF m pc Ls S)) := by
  subst hq; exact of (fun t k => XS.aloadN X.here C.1 rfl (hb C.2.2.1 hd) hl hv k) K
theorem istore (X : Stand p l e R s m args below meth c T locs cells slots) (C : Cx p s m meth c Z bytes maxL own mname ret) {k : Nat} {v : Int32} (hd : decode bytes pc = .ok (.istore k, 2)) (hl : storeLocals Ls k (.int v) = some L') (hq : pc + 2 = q) (K : Go p e below F (T.setTop (mkF m q L' S))) : Go p e below F (T.setTop (mkF m pc Ls (.int v :: S))) := by
  subst hq; exact of (fun t k => XS.istore X.here C.1 rfl (hb C.2.2.1 hd) rfl hl k) K
theorem istoreN (X : Stand p l e R s m args below meth c T locs cells slots) (C : Cx p s m meth c Z bytes maxL own mname ret) {k : Fin 4} {v : Int32} (hd : decode bytes pc = .ok (.istore_n k, 1)) (hl : storeLocals Ls k.val (.int v) = some L') (hq : pc + 1 = q) (K : Go p e below F (T.setTop (mkF m q L' S))) : Go p e below F (T.setTop (mkF m pc Ls (.int v :: S))) := by
  subst hq; exact of (fun t k => XS.istoreN X.here C.1 rfl (hb C.2.2.1 hd) rfl hl k) K
theorem lstore (X : Stand p l e R s m args below meth c T locs cells slots) (C : Cx p s m meth c Z bytes maxL own mname ret) {k : Nat} {v : Int64} (hd : decode bytes pc = .ok (.lstore k, 2)) (hl : storeLocals Ls k (.long v) = some L') (hq : pc + 2 = q) (K : Go p e below F (T.setTop (mkF m q L' S))) : Go p e below F (T.setTop (mkF m pc Ls (.long v :: S))) := by
  subst hq; exact of (fun t k => XS.lstore X.here C.1 rfl (hb C.2.2.1 hd) rfl hl k) K
theorem lstoreN (X : Stand p l e R s m args below meth c T locs cells slots) (C : Cx p s m meth c Z bytes maxL own mname ret) {k : Fin 4} {v : Int64} (hd : decode bytes pc = .ok (.lstore_n k, 1)) (hl : storeLocals Ls k.val (.long v) = some L') (hq : pc + 1 = q) (K : Go p e below F (T.setTop (mkF m q L' S))) : Go p e below F (T.setTop (mkF m pc Ls (.long v :: S))) := by
  subst hq; exact of (fun t k => XS.lstoreN X.here C.1 rfl (hb C.2.2.1 hd) rfl hl k) K
theorem astore (X : Stand p l e R s m args below meth c T locs cells slots) (C : Cx p s m meth c Z bytes maxL own mname ret) {k : Nat} {v : Value} (hd : decode bytes pc = .ok (.astore k, 2)) (hv : v.isRef = true) (hl : storeLocals Ls k v = some L') (hq : pc + 2 = q) (K : Go p e below F (T.setTop (mkF m q L' S))) : Go p e below F (T.setTop (mkF m pc Ls (v :: S))) := by
  subst hq; exact of (fun t k => XS.astore X.here C.1 rfl (hb C.2.2.1 hd) rfl hv hl k) K
theorem astoreN (X : Stand p l e R s m args below meth c T locs cells slots) (C : Cx p s m meth c Z bytes maxL own mname ret) {k : Fin 4} {v : Value} (hd : decode bytes pc = .ok (.astore_n k, 1)) (hv : v.isRef = true) (hl : storeLocals Ls k.val v = some L') (hq : pc + 1 = q) (K : Go p e below F (T.setTop (mkF m q L' S))) : Go p e below F (T.setTop (mkF m pc Ls (v :: S))) := by
  subst hq; exact of (fun t k => XS.astoreN X.here C.1 rfl (hb C.2.2.1 hd) rfl hv hl k) K
theorem iinc (X : Stand p l e R s m args below meth c T locs cells slots) (C : Cx p s m meth c Z bytes maxL own mname ret) {k : Nat} {i : Int} {x y : Int32} (hd : decode bytes pc = .ok (.iinc k i, 3)) (hl : Ls[k]? = some (.val (.int x))) (hy : x + Int32.ofInt i = y) (hl' : storeLocals Ls k (.int y) = some L') (hq : pc + 3 = q) (K : Go p e below F (T.setTop (mkF m q L' S))) : Go p e below F (T.setTop (mkF m pc Ls S)) := by
  subst hq hy; exact of (fun t k => XS.iinc X.here C.1 rfl (hb C.2.2.1 hd) hl hl' k) K
theorem iconst (X : Stand p l e R s m args below meth c T locs cells slots) (C : Cx p s m meth c Z bytes maxL own mname ret) {i : Int} {v : Int32} (hd : decode bytes pc = .ok (.iconst i, 1)) (hi : Int32.ofInt i = v) (hq : pc + 1 = q) (K : Go p e below F (T.setTop (mkF m q Ls (.int v :: S)))) : Go p e below F (T.setTop (mkF m pc Ls S)) := by
  subst hq hi; exact of (fun t k => XS.iconst X.here C.1 rfl (hb C.2.2.1 hd) k) K
theorem bipush (X : Stand p l e R s m args below meth c T locs cells slots) (C : Cx p s m meth c Z bytes maxL own mname ret) {i : Int} {v : Int32} (hd : decode bytes pc = .ok (.bipush i, 2)) (hi : (Int8.ofInt i).toInt32 = v) (hq : pc + 2 = q) (K : Go p e below F (T.setTop (mkF m q Ls (.int v :: S)))) : Go p e below F (T.setTop (mkF m pc Ls S)) := by
  subst hq hi; exact of (fun t k => XS.bipush X.here C.1 rfl (hb C.2.2.1 hd) k) K
theorem sipush (X : Stand p l e R s m args below meth c T locs cells slots) (C : Cx p s m meth c Z bytes maxL own mname ret) {i : Int} {v : Int32} (hd : decode bytes pc = .ok (.sipush i, 3)) (hi : (Int16.ofInt i).toInt32 = v) (hq : pc + 3 = q) (K : Go p e below F (T.setTop (mkF m q Ls (.int v :: S)))) : Go p e below F (T.setTop (mkF m pc Ls S)) := by
  subst hq hi; exact of (fun t k => XS.sipush X.here C.1 rfl (hb C.2.2.1 hd) k) K
theorem lconst0 (X : Stand p l e R s m args below meth c T locs cells slots) (C : Cx p s m meth c Z bytes maxL own mname ret) (hd : decode bytes pc = .ok (.lconst 0, 1)) (hq : pc + 1 = q) (K : Go p e below F (T.setTop (mkF m q Ls (.long 0 :: S)))) : Go p e below F (T.setTop (mkF m pc Ls S)) := by
  subst hq; exact of (fun t k => XS.lconst X.here C.1 rfl (hb C.2.2.1 hd) k) K
theorem lconst1 (X : Stand p l e R s m args below meth c T locs cells slots) (C : Cx p s m meth c Z bytes maxL own mname ret) (hd : decode bytes pc = .ok (.lconst 1, 1)) (hq : pc + 1 = q) (K : Go p e below F (T.setTop (mkF m q Ls (.long 1 :: S)))) : Go p e below F (T.setTop (mkF m pc Ls S)) := by
  subst hq; exact of (fun t k => XS.lconst X.here C.1 rfl (hb C.2.2.1 hd) k) K
theorem ldcI (X : Stand p l e R s m args below meth c T locs cells slots) (C : Cx p s m meth c Z bytes maxL own mname ret) {i : Nat} {v : Int32} (w : (Jvm.Cond.constant own i v).before a0 Z = true) (hd : decode bytes pc = .ok (.ldc i, 2)) (hq : pc + 2 = q) (K : Go p e below F (T.setTop (mkF m q Ls (.int v :: S)))) : Go p e below F (T.setTop (mkF m pc Ls S)) := by
  subst hq; exact of (X.ldcInt C.1 C.2.2.2.2.1 (mvT C.2.1 w) (g := mkF m pc Ls S) rfl (hb C.2.2.1 hd)) K
theorem ldcL (X : Stand p l e R s m args below meth c T locs cells slots) (C : Cx p s m meth c Z bytes maxL own mname ret) {i : Nat} {v : Int64} (w : (Jvm.Cond.constantLong own i v).before a0 Z = true) (hd : decode bytes pc = .ok (.ldc2_w i, 3)) (hq : pc + 3 = q) (K : Go p e below F (T.setTop (mkF m q Ls (.long v :: S)))) : Go p e below F (T.setTop (mkF m pc Ls S)) := by
  subst hq; exact of (X.ldc2Long C.1 C.2.2.2.2.1 (mvT C.2.1 w) (g := mkF m pc Ls S) rfl (hb C.2.2.1 hd)) K
theorem aconst (X : Stand p l e R s m args below meth c T locs cells slots) (C : Cx p s m meth c Z bytes maxL own mname ret) (hd : decode bytes pc = .ok (.aconst_null, 1)) (hq : pc + 1 = q) (K : Go p e below F (T.setTop (mkF m q Ls (.null :: S)))) : Go p e below F (T.setTop (mkF m pc Ls S)) := by
  subst hq; exact of (fun t k => XS.aconstNull X.here C.1 rfl (hb C.2.2.1 hd) k) K
theorem iadd (X : Stand p l e R s m args below meth c T locs cells slots) (C : Cx p s m meth c Z bytes maxL own mname ret) {x : Int32} {y : Int32} (hd : decode bytes pc = .ok (.iadd, 1)) (hq : pc + 1 = q) (K : Go p e below F (T.setTop (mkF m q Ls (.int (x + y) :: S)))) : Go p e below F (T.setTop (mkF m pc Ls (.int y :: .int x :: S))) := by
  subst hq; exact of (fun t k => XS.iadd X.here C.1 rfl (hb C.2.2.1 hd) rfl k) K
theorem ladd (X : Stand p l e R s m args below meth c T locs cells slots) (C : Cx p s m meth c Z bytes maxL own mname ret) {x : Int64} {y : Int64} (hd : decode bytes pc = .ok (.ladd, 1)) (hq : pc + 1 = q) (K : Go p e below F (T.setTop (mkF m q Ls (.long (x + y) :: S)))) : Go p e below F (T.setTop (mkF m pc Ls (.long y :: .long x :: S))) := by
  subst hq; exact of (fun t k => XS.ladd X.here C.1 rfl (hb C.2.2.1 hd) rfl k) K
theorem isub (X : Stand p l e R s m args below meth c T locs cells slots) (C : Cx p s m meth c Z bytes maxL own mname ret) {x : Int32} {y : Int32} (hd : decode bytes pc = .ok (.isub, 1)) (hq : pc + 1 = q) (K : Go p e below F (T.setTop (mkF m q Ls (.int (x - y) :: S)))) : Go p e below F (T.setTop (mkF m pc Ls (.int y :: .int x :: S))) := by
  subst hq; exact of (fun t k => XS.isub X.here C.1 rfl (hb C.2.2.1 hd) rfl k) K
theorem lsub (X : Stand p l e R s m args below meth c T locs cells slots) (C : Cx p s m meth c Z bytes maxL own mname ret) {x : Int64} {y : Int64} (hd : decode bytes pc = .ok (.lsub, 1)) (hq : pc + 1 = q) (K : Go p e below F (T.setTop (mkF m q Ls (.long (x - y) :: S)))) : Go p e below F (T.setTop (mkF m pc Ls (.long y :: .long x :: S))) := by
  subst hq; exact of (fun t k => XS.lsub X.here C.1 rfl (hb C.2.2.1 hd) rfl k) K
theorem imul (X : Stand p l e R s m args below meth c T locs cells slots) (C : Cx p s m meth c Z bytes maxL own mname ret) {x : Int32} {y : Int32} (hd : decode bytes pc = .ok (.imul, 1)) (hq : pc + 1 = q) (K : Go p e below F (T.setTop (mkF m q Ls (.int (x * y) :: S)))) : Go p e below F (T.setTop (mkF m pc Ls (.int y :: .int x :: S))) := by
  subst hq; exact of (fun t k => XS.imul X.here C.1 rfl (hb C.2.2.1 hd) rfl k) K
theorem lmul (X : Stand p l e R s m args below meth c T locs cells slots) (C : Cx p s m meth c Z bytes maxL own mname ret) {x : Int64} {y : Int64} (hd : decode bytes pc = .ok (.lmul, 1)) (hq : pc + 1 = q) (K : Go p e below F (T.setTop (mkF m q Ls (.long (x * y) :: S)))) : Go p e below F (T.setTop (mkF m pc Ls (.long y :: .long x :: S))) := by
  subst hq; exact of (fun t k => XS.lmul X.here C.1 rfl (hb C.2.2.1 hd) rfl k) K
theorem iand (X : Stand p l e R s m args below meth c T locs cells slots) (C : Cx p s m meth c Z bytes maxL own mname ret) {x : Int32} {y : Int32} (hd : decode bytes pc = .ok (.iand, 1)) (hq : pc + 1 = q) (K : Go p e below F (T.setTop (mkF m q Ls (.int (x &&& y) :: S)))) : Go p e below F (T.setTop (mkF m pc Ls (.int y :: .int x :: S))) := by
  subst hq; exact of (fun t k => XS.iand X.here C.1 rfl (hb C.2.2.1 hd) rfl k) K
theorem land (X : Stand p l e R s m args below meth c T locs cells slots) (C : Cx p s m meth c Z bytes maxL own mname ret) {x : Int64} {y : Int64} (hd : decode bytes pc = .ok (.land, 1)) (hq : pc + 1 = q) (K : Go p e below F (T.setTop (mkF m q Ls (.long (x &&& y) :: S)))) : Go p e below F (T.setTop (mkF m pc Ls (.long y :: .long x :: S))) := by
  subst hq; exact of (fun t k => XS.land X.here C.1 rfl (hb C.2.2.1 hd) rfl k) K
theorem ior (X : Stand p l e R s m args below meth c T locs cells slots) (C : Cx p s m meth c Z bytes maxL own mname ret) {x : Int32} {y : Int32} (hd : decode bytes pc = .ok (.ior, 1)) (hq : pc + 1 = q) (K : Go p e below F (T.setTop (mkF m q Ls (.int (x ||| y) :: S)))) : Go p e below F (T.setTop (mkF m pc Ls (.int y :: .int x :: S))) := by
  subst hq; exact of (fun t k => XS.ior X.here C.1 rfl (hb C.2.2.1 hd) rfl k) K
theorem lor (X : Stand p l e R s m args below meth c T locs cells slots) (C : Cx p s m meth c Z bytes maxL own mname ret) {x : Int64} {y : Int64} (hd : decode bytes pc = .ok (.lor, 1)) (hq : pc + 1 = q) (K : Go p e below F (T.setTop (mkF m q Ls (.long (x ||| y) :: S)))) : Go p e below F (T.setTop (mkF m pc Ls (.long y :: .long x :: S))) := by
  subst hq; exact of (fun t k => XS.lor X.here C.1 rfl (hb C.2.2.1 hd) rfl k) K
theorem ixor (X : Stand p l e R s m args below meth c T locs cells slots) (C : Cx p s m meth c Z bytes maxL own mname ret) {x : Int32} {y : Int32} (hd : decode bytes pc = .ok (.ixor, 1)) (hq : pc + 1 = q) (K : Go p e below F (T.setTop (mkF m q Ls (.int (x ^^^ y) :: S)))) : Go p e below F (T.setTop (mkF m pc Ls (.int y :: .int x :: S))) := by
  subst hq; exact of (fun t k => XS.ixor X.here C.1 rfl (hb C.2.2.1 hd) rfl k) K
theorem lxor (X : Stand p l e R s m args below meth c T locs cells slots) (C : Cx p s m meth c Z bytes maxL own mname ret) {x : Int64} {y : Int64} (hd : decode bytes pc = .ok (.lxor, 1)) (hq : pc + 1 = q) (K : Go p e below F (T.setTop (mkF m q Ls (.long (x ^^^ y) :: S)))) : Go p e below F (T.setTop (mkF m pc Ls (.long y :: .long x :: S))) := by
  subst hq; exact of (fun t k => XS.lxor X.here C.1 rfl (hb C.2.2.1 hd) rfl k) K
theorem ishl (X : Stand p l e R s m args below meth c T locs cells slots) (C : Cx p s m meth c Z bytes maxL own mname ret) {x : Int32} {y : Int32} (hd : decode bytes pc = .ok (.ishl, 1)) (hq : pc + 1 = q) (K : Go p e below F (T.setTop (mkF m q Ls (.int (x <<< (y &&& 31)) :: S)))) : Go p e below F (T.setTop (mkF m pc Ls (.int y :: .int x :: S))) := by
  subst hq; exact of (fun t k => XS.ishl X.here C.1 rfl (hb C.2.2.1 hd) rfl k) K
theorem ishr (X : Stand p l e R s m args below meth c T locs cells slots) (C : Cx p s m meth c Z bytes maxL own mname ret) {x : Int32} {y : Int32} (hd : decode bytes pc = .ok (.ishr, 1)) (hq : pc + 1 = q) (K : Go p e below F (T.setTop (mkF m q Ls (.int (x >>> (y &&& 31)) :: S)))) : Go p e below F (T.setTop (mkF m pc Ls (.int y :: .int x :: S))) := by
  subst hq; exact of (fun t k => XS.ishr X.here C.1 rfl (hb C.2.2.1 hd) rfl k) K
theorem iushr (X : Stand p l e R s m args below meth c T locs cells slots) (C : Cx p s m meth c Z bytes maxL own mname ret) {x : Int32} {y : Int32} (hd : decode bytes pc = .ok (.iushr, 1)) (hq : pc + 1 = q) (K : Go p e below F (T.setTop (mkF m q Ls (.int ((x.toUInt32 >>> (y &&& 31).toUInt32).toInt32) :: S)))) : Go p e below F (T.setTop (mkF m pc Ls (.int y :: .int x :: S))) := by
  subst hq; exact of (fun t k => XS.iushr X.here C.1 rfl (hb C.2.2.1 hd) rfl k) K
theorem lshl (X : Stand p l e R s m args below meth c T locs cells slots) (C : Cx p s m meth c Z bytes maxL own mname ret) {x : Int64} {y : Int32} (hd : decode bytes pc = .ok (.lshl, 1)) (hq : pc + 1 = q) (K : Go p e below F (T.setTop (mkF m q Ls (.long (x <<< (y &&& 0x3f).toInt64) :: S)))) : Go p e below F (T.setTop (mkF m pc Ls (.int y :: .long x :: S))) := by
  subst hq; exact of (fun t k => XS.lshl X.here C.1 rfl (hb C.2.2.1 hd) rfl k) K
theorem lshr (X : Stand p l e R s m args below meth c T locs cells slots) (C : Cx p s m meth c Z bytes maxL own mname ret) {x : Int64} {y : Int32} (hd : decode bytes pc = .ok (.lshr, 1)) (hq : pc + 1 = q) (K : Go p e below F (T.setTop (mkF m q Ls (.long (x >>> (y &&& 0x3f).toInt64) :: S)))) : Go p e below F (T.setTop (mkF m pc Ls (.int y :: .long x :: S))) := by
  subst hq; exact of (fun t k => XS.lshr X.here C.1 rfl (hb C.2.2.1 hd) rfl k) K
theorem lushr (X : Stand p l e R s m args below meth c T locs cells slots) (C : Cx p s m meth c Z bytes maxL own mname ret) {x : Int64} {y : Int32} (hd : decode bytes pc = .ok (.lushr, 1)) (hq : pc + 1 = q) (K : Go p e below F (T.setTop (mkF m q Ls (.long ((x.toUInt64 >>> (y &&& 0x3f).toInt64.toUInt64).toInt64) :: S)))) : Go p e below F (T.setTop (mkF m pc Ls (.int y :: .long x :: S))) := by
  subst hq; exact of (fun t k => XS.lushr X.here C.1 rfl (hb C.2.2.1 hd) rfl k) K
theorem ineg (X : Stand p l e R s m args below meth c T locs cells slots) (C : Cx p s m meth c Z bytes maxL own mname ret) {x : Int32} (hd : decode bytes pc = .ok (.ineg, 1)) (hq : pc + 1 = q) (K : Go p e below F (T.setTop (mkF m q Ls (.int (-x) :: S)))) : Go p e below F (T.setTop (mkF m pc Ls (.int x :: S))) := by
  subst hq; exact of (fun t k => XS.ineg X.here C.1 rfl (hb C.2.2.1 hd) rfl k) K
theorem lneg (X : Stand p l e R s m args below meth c T locs cells slots) (C : Cx p s m meth c Z bytes maxL own mname ret) {x : Int64} (hd : decode bytes pc = .ok (.lneg, 1)) (hq : pc + 1 = q) (K : Go p e below F (T.setTop (mkF m q Ls (.long (-x) :: S)))) : Go p e below F (T.setTop (mkF m pc Ls (.long x :: S))) := by
  subst hq; exact of (fun t k => XS.lneg X.here C.1 rfl (hb C.2.2.1 hd) rfl k) K
theorem i2l (X : Stand p l e R s m args below meth c T locs cells slots) (C : Cx p s m meth c Z bytes maxL own mname ret) {x : Int32} (hd : decode bytes pc = .ok (.i2l, 1)) (hq : pc + 1 = q) (K : Go p e below F (T.setTop (mkF m q Ls (.long (x.toInt64) :: S)))) : Go p e below F (T.setTop (mkF m pc Ls (.int x :: S))) := by
  subst hq; exact of (fun t k => XS.i2l X.here C.1 rfl (hb C.2.2.1 hd) rfl k) K
theorem l2i (X : Stand p l e R s m args below meth c T locs cells slots) (C : Cx p s m meth c Z bytes maxL own mname ret) {x : Int64} (hd : decode bytes pc = .ok (.l2i, 1)) (hq : pc + 1 = q) (K : Go p e below F (T.setTop (mkF m q Ls (.int (x.toInt32) :: S)))) : Go p e below F (T.setTop (mkF m pc Ls (.long x :: S))) := by
  subst hq; exact of (fun t k => XS.l2i X.here C.1 rfl (hb C.2.2.1 hd) rfl k) K
theorem i2b (X : Stand p l e R s m args below meth c T locs cells slots) (C : Cx p s m meth c Z bytes maxL own mname ret) {x : Int32} (hd : decode bytes pc = .ok (.i2b, 1)) (hq : pc + 1 = q) (K : Go p e below F (T.setTop (mkF m q Ls (.int (x.toInt8.toInt32) :: S)))) : Go p e below F (T.setTop (mkF m pc Ls (.int x :: S))) := by
  subst hq; exact of (fun t k => XS.i2b X.here C.1 rfl (hb C.2.2.1 hd) rfl k) K
theorem i2s (X : Stand p l e R s m args below meth c T locs cells slots) (C : Cx p s m meth c Z bytes maxL own mname ret) {x : Int32} (hd : decode bytes pc = .ok (.i2s, 1)) (hq : pc + 1 = q) (K : Go p e below F (T.setTop (mkF m q Ls (.int (x.toInt16.toInt32) :: S)))) : Go p e below F (T.setTop (mkF m pc Ls (.int x :: S))) := by
  subst hq; exact of (fun t k => XS.i2s X.here C.1 rfl (hb C.2.2.1 hd) rfl k) K
theorem i2c (X : Stand p l e R s m args below meth c T locs cells slots) (C : Cx p s m meth c Z bytes maxL own mname ret) {x : Int32} (hd : decode bytes pc = .ok (.i2c, 1)) (hq : pc + 1 = q) (K : Go p e below F (T.setTop (mkF m q Ls (.int (x.toUInt32.toUInt16.toUInt32.toInt32) :: S)))) : Go p e below F (T.setTop (mkF m pc Ls (.int x :: S))) := by
  subst hq; exact of (fun t k => XS.i2c X.here C.1 rfl (hb C.2.2.1 hd) rfl k) K
theorem idiv (X : Stand p l e R s m args below meth c T locs cells slots) (C : Cx p s m meth c Z bytes maxL own mname ret) {x y : Int32} (hd : decode bytes pc = .ok (.idiv, 1)) (hy : y ≠ 0) (hq : pc + 1 = q) (K : Go p e below F (T.setTop (mkF m q Ls (.int (x / y) :: S)))) : Go p e below F (T.setTop (mkF m pc Ls (.int y :: .int x :: S))) := by
  subst hq; exact of (fun t k => XS.idiv X.here C.1 rfl (hb C.2.2.1 hd) rfl hy k) K
theorem irem (X : Stand p l e R s m args below meth c T locs cells slots) (C : Cx p s m meth c Z bytes maxL own mname ret) {x y : Int32} (hd : decode bytes pc = .ok (.irem, 1)) (hy : y ≠ 0) (hq : pc + 1 = q) (K : Go p e below F (T.setTop (mkF m q Ls (.int (x % y) :: S)))) : Go p e below F (T.setTop (mkF m pc Ls (.int y :: .int x :: S))) := by
  subst hq; exact of (fun t k => iremM (g := mkF m pc Ls (.int y :: .int x :: S)) X C.1 rfl (hb C.2.2.1 hd) rfl hy k) K
theorem ldiv (X : Stand p l e R s m args below meth c T locs cells slots) (C : Cx p s m meth c Z bytes maxL own mname ret) {x y : Int64} (hd : decode bytes pc = .ok (.ldiv, 1)) (hy : y ≠ 0) (hq : pc + 1 = q) (K : Go p e below F (T.setTop (mkF m q Ls (.long (x / y) :: S)))) : Go p e below F (T.setTop (mkF m pc Ls (.long y :: .long x :: S))) := by
  subst hq; exact of (fun t k => XS.ldiv X.here C.1 rfl (hb C.2.2.1 hd) rfl hy k) K
theorem lcmp (X : Stand p l e R s m args below meth c T locs cells slots) (C : Cx p s m meth c Z bytes maxL own mname ret) {x y : Int64} (hd : decode bytes pc = .ok (.lcmp, 1)) (hq : pc + 1 = q) (K : Go p e below F (T.setTop (mkF m q Ls (.int (lcmpW x y) :: S)))) : Go p e below F (T.setTop (mkF m pc Ls (.long y :: .long x :: S))) := by
  subst hq; exact of (fun t k => XS.lcmp X.here C.1 rfl (hb C.2.2.1 hd) rfl k) K
theorem dup (X : Stand p l e R s m args below meth c T locs cells slots) (C : Cx p s m meth c Z bytes maxL own mname ret) {v : Value} (hd : decode bytes pc = .ok (.dup, 1)) (hv : v.category = 1) (hq : pc + 1 = q) (K : Go p e below F (T.setTop (mkF m q Ls (v :: v :: S)))) : Go p e below F (T.setTop (mkF m pc Ls (v :: S))) := by
  subst hq; exact of (fun t k => XS.dup X.here C.1 rfl (hb C.2.2.1 hd) rfl hv k) K
theorem dupX1 (X : Stand p l e R s m args below meth c T locs cells slots) (C : Cx p s m meth c Z bytes maxL own mname ret) {v w : Value} (hd : decode bytes pc = .ok (.dup_x1, 1)) (hv : v.category = 1) (hw : w.category = 1) (hq : pc + 1 = q) (K : Go p e below F (T.setTop (mkF m q Ls (v :: w :: v :: S)))) : Go p e below F (T.setTop (mkF m pc Ls (v :: w :: S))) := by
  subst hq; exact of (fun t k => XS.dupX1 X.here C.1 rfl (hb C.2.2.1 hd) rfl hv hw k) K
theorem pop (X : Stand p l e R s m args below meth c T locs cells slots) (C : Cx p s m meth c Z bytes maxL own mname ret) {v : Value} (hd : decode bytes pc = .ok (.pop, 1)) (hv : v.category = 1) (hq : pc + 1 = q) (K : Go p e below F (T.setTop (mkF m q Ls S))) : Go p e below F (T.setTop (mkF m pc Ls (v :: S))) := by
  subst hq; exact of (fun t k => XS.pop X.here C.1 rfl (hb C.2.2.1 hd) rfl hv k) K
theorem goto (X : Stand p l e R s m args below meth c T locs cells slots) (C : Cx p s m meth c Z bytes maxL own mname ret) {o : Int} (hd : decode bytes pc = .ok (.goto o, 3)) (ho : 0 ≤ (pc : Int) + o) (hq : ((pc : Int) + o).toNat = q) (K : Go p e below F (T.setTop (mkF m q Ls S))) : Go p e below F (T.setTop (mkF m pc Ls S)) :=
  of (fun t k => XS.goto X.here C.1 rfl rfl (hb C.2.2.1 hd) ho hq k) K
theorem icmpT (X : Stand p l e R s m args below meth c T locs cells slots) (C : Cx p s m meth c Z bytes maxL own mname ret) {cd : ClassFile.Cond} {o : Int} {x y : Int32} (hd : decode bytes pc = .ok (.if_icmp cd o, 3)) (ho : 0 ≤ (pc : Int) + o) (hq : ((pc : Int) + o).toNat = q) (hc : cT cd x y) (K : Go p e below F (T.setTop (mkF m q Ls S))) : Go p e below F (T.setTop (mkF m pc Ls (.int y :: .int x :: S))) :=
  of (fun t k => XS.icmpYes X.here C.1 rfl rfl (hb C.2.2.1 hd) rfl (holdsT hc) ho hq k) K
theorem icmpF (X : Stand p l e R s m args below meth c T locs cells slots) (C : Cx p s m meth c Z bytes maxL own mname ret) {cd : ClassFile.Cond} {o : Int} {x y : Int32} (hd : decode bytes pc = .ok (.if_icmp cd o, 3)) (hq : pc + 3 = q) (hc : cF cd x y) (K : Go p e below F (T.setTop (mkF m q Ls S))) : Go p e below F (T.setTop (mkF m pc Ls (.int y :: .int x :: S))) := by
  subst hq; exact of (fun t k => XS.icmpNo X.here C.1 rfl (hb C.2.2.1 hd) rfl (holdsF hc) k) K
theorem icmp (X : Stand p l e R s m args below meth c T locs cells slots) (C : Cx p s m meth c Z bytes maxL own mname ret) {cd : ClassFile.Cond} {o : Int} {x y : Int32} {q' : Nat} (hd : decode bytes pc = .ok (.if_icmp cd o, 3)) (ho : 0 ≤ (pc : Int) + o) (hq : ((pc : Int) + o).toNat = q) (hq' : pc + 3 = q') (K : cT cd x y → Go p e below F (T.setTop (mkF m q Ls S))) (K' : cF cd x y → Go p e below F (T.setTop (mkF m q' Ls S))) : Go p e below F (T.setTop (mkF m pc Ls (.int y :: .int x :: S))) :=
  (cTF cd x y).elim (fun hc => icmpT X C hd ho hq hc (K hc)) (fun hc => icmpF X C hd hq' hc (K' hc))
theorem ifT (X : Stand p l e R s m args below meth c T locs cells slots) (C : Cx p s m meth c Z bytes maxL own mname ret) {cd : ClassFile.Cond} {o : Int} {x : Int32} (hd : decode bytes pc = .ok (.ifCond cd o, 3)) (ho : 0 ≤ (pc : Int) + o) (hq : ((pc : Int) + o).toNat = q) (hc : cT cd x 0) (K : Go p e below F (T.setTop (mkF m q Ls S))) : Go p e below F (T.setTop (mkF m pc Ls (.int x :: S))) :=
  of (fun t k => XS.ifYes X.here C.1 rfl rfl (hb C.2.2.1 hd) rfl ((if0 _ _).trans (holdsT hc)) ho hq k) K
theorem ifF (X : Stand p l e R s m args below meth c T locs cells slots) (C : Cx p s m meth c Z bytes maxL own mname ret) {cd : ClassFile.Cond} {o : Int} {x : Int32} (hd : decode bytes pc = .ok (.ifCond cd o, 3)) (hq : pc + 3 = q) (hc : cF cd x 0) (K : Go p e below F (T.setTop (mkF m q Ls S))) : Go p e below F (T.setTop (mkF m pc Ls (.int x :: S))) := by
  subst hq; exact of (fun t k => XS.ifNo X.here C.1 rfl (hb C.2.2.1 hd) rfl ((if0 _ _).trans (holdsF hc)) k) K
theorem if_ (X : Stand p l e R s m args below meth c T locs cells slots) (C : Cx p s m meth c Z bytes maxL own mname ret) {cd : ClassFile.Cond} {o : Int} {x : Int32} {q' : Nat} (hd : decode bytes pc = .ok (.ifCond cd o, 3)) (ho : 0 ≤ (pc : Int) + o) (hq : ((pc : Int) + o).toNat = q) (hq' : pc + 3 = q') (K : cT cd x 0 → Go p e below F (T.setTop (mkF m q Ls S))) (K' : cF cd x 0 → Go p e below F (T.setTop (mkF m q' Ls S))) : Go p e below F (T.setTop (mkF m pc Ls (.int x :: S))) :=
  (cTF cd x 0).elim (fun hc => ifT X C hd ho hq hc (K hc)) (fun hc => ifF X C hd hq' hc (K' hc))
theorem ifnullT (X : Stand p l e R s m args below meth c T locs cells slots) (C : Cx p s m meth c Z bytes maxL own mname ret) {o : Int} (hd : decode bytes pc = .ok (.ifnull o, 3)) (ho : 0 ≤ (pc : Int) + o) (hq : ((pc : Int) + o).toNat = q) (K : Go p e below F (T.setTop (mkF m q Ls S))) : Go p e below F (T.setTop (mkF m pc Ls (.null :: S))) :=
  of (fun t k => XS.ifnullYes X.here C.1 rfl rfl (hb C.2.2.1 hd) rfl ho hq k) K
theorem ifnullF (X : Stand p l e R s m args below meth c T locs cells slots) (C : Cx p s m meth c Z bytes maxL own mname ret) {o : Int} {a : Addr} (hd : decode bytes pc = .ok (.ifnull o, 3)) (hq : pc + 3 = q) (K : Go p e below F (T.setTop (mkF m q Ls S))) : Go p e below F (T.setTop (mkF m pc Ls (.ref a :: S))) := by
  subst hq; exact of (fun t k => XS.ifnullNo X.here C.1 rfl (hb C.2.2.1 hd) rfl k) K
theorem ifnonnullT (X : Stand p l e R s m args below meth c T locs cells slots) (C : Cx p s m meth c Z bytes maxL own mname ret) {o : Int} {a : Addr} (hd : decode bytes pc = .ok (.ifnonnull o, 3)) (ho : 0 ≤ (pc : Int) + o) (hq : ((pc : Int) + o).toNat = q) (K : Go p e below F (T.setTop (mkF m q Ls S))) : Go p e below F (T.setTop (mkF m pc Ls (.ref a :: S))) :=
  of (fun t k => XS.ifnonnullYes X.here C.1 rfl rfl (hb C.2.2.1 hd) rfl ho hq k) K
theorem ifnonnullF (X : Stand p l e R s m args below meth c T locs cells slots) (C : Cx p s m meth c Z bytes maxL own mname ret) {o : Int} (hd : decode bytes pc = .ok (.ifnonnull o, 3)) (hq : pc + 3 = q) (K : Go p e below F (T.setTop (mkF m q Ls S))) : Go p e below F (T.setTop (mkF m pc Ls (.null :: S))) := by
  subst hq; exact of (fun t k => XS.ifnonnullNo X.here C.1 rfl (hb C.2.2.1 hd) rfl k) K
/-! calls -/
theorem callS (X : Stand p l e R s m args below meth c T locs cells slots) (C : Cx p s m meth c Z bytes maxL own mname ret) {y : MethodName} {i : Nat} {yb : ByteArray} {ym : Nat} {yr : Option FieldType} (w1 : (Jvm.Cond.methodLink own i y).before a0 Z = true) (w2 : (Jvm.Cond.static y).before a0 Z = true) (w3 : (Jvm.Cond.initialized y.cls).before a0 Z = true) (w4 : (Jvm.Cond.code y yb ym yr).before a0 Z = true) (hy : y.cls ≠ "java/lang/invoke/MethodHandle" ∧ y.cls ≠ "java/lang/invoke/VarHandle")
    {rm : Room} {as' : Array Value} {Q : Option Value → Heap → List Loc → Prop} (hM : MetFree l y (head1 [Jvm.Cond.code y yb ym yr] rm) (fun a U => a = as' ∧ Z.Warmed39 U.vm ∧ U.heap = h) (fun _ _ _ _ _ => True) (fun _ U o U' => ∃ v L, o = .returned v ∧ Q v U'.heap L ∧ FrameEnd U o U' L rm.cells rm.slots))
    (eT : T.heap = h) (hd : decode bytes pc = .ok (.invokestatic i, 3)) (argsL : List Value) (rest : List Value) (hS : S = argsL.reverse ++ rest) (has : as' = argsL.toArray) {ps : List FieldType} {r : Option FieldType} (hpd : parseMethodDescriptor y.desc = some ⟨ps, r⟩) (hlen : argsL.length = ps.length) (hsz : Ls.size = maxL)
    (hf : rm.frames + 1 ≤ R.frames) (hl : (rest.map fun v => v.category).sum + (ym + 11) + rm.locals ≤ R.locals) (hc : cells + rm.cells ≤ R.cells) (hsl : slots + rm.slots ≤ R.slots) (hq : pc + 3 = q)
    (K : ∀ (T' : State) (v : Option Value) (L : List Loc), Stand p l e R s m args below meth c T' (locs ++ L) (cells + rm.cells) (slots + rm.slots) → Q v T'.heap L → Go p e below F (T'.setTop (mkF m q Ls (v.toList ++ rest)))) : Go p e below F (T.setTop (mkF m pc Ls S)) := by
  subst hq hS has
  obtain ⟨hx, hZ, hby, hml, hown, hnm, hret, hlk⟩ := C
  obtain ⟨v, _, ⟨T1, L1, k1, n1⟩, -, X1, ⟨Lc, hQ, l1, y1, z1⟩, st⟩ := Jvm.LawKit.callS X hx hown (mvT hZ w1) (mvT hZ w2) (mvT hZ w3) (mvT hZ w4) hy (backOf (W := (rest.map fun v => v.category).sum) hM hZ w4 w3 hf hl) (g := mkF m pc Ls (argsL.reverse ++ rest)) rfl (by rw [hml]; exact hsz) (argsL := argsL) (rest := rest) (lenOf hpd hlen) rfl (by show 2 * 0 + _ ≤ _; omega) (hb hby hd) (fun _ _ => ⟨rfl, eT, hc, hsl⟩)
  dsimp only [Pt.U, Pt.locs, Pt.cells, Pt.slots] at X1 l1 y1 z1 st hQ
  subst l1 y1 z1
  exact of st (K T1 v Lc X1 hQ)
theorem callI (X : Stand p l e R s m args below meth c T locs cells slots) (C : Cx p s m meth c Z bytes maxL own mname ret) {y : MethodName} {i : Nat} {yb : ByteArray} {ym : Nat} (hy1 : y.name = "<init>") (w1 : (Jvm.Cond.methodLink own i y).before a0 Z = true) (w2 : (Jvm.Cond.instanceMethod y).before a0 Z = true) (w3 : (Jvm.Cond.initialized y.cls).before a0 Z = true) (w4 : (Jvm.Cond.code y yb ym none).before a0 Z = true) (hy : y.cls ≠ "java/lang/invoke/MethodHandle" ∧ y.cls ≠ "java/lang/invoke/VarHandle")
    {rm : Room} {as' : Array Value} {Q : Option Value → Heap → List Loc → Prop} (hM : MetFree l y (head1 [Jvm.Cond.code y yb ym none] rm) (fun a U => a = as' ∧ Z.Warmed39 U.vm ∧ U.heap = h) (fun _ _ _ _ _ => True) (fun _ U o U' => ∃ v L, o = .returned v ∧ Q v U'.heap L ∧ FrameEnd U o U' L rm.cells rm.slots))
    (eT : T.heap = h) (hd : decode bytes pc = .ok (.invokespecial i, 3)) {a : Addr} (argsL : List Value) (rest : List Value) (hS : S = argsL.reverse ++ .ref a :: rest) (has : as' = (.ref a :: argsL).toArray) {ps : List FieldType} {r : Option FieldType} (hpd : parseMethodDescriptor y.desc = some ⟨ps, r⟩) (hlen : argsL.length = ps.length) (hsz : Ls.size = maxL)
    (hf : rm.frames + 1 ≤ R.frames) (hl : (rest.map fun v => v.category).sum + (ym + 11) + rm.locals ≤ R.locals) (hc : cells + rm.cells ≤ R.cells) (hsl : slots + rm.slots ≤ R.slots) (hq : pc + 3 = q)
    (K : ∀ (T' : State) (v : Option Value) (L : List Loc), Stand p l e R s m args below meth c T' (locs ++ L) (cells + rm.cells) (slots + rm.slots) → Q v T'.heap L → Go p e below F (T'.setTop (mkF m q Ls (v.toList ++ rest)))) : Go p e below F (T.setTop (mkF m pc Ls S)) := by
  subst hq hS has
  obtain ⟨hx, hZ, hby, hml, hown, hnm, hret, hlk⟩ := C
  obtain ⟨v, _, ⟨T1, L1, k1, n1⟩, -, X1, ⟨Lc, hQ, l1, y1, z1⟩, st⟩ := X.specialBack hx hy1 hown (mvT hZ w1) (mvT hZ w2) (mvT hZ w4) hy (backOf (W := (rest.map fun v => v.category).sum) hM hZ w4 w3 hf hl) (g := mkF m pc Ls (argsL.reverse ++ .ref a :: rest)) rfl (by rw [hml]; exact hsz) (Steps.refl _) (a := a) (argsL := argsL) (rest := rest) (lenOf hpd hlen) rfl (by show 2 * 0 + _ ≤ _; omega) (hb hby hd) (fun _ _ => ⟨rfl, eT, hc, hsl⟩)
  dsimp only [Pt.U, Pt.locs, Pt.cells, Pt.slots] at X1 l1 y1 z1 st hQ
  subst l1 y1 z1
  exact tr st (K T1 v Lc X1 hQ)
theorem callV (X : Stand p l e R s m args below meth c T locs cells slots) (C : Cx p s m meth c Z bytes maxL own mname ret) {y z : MethodName} {i : Nat} {Cn : String} {yb : ByteArray} {ym : Nat} {yr : Option FieldType} (w1 : (Jvm.Cond.methodLink own i y).before a0 Z = true) (w2 : (Jvm.Cond.declares y).before a0 Z = true) (hnf : NotFace s y) (ws : (Jvm.Cond.selects Cn y z).before a0 Z = true) (wi : (Jvm.Cond.instanceMethod z).before a0 Z = true) (w3 : (Jvm.Cond.initialized z.cls).before a0 Z = true) (w4 : (Jvm.Cond.code z yb ym yr).before a0 Z = true) (hy : y.cls ≠ "java/lang/invoke/MethodHandle" ∧ y.cls ≠ "java/lang/invoke/VarHandle")
    {rm : Room} {as' : Array Value} {Q : Option Value → Heap → List Loc → Prop} (hM : MetFree l z (head1 [Jvm.Cond.code z yb ym yr] rm) (fun a U => a = as' ∧ Z.Warmed39 U.vm ∧ U.heap = h) (fun _ _ _ _ _ => True) (fun _ U o U' => ∃ v L, o = .returned v ∧ Q v U'.heap L ∧ FrameEnd U o U' L rm.cells rm.slots))
    (eT : T.heap = h) {a : Addr} (E : Exa Z h a Cn) (hd : decode bytes pc = .ok (.invokevirtual i, 3)) (argsL : List Value) (rest : List Value) (hS : S = argsL.reverse ++ .ref a :: rest) (has : as' = (.ref a :: argsL).toArray) {ps : List FieldType} {r : Option FieldType} (hpd : parseMethodDescriptor y.desc = some ⟨ps, r⟩) (hlen : argsL.length = ps.length) (hsz : Ls.size = maxL)
    (hf : rm.frames + 1 ≤ R.frames) (hl : (rest.map fun v => v.category).sum + (ym + 11) + rm.locals ≤ R.locals) (hc : cells + rm.cells ≤ R.cells) (hsl : slots + rm.slots ≤ R.slots) (hq : pc + 3 = q)
    (K : ∀ (T' : State) (v : Option Value) (L : List Loc), Stand p l e R s m args below meth c T' (locs ++ L) (cells + rm.cells) (slots + rm.slots) → Q v T'.heap L → Go p e below F (T'.setTop (mkF m q Ls (v.toList ++ rest)))) : Go p e below F (T.setTop (mkF m pc Ls S)) := by
  subst hq hS has
  obtain ⟨hx, hZ, hby, hml, hown, hnm, hret, hlk⟩ := C
  obtain ⟨cq, kq, qa, qb, qc⟩ := isOf hZ eT E
  obtain ⟨v, _, ⟨T1, L1, k1, n1⟩, -, X1, ⟨Lc, hQ, l1, y1, z1⟩, st⟩ := X.virtualBack hx hown (mvT hZ w1) (mvT hZ w2) hnf (mvT hZ ws) (mvT hZ wi) hy (backOf (W := (rest.map fun v => v.category).sum) hM hZ w4 w3 hf hl) qa qc (g := mkF m pc Ls (argsL.reverse ++ .ref a :: rest)) rfl (by rw [hml]; exact hsz) (Steps.refl _) (argsL := argsL) (rest := rest) (lenOf hpd hlen) rfl (by show 2 * 0 + _ ≤ _; omega) (hb hby hd) (fun _ _ => ⟨rfl, eT, hc, hsl⟩)
  dsimp only [Pt.U, Pt.locs, Pt.cells, Pt.slots] at X1 l1 y1 z1 st hQ
  subst l1 y1 z1
  exact tr st (K T1 v Lc X1 hQ)
theorem callP (X : Stand p l e R s m args below meth c T locs cells slots) (C : Cx p s m meth c Z bytes maxL own mname ret) {y y2 : MethodName} {i : Nat} {Cn : String} {yb : ByteArray} {ym : Nat} {yr : Option FieldType} (w1 : (Jvm.Cond.methodLink own i y).before a0 Z = true) (wi : (Jvm.Cond.instanceMethod y).before a0 Z = true) (wp : (Jvm.Cond.privateMethod y).before a0 Z = true) (hcls : y2.cls = y.cls) (ws : (Jvm.Cond.selects y2.cls y2 y2).before a0 Z = true) (w3 : (Jvm.Cond.initialized y.cls).before a0 Z = true) (w4 : (Jvm.Cond.code y yb ym yr).before a0 Z = true) (hy : y.cls ≠ "java/lang/invoke/MethodHandle" ∧ y.cls ≠ "java/lang/invoke/VarHandle")
    {rm : Room} {as' : Array Value} {Q : Option Value → Heap → List Loc → Prop} (hM : MetFree l y (head1 [Jvm.Cond.code y yb ym yr] rm) (fun a U => a = as' ∧ Z.Warmed39 U.vm ∧ U.heap = h) (fun _ _ _ _ _ => True) (fun _ U o U' => ∃ v L, o = .returned v ∧ Q v U'.heap L ∧ FrameEnd U o U' L rm.cells rm.slots))
    (eT : T.heap = h) {a : Addr} (E : Exa Z h a Cn) (hd : decode bytes pc = .ok (.invokevirtual i, 3)) (argsL : List Value) (rest : List Value) (hS : S = argsL.reverse ++ .ref a :: rest) (has : as' = (.ref a :: argsL).toArray) {ps : List FieldType} {r : Option FieldType} (hpd : parseMethodDescriptor y.desc = some ⟨ps, r⟩) (hlen : argsL.length = ps.length) (hsz : Ls.size = maxL)
    (hf : rm.frames + 1 ≤ R.frames) (hl : (rest.map fun v => v.category).sum + (ym + 11) + rm.locals ≤ R.locals) (hc : cells + rm.cells ≤ R.cells) (hsl : slots + rm.slots ≤ R.slots) (hq : pc + 3 = q)
    (K : ∀ (T' : State) (v : Option Value) (L : List Loc), Stand p l e R s m args below meth c T' (locs ++ L) (cells + rm.cells) (slots + rm.slots) → Q v T'.heap L → Go p e below F (T'.setTop (mkF m q Ls (v.toList ++ rest)))) : Go p e below F (T.setTop (mkF m pc Ls S)) := by
  subst hq hS has
  obtain ⟨hx, hZ, hby, hml, hown, hnm, hret, hlk⟩ := C
  obtain ⟨cl, qa, qb⟩ := E.cell
  rw [← eT] at qa
  have ws' : (Jvm.Cond.selects y2.cls y2 y2).before args s = true := mvT hZ ws
  obtain ⟨_, _, m2, -, -, q3, -, kP, hkP, hkPi⟩ := Cond.selects_spec ws'
  have hfc := findClass_of_methodNamed q3
  rw [hcls] at hfc
  have hpr : s.PrivateAt y := Cond.privateMethod_at (args := args) (mvP hZ wp)
  have hsel := Jvm.Stand.selects_self_of_private (args := args) hfc hkP hkPi hpr (mvT hZ wi) hy
  obtain ⟨v, _, ⟨T1, L1, k1, n1⟩, -, X1, ⟨Lc, hQ, l1, y1, z1⟩, st⟩ := X.privateBack hx hown (mvT hZ w1) (mvT hZ wi) hsel hpr (mvT hZ w4) hy (backOf (W := (rest.map fun v => v.category).sum) hM hZ w4 w3 hf hl) (g := mkF m pc Ls (argsL.reverse ++ .ref a :: rest)) rfl (by rw [hml]; exact hsz) (Steps.refl _) qa qb (argsL := argsL) (rest := rest) (lenOf hpd hlen) rfl (by show 2 * 0 + _ ≤ _; omega) (hb hby hd) (fun _ _ => ⟨rfl, eT, hc, hsl⟩)
  dsimp only [Pt.U, Pt.locs, Pt.cells, Pt.slots] at X1 l1 y1 z1 st hQ
  subst l1 y1 z1
  exact tr st (K T1 v Lc X1 hQ)
theorem nf (C : Cx p s m meth c Z bytes maxL own mname ret) {Cn : String} {y : MethodName} (ws : (Jvm.Cond.selects Cn y y).before a0 Z = true) : NotFace s y := notFace_of_selects (args := #[]) (mvT C.2.1 ws)
theorem initObj (X : Stand p l e R s m args below meth c T locs cells slots) (C : Cx p s m meth c Z bytes maxL own mname ret) {i : Nat} (w1 : (Jvm.Cond.methodLink own i ⟨"java/lang/Object", "<init>", "()V"⟩).before a0 Z = true) (w2 : (Jvm.Cond.instanceMethod ⟨"java/lang/Object", "<init>", "()V"⟩).before a0 Z = true) (w3 : (Jvm.Cond.code ⟨"java/lang/Object", "<init>", "()V"⟩ object_method_1_code 1 none).before a0 Z = true)
    (eT : T.heap = h) {a : Addr} (hd : decode bytes pc = .ok (.invokespecial i, 3)) (hsz : Ls.size = maxL) (hf : 1 ≤ R.frames) (hl : (S.map fun v => v.category).sum + 12 ≤ R.locals) (hq : pc + 3 = q)
    (K : ∀ (T' : State), Stand p l e R s m args below meth c T' locs cells slots → T'.heap = h → Go p e below F (T'.setTop (mkF m q Ls S))) : Go p e below F (T.setTop (mkF m pc Ls (.ref a :: S))) := by
  subst hq
  obtain ⟨hx, hZ, hby, hml, hown, hnm, hret, hlk⟩ := C
  obtain ⟨T1, X1, e1, st⟩ := initO X hx hZ hown w1 w2 w3 eT (g := mkF m pc Ls (.ref a :: S)) rfl (by rw [hml]; exact hsz) rfl (hb hby hd) hf (W := (S.map fun v => v.category).sum) (by show 2 * 0 + _ ≤ _; omega) hl
  exact of st (K T1 X1 e1)
/-! objects -/
theorem newO (X : Stand p l e R s m args below meth c T locs cells slots) (C : Cx p s m meth c Z bytes maxL own mname ret) {i n : Nat} {Cn : String} (w1 : (Jvm.Cond.classLink own i Cn).before a0 Z = true) (w2 : (Jvm.Cond.instantiable Cn n).before a0 Z = true) (w3 : (Jvm.Cond.initialized Cn).before a0 Z = true) (eT : T.heap = h) (hd : decode bytes pc = .ok (.new i, 3)) (hc : cells + 1 ≤ R.cells) (hl : slots + n ≤ R.slots) (hq : pc + 3 = q)
    (K : ∀ (T' : State) (h' : Heap) (b : Addr), Stand p l e R s m args below meth c T' locs (cells + 1) (slots + n) → T'.heap = h' → b = h.size → Ext h h' → Exa Z h' b Cn → (∀ {O nm d : String} {ty : FieldType}, Laid Z a0 Cn O nm d → parseFieldDescriptor d = some ty → Fld Z h' b O nm d (defaultValue ty)) → Go p e below F (T'.setTop (mkF m q Ls (.ref b :: S)))) : Go p e below F (T.setTop (mkF m pc Ls S)) := by
  subst hq
  obtain ⟨hx, hZ, hby, hml, hown, hnm, hret, hlk⟩ := C
  obtain ⟨T1, h1, X1, e1, E1, A1, D1, -, st⟩ := Jvm.RoadKit.newO X hx hZ hown w1 w2 w3 eT (g := mkF m pc Ls S) rfl (hb hby hd) hc hl
  exact of st (K T1 h1 _ X1 e1 rfl E1 A1 D1)
theorem getF (X : Stand p l e R s m args below meth c T locs cells slots) (C : Cx p s m meth c Z bytes maxL own mname ret) {i : Nat} {R0 O n d host : String} (w : (Jvm.Cond.fieldLink own i R0 n d).before a0 Z = true ∨ (Jvm.Cond.fieldLinkNest own i R0 n d host).before a0 Z = true) (via : Via Z R0 O n d) (eT : T.heap = h) {a : Addr} {v : Value} (F0 : Fld Z h a O n d v) (hd : decode bytes pc = .ok (.getfield i, 3)) (hq : pc + 3 = q)
    (K : ∀ (T' : State), Stand p l e R s m args below meth c T' locs cells slots → T'.heap = h → Go p e below F (T'.setTop (mkF m q Ls (v :: S)))) : Go p e below F (T.setTop (mkF m pc Ls (.ref a :: S))) := by
  subst hq
  obtain ⟨hx, hZ, hby, hml, hown, hnm, hret, hlk⟩ := C
  obtain ⟨T1, X1, e1, st⟩ := Jvm.RoadKit.getF X hx hZ hown w via eT F0 (g := mkF m pc Ls (.ref a :: S)) rfl rfl (hb hby hd)
  exact of st (K T1 X1 e1)
theorem putF (X : Stand p l e R s m args below meth c T locs cells slots) (C : Cx p s m meth c Z bytes maxL own mname ret) {i kk : Nat} {R0 O n d host Cn : String} {ty : FieldType} (w : (Jvm.Cond.fieldLink own i R0 n d).before a0 Z = true ∨ (Jvm.Cond.fieldLinkNest own i R0 n d host).before a0 Z = true) (via : Via Z R0 O n d) (eT : T.heap = h) {a : Addr} {v old : Value} (F0 : Fld Z h a O n d old) (E : Exa Z h a Cn) (L : (Jvm.Cond.lays Cn O n d).before a0 Z = true ∨ ((Jvm.Cond.laysFinal Cn O n d).before a0 Z = true ∧ own = O ∧ mname = "<init>")) (wi : (Jvm.Cond.instantiable Cn kk).before a0 Z = true) (hty : parseFieldDescriptor d = some ty) (hn : narrow ty v = v) (hf : fits ty v = true) (hd : decode bytes pc = .ok (.putfield i, 3)) (hq : pc + 3 = q)
    (K : ∀ (T' : State) (h' : Heap), Stand p l e R s m args below meth c T' (locs ++ [⟨a, Jvm.RoadKit.slotOf Z O n d⟩]) cells slots → T'.heap = h' → Wr h h' a (Jvm.RoadKit.slotOf Z O n d) v → Go p e below F (T'.setTop (mkF m q Ls S))) : Go p e below F (T.setTop (mkF m pc Ls (v :: .ref a :: S))) := by
  subst hq
  obtain ⟨hx, hZ, hby, hml, hown, hnm, hret, hlk⟩ := C
  obtain ⟨T1, h1, X1, e1, W1, st⟩ := Jvm.RoadKit.putF X hx hZ hown w via eT F0 E (L.imp id fun q => ⟨q.1, q.2.1, hnm.trans q.2.2⟩) wi hty hn hf (g := mkF m pc Ls (v :: .ref a :: S)) rfl rfl (hb hby hd)
  exact of st (K T1 h1 X1 e1 W1)
theorem getS (X : Stand p l e R s m args below meth c T locs cells slots) (C : Cx p s m meth c Z bytes maxL own mname ret) {i : Nat} {R0 O n d : String} (w : (Jvm.Cond.fieldLink own i R0 n d).before a0 Z = true) (via : Via Z R0 O n d) (eT : T.heap = h) {v : Value} (F0 : Sta Z h O n d v) (hd : decode bytes pc = .ok (.getstatic i, 3)) (hq : pc + 3 = q)
    (K : ∀ (T' : State), Stand p l e R s m args below meth c T' locs cells slots → T'.heap = h → Go p e below F (T'.setTop (mkF m q Ls (v :: S)))) : Go p e below F (T.setTop (mkF m pc Ls S)) := by
  subst hq
  obtain ⟨hx, hZ, hby, hml, hown, hnm, hret, hlk⟩ := C
  obtain ⟨T1, X1, e1, st⟩ := Jvm.RoadKit.getS X hx hZ hown (host := "") w via eT F0 (g := mkF m pc Ls S) rfl (hb hby hd)
  exact of st (K T1 X1 e1)
/-! arrays: Arv Z h a k ty n vs d -/
theorem inb {cl : Cell} {n j : Int32} (S : cl.slots.size = n.toNatClampNeg) (h1 : 0 ≤ j.toInt) (h2 : j.toInt < n.toInt) : ¬ (j < 0 ∨ cl.slots.size ≤ j.toNatClampNeg) := inb_of S ⟨by rw [Int32.lt_iff_toInt_lt]; have : (0 : Int32).toInt = 0 := rfl; omega, by rw [Int32.lt_iff_toInt_lt]; exact h2⟩
theorem iaload (X : Stand p l e R s m args below meth c T locs cells slots) (C : Cx p s m meth c Z bytes maxL own mname ret) (eT : T.heap = h) {a : Addr} {k : ClassId} {n j x : Int32} {vs : List Value} {d : Value} (V : Arv Z h a k .int n vs d) (h1 : 0 ≤ j.toInt) (h2 : j.toInt < n.toInt) (hv : vs.getD j.toNatClampNeg d = .int x) (hd : decode bytes pc = .ok (.iaload, 1)) (hq : pc + 1 = q) (K : Go p e below F (T.setTop (mkF m q Ls (.int x :: S)))) : Go p e below F (T.setTop (mkF m pc Ls (.int j :: .ref a :: S))) := by
  subst hq
  obtain ⟨cl, Ar, q1, S1, N1, H1, G1⟩ := V
  exact of (X.iaload C.1 (j := j) (v := .int x) (by rw [eT]; exact Ar.1) (State.isArrayOf_alike C.2.1.alike Ar.2.1) Ar.2.2 (inb S1 h1 h2) (Has.at H1 (inb S1 h1 h2) hv) (g := mkF m pc Ls (.int j :: .ref a :: S)) rfl rfl (hb C.2.2.1 hd)) K
theorem caload (X : Stand p l e R s m args below meth c T locs cells slots) (C : Cx p s m meth c Z bytes maxL own mname ret) (eT : T.heap = h) {a : Addr} {k : ClassId} {n j x : Int32} {vs : List Value} {d : Value} (V : Arv Z h a k .char n vs d) (h1 : 0 ≤ j.toInt) (h2 : j.toInt < n.toInt) (hv : vs.getD j.toNatClampNeg d = .int x) (hd : decode bytes pc = .ok (.caload, 1)) (hq : pc + 1 = q) (K : Go p e below F (T.setTop (mkF m q Ls (.int x :: S)))) : Go p e below F (T.setTop (mkF m pc Ls (.int j :: .ref a :: S))) := by
  subst hq
  obtain ⟨cl, Ar, q1, S1, N1, H1, G1⟩ := V
  exact of (X.caload C.1 (j := j) (v := .int x) (by rw [eT]; exact Ar.1) (State.isArrayOf_alike C.2.1.alike Ar.2.1) Ar.2.2 (inb S1 h1 h2) (Has.at H1 (inb S1 h1 h2) hv) (g := mkF m pc Ls (.int j :: .ref a :: S)) rfl rfl (hb C.2.2.1 hd)) K
theorem baload (X : Stand p l e R s m args below meth c T locs cells slots) (C : Cx p s m meth c Z bytes maxL own mname ret) (eT : T.heap = h) {a : Addr} {k : ClassId} {n j x : Int32} {vs : List Value} {d : Value} (V : Arv Z h a k .byte n vs d) (h1 : 0 ≤ j.toInt) (h2 : j.toInt < n.toInt) (hv : vs.getD j.toNatClampNeg d = .int x) (hd : decode bytes pc = .ok (.baload, 1)) (hq : pc + 1 = q) (K : Go p e below F (T.setTop (mkF m q Ls (.int x :: S)))) : Go p e below F (T.setTop (mkF m pc Ls (.int j :: .ref a :: S))) := by
  subst hq
  obtain ⟨cl, Ar, q1, S1, N1, H1, G1⟩ := V
  exact of (X.baloadBytes C.1 (j := j) (v := .int x) (by rw [eT]; exact Ar.1) (State.isArrayOf_alike C.2.1.alike Ar.2.1) Ar.2.2 (inb S1 h1 h2) (Has.at H1 (inb S1 h1 h2) hv) (g := mkF m pc Ls (.int j :: .ref a :: S)) rfl rfl (hb C.2.2.1 hd)) K
theorem aaload (X : Stand p l e R s m args below meth c T locs cells slots) (C : Cx p s m meth c Z bytes maxL own mname ret) (eT : T.heap = h) {a : Addr} {k : ClassId} {n j : Int32} {x : Value} {vs : List Value} {d : Value} {ty : FieldType} (hty : ty.isReference = true) (V : Arv Z h a k ty n vs d) (h1 : 0 ≤ j.toInt) (h2 : j.toInt < n.toInt) (hv : vs.getD j.toNatClampNeg d = x) (hd : decode bytes pc = .ok (.aaload, 1)) (hq : pc + 1 = q) (K : Go p e below F (T.setTop (mkF m q Ls (x :: S)))) : Go p e below F (T.setTop (mkF m pc Ls (.int j :: .ref a :: S))) := by
  subst hq
  obtain ⟨cl, Ar, q1, S1, N1, H1, G1⟩ := V
  exact of (X.aaload C.1 (j := j) (v := x) (by rw [eT]; exact Ar.1) (State.isArrayOf_alike C.2.1.alike Ar.2.1) hty Ar.2.2 (inb S1 h1 h2) (Has.at H1 (inb S1 h1 h2) hv) (g := mkF m pc Ls (.int j :: .ref a :: S)) rfl rfl (hb C.2.2.1 hd)) K
theorem aaloadC (X : Stand p l e R s m args below meth c T locs cells slots) (C : Cx p s m meth c Z bytes maxL own mname ret) (eT : T.heap = h) {a : Addr} {cl : Cell} {j : Int32} {x : Value} {ty : FieldType} (hty : ty.isReference = true) (Ar : Arr Z h a cl ty) (hin : ¬ (j < 0 ∨ cl.slots.size ≤ j.toNatClampNeg)) (hat : cl.slots[j.toNatClampNeg]? = some x) (hd : decode bytes pc = .ok (.aaload, 1)) (hq : pc + 1 = q) (K : Go p e below F (T.setTop (mkF m q Ls (x :: S)))) : Go p e below F (T.setTop (mkF m pc Ls (.int j :: .ref a :: S))) := by
  subst hq
  exact of (X.aaload C.1 (j := j) (v := x) (by rw [eT]; exact Ar.1) (State.isArrayOf_alike C.2.1.alike Ar.2.1) hty Ar.2.2 hin hat (g := mkF m pc Ls (.int j :: .ref a :: S)) rfl rfl (hb C.2.2.1 hd)) K
theorem arraylength (X : Stand p l e R s m args below meth c T locs cells slots) (C : Cx p s m meth c Z bytes maxL own mname ret) (eT : T.heap = h) {a : Addr} {k : ClassId} {n : Int32} {vs : List Value} {d : Value} {ty : FieldType} (V : Arv Z h a k ty n vs d) (hd : decode bytes pc = .ok (.arraylength, 1)) (hq : pc + 1 = q) (K : Go p e below F (T.setTop (mkF m q Ls (.int n :: S)))) : Go p e below F (T.setTop (mkF m pc Ls (.ref a :: S))) := by
  subst hq
  obtain ⟨cl, Ar, q1, S1, N1, H1, G1⟩ := V
  refine of (X.arraylength C.1 (by rw [eT]; exact Ar.1) (State.isArrayOf_alike C.2.1.alike Ar.2.1) (g := mkF m pc Ls (.ref a :: S)) rfl rfl (hb C.2.2.1 hd)) ?_
  rw [len_of S1 N1]
  exact K
theorem iastore (X : Stand p l e R s m args below meth c T locs cells slots) (C : Cx p s m meth c Z bytes maxL own mname ret) (eT : T.heap = h) {a : Addr} {k : ClassId} {n j x : Int32} {vs : List Value} {d : Value} (V : Arv Z h a k .int n vs d) (h1 : 0 ≤ j.toInt) (h2 : j.toInt < n.toInt) (hlen : j.toNatClampNeg < vs.length) (hd : decode bytes pc = .ok (.iastore, 1)) (hq : pc + 1 = q)
    (K : ∀ (T' : State) (h' : Heap), Stand p l e R s m args below meth c T' (locs ++ [⟨a, j.toNatClampNeg⟩]) cells slots → T'.heap = h' → Wr h h' a j.toNatClampNeg (.int x) → Arv Z h' a k .int n (vs.set j.toNatClampNeg (.int x)) d → Go p e below F (T'.setTop (mkF m q Ls S))) : Go p e below F (T.setTop (mkF m pc Ls (.int x :: .int j :: .ref a :: S))) := by
  subst hq
  obtain ⟨cl, Ar, q1, S1, N1, H1, G1⟩ := V
  obtain ⟨T1, h1', X1, e1, W1, st⟩ := stI X C.1 C.2.1 eT Ar (j := j) (inb S1 h1 h2) (g := mkF m pc Ls (.int x :: .int j :: .ref a :: S)) rfl rfl (hb C.2.2.1 hd)
  exact of st (K T1 h1' X1 e1 W1 (Arv.set Ar q1 S1 N1 H1 G1 rfl W1 _ rfl hlen))
theorem castore (X : Stand p l e R s m args below meth c T locs cells slots) (C : Cx p s m meth c Z bytes maxL own mname ret) (eT : T.heap = h) {a : Addr} {k : ClassId} {n j x : Int32} {vs : List Value} {d : Value} (V : Arv Z h a k .char n vs d) (h1 : 0 ≤ j.toInt) (h2 : j.toInt < n.toInt) (hlen : j.toNatClampNeg < vs.length) (hd : decode bytes pc = .ok (.castore, 1)) (hq : pc + 1 = q)
    (K : ∀ (T' : State) (h' : Heap), Stand p l e R s m args below meth c T' (locs ++ [⟨a, j.toNatClampNeg⟩]) cells slots → T'.heap = h' → Wr h h' a j.toNatClampNeg (.int (nar .char x)) → Arv Z h' a k .char n (vs.set j.toNatClampNeg (.int (nar .char x))) d → Go p e below F (T'.setTop (mkF m q Ls S))) : Go p e below F (T.setTop (mkF m pc Ls (.int x :: .int j :: .ref a :: S))) := by
  subst hq
  obtain ⟨cl, Ar, q1, S1, N1, H1, G1⟩ := V
  obtain ⟨T1, h1', X1, e1, W1, st⟩ := stC X C.1 C.2.1 eT Ar (j := j) (inb S1 h1 h2) (g := mkF m pc Ls (.int x :: .int j :: .ref a :: S)) rfl rfl (hb C.2.2.1 hd)
  exact of st (K T1 h1' X1 e1 W1 (Arv.set Ar q1 S1 N1 H1 G1 (fits_nar_char _) W1 _ rfl hlen))
theorem bastore (X : Stand p l e R s m args below meth c T locs cells slots) (C : Cx p s m meth c Z bytes maxL own mname ret) (eT : T.heap = h) {a : Addr} {k : ClassId} {n j x : Int32} {vs : List Value} {d : Value} (V : Arv Z h a k .byte n vs d) (h1 : 0 ≤ j.toInt) (h2 : j.toInt < n.toInt) (hlen : j.toNatClampNeg < vs.length) (hd : decode bytes pc = .ok (.bastore, 1)) (hq : pc + 1 = q)
    (K : ∀ (T' : State) (h' : Heap), Stand p l e R s m args below meth c T' (locs ++ [⟨a, j.toNatClampNeg⟩]) cells slots → T'.heap = h' → Wr h h' a j.toNatClampNeg (.int x.toInt8.toInt32) → Arv Z h' a k .byte n (vs.set j.toNatClampNeg (.int x.toInt8.toInt32)) d → Go p e below F (T'.setTop (mkF m q Ls S))) : Go p e below F (T.setTop (mkF m pc Ls (.int x :: .int j :: .ref a :: S))) := by
  subst hq
  obtain ⟨cl, Ar, q1, S1, N1, H1, G1⟩ := V
  obtain ⟨T1, h1', X1, e1, W1, st⟩ := stB X C.1 C.2.1 eT Ar (j := j) (inb S1 h1 h2) (g := mkF m pc Ls (.int x :: .int j :: .ref a :: S)) rfl rfl (hb C.2.2.1 hd)
  exact of st (K T1 h1' X1 e1 W1 (Arv.set Ar q1 S1 N1 H1 G1 (fits_nar_byte _) W1 _ rfl hlen))
theorem aastore (X : Stand p l e R s m args below meth c T locs cells slots) (C : Cx p s m meth c Z bytes maxL own mname ret) (eT : T.heap = h) {a : Addr} {k : ClassId} {n j : Int32} {x : Value} {vs : List Value} {d : Value} {ty : FieldType} (hty : ty.isReference = true) (hf : fits ty x = true) (V : Arv Z h a k ty n vs d) (hs : ∀ cl, Arr Z h a cl ty → cl.cls = k → Sto Z h a x) (h1 : 0 ≤ j.toInt) (h2 : j.toInt < n.toInt) (hlen : j.toNatClampNeg < vs.length) (hd : decode bytes pc = .ok (.aastore, 1)) (hq : pc + 1 = q)
    (K : ∀ (T' : State) (h' : Heap), Stand p l e R s m args below meth c T' (locs ++ [⟨a, j.toNatClampNeg⟩]) cells slots → T'.heap = h' → Wr h h' a j.toNatClampNeg x → Arv Z h' a k ty n (vs.set j.toNatClampNeg x) d → Go p e below F (T'.setTop (mkF m q Ls S))) : Go p e below F (T.setTop (mkF m pc Ls (x :: .int j :: .ref a :: S))) := by
  subst hq
  obtain ⟨cl, Ar, q1, S1, N1, H1, G1⟩ := V
  obtain ⟨T1, h1', X1, e1, W1, st⟩ := stR X C.1 C.2.1 eT Ar (j := j) (inb S1 h1 h2) hty (hs cl Ar q1) (g := mkF m pc Ls (x :: .int j :: .ref a :: S)) rfl rfl (hb C.2.2.1 hd)
  exact of st (K T1 h1' X1 e1 W1 (Arv.set Ar q1 S1 N1 H1 G1 hf W1 _ rfl hlen))
theorem newarray (X : Stand p l e R s m args below meth c T locs cells slots) (C : Cx p s m meth c Z bytes maxL own mname ret) {aty : ArrayType} (w : (Jvm.Cond.arrayClass (newarray.typeOf aty)).before a0 Z = true) (eT : T.heap = h) {n : Int32} (hn : 0 ≤ n.toInt) (cap : Nat) (hcap : n.toInt ≤ cap) (hb8 : cap * 8 ≤ 536870912) (hd : decode bytes pc = .ok (.newarray aty, 2)) (hc : cells + 1 ≤ R.cells) (hl : slots + cap ≤ R.slots) (hq : pc + 2 = q)
    (K : ∀ (T' : State) (h' : Heap) (b : Addr) (k : ClassId), Stand p l e R s m args below meth c T' locs (cells + 1) (slots + cap) → T'.heap = h' → b = h.size → Ext h h' → Arv Z h' b k (newarray.typeOf aty) n (List.replicate cap (defaultValue (newarray.typeOf aty))) (defaultValue (newarray.typeOf aty)) → Go p e below F (T'.setTop (mkF m q Ls (.ref b :: S)))) : Go p e below F (T.setTop (mkF m pc Ls (.int n :: S))) := by
  subst hq
  have hn' : ¬ n < 0 := by rw [Int32.lt_iff_toInt_lt]; have : (0 : Int32).toInt = 0 := rfl; omega
  obtain ⟨T1, h1, k1, X1, e1, E1, A1, st⟩ := newP X C.1 C.2.1 w eT (g := mkF m pc Ls (.int n :: S)) rfl (hb C.2.2.1 hd) rfl hn' (cap := cap) (by simp only [Int32.toNatClampNeg]; omega) hb8 hc hl
  exact of st (K T1 h1 _ k1 X1 e1 rfl E1 ((Arv.new A1 hn').pad (pad_rep [] _ cap)))
theorem anewarray (X : Stand p l e R s m args below meth c T locs cells slots) (C : Cx p s m meth c Z bytes maxL own mname ret) {i : Nat} {Cn : String} (w1 : (Jvm.Cond.classLink own i Cn).before a0 Z = true) (w2 : (Jvm.Cond.arrayOver (.object Cn)).before a0 Z = true) (eT : T.heap = h) {n : Int32} (hn : 0 ≤ n.toInt) (cap : Nat) (hcap : n.toInt ≤ cap) (hb8 : cap * 8 ≤ 536870912) (hd : decode bytes pc = .ok (.anewarray i, 3)) (hc : cells + 1 ≤ R.cells) (hl : slots + cap ≤ R.slots) (hq : pc + 3 = q)
    (K : ∀ (T' : State) (h' : Heap) (b : Addr) (k : ClassId), Stand p l e R s m args below meth c T' locs (cells + 1) (slots + cap) → T'.heap = h' → b = h.size → Ext h h' → Ovr Z k Cn → Arv Z h' b k (.object Cn) n (List.replicate cap .null) .null → Go p e below F (T'.setTop (mkF m q Ls (.ref b :: S)))) : Go p e below F (T.setTop (mkF m pc Ls (.int n :: S))) := by
  subst hq
  have hn' : ¬ n < 0 := by rw [Int32.lt_iff_toInt_lt]; have : (0 : Int32).toInt = 0 := rfl; omega
  obtain ⟨T1, h1, k1, X1, e1, E1, A1, O1, st⟩ := newR X C.1 C.2.1 C.2.2.2.2.1 w1 w2 eT (g := mkF m pc Ls (.int n :: S)) rfl (hb C.2.2.1 hd) rfl hn' (cap := cap) (by simp only [Int32.toNatClampNeg]; omega) hb8 hc hl
  exact of st (K T1 h1 _ k1 X1 e1 rfl E1 O1 ((Arv.new A1 hn').pad (pad_rep [] _ cap)))
/-! String constants (ldc): the tables grow; the end is said of the true start -/
def PostW (s : State) (Q : Option Value → Heap → List Loc → Prop) (k n : Nat) (o : Outcome) (U' : State) : Prop := ∃ v L, o = .returned v ∧ Q v U'.heap L ∧ ReturnedEndW s o U' L k n
theorem postW {vm1 : Vm} {kk k n : Nat} {U : State} {Q : Option Value → Heap → List Loc → Prop} (hS : s.Since vm1 kk) (g : Go p e below (Post (s.setVm vm1) (fun v h L => Q v h L ∧ kk ≤ h.size) k n) U) : Go p e below (PostW s Q k n) U := by
  obtain ⟨s2, o, h1, h2, h3, v, L, e1, ⟨q1, q2⟩, hr, hW, hs⟩ := g
  obtain ⟨a, b, c'⟩ := hS.ended (U := s2) hW q2 hs
  exact ⟨s2, o, h1, h2, h3, v, L, e1, q1, hr, a, b, c'⟩
theorem bodyOfW {y : MethodName} {ws : List Jvm.Cond} {rm : Room} {as : Array Value} {Q : Option Value → Heap → List Loc → Prop} (hp : plainFor y = true) (hef : ∀ m, entryFrame m as maxL = mkF m 0 Ls [])
    (body : ∀ p e s m below meth c s₁, Cx p (s.setVm s.vm) m meth c Z bytes maxL y.cls y.name ret → Stand p l e rm (s.setVm s.vm) m as below meth c s₁ [] 0 0 → s₁.heap = h0 → s.Since s.vm 0 → Go p e below (PostW s Q rm.cells rm.slots) (s₁.setTop (mkF m 0 Ls []))) :
    MetFree l y (head1 (Jvm.Cond.code y bytes maxL ret :: ws) rm) (fun a U => a = as ∧ Z.Warmed39 U.vm ∧ U.heap = h0) (fun _ _ _ _ _ => True) (fun _ U o U' => ∃ v L, o = .returned v ∧ Q v U'.heap L ∧ ReturnedEndW U o U' L rm.cells rm.slots) := by
  refine MetFree.of_bodySF hp hisR ?_
  intro p e s m args below meth c s₁ Bd hml0 hP hK
  obtain ⟨rfl, hZ, hh⟩ := hP
  obtain ⟨s₂, o, h1, h2⟩ := body p e s m below meth c s₁ ⟨Bd.exec, hZ, Bd.bytes, hml0, findClass_of_methodNamed Bd.named, (name_of_methodNamed Bd.named Bd.method).1, Bd.returns, Bd.notSynchronized⟩ (Stand.of_body Bd) (by rw [← hh, Bd.state]; rfl) ((State.WarmedH.refl s).since 0)
  exact ⟨s₂, o, castTop (hef m) h1, h2⟩
theorem ldcS {vm0 : Vm} (X : Stand p l e R (s.setVm vm0) m args below meth c T locs cells slots) (C : Cx p (s.setVm vm0) m meth c Z bytes maxL own mname ret) {i : Nat} {text : String} (w : (Jvm.Cond.stringLink own i text).before a0 Z = true) (wS : ∀ a ∈ Bundle.stringAtoms, a.before a0 Z = true) (eT : T.heap = h) {k0 : Nat} (hS : s.Since vm0 k0) (hk : k0 ≤ h.size) (hd : decode bytes pc = .ok (.ldc i, 2)) (n : Nat) (hn : 4 * text.toList.length ≤ n) (hbig : n ≤ 536870912) (hc : cells + 2 ≤ R.cells) (hl' : slots + (n + 4) ≤ R.slots) (hq : pc + 2 = q)
    (K : ∀ (a : Addr) (T' : State) (h' : Heap) (k1 : Nat), Stand p l e R (s.setVm T'.vm) m args below meth c T' locs (cells + 2) (slots + (n + 4)) → Cx p (s.setVm T'.vm) m meth c Z bytes maxL own mname ret → T'.heap = h' → Ext h h' → s.Since T'.vm k1 → k1 ≤ h'.size → Go p e below F (T'.setTop (mkF m q Ls (.ref a :: S)))) : Go p e below F (T.setTop (mkF m pc Ls S)) := by
  subst hq
  obtain ⟨hx, hZ, hby, hml, hown, hnm, hret, hlk⟩ := C
  obtain ⟨a, T', h', k1, X1, e1, E1, S1, K1, Z1, O1, -, -, st⟩ := ldcOH (EL := []) X hx hZ hown w wS eT hS hk EW.nil (fun p hp => by cases hp) (g := mkF m pc Ls S) rfl (hb hby hd) hn hbig hc hl'
  exact of st (K a T' h' k1 X1 ⟨hx, Z1, hby, hml, O1, hnm, hret, hlk⟩ e1 E1 S1 K1)
theorem keepRefl (h : Heap) : Keep h h [] := Keep.refl h []
/-! kinds of objects -/
theorem nsRoot {O Kn : String} {n : Nat} (w : (Jvm.Cond.noSuperclass O).before a0 Z = true) (wi : (Jvm.Cond.instantiable Kn n).before a0 Z = true) (hn : O ≠ Kn) : NS Z O Kn := by
  obtain ⟨c, k, h1, h2, h3, -, -⟩ := Cond.noSuperclass_spec w
  obtain ⟨t, k2, g1, -⟩ := Cond.instantiable_spec wi
  have ne := ids_ne h1 g1 hn
  refine ⟨c, t, h1, g1, fun fuel => ?_⟩
  cases fuel with
  | zero => rfl
  | succ f => simp [Vm.isSubclassAux, ne, h2, h3]
theorem nsNo {Cn S Kn : String} {n : Nat} (w : (Jvm.Cond.superclass Cn S).before a0 Z = true) (wi : (Jvm.Cond.instantiable Kn n).before a0 Z = true) (nn : NS Z Cn Kn) (hn : Cn ≠ Kn) : ∃ c t, Z.vm.findClass Cn = some c ∧ Z.vm.findClass Kn = some t ∧ Z.vm.assignable c t = false := by
  obtain ⟨c, t, h0, g0, n3⟩ := nn
  obtain ⟨p, k, kp, h1, h2, h3, h4, h5, -, h7⟩ := Cond.superclass_spec h0 w
  obtain ⟨t', k', g1, g2, g5, g6, -⟩ := Cond.instantiable_spec wi
  cases g0.symm.trans g1
  have g7 : k'.isInterface = false := (Bool.or_eq_false_iff.mp g6).1
  have ne := ids_ne h0 g0 hn
  refine ⟨c, t, h0, g0, ?_⟩
  show Z.vm.assignableAux (255 + 1) c t = false
  simp [Vm.assignableAux, ne, h2, g2, h5, g5, g7, Vm.isSubclass, n3]
theorem cast (X : Stand p l e R s m args below meth c T locs cells slots) (C : Cx p s m meth c Z bytes maxL own mname ret) {i : Nat} {Kn : String} (w : (Jvm.Cond.classLink own i Kn).before a0 Z = true) (eT : T.heap = h) {a : Addr} (I : Ins Z h a Kn true) (hd : decode bytes pc = .ok (.checkcast i, 3)) (hq : pc + 3 = q)
    (K : ∀ (T' : State), Stand p l e R s m args below meth c T' locs cells slots → T'.heap = h → Go p e below F (T'.setTop (mkF m q Ls (.ref a :: S)))) : Go p e below F (T.setTop (mkF m pc Ls (.ref a :: S))) := by
  subst hq
  obtain ⟨T1, X1, e1, st⟩ := castY X C.1 C.2.1 C.2.2.2.2.1 w eT I (g := mkF m pc Ls (.ref a :: S)) rfl rfl (hb C.2.2.1 hd)
  exact of st (K T1 X1 e1)
theorem inst1 (X : Stand p l e R s m args below meth c T locs cells slots) (C : Cx p s m meth c Z bytes maxL own mname ret) {i : Nat} {Kn : String} (w : (Jvm.Cond.classLink own i Kn).before a0 Z = true) (eT : T.heap = h) {a : Addr} (I : Ins Z h a Kn true) (hd : decode bytes pc = .ok (.instanceof i, 3)) (hq : pc + 3 = q)
    (K : ∀ (T' : State), Stand p l e R s m args below meth c T' locs cells slots → T'.heap = h → Go p e below F (T'.setTop (mkF m q Ls (.int 1 :: S)))) : Go p e below F (T.setTop (mkF m pc Ls (.ref a :: S))) := by
  subst hq
  obtain ⟨T1, X1, e1, st⟩ := instY X C.1 C.2.1 C.2.2.2.2.1 w eT I (g := mkF m pc Ls (.ref a :: S)) rfl rfl (hb C.2.2.1 hd)
  exact of st (K T1 X1 e1)
theorem inst0 (X : Stand p l e R s m args below meth c T locs cells slots) (C : Cx p s m meth c Z bytes maxL own mname ret) {i : Nat} {Kn Cn : String} (w : (Jvm.Cond.classLink own i Kn).before a0 Z = true) (eT : T.heap = h) {a : Addr} (E : Exa Z h a Cn) (N : ∃ c t, Z.vm.findClass Cn = some c ∧ Z.vm.findClass Kn = some t ∧ Z.vm.assignable c t = false) (hd : decode bytes pc = .ok (.instanceof i, 3)) (hq : pc + 3 = q)
    (K : ∀ (T' : State), Stand p l e R s m args below meth c T' locs cells slots → T'.heap = h → Go p e below F (T'.setTop (mkF m q Ls (.int 0 :: S)))) : Go p e below F (T.setTop (mkF m pc Ls (.ref a :: S))) := by
  subst hq
  obtain ⟨T1, X1, e1, st⟩ := instNo X C.1 C.2.1 C.2.2.2.2.1 w eT E N (g := mkF m pc Ls (.ref a :: S)) rfl rfl (hb C.2.2.1 hd)
  exact of st (K T1 X1 e1)
theorem instNull (X : Stand p l e R s m args below meth c T locs cells slots) (C : Cx p s m meth c Z bytes maxL own mname ret) {i : Nat} (hd : decode bytes pc = .ok (.instanceof i, 3)) (hq : pc + 3 = q) (K : Go p e below F (T.setTop (mkF m q Ls (.int 0 :: S)))) : Go p e below F (T.setTop (mkF m pc Ls (.null :: S))) := by
  subst hq; exact of (X.instanceofNull C.1 (g := mkF m pc Ls (.null :: S)) rfl rfl (hb C.2.2.1 hd)) K
theorem castNull (X : Stand p l e R s m args below meth c T locs cells slots) (C : Cx p s m meth c Z bytes maxL own mname ret) {i : Nat} (hd : decode bytes pc = .ok (.checkcast i, 3)) (hq : pc + 3 = q) (K : Go p e below F (T.setTop (mkF m q Ls (.null :: S)))) : Go p e below F (T.setTop (mkF m pc Ls (.null :: S))) := by
  subst hq; exact of (X.checkcastNull C.1 (g := mkF m pc Ls (.null :: S)) rfl rfl (hb C.2.2.1 hd)) K
theorem acmp (X : Stand p l e R s m args below meth c T locs cells slots) (C : Cx p s m meth c Z bytes maxL own mname ret) {cd : ACond} {o : Int} {x y : Value} (h1 : x.isRef = true) (h2 : y.isRef = true) {same : Bool} (hs : decide (x = y) = same) (hd : decode bytes pc = .ok (.if_acmp cd o, 3)) (ho : 0 ≤ (pc : Int) + o) (hq : q = if acV cd same = true then ((pc : Int) + o).toNat else pc + 3) (K : Go p e below F (T.setTop (mkF m q Ls S))) : Go p e below F (T.setTop (mkF m pc Ls (y :: x :: S))) :=
  of (fun t k => Jvm.RoadKit.acmp (g := mkF m pc Ls (y :: x :: S)) X C.1 rfl h1 h2 rfl (hb C.2.2.1 hd) rfl hs ho hq k) K
end
end W
end Jvm.Pilot.@@N@@
namespace Jvm.Pilot.@@N@@
open Jvm Jvm.ClassFile Sem Op Lib Jvm.Free Jvm.Stand Jvm.LawKit Jvm.RoadKit Bundle Jvm.Pilot.@@N@@.Jvm.D
def own_node (i : Int32) (t0 t1 t2 t3 : Addr) : Value := if i = 0 then .ref t0 else if i = 1 then .ref t1 else if i = 2 then .ref t2 else if i = 3 then .ref t3 else .null
theorem own_node_ref (i : Int32) (t0 t1 t2 t3 : Addr) : (own_node i t0 t1 t2 t3).isRef = true := by
  unfold own_node; split
  · rfl
  · split
    · rfl
    · split
      · rfl
      · split <;> rfl
def own_par (i a b c : Int32) : Int32 := if i = 1 then a else if i = 2 then b else if i = 3 then c else -1
def own_rch (r o a b c : Int32) : Int32 := if o = r ∨ o = own_par r a b c ∨ o = own_par (own_par r a b c) a b c ∨ o = own_par (own_par (own_par r a b c) a b c) a b c then 1 else 0
theorem d2_0 : decode jdk_43_method_3_code 0 = .ok (.iload_n 0, 1) := by decide +kernel
theorem d2_1 : decode jdk_43_method_3_code 1 = .ok (.sipush 255, 3) := by decide +kernel
theorem d2_4 : decode jdk_43_method_3_code 4 = .ok (.if_icmp .gt 7, 3) := by decide +kernel
theorem d2_7 : decode jdk_43_method_3_code 7 = .ok (.iconst 1, 1) := by decide +kernel
theorem d2_8 : decode jdk_43_method_3_code 8 = .ok (.goto 4, 3) := by decide +kernel
theorem d2_12 : decode jdk_43_method_3_code 12 = .ok (.ireturn, 1) := by decide +kernel
theorem pn_java_lang_StringLatin1 : plainName "java/lang/StringLatin1" = true := by first | (simp [plainName, overriddenIn]; done) | decide +kernel
def Q2 (Z : State) (p0 : Int32) (h0 : Heap) (n0 : Nat) (v : Option Value) (h : Heap) (L : List Loc) : Prop := v = some (.int 1) ∧ Fr n0 L ∧ h = h0
set_option maxRecDepth 65536 in
set_option maxHeartbeats 40000000 in
theorem rm2 (l : Launch) (Z : State) (a0 : Array Value) (hw : ∀ d ∈ tables_1, d.before a0 Z = true) (ws : List Jvm.Cond) (p0 : Int32) (h0 : Heap) (n0 : Nat) (hc : p0.toInt ≤ (255 : Int32).toInt) :
    MetFree l (⟨"java/lang/StringLatin1", "canEncode", "(C)Z"⟩ : MethodName) (head1 (Jvm.Cond.code (⟨"java/lang/StringLatin1", "canEncode", "(C)Z"⟩ : MethodName) jdk_43_method_3_code 1 (some .boolean) :: ws) ({ frames := 0, cells := 0, slots := 0, locals := 0 } : Room)) (fun a U => a = #[(.int p0)] ∧ Z.Warmed39 U.vm ∧ U.heap = h0) (fun _ _ _ _ _ => True) (fun _ U o U' => ∃ v L, o = .returned v ∧ Q2 Z p0 h0 n0 v U'.heap L ∧ FrameEnd U o U' L ({ frames := 0, cells := 0, slots := 0, locals := 0 } : Room).cells ({ frames := 0, cells := 0, slots := 0, locals := 0 } : Room).slots) := by
  refine W.bodyOf (y := (⟨"java/lang/StringLatin1", "canEncode", "(C)Z"⟩ : MethodName)) (as := #[(.int p0)]) (maxL := 1) (Q := Q2 Z p0 h0 n0) (Ls := #[.val (.int p0)]) (plainFor_of_name pn_java_lang_StringLatin1) (fun m => by first | exact W.entry_of rfl | rfl | (simp [entryFrame, mkF, argsToLocals, Value.category]; done)) ?_
  intro p e s m below meth c T0 C X0 e0
  have N0 := Fr.nil n0
  refine W.iloadN (q := 1) X0 C d2_0 rfl rfl ?_
  refine W.sipush (q := 4) (v := 255) X0 C d2_1 rfl rfl ?_
  refine W.icmpF (q := 7) X0 C d2_4 rfl (show p0.toInt ≤ (255 : Int32).toInt from hc) ?_
  refine W.iconst (q := 8) (v := 1) X0 C d2_7 rfl rfl ?_
  refine W.goto (q := 12) X0 C d2_8 (by decide) (by decide) ?_
  exact W.retN X0 C (by simp) e0 d2_12 rfl (by decide) (by decide) ⟨rfl, N0, rfl⟩
theorem d3_0 : decode jdk_43_method_46_code 0 = .ok (.iconst 1, 1) := by decide +kernel
theorem d3_1 : decode jdk_43_method_46_code 1 = .ok (.newarray .byte, 2) := by decide +kernel
theorem d3_3 : decode jdk_43_method_46_code 3 = .ok (.dup, 1) := by decide +kernel
theorem d3_4 : decode jdk_43_method_46_code 4 = .ok (.iconst 0, 1) := by decide +kernel
theorem d3_5 : decode jdk_43_method_46_code 5 = .ok (.iload_n 0, 1) := by decide +kernel
theorem d3_6 : decode jdk_43_method_46_code 6 = .ok (.i2b, 1) := by decide +kernel
theorem d3_7 : decode jdk_43_method_46_code 7 = .ok (.bastore, 1) := by decide +kernel
theorem d3_8 : decode jdk_43_method_46_code 8 = .ok (.areturn, 1) := by decide +kernel
def Q3 (Z : State) (p0 : Int32) (h0 : Heap) (n0 : Nat) (v : Option Value) (h : Heap) (L : List Loc) : Prop := ∃ b, v = some (.ref b) ∧ Fr n0 L ∧ Keep h0 h []
set_option maxRecDepth 65536 in
set_option maxHeartbeats 40000000 in
theorem rm3 (l : Launch) (Z : State) (a0 : Array Value) (hw : ∀ d ∈ tables_1, d.before a0 Z = true) (ws : List Jvm.Cond) (p0 : Int32) (h0 : Heap) (n0 : Nat) (Z0 : n0 ≤ h0.size) :
    MetFree l (⟨"java/lang/StringLatin1", "toBytes", "(C)[B"⟩ : MethodName) (head1 (Jvm.Cond.code (⟨"java/lang/StringLatin1", "toBytes", "(C)[B"⟩ : MethodName) jdk_43_method_46_code 1 (some (.array .byte)) :: ws) ({ frames := 0, cells := 1, slots := 1, locals := 0 } : Room)) (fun a U => a = #[(.int p0)] ∧ Z.Warmed39 U.vm ∧ U.heap = h0) (fun _ _ _ _ _ => True) (fun _ U o U' => ∃ v L, o = .returned v ∧ Q3 Z p0 h0 n0 v U'.heap L ∧ FrameEnd U o U' L ({ frames := 0, cells := 1, slots := 1, locals := 0 } : Room).cells ({ frames := 0, cells := 1, slots := 1, locals := 0 } : Room).slots) := by
  refine W.bodyOf (y := (⟨"java/lang/StringLatin1", "toBytes", "(C)[B"⟩ : MethodName)) (as := #[(.int p0)]) (maxL := 1) (Q := Q3 Z p0 h0 n0) (Ls := #[.val (.int p0)]) (plainFor_of_name pn_java_lang_StringLatin1) (fun m => by first | exact W.entry_of rfl | rfl | (simp [entryFrame, mkF, argsToLocals, Value.category]; done)) ?_
  intro p e s m below meth c T0 C X0 e0
  have N0 := Fr.nil n0
  have K0 := Keep.refl h0 []
  refine W.iconst (q := 1) (v := 1) X0 C d3_0 rfl rfl ?_
  refine W.newarray (q := 3) X0 C (W.ww hw 6 rfl) e0 (by decide) 1 (by decide) (by decide) d3_1 (by decide) (by decide) rfl (fun T1 h1 b1 k1 X1 e1 g1 E1 V1_ => ?_)
  have ge_b1 : n0 ≤ b1 := by rw [g1]; exact Z0
  have sz_b1 : h0.size ≤ b1 := by rw [g1]; exact K0.1
  have n0_1 : n0 ≤ h1.size := Nat.le_trans Z0 E1.1
  have K1 := K0.ext E1
  have V1 : Arv Z h1 b1 k1 .byte (1 : Int32) [(.int (0 : Int32))] (.int (0 : Int32)) := V1_
  refine W.dup (q := 4) X1 C d3_3 rfl rfl ?_
  refine W.iconst (q := 5) (v := 0) X1 C d3_4 rfl rfl ?_
  refine W.iloadN (q := 6) X1 C d3_5 rfl rfl ?_
  refine W.i2b (q := 7) X1 C d3_6 rfl ?_
  refine W.bastore (q := 8) X1 C e1 V1  (by decide) (by decide) (Nat.le_of_ble_eq_true rfl) d3_7 rfl (fun T3 h3 X3 e3 W3 V3_ => ?_)
  have V3 : Arv Z h3 b1 k1 .byte (1 : Int32) [(.int (p0.toInt8.toInt32).toInt8.toInt32)] (.int (0 : Int32)) := V3_
  have N3 := Fr.snoc X3 N0 ge_b1
  have K3 := K1.wr W3 (Or.inr sz_b1)
  have n0_3 : n0 ≤ h3.size := by rw [W3.size]; exact n0_1
  exact W.retA X3 C rfl e3 rfl d3_8 (by decide) (by decide) ⟨_, rfl, N3, K3⟩
theorem d4_0 : decode jdk_42_method_151_code 0 = .ok (.aload_n 0, 1) := by decide +kernel
theorem d4_1 : decode jdk_42_method_151_code 1 = .ok (.invokespecial 1, 3) := by decide +kernel
theorem d4_4 : decode jdk_42_method_151_code 4 = .ok (.aload_n 0, 1) := by decide +kernel
theorem d4_5 : decode jdk_42_method_151_code 5 = .ok (.aload_n 1, 1) := by decide +kernel
theorem d4_6 : decode jdk_42_method_151_code 6 = .ok (.putfield 9, 3) := by decide +kernel
theorem d4_9 : decode jdk_42_method_151_code 9 = .ok (.aload_n 0, 1) := by decide +kernel
theorem d4_10 : decode jdk_42_method_151_code 10 = .ok (.iload_n 2, 1) := by decide +kernel
theorem d4_11 : decode jdk_42_method_151_code 11 = .ok (.putfield 15, 3) := by decide +kernel
theorem d4_14 : decode jdk_42_method_151_code 14 = .ok (.return_, 1) := by decide +kernel
theorem pn_java_lang_String : plainName "java/lang/String" = true := by first | (simp [plainName, overriddenIn]; done) | decide +kernel
def Q4 (Z : State) (p0 p1 : Addr) (h0 : Heap) (n0 : Nat) (v : Option Value) (h : Heap) (L : List Loc) : Prop := v = none ∧ Fr n0 L ∧ Keep h0 h [p0]
set_option maxRecDepth 65536 in
set_option maxHeartbeats 40000000 in
theorem rm4 (l : Launch) (Z : State) (a0 : Array Value) (hw : ∀ d ∈ tables_1, d.before a0 Z = true) (ws : List Jvm.Cond) (p0 p1 : Addr) (h0 : Heap) (n0 : Nat) (Z0 : n0 ≤ h0.size) (hge : n0 ≤ p0) (E0 : Exa Z h0 p0 "java/lang/String") (F0a : Fld Z h0 p0 "java/lang/String" "value" "[B" .null) (F0b : Fld Z h0 p0 "java/lang/String" "coder" "B" (.int (0 : Int32))) :
    MetFree l (⟨"java/lang/String", "<init>", "([BB)V"⟩ : MethodName) (head1 (Jvm.Cond.code (⟨"java/lang/String", "<init>", "([BB)V"⟩ : MethodName) jdk_42_method_151_code 3 none :: ws) ({ frames := 1, cells := 0, slots := 0, locals := 12 } : Room)) (fun a U => a = #[(.ref p0), (.ref p1), (.int (0 : Int32))] ∧ Z.Warmed39 U.vm ∧ U.heap = h0) (fun _ _ _ _ _ => True) (fun _ U o U' => ∃ v L, o = .returned v ∧ Q4 Z p0 p1 h0 n0 v U'.heap L ∧ FrameEnd U o U' L ({ frames := 1, cells := 0, slots := 0, locals := 12 } : Room).cells ({ frames := 1, cells := 0, slots := 0, locals := 12 } : Room).slots) := by
  refine W.bodyOf (y := (⟨"java/lang/String", "<init>", "([BB)V"⟩ : MethodName)) (as := #[(.ref p0), (.ref p1), (.int (0 : Int32))]) (maxL := 3) (Q := Q4 Z p0 p1 h0 n0) (Ls := #[.val (.ref p0), .val (.ref p1), .val (.int (0 : Int32))]) (plainFor_of_name pn_java_lang_String) (fun m => by first | exact W.entry_of rfl | rfl | (simp [entryFrame, mkF, argsToLocals, Value.category]; done)) ?_
  intro p e s m below meth c T0 C X0 e0
  have N0 := Fr.nil n0
  have K0 := Keep.refl h0 [p0]
  refine W.aloadN (q := 1) X0 C d4_0 rfl rfl rfl ?_
  refine W.initObj (q := 4) X0 C (W.ww hw 27 rfl) (W.ww hw 28 rfl) (W.ww hw 29 rfl) e0 d4_1 rfl (by decide) (Nat.le_of_ble_eq_true rfl) rfl (fun T6 X6 e6 => ?_)
  refine W.aloadN (q := 5) X6 C d4_4 rfl rfl rfl ?_
  refine W.aloadN (q := 6) X6 C d4_5 rfl rfl rfl ?_
  refine W.putF (host := "") (q := 9) X6 C (Or.inl (W.ww hw 30 rfl)) Via.refl e6 F0a E0 (Or.inr ⟨(W.ww hw 7 rfl), rfl, rfl⟩) (W.ww hw 5 rfl) (ty := (.array .byte)) (by decide) rfl rfl d4_6 rfl (fun T7 h7 X7 e7 W7 => ?_)
  have Fw7 := F0a.same W7
  have E0_9 := E0.wr W7
  have F0b_11 := F0b.other W7 (Or.inr (slot_ne (Or.inr (W.ww hw 8 rfl)) (Or.inr (W.ww hw 7 rfl)) (by decide) (t := .byte) (t' := (.array .byte)) (by decide) (by decide)))
  have N7 := Fr.snoc X7 N0 hge
  have K7 := K0.wr W7 (Or.inl (by simp))
  have n0_7 : n0 ≤ h7.size := by rw [W7.size]; exact Z0
  refine W.aloadN (q := 10) X7 C d4_9 rfl rfl rfl ?_
  refine W.iloadN (q := 11) X7 C d4_10 rfl rfl ?_
  refine W.putF (host := "") (q := 14) X7 C (Or.inl (W.ww hw 31 rfl)) Via.refl e7 F0b_11 E0_9 (Or.inr ⟨(W.ww hw 8 rfl), rfl, rfl⟩) (W.ww hw 5 rfl) (ty := .byte) (by decide) rfl rfl d4_11 rfl (fun T12 h12 X12 e12 W12 => ?_)
  have Fw12 := F0b_11.same W12
  have E0_14 := E0_9.wr W12
  have Fw7_15 := Fw7.other W12 (Or.inr (slot_ne (Or.inr (W.ww hw 7 rfl)) (Or.inr (W.ww hw 8 rfl)) (by decide) (t := (.array .byte)) (t' := .byte) (by decide) (by decide)))
  have N12 := Fr.snoc X12 N7 hge
  have K12 := K7.wr W12 (Or.inl (by simp))
  have n0_12 : n0 ≤ h12.size := by rw [W12.size]; exact n0_7
  exact W.retV X12 C e12 d4_14 (by decide) (by decide) ⟨rfl, N12, K12⟩
theorem d1_0 : decode jdk_42_method_139_code 0 = .ok (.getstatic 38, 3) := by decide +kernel
theorem d1_3 : decode jdk_42_method_139_code 3 = .ok (.ifCond .eq 23, 3) := by decide +kernel
theorem d1_6 : decode jdk_42_method_139_code 6 = .ok (.iload_n 0, 1) := by decide +kernel
theorem d1_7 : decode jdk_42_method_139_code 7 = .ok (.invokestatic 1015, 3) := by decide +kernel
theorem pd__28C_29Z : parseMethodDescriptor "(C)Z" = some ⟨[.char], some .boolean⟩ := by decide +kernel
theorem d1_10 : decode jdk_42_method_139_code 10 = .ok (.ifCond .eq 16, 3) := by decide +kernel
theorem d1_13 : decode jdk_42_method_139_code 13 = .ok (.new 10, 3) := by decide +kernel
theorem d1_16 : decode jdk_42_method_139_code 16 = .ok (.dup, 1) := by decide +kernel
theorem d1_17 : decode jdk_42_method_139_code 17 = .ok (.iload_n 0, 1) := by decide +kernel
theorem d1_18 : decode jdk_42_method_139_code 18 = .ok (.invokestatic 1018, 3) := by decide +kernel
theorem pd__28C_29_5bB : parseMethodDescriptor "(C)[B" = some ⟨[.char], some (.array .byte)⟩ := by decide +kernel
theorem d1_21 : decode jdk_42_method_139_code 21 = .ok (.iconst 0, 1) := by decide +kernel
theorem d1_22 : decode jdk_42_method_139_code 22 = .ok (.invokespecial 209, 3) := by decide +kernel
theorem pd__28_5bBB_29V : parseMethodDescriptor "([BB)V" = some ⟨[(.array .byte), .byte], none⟩ := by decide +kernel
theorem d1_25 : decode jdk_42_method_139_code 25 = .ok (.areturn, 1) := by decide +kernel
def Q1 (Z : State) (p0 cs : Int32) (h0 : Heap) (n0 : Nat) (v : Option Value) (h : Heap) (L : List Loc) : Prop := ∃ b, v = some (.ref b) ∧ Fr n0 L ∧ Keep h0 h []
set_option maxRecDepth 65536 in
set_option maxHeartbeats 40000000 in
theorem rm1 (l : Launch) (Z : State) (a0 : Array Value) (hw : ∀ d ∈ tables_1, d.before a0 Z = true) (ws : List Jvm.Cond) (p0 cs : Int32) (h0 : Heap) (n0 : Nat) (Z0 : n0 ≤ h0.size) (hc : p0.toInt ≤ (255 : Int32).toInt) (O0 : Old Z n0 h0) (SC : Sta Z Z.heap "java/lang/String" "COMPACT_STRINGS" "Z" (.int cs)) (hcs : cs ≠ 0) :
    MetFree l (⟨"java/lang/String", "valueOf", "(C)Ljava/lang/String;"⟩ : MethodName) (head1 (Jvm.Cond.code (⟨"java/lang/String", "valueOf", "(C)Ljava/lang/String;"⟩ : MethodName) jdk_42_method_139_code 1 (some (.object "java/lang/String")) :: ws) ({ frames := 2, cells := 2, slots := 5, locals := 32 } : Room)) (fun a U => a = #[(.int p0)] ∧ Z.Warmed39 U.vm ∧ U.heap = h0) (fun _ _ _ _ _ => True) (fun _ U o U' => ∃ v L, o = .returned v ∧ Q1 Z p0 cs h0 n0 v U'.heap L ∧ FrameEnd U o U' L ({ frames := 2, cells := 2, slots := 5, locals := 32 } : Room).cells ({ frames := 2, cells := 2, slots := 5, locals := 32 } : Room).slots) := by
  refine W.bodyOf (y := (⟨"java/lang/String", "valueOf", "(C)Ljava/lang/String;"⟩ : MethodName)) (as := #[(.int p0)]) (maxL := 1) (Q := Q1 Z p0 cs h0 n0) (Ls := #[.val (.int p0)]) (plainFor_of_name pn_java_lang_String) (fun m => by first | exact W.entry_of rfl | rfl | (simp [entryFrame, mkF, argsToLocals, Value.category]; done)) ?_
  intro p e s m below meth c T0 C X0 e0
  have N0 := Fr.nil n0
  have K0 := Keep.refl h0 []
  have SC0 := SC.ext O0.2
  refine W.getS (q := 3) X0 C (W.ww hw 14 rfl) Via.refl e0 SC0 d1_0 rfl (fun T17 X17 e17 => ?_)
  refine W.ifF (q := 6) X17 C d1_3 rfl hcs ?_
  refine W.iloadN (q := 7) X17 C d1_6 rfl rfl ?_
  refine W.callS (q := 10) X17 C (W.ww hw 15 rfl) (W.ww hw 16 rfl) (W.ww hw 17 rfl) (W.ww hw 18 rfl) (by decide) (rm2 l Z a0 hw [] p0 h0 n0 hc) e17 d1_7 [(.int p0)] [] rfl rfl pd__28C_29Z rfl rfl (by decide) (Nat.le_of_ble_eq_true rfl) (by decide) (by decide) rfl (fun T18 w18 L18 X18 hQ18 => ?_)
  obtain ⟨rfl, NL18, e18⟩ := hQ18
  have N18 := Fr.app N0 NL18
  show W.Go p e below _ (T18.setTop (mkF m 10 #[.val (.int p0)] [(.int (1 : Int32))]))
  refine W.ifF (q := 13) X18 C d1_10 rfl (by decide : W.cF .eq (1 : Int32) 0) ?_
  refine W.newO (q := 16) X18 C (W.ww hw 19 rfl) (W.ww hw 5 rfl) (W.ww hw 4 rfl) e18 d1_13 (by decide) (by decide) rfl (fun T19 h19 b19 X19 e19 g19 E19 A19 D19 => ?_)
  have ge_b19 : n0 ≤ b19 := by rw [g19]; exact Z0
  have sz_b19 : h0.size ≤ b19 := by rw [g19]; exact K0.1
  have n0_19 : n0 ≤ h19.size := Nat.le_trans Z0 E19.1
  have SC0_21 := SC0.ext E19
  have K19 := K0.ext E19
  have F_value_22 : Fld Z h19 b19 "java/lang/String" "value" "[B" .null := D19 (Or.inr (W.ww hw 7 rfl)) (ty := (.array .byte)) (by decide)
  have F_coder_23 : Fld Z h19 b19 "java/lang/String" "coder" "B" (.int (0 : Int32)) := D19 (Or.inr (W.ww hw 8 rfl)) (ty := .byte) (by decide)
  refine W.dup (q := 17) X19 C d1_16 rfl rfl ?_
  refine W.iloadN (q := 18) X19 C d1_17 rfl rfl ?_
  refine W.callS (q := 21) X19 C (W.ww hw 20 rfl) (W.ww hw 21 rfl) (W.ww hw 17 rfl) (W.ww hw 22 rfl) (by decide) (rm3 l Z a0 hw [] p0 h19 n0 n0_19) e19 d1_18 [(.int p0)] [(.ref b19), (.ref b19)] rfl rfl pd__28C_29_5bB rfl rfl (by decide) (Nat.le_of_ble_eq_true rfl) (by decide) (by decide) rfl (fun T24 w24 L24 X24 hQ24 => ?_)
  obtain ⟨b24, rfl, NL24, K24⟩ := hQ24
  have N24 := Fr.app N18 NL24
  have A19_27 := A19.keep K24
  have F_value_28 := F_value_22.keep K24 nin0
  have F_coder_29 := F_coder_23.keep K24 nin0
  have n0_24 : n0 ≤ T24.heap.size := Nat.le_trans n0_19 K24.1
  have KK24 := K19.trans K24 all0
  show W.Go p e below _ (T24.setTop (mkF m 21 #[.val (.int p0)] [(.ref b24), (.ref b19), (.ref b19)]))
  refine W.iconst (q := 22) (v := 0) X24 C d1_21 rfl rfl ?_
  refine W.callI (q := 25) X24 C rfl (W.ww hw 23 rfl) (W.ww hw 24 rfl) (W.ww hw 4 rfl) (W.ww hw 26 rfl) (by decide) (rm4 l Z a0 hw [] b19 b24 T24.heap n0 n0_24 ge_b19 A19_27 F_value_28 F_coder_29) rfl d1_22 (a := b19) [(.ref b24), (.int (0 : Int32))] [(.ref b19)] rfl rfl pd__28_5bBB_29V rfl rfl (by decide) (Nat.le_of_ble_eq_true rfl) (by decide) (by decide) rfl (fun T30 w30 L30 X30 hQ30 => ?_)
  obtain ⟨rfl, NL30, K30⟩ := hQ30
  have N30 := Fr.app N24 NL30
  have A19_32 := A19_27.keep K30
  have n0_30 : n0 ≤ T30.heap.size := Nat.le_trans n0_24 K30.1
  have KK30 := KK24.trans K30 (allS (Or.inr sz_b19) all0)
  show W.Go p e below _ (T30.setTop (mkF m 25 #[.val (.int p0)] [(.ref b19)]))
  exact W.retA X30 C rfl rfl rfl d1_25 (by decide) (by decide) ⟨_, rfl, N30, KK30⟩
theorem d10_0 : decode jdk_22_method_1_code 0 = .ok (.aload_n 0, 1) := by decide +kernel
theorem d10_1 : decode jdk_22_method_1_code 1 = .ok (.invokespecial 1, 3) := by decide +kernel
theorem d10_4 : decode jdk_22_method_1_code 4 = .ok (.return_, 1) := by decide +kernel
theorem pn_java_util_AbstractCollection : plainName "java/util/AbstractCollection" = true := by first | (simp [plainName, overriddenIn]; done) | decide +kernel
def Q10 (Z : State) (p0 : Addr) (h0 : Heap) (n0 : Nat) (v : Option Value) (h : Heap) (L : List Loc) : Prop := v = none ∧ Fr n0 L ∧ h = h0
set_option maxRecDepth 65536 in
set_option maxHeartbeats 40000000 in
theorem rm10 (l : Launch) (Z : State) (a0 : Array Value) (hw : ∀ d ∈ tables_1, d.before a0 Z = true) (ws : List Jvm.Cond) (p0 : Addr) (h0 : Heap) (n0 : Nat) :
    MetFree l (⟨"java/util/AbstractCollection", "<init>", "()V"⟩ : MethodName) (head1 (Jvm.Cond.code (⟨"java/util/AbstractCollection", "<init>", "()V"⟩ : MethodName) jdk_22_method_1_code 1 none :: ws) ({ frames := 1, cells := 0, slots := 0, locals := 12 } : Room)) (fun a U => a = #[(.ref p0)] ∧ Z.Warmed39 U.vm ∧ U.heap = h0) (fun _ _ _ _ _ => True) (fun _ U o U' => ∃ v L, o = .returned v ∧ Q10 Z p0 h0 n0 v U'.heap L ∧ FrameEnd U o U' L ({ frames := 1, cells := 0, slots := 0, locals := 12 } : Room).cells ({ frames := 1, cells := 0, slots := 0, locals := 12 } : Room).slots) := by
  refine W.bodyOf (y := (⟨"java/util/AbstractCollection", "<init>", "()V"⟩ : MethodName)) (as := #[(.ref p0)]) (maxL := 1) (Q := Q10 Z p0 h0 n0) (Ls := #[.val (.ref p0)]) (plainFor_of_name pn_java_util_AbstractCollection) (fun m => by first | exact W.entry_of rfl | rfl | (simp [entryFrame, mkF, argsToLocals, Value.category]; done)) ?_
  intro p e s m below meth c T0 C X0 e0
  have N0 := Fr.nil n0
  refine W.aloadN (q := 1) X0 C d10_0 rfl rfl rfl ?_
  refine W.initObj (q := 4) X0 C (W.ww hw 68 rfl) (W.ww hw 28 rfl) (W.ww hw 29 rfl) e0 d10_1 rfl (by decide) (Nat.le_of_ble_eq_true rfl) rfl (fun T33 X33 e33 => ?_)
  exact W.retV X33 C e33 d10_4 (by decide) (by decide) ⟨rfl, N0, rfl⟩
theorem d9_0 : decode jdk_39_method_1_code 0 = .ok (.aload_n 0, 1) := by decide +kernel
theorem d9_1 : decode jdk_39_method_1_code 1 = .ok (.invokespecial 1, 3) := by decide +kernel
theorem pd__28_29V : parseMethodDescriptor "()V" = some ⟨[], none⟩ := by decide +kernel
theorem d9_4 : decode jdk_39_method_1_code 4 = .ok (.aload_n 0, 1) := by decide +kernel
theorem d9_5 : decode jdk_39_method_1_code 5 = .ok (.iconst 0, 1) := by decide +kernel
theorem d9_6 : decode jdk_39_method_1_code 6 = .ok (.putfield 7, 3) := by decide +kernel
theorem d9_9 : decode jdk_39_method_1_code 9 = .ok (.return_, 1) := by decide +kernel
theorem pn_java_util_AbstractList : plainName "java/util/AbstractList" = true := by first | (simp [plainName, overriddenIn]; done) | decide +kernel
def Q9 (Z : State) (p0 : Addr) (h0 : Heap) (n0 : Nat) (v : Option Value) (h : Heap) (L : List Loc) : Prop := v = none ∧ Fr n0 L ∧ Keep h0 h [p0] ∧ Fld Z h p0 "java/util/ArrayList" "elementData" "[Ljava/lang/Object;" .null
set_option maxRecDepth 65536 in
set_option maxHeartbeats 40000000 in
theorem rm9 (l : Launch) (Z : State) (a0 : Array Value) (hw : ∀ d ∈ tables_1, d.before a0 Z = true) (ws : List Jvm.Cond) (p0 : Addr) (h0 : Heap) (n0 : Nat) (Z0 : n0 ≤ h0.size) (hge : n0 ≤ p0) (E0 : Exa Z h0 p0 "java/util/ArrayList") (F0a : Fld Z h0 p0 "java/util/AbstractList" "modCount" "I" (.int (0 : Int32))) (F0b : Fld Z h0 p0 "java/util/ArrayList" "elementData" "[Ljava/lang/Object;" .null) :
    MetFree l (⟨"java/util/AbstractList", "<init>", "()V"⟩ : MethodName) (head1 (Jvm.Cond.code (⟨"java/util/AbstractList", "<init>", "()V"⟩ : MethodName) jdk_39_method_1_code 1 none :: ws) ({ frames := 2, cells := 0, slots := 0, locals := 24 } : Room)) (fun a U => a = #[(.ref p0)] ∧ Z.Warmed39 U.vm ∧ U.heap = h0) (fun _ _ _ _ _ => True) (fun _ U o U' => ∃ v L, o = .returned v ∧ Q9 Z p0 h0 n0 v U'.heap L ∧ FrameEnd U o U' L ({ frames := 2, cells := 0, slots := 0, locals := 24 } : Room).cells ({ frames := 2, cells := 0, slots := 0, locals := 24 } : Room).slots) := by
  refine W.bodyOf (y := (⟨"java/util/AbstractList", "<init>", "()V"⟩ : MethodName)) (as := #[(.ref p0)]) (maxL := 1) (Q := Q9 Z p0 h0 n0) (Ls := #[.val (.ref p0)]) (plainFor_of_name pn_java_util_AbstractList) (fun m => by first | exact W.entry_of rfl | rfl | (simp [entryFrame, mkF, argsToLocals, Value.category]; done)) ?_
  intro p e s m below meth c T0 C X0 e0
  have N0 := Fr.nil n0
  have K0 := Keep.refl h0 [p0]
  refine W.aloadN (q := 1) X0 C d9_0 rfl rfl rfl ?_
  refine W.callI (q := 4) X0 C rfl (W.ww hw 62 rfl) (W.ww hw 63 rfl) (W.ww hw 66 rfl) (W.ww hw 67 rfl) (by decide) (rm10 l Z a0 hw [] p0 h0 n0) e0 d9_1 (a := p0) [] [] rfl rfl pd__28_29V rfl rfl (by decide) (Nat.le_of_ble_eq_true rfl) (by decide) (by decide) rfl (fun T34 w34 L34 X34 hQ34 => ?_)
  obtain ⟨rfl, NL34, e34⟩ := hQ34
  have N34 := Fr.app N0 NL34
  show W.Go p e below _ (T34.setTop (mkF m 4 #[.val (.ref p0)] []))
  refine W.aloadN (q := 5) X34 C d9_4 rfl rfl rfl ?_
  refine W.iconst (q := 6) (v := 0) X34 C d9_5 rfl rfl ?_
  refine W.putF (host := "") (q := 9) X34 C (Or.inl (W.ww hw 69 rfl)) Via.refl e34 F0a E0 (Or.inl (W.ww hw 70 rfl)) (W.ww hw 51 rfl) (ty := .int) (by decide) rfl rfl d9_6 rfl (fun T35 h35 X35 e35 W35 => ?_)
  have Fw35 := F0a.same W35
  have E0_37 := E0.wr W35
  have F0b_39 := F0b.other W35 (Or.inr (slot_ne (Or.inl (W.ww hw 73 rfl)) (Or.inl (W.ww hw 70 rfl)) (by decide) (t := (.array (.object "java/lang/Object"))) (t' := .int) (by decide) (by decide)))
  have N35 := Fr.snoc X35 N34 hge
  have K35 := K0.wr W35 (Or.inl (by simp))
  have n0_35 : n0 ≤ h35.size := by rw [W35.size]; exact Z0
  exact W.retV X35 C e35 d9_9 (by decide) (by decide) ⟨rfl, N35, K35, F0b_39⟩
theorem d8_0 : decode jdk_38_method_2_code 0 = .ok (.aload_n 0, 1) := by decide +kernel
theorem d8_1 : decode jdk_38_method_2_code 1 = .ok (.invokespecial 1, 3) := by decide +kernel
theorem d8_4 : decode jdk_38_method_2_code 4 = .ok (.aload_n 0, 1) := by decide +kernel
theorem d8_5 : decode jdk_38_method_2_code 5 = .ok (.getstatic 39, 3) := by decide +kernel
theorem d8_8 : decode jdk_38_method_2_code 8 = .ok (.putfield 9, 3) := by decide +kernel
theorem d8_11 : decode jdk_38_method_2_code 11 = .ok (.return_, 1) := by decide +kernel
theorem pn_java_util_ArrayList : plainName "java/util/ArrayList" = true := by first | (simp [plainName, overriddenIn]; done) | decide +kernel
def Q8 (Z : State) (p0 : Addr) (dv : Value) (h0 : Heap) (n0 : Nat) (v : Option Value) (h : Heap) (L : List Loc) : Prop := v = none ∧ Fr n0 L ∧ Keep h0 h [p0]
set_option maxRecDepth 65536 in
set_option maxHeartbeats 40000000 in
theorem rm8 (l : Launch) (Z : State) (a0 : Array Value) (hw : ∀ d ∈ tables_1, d.before a0 Z = true) (ws : List Jvm.Cond) (p0 : Addr) (dv : Value) (h0 : Heap) (n0 : Nat) (Z0 : n0 ≤ h0.size) (hge : n0 ≤ p0) (E0 : Exa Z h0 p0 "java/util/ArrayList") (F0a : Fld Z h0 p0 "java/util/AbstractList" "modCount" "I" (.int (0 : Int32))) (F0b : Fld Z h0 p0 "java/util/ArrayList" "elementData" "[Ljava/lang/Object;" .null) (O0 : Old Z n0 h0) (SD : Sta Z Z.heap "java/util/ArrayList" "DEFAULTCAPACITY_EMPTY_ELEMENTDATA" "[Ljava/lang/Object;" dv) (hdv : dv.isRef = true) :
    MetFree l (⟨"java/util/ArrayList", "<init>", "()V"⟩ : MethodName) (head1 (Jvm.Cond.code (⟨"java/util/ArrayList", "<init>", "()V"⟩ : MethodName) jdk_38_method_2_code 1 none :: ws) ({ frames := 3, cells := 0, slots := 0, locals := 40 } : Room)) (fun a U => a = #[(.ref p0)] ∧ Z.Warmed39 U.vm ∧ U.heap = h0) (fun _ _ _ _ _ => True) (fun _ U o U' => ∃ v L, o = .returned v ∧ Q8 Z p0 dv h0 n0 v U'.heap L ∧ FrameEnd U o U' L ({ frames := 3, cells := 0, slots := 0, locals := 40 } : Room).cells ({ frames := 3, cells := 0, slots := 0, locals := 40 } : Room).slots) := by
  refine W.bodyOf (y := (⟨"java/util/ArrayList", "<init>", "()V"⟩ : MethodName)) (as := #[(.ref p0)]) (maxL := 1) (Q := Q8 Z p0 dv h0 n0) (Ls := #[.val (.ref p0)]) (plainFor_of_name pn_java_util_ArrayList) (fun m => by first | exact W.entry_of rfl | rfl | (simp [entryFrame, mkF, argsToLocals, Value.category]; done)) ?_
  intro p e s m below meth c T0 C X0 e0
  have N0 := Fr.nil n0
  have K0 := Keep.refl h0 [p0]
  have SD0 := SD.ext O0.2
  refine W.aloadN (q := 1) X0 C d8_0 rfl rfl rfl ?_
  refine W.callI (q := 4) X0 C rfl (W.ww hw 56 rfl) (W.ww hw 57 rfl) (W.ww hw 60 rfl) (W.ww hw 61 rfl) (by decide) (rm9 l Z a0 hw [] p0 h0 n0 Z0 hge E0 F0a F0b) e0 d8_1 (a := p0) [] [] rfl rfl pd__28_29V rfl rfl (by decide) (Nat.le_of_ble_eq_true rfl) (by decide) (by decide) rfl (fun T40 w40 L40 X40 hQ40 => ?_)
  obtain ⟨rfl, NL40, K40, G40a⟩ := hQ40
  have N40 := Fr.app N0 NL40
  have E0_42 := E0.keep K40
  have O0_44 := O0.keep K40 (allS hge all0)
  have n0_40 : n0 ≤ T40.heap.size := Nat.le_trans Z0 K40.1
  have KK40 := K0.trans K40 (allS (Or.inl (List.mem_singleton.mpr rfl)) all0)
  show W.Go p e below _ (T40.setTop (mkF m 4 #[.val (.ref p0)] []))
  refine W.aloadN (q := 5) X40 C d8_4 rfl rfl rfl ?_
  have SDx45 := SD.ext O0_44.2
  refine W.getS (q := 8) X40 C (W.ww hw 71 rfl) Via.refl rfl SDx45 d8_5 rfl (fun T46 X46 e46 => ?_)
  refine W.putF (host := "") (q := 11) X46 C (Or.inl (W.ww hw 72 rfl)) Via.refl e46 G40a E0_42 (Or.inl (W.ww hw 73 rfl)) (W.ww hw 51 rfl) (ty := (.array (.object "java/lang/Object"))) (by decide) (W.narRef hdv) (W.fitsRef hdv rfl) d8_8 rfl (fun T47 h47 X47 e47 W47 => ?_)
  have Fw47 := G40a.same W47
  have E0_49 := E0_42.wr W47
  have O0_50 := O0_44.wr W47 hge
  have SDx45_52 := SDx45.wr W47
  have N47 := Fr.snoc X47 N40 hge
  have K47 := KK40.wr W47 (Or.inl (by simp))
  have n0_47 : n0 ≤ h47.size := by rw [W47.size]; exact n0_40
  exact W.retV X47 C e47 d8_11 (by decide) (by decide) ⟨rfl, N47, K47⟩
theorem d7_0 : decode prog_72_method_1_code 0 = .ok (.aload_n 0, 1) := by decide +kernel
theorem d7_1 : decode prog_72_method_1_code 1 = .ok (.invokespecial 1, 3) := by decide +kernel
theorem d7_4 : decode prog_72_method_1_code 4 = .ok (.aload_n 0, 1) := by decide +kernel
theorem d7_5 : decode prog_72_method_1_code 5 = .ok (.aload_n 1, 1) := by decide +kernel
theorem d7_6 : decode prog_72_method_1_code 6 = .ok (.putfield 7, 3) := by decide +kernel
theorem d7_9 : decode prog_72_method_1_code 9 = .ok (.aload_n 0, 1) := by decide +kernel
theorem d7_10 : decode prog_72_method_1_code 10 = .ok (.aload_n 2, 1) := by decide +kernel
theorem d7_11 : decode prog_72_method_1_code 11 = .ok (.putfield 13, 3) := by decide +kernel
theorem d7_14 : decode prog_72_method_1_code 14 = .ok (.return_, 1) := by decide +kernel
theorem pn_com_example_fedlint_fedlint_SchemaModel_Type : plainName "com/example/fedlint/fedlint/SchemaModel$Type" = true := by first | (simp [plainName, overriddenIn]; done) | decide +kernel
def Q7 (Z : State) (p0 p1 p2 : Addr) (h0 : Heap) (n0 : Nat) (v : Option Value) (h : Heap) (L : List Loc) : Prop := v = none ∧ Fr n0 L ∧ Keep h0 h [p0] ∧ Fld Z h p0 "com/example/fedlint/fedlint/SchemaModel$Type" "base" "Lcom/example/fedlint/fedlint/SchemaModel$Type;" .null ∧ Fld Z h p0 "com/example/fedlint/fedlint/SchemaModel$ComplexType" "content" "Lcom/example/fedlint/fedlint/SchemaModel$ComplexType$Content;" .null ∧ Fld Z h p0 "com/example/fedlint/fedlint/SchemaModel$ComplexType" "attributeUses" "Ljava/util/List;" .null ∧ Fld Z h p0 "com/example/fedlint/fedlint/SchemaModel$ComplexType" "requiredUses" "I" (.int (0 : Int32))
set_option maxRecDepth 65536 in
set_option maxHeartbeats 40000000 in
theorem rm7 (l : Launch) (Z : State) (a0 : Array Value) (hw : ∀ d ∈ tables_1, d.before a0 Z = true) (ws : List Jvm.Cond) (p0 p1 p2 : Addr) (h0 : Heap) (n0 : Nat) (Z0 : n0 ≤ h0.size) (hge : n0 ≤ p0) (E0 : Exa Z h0 p0 "com/example/fedlint/fedlint/SchemaModel$ComplexType") (F0a : Fld Z h0 p0 "com/example/fedlint/fedlint/SchemaModel$Type" "namespace" "Ljava/lang/String;" .null) (F0b : Fld Z h0 p0 "com/example/fedlint/fedlint/SchemaModel$Type" "name" "Ljava/lang/String;" .null) (F0c : Fld Z h0 p0 "com/example/fedlint/fedlint/SchemaModel$Type" "base" "Lcom/example/fedlint/fedlint/SchemaModel$Type;" .null) (F0d : Fld Z h0 p0 "com/example/fedlint/fedlint/SchemaModel$ComplexType" "content" "Lcom/example/fedlint/fedlint/SchemaModel$ComplexType$Content;" .null) (F0e : Fld Z h0 p0 "com/example/fedlint/fedlint/SchemaModel$ComplexType" "attributeUses" "Ljava/util/List;" .null) (F0f : Fld Z h0 p0 "com/example/fedlint/fedlint/SchemaModel$ComplexType" "requiredUses" "I" (.int (0 : Int32))) :
    MetFree l (⟨"com/example/fedlint/fedlint/SchemaModel$Type", "<init>", "(Ljava/lang/String;Ljava/lang/String;)V"⟩ : MethodName) (head1 (Jvm.Cond.code (⟨"com/example/fedlint/fedlint/SchemaModel$Type", "<init>", "(Ljava/lang/String;Ljava/lang/String;)V"⟩ : MethodName) prog_72_method_1_code 3 none :: ws) ({ frames := 1, cells := 0, slots := 0, locals := 12 } : Room)) (fun a U => a = #[(.ref p0), (.ref p1), (.ref p2)] ∧ Z.Warmed39 U.vm ∧ U.heap = h0) (fun _ _ _ _ _ => True) (fun _ U o U' => ∃ v L, o = .returned v ∧ Q7 Z p0 p1 p2 h0 n0 v U'.heap L ∧ FrameEnd U o U' L ({ frames := 1, cells := 0, slots := 0, locals := 12 } : Room).cells ({ frames := 1, cells := 0, slots := 0, locals := 12 } : Room).slots) := by
  refine W.bodyOf (y := (⟨"com/example/fedlint/fedlint/SchemaModel$Type", "<init>", "(Ljava/lang/String;Ljava/lang/String;)V"⟩ : MethodName)) (as := #[(.ref p0), (.ref p1), (.ref p2)]) (maxL := 3) (Q := Q7 Z p0 p1 p2 h0 n0) (Ls := #[.val (.ref p0), .val (.ref p1), .val (.ref p2)]) (plainFor_of_name pn_com_example_fedlint_fedlint_SchemaModel_Type) (fun m => by first | exact W.entry_of rfl | rfl | (simp [entryFrame, mkF, argsToLocals, Value.category]; done)) ?_
  intro p e s m below meth c T0 C X0 e0
  have N0 := Fr.nil n0
  have K0 := Keep.refl h0 [p0]
  refine W.aloadN (q := 1) X0 C d7_0 rfl rfl rfl ?_
  refine W.initObj (q := 4) X0 C (W.ww hw 40 rfl) (W.ww hw 28 rfl) (W.ww hw 29 rfl) e0 d7_1 rfl (by decide) (Nat.le_of_ble_eq_true rfl) rfl (fun T53 X53 e53 => ?_)
  refine W.aloadN (q := 5) X53 C d7_4 rfl rfl rfl ?_
  refine W.aloadN (q := 6) X53 C d7_5 rfl rfl rfl ?_
  refine W.putF (host := "") (q := 9) X53 C (Or.inl (W.ww hw 41 rfl)) Via.refl e53 F0a E0 (Or.inr ⟨(W.ww hw 42 rfl), rfl, rfl⟩) (W.ww hw 1 rfl) (ty := (.object "java/lang/String")) (by decide) rfl rfl d7_6 rfl (fun T54 h54 X54 e54 W54 => ?_)
  have Fw54 := F0a.same W54
  have E0_56 := E0.wr W54
  have F0b_58 := F0b.other W54 (Or.inr (slot_ne (Or.inr (W.ww hw 44 rfl)) (Or.inr (W.ww hw 42 rfl)) (by decide) (t := (.object "java/lang/String")) (t' := (.object "java/lang/String")) (by decide) (by decide)))
  have F0c_59 := F0c.other W54 (Or.inr (slot_ne (Or.inl (W.ww hw 84 rfl)) (Or.inr (W.ww hw 42 rfl)) (by decide) (t := (.object "com/example/fedlint/fedlint/SchemaModel$Type")) (t' := (.object "java/lang/String")) (by decide) (by decide)))
  have F0d_60 := F0d.other W54 (Or.inr (slot_ne (Or.inl (W.ww hw 49 rfl)) (Or.inr (W.ww hw 42 rfl)) (by decide) (t := (.object "com/example/fedlint/fedlint/SchemaModel$ComplexType$Content")) (t' := (.object "java/lang/String")) (by decide) (by decide)))
  have F0e_61 := F0e.other W54 (Or.inr (slot_ne (Or.inr (W.ww hw 75 rfl)) (Or.inr (W.ww hw 42 rfl)) (by decide) (t := (.object "java/util/List")) (t' := (.object "java/lang/String")) (by decide) (by decide)))
  have F0f_62 := F0f.other W54 (Or.inr (slot_ne (Or.inl (W.ww hw 77 rfl)) (Or.inr (W.ww hw 42 rfl)) (by decide) (t := .int) (t' := (.object "java/lang/String")) (by decide) (by decide)))
  have N54 := Fr.snoc X54 N0 hge
  have K54 := K0.wr W54 (Or.inl (by simp))
  have n0_54 : n0 ≤ h54.size := by rw [W54.size]; exact Z0
  refine W.aloadN (q := 10) X54 C d7_9 rfl rfl rfl ?_
  refine W.aloadN (q := 11) X54 C d7_10 rfl rfl rfl ?_
  refine W.putF (host := "") (q := 14) X54 C (Or.inl (W.ww hw 43 rfl)) Via.refl e54 F0b_58 E0_56 (Or.inr ⟨(W.ww hw 44 rfl), rfl, rfl⟩) (W.ww hw 1 rfl) (ty := (.object "java/lang/String")) (by decide) rfl rfl d7_11 rfl (fun T63 h63 X63 e63 W63 => ?_)
  have Fw63 := F0b_58.same W63
  have E0_65 := E0_56.wr W63
  have Fw54_66 := Fw54.other W63 (Or.inr (slot_ne (Or.inr (W.ww hw 42 rfl)) (Or.inr (W.ww hw 44 rfl)) (by decide) (t := (.object "java/lang/String")) (t' := (.object "java/lang/String")) (by decide) (by decide)))
  have F0c_68 := F0c_59.other W63 (Or.inr (slot_ne (Or.inl (W.ww hw 84 rfl)) (Or.inr (W.ww hw 44 rfl)) (by decide) (t := (.object "com/example/fedlint/fedlint/SchemaModel$Type")) (t' := (.object "java/lang/String")) (by decide) (by decide)))
  have F0d_69 := F0d_60.other W63 (Or.inr (slot_ne (Or.inl (W.ww hw 49 rfl)) (Or.inr (W.ww hw 44 rfl)) (by decide) (t := (.object "com/example/fedlint/fedlint/SchemaModel$ComplexType$Content")) (t' := (.object "java/lang/String")) (by decide) (by decide)))
  have F0e_70 := F0e_61.other W63 (Or.inr (slot_ne (Or.inr (W.ww hw 75 rfl)) (Or.inr (W.ww hw 44 rfl)) (by decide) (t := (.object "java/util/List")) (t' := (.object "java/lang/String")) (by decide) (by decide)))
  have F0f_71 := F0f_62.other W63 (Or.inr (slot_ne (Or.inl (W.ww hw 77 rfl)) (Or.inr (W.ww hw 44 rfl)) (by decide) (t := .int) (t' := (.object "java/lang/String")) (by decide) (by decide)))
  have N63 := Fr.snoc X63 N54 hge
  have K63 := K54.wr W63 (Or.inl (by simp))
  have n0_63 : n0 ≤ h63.size := by rw [W63.size]; exact n0_54
  exact W.retV X63 C e63 d7_14 (by decide) (by decide) ⟨rfl, N63, K63, F0c_68, F0d_69, F0e_70, F0f_71⟩
theorem d6_0 : decode prog_62_method_1_code 0 = .ok (.aload_n 0, 1) := by decide +kernel
theorem d6_1 : decode prog_62_method_1_code 1 = .ok (.aload_n 1, 1) := by decide +kernel
theorem d6_2 : decode prog_62_method_1_code 2 = .ok (.aload_n 2, 1) := by decide +kernel
theorem d6_3 : decode prog_62_method_1_code 3 = .ok (.invokespecial 1, 3) := by decide +kernel
theorem pd__28Ljava_2flang_2fString_3bLjava_2flang_2fString_3b_29V : parseMethodDescriptor "(Ljava/lang/String;Ljava/lang/String;)V" = some ⟨[(.object "java/lang/String"), (.object "java/lang/String")], none⟩ := by decide +kernel
theorem d6_6 : decode prog_62_method_1_code 6 = .ok (.aload_n 0, 1) := by decide +kernel
theorem d6_7 : decode prog_62_method_1_code 7 = .ok (.getstatic 7, 3) := by decide +kernel
theorem d6_10 : decode prog_62_method_1_code 10 = .ok (.putfield 13, 3) := by decide +kernel
theorem d6_13 : decode prog_62_method_1_code 13 = .ok (.aload_n 0, 1) := by decide +kernel
theorem d6_14 : decode prog_62_method_1_code 14 = .ok (.new 18, 3) := by decide +kernel
theorem d6_17 : decode prog_62_method_1_code 17 = .ok (.dup, 1) := by decide +kernel
theorem d6_18 : decode prog_62_method_1_code 18 = .ok (.invokespecial 20, 3) := by decide +kernel
theorem d6_21 : decode prog_62_method_1_code 21 = .ok (.putfield 23, 3) := by decide +kernel
theorem d6_24 : decode prog_62_method_1_code 24 = .ok (.aload_n 0, 1) := by decide +kernel
theorem d6_25 : decode prog_62_method_1_code 25 = .ok (.iconst (-1), 1) := by decide +kernel
theorem d6_26 : decode prog_62_method_1_code 26 = .ok (.putfield 27, 3) := by decide +kernel
theorem d6_29 : decode prog_62_method_1_code 29 = .ok (.return_, 1) := by decide +kernel
theorem pn_com_example_fedlint_fedlint_SchemaModel_ComplexType : plainName "com/example/fedlint/fedlint/SchemaModel$ComplexType" = true := by first | (simp [plainName, overriddenIn]; done) | decide +kernel
def Q6 (Z : State) (p0 p1 p2 ea : Addr) (dv : Value) (h0 : Heap) (n0 : Nat) (v : Option Value) (h : Heap) (L : List Loc) : Prop := v = none ∧ Fr n0 L ∧ Keep h0 h [p0] ∧ Fld Z h p0 "com/example/fedlint/fedlint/SchemaModel$Type" "base" "Lcom/example/fedlint/fedlint/SchemaModel$Type;" .null
set_option maxRecDepth 65536 in
set_option maxHeartbeats 40000000 in
theorem rm6 (l : Launch) (Z : State) (a0 : Array Value) (hw : ∀ d ∈ tables_1, d.before a0 Z = true) (ws : List Jvm.Cond) (p0 p1 p2 ea : Addr) (dv : Value) (h0 : Heap) (n0 : Nat) (Z0 : n0 ≤ h0.size) (hge : n0 ≤ p0) (E0 : Exa Z h0 p0 "com/example/fedlint/fedlint/SchemaModel$ComplexType") (F0a : Fld Z h0 p0 "com/example/fedlint/fedlint/SchemaModel$Type" "namespace" "Ljava/lang/String;" .null) (F0b : Fld Z h0 p0 "com/example/fedlint/fedlint/SchemaModel$Type" "name" "Ljava/lang/String;" .null) (F0c : Fld Z h0 p0 "com/example/fedlint/fedlint/SchemaModel$Type" "base" "Lcom/example/fedlint/fedlint/SchemaModel$Type;" .null) (F0d : Fld Z h0 p0 "com/example/fedlint/fedlint/SchemaModel$ComplexType" "content" "Lcom/example/fedlint/fedlint/SchemaModel$ComplexType$Content;" .null) (F0e : Fld Z h0 p0 "com/example/fedlint/fedlint/SchemaModel$ComplexType" "attributeUses" "Ljava/util/List;" .null) (F0f : Fld Z h0 p0 "com/example/fedlint/fedlint/SchemaModel$ComplexType" "requiredUses" "I" (.int (0 : Int32))) (O0 : Old Z n0 h0) (SE : Sta Z Z.heap "com/example/fedlint/fedlint/SchemaModel$ComplexType$Content" "EMPTY" "Lcom/example/fedlint/fedlint/SchemaModel$ComplexType$Content;" (.ref ea)) (SD : Sta Z Z.heap "java/util/ArrayList" "DEFAULTCAPACITY_EMPTY_ELEMENTDATA" "[Ljava/lang/Object;" dv) (hdv : dv.isRef = true) :
    MetFree l (⟨"com/example/fedlint/fedlint/SchemaModel$ComplexType", "<init>", "(Ljava/lang/String;Ljava/lang/String;)V"⟩ : MethodName) (head1 (Jvm.Cond.code (⟨"com/example/fedlint/fedlint/SchemaModel$ComplexType", "<init>", "(Ljava/lang/String;Ljava/lang/String;)V"⟩ : MethodName) prog_62_method_1_code 3 none :: ws) ({ frames := 4, cells := 1, slots := 3, locals := 60 } : Room)) (fun a U => a = #[(.ref p0), (.ref p1), (.ref p2)] ∧ Z.Warmed39 U.vm ∧ U.heap = h0) (fun _ _ _ _ _ => True) (fun _ U o U' => ∃ v L, o = .returned v ∧ Q6 Z p0 p1 p2 ea dv h0 n0 v U'.heap L ∧ FrameEnd U o U' L ({ frames := 4, cells := 1, slots := 3, locals := 60 } : Room).cells ({ frames := 4, cells := 1, slots := 3, locals := 60 } : Room).slots) := by
  refine W.bodyOf (y := (⟨"com/example/fedlint/fedlint/SchemaModel$ComplexType", "<init>", "(Ljava/lang/String;Ljava/lang/String;)V"⟩ : MethodName)) (as := #[(.ref p0), (.ref p1), (.ref p2)]) (maxL := 3) (Q := Q6 Z p0 p1 p2 ea dv h0 n0) (Ls := #[.val (.ref p0), .val (.ref p1), .val (.ref p2)]) (plainFor_of_name pn_com_example_fedlint_fedlint_SchemaModel_ComplexType) (fun m => by first | exact W.entry_of rfl | rfl | (simp [entryFrame, mkF, argsToLocals, Value.category]; done)) ?_
  intro p e s m below meth c T0 C X0 e0
  have N0 := Fr.nil n0
  have K0 := Keep.refl h0 [p0]
  refine W.aloadN (q := 1) X0 C d6_0 rfl rfl rfl ?_
  refine W.aloadN (q := 2) X0 C d6_1 rfl rfl rfl ?_
  refine W.aloadN (q := 3) X0 C d6_2 rfl rfl rfl ?_
  refine W.callI (q := 6) X0 C rfl (W.ww hw 35 rfl) (W.ww hw 36 rfl) (W.ww hw 38 rfl) (W.ww hw 39 rfl) (by decide) (rm7 l Z a0 hw [] p0 p1 p2 h0 n0 Z0 hge E0 F0a F0b F0c F0d F0e F0f) e0 d6_3 (a := p0) [(.ref p1), (.ref p2)] [] rfl rfl pd__28Ljava_2flang_2fString_3bLjava_2flang_2fString_3b_29V rfl rfl (by decide) (Nat.le_of_ble_eq_true rfl) (by decide) (by decide) rfl (fun T72 w72 L72 X72 hQ72 => ?_)
  obtain ⟨rfl, NL72, K72, G72a, G72b, G72c, G72d⟩ := hQ72
  have N72 := Fr.app N0 NL72
  have E0_74 := E0.keep K72
  have O0_75 := O0.keep K72 (allS hge all0)
  have n0_72 : n0 ≤ T72.heap.size := Nat.le_trans Z0 K72.1
  have KK72 := K0.trans K72 (allS (Or.inl (List.mem_singleton.mpr rfl)) all0)
  show W.Go p e below _ (T72.setTop (mkF m 6 #[.val (.ref p0), .val (.ref p1), .val (.ref p2)] []))
  refine W.aloadN (q := 7) X72 C d6_6 rfl rfl rfl ?_
  have SE7 := SE.ext O0_75.2
  refine W.getS (q := 10) X72 C (W.ww hw 45 rfl) Via.refl rfl SE7 d6_7 rfl (fun T76 X76 e76 => ?_)
  refine W.putF (host := "") (q := 13) X76 C (Or.inl (W.ww hw 48 rfl)) Via.refl e76 G72b E0_74 (Or.inl (W.ww hw 49 rfl)) (W.ww hw 1 rfl) (ty := (.object "com/example/fedlint/fedlint/SchemaModel$ComplexType$Content")) (by decide) rfl rfl d6_10 rfl (fun T77 h77 X77 e77 W77 => ?_)
  have Fw77 := G72b.same W77
  have E0_79 := E0_74.wr W77
  have O0_80 := O0_75.wr W77 hge
  have G72a_81 := G72a.other W77 (Or.inr (slot_ne (Or.inl (W.ww hw 84 rfl)) (Or.inl (W.ww hw 49 rfl)) (by decide) (t := (.object "com/example/fedlint/fedlint/SchemaModel$Type")) (t' := (.object "com/example/fedlint/fedlint/SchemaModel$ComplexType$Content")) (by decide) (by decide)))
  have G72c_83 := G72c.other W77 (Or.inr (slot_ne (Or.inr (W.ww hw 75 rfl)) (Or.inl (W.ww hw 49 rfl)) (by decide) (t := (.object "java/util/List")) (t' := (.object "com/example/fedlint/fedlint/SchemaModel$ComplexType$Content")) (by decide) (by decide)))
  have G72d_84 := G72d.other W77 (Or.inr (slot_ne (Or.inl (W.ww hw 77 rfl)) (Or.inl (W.ww hw 49 rfl)) (by decide) (t := .int) (t' := (.object "com/example/fedlint/fedlint/SchemaModel$ComplexType$Content")) (by decide) (by decide)))
  have N77 := Fr.snoc X77 N72 hge
  have K77 := KK72.wr W77 (Or.inl (by simp))
  have n0_77 : n0 ≤ h77.size := by rw [W77.size]; exact n0_72
  refine W.aloadN (q := 14) X77 C d6_13 rfl rfl rfl ?_
  refine W.newO (q := 17) X77 C (W.ww hw 50 rfl) (W.ww hw 51 rfl) (W.ww hw 52 rfl) e77 d6_14 (by decide) (by decide) rfl (fun T85 h85 b85 X85 e85 g85 E85 A85 D85 => ?_)
  have ne_p0_b85 : p0 ≠ b85 := by rw [g85]; exact Nat.ne_of_lt E0_79.lt
  have ge_b85 : n0 ≤ b85 := by rw [g85]; exact n0_77
  have sz_b85 : h0.size ≤ b85 := by rw [g85]; exact K77.1
  have n0_85 : n0 ≤ h85.size := Nat.le_trans n0_77 E85.1
  have E0_87 := E0_79.ext E85
  have O0_88 := O0_80.ext E85
  have G72a_89 := G72a_81.ext E85
  have Fw77_90 := Fw77.ext E85
  have G72c_91 := G72c_83.ext E85
  have G72d_92 := G72d_84.ext E85
  have K85 := K77.ext E85
  have F_modCount_93 : Fld Z h85 b85 "java/util/AbstractList" "modCount" "I" (.int (0 : Int32)) := D85 (Or.inl (W.ww hw 70 rfl)) (ty := .int) (by decide)
  have F_elementData_94 : Fld Z h85 b85 "java/util/ArrayList" "elementData" "[Ljava/lang/Object;" .null := D85 (Or.inl (W.ww hw 73 rfl)) (ty := (.array (.object "java/lang/Object"))) (by decide)
  refine W.dup (q := 18) X85 C d6_17 rfl rfl ?_
  refine W.callI (q := 21) X85 C rfl (W.ww hw 53 rfl) (W.ww hw 54 rfl) (W.ww hw 52 rfl) (W.ww hw 55 rfl) (by decide) (rm8 l Z a0 hw [] b85 dv h85 n0 n0_85 ge_b85 A85 F_modCount_93 F_elementData_94 O0_88 SD hdv) e85 d6_18 (a := b85) [] [(.ref b85), (.ref p0)] rfl rfl pd__28_29V rfl rfl (by decide) (Nat.le_of_ble_eq_true rfl) (by decide) (by decide) rfl (fun T95 w95 L95 X95 hQ95 => ?_)
  obtain ⟨rfl, NL95, K95⟩ := hQ95
  have N95 := Fr.app N77 NL95
  have E0_97 := E0_87.keep K95
  have O0_98 := O0_88.keep K95 (allS ge_b85 all0)
  have G72a_99 := G72a_89.keep K95 (ninS ne_p0_b85 nin0)
  have Fw77_100 := Fw77_90.keep K95 (ninS ne_p0_b85 nin0)
  have G72c_101 := G72c_91.keep K95 (ninS ne_p0_b85 nin0)
  have G72d_102 := G72d_92.keep K95 (ninS ne_p0_b85 nin0)
  have A85_103 := A85.keep K95
  have n0_95 : n0 ≤ T95.heap.size := Nat.le_trans n0_85 K95.1
  have KK95 := K85.trans K95 (allS (Or.inr sz_b85) all0)
  show W.Go p e below _ (T95.setTop (mkF m 21 #[.val (.ref p0), .val (.ref p1), .val (.ref p2)] [(.ref b85), (.ref p0)]))
  refine W.putF (host := "") (q := 24) X95 C (Or.inl (W.ww hw 74 rfl)) Via.refl rfl G72c_101 E0_97 (Or.inr ⟨(W.ww hw 75 rfl), rfl, rfl⟩) (W.ww hw 1 rfl) (ty := (.object "java/util/List")) (by decide) rfl rfl d6_21 rfl (fun T104 h104 X104 e104 W104 => ?_)
  have Fw104 := G72c_101.same W104
  have E0_106 := E0_97.wr W104
  have O0_107 := O0_98.wr W104 hge
  have G72a_108 := G72a_99.other W104 (Or.inr (slot_ne (Or.inl (W.ww hw 84 rfl)) (Or.inr (W.ww hw 75 rfl)) (by decide) (t := (.object "com/example/fedlint/fedlint/SchemaModel$Type")) (t' := (.object "java/util/List")) (by decide) (by decide)))
  have Fw77_109 := Fw77_100.other W104 (Or.inr (slot_ne (Or.inl (W.ww hw 49 rfl)) (Or.inr (W.ww hw 75 rfl)) (by decide) (t := (.object "com/example/fedlint/fedlint/SchemaModel$ComplexType$Content")) (t' := (.object "java/util/List")) (by decide) (by decide)))
  have G72d_111 := G72d_102.other W104 (Or.inr (slot_ne (Or.inl (W.ww hw 77 rfl)) (Or.inr (W.ww hw 75 rfl)) (by decide) (t := .int) (t' := (.object "java/util/List")) (by decide) (by decide)))
  have A85_112 := A85_103.wr W104
  have N104 := Fr.snoc X104 N95 hge
  have K104 := KK95.wr W104 (Or.inl (by simp))
  have n0_104 : n0 ≤ h104.size := by rw [W104.size]; exact n0_95
  refine W.aloadN (q := 25) X104 C d6_24 rfl rfl rfl ?_
  refine W.iconst (q := 26) (v := (-1)) X104 C d6_25 rfl rfl ?_
  refine W.putF (host := "") (q := 29) X104 C (Or.inl (W.ww hw 76 rfl)) Via.refl e104 G72d_111 E0_106 (Or.inl (W.ww hw 77 rfl)) (W.ww hw 1 rfl) (ty := .int) (by decide) rfl rfl d6_26 rfl (fun T113 h113 X113 e113 W113 => ?_)
  have Fw113 := G72d_111.same W113
  have E0_115 := E0_106.wr W113
  have O0_116 := O0_107.wr W113 hge
  have G72a_117 := G72a_108.other W113 (Or.inr (slot_ne (Or.inl (W.ww hw 84 rfl)) (Or.inl (W.ww hw 77 rfl)) (by decide) (t := (.object "com/example/fedlint/fedlint/SchemaModel$Type")) (t' := .int) (by decide) (by decide)))
  have Fw77_118 := Fw77_109.other W113 (Or.inr (slot_ne (Or.inl (W.ww hw 49 rfl)) (Or.inl (W.ww hw 77 rfl)) (by decide) (t := (.object "com/example/fedlint/fedlint/SchemaModel$ComplexType$Content")) (t' := .int) (by decide) (by decide)))
  have Fw104_119 := Fw104.other W113 (Or.inr (slot_ne (Or.inr (W.ww hw 75 rfl)) (Or.inl (W.ww hw 77 rfl)) (by decide) (t := (.object "java/util/List")) (t' := .int) (by decide) (by decide)))
  have A85_121 := A85_112.wr W113
  have N113 := Fr.snoc X113 N104 hge
  have K113 := K104.wr W113 (Or.inl (by simp))
  have n0_113 : n0 ≤ h113.size := by rw [W113.size]; exact n0_104
  exact W.retV X113 C e113 d6_29 (by decide) (by decide) ⟨rfl, N113, K113, G72a_117⟩
theorem d11_0 : decode method_2_code 0 = .ok (.iload_n 0, 1) := by decide +kernel
theorem d11_1 : decode method_2_code 1 = .ok (.ifCond .ne 5, 3) := by decide +kernel
theorem d11_6 : decode method_2_code 6 = .ok (.iload_n 0, 1) := by decide +kernel
theorem d11_7 : decode method_2_code 7 = .ok (.iconst 1, 1) := by decide +kernel
theorem d11_8 : decode method_2_code 8 = .ok (.if_icmp .ne 5, 3) := by decide +kernel
theorem d11_13 : decode method_2_code 13 = .ok (.iload_n 0, 1) := by decide +kernel
theorem d11_14 : decode method_2_code 14 = .ok (.iconst 2, 1) := by decide +kernel
theorem d11_15 : decode method_2_code 15 = .ok (.if_icmp .ne 5, 3) := by decide +kernel
theorem d11_20 : decode method_2_code 20 = .ok (.iload_n 0, 1) := by decide +kernel
theorem d11_21 : decode method_2_code 21 = .ok (.iconst 3, 1) := by decide +kernel
theorem d11_22 : decode method_2_code 22 = .ok (.if_icmp .ne 6, 3) := by decide +kernel
theorem d11_28 : decode method_2_code 28 = .ok (.aconst_null, 1) := by decide +kernel
theorem d11_29 : decode method_2_code 29 = .ok (.areturn, 1) := by decide +kernel
theorem d11_25 : decode method_2_code 25 = .ok (.aload 4, 2) := by decide +kernel
theorem d11_27 : decode method_2_code 27 = .ok (.areturn, 1) := by decide +kernel
theorem d11_18 : decode method_2_code 18 = .ok (.aload_n 3, 1) := by decide +kernel
theorem d11_19 : decode method_2_code 19 = .ok (.areturn, 1) := by decide +kernel
theorem d11_11 : decode method_2_code 11 = .ok (.aload_n 2, 1) := by decide +kernel
theorem d11_12 : decode method_2_code 12 = .ok (.areturn, 1) := by decide +kernel
theorem d11_4 : decode method_2_code 4 = .ok (.aload_n 1, 1) := by decide +kernel
theorem d11_5 : decode method_2_code 5 = .ok (.areturn, 1) := by decide +kernel
theorem pn_com_example_fedlint_fedlint_TypeDerivesFromPinLaw : plainName "com/example/fedlint/fedlint/TypeDerivesFromPinLaw" = true := by first | (simp [plainName, overriddenIn]; done) | decide +kernel
def Q11 (Z : State) (p0 : Int32) (p1 p2 p3 p4 : Addr) (h0 : Heap) (n0 : Nat) (v : Option Value) (h : Heap) (L : List Loc) : Prop := v = some (own_node p0 p1 p2 p3 p4) ∧ Fr n0 L ∧ h = h0
set_option maxRecDepth 65536 in
set_option maxHeartbeats 40000000 in
theorem rm11 (l : Launch) (Z : State) (a0 : Array Value) (hw : ∀ d ∈ tables_1, d.before a0 Z = true) (ws : List Jvm.Cond) (p0 : Int32) (p1 p2 p3 p4 : Addr) (h0 : Heap) (n0 : Nat) :
    MetFree l (⟨"com/example/fedlint/fedlint/TypeDerivesFromPinLaw", "node", "(ILcom/example/fedlint/fedlint/SchemaModel$ComplexType;Lcom/example/fedlint/fedlint/SchemaModel$ComplexType;Lcom/example/fedlint/fedlint/SchemaModel$ComplexType;Lcom/example/fedlint/fedlint/SchemaModel$ComplexType;)Lcom/example/fedlint/fedlint/SchemaModel$ComplexType;"⟩ : MethodName) (head1 (Jvm.Cond.code (⟨"com/example/fedlint/fedlint/TypeDerivesFromPinLaw", "node", "(ILcom/example/fedlint/fedlint/SchemaModel$ComplexType;Lcom/example/fedlint/fedlint/SchemaModel$ComplexType;Lcom/example/fedlint/fedlint/SchemaModel$ComplexType;Lcom/example/fedlint/fedlint/SchemaModel$ComplexType;)Lcom/example/fedlint/fedlint/SchemaModel$ComplexType;"⟩ : MethodName) method_2_code 5 (some (.object "com/example/fedlint/fedlint/SchemaModel$ComplexType")) :: ws) ({ frames := 0, cells := 0, slots := 0, locals := 0 } : Room)) (fun a U => a = #[(.int p0), (.ref p1), (.ref p2), (.ref p3), (.ref p4)] ∧ Z.Warmed39 U.vm ∧ U.heap = h0) (fun _ _ _ _ _ => True) (fun _ U o U' => ∃ v L, o = .returned v ∧ Q11 Z p0 p1 p2 p3 p4 h0 n0 v U'.heap L ∧ FrameEnd U o U' L ({ frames := 0, cells := 0, slots := 0, locals := 0 } : Room).cells ({ frames := 0, cells := 0, slots := 0, locals := 0 } : Room).slots) := by
  refine W.bodyOf (y := (⟨"com/example/fedlint/fedlint/TypeDerivesFromPinLaw", "node", "(ILcom/example/fedlint/fedlint/SchemaModel$ComplexType;Lcom/example/fedlint/fedlint/SchemaModel$ComplexType;Lcom/example/fedlint/fedlint/SchemaModel$ComplexType;Lcom/example/fedlint/fedlint/SchemaModel$ComplexType;)Lcom/example/fedlint/fedlint/SchemaModel$ComplexType;"⟩ : MethodName)) (as := #[(.int p0), (.ref p1), (.ref p2), (.ref p3), (.ref p4)]) (maxL := 5) (Q := Q11 Z p0 p1 p2 p3 p4 h0 n0) (Ls := #[.val (.int p0), .val (.ref p1), .val (.ref p2), .val (.ref p3), .val (.ref p4)]) (plainFor_of_name pn_com_example_fedlint_fedlint_TypeDerivesFromPinLaw) (fun m => by first | exact W.entry_of rfl | rfl | (simp [entryFrame, mkF, argsToLocals, Value.category]; done)) ?_
  intro p e s m below meth c T0 C X0 e0
  have N0 := Fr.nil n0
  refine W.iloadN (q := 1) X0 C d11_0 rfl rfl ?_
  refine W.if_ (q := 6) (q' := 4) X0 C d11_1 (by decide) (by decide) rfl (fun hc122 => ?_) (fun hc122 => ?_)
  · replace hc122 : p0 ≠ 0 := hc122
    refine W.iloadN (q := 7) X0 C d11_6 rfl rfl ?_
    refine W.iconst (q := 8) (v := 1) X0 C d11_7 rfl rfl ?_
    refine W.icmp (q := 13) (q' := 11) X0 C d11_8 (by decide) (by decide) rfl (fun hc123 => ?_) (fun hc123 => ?_)
    · replace hc123 : p0 ≠ (1 : Int32) := hc123
      refine W.iloadN (q := 14) X0 C d11_13 rfl rfl ?_
      refine W.iconst (q := 15) (v := 2) X0 C d11_14 rfl rfl ?_
      refine W.icmp (q := 20) (q' := 18) X0 C d11_15 (by decide) (by decide) rfl (fun hc124 => ?_) (fun hc124 => ?_)
      · replace hc124 : p0 ≠ (2 : Int32) := hc124
        refine W.iloadN (q := 21) X0 C d11_20 rfl rfl ?_
        refine W.iconst (q := 22) (v := 3) X0 C d11_21 rfl rfl ?_
        refine W.icmp (q := 28) (q' := 25) X0 C d11_22 (by decide) (by decide) rfl (fun hc125 => ?_) (fun hc125 => ?_)
        · replace hc125 : p0 ≠ (3 : Int32) := hc125
          refine W.aconst (q := 29) X0 C d11_28 rfl ?_
          exact W.retA X0 C rfl e0 rfl d11_29 (by decide) (by decide) ⟨by rw [own_node, if_neg hc122, if_neg hc123, if_neg hc124, if_neg hc125], N0, rfl⟩
        · replace hc125 : p0 = (3 : Int32) := hc125
          refine W.aload (q := 27) X0 C d11_25 rfl rfl rfl ?_
          exact W.retA X0 C rfl e0 rfl d11_27 (by decide) (by decide) ⟨by rw [own_node, if_neg hc122, if_neg hc123, if_neg hc124, if_pos hc125], N0, rfl⟩
      · replace hc124 : p0 = (2 : Int32) := hc124
        refine W.aloadN (q := 19) X0 C d11_18 rfl rfl rfl ?_
        exact W.retA X0 C rfl e0 rfl d11_19 (by decide) (by decide) ⟨by rw [own_node, if_neg hc122, if_neg hc123, if_pos hc124], N0, rfl⟩
    · replace hc123 : p0 = (1 : Int32) := hc123
      refine W.aloadN (q := 12) X0 C d11_11 rfl rfl rfl ?_
      exact W.retA X0 C rfl e0 rfl d11_12 (by decide) (by decide) ⟨by rw [own_node, if_neg hc122, if_pos hc123], N0, rfl⟩
  · replace hc122 : p0 = 0 := hc122
    refine W.aloadN (q := 5) X0 C d11_4 rfl rfl rfl ?_
    exact W.retA X0 C rfl e0 rfl d11_5 (by decide) (by decide) ⟨by rw [own_node, if_pos hc122], N0, rfl⟩
theorem d14_0 : decode method_3_code 0 = .ok (.iload_n 0, 1) := by decide +kernel
theorem d14_1 : decode method_3_code 1 = .ok (.iconst 1, 1) := by decide +kernel
theorem d14_2 : decode method_3_code 2 = .ok (.if_icmp .ne 5, 3) := by decide +kernel
theorem d14_7 : decode method_3_code 7 = .ok (.iload_n 0, 1) := by decide +kernel
theorem d14_8 : decode method_3_code 8 = .ok (.iconst 2, 1) := by decide +kernel
theorem d14_9 : decode method_3_code 9 = .ok (.if_icmp .ne 5, 3) := by decide +kernel
theorem d14_14 : decode method_3_code 14 = .ok (.iload_n 0, 1) := by decide +kernel
theorem d14_15 : decode method_3_code 15 = .ok (.iconst 3, 1) := by decide +kernel
theorem d14_16 : decode method_3_code 16 = .ok (.if_icmp .ne 5, 3) := by decide +kernel
theorem d14_21 : decode method_3_code 21 = .ok (.iconst (-1), 1) := by decide +kernel
theorem d14_22 : decode method_3_code 22 = .ok (.ireturn, 1) := by decide +kernel
theorem d14_19 : decode method_3_code 19 = .ok (.iload_n 3, 1) := by decide +kernel
theorem d14_20 : decode method_3_code 20 = .ok (.ireturn, 1) := by decide +kernel
theorem d14_12 : decode method_3_code 12 = .ok (.iload_n 2, 1) := by decide +kernel
theorem d14_13 : decode method_3_code 13 = .ok (.ireturn, 1) := by decide +kernel
theorem d14_5 : decode method_3_code 5 = .ok (.iload_n 1, 1) := by decide +kernel
theorem d14_6 : decode method_3_code 6 = .ok (.ireturn, 1) := by decide +kernel
def Q14 (Z : State) (p0 p1 p2 p3 : Int32) (h0 : Heap) (n0 : Nat) (v : Option Value) (h : Heap) (L : List Loc) : Prop := v = some (.int (own_par p0 p1 p2 p3)) ∧ Fr n0 L ∧ h = h0
set_option maxRecDepth 65536 in
set_option maxHeartbeats 40000000 in
theorem rm14 (l : Launch) (Z : State) (a0 : Array Value) (hw : ∀ d ∈ tables_1, d.before a0 Z = true) (ws : List Jvm.Cond) (p0 p1 p2 p3 : Int32) (h0 : Heap) (n0 : Nat) :
    MetFree l (⟨"com/example/fedlint/fedlint/TypeDerivesFromPinLaw", "parent", "(IIII)I"⟩ : MethodName) (head1 (Jvm.Cond.code (⟨"com/example/fedlint/fedlint/TypeDerivesFromPinLaw", "parent", "(IIII)I"⟩ : MethodName) method_3_code 4 (some .int) :: ws) ({ frames := 0, cells := 0, slots := 0, locals := 0 } : Room)) (fun a U => a = #[(.int p0), (.int p1), (.int p2), (.int p3)] ∧ Z.Warmed39 U.vm ∧ U.heap = h0) (fun _ _ _ _ _ => True) (fun _ U o U' => ∃ v L, o = .returned v ∧ Q14 Z p0 p1 p2 p3 h0 n0 v U'.heap L ∧ FrameEnd U o U' L ({ frames := 0, cells := 0, slots := 0, locals := 0 } : Room).cells ({ frames := 0, cells := 0, slots := 0, locals := 0 } : Room).slots) := by
  refine W.bodyOf (y := (⟨"com/example/fedlint/fedlint/TypeDerivesFromPinLaw", "parent", "(IIII)I"⟩ : MethodName)) (as := #[(.int p0), (.int p1), (.int p2), (.int p3)]) (maxL := 4) (Q := Q14 Z p0 p1 p2 p3 h0 n0) (Ls := #[.val (.int p0), .val (.int p1), .val (.int p2), .val (.int p3)]) (plainFor_of_name pn_com_example_fedlint_fedlint_TypeDerivesFromPinLaw) (fun m => by first | exact W.entry_of rfl | rfl | (simp [entryFrame, mkF, argsToLocals, Value.category]; done)) ?_
  intro p e s m below meth c T0 C X0 e0
  have N0 := Fr.nil n0
  refine W.iloadN (q := 1) X0 C d14_0 rfl rfl ?_
  refine W.iconst (q := 2) (v := 1) X0 C d14_1 rfl rfl ?_
  refine W.icmp (q := 7) (q' := 5) X0 C d14_2 (by decide) (by decide) rfl (fun hc126 => ?_) (fun hc126 => ?_)
  · replace hc126 : p0 ≠ (1 : Int32) := hc126
    refine W.iloadN (q := 8) X0 C d14_7 rfl rfl ?_
    refine W.iconst (q := 9) (v := 2) X0 C d14_8 rfl rfl ?_
    refine W.icmp (q := 14) (q' := 12) X0 C d14_9 (by decide) (by decide) rfl (fun hc127 => ?_) (fun hc127 => ?_)
    · replace hc127 : p0 ≠ (2 : Int32) := hc127
      refine W.iloadN (q := 15) X0 C d14_14 rfl rfl ?_
      refine W.iconst (q := 16) (v := 3) X0 C d14_15 rfl rfl ?_
      refine W.icmp (q := 21) (q' := 19) X0 C d14_16 (by decide) (by decide) rfl (fun hc128 => ?_) (fun hc128 => ?_)
      · replace hc128 : p0 ≠ (3 : Int32) := hc128
        refine W.iconst (q := 22) (v := (-1)) X0 C d14_21 rfl rfl ?_
        exact W.retI X0 C e0 d14_22 (by decide) (by decide) ⟨by rw [own_par, if_neg hc126, if_neg hc127, if_neg hc128], N0, rfl⟩
      · replace hc128 : p0 = (3 : Int32) := hc128
        refine W.iloadN (q := 20) X0 C d14_19 rfl rfl ?_
        exact W.retI X0 C e0 d14_20 (by decide) (by decide) ⟨by rw [own_par, if_neg hc126, if_neg hc127, if_pos hc128], N0, rfl⟩
    · replace hc127 : p0 = (2 : Int32) := hc127
      refine W.iloadN (q := 13) X0 C d14_12 rfl rfl ?_
      exact W.retI X0 C e0 d14_13 (by decide) (by decide) ⟨by rw [own_par, if_neg hc126, if_pos hc127], N0, rfl⟩
  · replace hc126 : p0 = (1 : Int32) := hc126
    refine W.iloadN (q := 6) X0 C d14_5 rfl rfl ?_
    exact W.retI X0 C e0 d14_6 (by decide) (by decide) ⟨by rw [own_par, if_pos hc126], N0, rfl⟩
theorem d13_0 : decode method_4_code 0 = .ok (.iload_n 0, 1) := by decide +kernel
theorem d13_1 : decode method_4_code 1 = .ok (.iload_n 2, 1) := by decide +kernel
theorem d13_2 : decode method_4_code 2 = .ok (.iload_n 3, 1) := by decide +kernel
theorem d13_3 : decode method_4_code 3 = .ok (.iload 4, 2) := by decide +kernel
theorem d13_5 : decode method_4_code 5 = .ok (.invokestatic 7, 3) := by decide +kernel
theorem pd__28IIII_29I : parseMethodDescriptor "(IIII)I" = some ⟨[.int, .int, .int, .int], some .int⟩ := by decide +kernel
theorem d13_8 : decode method_4_code 8 = .ok (.istore 5, 2) := by decide +kernel
theorem d13_10 : decode method_4_code 10 = .ok (.iload 5, 2) := by decide +kernel
theorem d13_12 : decode method_4_code 12 = .ok (.iload_n 2, 1) := by decide +kernel
theorem d13_13 : decode method_4_code 13 = .ok (.iload_n 3, 1) := by decide +kernel
theorem d13_14 : decode method_4_code 14 = .ok (.iload 4, 2) := by decide +kernel
theorem d13_16 : decode method_4_code 16 = .ok (.invokestatic 7, 3) := by decide +kernel
theorem d13_19 : decode method_4_code 19 = .ok (.istore 6, 2) := by decide +kernel
theorem d13_21 : decode method_4_code 21 = .ok (.iload 6, 2) := by decide +kernel
theorem d13_23 : decode method_4_code 23 = .ok (.iload_n 2, 1) := by decide +kernel
theorem d13_24 : decode method_4_code 24 = .ok (.iload_n 3, 1) := by decide +kernel
theorem d13_25 : decode method_4_code 25 = .ok (.iload 4, 2) := by decide +kernel
theorem d13_27 : decode method_4_code 27 = .ok (.invokestatic 7, 3) := by decide +kernel
theorem d13_30 : decode method_4_code 30 = .ok (.istore 7, 2) := by decide +kernel
theorem d13_32 : decode method_4_code 32 = .ok (.iload_n 1, 1) := by decide +kernel
theorem d13_33 : decode method_4_code 33 = .ok (.iload_n 0, 1) := by decide +kernel
theorem d13_34 : decode method_4_code 34 = .ok (.if_icmp .eq 21, 3) := by decide +kernel
theorem d13_55 : decode method_4_code 55 = .ok (.iconst 1, 1) := by decide +kernel
theorem d13_56 : decode method_4_code 56 = .ok (.goto 4, 3) := by decide +kernel
theorem d13_60 : decode method_4_code 60 = .ok (.ireturn, 1) := by decide +kernel
theorem d13_37 : decode method_4_code 37 = .ok (.iload_n 1, 1) := by decide +kernel
theorem d13_38 : decode method_4_code 38 = .ok (.iload 5, 2) := by decide +kernel
theorem d13_40 : decode method_4_code 40 = .ok (.if_icmp .eq 15, 3) := by decide +kernel
theorem d13_43 : decode method_4_code 43 = .ok (.iload_n 1, 1) := by decide +kernel
theorem d13_44 : decode method_4_code 44 = .ok (.iload 6, 2) := by decide +kernel
theorem d13_46 : decode method_4_code 46 = .ok (.if_icmp .eq 9, 3) := by decide +kernel
theorem d13_49 : decode method_4_code 49 = .ok (.iload_n 1, 1) := by decide +kernel
theorem d13_50 : decode method_4_code 50 = .ok (.iload 7, 2) := by decide +kernel
theorem d13_52 : decode method_4_code 52 = .ok (.if_icmp .ne 7, 3) := by decide +kernel
theorem d13_59 : decode method_4_code 59 = .ok (.iconst 0, 1) := by decide +kernel
def Q13 (Z : State) (p0 p1 p2 p3 p4 : Int32) (h0 : Heap) (n0 : Nat) (v : Option Value) (h : Heap) (L : List Loc) : Prop := v = some (.int (own_rch p0 p1 p2 p3 p4)) ∧ Fr n0 L ∧ h = h0
set_option maxRecDepth 65536 in
set_option maxHeartbeats 40000000 in
theorem rm13 (l : Launch) (Z : State) (a0 : Array Value) (hw : ∀ d ∈ tables_1, d.before a0 Z = true) (ws : List Jvm.Cond) (p0 p1 p2 p3 p4 : Int32) (h0 : Heap) (n0 : Nat) :
    MetFree l (⟨"com/example/fedlint/fedlint/TypeDerivesFromPinLaw", "reaches", "(IIIII)Z"⟩ : MethodName) (head1 (Jvm.Cond.code (⟨"com/example/fedlint/fedlint/TypeDerivesFromPinLaw", "reaches", "(IIIII)Z"⟩ : MethodName) method_4_code 8 (some .boolean) :: ws) ({ frames := 1, cells := 0, slots := 0, locals := 16 } : Room)) (fun a U => a = #[(.int p0), (.int p1), (.int p2), (.int p3), (.int p4)] ∧ Z.Warmed39 U.vm ∧ U.heap = h0) (fun _ _ _ _ _ => True) (fun _ U o U' => ∃ v L, o = .returned v ∧ Q13 Z p0 p1 p2 p3 p4 h0 n0 v U'.heap L ∧ FrameEnd U o U' L ({ frames := 1, cells := 0, slots := 0, locals := 16 } : Room).cells ({ frames := 1, cells := 0, slots := 0, locals := 16 } : Room).slots) := by
  refine W.bodyOf (y := (⟨"com/example/fedlint/fedlint/TypeDerivesFromPinLaw", "reaches", "(IIIII)Z"⟩ : MethodName)) (as := #[(.int p0), (.int p1), (.int p2), (.int p3), (.int p4)]) (maxL := 8) (Q := Q13 Z p0 p1 p2 p3 p4 h0 n0) (Ls := #[.val (.int p0), .val (.int p1), .val (.int p2), .val (.int p3), .val (.int p4), .unset, .unset, .unset]) (plainFor_of_name pn_com_example_fedlint_fedlint_TypeDerivesFromPinLaw) (fun m => by first | exact W.entry_of rfl | rfl | (simp [entryFrame, mkF, argsToLocals, Value.category]; done)) ?_
  intro p e s m below meth c T0 C X0 e0
  have N0 := Fr.nil n0
  refine W.iloadN (q := 1) X0 C d13_0 rfl rfl ?_
  refine W.iloadN (q := 2) X0 C d13_1 rfl rfl ?_
  refine W.iloadN (q := 3) X0 C d13_2 rfl rfl ?_
  refine W.iload (q := 5) X0 C d13_3 rfl rfl ?_
  refine W.callS (q := 8) X0 C (W.ww hw 94 rfl) (W.ww hw 95 rfl) (W.ww hw 80 rfl) (W.ww hw 96 rfl) (by decide) (rm14 l Z a0 hw [] p0 p2 p3 p4 h0 n0) e0 d13_5 [(.int p0), (.int p2), (.int p3), (.int p4)] [] rfl rfl pd__28IIII_29I rfl rfl (by decide) (Nat.le_of_ble_eq_true rfl) (by decide) (by decide) rfl (fun T129 w129 L129 X129 hQ129 => ?_)
  obtain ⟨rfl, NL129, e129⟩ := hQ129
  have N129 := Fr.app N0 NL129
  show W.Go p e below _ (T129.setTop (mkF m 8 #[.val (.int p0), .val (.int p1), .val (.int p2), .val (.int p3), .val (.int p4), .unset, .unset, .unset] [(.int (own_par p0 p2 p3 p4))]))
  refine W.istore (q := 10) (L' := #[.val (.int p0), .val (.int p1), .val (.int p2), .val (.int p3), .val (.int p4), .val (.int (own_par p0 p2 p3 p4)), .unset, .unset]) X129 C d13_8 rfl rfl ?_
  refine W.iload (q := 12) X129 C d13_10 rfl rfl ?_
  refine W.iloadN (q := 13) X129 C d13_12 rfl rfl ?_
  refine W.iloadN (q := 14) X129 C d13_13 rfl rfl ?_
  refine W.iload (q := 16) X129 C d13_14 rfl rfl ?_
  refine W.callS (q := 19) X129 C (W.ww hw 94 rfl) (W.ww hw 95 rfl) (W.ww hw 80 rfl) (W.ww hw 96 rfl) (by decide) (rm14 l Z a0 hw [] (own_par p0 p2 p3 p4) p2 p3 p4 h0 n0) e129 d13_16 [(.int (own_par p0 p2 p3 p4)), (.int p2), (.int p3), (.int p4)] [] rfl rfl pd__28IIII_29I rfl rfl (by decide) (Nat.le_of_ble_eq_true rfl) (by decide) (by decide) rfl (fun T130 w130 L130 X130 hQ130 => ?_)
  obtain ⟨rfl, NL130, e130⟩ := hQ130
  have N130 := Fr.app N129 NL130
  show W.Go p e below _ (T130.setTop (mkF m 19 #[.val (.int p0), .val (.int p1), .val (.int p2), .val (.int p3), .val (.int p4), .val (.int (own_par p0 p2 p3 p4)), .unset, .unset] [(.int (own_par (own_par p0 p2 p3 p4) p2 p3 p4))]))
  refine W.istore (q := 21) (L' := #[.val (.int p0), .val (.int p1), .val (.int p2), .val (.int p3), .val (.int p4), .val (.int (own_par p0 p2 p3 p4)), .val (.int (own_par (own_par p0 p2 p3 p4) p2 p3 p4)), .unset]) X130 C d13_19 rfl rfl ?_
  refine W.iload (q := 23) X130 C d13_21 rfl rfl ?_
  refine W.iloadN (q := 24) X130 C d13_23 rfl rfl ?_
  refine W.iloadN (q := 25) X130 C d13_24 rfl rfl ?_
  refine W.iload (q := 27) X130 C d13_25 rfl rfl ?_
  refine W.callS (q := 30) X130 C (W.ww hw 94 rfl) (W.ww hw 95 rfl) (W.ww hw 80 rfl) (W.ww hw 96 rfl) (by decide) (rm14 l Z a0 hw [] (own_par (own_par p0 p2 p3 p4) p2 p3 p4) p2 p3 p4 h0 n0) e130 d13_27 [(.int (own_par (own_par p0 p2 p3 p4) p2 p3 p4)), (.int p2), (.int p3), (.int p4)] [] rfl rfl pd__28IIII_29I rfl rfl (by decide) (Nat.le_of_ble_eq_true rfl) (by decide) (by decide) rfl (fun T131 w131 L131 X131 hQ131 => ?_)
  obtain ⟨rfl, NL131, e131⟩ := hQ131
  have N131 := Fr.app N130 NL131
  show W.Go p e below _ (T131.setTop (mkF m 30 #[.val (.int p0), .val (.int p1), .val (.int p2), .val (.int p3), .val (.int p4), .val (.int (own_par p0 p2 p3 p4)), .val (.int (own_par (own_par p0 p2 p3 p4) p2 p3 p4)), .unset] [(.int (own_par (own_par (own_par p0 p2 p3 p4) p2 p3 p4) p2 p3 p4))]))
  refine W.istore (q := 32) (L' := #[.val (.int p0), .val (.int p1), .val (.int p2), .val (.int p3), .val (.int p4), .val (.int (own_par p0 p2 p3 p4)), .val (.int (own_par (own_par p0 p2 p3 p4) p2 p3 p4)), .val (.int (own_par (own_par (own_par p0 p2 p3 p4) p2 p3 p4) p2 p3 p4))]) X131 C d13_30 rfl rfl ?_
  refine W.iloadN (q := 33) X131 C d13_32 rfl rfl ?_
  refine W.iloadN (q := 34) X131 C d13_33 rfl rfl ?_
  refine W.icmp (q := 55) (q' := 37) X131 C d13_34 (by decide) (by decide) rfl (fun hc132 => ?_) (fun hc132 => ?_)
  · replace hc132 : p1 = p0 := hc132
    refine W.iconst (q := 56) (v := 1) X131 C d13_55 rfl rfl ?_
    refine W.goto (q := 60) X131 C d13_56 (by decide) (by decide) ?_
    exact W.retN X131 C (by simp) e131 d13_60 rfl (by decide) (by decide) ⟨by simp [own_rch, hc132], N131, rfl⟩
  · replace hc132 : p1 ≠ p0 := hc132
    refine W.iloadN (q := 38) X131 C d13_37 rfl rfl ?_
    refine W.iload (q := 40) X131 C d13_38 rfl rfl ?_
    refine W.icmp (q := 55) (q' := 43) X131 C d13_40 (by decide) (by decide) rfl (fun hc133 => ?_) (fun hc133 => ?_)
    · replace hc133 : p1 = (own_par p0 p2 p3 p4) := hc133
      refine W.iconst (q := 56) (v := 1) X131 C d13_55 rfl rfl ?_
      refine W.goto (q := 60) X131 C d13_56 (by decide) (by decide) ?_
      exact W.retN X131 C (by simp) e131 d13_60 rfl (by decide) (by decide) ⟨by simp [own_rch, hc132, hc133], N131, rfl⟩
    · replace hc133 : p1 ≠ (own_par p0 p2 p3 p4) := hc133
      refine W.iloadN (q := 44) X131 C d13_43 rfl rfl ?_
      refine W.iload (q := 46) X131 C d13_44 rfl rfl ?_
      refine W.icmp (q := 55) (q' := 49) X131 C d13_46 (by decide) (by decide) rfl (fun hc134 => ?_) (fun hc134 => ?_)
      · replace hc134 : p1 = (own_par (own_par p0 p2 p3 p4) p2 p3 p4) := hc134
        refine W.iconst (q := 56) (v := 1) X131 C d13_55 rfl rfl ?_
        refine W.goto (q := 60) X131 C d13_56 (by decide) (by decide) ?_
        exact W.retN X131 C (by simp) e131 d13_60 rfl (by decide) (by decide) ⟨by simp [own_rch, hc132, hc133, hc134], N131, rfl⟩
      · replace hc134 : p1 ≠ (own_par (own_par p0 p2 p3 p4) p2 p3 p4) := hc134
        refine W.iloadN (q := 50) X131 C d13_49 rfl rfl ?_
        refine W.iload (q := 52) X131 C d13_50 rfl rfl ?_
        refine W.icmp (q := 59) (q' := 55) X131 C d13_52 (by decide) (by decide) rfl (fun hc135 => ?_) (fun hc135 => ?_)
        · replace hc135 : p1 ≠ (own_par (own_par (own_par p0 p2 p3 p4) p2 p3 p4) p2 p3 p4) := hc135
          refine W.iconst (q := 60) (v := 0) X131 C d13_59 rfl rfl ?_
          exact W.retN X131 C (by simp) e131 d13_60 rfl (by decide) (by decide) ⟨by simp [own_rch, hc132, hc133, hc134, hc135], N131, rfl⟩
        · replace hc135 : p1 = (own_par (own_par (own_par p0 p2 p3 p4) p2 p3 p4) p2 p3 p4) := hc135
          refine W.iconst (q := 56) (v := 1) X131 C d13_55 rfl rfl ?_
          refine W.goto (q := 60) X131 C d13_56 (by decide) (by decide) ?_
          exact W.retN X131 C (by simp) e131 d13_60 rfl (by decide) (by decide) ⟨by simp [own_rch, hc132, hc133, hc134, hc135], N131, rfl⟩
def own_der (ov : Value) (t0 t1 t2 t3 : Addr) (a b c : Int32) : Nat → Int32 → Option Int32
  | 0, _ => none
  | n + 1, i => if own_node i t0 t1 t2 t3 = .null then some 0 else if own_node i t0 t1 t2 t3 = ov then some 1 else own_der ov t0 t1 t2 t3 a b c n (own_par i a b c)
theorem own_der0 (ov : Value) (t0 t1 t2 t3 : Addr) (a b c i : Int32) : own_der ov t0 t1 t2 t3 a b c 0 i = none := rfl
theorem own_derS (ov : Value) (t0 t1 t2 t3 : Addr) (a b c : Int32) (n : Nat) (i : Int32) : own_der ov t0 t1 t2 t3 a b c (n + 1) i = if own_node i t0 t1 t2 t3 = .null then some 0 else if own_node i t0 t1 t2 t3 = ov then some 1 else own_der ov t0 t1 t2 t3 a b c n (own_par i a b c) := rfl
def own_5 (i : Int32) : Prop := i = -1 ∨ i = 0 ∨ i = 1 ∨ i = 2 ∨ i = 3
instance (i : Int32) : Decidable (own_5 i) := inferInstanceAs (Decidable (_ ∨ _))
theorem own_par5 {i a b c : Int32} (ha : own_5 a) (hb : own_5 b) (hc : own_5 c) : own_5 (own_par i a b c) := by
  unfold own_par; split
  · exact ha
  · split
    · exact hb
    · split
      · exact hc
      · exact Or.inl rfl
theorem d12_2 : decode prog_72_method_2_code 2 = .ok (.aload_n 2, 1) := by decide +kernel
theorem d12_3 : decode prog_72_method_2_code 3 = .ok (.ifnull 18, 3) := by decide +kernel
theorem d12_21 : decode prog_72_method_2_code 21 = .ok (.iconst 0, 1) := by decide +kernel
theorem d12_22 : decode prog_72_method_2_code 22 = .ok (.ireturn, 1) := by decide +kernel
theorem d12_6 : decode prog_72_method_2_code 6 = .ok (.aload_n 2, 1) := by decide +kernel
theorem d12_7 : decode prog_72_method_2_code 7 = .ok (.aload_n 1, 1) := by decide +kernel
theorem d12_8 : decode prog_72_method_2_code 8 = .ok (.if_acmp .ne 5, 3) := by decide +kernel
theorem d12_11 : decode prog_72_method_2_code 11 = .ok (.iconst 1, 1) := by decide +kernel
theorem d12_12 : decode prog_72_method_2_code 12 = .ok (.ireturn, 1) := by decide +kernel
theorem d12_13 : decode prog_72_method_2_code 13 = .ok (.aload_n 2, 1) := by decide +kernel
theorem d12_14 : decode prog_72_method_2_code 14 = .ok (.getfield 16, 3) := by decide +kernel
theorem d12_17 : decode prog_72_method_2_code 17 = .ok (.astore_n 2, 1) := by decide +kernel
theorem d12_18 : decode prog_72_method_2_code 18 = .ok (.goto (-16), 3) := by decide +kernel
set_option maxRecDepth 65536 in
set_option maxHeartbeats 40000000 in
theorem own_dloop (l : Launch) (Z : State) (a0 : Array Value) (hw : ∀ d ∈ tables_1, d.before a0 Z = true) (n0 : Nat) (h0 : Heap) (t0 t1 t2 t3 : Addr) (a b c : Int32) (ha : own_5 a) (hb : own_5 b) (hc : own_5 c) (v0 ov : Value) (hv0 : v0.isRef = true) (hov : ov.isRef = true) (r : Int32) (B0 : Fld Z h0 t0 "com/example/fedlint/fedlint/SchemaModel$Type" "base" "Lcom/example/fedlint/fedlint/SchemaModel$Type;" (own_node (own_par (0 : Int32) a b c) t0 t1 t2 t3)) (B1 : Fld Z h0 t1 "com/example/fedlint/fedlint/SchemaModel$Type" "base" "Lcom/example/fedlint/fedlint/SchemaModel$Type;" (own_node (own_par (1 : Int32) a b c) t0 t1 t2 t3)) (B2 : Fld Z h0 t2 "com/example/fedlint/fedlint/SchemaModel$Type" "base" "Lcom/example/fedlint/fedlint/SchemaModel$Type;" (own_node (own_par (2 : Int32) a b c) t0 t1 t2 t3)) (B3 : Fld Z h0 t3 "com/example/fedlint/fedlint/SchemaModel$Type" "base" "Lcom/example/fedlint/fedlint/SchemaModel$Type;" (own_node (own_par (3 : Int32) a b c) t0 t1 t2 t3)) {p : Program} {e : Env} {s : State} {m : MethodId} {args : Array Value} {below : List Frame} {meth : Method} {cd : Code} (C : W.Cx p s m meth cd Z prog_72_method_2_code 3 "com/example/fedlint/fedlint/SchemaModel$Type" "derivesFrom" (some .boolean)) :
    ∀ (fuel : Nat) (i : Int32) (T0 : State) (locs : List Loc), Stand p l e ({ frames := 0, cells := 0, slots := 0, locals := 0 } : Room) s m args below meth cd T0 locs 0 0 → T0.heap = h0 → Fr n0 locs → own_5 i → own_der ov t0 t1 t2 t3 a b c fuel i = some r →
    W.Go p e below (W.Post s (fun v h L => v = some (.int r) ∧ Fr n0 L ∧ h = h0) 0 0) (T0.setTop (mkF m 2 #[.val v0, .val ov, .val (own_node i t0 t1 t2 t3)] [])) := by
  intro fuel
  induction fuel with
  | zero =>
    intro _ _ _ _ _ _ _ hr
    rw [own_der0] at hr; cases hr
  | succ k ih =>
    intro i T0 locs X0 e0 N0 hi hr
    rcases hi with rfl | rfl | rfl | rfl | rfl
    · show W.Go p e below _ (T0.setTop (mkF m 2 #[.val v0, .val ov, .val .null] []))
      have hr' : r = 0 := by rw [own_derS, if_pos (show own_node (-1) t0 t1 t2 t3 = .null from rfl)] at hr; exact (Option.some.inj hr).symm
      refine W.aloadN (q := 3) X0 C d12_2 rfl rfl rfl ?_
      refine W.ifnullT (q := 21) X0 C d12_3 (by decide) (by decide) ?_
      refine W.iconst (q := 22) (v := 0) X0 C d12_21 rfl rfl ?_
      exact W.retN X0 C (by simp) e0 d12_22 rfl (by decide) (by decide) ⟨by rw [hr']; rfl, N0, rfl⟩
    · show W.Go p e below _ (T0.setTop (mkF m 2 #[.val v0, .val ov, .val (.ref t0)] []))
      rw [own_derS, if_neg (show ¬ own_node 0 t0 t1 t2 t3 = .null from nofun)] at hr
      refine W.aloadN (q := 3) X0 C d12_2 rfl rfl rfl ?_
      refine W.ifnullF (q := 6) X0 C d12_3 rfl ?_
      refine W.aloadN (q := 7) X0 C d12_6 rfl rfl rfl ?_
      refine W.aloadN (q := 8) X0 C d12_7 rfl hov rfl ?_
      by_cases hs : Value.ref t0 = ov
      · rw [if_pos (show own_node 0 t0 t1 t2 t3 = ov from hs)] at hr
        have hr' : r = 1 := (Option.some.inj hr).symm
        refine W.acmp (q := 11) X0 C rfl hov (same := true) (decide_eq_true hs) d12_8 (by decide) (by decide) ?_
        refine W.iconst (q := 12) (v := 1) X0 C d12_11 rfl rfl ?_
        exact W.retN X0 C (by simp) e0 d12_12 rfl (by decide) (by decide) ⟨by rw [hr']; rfl, N0, rfl⟩
      · rw [if_neg (show ¬ own_node 0 t0 t1 t2 t3 = ov from hs)] at hr
        refine W.acmp (q := 13) X0 C rfl hov (same := false) (decide_eq_false hs) d12_8 (by decide) (by decide) ?_
        refine W.aloadN (q := 14) X0 C d12_13 rfl rfl rfl ?_
        refine W.getF (host := "") (q := 17) X0 C (Or.inl (W.ww hw 90 rfl)) Via.refl e0 B0 d12_14 rfl (fun T136 X136 e136 => ?_)
        refine W.astoreN (q := 18) (L' := #[.val v0, .val ov, .val (own_node (own_par (0 : Int32) a b c) t0 t1 t2 t3)]) X136 C d12_17 (own_node_ref _ _ _ _ _) (Jvm.Free.XS.store1 rfl (One.val rfl) (W.catRef (own_node_ref _ _ _ _ _))) rfl ?_
        refine W.goto (q := 2) X136 C d12_18 (by decide) (by decide) ?_
        exact ih _ T136 _ X136 e136 N0 (own_par5 ha hb hc) hr
    · show W.Go p e below _ (T0.setTop (mkF m 2 #[.val v0, .val ov, .val (.ref t1)] []))
      rw [own_derS, if_neg (show ¬ own_node 1 t0 t1 t2 t3 = .null from nofun)] at hr
      refine W.aloadN (q := 3) X0 C d12_2 rfl rfl rfl ?_
      refine W.ifnullF (q := 6) X0 C d12_3 rfl ?_
      refine W.aloadN (q := 7) X0 C d12_6 rfl rfl rfl ?_
      refine W.aloadN (q := 8) X0 C d12_7 rfl hov rfl ?_
      by_cases hs : Value.ref t1 = ov
      · rw [if_pos (show own_node 1 t0 t1 t2 t3 = ov from hs)] at hr
        have hr' : r = 1 := (Option.some.inj hr).symm
        refine W.acmp (q := 11) X0 C rfl hov (same := true) (decide_eq_true hs) d12_8 (by decide) (by decide) ?_
        refine W.iconst (q := 12) (v := 1) X0 C d12_11 rfl rfl ?_
        exact W.retN X0 C (by simp) e0 d12_12 rfl (by decide) (by decide) ⟨by rw [hr']; rfl, N0, rfl⟩
      · rw [if_neg (show ¬ own_node 1 t0 t1 t2 t3 = ov from hs)] at hr
        refine W.acmp (q := 13) X0 C rfl hov (same := false) (decide_eq_false hs) d12_8 (by decide) (by decide) ?_
        refine W.aloadN (q := 14) X0 C d12_13 rfl rfl rfl ?_
        refine W.getF (host := "") (q := 17) X0 C (Or.inl (W.ww hw 90 rfl)) Via.refl e0 B1 d12_14 rfl (fun T137 X137 e137 => ?_)
        refine W.astoreN (q := 18) (L' := #[.val v0, .val ov, .val (own_node (own_par (1 : Int32) a b c) t0 t1 t2 t3)]) X137 C d12_17 (own_node_ref _ _ _ _ _) (Jvm.Free.XS.store1 rfl (One.val rfl) (W.catRef (own_node_ref _ _ _ _ _))) rfl ?_
        refine W.goto (q := 2) X137 C d12_18 (by decide) (by decide) ?_
        exact ih _ T137 _ X137 e137 N0 (own_par5 ha hb hc) hr
    · show W.Go p e below _ (T0.setTop (mkF m 2 #[.val v0, .val ov, .val (.ref t2)] []))
      rw [own_derS, if_neg (show ¬ own_node 2 t0 t1 t2 t3 = .null from nofun)] at hr
      refine W.aloadN (q := 3) X0 C d12_2 rfl rfl rfl ?_
      refine W.ifnullF (q := 6) X0 C d12_3 rfl ?_
      refine W.aloadN (q := 7) X0 C d12_6 rfl rfl rfl ?_
      refine W.aloadN (q := 8) X0 C d12_7 rfl hov rfl ?_
      by_cases hs : Value.ref t2 = ov
      · rw [if_pos (show own_node 2 t0 t1 t2 t3 = ov from hs)] at hr
        have hr' : r = 1 := (Option.some.inj hr).symm
        refine W.acmp (q := 11) X0 C rfl hov (same := true) (decide_eq_true hs) d12_8 (by decide) (by decide) ?_
        refine W.iconst (q := 12) (v := 1) X0 C d12_11 rfl rfl ?_
        exact W.retN X0 C (by simp) e0 d12_12 rfl (by decide) (by decide) ⟨by rw [hr']; rfl, N0, rfl⟩
      · rw [if_neg (show ¬ own_node 2 t0 t1 t2 t3 = ov from hs)] at hr
        refine W.acmp (q := 13) X0 C rfl hov (same := false) (decide_eq_false hs) d12_8 (by decide) (by decide) ?_
        refine W.aloadN (q := 14) X0 C d12_13 rfl rfl rfl ?_
        refine W.getF (host := "") (q := 17) X0 C (Or.inl (W.ww hw 90 rfl)) Via.refl e0 B2 d12_14 rfl (fun T138 X138 e138 => ?_)
        refine W.astoreN (q := 18) (L' := #[.val v0, .val ov, .val (own_node (own_par (2 : Int32) a b c) t0 t1 t2 t3)]) X138 C d12_17 (own_node_ref _ _ _ _ _) (Jvm.Free.XS.store1 rfl (One.val rfl) (W.catRef (own_node_ref _ _ _ _ _))) rfl ?_
        refine W.goto (q := 2) X138 C d12_18 (by decide) (by decide) ?_
        exact ih _ T138 _ X138 e138 N0 (own_par5 ha hb hc) hr
    · show W.Go p e below _ (T0.setTop (mkF m 2 #[.val v0, .val ov, .val (.ref t3)] []))
      rw [own_derS, if_neg (show ¬ own_node 3 t0 t1 t2 t3 = .null from nofun)] at hr
      refine W.aloadN (q := 3) X0 C d12_2 rfl rfl rfl ?_
      refine W.ifnullF (q := 6) X0 C d12_3 rfl ?_
      refine W.aloadN (q := 7) X0 C d12_6 rfl rfl rfl ?_
      refine W.aloadN (q := 8) X0 C d12_7 rfl hov rfl ?_
      by_cases hs : Value.ref t3 = ov
      · rw [if_pos (show own_node 3 t0 t1 t2 t3 = ov from hs)] at hr
        have hr' : r = 1 := (Option.some.inj hr).symm
        refine W.acmp (q := 11) X0 C rfl hov (same := true) (decide_eq_true hs) d12_8 (by decide) (by decide) ?_
        refine W.iconst (q := 12) (v := 1) X0 C d12_11 rfl rfl ?_
        exact W.retN X0 C (by simp) e0 d12_12 rfl (by decide) (by decide) ⟨by rw [hr']; rfl, N0, rfl⟩
      · rw [if_neg (show ¬ own_node 3 t0 t1 t2 t3 = ov from hs)] at hr
        refine W.acmp (q := 13) X0 C rfl hov (same := false) (decide_eq_false hs) d12_8 (by decide) (by decide) ?_
        refine W.aloadN (q := 14) X0 C d12_13 rfl rfl rfl ?_
        refine W.getF (host := "") (q := 17) X0 C (Or.inl (W.ww hw 90 rfl)) Via.refl e0 B3 d12_14 rfl (fun T139 X139 e139 => ?_)
        refine W.astoreN (q := 18) (L' := #[.val v0, .val ov, .val (own_node (own_par (3 : Int32) a b c) t0 t1 t2 t3)]) X139 C d12_17 (own_node_ref _ _ _ _ _) (Jvm.Free.XS.store1 rfl (One.val rfl) (W.catRef (own_node_ref _ _ _ _ _))) rfl ?_
        refine W.goto (q := 2) X139 C d12_18 (by decide) (by decide) ?_
        exact ih _ T139 _ X139 e139 N0 (own_par5 ha hb hc) hr
theorem d12_0 : decode prog_72_method_2_code 0 = .ok (.aload_n 0, 1) := by decide +kernel
theorem d12_1 : decode prog_72_method_2_code 1 = .ok (.astore_n 2, 1) := by decide +kernel
def Q12 (Z : State) (p0 : Addr) (ov : Value) (t0 t1 t2 t3 : Addr) (xa xb xc i r : Int32) (h0 : Heap) (n0 : Nat) (v : Option Value) (h : Heap) (L : List Loc) : Prop := v = some (.int r) ∧ Fr n0 L ∧ h = h0
set_option maxRecDepth 65536 in
set_option maxHeartbeats 40000000 in
theorem rm12 (l : Launch) (Z : State) (a0 : Array Value) (hw : ∀ d ∈ tables_1, d.before a0 Z = true) (ws : List Jvm.Cond) (p0 : Addr) (ov : Value) (t0 t1 t2 t3 : Addr) (xa xb xc i r : Int32) (h0 : Heap) (n0 : Nat) (ha : own_5 xa) (hb : own_5 xb) (hc : own_5 xc) (hov : ov.isRef = true) (B0 : Fld Z h0 t0 "com/example/fedlint/fedlint/SchemaModel$Type" "base" "Lcom/example/fedlint/fedlint/SchemaModel$Type;" (own_node (own_par (0 : Int32) xa xb xc) t0 t1 t2 t3)) (B1 : Fld Z h0 t1 "com/example/fedlint/fedlint/SchemaModel$Type" "base" "Lcom/example/fedlint/fedlint/SchemaModel$Type;" (own_node (own_par (1 : Int32) xa xb xc) t0 t1 t2 t3)) (B2 : Fld Z h0 t2 "com/example/fedlint/fedlint/SchemaModel$Type" "base" "Lcom/example/fedlint/fedlint/SchemaModel$Type;" (own_node (own_par (2 : Int32) xa xb xc) t0 t1 t2 t3)) (B3 : Fld Z h0 t3 "com/example/fedlint/fedlint/SchemaModel$Type" "base" "Lcom/example/fedlint/fedlint/SchemaModel$Type;" (own_node (own_par (3 : Int32) xa xb xc) t0 t1 t2 t3)) (hp0 : own_node i t0 t1 t2 t3 = .ref p0) (hi : own_5 i) (hr : own_der ov t0 t1 t2 t3 xa xb xc 5 i = some r) :
    MetFree l (⟨"com/example/fedlint/fedlint/SchemaModel$Type", "derivesFrom", "(Lcom/example/fedlint/fedlint/SchemaModel$Type;)Z"⟩ : MethodName) (head1 (Jvm.Cond.code (⟨"com/example/fedlint/fedlint/SchemaModel$Type", "derivesFrom", "(Lcom/example/fedlint/fedlint/SchemaModel$Type;)Z"⟩ : MethodName) prog_72_method_2_code 3 (some .boolean) :: ws) ({ frames := 0, cells := 0, slots := 0, locals := 0 } : Room)) (fun a U => a = #[(.ref p0), ov] ∧ Z.Warmed39 U.vm ∧ U.heap = h0) (fun _ _ _ _ _ => True) (fun _ U o U' => ∃ v L, o = .returned v ∧ Q12 Z p0 ov t0 t1 t2 t3 xa xb xc i r h0 n0 v U'.heap L ∧ FrameEnd U o U' L ({ frames := 0, cells := 0, slots := 0, locals := 0 } : Room).cells ({ frames := 0, cells := 0, slots := 0, locals := 0 } : Room).slots) := by
  refine W.bodyOf (y := (⟨"com/example/fedlint/fedlint/SchemaModel$Type", "derivesFrom", "(Lcom/example/fedlint/fedlint/SchemaModel$Type;)Z"⟩ : MethodName)) (as := #[(.ref p0), ov]) (maxL := 3) (Q := Q12 Z p0 ov t0 t1 t2 t3 xa xb xc i r h0 n0) (Ls := #[.val (.ref p0), .val ov, .unset]) (plainFor_of_name pn_com_example_fedlint_fedlint_SchemaModel_Type) (fun m => by first | exact W.entry_of rfl | exact W.entry_of (by simp [W.fillL, (show ((.ref p0) : Value).category = 1 from rfl), (W.catRef hov)]) | rfl | (simp [entryFrame, mkF, argsToLocals, Value.category]; done)) ?_
  intro p e s m below meth c T0 C X0 e0
  have N0 := Fr.nil n0
  refine W.aloadN (q := 1) X0 C d12_0 rfl rfl rfl ?_
  refine W.astoreN (q := 2) (L' := #[.val (.ref p0), .val ov, .val (.ref p0)]) X0 C d12_1 rfl rfl rfl ?_
  have q := own_dloop l Z a0 hw n0 h0 t0 t1 t2 t3 xa xb xc ha hb hc (.ref p0) ov rfl hov r B0 B1 B2 B3 C 5 i T0 _ X0 e0 N0 hi hr
  rw [hp0] at q
  exact q
def own_da (o a b c : Int32) : Nat → Int32 → Option Int32
  | 0, _ => none
  | n + 1, i => if i = -1 then some 0 else if i = o then some 1 else own_da o a b c n (own_par i a b c)
theorem own_daS (o a b c : Int32) (n : Nat) (i : Int32) : own_da o a b c (n + 1) i = if i = -1 then some 0 else if i = o then some 1 else own_da o a b c n (own_par i a b c) := rfl
theorem own_null {i : Int32} {t0 t1 t2 t3 : Addr} (hi : own_5 i) : (own_node i t0 t1 t2 t3 = .null) = (i = -1) := by
  rcases hi with rfl | rfl | rfl | rfl | rfl
  · exact propext ⟨fun _ => rfl, fun _ => rfl⟩
  all_goals exact propext ⟨fun q => (by cases q), fun q => absurd q (by decide)⟩
theorem own_dera {ov : Value} {t0 t1 t2 t3 : Addr} {o a b c : Int32} (ha : own_5 a) (hb : own_5 b) (hc : own_5 c) (hov : ∀ i, own_5 i → i ≠ -1 → (own_node i t0 t1 t2 t3 = ov) = (i = o)) : ∀ (n : Nat) (i : Int32), own_5 i → own_der ov t0 t1 t2 t3 a b c n i = own_da o a b c n i
  | 0, _, _ => rfl
  | n + 1, i, hi => by
    rw [own_derS, own_daS]
    simp only [own_null hi]
    by_cases h : i = -1
    · rw [if_pos h, if_pos h]
    · rw [if_neg h, if_neg h]
      simp only [hov i hi h]
      rw [own_dera ha hb hc hov n _ (own_par5 ha hb hc)]
theorem own_eqn {t0 t1 t2 t3 : Addr} (n01 : t0 ≠ t1) (n02 : t0 ≠ t2) (n03 : t0 ≠ t3) (n12 : t1 ≠ t2) (n13 : t1 ≠ t3) (n23 : t2 ≠ t3) {o : Int32} (ho : o = 0 ∨ o = 1 ∨ o = 2 ∨ o = 3) : ∀ i, own_5 i → i ≠ -1 → (own_node i t0 t1 t2 t3 = own_node o t0 t1 t2 t3) = (i = o) := by
  have m01 := n01.symm; have m02 := n02.symm; have m03 := n03.symm; have m12 := n12.symm; have m13 := n13.symm; have m23 := n23.symm
  intro i hi hn
  rcases hi with rfl | rfl | rfl | rfl | rfl
  · exact absurd rfl hn
  all_goals rcases ho with rfl | rfl | rfl | rfl
  all_goals first
    | exact propext ⟨fun _ => rfl, fun _ => rfl⟩
    | exact propext ⟨fun q => absurd (Value.ref.inj q) (by assumption), fun q => absurd q (by decide)⟩
theorem own_eqf {t0 t1 t2 t3 tf : Addr} (n0 : t0 ≠ tf) (n1 : t1 ≠ tf) (n2 : t2 ≠ tf) (n3 : t3 ≠ tf) : ∀ i, own_5 i → i ≠ -1 → (own_node i t0 t1 t2 t3 = .ref tf) = (i = 9) := by
  intro i hi hn
  rcases hi with rfl | rfl | rfl | rfl | rfl
  · exact absurd rfl hn
  all_goals exact propext ⟨fun q => absurd (Value.ref.inj q) (by assumption), fun q => absurd q (by decide)⟩
theorem own_eq0 {t0 t1 t2 t3 : Addr} : ∀ i, own_5 i → i ≠ -1 → (own_node i t0 t1 t2 t3 = .null) = (i = 9) := by
  intro i hi hn
  rcases hi with rfl | rfl | rfl | rfl | rfl
  · exact absurd rfl hn
  all_goals exact propext ⟨fun q => (by cases q), fun q => absurd q (by decide)⟩
def own_2 (x : Int32) : Prop := x = -1 ∨ x = 0
def own_3 (x : Int32) : Prop := x = -1 ∨ x = 0 ∨ x = 1
def own_4 (x : Int32) : Prop := x = -1 ∨ x = 0 ∨ x = 1 ∨ x = 2
def own_r4 (x : Int32) : Prop := x = 0 ∨ x = 1 ∨ x = 2 ∨ x = 3
theorem own_25 {x : Int32} (h : own_2 x) : own_5 x := h.imp id Or.inl
theorem own_35 {x : Int32} (h : own_3 x) : own_5 x := h.imp id (Or.imp id Or.inl)
theorem own_45 {x : Int32} (h : own_4 x) : own_5 x := h.imp id (Or.imp id (Or.imp id Or.inl))
theorem own_r5 {x : Int32} (h : own_r4 x) : own_5 x := Or.inr h
set_option maxHeartbeats 4000000 in
theorem own_fin {a b c r o : Int32} (ha : own_2 a) (hb : own_3 b) (hc : own_4 c) (hr : own_r4 r) (ho : own_r4 o) : own_da o a b c 5 r = some (own_rch r o a b c) := by
  rcases ha with rfl | rfl <;> rcases hb with rfl | rfl | rfl <;> rcases hc with rfl | rfl | rfl | rfl <;> rcases hr with rfl | rfl | rfl | rfl <;> rcases ho with rfl | rfl | rfl | rfl <;> decide
theorem own_fin9 {a b c r : Int32} (ha : own_2 a) (hb : own_3 b) (hc : own_4 c) (hr : own_r4 r) : own_da 9 a b c 5 r = some 0 := by
  rcases ha with rfl | rfl <;> rcases hb with rfl | rfl | rfl <;> rcases hc with rfl | rfl | rfl | rfl <;> rcases hr with rfl | rfl | rfl | rfl <;> decide
theorem own_rch01 {r o a b c : Int32} (h : own_rch r o a b c ≠ 0) : own_rch r o a b c = 1 := by
  unfold own_rch at h ⊢; split
  · rfl
  · rename_i q; exact absurd (if_neg q) h
theorem own_m1 {x v : Int32} (h : ((x &&& (1 : Int32)) - (1 : Int32)) = v) : own_2 v := by
  have a1 := c_mask x 1 1 (by decide) (by decide)
  rw [← h]
  exact W.small (P := fun y => own_2 (y - 1)) 1 (fun a => (by decide +kernel : ∀ a : Fin 2, (Int32.ofInt (a.1 : Int) - 1 = -1 ∨ Int32.ofInt (a.1 : Int) - 1 = 0)) a) _ (by omega) (by omega)
theorem own_m2 {x v : Int32} (h : (((x &&& (3 : Int32)) % (3 : Int32)) - (1 : Int32)) = v) : own_3 v := by
  have a1 := c_mask x 3 2 (by decide) (by decide)
  rw [← h]
  exact W.small (P := fun y => own_3 (y % 3 - 1)) 3 (fun a => (by decide +kernel : ∀ a : Fin 4, (Int32.ofInt (a.1 : Int) % 3 - 1 = -1 ∨ Int32.ofInt (a.1 : Int) % 3 - 1 = 0 ∨ Int32.ofInt (a.1 : Int) % 3 - 1 = 1)) a) _ (by omega) (by omega)
theorem own_m3 {x v : Int32} (h : ((x &&& (3 : Int32)) - (1 : Int32)) = v) : own_4 v := by
  have a1 := c_mask x 3 2 (by decide) (by decide)
  rw [← h]
  exact W.small (P := fun y => own_4 (y - 1)) 3 (fun a => (by decide +kernel : ∀ a : Fin 4, (Int32.ofInt (a.1 : Int) - 1 = -1 ∨ Int32.ofInt (a.1 : Int) - 1 = 0 ∨ Int32.ofInt (a.1 : Int) - 1 = 1 ∨ Int32.ofInt (a.1 : Int) - 1 = 2)) a) _ (by omega) (by omega)
theorem own_m4 {x v : Int32} (h : (x &&& (3 : Int32)) = v) : own_r4 v := by
  have a1 := c_mask x 3 2 (by decide) (by decide)
  rw [← h]
  exact W.small (P := fun y => own_r4 y) 3 (fun a => (by decide +kernel : ∀ a : Fin 4, (Int32.ofInt (a.1 : Int) = 0 ∨ Int32.ofInt (a.1 : Int) = 1 ∨ Int32.ofInt (a.1 : Int) = 2 ∨ Int32.ofInt (a.1 : Int) = 3)) a) _ (by omega) (by omega)
theorem own_m5 {x v : Int32} (h : ((x &&& (7 : Int32)) % (6 : Int32)) = v) : 0 ≤ v.toInt := by
  have a1 := c_mask x 7 3 (by decide) (by decide)
  rw [← h]
  exact W.small (P := fun y => 0 ≤ (y % 6).toInt) 7 (fun a => (by decide +kernel : ∀ a : Fin 8, 0 ≤ (Int32.ofInt (a.1 : Int) % 6).toInt) a) _ (by omega) (by omega)
theorem own_o4 {v : Int32} (h0 : 0 ≤ v.toInt) (h : v.toInt < (4 : Int32).toInt) : own_r4 v := by
  have k : (4 : Int32).toInt = 4 := rfl
  exact W.small (P := fun y => own_r4 y) 3 (fun a => (by decide +kernel : ∀ a : Fin 4, (Int32.ofInt (a.1 : Int) = 0 ∨ Int32.ofInt (a.1 : Int) = 1 ∨ Int32.ofInt (a.1 : Int) = 2 ∨ Int32.ofInt (a.1 : Int) = 3)) a) v h0 (by omega)
theorem own_lc (x : Int32) : (((97 : Int32) + (x &&& (1 : Int32))).toUInt32.toUInt16.toUInt32.toInt32).toInt ≤ (255 : Int32).toInt := by
  have a1 := c_mask x 1 1 (by decide) (by decide)
  exact W.small (P := fun y => (((97 : Int32) + y).toUInt32.toUInt16.toUInt32.toInt32).toInt ≤ (255 : Int32).toInt) 1 (by decide +kernel) _ (by omega) (by omega)
instance (x : Int32) : Decidable (own_r4 x) := inferInstanceAs (Decidable (_ ∨ _))
theorem pd__28ILcom_2fexample_2ffedlint_2ffedlint_2fSchemaModel_24ComplexType_3bLcom_2fexample_2ffedlint_2ffedlint_2fSchemaModel_24ComplexType_3bLcom_2fexample_2ffedlint_2ffedlint_2fSchemaModel_24ComplexType_3bLcom_2fexample_2ffedlint_2ffedlint_2fSchemaModel_24ComplexType_3b_29Lcom_2fexample_2ffedlint_2ffedlint_2fSchemaModel_24ComplexType_3b : parseMethodDescriptor "(ILcom/example/fedlint/fedlint/SchemaModel$ComplexType;Lcom/example/fedlint/fedlint/SchemaModel$ComplexType;Lcom/example/fedlint/fedlint/SchemaModel$ComplexType;Lcom/example/fedlint/fedlint/SchemaModel$ComplexType;)Lcom/example/fedlint/fedlint/SchemaModel$ComplexType;" = some ⟨[.int, (.object "com/example/fedlint/fedlint/SchemaModel$ComplexType"), (.object "com/example/fedlint/fedlint/SchemaModel$ComplexType"), (.object "com/example/fedlint/fedlint/SchemaModel$ComplexType"), (.object "com/example/fedlint/fedlint/SchemaModel$ComplexType")], some (.object "com/example/fedlint/fedlint/SchemaModel$ComplexType")⟩ := by decide +kernel
theorem pd__28Lcom_2fexample_2ffedlint_2ffedlint_2fSchemaModel_24Type_3b_29Z : parseMethodDescriptor "(Lcom/example/fedlint/fedlint/SchemaModel$Type;)Z" = some ⟨[(.object "com/example/fedlint/fedlint/SchemaModel$Type")], some .boolean⟩ := by decide +kernel
theorem pd__28IIIII_29Z : parseMethodDescriptor "(IIIII)Z" = some ⟨[.int, .int, .int, .int, .int], some .boolean⟩ := by decide +kernel
set_option maxRecDepth 65536 in
set_option maxHeartbeats 40000000 in
theorem own_p167 (l : Launch) (Z : State) (a0 : Array Value) (hw : ∀ d ∈ tables_1, d.before a0 Z = true) (h0 : Heap) (n0 : Nat) (p0 p1 p2 x3 x4 x5 x6 x7 x8 : Int32) (t0 t1 t2 t3 tf : Addr) (kk cc cs : Nat) (hcc : cc ≤ 50) (hcs : cs ≤ 1000) {p : Program} {e : Env} {s : State} {m : MethodId} {args : Array Value} {below : List Frame} {meth : Method} {c : Code} {T0 : State} {locs : List Loc}
    (C : W.Cx p s m meth c Z code 18 "com/example/fedlint/fedlint/TypeDerivesFromPinLaw" "law" (some .boolean)) (X0 : Stand p l e room_1 s m args below meth c T0 locs cc cs) (e0 : T0.heap = h0) (N0 : Fr n0 locs) (Z0 : n0 ≤ h0.size) (hkk : kk ≤ h0.size) (h3 : own_2 x3) (h4 : own_3 x4) (h5 : own_4 x5) (h7 : own_r4 x7) (h8 : 0 ≤ x8.toInt) (E_t0 : Exa Z h0 t0 "com/example/fedlint/fedlint/SchemaModel$ComplexType") (G_t0 : Fld Z h0 t0 "com/example/fedlint/fedlint/SchemaModel$Type" "base" "Lcom/example/fedlint/fedlint/SchemaModel$Type;" .null) (g_t0 : n0 ≤ t0) (E_t1 : Exa Z h0 t1 "com/example/fedlint/fedlint/SchemaModel$ComplexType") (G_t1 : Fld Z h0 t1 "com/example/fedlint/fedlint/SchemaModel$Type" "base" "Lcom/example/fedlint/fedlint/SchemaModel$Type;" .null) (g_t1 : n0 ≤ t1) (E_t2 : Exa Z h0 t2 "com/example/fedlint/fedlint/SchemaModel$ComplexType") (G_t2 : Fld Z h0 t2 "com/example/fedlint/fedlint/SchemaModel$Type" "base" "Lcom/example/fedlint/fedlint/SchemaModel$Type;" .null) (g_t2 : n0 ≤ t2) (E_t3 : Exa Z h0 t3 "com/example/fedlint/fedlint/SchemaModel$ComplexType") (G_t3 : Fld Z h0 t3 "com/example/fedlint/fedlint/SchemaModel$Type" "base" "Lcom/example/fedlint/fedlint/SchemaModel$Type;" .null) (g_t3 : n0 ≤ t3) (E_tf : Exa Z h0 tf "com/example/fedlint/fedlint/SchemaModel$ComplexType") (G_tf : Fld Z h0 tf "com/example/fedlint/fedlint/SchemaModel$Type" "base" "Lcom/example/fedlint/fedlint/SchemaModel$Type;" .null) (g_tf : n0 ≤ tf) (n_t0_t1 : t0 ≠ t1) (n_t0_t2 : t0 ≠ t2) (n_t0_t3 : t0 ≠ t3) (n_t0_tf : t0 ≠ tf) (n_t1_t2 : t1 ≠ t2) (n_t1_t3 : t1 ≠ t3) (n_t1_tf : t1 ≠ tf) (n_t2_t3 : t2 ≠ t3) (n_t2_tf : t2 ≠ tf) (n_t3_tf : t3 ≠ tf) :
    W.Go p e below (W.Post s (fun v h L => (v = some (.int 1) ∧ Fr n0 L) ∧ kk ≤ h.size) room_1.cells room_1.slots) (T0.setTop (mkF m 167 #[.val (.int p0), .val (.int p1), .val (.int p2), .val (.int x3), .val (.int x4), .val (.int x5), .val (.int x6), .val (.int x7), .val (.int x8), .val (.ref t0), .val (.ref t1), .val (.ref t2), .val (.ref t3), .val (.ref tf), .unset, .unset, .unset, .unset] [])) := by
  refine W.aload (q := 169) X0 C at_167 rfl rfl rfl ?_
  refine W.iloadN (q := 170) X0 C at_169 rfl rfl ?_
  refine W.aload (q := 172) X0 C at_170 rfl rfl rfl ?_
  refine W.aload (q := 174) X0 C at_172 rfl rfl rfl ?_
  refine W.aload (q := 176) X0 C at_174 rfl rfl rfl ?_
  refine W.aload (q := 178) X0 C at_176 rfl rfl rfl ?_
  refine W.callS (q := 181) X0 C (W.ww hw 78 rfl) (W.ww hw 79 rfl) (W.ww hw 80 rfl) (W.ww hw 81 rfl) (by decide) (rm11 l Z a0 hw [] x3 t0 t1 t2 t3 h0 n0) e0 at_178 [(.int x3), (.ref t0), (.ref t1), (.ref t2), (.ref t3)] [(.ref t1)] rfl rfl pd__28ILcom_2fexample_2ffedlint_2ffedlint_2fSchemaModel_24ComplexType_3bLcom_2fexample_2ffedlint_2ffedlint_2fSchemaModel_24ComplexType_3bLcom_2fexample_2ffedlint_2ffedlint_2fSchemaModel_24ComplexType_3bLcom_2fexample_2ffedlint_2ffedlint_2fSchemaModel_24ComplexType_3b_29Lcom_2fexample_2ffedlint_2ffedlint_2fSchemaModel_24ComplexType_3b rfl rfl (by decide) (Nat.le_of_ble_eq_true rfl) (by first | omega | (simp only [room_1]; omega) | (dsimp only; omega)) (by first | omega | (simp only [room_1]; omega) | (dsimp only; omega)) rfl (fun T140 w140 L140 X140 hQ140 => ?_)
  obtain ⟨rfl, NL140, e140⟩ := hQ140
  have N140 := Fr.app N0 NL140
  show W.Go p e below _ (T140.setTop (mkF m 181 #[.val (.int p0), .val (.int p1), .val (.int p2), .val (.int x3), .val (.int x4), .val (.int x5), .val (.int x6), .val (.int x7), .val (.int x8), .val (.ref t0), .val (.ref t1), .val (.ref t2), .val (.ref t3), .val (.ref tf), .unset, .unset, .unset, .unset] [(own_node x3 t0 t1 t2 t3), (.ref t1)]))
  refine W.putF (host := "") (q := 184) X140 C (Or.inl (W.ww hw 82 rfl)) (Via.of (W.ww hw 83 rfl)) e140 G_t1 E_t1 (Or.inl (W.ww hw 84 rfl)) (W.ww hw 1 rfl) (ty := (.object "com/example/fedlint/fedlint/SchemaModel$Type")) (by decide) (W.narRef (own_node_ref _ _ _ _ _)) (W.fitsRef (own_node_ref _ _ _ _ _) rfl) at_181 rfl (fun T141 h141 X141 e141 W141 => ?_)
  have Fw141 := G_t1.same W141
  have hkk_143 := Nat.le_trans hkk (Nat.le_of_eq W141.size.symm)
  have E_t0_144 := E_t0.wr W141
  have G_t0_145 := G_t0.other W141 (Or.inl n_t0_t1)
  have E_t1_146 := E_t1.wr W141
  have E_t2_148 := E_t2.wr W141
  have G_t2_149 := G_t2.other W141 (Or.inl (Ne.symm n_t1_t2))
  have E_t3_150 := E_t3.wr W141
  have G_t3_151 := G_t3.other W141 (Or.inl (Ne.symm n_t1_t3))
  have E_tf_152 := E_tf.wr W141
  have G_tf_153 := G_tf.other W141 (Or.inl (Ne.symm n_t1_tf))
  have N141 := Fr.snoc X141 N140 g_t1
  have n0_141 : n0 ≤ h141.size := by rw [W141.size]; exact Z0
  refine W.aload (q := 186) X141 C at_184 rfl rfl rfl ?_
  refine W.iload (q := 188) X141 C at_186 rfl rfl ?_
  refine W.aload (q := 190) X141 C at_188 rfl rfl rfl ?_
  refine W.aload (q := 192) X141 C at_190 rfl rfl rfl ?_
  refine W.aload (q := 194) X141 C at_192 rfl rfl rfl ?_
  refine W.aload (q := 196) X141 C at_194 rfl rfl rfl ?_
  refine W.callS (q := 199) X141 C (W.ww hw 78 rfl) (W.ww hw 79 rfl) (W.ww hw 80 rfl) (W.ww hw 81 rfl) (by decide) (rm11 l Z a0 hw [] x4 t0 t1 t2 t3 h141 n0) e141 at_196 [(.int x4), (.ref t0), (.ref t1), (.ref t2), (.ref t3)] [(.ref t2)] rfl rfl pd__28ILcom_2fexample_2ffedlint_2ffedlint_2fSchemaModel_24ComplexType_3bLcom_2fexample_2ffedlint_2ffedlint_2fSchemaModel_24ComplexType_3bLcom_2fexample_2ffedlint_2ffedlint_2fSchemaModel_24ComplexType_3bLcom_2fexample_2ffedlint_2ffedlint_2fSchemaModel_24ComplexType_3b_29Lcom_2fexample_2ffedlint_2ffedlint_2fSchemaModel_24ComplexType_3b rfl rfl (by decide) (Nat.le_of_ble_eq_true rfl) (by first | omega | (simp only [room_1]; omega) | (dsimp only; omega)) (by first | omega | (simp only [room_1]; omega) | (dsimp only; omega)) rfl (fun T154 w154 L154 X154 hQ154 => ?_)
  obtain ⟨rfl, NL154, e154⟩ := hQ154
  have N154 := Fr.app N141 NL154
  show W.Go p e below _ (T154.setTop (mkF m 199 #[.val (.int p0), .val (.int p1), .val (.int p2), .val (.int x3), .val (.int x4), .val (.int x5), .val (.int x6), .val (.int x7), .val (.int x8), .val (.ref t0), .val (.ref t1), .val (.ref t2), .val (.ref t3), .val (.ref tf), .unset, .unset, .unset, .unset] [(own_node x4 t0 t1 t2 t3), (.ref t2)]))
  refine W.putF (host := "") (q := 202) X154 C (Or.inl (W.ww hw 82 rfl)) (Via.of (W.ww hw 83 rfl)) e154 G_t2_149 E_t2_148 (Or.inl (W.ww hw 84 rfl)) (W.ww hw 1 rfl) (ty := (.object "com/example/fedlint/fedlint/SchemaModel$Type")) (by decide) (W.narRef (own_node_ref _ _ _ _ _)) (W.fitsRef (own_node_ref _ _ _ _ _) rfl) at_199 rfl (fun T155 h155 X155 e155 W155 => ?_)
  have Fw155 := G_t2_149.same W155
  have hkk_157 := Nat.le_trans hkk_143 (Nat.le_of_eq W155.size.symm)
  have E_t0_158 := E_t0_144.wr W155
  have G_t0_159 := G_t0_145.other W155 (Or.inl n_t0_t2)
  have E_t1_160 := E_t1_146.wr W155
  have Fw141_161 := Fw141.other W155 (Or.inl n_t1_t2)
  have E_t2_162 := E_t2_148.wr W155
  have E_t3_164 := E_t3_150.wr W155
  have G_t3_165 := G_t3_151.other W155 (Or.inl (Ne.symm n_t2_t3))
  have E_tf_166 := E_tf_152.wr W155
  have G_tf_167 := G_tf_153.other W155 (Or.inl (Ne.symm n_t2_tf))
  have N155 := Fr.snoc X155 N154 g_t2
  have n0_155 : n0 ≤ h155.size := by rw [W155.size]; exact n0_141
  refine W.aload (q := 204) X155 C at_202 rfl rfl rfl ?_
  refine W.iload (q := 206) X155 C at_204 rfl rfl ?_
  refine W.aload (q := 208) X155 C at_206 rfl rfl rfl ?_
  refine W.aload (q := 210) X155 C at_208 rfl rfl rfl ?_
  refine W.aload (q := 212) X155 C at_210 rfl rfl rfl ?_
  refine W.aload (q := 214) X155 C at_212 rfl rfl rfl ?_
  refine W.callS (q := 217) X155 C (W.ww hw 78 rfl) (W.ww hw 79 rfl) (W.ww hw 80 rfl) (W.ww hw 81 rfl) (by decide) (rm11 l Z a0 hw [] x5 t0 t1 t2 t3 h155 n0) e155 at_214 [(.int x5), (.ref t0), (.ref t1), (.ref t2), (.ref t3)] [(.ref t3)] rfl rfl pd__28ILcom_2fexample_2ffedlint_2ffedlint_2fSchemaModel_24ComplexType_3bLcom_2fexample_2ffedlint_2ffedlint_2fSchemaModel_24ComplexType_3bLcom_2fexample_2ffedlint_2ffedlint_2fSchemaModel_24ComplexType_3bLcom_2fexample_2ffedlint_2ffedlint_2fSchemaModel_24ComplexType_3b_29Lcom_2fexample_2ffedlint_2ffedlint_2fSchemaModel_24ComplexType_3b rfl rfl (by decide) (Nat.le_of_ble_eq_true rfl) (by first | omega | (simp only [room_1]; omega) | (dsimp only; omega)) (by first | omega | (simp only [room_1]; omega) | (dsimp only; omega)) rfl (fun T168 w168 L168 X168 hQ168 => ?_)
  obtain ⟨rfl, NL168, e168⟩ := hQ168
  have N168 := Fr.app N155 NL168
  show W.Go p e below _ (T168.setTop (mkF m 217 #[.val (.int p0), .val (.int p1), .val (.int p2), .val (.int x3), .val (.int x4), .val (.int x5), .val (.int x6), .val (.int x7), .val (.int x8), .val (.ref t0), .val (.ref t1), .val (.ref t2), .val (.ref t3), .val (.ref tf), .unset, .unset, .unset, .unset] [(own_node x5 t0 t1 t2 t3), (.ref t3)]))
  refine W.putF (host := "") (q := 220) X168 C (Or.inl (W.ww hw 82 rfl)) (Via.of (W.ww hw 83 rfl)) e168 G_t3_165 E_t3_164 (Or.inl (W.ww hw 84 rfl)) (W.ww hw 1 rfl) (ty := (.object "com/example/fedlint/fedlint/SchemaModel$Type")) (by decide) (W.narRef (own_node_ref _ _ _ _ _)) (W.fitsRef (own_node_ref _ _ _ _ _) rfl) at_217 rfl (fun T169 h169 X169 e169 W169 => ?_)
  have Fw169 := G_t3_165.same W169
  have hkk_171 := Nat.le_trans hkk_157 (Nat.le_of_eq W169.size.symm)
  have E_t0_172 := E_t0_158.wr W169
  have G_t0_173 := G_t0_159.other W169 (Or.inl n_t0_t3)
  have E_t1_174 := E_t1_160.wr W169
  have Fw141_175 := Fw141_161.other W169 (Or.inl n_t1_t3)
  have E_t2_176 := E_t2_162.wr W169
  have Fw155_177 := Fw155.other W169 (Or.inl n_t2_t3)
  have E_t3_178 := E_t3_164.wr W169
  have E_tf_180 := E_tf_166.wr W169
  have G_tf_181 := G_tf_167.other W169 (Or.inl (Ne.symm n_t3_tf))
  have N169 := Fr.snoc X169 N168 g_t3
  have n0_169 : n0 ≤ h169.size := by rw [W169.size]; exact n0_155
  refine W.aload (q := 222) X169 C at_220 rfl rfl rfl ?_
  refine W.iload (q := 224) X169 C at_222 rfl rfl ?_
  refine W.aload (q := 226) X169 C at_224 rfl rfl rfl ?_
  refine W.aload (q := 228) X169 C at_226 rfl rfl rfl ?_
  refine W.aload (q := 230) X169 C at_228 rfl rfl rfl ?_
  refine W.aload (q := 232) X169 C at_230 rfl rfl rfl ?_
  refine W.callS (q := 235) X169 C (W.ww hw 78 rfl) (W.ww hw 79 rfl) (W.ww hw 80 rfl) (W.ww hw 81 rfl) (by decide) (rm11 l Z a0 hw [] x6 t0 t1 t2 t3 h169 n0) e169 at_232 [(.int x6), (.ref t0), (.ref t1), (.ref t2), (.ref t3)] [(.ref tf)] rfl rfl pd__28ILcom_2fexample_2ffedlint_2ffedlint_2fSchemaModel_24ComplexType_3bLcom_2fexample_2ffedlint_2ffedlint_2fSchemaModel_24ComplexType_3bLcom_2fexample_2ffedlint_2ffedlint_2fSchemaModel_24ComplexType_3bLcom_2fexample_2ffedlint_2ffedlint_2fSchemaModel_24ComplexType_3b_29Lcom_2fexample_2ffedlint_2ffedlint_2fSchemaModel_24ComplexType_3b rfl rfl (by decide) (Nat.le_of_ble_eq_true rfl) (by first | omega | (simp only [room_1]; omega) | (dsimp only; omega)) (by first | omega | (simp only [room_1]; omega) | (dsimp only; omega)) rfl (fun T182 w182 L182 X182 hQ182 => ?_)
  obtain ⟨rfl, NL182, e182⟩ := hQ182
  have N182 := Fr.app N169 NL182
  show W.Go p e below _ (T182.setTop (mkF m 235 #[.val (.int p0), .val (.int p1), .val (.int p2), .val (.int x3), .val (.int x4), .val (.int x5), .val (.int x6), .val (.int x7), .val (.int x8), .val (.ref t0), .val (.ref t1), .val (.ref t2), .val (.ref t3), .val (.ref tf), .unset, .unset, .unset, .unset] [(own_node x6 t0 t1 t2 t3), (.ref tf)]))
  refine W.putF (host := "") (q := 238) X182 C (Or.inl (W.ww hw 82 rfl)) (Via.of (W.ww hw 83 rfl)) e182 G_tf_181 E_tf_180 (Or.inl (W.ww hw 84 rfl)) (W.ww hw 1 rfl) (ty := (.object "com/example/fedlint/fedlint/SchemaModel$Type")) (by decide) (W.narRef (own_node_ref _ _ _ _ _)) (W.fitsRef (own_node_ref _ _ _ _ _) rfl) at_235 rfl (fun T183 h183 X183 e183 W183 => ?_)
  have Fw183 := G_tf_181.same W183
  have hkk_185 := Nat.le_trans hkk_171 (Nat.le_of_eq W183.size.symm)
  have E_t0_186 := E_t0_172.wr W183
  have G_t0_187 := G_t0_173.other W183 (Or.inl n_t0_tf)
  have E_t1_188 := E_t1_174.wr W183
  have Fw141_189 := Fw141_175.other W183 (Or.inl n_t1_tf)
  have E_t2_190 := E_t2_176.wr W183
  have Fw155_191 := Fw155_177.other W183 (Or.inl n_t2_tf)
  have E_t3_192 := E_t3_178.wr W183
  have Fw169_193 := Fw169.other W183 (Or.inl n_t3_tf)
  have E_tf_194 := E_tf_180.wr W183
  have N183 := Fr.snoc X183 N182 g_tf
  have n0_183 : n0 ≤ h183.size := by rw [W183.size]; exact n0_169
  refine W.iload (q := 240) X183 C at_238 rfl rfl ?_
  refine W.aload (q := 242) X183 C at_240 rfl rfl rfl ?_
  refine W.aload (q := 244) X183 C at_242 rfl rfl rfl ?_
  refine W.aload (q := 246) X183 C at_244 rfl rfl rfl ?_
  refine W.aload (q := 248) X183 C at_246 rfl rfl rfl ?_
  refine W.callS (q := 251) X183 C (W.ww hw 78 rfl) (W.ww hw 79 rfl) (W.ww hw 80 rfl) (W.ww hw 81 rfl) (by decide) (rm11 l Z a0 hw [] x7 t0 t1 t2 t3 h183 n0) e183 at_248 [(.int x7), (.ref t0), (.ref t1), (.ref t2), (.ref t3)] [] rfl rfl pd__28ILcom_2fexample_2ffedlint_2ffedlint_2fSchemaModel_24ComplexType_3bLcom_2fexample_2ffedlint_2ffedlint_2fSchemaModel_24ComplexType_3bLcom_2fexample_2ffedlint_2ffedlint_2fSchemaModel_24ComplexType_3bLcom_2fexample_2ffedlint_2ffedlint_2fSchemaModel_24ComplexType_3b_29Lcom_2fexample_2ffedlint_2ffedlint_2fSchemaModel_24ComplexType_3b rfl rfl (by decide) (Nat.le_of_ble_eq_true rfl) (by first | omega | (simp only [room_1]; omega) | (dsimp only; omega)) (by first | omega | (simp only [room_1]; omega) | (dsimp only; omega)) rfl (fun T196 w196 L196 X196 hQ196 => ?_)
  obtain ⟨rfl, NL196, e196⟩ := hQ196
  have N196 := Fr.app N183 NL196
  show W.Go p e below _ (T196.setTop (mkF m 251 #[.val (.int p0), .val (.int p1), .val (.int p2), .val (.int x3), .val (.int x4), .val (.int x5), .val (.int x6), .val (.int x7), .val (.int x8), .val (.ref t0), .val (.ref t1), .val (.ref t2), .val (.ref t3), .val (.ref tf), .unset, .unset, .unset, .unset] [(own_node x7 t0 t1 t2 t3)]))
  refine W.astore (q := 253) (L' := #[.val (.int p0), .val (.int p1), .val (.int p2), .val (.int x3), .val (.int x4), .val (.int x5), .val (.int x6), .val (.int x7), .val (.int x8), .val (.ref t0), .val (.ref t1), .val (.ref t2), .val (.ref t3), .val (.ref tf), .val (own_node x7 t0 t1 t2 t3), .unset, .unset, .unset]) X196 C at_251 (own_node_ref _ _ _ _ _) (Jvm.Free.XS.store1 rfl One.u (W.catRef (own_node_ref _ _ _ _ _))) rfl ?_
  refine W.iload (q := 255) X196 C at_253 rfl rfl ?_
  refine W.iconst (q := 256) (v := 4) X196 C at_255 rfl rfl ?_
  refine W.icmp (q := 275) (q' := 259) X196 C at_256 (by decide) (by decide) rfl (fun hc197 => ?_) (fun hc197 => ?_)
  · replace hc197 : (4 : Int32).toInt ≤ x8.toInt := hc197
    refine W.iload (q := 277) X196 C at_275 rfl rfl ?_
    refine W.iconst (q := 278) (v := 4) X196 C at_277 rfl rfl ?_
    refine W.icmp (q := 286) (q' := 281) X196 C at_278 (by decide) (by decide) rfl (fun hc198 => ?_) (fun hc198 => ?_)
    · replace hc198 : x8 ≠ (4 : Int32) := hc198
      refine W.aconst (q := 287) X196 C at_286 rfl ?_
      refine W.astore (q := 289) (L' := #[.val (.int p0), .val (.int p1), .val (.int p2), .val (.int x3), .val (.int x4), .val (.int x5), .val (.int x6), .val (.int x7), .val (.int x8), .val (.ref t0), .val (.ref t1), .val (.ref t2), .val (.ref t3), .val (.ref tf), .val (own_node x7 t0 t1 t2 t3), .val .null, .unset, .unset]) X196 C at_287 rfl rfl rfl ?_
      rcases h7 with rfl | rfl | rfl | rfl
      · show W.Go p e below _ (T196.setTop (mkF m 289 #[.val (.int p0), .val (.int p1), .val (.int p2), .val (.int x3), .val (.int x4), .val (.int x5), .val (.int x6), .val (.int (0 : Int32)), .val (.int x8), .val (.ref t0), .val (.ref t1), .val (.ref t2), .val (.ref t3), .val (.ref tf), .val (.ref t0), .val .null, .unset, .unset] []))
        refine W.aload (q := 291) X196 C at_289 rfl rfl rfl ?_
        refine W.aload (q := 293) X196 C at_291 rfl rfl rfl ?_
        refine W.callV (q := 296) X196 C (W.ww hw 85 rfl) (W.ww hw 86 rfl) (W.nf C (W.ww hw 88 rfl)) (W.ww hw 88 rfl) (W.ww hw 87 rfl) (W.ww hw 38 rfl) (W.ww hw 89 rfl) (by decide) (rm12 l Z a0 hw [] t0 .null t0 t1 t2 t3 x3 x4 x5 (0 : Int32) (0 : Int32) h183 n0 (own_25 h3) (own_35 h4) (own_45 h5) rfl G_t0_187 Fw141_189 Fw155_191 Fw169_193 rfl (own_r5 (show own_r4 (0 : Int32) by decide)) ((own_dera (own_25 h3) (own_35 h4) (own_45 h5) own_eq0 5 _ (own_r5 (show own_r4 (0 : Int32) by decide))).trans (own_fin9 h3 h4 h5 (show own_r4 (0 : Int32) by decide)))) e196 E_t0_186 at_293 [.null] [] rfl rfl pd__28Lcom_2fexample_2ffedlint_2ffedlint_2fSchemaModel_24Type_3b_29Z rfl rfl (by decide) (Nat.le_of_ble_eq_true rfl) (by first | omega | (simp only [room_1]; omega) | (dsimp only; omega)) (by first | omega | (simp only [room_1]; omega) | (dsimp only; omega)) rfl (fun T199 w199 L199 X199 hQ199 => ?_)
        obtain ⟨rfl, NL199, e199⟩ := hQ199
        have N199 := Fr.app N196 NL199
        show W.Go p e below _ (T199.setTop (mkF m 296 #[.val (.int p0), .val (.int p1), .val (.int p2), .val (.int x3), .val (.int x4), .val (.int x5), .val (.int x6), .val (.int (0 : Int32)), .val (.int x8), .val (.ref t0), .val (.ref t1), .val (.ref t2), .val (.ref t3), .val (.ref tf), .val (.ref t0), .val .null, .unset, .unset] [(.int (0 : Int32))]))
        refine W.istore (q := 298) (L' := #[.val (.int p0), .val (.int p1), .val (.int p2), .val (.int x3), .val (.int x4), .val (.int x5), .val (.int x6), .val (.int (0 : Int32)), .val (.int x8), .val (.ref t0), .val (.ref t1), .val (.ref t2), .val (.ref t3), .val (.ref tf), .val (.ref t0), .val .null, .val (.int (0 : Int32)), .unset]) X199 C at_296 rfl rfl ?_
        refine W.iload (q := 300) X199 C at_298 rfl rfl ?_
        refine W.iconst (q := 301) (v := 4) X199 C at_300 rfl rfl ?_
        refine W.icmpT (q := 323) X199 C at_301 (by decide) (by decide) hc197 ?_
        refine W.iconst (q := 324) (v := 0) X199 C at_323 rfl rfl ?_
        refine W.istore (q := 326) (L' := #[.val (.int p0), .val (.int p1), .val (.int p2), .val (.int x3), .val (.int x4), .val (.int x5), .val (.int x6), .val (.int (0 : Int32)), .val (.int x8), .val (.ref t0), .val (.ref t1), .val (.ref t2), .val (.ref t3), .val (.ref tf), .val (.ref t0), .val .null, .val (.int (0 : Int32)), .val (.int (0 : Int32))]) X199 C at_324 rfl rfl ?_
        refine W.iload (q := 328) X199 C at_326 rfl rfl ?_
        refine W.iload (q := 330) X199 C at_328 rfl rfl ?_
        refine W.icmpF (q := 333) X199 C at_330 rfl (by decide : W.cF .ne (0 : Int32) (0 : Int32)) ?_
        refine W.iconst (q := 334) (v := 1) X199 C at_333 rfl rfl ?_
        refine W.goto (q := 338) X199 C at_334 (by decide) (by decide) ?_
        exact W.retN X199 C (by simp) e199 at_338 rfl (by first | omega | (simp only [room_1]; omega) | (dsimp only; omega)) (by first | omega | (simp only [room_1]; omega) | (dsimp only; omega)) ⟨⟨rfl, N199⟩, hkk_185⟩
      · show W.Go p e below _ (T196.setTop (mkF m 289 #[.val (.int p0), .val (.int p1), .val (.int p2), .val (.int x3), .val (.int x4), .val (.int x5), .val (.int x6), .val (.int (1 : Int32)), .val (.int x8), .val (.ref t0), .val (.ref t1), .val (.ref t2), .val (.ref t3), .val (.ref tf), .val (.ref t1), .val .null, .unset, .unset] []))
        refine W.aload (q := 291) X196 C at_289 rfl rfl rfl ?_
        refine W.aload (q := 293) X196 C at_291 rfl rfl rfl ?_
        refine W.callV (q := 296) X196 C (W.ww hw 85 rfl) (W.ww hw 86 rfl) (W.nf C (W.ww hw 88 rfl)) (W.ww hw 88 rfl) (W.ww hw 87 rfl) (W.ww hw 38 rfl) (W.ww hw 89 rfl) (by decide) (rm12 l Z a0 hw [] t1 .null t0 t1 t2 t3 x3 x4 x5 (1 : Int32) (0 : Int32) h183 n0 (own_25 h3) (own_35 h4) (own_45 h5) rfl G_t0_187 Fw141_189 Fw155_191 Fw169_193 rfl (own_r5 (show own_r4 (1 : Int32) by decide)) ((own_dera (own_25 h3) (own_35 h4) (own_45 h5) own_eq0 5 _ (own_r5 (show own_r4 (1 : Int32) by decide))).trans (own_fin9 h3 h4 h5 (show own_r4 (1 : Int32) by decide)))) e196 E_t1_188 at_293 [.null] [] rfl rfl pd__28Lcom_2fexample_2ffedlint_2ffedlint_2fSchemaModel_24Type_3b_29Z rfl rfl (by decide) (Nat.le_of_ble_eq_true rfl) (by first | omega | (simp only [room_1]; omega) | (dsimp only; omega)) (by first | omega | (simp only [room_1]; omega) | (dsimp only; omega)) rfl (fun T200 w200 L200 X200 hQ200 => ?_)
        obtain ⟨rfl, NL200, e200⟩ := hQ200
        have N200 := Fr.app N196 NL200
        show W.Go p e below _ (T200.setTop (mkF m 296 #[.val (.int p0), .val (.int p1), .val (.int p2), .val (.int x3), .val (.int x4), .val (.int x5), .val (.int x6), .val (.int (1 : Int32)), .val (.int x8), .val (.ref t0), .val (.ref t1), .val (.ref t2), .val (.ref t3), .val (.ref tf), .val (.ref t1), .val .null, .unset, .unset] [(.int (0 : Int32))]))
        refine W.istore (q := 298) (L' := #[.val (.int p0), .val (.int p1), .val (.int p2), .val (.int x3), .val (.int x4), .val (.int x5), .val (.int x6), .val (.int (1 : Int32)), .val (.int x8), .val (.ref t0), .val (.ref t1), .val (.ref t2), .val (.ref t3), .val (.ref tf), .val (.ref t1), .val .null, .val (.int (0 : Int32)), .unset]) X200 C at_296 rfl rfl ?_
        refine W.iload (q := 300) X200 C at_298 rfl rfl ?_
        refine W.iconst (q := 301) (v := 4) X200 C at_300 rfl rfl ?_
        refine W.icmpT (q := 323) X200 C at_301 (by decide) (by decide) hc197 ?_
        refine W.iconst (q := 324) (v := 0) X200 C at_323 rfl rfl ?_
        refine W.istore (q := 326) (L' := #[.val (.int p0), .val (.int p1), .val (.int p2), .val (.int x3), .val (.int x4), .val (.int x5), .val (.int x6), .val (.int (1 : Int32)), .val (.int x8), .val (.ref t0), .val (.ref t1), .val (.ref t2), .val (.ref t3), .val (.ref tf), .val (.ref t1), .val .null, .val (.int (0 : Int32)), .val (.int (0 : Int32))]) X200 C at_324 rfl rfl ?_
        refine W.iload (q := 328) X200 C at_326 rfl rfl ?_
        refine W.iload (q := 330) X200 C at_328 rfl rfl ?_
        refine W.icmpF (q := 333) X200 C at_330 rfl (by decide : W.cF .ne (0 : Int32) (0 : Int32)) ?_
        refine W.iconst (q := 334) (v := 1) X200 C at_333 rfl rfl ?_
        refine W.goto (q := 338) X200 C at_334 (by decide) (by decide) ?_
        exact W.retN X200 C (by simp) e200 at_338 rfl (by first | omega | (simp only [room_1]; omega) | (dsimp only; omega)) (by first | omega | (simp only [room_1]; omega) | (dsimp only; omega)) ⟨⟨rfl, N200⟩, hkk_185⟩
      · show W.Go p e below _ (T196.setTop (mkF m 289 #[.val (.int p0), .val (.int p1), .val (.int p2), .val (.int x3), .val (.int x4), .val (.int x5), .val (.int x6), .val (.int (2 : Int32)), .val (.int x8), .val (.ref t0), .val (.ref t1), .val (.ref t2), .val (.ref t3), .val (.ref tf), .val (.ref t2), .val .null, .unset, .unset] []))
        refine W.aload (q := 291) X196 C at_289 rfl rfl rfl ?_
        refine W.aload (q := 293) X196 C at_291 rfl rfl rfl ?_
        refine W.callV (q := 296) X196 C (W.ww hw 85 rfl) (W.ww hw 86 rfl) (W.nf C (W.ww hw 88 rfl)) (W.ww hw 88 rfl) (W.ww hw 87 rfl) (W.ww hw 38 rfl) (W.ww hw 89 rfl) (by decide) (rm12 l Z a0 hw [] t2 .null t0 t1 t2 t3 x3 x4 x5 (2 : Int32) (0 : Int32) h183 n0 (own_25 h3) (own_35 h4) (own_45 h5) rfl G_t0_187 Fw141_189 Fw155_191 Fw169_193 rfl (own_r5 (show own_r4 (2 : Int32) by decide)) ((own_dera (own_25 h3) (own_35 h4) (own_45 h5) own_eq0 5 _ (own_r5 (show own_r4 (2 : Int32) by decide))).trans (own_fin9 h3 h4 h5 (show own_r4 (2 : Int32) by decide)))) e196 E_t2_190 at_293 [.null] [] rfl rfl pd__28Lcom_2fexample_2ffedlint_2ffedlint_2fSchemaModel_24Type_3b_29Z rfl rfl (by decide) (Nat.le_of_ble_eq_true rfl) (by first | omega | (simp only [room_1]; omega) | (dsimp only; omega)) (by first | omega | (simp only [room_1]; omega) | (dsimp only; omega)) rfl (fun T201 w201 L201 X201 hQ201 => ?_)
        obtain ⟨rfl, NL201, e201⟩ := hQ201
        have N201 := Fr.app N196 NL201
        show W.Go p e below _ (T201.setTop (mkF m 296 #[.val (.int p0), .val (.int p1), .val (.int p2), .val (.int x3), .val (.int x4), .val (.int x5), .val (.int x6), .val (.int (2 : Int32)), .val (.int x8), .val (.ref t0), .val (.ref t1), .val (.ref t2), .val (.ref t3), .val (.ref tf), .val (.ref t2), .val .null, .unset, .unset] [(.int (0 : Int32))]))
        refine W.istore (q := 298) (L' := #[.val (.int p0), .val (.int p1), .val (.int p2), .val (.int x3), .val (.int x4), .val (.int x5), .val (.int x6), .val (.int (2 : Int32)), .val (.int x8), .val (.ref t0), .val (.ref t1), .val (.ref t2), .val (.ref t3), .val (.ref tf), .val (.ref t2), .val .null, .val (.int (0 : Int32)), .unset]) X201 C at_296 rfl rfl ?_
        refine W.iload (q := 300) X201 C at_298 rfl rfl ?_
        refine W.iconst (q := 301) (v := 4) X201 C at_300 rfl rfl ?_
        refine W.icmpT (q := 323) X201 C at_301 (by decide) (by decide) hc197 ?_
        refine W.iconst (q := 324) (v := 0) X201 C at_323 rfl rfl ?_
        refine W.istore (q := 326) (L' := #[.val (.int p0), .val (.int p1), .val (.int p2), .val (.int x3), .val (.int x4), .val (.int x5), .val (.int x6), .val (.int (2 : Int32)), .val (.int x8), .val (.ref t0), .val (.ref t1), .val (.ref t2), .val (.ref t3), .val (.ref tf), .val (.ref t2), .val .null, .val (.int (0 : Int32)), .val (.int (0 : Int32))]) X201 C at_324 rfl rfl ?_
        refine W.iload (q := 328) X201 C at_326 rfl rfl ?_
        refine W.iload (q := 330) X201 C at_328 rfl rfl ?_
        refine W.icmpF (q := 333) X201 C at_330 rfl (by decide : W.cF .ne (0 : Int32) (0 : Int32)) ?_
        refine W.iconst (q := 334) (v := 1) X201 C at_333 rfl rfl ?_
        refine W.goto (q := 338) X201 C at_334 (by decide) (by decide) ?_
        exact W.retN X201 C (by simp) e201 at_338 rfl (by first | omega | (simp only [room_1]; omega) | (dsimp only; omega)) (by first | omega | (simp only [room_1]; omega) | (dsimp only; omega)) ⟨⟨rfl, N201⟩, hkk_185⟩
      · show W.Go p e below _ (T196.setTop (mkF m 289 #[.val (.int p0), .val (.int p1), .val (.int p2), .val (.int x3), .val (.int x4), .val (.int x5), .val (.int x6), .val (.int (3 : Int32)), .val (.int x8), .val (.ref t0), .val (.ref t1), .val (.ref t2), .val (.ref t3), .val (.ref tf), .val (.ref t3), .val .null, .unset, .unset] []))
        refine W.aload (q := 291) X196 C at_289 rfl rfl rfl ?_
        refine W.aload (q := 293) X196 C at_291 rfl rfl rfl ?_
        refine W.callV (q := 296) X196 C (W.ww hw 85 rfl) (W.ww hw 86 rfl) (W.nf C (W.ww hw 88 rfl)) (W.ww hw 88 rfl) (W.ww hw 87 rfl) (W.ww hw 38 rfl) (W.ww hw 89 rfl) (by decide) (rm12 l Z a0 hw [] t3 .null t0 t1 t2 t3 x3 x4 x5 (3 : Int32) (0 : Int32) h183 n0 (own_25 h3) (own_35 h4) (own_45 h5) rfl G_t0_187 Fw141_189 Fw155_191 Fw169_193 rfl (own_r5 (show own_r4 (3 : Int32) by decide)) ((own_dera (own_25 h3) (own_35 h4) (own_45 h5) own_eq0 5 _ (own_r5 (show own_r4 (3 : Int32) by decide))).trans (own_fin9 h3 h4 h5 (show own_r4 (3 : Int32) by decide)))) e196 E_t3_192 at_293 [.null] [] rfl rfl pd__28Lcom_2fexample_2ffedlint_2ffedlint_2fSchemaModel_24Type_3b_29Z rfl rfl (by decide) (Nat.le_of_ble_eq_true rfl) (by first | omega | (simp only [room_1]; omega) | (dsimp only; omega)) (by first | omega | (simp only [room_1]; omega) | (dsimp only; omega)) rfl (fun T202 w202 L202 X202 hQ202 => ?_)
        obtain ⟨rfl, NL202, e202⟩ := hQ202
        have N202 := Fr.app N196 NL202
        show W.Go p e below _ (T202.setTop (mkF m 296 #[.val (.int p0), .val (.int p1), .val (.int p2), .val (.int x3), .val (.int x4), .val (.int x5), .val (.int x6), .val (.int (3 : Int32)), .val (.int x8), .val (.ref t0), .val (.ref t1), .val (.ref t2), .val (.ref t3), .val (.ref tf), .val (.ref t3), .val .null, .unset, .unset] [(.int (0 : Int32))]))
        refine W.istore (q := 298) (L' := #[.val (.int p0), .val (.int p1), .val (.int p2), .val (.int x3), .val (.int x4), .val (.int x5), .val (.int x6), .val (.int (3 : Int32)), .val (.int x8), .val (.ref t0), .val (.ref t1), .val (.ref t2), .val (.ref t3), .val (.ref tf), .val (.ref t3), .val .null, .val (.int (0 : Int32)), .unset]) X202 C at_296 rfl rfl ?_
        refine W.iload (q := 300) X202 C at_298 rfl rfl ?_
        refine W.iconst (q := 301) (v := 4) X202 C at_300 rfl rfl ?_
        refine W.icmpT (q := 323) X202 C at_301 (by decide) (by decide) hc197 ?_
        refine W.iconst (q := 324) (v := 0) X202 C at_323 rfl rfl ?_
        refine W.istore (q := 326) (L' := #[.val (.int p0), .val (.int p1), .val (.int p2), .val (.int x3), .val (.int x4), .val (.int x5), .val (.int x6), .val (.int (3 : Int32)), .val (.int x8), .val (.ref t0), .val (.ref t1), .val (.ref t2), .val (.ref t3), .val (.ref tf), .val (.ref t3), .val .null, .val (.int (0 : Int32)), .val (.int (0 : Int32))]) X202 C at_324 rfl rfl ?_
        refine W.iload (q := 328) X202 C at_326 rfl rfl ?_
        refine W.iload (q := 330) X202 C at_328 rfl rfl ?_
        refine W.icmpF (q := 333) X202 C at_330 rfl (by decide : W.cF .ne (0 : Int32) (0 : Int32)) ?_
        refine W.iconst (q := 334) (v := 1) X202 C at_333 rfl rfl ?_
        refine W.goto (q := 338) X202 C at_334 (by decide) (by decide) ?_
        exact W.retN X202 C (by simp) e202 at_338 rfl (by first | omega | (simp only [room_1]; omega) | (dsimp only; omega)) (by first | omega | (simp only [room_1]; omega) | (dsimp only; omega)) ⟨⟨rfl, N202⟩, hkk_185⟩
    · replace hc198 : x8 = (4 : Int32) := hc198
      refine W.aload (q := 283) X196 C at_281 rfl rfl rfl ?_
      refine W.goto (q := 287) X196 C at_283 (by decide) (by decide) ?_
      refine W.astore (q := 289) (L' := #[.val (.int p0), .val (.int p1), .val (.int p2), .val (.int x3), .val (.int x4), .val (.int x5), .val (.int x6), .val (.int x7), .val (.int x8), .val (.ref t0), .val (.ref t1), .val (.ref t2), .val (.ref t3), .val (.ref tf), .val (own_node x7 t0 t1 t2 t3), .val (.ref tf), .unset, .unset]) X196 C at_287 rfl rfl rfl ?_
      rcases h7 with rfl | rfl | rfl | rfl
      · show W.Go p e below _ (T196.setTop (mkF m 289 #[.val (.int p0), .val (.int p1), .val (.int p2), .val (.int x3), .val (.int x4), .val (.int x5), .val (.int x6), .val (.int (0 : Int32)), .val (.int x8), .val (.ref t0), .val (.ref t1), .val (.ref t2), .val (.ref t3), .val (.ref tf), .val (.ref t0), .val (.ref tf), .unset, .unset] []))
        refine W.aload (q := 291) X196 C at_289 rfl rfl rfl ?_
        refine W.aload (q := 293) X196 C at_291 rfl rfl rfl ?_
        refine W.callV (q := 296) X196 C (W.ww hw 85 rfl) (W.ww hw 86 rfl) (W.nf C (W.ww hw 88 rfl)) (W.ww hw 88 rfl) (W.ww hw 87 rfl) (W.ww hw 38 rfl) (W.ww hw 89 rfl) (by decide) (rm12 l Z a0 hw [] t0 (.ref tf) t0 t1 t2 t3 x3 x4 x5 (0 : Int32) (0 : Int32) h183 n0 (own_25 h3) (own_35 h4) (own_45 h5) rfl G_t0_187 Fw141_189 Fw155_191 Fw169_193 rfl (own_r5 (show own_r4 (0 : Int32) by decide)) ((own_dera (own_25 h3) (own_35 h4) (own_45 h5) (own_eqf n_t0_tf n_t1_tf n_t2_tf n_t3_tf) 5 _ (own_r5 (show own_r4 (0 : Int32) by decide))).trans (own_fin9 h3 h4 h5 (show own_r4 (0 : Int32) by decide)))) e196 E_t0_186 at_293 [(.ref tf)] [] rfl rfl pd__28Lcom_2fexample_2ffedlint_2ffedlint_2fSchemaModel_24Type_3b_29Z rfl rfl (by decide) (Nat.le_of_ble_eq_true rfl) (by first | omega | (simp only [room_1]; omega) | (dsimp only; omega)) (by first | omega | (simp only [room_1]; omega) | (dsimp only; omega)) rfl (fun T203 w203 L203 X203 hQ203 => ?_)
        obtain ⟨rfl, NL203, e203⟩ := hQ203
        have N203 := Fr.app N196 NL203
        show W.Go p e below _ (T203.setTop (mkF m 296 #[.val (.int p0), .val (.int p1), .val (.int p2), .val (.int x3), .val (.int x4), .val (.int x5), .val (.int x6), .val (.int (0 : Int32)), .val (.int x8), .val (.ref t0), .val (.ref t1), .val (.ref t2), .val (.ref t3), .val (.ref tf), .val (.ref t0), .val (.ref tf), .unset, .unset] [(.int (0 : Int32))]))
        refine W.istore (q := 298) (L' := #[.val (.int p0), .val (.int p1), .val (.int p2), .val (.int x3), .val (.int x4), .val (.int x5), .val (.int x6), .val (.int (0 : Int32)), .val (.int x8), .val (.ref t0), .val (.ref t1), .val (.ref t2), .val (.ref t3), .val (.ref tf), .val (.ref t0), .val (.ref tf), .val (.int (0 : Int32)), .unset]) X203 C at_296 rfl rfl ?_
        refine W.iload (q := 300) X203 C at_298 rfl rfl ?_
        refine W.iconst (q := 301) (v := 4) X203 C at_300 rfl rfl ?_
        refine W.icmpT (q := 323) X203 C at_301 (by decide) (by decide) hc197 ?_
        refine W.iconst (q := 324) (v := 0) X203 C at_323 rfl rfl ?_
        refine W.istore (q := 326) (L' := #[.val (.int p0), .val (.int p1), .val (.int p2), .val (.int x3), .val (.int x4), .val (.int x5), .val (.int x6), .val (.int (0 : Int32)), .val (.int x8), .val (.ref t0), .val (.ref t1), .val (.ref t2), .val (.ref t3), .val (.ref tf), .val (.ref t0), .val (.ref tf), .val (.int (0 : Int32)), .val (.int (0 : Int32))]) X203 C at_324 rfl rfl ?_
        refine W.iload (q := 328) X203 C at_326 rfl rfl ?_
        refine W.iload (q := 330) X203 C at_328 rfl rfl ?_
        refine W.icmpF (q := 333) X203 C at_330 rfl (by decide : W.cF .ne (0 : Int32) (0 : Int32)) ?_
        refine W.iconst (q := 334) (v := 1) X203 C at_333 rfl rfl ?_
        refine W.goto (q := 338) X203 C at_334 (by decide) (by decide) ?_
        exact W.retN X203 C (by simp) e203 at_338 rfl (by first | omega | (simp only [room_1]; omega) | (dsimp only; omega)) (by first | omega | (simp only [room_1]; omega) | (dsimp only; omega)) ⟨⟨rfl, N203⟩, hkk_185⟩
      · show W.Go p e below _ (T196.setTop (mkF m 289 #[.val (.int p0), .val (.int p1), .val (.int p2), .val (.int x3), .val (.int x4), .val (.int x5), .val (.int x6), .val (.int (1 : Int32)), .val (.int x8), .val (.ref t0), .val (.ref t1), .val (.ref t2), .val (.ref t3), .val (.ref tf), .val (.ref t1), .val (.ref tf), .unset, .unset] []))
        refine W.aload (q := 291) X196 C at_289 rfl rfl rfl ?_
        refine W.aload (q := 293) X196 C at_291 rfl rfl rfl ?_
        refine W.callV (q := 296) X196 C (W.ww hw 85 rfl) (W.ww hw 86 rfl) (W.nf C (W.ww hw 88 rfl)) (W.ww hw 88 rfl) (W.ww hw 87 rfl) (W.ww hw 38 rfl) (W.ww hw 89 rfl) (by decide) (rm12 l Z a0 hw [] t1 (.ref tf) t0 t1 t2 t3 x3 x4 x5 (1 : Int32) (0 : Int32) h183 n0 (own_25 h3) (own_35 h4) (own_45 h5) rfl G_t0_187 Fw141_189 Fw155_191 Fw169_193 rfl (own_r5 (show own_r4 (1 : Int32) by decide)) ((own_dera (own_25 h3) (own_35 h4) (own_45 h5) (own_eqf n_t0_tf n_t1_tf n_t2_tf n_t3_tf) 5 _ (own_r5 (show own_r4 (1 : Int32) by decide))).trans (own_fin9 h3 h4 h5 (show own_r4 (1 : Int32) by decide)))) e196 E_t1_188 at_293 [(.ref tf)] [] rfl rfl pd__28Lcom_2fexample_2ffedlint_2ffedlint_2fSchemaModel_24Type_3b_29Z rfl rfl (by decide) (Nat.le_of_ble_eq_true rfl) (by first | omega | (simp only [room_1]; omega) | (dsimp only; omega)) (by first | omega | (simp only [room_1]; omega) | (dsimp only; omega)) rfl (fun T204 w204 L204 X204 hQ204 => ?_)
        obtain ⟨rfl, NL204, e204⟩ := hQ204
        have N204 := Fr.app N196 NL204
        show W.Go p e below _ (T204.setTop (mkF m 296 #[.val (.int p0), .val (.int p1), .val (.int p2), .val (.int x3), .val (.int x4), .val (.int x5), .val (.int x6), .val (.int (1 : Int32)), .val (.int x8), .val (.ref t0), .val (.ref t1), .val (.ref t2), .val (.ref t3), .val (.ref tf), .val (.ref t1), .val (.ref tf), .unset, .unset] [(.int (0 : Int32))]))
        refine W.istore (q := 298) (L' := #[.val (.int p0), .val (.int p1), .val (.int p2), .val (.int x3), .val (.int x4), .val (.int x5), .val (.int x6), .val (.int (1 : Int32)), .val (.int x8), .val (.ref t0), .val (.ref t1), .val (.ref t2), .val (.ref t3), .val (.ref tf), .val (.ref t1), .val (.ref tf), .val (.int (0 : Int32)), .unset]) X204 C at_296 rfl rfl ?_
        refine W.iload (q := 300) X204 C at_298 rfl rfl ?_
        refine W.iconst (q := 301) (v := 4) X204 C at_300 rfl rfl ?_
        refine W.icmpT (q := 323) X204 C at_301 (by decide) (by decide) hc197 ?_
        refine W.iconst (q := 324) (v := 0) X204 C at_323 rfl rfl ?_
        refine W.istore (q := 326) (L' := #[.val (.int p0), .val (.int p1), .val (.int p2), .val (.int x3), .val (.int x4), .val (.int x5), .val (.int x6), .val (.int (1 : Int32)), .val (.int x8), .val (.ref t0), .val (.ref t1), .val (.ref t2), .val (.ref t3), .val (.ref tf), .val (.ref t1), .val (.ref tf), .val (.int (0 : Int32)), .val (.int (0 : Int32))]) X204 C at_324 rfl rfl ?_
        refine W.iload (q := 328) X204 C at_326 rfl rfl ?_
        refine W.iload (q := 330) X204 C at_328 rfl rfl ?_
        refine W.icmpF (q := 333) X204 C at_330 rfl (by decide : W.cF .ne (0 : Int32) (0 : Int32)) ?_
        refine W.iconst (q := 334) (v := 1) X204 C at_333 rfl rfl ?_
        refine W.goto (q := 338) X204 C at_334 (by decide) (by decide) ?_
        exact W.retN X204 C (by simp) e204 at_338 rfl (by first | omega | (simp only [room_1]; omega) | (dsimp only; omega)) (by first | omega | (simp only [room_1]; omega) | (dsimp only; omega)) ⟨⟨rfl, N204⟩, hkk_185⟩
      · show W.Go p e below _ (T196.setTop (mkF m 289 #[.val (.int p0), .val (.int p1), .val (.int p2), .val (.int x3), .val (.int x4), .val (.int x5), .val (.int x6), .val (.int (2 : Int32)), .val (.int x8), .val (.ref t0), .val (.ref t1), .val (.ref t2), .val (.ref t3), .val (.ref tf), .val (.ref t2), .val (.ref tf), .unset, .unset] []))
        refine W.aload (q := 291) X196 C at_289 rfl rfl rfl ?_
        refine W.aload (q := 293) X196 C at_291 rfl rfl rfl ?_
        refine W.callV (q := 296) X196 C (W.ww hw 85 rfl) (W.ww hw 86 rfl) (W.nf C (W.ww hw 88 rfl)) (W.ww hw 88 rfl) (W.ww hw 87 rfl) (W.ww hw 38 rfl) (W.ww hw 89 rfl) (by decide) (rm12 l Z a0 hw [] t2 (.ref tf) t0 t1 t2 t3 x3 x4 x5 (2 : Int32) (0 : Int32) h183 n0 (own_25 h3) (own_35 h4) (own_45 h5) rfl G_t0_187 Fw141_189 Fw155_191 Fw169_193 rfl (own_r5 (show own_r4 (2 : Int32) by decide)) ((own_dera (own_25 h3) (own_35 h4) (own_45 h5) (own_eqf n_t0_tf n_t1_tf n_t2_tf n_t3_tf) 5 _ (own_r5 (show own_r4 (2 : Int32) by decide))).trans (own_fin9 h3 h4 h5 (show own_r4 (2 : Int32) by decide)))) e196 E_t2_190 at_293 [(.ref tf)] [] rfl rfl pd__28Lcom_2fexample_2ffedlint_2ffedlint_2fSchemaModel_24Type_3b_29Z rfl rfl (by decide) (Nat.le_of_ble_eq_true rfl) (by first | omega | (simp only [room_1]; omega) | (dsimp only; omega)) (by first | omega | (simp only [room_1]; omega) | (dsimp only; omega)) rfl (fun T205 w205 L205 X205 hQ205 => ?_)
        obtain ⟨rfl, NL205, e205⟩ := hQ205
        have N205 := Fr.app N196 NL205
        show W.Go p e below _ (T205.setTop (mkF m 296 #[.val (.int p0), .val (.int p1), .val (.int p2), .val (.int x3), .val (.int x4), .val (.int x5), .val (.int x6), .val (.int (2 : Int32)), .val (.int x8), .val (.ref t0), .val (.ref t1), .val (.ref t2), .val (.ref t3), .val (.ref tf), .val (.ref t2), .val (.ref tf), .unset, .unset] [(.int (0 : Int32))]))
        refine W.istore (q := 298) (L' := #[.val (.int p0), .val (.int p1), .val (.int p2), .val (.int x3), .val (.int x4), .val (.int x5), .val (.int x6), .val (.int (2 : Int32)), .val (.int x8), .val (.ref t0), .val (.ref t1), .val (.ref t2), .val (.ref t3), .val (.ref tf), .val (.ref t2), .val (.ref tf), .val (.int (0 : Int32)), .unset]) X205 C at_296 rfl rfl ?_
        refine W.iload (q := 300) X205 C at_298 rfl rfl ?_
        refine W.iconst (q := 301) (v := 4) X205 C at_300 rfl rfl ?_
        refine W.icmpT (q := 323) X205 C at_301 (by decide) (by decide) hc197 ?_
        refine W.iconst (q := 324) (v := 0) X205 C at_323 rfl rfl ?_
        refine W.istore (q := 326) (L' := #[.val (.int p0), .val (.int p1), .val (.int p2), .val (.int x3), .val (.int x4), .val (.int x5), .val (.int x6), .val (.int (2 : Int32)), .val (.int x8), .val (.ref t0), .val (.ref t1), .val (.ref t2), .val (.ref t3), .val (.ref tf), .val (.ref t2), .val (.ref tf), .val (.int (0 : Int32)), .val (.int (0 : Int32))]) X205 C at_324 rfl rfl ?_
        refine W.iload (q := 328) X205 C at_326 rfl rfl ?_
        refine W.iload (q := 330) X205 C at_328 rfl rfl ?_
        refine W.icmpF (q := 333) X205 C at_330 rfl (by decide : W.cF .ne (0 : Int32) (0 : Int32)) ?_
        refine W.iconst (q := 334) (v := 1) X205 C at_333 rfl rfl ?_
        refine W.goto (q := 338) X205 C at_334 (by decide) (by decide) ?_
        exact W.retN X205 C (by simp) e205 at_338 rfl (by first | omega | (simp only [room_1]; omega) | (dsimp only; omega)) (by first | omega | (simp only [room_1]; omega) | (dsimp only; omega)) ⟨⟨rfl, N205⟩, hkk_185⟩
      · show W.Go p e below _ (T196.setTop (mkF m 289 #[.val (.int p0), .val (.int p1), .val (.int p2), .val (.int x3), .val (.int x4), .val (.int x5), .val (.int x6), .val (.int (3 : Int32)), .val (.int x8), .val (.ref t0), .val (.ref t1), .val (.ref t2), .val (.ref t3), .val (.ref tf), .val (.ref t3), .val (.ref tf), .unset, .unset] []))
        refine W.aload (q := 291) X196 C at_289 rfl rfl rfl ?_
        refine W.aload (q := 293) X196 C at_291 rfl rfl rfl ?_
        refine W.callV (q := 296) X196 C (W.ww hw 85 rfl) (W.ww hw 86 rfl) (W.nf C (W.ww hw 88 rfl)) (W.ww hw 88 rfl) (W.ww hw 87 rfl) (W.ww hw 38 rfl) (W.ww hw 89 rfl) (by decide) (rm12 l Z a0 hw [] t3 (.ref tf) t0 t1 t2 t3 x3 x4 x5 (3 : Int32) (0 : Int32) h183 n0 (own_25 h3) (own_35 h4) (own_45 h5) rfl G_t0_187 Fw141_189 Fw155_191 Fw169_193 rfl (own_r5 (show own_r4 (3 : Int32) by decide)) ((own_dera (own_25 h3) (own_35 h4) (own_45 h5) (own_eqf n_t0_tf n_t1_tf n_t2_tf n_t3_tf) 5 _ (own_r5 (show own_r4 (3 : Int32) by decide))).trans (own_fin9 h3 h4 h5 (show own_r4 (3 : Int32) by decide)))) e196 E_t3_192 at_293 [(.ref tf)] [] rfl rfl pd__28Lcom_2fexample_2ffedlint_2ffedlint_2fSchemaModel_24Type_3b_29Z rfl rfl (by decide) (Nat.le_of_ble_eq_true rfl) (by first | omega | (simp only [room_1]; omega) | (dsimp only; omega)) (by first | omega | (simp only [room_1]; omega) | (dsimp only; omega)) rfl (fun T206 w206 L206 X206 hQ206 => ?_)
        obtain ⟨rfl, NL206, e206⟩ := hQ206
        have N206 := Fr.app N196 NL206
        show W.Go p e below _ (T206.setTop (mkF m 296 #[.val (.int p0), .val (.int p1), .val (.int p2), .val (.int x3), .val (.int x4), .val (.int x5), .val (.int x6), .val (.int (3 : Int32)), .val (.int x8), .val (.ref t0), .val (.ref t1), .val (.ref t2), .val (.ref t3), .val (.ref tf), .val (.ref t3), .val (.ref tf), .unset, .unset] [(.int (0 : Int32))]))
        refine W.istore (q := 298) (L' := #[.val (.int p0), .val (.int p1), .val (.int p2), .val (.int x3), .val (.int x4), .val (.int x5), .val (.int x6), .val (.int (3 : Int32)), .val (.int x8), .val (.ref t0), .val (.ref t1), .val (.ref t2), .val (.ref t3), .val (.ref tf), .val (.ref t3), .val (.ref tf), .val (.int (0 : Int32)), .unset]) X206 C at_296 rfl rfl ?_
        refine W.iload (q := 300) X206 C at_298 rfl rfl ?_
        refine W.iconst (q := 301) (v := 4) X206 C at_300 rfl rfl ?_
        refine W.icmpT (q := 323) X206 C at_301 (by decide) (by decide) hc197 ?_
        refine W.iconst (q := 324) (v := 0) X206 C at_323 rfl rfl ?_
        refine W.istore (q := 326) (L' := #[.val (.int p0), .val (.int p1), .val (.int p2), .val (.int x3), .val (.int x4), .val (.int x5), .val (.int x6), .val (.int (3 : Int32)), .val (.int x8), .val (.ref t0), .val (.ref t1), .val (.ref t2), .val (.ref t3), .val (.ref tf), .val (.ref t3), .val (.ref tf), .val (.int (0 : Int32)), .val (.int (0 : Int32))]) X206 C at_324 rfl rfl ?_
        refine W.iload (q := 328) X206 C at_326 rfl rfl ?_
        refine W.iload (q := 330) X206 C at_328 rfl rfl ?_
        refine W.icmpF (q := 333) X206 C at_330 rfl (by decide : W.cF .ne (0 : Int32) (0 : Int32)) ?_
        refine W.iconst (q := 334) (v := 1) X206 C at_333 rfl rfl ?_
        refine W.goto (q := 338) X206 C at_334 (by decide) (by decide) ?_
        exact W.retN X206 C (by simp) e206 at_338 rfl (by first | omega | (simp only [room_1]; omega) | (dsimp only; omega)) (by first | omega | (simp only [room_1]; omega) | (dsimp only; omega)) ⟨⟨rfl, N206⟩, hkk_185⟩
  · replace hc197 : x8.toInt < (4 : Int32).toInt := hc197
    refine W.iload (q := 261) X196 C at_259 rfl rfl ?_
    refine W.aload (q := 263) X196 C at_261 rfl rfl rfl ?_
    refine W.aload (q := 265) X196 C at_263 rfl rfl rfl ?_
    refine W.aload (q := 267) X196 C at_265 rfl rfl rfl ?_
    refine W.aload (q := 269) X196 C at_267 rfl rfl rfl ?_
    refine W.callS (q := 272) X196 C (W.ww hw 78 rfl) (W.ww hw 79 rfl) (W.ww hw 80 rfl) (W.ww hw 81 rfl) (by decide) (rm11 l Z a0 hw [] x8 t0 t1 t2 t3 h183 n0) e196 at_269 [(.int x8), (.ref t0), (.ref t1), (.ref t2), (.ref t3)] [] rfl rfl pd__28ILcom_2fexample_2ffedlint_2ffedlint_2fSchemaModel_24ComplexType_3bLcom_2fexample_2ffedlint_2ffedlint_2fSchemaModel_24ComplexType_3bLcom_2fexample_2ffedlint_2ffedlint_2fSchemaModel_24ComplexType_3bLcom_2fexample_2ffedlint_2ffedlint_2fSchemaModel_24ComplexType_3b_29Lcom_2fexample_2ffedlint_2ffedlint_2fSchemaModel_24ComplexType_3b rfl rfl (by decide) (Nat.le_of_ble_eq_true rfl) (by first | omega | (simp only [room_1]; omega) | (dsimp only; omega)) (by first | omega | (simp only [room_1]; omega) | (dsimp only; omega)) rfl (fun T207 w207 L207 X207 hQ207 => ?_)
    obtain ⟨rfl, NL207, e207⟩ := hQ207
    have N207 := Fr.app N196 NL207
    show W.Go p e below _ (T207.setTop (mkF m 272 #[.val (.int p0), .val (.int p1), .val (.int p2), .val (.int x3), .val (.int x4), .val (.int x5), .val (.int x6), .val (.int x7), .val (.int x8), .val (.ref t0), .val (.ref t1), .val (.ref t2), .val (.ref t3), .val (.ref tf), .val (own_node x7 t0 t1 t2 t3), .unset, .unset, .unset] [(own_node x8 t0 t1 t2 t3)]))
    refine W.goto (q := 287) X207 C at_272 (by decide) (by decide) ?_
    refine W.astore (q := 289) (L' := #[.val (.int p0), .val (.int p1), .val (.int p2), .val (.int x3), .val (.int x4), .val (.int x5), .val (.int x6), .val (.int x7), .val (.int x8), .val (.ref t0), .val (.ref t1), .val (.ref t2), .val (.ref t3), .val (.ref tf), .val (own_node x7 t0 t1 t2 t3), .val (own_node x8 t0 t1 t2 t3), .unset, .unset]) X207 C at_287 (own_node_ref _ _ _ _ _) (Jvm.Free.XS.store1 rfl One.u (W.catRef (own_node_ref _ _ _ _ _))) rfl ?_
    rcases h7 with rfl | rfl | rfl | rfl
    · show W.Go p e below _ (T207.setTop (mkF m 289 #[.val (.int p0), .val (.int p1), .val (.int p2), .val (.int x3), .val (.int x4), .val (.int x5), .val (.int x6), .val (.int (0 : Int32)), .val (.int x8), .val (.ref t0), .val (.ref t1), .val (.ref t2), .val (.ref t3), .val (.ref tf), .val (.ref t0), .val (own_node x8 t0 t1 t2 t3), .unset, .unset] []))
      refine W.aload (q := 291) X207 C at_289 rfl rfl rfl ?_
      refine W.aload (q := 293) X207 C at_291 rfl (own_node_ref _ _ _ _ _) rfl ?_
      refine W.callV (q := 296) X207 C (W.ww hw 85 rfl) (W.ww hw 86 rfl) (W.nf C (W.ww hw 88 rfl)) (W.ww hw 88 rfl) (W.ww hw 87 rfl) (W.ww hw 38 rfl) (W.ww hw 89 rfl) (by decide) (rm12 l Z a0 hw [] t0 (own_node x8 t0 t1 t2 t3) t0 t1 t2 t3 x3 x4 x5 (0 : Int32) (own_rch (0 : Int32) x8 x3 x4 x5) h183 n0 (own_25 h3) (own_35 h4) (own_45 h5) (own_node_ref _ _ _ _ _) G_t0_187 Fw141_189 Fw155_191 Fw169_193 rfl (own_r5 (show own_r4 (0 : Int32) by decide)) ((own_dera (own_25 h3) (own_35 h4) (own_45 h5) (own_eqn n_t0_t1 n_t0_t2 n_t0_t3 n_t1_t2 n_t1_t3 n_t2_t3 (own_o4 h8 hc197)) 5 _ (own_r5 (show own_r4 (0 : Int32) by decide))).trans (own_fin h3 h4 h5 (show own_r4 (0 : Int32) by decide) (own_o4 h8 hc197)))) e207 E_t0_186 at_293 [(own_node x8 t0 t1 t2 t3)] [] rfl rfl pd__28Lcom_2fexample_2ffedlint_2ffedlint_2fSchemaModel_24Type_3b_29Z rfl rfl (by decide) (Nat.le_of_ble_eq_true rfl) (by first | omega | (simp only [room_1]; omega) | (dsimp only; omega)) (by first | omega | (simp only [room_1]; omega) | (dsimp only; omega)) rfl (fun T208 w208 L208 X208 hQ208 => ?_)
      obtain ⟨rfl, NL208, e208⟩ := hQ208
      have N208 := Fr.app N207 NL208
      show W.Go p e below _ (T208.setTop (mkF m 296 #[.val (.int p0), .val (.int p1), .val (.int p2), .val (.int x3), .val (.int x4), .val (.int x5), .val (.int x6), .val (.int (0 : Int32)), .val (.int x8), .val (.ref t0), .val (.ref t1), .val (.ref t2), .val (.ref t3), .val (.ref tf), .val (.ref t0), .val (own_node x8 t0 t1 t2 t3), .unset, .unset] [(.int (own_rch (0 : Int32) x8 x3 x4 x5))]))
      refine W.istore (q := 298) (L' := #[.val (.int p0), .val (.int p1), .val (.int p2), .val (.int x3), .val (.int x4), .val (.int x5), .val (.int x6), .val (.int (0 : Int32)), .val (.int x8), .val (.ref t0), .val (.ref t1), .val (.ref t2), .val (.ref t3), .val (.ref tf), .val (.ref t0), .val (own_node x8 t0 t1 t2 t3), .val (.int (own_rch (0 : Int32) x8 x3 x4 x5)), .unset]) X208 C at_296 rfl rfl ?_
      refine W.iload (q := 300) X208 C at_298 rfl rfl ?_
      refine W.iconst (q := 301) (v := 4) X208 C at_300 rfl rfl ?_
      refine W.icmpF (q := 304) X208 C at_301 rfl hc197 ?_
      refine W.iload (q := 306) X208 C at_304 rfl rfl ?_
      refine W.iload (q := 308) X208 C at_306 rfl rfl ?_
      refine W.iloadN (q := 309) X208 C at_308 rfl rfl ?_
      refine W.iload (q := 311) X208 C at_309 rfl rfl ?_
      refine W.iload (q := 313) X208 C at_311 rfl rfl ?_
      refine W.callS (q := 316) X208 C (W.ww hw 91 rfl) (W.ww hw 92 rfl) (W.ww hw 80 rfl) (W.ww hw 93 rfl) (by decide) (rm13 l Z a0 hw [] (0 : Int32) x8 x3 x4 x5 h183 n0) e208 at_313 [(.int (0 : Int32)), (.int x8), (.int x3), (.int x4), (.int x5)] [] rfl rfl pd__28IIIII_29Z rfl rfl (by decide) (Nat.le_of_ble_eq_true rfl) (by first | omega | (simp only [room_1]; omega) | (dsimp only; omega)) (by first | omega | (simp only [room_1]; omega) | (dsimp only; omega)) rfl (fun T209 w209 L209 X209 hQ209 => ?_)
      obtain ⟨rfl, NL209, e209⟩ := hQ209
      have N209 := Fr.app N208 NL209
      show W.Go p e below _ (T209.setTop (mkF m 316 #[.val (.int p0), .val (.int p1), .val (.int p2), .val (.int x3), .val (.int x4), .val (.int x5), .val (.int x6), .val (.int (0 : Int32)), .val (.int x8), .val (.ref t0), .val (.ref t1), .val (.ref t2), .val (.ref t3), .val (.ref tf), .val (.ref t0), .val (own_node x8 t0 t1 t2 t3), .val (.int (own_rch (0 : Int32) x8 x3 x4 x5)), .unset] [(.int (own_rch (0 : Int32) x8 x3 x4 x5))]))
      refine W.if_ (q := 323) (q' := 319) X209 C at_316 (by decide) (by decide) rfl (fun hc210 => ?_) (fun hc210 => ?_)
      · replace hc210 : (own_rch (0 : Int32) x8 x3 x4 x5) = 0 := hc210
        refine W.iconst (q := 324) (v := 0) X209 C at_323 rfl rfl ?_
        refine W.istore (q := 326) (L' := #[.val (.int p0), .val (.int p1), .val (.int p2), .val (.int x3), .val (.int x4), .val (.int x5), .val (.int x6), .val (.int (0 : Int32)), .val (.int x8), .val (.ref t0), .val (.ref t1), .val (.ref t2), .val (.ref t3), .val (.ref tf), .val (.ref t0), .val (own_node x8 t0 t1 t2 t3), .val (.int (own_rch (0 : Int32) x8 x3 x4 x5)), .val (.int (0 : Int32))]) X209 C at_324 rfl rfl ?_
        refine W.iload (q := 328) X209 C at_326 rfl rfl ?_
        refine W.iload (q := 330) X209 C at_328 rfl rfl ?_
        refine W.icmpF (q := 333) X209 C at_330 rfl hc210 ?_
        refine W.iconst (q := 334) (v := 1) X209 C at_333 rfl rfl ?_
        refine W.goto (q := 338) X209 C at_334 (by decide) (by decide) ?_
        exact W.retN X209 C (by simp) e209 at_338 rfl (by first | omega | (simp only [room_1]; omega) | (dsimp only; omega)) (by first | omega | (simp only [room_1]; omega) | (dsimp only; omega)) ⟨⟨rfl, N209⟩, hkk_185⟩
      · replace hc210 : (own_rch (0 : Int32) x8 x3 x4 x5) ≠ 0 := hc210
        refine W.iconst (q := 320) (v := 1) X209 C at_319 rfl rfl ?_
        refine W.goto (q := 324) X209 C at_320 (by decide) (by decide) ?_
        refine W.istore (q := 326) (L' := #[.val (.int p0), .val (.int p1), .val (.int p2), .val (.int x3), .val (.int x4), .val (.int x5), .val (.int x6), .val (.int (0 : Int32)), .val (.int x8), .val (.ref t0), .val (.ref t1), .val (.ref t2), .val (.ref t3), .val (.ref tf), .val (.ref t0), .val (own_node x8 t0 t1 t2 t3), .val (.int (own_rch (0 : Int32) x8 x3 x4 x5)), .val (.int (1 : Int32))]) X209 C at_324 rfl rfl ?_
        refine W.iload (q := 328) X209 C at_326 rfl rfl ?_
        refine W.iload (q := 330) X209 C at_328 rfl rfl ?_
        refine W.icmpF (q := 333) X209 C at_330 rfl (own_rch01 hc210) ?_
        refine W.iconst (q := 334) (v := 1) X209 C at_333 rfl rfl ?_
        refine W.goto (q := 338) X209 C at_334 (by decide) (by decide) ?_
        exact W.retN X209 C (by simp) e209 at_338 rfl (by first | omega | (simp only [room_1]; omega) | (dsimp only; omega)) (by first | omega | (simp only [room_1]; omega) | (dsimp only; omega)) ⟨⟨rfl, N209⟩, hkk_185⟩
    · show W.Go p e below _ (T207.setTop (mkF m 289 #[.val (.int p0), .val (.int p1), .val (.int p2), .val (.int x3), .val (.int x4), .val (.int x5), .val (.int x6), .val (.int (1 : Int32)), .val (.int x8), .val (.ref t0), .val (.ref t1), .val (.ref t2), .val (.ref t3), .val (.ref tf), .val (.ref t1), .val (own_node x8 t0 t1 t2 t3), .unset, .unset] []))
      refine W.aload (q := 291) X207 C at_289 rfl rfl rfl ?_
      refine W.aload (q := 293) X207 C at_291 rfl (own_node_ref _ _ _ _ _) rfl ?_
      refine W.callV (q := 296) X207 C (W.ww hw 85 rfl) (W.ww hw 86 rfl) (W.nf C (W.ww hw 88 rfl)) (W.ww hw 88 rfl) (W.ww hw 87 rfl) (W.ww hw 38 rfl) (W.ww hw 89 rfl) (by decide) (rm12 l Z a0 hw [] t1 (own_node x8 t0 t1 t2 t3) t0 t1 t2 t3 x3 x4 x5 (1 : Int32) (own_rch (1 : Int32) x8 x3 x4 x5) h183 n0 (own_25 h3) (own_35 h4) (own_45 h5) (own_node_ref _ _ _ _ _) G_t0_187 Fw141_189 Fw155_191 Fw169_193 rfl (own_r5 (show own_r4 (1 : Int32) by decide)) ((own_dera (own_25 h3) (own_35 h4) (own_45 h5) (own_eqn n_t0_t1 n_t0_t2 n_t0_t3 n_t1_t2 n_t1_t3 n_t2_t3 (own_o4 h8 hc197)) 5 _ (own_r5 (show own_r4 (1 : Int32) by decide))).trans (own_fin h3 h4 h5 (show own_r4 (1 : Int32) by decide) (own_o4 h8 hc197)))) e207 E_t1_188 at_293 [(own_node x8 t0 t1 t2 t3)] [] rfl rfl pd__28Lcom_2fexample_2ffedlint_2ffedlint_2fSchemaModel_24Type_3b_29Z rfl rfl (by decide) (Nat.le_of_ble_eq_true rfl) (by first | omega | (simp only [room_1]; omega) | (dsimp only; omega)) (by first | omega | (simp only [room_1]; omega) | (dsimp only; omega)) rfl (fun T211 w211 L211 X211 hQ211 => ?_)
      obtain ⟨rfl, NL211, e211⟩ := hQ211
      have N211 := Fr.app N207 NL211
      show W.Go p e below _ (T211.setTop (mkF m 296 #[.val (.int p0), .val (.int p1), .val (.int p2), .val (.int x3), .val (.int x4), .val (.int x5), .val (.int x6), .val (.int (1 : Int32)), .val (.int x8), .val (.ref t0), .val (.ref t1), .val (.ref t2), .val (.ref t3), .val (.ref tf), .val (.ref t1), .val (own_node x8 t0 t1 t2 t3), .unset, .unset] [(.int (own_rch (1 : Int32) x8 x3 x4 x5))]))
      refine W.istore (q := 298) (L' := #[.val (.int p0), .val (.int p1), .val (.int p2), .val (.int x3), .val (.int x4), .val (.int x5), .val (.int x6), .val (.int (1 : Int32)), .val (.int x8), .val (.ref t0), .val (.ref t1), .val (.ref t2), .val (.ref t3), .val (.ref tf), .val (.ref t1), .val (own_node x8 t0 t1 t2 t3), .val (.int (own_rch (1 : Int32) x8 x3 x4 x5)), .unset]) X211 C at_296 rfl rfl ?_
      refine W.iload (q := 300) X211 C at_298 rfl rfl ?_
      refine W.iconst (q := 301) (v := 4) X211 C at_300 rfl rfl ?_
      refine W.icmpF (q := 304) X211 C at_301 rfl hc197 ?_
      refine W.iload (q := 306) X211 C at_304 rfl rfl ?_
      refine W.iload (q := 308) X211 C at_306 rfl rfl ?_
      refine W.iloadN (q := 309) X211 C at_308 rfl rfl ?_
      refine W.iload (q := 311) X211 C at_309 rfl rfl ?_
      refine W.iload (q := 313) X211 C at_311 rfl rfl ?_
      refine W.callS (q := 316) X211 C (W.ww hw 91 rfl) (W.ww hw 92 rfl) (W.ww hw 80 rfl) (W.ww hw 93 rfl) (by decide) (rm13 l Z a0 hw [] (1 : Int32) x8 x3 x4 x5 h183 n0) e211 at_313 [(.int (1 : Int32)), (.int x8), (.int x3), (.int x4), (.int x5)] [] rfl rfl pd__28IIIII_29Z rfl rfl (by decide) (Nat.le_of_ble_eq_true rfl) (by first | omega | (simp only [room_1]; omega) | (dsimp only; omega)) (by first | omega | (simp only [room_1]; omega) | (dsimp only; omega)) rfl (fun T212 w212 L212 X212 hQ212 => ?_)
      obtain ⟨rfl, NL212, e212⟩ := hQ212
      have N212 := Fr.app N211 NL212
      show W.Go p e below _ (T212.setTop (mkF m 316 #[.val (.int p0), .val (.int p1), .val (.int p2), .val (.int x3), .val (.int x4), .val (.int x5), .val (.int x6), .val (.int (1 : Int32)), .val (.int x8), .val (.ref t0), .val (.ref t1), .val (.ref t2), .val (.ref t3), .val (.ref tf), .val (.ref t1), .val (own_node x8 t0 t1 t2 t3), .val (.int (own_rch (1 : Int32) x8 x3 x4 x5)), .unset] [(.int (own_rch (1 : Int32) x8 x3 x4 x5))]))
      refine W.if_ (q := 323) (q' := 319) X212 C at_316 (by decide) (by decide) rfl (fun hc213 => ?_) (fun hc213 => ?_)
      · replace hc213 : (own_rch (1 : Int32) x8 x3 x4 x5) = 0 := hc213
        refine W.iconst (q := 324) (v := 0) X212 C at_323 rfl rfl ?_
        refine W.istore (q := 326) (L' := #[.val (.int p0), .val (.int p1), .val (.int p2), .val (.int x3), .val (.int x4), .val (.int x5), .val (.int x6), .val (.int (1 : Int32)), .val (.int x8), .val (.ref t0), .val (.ref t1), .val (.ref t2), .val (.ref t3), .val (.ref tf), .val (.ref t1), .val (own_node x8 t0 t1 t2 t3), .val (.int (own_rch (1 : Int32) x8 x3 x4 x5)), .val (.int (0 : Int32))]) X212 C at_324 rfl rfl ?_
        refine W.iload (q := 328) X212 C at_326 rfl rfl ?_
        refine W.iload (q := 330) X212 C at_328 rfl rfl ?_
        refine W.icmpF (q := 333) X212 C at_330 rfl hc213 ?_
        refine W.iconst (q := 334) (v := 1) X212 C at_333 rfl rfl ?_
        refine W.goto (q := 338) X212 C at_334 (by decide) (by decide) ?_
        exact W.retN X212 C (by simp) e212 at_338 rfl (by first | omega | (simp only [room_1]; omega) | (dsimp only; omega)) (by first | omega | (simp only [room_1]; omega) | (dsimp only; omega)) ⟨⟨rfl, N212⟩, hkk_185⟩
      · replace hc213 : (own_rch (1 : Int32) x8 x3 x4 x5) ≠ 0 := hc213
        refine W.iconst (q := 320) (v := 1) X212 C at_319 rfl rfl ?_
        refine W.goto (q := 324) X212 C at_320 (by decide) (by decide) ?_
        refine W.istore (q := 326) (L' := #[.val (.int p0), .val (.int p1), .val (.int p2), .val (.int x3), .val (.int x4), .val (.int x5), .val (.int x6), .val (.int (1 : Int32)), .val (.int x8), .val (.ref t0), .val (.ref t1), .val (.ref t2), .val (.ref t3), .val (.ref tf), .val (.ref t1), .val (own_node x8 t0 t1 t2 t3), .val (.int (own_rch (1 : Int32) x8 x3 x4 x5)), .val (.int (1 : Int32))]) X212 C at_324 rfl rfl ?_
        refine W.iload (q := 328) X212 C at_326 rfl rfl ?_
        refine W.iload (q := 330) X212 C at_328 rfl rfl ?_
        refine W.icmpF (q := 333) X212 C at_330 rfl (own_rch01 hc213) ?_
        refine W.iconst (q := 334) (v := 1) X212 C at_333 rfl rfl ?_
        refine W.goto (q := 338) X212 C at_334 (by decide) (by decide) ?_
        exact W.retN X212 C (by simp) e212 at_338 rfl (by first | omega | (simp only [room_1]; omega) | (dsimp only; omega)) (by first | omega | (simp only [room_1]; omega) | (dsimp only; omega)) ⟨⟨rfl, N212⟩, hkk_185⟩
    · show W.Go p e below _ (T207.setTop (mkF m 289 #[.val (.int p0), .val (.int p1), .val (.int p2), .val (.int x3), .val (.int x4), .val (.int x5), .val (.int x6), .val (.int (2 : Int32)), .val (.int x8), .val (.ref t0), .val (.ref t1), .val (.ref t2), .val (.ref t3), .val (.ref tf), .val (.ref t2), .val (own_node x8 t0 t1 t2 t3), .unset, .unset] []))
      refine W.aload (q := 291) X207 C at_289 rfl rfl rfl ?_
      refine W.aload (q := 293) X207 C at_291 rfl (own_node_ref _ _ _ _ _) rfl ?_
      refine W.callV (q := 296) X207 C (W.ww hw 85 rfl) (W.ww hw 86 rfl) (W.nf C (W.ww hw 88 rfl)) (W.ww hw 88 rfl) (W.ww hw 87 rfl) (W.ww hw 38 rfl) (W.ww hw 89 rfl) (by decide) (rm12 l Z a0 hw [] t2 (own_node x8 t0 t1 t2 t3) t0 t1 t2 t3 x3 x4 x5 (2 : Int32) (own_rch (2 : Int32) x8 x3 x4 x5) h183 n0 (own_25 h3) (own_35 h4) (own_45 h5) (own_node_ref _ _ _ _ _) G_t0_187 Fw141_189 Fw155_191 Fw169_193 rfl (own_r5 (show own_r4 (2 : Int32) by decide)) ((own_dera (own_25 h3) (own_35 h4) (own_45 h5) (own_eqn n_t0_t1 n_t0_t2 n_t0_t3 n_t1_t2 n_t1_t3 n_t2_t3 (own_o4 h8 hc197)) 5 _ (own_r5 (show own_r4 (2 : Int32) by decide))).trans (own_fin h3 h4 h5 (show own_r4 (2 : Int32) by decide) (own_o4 h8 hc197)))) e207 E_t2_190 at_293 [(own_node x8 t0 t1 t2 t3)] [] rfl rfl pd__28Lcom_2fexample_2ffedlint_2ffedlint_2fSchemaModel_24Type_3b_29Z rfl rfl (by decide) (Nat.le_of_ble_eq_true rfl) (by first | omega | (simp only [room_1]; omega) | (dsimp only; omega)) (by first | omega | (simp only [room_1]; omega) | (dsimp only; omega)) rfl (fun T214 w214 L214 X214 hQ214 => ?_)
      obtain ⟨rfl, NL214, e214⟩ := hQ214
      have N214 := Fr.app N207 NL214
      show W.Go p e below _ (T214.setTop (mkF m 296 #[.val (.int p0), .val (.int p1), .val (.int p2), .val (.int x3), .val (.int x4), .val (.int x5), .val (.int x6), .val (.int (2 : Int32)), .val (.int x8), .val (.ref t0), .val (.ref t1), .val (.ref t2), .val (.ref t3), .val (.ref tf), .val (.ref t2), .val (own_node x8 t0 t1 t2 t3), .unset, .unset] [(.int (own_rch (2 : Int32) x8 x3 x4 x5))]))
      refine W.istore (q := 298) (L' := #[.val (.int p0), .val (.int p1), .val (.int p2), .val (.int x3), .val (.int x4), .val (.int x5), .val (.int x6), .val (.int (2 : Int32)), .val (.int x8), .val (.ref t0), .val (.ref t1), .val (.ref t2), .val (.ref t3), .val (.ref tf), .val (.ref t2), .val (own_node x8 t0 t1 t2 t3), .val (.int (own_rch (2 : Int32) x8 x3 x4 x5)), .unset]) X214 C at_296 rfl rfl ?_
      refine W.iload (q := 300) X214 C at_298 rfl rfl ?_
      refine W.iconst (q := 301) (v := 4) X214 C at_300 rfl rfl ?_
      refine W.icmpF (q := 304) X214 C at_301 rfl hc197 ?_
      refine W.iload (q := 306) X214 C at_304 rfl rfl ?_
      refine W.iload (q := 308) X214 C at_306 rfl rfl ?_
      refine W.iloadN (q := 309) X214 C at_308 rfl rfl ?_
      refine W.iload (q := 311) X214 C at_309 rfl rfl ?_
      refine W.iload (q := 313) X214 C at_311 rfl rfl ?_
      refine W.callS (q := 316) X214 C (W.ww hw 91 rfl) (W.ww hw 92 rfl) (W.ww hw 80 rfl) (W.ww hw 93 rfl) (by decide) (rm13 l Z a0 hw [] (2 : Int32) x8 x3 x4 x5 h183 n0) e214 at_313 [(.int (2 : Int32)), (.int x8), (.int x3), (.int x4), (.int x5)] [] rfl rfl pd__28IIIII_29Z rfl rfl (by decide) (Nat.le_of_ble_eq_true rfl) (by first | omega | (simp only [room_1]; omega) | (dsimp only; omega)) (by first | omega | (simp only [room_1]; omega) | (dsimp only; omega)) rfl (fun T215 w215 L215 X215 hQ215 => ?_)
      obtain ⟨rfl, NL215, e215⟩ := hQ215
      have N215 := Fr.app N214 NL215
      show W.Go p e below _ (T215.setTop (mkF m 316 #[.val (.int p0), .val (.int p1), .val (.int p2), .val (.int x3), .val (.int x4), .val (.int x5), .val (.int x6), .val (.int (2 : Int32)), .val (.int x8), .val (.ref t0), .val (.ref t1), .val (.ref t2), .val (.ref t3), .val (.ref tf), .val (.ref t2), .val (own_node x8 t0 t1 t2 t3), .val (.int (own_rch (2 : Int32) x8 x3 x4 x5)), .unset] [(.int (own_rch (2 : Int32) x8 x3 x4 x5))]))
      refine W.if_ (q := 323) (q' := 319) X215 C at_316 (by decide) (by decide) rfl (fun hc216 => ?_) (fun hc216 => ?_)
      · replace hc216 : (own_rch (2 : Int32) x8 x3 x4 x5) = 0 := hc216
        refine W.iconst (q := 324) (v := 0) X215 C at_323 rfl rfl ?_
        refine W.istore (q := 326) (L' := #[.val (.int p0), .val (.int p1), .val (.int p2), .val (.int x3), .val (.int x4), .val (.int x5), .val (.int x6), .val (.int (2 : Int32)), .val (.int x8), .val (.ref t0), .val (.ref t1), .val (.ref t2), .val (.ref t3), .val (.ref tf), .val (.ref t2), .val (own_node x8 t0 t1 t2 t3), .val (.int (own_rch (2 : Int32) x8 x3 x4 x5)), .val (.int (0 : Int32))]) X215 C at_324 rfl rfl ?_
        refine W.iload (q := 328) X215 C at_326 rfl rfl ?_
        refine W.iload (q := 330) X215 C at_328 rfl rfl ?_
        refine W.icmpF (q := 333) X215 C at_330 rfl hc216 ?_
        refine W.iconst (q := 334) (v := 1) X215 C at_333 rfl rfl ?_
        refine W.goto (q := 338) X215 C at_334 (by decide) (by decide) ?_
        exact W.retN X215 C (by simp) e215 at_338 rfl (by first | omega | (simp only [room_1]; omega) | (dsimp only; omega)) (by first | omega | (simp only [room_1]; omega) | (dsimp only; omega)) ⟨⟨rfl, N215⟩, hkk_185⟩
      · replace hc216 : (own_rch (2 : Int32) x8 x3 x4 x5) ≠ 0 := hc216
        refine W.iconst (q := 320) (v := 1) X215 C at_319 rfl rfl ?_
        refine W.goto (q := 324) X215 C at_320 (by decide) (by decide) ?_
        refine W.istore (q := 326) (L' := #[.val (.int p0), .val (.int p1), .val (.int p2), .val (.int x3), .val (.int x4), .val (.int x5), .val (.int x6), .val (.int (2 : Int32)), .val (.int x8), .val (.ref t0), .val (.ref t1), .val (.ref t2), .val (.ref t3), .val (.ref tf), .val (.ref t2), .val (own_node x8 t0 t1 t2 t3), .val (.int (own_rch (2 : Int32) x8 x3 x4 x5)), .val (.int (1 : Int32))]) X215 C at_324 rfl rfl ?_
        refine W.iload (q := 328) X215 C at_326 rfl rfl ?_
        refine W.iload (q := 330) X215 C at_328 rfl rfl ?_
        refine W.icmpF (q := 333) X215 C at_330 rfl (own_rch01 hc216) ?_
        refine W.iconst (q := 334) (v := 1) X215 C at_333 rfl rfl ?_
        refine W.goto (q := 338) X215 C at_334 (by decide) (by decide) ?_
        exact W.retN X215 C (by simp) e215 at_338 rfl (by first | omega | (simp only [room_1]; omega) | (dsimp only; omega)) (by first | omega | (simp only [room_1]; omega) | (dsimp only; omega)) ⟨⟨rfl, N215⟩, hkk_185⟩
    · show W.Go p e below _ (T207.setTop (mkF m 289 #[.val (.int p0), .val (.int p1), .val (.int p2), .val (.int x3), .val (.int x4), .val (.int x5), .val (.int x6), .val (.int (3 : Int32)), .val (.int x8), .val (.ref t0), .val (.ref t1), .val (.ref t2), .val (.ref t3), .val (.ref tf), .val (.ref t3), .val (own_node x8 t0 t1 t2 t3), .unset, .unset] []))
      refine W.aload (q := 291) X207 C at_289 rfl rfl rfl ?_
      refine W.aload (q := 293) X207 C at_291 rfl (own_node_ref _ _ _ _ _) rfl ?_
      refine W.callV (q := 296) X207 C (W.ww hw 85 rfl) (W.ww hw 86 rfl) (W.nf C (W.ww hw 88 rfl)) (W.ww hw 88 rfl) (W.ww hw 87 rfl) (W.ww hw 38 rfl) (W.ww hw 89 rfl) (by decide) (rm12 l Z a0 hw [] t3 (own_node x8 t0 t1 t2 t3) t0 t1 t2 t3 x3 x4 x5 (3 : Int32) (own_rch (3 : Int32) x8 x3 x4 x5) h183 n0 (own_25 h3) (own_35 h4) (own_45 h5) (own_node_ref _ _ _ _ _) G_t0_187 Fw141_189 Fw155_191 Fw169_193 rfl (own_r5 (show own_r4 (3 : Int32) by decide)) ((own_dera (own_25 h3) (own_35 h4) (own_45 h5) (own_eqn n_t0_t1 n_t0_t2 n_t0_t3 n_t1_t2 n_t1_t3 n_t2_t3 (own_o4 h8 hc197)) 5 _ (own_r5 (show own_r4 (3 : Int32) by decide))).trans (own_fin h3 h4 h5 (show own_r4 (3 : Int32) by decide) (own_o4 h8 hc197)))) e207 E_t3_192 at_293 [(own_node x8 t0 t1 t2 t3)] [] rfl rfl pd__28Lcom_2fexample_2ffedlint_2ffedlint_2fSchemaModel_24Type_3b_29Z rfl rfl (by decide) (Nat.le_of_ble_eq_true rfl) (by first | omega | (simp only [room_1]; omega) | (dsimp only; omega)) (by first | omega | (simp only [room_1]; omega) | (dsimp only; omega)) rfl (fun T217 w217 L217 X217 hQ217 => ?_)
      obtain ⟨rfl, NL217, e217⟩ := hQ217
      have N217 := Fr.app N207 NL217
      show W.Go p e below _ (T217.setTop (mkF m 296 #[.val (.int p0), .val (.int p1), .val (.int p2), .val (.int x3), .val (.int x4), .val (.int x5), .val (.int x6), .val (.int (3 : Int32)), .val (.int x8), .val (.ref t0), .val (.ref t1), .val (.ref t2), .val (.ref t3), .val (.ref tf), .val (.ref t3), .val (own_node x8 t0 t1 t2 t3), .unset, .unset] [(.int (own_rch (3 : Int32) x8 x3 x4 x5))]))
      refine W.istore (q := 298) (L' := #[.val (.int p0), .val (.int p1), .val (.int p2), .val (.int x3), .val (.int x4), .val (.int x5), .val (.int x6), .val (.int (3 : Int32)), .val (.int x8), .val (.ref t0), .val (.ref t1), .val (.ref t2), .val (.ref t3), .val (.ref tf), .val (.ref t3), .val (own_node x8 t0 t1 t2 t3), .val (.int (own_rch (3 : Int32) x8 x3 x4 x5)), .unset]) X217 C at_296 rfl rfl ?_
      refine W.iload (q := 300) X217 C at_298 rfl rfl ?_
      refine W.iconst (q := 301) (v := 4) X217 C at_300 rfl rfl ?_
      refine W.icmpF (q := 304) X217 C at_301 rfl hc197 ?_
      refine W.iload (q := 306) X217 C at_304 rfl rfl ?_
      refine W.iload (q := 308) X217 C at_306 rfl rfl ?_
      refine W.iloadN (q := 309) X217 C at_308 rfl rfl ?_
      refine W.iload (q := 311) X217 C at_309 rfl rfl ?_
      refine W.iload (q := 313) X217 C at_311 rfl rfl ?_
      refine W.callS (q := 316) X217 C (W.ww hw 91 rfl) (W.ww hw 92 rfl) (W.ww hw 80 rfl) (W.ww hw 93 rfl) (by decide) (rm13 l Z a0 hw [] (3 : Int32) x8 x3 x4 x5 h183 n0) e217 at_313 [(.int (3 : Int32)), (.int x8), (.int x3), (.int x4), (.int x5)] [] rfl rfl pd__28IIIII_29Z rfl rfl (by decide) (Nat.le_of_ble_eq_true rfl) (by first | omega | (simp only [room_1]; omega) | (dsimp only; omega)) (by first | omega | (simp only [room_1]; omega) | (dsimp only; omega)) rfl (fun T218 w218 L218 X218 hQ218 => ?_)
      obtain ⟨rfl, NL218, e218⟩ := hQ218
      have N218 := Fr.app N217 NL218
      show W.Go p e below _ (T218.setTop (mkF m 316 #[.val (.int p0), .val (.int p1), .val (.int p2), .val (.int x3), .val (.int x4), .val (.int x5), .val (.int x6), .val (.int (3 : Int32)), .val (.int x8), .val (.ref t0), .val (.ref t1), .val (.ref t2), .val (.ref t3), .val (.ref tf), .val (.ref t3), .val (own_node x8 t0 t1 t2 t3), .val (.int (own_rch (3 : Int32) x8 x3 x4 x5)), .unset] [(.int (own_rch (3 : Int32) x8 x3 x4 x5))]))
      refine W.if_ (q := 323) (q' := 319) X218 C at_316 (by decide) (by decide) rfl (fun hc219 => ?_) (fun hc219 => ?_)
      · replace hc219 : (own_rch (3 : Int32) x8 x3 x4 x5) = 0 := hc219
        refine W.iconst (q := 324) (v := 0) X218 C at_323 rfl rfl ?_
        refine W.istore (q := 326) (L' := #[.val (.int p0), .val (.int p1), .val (.int p2), .val (.int x3), .val (.int x4), .val (.int x5), .val (.int x6), .val (.int (3 : Int32)), .val (.int x8), .val (.ref t0), .val (.ref t1), .val (.ref t2), .val (.ref t3), .val (.ref tf), .val (.ref t3), .val (own_node x8 t0 t1 t2 t3), .val (.int (own_rch (3 : Int32) x8 x3 x4 x5)), .val (.int (0 : Int32))]) X218 C at_324 rfl rfl ?_
        refine W.iload (q := 328) X218 C at_326 rfl rfl ?_
        refine W.iload (q := 330) X218 C at_328 rfl rfl ?_
        refine W.icmpF (q := 333) X218 C at_330 rfl hc219 ?_
        refine W.iconst (q := 334) (v := 1) X218 C at_333 rfl rfl ?_
        refine W.goto (q := 338) X218 C at_334 (by decide) (by decide) ?_
        exact W.retN X218 C (by simp) e218 at_338 rfl (by first | omega | (simp only [room_1]; omega) | (dsimp only; omega)) (by first | omega | (simp only [room_1]; omega) | (dsimp only; omega)) ⟨⟨rfl, N218⟩, hkk_185⟩
      · replace hc219 : (own_rch (3 : Int32) x8 x3 x4 x5) ≠ 0 := hc219
        refine W.iconst (q := 320) (v := 1) X218 C at_319 rfl rfl ?_
        refine W.goto (q := 324) X218 C at_320 (by decide) (by decide) ?_
        refine W.istore (q := 326) (L' := #[.val (.int p0), .val (.int p1), .val (.int p2), .val (.int x3), .val (.int x4), .val (.int x5), .val (.int x6), .val (.int (3 : Int32)), .val (.int x8), .val (.ref t0), .val (.ref t1), .val (.ref t2), .val (.ref t3), .val (.ref tf), .val (.ref t3), .val (own_node x8 t0 t1 t2 t3), .val (.int (own_rch (3 : Int32) x8 x3 x4 x5)), .val (.int (1 : Int32))]) X218 C at_324 rfl rfl ?_
        refine W.iload (q := 328) X218 C at_326 rfl rfl ?_
        refine W.iload (q := 330) X218 C at_328 rfl rfl ?_
        refine W.icmpF (q := 333) X218 C at_330 rfl (own_rch01 hc219) ?_
        refine W.iconst (q := 334) (v := 1) X218 C at_333 rfl rfl ?_
        refine W.goto (q := 338) X218 C at_334 (by decide) (by decide) ?_
        exact W.retN X218 C (by simp) e218 at_338 rfl (by first | omega | (simp only [room_1]; omega) | (dsimp only; omega)) (by first | omega | (simp only [room_1]; omega) | (dsimp only; omega)) ⟨⟨rfl, N218⟩, hkk_185⟩
theorem pd__28C_29Ljava_2flang_2fString_3b : parseMethodDescriptor "(C)Ljava/lang/String;" = some ⟨[.char], some (.object "java/lang/String")⟩ := by decide +kernel
def Q0 (Z : State) (p0 p1 p2 cs : Int32) (ea : Addr) (dv : Value) (h0 : Heap) (n0 : Nat) (v : Option Value) (h : Heap) (L : List Loc) : Prop := v = some (.int 1) ∧ Fr n0 L
set_option maxRecDepth 65536 in
set_option maxHeartbeats 40000000 in
theorem rm0 (l : Launch) (Z : State) (a0 : Array Value) (hw : ∀ d ∈ tables_1, d.before a0 Z = true) (ws : List Jvm.Cond) (p0 p1 p2 cs : Int32) (ea : Addr) (dv : Value) (h0 : Heap) (n0 : Nat) (Z0 : n0 ≤ h0.size) (O0 : Old Z n0 h0) (SC : Sta Z Z.heap "java/lang/String" "COMPACT_STRINGS" "Z" (.int cs)) (hcs : cs ≠ 0) (SE : Sta Z Z.heap "com/example/fedlint/fedlint/SchemaModel$ComplexType$Content" "EMPTY" "Lcom/example/fedlint/fedlint/SchemaModel$ComplexType$Content;" (.ref ea)) (SD : Sta Z Z.heap "java/util/ArrayList" "DEFAULTCAPACITY_EMPTY_ELEMENTDATA" "[Ljava/lang/Object;" dv) (hdv : dv.isRef = true) :
    MetFree l x (head1 (Jvm.Cond.code x code maxLocals ret :: ws) room_1) (fun a U => a = #[(.int p0), (.int p1), (.int p2)] ∧ Z.Warmed39 U.vm ∧ U.heap = h0) (fun _ _ _ _ _ => True) (fun _ U o U' => ∃ v L, o = .returned v ∧ Q0 Z p0 p1 p2 cs ea dv h0 n0 v U'.heap L ∧ ReturnedEndW U o U' L room_1.cells room_1.slots) := by
  refine W.bodyOfW (y := x) (as := #[(.int p0), (.int p1), (.int p2)]) (maxL := maxLocals) (Q := Q0 Z p0 p1 p2 cs ea dv h0 n0) (Ls := #[.val (.int p0), .val (.int p1), .val (.int p2), .unset, .unset, .unset, .unset, .unset, .unset, .unset, .unset, .unset, .unset, .unset, .unset, .unset, .unset, .unset]) (plainFor_of_name pn_com_example_fedlint_fedlint_TypeDerivesFromPinLaw) (fun m => by first | exact W.entry_of rfl | rfl | (simp [entryFrame, mkF, argsToLocals, Value.category, maxLocals]; done)) ?_
  intro p e s m below meth c T0 C X0 e0 hS0
  replace C : W.Cx p (s.setVm s.vm) m meth c Z code 18 "com/example/fedlint/fedlint/TypeDerivesFromPinLaw" "law" (some .boolean) := C
  have N0 := Fr.nil n0
  have hk0 : 0 ≤ h0.size := Nat.zero_le _
  have wS : ∀ d ∈ Bundle.stringAtoms, d.before a0 Z = true := by
    intro d hd
    simp only [Bundle.stringAtoms, List.mem_cons, List.not_mem_nil, or_false] at hd
    rcases hd with rfl | rfl | rfl | rfl | rfl | rfl | rfl
    · exact W.ww hw 4 rfl
    · exact W.ww hw 5 rfl
    · exact W.ww hw 6 rfl
    · exact W.ww hw 7 rfl
    · exact W.ww hw 8 rfl
    · exact W.ww hw 9 rfl
    · exact W.ww hw 10 rfl
  refine W.iloadN (q := 1) X0 C at_0 rfl rfl ?_
  refine W.iconst (q := 2) (v := 1) X0 C at_1 rfl rfl ?_
  refine W.iand (q := 3) X0 C at_2 rfl ?_
  refine W.iconst (q := 4) (v := 1) X0 C at_3 rfl rfl ?_
  refine W.isub (q := 5) X0 C at_4 rfl ?_
  generalize hv220 : ((p0 &&& (1 : Int32)) - (1 : Int32)) = v220
  refine W.istoreN (q := 6) (L' := #[.val (.int p0), .val (.int p1), .val (.int p2), .val (.int v220), .unset, .unset, .unset, .unset, .unset, .unset, .unset, .unset, .unset, .unset, .unset, .unset, .unset, .unset]) X0 C at_5 rfl rfl ?_
  refine W.iloadN (q := 7) X0 C at_6 rfl rfl ?_
  refine W.iconst (q := 8) (v := 1) X0 C at_7 rfl rfl ?_
  refine W.iushr (q := 9) X0 C at_8 rfl ?_
  refine W.iconst (q := 10) (v := 3) X0 C at_9 rfl rfl ?_
  refine W.iand (q := 11) X0 C at_10 rfl ?_
  refine W.iconst (q := 12) (v := 3) X0 C at_11 rfl rfl ?_
  refine W.irem (q := 13) X0 C at_12 (by decide) rfl ?_
  refine W.iconst (q := 14) (v := 1) X0 C at_13 rfl rfl ?_
  refine W.isub (q := 15) X0 C at_14 rfl ?_
  generalize hv221 : (((((p0.toUInt32 >>> ((1 : Int32) &&& 31).toUInt32).toInt32) &&& (3 : Int32)) % (3 : Int32)) - (1 : Int32)) = v221
  refine W.istore (q := 17) (L' := #[.val (.int p0), .val (.int p1), .val (.int p2), .val (.int v220), .val (.int v221), .unset, .unset, .unset, .unset, .unset, .unset, .unset, .unset, .unset, .unset, .unset, .unset, .unset]) X0 C at_15 rfl rfl ?_
  refine W.iloadN (q := 18) X0 C at_17 rfl rfl ?_
  refine W.iconst (q := 19) (v := 3) X0 C at_18 rfl rfl ?_
  refine W.iushr (q := 20) X0 C at_19 rfl ?_
  refine W.iconst (q := 21) (v := 3) X0 C at_20 rfl rfl ?_
  refine W.iand (q := 22) X0 C at_21 rfl ?_
  refine W.iconst (q := 23) (v := 1) X0 C at_22 rfl rfl ?_
  refine W.isub (q := 24) X0 C at_23 rfl ?_
  generalize hv222 : ((((p0.toUInt32 >>> ((3 : Int32) &&& 31).toUInt32).toInt32) &&& (3 : Int32)) - (1 : Int32)) = v222
  refine W.istore (q := 26) (L' := #[.val (.int p0), .val (.int p1), .val (.int p2), .val (.int v220), .val (.int v221), .val (.int v222), .unset, .unset, .unset, .unset, .unset, .unset, .unset, .unset, .unset, .unset, .unset, .unset]) X0 C at_24 rfl rfl ?_
  refine W.iloadN (q := 27) X0 C at_26 rfl rfl ?_
  refine W.iconst (q := 28) (v := 5) X0 C at_27 rfl rfl ?_
  refine W.iushr (q := 29) X0 C at_28 rfl ?_
  refine W.bipush (q := 31) (v := 7) X0 C at_29 rfl rfl ?_
  refine W.iand (q := 32) X0 C at_31 rfl ?_
  refine W.iconst (q := 33) (v := 5) X0 C at_32 rfl rfl ?_
  refine W.irem (q := 34) X0 C at_33 (by decide) rfl ?_
  refine W.iconst (q := 35) (v := 1) X0 C at_34 rfl rfl ?_
  refine W.isub (q := 36) X0 C at_35 rfl ?_
  generalize hv223 : (((((p0.toUInt32 >>> ((5 : Int32) &&& 31).toUInt32).toInt32) &&& (7 : Int32)) % (5 : Int32)) - (1 : Int32)) = v223
  refine W.istore (q := 38) (L' := #[.val (.int p0), .val (.int p1), .val (.int p2), .val (.int v220), .val (.int v221), .val (.int v222), .val (.int v223), .unset, .unset, .unset, .unset, .unset, .unset, .unset, .unset, .unset, .unset, .unset]) X0 C at_36 rfl rfl ?_
  refine W.iloadN (q := 39) X0 C at_38 rfl rfl ?_
  refine W.iconst (q := 40) (v := 3) X0 C at_39 rfl rfl ?_
  refine W.iand (q := 41) X0 C at_40 rfl ?_
  generalize hv224 : (p1 &&& (3 : Int32)) = v224
  refine W.istore (q := 43) (L' := #[.val (.int p0), .val (.int p1), .val (.int p2), .val (.int v220), .val (.int v221), .val (.int v222), .val (.int v223), .val (.int v224), .unset, .unset, .unset, .unset, .unset, .unset, .unset, .unset, .unset, .unset]) X0 C at_41 rfl rfl ?_
  refine W.iloadN (q := 44) X0 C at_43 rfl rfl ?_
  refine W.iconst (q := 45) (v := 2) X0 C at_44 rfl rfl ?_
  refine W.iushr (q := 46) X0 C at_45 rfl ?_
  refine W.bipush (q := 48) (v := 7) X0 C at_46 rfl rfl ?_
  refine W.iand (q := 49) X0 C at_48 rfl ?_
  refine W.bipush (q := 51) (v := 6) X0 C at_49 rfl rfl ?_
  refine W.irem (q := 52) X0 C at_51 (by decide) rfl ?_
  generalize hv225 : ((((p1.toUInt32 >>> ((2 : Int32) &&& 31).toUInt32).toInt32) &&& (7 : Int32)) % (6 : Int32)) = v225
  refine W.istore (q := 54) (L' := #[.val (.int p0), .val (.int p1), .val (.int p2), .val (.int v220), .val (.int v221), .val (.int v222), .val (.int v223), .val (.int v224), .val (.int v225), .unset, .unset, .unset, .unset, .unset, .unset, .unset, .unset, .unset]) X0 C at_52 rfl rfl ?_
  refine W.newO (q := 57) X0 C (W.ww hw 0 rfl) (W.ww hw 1 rfl) (W.ww hw 2 rfl) e0 at_54 (by decide) (by decide) rfl (fun T226 h226 b226 X226 e226 g226 E226 A226 D226 => ?_)
  have ge_b226 : n0 ≤ b226 := by rw [g226]; exact Z0
  have n0_226 : n0 ≤ h226.size := Nat.le_trans Z0 E226.1
  have O0_228 := O0.ext E226
  have hk0_229 := Nat.le_trans hk0 E226.1
  have F_namespace_230 : Fld Z h226 b226 "com/example/fedlint/fedlint/SchemaModel$Type" "namespace" "Ljava/lang/String;" .null := D226 (Or.inr (W.ww hw 42 rfl)) (ty := (.object "java/lang/String")) (by decide)
  have F_name_231 : Fld Z h226 b226 "com/example/fedlint/fedlint/SchemaModel$Type" "name" "Ljava/lang/String;" .null := D226 (Or.inr (W.ww hw 44 rfl)) (ty := (.object "java/lang/String")) (by decide)
  have F_content_232 : Fld Z h226 b226 "com/example/fedlint/fedlint/SchemaModel$ComplexType" "content" "Lcom/example/fedlint/fedlint/SchemaModel$ComplexType$Content;" .null := D226 (Or.inl (W.ww hw 49 rfl)) (ty := (.object "com/example/fedlint/fedlint/SchemaModel$ComplexType$Content")) (by decide)
  have F_attributeUses_233 : Fld Z h226 b226 "com/example/fedlint/fedlint/SchemaModel$ComplexType" "attributeUses" "Ljava/util/List;" .null := D226 (Or.inr (W.ww hw 75 rfl)) (ty := (.object "java/util/List")) (by decide)
  have F_requiredUses_234 : Fld Z h226 b226 "com/example/fedlint/fedlint/SchemaModel$ComplexType" "requiredUses" "I" (.int (0 : Int32)) := D226 (Or.inl (W.ww hw 77 rfl)) (ty := .int) (by decide)
  have F_base_235 : Fld Z h226 b226 "com/example/fedlint/fedlint/SchemaModel$Type" "base" "Lcom/example/fedlint/fedlint/SchemaModel$Type;" .null := D226 (Or.inl (W.ww hw 84 rfl)) (ty := (.object "com/example/fedlint/fedlint/SchemaModel$Type")) (by decide)
  refine W.dup (q := 58) X226 C at_57 rfl rfl ?_
  refine W.ldcS (q := 60) (s := s) X226 C (W.ww hw 3 rfl) wS e226 hS0 hk0_229 at_58 4 (by decide) (by decide) (by decide) (by decide) rfl (fun sa236 T236 h236 kk236 X236 C e236 E236 hS236 hk236 => ?_)
  have O0_238 := O0_228.ext E236
  have A226_239 := A226.ext E236
  have F_namespace_240 := F_namespace_230.ext E236
  have F_name_241 := F_name_231.ext E236
  have F_content_242 := F_content_232.ext E236
  have F_attributeUses_243 := F_attributeUses_233.ext E236
  have F_requiredUses_244 := F_requiredUses_234.ext E236
  have F_base_245 := F_base_235.ext E236
  have n0_236 : n0 ≤ h236.size := Nat.le_trans n0_226 E236.1
  refine W.bipush (q := 62) (v := 97) X236 C at_60 rfl rfl ?_
  refine W.iloadN (q := 63) X236 C at_62 rfl rfl ?_
  refine W.iconst (q := 64) (v := 1) X236 C at_63 rfl rfl ?_
  refine W.iand (q := 65) X236 C at_64 rfl ?_
  refine W.iadd (q := 66) X236 C at_65 rfl ?_
  refine W.i2c (q := 67) X236 C at_66 rfl ?_
  refine W.callS (q := 70) X236 C (W.ww hw 11 rfl) (W.ww hw 12 rfl) (W.ww hw 4 rfl) (W.ww hw 13 rfl) (by decide) (rm1 l Z a0 hw [] (((97 : Int32) + (p2 &&& (1 : Int32))).toUInt32.toUInt16.toUInt32.toInt32) cs h236 n0 n0_236 (own_lc _) O0_238 SC hcs) e236 at_67 [(.int (((97 : Int32) + (p2 &&& (1 : Int32))).toUInt32.toUInt16.toUInt32.toInt32))] [(.ref sa236), (.ref b226), (.ref b226)] rfl rfl pd__28C_29Ljava_2flang_2fString_3b rfl rfl (by decide) (Nat.le_of_ble_eq_true rfl) (by decide) (by decide) rfl (fun T246 w246 L246 X246 hQ246 => ?_)
  obtain ⟨b246, rfl, NL246, K246⟩ := hQ246
  have N246 := Fr.app N0 NL246
  have O0_248 := O0_238.keep K246 all0
  have A226_249 := A226_239.keep K246
  have F_namespace_250 := F_namespace_240.keep K246 nin0
  have F_name_251 := F_name_241.keep K246 nin0
  have F_content_252 := F_content_242.keep K246 nin0
  have F_attributeUses_253 := F_attributeUses_243.keep K246 nin0
  have F_requiredUses_254 := F_requiredUses_244.keep K246 nin0
  have F_base_255 := F_base_245.keep K246 nin0
  have hk236_256 := Nat.le_trans hk236 K246.1
  have n0_246 : n0 ≤ T246.heap.size := Nat.le_trans n0_236 K246.1
  show W.Go p e below _ (T246.setTop (mkF m 70 #[.val (.int p0), .val (.int p1), .val (.int p2), .val (.int v220), .val (.int v221), .val (.int v222), .val (.int v223), .val (.int v224), .val (.int v225), .unset, .unset, .unset, .unset, .unset, .unset, .unset, .unset, .unset] [(.ref b246), (.ref sa236), (.ref b226), (.ref b226)]))
  refine W.callI (q := 73) X246 C rfl (W.ww hw 32 rfl) (W.ww hw 33 rfl) (W.ww hw 2 rfl) (W.ww hw 34 rfl) (by decide) (rm6 l Z a0 hw [] b226 sa236 b246 ea dv T246.heap n0 n0_246 ge_b226 A226_249 F_namespace_250 F_name_251 F_base_255 F_content_252 F_attributeUses_253 F_requiredUses_254 O0_248 SE SD hdv) rfl at_70 (a := b226) [(.ref sa236), (.ref b246)] [(.ref b226)] rfl rfl pd__28Ljava_2flang_2fString_3bLjava_2flang_2fString_3b_29V rfl rfl (by decide) (Nat.le_of_ble_eq_true rfl) (by decide) (by decide) rfl (fun T257 w257 L257 X257 hQ257 => ?_)
  obtain ⟨rfl, NL257, K257, G257a⟩ := hQ257
  have N257 := Fr.app N246 NL257
  have O0_259 := O0_248.keep K257 (allS ge_b226 all0)
  have A226_260 := A226_249.keep K257
  have hk236_261 := Nat.le_trans hk236_256 K257.1
  have n0_257 : n0 ≤ T257.heap.size := Nat.le_trans n0_246 K257.1
  show W.Go p e below _ (T257.setTop (mkF m 73 #[.val (.int p0), .val (.int p1), .val (.int p2), .val (.int v220), .val (.int v221), .val (.int v222), .val (.int v223), .val (.int v224), .val (.int v225), .unset, .unset, .unset, .unset, .unset, .unset, .unset, .unset, .unset] [(.ref b226)]))
  refine W.astore (q := 75) (L' := #[.val (.int p0), .val (.int p1), .val (.int p2), .val (.int v220), .val (.int v221), .val (.int v222), .val (.int v223), .val (.int v224), .val (.int v225), .val (.ref b226), .unset, .unset, .unset, .unset, .unset, .unset, .unset, .unset]) X257 C at_73 rfl rfl rfl ?_
  refine W.newO (q := 78) X257 C (W.ww hw 0 rfl) (W.ww hw 1 rfl) (W.ww hw 2 rfl) rfl at_75 (by decide) (by decide) rfl (fun T262 h262 b262 X262 e262 g262 E262 A262 D262 => ?_)
  have ne_b226_b262 : b226 ≠ b262 := by rw [g262]; exact Nat.ne_of_lt A226_260.lt
  have ge_b262 : n0 ≤ b262 := by rw [g262]; exact n0_257
  have n0_262 : n0 ≤ h262.size := Nat.le_trans n0_257 E262.1
  have O0_264 := O0_259.ext E262
  have A226_265 := A226_260.ext E262
  have hk236_266 := Nat.le_trans hk236_261 E262.1
  have G257a_267 := G257a.ext E262
  have F_namespace_268 : Fld Z h262 b262 "com/example/fedlint/fedlint/SchemaModel$Type" "namespace" "Ljava/lang/String;" .null := D262 (Or.inr (W.ww hw 42 rfl)) (ty := (.object "java/lang/String")) (by decide)
  have F_name_269 : Fld Z h262 b262 "com/example/fedlint/fedlint/SchemaModel$Type" "name" "Ljava/lang/String;" .null := D262 (Or.inr (W.ww hw 44 rfl)) (ty := (.object "java/lang/String")) (by decide)
  have F_content_270 : Fld Z h262 b262 "com/example/fedlint/fedlint/SchemaModel$ComplexType" "content" "Lcom/example/fedlint/fedlint/SchemaModel$ComplexType$Content;" .null := D262 (Or.inl (W.ww hw 49 rfl)) (ty := (.object "com/example/fedlint/fedlint/SchemaModel$ComplexType$Content")) (by decide)
  have F_attributeUses_271 : Fld Z h262 b262 "com/example/fedlint/fedlint/SchemaModel$ComplexType" "attributeUses" "Ljava/util/List;" .null := D262 (Or.inr (W.ww hw 75 rfl)) (ty := (.object "java/util/List")) (by decide)
  have F_requiredUses_272 : Fld Z h262 b262 "com/example/fedlint/fedlint/SchemaModel$ComplexType" "requiredUses" "I" (.int (0 : Int32)) := D262 (Or.inl (W.ww hw 77 rfl)) (ty := .int) (by decide)
  have F_base_273 : Fld Z h262 b262 "com/example/fedlint/fedlint/SchemaModel$Type" "base" "Lcom/example/fedlint/fedlint/SchemaModel$Type;" .null := D262 (Or.inl (W.ww hw 84 rfl)) (ty := (.object "com/example/fedlint/fedlint/SchemaModel$Type")) (by decide)
  refine W.dup (q := 79) X262 C at_78 rfl rfl ?_
  refine W.ldcS (q := 81) (s := s) X262 C (W.ww hw 3 rfl) wS e262 hS236 hk236_266 at_79 4 (by decide) (by decide) (by decide) (by decide) rfl (fun sa274 T274 h274 kk274 X274 C e274 E274 hS274 hk274 => ?_)
  have O0_276 := O0_264.ext E274
  have A226_277 := A226_265.ext E274
  have G257a_278 := G257a_267.ext E274
  have A262_279 := A262.ext E274
  have F_namespace_280 := F_namespace_268.ext E274
  have F_name_281 := F_name_269.ext E274
  have F_content_282 := F_content_270.ext E274
  have F_attributeUses_283 := F_attributeUses_271.ext E274
  have F_requiredUses_284 := F_requiredUses_272.ext E274
  have F_base_285 := F_base_273.ext E274
  have n0_274 : n0 ≤ h274.size := Nat.le_trans n0_262 E274.1
  refine W.bipush (q := 83) (v := 97) X274 C at_81 rfl rfl ?_
  refine W.iloadN (q := 84) X274 C at_83 rfl rfl ?_
  refine W.iconst (q := 85) (v := 1) X274 C at_84 rfl rfl ?_
  refine W.iushr (q := 86) X274 C at_85 rfl ?_
  refine W.iconst (q := 87) (v := 1) X274 C at_86 rfl rfl ?_
  refine W.iand (q := 88) X274 C at_87 rfl ?_
  refine W.iadd (q := 89) X274 C at_88 rfl ?_
  refine W.i2c (q := 90) X274 C at_89 rfl ?_
  refine W.callS (q := 93) X274 C (W.ww hw 11 rfl) (W.ww hw 12 rfl) (W.ww hw 4 rfl) (W.ww hw 13 rfl) (by decide) (rm1 l Z a0 hw [] (((97 : Int32) + (((p2.toUInt32 >>> ((1 : Int32) &&& 31).toUInt32).toInt32) &&& (1 : Int32))).toUInt32.toUInt16.toUInt32.toInt32) cs h274 n0 n0_274 (own_lc _) O0_276 SC hcs) e274 at_90 [(.int (((97 : Int32) + (((p2.toUInt32 >>> ((1 : Int32) &&& 31).toUInt32).toInt32) &&& (1 : Int32))).toUInt32.toUInt16.toUInt32.toInt32))] [(.ref sa274), (.ref b262), (.ref b262)] rfl rfl pd__28C_29Ljava_2flang_2fString_3b rfl rfl (by decide) (Nat.le_of_ble_eq_true rfl) (by decide) (by decide) rfl (fun T286 w286 L286 X286 hQ286 => ?_)
  obtain ⟨b286, rfl, NL286, K286⟩ := hQ286
  have N286 := Fr.app N257 NL286
  have O0_288 := O0_276.keep K286 all0
  have A226_289 := A226_277.keep K286
  have G257a_290 := G257a_278.keep K286 nin0
  have A262_291 := A262_279.keep K286
  have F_namespace_292 := F_namespace_280.keep K286 nin0
  have F_name_293 := F_name_281.keep K286 nin0
  have F_content_294 := F_content_282.keep K286 nin0
  have F_attributeUses_295 := F_attributeUses_283.keep K286 nin0
  have F_requiredUses_296 := F_requiredUses_284.keep K286 nin0
  have F_base_297 := F_base_285.keep K286 nin0
  have hk274_298 := Nat.le_trans hk274 K286.1
  have n0_286 : n0 ≤ T286.heap.size := Nat.le_trans n0_274 K286.1
  show W.Go p e below _ (T286.setTop (mkF m 93 #[.val (.int p0), .val (.int p1), .val (.int p2), .val (.int v220), .val (.int v221), .val (.int v222), .val (.int v223), .val (.int v224), .val (.int v225), .val (.ref b226), .unset, .unset, .unset, .unset, .unset, .unset, .unset, .unset] [(.ref b286), (.ref sa274), (.ref b262), (.ref b262)]))
  refine W.callI (q := 96) X286 C rfl (W.ww hw 32 rfl) (W.ww hw 33 rfl) (W.ww hw 2 rfl) (W.ww hw 34 rfl) (by decide) (rm6 l Z a0 hw [] b262 sa274 b286 ea dv T286.heap n0 n0_286 ge_b262 A262_291 F_namespace_292 F_name_293 F_base_297 F_content_294 F_attributeUses_295 F_requiredUses_296 O0_288 SE SD hdv) rfl at_93 (a := b262) [(.ref sa274), (.ref b286)] [(.ref b262)] rfl rfl pd__28Ljava_2flang_2fString_3bLjava_2flang_2fString_3b_29V rfl rfl (by decide) (Nat.le_of_ble_eq_true rfl) (by decide) (by decide) rfl (fun T299 w299 L299 X299 hQ299 => ?_)
  obtain ⟨rfl, NL299, K299, G299a⟩ := hQ299
  have N299 := Fr.app N286 NL299
  have O0_301 := O0_288.keep K299 (allS ge_b262 all0)
  have A226_302 := A226_289.keep K299
  have G257a_303 := G257a_290.keep K299 (ninS ne_b226_b262 nin0)
  have A262_304 := A262_291.keep K299
  have hk274_305 := Nat.le_trans hk274_298 K299.1
  have n0_299 : n0 ≤ T299.heap.size := Nat.le_trans n0_286 K299.1
  show W.Go p e below _ (T299.setTop (mkF m 96 #[.val (.int p0), .val (.int p1), .val (.int p2), .val (.int v220), .val (.int v221), .val (.int v222), .val (.int v223), .val (.int v224), .val (.int v225), .val (.ref b226), .unset, .unset, .unset, .unset, .unset, .unset, .unset, .unset] [(.ref b262)]))
  refine W.astore (q := 98) (L' := #[.val (.int p0), .val (.int p1), .val (.int p2), .val (.int v220), .val (.int v221), .val (.int v222), .val (.int v223), .val (.int v224), .val (.int v225), .val (.ref b226), .val (.ref b262), .unset, .unset, .unset, .unset, .unset, .unset, .unset]) X299 C at_96 rfl rfl rfl ?_
  refine W.newO (q := 101) X299 C (W.ww hw 0 rfl) (W.ww hw 1 rfl) (W.ww hw 2 rfl) rfl at_98 (by decide) (by decide) rfl (fun T306 h306 b306 X306 e306 g306 E306 A306 D306 => ?_)
  have ne_b226_b306 : b226 ≠ b306 := by rw [g306]; exact Nat.ne_of_lt A226_302.lt
  have ne_b262_b306 : b262 ≠ b306 := by rw [g306]; exact Nat.ne_of_lt A262_304.lt
  have ge_b306 : n0 ≤ b306 := by rw [g306]; exact n0_299
  have n0_306 : n0 ≤ h306.size := Nat.le_trans n0_299 E306.1
  have O0_308 := O0_301.ext E306
  have A226_309 := A226_302.ext E306
  have G257a_310 := G257a_303.ext E306
  have A262_311 := A262_304.ext E306
  have hk274_312 := Nat.le_trans hk274_305 E306.1
  have G299a_313 := G299a.ext E306
  have F_namespace_314 : Fld Z h306 b306 "com/example/fedlint/fedlint/SchemaModel$Type" "namespace" "Ljava/lang/String;" .null := D306 (Or.inr (W.ww hw 42 rfl)) (ty := (.object "java/lang/String")) (by decide)
  have F_name_315 : Fld Z h306 b306 "com/example/fedlint/fedlint/SchemaModel$Type" "name" "Ljava/lang/String;" .null := D306 (Or.inr (W.ww hw 44 rfl)) (ty := (.object "java/lang/String")) (by decide)
  have F_content_316 : Fld Z h306 b306 "com/example/fedlint/fedlint/SchemaModel$ComplexType" "content" "Lcom/example/fedlint/fedlint/SchemaModel$ComplexType$Content;" .null := D306 (Or.inl (W.ww hw 49 rfl)) (ty := (.object "com/example/fedlint/fedlint/SchemaModel$ComplexType$Content")) (by decide)
  have F_attributeUses_317 : Fld Z h306 b306 "com/example/fedlint/fedlint/SchemaModel$ComplexType" "attributeUses" "Ljava/util/List;" .null := D306 (Or.inr (W.ww hw 75 rfl)) (ty := (.object "java/util/List")) (by decide)
  have F_requiredUses_318 : Fld Z h306 b306 "com/example/fedlint/fedlint/SchemaModel$ComplexType" "requiredUses" "I" (.int (0 : Int32)) := D306 (Or.inl (W.ww hw 77 rfl)) (ty := .int) (by decide)
  have F_base_319 : Fld Z h306 b306 "com/example/fedlint/fedlint/SchemaModel$Type" "base" "Lcom/example/fedlint/fedlint/SchemaModel$Type;" .null := D306 (Or.inl (W.ww hw 84 rfl)) (ty := (.object "com/example/fedlint/fedlint/SchemaModel$Type")) (by decide)
  refine W.dup (q := 102) X306 C at_101 rfl rfl ?_
  refine W.ldcS (q := 104) (s := s) X306 C (W.ww hw 3 rfl) wS e306 hS274 hk274_312 at_102 4 (by decide) (by decide) (by decide) (by decide) rfl (fun sa320 T320 h320 kk320 X320 C e320 E320 hS320 hk320 => ?_)
  have O0_322 := O0_308.ext E320
  have A226_323 := A226_309.ext E320
  have G257a_324 := G257a_310.ext E320
  have A262_325 := A262_311.ext E320
  have G299a_326 := G299a_313.ext E320
  have A306_327 := A306.ext E320
  have F_namespace_328 := F_namespace_314.ext E320
  have F_name_329 := F_name_315.ext E320
  have F_content_330 := F_content_316.ext E320
  have F_attributeUses_331 := F_attributeUses_317.ext E320
  have F_requiredUses_332 := F_requiredUses_318.ext E320
  have F_base_333 := F_base_319.ext E320
  have n0_320 : n0 ≤ h320.size := Nat.le_trans n0_306 E320.1
  refine W.bipush (q := 106) (v := 97) X320 C at_104 rfl rfl ?_
  refine W.iloadN (q := 107) X320 C at_106 rfl rfl ?_
  refine W.iconst (q := 108) (v := 2) X320 C at_107 rfl rfl ?_
  refine W.iushr (q := 109) X320 C at_108 rfl ?_
  refine W.iconst (q := 110) (v := 1) X320 C at_109 rfl rfl ?_
  refine W.iand (q := 111) X320 C at_110 rfl ?_
  refine W.iadd (q := 112) X320 C at_111 rfl ?_
  refine W.i2c (q := 113) X320 C at_112 rfl ?_
  refine W.callS (q := 116) X320 C (W.ww hw 11 rfl) (W.ww hw 12 rfl) (W.ww hw 4 rfl) (W.ww hw 13 rfl) (by decide) (rm1 l Z a0 hw [] (((97 : Int32) + (((p2.toUInt32 >>> ((2 : Int32) &&& 31).toUInt32).toInt32) &&& (1 : Int32))).toUInt32.toUInt16.toUInt32.toInt32) cs h320 n0 n0_320 (own_lc _) O0_322 SC hcs) e320 at_113 [(.int (((97 : Int32) + (((p2.toUInt32 >>> ((2 : Int32) &&& 31).toUInt32).toInt32) &&& (1 : Int32))).toUInt32.toUInt16.toUInt32.toInt32))] [(.ref sa320), (.ref b306), (.ref b306)] rfl rfl pd__28C_29Ljava_2flang_2fString_3b rfl rfl (by decide) (Nat.le_of_ble_eq_true rfl) (by decide) (by decide) rfl (fun T334 w334 L334 X334 hQ334 => ?_)
  obtain ⟨b334, rfl, NL334, K334⟩ := hQ334
  have N334 := Fr.app N299 NL334
  have O0_336 := O0_322.keep K334 all0
  have A226_337 := A226_323.keep K334
  have G257a_338 := G257a_324.keep K334 nin0
  have A262_339 := A262_325.keep K334
  have G299a_340 := G299a_326.keep K334 nin0
  have A306_341 := A306_327.keep K334
  have F_namespace_342 := F_namespace_328.keep K334 nin0
  have F_name_343 := F_name_329.keep K334 nin0
  have F_content_344 := F_content_330.keep K334 nin0
  have F_attributeUses_345 := F_attributeUses_331.keep K334 nin0
  have F_requiredUses_346 := F_requiredUses_332.keep K334 nin0
  have F_base_347 := F_base_333.keep K334 nin0
  have hk320_348 := Nat.le_trans hk320 K334.1
  have n0_334 : n0 ≤ T334.heap.size := Nat.le_trans n0_320 K334.1
  show W.Go p e below _ (T334.setTop (mkF m 116 #[.val (.int p0), .val (.int p1), .val (.int p2), .val (.int v220), .val (.int v221), .val (.int v222), .val (.int v223), .val (.int v224), .val (.int v225), .val (.ref b226), .val (.ref b262), .unset, .unset, .unset, .unset, .unset, .unset, .unset] [(.ref b334), (.ref sa320), (.ref b306), (.ref b306)]))
  refine W.callI (q := 119) X334 C rfl (W.ww hw 32 rfl) (W.ww hw 33 rfl) (W.ww hw 2 rfl) (W.ww hw 34 rfl) (by decide) (rm6 l Z a0 hw [] b306 sa320 b334 ea dv T334.heap n0 n0_334 ge_b306 A306_341 F_namespace_342 F_name_343 F_base_347 F_content_344 F_attributeUses_345 F_requiredUses_346 O0_336 SE SD hdv) rfl at_116 (a := b306) [(.ref sa320), (.ref b334)] [(.ref b306)] rfl rfl pd__28Ljava_2flang_2fString_3bLjava_2flang_2fString_3b_29V rfl rfl (by decide) (Nat.le_of_ble_eq_true rfl) (by decide) (by decide) rfl (fun T349 w349 L349 X349 hQ349 => ?_)
  obtain ⟨rfl, NL349, K349, G349a⟩ := hQ349
  have N349 := Fr.app N334 NL349
  have O0_351 := O0_336.keep K349 (allS ge_b306 all0)
  have A226_352 := A226_337.keep K349
  have G257a_353 := G257a_338.keep K349 (ninS ne_b226_b306 nin0)
  have A262_354 := A262_339.keep K349
  have G299a_355 := G299a_340.keep K349 (ninS ne_b262_b306 nin0)
  have A306_356 := A306_341.keep K349
  have hk320_357 := Nat.le_trans hk320_348 K349.1
  have n0_349 : n0 ≤ T349.heap.size := Nat.le_trans n0_334 K349.1
  show W.Go p e below _ (T349.setTop (mkF m 119 #[.val (.int p0), .val (.int p1), .val (.int p2), .val (.int v220), .val (.int v221), .val (.int v222), .val (.int v223), .val (.int v224), .val (.int v225), .val (.ref b226), .val (.ref b262), .unset, .unset, .unset, .unset, .unset, .unset, .unset] [(.ref b306)]))
  refine W.astore (q := 121) (L' := #[.val (.int p0), .val (.int p1), .val (.int p2), .val (.int v220), .val (.int v221), .val (.int v222), .val (.int v223), .val (.int v224), .val (.int v225), .val (.ref b226), .val (.ref b262), .val (.ref b306), .unset, .unset, .unset, .unset, .unset, .unset]) X349 C at_119 rfl rfl rfl ?_
  refine W.newO (q := 124) X349 C (W.ww hw 0 rfl) (W.ww hw 1 rfl) (W.ww hw 2 rfl) rfl at_121 (by decide) (by decide) rfl (fun T358 h358 b358 X358 e358 g358 E358 A358 D358 => ?_)
  have ne_b226_b358 : b226 ≠ b358 := by rw [g358]; exact Nat.ne_of_lt A226_352.lt
  have ne_b262_b358 : b262 ≠ b358 := by rw [g358]; exact Nat.ne_of_lt A262_354.lt
  have ne_b306_b358 : b306 ≠ b358 := by rw [g358]; exact Nat.ne_of_lt A306_356.lt
  have ge_b358 : n0 ≤ b358 := by rw [g358]; exact n0_349
  have n0_358 : n0 ≤ h358.size := Nat.le_trans n0_349 E358.1
  have O0_360 := O0_351.ext E358
  have A226_361 := A226_352.ext E358
  have G257a_362 := G257a_353.ext E358
  have A262_363 := A262_354.ext E358
  have G299a_364 := G299a_355.ext E358
  have A306_365 := A306_356.ext E358
  have hk320_366 := Nat.le_trans hk320_357 E358.1
  have G349a_367 := G349a.ext E358
  have F_namespace_368 : Fld Z h358 b358 "com/example/fedlint/fedlint/SchemaModel$Type" "namespace" "Ljava/lang/String;" .null := D358 (Or.inr (W.ww hw 42 rfl)) (ty := (.object "java/lang/String")) (by decide)
  have F_name_369 : Fld Z h358 b358 "com/example/fedlint/fedlint/SchemaModel$Type" "name" "Ljava/lang/String;" .null := D358 (Or.inr (W.ww hw 44 rfl)) (ty := (.object "java/lang/String")) (by decide)
  have F_content_370 : Fld Z h358 b358 "com/example/fedlint/fedlint/SchemaModel$ComplexType" "content" "Lcom/example/fedlint/fedlint/SchemaModel$ComplexType$Content;" .null := D358 (Or.inl (W.ww hw 49 rfl)) (ty := (.object "com/example/fedlint/fedlint/SchemaModel$ComplexType$Content")) (by decide)
  have F_attributeUses_371 : Fld Z h358 b358 "com/example/fedlint/fedlint/SchemaModel$ComplexType" "attributeUses" "Ljava/util/List;" .null := D358 (Or.inr (W.ww hw 75 rfl)) (ty := (.object "java/util/List")) (by decide)
  have F_requiredUses_372 : Fld Z h358 b358 "com/example/fedlint/fedlint/SchemaModel$ComplexType" "requiredUses" "I" (.int (0 : Int32)) := D358 (Or.inl (W.ww hw 77 rfl)) (ty := .int) (by decide)
  have F_base_373 : Fld Z h358 b358 "com/example/fedlint/fedlint/SchemaModel$Type" "base" "Lcom/example/fedlint/fedlint/SchemaModel$Type;" .null := D358 (Or.inl (W.ww hw 84 rfl)) (ty := (.object "com/example/fedlint/fedlint/SchemaModel$Type")) (by decide)
  refine W.dup (q := 125) X358 C at_124 rfl rfl ?_
  refine W.ldcS (q := 127) (s := s) X358 C (W.ww hw 3 rfl) wS e358 hS320 hk320_366 at_125 4 (by decide) (by decide) (by decide) (by decide) rfl (fun sa374 T374 h374 kk374 X374 C e374 E374 hS374 hk374 => ?_)
  have O0_376 := O0_360.ext E374
  have A226_377 := A226_361.ext E374
  have G257a_378 := G257a_362.ext E374
  have A262_379 := A262_363.ext E374
  have G299a_380 := G299a_364.ext E374
  have A306_381 := A306_365.ext E374
  have G349a_382 := G349a_367.ext E374
  have A358_383 := A358.ext E374
  have F_namespace_384 := F_namespace_368.ext E374
  have F_name_385 := F_name_369.ext E374
  have F_content_386 := F_content_370.ext E374
  have F_attributeUses_387 := F_attributeUses_371.ext E374
  have F_requiredUses_388 := F_requiredUses_372.ext E374
  have F_base_389 := F_base_373.ext E374
  have n0_374 : n0 ≤ h374.size := Nat.le_trans n0_358 E374.1
  refine W.bipush (q := 129) (v := 97) X374 C at_127 rfl rfl ?_
  refine W.iloadN (q := 130) X374 C at_129 rfl rfl ?_
  refine W.iconst (q := 131) (v := 3) X374 C at_130 rfl rfl ?_
  refine W.iushr (q := 132) X374 C at_131 rfl ?_
  refine W.iconst (q := 133) (v := 1) X374 C at_132 rfl rfl ?_
  refine W.iand (q := 134) X374 C at_133 rfl ?_
  refine W.iadd (q := 135) X374 C at_134 rfl ?_
  refine W.i2c (q := 136) X374 C at_135 rfl ?_
  refine W.callS (q := 139) X374 C (W.ww hw 11 rfl) (W.ww hw 12 rfl) (W.ww hw 4 rfl) (W.ww hw 13 rfl) (by decide) (rm1 l Z a0 hw [] (((97 : Int32) + (((p2.toUInt32 >>> ((3 : Int32) &&& 31).toUInt32).toInt32) &&& (1 : Int32))).toUInt32.toUInt16.toUInt32.toInt32) cs h374 n0 n0_374 (own_lc _) O0_376 SC hcs) e374 at_136 [(.int (((97 : Int32) + (((p2.toUInt32 >>> ((3 : Int32) &&& 31).toUInt32).toInt32) &&& (1 : Int32))).toUInt32.toUInt16.toUInt32.toInt32))] [(.ref sa374), (.ref b358), (.ref b358)] rfl rfl pd__28C_29Ljava_2flang_2fString_3b rfl rfl (by decide) (Nat.le_of_ble_eq_true rfl) (by decide) (by decide) rfl (fun T390 w390 L390 X390 hQ390 => ?_)
  obtain ⟨b390, rfl, NL390, K390⟩ := hQ390
  have N390 := Fr.app N349 NL390
  have O0_392 := O0_376.keep K390 all0
  have A226_393 := A226_377.keep K390
  have G257a_394 := G257a_378.keep K390 nin0
  have A262_395 := A262_379.keep K390
  have G299a_396 := G299a_380.keep K390 nin0
  have A306_397 := A306_381.keep K390
  have G349a_398 := G349a_382.keep K390 nin0
  have A358_399 := A358_383.keep K390
  have F_namespace_400 := F_namespace_384.keep K390 nin0
  have F_name_401 := F_name_385.keep K390 nin0
  have F_content_402 := F_content_386.keep K390 nin0
  have F_attributeUses_403 := F_attributeUses_387.keep K390 nin0
  have F_requiredUses_404 := F_requiredUses_388.keep K390 nin0
  have F_base_405 := F_base_389.keep K390 nin0
  have hk374_406 := Nat.le_trans hk374 K390.1
  have n0_390 : n0 ≤ T390.heap.size := Nat.le_trans n0_374 K390.1
  show W.Go p e below _ (T390.setTop (mkF m 139 #[.val (.int p0), .val (.int p1), .val (.int p2), .val (.int v220), .val (.int v221), .val (.int v222), .val (.int v223), .val (.int v224), .val (.int v225), .val (.ref b226), .val (.ref b262), .val (.ref b306), .unset, .unset, .unset, .unset, .unset, .unset] [(.ref b390), (.ref sa374), (.ref b358), (.ref b358)]))
  refine W.callI (q := 142) X390 C rfl (W.ww hw 32 rfl) (W.ww hw 33 rfl) (W.ww hw 2 rfl) (W.ww hw 34 rfl) (by decide) (rm6 l Z a0 hw [] b358 sa374 b390 ea dv T390.heap n0 n0_390 ge_b358 A358_399 F_namespace_400 F_name_401 F_base_405 F_content_402 F_attributeUses_403 F_requiredUses_404 O0_392 SE SD hdv) rfl at_139 (a := b358) [(.ref sa374), (.ref b390)] [(.ref b358)] rfl rfl pd__28Ljava_2flang_2fString_3bLjava_2flang_2fString_3b_29V rfl rfl (by decide) (Nat.le_of_ble_eq_true rfl) (by decide) (by decide) rfl (fun T407 w407 L407 X407 hQ407 => ?_)
  obtain ⟨rfl, NL407, K407, G407a⟩ := hQ407
  have N407 := Fr.app N390 NL407
  have O0_409 := O0_392.keep K407 (allS ge_b358 all0)
  have A226_410 := A226_393.keep K407
  have G257a_411 := G257a_394.keep K407 (ninS ne_b226_b358 nin0)
  have A262_412 := A262_395.keep K407
  have G299a_413 := G299a_396.keep K407 (ninS ne_b262_b358 nin0)
  have A306_414 := A306_397.keep K407
  have G349a_415 := G349a_398.keep K407 (ninS ne_b306_b358 nin0)
  have A358_416 := A358_399.keep K407
  have hk374_417 := Nat.le_trans hk374_406 K407.1
  have n0_407 : n0 ≤ T407.heap.size := Nat.le_trans n0_390 K407.1
  show W.Go p e below _ (T407.setTop (mkF m 142 #[.val (.int p0), .val (.int p1), .val (.int p2), .val (.int v220), .val (.int v221), .val (.int v222), .val (.int v223), .val (.int v224), .val (.int v225), .val (.ref b226), .val (.ref b262), .val (.ref b306), .unset, .unset, .unset, .unset, .unset, .unset] [(.ref b358)]))
  refine W.astore (q := 144) (L' := #[.val (.int p0), .val (.int p1), .val (.int p2), .val (.int v220), .val (.int v221), .val (.int v222), .val (.int v223), .val (.int v224), .val (.int v225), .val (.ref b226), .val (.ref b262), .val (.ref b306), .val (.ref b358), .unset, .unset, .unset, .unset, .unset]) X407 C at_142 rfl rfl rfl ?_
  refine W.newO (q := 147) X407 C (W.ww hw 0 rfl) (W.ww hw 1 rfl) (W.ww hw 2 rfl) rfl at_144 (by decide) (by decide) rfl (fun T418 h418 b418 X418 e418 g418 E418 A418 D418 => ?_)
  have ne_b226_b418 : b226 ≠ b418 := by rw [g418]; exact Nat.ne_of_lt A226_410.lt
  have ne_b262_b418 : b262 ≠ b418 := by rw [g418]; exact Nat.ne_of_lt A262_412.lt
  have ne_b306_b418 : b306 ≠ b418 := by rw [g418]; exact Nat.ne_of_lt A306_414.lt
  have ne_b358_b418 : b358 ≠ b418 := by rw [g418]; exact Nat.ne_of_lt A358_416.lt
  have ge_b418 : n0 ≤ b418 := by rw [g418]; exact n0_407
  have n0_418 : n0 ≤ h418.size := Nat.le_trans n0_407 E418.1
  have O0_420 := O0_409.ext E418
  have A226_421 := A226_410.ext E418
  have G257a_422 := G257a_411.ext E418
  have A262_423 := A262_412.ext E418
  have G299a_424 := G299a_413.ext E418
  have A306_425 := A306_414.ext E418
  have G349a_426 := G349a_415.ext E418
  have A358_427 := A358_416.ext E418
  have hk374_428 := Nat.le_trans hk374_417 E418.1
  have G407a_429 := G407a.ext E418
  have F_namespace_430 : Fld Z h418 b418 "com/example/fedlint/fedlint/SchemaModel$Type" "namespace" "Ljava/lang/String;" .null := D418 (Or.inr (W.ww hw 42 rfl)) (ty := (.object "java/lang/String")) (by decide)
  have F_name_431 : Fld Z h418 b418 "com/example/fedlint/fedlint/SchemaModel$Type" "name" "Ljava/lang/String;" .null := D418 (Or.inr (W.ww hw 44 rfl)) (ty := (.object "java/lang/String")) (by decide)
  have F_content_432 : Fld Z h418 b418 "com/example/fedlint/fedlint/SchemaModel$ComplexType" "content" "Lcom/example/fedlint/fedlint/SchemaModel$ComplexType$Content;" .null := D418 (Or.inl (W.ww hw 49 rfl)) (ty := (.object "com/example/fedlint/fedlint/SchemaModel$ComplexType$Content")) (by decide)
  have F_attributeUses_433 : Fld Z h418 b418 "com/example/fedlint/fedlint/SchemaModel$ComplexType" "attributeUses" "Ljava/util/List;" .null := D418 (Or.inr (W.ww hw 75 rfl)) (ty := (.object "java/util/List")) (by decide)
  have F_requiredUses_434 : Fld Z h418 b418 "com/example/fedlint/fedlint/SchemaModel$ComplexType" "requiredUses" "I" (.int (0 : Int32)) := D418 (Or.inl (W.ww hw 77 rfl)) (ty := .int) (by decide)
  have F_base_435 : Fld Z h418 b418 "com/example/fedlint/fedlint/SchemaModel$Type" "base" "Lcom/example/fedlint/fedlint/SchemaModel$Type;" .null := D418 (Or.inl (W.ww hw 84 rfl)) (ty := (.object "com/example/fedlint/fedlint/SchemaModel$Type")) (by decide)
  refine W.dup (q := 148) X418 C at_147 rfl rfl ?_
  refine W.ldcS (q := 150) (s := s) X418 C (W.ww hw 3 rfl) wS e418 hS374 hk374_428 at_148 4 (by decide) (by decide) (by decide) (by decide) rfl (fun sa436 T436 h436 kk436 X436 C e436 E436 hS436 hk436 => ?_)
  have O0_438 := O0_420.ext E436
  have A226_439 := A226_421.ext E436
  have G257a_440 := G257a_422.ext E436
  have A262_441 := A262_423.ext E436
  have G299a_442 := G299a_424.ext E436
  have A306_443 := A306_425.ext E436
  have G349a_444 := G349a_426.ext E436
  have A358_445 := A358_427.ext E436
  have G407a_446 := G407a_429.ext E436
  have A418_447 := A418.ext E436
  have F_namespace_448 := F_namespace_430.ext E436
  have F_name_449 := F_name_431.ext E436
  have F_content_450 := F_content_432.ext E436
  have F_attributeUses_451 := F_attributeUses_433.ext E436
  have F_requiredUses_452 := F_requiredUses_434.ext E436
  have F_base_453 := F_base_435.ext E436
  have n0_436 : n0 ≤ h436.size := Nat.le_trans n0_418 E436.1
  refine W.bipush (q := 152) (v := 97) X436 C at_150 rfl rfl ?_
  refine W.iloadN (q := 153) X436 C at_152 rfl rfl ?_
  refine W.iconst (q := 154) (v := 4) X436 C at_153 rfl rfl ?_
  refine W.iushr (q := 155) X436 C at_154 rfl ?_
  refine W.iconst (q := 156) (v := 1) X436 C at_155 rfl rfl ?_
  refine W.iand (q := 157) X436 C at_156 rfl ?_
  refine W.iadd (q := 158) X436 C at_157 rfl ?_
  refine W.i2c (q := 159) X436 C at_158 rfl ?_
  refine W.callS (q := 162) X436 C (W.ww hw 11 rfl) (W.ww hw 12 rfl) (W.ww hw 4 rfl) (W.ww hw 13 rfl) (by decide) (rm1 l Z a0 hw [] (((97 : Int32) + (((p2.toUInt32 >>> ((4 : Int32) &&& 31).toUInt32).toInt32) &&& (1 : Int32))).toUInt32.toUInt16.toUInt32.toInt32) cs h436 n0 n0_436 (own_lc _) O0_438 SC hcs) e436 at_159 [(.int (((97 : Int32) + (((p2.toUInt32 >>> ((4 : Int32) &&& 31).toUInt32).toInt32) &&& (1 : Int32))).toUInt32.toUInt16.toUInt32.toInt32))] [(.ref sa436), (.ref b418), (.ref b418)] rfl rfl pd__28C_29Ljava_2flang_2fString_3b rfl rfl (by decide) (Nat.le_of_ble_eq_true rfl) (by decide) (by decide) rfl (fun T454 w454 L454 X454 hQ454 => ?_)
  obtain ⟨b454, rfl, NL454, K454⟩ := hQ454
  have N454 := Fr.app N407 NL454
  have O0_456 := O0_438.keep K454 all0
  have A226_457 := A226_439.keep K454
  have G257a_458 := G257a_440.keep K454 nin0
  have A262_459 := A262_441.keep K454
  have G299a_460 := G299a_442.keep K454 nin0
  have A306_461 := A306_443.keep K454
  have G349a_462 := G349a_444.keep K454 nin0
  have A358_463 := A358_445.keep K454
  have G407a_464 := G407a_446.keep K454 nin0
  have A418_465 := A418_447.keep K454
  have F_namespace_466 := F_namespace_448.keep K454 nin0
  have F_name_467 := F_name_449.keep K454 nin0
  have F_content_468 := F_content_450.keep K454 nin0
  have F_attributeUses_469 := F_attributeUses_451.keep K454 nin0
  have F_requiredUses_470 := F_requiredUses_452.keep K454 nin0
  have F_base_471 := F_base_453.keep K454 nin0
  have hk436_472 := Nat.le_trans hk436 K454.1
  have n0_454 : n0 ≤ T454.heap.size := Nat.le_trans n0_436 K454.1
  show W.Go p e below _ (T454.setTop (mkF m 162 #[.val (.int p0), .val (.int p1), .val (.int p2), .val (.int v220), .val (.int v221), .val (.int v222), .val (.int v223), .val (.int v224), .val (.int v225), .val (.ref b226), .val (.ref b262), .val (.ref b306), .val (.ref b358), .unset, .unset, .unset, .unset, .unset] [(.ref b454), (.ref sa436), (.ref b418), (.ref b418)]))
  refine W.callI (q := 165) X454 C rfl (W.ww hw 32 rfl) (W.ww hw 33 rfl) (W.ww hw 2 rfl) (W.ww hw 34 rfl) (by decide) (rm6 l Z a0 hw [] b418 sa436 b454 ea dv T454.heap n0 n0_454 ge_b418 A418_465 F_namespace_466 F_name_467 F_base_471 F_content_468 F_attributeUses_469 F_requiredUses_470 O0_456 SE SD hdv) rfl at_162 (a := b418) [(.ref sa436), (.ref b454)] [(.ref b418)] rfl rfl pd__28Ljava_2flang_2fString_3bLjava_2flang_2fString_3b_29V rfl rfl (by decide) (Nat.le_of_ble_eq_true rfl) (by decide) (by decide) rfl (fun T473 w473 L473 X473 hQ473 => ?_)
  obtain ⟨rfl, NL473, K473, G473a⟩ := hQ473
  have N473 := Fr.app N454 NL473
  have O0_475 := O0_456.keep K473 (allS ge_b418 all0)
  have A226_476 := A226_457.keep K473
  have G257a_477 := G257a_458.keep K473 (ninS ne_b226_b418 nin0)
  have A262_478 := A262_459.keep K473
  have G299a_479 := G299a_460.keep K473 (ninS ne_b262_b418 nin0)
  have A306_480 := A306_461.keep K473
  have G349a_481 := G349a_462.keep K473 (ninS ne_b306_b418 nin0)
  have A358_482 := A358_463.keep K473
  have G407a_483 := G407a_464.keep K473 (ninS ne_b358_b418 nin0)
  have A418_484 := A418_465.keep K473
  have hk436_485 := Nat.le_trans hk436_472 K473.1
  have n0_473 : n0 ≤ T473.heap.size := Nat.le_trans n0_454 K473.1
  show W.Go p e below _ (T473.setTop (mkF m 165 #[.val (.int p0), .val (.int p1), .val (.int p2), .val (.int v220), .val (.int v221), .val (.int v222), .val (.int v223), .val (.int v224), .val (.int v225), .val (.ref b226), .val (.ref b262), .val (.ref b306), .val (.ref b358), .unset, .unset, .unset, .unset, .unset] [(.ref b418)]))
  refine W.astore (q := 167) (L' := #[.val (.int p0), .val (.int p1), .val (.int p2), .val (.int v220), .val (.int v221), .val (.int v222), .val (.int v223), .val (.int v224), .val (.int v225), .val (.ref b226), .val (.ref b262), .val (.ref b306), .val (.ref b358), .val (.ref b418), .unset, .unset, .unset, .unset]) X473 C at_165 rfl rfl rfl ?_
  refine W.postW hS436 ?_
  exact own_p167 l Z a0 hw T473.heap n0 p0 p1 p2 v220 v221 v222 v223 v224 v225 b226 b262 b306 b358 b418 kk436 _ _ (by first | omega | (simp only [room_1]; omega) | (dsimp only; omega)) (by first | omega | (simp only [room_1]; omega) | (dsimp only; omega)) C X473 rfl N473 n0_473 hk436_485 (own_m1 hv220) (own_m2 hv221) (own_m3 hv222) (own_m4 hv224) (own_m5 hv225) A226_476 G257a_477 ge_b226 A262_478 G299a_479 ge_b262 A306_480 G349a_481 ge_b306 A358_482 G407a_483 ge_b358 A418_484 G473a ge_b418 ne_b226_b262 ne_b226_b306 ne_b226_b358 ne_b226_b418 ne_b262_b306 ne_b262_b358 ne_b262_b418 ne_b306_b358 ne_b306_b418 ne_b358_b418
set_option maxRecDepth 65536 in
set_option maxHeartbeats 40000000 in
theorem comes_1 {Post : Tables → Env → Array Value → State → Outcome → State → Prop} (hpost : ∀ tb e args s v u, (limb_1_1.after args s (.returned v) u = true ∧ limb_1_2.after args s (.returned v) u = true ∧ True) → ReturnedEndW s (.returned v) u (Jvm.fieldLocs frame_1_writes args s ++ Jvm.arrayLocs frame_1_arrays args s ++ Jvm.staticLocs frame_1_statics s) 56 1344 → Post tb e args s (.returned v) u) :
    ArmFor flags0 classFile x code maxLocals ret World_1 tables_1 room_1 Calls_1 rest_1 Pre_1 Post := by
  intro l hfl _ _ p e ha hc hk s m args below hf hA hF happ hP
  obtain ⟨hcalls, hrest, hpre⟩ := hP
  obtain ⟨-, -, -, hnamed, -, -, -, hat⟩ := (Spec.applies_iff hf).mp happ
  obtain ⟨hg, hn⟩ := and_e (Cond.before_iff.mp (show (Jvm.Cond.and given_1 narrow_1).before args s = true from hpre))
  obtain ⟨g1, g2⟩ := and_e hg
  obtain ⟨g3, g4⟩ := and_e g2
  obtain ⟨g5, g6⟩ := and_e g4
  obtain ⟨w0, w1, w2, rfl⟩ : ∃ w0 w1 w2 : Value, args = #[w0, w1, w2] := by
    have hs : args.size = 3 := by simpa [Cond.value, given_1] using g1
    obtain ⟨L⟩ := args
    match L, hs with
    | [w0, w1, w2], _ => exact ⟨w0, w1, w2, rfl⟩
  have hw := fun d (hd : d ∈ tables_1) => atoms_spec (ws := Jvm.Cond.code x code maxLocals ret :: tables_1) hat d (List.mem_cons_of_mem _ hd)
  have hfit : Fit s := fun {y c} hc i hi => by
    obtain ⟨ha, rfl⟩ := Array.getElem?_eq_some_iff.mp hc
    have q := List.all_eq_true.mp ((Array.all_eq_true_iff_forall_mem.mp hF) _ (Array.getElem_mem ha)) i (List.mem_range.mpr hi)
    simpa [Array.getElem?_eq_getElem hi] using q
  obtain ⟨hsets, hown0⟩ := atoms_of _ (rest_1_c_eq ▸ (show rest_1_c.before _ s = true from hrest))
  have hr0 := Cond.before_iff.mp hown0
  obtain ⟨i0, ei0⟩ := is_v g3
  obtain rfl : w0 = (.int i0) := Option.some.inj ei0
  obtain ⟨i1, ei1⟩ := is_v g5
  obtain rfl : w1 = (.int i1) := Option.some.inj ei1
  obtain ⟨i2, ei2⟩ := is_v g6
  obtain rfl : w2 = (.int i2) := Option.some.inj ei2
  obtain ⟨ea, evE⟩ := exa_v hn
  have SE := Sta.start evE (Or.inr ⟨(W.ww hw 46 rfl), (W.ww hw 47 rfl)⟩)
  have hs15 := Cond.before_iff.mp (hsets _ (List.mem_of_getElem? (i := 15) rfl))
  obtain ⟨da, evD⟩ := arr_v hs15
  have SD := Sta.start evD (Or.inr ⟨(W.ww hw 52 rfl), (hsets _ (List.mem_of_getElem? (i := 11) rfl))⟩)
  have hs1 := Cond.before_iff.mp (hsets _ (List.mem_of_getElem? (i := 1) rfl))
  obtain ⟨cs, evC⟩ := is_v hs1
  have SC := Sta.start evC (Or.inl (hsets _ (List.mem_of_getElem? (i := 0) rfl)))
  have hs2 := Cond.before_iff.mp (hsets _ (List.mem_of_getElem? (i := 2) rfl))
  have hcs : cs ≠ 0 := fun q => by subst q; exact absurd ((eq_i evC (Term.int_eval 0) rfl).symm.trans (not_v hs2)) (by decide)
  obtain ⟨n, o, h1, h2, h3, _, L, rfl, ⟨rfl, N⟩, hq⟩ := rm0 l s _ hw tables_1 i0 i1 i2 cs ea (.ref da) s.heap s.heap.size (Nat.le_refl _) (Old.start s) SC hcs SE SD rfl p e ha hc hk s m _ below hf ((Spec.applies_iff_loose hf).mp happ).1 ⟨rfl, State.Warmed39.refl s, rfl⟩ trivial
  refine ⟨n, _, h1, h2, h3, hpost _ _ _ _ _ _ ⟨Cond.after_iff.mpr rfl, Cond.after_iff.mpr (eq_i res_at (Term.int_eval (1)) rfl), trivial⟩ ⟨hq.1, hq.2.1, hq.2.2.1, (hq.2.2.2.sift fun y hy => Or.inr (N y hy)).mono (by decide) (by decide)⟩⟩
theorem main_1_1 : Claimed_1_1 := comes_1 fun _ _ _ _ _ _ h hF => ⟨h.1, hF⟩
theorem main_1_2 : Claimed_1_2 := comes_1 fun _ _ _ _ _ _ h hF => ⟨h.2.1, hF⟩
end Jvm.Pilot.@@N@@
namespace Jvm.Pilot.@@N@@
open Jvm Jvm.ClassFile Sem Op Lib Jvm.Free Jvm.Stand Jvm.Pilot.@@N@@.Jvm.D
/-! MADE BY PROGRAM (witnessworld.py) out of the Statement's table words and the real class files: 29 classes; the members and pool entries that the words name. The judged class is class 1, her method 4. -/
namespace start1
open Jvm.ClassFile
def u (s : String) : CpInfo := .utf8 (stringToUtf16 s)
/-- a pool by its gaps: so many unusable entries, then the entry; so many at the end -/
def gap : Nat → List CpInfo → List CpInfo
  | 0, r => r
  | n + 1, r => .unusable :: gap n r
def poolList (es : List (Nat × CpInfo)) (last : Nat) : List CpInfo := es.foldr (fun e r => gap e.1 (e.2 :: r)) (gap last [])
def pool (es : List (Nat × CpInfo)) (last : Nat) : Array CpInfo := ⟨poolList es last⟩
def fileOf (pool : Array CpInfo) (this : Nat) (attrs : Array Attribute := #[]) (ms : Array MethodInfo := #[]) (fl : Nat := 33) (sup : Nat := 0) (ifs : Array Nat := #[]) (fds : Array FieldInfo := #[]) : ClassFile where
  minorVersion := 0
  majorVersion := 65
  constantPool := pool
  accessFlags := fl
  thisClass := this
  superClass := sup
  interfaces := ifs
  fields := fds
  methods := ms
  attributes := attrs
def plain (name : String) (sup : Option ClassId) : Class where
  name := name
  kind := .ordinary
  loader := none
  accessFlags := 33
  super := sup
  interfaces := #[]
  cf := none
  fields := #[]
  methods := #[]
  instanceTypes := #[]
  staticTypes := #[]
  resolved := #[]
  callSites := []
  init := .initialized
  statics := none
  mirror := none

def pool0 : Array CpInfo := pool [(5, u "<init>"), (0, u "()V"), (1, .class_ 10), (1, u "java/lang/Object")] 113

def k0c0 : Code := { maxStack := 0, maxLocals := 1, code := object_method_1_code, exceptionTable := #[], attributes := #[] }
def k0m0 : Method := { name := "<init>", desc := "()V", sig := { parameters := [], returnType := none }, accessFlags := 1, code := some k0c0 }
/-- java/lang/Object -/
def k0 : Class := { plain "java/lang/Object" none with
  accessFlags := 33
  interfaces := #[]
  cf := some (fileOf pool0 8 #[] #[{ accessFlags := 1, nameIndex := 5, descriptorIndex := 6, attributes := #[] }] 33 0 #[] #[])
  fields := #[]
  methods := #[k0m0]
  instanceTypes := #[]
  staticTypes := #[]
  resolved := Array.replicate 124 none
  statics := none }

def pool1 : Array CpInfo := pool [(2, .class_ 4), (1, u "java/lang/Object"), (0, u "<init>"), (0, u "()V"), (0, .methodref 8 9), (0, .class_ 10), (0, .nameAndType 11 12), (0, u "com/example/fedlint/fedlint/TypeDerivesFromPinLaw"), (0, u "parent"), (0, u "(IIII)I"), (0, .class_ 14), (0, u "com/example/fedlint/fedlint/SchemaModel$ComplexType"), (0, .string 16), (0, u "n"), (0, .methodref 18 19), (0, .class_ 20), (0, .nameAndType 21 22), (0, u "java/lang/String"), (0, u "valueOf"), (0, u "(C)Ljava/lang/String;"), (0, .methodref 13 24), (0, .nameAndType 5 25), (0, u "(Ljava/lang/String;Ljava/lang/String;)V"), (0, .methodref 8 27), (0, .nameAndType 28 29), (0, u "node"), (0, u "(ILcom/example/fedlint/fedlint/SchemaModel$ComplexType;Lcom/example/fedlint/fedlint/SchemaModel$ComplexType;Lcom/example/fedlint/fedlint/SchemaModel$ComplexType;Lcom/example/fedlint/fedlint/SchemaModel$ComplexType;)Lcom/example/fedlint/fedlint/SchemaModel$ComplexType;"), (0, .fieldref 13 31), (0, .nameAndType 32 33), (0, u "base"), (0, u "Lcom/example/fedlint/fedlint/SchemaModel$Type;"), (0, .methodref 35 36), (0, .class_ 37), (0, .nameAndType 38 39), (0, u "com/example/fedlint/fedlint/SchemaModel$Type"), (0, u "derivesFrom"), (0, u "(Lcom/example/fedlint/fedlint/SchemaModel$Type;)Z"), (0, .methodref 8 41), (0, .nameAndType 42 43), (0, u "reaches"), (0, u "(IIIII)Z"), (3, u "law"), (0, u "(III)Z")] 7

def k1m0 : Method := { name := "<init>", desc := "()V", sig := { parameters := [], returnType := none }, accessFlags := 2, code := none }
def k1c1 : Code := { maxStack := 2, maxLocals := 5, code := method_2_code, exceptionTable := #[], attributes := #[] }
def k1m1 : Method := { name := "node", desc := "(ILcom/example/fedlint/fedlint/SchemaModel$ComplexType;Lcom/example/fedlint/fedlint/SchemaModel$ComplexType;Lcom/example/fedlint/fedlint/SchemaModel$ComplexType;Lcom/example/fedlint/fedlint/SchemaModel$ComplexType;)Lcom/example/fedlint/fedlint/SchemaModel$ComplexType;", sig := { parameters := [.int, (.object "com/example/fedlint/fedlint/SchemaModel$ComplexType"), (.object "com/example/fedlint/fedlint/SchemaModel$ComplexType"), (.object "com/example/fedlint/fedlint/SchemaModel$ComplexType"), (.object "com/example/fedlint/fedlint/SchemaModel$ComplexType")], returnType := some (.object "com/example/fedlint/fedlint/SchemaModel$ComplexType") }, accessFlags := 10, code := some k1c1 }
def k1c2 : Code := { maxStack := 2, maxLocals := 4, code := method_3_code, exceptionTable := #[], attributes := #[] }
def k1m2 : Method := { name := "parent", desc := "(IIII)I", sig := { parameters := [.int, .int, .int, .int], returnType := some .int }, accessFlags := 10, code := some k1c2 }
def k1c3 : Code := { maxStack := 4, maxLocals := 8, code := method_4_code, exceptionTable := #[], attributes := #[] }
def k1m3 : Method := { name := "reaches", desc := "(IIIII)Z", sig := { parameters := [.int, .int, .int, .int, .int], returnType := some .boolean }, accessFlags := 10, code := some k1c3 }
def k1c4 : Code := { maxStack := 6, maxLocals := 18, code := code, exceptionTable := #[], attributes := #[] }
def k1m4 : Method := { name := "law", desc := "(III)Z", sig := { parameters := [.int, .int, .int], returnType := some .boolean }, accessFlags := 9, code := some k1c4 }
/-- com/example/fedlint/fedlint/TypeDerivesFromPinLaw -/
def k1 : Class := { plain "com/example/fedlint/fedlint/TypeDerivesFromPinLaw" (some 0) with
  accessFlags := 49
  interfaces := #[]
  cf := some (fileOf pool1 8 #[] #[{ accessFlags := 2, nameIndex := 5, descriptorIndex := 6, attributes := #[] }, { accessFlags := 10, nameIndex := 28, descriptorIndex := 29, attributes := #[] }, { accessFlags := 10, nameIndex := 11, descriptorIndex := 12, attributes := #[] }, { accessFlags := 10, nameIndex := 42, descriptorIndex := 43, attributes := #[] }, { accessFlags := 9, nameIndex := 47, descriptorIndex := 48, attributes := #[] }] 49 2 #[] #[])
  fields := #[]
  methods := #[k1m0, k1m1, k1m2, k1m3, k1m4]
  instanceTypes := #[]
  staticTypes := #[]
  resolved := Array.replicate 56 none
  statics := none }

def pool2 : Array CpInfo := pool [(1, .methodref 2 3), (0, .class_ 4), (0, .nameAndType 5 6), (0, u "java/lang/Object"), (0, u "<init>"), (0, u "()V"), (0, .fieldref 8 9), (0, .class_ 10), (0, .nameAndType 11 12), (0, u "com/example/fedlint/fedlint/SchemaModel$Type"), (0, u "namespace"), (0, u "Ljava/lang/String;"), (0, .fieldref 8 14), (0, .nameAndType 15 12), (0, u "name"), (0, .fieldref 8 17), (0, .nameAndType 18 19), (0, u "base"), (0, u "Lcom/example/fedlint/fedlint/SchemaModel$Type;"), (0, u "byExtension"), (0, u "Z"), (0, u "isAbstract"), (0, u "unsupported"), (0, u "(Ljava/lang/String;Ljava/lang/String;)V"), (2, u "derivesFrom"), (0, u "(Lcom/example/fedlint/fedlint/SchemaModel$Type;)Z"), (4, .class_ 34), (0, u "com/example/fedlint/fedlint/SchemaModel")] 2

def k2c0 : Code := { maxStack := 2, maxLocals := 3, code := prog_72_method_1_code, exceptionTable := #[], attributes := #[] }
def k2m0 : Method := { name := "<init>", desc := "(Ljava/lang/String;Ljava/lang/String;)V", sig := { parameters := [(.object "java/lang/String"), (.object "java/lang/String")], returnType := none }, accessFlags := 0, code := some k2c0 }
def k2c1 : Code := { maxStack := 2, maxLocals := 3, code := prog_72_method_2_code, exceptionTable := #[], attributes := #[] }
def k2m1 : Method := { name := "derivesFrom", desc := "(Lcom/example/fedlint/fedlint/SchemaModel$Type;)Z", sig := { parameters := [(.object "com/example/fedlint/fedlint/SchemaModel$Type")], returnType := some .boolean }, accessFlags := 0, code := some k2c1 }
/-- com/example/fedlint/fedlint/SchemaModel$Type -/
def k2 : Class := { plain "com/example/fedlint/fedlint/SchemaModel$Type" (some 0) with
  accessFlags := 1056
  interfaces := #[]
  cf := some (fileOf pool2 8 #[.nestHost 33] #[{ accessFlags := 0, nameIndex := 5, descriptorIndex := 24, attributes := #[] }, { accessFlags := 0, nameIndex := 27, descriptorIndex := 28, attributes := #[] }] 1056 2 #[] #[{ accessFlags := 16, nameIndex := 11, descriptorIndex := 12, attributes := #[] }, { accessFlags := 16, nameIndex := 15, descriptorIndex := 12, attributes := #[] }, { accessFlags := 0, nameIndex := 18, descriptorIndex := 19, attributes := #[] }, { accessFlags := 0, nameIndex := 20, descriptorIndex := 21, attributes := #[] }, { accessFlags := 0, nameIndex := 22, descriptorIndex := 21, attributes := #[] }, { accessFlags := 0, nameIndex := 23, descriptorIndex := 12, attributes := #[] }])
  fields := #[{ name := "namespace", type := (.object "java/lang/String"), accessFlags := 16, slot := 0, constantValue := 0 }, { name := "name", type := (.object "java/lang/String"), accessFlags := 16, slot := 1, constantValue := 0 }, { name := "base", type := (.object "com/example/fedlint/fedlint/SchemaModel$Type"), accessFlags := 0, slot := 2, constantValue := 0 }, { name := "byExtension", type := .boolean, accessFlags := 0, slot := 3, constantValue := 0 }, { name := "isAbstract", type := .boolean, accessFlags := 0, slot := 4, constantValue := 0 }, { name := "unsupported", type := (.object "java/lang/String"), accessFlags := 0, slot := 5, constantValue := 0 }]
  methods := #[k2m0, k2m1]
  instanceTypes := #[(.object "java/lang/String"), (.object "java/lang/String"), (.object "com/example/fedlint/fedlint/SchemaModel$Type"), .boolean, .boolean, (.object "java/lang/String")]
  staticTypes := #[]
  resolved := Array.replicate 37 none
  statics := none }

def pool3 : Array CpInfo := pool [(1, .methodref 2 3), (0, .class_ 4), (0, .nameAndType 5 6), (0, u "com/example/fedlint/fedlint/SchemaModel$Type"), (0, u "<init>"), (0, u "(Ljava/lang/String;Ljava/lang/String;)V"), (0, .fieldref 8 9), (0, .class_ 10), (0, .nameAndType 11 12), (0, u "com/example/fedlint/fedlint/SchemaModel$ComplexType$Content"), (0, u "EMPTY"), (0, u "Lcom/example/fedlint/fedlint/SchemaModel$ComplexType$Content;"), (0, .fieldref 14 15), (0, .class_ 16), (0, .nameAndType 17 12), (0, u "com/example/fedlint/fedlint/SchemaModel$ComplexType"), (0, u "content"), (0, .class_ 19), (0, u "java/util/ArrayList"), (0, .methodref 18 21), (0, .nameAndType 5 22), (0, u "()V"), (0, .fieldref 14 24), (0, .nameAndType 25 26), (0, u "attributeUses"), (0, u "Ljava/util/List;"), (0, .fieldref 14 28), (0, .nameAndType 29 30), (0, u "requiredUses"), (0, u "I"), (2, u "start"), (0, u "Lcom/example/fedlint/fedlint/ContentModel$State;"), (2, u "particle"), (0, u "Lcom/example/fedlint/fedlint/SchemaModel$Particle;"), (49, u "simpleContent"), (0, u "Lcom/example/fedlint/fedlint/SchemaModel$SimpleType;"), (2, u "attributeWildcard"), (0, u "Lcom/example/fedlint/fedlint/SchemaModel$Wildcard;"), (9, .class_ 104), (0, u "com/example/fedlint/fedlint/SchemaModel")] 17

def k3c0 : Code := { maxStack := 3, maxLocals := 3, code := prog_62_method_1_code, exceptionTable := #[], attributes := #[] }
def k3m0 : Method := { name := "<init>", desc := "(Ljava/lang/String;Ljava/lang/String;)V", sig := { parameters := [(.object "java/lang/String"), (.object "java/lang/String")], returnType := none }, accessFlags := 0, code := some k3c0 }
/-- com/example/fedlint/fedlint/SchemaModel$ComplexType -/
def k3 : Class := { plain "com/example/fedlint/fedlint/SchemaModel$ComplexType" (some 2) with
  accessFlags := 48
  interfaces := #[]
  cf := some (fileOf pool3 14 #[.nestHost 103] #[{ accessFlags := 0, nameIndex := 5, descriptorIndex := 6, attributes := #[] }] 48 2 #[] #[{ accessFlags := 0, nameIndex := 17, descriptorIndex := 12, attributes := #[] }, { accessFlags := 0, nameIndex := 88, descriptorIndex := 89, attributes := #[] }, { accessFlags := 0, nameIndex := 37, descriptorIndex := 38, attributes := #[] }, { accessFlags := 2, nameIndex := 33, descriptorIndex := 34, attributes := #[] }, { accessFlags := 16, nameIndex := 25, descriptorIndex := 26, attributes := #[] }, { accessFlags := 2, nameIndex := 29, descriptorIndex := 30, attributes := #[] }, { accessFlags := 0, nameIndex := 92, descriptorIndex := 93, attributes := #[] }])
  fields := #[{ name := "content", type := (.object "com/example/fedlint/fedlint/SchemaModel$ComplexType$Content"), accessFlags := 0, slot := 6, constantValue := 0 }, { name := "simpleContent", type := (.object "com/example/fedlint/fedlint/SchemaModel$SimpleType"), accessFlags := 0, slot := 7, constantValue := 0 }, { name := "particle", type := (.object "com/example/fedlint/fedlint/SchemaModel$Particle"), accessFlags := 0, slot := 8, constantValue := 0 }, { name := "start", type := (.object "com/example/fedlint/fedlint/ContentModel$State"), accessFlags := 2, slot := 9, constantValue := 0 }, { name := "attributeUses", type := (.object "java/util/List"), accessFlags := 16, slot := 10, constantValue := 0 }, { name := "requiredUses", type := .int, accessFlags := 2, slot := 11, constantValue := 0 }, { name := "attributeWildcard", type := (.object "com/example/fedlint/fedlint/SchemaModel$Wildcard"), accessFlags := 0, slot := 12, constantValue := 0 }]
  methods := #[k3m0]
  instanceTypes := #[(.object "java/lang/String"), (.object "java/lang/String"), (.object "com/example/fedlint/fedlint/SchemaModel$Type"), .boolean, .boolean, (.object "java/lang/String"), (.object "com/example/fedlint/fedlint/SchemaModel$ComplexType$Content"), (.object "com/example/fedlint/fedlint/SchemaModel$SimpleType"), (.object "com/example/fedlint/fedlint/SchemaModel$Particle"), (.object "com/example/fedlint/fedlint/ContentModel$State"), (.object "java/util/List"), .int, (.object "com/example/fedlint/fedlint/SchemaModel$Wildcard")]
  staticTypes := #[]
  resolved := Array.replicate 122 none
  statics := none }

def pool4 : Array CpInfo := pool [(1, .class_ 2), (0, u "java/io/Serializable"), (0, .class_ 4), (0, u "java/lang/Object")] 2

/-- java/io/Serializable -/
def k4 : Class := { plain "java/io/Serializable" (some 0) with
  accessFlags := 1537
  interfaces := #[]
  cf := some (fileOf pool4 1 #[] #[] 1537 3 #[] #[])
  fields := #[]
  methods := #[]
  instanceTypes := #[]
  staticTypes := #[]
  resolved := Array.replicate 7 none
  statics := none }

def pool5 : Array CpInfo := pool [(1, .class_ 2), (0, u "java/lang/Comparable"), (0, .class_ 4), (0, u "java/lang/Object")] 7

/-- java/lang/Comparable -/
def k5 : Class := { plain "java/lang/Comparable" (some 0) with
  accessFlags := 1537
  interfaces := #[]
  cf := some (fileOf pool5 1 #[] #[] 1537 3 #[] #[])
  fields := #[]
  methods := #[]
  instanceTypes := #[]
  staticTypes := #[]
  resolved := Array.replicate 12 none
  statics := none }

def pool6 : Array CpInfo := pool [(2, .class_ 4), (1, u "java/lang/CharSequence"), (42, .class_ 48), (0, u "java/lang/CharSequence$1CodePointIterator"), (10, .class_ 60), (0, u "java/lang/CharSequence$1CharIterator"), (5, .class_ 67), (0, u "java/lang/Object")] 63

/-- java/lang/CharSequence -/
def k6 : Class := { plain "java/lang/CharSequence" (some 0) with
  accessFlags := 1537
  interfaces := #[]
  cf := some (fileOf pool6 2 #[.nestMembers #[47, 59]] #[] 1537 66 #[] #[])
  fields := #[]
  methods := #[]
  instanceTypes := #[]
  staticTypes := #[]
  resolved := Array.replicate 131 none
  statics := none }

def pool7 : Array CpInfo := pool [(1, .class_ 2), (0, u "java/lang/constant/Constable"), (0, .class_ 4), (0, u "java/lang/Object")] 6

/-- java/lang/constant/Constable -/
def k7 : Class := { plain "java/lang/constant/Constable" (some 0) with
  accessFlags := 1537
  interfaces := #[]
  cf := some (fileOf pool7 1 #[] #[] 1537 3 #[] #[])
  fields := #[]
  methods := #[]
  instanceTypes := #[]
  staticTypes := #[]
  resolved := Array.replicate 11 none
  statics := none }

def pool8 : Array CpInfo := pool [(1, .class_ 2), (0, u "java/lang/constant/ConstantDesc"), (0, .class_ 4), (0, u "java/lang/Object")] 32

/-- java/lang/constant/ConstantDesc -/
def k8 : Class := { plain "java/lang/constant/ConstantDesc" (some 0) with
  accessFlags := 1537
  interfaces := #[]
  cf := some (fileOf pool8 1 #[] #[] 1537 3 #[] #[])
  fields := #[]
  methods := #[]
  instanceTypes := #[]
  staticTypes := #[]
  resolved := Array.replicate 37 none
  statics := none }

def pool9 : Array CpInfo := pool [(1, .methodref 2 3), (0, .class_ 4), (0, .nameAndType 5 6), (0, u "java/lang/Object"), (0, u "<init>"), (0, u "()V"), (2, .fieldref 10 11), (0, .class_ 12), (0, .nameAndType 13 14), (0, u "java/lang/String"), (0, u "value"), (0, u "[B"), (0, .fieldref 10 16), (0, .nameAndType 17 18), (0, u "coder"), (0, u "B"), (2, u "hash"), (0, u "I"), (2, u "hashIsZero"), (0, u "Z"), (11, .fieldref 10 39), (0, .nameAndType 40 26), (0, u "COMPACT_STRINGS"), (12, u "toBytes"), (53, .class_ 109), (1, u "java/lang/StringLatin1"), (99, .methodref 10 210), (0, .nameAndType 5 211), (0, u "([BB)V"), (157, u "(C)Z"), (205, .class_ 576), (0, u "java/lang/CharSequence"), (22, u "CASE_INSENSITIVE_ORDER"), (0, u "Ljava/util/Comparator;"), (181, u "valueOf"), (0, u "(C)Ljava/lang/String;"), (231, .methodref 107 1016), (0, .nameAndType 1017 369), (0, u "canEncode"), (0, .methodref 107 1019), (0, .nameAndType 53 1020), (0, u "(C)[B"), (80, u "serialPersistentFields"), (0, u "[Ljava/io/ObjectStreamField;"), (0, .class_ 1104), (0, u "java/lang/String$CaseInsensitiveComparator"), (1, .class_ 1107), (0, u "java/io/Serializable"), (0, .class_ 1109), (0, u "java/lang/Comparable"), (0, .class_ 1111), (0, u "java/lang/constant/Constable"), (0, .class_ 1113), (0, u "java/lang/constant/ConstantDesc"), (2, u "serialVersionUID"), (0, u "J"), (3, u "REPL"), (0, u "C"), (2, u "LATIN1"), (1, u "UTF16")] 323

def k9m0 : Method := { name := "<init>", desc := "()V", sig := { parameters := [], returnType := none }, accessFlags := 1, code := none }
def k9c1 : Code := { maxStack := 4, maxLocals := 1, code := jdk_42_method_139_code, exceptionTable := #[], attributes := #[] }
def k9m1 : Method := { name := "valueOf", desc := "(C)Ljava/lang/String;", sig := { parameters := [.char], returnType := some (.object "java/lang/String") }, accessFlags := 9, code := some k9c1 }
def k9c2 : Code := { maxStack := 2, maxLocals := 3, code := jdk_42_method_151_code, exceptionTable := #[], attributes := #[] }
def k9m2 : Method := { name := "<init>", desc := "([BB)V", sig := { parameters := [(.array .byte), .byte], returnType := none }, accessFlags := 0, code := some k9c2 }
/-- java/lang/String -/
def k9 : Class := { plain "java/lang/String" (some 0) with
  accessFlags := 49
  interfaces := #[4, 5, 6, 7, 8]
  cf := some (fileOf pool9 10 #[.nestMembers #[1103]] #[{ accessFlags := 1, nameIndex := 5, descriptorIndex := 6, attributes := #[] }, { accessFlags := 9, nameIndex := 782, descriptorIndex := 783, attributes := #[] }, { accessFlags := 0, nameIndex := 5, descriptorIndex := 211, attributes := #[] }] 49 2 #[1106, 1108, 575, 1110, 1112] #[{ accessFlags := 18, nameIndex := 13, descriptorIndex := 14, attributes := #[] }, { accessFlags := 18, nameIndex := 17, descriptorIndex := 18, attributes := #[] }, { accessFlags := 2, nameIndex := 21, descriptorIndex := 22, attributes := #[] }, { accessFlags := 2, nameIndex := 25, descriptorIndex := 26, attributes := #[] }, { accessFlags := 26, nameIndex := 1116, descriptorIndex := 1117, attributes := #[] }, { accessFlags := 24, nameIndex := 40, descriptorIndex := 26, attributes := #[] }, { accessFlags := 26, nameIndex := 1101, descriptorIndex := 1102, attributes := #[] }, { accessFlags := 26, nameIndex := 1121, descriptorIndex := 1122, attributes := #[] }, { accessFlags := 25, nameIndex := 599, descriptorIndex := 600, attributes := #[] }, { accessFlags := 24, nameIndex := 1125, descriptorIndex := 18, attributes := #[] }, { accessFlags := 24, nameIndex := 1127, descriptorIndex := 18, attributes := #[] }])
  fields := #[{ name := "value", type := (.array .byte), accessFlags := 18, slot := 0, constantValue := 0 }, { name := "coder", type := .byte, accessFlags := 18, slot := 1, constantValue := 0 }, { name := "hash", type := .int, accessFlags := 2, slot := 2, constantValue := 0 }, { name := "hashIsZero", type := .boolean, accessFlags := 2, slot := 3, constantValue := 0 }, { name := "serialVersionUID", type := .long, accessFlags := 26, slot := 0, constantValue := 0 }, { name := "COMPACT_STRINGS", type := .boolean, accessFlags := 24, slot := 1, constantValue := 0 }, { name := "serialPersistentFields", type := (.array (.object "java/io/ObjectStreamField")), accessFlags := 26, slot := 2, constantValue := 0 }, { name := "REPL", type := .char, accessFlags := 26, slot := 3, constantValue := 0 }, { name := "CASE_INSENSITIVE_ORDER", type := (.object "java/util/Comparator"), accessFlags := 25, slot := 4, constantValue := 0 }, { name := "LATIN1", type := .byte, accessFlags := 24, slot := 5, constantValue := 0 }, { name := "UTF16", type := .byte, accessFlags := 24, slot := 6, constantValue := 0 }]
  methods := #[k9m0, k9m1, k9m2]
  instanceTypes := #[(.array .byte), .byte, .int, .boolean]
  staticTypes := #[.long, .boolean, (.array (.object "java/io/ObjectStreamField")), .char, (.object "java/util/Comparator"), .byte, .byte]
  resolved := Array.replicate 1451 none
  statics := some 0 }

def pool10 : Array CpInfo := pool [(4, .class_ 6), (1, u "java/lang/Object"), (0, u "<init>"), (0, u "()V"), (5, .class_ 16), (1, u "java/lang/StringLatin1"), (73, u "canEncode"), (14, u "(C)Z"), (15, u "$assertionsDisabled"), (0, u "Z"), (98, .class_ 223), (1, u "java/lang/StringLatin1$LinesSpliterator"), (156, u "toBytes"), (1, u "(C)[B"), (7, .class_ 391), (0, u "java/lang/StringLatin1$CharsSpliterator")] 3

def k10m0 : Method := { name := "<init>", desc := "()V", sig := { parameters := [], returnType := none }, accessFlags := 0, code := none }
def k10c1 : Code := { maxStack := 2, maxLocals := 1, code := jdk_43_method_3_code, exceptionTable := #[], attributes := #[] }
def k10m1 : Method := { name := "canEncode", desc := "(C)Z", sig := { parameters := [.char], returnType := some .boolean }, accessFlags := 9, code := some k10c1 }
def k10c2 : Code := { maxStack := 4, maxLocals := 1, code := jdk_43_method_46_code, exceptionTable := #[], attributes := #[] }
def k10m2 : Method := { name := "toBytes", desc := "(C)[B", sig := { parameters := [.char], returnType := some (.array .byte) }, accessFlags := 9, code := some k10c2 }
/-- java/lang/StringLatin1 -/
def k10 : Class := { plain "java/lang/StringLatin1" (some 0) with
  accessFlags := 48
  interfaces := #[]
  cf := some (fileOf pool10 14 #[.nestMembers #[390, 221]] #[{ accessFlags := 0, nameIndex := 7, descriptorIndex := 8, attributes := #[] }, { accessFlags := 9, nameIndex := 90, descriptorIndex := 105, attributes := #[] }, { accessFlags := 9, nameIndex := 380, descriptorIndex := 382, attributes := #[] }] 48 4 #[] #[{ accessFlags := 4120, nameIndex := 121, descriptorIndex := 122, attributes := #[] }])
  fields := #[{ name := "$assertionsDisabled", type := .boolean, accessFlags := 4120, slot := 0, constantValue := 0 }]
  methods := #[k10m0, k10m1, k10m2]
  instanceTypes := #[]
  staticTypes := #[.boolean]
  resolved := Array.replicate 395 none
  statics := none }

def pool11 : Array CpInfo := pool [(2, .class_ 4), (1, u "java/lang/Enum"), (0, u "name"), (0, u "Ljava/lang/String;"), (2, u "ordinal"), (0, u "I"), (1, .class_ 14), (1, u "java/lang/Object"), (4, u "hash"), (86, .class_ 108), (1, u "java/lang/Enum$EnumDesc"), (2, .class_ 112), (0, u "java/lang/constant/Constable"), (0, .class_ 114), (0, u "java/lang/Comparable"), (0, .class_ 116), (0, u "java/io/Serializable")] 87

/-- java/lang/Enum -/
def k11 : Class := { plain "java/lang/Enum" (some 0) with
  accessFlags := 1057
  interfaces := #[7, 5, 4]
  cf := some (fileOf pool11 2 #[.nestMembers #[106]] #[] 1057 12 #[111, 113, 115] #[{ accessFlags := 18, nameIndex := 5, descriptorIndex := 6, attributes := #[] }, { accessFlags := 18, nameIndex := 9, descriptorIndex := 10, attributes := #[] }, { accessFlags := 2, nameIndex := 19, descriptorIndex := 10, attributes := #[] }])
  fields := #[{ name := "name", type := (.object "java/lang/String"), accessFlags := 18, slot := 0, constantValue := 0 }, { name := "ordinal", type := .int, accessFlags := 18, slot := 1, constantValue := 0 }, { name := "hash", type := .int, accessFlags := 2, slot := 2, constantValue := 0 }]
  methods := #[]
  instanceTypes := #[(.object "java/lang/String"), .int, .int]
  staticTypes := #[]
  resolved := Array.replicate 204 none
  statics := none }

def pool12 : Array CpInfo := pool [(1, .class_ 2), (0, u "com/example/fedlint/fedlint/SchemaModel$ComplexType$Content"), (2, u "EMPTY"), (0, u "Lcom/example/fedlint/fedlint/SchemaModel$ComplexType$Content;"), (2, u "SIMPLE"), (2, u "ELEMENTS"), (2, u "MIXED"), (2, u "$VALUES"), (0, u "[Lcom/example/fedlint/fedlint/SchemaModel$ComplexType$Content;"), (6, .class_ 28), (1, u "java/lang/Enum"), (27, .class_ 57), (0, u "com/example/fedlint/fedlint/SchemaModel")] 5

/-- com/example/fedlint/fedlint/SchemaModel$ComplexType$Content -/
def k12 : Class := { plain "com/example/fedlint/fedlint/SchemaModel$ComplexType$Content" (some 11) with
  accessFlags := 16432
  interfaces := #[]
  cf := some (fileOf pool12 1 #[.nestHost 56] #[] 16432 26 #[] #[{ accessFlags := 16409, nameIndex := 5, descriptorIndex := 6, attributes := #[] }, { accessFlags := 16409, nameIndex := 9, descriptorIndex := 6, attributes := #[] }, { accessFlags := 16409, nameIndex := 12, descriptorIndex := 6, attributes := #[] }, { accessFlags := 16409, nameIndex := 15, descriptorIndex := 6, attributes := #[] }, { accessFlags := 4122, nameIndex := 18, descriptorIndex := 19, attributes := #[] }])
  fields := #[{ name := "EMPTY", type := (.object "com/example/fedlint/fedlint/SchemaModel$ComplexType$Content"), accessFlags := 16409, slot := 0, constantValue := 0 }, { name := "SIMPLE", type := (.object "com/example/fedlint/fedlint/SchemaModel$ComplexType$Content"), accessFlags := 16409, slot := 1, constantValue := 0 }, { name := "ELEMENTS", type := (.object "com/example/fedlint/fedlint/SchemaModel$ComplexType$Content"), accessFlags := 16409, slot := 2, constantValue := 0 }, { name := "MIXED", type := (.object "com/example/fedlint/fedlint/SchemaModel$ComplexType$Content"), accessFlags := 16409, slot := 3, constantValue := 0 }, { name := "$VALUES", type := (.array (.object "com/example/fedlint/fedlint/SchemaModel$ComplexType$Content")), accessFlags := 4122, slot := 4, constantValue := 0 }]
  methods := #[]
  instanceTypes := #[(.object "java/lang/String"), .int, .int]
  staticTypes := #[(.object "com/example/fedlint/fedlint/SchemaModel$ComplexType$Content"), (.object "com/example/fedlint/fedlint/SchemaModel$ComplexType$Content"), (.object "com/example/fedlint/fedlint/SchemaModel$ComplexType$Content"), (.object "com/example/fedlint/fedlint/SchemaModel$ComplexType$Content"), (.array (.object "com/example/fedlint/fedlint/SchemaModel$ComplexType$Content"))]
  resolved := Array.replicate 63 none
  statics := some 1 }

def pool13 : Array CpInfo := pool [(8, .class_ 10), (1, u "java/lang/Iterable"), (24, .class_ 36), (0, u "java/lang/Object")] 25

/-- java/lang/Iterable -/
def k13 : Class := { plain "java/lang/Iterable" (some 0) with
  accessFlags := 1537
  interfaces := #[]
  cf := some (fileOf pool13 8 #[] #[] 1537 35 #[] #[])
  fields := #[]
  methods := #[]
  instanceTypes := #[]
  staticTypes := #[]
  resolved := Array.replicate 62 none
  statics := none }

def pool14 : Array CpInfo := pool [(10, .class_ 12), (1, u "java/util/Collection"), (47, .class_ 61), (0, u "java/lang/Object"), (0, .class_ 63), (0, u "java/lang/Iterable")] 51

/-- java/util/Collection -/
def k14 : Class := { plain "java/util/Collection" (some 0) with
  accessFlags := 1537
  interfaces := #[13]
  cf := some (fileOf pool14 10 #[] #[] 1537 60 #[62] #[])
  fields := #[]
  methods := #[]
  instanceTypes := #[]
  staticTypes := #[]
  resolved := Array.replicate 115 none
  statics := none }

def pool15 : Array CpInfo := pool [(1, .methodref 2 3), (0, .class_ 4), (0, .nameAndType 5 6), (0, u "java/lang/Object"), (0, u "<init>"), (0, u "()V"), (1, .class_ 10), (1, u "java/util/AbstractCollection"), (66, .class_ 78), (0, u "java/util/Collection")] 81

def k15c0 : Code := { maxStack := 1, maxLocals := 1, code := jdk_22_method_1_code, exceptionTable := #[], attributes := #[] }
def k15m0 : Method := { name := "<init>", desc := "()V", sig := { parameters := [], returnType := none }, accessFlags := 4, code := some k15c0 }
/-- java/util/AbstractCollection -/
def k15 : Class := { plain "java/util/AbstractCollection" (some 0) with
  accessFlags := 1057
  interfaces := #[14]
  cf := some (fileOf pool15 8 #[] #[{ accessFlags := 4, nameIndex := 5, descriptorIndex := 6, attributes := #[] }] 1057 2 #[77] #[])
  fields := #[]
  methods := #[k15m0]
  instanceTypes := #[]
  staticTypes := #[]
  resolved := Array.replicate 160 none
  statics := none }

def pool16 : Array CpInfo := pool [(8, .class_ 10), (1, u "java/util/SequencedCollection"), (15, .class_ 27), (0, u "java/lang/Object"), (0, .class_ 29), (0, u "java/util/Collection")] 27

/-- java/util/SequencedCollection -/
def k16 : Class := { plain "java/util/SequencedCollection" (some 0) with
  accessFlags := 1537
  interfaces := #[14]
  cf := some (fileOf pool16 8 #[] #[] 1537 26 #[28] #[])
  fields := #[]
  methods := #[]
  instanceTypes := #[]
  staticTypes := #[]
  resolved := Array.replicate 57 none
  statics := none }

def pool17 : Array CpInfo := pool [(8, .class_ 10), (1, u "java/util/List"), (92, .class_ 104), (0, u "java/lang/Object"), (15, .class_ 121), (0, u "java/util/SequencedCollection")] 129

/-- java/util/List -/
def k17 : Class := { plain "java/util/List" (some 0) with
  accessFlags := 1537
  interfaces := #[16]
  cf := some (fileOf pool17 8 #[] #[] 1537 103 #[120] #[])
  fields := #[]
  methods := #[]
  instanceTypes := #[]
  staticTypes := #[]
  resolved := Array.replicate 251 none
  statics := none }

def pool18 : Array CpInfo := pool [(1, .methodref 2 3), (0, .class_ 4), (0, .nameAndType 5 6), (0, u "java/util/AbstractCollection"), (0, u "<init>"), (0, u "()V"), (0, .fieldref 8 9), (0, .class_ 10), (0, .nameAndType 11 12), (0, u "java/util/AbstractList"), (0, u "modCount"), (0, u "I"), (64, .class_ 78), (0, u "java/util/AbstractList$Itr"), (3, .class_ 83), (0, u "java/util/AbstractList$ListItr"), (9, .class_ 94), (0, u "java/util/AbstractList$RandomAccessSubList"), (3, .class_ 99), (0, u "java/util/AbstractList$SubList"), (33, .class_ 134), (0, u "java/util/List"), (73, .class_ 209), (0, u "java/util/AbstractList$SubList$1"), (0, .class_ 211), (0, u "java/util/AbstractList$RandomAccessSpliterator")] 6

def k18c0 : Code := { maxStack := 2, maxLocals := 1, code := jdk_39_method_1_code, exceptionTable := #[], attributes := #[] }
def k18m0 : Method := { name := "<init>", desc := "()V", sig := { parameters := [], returnType := none }, accessFlags := 4, code := some k18c0 }
/-- java/util/AbstractList -/
def k18 : Class := { plain "java/util/AbstractList" (some 15) with
  accessFlags := 1057
  interfaces := #[17]
  cf := some (fileOf pool18 8 #[.nestMembers #[93, 98, 208, 210, 82, 77]] #[{ accessFlags := 4, nameIndex := 5, descriptorIndex := 6, attributes := #[] }] 1057 2 #[133] #[{ accessFlags := 132, nameIndex := 11, descriptorIndex := 12, attributes := #[] }])
  fields := #[{ name := "modCount", type := .int, accessFlags := 132, slot := 0, constantValue := 0 }]
  methods := #[k18m0]
  instanceTypes := #[.int]
  staticTypes := #[]
  resolved := Array.replicate 218 none
  statics := none }

def pool19 : Array CpInfo := pool [(1, .class_ 2), (0, u "java/util/RandomAccess"), (0, .class_ 4), (0, u "java/lang/Object")] 2

/-- java/util/RandomAccess -/
def k19 : Class := { plain "java/util/RandomAccess" (some 0) with
  accessFlags := 1537
  interfaces := #[]
  cf := some (fileOf pool19 1 #[] #[] 1537 3 #[] #[])
  fields := #[]
  methods := #[]
  instanceTypes := #[]
  staticTypes := #[]
  resolved := Array.replicate 7 none
  statics := none }

def pool20 : Array CpInfo := pool [(1, .class_ 2), (0, u "java/lang/Cloneable"), (0, .class_ 4), (0, u "java/lang/Object")] 2

/-- java/lang/Cloneable -/
def k20 : Class := { plain "java/lang/Cloneable" (some 0) with
  accessFlags := 1537
  interfaces := #[]
  cf := some (fileOf pool20 1 #[] #[] 1537 3 #[] #[])
  fields := #[]
  methods := #[]
  instanceTypes := #[]
  staticTypes := #[]
  resolved := Array.replicate 7 none
  statics := none }

def pool21 : Array CpInfo := pool [(1, .methodref 2 3), (0, .class_ 4), (0, .nameAndType 5 6), (0, u "java/util/AbstractList"), (0, u "<init>"), (0, u "()V"), (2, .fieldref 10 11), (0, .class_ 12), (0, .nameAndType 13 14), (0, u "java/util/ArrayList"), (0, u "elementData"), (0, u "[Ljava/lang/Object;"), (2, u "EMPTY_ELEMENTDATA"), (21, .fieldref 10 40), (0, .nameAndType 41 14), (0, u "DEFAULTCAPACITY_EMPTY_ELEMENTDATA"), (8, u "size"), (0, u "I"), (96, .class_ 149), (0, u "java/util/List"), (112, .class_ 263), (0, u "java/util/ArrayList$ListItr"), (3, .class_ 268), (0, u "java/util/ArrayList$Itr"), (7, .class_ 277), (0, u "java/util/ArrayList$SubList"), (12, .class_ 291), (0, u "java/util/ArrayList$ArrayListSpliterator"), (37, .class_ 330), (0, u "java/util/RandomAccess"), (0, .class_ 332), (0, u "java/lang/Cloneable"), (0, .class_ 334), (0, u "java/io/Serializable"), (0, u "serialVersionUID"), (0, u "J"), (3, u "DEFAULT_CAPACITY"), (159, .class_ 501), (0, u "java/util/ArrayList$SubList$2"), (0, .class_ 503), (0, u "java/util/ArrayList$SubList$1")] 5

def k21c0 : Code := { maxStack := 2, maxLocals := 1, code := jdk_38_method_2_code, exceptionTable := #[], attributes := #[] }
def k21m0 : Method := { name := "<init>", desc := "()V", sig := { parameters := [], returnType := none }, accessFlags := 1, code := some k21c0 }
/-- java/util/ArrayList -/
def k21 : Class := { plain "java/util/ArrayList" (some 18) with
  accessFlags := 33
  interfaces := #[17, 19, 20, 4]
  cf := some (fileOf pool21 10 #[.nestMembers #[290, 276, 500, 502, 262, 267]] #[{ accessFlags := 1, nameIndex := 5, descriptorIndex := 6, attributes := #[] }] 33 2 #[148, 329, 331, 333] #[{ accessFlags := 26, nameIndex := 335, descriptorIndex := 336, attributes := #[] }, { accessFlags := 26, nameIndex := 340, descriptorIndex := 51, attributes := #[] }, { accessFlags := 26, nameIndex := 17, descriptorIndex := 14, attributes := #[] }, { accessFlags := 26, nameIndex := 41, descriptorIndex := 14, attributes := #[] }, { accessFlags := 128, nameIndex := 13, descriptorIndex := 14, attributes := #[] }, { accessFlags := 2, nameIndex := 50, descriptorIndex := 51, attributes := #[] }])
  fields := #[{ name := "serialVersionUID", type := .long, accessFlags := 26, slot := 0, constantValue := 0 }, { name := "DEFAULT_CAPACITY", type := .int, accessFlags := 26, slot := 1, constantValue := 0 }, { name := "EMPTY_ELEMENTDATA", type := (.array (.object "java/lang/Object")), accessFlags := 26, slot := 2, constantValue := 0 }, { name := "DEFAULTCAPACITY_EMPTY_ELEMENTDATA", type := (.array (.object "java/lang/Object")), accessFlags := 26, slot := 3, constantValue := 0 }, { name := "elementData", type := (.array (.object "java/lang/Object")), accessFlags := 128, slot := 1, constantValue := 0 }, { name := "size", type := .int, accessFlags := 2, slot := 2, constantValue := 0 }]
  methods := #[k21m0]
  instanceTypes := #[.int, (.array (.object "java/lang/Object")), .int]
  staticTypes := #[.long, .int, (.array (.object "java/lang/Object")), (.array (.object "java/lang/Object"))]
  resolved := Array.replicate 509 none
  statics := some 2 }

def pool22 : Array CpInfo := pool [(2, .class_ 4), (1, u "java/lang/Object"), (0, u "<init>"), (0, u "()V"), (17, .class_ 26), (1, u "jdk/internal/util/Preconditions"), (28, .class_ 56), (0, u "jdk/internal/util/Preconditions$4"), (57, .class_ 115), (0, u "jdk/internal/util/Preconditions$1"), (7, u "SIOOBE_FORMATTER"), (0, u "Ljava/util/function/BiFunction;"), (0, .class_ 126), (0, u "jdk/internal/util/Preconditions$2"), (3, u "AIOOBE_FORMATTER"), (0, .class_ 132), (0, u "jdk/internal/util/Preconditions$3"), (3, u "IOOBE_FORMATTER")] 57

def k22m0 : Method := { name := "<init>", desc := "()V", sig := { parameters := [], returnType := none }, accessFlags := 1, code := none }
/-- jdk/internal/util/Preconditions -/
def k22 : Class := { plain "jdk/internal/util/Preconditions" (some 0) with
  accessFlags := 33
  interfaces := #[]
  cf := some (fileOf pool22 24 #[.nestMembers #[55, 131, 125, 114]] #[{ accessFlags := 1, nameIndex := 5, descriptorIndex := 6, attributes := #[] }] 33 2 #[] #[{ accessFlags := 25, nameIndex := 123, descriptorIndex := 124, attributes := #[] }, { accessFlags := 25, nameIndex := 130, descriptorIndex := 124, attributes := #[] }, { accessFlags := 25, nameIndex := 136, descriptorIndex := 124, attributes := #[] }])
  fields := #[{ name := "SIOOBE_FORMATTER", type := (.object "java/util/function/BiFunction"), accessFlags := 25, slot := 0, constantValue := 0 }, { name := "AIOOBE_FORMATTER", type := (.object "java/util/function/BiFunction"), accessFlags := 25, slot := 1, constantValue := 0 }, { name := "IOOBE_FORMATTER", type := (.object "java/util/function/BiFunction"), accessFlags := 25, slot := 2, constantValue := 0 }]
  methods := #[k22m0]
  instanceTypes := #[]
  staticTypes := #[(.object "java/util/function/BiFunction"), (.object "java/util/function/BiFunction"), (.object "java/util/function/BiFunction")]
  resolved := Array.replicate 194 none
  statics := some 3 }

def pool23 : Array CpInfo := pool [(9, u "<init>"), (6, .class_ 18), (1, u "java/lang/Object"), (0, u "()V"), (1, .class_ 23), (1, u "jdk/internal/util/ArraysSupport"), (0, u "LOG2_ARRAY_LONG_INDEX_SCALE"), (0, u "I"), (2, u "U"), (0, u "Ljdk/internal/misc/Unsafe;"), (8, u "BIG_ENDIAN"), (0, u "Z"), (8, u "LOG2_BYTE_BIT_SIZE"), (4, u "LOG2_ARRAY_INT_INDEX_SCALE"), (54, u "JLA"), (0, u "Ljdk/internal/access/JavaLangAccess;"), (11, u "LOG2_ARRAY_BOOLEAN_INDEX_SCALE"), (9, u "LOG2_ARRAY_BYTE_INDEX_SCALE"), (5, u "LOG2_ARRAY_CHAR_INDEX_SCALE"), (5, u "LOG2_ARRAY_SHORT_INDEX_SCALE"), (18, u "LOG2_ARRAY_FLOAT_INDEX_SCALE"), (24, u "LOG2_ARRAY_DOUBLE_INDEX_SCALE"), (89, u "T_BOOLEAN"), (2, u "T_CHAR"), (1, u "T_FLOAT"), (1, u "T_DOUBLE"), (1, u "T_BYTE"), (1, u "T_SHORT"), (1, u "T_INT"), (1, u "T_LONG"), (1, u "SOFT_MAX_ARRAY_LENGTH")] 83

def k23m0 : Method := { name := "<init>", desc := "()V", sig := { parameters := [], returnType := none }, accessFlags := 2, code := none }
/-- jdk/internal/util/ArraysSupport -/
def k23 : Class := { plain "jdk/internal/util/ArraysSupport" (some 0) with
  accessFlags := 33
  interfaces := #[]
  cf := some (fileOf pool23 21 #[] #[{ accessFlags := 2, nameIndex := 9, descriptorIndex := 19, attributes := #[] }] 33 16 #[] #[{ accessFlags := 24, nameIndex := 28, descriptorIndex := 29, attributes := #[] }, { accessFlags := 26, nameIndex := 38, descriptorIndex := 39, attributes := #[] }, { accessFlags := 25, nameIndex := 121, descriptorIndex := 25, attributes := #[] }, { accessFlags := 25, nameIndex := 131, descriptorIndex := 25, attributes := #[] }, { accessFlags := 25, nameIndex := 137, descriptorIndex := 25, attributes := #[] }, { accessFlags := 25, nameIndex := 143, descriptorIndex := 25, attributes := #[] }, { accessFlags := 25, nameIndex := 53, descriptorIndex := 25, attributes := #[] }, { accessFlags := 25, nameIndex := 24, descriptorIndex := 25, attributes := #[] }, { accessFlags := 25, nameIndex := 162, descriptorIndex := 25, attributes := #[] }, { accessFlags := 25, nameIndex := 187, descriptorIndex := 25, attributes := #[] }, { accessFlags := 26, nameIndex := 48, descriptorIndex := 25, attributes := #[] }, { accessFlags := 25, nameIndex := 277, descriptorIndex := 25, attributes := #[] }, { accessFlags := 25, nameIndex := 280, descriptorIndex := 25, attributes := #[] }, { accessFlags := 25, nameIndex := 282, descriptorIndex := 25, attributes := #[] }, { accessFlags := 25, nameIndex := 284, descriptorIndex := 25, attributes := #[] }, { accessFlags := 25, nameIndex := 286, descriptorIndex := 25, attributes := #[] }, { accessFlags := 25, nameIndex := 288, descriptorIndex := 25, attributes := #[] }, { accessFlags := 25, nameIndex := 290, descriptorIndex := 25, attributes := #[] }, { accessFlags := 25, nameIndex := 292, descriptorIndex := 25, attributes := #[] }, { accessFlags := 26, nameIndex := 108, descriptorIndex := 109, attributes := #[] }, { accessFlags := 25, nameIndex := 294, descriptorIndex := 25, attributes := #[] }])
  fields := #[{ name := "U", type := (.object "jdk/internal/misc/Unsafe"), accessFlags := 24, slot := 0, constantValue := 0 }, { name := "BIG_ENDIAN", type := .boolean, accessFlags := 26, slot := 1, constantValue := 0 }, { name := "LOG2_ARRAY_BOOLEAN_INDEX_SCALE", type := .int, accessFlags := 25, slot := 2, constantValue := 0 }, { name := "LOG2_ARRAY_BYTE_INDEX_SCALE", type := .int, accessFlags := 25, slot := 3, constantValue := 0 }, { name := "LOG2_ARRAY_CHAR_INDEX_SCALE", type := .int, accessFlags := 25, slot := 4, constantValue := 0 }, { name := "LOG2_ARRAY_SHORT_INDEX_SCALE", type := .int, accessFlags := 25, slot := 5, constantValue := 0 }, { name := "LOG2_ARRAY_INT_INDEX_SCALE", type := .int, accessFlags := 25, slot := 6, constantValue := 0 }, { name := "LOG2_ARRAY_LONG_INDEX_SCALE", type := .int, accessFlags := 25, slot := 7, constantValue := 0 }, { name := "LOG2_ARRAY_FLOAT_INDEX_SCALE", type := .int, accessFlags := 25, slot := 8, constantValue := 0 }, { name := "LOG2_ARRAY_DOUBLE_INDEX_SCALE", type := .int, accessFlags := 25, slot := 9, constantValue := 0 }, { name := "LOG2_BYTE_BIT_SIZE", type := .int, accessFlags := 26, slot := 10, constantValue := 0 }, { name := "T_BOOLEAN", type := .int, accessFlags := 25, slot := 11, constantValue := 0 }, { name := "T_CHAR", type := .int, accessFlags := 25, slot := 12, constantValue := 0 }, { name := "T_FLOAT", type := .int, accessFlags := 25, slot := 13, constantValue := 0 }, { name := "T_DOUBLE", type := .int, accessFlags := 25, slot := 14, constantValue := 0 }, { name := "T_BYTE", type := .int, accessFlags := 25, slot := 15, constantValue := 0 }, { name := "T_SHORT", type := .int, accessFlags := 25, slot := 16, constantValue := 0 }, { name := "T_INT", type := .int, accessFlags := 25, slot := 17, constantValue := 0 }, { name := "T_LONG", type := .int, accessFlags := 25, slot := 18, constantValue := 0 }, { name := "JLA", type := (.object "jdk/internal/access/JavaLangAccess"), accessFlags := 26, slot := 19, constantValue := 0 }, { name := "SOFT_MAX_ARRAY_LENGTH", type := .int, accessFlags := 25, slot := 20, constantValue := 0 }]
  methods := #[k23m0]
  instanceTypes := #[]
  staticTypes := #[(.object "jdk/internal/misc/Unsafe"), .boolean, .int, .int, .int, .int, .int, .int, .int, .int, .int, .int, .int, .int, .int, .int, .int, .int, .int, (.object "jdk/internal/access/JavaLangAccess"), .int]
  resolved := Array.replicate 378 none
  statics := none }

/-- the primitive byte -/
def k24 : Class := { plain "byte" none with kind := .primitive 'B', accessFlags := 0x411 }
/-- [B -/
def k25 : Class := { plain "[B" (some 0) with kind := .array 24 .byte, interfaces := #[20, 4], accessFlags := 1041 }

/-- the primitive int -/
def k26 : Class := { plain "int" none with kind := .primitive 'I', accessFlags := 0x411 }
/-- [I -/
def k27 : Class := { plain "[I" (some 0) with kind := .array 26 .int, interfaces := #[20, 4], accessFlags := 1041 }

/-- [Ljava/lang/Object; -/
def k28 : Class := { plain "[Ljava/lang/Object;" (some 0) with kind := .array 0 (.object "java/lang/Object"), interfaces := #[20, 4], accessFlags := 1041 }

def heap : Heap := #[{ cls := 9, slots := #[.long 0, .int 1, .null, .int 0, .null, .int 0, .int 0], vm := .statics 9 },
  { cls := 12, slots := #[.ref 4, .null, .null, .null, .null], vm := .statics 12 },
  { cls := 21, slots := #[.long 0, .int 0, .ref 5, .ref 6], vm := .statics 21 },
  { cls := 22, slots := #[.null, .null, .null], vm := .statics 22 },
  { cls := 12, slots := #[.null, .int 0, .int 0], vm := .none },
  { cls := 28, slots := #[], vm := .none },
  { cls := 28, slots := #[], vm := .none }]
def classes : Array Class := #[k0, k1, k2, k3, k4, k5, k6, k7, k8, k9, k10, k11, k12, k13, k14, k15, k16, k17, k18, k19, k20, k21, k22, k23, k24, k25, k26, k27, k28]
def interned : List (Array UInt16 × Addr) := []
def slotsUsed : Nat := 22
def theMethod : MethodId := ⟨1, 4⟩
def args0 : Array Value := #[.int 5, .int 6, .int 7]
def aboutOver (below : List Frame) : State where
  vm := { classes := classes, interned := interned.toArray }
  heap := heap
  slotsUsed := slotsUsed
  threads := #[{ frames := .invoking theMethod args0 :: below }]
def below0 : List Frame := [.native { method := ⟨0, 0⟩, args := #[] }]
def about1 : State := aboutOver below0
def p0 : Program := .bare "" "" ""
def e0 : Env := launch0.env 0 0 0
theorem w_frames : about1.frames = Frame.invoking theMethod args0 :: below0 := rfl
set_option maxRecDepth 65536 in
theorem w_args : argsFit about1.vm theMethod args0 = true := by decide +kernel
set_option maxRecDepth 65536 in
theorem w_heap : heapFits about1 = true := by decide +kernel
set_option maxRecDepth 65536 in
theorem w_runnable : about1.curStatus? = some .runnable := by decide +kernel
set_option maxRecDepth 65536 in
theorem w_alone : about1.alone = true := by decide +kernel
set_option maxRecDepth 65536 in
theorem w_named : about1.methodNamed? x = some theMethod := by decide +kernel
set_option maxRecDepth 65536 in
theorem w_hears : about1.hears theMethod below0 = true := by decide +kernel
set_option maxRecDepth 65536 in
theorem w_ripe : about1.ripe theMethod args0 below0 = true := by decide +kernel
theorem w_running : about1.status = .running := rfl
set_option maxRecDepth 65536 in
theorem w_room : about1.hasRoom e0.platform room_1 = true :=
  launch0.hasRoom_least _ room_1 (by decide +kernel) (by decide +kernel) (by decide +kernel) (by decide +kernel) (by decide +kernel) (by decide +kernel)
theorem allAtoms_all (ts : List Jvm.Cond) (a : Array Jvm.Value) (st : Jvm.State) : (allAtoms ts).before a st = ts.all (fun c => c.before a st) := by
  induction ts with
  | nil => rfl
  | cons c t ih =>
    show (Jvm.Cond.and c (allAtoms t)).before a st = _
    rw [Jvm.Cond.before_and, ih, List.all_cons]
def words1 : List Jvm.Cond := Jvm.Cond.code x code maxLocals ret :: tables_1
/-- a 'code' word, met by the world's own term for the bytes: nothing is compared byte by byte -/
theorem code_word {y : MethodName} {bytes : ByteArray} {mx : Nat} {rt : Option FieldType} {a : Array Value} {s : State} {m : MethodId} {meth : Method} {c : Code} (h1 : s.methodNamed? y = some m) (h2 : s.vm.method? m = some meth) (h3 : meth.code = some c) (h4 : c.code = bytes)
    (h5 : (c.maxLocals == mx && c.exceptionTable.isEmpty && decide (c.maxStack ≤ mostOperands) && decide (meth.sig.returnType = rt) && !meth.locks && decide (parseMethodDescriptor y.desc = some meth.sig)) = true) : (Jvm.Cond.code y bytes mx rt).before a s = true := by
  simp only [Bool.and_eq_true, beq_iff_eq, Bool.not_eq_true', decide_eq_true_eq] at h5
  obtain ⟨⟨⟨⟨⟨g1, g2⟩, g3⟩, g4⟩, g5⟩, g6⟩ := h5
  simp [Cond.before, Cond.holds, Cond.value, h1, h2, h3, h4, g1, g2, g3, g4, g5, g6]
def isCode : Jvm.Cond → Bool
  | .code _ _ _ _ => true
  | _ => false
theorem all_split {L : List Jvm.Cond} {P : Jvm.Cond → Bool} (h1 : L.all (fun c => isCode c || P c) = true) (h2 : ∀ c ∈ L.filter isCode, P c = true) : L.all P = true := by
  refine List.all_eq_true.mpr fun c hc => ?_
  have h := List.all_eq_true.mp h1 c hc
  rcases Bool.eq_false_or_eq_true (isCode c) with hi | hi
  · exact h2 c (List.mem_filter.mpr ⟨hc, hi⟩)
  · simpa [hi] using h
set_option maxRecDepth 65536 in
theorem w_c0 : (Jvm.Cond.code x code maxLocals ret).before args0 about1 = true := code_word (m := ⟨1, 4⟩) (meth := k1m4) (c := k1c4) (by decide +kernel) rfl rfl rfl (by decide +kernel)
set_option maxRecDepth 65536 in
theorem w_c1 : (Jvm.Cond.code ({ cls := "java/lang/String", name := "valueOf", desc := "(C)Ljava/lang/String;" } : Jvm.MethodName) jdk_42_method_139_code (1 : Nat) (Option.some (Jvm.ClassFile.FieldType.object "java/lang/String"))).before args0 about1 = true := code_word (m := ⟨9, 1⟩) (meth := k9m1) (c := k9c1) (by decide +kernel) rfl rfl rfl (by decide +kernel)
set_option maxRecDepth 65536 in
theorem w_c2 : (Jvm.Cond.code ({ cls := "java/lang/StringLatin1", name := "canEncode", desc := "(C)Z" } : Jvm.MethodName) jdk_43_method_3_code (1 : Nat) (Option.some Jvm.ClassFile.FieldType.boolean)).before args0 about1 = true := code_word (m := ⟨10, 1⟩) (meth := k10m1) (c := k10c1) (by decide +kernel) rfl rfl rfl (by decide +kernel)
set_option maxRecDepth 65536 in
theorem w_c3 : (Jvm.Cond.code ({ cls := "java/lang/StringLatin1", name := "toBytes", desc := "(C)[B" } : Jvm.MethodName) jdk_43_method_46_code (1 : Nat) (Option.some (Jvm.ClassFile.FieldType.array Jvm.ClassFile.FieldType.byte))).before args0 about1 = true := code_word (m := ⟨10, 2⟩) (meth := k10m2) (c := k10c2) (by decide +kernel) rfl rfl rfl (by decide +kernel)
set_option maxRecDepth 65536 in
theorem w_c4 : (Jvm.Cond.code ({ cls := "java/lang/String", name := "<init>", desc := "([BB)V" } : Jvm.MethodName) jdk_42_method_151_code (3 : Nat) (Option.none : Option Jvm.ClassFile.FieldType)).before args0 about1 = true := code_word (m := ⟨9, 2⟩) (meth := k9m2) (c := k9c2) (by decide +kernel) rfl rfl rfl (by decide +kernel)
set_option maxRecDepth 65536 in
theorem w_c5 : (Jvm.Cond.code ({ cls := "java/lang/Object", name := "<init>", desc := "()V" } : Jvm.MethodName) object_method_1_code (1 : Nat) (Option.none : Option Jvm.ClassFile.FieldType)).before args0 about1 = true := code_word (m := ⟨0, 0⟩) (meth := k0m0) (c := k0c0) (by decide +kernel) rfl rfl rfl (by decide +kernel)
set_option maxRecDepth 65536 in
theorem w_c6 : (Jvm.Cond.code ({ cls := "com/example/fedlint/fedlint/SchemaModel$ComplexType", name := "<init>", desc := "(Ljava/lang/String;Ljava/lang/String;)V" } : Jvm.MethodName) prog_62_method_1_code (3 : Nat) (Option.none : Option Jvm.ClassFile.FieldType)).before args0 about1 = true := code_word (m := ⟨3, 0⟩) (meth := k3m0) (c := k3c0) (by decide +kernel) rfl rfl rfl (by decide +kernel)
set_option maxRecDepth 65536 in
theorem w_c7 : (Jvm.Cond.code ({ cls := "com/example/fedlint/fedlint/SchemaModel$Type", name := "<init>", desc := "(Ljava/lang/String;Ljava/lang/String;)V" } : Jvm.MethodName) prog_72_method_1_code (3 : Nat) (Option.none : Option Jvm.ClassFile.FieldType)).before args0 about1 = true := code_word (m := ⟨2, 0⟩) (meth := k2m0) (c := k2c0) (by decide +kernel) rfl rfl rfl (by decide +kernel)
set_option maxRecDepth 65536 in
theorem w_c8 : (Jvm.Cond.code ({ cls := "java/util/ArrayList", name := "<init>", desc := "()V" } : Jvm.MethodName) jdk_38_method_2_code (1 : Nat) (Option.none : Option Jvm.ClassFile.FieldType)).before args0 about1 = true := code_word (m := ⟨21, 0⟩) (meth := k21m0) (c := k21c0) (by decide +kernel) rfl rfl rfl (by decide +kernel)
set_option maxRecDepth 65536 in
theorem w_c9 : (Jvm.Cond.code ({ cls := "java/util/AbstractList", name := "<init>", desc := "()V" } : Jvm.MethodName) jdk_39_method_1_code (1 : Nat) (Option.none : Option Jvm.ClassFile.FieldType)).before args0 about1 = true := code_word (m := ⟨18, 0⟩) (meth := k18m0) (c := k18c0) (by decide +kernel) rfl rfl rfl (by decide +kernel)
set_option maxRecDepth 65536 in
theorem w_c10 : (Jvm.Cond.code ({ cls := "java/util/AbstractCollection", name := "<init>", desc := "()V" } : Jvm.MethodName) jdk_22_method_1_code (1 : Nat) (Option.none : Option Jvm.ClassFile.FieldType)).before args0 about1 = true := code_word (m := ⟨15, 0⟩) (meth := k15m0) (c := k15c0) (by decide +kernel) rfl rfl rfl (by decide +kernel)
set_option maxRecDepth 65536 in
theorem w_c11 : (Jvm.Cond.code ({ cls := "com/example/fedlint/fedlint/TypeDerivesFromPinLaw", name := "node", desc := "(ILcom/example/fedlint/fedlint/SchemaModel$ComplexType;Lcom/example/fedlint/fedlint/SchemaModel$ComplexType;Lcom/example/fedlint/fedlint/SchemaModel$ComplexType;Lcom/example/fedlint/fedlint/SchemaModel$ComplexType;)Lcom/example/fedlint/fedlint/SchemaModel$ComplexType;" } : Jvm.MethodName) method_2_code (5 : Nat) (Option.some (Jvm.ClassFile.FieldType.object "com/example/fedlint/fedlint/SchemaModel$ComplexType"))).before args0 about1 = true := code_word (m := ⟨1, 1⟩) (meth := k1m1) (c := k1c1) (by decide +kernel) rfl rfl rfl (by decide +kernel)
set_option maxRecDepth 65536 in
theorem w_c12 : (Jvm.Cond.code ({ cls := "com/example/fedlint/fedlint/SchemaModel$Type", name := "derivesFrom", desc := "(Lcom/example/fedlint/fedlint/SchemaModel$Type;)Z" } : Jvm.MethodName) prog_72_method_2_code (3 : Nat) (Option.some Jvm.ClassFile.FieldType.boolean)).before args0 about1 = true := code_word (m := ⟨2, 1⟩) (meth := k2m1) (c := k2c1) (by decide +kernel) rfl rfl rfl (by decide +kernel)
set_option maxRecDepth 65536 in
theorem w_c13 : (Jvm.Cond.code ({ cls := "com/example/fedlint/fedlint/TypeDerivesFromPinLaw", name := "reaches", desc := "(IIIII)Z" } : Jvm.MethodName) method_4_code (8 : Nat) (Option.some Jvm.ClassFile.FieldType.boolean)).before args0 about1 = true := code_word (m := ⟨1, 3⟩) (meth := k1m3) (c := k1c3) (by decide +kernel) rfl rfl rfl (by decide +kernel)
set_option maxRecDepth 65536 in
theorem w_c14 : (Jvm.Cond.code ({ cls := "com/example/fedlint/fedlint/TypeDerivesFromPinLaw", name := "parent", desc := "(IIII)I" } : Jvm.MethodName) method_3_code (4 : Nat) (Option.some Jvm.ClassFile.FieldType.int)).before args0 about1 = true := code_word (m := ⟨1, 2⟩) (meth := k1m2) (c := k1c2) (by decide +kernel) rfl rfl rfl (by decide +kernel)
def codes1 : List Jvm.Cond := [Jvm.Cond.code x code maxLocals ret, Jvm.Cond.code ({ cls := "java/lang/String", name := "valueOf", desc := "(C)Ljava/lang/String;" } : Jvm.MethodName) jdk_42_method_139_code (1 : Nat) (Option.some (Jvm.ClassFile.FieldType.object "java/lang/String")), Jvm.Cond.code ({ cls := "java/lang/StringLatin1", name := "canEncode", desc := "(C)Z" } : Jvm.MethodName) jdk_43_method_3_code (1 : Nat) (Option.some Jvm.ClassFile.FieldType.boolean), Jvm.Cond.code ({ cls := "java/lang/StringLatin1", name := "toBytes", desc := "(C)[B" } : Jvm.MethodName) jdk_43_method_46_code (1 : Nat) (Option.some (Jvm.ClassFile.FieldType.array Jvm.ClassFile.FieldType.byte)), Jvm.Cond.code ({ cls := "java/lang/String", name := "<init>", desc := "([BB)V" } : Jvm.MethodName) jdk_42_method_151_code (3 : Nat) (Option.none : Option Jvm.ClassFile.FieldType), Jvm.Cond.code ({ cls := "java/lang/Object", name := "<init>", desc := "()V" } : Jvm.MethodName) object_method_1_code (1 : Nat) (Option.none : Option Jvm.ClassFile.FieldType), Jvm.Cond.code ({ cls := "com/example/fedlint/fedlint/SchemaModel$ComplexType", name := "<init>", desc := "(Ljava/lang/String;Ljava/lang/String;)V" } : Jvm.MethodName) prog_62_method_1_code (3 : Nat) (Option.none : Option Jvm.ClassFile.FieldType), Jvm.Cond.code ({ cls := "com/example/fedlint/fedlint/SchemaModel$Type", name := "<init>", desc := "(Ljava/lang/String;Ljava/lang/String;)V" } : Jvm.MethodName) prog_72_method_1_code (3 : Nat) (Option.none : Option Jvm.ClassFile.FieldType), Jvm.Cond.code ({ cls := "java/util/ArrayList", name := "<init>", desc := "()V" } : Jvm.MethodName) jdk_38_method_2_code (1 : Nat) (Option.none : Option Jvm.ClassFile.FieldType), Jvm.Cond.code ({ cls := "java/util/AbstractList", name := "<init>", desc := "()V" } : Jvm.MethodName) jdk_39_method_1_code (1 : Nat) (Option.none : Option Jvm.ClassFile.FieldType), Jvm.Cond.code ({ cls := "java/util/AbstractCollection", name := "<init>", desc := "()V" } : Jvm.MethodName) jdk_22_method_1_code (1 : Nat) (Option.none : Option Jvm.ClassFile.FieldType), Jvm.Cond.code ({ cls := "com/example/fedlint/fedlint/TypeDerivesFromPinLaw", name := "node", desc := "(ILcom/example/fedlint/fedlint/SchemaModel$ComplexType;Lcom/example/fedlint/fedlint/SchemaModel$ComplexType;Lcom/example/fedlint/fedlint/SchemaModel$ComplexType;Lcom/example/fedlint/fedlint/SchemaModel$ComplexType;)Lcom/example/fedlint/fedlint/SchemaModel$ComplexType;" } : Jvm.MethodName) method_2_code (5 : Nat) (Option.some (Jvm.ClassFile.FieldType.object "com/example/fedlint/fedlint/SchemaModel$ComplexType")), Jvm.Cond.code ({ cls := "com/example/fedlint/fedlint/SchemaModel$Type", name := "derivesFrom", desc := "(Lcom/example/fedlint/fedlint/SchemaModel$Type;)Z" } : Jvm.MethodName) prog_72_method_2_code (3 : Nat) (Option.some Jvm.ClassFile.FieldType.boolean), Jvm.Cond.code ({ cls := "com/example/fedlint/fedlint/TypeDerivesFromPinLaw", name := "reaches", desc := "(IIIII)Z" } : Jvm.MethodName) method_4_code (8 : Nat) (Option.some Jvm.ClassFile.FieldType.boolean), Jvm.Cond.code ({ cls := "com/example/fedlint/fedlint/TypeDerivesFromPinLaw", name := "parent", desc := "(IIII)I" } : Jvm.MethodName) method_3_code (4 : Nat) (Option.some Jvm.ClassFile.FieldType.int)]
set_option maxRecDepth 65536 in
theorem codes_eq : words1.filter isCode = codes1 := rfl
theorem w_codes : ∀ c ∈ words1.filter isCode, c.before args0 about1 = true := by
  rw [codes_eq]
  intro c hc
  simp only [codes1, List.mem_cons, List.not_mem_nil, or_false] at hc
  rcases hc with rfl | rfl | rfl | rfl | rfl | rfl | rfl | rfl | rfl | rfl | rfl | rfl | rfl | rfl | rfl
  · exact w_c0
  · exact w_c1
  · exact w_c2
  · exact w_c3
  · exact w_c4
  · exact w_c5
  · exact w_c6
  · exact w_c7
  · exact w_c8
  · exact w_c9
  · exact w_c10
  · exact w_c11
  · exact w_c12
  · exact w_c13
  · exact w_c14
set_option maxRecDepth 65536 in
theorem w_t1 : (words1.take 24).all (fun c => isCode c || c.before args0 about1) = true := by decide +kernel
set_option maxRecDepth 65536 in
theorem w_t2 : ((words1.drop 24).take 24).all (fun c => isCode c || c.before args0 about1) = true := by decide +kernel
set_option maxRecDepth 65536 in
theorem w_t3 : (((words1.drop 24).drop 24).take 24).all (fun c => isCode c || c.before args0 about1) = true := by decide +kernel
set_option maxRecDepth 65536 in
theorem w_t4 : ((((words1.drop 24).drop 24).drop 24).take 24).all (fun c => isCode c || c.before args0 about1) = true := by decide +kernel
set_option maxRecDepth 65536 in
theorem w_t5 : ((((words1.drop 24).drop 24).drop 24).drop 24).all (fun c => isCode c || c.before args0 about1) = true := by decide +kernel
theorem w_tables : (allAtoms (Jvm.Cond.code x code maxLocals ret :: tables_1)).before args0 about1 = true := by
  rw [allAtoms_all]
  show words1.all (fun c => c.before args0 about1) = true
  refine all_split ?_ w_codes
  rw [← List.take_append_drop 24 words1, List.all_append, w_t1, ← List.take_append_drop 24 (words1.drop 24), List.all_append, w_t2, ← List.take_append_drop 24 ((words1.drop 24).drop 24), List.all_append, w_t3, ← List.take_append_drop 24 (((words1.drop 24).drop 24).drop 24), List.all_append, w_t4, w_t5]
  rfl
set_option maxRecDepth 65536 in
theorem w_rest : rest_1_c.before args0 about1 = true := by decide +kernel
set_option maxRecDepth 65536 in
theorem w_case : (Jvm.Cond.and given_1 narrow_1).before args0 about1 = true := by decide +kernel
theorem w_applies : (headSpec (Jvm.Cond.code x code maxLocals ret :: tables_1) room_1).applies x e0.platform about1 = true :=
  (Spec.applies_iff w_frames).mpr ⟨w_running, w_runnable, w_alone, w_named, w_hears, w_ripe, w_room, w_tables⟩
theorem atStart : AtStart classFile x code maxLocals ret World_1 tables_1 room_1 Calls_1 rest_1 Pre_1 launch0 p0 e0 about1 theMethod args0 below0 :=
  ⟨lists_1, trivial, launch0.admits_env _ _ _, launch0.least_env, fairChoices_fair.cas, fairChoices_fair.clock, w_frames, w_args, w_heap, w_applies, trivial, w_rest, w_case⟩
end start1
theorem witness_1 : WitnessClaimed_1 := ⟨start1.p0, start1.e0, start1.about1, start1.theMethod, start1.args0, start1.below0, start1.atStart⟩
end Jvm.Pilot.@@N@@
