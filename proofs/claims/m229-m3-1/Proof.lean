import JvmDerived
import JvmDerived.Pilot.@@N@@Statement
import JvmDerived.Pilot.@@N@@Code
set_option linter.unusedVariables false
set_option linter.unusedSimpArgs false
namespace Jvm.Pilot.@@N@@
open Jvm Jvm.ClassFile Sem Op Lib Jvm.Free Jvm.Stand Jvm.LawKit Jvm.RoadKit Bundle Jvm.Pilot.@@N@@.Jvm.D
/-! OWN KIT: a walk in continuation form. Go F U: from U the run comes to an end of which F holds. -/
namespace W
def Go (p : Program) (e : Env) (below : List Frame) (F : Outcome → State → Prop) (U : State) : Prop :=
  ∃ s₂ o, Steps p.tables e below U s₂ ∧ s₂.status = .running ∧ Ended s₂ below o ∧ F o s₂
def Cx (p : Program) (s : State) (m : MethodId) (meth : Method) (c : Code) (Z : State) (bytes : ByteArray) (maxL : Nat) (own mname : String) (ret : Option FieldType) : Prop :=
  p.tables.exec = Jvm.exec ∧ Z.Warmed39 s.vm ∧ c.code = bytes ∧ c.maxLocals = maxL ∧ s.vm.findClass own = some m.cls ∧ meth.name = mname ∧ meth.sig.returnType = ret ∧ meth.locks = false
def Post (s : State) (Q : Option Value → Heap → List Loc → Prop) (k n : Nat) (o : Outcome) (U' : State) : Prop := ∃ v L, o = .returned v ∧ Q v U'.heap L ∧ FrameEnd s o U' L k n
theorem of {p : Program} {e : Env} {below : List Frame} {F : Outcome → State → Prop} {U U' : State} (h : ∀ t, Steps p.tables e below U' t → Steps p.tables e below U t) (k : Go p e below F U') : Go p e below F U := by
  obtain ⟨s₂, o, h1, h2⟩ := k
  exact ⟨s₂, o, h _ h1, h2⟩
theorem tr {p : Program} {e : Env} {below : List Frame} {F : Outcome → State → Prop} {U U' : State} (h : Steps p.tables e below U U') (k : Go p e below F U') : Go p e below F U := of (fun _ q => h.trans q) k
def fillL : List Value → List Slot
  | [] => []
  | v :: t => if v.category = 2 then .val v :: .second :: fillL t else .val v :: fillL t
theorem fill_eq : ∀ (l : List Value) (acc : Array Slot), l.foldl (fun acc v => if v.category = 2 then (acc.push (.val v)).push .second else acc.push (.val v)) acc = acc ++ (fillL l).toArray
  | [], acc => by simp [fillL]
  | v :: t, acc => by
    rw [List.foldl_cons, fill_eq t, fillL]
    split <;> (apply Array.toList_inj.mp; simp)
theorem entry_of {m : MethodId} {as : List Value} {maxL : Nat} {Ls : List Slot} (h : Ls = fillL as ++ List.replicate (maxL - (fillL as).length) .unset) : entryFrame m as.toArray maxL = mkF m 0 Ls.toArray [] := by
  subst h
  simp only [entryFrame, mkF, argsToLocals]
  congr 1
  rw [List.foldl_toArray, fill_eq]
  simp
def cT : ClassFile.Cond → Int32 → Int32 → Prop
  | .eq, x, y => x = y
  | .ne, x, y => x ≠ y
  | .lt, x, y => x.toInt < y.toInt
  | .ge, x, y => y.toInt ≤ x.toInt
  | .gt, x, y => y.toInt < x.toInt
  | .le, x, y => x.toInt ≤ y.toInt
def cF : ClassFile.Cond → Int32 → Int32 → Prop
  | .eq, x, y => x ≠ y
  | .ne, x, y => x = y
  | .lt, x, y => y.toInt ≤ x.toInt
  | .ge, x, y => x.toInt < y.toInt
  | .gt, x, y => x.toInt ≤ y.toInt
  | .le, x, y => y.toInt < x.toInt
instance (cd : ClassFile.Cond) (x y : Int32) : Decidable (cT cd x y) := by cases cd <;> (simp only [cT]; infer_instance)
instance (cd : ClassFile.Cond) (x y : Int32) : Decidable (cF cd x y) := by cases cd <;> (simp only [cF]; infer_instance)
theorem holdsT {cd : ClassFile.Cond} {x y : Int32} (h : cT cd x y) : if_icmp.holds cd x y = true := by
  cases cd <;> simp only [cT] at h <;> simp [if_icmp.holds, h, Int32.lt_iff_toInt_lt, Int32.le_iff_toInt_le]
theorem holdsF {cd : ClassFile.Cond} {x y : Int32} (h : cF cd x y) : if_icmp.holds cd x y = false := by
  cases cd <;> simp only [cF] at h <;> simp [if_icmp.holds, h, Int32.lt_iff_toInt_lt, Int32.le_iff_toInt_le]
theorem cTF (cd : ClassFile.Cond) (x y : Int32) : cT cd x y ∨ cF cd x y := by
  cases cd <;> simp only [cT, cF] <;> first | omega | exact Decidable.em _ | exact (Decidable.em _).symm
theorem ww {a0 : Array Value} {Z : State} (hw : ∀ d ∈ tables_1, d.before a0 Z = true) (i : Nat) {d : Jvm.Cond} (h : tables_1[i]? = some d) : d.before a0 Z = true := hw _ (List.mem_of_getElem? h)
theorem small {P : Int32 → Prop} (K : Nat) (hK : ∀ i : Fin (K + 1), P (Int32.ofInt (i.1 : Int))) (k : Int32) (h1 : 0 ≤ k.toInt) (h2 : k.toInt ≤ K) : P k := by
  have e : Int32.ofInt ((k.toInt.toNat : Nat) : Int) = k := by rw [Int.toNat_of_nonneg h1]; exact Int32.ofInt_toInt k
  have := hK ⟨k.toInt.toNat, by omega⟩
  rw [e] at this; exact this
theorem eqR {args : Array Value} {s : State} {a b : Term} {idx : List Nat} {y : Addr} (hb : b.eval args s none idx s = some (.ref y)) (h : (Jvm.Cond.eq a b).value args s none s idx = some true) : a.eval args s none idx s = some (.ref y) := by
  cases ha : a.eval args s none idx s with
  | none => simp [Cond.value, ha] at h
  | some x =>
    have hx : x.isRef = true := by cases x <;> simp [Cond.value, ha, hb, Value.isRef] at h ⊢
    have q := gotT (eq_R ha hb hx rfl) h
    rw [q]
theorem elemAt {args : Array Value} {s : State} {t a : Term} {x : Addr} {j : Int32} {v : Value} {cl : Cell} {ty : FieldType} (A : Arr s s.heap x cl ty) (ht : t.eval args s none [] s = some (.ref x)) (hj : a.eval args s none [] s = some (.int j)) (h : (Term.elem t a).eval args s none [] s = some v) : cl.slots[j.toNatClampNeg]? = some v := (elem_in h ht hj A.1).2
theorem lenAt {args : Array Value} {s : State} {t : Term} {x : Addr} {z : Int32} {cl : Cell} {ty : FieldType} (A : Arr s s.heap x cl ty) (ht : t.eval args s none [] s = some (.ref x)) (h : (Jvm.Cond.eq (.length t) (.int z)).value args s none s [] = some true) : cl.slots.size < 2 ^ 31 ∧ cl.slots.size.toInt32 = z := by
  have h6 := eqv_i (Term.int_eval z) h
  have ha := A.fin (Vm.Alike.refl _)
  have sz : cl.slots.size < 2 ^ 31 := by
    refine Decidable.byContradiction fun q => ?_
    simp [Term.eval, ht, ha, q] at h6
  refine ⟨sz, ?_⟩
  rw [len_f ht ha sz] at h6
  exact Value.int.inj (Option.some.inj h6)
theorem arvOf {s : State} {a : Addr} {cl : Cell} {ty : FieldType} {z : Int32} {d : Value} (hf : Fit s) (A : Arr s s.heap a cl ty) (q : cl.slots.size < 2 ^ 31) (e : cl.slots.size.toInt32 = z) (hz : ¬ z < 0) : Arv s s.heap a cl.cls ty z cl.slots.toList d := by
  have S : cl.slots.size = z.toNatClampNeg := by rw [← e]; simp only [Int32.toNatClampNeg, len_toInt q]; rfl
  have H : Has cl cl.slots.toList d := fun k hk => by simp [List.getD, hk]
  refine ⟨cl, A, rfl, S, hz, H, fun j hj => ?_⟩
  have e1 : (Nat.toInt32 j).toNatClampNeg = j := by simp only [Int32.toNatClampNeg, len_toInt (Nat.lt_trans hj q)]; rfl
  exact elem_fits (j := Nat.toInt32 j) hf A (idx_in hj q) (by rw [e1]; exact H j hj)
theorem catRef {v : Value} (h : v.isRef = true) : v.category = 1 := by
  rcases ref_cases h with rfl | ⟨a, rfl⟩ <;> rfl
theorem narRef {t : FieldType} {v : Value} (h : v.isRef = true) : narrow t v = v := by
  rcases ref_cases h with rfl | ⟨a, rfl⟩ <;> cases t <;> rfl
theorem fitsRef {t : FieldType} {v : Value} (h : v.isRef = true) (ht : t.isReference = true) : fits t v = true := by
  rcases ref_cases h with rfl | ⟨a, rfl⟩ <;> cases t <;> first | rfl | cases ht
theorem narZ {x : Int32} (h : x = 0 ∨ x = 1) : narrow .boolean (.int x) = .int x := by rcases h with rfl | rfl <;> rfl
theorem fitZ {x : Int32} (h : x = 0 ∨ x = 1) : fits .boolean (.int x) = true := by rcases h with rfl | rfl <;> rfl
theorem fieldInt {args : Array Value} {s : State} {t : Term} {Cn n d : String} {k : Int32} {a : Addr} (ht : t.eval args s none [] s = some (.ref a)) (h : (Jvm.Cond.eq (.field t Cn n d) (.int k)).value args s none s [] = some true) : Fld s s.heap a Cn n d (.int k) := by
  exact Fld.start ((fld_at ht).symm.trans (eqv_i (Term.int_eval k) h))
section
variable {p : Program} {l : Launch} {e : Env} {R : Room} {s : State} {m : MethodId} {args : Array Value} {below : List Frame} {meth : Method} {c : Code} {T : State} {locs : List Loc} {cells slots : Nat} {Z : State} {a0 : Array Value} {h h0 : Heap} {F : Outcome → State → Prop} {bytes : ByteArray} {maxL : Nat} {own mname : String} {ret : Option FieldType} {pc q : Nat} {Ls L' : Array Slot} {S rest : List Value}
theorem bodyOf {y : MethodName} {ws : List Jvm.Cond} {rm : Room} {as : Array Value} {Q : Option Value → Heap → List Loc → Prop} (hp : plainFor y = true) (hef : ∀ m, entryFrame m as maxL = mkF m 0 Ls [])
    (body : ∀ p e s m below meth c s₁, Cx p s m meth c Z bytes maxL y.cls y.name ret → Stand p l e rm s m as below meth c s₁ [] 0 0 → s₁.heap = h0 → Go p e below (Post s Q rm.cells rm.slots) (s₁.setTop (mkF m 0 Ls []))) :
    MetFree l y (head1 (Jvm.Cond.code y bytes maxL ret :: ws) rm) (fun a U => a = as ∧ Z.Warmed39 U.vm ∧ U.heap = h0) (fun _ _ _ _ _ => True) (fun _ U o U' => ∃ v L, o = .returned v ∧ Q v U'.heap L ∧ FrameEnd U o U' L rm.cells rm.slots) := by
  refine MetFree.of_bodySF hp hisR ?_
  intro p e s m args below meth c s₁ Bd hml0 hP hK
  obtain ⟨rfl, hZ, hh⟩ := hP
  obtain ⟨s₂, o, h1, h2⟩ := body p e s m below meth c s₁ ⟨Bd.exec, hZ, Bd.bytes, hml0, findClass_of_methodNamed Bd.named, (name_of_methodNamed Bd.named Bd.method).1, Bd.returns, Bd.notSynchronized⟩ (Stand.of_body Bd) (by rw [← hh, Bd.state]; rfl)
  exact ⟨s₂, o, castTop (hef m) h1, h2⟩
/-! returns -/
theorem retN (X : Stand p l e R s m args below meth c T locs cells slots) {t : FieldType} (C : Cx p s m meth c Z bytes maxL own mname (some t)) (ht : t = .boolean ∨ t = .byte ∨ t = .char ∨ t = .short) (eT : T.heap = h) {z z' : Int32} (hd : decode bytes pc = .ok (.ireturn, 1)) (hz : narrow t (.int z) = .int z') {k n : Nat} (hk : cells ≤ k) (hn : slots ≤ n) {Q : Option Value → Heap → List Loc → Prop} (hQ : Q (some (.int z')) h locs) :
    Go p e below (Post s Q k n) (T.setTop (mkF m pc Ls (.int z :: rest))) := by
  obtain ⟨hx, hZ, hby, hml, hown, hnm, hret, hlk⟩ := C
  obtain ⟨fs, hr, hrun, hended, hW, hsame⟩ := X.leave (v := some (.int z')) (fun h => by rw [hret] at h; cases h)
  refine ⟨_, _, ?_, hrun, hended, _, _, rfl, ?_, ⟨_, rfl⟩, hW, hsame.mono hk hn⟩
  · have hm' : T.vm.method? m = some meth := X.method'
    have hd' := hb hby hd
    rcases ht with rfl | rfl | rfl | rfl
    all_goals
      show Steps p.tables e below (T.setTop { method := m, pc := pc, locals := Ls, stack := _ :: rest, locked := none }) _
      jvm_step X.here [X.here.top, hx, hd', hm', hret, hz]
      first | (intro acts; rw [hr _ acts rfl rfl rfl]) | rw [hr _ _ rfl rfl rfl]
      exact Steps.refl _
  · show Q _ T.heap _
    rw [eT]; exact hQ
theorem retI (X : Stand p l e R s m args below meth c T locs cells slots) (C : Cx p s m meth c Z bytes maxL own mname (some .int)) (eT : T.heap = h) {z : Int32} (hd : decode bytes pc = .ok (.ireturn, 1)) {k n : Nat} (hk : cells ≤ k) (hn : slots ≤ n) {Q : Option Value → Heap → List Loc → Prop} (hQ : Q (some (.int z)) h locs) :
    Go p e below (Post s Q k n) (T.setTop (mkF m pc Ls (.int z :: rest))) := by
  obtain ⟨hx, hZ, hby, hml, hown, hnm, hret, hlk⟩ := C
  obtain ⟨fs, hr, hrun, hended, hW, hsame⟩ := X.leave (v := some (.int z)) (fun h => by rw [hret] at h; cases h)
  refine ⟨_, _, ?_, hrun, hended, _, _, rfl, ?_, ⟨_, rfl⟩, hW, hsame.mono hk hn⟩
  · have hm' : T.vm.method? m = some meth := X.method'
    have hd' := hb hby hd
    have hn : narrow .int (.int z) = .int z := rfl
    show Steps p.tables e below (T.setTop { method := m, pc := pc, locals := Ls, stack := _ :: rest, locked := none }) _
    jvm_step X.here [X.here.top, hx, hd', hm', hret, hn]
    first | (intro acts; rw [hr _ acts rfl rfl rfl]) | rw [hr _ _ rfl rfl rfl]
    exact Steps.refl _
  · show Q _ T.heap _
    rw [eT]; exact hQ
theorem retJ (X : Stand p l e R s m args below meth c T locs cells slots) (C : Cx p s m meth c Z bytes maxL own mname (some .long)) (eT : T.heap = h) {z : Int64} (hd : decode bytes pc = .ok (.lreturn, 1)) {k n : Nat} (hk : cells ≤ k) (hn : slots ≤ n) {Q : Option Value → Heap → List Loc → Prop} (hQ : Q (some (.long z)) h locs) :
    Go p e below (Post s Q k n) (T.setTop (mkF m pc Ls (.long z :: rest))) := by
  obtain ⟨hx, hZ, hby, hml, hown, hnm, hret, hlk⟩ := C
  obtain ⟨fs, hr, hrun, hended, hW, hsame⟩ := X.leave (v := some (.long z)) (fun h => by rw [hret] at h; cases h)
  refine ⟨_, _, ?_, hrun, hended, _, _, rfl, ?_, ⟨_, rfl⟩, hW, hsame.mono hk hn⟩
  · have hm' : T.vm.method? m = some meth := X.method'
    have hd' := hb hby hd
    show Steps p.tables e below (T.setTop { method := m, pc := pc, locals := Ls, stack := _ :: rest, locked := none }) _
    jvm_step X.here [X.here.top, hx, hd', hm', hret, narrow]
    first | (intro acts; rw [hr _ acts rfl rfl rfl]) | rw [hr _ _ rfl rfl rfl]
    exact Steps.refl _
  · show Q _ T.heap _
    rw [eT]; exact hQ
theorem retA (X : Stand p l e R s m args below meth c T locs cells slots) {t : FieldType} (C : Cx p s m meth c Z bytes maxL own mname (some t)) (ht : t.isReference = true) (eT : T.heap = h) {z : Value} (hz : z.isRef = true) (hd : decode bytes pc = .ok (.areturn, 1)) {k n : Nat} (hk : cells ≤ k) (hn : slots ≤ n) {Q : Option Value → Heap → List Loc → Prop} (hQ : Q (some z) h locs) :
    Go p e below (Post s Q k n) (T.setTop (mkF m pc Ls (z :: rest))) := by
  obtain ⟨hx, hZ, hby, hml, hown, hnm, hret, hlk⟩ := C
  obtain ⟨fs, hr, hrun, hended, hW, hsame⟩ := X.leave (v := some z) (fun h => by rw [hret] at h; cases h)
  refine ⟨_, _, ?_, hrun, hended, _, _, rfl, ?_, ⟨_, rfl⟩, hW, hsame.mono hk hn⟩
  · have hm' : T.vm.method? m = some meth := X.method'
    have hd' := hb hby hd
    show Steps p.tables e below (T.setTop { method := m, pc := pc, locals := Ls, stack := _ :: rest, locked := none }) _
    jvm_step X.here [X.here.top, hx, hd', hm', hret, hz, ht]
    first | (intro acts; rw [hr _ acts rfl rfl rfl]) | rw [hr _ _ rfl rfl rfl]
    exact Steps.refl _
  · show Q _ T.heap _
    rw [eT]; exact hQ
theorem retV (X : Stand p l e R s m args below meth c T locs cells slots) (C : Cx p s m meth c Z bytes maxL own mname none) (eT : T.heap = h) (hd : decode bytes pc = .ok (.return_, 1)) {k n : Nat} (hk : cells ≤ k) (hn : slots ≤ n) {Q : Option Value → Heap → List Loc → Prop} (hQ : Q none h locs) :
    Go p e below (Post s Q k n) (T.setTop (mkF m pc Ls [])) := by
  obtain ⟨hx, hZ, hby, hml, hown, hnm, hret, hlk⟩ := C
  obtain ⟨fs, hr, hrun, hended, hW, hsame⟩ := X.leave (v := none) (fun _ => rfl)
  refine ⟨_, _, X.returnOut hx hret (hb hby hd) hr, hrun, hended, _, _, rfl, ?_, ⟨_, rfl⟩, hW, hsame.mono hk hn⟩
  show Q _ T.heap _
  rw [eT]; exact hQ
/-! plain steps -/
theorem iload (X : Stand p l e R s m args below meth c T locs cells slots) (C : Cx p s m meth c Z bytes maxL own mname ret) {k : Nat} {v : Int32} (hd : decode bytes pc = .ok (.iload k, 2)) (hl : Ls[k]? = some (.val (.int v))) (hq : pc + 2 = q) (K : Go p e below F (T.setTop (mkF m q Ls (.int v :: S)))) : Go p e below F (T.setTop (mkF m pc Ls S)) := by
  subst hq; exact of (fun t k => XS.iload X.here C.1 rfl (hb C.2.2.1 hd) hl k) K
theorem iloadN (X : Stand p l e R s m args below meth c T locs cells slots) (C : Cx p s m meth c Z bytes maxL own mname ret) {k : Fin 4} {v : Int32} (hd : decode bytes pc = .ok (.iload_n k, 1)) (hl : Ls[k.val]? = some (.val (.int v))) (hq : pc + 1 = q) (K : Go p e below F (T.setTop (mkF m q Ls (.int v :: S)))) : Go p e below F (T.setTop (mkF m pc Ls S)) := by
  subst hq; exact of (fun t k => XS.iloadN X.here C.1 rfl (hb C.2.2.1 hd) hl k) K
theorem lload (X : Stand p l e R s m args below meth c T locs cells slots) (C : Cx p s m meth c Z bytes maxL own mname ret) {k : Nat} {v : Int64} (hd : decode bytes pc = .ok (.lload k, 2)) (hl : Ls[k]? = some (.val (.long v))) (hq : pc + 2 = q) (K : Go p e below F (T.setTop (mkF m q Ls (.long v :: S)))) : Go p e below F (T.setTop (mkF m pc Ls S)) := by
  subst hq; exact of (fun t k => XS.lload X.here C.1 rfl (hb C.2.2.1 hd) hl k) K
theorem lloadN (X : Stand p l e R s m args below meth c T locs cells slots) (C : Cx p s m meth c Z bytes maxL own mname ret) {k : Fin 4} {v : Int64} (hd : decode bytes pc = .ok (.lload_n k, 1)) (hl : Ls[k.val]? = some (.val (.long v))) (hq : pc + 1 = q) (K : Go p e below F (T.setTop (mkF m q Ls (.long v :: S)))) : Go p e below F (T.setTop (mkF m pc Ls S)) := by
  subst hq; exact of (fun t k => XS.lloadN X.here C.1 rfl (hb C.2.2.1 hd) hl k) K
theorem aload (X : Stand p l e R s m args below meth c T locs cells slots) (C : Cx p s m meth c Z bytes maxL own mname ret) {k : Nat} {v : Value} (hd : decode bytes pc = .ok (.aload k, 2)) (hl : Ls[k]? = some (.val v)) (hv : v.isRef = true) (hq : pc + 2 = q) (K : Go p e below F (T.setTop (mkF m q Ls (v :: S)))) : Go p e below F (T.setTop (mkF m pc Ls S)) := by
  subst hq; exact of (fun t k => XS.aload X.here C.1 rfl (hb C.2.2.1 hd) hl hv k) K
theorem aloadN (X : Stand p l e R s m args below meth c T locs cells slots) (C : Cx p s m meth c Z bytes maxL own mname ret) {k : Fin 4} {v : Value} (hd : decode bytes pc = .ok (.aload_n k, 1)) (hl : Ls[k.val]? = some (.val v)) (hv : v.isRef = true) (hq : pc + 1 = q) (K : Go p e below F (T.setTop (mkF m q Ls (v :: S)))) : Go p e below F (T.setTop (mkF m pc Ls S)) := by
  subst hq; exact of (fun t k => XS.aloadN X.here C.1 rfl (hb C.2.2.1 hd) hl hv k) K
theorem istore (X : Stand p l e R s m args below meth c T locs cells slots) (C : Cx p s m meth c Z bytes maxL own mname ret) {k : Nat} {v : Int32} (hd : decode bytes pc = .ok (.istore k, 2)) (hl : storeLocals Ls k (.int v) = some L') (hq : pc + 2 = q) (K : Go p e below F (T.setTop (mkF m q L' S))) : Go p e below F (T.setTop (mkF m pc Ls (.int v :: S))) := by
  subst hq; exact of (fun t k => XS.istore X.here C.1 rfl (hb C.2.2.1 hd) rfl hl k) K
theorem istoreN (X : Stand p l e R s m args below meth c T locs cells slots) (C : Cx p s m meth c Z bytes maxL own mname ret) {k : Fin 4} {v : Int32} (hd : decode bytes pc = .ok (.istore_n k, 1)) (hl : storeLocals Ls k.val (.int v) = some L') (hq : pc + 1 = q) (K : Go p e below F (T.setTop (mkF m q L' S))) : Go p e below F (T.setTop (mkF m pc Ls (.int v :: S))) := by
  subst hq; exact of (fun t k => XS.istoreN X.here C.1 rfl (hb C.2.2.1 hd) rfl hl k) K
theorem lstore (X : Stand p l e R s m args below meth c T locs cells slots) (C : Cx p s m meth c Z bytes maxL own mname ret) {k : Nat} {v : Int64} (hd : decode bytes pc = .ok (.lstore k, 2)) (hl : storeLocals Ls k (.long v) = some L') (hq : pc + 2 = q) (K : Go p e below F (T.setTop (mkF m q L' S))) : Go p e below F (T.setTop (mkF m pc Ls (.long v :: S))) := by
  subst hq; exact of (fun t k => XS.lstore X.here C.1 rfl (hb C.2.2.1 hd) rfl hl k) K
theorem lstoreN (X : Stand p l e R s m args below meth c T locs cells slots) (C : Cx p s m meth c Z bytes maxL own mname ret) {k : Fin 4} {v : Int64} (hd : decode bytes pc = .ok (.lstore_n k, 1)) (hl : storeLocals Ls k.val (.long v) = some L') (hq : pc + 1 = q) (K : Go p e below F (T.setTop (mkF m q L' S))) : Go p e below F (T.setTop (mkF m pc Ls (.long v :: S))) := by
  subst hq; exact of (fun t k => XS.lstoreN X.here C.1 rfl (hb C.2.2.1 hd) rfl hl k) K
theorem astore (X : Stand p l e R s m args below meth c T locs cells slots) (C : Cx p s m meth c Z bytes maxL own mname ret) {k : Nat} {v : Value} (hd : decode bytes pc = .ok (.astore k, 2)) (hv : v.isRef = true) (hl : storeLocals Ls k v = some L') (hq : pc + 2 = q) (K : Go p e below F (T.setTop (mkF m q L' S))) : Go p e below F (T.setTop (mkF m pc Ls (v :: S))) := by
  subst hq; exact of (fun t k => XS.astore X.here C.1 rfl (hb C.2.2.1 hd) rfl hv hl k) K
theorem astoreN (X : Stand p l e R s m args below meth c T locs cells slots) (C : Cx p s m meth c Z bytes maxL own mname ret) {k : Fin 4} {v : Value} (hd : decode bytes pc = .ok (.astore_n k, 1)) (hv : v.isRef = true) (hl : storeLocals Ls k.val v = some L') (hq : pc + 1 = q) (K : Go p e below F (T.setTop (mkF m q L' S))) : Go p e below F (T.setTop (mkF m pc Ls (v :: S))) := by
  subst hq; exact of (fun t k => XS.astoreN X.here C.1 rfl (hb C.2.2.1 hd) rfl hv hl k) K
theorem iinc (X : Stand p l e R s m args below meth c T locs cells slots) (C : Cx p s m meth c Z bytes maxL own mname ret) {k : Nat} {i : Int} {x y : Int32} (hd : decode bytes pc = .ok (.iinc k i, 3)) (hl : Ls[k]? = some (.val (.int x))) (hy : x + Int32.ofInt i = y) (hl' : storeLocals Ls k (.int y) = some L') (hq : pc + 3 = q) (K : Go p e below F (T.setTop (mkF m q L' S))) : Go p e below F (T.setTop (mkF m pc Ls S)) := by
  subst hq hy; exact of (fun t k => XS.iinc X.here C.1 rfl (hb C.2.2.1 hd) hl hl' k) K
theorem iconst (X : Stand p l e R s m args below meth c T locs cells slots) (C : Cx p s m meth c Z bytes maxL own mname ret) {i : Int} {v : Int32} (hd : decode bytes pc = .ok (.iconst i, 1)) (hi : Int32.ofInt i = v) (hq : pc + 1 = q) (K : Go p e below F (T.setTop (mkF m q Ls (.int v :: S)))) : Go p e below F (T.setTop (mkF m pc Ls S)) := by
  subst hq hi; exact of (fun t k => XS.iconst X.here C.1 rfl (hb C.2.2.1 hd) k) K
theorem bipush (X : Stand p l e R s m args below meth c T locs cells slots) (C : Cx p s m meth c Z bytes maxL own mname ret) {i : Int} {v : Int32} (hd : decode bytes pc = .ok (.bipush i, 2)) (hi : (Int8.ofInt i).toInt32 = v) (hq : pc + 2 = q) (K : Go p e below F (T.setTop (mkF m q Ls (.int v :: S)))) : Go p e below F (T.setTop (mkF m pc Ls S)) := by
  subst hq hi; exact of (fun t k => XS.bipush X.here C.1 rfl (hb C.2.2.1 hd) k) K
theorem sipush (X : Stand p l e R s m args below meth c T locs cells slots) (C : Cx p s m meth c Z bytes maxL own mname ret) {i : Int} {v : Int32} (hd : decode bytes pc = .ok (.sipush i, 3)) (hi : (Int16.ofInt i).toInt32 = v) (hq : pc + 3 = q) (K : Go p e below F (T.setTop (mkF m q Ls (.int v :: S)))) : Go p e below F (T.setTop (mkF m pc Ls S)) := by
  subst hq hi; exact of (fun t k => XS.sipush X.here C.1 rfl (hb C.2.2.1 hd) k) K
theorem lconst0 (X : Stand p l e R s m args below meth c T locs cells slots) (C : Cx p s m meth c Z bytes maxL own mname ret) (hd : decode bytes pc = .ok (.lconst 0, 1)) (hq : pc + 1 = q) (K : Go p e below F (T.setTop (mkF m q Ls (.long 0 :: S)))) : Go p e below F (T.setTop (mkF m pc Ls S)) := by
  subst hq; exact of (fun t k => XS.lconst X.here C.1 rfl (hb C.2.2.1 hd) k) K
theorem lconst1 (X : Stand p l e R s m args below meth c T locs cells slots) (C : Cx p s m meth c Z bytes maxL own mname ret) (hd : decode bytes pc = .ok (.lconst 1, 1)) (hq : pc + 1 = q) (K : Go p e below F (T.setTop (mkF m q Ls (.long 1 :: S)))) : Go p e below F (T.setTop (mkF m pc Ls S)) := by
  subst hq; exact of (fun t k => XS.lconst X.here C.1 rfl (hb C.2.2.1 hd) k) K
theorem ldcI (X : Stand p l e R s m args below meth c T locs cells slots) (C : Cx p s m meth c Z bytes maxL own mname ret) {i : Nat} {v : Int32} (w : (Jvm.Cond.constant own i v).before a0 Z = true) (hd : decode bytes pc = .ok (.ldc i, 2)) (hq : pc + 2 = q) (K : Go p e below F (T.setTop (mkF m q Ls (.int v :: S)))) : Go p e below F (T.setTop (mkF m pc Ls S)) := by
  subst hq; exact of (X.ldcInt C.1 C.2.2.2.2.1 (mvT C.2.1 w) (g := mkF m pc Ls S) rfl (hb C.2.2.1 hd)) K
theorem ldcL (X : Stand p l e R s m args below meth c T locs cells slots) (C : Cx p s m meth c Z bytes maxL own mname ret) {i : Nat} {v : Int64} (w : (Jvm.Cond.constantLong own i v).before a0 Z = true) (hd : decode bytes pc = .ok (.ldc2_w i, 3)) (hq : pc + 3 = q) (K : Go p e below F (T.setTop (mkF m q Ls (.long v :: S)))) : Go p e below F (T.setTop (mkF m pc Ls S)) := by
  subst hq; exact of (X.ldc2Long C.1 C.2.2.2.2.1 (mvT C.2.1 w) (g := mkF m pc Ls S) rfl (hb C.2.2.1 hd)) K
theorem aconst (X : Stand p l e R s m args below meth c T locs cells slots) (C : Cx p s m meth c Z bytes maxL own mname ret) (hd : decode bytes pc = .ok (.aconst_null, 1)) (hq : pc + 1 = q) (K : Go p e below F (T.setTop (mkF m q Ls (.null :: S)))) : Go p e below F (T.setTop (mkF m pc Ls S)) := by
  subst hq; exact of (fun t k => XS.aconstNull X.here C.1 rfl (hb C.2.2.1 hd) k) K
theorem iadd (X : Stand p l e R s m args below meth c T locs cells slots) (C : Cx p s m meth c Z bytes maxL own mname ret) {x : Int32} {y : Int32} (hd : decode bytes pc = .ok (.iadd, 1)) (hq : pc + 1 = q) (K : Go p e below F (T.setTop (mkF m q Ls (.int (x + y) :: S)))) : Go p e below F (T.setTop (mkF m pc Ls (.int y :: .int x :: S))) := by
  subst hq; exact of (fun t k => XS.iadd X.here C.1 rfl (hb C.2.2.1 hd) rfl k) K
theorem ladd (X : Stand p l e R s m args below meth c T locs cells slots) (C : Cx p s m meth c Z bytes maxL own mname ret) {x : Int64} {y : Int64} (hd : decode bytes pc = .ok (.ladd, 1)) (hq : pc + 1 = q) (K : Go p e below F (T.setTop (mkF m q Ls (.long (x + y) :: S)))) : Go p e below F (T.setTop (mkF m pc Ls (.long y :: .long x :: S))) := by
  subst hq; exact of (fun t k => XS.ladd X.here C.1 rfl (hb C.2.2.1 hd) rfl k) K
theorem isub (X : Stand p l e R s m args below meth c T locs cells slots) (C : Cx p s m meth c Z bytes maxL own mname ret) {x : Int32} {y : Int32} (hd : decode bytes pc = .ok (.isub, 1)) (hq : pc + 1 = q) (K : Go p e below F (T.setTop (mkF m q Ls (.int (x - y) :: S)))) : Go p e below F (T.setTop (mkF m pc Ls (.int y :: .int x :: S))) := by
  subst hq; exact of (fun t k => XS.isub X.here C.1 rfl (hb C.2.2.1 hd) rfl k) K
theorem lsub (X : Stand p l e R s m args below meth c T locs cells slots) (C : Cx p s m meth c Z bytes maxL own mname ret) {x : Int64} {y : Int64} (hd : decode bytes pc = .ok (.lsub, 1)) (hq : pc + 1 = q) (K : Go p e below F (T.setTop (mkF m q Ls (.long (x - y) :: S)))) : Go p e below F (T.setTop (mkF m pc Ls (.long y :: .long x :: S))) := by
  subst hq; exact of (fun t k => XS.lsub X.here C.1 rfl (hb C.2.2.1 hd) rfl k) K
theorem imul (X : Stand p l e R s m args below meth c T locs cells slots) (C : Cx p s m meth c Z bytes maxL own mname ret) {x : Int32} {y : Int32} (hd : decode bytes pc = .ok (.imul, 1)) (hq : pc + 1 = q) (K : Go p e below F (T.setTop (mkF m q Ls (.int (x * y) :: S)))) : Go p e below F (T.setTop (mkF m pc Ls (.int y :: .int x :: S))) := by
  subst hq; exact of (fun t k => XS.imul X.here C.1 rfl (hb C.2.2.1 hd) rfl k) K
theorem lmul (X : Stand p l e R s m args below meth c T locs cells slots) (C : Cx p s m meth c Z bytes maxL own mname ret) {x : Int64} {y : Int64} (hd : decode bytes pc = .ok (.lmul, 1)) (hq : pc + 1 = q) (K : Go p e below F (T.setTop (mkF m q Ls (.long (x * y) :: S)))) : Go p e below F (T.setTop (mkF m pc Ls (.long y :: .long x :: S))) := by
  subst hq; exact of (fun t k => XS.lmul X.here C.1 rfl (hb C.2.2.1 hd) rfl k) K
theorem iand (X : Stand p l e R s m args below meth c T locs cells slots) (C : Cx p s m meth c Z bytes maxL own mname ret) {x : Int32} {y : Int32} (hd : decode bytes pc = .ok (.iand, 1)) (hq : pc + 1 = q) (K : Go p e below F (T.setTop (mkF m q Ls (.int (x &&& y) :: S)))) : Go p e below F (T.setTop (mkF m pc Ls (.int y :: .int x :: S))) := by
  subst hq; exact of (fun t k => XS.iand X.here C.1 rfl (hb C.2.2.1 hd) rfl k) K
theorem land (X : Stand p l e R s m args below meth c T locs cells slots) (C : Cx p s m meth c Z bytes maxL own mname ret) {x : Int64} {y : Int64} (hd : decode bytes pc = .ok (.land, 1)) (hq : pc + 1 = q) (K : Go p e below F (T.setTop (mkF m q Ls (.long (x &&& y) :: S)))) : Go p e below F (T.setTop (mkF m pc Ls (.long y :: .long x :: S))) := by
  subst hq; exact of (fun t k => XS.land X.here C.1 rfl (hb C.2.2.1 hd) rfl k) K
theorem ior (X : Stand p l e R s m args below meth c T locs cells slots) (C : Cx p s m meth c Z bytes maxL own mname ret) {x : Int32} {y : Int32} (hd : decode bytes pc = .ok (.ior, 1)) (hq : pc + 1 = q) (K : Go p e below F (T.setTop (mkF m q Ls (.int (x ||| y) :: S)))) : Go p e below F (T.setTop (mkF m pc Ls (.int y :: .int x :: S))) := by
  subst hq; exact of (fun t k => XS.ior X.here C.1 rfl (hb C.2.2.1 hd) rfl k) K
theorem lor (X : Stand p l e R s m args below meth c T locs cells slots) (C : Cx p s m meth c Z bytes maxL own mname ret) {x : Int64} {y : Int64} (hd : decode bytes pc = .ok (.lor, 1)) (hq : pc + 1 = q) (K : Go p e below F (T.setTop (mkF m q Ls (.long (x ||| y) :: S)))) : Go p e below F (T.setTop (mkF m pc Ls (.long y :: .long x :: S))) := by
  subst hq; exact of (fun t k => XS.lor X.here C.1 rfl (hb C.2.2.1 hd) rfl k) K
theorem ixor (X : Stand p l e R s m args below meth c T locs cells slots) (C : Cx p s m meth c Z bytes maxL own mname ret) {x : Int32} {y : Int32} (hd : decode bytes pc = .ok (.ixor, 1)) (hq : pc + 1 = q) (K : Go p e below F (T.setTop (mkF m q Ls (.int (x ^^^ y) :: S)))) : Go p e below F (T.setTop (mkF m pc Ls (.int y :: .int x :: S))) := by
  subst hq; exact of (fun t k => XS.ixor X.here C.1 rfl (hb C.2.2.1 hd) rfl k) K
theorem lxor (X : Stand p l e R s m args below meth c T locs cells slots) (C : Cx p s m meth c Z bytes maxL own mname ret) {x : Int64} {y : Int64} (hd : decode bytes pc = .ok (.lxor, 1)) (hq : pc + 1 = q) (K : Go p e below F (T.setTop (mkF m q Ls (.long (x ^^^ y) :: S)))) : Go p e below F (T.setTop (mkF m pc Ls (.long y :: .long x :: S))) := by
  subst hq; exact of (fun t k => XS.lxor X.here C.1 rfl (hb C.2.2.1 hd) rfl k) K
theorem ishl (X : Stand p l e R s m args below meth c T locs cells slots) (C : Cx p s m meth c Z bytes maxL own mname ret) {x : Int32} {y : Int32} (hd : decode bytes pc = .ok (.ishl, 1)) (hq : pc + 1 = q) (K : Go p e below F (T.setTop (mkF m q Ls (.int (x <<< (y &&& 31)) :: S)))) : Go p e below F (T.setTop (mkF m pc Ls (.int y :: .int x :: S))) := by
  subst hq; exact of (fun t k => XS.ishl X.here C.1 rfl (hb C.2.2.1 hd) rfl k) K
theorem ishr (X : Stand p l e R s m args below meth c T locs cells slots) (C : Cx p s m meth c Z bytes maxL own mname ret) {x : Int32} {y : Int32} (hd : decode bytes pc = .ok (.ishr, 1)) (hq : pc + 1 = q) (K : Go p e below F (T.setTop (mkF m q Ls (.int (x >>> (y &&& 31)) :: S)))) : Go p e below F (T.setTop (mkF m pc Ls (.int y :: .int x :: S))) := by
  subst hq; exact of (fun t k => XS.ishr X.here C.1 rfl (hb C.2.2.1 hd) rfl k) K
theorem iushr (X : Stand p l e R s m args below meth c T locs cells slots) (C : Cx p s m meth c Z bytes maxL own mname ret) {x : Int32} {y : Int32} (hd : decode bytes pc = .ok (.iushr, 1)) (hq : pc + 1 = q) (K : Go p e below F (T.setTop (mkF m q Ls (.int ((x.toUInt32 >>> (y &&& 31).toUInt32).toInt32) :: S)))) : Go p e below F (T.setTop (mkF m pc Ls (.int y :: .int x :: S))) := by
  subst hq; exact of (fun t k => XS.iushr X.here C.1 rfl (hb C.2.2.1 hd) rfl k) K
theorem lshl (X : Stand p l e R s m args below meth c T locs cells slots) (C : Cx p s m meth c Z bytes maxL own mname ret) {x : Int64} {y : Int32} (hd : decode bytes pc = .ok (.lshl, 1)) (hq : pc + 1 = q) (K : Go p e below F (T.setTop (mkF m q Ls (.long (x <<< (y &&& 0x3f).toInt64) :: S)))) : Go p e below F (T.setTop (mkF m pc Ls (.int y :: .long x :: S))) := by
  subst hq; exact of (fun t k => XS.lshl X.here C.1 rfl (hb C.2.2.1 hd) rfl k) K
theorem lshr (X : Stand p l e R s m args below meth c T locs cells slots) (C : Cx p s m meth c Z bytes maxL own mname ret) {x : Int64} {y : Int32} (hd : decode bytes pc = .ok (.lshr, 1)) (hq : pc + 1 = q) (K : Go p e below F (T.setTop (mkF m q Ls (.long (x >>> (y &&& 0x3f).toInt64) :: S)))) : Go p e below F (T.setTop (mkF m pc Ls (.int y :: .long x :: S))) := by
  subst hq; exact of (fun t k => XS.lshr X.here C.1 rfl (hb C.2.2.1 hd) rfl k) K
theorem lushr (X : Stand p l e R s m args below meth c T locs cells slots) (C : Cx p s m meth c Z bytes maxL own mname ret) {x : Int64} {y : Int32} (hd : decode bytes pc = .ok (.lushr, 1)) (hq : pc + 1 = q) (K : Go p e below F (T.setTop (mkF m q Ls (.long ((x.toUInt64 >>> (y &&& 0x3f).toInt64.toUInt64).toInt64) :: S)))) : Go p e below F (T.setTop (mkF m pc Ls (.int y :: .long x :: S))) := by
  subst hq; exact of (fun t k => XS.lushr X.here C.1 rfl (hb C.2.2.1 hd) rfl k) K
theorem ineg (X : Stand p l e R s m args below meth c T locs cells slots) (C : Cx p s m meth c Z bytes maxL own mname ret) {x : Int32} (hd : decode bytes pc = .ok (.ineg, 1)) (hq : pc + 1 = q) (K : Go p e below F (T.setTop (mkF m q Ls (.int (-x) :: S)))) : Go p e below F (T.setTop (mkF m pc Ls (.int x :: S))) := by
  subst hq; exact of (fun t k => XS.ineg X.here C.1 rfl (hb C.2.2.1 hd) rfl k) K
theorem lneg (X : Stand p l e R s m args below meth c T locs cells slots) (C : Cx p s m meth c Z bytes maxL own mname ret) {x : Int64} (hd : decode bytes pc = .ok (.lneg, 1)) (hq : pc + 1 = q) (K : Go p e below F (T.setTop (mkF m q Ls (.long (-x) :: S)))) : Go p e below F (T.setTop (mkF m pc Ls (.long x :: S))) := by
  subst hq; exact of (fun t k => XS.lneg X.here C.1 rfl (hb C.2.2.1 hd) rfl k) K
theorem i2l (X : Stand p l e R s m args below meth c T locs cells slots) (C : Cx p s m meth c Z bytes maxL own mname ret) {x : Int32} (hd : decode bytes pc = .ok (.i2l, 1)) (hq : pc + 1 = q) (K : Go p e below F (T.setTop (mkF m q Ls (.long (x.toInt64) :: S)))) : Go p e below F (T.setTop (mkF m pc Ls (.int x :: S))) := by
  subst hq; exact of (fun t k => XS.i2l X.here C.1 rfl (hb C.2.2.1 hd) rfl k) K
theorem l2i (X : Stand p l e R s m args below meth c T locs cells slots) (C : Cx p s m meth c Z bytes maxL own mname ret) {x : Int64} (hd : decode bytes pc = .ok (.l2i, 1)) (hq : pc + 1 = q) (K : Go p e below F (T.setTop (mkF m q Ls (.int (x.toInt32) :: S)))) : Go p e below F (T.setTop (mkF m pc Ls (.long x :: S))) := by
  subst hq; exact of (fun t k => XS.l2i X.here C.1 rfl (hb C.2.2.1 hd) rfl k) K
theorem i2b (X : Stand p l e R s m args below meth c T locs cells slots) (C : Cx p s m meth c Z bytes maxL own mname ret) {x : Int32} (hd : decode bytes pc = .ok (.i2b, 1)) (hq : pc + 1 = q) (K : Go p e below F (T.setTop (mkF m q Ls (.int (x.toInt8.toInt32) :: S)))) : Go p e below F (T.setTop (mkF m pc Ls (.int x :: S))) := by
  subst hq; exact of (fun t k => XS.i2b X.here C.1 rfl (hb C.2.2.1 hd) rfl k) K
theorem i2s (X : Stand p l e R s m args below meth c T locs cells slots) (C : Cx p s m meth c Z bytes maxL own mname ret) {x : Int32} (hd : decode bytes pc = .ok (.i2s, 1)) (hq : pc + 1 = q) (K : Go p e below F (T.setTop (mkF m q Ls (.int (x.toInt16.toInt32) :: S)))) : Go p e below F (T.setTop (mkF m pc Ls (.int x :: S))) := by
  subst hq; exact of (fun t k => XS.i2s X.here C.1 rfl (hb C.2.2.1 hd) rfl k) K
theorem i2c (X : Stand p l e R s m args below meth c T locs cells slots) (C : Cx p s m meth c Z bytes maxL own mname ret) {x : Int32} (hd : decode bytes pc = .ok (.i2c, 1)) (hq : pc + 1 = q) (K : Go p e below F (T.setTop (mkF m q Ls (.int (x.toUInt32.toUInt16.toUInt32.toInt32) :: S)))) : Go p e below F (T.setTop (mkF m pc Ls (.int x :: S))) := by
  subst hq; exact of (fun t k => XS.i2c X.here C.1 rfl (hb C.2.2.1 hd) rfl k) K
theorem idiv (X : Stand p l e R s m args below meth c T locs cells slots) (C : Cx p s m meth c Z bytes maxL own mname ret) {x y : Int32} (hd : decode bytes pc = .ok (.idiv, 1)) (hy : y ≠ 0) (hq : pc + 1 = q) (K : Go p e below F (T.setTop (mkF m q Ls (.int (x / y) :: S)))) : Go p e below F (T.setTop (mkF m pc Ls (.int y :: .int x :: S))) := by
  subst hq; exact of (fun t k => XS.idiv X.here C.1 rfl (hb C.2.2.1 hd) rfl hy k) K
theorem irem (X : Stand p l e R s m args below meth c T locs cells slots) (C : Cx p s m meth c Z bytes maxL own mname ret) {x y : Int32} (hd : decode bytes pc = .ok (.irem, 1)) (hy : y ≠ 0) (hq : pc + 1 = q) (K : Go p e below F (T.setTop (mkF m q Ls (.int (x % y) :: S)))) : Go p e below F (T.setTop (mkF m pc Ls (.int y :: .int x :: S))) := by
  subst hq; exact of (fun t k => iremM (g := mkF m pc Ls (.int y :: .int x :: S)) X C.1 rfl (hb C.2.2.1 hd) rfl hy k) K
theorem ldiv (X : Stand p l e R s m args below meth c T locs cells slots) (C : Cx p s m meth c Z bytes maxL own mname ret) {x y : Int64} (hd : decode bytes pc = .ok (.ldiv, 1)) (hy : y ≠ 0) (hq : pc + 1 = q) (K : Go p e below F (T.setTop (mkF m q Ls (.long (x / y) :: S)))) : Go p e below F (T.setTop (mkF m pc Ls (.long y :: .long x :: S))) := by
  subst hq; exact of (fun t k => XS.ldiv X.here C.1 rfl (hb C.2.2.1 hd) rfl hy k) K
theorem lcmp (X : Stand p l e R s m args below meth c T locs cells slots) (C : Cx p s m meth c Z bytes maxL own mname ret) {x y : Int64} (hd : decode bytes pc = .ok (.lcmp, 1)) (hq : pc + 1 = q) (K : Go p e below F (T.setTop (mkF m q Ls (.int (lcmpW x y) :: S)))) : Go p e below F (T.setTop (mkF m pc Ls (.long y :: .long x :: S))) := by
  subst hq; exact of (fun t k => XS.lcmp X.here C.1 rfl (hb C.2.2.1 hd) rfl k) K
theorem dup (X : Stand p l e R s m args below meth c T locs cells slots) (C : Cx p s m meth c Z bytes maxL own mname ret) {v : Value} (hd : decode bytes pc = .ok (.dup, 1)) (hv : v.category = 1) (hq : pc + 1 = q) (K : Go p e below F (T.setTop (mkF m q Ls (v :: v :: S)))) : Go p e below F (T.setTop (mkF m pc Ls (v :: S))) := by
  subst hq; exact of (fun t k => XS.dup X.here C.1 rfl (hb C.2.2.1 hd) rfl hv k) K
theorem dupX1 (X : Stand p l e R s m args below meth c T locs cells slots) (C : Cx p s m meth c Z bytes maxL own mname ret) {v w : Value} (hd : decode bytes pc = .ok (.dup_x1, 1)) (hv : v.category = 1) (hw : w.category = 1) (hq : pc + 1 = q) (K : Go p e below F (T.setTop (mkF m q Ls (v :: w :: v :: S)))) : Go p e below F (T.setTop (mkF m pc Ls (v :: w :: S))) := by
  subst hq; exact of (fun t k => XS.dupX1 X.here C.1 rfl (hb C.2.2.1 hd) rfl hv hw k) K
theorem pop (X : Stand p l e R s m args below meth c T locs cells slots) (C : Cx p s m meth c Z bytes maxL own mname ret) {v : Value} (hd : decode bytes pc = .ok (.pop, 1)) (hv : v.category = 1) (hq : pc + 1 = q) (K : Go p e below F (T.setTop (mkF m q Ls S))) : Go p e below F (T.setTop (mkF m pc Ls (v :: S))) := by
  subst hq; exact of (fun t k => XS.pop X.here C.1 rfl (hb C.2.2.1 hd) rfl hv k) K
theorem goto (X : Stand p l e R s m args below meth c T locs cells slots) (C : Cx p s m meth c Z bytes maxL own mname ret) {o : Int} (hd : decode bytes pc = .ok (.goto o, 3)) (ho : 0 ≤ (pc : Int) + o) (hq : ((pc : Int) + o).toNat = q) (K : Go p e below F (T.setTop (mkF m q Ls S))) : Go p e below F (T.setTop (mkF m pc Ls S)) :=
  of (fun t k => XS.goto X.here C.1 rfl rfl (hb C.2.2.1 hd) ho hq k) K
theorem icmpT (X : Stand p l e R s m args below meth c T locs cells slots) (C : Cx p s m meth c Z bytes maxL own mname ret) {cd : ClassFile.Cond} {o : Int} {x y : Int32} (hd : decode bytes pc = .ok (.if_icmp cd o, 3)) (ho : 0 ≤ (pc : Int) + o) (hq : ((pc : Int) + o).toNat = q) (hc : cT cd x y) (K : Go p e below F (T.setTop (mkF m q Ls S))) : Go p e below F (T.setTop (mkF m pc Ls (.int y :: .int x :: S))) :=
  of (fun t k => XS.icmpYes X.here C.1 rfl rfl (hb C.2.2.1 hd) rfl (holdsT hc) ho hq k) K
theorem icmpF (X : Stand p l e R s m args below meth c T locs cells slots) (C : Cx p s m meth c Z bytes maxL own mname ret) {cd : ClassFile.Cond} {o : Int} {x y : Int32} (hd : decode bytes pc = .ok (.if_icmp cd o, 3)) (hq : pc + 3 = q) (hc : cF cd x y) (K : Go p e below F (T.setTop (mkF m q Ls S))) : Go p e below F (T.setTop (mkF m pc Ls (.int y :: .int x :: S))) := by
  subst hq; exact of (fun t k => XS.icmpNo X.here C.1 rfl (hb C.2.2.1 hd) rfl (holdsF hc) k) K
theorem icmp (X : Stand p l e R s m args below meth c T locs cells slots) (C : Cx p s m meth c Z bytes maxL own mname ret) {cd : ClassFile.Cond} {o : Int} {x y : Int32} {q' : Nat} (hd : decode bytes pc = .ok (.if_icmp cd o, 3)) (ho : 0 ≤ (pc : Int) + o) (hq : ((pc : Int) + o).toNat = q) (hq' : pc + 3 = q') (K : cT cd x y → Go p e below F (T.setTop (mkF m q Ls S))) (K' : cF cd x y → Go p e below F (T.setTop (mkF m q' Ls S))) : Go p e below F (T.setTop (mkF m pc Ls (.int y :: .int x :: S))) :=
  (cTF cd x y).elim (fun hc => icmpT X C hd ho hq hc (K hc)) (fun hc => icmpF X C hd hq' hc (K' hc))
theorem ifT (X : Stand p l e R s m args below meth c T locs cells slots) (C : Cx p s m meth c Z bytes maxL own mname ret) {cd : ClassFile.Cond} {o : Int} {x : Int32} (hd : decode bytes pc = .ok (.ifCond cd o, 3)) (ho : 0 ≤ (pc : Int) + o) (hq : ((pc : Int) + o).toNat = q) (hc : cT cd x 0) (K : Go p e below F (T.setTop (mkF m q Ls S))) : Go p e below F (T.setTop (mkF m pc Ls (.int x :: S))) :=
  of (fun t k => XS.ifYes X.here C.1 rfl rfl (hb C.2.2.1 hd) rfl ((if0 _ _).trans (holdsT hc)) ho hq k) K
theorem ifF (X : Stand p l e R s m args below meth c T locs cells slots) (C : Cx p s m meth c Z bytes maxL own mname ret) {cd : ClassFile.Cond} {o : Int} {x : Int32} (hd : decode bytes pc = .ok (.ifCond cd o, 3)) (hq : pc + 3 = q) (hc : cF cd x 0) (K : Go p e below F (T.setTop (mkF m q Ls S))) : Go p e below F (T.setTop (mkF m pc Ls (.int x :: S))) := by
  subst hq; exact of (fun t k => XS.ifNo X.here C.1 rfl (hb C.2.2.1 hd) rfl ((if0 _ _).trans (holdsF hc)) k) K
theorem if_ (X : Stand p l e R s m args below meth c T locs cells slots) (C : Cx p s m meth c Z bytes maxL own mname ret) {cd : ClassFile.Cond} {o : Int} {x : Int32} {q' : Nat} (hd : decode bytes pc = .ok (.ifCond cd o, 3)) (ho : 0 ≤ (pc : Int) + o) (hq : ((pc : Int) + o).toNat = q) (hq' : pc + 3 = q') (K : cT cd x 0 → Go p e below F (T.setTop (mkF m q Ls S))) (K' : cF cd x 0 → Go p e below F (T.setTop (mkF m q' Ls S))) : Go p e below F (T.setTop (mkF m pc Ls (.int x :: S))) :=
  (cTF cd x 0).elim (fun hc => ifT X C hd ho hq hc (K hc)) (fun hc => ifF X C hd hq' hc (K' hc))
theorem ifnullT (X : Stand p l e R s m args below meth c T locs cells slots) (C : Cx p s m meth c Z bytes maxL own mname ret) {o : Int} (hd : decode bytes pc = .ok (.ifnull o, 3)) (ho : 0 ≤ (pc : Int) + o) (hq : ((pc : Int) + o).toNat = q) (K : Go p e below F (T.setTop (mkF m q Ls S))) : Go p e below F (T.setTop (mkF m pc Ls (.null :: S))) :=
  of (fun t k => XS.ifnullYes X.here C.1 rfl rfl (hb C.2.2.1 hd) rfl ho hq k) K
theorem ifnullF (X : Stand p l e R s m args below meth c T locs cells slots) (C : Cx p s m meth c Z bytes maxL own mname ret) {o : Int} {a : Addr} (hd : decode bytes pc = .ok (.ifnull o, 3)) (hq : pc + 3 = q) (K : Go p e below F (T.setTop (mkF m q Ls S))) : Go p e below F (T.setTop (mkF m pc Ls (.ref a :: S))) := by
  subst hq; exact of (fun t k => XS.ifnullNo X.here C.1 rfl (hb C.2.2.1 hd) rfl k) K
theorem ifnonnullT (X : Stand p l e R s m args below meth c T locs cells slots) (C : Cx p s m meth c Z bytes maxL own mname ret) {o : Int} {a : Addr} (hd : decode bytes pc = .ok (.ifnonnull o, 3)) (ho : 0 ≤ (pc : Int) + o) (hq : ((pc : Int) + o).toNat = q) (K : Go p e below F (T.setTop (mkF m q Ls S))) : Go p e below F (T.setTop (mkF m pc Ls (.ref a :: S))) :=
  of (fun t k => XS.ifnonnullYes X.here C.1 rfl rfl (hb C.2.2.1 hd) rfl ho hq k) K
theorem ifnonnullF (X : Stand p l e R s m args below meth c T locs cells slots) (C : Cx p s m meth c Z bytes maxL own mname ret) {o : Int} (hd : decode bytes pc = .ok (.ifnonnull o, 3)) (hq : pc + 3 = q) (K : Go p e below F (T.setTop (mkF m q Ls S))) : Go p e below F (T.setTop (mkF m pc Ls (.null :: S))) := by
  subst hq; exact of (fun t k => XS.ifnonnullNo X.here C.1 rfl (hb C.2.2.1 hd) rfl k) K
/-! calls -/
theorem callS (X : Stand p l e R s m args below meth c T locs cells slots) (C : Cx p s m meth c Z bytes maxL own mname ret) {y : MethodName} {i : Nat} {yb : ByteArray} {ym : Nat} {yr : Option FieldType} (w1 : (Jvm.Cond.methodLink own i y).before a0 Z = true) (w2 : (Jvm.Cond.static y).before a0 Z = true) (w3 : (Jvm.Cond.initialized y.cls).before a0 Z = true) (w4 : (Jvm.Cond.code y yb ym yr).before a0 Z = true) (hy : y.cls ≠ "java/lang/invoke/MethodHandle" ∧ y.cls ≠ "java/lang/invoke/VarHandle")
    {rm : Room} {as' : Array Value} {Q : Option Value → Heap → List Loc → Prop} (hM : MetFree l y (head1 [Jvm.Cond.code y yb ym yr] rm) (fun a U => a = as' ∧ Z.Warmed39 U.vm ∧ U.heap = h) (fun _ _ _ _ _ => True) (fun _ U o U' => ∃ v L, o = .returned v ∧ Q v U'.heap L ∧ FrameEnd U o U' L rm.cells rm.slots))
    (eT : T.heap = h) (hd : decode bytes pc = .ok (.invokestatic i, 3)) (argsL : List Value) (rest : List Value) (hS : S = argsL.reverse ++ rest) (has : as' = argsL.toArray) {ps : List FieldType} {r : Option FieldType} (hpd : parseMethodDescriptor y.desc = some ⟨ps, r⟩) (hlen : argsL.length = ps.length) (hsz : Ls.size = maxL)
    (hf : rm.frames + 1 ≤ R.frames) (hl : (rest.map fun v => v.category).sum + (ym + 11) + rm.locals ≤ R.locals) (hc : cells + rm.cells ≤ R.cells) (hsl : slots + rm.slots ≤ R.slots) (hq : pc + 3 = q)
    (K : ∀ (T' : State) (v : Option Value) (L : List Loc), Stand p l e R s m args below meth c T' (locs ++ L) (cells + rm.cells) (slots + rm.slots) → Q v T'.heap L → Go p e below F (T'.setTop (mkF m q Ls (v.toList ++ rest)))) : Go p e below F (T.setTop (mkF m pc Ls S)) := by
  subst hq hS has
  obtain ⟨hx, hZ, hby, hml, hown, hnm, hret, hlk⟩ := C
  obtain ⟨v, _, ⟨T1, L1, k1, n1⟩, -, X1, ⟨Lc, hQ, l1, y1, z1⟩, st⟩ := Jvm.LawKit.callS X hx hown (mvT hZ w1) (mvT hZ w2) (mvT hZ w3) (mvT hZ w4) hy (backOf (W := (rest.map fun v => v.category).sum) hM hZ w4 w3 hf hl) (g := mkF m pc Ls (argsL.reverse ++ rest)) rfl (by rw [hml]; exact hsz) (argsL := argsL) (rest := rest) (lenOf hpd hlen) rfl (by show 2 * 0 + _ ≤ _; omega) (hb hby hd) (fun _ _ => ⟨rfl, eT, hc, hsl⟩)
  dsimp only [Pt.U, Pt.locs, Pt.cells, Pt.slots] at X1 l1 y1 z1 st hQ
  subst l1 y1 z1
  exact of st (K T1 v Lc X1 hQ)
theorem callI (X : Stand p l e R s m args below meth c T locs cells slots) (C : Cx p s m meth c Z bytes maxL own mname ret) {y : MethodName} {i : Nat} {yb : ByteArray} {ym : Nat} (hy1 : y.name = "<init>") (w1 : (Jvm.Cond.methodLink own i y).before a0 Z = true) (w2 : (Jvm.Cond.instanceMethod y).before a0 Z = true) (w3 : (Jvm.Cond.initialized y.cls).before a0 Z = true) (w4 : (Jvm.Cond.code y yb ym none).before a0 Z = true) (hy : y.cls ≠ "java/lang/invoke/MethodHandle" ∧ y.cls ≠ "java/lang/invoke/VarHandle")
    {rm : Room} {as' : Array Value} {Q : Option Value → Heap → List Loc → Prop} (hM : MetFree l y (head1 [Jvm.Cond.code y yb ym none] rm) (fun a U => a = as' ∧ Z.Warmed39 U.vm ∧ U.heap = h) (fun _ _ _ _ _ => True) (fun _ U o U' => ∃ v L, o = .returned v ∧ Q v U'.heap L ∧ FrameEnd U o U' L rm.cells rm.slots))
    (eT : T.heap = h) (hd : decode bytes pc = .ok (.invokespecial i, 3)) {a : Addr} (argsL : List Value) (rest : List Value) (hS : S = argsL.reverse ++ .ref a :: rest) (has : as' = (.ref a :: argsL).toArray) {ps : List FieldType} {r : Option FieldType} (hpd : parseMethodDescriptor y.desc = some ⟨ps, r⟩) (hlen : argsL.length = ps.length) (hsz : Ls.size = maxL)
    (hf : rm.frames + 1 ≤ R.frames) (hl : (rest.map fun v => v.category).sum + (ym + 11) + rm.locals ≤ R.locals) (hc : cells + rm.cells ≤ R.cells) (hsl : slots + rm.slots ≤ R.slots) (hq : pc + 3 = q)
    (K : ∀ (T' : State) (v : Option Value) (L : List Loc), Stand p l e R s m args below meth c T' (locs ++ L) (cells + rm.cells) (slots + rm.slots) → Q v T'.heap L → Go p e below F (T'.setTop (mkF m q Ls (v.toList ++ rest)))) : Go p e below F (T.setTop (mkF m pc Ls S)) := by
  subst hq hS has
  obtain ⟨hx, hZ, hby, hml, hown, hnm, hret, hlk⟩ := C
  obtain ⟨v, _, ⟨T1, L1, k1, n1⟩, -, X1, ⟨Lc, hQ, l1, y1, z1⟩, st⟩ := X.specialBack hx hy1 hown (mvT hZ w1) (mvT hZ w2) (mvT hZ w4) hy (backOf (W := (rest.map fun v => v.category).sum) hM hZ w4 w3 hf hl) (g := mkF m pc Ls (argsL.reverse ++ .ref a :: rest)) rfl (by rw [hml]; exact hsz) (Steps.refl _) (a := a) (argsL := argsL) (rest := rest) (lenOf hpd hlen) rfl (by show 2 * 0 + _ ≤ _; omega) (hb hby hd) (fun _ _ => ⟨rfl, eT, hc, hsl⟩)
  dsimp only [Pt.U, Pt.locs, Pt.cells, Pt.slots] at X1 l1 y1 z1 st hQ
  subst l1 y1 z1
  exact tr st (K T1 v Lc X1 hQ)
theorem callV (X : Stand p l e R s m args below meth c T locs cells slots) (C : Cx p s m meth c Z bytes maxL own mname ret) {y z : MethodName} {i : Nat} {Cn : String} {yb : ByteArray} {ym : Nat} {yr : Option FieldType} (w1 : (Jvm.Cond.methodLink own i y).before a0 Z = true) (w2 : (Jvm.Cond.declares y).before a0 Z = true) (hnf : NotFace s y) (ws : (Jvm.Cond.selects Cn y z).before a0 Z = true) (wi : (Jvm.Cond.instanceMethod z).before a0 Z = true) (w3 : (Jvm.Cond.initialized z.cls).before a0 Z = true) (w4 : (Jvm.Cond.code z yb ym yr).before a0 Z = true) (hy : y.cls ≠ "java/lang/invoke/MethodHandle" ∧ y.cls ≠ "java/lang/invoke/VarHandle")
    {rm : Room} {as' : Array Value} {Q : Option Value → Heap → List Loc → Prop} (hM : MetFree l z (head1 [Jvm.Cond.code z yb ym yr] rm) (fun a U => a = as' ∧ Z.Warmed39 U.vm ∧ U.heap = h) (fun _ _ _ _ _ => True) (fun _ U o U' => ∃ v L, o = .returned v ∧ Q v U'.heap L ∧ FrameEnd U o U' L rm.cells rm.slots))
    (eT : T.heap = h) {a : Addr} (E : Exa Z h a Cn) (hd : decode bytes pc = .ok (.invokevirtual i, 3)) (argsL : List Value) (rest : List Value) (hS : S = argsL.reverse ++ .ref a :: rest) (has : as' = (.ref a :: argsL).toArray) {ps : List FieldType} {r : Option FieldType} (hpd : parseMethodDescriptor y.desc = some ⟨ps, r⟩) (hlen : argsL.length = ps.length) (hsz : Ls.size = maxL)
    (hf : rm.frames + 1 ≤ R.frames) (hl : (rest.map fun v => v.category).sum + (ym + 11) + rm.locals ≤ R.locals) (hc : cells + rm.cells ≤ R.cells) (hsl : slots + rm.slots ≤ R.slots) (hq : pc + 3 = q)
    (K : ∀ (T' : State) (v : Option Value) (L : List Loc), Stand p l e R s m args below meth c T' (locs ++ L) (cells + rm.cells) (slots + rm.slots) → Q v T'.heap L → Go p e below F (T'.setTop (mkF m q Ls (v.toList ++ rest)))) : Go p e below F (T.setTop (mkF m pc Ls S)) := by
  subst hq hS has
  obtain ⟨hx, hZ, hby, hml, hown, hnm, hret, hlk⟩ := C
  obtain ⟨cq, kq, qa, qb, qc⟩ := isOf hZ eT E
  obtain ⟨v, _, ⟨T1, L1, k1, n1⟩, -, X1, ⟨Lc, hQ, l1, y1, z1⟩, st⟩ := X.virtualBack hx hown (mvT hZ w1) (mvT hZ w2) hnf (mvT hZ ws) (mvT hZ wi) hy (backOf (W := (rest.map fun v => v.category).sum) hM hZ w4 w3 hf hl) qa qc (g := mkF m pc Ls (argsL.reverse ++ .ref a :: rest)) rfl (by rw [hml]; exact hsz) (Steps.refl _) (argsL := argsL) (rest := rest) (lenOf hpd hlen) rfl (by show 2 * 0 + _ ≤ _; omega) (hb hby hd) (fun _ _ => ⟨rfl, eT, hc, hsl⟩)
  dsimp only [Pt.U, Pt.locs, Pt.cells, Pt.slots] at X1 l1 y1 z1 st hQ
  subst l1 y1 z1
  exact tr st (K T1 v Lc X1 hQ)
theorem callP (X : Stand p l e R s m args below meth c T locs cells slots) (C : Cx p s m meth c Z bytes maxL own mname ret) {y y2 : MethodName} {i : Nat} {Cn : String} {yb : ByteArray} {ym : Nat} {yr : Option FieldType} (w1 : (Jvm.Cond.methodLink own i y).before a0 Z = true) (wi : (Jvm.Cond.instanceMethod y).before a0 Z = true) (wp : (Jvm.Cond.privateMethod y).before a0 Z = true) (hcls : y2.cls = y.cls) (ws : (Jvm.Cond.selects y2.cls y2 y2).before a0 Z = true) (w3 : (Jvm.Cond.initialized y.cls).before a0 Z = true) (w4 : (Jvm.Cond.code y yb ym yr).before a0 Z = true) (hy : y.cls ≠ "java/lang/invoke/MethodHandle" ∧ y.cls ≠ "java/lang/invoke/VarHandle")
    {rm : Room} {as' : Array Value} {Q : Option Value → Heap → List Loc → Prop} (hM : MetFree l y (head1 [Jvm.Cond.code y yb ym yr] rm) (fun a U => a = as' ∧ Z.Warmed39 U.vm ∧ U.heap = h) (fun _ _ _ _ _ => True) (fun _ U o U' => ∃ v L, o = .returned v ∧ Q v U'.heap L ∧ FrameEnd U o U' L rm.cells rm.slots))
    (eT : T.heap = h) {a : Addr} (E : Exa Z h a Cn) (hd : decode bytes pc = .ok (.invokevirtual i, 3)) (argsL : List Value) (rest : List Value) (hS : S = argsL.reverse ++ .ref a :: rest) (has : as' = (.ref a :: argsL).toArray) {ps : List FieldType} {r : Option FieldType} (hpd : parseMethodDescriptor y.desc = some ⟨ps, r⟩) (hlen : argsL.length = ps.length) (hsz : Ls.size = maxL)
    (hf : rm.frames + 1 ≤ R.frames) (hl : (rest.map fun v => v.category).sum + (ym + 11) + rm.locals ≤ R.locals) (hc : cells + rm.cells ≤ R.cells) (hsl : slots + rm.slots ≤ R.slots) (hq : pc + 3 = q)
    (K : ∀ (T' : State) (v : Option Value) (L : List Loc), Stand p l e R s m args below meth c T' (locs ++ L) (cells + rm.cells) (slots + rm.slots) → Q v T'.heap L → Go p e below F (T'.setTop (mkF m q Ls (v.toList ++ rest)))) : Go p e below F (T.setTop (mkF m pc Ls S)) := by
  subst hq hS has
  obtain ⟨hx, hZ, hby, hml, hown, hnm, hret, hlk⟩ := C
  obtain ⟨cl, qa, qb⟩ := E.cell
  rw [← eT] at qa
  have ws' : (Jvm.Cond.selects y2.cls y2 y2).before args s = true := mvT hZ ws
  obtain ⟨_, _, m2, -, -, q3, -, kP, hkP, hkPi⟩ := Cond.selects_spec ws'
  have hfc := findClass_of_methodNamed q3
  rw [hcls] at hfc
  have hpr : s.PrivateAt y := Cond.privateMethod_at (args := args) (mvP hZ wp)
  have hsel := Jvm.Stand.selects_self_of_private (args := args) hfc hkP hkPi hpr (mvT hZ wi) hy
  obtain ⟨v, _, ⟨T1, L1, k1, n1⟩, -, X1, ⟨Lc, hQ, l1, y1, z1⟩, st⟩ := X.privateBack hx hown (mvT hZ w1) (mvT hZ wi) hsel hpr (mvT hZ w4) hy (backOf (W := (rest.map fun v => v.category).sum) hM hZ w4 w3 hf hl) (g := mkF m pc Ls (argsL.reverse ++ .ref a :: rest)) rfl (by rw [hml]; exact hsz) (Steps.refl _) qa qb (argsL := argsL) (rest := rest) (lenOf hpd hlen) rfl (by show 2 * 0 + _ ≤ _; omega) (hb hby hd) (fun _ _ => ⟨rfl, eT, hc, hsl⟩)
  dsimp only [Pt.U, Pt.locs, Pt.cells, Pt.slots] at X1 l1 y1 z1 st hQ
  subst l1 y1 z1
  exact tr st (K T1 v Lc X1 hQ)
theorem nf (C : Cx p s m meth c Z bytes maxL own mname ret) {Cn : String} {y : MethodName} (ws : (Jvm.Cond.selects Cn y y).before a0 Z = true) : NotFace s y := notFace_of_selects (args := #[]) (mvT C.2.1 ws)
theorem initObj (X : Stand p l e R s m args below meth c T locs cells slots) (C : Cx p s m meth c Z bytes maxL own mname ret) {i : Nat} (w1 : (Jvm.Cond.methodLink own i ⟨"java/lang/Object", "<init>", "()V"⟩).before a0 Z = true) (w2 : (Jvm.Cond.instanceMethod ⟨"java/lang/Object", "<init>", "()V"⟩).before a0 Z = true) (w3 : (Jvm.Cond.code ⟨"java/lang/Object", "<init>", "()V"⟩ object_method_1_code 1 none).before a0 Z = true)
    (eT : T.heap = h) {a : Addr} (hd : decode bytes pc = .ok (.invokespecial i, 3)) (hsz : Ls.size = maxL) (hf : 1 ≤ R.frames) (hl : (S.map fun v => v.category).sum + 12 ≤ R.locals) (hq : pc + 3 = q)
    (K : ∀ (T' : State), Stand p l e R s m args below meth c T' locs cells slots → T'.heap = h → Go p e below F (T'.setTop (mkF m q Ls S))) : Go p e below F (T.setTop (mkF m pc Ls (.ref a :: S))) := by
  subst hq
  obtain ⟨hx, hZ, hby, hml, hown, hnm, hret, hlk⟩ := C
  obtain ⟨T1, X1, e1, st⟩ := initO X hx hZ hown w1 w2 w3 eT (g := mkF m pc Ls (.ref a :: S)) rfl (by rw [hml]; exact hsz) rfl (hb hby hd) hf (W := (S.map fun v => v.category).sum) (by show 2 * 0 + _ ≤ _; omega) hl
  exact of st (K T1 X1 e1)
/-! objects -/
theorem newO (X : Stand p l e R s m args below meth c T locs cells slots) (C : Cx p s m meth c Z bytes maxL own mname ret) {i n : Nat} {Cn : String} (w1 : (Jvm.Cond.classLink own i Cn).before a0 Z = true) (w2 : (Jvm.Cond.instantiable Cn n).before a0 Z = true) (w3 : (Jvm.Cond.initialized Cn).before a0 Z = true) (eT : T.heap = h) (hd : decode bytes pc = .ok (.new i, 3)) (hc : cells + 1 ≤ R.cells) (hl : slots + n ≤ R.slots) (hq : pc + 3 = q)
    (K : ∀ (T' : State) (h' : Heap) (b : Addr), Stand p l e R s m args below meth c T' locs (cells + 1) (slots + n) → T'.heap = h' → b = h.size → Ext h h' → Exa Z h' b Cn → (∀ {O nm d : String} {ty : FieldType}, Laid Z a0 Cn O nm d → parseFieldDescriptor d = some ty → Fld Z h' b O nm d (defaultValue ty)) → Go p e below F (T'.setTop (mkF m q Ls (.ref b :: S)))) : Go p e below F (T.setTop (mkF m pc Ls S)) := by
  subst hq
  obtain ⟨hx, hZ, hby, hml, hown, hnm, hret, hlk⟩ := C
  obtain ⟨T1, h1, X1, e1, E1, A1, D1, -, st⟩ := Jvm.RoadKit.newO X hx hZ hown w1 w2 w3 eT (g := mkF m pc Ls S) rfl (hb hby hd) hc hl
  exact of st (K T1 h1 _ X1 e1 rfl E1 A1 D1)
theorem getF (X : Stand p l e R s m args below meth c T locs cells slots) (C : Cx p s m meth c Z bytes maxL own mname ret) {i : Nat} {R0 O n d host : String} (w : (Jvm.Cond.fieldLink own i R0 n d).before a0 Z = true ∨ (Jvm.Cond.fieldLinkNest own i R0 n d host).before a0 Z = true) (via : Via Z R0 O n d) (eT : T.heap = h) {a : Addr} {v : Value} (F0 : Fld Z h a O n d v) (hd : decode bytes pc = .ok (.getfield i, 3)) (hq : pc + 3 = q)
    (K : ∀ (T' : State), Stand p l e R s m args below meth c T' locs cells slots → T'.heap = h → Go p e below F (T'.setTop (mkF m q Ls (v :: S)))) : Go p e below F (T.setTop (mkF m pc Ls (.ref a :: S))) := by
  subst hq
  obtain ⟨hx, hZ, hby, hml, hown, hnm, hret, hlk⟩ := C
  obtain ⟨T1, X1, e1, st⟩ := Jvm.RoadKit.getF X hx hZ hown w via eT F0 (g := mkF m pc Ls (.ref a :: S)) rfl rfl (hb hby hd)
  exact of st (K T1 X1 e1)
theorem putF (X : Stand p l e R s m args below meth c T locs cells slots) (C : Cx p s m meth c Z bytes maxL own mname ret) {i kk : Nat} {R0 O n d host Cn : String} {ty : FieldType} (w : (Jvm.Cond.fieldLink own i R0 n d).before a0 Z = true ∨ (Jvm.Cond.fieldLinkNest own i R0 n d host).before a0 Z = true) (via : Via Z R0 O n d) (eT : T.heap = h) {a : Addr} {v old : Value} (F0 : Fld Z h a O n d old) (E : Exa Z h a Cn) (L : (Jvm.Cond.lays Cn O n d).before a0 Z = true ∨ ((Jvm.Cond.laysFinal Cn O n d).before a0 Z = true ∧ own = O ∧ mname = "<init>")) (wi : (Jvm.Cond.instantiable Cn kk).before a0 Z = true) (hty : parseFieldDescriptor d = some ty) (hn : narrow ty v = v) (hf : fits ty v = true) (hd : decode bytes pc = .ok (.putfield i, 3)) (hq : pc + 3 = q)
    (K : ∀ (T' : State) (h' : Heap), Stand p l e R s m args below meth c T' (locs ++ [⟨a, Jvm.RoadKit.slotOf Z O n d⟩]) cells slots → T'.heap = h' → Wr h h' a (Jvm.RoadKit.slotOf Z O n d) v → Go p e below F (T'.setTop (mkF m q Ls S))) : Go p e below F (T.setTop (mkF m pc Ls (v :: .ref a :: S))) := by
  subst hq
  obtain ⟨hx, hZ, hby, hml, hown, hnm, hret, hlk⟩ := C
  obtain ⟨T1, h1, X1, e1, W1, st⟩ := Jvm.RoadKit.putF X hx hZ hown w via eT F0 E (L.imp id fun q => ⟨q.1, q.2.1, hnm.trans q.2.2⟩) wi hty hn hf (g := mkF m pc Ls (v :: .ref a :: S)) rfl rfl (hb hby hd)
  exact of st (K T1 h1 X1 e1 W1)
theorem getS (X : Stand p l e R s m args below meth c T locs cells slots) (C : Cx p s m meth c Z bytes maxL own mname ret) {i : Nat} {R0 O n d : String} (w : (Jvm.Cond.fieldLink own i R0 n d).before a0 Z = true) (via : Via Z R0 O n d) (eT : T.heap = h) {v : Value} (F0 : Sta Z h O n d v) (hd : decode bytes pc = .ok (.getstatic i, 3)) (hq : pc + 3 = q)
    (K : ∀ (T' : State), Stand p l e R s m args below meth c T' locs cells slots → T'.heap = h → Go p e below F (T'.setTop (mkF m q Ls (v :: S)))) : Go p e below F (T.setTop (mkF m pc Ls S)) := by
  subst hq
  obtain ⟨hx, hZ, hby, hml, hown, hnm, hret, hlk⟩ := C
  obtain ⟨T1, X1, e1, st⟩ := Jvm.RoadKit.getS X hx hZ hown (host := "") w via eT F0 (g := mkF m pc Ls S) rfl (hb hby hd)
  exact of st (K T1 X1 e1)
/-! arrays: Arv Z h a k ty n vs d -/
theorem inb {cl : Cell} {n j : Int32} (S : cl.slots.size = n.toNatClampNeg) (h1 : 0 ≤ j.toInt) (h2 : j.toInt < n.toInt) : ¬ (j < 0 ∨ cl.slots.size ≤ j.toNatClampNeg) := inb_of S ⟨by rw [Int32.lt_iff_toInt_lt]; have : (0 : Int32).toInt = 0 := rfl; omega, by rw [Int32.lt_iff_toInt_lt]; exact h2⟩
theorem iaload (X : Stand p l e R s m args below meth c T locs cells slots) (C : Cx p s m meth c Z bytes maxL own mname ret) (eT : T.heap = h) {a : Addr} {k : ClassId} {n j x : Int32} {vs : List Value} {d : Value} (V : Arv Z h a k .int n vs d) (h1 : 0 ≤ j.toInt) (h2 : j.toInt < n.toInt) (hv : vs.getD j.toNatClampNeg d = .int x) (hd : decode bytes pc = .ok (.iaload, 1)) (hq : pc + 1 = q) (K : Go p e below F (T.setTop (mkF m q Ls (.int x :: S)))) : Go p e below F (T.setTop (mkF m pc Ls (.int j :: .ref a :: S))) := by
  subst hq
  obtain ⟨cl, Ar, q1, S1, N1, H1, G1⟩ := V
  exact of (X.iaload C.1 (j := j) (v := .int x) (by rw [eT]; exact Ar.1) (State.isArrayOf_alike C.2.1.alike Ar.2.1) Ar.2.2 (inb S1 h1 h2) (Has.at H1 (inb S1 h1 h2) hv) (g := mkF m pc Ls (.int j :: .ref a :: S)) rfl rfl (hb C.2.2.1 hd)) K
theorem caload (X : Stand p l e R s m args below meth c T locs cells slots) (C : Cx p s m meth c Z bytes maxL own mname ret) (eT : T.heap = h) {a : Addr} {k : ClassId} {n j x : Int32} {vs : List Value} {d : Value} (V : Arv Z h a k .char n vs d) (h1 : 0 ≤ j.toInt) (h2 : j.toInt < n.toInt) (hv : vs.getD j.toNatClampNeg d = .int x) (hd : decode bytes pc = .ok (.caload, 1)) (hq : pc + 1 = q) (K : Go p e below F (T.setTop (mkF m q Ls (.int x :: S)))) : Go p e below F (T.setTop (mkF m pc Ls (.int j :: .ref a :: S))) := by
  subst hq
  obtain ⟨cl, Ar, q1, S1, N1, H1, G1⟩ := V
  exact of (X.caload C.1 (j := j) (v := .int x) (by rw [eT]; exact Ar.1) (State.isArrayOf_alike C.2.1.alike Ar.2.1) Ar.2.2 (inb S1 h1 h2) (Has.at H1 (inb S1 h1 h2) hv) (g := mkF m pc Ls (.int j :: .ref a :: S)) rfl rfl (hb C.2.2.1 hd)) K
theorem baload (X : Stand p l e R s m args below meth c T locs cells slots) (C : Cx p s m meth c Z bytes maxL own mname ret) (eT : T.heap = h) {a : Addr} {k : ClassId} {n j x : Int32} {vs : List Value} {d : Value} (V : Arv Z h a k .byte n vs d) (h1 : 0 ≤ j.toInt) (h2 : j.toInt < n.toInt) (hv : vs.getD j.toNatClampNeg d = .int x) (hd : decode bytes pc = .ok (.baload, 1)) (hq : pc + 1 = q) (K : Go p e below F (T.setTop (mkF m q Ls (.int x :: S)))) : Go p e below F (T.setTop (mkF m pc Ls (.int j :: .ref a :: S))) := by
  subst hq
  obtain ⟨cl, Ar, q1, S1, N1, H1, G1⟩ := V
  exact of (X.baloadBytes C.1 (j := j) (v := .int x) (by rw [eT]; exact Ar.1) (State.isArrayOf_alike C.2.1.alike Ar.2.1) Ar.2.2 (inb S1 h1 h2) (Has.at H1 (inb S1 h1 h2) hv) (g := mkF m pc Ls (.int j :: .ref a :: S)) rfl rfl (hb C.2.2.1 hd)) K
theorem aaload (X : Stand p l e R s m args below meth c T locs cells slots) (C : Cx p s m meth c Z bytes maxL own mname ret) (eT : T.heap = h) {a : Addr} {k : ClassId} {n j : Int32} {x : Value} {vs : List Value} {d : Value} {ty : FieldType} (hty : ty.isReference = true) (V : Arv Z h a k ty n vs d) (h1 : 0 ≤ j.toInt) (h2 : j.toInt < n.toInt) (hv : vs.getD j.toNatClampNeg d = x) (hd : decode bytes pc = .ok (.aaload, 1)) (hq : pc + 1 = q) (K : Go p e below F (T.setTop (mkF m q Ls (x :: S)))) : Go p e below F (T.setTop (mkF m pc Ls (.int j :: .ref a :: S))) := by
  subst hq
  obtain ⟨cl, Ar, q1, S1, N1, H1, G1⟩ := V
  exact of (X.aaload C.1 (j := j) (v := x) (by rw [eT]; exact Ar.1) (State.isArrayOf_alike C.2.1.alike Ar.2.1) hty Ar.2.2 (inb S1 h1 h2) (Has.at H1 (inb S1 h1 h2) hv) (g := mkF m pc Ls (.int j :: .ref a :: S)) rfl rfl (hb C.2.2.1 hd)) K
theorem aaloadC (X : Stand p l e R s m args below meth c T locs cells slots) (C : Cx p s m meth c Z bytes maxL own mname ret) (eT : T.heap = h) {a : Addr} {cl : Cell} {j : Int32} {x : Value} {ty : FieldType} (hty : ty.isReference = true) (Ar : Arr Z h a cl ty) (hin : ¬ (j < 0 ∨ cl.slots.size ≤ j.toNatClampNeg)) (hat : cl.slots[j.toNatClampNeg]? = some x) (hd : decode bytes pc = .ok (.aaload, 1)) (hq : pc + 1 = q) (K : Go p e below F (T.setTop (mkF m q Ls (x :: S)))) : Go p e below F (T.setTop (mkF m pc Ls (.int j :: .ref a :: S))) := by
  subst hq
  exact of (X.aaload C.1 (j := j) (v := x) (by rw [eT]; exact Ar.1) (State.isArrayOf_alike C.2.1.alike Ar.2.1) hty Ar.2.2 hin hat (g := mkF m pc Ls (.int j :: .ref a :: S)) rfl rfl (hb C.2.2.1 hd)) K
theorem arraylength (X : Stand p l e R s m args below meth c T locs cells slots) (C : Cx p s m meth c Z bytes maxL own mname ret) (eT : T.heap = h) {a : Addr} {k : ClassId} {n : Int32} {vs : List Value} {d : Value} {ty : FieldType} (V : Arv Z h a k ty n vs d) (hd : decode bytes pc = .ok (.arraylength, 1)) (hq : pc + 1 = q) (K : Go p e below F (T.setTop (mkF m q Ls (.int n :: S)))) : Go p e below F (T.setTop (mkF m pc Ls (.ref a :: S))) := by
  subst hq
  obtain ⟨cl, Ar, q1, S1, N1, H1, G1⟩ := V
  refine of (X.arraylength C.1 (by rw [eT]; exact Ar.1) (State.isArrayOf_alike C.2.1.alike Ar.2.1) (g := mkF m pc Ls (.ref a :: S)) rfl rfl (hb C.2.2.1 hd)) ?_
  rw [len_of S1 N1]
  exact K
theorem iastore (X : Stand p l e R s m args below meth c T locs cells slots) (C : Cx p s m meth c Z bytes maxL own mname ret) (eT : T.heap = h) {a : Addr} {k : ClassId} {n j x : Int32} {vs : List Value} {d : Value} (V : Arv Z h a k .int n vs d) (h1 : 0 ≤ j.toInt) (h2 : j.toInt < n.toInt) (hlen : j.toNatClampNeg < vs.length) (hd : decode bytes pc = .ok (.iastore, 1)) (hq : pc + 1 = q)
    (K : ∀ (T' : State) (h' : Heap), Stand p l e R s m args below meth c T' (locs ++ [⟨a, j.toNatClampNeg⟩]) cells slots → T'.heap = h' → Wr h h' a j.toNatClampNeg (.int x) → Arv Z h' a k .int n (vs.set j.toNatClampNeg (.int x)) d → Go p e below F (T'.setTop (mkF m q Ls S))) : Go p e below F (T.setTop (mkF m pc Ls (.int x :: .int j :: .ref a :: S))) := by
  subst hq
  obtain ⟨cl, Ar, q1, S1, N1, H1, G1⟩ := V
  obtain ⟨T1, h1', X1, e1, W1, st⟩ := stI X C.1 C.2.1 eT Ar (j := j) (inb S1 h1 h2) (g := mkF m pc Ls (.int x :: .int j :: .ref a :: S)) rfl rfl (hb C.2.2.1 hd)
  exact of st (K T1 h1' X1 e1 W1 (Arv.set Ar q1 S1 N1 H1 G1 rfl W1 _ rfl hlen))
theorem castore (X : Stand p l e R s m args below meth c T locs cells slots) (C : Cx p s m meth c Z bytes maxL own mname ret) (eT : T.heap = h) {a : Addr} {k : ClassId} {n j x : Int32} {vs : List Value} {d : Value} (V : Arv Z h a k .char n vs d) (h1 : 0 ≤ j.toInt) (h2 : j.toInt < n.toInt) (hlen : j.toNatClampNeg < vs.length) (hd : decode bytes pc = .ok (.castore, 1)) (hq : pc + 1 = q)
    (K : ∀ (T' : State) (h' : Heap), Stand p l e R s m args below meth c T' (locs ++ [⟨a, j.toNatClampNeg⟩]) cells slots → T'.heap = h' → Wr h h' a j.toNatClampNeg (.int (nar .char x)) → Arv Z h' a k .char n (vs.set j.toNatClampNeg (.int (nar .char x))) d → Go p e below F (T'.setTop (mkF m q Ls S))) : Go p e below F (T.setTop (mkF m pc Ls (.int x :: .int j :: .ref a :: S))) := by
  subst hq
  obtain ⟨cl, Ar, q1, S1, N1, H1, G1⟩ := V
  obtain ⟨T1, h1', X1, e1, W1, st⟩ := stC X C.1 C.2.1 eT Ar (j := j) (inb S1 h1 h2) (g := mkF m pc Ls (.int x :: .int j :: .ref a :: S)) rfl rfl (hb C.2.2.1 hd)
  exact of st (K T1 h1' X1 e1 W1 (Arv.set Ar q1 S1 N1 H1 G1 (fits_nar_char _) W1 _ rfl hlen))
theorem bastore (X : Stand p l e R s m args below meth c T locs cells slots) (C : Cx p s m meth c Z bytes maxL own mname ret) (eT : T.heap = h) {a : Addr} {k : ClassId} {n j x : Int32} {vs : List Value} {d : Value} (V : Arv Z h a k .byte n vs d) (h1 : 0 ≤ j.toInt) (h2 : j.toInt < n.toInt) (hlen : j.toNatClampNeg < vs.length) (hd : decode bytes pc = .ok (.bastore, 1)) (hq : pc + 1 = q)
    (K : ∀ (T' : State) (h' : Heap), Stand p l e R s m args below meth c T' (locs ++ [⟨a, j.toNatClampNeg⟩]) cells slots → T'.heap = h' → Wr h h' a j.toNatClampNeg (.int x.toInt8.toInt32) → Arv Z h' a k .byte n (vs.set j.toNatClampNeg (.int x.toInt8.toInt32)) d → Go p e below F (T'.setTop (mkF m q Ls S))) : Go p e below F (T.setTop (mkF m pc Ls (.int x :: .int j :: .ref a :: S))) := by
  subst hq
  obtain ⟨cl, Ar, q1, S1, N1, H1, G1⟩ := V
  obtain ⟨T1, h1', X1, e1, W1, st⟩ := stB X C.1 C.2.1 eT Ar (j := j) (inb S1 h1 h2) (g := mkF m pc Ls (.int x :: .int j :: .ref a :: S)) rfl rfl (hb C.2.2.1 hd)
  exact of st (K T1 h1' X1 e1 W1 (Arv.set Ar q1 S1 N1 H1 G1 (fits_nar_byte _) W1 _ rfl hlen))
theorem aastore (X : Stand p l e R s m args below meth c T locs cells slots) (C : Cx p s m meth c Z bytes maxL own mname ret) (eT : T.heap = h) {a : Addr} {k : ClassId} {n j : Int32} {x : Value} {vs : List Value} {d : Value} {ty : FieldType} (hty : ty.isReference = true) (hf : fits ty x = true) (V : Arv Z h a k ty n vs d) (hs : ∀ cl, Arr Z h a cl ty → cl.cls = k → Sto Z h a x) (h1 : 0 ≤ j.toInt) (h2 : j.toInt < n.toInt) (hlen : j.toNatClampNeg < vs.length) (hd : decode bytes pc = .ok (.aastore, 1)) (hq : pc + 1 = q)
    (K : ∀ (T' : State) (h' : Heap), Stand p l e R s m args below meth c T' (locs ++ [⟨a, j.toNatClampNeg⟩]) cells slots → T'.heap = h' → Wr h h' a j.toNatClampNeg x → Arv Z h' a k ty n (vs.set j.toNatClampNeg x) d → Go p e below F (T'.setTop (mkF m q Ls S))) : Go p e below F (T.setTop (mkF m pc Ls (x :: .int j :: .ref a :: S))) := by
  subst hq
  obtain ⟨cl, Ar, q1, S1, N1, H1, G1⟩ := V
  obtain ⟨T1, h1', X1, e1, W1, st⟩ := stR X C.1 C.2.1 eT Ar (j := j) (inb S1 h1 h2) hty (hs cl Ar q1) (g := mkF m pc Ls (x :: .int j :: .ref a :: S)) rfl rfl (hb C.2.2.1 hd)
  exact of st (K T1 h1' X1 e1 W1 (Arv.set Ar q1 S1 N1 H1 G1 hf W1 _ rfl hlen))
theorem newarray (X : Stand p l e R s m args below meth c T locs cells slots) (C : Cx p s m meth c Z bytes maxL own mname ret) {aty : ArrayType} (w : (Jvm.Cond.arrayClass (newarray.typeOf aty)).before a0 Z = true) (eT : T.heap = h) {n : Int32} (hn : 0 ≤ n.toInt) (cap : Nat) (hcap : n.toInt ≤ cap) (hb8 : cap * 8 ≤ 536870912) (hd : decode bytes pc = .ok (.newarray aty, 2)) (hc : cells + 1 ≤ R.cells) (hl : slots + cap ≤ R.slots) (hq : pc + 2 = q)
    (K : ∀ (T' : State) (h' : Heap) (b : Addr) (k : ClassId), Stand p l e R s m args below meth c T' locs (cells + 1) (slots + cap) → T'.heap = h' → b = h.size → Ext h h' → Arv Z h' b k (newarray.typeOf aty) n (List.replicate cap (defaultValue (newarray.typeOf aty))) (defaultValue (newarray.typeOf aty)) → Go p e below F (T'.setTop (mkF m q Ls (.ref b :: S)))) : Go p e below F (T.setTop (mkF m pc Ls (.int n :: S))) := by
  subst hq
  have hn' : ¬ n < 0 := by rw [Int32.lt_iff_toInt_lt]; have : (0 : Int32).toInt = 0 := rfl; omega
  obtain ⟨T1, h1, k1, X1, e1, E1, A1, st⟩ := newP X C.1 C.2.1 w eT (g := mkF m pc Ls (.int n :: S)) rfl (hb C.2.2.1 hd) rfl hn' (cap := cap) (by simp only [Int32.toNatClampNeg]; omega) hb8 hc hl
  exact of st (K T1 h1 _ k1 X1 e1 rfl E1 ((Arv.new A1 hn').pad (pad_rep [] _ cap)))
theorem anewarray (X : Stand p l e R s m args below meth c T locs cells slots) (C : Cx p s m meth c Z bytes maxL own mname ret) {i : Nat} {Cn : String} (w1 : (Jvm.Cond.classLink own i Cn).before a0 Z = true) (w2 : (Jvm.Cond.arrayOver (.object Cn)).before a0 Z = true) (eT : T.heap = h) {n : Int32} (hn : 0 ≤ n.toInt) (cap : Nat) (hcap : n.toInt ≤ cap) (hb8 : cap * 8 ≤ 536870912) (hd : decode bytes pc = .ok (.anewarray i, 3)) (hc : cells + 1 ≤ R.cells) (hl : slots + cap ≤ R.slots) (hq : pc + 3 = q)
    (K : ∀ (T' : State) (h' : Heap) (b : Addr) (k : ClassId), Stand p l e R s m args below meth c T' locs (cells + 1) (slots + cap) → T'.heap = h' → b = h.size → Ext h h' → Ovr Z k Cn → Arv Z h' b k (.object Cn) n (List.replicate cap .null) .null → Go p e below F (T'.setTop (mkF m q Ls (.ref b :: S)))) : Go p e below F (T.setTop (mkF m pc Ls (.int n :: S))) := by
  subst hq
  have hn' : ¬ n < 0 := by rw [Int32.lt_iff_toInt_lt]; have : (0 : Int32).toInt = 0 := rfl; omega
  obtain ⟨T1, h1, k1, X1, e1, E1, A1, O1, st⟩ := newR X C.1 C.2.1 C.2.2.2.2.1 w1 w2 eT (g := mkF m pc Ls (.int n :: S)) rfl (hb C.2.2.1 hd) rfl hn' (cap := cap) (by simp only [Int32.toNatClampNeg]; omega) hb8 hc hl
  exact of st (K T1 h1 _ k1 X1 e1 rfl E1 O1 ((Arv.new A1 hn').pad (pad_rep [] _ cap)))
/-! String constants (ldc): the tables grow; the end is said of the true start -/
def PostW (s : State) (Q : Option Value → Heap → List Loc → Prop) (k n : Nat) (o : Outcome) (U' : State) : Prop := ∃ v L, o = .returned v ∧ Q v U'.heap L ∧ ReturnedEndW s o U' L k n
theorem postW {vm1 : Vm} {kk k n : Nat} {U : State} {Q : Option Value → Heap → List Loc → Prop} (hS : s.Since vm1 kk) (g : Go p e below (Post (s.setVm vm1) (fun v h L => Q v h L ∧ kk ≤ h.size) k n) U) : Go p e below (PostW s Q k n) U := by
  obtain ⟨s2, o, h1, h2, h3, v, L, e1, ⟨q1, q2⟩, hr, hW, hs⟩ := g
  obtain ⟨a, b, c'⟩ := hS.ended (U := s2) hW q2 hs
  exact ⟨s2, o, h1, h2, h3, v, L, e1, q1, hr, a, b, c'⟩
theorem bodyOfW {y : MethodName} {ws : List Jvm.Cond} {rm : Room} {as : Array Value} {Q : Option Value → Heap → List Loc → Prop} (hp : plainFor y = true) (hef : ∀ m, entryFrame m as maxL = mkF m 0 Ls [])
    (body : ∀ p e s m below meth c s₁, Cx p (s.setVm s.vm) m meth c Z bytes maxL y.cls y.name ret → Stand p l e rm (s.setVm s.vm) m as below meth c s₁ [] 0 0 → s₁.heap = h0 → s.Since s.vm 0 → Go p e below (PostW s Q rm.cells rm.slots) (s₁.setTop (mkF m 0 Ls []))) :
    MetFree l y (head1 (Jvm.Cond.code y bytes maxL ret :: ws) rm) (fun a U => a = as ∧ Z.Warmed39 U.vm ∧ U.heap = h0) (fun _ _ _ _ _ => True) (fun _ U o U' => ∃ v L, o = .returned v ∧ Q v U'.heap L ∧ ReturnedEndW U o U' L rm.cells rm.slots) := by
  refine MetFree.of_bodySF hp hisR ?_
  intro p e s m args below meth c s₁ Bd hml0 hP hK
  obtain ⟨rfl, hZ, hh⟩ := hP
  obtain ⟨s₂, o, h1, h2⟩ := body p e s m below meth c s₁ ⟨Bd.exec, hZ, Bd.bytes, hml0, findClass_of_methodNamed Bd.named, (name_of_methodNamed Bd.named Bd.method).1, Bd.returns, Bd.notSynchronized⟩ (Stand.of_body Bd) (by rw [← hh, Bd.state]; rfl) ((State.WarmedH.refl s).since 0)
  exact ⟨s₂, o, castTop (hef m) h1, h2⟩
theorem ldcS {vm0 : Vm} (X : Stand p l e R (s.setVm vm0) m args below meth c T locs cells slots) (C : Cx p (s.setVm vm0) m meth c Z bytes maxL own mname ret) {i : Nat} {text : String} (w : (Jvm.Cond.stringLink own i text).before a0 Z = true) (wS : ∀ a ∈ Bundle.stringAtoms, a.before a0 Z = true) (eT : T.heap = h) {k0 : Nat} (hS : s.Since vm0 k0) (hk : k0 ≤ h.size) (hd : decode bytes pc = .ok (.ldc i, 2)) (n : Nat) (hn : 4 * text.toList.length ≤ n) (hbig : n ≤ 536870912) (hc : cells + 2 ≤ R.cells) (hl' : slots + (n + 4) ≤ R.slots) (hq : pc + 2 = q)
    (K : ∀ (a : Addr) (T' : State) (h' : Heap) (k1 : Nat), Stand p l e R (s.setVm T'.vm) m args below meth c T' locs (cells + 2) (slots + (n + 4)) → Cx p (s.setVm T'.vm) m meth c Z bytes maxL own mname ret → T'.heap = h' → Ext h h' → s.Since T'.vm k1 → k1 ≤ h'.size → Go p e below F (T'.setTop (mkF m q Ls (.ref a :: S)))) : Go p e below F (T.setTop (mkF m pc Ls S)) := by
  subst hq
  obtain ⟨hx, hZ, hby, hml, hown, hnm, hret, hlk⟩ := C
  obtain ⟨a, T', h', k1, X1, e1, E1, S1, K1, Z1, O1, -, -, st⟩ := ldcOH (EL := []) X hx hZ hown w wS eT hS hk EW.nil (fun p hp => by cases hp) (g := mkF m pc Ls S) rfl (hb hby hd) hn hbig hc hl'
  exact of st (K a T' h' k1 X1 ⟨hx, Z1, hby, hml, O1, hnm, hret, hlk⟩ e1 E1 S1 K1)
/-! String constants that are read (EL): callees that load them -/
def PostH (s : State) (Z : State) (EL : List (String × Nat)) (Q : Option Value → Heap → List Loc → Prop) (k n : Nat) (o : Outcome) (U' : State) : Prop := ∃ v L, o = .returned v ∧ Q v U'.heap L ∧ CHr Z EL s.vm s.heap U'.vm U'.heap ∧ ReturnedEndW s o U' L k n
theorem ldcC {vm0 : Vm} {EL : List (String × Nat)} (X : Stand p l e R (s.setVm vm0) m args below meth c T locs cells slots) (C : Cx p (s.setVm vm0) m meth c Z bytes maxL own mname ret) {i : Nat} {text : String} (w : (Jvm.Cond.stringLink own i text).before a0 Z = true) (wS : ∀ a ∈ Bundle.stringAtoms, a.before a0 Z = true) (eT : T.heap = h) {k0 : Nat} (hS : s.Since vm0 k0) (hk : k0 ≤ h.size) (hEL : EW Z a0 EL) (hmem : (own, i) ∈ EL) (H : CHv Z EL vm0 h) {vs : List Value} {z : Int32} (ht : (∀ c ∈ text.toList, c.toNat < 256) ∧ text.toList.map (fun c => Value.int (Jvm.Lit.byteI c.toNat.toUInt16)) = vs) (hz : ¬ z < 0) (hl : z.toNatClampNeg = vs.length) (hd : decode bytes pc = .ok (.ldc i, 2)) (n : Nat) (hn : 4 * text.toList.length ≤ n) (hbig : n ≤ 536870912) (hc : cells + 2 ≤ R.cells) (hl' : slots + (n + 4) ≤ R.slots) (hq : pc + 2 = q)
    (K : ∀ (a : Addr) (T' : State) (h' : Heap) (k1 : Nat) (b : Addr) (k : ClassId), Stand p l e R (s.setVm T'.vm) m args below meth c T' locs (cells + 2) (slots + (n + 4)) → Cx p (s.setVm T'.vm) m meth c Z bytes maxL own mname ret → T'.heap = h' → Ext h h' → s.Since T'.vm k1 → k1 ≤ h'.size → Exa Z h' a "java/lang/String" → Fld Z h' a "java/lang/String" "coder" "B" (.int 0) → Fld Z h' a "java/lang/String" "value" "[B" (.ref b) → Arv Z h' b k .byte z vs (.int 0) → CHr Z EL vm0 h T'.vm h' → Go p e below F (T'.setTop (mkF m q Ls (.ref a :: S)))) : Go p e below F (T.setTop (mkF m pc Ls S)) := by
  subst hq
  obtain ⟨hx, hZ, hby, hml, hown, hnm, hret, hlk⟩ := C
  obtain ⟨a, T', h', k1, b, k, X1, e1, E1, S1, K1, Z1, O1, f1, f2, f3, f4, -, -, H1, -, -, st⟩ := ldcCH X hx hZ hown w wS eT hS hk hEL hmem H ht hz hl (g := mkF m pc Ls S) rfl (hb hby hd) hn hbig hc hl'
  exact of st (K a T' h' k1 b k X1 ⟨hx, Z1, hby, hml, O1, hnm, hret, hlk⟩ e1 E1 S1 K1 f1 f2 f3 f4 H1)
theorem callSW {vm0 : Vm} {EL : List (String × Nat)} (X : Stand p l e R (s.setVm vm0) m args below meth c T locs cells slots) (C : Cx p (s.setVm vm0) m meth c Z bytes maxL own mname ret) {y : MethodName} {i : Nat} {yb : ByteArray} {ym : Nat} {yr : Option FieldType} (w1 : (Jvm.Cond.methodLink own i y).before a0 Z = true) (w2 : (Jvm.Cond.static y).before a0 Z = true) (w3 : (Jvm.Cond.initialized y.cls).before a0 Z = true) (w4 : (Jvm.Cond.code y yb ym yr).before a0 Z = true) (hy : y.cls ≠ "java/lang/invoke/MethodHandle" ∧ y.cls ≠ "java/lang/invoke/VarHandle")
    {rm : Room} {as' : Array Value} {Q : Option Value → Heap → List Loc → Prop} (hM : MetFree l y (head1 [Jvm.Cond.code y yb ym yr] rm) (fun a U => a = as' ∧ Z.Warmed39 U.vm ∧ U.heap = h ∧ CHv Z EL U.vm h) (fun _ _ _ _ _ => True) (fun _ U o U' => ∃ v L, o = .returned v ∧ Q v U'.heap L ∧ CHr Z EL U.vm U.heap U'.vm U'.heap ∧ ReturnedEndW U o U' L rm.cells rm.slots))
    (eT : T.heap = h) {k0 : Nat} (hS : s.Since vm0 k0) (hk : k0 ≤ h.size) (hEL : EW Z a0 EL) (H : CHv Z EL vm0 h) (hd : decode bytes pc = .ok (.invokestatic i, 3)) (argsL : List Value) (rest : List Value) (hSt : S = argsL.reverse ++ rest) (has : as' = argsL.toArray) {ps : List FieldType} {r : Option FieldType} (hpd : parseMethodDescriptor y.desc = some ⟨ps, r⟩) (hlen : argsL.length = ps.length) (hsz : Ls.size = maxL)
    (hf : rm.frames + 1 ≤ R.frames) (hl : (rest.map fun v => v.category).sum + (ym + 11) + rm.locals ≤ R.locals) (hc : cells + rm.cells ≤ R.cells) (hsl : slots + rm.slots ≤ R.slots) (hq : pc + 3 = q)
    (K : ∀ (T' : State) (v : Option Value) (L : List Loc), Stand p l e R (s.setVm T'.vm) m args below meth c T' (locs ++ L) (cells + rm.cells) (slots + rm.slots) → Cx p (s.setVm T'.vm) m meth c Z bytes maxL own mname ret → s.Since T'.vm T'.heap.size → h.size ≤ T'.heap.size → Q v T'.heap L → CHr Z EL vm0 h T'.vm T'.heap → Go p e below F (T'.setTop (mkF m q Ls (v.toList ++ rest)))) : Go p e below F (T.setTop (mkF m pc Ls S)) := by
  subst hq hSt has
  obtain ⟨hx, hZ, hby, hml, hown, hnm, hret, hlk⟩ := C
  have hcode : (Jvm.Cond.code y yb ym yr).before args (s.setVm vm0) = true := mvT hZ w4
  obtain ⟨mk, hnamed⟩ := Cond.named_of_code (x := y) hcode
  obtain ⟨methM, cM, hmethM, -, -, -, -, -, -, hsig⟩ := Cond.code_spec hnamed hcode
  obtain ⟨v, _, ⟨T1, L1, k1, n1⟩, -, X1, S1, G1, ⟨Lc, hQ, l1, y1, z1, H1⟩, st⟩ := X.staticBackS hx hown (mvT hZ w1) (mvT hZ w2) (mvT hZ w3) hnamed hmethM hsig hy (backOfSH (W := (rest.map fun v => v.category).sum) hM hZ w4 w3 hf hl hEL H) (g := mkF m pc Ls (argsL.reverse ++ rest)) rfl (by rw [hml]; exact hsz) (Steps.refl _) (argsL := argsL) (rest := rest) (lenOf hpd hlen) rfl (by show 2 * 0 + _ ≤ _; omega) (hb hby hd) (fun _ _ => ⟨rfl, eT, hc, hsl⟩)
  dsimp only [Pt.U, Pt.locs, Pt.cells, Pt.slots] at X1 S1 G1 l1 y1 z1 st hQ H1
  subst l1 y1 z1
  rw [eT] at G1
  have S2 : s.Since T1.vm T1.heap.size := hS.trans S1 (Nat.le_trans hk G1)
  exact tr st (K T1 v Lc X1 ⟨hx, State.Warmed39.trans (t := s.setVm vm0) hZ S1.1, hby, hml, by rw [show (s.setVm T1.vm).vm = T1.vm from rfl, S1.1.alike.findClass]; exact hown, hnm, hret, hlk⟩ S2 G1 hQ H1)
theorem bodyOfH {EL : List (String × Nat)} {y : MethodName} {ws : List Jvm.Cond} {rm : Room} {as : Array Value} {Q : Option Value → Heap → List Loc → Prop} (hp : plainFor y = true) (hef : ∀ m, entryFrame m as maxL = mkF m 0 Ls [])
    (body : ∀ p e s m below meth c s₁, Cx p (s.setVm s.vm) m meth c Z bytes maxL y.cls y.name ret → Stand p l e rm (s.setVm s.vm) m as below meth c s₁ [] 0 0 → s₁.heap = h0 → s.heap = h0 → CHv Z EL s.vm h0 → s.Since s.vm 0 → Go p e below (PostH s Z EL Q rm.cells rm.slots) (s₁.setTop (mkF m 0 Ls []))) :
    MetFree l y (head1 (Jvm.Cond.code y bytes maxL ret :: ws) rm) (fun a U => a = as ∧ Z.Warmed39 U.vm ∧ U.heap = h0 ∧ CHv Z EL U.vm h0) (fun _ _ _ _ _ => True) (fun _ U o U' => ∃ v L, o = .returned v ∧ Q v U'.heap L ∧ CHr Z EL U.vm U.heap U'.vm U'.heap ∧ ReturnedEndW U o U' L rm.cells rm.slots) := by
  refine MetFree.of_bodySF hp hisR ?_
  intro p e s m args below meth c s₁ Bd hml0 hP hK
  obtain ⟨rfl, hZ, hh, hH⟩ := hP
  obtain ⟨s₂, o, h1, h2⟩ := body p e s m below meth c s₁ ⟨Bd.exec, hZ, Bd.bytes, hml0, findClass_of_methodNamed Bd.named, (name_of_methodNamed Bd.named Bd.method).1, Bd.returns, Bd.notSynchronized⟩ (Stand.of_body Bd) (by rw [← hh, Bd.state]; rfl) hh hH ((State.WarmedH.refl s).since 0)
  exact ⟨s₂, o, castTop (hef m) h1, h2⟩
theorem retAH {vm0 : Vm} {EL : List (String × Nat)} (X : Stand p l e R (s.setVm vm0) m args below meth c T locs cells slots) {t : FieldType} (C : Cx p (s.setVm vm0) m meth c Z bytes maxL own mname (some t)) (ht : t.isReference = true) (eT : T.heap = h) {z : Value} (hz : z.isRef = true) (hd : decode bytes pc = .ok (.areturn, 1)) {k n : Nat} (hk : cells ≤ k) (hn : slots ≤ n) {k0 : Nat} (hS : s.Since vm0 k0) (hk0 : k0 ≤ h.size) (hEL : EW Z a0 EL) (H : CHr Z EL s.vm s.heap vm0 h) {Q : Option Value → Heap → List Loc → Prop} (hQ : Q (some z) h locs) :
    Go p e below (PostH s Z EL Q k n) (T.setTop (mkF m pc Ls (z :: rest))) := by
  have HT := CHv.at X C.2.1 hEL H.1
  obtain ⟨hx, hZ, hby, hml, hown, hnm, hret, hlk⟩ := C
  obtain ⟨fs, hr, hrun, hended, hr2, hW, hin, hsame⟩ := X.leaveW hS (by rw [eT]; exact hk0) (v := some z) (fun h => by rw [hret] at h; cases h)
  refine ⟨_, _, ?_, hrun, hended, _, _, rfl, ?_, ?_, hr2, hW, hin, hsame.mono hk hn⟩
  · have hm' : T.vm.method? m = some meth := X.method'
    have hd' := hb hby hd
    show Steps p.tables e below (T.setTop { method := m, pc := pc, locals := Ls, stack := _ :: rest, locked := none }) _
    jvm_step X.here [X.here.top, hx, hd', hm', hret, hz, ht]
    first | (intro acts; rw [hr _ acts rfl rfl rfl]) | rw [hr _ _ rfl rfl rfl]
    exact Steps.refl _
  · show Q _ T.heap _
    rw [eT]; exact hQ
  · show CHr Z EL s.vm s.heap T.vm T.heap
    rw [eT]; exact H.trans HT
theorem retVH {vm0 : Vm} {EL : List (String × Nat)} (X : Stand p l e R (s.setVm vm0) m args below meth c T locs cells slots) (C : Cx p (s.setVm vm0) m meth c Z bytes maxL own mname none) (eT : T.heap = h) (hd : decode bytes pc = .ok (.return_, 1)) {k n : Nat} (hk : cells ≤ k) (hn : slots ≤ n) {k0 : Nat} (hS : s.Since vm0 k0) (hk0 : k0 ≤ h.size) (hEL : EW Z a0 EL) (H : CHr Z EL s.vm s.heap vm0 h) {Q : Option Value → Heap → List Loc → Prop} (hQ : Q none h locs) :
    Go p e below (PostH s Z EL Q k n) (T.setTop (mkF m pc Ls [])) := by
  have HT := CHv.at X C.2.1 hEL H.1
  obtain ⟨hx, hZ, hby, hml, hown, hnm, hret, hlk⟩ := C
  obtain ⟨fs, hr, hrun, hended, hr2, hW, hin, hsame⟩ := X.leaveW hS (by rw [eT]; exact hk0) (v := none) (fun _ => rfl)
  refine ⟨_, _, X.returnOut hx hret (hb hby hd) hr, hrun, hended, _, _, rfl, ?_, ?_, hr2, hW, hin, hsame.mono hk hn⟩
  · show Q _ T.heap _
    rw [eT]; exact hQ
  · show CHr Z EL s.vm s.heap T.vm T.heap
    rw [eT]; exact H.trans HT
theorem ldcH {vm0 : Vm} {EL : List (String × Nat)} (X : Stand p l e R (s.setVm vm0) m args below meth c T locs cells slots) (C : Cx p (s.setVm vm0) m meth c Z bytes maxL own mname ret) {i : Nat} {text : String} (w : (Jvm.Cond.stringLink own i text).before a0 Z = true) (wS : ∀ a ∈ Bundle.stringAtoms, a.before a0 Z = true) (eT : T.heap = h) {k0 : Nat} (hS : s.Since vm0 k0) (hk : k0 ≤ h.size) (hEL : EW Z a0 EL) (H : CHv Z EL vm0 h) (hd : decode bytes pc = .ok (.ldc i, 2)) (n : Nat) (hn : 4 * text.toList.length ≤ n) (hbig : n ≤ 536870912) (hc : cells + 2 ≤ R.cells) (hl' : slots + (n + 4) ≤ R.slots) (hq : pc + 2 = q)
    (K : ∀ (a : Addr) (T' : State) (h' : Heap) (k1 : Nat), Stand p l e R (s.setVm T'.vm) m args below meth c T' locs (cells + 2) (slots + (n + 4)) → Cx p (s.setVm T'.vm) m meth c Z bytes maxL own mname ret → T'.heap = h' → Ext h h' → s.Since T'.vm k1 → k1 ≤ h'.size → CHr Z EL vm0 h T'.vm h' → Go p e below F (T'.setTop (mkF m q Ls (.ref a :: S)))) : Go p e below F (T.setTop (mkF m pc Ls S)) := by
  subst hq
  obtain ⟨hx, hZ, hby, hml, hown, hnm, hret, hlk⟩ := C
  obtain ⟨a, T', h', k1, X1, e1, E1, S1, K1, Z1, O1, H1, -, st⟩ := ldcOH X hx hZ hown w wS eT hS hk hEL H (g := mkF m pc Ls S) rfl (hb hby hd) hn hbig hc hl'
  exact of st (K a T' h' k1 X1 ⟨hx, Z1, hby, hml, O1, hnm, hret, hlk⟩ e1 E1 S1 K1 H1)
theorem callIW {vm0 : Vm} {EL : List (String × Nat)} (X : Stand p l e R (s.setVm vm0) m args below meth c T locs cells slots) (C : Cx p (s.setVm vm0) m meth c Z bytes maxL own mname ret) {y : MethodName} {i : Nat} {yb : ByteArray} {ym : Nat} (hy1 : y.name = "<init>") (w1 : (Jvm.Cond.methodLink own i y).before a0 Z = true) (w2 : (Jvm.Cond.instanceMethod y).before a0 Z = true) (w3 : (Jvm.Cond.initialized y.cls).before a0 Z = true) (w4 : (Jvm.Cond.code y yb ym none).before a0 Z = true) (hy : y.cls ≠ "java/lang/invoke/MethodHandle" ∧ y.cls ≠ "java/lang/invoke/VarHandle")
    {rm : Room} {as' : Array Value} {Q : Option Value → Heap → List Loc → Prop} (hM : MetFree l y (head1 [Jvm.Cond.code y yb ym none] rm) (fun a U => a = as' ∧ Z.Warmed39 U.vm ∧ U.heap = h ∧ CHv Z EL U.vm h) (fun _ _ _ _ _ => True) (fun _ U o U' => ∃ v L, o = .returned v ∧ Q v U'.heap L ∧ CHr Z EL U.vm U.heap U'.vm U'.heap ∧ ReturnedEndW U o U' L rm.cells rm.slots))
    (eT : T.heap = h) {k0 : Nat} (hS : s.Since vm0 k0) (hk : k0 ≤ h.size) (hEL : EW Z a0 EL) (H : CHv Z EL vm0 h) (hd : decode bytes pc = .ok (.invokespecial i, 3)) {a : Addr} (argsL : List Value) (rest : List Value) (hSt : S = argsL.reverse ++ .ref a :: rest) (has : as' = (.ref a :: argsL).toArray) {ps : List FieldType} {r : Option FieldType} (hpd : parseMethodDescriptor y.desc = some ⟨ps, r⟩) (hlen : argsL.length = ps.length) (hsz : Ls.size = maxL)
    (hf : rm.frames + 1 ≤ R.frames) (hl : (rest.map fun v => v.category).sum + (ym + 11) + rm.locals ≤ R.locals) (hc : cells + rm.cells ≤ R.cells) (hsl : slots + rm.slots ≤ R.slots) (hq : pc + 3 = q)
    (K : ∀ (T' : State) (v : Option Value) (L : List Loc), Stand p l e R (s.setVm T'.vm) m args below meth c T' (locs ++ L) (cells + rm.cells) (slots + rm.slots) → Cx p (s.setVm T'.vm) m meth c Z bytes maxL own mname ret → s.Since T'.vm T'.heap.size → h.size ≤ T'.heap.size → Q v T'.heap L → CHr Z EL vm0 h T'.vm T'.heap → Go p e below F (T'.setTop (mkF m q Ls (v.toList ++ rest)))) : Go p e below F (T.setTop (mkF m pc Ls S)) := by
  subst hq hSt has
  obtain ⟨hx, hZ, hby, hml, hown, hnm, hret, hlk⟩ := C
  obtain ⟨v, _, ⟨T1, L1, k1, n1⟩, -, X1, S1, G1, ⟨Lc, hQ, l1, y1, z1, H1⟩, st⟩ := X.specialBackS hx hy1 hown (mvT hZ w1) (mvT hZ w2) (mvT hZ w4) hy (backOfSH (W := (rest.map fun v => v.category).sum) hM hZ w4 w3 hf hl hEL H) (g := mkF m pc Ls (argsL.reverse ++ .ref a :: rest)) rfl (by rw [hml]; exact hsz) (Steps.refl _) (a := a) (argsL := argsL) (rest := rest) (lenOf hpd hlen) rfl (by show 2 * 0 + _ ≤ _; omega) (hb hby hd) (fun _ _ => ⟨rfl, eT, hc, hsl⟩)
  dsimp only [Pt.U, Pt.locs, Pt.cells, Pt.slots] at X1 S1 G1 l1 y1 z1 st hQ H1
  subst l1 y1 z1
  rw [eT] at G1
  exact tr st (K T1 v Lc X1 ⟨hx, State.Warmed39.trans (t := s.setVm vm0) hZ S1.1, hby, hml, by rw [show (s.setVm T1.vm).vm = T1.vm from rfl, S1.1.alike.findClass]; exact hown, hnm, hret, hlk⟩ (hS.trans S1 (Nat.le_trans hk G1)) G1 hQ H1)
theorem bodyOfHW {EL : List (String × Nat)} {y : MethodName} {ws : List Jvm.Cond} {rm : Room} {as : Array Value} {Q : Option Value → Heap → List Loc → Prop} (hp : plainFor y = true) (hef : ∀ m, entryFrame m as maxL = mkF m 0 Ls [])
    (body : ∀ p e s m below meth c s₁, Cx p (s.setVm s.vm) m meth c Z bytes maxL y.cls y.name ret → Stand p l e rm (s.setVm s.vm) m as below meth c s₁ [] 0 0 → s₁.heap = h0 → s.heap = h0 → CHv Z EL s.vm h0 → s.Since s.vm 0 → Go p e below (PostW s Q rm.cells rm.slots) (s₁.setTop (mkF m 0 Ls []))) :
    MetFree l y (head1 (Jvm.Cond.code y bytes maxL ret :: ws) rm) (fun a U => a = as ∧ Z.Warmed39 U.vm ∧ U.heap = h0 ∧ CHv Z EL U.vm h0) (fun _ _ _ _ _ => True) (fun _ U o U' => ∃ v L, o = .returned v ∧ Q v U'.heap L ∧ ReturnedEndW U o U' L rm.cells rm.slots) := by
  refine MetFree.of_bodySF hp hisR ?_
  intro p e s m args below meth c s₁ Bd hml0 hP hK
  obtain ⟨rfl, hZ, hh, hH⟩ := hP
  obtain ⟨s₂, o, h1, h2⟩ := body p e s m below meth c s₁ ⟨Bd.exec, hZ, Bd.bytes, hml0, findClass_of_methodNamed Bd.named, (name_of_methodNamed Bd.named Bd.method).1, Bd.returns, Bd.notSynchronized⟩ (Stand.of_body Bd) (by rw [← hh, Bd.state]; rfl) hh hH ((State.WarmedH.refl s).since 0)
  exact ⟨s₂, o, castTop (hef m) h1, h2⟩
theorem keepRefl (h : Heap) : Keep h h [] := Keep.refl h []
/-! kinds of objects -/
theorem nsRoot {O Kn : String} {n : Nat} (w : (Jvm.Cond.noSuperclass O).before a0 Z = true) (wi : (Jvm.Cond.instantiable Kn n).before a0 Z = true) (hn : O ≠ Kn) : NS Z O Kn := by
  obtain ⟨c, k, h1, h2, h3, -, -⟩ := Cond.noSuperclass_spec w
  obtain ⟨t, k2, g1, -⟩ := Cond.instantiable_spec wi
  have ne := ids_ne h1 g1 hn
  refine ⟨c, t, h1, g1, fun fuel => ?_⟩
  cases fuel with
  | zero => rfl
  | succ f => simp [Vm.isSubclassAux, ne, h2, h3]
theorem nsNo {Cn S Kn : String} {n : Nat} (w : (Jvm.Cond.superclass Cn S).before a0 Z = true) (wi : (Jvm.Cond.instantiable Kn n).before a0 Z = true) (nn : NS Z Cn Kn) (hn : Cn ≠ Kn) : ∃ c t, Z.vm.findClass Cn = some c ∧ Z.vm.findClass Kn = some t ∧ Z.vm.assignable c t = false := by
  obtain ⟨c, t, h0, g0, n3⟩ := nn
  obtain ⟨p, k, kp, h1, h2, h3, h4, h5, -, h7⟩ := Cond.superclass_spec h0 w
  obtain ⟨t', k', g1, g2, g5, g6, -⟩ := Cond.instantiable_spec wi
  cases g0.symm.trans g1
  have g7 : k'.isInterface = false := (Bool.or_eq_false_iff.mp g6).1
  have ne := ids_ne h0 g0 hn
  refine ⟨c, t, h0, g0, ?_⟩
  show Z.vm.assignableAux (255 + 1) c t = false
  simp [Vm.assignableAux, ne, h2, g2, h5, g5, g7, Vm.isSubclass, n3]
theorem cast (X : Stand p l e R s m args below meth c T locs cells slots) (C : Cx p s m meth c Z bytes maxL own mname ret) {i : Nat} {Kn : String} (w : (Jvm.Cond.classLink own i Kn).before a0 Z = true) (eT : T.heap = h) {a : Addr} (I : Ins Z h a Kn true) (hd : decode bytes pc = .ok (.checkcast i, 3)) (hq : pc + 3 = q)
    (K : ∀ (T' : State), Stand p l e R s m args below meth c T' locs cells slots → T'.heap = h → Go p e below F (T'.setTop (mkF m q Ls (.ref a :: S)))) : Go p e below F (T.setTop (mkF m pc Ls (.ref a :: S))) := by
  subst hq
  obtain ⟨T1, X1, e1, st⟩ := castY X C.1 C.2.1 C.2.2.2.2.1 w eT I (g := mkF m pc Ls (.ref a :: S)) rfl rfl (hb C.2.2.1 hd)
  exact of st (K T1 X1 e1)
theorem inst1 (X : Stand p l e R s m args below meth c T locs cells slots) (C : Cx p s m meth c Z bytes maxL own mname ret) {i : Nat} {Kn : String} (w : (Jvm.Cond.classLink own i Kn).before a0 Z = true) (eT : T.heap = h) {a : Addr} (I : Ins Z h a Kn true) (hd : decode bytes pc = .ok (.instanceof i, 3)) (hq : pc + 3 = q)
    (K : ∀ (T' : State), Stand p l e R s m args below meth c T' locs cells slots → T'.heap = h → Go p e below F (T'.setTop (mkF m q Ls (.int 1 :: S)))) : Go p e below F (T.setTop (mkF m pc Ls (.ref a :: S))) := by
  subst hq
  obtain ⟨T1, X1, e1, st⟩ := instY X C.1 C.2.1 C.2.2.2.2.1 w eT I (g := mkF m pc Ls (.ref a :: S)) rfl rfl (hb C.2.2.1 hd)
  exact of st (K T1 X1 e1)
theorem inst0 (X : Stand p l e R s m args below meth c T locs cells slots) (C : Cx p s m meth c Z bytes maxL own mname ret) {i : Nat} {Kn Cn : String} (w : (Jvm.Cond.classLink own i Kn).before a0 Z = true) (eT : T.heap = h) {a : Addr} (E : Exa Z h a Cn) (N : ∃ c t, Z.vm.findClass Cn = some c ∧ Z.vm.findClass Kn = some t ∧ Z.vm.assignable c t = false) (hd : decode bytes pc = .ok (.instanceof i, 3)) (hq : pc + 3 = q)
    (K : ∀ (T' : State), Stand p l e R s m args below meth c T' locs cells slots → T'.heap = h → Go p e below F (T'.setTop (mkF m q Ls (.int 0 :: S)))) : Go p e below F (T.setTop (mkF m pc Ls (.ref a :: S))) := by
  subst hq
  obtain ⟨T1, X1, e1, st⟩ := instNo X C.1 C.2.1 C.2.2.2.2.1 w eT E N (g := mkF m pc Ls (.ref a :: S)) rfl rfl (hb C.2.2.1 hd)
  exact of st (K T1 X1 e1)
theorem instNull (X : Stand p l e R s m args below meth c T locs cells slots) (C : Cx p s m meth c Z bytes maxL own mname ret) {i : Nat} (hd : decode bytes pc = .ok (.instanceof i, 3)) (hq : pc + 3 = q) (K : Go p e below F (T.setTop (mkF m q Ls (.int 0 :: S)))) : Go p e below F (T.setTop (mkF m pc Ls (.null :: S))) := by
  subst hq; exact of (X.instanceofNull C.1 (g := mkF m pc Ls (.null :: S)) rfl rfl (hb C.2.2.1 hd)) K
theorem castNull (X : Stand p l e R s m args below meth c T locs cells slots) (C : Cx p s m meth c Z bytes maxL own mname ret) {i : Nat} (hd : decode bytes pc = .ok (.checkcast i, 3)) (hq : pc + 3 = q) (K : Go p e below F (T.setTop (mkF m q Ls (.null :: S)))) : Go p e below F (T.setTop (mkF m pc Ls (.null :: S))) := by
  subst hq; exact of (X.checkcastNull C.1 (g := mkF m pc Ls (.null :: S)) rfl rfl (hb C.2.2.1 hd)) K
theorem acmp (X : Stand p l e R s m args below meth c T locs cells slots) (C : Cx p s m meth c Z bytes maxL own mname ret) {cd : ACond} {o : Int} {x y : Value} (h1 : x.isRef = true) (h2 : y.isRef = true) {same : Bool} (hs : decide (x = y) = same) (hd : decode bytes pc = .ok (.if_acmp cd o, 3)) (ho : 0 ≤ (pc : Int) + o) (hq : q = if acV cd same = true then ((pc : Int) + o).toNat else pc + 3) (K : Go p e below F (T.setTop (mkF m q Ls S))) : Go p e below F (T.setTop (mkF m pc Ls (y :: x :: S))) :=
  of (fun t k => Jvm.RoadKit.acmp (g := mkF m pc Ls (y :: x :: S)) X C.1 rfl h1 h2 rfl (hb C.2.2.1 hd) rfl hs ho hq k) K
end
end W
end Jvm.Pilot.@@N@@
namespace Jvm.Pilot.@@N@@
open Jvm Jvm.ClassFile Sem Op Lib Jvm.Free Jvm.Stand Jvm.LawKit Jvm.RoadKit Bundle Jvm.Pilot.@@N@@.Jvm.D
def own_n (k : Int32) : Int32 := if k.toInt < 0 then 0 else 1
def own_str (Z : State) (h : Heap) (a : Addr) (k : Int32) : Prop := ∃ (b : Addr) (kb : ClassId) (x : Int32), Exa Z h a "java/lang/String" ∧ Fld Z h a "java/lang/String" "coder" "B" (.int (0 : Int32)) ∧ Fld Z h a "java/lang/String" "value" "[B" (.ref b) ∧ (k = -1 ∧ Arv Z h b kb .byte (0 : Int32) [] (.int (0 : Int32)) ∨ 0 ≤ k.toInt ∧ x = (k.toInt8.toInt32).toInt8.toInt32 ∧ Arv Z h b kb .byte (1 : Int32) [.int x] (.int (0 : Int32)))
theorem own_str.ext {Z : State} {h h' : Heap} {a : Addr} {k : Int32} (F : own_str Z h a k) (E : Ext h h') : own_str Z h' a k := by
  obtain ⟨b, kb, x, f1, f2, f3, f4⟩ := F
  refine ⟨b, kb, x, f1.ext E, f2.ext E, f3.ext E, ?_⟩
  rcases f4 with ⟨q, V⟩ | ⟨q, r, V⟩
  · exact Or.inl ⟨q, V.ext E⟩
  · exact Or.inr ⟨q, r, V.ext E⟩
theorem own_str.keep0 {Z : State} {h h' : Heap} {a : Addr} {k : Int32} (F : own_str Z h a k) (K : Keep h h' []) : own_str Z h' a k := by
  obtain ⟨b, kb, x, f1, f2, f3, f4⟩ := F
  refine ⟨b, kb, x, f1.keep K, f2.keep K nin0, f3.keep K nin0, ?_⟩
  rcases f4 with ⟨q, V⟩ | ⟨q, r, V⟩
  · exact Or.inl ⟨q, V.keep K nin0⟩
  · exact Or.inr ⟨q, r, V.keep K nin0⟩
theorem own_str.keep1 {Z : State} {a0 : Array Value} {h h' : Heap} {a p : Addr} {k : Int32} {n : Nat} {D : String} (F : own_str Z h a k) (K : Keep h h' [p]) (E : Exa Z h p D) (w : (Jvm.Cond.instantiable D n).before a0 Z = true) (hD : "java/lang/String" ≠ D) : own_str Z h' a k := by
  obtain ⟨b, kb, x, f1, f2, f3, f4⟩ := F
  have na : a ∉ [p] := ninS (f1.ne E hD) nin0
  refine ⟨b, kb, x, f1.keep K, f2.keep K na, f3.keep K na, ?_⟩
  rcases f4 with ⟨q, V⟩ | ⟨q, r, V⟩
  · exact Or.inl ⟨q, V.keep K (ninS (Ne.symm (E.neArv V w)) nin0)⟩
  · exact Or.inr ⟨q, r, V.keep K (ninS (Ne.symm (E.neArv V w)) nin0)⟩
theorem own_fdet {Z : State} {h : Heap} {a : Addr} {D n d : String} {v w : Value} (F : Fld Z h a D n d v) (G : Fld Z h a D n d w) : v = w := by
  obtain ⟨c1, _, _, _, f1, q1, q2, -, -, -, -, q3⟩ := F
  obtain ⟨c2, _, _, _, f2, r1, r2, -, -, -, -, r3⟩ := G
  cases q1.symm.trans r1; cases q2.symm.trans r2; exact Option.some.inj (q3.symm.trans r3)
def own_key (x : Int32) : Int32 := if (x &&& (256 : Int32)) = 0 then x &&& (255 : Int32) else -1
def own_pick (x : Int64) (i : Int32) : Int32 := own_key ((((x.toUInt64 >>> (((9 : Int32) * i) &&& 0x3f).toInt64.toUInt64).toInt64) &&& (511 : Int64)).toInt32)
def own_oth (ka : Int32) (b : Int64) (cp i : Int32) : Int32 := if (((cp.toUInt32 >>> (i &&& 31).toUInt32).toInt32) &&& (1 : Int32)) = 0 then own_pick b i else ka
theorem d2_0 : decode method_2_code 0 = .ok (.iload_n 0, 1) := by decide +kernel
theorem d2_1 : decode method_2_code 1 = .ok (.sipush 256, 3) := by decide +kernel
theorem d2_4 : decode method_2_code 4 = .ok (.iand, 1) := by decide +kernel
theorem d2_5 : decode method_2_code 5 = .ok (.ifCond .eq 5, 3) := by decide +kernel
theorem d2_10 : decode method_2_code 10 = .ok (.iload_n 0, 1) := by decide +kernel
theorem d2_11 : decode method_2_code 11 = .ok (.sipush 255, 3) := by decide +kernel
theorem d2_14 : decode method_2_code 14 = .ok (.iand, 1) := by decide +kernel
theorem d2_15 : decode method_2_code 15 = .ok (.ireturn, 1) := by decide +kernel
theorem d2_8 : decode method_2_code 8 = .ok (.iconst (-1), 1) := by decide +kernel
theorem d2_9 : decode method_2_code 9 = .ok (.ireturn, 1) := by decide +kernel
theorem pn_com_example_cranfield_cranfield_formats_PreferenceJudgmentEqualsPinLaw : plainName "com/example/cranfield/cranfield/formats/PreferenceJudgmentEqualsPinLaw" = true := by first | (simp [plainName, overriddenIn]; done) | decide +kernel
def Q2 (Z : State) (p0 : Int32) (h0 : Heap) (n0 : Nat) (v : Option Value) (h : Heap) (L : List Loc) : Prop := v = some (.int (own_key p0)) ∧ Fr n0 L ∧ h = h0
set_option maxRecDepth 65536 in
set_option maxHeartbeats 40000000 in
theorem rm2 (l : Launch) (Z : State) (a0 : Array Value) (hw : ∀ d ∈ tables_1, d.before a0 Z = true) (ws : List Jvm.Cond) (p0 : Int32) (h0 : Heap) (n0 : Nat) :
    MetFree l (⟨"com/example/cranfield/cranfield/formats/PreferenceJudgmentEqualsPinLaw", "key", "(I)I"⟩ : MethodName) (head1 (Jvm.Cond.code (⟨"com/example/cranfield/cranfield/formats/PreferenceJudgmentEqualsPinLaw", "key", "(I)I"⟩ : MethodName) method_2_code 1 (some .int) :: ws) ({ frames := 0, cells := 0, slots := 0, locals := 0 } : Room)) (fun a U => a = #[(.int p0)] ∧ Z.Warmed39 U.vm ∧ U.heap = h0) (fun _ _ _ _ _ => True) (fun _ U o U' => ∃ v L, o = .returned v ∧ Q2 Z p0 h0 n0 v U'.heap L ∧ FrameEnd U o U' L ({ frames := 0, cells := 0, slots := 0, locals := 0 } : Room).cells ({ frames := 0, cells := 0, slots := 0, locals := 0 } : Room).slots) := by
  refine W.bodyOf (y := (⟨"com/example/cranfield/cranfield/formats/PreferenceJudgmentEqualsPinLaw", "key", "(I)I"⟩ : MethodName)) (as := #[(.int p0)]) (maxL := 1) (Q := Q2 Z p0 h0 n0) (Ls := #[.val (.int p0)]) (plainFor_of_name pn_com_example_cranfield_cranfield_formats_PreferenceJudgmentEqualsPinLaw) (fun m => by first | exact W.entry_of rfl | rfl | (simp [entryFrame, mkF, argsToLocals, Value.category]; done)) ?_
  intro p e s m below meth c T0 C X0 e0
  have N0 := Fr.nil n0
  refine W.iloadN (q := 1) X0 C d2_0 rfl rfl ?_
  refine W.sipush (q := 4) (v := 256) X0 C d2_1 rfl rfl ?_
  refine W.iand (q := 5) X0 C d2_4 rfl ?_
  refine W.if_ (q := 10) (q' := 8) X0 C d2_5 (by decide) (by decide) rfl (fun hc1 => ?_) (fun hc1 => ?_)
  · replace hc1 : (p0 &&& (256 : Int32)) = 0 := hc1
    refine W.iloadN (q := 11) X0 C d2_10 rfl rfl ?_
    refine W.sipush (q := 14) (v := 255) X0 C d2_11 rfl rfl ?_
    refine W.iand (q := 15) X0 C d2_14 rfl ?_
    exact W.retI X0 C e0 d2_15 (by decide) (by decide) ⟨by rw [own_key, if_pos hc1], N0, rfl⟩
  · replace hc1 : (p0 &&& (256 : Int32)) ≠ 0 := hc1
    refine W.iconst (q := 9) (v := (-1)) X0 C d2_8 rfl rfl ?_
    exact W.retI X0 C e0 d2_9 (by decide) (by decide) ⟨by rw [own_key, if_neg hc1], N0, rfl⟩
theorem d1_0 : decode method_4_code 0 = .ok (.lload_n 0, 1) := by decide +kernel
theorem d1_1 : decode method_4_code 1 = .ok (.bipush 9, 2) := by decide +kernel
theorem d1_3 : decode method_4_code 3 = .ok (.iload_n 2, 1) := by decide +kernel
theorem d1_4 : decode method_4_code 4 = .ok (.imul, 1) := by decide +kernel
theorem d1_5 : decode method_4_code 5 = .ok (.lushr, 1) := by decide +kernel
theorem d1_6 : decode method_4_code 6 = .ok (.ldc2_w 15, 3) := by decide +kernel
theorem d1_9 : decode method_4_code 9 = .ok (.land, 1) := by decide +kernel
theorem d1_10 : decode method_4_code 10 = .ok (.l2i, 1) := by decide +kernel
theorem d1_11 : decode method_4_code 11 = .ok (.invokestatic 17, 3) := by decide +kernel
theorem pd__28I_29I : parseMethodDescriptor "(I)I" = some ⟨[.int], some .int⟩ := by decide +kernel
theorem d1_14 : decode method_4_code 14 = .ok (.ireturn, 1) := by decide +kernel
def Q1 (Z : State) (p0 : Int64) (p1 : Int32) (h0 : Heap) (n0 : Nat) (v : Option Value) (h : Heap) (L : List Loc) : Prop := v = some (.int (own_pick p0 p1)) ∧ Fr n0 L ∧ h = h0
set_option maxRecDepth 65536 in
set_option maxHeartbeats 40000000 in
theorem rm1 (l : Launch) (Z : State) (a0 : Array Value) (hw : ∀ d ∈ tables_1, d.before a0 Z = true) (ws : List Jvm.Cond) (p0 : Int64) (p1 : Int32) (h0 : Heap) (n0 : Nat) :
    MetFree l (⟨"com/example/cranfield/cranfield/formats/PreferenceJudgmentEqualsPinLaw", "pick", "(JI)I"⟩ : MethodName) (head1 (Jvm.Cond.code (⟨"com/example/cranfield/cranfield/formats/PreferenceJudgmentEqualsPinLaw", "pick", "(JI)I"⟩ : MethodName) method_4_code 3 (some .int) :: ws) ({ frames := 1, cells := 0, slots := 0, locals := 16 } : Room)) (fun a U => a = #[(.long p0), (.int p1)] ∧ Z.Warmed39 U.vm ∧ U.heap = h0) (fun _ _ _ _ _ => True) (fun _ U o U' => ∃ v L, o = .returned v ∧ Q1 Z p0 p1 h0 n0 v U'.heap L ∧ FrameEnd U o U' L ({ frames := 1, cells := 0, slots := 0, locals := 16 } : Room).cells ({ frames := 1, cells := 0, slots := 0, locals := 16 } : Room).slots) := by
  refine W.bodyOf (y := (⟨"com/example/cranfield/cranfield/formats/PreferenceJudgmentEqualsPinLaw", "pick", "(JI)I"⟩ : MethodName)) (as := #[(.long p0), (.int p1)]) (maxL := 3) (Q := Q1 Z p0 p1 h0 n0) (Ls := #[.val (.long p0), .second, .val (.int p1)]) (plainFor_of_name pn_com_example_cranfield_cranfield_formats_PreferenceJudgmentEqualsPinLaw) (fun m => by first | exact W.entry_of rfl | rfl | (simp [entryFrame, mkF, argsToLocals, Value.category]; done)) ?_
  intro p e s m below meth c T0 C X0 e0
  have N0 := Fr.nil n0
  refine W.lloadN (q := 1) X0 C d1_0 rfl rfl ?_
  refine W.bipush (q := 3) (v := 9) X0 C d1_1 rfl rfl ?_
  refine W.iloadN (q := 4) X0 C d1_3 rfl rfl ?_
  refine W.imul (q := 5) X0 C d1_4 rfl ?_
  refine W.lushr (q := 6) X0 C d1_5 rfl ?_
  refine W.ldcL (q := 9) X0 C (W.ww hw 4 rfl) d1_6 rfl ?_
  refine W.land (q := 10) X0 C d1_9 rfl ?_
  refine W.l2i (q := 11) X0 C d1_10 rfl ?_
  refine W.callS (q := 14) X0 C (W.ww hw 5 rfl) (W.ww hw 6 rfl) (W.ww hw 2 rfl) (W.ww hw 7 rfl) (by decide) (rm2 l Z a0 hw [] ((((p0.toUInt64 >>> (((9 : Int32) * p1) &&& 0x3f).toInt64.toUInt64).toInt64) &&& (511 : Int64)).toInt32) h0 n0) e0 d1_11 [(.int ((((p0.toUInt64 >>> (((9 : Int32) * p1) &&& 0x3f).toInt64.toUInt64).toInt64) &&& (511 : Int64)).toInt32))] [] rfl rfl pd__28I_29I rfl rfl (by decide) (Nat.le_of_ble_eq_true rfl) (by decide) (by decide) rfl (fun T2 w2 L2 X2 hQ2 => ?_)
  obtain ⟨rfl, NL2, e2⟩ := hQ2
  have N2 := Fr.app N0 NL2
  show W.Go p e below _ (T2.setTop (mkF m 14 #[.val (.long p0), .second, .val (.int p1)] [(.int (own_key ((((p0.toUInt64 >>> (((9 : Int32) * p1) &&& 0x3f).toInt64.toUInt64).toInt64) &&& (511 : Int64)).toInt32)))]))
  exact W.retI X2 C e2 d1_14 (by decide) (by decide) ⟨rfl, N2, rfl⟩
theorem d3_0 : decode method_5_code 0 = .ok (.iload_n 3, 1) := by decide +kernel
theorem d3_1 : decode method_5_code 1 = .ok (.iload 4, 2) := by decide +kernel
theorem d3_3 : decode method_5_code 3 = .ok (.iushr, 1) := by decide +kernel
theorem d3_4 : decode method_5_code 4 = .ok (.iconst 1, 1) := by decide +kernel
theorem d3_5 : decode method_5_code 5 = .ok (.iand, 1) := by decide +kernel
theorem d3_6 : decode method_5_code 6 = .ok (.ifCond .eq 5, 3) := by decide +kernel
theorem d3_11 : decode method_5_code 11 = .ok (.lload_n 1, 1) := by decide +kernel
theorem d3_12 : decode method_5_code 12 = .ok (.iload 4, 2) := by decide +kernel
theorem d3_14 : decode method_5_code 14 = .ok (.invokestatic 23, 3) := by decide +kernel
theorem pd__28JI_29I : parseMethodDescriptor "(JI)I" = some ⟨[.long, .int], some .int⟩ := by decide +kernel
theorem d3_17 : decode method_5_code 17 = .ok (.ireturn, 1) := by decide +kernel
theorem d3_9 : decode method_5_code 9 = .ok (.iload_n 0, 1) := by decide +kernel
theorem d3_10 : decode method_5_code 10 = .ok (.ireturn, 1) := by decide +kernel
def Q3 (Z : State) (p0 : Int32) (p1 : Int64) (p2 p3 : Int32) (h0 : Heap) (n0 : Nat) (v : Option Value) (h : Heap) (L : List Loc) : Prop := v = some (.int (own_oth p0 p1 p2 p3)) ∧ Fr n0 L ∧ h = h0
set_option maxRecDepth 65536 in
set_option maxHeartbeats 40000000 in
theorem rm3 (l : Launch) (Z : State) (a0 : Array Value) (hw : ∀ d ∈ tables_1, d.before a0 Z = true) (ws : List Jvm.Cond) (p0 : Int32) (p1 : Int64) (p2 p3 : Int32) (h0 : Heap) (n0 : Nat) :
    MetFree l (⟨"com/example/cranfield/cranfield/formats/PreferenceJudgmentEqualsPinLaw", "other", "(IJII)I"⟩ : MethodName) (head1 (Jvm.Cond.code (⟨"com/example/cranfield/cranfield/formats/PreferenceJudgmentEqualsPinLaw", "other", "(IJII)I"⟩ : MethodName) method_5_code 5 (some .int) :: ws) ({ frames := 2, cells := 0, slots := 0, locals := 32 } : Room)) (fun a U => a = #[(.int p0), (.long p1), (.int p2), (.int p3)] ∧ Z.Warmed39 U.vm ∧ U.heap = h0) (fun _ _ _ _ _ => True) (fun _ U o U' => ∃ v L, o = .returned v ∧ Q3 Z p0 p1 p2 p3 h0 n0 v U'.heap L ∧ FrameEnd U o U' L ({ frames := 2, cells := 0, slots := 0, locals := 32 } : Room).cells ({ frames := 2, cells := 0, slots := 0, locals := 32 } : Room).slots) := by
  refine W.bodyOf (y := (⟨"com/example/cranfield/cranfield/formats/PreferenceJudgmentEqualsPinLaw", "other", "(IJII)I"⟩ : MethodName)) (as := #[(.int p0), (.long p1), (.int p2), (.int p3)]) (maxL := 5) (Q := Q3 Z p0 p1 p2 p3 h0 n0) (Ls := #[.val (.int p0), .val (.long p1), .second, .val (.int p2), .val (.int p3)]) (plainFor_of_name pn_com_example_cranfield_cranfield_formats_PreferenceJudgmentEqualsPinLaw) (fun m => by first | exact W.entry_of rfl | rfl | (simp [entryFrame, mkF, argsToLocals, Value.category]; done)) ?_
  intro p e s m below meth c T0 C X0 e0
  have N0 := Fr.nil n0
  refine W.iloadN (q := 1) X0 C d3_0 rfl rfl ?_
  refine W.iload (q := 3) X0 C d3_1 rfl rfl ?_
  refine W.iushr (q := 4) X0 C d3_3 rfl ?_
  refine W.iconst (q := 5) (v := 1) X0 C d3_4 rfl rfl ?_
  refine W.iand (q := 6) X0 C d3_5 rfl ?_
  refine W.if_ (q := 11) (q' := 9) X0 C d3_6 (by decide) (by decide) rfl (fun hc3 => ?_) (fun hc3 => ?_)
  · replace hc3 : (((p2.toUInt32 >>> (p3 &&& 31).toUInt32).toInt32) &&& (1 : Int32)) = 0 := hc3
    refine W.lloadN (q := 12) X0 C d3_11 rfl rfl ?_
    refine W.iload (q := 14) X0 C d3_12 rfl rfl ?_
    refine W.callS (q := 17) X0 C (W.ww hw 0 rfl) (W.ww hw 1 rfl) (W.ww hw 2 rfl) (W.ww hw 3 rfl) (by decide) (rm1 l Z a0 hw [] p1 p3 h0 n0) e0 d3_14 [(.long p1), (.int p3)] [] rfl rfl pd__28JI_29I rfl rfl (by decide) (Nat.le_of_ble_eq_true rfl) (by decide) (by decide) rfl (fun T4 w4 L4 X4 hQ4 => ?_)
    obtain ⟨rfl, NL4, e4⟩ := hQ4
    have N4 := Fr.app N0 NL4
    show W.Go p e below _ (T4.setTop (mkF m 17 #[.val (.int p0), .val (.long p1), .second, .val (.int p2), .val (.int p3)] [(.int (own_pick p1 p3))]))
    exact W.retI X4 C e4 d3_17 (by decide) (by decide) ⟨by rw [own_oth, if_pos hc3], N4, rfl⟩
  · replace hc3 : (((p2.toUInt32 >>> (p3 &&& 31).toUInt32).toInt32) &&& (1 : Int32)) ≠ 0 := hc3
    refine W.iloadN (q := 10) X0 C d3_9 rfl rfl ?_
    exact W.retI X0 C e0 d3_10 (by decide) (by decide) ⟨by rw [own_oth, if_neg hc3], N0, rfl⟩
theorem d11_0 : decode jdk_31_method_11_code 0 = .ok (.aload_n 0, 1) := by decide +kernel
theorem d11_1 : decode jdk_31_method_11_code 1 = .ok (.ifnonnull 12, 3) := by decide +kernel
theorem d11_13 : decode jdk_31_method_11_code 13 = .ok (.aload_n 0, 1) := by decide +kernel
theorem d11_14 : decode jdk_31_method_11_code 14 = .ok (.areturn, 1) := by decide +kernel
theorem pn_java_util_Objects : plainName "java/util/Objects" = true := by first | (simp [plainName, overriddenIn]; done) | decide +kernel
def Q11 (Z : State) (p0 p1 : Addr) (h0 : Heap) (n0 : Nat) (v : Option Value) (h : Heap) (L : List Loc) : Prop := v = some (.ref p0) ∧ Fr n0 L ∧ h = h0
set_option maxRecDepth 65536 in
set_option maxHeartbeats 40000000 in
theorem rm11 (l : Launch) (Z : State) (a0 : Array Value) (hw : ∀ d ∈ tables_1, d.before a0 Z = true) (ws : List Jvm.Cond) (p0 p1 : Addr) (h0 : Heap) (n0 : Nat) :
    MetFree l (⟨"java/util/Objects", "requireNonNull", "(Ljava/lang/Object;Ljava/lang/String;)Ljava/lang/Object;"⟩ : MethodName) (head1 (Jvm.Cond.code (⟨"java/util/Objects", "requireNonNull", "(Ljava/lang/Object;Ljava/lang/String;)Ljava/lang/Object;"⟩ : MethodName) jdk_31_method_11_code 2 (some (.object "java/lang/Object")) :: ws) ({ frames := 0, cells := 0, slots := 0, locals := 0 } : Room)) (fun a U => a = #[(.ref p0), (.ref p1)] ∧ Z.Warmed39 U.vm ∧ U.heap = h0) (fun _ _ _ _ _ => True) (fun _ U o U' => ∃ v L, o = .returned v ∧ Q11 Z p0 p1 h0 n0 v U'.heap L ∧ FrameEnd U o U' L ({ frames := 0, cells := 0, slots := 0, locals := 0 } : Room).cells ({ frames := 0, cells := 0, slots := 0, locals := 0 } : Room).slots) := by
  refine W.bodyOf (y := (⟨"java/util/Objects", "requireNonNull", "(Ljava/lang/Object;Ljava/lang/String;)Ljava/lang/Object;"⟩ : MethodName)) (as := #[(.ref p0), (.ref p1)]) (maxL := 2) (Q := Q11 Z p0 p1 h0 n0) (Ls := #[.val (.ref p0), .val (.ref p1)]) (plainFor_of_name pn_java_util_Objects) (fun m => by first | exact W.entry_of rfl | rfl | (simp [entryFrame, mkF, argsToLocals, Value.category]; done)) ?_
  intro p e s m below meth c T0 C X0 e0
  have N0 := Fr.nil n0
  refine W.aloadN (q := 1) X0 C d11_0 rfl rfl rfl ?_
  refine W.ifnonnullT (q := 13) X0 C d11_1 (by decide) (by decide) ?_
  refine W.aloadN (q := 14) X0 C d11_13 rfl rfl rfl ?_
  exact W.retA X0 C rfl e0 rfl d11_14 (by decide) (by decide) ⟨rfl, N0, rfl⟩
theorem d6_0 : decode jdk_43_method_3_code 0 = .ok (.iload_n 0, 1) := by decide +kernel
theorem d6_1 : decode jdk_43_method_3_code 1 = .ok (.sipush 255, 3) := by decide +kernel
theorem d6_4 : decode jdk_43_method_3_code 4 = .ok (.if_icmp .gt 7, 3) := by decide +kernel
theorem d6_7 : decode jdk_43_method_3_code 7 = .ok (.iconst 1, 1) := by decide +kernel
theorem d6_8 : decode jdk_43_method_3_code 8 = .ok (.goto 4, 3) := by decide +kernel
theorem d6_12 : decode jdk_43_method_3_code 12 = .ok (.ireturn, 1) := by decide +kernel
theorem pn_java_lang_StringLatin1 : plainName "java/lang/StringLatin1" = true := by first | (simp [plainName, overriddenIn]; done) | decide +kernel
def Q6 (Z : State) (p0 : Int32) (h0 : Heap) (n0 : Nat) (v : Option Value) (h : Heap) (L : List Loc) : Prop := v = some (.int 1) ∧ Fr n0 L ∧ h = h0
set_option maxRecDepth 65536 in
set_option maxHeartbeats 40000000 in
theorem rm6 (l : Launch) (Z : State) (a0 : Array Value) (hw : ∀ d ∈ tables_1, d.before a0 Z = true) (ws : List Jvm.Cond) (p0 : Int32) (h0 : Heap) (n0 : Nat) (hc : p0.toInt ≤ (255 : Int32).toInt) :
    MetFree l (⟨"java/lang/StringLatin1", "canEncode", "(C)Z"⟩ : MethodName) (head1 (Jvm.Cond.code (⟨"java/lang/StringLatin1", "canEncode", "(C)Z"⟩ : MethodName) jdk_43_method_3_code 1 (some .boolean) :: ws) ({ frames := 0, cells := 0, slots := 0, locals := 0 } : Room)) (fun a U => a = #[(.int p0)] ∧ Z.Warmed39 U.vm ∧ U.heap = h0) (fun _ _ _ _ _ => True) (fun _ U o U' => ∃ v L, o = .returned v ∧ Q6 Z p0 h0 n0 v U'.heap L ∧ FrameEnd U o U' L ({ frames := 0, cells := 0, slots := 0, locals := 0 } : Room).cells ({ frames := 0, cells := 0, slots := 0, locals := 0 } : Room).slots) := by
  refine W.bodyOf (y := (⟨"java/lang/StringLatin1", "canEncode", "(C)Z"⟩ : MethodName)) (as := #[(.int p0)]) (maxL := 1) (Q := Q6 Z p0 h0 n0) (Ls := #[.val (.int p0)]) (plainFor_of_name pn_java_lang_StringLatin1) (fun m => by first | exact W.entry_of rfl | rfl | (simp [entryFrame, mkF, argsToLocals, Value.category]; done)) ?_
  intro p e s m below meth c T0 C X0 e0
  have N0 := Fr.nil n0
  refine W.iloadN (q := 1) X0 C d6_0 rfl rfl ?_
  refine W.sipush (q := 4) (v := 255) X0 C d6_1 rfl rfl ?_
  refine W.icmpF (q := 7) X0 C d6_4 rfl (show p0.toInt ≤ (255 : Int32).toInt from hc) ?_
  refine W.iconst (q := 8) (v := 1) X0 C d6_7 rfl rfl ?_
  refine W.goto (q := 12) X0 C d6_8 (by decide) (by decide) ?_
  exact W.retN X0 C (by simp) e0 d6_12 rfl (by decide) (by decide) ⟨rfl, N0, rfl⟩
theorem d7_0 : decode jdk_43_method_46_code 0 = .ok (.iconst 1, 1) := by decide +kernel
theorem d7_1 : decode jdk_43_method_46_code 1 = .ok (.newarray .byte, 2) := by decide +kernel
theorem d7_3 : decode jdk_43_method_46_code 3 = .ok (.dup, 1) := by decide +kernel
theorem d7_4 : decode jdk_43_method_46_code 4 = .ok (.iconst 0, 1) := by decide +kernel
theorem d7_5 : decode jdk_43_method_46_code 5 = .ok (.iload_n 0, 1) := by decide +kernel
theorem d7_6 : decode jdk_43_method_46_code 6 = .ok (.i2b, 1) := by decide +kernel
theorem d7_7 : decode jdk_43_method_46_code 7 = .ok (.bastore, 1) := by decide +kernel
theorem d7_8 : decode jdk_43_method_46_code 8 = .ok (.areturn, 1) := by decide +kernel
def Q7 (Z : State) (p0 : Int32) (h0 : Heap) (n0 : Nat) (v : Option Value) (h : Heap) (L : List Loc) : Prop := ∃ b kb, v = some (.ref b) ∧ Fr n0 L ∧ Keep h0 h [] ∧ Arv Z h b kb .byte (1 : Int32) [.int ((p0.toInt8.toInt32).toInt8.toInt32)] (.int (0 : Int32))
set_option maxRecDepth 65536 in
set_option maxHeartbeats 40000000 in
theorem rm7 (l : Launch) (Z : State) (a0 : Array Value) (hw : ∀ d ∈ tables_1, d.before a0 Z = true) (ws : List Jvm.Cond) (p0 : Int32) (h0 : Heap) (n0 : Nat) (Z0 : n0 ≤ h0.size) :
    MetFree l (⟨"java/lang/StringLatin1", "toBytes", "(C)[B"⟩ : MethodName) (head1 (Jvm.Cond.code (⟨"java/lang/StringLatin1", "toBytes", "(C)[B"⟩ : MethodName) jdk_43_method_46_code 1 (some (.array .byte)) :: ws) ({ frames := 0, cells := 1, slots := 1, locals := 0 } : Room)) (fun a U => a = #[(.int p0)] ∧ Z.Warmed39 U.vm ∧ U.heap = h0) (fun _ _ _ _ _ => True) (fun _ U o U' => ∃ v L, o = .returned v ∧ Q7 Z p0 h0 n0 v U'.heap L ∧ FrameEnd U o U' L ({ frames := 0, cells := 1, slots := 1, locals := 0 } : Room).cells ({ frames := 0, cells := 1, slots := 1, locals := 0 } : Room).slots) := by
  refine W.bodyOf (y := (⟨"java/lang/StringLatin1", "toBytes", "(C)[B"⟩ : MethodName)) (as := #[(.int p0)]) (maxL := 1) (Q := Q7 Z p0 h0 n0) (Ls := #[.val (.int p0)]) (plainFor_of_name pn_java_lang_StringLatin1) (fun m => by first | exact W.entry_of rfl | rfl | (simp [entryFrame, mkF, argsToLocals, Value.category]; done)) ?_
  intro p e s m below meth c T0 C X0 e0
  have N0 := Fr.nil n0
  have K0 := Keep.refl h0 []
  refine W.iconst (q := 1) (v := 1) X0 C d7_0 rfl rfl ?_
  refine W.newarray (q := 3) X0 C (W.ww hw 31 rfl) e0 (by decide) 1 (by decide) (by decide) d7_1 (by decide) (by decide) rfl (fun T5 h5 b5 k5 X5 e5 g5 E5 V5_ => ?_)
  have ge_b5 : n0 ≤ b5 := by rw [g5]; exact Z0
  have sz_b5 : h0.size ≤ b5 := by rw [g5]; exact K0.1
  have n0_5 : n0 ≤ h5.size := Nat.le_trans Z0 E5.1
  have K5 := K0.ext E5
  have V5 : Arv Z h5 b5 k5 .byte (1 : Int32) [(.int (0 : Int32))] (.int (0 : Int32)) := V5_
  refine W.dup (q := 4) X5 C d7_3 rfl rfl ?_
  refine W.iconst (q := 5) (v := 0) X5 C d7_4 rfl rfl ?_
  refine W.iloadN (q := 6) X5 C d7_5 rfl rfl ?_
  refine W.i2b (q := 7) X5 C d7_6 rfl ?_
  refine W.bastore (q := 8) X5 C e5 V5  (by decide) (by decide) (Nat.le_of_ble_eq_true rfl) d7_7 rfl (fun T7 h7 X7 e7 W7 V7_ => ?_)
  have V7 : Arv Z h7 b5 k5 .byte (1 : Int32) [(.int (p0.toInt8.toInt32).toInt8.toInt32)] (.int (0 : Int32)) := V7_
  have N7 := Fr.snoc X7 N0 ge_b5
  have K7 := K5.wr W7 (Or.inr sz_b5)
  have n0_7 : n0 ≤ h7.size := by rw [W7.size]; exact n0_5
  exact W.retA X7 C rfl e7 rfl d7_8 (by decide) (by decide) ⟨_, _, rfl, N7, K7, V7⟩
theorem d8_0 : decode jdk_42_method_151_code 0 = .ok (.aload_n 0, 1) := by decide +kernel
theorem d8_1 : decode jdk_42_method_151_code 1 = .ok (.invokespecial 1, 3) := by decide +kernel
theorem d8_4 : decode jdk_42_method_151_code 4 = .ok (.aload_n 0, 1) := by decide +kernel
theorem d8_5 : decode jdk_42_method_151_code 5 = .ok (.aload_n 1, 1) := by decide +kernel
theorem d8_6 : decode jdk_42_method_151_code 6 = .ok (.putfield 9, 3) := by decide +kernel
theorem d8_9 : decode jdk_42_method_151_code 9 = .ok (.aload_n 0, 1) := by decide +kernel
theorem d8_10 : decode jdk_42_method_151_code 10 = .ok (.iload_n 2, 1) := by decide +kernel
theorem d8_11 : decode jdk_42_method_151_code 11 = .ok (.putfield 15, 3) := by decide +kernel
theorem d8_14 : decode jdk_42_method_151_code 14 = .ok (.return_, 1) := by decide +kernel
theorem pn_java_lang_String : plainName "java/lang/String" = true := by first | (simp [plainName, overriddenIn]; done) | decide +kernel
def Q8 (Z : State) (p0 p1 : Addr) (h0 : Heap) (n0 : Nat) (v : Option Value) (h : Heap) (L : List Loc) : Prop := v = none ∧ Fr n0 L ∧ Keep h0 h [p0] ∧ Exa Z h p0 "java/lang/String" ∧ Fld Z h p0 "java/lang/String" "coder" "B" (.int (0 : Int32)) ∧ Fld Z h p0 "java/lang/String" "value" "[B" (.ref p1)
set_option maxRecDepth 65536 in
set_option maxHeartbeats 40000000 in
theorem rm8 (l : Launch) (Z : State) (a0 : Array Value) (hw : ∀ d ∈ tables_1, d.before a0 Z = true) (ws : List Jvm.Cond) (p0 p1 : Addr) (h0 : Heap) (n0 : Nat) (Z0 : n0 ≤ h0.size) (hge : n0 ≤ p0) (E0 : Exa Z h0 p0 "java/lang/String") (F0a : Fld Z h0 p0 "java/lang/String" "value" "[B" .null) (F0b : Fld Z h0 p0 "java/lang/String" "coder" "B" (.int (0 : Int32))) :
    MetFree l (⟨"java/lang/String", "<init>", "([BB)V"⟩ : MethodName) (head1 (Jvm.Cond.code (⟨"java/lang/String", "<init>", "([BB)V"⟩ : MethodName) jdk_42_method_151_code 3 none :: ws) ({ frames := 1, cells := 0, slots := 0, locals := 12 } : Room)) (fun a U => a = #[(.ref p0), (.ref p1), (.int (0 : Int32))] ∧ Z.Warmed39 U.vm ∧ U.heap = h0) (fun _ _ _ _ _ => True) (fun _ U o U' => ∃ v L, o = .returned v ∧ Q8 Z p0 p1 h0 n0 v U'.heap L ∧ FrameEnd U o U' L ({ frames := 1, cells := 0, slots := 0, locals := 12 } : Room).cells ({ frames := 1, cells := 0, slots := 0, locals := 12 } : Room).slots) := by
  refine W.bodyOf (y := (⟨"java/lang/String", "<init>", "([BB)V"⟩ : MethodName)) (as := #[(.ref p0), (.ref p1), (.int (0 : Int32))]) (maxL := 3) (Q := Q8 Z p0 p1 h0 n0) (Ls := #[.val (.ref p0), .val (.ref p1), .val (.int (0 : Int32))]) (plainFor_of_name pn_java_lang_String) (fun m => by first | exact W.entry_of rfl | rfl | (simp [entryFrame, mkF, argsToLocals, Value.category]; done)) ?_
  intro p e s m below meth c T0 C X0 e0
  have N0 := Fr.nil n0
  have K0 := Keep.refl h0 [p0]
  refine W.aloadN (q := 1) X0 C d8_0 rfl rfl rfl ?_
  refine W.initObj (q := 4) X0 C (W.ww hw 36 rfl) (W.ww hw 37 rfl) (W.ww hw 38 rfl) e0 d8_1 rfl (by decide) (Nat.le_of_ble_eq_true rfl) rfl (fun T10 X10 e10 => ?_)
  refine W.aloadN (q := 5) X10 C d8_4 rfl rfl rfl ?_
  refine W.aloadN (q := 6) X10 C d8_5 rfl rfl rfl ?_
  refine W.putF (host := "") (q := 9) X10 C (Or.inl (W.ww hw 39 rfl)) Via.refl e10 F0a E0 (Or.inr ⟨(W.ww hw 40 rfl), rfl, rfl⟩) (W.ww hw 27 rfl) (ty := (.array .byte)) (by decide) rfl rfl d8_6 rfl (fun T11 h11 X11 e11 W11 => ?_)
  have Fw11 := F0a.same W11
  have E0_13 := E0.wr W11
  have F0b_15 := F0b.other W11 (Or.inr (slot_ne (Or.inr (W.ww hw 42 rfl)) (Or.inr (W.ww hw 40 rfl)) (by decide) (t := .byte) (t' := (.array .byte)) (by decide) (by decide)))
  have N11 := Fr.snoc X11 N0 hge
  have K11 := K0.wr W11 (Or.inl (by simp))
  have n0_11 : n0 ≤ h11.size := by rw [W11.size]; exact Z0
  refine W.aloadN (q := 10) X11 C d8_9 rfl rfl rfl ?_
  refine W.iloadN (q := 11) X11 C d8_10 rfl rfl ?_
  refine W.putF (host := "") (q := 14) X11 C (Or.inl (W.ww hw 41 rfl)) Via.refl e11 F0b_15 E0_13 (Or.inr ⟨(W.ww hw 42 rfl), rfl, rfl⟩) (W.ww hw 27 rfl) (ty := .byte) (by decide) rfl rfl d8_11 rfl (fun T16 h16 X16 e16 W16 => ?_)
  have Fw16 := F0b_15.same W16
  have E0_18 := E0_13.wr W16
  have Fw11_19 := Fw11.other W16 (Or.inr (slot_ne (Or.inr (W.ww hw 40 rfl)) (Or.inr (W.ww hw 42 rfl)) (by decide) (t := (.array .byte)) (t' := .byte) (by decide) (by decide)))
  have N16 := Fr.snoc X16 N11 hge
  have K16 := K11.wr W16 (Or.inl (by simp))
  have n0_16 : n0 ≤ h16.size := by rw [W16.size]; exact n0_11
  exact W.retV X16 C e16 d8_14 (by decide) (by decide) ⟨rfl, N16, K16, E0_18, Fw16, Fw11_19⟩
theorem d5_0 : decode jdk_42_method_139_code 0 = .ok (.getstatic 38, 3) := by decide +kernel
theorem d5_3 : decode jdk_42_method_139_code 3 = .ok (.ifCond .eq 23, 3) := by decide +kernel
theorem d5_6 : decode jdk_42_method_139_code 6 = .ok (.iload_n 0, 1) := by decide +kernel
theorem d5_7 : decode jdk_42_method_139_code 7 = .ok (.invokestatic 1015, 3) := by decide +kernel
theorem pd__28C_29Z : parseMethodDescriptor "(C)Z" = some ⟨[.char], some .boolean⟩ := by decide +kernel
theorem d5_10 : decode jdk_42_method_139_code 10 = .ok (.ifCond .eq 16, 3) := by decide +kernel
theorem d5_13 : decode jdk_42_method_139_code 13 = .ok (.new 10, 3) := by decide +kernel
theorem d5_16 : decode jdk_42_method_139_code 16 = .ok (.dup, 1) := by decide +kernel
theorem d5_17 : decode jdk_42_method_139_code 17 = .ok (.iload_n 0, 1) := by decide +kernel
theorem d5_18 : decode jdk_42_method_139_code 18 = .ok (.invokestatic 1018, 3) := by decide +kernel
theorem pd__28C_29_5bB : parseMethodDescriptor "(C)[B" = some ⟨[.char], some (.array .byte)⟩ := by decide +kernel
theorem d5_21 : decode jdk_42_method_139_code 21 = .ok (.iconst 0, 1) := by decide +kernel
theorem d5_22 : decode jdk_42_method_139_code 22 = .ok (.invokespecial 209, 3) := by decide +kernel
theorem pd__28_5bBB_29V : parseMethodDescriptor "([BB)V" = some ⟨[(.array .byte), .byte], none⟩ := by decide +kernel
theorem d5_25 : decode jdk_42_method_139_code 25 = .ok (.areturn, 1) := by decide +kernel
def Q5 (Z : State) (p0 cs : Int32) (h0 : Heap) (n0 : Nat) (v : Option Value) (h : Heap) (L : List Loc) : Prop := ∃ b, v = some (.ref b) ∧ Fr n0 L ∧ Keep h0 h [] ∧ own_str Z h b p0
set_option maxRecDepth 65536 in
set_option maxHeartbeats 40000000 in
theorem rm5 (l : Launch) (Z : State) (a0 : Array Value) (hw : ∀ d ∈ tables_1, d.before a0 Z = true) (ws : List Jvm.Cond) (p0 cs : Int32) (h0 : Heap) (n0 : Nat) (Z0 : n0 ≤ h0.size) (hc : p0.toInt ≤ (255 : Int32).toInt) (h0c : 0 ≤ p0.toInt) (O0 : Old Z n0 h0) (SC : Sta Z Z.heap "java/lang/String" "COMPACT_STRINGS" "Z" (.int cs)) (hcs : cs ≠ 0) :
    MetFree l (⟨"java/lang/String", "valueOf", "(C)Ljava/lang/String;"⟩ : MethodName) (head1 (Jvm.Cond.code (⟨"java/lang/String", "valueOf", "(C)Ljava/lang/String;"⟩ : MethodName) jdk_42_method_139_code 1 (some (.object "java/lang/String")) :: ws) ({ frames := 2, cells := 2, slots := 5, locals := 32 } : Room)) (fun a U => a = #[(.int p0)] ∧ Z.Warmed39 U.vm ∧ U.heap = h0) (fun _ _ _ _ _ => True) (fun _ U o U' => ∃ v L, o = .returned v ∧ Q5 Z p0 cs h0 n0 v U'.heap L ∧ FrameEnd U o U' L ({ frames := 2, cells := 2, slots := 5, locals := 32 } : Room).cells ({ frames := 2, cells := 2, slots := 5, locals := 32 } : Room).slots) := by
  refine W.bodyOf (y := (⟨"java/lang/String", "valueOf", "(C)Ljava/lang/String;"⟩ : MethodName)) (as := #[(.int p0)]) (maxL := 1) (Q := Q5 Z p0 cs h0 n0) (Ls := #[.val (.int p0)]) (plainFor_of_name pn_java_lang_String) (fun m => by first | exact W.entry_of rfl | rfl | (simp [entryFrame, mkF, argsToLocals, Value.category]; done)) ?_
  intro p e s m below meth c T0 C X0 e0
  have N0 := Fr.nil n0
  have K0 := Keep.refl h0 []
  have SC0 := SC.ext O0.2
  refine W.getS (q := 3) X0 C (W.ww hw 21 rfl) Via.refl e0 SC0 d5_0 rfl (fun T21 X21 e21 => ?_)
  refine W.ifF (q := 6) X21 C d5_3 rfl hcs ?_
  refine W.iloadN (q := 7) X21 C d5_6 rfl rfl ?_
  refine W.callS (q := 10) X21 C (W.ww hw 22 rfl) (W.ww hw 23 rfl) (W.ww hw 24 rfl) (W.ww hw 25 rfl) (by decide) (rm6 l Z a0 hw [] p0 h0 n0 hc) e21 d5_7 [(.int p0)] [] rfl rfl pd__28C_29Z rfl rfl (by decide) (Nat.le_of_ble_eq_true rfl) (by decide) (by decide) rfl (fun T22 w22 L22 X22 hQ22 => ?_)
  obtain ⟨rfl, NL22, e22⟩ := hQ22
  have N22 := Fr.app N0 NL22
  show W.Go p e below _ (T22.setTop (mkF m 10 #[.val (.int p0)] [(.int (1 : Int32))]))
  refine W.ifF (q := 13) X22 C d5_10 rfl (by decide : W.cF .eq (1 : Int32) 0) ?_
  refine W.newO (q := 16) X22 C (W.ww hw 26 rfl) (W.ww hw 27 rfl) (W.ww hw 19 rfl) e22 d5_13 (by decide) (by decide) rfl (fun T23 h23 b23 X23 e23 g23 E23 A23 D23 => ?_)
  have ge_b23 : n0 ≤ b23 := by rw [g23]; exact Z0
  have sz_b23 : h0.size ≤ b23 := by rw [g23]; exact K0.1
  have n0_23 : n0 ≤ h23.size := Nat.le_trans Z0 E23.1
  have SC0_25 := SC0.ext E23
  have K23 := K0.ext E23
  have F_value_26 : Fld Z h23 b23 "java/lang/String" "value" "[B" .null := D23 (Or.inr (W.ww hw 40 rfl)) (ty := (.array .byte)) (by decide)
  have F_coder_27 : Fld Z h23 b23 "java/lang/String" "coder" "B" (.int (0 : Int32)) := D23 (Or.inr (W.ww hw 42 rfl)) (ty := .byte) (by decide)
  refine W.dup (q := 17) X23 C d5_16 rfl rfl ?_
  refine W.iloadN (q := 18) X23 C d5_17 rfl rfl ?_
  refine W.callS (q := 21) X23 C (W.ww hw 28 rfl) (W.ww hw 29 rfl) (W.ww hw 24 rfl) (W.ww hw 30 rfl) (by decide) (rm7 l Z a0 hw [] p0 h23 n0 n0_23) e23 d5_18 [(.int p0)] [(.ref b23), (.ref b23)] rfl rfl pd__28C_29_5bB rfl rfl (by decide) (Nat.le_of_ble_eq_true rfl) (by decide) (by decide) rfl (fun T28 w28 L28 X28 hQ28 => ?_)
  obtain ⟨b28, kb28, rfl, NL28, K28, V28⟩ := hQ28
  have N28 := Fr.app N22 NL28
  have A23_31 := A23.keep K28
  have F_value_32 := F_value_26.keep K28 nin0
  have F_coder_33 := F_coder_27.keep K28 nin0
  have n0_28 : n0 ≤ T28.heap.size := Nat.le_trans n0_23 K28.1
  have KK28 := K23.trans K28 all0
  have ne_b23_b28 : b23 ≠ b28 := A23_31.neArv V28 (W.ww hw 27 rfl)
  show W.Go p e below _ (T28.setTop (mkF m 21 #[.val (.int p0)] [(.ref b28), (.ref b23), (.ref b23)]))
  refine W.iconst (q := 22) (v := 0) X28 C d5_21 rfl rfl ?_
  refine W.callI (q := 25) X28 C rfl (W.ww hw 32 rfl) (W.ww hw 33 rfl) (W.ww hw 19 rfl) (W.ww hw 35 rfl) (by decide) (rm8 l Z a0 hw [] b23 b28 T28.heap n0 n0_28 ge_b23 A23_31 F_value_32 F_coder_33) rfl d5_22 (a := b23) [(.ref b28), (.int (0 : Int32))] [(.ref b23)] rfl rfl pd__28_5bBB_29V rfl rfl (by decide) (Nat.le_of_ble_eq_true rfl) (by decide) (by decide) rfl (fun T34 w34 L34 X34 hQ34 => ?_)
  obtain ⟨rfl, NL34, K34, E_34, Fc34, Fv34⟩ := hQ34
  have N34 := Fr.app N28 NL34
  have V28_36 := V28.keep K34 (ninS (Ne.symm ne_b23_b28) nin0)
  have n0_34 : n0 ≤ T34.heap.size := Nat.le_trans n0_28 K34.1
  have KK34 := KK28.trans K34 (allS (Or.inr sz_b23) all0)
  show W.Go p e below _ (T34.setTop (mkF m 25 #[.val (.int p0)] [(.ref b23)]))
  exact W.retA X34 C rfl rfl rfl d5_25 (by decide) (by decide) ⟨_, rfl, N34, KK34, _, _, _, E_34, Fc34, Fv34, Or.inr ⟨h0c, rfl, V28_36⟩⟩
theorem d14_0 : decode jdk_43_method_13_code 0 = .ok (.aload_n 0, 1) := by decide +kernel
theorem d14_1 : decode jdk_43_method_13_code 1 = .ok (.arraylength, 1) := by decide +kernel
theorem d14_2 : decode jdk_43_method_13_code 2 = .ok (.aload_n 1, 1) := by decide +kernel
theorem d14_3 : decode jdk_43_method_13_code 3 = .ok (.arraylength, 1) := by decide +kernel
theorem d14_4 : decode jdk_43_method_13_code 4 = .ok (.if_icmp .ne 30, 3) := by decide +kernel
theorem d14_7 : decode jdk_43_method_13_code 7 = .ok (.iconst 0, 1) := by decide +kernel
theorem d14_8 : decode jdk_43_method_13_code 8 = .ok (.istore_n 2, 1) := by decide +kernel
theorem d14_9 : decode jdk_43_method_13_code 9 = .ok (.iload_n 2, 1) := by decide +kernel
theorem d14_10 : decode jdk_43_method_13_code 10 = .ok (.aload_n 0, 1) := by decide +kernel
theorem d14_11 : decode jdk_43_method_13_code 11 = .ok (.arraylength, 1) := by decide +kernel
theorem d14_12 : decode jdk_43_method_13_code 12 = .ok (.if_icmp .ge 20, 3) := by decide +kernel
theorem d14_32 : decode jdk_43_method_13_code 32 = .ok (.iconst 1, 1) := by decide +kernel
theorem d14_33 : decode jdk_43_method_13_code 33 = .ok (.ireturn, 1) := by decide +kernel
def Q14_00 (Z : State) (p0 p1 : Addr) (kp0 kp1 : ClassId) (x y : Int32) (h0 : Heap) (n0 : Nat) (v : Option Value) (h : Heap) (L : List Loc) : Prop := v = some (.int (1 : Int32)) ∧ Fr n0 L ∧ h = h0
set_option maxRecDepth 65536 in
set_option maxHeartbeats 40000000 in
theorem rm14_00 (l : Launch) (Z : State) (a0 : Array Value) (hw : ∀ d ∈ tables_1, d.before a0 Z = true) (ws : List Jvm.Cond) (p0 p1 : Addr) (kp0 kp1 : ClassId) (x y : Int32) (h0 : Heap) (n0 : Nat) (Vp0 : Arv Z h0 p0 kp0 .byte (0 : Int32) [] (.int (0 : Int32))) (Vp1 : Arv Z h0 p1 kp1 .byte (0 : Int32) [] (.int (0 : Int32))) :
    MetFree l (⟨"java/lang/StringLatin1", "equals", "([B[B)Z"⟩ : MethodName) (head1 (Jvm.Cond.code (⟨"java/lang/StringLatin1", "equals", "([B[B)Z"⟩ : MethodName) jdk_43_method_13_code 3 (some .boolean) :: ws) ({ frames := 0, cells := 0, slots := 0, locals := 0 } : Room)) (fun a U => a = #[(.ref p0), (.ref p1)] ∧ Z.Warmed39 U.vm ∧ U.heap = h0) (fun _ _ _ _ _ => True) (fun _ U o U' => ∃ v L, o = .returned v ∧ Q14_00 Z p0 p1 kp0 kp1 x y h0 n0 v U'.heap L ∧ FrameEnd U o U' L ({ frames := 0, cells := 0, slots := 0, locals := 0 } : Room).cells ({ frames := 0, cells := 0, slots := 0, locals := 0 } : Room).slots) := by
  refine W.bodyOf (y := (⟨"java/lang/StringLatin1", "equals", "([B[B)Z"⟩ : MethodName)) (as := #[(.ref p0), (.ref p1)]) (maxL := 3) (Q := Q14_00 Z p0 p1 kp0 kp1 x y h0 n0) (Ls := #[.val (.ref p0), .val (.ref p1), .unset]) (plainFor_of_name pn_java_lang_StringLatin1) (fun m => by first | exact W.entry_of rfl | rfl | (simp [entryFrame, mkF, argsToLocals, Value.category]; done)) ?_
  intro p e s m below meth c T0 C X0 e0
  have N0 := Fr.nil n0
  refine W.aloadN (q := 1) X0 C d14_0 rfl rfl rfl ?_
  refine W.arraylength (q := 2) X0 C e0 Vp0 d14_1 rfl ?_
  refine W.aloadN (q := 3) X0 C d14_2 rfl rfl rfl ?_
  refine W.arraylength (q := 4) X0 C e0 Vp1 d14_3 rfl ?_
  refine W.icmpF (q := 7) X0 C d14_4 rfl (by decide : W.cF .ne (0 : Int32) (0 : Int32)) ?_
  refine W.iconst (q := 8) (v := 0) X0 C d14_7 rfl rfl ?_
  refine W.istoreN (q := 9) (L' := #[.val (.ref p0), .val (.ref p1), .val (.int (0 : Int32))]) X0 C d14_8 rfl rfl ?_
  refine W.iloadN (q := 10) X0 C d14_9 rfl rfl ?_
  refine W.aloadN (q := 11) X0 C d14_10 rfl rfl rfl ?_
  refine W.arraylength (q := 12) X0 C e0 Vp0 d14_11 rfl ?_
  refine W.icmpT (q := 32) X0 C d14_12 (by decide) (by decide) (by decide : W.cT .ge (0 : Int32) (0 : Int32)) ?_
  refine W.iconst (q := 33) (v := 1) X0 C d14_32 rfl rfl ?_
  exact W.retN X0 C (by simp) e0 d14_33 rfl (by decide) (by decide) ⟨rfl, N0, rfl⟩
theorem d14_34 : decode jdk_43_method_13_code 34 = .ok (.iconst 0, 1) := by decide +kernel
theorem d14_35 : decode jdk_43_method_13_code 35 = .ok (.ireturn, 1) := by decide +kernel
def Q14_01 (Z : State) (p0 p1 : Addr) (kp0 kp1 : ClassId) (x y : Int32) (h0 : Heap) (n0 : Nat) (v : Option Value) (h : Heap) (L : List Loc) : Prop := v = some (.int (0 : Int32)) ∧ Fr n0 L ∧ h = h0
set_option maxRecDepth 65536 in
set_option maxHeartbeats 40000000 in
theorem rm14_01 (l : Launch) (Z : State) (a0 : Array Value) (hw : ∀ d ∈ tables_1, d.before a0 Z = true) (ws : List Jvm.Cond) (p0 p1 : Addr) (kp0 kp1 : ClassId) (x y : Int32) (h0 : Heap) (n0 : Nat) (Vp0 : Arv Z h0 p0 kp0 .byte (0 : Int32) [] (.int (0 : Int32))) (Vp1 : Arv Z h0 p1 kp1 .byte (1 : Int32) [(.int y)] (.int (0 : Int32))) :
    MetFree l (⟨"java/lang/StringLatin1", "equals", "([B[B)Z"⟩ : MethodName) (head1 (Jvm.Cond.code (⟨"java/lang/StringLatin1", "equals", "([B[B)Z"⟩ : MethodName) jdk_43_method_13_code 3 (some .boolean) :: ws) ({ frames := 0, cells := 0, slots := 0, locals := 0 } : Room)) (fun a U => a = #[(.ref p0), (.ref p1)] ∧ Z.Warmed39 U.vm ∧ U.heap = h0) (fun _ _ _ _ _ => True) (fun _ U o U' => ∃ v L, o = .returned v ∧ Q14_01 Z p0 p1 kp0 kp1 x y h0 n0 v U'.heap L ∧ FrameEnd U o U' L ({ frames := 0, cells := 0, slots := 0, locals := 0 } : Room).cells ({ frames := 0, cells := 0, slots := 0, locals := 0 } : Room).slots) := by
  refine W.bodyOf (y := (⟨"java/lang/StringLatin1", "equals", "([B[B)Z"⟩ : MethodName)) (as := #[(.ref p0), (.ref p1)]) (maxL := 3) (Q := Q14_01 Z p0 p1 kp0 kp1 x y h0 n0) (Ls := #[.val (.ref p0), .val (.ref p1), .unset]) (plainFor_of_name pn_java_lang_StringLatin1) (fun m => by first | exact W.entry_of rfl | rfl | (simp [entryFrame, mkF, argsToLocals, Value.category]; done)) ?_
  intro p e s m below meth c T0 C X0 e0
  have N0 := Fr.nil n0
  refine W.aloadN (q := 1) X0 C d14_0 rfl rfl rfl ?_
  refine W.arraylength (q := 2) X0 C e0 Vp0 d14_1 rfl ?_
  refine W.aloadN (q := 3) X0 C d14_2 rfl rfl rfl ?_
  refine W.arraylength (q := 4) X0 C e0 Vp1 d14_3 rfl ?_
  refine W.icmpT (q := 34) X0 C d14_4 (by decide) (by decide) (by decide : W.cT .ne (0 : Int32) (1 : Int32)) ?_
  refine W.iconst (q := 35) (v := 0) X0 C d14_34 rfl rfl ?_
  exact W.retN X0 C (by simp) e0 d14_35 rfl (by decide) (by decide) ⟨rfl, N0, rfl⟩
def Q14_10 (Z : State) (p0 p1 : Addr) (kp0 kp1 : ClassId) (x y : Int32) (h0 : Heap) (n0 : Nat) (v : Option Value) (h : Heap) (L : List Loc) : Prop := v = some (.int (0 : Int32)) ∧ Fr n0 L ∧ h = h0
set_option maxRecDepth 65536 in
set_option maxHeartbeats 40000000 in
theorem rm14_10 (l : Launch) (Z : State) (a0 : Array Value) (hw : ∀ d ∈ tables_1, d.before a0 Z = true) (ws : List Jvm.Cond) (p0 p1 : Addr) (kp0 kp1 : ClassId) (x y : Int32) (h0 : Heap) (n0 : Nat) (Vp0 : Arv Z h0 p0 kp0 .byte (1 : Int32) [(.int x)] (.int (0 : Int32))) (Vp1 : Arv Z h0 p1 kp1 .byte (0 : Int32) [] (.int (0 : Int32))) :
    MetFree l (⟨"java/lang/StringLatin1", "equals", "([B[B)Z"⟩ : MethodName) (head1 (Jvm.Cond.code (⟨"java/lang/StringLatin1", "equals", "([B[B)Z"⟩ : MethodName) jdk_43_method_13_code 3 (some .boolean) :: ws) ({ frames := 0, cells := 0, slots := 0, locals := 0 } : Room)) (fun a U => a = #[(.ref p0), (.ref p1)] ∧ Z.Warmed39 U.vm ∧ U.heap = h0) (fun _ _ _ _ _ => True) (fun _ U o U' => ∃ v L, o = .returned v ∧ Q14_10 Z p0 p1 kp0 kp1 x y h0 n0 v U'.heap L ∧ FrameEnd U o U' L ({ frames := 0, cells := 0, slots := 0, locals := 0 } : Room).cells ({ frames := 0, cells := 0, slots := 0, locals := 0 } : Room).slots) := by
  refine W.bodyOf (y := (⟨"java/lang/StringLatin1", "equals", "([B[B)Z"⟩ : MethodName)) (as := #[(.ref p0), (.ref p1)]) (maxL := 3) (Q := Q14_10 Z p0 p1 kp0 kp1 x y h0 n0) (Ls := #[.val (.ref p0), .val (.ref p1), .unset]) (plainFor_of_name pn_java_lang_StringLatin1) (fun m => by first | exact W.entry_of rfl | rfl | (simp [entryFrame, mkF, argsToLocals, Value.category]; done)) ?_
  intro p e s m below meth c T0 C X0 e0
  have N0 := Fr.nil n0
  refine W.aloadN (q := 1) X0 C d14_0 rfl rfl rfl ?_
  refine W.arraylength (q := 2) X0 C e0 Vp0 d14_1 rfl ?_
  refine W.aloadN (q := 3) X0 C d14_2 rfl rfl rfl ?_
  refine W.arraylength (q := 4) X0 C e0 Vp1 d14_3 rfl ?_
  refine W.icmpT (q := 34) X0 C d14_4 (by decide) (by decide) (by decide : W.cT .ne (1 : Int32) (0 : Int32)) ?_
  refine W.iconst (q := 35) (v := 0) X0 C d14_34 rfl rfl ?_
  exact W.retN X0 C (by simp) e0 d14_35 rfl (by decide) (by decide) ⟨rfl, N0, rfl⟩
theorem d14_15 : decode jdk_43_method_13_code 15 = .ok (.aload_n 0, 1) := by decide +kernel
theorem d14_16 : decode jdk_43_method_13_code 16 = .ok (.iload_n 2, 1) := by decide +kernel
theorem d14_17 : decode jdk_43_method_13_code 17 = .ok (.baload, 1) := by decide +kernel
theorem d14_18 : decode jdk_43_method_13_code 18 = .ok (.aload_n 1, 1) := by decide +kernel
theorem d14_19 : decode jdk_43_method_13_code 19 = .ok (.iload_n 2, 1) := by decide +kernel
theorem d14_20 : decode jdk_43_method_13_code 20 = .ok (.baload, 1) := by decide +kernel
theorem d14_21 : decode jdk_43_method_13_code 21 = .ok (.if_icmp .eq 5, 3) := by decide +kernel
theorem d14_26 : decode jdk_43_method_13_code 26 = .ok (.iinc 2 1, 3) := by decide +kernel
theorem d14_29 : decode jdk_43_method_13_code 29 = .ok (.goto (-20), 3) := by decide +kernel
theorem d14_24 : decode jdk_43_method_13_code 24 = .ok (.iconst 0, 1) := by decide +kernel
theorem d14_25 : decode jdk_43_method_13_code 25 = .ok (.ireturn, 1) := by decide +kernel
def Q14_11 (Z : State) (p0 p1 : Addr) (kp0 kp1 : ClassId) (x y : Int32) (h0 : Heap) (n0 : Nat) (v : Option Value) (h : Heap) (L : List Loc) : Prop := v = some (.int (if x = y then (1 : Int32) else 0)) ∧ Fr n0 L ∧ h = h0
set_option maxRecDepth 65536 in
set_option maxHeartbeats 40000000 in
theorem rm14_11 (l : Launch) (Z : State) (a0 : Array Value) (hw : ∀ d ∈ tables_1, d.before a0 Z = true) (ws : List Jvm.Cond) (p0 p1 : Addr) (kp0 kp1 : ClassId) (x y : Int32) (h0 : Heap) (n0 : Nat) (Vp0 : Arv Z h0 p0 kp0 .byte (1 : Int32) [(.int x)] (.int (0 : Int32))) (Vp1 : Arv Z h0 p1 kp1 .byte (1 : Int32) [(.int y)] (.int (0 : Int32))) :
    MetFree l (⟨"java/lang/StringLatin1", "equals", "([B[B)Z"⟩ : MethodName) (head1 (Jvm.Cond.code (⟨"java/lang/StringLatin1", "equals", "([B[B)Z"⟩ : MethodName) jdk_43_method_13_code 3 (some .boolean) :: ws) ({ frames := 0, cells := 0, slots := 0, locals := 0 } : Room)) (fun a U => a = #[(.ref p0), (.ref p1)] ∧ Z.Warmed39 U.vm ∧ U.heap = h0) (fun _ _ _ _ _ => True) (fun _ U o U' => ∃ v L, o = .returned v ∧ Q14_11 Z p0 p1 kp0 kp1 x y h0 n0 v U'.heap L ∧ FrameEnd U o U' L ({ frames := 0, cells := 0, slots := 0, locals := 0 } : Room).cells ({ frames := 0, cells := 0, slots := 0, locals := 0 } : Room).slots) := by
  refine W.bodyOf (y := (⟨"java/lang/StringLatin1", "equals", "([B[B)Z"⟩ : MethodName)) (as := #[(.ref p0), (.ref p1)]) (maxL := 3) (Q := Q14_11 Z p0 p1 kp0 kp1 x y h0 n0) (Ls := #[.val (.ref p0), .val (.ref p1), .unset]) (plainFor_of_name pn_java_lang_StringLatin1) (fun m => by first | exact W.entry_of rfl | rfl | (simp [entryFrame, mkF, argsToLocals, Value.category]; done)) ?_
  intro p e s m below meth c T0 C X0 e0
  have N0 := Fr.nil n0
  refine W.aloadN (q := 1) X0 C d14_0 rfl rfl rfl ?_
  refine W.arraylength (q := 2) X0 C e0 Vp0 d14_1 rfl ?_
  refine W.aloadN (q := 3) X0 C d14_2 rfl rfl rfl ?_
  refine W.arraylength (q := 4) X0 C e0 Vp1 d14_3 rfl ?_
  refine W.icmpF (q := 7) X0 C d14_4 rfl (by decide : W.cF .ne (1 : Int32) (1 : Int32)) ?_
  refine W.iconst (q := 8) (v := 0) X0 C d14_7 rfl rfl ?_
  refine W.istoreN (q := 9) (L' := #[.val (.ref p0), .val (.ref p1), .val (.int (0 : Int32))]) X0 C d14_8 rfl rfl ?_
  refine W.iloadN (q := 10) X0 C d14_9 rfl rfl ?_
  refine W.aloadN (q := 11) X0 C d14_10 rfl rfl rfl ?_
  refine W.arraylength (q := 12) X0 C e0 Vp0 d14_11 rfl ?_
  refine W.icmpF (q := 15) X0 C d14_12 rfl (by decide : W.cF .ge (0 : Int32) (1 : Int32)) ?_
  refine W.aloadN (q := 16) X0 C d14_15 rfl rfl rfl ?_
  refine W.iloadN (q := 17) X0 C d14_16 rfl rfl ?_
  refine W.baload (q := 18) X0 C e0 Vp0 (by decide) (by decide) rfl d14_17 rfl ?_
  refine W.aloadN (q := 19) X0 C d14_18 rfl rfl rfl ?_
  refine W.iloadN (q := 20) X0 C d14_19 rfl rfl ?_
  refine W.baload (q := 21) X0 C e0 Vp1 (by decide) (by decide) rfl d14_20 rfl ?_
  refine W.icmp (q := 26) (q' := 24) X0 C d14_21 (by decide) (by decide) rfl (fun hc37 => ?_) (fun hc37 => ?_)
  · replace hc37 : x = y := hc37
    refine W.iinc (q := 29) (L' := #[.val (.ref p0), .val (.ref p1), .val (.int (1 : Int32))]) X0 C d14_26 rfl (by decide) rfl rfl ?_
    refine W.goto (q := 9) X0 C d14_29 (by decide) (by decide) ?_
    refine W.iloadN (q := 10) X0 C d14_9 rfl rfl ?_
    refine W.aloadN (q := 11) X0 C d14_10 rfl rfl rfl ?_
    refine W.arraylength (q := 12) X0 C e0 Vp0 d14_11 rfl ?_
    refine W.icmpT (q := 32) X0 C d14_12 (by decide) (by decide) (by decide : W.cT .ge (1 : Int32) (1 : Int32)) ?_
    refine W.iconst (q := 33) (v := 1) X0 C d14_32 rfl rfl ?_
    exact W.retN X0 C (by simp) e0 d14_33 rfl (by decide) (by decide) ⟨by rw [if_pos hc37]; rfl, N0, rfl⟩
  · replace hc37 : x ≠ y := hc37
    refine W.iconst (q := 25) (v := 0) X0 C d14_24 rfl rfl ?_
    exact W.retN X0 C (by simp) e0 d14_25 rfl (by decide) (by decide) ⟨by rw [if_neg hc37]; rfl, N0, rfl⟩
def own_rg (k : Int32) : Prop := k = -1 ∨ (0 ≤ k.toInt ∧ k.toInt ≤ 255)
def own_by (k : Int32) : Int32 := (k.toInt8.toInt32).toInt8.toInt32
theorem own_by_all : ∀ a : Fin 256, own_by (Int32.ofInt (a.1 : Int)) &&& 255 = Int32.ofInt (a.1 : Int) := by decide +kernel
theorem own_by_inv {k : Int32} (h0 : 0 ≤ k.toInt) (h1 : k.toInt ≤ 255) : own_by k &&& 255 = k := W.small (P := fun k => own_by k &&& 255 = k) 255 own_by_all k h0 h1
theorem own_by_inj {k j : Int32} (hk : 0 ≤ k.toInt) (hk' : k.toInt ≤ 255) (hj : 0 ≤ j.toInt) (hj' : j.toInt ≤ 255) (h : own_by k = own_by j) : k = j := by
  rw [← own_by_inv hk hk', ← own_by_inv hj hj', h]
theorem own_rg2 {k : Int32} (h : own_rg k) (h0 : 0 ≤ k.toInt) : k.toInt ≤ 255 := by
  rcases h with rfl | q
  · exact absurd h0 (by decide)
  · exact q.2
theorem own_neg {k : Int32} (h0 : 0 ≤ k.toInt) : k ≠ -1 := fun q => absurd (q ▸ h0) (by decide)
theorem own_same {Z : State} {h : Heap} {a : Addr} {k j : Int32} (F : own_str Z h a k) (G : own_str Z h a j) (hk : own_rg k) (hj : own_rg j) : k = j := by
  obtain ⟨b, kb, x, -, -, f3, f4⟩ := F
  obtain ⟨b', kb', x', -, -, g3, g4⟩ := G
  cases own_fdet f3 g3
  rcases f4 with ⟨q, c1, A1, -, S1, -⟩ | ⟨q, e, c1, A1, -, S1, -, H1, -⟩ <;> rcases g4 with ⟨r, c2, A2, -, S2, -⟩ | ⟨r, e', c2, A2, -, S2, -, H2, -⟩
  · rw [q, r]
  · cases A1.1.symm.trans A2.1; rw [S1] at S2; exact absurd S2 (by decide)
  · cases A1.1.symm.trans A2.1; rw [S1] at S2; exact absurd S2 (by decide)
  · cases A1.1.symm.trans A2.1
    have hs : 0 < c1.slots.size := by rw [S1]; decide
    have hx : (Value.int x) = .int x' := by
      have u := H1 0 hs; have w := H2 0 hs
      exact Option.some.inj (u.symm.trans w)
    cases hx
    exact own_by_inj q (own_rg2 hk q) r (own_rg2 hj r) (e.symm.trans e')
theorem own_str.exa {Z : State} {h : Heap} {a : Addr} {k : Int32} (F : own_str Z h a k) : Exa Z h a "java/lang/String" := by obtain ⟨_, _, _, f, -⟩ := F; exact f
theorem own_ite0 {x y : Int32} (h : (if x = y then (1 : Int32) else 0) = 0) : x ≠ y := fun e => by rw [if_pos e] at h; exact absurd h (by decide)
theorem own_ite1 {x y : Int32} (h : (if x = y then (1 : Int32) else 0) ≠ 0) : x = y := Decidable.byContradiction fun e => h (if_neg e)
theorem own_chr {k : Int32} (h : own_rg k) (h0 : 0 ≤ k.toInt) : k.toUInt32.toUInt16.toUInt32.toInt32 = k := W.small (P := fun k => k.toUInt32.toUInt16.toUInt32.toInt32 = k) 255 (by decide +kernel) k h0 (own_rg2 h h0)
theorem own_wS {Z : State} {a0 : Array Value} (hw : ∀ d ∈ tables_1, d.before a0 Z = true) : ∀ d ∈ Bundle.stringAtoms, d.before a0 Z = true := by
  intro d hd
  simp only [Bundle.stringAtoms, List.mem_cons, List.not_mem_nil, or_false] at hd
  rcases hd with rfl | rfl | rfl | rfl | rfl | rfl | rfl
  · exact W.ww hw 19 rfl
  · exact W.ww hw 27 rfl
  · exact W.ww hw 31 rfl
  · exact W.ww hw 40 rfl
  · exact W.ww hw 42 rfl
  · exact W.ww hw 48 rfl
  · exact W.ww hw 49 rfl
abbrev own_el : List (String × Nat) := [("com/example/cranfield/cranfield/formats/PreferenceJudgmentEqualsPinLaw", 7)]
theorem own_EL {Z : State} {a0 : Array Value} (hw : ∀ d ∈ tables_1, d.before a0 Z = true) : EW Z a0 own_el := (EW.cons (W.ww hw 84 rfl) (by simp) EW.nil)
theorem own_CH {s : State} {a0 : Array Value} (hw : ∀ d ∈ tables_1, d.before a0 s = true) (hh : constsHeld consts_1 s) (hcw : Jvm.Lit.compactW.before a0 s = true) : CHv s own_el s.vm s.heap := by
  refine CHv.start (own_EL hw) ?_ hcw (W.ww hw 31 rfl) (W.ww hw 27 rfl)
  intro p hp
  simp only [own_el, List.mem_cons, List.not_mem_nil, or_false] at hp
  subst hp
  exact hh _ (List.mem_of_getElem? (i := 5) rfl)
theorem d13_0 : decode jdk_42_method_66_code 0 = .ok (.aload_n 0, 1) := by decide +kernel
theorem d13_1 : decode jdk_42_method_66_code 1 = .ok (.aload_n 1, 1) := by decide +kernel
theorem d13_2 : decode jdk_42_method_66_code 2 = .ok (.if_acmp .ne 5, 3) := by decide +kernel
theorem d13_5 : decode jdk_42_method_66_code 5 = .ok (.iconst 1, 1) := by decide +kernel
theorem d13_6 : decode jdk_42_method_66_code 6 = .ok (.ireturn, 1) := by decide +kernel
theorem d13_7 : decode jdk_42_method_66_code 7 = .ok (.aload_n 1, 1) := by decide +kernel
theorem d13_8 : decode jdk_42_method_66_code 8 = .ok (.instanceof 10, 3) := by decide +kernel
theorem d13_11 : decode jdk_42_method_66_code 11 = .ok (.ifCond .eq 43, 3) := by decide +kernel
theorem d13_14 : decode jdk_42_method_66_code 14 = .ok (.aload_n 1, 1) := by decide +kernel
theorem d13_15 : decode jdk_42_method_66_code 15 = .ok (.checkcast 10, 3) := by decide +kernel
theorem d13_18 : decode jdk_42_method_66_code 18 = .ok (.astore_n 2, 1) := by decide +kernel
theorem d13_19 : decode jdk_42_method_66_code 19 = .ok (.getstatic 38, 3) := by decide +kernel
theorem d13_22 : decode jdk_42_method_66_code 22 = .ok (.ifCond .eq 14, 3) := by decide +kernel
theorem d13_25 : decode jdk_42_method_66_code 25 = .ok (.aload_n 0, 1) := by decide +kernel
theorem d13_26 : decode jdk_42_method_66_code 26 = .ok (.getfield 15, 3) := by decide +kernel
theorem d13_29 : decode jdk_42_method_66_code 29 = .ok (.aload_n 2, 1) := by decide +kernel
theorem d13_30 : decode jdk_42_method_66_code 30 = .ok (.getfield 15, 3) := by decide +kernel
theorem d13_33 : decode jdk_42_method_66_code 33 = .ok (.if_icmp .ne 21, 3) := by decide +kernel
theorem d13_36 : decode jdk_42_method_66_code 36 = .ok (.aload_n 0, 1) := by decide +kernel
theorem d13_37 : decode jdk_42_method_66_code 37 = .ok (.getfield 9, 3) := by decide +kernel
theorem d13_40 : decode jdk_42_method_66_code 40 = .ok (.aload_n 2, 1) := by decide +kernel
theorem d13_41 : decode jdk_42_method_66_code 41 = .ok (.getfield 9, 3) := by decide +kernel
theorem d13_44 : decode jdk_42_method_66_code 44 = .ok (.invokestatic 541, 3) := by decide +kernel
theorem pd__28_5bB_5bB_29Z : parseMethodDescriptor "([B[B)Z" = some ⟨[(.array .byte), (.array .byte)], some .boolean⟩ := by decide +kernel
theorem d13_47 : decode jdk_42_method_66_code 47 = .ok (.ifCond .eq 7, 3) := by decide +kernel
theorem d13_50 : decode jdk_42_method_66_code 50 = .ok (.iconst 1, 1) := by decide +kernel
theorem d13_51 : decode jdk_42_method_66_code 51 = .ok (.goto 4, 3) := by decide +kernel
theorem d13_55 : decode jdk_42_method_66_code 55 = .ok (.ireturn, 1) := by decide +kernel
theorem d13_54 : decode jdk_42_method_66_code 54 = .ok (.iconst 0, 1) := by decide +kernel
def Q13 (Z : State) (p0 p1 : Addr) (k j cs : Int32) (h0 : Heap) (n0 : Nat) (v : Option Value) (h : Heap) (L : List Loc) : Prop := v = some (.int (if k = j then (1 : Int32) else 0)) ∧ Fr n0 L ∧ h = h0
set_option maxRecDepth 65536 in
set_option maxHeartbeats 40000000 in
theorem rm13 (l : Launch) (Z : State) (a0 : Array Value) (hw : ∀ d ∈ tables_1, d.before a0 Z = true) (ws : List Jvm.Cond) (p0 p1 : Addr) (k j cs : Int32) (h0 : Heap) (n0 : Nat) (S0 : own_str Z h0 p0 k) (S1 : own_str Z h0 p1 j) (hk : own_rg k) (hj : own_rg j) (SC : Sta Z h0 "java/lang/String" "COMPACT_STRINGS" "Z" (.int cs)) (hcs : cs ≠ 0) :
    MetFree l (⟨"java/lang/String", "equals", "(Ljava/lang/Object;)Z"⟩ : MethodName) (head1 (Jvm.Cond.code (⟨"java/lang/String", "equals", "(Ljava/lang/Object;)Z"⟩ : MethodName) jdk_42_method_66_code 3 (some .boolean) :: ws) ({ frames := 1, cells := 0, slots := 0, locals := 20 } : Room)) (fun a U => a = #[(.ref p0), (.ref p1)] ∧ Z.Warmed39 U.vm ∧ U.heap = h0) (fun _ _ _ _ _ => True) (fun _ U o U' => ∃ v L, o = .returned v ∧ Q13 Z p0 p1 k j cs h0 n0 v U'.heap L ∧ FrameEnd U o U' L ({ frames := 1, cells := 0, slots := 0, locals := 20 } : Room).cells ({ frames := 1, cells := 0, slots := 0, locals := 20 } : Room).slots) := by
  refine W.bodyOf (y := (⟨"java/lang/String", "equals", "(Ljava/lang/Object;)Z"⟩ : MethodName)) (as := #[(.ref p0), (.ref p1)]) (maxL := 3) (Q := Q13 Z p0 p1 k j cs h0 n0) (Ls := #[.val (.ref p0), .val (.ref p1), .unset]) (plainFor_of_name pn_java_lang_String) (fun m => by first | exact W.entry_of rfl | rfl | (simp [entryFrame, mkF, argsToLocals, Value.category]; done)) ?_
  intro p e s m below meth c T0 C X0 e0
  have N0 := Fr.nil n0
  by_cases hpp : p0 = p1
  · subst hpp
    have hkj := own_same S0 S1 hk hj
    show W.Go p e below _ (T0.setTop (mkF m 0 #[.val (.ref p0), .val (.ref p0), .unset] []))
    refine W.aloadN (q := 1) X0 C d13_0 rfl rfl rfl ?_
    refine W.aloadN (q := 2) X0 C d13_1 rfl rfl rfl ?_
    refine W.acmp (q := 5) X0 C rfl rfl (same := true) (decide_eq_true rfl) d13_2 (by decide) (by decide) ?_
    refine W.iconst (q := 6) (v := 1) X0 C d13_5 rfl rfl ?_
    exact W.retN X0 C (by simp) e0 d13_6 rfl (by decide) (by decide) ⟨by rw [if_pos hkj] <;> rfl, N0, rfl⟩
  · obtain ⟨b0, kb0, x0, E0, c0, v0, f4⟩ := S0
    obtain ⟨b1, kb1, x1, E1, c1, v1, g4⟩ := S1
    rcases f4 with ⟨r0, V0⟩ | ⟨r0, u0, V0⟩ <;> rcases g4 with ⟨r1, V1⟩ | ⟨r1, u1, V1⟩
    · show W.Go p e below _ (T0.setTop (mkF m 0 #[.val (.ref p0), .val (.ref p1), .unset] []))
      refine W.aloadN (q := 1) X0 C d13_0 rfl rfl rfl ?_
      refine W.aloadN (q := 2) X0 C d13_1 rfl rfl rfl ?_
      refine W.acmp (q := 7) X0 C rfl rfl (same := false) (decide_eq_false fun q => hpp (Value.ref.inj q)) d13_2 (by decide) (by decide) ?_
      refine W.aloadN (q := 8) X0 C d13_7 rfl rfl rfl ?_
      refine W.inst1 (q := 11) X0 C (W.ww hw 26 rfl) e0 (Ins.self E1) d13_8 rfl (fun T38 X38 e38 => ?_)
      refine W.ifF (q := 14) X38 C d13_11 rfl (by decide : W.cF .eq (1 : Int32) 0) ?_
      refine W.aloadN (q := 15) X38 C d13_14 rfl rfl rfl ?_
      refine W.cast (q := 18) X38 C (W.ww hw 26 rfl) e38 (Ins.self E1) d13_15 rfl (fun T39 X39 e39 => ?_)
      refine W.astoreN (q := 19) (L' := #[.val (.ref p0), .val (.ref p1), .val (.ref p1)]) X39 C d13_18 rfl rfl rfl ?_
      refine W.getS (q := 22) X39 C (W.ww hw 21 rfl) Via.refl e39 SC d13_19 rfl (fun T40 X40 e40 => ?_)
      refine W.ifF (q := 25) X40 C d13_22 rfl hcs ?_
      refine W.aloadN (q := 26) X40 C d13_25 rfl rfl rfl ?_
      refine W.getF (host := "") (q := 29) X40 C (Or.inl (W.ww hw 41 rfl)) Via.refl e40 c0 d13_26 rfl (fun T41 X41 e41 => ?_)
      refine W.aloadN (q := 30) X41 C d13_29 rfl rfl rfl ?_
      refine W.getF (host := "") (q := 33) X41 C (Or.inl (W.ww hw 41 rfl)) Via.refl e41 c1 d13_30 rfl (fun T42 X42 e42 => ?_)
      refine W.icmpF (q := 36) X42 C d13_33 rfl (by decide : W.cF .ne (0 : Int32) (0 : Int32)) ?_
      refine W.aloadN (q := 37) X42 C d13_36 rfl rfl rfl ?_
      refine W.getF (host := "") (q := 40) X42 C (Or.inl (W.ww hw 39 rfl)) Via.refl e42 v0 d13_37 rfl (fun T43 X43 e43 => ?_)
      refine W.aloadN (q := 41) X43 C d13_40 rfl rfl rfl ?_
      refine W.getF (host := "") (q := 44) X43 C (Or.inl (W.ww hw 39 rfl)) Via.refl e43 v1 d13_41 rfl (fun T44 X44 e44 => ?_)
      refine W.callS (q := 47) X44 C (W.ww hw 81 rfl) (W.ww hw 82 rfl) (W.ww hw 24 rfl) (W.ww hw 83 rfl) (by decide) (rm14_00 l Z a0 hw [] b0 b1 kb0 kb1 0 0 h0 n0 V0 V1) e44 d13_44 [(.ref b0), (.ref b1)] [] rfl rfl pd__28_5bB_5bB_29Z rfl rfl (by decide) (Nat.le_of_ble_eq_true rfl) (by decide) (by decide) rfl (fun T45 w45 L45 X45 hQ45 => ?_)
      obtain ⟨rfl, NL45, e45⟩ := hQ45
      have N45 := Fr.app N0 NL45
      show W.Go p e below _ (T45.setTop (mkF m 47 #[.val (.ref p0), .val (.ref p1), .val (.ref p1)] [(.int (1 : Int32))]))
      refine W.ifF (q := 50) X45 C d13_47 rfl (by decide : W.cF .eq (1 : Int32) 0) ?_
      refine W.iconst (q := 51) (v := 1) X45 C d13_50 rfl rfl ?_
      refine W.goto (q := 55) X45 C d13_51 (by decide) (by decide) ?_
      exact W.retN X45 C (by simp) e45 d13_55 rfl (by decide) (by decide) ⟨by rw [if_pos (r0.trans r1.symm)] <;> rfl, N45, rfl⟩
    · show W.Go p e below _ (T0.setTop (mkF m 0 #[.val (.ref p0), .val (.ref p1), .unset] []))
      refine W.aloadN (q := 1) X0 C d13_0 rfl rfl rfl ?_
      refine W.aloadN (q := 2) X0 C d13_1 rfl rfl rfl ?_
      refine W.acmp (q := 7) X0 C rfl rfl (same := false) (decide_eq_false fun q => hpp (Value.ref.inj q)) d13_2 (by decide) (by decide) ?_
      refine W.aloadN (q := 8) X0 C d13_7 rfl rfl rfl ?_
      refine W.inst1 (q := 11) X0 C (W.ww hw 26 rfl) e0 (Ins.self E1) d13_8 rfl (fun T46 X46 e46 => ?_)
      refine W.ifF (q := 14) X46 C d13_11 rfl (by decide : W.cF .eq (1 : Int32) 0) ?_
      refine W.aloadN (q := 15) X46 C d13_14 rfl rfl rfl ?_
      refine W.cast (q := 18) X46 C (W.ww hw 26 rfl) e46 (Ins.self E1) d13_15 rfl (fun T47 X47 e47 => ?_)
      refine W.astoreN (q := 19) (L' := #[.val (.ref p0), .val (.ref p1), .val (.ref p1)]) X47 C d13_18 rfl rfl rfl ?_
      refine W.getS (q := 22) X47 C (W.ww hw 21 rfl) Via.refl e47 SC d13_19 rfl (fun T48 X48 e48 => ?_)
      refine W.ifF (q := 25) X48 C d13_22 rfl hcs ?_
      refine W.aloadN (q := 26) X48 C d13_25 rfl rfl rfl ?_
      refine W.getF (host := "") (q := 29) X48 C (Or.inl (W.ww hw 41 rfl)) Via.refl e48 c0 d13_26 rfl (fun T49 X49 e49 => ?_)
      refine W.aloadN (q := 30) X49 C d13_29 rfl rfl rfl ?_
      refine W.getF (host := "") (q := 33) X49 C (Or.inl (W.ww hw 41 rfl)) Via.refl e49 c1 d13_30 rfl (fun T50 X50 e50 => ?_)
      refine W.icmpF (q := 36) X50 C d13_33 rfl (by decide : W.cF .ne (0 : Int32) (0 : Int32)) ?_
      refine W.aloadN (q := 37) X50 C d13_36 rfl rfl rfl ?_
      refine W.getF (host := "") (q := 40) X50 C (Or.inl (W.ww hw 39 rfl)) Via.refl e50 v0 d13_37 rfl (fun T51 X51 e51 => ?_)
      refine W.aloadN (q := 41) X51 C d13_40 rfl rfl rfl ?_
      refine W.getF (host := "") (q := 44) X51 C (Or.inl (W.ww hw 39 rfl)) Via.refl e51 v1 d13_41 rfl (fun T52 X52 e52 => ?_)
      refine W.callS (q := 47) X52 C (W.ww hw 81 rfl) (W.ww hw 82 rfl) (W.ww hw 24 rfl) (W.ww hw 83 rfl) (by decide) (rm14_01 l Z a0 hw [] b0 b1 kb0 kb1 0 x1 h0 n0 V0 V1) e52 d13_44 [(.ref b0), (.ref b1)] [] rfl rfl pd__28_5bB_5bB_29Z rfl rfl (by decide) (Nat.le_of_ble_eq_true rfl) (by decide) (by decide) rfl (fun T53 w53 L53 X53 hQ53 => ?_)
      obtain ⟨rfl, NL53, e53⟩ := hQ53
      have N53 := Fr.app N0 NL53
      show W.Go p e below _ (T53.setTop (mkF m 47 #[.val (.ref p0), .val (.ref p1), .val (.ref p1)] [(.int (0 : Int32))]))
      refine W.ifT (q := 54) X53 C d13_47 (by decide) (by decide) (by decide : W.cT .eq (0 : Int32) 0) ?_
      refine W.iconst (q := 55) (v := 0) X53 C d13_54 rfl rfl ?_
      exact W.retN X53 C (by simp) e53 d13_55 rfl (by decide) (by decide) ⟨by rw [if_neg (fun e => own_neg r1 (e.symm.trans r0))] <;> rfl, N53, rfl⟩
    · show W.Go p e below _ (T0.setTop (mkF m 0 #[.val (.ref p0), .val (.ref p1), .unset] []))
      refine W.aloadN (q := 1) X0 C d13_0 rfl rfl rfl ?_
      refine W.aloadN (q := 2) X0 C d13_1 rfl rfl rfl ?_
      refine W.acmp (q := 7) X0 C rfl rfl (same := false) (decide_eq_false fun q => hpp (Value.ref.inj q)) d13_2 (by decide) (by decide) ?_
      refine W.aloadN (q := 8) X0 C d13_7 rfl rfl rfl ?_
      refine W.inst1 (q := 11) X0 C (W.ww hw 26 rfl) e0 (Ins.self E1) d13_8 rfl (fun T54 X54 e54 => ?_)
      refine W.ifF (q := 14) X54 C d13_11 rfl (by decide : W.cF .eq (1 : Int32) 0) ?_
      refine W.aloadN (q := 15) X54 C d13_14 rfl rfl rfl ?_
      refine W.cast (q := 18) X54 C (W.ww hw 26 rfl) e54 (Ins.self E1) d13_15 rfl (fun T55 X55 e55 => ?_)
      refine W.astoreN (q := 19) (L' := #[.val (.ref p0), .val (.ref p1), .val (.ref p1)]) X55 C d13_18 rfl rfl rfl ?_
      refine W.getS (q := 22) X55 C (W.ww hw 21 rfl) Via.refl e55 SC d13_19 rfl (fun T56 X56 e56 => ?_)
      refine W.ifF (q := 25) X56 C d13_22 rfl hcs ?_
      refine W.aloadN (q := 26) X56 C d13_25 rfl rfl rfl ?_
      refine W.getF (host := "") (q := 29) X56 C (Or.inl (W.ww hw 41 rfl)) Via.refl e56 c0 d13_26 rfl (fun T57 X57 e57 => ?_)
      refine W.aloadN (q := 30) X57 C d13_29 rfl rfl rfl ?_
      refine W.getF (host := "") (q := 33) X57 C (Or.inl (W.ww hw 41 rfl)) Via.refl e57 c1 d13_30 rfl (fun T58 X58 e58 => ?_)
      refine W.icmpF (q := 36) X58 C d13_33 rfl (by decide : W.cF .ne (0 : Int32) (0 : Int32)) ?_
      refine W.aloadN (q := 37) X58 C d13_36 rfl rfl rfl ?_
      refine W.getF (host := "") (q := 40) X58 C (Or.inl (W.ww hw 39 rfl)) Via.refl e58 v0 d13_37 rfl (fun T59 X59 e59 => ?_)
      refine W.aloadN (q := 41) X59 C d13_40 rfl rfl rfl ?_
      refine W.getF (host := "") (q := 44) X59 C (Or.inl (W.ww hw 39 rfl)) Via.refl e59 v1 d13_41 rfl (fun T60 X60 e60 => ?_)
      refine W.callS (q := 47) X60 C (W.ww hw 81 rfl) (W.ww hw 82 rfl) (W.ww hw 24 rfl) (W.ww hw 83 rfl) (by decide) (rm14_10 l Z a0 hw [] b0 b1 kb0 kb1 x0 0 h0 n0 V0 V1) e60 d13_44 [(.ref b0), (.ref b1)] [] rfl rfl pd__28_5bB_5bB_29Z rfl rfl (by decide) (Nat.le_of_ble_eq_true rfl) (by decide) (by decide) rfl (fun T61 w61 L61 X61 hQ61 => ?_)
      obtain ⟨rfl, NL61, e61⟩ := hQ61
      have N61 := Fr.app N0 NL61
      show W.Go p e below _ (T61.setTop (mkF m 47 #[.val (.ref p0), .val (.ref p1), .val (.ref p1)] [(.int (0 : Int32))]))
      refine W.ifT (q := 54) X61 C d13_47 (by decide) (by decide) (by decide : W.cT .eq (0 : Int32) 0) ?_
      refine W.iconst (q := 55) (v := 0) X61 C d13_54 rfl rfl ?_
      exact W.retN X61 C (by simp) e61 d13_55 rfl (by decide) (by decide) ⟨by rw [if_neg (fun e => own_neg r0 (e.trans r1))] <;> rfl, N61, rfl⟩
    · show W.Go p e below _ (T0.setTop (mkF m 0 #[.val (.ref p0), .val (.ref p1), .unset] []))
      refine W.aloadN (q := 1) X0 C d13_0 rfl rfl rfl ?_
      refine W.aloadN (q := 2) X0 C d13_1 rfl rfl rfl ?_
      refine W.acmp (q := 7) X0 C rfl rfl (same := false) (decide_eq_false fun q => hpp (Value.ref.inj q)) d13_2 (by decide) (by decide) ?_
      refine W.aloadN (q := 8) X0 C d13_7 rfl rfl rfl ?_
      refine W.inst1 (q := 11) X0 C (W.ww hw 26 rfl) e0 (Ins.self E1) d13_8 rfl (fun T62 X62 e62 => ?_)
      refine W.ifF (q := 14) X62 C d13_11 rfl (by decide : W.cF .eq (1 : Int32) 0) ?_
      refine W.aloadN (q := 15) X62 C d13_14 rfl rfl rfl ?_
      refine W.cast (q := 18) X62 C (W.ww hw 26 rfl) e62 (Ins.self E1) d13_15 rfl (fun T63 X63 e63 => ?_)
      refine W.astoreN (q := 19) (L' := #[.val (.ref p0), .val (.ref p1), .val (.ref p1)]) X63 C d13_18 rfl rfl rfl ?_
      refine W.getS (q := 22) X63 C (W.ww hw 21 rfl) Via.refl e63 SC d13_19 rfl (fun T64 X64 e64 => ?_)
      refine W.ifF (q := 25) X64 C d13_22 rfl hcs ?_
      refine W.aloadN (q := 26) X64 C d13_25 rfl rfl rfl ?_
      refine W.getF (host := "") (q := 29) X64 C (Or.inl (W.ww hw 41 rfl)) Via.refl e64 c0 d13_26 rfl (fun T65 X65 e65 => ?_)
      refine W.aloadN (q := 30) X65 C d13_29 rfl rfl rfl ?_
      refine W.getF (host := "") (q := 33) X65 C (Or.inl (W.ww hw 41 rfl)) Via.refl e65 c1 d13_30 rfl (fun T66 X66 e66 => ?_)
      refine W.icmpF (q := 36) X66 C d13_33 rfl (by decide : W.cF .ne (0 : Int32) (0 : Int32)) ?_
      refine W.aloadN (q := 37) X66 C d13_36 rfl rfl rfl ?_
      refine W.getF (host := "") (q := 40) X66 C (Or.inl (W.ww hw 39 rfl)) Via.refl e66 v0 d13_37 rfl (fun T67 X67 e67 => ?_)
      refine W.aloadN (q := 41) X67 C d13_40 rfl rfl rfl ?_
      refine W.getF (host := "") (q := 44) X67 C (Or.inl (W.ww hw 39 rfl)) Via.refl e67 v1 d13_41 rfl (fun T68 X68 e68 => ?_)
      refine W.callS (q := 47) X68 C (W.ww hw 81 rfl) (W.ww hw 82 rfl) (W.ww hw 24 rfl) (W.ww hw 83 rfl) (by decide) (rm14_11 l Z a0 hw [] b0 b1 kb0 kb1 x0 x1 h0 n0 V0 V1) e68 d13_44 [(.ref b0), (.ref b1)] [] rfl rfl pd__28_5bB_5bB_29Z rfl rfl (by decide) (Nat.le_of_ble_eq_true rfl) (by decide) (by decide) rfl (fun T69 w69 L69 X69 hQ69 => ?_)
      obtain ⟨rfl, NL69, e69⟩ := hQ69
      have N69 := Fr.app N0 NL69
      show W.Go p e below _ (T69.setTop (mkF m 47 #[.val (.ref p0), .val (.ref p1), .val (.ref p1)] [(.int (if x0 = x1 then (1 : Int32) else 0))]))
      refine W.if_ (q := 54) (q' := 50) X69 C d13_47 (by decide) (by decide) rfl (fun hc70 => ?_) (fun hc70 => ?_)
      · replace hc70 : (if x0 = x1 then (1 : Int32) else 0) = 0 := hc70
        refine W.iconst (q := 55) (v := 0) X69 C d13_54 rfl rfl ?_
        exact W.retN X69 C (by simp) e69 d13_55 rfl (by decide) (by decide) ⟨by rw [if_neg (fun e => own_ite0 hc70 (by rw [u0, u1, e]))] <;> rfl, N69, rfl⟩
      · replace hc70 : (if x0 = x1 then (1 : Int32) else 0) ≠ 0 := hc70
        refine W.iconst (q := 51) (v := 1) X69 C d13_50 rfl rfl ?_
        refine W.goto (q := 55) X69 C d13_51 (by decide) (by decide) ?_
        exact W.retN X69 C (by simp) e69 d13_55 rfl (by decide) (by decide) ⟨by rw [if_pos (own_by_inj r0 (own_rg2 hk r0) r1 (own_rg2 hj r1) (u0.symm.trans ((own_ite1 hc70).trans u1)))] <;> rfl, N69, rfl⟩
def own_e5 (k0 k1 k2 k3 k4 j0 j1 j2 j3 j4 : Int32) : Int32 := if k0 = j0 ∧ k1 = j1 ∧ k2 = j2 ∧ k3 = j3 ∧ k4 = j4 then 1 else 0
theorem d12_0 : decode prog_20_method_7_code 0 = .ok (.aload_n 1, 1) := by decide +kernel
theorem d12_1 : decode prog_20_method_7_code 1 = .ok (.instanceof 18, 3) := by decide +kernel
theorem d12_4 : decode prog_20_method_7_code 4 = .ok (.ifCond .eq 11, 3) := by decide +kernel
theorem d12_7 : decode prog_20_method_7_code 7 = .ok (.aload_n 1, 1) := by decide +kernel
theorem d12_8 : decode prog_20_method_7_code 8 = .ok (.checkcast 18, 3) := by decide +kernel
theorem d12_11 : decode prog_20_method_7_code 11 = .ok (.astore_n 2, 1) := by decide +kernel
theorem d12_12 : decode prog_20_method_7_code 12 = .ok (.goto 5, 3) := by decide +kernel
theorem d12_17 : decode prog_20_method_7_code 17 = .ok (.aload_n 0, 1) := by decide +kernel
theorem d12_18 : decode prog_20_method_7_code 18 = .ok (.getfield 17, 3) := by decide +kernel
theorem d12_21 : decode prog_20_method_7_code 21 = .ok (.aload_n 2, 1) := by decide +kernel
theorem d12_22 : decode prog_20_method_7_code 22 = .ok (.getfield 17, 3) := by decide +kernel
theorem d12_25 : decode prog_20_method_7_code 25 = .ok (.invokevirtual 38, 3) := by decide +kernel
theorem pd__28Ljava_2flang_2fObject_3b_29Z : parseMethodDescriptor "(Ljava/lang/Object;)Z" = some ⟨[(.object "java/lang/Object")], some .boolean⟩ := by decide +kernel
theorem d12_28 : decode prog_20_method_7_code 28 = .ok (.ifCond .eq 63, 3) := by decide +kernel
theorem d12_91 : decode prog_20_method_7_code 91 = .ok (.iconst 0, 1) := by decide +kernel
theorem d12_92 : decode prog_20_method_7_code 92 = .ok (.ireturn, 1) := by decide +kernel
theorem d12_31 : decode prog_20_method_7_code 31 = .ok (.aload_n 0, 1) := by decide +kernel
theorem d12_32 : decode prog_20_method_7_code 32 = .ok (.getfield 24, 3) := by decide +kernel
theorem d12_35 : decode prog_20_method_7_code 35 = .ok (.aload_n 2, 1) := by decide +kernel
theorem d12_36 : decode prog_20_method_7_code 36 = .ok (.getfield 24, 3) := by decide +kernel
theorem d12_39 : decode prog_20_method_7_code 39 = .ok (.invokevirtual 38, 3) := by decide +kernel
theorem d12_42 : decode prog_20_method_7_code 42 = .ok (.ifCond .eq 49, 3) := by decide +kernel
theorem d12_45 : decode prog_20_method_7_code 45 = .ok (.aload_n 0, 1) := by decide +kernel
theorem d12_46 : decode prog_20_method_7_code 46 = .ok (.getfield 28, 3) := by decide +kernel
theorem d12_49 : decode prog_20_method_7_code 49 = .ok (.aload_n 2, 1) := by decide +kernel
theorem d12_50 : decode prog_20_method_7_code 50 = .ok (.getfield 28, 3) := by decide +kernel
theorem d12_53 : decode prog_20_method_7_code 53 = .ok (.invokevirtual 38, 3) := by decide +kernel
theorem d12_56 : decode prog_20_method_7_code 56 = .ok (.ifCond .eq 35, 3) := by decide +kernel
theorem d12_59 : decode prog_20_method_7_code 59 = .ok (.aload_n 0, 1) := by decide +kernel
theorem d12_60 : decode prog_20_method_7_code 60 = .ok (.getfield 32, 3) := by decide +kernel
theorem d12_63 : decode prog_20_method_7_code 63 = .ok (.aload_n 2, 1) := by decide +kernel
theorem d12_64 : decode prog_20_method_7_code 64 = .ok (.getfield 32, 3) := by decide +kernel
theorem d12_67 : decode prog_20_method_7_code 67 = .ok (.invokevirtual 38, 3) := by decide +kernel
theorem d12_70 : decode prog_20_method_7_code 70 = .ok (.ifCond .eq 21, 3) := by decide +kernel
theorem d12_73 : decode prog_20_method_7_code 73 = .ok (.aload_n 0, 1) := by decide +kernel
theorem d12_74 : decode prog_20_method_7_code 74 = .ok (.getfield 36, 3) := by decide +kernel
theorem d12_77 : decode prog_20_method_7_code 77 = .ok (.aload_n 2, 1) := by decide +kernel
theorem d12_78 : decode prog_20_method_7_code 78 = .ok (.getfield 36, 3) := by decide +kernel
theorem d12_81 : decode prog_20_method_7_code 81 = .ok (.invokevirtual 38, 3) := by decide +kernel
theorem d12_84 : decode prog_20_method_7_code 84 = .ok (.ifCond .eq 7, 3) := by decide +kernel
theorem d12_87 : decode prog_20_method_7_code 87 = .ok (.iconst 1, 1) := by decide +kernel
theorem d12_88 : decode prog_20_method_7_code 88 = .ok (.goto 4, 3) := by decide +kernel
theorem pn_com_example_cranfield_cranfield_formats_PreferenceJudgment : plainName "com/example/cranfield/cranfield/formats/PreferenceJudgment" = true := by first | (simp [plainName, overriddenIn]; done) | decide +kernel
def Q12_p (Z : State) (p0 p1 : Addr) (s0 s1 s2 s3 s4 t0 t1 t2 t3 t4 : Addr) (k0 k1 k2 k3 k4 j0 j1 j2 j3 j4 cs : Int32) (h0 : Heap) (n0 : Nat) (v : Option Value) (h : Heap) (L : List Loc) : Prop := v = some (.int (own_e5 k0 k1 k2 k3 k4 j0 j1 j2 j3 j4)) ∧ Fr n0 L ∧ h = h0
set_option maxRecDepth 65536 in
set_option maxHeartbeats 40000000 in
theorem rm12_p (l : Launch) (Z : State) (a0 : Array Value) (hw : ∀ d ∈ tables_1, d.before a0 Z = true) (ws : List Jvm.Cond) (p0 p1 : Addr) (s0 s1 s2 s3 s4 t0 t1 t2 t3 t4 : Addr) (k0 k1 k2 k3 k4 j0 j1 j2 j3 j4 cs : Int32) (h0 : Heap) (n0 : Nat) (E0 : Exa Z h0 p0 "com/example/cranfield/cranfield/formats/PreferenceJudgment") (E1 : Exa Z h0 p1 "com/example/cranfield/cranfield/formats/PreferenceJudgment") (F0 : Fld Z h0 p0 "com/example/cranfield/cranfield/formats/PreferenceJudgment" "queryId" "Ljava/lang/String;" (.ref s0)) (G0 : Fld Z h0 p1 "com/example/cranfield/cranfield/formats/PreferenceJudgment" "queryId" "Ljava/lang/String;" (.ref t0)) (S0 : own_str Z h0 s0 k0) (U0 : own_str Z h0 t0 j0) (hk0 : own_rg k0) (hj0 : own_rg j0) (F1 : Fld Z h0 p0 "com/example/cranfield/cranfield/formats/PreferenceJudgment" "left" "Ljava/lang/String;" (.ref s1)) (G1 : Fld Z h0 p1 "com/example/cranfield/cranfield/formats/PreferenceJudgment" "left" "Ljava/lang/String;" (.ref t1)) (S1 : own_str Z h0 s1 k1) (U1 : own_str Z h0 t1 j1) (hk1 : own_rg k1) (hj1 : own_rg j1) (F2 : Fld Z h0 p0 "com/example/cranfield/cranfield/formats/PreferenceJudgment" "right" "Ljava/lang/String;" (.ref s2)) (G2 : Fld Z h0 p1 "com/example/cranfield/cranfield/formats/PreferenceJudgment" "right" "Ljava/lang/String;" (.ref t2)) (S2 : own_str Z h0 s2 k2) (U2 : own_str Z h0 t2 j2) (hk2 : own_rg k2) (hj2 : own_rg j2) (F3 : Fld Z h0 p0 "com/example/cranfield/cranfield/formats/PreferenceJudgment" "preference" "Ljava/lang/String;" (.ref s3)) (G3 : Fld Z h0 p1 "com/example/cranfield/cranfield/formats/PreferenceJudgment" "preference" "Ljava/lang/String;" (.ref t3)) (S3 : own_str Z h0 s3 k3) (U3 : own_str Z h0 t3 j3) (hk3 : own_rg k3) (hj3 : own_rg j3) (F4 : Fld Z h0 p0 "com/example/cranfield/cranfield/formats/PreferenceJudgment" "comment" "Ljava/lang/String;" (.ref s4)) (G4 : Fld Z h0 p1 "com/example/cranfield/cranfield/formats/PreferenceJudgment" "comment" "Ljava/lang/String;" (.ref t4)) (S4 : own_str Z h0 s4 k4) (U4 : own_str Z h0 t4 j4) (hk4 : own_rg k4) (hj4 : own_rg j4) (SC : Sta Z h0 "java/lang/String" "COMPACT_STRINGS" "Z" (.int cs)) (hcs : cs ≠ 0) :
    MetFree l (⟨"com/example/cranfield/cranfield/formats/PreferenceJudgment", "equals", "(Ljava/lang/Object;)Z"⟩ : MethodName) (head1 (Jvm.Cond.code (⟨"com/example/cranfield/cranfield/formats/PreferenceJudgment", "equals", "(Ljava/lang/Object;)Z"⟩ : MethodName) prog_20_method_7_code 3 (some .boolean) :: ws) ({ frames := 2, cells := 0, slots := 0, locals := 40 } : Room)) (fun a U => a = #[(.ref p0), (.ref p1)] ∧ Z.Warmed39 U.vm ∧ U.heap = h0) (fun _ _ _ _ _ => True) (fun _ U o U' => ∃ v L, o = .returned v ∧ Q12_p Z p0 p1 s0 s1 s2 s3 s4 t0 t1 t2 t3 t4 k0 k1 k2 k3 k4 j0 j1 j2 j3 j4 cs h0 n0 v U'.heap L ∧ FrameEnd U o U' L ({ frames := 2, cells := 0, slots := 0, locals := 40 } : Room).cells ({ frames := 2, cells := 0, slots := 0, locals := 40 } : Room).slots) := by
  refine W.bodyOf (y := (⟨"com/example/cranfield/cranfield/formats/PreferenceJudgment", "equals", "(Ljava/lang/Object;)Z"⟩ : MethodName)) (as := #[(.ref p0), (.ref p1)]) (maxL := 3) (Q := Q12_p Z p0 p1 s0 s1 s2 s3 s4 t0 t1 t2 t3 t4 k0 k1 k2 k3 k4 j0 j1 j2 j3 j4 cs h0 n0) (Ls := #[.val (.ref p0), .val (.ref p1), .unset]) (plainFor_of_name pn_com_example_cranfield_cranfield_formats_PreferenceJudgment) (fun m => by first | exact W.entry_of rfl | rfl | (simp [entryFrame, mkF, argsToLocals, Value.category]; done)) ?_
  intro p e s m below meth c T0 C X0 e0
  have N0 := Fr.nil n0
  refine W.aloadN (q := 1) X0 C d12_0 rfl rfl rfl ?_
  refine W.inst1 (q := 4) X0 C (W.ww hw 74 rfl) e0 (Ins.self E1) d12_1 rfl (fun T71 X71 e71 => ?_)
  refine W.ifF (q := 7) X71 C d12_4 rfl (by decide : W.cF .eq (1 : Int32) 0) ?_
  refine W.aloadN (q := 8) X71 C d12_7 rfl rfl rfl ?_
  refine W.cast (q := 11) X71 C (W.ww hw 74 rfl) e71 (Ins.self E1) d12_8 rfl (fun T72 X72 e72 => ?_)
  refine W.astoreN (q := 12) (L' := #[.val (.ref p0), .val (.ref p1), .val (.ref p1)]) X72 C d12_11 rfl rfl rfl ?_
  refine W.goto (q := 17) X72 C d12_12 (by decide) (by decide) ?_
  refine W.aloadN (q := 18) X72 C d12_17 rfl rfl rfl ?_
  refine W.getF (host := "") (q := 21) X72 C (Or.inl (W.ww hw 55 rfl)) Via.refl e72 F0 d12_18 rfl (fun T73 X73 e73 => ?_)
  refine W.aloadN (q := 22) X73 C d12_21 rfl rfl rfl ?_
  refine W.getF (host := "") (q := 25) X73 C (Or.inl (W.ww hw 55 rfl)) Via.refl e73 G0 d12_22 rfl (fun T74 X74 e74 => ?_)
  refine W.callV (q := 28) X74 C (W.ww hw 76 rfl) (W.ww hw 77 rfl) (W.nf C (W.ww hw 79 rfl)) (W.ww hw 79 rfl) (W.ww hw 78 rfl) (W.ww hw 19 rfl) (W.ww hw 80 rfl) (by decide) (rm13 l Z a0 hw [] s0 t0 k0 j0 cs h0 n0 S0 U0 hk0 hj0 SC hcs) e74 S0.exa d12_25 [(.ref t0)] [] rfl rfl pd__28Ljava_2flang_2fObject_3b_29Z rfl rfl (by decide) (Nat.le_of_ble_eq_true rfl) (by decide) (by decide) rfl (fun T75 w75 L75 X75 hQ75 => ?_)
  obtain ⟨rfl, NL75, e75⟩ := hQ75
  have N75 := Fr.app N0 NL75
  show W.Go p e below _ (T75.setTop (mkF m 28 #[.val (.ref p0), .val (.ref p1), .val (.ref p1)] [(.int (if k0 = j0 then (1 : Int32) else 0))]))
  refine W.if_ (q := 91) (q' := 31) X75 C d12_28 (by decide) (by decide) rfl (fun hc76 => ?_) (fun hc76 => ?_)
  · replace hc76 : (if k0 = j0 then (1 : Int32) else 0) = 0 := hc76
    replace hc76 := own_ite0 hc76
    refine W.iconst (q := 92) (v := 0) X75 C d12_91 rfl rfl ?_
    exact W.retN X75 C (by simp) e75 d12_92 rfl (by decide) (by decide) ⟨by rw [own_e5, if_neg (fun e => hc76 e.1)] <;> rfl, N75, rfl⟩
  · replace hc76 : (if k0 = j0 then (1 : Int32) else 0) ≠ 0 := hc76
    replace hc76 := own_ite1 hc76
    refine W.aloadN (q := 32) X75 C d12_31 rfl rfl rfl ?_
    refine W.getF (host := "") (q := 35) X75 C (Or.inl (W.ww hw 58 rfl)) Via.refl e75 F1 d12_32 rfl (fun T77 X77 e77 => ?_)
    refine W.aloadN (q := 36) X77 C d12_35 rfl rfl rfl ?_
    refine W.getF (host := "") (q := 39) X77 C (Or.inl (W.ww hw 58 rfl)) Via.refl e77 G1 d12_36 rfl (fun T78 X78 e78 => ?_)
    refine W.callV (q := 42) X78 C (W.ww hw 76 rfl) (W.ww hw 77 rfl) (W.nf C (W.ww hw 79 rfl)) (W.ww hw 79 rfl) (W.ww hw 78 rfl) (W.ww hw 19 rfl) (W.ww hw 80 rfl) (by decide) (rm13 l Z a0 hw [] s1 t1 k1 j1 cs h0 n0 S1 U1 hk1 hj1 SC hcs) e78 S1.exa d12_39 [(.ref t1)] [] rfl rfl pd__28Ljava_2flang_2fObject_3b_29Z rfl rfl (by decide) (Nat.le_of_ble_eq_true rfl) (by decide) (by decide) rfl (fun T79 w79 L79 X79 hQ79 => ?_)
    obtain ⟨rfl, NL79, e79⟩ := hQ79
    have N79 := Fr.app N75 NL79
    show W.Go p e below _ (T79.setTop (mkF m 42 #[.val (.ref p0), .val (.ref p1), .val (.ref p1)] [(.int (if k1 = j1 then (1 : Int32) else 0))]))
    refine W.if_ (q := 91) (q' := 45) X79 C d12_42 (by decide) (by decide) rfl (fun hc80 => ?_) (fun hc80 => ?_)
    · replace hc80 : (if k1 = j1 then (1 : Int32) else 0) = 0 := hc80
      replace hc80 := own_ite0 hc80
      refine W.iconst (q := 92) (v := 0) X79 C d12_91 rfl rfl ?_
      exact W.retN X79 C (by simp) e79 d12_92 rfl (by decide) (by decide) ⟨by rw [own_e5, if_neg (fun e => hc80 e.2.1)] <;> rfl, N79, rfl⟩
    · replace hc80 : (if k1 = j1 then (1 : Int32) else 0) ≠ 0 := hc80
      replace hc80 := own_ite1 hc80
      refine W.aloadN (q := 46) X79 C d12_45 rfl rfl rfl ?_
      refine W.getF (host := "") (q := 49) X79 C (Or.inl (W.ww hw 61 rfl)) Via.refl e79 F2 d12_46 rfl (fun T81 X81 e81 => ?_)
      refine W.aloadN (q := 50) X81 C d12_49 rfl rfl rfl ?_
      refine W.getF (host := "") (q := 53) X81 C (Or.inl (W.ww hw 61 rfl)) Via.refl e81 G2 d12_50 rfl (fun T82 X82 e82 => ?_)
      refine W.callV (q := 56) X82 C (W.ww hw 76 rfl) (W.ww hw 77 rfl) (W.nf C (W.ww hw 79 rfl)) (W.ww hw 79 rfl) (W.ww hw 78 rfl) (W.ww hw 19 rfl) (W.ww hw 80 rfl) (by decide) (rm13 l Z a0 hw [] s2 t2 k2 j2 cs h0 n0 S2 U2 hk2 hj2 SC hcs) e82 S2.exa d12_53 [(.ref t2)] [] rfl rfl pd__28Ljava_2flang_2fObject_3b_29Z rfl rfl (by decide) (Nat.le_of_ble_eq_true rfl) (by decide) (by decide) rfl (fun T83 w83 L83 X83 hQ83 => ?_)
      obtain ⟨rfl, NL83, e83⟩ := hQ83
      have N83 := Fr.app N79 NL83
      show W.Go p e below _ (T83.setTop (mkF m 56 #[.val (.ref p0), .val (.ref p1), .val (.ref p1)] [(.int (if k2 = j2 then (1 : Int32) else 0))]))
      refine W.if_ (q := 91) (q' := 59) X83 C d12_56 (by decide) (by decide) rfl (fun hc84 => ?_) (fun hc84 => ?_)
      · replace hc84 : (if k2 = j2 then (1 : Int32) else 0) = 0 := hc84
        replace hc84 := own_ite0 hc84
        refine W.iconst (q := 92) (v := 0) X83 C d12_91 rfl rfl ?_
        exact W.retN X83 C (by simp) e83 d12_92 rfl (by decide) (by decide) ⟨by rw [own_e5, if_neg (fun e => hc84 e.2.2.1)] <;> rfl, N83, rfl⟩
      · replace hc84 : (if k2 = j2 then (1 : Int32) else 0) ≠ 0 := hc84
        replace hc84 := own_ite1 hc84
        refine W.aloadN (q := 60) X83 C d12_59 rfl rfl rfl ?_
        refine W.getF (host := "") (q := 63) X83 C (Or.inl (W.ww hw 64 rfl)) Via.refl e83 F3 d12_60 rfl (fun T85 X85 e85 => ?_)
        refine W.aloadN (q := 64) X85 C d12_63 rfl rfl rfl ?_
        refine W.getF (host := "") (q := 67) X85 C (Or.inl (W.ww hw 64 rfl)) Via.refl e85 G3 d12_64 rfl (fun T86 X86 e86 => ?_)
        refine W.callV (q := 70) X86 C (W.ww hw 76 rfl) (W.ww hw 77 rfl) (W.nf C (W.ww hw 79 rfl)) (W.ww hw 79 rfl) (W.ww hw 78 rfl) (W.ww hw 19 rfl) (W.ww hw 80 rfl) (by decide) (rm13 l Z a0 hw [] s3 t3 k3 j3 cs h0 n0 S3 U3 hk3 hj3 SC hcs) e86 S3.exa d12_67 [(.ref t3)] [] rfl rfl pd__28Ljava_2flang_2fObject_3b_29Z rfl rfl (by decide) (Nat.le_of_ble_eq_true rfl) (by decide) (by decide) rfl (fun T87 w87 L87 X87 hQ87 => ?_)
        obtain ⟨rfl, NL87, e87⟩ := hQ87
        have N87 := Fr.app N83 NL87
        show W.Go p e below _ (T87.setTop (mkF m 70 #[.val (.ref p0), .val (.ref p1), .val (.ref p1)] [(.int (if k3 = j3 then (1 : Int32) else 0))]))
        refine W.if_ (q := 91) (q' := 73) X87 C d12_70 (by decide) (by decide) rfl (fun hc88 => ?_) (fun hc88 => ?_)
        · replace hc88 : (if k3 = j3 then (1 : Int32) else 0) = 0 := hc88
          replace hc88 := own_ite0 hc88
          refine W.iconst (q := 92) (v := 0) X87 C d12_91 rfl rfl ?_
          exact W.retN X87 C (by simp) e87 d12_92 rfl (by decide) (by decide) ⟨by rw [own_e5, if_neg (fun e => hc88 e.2.2.2.1)] <;> rfl, N87, rfl⟩
        · replace hc88 : (if k3 = j3 then (1 : Int32) else 0) ≠ 0 := hc88
          replace hc88 := own_ite1 hc88
          refine W.aloadN (q := 74) X87 C d12_73 rfl rfl rfl ?_
          refine W.getF (host := "") (q := 77) X87 C (Or.inl (W.ww hw 67 rfl)) Via.refl e87 F4 d12_74 rfl (fun T89 X89 e89 => ?_)
          refine W.aloadN (q := 78) X89 C d12_77 rfl rfl rfl ?_
          refine W.getF (host := "") (q := 81) X89 C (Or.inl (W.ww hw 67 rfl)) Via.refl e89 G4 d12_78 rfl (fun T90 X90 e90 => ?_)
          refine W.callV (q := 84) X90 C (W.ww hw 76 rfl) (W.ww hw 77 rfl) (W.nf C (W.ww hw 79 rfl)) (W.ww hw 79 rfl) (W.ww hw 78 rfl) (W.ww hw 19 rfl) (W.ww hw 80 rfl) (by decide) (rm13 l Z a0 hw [] s4 t4 k4 j4 cs h0 n0 S4 U4 hk4 hj4 SC hcs) e90 S4.exa d12_81 [(.ref t4)] [] rfl rfl pd__28Ljava_2flang_2fObject_3b_29Z rfl rfl (by decide) (Nat.le_of_ble_eq_true rfl) (by decide) (by decide) rfl (fun T91 w91 L91 X91 hQ91 => ?_)
          obtain ⟨rfl, NL91, e91⟩ := hQ91
          have N91 := Fr.app N87 NL91
          show W.Go p e below _ (T91.setTop (mkF m 84 #[.val (.ref p0), .val (.ref p1), .val (.ref p1)] [(.int (if k4 = j4 then (1 : Int32) else 0))]))
          refine W.if_ (q := 91) (q' := 87) X91 C d12_84 (by decide) (by decide) rfl (fun hc92 => ?_) (fun hc92 => ?_)
          · replace hc92 : (if k4 = j4 then (1 : Int32) else 0) = 0 := hc92
            replace hc92 := own_ite0 hc92
            refine W.iconst (q := 92) (v := 0) X91 C d12_91 rfl rfl ?_
            exact W.retN X91 C (by simp) e91 d12_92 rfl (by decide) (by decide) ⟨by rw [own_e5, if_neg (fun e => hc92 e.2.2.2.2)] <;> rfl, N91, rfl⟩
          · replace hc92 : (if k4 = j4 then (1 : Int32) else 0) ≠ 0 := hc92
            replace hc92 := own_ite1 hc92
            refine W.iconst (q := 88) (v := 1) X91 C d12_87 rfl rfl ?_
            refine W.goto (q := 92) X91 C d12_88 (by decide) (by decide) ?_
            exact W.retN X91 C (by simp) e91 d12_92 rfl (by decide) (by decide) ⟨by rw [own_e5, if_pos ⟨hc76, hc80, hc84, hc88, hc92⟩] <;> rfl, N91, rfl⟩
theorem d12_15 : decode prog_20_method_7_code 15 = .ok (.iconst 0, 1) := by decide +kernel
theorem d12_16 : decode prog_20_method_7_code 16 = .ok (.ireturn, 1) := by decide +kernel
def Q12_n (Z : State) (p0 : Addr) (h0 : Heap) (n0 : Nat) (v : Option Value) (h : Heap) (L : List Loc) : Prop := v = some (.int 0) ∧ Fr n0 L ∧ h = h0
set_option maxRecDepth 65536 in
set_option maxHeartbeats 40000000 in
theorem rm12_n (l : Launch) (Z : State) (a0 : Array Value) (hw : ∀ d ∈ tables_1, d.before a0 Z = true) (ws : List Jvm.Cond) (p0 : Addr) (h0 : Heap) (n0 : Nat) :
    MetFree l (⟨"com/example/cranfield/cranfield/formats/PreferenceJudgment", "equals", "(Ljava/lang/Object;)Z"⟩ : MethodName) (head1 (Jvm.Cond.code (⟨"com/example/cranfield/cranfield/formats/PreferenceJudgment", "equals", "(Ljava/lang/Object;)Z"⟩ : MethodName) prog_20_method_7_code 3 (some .boolean) :: ws) ({ frames := 0, cells := 0, slots := 0, locals := 0 } : Room)) (fun a U => a = #[(.ref p0), .null] ∧ Z.Warmed39 U.vm ∧ U.heap = h0) (fun _ _ _ _ _ => True) (fun _ U o U' => ∃ v L, o = .returned v ∧ Q12_n Z p0 h0 n0 v U'.heap L ∧ FrameEnd U o U' L ({ frames := 0, cells := 0, slots := 0, locals := 0 } : Room).cells ({ frames := 0, cells := 0, slots := 0, locals := 0 } : Room).slots) := by
  refine W.bodyOf (y := (⟨"com/example/cranfield/cranfield/formats/PreferenceJudgment", "equals", "(Ljava/lang/Object;)Z"⟩ : MethodName)) (as := #[(.ref p0), .null]) (maxL := 3) (Q := Q12_n Z p0 h0 n0) (Ls := #[.val (.ref p0), .val .null, .unset]) (plainFor_of_name pn_com_example_cranfield_cranfield_formats_PreferenceJudgment) (fun m => by first | exact W.entry_of rfl | rfl | (simp [entryFrame, mkF, argsToLocals, Value.category]; done)) ?_
  intro p e s m below meth c T0 C X0 e0
  have N0 := Fr.nil n0
  refine W.aloadN (q := 1) X0 C d12_0 rfl rfl rfl ?_
  refine W.instNull (q := 4) X0 C d12_1 rfl ?_
  refine W.ifT (q := 15) X0 C d12_4 (by decide) (by decide) (by decide : W.cT .eq (0 : Int32) 0) ?_
  refine W.iconst (q := 16) (v := 0) X0 C d12_15 rfl rfl ?_
  exact W.retN X0 C (by simp) e0 d12_16 rfl (by decide) (by decide) ⟨rfl, N0, rfl⟩
def Q12_s (Z : State) (p0 p1 : Addr) (h0 : Heap) (n0 : Nat) (v : Option Value) (h : Heap) (L : List Loc) : Prop := v = some (.int 0) ∧ Fr n0 L ∧ h = h0
set_option maxRecDepth 65536 in
set_option maxHeartbeats 40000000 in
theorem rm12_s (l : Launch) (Z : State) (a0 : Array Value) (hw : ∀ d ∈ tables_1, d.before a0 Z = true) (ws : List Jvm.Cond) (p0 p1 : Addr) (h0 : Heap) (n0 : Nat) (E1 : Exa Z h0 p1 "java/lang/String") :
    MetFree l (⟨"com/example/cranfield/cranfield/formats/PreferenceJudgment", "equals", "(Ljava/lang/Object;)Z"⟩ : MethodName) (head1 (Jvm.Cond.code (⟨"com/example/cranfield/cranfield/formats/PreferenceJudgment", "equals", "(Ljava/lang/Object;)Z"⟩ : MethodName) prog_20_method_7_code 3 (some .boolean) :: ws) ({ frames := 0, cells := 0, slots := 0, locals := 0 } : Room)) (fun a U => a = #[(.ref p0), (.ref p1)] ∧ Z.Warmed39 U.vm ∧ U.heap = h0) (fun _ _ _ _ _ => True) (fun _ U o U' => ∃ v L, o = .returned v ∧ Q12_s Z p0 p1 h0 n0 v U'.heap L ∧ FrameEnd U o U' L ({ frames := 0, cells := 0, slots := 0, locals := 0 } : Room).cells ({ frames := 0, cells := 0, slots := 0, locals := 0 } : Room).slots) := by
  refine W.bodyOf (y := (⟨"com/example/cranfield/cranfield/formats/PreferenceJudgment", "equals", "(Ljava/lang/Object;)Z"⟩ : MethodName)) (as := #[(.ref p0), (.ref p1)]) (maxL := 3) (Q := Q12_s Z p0 p1 h0 n0) (Ls := #[.val (.ref p0), .val (.ref p1), .unset]) (plainFor_of_name pn_com_example_cranfield_cranfield_formats_PreferenceJudgment) (fun m => by first | exact W.entry_of rfl | rfl | (simp [entryFrame, mkF, argsToLocals, Value.category]; done)) ?_
  intro p e s m below meth c T0 C X0 e0
  have N0 := Fr.nil n0
  refine W.aloadN (q := 1) X0 C d12_0 rfl rfl rfl ?_
  refine W.inst0 (q := 4) X0 C (W.ww hw 74 rfl) e0 E1 (W.nsNo (W.ww hw 85 rfl) (W.ww hw 12 rfl) (NS.step (W.ww hw 85 rfl) (W.nsRoot (W.ww hw 86 rfl) (W.ww hw 12 rfl) (by decide)) (by decide)) (by decide)) d12_1 rfl (fun T93 X93 e93 => ?_)
  refine W.ifT (q := 15) X93 C d12_4 (by decide) (by decide) (by decide : W.cT .eq (0 : Int32) 0) ?_
  refine W.iconst (q := 16) (v := 0) X93 C d12_15 rfl rfl ?_
  exact W.retN X93 C (by simp) e93 d12_16 rfl (by decide) (by decide) ⟨rfl, N0, rfl⟩
theorem d4_0 : decode method_3_code 0 = .ok (.iload_n 0, 1) := by decide +kernel
theorem d4_1 : decode method_3_code 1 = .ok (.ifCond .ge 6, 3) := by decide +kernel
theorem d4_7 : decode method_3_code 7 = .ok (.iload_n 0, 1) := by decide +kernel
theorem d4_8 : decode method_3_code 8 = .ok (.i2c, 1) := by decide +kernel
theorem d4_9 : decode method_3_code 9 = .ok (.invokestatic 9, 3) := by decide +kernel
theorem pd__28C_29Ljava_2flang_2fString_3b : parseMethodDescriptor "(C)Ljava/lang/String;" = some ⟨[.char], some (.object "java/lang/String")⟩ := by decide +kernel
theorem d4_12 : decode method_3_code 12 = .ok (.areturn, 1) := by decide +kernel
theorem d4_4 : decode method_3_code 4 = .ok (.ldc 7, 2) := by decide +kernel
theorem d4_6 : decode method_3_code 6 = .ok (.areturn, 1) := by decide +kernel
theorem own_rgn {k : Int32} (h : own_rg k) (h0 : k.toInt < (0 : Int32).toInt) : k = -1 := by
  rcases h with q | q
  · exact q
  · have : (0 : Int32).toInt = 0 := rfl
    omega
def Q4 (Z : State) (p0 cs : Int32) (h0 : Heap) (n0 : Nat) (v : Option Value) (h : Heap) (L : List Loc) : Prop := ∃ a, v = some (.ref a) ∧ Fr n0 L ∧ Keep h0 h [] ∧ own_str Z h a p0
set_option maxRecDepth 65536 in
set_option maxHeartbeats 40000000 in
theorem rm4 (l : Launch) (Z : State) (a0 : Array Value) (hw : ∀ d ∈ tables_1, d.before a0 Z = true) (ws : List Jvm.Cond) (p0 cs : Int32) (h0 : Heap) (n0 : Nat) (Z0 : n0 ≤ h0.size) (hr : own_rg p0) (O0 : Old Z n0 h0) (SC : Sta Z Z.heap "java/lang/String" "COMPACT_STRINGS" "Z" (.int cs)) (hcs : cs ≠ 0) :
    MetFree l (⟨"com/example/cranfield/cranfield/formats/PreferenceJudgmentEqualsPinLaw", "str", "(I)Ljava/lang/String;"⟩ : MethodName) (head1 (Jvm.Cond.code (⟨"com/example/cranfield/cranfield/formats/PreferenceJudgmentEqualsPinLaw", "str", "(I)Ljava/lang/String;"⟩ : MethodName) method_3_code 1 (some (.object "java/lang/String")) :: ws) ({ frames := 3, cells := 2, slots := 5, locals := 48 } : Room)) (fun a U => a = #[(.int p0)] ∧ Z.Warmed39 U.vm ∧ U.heap = h0 ∧ CHv Z own_el U.vm h0) (fun _ _ _ _ _ => True) (fun _ U o U' => ∃ v L, o = .returned v ∧ Q4 Z p0 cs h0 n0 v U'.heap L ∧ CHr Z own_el U.vm U.heap U'.vm U'.heap ∧ ReturnedEndW U o U' L ({ frames := 3, cells := 2, slots := 5, locals := 48 } : Room).cells ({ frames := 3, cells := 2, slots := 5, locals := 48 } : Room).slots) := by
  refine W.bodyOfH (y := (⟨"com/example/cranfield/cranfield/formats/PreferenceJudgmentEqualsPinLaw", "str", "(I)Ljava/lang/String;"⟩ : MethodName)) (as := #[(.int p0)]) (maxL := 1) (Q := Q4 Z p0 cs h0 n0) (Ls := #[.val (.int p0)]) (plainFor_of_name pn_com_example_cranfield_cranfield_formats_PreferenceJudgmentEqualsPinLaw) (fun m => by first | exact W.entry_of rfl | rfl | (simp [entryFrame, mkF, argsToLocals, Value.category]; done)) ?_
  intro p e s m below meth c T0 C X0 e0 hs hH hS0
  have R0 : CHr Z own_el s.vm s.heap s.vm h0 := by rw [hs]; exact CHr.refl hH
  have hk0 : 0 ≤ h0.size := Nat.zero_le _
  have N0 := Fr.nil n0
  have K0 := Keep.refl h0 []
  refine W.iloadN (q := 1) X0 C d4_0 rfl rfl ?_
  refine W.if_ (q := 7) (q' := 4) X0 C d4_1 (by decide) (by decide) rfl (fun hc94 => ?_) (fun hc94 => ?_)
  · replace hc94 : (0 : Int32).toInt ≤ p0.toInt := hc94
    refine W.iloadN (q := 8) X0 C d4_7 rfl rfl ?_
    refine W.i2c (q := 9) X0 C d4_8 rfl ?_
    rw [own_chr hr hc94]
    refine W.callS (q := 12) X0 C (W.ww hw 17 rfl) (W.ww hw 18 rfl) (W.ww hw 19 rfl) (W.ww hw 20 rfl) (by decide) (rm5 l Z a0 hw [] p0 cs h0 n0 Z0 (own_rg2 hr hc94) hc94 O0 SC hcs) e0 d4_9 [(.int p0)] [] rfl rfl pd__28C_29Ljava_2flang_2fString_3b rfl rfl (by decide) (Nat.le_of_ble_eq_true rfl) (by decide) (by decide) rfl (fun T95 w95 L95 X95 hQ95 => ?_)
    obtain ⟨b95, rfl, NL95, K95, Yn95⟩ := hQ95
    have N95 := Fr.app N0 NL95
    have R_96 := R0.trans (CHr.keep K95 sf0 R0.1)
    have hk0_98 := Nat.le_trans hk0 K95.1
    have O0_99 := O0.keep K95 all0
    have n0_95 : n0 ≤ T95.heap.size := Nat.le_trans Z0 K95.1
    have KK95 := K0.trans K95 all0
    show W.Go p e below _ (T95.setTop (mkF m 12 #[.val (.int p0)] [(.ref b95)]))
    exact W.retAH X95 C rfl rfl rfl d4_12 (by decide) (by decide) hS0 hk0_98 (own_EL hw) R_96 ⟨_, rfl, N95, KK95, Yn95⟩
  · replace hc94 : p0.toInt < (0 : Int32).toInt := hc94
    refine W.ldcC (q := 6) (s := s) (EL := own_el) (vs := []) (z := (0 : Int32)) X0 C (W.ww hw 84 rfl) (own_wS hw) e0 hS0 hk0 (own_EL hw) (List.mem_singleton.mpr rfl) R0.1 (by simp) (by decide) rfl d4_4 0 (by decide) (by decide) (by decide) (by decide) rfl (fun sa100 T100 h100 kk100 sb100 sk100 X100 C e100 E100 hS100 hk100 A100 fc100 fv100 V100 Rn100 => ?_)
    have O0_102 := O0.ext E100
    have K100 := K0.ext E100
    have n0_100 : n0 ≤ h100.size := Nat.le_trans Z0 E100.1
    have R_100 := R0.trans Rn100
    have Yn100 : own_str Z h100 sa100 p0 := ⟨_, _, 0, A100, fc100, fv100, Or.inl ⟨own_rgn hr hc94, V100⟩⟩
    exact W.retAH X100 C rfl e100 rfl d4_6 (by decide) (by decide) hS100 hk100 (own_EL hw) R_100 ⟨_, rfl, N0, K100, Yn100⟩
theorem d10_0 : decode prog_20_method_1_code 0 = .ok (.aload_n 0, 1) := by decide +kernel
theorem d10_1 : decode prog_20_method_1_code 1 = .ok (.invokespecial 1, 3) := by decide +kernel
theorem d10_4 : decode prog_20_method_1_code 4 = .ok (.aload_n 0, 1) := by decide +kernel
theorem d10_5 : decode prog_20_method_1_code 5 = .ok (.aload_n 1, 1) := by decide +kernel
theorem d10_6 : decode prog_20_method_1_code 6 = .ok (.ldc 7, 2) := by decide +kernel
theorem d10_8 : decode prog_20_method_1_code 8 = .ok (.invokestatic 9, 3) := by decide +kernel
theorem pd__28Ljava_2flang_2fObject_3bLjava_2flang_2fString_3b_29Ljava_2flang_2fObject_3b : parseMethodDescriptor "(Ljava/lang/Object;Ljava/lang/String;)Ljava/lang/Object;" = some ⟨[(.object "java/lang/Object"), (.object "java/lang/String")], some (.object "java/lang/Object")⟩ := by decide +kernel
theorem d10_11 : decode prog_20_method_1_code 11 = .ok (.checkcast 15, 3) := by decide +kernel
theorem d10_14 : decode prog_20_method_1_code 14 = .ok (.putfield 17, 3) := by decide +kernel
theorem d10_17 : decode prog_20_method_1_code 17 = .ok (.aload_n 0, 1) := by decide +kernel
theorem d10_18 : decode prog_20_method_1_code 18 = .ok (.aload_n 2, 1) := by decide +kernel
theorem d10_19 : decode prog_20_method_1_code 19 = .ok (.ldc 22, 2) := by decide +kernel
theorem d10_21 : decode prog_20_method_1_code 21 = .ok (.invokestatic 9, 3) := by decide +kernel
theorem d10_24 : decode prog_20_method_1_code 24 = .ok (.checkcast 15, 3) := by decide +kernel
theorem d10_27 : decode prog_20_method_1_code 27 = .ok (.putfield 24, 3) := by decide +kernel
theorem d10_30 : decode prog_20_method_1_code 30 = .ok (.aload_n 0, 1) := by decide +kernel
theorem d10_31 : decode prog_20_method_1_code 31 = .ok (.aload_n 3, 1) := by decide +kernel
theorem d10_32 : decode prog_20_method_1_code 32 = .ok (.ldc 26, 2) := by decide +kernel
theorem d10_34 : decode prog_20_method_1_code 34 = .ok (.invokestatic 9, 3) := by decide +kernel
theorem d10_37 : decode prog_20_method_1_code 37 = .ok (.checkcast 15, 3) := by decide +kernel
theorem d10_40 : decode prog_20_method_1_code 40 = .ok (.putfield 28, 3) := by decide +kernel
theorem d10_43 : decode prog_20_method_1_code 43 = .ok (.aload_n 0, 1) := by decide +kernel
theorem d10_44 : decode prog_20_method_1_code 44 = .ok (.aload 4, 2) := by decide +kernel
theorem d10_46 : decode prog_20_method_1_code 46 = .ok (.ldc 30, 2) := by decide +kernel
theorem d10_48 : decode prog_20_method_1_code 48 = .ok (.invokestatic 9, 3) := by decide +kernel
theorem d10_51 : decode prog_20_method_1_code 51 = .ok (.checkcast 15, 3) := by decide +kernel
theorem d10_54 : decode prog_20_method_1_code 54 = .ok (.putfield 32, 3) := by decide +kernel
theorem d10_57 : decode prog_20_method_1_code 57 = .ok (.aload_n 0, 1) := by decide +kernel
theorem d10_58 : decode prog_20_method_1_code 58 = .ok (.aload 5, 2) := by decide +kernel
theorem d10_60 : decode prog_20_method_1_code 60 = .ok (.ldc 34, 2) := by decide +kernel
theorem d10_62 : decode prog_20_method_1_code 62 = .ok (.invokestatic 9, 3) := by decide +kernel
theorem d10_65 : decode prog_20_method_1_code 65 = .ok (.checkcast 15, 3) := by decide +kernel
theorem d10_68 : decode prog_20_method_1_code 68 = .ok (.putfield 36, 3) := by decide +kernel
theorem d10_71 : decode prog_20_method_1_code 71 = .ok (.return_, 1) := by decide +kernel
def Q10 (Z : State) (p0 p1 p2 p3 p4 p5 : Addr) (h0 : Heap) (n0 : Nat) (v : Option Value) (h : Heap) (L : List Loc) : Prop := v = none ∧ Fr n0 L ∧ Keep h0 h [p0] ∧ Exa Z h p0 "com/example/cranfield/cranfield/formats/PreferenceJudgment" ∧ Fld Z h p0 "com/example/cranfield/cranfield/formats/PreferenceJudgment" "queryId" "Ljava/lang/String;" (.ref p1) ∧ Fld Z h p0 "com/example/cranfield/cranfield/formats/PreferenceJudgment" "left" "Ljava/lang/String;" (.ref p2) ∧ Fld Z h p0 "com/example/cranfield/cranfield/formats/PreferenceJudgment" "right" "Ljava/lang/String;" (.ref p3) ∧ Fld Z h p0 "com/example/cranfield/cranfield/formats/PreferenceJudgment" "preference" "Ljava/lang/String;" (.ref p4) ∧ Fld Z h p0 "com/example/cranfield/cranfield/formats/PreferenceJudgment" "comment" "Ljava/lang/String;" (.ref p5)
set_option maxRecDepth 65536 in
set_option maxHeartbeats 40000000 in
theorem rm10 (l : Launch) (Z : State) (a0 : Array Value) (hw : ∀ d ∈ tables_1, d.before a0 Z = true) (ws : List Jvm.Cond) (p0 p1 p2 p3 p4 p5 : Addr) (h0 : Heap) (n0 : Nat) (Z0 : n0 ≤ h0.size) (hge : n0 ≤ p0) (E0 : Exa Z h0 p0 "com/example/cranfield/cranfield/formats/PreferenceJudgment") (F0 : Fld Z h0 p0 "com/example/cranfield/cranfield/formats/PreferenceJudgment" "queryId" "Ljava/lang/String;" .null) (F1 : Fld Z h0 p0 "com/example/cranfield/cranfield/formats/PreferenceJudgment" "left" "Ljava/lang/String;" .null) (F2 : Fld Z h0 p0 "com/example/cranfield/cranfield/formats/PreferenceJudgment" "right" "Ljava/lang/String;" .null) (F3 : Fld Z h0 p0 "com/example/cranfield/cranfield/formats/PreferenceJudgment" "preference" "Ljava/lang/String;" .null) (F4 : Fld Z h0 p0 "com/example/cranfield/cranfield/formats/PreferenceJudgment" "comment" "Ljava/lang/String;" .null) (E1 : Exa Z h0 p1 "java/lang/String") (E2 : Exa Z h0 p2 "java/lang/String") (E3 : Exa Z h0 p3 "java/lang/String") (E4 : Exa Z h0 p4 "java/lang/String") (E5 : Exa Z h0 p5 "java/lang/String") :
    MetFree l (⟨"com/example/cranfield/cranfield/formats/PreferenceJudgment", "<init>", "(Ljava/lang/String;Ljava/lang/String;Ljava/lang/String;Ljava/lang/String;Ljava/lang/String;)V"⟩ : MethodName) (head1 (Jvm.Cond.code (⟨"com/example/cranfield/cranfield/formats/PreferenceJudgment", "<init>", "(Ljava/lang/String;Ljava/lang/String;Ljava/lang/String;Ljava/lang/String;Ljava/lang/String;)V"⟩ : MethodName) prog_20_method_1_code 6 none :: ws) ({ frames := 1, cells := 10, slots := 152, locals := 24 } : Room)) (fun a U => a = #[(.ref p0), (.ref p1), (.ref p2), (.ref p3), (.ref p4), (.ref p5)] ∧ Z.Warmed39 U.vm ∧ U.heap = h0 ∧ CHv Z own_el U.vm h0) (fun _ _ _ _ _ => True) (fun _ U o U' => ∃ v L, o = .returned v ∧ Q10 Z p0 p1 p2 p3 p4 p5 h0 n0 v U'.heap L ∧ CHr Z own_el U.vm U.heap U'.vm U'.heap ∧ ReturnedEndW U o U' L ({ frames := 1, cells := 10, slots := 152, locals := 24 } : Room).cells ({ frames := 1, cells := 10, slots := 152, locals := 24 } : Room).slots) := by
  refine W.bodyOfH (y := (⟨"com/example/cranfield/cranfield/formats/PreferenceJudgment", "<init>", "(Ljava/lang/String;Ljava/lang/String;Ljava/lang/String;Ljava/lang/String;Ljava/lang/String;)V"⟩ : MethodName)) (as := #[(.ref p0), (.ref p1), (.ref p2), (.ref p3), (.ref p4), (.ref p5)]) (maxL := 6) (Q := Q10 Z p0 p1 p2 p3 p4 p5 h0 n0) (Ls := #[.val (.ref p0), .val (.ref p1), .val (.ref p2), .val (.ref p3), .val (.ref p4), .val (.ref p5)]) (plainFor_of_name pn_com_example_cranfield_cranfield_formats_PreferenceJudgment) (fun m => by first | exact W.entry_of rfl | rfl | (simp [entryFrame, mkF, argsToLocals, Value.category]; done)) ?_
  intro p e s m below meth c T0 C X0 e0 hs hH hS0
  have R0 : CHr Z own_el s.vm s.heap s.vm h0 := by rw [hs]; exact CHr.refl hH
  have hk0 : 0 ≤ h0.size := Nat.zero_le _
  have N0 := Fr.nil n0
  have K0 := Keep.refl h0 [p0]
  refine W.aloadN (q := 1) X0 C d10_0 rfl rfl rfl ?_
  refine W.initObj (q := 4) X0 C (W.ww hw 46 rfl) (W.ww hw 37 rfl) (W.ww hw 38 rfl) e0 d10_1 rfl (by decide) (Nat.le_of_ble_eq_true rfl) rfl (fun T103 X103 e103 => ?_)
  refine W.aloadN (q := 5) X103 C d10_4 rfl rfl rfl ?_
  refine W.aloadN (q := 6) X103 C d10_5 rfl rfl rfl ?_
  refine W.ldcH (q := 8) (s := s) (EL := own_el) X103 C (W.ww hw 47 rfl) (own_wS hw) e103 hS0 hk0 (own_EL hw) R0.1 d10_6 28 (by decide) (by decide) (by decide) (by decide) rfl (fun sa104 T104 h104 kk104 X104 C e104 E104 hS104 hk104 Rn104 => ?_)
  have E0_106 := E0.ext E104
  have F0_107 := F0.ext E104
  have E1_108 := E1.ext E104
  have F1_109 := F1.ext E104
  have E2_110 := E2.ext E104
  have F2_111 := F2.ext E104
  have E3_112 := E3.ext E104
  have F3_113 := F3.ext E104
  have E4_114 := E4.ext E104
  have F4_115 := F4.ext E104
  have E5_116 := E5.ext E104
  have K104 := K0.ext E104
  have n0_104 : n0 ≤ h104.size := Nat.le_trans Z0 E104.1
  have R_104 := R0.trans Rn104
  refine W.callS (q := 11) X104 C (W.ww hw 50 rfl) (W.ww hw 51 rfl) (W.ww hw 52 rfl) (W.ww hw 53 rfl) (by decide) (rm11 l Z a0 hw [] p1 sa104 h104 n0) e104 d10_8 [(.ref p1), (.ref sa104)] [(.ref p0)] rfl rfl pd__28Ljava_2flang_2fObject_3bLjava_2flang_2fString_3b_29Ljava_2flang_2fObject_3b rfl rfl (by decide) (Nat.le_of_ble_eq_true rfl) (by decide) (by decide) rfl (fun T117 w117 L117 X117 hQ117 => ?_)
  obtain ⟨rfl, NL117, e117⟩ := hQ117
  have N117 := Fr.app N0 NL117
  show W.Go p e below _ (T117.setTop (mkF m 11 #[.val (.ref p0), .val (.ref p1), .val (.ref p2), .val (.ref p3), .val (.ref p4), .val (.ref p5)] [(.ref p1), (.ref p0)]))
  refine W.cast (q := 14) X117 C (W.ww hw 54 rfl) e117 (Ins.self E1_108) d10_11 rfl (fun T118 X118 e118 => ?_)
  refine W.putF (host := "") (q := 17) X118 C (Or.inl (W.ww hw 55 rfl)) Via.refl e118 F0_107 E0_106 (Or.inr ⟨(W.ww hw 56 rfl), rfl, rfl⟩) (W.ww hw 12 rfl) (ty := (.object "java/lang/String")) (by decide) rfl rfl d10_14 rfl (fun T119 h119 X119 e119 W119 => ?_)
  have Fw119 := F0_107.same W119
  have R_120 := R_104.trans (CHr.wr W119 (Safe.exa C.2.1.alike E0_106 (by decide) (by decide)) R_104.1)
  have E0_122 := E0_106.wr W119
  have E1_124 := E1_108.wr W119
  have F1_125 := F1_109.other W119 (Or.inr (slot_ne (Or.inr (W.ww hw 59 rfl)) (Or.inr (W.ww hw 56 rfl)) (by decide) (t := (.object "java/lang/String")) (t' := (.object "java/lang/String")) (by decide) (by decide)))
  have E2_126 := E2_110.wr W119
  have F2_127 := F2_111.other W119 (Or.inr (slot_ne (Or.inr (W.ww hw 62 rfl)) (Or.inr (W.ww hw 56 rfl)) (by decide) (t := (.object "java/lang/String")) (t' := (.object "java/lang/String")) (by decide) (by decide)))
  have E3_128 := E3_112.wr W119
  have F3_129 := F3_113.other W119 (Or.inr (slot_ne (Or.inr (W.ww hw 65 rfl)) (Or.inr (W.ww hw 56 rfl)) (by decide) (t := (.object "java/lang/String")) (t' := (.object "java/lang/String")) (by decide) (by decide)))
  have E4_130 := E4_114.wr W119
  have F4_131 := F4_115.other W119 (Or.inr (slot_ne (Or.inr (W.ww hw 68 rfl)) (Or.inr (W.ww hw 56 rfl)) (by decide) (t := (.object "java/lang/String")) (t' := (.object "java/lang/String")) (by decide) (by decide)))
  have E5_132 := E5_116.wr W119
  have hk104_133 := Nat.le_trans hk104 (Nat.le_of_eq W119.size.symm)
  have N119 := Fr.snoc X119 N117 hge
  have K119 := K104.wr W119 (Or.inl (by simp))
  have n0_119 : n0 ≤ h119.size := by rw [W119.size]; exact n0_104
  refine W.aloadN (q := 18) X119 C d10_17 rfl rfl rfl ?_
  refine W.aloadN (q := 19) X119 C d10_18 rfl rfl rfl ?_
  refine W.ldcH (q := 21) (s := s) (EL := own_el) X119 C (W.ww hw 57 rfl) (own_wS hw) e119 hS104 hk104_133 (own_EL hw) R_120.1 d10_19 16 (by decide) (by decide) (by decide) (by decide) rfl (fun sa134 T134 h134 kk134 X134 C e134 E134 hS134 hk134 Rn134 => ?_)
  have E0_136 := E0_122.ext E134
  have Fw119_137 := Fw119.ext E134
  have E1_138 := E1_124.ext E134
  have F1_139 := F1_125.ext E134
  have E2_140 := E2_126.ext E134
  have F2_141 := F2_127.ext E134
  have E3_142 := E3_128.ext E134
  have F3_143 := F3_129.ext E134
  have E4_144 := E4_130.ext E134
  have F4_145 := F4_131.ext E134
  have E5_146 := E5_132.ext E134
  have K134 := K119.ext E134
  have n0_134 : n0 ≤ h134.size := Nat.le_trans n0_119 E134.1
  have R_134 := R_120.trans Rn134
  refine W.callS (q := 24) X134 C (W.ww hw 50 rfl) (W.ww hw 51 rfl) (W.ww hw 52 rfl) (W.ww hw 53 rfl) (by decide) (rm11 l Z a0 hw [] p2 sa134 h134 n0) e134 d10_21 [(.ref p2), (.ref sa134)] [(.ref p0)] rfl rfl pd__28Ljava_2flang_2fObject_3bLjava_2flang_2fString_3b_29Ljava_2flang_2fObject_3b rfl rfl (by decide) (Nat.le_of_ble_eq_true rfl) (by decide) (by decide) rfl (fun T147 w147 L147 X147 hQ147 => ?_)
  obtain ⟨rfl, NL147, e147⟩ := hQ147
  have N147 := Fr.app N119 NL147
  show W.Go p e below _ (T147.setTop (mkF m 24 #[.val (.ref p0), .val (.ref p1), .val (.ref p2), .val (.ref p3), .val (.ref p4), .val (.ref p5)] [(.ref p2), (.ref p0)]))
  refine W.cast (q := 27) X147 C (W.ww hw 54 rfl) e147 (Ins.self E2_140) d10_24 rfl (fun T148 X148 e148 => ?_)
  refine W.putF (host := "") (q := 30) X148 C (Or.inl (W.ww hw 58 rfl)) Via.refl e148 F1_139 E0_136 (Or.inr ⟨(W.ww hw 59 rfl), rfl, rfl⟩) (W.ww hw 12 rfl) (ty := (.object "java/lang/String")) (by decide) rfl rfl d10_27 rfl (fun T149 h149 X149 e149 W149 => ?_)
  have Fw149 := F1_139.same W149
  have R_150 := R_134.trans (CHr.wr W149 (Safe.exa C.2.1.alike E0_136 (by decide) (by decide)) R_134.1)
  have E0_152 := E0_136.wr W149
  have Fw119_153 := Fw119_137.other W149 (Or.inr (slot_ne (Or.inr (W.ww hw 56 rfl)) (Or.inr (W.ww hw 59 rfl)) (by decide) (t := (.object "java/lang/String")) (t' := (.object "java/lang/String")) (by decide) (by decide)))
  have E1_154 := E1_138.wr W149
  have E2_156 := E2_140.wr W149
  have F2_157 := F2_141.other W149 (Or.inr (slot_ne (Or.inr (W.ww hw 62 rfl)) (Or.inr (W.ww hw 59 rfl)) (by decide) (t := (.object "java/lang/String")) (t' := (.object "java/lang/String")) (by decide) (by decide)))
  have E3_158 := E3_142.wr W149
  have F3_159 := F3_143.other W149 (Or.inr (slot_ne (Or.inr (W.ww hw 65 rfl)) (Or.inr (W.ww hw 59 rfl)) (by decide) (t := (.object "java/lang/String")) (t' := (.object "java/lang/String")) (by decide) (by decide)))
  have E4_160 := E4_144.wr W149
  have F4_161 := F4_145.other W149 (Or.inr (slot_ne (Or.inr (W.ww hw 68 rfl)) (Or.inr (W.ww hw 59 rfl)) (by decide) (t := (.object "java/lang/String")) (t' := (.object "java/lang/String")) (by decide) (by decide)))
  have E5_162 := E5_146.wr W149
  have hk134_163 := Nat.le_trans hk134 (Nat.le_of_eq W149.size.symm)
  have N149 := Fr.snoc X149 N147 hge
  have K149 := K134.wr W149 (Or.inl (by simp))
  have n0_149 : n0 ≤ h149.size := by rw [W149.size]; exact n0_134
  refine W.aloadN (q := 31) X149 C d10_30 rfl rfl rfl ?_
  refine W.aloadN (q := 32) X149 C d10_31 rfl rfl rfl ?_
  refine W.ldcH (q := 34) (s := s) (EL := own_el) X149 C (W.ww hw 60 rfl) (own_wS hw) e149 hS134 hk134_163 (own_EL hw) R_150.1 d10_32 20 (by decide) (by decide) (by decide) (by decide) rfl (fun sa164 T164 h164 kk164 X164 C e164 E164 hS164 hk164 Rn164 => ?_)
  have E0_166 := E0_152.ext E164
  have Fw119_167 := Fw119_153.ext E164
  have E1_168 := E1_154.ext E164
  have Fw149_169 := Fw149.ext E164
  have E2_170 := E2_156.ext E164
  have F2_171 := F2_157.ext E164
  have E3_172 := E3_158.ext E164
  have F3_173 := F3_159.ext E164
  have E4_174 := E4_160.ext E164
  have F4_175 := F4_161.ext E164
  have E5_176 := E5_162.ext E164
  have K164 := K149.ext E164
  have n0_164 : n0 ≤ h164.size := Nat.le_trans n0_149 E164.1
  have R_164 := R_150.trans Rn164
  refine W.callS (q := 37) X164 C (W.ww hw 50 rfl) (W.ww hw 51 rfl) (W.ww hw 52 rfl) (W.ww hw 53 rfl) (by decide) (rm11 l Z a0 hw [] p3 sa164 h164 n0) e164 d10_34 [(.ref p3), (.ref sa164)] [(.ref p0)] rfl rfl pd__28Ljava_2flang_2fObject_3bLjava_2flang_2fString_3b_29Ljava_2flang_2fObject_3b rfl rfl (by decide) (Nat.le_of_ble_eq_true rfl) (by decide) (by decide) rfl (fun T177 w177 L177 X177 hQ177 => ?_)
  obtain ⟨rfl, NL177, e177⟩ := hQ177
  have N177 := Fr.app N149 NL177
  show W.Go p e below _ (T177.setTop (mkF m 37 #[.val (.ref p0), .val (.ref p1), .val (.ref p2), .val (.ref p3), .val (.ref p4), .val (.ref p5)] [(.ref p3), (.ref p0)]))
  refine W.cast (q := 40) X177 C (W.ww hw 54 rfl) e177 (Ins.self E3_172) d10_37 rfl (fun T178 X178 e178 => ?_)
  refine W.putF (host := "") (q := 43) X178 C (Or.inl (W.ww hw 61 rfl)) Via.refl e178 F2_171 E0_166 (Or.inr ⟨(W.ww hw 62 rfl), rfl, rfl⟩) (W.ww hw 12 rfl) (ty := (.object "java/lang/String")) (by decide) rfl rfl d10_40 rfl (fun T179 h179 X179 e179 W179 => ?_)
  have Fw179 := F2_171.same W179
  have R_180 := R_164.trans (CHr.wr W179 (Safe.exa C.2.1.alike E0_166 (by decide) (by decide)) R_164.1)
  have E0_182 := E0_166.wr W179
  have Fw119_183 := Fw119_167.other W179 (Or.inr (slot_ne (Or.inr (W.ww hw 56 rfl)) (Or.inr (W.ww hw 62 rfl)) (by decide) (t := (.object "java/lang/String")) (t' := (.object "java/lang/String")) (by decide) (by decide)))
  have E1_184 := E1_168.wr W179
  have Fw149_185 := Fw149_169.other W179 (Or.inr (slot_ne (Or.inr (W.ww hw 59 rfl)) (Or.inr (W.ww hw 62 rfl)) (by decide) (t := (.object "java/lang/String")) (t' := (.object "java/lang/String")) (by decide) (by decide)))
  have E2_186 := E2_170.wr W179
  have E3_188 := E3_172.wr W179
  have F3_189 := F3_173.other W179 (Or.inr (slot_ne (Or.inr (W.ww hw 65 rfl)) (Or.inr (W.ww hw 62 rfl)) (by decide) (t := (.object "java/lang/String")) (t' := (.object "java/lang/String")) (by decide) (by decide)))
  have E4_190 := E4_174.wr W179
  have F4_191 := F4_175.other W179 (Or.inr (slot_ne (Or.inr (W.ww hw 68 rfl)) (Or.inr (W.ww hw 62 rfl)) (by decide) (t := (.object "java/lang/String")) (t' := (.object "java/lang/String")) (by decide) (by decide)))
  have E5_192 := E5_176.wr W179
  have hk164_193 := Nat.le_trans hk164 (Nat.le_of_eq W179.size.symm)
  have N179 := Fr.snoc X179 N177 hge
  have K179 := K164.wr W179 (Or.inl (by simp))
  have n0_179 : n0 ≤ h179.size := by rw [W179.size]; exact n0_164
  refine W.aloadN (q := 44) X179 C d10_43 rfl rfl rfl ?_
  refine W.aload (q := 46) X179 C d10_44 rfl rfl rfl ?_
  refine W.ldcH (q := 48) (s := s) (EL := own_el) X179 C (W.ww hw 63 rfl) (own_wS hw) e179 hS164 hk164_193 (own_EL hw) R_180.1 d10_46 40 (by decide) (by decide) (by decide) (by decide) rfl (fun sa194 T194 h194 kk194 X194 C e194 E194 hS194 hk194 Rn194 => ?_)
  have E0_196 := E0_182.ext E194
  have Fw119_197 := Fw119_183.ext E194
  have E1_198 := E1_184.ext E194
  have Fw149_199 := Fw149_185.ext E194
  have E2_200 := E2_186.ext E194
  have Fw179_201 := Fw179.ext E194
  have E3_202 := E3_188.ext E194
  have F3_203 := F3_189.ext E194
  have E4_204 := E4_190.ext E194
  have F4_205 := F4_191.ext E194
  have E5_206 := E5_192.ext E194
  have K194 := K179.ext E194
  have n0_194 : n0 ≤ h194.size := Nat.le_trans n0_179 E194.1
  have R_194 := R_180.trans Rn194
  refine W.callS (q := 51) X194 C (W.ww hw 50 rfl) (W.ww hw 51 rfl) (W.ww hw 52 rfl) (W.ww hw 53 rfl) (by decide) (rm11 l Z a0 hw [] p4 sa194 h194 n0) e194 d10_48 [(.ref p4), (.ref sa194)] [(.ref p0)] rfl rfl pd__28Ljava_2flang_2fObject_3bLjava_2flang_2fString_3b_29Ljava_2flang_2fObject_3b rfl rfl (by decide) (Nat.le_of_ble_eq_true rfl) (by decide) (by decide) rfl (fun T207 w207 L207 X207 hQ207 => ?_)
  obtain ⟨rfl, NL207, e207⟩ := hQ207
  have N207 := Fr.app N179 NL207
  show W.Go p e below _ (T207.setTop (mkF m 51 #[.val (.ref p0), .val (.ref p1), .val (.ref p2), .val (.ref p3), .val (.ref p4), .val (.ref p5)] [(.ref p4), (.ref p0)]))
  refine W.cast (q := 54) X207 C (W.ww hw 54 rfl) e207 (Ins.self E4_204) d10_51 rfl (fun T208 X208 e208 => ?_)
  refine W.putF (host := "") (q := 57) X208 C (Or.inl (W.ww hw 64 rfl)) Via.refl e208 F3_203 E0_196 (Or.inr ⟨(W.ww hw 65 rfl), rfl, rfl⟩) (W.ww hw 12 rfl) (ty := (.object "java/lang/String")) (by decide) rfl rfl d10_54 rfl (fun T209 h209 X209 e209 W209 => ?_)
  have Fw209 := F3_203.same W209
  have R_210 := R_194.trans (CHr.wr W209 (Safe.exa C.2.1.alike E0_196 (by decide) (by decide)) R_194.1)
  have E0_212 := E0_196.wr W209
  have Fw119_213 := Fw119_197.other W209 (Or.inr (slot_ne (Or.inr (W.ww hw 56 rfl)) (Or.inr (W.ww hw 65 rfl)) (by decide) (t := (.object "java/lang/String")) (t' := (.object "java/lang/String")) (by decide) (by decide)))
  have E1_214 := E1_198.wr W209
  have Fw149_215 := Fw149_199.other W209 (Or.inr (slot_ne (Or.inr (W.ww hw 59 rfl)) (Or.inr (W.ww hw 65 rfl)) (by decide) (t := (.object "java/lang/String")) (t' := (.object "java/lang/String")) (by decide) (by decide)))
  have E2_216 := E2_200.wr W209
  have Fw179_217 := Fw179_201.other W209 (Or.inr (slot_ne (Or.inr (W.ww hw 62 rfl)) (Or.inr (W.ww hw 65 rfl)) (by decide) (t := (.object "java/lang/String")) (t' := (.object "java/lang/String")) (by decide) (by decide)))
  have E3_218 := E3_202.wr W209
  have E4_220 := E4_204.wr W209
  have F4_221 := F4_205.other W209 (Or.inr (slot_ne (Or.inr (W.ww hw 68 rfl)) (Or.inr (W.ww hw 65 rfl)) (by decide) (t := (.object "java/lang/String")) (t' := (.object "java/lang/String")) (by decide) (by decide)))
  have E5_222 := E5_206.wr W209
  have hk194_223 := Nat.le_trans hk194 (Nat.le_of_eq W209.size.symm)
  have N209 := Fr.snoc X209 N207 hge
  have K209 := K194.wr W209 (Or.inl (by simp))
  have n0_209 : n0 ≤ h209.size := by rw [W209.size]; exact n0_194
  refine W.aloadN (q := 58) X209 C d10_57 rfl rfl rfl ?_
  refine W.aload (q := 60) X209 C d10_58 rfl rfl rfl ?_
  refine W.ldcH (q := 62) (s := s) (EL := own_el) X209 C (W.ww hw 66 rfl) (own_wS hw) e209 hS194 hk194_223 (own_EL hw) R_210.1 d10_60 28 (by decide) (by decide) (by decide) (by decide) rfl (fun sa224 T224 h224 kk224 X224 C e224 E224 hS224 hk224 Rn224 => ?_)
  have E0_226 := E0_212.ext E224
  have Fw119_227 := Fw119_213.ext E224
  have E1_228 := E1_214.ext E224
  have Fw149_229 := Fw149_215.ext E224
  have E2_230 := E2_216.ext E224
  have Fw179_231 := Fw179_217.ext E224
  have E3_232 := E3_218.ext E224
  have Fw209_233 := Fw209.ext E224
  have E4_234 := E4_220.ext E224
  have F4_235 := F4_221.ext E224
  have E5_236 := E5_222.ext E224
  have K224 := K209.ext E224
  have n0_224 : n0 ≤ h224.size := Nat.le_trans n0_209 E224.1
  have R_224 := R_210.trans Rn224
  refine W.callS (q := 65) X224 C (W.ww hw 50 rfl) (W.ww hw 51 rfl) (W.ww hw 52 rfl) (W.ww hw 53 rfl) (by decide) (rm11 l Z a0 hw [] p5 sa224 h224 n0) e224 d10_62 [(.ref p5), (.ref sa224)] [(.ref p0)] rfl rfl pd__28Ljava_2flang_2fObject_3bLjava_2flang_2fString_3b_29Ljava_2flang_2fObject_3b rfl rfl (by decide) (Nat.le_of_ble_eq_true rfl) (by decide) (by decide) rfl (fun T237 w237 L237 X237 hQ237 => ?_)
  obtain ⟨rfl, NL237, e237⟩ := hQ237
  have N237 := Fr.app N209 NL237
  show W.Go p e below _ (T237.setTop (mkF m 65 #[.val (.ref p0), .val (.ref p1), .val (.ref p2), .val (.ref p3), .val (.ref p4), .val (.ref p5)] [(.ref p5), (.ref p0)]))
  refine W.cast (q := 68) X237 C (W.ww hw 54 rfl) e237 (Ins.self E5_236) d10_65 rfl (fun T238 X238 e238 => ?_)
  refine W.putF (host := "") (q := 71) X238 C (Or.inl (W.ww hw 67 rfl)) Via.refl e238 F4_235 E0_226 (Or.inr ⟨(W.ww hw 68 rfl), rfl, rfl⟩) (W.ww hw 12 rfl) (ty := (.object "java/lang/String")) (by decide) rfl rfl d10_68 rfl (fun T239 h239 X239 e239 W239 => ?_)
  have Fw239 := F4_235.same W239
  have R_240 := R_224.trans (CHr.wr W239 (Safe.exa C.2.1.alike E0_226 (by decide) (by decide)) R_224.1)
  have E0_242 := E0_226.wr W239
  have Fw119_243 := Fw119_227.other W239 (Or.inr (slot_ne (Or.inr (W.ww hw 56 rfl)) (Or.inr (W.ww hw 68 rfl)) (by decide) (t := (.object "java/lang/String")) (t' := (.object "java/lang/String")) (by decide) (by decide)))
  have E1_244 := E1_228.wr W239
  have Fw149_245 := Fw149_229.other W239 (Or.inr (slot_ne (Or.inr (W.ww hw 59 rfl)) (Or.inr (W.ww hw 68 rfl)) (by decide) (t := (.object "java/lang/String")) (t' := (.object "java/lang/String")) (by decide) (by decide)))
  have E2_246 := E2_230.wr W239
  have Fw179_247 := Fw179_231.other W239 (Or.inr (slot_ne (Or.inr (W.ww hw 62 rfl)) (Or.inr (W.ww hw 68 rfl)) (by decide) (t := (.object "java/lang/String")) (t' := (.object "java/lang/String")) (by decide) (by decide)))
  have E3_248 := E3_232.wr W239
  have Fw209_249 := Fw209_233.other W239 (Or.inr (slot_ne (Or.inr (W.ww hw 65 rfl)) (Or.inr (W.ww hw 68 rfl)) (by decide) (t := (.object "java/lang/String")) (t' := (.object "java/lang/String")) (by decide) (by decide)))
  have E4_250 := E4_234.wr W239
  have E5_252 := E5_236.wr W239
  have hk224_253 := Nat.le_trans hk224 (Nat.le_of_eq W239.size.symm)
  have N239 := Fr.snoc X239 N237 hge
  have K239 := K224.wr W239 (Or.inl (by simp))
  have n0_239 : n0 ≤ h239.size := by rw [W239.size]; exact n0_224
  exact W.retVH X239 C e239 d10_71 (by decide) (by decide) hS224 hk224_253 (own_EL hw) R_240 ⟨rfl, N239, K239, E0_242, Fw119_243, Fw149_245, Fw179_247, Fw209_249, Fw239⟩
theorem own_key_rg (x : Int32) : own_rg (own_key x) := by
  unfold own_key; split
  · have a1 := c_mask x 255 8 (by decide) (by decide)
    exact Or.inr ⟨by omega, by omega⟩
  · exact Or.inl rfl
theorem own_pk {x : Int64} {i v : Int32} (h : own_pick x i = v) : own_rg v := h ▸ own_key_rg _
theorem own_ot {ka cp i v : Int32} {b : Int64} (h : own_oth ka b cp i = v) (hk : own_rg ka) : own_rg v := by
  rw [← h, own_oth]; split
  · exact own_key_rg _
  · exact hk
theorem pd__28IJII_29I : parseMethodDescriptor "(IJII)I" = some ⟨[.int, .long, .int, .int], some .int⟩ := by decide +kernel
theorem pd__28I_29Ljava_2flang_2fString_3b : parseMethodDescriptor "(I)Ljava/lang/String;" = some ⟨[.int], some (.object "java/lang/String")⟩ := by decide +kernel
theorem pd__28Ljava_2flang_2fString_3bLjava_2flang_2fString_3bLjava_2flang_2fString_3bLjava_2flang_2fString_3bLjava_2flang_2fString_3b_29V : parseMethodDescriptor "(Ljava/lang/String;Ljava/lang/String;Ljava/lang/String;Ljava/lang/String;Ljava/lang/String;)V" = some ⟨[(.object "java/lang/String"), (.object "java/lang/String"), (.object "java/lang/String"), (.object "java/lang/String"), (.object "java/lang/String")], none⟩ := by decide +kernel
def Q0 (Z : State) (p0 p1 : Int64) (p2 p3 cs : Int32) (h0 : Heap) (n0 : Nat) (v : Option Value) (h : Heap) (L : List Loc) : Prop := v = some (.int 1) ∧ Fr n0 L
set_option maxRecDepth 65536 in
set_option maxHeartbeats 40000000 in
theorem rm0 (l : Launch) (Z : State) (a0 : Array Value) (hw : ∀ d ∈ tables_1, d.before a0 Z = true) (ws : List Jvm.Cond) (p0 p1 : Int64) (p2 p3 cs : Int32) (h0 : Heap) (n0 : Nat) (Z0 : n0 ≤ h0.size) (O0 : Old Z n0 h0) (SC : Sta Z Z.heap "java/lang/String" "COMPACT_STRINGS" "Z" (.int cs)) (hcs : cs ≠ 0) :
    MetFree l x (head1 (Jvm.Cond.code x code maxLocals ret :: ws) room_1) (fun a U => a = #[(.long p0), (.long p1), (.int p2), (.int p3)] ∧ Z.Warmed39 U.vm ∧ U.heap = h0 ∧ CHv Z own_el U.vm h0) (fun _ _ _ _ _ => True) (fun _ U o U' => ∃ v L, o = .returned v ∧ Q0 Z p0 p1 p2 p3 cs h0 n0 v U'.heap L ∧ ReturnedEndW U o U' L room_1.cells room_1.slots) := by
  refine W.bodyOfHW (y := x) (as := #[(.long p0), (.long p1), (.int p2), (.int p3)]) (maxL := maxLocals) (Q := Q0 Z p0 p1 p2 p3 cs h0 n0) (Ls := #[.val (.long p0), .second, .val (.long p1), .second, .val (.int p2), .val (.int p3), .unset, .unset, .unset, .unset, .unset, .unset, .unset, .unset, .unset, .unset, .unset, .unset, .unset, .unset, .unset, .unset]) (plainFor_of_name pn_com_example_cranfield_cranfield_formats_PreferenceJudgmentEqualsPinLaw) (fun m => by first | exact W.entry_of rfl | rfl | (simp [entryFrame, mkF, argsToLocals, Value.category, maxLocals]; done)) ?_
  intro p e s m below meth c T0 C X0 e0 hs hH hS0
  have R0 : CHr Z own_el s.vm s.heap s.vm h0 := by rw [hs]; exact CHr.refl hH
  have hk0 : 0 ≤ h0.size := Nat.zero_le _
  replace C : W.Cx p (s.setVm s.vm) m meth c Z code 22 "com/example/cranfield/cranfield/formats/PreferenceJudgmentEqualsPinLaw" "law" (some .boolean) := C
  have N0 := Fr.nil n0
  refine W.lloadN (q := 1) X0 C at_0 rfl rfl ?_
  refine W.iconst (q := 2) (v := 0) X0 C at_1 rfl rfl ?_
  refine W.callS (q := 5) X0 C (W.ww hw 0 rfl) (W.ww hw 1 rfl) (W.ww hw 2 rfl) (W.ww hw 3 rfl) (by decide) (rm1 l Z a0 hw [] p0 (0 : Int32) h0 n0) e0 at_2 [(.long p0), (.int (0 : Int32))] [] rfl rfl pd__28JI_29I rfl rfl (by decide) (Nat.le_of_ble_eq_true rfl) (by decide) (by decide) rfl (fun T254 w254 L254 X254 hQ254 => ?_)
  obtain ⟨rfl, NL254, e254⟩ := hQ254
  have N254 := Fr.app N0 NL254
  show W.Go p e below _ (T254.setTop (mkF m 5 #[.val (.long p0), .second, .val (.long p1), .second, .val (.int p2), .val (.int p3), .unset, .unset, .unset, .unset, .unset, .unset, .unset, .unset, .unset, .unset, .unset, .unset, .unset, .unset, .unset, .unset] [(.int (own_pick p0 (0 : Int32)))]))
  generalize hv255 : (own_pick p0 (0 : Int32)) = v255
  refine W.istore (q := 7) (L' := #[.val (.long p0), .second, .val (.long p1), .second, .val (.int p2), .val (.int p3), .val (.int v255), .unset, .unset, .unset, .unset, .unset, .unset, .unset, .unset, .unset, .unset, .unset, .unset, .unset, .unset, .unset]) X254 C at_5 rfl rfl ?_
  have rg256 : own_rg v255 := own_pk hv255
  refine W.lloadN (q := 8) X254 C at_7 rfl rfl ?_
  refine W.iconst (q := 9) (v := 1) X254 C at_8 rfl rfl ?_
  refine W.callS (q := 12) X254 C (W.ww hw 0 rfl) (W.ww hw 1 rfl) (W.ww hw 2 rfl) (W.ww hw 3 rfl) (by decide) (rm1 l Z a0 hw [] p0 (1 : Int32) h0 n0) e254 at_9 [(.long p0), (.int (1 : Int32))] [] rfl rfl pd__28JI_29I rfl rfl (by decide) (Nat.le_of_ble_eq_true rfl) (by decide) (by decide) rfl (fun T257 w257 L257 X257 hQ257 => ?_)
  obtain ⟨rfl, NL257, e257⟩ := hQ257
  have N257 := Fr.app N254 NL257
  show W.Go p e below _ (T257.setTop (mkF m 12 #[.val (.long p0), .second, .val (.long p1), .second, .val (.int p2), .val (.int p3), .val (.int v255), .unset, .unset, .unset, .unset, .unset, .unset, .unset, .unset, .unset, .unset, .unset, .unset, .unset, .unset, .unset] [(.int (own_pick p0 (1 : Int32)))]))
  generalize hv258 : (own_pick p0 (1 : Int32)) = v258
  refine W.istore (q := 14) (L' := #[.val (.long p0), .second, .val (.long p1), .second, .val (.int p2), .val (.int p3), .val (.int v255), .val (.int v258), .unset, .unset, .unset, .unset, .unset, .unset, .unset, .unset, .unset, .unset, .unset, .unset, .unset, .unset]) X257 C at_12 rfl rfl ?_
  have rg259 : own_rg v258 := own_pk hv258
  refine W.lloadN (q := 15) X257 C at_14 rfl rfl ?_
  refine W.iconst (q := 16) (v := 2) X257 C at_15 rfl rfl ?_
  refine W.callS (q := 19) X257 C (W.ww hw 0 rfl) (W.ww hw 1 rfl) (W.ww hw 2 rfl) (W.ww hw 3 rfl) (by decide) (rm1 l Z a0 hw [] p0 (2 : Int32) h0 n0) e257 at_16 [(.long p0), (.int (2 : Int32))] [] rfl rfl pd__28JI_29I rfl rfl (by decide) (Nat.le_of_ble_eq_true rfl) (by decide) (by decide) rfl (fun T260 w260 L260 X260 hQ260 => ?_)
  obtain ⟨rfl, NL260, e260⟩ := hQ260
  have N260 := Fr.app N257 NL260
  show W.Go p e below _ (T260.setTop (mkF m 19 #[.val (.long p0), .second, .val (.long p1), .second, .val (.int p2), .val (.int p3), .val (.int v255), .val (.int v258), .unset, .unset, .unset, .unset, .unset, .unset, .unset, .unset, .unset, .unset, .unset, .unset, .unset, .unset] [(.int (own_pick p0 (2 : Int32)))]))
  generalize hv261 : (own_pick p0 (2 : Int32)) = v261
  refine W.istore (q := 21) (L' := #[.val (.long p0), .second, .val (.long p1), .second, .val (.int p2), .val (.int p3), .val (.int v255), .val (.int v258), .val (.int v261), .unset, .unset, .unset, .unset, .unset, .unset, .unset, .unset, .unset, .unset, .unset, .unset, .unset]) X260 C at_19 rfl rfl ?_
  have rg262 : own_rg v261 := own_pk hv261
  refine W.lloadN (q := 22) X260 C at_21 rfl rfl ?_
  refine W.iconst (q := 23) (v := 3) X260 C at_22 rfl rfl ?_
  refine W.callS (q := 26) X260 C (W.ww hw 0 rfl) (W.ww hw 1 rfl) (W.ww hw 2 rfl) (W.ww hw 3 rfl) (by decide) (rm1 l Z a0 hw [] p0 (3 : Int32) h0 n0) e260 at_23 [(.long p0), (.int (3 : Int32))] [] rfl rfl pd__28JI_29I rfl rfl (by decide) (Nat.le_of_ble_eq_true rfl) (by decide) (by decide) rfl (fun T263 w263 L263 X263 hQ263 => ?_)
  obtain ⟨rfl, NL263, e263⟩ := hQ263
  have N263 := Fr.app N260 NL263
  show W.Go p e below _ (T263.setTop (mkF m 26 #[.val (.long p0), .second, .val (.long p1), .second, .val (.int p2), .val (.int p3), .val (.int v255), .val (.int v258), .val (.int v261), .unset, .unset, .unset, .unset, .unset, .unset, .unset, .unset, .unset, .unset, .unset, .unset, .unset] [(.int (own_pick p0 (3 : Int32)))]))
  generalize hv264 : (own_pick p0 (3 : Int32)) = v264
  refine W.istore (q := 28) (L' := #[.val (.long p0), .second, .val (.long p1), .second, .val (.int p2), .val (.int p3), .val (.int v255), .val (.int v258), .val (.int v261), .val (.int v264), .unset, .unset, .unset, .unset, .unset, .unset, .unset, .unset, .unset, .unset, .unset, .unset]) X263 C at_26 rfl rfl ?_
  have rg265 : own_rg v264 := own_pk hv264
  refine W.lloadN (q := 29) X263 C at_28 rfl rfl ?_
  refine W.iconst (q := 30) (v := 4) X263 C at_29 rfl rfl ?_
  refine W.callS (q := 33) X263 C (W.ww hw 0 rfl) (W.ww hw 1 rfl) (W.ww hw 2 rfl) (W.ww hw 3 rfl) (by decide) (rm1 l Z a0 hw [] p0 (4 : Int32) h0 n0) e263 at_30 [(.long p0), (.int (4 : Int32))] [] rfl rfl pd__28JI_29I rfl rfl (by decide) (Nat.le_of_ble_eq_true rfl) (by decide) (by decide) rfl (fun T266 w266 L266 X266 hQ266 => ?_)
  obtain ⟨rfl, NL266, e266⟩ := hQ266
  have N266 := Fr.app N263 NL266
  show W.Go p e below _ (T266.setTop (mkF m 33 #[.val (.long p0), .second, .val (.long p1), .second, .val (.int p2), .val (.int p3), .val (.int v255), .val (.int v258), .val (.int v261), .val (.int v264), .unset, .unset, .unset, .unset, .unset, .unset, .unset, .unset, .unset, .unset, .unset, .unset] [(.int (own_pick p0 (4 : Int32)))]))
  generalize hv267 : (own_pick p0 (4 : Int32)) = v267
  refine W.istore (q := 35) (L' := #[.val (.long p0), .second, .val (.long p1), .second, .val (.int p2), .val (.int p3), .val (.int v255), .val (.int v258), .val (.int v261), .val (.int v264), .val (.int v267), .unset, .unset, .unset, .unset, .unset, .unset, .unset, .unset, .unset, .unset, .unset]) X266 C at_33 rfl rfl ?_
  have rg268 : own_rg v267 := own_pk hv267
  refine W.iload (q := 37) X266 C at_35 rfl rfl ?_
  refine W.lloadN (q := 38) X266 C at_37 rfl rfl ?_
  refine W.iload (q := 40) X266 C at_38 rfl rfl ?_
  refine W.iconst (q := 41) (v := 0) X266 C at_40 rfl rfl ?_
  refine W.callS (q := 44) X266 C (W.ww hw 8 rfl) (W.ww hw 9 rfl) (W.ww hw 2 rfl) (W.ww hw 10 rfl) (by decide) (rm3 l Z a0 hw [] v255 p1 p2 (0 : Int32) h0 n0) e266 at_41 [(.int v255), (.long p1), (.int p2), (.int (0 : Int32))] [] rfl rfl pd__28IJII_29I rfl rfl (by decide) (Nat.le_of_ble_eq_true rfl) (by decide) (by decide) rfl (fun T269 w269 L269 X269 hQ269 => ?_)
  obtain ⟨rfl, NL269, e269⟩ := hQ269
  have N269 := Fr.app N266 NL269
  show W.Go p e below _ (T269.setTop (mkF m 44 #[.val (.long p0), .second, .val (.long p1), .second, .val (.int p2), .val (.int p3), .val (.int v255), .val (.int v258), .val (.int v261), .val (.int v264), .val (.int v267), .unset, .unset, .unset, .unset, .unset, .unset, .unset, .unset, .unset, .unset, .unset] [(.int (own_oth v255 p1 p2 (0 : Int32)))]))
  generalize hv270 : (own_oth v255 p1 p2 (0 : Int32)) = v270
  refine W.istore (q := 46) (L' := #[.val (.long p0), .second, .val (.long p1), .second, .val (.int p2), .val (.int p3), .val (.int v255), .val (.int v258), .val (.int v261), .val (.int v264), .val (.int v267), .val (.int v270), .unset, .unset, .unset, .unset, .unset, .unset, .unset, .unset, .unset, .unset]) X269 C at_44 rfl rfl ?_
  have rg271 : own_rg v270 := own_ot hv270 rg256
  refine W.iload (q := 48) X269 C at_46 rfl rfl ?_
  refine W.lloadN (q := 49) X269 C at_48 rfl rfl ?_
  refine W.iload (q := 51) X269 C at_49 rfl rfl ?_
  refine W.iconst (q := 52) (v := 1) X269 C at_51 rfl rfl ?_
  refine W.callS (q := 55) X269 C (W.ww hw 8 rfl) (W.ww hw 9 rfl) (W.ww hw 2 rfl) (W.ww hw 10 rfl) (by decide) (rm3 l Z a0 hw [] v258 p1 p2 (1 : Int32) h0 n0) e269 at_52 [(.int v258), (.long p1), (.int p2), (.int (1 : Int32))] [] rfl rfl pd__28IJII_29I rfl rfl (by decide) (Nat.le_of_ble_eq_true rfl) (by decide) (by decide) rfl (fun T272 w272 L272 X272 hQ272 => ?_)
  obtain ⟨rfl, NL272, e272⟩ := hQ272
  have N272 := Fr.app N269 NL272
  show W.Go p e below _ (T272.setTop (mkF m 55 #[.val (.long p0), .second, .val (.long p1), .second, .val (.int p2), .val (.int p3), .val (.int v255), .val (.int v258), .val (.int v261), .val (.int v264), .val (.int v267), .val (.int v270), .unset, .unset, .unset, .unset, .unset, .unset, .unset, .unset, .unset, .unset] [(.int (own_oth v258 p1 p2 (1 : Int32)))]))
  generalize hv273 : (own_oth v258 p1 p2 (1 : Int32)) = v273
  refine W.istore (q := 57) (L' := #[.val (.long p0), .second, .val (.long p1), .second, .val (.int p2), .val (.int p3), .val (.int v255), .val (.int v258), .val (.int v261), .val (.int v264), .val (.int v267), .val (.int v270), .val (.int v273), .unset, .unset, .unset, .unset, .unset, .unset, .unset, .unset, .unset]) X272 C at_55 rfl rfl ?_
  have rg274 : own_rg v273 := own_ot hv273 rg259
  refine W.iload (q := 59) X272 C at_57 rfl rfl ?_
  refine W.lloadN (q := 60) X272 C at_59 rfl rfl ?_
  refine W.iload (q := 62) X272 C at_60 rfl rfl ?_
  refine W.iconst (q := 63) (v := 2) X272 C at_62 rfl rfl ?_
  refine W.callS (q := 66) X272 C (W.ww hw 8 rfl) (W.ww hw 9 rfl) (W.ww hw 2 rfl) (W.ww hw 10 rfl) (by decide) (rm3 l Z a0 hw [] v261 p1 p2 (2 : Int32) h0 n0) e272 at_63 [(.int v261), (.long p1), (.int p2), (.int (2 : Int32))] [] rfl rfl pd__28IJII_29I rfl rfl (by decide) (Nat.le_of_ble_eq_true rfl) (by decide) (by decide) rfl (fun T275 w275 L275 X275 hQ275 => ?_)
  obtain ⟨rfl, NL275, e275⟩ := hQ275
  have N275 := Fr.app N272 NL275
  show W.Go p e below _ (T275.setTop (mkF m 66 #[.val (.long p0), .second, .val (.long p1), .second, .val (.int p2), .val (.int p3), .val (.int v255), .val (.int v258), .val (.int v261), .val (.int v264), .val (.int v267), .val (.int v270), .val (.int v273), .unset, .unset, .unset, .unset, .unset, .unset, .unset, .unset, .unset] [(.int (own_oth v261 p1 p2 (2 : Int32)))]))
  generalize hv276 : (own_oth v261 p1 p2 (2 : Int32)) = v276
  refine W.istore (q := 68) (L' := #[.val (.long p0), .second, .val (.long p1), .second, .val (.int p2), .val (.int p3), .val (.int v255), .val (.int v258), .val (.int v261), .val (.int v264), .val (.int v267), .val (.int v270), .val (.int v273), .val (.int v276), .unset, .unset, .unset, .unset, .unset, .unset, .unset, .unset]) X275 C at_66 rfl rfl ?_
  have rg277 : own_rg v276 := own_ot hv276 rg262
  refine W.iload (q := 70) X275 C at_68 rfl rfl ?_
  refine W.lloadN (q := 71) X275 C at_70 rfl rfl ?_
  refine W.iload (q := 73) X275 C at_71 rfl rfl ?_
  refine W.iconst (q := 74) (v := 3) X275 C at_73 rfl rfl ?_
  refine W.callS (q := 77) X275 C (W.ww hw 8 rfl) (W.ww hw 9 rfl) (W.ww hw 2 rfl) (W.ww hw 10 rfl) (by decide) (rm3 l Z a0 hw [] v264 p1 p2 (3 : Int32) h0 n0) e275 at_74 [(.int v264), (.long p1), (.int p2), (.int (3 : Int32))] [] rfl rfl pd__28IJII_29I rfl rfl (by decide) (Nat.le_of_ble_eq_true rfl) (by decide) (by decide) rfl (fun T278 w278 L278 X278 hQ278 => ?_)
  obtain ⟨rfl, NL278, e278⟩ := hQ278
  have N278 := Fr.app N275 NL278
  show W.Go p e below _ (T278.setTop (mkF m 77 #[.val (.long p0), .second, .val (.long p1), .second, .val (.int p2), .val (.int p3), .val (.int v255), .val (.int v258), .val (.int v261), .val (.int v264), .val (.int v267), .val (.int v270), .val (.int v273), .val (.int v276), .unset, .unset, .unset, .unset, .unset, .unset, .unset, .unset] [(.int (own_oth v264 p1 p2 (3 : Int32)))]))
  generalize hv279 : (own_oth v264 p1 p2 (3 : Int32)) = v279
  refine W.istore (q := 79) (L' := #[.val (.long p0), .second, .val (.long p1), .second, .val (.int p2), .val (.int p3), .val (.int v255), .val (.int v258), .val (.int v261), .val (.int v264), .val (.int v267), .val (.int v270), .val (.int v273), .val (.int v276), .val (.int v279), .unset, .unset, .unset, .unset, .unset, .unset, .unset]) X278 C at_77 rfl rfl ?_
  have rg280 : own_rg v279 := own_ot hv279 rg265
  refine W.iload (q := 81) X278 C at_79 rfl rfl ?_
  refine W.lloadN (q := 82) X278 C at_81 rfl rfl ?_
  refine W.iload (q := 84) X278 C at_82 rfl rfl ?_
  refine W.iconst (q := 85) (v := 4) X278 C at_84 rfl rfl ?_
  refine W.callS (q := 88) X278 C (W.ww hw 8 rfl) (W.ww hw 9 rfl) (W.ww hw 2 rfl) (W.ww hw 10 rfl) (by decide) (rm3 l Z a0 hw [] v267 p1 p2 (4 : Int32) h0 n0) e278 at_85 [(.int v267), (.long p1), (.int p2), (.int (4 : Int32))] [] rfl rfl pd__28IJII_29I rfl rfl (by decide) (Nat.le_of_ble_eq_true rfl) (by decide) (by decide) rfl (fun T281 w281 L281 X281 hQ281 => ?_)
  obtain ⟨rfl, NL281, e281⟩ := hQ281
  have N281 := Fr.app N278 NL281
  show W.Go p e below _ (T281.setTop (mkF m 88 #[.val (.long p0), .second, .val (.long p1), .second, .val (.int p2), .val (.int p3), .val (.int v255), .val (.int v258), .val (.int v261), .val (.int v264), .val (.int v267), .val (.int v270), .val (.int v273), .val (.int v276), .val (.int v279), .unset, .unset, .unset, .unset, .unset, .unset, .unset] [(.int (own_oth v267 p1 p2 (4 : Int32)))]))
  generalize hv282 : (own_oth v267 p1 p2 (4 : Int32)) = v282
  refine W.istore (q := 90) (L' := #[.val (.long p0), .second, .val (.long p1), .second, .val (.int p2), .val (.int p3), .val (.int v255), .val (.int v258), .val (.int v261), .val (.int v264), .val (.int v267), .val (.int v270), .val (.int v273), .val (.int v276), .val (.int v279), .val (.int v282), .unset, .unset, .unset, .unset, .unset, .unset]) X281 C at_88 rfl rfl ?_
  have rg283 : own_rg v282 := own_ot hv282 rg268
  refine W.newO (q := 93) X281 C (W.ww hw 11 rfl) (W.ww hw 12 rfl) (W.ww hw 13 rfl) e281 at_90 (by decide) (by decide) rfl (fun T284 h284 b284 X284 e284 g284 E284 A284 D284 => ?_)
  have ge_b284 : n0 ≤ b284 := by rw [g284]; exact Z0
  have n0_284 : n0 ≤ h284.size := Nat.le_trans Z0 E284.1
  have R_285 := R0.trans (CHr.ext E284 R0.1)
  have hk0_287 := Nat.le_trans hk0 E284.1
  have O0_288 := O0.ext E284
  have F_queryId_289 : Fld Z h284 b284 "com/example/cranfield/cranfield/formats/PreferenceJudgment" "queryId" "Ljava/lang/String;" .null := D284 (Or.inr (W.ww hw 56 rfl)) (ty := (.object "java/lang/String")) (by decide)
  have F_left_290 : Fld Z h284 b284 "com/example/cranfield/cranfield/formats/PreferenceJudgment" "left" "Ljava/lang/String;" .null := D284 (Or.inr (W.ww hw 59 rfl)) (ty := (.object "java/lang/String")) (by decide)
  have F_right_291 : Fld Z h284 b284 "com/example/cranfield/cranfield/formats/PreferenceJudgment" "right" "Ljava/lang/String;" .null := D284 (Or.inr (W.ww hw 62 rfl)) (ty := (.object "java/lang/String")) (by decide)
  have F_preference_292 : Fld Z h284 b284 "com/example/cranfield/cranfield/formats/PreferenceJudgment" "preference" "Ljava/lang/String;" .null := D284 (Or.inr (W.ww hw 65 rfl)) (ty := (.object "java/lang/String")) (by decide)
  have F_comment_293 : Fld Z h284 b284 "com/example/cranfield/cranfield/formats/PreferenceJudgment" "comment" "Ljava/lang/String;" .null := D284 (Or.inr (W.ww hw 68 rfl)) (ty := (.object "java/lang/String")) (by decide)
  refine W.dup (q := 94) X284 C at_93 rfl rfl ?_
  refine W.iload (q := 96) X284 C at_94 rfl rfl ?_
  refine W.callSW (q := 99) (s := s) X284 C (W.ww hw 14 rfl) (W.ww hw 15 rfl) (W.ww hw 2 rfl) (W.ww hw 16 rfl) (by decide) (rm4 l Z a0 hw [] v255 cs h284 n0 n0_284 rg256 O0_288 SC hcs) e284 hS0 hk0_287 (own_EL hw) R_285.1 at_96 [(.int v255)] [(.ref b284), (.ref b284)] rfl rfl pd__28I_29Ljava_2flang_2fString_3b rfl rfl (by decide) (Nat.le_of_ble_eq_true rfl) (by decide) (by decide) rfl (fun T294 w294 L294 X294 C hS294 hg294 hQ294 Rn294 => ?_)
  obtain ⟨b294, rfl, NL294, K294, Yn294⟩ := hQ294
  have N294 := Fr.app N281 NL294
  have O0_296 := O0_288.keep K294 all0
  have A284_297 := A284.keep K294
  have F_queryId_298 := F_queryId_289.keep K294 nin0
  have F_left_299 := F_left_290.keep K294 nin0
  have F_right_300 := F_right_291.keep K294 nin0
  have F_preference_301 := F_preference_292.keep K294 nin0
  have F_comment_302 := F_comment_293.keep K294 nin0
  have n0_294 : n0 ≤ T294.heap.size := Nat.le_trans n0_284 K294.1
  have R_294 := R_285.trans Rn294
  have hk294 := Nat.le_refl T294.heap.size
  have Es294 := Yn294.exa
  show W.Go p e below _ (T294.setTop (mkF m 99 #[.val (.long p0), .second, .val (.long p1), .second, .val (.int p2), .val (.int p3), .val (.int v255), .val (.int v258), .val (.int v261), .val (.int v264), .val (.int v267), .val (.int v270), .val (.int v273), .val (.int v276), .val (.int v279), .val (.int v282), .unset, .unset, .unset, .unset, .unset, .unset] [(.ref b294), (.ref b284), (.ref b284)]))
  refine W.iload (q := 101) X294 C at_99 rfl rfl ?_
  refine W.callSW (q := 104) (s := s) X294 C (W.ww hw 14 rfl) (W.ww hw 15 rfl) (W.ww hw 2 rfl) (W.ww hw 16 rfl) (by decide) (rm4 l Z a0 hw [] v258 cs T294.heap n0 n0_294 rg259 O0_296 SC hcs) rfl hS294 hk294 (own_EL hw) R_294.1 at_101 [(.int v258)] [(.ref b294), (.ref b284), (.ref b284)] rfl rfl pd__28I_29Ljava_2flang_2fString_3b rfl rfl (by decide) (Nat.le_of_ble_eq_true rfl) (by decide) (by decide) rfl (fun T303 w303 L303 X303 C hS303 hg303 hQ303 Rn303 => ?_)
  obtain ⟨b303, rfl, NL303, K303, Yn303⟩ := hQ303
  have N303 := Fr.app N294 NL303
  have Y_304 := Yn294.keep0 K303
  have O0_306 := O0_296.keep K303 all0
  have A284_307 := A284_297.keep K303
  have F_queryId_308 := F_queryId_298.keep K303 nin0
  have F_left_309 := F_left_299.keep K303 nin0
  have F_right_310 := F_right_300.keep K303 nin0
  have F_preference_311 := F_preference_301.keep K303 nin0
  have F_comment_312 := F_comment_302.keep K303 nin0
  have Es294_313 := Es294.keep K303
  have n0_303 : n0 ≤ T303.heap.size := Nat.le_trans n0_294 K303.1
  have R_303 := R_294.trans Rn303
  have hk303 := Nat.le_refl T303.heap.size
  have Es303 := Yn303.exa
  show W.Go p e below _ (T303.setTop (mkF m 104 #[.val (.long p0), .second, .val (.long p1), .second, .val (.int p2), .val (.int p3), .val (.int v255), .val (.int v258), .val (.int v261), .val (.int v264), .val (.int v267), .val (.int v270), .val (.int v273), .val (.int v276), .val (.int v279), .val (.int v282), .unset, .unset, .unset, .unset, .unset, .unset] [(.ref b303), (.ref b294), (.ref b284), (.ref b284)]))
  refine W.iload (q := 106) X303 C at_104 rfl rfl ?_
  refine W.callSW (q := 109) (s := s) X303 C (W.ww hw 14 rfl) (W.ww hw 15 rfl) (W.ww hw 2 rfl) (W.ww hw 16 rfl) (by decide) (rm4 l Z a0 hw [] v261 cs T303.heap n0 n0_303 rg262 O0_306 SC hcs) rfl hS303 hk303 (own_EL hw) R_303.1 at_106 [(.int v261)] [(.ref b303), (.ref b294), (.ref b284), (.ref b284)] rfl rfl pd__28I_29Ljava_2flang_2fString_3b rfl rfl (by decide) (Nat.le_of_ble_eq_true rfl) (by decide) (by decide) rfl (fun T314 w314 L314 X314 C hS314 hg314 hQ314 Rn314 => ?_)
  obtain ⟨b314, rfl, NL314, K314, Yn314⟩ := hQ314
  have N314 := Fr.app N303 NL314
  have Y_315 := Y_304.keep0 K314
  have Y_316 := Yn303.keep0 K314
  have O0_318 := O0_306.keep K314 all0
  have A284_319 := A284_307.keep K314
  have F_queryId_320 := F_queryId_308.keep K314 nin0
  have F_left_321 := F_left_309.keep K314 nin0
  have F_right_322 := F_right_310.keep K314 nin0
  have F_preference_323 := F_preference_311.keep K314 nin0
  have F_comment_324 := F_comment_312.keep K314 nin0
  have Es294_325 := Es294_313.keep K314
  have Es303_326 := Es303.keep K314
  have n0_314 : n0 ≤ T314.heap.size := Nat.le_trans n0_303 K314.1
  have R_314 := R_303.trans Rn314
  have hk314 := Nat.le_refl T314.heap.size
  have Es314 := Yn314.exa
  show W.Go p e below _ (T314.setTop (mkF m 109 #[.val (.long p0), .second, .val (.long p1), .second, .val (.int p2), .val (.int p3), .val (.int v255), .val (.int v258), .val (.int v261), .val (.int v264), .val (.int v267), .val (.int v270), .val (.int v273), .val (.int v276), .val (.int v279), .val (.int v282), .unset, .unset, .unset, .unset, .unset, .unset] [(.ref b314), (.ref b303), (.ref b294), (.ref b284), (.ref b284)]))
  refine W.iload (q := 111) X314 C at_109 rfl rfl ?_
  refine W.callSW (q := 114) (s := s) X314 C (W.ww hw 14 rfl) (W.ww hw 15 rfl) (W.ww hw 2 rfl) (W.ww hw 16 rfl) (by decide) (rm4 l Z a0 hw [] v264 cs T314.heap n0 n0_314 rg265 O0_318 SC hcs) rfl hS314 hk314 (own_EL hw) R_314.1 at_111 [(.int v264)] [(.ref b314), (.ref b303), (.ref b294), (.ref b284), (.ref b284)] rfl rfl pd__28I_29Ljava_2flang_2fString_3b rfl rfl (by decide) (Nat.le_of_ble_eq_true rfl) (by decide) (by decide) rfl (fun T327 w327 L327 X327 C hS327 hg327 hQ327 Rn327 => ?_)
  obtain ⟨b327, rfl, NL327, K327, Yn327⟩ := hQ327
  have N327 := Fr.app N314 NL327
  have Y_328 := Y_315.keep0 K327
  have Y_329 := Y_316.keep0 K327
  have Y_330 := Yn314.keep0 K327
  have O0_332 := O0_318.keep K327 all0
  have A284_333 := A284_319.keep K327
  have F_queryId_334 := F_queryId_320.keep K327 nin0
  have F_left_335 := F_left_321.keep K327 nin0
  have F_right_336 := F_right_322.keep K327 nin0
  have F_preference_337 := F_preference_323.keep K327 nin0
  have F_comment_338 := F_comment_324.keep K327 nin0
  have Es294_339 := Es294_325.keep K327
  have Es303_340 := Es303_326.keep K327
  have Es314_341 := Es314.keep K327
  have n0_327 : n0 ≤ T327.heap.size := Nat.le_trans n0_314 K327.1
  have R_327 := R_314.trans Rn327
  have hk327 := Nat.le_refl T327.heap.size
  have Es327 := Yn327.exa
  show W.Go p e below _ (T327.setTop (mkF m 114 #[.val (.long p0), .second, .val (.long p1), .second, .val (.int p2), .val (.int p3), .val (.int v255), .val (.int v258), .val (.int v261), .val (.int v264), .val (.int v267), .val (.int v270), .val (.int v273), .val (.int v276), .val (.int v279), .val (.int v282), .unset, .unset, .unset, .unset, .unset, .unset] [(.ref b327), (.ref b314), (.ref b303), (.ref b294), (.ref b284), (.ref b284)]))
  refine W.iload (q := 116) X327 C at_114 rfl rfl ?_
  refine W.callSW (q := 119) (s := s) X327 C (W.ww hw 14 rfl) (W.ww hw 15 rfl) (W.ww hw 2 rfl) (W.ww hw 16 rfl) (by decide) (rm4 l Z a0 hw [] v267 cs T327.heap n0 n0_327 rg268 O0_332 SC hcs) rfl hS327 hk327 (own_EL hw) R_327.1 at_116 [(.int v267)] [(.ref b327), (.ref b314), (.ref b303), (.ref b294), (.ref b284), (.ref b284)] rfl rfl pd__28I_29Ljava_2flang_2fString_3b rfl rfl (by decide) (Nat.le_of_ble_eq_true rfl) (by decide) (by decide) rfl (fun T342 w342 L342 X342 C hS342 hg342 hQ342 Rn342 => ?_)
  obtain ⟨b342, rfl, NL342, K342, Yn342⟩ := hQ342
  have N342 := Fr.app N327 NL342
  have Y_343 := Y_328.keep0 K342
  have Y_344 := Y_329.keep0 K342
  have Y_345 := Y_330.keep0 K342
  have Y_346 := Yn327.keep0 K342
  have O0_348 := O0_332.keep K342 all0
  have A284_349 := A284_333.keep K342
  have F_queryId_350 := F_queryId_334.keep K342 nin0
  have F_left_351 := F_left_335.keep K342 nin0
  have F_right_352 := F_right_336.keep K342 nin0
  have F_preference_353 := F_preference_337.keep K342 nin0
  have F_comment_354 := F_comment_338.keep K342 nin0
  have Es294_355 := Es294_339.keep K342
  have Es303_356 := Es303_340.keep K342
  have Es314_357 := Es314_341.keep K342
  have Es327_358 := Es327.keep K342
  have n0_342 : n0 ≤ T342.heap.size := Nat.le_trans n0_327 K342.1
  have R_342 := R_327.trans Rn342
  have hk342 := Nat.le_refl T342.heap.size
  have Es342 := Yn342.exa
  show W.Go p e below _ (T342.setTop (mkF m 119 #[.val (.long p0), .second, .val (.long p1), .second, .val (.int p2), .val (.int p3), .val (.int v255), .val (.int v258), .val (.int v261), .val (.int v264), .val (.int v267), .val (.int v270), .val (.int v273), .val (.int v276), .val (.int v279), .val (.int v282), .unset, .unset, .unset, .unset, .unset, .unset] [(.ref b342), (.ref b327), (.ref b314), (.ref b303), (.ref b294), (.ref b284), (.ref b284)]))
  refine W.callIW (q := 122) (s := s) X342 C rfl (W.ww hw 43 rfl) (W.ww hw 44 rfl) (W.ww hw 13 rfl) (W.ww hw 45 rfl) (by decide) (rm10 l Z a0 hw [] b284 b294 b303 b314 b327 b342 T342.heap n0 n0_342 ge_b284 A284_349 F_queryId_350 F_left_351 F_right_352 F_preference_353 F_comment_354 Es294_355 Es303_356 Es314_357 Es327_358 Es342) rfl hS342 hk342 (own_EL hw) R_342.1 at_119 (a := b284) [(.ref b294), (.ref b303), (.ref b314), (.ref b327), (.ref b342)] [(.ref b284)] rfl rfl pd__28Ljava_2flang_2fString_3bLjava_2flang_2fString_3bLjava_2flang_2fString_3bLjava_2flang_2fString_3bLjava_2flang_2fString_3b_29V rfl rfl (by decide) (Nat.le_of_ble_eq_true rfl) (by decide) (by decide) rfl (fun T359 w359 L359 X359 C hS359 hg359 hQ359 Rn359 => ?_)
  obtain ⟨rfl, NL359, K359, Ep359, Fp359_0_, Fp359_1_, Fp359_2_, Fp359_3_, Fp359_4_⟩ := hQ359
  have N359 := Fr.app N342 NL359
  have Y_360 := Y_343.keep1 K359 A284_349 (W.ww hw 12 rfl) (by decide)
  have Y_361 := Y_344.keep1 K359 A284_349 (W.ww hw 12 rfl) (by decide)
  have Y_362 := Y_345.keep1 K359 A284_349 (W.ww hw 12 rfl) (by decide)
  have Y_363 := Y_346.keep1 K359 A284_349 (W.ww hw 12 rfl) (by decide)
  have Y_364 := Yn342.keep1 K359 A284_349 (W.ww hw 12 rfl) (by decide)
  have O0_366 := O0_348.keep K359 (allS ge_b284 all0)
  have A284_367 := A284_349.keep K359
  have Es294_368 := Es294_355.keep K359
  have Es303_369 := Es303_356.keep K359
  have Es314_370 := Es314_357.keep K359
  have Es327_371 := Es327_358.keep K359
  have Es342_372 := Es342.keep K359
  have n0_359 : n0 ≤ T359.heap.size := Nat.le_trans n0_342 K359.1
  have R_359 := R_342.trans Rn359
  have hk359 := Nat.le_refl T359.heap.size
  show W.Go p e below _ (T359.setTop (mkF m 122 #[.val (.long p0), .second, .val (.long p1), .second, .val (.int p2), .val (.int p3), .val (.int v255), .val (.int v258), .val (.int v261), .val (.int v264), .val (.int v267), .val (.int v270), .val (.int v273), .val (.int v276), .val (.int v279), .val (.int v282), .unset, .unset, .unset, .unset, .unset, .unset] [(.ref b284)]))
  refine W.astore (q := 124) (L' := #[.val (.long p0), .second, .val (.long p1), .second, .val (.int p2), .val (.int p3), .val (.int v255), .val (.int v258), .val (.int v261), .val (.int v264), .val (.int v267), .val (.int v270), .val (.int v273), .val (.int v276), .val (.int v279), .val (.int v282), .val (.ref b284), .unset, .unset, .unset, .unset, .unset]) X359 C at_122 rfl rfl rfl ?_
  refine W.newO (q := 127) X359 C (W.ww hw 11 rfl) (W.ww hw 12 rfl) (W.ww hw 13 rfl) rfl at_124 (by decide) (by decide) rfl (fun T373 h373 b373 X373 e373 g373 E373 A373 D373 => ?_)
  have ne_b284_b373 : b284 ≠ b373 := by rw [g373]; exact Nat.ne_of_lt Ep359.lt
  have ne_b294_b373 : b294 ≠ b373 := by rw [g373]; exact Nat.ne_of_lt Es294_368.lt
  have ne_b303_b373 : b303 ≠ b373 := by rw [g373]; exact Nat.ne_of_lt Es303_369.lt
  have ne_b314_b373 : b314 ≠ b373 := by rw [g373]; exact Nat.ne_of_lt Es314_370.lt
  have ne_b327_b373 : b327 ≠ b373 := by rw [g373]; exact Nat.ne_of_lt Es327_371.lt
  have ne_b342_b373 : b342 ≠ b373 := by rw [g373]; exact Nat.ne_of_lt Es342_372.lt
  have ge_b373 : n0 ≤ b373 := by rw [g373]; exact n0_359
  have n0_373 : n0 ≤ h373.size := Nat.le_trans n0_359 E373.1
  have R_374 := R_359.trans (CHr.ext E373 R_359.1)
  have Y_375 := Y_360.ext E373
  have Y_376 := Y_361.ext E373
  have Y_377 := Y_362.ext E373
  have Y_378 := Y_363.ext E373
  have Y_379 := Y_364.ext E373
  have O0_381 := O0_366.ext E373
  have Ep359_382 := Ep359.ext E373
  have Es294_383 := Es294_368.ext E373
  have Es303_384 := Es303_369.ext E373
  have Es314_385 := Es314_370.ext E373
  have Es327_386 := Es327_371.ext E373
  have Es342_387 := Es342_372.ext E373
  have hk359_388 := Nat.le_trans hk359 E373.1
  have Fp359_0__389 := Fp359_0_.ext E373
  have Fp359_1__390 := Fp359_1_.ext E373
  have Fp359_2__391 := Fp359_2_.ext E373
  have Fp359_3__392 := Fp359_3_.ext E373
  have Fp359_4__393 := Fp359_4_.ext E373
  have F_queryId_394 : Fld Z h373 b373 "com/example/cranfield/cranfield/formats/PreferenceJudgment" "queryId" "Ljava/lang/String;" .null := D373 (Or.inr (W.ww hw 56 rfl)) (ty := (.object "java/lang/String")) (by decide)
  have F_left_395 : Fld Z h373 b373 "com/example/cranfield/cranfield/formats/PreferenceJudgment" "left" "Ljava/lang/String;" .null := D373 (Or.inr (W.ww hw 59 rfl)) (ty := (.object "java/lang/String")) (by decide)
  have F_right_396 : Fld Z h373 b373 "com/example/cranfield/cranfield/formats/PreferenceJudgment" "right" "Ljava/lang/String;" .null := D373 (Or.inr (W.ww hw 62 rfl)) (ty := (.object "java/lang/String")) (by decide)
  have F_preference_397 : Fld Z h373 b373 "com/example/cranfield/cranfield/formats/PreferenceJudgment" "preference" "Ljava/lang/String;" .null := D373 (Or.inr (W.ww hw 65 rfl)) (ty := (.object "java/lang/String")) (by decide)
  have F_comment_398 : Fld Z h373 b373 "com/example/cranfield/cranfield/formats/PreferenceJudgment" "comment" "Ljava/lang/String;" .null := D373 (Or.inr (W.ww hw 68 rfl)) (ty := (.object "java/lang/String")) (by decide)
  refine W.dup (q := 128) X373 C at_127 rfl rfl ?_
  refine W.iload (q := 130) X373 C at_128 rfl rfl ?_
  refine W.callSW (q := 133) (s := s) X373 C (W.ww hw 14 rfl) (W.ww hw 15 rfl) (W.ww hw 2 rfl) (W.ww hw 16 rfl) (by decide) (rm4 l Z a0 hw [] v270 cs h373 n0 n0_373 rg271 O0_381 SC hcs) e373 hS359 hk359_388 (own_EL hw) R_374.1 at_130 [(.int v270)] [(.ref b373), (.ref b373)] rfl rfl pd__28I_29Ljava_2flang_2fString_3b rfl rfl (by decide) (Nat.le_of_ble_eq_true rfl) (by decide) (by decide) rfl (fun T399 w399 L399 X399 C hS399 hg399 hQ399 Rn399 => ?_)
  obtain ⟨b399, rfl, NL399, K399, Yn399⟩ := hQ399
  have N399 := Fr.app N359 NL399
  have Y_400 := Y_375.keep0 K399
  have Y_401 := Y_376.keep0 K399
  have Y_402 := Y_377.keep0 K399
  have Y_403 := Y_378.keep0 K399
  have Y_404 := Y_379.keep0 K399
  have O0_406 := O0_381.keep K399 all0
  have Ep359_407 := Ep359_382.keep K399
  have Es294_408 := Es294_383.keep K399
  have Es303_409 := Es303_384.keep K399
  have Es314_410 := Es314_385.keep K399
  have Es327_411 := Es327_386.keep K399
  have Es342_412 := Es342_387.keep K399
  have Fp359_0__413 := Fp359_0__389.keep K399 nin0
  have Fp359_1__414 := Fp359_1__390.keep K399 nin0
  have Fp359_2__415 := Fp359_2__391.keep K399 nin0
  have Fp359_3__416 := Fp359_3__392.keep K399 nin0
  have Fp359_4__417 := Fp359_4__393.keep K399 nin0
  have A373_418 := A373.keep K399
  have F_queryId_419 := F_queryId_394.keep K399 nin0
  have F_left_420 := F_left_395.keep K399 nin0
  have F_right_421 := F_right_396.keep K399 nin0
  have F_preference_422 := F_preference_397.keep K399 nin0
  have F_comment_423 := F_comment_398.keep K399 nin0
  have n0_399 : n0 ≤ T399.heap.size := Nat.le_trans n0_373 K399.1
  have R_399 := R_374.trans Rn399
  have hk399 := Nat.le_refl T399.heap.size
  have Es399 := Yn399.exa
  show W.Go p e below _ (T399.setTop (mkF m 133 #[.val (.long p0), .second, .val (.long p1), .second, .val (.int p2), .val (.int p3), .val (.int v255), .val (.int v258), .val (.int v261), .val (.int v264), .val (.int v267), .val (.int v270), .val (.int v273), .val (.int v276), .val (.int v279), .val (.int v282), .val (.ref b284), .unset, .unset, .unset, .unset, .unset] [(.ref b399), (.ref b373), (.ref b373)]))
  refine W.iload (q := 135) X399 C at_133 rfl rfl ?_
  refine W.callSW (q := 138) (s := s) X399 C (W.ww hw 14 rfl) (W.ww hw 15 rfl) (W.ww hw 2 rfl) (W.ww hw 16 rfl) (by decide) (rm4 l Z a0 hw [] v273 cs T399.heap n0 n0_399 rg274 O0_406 SC hcs) rfl hS399 hk399 (own_EL hw) R_399.1 at_135 [(.int v273)] [(.ref b399), (.ref b373), (.ref b373)] rfl rfl pd__28I_29Ljava_2flang_2fString_3b rfl rfl (by decide) (Nat.le_of_ble_eq_true rfl) (by decide) (by decide) rfl (fun T424 w424 L424 X424 C hS424 hg424 hQ424 Rn424 => ?_)
  obtain ⟨b424, rfl, NL424, K424, Yn424⟩ := hQ424
  have N424 := Fr.app N399 NL424
  have Y_425 := Y_400.keep0 K424
  have Y_426 := Y_401.keep0 K424
  have Y_427 := Y_402.keep0 K424
  have Y_428 := Y_403.keep0 K424
  have Y_429 := Y_404.keep0 K424
  have Y_430 := Yn399.keep0 K424
  have O0_432 := O0_406.keep K424 all0
  have Ep359_433 := Ep359_407.keep K424
  have Es294_434 := Es294_408.keep K424
  have Es303_435 := Es303_409.keep K424
  have Es314_436 := Es314_410.keep K424
  have Es327_437 := Es327_411.keep K424
  have Es342_438 := Es342_412.keep K424
  have Fp359_0__439 := Fp359_0__413.keep K424 nin0
  have Fp359_1__440 := Fp359_1__414.keep K424 nin0
  have Fp359_2__441 := Fp359_2__415.keep K424 nin0
  have Fp359_3__442 := Fp359_3__416.keep K424 nin0
  have Fp359_4__443 := Fp359_4__417.keep K424 nin0
  have A373_444 := A373_418.keep K424
  have F_queryId_445 := F_queryId_419.keep K424 nin0
  have F_left_446 := F_left_420.keep K424 nin0
  have F_right_447 := F_right_421.keep K424 nin0
  have F_preference_448 := F_preference_422.keep K424 nin0
  have F_comment_449 := F_comment_423.keep K424 nin0
  have Es399_450 := Es399.keep K424
  have n0_424 : n0 ≤ T424.heap.size := Nat.le_trans n0_399 K424.1
  have R_424 := R_399.trans Rn424
  have hk424 := Nat.le_refl T424.heap.size
  have Es424 := Yn424.exa
  show W.Go p e below _ (T424.setTop (mkF m 138 #[.val (.long p0), .second, .val (.long p1), .second, .val (.int p2), .val (.int p3), .val (.int v255), .val (.int v258), .val (.int v261), .val (.int v264), .val (.int v267), .val (.int v270), .val (.int v273), .val (.int v276), .val (.int v279), .val (.int v282), .val (.ref b284), .unset, .unset, .unset, .unset, .unset] [(.ref b424), (.ref b399), (.ref b373), (.ref b373)]))
  refine W.iload (q := 140) X424 C at_138 rfl rfl ?_
  refine W.callSW (q := 143) (s := s) X424 C (W.ww hw 14 rfl) (W.ww hw 15 rfl) (W.ww hw 2 rfl) (W.ww hw 16 rfl) (by decide) (rm4 l Z a0 hw [] v276 cs T424.heap n0 n0_424 rg277 O0_432 SC hcs) rfl hS424 hk424 (own_EL hw) R_424.1 at_140 [(.int v276)] [(.ref b424), (.ref b399), (.ref b373), (.ref b373)] rfl rfl pd__28I_29Ljava_2flang_2fString_3b rfl rfl (by decide) (Nat.le_of_ble_eq_true rfl) (by decide) (by decide) rfl (fun T451 w451 L451 X451 C hS451 hg451 hQ451 Rn451 => ?_)
  obtain ⟨b451, rfl, NL451, K451, Yn451⟩ := hQ451
  have N451 := Fr.app N424 NL451
  have Y_452 := Y_425.keep0 K451
  have Y_453 := Y_426.keep0 K451
  have Y_454 := Y_427.keep0 K451
  have Y_455 := Y_428.keep0 K451
  have Y_456 := Y_429.keep0 K451
  have Y_457 := Y_430.keep0 K451
  have Y_458 := Yn424.keep0 K451
  have O0_460 := O0_432.keep K451 all0
  have Ep359_461 := Ep359_433.keep K451
  have Es294_462 := Es294_434.keep K451
  have Es303_463 := Es303_435.keep K451
  have Es314_464 := Es314_436.keep K451
  have Es327_465 := Es327_437.keep K451
  have Es342_466 := Es342_438.keep K451
  have Fp359_0__467 := Fp359_0__439.keep K451 nin0
  have Fp359_1__468 := Fp359_1__440.keep K451 nin0
  have Fp359_2__469 := Fp359_2__441.keep K451 nin0
  have Fp359_3__470 := Fp359_3__442.keep K451 nin0
  have Fp359_4__471 := Fp359_4__443.keep K451 nin0
  have A373_472 := A373_444.keep K451
  have F_queryId_473 := F_queryId_445.keep K451 nin0
  have F_left_474 := F_left_446.keep K451 nin0
  have F_right_475 := F_right_447.keep K451 nin0
  have F_preference_476 := F_preference_448.keep K451 nin0
  have F_comment_477 := F_comment_449.keep K451 nin0
  have Es399_478 := Es399_450.keep K451
  have Es424_479 := Es424.keep K451
  have n0_451 : n0 ≤ T451.heap.size := Nat.le_trans n0_424 K451.1
  have R_451 := R_424.trans Rn451
  have hk451 := Nat.le_refl T451.heap.size
  have Es451 := Yn451.exa
  show W.Go p e below _ (T451.setTop (mkF m 143 #[.val (.long p0), .second, .val (.long p1), .second, .val (.int p2), .val (.int p3), .val (.int v255), .val (.int v258), .val (.int v261), .val (.int v264), .val (.int v267), .val (.int v270), .val (.int v273), .val (.int v276), .val (.int v279), .val (.int v282), .val (.ref b284), .unset, .unset, .unset, .unset, .unset] [(.ref b451), (.ref b424), (.ref b399), (.ref b373), (.ref b373)]))
  refine W.iload (q := 145) X451 C at_143 rfl rfl ?_
  refine W.callSW (q := 148) (s := s) X451 C (W.ww hw 14 rfl) (W.ww hw 15 rfl) (W.ww hw 2 rfl) (W.ww hw 16 rfl) (by decide) (rm4 l Z a0 hw [] v279 cs T451.heap n0 n0_451 rg280 O0_460 SC hcs) rfl hS451 hk451 (own_EL hw) R_451.1 at_145 [(.int v279)] [(.ref b451), (.ref b424), (.ref b399), (.ref b373), (.ref b373)] rfl rfl pd__28I_29Ljava_2flang_2fString_3b rfl rfl (by decide) (Nat.le_of_ble_eq_true rfl) (by decide) (by decide) rfl (fun T480 w480 L480 X480 C hS480 hg480 hQ480 Rn480 => ?_)
  obtain ⟨b480, rfl, NL480, K480, Yn480⟩ := hQ480
  have N480 := Fr.app N451 NL480
  have Y_481 := Y_452.keep0 K480
  have Y_482 := Y_453.keep0 K480
  have Y_483 := Y_454.keep0 K480
  have Y_484 := Y_455.keep0 K480
  have Y_485 := Y_456.keep0 K480
  have Y_486 := Y_457.keep0 K480
  have Y_487 := Y_458.keep0 K480
  have Y_488 := Yn451.keep0 K480
  have O0_490 := O0_460.keep K480 all0
  have Ep359_491 := Ep359_461.keep K480
  have Es294_492 := Es294_462.keep K480
  have Es303_493 := Es303_463.keep K480
  have Es314_494 := Es314_464.keep K480
  have Es327_495 := Es327_465.keep K480
  have Es342_496 := Es342_466.keep K480
  have Fp359_0__497 := Fp359_0__467.keep K480 nin0
  have Fp359_1__498 := Fp359_1__468.keep K480 nin0
  have Fp359_2__499 := Fp359_2__469.keep K480 nin0
  have Fp359_3__500 := Fp359_3__470.keep K480 nin0
  have Fp359_4__501 := Fp359_4__471.keep K480 nin0
  have A373_502 := A373_472.keep K480
  have F_queryId_503 := F_queryId_473.keep K480 nin0
  have F_left_504 := F_left_474.keep K480 nin0
  have F_right_505 := F_right_475.keep K480 nin0
  have F_preference_506 := F_preference_476.keep K480 nin0
  have F_comment_507 := F_comment_477.keep K480 nin0
  have Es399_508 := Es399_478.keep K480
  have Es424_509 := Es424_479.keep K480
  have Es451_510 := Es451.keep K480
  have n0_480 : n0 ≤ T480.heap.size := Nat.le_trans n0_451 K480.1
  have R_480 := R_451.trans Rn480
  have hk480 := Nat.le_refl T480.heap.size
  have Es480 := Yn480.exa
  show W.Go p e below _ (T480.setTop (mkF m 148 #[.val (.long p0), .second, .val (.long p1), .second, .val (.int p2), .val (.int p3), .val (.int v255), .val (.int v258), .val (.int v261), .val (.int v264), .val (.int v267), .val (.int v270), .val (.int v273), .val (.int v276), .val (.int v279), .val (.int v282), .val (.ref b284), .unset, .unset, .unset, .unset, .unset] [(.ref b480), (.ref b451), (.ref b424), (.ref b399), (.ref b373), (.ref b373)]))
  refine W.iload (q := 150) X480 C at_148 rfl rfl ?_
  refine W.callSW (q := 153) (s := s) X480 C (W.ww hw 14 rfl) (W.ww hw 15 rfl) (W.ww hw 2 rfl) (W.ww hw 16 rfl) (by decide) (rm4 l Z a0 hw [] v282 cs T480.heap n0 n0_480 rg283 O0_490 SC hcs) rfl hS480 hk480 (own_EL hw) R_480.1 at_150 [(.int v282)] [(.ref b480), (.ref b451), (.ref b424), (.ref b399), (.ref b373), (.ref b373)] rfl rfl pd__28I_29Ljava_2flang_2fString_3b rfl rfl (by decide) (Nat.le_of_ble_eq_true rfl) (by decide) (by decide) rfl (fun T511 w511 L511 X511 C hS511 hg511 hQ511 Rn511 => ?_)
  obtain ⟨b511, rfl, NL511, K511, Yn511⟩ := hQ511
  have N511 := Fr.app N480 NL511
  have Y_512 := Y_481.keep0 K511
  have Y_513 := Y_482.keep0 K511
  have Y_514 := Y_483.keep0 K511
  have Y_515 := Y_484.keep0 K511
  have Y_516 := Y_485.keep0 K511
  have Y_517 := Y_486.keep0 K511
  have Y_518 := Y_487.keep0 K511
  have Y_519 := Y_488.keep0 K511
  have Y_520 := Yn480.keep0 K511
  have O0_522 := O0_490.keep K511 all0
  have Ep359_523 := Ep359_491.keep K511
  have Es294_524 := Es294_492.keep K511
  have Es303_525 := Es303_493.keep K511
  have Es314_526 := Es314_494.keep K511
  have Es327_527 := Es327_495.keep K511
  have Es342_528 := Es342_496.keep K511
  have Fp359_0__529 := Fp359_0__497.keep K511 nin0
  have Fp359_1__530 := Fp359_1__498.keep K511 nin0
  have Fp359_2__531 := Fp359_2__499.keep K511 nin0
  have Fp359_3__532 := Fp359_3__500.keep K511 nin0
  have Fp359_4__533 := Fp359_4__501.keep K511 nin0
  have A373_534 := A373_502.keep K511
  have F_queryId_535 := F_queryId_503.keep K511 nin0
  have F_left_536 := F_left_504.keep K511 nin0
  have F_right_537 := F_right_505.keep K511 nin0
  have F_preference_538 := F_preference_506.keep K511 nin0
  have F_comment_539 := F_comment_507.keep K511 nin0
  have Es399_540 := Es399_508.keep K511
  have Es424_541 := Es424_509.keep K511
  have Es451_542 := Es451_510.keep K511
  have Es480_543 := Es480.keep K511
  have n0_511 : n0 ≤ T511.heap.size := Nat.le_trans n0_480 K511.1
  have R_511 := R_480.trans Rn511
  have hk511 := Nat.le_refl T511.heap.size
  have Es511 := Yn511.exa
  show W.Go p e below _ (T511.setTop (mkF m 153 #[.val (.long p0), .second, .val (.long p1), .second, .val (.int p2), .val (.int p3), .val (.int v255), .val (.int v258), .val (.int v261), .val (.int v264), .val (.int v267), .val (.int v270), .val (.int v273), .val (.int v276), .val (.int v279), .val (.int v282), .val (.ref b284), .unset, .unset, .unset, .unset, .unset] [(.ref b511), (.ref b480), (.ref b451), (.ref b424), (.ref b399), (.ref b373), (.ref b373)]))
  refine W.callIW (q := 156) (s := s) X511 C rfl (W.ww hw 43 rfl) (W.ww hw 44 rfl) (W.ww hw 13 rfl) (W.ww hw 45 rfl) (by decide) (rm10 l Z a0 hw [] b373 b399 b424 b451 b480 b511 T511.heap n0 n0_511 ge_b373 A373_534 F_queryId_535 F_left_536 F_right_537 F_preference_538 F_comment_539 Es399_540 Es424_541 Es451_542 Es480_543 Es511) rfl hS511 hk511 (own_EL hw) R_511.1 at_153 (a := b373) [(.ref b399), (.ref b424), (.ref b451), (.ref b480), (.ref b511)] [(.ref b373)] rfl rfl pd__28Ljava_2flang_2fString_3bLjava_2flang_2fString_3bLjava_2flang_2fString_3bLjava_2flang_2fString_3bLjava_2flang_2fString_3b_29V rfl rfl (by decide) (Nat.le_of_ble_eq_true rfl) (by decide) (by decide) rfl (fun T544 w544 L544 X544 C hS544 hg544 hQ544 Rn544 => ?_)
  obtain ⟨rfl, NL544, K544, Ep544, Fp544_0_, Fp544_1_, Fp544_2_, Fp544_3_, Fp544_4_⟩ := hQ544
  have N544 := Fr.app N511 NL544
  have Y_545 := Y_512.keep1 K544 A373_534 (W.ww hw 12 rfl) (by decide)
  have Y_546 := Y_513.keep1 K544 A373_534 (W.ww hw 12 rfl) (by decide)
  have Y_547 := Y_514.keep1 K544 A373_534 (W.ww hw 12 rfl) (by decide)
  have Y_548 := Y_515.keep1 K544 A373_534 (W.ww hw 12 rfl) (by decide)
  have Y_549 := Y_516.keep1 K544 A373_534 (W.ww hw 12 rfl) (by decide)
  have Y_550 := Y_517.keep1 K544 A373_534 (W.ww hw 12 rfl) (by decide)
  have Y_551 := Y_518.keep1 K544 A373_534 (W.ww hw 12 rfl) (by decide)
  have Y_552 := Y_519.keep1 K544 A373_534 (W.ww hw 12 rfl) (by decide)
  have Y_553 := Y_520.keep1 K544 A373_534 (W.ww hw 12 rfl) (by decide)
  have Y_554 := Yn511.keep1 K544 A373_534 (W.ww hw 12 rfl) (by decide)
  have O0_556 := O0_522.keep K544 (allS ge_b373 all0)
  have Ep359_557 := Ep359_523.keep K544
  have Es294_558 := Es294_524.keep K544
  have Es303_559 := Es303_525.keep K544
  have Es314_560 := Es314_526.keep K544
  have Es327_561 := Es327_527.keep K544
  have Es342_562 := Es342_528.keep K544
  have Fp359_0__563 := Fp359_0__529.keep K544 (ninS ne_b284_b373 nin0)
  have Fp359_1__564 := Fp359_1__530.keep K544 (ninS ne_b284_b373 nin0)
  have Fp359_2__565 := Fp359_2__531.keep K544 (ninS ne_b284_b373 nin0)
  have Fp359_3__566 := Fp359_3__532.keep K544 (ninS ne_b284_b373 nin0)
  have Fp359_4__567 := Fp359_4__533.keep K544 (ninS ne_b284_b373 nin0)
  have A373_568 := A373_534.keep K544
  have Es399_569 := Es399_540.keep K544
  have Es424_570 := Es424_541.keep K544
  have Es451_571 := Es451_542.keep K544
  have Es480_572 := Es480_543.keep K544
  have Es511_573 := Es511.keep K544
  have n0_544 : n0 ≤ T544.heap.size := Nat.le_trans n0_511 K544.1
  have R_544 := R_511.trans Rn544
  have hk544 := Nat.le_refl T544.heap.size
  show W.Go p e below _ (T544.setTop (mkF m 156 #[.val (.long p0), .second, .val (.long p1), .second, .val (.int p2), .val (.int p3), .val (.int v255), .val (.int v258), .val (.int v261), .val (.int v264), .val (.int v267), .val (.int v270), .val (.int v273), .val (.int v276), .val (.int v279), .val (.int v282), .val (.ref b284), .unset, .unset, .unset, .unset, .unset] [(.ref b373)]))
  refine W.astore (q := 158) (L' := #[.val (.long p0), .second, .val (.long p1), .second, .val (.int p2), .val (.int p3), .val (.int v255), .val (.int v258), .val (.int v261), .val (.int v264), .val (.int v267), .val (.int v270), .val (.int v273), .val (.int v276), .val (.int v279), .val (.int v282), .val (.ref b284), .val (.ref b373), .unset, .unset, .unset, .unset]) X544 C at_156 rfl rfl rfl ?_
  refine W.iload (q := 160) X544 C at_158 rfl rfl ?_
  refine W.iconst (q := 161) (v := 3) X544 C at_160 rfl rfl ?_
  refine W.iand (q := 162) X544 C at_161 rfl ?_
  generalize hv574 : (p3 &&& (3 : Int32)) = v574
  refine W.istore (q := 164) (L' := #[.val (.long p0), .second, .val (.long p1), .second, .val (.int p2), .val (.int p3), .val (.int v255), .val (.int v258), .val (.int v261), .val (.int v264), .val (.int v267), .val (.int v270), .val (.int v273), .val (.int v276), .val (.int v279), .val (.int v282), .val (.ref b284), .val (.ref b373), .val (.int v574), .unset, .unset, .unset]) X544 C at_162 rfl rfl ?_
  refine W.iload (q := 166) X544 C at_164 rfl rfl ?_
  refine W.if_ (q := 184) (q' := 169) X544 C at_166 (by decide) (by decide) rfl (fun hc575 => ?_) (fun hc575 => ?_)
  · replace hc575 : v574 ≠ 0 := hc575
    refine W.iload (q := 186) X544 C at_184 rfl rfl ?_
    refine W.iconst (q := 187) (v := 1) X544 C at_186 rfl rfl ?_
    refine W.icmp (q := 213) (q' := 190) X544 C at_187 (by decide) (by decide) rfl (fun hc576 => ?_) (fun hc576 => ?_)
    · replace hc576 : v574 ≠ (1 : Int32) := hc576
      refine W.postW hS544 ?_
      have SCx := SC.ext O0_556.2
      refine W.iload (q := 215) X544 C at_213 rfl rfl ?_
      refine W.iload (q := 217) X544 C at_215 rfl rfl ?_
      refine W.icmp (q := 252) (q' := 220) X544 C at_217 (by decide) (by decide) rfl (fun hc577 => ?_) (fun hc577 => ?_)
      · replace hc577 : v255 ≠ v270 := hc577
        refine W.iconst (q := 253) (v := 0) X544 C at_252 rfl rfl ?_
        refine W.istore (q := 255) (L' := #[.val (.long p0), .second, .val (.long p1), .second, .val (.int p2), .val (.int p3), .val (.int v255), .val (.int v258), .val (.int v261), .val (.int v264), .val (.int v267), .val (.int v270), .val (.int v273), .val (.int v276), .val (.int v279), .val (.int v282), .val (.ref b284), .val (.ref b373), .val (.int v574), .val (.int (0 : Int32)), .unset, .unset]) X544 C at_253 rfl rfl ?_
        refine W.aload (q := 257) X544 C at_255 rfl rfl rfl ?_
        refine W.astore (q := 259) (L' := #[.val (.long p0), .second, .val (.long p1), .second, .val (.int p2), .val (.int p3), .val (.int v255), .val (.int v258), .val (.int v261), .val (.int v264), .val (.int v267), .val (.int v270), .val (.int v273), .val (.int v276), .val (.int v279), .val (.int v282), .val (.ref b284), .val (.ref b373), .val (.int v574), .val (.int (0 : Int32)), .val (.ref b373), .unset]) X544 C at_257 rfl rfl rfl ?_
        refine W.aload (q := 261) X544 C at_259 rfl rfl rfl ?_
        refine W.astore (q := 263) (L' := #[.val (.long p0), .second, .val (.long p1), .second, .val (.int p2), .val (.int p3), .val (.int v255), .val (.int v258), .val (.int v261), .val (.int v264), .val (.int v267), .val (.int v270), .val (.int v273), .val (.int v276), .val (.int v279), .val (.int v282), .val (.ref b284), .val (.ref b373), .val (.int v574), .val (.int (0 : Int32)), .val (.ref b373), .val (.ref b284)]) X544 C at_261 rfl rfl rfl ?_
        refine W.aload (q := 265) X544 C at_263 rfl rfl rfl ?_
        refine W.aload (q := 267) X544 C at_265 rfl rfl rfl ?_
        refine W.callV (q := 270) X544 C (W.ww hw 69 rfl) (W.ww hw 70 rfl) (W.nf C (W.ww hw 72 rfl)) (W.ww hw 72 rfl) (W.ww hw 71 rfl) (W.ww hw 13 rfl) (W.ww hw 73 rfl) (by decide) (rm12_p l Z a0 hw [] b284 b373 b294 b303 b314 b327 b342 b399 b424 b451 b480 b511 v255 v258 v261 v264 v267 v270 v273 v276 v279 v282 cs T544.heap n0 Ep359_557 Ep544 Fp359_0__563 Fp544_0_ Y_545 Y_550 rg256 rg271 Fp359_1__564 Fp544_1_ Y_546 Y_551 rg259 rg274 Fp359_2__565 Fp544_2_ Y_547 Y_552 rg262 rg277 Fp359_3__566 Fp544_3_ Y_548 Y_553 rg265 rg280 Fp359_4__567 Fp544_4_ Y_549 Y_554 rg268 rg283 SCx hcs) rfl Ep359_557 at_267 [(.ref b373)] [] rfl rfl pd__28Ljava_2flang_2fObject_3b_29Z rfl rfl (by decide) (Nat.le_of_ble_eq_true rfl) (by decide) (by decide) rfl (fun T578 w578 L578 X578 hQ578 => ?_)
        obtain ⟨rfl, NL578, e578⟩ := hQ578
        have N578 := Fr.app N544 NL578
        rw [show (own_e5 v255 v258 v261 v264 v267 v270 v273 v276 v279 v282) = (0 : Int32) from if_neg (fun e => hc577 e.1)]
        show W.Go p e below _ (T578.setTop (mkF m 270 #[.val (.long p0), .second, .val (.long p1), .second, .val (.int p2), .val (.int p3), .val (.int v255), .val (.int v258), .val (.int v261), .val (.int v264), .val (.int v267), .val (.int v270), .val (.int v273), .val (.int v276), .val (.int v279), .val (.int v282), .val (.ref b284), .val (.ref b373), .val (.int v574), .val (.int (0 : Int32)), .val (.ref b373), .val (.ref b284)] [(.int (0 : Int32))]))
        refine W.iload (q := 272) X578 C at_270 rfl rfl ?_
        refine W.icmpF (q := 275) X578 C at_272 rfl (by decide : W.cF .ne (0 : Int32) (0 : Int32)) ?_
        refine W.aload (q := 277) X578 C at_275 rfl rfl rfl ?_
        refine W.aload (q := 279) X578 C at_277 rfl rfl rfl ?_
        refine W.callV (q := 282) X578 C (W.ww hw 69 rfl) (W.ww hw 70 rfl) (W.nf C (W.ww hw 72 rfl)) (W.ww hw 72 rfl) (W.ww hw 71 rfl) (W.ww hw 13 rfl) (W.ww hw 73 rfl) (by decide) (rm12_p l Z a0 hw [] b373 b284 b399 b424 b451 b480 b511 b294 b303 b314 b327 b342 v270 v273 v276 v279 v282 v255 v258 v261 v264 v267 cs T544.heap n0 Ep544 Ep359_557 Fp544_0_ Fp359_0__563 Y_550 Y_545 rg271 rg256 Fp544_1_ Fp359_1__564 Y_551 Y_546 rg274 rg259 Fp544_2_ Fp359_2__565 Y_552 Y_547 rg277 rg262 Fp544_3_ Fp359_3__566 Y_553 Y_548 rg280 rg265 Fp544_4_ Fp359_4__567 Y_554 Y_549 rg283 rg268 SCx hcs) e578 Ep544 at_279 [(.ref b284)] [] rfl rfl pd__28Ljava_2flang_2fObject_3b_29Z rfl rfl (by decide) (Nat.le_of_ble_eq_true rfl) (by decide) (by decide) rfl (fun T579 w579 L579 X579 hQ579 => ?_)
        obtain ⟨rfl, NL579, e579⟩ := hQ579
        have N579 := Fr.app N578 NL579
        rw [show (own_e5 v270 v273 v276 v279 v282 v255 v258 v261 v264 v267) = (0 : Int32) from if_neg (fun e => hc577 (Eq.symm e.1))]
        show W.Go p e below _ (T579.setTop (mkF m 282 #[.val (.long p0), .second, .val (.long p1), .second, .val (.int p2), .val (.int p3), .val (.int v255), .val (.int v258), .val (.int v261), .val (.int v264), .val (.int v267), .val (.int v270), .val (.int v273), .val (.int v276), .val (.int v279), .val (.int v282), .val (.ref b284), .val (.ref b373), .val (.int v574), .val (.int (0 : Int32)), .val (.ref b373), .val (.ref b284)] [(.int (0 : Int32))]))
        refine W.iload (q := 284) X579 C at_282 rfl rfl ?_
        refine W.icmpF (q := 287) X579 C at_284 rfl (by decide : W.cF .ne (0 : Int32) (0 : Int32)) ?_
        refine W.iconst (q := 288) (v := 1) X579 C at_287 rfl rfl ?_
        refine W.goto (q := 292) X579 C at_288 (by decide) (by decide) ?_
        exact W.retN X579 C (by simp) e579 at_292 rfl (by decide) (by decide) ⟨⟨rfl, N579⟩, hk544⟩
      · replace hc577 : v255 = v270 := hc577
        refine W.iload (q := 222) X544 C at_220 rfl rfl ?_
        refine W.iload (q := 224) X544 C at_222 rfl rfl ?_
        refine W.icmp (q := 252) (q' := 227) X544 C at_224 (by decide) (by decide) rfl (fun hc580 => ?_) (fun hc580 => ?_)
        · replace hc580 : v258 ≠ v273 := hc580
          refine W.iconst (q := 253) (v := 0) X544 C at_252 rfl rfl ?_
          refine W.istore (q := 255) (L' := #[.val (.long p0), .second, .val (.long p1), .second, .val (.int p2), .val (.int p3), .val (.int v255), .val (.int v258), .val (.int v261), .val (.int v264), .val (.int v267), .val (.int v270), .val (.int v273), .val (.int v276), .val (.int v279), .val (.int v282), .val (.ref b284), .val (.ref b373), .val (.int v574), .val (.int (0 : Int32)), .unset, .unset]) X544 C at_253 rfl rfl ?_
          refine W.aload (q := 257) X544 C at_255 rfl rfl rfl ?_
          refine W.astore (q := 259) (L' := #[.val (.long p0), .second, .val (.long p1), .second, .val (.int p2), .val (.int p3), .val (.int v255), .val (.int v258), .val (.int v261), .val (.int v264), .val (.int v267), .val (.int v270), .val (.int v273), .val (.int v276), .val (.int v279), .val (.int v282), .val (.ref b284), .val (.ref b373), .val (.int v574), .val (.int (0 : Int32)), .val (.ref b373), .unset]) X544 C at_257 rfl rfl rfl ?_
          refine W.aload (q := 261) X544 C at_259 rfl rfl rfl ?_
          refine W.astore (q := 263) (L' := #[.val (.long p0), .second, .val (.long p1), .second, .val (.int p2), .val (.int p3), .val (.int v255), .val (.int v258), .val (.int v261), .val (.int v264), .val (.int v267), .val (.int v270), .val (.int v273), .val (.int v276), .val (.int v279), .val (.int v282), .val (.ref b284), .val (.ref b373), .val (.int v574), .val (.int (0 : Int32)), .val (.ref b373), .val (.ref b284)]) X544 C at_261 rfl rfl rfl ?_
          refine W.aload (q := 265) X544 C at_263 rfl rfl rfl ?_
          refine W.aload (q := 267) X544 C at_265 rfl rfl rfl ?_
          refine W.callV (q := 270) X544 C (W.ww hw 69 rfl) (W.ww hw 70 rfl) (W.nf C (W.ww hw 72 rfl)) (W.ww hw 72 rfl) (W.ww hw 71 rfl) (W.ww hw 13 rfl) (W.ww hw 73 rfl) (by decide) (rm12_p l Z a0 hw [] b284 b373 b294 b303 b314 b327 b342 b399 b424 b451 b480 b511 v255 v258 v261 v264 v267 v270 v273 v276 v279 v282 cs T544.heap n0 Ep359_557 Ep544 Fp359_0__563 Fp544_0_ Y_545 Y_550 rg256 rg271 Fp359_1__564 Fp544_1_ Y_546 Y_551 rg259 rg274 Fp359_2__565 Fp544_2_ Y_547 Y_552 rg262 rg277 Fp359_3__566 Fp544_3_ Y_548 Y_553 rg265 rg280 Fp359_4__567 Fp544_4_ Y_549 Y_554 rg268 rg283 SCx hcs) rfl Ep359_557 at_267 [(.ref b373)] [] rfl rfl pd__28Ljava_2flang_2fObject_3b_29Z rfl rfl (by decide) (Nat.le_of_ble_eq_true rfl) (by decide) (by decide) rfl (fun T581 w581 L581 X581 hQ581 => ?_)
          obtain ⟨rfl, NL581, e581⟩ := hQ581
          have N581 := Fr.app N544 NL581
          rw [show (own_e5 v255 v258 v261 v264 v267 v270 v273 v276 v279 v282) = (0 : Int32) from if_neg (fun e => hc580 e.2.1)]
          show W.Go p e below _ (T581.setTop (mkF m 270 #[.val (.long p0), .second, .val (.long p1), .second, .val (.int p2), .val (.int p3), .val (.int v255), .val (.int v258), .val (.int v261), .val (.int v264), .val (.int v267), .val (.int v270), .val (.int v273), .val (.int v276), .val (.int v279), .val (.int v282), .val (.ref b284), .val (.ref b373), .val (.int v574), .val (.int (0 : Int32)), .val (.ref b373), .val (.ref b284)] [(.int (0 : Int32))]))
          refine W.iload (q := 272) X581 C at_270 rfl rfl ?_
          refine W.icmpF (q := 275) X581 C at_272 rfl (by decide : W.cF .ne (0 : Int32) (0 : Int32)) ?_
          refine W.aload (q := 277) X581 C at_275 rfl rfl rfl ?_
          refine W.aload (q := 279) X581 C at_277 rfl rfl rfl ?_
          refine W.callV (q := 282) X581 C (W.ww hw 69 rfl) (W.ww hw 70 rfl) (W.nf C (W.ww hw 72 rfl)) (W.ww hw 72 rfl) (W.ww hw 71 rfl) (W.ww hw 13 rfl) (W.ww hw 73 rfl) (by decide) (rm12_p l Z a0 hw [] b373 b284 b399 b424 b451 b480 b511 b294 b303 b314 b327 b342 v270 v273 v276 v279 v282 v255 v258 v261 v264 v267 cs T544.heap n0 Ep544 Ep359_557 Fp544_0_ Fp359_0__563 Y_550 Y_545 rg271 rg256 Fp544_1_ Fp359_1__564 Y_551 Y_546 rg274 rg259 Fp544_2_ Fp359_2__565 Y_552 Y_547 rg277 rg262 Fp544_3_ Fp359_3__566 Y_553 Y_548 rg280 rg265 Fp544_4_ Fp359_4__567 Y_554 Y_549 rg283 rg268 SCx hcs) e581 Ep544 at_279 [(.ref b284)] [] rfl rfl pd__28Ljava_2flang_2fObject_3b_29Z rfl rfl (by decide) (Nat.le_of_ble_eq_true rfl) (by decide) (by decide) rfl (fun T582 w582 L582 X582 hQ582 => ?_)
          obtain ⟨rfl, NL582, e582⟩ := hQ582
          have N582 := Fr.app N581 NL582
          rw [show (own_e5 v270 v273 v276 v279 v282 v255 v258 v261 v264 v267) = (0 : Int32) from if_neg (fun e => hc580 (Eq.symm e.2.1))]
          show W.Go p e below _ (T582.setTop (mkF m 282 #[.val (.long p0), .second, .val (.long p1), .second, .val (.int p2), .val (.int p3), .val (.int v255), .val (.int v258), .val (.int v261), .val (.int v264), .val (.int v267), .val (.int v270), .val (.int v273), .val (.int v276), .val (.int v279), .val (.int v282), .val (.ref b284), .val (.ref b373), .val (.int v574), .val (.int (0 : Int32)), .val (.ref b373), .val (.ref b284)] [(.int (0 : Int32))]))
          refine W.iload (q := 284) X582 C at_282 rfl rfl ?_
          refine W.icmpF (q := 287) X582 C at_284 rfl (by decide : W.cF .ne (0 : Int32) (0 : Int32)) ?_
          refine W.iconst (q := 288) (v := 1) X582 C at_287 rfl rfl ?_
          refine W.goto (q := 292) X582 C at_288 (by decide) (by decide) ?_
          exact W.retN X582 C (by simp) e582 at_292 rfl (by decide) (by decide) ⟨⟨rfl, N582⟩, hk544⟩
        · replace hc580 : v258 = v273 := hc580
          refine W.iload (q := 229) X544 C at_227 rfl rfl ?_
          refine W.iload (q := 231) X544 C at_229 rfl rfl ?_
          refine W.icmp (q := 252) (q' := 234) X544 C at_231 (by decide) (by decide) rfl (fun hc583 => ?_) (fun hc583 => ?_)
          · replace hc583 : v261 ≠ v276 := hc583
            refine W.iconst (q := 253) (v := 0) X544 C at_252 rfl rfl ?_
            refine W.istore (q := 255) (L' := #[.val (.long p0), .second, .val (.long p1), .second, .val (.int p2), .val (.int p3), .val (.int v255), .val (.int v258), .val (.int v261), .val (.int v264), .val (.int v267), .val (.int v270), .val (.int v273), .val (.int v276), .val (.int v279), .val (.int v282), .val (.ref b284), .val (.ref b373), .val (.int v574), .val (.int (0 : Int32)), .unset, .unset]) X544 C at_253 rfl rfl ?_
            refine W.aload (q := 257) X544 C at_255 rfl rfl rfl ?_
            refine W.astore (q := 259) (L' := #[.val (.long p0), .second, .val (.long p1), .second, .val (.int p2), .val (.int p3), .val (.int v255), .val (.int v258), .val (.int v261), .val (.int v264), .val (.int v267), .val (.int v270), .val (.int v273), .val (.int v276), .val (.int v279), .val (.int v282), .val (.ref b284), .val (.ref b373), .val (.int v574), .val (.int (0 : Int32)), .val (.ref b373), .unset]) X544 C at_257 rfl rfl rfl ?_
            refine W.aload (q := 261) X544 C at_259 rfl rfl rfl ?_
            refine W.astore (q := 263) (L' := #[.val (.long p0), .second, .val (.long p1), .second, .val (.int p2), .val (.int p3), .val (.int v255), .val (.int v258), .val (.int v261), .val (.int v264), .val (.int v267), .val (.int v270), .val (.int v273), .val (.int v276), .val (.int v279), .val (.int v282), .val (.ref b284), .val (.ref b373), .val (.int v574), .val (.int (0 : Int32)), .val (.ref b373), .val (.ref b284)]) X544 C at_261 rfl rfl rfl ?_
            refine W.aload (q := 265) X544 C at_263 rfl rfl rfl ?_
            refine W.aload (q := 267) X544 C at_265 rfl rfl rfl ?_
            refine W.callV (q := 270) X544 C (W.ww hw 69 rfl) (W.ww hw 70 rfl) (W.nf C (W.ww hw 72 rfl)) (W.ww hw 72 rfl) (W.ww hw 71 rfl) (W.ww hw 13 rfl) (W.ww hw 73 rfl) (by decide) (rm12_p l Z a0 hw [] b284 b373 b294 b303 b314 b327 b342 b399 b424 b451 b480 b511 v255 v258 v261 v264 v267 v270 v273 v276 v279 v282 cs T544.heap n0 Ep359_557 Ep544 Fp359_0__563 Fp544_0_ Y_545 Y_550 rg256 rg271 Fp359_1__564 Fp544_1_ Y_546 Y_551 rg259 rg274 Fp359_2__565 Fp544_2_ Y_547 Y_552 rg262 rg277 Fp359_3__566 Fp544_3_ Y_548 Y_553 rg265 rg280 Fp359_4__567 Fp544_4_ Y_549 Y_554 rg268 rg283 SCx hcs) rfl Ep359_557 at_267 [(.ref b373)] [] rfl rfl pd__28Ljava_2flang_2fObject_3b_29Z rfl rfl (by decide) (Nat.le_of_ble_eq_true rfl) (by decide) (by decide) rfl (fun T584 w584 L584 X584 hQ584 => ?_)
            obtain ⟨rfl, NL584, e584⟩ := hQ584
            have N584 := Fr.app N544 NL584
            rw [show (own_e5 v255 v258 v261 v264 v267 v270 v273 v276 v279 v282) = (0 : Int32) from if_neg (fun e => hc583 e.2.2.1)]
            show W.Go p e below _ (T584.setTop (mkF m 270 #[.val (.long p0), .second, .val (.long p1), .second, .val (.int p2), .val (.int p3), .val (.int v255), .val (.int v258), .val (.int v261), .val (.int v264), .val (.int v267), .val (.int v270), .val (.int v273), .val (.int v276), .val (.int v279), .val (.int v282), .val (.ref b284), .val (.ref b373), .val (.int v574), .val (.int (0 : Int32)), .val (.ref b373), .val (.ref b284)] [(.int (0 : Int32))]))
            refine W.iload (q := 272) X584 C at_270 rfl rfl ?_
            refine W.icmpF (q := 275) X584 C at_272 rfl (by decide : W.cF .ne (0 : Int32) (0 : Int32)) ?_
            refine W.aload (q := 277) X584 C at_275 rfl rfl rfl ?_
            refine W.aload (q := 279) X584 C at_277 rfl rfl rfl ?_
            refine W.callV (q := 282) X584 C (W.ww hw 69 rfl) (W.ww hw 70 rfl) (W.nf C (W.ww hw 72 rfl)) (W.ww hw 72 rfl) (W.ww hw 71 rfl) (W.ww hw 13 rfl) (W.ww hw 73 rfl) (by decide) (rm12_p l Z a0 hw [] b373 b284 b399 b424 b451 b480 b511 b294 b303 b314 b327 b342 v270 v273 v276 v279 v282 v255 v258 v261 v264 v267 cs T544.heap n0 Ep544 Ep359_557 Fp544_0_ Fp359_0__563 Y_550 Y_545 rg271 rg256 Fp544_1_ Fp359_1__564 Y_551 Y_546 rg274 rg259 Fp544_2_ Fp359_2__565 Y_552 Y_547 rg277 rg262 Fp544_3_ Fp359_3__566 Y_553 Y_548 rg280 rg265 Fp544_4_ Fp359_4__567 Y_554 Y_549 rg283 rg268 SCx hcs) e584 Ep544 at_279 [(.ref b284)] [] rfl rfl pd__28Ljava_2flang_2fObject_3b_29Z rfl rfl (by decide) (Nat.le_of_ble_eq_true rfl) (by decide) (by decide) rfl (fun T585 w585 L585 X585 hQ585 => ?_)
            obtain ⟨rfl, NL585, e585⟩ := hQ585
            have N585 := Fr.app N584 NL585
            rw [show (own_e5 v270 v273 v276 v279 v282 v255 v258 v261 v264 v267) = (0 : Int32) from if_neg (fun e => hc583 (Eq.symm e.2.2.1))]
            show W.Go p e below _ (T585.setTop (mkF m 282 #[.val (.long p0), .second, .val (.long p1), .second, .val (.int p2), .val (.int p3), .val (.int v255), .val (.int v258), .val (.int v261), .val (.int v264), .val (.int v267), .val (.int v270), .val (.int v273), .val (.int v276), .val (.int v279), .val (.int v282), .val (.ref b284), .val (.ref b373), .val (.int v574), .val (.int (0 : Int32)), .val (.ref b373), .val (.ref b284)] [(.int (0 : Int32))]))
            refine W.iload (q := 284) X585 C at_282 rfl rfl ?_
            refine W.icmpF (q := 287) X585 C at_284 rfl (by decide : W.cF .ne (0 : Int32) (0 : Int32)) ?_
            refine W.iconst (q := 288) (v := 1) X585 C at_287 rfl rfl ?_
            refine W.goto (q := 292) X585 C at_288 (by decide) (by decide) ?_
            exact W.retN X585 C (by simp) e585 at_292 rfl (by decide) (by decide) ⟨⟨rfl, N585⟩, hk544⟩
          · replace hc583 : v261 = v276 := hc583
            refine W.iload (q := 236) X544 C at_234 rfl rfl ?_
            refine W.iload (q := 238) X544 C at_236 rfl rfl ?_
            refine W.icmp (q := 252) (q' := 241) X544 C at_238 (by decide) (by decide) rfl (fun hc586 => ?_) (fun hc586 => ?_)
            · replace hc586 : v264 ≠ v279 := hc586
              refine W.iconst (q := 253) (v := 0) X544 C at_252 rfl rfl ?_
              refine W.istore (q := 255) (L' := #[.val (.long p0), .second, .val (.long p1), .second, .val (.int p2), .val (.int p3), .val (.int v255), .val (.int v258), .val (.int v261), .val (.int v264), .val (.int v267), .val (.int v270), .val (.int v273), .val (.int v276), .val (.int v279), .val (.int v282), .val (.ref b284), .val (.ref b373), .val (.int v574), .val (.int (0 : Int32)), .unset, .unset]) X544 C at_253 rfl rfl ?_
              refine W.aload (q := 257) X544 C at_255 rfl rfl rfl ?_
              refine W.astore (q := 259) (L' := #[.val (.long p0), .second, .val (.long p1), .second, .val (.int p2), .val (.int p3), .val (.int v255), .val (.int v258), .val (.int v261), .val (.int v264), .val (.int v267), .val (.int v270), .val (.int v273), .val (.int v276), .val (.int v279), .val (.int v282), .val (.ref b284), .val (.ref b373), .val (.int v574), .val (.int (0 : Int32)), .val (.ref b373), .unset]) X544 C at_257 rfl rfl rfl ?_
              refine W.aload (q := 261) X544 C at_259 rfl rfl rfl ?_
              refine W.astore (q := 263) (L' := #[.val (.long p0), .second, .val (.long p1), .second, .val (.int p2), .val (.int p3), .val (.int v255), .val (.int v258), .val (.int v261), .val (.int v264), .val (.int v267), .val (.int v270), .val (.int v273), .val (.int v276), .val (.int v279), .val (.int v282), .val (.ref b284), .val (.ref b373), .val (.int v574), .val (.int (0 : Int32)), .val (.ref b373), .val (.ref b284)]) X544 C at_261 rfl rfl rfl ?_
              refine W.aload (q := 265) X544 C at_263 rfl rfl rfl ?_
              refine W.aload (q := 267) X544 C at_265 rfl rfl rfl ?_
              refine W.callV (q := 270) X544 C (W.ww hw 69 rfl) (W.ww hw 70 rfl) (W.nf C (W.ww hw 72 rfl)) (W.ww hw 72 rfl) (W.ww hw 71 rfl) (W.ww hw 13 rfl) (W.ww hw 73 rfl) (by decide) (rm12_p l Z a0 hw [] b284 b373 b294 b303 b314 b327 b342 b399 b424 b451 b480 b511 v255 v258 v261 v264 v267 v270 v273 v276 v279 v282 cs T544.heap n0 Ep359_557 Ep544 Fp359_0__563 Fp544_0_ Y_545 Y_550 rg256 rg271 Fp359_1__564 Fp544_1_ Y_546 Y_551 rg259 rg274 Fp359_2__565 Fp544_2_ Y_547 Y_552 rg262 rg277 Fp359_3__566 Fp544_3_ Y_548 Y_553 rg265 rg280 Fp359_4__567 Fp544_4_ Y_549 Y_554 rg268 rg283 SCx hcs) rfl Ep359_557 at_267 [(.ref b373)] [] rfl rfl pd__28Ljava_2flang_2fObject_3b_29Z rfl rfl (by decide) (Nat.le_of_ble_eq_true rfl) (by decide) (by decide) rfl (fun T587 w587 L587 X587 hQ587 => ?_)
              obtain ⟨rfl, NL587, e587⟩ := hQ587
              have N587 := Fr.app N544 NL587
              rw [show (own_e5 v255 v258 v261 v264 v267 v270 v273 v276 v279 v282) = (0 : Int32) from if_neg (fun e => hc586 e.2.2.2.1)]
              show W.Go p e below _ (T587.setTop (mkF m 270 #[.val (.long p0), .second, .val (.long p1), .second, .val (.int p2), .val (.int p3), .val (.int v255), .val (.int v258), .val (.int v261), .val (.int v264), .val (.int v267), .val (.int v270), .val (.int v273), .val (.int v276), .val (.int v279), .val (.int v282), .val (.ref b284), .val (.ref b373), .val (.int v574), .val (.int (0 : Int32)), .val (.ref b373), .val (.ref b284)] [(.int (0 : Int32))]))
              refine W.iload (q := 272) X587 C at_270 rfl rfl ?_
              refine W.icmpF (q := 275) X587 C at_272 rfl (by decide : W.cF .ne (0 : Int32) (0 : Int32)) ?_
              refine W.aload (q := 277) X587 C at_275 rfl rfl rfl ?_
              refine W.aload (q := 279) X587 C at_277 rfl rfl rfl ?_
              refine W.callV (q := 282) X587 C (W.ww hw 69 rfl) (W.ww hw 70 rfl) (W.nf C (W.ww hw 72 rfl)) (W.ww hw 72 rfl) (W.ww hw 71 rfl) (W.ww hw 13 rfl) (W.ww hw 73 rfl) (by decide) (rm12_p l Z a0 hw [] b373 b284 b399 b424 b451 b480 b511 b294 b303 b314 b327 b342 v270 v273 v276 v279 v282 v255 v258 v261 v264 v267 cs T544.heap n0 Ep544 Ep359_557 Fp544_0_ Fp359_0__563 Y_550 Y_545 rg271 rg256 Fp544_1_ Fp359_1__564 Y_551 Y_546 rg274 rg259 Fp544_2_ Fp359_2__565 Y_552 Y_547 rg277 rg262 Fp544_3_ Fp359_3__566 Y_553 Y_548 rg280 rg265 Fp544_4_ Fp359_4__567 Y_554 Y_549 rg283 rg268 SCx hcs) e587 Ep544 at_279 [(.ref b284)] [] rfl rfl pd__28Ljava_2flang_2fObject_3b_29Z rfl rfl (by decide) (Nat.le_of_ble_eq_true rfl) (by decide) (by decide) rfl (fun T588 w588 L588 X588 hQ588 => ?_)
              obtain ⟨rfl, NL588, e588⟩ := hQ588
              have N588 := Fr.app N587 NL588
              rw [show (own_e5 v270 v273 v276 v279 v282 v255 v258 v261 v264 v267) = (0 : Int32) from if_neg (fun e => hc586 (Eq.symm e.2.2.2.1))]
              show W.Go p e below _ (T588.setTop (mkF m 282 #[.val (.long p0), .second, .val (.long p1), .second, .val (.int p2), .val (.int p3), .val (.int v255), .val (.int v258), .val (.int v261), .val (.int v264), .val (.int v267), .val (.int v270), .val (.int v273), .val (.int v276), .val (.int v279), .val (.int v282), .val (.ref b284), .val (.ref b373), .val (.int v574), .val (.int (0 : Int32)), .val (.ref b373), .val (.ref b284)] [(.int (0 : Int32))]))
              refine W.iload (q := 284) X588 C at_282 rfl rfl ?_
              refine W.icmpF (q := 287) X588 C at_284 rfl (by decide : W.cF .ne (0 : Int32) (0 : Int32)) ?_
              refine W.iconst (q := 288) (v := 1) X588 C at_287 rfl rfl ?_
              refine W.goto (q := 292) X588 C at_288 (by decide) (by decide) ?_
              exact W.retN X588 C (by simp) e588 at_292 rfl (by decide) (by decide) ⟨⟨rfl, N588⟩, hk544⟩
            · replace hc586 : v264 = v279 := hc586
              refine W.iload (q := 243) X544 C at_241 rfl rfl ?_
              refine W.iload (q := 245) X544 C at_243 rfl rfl ?_
              refine W.icmp (q := 252) (q' := 248) X544 C at_245 (by decide) (by decide) rfl (fun hc589 => ?_) (fun hc589 => ?_)
              · replace hc589 : v267 ≠ v282 := hc589
                refine W.iconst (q := 253) (v := 0) X544 C at_252 rfl rfl ?_
                refine W.istore (q := 255) (L' := #[.val (.long p0), .second, .val (.long p1), .second, .val (.int p2), .val (.int p3), .val (.int v255), .val (.int v258), .val (.int v261), .val (.int v264), .val (.int v267), .val (.int v270), .val (.int v273), .val (.int v276), .val (.int v279), .val (.int v282), .val (.ref b284), .val (.ref b373), .val (.int v574), .val (.int (0 : Int32)), .unset, .unset]) X544 C at_253 rfl rfl ?_
                refine W.aload (q := 257) X544 C at_255 rfl rfl rfl ?_
                refine W.astore (q := 259) (L' := #[.val (.long p0), .second, .val (.long p1), .second, .val (.int p2), .val (.int p3), .val (.int v255), .val (.int v258), .val (.int v261), .val (.int v264), .val (.int v267), .val (.int v270), .val (.int v273), .val (.int v276), .val (.int v279), .val (.int v282), .val (.ref b284), .val (.ref b373), .val (.int v574), .val (.int (0 : Int32)), .val (.ref b373), .unset]) X544 C at_257 rfl rfl rfl ?_
                refine W.aload (q := 261) X544 C at_259 rfl rfl rfl ?_
                refine W.astore (q := 263) (L' := #[.val (.long p0), .second, .val (.long p1), .second, .val (.int p2), .val (.int p3), .val (.int v255), .val (.int v258), .val (.int v261), .val (.int v264), .val (.int v267), .val (.int v270), .val (.int v273), .val (.int v276), .val (.int v279), .val (.int v282), .val (.ref b284), .val (.ref b373), .val (.int v574), .val (.int (0 : Int32)), .val (.ref b373), .val (.ref b284)]) X544 C at_261 rfl rfl rfl ?_
                refine W.aload (q := 265) X544 C at_263 rfl rfl rfl ?_
                refine W.aload (q := 267) X544 C at_265 rfl rfl rfl ?_
                refine W.callV (q := 270) X544 C (W.ww hw 69 rfl) (W.ww hw 70 rfl) (W.nf C (W.ww hw 72 rfl)) (W.ww hw 72 rfl) (W.ww hw 71 rfl) (W.ww hw 13 rfl) (W.ww hw 73 rfl) (by decide) (rm12_p l Z a0 hw [] b284 b373 b294 b303 b314 b327 b342 b399 b424 b451 b480 b511 v255 v258 v261 v264 v267 v270 v273 v276 v279 v282 cs T544.heap n0 Ep359_557 Ep544 Fp359_0__563 Fp544_0_ Y_545 Y_550 rg256 rg271 Fp359_1__564 Fp544_1_ Y_546 Y_551 rg259 rg274 Fp359_2__565 Fp544_2_ Y_547 Y_552 rg262 rg277 Fp359_3__566 Fp544_3_ Y_548 Y_553 rg265 rg280 Fp359_4__567 Fp544_4_ Y_549 Y_554 rg268 rg283 SCx hcs) rfl Ep359_557 at_267 [(.ref b373)] [] rfl rfl pd__28Ljava_2flang_2fObject_3b_29Z rfl rfl (by decide) (Nat.le_of_ble_eq_true rfl) (by decide) (by decide) rfl (fun T590 w590 L590 X590 hQ590 => ?_)
                obtain ⟨rfl, NL590, e590⟩ := hQ590
                have N590 := Fr.app N544 NL590
                rw [show (own_e5 v255 v258 v261 v264 v267 v270 v273 v276 v279 v282) = (0 : Int32) from if_neg (fun e => hc589 e.2.2.2.2)]
                show W.Go p e below _ (T590.setTop (mkF m 270 #[.val (.long p0), .second, .val (.long p1), .second, .val (.int p2), .val (.int p3), .val (.int v255), .val (.int v258), .val (.int v261), .val (.int v264), .val (.int v267), .val (.int v270), .val (.int v273), .val (.int v276), .val (.int v279), .val (.int v282), .val (.ref b284), .val (.ref b373), .val (.int v574), .val (.int (0 : Int32)), .val (.ref b373), .val (.ref b284)] [(.int (0 : Int32))]))
                refine W.iload (q := 272) X590 C at_270 rfl rfl ?_
                refine W.icmpF (q := 275) X590 C at_272 rfl (by decide : W.cF .ne (0 : Int32) (0 : Int32)) ?_
                refine W.aload (q := 277) X590 C at_275 rfl rfl rfl ?_
                refine W.aload (q := 279) X590 C at_277 rfl rfl rfl ?_
                refine W.callV (q := 282) X590 C (W.ww hw 69 rfl) (W.ww hw 70 rfl) (W.nf C (W.ww hw 72 rfl)) (W.ww hw 72 rfl) (W.ww hw 71 rfl) (W.ww hw 13 rfl) (W.ww hw 73 rfl) (by decide) (rm12_p l Z a0 hw [] b373 b284 b399 b424 b451 b480 b511 b294 b303 b314 b327 b342 v270 v273 v276 v279 v282 v255 v258 v261 v264 v267 cs T544.heap n0 Ep544 Ep359_557 Fp544_0_ Fp359_0__563 Y_550 Y_545 rg271 rg256 Fp544_1_ Fp359_1__564 Y_551 Y_546 rg274 rg259 Fp544_2_ Fp359_2__565 Y_552 Y_547 rg277 rg262 Fp544_3_ Fp359_3__566 Y_553 Y_548 rg280 rg265 Fp544_4_ Fp359_4__567 Y_554 Y_549 rg283 rg268 SCx hcs) e590 Ep544 at_279 [(.ref b284)] [] rfl rfl pd__28Ljava_2flang_2fObject_3b_29Z rfl rfl (by decide) (Nat.le_of_ble_eq_true rfl) (by decide) (by decide) rfl (fun T591 w591 L591 X591 hQ591 => ?_)
                obtain ⟨rfl, NL591, e591⟩ := hQ591
                have N591 := Fr.app N590 NL591
                rw [show (own_e5 v270 v273 v276 v279 v282 v255 v258 v261 v264 v267) = (0 : Int32) from if_neg (fun e => hc589 (Eq.symm e.2.2.2.2))]
                show W.Go p e below _ (T591.setTop (mkF m 282 #[.val (.long p0), .second, .val (.long p1), .second, .val (.int p2), .val (.int p3), .val (.int v255), .val (.int v258), .val (.int v261), .val (.int v264), .val (.int v267), .val (.int v270), .val (.int v273), .val (.int v276), .val (.int v279), .val (.int v282), .val (.ref b284), .val (.ref b373), .val (.int v574), .val (.int (0 : Int32)), .val (.ref b373), .val (.ref b284)] [(.int (0 : Int32))]))
                refine W.iload (q := 284) X591 C at_282 rfl rfl ?_
                refine W.icmpF (q := 287) X591 C at_284 rfl (by decide : W.cF .ne (0 : Int32) (0 : Int32)) ?_
                refine W.iconst (q := 288) (v := 1) X591 C at_287 rfl rfl ?_
                refine W.goto (q := 292) X591 C at_288 (by decide) (by decide) ?_
                exact W.retN X591 C (by simp) e591 at_292 rfl (by decide) (by decide) ⟨⟨rfl, N591⟩, hk544⟩
              · replace hc589 : v267 = v282 := hc589
                refine W.iconst (q := 249) (v := 1) X544 C at_248 rfl rfl ?_
                refine W.goto (q := 253) X544 C at_249 (by decide) (by decide) ?_
                refine W.istore (q := 255) (L' := #[.val (.long p0), .second, .val (.long p1), .second, .val (.int p2), .val (.int p3), .val (.int v255), .val (.int v258), .val (.int v261), .val (.int v264), .val (.int v267), .val (.int v270), .val (.int v273), .val (.int v276), .val (.int v279), .val (.int v282), .val (.ref b284), .val (.ref b373), .val (.int v574), .val (.int (1 : Int32)), .unset, .unset]) X544 C at_253 rfl rfl ?_
                refine W.aload (q := 257) X544 C at_255 rfl rfl rfl ?_
                refine W.astore (q := 259) (L' := #[.val (.long p0), .second, .val (.long p1), .second, .val (.int p2), .val (.int p3), .val (.int v255), .val (.int v258), .val (.int v261), .val (.int v264), .val (.int v267), .val (.int v270), .val (.int v273), .val (.int v276), .val (.int v279), .val (.int v282), .val (.ref b284), .val (.ref b373), .val (.int v574), .val (.int (1 : Int32)), .val (.ref b373), .unset]) X544 C at_257 rfl rfl rfl ?_
                refine W.aload (q := 261) X544 C at_259 rfl rfl rfl ?_
                refine W.astore (q := 263) (L' := #[.val (.long p0), .second, .val (.long p1), .second, .val (.int p2), .val (.int p3), .val (.int v255), .val (.int v258), .val (.int v261), .val (.int v264), .val (.int v267), .val (.int v270), .val (.int v273), .val (.int v276), .val (.int v279), .val (.int v282), .val (.ref b284), .val (.ref b373), .val (.int v574), .val (.int (1 : Int32)), .val (.ref b373), .val (.ref b284)]) X544 C at_261 rfl rfl rfl ?_
                refine W.aload (q := 265) X544 C at_263 rfl rfl rfl ?_
                refine W.aload (q := 267) X544 C at_265 rfl rfl rfl ?_
                refine W.callV (q := 270) X544 C (W.ww hw 69 rfl) (W.ww hw 70 rfl) (W.nf C (W.ww hw 72 rfl)) (W.ww hw 72 rfl) (W.ww hw 71 rfl) (W.ww hw 13 rfl) (W.ww hw 73 rfl) (by decide) (rm12_p l Z a0 hw [] b284 b373 b294 b303 b314 b327 b342 b399 b424 b451 b480 b511 v255 v258 v261 v264 v267 v270 v273 v276 v279 v282 cs T544.heap n0 Ep359_557 Ep544 Fp359_0__563 Fp544_0_ Y_545 Y_550 rg256 rg271 Fp359_1__564 Fp544_1_ Y_546 Y_551 rg259 rg274 Fp359_2__565 Fp544_2_ Y_547 Y_552 rg262 rg277 Fp359_3__566 Fp544_3_ Y_548 Y_553 rg265 rg280 Fp359_4__567 Fp544_4_ Y_549 Y_554 rg268 rg283 SCx hcs) rfl Ep359_557 at_267 [(.ref b373)] [] rfl rfl pd__28Ljava_2flang_2fObject_3b_29Z rfl rfl (by decide) (Nat.le_of_ble_eq_true rfl) (by decide) (by decide) rfl (fun T592 w592 L592 X592 hQ592 => ?_)
                obtain ⟨rfl, NL592, e592⟩ := hQ592
                have N592 := Fr.app N544 NL592
                rw [show (own_e5 v255 v258 v261 v264 v267 v270 v273 v276 v279 v282) = (1 : Int32) from if_pos ⟨hc577, hc580, hc583, hc586, hc589⟩]
                show W.Go p e below _ (T592.setTop (mkF m 270 #[.val (.long p0), .second, .val (.long p1), .second, .val (.int p2), .val (.int p3), .val (.int v255), .val (.int v258), .val (.int v261), .val (.int v264), .val (.int v267), .val (.int v270), .val (.int v273), .val (.int v276), .val (.int v279), .val (.int v282), .val (.ref b284), .val (.ref b373), .val (.int v574), .val (.int (1 : Int32)), .val (.ref b373), .val (.ref b284)] [(.int (1 : Int32))]))
                refine W.iload (q := 272) X592 C at_270 rfl rfl ?_
                refine W.icmpF (q := 275) X592 C at_272 rfl (by decide : W.cF .ne (1 : Int32) (1 : Int32)) ?_
                refine W.aload (q := 277) X592 C at_275 rfl rfl rfl ?_
                refine W.aload (q := 279) X592 C at_277 rfl rfl rfl ?_
                refine W.callV (q := 282) X592 C (W.ww hw 69 rfl) (W.ww hw 70 rfl) (W.nf C (W.ww hw 72 rfl)) (W.ww hw 72 rfl) (W.ww hw 71 rfl) (W.ww hw 13 rfl) (W.ww hw 73 rfl) (by decide) (rm12_p l Z a0 hw [] b373 b284 b399 b424 b451 b480 b511 b294 b303 b314 b327 b342 v270 v273 v276 v279 v282 v255 v258 v261 v264 v267 cs T544.heap n0 Ep544 Ep359_557 Fp544_0_ Fp359_0__563 Y_550 Y_545 rg271 rg256 Fp544_1_ Fp359_1__564 Y_551 Y_546 rg274 rg259 Fp544_2_ Fp359_2__565 Y_552 Y_547 rg277 rg262 Fp544_3_ Fp359_3__566 Y_553 Y_548 rg280 rg265 Fp544_4_ Fp359_4__567 Y_554 Y_549 rg283 rg268 SCx hcs) e592 Ep544 at_279 [(.ref b284)] [] rfl rfl pd__28Ljava_2flang_2fObject_3b_29Z rfl rfl (by decide) (Nat.le_of_ble_eq_true rfl) (by decide) (by decide) rfl (fun T593 w593 L593 X593 hQ593 => ?_)
                obtain ⟨rfl, NL593, e593⟩ := hQ593
                have N593 := Fr.app N592 NL593
                rw [show (own_e5 v270 v273 v276 v279 v282 v255 v258 v261 v264 v267) = (1 : Int32) from if_pos ⟨hc577.symm, hc580.symm, hc583.symm, hc586.symm, hc589.symm⟩]
                show W.Go p e below _ (T593.setTop (mkF m 282 #[.val (.long p0), .second, .val (.long p1), .second, .val (.int p2), .val (.int p3), .val (.int v255), .val (.int v258), .val (.int v261), .val (.int v264), .val (.int v267), .val (.int v270), .val (.int v273), .val (.int v276), .val (.int v279), .val (.int v282), .val (.ref b284), .val (.ref b373), .val (.int v574), .val (.int (1 : Int32)), .val (.ref b373), .val (.ref b284)] [(.int (1 : Int32))]))
                refine W.iload (q := 284) X593 C at_282 rfl rfl ?_
                refine W.icmpF (q := 287) X593 C at_284 rfl (by decide : W.cF .ne (1 : Int32) (1 : Int32)) ?_
                refine W.iconst (q := 288) (v := 1) X593 C at_287 rfl rfl ?_
                refine W.goto (q := 292) X593 C at_288 (by decide) (by decide) ?_
                exact W.retN X593 C (by simp) e593 at_292 rfl (by decide) (by decide) ⟨⟨rfl, N593⟩, hk544⟩
    · replace hc576 : v574 = (1 : Int32) := hc576
      refine W.iload (q := 192) X544 C at_190 rfl rfl ?_
      refine W.callSW (q := 195) (s := s) X544 C (W.ww hw 14 rfl) (W.ww hw 15 rfl) (W.ww hw 2 rfl) (W.ww hw 16 rfl) (by decide) (rm4 l Z a0 hw [] v255 cs T544.heap n0 n0_544 rg256 O0_556 SC hcs) rfl hS544 hk544 (own_EL hw) R_544.1 at_192 [(.int v255)] [] rfl rfl pd__28I_29Ljava_2flang_2fString_3b rfl rfl (by decide) (Nat.le_of_ble_eq_true rfl) (by decide) (by decide) rfl (fun T594 w594 L594 X594 C hS594 hg594 hQ594 Rn594 => ?_)
      obtain ⟨b594, rfl, NL594, K594, Yn594⟩ := hQ594
      have N594 := Fr.app N544 NL594
      have Y_595 := Y_545.keep0 K594
      have Y_596 := Y_546.keep0 K594
      have Y_597 := Y_547.keep0 K594
      have Y_598 := Y_548.keep0 K594
      have Y_599 := Y_549.keep0 K594
      have Y_600 := Y_550.keep0 K594
      have Y_601 := Y_551.keep0 K594
      have Y_602 := Y_552.keep0 K594
      have Y_603 := Y_553.keep0 K594
      have Y_604 := Y_554.keep0 K594
      have O0_606 := O0_556.keep K594 all0
      have Ep359_607 := Ep359_557.keep K594
      have Es294_608 := Es294_558.keep K594
      have Es303_609 := Es303_559.keep K594
      have Es314_610 := Es314_560.keep K594
      have Es327_611 := Es327_561.keep K594
      have Es342_612 := Es342_562.keep K594
      have Fp359_0__613 := Fp359_0__563.keep K594 nin0
      have Fp359_1__614 := Fp359_1__564.keep K594 nin0
      have Fp359_2__615 := Fp359_2__565.keep K594 nin0
      have Fp359_3__616 := Fp359_3__566.keep K594 nin0
      have Fp359_4__617 := Fp359_4__567.keep K594 nin0
      have Ep544_618 := Ep544.keep K594
      have Es399_619 := Es399_569.keep K594
      have Es424_620 := Es424_570.keep K594
      have Es451_621 := Es451_571.keep K594
      have Es480_622 := Es480_572.keep K594
      have Es511_623 := Es511_573.keep K594
      have Fp544_0__624 := Fp544_0_.keep K594 nin0
      have Fp544_1__625 := Fp544_1_.keep K594 nin0
      have Fp544_2__626 := Fp544_2_.keep K594 nin0
      have Fp544_3__627 := Fp544_3_.keep K594 nin0
      have Fp544_4__628 := Fp544_4_.keep K594 nin0
      have n0_594 : n0 ≤ T594.heap.size := Nat.le_trans n0_544 K594.1
      have R_594 := R_544.trans Rn594
      have hk594 := Nat.le_refl T594.heap.size
      have Es594 := Yn594.exa
      show W.Go p e below _ (T594.setTop (mkF m 195 #[.val (.long p0), .second, .val (.long p1), .second, .val (.int p2), .val (.int p3), .val (.int v255), .val (.int v258), .val (.int v261), .val (.int v264), .val (.int v267), .val (.int v270), .val (.int v273), .val (.int v276), .val (.int v279), .val (.int v282), .val (.ref b284), .val (.ref b373), .val (.int v574), .unset, .unset, .unset] [(.ref b594)]))
      refine W.astore (q := 197) (L' := #[.val (.long p0), .second, .val (.long p1), .second, .val (.int p2), .val (.int p3), .val (.int v255), .val (.int v258), .val (.int v261), .val (.int v264), .val (.int v267), .val (.int v270), .val (.int v273), .val (.int v276), .val (.int v279), .val (.int v282), .val (.ref b284), .val (.ref b373), .val (.int v574), .val (.ref b594), .unset, .unset]) X594 C at_195 rfl rfl rfl ?_
      refine W.postW hS594 ?_
      have SCx := SC.ext O0_606.2
      refine W.aload (q := 199) X594 C at_197 rfl rfl rfl ?_
      refine W.aload (q := 201) X594 C at_199 rfl rfl rfl ?_
      refine W.callV (q := 204) X594 C (W.ww hw 69 rfl) (W.ww hw 70 rfl) (W.nf C (W.ww hw 72 rfl)) (W.ww hw 72 rfl) (W.ww hw 71 rfl) (W.ww hw 13 rfl) (W.ww hw 73 rfl) (by decide) (rm12_s l Z a0 hw [] b284 b594 T594.heap n0 Es594) rfl Ep359_607 at_201 [(.ref b594)] [] rfl rfl pd__28Ljava_2flang_2fObject_3b_29Z rfl rfl (by decide) (Nat.le_of_ble_eq_true rfl) (by decide) (by decide) rfl (fun T629 w629 L629 X629 hQ629 => ?_)
      obtain ⟨rfl, NL629, e629⟩ := hQ629
      have N629 := Fr.app N594 NL629
      show W.Go p e below _ (T629.setTop (mkF m 204 #[.val (.long p0), .second, .val (.long p1), .second, .val (.int p2), .val (.int p3), .val (.int v255), .val (.int v258), .val (.int v261), .val (.int v264), .val (.int v267), .val (.int v270), .val (.int v273), .val (.int v276), .val (.int v279), .val (.int v282), .val (.ref b284), .val (.ref b373), .val (.int v574), .val (.ref b594), .unset, .unset] [(.int (0 : Int32))]))
      refine W.ifF (q := 207) X629 C at_204 rfl (by decide : W.cF .ne (0 : Int32) 0) ?_
      refine W.iconst (q := 208) (v := 1) X629 C at_207 rfl rfl ?_
      refine W.goto (q := 212) X629 C at_208 (by decide) (by decide) ?_
      exact W.retN X629 C (by simp) e629 at_212 rfl (by decide) (by decide) ⟨⟨rfl, N629⟩, hk594⟩
  · replace hc575 : v574 = 0 := hc575
    refine W.postW hS544 ?_
    have SCx := SC.ext O0_556.2
    refine W.aload (q := 171) X544 C at_169 rfl rfl rfl ?_
    refine W.aconst (q := 172) X544 C at_171 rfl ?_
    refine W.callV (q := 175) X544 C (W.ww hw 69 rfl) (W.ww hw 70 rfl) (W.nf C (W.ww hw 72 rfl)) (W.ww hw 72 rfl) (W.ww hw 71 rfl) (W.ww hw 13 rfl) (W.ww hw 73 rfl) (by decide) (rm12_n l Z a0 hw [] b284 T544.heap n0) rfl Ep359_557 at_172 [.null] [] rfl rfl pd__28Ljava_2flang_2fObject_3b_29Z rfl rfl (by decide) (Nat.le_of_ble_eq_true rfl) (by decide) (by decide) rfl (fun T630 w630 L630 X630 hQ630 => ?_)
    obtain ⟨rfl, NL630, e630⟩ := hQ630
    have N630 := Fr.app N544 NL630
    show W.Go p e below _ (T630.setTop (mkF m 175 #[.val (.long p0), .second, .val (.long p1), .second, .val (.int p2), .val (.int p3), .val (.int v255), .val (.int v258), .val (.int v261), .val (.int v264), .val (.int v267), .val (.int v270), .val (.int v273), .val (.int v276), .val (.int v279), .val (.int v282), .val (.ref b284), .val (.ref b373), .val (.int v574), .unset, .unset, .unset] [(.int (0 : Int32))]))
    refine W.ifF (q := 178) X630 C at_175 rfl (by decide : W.cF .ne (0 : Int32) 0) ?_
    refine W.iconst (q := 179) (v := 1) X630 C at_178 rfl rfl ?_
    refine W.goto (q := 183) X630 C at_179 (by decide) (by decide) ?_
    exact W.retN X630 C (by simp) e630 at_183 rfl (by decide) (by decide) ⟨⟨rfl, N630⟩, hk544⟩
set_option maxRecDepth 65536 in
set_option maxHeartbeats 40000000 in
theorem comes_1 {Post : Tables → Env → Array Value → State → Outcome → State → Prop} (hpost : ∀ tb e args s v u, (limb_1_1.after args s (.returned v) u = true ∧ limb_1_2.after args s (.returned v) u = true ∧ True) → ReturnedEndW s (.returned v) u (Jvm.fieldLocs frame_1_writes args s ++ Jvm.arrayLocs frame_1_arrays args s ++ Jvm.staticLocs frame_1_statics s) 72 6400 → Post tb e args s (.returned v) u) :
    ArmFor flags0 classFile x code maxLocals ret World_1 tables_1 room_1 Calls_1 rest_1 Pre_1 Post := by
  intro l hfl _ _ p e ha hc hk s m args below hf hA hF happ hP
  obtain ⟨hcalls, hrest, hpre⟩ := hP
  obtain ⟨-, -, -, hnamed, -, -, -, hat⟩ := (Spec.applies_iff hf).mp happ
  obtain ⟨hg, hn⟩ := and_e (Cond.before_iff.mp (show (Jvm.Cond.and given_1 narrow_1).before args s = true from hpre))
  obtain ⟨g1, g2⟩ := and_e hg
  obtain ⟨g3, g4⟩ := and_e g2
  obtain ⟨g5, g6⟩ := and_e g4
  obtain ⟨g7, g8⟩ := and_e g6
  obtain ⟨w0, w1, w2, w3, rfl⟩ : ∃ w0 w1 w2 w3 : Value, args = #[w0, w1, w2, w3] := by
    have hs : args.size = 4 := by simpa [Cond.value, given_1] using g1
    obtain ⟨L⟩ := args
    match L, hs with
    | [w0, w1, w2, w3], _ => exact ⟨w0, w1, w2, w3, rfl⟩
  have hw := fun d (hd : d ∈ tables_1) => atoms_spec (ws := Jvm.Cond.code x code maxLocals ret :: tables_1) hat d (List.mem_cons_of_mem _ hd)
  have hfit : Fit s := fun {y c} hc i hi => by
    obtain ⟨ha, rfl⟩ := Array.getElem?_eq_some_iff.mp hc
    have q := List.all_eq_true.mp ((Array.all_eq_true_iff_forall_mem.mp hF) _ (Array.getElem_mem ha)) i (List.mem_range.mpr hi)
    simpa [Array.getElem?_eq_getElem hi] using q
  obtain ⟨hsets, hown0⟩ := atoms_of _ (rest_1_c_eq ▸ (show rest_1_c.before _ s = true from hrest))
  have hr0 := Cond.before_iff.mp hown0
  obtain ⟨i0, ei0⟩ := isL_v g3
  obtain rfl : w0 = (.long i0) := Option.some.inj ei0
  obtain ⟨i1, ei1⟩ := isL_v g5
  obtain rfl : w1 = (.long i1) := Option.some.inj ei1
  obtain ⟨i2, ei2⟩ := is_v g7
  obtain rfl : w2 = (.int i2) := Option.some.inj ei2
  obtain ⟨i3, ei3⟩ := is_v g8
  obtain rfl : w3 = (.int i3) := Option.some.inj ei3
  have hs1 := Cond.before_iff.mp (hsets _ (List.mem_of_getElem? (i := 1) rfl))
  obtain ⟨cs, evC⟩ := is_v hs1
  have SC := Sta.start evC (Or.inl (hsets _ (List.mem_of_getElem? (i := 0) rfl)))
  have hs2 := Cond.before_iff.mp (hsets _ (List.mem_of_getElem? (i := 2) rfl))
  have hcs : cs ≠ 0 := fun q => by subst q; exact absurd ((eq_i evC (Term.int_eval 0) rfl).symm.trans (not_v hs2)) (by decide)
  obtain ⟨n, o, h1, h2, h3, _, L, rfl, ⟨rfl, N⟩, hq⟩ := rm0 l s _ hw tables_1 i0 i1 i2 i3 cs s.heap s.heap.size (Nat.le_refl _) (Old.start s) SC hcs p e ha hc hk s m _ below hf ((Spec.applies_iff_loose hf).mp happ).1 ⟨rfl, State.Warmed39.refl s, rfl, own_CH hw hcalls.1 (hsets _ (List.mem_of_getElem? (i := 2) rfl))⟩ trivial
  refine ⟨n, _, h1, h2, h3, hpost _ _ _ _ _ _ ⟨Cond.after_iff.mpr rfl, Cond.after_iff.mpr (eq_i res_at (Term.int_eval (1)) rfl), trivial⟩ ⟨hq.1, hq.2.1, hq.2.2.1, (hq.2.2.2.sift fun y hy => Or.inr (N y hy)).mono (by decide) (by decide)⟩⟩
theorem main_1_1 : Claimed_1_1 := comes_1 fun _ _ _ _ _ _ h hF => ⟨h.1, hF⟩
theorem main_1_2 : Claimed_1_2 := comes_1 fun _ _ _ _ _ _ h hF => ⟨h.2.1, hF⟩
end Jvm.Pilot.@@N@@
namespace Jvm.Pilot.@@N@@
open Jvm Jvm.ClassFile Sem Op Lib Jvm.Free Jvm.Stand Jvm.Pilot.@@N@@.Jvm.D
/-! MADE BY PROGRAM (witnessworld.py) out of the Statement's table words and the real class files: 18 classes; the members and pool entries that the words name. The judged class is class 1, her method 5. -/
namespace start1
open Jvm.ClassFile
def u (s : String) : CpInfo := .utf8 (stringToUtf16 s)
/-- a pool by its gaps: so many unusable entries, then the entry; so many at the end -/
def gap : Nat → List CpInfo → List CpInfo
  | 0, r => r
  | n + 1, r => .unusable :: gap n r
def poolList (es : List (Nat × CpInfo)) (last : Nat) : List CpInfo := es.foldr (fun e r => gap e.1 (e.2 :: r)) (gap last [])
def pool (es : List (Nat × CpInfo)) (last : Nat) : Array CpInfo := ⟨poolList es last⟩
def fileOf (pool : Array CpInfo) (this : Nat) (attrs : Array Attribute := #[]) (ms : Array MethodInfo := #[]) (fl : Nat := 33) (sup : Nat := 0) (ifs : Array Nat := #[]) (fds : Array FieldInfo := #[]) : ClassFile where
  minorVersion := 0
  majorVersion := 65
  constantPool := pool
  accessFlags := fl
  thisClass := this
  superClass := sup
  interfaces := ifs
  fields := fds
  methods := ms
  attributes := attrs
def plain (name : String) (sup : Option ClassId) : Class where
  name := name
  kind := .ordinary
  loader := none
  accessFlags := 33
  super := sup
  interfaces := #[]
  cf := none
  fields := #[]
  methods := #[]
  instanceTypes := #[]
  staticTypes := #[]
  resolved := #[]
  callSites := []
  init := .initialized
  statics := none
  mirror := none

def pool0 : Array CpInfo := pool [(5, u "<init>"), (0, u "()V"), (1, .class_ 10), (1, u "java/lang/Object")] 113

def k0c0 : Code := { maxStack := 0, maxLocals := 1, code := object_method_1_code, exceptionTable := #[], attributes := #[] }
def k0m0 : Method := { name := "<init>", desc := "()V", sig := { parameters := [], returnType := none }, accessFlags := 1, code := some k0c0 }
/-- java/lang/Object -/
def k0 : Class := { plain "java/lang/Object" none with
  accessFlags := 33
  interfaces := #[]
  cf := some (fileOf pool0 8 #[] #[{ accessFlags := 1, nameIndex := 5, descriptorIndex := 6, attributes := #[] }] 33 0 #[] #[])
  fields := #[]
  methods := #[k0m0]
  instanceTypes := #[]
  staticTypes := #[]
  resolved := Array.replicate 124 none
  statics := none }

def pool1 : Array CpInfo := pool [(2, .class_ 4), (1, u "java/lang/Object"), (0, u "<init>"), (0, u "()V"), (0, .string 8), (0, u ""), (0, .methodref 10 11), (0, .class_ 12), (0, .nameAndType 13 14), (0, u "java/lang/String"), (0, u "valueOf"), (0, u "(C)Ljava/lang/String;"), (0, .long 511), (1, .methodref 18 19), (0, .class_ 20), (0, .nameAndType 21 22), (0, u "com/example/cranfield/cranfield/formats/PreferenceJudgmentEqualsPinLaw"), (0, u "key"), (0, u "(I)I"), (0, .methodref 18 24), (0, .nameAndType 25 26), (0, u "pick"), (0, u "(JI)I"), (0, .methodref 18 28), (0, .nameAndType 29 30), (0, u "other"), (0, u "(IJII)I"), (0, .class_ 32), (0, u "com/example/cranfield/cranfield/formats/PreferenceJudgment"), (0, .methodref 18 34), (0, .nameAndType 35 36), (0, u "str"), (0, u "(I)Ljava/lang/String;"), (0, .methodref 31 38), (0, .nameAndType 5 39), (0, u "(Ljava/lang/String;Ljava/lang/String;Ljava/lang/String;Ljava/lang/String;Ljava/lang/String;)V"), (0, .methodref 31 41), (0, .nameAndType 42 43), (0, u "equals"), (0, u "(Ljava/lang/Object;)Z"), (3, u "law"), (0, u "(JJII)Z")] 2

def k1m0 : Method := { name := "<init>", desc := "()V", sig := { parameters := [], returnType := none }, accessFlags := 1, code := none }
def k1c1 : Code := { maxStack := 2, maxLocals := 1, code := method_2_code, exceptionTable := #[], attributes := #[] }
def k1m1 : Method := { name := "key", desc := "(I)I", sig := { parameters := [.int], returnType := some .int }, accessFlags := 10, code := some k1c1 }
def k1c2 : Code := { maxStack := 1, maxLocals := 1, code := method_3_code, exceptionTable := #[], attributes := #[] }
def k1m2 : Method := { name := "str", desc := "(I)Ljava/lang/String;", sig := { parameters := [.int], returnType := some (.object "java/lang/String") }, accessFlags := 10, code := some k1c2 }
def k1c3 : Code := { maxStack := 4, maxLocals := 3, code := method_4_code, exceptionTable := #[], attributes := #[] }
def k1m3 : Method := { name := "pick", desc := "(JI)I", sig := { parameters := [.long, .int], returnType := some .int }, accessFlags := 10, code := some k1c3 }
def k1c4 : Code := { maxStack := 3, maxLocals := 5, code := method_5_code, exceptionTable := #[], attributes := #[] }
def k1m4 : Method := { name := "other", desc := "(IJII)I", sig := { parameters := [.int, .long, .int, .int], returnType := some .int }, accessFlags := 10, code := some k1c4 }
def k1c5 : Code := { maxStack := 7, maxLocals := 22, code := code, exceptionTable := #[], attributes := #[] }
def k1m5 : Method := { name := "law", desc := "(JJII)Z", sig := { parameters := [.long, .long, .int, .int], returnType := some .boolean }, accessFlags := 9, code := some k1c5 }
/-- com/example/cranfield/cranfield/formats/PreferenceJudgmentEqualsPinLaw -/
def k1 : Class := { plain "com/example/cranfield/cranfield/formats/PreferenceJudgmentEqualsPinLaw" (some 0) with
  accessFlags := 49
  interfaces := #[]
  cf := some (fileOf pool1 18 #[] #[{ accessFlags := 1, nameIndex := 5, descriptorIndex := 6, attributes := #[] }, { accessFlags := 10, nameIndex := 21, descriptorIndex := 22, attributes := #[] }, { accessFlags := 10, nameIndex := 35, descriptorIndex := 36, attributes := #[] }, { accessFlags := 10, nameIndex := 25, descriptorIndex := 26, attributes := #[] }, { accessFlags := 10, nameIndex := 29, descriptorIndex := 30, attributes := #[] }, { accessFlags := 9, nameIndex := 47, descriptorIndex := 48, attributes := #[] }] 49 2 #[] #[])
  fields := #[]
  methods := #[k1m0, k1m1, k1m2, k1m3, k1m4, k1m5]
  instanceTypes := #[]
  staticTypes := #[]
  resolved := Array.replicate 51 none
  statics := none }

def pool2 : Array CpInfo := pool [(1, .methodref 2 3), (0, .class_ 4), (0, .nameAndType 5 6), (0, u "java/lang/Object"), (0, u "<init>"), (0, u "()V"), (0, .string 8), (0, u "queryId"), (0, .methodref 10 11), (0, .class_ 12), (0, .nameAndType 13 14), (0, u "java/util/Objects"), (0, u "requireNonNull"), (0, u "(Ljava/lang/Object;Ljava/lang/String;)Ljava/lang/Object;"), (0, .class_ 16), (0, u "java/lang/String"), (0, .fieldref 18 19), (0, .class_ 20), (0, .nameAndType 8 21), (0, u "com/example/cranfield/cranfield/formats/PreferenceJudgment"), (0, u "Ljava/lang/String;"), (0, .string 23), (0, u "left"), (0, .fieldref 18 25), (0, .nameAndType 23 21), (0, .string 27), (0, u "right"), (0, .fieldref 18 29), (0, .nameAndType 27 21), (0, .string 31), (0, u "preference"), (0, .fieldref 18 33), (0, .nameAndType 31 21), (0, .string 35), (0, u "comment"), (0, .fieldref 18 37), (0, .nameAndType 35 21), (0, .methodref 15 39), (0, .nameAndType 40 41), (0, u "equals"), (0, u "(Ljava/lang/Object;)Z"), (8, u "(Ljava/lang/String;Ljava/lang/String;Ljava/lang/String;Ljava/lang/String;Ljava/lang/String;)V")] 24

def k2c0 : Code := { maxStack := 3, maxLocals := 6, code := prog_20_method_1_code, exceptionTable := #[], attributes := #[] }
def k2m0 : Method := { name := "<init>", desc := "(Ljava/lang/String;Ljava/lang/String;Ljava/lang/String;Ljava/lang/String;Ljava/lang/String;)V", sig := { parameters := [(.object "java/lang/String"), (.object "java/lang/String"), (.object "java/lang/String"), (.object "java/lang/String"), (.object "java/lang/String")], returnType := none }, accessFlags := 1, code := some k2c0 }
def k2c1 : Code := { maxStack := 2, maxLocals := 3, code := prog_20_method_7_code, exceptionTable := #[], attributes := #[] }
def k2m1 : Method := { name := "equals", desc := "(Ljava/lang/Object;)Z", sig := { parameters := [(.object "java/lang/Object")], returnType := some .boolean }, accessFlags := 1, code := some k2c1 }
/-- com/example/cranfield/cranfield/formats/PreferenceJudgment -/
def k2 : Class := { plain "com/example/cranfield/cranfield/formats/PreferenceJudgment" (some 0) with
  accessFlags := 49
  interfaces := #[]
  cf := some (fileOf pool2 18 #[] #[{ accessFlags := 1, nameIndex := 5, descriptorIndex := 50, attributes := #[] }, { accessFlags := 1, nameIndex := 40, descriptorIndex := 41, attributes := #[] }] 49 2 #[] #[{ accessFlags := 18, nameIndex := 8, descriptorIndex := 21, attributes := #[] }, { accessFlags := 18, nameIndex := 23, descriptorIndex := 21, attributes := #[] }, { accessFlags := 18, nameIndex := 27, descriptorIndex := 21, attributes := #[] }, { accessFlags := 18, nameIndex := 31, descriptorIndex := 21, attributes := #[] }, { accessFlags := 18, nameIndex := 35, descriptorIndex := 21, attributes := #[] }])
  fields := #[{ name := "queryId", type := (.object "java/lang/String"), accessFlags := 18, slot := 0, constantValue := 0 }, { name := "left", type := (.object "java/lang/String"), accessFlags := 18, slot := 1, constantValue := 0 }, { name := "right", type := (.object "java/lang/String"), accessFlags := 18, slot := 2, constantValue := 0 }, { name := "preference", type := (.object "java/lang/String"), accessFlags := 18, slot := 3, constantValue := 0 }, { name := "comment", type := (.object "java/lang/String"), accessFlags := 18, slot := 4, constantValue := 0 }]
  methods := #[k2m0, k2m1]
  instanceTypes := #[(.object "java/lang/String"), (.object "java/lang/String"), (.object "java/lang/String"), (.object "java/lang/String"), (.object "java/lang/String")]
  staticTypes := #[]
  resolved := Array.replicate 75 none
  statics := none }

def pool3 : Array CpInfo := pool [(1, .class_ 2), (0, u "java/io/Serializable"), (0, .class_ 4), (0, u "java/lang/Object")] 2

/-- java/io/Serializable -/
def k3 : Class := { plain "java/io/Serializable" (some 0) with
  accessFlags := 1537
  interfaces := #[]
  cf := some (fileOf pool3 1 #[] #[] 1537 3 #[] #[])
  fields := #[]
  methods := #[]
  instanceTypes := #[]
  staticTypes := #[]
  resolved := Array.replicate 7 none
  statics := none }

def pool4 : Array CpInfo := pool [(1, .class_ 2), (0, u "java/lang/Comparable"), (0, .class_ 4), (0, u "java/lang/Object")] 7

/-- java/lang/Comparable -/
def k4 : Class := { plain "java/lang/Comparable" (some 0) with
  accessFlags := 1537
  interfaces := #[]
  cf := some (fileOf pool4 1 #[] #[] 1537 3 #[] #[])
  fields := #[]
  methods := #[]
  instanceTypes := #[]
  staticTypes := #[]
  resolved := Array.replicate 12 none
  statics := none }

def pool5 : Array CpInfo := pool [(2, .class_ 4), (1, u "java/lang/CharSequence"), (42, .class_ 48), (0, u "java/lang/CharSequence$1CodePointIterator"), (10, .class_ 60), (0, u "java/lang/CharSequence$1CharIterator"), (5, .class_ 67), (0, u "java/lang/Object")] 63

/-- java/lang/CharSequence -/
def k5 : Class := { plain "java/lang/CharSequence" (some 0) with
  accessFlags := 1537
  interfaces := #[]
  cf := some (fileOf pool5 2 #[.nestMembers #[47, 59]] #[] 1537 66 #[] #[])
  fields := #[]
  methods := #[]
  instanceTypes := #[]
  staticTypes := #[]
  resolved := Array.replicate 131 none
  statics := none }

def pool6 : Array CpInfo := pool [(1, .class_ 2), (0, u "java/lang/constant/Constable"), (0, .class_ 4), (0, u "java/lang/Object")] 6

/-- java/lang/constant/Constable -/
def k6 : Class := { plain "java/lang/constant/Constable" (some 0) with
  accessFlags := 1537
  interfaces := #[]
  cf := some (fileOf pool6 1 #[] #[] 1537 3 #[] #[])
  fields := #[]
  methods := #[]
  instanceTypes := #[]
  staticTypes := #[]
  resolved := Array.replicate 11 none
  statics := none }

def pool7 : Array CpInfo := pool [(1, .class_ 2), (0, u "java/lang/constant/ConstantDesc"), (0, .class_ 4), (0, u "java/lang/Object")] 32

/-- java/lang/constant/ConstantDesc -/
def k7 : Class := { plain "java/lang/constant/ConstantDesc" (some 0) with
  accessFlags := 1537
  interfaces := #[]
  cf := some (fileOf pool7 1 #[] #[] 1537 3 #[] #[])
  fields := #[]
  methods := #[]
  instanceTypes := #[]
  staticTypes := #[]
  resolved := Array.replicate 37 none
  statics := none }

def pool8 : Array CpInfo := pool [(1, .methodref 2 3), (0, .class_ 4), (0, .nameAndType 5 6), (0, u "java/lang/Object"), (0, u "<init>"), (0, u "()V"), (2, .fieldref 10 11), (0, .class_ 12), (0, .nameAndType 13 14), (0, u "java/lang/String"), (0, u "value"), (0, u "[B"), (0, .fieldref 10 16), (0, .nameAndType 17 18), (0, u "coder"), (0, u "B"), (2, u "hash"), (0, u "I"), (2, u "hashIsZero"), (0, u "Z"), (11, .fieldref 10 39), (0, .nameAndType 40 26), (0, u "COMPACT_STRINGS"), (12, u "toBytes"), (53, .class_ 109), (1, u "java/lang/StringLatin1"), (99, .methodref 10 210), (0, .nameAndType 5 211), (0, u "([BB)V"), (157, u "(C)Z"), (171, .methodref 107 542), (0, .nameAndType 543 544), (0, u "equals"), (0, u "([B[B)Z"), (28, u "(Ljava/lang/Object;)Z"), (1, .class_ 576), (0, u "java/lang/CharSequence"), (22, u "CASE_INSENSITIVE_ORDER"), (0, u "Ljava/util/Comparator;"), (181, u "valueOf"), (0, u "(C)Ljava/lang/String;"), (231, .methodref 107 1016), (0, .nameAndType 1017 369), (0, u "canEncode"), (0, .methodref 107 1019), (0, .nameAndType 53 1020), (0, u "(C)[B"), (80, u "serialPersistentFields"), (0, u "[Ljava/io/ObjectStreamField;"), (0, .class_ 1104), (0, u "java/lang/String$CaseInsensitiveComparator"), (1, .class_ 1107), (0, u "java/io/Serializable"), (0, .class_ 1109), (0, u "java/lang/Comparable"), (0, .class_ 1111), (0, u "java/lang/constant/Constable"), (0, .class_ 1113), (0, u "java/lang/constant/ConstantDesc"), (2, u "serialVersionUID"), (0, u "J"), (3, u "REPL"), (0, u "C"), (2, u "LATIN1"), (1, u "UTF16")] 323

def k8m0 : Method := { name := "<init>", desc := "()V", sig := { parameters := [], returnType := none }, accessFlags := 1, code := none }
def k8c1 : Code := { maxStack := 2, maxLocals := 3, code := jdk_42_method_66_code, exceptionTable := #[], attributes := #[] }
def k8m1 : Method := { name := "equals", desc := "(Ljava/lang/Object;)Z", sig := { parameters := [(.object "java/lang/Object")], returnType := some .boolean }, accessFlags := 1, code := some k8c1 }
def k8c2 : Code := { maxStack := 4, maxLocals := 1, code := jdk_42_method_139_code, exceptionTable := #[], attributes := #[] }
def k8m2 : Method := { name := "valueOf", desc := "(C)Ljava/lang/String;", sig := { parameters := [.char], returnType := some (.object "java/lang/String") }, accessFlags := 9, code := some k8c2 }
def k8c3 : Code := { maxStack := 2, maxLocals := 3, code := jdk_42_method_151_code, exceptionTable := #[], attributes := #[] }
def k8m3 : Method := { name := "<init>", desc := "([BB)V", sig := { parameters := [(.array .byte), .byte], returnType := none }, accessFlags := 0, code := some k8c3 }
/-- java/lang/String -/
def k8 : Class := { plain "java/lang/String" (some 0) with
  accessFlags := 49
  interfaces := #[3, 4, 5, 6, 7]
  cf := some (fileOf pool8 10 #[.nestMembers #[1103]] #[{ accessFlags := 1, nameIndex := 5, descriptorIndex := 6, attributes := #[] }, { accessFlags := 1, nameIndex := 543, descriptorIndex := 573, attributes := #[] }, { accessFlags := 9, nameIndex := 782, descriptorIndex := 783, attributes := #[] }, { accessFlags := 0, nameIndex := 5, descriptorIndex := 211, attributes := #[] }] 49 2 #[1106, 1108, 575, 1110, 1112] #[{ accessFlags := 18, nameIndex := 13, descriptorIndex := 14, attributes := #[] }, { accessFlags := 18, nameIndex := 17, descriptorIndex := 18, attributes := #[] }, { accessFlags := 2, nameIndex := 21, descriptorIndex := 22, attributes := #[] }, { accessFlags := 2, nameIndex := 25, descriptorIndex := 26, attributes := #[] }, { accessFlags := 26, nameIndex := 1116, descriptorIndex := 1117, attributes := #[] }, { accessFlags := 24, nameIndex := 40, descriptorIndex := 26, attributes := #[] }, { accessFlags := 26, nameIndex := 1101, descriptorIndex := 1102, attributes := #[] }, { accessFlags := 26, nameIndex := 1121, descriptorIndex := 1122, attributes := #[] }, { accessFlags := 25, nameIndex := 599, descriptorIndex := 600, attributes := #[] }, { accessFlags := 24, nameIndex := 1125, descriptorIndex := 18, attributes := #[] }, { accessFlags := 24, nameIndex := 1127, descriptorIndex := 18, attributes := #[] }])
  fields := #[{ name := "value", type := (.array .byte), accessFlags := 18, slot := 0, constantValue := 0 }, { name := "coder", type := .byte, accessFlags := 18, slot := 1, constantValue := 0 }, { name := "hash", type := .int, accessFlags := 2, slot := 2, constantValue := 0 }, { name := "hashIsZero", type := .boolean, accessFlags := 2, slot := 3, constantValue := 0 }, { name := "serialVersionUID", type := .long, accessFlags := 26, slot := 0, constantValue := 0 }, { name := "COMPACT_STRINGS", type := .boolean, accessFlags := 24, slot := 1, constantValue := 0 }, { name := "serialPersistentFields", type := (.array (.object "java/io/ObjectStreamField")), accessFlags := 26, slot := 2, constantValue := 0 }, { name := "REPL", type := .char, accessFlags := 26, slot := 3, constantValue := 0 }, { name := "CASE_INSENSITIVE_ORDER", type := (.object "java/util/Comparator"), accessFlags := 25, slot := 4, constantValue := 0 }, { name := "LATIN1", type := .byte, accessFlags := 24, slot := 5, constantValue := 0 }, { name := "UTF16", type := .byte, accessFlags := 24, slot := 6, constantValue := 0 }]
  methods := #[k8m0, k8m1, k8m2, k8m3]
  instanceTypes := #[(.array .byte), .byte, .int, .boolean]
  staticTypes := #[.long, .boolean, (.array (.object "java/io/ObjectStreamField")), .char, (.object "java/util/Comparator"), .byte, .byte]
  resolved := Array.replicate 1451 none
  statics := some 0 }

def pool9 : Array CpInfo := pool [(4, .class_ 6), (1, u "java/lang/Object"), (0, u "<init>"), (0, u "()V"), (5, .class_ 16), (1, u "java/lang/StringLatin1"), (73, u "canEncode"), (14, u "(C)Z"), (15, u "$assertionsDisabled"), (0, u "Z"), (98, .class_ 223), (1, u "java/lang/StringLatin1$LinesSpliterator"), (57, u "equals"), (0, u "([B[B)Z"), (97, u "toBytes"), (1, u "(C)[B"), (7, .class_ 391), (0, u "java/lang/StringLatin1$CharsSpliterator")] 3

def k9m0 : Method := { name := "<init>", desc := "()V", sig := { parameters := [], returnType := none }, accessFlags := 0, code := none }
def k9c1 : Code := { maxStack := 2, maxLocals := 1, code := jdk_43_method_3_code, exceptionTable := #[], attributes := #[] }
def k9m1 : Method := { name := "canEncode", desc := "(C)Z", sig := { parameters := [.char], returnType := some .boolean }, accessFlags := 9, code := some k9c1 }
def k9c2 : Code := { maxStack := 3, maxLocals := 3, code := jdk_43_method_13_code, exceptionTable := #[], attributes := #[] }
def k9m2 : Method := { name := "equals", desc := "([B[B)Z", sig := { parameters := [(.array .byte), (.array .byte)], returnType := some .boolean }, accessFlags := 9, code := some k9c2 }
def k9c3 : Code := { maxStack := 4, maxLocals := 1, code := jdk_43_method_46_code, exceptionTable := #[], attributes := #[] }
def k9m3 : Method := { name := "toBytes", desc := "(C)[B", sig := { parameters := [.char], returnType := some (.array .byte) }, accessFlags := 9, code := some k9c3 }
/-- java/lang/StringLatin1 -/
def k9 : Class := { plain "java/lang/StringLatin1" (some 0) with
  accessFlags := 48
  interfaces := #[]
  cf := some (fileOf pool9 14 #[.nestMembers #[390, 221]] #[{ accessFlags := 0, nameIndex := 7, descriptorIndex := 8, attributes := #[] }, { accessFlags := 9, nameIndex := 90, descriptorIndex := 105, attributes := #[] }, { accessFlags := 9, nameIndex := 281, descriptorIndex := 282, attributes := #[] }, { accessFlags := 9, nameIndex := 380, descriptorIndex := 382, attributes := #[] }] 48 4 #[] #[{ accessFlags := 4120, nameIndex := 121, descriptorIndex := 122, attributes := #[] }])
  fields := #[{ name := "$assertionsDisabled", type := .boolean, accessFlags := 4120, slot := 0, constantValue := 0 }]
  methods := #[k9m0, k9m1, k9m2, k9m3]
  instanceTypes := #[]
  staticTypes := #[.boolean]
  resolved := Array.replicate 395 none
  statics := none }

def pool10 : Array CpInfo := pool [(2, .class_ 4), (1, u "java/lang/Object"), (0, u "<init>"), (0, u "()V"), (35, .class_ 44), (1, u "java/util/Objects"), (0, u "requireNonNull"), (48, u "(Ljava/lang/Object;Ljava/lang/String;)Ljava/lang/Object;")] 89

def k10m0 : Method := { name := "<init>", desc := "()V", sig := { parameters := [], returnType := none }, accessFlags := 2, code := none }
def k10c1 : Code := { maxStack := 3, maxLocals := 2, code := jdk_31_method_11_code, exceptionTable := #[], attributes := #[] }
def k10m1 : Method := { name := "requireNonNull", desc := "(Ljava/lang/Object;Ljava/lang/String;)Ljava/lang/Object;", sig := { parameters := [(.object "java/lang/Object"), (.object "java/lang/String")], returnType := some (.object "java/lang/Object") }, accessFlags := 9, code := some k10c1 }
/-- java/util/Objects -/
def k10 : Class := { plain "java/util/Objects" (some 0) with
  accessFlags := 49
  interfaces := #[]
  cf := some (fileOf pool10 42 #[] #[{ accessFlags := 2, nameIndex := 5, descriptorIndex := 6, attributes := #[] }, { accessFlags := 9, nameIndex := 45, descriptorIndex := 94, attributes := #[] }] 49 2 #[] #[])
  fields := #[]
  methods := #[k10m0, k10m1]
  instanceTypes := #[]
  staticTypes := #[]
  resolved := Array.replicate 184 none
  statics := none }

def pool11 : Array CpInfo := pool [(2, .class_ 4), (1, u "java/lang/Object"), (0, u "<init>"), (0, u "()V"), (17, .class_ 26), (1, u "jdk/internal/util/Preconditions"), (28, .class_ 56), (0, u "jdk/internal/util/Preconditions$4"), (57, .class_ 115), (0, u "jdk/internal/util/Preconditions$1"), (7, u "SIOOBE_FORMATTER"), (0, u "Ljava/util/function/BiFunction;"), (0, .class_ 126), (0, u "jdk/internal/util/Preconditions$2"), (3, u "AIOOBE_FORMATTER"), (0, .class_ 132), (0, u "jdk/internal/util/Preconditions$3"), (3, u "IOOBE_FORMATTER")] 57

def k11m0 : Method := { name := "<init>", desc := "()V", sig := { parameters := [], returnType := none }, accessFlags := 1, code := none }
/-- jdk/internal/util/Preconditions -/
def k11 : Class := { plain "jdk/internal/util/Preconditions" (some 0) with
  accessFlags := 33
  interfaces := #[]
  cf := some (fileOf pool11 24 #[.nestMembers #[55, 131, 125, 114]] #[{ accessFlags := 1, nameIndex := 5, descriptorIndex := 6, attributes := #[] }] 33 2 #[] #[{ accessFlags := 25, nameIndex := 123, descriptorIndex := 124, attributes := #[] }, { accessFlags := 25, nameIndex := 130, descriptorIndex := 124, attributes := #[] }, { accessFlags := 25, nameIndex := 136, descriptorIndex := 124, attributes := #[] }])
  fields := #[{ name := "SIOOBE_FORMATTER", type := (.object "java/util/function/BiFunction"), accessFlags := 25, slot := 0, constantValue := 0 }, { name := "AIOOBE_FORMATTER", type := (.object "java/util/function/BiFunction"), accessFlags := 25, slot := 1, constantValue := 0 }, { name := "IOOBE_FORMATTER", type := (.object "java/util/function/BiFunction"), accessFlags := 25, slot := 2, constantValue := 0 }]
  methods := #[k11m0]
  instanceTypes := #[]
  staticTypes := #[(.object "java/util/function/BiFunction"), (.object "java/util/function/BiFunction"), (.object "java/util/function/BiFunction")]
  resolved := Array.replicate 194 none
  statics := some 1 }

def pool12 : Array CpInfo := pool [(9, u "<init>"), (6, .class_ 18), (1, u "java/lang/Object"), (0, u "()V"), (1, .class_ 23), (1, u "jdk/internal/util/ArraysSupport"), (0, u "LOG2_ARRAY_LONG_INDEX_SCALE"), (0, u "I"), (2, u "U"), (0, u "Ljdk/internal/misc/Unsafe;"), (8, u "BIG_ENDIAN"), (0, u "Z"), (8, u "LOG2_BYTE_BIT_SIZE"), (4, u "LOG2_ARRAY_INT_INDEX_SCALE"), (54, u "JLA"), (0, u "Ljdk/internal/access/JavaLangAccess;"), (11, u "LOG2_ARRAY_BOOLEAN_INDEX_SCALE"), (9, u "LOG2_ARRAY_BYTE_INDEX_SCALE"), (5, u "LOG2_ARRAY_CHAR_INDEX_SCALE"), (5, u "LOG2_ARRAY_SHORT_INDEX_SCALE"), (18, u "LOG2_ARRAY_FLOAT_INDEX_SCALE"), (24, u "LOG2_ARRAY_DOUBLE_INDEX_SCALE"), (89, u "T_BOOLEAN"), (2, u "T_CHAR"), (1, u "T_FLOAT"), (1, u "T_DOUBLE"), (1, u "T_BYTE"), (1, u "T_SHORT"), (1, u "T_INT"), (1, u "T_LONG"), (1, u "SOFT_MAX_ARRAY_LENGTH")] 83

def k12m0 : Method := { name := "<init>", desc := "()V", sig := { parameters := [], returnType := none }, accessFlags := 2, code := none }
/-- jdk/internal/util/ArraysSupport -/
def k12 : Class := { plain "jdk/internal/util/ArraysSupport" (some 0) with
  accessFlags := 33
  interfaces := #[]
  cf := some (fileOf pool12 21 #[] #[{ accessFlags := 2, nameIndex := 9, descriptorIndex := 19, attributes := #[] }] 33 16 #[] #[{ accessFlags := 24, nameIndex := 28, descriptorIndex := 29, attributes := #[] }, { accessFlags := 26, nameIndex := 38, descriptorIndex := 39, attributes := #[] }, { accessFlags := 25, nameIndex := 121, descriptorIndex := 25, attributes := #[] }, { accessFlags := 25, nameIndex := 131, descriptorIndex := 25, attributes := #[] }, { accessFlags := 25, nameIndex := 137, descriptorIndex := 25, attributes := #[] }, { accessFlags := 25, nameIndex := 143, descriptorIndex := 25, attributes := #[] }, { accessFlags := 25, nameIndex := 53, descriptorIndex := 25, attributes := #[] }, { accessFlags := 25, nameIndex := 24, descriptorIndex := 25, attributes := #[] }, { accessFlags := 25, nameIndex := 162, descriptorIndex := 25, attributes := #[] }, { accessFlags := 25, nameIndex := 187, descriptorIndex := 25, attributes := #[] }, { accessFlags := 26, nameIndex := 48, descriptorIndex := 25, attributes := #[] }, { accessFlags := 25, nameIndex := 277, descriptorIndex := 25, attributes := #[] }, { accessFlags := 25, nameIndex := 280, descriptorIndex := 25, attributes := #[] }, { accessFlags := 25, nameIndex := 282, descriptorIndex := 25, attributes := #[] }, { accessFlags := 25, nameIndex := 284, descriptorIndex := 25, attributes := #[] }, { accessFlags := 25, nameIndex := 286, descriptorIndex := 25, attributes := #[] }, { accessFlags := 25, nameIndex := 288, descriptorIndex := 25, attributes := #[] }, { accessFlags := 25, nameIndex := 290, descriptorIndex := 25, attributes := #[] }, { accessFlags := 25, nameIndex := 292, descriptorIndex := 25, attributes := #[] }, { accessFlags := 26, nameIndex := 108, descriptorIndex := 109, attributes := #[] }, { accessFlags := 25, nameIndex := 294, descriptorIndex := 25, attributes := #[] }])
  fields := #[{ name := "U", type := (.object "jdk/internal/misc/Unsafe"), accessFlags := 24, slot := 0, constantValue := 0 }, { name := "BIG_ENDIAN", type := .boolean, accessFlags := 26, slot := 1, constantValue := 0 }, { name := "LOG2_ARRAY_BOOLEAN_INDEX_SCALE", type := .int, accessFlags := 25, slot := 2, constantValue := 0 }, { name := "LOG2_ARRAY_BYTE_INDEX_SCALE", type := .int, accessFlags := 25, slot := 3, constantValue := 0 }, { name := "LOG2_ARRAY_CHAR_INDEX_SCALE", type := .int, accessFlags := 25, slot := 4, constantValue := 0 }, { name := "LOG2_ARRAY_SHORT_INDEX_SCALE", type := .int, accessFlags := 25, slot := 5, constantValue := 0 }, { name := "LOG2_ARRAY_INT_INDEX_SCALE", type := .int, accessFlags := 25, slot := 6, constantValue := 0 }, { name := "LOG2_ARRAY_LONG_INDEX_SCALE", type := .int, accessFlags := 25, slot := 7, constantValue := 0 }, { name := "LOG2_ARRAY_FLOAT_INDEX_SCALE", type := .int, accessFlags := 25, slot := 8, constantValue := 0 }, { name := "LOG2_ARRAY_DOUBLE_INDEX_SCALE", type := .int, accessFlags := 25, slot := 9, constantValue := 0 }, { name := "LOG2_BYTE_BIT_SIZE", type := .int, accessFlags := 26, slot := 10, constantValue := 0 }, { name := "T_BOOLEAN", type := .int, accessFlags := 25, slot := 11, constantValue := 0 }, { name := "T_CHAR", type := .int, accessFlags := 25, slot := 12, constantValue := 0 }, { name := "T_FLOAT", type := .int, accessFlags := 25, slot := 13, constantValue := 0 }, { name := "T_DOUBLE", type := .int, accessFlags := 25, slot := 14, constantValue := 0 }, { name := "T_BYTE", type := .int, accessFlags := 25, slot := 15, constantValue := 0 }, { name := "T_SHORT", type := .int, accessFlags := 25, slot := 16, constantValue := 0 }, { name := "T_INT", type := .int, accessFlags := 25, slot := 17, constantValue := 0 }, { name := "T_LONG", type := .int, accessFlags := 25, slot := 18, constantValue := 0 }, { name := "JLA", type := (.object "jdk/internal/access/JavaLangAccess"), accessFlags := 26, slot := 19, constantValue := 0 }, { name := "SOFT_MAX_ARRAY_LENGTH", type := .int, accessFlags := 25, slot := 20, constantValue := 0 }]
  methods := #[k12m0]
  instanceTypes := #[]
  staticTypes := #[(.object "jdk/internal/misc/Unsafe"), .boolean, .int, .int, .int, .int, .int, .int, .int, .int, .int, .int, .int, .int, .int, .int, .int, .int, .int, (.object "jdk/internal/access/JavaLangAccess"), .int]
  resolved := Array.replicate 378 none
  statics := none }

def pool13 : Array CpInfo := pool [(1, u "java/lang/Cloneable"), (0, .class_ 1), (0, u "java/lang/Object"), (0, .class_ 3)] 3

/-- java/lang/Cloneable -/
def k13 : Class := { plain "java/lang/Cloneable" (some 0) with
  accessFlags := 1537
  interfaces := #[]
  cf := some (fileOf pool13 2 #[] #[] 1537 4 #[] #[])
  fields := #[]
  methods := #[]
  instanceTypes := #[]
  staticTypes := #[]
  resolved := Array.replicate 8 none
  statics := none }

/-- the primitive byte -/
def k14 : Class := { plain "byte" none with kind := .primitive 'B', accessFlags := 0x411 }
/-- [B -/
def k15 : Class := { plain "[B" (some 0) with kind := .array 14 .byte, interfaces := #[13, 3], accessFlags := 1041 }

/-- the primitive int -/
def k16 : Class := { plain "int" none with kind := .primitive 'I', accessFlags := 0x411 }
/-- [I -/
def k17 : Class := { plain "[I" (some 0) with kind := .array 16 .int, interfaces := #[13, 3], accessFlags := 1041 }

def heap : Heap := #[{ cls := 8, slots := #[.long 0, .int 1, .null, .int 0, .null, .int 0, .int 0], vm := .statics 8 },
  { cls := 11, slots := #[.null, .null, .null], vm := .statics 11 }]
def classes : Array Class := #[k0, k1, k2, k3, k4, k5, k6, k7, k8, k9, k10, k11, k12, k13, k14, k15, k16, k17]
def interned : List (Array UInt16 × Addr) := []
def slotsUsed : Nat := 10
def theMethod : MethodId := ⟨1, 5⟩
def args0 : Array Value := #[.long 5, .long 6, .int 7, .int 2]
def aboutOver (below : List Frame) : State where
  vm := { classes := classes, interned := interned.toArray }
  heap := heap
  slotsUsed := slotsUsed
  threads := #[{ frames := .invoking theMethod args0 :: below }]
def below0 : List Frame := [.native { method := ⟨0, 0⟩, args := #[] }]
def about1 : State := aboutOver below0
def p0 : Program := .bare "" "" ""
def e0 : Env := launch0.env 0 0 0
theorem w_frames : about1.frames = Frame.invoking theMethod args0 :: below0 := rfl
set_option maxRecDepth 65536 in
theorem w_args : argsFit about1.vm theMethod args0 = true := by decide +kernel
set_option maxRecDepth 65536 in
theorem w_heap : heapFits about1 = true := by decide +kernel
set_option maxRecDepth 65536 in
theorem w_runnable : about1.curStatus? = some .runnable := by decide +kernel
set_option maxRecDepth 65536 in
theorem w_alone : about1.alone = true := by decide +kernel
set_option maxRecDepth 65536 in
theorem w_named : about1.methodNamed? x = some theMethod := by decide +kernel
set_option maxRecDepth 65536 in
theorem w_hears : about1.hears theMethod below0 = true := by decide +kernel
set_option maxRecDepth 65536 in
theorem w_ripe : about1.ripe theMethod args0 below0 = true := by decide +kernel
theorem w_running : about1.status = .running := rfl
set_option maxRecDepth 65536 in
theorem w_room : about1.hasRoom e0.platform room_1 = true :=
  launch0.hasRoom_least _ room_1 (by decide +kernel) (by decide +kernel) (by decide +kernel) (by decide +kernel) (by decide +kernel) (by decide +kernel)
theorem allAtoms_all (ts : List Jvm.Cond) (a : Array Jvm.Value) (st : Jvm.State) : (allAtoms ts).before a st = ts.all (fun c => c.before a st) := by
  induction ts with
  | nil => rfl
  | cons c t ih =>
    show (Jvm.Cond.and c (allAtoms t)).before a st = _
    rw [Jvm.Cond.before_and, ih, List.all_cons]
def words1 : List Jvm.Cond := Jvm.Cond.code x code maxLocals ret :: tables_1
/-- a 'code' word, met by the world's own term for the bytes: nothing is compared byte by byte -/
theorem code_word {y : MethodName} {bytes : ByteArray} {mx : Nat} {rt : Option FieldType} {a : Array Value} {s : State} {m : MethodId} {meth : Method} {c : Code} (h1 : s.methodNamed? y = some m) (h2 : s.vm.method? m = some meth) (h3 : meth.code = some c) (h4 : c.code = bytes)
    (h5 : (c.maxLocals == mx && c.exceptionTable.isEmpty && decide (c.maxStack ≤ mostOperands) && decide (meth.sig.returnType = rt) && !meth.locks && decide (parseMethodDescriptor y.desc = some meth.sig)) = true) : (Jvm.Cond.code y bytes mx rt).before a s = true := by
  simp only [Bool.and_eq_true, beq_iff_eq, Bool.not_eq_true', decide_eq_true_eq] at h5
  obtain ⟨⟨⟨⟨⟨g1, g2⟩, g3⟩, g4⟩, g5⟩, g6⟩ := h5
  simp [Cond.before, Cond.holds, Cond.value, h1, h2, h3, h4, g1, g2, g3, g4, g5, g6]
def isCode : Jvm.Cond → Bool
  | .code _ _ _ _ => true
  | _ => false
theorem all_split {L : List Jvm.Cond} {P : Jvm.Cond → Bool} (h1 : L.all (fun c => isCode c || P c) = true) (h2 : ∀ c ∈ L.filter isCode, P c = true) : L.all P = true := by
  refine List.all_eq_true.mpr fun c hc => ?_
  have h := List.all_eq_true.mp h1 c hc
  rcases Bool.eq_false_or_eq_true (isCode c) with hi | hi
  · exact h2 c (List.mem_filter.mpr ⟨hc, hi⟩)
  · simpa [hi] using h
set_option maxRecDepth 65536 in
theorem w_c0 : (Jvm.Cond.code x code maxLocals ret).before args0 about1 = true := code_word (m := ⟨1, 5⟩) (meth := k1m5) (c := k1c5) (by decide +kernel) rfl rfl rfl (by decide +kernel)
set_option maxRecDepth 65536 in
theorem w_c1 : (Jvm.Cond.code ({ cls := "com/example/cranfield/cranfield/formats/PreferenceJudgmentEqualsPinLaw", name := "pick", desc := "(JI)I" } : Jvm.MethodName) method_4_code (3 : Nat) (Option.some Jvm.ClassFile.FieldType.int)).before args0 about1 = true := code_word (m := ⟨1, 3⟩) (meth := k1m3) (c := k1c3) (by decide +kernel) rfl rfl rfl (by decide +kernel)
set_option maxRecDepth 65536 in
theorem w_c2 : (Jvm.Cond.code ({ cls := "com/example/cranfield/cranfield/formats/PreferenceJudgmentEqualsPinLaw", name := "key", desc := "(I)I" } : Jvm.MethodName) method_2_code (1 : Nat) (Option.some Jvm.ClassFile.FieldType.int)).before args0 about1 = true := code_word (m := ⟨1, 1⟩) (meth := k1m1) (c := k1c1) (by decide +kernel) rfl rfl rfl (by decide +kernel)
set_option maxRecDepth 65536 in
theorem w_c3 : (Jvm.Cond.code ({ cls := "com/example/cranfield/cranfield/formats/PreferenceJudgmentEqualsPinLaw", name := "other", desc := "(IJII)I" } : Jvm.MethodName) method_5_code (5 : Nat) (Option.some Jvm.ClassFile.FieldType.int)).before args0 about1 = true := code_word (m := ⟨1, 4⟩) (meth := k1m4) (c := k1c4) (by decide +kernel) rfl rfl rfl (by decide +kernel)
set_option maxRecDepth 65536 in
theorem w_c4 : (Jvm.Cond.code ({ cls := "com/example/cranfield/cranfield/formats/PreferenceJudgmentEqualsPinLaw", name := "str", desc := "(I)Ljava/lang/String;" } : Jvm.MethodName) method_3_code (1 : Nat) (Option.some (Jvm.ClassFile.FieldType.object "java/lang/String"))).before args0 about1 = true := code_word (m := ⟨1, 2⟩) (meth := k1m2) (c := k1c2) (by decide +kernel) rfl rfl rfl (by decide +kernel)
set_option maxRecDepth 65536 in
theorem w_c5 : (Jvm.Cond.code ({ cls := "java/lang/String", name := "valueOf", desc := "(C)Ljava/lang/String;" } : Jvm.MethodName) jdk_42_method_139_code (1 : Nat) (Option.some (Jvm.ClassFile.FieldType.object "java/lang/String"))).before args0 about1 = true := code_word (m := ⟨8, 2⟩) (meth := k8m2) (c := k8c2) (by decide +kernel) rfl rfl rfl (by decide +kernel)
set_option maxRecDepth 65536 in
theorem w_c6 : (Jvm.Cond.code ({ cls := "java/lang/StringLatin1", name := "canEncode", desc := "(C)Z" } : Jvm.MethodName) jdk_43_method_3_code (1 : Nat) (Option.some Jvm.ClassFile.FieldType.boolean)).before args0 about1 = true := code_word (m := ⟨9, 1⟩) (meth := k9m1) (c := k9c1) (by decide +kernel) rfl rfl rfl (by decide +kernel)
set_option maxRecDepth 65536 in
theorem w_c7 : (Jvm.Cond.code ({ cls := "java/lang/StringLatin1", name := "toBytes", desc := "(C)[B" } : Jvm.MethodName) jdk_43_method_46_code (1 : Nat) (Option.some (Jvm.ClassFile.FieldType.array Jvm.ClassFile.FieldType.byte))).before args0 about1 = true := code_word (m := ⟨9, 3⟩) (meth := k9m3) (c := k9c3) (by decide +kernel) rfl rfl rfl (by decide +kernel)
set_option maxRecDepth 65536 in
theorem w_c8 : (Jvm.Cond.code ({ cls := "java/lang/String", name := "<init>", desc := "([BB)V" } : Jvm.MethodName) jdk_42_method_151_code (3 : Nat) (Option.none : Option Jvm.ClassFile.FieldType)).before args0 about1 = true := code_word (m := ⟨8, 3⟩) (meth := k8m3) (c := k8c3) (by decide +kernel) rfl rfl rfl (by decide +kernel)
set_option maxRecDepth 65536 in
theorem w_c9 : (Jvm.Cond.code ({ cls := "java/lang/Object", name := "<init>", desc := "()V" } : Jvm.MethodName) object_method_1_code (1 : Nat) (Option.none : Option Jvm.ClassFile.FieldType)).before args0 about1 = true := code_word (m := ⟨0, 0⟩) (meth := k0m0) (c := k0c0) (by decide +kernel) rfl rfl rfl (by decide +kernel)
set_option maxRecDepth 65536 in
theorem w_c10 : (Jvm.Cond.code ({ cls := "com/example/cranfield/cranfield/formats/PreferenceJudgment", name := "<init>", desc := "(Ljava/lang/String;Ljava/lang/String;Ljava/lang/String;Ljava/lang/String;Ljava/lang/String;)V" } : Jvm.MethodName) prog_20_method_1_code (6 : Nat) (Option.none : Option Jvm.ClassFile.FieldType)).before args0 about1 = true := code_word (m := ⟨2, 0⟩) (meth := k2m0) (c := k2c0) (by decide +kernel) rfl rfl rfl (by decide +kernel)
set_option maxRecDepth 65536 in
theorem w_c11 : (Jvm.Cond.code ({ cls := "java/util/Objects", name := "requireNonNull", desc := "(Ljava/lang/Object;Ljava/lang/String;)Ljava/lang/Object;" } : Jvm.MethodName) jdk_31_method_11_code (2 : Nat) (Option.some (Jvm.ClassFile.FieldType.object "java/lang/Object"))).before args0 about1 = true := code_word (m := ⟨10, 1⟩) (meth := k10m1) (c := k10c1) (by decide +kernel) rfl rfl rfl (by decide +kernel)
set_option maxRecDepth 65536 in
theorem w_c12 : (Jvm.Cond.code ({ cls := "com/example/cranfield/cranfield/formats/PreferenceJudgment", name := "equals", desc := "(Ljava/lang/Object;)Z" } : Jvm.MethodName) prog_20_method_7_code (3 : Nat) (Option.some Jvm.ClassFile.FieldType.boolean)).before args0 about1 = true := code_word (m := ⟨2, 1⟩) (meth := k2m1) (c := k2c1) (by decide +kernel) rfl rfl rfl (by decide +kernel)
set_option maxRecDepth 65536 in
theorem w_c13 : (Jvm.Cond.code ({ cls := "java/lang/String", name := "equals", desc := "(Ljava/lang/Object;)Z" } : Jvm.MethodName) jdk_42_method_66_code (3 : Nat) (Option.some Jvm.ClassFile.FieldType.boolean)).before args0 about1 = true := code_word (m := ⟨8, 1⟩) (meth := k8m1) (c := k8c1) (by decide +kernel) rfl rfl rfl (by decide +kernel)
set_option maxRecDepth 65536 in
theorem w_c14 : (Jvm.Cond.code ({ cls := "java/lang/StringLatin1", name := "equals", desc := "([B[B)Z" } : Jvm.MethodName) jdk_43_method_13_code (3 : Nat) (Option.some Jvm.ClassFile.FieldType.boolean)).before args0 about1 = true := code_word (m := ⟨9, 2⟩) (meth := k9m2) (c := k9c2) (by decide +kernel) rfl rfl rfl (by decide +kernel)
def codes1 : List Jvm.Cond := [Jvm.Cond.code x code maxLocals ret, Jvm.Cond.code ({ cls := "com/example/cranfield/cranfield/formats/PreferenceJudgmentEqualsPinLaw", name := "pick", desc := "(JI)I" } : Jvm.MethodName) method_4_code (3 : Nat) (Option.some Jvm.ClassFile.FieldType.int), Jvm.Cond.code ({ cls := "com/example/cranfield/cranfield/formats/PreferenceJudgmentEqualsPinLaw", name := "key", desc := "(I)I" } : Jvm.MethodName) method_2_code (1 : Nat) (Option.some Jvm.ClassFile.FieldType.int), Jvm.Cond.code ({ cls := "com/example/cranfield/cranfield/formats/PreferenceJudgmentEqualsPinLaw", name := "other", desc := "(IJII)I" } : Jvm.MethodName) method_5_code (5 : Nat) (Option.some Jvm.ClassFile.FieldType.int), Jvm.Cond.code ({ cls := "com/example/cranfield/cranfield/formats/PreferenceJudgmentEqualsPinLaw", name := "str", desc := "(I)Ljava/lang/String;" } : Jvm.MethodName) method_3_code (1 : Nat) (Option.some (Jvm.ClassFile.FieldType.object "java/lang/String")), Jvm.Cond.code ({ cls := "java/lang/String", name := "valueOf", desc := "(C)Ljava/lang/String;" } : Jvm.MethodName) jdk_42_method_139_code (1 : Nat) (Option.some (Jvm.ClassFile.FieldType.object "java/lang/String")), Jvm.Cond.code ({ cls := "java/lang/StringLatin1", name := "canEncode", desc := "(C)Z" } : Jvm.MethodName) jdk_43_method_3_code (1 : Nat) (Option.some Jvm.ClassFile.FieldType.boolean), Jvm.Cond.code ({ cls := "java/lang/StringLatin1", name := "toBytes", desc := "(C)[B" } : Jvm.MethodName) jdk_43_method_46_code (1 : Nat) (Option.some (Jvm.ClassFile.FieldType.array Jvm.ClassFile.FieldType.byte)), Jvm.Cond.code ({ cls := "java/lang/String", name := "<init>", desc := "([BB)V" } : Jvm.MethodName) jdk_42_method_151_code (3 : Nat) (Option.none : Option Jvm.ClassFile.FieldType), Jvm.Cond.code ({ cls := "java/lang/Object", name := "<init>", desc := "()V" } : Jvm.MethodName) object_method_1_code (1 : Nat) (Option.none : Option Jvm.ClassFile.FieldType), Jvm.Cond.code ({ cls := "com/example/cranfield/cranfield/formats/PreferenceJudgment", name := "<init>", desc := "(Ljava/lang/String;Ljava/lang/String;Ljava/lang/String;Ljava/lang/String;Ljava/lang/String;)V" } : Jvm.MethodName) prog_20_method_1_code (6 : Nat) (Option.none : Option Jvm.ClassFile.FieldType), Jvm.Cond.code ({ cls := "java/util/Objects", name := "requireNonNull", desc := "(Ljava/lang/Object;Ljava/lang/String;)Ljava/lang/Object;" } : Jvm.MethodName) jdk_31_method_11_code (2 : Nat) (Option.some (Jvm.ClassFile.FieldType.object "java/lang/Object")), Jvm.Cond.code ({ cls := "com/example/cranfield/cranfield/formats/PreferenceJudgment", name := "equals", desc := "(Ljava/lang/Object;)Z" } : Jvm.MethodName) prog_20_method_7_code (3 : Nat) (Option.some Jvm.ClassFile.FieldType.boolean), Jvm.Cond.code ({ cls := "java/lang/String", name := "equals", desc := "(Ljava/lang/Object;)Z" } : Jvm.MethodName) jdk_42_method_66_code (3 : Nat) (Option.some Jvm.ClassFile.FieldType.boolean), Jvm.Cond.code ({ cls := "java/lang/StringLatin1", name := "equals", desc := "([B[B)Z" } : Jvm.MethodName) jdk_43_method_13_code (3 : Nat) (Option.some Jvm.ClassFile.FieldType.boolean)]
set_option maxRecDepth 65536 in
theorem codes_eq : words1.filter isCode = codes1 := rfl
theorem w_codes : ∀ c ∈ words1.filter isCode, c.before args0 about1 = true := by
  rw [codes_eq]
  intro c hc
  simp only [codes1, List.mem_cons, List.not_mem_nil, or_false] at hc
  rcases hc with rfl | rfl | rfl | rfl | rfl | rfl | rfl | rfl | rfl | rfl | rfl | rfl | rfl | rfl | rfl
  · exact w_c0
  · exact w_c1
  · exact w_c2
  · exact w_c3
  · exact w_c4
  · exact w_c5
  · exact w_c6
  · exact w_c7
  · exact w_c8
  · exact w_c9
  · exact w_c10
  · exact w_c11
  · exact w_c12
  · exact w_c13
  · exact w_c14
set_option maxRecDepth 65536 in
theorem w_t1 : (words1.take 24).all (fun c => isCode c || c.before args0 about1) = true := by decide +kernel
set_option maxRecDepth 65536 in
theorem w_t2 : ((words1.drop 24).take 24).all (fun c => isCode c || c.before args0 about1) = true := by decide +kernel
set_option maxRecDepth 65536 in
theorem w_t3 : (((words1.drop 24).drop 24).take 24).all (fun c => isCode c || c.before args0 about1) = true := by decide +kernel
set_option maxRecDepth 65536 in
theorem w_t4 : (((words1.drop 24).drop 24).drop 24).all (fun c => isCode c || c.before args0 about1) = true := by decide +kernel
theorem w_tables : (allAtoms (Jvm.Cond.code x code maxLocals ret :: tables_1)).before args0 about1 = true := by
  rw [allAtoms_all]
  show words1.all (fun c => c.before args0 about1) = true
  refine all_split ?_ w_codes
  rw [← List.take_append_drop 24 words1, List.all_append, w_t1, ← List.take_append_drop 24 (words1.drop 24), List.all_append, w_t2, ← List.take_append_drop 24 ((words1.drop 24).drop 24), List.all_append, w_t3, w_t4]
  rfl
set_option maxRecDepth 65536 in
theorem w_rest : rest_1_c.before args0 about1 = true := by decide +kernel
set_option maxRecDepth 65536 in
theorem w_case : (Jvm.Cond.and given_1 narrow_1).before args0 about1 = true := by decide +kernel
set_option maxRecDepth 65536 in
theorem w_consts : constsHeld consts_1 about1 := Jvm.Lit.constsHeldB_iff.mp (by decide +kernel)
theorem w_applies : (headSpec (Jvm.Cond.code x code maxLocals ret :: tables_1) room_1).applies x e0.platform about1 = true :=
  (Spec.applies_iff w_frames).mpr ⟨w_running, w_runnable, w_alone, w_named, w_hears, w_ripe, w_room, w_tables⟩
theorem atStart : AtStart classFile x code maxLocals ret World_1 tables_1 room_1 Calls_1 rest_1 Pre_1 launch0 p0 e0 about1 theMethod args0 below0 :=
  ⟨lists_1, trivial, launch0.admits_env _ _ _, launch0.least_env, fairChoices_fair.cas, fairChoices_fair.clock, w_frames, w_args, w_heap, w_applies, ⟨w_consts, trivial⟩, w_rest, w_case⟩
end start1
theorem witness_1 : WitnessClaimed_1 := ⟨start1.p0, start1.e0, start1.about1, start1.theMethod, start1.args0, start1.below0, start1.atStart⟩
end Jvm.Pilot.@@N@@
