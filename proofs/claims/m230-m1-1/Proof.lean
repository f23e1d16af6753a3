import JvmDerived
import JvmDerived.Pilot.@@N@@Statement
import JvmDerived.Pilot.@@N@@Code
set_option linter.unusedVariables false
set_option linter.unusedSimpArgs false
namespace Jvm.Pilot.@@N@@
open Jvm Jvm.ClassFile Sem Op Lib Jvm.Free Jvm.Stand Jvm.LawKit Jvm.RoadKit Bundle Jvm.Pilot.@@N@@.Jvm.D
/-! OWN KIT: a walk in continuation form. Go F U: from U the run comes to an end of which F holds. -/
namespace W
def Go (p : Program) (e : Env) (below : List Frame) (F : Outcome → State → Prop) (U : State) : Prop :=
  ∃ s₂ o, Steps p.tables e below U s₂ ∧ s₂.status = .running ∧ Ended s₂ below o ∧ F o s₂
def Cx (p : Program) (s : State) (m : MethodId) (meth : Method) (c : Code) (Z : State) (bytes : ByteArray) (maxL : Nat) (own mname : String) (ret : Option FieldType) : Prop :=
  p.tables.exec = Jvm.exec ∧ Z.Warmed39 s.vm ∧ c.code = bytes ∧ c.maxLocals = maxL ∧ s.vm.findClass own = some m.cls ∧ meth.name = mname ∧ meth.sig.returnType = ret ∧ meth.locks = false
def Post (s : State) (Q : Option Value → Heap → List Loc → Prop) (k n : Nat) (o : Outcome) (U' : State) : Prop := ∃ v L, o = .returned v ∧ Q v U'.heap L ∧ FrameEnd s o U' L k n
theorem of {p : Program} {e : Env} {below : List Frame} {F : Outcome → State → Prop} {U U' : State} (h : ∀ t, Steps p.tables e below U' t → Steps p.tables e below U t) (k : Go p e below F U') : Go p e below F U := by
  obtain ⟨s₂, o, h1, h2⟩ := k
  exact ⟨s₂, o, h _ h1, h2⟩
theorem tr {p : Program} {e : Env} {below : List Frame} {F : Outcome → State → Prop} {U U' : State} (h : Steps p.tables e below U U') (k : Go p e below F U') : Go p e below F U := of (fun _ q => h.trans q) k
def fillL : List Value → List Slot
  | [] => []
  | v :: t => if v.category = 2 then .val v :: .second :: fillL t else .val v :: fillL t
theorem fill_eq : ∀ (l : List Value) (acc : Array Slot), l.foldl (fun acc v => if v.category = 2 then (acc.push (.val v)).push .second else acc.push (.val v)) acc = acc ++ (fillL l).toArray
  | [], acc => by simp [fillL]
  | v :: t, acc => by
    rw [List.foldl_cons, fill_eq t, fillL]
    split <;> (apply Array.toList_inj.mp; simp)
theorem entry_of {m : MethodId} {as : List Value} {maxL : Nat} {Ls : List Slot} (h : Ls = fillL as ++ List.replicate (maxL - (fillL as).length) .unset) : entryFrame m as.toArray maxL = mkF m 0 Ls.toArray [] := by
  subst h
  simp only [entryFrame, mkF, argsToLocals]
  congr 1
  rw [List.foldl_toArray, fill_eq]
  simp
def cT : ClassFile.Cond → Int32 → Int32 → Prop
  | .eq, x, y => x = y
  | .ne, x, y => x ≠ y
  | .lt, x, y => x.toInt < y.toInt
  | .ge, x, y => y.toInt ≤ x.toInt
  | .gt, x, y => y.toInt < x.toInt
  | .le, x, y => x.toInt ≤ y.toInt
def cF : ClassFile.Cond → Int32 → Int32 → Prop
  | .eq, x, y => x ≠ y
  | .ne, x, y => x = y
  | .lt, x, y => y.toInt ≤ x.toInt
  | .ge, x, y => x.toInt < y.toInt
  | .gt, x, y => x.toInt ≤ y.toInt
  | .le, x, y => y.toInt < x.toInt
instance (cd : ClassFile.Cond) (x y : Int32) : Decidable (cT cd x y) := by cases cd <;> (simp only [cT]; infer_instance)
instance (cd : ClassFile.Cond) (x y : Int32) : Decidable (cF cd x y) := by cases cd <;> (simp only [cF]; infer_instance)
theorem holdsT {cd : ClassFile.Cond} {x y : Int32} (h : cT cd x y) : if_icmp.holds cd x y = true := by
  cases cd <;> simp only [cT] at h <;> simp [if_icmp.holds, h, Int32.lt_iff_toInt_lt, Int32.le_iff_toInt_le]
theorem holdsF {cd : ClassFile.Cond} {x y : Int32} (h : cF cd x y) : if_icmp.holds cd x y = false := by
  cases cd <;> simp only [cF] at h <;> simp [if_icmp.holds, h, Int32.lt_iff_toInt_lt, Int32.le_iff_toInt_le]
theorem cTF (cd : ClassFile.Cond) (x y : Int32) : cT cd x y ∨ cF cd x y := by
  cases cd <;> simp only [cT, cF] <;> first | omega | exact Decidable.em _ | exact (Decidable.em _).symm
theorem ww {a0 : Array Value} {Z : State} (hw : ∀ d ∈ tables_1, d.before a0 Z = true) (i : Nat) {d : Jvm.Cond} (h : tables_1[i]? = some d) : d.before a0 Z = true := hw _ (List.mem_of_getElem? h)
theorem small {P : Int32 → Prop} (K : Nat) (hK : ∀ i : Fin (K + 1), P (Int32.ofInt (i.1 : Int))) (k : Int32) (h1 : 0 ≤ k.toInt) (h2 : k.toInt ≤ K) : P k := by
  have e : Int32.ofInt ((k.toInt.toNat : Nat) : Int) = k := by rw [Int.toNat_of_nonneg h1]; exact Int32.ofInt_toInt k
  have := hK ⟨k.toInt.toNat, by omega⟩
  rw [e] at this; exact this
theorem eqR {args : Array Value} {s : State} {a b : Term} {idx : List Nat} {y : Addr} (hb : b.eval args s none idx s = some (.ref y)) (h : (Jvm.Cond.eq a b).value args s none s idx = some true) : a.eval args s none idx s = some (.ref y) := by
  cases ha : a.eval args s none idx s with
  | none => simp [Cond.value, ha] at h
  | some x =>
    have hx : x.isRef = true := by cases x <;> simp [Cond.value, ha, hb, Value.isRef] at h ⊢
    have q := gotT (eq_R ha hb hx rfl) h
    rw [q]
theorem elemAt {args : Array Value} {s : State} {t a : Term} {x : Addr} {j : Int32} {v : Value} {cl : Cell} {ty : FieldType} (A : Arr s s.heap x cl ty) (ht : t.eval args s none [] s = some (.ref x)) (hj : a.eval args s none [] s = some (.int j)) (h : (Term.elem t a).eval args s none [] s = some v) : cl.slots[j.toNatClampNeg]? = some v := (elem_in h ht hj A.1).2
theorem lenAt {args : Array Value} {s : State} {t : Term} {x : Addr} {z : Int32} {cl : Cell} {ty : FieldType} (A : Arr s s.heap x cl ty) (ht : t.eval args s none [] s = some (.ref x)) (h : (Jvm.Cond.eq (.length t) (.int z)).value args s none s [] = some true) : cl.slots.size < 2 ^ 31 ∧ cl.slots.size.toInt32 = z := by
  have h6 := eqv_i (Term.int_eval z) h
  have ha := A.fin (Vm.Alike.refl _)
  have sz : cl.slots.size < 2 ^ 31 := by
    refine Decidable.byContradiction fun q => ?_
    simp [Term.eval, ht, ha, q] at h6
  refine ⟨sz, ?_⟩
  rw [len_f ht ha sz] at h6
  exact Value.int.inj (Option.some.inj h6)
theorem arvOf {s : State} {a : Addr} {cl : Cell} {ty : FieldType} {z : Int32} {d : Value} (hf : Fit s) (A : Arr s s.heap a cl ty) (q : cl.slots.size < 2 ^ 31) (e : cl.slots.size.toInt32 = z) (hz : ¬ z < 0) : Arv s s.heap a cl.cls ty z cl.slots.toList d := by
  have S : cl.slots.size = z.toNatClampNeg := by rw [← e]; simp only [Int32.toNatClampNeg, len_toInt q]; rfl
  have H : Has cl cl.slots.toList d := fun k hk => by simp [List.getD, hk]
  refine ⟨cl, A, rfl, S, hz, H, fun j hj => ?_⟩
  have e1 : (Nat.toInt32 j).toNatClampNeg = j := by simp only [Int32.toNatClampNeg, len_toInt (Nat.lt_trans hj q)]; rfl
  exact elem_fits (j := Nat.toInt32 j) hf A (idx_in hj q) (by rw [e1]; exact H j hj)
theorem catRef {v : Value} (h : v.isRef = true) : v.category = 1 := by
  rcases ref_cases h with rfl | ⟨a, rfl⟩ <;> rfl
theorem narRef {t : FieldType} {v : Value} (h : v.isRef = true) : narrow t v = v := by
  rcases ref_cases h with rfl | ⟨a, rfl⟩ <;> cases t <;> rfl
theorem fitsRef {t : FieldType} {v : Value} (h : v.isRef = true) (ht : t.isReference = true) : fits t v = true := by
  rcases ref_cases h with rfl | ⟨a, rfl⟩ <;> cases t <;> first | rfl | cases ht
theorem narZ {x : Int32} (h : x = 0 ∨ x = 1) : narrow .boolean (.int x) = .int x := by rcases h with rfl | rfl <;> rfl
theorem fitZ {x : Int32} (h : x = 0 ∨ x = 1) : fits .boolean (.int x) = true := by rcases h with rfl | rfl <;> rfl
theorem fieldInt {args : Array Value} {s : State} {t : Term} {Cn n d : String} {k : Int32} {a : Addr} (ht : t.eval args s none [] s = some (.ref a)) (h : (Jvm.Cond.eq (.field t Cn n d) (.int k)).value args s none s [] = some true) : Fld s s.heap a Cn n d (.int k) := by
  exact Fld.start ((fld_at ht).symm.trans (eqv_i (Term.int_eval k) h))
section
variable {p : Program} {l : Launch} {e : Env} {R : Room} {s : State} {m : MethodId} {args : Array Value} {below : List Frame} {meth : Method} {c : Code} {T : State} {locs : List Loc} {cells slots : Nat} {Z : State} {a0 : Array Value} {h h0 : Heap} {F : Outcome → State → Prop} {bytes : ByteArray} {maxL : Nat} {own mname : String} {ret : Option FieldType} {pc q : Nat} {Ls L' : Array Slot} {S rest : List Value}
theorem bodyOf {y : MethodName} {ws : List Jvm.Cond} {rm : Room} {as : Array Value} {Q : Option Value → Heap → List Loc → Prop} (hp : plainFor y = true) (hef : ∀ m, entryFrame m as maxL = mkF m 0 Ls [])
    (body : ∀ p e s m below meth c s₁, Cx p s m meth c Z bytes maxL y.cls y.name ret → Stand p l e rm s m as below meth c s₁ [] 0 0 → s₁.heap = h0 → Go p e below (Post s Q rm.cells rm.slots) (s₁.setTop (mkF m 0 Ls []))) :
    MetFree l y (head1 (Jvm.Cond.code y bytes maxL ret :: ws) rm) (fun a U => a = as ∧ Z.Warmed39 U.vm ∧ U.heap = h0) (fun _ _ _ _ _ => True) (fun _ U o U' => ∃ v L, o = .returned v ∧ Q v U'.heap L ∧ FrameEnd U o U' L rm.cells rm.slots) := by
  refine MetFree.of_bodySF hp hisR ?_
  intro p e s m args below meth c s₁ Bd hml0 hP hK
  obtain ⟨rfl, hZ, hh⟩ := hP
  obtain ⟨s₂, o, h1, h2⟩ := body p e s m below meth c s₁ ⟨Bd.exec, hZ, Bd.bytes, hml0, findClass_of_methodNamed Bd.named, (name_of_methodNamed Bd.named Bd.method).1, Bd.returns, Bd.notSynchronized⟩ (Stand.of_body Bd) (by rw [← hh, Bd.state]; rfl)
  exact ⟨s₂, o, castTop (hef m) h1, h2⟩
/-! returns -/
theorem retN (X : Stand p l e R s m args below meth c T locs cells slots) {t : FieldType} (C : Cx p s m meth c Z bytes maxL own mname (some t)) (ht : t = .boolean ∨ t = .byte ∨ t = .char ∨ t = .short) (eT : T.heap = h) {z z' : Int32} (hd : decode bytes pc = .ok (.ireturn, 1)) (hz : narrow t (.int z) = .int z') {k n : Nat} (hk : cells ≤ k) (hn : slots ≤ n) {Q : Option Value → Heap → List Loc → Prop} (hQ : Q (some (.int z')) h locs) :
    Go p e below (Post s Q k n) (T.setTop (mkF m pc Ls (.int z :: rest))) := by
  obtain ⟨hx, hZ, hby, hml, hown, hnm, hret, hlk⟩ := C
  obtain ⟨fs, hr, hrun, hended, hW, hsame⟩ := X.leave (v := some (.int z')) (fun h => by rw [hret] at h; cases h)
  refine ⟨_, _, ?_, hrun, hended, _, _, rfl, ?_, ⟨_, rfl⟩, hW, hsame.mono hk hn⟩
  · have hm' : T.vm.method? m = some meth := X.method'
    have hd' := hb hby hd
    rcases ht with rfl | rfl | rfl | rfl
    all_goals
      show Steps p.tables e below (T.setTop { method := m, pc := pc, locals := Ls, stack := _ :: rest, locked := none }) _
      jvm_step X.here [X.here.top, hx, hd', hm', hret, hz]
      first | (intro acts; rw [hr _ acts rfl rfl rfl]) | rw [hr _ _ rfl rfl rfl]
      exact Steps.refl _
  · show Q _ T.heap _
    rw [eT]; exact hQ
theorem retI (X : Stand p l e R s m args below meth c T locs cells slots) (C : Cx p s m meth c Z bytes maxL own mname (some .int)) (eT : T.heap = h) {z : Int32} (hd : decode bytes pc = .ok (.ireturn, 1)) {k n : Nat} (hk : cells ≤ k) (hn : slots ≤ n) {Q : Option Value → Heap → List Loc → Prop} (hQ : Q (some (.int z)) h locs) :
    Go p e below (Post s Q k n) (T.setTop (mkF m pc Ls (.int z :: rest))) := by
  obtain ⟨hx, hZ, hby, hml, hown, hnm, hret, hlk⟩ := C
  obtain ⟨fs, hr, hrun, hended, hW, hsame⟩ := X.leave (v := some (.int z)) (fun h => by rw [hret] at h; cases h)
  refine ⟨_, _, ?_, hrun, hended, _, _, rfl, ?_, ⟨_, rfl⟩, hW, hsame.mono hk hn⟩
  · have hm' : T.vm.method? m = some meth := X.method'
    have hd' := hb hby hd
    have hn : narrow .int (.int z) = .int z := rfl
    show Steps p.tables e below (T.setTop { method := m, pc := pc, locals := Ls, stack := _ :: rest, locked := none }) _
    jvm_step X.here [X.here.top, hx, hd', hm', hret, hn]
    first | (intro acts; rw [hr _ acts rfl rfl rfl]) | rw [hr _ _ rfl rfl rfl]
    exact Steps.refl _
  · show Q _ T.heap _
    rw [eT]; exact hQ
theorem retJ (X : Stand p l e R s m args below meth c T locs cells slots) (C : Cx p s m meth c Z bytes maxL own mname (some .long)) (eT : T.heap = h) {z : Int64} (hd : decode bytes pc = .ok (.lreturn, 1)) {k n : Nat} (hk : cells ≤ k) (hn : slots ≤ n) {Q : Option Value → Heap → List Loc → Prop} (hQ : Q (some (.long z)) h locs) :
    Go p e below (Post s Q k n) (T.setTop (mkF m pc Ls (.long z :: rest))) := by
  obtain ⟨hx, hZ, hby, hml, hown, hnm, hret, hlk⟩ := C
  obtain ⟨fs, hr, hrun, hended, hW, hsame⟩ := X.leave (v := some (.long z)) (fun h => by rw [hret] at h; cases h)
  refine ⟨_, _, ?_, hrun, hended, _, _, rfl, ?_, ⟨_, rfl⟩, hW, hsame.mono hk hn⟩
  · have hm' : T.vm.method? m = some meth := X.method'
    have hd' := hb hby hd
    show Steps p.tables e below (T.setTop { method := m, pc := pc, locals := Ls, stack := _ :: rest, locked := none }) _
    jvm_step X.here [X.here.top, hx, hd', hm', hret, narrow]
    first | (intro acts; rw [hr _ acts rfl rfl rfl]) | rw [hr _ _ rfl rfl rfl]
    exact Steps.refl _
  · show Q _ T.heap _
    rw [eT]; exact hQ
theorem retA (X : Stand p l e R s m args below meth c T locs cells slots) {t : FieldType} (C : Cx p s m meth c Z bytes maxL own mname (some t)) (ht : t.isReference = true) (eT : T.heap = h) {z : Value} (hz : z.isRef = true) (hd : decode bytes pc = .ok (.areturn, 1)) {k n : Nat} (hk : cells ≤ k) (hn : slots ≤ n) {Q : Option Value → Heap → List Loc → Prop} (hQ : Q (some z) h locs) :
    Go p e below (Post s Q k n) (T.setTop (mkF m pc Ls (z :: rest))) := by
  obtain ⟨hx, hZ, hby, hml, hown, hnm, hret, hlk⟩ := C
  obtain ⟨fs, hr, hrun, hended, hW, hsame⟩ := X.leave (v := some z) (fun h => by rw [hret] at h; cases h)
  refine ⟨_, _, ?_, hrun, hended, _, _, rfl, ?_, ⟨_, rfl⟩, hW, hsame.mono hk hn⟩
  · have hm' : T.vm.method? m = some meth := X.method'
    have hd' := hb hby hd
    show Steps p.tables e below (T.setTop { method := m, pc := pc, locals := Ls, stack := _ :: rest, locked := none }) _
    jvm_step X.here [X.here.top, hx, hd', hm', hret, hz, ht]
    first | (intro acts; rw [hr _ acts rfl rfl rfl]) | rw [hr _ _ rfl rfl rfl]
    exact Steps.refl _
  · show Q _ T.heap _
    rw [eT]; exact hQ
theorem retV (X : Stand p l e R s m args below meth c T locs cells slots) (C : Cx p s m meth c Z bytes maxL own mname none) (eT : T.heap = h) (hd : decode bytes pc = .ok (.return_, 1)) {k n : Nat} (hk : cells ≤ k) (hn : slots ≤ n) {Q : Option Value → Heap → List Loc → Prop} (hQ : Q none h locs) :
    Go p e below (Post s Q k n) (T.setTop (mkF m pc Ls [])) := by
  obtain ⟨hx, hZ, hby, hml, hown, hnm, hret, hlk⟩ := C
  obtain ⟨fs, hr, hrun, hended, hW, hsame⟩ := X.leave (v := none) (fun _ => rfl)
  refine ⟨_, _, X.returnOut hx hret (hb hby hd) hr, hrun, hended, _, _, rfl, ?_, ⟨_, rfl⟩, hW, hsame.mono hk hn⟩
  show Q _ T.heap _
  rw [eT]; exact hQ
/-! plain steps -/
theorem iload (X : Stand p l e R s m args below meth c T locs cells slots) (C : Cx p s m meth c Z bytes maxL own mname ret) {k : Nat} {v : Int32} (hd : decode bytes pc = .ok (.iload k, 2)) (hl : Ls[k]? = some (.val (.int v))) (hq : pc + 2 = q) (K : Go p e below F (T.setTop (mkF m q Ls (.int v :: S)))) : Go p e below F (T.setTop (mkF m pc Ls S)) := by
  subst hq; exact of (fun t k => XS.iload X.here C.1 rfl (hb C.2.2.1 hd) hl k) K
theorem iloadN (X : Stand p l e R s m args below meth c T locs cells slots) (C : Cx p s m meth c Z bytes maxL own mname ret) {k : Fin 4} {v : Int32} (hd : decode bytes pc = .ok (.iload_n k, 1)) (hl : Ls[k.val]? = some (.val (.int v))) (hq : pc + 1 = q) (K : Go p e below F (T.setTop (mkF m q Ls (.int v :: S)))) : Go p e below F (T.setTop (mkF m pc Ls S)) := by
  subst hq; exact of (fun t k => XS.iloadN X.here C.1 rfl (hb C.2.2.1 hd) hl k) K
theorem lload (X : Stand p l e R s m args below meth c T locs cells slots) (C : Cx p s m meth c Z bytes maxL own mname ret) {k : Nat} {v : Int64} (hd : decode bytes pc = .ok (.lload k, 2)) (hl : Ls[k]? = some (.val (.long v))) (hq : pc + 2 = q) (K : Go p e below F (T.setTop (mkF m q Ls (.long v :: S)))) : Go p e below F (T.setTop (mkF m pc Ls S)) := by
  subst hq; exact of (fun t k => XS.lload X.here C.1 rfl (hb C.2.2.1 hd) hl k) K
theorem lloadN (X : Stand p l e R s m args below meth c T locs cells slots) (C : Cx p s m meth c Z bytes maxL own mname ret) {k : Fin 4} {v : Int64} (hd : decode bytes pc = .ok (.lload_n k, 1)) (hl : Ls[k.val]? = some (.val (.long v))) (hq : pc + 1 = q) (K : Go p e below F (T.setTop (mkF m q Ls (.long v :: S)))) : Go p e below F (T.setTop (mkF m pc Ls S)) := by
  subst hq; exact of (fun t k => XS.lloadN X.here C.1 rfl (hb C.2.2.1 hd) hl k) K
theorem aload (X : Stand p l e R s m args below meth c T locs cells slots) (C : Cx p s m meth c Z bytes maxL own mname ret) {k : Nat} {v : Value} (hd : decode bytes pc = .ok (.aload k, 2)) (hl : Ls[k]? = some (.val v)) (hv : v.isRef = true) (hq : pc + 2 = q) (K : Go p e below F (T.setTop (mkF m q Ls (v :: S)))) : Go p e below F (T.setTop (mkF m pc Ls S)) := by
  subst hq; exact of (fun t k => XS.aload X.here C.1 rfl (hb C.2.2.1 hd) hl hv k) K
theorem aloadN (X : Stand p l e R s m args below meth c T locs cells slots) (C : Cx p s m meth c Z bytes maxL own mname ret) {k : Fin 4} {v : Value} (hd : decode bytes pc = .ok (.aload_n k, 1)) (hl : Ls[k.val]? = some (.val v)) (hv : v.isRef = true) (hq : pc + 1 = q) (K : Go p e below F (T.setTop (mkF m q Ls (v :: S)))) : Go p e below F (T.setTop (mkF m pc Ls S)) := by
  subst hq; exact of (fun t k => XS.aloadN X.here C.1 rfl (hb C.2.2.1 hd) hl hv k) K
theorem istore (X : Stand p l e R s m args below meth c T locs cells slots) (C : Cx p s m meth c Z bytes maxL own mname ret) {k : Nat} {v : Int32} (hd : decode bytes pc = .ok (.istore k, 2)) (hl : storeLocals Ls k (.int v) = some L') (hq : pc + 2 = q) (K : Go p e below F (T.setTop (mkF m q L' S))) : Go p e below F (T.setTop (mkF m pc Ls (.int v :: S))) := by
  subst hq; exact of (fun t k => XS.istore X.here C.1 rfl (hb C.2.2.1 hd) rfl hl k) K
theorem istoreN (X : Stand p l e R s m args below meth c T locs cells slots) (C : Cx p s m meth c Z bytes maxL own mname ret) {k : Fin 4} {v : Int32} (hd : decode bytes pc = .ok (.istore_n k, 1)) (hl : storeLocals Ls k.val (.int v) = some L') (hq : pc + 1 = q) (K : Go p e below F (T.setTop (mkF m q L' S))) : Go p e below F (T.setTop (mkF m pc Ls (.int v :: S))) := by
  subst hq; exact of (fun t k => XS.istoreN X.here C.1 rfl (hb C.2.2.1 hd) rfl hl k) K
theorem lstore (X : Stand p l e R s m args below meth c T locs cells slots) (C : Cx p s m meth c Z bytes maxL own mname ret) {k : Nat} {v : Int64} (hd : decode bytes pc = .ok (.lstore k, 2)) (hl : storeLocals Ls k (.long v) = some L') (hq : pc + 2 = q) (K : Go p e below F (T.setTop (mkF m q L' S))) : Go p e below F (T.setTop (mkF m pc Ls (.long v :: S))) := by
  subst hq; exact of (fun t k => XS.lstore X.here C.1 rfl (hb C.2.2.1 hd) rfl hl k) K
theorem lstoreN (X : Stand p l e R s m args below meth c T locs cells slots) (C : Cx p s m meth c Z bytes maxL own mname ret) {k : Fin 4} {v : Int64} (hd : decode bytes pc = .ok (.lstore_n k, 1)) (hl : storeLocals Ls k.val (.long v) = some L') (hq : pc + 1 = q) (K : Go p e below F (T.setTop (mkF m q L' S))) : Go p e below F (T.setTop (mkF m pc Ls (.long v :: S))) := by
  subst hq; exact of (fun t k => XS.lstoreN X.here C.1 rfl (hb C.2.2.1 hd) rfl hl k) K
theorem astore (X : Stand p l e R s m args below meth c T locs cells slots) (C : Cx p s m meth c Z bytes maxL own mname ret) {k : Nat} {v : Value} (hd : decode bytes pc = .ok (.astore k, 2)) (hv : v.isRef = true) (hl : storeLocals Ls k v = some L') (hq : pc + 2 = q) (K : Go p e below F (T.setTop (mkF m q L' S))) : Go p e below F (T.setTop (mkF m pc Ls (v :: S))) := by
  subst hq; exact of (fun t k => XS.astore X.here C.1 rfl (hb C.2.2.1 hd) rfl hv hl k) K
theorem astoreN (X : Stand p l e R s m args below meth c T locs cells slots) (C : Cx p s m meth c Z bytes maxL own mname ret) {k : Fin 4} {v : Value} (hd : decode bytes pc = .ok (.astore_n k, 1)) (hv : v.isRef = true) (hl : storeLocals Ls k.val v = some L') (hq : pc + 1 = q) (K : Go p e below F (T.setTop (mkF m q L' S))) : Go p e below F (T.setTop (mkF m pc Ls (v :: S))) := by
  subst hq; exact of (fun t k => XS.astoreN X.here C.1 rfl (hb C.2.2.1 hd) rfl hv hl k) K
theorem iinc (X : Stand p l e R s m args below meth c T locs cells slots) (C : Cx p s m meth c Z bytes maxL own mname ret) {k : Nat} {i : Int} {x y : Int32} (hd : decode bytes pc = .ok (.iinc k i, 3)) (hl : Ls[k]? = some (.val (.int x))) (hy : x + Int32.ofInt i = y) (hl' : storeLocals Ls k (.int y) = some L') (hq : pc + 3 = q) (K : Go p e below F (T.setTop (mkF m q L' S))) : Go p e below F (T.setTop (mkF m pc Ls S)) := by
  subst hq hy; exact of (fun t k => XS.iinc X.here C.1 rfl (hb C.2.2.1 hd) hl hl' k) K
theorem iconst (X : Stand p l e R s m args below meth c T locs cells slots) (C : Cx p s m meth c Z bytes maxL own mname ret) {i : Int} {v : Int32} (hd : decode bytes pc = .ok (.iconst i, 1)) (hi : Int32.ofInt i = v) (hq : pc + 1 = q) (K : Go p e below F (T.setTop (mkF m q Ls (.int v :: S)))) : Go p e below F (T.setTop (mkF m pc Ls S)) := by
  subst hq hi; exact of (fun t k => XS.iconst X.here C.1 rfl (hb C.2.2.1 hd) k) K
theorem bipush (X : Stand p l e R s m args below meth c T locs cells slots) (C : Cx p s m meth c Z bytes maxL own mname ret) {i : Int} {v : Int32} (hd : decode bytes pc = .ok (.bipush i, 2)) (hi : (Int8.ofInt i).toInt32 = v) (hq : pc + 2 = q) (K : Go p e below F (T.setTop (mkF m q Ls (.int v :: S)))) : Go p e below F (T.setTop (mkF m pc Ls S)) := by
  subst hq hi; exact of (fun t k => XS.bipush X.here C.1 rfl (hb C.2.2.1 hd) k) K
theorem sipush (X : Stand p l e R s m args below meth c T locs cells slots) (C : Cx p s m meth c Z bytes maxL own mname ret) {i : Int} {v : Int32} (hd : decode bytes pc = .ok (.sipush i, 3)) (hi : (Int16.ofInt i).toInt32 = v) (hq : pc + 3 = q) (K : Go p e below F (T.setTop (mkF m q Ls (.int v :: S)))) : Go p e below F (T.setTop (mkF m pc Ls S)) := by
  subst hq hi; exact of (fun t k => XS.sipush X.here C.1 rfl (hb C.2.2.1 hd) k) K
theorem lconst0 (X : Stand p l e R s m args below meth c T locs cells slots) (C : Cx p s m meth c Z bytes maxL own mname ret) (hd : decode bytes pc = .ok (.lconst 0, 1)) (hq : pc + 1 = q) (K : Go p e below F (T.setTop (mkF m q Ls (.long 0 :: S)))) : Go p e below F (T.setTop (mkF m pc Ls S)) := by
  subst hq; exact of (fun t k => XS.lconst X.here C.1 rfl (hb C.2.2.1 hd) k) K
theorem lconst1 (X : Stand p l e R s m args below meth c T locs cells slots) (C : Cx p s m meth c Z bytes maxL own mname ret) (hd : decode bytes pc = .ok (.lconst 1, 1)) (hq : pc + 1 = q) (K : Go p e below F (T.setTop (mkF m q Ls (.long 1 :: S)))) : Go p e below F (T.setTop (mkF m pc Ls S)) := by
  subst hq; exact of (fun t k => XS.lconst X.here C.1 rfl (hb C.2.2.1 hd) k) K
theorem ldcI (X : Stand p l e R s m args below meth c T locs cells slots) (C : Cx p s m meth c Z bytes maxL own mname ret) {i : Nat} {v : Int32} (w : (Jvm.Cond.constant own i v).before a0 Z = true) (hd : decode bytes pc = .ok (.ldc i, 2)) (hq : pc + 2 = q) (K : Go p e below F (T.setTop (mkF m q Ls (.int v :: S)))) : Go p e below F (T.setTop (mkF m pc Ls S)) := by
  subst hq; exact of (X.ldcInt C.1 C.2.2.2.2.1 (mvT C.2.1 w) (g := mkF m pc Ls S) rfl (hb C.2.2.1 hd)) K
theorem ldcL (X : Stand p l e R s m args below meth c T locs cells slots) (C : Cx p s m meth c Z bytes maxL own mname ret) {i : Nat} {v : Int64} (w : (Jvm.Cond.constantLong own i v).before a0 Z = true) (hd : decode bytes pc = .ok (.ldc2_w i, 3)) (hq : pc + 3 = q) (K : Go p e below F (T.setTop (mkF m q Ls (.long v :: S)))) : Go p e below F (T.setTop (mkF m pc Ls S)) := by
  subst hq; exact of (X.ldc2Long C.1 C.2.2.2.2.1 (mvT C.2.1 w) (g := mkF m pc Ls S) rfl (hb C.2.2.1 hd)) K
theorem aconst (X : Stand p l e R s m args below meth c T locs cells slots) (C : Cx p s m meth c Z bytes maxL own mname ret) (hd : decode bytes pc = .ok (.aconst_null, 1)) (hq : pc + 1 = q) (K : Go p e below F (T.setTop (mkF m q Ls (.null :: S)))) : Go p e below F (T.setTop (mkF m pc Ls S)) := by
  subst hq; exact of (fun t k => XS.aconstNull X.here C.1 rfl (hb C.2.2.1 hd) k) K
theorem iadd (X : Stand p l e R s m args below meth c T locs cells slots) (C : Cx p s m meth c Z bytes maxL own mname ret) {x : Int32} {y : Int32} (hd : decode bytes pc = .ok (.iadd, 1)) (hq : pc + 1 = q) (K : Go p e below F (T.setTop (mkF m q Ls (.int (x + y) :: S)))) : Go p e below F (T.setTop (mkF m pc Ls (.int y :: .int x :: S))) := by
  subst hq; exact of (fun t k => XS.iadd X.here C.1 rfl (hb C.2.2.1 hd) rfl k) K
theorem ladd (X : Stand p l e R s m args below meth c T locs cells slots) (C : Cx p s m meth c Z bytes maxL own mname ret) {x : Int64} {y : Int64} (hd : decode bytes pc = .ok (.ladd, 1)) (hq : pc + 1 = q) (K : Go p e below F (T.setTop (mkF m q Ls (.long (x + y) :: S)))) : Go p e below F (T.setTop (mkF m pc Ls (.long y :: .long x :: S))) := by
  subst hq; exact of (fun t k => XS.ladd X.here C.1 rfl (hb C.2.2.1 hd) rfl k) K
theorem isub (X : Stand p l e R s m args below meth c T locs cells slots) (C : Cx p s m meth c Z bytes maxL own mname ret) {x : Int32} {y : Int32} (hd : decode bytes pc = .ok (.isub, 1)) (hq : pc + 1 = q) (K : Go p e below F (T.setTop (mkF m q Ls (.int (x - y) :: S)))) : Go p e below F (T.setTop (mkF m pc Ls (.int y :: .int x :: S))) := by
  subst hq; exact of (fun t k => XS.isub X.here C.1 rfl (hb C.2.2.1 hd) rfl k) K
theorem lsub (X : Stand p l e R s m args below meth c T locs cells slots) (C : Cx p s m meth c Z bytes maxL own mname ret) {x : Int64} {y : Int64} (hd : decode bytes pc = .ok (.lsub, 1)) (hq : pc + 1 = q) (K : Go p e below F (T.setTop (mkF m q Ls (.long (x - y) :: S)))) : Go p e below F (T.setTop (mkF m pc Ls (.long y :: .long x :: S))) := by
  subst hq; exact of (fun t k => XS.lsub X.here C.1 rfl (hb C.2.2.1 hd) rfl k) K
theorem imul (X : Stand p l e R s m args below meth c T locs cells slots) (C : Cx p s m meth c Z bytes maxL own mname ret) {x : Int32} {y : Int32} (hd : decode bytes pc = .ok (.imul, 1)) (hq : pc + 1 = q) (K : Go p e below F (T.setTop (mkF m q Ls (.int (x * y) :: S)))) : Go p e below F (T.setTop (mkF m pc Ls (.int y :: .int x :: S))) := by
  subst hq; exact of (fun t k => XS.imul X.here C.1 rfl (hb C.2.2.1 hd) rfl k) K
theorem lmul (X : Stand p l e R s m args below meth c T locs cells slots) (C : Cx p s m meth c Z bytes maxL own mname ret) {x : Int64} {y : Int64} (hd : decode bytes pc = .ok (.lmul, 1)) (hq : pc + 1 = q) (K : Go p e below F (T.setTop (mkF m q Ls (.long (x * y) :: S)))) : Go p e below F (T.setTop (mkF m pc Ls (.long y :: .long x :: S))) := by
  subst hq; exact of (fun t k => XS.lmul X.here C.1 rfl (hb C.2.2.1 hd) rfl k) K
theorem iand (X : Stand p l e R s m args below meth c T locs cells slots) (C : Cx p s m meth c Z bytes maxL own mname ret) {x : Int32} {y : Int32} (hd : decode bytes pc = .ok (.iand, 1)) (hq : pc + 1 = q) (K : Go p e below F (T.setTop (mkF m q Ls (.int (x &&& y) :: S)))) : Go p e below F (T.setTop (mkF m pc Ls (.int y :: .int x :: S))) := by
  subst hq; exact of (fun t k => XS.iand X.here C.1 rfl (hb C.2.2.1 hd) rfl k) K
theorem land (X : Stand p l e R s m args below meth c T locs cells slots) (C : Cx p s m meth c Z bytes maxL own mname ret) {x : Int64} {y : Int64} (hd : decode bytes pc = .ok (.land, 1)) (hq : pc + 1 = q) (K : Go p e below F (T.setTop (mkF m q Ls (.long (x &&& y) :: S)))) : Go p e below F (T.setTop (mkF m pc Ls (.long y :: .long x :: S))) := by
  subst hq; exact of (fun t k => XS.land X.here C.1 rfl (hb C.2.2.1 hd) rfl k) K
theorem ior (X : Stand p l e R s m args below meth c T locs cells slots) (C : Cx p s m meth c Z bytes maxL own mname ret) {x : Int32} {y : Int32} (hd : decode bytes pc = .ok (.ior, 1)) (hq : pc + 1 = q) (K : Go p e below F (T.setTop (mkF m q Ls (.int (x ||| y) :: S)))) : Go p e below F (T.setTop (mkF m pc Ls (.int y :: .int x :: S))) := by
  subst hq; exact of (fun t k => XS.ior X.here C.1 rfl (hb C.2.2.1 hd) rfl k) K
theorem lor (X : Stand p l e R s m args below meth c T locs cells slots) (C : Cx p s m meth c Z bytes maxL own mname ret) {x : Int64} {y : Int64} (hd : decode bytes pc = .ok (.lor, 1)) (hq : pc + 1 = q) (K : Go p e below F (T.setTop (mkF m q Ls (.long (x ||| y) :: S)))) : Go p e below F (T.setTop (mkF m pc Ls (.long y :: .long x :: S))) := by
  subst hq; exact of (fun t k => XS.lor X.here C.1 rfl (hb C.2.2.1 hd) rfl k) K
theorem ixor (X : Stand p l e R s m args below meth c T locs cells slots) (C : Cx p s m meth c Z bytes maxL own mname ret) {x : Int32} {y : Int32} (hd : decode bytes pc = .ok (.ixor, 1)) (hq : pc + 1 = q) (K : Go p e below F (T.setTop (mkF m q Ls (.int (x ^^^ y) :: S)))) : Go p e below F (T.setTop (mkF m pc Ls (.int y :: .int x :: S))) := by
  subst hq; exact of (fun t k => XS.ixor X.here C.1 rfl (hb C.2.2.1 hd) rfl k) K
theorem lxor (X : Stand p l e R s m args below meth c T locs cells slots) (C : Cx p s m meth c Z bytes maxL own mname ret) {x : Int64} {y : Int64} (hd : decode bytes pc = .ok (.lxor, 1)) (hq : pc + 1 = q) (K : Go p e below F (T.setTop (mkF m q Ls (.long (x ^^^ y) :: S)))) : Go p e below F (T.setTop (mkF m pc Ls (.long y :: .long x :: S))) := by
  subst hq; exact of (fun t k => XS.lxor X.here C.1 rfl (hb C.2.2.1 hd) rfl k) K
theorem ishl (X : Stand p l e R s m args below meth c T locs cells slots) (C : Cx p s m meth c Z bytes maxL own mname ret) {x : Int32} {y : Int32} (hd : decode bytes pc = .ok (.ishl, 1)) (hq : pc + 1 = q) (K : Go p e below F (T.setTop (mkF m q Ls (.int (x <<< (y &&& 31)) :: S)))) : Go p e below F (T.setTop (mkF m pc Ls (.int y :: .int x :: S))) := by
  subst hq; exact of (fun t k => XS.ishl X.here C.1 rfl (hb C.2.2.1 hd) rfl k) K
theorem ishr (X : Stand p l e R s m args below meth c T locs cells slots) (C : Cx p s m meth c Z bytes maxL own mname ret) {x : Int32} {y : Int32} (hd : decode bytes pc = .ok (.ishr, 1)) (hq : pc + 1 = q) (K : Go p e below F (T.setTop (mkF m q Ls (.int (x >>> (y &&& 31)) :: S)))) : Go p e below F (T.setTop (mkF m pc Ls (.int y :: .int x :: S))) := by
  subst hq; exact of (fun t k => XS.ishr X.here C.1 rfl (hb C.2.2.1 hd) rfl k) K
theorem iushr (X : Stand p l e R s m args below meth c T locs cells slots) (C : Cx p s m meth c Z bytes maxL own mname ret) {x : Int32} {y : Int32} (hd : decode bytes pc = .ok (.iushr, 1)) (hq : pc + 1 = q) (K : Go p e below F (T.setTop (mkF m q Ls (.int ((x.toUInt32 >>> (y &&& 31).toUInt32).toInt32) :: S)))) : Go p e below F (T.setTop (mkF m pc Ls (.int y :: .int x :: S))) := by
  subst hq; exact of (fun t k => XS.iushr X.here C.1 rfl (hb C.2.2.1 hd) rfl k) K
theorem lshl (X : Stand p l e R s m args below meth c T locs cells slots) (C : Cx p s m meth c Z bytes maxL own mname ret) {x : Int64} {y : Int32} (hd : decode bytes pc = .ok (.lshl, 1)) (hq : pc + 1 = q) (K : Go p e below F (T.setTop (mkF m q Ls (.long (x <<< (y &&& 0x3f).toInt64) :: S)))) : Go p e below F (T.setTop (mkF m pc Ls (.int y :: .long x :: S))) := by
  subst hq; exact of (fun t k => XS.lshl X.here C.1 rfl (hb C.2.2.1 hd) rfl k) K
theorem lshr (X : Stand p l e R s m args below meth c T locs cells slots) (C : Cx p s m meth c Z bytes maxL own mname ret) {x : Int64} {y : Int32} (hd : decode bytes pc = .ok (.lshr, 1)) (hq : pc + 1 = q) (K : Go p e below F (T.setTop (mkF m q Ls (.long (x >>> (y &&& 0x3f).toInt64) :: S)))) : Go p e below F (T.setTop (mkF m pc Ls (.int y :: .long x :: S))) := by
  subst hq; exact of (fun t k => XS.lshr X.here C.1 rfl (hb C.2.2.1 hd) rfl k) K
theorem lushr (X : Stand p l e R s m args below meth c T locs cells slots) (C : Cx p s m meth c Z bytes maxL own mname ret) {x : Int64} {y : Int32} (hd : decode bytes pc = .ok (.lushr, 1)) (hq : pc + 1 = q) (K : Go p e below F (T.setTop (mkF m q Ls (.long ((x.toUInt64 >>> (y &&& 0x3f).toInt64.toUInt64).toInt64) :: S)))) : Go p e below F (T.setTop (mkF m pc Ls (.int y :: .long x :: S))) := by
  subst hq; exact of (fun t k => XS.lushr X.here C.1 rfl (hb C.2.2.1 hd) rfl k) K
theorem ineg (X : Stand p l e R s m args below meth c T locs cells slots) (C : Cx p s m meth c Z bytes maxL own mname ret) {x : Int32} (hd : decode bytes pc = .ok (.ineg, 1)) (hq : pc + 1 = q) (K : Go p e below F (T.setTop (mkF m q Ls (.int (-x) :: S)))) : Go p e below F (T.setTop (mkF m pc Ls (.int x :: S))) := by
  subst hq; exact of (fun t k => XS.ineg X.here C.1 rfl (hb C.2.2.1 hd) rfl k) K
theorem lneg (X : Stand p l e R s m args below meth c T locs cells slots) (C : Cx p s m meth c Z bytes maxL own mname ret) {x : Int64} (hd : decode bytes pc = .ok (.lneg, 1)) (hq : pc + 1 = q) (K : Go p e below F (T.setTop (mkF m q Ls (.long (-x) :: S)))) : Go p e below F (T.setTop (mkF m pc Ls (.long x :: S))) := by
  subst hq; exact of (fun t k => XS.lneg X.here C.1 rfl (hb C.2.2.1 hd) rfl k) K
theorem i2l (X : Stand p l e R s m args below meth c T locs cells slots) (C : Cx p s m meth c Z bytes maxL own mname ret) {x : Int32} (hd : decode bytes pc = .ok (.i2l, 1)) (hq : pc + 1 = q) (K : Go p e below F (T.setTop (mkF m q Ls (.long (x.toInt64) :: S)))) : Go p e below F (T.setTop (mkF m pc Ls (.int x :: S))) := by
  subst hq; exact of (fun t k => XS.i2l X.here C.1 rfl (hb C.2.2.1 hd) rfl k) K
theorem l2i (X : Stand p l e R s m args below meth c T locs cells slots) (C : Cx p s m meth c Z bytes maxL own mname ret) {x : Int64} (hd : decode bytes pc = .ok (.l2i, 1)) (hq : pc + 1 = q) (K : Go p e below F (T.setTop (mkF m q Ls (.int (x.toInt32) :: S)))) : Go p e below F (T.setTop (mkF m pc Ls (.long x :: S))) := by
  subst hq; exact of (fun t k => XS.l2i X.here C.1 rfl (hb C.2.2.1 hd) rfl k) K
theorem i2b (X : Stand p l e R s m args below meth c T locs cells slots) (C : Cx p s m meth c Z bytes maxL own mname ret) {x : Int32} (hd : decode bytes pc = .ok (.i2b, 1)) (hq : pc + 1 = q) (K : Go p e below F (T.setTop (mkF m q Ls (.int (x.toInt8.toInt32) :: S)))) : Go p e below F (T.setTop (mkF m pc Ls (.int x :: S))) := by
  subst hq; exact of (fun t k => XS.i2b X.here C.1 rfl (hb C.2.2.1 hd) rfl k) K
theorem i2s (X : Stand p l e R s m args below meth c T locs cells slots) (C : Cx p s m meth c Z bytes maxL own mname ret) {x : Int32} (hd : decode bytes pc = .ok (.i2s, 1)) (hq : pc + 1 = q) (K : Go p e below F (T.setTop (mkF m q Ls (.int (x.toInt16.toInt32) :: S)))) : Go p e below F (T.setTop (mkF m pc Ls (.int x :: S))) := by
  subst hq; exact of (fun t k => XS.i2s X.here C.1 rfl (hb C.2.2.1 hd) rfl k) K
theorem i2c (X : Stand p l e R s m args below meth c T locs cells slots) (C : Cx p s m meth c Z bytes maxL own mname ret) {x : Int32} (hd : decode bytes pc = .ok (.i2c, 1)) (hq : pc + 1 = q) (K : Go p e below F (T.setTop (mkF m q Ls (.int (x.toUInt32.toUInt16.toUInt32.toInt32) :: S)))) : Go p e below F (T.setTop (mkF m pc Ls (.int x :: S))) := by
  subst hq; exact of (fun t k => XS.i2c X.here C.1 rfl (hb C.2.2.1 hd) rfl k) K
theorem idiv (X : Stand p l e R s m args below meth c T locs cells slots) (C : Cx p s m meth c Z bytes maxL own mname ret) {x y : Int32} (hd : decode bytes pc = .ok (.idiv, 1)) (hy : y ≠ 0) (hq : pc + 1 = q) (K : Go p e below F (T.setTop (mkF m q Ls (.int (x / y) :: S)))) : Go p e below F (T.setTop (mkF m pc Ls (.int y :: .int x :: S))) := by
  subst hq; exact of (fun t k => XS.idiv X.here C.1 rfl (hb C.2.2.1 hd) rfl hy k) K
theorem irem (X : Stand p l e R s m args below meth c T locs cells slots) (C : Cx p s m meth c Z bytes maxL own mname ret) {x y : Int32} (hd : decode bytes pc = .ok (.irem, 1)) (hy : y ≠ 0) (hq : pc + 1 = q) (K : Go p e below F (T.setTop (mkF m q Ls (.int (x % y) :: S)))) : Go p e below F (T.setTop (mkF m pc Ls (.int y :: .int x :: S))) := by
  subst hq; exact of (fun t k => iremM (g := mkF m pc Ls (.int y :: .int x :: S)) X C.1 rfl (hb C.2.2.1 hd) rfl hy k) K
theorem ldiv (X : Stand p l e R s m args below meth c T locs cells slots) (C : Cx p s m meth c Z bytes maxL own mname ret) {x y : Int64} (hd : decode bytes pc = .ok (.ldiv, 1)) (hy : y ≠ 0) (hq : pc + 1 = q) (K : Go p e below F (T.setTop (mkF m q Ls (.long (x / y) :: S)))) : Go p e below F (T.setTop (mkF m pc Ls (.long y :: .long x :: S))) := by
  subst hq; exact of (fun t k => XS.ldiv X.here C.1 rfl (hb C.2.2.1 hd) rfl hy k) K
theorem lcmp (X : Stand p l e R s m args below meth c T locs cells slots) (C : Cx p s m meth c Z bytes maxL own mname ret) {x y : Int64} (hd : decode bytes pc = .ok (.lcmp, 1)) (hq : pc + 1 = q) (K : Go p e below F (T.setTop (mkF m q Ls (.int (lcmpW x y) :: S)))) : Go p e below F (T.setTop (mkF m pc Ls (.long y :: .long x :: S))) := by
  subst hq; exact of (fun t k => XS.lcmp X.here C.1 rfl (hb C.2.2.1 hd) rfl k) K
theorem dup (X : Stand p l e R s m args below meth c T locs cells slots) (C : Cx p s m meth c Z bytes maxL own mname ret) {v : Value} (hd : decode bytes pc = .ok (.dup, 1)) (hv : v.category = 1) (hq : pc + 1 = q) (K : Go p e below F (T.setTop (mkF m q Ls (v :: v :: S)))) : Go p e below F (T.setTop (mkF m pc Ls (v :: S))) := by
  subst hq; exact of (fun t k => XS.dup X.here C.1 rfl (hb C.2.2.1 hd) rfl hv k) K
theorem dupX1 (X : Stand p l e R s m args below meth c T locs cells slots) (C : Cx p s m meth c Z bytes maxL own mname ret) {v w : Value} (hd : decode bytes pc = .ok (.dup_x1, 1)) (hv : v.category = 1) (hw : w.category = 1) (hq : pc + 1 = q) (K : Go p e below F (T.setTop (mkF m q Ls (v :: w :: v :: S)))) : Go p e below F (T.setTop (mkF m pc Ls (v :: w :: S))) := by
  subst hq; exact of (fun t k => XS.dupX1 X.here C.1 rfl (hb C.2.2.1 hd) rfl hv hw k) K
theorem pop (X : Stand p l e R s m args below meth c T locs cells slots) (C : Cx p s m meth c Z bytes maxL own mname ret) {v : Value} (hd : decode bytes pc = .ok (.pop, 1)) (hv : v.category = 1) (hq : pc + 1 = q) (K : Go p e below F (T.setTop (mkF m q Ls S))) : Go p e below F (T.setTop (mkF m pc Ls (v :: S))) := by
  subst hq; exact of (fun t k => XS.pop X.here C.1 rfl (hb C.2.2.1 hd) rfl hv k) K
theorem goto (X : Stand p l e R s m args below meth c T locs cells slots) (C : Cx p s m meth c Z bytes maxL own mname ret) {o : Int} (hd : decode bytes pc = .ok (.goto o, 3)) (ho : 0 ≤ (pc : Int) + o) (hq : ((pc : Int) + o).toNat = q) (K : Go p e below F (T.setTop (mkF m q Ls S))) : Go p e below F (T.setTop (mkF m pc Ls S)) :=
  of (fun t k => XS.goto X.here C.1 rfl rfl (hb C.2.2.1 hd) ho hq k) K
theorem icmpT (X : Stand p l e R s m args below meth c T locs cells slots) (C : Cx p s m meth c Z bytes maxL own mname ret) {cd : ClassFile.Cond} {o : Int} {x y : Int32} (hd : decode bytes pc = .ok (.if_icmp cd o, 3)) (ho : 0 ≤ (pc : Int) + o) (hq : ((pc : Int) + o).toNat = q) (hc : cT cd x y) (K : Go p e below F (T.setTop (mkF m q Ls S))) : Go p e below F (T.setTop (mkF m pc Ls (.int y :: .int x :: S))) :=
  of (fun t k => XS.icmpYes X.here C.1 rfl rfl (hb C.2.2.1 hd) rfl (holdsT hc) ho hq k) K
theorem icmpF (X : Stand p l e R s m args below meth c T locs cells slots) (C : Cx p s m meth c Z bytes maxL own mname ret) {cd : ClassFile.Cond} {o : Int} {x y : Int32} (hd : decode bytes pc = .ok (.if_icmp cd o, 3)) (hq : pc + 3 = q) (hc : cF cd x y) (K : Go p e below F (T.setTop (mkF m q Ls S))) : Go p e below F (T.setTop (mkF m pc Ls (.int y :: .int x :: S))) := by
  subst hq; exact of (fun t k => XS.icmpNo X.here C.1 rfl (hb C.2.2.1 hd) rfl (holdsF hc) k) K
theorem icmp (X : Stand p l e R s m args below meth c T locs cells slots) (C : Cx p s m meth c Z bytes maxL own mname ret) {cd : ClassFile.Cond} {o : Int} {x y : Int32} {q' : Nat} (hd : decode bytes pc = .ok (.if_icmp cd o, 3)) (ho : 0 ≤ (pc : Int) + o) (hq : ((pc : Int) + o).toNat = q) (hq' : pc + 3 = q') (K : cT cd x y → Go p e below F (T.setTop (mkF m q Ls S))) (K' : cF cd x y → Go p e below F (T.setTop (mkF m q' Ls S))) : Go p e below F (T.setTop (mkF m pc Ls (.int y :: .int x :: S))) :=
  (cTF cd x y).elim (fun hc => icmpT X C hd ho hq hc (K hc)) (fun hc => icmpF X C hd hq' hc (K' hc))
theorem ifT (X : Stand p l e R s m args below meth c T locs cells slots) (C : Cx p s m meth c Z bytes maxL own mname ret) {cd : ClassFile.Cond} {o : Int} {x : Int32} (hd : decode bytes pc = .ok (.ifCond cd o, 3)) (ho : 0 ≤ (pc : Int) + o) (hq : ((pc : Int) + o).toNat = q) (hc : cT cd x 0) (K : Go p e below F (T.setTop (mkF m q Ls S))) : Go p e below F (T.setTop (mkF m pc Ls (.int x :: S))) :=
  of (fun t k => XS.ifYes X.here C.1 rfl rfl (hb C.2.2.1 hd) rfl ((if0 _ _).trans (holdsT hc)) ho hq k) K
theorem ifF (X : Stand p l e R s m args below meth c T locs cells slots) (C : Cx p s m meth c Z bytes maxL own mname ret) {cd : ClassFile.Cond} {o : Int} {x : Int32} (hd : decode bytes pc = .ok (.ifCond cd o, 3)) (hq : pc + 3 = q) (hc : cF cd x 0) (K : Go p e below F (T.setTop (mkF m q Ls S))) : Go p e below F (T.setTop (mkF m pc Ls (.int x :: S))) := by
  subst hq; exact of (fun t k => XS.ifNo X.here C.1 rfl (hb C.2.2.1 hd) rfl ((if0 _ _).trans (holdsF hc)) k) K
theorem if_ (X : Stand p l e R s m args below meth c T locs cells slots) (C : Cx p s m meth c Z bytes maxL own mname ret) {cd : ClassFile.Cond} {o : Int} {x : Int32} {q' : Nat} (hd : decode bytes pc = .ok (.ifCond cd o, 3)) (ho : 0 ≤ (pc : Int) + o) (hq : ((pc : Int) + o).toNat = q) (hq' : pc + 3 = q') (K : cT cd x 0 → Go p e below F (T.setTop (mkF m q Ls S))) (K' : cF cd x 0 → Go p e below F (T.setTop (mkF m q' Ls S))) : Go p e below F (T.setTop (mkF m pc Ls (.int x :: S))) :=
  (cTF cd x 0).elim (fun hc => ifT X C hd ho hq hc (K hc)) (fun hc => ifF X C hd hq' hc (K' hc))
theorem ifnullT (X : Stand p l e R s m args below meth c T locs cells slots) (C : Cx p s m meth c Z bytes maxL own mname ret) {o : Int} (hd : decode bytes pc = .ok (.ifnull o, 3)) (ho : 0 ≤ (pc : Int) + o) (hq : ((pc : Int) + o).toNat = q) (K : Go p e below F (T.setTop (mkF m q Ls S))) : Go p e below F (T.setTop (mkF m pc Ls (.null :: S))) :=
  of (fun t k => XS.ifnullYes X.here C.1 rfl rfl (hb C.2.2.1 hd) rfl ho hq k) K
theorem ifnullF (X : Stand p l e R s m args below meth c T locs cells slots) (C : Cx p s m meth c Z bytes maxL own mname ret) {o : Int} {a : Addr} (hd : decode bytes pc = .ok (.ifnull o, 3)) (hq : pc + 3 = q) (K : Go p e below F (T.setTop (mkF m q Ls S))) : Go p e below F (T.setTop (mkF m pc Ls (.ref a :: S))) := by
  subst hq; exact of (fun t k => XS.ifnullNo X.here C.1 rfl (hb C.2.2.1 hd) rfl k) K
theorem ifnonnullT (X : Stand p l e R s m args below meth c T locs cells slots) (C : Cx p s m meth c Z bytes maxL own mname ret) {o : Int} {a : Addr} (hd : decode bytes pc = .ok (.ifnonnull o, 3)) (ho : 0 ≤ (pc : Int) + o) (hq : ((pc : Int) + o).toNat = q) (K : Go p e below F (T.setTop (mkF m q Ls S))) : Go p e below F (T.setTop (mkF m pc Ls (.ref a :: S))) :=
  of (fun t k => XS.ifnonnullYes X.here C.1 rfl rfl (hb C.2.2.1 hd) rfl ho hq k) K
theorem ifnonnullF (X : Stand p l e R s m args below meth c T locs cells slots) (C : Cx p s m meth c Z bytes maxL own mname ret) {o : Int} (hd : decode bytes pc = .ok (.ifnonnull o, 3)) (hq : pc + 3 = q) (K : Go p e below F (T.setTop (mkF m q Ls S))) : Go p e below F (T.setTop (mkF m pc Ls (.null :: S))) := by
  subst hq; exact of (fun t k => XS.ifnonnullNo X.here C.1 rfl (hb C.2.2.1 hd) rfl k) K
/-! calls -/
theorem callS (X : Stand p l e R s m args below meth c T locs cells slots) (C : Cx p s m meth c Z bytes maxL own mname ret) {y : MethodName} {i : Nat} {yb : ByteArray} {ym : Nat} {yr : Option FieldType} (w1 : (Jvm.Cond.methodLink own i y).before a0 Z = true) (w2 : (Jvm.Cond.static y).before a0 Z = true) (w3 : (Jvm.Cond.initialized y.cls).before a0 Z = true) (w4 : (Jvm.Cond.code y yb ym yr).before a0 Z = true) (hy : y.cls ≠ "java/lang/invoke/MethodHandle" ∧ y.cls ≠ "java/lang/invoke/VarHandle")
    {rm : Room} {as' : Array Value} {Q : Option Value → Heap → List Loc → Prop} (hM : MetFree l y (head1 [Jvm.Cond.code y yb ym yr] rm) (fun a U => a = as' ∧ Z.Warmed39 U.vm ∧ U.heap = h) (fun _ _ _ _ _ => True) (fun _ U o U' => ∃ v L, o = .returned v ∧ Q v U'.heap L ∧ FrameEnd U o U' L rm.cells rm.slots))
    (eT : T.heap = h) (hd : decode bytes pc = .ok (.invokestatic i, 3)) (argsL : List Value) (rest : List Value) (hS : S = argsL.reverse ++ rest) (has : as' = argsL.toArray) {ps : List FieldType} {r : Option FieldType} (hpd : parseMethodDescriptor y.desc = some ⟨ps, r⟩) (hlen : argsL.length = ps.length) (hsz : Ls.size = maxL)
    (hf : rm.frames + 1 ≤ R.frames) (hl : (rest.map fun v => v.category).sum + (ym + 11) + rm.locals ≤ R.locals) (hc : cells + rm.cells ≤ R.cells) (hsl : slots + rm.slots ≤ R.slots) (hq : pc + 3 = q)
    (K : ∀ (T' : State) (v : Option Value) (L : List Loc), Stand p l e R s m args below meth c T' (locs ++ L) (cells + rm.cells) (slots + rm.slots) → Q v T'.heap L → Go p e below F (T'.setTop (mkF m q Ls (v.toList ++ rest)))) : Go p e below F (T.setTop (mkF m pc Ls S)) := by
  subst hq hS has
  obtain ⟨hx, hZ, hby, hml, hown, hnm, hret, hlk⟩ := C
  obtain ⟨v, _, ⟨T1, L1, k1, n1⟩, -, X1, ⟨Lc, hQ, l1, y1, z1⟩, st⟩ := Jvm.LawKit.callS X hx hown (mvT hZ w1) (mvT hZ w2) (mvT hZ w3) (mvT hZ w4) hy (backOf (W := (rest.map fun v => v.category).sum) hM hZ w4 w3 hf hl) (g := mkF m pc Ls (argsL.reverse ++ rest)) rfl (by rw [hml]; exact hsz) (argsL := argsL) (rest := rest) (lenOf hpd hlen) rfl (by show 2 * 0 + _ ≤ _; omega) (hb hby hd) (fun _ _ => ⟨rfl, eT, hc, hsl⟩)
  dsimp only [Pt.U, Pt.locs, Pt.cells, Pt.slots] at X1 l1 y1 z1 st hQ
  subst l1 y1 z1
  exact of st (K T1 v Lc X1 hQ)
theorem callI (X : Stand p l e R s m args below meth c T locs cells slots) (C : Cx p s m meth c Z bytes maxL own mname ret) {y : MethodName} {i : Nat} {yb : ByteArray} {ym : Nat} (hy1 : y.name = "<init>") (w1 : (Jvm.Cond.methodLink own i y).before a0 Z = true) (w2 : (Jvm.Cond.instanceMethod y).before a0 Z = true) (w3 : (Jvm.Cond.initialized y.cls).before a0 Z = true) (w4 : (Jvm.Cond.code y yb ym none).before a0 Z = true) (hy : y.cls ≠ "java/lang/invoke/MethodHandle" ∧ y.cls ≠ "java/lang/invoke/VarHandle")
    {rm : Room} {as' : Array Value} {Q : Option Value → Heap → List Loc → Prop} (hM : MetFree l y (head1 [Jvm.Cond.code y yb ym none] rm) (fun a U => a = as' ∧ Z.Warmed39 U.vm ∧ U.heap = h) (fun _ _ _ _ _ => True) (fun _ U o U' => ∃ v L, o = .returned v ∧ Q v U'.heap L ∧ FrameEnd U o U' L rm.cells rm.slots))
    (eT : T.heap = h) (hd : decode bytes pc = .ok (.invokespecial i, 3)) {a : Addr} (argsL : List Value) (rest : List Value) (hS : S = argsL.reverse ++ .ref a :: rest) (has : as' = (.ref a :: argsL).toArray) {ps : List FieldType} {r : Option FieldType} (hpd : parseMethodDescriptor y.desc = some ⟨ps, r⟩) (hlen : argsL.length = ps.length) (hsz : Ls.size = maxL)
    (hf : rm.frames + 1 ≤ R.frames) (hl : (rest.map fun v => v.category).sum + (ym + 11) + rm.locals ≤ R.locals) (hc : cells + rm.cells ≤ R.cells) (hsl : slots + rm.slots ≤ R.slots) (hq : pc + 3 = q)
    (K : ∀ (T' : State) (v : Option Value) (L : List Loc), Stand p l e R s m args below meth c T' (locs ++ L) (cells + rm.cells) (slots + rm.slots) → Q v T'.heap L → Go p e below F (T'.setTop (mkF m q Ls (v.toList ++ rest)))) : Go p e below F (T.setTop (mkF m pc Ls S)) := by
  subst hq hS has
  obtain ⟨hx, hZ, hby, hml, hown, hnm, hret, hlk⟩ := C
  obtain ⟨v, _, ⟨T1, L1, k1, n1⟩, -, X1, ⟨Lc, hQ, l1, y1, z1⟩, st⟩ := X.specialBack hx hy1 hown (mvT hZ w1) (mvT hZ w2) (mvT hZ w4) hy (backOf (W := (rest.map fun v => v.category).sum) hM hZ w4 w3 hf hl) (g := mkF m pc Ls (argsL.reverse ++ .ref a :: rest)) rfl (by rw [hml]; exact hsz) (Steps.refl _) (a := a) (argsL := argsL) (rest := rest) (lenOf hpd hlen) rfl (by show 2 * 0 + _ ≤ _; omega) (hb hby hd) (fun _ _ => ⟨rfl, eT, hc, hsl⟩)
  dsimp only [Pt.U, Pt.locs, Pt.cells, Pt.slots] at X1 l1 y1 z1 st hQ
  subst l1 y1 z1
  exact tr st (K T1 v Lc X1 hQ)
theorem callV (X : Stand p l e R s m args below meth c T locs cells slots) (C : Cx p s m meth c Z bytes maxL own mname ret) {y z : MethodName} {i : Nat} {Cn : String} {yb : ByteArray} {ym : Nat} {yr : Option FieldType} (w1 : (Jvm.Cond.methodLink own i y).before a0 Z = true) (w2 : (Jvm.Cond.declares y).before a0 Z = true) (hnf : NotFace s y) (ws : (Jvm.Cond.selects Cn y z).before a0 Z = true) (wi : (Jvm.Cond.instanceMethod z).before a0 Z = true) (w3 : (Jvm.Cond.initialized z.cls).before a0 Z = true) (w4 : (Jvm.Cond.code z yb ym yr).before a0 Z = true) (hy : y.cls ≠ "java/lang/invoke/MethodHandle" ∧ y.cls ≠ "java/lang/invoke/VarHandle")
    {rm : Room} {as' : Array Value} {Q : Option Value → Heap → List Loc → Prop} (hM : MetFree l z (head1 [Jvm.Cond.code z yb ym yr] rm) (fun a U => a = as' ∧ Z.Warmed39 U.vm ∧ U.heap = h) (fun _ _ _ _ _ => True) (fun _ U o U' => ∃ v L, o = .returned v ∧ Q v U'.heap L ∧ FrameEnd U o U' L rm.cells rm.slots))
    (eT : T.heap = h) {a : Addr} (E : Exa Z h a Cn) (hd : decode bytes pc = .ok (.invokevirtual i, 3)) (argsL : List Value) (rest : List Value) (hS : S = argsL.reverse ++ .ref a :: rest) (has : as' = (.ref a :: argsL).toArray) {ps : List FieldType} {r : Option FieldType} (hpd : parseMethodDescriptor y.desc = some ⟨ps, r⟩) (hlen : argsL.length = ps.length) (hsz : Ls.size = maxL)
    (hf : rm.frames + 1 ≤ R.frames) (hl : (rest.map fun v => v.category).sum + (ym + 11) + rm.locals ≤ R.locals) (hc : cells + rm.cells ≤ R.cells) (hsl : slots + rm.slots ≤ R.slots) (hq : pc + 3 = q)
    (K : ∀ (T' : State) (v : Option Value) (L : List Loc), Stand p l e R s m args below meth c T' (locs ++ L) (cells + rm.cells) (slots + rm.slots) → Q v T'.heap L → Go p e below F (T'.setTop (mkF m q Ls (v.toList ++ rest)))) : Go p e below F (T.setTop (mkF m pc Ls S)) := by
  subst hq hS has
  obtain ⟨hx, hZ, hby, hml, hown, hnm, hret, hlk⟩ := C
  obtain ⟨cq, kq, qa, qb, qc⟩ := isOf hZ eT E
  obtain ⟨v, _, ⟨T1, L1, k1, n1⟩, -, X1, ⟨Lc, hQ, l1, y1, z1⟩, st⟩ := X.virtualBack hx hown (mvT hZ w1) (mvT hZ w2) hnf (mvT hZ ws) (mvT hZ wi) hy (backOf (W := (rest.map fun v => v.category).sum) hM hZ w4 w3 hf hl) qa qc (g := mkF m pc Ls (argsL.reverse ++ .ref a :: rest)) rfl (by rw [hml]; exact hsz) (Steps.refl _) (argsL := argsL) (rest := rest) (lenOf hpd hlen) rfl (by show 2 * 0 + _ ≤ _; omega) (hb hby hd) (fun _ _ => ⟨rfl, eT, hc, hsl⟩)
  dsimp only [Pt.U, Pt.locs, Pt.cells, Pt.slots] at X1 l1 y1 z1 st hQ
  subst l1 y1 z1
  exact tr st (K T1 v Lc X1 hQ)
theorem callP (X : Stand p l e R s m args below meth c T locs cells slots) (C : Cx p s m meth c Z bytes maxL own mname ret) {y y2 : MethodName} {i : Nat} {Cn : String} {yb : ByteArray} {ym : Nat} {yr : Option FieldType} (w1 : (Jvm.Cond.methodLink own i y).before a0 Z = true) (wi : (Jvm.Cond.instanceMethod y).before a0 Z = true) (wp : (Jvm.Cond.privateMethod y).before a0 Z = true) (hcls : y2.cls = y.cls) (ws : (Jvm.Cond.selects y2.cls y2 y2).before a0 Z = true) (w3 : (Jvm.Cond.initialized y.cls).before a0 Z = true) (w4 : (Jvm.Cond.code y yb ym yr).before a0 Z = true) (hy : y.cls ≠ "java/lang/invoke/MethodHandle" ∧ y.cls ≠ "java/lang/invoke/VarHandle")
    {rm : Room} {as' : Array Value} {Q : Option Value → Heap → List Loc → Prop} (hM : MetFree l y (head1 [Jvm.Cond.code y yb ym yr] rm) (fun a U => a = as' ∧ Z.Warmed39 U.vm ∧ U.heap = h) (fun _ _ _ _ _ => True) (fun _ U o U' => ∃ v L, o = .returned v ∧ Q v U'.heap L ∧ FrameEnd U o U' L rm.cells rm.slots))
    (eT : T.heap = h) {a : Addr} (E : Exa Z h a Cn) (hd : decode bytes pc = .ok (.invokevirtual i, 3)) (argsL : List Value) (rest : List Value) (hS : S = argsL.reverse ++ .ref a :: rest) (has : as' = (.ref a :: argsL).toArray) {ps : List FieldType} {r : Option FieldType} (hpd : parseMethodDescriptor y.desc = some ⟨ps, r⟩) (hlen : argsL.length = ps.length) (hsz : Ls.size = maxL)
    (hf : rm.frames + 1 ≤ R.frames) (hl : (rest.map fun v => v.category).sum + (ym + 11) + rm.locals ≤ R.locals) (hc : cells + rm.cells ≤ R.cells) (hsl : slots + rm.slots ≤ R.slots) (hq : pc + 3 = q)
    (K : ∀ (T' : State) (v : Option Value) (L : List Loc), Stand p l e R s m args below meth c T' (locs ++ L) (cells + rm.cells) (slots + rm.slots) → Q v T'.heap L → Go p e below F (T'.setTop (mkF m q Ls (v.toList ++ rest)))) : Go p e below F (T.setTop (mkF m pc Ls S)) := by
  subst hq hS has
  obtain ⟨hx, hZ, hby, hml, hown, hnm, hret, hlk⟩ := C
  obtain ⟨cl, qa, qb⟩ := E.cell
  rw [← eT] at qa
  have ws' : (Jvm.Cond.selects y2.cls y2 y2).before args s = true := mvT hZ ws
  obtain ⟨_, _, m2, -, -, q3, -, kP, hkP, hkPi⟩ := Cond.selects_spec ws'
  have hfc := findClass_of_methodNamed q3
  rw [hcls] at hfc
  have hpr : s.PrivateAt y := Cond.privateMethod_at (args := args) (mvP hZ wp)
  have hsel := Jvm.Stand.selects_self_of_private (args := args) hfc hkP hkPi hpr (mvT hZ wi) hy
  obtain ⟨v, _, ⟨T1, L1, k1, n1⟩, -, X1, ⟨Lc, hQ, l1, y1, z1⟩, st⟩ := X.privateBack hx hown (mvT hZ w1) (mvT hZ wi) hsel hpr (mvT hZ w4) hy (backOf (W := (rest.map fun v => v.category).sum) hM hZ w4 w3 hf hl) (g := mkF m pc Ls (argsL.reverse ++ .ref a :: rest)) rfl (by rw [hml]; exact hsz) (Steps.refl _) qa qb (argsL := argsL) (rest := rest) (lenOf hpd hlen) rfl (by show 2 * 0 + _ ≤ _; omega) (hb hby hd) (fun _ _ => ⟨rfl, eT, hc, hsl⟩)
  dsimp only [Pt.U, Pt.locs, Pt.cells, Pt.slots] at X1 l1 y1 z1 st hQ
  subst l1 y1 z1
  exact tr st (K T1 v Lc X1 hQ)
theorem nf (C : Cx p s m meth c Z bytes maxL own mname ret) {Cn : String} {y : MethodName} (ws : (Jvm.Cond.selects Cn y y).before a0 Z = true) : NotFace s y := notFace_of_selects (args := #[]) (mvT C.2.1 ws)
/-! objects -/
theorem newO (X : Stand p l e R s m args below meth c T locs cells slots) (C : Cx p s m meth c Z bytes maxL own mname ret) {i n : Nat} {Cn : String} (w1 : (Jvm.Cond.classLink own i Cn).before a0 Z = true) (w2 : (Jvm.Cond.instantiable Cn n).before a0 Z = true) (w3 : (Jvm.Cond.initialized Cn).before a0 Z = true) (eT : T.heap = h) (hd : decode bytes pc = .ok (.new i, 3)) (hc : cells + 1 ≤ R.cells) (hl : slots + n ≤ R.slots) (hq : pc + 3 = q)
    (K : ∀ (T' : State) (h' : Heap) (b : Addr), Stand p l e R s m args below meth c T' locs (cells + 1) (slots + n) → T'.heap = h' → b = h.size → Ext h h' → Exa Z h' b Cn → (∀ {O nm d : String} {ty : FieldType}, Laid Z a0 Cn O nm d → parseFieldDescriptor d = some ty → Fld Z h' b O nm d (defaultValue ty)) → Go p e below F (T'.setTop (mkF m q Ls (.ref b :: S)))) : Go p e below F (T.setTop (mkF m pc Ls S)) := by
  subst hq
  obtain ⟨hx, hZ, hby, hml, hown, hnm, hret, hlk⟩ := C
  obtain ⟨T1, h1, X1, e1, E1, A1, D1, -, st⟩ := Jvm.RoadKit.newO X hx hZ hown w1 w2 w3 eT (g := mkF m pc Ls S) rfl (hb hby hd) hc hl
  exact of st (K T1 h1 _ X1 e1 rfl E1 A1 D1)
theorem getF (X : Stand p l e R s m args below meth c T locs cells slots) (C : Cx p s m meth c Z bytes maxL own mname ret) {i : Nat} {R0 O n d host : String} (w : (Jvm.Cond.fieldLink own i R0 n d).before a0 Z = true ∨ (Jvm.Cond.fieldLinkNest own i R0 n d host).before a0 Z = true) (via : Via Z R0 O n d) (eT : T.heap = h) {a : Addr} {v : Value} (F0 : Fld Z h a O n d v) (hd : decode bytes pc = .ok (.getfield i, 3)) (hq : pc + 3 = q)
    (K : ∀ (T' : State), Stand p l e R s m args below meth c T' locs cells slots → T'.heap = h → Go p e below F (T'.setTop (mkF m q Ls (v :: S)))) : Go p e below F (T.setTop (mkF m pc Ls (.ref a :: S))) := by
  subst hq
  obtain ⟨hx, hZ, hby, hml, hown, hnm, hret, hlk⟩ := C
  obtain ⟨T1, X1, e1, st⟩ := Jvm.RoadKit.getF X hx hZ hown w via eT F0 (g := mkF m pc Ls (.ref a :: S)) rfl rfl (hb hby hd)
  exact of st (K T1 X1 e1)
theorem putF (X : Stand p l e R s m args below meth c T locs cells slots) (C : Cx p s m meth c Z bytes maxL own mname ret) {i kk : Nat} {R0 O n d host Cn : String} {ty : FieldType} (w : (Jvm.Cond.fieldLink own i R0 n d).before a0 Z = true ∨ (Jvm.Cond.fieldLinkNest own i R0 n d host).before a0 Z = true) (via : Via Z R0 O n d) (eT : T.heap = h) {a : Addr} {v old : Value} (F0 : Fld Z h a O n d old) (E : Exa Z h a Cn) (L : (Jvm.Cond.lays Cn O n d).before a0 Z = true ∨ ((Jvm.Cond.laysFinal Cn O n d).before a0 Z = true ∧ own = O ∧ mname = "<init>")) (wi : (Jvm.Cond.instantiable Cn kk).before a0 Z = true) (hty : parseFieldDescriptor d = some ty) (hn : narrow ty v = v) (hf : fits ty v = true) (hd : decode bytes pc = .ok (.putfield i, 3)) (hq : pc + 3 = q)
    (K : ∀ (T' : State) (h' : Heap), Stand p l e R s m args below meth c T' (locs ++ [⟨a, Jvm.RoadKit.slotOf Z O n d⟩]) cells slots → T'.heap = h' → Wr h h' a (Jvm.RoadKit.slotOf Z O n d) v → Go p e below F (T'.setTop (mkF m q Ls S))) : Go p e below F (T.setTop (mkF m pc Ls (v :: .ref a :: S))) := by
  subst hq
  obtain ⟨hx, hZ, hby, hml, hown, hnm, hret, hlk⟩ := C
  obtain ⟨T1, h1, X1, e1, W1, st⟩ := Jvm.RoadKit.putF X hx hZ hown w via eT F0 E (L.imp id fun q => ⟨q.1, q.2.1, hnm.trans q.2.2⟩) wi hty hn hf (g := mkF m pc Ls (v :: .ref a :: S)) rfl rfl (hb hby hd)
  exact of st (K T1 h1 X1 e1 W1)
theorem getS (X : Stand p l e R s m args below meth c T locs cells slots) (C : Cx p s m meth c Z bytes maxL own mname ret) {i : Nat} {R0 O n d : String} (w : (Jvm.Cond.fieldLink own i R0 n d).before a0 Z = true) (via : Via Z R0 O n d) (eT : T.heap = h) {v : Value} (F0 : Sta Z h O n d v) (hd : decode bytes pc = .ok (.getstatic i, 3)) (hq : pc + 3 = q)
    (K : ∀ (T' : State), Stand p l e R s m args below meth c T' locs cells slots → T'.heap = h → Go p e below F (T'.setTop (mkF m q Ls (v :: S)))) : Go p e below F (T.setTop (mkF m pc Ls S)) := by
  subst hq
  obtain ⟨hx, hZ, hby, hml, hown, hnm, hret, hlk⟩ := C
  obtain ⟨T1, X1, e1, st⟩ := Jvm.RoadKit.getS X hx hZ hown (host := "") w via eT F0 (g := mkF m pc Ls S) rfl (hb hby hd)
  exact of st (K T1 X1 e1)
/-! arrays: Arv Z h a k ty n vs d -/
theorem inb {cl : Cell} {n j : Int32} (S : cl.slots.size = n.toNatClampNeg) (h1 : 0 ≤ j.toInt) (h2 : j.toInt < n.toInt) : ¬ (j < 0 ∨ cl.slots.size ≤ j.toNatClampNeg) := inb_of S ⟨by rw [Int32.lt_iff_toInt_lt]; have : (0 : Int32).toInt = 0 := rfl; omega, by rw [Int32.lt_iff_toInt_lt]; exact h2⟩
theorem iaload (X : Stand p l e R s m args below meth c T locs cells slots) (C : Cx p s m meth c Z bytes maxL own mname ret) (eT : T.heap = h) {a : Addr} {k : ClassId} {n j x : Int32} {vs : List Value} {d : Value} (V : Arv Z h a k .int n vs d) (h1 : 0 ≤ j.toInt) (h2 : j.toInt < n.toInt) (hv : vs.getD j.toNatClampNeg d = .int x) (hd : decode bytes pc = .ok (.iaload, 1)) (hq : pc + 1 = q) (K : Go p e below F (T.setTop (mkF m q Ls (.int x :: S)))) : Go p e below F (T.setTop (mkF m pc Ls (.int j :: .ref a :: S))) := by
  subst hq
  obtain ⟨cl, Ar, q1, S1, N1, H1, G1⟩ := V
  exact of (X.iaload C.1 (j := j) (v := .int x) (by rw [eT]; exact Ar.1) (State.isArrayOf_alike C.2.1.alike Ar.2.1) Ar.2.2 (inb S1 h1 h2) (Has.at H1 (inb S1 h1 h2) hv) (g := mkF m pc Ls (.int j :: .ref a :: S)) rfl rfl (hb C.2.2.1 hd)) K
theorem caload (X : Stand p l e R s m args below meth c T locs cells slots) (C : Cx p s m meth c Z bytes maxL own mname ret) (eT : T.heap = h) {a : Addr} {k : ClassId} {n j x : Int32} {vs : List Value} {d : Value} (V : Arv Z h a k .char n vs d) (h1 : 0 ≤ j.toInt) (h2 : j.toInt < n.toInt) (hv : vs.getD j.toNatClampNeg d = .int x) (hd : decode bytes pc = .ok (.caload, 1)) (hq : pc + 1 = q) (K : Go p e below F (T.setTop (mkF m q Ls (.int x :: S)))) : Go p e below F (T.setTop (mkF m pc Ls (.int j :: .ref a :: S))) := by
  subst hq
  obtain ⟨cl, Ar, q1, S1, N1, H1, G1⟩ := V
  exact of (X.caload C.1 (j := j) (v := .int x) (by rw [eT]; exact Ar.1) (State.isArrayOf_alike C.2.1.alike Ar.2.1) Ar.2.2 (inb S1 h1 h2) (Has.at H1 (inb S1 h1 h2) hv) (g := mkF m pc Ls (.int j :: .ref a :: S)) rfl rfl (hb C.2.2.1 hd)) K
theorem baload (X : Stand p l e R s m args below meth c T locs cells slots) (C : Cx p s m meth c Z bytes maxL own mname ret) (eT : T.heap = h) {a : Addr} {k : ClassId} {n j x : Int32} {vs : List Value} {d : Value} (V : Arv Z h a k .byte n vs d) (h1 : 0 ≤ j.toInt) (h2 : j.toInt < n.toInt) (hv : vs.getD j.toNatClampNeg d = .int x) (hd : decode bytes pc = .ok (.baload, 1)) (hq : pc + 1 = q) (K : Go p e below F (T.setTop (mkF m q Ls (.int x :: S)))) : Go p e below F (T.setTop (mkF m pc Ls (.int j :: .ref a :: S))) := by
  subst hq
  obtain ⟨cl, Ar, q1, S1, N1, H1, G1⟩ := V
  exact of (X.baloadBytes C.1 (j := j) (v := .int x) (by rw [eT]; exact Ar.1) (State.isArrayOf_alike C.2.1.alike Ar.2.1) Ar.2.2 (inb S1 h1 h2) (Has.at H1 (inb S1 h1 h2) hv) (g := mkF m pc Ls (.int j :: .ref a :: S)) rfl rfl (hb C.2.2.1 hd)) K
theorem aaload (X : Stand p l e R s m args below meth c T locs cells slots) (C : Cx p s m meth c Z bytes maxL own mname ret) (eT : T.heap = h) {a : Addr} {k : ClassId} {n j : Int32} {x : Value} {vs : List Value} {d : Value} {ty : FieldType} (hty : ty.isReference = true) (V : Arv Z h a k ty n vs d) (h1 : 0 ≤ j.toInt) (h2 : j.toInt < n.toInt) (hv : vs.getD j.toNatClampNeg d = x) (hd : decode bytes pc = .ok (.aaload, 1)) (hq : pc + 1 = q) (K : Go p e below F (T.setTop (mkF m q Ls (x :: S)))) : Go p e below F (T.setTop (mkF m pc Ls (.int j :: .ref a :: S))) := by
  subst hq
  obtain ⟨cl, Ar, q1, S1, N1, H1, G1⟩ := V
  exact of (X.aaload C.1 (j := j) (v := x) (by rw [eT]; exact Ar.1) (State.isArrayOf_alike C.2.1.alike Ar.2.1) hty Ar.2.2 (inb S1 h1 h2) (Has.at H1 (inb S1 h1 h2) hv) (g := mkF m pc Ls (.int j :: .ref a :: S)) rfl rfl (hb C.2.2.1 hd)) K
theorem aaloadC (X : Stand p l e R s m args below meth c T locs cells slots) (C : Cx p s m meth c Z bytes maxL own mname ret) (eT : T.heap = h) {a : Addr} {cl : Cell} {j : Int32} {x : Value} {ty : FieldType} (hty : ty.isReference = true) (Ar : Arr Z h a cl ty) (hin : ¬ (j < 0 ∨ cl.slots.size ≤ j.toNatClampNeg)) (hat : cl.slots[j.toNatClampNeg]? = some x) (hd : decode bytes pc = .ok (.aaload, 1)) (hq : pc + 1 = q) (K : Go p e below F (T.setTop (mkF m q Ls (x :: S)))) : Go p e below F (T.setTop (mkF m pc Ls (.int j :: .ref a :: S))) := by
  subst hq
  exact of (X.aaload C.1 (j := j) (v := x) (by rw [eT]; exact Ar.1) (State.isArrayOf_alike C.2.1.alike Ar.2.1) hty Ar.2.2 hin hat (g := mkF m pc Ls (.int j :: .ref a :: S)) rfl rfl (hb C.2.2.1 hd)) K
theorem arraylength (X : Stand p l e R s m args below meth c T locs cells slots) (C : Cx p s m meth c Z bytes maxL own mname ret) (eT : T.heap = h) {a : Addr} {k : ClassId} {n : Int32} {vs : List Value} {d : Value} {ty : FieldType} (V : Arv Z h a k ty n vs d) (hd : decode bytes pc = .ok (.arraylength, 1)) (hq : pc + 1 = q) (K : Go p e below F (T.setTop (mkF m q Ls (.int n :: S)))) : Go p e below F (T.setTop (mkF m pc Ls (.ref a :: S))) := by
  subst hq
  obtain ⟨cl, Ar, q1, S1, N1, H1, G1⟩ := V
  refine of (X.arraylength C.1 (by rw [eT]; exact Ar.1) (State.isArrayOf_alike C.2.1.alike Ar.2.1) (g := mkF m pc Ls (.ref a :: S)) rfl rfl (hb C.2.2.1 hd)) ?_
  rw [len_of S1 N1]
  exact K
theorem iastore (X : Stand p l e R s m args below meth c T locs cells slots) (C : Cx p s m meth c Z bytes maxL own mname ret) (eT : T.heap = h) {a : Addr} {k : ClassId} {n j x : Int32} {vs : List Value} {d : Value} (V : Arv Z h a k .int n vs d) (h1 : 0 ≤ j.toInt) (h2 : j.toInt < n.toInt) (hlen : j.toNatClampNeg < vs.length) (hd : decode bytes pc = .ok (.iastore, 1)) (hq : pc + 1 = q)
    (K : ∀ (T' : State) (h' : Heap), Stand p l e R s m args below meth c T' (locs ++ [⟨a, j.toNatClampNeg⟩]) cells slots → T'.heap = h' → Wr h h' a j.toNatClampNeg (.int x) → Arv Z h' a k .int n (vs.set j.toNatClampNeg (.int x)) d → Go p e below F (T'.setTop (mkF m q Ls S))) : Go p e below F (T.setTop (mkF m pc Ls (.int x :: .int j :: .ref a :: S))) := by
  subst hq
  obtain ⟨cl, Ar, q1, S1, N1, H1, G1⟩ := V
  obtain ⟨T1, h1', X1, e1, W1, st⟩ := stI X C.1 C.2.1 eT Ar (j := j) (inb S1 h1 h2) (g := mkF m pc Ls (.int x :: .int j :: .ref a :: S)) rfl rfl (hb C.2.2.1 hd)
  exact of st (K T1 h1' X1 e1 W1 (Arv.set Ar q1 S1 N1 H1 G1 rfl W1 _ rfl hlen))
theorem castore (X : Stand p l e R s m args below meth c T locs cells slots) (C : Cx p s m meth c Z bytes maxL own mname ret) (eT : T.heap = h) {a : Addr} {k : ClassId} {n j x : Int32} {vs : List Value} {d : Value} (V : Arv Z h a k .char n vs d) (h1 : 0 ≤ j.toInt) (h2 : j.toInt < n.toInt) (hlen : j.toNatClampNeg < vs.length) (hd : decode bytes pc = .ok (.castore, 1)) (hq : pc + 1 = q)
    (K : ∀ (T' : State) (h' : Heap), Stand p l e R s m args below meth c T' (locs ++ [⟨a, j.toNatClampNeg⟩]) cells slots → T'.heap = h' → Wr h h' a j.toNatClampNeg (.int (nar .char x)) → Arv Z h' a k .char n (vs.set j.toNatClampNeg (.int (nar .char x))) d → Go p e below F (T'.setTop (mkF m q Ls S))) : Go p e below F (T.setTop (mkF m pc Ls (.int x :: .int j :: .ref a :: S))) := by
  subst hq
  obtain ⟨cl, Ar, q1, S1, N1, H1, G1⟩ := V
  obtain ⟨T1, h1', X1, e1, W1, st⟩ := stC X C.1 C.2.1 eT Ar (j := j) (inb S1 h1 h2) (g := mkF m pc Ls (.int x :: .int j :: .ref a :: S)) rfl rfl (hb C.2.2.1 hd)
  exact of st (K T1 h1' X1 e1 W1 (Arv.set Ar q1 S1 N1 H1 G1 (fits_nar_char _) W1 _ rfl hlen))
theorem bastore (X : Stand p l e R s m args below meth c T locs cells slots) (C : Cx p s m meth c Z bytes maxL own mname ret) (eT : T.heap = h) {a : Addr} {k : ClassId} {n j x : Int32} {vs : List Value} {d : Value} (V : Arv Z h a k .byte n vs d) (h1 : 0 ≤ j.toInt) (h2 : j.toInt < n.toInt) (hlen : j.toNatClampNeg < vs.length) (hd : decode bytes pc = .ok (.bastore, 1)) (hq : pc + 1 = q)
    (K : ∀ (T' : State) (h' : Heap), Stand p l e R s m args below meth c T' (locs ++ [⟨a, j.toNatClampNeg⟩]) cells slots → T'.heap = h' → Wr h h' a j.toNatClampNeg (.int x.toInt8.toInt32) → Arv Z h' a k .byte n (vs.set j.toNatClampNeg (.int x.toInt8.toInt32)) d → Go p e below F (T'.setTop (mkF m q Ls S))) : Go p e below F (T.setTop (mkF m pc Ls (.int x :: .int j :: .ref a :: S))) := by
  subst hq
  obtain ⟨cl, Ar, q1, S1, N1, H1, G1⟩ := V
  obtain ⟨T1, h1', X1, e1, W1, st⟩ := stB X C.1 C.2.1 eT Ar (j := j) (inb S1 h1 h2) (g := mkF m pc Ls (.int x :: .int j :: .ref a :: S)) rfl rfl (hb C.2.2.1 hd)
  exact of st (K T1 h1' X1 e1 W1 (Arv.set Ar q1 S1 N1 H1 G1 (fits_nar_byte _) W1 _ rfl hlen))
theorem aastore (X : Stand p l e R s m args below meth c T locs cells slots) (C : Cx p s m meth c Z bytes maxL own mname ret) (eT : T.heap = h) {a : Addr} {k : ClassId} {n j : Int32} {x : Value} {vs : List Value} {d : Value} {ty : FieldType} (hty : ty.isReference = true) (hf : fits ty x = true) (V : Arv Z h a k ty n vs d) (hs : ∀ cl, Arr Z h a cl ty → cl.cls = k → Sto Z h a x) (h1 : 0 ≤ j.toInt) (h2 : j.toInt < n.toInt) (hlen : j.toNatClampNeg < vs.length) (hd : decode bytes pc = .ok (.aastore, 1)) (hq : pc + 1 = q)
    (K : ∀ (T' : State) (h' : Heap), Stand p l e R s m args below meth c T' (locs ++ [⟨a, j.toNatClampNeg⟩]) cells slots → T'.heap = h' → Wr h h' a j.toNatClampNeg x → Arv Z h' a k ty n (vs.set j.toNatClampNeg x) d → Go p e below F (T'.setTop (mkF m q Ls S))) : Go p e below F (T.setTop (mkF m pc Ls (x :: .int j :: .ref a :: S))) := by
  subst hq
  obtain ⟨cl, Ar, q1, S1, N1, H1, G1⟩ := V
  obtain ⟨T1, h1', X1, e1, W1, st⟩ := stR X C.1 C.2.1 eT Ar (j := j) (inb S1 h1 h2) hty (hs cl Ar q1) (g := mkF m pc Ls (x :: .int j :: .ref a :: S)) rfl rfl (hb C.2.2.1 hd)
  exact of st (K T1 h1' X1 e1 W1 (Arv.set Ar q1 S1 N1 H1 G1 hf W1 _ rfl hlen))
theorem newarray (X : Stand p l e R s m args below meth c T locs cells slots) (C : Cx p s m meth c Z bytes maxL own mname ret) {aty : ArrayType} (w : (Jvm.Cond.arrayClass (newarray.typeOf aty)).before a0 Z = true) (eT : T.heap = h) {n : Int32} (hn : 0 ≤ n.toInt) (cap : Nat) (hcap : n.toInt ≤ cap) (hb8 : cap * 8 ≤ 536870912) (hd : decode bytes pc = .ok (.newarray aty, 2)) (hc : cells + 1 ≤ R.cells) (hl : slots + cap ≤ R.slots) (hq : pc + 2 = q)
    (K : ∀ (T' : State) (h' : Heap) (b : Addr) (k : ClassId), Stand p l e R s m args below meth c T' locs (cells + 1) (slots + cap) → T'.heap = h' → b = h.size → Ext h h' → Arv Z h' b k (newarray.typeOf aty) n (List.replicate cap (defaultValue (newarray.typeOf aty))) (defaultValue (newarray.typeOf aty)) → Go p e below F (T'.setTop (mkF m q Ls (.ref b :: S)))) : Go p e below F (T.setTop (mkF m pc Ls (.int n :: S))) := by
  subst hq
  have hn' : ¬ n < 0 := by rw [Int32.lt_iff_toInt_lt]; have : (0 : Int32).toInt = 0 := rfl; omega
  obtain ⟨T1, h1, k1, X1, e1, E1, A1, st⟩ := newP X C.1 C.2.1 w eT (g := mkF m pc Ls (.int n :: S)) rfl (hb C.2.2.1 hd) rfl hn' (cap := cap) (by simp only [Int32.toNatClampNeg]; omega) hb8 hc hl
  exact of st (K T1 h1 _ k1 X1 e1 rfl E1 ((Arv.new A1 hn').pad (pad_rep [] _ cap)))
theorem anewarray (X : Stand p l e R s m args below meth c T locs cells slots) (C : Cx p s m meth c Z bytes maxL own mname ret) {i : Nat} {Cn : String} (w1 : (Jvm.Cond.classLink own i Cn).before a0 Z = true) (w2 : (Jvm.Cond.arrayOver (.object Cn)).before a0 Z = true) (eT : T.heap = h) {n : Int32} (hn : 0 ≤ n.toInt) (cap : Nat) (hcap : n.toInt ≤ cap) (hb8 : cap * 8 ≤ 536870912) (hd : decode bytes pc = .ok (.anewarray i, 3)) (hc : cells + 1 ≤ R.cells) (hl : slots + cap ≤ R.slots) (hq : pc + 3 = q)
    (K : ∀ (T' : State) (h' : Heap) (b : Addr) (k : ClassId), Stand p l e R s m args below meth c T' locs (cells + 1) (slots + cap) → T'.heap = h' → b = h.size → Ext h h' → Ovr Z k Cn → Arv Z h' b k (.object Cn) n (List.replicate cap .null) .null → Go p e below F (T'.setTop (mkF m q Ls (.ref b :: S)))) : Go p e below F (T.setTop (mkF m pc Ls (.int n :: S))) := by
  subst hq
  have hn' : ¬ n < 0 := by rw [Int32.lt_iff_toInt_lt]; have : (0 : Int32).toInt = 0 := rfl; omega
  obtain ⟨T1, h1, k1, X1, e1, E1, A1, O1, st⟩ := newR X C.1 C.2.1 C.2.2.2.2.1 w1 w2 eT (g := mkF m pc Ls (.int n :: S)) rfl (hb C.2.2.1 hd) rfl hn' (cap := cap) (by simp only [Int32.toNatClampNeg]; omega) hb8 hc hl
  exact of st (K T1 h1 _ k1 X1 e1 rfl E1 O1 ((Arv.new A1 hn').pad (pad_rep [] _ cap)))
/-! doubles -/
theorem dload (X : Stand p l e R s m args below meth c T locs cells slots) (C : Cx p s m meth c Z bytes maxL own mname ret) {k : Nat} {v : UInt64} (hd : decode bytes pc = .ok (.dload k, 2)) (hl : Ls[k]? = some (.val (.double v))) (hq : pc + 2 = q) (K : Go p e below F (T.setTop (mkF m q Ls (.double v :: S)))) : Go p e below F (T.setTop (mkF m pc Ls S)) := by
  subst hq; exact of (fun t k => XS.dload X.here C.1 rfl (hb C.2.2.1 hd) hl k) K
theorem dloadN (X : Stand p l e R s m args below meth c T locs cells slots) (C : Cx p s m meth c Z bytes maxL own mname ret) {k : Fin 4} {v : UInt64} (hd : decode bytes pc = .ok (.dload_n k, 1)) (hl : Ls[k.val]? = some (.val (.double v))) (hq : pc + 1 = q) (K : Go p e below F (T.setTop (mkF m q Ls (.double v :: S)))) : Go p e below F (T.setTop (mkF m pc Ls S)) := by
  subst hq; exact of (fun t k => XS.dloadN X.here C.1 rfl (hb C.2.2.1 hd) hl k) K
theorem dstore (X : Stand p l e R s m args below meth c T locs cells slots) (C : Cx p s m meth c Z bytes maxL own mname ret) {k : Nat} {v : UInt64} (hd : decode bytes pc = .ok (.dstore k, 2)) (hl : storeLocals Ls k (.double v) = some L') (hq : pc + 2 = q) (K : Go p e below F (T.setTop (mkF m q L' S))) : Go p e below F (T.setTop (mkF m pc Ls (.double v :: S))) := by
  subst hq; exact of (fun t k => XS.dstore X.here C.1 rfl (hb C.2.2.1 hd) rfl hl k) K
theorem dstoreN (X : Stand p l e R s m args below meth c T locs cells slots) (C : Cx p s m meth c Z bytes maxL own mname ret) {k : Fin 4} {v : UInt64} (hd : decode bytes pc = .ok (.dstore_n k, 1)) (hl : storeLocals Ls k.val (.double v) = some L') (hq : pc + 1 = q) (K : Go p e below F (T.setTop (mkF m q L' S))) : Go p e below F (T.setTop (mkF m pc Ls (.double v :: S))) := by
  subst hq; exact of (fun t k => XS.dstoreN X.here C.1 rfl (hb C.2.2.1 hd) rfl hl k) K
theorem dconst0 (X : Stand p l e R s m args below meth c T locs cells slots) (C : Cx p s m meth c Z bytes maxL own mname ret) {v : UInt64} (hd : decode bytes pc = .ok (.dconst 0, 1)) (hv : FP.dconst0 = v) (hq : pc + 1 = q) (K : Go p e below F (T.setTop (mkF m q Ls (.double v :: S)))) : Go p e below F (T.setTop (mkF m pc Ls S)) := by
  subst hq; exact of (fun t k => XS.dconst0 X.here C.1 rfl (hb C.2.2.1 hd) hv k) K
theorem dconst1 (X : Stand p l e R s m args below meth c T locs cells slots) (C : Cx p s m meth c Z bytes maxL own mname ret) {v : UInt64} (hd : decode bytes pc = .ok (.dconst 1, 1)) (hv : FP.dconst1 = v) (hq : pc + 1 = q) (K : Go p e below F (T.setTop (mkF m q Ls (.double v :: S)))) : Go p e below F (T.setTop (mkF m pc Ls S)) := by
  subst hq; exact of (fun t k => XS.dconst1 X.here C.1 rfl (hb C.2.2.1 hd) hv k) K
theorem i2d (X : Stand p l e R s m args below meth c T locs cells slots) (C : Cx p s m meth c Z bytes maxL own mname ret) {x : Int32} {v : UInt64} (hd : decode bytes pc = .ok (.i2d, 1)) (hv : FP.i2d x = v) (hq : pc + 1 = q) (K : Go p e below F (T.setTop (mkF m q Ls (.double v :: S)))) : Go p e below F (T.setTop (mkF m pc Ls (.int x :: S))) := by
  subst hq; exact of (fun t k => XS.i2dS X.here C.1 rfl (hb C.2.2.1 hd) rfl hv k) K
theorem l2d (X : Stand p l e R s m args below meth c T locs cells slots) (C : Cx p s m meth c Z bytes maxL own mname ret) {x : Int64} {v : UInt64} (hd : decode bytes pc = .ok (.l2d, 1)) (hv : FP.l2d x = v) (hq : pc + 1 = q) (K : Go p e below F (T.setTop (mkF m q Ls (.double v :: S)))) : Go p e below F (T.setTop (mkF m pc Ls (.long x :: S))) := by
  subst hq; exact of (fun t k => XS.l2dS X.here C.1 rfl (hb C.2.2.1 hd) rfl hv k) K
theorem dcmp (X : Stand p l e R s m args below meth c T locs cells slots) (C : Cx p s m meth c Z bytes maxL own mname ret) {o : CmpOp} {x y : UInt64} {v : Int32} (hd : decode bytes pc = .ok (.dcmp o, 1)) (hv : cmpValue (FP.dcmp x y) o = v) (hq : pc + 1 = q) (K : Go p e below F (T.setTop (mkF m q Ls (.int v :: S)))) : Go p e below F (T.setTop (mkF m pc Ls (.double y :: .double x :: S))) := by
  subst hq; exact of (fun t k => XS.dcmpS X.here C.1 rfl (hb C.2.2.1 hd) rfl hv k) K
theorem dadd (X : Stand p l e R s m args below meth c T locs cells slots) (C : Cx p s m meth c Z bytes maxL own mname ret) {x y v : UInt64} (hd : decode bytes pc = .ok (.dadd, 1)) (hn : Jvm.Free.Fl.NoNaN64 v) (hv : FP.dadd x y = v) (hq : pc + 1 = q) (K : Go p e below F (T.setTop (mkF m q Ls (.double v :: S)))) : Go p e below F (T.setTop (mkF m pc Ls (.double y :: .double x :: S))) := by
  subst hq; exact of (fun t k => XS.daddS X.here C.1 rfl (hb C.2.2.1 hd) rfl (hv ▸ hn) hv k) K
theorem dsub (X : Stand p l e R s m args below meth c T locs cells slots) (C : Cx p s m meth c Z bytes maxL own mname ret) {x y v : UInt64} (hd : decode bytes pc = .ok (.dsub, 1)) (hn : Jvm.Free.Fl.NoNaN64 v) (hv : FP.dsub x y = v) (hq : pc + 1 = q) (K : Go p e below F (T.setTop (mkF m q Ls (.double v :: S)))) : Go p e below F (T.setTop (mkF m pc Ls (.double y :: .double x :: S))) := by
  subst hq; exact of (fun t k => XS.dsubS X.here C.1 rfl (hb C.2.2.1 hd) rfl (hv ▸ hn) hv k) K
theorem dmul (X : Stand p l e R s m args below meth c T locs cells slots) (C : Cx p s m meth c Z bytes maxL own mname ret) {x y v : UInt64} (hd : decode bytes pc = .ok (.dmul, 1)) (hn : Jvm.Free.Fl.NoNaN64 v) (hv : FP.dmul x y = v) (hq : pc + 1 = q) (K : Go p e below F (T.setTop (mkF m q Ls (.double v :: S)))) : Go p e below F (T.setTop (mkF m pc Ls (.double y :: .double x :: S))) := by
  subst hq; exact of (fun t k => XS.dmulS X.here C.1 rfl (hb C.2.2.1 hd) rfl (hv ▸ hn) hv k) K
theorem ddiv (X : Stand p l e R s m args below meth c T locs cells slots) (C : Cx p s m meth c Z bytes maxL own mname ret) {x y v : UInt64} (hd : decode bytes pc = .ok (.ddiv, 1)) (hn : Jvm.Free.Fl.NoNaN64 v) (hv : FP.ddiv x y = v) (hq : pc + 1 = q) (K : Go p e below F (T.setTop (mkF m q Ls (.double v :: S)))) : Go p e below F (T.setTop (mkF m pc Ls (.double y :: .double x :: S))) := by
  subst hq; exact of (fun t k => XS.ddivS X.here C.1 rfl (hb C.2.2.1 hd) rfl (hv ▸ hn) hv k) K
theorem ldcD (X : Stand p l e R s m args below meth c T locs cells slots) (C : Cx p s m meth c Z bytes maxL own mname ret) {i : Nat} {v : UInt64} (w : (Jvm.Cond.constantDouble own i v).before a0 Z = true) (hd : decode bytes pc = .ok (.ldc2_w i, 3)) (hq : pc + 3 = q) (K : Go p e below F (T.setTop (mkF m q Ls (.double v :: S)))) : Go p e below F (T.setTop (mkF m pc Ls S)) := by
  subst hq; exact of (X.ldc2DoubleC C.1 C.2.2.2.2.1 (mvT C.2.1 w) (g := mkF m pc Ls S) rfl (hb C.2.2.1 hd)) K
theorem retD (X : Stand p l e R s m args below meth c T locs cells slots) (C : Cx p s m meth c Z bytes maxL own mname (some .double)) (eT : T.heap = h) {z : UInt64} (hd : decode bytes pc = .ok (.dreturn, 1)) {k n : Nat} (hk : cells ≤ k) (hn : slots ≤ n) {Q : Option Value → Heap → List Loc → Prop} (hQ : Q (some (.double z)) h locs) :
    Go p e below (Post s Q k n) (T.setTop (mkF m pc Ls (.double z :: rest))) := by
  obtain ⟨hx, hZ, hby, hml, hown, hnm, hret, hlk⟩ := C
  obtain ⟨fs, hr, hrun, hended, hW, hsame⟩ := X.leave (v := some (.double z)) (fun h => by rw [hret] at h; cases h)
  refine ⟨_, _, retOut X hx hret rfl (Or.inr (Or.inr (Or.inl ⟨rfl, rfl, z, rfl⟩))) (hb hby hd) hr, hrun, hended, _, _, rfl, ?_, ⟨_, rfl⟩, hW, hsame.mono hk hn⟩
  show Q _ T.heap _
  rw [eT]; exact hQ
theorem keepRefl (h : Heap) : Keep h h [] := Keep.refl h []
/-! kinds of objects -/
theorem nsRoot {O Kn : String} {n : Nat} (w : (Jvm.Cond.noSuperclass O).before a0 Z = true) (wi : (Jvm.Cond.instantiable Kn n).before a0 Z = true) (hn : O ≠ Kn) : NS Z O Kn := by
  obtain ⟨c, k, h1, h2, h3, -, -⟩ := Cond.noSuperclass_spec w
  obtain ⟨t, k2, g1, -⟩ := Cond.instantiable_spec wi
  have ne := ids_ne h1 g1 hn
  refine ⟨c, t, h1, g1, fun fuel => ?_⟩
  cases fuel with
  | zero => rfl
  | succ f => simp [Vm.isSubclassAux, ne, h2, h3]
theorem nsNo {Cn S Kn : String} {n : Nat} (w : (Jvm.Cond.superclass Cn S).before a0 Z = true) (wi : (Jvm.Cond.instantiable Kn n).before a0 Z = true) (nn : NS Z Cn Kn) (hn : Cn ≠ Kn) : ∃ c t, Z.vm.findClass Cn = some c ∧ Z.vm.findClass Kn = some t ∧ Z.vm.assignable c t = false := by
  obtain ⟨c, t, h0, g0, n3⟩ := nn
  obtain ⟨p, k, kp, h1, h2, h3, h4, h5, -, h7⟩ := Cond.superclass_spec h0 w
  obtain ⟨t', k', g1, g2, g5, g6, -⟩ := Cond.instantiable_spec wi
  cases g0.symm.trans g1
  have g7 : k'.isInterface = false := (Bool.or_eq_false_iff.mp g6).1
  have ne := ids_ne h0 g0 hn
  refine ⟨c, t, h0, g0, ?_⟩
  show Z.vm.assignableAux (255 + 1) c t = false
  simp [Vm.assignableAux, ne, h2, g2, h5, g5, g7, Vm.isSubclass, n3]
theorem cast (X : Stand p l e R s m args below meth c T locs cells slots) (C : Cx p s m meth c Z bytes maxL own mname ret) {i : Nat} {Kn : String} (w : (Jvm.Cond.classLink own i Kn).before a0 Z = true) (eT : T.heap = h) {a : Addr} (I : Ins Z h a Kn true) (hd : decode bytes pc = .ok (.checkcast i, 3)) (hq : pc + 3 = q)
    (K : ∀ (T' : State), Stand p l e R s m args below meth c T' locs cells slots → T'.heap = h → Go p e below F (T'.setTop (mkF m q Ls (.ref a :: S)))) : Go p e below F (T.setTop (mkF m pc Ls (.ref a :: S))) := by
  subst hq
  obtain ⟨T1, X1, e1, st⟩ := castY X C.1 C.2.1 C.2.2.2.2.1 w eT I (g := mkF m pc Ls (.ref a :: S)) rfl rfl (hb C.2.2.1 hd)
  exact of st (K T1 X1 e1)
theorem inst1 (X : Stand p l e R s m args below meth c T locs cells slots) (C : Cx p s m meth c Z bytes maxL own mname ret) {i : Nat} {Kn : String} (w : (Jvm.Cond.classLink own i Kn).before a0 Z = true) (eT : T.heap = h) {a : Addr} (I : Ins Z h a Kn true) (hd : decode bytes pc = .ok (.instanceof i, 3)) (hq : pc + 3 = q)
    (K : ∀ (T' : State), Stand p l e R s m args below meth c T' locs cells slots → T'.heap = h → Go p e below F (T'.setTop (mkF m q Ls (.int 1 :: S)))) : Go p e below F (T.setTop (mkF m pc Ls (.ref a :: S))) := by
  subst hq
  obtain ⟨T1, X1, e1, st⟩ := instY X C.1 C.2.1 C.2.2.2.2.1 w eT I (g := mkF m pc Ls (.ref a :: S)) rfl rfl (hb C.2.2.1 hd)
  exact of st (K T1 X1 e1)
theorem inst0 (X : Stand p l e R s m args below meth c T locs cells slots) (C : Cx p s m meth c Z bytes maxL own mname ret) {i : Nat} {Kn Cn : String} (w : (Jvm.Cond.classLink own i Kn).before a0 Z = true) (eT : T.heap = h) {a : Addr} (E : Exa Z h a Cn) (N : ∃ c t, Z.vm.findClass Cn = some c ∧ Z.vm.findClass Kn = some t ∧ Z.vm.assignable c t = false) (hd : decode bytes pc = .ok (.instanceof i, 3)) (hq : pc + 3 = q)
    (K : ∀ (T' : State), Stand p l e R s m args below meth c T' locs cells slots → T'.heap = h → Go p e below F (T'.setTop (mkF m q Ls (.int 0 :: S)))) : Go p e below F (T.setTop (mkF m pc Ls (.ref a :: S))) := by
  subst hq
  obtain ⟨T1, X1, e1, st⟩ := instNo X C.1 C.2.1 C.2.2.2.2.1 w eT E N (g := mkF m pc Ls (.ref a :: S)) rfl rfl (hb C.2.2.1 hd)
  exact of st (K T1 X1 e1)
theorem instNull (X : Stand p l e R s m args below meth c T locs cells slots) (C : Cx p s m meth c Z bytes maxL own mname ret) {i : Nat} (hd : decode bytes pc = .ok (.instanceof i, 3)) (hq : pc + 3 = q) (K : Go p e below F (T.setTop (mkF m q Ls (.int 0 :: S)))) : Go p e below F (T.setTop (mkF m pc Ls (.null :: S))) := by
  subst hq; exact of (X.instanceofNull C.1 (g := mkF m pc Ls (.null :: S)) rfl rfl (hb C.2.2.1 hd)) K
theorem castNull (X : Stand p l e R s m args below meth c T locs cells slots) (C : Cx p s m meth c Z bytes maxL own mname ret) {i : Nat} (hd : decode bytes pc = .ok (.checkcast i, 3)) (hq : pc + 3 = q) (K : Go p e below F (T.setTop (mkF m q Ls (.null :: S)))) : Go p e below F (T.setTop (mkF m pc Ls (.null :: S))) := by
  subst hq; exact of (X.checkcastNull C.1 (g := mkF m pc Ls (.null :: S)) rfl rfl (hb C.2.2.1 hd)) K
theorem acmp (X : Stand p l e R s m args below meth c T locs cells slots) (C : Cx p s m meth c Z bytes maxL own mname ret) {cd : ACond} {o : Int} {x y : Value} (h1 : x.isRef = true) (h2 : y.isRef = true) {same : Bool} (hs : decide (x = y) = same) (hd : decode bytes pc = .ok (.if_acmp cd o, 3)) (ho : 0 ≤ (pc : Int) + o) (hq : q = if acV cd same = true then ((pc : Int) + o).toNat else pc + 3) (K : Go p e below F (T.setTop (mkF m q Ls S))) : Go p e below F (T.setTop (mkF m pc Ls (y :: x :: S))) :=
  of (fun t k => Jvm.RoadKit.acmp (g := mkF m pc Ls (y :: x :: S)) X C.1 rfl h1 h2 rfl (hb C.2.2.1 hd) rfl hs ho hq k) K
end
end W
end Jvm.Pilot.@@N@@
namespace Jvm.Pilot.@@N@@
open Jvm Jvm.ClassFile Sem Op Lib Jvm.Free Jvm.Stand Jvm.LawKit Jvm.RoadKit Bundle Jvm.Pilot.@@N@@.Jvm.D
section
open Jvm.FP.Core
def own_dd (d : Datum) (N : Nat) : Prop := (N = 0 ∧ d = .fin false 0 b64.qmin) ∨ ∃ c j : Nat, d = .fin false c ((j : Int) - 52) ∧ 2 ^ 52 ≤ c ∧ c < 2 ^ 53 ∧ j ≤ 900 ∧ c * 2 ^ j = N * 2 ^ 52
def own_rep (N : Nat) : Prop := ∃ M k : Nat, N = M * 2 ^ k ∧ M < 2 ^ 53 ∧ k ≤ 800
theorem own_qmin : b64.qmin = -1074 := by decide
theorem own_qmax : b64.qmax = 971 := by decide
theorem own_tails : b64.tails = 2 ^ 52 := by decide
theorem own_p53 : b64.p = 53 := by decide
theorem own_fits {c j : Nat} (h1 : 2 ^ 52 ≤ c) (h2 : c < 2 ^ 53) (hj : j ≤ 900) : FP.Core.fits b64 (.fin false c ((j : Int) - 52)) := by
  refine ⟨by rw [own_p53]; exact h2, by rw [own_qmin]; omega, by rw [own_qmax]; omega, Or.inr (by rw [own_tails]; exact h1)⟩
theorem own_norm {M : Nat} (h0 : 0 < M) (h : M < 2 ^ 53) : ∃ t, t ≤ 52 ∧ 2 ^ 52 ≤ M * 2 ^ t ∧ M * 2 ^ t < 2 ^ 53 := by
  have a1 : 2 ^ M.log2 ≤ M := Nat.log2_self_le (by omega)
  have a2 : M < 2 ^ (M.log2 + 1) := Nat.lt_log2_self
  have a3 : M.log2 < 53 := (Nat.pow_lt_pow_iff_right (by decide : 1 < 2)).mp (Nat.lt_of_le_of_lt a1 h)
  refine ⟨52 - M.log2, by omega, ?_, ?_⟩
  · have e : (2 : Nat) ^ 52 = 2 ^ M.log2 * 2 ^ (52 - M.log2) := by rw [← Nat.pow_add]; congr 1; omega
    rw [e]; exact Nat.mul_le_mul_right _ a1
  · have e : (2 : Nat) ^ 53 = 2 ^ (M.log2 + 1) * 2 ^ (52 - M.log2) := by rw [← Nat.pow_add]; congr 1; omega
    rw [e]; exact Nat.mul_lt_mul_of_pos_right a2 (Nat.two_pow_pos _)
theorem own_round {N A j s : Nat} (hN : own_rep N) (h : A * 2 ^ j = N * 2 ^ s) : own_dd (round b64 (.fin false A ((j : Int) - s))) N := by
  obtain ⟨M, k, rfl, hM, hk⟩ := hN
  rcases Nat.eq_zero_or_pos M with rfl | hp
  · have hA : A = 0 := by
      rw [Nat.zero_mul, Nat.zero_mul] at h
      exact (Nat.mul_eq_zero.mp h).resolve_right (Nat.ne_of_gt (Nat.two_pow_pos _))
    subst hA
    exact Or.inl ⟨Nat.zero_mul _, rfl⟩
  · obtain ⟨t, ht, c1, c2⟩ := own_norm hp hM
    refine Or.inr ⟨M * 2 ^ t, k + 52 - t, ?_, c1, c2, by omega, ?_⟩
    · show roundRatio b64 false A 1 ((j : Int) - s) = _
      refine roundRatio_exact good_b64 (by decide) (own_fits c1 c2 (by omega)) ?_
      generalize hu : (((j : Int) - s) - (((k + 52 - t : Nat) : Int) - 52)).toNat = u
      generalize hv : ((((k + 52 - t : Nat) : Int) - 52) - ((j : Int) - s)).toNat = v
      have e1 : u + s + (k + 52 - t) = v + j + 52 := by omega
      refine Nat.eq_of_mul_eq_mul_right (Nat.two_pow_pos (j + (k + 52 - t) + s)) ?_
      have l1 : A * 2 ^ u * 2 ^ (j + (k + 52 - t) + s) = (A * 2 ^ j) * 2 ^ (u + s + (k + 52 - t)) := by
        rw [Nat.mul_assoc, Nat.mul_assoc, ← Nat.pow_add, ← Nat.pow_add]; congr 2; omega
      have l2 : M * 2 ^ t * 1 * 2 ^ v * 2 ^ (j + (k + 52 - t) + s) = M * 2 ^ k * 2 ^ s * 2 ^ (v + j + 52) := by
        rw [Nat.mul_one, Nat.mul_assoc, Nat.mul_assoc, Nat.mul_assoc, Nat.mul_assoc, ← Nat.pow_add, ← Nat.pow_add, ← Nat.pow_add, ← Nat.pow_add]; congr 2; omega
      rw [l1, l2, h, e1]
    · rw [Nat.mul_assoc, Nat.mul_assoc, ← Nat.pow_add, ← Nat.pow_add]; congr 2; omega
theorem own_round0 {s : Bool} {q : Int} (hs : s = false) : own_dd (round b64 (.fin s 0 q)) 0 := by subst hs; exact Or.inl ⟨rfl, rfl⟩
theorem own_mul {d e : Datum} {N K : Nat} (hd : own_dd d N) (he : own_dd e K) (hr : own_rep (N * K)) : own_dd (round b64 (exactProduct d e)) (N * K) := by
  rcases hd with ⟨rfl, rfl⟩ | ⟨c, j, rfl, c1, c2, c3, c4⟩ <;> rcases he with ⟨rfl, rfl⟩ | ⟨c', j', rfl, d1, d2, d3, d4⟩
  · exact own_round0 rfl
  · rw [Nat.zero_mul]; show own_dd (round b64 (.fin _ (0 * c') _)) 0; rw [Nat.zero_mul]; exact own_round0 rfl
  · exact own_round0 rfl
  · show own_dd (round b64 (.fin false (c * c') (((j : Int) - 52) + ((j' : Int) - 52)))) _
    rw [show (((j : Int) - 52) + ((j' : Int) - 52)) = (((j + j' : Nat) : Int) - (104 : Nat)) by omega]
    refine own_round hr ?_
    calc c * c' * 2 ^ (j + j') = (c * 2 ^ j) * (c' * 2 ^ j') := by rw [Nat.pow_add, Nat.mul_mul_mul_comm]
      _ = N * K * (2 ^ 52 * 2 ^ 52) := by rw [c4, d4, Nat.mul_mul_mul_comm]
      _ = N * K * 2 ^ 104 := rfl
theorem own_sum {c j c' j' N K : Nat} {q r : Int} (hr : own_rep (N + K)) (hq : -1074 ≤ q) (hr' : -1074 ≤ r) (h1 : c * 2 ^ (q + 1074).toNat = N * 2 ^ 1074) (h2 : c' * 2 ^ (r + 1074).toNat = K * 2 ^ 1074) : own_dd (round b64 (exactSum (.fin false c q) (.fin false c' r))) (N + K) := by
  have hA : sumUnits false c q false c' r (min q r) = ((c * 2 ^ (q - min q r).toNat + c' * 2 ^ (r - min q r).toNat : Nat) : Int) := rfl
  show own_dd (round b64 (.fin (sumSign false false (sumUnits false c q false c' r (min q r))) (sumUnits false c q false c' r (min q r)).natAbs (min q r))) _
  rw [hA, Int.natAbs_natCast]
  have hs : sumSign false false ((c * 2 ^ (q - min q r).toNat + c' * 2 ^ (r - min q r).toNat : Nat) : Int) = false := by
    unfold sumSign; split
    · rfl
    · exact decide_eq_false (by omega)
  rw [hs, show min q r = (((min q r + 1074).toNat : Nat) : Int) - (1074 : Nat) by omega]
  refine own_round hr ?_
  rw [Nat.add_mul, Nat.add_mul, Nat.mul_assoc, Nat.mul_assoc, ← Nat.pow_add, ← Nat.pow_add, ← h1, ← h2]
  congr 3 <;> omega
theorem own_dd.std {d : Datum} {N : Nat} (h : own_dd d N) : ∃ c q, d = .fin false c q ∧ -1074 ≤ q ∧ c * 2 ^ (q + 1074).toNat = N * 2 ^ 1074 := by
  rcases h with ⟨rfl, rfl⟩ | ⟨c, j, rfl, c1, c2, c3, c4⟩
  · exact ⟨0, _, rfl, by rw [own_qmin]; omega, by rw [Nat.zero_mul, Nat.zero_mul]⟩
  · refine ⟨c, _, rfl, by omega, ?_⟩
    rw [show (((j : Int) - 52) + 1074).toNat = j + 1022 by omega, Nat.pow_add, ← Nat.mul_assoc, c4, Nat.mul_assoc, ← Nat.pow_add]
theorem own_add {d e : Datum} {N K : Nat} (hd : own_dd d N) (he : own_dd e K) (hr : own_rep (N + K)) : own_dd (round b64 (exactSum d e)) (N + K) := by
  obtain ⟨c, q, rfl, a1, a2⟩ := hd.std
  obtain ⟨c', r, rfl, b1, b2⟩ := he.std
  exact own_sum (j := 0) (j' := 0) hr a1 b1 a2 b2
def own_d (x : UInt64) (N : Nat) : Prop := own_dd (val64 x) N
theorem own_dmul {x y : UInt64} {N K : Nat} (hx : own_d x N) (hy : own_d y K) (hr : own_rep (N * K)) : own_d (dmul x y) (N * K) := by
  unfold own_d; rw [val64_dmul]; exact own_mul hx hy hr
theorem own_dadd {x y : UInt64} {N K : Nat} (hx : own_d x N) (hy : own_d y K) (hr : own_rep (N + K)) : own_d (dadd x y) (N + K) := by
  unfold own_d; rw [val64_dadd]; exact own_add hx hy hr
theorem own_nan {x : UInt64} {N : Nat} (h : own_d x N) : val64 x ≠ .nan := by
  obtain ⟨c, q, e, -⟩ := own_dd.std h; rw [e]; exact Datum.noConfusion
theorem own_nn {x : UInt64} {N : Nat} (h : own_d x N) : dIsNaN x = false := (notNaN_iff x).mpr (own_nan h)
theorem own_zv {x : UInt64} {N : Nat} (h : own_d x N) : zval b64 (val64 x) = ((N * 2 ^ 1074 : Nat) : Int) := by
  obtain ⟨c, q, e, a1, a2⟩ := own_dd.std h
  rw [e, ← a2]
  show signed false (inUnits c q b64.qmin) = _
  rw [own_qmin]
  show ((c * 2 ^ (q - -1074).toNat : Nat) : Int) = _
  rw [show q - -1074 = q + 1074 by omega]
theorem own_cmp {x y : UInt64} {N : Nat} (hx : own_d x N) (hy : own_d y N) : dcmp x y = some .eq := by
  rw [dcmp_zval (own_nan hx) (own_nan hy), own_zv hx, own_zv hy, compare_ite, if_neg (Int.lt_irrefl _), if_pos rfl]
theorem own_l2d {a : Int64} {N : Nat} (h : a.toInt = N) (hr : own_rep N) : own_d (l2d a) N := by
  unfold own_d; rw [val64_l2d, h]
  have : ofInt (N : Int) = .fin false N (((0 : Nat) : Int) - (0 : Nat)) := by
    unfold ofInt; rw [decide_eq_false (by omega)]; rfl
  rw [this]; exact own_round hr (by rw [Nat.pow_zero])
theorem own_rep53 {N : Nat} (h : N ≤ 2 ^ 53) : own_rep N := by
  by_cases e : N = 2 ^ 53
  · exact ⟨1, 53, by rw [e, Nat.one_mul], by decide, by decide⟩
  · exact ⟨N, 0, by rw [Nat.pow_zero, Nat.mul_one], by omega, by decide⟩
theorem own_rep.shl {N : Nat} (h : N ≤ 2 ^ 53) {k : Nat} (hk : k ≤ 700) : own_rep (N * 2 ^ k) := by
  by_cases e : N = 2 ^ 53
  · exact ⟨1, 53 + k, by rw [e, Nat.one_mul, Nat.pow_add], by decide, by omega⟩
  · exact ⟨N, k, rfl, by omega, by omega⟩
theorem own_near {A k : Nat} (h1 : 2 ^ (52 + k) ≤ A) (h2 : A < 2 ^ (53 + k)) : 2 ^ 52 ≤ nearest A (2 ^ k) ∧ nearest A (2 ^ k) ≤ 2 ^ 53 := by
  refine ⟨nearest_ge (Nat.two_pow_pos _) ?_, nearest_le (Nat.two_pow_pos _) ?_⟩
  · rw [← Nat.pow_add]; exact h1
  · rw [← Nat.pow_add]; exact Nat.le_of_lt h2
theorem own_rnd {A k : Nat} (hk : k ≤ 20) (h1 : 2 ^ (52 + k) ≤ A) (h2 : A < 2 ^ (53 + k)) : own_dd (round b64 (.fin false A 0)) (nearest A (2 ^ k) * 2 ^ k) := by
  have hA : 0 < A := Nat.lt_of_lt_of_le (Nat.two_pow_pos _) h1
  obtain ⟨n1, n2⟩ := own_near h1 h2
  have hq : quantum b64 A 1 0 = (k : Int) := by
    refine quantum_eq hA (by decide) (by rw [own_qmin]; omega) ?_ (Or.inr ?_)
    · rw [show (k : Int) - 0 + (b64.p : Int) = ((53 + k : Nat) : Int) - (0 : Nat) by rw [own_p53]; omega, below_iff]
      rw [Nat.pow_zero, Nat.mul_one, Nat.one_mul]; exact h2
    · rw [show (k : Int) - 0 + ((b64.p : Int) - 1) = ((52 + k : Nat) : Int) - (0 : Nat) by rw [own_p53]; omega, below_iff]
      rw [Nat.pow_zero, Nat.mul_one, Nat.one_mul]; omega
  have hr : round b64 (.fin false A 0) = settle b64 false (nearest A (2 ^ k)) k := by
    show roundRatio b64 false A 1 0 = _
    unfold roundRatio
    rw [if_neg (by omega), hq]
    unfold roundAt unitsNum unitsDen
    rw [show ((0 : Int) - (k : Int)).toNat = 0 by omega, show ((k : Int) - 0).toNat = k by omega, Nat.pow_zero, Nat.mul_one, Nat.one_mul]
  rw [hr]
  unfold settle
  rw [own_p53]
  split
  · rename_i hc
    unfold bound
    rw [if_pos (by rw [own_qmax]; omega)]
    refine Or.inr ⟨_, k + 52, ?_, n1, hc, by omega, ?_⟩
    · rw [show (((k + 52 : Nat) : Int) - 52) = (k : Int) by omega]
    · rw [Nat.pow_add, Nat.mul_assoc]
  · rename_i hc
    have e : nearest A (2 ^ k) = 2 ^ 53 := by omega
    unfold bound
    rw [if_pos (by rw [own_qmax]; omega), own_tails, e]
    refine Or.inr ⟨2 ^ 52, k + 53, ?_, by decide, by decide, by omega, ?_⟩
    · rw [show (((k + 53 : Nat) : Int) - 52) = (k : Int) + 1 by omega]
    · rw [← Nat.pow_add, ← Nat.pow_add, ← Nat.pow_add]; congr 1; omega
theorem own_l2dr {a : Int64} {A k : Nat} (h : a.toInt = A) (hk : k ≤ 20) (h1 : 2 ^ (52 + k) ≤ A) (h2 : A < 2 ^ (53 + k)) : own_d (l2d a) (nearest A (2 ^ k) * 2 ^ k) := by
  unfold own_d; rw [val64_l2d, h]
  have : ofInt (A : Int) = .fin false A 0 := by
    unfold ofInt; rw [decide_eq_false (by omega)]; rfl
  rw [this]; exact own_rnd hk h1 h2
theorem own_l2d_ex {a : Int64} (h : 0 ≤ a.toInt) : ∃ N, own_d (l2d a) N ∧ own_rep N := by
  obtain ⟨A, hA⟩ := Int.eq_ofNat_of_zero_le h
  by_cases h53 : A ≤ 2 ^ 53
  · exact ⟨A, own_l2d hA (own_rep53 h53), own_rep53 h53⟩
  · have hlt : A < 2 ^ 63 := by have := Int64.toInt_lt a; omega
    have a0 : A ≠ 0 := by omega
    have a1 : 2 ^ A.log2 ≤ A := Nat.log2_self_le a0
    have a2 : A < 2 ^ (A.log2 + 1) := Nat.lt_log2_self
    have a3 : A.log2 < 63 := (Nat.pow_lt_pow_iff_right (by decide : 1 < 2)).mp (Nat.lt_of_le_of_lt a1 hlt)
    have a4 : 53 < A.log2 + 1 := (Nat.pow_lt_pow_iff_right (by decide : 1 < 2)).mp (Nat.lt_trans (by omega : 2 ^ 53 < A) a2)
    have e1 : 52 + (A.log2 - 52) = A.log2 := by omega
    have e2 : 53 + (A.log2 - 52) = A.log2 + 1 := by omega
    have b1 : 2 ^ (52 + (A.log2 - 52)) ≤ A := by rw [e1]; exact a1
    have b2 : A < 2 ^ (53 + (A.log2 - 52)) := by rw [e2]; exact a2
    exact ⟨_, own_l2dr hA (by omega) b1 b2, own_rep.shl (own_near b1 b2).2 (by omega)⟩
theorem own_c64 : own_d 4895412794951729152 (2 ^ 64) := Or.inr ⟨2 ^ 52, 64, by decide +kernel, by decide, by decide, by decide, by decide +kernel⟩
theorem own_c2 : own_d 4611686018427387904 2 := Or.inr ⟨2 ^ 52, 1, by decide +kernel, by decide, by decide, by decide, by decide +kernel⟩
theorem own_c2048 : own_d 4656722014701092864 2048 := Or.inr ⟨2 ^ 52, 11, by decide +kernel, by decide, by decide, by decide, by decide +kernel⟩
theorem own_c62 : own_d 4886405595696988160 (2 ^ 62) := Or.inr ⟨2 ^ 52, 62, by decide +kernel, by decide, by decide, by decide, by decide +kernel⟩
/-- the sticky bit: rounding at 2^10 of ((L >>> 1) | (L & 1)) -/
theorem own_stick {L H q r : Nat} (hH : H = L / 2 ∧ L % 2 = 0 ∨ H = 2 * (L / 4) + 1 ∧ L % 2 = 1) (hq : q = L / 2048) (hr : r = L % 2048) : nearest H 1024 = if 1024 < r ∨ (r = 1024 ∧ q % 2 = 1) then q + 1 else q := by
  unfold nearest
  rcases hH with ⟨h1, h2⟩ | ⟨h1, h2⟩
  · split
    · rw [if_neg (by omega)]; omega
    · split
      · rw [if_pos (by omega)]; omega
      · by_cases o : q % 2 = 1
        · rw [if_pos (by omega)]; omega
        · rw [if_neg (by omega)]; omega
  · split
    · rw [if_neg (by omega)]; omega
    · split
      · rw [if_pos (by omega)]; omega
      · omega
theorem own_bv {q : Int32} (h : 0 ≤ q.toInt) : q.toBitVec.toNat = q.toInt.toNat := by
  have e : q.toInt = q.toBitVec.toInt := rfl
  rw [e] at h ⊢
  rw [BitVec.toInt_eq_toNat_cond] at h ⊢
  have := q.toBitVec.isLt
  split at h <;> rename_i hh
  · rw [if_pos hh]; omega
  · omega
theorem own_bv2 {q : Int32} {n : Nat} (h : q.toInt = n) (hn : n < 64) : q.toBitVec.toNat % 64 = n := by
  rw [own_bv (by omega), h]; omega
/-- 1 << n -/
theorem own_shl {x : Int64} {q : Int32} {S n : Nat} (hx : x.toInt = S) (hq : q.toInt = n) (hn : n < 64) (hb : S * 2 ^ n < 2 ^ 63) : (x <<< (q &&& 0x3f).toInt64).toInt = (S * 2 ^ n : Nat) := by
  have a := c_lshl x q n (own_bv2 hq hn)
  rw [hx] at a
  have e : (S : Int) * ((2 ^ n : Nat) : Int) = ((S * 2 ^ n : Nat) : Int) := (Int.natCast_mul _ _).symm
  rw [e] at a
  have l1 := Int64.toInt_lt (x <<< (q &&& 0x3f).toInt64)
  have l2 := Int64.le_toInt (x <<< (q &&& 0x3f).toInt64)
  generalize (x <<< (q &&& 0x3f).toInt64).toInt = y at *
  generalize S * 2 ^ n = z at *
  omega
theorem own_shlU {x : Int64} {q : Int32} {S n : Nat} (hx : x.toInt = S) (hq : q.toInt = n) (hn : n < 64) : ((x <<< (q &&& 0x3f).toInt64).toInt - ((S * 2 ^ n : Nat) : Int)) % 18446744073709551616 = 0 := by
  have a := c_lshl x q n (own_bv2 hq hn)
  rw [hx] at a
  have e : (S : Int) * ((2 ^ n : Nat) : Int) = ((S * 2 ^ n : Nat) : Int) := (Int.natCast_mul _ _).symm
  rw [e] at a; exact a
def own_h (p : Int64) : Int64 := ((p.toUInt64 >>> ((1 : Int32) &&& 0x3f).toInt64.toUInt64).toInt64) ||| (p &&& (1 : Int64))
/-- the low word halved, its last bit kept -/
theorem own_hval {p : Int64} (hp : p.toInt < 0) {L : Nat} (hL : (L : Int) = p.toInt + 18446744073709551616) : ∃ H : Nat, (own_h p).toInt = H ∧ (H = L / 2 ∧ L % 2 = 0 ∨ H = 2 * (L / 4) + 1 ∧ L % 2 = 1) ∧ 2 ^ 62 ≤ H ∧ H < 2 ^ 63 := by
  have a1 := c_lushr p 1 1 (by decide) (by decide)
  have a2 := c_maskL p 1 1 (by decide) (by decide)
  have b0 := Int64.le_toInt p
  have a1' : ((p.toUInt64 >>> ((1 : Int32) &&& 0x3f).toInt64.toUInt64).toInt64).toInt = ((L / 2 : Nat) : Int) := by rw [a1]; omega
  unfold own_h
  generalize ((p.toUInt64 >>> ((1 : Int32) &&& 0x3f).toInt64.toUInt64).toInt64) = u at *
  have a2' : (p &&& (1 : Int64)).toInt = ((L % 2 : Nat) : Int) := by rw [a2]; omega
  generalize (p &&& (1 : Int64)) = w at *
  have l1 := Int64.toInt_lt (u ||| w)
  have l2 := Int64.le_toInt (u ||| w)
  rcases Nat.mod_two_eq_zero_or_one L with hz | hz
  · have hw : w = 0 := Int64.toInt_inj.mp (by rw [a2', hz]; rfl)
    rw [hw, Int64.or_zero]
    exact ⟨L / 2, a1', Or.inl ⟨rfl, hz⟩, by omega, by omega⟩
  · have hw : w = 1 := Int64.toInt_inj.mp (by rw [a2', hz]; rfl)
    subst hw
    by_cases ho : L / 2 % 2 = 0
    · have a3 := c_orL u 1 1 (by decide) 2 rfl (by rw [a1']; omega) (by decide) (by decide)
      have e1 : (1 : Int64).toInt = 1 := rfl
      refine ⟨2 * (L / 4) + 1, ?_, Or.inr ⟨rfl, hz⟩, by omega, by omega⟩
      rw [a1', e1] at a3
      omega
    · refine ⟨2 * (L / 4) + 1, ?_, Or.inr ⟨rfl, hz⟩, by omega, by omega⟩
      have a4 := c_maskL u 1 1 (by decide) (by decide)
      have hu1 : u &&& 1 = 1 := Int64.toInt_inj.mp (by rw [a4, a1']; have : (1 : Int64).toInt = 1 := rfl; omega)
      have : u ||| 1 = u := by
        have : u ||| (u &&& 1) = u := by
          apply Int64.toBitVec_inj.mp
          show u.toBitVec ||| (u.toBitVec &&& (1 : Int64).toBitVec) = u.toBitVec
          ext i hi
          simp
          intro q _; exact q
        rw [hu1] at this; exact this
      rw [this, a1']; omega
/-- a contract's premises, low word -/
def own_lo (p : Int64) (W H : Nat) : Prop := (0 ≤ p.toInt → own_d (Jvm.FP.Core.l2d p) W) ∧ (p.toInt < 0 → own_d (Jvm.FP.Core.l2d (own_h p)) H ∧ W = H * 2 ∧ own_rep (H * 2))
theorem own_lo_pos {p : Int64} {W : Nat} (h0 : 0 ≤ p.toInt) (h : own_d (Jvm.FP.Core.l2d p) W) : own_lo p W 0 := ⟨fun _ => h, fun q => absurd h0 (by omega)⟩
theorem own_rep0 {N : Nat} (h : own_rep N) : own_rep (0 * 2 ^ 64 + N) := by rw [Nat.zero_mul, Nat.zero_add]; exact h
theorem own_z : own_d (Jvm.FP.Core.l2d 0) 0 := own_l2d rfl (own_rep53 (by decide))
theorem own_zr : own_rep (0 * 2 ^ 64) := by rw [Nat.zero_mul]; exact own_rep53 (by decide)
/-- part A, a low word with the top bit set -/
theorem own_negA {p : Int64} (hp : p.toInt < 0) : ∃ L H : Nat, (L : Int) = p.toInt + 18446744073709551616 ∧ 2 ^ 63 ≤ L ∧ L < 2 ^ 64 ∧ (H = L / 2 ∧ L % 2 = 0 ∨ H = 2 * (L / 4) + 1 ∧ L % 2 = 1) ∧ own_lo p (nearest H 1024 * 1024 * 2) (nearest H 1024 * 1024) ∧ own_rep (nearest H 1024 * 1024 * 2) ∧ nearest H 1024 ≤ 2 ^ 53 := by
  have b0 := Int64.le_toInt p
  obtain ⟨L, hL⟩ := Int.eq_ofNat_of_zero_le (show 0 ≤ p.toInt + 18446744073709551616 by omega)
  obtain ⟨H, h1, h2, h3, h4⟩ := own_hval hp hL.symm
  have n := own_near (A := H) (k := 10) h3 h4
  have r : own_rep (nearest H 1024 * 1024 * 2) := by rw [Nat.mul_assoc]; exact own_rep.shl (k := 11) n.2 (by decide)
  exact ⟨L, H, hL.symm, by omega, by omega, h2, ⟨fun q => absurd hp (by omega), fun _ => ⟨own_l2dr (k := 10) h1 (by decide) h3 h4, rfl, r⟩⟩, r, n.2⟩
theorem own_qv {p v : Int64} {L : Nat} (hL : (L : Int) = p.toInt + 18446744073709551616) (h1 : 2 ^ 63 ≤ L) (h2 : L < 2 ^ 64) (hv : ((p.toUInt64 >>> ((11 : Int32) &&& 0x3f).toInt64.toUInt64).toInt64) = v) : v.toInt = (L / 2048 : Nat) := by
  have a1 := c_lushr p 11 11 (by decide) (by decide)
  rw [← hv, a1]; omega
theorem own_rv {p v : Int64} {L : Nat} (hL : (L : Int) = p.toInt + 18446744073709551616) (hv : (p &&& (2047 : Int64)) = v) : v.toInt = (L % 2048 : Nat) := by
  have a1 := c_maskL p 2047 11 (by decide) (by decide)
  rw [← hv, a1]; omega
theorem own_q0 {L H : Nat} {v : Int64} (hH : H = L / 2 ∧ L % 2 = 0 ∨ H = 2 * (L / 4) + 1 ∧ L % 2 = 1) (hv : v.toInt = (L / 2048 : Nat)) (hr : ¬ (1024 < L % 2048 ∨ (L % 2048 = 1024 ∧ L / 2048 % 2 = 1))) : v.toInt = (nearest H 1024 : Nat) := by
  rw [own_stick hH rfl rfl, if_neg hr]; exact hv
theorem own_q1 {L H : Nat} {v w : Int64} (hH : H = L / 2 ∧ L % 2 = 0 ∨ H = 2 * (L / 4) + 1 ∧ L % 2 = 1) (hL : L < 2 ^ 64) (hv : v.toInt = (L / 2048 : Nat)) (hw : (v + (1 : Int64)) = w) (hr : 1024 < L % 2048 ∨ (L % 2048 = 1024 ∧ L / 2048 % 2 = 1)) : w.toInt = (nearest H 1024 : Nat) := by
  rw [own_stick hH rfl rfl, if_pos hr]
  have a := c_ladd v 1
  have e : (1 : Int64).toInt = 1 := rfl
  rw [hw, hv, e] at a
  have l1 := Int64.toInt_lt w
  have l2 := Int64.le_toInt w
  omega
theorem own_odd {v : Int64} {q : Nat} (hv : v.toInt = q) : (v &&& (1 : Int64)).toInt = (q % 2 : Nat) := by
  have a := c_maskL v 1 1 (by decide) (by decide)
  rw [a, hv]; omega
theorem own_sig {p v : Int64} (hv : (p &&& (9007199254740991 : Int64)) = v) : ∃ S : Nat, v.toInt = S ∧ S < 2 ^ 53 := by
  have a := c_maskL p 9007199254740991 53 (by decide) (by decide)
  obtain ⟨S, hS⟩ := Int.eq_ofNat_of_zero_le (show 0 ≤ v.toInt by rw [← hv, a]; omega)
  exact ⟨S, hS, by rw [← hv, a] at hS; omega⟩
theorem own_ex {x v : Int32} (hv : ((x &&& (2147483647 : Int32)) % (74 : Int32)) = v) : ∃ n : Nat, v.toInt = n ∧ n ≤ 73 := by
  have a1 := c_mask x 2147483647 31 (by decide) (by decide)
  have a2 := (c_irem (x &&& (2147483647 : Int32)) 74 74 rfl).1 (by omega)
  obtain ⟨S, hS⟩ := Int.eq_ofNat_of_zero_le (show 0 ≤ v.toInt by rw [← hv, a2]; omega)
  exact ⟨S, hS, by rw [← hv, a2] at hS; omega⟩
/-- part B -/
def own_pre (hi lo : Int64) (N : Nat) : Prop := ∃ A W H : Nat, own_d (Jvm.FP.Core.l2d hi) A ∧ own_rep (A * 2 ^ 64) ∧ own_lo lo W H ∧ own_rep (A * 2 ^ 64 + W) ∧ A * 2 ^ 64 + W = N
theorem own_b0 {sg : Int64} {S n : Nat} (hS : sg.toInt = S) (h53 : S < 2 ^ 53) (hn : n = 0) : own_pre 0 sg (S * 2 ^ n) := by
  have r := own_rep53 (Nat.le_of_lt h53)
  subst hn
  exact ⟨0, S, 0, own_z, own_zr, own_lo_pos (by omega) (own_l2d hS r), own_rep0 r, by rw [Nat.zero_mul, Nat.zero_add, Nat.pow_zero, Nat.mul_one]⟩
theorem own_b2 {sg hi : Int64} {q q' : Int32} {S n : Nat} (hS : sg.toInt = S) (h53 : S < 2 ^ 53) (hq : q.toInt = n) (h64 : 64 ≤ n) (h73 : n ≤ 73) (hq' : (q - (64 : Int32)) = q') (hh : (sg <<< (q' &&& 0x3f).toInt64) = hi) : own_pre hi 0 (S * 2 ^ n) := by
  have e := c_isub q 64
  have e64 : (64 : Int32).toInt = 64 := rfl
  rw [hq', hq, e64] at e
  have l1 := Int32.toInt_lt q'
  have l2 := Int32.le_toInt q'
  have hq2 : q'.toInt = (n - 64 : Nat) := by omega
  have hb : S * 2 ^ (n - 64) < 2 ^ 63 := by
    have : (2 : Nat) ^ (n - 64) ≤ 2 ^ 9 := Nat.pow_le_pow_right (by decide) (by omega)
    calc S * 2 ^ (n - 64) ≤ S * 2 ^ 9 := Nat.mul_le_mul_left _ this
      _ < 2 ^ 63 := by omega
  have hv := own_shl hS hq2 (by omega) hb
  rw [hh] at hv
  have en : S * 2 ^ (n - 64) * 2 ^ 64 = S * 2 ^ n := by rw [Nat.mul_assoc, ← Nat.pow_add]; congr 2; omega
  have r : own_rep (S * 2 ^ n) := own_rep.shl (Nat.le_of_lt h53) (by omega)
  refine ⟨S * 2 ^ (n - 64), 0, 0, own_l2d hv (own_rep.shl (Nat.le_of_lt h53) (by omega)), ?_, own_lo_pos (by decide) own_z, ?_, ?_⟩
  · rw [en]; exact r
  · rw [Nat.add_zero, en]; exact r
  · rw [Nat.add_zero]; exact en
theorem own_b1 {sg hi lo : Int64} {q q' : Int32} {S n : Nat} (hS : sg.toInt = S) (h53 : S < 2 ^ 53) (hq : q.toInt = n) (h0 : 0 < n) (h64 : n < 64) (hq' : ((64 : Int32) - q) = q') (hh : ((sg.toUInt64 >>> (q' &&& 0x3f).toInt64.toUInt64).toInt64) = hi) (hl : (sg <<< (q &&& 0x3f).toInt64) = lo) : own_pre hi lo (S * 2 ^ n) := by
  have e := c_isub 64 q
  have e64 : (64 : Int32).toInt = 64 := rfl
  rw [hq', hq, e64] at e
  have l1 := Int32.toInt_lt q'
  have l2 := Int32.le_toInt q'
  have hq2 : q'.toInt = (64 - n : Nat) := by omega
  have a1 := c_lushr sg q' (64 - n) (own_bv2 hq2 (by omega)) (by omega)
  have hhi : hi.toInt = (S / 2 ^ (64 - n) : Nat) := by
    rw [← hh, a1, hS, show ((S : Int) % 18446744073709551616) = (S : Int) by omega]; exact (Int.natCast_ediv _ _).symm
  have a2 := own_shlU hS hq h64
  rw [hl] at a2
  have hA : S / 2 ^ (64 - n) ≤ 2 ^ 53 := Nat.le_trans (Nat.div_le_self _ _) (Nat.le_of_lt h53)
  have hm : S % 2 ^ (64 - n) ≤ 2 ^ 53 := Nat.le_trans (Nat.mod_le _ _) (Nat.le_of_lt h53)
  have e2 : (2 : Nat) ^ 64 = 2 ^ (64 - n) * 2 ^ n := by rw [← Nat.pow_add]; congr 1; omega
  have hsum : S / 2 ^ (64 - n) * 2 ^ 64 + S % 2 ^ (64 - n) * 2 ^ n = S * 2 ^ n := by
    rw [e2, ← Nat.mul_assoc, ← Nat.add_mul, Nat.mul_comm (S / 2 ^ (64 - n)), Nat.div_add_mod]
  have hWlt : S % 2 ^ (64 - n) * 2 ^ n < 2 ^ 64 := by
    rw [e2]; exact Nat.mul_lt_mul_of_pos_right (Nat.mod_lt _ (Nat.two_pow_pos _)) (Nat.two_pow_pos _)
  have rW : own_rep (S % 2 ^ (64 - n) * 2 ^ n) := own_rep.shl hm (by omega)
  have rS : own_rep (S * 2 ^ n) := own_rep.shl (Nat.le_of_lt h53) (by omega)
  have hWe : S % 2 ^ (64 - n) * 2 ^ n = S % 2 ^ (64 - n) * 2 ^ (n - 1) * 2 := by
    rw [Nat.mul_assoc, ← Nat.pow_succ]; congr 2; omega
  have rH : own_rep (S % 2 ^ (64 - n) * 2 ^ (n - 1)) := own_rep.shl hm (by omega)
  refine ⟨S / 2 ^ (64 - n), S % 2 ^ (64 - n) * 2 ^ n, S % 2 ^ (64 - n) * 2 ^ (n - 1), own_l2d hhi (own_rep53 hA), own_rep.shl hA (by decide), ?_, by rw [hsum]; exact rS, hsum⟩
  rw [← hsum] at a2
  generalize S % 2 ^ (64 - n) * 2 ^ (n - 1) = H at *
  generalize S % 2 ^ (64 - n) * 2 ^ n = W at *
  have l3 := Int64.toInt_lt lo
  have l4 := Int64.le_toInt lo
  refine ⟨fun h => own_l2d (by omega) rW, fun h => ?_⟩
  obtain ⟨H', x1, x2, x3, x4⟩ := own_hval (L := W) h (by omega)
  refine ⟨own_l2d (by omega) rH, hWe, hWe ▸ rW⟩
theorem own_p1 {q : Int32} {n : Nat} (hq : q.toInt = n) (h : n < 62) : own_d (Jvm.FP.Core.l2d ((1 : Int64) <<< (q &&& 0x3f).toInt64)) (2 ^ n) := by
  have hb : (2 : Nat) ^ n < 2 ^ 63 := Nat.pow_lt_pow_right (by decide) (by omega)
  have hv := own_shl (x := 1) (S := 1) rfl hq (by omega) (by rw [Nat.one_mul]; exact hb)
  rw [Nat.one_mul] at hv
  exact own_l2d hv (by have := own_rep.shl (N := 1) (k := n) (by decide) (by omega); rwa [Nat.one_mul] at this)
theorem own_p2 {q : Int32} {n : Nat} (hq : q.toInt = n) (h : 62 ≤ n) (h73 : n ≤ 73) : own_d (Jvm.FP.Core.l2d ((1 : Int64) <<< ((q - (62 : Int32)) &&& 0x3f).toInt64)) (2 ^ (n - 62)) := by
  have e := c_isub q 62
  have e62 : (62 : Int32).toInt = 62 := rfl
  rw [hq, e62] at e
  have l1 := Int32.toInt_lt (q - 62)
  have l2 := Int32.le_toInt (q - 62)
  exact own_p1 (by omega) (by omega)
theorem own_p3 {n : Nat} (h : 62 ≤ n) (h73 : n ≤ 73) : 2 ^ 62 * 2 ^ (n - 62) = 2 ^ n ∧ own_rep (2 ^ 62 * 2 ^ (n - 62)) := by
  have e : 2 ^ 62 * 2 ^ (n - 62) = 2 ^ n := by rw [← Nat.pow_add]; congr 1; omega
  exact ⟨e, by rw [e]; have := own_rep.shl (N := 1) (k := n) (by decide) (by omega); rwa [Nat.one_mul] at this⟩
end
theorem own_no {x : UInt64} {N : Nat} (h : own_d x N) : Jvm.Free.Fl.NoNaN64 x := Jvm.Free.Fl.noNaN64_no.mpr (own_nn h)
theorem own_lt0 {p : Int64} (h : (lcmpW p (0 : Int64)).toInt < (0 : Int32).toInt) : p.toInt < 0 := by
  have a := c_lcmp p 0
  have e1 : (0 : Int64).toInt = 0 := rfl
  have e2 : (0 : Int32).toInt = 0 := rfl
  omega
theorem own_ge0 {p : Int64} (h : (0 : Int32).toInt ≤ (lcmpW p (0 : Int64)).toInt) : 0 ≤ p.toInt := by
  have a := c_lcmp p 0
  have e1 : (0 : Int64).toInt = 0 := rfl
  have e2 : (0 : Int32).toInt = 0 := rfl
  omega
theorem own_cge {p : Int64} (h : 0 ≤ p.toInt) : (0 : Int32).toInt ≤ (lcmpW p (0 : Int64)).toInt := by
  have a := c_lcmp p 0
  have e1 : (0 : Int64).toInt = 0 := rfl
  have e2 : (0 : Int32).toInt = 0 := rfl
  omega
theorem own_clt {p : Int64} (h : p.toInt < 0) : (lcmpW p (0 : Int64)).toInt < (0 : Int32).toInt := by
  have a := c_lcmp p 0
  have e1 : (0 : Int64).toInt = 0 := rfl
  have e2 : (0 : Int32).toInt = 0 := rfl
  omega
theorem own_cgt {a b : Int64} (h : (0 : Int32).toInt < (lcmpW a b).toInt) : b.toInt < a.toInt := by
  have q := c_lcmp a b
  have e2 : (0 : Int32).toInt = 0 := rfl
  omega
theorem own_cle {a b : Int64} (h : (lcmpW a b).toInt ≤ (0 : Int32).toInt) : a.toInt ≤ b.toInt := by
  have q := c_lcmp a b
  have e2 : (0 : Int32).toInt = 0 := rfl
  omega
theorem own_ceq {a b : Int64} (h : lcmpW a b = 0) : a.toInt = b.toInt := by rw [(lw_eq a b).mp h]
theorem own_cne {a b : Int64} (h : lcmpW a b ≠ 0) : a.toInt ≠ b.toInt := fun e => h ((lw_eq a b).mpr (Int64.toInt_inj.mp e))
theorem own_eqN {x : UInt64} {N K : Nat} (h : own_d x N) (e : N = K) : own_d x K := e ▸ h
theorem d1_0 : decode prog_52_method_9_code 0 = .ok (.lload_n 2, 1) := by decide +kernel
theorem d1_1 : decode prog_52_method_9_code 1 = .ok (.lconst 0, 1) := by decide +kernel
theorem d1_2 : decode prog_52_method_9_code 2 = .ok (.lcmp, 1) := by decide +kernel
theorem d1_3 : decode prog_52_method_9_code 3 = .ok (.ifCond .lt 8, 3) := by decide +kernel
theorem d1_11 : decode prog_52_method_9_code 11 = .ok (.lload_n 2, 1) := by decide +kernel
theorem d1_12 : decode prog_52_method_9_code 12 = .ok (.iconst 1, 1) := by decide +kernel
theorem d1_13 : decode prog_52_method_9_code 13 = .ok (.lushr, 1) := by decide +kernel
theorem d1_14 : decode prog_52_method_9_code 14 = .ok (.lload_n 2, 1) := by decide +kernel
theorem d1_15 : decode prog_52_method_9_code 15 = .ok (.lconst 1, 1) := by decide +kernel
theorem d1_16 : decode prog_52_method_9_code 16 = .ok (.land, 1) := by decide +kernel
theorem d1_17 : decode prog_52_method_9_code 17 = .ok (.lor, 1) := by decide +kernel
theorem d1_18 : decode prog_52_method_9_code 18 = .ok (.l2d, 1) := by decide +kernel
theorem d1_19 : decode prog_52_method_9_code 19 = .ok (.ldc2_w 164, 3) := by decide +kernel
theorem d1_22 : decode prog_52_method_9_code 22 = .ok (.dmul, 1) := by decide +kernel
theorem d1_23 : decode prog_52_method_9_code 23 = .ok (.dstore 4, 2) := by decide +kernel
theorem d1_25 : decode prog_52_method_9_code 25 = .ok (.lload_n 0, 1) := by decide +kernel
theorem d1_26 : decode prog_52_method_9_code 26 = .ok (.l2d, 1) := by decide +kernel
theorem d1_27 : decode prog_52_method_9_code 27 = .ok (.ldc2_w 166, 3) := by decide +kernel
theorem d1_30 : decode prog_52_method_9_code 30 = .ok (.dmul, 1) := by decide +kernel
theorem d1_31 : decode prog_52_method_9_code 31 = .ok (.dload 4, 2) := by decide +kernel
theorem d1_33 : decode prog_52_method_9_code 33 = .ok (.dadd, 1) := by decide +kernel
theorem d1_34 : decode prog_52_method_9_code 34 = .ok (.dreturn, 1) := by decide +kernel
theorem d1_6 : decode prog_52_method_9_code 6 = .ok (.lload_n 2, 1) := by decide +kernel
theorem d1_7 : decode prog_52_method_9_code 7 = .ok (.l2d, 1) := by decide +kernel
theorem d1_8 : decode prog_52_method_9_code 8 = .ok (.goto 15, 3) := by decide +kernel
theorem pn_com_example_routeloom_routeloom_Units : plainName "com/example/routeloom/routeloom/Units" = true := by first | (simp [plainName, overriddenIn]; done) | decide +kernel
def Q1 (Z : State) (p0 p1 : Int64) (An Wn Hn : Nat) (h0 : Heap) (n0 : Nat) (v : Option Value) (h : Heap) (L : List Loc) : Prop := ∃ x, v = some (.double x) ∧ Fr n0 L ∧ h = h0 ∧ own_d x (An * 2 ^ 64 + Wn)
set_option maxRecDepth 65536 in
set_option maxHeartbeats 40000000 in
theorem rm1 (l : Launch) (Z : State) (a0 : Array Value) (hw : ∀ d ∈ tables_1, d.before a0 Z = true) (ws : List Jvm.Cond) (p0 p1 : Int64) (An Wn Hn : Nat) (h0 : Heap) (n0 : Nat) (hH : own_d (FP.l2d p0) An) (rH : own_rep (An * 2 ^ 64)) (hlo : own_lo p1 Wn Hn) (rS : own_rep (An * 2 ^ 64 + Wn)) :
    MetFree l (⟨"com/example/routeloom/routeloom/Units", "toDouble", "(JJ)D"⟩ : MethodName) (head1 (Jvm.Cond.code (⟨"com/example/routeloom/routeloom/Units", "toDouble", "(JJ)D"⟩ : MethodName) prog_52_method_9_code 6 (some .double) :: ws) ({ frames := 0, cells := 0, slots := 0, locals := 0 } : Room)) (fun a U => a = #[(.long p0), (.long p1)] ∧ Z.Warmed39 U.vm ∧ U.heap = h0) (fun _ _ _ _ _ => True) (fun _ U o U' => ∃ v L, o = .returned v ∧ Q1 Z p0 p1 An Wn Hn h0 n0 v U'.heap L ∧ FrameEnd U o U' L ({ frames := 0, cells := 0, slots := 0, locals := 0 } : Room).cells ({ frames := 0, cells := 0, slots := 0, locals := 0 } : Room).slots) := by
  refine W.bodyOf (y := (⟨"com/example/routeloom/routeloom/Units", "toDouble", "(JJ)D"⟩ : MethodName)) (as := #[(.long p0), (.long p1)]) (maxL := 6) (Q := Q1 Z p0 p1 An Wn Hn h0 n0) (Ls := #[.val (.long p0), .second, .val (.long p1), .second, .unset, .unset]) (plainFor_of_name pn_com_example_routeloom_routeloom_Units) (fun m => by first | exact W.entry_of rfl | rfl | (simp [entryFrame, mkF, argsToLocals, Value.category]; done)) ?_
  intro p e s m below meth c T0 C X0 e0
  have N0 := Fr.nil n0
  refine W.lloadN (q := 1) X0 C d1_0 rfl rfl ?_
  refine W.lconst0 (q := 2) X0 C d1_1 rfl ?_
  refine W.lcmp (q := 3) X0 C d1_2 rfl ?_
  refine W.if_ (q := 11) (q' := 6) X0 C d1_3 (by decide) (by decide) rfl (fun hc1 => ?_) (fun hc1 => ?_)
  · replace hc1 : (lcmpW p1 (0 : Int64)).toInt < (0 : Int32).toInt := hc1
    refine W.lloadN (q := 12) X0 C d1_11 rfl rfl ?_
    refine W.iconst (q := 13) (v := 1) X0 C d1_12 rfl rfl ?_
    refine W.lushr (q := 14) X0 C d1_13 rfl ?_
    refine W.lloadN (q := 15) X0 C d1_14 rfl rfl ?_
    refine W.lconst1 (q := 16) X0 C d1_15 rfl ?_
    refine W.land (q := 17) X0 C d1_16 rfl ?_
    refine W.lor (q := 18) X0 C d1_17 rfl ?_
    obtain ⟨z2, hz2⟩ : ∃ z : UInt64, FP.l2d (((p1.toUInt64 >>> ((1 : Int32) &&& 0x3f).toInt64.toUInt64).toInt64) ||| (p1 &&& (1 : Int64))) = z := ⟨_, rfl⟩
    have hd2 : own_d z2 Hn := hz2 ▸ (show own_d (FP.l2d (((p1.toUInt64 >>> ((1 : Int32) &&& 0x3f).toInt64.toUInt64).toInt64) ||| (p1 &&& (1 : Int64)))) Hn from (hlo.2 (own_lt0 hc1)).1)
    refine W.l2d (q := 19) (v := z2) X0 C d1_18 hz2 rfl ?_
    refine W.ldcD (q := 22) X0 C (W.ww hw 11 rfl) d1_19 rfl ?_
    obtain ⟨z3, hz3⟩ : ∃ z : UInt64, FP.dmul z2 (4611686018427387904 : UInt64) = z := ⟨_, rfl⟩
    have hd3 : own_d z3 (Hn * 2) := hz3 ▸ own_dmul hd2 own_c2 (hlo.2 (own_lt0 hc1)).2.2
    refine W.dmul (q := 23) (v := z3) X0 C d1_22 (own_no hd3) hz3 rfl ?_
    have hw4 : own_d z3 Wn := own_eqN hd3 (hlo.2 (own_lt0 hc1)).2.1.symm
    refine W.dstore (q := 25) (L' := #[.val (.long p0), .second, .val (.long p1), .second, .val (.double z3), .second]) X0 C d1_23 rfl rfl ?_
    refine W.lloadN (q := 26) X0 C d1_25 rfl rfl ?_
    obtain ⟨z5, hz5⟩ : ∃ z : UInt64, FP.l2d p0 = z := ⟨_, rfl⟩
    have hd5 : own_d z5 An := hz5 ▸ (show own_d (FP.l2d p0) An from hH)
    refine W.l2d (q := 27) (v := z5) X0 C d1_26 hz5 rfl ?_
    refine W.ldcD (q := 30) X0 C (W.ww hw 4 rfl) d1_27 rfl ?_
    obtain ⟨z6, hz6⟩ : ∃ z : UInt64, FP.dmul z5 (4895412794951729152 : UInt64) = z := ⟨_, rfl⟩
    have hd6 : own_d z6 (An * (2 ^ 64)) := hz6 ▸ own_dmul hd5 own_c64 rH
    refine W.dmul (q := 31) (v := z6) X0 C d1_30 (own_no hd6) hz6 rfl ?_
    refine W.dload (q := 33) X0 C d1_31 rfl rfl ?_
    obtain ⟨z7, hz7⟩ : ∃ z : UInt64, FP.dadd z6 z3 = z := ⟨_, rfl⟩
    have hd7 : own_d z7 ((An * (2 ^ 64)) + Wn) := hz7 ▸ own_dadd hd6 hw4 rS
    refine W.dadd (q := 34) (v := z7) X0 C d1_33 (own_no hd7) hz7 rfl ?_
    exact W.retD X0 C e0 d1_34 (by decide) (by decide) ⟨_, rfl, N0, rfl, hd7⟩
  · replace hc1 : (0 : Int32).toInt ≤ (lcmpW p1 (0 : Int64)).toInt := hc1
    refine W.lloadN (q := 7) X0 C d1_6 rfl rfl ?_
    obtain ⟨z8, hz8⟩ : ∃ z : UInt64, FP.l2d p1 = z := ⟨_, rfl⟩
    have hd8 : own_d z8 Wn := hz8 ▸ (show own_d (FP.l2d p1) Wn from hlo.1 (own_ge0 hc1))
    refine W.l2d (q := 8) (v := z8) X0 C d1_7 hz8 rfl ?_
    refine W.goto (q := 23) X0 C d1_8 (by decide) (by decide) ?_
    refine W.dstore (q := 25) (L' := #[.val (.long p0), .second, .val (.long p1), .second, .val (.double z8), .second]) X0 C d1_23 rfl rfl ?_
    refine W.lloadN (q := 26) X0 C d1_25 rfl rfl ?_
    obtain ⟨z9, hz9⟩ : ∃ z : UInt64, FP.l2d p0 = z := ⟨_, rfl⟩
    have hd9 : own_d z9 An := hz9 ▸ (show own_d (FP.l2d p0) An from hH)
    refine W.l2d (q := 27) (v := z9) X0 C d1_26 hz9 rfl ?_
    refine W.ldcD (q := 30) X0 C (W.ww hw 4 rfl) d1_27 rfl ?_
    obtain ⟨z10, hz10⟩ : ∃ z : UInt64, FP.dmul z9 (4895412794951729152 : UInt64) = z := ⟨_, rfl⟩
    have hd10 : own_d z10 (An * (2 ^ 64)) := hz10 ▸ own_dmul hd9 own_c64 rH
    refine W.dmul (q := 31) (v := z10) X0 C d1_30 (own_no hd10) hz10 rfl ?_
    refine W.dload (q := 33) X0 C d1_31 rfl rfl ?_
    obtain ⟨z11, hz11⟩ : ∃ z : UInt64, FP.dadd z10 z8 = z := ⟨_, rfl⟩
    have hd11 : own_d z11 ((An * (2 ^ 64)) + Wn) := hz11 ▸ own_dadd hd10 hd8 rS
    refine W.dadd (q := 34) (v := z11) X0 C d1_33 (own_no hd11) hz11 rfl ?_
    exact W.retD X0 C e0 d1_34 (by decide) (by decide) ⟨_, rfl, N0, rfl, hd11⟩
theorem own_62l {q : Int32} {n : Nat} (h : q.toInt = n) (c : q.toInt < (62 : Int32).toInt) : n < 62 := by have e : (62 : Int32).toInt = 62 := rfl; omega
theorem own_62g {q : Int32} {n : Nat} (h : q.toInt = n) (c : (62 : Int32).toInt ≤ q.toInt) : 62 ≤ n := by have e : (62 : Int32).toInt = 62 := rfl; omega
theorem d2_0 : decode method_3_code 0 = .ok (.iload_n 0, 1) := by decide +kernel
theorem d2_1 : decode method_3_code 1 = .ok (.bipush 62, 2) := by decide +kernel
theorem d2_3 : decode method_3_code 3 = .ok (.if_icmp .ge 8, 3) := by decide +kernel
theorem d2_11 : decode method_3_code 11 = .ok (.ldc2_w 28, 3) := by decide +kernel
theorem d2_14 : decode method_3_code 14 = .ok (.lconst 1, 1) := by decide +kernel
theorem d2_15 : decode method_3_code 15 = .ok (.iload_n 0, 1) := by decide +kernel
theorem d2_16 : decode method_3_code 16 = .ok (.bipush 62, 2) := by decide +kernel
theorem d2_18 : decode method_3_code 18 = .ok (.isub, 1) := by decide +kernel
theorem d2_19 : decode method_3_code 19 = .ok (.lshl, 1) := by decide +kernel
theorem d2_20 : decode method_3_code 20 = .ok (.l2d, 1) := by decide +kernel
theorem d2_21 : decode method_3_code 21 = .ok (.dmul, 1) := by decide +kernel
theorem d2_22 : decode method_3_code 22 = .ok (.dreturn, 1) := by decide +kernel
theorem d2_6 : decode method_3_code 6 = .ok (.lconst 1, 1) := by decide +kernel
theorem d2_7 : decode method_3_code 7 = .ok (.iload_n 0, 1) := by decide +kernel
theorem d2_8 : decode method_3_code 8 = .ok (.lshl, 1) := by decide +kernel
theorem d2_9 : decode method_3_code 9 = .ok (.l2d, 1) := by decide +kernel
theorem d2_10 : decode method_3_code 10 = .ok (.dreturn, 1) := by decide +kernel
theorem pn_com_example_routeloom_routeloom_UnitsToDoublePinLaw : plainName "com/example/routeloom/routeloom/UnitsToDoublePinLaw" = true := by first | (simp [plainName, overriddenIn]; done) | decide +kernel
def Q2 (Z : State) (p0 : Int32) (n : Nat) (h0 : Heap) (n0 : Nat) (v : Option Value) (h : Heap) (L : List Loc) : Prop := ∃ x, v = some (.double x) ∧ Fr n0 L ∧ h = h0 ∧ own_d x (2 ^ n)
set_option maxRecDepth 65536 in
set_option maxHeartbeats 40000000 in
theorem rm2 (l : Launch) (Z : State) (a0 : Array Value) (hw : ∀ d ∈ tables_1, d.before a0 Z = true) (ws : List Jvm.Cond) (p0 : Int32) (n : Nat) (h0 : Heap) (n0 : Nat) (hq : p0.toInt = n) (h73 : n ≤ 73) :
    MetFree l (⟨"com/example/routeloom/routeloom/UnitsToDoublePinLaw", "pow2", "(I)D"⟩ : MethodName) (head1 (Jvm.Cond.code (⟨"com/example/routeloom/routeloom/UnitsToDoublePinLaw", "pow2", "(I)D"⟩ : MethodName) method_3_code 1 (some .double) :: ws) ({ frames := 0, cells := 0, slots := 0, locals := 0 } : Room)) (fun a U => a = #[(.int p0)] ∧ Z.Warmed39 U.vm ∧ U.heap = h0) (fun _ _ _ _ _ => True) (fun _ U o U' => ∃ v L, o = .returned v ∧ Q2 Z p0 n h0 n0 v U'.heap L ∧ FrameEnd U o U' L ({ frames := 0, cells := 0, slots := 0, locals := 0 } : Room).cells ({ frames := 0, cells := 0, slots := 0, locals := 0 } : Room).slots) := by
  refine W.bodyOf (y := (⟨"com/example/routeloom/routeloom/UnitsToDoublePinLaw", "pow2", "(I)D"⟩ : MethodName)) (as := #[(.int p0)]) (maxL := 1) (Q := Q2 Z p0 n h0 n0) (Ls := #[.val (.int p0)]) (plainFor_of_name pn_com_example_routeloom_routeloom_UnitsToDoublePinLaw) (fun m => by first | exact W.entry_of rfl | rfl | (simp [entryFrame, mkF, argsToLocals, Value.category]; done)) ?_
  intro p e s m below meth c T0 C X0 e0
  have N0 := Fr.nil n0
  refine W.iloadN (q := 1) X0 C d2_0 rfl rfl ?_
  refine W.bipush (q := 3) (v := 62) X0 C d2_1 rfl rfl ?_
  refine W.icmp (q := 11) (q' := 6) X0 C d2_3 (by decide) (by decide) rfl (fun hc12 => ?_) (fun hc12 => ?_)
  · replace hc12 : (62 : Int32).toInt ≤ p0.toInt := hc12
    refine W.ldcD (q := 14) X0 C (W.ww hw 15 rfl) d2_11 rfl ?_
    refine W.lconst1 (q := 15) X0 C d2_14 rfl ?_
    refine W.iloadN (q := 16) X0 C d2_15 rfl rfl ?_
    refine W.bipush (q := 18) (v := 62) X0 C d2_16 rfl rfl ?_
    refine W.isub (q := 19) X0 C d2_18 rfl ?_
    refine W.lshl (q := 20) X0 C d2_19 rfl ?_
    obtain ⟨z13, hz13⟩ : ∃ z : UInt64, FP.l2d ((1 : Int64) <<< ((p0 - (62 : Int32)) &&& 0x3f).toInt64) = z := ⟨_, rfl⟩
    have hd13 : own_d z13 (2 ^ (n - 62)) := hz13 ▸ (show own_d (FP.l2d ((1 : Int64) <<< ((p0 - (62 : Int32)) &&& 0x3f).toInt64)) (2 ^ (n - 62)) from own_p2 hq (own_62g hq hc12) h73)
    refine W.l2d (q := 21) (v := z13) X0 C d2_20 hz13 rfl ?_
    obtain ⟨z14, hz14⟩ : ∃ z : UInt64, FP.dmul (4886405595696988160 : UInt64) z13 = z := ⟨_, rfl⟩
    have hd14 : own_d z14 ((2 ^ 62) * (2 ^ (n - 62))) := hz14 ▸ own_dmul own_c62 hd13 (own_p3 (own_62g hq hc12) h73).2
    refine W.dmul (q := 22) (v := z14) X0 C d2_21 (own_no hd14) hz14 rfl ?_
    exact W.retD X0 C e0 d2_22 (by decide) (by decide) ⟨_, rfl, N0, rfl, (own_eqN hd14 (own_p3 (own_62g hq hc12) h73).1)⟩
  · replace hc12 : p0.toInt < (62 : Int32).toInt := hc12
    refine W.lconst1 (q := 7) X0 C d2_6 rfl ?_
    refine W.iloadN (q := 8) X0 C d2_7 rfl rfl ?_
    refine W.lshl (q := 9) X0 C d2_8 rfl ?_
    obtain ⟨z15, hz15⟩ : ∃ z : UInt64, FP.l2d ((1 : Int64) <<< (p0 &&& 0x3f).toInt64) = z := ⟨_, rfl⟩
    have hd15 : own_d z15 (2 ^ n) := hz15 ▸ (show own_d (FP.l2d ((1 : Int64) <<< (p0 &&& 0x3f).toInt64)) (2 ^ n) from own_p1 hq (own_62l hq hc12))
    refine W.l2d (q := 10) (v := z15) X0 C d2_9 hz15 rfl ?_
    exact W.retD X0 C e0 d2_10 (by decide) (by decide) ⟨_, rfl, N0, rfl, hd15⟩
theorem own_1024 : (1024 : Int64).toInt = 1024 := rfl
theorem own_one : (1 : Int64).toInt = 1 := rfl
theorem own_x0 {q : Int32} {n : Nat} (h : q.toInt = n) (c : q = 0) : n = 0 := by subst c; have e : (0 : Int32).toInt = 0 := rfl; omega
theorem own_x1 {q : Int32} {n : Nat} (h : q.toInt = n) (c : q ≠ 0) : 0 < n := Nat.pos_of_ne_zero fun e => c (Int32.toInt_inj.mp (by rw [h, e]; rfl))
theorem own_x2 {q : Int32} {n : Nat} (h : q.toInt = n) (c : q.toInt < (64 : Int32).toInt) : n < 64 := by have e : (64 : Int32).toInt = 64 := rfl; omega
theorem own_x3 {q : Int32} {n : Nat} (h : q.toInt = n) (c : (64 : Int32).toInt ≤ q.toInt) : 64 ≤ n := by have e : (64 : Int32).toInt = 64 := rfl; omega
theorem pd__28JJ_29D : parseMethodDescriptor "(JJ)D" = some ⟨[.long, .long], some .double⟩ := by decide +kernel
theorem pd__28I_29D : parseMethodDescriptor "(I)D" = some ⟨[.int], some .double⟩ := by decide +kernel
def Q0 (Z : State) (p0 p1 : Int64) (p2 : Int32) (h0 : Heap) (n0 : Nat) (v : Option Value) (h : Heap) (L : List Loc) : Prop := v = some (.int 1) ∧ Fr n0 L
set_option maxRecDepth 65536 in
set_option maxHeartbeats 40000000 in
theorem rm0 (l : Launch) (Z : State) (a0 : Array Value) (hw : ∀ d ∈ tables_1, d.before a0 Z = true) (ws : List Jvm.Cond) (p0 p1 : Int64) (p2 : Int32) (h0 : Heap) (n0 : Nat) :
    MetFree l x (head1 (Jvm.Cond.code x code maxLocals ret :: ws) room_1) (fun a U => a = #[(.long p0), (.long p1), (.int p2)] ∧ Z.Warmed39 U.vm ∧ U.heap = h0) (fun _ _ _ _ _ => True) (fun _ U o U' => ∃ v L, o = .returned v ∧ Q0 Z p0 p1 p2 h0 n0 v U'.heap L ∧ FrameEnd U o U' L room_1.cells room_1.slots) := by
  refine W.bodyOf (y := x) (as := #[(.long p0), (.long p1), (.int p2)]) (maxL := maxLocals) (Q := Q0 Z p0 p1 p2 h0 n0) (Ls := #[.val (.long p0), .second, .val (.long p1), .second, .val (.int p2), .unset, .unset, .unset, .unset, .unset, .unset, .unset, .unset, .unset, .unset, .unset, .unset, .unset, .unset, .unset]) (plainFor_of_name pn_com_example_routeloom_routeloom_UnitsToDoublePinLaw) (fun m => by first | exact W.entry_of rfl | rfl | (simp [entryFrame, mkF, argsToLocals, Value.category, maxLocals]; done)) ?_
  intro p e s m below meth c T0 C X0 e0
  replace C : W.Cx p s m meth c Z code 20 "com/example/routeloom/routeloom/UnitsToDoublePinLaw" "law" (some .boolean) := C
  have N0 := Fr.nil n0
  by_cases hsg : 0 ≤ p0.toInt
  · obtain ⟨NA, hA, rA⟩ := own_l2d_ex hsg
    refine W.lconst0 (q := 1) X0 C at_0 rfl ?_
    refine W.lloadN (q := 2) X0 C at_1 rfl rfl ?_
    refine W.callS (q := 5) X0 C (W.ww hw 0 rfl) (W.ww hw 1 rfl) (W.ww hw 2 rfl) (W.ww hw 3 rfl) (by decide) (rm1 l Z a0 hw [] (0 : Int64) p0 0 NA 0 h0 n0 own_z own_zr (own_lo_pos hsg hA) (own_rep0 rA)) e0 at_2 [(.long (0 : Int64)), (.long p0)] [] rfl rfl pd__28JJ_29D rfl rfl (by decide) (Nat.le_of_ble_eq_true rfl) (by decide) (by decide) rfl (fun T16 w16 L16 X16 hQ16 => ?_)
    obtain ⟨x16, rfl, NL16, e16, hd16⟩ := hQ16
    have N16 := Fr.app N0 NL16
    have hx16 : own_d x16 NA := own_eqN hd16 (by rw [Nat.zero_mul, Nat.zero_add])
    show W.Go p e below _ (T16.setTop (mkF m 5 #[.val (.long p0), .second, .val (.long p1), .second, .val (.int p2), .unset, .unset, .unset, .unset, .unset, .unset, .unset, .unset, .unset, .unset, .unset, .unset, .unset, .unset, .unset] [(.double x16)]))
    refine W.dstore (q := 7) (L' := #[.val (.long p0), .second, .val (.long p1), .second, .val (.int p2), .val (.double x16), .second, .unset, .unset, .unset, .unset, .unset, .unset, .unset, .unset, .unset, .unset, .unset, .unset, .unset]) X16 C at_5 rfl rfl ?_
    refine W.lloadN (q := 8) X16 C at_7 rfl rfl ?_
    refine W.lconst0 (q := 9) X16 C at_8 rfl ?_
    refine W.lcmp (q := 10) X16 C at_9 rfl ?_
    refine W.ifF (q := 13) X16 C at_10 rfl (own_cge hsg) ?_
    refine W.lloadN (q := 14) X16 C at_13 rfl rfl ?_
    obtain ⟨z17, hz17⟩ : ∃ z : UInt64, FP.l2d p0 = z := ⟨_, rfl⟩
    have hd17 : own_d z17 NA := hz17 ▸ (show own_d (FP.l2d p0) NA from hA)
    refine W.l2d (q := 15) (v := z17) X16 C at_14 hz17 rfl ?_
    refine W.dstore (q := 17) (L' := #[.val (.long p0), .second, .val (.long p1), .second, .val (.int p2), .val (.double x16), .second, .val (.double z17), .second, .unset, .unset, .unset, .unset, .unset, .unset, .unset, .unset, .unset, .unset, .unset]) X16 C at_15 rfl rfl ?_
    refine W.goto (q := 75) X16 C at_17 (by decide) (by decide) ?_
    refine W.lloadN (q := 76) X16 C at_75 rfl rfl ?_
    refine W.ldcL (q := 79) X16 C (W.ww hw 5 rfl) at_76 rfl ?_
    refine W.land (q := 80) X16 C at_79 rfl ?_
    generalize hv18 : (p1 &&& (9007199254740991 : Int64)) = v18
    refine W.lstore (q := 82) (L' := #[.val (.long p0), .second, .val (.long p1), .second, .val (.int p2), .val (.double x16), .second, .val (.double z17), .second, .val (.long v18), .second, .unset, .unset, .unset, .unset, .unset, .unset, .unset, .unset, .unset]) X16 C at_80 rfl rfl ?_
    obtain ⟨S_, hS1, hS2⟩ := own_sig hv18
    refine W.iload (q := 84) X16 C at_82 rfl rfl ?_
    refine W.ldcI (q := 86) X16 C (W.ww hw 6 rfl) at_84 rfl ?_
    refine W.iand (q := 87) X16 C at_86 rfl ?_
    refine W.bipush (q := 89) (v := 74) X16 C at_87 rfl rfl ?_
    refine W.irem (q := 90) X16 C at_89 (by decide) rfl ?_
    generalize hv19 : ((p2 &&& (2147483647 : Int32)) % (74 : Int32)) = v19
    refine W.istore (q := 92) (L' := #[.val (.long p0), .second, .val (.long p1), .second, .val (.int p2), .val (.double x16), .second, .val (.double z17), .second, .val (.long v18), .second, .val (.int v19), .unset, .unset, .unset, .unset, .unset, .unset, .unset, .unset]) X16 C at_90 rfl rfl ?_
    obtain ⟨n, hex, h73⟩ := own_ex hv19
    refine W.iload (q := 94) X16 C at_92 rfl rfl ?_
    refine W.if_ (q := 107) (q' := 97) X16 C at_94 (by decide) (by decide) rfl (fun hc20 => ?_) (fun hc20 => ?_)
    · replace hc20 : v19 ≠ 0 := hc20
      refine W.iload (q := 109) X16 C at_107 rfl rfl ?_
      refine W.bipush (q := 111) (v := 64) X16 C at_109 rfl rfl ?_
      refine W.icmp (q := 134) (q' := 114) X16 C at_111 (by decide) (by decide) rfl (fun hc21 => ?_) (fun hc21 => ?_)
      · replace hc21 : (64 : Int32).toInt ≤ v19.toInt := hc21
        refine W.lload (q := 136) X16 C at_134 rfl rfl ?_
        refine W.iload (q := 138) X16 C at_136 rfl rfl ?_
        refine W.bipush (q := 140) (v := 64) X16 C at_138 rfl rfl ?_
        refine W.isub (q := 141) X16 C at_140 rfl ?_
        refine W.lshl (q := 142) X16 C at_141 rfl ?_
        generalize hv22 : (v18 <<< ((v19 - (64 : Int32)) &&& 0x3f).toInt64) = v22
        refine W.lstore (q := 144) (L' := #[.val (.long p0), .second, .val (.long p1), .second, .val (.int p2), .val (.double x16), .second, .val (.double z17), .second, .val (.long v18), .second, .val (.int v19), .val (.long v22), .second, .unset, .unset, .unset, .unset, .unset, .unset]) X16 C at_142 rfl rfl ?_
        refine W.lconst0 (q := 145) X16 C at_144 rfl ?_
        refine W.lstore (q := 147) (L' := #[.val (.long p0), .second, .val (.long p1), .second, .val (.int p2), .val (.double x16), .second, .val (.double z17), .second, .val (.long v18), .second, .val (.int v19), .val (.long v22), .second, .val (.long (0 : Int64)), .second, .unset, .unset, .unset, .unset]) X16 C at_145 rfl rfl ?_
        obtain ⟨A_, W_, H_, hpA, hpR, hpL, hpS, hpE⟩ : own_pre v22 (0 : Int64) (S_ * 2 ^ n) := own_b2 hS1 hS2 hex (own_x3 hex hc21) h73 rfl hv22
        refine W.lload (q := 149) X16 C at_147 rfl rfl ?_
        refine W.lload (q := 151) X16 C at_149 rfl rfl ?_
        refine W.callS (q := 154) X16 C (W.ww hw 0 rfl) (W.ww hw 1 rfl) (W.ww hw 2 rfl) (W.ww hw 3 rfl) (by decide) (rm1 l Z a0 hw [] v22 (0 : Int64) A_ W_ H_ h0 n0 hpA hpR hpL hpS) e16 at_151 [(.long v22), (.long (0 : Int64))] [] rfl rfl pd__28JJ_29D rfl rfl (by decide) (Nat.le_of_ble_eq_true rfl) (by decide) (by decide) rfl (fun T23 w23 L23 X23 hQ23 => ?_)
        obtain ⟨x23, rfl, NL23, e23, hd23⟩ := hQ23
        have N23 := Fr.app N16 NL23
        have hx23 : own_d x23 (S_ * 2 ^ n) := own_eqN hd23 hpE
        show W.Go p e below _ (T23.setTop (mkF m 154 #[.val (.long p0), .second, .val (.long p1), .second, .val (.int p2), .val (.double x16), .second, .val (.double z17), .second, .val (.long v18), .second, .val (.int v19), .val (.long v22), .second, .val (.long (0 : Int64)), .second, .unset, .unset, .unset, .unset] [(.double x23)]))
        refine W.dstore (q := 156) (L' := #[.val (.long p0), .second, .val (.long p1), .second, .val (.int p2), .val (.double x16), .second, .val (.double z17), .second, .val (.long v18), .second, .val (.int v19), .val (.long v22), .second, .val (.long (0 : Int64)), .second, .val (.double x23), .second, .unset, .unset]) X23 C at_154 rfl rfl ?_
        refine W.lload (q := 158) X23 C at_156 rfl rfl ?_
        obtain ⟨z24, hz24⟩ : ∃ z : UInt64, FP.l2d v18 = z := ⟨_, rfl⟩
        have hd24 : own_d z24 S_ := hz24 ▸ (show own_d (FP.l2d v18) S_ from own_l2d hS1 (own_rep53 (Nat.le_of_lt hS2)))
        refine W.l2d (q := 159) (v := z24) X23 C at_158 hz24 rfl ?_
        refine W.iload (q := 161) X23 C at_159 rfl rfl ?_
        refine W.callS (q := 164) X23 C (W.ww hw 7 rfl) (W.ww hw 8 rfl) (W.ww hw 9 rfl) (W.ww hw 10 rfl) (by decide) (rm2 l Z a0 hw [] v19 n h0 n0 hex h73) e23 at_161 [(.int v19)] [(.double z24)] rfl rfl pd__28I_29D rfl rfl (by decide) (Nat.le_of_ble_eq_true rfl) (by decide) (by decide) rfl (fun T25 w25 L25 X25 hQ25 => ?_)
        obtain ⟨x25, rfl, NL25, e25, hd25⟩ := hQ25
        have N25 := Fr.app N23 NL25
        show W.Go p e below _ (T25.setTop (mkF m 164 #[.val (.long p0), .second, .val (.long p1), .second, .val (.int p2), .val (.double x16), .second, .val (.double z17), .second, .val (.long v18), .second, .val (.int v19), .val (.long v22), .second, .val (.long (0 : Int64)), .second, .val (.double x23), .second, .unset, .unset] [(.double x25), (.double z24)]))
        obtain ⟨z26, hz26⟩ : ∃ z : UInt64, FP.dmul z24 x25 = z := ⟨_, rfl⟩
        have hd26 : own_d z26 (S_ * (2 ^ n)) := hz26 ▸ own_dmul hd24 hd25 (own_rep.shl (Nat.le_of_lt hS2) (by omega))
        refine W.dmul (q := 165) (v := z26) X25 C at_164 (own_no hd26) hz26 rfl ?_
        refine W.dstore (q := 167) (L' := #[.val (.long p0), .second, .val (.long p1), .second, .val (.int p2), .val (.double x16), .second, .val (.double z17), .second, .val (.long v18), .second, .val (.int v19), .val (.long v22), .second, .val (.long (0 : Int64)), .second, .val (.double x23), .second, .val (.double z26), .second]) X25 C at_165 rfl rfl ?_
        refine W.dload (q := 169) X25 C at_167 rfl rfl ?_
        refine W.dload (q := 171) X25 C at_169 rfl rfl ?_
        refine W.dcmp (q := 172) (v := 0) X25 C at_171 (by rw [show FP.dcmp x16 z17 = some .eq from own_cmp hx16 hd17]; rfl) rfl ?_
        refine W.ifF (q := 175) X25 C at_172 rfl (by decide : W.cF .ne (0 : Int32) 0) ?_
        refine W.dload (q := 177) X25 C at_175 rfl rfl ?_
        refine W.dload (q := 179) X25 C at_177 rfl rfl ?_
        refine W.dcmp (q := 180) (v := 0) X25 C at_179 (by rw [show FP.dcmp x23 z26 = some .eq from own_cmp hx23 hd26]; rfl) rfl ?_
        refine W.ifF (q := 183) X25 C at_180 rfl (by decide : W.cF .ne (0 : Int32) 0) ?_
        refine W.iconst (q := 184) (v := 1) X25 C at_183 rfl rfl ?_
        refine W.goto (q := 188) X25 C at_184 (by decide) (by decide) ?_
        exact W.retN X25 C (by simp) e25 at_188 rfl (by decide) (by decide) ⟨rfl, N25⟩
      · replace hc21 : v19.toInt < (64 : Int32).toInt := hc21
        refine W.lload (q := 116) X16 C at_114 rfl rfl ?_
        refine W.bipush (q := 118) (v := 64) X16 C at_116 rfl rfl ?_
        refine W.iload (q := 120) X16 C at_118 rfl rfl ?_
        refine W.isub (q := 121) X16 C at_120 rfl ?_
        refine W.lushr (q := 122) X16 C at_121 rfl ?_
        generalize hv29 : ((v18.toUInt64 >>> (((64 : Int32) - v19) &&& 0x3f).toInt64.toUInt64).toInt64) = v29
        refine W.lstore (q := 124) (L' := #[.val (.long p0), .second, .val (.long p1), .second, .val (.int p2), .val (.double x16), .second, .val (.double z17), .second, .val (.long v18), .second, .val (.int v19), .val (.long v29), .second, .unset, .unset, .unset, .unset, .unset, .unset]) X16 C at_122 rfl rfl ?_
        refine W.lload (q := 126) X16 C at_124 rfl rfl ?_
        refine W.iload (q := 128) X16 C at_126 rfl rfl ?_
        refine W.lshl (q := 129) X16 C at_128 rfl ?_
        generalize hv30 : (v18 <<< (v19 &&& 0x3f).toInt64) = v30
        refine W.lstore (q := 131) (L' := #[.val (.long p0), .second, .val (.long p1), .second, .val (.int p2), .val (.double x16), .second, .val (.double z17), .second, .val (.long v18), .second, .val (.int v19), .val (.long v29), .second, .val (.long v30), .second, .unset, .unset, .unset, .unset]) X16 C at_129 rfl rfl ?_
        refine W.goto (q := 147) X16 C at_131 (by decide) (by decide) ?_
        obtain ⟨A_, W_, H_, hpA, hpR, hpL, hpS, hpE⟩ : own_pre v29 v30 (S_ * 2 ^ n) := own_b1 hS1 hS2 hex (own_x1 hex hc20) (own_x2 hex hc21) rfl hv29 hv30
        refine W.lload (q := 149) X16 C at_147 rfl rfl ?_
        refine W.lload (q := 151) X16 C at_149 rfl rfl ?_
        refine W.callS (q := 154) X16 C (W.ww hw 0 rfl) (W.ww hw 1 rfl) (W.ww hw 2 rfl) (W.ww hw 3 rfl) (by decide) (rm1 l Z a0 hw [] v29 v30 A_ W_ H_ h0 n0 hpA hpR hpL hpS) e16 at_151 [(.long v29), (.long v30)] [] rfl rfl pd__28JJ_29D rfl rfl (by decide) (Nat.le_of_ble_eq_true rfl) (by decide) (by decide) rfl (fun T31 w31 L31 X31 hQ31 => ?_)
        obtain ⟨x31, rfl, NL31, e31, hd31⟩ := hQ31
        have N31 := Fr.app N16 NL31
        have hx31 : own_d x31 (S_ * 2 ^ n) := own_eqN hd31 hpE
        show W.Go p e below _ (T31.setTop (mkF m 154 #[.val (.long p0), .second, .val (.long p1), .second, .val (.int p2), .val (.double x16), .second, .val (.double z17), .second, .val (.long v18), .second, .val (.int v19), .val (.long v29), .second, .val (.long v30), .second, .unset, .unset, .unset, .unset] [(.double x31)]))
        refine W.dstore (q := 156) (L' := #[.val (.long p0), .second, .val (.long p1), .second, .val (.int p2), .val (.double x16), .second, .val (.double z17), .second, .val (.long v18), .second, .val (.int v19), .val (.long v29), .second, .val (.long v30), .second, .val (.double x31), .second, .unset, .unset]) X31 C at_154 rfl rfl ?_
        refine W.lload (q := 158) X31 C at_156 rfl rfl ?_
        obtain ⟨z32, hz32⟩ : ∃ z : UInt64, FP.l2d v18 = z := ⟨_, rfl⟩
        have hd32 : own_d z32 S_ := hz32 ▸ (show own_d (FP.l2d v18) S_ from own_l2d hS1 (own_rep53 (Nat.le_of_lt hS2)))
        refine W.l2d (q := 159) (v := z32) X31 C at_158 hz32 rfl ?_
        refine W.iload (q := 161) X31 C at_159 rfl rfl ?_
        refine W.callS (q := 164) X31 C (W.ww hw 7 rfl) (W.ww hw 8 rfl) (W.ww hw 9 rfl) (W.ww hw 10 rfl) (by decide) (rm2 l Z a0 hw [] v19 n h0 n0 hex h73) e31 at_161 [(.int v19)] [(.double z32)] rfl rfl pd__28I_29D rfl rfl (by decide) (Nat.le_of_ble_eq_true rfl) (by decide) (by decide) rfl (fun T33 w33 L33 X33 hQ33 => ?_)
        obtain ⟨x33, rfl, NL33, e33, hd33⟩ := hQ33
        have N33 := Fr.app N31 NL33
        show W.Go p e below _ (T33.setTop (mkF m 164 #[.val (.long p0), .second, .val (.long p1), .second, .val (.int p2), .val (.double x16), .second, .val (.double z17), .second, .val (.long v18), .second, .val (.int v19), .val (.long v29), .second, .val (.long v30), .second, .val (.double x31), .second, .unset, .unset] [(.double x33), (.double z32)]))
        obtain ⟨z34, hz34⟩ : ∃ z : UInt64, FP.dmul z32 x33 = z := ⟨_, rfl⟩
        have hd34 : own_d z34 (S_ * (2 ^ n)) := hz34 ▸ own_dmul hd32 hd33 (own_rep.shl (Nat.le_of_lt hS2) (by omega))
        refine W.dmul (q := 165) (v := z34) X33 C at_164 (own_no hd34) hz34 rfl ?_
        refine W.dstore (q := 167) (L' := #[.val (.long p0), .second, .val (.long p1), .second, .val (.int p2), .val (.double x16), .second, .val (.double z17), .second, .val (.long v18), .second, .val (.int v19), .val (.long v29), .second, .val (.long v30), .second, .val (.double x31), .second, .val (.double z34), .second]) X33 C at_165 rfl rfl ?_
        refine W.dload (q := 169) X33 C at_167 rfl rfl ?_
        refine W.dload (q := 171) X33 C at_169 rfl rfl ?_
        refine W.dcmp (q := 172) (v := 0) X33 C at_171 (by rw [show FP.dcmp x16 z17 = some .eq from own_cmp hx16 hd17]; rfl) rfl ?_
        refine W.ifF (q := 175) X33 C at_172 rfl (by decide : W.cF .ne (0 : Int32) 0) ?_
        refine W.dload (q := 177) X33 C at_175 rfl rfl ?_
        refine W.dload (q := 179) X33 C at_177 rfl rfl ?_
        refine W.dcmp (q := 180) (v := 0) X33 C at_179 (by rw [show FP.dcmp x31 z34 = some .eq from own_cmp hx31 hd34]; rfl) rfl ?_
        refine W.ifF (q := 183) X33 C at_180 rfl (by decide : W.cF .ne (0 : Int32) 0) ?_
        refine W.iconst (q := 184) (v := 1) X33 C at_183 rfl rfl ?_
        refine W.goto (q := 188) X33 C at_184 (by decide) (by decide) ?_
        exact W.retN X33 C (by simp) e33 at_188 rfl (by decide) (by decide) ⟨rfl, N33⟩
    · replace hc20 : v19 = 0 := hc20
      refine W.lconst0 (q := 98) X16 C at_97 rfl ?_
      refine W.lstore (q := 100) (L' := #[.val (.long p0), .second, .val (.long p1), .second, .val (.int p2), .val (.double x16), .second, .val (.double z17), .second, .val (.long v18), .second, .val (.int v19), .val (.long (0 : Int64)), .second, .unset, .unset, .unset, .unset, .unset, .unset]) X16 C at_98 rfl rfl ?_
      refine W.lload (q := 102) X16 C at_100 rfl rfl ?_
      refine W.lstore (q := 104) (L' := #[.val (.long p0), .second, .val (.long p1), .second, .val (.int p2), .val (.double x16), .second, .val (.double z17), .second, .val (.long v18), .second, .val (.int v19), .val (.long (0 : Int64)), .second, .val (.long v18), .second, .unset, .unset, .unset, .unset]) X16 C at_102 rfl rfl ?_
      refine W.goto (q := 147) X16 C at_104 (by decide) (by decide) ?_
      obtain ⟨A_, W_, H_, hpA, hpR, hpL, hpS, hpE⟩ : own_pre (0 : Int64) v18 (S_ * 2 ^ n) := own_b0 hS1 hS2 (own_x0 hex hc20)
      refine W.lload (q := 149) X16 C at_147 rfl rfl ?_
      refine W.lload (q := 151) X16 C at_149 rfl rfl ?_
      refine W.callS (q := 154) X16 C (W.ww hw 0 rfl) (W.ww hw 1 rfl) (W.ww hw 2 rfl) (W.ww hw 3 rfl) (by decide) (rm1 l Z a0 hw [] (0 : Int64) v18 A_ W_ H_ h0 n0 hpA hpR hpL hpS) e16 at_151 [(.long (0 : Int64)), (.long v18)] [] rfl rfl pd__28JJ_29D rfl rfl (by decide) (Nat.le_of_ble_eq_true rfl) (by decide) (by decide) rfl (fun T37 w37 L37 X37 hQ37 => ?_)
      obtain ⟨x37, rfl, NL37, e37, hd37⟩ := hQ37
      have N37 := Fr.app N16 NL37
      have hx37 : own_d x37 (S_ * 2 ^ n) := own_eqN hd37 hpE
      show W.Go p e below _ (T37.setTop (mkF m 154 #[.val (.long p0), .second, .val (.long p1), .second, .val (.int p2), .val (.double x16), .second, .val (.double z17), .second, .val (.long v18), .second, .val (.int v19), .val (.long (0 : Int64)), .second, .val (.long v18), .second, .unset, .unset, .unset, .unset] [(.double x37)]))
      refine W.dstore (q := 156) (L' := #[.val (.long p0), .second, .val (.long p1), .second, .val (.int p2), .val (.double x16), .second, .val (.double z17), .second, .val (.long v18), .second, .val (.int v19), .val (.long (0 : Int64)), .second, .val (.long v18), .second, .val (.double x37), .second, .unset, .unset]) X37 C at_154 rfl rfl ?_
      refine W.lload (q := 158) X37 C at_156 rfl rfl ?_
      obtain ⟨z38, hz38⟩ : ∃ z : UInt64, FP.l2d v18 = z := ⟨_, rfl⟩
      have hd38 : own_d z38 S_ := hz38 ▸ (show own_d (FP.l2d v18) S_ from own_l2d hS1 (own_rep53 (Nat.le_of_lt hS2)))
      refine W.l2d (q := 159) (v := z38) X37 C at_158 hz38 rfl ?_
      refine W.iload (q := 161) X37 C at_159 rfl rfl ?_
      refine W.callS (q := 164) X37 C (W.ww hw 7 rfl) (W.ww hw 8 rfl) (W.ww hw 9 rfl) (W.ww hw 10 rfl) (by decide) (rm2 l Z a0 hw [] v19 n h0 n0 hex h73) e37 at_161 [(.int v19)] [(.double z38)] rfl rfl pd__28I_29D rfl rfl (by decide) (Nat.le_of_ble_eq_true rfl) (by decide) (by decide) rfl (fun T39 w39 L39 X39 hQ39 => ?_)
      obtain ⟨x39, rfl, NL39, e39, hd39⟩ := hQ39
      have N39 := Fr.app N37 NL39
      show W.Go p e below _ (T39.setTop (mkF m 164 #[.val (.long p0), .second, .val (.long p1), .second, .val (.int p2), .val (.double x16), .second, .val (.double z17), .second, .val (.long v18), .second, .val (.int v19), .val (.long (0 : Int64)), .second, .val (.long v18), .second, .val (.double x37), .second, .unset, .unset] [(.double x39), (.double z38)]))
      obtain ⟨z40, hz40⟩ : ∃ z : UInt64, FP.dmul z38 x39 = z := ⟨_, rfl⟩
      have hd40 : own_d z40 (S_ * (2 ^ n)) := hz40 ▸ own_dmul hd38 hd39 (own_rep.shl (Nat.le_of_lt hS2) (by omega))
      refine W.dmul (q := 165) (v := z40) X39 C at_164 (own_no hd40) hz40 rfl ?_
      refine W.dstore (q := 167) (L' := #[.val (.long p0), .second, .val (.long p1), .second, .val (.int p2), .val (.double x16), .second, .val (.double z17), .second, .val (.long v18), .second, .val (.int v19), .val (.long (0 : Int64)), .second, .val (.long v18), .second, .val (.double x37), .second, .val (.double z40), .second]) X39 C at_165 rfl rfl ?_
      refine W.dload (q := 169) X39 C at_167 rfl rfl ?_
      refine W.dload (q := 171) X39 C at_169 rfl rfl ?_
      refine W.dcmp (q := 172) (v := 0) X39 C at_171 (by rw [show FP.dcmp x16 z17 = some .eq from own_cmp hx16 hd17]; rfl) rfl ?_
      refine W.ifF (q := 175) X39 C at_172 rfl (by decide : W.cF .ne (0 : Int32) 0) ?_
      refine W.dload (q := 177) X39 C at_175 rfl rfl ?_
      refine W.dload (q := 179) X39 C at_177 rfl rfl ?_
      refine W.dcmp (q := 180) (v := 0) X39 C at_179 (by rw [show FP.dcmp x37 z40 = some .eq from own_cmp hx37 hd40]; rfl) rfl ?_
      refine W.ifF (q := 183) X39 C at_180 rfl (by decide : W.cF .ne (0 : Int32) 0) ?_
      refine W.iconst (q := 184) (v := 1) X39 C at_183 rfl rfl ?_
      refine W.goto (q := 188) X39 C at_184 (by decide) (by decide) ?_
      exact W.retN X39 C (by simp) e39 at_188 rfl (by decide) (by decide) ⟨rfl, N39⟩
  · replace hsg : p0.toInt < 0 := Int.not_le.mp hsg
    obtain ⟨Lw, Hw, hL, hL1, hL2, hHw, hlo, rA, hnl⟩ := own_negA hsg
    refine W.lconst0 (q := 1) X0 C at_0 rfl ?_
    refine W.lloadN (q := 2) X0 C at_1 rfl rfl ?_
    refine W.callS (q := 5) X0 C (W.ww hw 0 rfl) (W.ww hw 1 rfl) (W.ww hw 2 rfl) (W.ww hw 3 rfl) (by decide) (rm1 l Z a0 hw [] (0 : Int64) p0 0 ((FP.Core.nearest Hw 1024) * 1024 * 2) ((FP.Core.nearest Hw 1024) * 1024) h0 n0 own_z own_zr hlo (own_rep0 rA)) e0 at_2 [(.long (0 : Int64)), (.long p0)] [] rfl rfl pd__28JJ_29D rfl rfl (by decide) (Nat.le_of_ble_eq_true rfl) (by decide) (by decide) rfl (fun T43 w43 L43 X43 hQ43 => ?_)
    obtain ⟨x43, rfl, NL43, e43, hd43⟩ := hQ43
    have N43 := Fr.app N0 NL43
    have hx43 : own_d x43 ((FP.Core.nearest Hw 1024) * 1024 * 2) := own_eqN hd43 (by rw [Nat.zero_mul, Nat.zero_add])
    show W.Go p e below _ (T43.setTop (mkF m 5 #[.val (.long p0), .second, .val (.long p1), .second, .val (.int p2), .unset, .unset, .unset, .unset, .unset, .unset, .unset, .unset, .unset, .unset, .unset, .unset, .unset, .unset, .unset] [(.double x43)]))
    refine W.dstore (q := 7) (L' := #[.val (.long p0), .second, .val (.long p1), .second, .val (.int p2), .val (.double x43), .second, .unset, .unset, .unset, .unset, .unset, .unset, .unset, .unset, .unset, .unset, .unset, .unset, .unset]) X43 C at_5 rfl rfl ?_
    refine W.lloadN (q := 8) X43 C at_7 rfl rfl ?_
    refine W.lconst0 (q := 9) X43 C at_8 rfl ?_
    refine W.lcmp (q := 10) X43 C at_9 rfl ?_
    refine W.ifT (q := 20) X43 C at_10 (by decide) (by decide) (own_clt hsg) ?_
    refine W.lloadN (q := 21) X43 C at_20 rfl rfl ?_
    refine W.bipush (q := 23) (v := 11) X43 C at_21 rfl rfl ?_
    refine W.lushr (q := 24) X43 C at_23 rfl ?_
    generalize hv44 : ((p0.toUInt64 >>> ((11 : Int32) &&& 0x3f).toInt64.toUInt64).toInt64) = v44
    refine W.lstore (q := 26) (L' := #[.val (.long p0), .second, .val (.long p1), .second, .val (.int p2), .val (.double x43), .second, .unset, .unset, .val (.long v44), .second, .unset, .unset, .unset, .unset, .unset, .unset, .unset, .unset, .unset]) X43 C at_24 rfl rfl ?_
    have hq0 := own_qv hL hL1 hL2 hv44
    refine W.lloadN (q := 27) X43 C at_26 rfl rfl ?_
    refine W.ldcL (q := 30) X43 C (W.ww hw 12 rfl) at_27 rfl ?_
    refine W.land (q := 31) X43 C at_30 rfl ?_
    generalize hv45 : (p0 &&& (2047 : Int64)) = v45
    refine W.lstore (q := 33) (L' := #[.val (.long p0), .second, .val (.long p1), .second, .val (.int p2), .val (.double x43), .second, .unset, .unset, .val (.long v44), .second, .val (.long v45), .second, .unset, .unset, .unset, .unset, .unset, .unset, .unset]) X43 C at_31 rfl rfl ?_
    have hr0 := own_rv hL hv45
    refine W.lload (q := 35) X43 C at_33 rfl rfl ?_
    refine W.ldcL (q := 38) X43 C (W.ww hw 13 rfl) at_35 rfl ?_
    refine W.lcmp (q := 39) X43 C at_38 rfl ?_
    refine W.if_ (q := 60) (q' := 42) X43 C at_39 (by decide) (by decide) rfl (fun hc46 => ?_) (fun hc46 => ?_)
    · replace hc46 : (0 : Int32).toInt < (lcmpW v45 (1024 : Int64)).toInt := hc46
      refine W.lload (q := 62) X43 C at_60 rfl rfl ?_
      refine W.lconst1 (q := 63) X43 C at_62 rfl ?_
      refine W.ladd (q := 64) X43 C at_63 rfl ?_
      generalize hv47 : (v44 + (1 : Int64)) = v47
      refine W.lstore (q := 66) (L' := #[.val (.long p0), .second, .val (.long p1), .second, .val (.int p2), .val (.double x43), .second, .unset, .unset, .val (.long v47), .second, .val (.long v45), .second, .unset, .unset, .unset, .unset, .unset, .unset, .unset]) X43 C at_64 rfl rfl ?_
      have c1 := own_cgt hc46
      rw [hr0, own_1024] at c1
      have hqv : v47.toInt = ((FP.Core.nearest Hw 1024) : Nat) := own_q1 hHw hL2 hq0 hv47 (by omega)
      refine W.lload (q := 68) X43 C at_66 rfl rfl ?_
      obtain ⟨z48, hz48⟩ : ∃ z : UInt64, FP.l2d v47 = z := ⟨_, rfl⟩
      have hd48 : own_d z48 (FP.Core.nearest Hw 1024) := hz48 ▸ (show own_d (FP.l2d v47) (FP.Core.nearest Hw 1024) from own_l2d hqv (own_rep53 hnl))
      refine W.l2d (q := 69) (v := z48) X43 C at_68 hz48 rfl ?_
      refine W.ldcD (q := 72) X43 C (W.ww hw 14 rfl) at_69 rfl ?_
      obtain ⟨z49, hz49⟩ : ∃ z : UInt64, FP.dmul z48 (4656722014701092864 : UInt64) = z := ⟨_, rfl⟩
      have hd49 : own_d z49 ((FP.Core.nearest Hw 1024) * 2048) := hz49 ▸ own_dmul hd48 own_c2048 (by rw [show (2048 : Nat) = 1024 * 2 from rfl, ← Nat.mul_assoc]; exact rA)
      refine W.dmul (q := 73) (v := z49) X43 C at_72 (own_no hd49) hz49 rfl ?_
      refine W.dstore (q := 75) (L' := #[.val (.long p0), .second, .val (.long p1), .second, .val (.int p2), .val (.double x43), .second, .val (.double z49), .second, .val (.long v47), .second, .val (.long v45), .second, .unset, .unset, .unset, .unset, .unset, .unset, .unset]) X43 C at_73 rfl rfl ?_
      have hw50 : own_d z49 ((FP.Core.nearest Hw 1024) * 1024 * 2) := own_eqN hd49 (by rw [Nat.mul_assoc])
      refine W.lloadN (q := 76) X43 C at_75 rfl rfl ?_
      refine W.ldcL (q := 79) X43 C (W.ww hw 5 rfl) at_76 rfl ?_
      refine W.land (q := 80) X43 C at_79 rfl ?_
      generalize hv51 : (p1 &&& (9007199254740991 : Int64)) = v51
      refine W.lstore (q := 82) (L' := #[.val (.long p0), .second, .val (.long p1), .second, .val (.int p2), .val (.double x43), .second, .val (.double z49), .second, .val (.long v51), .second, .val (.long v45), .second, .unset, .unset, .unset, .unset, .unset, .unset, .unset]) X43 C at_80 rfl rfl ?_
      obtain ⟨S_, hS1, hS2⟩ := own_sig hv51
      refine W.iload (q := 84) X43 C at_82 rfl rfl ?_
      refine W.ldcI (q := 86) X43 C (W.ww hw 6 rfl) at_84 rfl ?_
      refine W.iand (q := 87) X43 C at_86 rfl ?_
      refine W.bipush (q := 89) (v := 74) X43 C at_87 rfl rfl ?_
      refine W.irem (q := 90) X43 C at_89 (by decide) rfl ?_
      generalize hv52 : ((p2 &&& (2147483647 : Int32)) % (74 : Int32)) = v52
      refine W.istore (q := 92) (L' := #[.val (.long p0), .second, .val (.long p1), .second, .val (.int p2), .val (.double x43), .second, .val (.double z49), .second, .val (.long v51), .second, .val (.int v52), .unset, .unset, .unset, .unset, .unset, .unset, .unset, .unset]) X43 C at_90 rfl rfl ?_
      obtain ⟨n, hex, h73⟩ := own_ex hv52
      refine W.iload (q := 94) X43 C at_92 rfl rfl ?_
      refine W.if_ (q := 107) (q' := 97) X43 C at_94 (by decide) (by decide) rfl (fun hc53 => ?_) (fun hc53 => ?_)
      · replace hc53 : v52 ≠ 0 := hc53
        refine W.iload (q := 109) X43 C at_107 rfl rfl ?_
        refine W.bipush (q := 111) (v := 64) X43 C at_109 rfl rfl ?_
        refine W.icmp (q := 134) (q' := 114) X43 C at_111 (by decide) (by decide) rfl (fun hc54 => ?_) (fun hc54 => ?_)
        · replace hc54 : (64 : Int32).toInt ≤ v52.toInt := hc54
          refine W.lload (q := 136) X43 C at_134 rfl rfl ?_
          refine W.iload (q := 138) X43 C at_136 rfl rfl ?_
          refine W.bipush (q := 140) (v := 64) X43 C at_138 rfl rfl ?_
          refine W.isub (q := 141) X43 C at_140 rfl ?_
          refine W.lshl (q := 142) X43 C at_141 rfl ?_
          generalize hv55 : (v51 <<< ((v52 - (64 : Int32)) &&& 0x3f).toInt64) = v55
          refine W.lstore (q := 144) (L' := #[.val (.long p0), .second, .val (.long p1), .second, .val (.int p2), .val (.double x43), .second, .val (.double z49), .second, .val (.long v51), .second, .val (.int v52), .val (.long v55), .second, .unset, .unset, .unset, .unset, .unset, .unset]) X43 C at_142 rfl rfl ?_
          refine W.lconst0 (q := 145) X43 C at_144 rfl ?_
          refine W.lstore (q := 147) (L' := #[.val (.long p0), .second, .val (.long p1), .second, .val (.int p2), .val (.double x43), .second, .val (.double z49), .second, .val (.long v51), .second, .val (.int v52), .val (.long v55), .second, .val (.long (0 : Int64)), .second, .unset, .unset, .unset, .unset]) X43 C at_145 rfl rfl ?_
          obtain ⟨A_, W_, H_, hpA, hpR, hpL, hpS, hpE⟩ : own_pre v55 (0 : Int64) (S_ * 2 ^ n) := own_b2 hS1 hS2 hex (own_x3 hex hc54) h73 rfl hv55
          refine W.lload (q := 149) X43 C at_147 rfl rfl ?_
          refine W.lload (q := 151) X43 C at_149 rfl rfl ?_
          refine W.callS (q := 154) X43 C (W.ww hw 0 rfl) (W.ww hw 1 rfl) (W.ww hw 2 rfl) (W.ww hw 3 rfl) (by decide) (rm1 l Z a0 hw [] v55 (0 : Int64) A_ W_ H_ h0 n0 hpA hpR hpL hpS) e43 at_151 [(.long v55), (.long (0 : Int64))] [] rfl rfl pd__28JJ_29D rfl rfl (by decide) (Nat.le_of_ble_eq_true rfl) (by decide) (by decide) rfl (fun T56 w56 L56 X56 hQ56 => ?_)
          obtain ⟨x56, rfl, NL56, e56, hd56⟩ := hQ56
          have N56 := Fr.app N43 NL56
          have hx56 : own_d x56 (S_ * 2 ^ n) := own_eqN hd56 hpE
          show W.Go p e below _ (T56.setTop (mkF m 154 #[.val (.long p0), .second, .val (.long p1), .second, .val (.int p2), .val (.double x43), .second, .val (.double z49), .second, .val (.long v51), .second, .val (.int v52), .val (.long v55), .second, .val (.long (0 : Int64)), .second, .unset, .unset, .unset, .unset] [(.double x56)]))
          refine W.dstore (q := 156) (L' := #[.val (.long p0), .second, .val (.long p1), .second, .val (.int p2), .val (.double x43), .second, .val (.double z49), .second, .val (.long v51), .second, .val (.int v52), .val (.long v55), .second, .val (.long (0 : Int64)), .second, .val (.double x56), .second, .unset, .unset]) X56 C at_154 rfl rfl ?_
          refine W.lload (q := 158) X56 C at_156 rfl rfl ?_
          obtain ⟨z57, hz57⟩ : ∃ z : UInt64, FP.l2d v51 = z := ⟨_, rfl⟩
          have hd57 : own_d z57 S_ := hz57 ▸ (show own_d (FP.l2d v51) S_ from own_l2d hS1 (own_rep53 (Nat.le_of_lt hS2)))
          refine W.l2d (q := 159) (v := z57) X56 C at_158 hz57 rfl ?_
          refine W.iload (q := 161) X56 C at_159 rfl rfl ?_
          refine W.callS (q := 164) X56 C (W.ww hw 7 rfl) (W.ww hw 8 rfl) (W.ww hw 9 rfl) (W.ww hw 10 rfl) (by decide) (rm2 l Z a0 hw [] v52 n h0 n0 hex h73) e56 at_161 [(.int v52)] [(.double z57)] rfl rfl pd__28I_29D rfl rfl (by decide) (Nat.le_of_ble_eq_true rfl) (by decide) (by decide) rfl (fun T58 w58 L58 X58 hQ58 => ?_)
          obtain ⟨x58, rfl, NL58, e58, hd58⟩ := hQ58
          have N58 := Fr.app N56 NL58
          show W.Go p e below _ (T58.setTop (mkF m 164 #[.val (.long p0), .second, .val (.long p1), .second, .val (.int p2), .val (.double x43), .second, .val (.double z49), .second, .val (.long v51), .second, .val (.int v52), .val (.long v55), .second, .val (.long (0 : Int64)), .second, .val (.double x56), .second, .unset, .unset] [(.double x58), (.double z57)]))
          obtain ⟨z59, hz59⟩ : ∃ z : UInt64, FP.dmul z57 x58 = z := ⟨_, rfl⟩
          have hd59 : own_d z59 (S_ * (2 ^ n)) := hz59 ▸ own_dmul hd57 hd58 (own_rep.shl (Nat.le_of_lt hS2) (by omega))
          refine W.dmul (q := 165) (v := z59) X58 C at_164 (own_no hd59) hz59 rfl ?_
          refine W.dstore (q := 167) (L' := #[.val (.long p0), .second, .val (.long p1), .second, .val (.int p2), .val (.double x43), .second, .val (.double z49), .second, .val (.long v51), .second, .val (.int v52), .val (.long v55), .second, .val (.long (0 : Int64)), .second, .val (.double x56), .second, .val (.double z59), .second]) X58 C at_165 rfl rfl ?_
          refine W.dload (q := 169) X58 C at_167 rfl rfl ?_
          refine W.dload (q := 171) X58 C at_169 rfl rfl ?_
          refine W.dcmp (q := 172) (v := 0) X58 C at_171 (by rw [show FP.dcmp x43 z49 = some .eq from own_cmp hx43 hw50]; rfl) rfl ?_
          refine W.ifF (q := 175) X58 C at_172 rfl (by decide : W.cF .ne (0 : Int32) 0) ?_
          refine W.dload (q := 177) X58 C at_175 rfl rfl ?_
          refine W.dload (q := 179) X58 C at_177 rfl rfl ?_
          refine W.dcmp (q := 180) (v := 0) X58 C at_179 (by rw [show FP.dcmp x56 z59 = some .eq from own_cmp hx56 hd59]; rfl) rfl ?_
          refine W.ifF (q := 183) X58 C at_180 rfl (by decide : W.cF .ne (0 : Int32) 0) ?_
          refine W.iconst (q := 184) (v := 1) X58 C at_183 rfl rfl ?_
          refine W.goto (q := 188) X58 C at_184 (by decide) (by decide) ?_
          exact W.retN X58 C (by simp) e58 at_188 rfl (by decide) (by decide) ⟨rfl, N58⟩
        · replace hc54 : v52.toInt < (64 : Int32).toInt := hc54
          refine W.lload (q := 116) X43 C at_114 rfl rfl ?_
          refine W.bipush (q := 118) (v := 64) X43 C at_116 rfl rfl ?_
          refine W.iload (q := 120) X43 C at_118 rfl rfl ?_
          refine W.isub (q := 121) X43 C at_120 rfl ?_
          refine W.lushr (q := 122) X43 C at_121 rfl ?_
          generalize hv62 : ((v51.toUInt64 >>> (((64 : Int32) - v52) &&& 0x3f).toInt64.toUInt64).toInt64) = v62
          refine W.lstore (q := 124) (L' := #[.val (.long p0), .second, .val (.long p1), .second, .val (.int p2), .val (.double x43), .second, .val (.double z49), .second, .val (.long v51), .second, .val (.int v52), .val (.long v62), .second, .unset, .unset, .unset, .unset, .unset, .unset]) X43 C at_122 rfl rfl ?_
          refine W.lload (q := 126) X43 C at_124 rfl rfl ?_
          refine W.iload (q := 128) X43 C at_126 rfl rfl ?_
          refine W.lshl (q := 129) X43 C at_128 rfl ?_
          generalize hv63 : (v51 <<< (v52 &&& 0x3f).toInt64) = v63
          refine W.lstore (q := 131) (L' := #[.val (.long p0), .second, .val (.long p1), .second, .val (.int p2), .val (.double x43), .second, .val (.double z49), .second, .val (.long v51), .second, .val (.int v52), .val (.long v62), .second, .val (.long v63), .second, .unset, .unset, .unset, .unset]) X43 C at_129 rfl rfl ?_
          refine W.goto (q := 147) X43 C at_131 (by decide) (by decide) ?_
          obtain ⟨A_, W_, H_, hpA, hpR, hpL, hpS, hpE⟩ : own_pre v62 v63 (S_ * 2 ^ n) := own_b1 hS1 hS2 hex (own_x1 hex hc53) (own_x2 hex hc54) rfl hv62 hv63
          refine W.lload (q := 149) X43 C at_147 rfl rfl ?_
          refine W.lload (q := 151) X43 C at_149 rfl rfl ?_
          refine W.callS (q := 154) X43 C (W.ww hw 0 rfl) (W.ww hw 1 rfl) (W.ww hw 2 rfl) (W.ww hw 3 rfl) (by decide) (rm1 l Z a0 hw [] v62 v63 A_ W_ H_ h0 n0 hpA hpR hpL hpS) e43 at_151 [(.long v62), (.long v63)] [] rfl rfl pd__28JJ_29D rfl rfl (by decide) (Nat.le_of_ble_eq_true rfl) (by decide) (by decide) rfl (fun T64 w64 L64 X64 hQ64 => ?_)
          obtain ⟨x64, rfl, NL64, e64, hd64⟩ := hQ64
          have N64 := Fr.app N43 NL64
          have hx64 : own_d x64 (S_ * 2 ^ n) := own_eqN hd64 hpE
          show W.Go p e below _ (T64.setTop (mkF m 154 #[.val (.long p0), .second, .val (.long p1), .second, .val (.int p2), .val (.double x43), .second, .val (.double z49), .second, .val (.long v51), .second, .val (.int v52), .val (.long v62), .second, .val (.long v63), .second, .unset, .unset, .unset, .unset] [(.double x64)]))
          refine W.dstore (q := 156) (L' := #[.val (.long p0), .second, .val (.long p1), .second, .val (.int p2), .val (.double x43), .second, .val (.double z49), .second, .val (.long v51), .second, .val (.int v52), .val (.long v62), .second, .val (.long v63), .second, .val (.double x64), .second, .unset, .unset]) X64 C at_154 rfl rfl ?_
          refine W.lload (q := 158) X64 C at_156 rfl rfl ?_
          obtain ⟨z65, hz65⟩ : ∃ z : UInt64, FP.l2d v51 = z := ⟨_, rfl⟩
          have hd65 : own_d z65 S_ := hz65 ▸ (show own_d (FP.l2d v51) S_ from own_l2d hS1 (own_rep53 (Nat.le_of_lt hS2)))
          refine W.l2d (q := 159) (v := z65) X64 C at_158 hz65 rfl ?_
          refine W.iload (q := 161) X64 C at_159 rfl rfl ?_
          refine W.callS (q := 164) X64 C (W.ww hw 7 rfl) (W.ww hw 8 rfl) (W.ww hw 9 rfl) (W.ww hw 10 rfl) (by decide) (rm2 l Z a0 hw [] v52 n h0 n0 hex h73) e64 at_161 [(.int v52)] [(.double z65)] rfl rfl pd__28I_29D rfl rfl (by decide) (Nat.le_of_ble_eq_true rfl) (by decide) (by decide) rfl (fun T66 w66 L66 X66 hQ66 => ?_)
          obtain ⟨x66, rfl, NL66, e66, hd66⟩ := hQ66
          have N66 := Fr.app N64 NL66
          show W.Go p e below _ (T66.setTop (mkF m 164 #[.val (.long p0), .second, .val (.long p1), .second, .val (.int p2), .val (.double x43), .second, .val (.double z49), .second, .val (.long v51), .second, .val (.int v52), .val (.long v62), .second, .val (.long v63), .second, .val (.double x64), .second, .unset, .unset] [(.double x66), (.double z65)]))
          obtain ⟨z67, hz67⟩ : ∃ z : UInt64, FP.dmul z65 x66 = z := ⟨_, rfl⟩
          have hd67 : own_d z67 (S_ * (2 ^ n)) := hz67 ▸ own_dmul hd65 hd66 (own_rep.shl (Nat.le_of_lt hS2) (by omega))
          refine W.dmul (q := 165) (v := z67) X66 C at_164 (own_no hd67) hz67 rfl ?_
          refine W.dstore (q := 167) (L' := #[.val (.long p0), .second, .val (.long p1), .second, .val (.int p2), .val (.double x43), .second, .val (.double z49), .second, .val (.long v51), .second, .val (.int v52), .val (.long v62), .second, .val (.long v63), .second, .val (.double x64), .second, .val (.double z67), .second]) X66 C at_165 rfl rfl ?_
          refine W.dload (q := 169) X66 C at_167 rfl rfl ?_
          refine W.dload (q := 171) X66 C at_169 rfl rfl ?_
          refine W.dcmp (q := 172) (v := 0) X66 C at_171 (by rw [show FP.dcmp x43 z49 = some .eq from own_cmp hx43 hw50]; rfl) rfl ?_
          refine W.ifF (q := 175) X66 C at_172 rfl (by decide : W.cF .ne (0 : Int32) 0) ?_
          refine W.dload (q := 177) X66 C at_175 rfl rfl ?_
          refine W.dload (q := 179) X66 C at_177 rfl rfl ?_
          refine W.dcmp (q := 180) (v := 0) X66 C at_179 (by rw [show FP.dcmp x64 z67 = some .eq from own_cmp hx64 hd67]; rfl) rfl ?_
          refine W.ifF (q := 183) X66 C at_180 rfl (by decide : W.cF .ne (0 : Int32) 0) ?_
          refine W.iconst (q := 184) (v := 1) X66 C at_183 rfl rfl ?_
          refine W.goto (q := 188) X66 C at_184 (by decide) (by decide) ?_
          exact W.retN X66 C (by simp) e66 at_188 rfl (by decide) (by decide) ⟨rfl, N66⟩
      · replace hc53 : v52 = 0 := hc53
        refine W.lconst0 (q := 98) X43 C at_97 rfl ?_
        refine W.lstore (q := 100) (L' := #[.val (.long p0), .second, .val (.long p1), .second, .val (.int p2), .val (.double x43), .second, .val (.double z49), .second, .val (.long v51), .second, .val (.int v52), .val (.long (0 : Int64)), .second, .unset, .unset, .unset, .unset, .unset, .unset]) X43 C at_98 rfl rfl ?_
        refine W.lload (q := 102) X43 C at_100 rfl rfl ?_
        refine W.lstore (q := 104) (L' := #[.val (.long p0), .second, .val (.long p1), .second, .val (.int p2), .val (.double x43), .second, .val (.double z49), .second, .val (.long v51), .second, .val (.int v52), .val (.long (0 : Int64)), .second, .val (.long v51), .second, .unset, .unset, .unset, .unset]) X43 C at_102 rfl rfl ?_
        refine W.goto (q := 147) X43 C at_104 (by decide) (by decide) ?_
        obtain ⟨A_, W_, H_, hpA, hpR, hpL, hpS, hpE⟩ : own_pre (0 : Int64) v51 (S_ * 2 ^ n) := own_b0 hS1 hS2 (own_x0 hex hc53)
        refine W.lload (q := 149) X43 C at_147 rfl rfl ?_
        refine W.lload (q := 151) X43 C at_149 rfl rfl ?_
        refine W.callS (q := 154) X43 C (W.ww hw 0 rfl) (W.ww hw 1 rfl) (W.ww hw 2 rfl) (W.ww hw 3 rfl) (by decide) (rm1 l Z a0 hw [] (0 : Int64) v51 A_ W_ H_ h0 n0 hpA hpR hpL hpS) e43 at_151 [(.long (0 : Int64)), (.long v51)] [] rfl rfl pd__28JJ_29D rfl rfl (by decide) (Nat.le_of_ble_eq_true rfl) (by decide) (by decide) rfl (fun T70 w70 L70 X70 hQ70 => ?_)
        obtain ⟨x70, rfl, NL70, e70, hd70⟩ := hQ70
        have N70 := Fr.app N43 NL70
        have hx70 : own_d x70 (S_ * 2 ^ n) := own_eqN hd70 hpE
        show W.Go p e below _ (T70.setTop (mkF m 154 #[.val (.long p0), .second, .val (.long p1), .second, .val (.int p2), .val (.double x43), .second, .val (.double z49), .second, .val (.long v51), .second, .val (.int v52), .val (.long (0 : Int64)), .second, .val (.long v51), .second, .unset, .unset, .unset, .unset] [(.double x70)]))
        refine W.dstore (q := 156) (L' := #[.val (.long p0), .second, .val (.long p1), .second, .val (.int p2), .val (.double x43), .second, .val (.double z49), .second, .val (.long v51), .second, .val (.int v52), .val (.long (0 : Int64)), .second, .val (.long v51), .second, .val (.double x70), .second, .unset, .unset]) X70 C at_154 rfl rfl ?_
        refine W.lload (q := 158) X70 C at_156 rfl rfl ?_
        obtain ⟨z71, hz71⟩ : ∃ z : UInt64, FP.l2d v51 = z := ⟨_, rfl⟩
        have hd71 : own_d z71 S_ := hz71 ▸ (show own_d (FP.l2d v51) S_ from own_l2d hS1 (own_rep53 (Nat.le_of_lt hS2)))
        refine W.l2d (q := 159) (v := z71) X70 C at_158 hz71 rfl ?_
        refine W.iload (q := 161) X70 C at_159 rfl rfl ?_
        refine W.callS (q := 164) X70 C (W.ww hw 7 rfl) (W.ww hw 8 rfl) (W.ww hw 9 rfl) (W.ww hw 10 rfl) (by decide) (rm2 l Z a0 hw [] v52 n h0 n0 hex h73) e70 at_161 [(.int v52)] [(.double z71)] rfl rfl pd__28I_29D rfl rfl (by decide) (Nat.le_of_ble_eq_true rfl) (by decide) (by decide) rfl (fun T72 w72 L72 X72 hQ72 => ?_)
        obtain ⟨x72, rfl, NL72, e72, hd72⟩ := hQ72
        have N72 := Fr.app N70 NL72
        show W.Go p e below _ (T72.setTop (mkF m 164 #[.val (.long p0), .second, .val (.long p1), .second, .val (.int p2), .val (.double x43), .second, .val (.double z49), .second, .val (.long v51), .second, .val (.int v52), .val (.long (0 : Int64)), .second, .val (.long v51), .second, .val (.double x70), .second, .unset, .unset] [(.double x72), (.double z71)]))
        obtain ⟨z73, hz73⟩ : ∃ z : UInt64, FP.dmul z71 x72 = z := ⟨_, rfl⟩
        have hd73 : own_d z73 (S_ * (2 ^ n)) := hz73 ▸ own_dmul hd71 hd72 (own_rep.shl (Nat.le_of_lt hS2) (by omega))
        refine W.dmul (q := 165) (v := z73) X72 C at_164 (own_no hd73) hz73 rfl ?_
        refine W.dstore (q := 167) (L' := #[.val (.long p0), .second, .val (.long p1), .second, .val (.int p2), .val (.double x43), .second, .val (.double z49), .second, .val (.long v51), .second, .val (.int v52), .val (.long (0 : Int64)), .second, .val (.long v51), .second, .val (.double x70), .second, .val (.double z73), .second]) X72 C at_165 rfl rfl ?_
        refine W.dload (q := 169) X72 C at_167 rfl rfl ?_
        refine W.dload (q := 171) X72 C at_169 rfl rfl ?_
        refine W.dcmp (q := 172) (v := 0) X72 C at_171 (by rw [show FP.dcmp x43 z49 = some .eq from own_cmp hx43 hw50]; rfl) rfl ?_
        refine W.ifF (q := 175) X72 C at_172 rfl (by decide : W.cF .ne (0 : Int32) 0) ?_
        refine W.dload (q := 177) X72 C at_175 rfl rfl ?_
        refine W.dload (q := 179) X72 C at_177 rfl rfl ?_
        refine W.dcmp (q := 180) (v := 0) X72 C at_179 (by rw [show FP.dcmp x70 z73 = some .eq from own_cmp hx70 hd73]; rfl) rfl ?_
        refine W.ifF (q := 183) X72 C at_180 rfl (by decide : W.cF .ne (0 : Int32) 0) ?_
        refine W.iconst (q := 184) (v := 1) X72 C at_183 rfl rfl ?_
        refine W.goto (q := 188) X72 C at_184 (by decide) (by decide) ?_
        exact W.retN X72 C (by simp) e72 at_188 rfl (by decide) (by decide) ⟨rfl, N72⟩
    · replace hc46 : (lcmpW v45 (1024 : Int64)).toInt ≤ (0 : Int32).toInt := hc46
      refine W.lload (q := 44) X43 C at_42 rfl rfl ?_
      refine W.ldcL (q := 47) X43 C (W.ww hw 13 rfl) at_44 rfl ?_
      refine W.lcmp (q := 48) X43 C at_47 rfl ?_
      refine W.if_ (q := 66) (q' := 51) X43 C at_48 (by decide) (by decide) rfl (fun hc76 => ?_) (fun hc76 => ?_)
      · replace hc76 : (lcmpW v45 (1024 : Int64)) ≠ 0 := hc76
        have c1 := own_cle hc46
        have c2 := own_cne hc76
        rw [hr0, own_1024] at c1
        rw [hr0, own_1024] at c2
        have hqv : v44.toInt = ((FP.Core.nearest Hw 1024) : Nat) := own_q0 hHw hq0 (by omega)
        refine W.lload (q := 68) X43 C at_66 rfl rfl ?_
        obtain ⟨z77, hz77⟩ : ∃ z : UInt64, FP.l2d v44 = z := ⟨_, rfl⟩
        have hd77 : own_d z77 (FP.Core.nearest Hw 1024) := hz77 ▸ (show own_d (FP.l2d v44) (FP.Core.nearest Hw 1024) from own_l2d hqv (own_rep53 hnl))
        refine W.l2d (q := 69) (v := z77) X43 C at_68 hz77 rfl ?_
        refine W.ldcD (q := 72) X43 C (W.ww hw 14 rfl) at_69 rfl ?_
        obtain ⟨z78, hz78⟩ : ∃ z : UInt64, FP.dmul z77 (4656722014701092864 : UInt64) = z := ⟨_, rfl⟩
        have hd78 : own_d z78 ((FP.Core.nearest Hw 1024) * 2048) := hz78 ▸ own_dmul hd77 own_c2048 (by rw [show (2048 : Nat) = 1024 * 2 from rfl, ← Nat.mul_assoc]; exact rA)
        refine W.dmul (q := 73) (v := z78) X43 C at_72 (own_no hd78) hz78 rfl ?_
        refine W.dstore (q := 75) (L' := #[.val (.long p0), .second, .val (.long p1), .second, .val (.int p2), .val (.double x43), .second, .val (.double z78), .second, .val (.long v44), .second, .val (.long v45), .second, .unset, .unset, .unset, .unset, .unset, .unset, .unset]) X43 C at_73 rfl rfl ?_
        have hw79 : own_d z78 ((FP.Core.nearest Hw 1024) * 1024 * 2) := own_eqN hd78 (by rw [Nat.mul_assoc])
        refine W.lloadN (q := 76) X43 C at_75 rfl rfl ?_
        refine W.ldcL (q := 79) X43 C (W.ww hw 5 rfl) at_76 rfl ?_
        refine W.land (q := 80) X43 C at_79 rfl ?_
        generalize hv80 : (p1 &&& (9007199254740991 : Int64)) = v80
        refine W.lstore (q := 82) (L' := #[.val (.long p0), .second, .val (.long p1), .second, .val (.int p2), .val (.double x43), .second, .val (.double z78), .second, .val (.long v80), .second, .val (.long v45), .second, .unset, .unset, .unset, .unset, .unset, .unset, .unset]) X43 C at_80 rfl rfl ?_
        obtain ⟨S_, hS1, hS2⟩ := own_sig hv80
        refine W.iload (q := 84) X43 C at_82 rfl rfl ?_
        refine W.ldcI (q := 86) X43 C (W.ww hw 6 rfl) at_84 rfl ?_
        refine W.iand (q := 87) X43 C at_86 rfl ?_
        refine W.bipush (q := 89) (v := 74) X43 C at_87 rfl rfl ?_
        refine W.irem (q := 90) X43 C at_89 (by decide) rfl ?_
        generalize hv81 : ((p2 &&& (2147483647 : Int32)) % (74 : Int32)) = v81
        refine W.istore (q := 92) (L' := #[.val (.long p0), .second, .val (.long p1), .second, .val (.int p2), .val (.double x43), .second, .val (.double z78), .second, .val (.long v80), .second, .val (.int v81), .unset, .unset, .unset, .unset, .unset, .unset, .unset, .unset]) X43 C at_90 rfl rfl ?_
        obtain ⟨n, hex, h73⟩ := own_ex hv81
        refine W.iload (q := 94) X43 C at_92 rfl rfl ?_
        refine W.if_ (q := 107) (q' := 97) X43 C at_94 (by decide) (by decide) rfl (fun hc82 => ?_) (fun hc82 => ?_)
        · replace hc82 : v81 ≠ 0 := hc82
          refine W.iload (q := 109) X43 C at_107 rfl rfl ?_
          refine W.bipush (q := 111) (v := 64) X43 C at_109 rfl rfl ?_
          refine W.icmp (q := 134) (q' := 114) X43 C at_111 (by decide) (by decide) rfl (fun hc83 => ?_) (fun hc83 => ?_)
          · replace hc83 : (64 : Int32).toInt ≤ v81.toInt := hc83
            refine W.lload (q := 136) X43 C at_134 rfl rfl ?_
            refine W.iload (q := 138) X43 C at_136 rfl rfl ?_
            refine W.bipush (q := 140) (v := 64) X43 C at_138 rfl rfl ?_
            refine W.isub (q := 141) X43 C at_140 rfl ?_
            refine W.lshl (q := 142) X43 C at_141 rfl ?_
            generalize hv84 : (v80 <<< ((v81 - (64 : Int32)) &&& 0x3f).toInt64) = v84
            refine W.lstore (q := 144) (L' := #[.val (.long p0), .second, .val (.long p1), .second, .val (.int p2), .val (.double x43), .second, .val (.double z78), .second, .val (.long v80), .second, .val (.int v81), .val (.long v84), .second, .unset, .unset, .unset, .unset, .unset, .unset]) X43 C at_142 rfl rfl ?_
            refine W.lconst0 (q := 145) X43 C at_144 rfl ?_
            refine W.lstore (q := 147) (L' := #[.val (.long p0), .second, .val (.long p1), .second, .val (.int p2), .val (.double x43), .second, .val (.double z78), .second, .val (.long v80), .second, .val (.int v81), .val (.long v84), .second, .val (.long (0 : Int64)), .second, .unset, .unset, .unset, .unset]) X43 C at_145 rfl rfl ?_
            obtain ⟨A_, W_, H_, hpA, hpR, hpL, hpS, hpE⟩ : own_pre v84 (0 : Int64) (S_ * 2 ^ n) := own_b2 hS1 hS2 hex (own_x3 hex hc83) h73 rfl hv84
            refine W.lload (q := 149) X43 C at_147 rfl rfl ?_
            refine W.lload (q := 151) X43 C at_149 rfl rfl ?_
            refine W.callS (q := 154) X43 C (W.ww hw 0 rfl) (W.ww hw 1 rfl) (W.ww hw 2 rfl) (W.ww hw 3 rfl) (by decide) (rm1 l Z a0 hw [] v84 (0 : Int64) A_ W_ H_ h0 n0 hpA hpR hpL hpS) e43 at_151 [(.long v84), (.long (0 : Int64))] [] rfl rfl pd__28JJ_29D rfl rfl (by decide) (Nat.le_of_ble_eq_true rfl) (by decide) (by decide) rfl (fun T85 w85 L85 X85 hQ85 => ?_)
            obtain ⟨x85, rfl, NL85, e85, hd85⟩ := hQ85
            have N85 := Fr.app N43 NL85
            have hx85 : own_d x85 (S_ * 2 ^ n) := own_eqN hd85 hpE
            show W.Go p e below _ (T85.setTop (mkF m 154 #[.val (.long p0), .second, .val (.long p1), .second, .val (.int p2), .val (.double x43), .second, .val (.double z78), .second, .val (.long v80), .second, .val (.int v81), .val (.long v84), .second, .val (.long (0 : Int64)), .second, .unset, .unset, .unset, .unset] [(.double x85)]))
            refine W.dstore (q := 156) (L' := #[.val (.long p0), .second, .val (.long p1), .second, .val (.int p2), .val (.double x43), .second, .val (.double z78), .second, .val (.long v80), .second, .val (.int v81), .val (.long v84), .second, .val (.long (0 : Int64)), .second, .val (.double x85), .second, .unset, .unset]) X85 C at_154 rfl rfl ?_
            refine W.lload (q := 158) X85 C at_156 rfl rfl ?_
            obtain ⟨z86, hz86⟩ : ∃ z : UInt64, FP.l2d v80 = z := ⟨_, rfl⟩
            have hd86 : own_d z86 S_ := hz86 ▸ (show own_d (FP.l2d v80) S_ from own_l2d hS1 (own_rep53 (Nat.le_of_lt hS2)))
            refine W.l2d (q := 159) (v := z86) X85 C at_158 hz86 rfl ?_
            refine W.iload (q := 161) X85 C at_159 rfl rfl ?_
            refine W.callS (q := 164) X85 C (W.ww hw 7 rfl) (W.ww hw 8 rfl) (W.ww hw 9 rfl) (W.ww hw 10 rfl) (by decide) (rm2 l Z a0 hw [] v81 n h0 n0 hex h73) e85 at_161 [(.int v81)] [(.double z86)] rfl rfl pd__28I_29D rfl rfl (by decide) (Nat.le_of_ble_eq_true rfl) (by decide) (by decide) rfl (fun T87 w87 L87 X87 hQ87 => ?_)
            obtain ⟨x87, rfl, NL87, e87, hd87⟩ := hQ87
            have N87 := Fr.app N85 NL87
            show W.Go p e below _ (T87.setTop (mkF m 164 #[.val (.long p0), .second, .val (.long p1), .second, .val (.int p2), .val (.double x43), .second, .val (.double z78), .second, .val (.long v80), .second, .val (.int v81), .val (.long v84), .second, .val (.long (0 : Int64)), .second, .val (.double x85), .second, .unset, .unset] [(.double x87), (.double z86)]))
            obtain ⟨z88, hz88⟩ : ∃ z : UInt64, FP.dmul z86 x87 = z := ⟨_, rfl⟩
            have hd88 : own_d z88 (S_ * (2 ^ n)) := hz88 ▸ own_dmul hd86 hd87 (own_rep.shl (Nat.le_of_lt hS2) (by omega))
            refine W.dmul (q := 165) (v := z88) X87 C at_164 (own_no hd88) hz88 rfl ?_
            refine W.dstore (q := 167) (L' := #[.val (.long p0), .second, .val (.long p1), .second, .val (.int p2), .val (.double x43), .second, .val (.double z78), .second, .val (.long v80), .second, .val (.int v81), .val (.long v84), .second, .val (.long (0 : Int64)), .second, .val (.double x85), .second, .val (.double z88), .second]) X87 C at_165 rfl rfl ?_
            refine W.dload (q := 169) X87 C at_167 rfl rfl ?_
            refine W.dload (q := 171) X87 C at_169 rfl rfl ?_
            refine W.dcmp (q := 172) (v := 0) X87 C at_171 (by rw [show FP.dcmp x43 z78 = some .eq from own_cmp hx43 hw79]; rfl) rfl ?_
            refine W.ifF (q := 175) X87 C at_172 rfl (by decide : W.cF .ne (0 : Int32) 0) ?_
            refine W.dload (q := 177) X87 C at_175 rfl rfl ?_
            refine W.dload (q := 179) X87 C at_177 rfl rfl ?_
            refine W.dcmp (q := 180) (v := 0) X87 C at_179 (by rw [show FP.dcmp x85 z88 = some .eq from own_cmp hx85 hd88]; rfl) rfl ?_
            refine W.ifF (q := 183) X87 C at_180 rfl (by decide : W.cF .ne (0 : Int32) 0) ?_
            refine W.iconst (q := 184) (v := 1) X87 C at_183 rfl rfl ?_
            refine W.goto (q := 188) X87 C at_184 (by decide) (by decide) ?_
            exact W.retN X87 C (by simp) e87 at_188 rfl (by decide) (by decide) ⟨rfl, N87⟩
          · replace hc83 : v81.toInt < (64 : Int32).toInt := hc83
            refine W.lload (q := 116) X43 C at_114 rfl rfl ?_
            refine W.bipush (q := 118) (v := 64) X43 C at_116 rfl rfl ?_
            refine W.iload (q := 120) X43 C at_118 rfl rfl ?_
            refine W.isub (q := 121) X43 C at_120 rfl ?_
            refine W.lushr (q := 122) X43 C at_121 rfl ?_
            generalize hv91 : ((v80.toUInt64 >>> (((64 : Int32) - v81) &&& 0x3f).toInt64.toUInt64).toInt64) = v91
            refine W.lstore (q := 124) (L' := #[.val (.long p0), .second, .val (.long p1), .second, .val (.int p2), .val (.double x43), .second, .val (.double z78), .second, .val (.long v80), .second, .val (.int v81), .val (.long v91), .second, .unset, .unset, .unset, .unset, .unset, .unset]) X43 C at_122 rfl rfl ?_
            refine W.lload (q := 126) X43 C at_124 rfl rfl ?_
            refine W.iload (q := 128) X43 C at_126 rfl rfl ?_
            refine W.lshl (q := 129) X43 C at_128 rfl ?_
            generalize hv92 : (v80 <<< (v81 &&& 0x3f).toInt64) = v92
            refine W.lstore (q := 131) (L' := #[.val (.long p0), .second, .val (.long p1), .second, .val (.int p2), .val (.double x43), .second, .val (.double z78), .second, .val (.long v80), .second, .val (.int v81), .val (.long v91), .second, .val (.long v92), .second, .unset, .unset, .unset, .unset]) X43 C at_129 rfl rfl ?_
            refine W.goto (q := 147) X43 C at_131 (by decide) (by decide) ?_
            obtain ⟨A_, W_, H_, hpA, hpR, hpL, hpS, hpE⟩ : own_pre v91 v92 (S_ * 2 ^ n) := own_b1 hS1 hS2 hex (own_x1 hex hc82) (own_x2 hex hc83) rfl hv91 hv92
            refine W.lload (q := 149) X43 C at_147 rfl rfl ?_
            refine W.lload (q := 151) X43 C at_149 rfl rfl ?_
            refine W.callS (q := 154) X43 C (W.ww hw 0 rfl) (W.ww hw 1 rfl) (W.ww hw 2 rfl) (W.ww hw 3 rfl) (by decide) (rm1 l Z a0 hw [] v91 v92 A_ W_ H_ h0 n0 hpA hpR hpL hpS) e43 at_151 [(.long v91), (.long v92)] [] rfl rfl pd__28JJ_29D rfl rfl (by decide) (Nat.le_of_ble_eq_true rfl) (by decide) (by decide) rfl (fun T93 w93 L93 X93 hQ93 => ?_)
            obtain ⟨x93, rfl, NL93, e93, hd93⟩ := hQ93
            have N93 := Fr.app N43 NL93
            have hx93 : own_d x93 (S_ * 2 ^ n) := own_eqN hd93 hpE
            show W.Go p e below _ (T93.setTop (mkF m 154 #[.val (.long p0), .second, .val (.long p1), .second, .val (.int p2), .val (.double x43), .second, .val (.double z78), .second, .val (.long v80), .second, .val (.int v81), .val (.long v91), .second, .val (.long v92), .second, .unset, .unset, .unset, .unset] [(.double x93)]))
            refine W.dstore (q := 156) (L' := #[.val (.long p0), .second, .val (.long p1), .second, .val (.int p2), .val (.double x43), .second, .val (.double z78), .second, .val (.long v80), .second, .val (.int v81), .val (.long v91), .second, .val (.long v92), .second, .val (.double x93), .second, .unset, .unset]) X93 C at_154 rfl rfl ?_
            refine W.lload (q := 158) X93 C at_156 rfl rfl ?_
            obtain ⟨z94, hz94⟩ : ∃ z : UInt64, FP.l2d v80 = z := ⟨_, rfl⟩
            have hd94 : own_d z94 S_ := hz94 ▸ (show own_d (FP.l2d v80) S_ from own_l2d hS1 (own_rep53 (Nat.le_of_lt hS2)))
            refine W.l2d (q := 159) (v := z94) X93 C at_158 hz94 rfl ?_
            refine W.iload (q := 161) X93 C at_159 rfl rfl ?_
            refine W.callS (q := 164) X93 C (W.ww hw 7 rfl) (W.ww hw 8 rfl) (W.ww hw 9 rfl) (W.ww hw 10 rfl) (by decide) (rm2 l Z a0 hw [] v81 n h0 n0 hex h73) e93 at_161 [(.int v81)] [(.double z94)] rfl rfl pd__28I_29D rfl rfl (by decide) (Nat.le_of_ble_eq_true rfl) (by decide) (by decide) rfl (fun T95 w95 L95 X95 hQ95 => ?_)
            obtain ⟨x95, rfl, NL95, e95, hd95⟩ := hQ95
            have N95 := Fr.app N93 NL95
            show W.Go p e below _ (T95.setTop (mkF m 164 #[.val (.long p0), .second, .val (.long p1), .second, .val (.int p2), .val (.double x43), .second, .val (.double z78), .second, .val (.long v80), .second, .val (.int v81), .val (.long v91), .second, .val (.long v92), .second, .val (.double x93), .second, .unset, .unset] [(.double x95), (.double z94)]))
            obtain ⟨z96, hz96⟩ : ∃ z : UInt64, FP.dmul z94 x95 = z := ⟨_, rfl⟩
            have hd96 : own_d z96 (S_ * (2 ^ n)) := hz96 ▸ own_dmul hd94 hd95 (own_rep.shl (Nat.le_of_lt hS2) (by omega))
            refine W.dmul (q := 165) (v := z96) X95 C at_164 (own_no hd96) hz96 rfl ?_
            refine W.dstore (q := 167) (L' := #[.val (.long p0), .second, .val (.long p1), .second, .val (.int p2), .val (.double x43), .second, .val (.double z78), .second, .val (.long v80), .second, .val (.int v81), .val (.long v91), .second, .val (.long v92), .second, .val (.double x93), .second, .val (.double z96), .second]) X95 C at_165 rfl rfl ?_
            refine W.dload (q := 169) X95 C at_167 rfl rfl ?_
            refine W.dload (q := 171) X95 C at_169 rfl rfl ?_
            refine W.dcmp (q := 172) (v := 0) X95 C at_171 (by rw [show FP.dcmp x43 z78 = some .eq from own_cmp hx43 hw79]; rfl) rfl ?_
            refine W.ifF (q := 175) X95 C at_172 rfl (by decide : W.cF .ne (0 : Int32) 0) ?_
            refine W.dload (q := 177) X95 C at_175 rfl rfl ?_
            refine W.dload (q := 179) X95 C at_177 rfl rfl ?_
            refine W.dcmp (q := 180) (v := 0) X95 C at_179 (by rw [show FP.dcmp x93 z96 = some .eq from own_cmp hx93 hd96]; rfl) rfl ?_
            refine W.ifF (q := 183) X95 C at_180 rfl (by decide : W.cF .ne (0 : Int32) 0) ?_
            refine W.iconst (q := 184) (v := 1) X95 C at_183 rfl rfl ?_
            refine W.goto (q := 188) X95 C at_184 (by decide) (by decide) ?_
            exact W.retN X95 C (by simp) e95 at_188 rfl (by decide) (by decide) ⟨rfl, N95⟩
        · replace hc82 : v81 = 0 := hc82
          refine W.lconst0 (q := 98) X43 C at_97 rfl ?_
          refine W.lstore (q := 100) (L' := #[.val (.long p0), .second, .val (.long p1), .second, .val (.int p2), .val (.double x43), .second, .val (.double z78), .second, .val (.long v80), .second, .val (.int v81), .val (.long (0 : Int64)), .second, .unset, .unset, .unset, .unset, .unset, .unset]) X43 C at_98 rfl rfl ?_
          refine W.lload (q := 102) X43 C at_100 rfl rfl ?_
          refine W.lstore (q := 104) (L' := #[.val (.long p0), .second, .val (.long p1), .second, .val (.int p2), .val (.double x43), .second, .val (.double z78), .second, .val (.long v80), .second, .val (.int v81), .val (.long (0 : Int64)), .second, .val (.long v80), .second, .unset, .unset, .unset, .unset]) X43 C at_102 rfl rfl ?_
          refine W.goto (q := 147) X43 C at_104 (by decide) (by decide) ?_
          obtain ⟨A_, W_, H_, hpA, hpR, hpL, hpS, hpE⟩ : own_pre (0 : Int64) v80 (S_ * 2 ^ n) := own_b0 hS1 hS2 (own_x0 hex hc82)
          refine W.lload (q := 149) X43 C at_147 rfl rfl ?_
          refine W.lload (q := 151) X43 C at_149 rfl rfl ?_
          refine W.callS (q := 154) X43 C (W.ww hw 0 rfl) (W.ww hw 1 rfl) (W.ww hw 2 rfl) (W.ww hw 3 rfl) (by decide) (rm1 l Z a0 hw [] (0 : Int64) v80 A_ W_ H_ h0 n0 hpA hpR hpL hpS) e43 at_151 [(.long (0 : Int64)), (.long v80)] [] rfl rfl pd__28JJ_29D rfl rfl (by decide) (Nat.le_of_ble_eq_true rfl) (by decide) (by decide) rfl (fun T99 w99 L99 X99 hQ99 => ?_)
          obtain ⟨x99, rfl, NL99, e99, hd99⟩ := hQ99
          have N99 := Fr.app N43 NL99
          have hx99 : own_d x99 (S_ * 2 ^ n) := own_eqN hd99 hpE
          show W.Go p e below _ (T99.setTop (mkF m 154 #[.val (.long p0), .second, .val (.long p1), .second, .val (.int p2), .val (.double x43), .second, .val (.double z78), .second, .val (.long v80), .second, .val (.int v81), .val (.long (0 : Int64)), .second, .val (.long v80), .second, .unset, .unset, .unset, .unset] [(.double x99)]))
          refine W.dstore (q := 156) (L' := #[.val (.long p0), .second, .val (.long p1), .second, .val (.int p2), .val (.double x43), .second, .val (.double z78), .second, .val (.long v80), .second, .val (.int v81), .val (.long (0 : Int64)), .second, .val (.long v80), .second, .val (.double x99), .second, .unset, .unset]) X99 C at_154 rfl rfl ?_
          refine W.lload (q := 158) X99 C at_156 rfl rfl ?_
          obtain ⟨z100, hz100⟩ : ∃ z : UInt64, FP.l2d v80 = z := ⟨_, rfl⟩
          have hd100 : own_d z100 S_ := hz100 ▸ (show own_d (FP.l2d v80) S_ from own_l2d hS1 (own_rep53 (Nat.le_of_lt hS2)))
          refine W.l2d (q := 159) (v := z100) X99 C at_158 hz100 rfl ?_
          refine W.iload (q := 161) X99 C at_159 rfl rfl ?_
          refine W.callS (q := 164) X99 C (W.ww hw 7 rfl) (W.ww hw 8 rfl) (W.ww hw 9 rfl) (W.ww hw 10 rfl) (by decide) (rm2 l Z a0 hw [] v81 n h0 n0 hex h73) e99 at_161 [(.int v81)] [(.double z100)] rfl rfl pd__28I_29D rfl rfl (by decide) (Nat.le_of_ble_eq_true rfl) (by decide) (by decide) rfl (fun T101 w101 L101 X101 hQ101 => ?_)
          obtain ⟨x101, rfl, NL101, e101, hd101⟩ := hQ101
          have N101 := Fr.app N99 NL101
          show W.Go p e below _ (T101.setTop (mkF m 164 #[.val (.long p0), .second, .val (.long p1), .second, .val (.int p2), .val (.double x43), .second, .val (.double z78), .second, .val (.long v80), .second, .val (.int v81), .val (.long (0 : Int64)), .second, .val (.long v80), .second, .val (.double x99), .second, .unset, .unset] [(.double x101), (.double z100)]))
          obtain ⟨z102, hz102⟩ : ∃ z : UInt64, FP.dmul z100 x101 = z := ⟨_, rfl⟩
          have hd102 : own_d z102 (S_ * (2 ^ n)) := hz102 ▸ own_dmul hd100 hd101 (own_rep.shl (Nat.le_of_lt hS2) (by omega))
          refine W.dmul (q := 165) (v := z102) X101 C at_164 (own_no hd102) hz102 rfl ?_
          refine W.dstore (q := 167) (L' := #[.val (.long p0), .second, .val (.long p1), .second, .val (.int p2), .val (.double x43), .second, .val (.double z78), .second, .val (.long v80), .second, .val (.int v81), .val (.long (0 : Int64)), .second, .val (.long v80), .second, .val (.double x99), .second, .val (.double z102), .second]) X101 C at_165 rfl rfl ?_
          refine W.dload (q := 169) X101 C at_167 rfl rfl ?_
          refine W.dload (q := 171) X101 C at_169 rfl rfl ?_
          refine W.dcmp (q := 172) (v := 0) X101 C at_171 (by rw [show FP.dcmp x43 z78 = some .eq from own_cmp hx43 hw79]; rfl) rfl ?_
          refine W.ifF (q := 175) X101 C at_172 rfl (by decide : W.cF .ne (0 : Int32) 0) ?_
          refine W.dload (q := 177) X101 C at_175 rfl rfl ?_
          refine W.dload (q := 179) X101 C at_177 rfl rfl ?_
          refine W.dcmp (q := 180) (v := 0) X101 C at_179 (by rw [show FP.dcmp x99 z102 = some .eq from own_cmp hx99 hd102]; rfl) rfl ?_
          refine W.ifF (q := 183) X101 C at_180 rfl (by decide : W.cF .ne (0 : Int32) 0) ?_
          refine W.iconst (q := 184) (v := 1) X101 C at_183 rfl rfl ?_
          refine W.goto (q := 188) X101 C at_184 (by decide) (by decide) ?_
          exact W.retN X101 C (by simp) e101 at_188 rfl (by decide) (by decide) ⟨rfl, N101⟩
      · replace hc76 : (lcmpW v45 (1024 : Int64)) = 0 := hc76
        refine W.lload (q := 53) X43 C at_51 rfl rfl ?_
        refine W.lconst1 (q := 54) X43 C at_53 rfl ?_
        refine W.land (q := 55) X43 C at_54 rfl ?_
        refine W.lconst1 (q := 56) X43 C at_55 rfl ?_
        refine W.lcmp (q := 57) X43 C at_56 rfl ?_
        refine W.if_ (q := 66) (q' := 60) X43 C at_57 (by decide) (by decide) rfl (fun hc105 => ?_) (fun hc105 => ?_)
        · replace hc105 : (lcmpW (v44 &&& (1 : Int64)) (1 : Int64)) ≠ 0 := hc105
          have c1 := own_cle hc46
          have c2 := own_ceq hc76
          have c3 := own_cne hc105
          rw [own_odd hq0, own_one] at c3
          rw [hr0, own_1024] at c1
          rw [hr0, own_1024] at c2
          have hqv : v44.toInt = ((FP.Core.nearest Hw 1024) : Nat) := own_q0 hHw hq0 (by omega)
          refine W.lload (q := 68) X43 C at_66 rfl rfl ?_
          obtain ⟨z106, hz106⟩ : ∃ z : UInt64, FP.l2d v44 = z := ⟨_, rfl⟩
          have hd106 : own_d z106 (FP.Core.nearest Hw 1024) := hz106 ▸ (show own_d (FP.l2d v44) (FP.Core.nearest Hw 1024) from own_l2d hqv (own_rep53 hnl))
          refine W.l2d (q := 69) (v := z106) X43 C at_68 hz106 rfl ?_
          refine W.ldcD (q := 72) X43 C (W.ww hw 14 rfl) at_69 rfl ?_
          obtain ⟨z107, hz107⟩ : ∃ z : UInt64, FP.dmul z106 (4656722014701092864 : UInt64) = z := ⟨_, rfl⟩
          have hd107 : own_d z107 ((FP.Core.nearest Hw 1024) * 2048) := hz107 ▸ own_dmul hd106 own_c2048 (by rw [show (2048 : Nat) = 1024 * 2 from rfl, ← Nat.mul_assoc]; exact rA)
          refine W.dmul (q := 73) (v := z107) X43 C at_72 (own_no hd107) hz107 rfl ?_
          refine W.dstore (q := 75) (L' := #[.val (.long p0), .second, .val (.long p1), .second, .val (.int p2), .val (.double x43), .second, .val (.double z107), .second, .val (.long v44), .second, .val (.long v45), .second, .unset, .unset, .unset, .unset, .unset, .unset, .unset]) X43 C at_73 rfl rfl ?_
          have hw108 : own_d z107 ((FP.Core.nearest Hw 1024) * 1024 * 2) := own_eqN hd107 (by rw [Nat.mul_assoc])
          refine W.lloadN (q := 76) X43 C at_75 rfl rfl ?_
          refine W.ldcL (q := 79) X43 C (W.ww hw 5 rfl) at_76 rfl ?_
          refine W.land (q := 80) X43 C at_79 rfl ?_
          generalize hv109 : (p1 &&& (9007199254740991 : Int64)) = v109
          refine W.lstore (q := 82) (L' := #[.val (.long p0), .second, .val (.long p1), .second, .val (.int p2), .val (.double x43), .second, .val (.double z107), .second, .val (.long v109), .second, .val (.long v45), .second, .unset, .unset, .unset, .unset, .unset, .unset, .unset]) X43 C at_80 rfl rfl ?_
          obtain ⟨S_, hS1, hS2⟩ := own_sig hv109
          refine W.iload (q := 84) X43 C at_82 rfl rfl ?_
          refine W.ldcI (q := 86) X43 C (W.ww hw 6 rfl) at_84 rfl ?_
          refine W.iand (q := 87) X43 C at_86 rfl ?_
          refine W.bipush (q := 89) (v := 74) X43 C at_87 rfl rfl ?_
          refine W.irem (q := 90) X43 C at_89 (by decide) rfl ?_
          generalize hv110 : ((p2 &&& (2147483647 : Int32)) % (74 : Int32)) = v110
          refine W.istore (q := 92) (L' := #[.val (.long p0), .second, .val (.long p1), .second, .val (.int p2), .val (.double x43), .second, .val (.double z107), .second, .val (.long v109), .second, .val (.int v110), .unset, .unset, .unset, .unset, .unset, .unset, .unset, .unset]) X43 C at_90 rfl rfl ?_
          obtain ⟨n, hex, h73⟩ := own_ex hv110
          refine W.iload (q := 94) X43 C at_92 rfl rfl ?_
          refine W.if_ (q := 107) (q' := 97) X43 C at_94 (by decide) (by decide) rfl (fun hc111 => ?_) (fun hc111 => ?_)
          · replace hc111 : v110 ≠ 0 := hc111
            refine W.iload (q := 109) X43 C at_107 rfl rfl ?_
            refine W.bipush (q := 111) (v := 64) X43 C at_109 rfl rfl ?_
            refine W.icmp (q := 134) (q' := 114) X43 C at_111 (by decide) (by decide) rfl (fun hc112 => ?_) (fun hc112 => ?_)
            · replace hc112 : (64 : Int32).toInt ≤ v110.toInt := hc112
              refine W.lload (q := 136) X43 C at_134 rfl rfl ?_
              refine W.iload (q := 138) X43 C at_136 rfl rfl ?_
              refine W.bipush (q := 140) (v := 64) X43 C at_138 rfl rfl ?_
              refine W.isub (q := 141) X43 C at_140 rfl ?_
              refine W.lshl (q := 142) X43 C at_141 rfl ?_
              generalize hv113 : (v109 <<< ((v110 - (64 : Int32)) &&& 0x3f).toInt64) = v113
              refine W.lstore (q := 144) (L' := #[.val (.long p0), .second, .val (.long p1), .second, .val (.int p2), .val (.double x43), .second, .val (.double z107), .second, .val (.long v109), .second, .val (.int v110), .val (.long v113), .second, .unset, .unset, .unset, .unset, .unset, .unset]) X43 C at_142 rfl rfl ?_
              refine W.lconst0 (q := 145) X43 C at_144 rfl ?_
              refine W.lstore (q := 147) (L' := #[.val (.long p0), .second, .val (.long p1), .second, .val (.int p2), .val (.double x43), .second, .val (.double z107), .second, .val (.long v109), .second, .val (.int v110), .val (.long v113), .second, .val (.long (0 : Int64)), .second, .unset, .unset, .unset, .unset]) X43 C at_145 rfl rfl ?_
              obtain ⟨A_, W_, H_, hpA, hpR, hpL, hpS, hpE⟩ : own_pre v113 (0 : Int64) (S_ * 2 ^ n) := own_b2 hS1 hS2 hex (own_x3 hex hc112) h73 rfl hv113
              refine W.lload (q := 149) X43 C at_147 rfl rfl ?_
              refine W.lload (q := 151) X43 C at_149 rfl rfl ?_
              refine W.callS (q := 154) X43 C (W.ww hw 0 rfl) (W.ww hw 1 rfl) (W.ww hw 2 rfl) (W.ww hw 3 rfl) (by decide) (rm1 l Z a0 hw [] v113 (0 : Int64) A_ W_ H_ h0 n0 hpA hpR hpL hpS) e43 at_151 [(.long v113), (.long (0 : Int64))] [] rfl rfl pd__28JJ_29D rfl rfl (by decide) (Nat.le_of_ble_eq_true rfl) (by decide) (by decide) rfl (fun T114 w114 L114 X114 hQ114 => ?_)
              obtain ⟨x114, rfl, NL114, e114, hd114⟩ := hQ114
              have N114 := Fr.app N43 NL114
              have hx114 : own_d x114 (S_ * 2 ^ n) := own_eqN hd114 hpE
              show W.Go p e below _ (T114.setTop (mkF m 154 #[.val (.long p0), .second, .val (.long p1), .second, .val (.int p2), .val (.double x43), .second, .val (.double z107), .second, .val (.long v109), .second, .val (.int v110), .val (.long v113), .second, .val (.long (0 : Int64)), .second, .unset, .unset, .unset, .unset] [(.double x114)]))
              refine W.dstore (q := 156) (L' := #[.val (.long p0), .second, .val (.long p1), .second, .val (.int p2), .val (.double x43), .second, .val (.double z107), .second, .val (.long v109), .second, .val (.int v110), .val (.long v113), .second, .val (.long (0 : Int64)), .second, .val (.double x114), .second, .unset, .unset]) X114 C at_154 rfl rfl ?_
              refine W.lload (q := 158) X114 C at_156 rfl rfl ?_
              obtain ⟨z115, hz115⟩ : ∃ z : UInt64, FP.l2d v109 = z := ⟨_, rfl⟩
              have hd115 : own_d z115 S_ := hz115 ▸ (show own_d (FP.l2d v109) S_ from own_l2d hS1 (own_rep53 (Nat.le_of_lt hS2)))
              refine W.l2d (q := 159) (v := z115) X114 C at_158 hz115 rfl ?_
              refine W.iload (q := 161) X114 C at_159 rfl rfl ?_
              refine W.callS (q := 164) X114 C (W.ww hw 7 rfl) (W.ww hw 8 rfl) (W.ww hw 9 rfl) (W.ww hw 10 rfl) (by decide) (rm2 l Z a0 hw [] v110 n h0 n0 hex h73) e114 at_161 [(.int v110)] [(.double z115)] rfl rfl pd__28I_29D rfl rfl (by decide) (Nat.le_of_ble_eq_true rfl) (by decide) (by decide) rfl (fun T116 w116 L116 X116 hQ116 => ?_)
              obtain ⟨x116, rfl, NL116, e116, hd116⟩ := hQ116
              have N116 := Fr.app N114 NL116
              show W.Go p e below _ (T116.setTop (mkF m 164 #[.val (.long p0), .second, .val (.long p1), .second, .val (.int p2), .val (.double x43), .second, .val (.double z107), .second, .val (.long v109), .second, .val (.int v110), .val (.long v113), .second, .val (.long (0 : Int64)), .second, .val (.double x114), .second, .unset, .unset] [(.double x116), (.double z115)]))
              obtain ⟨z117, hz117⟩ : ∃ z : UInt64, FP.dmul z115 x116 = z := ⟨_, rfl⟩
              have hd117 : own_d z117 (S_ * (2 ^ n)) := hz117 ▸ own_dmul hd115 hd116 (own_rep.shl (Nat.le_of_lt hS2) (by omega))
              refine W.dmul (q := 165) (v := z117) X116 C at_164 (own_no hd117) hz117 rfl ?_
              refine W.dstore (q := 167) (L' := #[.val (.long p0), .second, .val (.long p1), .second, .val (.int p2), .val (.double x43), .second, .val (.double z107), .second, .val (.long v109), .second, .val (.int v110), .val (.long v113), .second, .val (.long (0 : Int64)), .second, .val (.double x114), .second, .val (.double z117), .second]) X116 C at_165 rfl rfl ?_
              refine W.dload (q := 169) X116 C at_167 rfl rfl ?_
              refine W.dload (q := 171) X116 C at_169 rfl rfl ?_
              refine W.dcmp (q := 172) (v := 0) X116 C at_171 (by rw [show FP.dcmp x43 z107 = some .eq from own_cmp hx43 hw108]; rfl) rfl ?_
              refine W.ifF (q := 175) X116 C at_172 rfl (by decide : W.cF .ne (0 : Int32) 0) ?_
              refine W.dload (q := 177) X116 C at_175 rfl rfl ?_
              refine W.dload (q := 179) X116 C at_177 rfl rfl ?_
              refine W.dcmp (q := 180) (v := 0) X116 C at_179 (by rw [show FP.dcmp x114 z117 = some .eq from own_cmp hx114 hd117]; rfl) rfl ?_
              refine W.ifF (q := 183) X116 C at_180 rfl (by decide : W.cF .ne (0 : Int32) 0) ?_
              refine W.iconst (q := 184) (v := 1) X116 C at_183 rfl rfl ?_
              refine W.goto (q := 188) X116 C at_184 (by decide) (by decide) ?_
              exact W.retN X116 C (by simp) e116 at_188 rfl (by decide) (by decide) ⟨rfl, N116⟩
            · replace hc112 : v110.toInt < (64 : Int32).toInt := hc112
              refine W.lload (q := 116) X43 C at_114 rfl rfl ?_
              refine W.bipush (q := 118) (v := 64) X43 C at_116 rfl rfl ?_
              refine W.iload (q := 120) X43 C at_118 rfl rfl ?_
              refine W.isub (q := 121) X43 C at_120 rfl ?_
              refine W.lushr (q := 122) X43 C at_121 rfl ?_
              generalize hv120 : ((v109.toUInt64 >>> (((64 : Int32) - v110) &&& 0x3f).toInt64.toUInt64).toInt64) = v120
              refine W.lstore (q := 124) (L' := #[.val (.long p0), .second, .val (.long p1), .second, .val (.int p2), .val (.double x43), .second, .val (.double z107), .second, .val (.long v109), .second, .val (.int v110), .val (.long v120), .second, .unset, .unset, .unset, .unset, .unset, .unset]) X43 C at_122 rfl rfl ?_
              refine W.lload (q := 126) X43 C at_124 rfl rfl ?_
              refine W.iload (q := 128) X43 C at_126 rfl rfl ?_
              refine W.lshl (q := 129) X43 C at_128 rfl ?_
              generalize hv121 : (v109 <<< (v110 &&& 0x3f).toInt64) = v121
              refine W.lstore (q := 131) (L' := #[.val (.long p0), .second, .val (.long p1), .second, .val (.int p2), .val (.double x43), .second, .val (.double z107), .second, .val (.long v109), .second, .val (.int v110), .val (.long v120), .second, .val (.long v121), .second, .unset, .unset, .unset, .unset]) X43 C at_129 rfl rfl ?_
              refine W.goto (q := 147) X43 C at_131 (by decide) (by decide) ?_
              obtain ⟨A_, W_, H_, hpA, hpR, hpL, hpS, hpE⟩ : own_pre v120 v121 (S_ * 2 ^ n) := own_b1 hS1 hS2 hex (own_x1 hex hc111) (own_x2 hex hc112) rfl hv120 hv121
              refine W.lload (q := 149) X43 C at_147 rfl rfl ?_
              refine W.lload (q := 151) X43 C at_149 rfl rfl ?_
              refine W.callS (q := 154) X43 C (W.ww hw 0 rfl) (W.ww hw 1 rfl) (W.ww hw 2 rfl) (W.ww hw 3 rfl) (by decide) (rm1 l Z a0 hw [] v120 v121 A_ W_ H_ h0 n0 hpA hpR hpL hpS) e43 at_151 [(.long v120), (.long v121)] [] rfl rfl pd__28JJ_29D rfl rfl (by decide) (Nat.le_of_ble_eq_true rfl) (by decide) (by decide) rfl (fun T122 w122 L122 X122 hQ122 => ?_)
              obtain ⟨x122, rfl, NL122, e122, hd122⟩ := hQ122
              have N122 := Fr.app N43 NL122
              have hx122 : own_d x122 (S_ * 2 ^ n) := own_eqN hd122 hpE
              show W.Go p e below _ (T122.setTop (mkF m 154 #[.val (.long p0), .second, .val (.long p1), .second, .val (.int p2), .val (.double x43), .second, .val (.double z107), .second, .val (.long v109), .second, .val (.int v110), .val (.long v120), .second, .val (.long v121), .second, .unset, .unset, .unset, .unset] [(.double x122)]))
              refine W.dstore (q := 156) (L' := #[.val (.long p0), .second, .val (.long p1), .second, .val (.int p2), .val (.double x43), .second, .val (.double z107), .second, .val (.long v109), .second, .val (.int v110), .val (.long v120), .second, .val (.long v121), .second, .val (.double x122), .second, .unset, .unset]) X122 C at_154 rfl rfl ?_
              refine W.lload (q := 158) X122 C at_156 rfl rfl ?_
              obtain ⟨z123, hz123⟩ : ∃ z : UInt64, FP.l2d v109 = z := ⟨_, rfl⟩
              have hd123 : own_d z123 S_ := hz123 ▸ (show own_d (FP.l2d v109) S_ from own_l2d hS1 (own_rep53 (Nat.le_of_lt hS2)))
              refine W.l2d (q := 159) (v := z123) X122 C at_158 hz123 rfl ?_
              refine W.iload (q := 161) X122 C at_159 rfl rfl ?_
              refine W.callS (q := 164) X122 C (W.ww hw 7 rfl) (W.ww hw 8 rfl) (W.ww hw 9 rfl) (W.ww hw 10 rfl) (by decide) (rm2 l Z a0 hw [] v110 n h0 n0 hex h73) e122 at_161 [(.int v110)] [(.double z123)] rfl rfl pd__28I_29D rfl rfl (by decide) (Nat.le_of_ble_eq_true rfl) (by decide) (by decide) rfl (fun T124 w124 L124 X124 hQ124 => ?_)
              obtain ⟨x124, rfl, NL124, e124, hd124⟩ := hQ124
              have N124 := Fr.app N122 NL124
              show W.Go p e below _ (T124.setTop (mkF m 164 #[.val (.long p0), .second, .val (.long p1), .second, .val (.int p2), .val (.double x43), .second, .val (.double z107), .second, .val (.long v109), .second, .val (.int v110), .val (.long v120), .second, .val (.long v121), .second, .val (.double x122), .second, .unset, .unset] [(.double x124), (.double z123)]))
              obtain ⟨z125, hz125⟩ : ∃ z : UInt64, FP.dmul z123 x124 = z := ⟨_, rfl⟩
              have hd125 : own_d z125 (S_ * (2 ^ n)) := hz125 ▸ own_dmul hd123 hd124 (own_rep.shl (Nat.le_of_lt hS2) (by omega))
              refine W.dmul (q := 165) (v := z125) X124 C at_164 (own_no hd125) hz125 rfl ?_
              refine W.dstore (q := 167) (L' := #[.val (.long p0), .second, .val (.long p1), .second, .val (.int p2), .val (.double x43), .second, .val (.double z107), .second, .val (.long v109), .second, .val (.int v110), .val (.long v120), .second, .val (.long v121), .second, .val (.double x122), .second, .val (.double z125), .second]) X124 C at_165 rfl rfl ?_
              refine W.dload (q := 169) X124 C at_167 rfl rfl ?_
              refine W.dload (q := 171) X124 C at_169 rfl rfl ?_
              refine W.dcmp (q := 172) (v := 0) X124 C at_171 (by rw [show FP.dcmp x43 z107 = some .eq from own_cmp hx43 hw108]; rfl) rfl ?_
              refine W.ifF (q := 175) X124 C at_172 rfl (by decide : W.cF .ne (0 : Int32) 0) ?_
              refine W.dload (q := 177) X124 C at_175 rfl rfl ?_
              refine W.dload (q := 179) X124 C at_177 rfl rfl ?_
              refine W.dcmp (q := 180) (v := 0) X124 C at_179 (by rw [show FP.dcmp x122 z125 = some .eq from own_cmp hx122 hd125]; rfl) rfl ?_
              refine W.ifF (q := 183) X124 C at_180 rfl (by decide : W.cF .ne (0 : Int32) 0) ?_
              refine W.iconst (q := 184) (v := 1) X124 C at_183 rfl rfl ?_
              refine W.goto (q := 188) X124 C at_184 (by decide) (by decide) ?_
              exact W.retN X124 C (by simp) e124 at_188 rfl (by decide) (by decide) ⟨rfl, N124⟩
          · replace hc111 : v110 = 0 := hc111
            refine W.lconst0 (q := 98) X43 C at_97 rfl ?_
            refine W.lstore (q := 100) (L' := #[.val (.long p0), .second, .val (.long p1), .second, .val (.int p2), .val (.double x43), .second, .val (.double z107), .second, .val (.long v109), .second, .val (.int v110), .val (.long (0 : Int64)), .second, .unset, .unset, .unset, .unset, .unset, .unset]) X43 C at_98 rfl rfl ?_
            refine W.lload (q := 102) X43 C at_100 rfl rfl ?_
            refine W.lstore (q := 104) (L' := #[.val (.long p0), .second, .val (.long p1), .second, .val (.int p2), .val (.double x43), .second, .val (.double z107), .second, .val (.long v109), .second, .val (.int v110), .val (.long (0 : Int64)), .second, .val (.long v109), .second, .unset, .unset, .unset, .unset]) X43 C at_102 rfl rfl ?_
            refine W.goto (q := 147) X43 C at_104 (by decide) (by decide) ?_
            obtain ⟨A_, W_, H_, hpA, hpR, hpL, hpS, hpE⟩ : own_pre (0 : Int64) v109 (S_ * 2 ^ n) := own_b0 hS1 hS2 (own_x0 hex hc111)
            refine W.lload (q := 149) X43 C at_147 rfl rfl ?_
            refine W.lload (q := 151) X43 C at_149 rfl rfl ?_
            refine W.callS (q := 154) X43 C (W.ww hw 0 rfl) (W.ww hw 1 rfl) (W.ww hw 2 rfl) (W.ww hw 3 rfl) (by decide) (rm1 l Z a0 hw [] (0 : Int64) v109 A_ W_ H_ h0 n0 hpA hpR hpL hpS) e43 at_151 [(.long (0 : Int64)), (.long v109)] [] rfl rfl pd__28JJ_29D rfl rfl (by decide) (Nat.le_of_ble_eq_true rfl) (by decide) (by decide) rfl (fun T128 w128 L128 X128 hQ128 => ?_)
            obtain ⟨x128, rfl, NL128, e128, hd128⟩ := hQ128
            have N128 := Fr.app N43 NL128
            have hx128 : own_d x128 (S_ * 2 ^ n) := own_eqN hd128 hpE
            show W.Go p e below _ (T128.setTop (mkF m 154 #[.val (.long p0), .second, .val (.long p1), .second, .val (.int p2), .val (.double x43), .second, .val (.double z107), .second, .val (.long v109), .second, .val (.int v110), .val (.long (0 : Int64)), .second, .val (.long v109), .second, .unset, .unset, .unset, .unset] [(.double x128)]))
            refine W.dstore (q := 156) (L' := #[.val (.long p0), .second, .val (.long p1), .second, .val (.int p2), .val (.double x43), .second, .val (.double z107), .second, .val (.long v109), .second, .val (.int v110), .val (.long (0 : Int64)), .second, .val (.long v109), .second, .val (.double x128), .second, .unset, .unset]) X128 C at_154 rfl rfl ?_
            refine W.lload (q := 158) X128 C at_156 rfl rfl ?_
            obtain ⟨z129, hz129⟩ : ∃ z : UInt64, FP.l2d v109 = z := ⟨_, rfl⟩
            have hd129 : own_d z129 S_ := hz129 ▸ (show own_d (FP.l2d v109) S_ from own_l2d hS1 (own_rep53 (Nat.le_of_lt hS2)))
            refine W.l2d (q := 159) (v := z129) X128 C at_158 hz129 rfl ?_
            refine W.iload (q := 161) X128 C at_159 rfl rfl ?_
            refine W.callS (q := 164) X128 C (W.ww hw 7 rfl) (W.ww hw 8 rfl) (W.ww hw 9 rfl) (W.ww hw 10 rfl) (by decide) (rm2 l Z a0 hw [] v110 n h0 n0 hex h73) e128 at_161 [(.int v110)] [(.double z129)] rfl rfl pd__28I_29D rfl rfl (by decide) (Nat.le_of_ble_eq_true rfl) (by decide) (by decide) rfl (fun T130 w130 L130 X130 hQ130 => ?_)
            obtain ⟨x130, rfl, NL130, e130, hd130⟩ := hQ130
            have N130 := Fr.app N128 NL130
            show W.Go p e below _ (T130.setTop (mkF m 164 #[.val (.long p0), .second, .val (.long p1), .second, .val (.int p2), .val (.double x43), .second, .val (.double z107), .second, .val (.long v109), .second, .val (.int v110), .val (.long (0 : Int64)), .second, .val (.long v109), .second, .val (.double x128), .second, .unset, .unset] [(.double x130), (.double z129)]))
            obtain ⟨z131, hz131⟩ : ∃ z : UInt64, FP.dmul z129 x130 = z := ⟨_, rfl⟩
            have hd131 : own_d z131 (S_ * (2 ^ n)) := hz131 ▸ own_dmul hd129 hd130 (own_rep.shl (Nat.le_of_lt hS2) (by omega))
            refine W.dmul (q := 165) (v := z131) X130 C at_164 (own_no hd131) hz131 rfl ?_
            refine W.dstore (q := 167) (L' := #[.val (.long p0), .second, .val (.long p1), .second, .val (.int p2), .val (.double x43), .second, .val (.double z107), .second, .val (.long v109), .second, .val (.int v110), .val (.long (0 : Int64)), .second, .val (.long v109), .second, .val (.double x128), .second, .val (.double z131), .second]) X130 C at_165 rfl rfl ?_
            refine W.dload (q := 169) X130 C at_167 rfl rfl ?_
            refine W.dload (q := 171) X130 C at_169 rfl rfl ?_
            refine W.dcmp (q := 172) (v := 0) X130 C at_171 (by rw [show FP.dcmp x43 z107 = some .eq from own_cmp hx43 hw108]; rfl) rfl ?_
            refine W.ifF (q := 175) X130 C at_172 rfl (by decide : W.cF .ne (0 : Int32) 0) ?_
            refine W.dload (q := 177) X130 C at_175 rfl rfl ?_
            refine W.dload (q := 179) X130 C at_177 rfl rfl ?_
            refine W.dcmp (q := 180) (v := 0) X130 C at_179 (by rw [show FP.dcmp x128 z131 = some .eq from own_cmp hx128 hd131]; rfl) rfl ?_
            refine W.ifF (q := 183) X130 C at_180 rfl (by decide : W.cF .ne (0 : Int32) 0) ?_
            refine W.iconst (q := 184) (v := 1) X130 C at_183 rfl rfl ?_
            refine W.goto (q := 188) X130 C at_184 (by decide) (by decide) ?_
            exact W.retN X130 C (by simp) e130 at_188 rfl (by decide) (by decide) ⟨rfl, N130⟩
        · replace hc105 : (lcmpW (v44 &&& (1 : Int64)) (1 : Int64)) = 0 := hc105
          refine W.lload (q := 62) X43 C at_60 rfl rfl ?_
          refine W.lconst1 (q := 63) X43 C at_62 rfl ?_
          refine W.ladd (q := 64) X43 C at_63 rfl ?_
          generalize hv134 : (v44 + (1 : Int64)) = v134
          refine W.lstore (q := 66) (L' := #[.val (.long p0), .second, .val (.long p1), .second, .val (.int p2), .val (.double x43), .second, .unset, .unset, .val (.long v134), .second, .val (.long v45), .second, .unset, .unset, .unset, .unset, .unset, .unset, .unset]) X43 C at_64 rfl rfl ?_
          have c1 := own_cle hc46
          have c2 := own_ceq hc76
          have c3 := own_ceq hc105
          rw [own_odd hq0, own_one] at c3
          rw [hr0, own_1024] at c1
          rw [hr0, own_1024] at c2
          have hqv : v134.toInt = ((FP.Core.nearest Hw 1024) : Nat) := own_q1 hHw hL2 hq0 hv134 (by omega)
          refine W.lload (q := 68) X43 C at_66 rfl rfl ?_
          obtain ⟨z135, hz135⟩ : ∃ z : UInt64, FP.l2d v134 = z := ⟨_, rfl⟩
          have hd135 : own_d z135 (FP.Core.nearest Hw 1024) := hz135 ▸ (show own_d (FP.l2d v134) (FP.Core.nearest Hw 1024) from own_l2d hqv (own_rep53 hnl))
          refine W.l2d (q := 69) (v := z135) X43 C at_68 hz135 rfl ?_
          refine W.ldcD (q := 72) X43 C (W.ww hw 14 rfl) at_69 rfl ?_
          obtain ⟨z136, hz136⟩ : ∃ z : UInt64, FP.dmul z135 (4656722014701092864 : UInt64) = z := ⟨_, rfl⟩
          have hd136 : own_d z136 ((FP.Core.nearest Hw 1024) * 2048) := hz136 ▸ own_dmul hd135 own_c2048 (by rw [show (2048 : Nat) = 1024 * 2 from rfl, ← Nat.mul_assoc]; exact rA)
          refine W.dmul (q := 73) (v := z136) X43 C at_72 (own_no hd136) hz136 rfl ?_
          refine W.dstore (q := 75) (L' := #[.val (.long p0), .second, .val (.long p1), .second, .val (.int p2), .val (.double x43), .second, .val (.double z136), .second, .val (.long v134), .second, .val (.long v45), .second, .unset, .unset, .unset, .unset, .unset, .unset, .unset]) X43 C at_73 rfl rfl ?_
          have hw137 : own_d z136 ((FP.Core.nearest Hw 1024) * 1024 * 2) := own_eqN hd136 (by rw [Nat.mul_assoc])
          refine W.lloadN (q := 76) X43 C at_75 rfl rfl ?_
          refine W.ldcL (q := 79) X43 C (W.ww hw 5 rfl) at_76 rfl ?_
          refine W.land (q := 80) X43 C at_79 rfl ?_
          generalize hv138 : (p1 &&& (9007199254740991 : Int64)) = v138
          refine W.lstore (q := 82) (L' := #[.val (.long p0), .second, .val (.long p1), .second, .val (.int p2), .val (.double x43), .second, .val (.double z136), .second, .val (.long v138), .second, .val (.long v45), .second, .unset, .unset, .unset, .unset, .unset, .unset, .unset]) X43 C at_80 rfl rfl ?_
          obtain ⟨S_, hS1, hS2⟩ := own_sig hv138
          refine W.iload (q := 84) X43 C at_82 rfl rfl ?_
          refine W.ldcI (q := 86) X43 C (W.ww hw 6 rfl) at_84 rfl ?_
          refine W.iand (q := 87) X43 C at_86 rfl ?_
          refine W.bipush (q := 89) (v := 74) X43 C at_87 rfl rfl ?_
          refine W.irem (q := 90) X43 C at_89 (by decide) rfl ?_
          generalize hv139 : ((p2 &&& (2147483647 : Int32)) % (74 : Int32)) = v139
          refine W.istore (q := 92) (L' := #[.val (.long p0), .second, .val (.long p1), .second, .val (.int p2), .val (.double x43), .second, .val (.double z136), .second, .val (.long v138), .second, .val (.int v139), .unset, .unset, .unset, .unset, .unset, .unset, .unset, .unset]) X43 C at_90 rfl rfl ?_
          obtain ⟨n, hex, h73⟩ := own_ex hv139
          refine W.iload (q := 94) X43 C at_92 rfl rfl ?_
          refine W.if_ (q := 107) (q' := 97) X43 C at_94 (by decide) (by decide) rfl (fun hc140 => ?_) (fun hc140 => ?_)
          · replace hc140 : v139 ≠ 0 := hc140
            refine W.iload (q := 109) X43 C at_107 rfl rfl ?_
            refine W.bipush (q := 111) (v := 64) X43 C at_109 rfl rfl ?_
            refine W.icmp (q := 134) (q' := 114) X43 C at_111 (by decide) (by decide) rfl (fun hc141 => ?_) (fun hc141 => ?_)
            · replace hc141 : (64 : Int32).toInt ≤ v139.toInt := hc141
              refine W.lload (q := 136) X43 C at_134 rfl rfl ?_
              refine W.iload (q := 138) X43 C at_136 rfl rfl ?_
              refine W.bipush (q := 140) (v := 64) X43 C at_138 rfl rfl ?_
              refine W.isub (q := 141) X43 C at_140 rfl ?_
              refine W.lshl (q := 142) X43 C at_141 rfl ?_
              generalize hv142 : (v138 <<< ((v139 - (64 : Int32)) &&& 0x3f).toInt64) = v142
              refine W.lstore (q := 144) (L' := #[.val (.long p0), .second, .val (.long p1), .second, .val (.int p2), .val (.double x43), .second, .val (.double z136), .second, .val (.long v138), .second, .val (.int v139), .val (.long v142), .second, .unset, .unset, .unset, .unset, .unset, .unset]) X43 C at_142 rfl rfl ?_
              refine W.lconst0 (q := 145) X43 C at_144 rfl ?_
              refine W.lstore (q := 147) (L' := #[.val (.long p0), .second, .val (.long p1), .second, .val (.int p2), .val (.double x43), .second, .val (.double z136), .second, .val (.long v138), .second, .val (.int v139), .val (.long v142), .second, .val (.long (0 : Int64)), .second, .unset, .unset, .unset, .unset]) X43 C at_145 rfl rfl ?_
              obtain ⟨A_, W_, H_, hpA, hpR, hpL, hpS, hpE⟩ : own_pre v142 (0 : Int64) (S_ * 2 ^ n) := own_b2 hS1 hS2 hex (own_x3 hex hc141) h73 rfl hv142
              refine W.lload (q := 149) X43 C at_147 rfl rfl ?_
              refine W.lload (q := 151) X43 C at_149 rfl rfl ?_
              refine W.callS (q := 154) X43 C (W.ww hw 0 rfl) (W.ww hw 1 rfl) (W.ww hw 2 rfl) (W.ww hw 3 rfl) (by decide) (rm1 l Z a0 hw [] v142 (0 : Int64) A_ W_ H_ h0 n0 hpA hpR hpL hpS) e43 at_151 [(.long v142), (.long (0 : Int64))] [] rfl rfl pd__28JJ_29D rfl rfl (by decide) (Nat.le_of_ble_eq_true rfl) (by decide) (by decide) rfl (fun T143 w143 L143 X143 hQ143 => ?_)
              obtain ⟨x143, rfl, NL143, e143, hd143⟩ := hQ143
              have N143 := Fr.app N43 NL143
              have hx143 : own_d x143 (S_ * 2 ^ n) := own_eqN hd143 hpE
              show W.Go p e below _ (T143.setTop (mkF m 154 #[.val (.long p0), .second, .val (.long p1), .second, .val (.int p2), .val (.double x43), .second, .val (.double z136), .second, .val (.long v138), .second, .val (.int v139), .val (.long v142), .second, .val (.long (0 : Int64)), .second, .unset, .unset, .unset, .unset] [(.double x143)]))
              refine W.dstore (q := 156) (L' := #[.val (.long p0), .second, .val (.long p1), .second, .val (.int p2), .val (.double x43), .second, .val (.double z136), .second, .val (.long v138), .second, .val (.int v139), .val (.long v142), .second, .val (.long (0 : Int64)), .second, .val (.double x143), .second, .unset, .unset]) X143 C at_154 rfl rfl ?_
              refine W.lload (q := 158) X143 C at_156 rfl rfl ?_
              obtain ⟨z144, hz144⟩ : ∃ z : UInt64, FP.l2d v138 = z := ⟨_, rfl⟩
              have hd144 : own_d z144 S_ := hz144 ▸ (show own_d (FP.l2d v138) S_ from own_l2d hS1 (own_rep53 (Nat.le_of_lt hS2)))
              refine W.l2d (q := 159) (v := z144) X143 C at_158 hz144 rfl ?_
              refine W.iload (q := 161) X143 C at_159 rfl rfl ?_
              refine W.callS (q := 164) X143 C (W.ww hw 7 rfl) (W.ww hw 8 rfl) (W.ww hw 9 rfl) (W.ww hw 10 rfl) (by decide) (rm2 l Z a0 hw [] v139 n h0 n0 hex h73) e143 at_161 [(.int v139)] [(.double z144)] rfl rfl pd__28I_29D rfl rfl (by decide) (Nat.le_of_ble_eq_true rfl) (by decide) (by decide) rfl (fun T145 w145 L145 X145 hQ145 => ?_)
              obtain ⟨x145, rfl, NL145, e145, hd145⟩ := hQ145
              have N145 := Fr.app N143 NL145
              show W.Go p e below _ (T145.setTop (mkF m 164 #[.val (.long p0), .second, .val (.long p1), .second, .val (.int p2), .val (.double x43), .second, .val (.double z136), .second, .val (.long v138), .second, .val (.int v139), .val (.long v142), .second, .val (.long (0 : Int64)), .second, .val (.double x143), .second, .unset, .unset] [(.double x145), (.double z144)]))
              obtain ⟨z146, hz146⟩ : ∃ z : UInt64, FP.dmul z144 x145 = z := ⟨_, rfl⟩
              have hd146 : own_d z146 (S_ * (2 ^ n)) := hz146 ▸ own_dmul hd144 hd145 (own_rep.shl (Nat.le_of_lt hS2) (by omega))
              refine W.dmul (q := 165) (v := z146) X145 C at_164 (own_no hd146) hz146 rfl ?_
              refine W.dstore (q := 167) (L' := #[.val (.long p0), .second, .val (.long p1), .second, .val (.int p2), .val (.double x43), .second, .val (.double z136), .second, .val (.long v138), .second, .val (.int v139), .val (.long v142), .second, .val (.long (0 : Int64)), .second, .val (.double x143), .second, .val (.double z146), .second]) X145 C at_165 rfl rfl ?_
              refine W.dload (q := 169) X145 C at_167 rfl rfl ?_
              refine W.dload (q := 171) X145 C at_169 rfl rfl ?_
              refine W.dcmp (q := 172) (v := 0) X145 C at_171 (by rw [show FP.dcmp x43 z136 = some .eq from own_cmp hx43 hw137]; rfl) rfl ?_
              refine W.ifF (q := 175) X145 C at_172 rfl (by decide : W.cF .ne (0 : Int32) 0) ?_
              refine W.dload (q := 177) X145 C at_175 rfl rfl ?_
              refine W.dload (q := 179) X145 C at_177 rfl rfl ?_
              refine W.dcmp (q := 180) (v := 0) X145 C at_179 (by rw [show FP.dcmp x143 z146 = some .eq from own_cmp hx143 hd146]; rfl) rfl ?_
              refine W.ifF (q := 183) X145 C at_180 rfl (by decide : W.cF .ne (0 : Int32) 0) ?_
              refine W.iconst (q := 184) (v := 1) X145 C at_183 rfl rfl ?_
              refine W.goto (q := 188) X145 C at_184 (by decide) (by decide) ?_
              exact W.retN X145 C (by simp) e145 at_188 rfl (by decide) (by decide) ⟨rfl, N145⟩
            · replace hc141 : v139.toInt < (64 : Int32).toInt := hc141
              refine W.lload (q := 116) X43 C at_114 rfl rfl ?_
              refine W.bipush (q := 118) (v := 64) X43 C at_116 rfl rfl ?_
              refine W.iload (q := 120) X43 C at_118 rfl rfl ?_
              refine W.isub (q := 121) X43 C at_120 rfl ?_
              refine W.lushr (q := 122) X43 C at_121 rfl ?_
              generalize hv149 : ((v138.toUInt64 >>> (((64 : Int32) - v139) &&& 0x3f).toInt64.toUInt64).toInt64) = v149
              refine W.lstore (q := 124) (L' := #[.val (.long p0), .second, .val (.long p1), .second, .val (.int p2), .val (.double x43), .second, .val (.double z136), .second, .val (.long v138), .second, .val (.int v139), .val (.long v149), .second, .unset, .unset, .unset, .unset, .unset, .unset]) X43 C at_122 rfl rfl ?_
              refine W.lload (q := 126) X43 C at_124 rfl rfl ?_
              refine W.iload (q := 128) X43 C at_126 rfl rfl ?_
              refine W.lshl (q := 129) X43 C at_128 rfl ?_
              generalize hv150 : (v138 <<< (v139 &&& 0x3f).toInt64) = v150
              refine W.lstore (q := 131) (L' := #[.val (.long p0), .second, .val (.long p1), .second, .val (.int p2), .val (.double x43), .second, .val (.double z136), .second, .val (.long v138), .second, .val (.int v139), .val (.long v149), .second, .val (.long v150), .second, .unset, .unset, .unset, .unset]) X43 C at_129 rfl rfl ?_
              refine W.goto (q := 147) X43 C at_131 (by decide) (by decide) ?_
              obtain ⟨A_, W_, H_, hpA, hpR, hpL, hpS, hpE⟩ : own_pre v149 v150 (S_ * 2 ^ n) := own_b1 hS1 hS2 hex (own_x1 hex hc140) (own_x2 hex hc141) rfl hv149 hv150
              refine W.lload (q := 149) X43 C at_147 rfl rfl ?_
              refine W.lload (q := 151) X43 C at_149 rfl rfl ?_
              refine W.callS (q := 154) X43 C (W.ww hw 0 rfl) (W.ww hw 1 rfl) (W.ww hw 2 rfl) (W.ww hw 3 rfl) (by decide) (rm1 l Z a0 hw [] v149 v150 A_ W_ H_ h0 n0 hpA hpR hpL hpS) e43 at_151 [(.long v149), (.long v150)] [] rfl rfl pd__28JJ_29D rfl rfl (by decide) (Nat.le_of_ble_eq_true rfl) (by decide) (by decide) rfl (fun T151 w151 L151 X151 hQ151 => ?_)
              obtain ⟨x151, rfl, NL151, e151, hd151⟩ := hQ151
              have N151 := Fr.app N43 NL151
              have hx151 : own_d x151 (S_ * 2 ^ n) := own_eqN hd151 hpE
              show W.Go p e below _ (T151.setTop (mkF m 154 #[.val (.long p0), .second, .val (.long p1), .second, .val (.int p2), .val (.double x43), .second, .val (.double z136), .second, .val (.long v138), .second, .val (.int v139), .val (.long v149), .second, .val (.long v150), .second, .unset, .unset, .unset, .unset] [(.double x151)]))
              refine W.dstore (q := 156) (L' := #[.val (.long p0), .second, .val (.long p1), .second, .val (.int p2), .val (.double x43), .second, .val (.double z136), .second, .val (.long v138), .second, .val (.int v139), .val (.long v149), .second, .val (.long v150), .second, .val (.double x151), .second, .unset, .unset]) X151 C at_154 rfl rfl ?_
              refine W.lload (q := 158) X151 C at_156 rfl rfl ?_
              obtain ⟨z152, hz152⟩ : ∃ z : UInt64, FP.l2d v138 = z := ⟨_, rfl⟩
              have hd152 : own_d z152 S_ := hz152 ▸ (show own_d (FP.l2d v138) S_ from own_l2d hS1 (own_rep53 (Nat.le_of_lt hS2)))
              refine W.l2d (q := 159) (v := z152) X151 C at_158 hz152 rfl ?_
              refine W.iload (q := 161) X151 C at_159 rfl rfl ?_
              refine W.callS (q := 164) X151 C (W.ww hw 7 rfl) (W.ww hw 8 rfl) (W.ww hw 9 rfl) (W.ww hw 10 rfl) (by decide) (rm2 l Z a0 hw [] v139 n h0 n0 hex h73) e151 at_161 [(.int v139)] [(.double z152)] rfl rfl pd__28I_29D rfl rfl (by decide) (Nat.le_of_ble_eq_true rfl) (by decide) (by decide) rfl (fun T153 w153 L153 X153 hQ153 => ?_)
              obtain ⟨x153, rfl, NL153, e153, hd153⟩ := hQ153
              have N153 := Fr.app N151 NL153
              show W.Go p e below _ (T153.setTop (mkF m 164 #[.val (.long p0), .second, .val (.long p1), .second, .val (.int p2), .val (.double x43), .second, .val (.double z136), .second, .val (.long v138), .second, .val (.int v139), .val (.long v149), .second, .val (.long v150), .second, .val (.double x151), .second, .unset, .unset] [(.double x153), (.double z152)]))
              obtain ⟨z154, hz154⟩ : ∃ z : UInt64, FP.dmul z152 x153 = z := ⟨_, rfl⟩
              have hd154 : own_d z154 (S_ * (2 ^ n)) := hz154 ▸ own_dmul hd152 hd153 (own_rep.shl (Nat.le_of_lt hS2) (by omega))
              refine W.dmul (q := 165) (v := z154) X153 C at_164 (own_no hd154) hz154 rfl ?_
              refine W.dstore (q := 167) (L' := #[.val (.long p0), .second, .val (.long p1), .second, .val (.int p2), .val (.double x43), .second, .val (.double z136), .second, .val (.long v138), .second, .val (.int v139), .val (.long v149), .second, .val (.long v150), .second, .val (.double x151), .second, .val (.double z154), .second]) X153 C at_165 rfl rfl ?_
              refine W.dload (q := 169) X153 C at_167 rfl rfl ?_
              refine W.dload (q := 171) X153 C at_169 rfl rfl ?_
              refine W.dcmp (q := 172) (v := 0) X153 C at_171 (by rw [show FP.dcmp x43 z136 = some .eq from own_cmp hx43 hw137]; rfl) rfl ?_
              refine W.ifF (q := 175) X153 C at_172 rfl (by decide : W.cF .ne (0 : Int32) 0) ?_
              refine W.dload (q := 177) X153 C at_175 rfl rfl ?_
              refine W.dload (q := 179) X153 C at_177 rfl rfl ?_
              refine W.dcmp (q := 180) (v := 0) X153 C at_179 (by rw [show FP.dcmp x151 z154 = some .eq from own_cmp hx151 hd154]; rfl) rfl ?_
              refine W.ifF (q := 183) X153 C at_180 rfl (by decide : W.cF .ne (0 : Int32) 0) ?_
              refine W.iconst (q := 184) (v := 1) X153 C at_183 rfl rfl ?_
              refine W.goto (q := 188) X153 C at_184 (by decide) (by decide) ?_
              exact W.retN X153 C (by simp) e153 at_188 rfl (by decide) (by decide) ⟨rfl, N153⟩
          · replace hc140 : v139 = 0 := hc140
            refine W.lconst0 (q := 98) X43 C at_97 rfl ?_
            refine W.lstore (q := 100) (L' := #[.val (.long p0), .second, .val (.long p1), .second, .val (.int p2), .val (.double x43), .second, .val (.double z136), .second, .val (.long v138), .second, .val (.int v139), .val (.long (0 : Int64)), .second, .unset, .unset, .unset, .unset, .unset, .unset]) X43 C at_98 rfl rfl ?_
            refine W.lload (q := 102) X43 C at_100 rfl rfl ?_
            refine W.lstore (q := 104) (L' := #[.val (.long p0), .second, .val (.long p1), .second, .val (.int p2), .val (.double x43), .second, .val (.double z136), .second, .val (.long v138), .second, .val (.int v139), .val (.long (0 : Int64)), .second, .val (.long v138), .second, .unset, .unset, .unset, .unset]) X43 C at_102 rfl rfl ?_
            refine W.goto (q := 147) X43 C at_104 (by decide) (by decide) ?_
            obtain ⟨A_, W_, H_, hpA, hpR, hpL, hpS, hpE⟩ : own_pre (0 : Int64) v138 (S_ * 2 ^ n) := own_b0 hS1 hS2 (own_x0 hex hc140)
            refine W.lload (q := 149) X43 C at_147 rfl rfl ?_
            refine W.lload (q := 151) X43 C at_149 rfl rfl ?_
            refine W.callS (q := 154) X43 C (W.ww hw 0 rfl) (W.ww hw 1 rfl) (W.ww hw 2 rfl) (W.ww hw 3 rfl) (by decide) (rm1 l Z a0 hw [] (0 : Int64) v138 A_ W_ H_ h0 n0 hpA hpR hpL hpS) e43 at_151 [(.long (0 : Int64)), (.long v138)] [] rfl rfl pd__28JJ_29D rfl rfl (by decide) (Nat.le_of_ble_eq_true rfl) (by decide) (by decide) rfl (fun T157 w157 L157 X157 hQ157 => ?_)
            obtain ⟨x157, rfl, NL157, e157, hd157⟩ := hQ157
            have N157 := Fr.app N43 NL157
            have hx157 : own_d x157 (S_ * 2 ^ n) := own_eqN hd157 hpE
            show W.Go p e below _ (T157.setTop (mkF m 154 #[.val (.long p0), .second, .val (.long p1), .second, .val (.int p2), .val (.double x43), .second, .val (.double z136), .second, .val (.long v138), .second, .val (.int v139), .val (.long (0 : Int64)), .second, .val (.long v138), .second, .unset, .unset, .unset, .unset] [(.double x157)]))
            refine W.dstore (q := 156) (L' := #[.val (.long p0), .second, .val (.long p1), .second, .val (.int p2), .val (.double x43), .second, .val (.double z136), .second, .val (.long v138), .second, .val (.int v139), .val (.long (0 : Int64)), .second, .val (.long v138), .second, .val (.double x157), .second, .unset, .unset]) X157 C at_154 rfl rfl ?_
            refine W.lload (q := 158) X157 C at_156 rfl rfl ?_
            obtain ⟨z158, hz158⟩ : ∃ z : UInt64, FP.l2d v138 = z := ⟨_, rfl⟩
            have hd158 : own_d z158 S_ := hz158 ▸ (show own_d (FP.l2d v138) S_ from own_l2d hS1 (own_rep53 (Nat.le_of_lt hS2)))
            refine W.l2d (q := 159) (v := z158) X157 C at_158 hz158 rfl ?_
            refine W.iload (q := 161) X157 C at_159 rfl rfl ?_
            refine W.callS (q := 164) X157 C (W.ww hw 7 rfl) (W.ww hw 8 rfl) (W.ww hw 9 rfl) (W.ww hw 10 rfl) (by decide) (rm2 l Z a0 hw [] v139 n h0 n0 hex h73) e157 at_161 [(.int v139)] [(.double z158)] rfl rfl pd__28I_29D rfl rfl (by decide) (Nat.le_of_ble_eq_true rfl) (by decide) (by decide) rfl (fun T159 w159 L159 X159 hQ159 => ?_)
            obtain ⟨x159, rfl, NL159, e159, hd159⟩ := hQ159
            have N159 := Fr.app N157 NL159
            show W.Go p e below _ (T159.setTop (mkF m 164 #[.val (.long p0), .second, .val (.long p1), .second, .val (.int p2), .val (.double x43), .second, .val (.double z136), .second, .val (.long v138), .second, .val (.int v139), .val (.long (0 : Int64)), .second, .val (.long v138), .second, .val (.double x157), .second, .unset, .unset] [(.double x159), (.double z158)]))
            obtain ⟨z160, hz160⟩ : ∃ z : UInt64, FP.dmul z158 x159 = z := ⟨_, rfl⟩
            have hd160 : own_d z160 (S_ * (2 ^ n)) := hz160 ▸ own_dmul hd158 hd159 (own_rep.shl (Nat.le_of_lt hS2) (by omega))
            refine W.dmul (q := 165) (v := z160) X159 C at_164 (own_no hd160) hz160 rfl ?_
            refine W.dstore (q := 167) (L' := #[.val (.long p0), .second, .val (.long p1), .second, .val (.int p2), .val (.double x43), .second, .val (.double z136), .second, .val (.long v138), .second, .val (.int v139), .val (.long (0 : Int64)), .second, .val (.long v138), .second, .val (.double x157), .second, .val (.double z160), .second]) X159 C at_165 rfl rfl ?_
            refine W.dload (q := 169) X159 C at_167 rfl rfl ?_
            refine W.dload (q := 171) X159 C at_169 rfl rfl ?_
            refine W.dcmp (q := 172) (v := 0) X159 C at_171 (by rw [show FP.dcmp x43 z136 = some .eq from own_cmp hx43 hw137]; rfl) rfl ?_
            refine W.ifF (q := 175) X159 C at_172 rfl (by decide : W.cF .ne (0 : Int32) 0) ?_
            refine W.dload (q := 177) X159 C at_175 rfl rfl ?_
            refine W.dload (q := 179) X159 C at_177 rfl rfl ?_
            refine W.dcmp (q := 180) (v := 0) X159 C at_179 (by rw [show FP.dcmp x157 z160 = some .eq from own_cmp hx157 hd160]; rfl) rfl ?_
            refine W.ifF (q := 183) X159 C at_180 rfl (by decide : W.cF .ne (0 : Int32) 0) ?_
            refine W.iconst (q := 184) (v := 1) X159 C at_183 rfl rfl ?_
            refine W.goto (q := 188) X159 C at_184 (by decide) (by decide) ?_
            exact W.retN X159 C (by simp) e159 at_188 rfl (by decide) (by decide) ⟨rfl, N159⟩
set_option maxRecDepth 65536 in
set_option maxHeartbeats 40000000 in
theorem comes_1 {Post : Tables → Env → Array Value → State → Outcome → State → Prop} (hpost : ∀ tb e args s v u, (limb_1_1.after args s (.returned v) u = true ∧ limb_1_2.after args s (.returned v) u = true ∧ True) → FrameEnd s (.returned v) u (Jvm.fieldLocs frame_1_writes args s ++ Jvm.arrayLocs frame_1_arrays args s ++ Jvm.staticLocs frame_1_statics s) 0 0 → Post tb e args s (.returned v) u) :
    ArmFor flags0 classFile x code maxLocals ret World_1 tables_1 room_1 Calls_1 rest_1 Pre_1 Post := by
  intro l hfl _ _ p e ha hc hk s m args below hf hA hF happ hP
  obtain ⟨hcalls, hrest, hpre⟩ := hP
  obtain ⟨-, -, -, hnamed, -, -, -, hat⟩ := (Spec.applies_iff hf).mp happ
  obtain ⟨hg, hn⟩ := and_e (Cond.before_iff.mp (show (Jvm.Cond.and given_1 narrow_1).before args s = true from hpre))
  obtain ⟨g1, g2⟩ := and_e hg
  obtain ⟨g3, g4⟩ := and_e g2
  obtain ⟨g5, g6⟩ := and_e g4
  obtain ⟨w0, w1, w2, rfl⟩ : ∃ w0 w1 w2 : Value, args = #[w0, w1, w2] := by
    have hs : args.size = 3 := by simpa [Cond.value, given_1] using g1
    obtain ⟨L⟩ := args
    match L, hs with
    | [w0, w1, w2], _ => exact ⟨w0, w1, w2, rfl⟩
  have hw := fun d (hd : d ∈ tables_1) => atoms_spec (ws := Jvm.Cond.code x code maxLocals ret :: tables_1) hat d (List.mem_cons_of_mem _ hd)
  have hfit : Fit s := fun {y c} hc i hi => by
    obtain ⟨ha, rfl⟩ := Array.getElem?_eq_some_iff.mp hc
    have q := List.all_eq_true.mp ((Array.all_eq_true_iff_forall_mem.mp hF) _ (Array.getElem_mem ha)) i (List.mem_range.mpr hi)
    simpa [Array.getElem?_eq_getElem hi] using q
  obtain ⟨i0, ei0⟩ := isL_v g3
  obtain rfl : w0 = (.long i0) := Option.some.inj ei0
  obtain ⟨i1, ei1⟩ := isL_v g5
  obtain rfl : w1 = (.long i1) := Option.some.inj ei1
  obtain ⟨i2, ei2⟩ := is_v g6
  obtain rfl : w2 = (.int i2) := Option.some.inj ei2
  obtain ⟨n, o, h1, h2, h3, _, L, rfl, ⟨rfl, N⟩, hq⟩ := rm0 l s _ hw tables_1 i0 i1 i2 s.heap s.heap.size  p e ha hc hk s m _ below hf ((Spec.applies_iff_loose hf).mp happ).1 ⟨rfl, State.Warmed39.refl s, rfl⟩ trivial
  refine ⟨n, _, h1, h2, h3, hpost _ _ _ _ _ _ ⟨Cond.after_iff.mpr rfl, Cond.after_iff.mpr (eq_i res_at (Term.int_eval (1)) rfl), trivial⟩ ⟨hq.1, hq.2.1, (hq.2.2.sift fun y hy => Or.inr (N y hy)).mono (by decide) (by decide)⟩⟩
theorem main_1_1 : Claimed_1_1 := comes_1 fun _ _ _ _ _ _ h hF => ⟨h.1, hF⟩
theorem main_1_2 : Claimed_1_2 := comes_1 fun _ _ _ _ _ _ h hF => ⟨h.2.1, hF⟩
end Jvm.Pilot.@@N@@
namespace Jvm.Pilot.@@N@@
open Jvm Jvm.ClassFile Sem Op Lib Jvm.Free Jvm.Stand Jvm.Pilot.@@N@@.Jvm.D
/-! MADE BY PROGRAM (witnessworld.py) out of the Statement's table words and the real class files: 9 classes; the members and pool entries that the words name. The judged class is class 1, her method 1. -/
namespace start1
open Jvm.ClassFile
def u (s : String) : CpInfo := .utf8 (stringToUtf16 s)
/-- a pool by its gaps: so many unusable entries, then the entry; so many at the end -/
def gap : Nat → List CpInfo → List CpInfo
  | 0, r => r
  | n + 1, r => .unusable :: gap n r
def poolList (es : List (Nat × CpInfo)) (last : Nat) : List CpInfo := es.foldr (fun e r => gap e.1 (e.2 :: r)) (gap last [])
def pool (es : List (Nat × CpInfo)) (last : Nat) : Array CpInfo := ⟨poolList es last⟩
def fileOf (pool : Array CpInfo) (this : Nat) (attrs : Array Attribute := #[]) (ms : Array MethodInfo := #[]) (fl : Nat := 33) (sup : Nat := 0) (ifs : Array Nat := #[]) (fds : Array FieldInfo := #[]) : ClassFile where
  minorVersion := 0
  majorVersion := 65
  constantPool := pool
  accessFlags := fl
  thisClass := this
  superClass := sup
  interfaces := ifs
  fields := fds
  methods := ms
  attributes := attrs
def plain (name : String) (sup : Option ClassId) : Class where
  name := name
  kind := .ordinary
  loader := none
  accessFlags := 33
  super := sup
  interfaces := #[]
  cf := none
  fields := #[]
  methods := #[]
  instanceTypes := #[]
  staticTypes := #[]
  resolved := #[]
  callSites := []
  init := .initialized
  statics := none
  mirror := none

def pool0 : Array CpInfo := pool [(5, u "<init>"), (0, u "()V"), (1, .class_ 10), (1, u "java/lang/Object")] 113

def k0m0 : Method := { name := "<init>", desc := "()V", sig := { parameters := [], returnType := none }, accessFlags := 1, code := none }
/-- java/lang/Object -/
def k0 : Class := { plain "java/lang/Object" none with
  accessFlags := 33
  interfaces := #[]
  cf := some (fileOf pool0 8 #[] #[{ accessFlags := 1, nameIndex := 5, descriptorIndex := 6, attributes := #[] }] 33 0 #[] #[])
  fields := #[]
  methods := #[k0m0]
  instanceTypes := #[]
  staticTypes := #[]
  resolved := Array.replicate 124 none
  statics := none }

def pool1 : Array CpInfo := pool [(2, .class_ 4), (1, u "java/lang/Object"), (0, u "<init>"), (0, u "()V"), (0, .methodref 8 9), (0, .class_ 10), (0, .nameAndType 11 12), (0, u "com/example/routeloom/routeloom/Units"), (0, u "toDouble"), (0, u "(JJ)D"), (0, .long 2047), (1, .long 1024), (1, .double 4656722014701092864), (1, .long 9007199254740991), (1, .integer 2147483647), (0, .methodref 23 24), (0, .class_ 25), (0, .nameAndType 26 27), (0, u "com/example/routeloom/routeloom/UnitsToDoublePinLaw"), (0, u "pow2"), (0, u "(I)D"), (0, .double 4886405595696988160), (3, u "law"), (0, u "(JJI)Z")] 3

def k1m0 : Method := { name := "<init>", desc := "()V", sig := { parameters := [], returnType := none }, accessFlags := 1, code := none }
def k1c1 : Code := { maxStack := 4, maxLocals := 20, code := code, exceptionTable := #[], attributes := #[] }
def k1m1 : Method := { name := "law", desc := "(JJI)Z", sig := { parameters := [.long, .long, .int], returnType := some .boolean }, accessFlags := 9, code := some k1c1 }
def k1c2 : Code := { maxStack := 6, maxLocals := 1, code := method_3_code, exceptionTable := #[], attributes := #[] }
def k1m2 : Method := { name := "pow2", desc := "(I)D", sig := { parameters := [.int], returnType := some .double }, accessFlags := 10, code := some k1c2 }
/-- com/example/routeloom/routeloom/UnitsToDoublePinLaw -/
def k1 : Class := { plain "com/example/routeloom/routeloom/UnitsToDoublePinLaw" (some 0) with
  accessFlags := 49
  interfaces := #[]
  cf := some (fileOf pool1 23 #[] #[{ accessFlags := 1, nameIndex := 5, descriptorIndex := 6, attributes := #[] }, { accessFlags := 9, nameIndex := 32, descriptorIndex := 33, attributes := #[] }, { accessFlags := 10, nameIndex := 26, descriptorIndex := 27, attributes := #[] }] 49 2 #[] #[])
  fields := #[]
  methods := #[k1m0, k1m1, k1m2]
  instanceTypes := #[]
  staticTypes := #[]
  resolved := Array.replicate 37 none
  statics := none }

def pool2 : Array CpInfo := pool [(2, .class_ 4), (1, u "java/lang/Object"), (51, .class_ 58), (1, u "com/example/routeloom/routeloom/Units"), (14, u "unitsPerMinute"), (0, u "D"), (1, u "[[J"), (2, u "linkHigh"), (2, u "linkLow"), (26, u "penalty"), (0, u "Ljava/math/BigInteger;"), (2, u "penaltyHigh"), (0, u "J"), (2, u "penaltyLow"), (40, u "toDouble"), (0, u "(JJ)D"), (4, .double 4611686018427387904), (1, .double 4895412794951729152), (1, u "MOST_DIGITS"), (0, u "I"), (2, u "INFINITE")] 32

def k2c0 : Code := { maxStack := 6, maxLocals := 6, code := prog_52_method_9_code, exceptionTable := #[], attributes := #[] }
def k2m0 : Method := { name := "toDouble", desc := "(JJ)D", sig := { parameters := [.long, .long], returnType := some .double }, accessFlags := 8, code := some k2c0 }
/-- com/example/routeloom/routeloom/Units -/
def k2 : Class := { plain "com/example/routeloom/routeloom/Units" (some 0) with
  accessFlags := 48
  interfaces := #[]
  cf := some (fileOf pool2 56 #[] #[{ accessFlags := 8, nameIndex := 158, descriptorIndex := 159, attributes := #[] }] 48 2 #[] #[{ accessFlags := 24, nameIndex := 168, descriptorIndex := 169, attributes := #[] }, { accessFlags := 24, nameIndex := 172, descriptorIndex := 114, attributes := #[] }, { accessFlags := 16, nameIndex := 73, descriptorIndex := 74, attributes := #[] }, { accessFlags := 16, nameIndex := 79, descriptorIndex := 76, attributes := #[] }, { accessFlags := 16, nameIndex := 82, descriptorIndex := 76, attributes := #[] }, { accessFlags := 16, nameIndex := 109, descriptorIndex := 110, attributes := #[] }, { accessFlags := 16, nameIndex := 113, descriptorIndex := 114, attributes := #[] }, { accessFlags := 16, nameIndex := 117, descriptorIndex := 114, attributes := #[] }])
  fields := #[{ name := "MOST_DIGITS", type := .int, accessFlags := 24, slot := 0, constantValue := 0 }, { name := "INFINITE", type := .long, accessFlags := 24, slot := 1, constantValue := 0 }, { name := "unitsPerMinute", type := .double, accessFlags := 16, slot := 0, constantValue := 0 }, { name := "linkHigh", type := (.array (.array .long)), accessFlags := 16, slot := 1, constantValue := 0 }, { name := "linkLow", type := (.array (.array .long)), accessFlags := 16, slot := 2, constantValue := 0 }, { name := "penalty", type := (.object "java/math/BigInteger"), accessFlags := 16, slot := 3, constantValue := 0 }, { name := "penaltyHigh", type := .long, accessFlags := 16, slot := 4, constantValue := 0 }, { name := "penaltyLow", type := .long, accessFlags := 16, slot := 5, constantValue := 0 }]
  methods := #[k2m0]
  instanceTypes := #[.double, (.array (.array .long)), (.array (.array .long)), (.object "java/math/BigInteger"), .long, .long]
  staticTypes := #[.int, .long]
  resolved := Array.replicate 205 none
  statics := none }

def pool3 : Array CpInfo := pool [(1, u "java/lang/Cloneable"), (0, .class_ 1), (0, u "java/lang/Object"), (0, .class_ 3)] 3

/-- java/lang/Cloneable -/
def k3 : Class := { plain "java/lang/Cloneable" (some 0) with
  accessFlags := 1537
  interfaces := #[]
  cf := some (fileOf pool3 2 #[] #[] 1537 4 #[] #[])
  fields := #[]
  methods := #[]
  instanceTypes := #[]
  staticTypes := #[]
  resolved := Array.replicate 8 none
  statics := none }

def pool4 : Array CpInfo := pool [(1, u "java/io/Serializable"), (0, .class_ 1), (0, u "java/lang/Object"), (0, .class_ 3)] 3

/-- java/io/Serializable -/
def k4 : Class := { plain "java/io/Serializable" (some 0) with
  accessFlags := 1537
  interfaces := #[]
  cf := some (fileOf pool4 2 #[] #[] 1537 4 #[] #[])
  fields := #[]
  methods := #[]
  instanceTypes := #[]
  staticTypes := #[]
  resolved := Array.replicate 8 none
  statics := none }

/-- the primitive byte -/
def k5 : Class := { plain "byte" none with kind := .primitive 'B', accessFlags := 0x411 }
/-- [B -/
def k6 : Class := { plain "[B" (some 0) with kind := .array 5 .byte, interfaces := #[3, 4], accessFlags := 1041 }

/-- the primitive int -/
def k7 : Class := { plain "int" none with kind := .primitive 'I', accessFlags := 0x411 }
/-- [I -/
def k8 : Class := { plain "[I" (some 0) with kind := .array 7 .int, interfaces := #[3, 4], accessFlags := 1041 }

def heap : Heap := #[]
def classes : Array Class := #[k0, k1, k2, k3, k4, k5, k6, k7, k8]
def interned : List (Array UInt16 × Addr) := []
def slotsUsed : Nat := 0
def theMethod : MethodId := ⟨1, 1⟩
def args0 : Array Value := #[.long 5, .long 6, .int 7]
def aboutOver (below : List Frame) : State where
  vm := { classes := classes, interned := interned.toArray }
  heap := heap
  slotsUsed := slotsUsed
  threads := #[{ frames := .invoking theMethod args0 :: below }]
def below0 : List Frame := [.native { method := ⟨0, 0⟩, args := #[] }]
def about1 : State := aboutOver below0
def p0 : Program := .bare "" "" ""
def e0 : Env := launch0.env 0 0 0
theorem w_frames : about1.frames = Frame.invoking theMethod args0 :: below0 := rfl
set_option maxRecDepth 65536 in
theorem w_args : argsFit about1.vm theMethod args0 = true := by decide +kernel
set_option maxRecDepth 65536 in
theorem w_heap : heapFits about1 = true := by decide +kernel
set_option maxRecDepth 65536 in
theorem w_runnable : about1.curStatus? = some .runnable := by decide +kernel
set_option maxRecDepth 65536 in
theorem w_alone : about1.alone = true := by decide +kernel
set_option maxRecDepth 65536 in
theorem w_named : about1.methodNamed? x = some theMethod := by decide +kernel
set_option maxRecDepth 65536 in
theorem w_hears : about1.hears theMethod below0 = true := by decide +kernel
set_option maxRecDepth 65536 in
theorem w_ripe : about1.ripe theMethod args0 below0 = true := by decide +kernel
theorem w_running : about1.status = .running := rfl
set_option maxRecDepth 65536 in
theorem w_room : about1.hasRoom e0.platform room_1 = true :=
  launch0.hasRoom_least _ room_1 (by decide +kernel) (by decide +kernel) (by decide +kernel) (by decide +kernel) (by decide +kernel) (by decide +kernel)
theorem allAtoms_all (ts : List Jvm.Cond) (a : Array Jvm.Value) (st : Jvm.State) : (allAtoms ts).before a st = ts.all (fun c => c.before a st) := by
  induction ts with
  | nil => rfl
  | cons c t ih =>
    show (Jvm.Cond.and c (allAtoms t)).before a st = _
    rw [Jvm.Cond.before_and, ih, List.all_cons]
def words1 : List Jvm.Cond := Jvm.Cond.code x code maxLocals ret :: tables_1
/-- a 'code' word, met by the world's own term for the bytes: nothing is compared byte by byte -/
theorem code_word {y : MethodName} {bytes : ByteArray} {mx : Nat} {rt : Option FieldType} {a : Array Value} {s : State} {m : MethodId} {meth : Method} {c : Code} (h1 : s.methodNamed? y = some m) (h2 : s.vm.method? m = some meth) (h3 : meth.code = some c) (h4 : c.code = bytes)
    (h5 : (c.maxLocals == mx && c.exceptionTable.isEmpty && decide (c.maxStack ≤ mostOperands) && decide (meth.sig.returnType = rt) && !meth.locks && decide (parseMethodDescriptor y.desc = some meth.sig)) = true) : (Jvm.Cond.code y bytes mx rt).before a s = true := by
  simp only [Bool.and_eq_true, beq_iff_eq, Bool.not_eq_true', decide_eq_true_eq] at h5
  obtain ⟨⟨⟨⟨⟨g1, g2⟩, g3⟩, g4⟩, g5⟩, g6⟩ := h5
  simp [Cond.before, Cond.holds, Cond.value, h1, h2, h3, h4, g1, g2, g3, g4, g5, g6]
def isCode : Jvm.Cond → Bool
  | .code _ _ _ _ => true
  | _ => false
theorem all_split {L : List Jvm.Cond} {P : Jvm.Cond → Bool} (h1 : L.all (fun c => isCode c || P c) = true) (h2 : ∀ c ∈ L.filter isCode, P c = true) : L.all P = true := by
  refine List.all_eq_true.mpr fun c hc => ?_
  have h := List.all_eq_true.mp h1 c hc
  rcases Bool.eq_false_or_eq_true (isCode c) with hi | hi
  · exact h2 c (List.mem_filter.mpr ⟨hc, hi⟩)
  · simpa [hi] using h
set_option maxRecDepth 65536 in
theorem w_c0 : (Jvm.Cond.code x code maxLocals ret).before args0 about1 = true := code_word (m := ⟨1, 1⟩) (meth := k1m1) (c := k1c1) (by decide +kernel) rfl rfl rfl (by decide +kernel)
set_option maxRecDepth 65536 in
theorem w_c1 : (Jvm.Cond.code ({ cls := "com/example/routeloom/routeloom/Units", name := "toDouble", desc := "(JJ)D" } : Jvm.MethodName) prog_52_method_9_code (6 : Nat) (Option.some Jvm.ClassFile.FieldType.double)).before args0 about1 = true := code_word (m := ⟨2, 0⟩) (meth := k2m0) (c := k2c0) (by decide +kernel) rfl rfl rfl (by decide +kernel)
set_option maxRecDepth 65536 in
theorem w_c2 : (Jvm.Cond.code ({ cls := "com/example/routeloom/routeloom/UnitsToDoublePinLaw", name := "pow2", desc := "(I)D" } : Jvm.MethodName) method_3_code (1 : Nat) (Option.some Jvm.ClassFile.FieldType.double)).before args0 about1 = true := code_word (m := ⟨1, 2⟩) (meth := k1m2) (c := k1c2) (by decide +kernel) rfl rfl rfl (by decide +kernel)
def codes1 : List Jvm.Cond := [Jvm.Cond.code x code maxLocals ret, Jvm.Cond.code ({ cls := "com/example/routeloom/routeloom/Units", name := "toDouble", desc := "(JJ)D" } : Jvm.MethodName) prog_52_method_9_code (6 : Nat) (Option.some Jvm.ClassFile.FieldType.double), Jvm.Cond.code ({ cls := "com/example/routeloom/routeloom/UnitsToDoublePinLaw", name := "pow2", desc := "(I)D" } : Jvm.MethodName) method_3_code (1 : Nat) (Option.some Jvm.ClassFile.FieldType.double)]
set_option maxRecDepth 65536 in
theorem codes_eq : words1.filter isCode = codes1 := rfl
theorem w_codes : ∀ c ∈ words1.filter isCode, c.before args0 about1 = true := by
  rw [codes_eq]
  intro c hc
  simp only [codes1, List.mem_cons, List.not_mem_nil, or_false] at hc
  rcases hc with rfl | rfl | rfl
  · exact w_c0
  · exact w_c1
  · exact w_c2
set_option maxRecDepth 65536 in
theorem w_t1 : words1.all (fun c => isCode c || c.before args0 about1) = true := by decide +kernel
theorem w_tables : (allAtoms (Jvm.Cond.code x code maxLocals ret :: tables_1)).before args0 about1 = true := by
  rw [allAtoms_all]
  show words1.all (fun c => c.before args0 about1) = true
  refine all_split ?_ w_codes
  rw [w_t1]
set_option maxRecDepth 65536 in
theorem w_case : (Jvm.Cond.and given_1 narrow_1).before args0 about1 = true := by decide +kernel
theorem w_applies : (headSpec (Jvm.Cond.code x code maxLocals ret :: tables_1) room_1).applies x e0.platform about1 = true :=
  (Spec.applies_iff w_frames).mpr ⟨w_running, w_runnable, w_alone, w_named, w_hears, w_ripe, w_room, w_tables⟩
theorem atStart : AtStart classFile x code maxLocals ret World_1 tables_1 room_1 Calls_1 rest_1 Pre_1 launch0 p0 e0 about1 theMethod args0 below0 :=
  ⟨lists_1, trivial, launch0.admits_env _ _ _, launch0.least_env, fairChoices_fair.cas, fairChoices_fair.clock, w_frames, w_args, w_heap, w_applies, trivial, trivial, w_case⟩
end start1
theorem witness_1 : WitnessClaimed_1 := ⟨start1.p0, start1.e0, start1.about1, start1.theMethod, start1.args0, start1.below0, start1.atStart⟩
end Jvm.Pilot.@@N@@
