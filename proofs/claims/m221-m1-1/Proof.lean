import JvmDerived
import JvmDerived.Pilot.@@N@@Statement
import JvmDerived.Pilot.@@N@@Code
set_option linter.unusedVariables false
set_option linter.unusedSimpArgs false
namespace Jvm.Pilot.@@N@@
open Jvm Jvm.ClassFile Sem Op Lib Jvm.Free Jvm.Stand Jvm.LawKit Jvm.RoadKit Bundle Jvm.Pilot.@@N@@.Jvm.D
/-! OWN KIT: a walk in continuation form. Go F U: from U the run comes to an end of which F holds. -/
namespace W
def Go (p : Program) (e : Env) (below : List Frame) (F : Outcome → State → Prop) (U : State) : Prop :=
  ∃ s₂ o, Steps p.tables e below U s₂ ∧ s₂.status = .running ∧ Ended s₂ below o ∧ F o s₂
def Cx (p : Program) (s : State) (m : MethodId) (meth : Method) (c : Code) (Z : State) (bytes : ByteArray) (maxL : Nat) (own mname : String) (ret : Option FieldType) : Prop :=
  p.tables.exec = Jvm.exec ∧ Z.Warmed39 s.vm ∧ c.code = bytes ∧ c.maxLocals = maxL ∧ s.vm.findClass own = some m.cls ∧ meth.name = mname ∧ meth.sig.returnType = ret ∧ meth.locks = false
def Post (s : State) (Q : Option Value → Heap → List Loc → Prop) (k n : Nat) (o : Outcome) (U' : State) : Prop := ∃ v L, o = .returned v ∧ Q v U'.heap L ∧ FrameEnd s o U' L k n
theorem of {p : Program} {e : Env} {below : List Frame} {F : Outcome → State → Prop} {U U' : State} (h : ∀ t, Steps p.tables e below U' t → Steps p.tables e below U t) (k : Go p e below F U') : Go p e below F U := by
  obtain ⟨s₂, o, h1, h2⟩ := k
  exact ⟨s₂, o, h _ h1, h2⟩
theorem tr {p : Program} {e : Env} {below : List Frame} {F : Outcome → State → Prop} {U U' : State} (h : Steps p.tables e below U U') (k : Go p e below F U') : Go p e below F U := of (fun _ q => h.trans q) k
def fillL : List Value → List Slot
  | [] => []
  | v :: t => if v.category = 2 then .val v :: .second :: fillL t else .val v :: fillL t
theorem fill_eq : ∀ (l : List Value) (acc : Array Slot), l.foldl (fun acc v => if v.category = 2 then (acc.push (.val v)).push .second else acc.push (.val v)) acc = acc ++ (fillL l).toArray
  | [], acc => by simp [fillL]
  | v :: t, acc => by
    rw [List.foldl_cons, fill_eq t, fillL]
    split <;> (apply Array.toList_inj.mp; simp)
theorem entry_of {m : MethodId} {as : List Value} {maxL : Nat} {Ls : List Slot} (h : Ls = fillL as ++ List.replicate (maxL - (fillL as).length) .unset) : entryFrame m as.toArray maxL = mkF m 0 Ls.toArray [] := by
  subst h
  simp only [entryFrame, mkF, argsToLocals]
  congr 1
  rw [List.foldl_toArray, fill_eq]
  simp
def cT : ClassFile.Cond → Int32 → Int32 → Prop
  | .eq, x, y => x = y
  | .ne, x, y => x ≠ y
  | .lt, x, y => x.toInt < y.toInt
  | .ge, x, y => y.toInt ≤ x.toInt
  | .gt, x, y => y.toInt < x.toInt
  | .le, x, y => x.toInt ≤ y.toInt
def cF : ClassFile.Cond → Int32 → Int32 → Prop
  | .eq, x, y => x ≠ y
  | .ne, x, y => x = y
  | .lt, x, y => y.toInt ≤ x.toInt
  | .ge, x, y => x.toInt < y.toInt
  | .gt, x, y => x.toInt ≤ y.toInt
  | .le, x, y => y.toInt < x.toInt
instance (cd : ClassFile.Cond) (x y : Int32) : Decidable (cT cd x y) := by cases cd <;> (simp only [cT]; infer_instance)
instance (cd : ClassFile.Cond) (x y : Int32) : Decidable (cF cd x y) := by cases cd <;> (simp only [cF]; infer_instance)
theorem holdsT {cd : ClassFile.Cond} {x y : Int32} (h : cT cd x y) : if_icmp.holds cd x y = true := by
  cases cd <;> simp only [cT] at h <;> simp [if_icmp.holds, h, Int32.lt_iff_toInt_lt, Int32.le_iff_toInt_le]
theorem holdsF {cd : ClassFile.Cond} {x y : Int32} (h : cF cd x y) : if_icmp.holds cd x y = false := by
  cases cd <;> simp only [cF] at h <;> simp [if_icmp.holds, h, Int32.lt_iff_toInt_lt, Int32.le_iff_toInt_le]
theorem cTF (cd : ClassFile.Cond) (x y : Int32) : cT cd x y ∨ cF cd x y := by
  cases cd <;> simp only [cT, cF] <;> first | omega | exact Decidable.em _ | exact (Decidable.em _).symm
theorem ww {a0 : Array Value} {Z : State} (hw : ∀ d ∈ tables_1, d.before a0 Z = true) (i : Nat) {d : Jvm.Cond} (h : tables_1[i]? = some d) : d.before a0 Z = true := hw _ (List.mem_of_getElem? h)
theorem small {P : Int32 → Prop} (K : Nat) (hK : ∀ i : Fin (K + 1), P (Int32.ofInt (i.1 : Int))) (k : Int32) (h1 : 0 ≤ k.toInt) (h2 : k.toInt ≤ K) : P k := by
  have e : Int32.ofInt ((k.toInt.toNat : Nat) : Int) = k := by rw [Int.toNat_of_nonneg h1]; exact Int32.ofInt_toInt k
  have := hK ⟨k.toInt.toNat, by omega⟩
  rw [e] at this; exact this
theorem eqR {args : Array Value} {s : State} {a b : Term} {idx : List Nat} {y : Addr} (hb : b.eval args s none idx s = some (.ref y)) (h : (Jvm.Cond.eq a b).value args s none s idx = some true) : a.eval args s none idx s = some (.ref y) := by
  cases ha : a.eval args s none idx s with
  | none => simp [Cond.value, ha] at h
  | some x =>
    have hx : x.isRef = true := by cases x <;> simp [Cond.value, ha, hb, Value.isRef] at h ⊢
    have q := gotT (eq_R ha hb hx rfl) h
    rw [q]
theorem elemAt {args : Array Value} {s : State} {t a : Term} {x : Addr} {j : Int32} {v : Value} {cl : Cell} {ty : FieldType} (A : Arr s s.heap x cl ty) (ht : t.eval args s none [] s = some (.ref x)) (hj : a.eval args s none [] s = some (.int j)) (h : (Term.elem t a).eval args s none [] s = some v) : cl.slots[j.toNatClampNeg]? = some v := (elem_in h ht hj A.1).2
theorem lenAt {args : Array Value} {s : State} {t : Term} {x : Addr} {z : Int32} {cl : Cell} {ty : FieldType} (A : Arr s s.heap x cl ty) (ht : t.eval args s none [] s = some (.ref x)) (h : (Jvm.Cond.eq (.length t) (.int z)).value args s none s [] = some true) : cl.slots.size < 2 ^ 31 ∧ cl.slots.size.toInt32 = z := by
  have h6 := eqv_i (Term.int_eval z) h
  have ha := A.fin (Vm.Alike.refl _)
  have sz : cl.slots.size < 2 ^ 31 := by
    refine Decidable.byContradiction fun q => ?_
    simp [Term.eval, ht, ha, q] at h6
  refine ⟨sz, ?_⟩
  rw [len_f ht ha sz] at h6
  exact Value.int.inj (Option.some.inj h6)
theorem arvOf {s : State} {a : Addr} {cl : Cell} {ty : FieldType} {z : Int32} {d : Value} (hf : Fit s) (A : Arr s s.heap a cl ty) (q : cl.slots.size < 2 ^ 31) (e : cl.slots.size.toInt32 = z) (hz : ¬ z < 0) : Arv s s.heap a cl.cls ty z cl.slots.toList d := by
  have S : cl.slots.size = z.toNatClampNeg := by rw [← e]; simp only [Int32.toNatClampNeg, len_toInt q]; rfl
  have H : Has cl cl.slots.toList d := fun k hk => by simp [List.getD, hk]
  refine ⟨cl, A, rfl, S, hz, H, fun j hj => ?_⟩
  have e1 : (Nat.toInt32 j).toNatClampNeg = j := by simp only [Int32.toNatClampNeg, len_toInt (Nat.lt_trans hj q)]; rfl
  exact elem_fits (j := Nat.toInt32 j) hf A (idx_in hj q) (by rw [e1]; exact H j hj)
theorem narZ {x : Int32} (h : x = 0 ∨ x = 1) : narrow .boolean (.int x) = .int x := by rcases h with rfl | rfl <;> rfl
theorem fitZ {x : Int32} (h : x = 0 ∨ x = 1) : fits .boolean (.int x) = true := by rcases h with rfl | rfl <;> rfl
theorem fieldInt {args : Array Value} {s : State} {t : Term} {Cn n d : String} {k : Int32} {a : Addr} (ht : t.eval args s none [] s = some (.ref a)) (h : (Jvm.Cond.eq (.field t Cn n d) (.int k)).value args s none s [] = some true) : Fld s s.heap a Cn n d (.int k) := by
  exact Fld.start ((fld_at ht).symm.trans (eqv_i (Term.int_eval k) h))
section
variable {p : Program} {l : Launch} {e : Env} {R : Room} {s : State} {m : MethodId} {args : Array Value} {below : List Frame} {meth : Method} {c : Code} {T : State} {locs : List Loc} {cells slots : Nat} {Z : State} {a0 : Array Value} {h h0 : Heap} {F : Outcome → State → Prop} {bytes : ByteArray} {maxL : Nat} {own mname : String} {ret : Option FieldType} {pc q : Nat} {Ls L' : Array Slot} {S rest : List Value}
theorem bodyOf {y : MethodName} {ws : List Jvm.Cond} {rm : Room} {as : Array Value} {Q : Option Value → Heap → List Loc → Prop} (hp : plainFor y = true) (hef : ∀ m, entryFrame m as maxL = mkF m 0 Ls [])
    (body : ∀ p e s m below meth c s₁, Cx p s m meth c Z bytes maxL y.cls y.name ret → Stand p l e rm s m as below meth c s₁ [] 0 0 → s₁.heap = h0 → Go p e below (Post s Q rm.cells rm.slots) (s₁.setTop (mkF m 0 Ls []))) :
    MetFree l y (head1 (Jvm.Cond.code y bytes maxL ret :: ws) rm) (fun a U => a = as ∧ Z.Warmed39 U.vm ∧ U.heap = h0) (fun _ _ _ _ _ => True) (fun _ U o U' => ∃ v L, o = .returned v ∧ Q v U'.heap L ∧ FrameEnd U o U' L rm.cells rm.slots) := by
  refine MetFree.of_bodySF hp hisR ?_
  intro p e s m args below meth c s₁ Bd hml0 hP hK
  obtain ⟨rfl, hZ, hh⟩ := hP
  obtain ⟨s₂, o, h1, h2⟩ := body p e s m below meth c s₁ ⟨Bd.exec, hZ, Bd.bytes, hml0, findClass_of_methodNamed Bd.named, (name_of_methodNamed Bd.named Bd.method).1, Bd.returns, Bd.notSynchronized⟩ (Stand.of_body Bd) (by rw [← hh, Bd.state]; rfl)
  exact ⟨s₂, o, castTop (hef m) h1, h2⟩
/-! returns -/
theorem retN (X : Stand p l e R s m args below meth c T locs cells slots) {t : FieldType} (C : Cx p s m meth c Z bytes maxL own mname (some t)) (ht : t = .boolean ∨ t = .byte ∨ t = .char ∨ t = .short) (eT : T.heap = h) {z z' : Int32} (hd : decode bytes pc = .ok (.ireturn, 1)) (hz : narrow t (.int z) = .int z') {k n : Nat} (hk : cells ≤ k) (hn : slots ≤ n) {Q : Option Value → Heap → List Loc → Prop} (hQ : Q (some (.int z')) h locs) :
    Go p e below (Post s Q k n) (T.setTop (mkF m pc Ls (.int z :: rest))) := by
  obtain ⟨hx, hZ, hby, hml, hown, hnm, hret, hlk⟩ := C
  obtain ⟨fs, hr, hrun, hended, hW, hsame⟩ := X.leave (v := some (.int z')) (fun h => by rw [hret] at h; cases h)
  refine ⟨_, _, ?_, hrun, hended, _, _, rfl, ?_, ⟨_, rfl⟩, hW, hsame.mono hk hn⟩
  · have hm' : T.vm.method? m = some meth := X.method'
    have hd' := hb hby hd
    rcases ht with rfl | rfl | rfl | rfl
    all_goals
      show Steps p.tables e below (T.setTop { method := m, pc := pc, locals := Ls, stack := _ :: rest, locked := none }) _
      jvm_step X.here [X.here.top, hx, hd', hm', hret, hz]
      first | (intro acts; rw [hr _ acts rfl rfl rfl]) | rw [hr _ _ rfl rfl rfl]
      exact Steps.refl _
  · show Q _ T.heap _
    rw [eT]; exact hQ
theorem retI (X : Stand p l e R s m args below meth c T locs cells slots) (C : Cx p s m meth c Z bytes maxL own mname (some .int)) (eT : T.heap = h) {z : Int32} (hd : decode bytes pc = .ok (.ireturn, 1)) {k n : Nat} (hk : cells ≤ k) (hn : slots ≤ n) {Q : Option Value → Heap → List Loc → Prop} (hQ : Q (some (.int z)) h locs) :
    Go p e below (Post s Q k n) (T.setTop (mkF m pc Ls (.int z :: rest))) := by
  obtain ⟨hx, hZ, hby, hml, hown, hnm, hret, hlk⟩ := C
  obtain ⟨fs, hr, hrun, hended, hW, hsame⟩ := X.leave (v := some (.int z)) (fun h => by rw [hret] at h; cases h)
  refine ⟨_, _, ?_, hrun, hended, _, _, rfl, ?_, ⟨_, rfl⟩, hW, hsame.mono hk hn⟩
  · have hm' : T.vm.method? m = some meth := X.method'
    have hd' := hb hby hd
    have hn : narrow .int (.int z) = .int z := rfl
    show Steps p.tables e below (T.setTop { method := m, pc := pc, locals := Ls, stack := _ :: rest, locked := none }) _
    jvm_step X.here [X.here.top, hx, hd', hm', hret, hn]
    first | (intro acts; rw [hr _ acts rfl rfl rfl]) | rw [hr _ _ rfl rfl rfl]
    exact Steps.refl _
  · show Q _ T.heap _
    rw [eT]; exact hQ
theorem retJ (X : Stand p l e R s m args below meth c T locs cells slots) (C : Cx p s m meth c Z bytes maxL own mname (some .long)) (eT : T.heap = h) {z : Int64} (hd : decode bytes pc = .ok (.lreturn, 1)) {k n : Nat} (hk : cells ≤ k) (hn : slots ≤ n) {Q : Option Value → Heap → List Loc → Prop} (hQ : Q (some (.long z)) h locs) :
    Go p e below (Post s Q k n) (T.setTop (mkF m pc Ls (.long z :: rest))) := by
  obtain ⟨hx, hZ, hby, hml, hown, hnm, hret, hlk⟩ := C
  obtain ⟨fs, hr, hrun, hended, hW, hsame⟩ := X.leave (v := some (.long z)) (fun h => by rw [hret] at h; cases h)
  refine ⟨_, _, ?_, hrun, hended, _, _, rfl, ?_, ⟨_, rfl⟩, hW, hsame.mono hk hn⟩
  · have hm' : T.vm.method? m = some meth := X.method'
    have hd' := hb hby hd
    show Steps p.tables e below (T.setTop { method := m, pc := pc, locals := Ls, stack := _ :: rest, locked := none }) _
    jvm_step X.here [X.here.top, hx, hd', hm', hret, narrow]
    first | (intro acts; rw [hr _ acts rfl rfl rfl]) | rw [hr _ _ rfl rfl rfl]
    exact Steps.refl _
  · show Q _ T.heap _
    rw [eT]; exact hQ
theorem retA (X : Stand p l e R s m args below meth c T locs cells slots) {t : FieldType} (C : Cx p s m meth c Z bytes maxL own mname (some t)) (ht : t.isReference = true) (eT : T.heap = h) {z : Value} (hz : z.isRef = true) (hd : decode bytes pc = .ok (.areturn, 1)) {k n : Nat} (hk : cells ≤ k) (hn : slots ≤ n) {Q : Option Value → Heap → List Loc → Prop} (hQ : Q (some z) h locs) :
    Go p e below (Post s Q k n) (T.setTop (mkF m pc Ls (z :: rest))) := by
  obtain ⟨hx, hZ, hby, hml, hown, hnm, hret, hlk⟩ := C
  obtain ⟨fs, hr, hrun, hended, hW, hsame⟩ := X.leave (v := some z) (fun h => by rw [hret] at h; cases h)
  refine ⟨_, _, ?_, hrun, hended, _, _, rfl, ?_, ⟨_, rfl⟩, hW, hsame.mono hk hn⟩
  · have hm' : T.vm.method? m = some meth := X.method'
    have hd' := hb hby hd
    show Steps p.tables e below (T.setTop { method := m, pc := pc, locals := Ls, stack := _ :: rest, locked := none }) _
    jvm_step X.here [X.here.top, hx, hd', hm', hret, hz, ht]
    first | (intro acts; rw [hr _ acts rfl rfl rfl]) | rw [hr _ _ rfl rfl rfl]
    exact Steps.refl _
  · show Q _ T.heap _
    rw [eT]; exact hQ
theorem retV (X : Stand p l e R s m args below meth c T locs cells slots) (C : Cx p s m meth c Z bytes maxL own mname none) (eT : T.heap = h) (hd : decode bytes pc = .ok (.return_, 1)) {k n : Nat} (hk : cells ≤ k) (hn : slots ≤ n) {Q : Option Value → Heap → List Loc → Prop} (hQ : Q none h locs) :
    Go p e below (Post s Q k n) (T.setTop (mkF m pc Ls [])) := by
  obtain ⟨hx, hZ, hby, hml, hown, hnm, hret, hlk⟩ := C
  obtain ⟨fs, hr, hrun, hended, hW, hsame⟩ := X.leave (v := none) (fun _ => rfl)
  refine ⟨_, _, X.returnOut hx hret (hb hby hd) hr, hrun, hended, _, _, rfl, ?_, ⟨_, rfl⟩, hW, hsame.mono hk hn⟩
  show Q _ T.heap _
  rw [eT]; exact hQ
/-! plain steps -/
theorem iload (X : Stand p l e R s m args below meth c T locs cells slots) (C : Cx p s m meth c Z bytes maxL own mname ret) {k : Nat} {v : Int32} (hd : decode bytes pc = .ok (.iload k, 2)) (hl : Ls[k]? = some (.val (.int v))) (hq : pc + 2 = q) (K : Go p e below F (T.setTop (mkF m q Ls (.int v :: S)))) : Go p e below F (T.setTop (mkF m pc Ls S)) := by
  subst hq; exact of (fun t k => XS.iload X.here C.1 rfl (hb C.2.2.1 hd) hl k) K
theorem iloadN (X : Stand p l e R s m args below meth c T locs cells slots) (C : Cx p s m meth c Z bytes maxL own mname ret) {k : Fin 4} {v : Int32} (hd : decode bytes pc = .ok (.iload_n k, 1)) (hl : Ls[k.val]? = some (.val (.int v))) (hq : pc + 1 = q) (K : Go p e below F (T.setTop (mkF m q Ls (.int v :: S)))) : Go p e below F (T.setTop (mkF m pc Ls S)) := by
  subst hq; exact of (fun t k => XS.iloadN X.here C.1 rfl (hb C.2.2.1 hd) hl k) K
theorem lload (X : Stand p l e R s m args below meth c T locs cells slots) (C : Cx p s m meth c Z bytes maxL own mname ret) {k : Nat} {v : Int64} (hd : decode bytes pc = .ok (.lload k, 2)) (hl : Ls[k]? = some (.val (.long v))) (hq : pc + 2 = q) (K : Go p e below F (T.setTop (mkF m q Ls (.long v :: S)))) : Go p e below F (T.setTop (mkF m pc Ls S)) := by
  subst hq; exact of (fun t k => XS.lload X.here C.1 rfl (hb C.2.2.1 hd) hl k) K
theorem lloadN (X : Stand p l e R s m args below meth c T locs cells slots) (C : Cx p s m meth c Z bytes maxL own mname ret) {k : Fin 4} {v : Int64} (hd : decode bytes pc = .ok (.lload_n k, 1)) (hl : Ls[k.val]? = some (.val (.long v))) (hq : pc + 1 = q) (K : Go p e below F (T.setTop (mkF m q Ls (.long v :: S)))) : Go p e below F (T.setTop (mkF m pc Ls S)) := by
  subst hq; exact of (fun t k => XS.lloadN X.here C.1 rfl (hb C.2.2.1 hd) hl k) K
theorem aload (X : Stand p l e R s m args below meth c T locs cells slots) (C : Cx p s m meth c Z bytes maxL own mname ret) {k : Nat} {v : Value} (hd : decode bytes pc = .ok (.aload k, 2)) (hl : Ls[k]? = some (.val v)) (hv : v.isRef = true) (hq : pc + 2 = q) (K : Go p e below F (T.setTop (mkF m q Ls (v :: S)))) : Go p e below F (T.setTop (mkF m pc Ls S)) := by
  subst hq; exact of (fun t k => XS.aload X.here C.1 rfl (hb C.2.2.1 hd) hl hv k) K
theorem aloadN (X : Stand p l e R s m args below meth c T locs cells slots) (C : Cx p s m meth c Z bytes maxL own mname ret) {k : Fin 4} {v : Value} (hd : decode bytes pc = .ok (.aload_n k, 1)) (hl : Ls[k.val]? = some (.val v)) (hv : v.isRef = true) (hq : pc + 1 = q) (K : Go p e below F (T.setTop (mkF m q Ls (v :: S)))) : Go p e below F (T.setTop (mkF m pc Ls S)) := by
  subst hq; exact of (fun t k => XS.aloadN X.here C.1 rfl (hb C.2.2.1 hd) hl hv k) K
theorem istore (X : Stand p l e R s m args below meth c T locs cells slots) (C : Cx p s m meth c Z bytes maxL own mname ret) {k : Nat} {v : Int32} (hd : decode bytes pc = .ok (.istore k, 2)) (hl : storeLocals Ls k (.int v) = some L') (hq : pc + 2 = q) (K : Go p e below F (T.setTop (mkF m q L' S))) : Go p e below F (T.setTop (mkF m pc Ls (.int v :: S))) := by
  subst hq; exact of (fun t k => XS.istore X.here C.1 rfl (hb C.2.2.1 hd) rfl hl k) K
theorem istoreN (X : Stand p l e R s m args below meth c T locs cells slots) (C : Cx p s m meth c Z bytes maxL own mname ret) {k : Fin 4} {v : Int32} (hd : decode bytes pc = .ok (.istore_n k, 1)) (hl : storeLocals Ls k.val (.int v) = some L') (hq : pc + 1 = q) (K : Go p e below F (T.setTop (mkF m q L' S))) : Go p e below F (T.setTop (mkF m pc Ls (.int v :: S))) := by
  subst hq; exact of (fun t k => XS.istoreN X.here C.1 rfl (hb C.2.2.1 hd) rfl hl k) K
theorem lstore (X : Stand p l e R s m args below meth c T locs cells slots) (C : Cx p s m meth c Z bytes maxL own mname ret) {k : Nat} {v : Int64} (hd : decode bytes pc = .ok (.lstore k, 2)) (hl : storeLocals Ls k (.long v) = some L') (hq : pc + 2 = q) (K : Go p e below F (T.setTop (mkF m q L' S))) : Go p e below F (T.setTop (mkF m pc Ls (.long v :: S))) := by
  subst hq; exact of (fun t k => XS.lstore X.here C.1 rfl (hb C.2.2.1 hd) rfl hl k) K
theorem lstoreN (X : Stand p l e R s m args below meth c T locs cells slots) (C : Cx p s m meth c Z bytes maxL own mname ret) {k : Fin 4} {v : Int64} (hd : decode bytes pc = .ok (.lstore_n k, 1)) (hl : storeLocals Ls k.val (.long v) = some L') (hq : pc + 1 = q) (K : Go p e below F (T.setTop (mkF m q L' S))) : Go p e below F (T.setTop (mkF m pc Ls (.long v :: S))) := by
  subst hq; exact of (fun t k => XS.lstoreN X.here C.1 rfl (hb C.2.2.1 hd) rfl hl k) K
theorem astore (X : Stand p l e R s m args below meth c T locs cells slots) (C : Cx p s m meth c Z bytes maxL own mname ret) {k : Nat} {v : Value} (hd : decode bytes pc = .ok (.astore k, 2)) (hv : v.isRef = true) (hl : storeLocals Ls k v = some L') (hq : pc + 2 = q) (K : Go p e below F (T.setTop (mkF m q L' S))) : Go p e below F (T.setTop (mkF m pc Ls (v :: S))) := by
  subst hq; exact of (fun t k => XS.astore X.here C.1 rfl (hb C.2.2.1 hd) rfl hv hl k) K
theorem astoreN (X : Stand p l e R s m args below meth c T locs cells slots) (C : Cx p s m meth c Z bytes maxL own mname ret) {k : Fin 4} {v : Value} (hd : decode bytes pc = .ok (.astore_n k, 1)) (hv : v.isRef = true) (hl : storeLocals Ls k.val v = some L') (hq : pc + 1 = q) (K : Go p e below F (T.setTop (mkF m q L' S))) : Go p e below F (T.setTop (mkF m pc Ls (v :: S))) := by
  subst hq; exact of (fun t k => XS.astoreN X.here C.1 rfl (hb C.2.2.1 hd) rfl hv hl k) K
theorem iinc (X : Stand p l e R s m args below meth c T locs cells slots) (C : Cx p s m meth c Z bytes maxL own mname ret) {k : Nat} {i : Int} {x y : Int32} (hd : decode bytes pc = .ok (.iinc k i, 3)) (hl : Ls[k]? = some (.val (.int x))) (hy : x + Int32.ofInt i = y) (hl' : storeLocals Ls k (.int y) = some L') (hq : pc + 3 = q) (K : Go p e below F (T.setTop (mkF m q L' S))) : Go p e below F (T.setTop (mkF m pc Ls S)) := by
  subst hq hy; exact of (fun t k => XS.iinc X.here C.1 rfl (hb C.2.2.1 hd) hl hl' k) K
theorem iconst (X : Stand p l e R s m args below meth c T locs cells slots) (C : Cx p s m meth c Z bytes maxL own mname ret) {i : Int} {v : Int32} (hd : decode bytes pc = .ok (.iconst i, 1)) (hi : Int32.ofInt i = v) (hq : pc + 1 = q) (K : Go p e below F (T.setTop (mkF m q Ls (.int v :: S)))) : Go p e below F (T.setTop (mkF m pc Ls S)) := by
  subst hq hi; exact of (fun t k => XS.iconst X.here C.1 rfl (hb C.2.2.1 hd) k) K
theorem bipush (X : Stand p l e R s m args below meth c T locs cells slots) (C : Cx p s m meth c Z bytes maxL own mname ret) {i : Int} {v : Int32} (hd : decode bytes pc = .ok (.bipush i, 2)) (hi : (Int8.ofInt i).toInt32 = v) (hq : pc + 2 = q) (K : Go p e below F (T.setTop (mkF m q Ls (.int v :: S)))) : Go p e below F (T.setTop (mkF m pc Ls S)) := by
  subst hq hi; exact of (fun t k => XS.bipush X.here C.1 rfl (hb C.2.2.1 hd) k) K
theorem sipush (X : Stand p l e R s m args below meth c T locs cells slots) (C : Cx p s m meth c Z bytes maxL own mname ret) {i : Int} {v : Int32} (hd : decode bytes pc = .ok (.sipush i, 3)) (hi : (Int16.ofInt i).toInt32 = v) (hq : pc + 3 = q) (K : Go p e below F (T.setTop (mkF m q Ls (.int v :: S)))) : Go p e below F (T.setTop (mkF m pc Ls S)) := by
  subst hq hi; exact of (fun t k => XS.sipush X.here C.1 rfl (hb C.2.2.1 hd) k) K
theorem lconst0 (X : Stand p l e R s m args below meth c T locs cells slots) (C : Cx p s m meth c Z bytes maxL own mname ret) (hd : decode bytes pc = .ok (.lconst 0, 1)) (hq : pc + 1 = q) (K : Go p e below F (T.setTop (mkF m q Ls (.long 0 :: S)))) : Go p e below F (T.setTop (mkF m pc Ls S)) := by
  subst hq; exact of (fun t k => XS.lconst X.here C.1 rfl (hb C.2.2.1 hd) k) K
theorem lconst1 (X : Stand p l e R s m args below meth c T locs cells slots) (C : Cx p s m meth c Z bytes maxL own mname ret) (hd : decode bytes pc = .ok (.lconst 1, 1)) (hq : pc + 1 = q) (K : Go p e below F (T.setTop (mkF m q Ls (.long 1 :: S)))) : Go p e below F (T.setTop (mkF m pc Ls S)) := by
  subst hq; exact of (fun t k => XS.lconst X.here C.1 rfl (hb C.2.2.1 hd) k) K
theorem ldcI (X : Stand p l e R s m args below meth c T locs cells slots) (C : Cx p s m meth c Z bytes maxL own mname ret) {i : Nat} {v : Int32} (w : (Jvm.Cond.constant own i v).before a0 Z = true) (hd : decode bytes pc = .ok (.ldc i, 2)) (hq : pc + 2 = q) (K : Go p e below F (T.setTop (mkF m q Ls (.int v :: S)))) : Go p e below F (T.setTop (mkF m pc Ls S)) := by
  subst hq; exact of (X.ldcInt C.1 C.2.2.2.2.1 (mvT C.2.1 w) (g := mkF m pc Ls S) rfl (hb C.2.2.1 hd)) K
theorem ldcL (X : Stand p l e R s m args below meth c T locs cells slots) (C : Cx p s m meth c Z bytes maxL own mname ret) {i : Nat} {v : Int64} (w : (Jvm.Cond.constantLong own i v).before a0 Z = true) (hd : decode bytes pc = .ok (.ldc2_w i, 3)) (hq : pc + 3 = q) (K : Go p e below F (T.setTop (mkF m q Ls (.long v :: S)))) : Go p e below F (T.setTop (mkF m pc Ls S)) := by
  subst hq; exact of (X.ldc2Long C.1 C.2.2.2.2.1 (mvT C.2.1 w) (g := mkF m pc Ls S) rfl (hb C.2.2.1 hd)) K
theorem aconst (X : Stand p l e R s m args below meth c T locs cells slots) (C : Cx p s m meth c Z bytes maxL own mname ret) (hd : decode bytes pc = .ok (.aconst_null, 1)) (hq : pc + 1 = q) (K : Go p e below F (T.setTop (mkF m q Ls (.null :: S)))) : Go p e below F (T.setTop (mkF m pc Ls S)) := by
  subst hq; exact of (fun t k => XS.aconstNull X.here C.1 rfl (hb C.2.2.1 hd) k) K
theorem iadd (X : Stand p l e R s m args below meth c T locs cells slots) (C : Cx p s m meth c Z bytes maxL own mname ret) {x : Int32} {y : Int32} (hd : decode bytes pc = .ok (.iadd, 1)) (hq : pc + 1 = q) (K : Go p e below F (T.setTop (mkF m q Ls (.int (x + y) :: S)))) : Go p e below F (T.setTop (mkF m pc Ls (.int y :: .int x :: S))) := by
  subst hq; exact of (fun t k => XS.iadd X.here C.1 rfl (hb C.2.2.1 hd) rfl k) K
theorem ladd (X : Stand p l e R s m args below meth c T locs cells slots) (C : Cx p s m meth c Z bytes maxL own mname ret) {x : Int64} {y : Int64} (hd : decode bytes pc = .ok (.ladd, 1)) (hq : pc + 1 = q) (K : Go p e below F (T.setTop (mkF m q Ls (.long (x + y) :: S)))) : Go p e below F (T.setTop (mkF m pc Ls (.long y :: .long x :: S))) := by
  subst hq; exact of (fun t k => XS.ladd X.here C.1 rfl (hb C.2.2.1 hd) rfl k) K
theorem isub (X : Stand p l e R s m args below meth c T locs cells slots) (C : Cx p s m meth c Z bytes maxL own mname ret) {x : Int32} {y : Int32} (hd : decode bytes pc = .ok (.isub, 1)) (hq : pc + 1 = q) (K : Go p e below F (T.setTop (mkF m q Ls (.int (x - y) :: S)))) : Go p e below F (T.setTop (mkF m pc Ls (.int y :: .int x :: S))) := by
  subst hq; exact of (fun t k => XS.isub X.here C.1 rfl (hb C.2.2.1 hd) rfl k) K
theorem lsub (X : Stand p l e R s m args below meth c T locs cells slots) (C : Cx p s m meth c Z bytes maxL own mname ret) {x : Int64} {y : Int64} (hd : decode bytes pc = .ok (.lsub, 1)) (hq : pc + 1 = q) (K : Go p e below F (T.setTop (mkF m q Ls (.long (x - y) :: S)))) : Go p e below F (T.setTop (mkF m pc Ls (.long y :: .long x :: S))) := by
  subst hq; exact of (fun t k => XS.lsub X.here C.1 rfl (hb C.2.2.1 hd) rfl k) K
theorem imul (X : Stand p l e R s m args below meth c T locs cells slots) (C : Cx p s m meth c Z bytes maxL own mname ret) {x : Int32} {y : Int32} (hd : decode bytes pc = .ok (.imul, 1)) (hq : pc + 1 = q) (K : Go p e below F (T.setTop (mkF m q Ls (.int (x * y) :: S)))) : Go p e below F (T.setTop (mkF m pc Ls (.int y :: .int x :: S))) := by
  subst hq; exact of (fun t k => XS.imul X.here C.1 rfl (hb C.2.2.1 hd) rfl k) K
theorem lmul (X : Stand p l e R s m args below meth c T locs cells slots) (C : Cx p s m meth c Z bytes maxL own mname ret) {x : Int64} {y : Int64} (hd : decode bytes pc = .ok (.lmul, 1)) (hq : pc + 1 = q) (K : Go p e below F (T.setTop (mkF m q Ls (.long (x * y) :: S)))) : Go p e below F (T.setTop (mkF m pc Ls (.long y :: .long x :: S))) := by
  subst hq; exact of (fun t k => XS.lmul X.here C.1 rfl (hb C.2.2.1 hd) rfl k) K
theorem iand (X : Stand p l e R s m args below meth c T locs cells slots) (C : Cx p s m meth c Z bytes maxL own mname ret) {x : Int32} {y : Int32} (hd : decode bytes pc = .ok (.iand, 1)) (hq : pc + 1 = q) (K : Go p e below F (T.setTop (mkF m q Ls (.int (x &&& y) :: S)))) : Go p e below F (T.setTop (mkF m pc Ls (.int y :: .int x :: S))) := by
  subst hq; exact of (fun t k => XS.iand X.here C.1 rfl (hb C.2.2.1 hd) rfl k) K
theorem land (X : Stand p l e R s m args below meth c T locs cells slots) (C : Cx p s m meth c Z bytes maxL own mname ret) {x : Int64} {y : Int64} (hd : decode bytes pc = .ok (.land, 1)) (hq : pc + 1 = q) (K : Go p e below F (T.setTop (mkF m q Ls (.long (x &&& y) :: S)))) : Go p e below F (T.setTop (mkF m pc Ls (.long y :: .long x :: S))) := by
  subst hq; exact of (fun t k => XS.land X.here C.1 rfl (hb C.2.2.1 hd) rfl k) K
theorem ior (X : Stand p l e R s m args below meth c T locs cells slots) (C : Cx p s m meth c Z bytes maxL own mname ret) {x : Int32} {y : Int32} (hd : decode bytes pc = .ok (.ior, 1)) (hq : pc + 1 = q) (K : Go p e below F (T.setTop (mkF m q Ls (.int (x ||| y) :: S)))) : Go p e below F (T.setTop (mkF m pc Ls (.int y :: .int x :: S))) := by
  subst hq; exact of (fun t k => XS.ior X.here C.1 rfl (hb C.2.2.1 hd) rfl k) K
theorem lor (X : Stand p l e R s m args below meth c T locs cells slots) (C : Cx p s m meth c Z bytes maxL own mname ret) {x : Int64} {y : Int64} (hd : decode bytes pc = .ok (.lor, 1)) (hq : pc + 1 = q) (K : Go p e below F (T.setTop (mkF m q Ls (.long (x ||| y) :: S)))) : Go p e below F (T.setTop (mkF m pc Ls (.long y :: .long x :: S))) := by
  subst hq; exact of (fun t k => XS.lor X.here C.1 rfl (hb C.2.2.1 hd) rfl k) K
theorem ixor (X : Stand p l e R s m args below meth c T locs cells slots) (C : Cx p s m meth c Z bytes maxL own mname ret) {x : Int32} {y : Int32} (hd : decode bytes pc = .ok (.ixor, 1)) (hq : pc + 1 = q) (K : Go p e below F (T.setTop (mkF m q Ls (.int (x ^^^ y) :: S)))) : Go p e below F (T.setTop (mkF m pc Ls (.int y :: .int x :: S))) := by
  subst hq; exact of (fun t k => XS.ixor X.here C.1 rfl (hb C.2.2.1 hd) rfl k) K
theorem lxor (X : Stand p l e R s m args below meth c T locs cells slots) (C : Cx p s m meth c Z bytes maxL own mname ret) {x : Int64} {y : Int64} (hd : decode bytes pc = .ok (.lxor, 1)) (hq : pc + 1 = q) (K : Go p e below F (T.setTop (mkF m q Ls (.long (x ^^^ y) :: S)))) : Go p e below F (T.setTop (mkF m pc Ls (.long y :: .long x :: S))) := by
  subst hq; exact of (fun t k => XS.lxor X.here C.1 rfl (hb C.2.2.1 hd) rfl k) K
theorem ishl (X : Stand p l e R s m args below meth c T locs cells slots) (C : Cx p s m meth c Z bytes maxL own mname ret) {x : Int32} {y : Int32} (hd : decode bytes pc = .ok (.ishl, 1)) (hq : pc + 1 = q) (K : Go p e below F (T.setTop (mkF m q Ls (.int (x <<< (y &&& 31)) :: S)))) : Go p e below F (T.setTop (mkF m pc Ls (.int y :: .int x :: S))) := by
  subst hq; exact of (fun t k => XS.ishl X.here C.1 rfl (hb C.2.2.1 hd) rfl k) K
theorem ishr (X : Stand p l e R s m args below meth c T locs cells slots) (C : Cx p s m meth c Z bytes maxL own mname ret) {x : Int32} {y : Int32} (hd : decode bytes pc = .ok (.ishr, 1)) (hq : pc + 1 = q) (K : Go p e below F (T.setTop (mkF m q Ls (.int (x >>> (y &&& 31)) :: S)))) : Go p e below F (T.setTop (mkF m pc Ls (.int y :: .int x :: S))) := by
  subst hq; exact of (fun t k => XS.ishr X.here C.1 rfl (hb C.2.2.1 hd) rfl k) K
theorem iushr (X : Stand p l e R s m args below meth c T locs cells slots) (C : Cx p s m meth c Z bytes maxL own mname ret) {x : Int32} {y : Int32} (hd : decode bytes pc = .ok (.iushr, 1)) (hq : pc + 1 = q) (K : Go p e below F (T.setTop (mkF m q Ls (.int ((x.toUInt32 >>> (y &&& 31).toUInt32).toInt32) :: S)))) : Go p e below F (T.setTop (mkF m pc Ls (.int y :: .int x :: S))) := by
  subst hq; exact of (fun t k => XS.iushr X.here C.1 rfl (hb C.2.2.1 hd) rfl k) K
theorem lshl (X : Stand p l e R s m args below meth c T locs cells slots) (C : Cx p s m meth c Z bytes maxL own mname ret) {x : Int64} {y : Int32} (hd : decode bytes pc = .ok (.lshl, 1)) (hq : pc + 1 = q) (K : Go p e below F (T.setTop (mkF m q Ls (.long (x <<< (y &&& 0x3f).toInt64) :: S)))) : Go p e below F (T.setTop (mkF m pc Ls (.int y :: .long x :: S))) := by
  subst hq; exact of (fun t k => XS.lshl X.here C.1 rfl (hb C.2.2.1 hd) rfl k) K
theorem lshr (X : Stand p l e R s m args below meth c T locs cells slots) (C : Cx p s m meth c Z bytes maxL own mname ret) {x : Int64} {y : Int32} (hd : decode bytes pc = .ok (.lshr, 1)) (hq : pc + 1 = q) (K : Go p e below F (T.setTop (mkF m q Ls (.long (x >>> (y &&& 0x3f).toInt64) :: S)))) : Go p e below F (T.setTop (mkF m pc Ls (.int y :: .long x :: S))) := by
  subst hq; exact of (fun t k => XS.lshr X.here C.1 rfl (hb C.2.2.1 hd) rfl k) K
theorem lushr (X : Stand p l e R s m args below meth c T locs cells slots) (C : Cx p s m meth c Z bytes maxL own mname ret) {x : Int64} {y : Int32} (hd : decode bytes pc = .ok (.lushr, 1)) (hq : pc + 1 = q) (K : Go p e below F (T.setTop (mkF m q Ls (.long ((x.toUInt64 >>> (y &&& 0x3f).toInt64.toUInt64).toInt64) :: S)))) : Go p e below F (T.setTop (mkF m pc Ls (.int y :: .long x :: S))) := by
  subst hq; exact of (fun t k => XS.lushr X.here C.1 rfl (hb C.2.2.1 hd) rfl k) K
theorem ineg (X : Stand p l e R s m args below meth c T locs cells slots) (C : Cx p s m meth c Z bytes maxL own mname ret) {x : Int32} (hd : decode bytes pc = .ok (.ineg, 1)) (hq : pc + 1 = q) (K : Go p e below F (T.setTop (mkF m q Ls (.int (-x) :: S)))) : Go p e below F (T.setTop (mkF m pc Ls (.int x :: S))) := by
  subst hq; exact of (fun t k => XS.ineg X.here C.1 rfl (hb C.2.2.1 hd) rfl k) K
theorem lneg (X : Stand p l e R s m args below meth c T locs cells slots) (C : Cx p s m meth c Z bytes maxL own mname ret) {x : Int64} (hd : decode bytes pc = .ok (.lneg, 1)) (hq : pc + 1 = q) (K : Go p e below F (T.setTop (mkF m q Ls (.long (-x) :: S)))) : Go p e below F (T.setTop (mkF m pc Ls (.long x :: S))) := by
  subst hq; exact of (fun t k => XS.lneg X.here C.1 rfl (hb C.2.2.1 hd) rfl k) K
theorem i2l (X : Stand p l e R s m args below meth c T locs cells slots) (C : Cx p s m meth c Z bytes maxL own mname ret) {x : Int32} (hd : decode bytes pc = .ok (.i2l, 1)) (hq : pc + 1 = q) (K : Go p e below F (T.setTop (mkF m q Ls (.long (x.toInt64) :: S)))) : Go p e below F (T.setTop (mkF m pc Ls (.int x :: S))) := by
  subst hq; exact of (fun t k => XS.i2l X.here C.1 rfl (hb C.2.2.1 hd) rfl k) K
theorem l2i (X : Stand p l e R s m args below meth c T locs cells slots) (C : Cx p s m meth c Z bytes maxL own mname ret) {x : Int64} (hd : decode bytes pc = .ok (.l2i, 1)) (hq : pc + 1 = q) (K : Go p e below F (T.setTop (mkF m q Ls (.int (x.toInt32) :: S)))) : Go p e below F (T.setTop (mkF m pc Ls (.long x :: S))) := by
  subst hq; exact of (fun t k => XS.l2i X.here C.1 rfl (hb C.2.2.1 hd) rfl k) K
theorem i2b (X : Stand p l e R s m args below meth c T locs cells slots) (C : Cx p s m meth c Z bytes maxL own mname ret) {x : Int32} (hd : decode bytes pc = .ok (.i2b, 1)) (hq : pc + 1 = q) (K : Go p e below F (T.setTop (mkF m q Ls (.int (x.toInt8.toInt32) :: S)))) : Go p e below F (T.setTop (mkF m pc Ls (.int x :: S))) := by
  subst hq; exact of (fun t k => XS.i2b X.here C.1 rfl (hb C.2.2.1 hd) rfl k) K
theorem i2s (X : Stand p l e R s m args below meth c T locs cells slots) (C : Cx p s m meth c Z bytes maxL own mname ret) {x : Int32} (hd : decode bytes pc = .ok (.i2s, 1)) (hq : pc + 1 = q) (K : Go p e below F (T.setTop (mkF m q Ls (.int (x.toInt16.toInt32) :: S)))) : Go p e below F (T.setTop (mkF m pc Ls (.int x :: S))) := by
  subst hq; exact of (fun t k => XS.i2s X.here C.1 rfl (hb C.2.2.1 hd) rfl k) K
theorem i2c (X : Stand p l e R s m args below meth c T locs cells slots) (C : Cx p s m meth c Z bytes maxL own mname ret) {x : Int32} (hd : decode bytes pc = .ok (.i2c, 1)) (hq : pc + 1 = q) (K : Go p e below F (T.setTop (mkF m q Ls (.int (x.toUInt32.toUInt16.toUInt32.toInt32) :: S)))) : Go p e below F (T.setTop (mkF m pc Ls (.int x :: S))) := by
  subst hq; exact of (fun t k => XS.i2c X.here C.1 rfl (hb C.2.2.1 hd) rfl k) K
theorem idiv (X : Stand p l e R s m args below meth c T locs cells slots) (C : Cx p s m meth c Z bytes maxL own mname ret) {x y : Int32} (hd : decode bytes pc = .ok (.idiv, 1)) (hy : y ≠ 0) (hq : pc + 1 = q) (K : Go p e below F (T.setTop (mkF m q Ls (.int (x / y) :: S)))) : Go p e below F (T.setTop (mkF m pc Ls (.int y :: .int x :: S))) := by
  subst hq; exact of (fun t k => XS.idiv X.here C.1 rfl (hb C.2.2.1 hd) rfl hy k) K
theorem irem (X : Stand p l e R s m args below meth c T locs cells slots) (C : Cx p s m meth c Z bytes maxL own mname ret) {x y : Int32} (hd : decode bytes pc = .ok (.irem, 1)) (hy : y ≠ 0) (hq : pc + 1 = q) (K : Go p e below F (T.setTop (mkF m q Ls (.int (x % y) :: S)))) : Go p e below F (T.setTop (mkF m pc Ls (.int y :: .int x :: S))) := by
  subst hq; exact of (fun t k => iremM (g := mkF m pc Ls (.int y :: .int x :: S)) X C.1 rfl (hb C.2.2.1 hd) rfl hy k) K
theorem ldiv (X : Stand p l e R s m args below meth c T locs cells slots) (C : Cx p s m meth c Z bytes maxL own mname ret) {x y : Int64} (hd : decode bytes pc = .ok (.ldiv, 1)) (hy : y ≠ 0) (hq : pc + 1 = q) (K : Go p e below F (T.setTop (mkF m q Ls (.long (x / y) :: S)))) : Go p e below F (T.setTop (mkF m pc Ls (.long y :: .long x :: S))) := by
  subst hq; exact of (fun t k => XS.ldiv X.here C.1 rfl (hb C.2.2.1 hd) rfl hy k) K
theorem lcmp (X : Stand p l e R s m args below meth c T locs cells slots) (C : Cx p s m meth c Z bytes maxL own mname ret) {x y : Int64} (hd : decode bytes pc = .ok (.lcmp, 1)) (hq : pc + 1 = q) (K : Go p e below F (T.setTop (mkF m q Ls (.int (lcmpW x y) :: S)))) : Go p e below F (T.setTop (mkF m pc Ls (.long y :: .long x :: S))) := by
  subst hq; exact of (fun t k => XS.lcmp X.here C.1 rfl (hb C.2.2.1 hd) rfl k) K
theorem dup (X : Stand p l e R s m args below meth c T locs cells slots) (C : Cx p s m meth c Z bytes maxL own mname ret) {v : Value} (hd : decode bytes pc = .ok (.dup, 1)) (hv : v.category = 1) (hq : pc + 1 = q) (K : Go p e below F (T.setTop (mkF m q Ls (v :: v :: S)))) : Go p e below F (T.setTop (mkF m pc Ls (v :: S))) := by
  subst hq; exact of (fun t k => XS.dup X.here C.1 rfl (hb C.2.2.1 hd) rfl hv k) K
theorem dupX1 (X : Stand p l e R s m args below meth c T locs cells slots) (C : Cx p s m meth c Z bytes maxL own mname ret) {v w : Value} (hd : decode bytes pc = .ok (.dup_x1, 1)) (hv : v.category = 1) (hw : w.category = 1) (hq : pc + 1 = q) (K : Go p e below F (T.setTop (mkF m q Ls (v :: w :: v :: S)))) : Go p e below F (T.setTop (mkF m pc Ls (v :: w :: S))) := by
  subst hq; exact of (fun t k => XS.dupX1 X.here C.1 rfl (hb C.2.2.1 hd) rfl hv hw k) K
theorem pop (X : Stand p l e R s m args below meth c T locs cells slots) (C : Cx p s m meth c Z bytes maxL own mname ret) {v : Value} (hd : decode bytes pc = .ok (.pop, 1)) (hv : v.category = 1) (hq : pc + 1 = q) (K : Go p e below F (T.setTop (mkF m q Ls S))) : Go p e below F (T.setTop (mkF m pc Ls (v :: S))) := by
  subst hq; exact of (fun t k => XS.pop X.here C.1 rfl (hb C.2.2.1 hd) rfl hv k) K
theorem goto (X : Stand p l e R s m args below meth c T locs cells slots) (C : Cx p s m meth c Z bytes maxL own mname ret) {o : Int} (hd : decode bytes pc = .ok (.goto o, 3)) (ho : 0 ≤ (pc : Int) + o) (hq : ((pc : Int) + o).toNat = q) (K : Go p e below F (T.setTop (mkF m q Ls S))) : Go p e below F (T.setTop (mkF m pc Ls S)) :=
  of (fun t k => XS.goto X.here C.1 rfl rfl (hb C.2.2.1 hd) ho hq k) K
theorem icmpT (X : Stand p l e R s m args below meth c T locs cells slots) (C : Cx p s m meth c Z bytes maxL own mname ret) {cd : ClassFile.Cond} {o : Int} {x y : Int32} (hd : decode bytes pc = .ok (.if_icmp cd o, 3)) (ho : 0 ≤ (pc : Int) + o) (hq : ((pc : Int) + o).toNat = q) (hc : cT cd x y) (K : Go p e below F (T.setTop (mkF m q Ls S))) : Go p e below F (T.setTop (mkF m pc Ls (.int y :: .int x :: S))) :=
  of (fun t k => XS.icmpYes X.here C.1 rfl rfl (hb C.2.2.1 hd) rfl (holdsT hc) ho hq k) K
theorem icmpF (X : Stand p l e R s m args below meth c T locs cells slots) (C : Cx p s m meth c Z bytes maxL own mname ret) {cd : ClassFile.Cond} {o : Int} {x y : Int32} (hd : decode bytes pc = .ok (.if_icmp cd o, 3)) (hq : pc + 3 = q) (hc : cF cd x y) (K : Go p e below F (T.setTop (mkF m q Ls S))) : Go p e below F (T.setTop (mkF m pc Ls (.int y :: .int x :: S))) := by
  subst hq; exact of (fun t k => XS.icmpNo X.here C.1 rfl (hb C.2.2.1 hd) rfl (holdsF hc) k) K
theorem icmp (X : Stand p l e R s m args below meth c T locs cells slots) (C : Cx p s m meth c Z bytes maxL own mname ret) {cd : ClassFile.Cond} {o : Int} {x y : Int32} {q' : Nat} (hd : decode bytes pc = .ok (.if_icmp cd o, 3)) (ho : 0 ≤ (pc : Int) + o) (hq : ((pc : Int) + o).toNat = q) (hq' : pc + 3 = q') (K : cT cd x y → Go p e below F (T.setTop (mkF m q Ls S))) (K' : cF cd x y → Go p e below F (T.setTop (mkF m q' Ls S))) : Go p e below F (T.setTop (mkF m pc Ls (.int y :: .int x :: S))) :=
  (cTF cd x y).elim (fun hc => icmpT X C hd ho hq hc (K hc)) (fun hc => icmpF X C hd hq' hc (K' hc))
theorem ifT (X : Stand p l e R s m args below meth c T locs cells slots) (C : Cx p s m meth c Z bytes maxL own mname ret) {cd : ClassFile.Cond} {o : Int} {x : Int32} (hd : decode bytes pc = .ok (.ifCond cd o, 3)) (ho : 0 ≤ (pc : Int) + o) (hq : ((pc : Int) + o).toNat = q) (hc : cT cd x 0) (K : Go p e below F (T.setTop (mkF m q Ls S))) : Go p e below F (T.setTop (mkF m pc Ls (.int x :: S))) :=
  of (fun t k => XS.ifYes X.here C.1 rfl rfl (hb C.2.2.1 hd) rfl ((if0 _ _).trans (holdsT hc)) ho hq k) K
theorem ifF (X : Stand p l e R s m args below meth c T locs cells slots) (C : Cx p s m meth c Z bytes maxL own mname ret) {cd : ClassFile.Cond} {o : Int} {x : Int32} (hd : decode bytes pc = .ok (.ifCond cd o, 3)) (hq : pc + 3 = q) (hc : cF cd x 0) (K : Go p e below F (T.setTop (mkF m q Ls S))) : Go p e below F (T.setTop (mkF m pc Ls (.int x :: S))) := by
  subst hq; exact of (fun t k => XS.ifNo X.here C.1 rfl (hb C.2.2.1 hd) rfl ((if0 _ _).trans (holdsF hc)) k) K
theorem if_ (X : Stand p l e R s m args below meth c T locs cells slots) (C : Cx p s m meth c Z bytes maxL own mname ret) {cd : ClassFile.Cond} {o : Int} {x : Int32} {q' : Nat} (hd : decode bytes pc = .ok (.ifCond cd o, 3)) (ho : 0 ≤ (pc : Int) + o) (hq : ((pc : Int) + o).toNat = q) (hq' : pc + 3 = q') (K : cT cd x 0 → Go p e below F (T.setTop (mkF m q Ls S))) (K' : cF cd x 0 → Go p e below F (T.setTop (mkF m q' Ls S))) : Go p e below F (T.setTop (mkF m pc Ls (.int x :: S))) :=
  (cTF cd x 0).elim (fun hc => ifT X C hd ho hq hc (K hc)) (fun hc => ifF X C hd hq' hc (K' hc))
theorem ifnullT (X : Stand p l e R s m args below meth c T locs cells slots) (C : Cx p s m meth c Z bytes maxL own mname ret) {o : Int} (hd : decode bytes pc = .ok (.ifnull o, 3)) (ho : 0 ≤ (pc : Int) + o) (hq : ((pc : Int) + o).toNat = q) (K : Go p e below F (T.setTop (mkF m q Ls S))) : Go p e below F (T.setTop (mkF m pc Ls (.null :: S))) :=
  of (fun t k => XS.ifnullYes X.here C.1 rfl rfl (hb C.2.2.1 hd) rfl ho hq k) K
theorem ifnullF (X : Stand p l e R s m args below meth c T locs cells slots) (C : Cx p s m meth c Z bytes maxL own mname ret) {o : Int} {a : Addr} (hd : decode bytes pc = .ok (.ifnull o, 3)) (hq : pc + 3 = q) (K : Go p e below F (T.setTop (mkF m q Ls S))) : Go p e below F (T.setTop (mkF m pc Ls (.ref a :: S))) := by
  subst hq; exact of (fun t k => XS.ifnullNo X.here C.1 rfl (hb C.2.2.1 hd) rfl k) K
theorem ifnonnullT (X : Stand p l e R s m args below meth c T locs cells slots) (C : Cx p s m meth c Z bytes maxL own mname ret) {o : Int} {a : Addr} (hd : decode bytes pc = .ok (.ifnonnull o, 3)) (ho : 0 ≤ (pc : Int) + o) (hq : ((pc : Int) + o).toNat = q) (K : Go p e below F (T.setTop (mkF m q Ls S))) : Go p e below F (T.setTop (mkF m pc Ls (.ref a :: S))) :=
  of (fun t k => XS.ifnonnullYes X.here C.1 rfl rfl (hb C.2.2.1 hd) rfl ho hq k) K
theorem ifnonnullF (X : Stand p l e R s m args below meth c T locs cells slots) (C : Cx p s m meth c Z bytes maxL own mname ret) {o : Int} (hd : decode bytes pc = .ok (.ifnonnull o, 3)) (hq : pc + 3 = q) (K : Go p e below F (T.setTop (mkF m q Ls S))) : Go p e below F (T.setTop (mkF m pc Ls (.null :: S))) := by
  subst hq; exact of (fun t k => XS.ifnonnullNo X.here C.1 rfl (hb C.2.2.1 hd) rfl k) K
/-! calls -/
theorem callS (X : Stand p l e R s m args below meth c T locs cells slots) (C : Cx p s m meth c Z bytes maxL own mname ret) {y : MethodName} {i : Nat} {yb : ByteArray} {ym : Nat} {yr : Option FieldType} (w1 : (Jvm.Cond.methodLink own i y).before a0 Z = true) (w2 : (Jvm.Cond.static y).before a0 Z = true) (w3 : (Jvm.Cond.initialized y.cls).before a0 Z = true) (w4 : (Jvm.Cond.code y yb ym yr).before a0 Z = true) (hy : y.cls ≠ "java/lang/invoke/MethodHandle" ∧ y.cls ≠ "java/lang/invoke/VarHandle")
    {rm : Room} {as' : Array Value} {Q : Option Value → Heap → List Loc → Prop} (hM : MetFree l y (head1 [Jvm.Cond.code y yb ym yr] rm) (fun a U => a = as' ∧ Z.Warmed39 U.vm ∧ U.heap = h) (fun _ _ _ _ _ => True) (fun _ U o U' => ∃ v L, o = .returned v ∧ Q v U'.heap L ∧ FrameEnd U o U' L rm.cells rm.slots))
    (eT : T.heap = h) (hd : decode bytes pc = .ok (.invokestatic i, 3)) (argsL : List Value) (rest : List Value) (hS : S = argsL.reverse ++ rest) (has : as' = argsL.toArray) {ps : List FieldType} {r : Option FieldType} (hpd : parseMethodDescriptor y.desc = some ⟨ps, r⟩) (hlen : argsL.length = ps.length) (hsz : Ls.size = maxL)
    (hf : rm.frames + 1 ≤ R.frames) (hl : (rest.map fun v => v.category).sum + (ym + 11) + rm.locals ≤ R.locals) (hc : cells + rm.cells ≤ R.cells) (hsl : slots + rm.slots ≤ R.slots) (hq : pc + 3 = q)
    (K : ∀ (T' : State) (v : Option Value) (L : List Loc), Stand p l e R s m args below meth c T' (locs ++ L) (cells + rm.cells) (slots + rm.slots) → Q v T'.heap L → Go p e below F (T'.setTop (mkF m q Ls (v.toList ++ rest)))) : Go p e below F (T.setTop (mkF m pc Ls S)) := by
  subst hq hS has
  obtain ⟨hx, hZ, hby, hml, hown, hnm, hret, hlk⟩ := C
  obtain ⟨v, _, ⟨T1, L1, k1, n1⟩, -, X1, ⟨Lc, hQ, l1, y1, z1⟩, st⟩ := Jvm.LawKit.callS X hx hown (mvT hZ w1) (mvT hZ w2) (mvT hZ w3) (mvT hZ w4) hy (backOf (W := (rest.map fun v => v.category).sum) hM hZ w4 w3 hf hl) (g := mkF m pc Ls (argsL.reverse ++ rest)) rfl (by rw [hml]; exact hsz) (argsL := argsL) (rest := rest) (lenOf hpd hlen) rfl (by show 2 * 0 + _ ≤ _; omega) (hb hby hd) (fun _ _ => ⟨rfl, eT, hc, hsl⟩)
  dsimp only [Pt.U, Pt.locs, Pt.cells, Pt.slots] at X1 l1 y1 z1 st hQ
  subst l1 y1 z1
  exact of st (K T1 v Lc X1 hQ)
theorem callI (X : Stand p l e R s m args below meth c T locs cells slots) (C : Cx p s m meth c Z bytes maxL own mname ret) {y : MethodName} {i : Nat} {yb : ByteArray} {ym : Nat} (hy1 : y.name = "<init>") (w1 : (Jvm.Cond.methodLink own i y).before a0 Z = true) (w2 : (Jvm.Cond.instanceMethod y).before a0 Z = true) (w3 : (Jvm.Cond.initialized y.cls).before a0 Z = true) (w4 : (Jvm.Cond.code y yb ym none).before a0 Z = true) (hy : y.cls ≠ "java/lang/invoke/MethodHandle" ∧ y.cls ≠ "java/lang/invoke/VarHandle")
    {rm : Room} {as' : Array Value} {Q : Option Value → Heap → List Loc → Prop} (hM : MetFree l y (head1 [Jvm.Cond.code y yb ym none] rm) (fun a U => a = as' ∧ Z.Warmed39 U.vm ∧ U.heap = h) (fun _ _ _ _ _ => True) (fun _ U o U' => ∃ v L, o = .returned v ∧ Q v U'.heap L ∧ FrameEnd U o U' L rm.cells rm.slots))
    (eT : T.heap = h) (hd : decode bytes pc = .ok (.invokespecial i, 3)) {a : Addr} (argsL : List Value) (rest : List Value) (hS : S = argsL.reverse ++ .ref a :: rest) (has : as' = (.ref a :: argsL).toArray) {ps : List FieldType} {r : Option FieldType} (hpd : parseMethodDescriptor y.desc = some ⟨ps, r⟩) (hlen : argsL.length = ps.length) (hsz : Ls.size = maxL)
    (hf : rm.frames + 1 ≤ R.frames) (hl : (rest.map fun v => v.category).sum + (ym + 11) + rm.locals ≤ R.locals) (hc : cells + rm.cells ≤ R.cells) (hsl : slots + rm.slots ≤ R.slots) (hq : pc + 3 = q)
    (K : ∀ (T' : State) (v : Option Value) (L : List Loc), Stand p l e R s m args below meth c T' (locs ++ L) (cells + rm.cells) (slots + rm.slots) → Q v T'.heap L → Go p e below F (T'.setTop (mkF m q Ls (v.toList ++ rest)))) : Go p e below F (T.setTop (mkF m pc Ls S)) := by
  subst hq hS has
  obtain ⟨hx, hZ, hby, hml, hown, hnm, hret, hlk⟩ := C
  obtain ⟨v, _, ⟨T1, L1, k1, n1⟩, -, X1, ⟨Lc, hQ, l1, y1, z1⟩, st⟩ := X.specialBack hx hy1 hown (mvT hZ w1) (mvT hZ w2) (mvT hZ w4) hy (backOf (W := (rest.map fun v => v.category).sum) hM hZ w4 w3 hf hl) (g := mkF m pc Ls (argsL.reverse ++ .ref a :: rest)) rfl (by rw [hml]; exact hsz) (Steps.refl _) (a := a) (argsL := argsL) (rest := rest) (lenOf hpd hlen) rfl (by show 2 * 0 + _ ≤ _; omega) (hb hby hd) (fun _ _ => ⟨rfl, eT, hc, hsl⟩)
  dsimp only [Pt.U, Pt.locs, Pt.cells, Pt.slots] at X1 l1 y1 z1 st hQ
  subst l1 y1 z1
  exact tr st (K T1 v Lc X1 hQ)
theorem callV (X : Stand p l e R s m args below meth c T locs cells slots) (C : Cx p s m meth c Z bytes maxL own mname ret) {y z : MethodName} {i : Nat} {Cn : String} {yb : ByteArray} {ym : Nat} {yr : Option FieldType} (w1 : (Jvm.Cond.methodLink own i y).before a0 Z = true) (w2 : (Jvm.Cond.declares y).before a0 Z = true) (hnf : NotFace s y) (ws : (Jvm.Cond.selects Cn y z).before a0 Z = true) (wi : (Jvm.Cond.instanceMethod z).before a0 Z = true) (w3 : (Jvm.Cond.initialized z.cls).before a0 Z = true) (w4 : (Jvm.Cond.code z yb ym yr).before a0 Z = true) (hy : y.cls ≠ "java/lang/invoke/MethodHandle" ∧ y.cls ≠ "java/lang/invoke/VarHandle")
    {rm : Room} {as' : Array Value} {Q : Option Value → Heap → List Loc → Prop} (hM : MetFree l z (head1 [Jvm.Cond.code z yb ym yr] rm) (fun a U => a = as' ∧ Z.Warmed39 U.vm ∧ U.heap = h) (fun _ _ _ _ _ => True) (fun _ U o U' => ∃ v L, o = .returned v ∧ Q v U'.heap L ∧ FrameEnd U o U' L rm.cells rm.slots))
    (eT : T.heap = h) {a : Addr} (E : Exa Z h a Cn) (hd : decode bytes pc = .ok (.invokevirtual i, 3)) (argsL : List Value) (rest : List Value) (hS : S = argsL.reverse ++ .ref a :: rest) (has : as' = (.ref a :: argsL).toArray) {ps : List FieldType} {r : Option FieldType} (hpd : parseMethodDescriptor y.desc = some ⟨ps, r⟩) (hlen : argsL.length = ps.length) (hsz : Ls.size = maxL)
    (hf : rm.frames + 1 ≤ R.frames) (hl : (rest.map fun v => v.category).sum + (ym + 11) + rm.locals ≤ R.locals) (hc : cells + rm.cells ≤ R.cells) (hsl : slots + rm.slots ≤ R.slots) (hq : pc + 3 = q)
    (K : ∀ (T' : State) (v : Option Value) (L : List Loc), Stand p l e R s m args below meth c T' (locs ++ L) (cells + rm.cells) (slots + rm.slots) → Q v T'.heap L → Go p e below F (T'.setTop (mkF m q Ls (v.toList ++ rest)))) : Go p e below F (T.setTop (mkF m pc Ls S)) := by
  subst hq hS has
  obtain ⟨hx, hZ, hby, hml, hown, hnm, hret, hlk⟩ := C
  obtain ⟨cq, kq, qa, qb, qc⟩ := isOf hZ eT E
  obtain ⟨v, _, ⟨T1, L1, k1, n1⟩, -, X1, ⟨Lc, hQ, l1, y1, z1⟩, st⟩ := X.virtualBack hx hown (mvT hZ w1) (mvT hZ w2) hnf (mvT hZ ws) (mvT hZ wi) hy (backOf (W := (rest.map fun v => v.category).sum) hM hZ w4 w3 hf hl) qa qc (g := mkF m pc Ls (argsL.reverse ++ .ref a :: rest)) rfl (by rw [hml]; exact hsz) (Steps.refl _) (argsL := argsL) (rest := rest) (lenOf hpd hlen) rfl (by show 2 * 0 + _ ≤ _; omega) (hb hby hd) (fun _ _ => ⟨rfl, eT, hc, hsl⟩)
  dsimp only [Pt.U, Pt.locs, Pt.cells, Pt.slots] at X1 l1 y1 z1 st hQ
  subst l1 y1 z1
  exact tr st (K T1 v Lc X1 hQ)
theorem callP (X : Stand p l e R s m args below meth c T locs cells slots) (C : Cx p s m meth c Z bytes maxL own mname ret) {y y2 : MethodName} {i : Nat} {Cn : String} {yb : ByteArray} {ym : Nat} {yr : Option FieldType} (w1 : (Jvm.Cond.methodLink own i y).before a0 Z = true) (wi : (Jvm.Cond.instanceMethod y).before a0 Z = true) (wp : (Jvm.Cond.privateMethod y).before a0 Z = true) (hcls : y2.cls = y.cls) (ws : (Jvm.Cond.selects y2.cls y2 y2).before a0 Z = true) (w3 : (Jvm.Cond.initialized y.cls).before a0 Z = true) (w4 : (Jvm.Cond.code y yb ym yr).before a0 Z = true) (hy : y.cls ≠ "java/lang/invoke/MethodHandle" ∧ y.cls ≠ "java/lang/invoke/VarHandle")
    {rm : Room} {as' : Array Value} {Q : Option Value → Heap → List Loc → Prop} (hM : MetFree l y (head1 [Jvm.Cond.code y yb ym yr] rm) (fun a U => a = as' ∧ Z.Warmed39 U.vm ∧ U.heap = h) (fun _ _ _ _ _ => True) (fun _ U o U' => ∃ v L, o = .returned v ∧ Q v U'.heap L ∧ FrameEnd U o U' L rm.cells rm.slots))
    (eT : T.heap = h) {a : Addr} (E : Exa Z h a Cn) (hd : decode bytes pc = .ok (.invokevirtual i, 3)) (argsL : List Value) (rest : List Value) (hS : S = argsL.reverse ++ .ref a :: rest) (has : as' = (.ref a :: argsL).toArray) {ps : List FieldType} {r : Option FieldType} (hpd : parseMethodDescriptor y.desc = some ⟨ps, r⟩) (hlen : argsL.length = ps.length) (hsz : Ls.size = maxL)
    (hf : rm.frames + 1 ≤ R.frames) (hl : (rest.map fun v => v.category).sum + (ym + 11) + rm.locals ≤ R.locals) (hc : cells + rm.cells ≤ R.cells) (hsl : slots + rm.slots ≤ R.slots) (hq : pc + 3 = q)
    (K : ∀ (T' : State) (v : Option Value) (L : List Loc), Stand p l e R s m args below meth c T' (locs ++ L) (cells + rm.cells) (slots + rm.slots) → Q v T'.heap L → Go p e below F (T'.setTop (mkF m q Ls (v.toList ++ rest)))) : Go p e below F (T.setTop (mkF m pc Ls S)) := by
  subst hq hS has
  obtain ⟨hx, hZ, hby, hml, hown, hnm, hret, hlk⟩ := C
  obtain ⟨cl, qa, qb⟩ := E.cell
  rw [← eT] at qa
  have ws' : (Jvm.Cond.selects y2.cls y2 y2).before args s = true := mvT hZ ws
  obtain ⟨_, _, m2, -, -, q3, -, kP, hkP, hkPi⟩ := Cond.selects_spec ws'
  have hfc := findClass_of_methodNamed q3
  rw [hcls] at hfc
  have hpr : s.PrivateAt y := Cond.privateMethod_at (args := args) (mvP hZ wp)
  have hsel := Jvm.Stand.selects_self_of_private (args := args) hfc hkP hkPi hpr (mvT hZ wi) hy
  obtain ⟨v, _, ⟨T1, L1, k1, n1⟩, -, X1, ⟨Lc, hQ, l1, y1, z1⟩, st⟩ := X.privateBack hx hown (mvT hZ w1) (mvT hZ wi) hsel hpr (mvT hZ w4) hy (backOf (W := (rest.map fun v => v.category).sum) hM hZ w4 w3 hf hl) (g := mkF m pc Ls (argsL.reverse ++ .ref a :: rest)) rfl (by rw [hml]; exact hsz) (Steps.refl _) qa qb (argsL := argsL) (rest := rest) (lenOf hpd hlen) rfl (by show 2 * 0 + _ ≤ _; omega) (hb hby hd) (fun _ _ => ⟨rfl, eT, hc, hsl⟩)
  dsimp only [Pt.U, Pt.locs, Pt.cells, Pt.slots] at X1 l1 y1 z1 st hQ
  subst l1 y1 z1
  exact tr st (K T1 v Lc X1 hQ)
theorem nf (C : Cx p s m meth c Z bytes maxL own mname ret) {Cn : String} {y : MethodName} (ws : (Jvm.Cond.selects Cn y y).before a0 Z = true) : NotFace s y := notFace_of_selects (args := #[]) (mvT C.2.1 ws)
theorem initObj (X : Stand p l e R s m args below meth c T locs cells slots) (C : Cx p s m meth c Z bytes maxL own mname ret) {i : Nat} (w1 : (Jvm.Cond.methodLink own i ⟨"java/lang/Object", "<init>", "()V"⟩).before a0 Z = true) (w2 : (Jvm.Cond.instanceMethod ⟨"java/lang/Object", "<init>", "()V"⟩).before a0 Z = true) (w3 : (Jvm.Cond.code ⟨"java/lang/Object", "<init>", "()V"⟩ object_method_1_code 1 none).before a0 Z = true)
    (eT : T.heap = h) {a : Addr} (hd : decode bytes pc = .ok (.invokespecial i, 3)) (hsz : Ls.size = maxL) (hf : 1 ≤ R.frames) (hl : (S.map fun v => v.category).sum + 12 ≤ R.locals) (hq : pc + 3 = q)
    (K : ∀ (T' : State), Stand p l e R s m args below meth c T' locs cells slots → T'.heap = h → Go p e below F (T'.setTop (mkF m q Ls S))) : Go p e below F (T.setTop (mkF m pc Ls (.ref a :: S))) := by
  subst hq
  obtain ⟨hx, hZ, hby, hml, hown, hnm, hret, hlk⟩ := C
  obtain ⟨T1, X1, e1, st⟩ := initO X hx hZ hown w1 w2 w3 eT (g := mkF m pc Ls (.ref a :: S)) rfl (by rw [hml]; exact hsz) rfl (hb hby hd) hf (W := (S.map fun v => v.category).sum) (by show 2 * 0 + _ ≤ _; omega) hl
  exact of st (K T1 X1 e1)
/-! objects -/
theorem newO (X : Stand p l e R s m args below meth c T locs cells slots) (C : Cx p s m meth c Z bytes maxL own mname ret) {i n : Nat} {Cn : String} (w1 : (Jvm.Cond.classLink own i Cn).before a0 Z = true) (w2 : (Jvm.Cond.instantiable Cn n).before a0 Z = true) (w3 : (Jvm.Cond.initialized Cn).before a0 Z = true) (eT : T.heap = h) (hd : decode bytes pc = .ok (.new i, 3)) (hc : cells + 1 ≤ R.cells) (hl : slots + n ≤ R.slots) (hq : pc + 3 = q)
    (K : ∀ (T' : State) (h' : Heap) (b : Addr), Stand p l e R s m args below meth c T' locs (cells + 1) (slots + n) → T'.heap = h' → b = h.size → Ext h h' → Exa Z h' b Cn → (∀ {O nm d : String} {ty : FieldType}, Laid Z a0 Cn O nm d → parseFieldDescriptor d = some ty → Fld Z h' b O nm d (defaultValue ty)) → Go p e below F (T'.setTop (mkF m q Ls (.ref b :: S)))) : Go p e below F (T.setTop (mkF m pc Ls S)) := by
  subst hq
  obtain ⟨hx, hZ, hby, hml, hown, hnm, hret, hlk⟩ := C
  obtain ⟨T1, h1, X1, e1, E1, A1, D1, -, st⟩ := Jvm.RoadKit.newO X hx hZ hown w1 w2 w3 eT (g := mkF m pc Ls S) rfl (hb hby hd) hc hl
  exact of st (K T1 h1 _ X1 e1 rfl E1 A1 D1)
theorem getF (X : Stand p l e R s m args below meth c T locs cells slots) (C : Cx p s m meth c Z bytes maxL own mname ret) {i : Nat} {R0 O n d host : String} (w : (Jvm.Cond.fieldLink own i R0 n d).before a0 Z = true ∨ (Jvm.Cond.fieldLinkNest own i R0 n d host).before a0 Z = true) (via : Via Z R0 O n d) (eT : T.heap = h) {a : Addr} {v : Value} (F0 : Fld Z h a O n d v) (hd : decode bytes pc = .ok (.getfield i, 3)) (hq : pc + 3 = q)
    (K : ∀ (T' : State), Stand p l e R s m args below meth c T' locs cells slots → T'.heap = h → Go p e below F (T'.setTop (mkF m q Ls (v :: S)))) : Go p e below F (T.setTop (mkF m pc Ls (.ref a :: S))) := by
  subst hq
  obtain ⟨hx, hZ, hby, hml, hown, hnm, hret, hlk⟩ := C
  obtain ⟨T1, X1, e1, st⟩ := Jvm.RoadKit.getF X hx hZ hown w via eT F0 (g := mkF m pc Ls (.ref a :: S)) rfl rfl (hb hby hd)
  exact of st (K T1 X1 e1)
theorem putF (X : Stand p l e R s m args below meth c T locs cells slots) (C : Cx p s m meth c Z bytes maxL own mname ret) {i kk : Nat} {R0 O n d host Cn : String} {ty : FieldType} (w : (Jvm.Cond.fieldLink own i R0 n d).before a0 Z = true ∨ (Jvm.Cond.fieldLinkNest own i R0 n d host).before a0 Z = true) (via : Via Z R0 O n d) (eT : T.heap = h) {a : Addr} {v old : Value} (F0 : Fld Z h a O n d old) (E : Exa Z h a Cn) (L : (Jvm.Cond.lays Cn O n d).before a0 Z = true ∨ ((Jvm.Cond.laysFinal Cn O n d).before a0 Z = true ∧ own = O ∧ mname = "<init>")) (wi : (Jvm.Cond.instantiable Cn kk).before a0 Z = true) (hty : parseFieldDescriptor d = some ty) (hn : narrow ty v = v) (hf : fits ty v = true) (hd : decode bytes pc = .ok (.putfield i, 3)) (hq : pc + 3 = q)
    (K : ∀ (T' : State) (h' : Heap), Stand p l e R s m args below meth c T' (locs ++ [⟨a, Jvm.RoadKit.slotOf Z O n d⟩]) cells slots → T'.heap = h' → Wr h h' a (Jvm.RoadKit.slotOf Z O n d) v → Go p e below F (T'.setTop (mkF m q Ls S))) : Go p e below F (T.setTop (mkF m pc Ls (v :: .ref a :: S))) := by
  subst hq
  obtain ⟨hx, hZ, hby, hml, hown, hnm, hret, hlk⟩ := C
  obtain ⟨T1, h1, X1, e1, W1, st⟩ := Jvm.RoadKit.putF X hx hZ hown w via eT F0 E (L.imp id fun q => ⟨q.1, q.2.1, hnm.trans q.2.2⟩) wi hty hn hf (g := mkF m pc Ls (v :: .ref a :: S)) rfl rfl (hb hby hd)
  exact of st (K T1 h1 X1 e1 W1)
theorem getS (X : Stand p l e R s m args below meth c T locs cells slots) (C : Cx p s m meth c Z bytes maxL own mname ret) {i : Nat} {R0 O n d : String} (w : (Jvm.Cond.fieldLink own i R0 n d).before a0 Z = true) (via : Via Z R0 O n d) (eT : T.heap = h) {v : Value} (F0 : Sta Z h O n d v) (hd : decode bytes pc = .ok (.getstatic i, 3)) (hq : pc + 3 = q)
    (K : ∀ (T' : State), Stand p l e R s m args below meth c T' locs cells slots → T'.heap = h → Go p e below F (T'.setTop (mkF m q Ls (v :: S)))) : Go p e below F (T.setTop (mkF m pc Ls S)) := by
  subst hq
  obtain ⟨hx, hZ, hby, hml, hown, hnm, hret, hlk⟩ := C
  obtain ⟨T1, X1, e1, st⟩ := Jvm.RoadKit.getS X hx hZ hown (host := "") w via eT F0 (g := mkF m pc Ls S) rfl (hb hby hd)
  exact of st (K T1 X1 e1)
/-! arrays: Arv Z h a k ty n vs d -/
theorem inb {cl : Cell} {n j : Int32} (S : cl.slots.size = n.toNatClampNeg) (h1 : 0 ≤ j.toInt) (h2 : j.toInt < n.toInt) : ¬ (j < 0 ∨ cl.slots.size ≤ j.toNatClampNeg) := inb_of S ⟨by rw [Int32.lt_iff_toInt_lt]; have : (0 : Int32).toInt = 0 := rfl; omega, by rw [Int32.lt_iff_toInt_lt]; exact h2⟩
theorem iaload (X : Stand p l e R s m args below meth c T locs cells slots) (C : Cx p s m meth c Z bytes maxL own mname ret) (eT : T.heap = h) {a : Addr} {k : ClassId} {n j x : Int32} {vs : List Value} {d : Value} (V : Arv Z h a k .int n vs d) (h1 : 0 ≤ j.toInt) (h2 : j.toInt < n.toInt) (hv : vs.getD j.toNatClampNeg d = .int x) (hd : decode bytes pc = .ok (.iaload, 1)) (hq : pc + 1 = q) (K : Go p e below F (T.setTop (mkF m q Ls (.int x :: S)))) : Go p e below F (T.setTop (mkF m pc Ls (.int j :: .ref a :: S))) := by
  subst hq
  obtain ⟨cl, Ar, q1, S1, N1, H1, G1⟩ := V
  exact of (X.iaload C.1 (j := j) (v := .int x) (by rw [eT]; exact Ar.1) (State.isArrayOf_alike C.2.1.alike Ar.2.1) Ar.2.2 (inb S1 h1 h2) (Has.at H1 (inb S1 h1 h2) hv) (g := mkF m pc Ls (.int j :: .ref a :: S)) rfl rfl (hb C.2.2.1 hd)) K
theorem caload (X : Stand p l e R s m args below meth c T locs cells slots) (C : Cx p s m meth c Z bytes maxL own mname ret) (eT : T.heap = h) {a : Addr} {k : ClassId} {n j x : Int32} {vs : List Value} {d : Value} (V : Arv Z h a k .char n vs d) (h1 : 0 ≤ j.toInt) (h2 : j.toInt < n.toInt) (hv : vs.getD j.toNatClampNeg d = .int x) (hd : decode bytes pc = .ok (.caload, 1)) (hq : pc + 1 = q) (K : Go p e below F (T.setTop (mkF m q Ls (.int x :: S)))) : Go p e below F (T.setTop (mkF m pc Ls (.int j :: .ref a :: S))) := by
  subst hq
  obtain ⟨cl, Ar, q1, S1, N1, H1, G1⟩ := V
  exact of (X.caload C.1 (j := j) (v := .int x) (by rw [eT]; exact Ar.1) (State.isArrayOf_alike C.2.1.alike Ar.2.1) Ar.2.2 (inb S1 h1 h2) (Has.at H1 (inb S1 h1 h2) hv) (g := mkF m pc Ls (.int j :: .ref a :: S)) rfl rfl (hb C.2.2.1 hd)) K
theorem baload (X : Stand p l e R s m args below meth c T locs cells slots) (C : Cx p s m meth c Z bytes maxL own mname ret) (eT : T.heap = h) {a : Addr} {k : ClassId} {n j x : Int32} {vs : List Value} {d : Value} (V : Arv Z h a k .byte n vs d) (h1 : 0 ≤ j.toInt) (h2 : j.toInt < n.toInt) (hv : vs.getD j.toNatClampNeg d = .int x) (hd : decode bytes pc = .ok (.baload, 1)) (hq : pc + 1 = q) (K : Go p e below F (T.setTop (mkF m q Ls (.int x :: S)))) : Go p e below F (T.setTop (mkF m pc Ls (.int j :: .ref a :: S))) := by
  subst hq
  obtain ⟨cl, Ar, q1, S1, N1, H1, G1⟩ := V
  exact of (X.baloadBytes C.1 (j := j) (v := .int x) (by rw [eT]; exact Ar.1) (State.isArrayOf_alike C.2.1.alike Ar.2.1) Ar.2.2 (inb S1 h1 h2) (Has.at H1 (inb S1 h1 h2) hv) (g := mkF m pc Ls (.int j :: .ref a :: S)) rfl rfl (hb C.2.2.1 hd)) K
theorem aaload (X : Stand p l e R s m args below meth c T locs cells slots) (C : Cx p s m meth c Z bytes maxL own mname ret) (eT : T.heap = h) {a : Addr} {k : ClassId} {n j : Int32} {x : Value} {vs : List Value} {d : Value} {ty : FieldType} (hty : ty.isReference = true) (V : Arv Z h a k ty n vs d) (h1 : 0 ≤ j.toInt) (h2 : j.toInt < n.toInt) (hv : vs.getD j.toNatClampNeg d = x) (hd : decode bytes pc = .ok (.aaload, 1)) (hq : pc + 1 = q) (K : Go p e below F (T.setTop (mkF m q Ls (x :: S)))) : Go p e below F (T.setTop (mkF m pc Ls (.int j :: .ref a :: S))) := by
  subst hq
  obtain ⟨cl, Ar, q1, S1, N1, H1, G1⟩ := V
  exact of (X.aaload C.1 (j := j) (v := x) (by rw [eT]; exact Ar.1) (State.isArrayOf_alike C.2.1.alike Ar.2.1) hty Ar.2.2 (inb S1 h1 h2) (Has.at H1 (inb S1 h1 h2) hv) (g := mkF m pc Ls (.int j :: .ref a :: S)) rfl rfl (hb C.2.2.1 hd)) K
theorem aaloadC (X : Stand p l e R s m args below meth c T locs cells slots) (C : Cx p s m meth c Z bytes maxL own mname ret) (eT : T.heap = h) {a : Addr} {cl : Cell} {j : Int32} {x : Value} {ty : FieldType} (hty : ty.isReference = true) (Ar : Arr Z h a cl ty) (hin : ¬ (j < 0 ∨ cl.slots.size ≤ j.toNatClampNeg)) (hat : cl.slots[j.toNatClampNeg]? = some x) (hd : decode bytes pc = .ok (.aaload, 1)) (hq : pc + 1 = q) (K : Go p e below F (T.setTop (mkF m q Ls (x :: S)))) : Go p e below F (T.setTop (mkF m pc Ls (.int j :: .ref a :: S))) := by
  subst hq
  exact of (X.aaload C.1 (j := j) (v := x) (by rw [eT]; exact Ar.1) (State.isArrayOf_alike C.2.1.alike Ar.2.1) hty Ar.2.2 hin hat (g := mkF m pc Ls (.int j :: .ref a :: S)) rfl rfl (hb C.2.2.1 hd)) K
theorem arraylength (X : Stand p l e R s m args below meth c T locs cells slots) (C : Cx p s m meth c Z bytes maxL own mname ret) (eT : T.heap = h) {a : Addr} {k : ClassId} {n : Int32} {vs : List Value} {d : Value} {ty : FieldType} (V : Arv Z h a k ty n vs d) (hd : decode bytes pc = .ok (.arraylength, 1)) (hq : pc + 1 = q) (K : Go p e below F (T.setTop (mkF m q Ls (.int n :: S)))) : Go p e below F (T.setTop (mkF m pc Ls (.ref a :: S))) := by
  subst hq
  obtain ⟨cl, Ar, q1, S1, N1, H1, G1⟩ := V
  refine of (X.arraylength C.1 (by rw [eT]; exact Ar.1) (State.isArrayOf_alike C.2.1.alike Ar.2.1) (g := mkF m pc Ls (.ref a :: S)) rfl rfl (hb C.2.2.1 hd)) ?_
  rw [len_of S1 N1]
  exact K
theorem iastore (X : Stand p l e R s m args below meth c T locs cells slots) (C : Cx p s m meth c Z bytes maxL own mname ret) (eT : T.heap = h) {a : Addr} {k : ClassId} {n j x : Int32} {vs : List Value} {d : Value} (V : Arv Z h a k .int n vs d) (h1 : 0 ≤ j.toInt) (h2 : j.toInt < n.toInt) (hlen : j.toNatClampNeg < vs.length) (hd : decode bytes pc = .ok (.iastore, 1)) (hq : pc + 1 = q)
    (K : ∀ (T' : State) (h' : Heap), Stand p l e R s m args below meth c T' (locs ++ [⟨a, j.toNatClampNeg⟩]) cells slots → T'.heap = h' → Wr h h' a j.toNatClampNeg (.int x) → Arv Z h' a k .int n (vs.set j.toNatClampNeg (.int x)) d → Go p e below F (T'.setTop (mkF m q Ls S))) : Go p e below F (T.setTop (mkF m pc Ls (.int x :: .int j :: .ref a :: S))) := by
  subst hq
  obtain ⟨cl, Ar, q1, S1, N1, H1, G1⟩ := V
  obtain ⟨T1, h1', X1, e1, W1, st⟩ := stI X C.1 C.2.1 eT Ar (j := j) (inb S1 h1 h2) (g := mkF m pc Ls (.int x :: .int j :: .ref a :: S)) rfl rfl (hb C.2.2.1 hd)
  exact of st (K T1 h1' X1 e1 W1 (Arv.set Ar q1 S1 N1 H1 G1 rfl W1 _ rfl hlen))
theorem castore (X : Stand p l e R s m args below meth c T locs cells slots) (C : Cx p s m meth c Z bytes maxL own mname ret) (eT : T.heap = h) {a : Addr} {k : ClassId} {n j x : Int32} {vs : List Value} {d : Value} (V : Arv Z h a k .char n vs d) (h1 : 0 ≤ j.toInt) (h2 : j.toInt < n.toInt) (hlen : j.toNatClampNeg < vs.length) (hd : decode bytes pc = .ok (.castore, 1)) (hq : pc + 1 = q)
    (K : ∀ (T' : State) (h' : Heap), Stand p l e R s m args below meth c T' (locs ++ [⟨a, j.toNatClampNeg⟩]) cells slots → T'.heap = h' → Wr h h' a j.toNatClampNeg (.int (nar .char x)) → Arv Z h' a k .char n (vs.set j.toNatClampNeg (.int (nar .char x))) d → Go p e below F (T'.setTop (mkF m q Ls S))) : Go p e below F (T.setTop (mkF m pc Ls (.int x :: .int j :: .ref a :: S))) := by
  subst hq
  obtain ⟨cl, Ar, q1, S1, N1, H1, G1⟩ := V
  obtain ⟨T1, h1', X1, e1, W1, st⟩ := stC X C.1 C.2.1 eT Ar (j := j) (inb S1 h1 h2) (g := mkF m pc Ls (.int x :: .int j :: .ref a :: S)) rfl rfl (hb C.2.2.1 hd)
  exact of st (K T1 h1' X1 e1 W1 (Arv.set Ar q1 S1 N1 H1 G1 (fits_nar_char _) W1 _ rfl hlen))
theorem bastore (X : Stand p l e R s m args below meth c T locs cells slots) (C : Cx p s m meth c Z bytes maxL own mname ret) (eT : T.heap = h) {a : Addr} {k : ClassId} {n j x : Int32} {vs : List Value} {d : Value} (V : Arv Z h a k .byte n vs d) (h1 : 0 ≤ j.toInt) (h2 : j.toInt < n.toInt) (hlen : j.toNatClampNeg < vs.length) (hd : decode bytes pc = .ok (.bastore, 1)) (hq : pc + 1 = q)
    (K : ∀ (T' : State) (h' : Heap), Stand p l e R s m args below meth c T' (locs ++ [⟨a, j.toNatClampNeg⟩]) cells slots → T'.heap = h' → Wr h h' a j.toNatClampNeg (.int x.toInt8.toInt32) → Arv Z h' a k .byte n (vs.set j.toNatClampNeg (.int x.toInt8.toInt32)) d → Go p e below F (T'.setTop (mkF m q Ls S))) : Go p e below F (T.setTop (mkF m pc Ls (.int x :: .int j :: .ref a :: S))) := by
  subst hq
  obtain ⟨cl, Ar, q1, S1, N1, H1, G1⟩ := V
  obtain ⟨T1, h1', X1, e1, W1, st⟩ := stB X C.1 C.2.1 eT Ar (j := j) (inb S1 h1 h2) (g := mkF m pc Ls (.int x :: .int j :: .ref a :: S)) rfl rfl (hb C.2.2.1 hd)
  exact of st (K T1 h1' X1 e1 W1 (Arv.set Ar q1 S1 N1 H1 G1 (fits_nar_byte _) W1 _ rfl hlen))
theorem aastore (X : Stand p l e R s m args below meth c T locs cells slots) (C : Cx p s m meth c Z bytes maxL own mname ret) (eT : T.heap = h) {a : Addr} {k : ClassId} {n j : Int32} {x : Value} {vs : List Value} {d : Value} {ty : FieldType} (hty : ty.isReference = true) (hf : fits ty x = true) (V : Arv Z h a k ty n vs d) (hs : ∀ cl, Arr Z h a cl ty → cl.cls = k → Sto Z h a x) (h1 : 0 ≤ j.toInt) (h2 : j.toInt < n.toInt) (hlen : j.toNatClampNeg < vs.length) (hd : decode bytes pc = .ok (.aastore, 1)) (hq : pc + 1 = q)
    (K : ∀ (T' : State) (h' : Heap), Stand p l e R s m args below meth c T' (locs ++ [⟨a, j.toNatClampNeg⟩]) cells slots → T'.heap = h' → Wr h h' a j.toNatClampNeg x → Arv Z h' a k ty n (vs.set j.toNatClampNeg x) d → Go p e below F (T'.setTop (mkF m q Ls S))) : Go p e below F (T.setTop (mkF m pc Ls (x :: .int j :: .ref a :: S))) := by
  subst hq
  obtain ⟨cl, Ar, q1, S1, N1, H1, G1⟩ := V
  obtain ⟨T1, h1', X1, e1, W1, st⟩ := stR X C.1 C.2.1 eT Ar (j := j) (inb S1 h1 h2) hty (hs cl Ar q1) (g := mkF m pc Ls (x :: .int j :: .ref a :: S)) rfl rfl (hb C.2.2.1 hd)
  exact of st (K T1 h1' X1 e1 W1 (Arv.set Ar q1 S1 N1 H1 G1 hf W1 _ rfl hlen))
theorem newarray (X : Stand p l e R s m args below meth c T locs cells slots) (C : Cx p s m meth c Z bytes maxL own mname ret) {aty : ArrayType} (w : (Jvm.Cond.arrayClass (newarray.typeOf aty)).before a0 Z = true) (eT : T.heap = h) {n : Int32} (hn : 0 ≤ n.toInt) (cap : Nat) (hcap : n.toInt ≤ cap) (hb8 : cap * 8 ≤ 536870912) (hd : decode bytes pc = .ok (.newarray aty, 2)) (hc : cells + 1 ≤ R.cells) (hl : slots + cap ≤ R.slots) (hq : pc + 2 = q)
    (K : ∀ (T' : State) (h' : Heap) (b : Addr) (k : ClassId), Stand p l e R s m args below meth c T' locs (cells + 1) (slots + cap) → T'.heap = h' → b = h.size → Ext h h' → Arv Z h' b k (newarray.typeOf aty) n (List.replicate cap (defaultValue (newarray.typeOf aty))) (defaultValue (newarray.typeOf aty)) → Go p e below F (T'.setTop (mkF m q Ls (.ref b :: S)))) : Go p e below F (T.setTop (mkF m pc Ls (.int n :: S))) := by
  subst hq
  have hn' : ¬ n < 0 := by rw [Int32.lt_iff_toInt_lt]; have : (0 : Int32).toInt = 0 := rfl; omega
  obtain ⟨T1, h1, k1, X1, e1, E1, A1, st⟩ := newP X C.1 C.2.1 w eT (g := mkF m pc Ls (.int n :: S)) rfl (hb C.2.2.1 hd) rfl hn' (cap := cap) (by simp only [Int32.toNatClampNeg]; omega) hb8 hc hl
  exact of st (K T1 h1 _ k1 X1 e1 rfl E1 ((Arv.new A1 hn').pad (pad_rep [] _ cap)))
theorem anewarray (X : Stand p l e R s m args below meth c T locs cells slots) (C : Cx p s m meth c Z bytes maxL own mname ret) {i : Nat} {Cn : String} (w1 : (Jvm.Cond.classLink own i Cn).before a0 Z = true) (w2 : (Jvm.Cond.arrayOver (.object Cn)).before a0 Z = true) (eT : T.heap = h) {n : Int32} (hn : 0 ≤ n.toInt) (cap : Nat) (hcap : n.toInt ≤ cap) (hb8 : cap * 8 ≤ 536870912) (hd : decode bytes pc = .ok (.anewarray i, 3)) (hc : cells + 1 ≤ R.cells) (hl : slots + cap ≤ R.slots) (hq : pc + 3 = q)
    (K : ∀ (T' : State) (h' : Heap) (b : Addr) (k : ClassId), Stand p l e R s m args below meth c T' locs (cells + 1) (slots + cap) → T'.heap = h' → b = h.size → Ext h h' → Ovr Z k Cn → Arv Z h' b k (.object Cn) n (List.replicate cap .null) .null → Go p e below F (T'.setTop (mkF m q Ls (.ref b :: S)))) : Go p e below F (T.setTop (mkF m pc Ls (.int n :: S))) := by
  subst hq
  have hn' : ¬ n < 0 := by rw [Int32.lt_iff_toInt_lt]; have : (0 : Int32).toInt = 0 := rfl; omega
  obtain ⟨T1, h1, k1, X1, e1, E1, A1, O1, st⟩ := newR X C.1 C.2.1 C.2.2.2.2.1 w1 w2 eT (g := mkF m pc Ls (.int n :: S)) rfl (hb C.2.2.1 hd) rfl hn' (cap := cap) (by simp only [Int32.toNatClampNeg]; omega) hb8 hc hl
  exact of st (K T1 h1 _ k1 X1 e1 rfl E1 O1 ((Arv.new A1 hn').pad (pad_rep [] _ cap)))
theorem keepRefl (h : Heap) : Keep h h [] := Keep.refl h []
/-! kinds of objects -/
theorem nsRoot {O Kn : String} {n : Nat} (w : (Jvm.Cond.noSuperclass O).before a0 Z = true) (wi : (Jvm.Cond.instantiable Kn n).before a0 Z = true) (hn : O ≠ Kn) : NS Z O Kn := by
  obtain ⟨c, k, h1, h2, h3, -, -⟩ := Cond.noSuperclass_spec w
  obtain ⟨t, k2, g1, -⟩ := Cond.instantiable_spec wi
  have ne := ids_ne h1 g1 hn
  refine ⟨c, t, h1, g1, fun fuel => ?_⟩
  cases fuel with
  | zero => rfl
  | succ f => simp [Vm.isSubclassAux, ne, h2, h3]
theorem nsNo {Cn S Kn : String} {n : Nat} (w : (Jvm.Cond.superclass Cn S).before a0 Z = true) (wi : (Jvm.Cond.instantiable Kn n).before a0 Z = true) (nn : NS Z Cn Kn) (hn : Cn ≠ Kn) : ∃ c t, Z.vm.findClass Cn = some c ∧ Z.vm.findClass Kn = some t ∧ Z.vm.assignable c t = false := by
  obtain ⟨c, t, h0, g0, n3⟩ := nn
  obtain ⟨p, k, kp, h1, h2, h3, h4, h5, -, h7⟩ := Cond.superclass_spec h0 w
  obtain ⟨t', k', g1, g2, g5, g6, -⟩ := Cond.instantiable_spec wi
  cases g0.symm.trans g1
  have g7 : k'.isInterface = false := (Bool.or_eq_false_iff.mp g6).1
  have ne := ids_ne h0 g0 hn
  refine ⟨c, t, h0, g0, ?_⟩
  show Z.vm.assignableAux (255 + 1) c t = false
  simp [Vm.assignableAux, ne, h2, g2, h5, g5, g7, Vm.isSubclass, n3]
theorem cast (X : Stand p l e R s m args below meth c T locs cells slots) (C : Cx p s m meth c Z bytes maxL own mname ret) {i : Nat} {Kn : String} (w : (Jvm.Cond.classLink own i Kn).before a0 Z = true) (eT : T.heap = h) {a : Addr} (I : Ins Z h a Kn true) (hd : decode bytes pc = .ok (.checkcast i, 3)) (hq : pc + 3 = q)
    (K : ∀ (T' : State), Stand p l e R s m args below meth c T' locs cells slots → T'.heap = h → Go p e below F (T'.setTop (mkF m q Ls (.ref a :: S)))) : Go p e below F (T.setTop (mkF m pc Ls (.ref a :: S))) := by
  subst hq
  obtain ⟨T1, X1, e1, st⟩ := castY X C.1 C.2.1 C.2.2.2.2.1 w eT I (g := mkF m pc Ls (.ref a :: S)) rfl rfl (hb C.2.2.1 hd)
  exact of st (K T1 X1 e1)
theorem inst1 (X : Stand p l e R s m args below meth c T locs cells slots) (C : Cx p s m meth c Z bytes maxL own mname ret) {i : Nat} {Kn : String} (w : (Jvm.Cond.classLink own i Kn).before a0 Z = true) (eT : T.heap = h) {a : Addr} (I : Ins Z h a Kn true) (hd : decode bytes pc = .ok (.instanceof i, 3)) (hq : pc + 3 = q)
    (K : ∀ (T' : State), Stand p l e R s m args below meth c T' locs cells slots → T'.heap = h → Go p e below F (T'.setTop (mkF m q Ls (.int 1 :: S)))) : Go p e below F (T.setTop (mkF m pc Ls (.ref a :: S))) := by
  subst hq
  obtain ⟨T1, X1, e1, st⟩ := instY X C.1 C.2.1 C.2.2.2.2.1 w eT I (g := mkF m pc Ls (.ref a :: S)) rfl rfl (hb C.2.2.1 hd)
  exact of st (K T1 X1 e1)
theorem inst0 (X : Stand p l e R s m args below meth c T locs cells slots) (C : Cx p s m meth c Z bytes maxL own mname ret) {i : Nat} {Kn Cn : String} (w : (Jvm.Cond.classLink own i Kn).before a0 Z = true) (eT : T.heap = h) {a : Addr} (E : Exa Z h a Cn) (N : ∃ c t, Z.vm.findClass Cn = some c ∧ Z.vm.findClass Kn = some t ∧ Z.vm.assignable c t = false) (hd : decode bytes pc = .ok (.instanceof i, 3)) (hq : pc + 3 = q)
    (K : ∀ (T' : State), Stand p l e R s m args below meth c T' locs cells slots → T'.heap = h → Go p e below F (T'.setTop (mkF m q Ls (.int 0 :: S)))) : Go p e below F (T.setTop (mkF m pc Ls (.ref a :: S))) := by
  subst hq
  obtain ⟨T1, X1, e1, st⟩ := instNo X C.1 C.2.1 C.2.2.2.2.1 w eT E N (g := mkF m pc Ls (.ref a :: S)) rfl rfl (hb C.2.2.1 hd)
  exact of st (K T1 X1 e1)
theorem instNull (X : Stand p l e R s m args below meth c T locs cells slots) (C : Cx p s m meth c Z bytes maxL own mname ret) {i : Nat} (hd : decode bytes pc = .ok (.instanceof i, 3)) (hq : pc + 3 = q) (K : Go p e below F (T.setTop (mkF m q Ls (.int 0 :: S)))) : Go p e below F (T.setTop (mkF m pc Ls (.null :: S))) := by
  subst hq; exact of (X.instanceofNull C.1 (g := mkF m pc Ls (.null :: S)) rfl rfl (hb C.2.2.1 hd)) K
theorem castNull (X : Stand p l e R s m args below meth c T locs cells slots) (C : Cx p s m meth c Z bytes maxL own mname ret) {i : Nat} (hd : decode bytes pc = .ok (.checkcast i, 3)) (hq : pc + 3 = q) (K : Go p e below F (T.setTop (mkF m q Ls (.null :: S)))) : Go p e below F (T.setTop (mkF m pc Ls (.null :: S))) := by
  subst hq; exact of (X.checkcastNull C.1 (g := mkF m pc Ls (.null :: S)) rfl rfl (hb C.2.2.1 hd)) K
theorem acmp (X : Stand p l e R s m args below meth c T locs cells slots) (C : Cx p s m meth c Z bytes maxL own mname ret) {cd : ACond} {o : Int} {x y : Value} (h1 : x.isRef = true) (h2 : y.isRef = true) {same : Bool} (hs : decide (x = y) = same) (hd : decode bytes pc = .ok (.if_acmp cd o, 3)) (ho : 0 ≤ (pc : Int) + o) (hq : q = if acV cd same = true then ((pc : Int) + o).toNat else pc + 3) (K : Go p e below F (T.setTop (mkF m q Ls S))) : Go p e below F (T.setTop (mkF m pc Ls (y :: x :: S))) :=
  of (fun t k => Jvm.RoadKit.acmp (g := mkF m pc Ls (y :: x :: S)) X C.1 rfl h1 h2 rfl (hb C.2.2.1 hd) rfl hs ho hq k) K
end
end W
end Jvm.Pilot.@@N@@
namespace Jvm.Pilot.@@N@@
open Jvm Jvm.ClassFile Sem Op Lib Jvm.Free Jvm.Stand Jvm.LawKit Jvm.RoadKit Bundle Jvm.Pilot.@@N@@.Jvm.D
def own_sx (a : Int64) (k : Int32) : Int32 := ((((a.toUInt64 >>> (((6 : Int32) * k) &&& 0x3f).toInt64.toUInt64).toInt64) &&& (63 : Int64)).toInt32)
def own_c (x : Int32) : Int32 := x.toUInt32.toUInt16.toUInt32.toInt32
def own_al (s : Int32) : Int32 := if s.toInt < 26 then own_c ((65 : Int32) + s) else if s.toInt < 52 then own_c ((97 : Int32) + (s - (26 : Int32))) else if s.toInt < 62 then own_c ((48 : Int32) + (s - (52 : Int32))) else if s = (62 : Int32) then 43 else 47
def own_pk (j n q len : Int32) (a : Int64) (w : Int32) : Int32 := if j.toInt < 0 ∨ len.toInt ≤ j.toInt then w else if j.toInt < n.toInt then own_al (own_sx a j) else if j.toInt < (n + q).toInt then 61 else own_al (own_sx a 7)
def own_tb (c : Int32) : Int32 := if 65 ≤ c.toInt ∧ c.toInt ≤ 90 then c - (65 : Int32) else if 97 ≤ c.toInt ∧ c.toInt ≤ 122 then c - (71 : Int32) else if 48 ≤ c.toInt ∧ c.toInt ≤ 57 then c + (4 : Int32) else if c.toInt = 43 then 62 else if c.toInt = 47 then 63 else if c.toInt = 61 then -1 else if c.toInt = 32 ∨ c.toInt = 9 ∨ c.toInt = 10 ∨ c.toInt = 13 then -2 else -3
def own_non (c : Int32) : Int32 := if (65 ≤ c.toInt ∧ c.toInt ≤ 90) ∨ (97 ≤ c.toInt ∧ c.toInt ≤ 122) ∨ (48 ≤ c.toInt ∧ c.toInt ≤ 57) ∨ c.toInt = 43 ∨ c.toInt = 47 ∨ c.toInt = 61 ∨ c.toInt = 32 ∨ c.toInt = 9 ∨ c.toInt = 10 ∨ c.toInt = 13 then 0 else 1
theorem own_nonT {c : Int32} (h : own_non c ≠ 0) : own_tb c = -3 := by
  unfold own_non at h
  have q := Decidable.byContradiction fun q => h (if_pos (Decidable.not_not.mp q))
  unfold own_tb
  rw [if_neg (by omega), if_neg (by omega), if_neg (by omega), if_neg (by omega), if_neg (by omega), if_neg (by omega), if_neg (by omega)]
def own_r16 (c : Int32) : Prop := 0 ≤ c.toInt ∧ c.toInt < 65536
theorem own_nc {z : Int32} (h : own_r16 z) : z.toUInt32.toUInt16.toUInt32.toInt32 = z := by
  have q := c_i2c z
  obtain ⟨h1, h2⟩ := h
  apply Int32.toInt_inj.mp
  omega
theorem own_nar {z : Int32} (h : own_r16 z) : narrow .char (.int z) = .int z := congrArg Value.int (own_nc h)
theorem own_narc {z : Int32} (h : own_r16 z) : nar .char z = z := own_nc h
theorem own_c16 (x : Int32) : own_r16 (own_c x) := (c_i2c x).2
theorem own_al16 (s : Int32) : own_r16 (own_al s) := by
  unfold own_al
  split
  · exact own_c16 _
  · split
    · exact own_c16 _
    · split
      · exact own_c16 _
      · split <;> exact ⟨by decide, by decide⟩
theorem own_pk16 {j n q len : Int32} {a : Int64} {w : Int32} (h : own_r16 w) : own_r16 (own_pk j n q len a w) := by
  unfold own_pk
  split
  · exact h
  · split
    · exact own_al16 _
    · split
      · exact ⟨by decide, by decide⟩
      · exact own_al16 _
theorem own_sx63 (a : Int64) (k : Int32) : 0 ≤ (own_sx a k).toInt ∧ (own_sx a k).toInt ≤ 63 := by
  unfold own_sx
  generalize (a.toUInt64 >>> (((6 : Int32) * k) &&& 0x3f).toInt64.toUInt64).toInt64 = y
  have a1 := c_maskL y 63 6 (by decide) (by decide)
  have a2 := c_l2i (y &&& 63)
  have r := rng32 (y &&& 63).toInt32
  omega
theorem own_tal (s : Int32) (h1 : 0 ≤ s.toInt) (h2 : s.toInt ≤ 63) : own_tb (own_al s) = s := W.small (P := fun s => own_tb (own_al s) = s) 63 (by decide +kernel) s h1 h2
abbrev own_S : Type := Int32 × Int32 × Int32 × Int32
def own_step (s : own_S) (t : Int32) : own_S := if 0 ≤ t.toInt then (s.1 + (1 : Int32), s.2.1, t, if 0 < s.2.1.toInt then 1 else 0) else if t = (-1 : Int32) then (s.1 + (1 : Int32), s.2.1 + (1 : Int32), s.2.2.1, s.2.2.2) else (s.1, s.2.1, s.2.2.1, if t = (-3 : Int32) then 1 else 0)
def own_run : Nat → List Int32 → Nat → own_S → own_S
  | 0, _, _, s => s
  | k + 1, l, i, s => if s.2.2.2 ≠ 0 then s else own_run k l (i + 1) (own_step s (own_tb (l.getD i 0)))
theorem own_run0 (l : List Int32) (i : Nat) (s : own_S) : own_run 0 l i s = s := rfl
theorem own_runS (k : Nat) (l : List Int32) (i : Nat) (s : own_S) : own_run (k + 1) l i s = if s.2.2.2 ≠ 0 then s else own_run k l (i + 1) (own_step s (own_tb (l.getD i 0))) := rfl
theorem own_stop {s : own_S} (h : s.2.2.2 ≠ 0) (k : Nat) (l : List Int32) (i : Nat) : own_run k l i s = s := by
  cases k with
  | zero => rfl
  | succ k => rw [own_runS, if_pos h]
theorem own_radd : ∀ (k m : Nat) (l : List Int32) (i : Nat) (s : own_S), own_run (k + m) l i s = own_run m l (i + k) (own_run k l i s)
  | 0, m, l, i, s => by rw [own_run0, Nat.zero_add, Nat.add_zero]
  | k + 1, m, l, i, s => by
    rw [show k + 1 + m = (k + m) + 1 by omega, own_runS, own_runS]
    split
    · rename_i h; rw [own_stop h]
    · rw [own_radd k m, show i + 1 + k = i + (k + 1) by omega]
def own_val (s : own_S) : Int32 := if s.2.2.2 ≠ 0 ∨ s.1 % (4 : Int32) ≠ 0 ∨ 2 < s.2.1.toInt then 0 else if s.2.1 = 0 ∨ (s.2.2.1 &&& (if s.2.1 = (2 : Int32) then (15 : Int32) else (3 : Int32))) = 0 then 1 else 0
def own_exp (br n q t : Int32) (a : Int64) : Int32 := if br ≠ 0 then 0 else if t = (1 : Int32) ∧ 0 < q.toInt then 0 else if (n + q + t) % (4 : Int32) ≠ 0 then 0 else if 2 < q.toInt then 0 else if q = 0 then 1 else if q = (2 : Int32) then (if (own_sx a (n - (1 : Int32)) &&& (15 : Int32)) = 0 then 1 else 0) else (if (own_sx a (n - (1 : Int32)) &&& (3 : Int32)) = 0 then 1 else 0)
theorem d2_0 : decode method_4_code 0 = .ok (.lload_n 0, 1) := by decide +kernel
theorem d2_1 : decode method_4_code 1 = .ok (.bipush 6, 2) := by decide +kernel
theorem d2_3 : decode method_4_code 3 = .ok (.iload_n 2, 1) := by decide +kernel
theorem d2_4 : decode method_4_code 4 = .ok (.imul, 1) := by decide +kernel
theorem d2_5 : decode method_4_code 5 = .ok (.lushr, 1) := by decide +kernel
theorem d2_6 : decode method_4_code 6 = .ok (.ldc2_w 38, 3) := by decide +kernel
theorem d2_9 : decode method_4_code 9 = .ok (.land, 1) := by decide +kernel
theorem d2_10 : decode method_4_code 10 = .ok (.l2i, 1) := by decide +kernel
theorem d2_11 : decode method_4_code 11 = .ok (.ireturn, 1) := by decide +kernel
theorem pn_com_example_fedlint_fedlint_Base64CheckValidPinLaw : plainName "com/example/fedlint/fedlint/Base64CheckValidPinLaw" = true := by first | (simp [plainName, overriddenIn]; done) | decide +kernel
def Q2 (Z : State) (p0 : Int64) (p1 : Int32) (h0 : Heap) (n0 : Nat) (v : Option Value) (h : Heap) (L : List Loc) : Prop := v = some (.int (own_sx p0 p1)) ∧ Fr n0 L ∧ h = h0
set_option maxRecDepth 65536 in
set_option maxHeartbeats 40000000 in
theorem rm2 (l : Launch) (Z : State) (a0 : Array Value) (hw : ∀ d ∈ tables_1, d.before a0 Z = true) (ws : List Jvm.Cond) (p0 : Int64) (p1 : Int32) (h0 : Heap) (n0 : Nat) :
    MetFree l (⟨"com/example/fedlint/fedlint/Base64CheckValidPinLaw", "sext", "(JI)I"⟩ : MethodName) (head1 (Jvm.Cond.code (⟨"com/example/fedlint/fedlint/Base64CheckValidPinLaw", "sext", "(JI)I"⟩ : MethodName) method_4_code 3 (some .int) :: ws) ({ frames := 0, cells := 0, slots := 0, locals := 0 } : Room)) (fun a U => a = #[(.long p0), (.int p1)] ∧ Z.Warmed39 U.vm ∧ U.heap = h0) (fun _ _ _ _ _ => True) (fun _ U o U' => ∃ v L, o = .returned v ∧ Q2 Z p0 p1 h0 n0 v U'.heap L ∧ FrameEnd U o U' L ({ frames := 0, cells := 0, slots := 0, locals := 0 } : Room).cells ({ frames := 0, cells := 0, slots := 0, locals := 0 } : Room).slots) := by
  refine W.bodyOf (y := (⟨"com/example/fedlint/fedlint/Base64CheckValidPinLaw", "sext", "(JI)I"⟩ : MethodName)) (as := #[(.long p0), (.int p1)]) (maxL := 3) (Q := Q2 Z p0 p1 h0 n0) (Ls := #[.val (.long p0), .second, .val (.int p1)]) (plainFor_of_name pn_com_example_fedlint_fedlint_Base64CheckValidPinLaw) (fun m => by first | exact W.entry_of rfl | rfl | (simp [entryFrame, mkF, argsToLocals, Value.category]; done)) ?_
  intro p e s m below meth c T0 C X0 e0
  have N0 := Fr.nil n0
  refine W.lloadN (q := 1) X0 C d2_0 rfl rfl ?_
  refine W.bipush (q := 3) (v := 6) X0 C d2_1 rfl rfl ?_
  refine W.iloadN (q := 4) X0 C d2_3 rfl rfl ?_
  refine W.imul (q := 5) X0 C d2_4 rfl ?_
  refine W.lushr (q := 6) X0 C d2_5 rfl ?_
  refine W.ldcL (q := 9) X0 C (W.ww hw 9 rfl) d2_6 rfl ?_
  refine W.land (q := 10) X0 C d2_9 rfl ?_
  refine W.l2i (q := 11) X0 C d2_10 rfl ?_
  exact W.retI X0 C e0 d2_11 (by decide) (by decide) ⟨rfl, N0, rfl⟩
theorem d3_0 : decode method_5_code 0 = .ok (.iload_n 0, 1) := by decide +kernel
theorem d3_1 : decode method_5_code 1 = .ok (.bipush 26, 2) := by decide +kernel
theorem d3_3 : decode method_5_code 3 = .ok (.if_icmp .ge 9, 3) := by decide +kernel
theorem d3_12 : decode method_5_code 12 = .ok (.iload_n 0, 1) := by decide +kernel
theorem d3_13 : decode method_5_code 13 = .ok (.bipush 52, 2) := by decide +kernel
theorem d3_15 : decode method_5_code 15 = .ok (.if_icmp .ge 12, 3) := by decide +kernel
theorem d3_27 : decode method_5_code 27 = .ok (.iload_n 0, 1) := by decide +kernel
theorem d3_28 : decode method_5_code 28 = .ok (.bipush 62, 2) := by decide +kernel
theorem d3_30 : decode method_5_code 30 = .ok (.if_icmp .ge 12, 3) := by decide +kernel
theorem d3_42 : decode method_5_code 42 = .ok (.iload_n 0, 1) := by decide +kernel
theorem d3_43 : decode method_5_code 43 = .ok (.bipush 62, 2) := by decide +kernel
theorem d3_45 : decode method_5_code 45 = .ok (.if_icmp .ne 6, 3) := by decide +kernel
theorem d3_51 : decode method_5_code 51 = .ok (.bipush 47, 2) := by decide +kernel
theorem d3_53 : decode method_5_code 53 = .ok (.ireturn, 1) := by decide +kernel
theorem d3_48 : decode method_5_code 48 = .ok (.bipush 43, 2) := by decide +kernel
theorem d3_50 : decode method_5_code 50 = .ok (.ireturn, 1) := by decide +kernel
theorem d3_33 : decode method_5_code 33 = .ok (.bipush 48, 2) := by decide +kernel
theorem d3_35 : decode method_5_code 35 = .ok (.iload_n 0, 1) := by decide +kernel
theorem d3_36 : decode method_5_code 36 = .ok (.bipush 52, 2) := by decide +kernel
theorem d3_38 : decode method_5_code 38 = .ok (.isub, 1) := by decide +kernel
theorem d3_39 : decode method_5_code 39 = .ok (.iadd, 1) := by decide +kernel
theorem d3_40 : decode method_5_code 40 = .ok (.i2c, 1) := by decide +kernel
theorem d3_41 : decode method_5_code 41 = .ok (.ireturn, 1) := by decide +kernel
theorem d3_18 : decode method_5_code 18 = .ok (.bipush 97, 2) := by decide +kernel
theorem d3_20 : decode method_5_code 20 = .ok (.iload_n 0, 1) := by decide +kernel
theorem d3_21 : decode method_5_code 21 = .ok (.bipush 26, 2) := by decide +kernel
theorem d3_23 : decode method_5_code 23 = .ok (.isub, 1) := by decide +kernel
theorem d3_24 : decode method_5_code 24 = .ok (.iadd, 1) := by decide +kernel
theorem d3_25 : decode method_5_code 25 = .ok (.i2c, 1) := by decide +kernel
theorem d3_26 : decode method_5_code 26 = .ok (.ireturn, 1) := by decide +kernel
theorem d3_6 : decode method_5_code 6 = .ok (.bipush 65, 2) := by decide +kernel
theorem d3_8 : decode method_5_code 8 = .ok (.iload_n 0, 1) := by decide +kernel
theorem d3_9 : decode method_5_code 9 = .ok (.iadd, 1) := by decide +kernel
theorem d3_10 : decode method_5_code 10 = .ok (.i2c, 1) := by decide +kernel
theorem d3_11 : decode method_5_code 11 = .ok (.ireturn, 1) := by decide +kernel
def Q3 (Z : State) (p0 : Int32) (h0 : Heap) (n0 : Nat) (v : Option Value) (h : Heap) (L : List Loc) : Prop := v = some (.int (own_al p0)) ∧ Fr n0 L ∧ h = h0
set_option maxRecDepth 65536 in
set_option maxHeartbeats 40000000 in
theorem rm3 (l : Launch) (Z : State) (a0 : Array Value) (hw : ∀ d ∈ tables_1, d.before a0 Z = true) (ws : List Jvm.Cond) (p0 : Int32) (h0 : Heap) (n0 : Nat) :
    MetFree l (⟨"com/example/fedlint/fedlint/Base64CheckValidPinLaw", "alpha", "(I)C"⟩ : MethodName) (head1 (Jvm.Cond.code (⟨"com/example/fedlint/fedlint/Base64CheckValidPinLaw", "alpha", "(I)C"⟩ : MethodName) method_5_code 1 (some .char) :: ws) ({ frames := 0, cells := 0, slots := 0, locals := 0 } : Room)) (fun a U => a = #[(.int p0)] ∧ Z.Warmed39 U.vm ∧ U.heap = h0) (fun _ _ _ _ _ => True) (fun _ U o U' => ∃ v L, o = .returned v ∧ Q3 Z p0 h0 n0 v U'.heap L ∧ FrameEnd U o U' L ({ frames := 0, cells := 0, slots := 0, locals := 0 } : Room).cells ({ frames := 0, cells := 0, slots := 0, locals := 0 } : Room).slots) := by
  refine W.bodyOf (y := (⟨"com/example/fedlint/fedlint/Base64CheckValidPinLaw", "alpha", "(I)C"⟩ : MethodName)) (as := #[(.int p0)]) (maxL := 1) (Q := Q3 Z p0 h0 n0) (Ls := #[.val (.int p0)]) (plainFor_of_name pn_com_example_fedlint_fedlint_Base64CheckValidPinLaw) (fun m => by first | exact W.entry_of rfl | rfl | (simp [entryFrame, mkF, argsToLocals, Value.category]; done)) ?_
  intro p e s m below meth c T0 C X0 e0
  have N0 := Fr.nil n0
  refine W.iloadN (q := 1) X0 C d3_0 rfl rfl ?_
  refine W.bipush (q := 3) (v := 26) X0 C d3_1 rfl rfl ?_
  refine W.icmp (q := 12) (q' := 6) X0 C d3_3 (by decide) (by decide) rfl (fun hc1 => ?_) (fun hc1 => ?_)
  · replace hc1 : 26 ≤ p0.toInt := hc1
    refine W.iloadN (q := 13) X0 C d3_12 rfl rfl ?_
    refine W.bipush (q := 15) (v := 52) X0 C d3_13 rfl rfl ?_
    refine W.icmp (q := 27) (q' := 18) X0 C d3_15 (by decide) (by decide) rfl (fun hc2 => ?_) (fun hc2 => ?_)
    · replace hc2 : 52 ≤ p0.toInt := hc2
      refine W.iloadN (q := 28) X0 C d3_27 rfl rfl ?_
      refine W.bipush (q := 30) (v := 62) X0 C d3_28 rfl rfl ?_
      refine W.icmp (q := 42) (q' := 33) X0 C d3_30 (by decide) (by decide) rfl (fun hc3 => ?_) (fun hc3 => ?_)
      · replace hc3 : 62 ≤ p0.toInt := hc3
        refine W.iloadN (q := 43) X0 C d3_42 rfl rfl ?_
        refine W.bipush (q := 45) (v := 62) X0 C d3_43 rfl rfl ?_
        refine W.icmp (q := 51) (q' := 48) X0 C d3_45 (by decide) (by decide) rfl (fun hc4 => ?_) (fun hc4 => ?_)
        · replace hc4 : p0 ≠ (62 : Int32) := hc4
          have hc4t : p0.toInt ≠ 62 := fun q => hc4 (Int32.toInt_inj.mp q)
          refine W.bipush (q := 53) (v := 47) X0 C d3_51 rfl rfl ?_
          exact W.retN X0 C (by simp) e0 d3_53 (own_nar ⟨by decide, by decide⟩) (by decide) (by decide) ⟨congrArg (fun z => some (Value.int z)) (show _ = own_al p0 by rw [own_al, if_neg (Int.not_lt.mpr hc1), if_neg (Int.not_lt.mpr hc2), if_neg (Int.not_lt.mpr hc3), if_neg hc4]), N0, rfl⟩
        · replace hc4 : p0 = (62 : Int32) := hc4
          have hc4t : p0.toInt = 62 := congrArg Int32.toInt hc4
          refine W.bipush (q := 50) (v := 43) X0 C d3_48 rfl rfl ?_
          exact W.retN X0 C (by simp) e0 d3_50 (own_nar ⟨by decide, by decide⟩) (by decide) (by decide) ⟨congrArg (fun z => some (Value.int z)) (show _ = own_al p0 by rw [own_al, if_neg (Int.not_lt.mpr hc1), if_neg (Int.not_lt.mpr hc2), if_neg (Int.not_lt.mpr hc3), if_pos hc4]), N0, rfl⟩
      · replace hc3 : p0.toInt < 62 := hc3
        refine W.bipush (q := 35) (v := 48) X0 C d3_33 rfl rfl ?_
        refine W.iloadN (q := 36) X0 C d3_35 rfl rfl ?_
        refine W.bipush (q := 38) (v := 52) X0 C d3_36 rfl rfl ?_
        refine W.isub (q := 39) X0 C d3_38 rfl ?_
        refine W.iadd (q := 40) X0 C d3_39 rfl ?_
        refine W.i2c (q := 41) X0 C d3_40 rfl ?_
        exact W.retN X0 C (by simp) e0 d3_41 (own_nar (own_c16 _)) (by decide) (by decide) ⟨congrArg (fun z => some (Value.int z)) (show _ = own_al p0 by rw [own_al, if_neg (Int.not_lt.mpr hc1), if_neg (Int.not_lt.mpr hc2), if_pos hc3]), N0, rfl⟩
    · replace hc2 : p0.toInt < 52 := hc2
      refine W.bipush (q := 20) (v := 97) X0 C d3_18 rfl rfl ?_
      refine W.iloadN (q := 21) X0 C d3_20 rfl rfl ?_
      refine W.bipush (q := 23) (v := 26) X0 C d3_21 rfl rfl ?_
      refine W.isub (q := 24) X0 C d3_23 rfl ?_
      refine W.iadd (q := 25) X0 C d3_24 rfl ?_
      refine W.i2c (q := 26) X0 C d3_25 rfl ?_
      exact W.retN X0 C (by simp) e0 d3_26 (own_nar (own_c16 _)) (by decide) (by decide) ⟨congrArg (fun z => some (Value.int z)) (show _ = own_al p0 by rw [own_al, if_neg (Int.not_lt.mpr hc1), if_pos hc2]), N0, rfl⟩
  · replace hc1 : p0.toInt < 26 := hc1
    refine W.bipush (q := 8) (v := 65) X0 C d3_6 rfl rfl ?_
    refine W.iloadN (q := 9) X0 C d3_8 rfl rfl ?_
    refine W.iadd (q := 10) X0 C d3_9 rfl ?_
    refine W.i2c (q := 11) X0 C d3_10 rfl ?_
    exact W.retN X0 C (by simp) e0 d3_11 (own_nar (own_c16 _)) (by decide) (by decide) ⟨congrArg (fun z => some (Value.int z)) (show _ = own_al p0 by rw [own_al, if_pos hc1]), N0, rfl⟩
theorem d1_0 : decode method_6_code 0 = .ok (.iload_n 0, 1) := by decide +kernel
theorem d1_1 : decode method_6_code 1 = .ok (.ifCond .lt 8, 3) := by decide +kernel
theorem d1_9 : decode method_6_code 9 = .ok (.iload 6, 2) := by decide +kernel
theorem d1_11 : decode method_6_code 11 = .ok (.ireturn, 1) := by decide +kernel
theorem d1_4 : decode method_6_code 4 = .ok (.iload_n 0, 1) := by decide +kernel
theorem d1_5 : decode method_6_code 5 = .ok (.iload_n 3, 1) := by decide +kernel
theorem d1_6 : decode method_6_code 6 = .ok (.if_icmp .lt 6, 3) := by decide +kernel
theorem d1_12 : decode method_6_code 12 = .ok (.iload_n 0, 1) := by decide +kernel
theorem d1_13 : decode method_6_code 13 = .ok (.iload_n 1, 1) := by decide +kernel
theorem d1_14 : decode method_6_code 14 = .ok (.if_icmp .ge 13, 3) := by decide +kernel
theorem d1_27 : decode method_6_code 27 = .ok (.iload_n 0, 1) := by decide +kernel
theorem d1_28 : decode method_6_code 28 = .ok (.iload_n 1, 1) := by decide +kernel
theorem d1_29 : decode method_6_code 29 = .ok (.iload_n 2, 1) := by decide +kernel
theorem d1_30 : decode method_6_code 30 = .ok (.iadd, 1) := by decide +kernel
theorem d1_31 : decode method_6_code 31 = .ok (.if_icmp .ge 6, 3) := by decide +kernel
theorem d1_37 : decode method_6_code 37 = .ok (.lload 4, 2) := by decide +kernel
theorem d1_39 : decode method_6_code 39 = .ok (.bipush 7, 2) := by decide +kernel
theorem d1_41 : decode method_6_code 41 = .ok (.invokestatic 34, 3) := by decide +kernel
theorem pd__28JI_29I : parseMethodDescriptor "(JI)I" = some ⟨[.long, .int], some .int⟩ := by decide +kernel
theorem d1_44 : decode method_6_code 44 = .ok (.invokestatic 40, 3) := by decide +kernel
theorem pd__28I_29C : parseMethodDescriptor "(I)C" = some ⟨[.int], some .char⟩ := by decide +kernel
theorem d1_47 : decode method_6_code 47 = .ok (.ireturn, 1) := by decide +kernel
theorem d1_34 : decode method_6_code 34 = .ok (.bipush 61, 2) := by decide +kernel
theorem d1_36 : decode method_6_code 36 = .ok (.ireturn, 1) := by decide +kernel
theorem d1_17 : decode method_6_code 17 = .ok (.lload 4, 2) := by decide +kernel
theorem d1_19 : decode method_6_code 19 = .ok (.iload_n 0, 1) := by decide +kernel
theorem d1_20 : decode method_6_code 20 = .ok (.invokestatic 34, 3) := by decide +kernel
theorem d1_23 : decode method_6_code 23 = .ok (.invokestatic 40, 3) := by decide +kernel
theorem d1_26 : decode method_6_code 26 = .ok (.ireturn, 1) := by decide +kernel
def Q1 (Z : State) (p0 p1 p2 p3 : Int32) (p4 : Int64) (p5 : Int32) (h0 : Heap) (n0 : Nat) (v : Option Value) (h : Heap) (L : List Loc) : Prop := v = some (.int (own_pk p0 p1 p2 p3 p4 p5)) ∧ Fr n0 L ∧ h = h0
set_option maxRecDepth 65536 in
set_option maxHeartbeats 40000000 in
theorem rm1 (l : Launch) (Z : State) (a0 : Array Value) (hw : ∀ d ∈ tables_1, d.before a0 Z = true) (ws : List Jvm.Cond) (p0 p1 p2 p3 : Int32) (p4 : Int64) (p5 : Int32) (h0 : Heap) (n0 : Nat) (hp5 : own_r16 p5) :
    MetFree l (⟨"com/example/fedlint/fedlint/Base64CheckValidPinLaw", "pick", "(IIIIJC)C"⟩ : MethodName) (head1 (Jvm.Cond.code (⟨"com/example/fedlint/fedlint/Base64CheckValidPinLaw", "pick", "(IIIIJC)C"⟩ : MethodName) method_6_code 7 (some .char) :: ws) ({ frames := 1, cells := 0, slots := 0, locals := 30 } : Room)) (fun a U => a = #[(.int p0), (.int p1), (.int p2), (.int p3), (.long p4), (.int p5)] ∧ Z.Warmed39 U.vm ∧ U.heap = h0) (fun _ _ _ _ _ => True) (fun _ U o U' => ∃ v L, o = .returned v ∧ Q1 Z p0 p1 p2 p3 p4 p5 h0 n0 v U'.heap L ∧ FrameEnd U o U' L ({ frames := 1, cells := 0, slots := 0, locals := 30 } : Room).cells ({ frames := 1, cells := 0, slots := 0, locals := 30 } : Room).slots) := by
  refine W.bodyOf (y := (⟨"com/example/fedlint/fedlint/Base64CheckValidPinLaw", "pick", "(IIIIJC)C"⟩ : MethodName)) (as := #[(.int p0), (.int p1), (.int p2), (.int p3), (.long p4), (.int p5)]) (maxL := 7) (Q := Q1 Z p0 p1 p2 p3 p4 p5 h0 n0) (Ls := #[.val (.int p0), .val (.int p1), .val (.int p2), .val (.int p3), .val (.long p4), .second, .val (.int p5)]) (plainFor_of_name pn_com_example_fedlint_fedlint_Base64CheckValidPinLaw) (fun m => by first | exact W.entry_of rfl | rfl | (simp [entryFrame, mkF, argsToLocals, Value.category]; done)) ?_
  intro p e s m below meth c T0 C X0 e0
  have N0 := Fr.nil n0
  refine W.iloadN (q := 1) X0 C d1_0 rfl rfl ?_
  refine W.if_ (q := 9) (q' := 4) X0 C d1_1 (by decide) (by decide) rfl (fun hc5 => ?_) (fun hc5 => ?_)
  · replace hc5 : p0.toInt < 0 := hc5
    refine W.iload (q := 11) X0 C d1_9 rfl rfl ?_
    exact W.retN X0 C (by simp) e0 d1_11 (own_nar hp5) (by decide) (by decide) ⟨congrArg (fun z => some (Value.int z)) (show _ = own_pk p0 p1 p2 p3 p4 p5 by rw [own_pk, if_pos (Or.inl hc5)]), N0, rfl⟩
  · replace hc5 : 0 ≤ p0.toInt := hc5
    refine W.iloadN (q := 5) X0 C d1_4 rfl rfl ?_
    refine W.iloadN (q := 6) X0 C d1_5 rfl rfl ?_
    refine W.icmp (q := 12) (q' := 9) X0 C d1_6 (by decide) (by decide) rfl (fun hc6 => ?_) (fun hc6 => ?_)
    · replace hc6 : p0.toInt < p3.toInt := hc6
      refine W.iloadN (q := 13) X0 C d1_12 rfl rfl ?_
      refine W.iloadN (q := 14) X0 C d1_13 rfl rfl ?_
      refine W.icmp (q := 27) (q' := 17) X0 C d1_14 (by decide) (by decide) rfl (fun hc7 => ?_) (fun hc7 => ?_)
      · replace hc7 : p1.toInt ≤ p0.toInt := hc7
        refine W.iloadN (q := 28) X0 C d1_27 rfl rfl ?_
        refine W.iloadN (q := 29) X0 C d1_28 rfl rfl ?_
        refine W.iloadN (q := 30) X0 C d1_29 rfl rfl ?_
        refine W.iadd (q := 31) X0 C d1_30 rfl ?_
        refine W.icmp (q := 37) (q' := 34) X0 C d1_31 (by decide) (by decide) rfl (fun hc8 => ?_) (fun hc8 => ?_)
        · replace hc8 : (p1 + p2).toInt ≤ p0.toInt := hc8
          refine W.lload (q := 39) X0 C d1_37 rfl rfl ?_
          refine W.bipush (q := 41) (v := 7) X0 C d1_39 rfl rfl ?_
          refine W.callS (q := 44) X0 C (W.ww hw 6 rfl) (W.ww hw 7 rfl) (W.ww hw 4 rfl) (W.ww hw 8 rfl) (by decide) (rm2 l Z a0 hw [] p4 (7 : Int32) h0 n0) e0 d1_41 [(.long p4), (.int (7 : Int32))] [] rfl rfl pd__28JI_29I rfl rfl (by decide) (Nat.le_of_ble_eq_true rfl) (by decide) (by decide) rfl (fun T9 w9 L9 X9 hQ9 => ?_)
          obtain ⟨rfl, NL9, e9⟩ := hQ9
          have N9 := Fr.app N0 NL9
          show W.Go p e below _ (T9.setTop (mkF m 44 #[.val (.int p0), .val (.int p1), .val (.int p2), .val (.int p3), .val (.long p4), .second, .val (.int p5)] [(.int (own_sx p4 (7 : Int32)))]))
          refine W.callS (q := 47) X9 C (W.ww hw 10 rfl) (W.ww hw 11 rfl) (W.ww hw 4 rfl) (W.ww hw 12 rfl) (by decide) (rm3 l Z a0 hw [] (own_sx p4 (7 : Int32)) h0 n0) e9 d1_44 [(.int (own_sx p4 (7 : Int32)))] [] rfl rfl pd__28I_29C rfl rfl (by decide) (Nat.le_of_ble_eq_true rfl) (by decide) (by decide) rfl (fun T10 w10 L10 X10 hQ10 => ?_)
          obtain ⟨rfl, NL10, e10⟩ := hQ10
          have N10 := Fr.app N9 NL10
          show W.Go p e below _ (T10.setTop (mkF m 47 #[.val (.int p0), .val (.int p1), .val (.int p2), .val (.int p3), .val (.long p4), .second, .val (.int p5)] [(.int (own_al (own_sx p4 (7 : Int32))))]))
          exact W.retN X10 C (by simp) e10 d1_47 (own_nar (own_al16 _)) (by decide) (by decide) ⟨congrArg (fun z => some (Value.int z)) (show _ = own_pk p0 p1 p2 p3 p4 p5 by rw [own_pk, if_neg (fun q => q.elim (Int.not_lt.mpr hc5) (Int.not_le.mpr hc6)), if_neg (Int.not_lt.mpr hc7), if_neg (Int.not_lt.mpr hc8)]), N10, rfl⟩
        · replace hc8 : p0.toInt < (p1 + p2).toInt := hc8
          refine W.bipush (q := 36) (v := 61) X0 C d1_34 rfl rfl ?_
          exact W.retN X0 C (by simp) e0 d1_36 (own_nar ⟨by decide, by decide⟩) (by decide) (by decide) ⟨congrArg (fun z => some (Value.int z)) (show _ = own_pk p0 p1 p2 p3 p4 p5 by rw [own_pk, if_neg (fun q => q.elim (Int.not_lt.mpr hc5) (Int.not_le.mpr hc6)), if_neg (Int.not_lt.mpr hc7), if_pos hc8]), N0, rfl⟩
      · replace hc7 : p0.toInt < p1.toInt := hc7
        refine W.lload (q := 19) X0 C d1_17 rfl rfl ?_
        refine W.iloadN (q := 20) X0 C d1_19 rfl rfl ?_
        refine W.callS (q := 23) X0 C (W.ww hw 6 rfl) (W.ww hw 7 rfl) (W.ww hw 4 rfl) (W.ww hw 8 rfl) (by decide) (rm2 l Z a0 hw [] p4 p0 h0 n0) e0 d1_20 [(.long p4), (.int p0)] [] rfl rfl pd__28JI_29I rfl rfl (by decide) (Nat.le_of_ble_eq_true rfl) (by decide) (by decide) rfl (fun T11 w11 L11 X11 hQ11 => ?_)
        obtain ⟨rfl, NL11, e11⟩ := hQ11
        have N11 := Fr.app N0 NL11
        show W.Go p e below _ (T11.setTop (mkF m 23 #[.val (.int p0), .val (.int p1), .val (.int p2), .val (.int p3), .val (.long p4), .second, .val (.int p5)] [(.int (own_sx p4 p0))]))
        refine W.callS (q := 26) X11 C (W.ww hw 10 rfl) (W.ww hw 11 rfl) (W.ww hw 4 rfl) (W.ww hw 12 rfl) (by decide) (rm3 l Z a0 hw [] (own_sx p4 p0) h0 n0) e11 d1_23 [(.int (own_sx p4 p0))] [] rfl rfl pd__28I_29C rfl rfl (by decide) (Nat.le_of_ble_eq_true rfl) (by decide) (by decide) rfl (fun T12 w12 L12 X12 hQ12 => ?_)
        obtain ⟨rfl, NL12, e12⟩ := hQ12
        have N12 := Fr.app N11 NL12
        show W.Go p e below _ (T12.setTop (mkF m 26 #[.val (.int p0), .val (.int p1), .val (.int p2), .val (.int p3), .val (.long p4), .second, .val (.int p5)] [(.int (own_al (own_sx p4 p0)))]))
        exact W.retN X12 C (by simp) e12 d1_26 (own_nar (own_al16 _)) (by decide) (by decide) ⟨congrArg (fun z => some (Value.int z)) (show _ = own_pk p0 p1 p2 p3 p4 p5 by rw [own_pk, if_neg (fun q => q.elim (Int.not_lt.mpr hc5) (Int.not_le.mpr hc6)), if_pos hc7]), N12, rfl⟩
    · replace hc6 : p3.toInt ≤ p0.toInt := hc6
      refine W.iload (q := 11) X0 C d1_9 rfl rfl ?_
      exact W.retN X0 C (by simp) e0 d1_11 (own_nar hp5) (by decide) (by decide) ⟨congrArg (fun z => some (Value.int z)) (show _ = own_pk p0 p1 p2 p3 p4 p5 by rw [own_pk, if_pos (Or.inr hc6)]), N0, rfl⟩
theorem d10_0 : decode method_7_code 0 = .ok (.iload_n 0, 1) := by decide +kernel
theorem d10_1 : decode method_7_code 1 = .ok (.bipush 65, 2) := by decide +kernel
theorem d10_3 : decode method_7_code 3 = .ok (.if_icmp .lt 11, 3) := by decide +kernel
theorem d10_14 : decode method_7_code 14 = .ok (.iload_n 0, 1) := by decide +kernel
theorem d10_15 : decode method_7_code 15 = .ok (.bipush 97, 2) := by decide +kernel
theorem d10_17 : decode method_7_code 17 = .ok (.if_icmp .lt 11, 3) := by decide +kernel
theorem d10_28 : decode method_7_code 28 = .ok (.iload_n 0, 1) := by decide +kernel
theorem d10_29 : decode method_7_code 29 = .ok (.bipush 48, 2) := by decide +kernel
theorem d10_31 : decode method_7_code 31 = .ok (.if_icmp .lt 11, 3) := by decide +kernel
theorem d10_42 : decode method_7_code 42 = .ok (.iload_n 0, 1) := by decide +kernel
theorem d10_43 : decode method_7_code 43 = .ok (.bipush 43, 2) := by decide +kernel
theorem d10_45 : decode method_7_code 45 = .ok (.if_icmp .eq 43, 3) := by decide +kernel
theorem d10_88 : decode method_7_code 88 = .ok (.iconst 0, 1) := by decide +kernel
theorem d10_89 : decode method_7_code 89 = .ok (.ireturn, 1) := by decide +kernel
theorem d10_48 : decode method_7_code 48 = .ok (.iload_n 0, 1) := by decide +kernel
theorem d10_49 : decode method_7_code 49 = .ok (.bipush 47, 2) := by decide +kernel
theorem d10_51 : decode method_7_code 51 = .ok (.if_icmp .eq 37, 3) := by decide +kernel
theorem d10_54 : decode method_7_code 54 = .ok (.iload_n 0, 1) := by decide +kernel
theorem d10_55 : decode method_7_code 55 = .ok (.bipush 61, 2) := by decide +kernel
theorem d10_57 : decode method_7_code 57 = .ok (.if_icmp .eq 31, 3) := by decide +kernel
theorem d10_60 : decode method_7_code 60 = .ok (.iload_n 0, 1) := by decide +kernel
theorem d10_61 : decode method_7_code 61 = .ok (.bipush 32, 2) := by decide +kernel
theorem d10_63 : decode method_7_code 63 = .ok (.if_icmp .eq 25, 3) := by decide +kernel
theorem d10_66 : decode method_7_code 66 = .ok (.iload_n 0, 1) := by decide +kernel
theorem d10_67 : decode method_7_code 67 = .ok (.bipush 9, 2) := by decide +kernel
theorem d10_69 : decode method_7_code 69 = .ok (.if_icmp .eq 19, 3) := by decide +kernel
theorem d10_72 : decode method_7_code 72 = .ok (.iload_n 0, 1) := by decide +kernel
theorem d10_73 : decode method_7_code 73 = .ok (.bipush 10, 2) := by decide +kernel
theorem d10_75 : decode method_7_code 75 = .ok (.if_icmp .eq 13, 3) := by decide +kernel
theorem d10_78 : decode method_7_code 78 = .ok (.iload_n 0, 1) := by decide +kernel
theorem d10_79 : decode method_7_code 79 = .ok (.bipush 13, 2) := by decide +kernel
theorem d10_81 : decode method_7_code 81 = .ok (.if_icmp .eq 7, 3) := by decide +kernel
theorem d10_84 : decode method_7_code 84 = .ok (.iconst 1, 1) := by decide +kernel
theorem d10_85 : decode method_7_code 85 = .ok (.goto 4, 3) := by decide +kernel
theorem d10_34 : decode method_7_code 34 = .ok (.iload_n 0, 1) := by decide +kernel
theorem d10_35 : decode method_7_code 35 = .ok (.bipush 57, 2) := by decide +kernel
theorem d10_37 : decode method_7_code 37 = .ok (.if_icmp .gt 5, 3) := by decide +kernel
theorem d10_40 : decode method_7_code 40 = .ok (.iconst 0, 1) := by decide +kernel
theorem d10_41 : decode method_7_code 41 = .ok (.ireturn, 1) := by decide +kernel
theorem d10_20 : decode method_7_code 20 = .ok (.iload_n 0, 1) := by decide +kernel
theorem d10_21 : decode method_7_code 21 = .ok (.bipush 122, 2) := by decide +kernel
theorem d10_23 : decode method_7_code 23 = .ok (.if_icmp .gt 5, 3) := by decide +kernel
theorem d10_26 : decode method_7_code 26 = .ok (.iconst 0, 1) := by decide +kernel
theorem d10_27 : decode method_7_code 27 = .ok (.ireturn, 1) := by decide +kernel
theorem d10_6 : decode method_7_code 6 = .ok (.iload_n 0, 1) := by decide +kernel
theorem d10_7 : decode method_7_code 7 = .ok (.bipush 90, 2) := by decide +kernel
theorem d10_9 : decode method_7_code 9 = .ok (.if_icmp .gt 5, 3) := by decide +kernel
theorem d10_12 : decode method_7_code 12 = .ok (.iconst 0, 1) := by decide +kernel
theorem d10_13 : decode method_7_code 13 = .ok (.ireturn, 1) := by decide +kernel
def Q10 (Z : State) (p0 : Int32) (h0 : Heap) (n0 : Nat) (v : Option Value) (h : Heap) (L : List Loc) : Prop := v = some (.int (own_non p0)) ∧ Fr n0 L ∧ h = h0
set_option maxRecDepth 65536 in
set_option maxHeartbeats 40000000 in
theorem rm10 (l : Launch) (Z : State) (a0 : Array Value) (hw : ∀ d ∈ tables_1, d.before a0 Z = true) (ws : List Jvm.Cond) (p0 : Int32) (h0 : Heap) (n0 : Nat) :
    MetFree l (⟨"com/example/fedlint/fedlint/Base64CheckValidPinLaw", "isNone", "(C)Z"⟩ : MethodName) (head1 (Jvm.Cond.code (⟨"com/example/fedlint/fedlint/Base64CheckValidPinLaw", "isNone", "(C)Z"⟩ : MethodName) method_7_code 1 (some .boolean) :: ws) ({ frames := 0, cells := 0, slots := 0, locals := 0 } : Room)) (fun a U => a = #[(.int p0)] ∧ Z.Warmed39 U.vm ∧ U.heap = h0) (fun _ _ _ _ _ => True) (fun _ U o U' => ∃ v L, o = .returned v ∧ Q10 Z p0 h0 n0 v U'.heap L ∧ FrameEnd U o U' L ({ frames := 0, cells := 0, slots := 0, locals := 0 } : Room).cells ({ frames := 0, cells := 0, slots := 0, locals := 0 } : Room).slots) := by
  refine W.bodyOf (y := (⟨"com/example/fedlint/fedlint/Base64CheckValidPinLaw", "isNone", "(C)Z"⟩ : MethodName)) (as := #[(.int p0)]) (maxL := 1) (Q := Q10 Z p0 h0 n0) (Ls := #[.val (.int p0)]) (plainFor_of_name pn_com_example_fedlint_fedlint_Base64CheckValidPinLaw) (fun m => by first | exact W.entry_of rfl | rfl | (simp [entryFrame, mkF, argsToLocals, Value.category]; done)) ?_
  intro p e s m below meth c T0 C X0 e0
  have N0 := Fr.nil n0
  refine W.iloadN (q := 1) X0 C d10_0 rfl rfl ?_
  refine W.bipush (q := 3) (v := 65) X0 C d10_1 rfl rfl ?_
  refine W.icmp (q := 14) (q' := 6) X0 C d10_3 (by decide) (by decide) rfl (fun hc13 => ?_) (fun hc13 => ?_)
  · replace hc13 : p0.toInt < 65 := hc13
    refine W.iloadN (q := 15) X0 C d10_14 rfl rfl ?_
    refine W.bipush (q := 17) (v := 97) X0 C d10_15 rfl rfl ?_
    refine W.icmp (q := 28) (q' := 20) X0 C d10_17 (by decide) (by decide) rfl (fun hc14 => ?_) (fun hc14 => ?_)
    · replace hc14 : p0.toInt < 97 := hc14
      refine W.iloadN (q := 29) X0 C d10_28 rfl rfl ?_
      refine W.bipush (q := 31) (v := 48) X0 C d10_29 rfl rfl ?_
      refine W.icmp (q := 42) (q' := 34) X0 C d10_31 (by decide) (by decide) rfl (fun hc15 => ?_) (fun hc15 => ?_)
      · replace hc15 : p0.toInt < 48 := hc15
        refine W.iloadN (q := 43) X0 C d10_42 rfl rfl ?_
        refine W.bipush (q := 45) (v := 43) X0 C d10_43 rfl rfl ?_
        refine W.icmp (q := 88) (q' := 48) X0 C d10_45 (by decide) (by decide) rfl (fun hc16 => ?_) (fun hc16 => ?_)
        · replace hc16 : p0 = (43 : Int32) := hc16
          have hc16t : p0.toInt = 43 := congrArg Int32.toInt hc16
          refine W.iconst (q := 89) (v := 0) X0 C d10_88 rfl rfl ?_
          exact W.retN X0 C (by simp) e0 d10_89 rfl (by decide) (by decide) ⟨congrArg (fun z => some (Value.int z)) (show _ = own_non p0 by rw [own_non, if_pos (by omega)]; rfl), N0, rfl⟩
        · replace hc16 : p0 ≠ (43 : Int32) := hc16
          have hc16t : p0.toInt ≠ 43 := fun q => hc16 (Int32.toInt_inj.mp q)
          refine W.iloadN (q := 49) X0 C d10_48 rfl rfl ?_
          refine W.bipush (q := 51) (v := 47) X0 C d10_49 rfl rfl ?_
          refine W.icmp (q := 88) (q' := 54) X0 C d10_51 (by decide) (by decide) rfl (fun hc17 => ?_) (fun hc17 => ?_)
          · replace hc17 : p0 = (47 : Int32) := hc17
            have hc17t : p0.toInt = 47 := congrArg Int32.toInt hc17
            refine W.iconst (q := 89) (v := 0) X0 C d10_88 rfl rfl ?_
            exact W.retN X0 C (by simp) e0 d10_89 rfl (by decide) (by decide) ⟨congrArg (fun z => some (Value.int z)) (show _ = own_non p0 by rw [own_non, if_pos (by omega)]; rfl), N0, rfl⟩
          · replace hc17 : p0 ≠ (47 : Int32) := hc17
            have hc17t : p0.toInt ≠ 47 := fun q => hc17 (Int32.toInt_inj.mp q)
            refine W.iloadN (q := 55) X0 C d10_54 rfl rfl ?_
            refine W.bipush (q := 57) (v := 61) X0 C d10_55 rfl rfl ?_
            refine W.icmp (q := 88) (q' := 60) X0 C d10_57 (by decide) (by decide) rfl (fun hc18 => ?_) (fun hc18 => ?_)
            · replace hc18 : p0 = (61 : Int32) := hc18
              have hc18t : p0.toInt = 61 := congrArg Int32.toInt hc18
              refine W.iconst (q := 89) (v := 0) X0 C d10_88 rfl rfl ?_
              exact W.retN X0 C (by simp) e0 d10_89 rfl (by decide) (by decide) ⟨congrArg (fun z => some (Value.int z)) (show _ = own_non p0 by rw [own_non, if_pos (by omega)]; rfl), N0, rfl⟩
            · replace hc18 : p0 ≠ (61 : Int32) := hc18
              have hc18t : p0.toInt ≠ 61 := fun q => hc18 (Int32.toInt_inj.mp q)
              refine W.iloadN (q := 61) X0 C d10_60 rfl rfl ?_
              refine W.bipush (q := 63) (v := 32) X0 C d10_61 rfl rfl ?_
              refine W.icmp (q := 88) (q' := 66) X0 C d10_63 (by decide) (by decide) rfl (fun hc19 => ?_) (fun hc19 => ?_)
              · replace hc19 : p0 = (32 : Int32) := hc19
                have hc19t : p0.toInt = 32 := congrArg Int32.toInt hc19
                refine W.iconst (q := 89) (v := 0) X0 C d10_88 rfl rfl ?_
                exact W.retN X0 C (by simp) e0 d10_89 rfl (by decide) (by decide) ⟨congrArg (fun z => some (Value.int z)) (show _ = own_non p0 by rw [own_non, if_pos (by omega)]; rfl), N0, rfl⟩
              · replace hc19 : p0 ≠ (32 : Int32) := hc19
                have hc19t : p0.toInt ≠ 32 := fun q => hc19 (Int32.toInt_inj.mp q)
                refine W.iloadN (q := 67) X0 C d10_66 rfl rfl ?_
                refine W.bipush (q := 69) (v := 9) X0 C d10_67 rfl rfl ?_
                refine W.icmp (q := 88) (q' := 72) X0 C d10_69 (by decide) (by decide) rfl (fun hc20 => ?_) (fun hc20 => ?_)
                · replace hc20 : p0 = (9 : Int32) := hc20
                  have hc20t : p0.toInt = 9 := congrArg Int32.toInt hc20
                  refine W.iconst (q := 89) (v := 0) X0 C d10_88 rfl rfl ?_
                  exact W.retN X0 C (by simp) e0 d10_89 rfl (by decide) (by decide) ⟨congrArg (fun z => some (Value.int z)) (show _ = own_non p0 by rw [own_non, if_pos (by omega)]; rfl), N0, rfl⟩
                · replace hc20 : p0 ≠ (9 : Int32) := hc20
                  have hc20t : p0.toInt ≠ 9 := fun q => hc20 (Int32.toInt_inj.mp q)
                  refine W.iloadN (q := 73) X0 C d10_72 rfl rfl ?_
                  refine W.bipush (q := 75) (v := 10) X0 C d10_73 rfl rfl ?_
                  refine W.icmp (q := 88) (q' := 78) X0 C d10_75 (by decide) (by decide) rfl (fun hc21 => ?_) (fun hc21 => ?_)
                  · replace hc21 : p0 = (10 : Int32) := hc21
                    have hc21t : p0.toInt = 10 := congrArg Int32.toInt hc21
                    refine W.iconst (q := 89) (v := 0) X0 C d10_88 rfl rfl ?_
                    exact W.retN X0 C (by simp) e0 d10_89 rfl (by decide) (by decide) ⟨congrArg (fun z => some (Value.int z)) (show _ = own_non p0 by rw [own_non, if_pos (by omega)]; rfl), N0, rfl⟩
                  · replace hc21 : p0 ≠ (10 : Int32) := hc21
                    have hc21t : p0.toInt ≠ 10 := fun q => hc21 (Int32.toInt_inj.mp q)
                    refine W.iloadN (q := 79) X0 C d10_78 rfl rfl ?_
                    refine W.bipush (q := 81) (v := 13) X0 C d10_79 rfl rfl ?_
                    refine W.icmp (q := 88) (q' := 84) X0 C d10_81 (by decide) (by decide) rfl (fun hc22 => ?_) (fun hc22 => ?_)
                    · replace hc22 : p0 = (13 : Int32) := hc22
                      have hc22t : p0.toInt = 13 := congrArg Int32.toInt hc22
                      refine W.iconst (q := 89) (v := 0) X0 C d10_88 rfl rfl ?_
                      exact W.retN X0 C (by simp) e0 d10_89 rfl (by decide) (by decide) ⟨congrArg (fun z => some (Value.int z)) (show _ = own_non p0 by rw [own_non, if_pos (by omega)]; rfl), N0, rfl⟩
                    · replace hc22 : p0 ≠ (13 : Int32) := hc22
                      have hc22t : p0.toInt ≠ 13 := fun q => hc22 (Int32.toInt_inj.mp q)
                      refine W.iconst (q := 85) (v := 1) X0 C d10_84 rfl rfl ?_
                      refine W.goto (q := 89) X0 C d10_85 (by decide) (by decide) ?_
                      exact W.retN X0 C (by simp) e0 d10_89 rfl (by decide) (by decide) ⟨congrArg (fun z => some (Value.int z)) (show _ = own_non p0 by rw [own_non, if_neg (by omega)]; rfl), N0, rfl⟩
      · replace hc15 : 48 ≤ p0.toInt := hc15
        refine W.iloadN (q := 35) X0 C d10_34 rfl rfl ?_
        refine W.bipush (q := 37) (v := 57) X0 C d10_35 rfl rfl ?_
        refine W.icmp (q := 42) (q' := 40) X0 C d10_37 (by decide) (by decide) rfl (fun hc23 => ?_) (fun hc23 => ?_)
        · replace hc23 : 57 < p0.toInt := hc23
          refine W.iloadN (q := 43) X0 C d10_42 rfl rfl ?_
          refine W.bipush (q := 45) (v := 43) X0 C d10_43 rfl rfl ?_
          refine W.icmp (q := 88) (q' := 48) X0 C d10_45 (by decide) (by decide) rfl (fun hc24 => ?_) (fun hc24 => ?_)
          · replace hc24 : p0 = (43 : Int32) := hc24
            have hc24t : p0.toInt = 43 := congrArg Int32.toInt hc24
            refine W.iconst (q := 89) (v := 0) X0 C d10_88 rfl rfl ?_
            exact W.retN X0 C (by simp) e0 d10_89 rfl (by decide) (by decide) ⟨congrArg (fun z => some (Value.int z)) (show _ = own_non p0 by rw [own_non, if_pos (by omega)]; rfl), N0, rfl⟩
          · replace hc24 : p0 ≠ (43 : Int32) := hc24
            have hc24t : p0.toInt ≠ 43 := fun q => hc24 (Int32.toInt_inj.mp q)
            refine W.iloadN (q := 49) X0 C d10_48 rfl rfl ?_
            refine W.bipush (q := 51) (v := 47) X0 C d10_49 rfl rfl ?_
            refine W.icmp (q := 88) (q' := 54) X0 C d10_51 (by decide) (by decide) rfl (fun hc25 => ?_) (fun hc25 => ?_)
            · replace hc25 : p0 = (47 : Int32) := hc25
              have hc25t : p0.toInt = 47 := congrArg Int32.toInt hc25
              refine W.iconst (q := 89) (v := 0) X0 C d10_88 rfl rfl ?_
              exact W.retN X0 C (by simp) e0 d10_89 rfl (by decide) (by decide) ⟨congrArg (fun z => some (Value.int z)) (show _ = own_non p0 by rw [own_non, if_pos (by omega)]; rfl), N0, rfl⟩
            · replace hc25 : p0 ≠ (47 : Int32) := hc25
              have hc25t : p0.toInt ≠ 47 := fun q => hc25 (Int32.toInt_inj.mp q)
              refine W.iloadN (q := 55) X0 C d10_54 rfl rfl ?_
              refine W.bipush (q := 57) (v := 61) X0 C d10_55 rfl rfl ?_
              refine W.icmp (q := 88) (q' := 60) X0 C d10_57 (by decide) (by decide) rfl (fun hc26 => ?_) (fun hc26 => ?_)
              · replace hc26 : p0 = (61 : Int32) := hc26
                have hc26t : p0.toInt = 61 := congrArg Int32.toInt hc26
                refine W.iconst (q := 89) (v := 0) X0 C d10_88 rfl rfl ?_
                exact W.retN X0 C (by simp) e0 d10_89 rfl (by decide) (by decide) ⟨congrArg (fun z => some (Value.int z)) (show _ = own_non p0 by rw [own_non, if_pos (by omega)]; rfl), N0, rfl⟩
              · replace hc26 : p0 ≠ (61 : Int32) := hc26
                have hc26t : p0.toInt ≠ 61 := fun q => hc26 (Int32.toInt_inj.mp q)
                refine W.iloadN (q := 61) X0 C d10_60 rfl rfl ?_
                refine W.bipush (q := 63) (v := 32) X0 C d10_61 rfl rfl ?_
                refine W.icmp (q := 88) (q' := 66) X0 C d10_63 (by decide) (by decide) rfl (fun hc27 => ?_) (fun hc27 => ?_)
                · replace hc27 : p0 = (32 : Int32) := hc27
                  have hc27t : p0.toInt = 32 := congrArg Int32.toInt hc27
                  refine W.iconst (q := 89) (v := 0) X0 C d10_88 rfl rfl ?_
                  exact W.retN X0 C (by simp) e0 d10_89 rfl (by decide) (by decide) ⟨congrArg (fun z => some (Value.int z)) (show _ = own_non p0 by rw [own_non, if_pos (by omega)]; rfl), N0, rfl⟩
                · replace hc27 : p0 ≠ (32 : Int32) := hc27
                  have hc27t : p0.toInt ≠ 32 := fun q => hc27 (Int32.toInt_inj.mp q)
                  refine W.iloadN (q := 67) X0 C d10_66 rfl rfl ?_
                  refine W.bipush (q := 69) (v := 9) X0 C d10_67 rfl rfl ?_
                  refine W.icmp (q := 88) (q' := 72) X0 C d10_69 (by decide) (by decide) rfl (fun hc28 => ?_) (fun hc28 => ?_)
                  · replace hc28 : p0 = (9 : Int32) := hc28
                    have hc28t : p0.toInt = 9 := congrArg Int32.toInt hc28
                    refine W.iconst (q := 89) (v := 0) X0 C d10_88 rfl rfl ?_
                    exact W.retN X0 C (by simp) e0 d10_89 rfl (by decide) (by decide) ⟨congrArg (fun z => some (Value.int z)) (show _ = own_non p0 by rw [own_non, if_pos (by omega)]; rfl), N0, rfl⟩
                  · replace hc28 : p0 ≠ (9 : Int32) := hc28
                    have hc28t : p0.toInt ≠ 9 := fun q => hc28 (Int32.toInt_inj.mp q)
                    refine W.iloadN (q := 73) X0 C d10_72 rfl rfl ?_
                    refine W.bipush (q := 75) (v := 10) X0 C d10_73 rfl rfl ?_
                    refine W.icmp (q := 88) (q' := 78) X0 C d10_75 (by decide) (by decide) rfl (fun hc29 => ?_) (fun hc29 => ?_)
                    · replace hc29 : p0 = (10 : Int32) := hc29
                      have hc29t : p0.toInt = 10 := congrArg Int32.toInt hc29
                      refine W.iconst (q := 89) (v := 0) X0 C d10_88 rfl rfl ?_
                      exact W.retN X0 C (by simp) e0 d10_89 rfl (by decide) (by decide) ⟨congrArg (fun z => some (Value.int z)) (show _ = own_non p0 by rw [own_non, if_pos (by omega)]; rfl), N0, rfl⟩
                    · replace hc29 : p0 ≠ (10 : Int32) := hc29
                      have hc29t : p0.toInt ≠ 10 := fun q => hc29 (Int32.toInt_inj.mp q)
                      refine W.iloadN (q := 79) X0 C d10_78 rfl rfl ?_
                      refine W.bipush (q := 81) (v := 13) X0 C d10_79 rfl rfl ?_
                      refine W.icmp (q := 88) (q' := 84) X0 C d10_81 (by decide) (by decide) rfl (fun hc30 => ?_) (fun hc30 => ?_)
                      · replace hc30 : p0 = (13 : Int32) := hc30
                        have hc30t : p0.toInt = 13 := congrArg Int32.toInt hc30
                        refine W.iconst (q := 89) (v := 0) X0 C d10_88 rfl rfl ?_
                        exact W.retN X0 C (by simp) e0 d10_89 rfl (by decide) (by decide) ⟨congrArg (fun z => some (Value.int z)) (show _ = own_non p0 by rw [own_non, if_pos (by omega)]; rfl), N0, rfl⟩
                      · replace hc30 : p0 ≠ (13 : Int32) := hc30
                        have hc30t : p0.toInt ≠ 13 := fun q => hc30 (Int32.toInt_inj.mp q)
                        refine W.iconst (q := 85) (v := 1) X0 C d10_84 rfl rfl ?_
                        refine W.goto (q := 89) X0 C d10_85 (by decide) (by decide) ?_
                        exact W.retN X0 C (by simp) e0 d10_89 rfl (by decide) (by decide) ⟨congrArg (fun z => some (Value.int z)) (show _ = own_non p0 by rw [own_non, if_neg (by omega)]; rfl), N0, rfl⟩
        · replace hc23 : p0.toInt ≤ 57 := hc23
          refine W.iconst (q := 41) (v := 0) X0 C d10_40 rfl rfl ?_
          exact W.retN X0 C (by simp) e0 d10_41 rfl (by decide) (by decide) ⟨congrArg (fun z => some (Value.int z)) (show _ = own_non p0 by rw [own_non, if_pos (by omega)]; rfl), N0, rfl⟩
    · replace hc14 : 97 ≤ p0.toInt := hc14
      refine W.iloadN (q := 21) X0 C d10_20 rfl rfl ?_
      refine W.bipush (q := 23) (v := 122) X0 C d10_21 rfl rfl ?_
      refine W.icmp (q := 28) (q' := 26) X0 C d10_23 (by decide) (by decide) rfl (fun hc31 => ?_) (fun hc31 => ?_)
      · replace hc31 : 122 < p0.toInt := hc31
        refine W.iloadN (q := 29) X0 C d10_28 rfl rfl ?_
        refine W.bipush (q := 31) (v := 48) X0 C d10_29 rfl rfl ?_
        refine W.icmp (q := 42) (q' := 34) X0 C d10_31 (by decide) (by decide) rfl (fun hc32 => ?_) (fun hc32 => ?_)
        · replace hc32 : p0.toInt < 48 := hc32
          refine W.iloadN (q := 43) X0 C d10_42 rfl rfl ?_
          refine W.bipush (q := 45) (v := 43) X0 C d10_43 rfl rfl ?_
          refine W.icmp (q := 88) (q' := 48) X0 C d10_45 (by decide) (by decide) rfl (fun hc33 => ?_) (fun hc33 => ?_)
          · replace hc33 : p0 = (43 : Int32) := hc33
            have hc33t : p0.toInt = 43 := congrArg Int32.toInt hc33
            refine W.iconst (q := 89) (v := 0) X0 C d10_88 rfl rfl ?_
            exact W.retN X0 C (by simp) e0 d10_89 rfl (by decide) (by decide) ⟨congrArg (fun z => some (Value.int z)) (show _ = own_non p0 by rw [own_non, if_pos (by omega)]; rfl), N0, rfl⟩
          · replace hc33 : p0 ≠ (43 : Int32) := hc33
            have hc33t : p0.toInt ≠ 43 := fun q => hc33 (Int32.toInt_inj.mp q)
            refine W.iloadN (q := 49) X0 C d10_48 rfl rfl ?_
            refine W.bipush (q := 51) (v := 47) X0 C d10_49 rfl rfl ?_
            refine W.icmp (q := 88) (q' := 54) X0 C d10_51 (by decide) (by decide) rfl (fun hc34 => ?_) (fun hc34 => ?_)
            · replace hc34 : p0 = (47 : Int32) := hc34
              have hc34t : p0.toInt = 47 := congrArg Int32.toInt hc34
              refine W.iconst (q := 89) (v := 0) X0 C d10_88 rfl rfl ?_
              exact W.retN X0 C (by simp) e0 d10_89 rfl (by decide) (by decide) ⟨congrArg (fun z => some (Value.int z)) (show _ = own_non p0 by rw [own_non, if_pos (by omega)]; rfl), N0, rfl⟩
            · replace hc34 : p0 ≠ (47 : Int32) := hc34
              have hc34t : p0.toInt ≠ 47 := fun q => hc34 (Int32.toInt_inj.mp q)
              refine W.iloadN (q := 55) X0 C d10_54 rfl rfl ?_
              refine W.bipush (q := 57) (v := 61) X0 C d10_55 rfl rfl ?_
              refine W.icmp (q := 88) (q' := 60) X0 C d10_57 (by decide) (by decide) rfl (fun hc35 => ?_) (fun hc35 => ?_)
              · replace hc35 : p0 = (61 : Int32) := hc35
                have hc35t : p0.toInt = 61 := congrArg Int32.toInt hc35
                refine W.iconst (q := 89) (v := 0) X0 C d10_88 rfl rfl ?_
                exact W.retN X0 C (by simp) e0 d10_89 rfl (by decide) (by decide) ⟨congrArg (fun z => some (Value.int z)) (show _ = own_non p0 by rw [own_non, if_pos (by omega)]; rfl), N0, rfl⟩
              · replace hc35 : p0 ≠ (61 : Int32) := hc35
                have hc35t : p0.toInt ≠ 61 := fun q => hc35 (Int32.toInt_inj.mp q)
                refine W.iloadN (q := 61) X0 C d10_60 rfl rfl ?_
                refine W.bipush (q := 63) (v := 32) X0 C d10_61 rfl rfl ?_
                refine W.icmp (q := 88) (q' := 66) X0 C d10_63 (by decide) (by decide) rfl (fun hc36 => ?_) (fun hc36 => ?_)
                · replace hc36 : p0 = (32 : Int32) := hc36
                  have hc36t : p0.toInt = 32 := congrArg Int32.toInt hc36
                  refine W.iconst (q := 89) (v := 0) X0 C d10_88 rfl rfl ?_
                  exact W.retN X0 C (by simp) e0 d10_89 rfl (by decide) (by decide) ⟨congrArg (fun z => some (Value.int z)) (show _ = own_non p0 by rw [own_non, if_pos (by omega)]; rfl), N0, rfl⟩
                · replace hc36 : p0 ≠ (32 : Int32) := hc36
                  have hc36t : p0.toInt ≠ 32 := fun q => hc36 (Int32.toInt_inj.mp q)
                  refine W.iloadN (q := 67) X0 C d10_66 rfl rfl ?_
                  refine W.bipush (q := 69) (v := 9) X0 C d10_67 rfl rfl ?_
                  refine W.icmp (q := 88) (q' := 72) X0 C d10_69 (by decide) (by decide) rfl (fun hc37 => ?_) (fun hc37 => ?_)
                  · replace hc37 : p0 = (9 : Int32) := hc37
                    have hc37t : p0.toInt = 9 := congrArg Int32.toInt hc37
                    refine W.iconst (q := 89) (v := 0) X0 C d10_88 rfl rfl ?_
                    exact W.retN X0 C (by simp) e0 d10_89 rfl (by decide) (by decide) ⟨congrArg (fun z => some (Value.int z)) (show _ = own_non p0 by rw [own_non, if_pos (by omega)]; rfl), N0, rfl⟩
                  · replace hc37 : p0 ≠ (9 : Int32) := hc37
                    have hc37t : p0.toInt ≠ 9 := fun q => hc37 (Int32.toInt_inj.mp q)
                    refine W.iloadN (q := 73) X0 C d10_72 rfl rfl ?_
                    refine W.bipush (q := 75) (v := 10) X0 C d10_73 rfl rfl ?_
                    refine W.icmp (q := 88) (q' := 78) X0 C d10_75 (by decide) (by decide) rfl (fun hc38 => ?_) (fun hc38 => ?_)
                    · replace hc38 : p0 = (10 : Int32) := hc38
                      have hc38t : p0.toInt = 10 := congrArg Int32.toInt hc38
                      refine W.iconst (q := 89) (v := 0) X0 C d10_88 rfl rfl ?_
                      exact W.retN X0 C (by simp) e0 d10_89 rfl (by decide) (by decide) ⟨congrArg (fun z => some (Value.int z)) (show _ = own_non p0 by rw [own_non, if_pos (by omega)]; rfl), N0, rfl⟩
                    · replace hc38 : p0 ≠ (10 : Int32) := hc38
                      have hc38t : p0.toInt ≠ 10 := fun q => hc38 (Int32.toInt_inj.mp q)
                      refine W.iloadN (q := 79) X0 C d10_78 rfl rfl ?_
                      refine W.bipush (q := 81) (v := 13) X0 C d10_79 rfl rfl ?_
                      refine W.icmp (q := 88) (q' := 84) X0 C d10_81 (by decide) (by decide) rfl (fun hc39 => ?_) (fun hc39 => ?_)
                      · replace hc39 : p0 = (13 : Int32) := hc39
                        have hc39t : p0.toInt = 13 := congrArg Int32.toInt hc39
                        refine W.iconst (q := 89) (v := 0) X0 C d10_88 rfl rfl ?_
                        exact W.retN X0 C (by simp) e0 d10_89 rfl (by decide) (by decide) ⟨congrArg (fun z => some (Value.int z)) (show _ = own_non p0 by rw [own_non, if_pos (by omega)]; rfl), N0, rfl⟩
                      · replace hc39 : p0 ≠ (13 : Int32) := hc39
                        have hc39t : p0.toInt ≠ 13 := fun q => hc39 (Int32.toInt_inj.mp q)
                        refine W.iconst (q := 85) (v := 1) X0 C d10_84 rfl rfl ?_
                        refine W.goto (q := 89) X0 C d10_85 (by decide) (by decide) ?_
                        exact W.retN X0 C (by simp) e0 d10_89 rfl (by decide) (by decide) ⟨congrArg (fun z => some (Value.int z)) (show _ = own_non p0 by rw [own_non, if_neg (by omega)]; rfl), N0, rfl⟩
        · replace hc32 : 48 ≤ p0.toInt := hc32
          refine W.iloadN (q := 35) X0 C d10_34 rfl rfl ?_
          refine W.bipush (q := 37) (v := 57) X0 C d10_35 rfl rfl ?_
          refine W.icmp (q := 42) (q' := 40) X0 C d10_37 (by decide) (by decide) rfl (fun hc40 => ?_) (fun hc40 => ?_)
          · replace hc40 : 57 < p0.toInt := hc40
            refine W.iloadN (q := 43) X0 C d10_42 rfl rfl ?_
            refine W.bipush (q := 45) (v := 43) X0 C d10_43 rfl rfl ?_
            refine W.icmp (q := 88) (q' := 48) X0 C d10_45 (by decide) (by decide) rfl (fun hc41 => ?_) (fun hc41 => ?_)
            · replace hc41 : p0 = (43 : Int32) := hc41
              have hc41t : p0.toInt = 43 := congrArg Int32.toInt hc41
              refine W.iconst (q := 89) (v := 0) X0 C d10_88 rfl rfl ?_
              exact W.retN X0 C (by simp) e0 d10_89 rfl (by decide) (by decide) ⟨congrArg (fun z => some (Value.int z)) (show _ = own_non p0 by rw [own_non, if_pos (by omega)]; rfl), N0, rfl⟩
            · replace hc41 : p0 ≠ (43 : Int32) := hc41
              have hc41t : p0.toInt ≠ 43 := fun q => hc41 (Int32.toInt_inj.mp q)
              refine W.iloadN (q := 49) X0 C d10_48 rfl rfl ?_
              refine W.bipush (q := 51) (v := 47) X0 C d10_49 rfl rfl ?_
              refine W.icmp (q := 88) (q' := 54) X0 C d10_51 (by decide) (by decide) rfl (fun hc42 => ?_) (fun hc42 => ?_)
              · replace hc42 : p0 = (47 : Int32) := hc42
                have hc42t : p0.toInt = 47 := congrArg Int32.toInt hc42
                refine W.iconst (q := 89) (v := 0) X0 C d10_88 rfl rfl ?_
                exact W.retN X0 C (by simp) e0 d10_89 rfl (by decide) (by decide) ⟨congrArg (fun z => some (Value.int z)) (show _ = own_non p0 by rw [own_non, if_pos (by omega)]; rfl), N0, rfl⟩
              · replace hc42 : p0 ≠ (47 : Int32) := hc42
                have hc42t : p0.toInt ≠ 47 := fun q => hc42 (Int32.toInt_inj.mp q)
                refine W.iloadN (q := 55) X0 C d10_54 rfl rfl ?_
                refine W.bipush (q := 57) (v := 61) X0 C d10_55 rfl rfl ?_
                refine W.icmp (q := 88) (q' := 60) X0 C d10_57 (by decide) (by decide) rfl (fun hc43 => ?_) (fun hc43 => ?_)
                · replace hc43 : p0 = (61 : Int32) := hc43
                  have hc43t : p0.toInt = 61 := congrArg Int32.toInt hc43
                  refine W.iconst (q := 89) (v := 0) X0 C d10_88 rfl rfl ?_
                  exact W.retN X0 C (by simp) e0 d10_89 rfl (by decide) (by decide) ⟨congrArg (fun z => some (Value.int z)) (show _ = own_non p0 by rw [own_non, if_pos (by omega)]; rfl), N0, rfl⟩
                · replace hc43 : p0 ≠ (61 : Int32) := hc43
                  have hc43t : p0.toInt ≠ 61 := fun q => hc43 (Int32.toInt_inj.mp q)
                  refine W.iloadN (q := 61) X0 C d10_60 rfl rfl ?_
                  refine W.bipush (q := 63) (v := 32) X0 C d10_61 rfl rfl ?_
                  refine W.icmp (q := 88) (q' := 66) X0 C d10_63 (by decide) (by decide) rfl (fun hc44 => ?_) (fun hc44 => ?_)
                  · replace hc44 : p0 = (32 : Int32) := hc44
                    have hc44t : p0.toInt = 32 := congrArg Int32.toInt hc44
                    refine W.iconst (q := 89) (v := 0) X0 C d10_88 rfl rfl ?_
                    exact W.retN X0 C (by simp) e0 d10_89 rfl (by decide) (by decide) ⟨congrArg (fun z => some (Value.int z)) (show _ = own_non p0 by rw [own_non, if_pos (by omega)]; rfl), N0, rfl⟩
                  · replace hc44 : p0 ≠ (32 : Int32) := hc44
                    have hc44t : p0.toInt ≠ 32 := fun q => hc44 (Int32.toInt_inj.mp q)
                    refine W.iloadN (q := 67) X0 C d10_66 rfl rfl ?_
                    refine W.bipush (q := 69) (v := 9) X0 C d10_67 rfl rfl ?_
                    refine W.icmp (q := 88) (q' := 72) X0 C d10_69 (by decide) (by decide) rfl (fun hc45 => ?_) (fun hc45 => ?_)
                    · replace hc45 : p0 = (9 : Int32) := hc45
                      have hc45t : p0.toInt = 9 := congrArg Int32.toInt hc45
                      refine W.iconst (q := 89) (v := 0) X0 C d10_88 rfl rfl ?_
                      exact W.retN X0 C (by simp) e0 d10_89 rfl (by decide) (by decide) ⟨congrArg (fun z => some (Value.int z)) (show _ = own_non p0 by rw [own_non, if_pos (by omega)]; rfl), N0, rfl⟩
                    · replace hc45 : p0 ≠ (9 : Int32) := hc45
                      have hc45t : p0.toInt ≠ 9 := fun q => hc45 (Int32.toInt_inj.mp q)
                      refine W.iloadN (q := 73) X0 C d10_72 rfl rfl ?_
                      refine W.bipush (q := 75) (v := 10) X0 C d10_73 rfl rfl ?_
                      refine W.icmp (q := 88) (q' := 78) X0 C d10_75 (by decide) (by decide) rfl (fun hc46 => ?_) (fun hc46 => ?_)
                      · replace hc46 : p0 = (10 : Int32) := hc46
                        have hc46t : p0.toInt = 10 := congrArg Int32.toInt hc46
                        refine W.iconst (q := 89) (v := 0) X0 C d10_88 rfl rfl ?_
                        exact W.retN X0 C (by simp) e0 d10_89 rfl (by decide) (by decide) ⟨congrArg (fun z => some (Value.int z)) (show _ = own_non p0 by rw [own_non, if_pos (by omega)]; rfl), N0, rfl⟩
                      · replace hc46 : p0 ≠ (10 : Int32) := hc46
                        have hc46t : p0.toInt ≠ 10 := fun q => hc46 (Int32.toInt_inj.mp q)
                        refine W.iloadN (q := 79) X0 C d10_78 rfl rfl ?_
                        refine W.bipush (q := 81) (v := 13) X0 C d10_79 rfl rfl ?_
                        refine W.icmp (q := 88) (q' := 84) X0 C d10_81 (by decide) (by decide) rfl (fun hc47 => ?_) (fun hc47 => ?_)
                        · replace hc47 : p0 = (13 : Int32) := hc47
                          have hc47t : p0.toInt = 13 := congrArg Int32.toInt hc47
                          refine W.iconst (q := 89) (v := 0) X0 C d10_88 rfl rfl ?_
                          exact W.retN X0 C (by simp) e0 d10_89 rfl (by decide) (by decide) ⟨congrArg (fun z => some (Value.int z)) (show _ = own_non p0 by rw [own_non, if_pos (by omega)]; rfl), N0, rfl⟩
                        · replace hc47 : p0 ≠ (13 : Int32) := hc47
                          have hc47t : p0.toInt ≠ 13 := fun q => hc47 (Int32.toInt_inj.mp q)
                          refine W.iconst (q := 85) (v := 1) X0 C d10_84 rfl rfl ?_
                          refine W.goto (q := 89) X0 C d10_85 (by decide) (by decide) ?_
                          exact W.retN X0 C (by simp) e0 d10_89 rfl (by decide) (by decide) ⟨congrArg (fun z => some (Value.int z)) (show _ = own_non p0 by rw [own_non, if_neg (by omega)]; rfl), N0, rfl⟩
          · replace hc40 : p0.toInt ≤ 57 := hc40
            refine W.iconst (q := 41) (v := 0) X0 C d10_40 rfl rfl ?_
            exact W.retN X0 C (by simp) e0 d10_41 rfl (by decide) (by decide) ⟨congrArg (fun z => some (Value.int z)) (show _ = own_non p0 by rw [own_non, if_pos (by omega)]; rfl), N0, rfl⟩
      · replace hc31 : p0.toInt ≤ 122 := hc31
        refine W.iconst (q := 27) (v := 0) X0 C d10_26 rfl rfl ?_
        exact W.retN X0 C (by simp) e0 d10_27 rfl (by decide) (by decide) ⟨congrArg (fun z => some (Value.int z)) (show _ = own_non p0 by rw [own_non, if_pos (by omega)]; rfl), N0, rfl⟩
  · replace hc13 : 65 ≤ p0.toInt := hc13
    refine W.iloadN (q := 7) X0 C d10_6 rfl rfl ?_
    refine W.bipush (q := 9) (v := 90) X0 C d10_7 rfl rfl ?_
    refine W.icmp (q := 14) (q' := 12) X0 C d10_9 (by decide) (by decide) rfl (fun hc48 => ?_) (fun hc48 => ?_)
    · replace hc48 : 90 < p0.toInt := hc48
      refine W.iloadN (q := 15) X0 C d10_14 rfl rfl ?_
      refine W.bipush (q := 17) (v := 97) X0 C d10_15 rfl rfl ?_
      refine W.icmp (q := 28) (q' := 20) X0 C d10_17 (by decide) (by decide) rfl (fun hc49 => ?_) (fun hc49 => ?_)
      · replace hc49 : p0.toInt < 97 := hc49
        refine W.iloadN (q := 29) X0 C d10_28 rfl rfl ?_
        refine W.bipush (q := 31) (v := 48) X0 C d10_29 rfl rfl ?_
        refine W.icmp (q := 42) (q' := 34) X0 C d10_31 (by decide) (by decide) rfl (fun hc50 => ?_) (fun hc50 => ?_)
        · replace hc50 : p0.toInt < 48 := hc50
          refine W.iloadN (q := 43) X0 C d10_42 rfl rfl ?_
          refine W.bipush (q := 45) (v := 43) X0 C d10_43 rfl rfl ?_
          refine W.icmp (q := 88) (q' := 48) X0 C d10_45 (by decide) (by decide) rfl (fun hc51 => ?_) (fun hc51 => ?_)
          · replace hc51 : p0 = (43 : Int32) := hc51
            have hc51t : p0.toInt = 43 := congrArg Int32.toInt hc51
            refine W.iconst (q := 89) (v := 0) X0 C d10_88 rfl rfl ?_
            exact W.retN X0 C (by simp) e0 d10_89 rfl (by decide) (by decide) ⟨congrArg (fun z => some (Value.int z)) (show _ = own_non p0 by rw [own_non, if_pos (by omega)]; rfl), N0, rfl⟩
          · replace hc51 : p0 ≠ (43 : Int32) := hc51
            have hc51t : p0.toInt ≠ 43 := fun q => hc51 (Int32.toInt_inj.mp q)
            refine W.iloadN (q := 49) X0 C d10_48 rfl rfl ?_
            refine W.bipush (q := 51) (v := 47) X0 C d10_49 rfl rfl ?_
            refine W.icmp (q := 88) (q' := 54) X0 C d10_51 (by decide) (by decide) rfl (fun hc52 => ?_) (fun hc52 => ?_)
            · replace hc52 : p0 = (47 : Int32) := hc52
              have hc52t : p0.toInt = 47 := congrArg Int32.toInt hc52
              refine W.iconst (q := 89) (v := 0) X0 C d10_88 rfl rfl ?_
              exact W.retN X0 C (by simp) e0 d10_89 rfl (by decide) (by decide) ⟨congrArg (fun z => some (Value.int z)) (show _ = own_non p0 by rw [own_non, if_pos (by omega)]; rfl), N0, rfl⟩
            · replace hc52 : p0 ≠ (47 : Int32) := hc52
              have hc52t : p0.toInt ≠ 47 := fun q => hc52 (Int32.toInt_inj.mp q)
              refine W.iloadN (q := 55) X0 C d10_54 rfl rfl ?_
              refine W.bipush (q := 57) (v := 61) X0 C d10_55 rfl rfl ?_
              refine W.icmp (q := 88) (q' := 60) X0 C d10_57 (by decide) (by decide) rfl (fun hc53 => ?_) (fun hc53 => ?_)
              · replace hc53 : p0 = (61 : Int32) := hc53
                have hc53t : p0.toInt = 61 := congrArg Int32.toInt hc53
                refine W.iconst (q := 89) (v := 0) X0 C d10_88 rfl rfl ?_
                exact W.retN X0 C (by simp) e0 d10_89 rfl (by decide) (by decide) ⟨congrArg (fun z => some (Value.int z)) (show _ = own_non p0 by rw [own_non, if_pos (by omega)]; rfl), N0, rfl⟩
              · replace hc53 : p0 ≠ (61 : Int32) := hc53
                have hc53t : p0.toInt ≠ 61 := fun q => hc53 (Int32.toInt_inj.mp q)
                refine W.iloadN (q := 61) X0 C d10_60 rfl rfl ?_
                refine W.bipush (q := 63) (v := 32) X0 C d10_61 rfl rfl ?_
                refine W.icmp (q := 88) (q' := 66) X0 C d10_63 (by decide) (by decide) rfl (fun hc54 => ?_) (fun hc54 => ?_)
                · replace hc54 : p0 = (32 : Int32) := hc54
                  have hc54t : p0.toInt = 32 := congrArg Int32.toInt hc54
                  refine W.iconst (q := 89) (v := 0) X0 C d10_88 rfl rfl ?_
                  exact W.retN X0 C (by simp) e0 d10_89 rfl (by decide) (by decide) ⟨congrArg (fun z => some (Value.int z)) (show _ = own_non p0 by rw [own_non, if_pos (by omega)]; rfl), N0, rfl⟩
                · replace hc54 : p0 ≠ (32 : Int32) := hc54
                  have hc54t : p0.toInt ≠ 32 := fun q => hc54 (Int32.toInt_inj.mp q)
                  refine W.iloadN (q := 67) X0 C d10_66 rfl rfl ?_
                  refine W.bipush (q := 69) (v := 9) X0 C d10_67 rfl rfl ?_
                  refine W.icmp (q := 88) (q' := 72) X0 C d10_69 (by decide) (by decide) rfl (fun hc55 => ?_) (fun hc55 => ?_)
                  · replace hc55 : p0 = (9 : Int32) := hc55
                    have hc55t : p0.toInt = 9 := congrArg Int32.toInt hc55
                    refine W.iconst (q := 89) (v := 0) X0 C d10_88 rfl rfl ?_
                    exact W.retN X0 C (by simp) e0 d10_89 rfl (by decide) (by decide) ⟨congrArg (fun z => some (Value.int z)) (show _ = own_non p0 by rw [own_non, if_pos (by omega)]; rfl), N0, rfl⟩
                  · replace hc55 : p0 ≠ (9 : Int32) := hc55
                    have hc55t : p0.toInt ≠ 9 := fun q => hc55 (Int32.toInt_inj.mp q)
                    refine W.iloadN (q := 73) X0 C d10_72 rfl rfl ?_
                    refine W.bipush (q := 75) (v := 10) X0 C d10_73 rfl rfl ?_
                    refine W.icmp (q := 88) (q' := 78) X0 C d10_75 (by decide) (by decide) rfl (fun hc56 => ?_) (fun hc56 => ?_)
                    · replace hc56 : p0 = (10 : Int32) := hc56
                      have hc56t : p0.toInt = 10 := congrArg Int32.toInt hc56
                      refine W.iconst (q := 89) (v := 0) X0 C d10_88 rfl rfl ?_
                      exact W.retN X0 C (by simp) e0 d10_89 rfl (by decide) (by decide) ⟨congrArg (fun z => some (Value.int z)) (show _ = own_non p0 by rw [own_non, if_pos (by omega)]; rfl), N0, rfl⟩
                    · replace hc56 : p0 ≠ (10 : Int32) := hc56
                      have hc56t : p0.toInt ≠ 10 := fun q => hc56 (Int32.toInt_inj.mp q)
                      refine W.iloadN (q := 79) X0 C d10_78 rfl rfl ?_
                      refine W.bipush (q := 81) (v := 13) X0 C d10_79 rfl rfl ?_
                      refine W.icmp (q := 88) (q' := 84) X0 C d10_81 (by decide) (by decide) rfl (fun hc57 => ?_) (fun hc57 => ?_)
                      · replace hc57 : p0 = (13 : Int32) := hc57
                        have hc57t : p0.toInt = 13 := congrArg Int32.toInt hc57
                        refine W.iconst (q := 89) (v := 0) X0 C d10_88 rfl rfl ?_
                        exact W.retN X0 C (by simp) e0 d10_89 rfl (by decide) (by decide) ⟨congrArg (fun z => some (Value.int z)) (show _ = own_non p0 by rw [own_non, if_pos (by omega)]; rfl), N0, rfl⟩
                      · replace hc57 : p0 ≠ (13 : Int32) := hc57
                        have hc57t : p0.toInt ≠ 13 := fun q => hc57 (Int32.toInt_inj.mp q)
                        refine W.iconst (q := 85) (v := 1) X0 C d10_84 rfl rfl ?_
                        refine W.goto (q := 89) X0 C d10_85 (by decide) (by decide) ?_
                        exact W.retN X0 C (by simp) e0 d10_89 rfl (by decide) (by decide) ⟨congrArg (fun z => some (Value.int z)) (show _ = own_non p0 by rw [own_non, if_neg (by omega)]; rfl), N0, rfl⟩
        · replace hc50 : 48 ≤ p0.toInt := hc50
          refine W.iloadN (q := 35) X0 C d10_34 rfl rfl ?_
          refine W.bipush (q := 37) (v := 57) X0 C d10_35 rfl rfl ?_
          refine W.icmp (q := 42) (q' := 40) X0 C d10_37 (by decide) (by decide) rfl (fun hc58 => ?_) (fun hc58 => ?_)
          · replace hc58 : 57 < p0.toInt := hc58
            refine W.iloadN (q := 43) X0 C d10_42 rfl rfl ?_
            refine W.bipush (q := 45) (v := 43) X0 C d10_43 rfl rfl ?_
            refine W.icmp (q := 88) (q' := 48) X0 C d10_45 (by decide) (by decide) rfl (fun hc59 => ?_) (fun hc59 => ?_)
            · replace hc59 : p0 = (43 : Int32) := hc59
              have hc59t : p0.toInt = 43 := congrArg Int32.toInt hc59
              refine W.iconst (q := 89) (v := 0) X0 C d10_88 rfl rfl ?_
              exact W.retN X0 C (by simp) e0 d10_89 rfl (by decide) (by decide) ⟨congrArg (fun z => some (Value.int z)) (show _ = own_non p0 by rw [own_non, if_pos (by omega)]; rfl), N0, rfl⟩
            · replace hc59 : p0 ≠ (43 : Int32) := hc59
              have hc59t : p0.toInt ≠ 43 := fun q => hc59 (Int32.toInt_inj.mp q)
              refine W.iloadN (q := 49) X0 C d10_48 rfl rfl ?_
              refine W.bipush (q := 51) (v := 47) X0 C d10_49 rfl rfl ?_
              refine W.icmp (q := 88) (q' := 54) X0 C d10_51 (by decide) (by decide) rfl (fun hc60 => ?_) (fun hc60 => ?_)
              · replace hc60 : p0 = (47 : Int32) := hc60
                have hc60t : p0.toInt = 47 := congrArg Int32.toInt hc60
                refine W.iconst (q := 89) (v := 0) X0 C d10_88 rfl rfl ?_
                exact W.retN X0 C (by simp) e0 d10_89 rfl (by decide) (by decide) ⟨congrArg (fun z => some (Value.int z)) (show _ = own_non p0 by rw [own_non, if_pos (by omega)]; rfl), N0, rfl⟩
              · replace hc60 : p0 ≠ (47 : Int32) := hc60
                have hc60t : p0.toInt ≠ 47 := fun q => hc60 (Int32.toInt_inj.mp q)
                refine W.iloadN (q := 55) X0 C d10_54 rfl rfl ?_
                refine W.bipush (q := 57) (v := 61) X0 C d10_55 rfl rfl ?_
                refine W.icmp (q := 88) (q' := 60) X0 C d10_57 (by decide) (by decide) rfl (fun hc61 => ?_) (fun hc61 => ?_)
                · replace hc61 : p0 = (61 : Int32) := hc61
                  have hc61t : p0.toInt = 61 := congrArg Int32.toInt hc61
                  refine W.iconst (q := 89) (v := 0) X0 C d10_88 rfl rfl ?_
                  exact W.retN X0 C (by simp) e0 d10_89 rfl (by decide) (by decide) ⟨congrArg (fun z => some (Value.int z)) (show _ = own_non p0 by rw [own_non, if_pos (by omega)]; rfl), N0, rfl⟩
                · replace hc61 : p0 ≠ (61 : Int32) := hc61
                  have hc61t : p0.toInt ≠ 61 := fun q => hc61 (Int32.toInt_inj.mp q)
                  refine W.iloadN (q := 61) X0 C d10_60 rfl rfl ?_
                  refine W.bipush (q := 63) (v := 32) X0 C d10_61 rfl rfl ?_
                  refine W.icmp (q := 88) (q' := 66) X0 C d10_63 (by decide) (by decide) rfl (fun hc62 => ?_) (fun hc62 => ?_)
                  · replace hc62 : p0 = (32 : Int32) := hc62
                    have hc62t : p0.toInt = 32 := congrArg Int32.toInt hc62
                    refine W.iconst (q := 89) (v := 0) X0 C d10_88 rfl rfl ?_
                    exact W.retN X0 C (by simp) e0 d10_89 rfl (by decide) (by decide) ⟨congrArg (fun z => some (Value.int z)) (show _ = own_non p0 by rw [own_non, if_pos (by omega)]; rfl), N0, rfl⟩
                  · replace hc62 : p0 ≠ (32 : Int32) := hc62
                    have hc62t : p0.toInt ≠ 32 := fun q => hc62 (Int32.toInt_inj.mp q)
                    refine W.iloadN (q := 67) X0 C d10_66 rfl rfl ?_
                    refine W.bipush (q := 69) (v := 9) X0 C d10_67 rfl rfl ?_
                    refine W.icmp (q := 88) (q' := 72) X0 C d10_69 (by decide) (by decide) rfl (fun hc63 => ?_) (fun hc63 => ?_)
                    · replace hc63 : p0 = (9 : Int32) := hc63
                      have hc63t : p0.toInt = 9 := congrArg Int32.toInt hc63
                      refine W.iconst (q := 89) (v := 0) X0 C d10_88 rfl rfl ?_
                      exact W.retN X0 C (by simp) e0 d10_89 rfl (by decide) (by decide) ⟨congrArg (fun z => some (Value.int z)) (show _ = own_non p0 by rw [own_non, if_pos (by omega)]; rfl), N0, rfl⟩
                    · replace hc63 : p0 ≠ (9 : Int32) := hc63
                      have hc63t : p0.toInt ≠ 9 := fun q => hc63 (Int32.toInt_inj.mp q)
                      refine W.iloadN (q := 73) X0 C d10_72 rfl rfl ?_
                      refine W.bipush (q := 75) (v := 10) X0 C d10_73 rfl rfl ?_
                      refine W.icmp (q := 88) (q' := 78) X0 C d10_75 (by decide) (by decide) rfl (fun hc64 => ?_) (fun hc64 => ?_)
                      · replace hc64 : p0 = (10 : Int32) := hc64
                        have hc64t : p0.toInt = 10 := congrArg Int32.toInt hc64
                        refine W.iconst (q := 89) (v := 0) X0 C d10_88 rfl rfl ?_
                        exact W.retN X0 C (by simp) e0 d10_89 rfl (by decide) (by decide) ⟨congrArg (fun z => some (Value.int z)) (show _ = own_non p0 by rw [own_non, if_pos (by omega)]; rfl), N0, rfl⟩
                      · replace hc64 : p0 ≠ (10 : Int32) := hc64
                        have hc64t : p0.toInt ≠ 10 := fun q => hc64 (Int32.toInt_inj.mp q)
                        refine W.iloadN (q := 79) X0 C d10_78 rfl rfl ?_
                        refine W.bipush (q := 81) (v := 13) X0 C d10_79 rfl rfl ?_
                        refine W.icmp (q := 88) (q' := 84) X0 C d10_81 (by decide) (by decide) rfl (fun hc65 => ?_) (fun hc65 => ?_)
                        · replace hc65 : p0 = (13 : Int32) := hc65
                          have hc65t : p0.toInt = 13 := congrArg Int32.toInt hc65
                          refine W.iconst (q := 89) (v := 0) X0 C d10_88 rfl rfl ?_
                          exact W.retN X0 C (by simp) e0 d10_89 rfl (by decide) (by decide) ⟨congrArg (fun z => some (Value.int z)) (show _ = own_non p0 by rw [own_non, if_pos (by omega)]; rfl), N0, rfl⟩
                        · replace hc65 : p0 ≠ (13 : Int32) := hc65
                          have hc65t : p0.toInt ≠ 13 := fun q => hc65 (Int32.toInt_inj.mp q)
                          refine W.iconst (q := 85) (v := 1) X0 C d10_84 rfl rfl ?_
                          refine W.goto (q := 89) X0 C d10_85 (by decide) (by decide) ?_
                          exact W.retN X0 C (by simp) e0 d10_89 rfl (by decide) (by decide) ⟨congrArg (fun z => some (Value.int z)) (show _ = own_non p0 by rw [own_non, if_neg (by omega)]; rfl), N0, rfl⟩
          · replace hc58 : p0.toInt ≤ 57 := hc58
            refine W.iconst (q := 41) (v := 0) X0 C d10_40 rfl rfl ?_
            exact W.retN X0 C (by simp) e0 d10_41 rfl (by decide) (by decide) ⟨congrArg (fun z => some (Value.int z)) (show _ = own_non p0 by rw [own_non, if_pos (by omega)]; rfl), N0, rfl⟩
      · replace hc49 : 97 ≤ p0.toInt := hc49
        refine W.iloadN (q := 21) X0 C d10_20 rfl rfl ?_
        refine W.bipush (q := 23) (v := 122) X0 C d10_21 rfl rfl ?_
        refine W.icmp (q := 28) (q' := 26) X0 C d10_23 (by decide) (by decide) rfl (fun hc66 => ?_) (fun hc66 => ?_)
        · replace hc66 : 122 < p0.toInt := hc66
          refine W.iloadN (q := 29) X0 C d10_28 rfl rfl ?_
          refine W.bipush (q := 31) (v := 48) X0 C d10_29 rfl rfl ?_
          refine W.icmp (q := 42) (q' := 34) X0 C d10_31 (by decide) (by decide) rfl (fun hc67 => ?_) (fun hc67 => ?_)
          · replace hc67 : p0.toInt < 48 := hc67
            refine W.iloadN (q := 43) X0 C d10_42 rfl rfl ?_
            refine W.bipush (q := 45) (v := 43) X0 C d10_43 rfl rfl ?_
            refine W.icmp (q := 88) (q' := 48) X0 C d10_45 (by decide) (by decide) rfl (fun hc68 => ?_) (fun hc68 => ?_)
            · replace hc68 : p0 = (43 : Int32) := hc68
              have hc68t : p0.toInt = 43 := congrArg Int32.toInt hc68
              refine W.iconst (q := 89) (v := 0) X0 C d10_88 rfl rfl ?_
              exact W.retN X0 C (by simp) e0 d10_89 rfl (by decide) (by decide) ⟨congrArg (fun z => some (Value.int z)) (show _ = own_non p0 by rw [own_non, if_pos (by omega)]; rfl), N0, rfl⟩
            · replace hc68 : p0 ≠ (43 : Int32) := hc68
              have hc68t : p0.toInt ≠ 43 := fun q => hc68 (Int32.toInt_inj.mp q)
              refine W.iloadN (q := 49) X0 C d10_48 rfl rfl ?_
              refine W.bipush (q := 51) (v := 47) X0 C d10_49 rfl rfl ?_
              refine W.icmp (q := 88) (q' := 54) X0 C d10_51 (by decide) (by decide) rfl (fun hc69 => ?_) (fun hc69 => ?_)
              · replace hc69 : p0 = (47 : Int32) := hc69
                have hc69t : p0.toInt = 47 := congrArg Int32.toInt hc69
                refine W.iconst (q := 89) (v := 0) X0 C d10_88 rfl rfl ?_
                exact W.retN X0 C (by simp) e0 d10_89 rfl (by decide) (by decide) ⟨congrArg (fun z => some (Value.int z)) (show _ = own_non p0 by rw [own_non, if_pos (by omega)]; rfl), N0, rfl⟩
              · replace hc69 : p0 ≠ (47 : Int32) := hc69
                have hc69t : p0.toInt ≠ 47 := fun q => hc69 (Int32.toInt_inj.mp q)
                refine W.iloadN (q := 55) X0 C d10_54 rfl rfl ?_
                refine W.bipush (q := 57) (v := 61) X0 C d10_55 rfl rfl ?_
                refine W.icmp (q := 88) (q' := 60) X0 C d10_57 (by decide) (by decide) rfl (fun hc70 => ?_) (fun hc70 => ?_)
                · replace hc70 : p0 = (61 : Int32) := hc70
                  have hc70t : p0.toInt = 61 := congrArg Int32.toInt hc70
                  refine W.iconst (q := 89) (v := 0) X0 C d10_88 rfl rfl ?_
                  exact W.retN X0 C (by simp) e0 d10_89 rfl (by decide) (by decide) ⟨congrArg (fun z => some (Value.int z)) (show _ = own_non p0 by rw [own_non, if_pos (by omega)]; rfl), N0, rfl⟩
                · replace hc70 : p0 ≠ (61 : Int32) := hc70
                  have hc70t : p0.toInt ≠ 61 := fun q => hc70 (Int32.toInt_inj.mp q)
                  refine W.iloadN (q := 61) X0 C d10_60 rfl rfl ?_
                  refine W.bipush (q := 63) (v := 32) X0 C d10_61 rfl rfl ?_
                  refine W.icmp (q := 88) (q' := 66) X0 C d10_63 (by decide) (by decide) rfl (fun hc71 => ?_) (fun hc71 => ?_)
                  · replace hc71 : p0 = (32 : Int32) := hc71
                    have hc71t : p0.toInt = 32 := congrArg Int32.toInt hc71
                    refine W.iconst (q := 89) (v := 0) X0 C d10_88 rfl rfl ?_
                    exact W.retN X0 C (by simp) e0 d10_89 rfl (by decide) (by decide) ⟨congrArg (fun z => some (Value.int z)) (show _ = own_non p0 by rw [own_non, if_pos (by omega)]; rfl), N0, rfl⟩
                  · replace hc71 : p0 ≠ (32 : Int32) := hc71
                    have hc71t : p0.toInt ≠ 32 := fun q => hc71 (Int32.toInt_inj.mp q)
                    refine W.iloadN (q := 67) X0 C d10_66 rfl rfl ?_
                    refine W.bipush (q := 69) (v := 9) X0 C d10_67 rfl rfl ?_
                    refine W.icmp (q := 88) (q' := 72) X0 C d10_69 (by decide) (by decide) rfl (fun hc72 => ?_) (fun hc72 => ?_)
                    · replace hc72 : p0 = (9 : Int32) := hc72
                      have hc72t : p0.toInt = 9 := congrArg Int32.toInt hc72
                      refine W.iconst (q := 89) (v := 0) X0 C d10_88 rfl rfl ?_
                      exact W.retN X0 C (by simp) e0 d10_89 rfl (by decide) (by decide) ⟨congrArg (fun z => some (Value.int z)) (show _ = own_non p0 by rw [own_non, if_pos (by omega)]; rfl), N0, rfl⟩
                    · replace hc72 : p0 ≠ (9 : Int32) := hc72
                      have hc72t : p0.toInt ≠ 9 := fun q => hc72 (Int32.toInt_inj.mp q)
                      refine W.iloadN (q := 73) X0 C d10_72 rfl rfl ?_
                      refine W.bipush (q := 75) (v := 10) X0 C d10_73 rfl rfl ?_
                      refine W.icmp (q := 88) (q' := 78) X0 C d10_75 (by decide) (by decide) rfl (fun hc73 => ?_) (fun hc73 => ?_)
                      · replace hc73 : p0 = (10 : Int32) := hc73
                        have hc73t : p0.toInt = 10 := congrArg Int32.toInt hc73
                        refine W.iconst (q := 89) (v := 0) X0 C d10_88 rfl rfl ?_
                        exact W.retN X0 C (by simp) e0 d10_89 rfl (by decide) (by decide) ⟨congrArg (fun z => some (Value.int z)) (show _ = own_non p0 by rw [own_non, if_pos (by omega)]; rfl), N0, rfl⟩
                      · replace hc73 : p0 ≠ (10 : Int32) := hc73
                        have hc73t : p0.toInt ≠ 10 := fun q => hc73 (Int32.toInt_inj.mp q)
                        refine W.iloadN (q := 79) X0 C d10_78 rfl rfl ?_
                        refine W.bipush (q := 81) (v := 13) X0 C d10_79 rfl rfl ?_
                        refine W.icmp (q := 88) (q' := 84) X0 C d10_81 (by decide) (by decide) rfl (fun hc74 => ?_) (fun hc74 => ?_)
                        · replace hc74 : p0 = (13 : Int32) := hc74
                          have hc74t : p0.toInt = 13 := congrArg Int32.toInt hc74
                          refine W.iconst (q := 89) (v := 0) X0 C d10_88 rfl rfl ?_
                          exact W.retN X0 C (by simp) e0 d10_89 rfl (by decide) (by decide) ⟨congrArg (fun z => some (Value.int z)) (show _ = own_non p0 by rw [own_non, if_pos (by omega)]; rfl), N0, rfl⟩
                        · replace hc74 : p0 ≠ (13 : Int32) := hc74
                          have hc74t : p0.toInt ≠ 13 := fun q => hc74 (Int32.toInt_inj.mp q)
                          refine W.iconst (q := 85) (v := 1) X0 C d10_84 rfl rfl ?_
                          refine W.goto (q := 89) X0 C d10_85 (by decide) (by decide) ?_
                          exact W.retN X0 C (by simp) e0 d10_89 rfl (by decide) (by decide) ⟨congrArg (fun z => some (Value.int z)) (show _ = own_non p0 by rw [own_non, if_neg (by omega)]; rfl), N0, rfl⟩
          · replace hc67 : 48 ≤ p0.toInt := hc67
            refine W.iloadN (q := 35) X0 C d10_34 rfl rfl ?_
            refine W.bipush (q := 37) (v := 57) X0 C d10_35 rfl rfl ?_
            refine W.icmp (q := 42) (q' := 40) X0 C d10_37 (by decide) (by decide) rfl (fun hc75 => ?_) (fun hc75 => ?_)
            · replace hc75 : 57 < p0.toInt := hc75
              refine W.iloadN (q := 43) X0 C d10_42 rfl rfl ?_
              refine W.bipush (q := 45) (v := 43) X0 C d10_43 rfl rfl ?_
              refine W.icmp (q := 88) (q' := 48) X0 C d10_45 (by decide) (by decide) rfl (fun hc76 => ?_) (fun hc76 => ?_)
              · replace hc76 : p0 = (43 : Int32) := hc76
                have hc76t : p0.toInt = 43 := congrArg Int32.toInt hc76
                refine W.iconst (q := 89) (v := 0) X0 C d10_88 rfl rfl ?_
                exact W.retN X0 C (by simp) e0 d10_89 rfl (by decide) (by decide) ⟨congrArg (fun z => some (Value.int z)) (show _ = own_non p0 by rw [own_non, if_pos (by omega)]; rfl), N0, rfl⟩
              · replace hc76 : p0 ≠ (43 : Int32) := hc76
                have hc76t : p0.toInt ≠ 43 := fun q => hc76 (Int32.toInt_inj.mp q)
                refine W.iloadN (q := 49) X0 C d10_48 rfl rfl ?_
                refine W.bipush (q := 51) (v := 47) X0 C d10_49 rfl rfl ?_
                refine W.icmp (q := 88) (q' := 54) X0 C d10_51 (by decide) (by decide) rfl (fun hc77 => ?_) (fun hc77 => ?_)
                · replace hc77 : p0 = (47 : Int32) := hc77
                  have hc77t : p0.toInt = 47 := congrArg Int32.toInt hc77
                  refine W.iconst (q := 89) (v := 0) X0 C d10_88 rfl rfl ?_
                  exact W.retN X0 C (by simp) e0 d10_89 rfl (by decide) (by decide) ⟨congrArg (fun z => some (Value.int z)) (show _ = own_non p0 by rw [own_non, if_pos (by omega)]; rfl), N0, rfl⟩
                · replace hc77 : p0 ≠ (47 : Int32) := hc77
                  have hc77t : p0.toInt ≠ 47 := fun q => hc77 (Int32.toInt_inj.mp q)
                  refine W.iloadN (q := 55) X0 C d10_54 rfl rfl ?_
                  refine W.bipush (q := 57) (v := 61) X0 C d10_55 rfl rfl ?_
                  refine W.icmp (q := 88) (q' := 60) X0 C d10_57 (by decide) (by decide) rfl (fun hc78 => ?_) (fun hc78 => ?_)
                  · replace hc78 : p0 = (61 : Int32) := hc78
                    have hc78t : p0.toInt = 61 := congrArg Int32.toInt hc78
                    refine W.iconst (q := 89) (v := 0) X0 C d10_88 rfl rfl ?_
                    exact W.retN X0 C (by simp) e0 d10_89 rfl (by decide) (by decide) ⟨congrArg (fun z => some (Value.int z)) (show _ = own_non p0 by rw [own_non, if_pos (by omega)]; rfl), N0, rfl⟩
                  · replace hc78 : p0 ≠ (61 : Int32) := hc78
                    have hc78t : p0.toInt ≠ 61 := fun q => hc78 (Int32.toInt_inj.mp q)
                    refine W.iloadN (q := 61) X0 C d10_60 rfl rfl ?_
                    refine W.bipush (q := 63) (v := 32) X0 C d10_61 rfl rfl ?_
                    refine W.icmp (q := 88) (q' := 66) X0 C d10_63 (by decide) (by decide) rfl (fun hc79 => ?_) (fun hc79 => ?_)
                    · replace hc79 : p0 = (32 : Int32) := hc79
                      have hc79t : p0.toInt = 32 := congrArg Int32.toInt hc79
                      refine W.iconst (q := 89) (v := 0) X0 C d10_88 rfl rfl ?_
                      exact W.retN X0 C (by simp) e0 d10_89 rfl (by decide) (by decide) ⟨congrArg (fun z => some (Value.int z)) (show _ = own_non p0 by rw [own_non, if_pos (by omega)]; rfl), N0, rfl⟩
                    · replace hc79 : p0 ≠ (32 : Int32) := hc79
                      have hc79t : p0.toInt ≠ 32 := fun q => hc79 (Int32.toInt_inj.mp q)
                      refine W.iloadN (q := 67) X0 C d10_66 rfl rfl ?_
                      refine W.bipush (q := 69) (v := 9) X0 C d10_67 rfl rfl ?_
                      refine W.icmp (q := 88) (q' := 72) X0 C d10_69 (by decide) (by decide) rfl (fun hc80 => ?_) (fun hc80 => ?_)
                      · replace hc80 : p0 = (9 : Int32) := hc80
                        have hc80t : p0.toInt = 9 := congrArg Int32.toInt hc80
                        refine W.iconst (q := 89) (v := 0) X0 C d10_88 rfl rfl ?_
                        exact W.retN X0 C (by simp) e0 d10_89 rfl (by decide) (by decide) ⟨congrArg (fun z => some (Value.int z)) (show _ = own_non p0 by rw [own_non, if_pos (by omega)]; rfl), N0, rfl⟩
                      · replace hc80 : p0 ≠ (9 : Int32) := hc80
                        have hc80t : p0.toInt ≠ 9 := fun q => hc80 (Int32.toInt_inj.mp q)
                        refine W.iloadN (q := 73) X0 C d10_72 rfl rfl ?_
                        refine W.bipush (q := 75) (v := 10) X0 C d10_73 rfl rfl ?_
                        refine W.icmp (q := 88) (q' := 78) X0 C d10_75 (by decide) (by decide) rfl (fun hc81 => ?_) (fun hc81 => ?_)
                        · replace hc81 : p0 = (10 : Int32) := hc81
                          have hc81t : p0.toInt = 10 := congrArg Int32.toInt hc81
                          refine W.iconst (q := 89) (v := 0) X0 C d10_88 rfl rfl ?_
                          exact W.retN X0 C (by simp) e0 d10_89 rfl (by decide) (by decide) ⟨congrArg (fun z => some (Value.int z)) (show _ = own_non p0 by rw [own_non, if_pos (by omega)]; rfl), N0, rfl⟩
                        · replace hc81 : p0 ≠ (10 : Int32) := hc81
                          have hc81t : p0.toInt ≠ 10 := fun q => hc81 (Int32.toInt_inj.mp q)
                          refine W.iloadN (q := 79) X0 C d10_78 rfl rfl ?_
                          refine W.bipush (q := 81) (v := 13) X0 C d10_79 rfl rfl ?_
                          refine W.icmp (q := 88) (q' := 84) X0 C d10_81 (by decide) (by decide) rfl (fun hc82 => ?_) (fun hc82 => ?_)
                          · replace hc82 : p0 = (13 : Int32) := hc82
                            have hc82t : p0.toInt = 13 := congrArg Int32.toInt hc82
                            refine W.iconst (q := 89) (v := 0) X0 C d10_88 rfl rfl ?_
                            exact W.retN X0 C (by simp) e0 d10_89 rfl (by decide) (by decide) ⟨congrArg (fun z => some (Value.int z)) (show _ = own_non p0 by rw [own_non, if_pos (by omega)]; rfl), N0, rfl⟩
                          · replace hc82 : p0 ≠ (13 : Int32) := hc82
                            have hc82t : p0.toInt ≠ 13 := fun q => hc82 (Int32.toInt_inj.mp q)
                            refine W.iconst (q := 85) (v := 1) X0 C d10_84 rfl rfl ?_
                            refine W.goto (q := 89) X0 C d10_85 (by decide) (by decide) ?_
                            exact W.retN X0 C (by simp) e0 d10_89 rfl (by decide) (by decide) ⟨congrArg (fun z => some (Value.int z)) (show _ = own_non p0 by rw [own_non, if_neg (by omega)]; rfl), N0, rfl⟩
            · replace hc75 : p0.toInt ≤ 57 := hc75
              refine W.iconst (q := 41) (v := 0) X0 C d10_40 rfl rfl ?_
              exact W.retN X0 C (by simp) e0 d10_41 rfl (by decide) (by decide) ⟨congrArg (fun z => some (Value.int z)) (show _ = own_non p0 by rw [own_non, if_pos (by omega)]; rfl), N0, rfl⟩
        · replace hc66 : p0.toInt ≤ 122 := hc66
          refine W.iconst (q := 27) (v := 0) X0 C d10_26 rfl rfl ?_
          exact W.retN X0 C (by simp) e0 d10_27 rfl (by decide) (by decide) ⟨congrArg (fun z => some (Value.int z)) (show _ = own_non p0 by rw [own_non, if_pos (by omega)]; rfl), N0, rfl⟩
    · replace hc48 : p0.toInt ≤ 90 := hc48
      refine W.iconst (q := 13) (v := 0) X0 C d10_12 rfl rfl ?_
      exact W.retN X0 C (by simp) e0 d10_13 rfl (by decide) (by decide) ⟨congrArg (fun z => some (Value.int z)) (show _ = own_non p0 by rw [own_non, if_pos (by omega)]; rfl), N0, rfl⟩
def own_Tab (vs : List Value) : Prop := ∀ j : Int32, 0 ≤ j.toInt → j.toInt < (128 : Int32).toInt → vs.getD j.toNatClampNeg (.int (0 : Int32)) = .int (own_tb j)
theorem own_hi {c : Int32} (h : (128 : Int32).toInt ≤ c.toInt) : -3 = own_tb c := by
  have k : (128 : Int32).toInt = 128 := rfl
  rw [k] at h
  unfold own_tb
  rw [if_neg (by omega), if_neg (by omega), if_neg (by omega), if_neg (by omega), if_neg (by omega), if_neg (by omega), if_neg (by omega)]
theorem d7_0 : decode prog_3_method_2_code 0 = .ok (.iload_n 0, 1) := by decide +kernel
theorem d7_1 : decode prog_3_method_2_code 1 = .ok (.getstatic 7, 3) := by decide +kernel
theorem d7_4 : decode prog_3_method_2_code 4 = .ok (.arraylength, 1) := by decide +kernel
theorem d7_5 : decode prog_3_method_2_code 5 = .ok (.if_icmp .ge 11, 3) := by decide +kernel
theorem d7_16 : decode prog_3_method_2_code 16 = .ok (.bipush (-3), 2) := by decide +kernel
theorem d7_18 : decode prog_3_method_2_code 18 = .ok (.ireturn, 1) := by decide +kernel
theorem d7_8 : decode prog_3_method_2_code 8 = .ok (.getstatic 7, 3) := by decide +kernel
theorem d7_11 : decode prog_3_method_2_code 11 = .ok (.iload_n 0, 1) := by decide +kernel
theorem d7_12 : decode prog_3_method_2_code 12 = .ok (.baload, 1) := by decide +kernel
theorem d7_13 : decode prog_3_method_2_code 13 = .ok (.goto 5, 3) := by decide +kernel
theorem pn_com_example_fedlint_fedlint_Base64Binary : plainName "com/example/fedlint/fedlint/Base64Binary" = true := by first | (simp [plainName, overriddenIn]; done) | decide +kernel
def Q7 (Z : State) (p0 : Int32) (sxa : Addr) (kx : ClassId) (vsx : List Value) (h0 : Heap) (n0 : Nat) (v : Option Value) (h : Heap) (L : List Loc) : Prop := v = some (.int (own_tb p0)) ∧ Fr n0 L ∧ h = h0
set_option maxRecDepth 65536 in
set_option maxHeartbeats 40000000 in
theorem rm7 (l : Launch) (Z : State) (a0 : Array Value) (hw : ∀ d ∈ tables_1, d.before a0 Z = true) (ws : List Jvm.Cond) (p0 : Int32) (sxa : Addr) (kx : ClassId) (vsx : List Value) (h0 : Heap) (n0 : Nat) (S0 : Sta Z h0 "com/example/fedlint/fedlint/Base64Binary" "SEXTETS" "[B" (.ref sxa)) (V0 : Arv Z h0 sxa kx .byte (128 : Int32) vsx (.int (0 : Int32))) (hTab : own_Tab vsx) (hp0 : 0 ≤ p0.toInt) :
    MetFree l (⟨"com/example/fedlint/fedlint/Base64Binary", "sextet", "(C)I"⟩ : MethodName) (head1 (Jvm.Cond.code (⟨"com/example/fedlint/fedlint/Base64Binary", "sextet", "(C)I"⟩ : MethodName) prog_3_method_2_code 1 (some .int) :: ws) ({ frames := 0, cells := 0, slots := 0, locals := 0 } : Room)) (fun a U => a = #[(.int p0)] ∧ Z.Warmed39 U.vm ∧ U.heap = h0) (fun _ _ _ _ _ => True) (fun _ U o U' => ∃ v L, o = .returned v ∧ Q7 Z p0 sxa kx vsx h0 n0 v U'.heap L ∧ FrameEnd U o U' L ({ frames := 0, cells := 0, slots := 0, locals := 0 } : Room).cells ({ frames := 0, cells := 0, slots := 0, locals := 0 } : Room).slots) := by
  refine W.bodyOf (y := (⟨"com/example/fedlint/fedlint/Base64Binary", "sextet", "(C)I"⟩ : MethodName)) (as := #[(.int p0)]) (maxL := 1) (Q := Q7 Z p0 sxa kx vsx h0 n0) (Ls := #[.val (.int p0)]) (plainFor_of_name pn_com_example_fedlint_fedlint_Base64Binary) (fun m => by first | exact W.entry_of rfl | rfl | (simp [entryFrame, mkF, argsToLocals, Value.category]; done)) ?_
  intro p e s m below meth c T0 C X0 e0
  have N0 := Fr.nil n0
  refine W.iloadN (q := 1) X0 C d7_0 rfl rfl ?_
  refine W.getS (q := 4) X0 C (W.ww hw 40 rfl) Via.refl e0 S0 d7_1 rfl (fun T83 X83 e83 => ?_)
  refine W.arraylength (q := 5) X83 C e83 V0 d7_4 rfl ?_
  refine W.icmp (q := 16) (q' := 8) X83 C d7_5 (by decide) (by decide) rfl (fun hc84 => ?_) (fun hc84 => ?_)
  · replace hc84 : (128 : Int32).toInt ≤ p0.toInt := hc84
    refine W.bipush (q := 18) (v := (-3)) X83 C d7_16 rfl rfl ?_
    exact W.retI X83 C e83 d7_18 (by decide) (by decide) ⟨congrArg (fun z => some (Value.int z)) (own_hi hc84), N0, rfl⟩
  · replace hc84 : p0.toInt < (128 : Int32).toInt := hc84
    refine W.getS (q := 11) X83 C (W.ww hw 40 rfl) Via.refl e83 S0 d7_8 rfl (fun T85 X85 e85 => ?_)
    refine W.iloadN (q := 12) X85 C d7_11 rfl rfl ?_
    refine W.baload (q := 13) X85 C e85 V0 hp0 hc84 (hTab _ hp0 hc84) d7_12 rfl ?_
    refine W.goto (q := 18) X85 C d7_13 (by decide) (by decide) ?_
    exact W.retI X85 C e85 d7_18 (by decide) (by decide) ⟨rfl, N0, rfl⟩
theorem d4_0 : decode prog_85_method_1_code 0 = .ok (.aload_n 0, 1) := by decide +kernel
theorem d4_1 : decode prog_85_method_1_code 1 = .ok (.invokespecial 1, 3) := by decide +kernel
theorem d4_4 : decode prog_85_method_1_code 4 = .ok (.return_, 1) := by decide +kernel
theorem pn_com_example_fedlint_fedlint_SimpleValues_Base64Check : plainName "com/example/fedlint/fedlint/SimpleValues$Base64Check" = true := by first | (simp [plainName, overriddenIn]; done) | decide +kernel
def Q4 (Z : State) (p0 : Addr) (h0 : Heap) (n0 : Nat) (v : Option Value) (h : Heap) (L : List Loc) : Prop := v = none ∧ Fr n0 L ∧ h = h0
set_option maxRecDepth 65536 in
set_option maxHeartbeats 40000000 in
theorem rm4 (l : Launch) (Z : State) (a0 : Array Value) (hw : ∀ d ∈ tables_1, d.before a0 Z = true) (ws : List Jvm.Cond) (p0 : Addr) (h0 : Heap) (n0 : Nat) :
    MetFree l (⟨"com/example/fedlint/fedlint/SimpleValues$Base64Check", "<init>", "()V"⟩ : MethodName) (head1 (Jvm.Cond.code (⟨"com/example/fedlint/fedlint/SimpleValues$Base64Check", "<init>", "()V"⟩ : MethodName) prog_85_method_1_code 1 none :: ws) ({ frames := 1, cells := 0, slots := 0, locals := 12 } : Room)) (fun a U => a = #[(.ref p0)] ∧ Z.Warmed39 U.vm ∧ U.heap = h0) (fun _ _ _ _ _ => True) (fun _ U o U' => ∃ v L, o = .returned v ∧ Q4 Z p0 h0 n0 v U'.heap L ∧ FrameEnd U o U' L ({ frames := 1, cells := 0, slots := 0, locals := 12 } : Room).cells ({ frames := 1, cells := 0, slots := 0, locals := 12 } : Room).slots) := by
  refine W.bodyOf (y := (⟨"com/example/fedlint/fedlint/SimpleValues$Base64Check", "<init>", "()V"⟩ : MethodName)) (as := #[(.ref p0)]) (maxL := 1) (Q := Q4 Z p0 h0 n0) (Ls := #[.val (.ref p0)]) (plainFor_of_name pn_com_example_fedlint_fedlint_SimpleValues_Base64Check) (fun m => by first | exact W.entry_of rfl | rfl | (simp [entryFrame, mkF, argsToLocals, Value.category]; done)) ?_
  intro p e s m below meth c T0 C X0 e0
  have N0 := Fr.nil n0
  refine W.aloadN (q := 1) X0 C d4_0 rfl rfl rfl ?_
  refine W.initObj (q := 4) X0 C (W.ww hw 20 rfl) (W.ww hw 21 rfl) (W.ww hw 22 rfl) e0 d4_1 rfl (by decide) (Nat.le_of_ble_eq_true rfl) rfl (fun T86 X86 e86 => ?_)
  exact W.retV X86 C e86 d4_4 (by decide) (by decide) ⟨rfl, N0, rfl⟩
def own_vs (l : List Int32) : List Value := l.map Value.int
def own_okc (l : List Int32) : Prop := l.length = 12 ∧ ∀ x ∈ l, own_r16 x
def own_in (j : Int32) : Prop := 0 ≤ j.toInt ∧ j.toInt < (12 : Int32).toInt
theorem own_i12 : (12 : Int32).toInt = 12 := rfl
theorem own_nat {j : Int32} (h : own_in j) : j.toNatClampNeg < 12 := by
  obtain ⟨h1, h2⟩ := h
  rw [own_i12] at h2
  simp only [Int32.toNatClampNeg]; omega
theorem own_len {l : List Int32} {j : Int32} (h : own_okc l) (hj : own_in j) : j.toNatClampNeg < (own_vs l).length := by
  rw [own_vs, List.length_map, h.1]; exact own_nat hj
theorem own_get {l : List Int32} {j : Int32} (h : own_okc l) (hj : own_in j) : (own_vs l).getD j.toNatClampNeg (.int (0 : Int32)) = .int (l.getD j.toNatClampNeg 0) := by
  have q : j.toNatClampNeg < l.length := by rw [h.1]; exact own_nat hj
  simp [own_vs, List.getD, q]
theorem own_g16 {l : List Int32} {i : Nat} (h : own_okc l) (hi : i < 12) : own_r16 (l.getD i 0) := by
  have q : i < l.length := by rw [h.1]; exact hi
  have e : l.getD i 0 = l[i] := by simp [List.getD, q]
  rw [e]; exact h.2 _ (List.getElem_mem q)
theorem own_set (l : List Int32) (j x : Int32) : (own_vs l).set j.toNatClampNeg (.int x) = own_vs (l.set j.toNatClampNeg x) := by simp [own_vs, List.map_set]
theorem own_s_ok {l : List Int32} {i : Nat} {x : Int32} (h : own_okc l) (hx : own_r16 x) : own_okc (l.set i x) := by
  refine ⟨by rw [List.length_set]; exact h.1, fun y hy => ?_⟩
  rcases List.mem_or_eq_of_mem_set hy with q | q
  · exact h.2 y q
  · rw [q]; exact hx
theorem own_inc {i v : Int32} (h : own_in i) (e : i + (1 : Int32) = v) : v.toInt = i.toInt + 1 ∧ v.toNatClampNeg = i.toNatClampNeg + 1 := by
  have a1 := c_iadd i 1
  have k1 : (1 : Int32).toInt = 1 := rfl
  obtain ⟨h1, h2⟩ := h
  rw [own_i12] at h2
  rw [e, k1] at a1
  have r := rng32 v
  have q : v.toInt = i.toInt + 1 := by omega
  refine ⟨q, ?_⟩
  simp only [Int32.toNatClampNeg, q]; omega
theorem own_01 {P : Prop} [Decidable P] : (if P then (1 : Int32) else 0) = 0 ∨ (if P then (1 : Int32) else 0) = 1 := by split <;> simp
theorem d6_27 : decode prog_85_method_3_code 27 = .ok (.iload 8, 2) := by decide +kernel
theorem d6_29 : decode prog_85_method_3_code 29 = .ok (.iload_n 2, 1) := by decide +kernel
theorem d6_30 : decode prog_85_method_3_code 30 = .ok (.iload_n 3, 1) := by decide +kernel
theorem d6_31 : decode prog_85_method_3_code 31 = .ok (.iadd, 1) := by decide +kernel
theorem d6_32 : decode prog_85_method_3_code 32 = .ok (.if_icmp .ge 79, 3) := by decide +kernel
theorem d6_111 : decode prog_85_method_3_code 111 = .ok (.aload_n 0, 1) := by decide +kernel
theorem d6_112 : decode prog_85_method_3_code 112 = .ok (.iload 4, 2) := by decide +kernel
theorem d6_114 : decode prog_85_method_3_code 114 = .ok (.putfield 7, 3) := by decide +kernel
theorem d6_117 : decode prog_85_method_3_code 117 = .ok (.aload_n 0, 1) := by decide +kernel
theorem d6_118 : decode prog_85_method_3_code 118 = .ok (.iload 5, 2) := by decide +kernel
theorem d6_120 : decode prog_85_method_3_code 120 = .ok (.putfield 13, 3) := by decide +kernel
theorem d6_123 : decode prog_85_method_3_code 123 = .ok (.aload_n 0, 1) := by decide +kernel
theorem d6_124 : decode prog_85_method_3_code 124 = .ok (.iload 6, 2) := by decide +kernel
theorem d6_126 : decode prog_85_method_3_code 126 = .ok (.putfield 16, 3) := by decide +kernel
theorem d6_129 : decode prog_85_method_3_code 129 = .ok (.aload_n 0, 1) := by decide +kernel
theorem d6_130 : decode prog_85_method_3_code 130 = .ok (.iload 7, 2) := by decide +kernel
theorem d6_132 : decode prog_85_method_3_code 132 = .ok (.putfield 19, 3) := by decide +kernel
theorem d6_135 : decode prog_85_method_3_code 135 = .ok (.return_, 1) := by decide +kernel
theorem d6_35 : decode prog_85_method_3_code 35 = .ok (.iload 7, 2) := by decide +kernel
theorem d6_37 : decode prog_85_method_3_code 37 = .ok (.ifCond .ne 74, 3) := by decide +kernel
theorem d6_40 : decode prog_85_method_3_code 40 = .ok (.aload_n 1, 1) := by decide +kernel
theorem d6_41 : decode prog_85_method_3_code 41 = .ok (.iload 8, 2) := by decide +kernel
theorem d6_43 : decode prog_85_method_3_code 43 = .ok (.caload, 1) := by decide +kernel
theorem d6_44 : decode prog_85_method_3_code 44 = .ok (.invokestatic 23, 3) := by decide +kernel
theorem pd__28C_29I : parseMethodDescriptor "(C)I" = some ⟨[.char], some .int⟩ := by decide +kernel
theorem d6_47 : decode prog_85_method_3_code 47 = .ok (.istore 9, 2) := by decide +kernel
theorem d6_49 : decode prog_85_method_3_code 49 = .ok (.iload 9, 2) := by decide +kernel
theorem d6_51 : decode prog_85_method_3_code 51 = .ok (.ifCond .lt 25, 3) := by decide +kernel
theorem d6_76 : decode prog_85_method_3_code 76 = .ok (.iload 9, 2) := by decide +kernel
theorem d6_78 : decode prog_85_method_3_code 78 = .ok (.iconst (-1), 1) := by decide +kernel
theorem d6_79 : decode prog_85_method_3_code 79 = .ok (.if_icmp .ne 12, 3) := by decide +kernel
theorem d6_91 : decode prog_85_method_3_code 91 = .ok (.iload 9, 2) := by decide +kernel
theorem d6_93 : decode prog_85_method_3_code 93 = .ok (.bipush (-3), 2) := by decide +kernel
theorem d6_95 : decode prog_85_method_3_code 95 = .ok (.if_icmp .ne 7, 3) := by decide +kernel
theorem d6_102 : decode prog_85_method_3_code 102 = .ok (.iconst 0, 1) := by decide +kernel
theorem d6_103 : decode prog_85_method_3_code 103 = .ok (.istore 7, 2) := by decide +kernel
theorem d6_105 : decode prog_85_method_3_code 105 = .ok (.iinc 8 1, 3) := by decide +kernel
theorem d6_108 : decode prog_85_method_3_code 108 = .ok (.goto (-81), 3) := by decide +kernel
theorem d6_98 : decode prog_85_method_3_code 98 = .ok (.iconst 1, 1) := by decide +kernel
theorem d6_99 : decode prog_85_method_3_code 99 = .ok (.goto 4, 3) := by decide +kernel
theorem d6_82 : decode prog_85_method_3_code 82 = .ok (.iinc 5 1, 3) := by decide +kernel
theorem d6_85 : decode prog_85_method_3_code 85 = .ok (.iinc 4 1, 3) := by decide +kernel
theorem d6_88 : decode prog_85_method_3_code 88 = .ok (.goto 17, 3) := by decide +kernel
theorem d6_54 : decode prog_85_method_3_code 54 = .ok (.iload 5, 2) := by decide +kernel
theorem d6_56 : decode prog_85_method_3_code 56 = .ok (.ifCond .le 7, 3) := by decide +kernel
theorem d6_63 : decode prog_85_method_3_code 63 = .ok (.iconst 0, 1) := by decide +kernel
theorem d6_64 : decode prog_85_method_3_code 64 = .ok (.istore 7, 2) := by decide +kernel
theorem d6_66 : decode prog_85_method_3_code 66 = .ok (.iload 9, 2) := by decide +kernel
theorem d6_68 : decode prog_85_method_3_code 68 = .ok (.istore 6, 2) := by decide +kernel
theorem d6_70 : decode prog_85_method_3_code 70 = .ok (.iinc 4 1, 3) := by decide +kernel
theorem d6_73 : decode prog_85_method_3_code 73 = .ok (.goto 32, 3) := by decide +kernel
theorem d6_59 : decode prog_85_method_3_code 59 = .ok (.iconst 1, 1) := by decide +kernel
theorem d6_60 : decode prog_85_method_3_code 60 = .ok (.goto 4, 3) := by decide +kernel
set_option maxRecDepth 65536 in
set_option maxHeartbeats 40000000 in
theorem own_loop (l : Launch) (Z : State) (a0 : Array Value) (hw : ∀ d ∈ tables_1, d.before a0 Z = true) (n0 : Nat) (p0 p1 : Addr) (p2 p3 : Int32) (k1 : ClassId) (ls : List Int32) (sxa : Addr) (kx : ClassId) (vsx : List Value) (hge : n0 ≤ p0) (ne1 : p0 ≠ p1) (ne2 : p0 ≠ sxa) (hok : own_okc ls) (hTab : own_Tab vsx) (hU : 0 ≤ (p2 + p3).toInt ∧ (p2 + p3).toInt ≤ 12)
    {p : Program} {e : Env} {s : State} {m : MethodId} {args : Array Value} {below : List Frame} {meth : Method} {c' : Code} (C : W.Cx p s m meth c' Z prog_85_method_3_code 10 "com/example/fedlint/fedlint/SimpleValues$Base64Check" "add" none) (hb : Heap) (rc rp rb rw : Int32) (uc upd ub uw : Int32) :
    ∀ (k : Nat) (h0 : Heap) (i c pd b w : Int32) (s9 : Slot) (T0 : State) (locs : List Loc), Stand p l e ({ frames := 1, cells := 0, slots := 0, locals := 24 } : Room) s m args below meth c' T0 locs 0 0 → T0.heap = h0 → Fr n0 locs → Keep hb h0 [p0] → Exa Z h0 p0 "com/example/fedlint/fedlint/SimpleValues$Base64Check" → Arv Z h0 p1 k1 .char (12 : Int32) (own_vs ls) (.int (0 : Int32)) → Sta Z h0 "com/example/fedlint/fedlint/Base64Binary" "SEXTETS" "[B" (.ref sxa) → Arv Z h0 sxa kx .byte (128 : Int32) vsx (.int (0 : Int32)) →
      Fld Z h0 p0 "com/example/fedlint/fedlint/SimpleValues$Base64Check" "count" "I" (.int uc) → Fld Z h0 p0 "com/example/fedlint/fedlint/SimpleValues$Base64Check" "padding" "I" (.int upd) → Fld Z h0 p0 "com/example/fedlint/fedlint/SimpleValues$Base64Check" "last" "I" (.int ub) → Fld Z h0 p0 "com/example/fedlint/fedlint/SimpleValues$Base64Check" "broken" "Z" (.int uw) → 0 ≤ i.toInt → i.toInt + k = (p2 + p3).toInt → (w = 0 ∨ w = 1) → One s9 → own_run k ls i.toNatClampNeg (c, pd, b, w) = (rc, rp, rb, rw) →
    W.Go p e below (W.Post s (fun v h L => v = none ∧ Fr n0 L ∧ Keep hb h [p0] ∧ Exa Z h p0 "com/example/fedlint/fedlint/SimpleValues$Base64Check" ∧ Fld Z h p0 "com/example/fedlint/fedlint/SimpleValues$Base64Check" "count" "I" (.int rc) ∧ Fld Z h p0 "com/example/fedlint/fedlint/SimpleValues$Base64Check" "padding" "I" (.int rp) ∧ Fld Z h p0 "com/example/fedlint/fedlint/SimpleValues$Base64Check" "last" "I" (.int rb) ∧ Fld Z h p0 "com/example/fedlint/fedlint/SimpleValues$Base64Check" "broken" "Z" (.int rw)) 0 0) (T0.setTop (mkF m 27 #[.val (.ref p0), .val (.ref p1), .val (.int p2), .val (.int p3), .val (.int c), .val (.int pd), .val (.int b), .val (.int w), .val (.int i), s9] [])) := by
  intro k
  induction k with
  | zero =>
    intro h0 i c pd b w s9 T0 locs X0 e0 N0 K0 E0 V0 S0 VX Fc Fpd Fb Fw hi0 hik w01 h9 hr
    refine W.iload (q := 29) X0 C d6_27 rfl rfl ?_
    refine W.iloadN (q := 30) X0 C d6_29 rfl rfl ?_
    refine W.iloadN (q := 31) X0 C d6_30 rfl rfl ?_
    refine W.iadd (q := 32) X0 C d6_31 rfl ?_
    refine W.icmpT (q := 111) X0 C d6_32 (by decide) (by decide) (show (p2 + p3).toInt ≤ i.toInt by omega) ?_
    rw [own_run0] at hr
    obtain ⟨rfl, rfl, rfl, rfl⟩ : c = rc ∧ pd = rp ∧ b = rb ∧ w = rw := by cases hr; exact ⟨rfl, rfl, rfl, rfl⟩
    refine W.aloadN (q := 112) X0 C d6_111 rfl rfl rfl ?_
    refine W.iload (q := 114) X0 C d6_112 rfl rfl ?_
    refine W.putF (host := "") (q := 117) X0 C (Or.inl (W.ww hw 28 rfl)) Via.refl e0 Fc E0 (Or.inl (W.ww hw 29 rfl)) (W.ww hw 15 rfl) (ty := .int) (by decide) rfl rfl d6_114 rfl (fun T179 h179 X179 e179 W179 => ?_)
    have Fw179 := Fc.same W179
    have E0_181 := E0.wr W179
    have V0_182 := V0.other W179 (Ne.symm ne1)
    have S0_183 := S0.wr W179
    have VX_184 := VX.other W179 (Ne.symm ne2)
    have Fpd_186 := Fpd.other W179 (Or.inr (slot_ne (Or.inl (W.ww hw 31 rfl)) (Or.inl (W.ww hw 29 rfl)) (by decide) (t := .int) (t' := .int) (by decide) (by decide)))
    have Fb_187 := Fb.other W179 (Or.inr (slot_ne (Or.inl (W.ww hw 33 rfl)) (Or.inl (W.ww hw 29 rfl)) (by decide) (t := .int) (t' := .int) (by decide) (by decide)))
    have Fw_188 := Fw.other W179 (Or.inr (slot_ne (Or.inl (W.ww hw 35 rfl)) (Or.inl (W.ww hw 29 rfl)) (by decide) (t := .boolean) (t' := .int) (by decide) (by decide)))
    have N179 := Fr.snoc X179 N0 hge
    have K179 := K0.wr W179 (Or.inl (List.mem_singleton.mpr rfl))
    refine W.aloadN (q := 118) X179 C d6_117 rfl rfl rfl ?_
    refine W.iload (q := 120) X179 C d6_118 rfl rfl ?_
    refine W.putF (host := "") (q := 123) X179 C (Or.inl (W.ww hw 30 rfl)) Via.refl e179 Fpd_186 E0_181 (Or.inl (W.ww hw 31 rfl)) (W.ww hw 15 rfl) (ty := .int) (by decide) rfl rfl d6_120 rfl (fun T189 h189 X189 e189 W189 => ?_)
    have Fw189 := Fpd_186.same W189
    have E0_191 := E0_181.wr W189
    have V0_192 := V0_182.other W189 (Ne.symm ne1)
    have S0_193 := S0_183.wr W189
    have VX_194 := VX_184.other W189 (Ne.symm ne2)
    have Fw179_195 := Fw179.other W189 (Or.inr (slot_ne (Or.inl (W.ww hw 29 rfl)) (Or.inl (W.ww hw 31 rfl)) (by decide) (t := .int) (t' := .int) (by decide) (by decide)))
    have Fb_197 := Fb_187.other W189 (Or.inr (slot_ne (Or.inl (W.ww hw 33 rfl)) (Or.inl (W.ww hw 31 rfl)) (by decide) (t := .int) (t' := .int) (by decide) (by decide)))
    have Fw_198 := Fw_188.other W189 (Or.inr (slot_ne (Or.inl (W.ww hw 35 rfl)) (Or.inl (W.ww hw 31 rfl)) (by decide) (t := .boolean) (t' := .int) (by decide) (by decide)))
    have N189 := Fr.snoc X189 N179 hge
    have K189 := K179.wr W189 (Or.inl (List.mem_singleton.mpr rfl))
    refine W.aloadN (q := 124) X189 C d6_123 rfl rfl rfl ?_
    refine W.iload (q := 126) X189 C d6_124 rfl rfl ?_
    refine W.putF (host := "") (q := 129) X189 C (Or.inl (W.ww hw 32 rfl)) Via.refl e189 Fb_197 E0_191 (Or.inl (W.ww hw 33 rfl)) (W.ww hw 15 rfl) (ty := .int) (by decide) rfl rfl d6_126 rfl (fun T199 h199 X199 e199 W199 => ?_)
    have Fw199 := Fb_197.same W199
    have E0_201 := E0_191.wr W199
    have V0_202 := V0_192.other W199 (Ne.symm ne1)
    have S0_203 := S0_193.wr W199
    have VX_204 := VX_194.other W199 (Ne.symm ne2)
    have Fw179_205 := Fw179_195.other W199 (Or.inr (slot_ne (Or.inl (W.ww hw 29 rfl)) (Or.inl (W.ww hw 33 rfl)) (by decide) (t := .int) (t' := .int) (by decide) (by decide)))
    have Fw189_206 := Fw189.other W199 (Or.inr (slot_ne (Or.inl (W.ww hw 31 rfl)) (Or.inl (W.ww hw 33 rfl)) (by decide) (t := .int) (t' := .int) (by decide) (by decide)))
    have Fw_208 := Fw_198.other W199 (Or.inr (slot_ne (Or.inl (W.ww hw 35 rfl)) (Or.inl (W.ww hw 33 rfl)) (by decide) (t := .boolean) (t' := .int) (by decide) (by decide)))
    have N199 := Fr.snoc X199 N189 hge
    have K199 := K189.wr W199 (Or.inl (List.mem_singleton.mpr rfl))
    refine W.aloadN (q := 130) X199 C d6_129 rfl rfl rfl ?_
    refine W.iload (q := 132) X199 C d6_130 rfl rfl ?_
    refine W.putF (host := "") (q := 135) X199 C (Or.inl (W.ww hw 34 rfl)) Via.refl e199 Fw_208 E0_201 (Or.inl (W.ww hw 35 rfl)) (W.ww hw 15 rfl) (ty := .boolean) (by decide) (W.narZ w01) (W.fitZ w01) d6_132 rfl (fun T209 h209 X209 e209 W209 => ?_)
    have Fw209 := Fw_208.same W209
    have E0_211 := E0_201.wr W209
    have V0_212 := V0_202.other W209 (Ne.symm ne1)
    have S0_213 := S0_203.wr W209
    have VX_214 := VX_204.other W209 (Ne.symm ne2)
    have Fw179_215 := Fw179_205.other W209 (Or.inr (slot_ne (Or.inl (W.ww hw 29 rfl)) (Or.inl (W.ww hw 35 rfl)) (by decide) (t := .int) (t' := .boolean) (by decide) (by decide)))
    have Fw189_216 := Fw189_206.other W209 (Or.inr (slot_ne (Or.inl (W.ww hw 31 rfl)) (Or.inl (W.ww hw 35 rfl)) (by decide) (t := .int) (t' := .boolean) (by decide) (by decide)))
    have Fw199_217 := Fw199.other W209 (Or.inr (slot_ne (Or.inl (W.ww hw 33 rfl)) (Or.inl (W.ww hw 35 rfl)) (by decide) (t := .int) (t' := .boolean) (by decide) (by decide)))
    have N209 := Fr.snoc X209 N199 hge
    have K209 := K199.wr W209 (Or.inl (List.mem_singleton.mpr rfl))
    exact W.retV X209 C e209 d6_135 (by decide) (by decide) ⟨rfl, N209, K209, E0_211, Fw179_215, Fw189_216, Fw199_217, Fw209⟩
  | succ k ih =>
    intro h0 i c pd b w s9 T0 locs X0 e0 N0 K0 E0 V0 S0 VX Fc Fpd Fb Fw hi0 hik w01 h9 hr
    refine W.iload (q := 29) X0 C d6_27 rfl rfl ?_
    refine W.iloadN (q := 30) X0 C d6_29 rfl rfl ?_
    refine W.iloadN (q := 31) X0 C d6_30 rfl rfl ?_
    refine W.iadd (q := 32) X0 C d6_31 rfl ?_
    refine W.icmpF (q := 35) X0 C d6_32 rfl (show i.toInt < (p2 + p3).toInt by omega) ?_
    have hin : own_in i := ⟨hi0, by rw [own_i12]; omega⟩
    refine W.iload (q := 37) X0 C d6_35 rfl rfl ?_
    refine W.if_ (q := 111) (q' := 40) X0 C d6_37 (by decide) (by decide) rfl (fun hc219 => ?_) (fun hc219 => ?_)
    · replace hc219 : w ≠ 0 := hc219
      have hc219t : w.toInt ≠ 0 := fun q => hc219 (Int32.toInt_inj.mp q)
      rw [own_stop (show (c, pd, b, w).2.2.2 ≠ 0 from hc219)] at hr
      obtain ⟨rfl, rfl, rfl, rfl⟩ : c = rc ∧ pd = rp ∧ b = rb ∧ w = rw := by cases hr; exact ⟨rfl, rfl, rfl, rfl⟩
      refine W.aloadN (q := 112) X0 C d6_111 rfl rfl rfl ?_
      refine W.iload (q := 114) X0 C d6_112 rfl rfl ?_
      refine W.putF (host := "") (q := 117) X0 C (Or.inl (W.ww hw 28 rfl)) Via.refl e0 Fc E0 (Or.inl (W.ww hw 29 rfl)) (W.ww hw 15 rfl) (ty := .int) (by decide) rfl rfl d6_114 rfl (fun T220 h220 X220 e220 W220 => ?_)
      have Fw220 := Fc.same W220
      have E0_222 := E0.wr W220
      have V0_223 := V0.other W220 (Ne.symm ne1)
      have S0_224 := S0.wr W220
      have VX_225 := VX.other W220 (Ne.symm ne2)
      have Fpd_227 := Fpd.other W220 (Or.inr (slot_ne (Or.inl (W.ww hw 31 rfl)) (Or.inl (W.ww hw 29 rfl)) (by decide) (t := .int) (t' := .int) (by decide) (by decide)))
      have Fb_228 := Fb.other W220 (Or.inr (slot_ne (Or.inl (W.ww hw 33 rfl)) (Or.inl (W.ww hw 29 rfl)) (by decide) (t := .int) (t' := .int) (by decide) (by decide)))
      have Fw_229 := Fw.other W220 (Or.inr (slot_ne (Or.inl (W.ww hw 35 rfl)) (Or.inl (W.ww hw 29 rfl)) (by decide) (t := .boolean) (t' := .int) (by decide) (by decide)))
      have N220 := Fr.snoc X220 N0 hge
      have K220 := K0.wr W220 (Or.inl (List.mem_singleton.mpr rfl))
      refine W.aloadN (q := 118) X220 C d6_117 rfl rfl rfl ?_
      refine W.iload (q := 120) X220 C d6_118 rfl rfl ?_
      refine W.putF (host := "") (q := 123) X220 C (Or.inl (W.ww hw 30 rfl)) Via.refl e220 Fpd_227 E0_222 (Or.inl (W.ww hw 31 rfl)) (W.ww hw 15 rfl) (ty := .int) (by decide) rfl rfl d6_120 rfl (fun T230 h230 X230 e230 W230 => ?_)
      have Fw230 := Fpd_227.same W230
      have E0_232 := E0_222.wr W230
      have V0_233 := V0_223.other W230 (Ne.symm ne1)
      have S0_234 := S0_224.wr W230
      have VX_235 := VX_225.other W230 (Ne.symm ne2)
      have Fw220_236 := Fw220.other W230 (Or.inr (slot_ne (Or.inl (W.ww hw 29 rfl)) (Or.inl (W.ww hw 31 rfl)) (by decide) (t := .int) (t' := .int) (by decide) (by decide)))
      have Fb_238 := Fb_228.other W230 (Or.inr (slot_ne (Or.inl (W.ww hw 33 rfl)) (Or.inl (W.ww hw 31 rfl)) (by decide) (t := .int) (t' := .int) (by decide) (by decide)))
      have Fw_239 := Fw_229.other W230 (Or.inr (slot_ne (Or.inl (W.ww hw 35 rfl)) (Or.inl (W.ww hw 31 rfl)) (by decide) (t := .boolean) (t' := .int) (by decide) (by decide)))
      have N230 := Fr.snoc X230 N220 hge
      have K230 := K220.wr W230 (Or.inl (List.mem_singleton.mpr rfl))
      refine W.aloadN (q := 124) X230 C d6_123 rfl rfl rfl ?_
      refine W.iload (q := 126) X230 C d6_124 rfl rfl ?_
      refine W.putF (host := "") (q := 129) X230 C (Or.inl (W.ww hw 32 rfl)) Via.refl e230 Fb_238 E0_232 (Or.inl (W.ww hw 33 rfl)) (W.ww hw 15 rfl) (ty := .int) (by decide) rfl rfl d6_126 rfl (fun T240 h240 X240 e240 W240 => ?_)
      have Fw240 := Fb_238.same W240
      have E0_242 := E0_232.wr W240
      have V0_243 := V0_233.other W240 (Ne.symm ne1)
      have S0_244 := S0_234.wr W240
      have VX_245 := VX_235.other W240 (Ne.symm ne2)
      have Fw220_246 := Fw220_236.other W240 (Or.inr (slot_ne (Or.inl (W.ww hw 29 rfl)) (Or.inl (W.ww hw 33 rfl)) (by decide) (t := .int) (t' := .int) (by decide) (by decide)))
      have Fw230_247 := Fw230.other W240 (Or.inr (slot_ne (Or.inl (W.ww hw 31 rfl)) (Or.inl (W.ww hw 33 rfl)) (by decide) (t := .int) (t' := .int) (by decide) (by decide)))
      have Fw_249 := Fw_239.other W240 (Or.inr (slot_ne (Or.inl (W.ww hw 35 rfl)) (Or.inl (W.ww hw 33 rfl)) (by decide) (t := .boolean) (t' := .int) (by decide) (by decide)))
      have N240 := Fr.snoc X240 N230 hge
      have K240 := K230.wr W240 (Or.inl (List.mem_singleton.mpr rfl))
      refine W.aloadN (q := 130) X240 C d6_129 rfl rfl rfl ?_
      refine W.iload (q := 132) X240 C d6_130 rfl rfl ?_
      refine W.putF (host := "") (q := 135) X240 C (Or.inl (W.ww hw 34 rfl)) Via.refl e240 Fw_249 E0_242 (Or.inl (W.ww hw 35 rfl)) (W.ww hw 15 rfl) (ty := .boolean) (by decide) (W.narZ w01) (W.fitZ w01) d6_132 rfl (fun T250 h250 X250 e250 W250 => ?_)
      have Fw250 := Fw_249.same W250
      have E0_252 := E0_242.wr W250
      have V0_253 := V0_243.other W250 (Ne.symm ne1)
      have S0_254 := S0_244.wr W250
      have VX_255 := VX_245.other W250 (Ne.symm ne2)
      have Fw220_256 := Fw220_246.other W250 (Or.inr (slot_ne (Or.inl (W.ww hw 29 rfl)) (Or.inl (W.ww hw 35 rfl)) (by decide) (t := .int) (t' := .boolean) (by decide) (by decide)))
      have Fw230_257 := Fw230_247.other W250 (Or.inr (slot_ne (Or.inl (W.ww hw 31 rfl)) (Or.inl (W.ww hw 35 rfl)) (by decide) (t := .int) (t' := .boolean) (by decide) (by decide)))
      have Fw240_258 := Fw240.other W250 (Or.inr (slot_ne (Or.inl (W.ww hw 33 rfl)) (Or.inl (W.ww hw 35 rfl)) (by decide) (t := .int) (t' := .boolean) (by decide) (by decide)))
      have N250 := Fr.snoc X250 N240 hge
      have K250 := K240.wr W250 (Or.inl (List.mem_singleton.mpr rfl))
      exact W.retV X250 C e250 d6_135 (by decide) (by decide) ⟨rfl, N250, K250, E0_252, Fw220_256, Fw230_257, Fw240_258, Fw250⟩
    · replace hc219 : w = 0 := hc219
      have hc219t : w.toInt = 0 := congrArg Int32.toInt hc219
      rw [own_runS, if_neg (show ¬ (c, pd, b, w).2.2.2 ≠ 0 from fun q => q hc219)] at hr
      refine W.aloadN (q := 41) X0 C d6_40 rfl rfl rfl ?_
      refine W.iload (q := 43) X0 C d6_41 rfl rfl ?_
      have cge43 := (own_g16 hok (own_nat hin)).1
      refine W.caload (q := 44) X0 C e0 V0 hin.1 hin.2 (own_get hok hin) d6_43 rfl ?_
      refine W.callS (q := 47) X0 C (W.ww hw 36 rfl) (W.ww hw 37 rfl) (W.ww hw 38 rfl) (W.ww hw 39 rfl) (by decide) (rm7 l Z a0 hw [] (ls.getD i.toNatClampNeg 0) sxa kx vsx h0 n0 S0 VX hTab cge43) e0 d6_44 [(.int (ls.getD i.toNatClampNeg 0))] [] rfl rfl pd__28C_29I rfl rfl (by decide) (Nat.le_of_ble_eq_true rfl) (by decide) (by decide) rfl (fun T260 w260 L260 X260 hQ260 => ?_)
      obtain ⟨rfl, NL260, e260⟩ := hQ260
      have N260 := Fr.app N0 NL260
      show W.Go p e below _ (T260.setTop (mkF m 47 #[.val (.ref p0), .val (.ref p1), .val (.int p2), .val (.int p3), .val (.int c), .val (.int pd), .val (.int b), .val (.int w), .val (.int i), s9] [(.int (own_tb (ls.getD i.toNatClampNeg 0)))]))
      refine W.istore (q := 49) (L' := #[.val (.ref p0), .val (.ref p1), .val (.int p2), .val (.int p3), .val (.int c), .val (.int pd), .val (.int b), .val (.int w), .val (.int i), .val (.int (own_tb (ls.getD i.toNatClampNeg 0)))]) X260 C d6_47 (Jvm.Free.XS.store1 rfl h9 rfl) rfl ?_
      refine W.iload (q := 51) X260 C d6_49 rfl rfl ?_
      refine W.if_ (q := 76) (q' := 54) X260 C d6_51 (by decide) (by decide) rfl (fun hc261 => ?_) (fun hc261 => ?_)
      · replace hc261 : (own_tb (ls.getD i.toNatClampNeg 0)).toInt < 0 := hc261
        refine W.iload (q := 78) X260 C d6_76 rfl rfl ?_
        refine W.iconst (q := 79) (v := (-1)) X260 C d6_78 rfl rfl ?_
        refine W.icmp (q := 91) (q' := 82) X260 C d6_79 (by decide) (by decide) rfl (fun hc262 => ?_) (fun hc262 => ?_)
        · replace hc262 : (own_tb (ls.getD i.toNatClampNeg 0)) ≠ (-1 : Int32) := hc262
          have hc262t : (own_tb (ls.getD i.toNatClampNeg 0)).toInt ≠ (-1) := fun q => hc262 (Int32.toInt_inj.mp q)
          refine W.iload (q := 93) X260 C d6_91 rfl rfl ?_
          refine W.bipush (q := 95) (v := (-3)) X260 C d6_93 rfl rfl ?_
          refine W.icmp (q := 102) (q' := 98) X260 C d6_95 (by decide) (by decide) rfl (fun hc263 => ?_) (fun hc263 => ?_)
          · replace hc263 : (own_tb (ls.getD i.toNatClampNeg 0)) ≠ (-3 : Int32) := hc263
            have hc263t : (own_tb (ls.getD i.toNatClampNeg 0)).toInt ≠ (-3) := fun q => hc263 (Int32.toInt_inj.mp q)
            rw [own_step, if_neg (Int.not_le.mpr hc261), if_neg hc262, if_neg hc263] at hr
            refine W.iconst (q := 103) (v := 0) X260 C d6_102 rfl rfl ?_
            refine W.istore (q := 105) (L' := #[.val (.ref p0), .val (.ref p1), .val (.int p2), .val (.int p3), .val (.int c), .val (.int pd), .val (.int b), .val (.int (0 : Int32)), .val (.int i), .val (.int (own_tb (ls.getD i.toNatClampNeg 0)))]) X260 C d6_103 rfl rfl ?_
            refine W.iinc (q := 108) (L' := #[.val (.ref p0), .val (.ref p1), .val (.int p2), .val (.int p3), .val (.int c), .val (.int pd), .val (.int b), .val (.int (0 : Int32)), .val (.int (i + (1 : Int32))), .val (.int (own_tb (ls.getD i.toNatClampNeg 0)))]) X260 C d6_105 rfl rfl rfl rfl ?_
            refine W.goto (q := 27) X260 C d6_108 (by decide) (by decide) ?_
            generalize hi264 : (i + (1 : Int32)) = i264
            obtain ⟨q264, q264'⟩ := own_inc hin hi264
            exact ih h0 i264 c pd b (0 : Int32) _ T260 _ X260 e260 N260 K0 E0 V0 S0 VX Fc Fpd Fb Fw (by omega) (by omega) (by decide) (One.val rfl) (by rw [q264']; exact hr)
          · replace hc263 : (own_tb (ls.getD i.toNatClampNeg 0)) = (-3 : Int32) := hc263
            have hc263t : (own_tb (ls.getD i.toNatClampNeg 0)).toInt = (-3) := congrArg Int32.toInt hc263
            rw [own_step, if_neg (Int.not_le.mpr hc261), if_neg hc262, if_pos hc263] at hr
            refine W.iconst (q := 99) (v := 1) X260 C d6_98 rfl rfl ?_
            refine W.goto (q := 103) X260 C d6_99 (by decide) (by decide) ?_
            refine W.istore (q := 105) (L' := #[.val (.ref p0), .val (.ref p1), .val (.int p2), .val (.int p3), .val (.int c), .val (.int pd), .val (.int b), .val (.int (1 : Int32)), .val (.int i), .val (.int (own_tb (ls.getD i.toNatClampNeg 0)))]) X260 C d6_103 rfl rfl ?_
            refine W.iinc (q := 108) (L' := #[.val (.ref p0), .val (.ref p1), .val (.int p2), .val (.int p3), .val (.int c), .val (.int pd), .val (.int b), .val (.int (1 : Int32)), .val (.int (i + (1 : Int32))), .val (.int (own_tb (ls.getD i.toNatClampNeg 0)))]) X260 C d6_105 rfl rfl rfl rfl ?_
            refine W.goto (q := 27) X260 C d6_108 (by decide) (by decide) ?_
            generalize hi265 : (i + (1 : Int32)) = i265
            obtain ⟨q265, q265'⟩ := own_inc hin hi265
            exact ih h0 i265 c pd b (1 : Int32) _ T260 _ X260 e260 N260 K0 E0 V0 S0 VX Fc Fpd Fb Fw (by omega) (by omega) (by decide) (One.val rfl) (by rw [q265']; exact hr)
        · replace hc262 : (own_tb (ls.getD i.toNatClampNeg 0)) = (-1 : Int32) := hc262
          have hc262t : (own_tb (ls.getD i.toNatClampNeg 0)).toInt = (-1) := congrArg Int32.toInt hc262
          rw [own_step, if_neg (Int.not_le.mpr hc261), if_pos hc262] at hr
          refine W.iinc (q := 85) (L' := #[.val (.ref p0), .val (.ref p1), .val (.int p2), .val (.int p3), .val (.int c), .val (.int (pd + (1 : Int32))), .val (.int b), .val (.int w), .val (.int i), .val (.int (own_tb (ls.getD i.toNatClampNeg 0)))]) X260 C d6_82 rfl rfl rfl rfl ?_
          refine W.iinc (q := 88) (L' := #[.val (.ref p0), .val (.ref p1), .val (.int p2), .val (.int p3), .val (.int (c + (1 : Int32))), .val (.int (pd + (1 : Int32))), .val (.int b), .val (.int w), .val (.int i), .val (.int (own_tb (ls.getD i.toNatClampNeg 0)))]) X260 C d6_85 rfl rfl rfl rfl ?_
          refine W.goto (q := 105) X260 C d6_88 (by decide) (by decide) ?_
          refine W.iinc (q := 108) (L' := #[.val (.ref p0), .val (.ref p1), .val (.int p2), .val (.int p3), .val (.int (c + (1 : Int32))), .val (.int (pd + (1 : Int32))), .val (.int b), .val (.int w), .val (.int (i + (1 : Int32))), .val (.int (own_tb (ls.getD i.toNatClampNeg 0)))]) X260 C d6_105 rfl rfl rfl rfl ?_
          refine W.goto (q := 27) X260 C d6_108 (by decide) (by decide) ?_
          generalize hi266 : (i + (1 : Int32)) = i266
          obtain ⟨q266, q266'⟩ := own_inc hin hi266
          exact ih h0 i266 (c + (1 : Int32)) (pd + (1 : Int32)) b w _ T260 _ X260 e260 N260 K0 E0 V0 S0 VX Fc Fpd Fb Fw (by omega) (by omega) w01 (One.val rfl) (by rw [q266']; exact hr)
      · replace hc261 : 0 ≤ (own_tb (ls.getD i.toNatClampNeg 0)).toInt := hc261
        rw [own_step, if_pos hc261] at hr
        refine W.iload (q := 56) X260 C d6_54 rfl rfl ?_
        refine W.if_ (q := 63) (q' := 59) X260 C d6_56 (by decide) (by decide) rfl (fun hc267 => ?_) (fun hc267 => ?_)
        · replace hc267 : pd.toInt ≤ 0 := hc267
          rw [if_neg (show ¬ 0 < (c, pd, b, w).2.1.toInt from Int.not_lt.mpr hc267)] at hr
          refine W.iconst (q := 64) (v := 0) X260 C d6_63 rfl rfl ?_
          refine W.istore (q := 66) (L' := #[.val (.ref p0), .val (.ref p1), .val (.int p2), .val (.int p3), .val (.int c), .val (.int pd), .val (.int b), .val (.int (0 : Int32)), .val (.int i), .val (.int (own_tb (ls.getD i.toNatClampNeg 0)))]) X260 C d6_64 rfl rfl ?_
          refine W.iload (q := 68) X260 C d6_66 rfl rfl ?_
          refine W.istore (q := 70) (L' := #[.val (.ref p0), .val (.ref p1), .val (.int p2), .val (.int p3), .val (.int c), .val (.int pd), .val (.int (own_tb (ls.getD i.toNatClampNeg 0))), .val (.int (0 : Int32)), .val (.int i), .val (.int (own_tb (ls.getD i.toNatClampNeg 0)))]) X260 C d6_68 rfl rfl ?_
          refine W.iinc (q := 73) (L' := #[.val (.ref p0), .val (.ref p1), .val (.int p2), .val (.int p3), .val (.int (c + (1 : Int32))), .val (.int pd), .val (.int (own_tb (ls.getD i.toNatClampNeg 0))), .val (.int (0 : Int32)), .val (.int i), .val (.int (own_tb (ls.getD i.toNatClampNeg 0)))]) X260 C d6_70 rfl rfl rfl rfl ?_
          refine W.goto (q := 105) X260 C d6_73 (by decide) (by decide) ?_
          refine W.iinc (q := 108) (L' := #[.val (.ref p0), .val (.ref p1), .val (.int p2), .val (.int p3), .val (.int (c + (1 : Int32))), .val (.int pd), .val (.int (own_tb (ls.getD i.toNatClampNeg 0))), .val (.int (0 : Int32)), .val (.int (i + (1 : Int32))), .val (.int (own_tb (ls.getD i.toNatClampNeg 0)))]) X260 C d6_105 rfl rfl rfl rfl ?_
          refine W.goto (q := 27) X260 C d6_108 (by decide) (by decide) ?_
          generalize hi268 : (i + (1 : Int32)) = i268
          obtain ⟨q268, q268'⟩ := own_inc hin hi268
          exact ih h0 i268 (c + (1 : Int32)) pd (own_tb (ls.getD i.toNatClampNeg 0)) (0 : Int32) _ T260 _ X260 e260 N260 K0 E0 V0 S0 VX Fc Fpd Fb Fw (by omega) (by omega) (by decide) (One.val rfl) (by rw [q268']; exact hr)
        · replace hc267 : 0 < pd.toInt := hc267
          rw [if_pos (show 0 < (c, pd, b, w).2.1.toInt from hc267)] at hr
          refine W.iconst (q := 60) (v := 1) X260 C d6_59 rfl rfl ?_
          refine W.goto (q := 64) X260 C d6_60 (by decide) (by decide) ?_
          refine W.istore (q := 66) (L' := #[.val (.ref p0), .val (.ref p1), .val (.int p2), .val (.int p3), .val (.int c), .val (.int pd), .val (.int b), .val (.int (1 : Int32)), .val (.int i), .val (.int (own_tb (ls.getD i.toNatClampNeg 0)))]) X260 C d6_64 rfl rfl ?_
          refine W.iload (q := 68) X260 C d6_66 rfl rfl ?_
          refine W.istore (q := 70) (L' := #[.val (.ref p0), .val (.ref p1), .val (.int p2), .val (.int p3), .val (.int c), .val (.int pd), .val (.int (own_tb (ls.getD i.toNatClampNeg 0))), .val (.int (1 : Int32)), .val (.int i), .val (.int (own_tb (ls.getD i.toNatClampNeg 0)))]) X260 C d6_68 rfl rfl ?_
          refine W.iinc (q := 73) (L' := #[.val (.ref p0), .val (.ref p1), .val (.int p2), .val (.int p3), .val (.int (c + (1 : Int32))), .val (.int pd), .val (.int (own_tb (ls.getD i.toNatClampNeg 0))), .val (.int (1 : Int32)), .val (.int i), .val (.int (own_tb (ls.getD i.toNatClampNeg 0)))]) X260 C d6_70 rfl rfl rfl rfl ?_
          refine W.goto (q := 105) X260 C d6_73 (by decide) (by decide) ?_
          refine W.iinc (q := 108) (L' := #[.val (.ref p0), .val (.ref p1), .val (.int p2), .val (.int p3), .val (.int (c + (1 : Int32))), .val (.int pd), .val (.int (own_tb (ls.getD i.toNatClampNeg 0))), .val (.int (1 : Int32)), .val (.int (i + (1 : Int32))), .val (.int (own_tb (ls.getD i.toNatClampNeg 0)))]) X260 C d6_105 rfl rfl rfl rfl ?_
          refine W.goto (q := 27) X260 C d6_108 (by decide) (by decide) ?_
          generalize hi269 : (i + (1 : Int32)) = i269
          obtain ⟨q269, q269'⟩ := own_inc hin hi269
          exact ih h0 i269 (c + (1 : Int32)) pd (own_tb (ls.getD i.toNatClampNeg 0)) (1 : Int32) _ T260 _ X260 e260 N260 K0 E0 V0 S0 VX Fc Fpd Fb Fw (by omega) (by omega) (by decide) (One.val rfl) (by rw [q269']; exact hr)
theorem d6_0 : decode prog_85_method_3_code 0 = .ok (.aload_n 0, 1) := by decide +kernel
theorem d6_1 : decode prog_85_method_3_code 1 = .ok (.getfield 7, 3) := by decide +kernel
theorem d6_4 : decode prog_85_method_3_code 4 = .ok (.istore 4, 2) := by decide +kernel
theorem d6_6 : decode prog_85_method_3_code 6 = .ok (.aload_n 0, 1) := by decide +kernel
theorem d6_7 : decode prog_85_method_3_code 7 = .ok (.getfield 13, 3) := by decide +kernel
theorem d6_10 : decode prog_85_method_3_code 10 = .ok (.istore 5, 2) := by decide +kernel
theorem d6_12 : decode prog_85_method_3_code 12 = .ok (.aload_n 0, 1) := by decide +kernel
theorem d6_13 : decode prog_85_method_3_code 13 = .ok (.getfield 16, 3) := by decide +kernel
theorem d6_16 : decode prog_85_method_3_code 16 = .ok (.istore 6, 2) := by decide +kernel
theorem d6_18 : decode prog_85_method_3_code 18 = .ok (.aload_n 0, 1) := by decide +kernel
theorem d6_19 : decode prog_85_method_3_code 19 = .ok (.getfield 19, 3) := by decide +kernel
theorem d6_22 : decode prog_85_method_3_code 22 = .ok (.istore 7, 2) := by decide +kernel
theorem d6_24 : decode prog_85_method_3_code 24 = .ok (.iload_n 2, 1) := by decide +kernel
theorem d6_25 : decode prog_85_method_3_code 25 = .ok (.istore 8, 2) := by decide +kernel
def Q6 (Z : State) (p0 p1 : Addr) (p2 p3 : Int32) (k1 : ClassId) (ls : List Int32) (sxa : Addr) (kx : ClassId) (vsx : List Value) (uc upd ub uw rc rp rb rw : Int32) (kk : Nat) (h0 : Heap) (n0 : Nat) (v : Option Value) (h : Heap) (L : List Loc) : Prop := v = none ∧ Fr n0 L ∧ Keep h0 h [p0] ∧ Exa Z h p0 "com/example/fedlint/fedlint/SimpleValues$Base64Check" ∧ Fld Z h p0 "com/example/fedlint/fedlint/SimpleValues$Base64Check" "count" "I" (.int rc) ∧ Fld Z h p0 "com/example/fedlint/fedlint/SimpleValues$Base64Check" "padding" "I" (.int rp) ∧ Fld Z h p0 "com/example/fedlint/fedlint/SimpleValues$Base64Check" "last" "I" (.int rb) ∧ Fld Z h p0 "com/example/fedlint/fedlint/SimpleValues$Base64Check" "broken" "Z" (.int rw)
set_option maxRecDepth 65536 in
set_option maxHeartbeats 40000000 in
theorem rm6 (l : Launch) (Z : State) (a0 : Array Value) (hw : ∀ d ∈ tables_1, d.before a0 Z = true) (ws : List Jvm.Cond) (p0 p1 : Addr) (p2 p3 : Int32) (k1 : ClassId) (ls : List Int32) (sxa : Addr) (kx : ClassId) (vsx : List Value) (uc upd ub uw rc rp rb rw : Int32) (kk : Nat) (h0 : Heap) (n0 : Nat) (hge : n0 ≤ p0) (ne1 : p0 ≠ p1) (ne2 : p0 ≠ sxa) (hok : own_okc ls) (hTab : own_Tab vsx) (hU : 0 ≤ (p2 + p3).toInt ∧ (p2 + p3).toInt ≤ 12) (E0 : Exa Z h0 p0 "com/example/fedlint/fedlint/SimpleValues$Base64Check") (V0 : Arv Z h0 p1 k1 .char (12 : Int32) (own_vs ls) (.int (0 : Int32))) (S0 : Sta Z h0 "com/example/fedlint/fedlint/Base64Binary" "SEXTETS" "[B" (.ref sxa)) (VX : Arv Z h0 sxa kx .byte (128 : Int32) vsx (.int (0 : Int32))) (Fc : Fld Z h0 p0 "com/example/fedlint/fedlint/SimpleValues$Base64Check" "count" "I" (.int uc)) (Fpd : Fld Z h0 p0 "com/example/fedlint/fedlint/SimpleValues$Base64Check" "padding" "I" (.int upd)) (Fb : Fld Z h0 p0 "com/example/fedlint/fedlint/SimpleValues$Base64Check" "last" "I" (.int ub)) (Fw : Fld Z h0 p0 "com/example/fedlint/fedlint/SimpleValues$Base64Check" "broken" "Z" (.int uw)) (hp2 : 0 ≤ p2.toInt) (hkk : p2.toInt + kk = (p2 + p3).toInt) (w01 : uw = 0 ∨ uw = 1) (hr : own_run kk ls p2.toNatClampNeg (uc, upd, ub, uw) = (rc, rp, rb, rw)) :
    MetFree l (⟨"com/example/fedlint/fedlint/SimpleValues$Base64Check", "add", "([CII)V"⟩ : MethodName) (head1 (Jvm.Cond.code (⟨"com/example/fedlint/fedlint/SimpleValues$Base64Check", "add", "([CII)V"⟩ : MethodName) prog_85_method_3_code 10 none :: ws) ({ frames := 1, cells := 0, slots := 0, locals := 24 } : Room)) (fun a U => a = #[(.ref p0), (.ref p1), (.int p2), (.int p3)] ∧ Z.Warmed39 U.vm ∧ U.heap = h0) (fun _ _ _ _ _ => True) (fun _ U o U' => ∃ v L, o = .returned v ∧ Q6 Z p0 p1 p2 p3 k1 ls sxa kx vsx uc upd ub uw rc rp rb rw kk h0 n0 v U'.heap L ∧ FrameEnd U o U' L ({ frames := 1, cells := 0, slots := 0, locals := 24 } : Room).cells ({ frames := 1, cells := 0, slots := 0, locals := 24 } : Room).slots) := by
  refine W.bodyOf (y := (⟨"com/example/fedlint/fedlint/SimpleValues$Base64Check", "add", "([CII)V"⟩ : MethodName)) (as := #[(.ref p0), (.ref p1), (.int p2), (.int p3)]) (maxL := 10) (Q := Q6 Z p0 p1 p2 p3 k1 ls sxa kx vsx uc upd ub uw rc rp rb rw kk h0 n0) (Ls := #[.val (.ref p0), .val (.ref p1), .val (.int p2), .val (.int p3), .unset, .unset, .unset, .unset, .unset, .unset]) (plainFor_of_name pn_com_example_fedlint_fedlint_SimpleValues_Base64Check) (fun m => by first | exact W.entry_of rfl | rfl | (simp [entryFrame, mkF, argsToLocals, Value.category]; done)) ?_
  intro p e s m below meth c T0 C X0 e0
  have N0 := Fr.nil n0
  refine W.aloadN (q := 1) X0 C d6_0 rfl rfl rfl ?_
  refine W.getF (host := "") (q := 4) X0 C (Or.inl (W.ww hw 28 rfl)) Via.refl e0 Fc d6_1 rfl (fun T270 X270 e270 => ?_)
  refine W.istore (q := 6) (L' := #[.val (.ref p0), .val (.ref p1), .val (.int p2), .val (.int p3), .val (.int uc), .unset, .unset, .unset, .unset, .unset]) X270 C d6_4 rfl rfl ?_
  refine W.aloadN (q := 7) X270 C d6_6 rfl rfl rfl ?_
  refine W.getF (host := "") (q := 10) X270 C (Or.inl (W.ww hw 30 rfl)) Via.refl e270 Fpd d6_7 rfl (fun T271 X271 e271 => ?_)
  refine W.istore (q := 12) (L' := #[.val (.ref p0), .val (.ref p1), .val (.int p2), .val (.int p3), .val (.int uc), .val (.int upd), .unset, .unset, .unset, .unset]) X271 C d6_10 rfl rfl ?_
  refine W.aloadN (q := 13) X271 C d6_12 rfl rfl rfl ?_
  refine W.getF (host := "") (q := 16) X271 C (Or.inl (W.ww hw 32 rfl)) Via.refl e271 Fb d6_13 rfl (fun T272 X272 e272 => ?_)
  refine W.istore (q := 18) (L' := #[.val (.ref p0), .val (.ref p1), .val (.int p2), .val (.int p3), .val (.int uc), .val (.int upd), .val (.int ub), .unset, .unset, .unset]) X272 C d6_16 rfl rfl ?_
  refine W.aloadN (q := 19) X272 C d6_18 rfl rfl rfl ?_
  refine W.getF (host := "") (q := 22) X272 C (Or.inl (W.ww hw 34 rfl)) Via.refl e272 Fw d6_19 rfl (fun T273 X273 e273 => ?_)
  refine W.istore (q := 24) (L' := #[.val (.ref p0), .val (.ref p1), .val (.int p2), .val (.int p3), .val (.int uc), .val (.int upd), .val (.int ub), .val (.int uw), .unset, .unset]) X273 C d6_22 rfl rfl ?_
  refine W.iloadN (q := 25) X273 C d6_24 rfl rfl ?_
  refine W.istore (q := 27) (L' := #[.val (.ref p0), .val (.ref p1), .val (.int p2), .val (.int p3), .val (.int uc), .val (.int upd), .val (.int ub), .val (.int uw), .val (.int p2), .unset]) X273 C d6_25 rfl rfl ?_
  exact own_loop l Z a0 hw n0 p0 p1 p2 p3 k1 ls sxa kx vsx hge ne1 ne2 hok hTab hU C h0 rc rp rb rw uc upd ub uw kk h0 p2 uc upd ub uw .unset T273 _ X273 e273 N0 (Keep.refl _ _) E0 V0 S0 VX Fc Fpd Fb Fw hp2 hkk w01 One.u hr
theorem d8_0 : decode prog_85_method_4_code 0 = .ok (.aload_n 0, 1) := by decide +kernel
theorem d8_1 : decode prog_85_method_4_code 1 = .ok (.getfield 19, 3) := by decide +kernel
theorem d8_4 : decode prog_85_method_4_code 4 = .ok (.ifCond .ne 20, 3) := by decide +kernel
theorem d8_24 : decode prog_85_method_4_code 24 = .ok (.iconst 0, 1) := by decide +kernel
theorem d8_25 : decode prog_85_method_4_code 25 = .ok (.ireturn, 1) := by decide +kernel
theorem d8_7 : decode prog_85_method_4_code 7 = .ok (.aload_n 0, 1) := by decide +kernel
theorem d8_8 : decode prog_85_method_4_code 8 = .ok (.getfield 7, 3) := by decide +kernel
theorem d8_11 : decode prog_85_method_4_code 11 = .ok (.iconst 4, 1) := by decide +kernel
theorem d8_12 : decode prog_85_method_4_code 12 = .ok (.irem, 1) := by decide +kernel
theorem d8_13 : decode prog_85_method_4_code 13 = .ok (.ifCond .ne 11, 3) := by decide +kernel
theorem d8_16 : decode prog_85_method_4_code 16 = .ok (.aload_n 0, 1) := by decide +kernel
theorem d8_17 : decode prog_85_method_4_code 17 = .ok (.getfield 13, 3) := by decide +kernel
theorem d8_20 : decode prog_85_method_4_code 20 = .ok (.iconst 2, 1) := by decide +kernel
theorem d8_21 : decode prog_85_method_4_code 21 = .ok (.if_icmp .le 5, 3) := by decide +kernel
theorem d8_26 : decode prog_85_method_4_code 26 = .ok (.aload_n 0, 1) := by decide +kernel
theorem d8_27 : decode prog_85_method_4_code 27 = .ok (.getfield 13, 3) := by decide +kernel
theorem d8_30 : decode prog_85_method_4_code 30 = .ok (.ifCond .eq 25, 3) := by decide +kernel
theorem d8_55 : decode prog_85_method_4_code 55 = .ok (.iconst 1, 1) := by decide +kernel
theorem d8_56 : decode prog_85_method_4_code 56 = .ok (.goto 4, 3) := by decide +kernel
theorem d8_60 : decode prog_85_method_4_code 60 = .ok (.ireturn, 1) := by decide +kernel
theorem d8_33 : decode prog_85_method_4_code 33 = .ok (.aload_n 0, 1) := by decide +kernel
theorem d8_34 : decode prog_85_method_4_code 34 = .ok (.getfield 16, 3) := by decide +kernel
theorem d8_37 : decode prog_85_method_4_code 37 = .ok (.aload_n 0, 1) := by decide +kernel
theorem d8_38 : decode prog_85_method_4_code 38 = .ok (.getfield 13, 3) := by decide +kernel
theorem d8_41 : decode prog_85_method_4_code 41 = .ok (.iconst 2, 1) := by decide +kernel
theorem d8_42 : decode prog_85_method_4_code 42 = .ok (.if_icmp .ne 8, 3) := by decide +kernel
theorem d8_50 : decode prog_85_method_4_code 50 = .ok (.iconst 3, 1) := by decide +kernel
theorem d8_51 : decode prog_85_method_4_code 51 = .ok (.iand, 1) := by decide +kernel
theorem d8_52 : decode prog_85_method_4_code 52 = .ok (.ifCond .ne 7, 3) := by decide +kernel
theorem d8_59 : decode prog_85_method_4_code 59 = .ok (.iconst 0, 1) := by decide +kernel
theorem d8_45 : decode prog_85_method_4_code 45 = .ok (.bipush 15, 2) := by decide +kernel
theorem d8_47 : decode prog_85_method_4_code 47 = .ok (.goto 4, 3) := by decide +kernel
def Q8 (Z : State) (p0 : Addr) (uc upd ub uw : Int32) (h0 : Heap) (n0 : Nat) (v : Option Value) (h : Heap) (L : List Loc) : Prop := v = some (.int (own_val (uc, upd, ub, uw))) ∧ Fr n0 L ∧ h = h0
set_option maxRecDepth 65536 in
set_option maxHeartbeats 40000000 in
theorem rm8 (l : Launch) (Z : State) (a0 : Array Value) (hw : ∀ d ∈ tables_1, d.before a0 Z = true) (ws : List Jvm.Cond) (p0 : Addr) (uc upd ub uw : Int32) (h0 : Heap) (n0 : Nat) (Fc : Fld Z h0 p0 "com/example/fedlint/fedlint/SimpleValues$Base64Check" "count" "I" (.int uc)) (Fpd : Fld Z h0 p0 "com/example/fedlint/fedlint/SimpleValues$Base64Check" "padding" "I" (.int upd)) (Fb : Fld Z h0 p0 "com/example/fedlint/fedlint/SimpleValues$Base64Check" "last" "I" (.int ub)) (Fw : Fld Z h0 p0 "com/example/fedlint/fedlint/SimpleValues$Base64Check" "broken" "Z" (.int uw)) :
    MetFree l (⟨"com/example/fedlint/fedlint/SimpleValues$Base64Check", "valid", "()Z"⟩ : MethodName) (head1 (Jvm.Cond.code (⟨"com/example/fedlint/fedlint/SimpleValues$Base64Check", "valid", "()Z"⟩ : MethodName) prog_85_method_4_code 1 (some .boolean) :: ws) ({ frames := 0, cells := 0, slots := 0, locals := 0 } : Room)) (fun a U => a = #[(.ref p0)] ∧ Z.Warmed39 U.vm ∧ U.heap = h0) (fun _ _ _ _ _ => True) (fun _ U o U' => ∃ v L, o = .returned v ∧ Q8 Z p0 uc upd ub uw h0 n0 v U'.heap L ∧ FrameEnd U o U' L ({ frames := 0, cells := 0, slots := 0, locals := 0 } : Room).cells ({ frames := 0, cells := 0, slots := 0, locals := 0 } : Room).slots) := by
  refine W.bodyOf (y := (⟨"com/example/fedlint/fedlint/SimpleValues$Base64Check", "valid", "()Z"⟩ : MethodName)) (as := #[(.ref p0)]) (maxL := 1) (Q := Q8 Z p0 uc upd ub uw h0 n0) (Ls := #[.val (.ref p0)]) (plainFor_of_name pn_com_example_fedlint_fedlint_SimpleValues_Base64Check) (fun m => by first | exact W.entry_of rfl | rfl | (simp [entryFrame, mkF, argsToLocals, Value.category]; done)) ?_
  intro p e s m below meth c T0 C X0 e0
  have N0 := Fr.nil n0
  refine W.aloadN (q := 1) X0 C d8_0 rfl rfl rfl ?_
  refine W.getF (host := "") (q := 4) X0 C (Or.inl (W.ww hw 34 rfl)) Via.refl e0 Fw d8_1 rfl (fun T274 X274 e274 => ?_)
  refine W.if_ (q := 24) (q' := 7) X274 C d8_4 (by decide) (by decide) rfl (fun hc275 => ?_) (fun hc275 => ?_)
  · replace hc275 : uw ≠ 0 := hc275
    have hc275t : uw.toInt ≠ 0 := fun q => hc275 (Int32.toInt_inj.mp q)
    refine W.iconst (q := 25) (v := 0) X274 C d8_24 rfl rfl ?_
    exact W.retN X274 C (by simp) e274 d8_25 rfl (by decide) (by decide) ⟨congrArg (fun z => some (Value.int z)) (show _ = own_val (uc, upd, ub, uw) by simp [own_val, hc275]), N0, rfl⟩
  · replace hc275 : uw = 0 := hc275
    have hc275t : uw.toInt = 0 := congrArg Int32.toInt hc275
    refine W.aloadN (q := 8) X274 C d8_7 rfl rfl rfl ?_
    refine W.getF (host := "") (q := 11) X274 C (Or.inl (W.ww hw 28 rfl)) Via.refl e274 Fc d8_8 rfl (fun T276 X276 e276 => ?_)
    refine W.iconst (q := 12) (v := 4) X276 C d8_11 rfl rfl ?_
    refine W.irem (q := 13) X276 C d8_12 (by decide) rfl ?_
    refine W.if_ (q := 24) (q' := 16) X276 C d8_13 (by decide) (by decide) rfl (fun hc277 => ?_) (fun hc277 => ?_)
    · replace hc277 : (uc % (4 : Int32)) ≠ 0 := hc277
      have hc277t : (uc % (4 : Int32)).toInt ≠ 0 := fun q => hc277 (Int32.toInt_inj.mp q)
      refine W.iconst (q := 25) (v := 0) X276 C d8_24 rfl rfl ?_
      exact W.retN X276 C (by simp) e276 d8_25 rfl (by decide) (by decide) ⟨congrArg (fun z => some (Value.int z)) (show _ = own_val (uc, upd, ub, uw) by simp [own_val, hc275, hc277]), N0, rfl⟩
    · replace hc277 : (uc % (4 : Int32)) = 0 := hc277
      have hc277t : (uc % (4 : Int32)).toInt = 0 := congrArg Int32.toInt hc277
      refine W.aloadN (q := 17) X276 C d8_16 rfl rfl rfl ?_
      refine W.getF (host := "") (q := 20) X276 C (Or.inl (W.ww hw 30 rfl)) Via.refl e276 Fpd d8_17 rfl (fun T278 X278 e278 => ?_)
      refine W.iconst (q := 21) (v := 2) X278 C d8_20 rfl rfl ?_
      refine W.icmp (q := 26) (q' := 24) X278 C d8_21 (by decide) (by decide) rfl (fun hc279 => ?_) (fun hc279 => ?_)
      · replace hc279 : upd.toInt ≤ 2 := hc279
        refine W.aloadN (q := 27) X278 C d8_26 rfl rfl rfl ?_
        refine W.getF (host := "") (q := 30) X278 C (Or.inl (W.ww hw 30 rfl)) Via.refl e278 Fpd d8_27 rfl (fun T280 X280 e280 => ?_)
        refine W.if_ (q := 55) (q' := 33) X280 C d8_30 (by decide) (by decide) rfl (fun hc281 => ?_) (fun hc281 => ?_)
        · replace hc281 : upd = 0 := hc281
          have hc281t : upd.toInt = 0 := congrArg Int32.toInt hc281
          refine W.iconst (q := 56) (v := 1) X280 C d8_55 rfl rfl ?_
          refine W.goto (q := 60) X280 C d8_56 (by decide) (by decide) ?_
          exact W.retN X280 C (by simp) e280 d8_60 rfl (by decide) (by decide) ⟨congrArg (fun z => some (Value.int z)) (show _ = own_val (uc, upd, ub, uw) by simp [own_val, hc275, hc277, Int.not_lt.mpr hc279, hc281]), N0, rfl⟩
        · replace hc281 : upd ≠ 0 := hc281
          have hc281t : upd.toInt ≠ 0 := fun q => hc281 (Int32.toInt_inj.mp q)
          refine W.aloadN (q := 34) X280 C d8_33 rfl rfl rfl ?_
          refine W.getF (host := "") (q := 37) X280 C (Or.inl (W.ww hw 32 rfl)) Via.refl e280 Fb d8_34 rfl (fun T282 X282 e282 => ?_)
          refine W.aloadN (q := 38) X282 C d8_37 rfl rfl rfl ?_
          refine W.getF (host := "") (q := 41) X282 C (Or.inl (W.ww hw 30 rfl)) Via.refl e282 Fpd d8_38 rfl (fun T283 X283 e283 => ?_)
          refine W.iconst (q := 42) (v := 2) X283 C d8_41 rfl rfl ?_
          refine W.icmp (q := 50) (q' := 45) X283 C d8_42 (by decide) (by decide) rfl (fun hc284 => ?_) (fun hc284 => ?_)
          · replace hc284 : upd ≠ (2 : Int32) := hc284
            have hc284t : upd.toInt ≠ 2 := fun q => hc284 (Int32.toInt_inj.mp q)
            refine W.iconst (q := 51) (v := 3) X283 C d8_50 rfl rfl ?_
            refine W.iand (q := 52) X283 C d8_51 rfl ?_
            refine W.if_ (q := 59) (q' := 55) X283 C d8_52 (by decide) (by decide) rfl (fun hc285 => ?_) (fun hc285 => ?_)
            · replace hc285 : (ub &&& (3 : Int32)) ≠ 0 := hc285
              have hc285t : (ub &&& (3 : Int32)).toInt ≠ 0 := fun q => hc285 (Int32.toInt_inj.mp q)
              refine W.iconst (q := 60) (v := 0) X283 C d8_59 rfl rfl ?_
              exact W.retN X283 C (by simp) e283 d8_60 rfl (by decide) (by decide) ⟨congrArg (fun z => some (Value.int z)) (show _ = own_val (uc, upd, ub, uw) by simp [own_val, hc275, hc277, Int.not_lt.mpr hc279, hc281, hc284, hc285]), N0, rfl⟩
            · replace hc285 : (ub &&& (3 : Int32)) = 0 := hc285
              have hc285t : (ub &&& (3 : Int32)).toInt = 0 := congrArg Int32.toInt hc285
              refine W.iconst (q := 56) (v := 1) X283 C d8_55 rfl rfl ?_
              refine W.goto (q := 60) X283 C d8_56 (by decide) (by decide) ?_
              exact W.retN X283 C (by simp) e283 d8_60 rfl (by decide) (by decide) ⟨congrArg (fun z => some (Value.int z)) (show _ = own_val (uc, upd, ub, uw) by simp [own_val, hc275, hc277, Int.not_lt.mpr hc279, hc281, hc284, hc285]), N0, rfl⟩
          · replace hc284 : upd = (2 : Int32) := hc284
            have hc284t : upd.toInt = 2 := congrArg Int32.toInt hc284
            refine W.bipush (q := 47) (v := 15) X283 C d8_45 rfl rfl ?_
            refine W.goto (q := 51) X283 C d8_47 (by decide) (by decide) ?_
            refine W.iand (q := 52) X283 C d8_51 rfl ?_
            refine W.if_ (q := 59) (q' := 55) X283 C d8_52 (by decide) (by decide) rfl (fun hc286 => ?_) (fun hc286 => ?_)
            · replace hc286 : (ub &&& (15 : Int32)) ≠ 0 := hc286
              have hc286t : (ub &&& (15 : Int32)).toInt ≠ 0 := fun q => hc286 (Int32.toInt_inj.mp q)
              refine W.iconst (q := 60) (v := 0) X283 C d8_59 rfl rfl ?_
              exact W.retN X283 C (by simp) e283 d8_60 rfl (by decide) (by decide) ⟨congrArg (fun z => some (Value.int z)) (show _ = own_val (uc, upd, ub, uw) by simp [own_val, hc275, hc277, Int.not_lt.mpr hc279, hc281, hc284, hc286]), N0, rfl⟩
            · replace hc286 : (ub &&& (15 : Int32)) = 0 := hc286
              have hc286t : (ub &&& (15 : Int32)).toInt = 0 := congrArg Int32.toInt hc286
              refine W.iconst (q := 56) (v := 1) X283 C d8_55 rfl rfl ?_
              refine W.goto (q := 60) X283 C d8_56 (by decide) (by decide) ?_
              exact W.retN X283 C (by simp) e283 d8_60 rfl (by decide) (by decide) ⟨congrArg (fun z => some (Value.int z)) (show _ = own_val (uc, upd, ub, uw) by simp [own_val, hc275, hc277, Int.not_lt.mpr hc279, hc281, hc284, hc286]), N0, rfl⟩
      · replace hc279 : 2 < upd.toInt := hc279
        refine W.iconst (q := 25) (v := 0) X278 C d8_24 rfl rfl ?_
        exact W.retN X278 C (by simp) e278 d8_25 rfl (by decide) (by decide) ⟨congrArg (fun z => some (Value.int z)) (show _ = own_val (uc, upd, ub, uw) by simp [own_val, hc275, hc277, hc279]), N0, rfl⟩
theorem d9_0 : decode method_3_code 0 = .ok (.iload_n 0, 1) := by decide +kernel
theorem d9_1 : decode method_3_code 1 = .ok (.ifCond .eq 5, 3) := by decide +kernel
theorem d9_6 : decode method_3_code 6 = .ok (.iload_n 3, 1) := by decide +kernel
theorem d9_7 : decode method_3_code 7 = .ok (.iconst 1, 1) := by decide +kernel
theorem d9_8 : decode method_3_code 8 = .ok (.if_icmp .ne 9, 3) := by decide +kernel
theorem d9_17 : decode method_3_code 17 = .ok (.iload_n 1, 1) := by decide +kernel
theorem d9_18 : decode method_3_code 18 = .ok (.iload_n 2, 1) := by decide +kernel
theorem d9_19 : decode method_3_code 19 = .ok (.iadd, 1) := by decide +kernel
theorem d9_20 : decode method_3_code 20 = .ok (.iload_n 3, 1) := by decide +kernel
theorem d9_21 : decode method_3_code 21 = .ok (.iadd, 1) := by decide +kernel
theorem d9_22 : decode method_3_code 22 = .ok (.istore 6, 2) := by decide +kernel
theorem d9_24 : decode method_3_code 24 = .ok (.iload 6, 2) := by decide +kernel
theorem d9_26 : decode method_3_code 26 = .ok (.iconst 4, 1) := by decide +kernel
theorem d9_27 : decode method_3_code 27 = .ok (.irem, 1) := by decide +kernel
theorem d9_28 : decode method_3_code 28 = .ok (.ifCond .eq 5, 3) := by decide +kernel
theorem d9_33 : decode method_3_code 33 = .ok (.iload_n 2, 1) := by decide +kernel
theorem d9_34 : decode method_3_code 34 = .ok (.iconst 2, 1) := by decide +kernel
theorem d9_35 : decode method_3_code 35 = .ok (.if_icmp .le 5, 3) := by decide +kernel
theorem d9_40 : decode method_3_code 40 = .ok (.iload_n 2, 1) := by decide +kernel
theorem d9_41 : decode method_3_code 41 = .ok (.ifCond .ne 5, 3) := by decide +kernel
theorem d9_46 : decode method_3_code 46 = .ok (.lload 4, 2) := by decide +kernel
theorem d9_48 : decode method_3_code 48 = .ok (.iload_n 1, 1) := by decide +kernel
theorem d9_49 : decode method_3_code 49 = .ok (.iconst 1, 1) := by decide +kernel
theorem d9_50 : decode method_3_code 50 = .ok (.isub, 1) := by decide +kernel
theorem d9_51 : decode method_3_code 51 = .ok (.invokestatic 34, 3) := by decide +kernel
theorem d9_54 : decode method_3_code 54 = .ok (.istore 7, 2) := by decide +kernel
theorem d9_56 : decode method_3_code 56 = .ok (.iload_n 2, 1) := by decide +kernel
theorem d9_57 : decode method_3_code 57 = .ok (.iconst 2, 1) := by decide +kernel
theorem d9_58 : decode method_3_code 58 = .ok (.if_icmp .ne 19, 3) := by decide +kernel
theorem d9_77 : decode method_3_code 77 = .ok (.iload 7, 2) := by decide +kernel
theorem d9_79 : decode method_3_code 79 = .ok (.iconst 3, 1) := by decide +kernel
theorem d9_80 : decode method_3_code 80 = .ok (.iand, 1) := by decide +kernel
theorem d9_81 : decode method_3_code 81 = .ok (.ifCond .ne 7, 3) := by decide +kernel
theorem d9_88 : decode method_3_code 88 = .ok (.iconst 0, 1) := by decide +kernel
theorem d9_89 : decode method_3_code 89 = .ok (.ireturn, 1) := by decide +kernel
theorem d9_84 : decode method_3_code 84 = .ok (.iconst 1, 1) := by decide +kernel
theorem d9_85 : decode method_3_code 85 = .ok (.goto 4, 3) := by decide +kernel
theorem d9_61 : decode method_3_code 61 = .ok (.iload 7, 2) := by decide +kernel
theorem d9_63 : decode method_3_code 63 = .ok (.bipush 15, 2) := by decide +kernel
theorem d9_65 : decode method_3_code 65 = .ok (.iand, 1) := by decide +kernel
theorem d9_66 : decode method_3_code 66 = .ok (.ifCond .ne 7, 3) := by decide +kernel
theorem d9_73 : decode method_3_code 73 = .ok (.iconst 0, 1) := by decide +kernel
theorem d9_74 : decode method_3_code 74 = .ok (.goto 15, 3) := by decide +kernel
theorem d9_69 : decode method_3_code 69 = .ok (.iconst 1, 1) := by decide +kernel
theorem d9_70 : decode method_3_code 70 = .ok (.goto 19, 3) := by decide +kernel
theorem d9_44 : decode method_3_code 44 = .ok (.iconst 1, 1) := by decide +kernel
theorem d9_45 : decode method_3_code 45 = .ok (.ireturn, 1) := by decide +kernel
theorem d9_38 : decode method_3_code 38 = .ok (.iconst 0, 1) := by decide +kernel
theorem d9_39 : decode method_3_code 39 = .ok (.ireturn, 1) := by decide +kernel
theorem d9_31 : decode method_3_code 31 = .ok (.iconst 0, 1) := by decide +kernel
theorem d9_32 : decode method_3_code 32 = .ok (.ireturn, 1) := by decide +kernel
theorem d9_11 : decode method_3_code 11 = .ok (.iload_n 2, 1) := by decide +kernel
theorem d9_12 : decode method_3_code 12 = .ok (.ifCond .le 5, 3) := by decide +kernel
theorem d9_15 : decode method_3_code 15 = .ok (.iconst 0, 1) := by decide +kernel
theorem d9_16 : decode method_3_code 16 = .ok (.ireturn, 1) := by decide +kernel
theorem d9_4 : decode method_3_code 4 = .ok (.iconst 0, 1) := by decide +kernel
theorem d9_5 : decode method_3_code 5 = .ok (.ireturn, 1) := by decide +kernel
def Q9 (Z : State) (p0 p1 p2 p3 : Int32) (p4 : Int64) (h0 : Heap) (n0 : Nat) (v : Option Value) (h : Heap) (L : List Loc) : Prop := v = some (.int (own_exp p0 p1 p2 p3 p4)) ∧ Fr n0 L ∧ h = h0
set_option maxRecDepth 65536 in
set_option maxHeartbeats 40000000 in
theorem rm9 (l : Launch) (Z : State) (a0 : Array Value) (hw : ∀ d ∈ tables_1, d.before a0 Z = true) (ws : List Jvm.Cond) (p0 p1 p2 p3 : Int32) (p4 : Int64) (h0 : Heap) (n0 : Nat) :
    MetFree l (⟨"com/example/fedlint/fedlint/Base64CheckValidPinLaw", "expected", "(ZIIIJ)Z"⟩ : MethodName) (head1 (Jvm.Cond.code (⟨"com/example/fedlint/fedlint/Base64CheckValidPinLaw", "expected", "(ZIIIJ)Z"⟩ : MethodName) method_3_code 8 (some .boolean) :: ws) ({ frames := 1, cells := 0, slots := 0, locals := 30 } : Room)) (fun a U => a = #[(.int p0), (.int p1), (.int p2), (.int p3), (.long p4)] ∧ Z.Warmed39 U.vm ∧ U.heap = h0) (fun _ _ _ _ _ => True) (fun _ U o U' => ∃ v L, o = .returned v ∧ Q9 Z p0 p1 p2 p3 p4 h0 n0 v U'.heap L ∧ FrameEnd U o U' L ({ frames := 1, cells := 0, slots := 0, locals := 30 } : Room).cells ({ frames := 1, cells := 0, slots := 0, locals := 30 } : Room).slots) := by
  refine W.bodyOf (y := (⟨"com/example/fedlint/fedlint/Base64CheckValidPinLaw", "expected", "(ZIIIJ)Z"⟩ : MethodName)) (as := #[(.int p0), (.int p1), (.int p2), (.int p3), (.long p4)]) (maxL := 8) (Q := Q9 Z p0 p1 p2 p3 p4 h0 n0) (Ls := #[.val (.int p0), .val (.int p1), .val (.int p2), .val (.int p3), .val (.long p4), .second, .unset, .unset]) (plainFor_of_name pn_com_example_fedlint_fedlint_Base64CheckValidPinLaw) (fun m => by first | exact W.entry_of rfl | rfl | (simp [entryFrame, mkF, argsToLocals, Value.category]; done)) ?_
  intro p e s m below meth c T0 C X0 e0
  have N0 := Fr.nil n0
  refine W.iloadN (q := 1) X0 C d9_0 rfl rfl ?_
  refine W.if_ (q := 6) (q' := 4) X0 C d9_1 (by decide) (by decide) rfl (fun hc287 => ?_) (fun hc287 => ?_)
  · replace hc287 : p0 = 0 := hc287
    have hc287t : p0.toInt = 0 := congrArg Int32.toInt hc287
    refine W.iloadN (q := 7) X0 C d9_6 rfl rfl ?_
    refine W.iconst (q := 8) (v := 1) X0 C d9_7 rfl rfl ?_
    refine W.icmp (q := 17) (q' := 11) X0 C d9_8 (by decide) (by decide) rfl (fun hc288 => ?_) (fun hc288 => ?_)
    · replace hc288 : p3 ≠ (1 : Int32) := hc288
      have hc288t : p3.toInt ≠ 1 := fun q => hc288 (Int32.toInt_inj.mp q)
      refine W.iloadN (q := 18) X0 C d9_17 rfl rfl ?_
      refine W.iloadN (q := 19) X0 C d9_18 rfl rfl ?_
      refine W.iadd (q := 20) X0 C d9_19 rfl ?_
      refine W.iloadN (q := 21) X0 C d9_20 rfl rfl ?_
      refine W.iadd (q := 22) X0 C d9_21 rfl ?_
      refine W.istore (q := 24) (L' := #[.val (.int p0), .val (.int p1), .val (.int p2), .val (.int p3), .val (.long p4), .second, .val (.int ((p1 + p2) + p3)), .unset]) X0 C d9_22 rfl rfl ?_
      refine W.iload (q := 26) X0 C d9_24 rfl rfl ?_
      refine W.iconst (q := 27) (v := 4) X0 C d9_26 rfl rfl ?_
      refine W.irem (q := 28) X0 C d9_27 (by decide) rfl ?_
      refine W.if_ (q := 33) (q' := 31) X0 C d9_28 (by decide) (by decide) rfl (fun hc289 => ?_) (fun hc289 => ?_)
      · replace hc289 : (((p1 + p2) + p3) % (4 : Int32)) = 0 := hc289
        have hc289t : (((p1 + p2) + p3) % (4 : Int32)).toInt = 0 := congrArg Int32.toInt hc289
        refine W.iloadN (q := 34) X0 C d9_33 rfl rfl ?_
        refine W.iconst (q := 35) (v := 2) X0 C d9_34 rfl rfl ?_
        refine W.icmp (q := 40) (q' := 38) X0 C d9_35 (by decide) (by decide) rfl (fun hc290 => ?_) (fun hc290 => ?_)
        · replace hc290 : p2.toInt ≤ 2 := hc290
          refine W.iloadN (q := 41) X0 C d9_40 rfl rfl ?_
          refine W.if_ (q := 46) (q' := 44) X0 C d9_41 (by decide) (by decide) rfl (fun hc291 => ?_) (fun hc291 => ?_)
          · replace hc291 : p2 ≠ 0 := hc291
            have hc291t : p2.toInt ≠ 0 := fun q => hc291 (Int32.toInt_inj.mp q)
            refine W.lload (q := 48) X0 C d9_46 rfl rfl ?_
            refine W.iloadN (q := 49) X0 C d9_48 rfl rfl ?_
            refine W.iconst (q := 50) (v := 1) X0 C d9_49 rfl rfl ?_
            refine W.isub (q := 51) X0 C d9_50 rfl ?_
            refine W.callS (q := 54) X0 C (W.ww hw 6 rfl) (W.ww hw 7 rfl) (W.ww hw 4 rfl) (W.ww hw 8 rfl) (by decide) (rm2 l Z a0 hw [] p4 (p1 - (1 : Int32)) h0 n0) e0 d9_51 [(.long p4), (.int (p1 - (1 : Int32)))] [] rfl rfl pd__28JI_29I rfl rfl (by decide) (Nat.le_of_ble_eq_true rfl) (by decide) (by decide) rfl (fun T292 w292 L292 X292 hQ292 => ?_)
            obtain ⟨rfl, NL292, e292⟩ := hQ292
            have N292 := Fr.app N0 NL292
            show W.Go p e below _ (T292.setTop (mkF m 54 #[.val (.int p0), .val (.int p1), .val (.int p2), .val (.int p3), .val (.long p4), .second, .val (.int ((p1 + p2) + p3)), .unset] [(.int (own_sx p4 (p1 - (1 : Int32))))]))
            refine W.istore (q := 56) (L' := #[.val (.int p0), .val (.int p1), .val (.int p2), .val (.int p3), .val (.long p4), .second, .val (.int ((p1 + p2) + p3)), .val (.int (own_sx p4 (p1 - (1 : Int32))))]) X292 C d9_54 rfl rfl ?_
            refine W.iloadN (q := 57) X292 C d9_56 rfl rfl ?_
            refine W.iconst (q := 58) (v := 2) X292 C d9_57 rfl rfl ?_
            refine W.icmp (q := 77) (q' := 61) X292 C d9_58 (by decide) (by decide) rfl (fun hc293 => ?_) (fun hc293 => ?_)
            · replace hc293 : p2 ≠ (2 : Int32) := hc293
              have hc293t : p2.toInt ≠ 2 := fun q => hc293 (Int32.toInt_inj.mp q)
              refine W.iload (q := 79) X292 C d9_77 rfl rfl ?_
              refine W.iconst (q := 80) (v := 3) X292 C d9_79 rfl rfl ?_
              refine W.iand (q := 81) X292 C d9_80 rfl ?_
              refine W.if_ (q := 88) (q' := 84) X292 C d9_81 (by decide) (by decide) rfl (fun hc294 => ?_) (fun hc294 => ?_)
              · replace hc294 : ((own_sx p4 (p1 - (1 : Int32))) &&& (3 : Int32)) ≠ 0 := hc294
                have hc294t : ((own_sx p4 (p1 - (1 : Int32))) &&& (3 : Int32)).toInt ≠ 0 := fun q => hc294 (Int32.toInt_inj.mp q)
                refine W.iconst (q := 89) (v := 0) X292 C d9_88 rfl rfl ?_
                exact W.retN X292 C (by simp) e292 d9_89 rfl (by decide) (by decide) ⟨congrArg (fun z => some (Value.int z)) (show _ = own_exp p0 p1 p2 p3 p4 by rw [own_exp, if_neg (fun q => q hc287), if_neg (fun q => hc288 q.1), if_neg (fun q => q hc289), if_neg (Int.not_lt.mpr hc290), if_neg hc291, if_neg hc293, if_neg hc294]; try rfl), N292, rfl⟩
              · replace hc294 : ((own_sx p4 (p1 - (1 : Int32))) &&& (3 : Int32)) = 0 := hc294
                have hc294t : ((own_sx p4 (p1 - (1 : Int32))) &&& (3 : Int32)).toInt = 0 := congrArg Int32.toInt hc294
                refine W.iconst (q := 85) (v := 1) X292 C d9_84 rfl rfl ?_
                refine W.goto (q := 89) X292 C d9_85 (by decide) (by decide) ?_
                exact W.retN X292 C (by simp) e292 d9_89 rfl (by decide) (by decide) ⟨congrArg (fun z => some (Value.int z)) (show _ = own_exp p0 p1 p2 p3 p4 by rw [own_exp, if_neg (fun q => q hc287), if_neg (fun q => hc288 q.1), if_neg (fun q => q hc289), if_neg (Int.not_lt.mpr hc290), if_neg hc291, if_neg hc293, if_pos hc294]; try rfl), N292, rfl⟩
            · replace hc293 : p2 = (2 : Int32) := hc293
              have hc293t : p2.toInt = 2 := congrArg Int32.toInt hc293
              refine W.iload (q := 63) X292 C d9_61 rfl rfl ?_
              refine W.bipush (q := 65) (v := 15) X292 C d9_63 rfl rfl ?_
              refine W.iand (q := 66) X292 C d9_65 rfl ?_
              refine W.if_ (q := 73) (q' := 69) X292 C d9_66 (by decide) (by decide) rfl (fun hc295 => ?_) (fun hc295 => ?_)
              · replace hc295 : ((own_sx p4 (p1 - (1 : Int32))) &&& (15 : Int32)) ≠ 0 := hc295
                have hc295t : ((own_sx p4 (p1 - (1 : Int32))) &&& (15 : Int32)).toInt ≠ 0 := fun q => hc295 (Int32.toInt_inj.mp q)
                refine W.iconst (q := 74) (v := 0) X292 C d9_73 rfl rfl ?_
                refine W.goto (q := 89) X292 C d9_74 (by decide) (by decide) ?_
                exact W.retN X292 C (by simp) e292 d9_89 rfl (by decide) (by decide) ⟨congrArg (fun z => some (Value.int z)) (show _ = own_exp p0 p1 p2 p3 p4 by rw [own_exp, if_neg (fun q => q hc287), if_neg (fun q => hc288 q.1), if_neg (fun q => q hc289), if_neg (Int.not_lt.mpr hc290), if_neg hc291, if_pos hc293, if_neg hc295]; try rfl), N292, rfl⟩
              · replace hc295 : ((own_sx p4 (p1 - (1 : Int32))) &&& (15 : Int32)) = 0 := hc295
                have hc295t : ((own_sx p4 (p1 - (1 : Int32))) &&& (15 : Int32)).toInt = 0 := congrArg Int32.toInt hc295
                refine W.iconst (q := 70) (v := 1) X292 C d9_69 rfl rfl ?_
                refine W.goto (q := 89) X292 C d9_70 (by decide) (by decide) ?_
                exact W.retN X292 C (by simp) e292 d9_89 rfl (by decide) (by decide) ⟨congrArg (fun z => some (Value.int z)) (show _ = own_exp p0 p1 p2 p3 p4 by rw [own_exp, if_neg (fun q => q hc287), if_neg (fun q => hc288 q.1), if_neg (fun q => q hc289), if_neg (Int.not_lt.mpr hc290), if_neg hc291, if_pos hc293, if_pos hc295]; try rfl), N292, rfl⟩
          · replace hc291 : p2 = 0 := hc291
            have hc291t : p2.toInt = 0 := congrArg Int32.toInt hc291
            refine W.iconst (q := 45) (v := 1) X0 C d9_44 rfl rfl ?_
            exact W.retN X0 C (by simp) e0 d9_45 rfl (by decide) (by decide) ⟨congrArg (fun z => some (Value.int z)) (show _ = own_exp p0 p1 p2 p3 p4 by rw [own_exp, if_neg (fun q => q hc287), if_neg (fun q => hc288 q.1), if_neg (fun q => q hc289), if_neg (Int.not_lt.mpr hc290), if_pos hc291]; try rfl), N0, rfl⟩
        · replace hc290 : 2 < p2.toInt := hc290
          refine W.iconst (q := 39) (v := 0) X0 C d9_38 rfl rfl ?_
          exact W.retN X0 C (by simp) e0 d9_39 rfl (by decide) (by decide) ⟨congrArg (fun z => some (Value.int z)) (show _ = own_exp p0 p1 p2 p3 p4 by rw [own_exp, if_neg (fun q => q hc287), if_neg (fun q => hc288 q.1), if_neg (fun q => q hc289), if_pos hc290]; try rfl), N0, rfl⟩
      · replace hc289 : (((p1 + p2) + p3) % (4 : Int32)) ≠ 0 := hc289
        have hc289t : (((p1 + p2) + p3) % (4 : Int32)).toInt ≠ 0 := fun q => hc289 (Int32.toInt_inj.mp q)
        refine W.iconst (q := 32) (v := 0) X0 C d9_31 rfl rfl ?_
        exact W.retN X0 C (by simp) e0 d9_32 rfl (by decide) (by decide) ⟨congrArg (fun z => some (Value.int z)) (show _ = own_exp p0 p1 p2 p3 p4 by rw [own_exp, if_neg (fun q => q hc287), if_neg (fun q => hc288 q.1), if_pos hc289]; try rfl), N0, rfl⟩
    · replace hc288 : p3 = (1 : Int32) := hc288
      have hc288t : p3.toInt = 1 := congrArg Int32.toInt hc288
      refine W.iloadN (q := 12) X0 C d9_11 rfl rfl ?_
      refine W.if_ (q := 17) (q' := 15) X0 C d9_12 (by decide) (by decide) rfl (fun hc296 => ?_) (fun hc296 => ?_)
      · replace hc296 : p2.toInt ≤ 0 := hc296
        refine W.iloadN (q := 18) X0 C d9_17 rfl rfl ?_
        refine W.iloadN (q := 19) X0 C d9_18 rfl rfl ?_
        refine W.iadd (q := 20) X0 C d9_19 rfl ?_
        refine W.iloadN (q := 21) X0 C d9_20 rfl rfl ?_
        refine W.iadd (q := 22) X0 C d9_21 rfl ?_
        refine W.istore (q := 24) (L' := #[.val (.int p0), .val (.int p1), .val (.int p2), .val (.int p3), .val (.long p4), .second, .val (.int ((p1 + p2) + p3)), .unset]) X0 C d9_22 rfl rfl ?_
        refine W.iload (q := 26) X0 C d9_24 rfl rfl ?_
        refine W.iconst (q := 27) (v := 4) X0 C d9_26 rfl rfl ?_
        refine W.irem (q := 28) X0 C d9_27 (by decide) rfl ?_
        refine W.if_ (q := 33) (q' := 31) X0 C d9_28 (by decide) (by decide) rfl (fun hc297 => ?_) (fun hc297 => ?_)
        · replace hc297 : (((p1 + p2) + p3) % (4 : Int32)) = 0 := hc297
          have hc297t : (((p1 + p2) + p3) % (4 : Int32)).toInt = 0 := congrArg Int32.toInt hc297
          refine W.iloadN (q := 34) X0 C d9_33 rfl rfl ?_
          refine W.iconst (q := 35) (v := 2) X0 C d9_34 rfl rfl ?_
          refine W.icmp (q := 40) (q' := 38) X0 C d9_35 (by decide) (by decide) rfl (fun hc298 => ?_) (fun hc298 => ?_)
          · replace hc298 : p2.toInt ≤ 2 := hc298
            refine W.iloadN (q := 41) X0 C d9_40 rfl rfl ?_
            refine W.if_ (q := 46) (q' := 44) X0 C d9_41 (by decide) (by decide) rfl (fun hc299 => ?_) (fun hc299 => ?_)
            · replace hc299 : p2 ≠ 0 := hc299
              have hc299t : p2.toInt ≠ 0 := fun q => hc299 (Int32.toInt_inj.mp q)
              refine W.lload (q := 48) X0 C d9_46 rfl rfl ?_
              refine W.iloadN (q := 49) X0 C d9_48 rfl rfl ?_
              refine W.iconst (q := 50) (v := 1) X0 C d9_49 rfl rfl ?_
              refine W.isub (q := 51) X0 C d9_50 rfl ?_
              refine W.callS (q := 54) X0 C (W.ww hw 6 rfl) (W.ww hw 7 rfl) (W.ww hw 4 rfl) (W.ww hw 8 rfl) (by decide) (rm2 l Z a0 hw [] p4 (p1 - (1 : Int32)) h0 n0) e0 d9_51 [(.long p4), (.int (p1 - (1 : Int32)))] [] rfl rfl pd__28JI_29I rfl rfl (by decide) (Nat.le_of_ble_eq_true rfl) (by decide) (by decide) rfl (fun T300 w300 L300 X300 hQ300 => ?_)
              obtain ⟨rfl, NL300, e300⟩ := hQ300
              have N300 := Fr.app N0 NL300
              show W.Go p e below _ (T300.setTop (mkF m 54 #[.val (.int p0), .val (.int p1), .val (.int p2), .val (.int p3), .val (.long p4), .second, .val (.int ((p1 + p2) + p3)), .unset] [(.int (own_sx p4 (p1 - (1 : Int32))))]))
              refine W.istore (q := 56) (L' := #[.val (.int p0), .val (.int p1), .val (.int p2), .val (.int p3), .val (.long p4), .second, .val (.int ((p1 + p2) + p3)), .val (.int (own_sx p4 (p1 - (1 : Int32))))]) X300 C d9_54 rfl rfl ?_
              refine W.iloadN (q := 57) X300 C d9_56 rfl rfl ?_
              refine W.iconst (q := 58) (v := 2) X300 C d9_57 rfl rfl ?_
              refine W.icmp (q := 77) (q' := 61) X300 C d9_58 (by decide) (by decide) rfl (fun hc301 => ?_) (fun hc301 => ?_)
              · replace hc301 : p2 ≠ (2 : Int32) := hc301
                have hc301t : p2.toInt ≠ 2 := fun q => hc301 (Int32.toInt_inj.mp q)
                refine W.iload (q := 79) X300 C d9_77 rfl rfl ?_
                refine W.iconst (q := 80) (v := 3) X300 C d9_79 rfl rfl ?_
                refine W.iand (q := 81) X300 C d9_80 rfl ?_
                refine W.if_ (q := 88) (q' := 84) X300 C d9_81 (by decide) (by decide) rfl (fun hc302 => ?_) (fun hc302 => ?_)
                · replace hc302 : ((own_sx p4 (p1 - (1 : Int32))) &&& (3 : Int32)) ≠ 0 := hc302
                  have hc302t : ((own_sx p4 (p1 - (1 : Int32))) &&& (3 : Int32)).toInt ≠ 0 := fun q => hc302 (Int32.toInt_inj.mp q)
                  refine W.iconst (q := 89) (v := 0) X300 C d9_88 rfl rfl ?_
                  exact W.retN X300 C (by simp) e300 d9_89 rfl (by decide) (by decide) ⟨congrArg (fun z => some (Value.int z)) (show _ = own_exp p0 p1 p2 p3 p4 by rw [own_exp, if_neg (fun q => q hc287), if_neg (fun q => Int.not_lt.mpr hc296 q.2), if_neg (fun q => q hc297), if_neg (Int.not_lt.mpr hc298), if_neg hc299, if_neg hc301, if_neg hc302]; try rfl), N300, rfl⟩
                · replace hc302 : ((own_sx p4 (p1 - (1 : Int32))) &&& (3 : Int32)) = 0 := hc302
                  have hc302t : ((own_sx p4 (p1 - (1 : Int32))) &&& (3 : Int32)).toInt = 0 := congrArg Int32.toInt hc302
                  refine W.iconst (q := 85) (v := 1) X300 C d9_84 rfl rfl ?_
                  refine W.goto (q := 89) X300 C d9_85 (by decide) (by decide) ?_
                  exact W.retN X300 C (by simp) e300 d9_89 rfl (by decide) (by decide) ⟨congrArg (fun z => some (Value.int z)) (show _ = own_exp p0 p1 p2 p3 p4 by rw [own_exp, if_neg (fun q => q hc287), if_neg (fun q => Int.not_lt.mpr hc296 q.2), if_neg (fun q => q hc297), if_neg (Int.not_lt.mpr hc298), if_neg hc299, if_neg hc301, if_pos hc302]; try rfl), N300, rfl⟩
              · replace hc301 : p2 = (2 : Int32) := hc301
                have hc301t : p2.toInt = 2 := congrArg Int32.toInt hc301
                refine W.iload (q := 63) X300 C d9_61 rfl rfl ?_
                refine W.bipush (q := 65) (v := 15) X300 C d9_63 rfl rfl ?_
                refine W.iand (q := 66) X300 C d9_65 rfl ?_
                refine W.if_ (q := 73) (q' := 69) X300 C d9_66 (by decide) (by decide) rfl (fun hc303 => ?_) (fun hc303 => ?_)
                · replace hc303 : ((own_sx p4 (p1 - (1 : Int32))) &&& (15 : Int32)) ≠ 0 := hc303
                  have hc303t : ((own_sx p4 (p1 - (1 : Int32))) &&& (15 : Int32)).toInt ≠ 0 := fun q => hc303 (Int32.toInt_inj.mp q)
                  refine W.iconst (q := 74) (v := 0) X300 C d9_73 rfl rfl ?_
                  refine W.goto (q := 89) X300 C d9_74 (by decide) (by decide) ?_
                  exact W.retN X300 C (by simp) e300 d9_89 rfl (by decide) (by decide) ⟨congrArg (fun z => some (Value.int z)) (show _ = own_exp p0 p1 p2 p3 p4 by rw [own_exp, if_neg (fun q => q hc287), if_neg (fun q => Int.not_lt.mpr hc296 q.2), if_neg (fun q => q hc297), if_neg (Int.not_lt.mpr hc298), if_neg hc299, if_pos hc301, if_neg hc303]; try rfl), N300, rfl⟩
                · replace hc303 : ((own_sx p4 (p1 - (1 : Int32))) &&& (15 : Int32)) = 0 := hc303
                  have hc303t : ((own_sx p4 (p1 - (1 : Int32))) &&& (15 : Int32)).toInt = 0 := congrArg Int32.toInt hc303
                  refine W.iconst (q := 70) (v := 1) X300 C d9_69 rfl rfl ?_
                  refine W.goto (q := 89) X300 C d9_70 (by decide) (by decide) ?_
                  exact W.retN X300 C (by simp) e300 d9_89 rfl (by decide) (by decide) ⟨congrArg (fun z => some (Value.int z)) (show _ = own_exp p0 p1 p2 p3 p4 by rw [own_exp, if_neg (fun q => q hc287), if_neg (fun q => Int.not_lt.mpr hc296 q.2), if_neg (fun q => q hc297), if_neg (Int.not_lt.mpr hc298), if_neg hc299, if_pos hc301, if_pos hc303]; try rfl), N300, rfl⟩
            · replace hc299 : p2 = 0 := hc299
              have hc299t : p2.toInt = 0 := congrArg Int32.toInt hc299
              refine W.iconst (q := 45) (v := 1) X0 C d9_44 rfl rfl ?_
              exact W.retN X0 C (by simp) e0 d9_45 rfl (by decide) (by decide) ⟨congrArg (fun z => some (Value.int z)) (show _ = own_exp p0 p1 p2 p3 p4 by rw [own_exp, if_neg (fun q => q hc287), if_neg (fun q => Int.not_lt.mpr hc296 q.2), if_neg (fun q => q hc297), if_neg (Int.not_lt.mpr hc298), if_pos hc299]; try rfl), N0, rfl⟩
          · replace hc298 : 2 < p2.toInt := hc298
            refine W.iconst (q := 39) (v := 0) X0 C d9_38 rfl rfl ?_
            exact W.retN X0 C (by simp) e0 d9_39 rfl (by decide) (by decide) ⟨congrArg (fun z => some (Value.int z)) (show _ = own_exp p0 p1 p2 p3 p4 by rw [own_exp, if_neg (fun q => q hc287), if_neg (fun q => Int.not_lt.mpr hc296 q.2), if_neg (fun q => q hc297), if_pos hc298]; try rfl), N0, rfl⟩
        · replace hc297 : (((p1 + p2) + p3) % (4 : Int32)) ≠ 0 := hc297
          have hc297t : (((p1 + p2) + p3) % (4 : Int32)).toInt ≠ 0 := fun q => hc297 (Int32.toInt_inj.mp q)
          refine W.iconst (q := 32) (v := 0) X0 C d9_31 rfl rfl ?_
          exact W.retN X0 C (by simp) e0 d9_32 rfl (by decide) (by decide) ⟨congrArg (fun z => some (Value.int z)) (show _ = own_exp p0 p1 p2 p3 p4 by rw [own_exp, if_neg (fun q => q hc287), if_neg (fun q => Int.not_lt.mpr hc296 q.2), if_pos hc297]; try rfl), N0, rfl⟩
      · replace hc296 : 0 < p2.toInt := hc296
        refine W.iconst (q := 16) (v := 0) X0 C d9_15 rfl rfl ?_
        exact W.retN X0 C (by simp) e0 d9_16 rfl (by decide) (by decide) ⟨congrArg (fun z => some (Value.int z)) (show _ = own_exp p0 p1 p2 p3 p4 by rw [own_exp, if_neg (fun q => q hc287), if_pos ⟨hc288, hc296⟩]; try rfl), N0, rfl⟩
  · replace hc287 : p0 ≠ 0 := hc287
    have hc287t : p0.toInt ≠ 0 := fun q => hc287 (Int32.toInt_inj.mp q)
    refine W.iconst (q := 5) (v := 0) X0 C d9_4 rfl rfl ?_
    exact W.retN X0 C (by simp) e0 d9_5 rfl (by decide) (by decide) ⟨congrArg (fun z => some (Value.int z)) (show _ = own_exp p0 p1 p2 p3 p4 by rw [own_exp, if_pos hc287]; try rfl), N0, rfl⟩
def own_tok (n q len off : Nat) (i : Nat) : Int := if i < off ∨ off + len ≤ i then -2 else if i < off + n then ((i - off : Nat) : Int) else if i < off + n + q then -1 else 7
abbrev own_A : Type := Int32 × Int32 × Int × Int32
def own_stepA (s : own_A) (t : Int) : own_A := if 0 ≤ t then (s.1 + (1 : Int32), s.2.1, t, if 0 < s.2.1.toInt then 1 else 0) else if t = -1 then (s.1 + (1 : Int32), s.2.1 + (1 : Int32), s.2.2.1, s.2.2.2) else (s.1, s.2.1, s.2.2.1, 0)
def own_runA : Nat → (Nat → Int) → Nat → own_A → own_A
  | 0, _, _, s => s
  | k + 1, f, i, s => if s.2.2.2 ≠ 0 then s else own_runA k f (i + 1) (own_stepA s (f i))
def own_vl (a : Int64) (t : Int) : Int32 := if t = 100 then 0 else if t < 0 then Int32.ofInt t else own_sx a (Int32.ofInt t)
def own_cc (a : Int64) (s : own_A) : own_S := (s.1, s.2.1, own_vl a s.2.2.1, s.2.2.2)
theorem own_stepE (a : Int64) (s : own_A) (t : Int) (h : t = -1 ∨ t = -2 ∨ (0 ≤ t ∧ t < 100)) : own_step (own_cc a s) (own_vl a t) = own_cc a (own_stepA s t) := by
  rcases h with rfl | rfl | ⟨h1, h2⟩
  · rfl
  · rfl
  · have e : own_vl a t = own_sx a (Int32.ofInt t) := by unfold own_vl; rw [if_neg (by omega), if_neg (by omega)]
    unfold own_step own_stepA
    rw [if_pos (by rw [e]; exact (own_sx63 a _).1), if_pos h1]
    rfl
theorem own_runE (a : Int64) (ls : List Int32) (f : Nat → Int) (hf : ∀ i, f i = -1 ∨ f i = -2 ∨ (0 ≤ f i ∧ f i < 100)) : ∀ (k i : Nat) (s : own_A), i + k ≤ 12 → (∀ j, j < 12 → own_tb (ls.getD j 0) = own_vl a (f j)) → own_run k ls i (own_cc a s) = own_cc a (own_runA k f i s)
  | 0, _, _, _, _ => rfl
  | k + 1, i, s, hk, hl => by
    rw [own_runS, own_runA]
    by_cases h : s.2.2.2 ≠ 0
    · rw [if_pos (show (own_cc a s).2.2.2 ≠ 0 from h), if_pos h]
    · rw [if_neg (show ¬ (own_cc a s).2.2.2 ≠ 0 from h), if_neg h, hl i (by omega), own_stepE a s (f i) (hf i)]
      exact own_runE a ls f hf k (i + 1) _ (by omega) hl
theorem own_tokr (n q len off i : Nat) (h : n ≤ 99) : own_tok n q len off i = -1 ∨ own_tok n q len off i = -2 ∨ (0 ≤ own_tok n q len off i ∧ own_tok n q len off i < 100) := by
  unfold own_tok
  split
  · right; left; rfl
  · split
    · right; right; omega
    · split
      · left; rfl
      · right; right; omega
def own_res (n q t : Nat) : own_A := (Int32.ofInt ((n + q + t : Nat) : Int), Int32.ofInt (q : Int), if t = 1 then 7 else if n = 0 then 100 else ((n - 1 : Nat) : Int), if t = 1 ∧ 0 < q then 1 else 0)
set_option maxRecDepth 65536 in
theorem own_resall : ∀ n : Fin 8, ∀ q : Fin 4, ∀ t : Fin 2, ∀ o : Fin 13, ¬ o.1 + (n.1 + q.1 + t.1) ≤ 12 ∨ own_runA 12 (own_tok n.1 q.1 (n.1 + q.1 + t.1) o.1) 0 (0, 0, 100, 0) = own_res n.1 q.1 t.1 := by decide +kernel
def own_vA (c p w : Int32) (z15 z3 : Bool) : Int32 := if w ≠ 0 ∨ c % (4 : Int32) ≠ 0 ∨ 2 < p.toInt then 0 else if p = 0 ∨ (if p = (2 : Int32) then z15 else z3) = true then 1 else 0
def own_eA (n q t : Int32) (z15 z3 : Bool) : Int32 := if t = (1 : Int32) ∧ 0 < q.toInt then 0 else if (n + q + t) % (4 : Int32) ≠ 0 then 0 else if 2 < q.toInt then 0 else if q = 0 then 1 else if q = (2 : Int32) then (if z15 = true then 1 else 0) else (if z3 = true then 1 else 0)
theorem own_vE (c p b w : Int32) : own_val (c, p, b, w) = own_vA c p w (decide ((b &&& (15 : Int32)) = 0)) (decide ((b &&& (3 : Int32)) = 0)) := by
  unfold own_val own_vA
  by_cases h : p = (2 : Int32)
  · simp [h]
  · simp [h]
theorem own_eE (n q t : Int32) (a : Int64) : own_exp 0 n q t a = own_eA n q t (decide ((own_sx a (n - (1 : Int32)) &&& (15 : Int32)) = 0)) (decide ((own_sx a (n - (1 : Int32)) &&& (3 : Int32)) = 0)) := by
  unfold own_exp own_eA
  rw [if_neg (show ¬ (0 : Int32) ≠ 0 by decide)]
  simp
theorem own_dec : ∀ n : Fin 8, ∀ q : Fin 4, ∀ t : Fin 2, ∀ z15 z3 y15 y3 : Bool, own_vA (own_res n.1 q.1 t.1).1 (own_res n.1 q.1 t.1).2.1 (own_res n.1 q.1 t.1).2.2.2 (if t.1 = 1 then y15 else if n.1 = 0 then true else z15) (if t.1 = 1 then y3 else if n.1 = 0 then true else z3) = own_eA (Int32.ofInt (n.1 : Int)) (Int32.ofInt (q.1 : Int)) (Int32.ofInt (t.1 : Int)) z15 z3 := by decide +kernel
theorem own_n1 : ∀ n : Fin 8, n.1 = 0 ∨ Int32.ofInt (((n.1 - 1 : Nat) : Int)) = Int32.ofInt (n.1 : Int) - (1 : Int32) := by decide +kernel
theorem own_core (n : Fin 8) (q : Fin 4) (t : Fin 2) (o : Fin 13) (ho : o.1 + (n.1 + q.1 + t.1) ≤ 12) (a : Int64) (ls : List Int32) (hl : ∀ j, j < 12 → own_tb (ls.getD j 0) = own_vl a (own_tok n.1 q.1 (n.1 + q.1 + t.1) o.1 j)) : own_val (own_run 12 ls 0 (0, 0, 0, 0)) = own_exp 0 (Int32.ofInt (n.1 : Int)) (Int32.ofInt (q.1 : Int)) (Int32.ofInt (t.1 : Int)) a := by
  have e := own_runE a ls _ (fun i => own_tokr n.1 q.1 (n.1 + q.1 + t.1) o.1 i (by omega)) 12 0 (0, 0, 100, 0) (by omega) hl
  rw [show own_cc a (0, 0, 100, 0) = ((0, 0, 0, 0) : own_S) from rfl, (own_resall n q t o).resolve_left (fun z => z ho)] at e
  rw [e]
  show own_val ((own_res n.1 q.1 t.1).1, (own_res n.1 q.1 t.1).2.1, own_vl a (own_res n.1 q.1 t.1).2.2.1, (own_res n.1 q.1 t.1).2.2.2) = _
  rw [own_vE, own_eE, ← own_dec n q t _ _ (decide ((own_sx a 7 &&& (15 : Int32)) = 0)) (decide ((own_sx a 7 &&& (3 : Int32)) = 0))]
  have hb : own_vl a (own_res n.1 q.1 t.1).2.2.1 = if t.1 = 1 then own_sx a 7 else if n.1 = 0 then 0 else own_sx a (Int32.ofInt (n.1 : Int) - (1 : Int32)) := by
    show own_vl a (if t.1 = 1 then 7 else if n.1 = 0 then 100 else ((n.1 - 1 : Nat) : Int)) = _
    by_cases h1 : t.1 = 1
    · rw [if_pos h1, if_pos h1]; rfl
    · rw [if_neg h1, if_neg h1]
      by_cases h2 : n.1 = 0
      · rw [if_pos h2, if_pos h2]; rfl
      · rw [if_neg h2, if_neg h2]
        unfold own_vl
        rw [if_neg (by omega), if_neg (by omega), (own_n1 n).resolve_left h2]
  rw [hb]
  by_cases h1 : t.1 = 1
  · simp only [if_pos h1]
  · simp only [if_neg h1]
    by_cases h2 : n.1 = 0
    · simp only [if_pos h2]; rfl
    · simp only [if_neg h2]
theorem own_hit : ∀ (k : Nat) (l : List Int32) (i : Nat) (s : own_S) (j : Nat), i ≤ j → j < i + k → own_tb (l.getD j 0) = (-3 : Int32) → (own_run k l i s).2.2.2 ≠ 0
  | 0, _, _, _, _, h1, h2, _ => by omega
  | k + 1, l, i, s, j, h1, h2, h => by
    rw [own_runS]
    split
    · assumption
    · by_cases e : i = j
      · subst e
        rw [h]
        have q : (own_step s (-3)).2.2.2 ≠ 0 := by
          show (1 : Int32) ≠ 0; decide
        rw [own_stop q]; exact q
      · exact own_hit k l (i + 1) _ j (by omega) (by omega) h
theorem own_sp {w : Int32} (h : w = 32 ∨ w = 9 ∨ w = 10 ∨ w = 13) : own_tb w = -2 ∧ own_r16 w := by
  rcases h with rfl | rfl | rfl | rfl <;> exact ⟨by decide, by decide, by decide⟩
theorem own_back {x : Int32} {n : Nat} (h : x.toInt = n) : Int32.ofInt (n : Int) = x := by rw [← h]; exact Int32.ofInt_toInt x
theorem own_cls {i n q t off len w : Int32} {a : Int64} {I N Q T O : Nat} (hi : i.toInt = I) (hn : n.toInt = N) (hq : q.toInt = Q) (ht : t.toInt = T) (ho : off.toInt = O) (hlen : len.toInt = ((N + Q + T : Nat) : Int)) (hI : I < 12) (hN : N < 8) (hQ : Q < 4) (hT : T < 2) (hO : O ≤ 12) (hw : own_tb w = -2) : own_tb (own_pk (i - off) n q len a w) = own_vl a (own_tok N Q (N + Q + T) O I) := by
  have a1 := c_isub i off
  have r := rng32 (i - off)
  have e1 : (i - off).toInt = (I : Int) - (O : Int) := by omega
  have a2 := c_iadd n q
  have r2 := rng32 (n + q)
  have e2 : (n + q).toInt = (N : Int) + (Q : Int) := by omega
  unfold own_pk own_tok
  by_cases c1 : I < O ∨ O + (N + Q + T) ≤ I
  · rw [if_pos (by omega), if_pos c1, hw]; rfl
  · rw [if_neg (by omega), if_neg c1]
    by_cases c2 : I < O + N
    · rw [if_pos (by omega), if_pos c2, own_tal _ (own_sx63 a _).1 (own_sx63 a _).2]
      have e3 : Int32.ofInt ((I - O : Nat) : Int) = i - off := own_back (by omega)
      unfold own_vl
      rw [if_neg (by omega), if_neg (by omega), e3]
    · rw [if_neg (by omega), if_neg c2]
      by_cases c3 : I < O + N + Q
      · rw [if_pos (by omega), if_pos c3]; rfl
      · rw [if_neg (by omega), if_neg c3, own_tal _ (own_sx63 a _).1 (own_sx63 a _).2]; rfl
theorem own_shape (x v : Int32) (m : Int32) (k : Nat) (hk : k ≤ 31) (hm : m.toBitVec.toNat = 2 ^ k - 1) (h : (x &&& m) = v) : ∃ N : Nat, v.toInt = N ∧ N < 2 ^ k := by
  have a1 := c_mask x m k hk hm
  rw [h] at a1
  have p : (0 : Int) < ((2 ^ k : Nat) : Int) := Int.natCast_pos.mpr (Nat.two_pow_pos k)
  have u1 := Int.emod_nonneg x.toInt (show ((2 ^ k : Nat) : Int) ≠ 0 by omega)
  have u2 := Int.emod_lt_of_pos x.toInt p
  exact ⟨v.toInt.toNat, by omega, by omega⟩
theorem own_remv (x v y : Int32) (hy : 0 < y.toInt) (h : ((x &&& (2147483647 : Int32)) % y) = v) : ∃ N : Nat, v.toInt = N ∧ (N : Int) < y.toInt := by
  have a1 := c_mask x 2147483647 31 (by decide) (by decide)
  have a2 := (c_irem (x &&& 2147483647) y y.toInt rfl).1 (by omega)
  rw [h] at a2
  have u1 := Int.emod_nonneg (x &&& 2147483647).toInt (show y.toInt ≠ 0 by omega)
  have u2 := Int.emod_lt_of_pos (x &&& 2147483647).toInt hy
  exact ⟨v.toInt.toNat, by omega, by omega⟩
theorem own_bpos (x v : Int32) (h : ((x &&& (32767 : Int32)) % (12 : Int32)) = v) : own_in v := by
  have a1 := c_mask x 32767 15 (by decide) (by decide)
  have a2 := (c_irem (x &&& 32767) 12 12 (by decide)).1 (by omega)
  rw [h] at a2
  unfold own_in; rw [own_i12]; omega
theorem own_len3 {n q t u v : Int32} {N Q T : Nat} (hn : n.toInt = N) (hq : q.toInt = Q) (ht : t.toInt = T) (hN : N < 8) (hQ : Q < 4) (hT : T < 2) (h : (n + q) + t = v) : v.toInt = ((N + Q + T : Nat) : Int) := by
  have a1 := c_iadd n q; have a2 := c_iadd (n + q) t
  have r1 := rng32 (n + q); have r2 := rng32 v
  rw [h] at a2
  omega
theorem own_13 {len v : Int32} {K : Nat} (h : len.toInt = K) (hK : K ≤ 11) : ((13 : Int32) - len).toInt = 13 - K ∧ (13 : Int32) - len ≠ 0 := by
  have a1 := c_isub 13 len
  have k : (13 : Int32).toInt = 13 := rfl
  have r := rng32 (13 - len)
  have e : ((13 : Int32) - len).toInt = 13 - K := by omega
  refine ⟨e, fun q => ?_⟩
  rw [q] at e
  have : (0 : Int32).toInt = 0 := rfl
  omega
theorem own_sub12 {k : Int32} {K : Nat} (h : k.toInt = K) (hK : K ≤ 12) : (k + ((12 : Int32) - k)).toInt = 12 ∧ ((0 : Int32) + k).toInt = K := by
  have a1 := c_isub 12 k; have a2 := c_iadd k (12 - k); have a3 := c_iadd 0 k
  have k1 : (12 : Int32).toInt = 12 := rfl
  have k0 : (0 : Int32).toInt = 0 := rfl
  have r1 := rng32 (12 - k); have r2 := rng32 (k + (12 - k)); have r3 := rng32 (0 + k)
  omega
theorem own_w01 : ∀ (k : Nat) (l : List Int32) (i : Nat) (s : own_S), (s.2.2.2 = 0 ∨ s.2.2.2 = 1) → (own_run k l i s).2.2.2 = 0 ∨ (own_run k l i s).2.2.2 = 1
  | 0, _, _, _, h => h
  | k + 1, l, i, s, h => by
    rw [own_runS]
    split
    · exact h
    · refine own_w01 k l (i + 1) _ ?_
      unfold own_step
      split
      · exact own_01
      · split
        · exact h
        · exact own_01
theorem pd__28_29V : parseMethodDescriptor "()V" = some ⟨[], none⟩ := by decide +kernel
theorem pd__28_5bCII_29V : parseMethodDescriptor "([CII)V" = some ⟨[(.array .char), .int, .int], none⟩ := by decide +kernel
theorem pd__28_29Z : parseMethodDescriptor "()Z" = some ⟨[], some .boolean⟩ := by decide +kernel
theorem pd__28ZIIIJ_29Z : parseMethodDescriptor "(ZIIIJ)Z" = some ⟨[.boolean, .int, .int, .int, .long], some .boolean⟩ := by decide +kernel
set_option maxRecDepth 65536 in
set_option maxHeartbeats 40000000 in
theorem own_j413 (l : Launch) (Z : State) (a0 : Array Value) (hw : ∀ d ∈ tables_1, d.before a0 Z = true) (h0 : Heap) (n0 : Nat) (p0 : Int64) (p2 p3 p4 p5 n q t bo len ws w off cc bp br : Int32) (arr : Addr) (ka : ClassId) (ls : List Int32) (sxa : Addr) (kx : ClassId) (vsx : List Value) {p : Program} {e : Env} {s : State} {m : MethodId} {args : Array Value} {below : List Frame} {meth : Method} {c : Code} {T0 : State} {locs : List Loc}
    (C : W.Cx p s m meth c Z code 21 "com/example/fedlint/fedlint/Base64CheckValidPinLaw" "law" (some .boolean)) (X0 : Stand p l e room_1 s m args below meth c T0 locs 1 12) (e0 : T0.heap = h0) (N0 : Fr n0 locs) (Z0 : n0 ≤ h0.size) (O0 : Old Z n0 h0) (SX : Sta Z Z.heap "com/example/fedlint/fedlint/Base64Binary" "SEXTETS" "[B" (.ref sxa)) (VSX : Arv Z Z.heap sxa kx .byte (128 : Int32) vsx (.int (0 : Int32))) (hTab : own_Tab vsx) (hsz : sxa < n0) (gea : n0 ≤ arr) (VA : Arv Z h0 arr ka .char (12 : Int32) (own_vs ls) (.int (0 : Int32))) (hok : own_okc ls) (hfin : own_val (own_run 12 ls 0 (0, 0, 0, 0)) = own_exp br n q t p0) :
    W.Go p e below (W.Post s (fun v h L => v = some (.int 1) ∧ Fr n0 L) room_1.cells room_1.slots) (T0.setTop (mkF m 413 #[.val (.long p0), .second, .val (.int p2), .val (.int p3), .val (.int p4), .val (.int p5), .val (.int n), .val (.int q), .val (.int t), .val (.int bo), .val (.int len), .val (.int ws), .val (.int w), .val (.int off), .val (.ref arr), .val (.int cc), .val (.int bp), .val (.int br), .unset, .unset, .unset] [])) := by
  refine W.iload (q := 415) X0 C at_413 rfl rfl ?_
  refine W.ldcI (q := 417) X0 C (W.ww hw 0 rfl) at_415 rfl ?_
  refine W.iand (q := 418) X0 C at_417 rfl ?_
  refine W.bipush (q := 420) (v := 13) X0 C at_418 rfl rfl ?_
  refine W.irem (q := 421) X0 C at_420 (by decide) rfl ?_
  generalize hv304 : ((p5 &&& (2147483647 : Int32)) % (13 : Int32)) = v304
  refine W.istore (q := 423) (L' := #[.val (.long p0), .second, .val (.int p2), .val (.int p3), .val (.int p4), .val (.int p5), .val (.int n), .val (.int q), .val (.int t), .val (.int bo), .val (.int len), .val (.int ws), .val (.int w), .val (.int off), .val (.ref arr), .val (.int cc), .val (.int bp), .val (.int br), .val (.int v304), .unset, .unset]) X0 C at_421 rfl rfl ?_
  obtain ⟨K, hK, hK13⟩ := own_remv _ _ _ (by decide) hv304
  replace hK13 : K ≤ 12 := by have : (13 : Int32).toInt = 13 := rfl; omega
  obtain ⟨u12, u0⟩ := own_sub12 hK hK13
  obtain ⟨rc1, rp1, rb1, rw1, hr1⟩ : ∃ a b c d, own_run K ls 0 (0, 0, 0, 0) = (a, b, c, d) := ⟨_, _, _, _, rfl⟩
  obtain ⟨rc2, rp2, rb2, rw2, hr2⟩ : ∃ a b c d, own_run (12 - K) ls K (rc1, rp1, rb1, rw1) = (a, b, c, d) := ⟨_, _, _, _, rfl⟩
  have w1 : rw1 = 0 ∨ rw1 = 1 := by have := own_w01 K ls 0 (0, 0, 0, 0) (Or.inl rfl); rw [hr1] at this; exact this
  have hall : own_run 12 ls 0 (0, 0, 0, 0) = (rc2, rp2, rb2, rw2) := by have z := own_radd K (12 - K) ls 0 (0, 0, 0, 0); rw [show K + (12 - K) = 12 by omega, hr1, Nat.zero_add, hr2] at z; exact z
  have kn : v304.toNatClampNeg = K := by simp only [Int32.toNatClampNeg, hK]; rfl
  refine W.newO (q := 426) X0 C (W.ww hw 14 rfl) (W.ww hw 15 rfl) (W.ww hw 16 rfl) e0 at_423 (by decide) (by decide) rfl (fun T305 h305 b305 X305 e305 g305 E305 A305 D305 => ?_)
  have ne_arr_b305 : arr ≠ b305 := by rw [g305]; exact Nat.ne_of_lt VA.lt
  have ge_b305 : n0 ≤ b305 := by rw [g305]; exact Z0
  have n0_305 : n0 ≤ h305.size := Nat.le_trans Z0 E305.1
  have O0_307 := O0.ext E305
  have VA_308 := VA.ext E305
  have F_count_309 : Fld Z h305 b305 "com/example/fedlint/fedlint/SimpleValues$Base64Check" "count" "I" (.int (0 : Int32)) := D305 (Or.inl (W.ww hw 29 rfl)) (ty := .int) (by decide)
  have F_padding_310 : Fld Z h305 b305 "com/example/fedlint/fedlint/SimpleValues$Base64Check" "padding" "I" (.int (0 : Int32)) := D305 (Or.inl (W.ww hw 31 rfl)) (ty := .int) (by decide)
  have F_last_311 : Fld Z h305 b305 "com/example/fedlint/fedlint/SimpleValues$Base64Check" "last" "I" (.int (0 : Int32)) := D305 (Or.inl (W.ww hw 33 rfl)) (ty := .int) (by decide)
  have F_broken_312 : Fld Z h305 b305 "com/example/fedlint/fedlint/SimpleValues$Base64Check" "broken" "Z" (.int (0 : Int32)) := D305 (Or.inl (W.ww hw 35 rfl)) (ty := .boolean) (by decide)
  refine W.dup (q := 427) X305 C at_426 rfl rfl ?_
  refine W.callI (q := 430) X305 C rfl (W.ww hw 17 rfl) (W.ww hw 18 rfl) (W.ww hw 16 rfl) (W.ww hw 19 rfl) (by decide) (rm4 l Z a0 hw [] b305 h305 n0) e305 at_427 (a := b305) [] [(.ref b305)] rfl rfl pd__28_29V rfl rfl (by decide) (Nat.le_of_ble_eq_true rfl) (by decide) (by decide) rfl (fun T313 w313 L313 X313 hQ313 => ?_)
  obtain ⟨rfl, NL313, e313⟩ := hQ313
  have N313 := Fr.app N0 NL313
  show W.Go p e below _ (T313.setTop (mkF m 430 #[.val (.long p0), .second, .val (.int p2), .val (.int p3), .val (.int p4), .val (.int p5), .val (.int n), .val (.int q), .val (.int t), .val (.int bo), .val (.int len), .val (.int ws), .val (.int w), .val (.int off), .val (.ref arr), .val (.int cc), .val (.int bp), .val (.int br), .val (.int v304), .unset, .unset] [(.ref b305)]))
  refine W.astore (q := 432) (L' := #[.val (.long p0), .second, .val (.int p2), .val (.int p3), .val (.int p4), .val (.int p5), .val (.int n), .val (.int q), .val (.int t), .val (.int bo), .val (.int len), .val (.int ws), .val (.int w), .val (.int off), .val (.ref arr), .val (.int cc), .val (.int bp), .val (.int br), .val (.int v304), .val (.ref b305), .unset]) X313 C at_430 rfl rfl rfl ?_
  have S432 := SX.ext O0_307.2
  have V432 := VSX.ext O0_307.2
  have nes : b305 ≠ sxa := fun z => absurd hsz (Nat.not_lt.mpr (z ▸ ge_b305))
  have nes' : arr ≠ sxa := fun z => absurd hsz (Nat.not_lt.mpr (z ▸ gea))
  refine W.aload (q := 434) X313 C at_432 rfl rfl rfl ?_
  refine W.aload (q := 436) X313 C at_434 rfl rfl rfl ?_
  refine W.iconst (q := 437) (v := 0) X313 C at_436 rfl rfl ?_
  refine W.iload (q := 439) X313 C at_437 rfl rfl ?_
  refine W.callV (q := 442) X313 C (W.ww hw 23 rfl) (W.ww hw 24 rfl) (W.nf C (W.ww hw 26 rfl)) (W.ww hw 26 rfl) (W.ww hw 25 rfl) (W.ww hw 16 rfl) (W.ww hw 27 rfl) (by decide) (rm6 l Z a0 hw [] b305 arr (0 : Int32) v304 ka ls sxa kx vsx (0 : Int32) (0 : Int32) (0 : Int32) (0 : Int32) rc1 rp1 rb1 rw1 K h305 n0 ge_b305 (Ne.symm ne_arr_b305) nes hok hTab ⟨by rw [u0]; omega, by rw [u0]; omega⟩ A305 VA_308 S432 V432 F_count_309 F_padding_310 F_last_311 F_broken_312 (by decide) (by rw [u0]; show (0 : Int) + (K : Int) = K; omega) (Or.inl rfl) hr1) e313 A305 at_439 [(.ref arr), (.int (0 : Int32)), (.int v304)] [] rfl rfl pd__28_5bCII_29V rfl rfl (by decide) (Nat.le_of_ble_eq_true rfl) (by decide) (by decide) rfl (fun T314 w314 L314 X314 hQ314 => ?_)
  obtain ⟨rfl, NL314, K314, E_314, Fc_314, Fp_314, Fl_314, Fw_314⟩ := hQ314
  have N314 := Fr.app N313 NL314
  have O0_316 := O0_307.keep K314 (allS ge_b305 all0)
  have VA_317 := VA_308.keep K314 (ninS ne_arr_b305 nin0)
  have V432_318 := V432.keep K314 (ninS (Ne.symm nes) nin0)
  have S_314 := SX.ext O0_316.2
  show W.Go p e below _ (T314.setTop (mkF m 442 #[.val (.long p0), .second, .val (.int p2), .val (.int p3), .val (.int p4), .val (.int p5), .val (.int n), .val (.int q), .val (.int t), .val (.int bo), .val (.int len), .val (.int ws), .val (.int w), .val (.int off), .val (.ref arr), .val (.int cc), .val (.int bp), .val (.int br), .val (.int v304), .val (.ref b305), .unset] []))
  refine W.aload (q := 444) X314 C at_442 rfl rfl rfl ?_
  refine W.aload (q := 446) X314 C at_444 rfl rfl rfl ?_
  refine W.iload (q := 448) X314 C at_446 rfl rfl ?_
  refine W.bipush (q := 450) (v := 12) X314 C at_448 rfl rfl ?_
  refine W.iload (q := 452) X314 C at_450 rfl rfl ?_
  refine W.isub (q := 453) X314 C at_452 rfl ?_
  refine W.callV (q := 456) X314 C (W.ww hw 23 rfl) (W.ww hw 24 rfl) (W.nf C (W.ww hw 26 rfl)) (W.ww hw 26 rfl) (W.ww hw 25 rfl) (W.ww hw 16 rfl) (W.ww hw 27 rfl) (by decide) (rm6 l Z a0 hw [] b305 arr v304 ((12 : Int32) - v304) ka ls sxa kx vsx rc1 rp1 rb1 rw1 rc2 rp2 rb2 rw2 (12 - K) T314.heap n0 ge_b305 (Ne.symm ne_arr_b305) nes hok hTab ⟨by rw [u12]; decide, by rw [u12]; decide⟩ E_314 VA_317 S_314 V432_318 Fc_314 Fp_314 Fl_314 Fw_314 (by rw [hK]; omega) (by rw [u12, hK]; omega) w1 (by rw [kn]; exact hr2)) rfl E_314 at_453 [(.ref arr), (.int v304), (.int ((12 : Int32) - v304))] [] rfl rfl pd__28_5bCII_29V rfl rfl (by decide) (Nat.le_of_ble_eq_true rfl) (by decide) (by decide) rfl (fun T319 w319 L319 X319 hQ319 => ?_)
  obtain ⟨rfl, NL319, K319, E_319, Fc_319, Fp_319, Fl_319, Fw_319⟩ := hQ319
  have N319 := Fr.app N314 NL319
  have O0_321 := O0_316.keep K319 (allS ge_b305 all0)
  have VA_322 := VA_317.keep K319 (ninS ne_arr_b305 nin0)
  have V432_323 := V432_318.keep K319 (ninS (Ne.symm nes) nin0)
  have S_319 := SX.ext O0_321.2
  show W.Go p e below _ (T319.setTop (mkF m 456 #[.val (.long p0), .second, .val (.int p2), .val (.int p3), .val (.int p4), .val (.int p5), .val (.int n), .val (.int q), .val (.int t), .val (.int bo), .val (.int len), .val (.int ws), .val (.int w), .val (.int off), .val (.ref arr), .val (.int cc), .val (.int bp), .val (.int br), .val (.int v304), .val (.ref b305), .unset] []))
  refine W.aload (q := 458) X319 C at_456 rfl rfl rfl ?_
  refine W.callV (q := 461) X319 C (W.ww hw 42 rfl) (W.ww hw 43 rfl) (W.nf C (W.ww hw 45 rfl)) (W.ww hw 45 rfl) (W.ww hw 44 rfl) (W.ww hw 16 rfl) (W.ww hw 46 rfl) (by decide) (rm8 l Z a0 hw [] b305 rc2 rp2 rb2 rw2 T319.heap n0 Fc_319 Fp_319 Fl_319 Fw_319) rfl E_319 at_458 [] [] rfl rfl pd__28_29Z rfl rfl (by decide) (Nat.le_of_ble_eq_true rfl) (by decide) (by decide) rfl (fun T324 w324 L324 X324 hQ324 => ?_)
  obtain ⟨rfl, NL324, e324⟩ := hQ324
  have N324 := Fr.app N319 NL324
  show W.Go p e below _ (T324.setTop (mkF m 461 #[.val (.long p0), .second, .val (.int p2), .val (.int p3), .val (.int p4), .val (.int p5), .val (.int n), .val (.int q), .val (.int t), .val (.int bo), .val (.int len), .val (.int ws), .val (.int w), .val (.int off), .val (.ref arr), .val (.int cc), .val (.int bp), .val (.int br), .val (.int v304), .val (.ref b305), .unset] [(.int (own_val (rc2, rp2, rb2, rw2)))]))
  refine W.istore (q := 463) (L' := #[.val (.long p0), .second, .val (.int p2), .val (.int p3), .val (.int p4), .val (.int p5), .val (.int n), .val (.int q), .val (.int t), .val (.int bo), .val (.int len), .val (.int ws), .val (.int w), .val (.int off), .val (.ref arr), .val (.int cc), .val (.int bp), .val (.int br), .val (.int v304), .val (.ref b305), .val (.int (own_val (rc2, rp2, rb2, rw2)))]) X324 C at_461 rfl rfl ?_
  refine W.iload (q := 465) X324 C at_463 rfl rfl ?_
  refine W.iload (q := 467) X324 C at_465 rfl rfl ?_
  refine W.iload (q := 469) X324 C at_467 rfl rfl ?_
  refine W.iload (q := 471) X324 C at_469 rfl rfl ?_
  refine W.iload (q := 473) X324 C at_471 rfl rfl ?_
  refine W.lloadN (q := 474) X324 C at_473 rfl rfl ?_
  refine W.callS (q := 477) X324 C (W.ww hw 47 rfl) (W.ww hw 48 rfl) (W.ww hw 4 rfl) (W.ww hw 49 rfl) (by decide) (rm9 l Z a0 hw [] br n q t p0 T319.heap n0) e324 at_474 [(.int br), (.int n), (.int q), (.int t), (.long p0)] [(.int (own_val (rc2, rp2, rb2, rw2)))] rfl rfl pd__28ZIIIJ_29Z rfl rfl (by decide) (Nat.le_of_ble_eq_true rfl) (by decide) (by decide) rfl (fun T325 w325 L325 X325 hQ325 => ?_)
  obtain ⟨rfl, NL325, e325⟩ := hQ325
  have N325 := Fr.app N324 NL325
  show W.Go p e below _ (T325.setTop (mkF m 477 #[.val (.long p0), .second, .val (.int p2), .val (.int p3), .val (.int p4), .val (.int p5), .val (.int n), .val (.int q), .val (.int t), .val (.int bo), .val (.int len), .val (.int ws), .val (.int w), .val (.int off), .val (.ref arr), .val (.int cc), .val (.int bp), .val (.int br), .val (.int v304), .val (.ref b305), .val (.int (own_val (rc2, rp2, rb2, rw2)))] [(.int (own_exp br n q t p0)), (.int (own_val (rc2, rp2, rb2, rw2)))]))
  refine W.icmpF (q := 480) X325 C at_477 rfl (show (own_val (rc2, rp2, rb2, rw2)) = (own_exp br n q t p0) by rw [← hall]; exact hfin) ?_
  refine W.iconst (q := 481) (v := 1) X325 C at_480 rfl rfl ?_
  refine W.goto (q := 485) X325 C at_481 (by decide) (by decide) ?_
  exact W.retN X325 C (by simp) e325 at_485 rfl (by decide) (by decide) ⟨rfl, N325⟩
theorem pd__28IIIIJC_29C : parseMethodDescriptor "(IIIIJC)C" = some ⟨[.int, .int, .int, .int, .long, .char], some .char⟩ := by decide +kernel
theorem pd__28C_29Z : parseMethodDescriptor "(C)Z" = some ⟨[.char], some .boolean⟩ := by decide +kernel
set_option maxRecDepth 65536 in
set_option maxHeartbeats 40000000 in
theorem own_j86 (l : Launch) (Z : State) (a0 : Array Value) (hw : ∀ d ∈ tables_1, d.before a0 Z = true) (h0 : Heap) (n0 : Nat) (p0 : Int64) (p2 p3 p4 p5 n q t bo len ws w : Int32) (N Q T : Nat) (sxa : Addr) (kx : ClassId) (vsx : List Value) {p : Program} {e : Env} {s : State} {m : MethodId} {args : Array Value} {below : List Frame} {meth : Method} {c : Code} {T0 : State} {locs : List Loc}
    (C : W.Cx p s m meth c Z code 21 "com/example/fedlint/fedlint/Base64CheckValidPinLaw" "law" (some .boolean)) (X0 : Stand p l e room_1 s m args below meth c T0 locs 0 0) (e0 : T0.heap = h0) (N0 : Fr n0 locs) (Z0 : n0 ≤ h0.size) (O0 : Old Z n0 h0) (SX : Sta Z Z.heap "com/example/fedlint/fedlint/Base64Binary" "SEXTETS" "[B" (.ref sxa)) (VSX : Arv Z Z.heap sxa kx .byte (128 : Int32) vsx (.int (0 : Int32))) (hTab : own_Tab vsx) (hsz : sxa < n0) (hN : n.toInt = N) (hQ : q.toInt = Q) (hT : t.toInt = T) (hN8 : N < 8) (hQ4 : Q < 4) (hT2 : T < 2) (hlen0 : (n + q) + t = len) (hsp : w = 32 ∨ w = 9 ∨ w = 10 ∨ w = 13) :
    W.Go p e below (W.Post s (fun v h L => v = some (.int 1) ∧ Fr n0 L) room_1.cells room_1.slots) (T0.setTop (mkF m 86 #[.val (.long p0), .second, .val (.int p2), .val (.int p3), .val (.int p4), .val (.int p5), .val (.int n), .val (.int q), .val (.int t), .val (.int bo), .val (.int len), .val (.int ws), .unset, .unset, .unset, .unset, .unset, .unset, .unset, .unset, .unset] [(.int w)])) := by
  have hw16 := (own_sp hsp).2
  have hlen := own_len3 (u := 0) hN hQ hT hN8 hQ4 hT2 hlen0
  have u13 := own_13 (v := 0) hlen (by omega)
  refine W.istore (q := 88) (L' := #[.val (.long p0), .second, .val (.int p2), .val (.int p3), .val (.int p4), .val (.int p5), .val (.int n), .val (.int q), .val (.int t), .val (.int bo), .val (.int len), .val (.int ws), .val (.int w), .unset, .unset, .unset, .unset, .unset, .unset, .unset, .unset]) X0 C at_86 rfl rfl ?_
  refine W.iload (q := 90) X0 C at_88 rfl rfl ?_
  refine W.iconst (q := 91) (v := 2) X0 C at_90 rfl rfl ?_
  refine W.iushr (q := 92) X0 C at_91 rfl ?_
  refine W.ldcI (q := 94) X0 C (W.ww hw 0 rfl) at_92 rfl ?_
  refine W.iand (q := 95) X0 C at_94 rfl ?_
  refine W.bipush (q := 97) (v := 13) X0 C at_95 rfl rfl ?_
  refine W.iload (q := 99) X0 C at_97 rfl rfl ?_
  refine W.isub (q := 100) X0 C at_99 rfl ?_
  refine W.irem (q := 101) X0 C at_100 u13.2 rfl ?_
  generalize hv1326 : ((((p4.toUInt32 >>> ((2 : Int32) &&& 31).toUInt32).toInt32) &&& (2147483647 : Int32)) % ((13 : Int32) - len)) = v1326
  refine W.istore (q := 103) (L' := #[.val (.long p0), .second, .val (.int p2), .val (.int p3), .val (.int p4), .val (.int p5), .val (.int n), .val (.int q), .val (.int t), .val (.int bo), .val (.int len), .val (.int ws), .val (.int w), .val (.int v1326), .unset, .unset, .unset, .unset, .unset, .unset, .unset]) X0 C at_101 rfl rfl ?_
  obtain ⟨O, hO, hO13⟩ := own_remv _ _ _ (by rw [u13.1]; omega) hv1326
  rw [u13.1] at hO13
  refine W.bipush (q := 105) (v := 12) X0 C at_103 rfl rfl ?_
  refine W.newarray (q := 107) X0 C (W.ww hw 1 rfl) e0 (by decide) 12 (by decide) (by decide) at_105 (by decide) (by decide) rfl (fun T1327 h1327 b1327 k1327 X1327 e1327 g1327 E1327 V1327_ => ?_)
  have ge_b1327 : n0 ≤ b1327 := by rw [g1327]; exact Z0
  have n0_1327 : n0 ≤ h1327.size := Nat.le_trans Z0 E1327.1
  have O0_1329 := O0.ext E1327
  have V1327 : Arv Z h1327 b1327 k1327 .char (12 : Int32) [(.int (0 : Int32)), (.int (0 : Int32)), (.int (0 : Int32)), (.int (0 : Int32)), (.int (0 : Int32)), (.int (0 : Int32)), (.int (0 : Int32)), (.int (0 : Int32)), (.int (0 : Int32)), (.int (0 : Int32)), (.int (0 : Int32)), (.int (0 : Int32))] (.int (0 : Int32)) := V1327_
  refine W.astore (q := 109) (L' := #[.val (.long p0), .second, .val (.int p2), .val (.int p3), .val (.int p4), .val (.int p5), .val (.int n), .val (.int q), .val (.int t), .val (.int bo), .val (.int len), .val (.int ws), .val (.int w), .val (.int v1326), .val (.ref b1327), .unset, .unset, .unset, .unset, .unset, .unset]) X1327 C at_107 rfl rfl rfl ?_
  refine W.aload (q := 111) X1327 C at_109 rfl rfl rfl ?_
  refine W.iconst (q := 112) (v := 0) X1327 C at_111 rfl rfl ?_
  refine W.iconst (q := 113) (v := 0) X1327 C at_112 rfl rfl ?_
  refine W.iload (q := 115) X1327 C at_113 rfl rfl ?_
  refine W.isub (q := 116) X1327 C at_115 rfl ?_
  refine W.iload (q := 118) X1327 C at_116 rfl rfl ?_
  refine W.iload (q := 120) X1327 C at_118 rfl rfl ?_
  refine W.iload (q := 122) X1327 C at_120 rfl rfl ?_
  refine W.lloadN (q := 123) X1327 C at_122 rfl rfl ?_
  refine W.iload (q := 125) X1327 C at_123 rfl rfl ?_
  refine W.callS (q := 128) X1327 C (W.ww hw 2 rfl) (W.ww hw 3 rfl) (W.ww hw 4 rfl) (W.ww hw 5 rfl) (by decide) (rm1 l Z a0 hw [] ((0 : Int32) - v1326) n q len p0 w h1327 n0 hw16) e1327 at_125 [(.int ((0 : Int32) - v1326)), (.int n), (.int q), (.int len), (.long p0), (.int w)] [(.int (0 : Int32)), (.ref b1327)] rfl rfl pd__28IIIIJC_29C rfl rfl (by decide) (Nat.le_of_ble_eq_true rfl) (by decide) (by decide) rfl (fun T1330 w1330 L1330 X1330 hQ1330 => ?_)
  obtain ⟨rfl, NL1330, e1330⟩ := hQ1330
  have N1330 := Fr.app N0 NL1330
  have cr0 : own_r16 (own_pk ((0 : Int32) - v1326) n q len p0 w) := own_pk16 hw16
  generalize hpk0 : (own_pk ((0 : Int32) - v1326) n q len p0 w) = c0 at cr0 ⊢
  show W.Go p e below _ (T1330.setTop (mkF m 128 #[.val (.long p0), .second, .val (.int p2), .val (.int p3), .val (.int p4), .val (.int p5), .val (.int n), .val (.int q), .val (.int t), .val (.int bo), .val (.int len), .val (.int ws), .val (.int w), .val (.int v1326), .val (.ref b1327), .unset, .unset, .unset, .unset, .unset, .unset] [(.int c0), (.int (0 : Int32)), (.ref b1327)]))
  refine W.castore (q := 129) X1330 C e1330 V1327  (by decide) (by decide) (Nat.le_of_ble_eq_true rfl) at_128 rfl (fun T1331 h1331 X1331 e1331 W1331 V1331_ => ?_)
  rw [own_narc cr0] at V1331_
  have O0_1333 := O0_1329.wr W1331 ge_b1327
  have V1331 : Arv Z h1331 b1327 k1327 .char (12 : Int32) [(.int c0), (.int (0 : Int32)), (.int (0 : Int32)), (.int (0 : Int32)), (.int (0 : Int32)), (.int (0 : Int32)), (.int (0 : Int32)), (.int (0 : Int32)), (.int (0 : Int32)), (.int (0 : Int32)), (.int (0 : Int32)), (.int (0 : Int32))] (.int (0 : Int32)) := V1331_
  have N1331 := Fr.snoc X1331 N1330 ge_b1327
  have n0_1331 : n0 ≤ h1331.size := by rw [W1331.size]; exact n0_1327
  refine W.aload (q := 131) X1331 C at_129 rfl rfl rfl ?_
  refine W.iconst (q := 132) (v := 1) X1331 C at_131 rfl rfl ?_
  refine W.iconst (q := 133) (v := 1) X1331 C at_132 rfl rfl ?_
  refine W.iload (q := 135) X1331 C at_133 rfl rfl ?_
  refine W.isub (q := 136) X1331 C at_135 rfl ?_
  refine W.iload (q := 138) X1331 C at_136 rfl rfl ?_
  refine W.iload (q := 140) X1331 C at_138 rfl rfl ?_
  refine W.iload (q := 142) X1331 C at_140 rfl rfl ?_
  refine W.lloadN (q := 143) X1331 C at_142 rfl rfl ?_
  refine W.iload (q := 145) X1331 C at_143 rfl rfl ?_
  refine W.callS (q := 148) X1331 C (W.ww hw 2 rfl) (W.ww hw 3 rfl) (W.ww hw 4 rfl) (W.ww hw 5 rfl) (by decide) (rm1 l Z a0 hw [] ((1 : Int32) - v1326) n q len p0 w h1331 n0 hw16) e1331 at_145 [(.int ((1 : Int32) - v1326)), (.int n), (.int q), (.int len), (.long p0), (.int w)] [(.int (1 : Int32)), (.ref b1327)] rfl rfl pd__28IIIIJC_29C rfl rfl (by decide) (Nat.le_of_ble_eq_true rfl) (by decide) (by decide) rfl (fun T1335 w1335 L1335 X1335 hQ1335 => ?_)
  obtain ⟨rfl, NL1335, e1335⟩ := hQ1335
  have N1335 := Fr.app N1331 NL1335
  have cr1 : own_r16 (own_pk ((1 : Int32) - v1326) n q len p0 w) := own_pk16 hw16
  generalize hpk1 : (own_pk ((1 : Int32) - v1326) n q len p0 w) = c1 at cr1 ⊢
  show W.Go p e below _ (T1335.setTop (mkF m 148 #[.val (.long p0), .second, .val (.int p2), .val (.int p3), .val (.int p4), .val (.int p5), .val (.int n), .val (.int q), .val (.int t), .val (.int bo), .val (.int len), .val (.int ws), .val (.int w), .val (.int v1326), .val (.ref b1327), .unset, .unset, .unset, .unset, .unset, .unset] [(.int c1), (.int (1 : Int32)), (.ref b1327)]))
  refine W.castore (q := 149) X1335 C e1335 V1331  (by decide) (by decide) (Nat.le_of_ble_eq_true rfl) at_148 rfl (fun T1336 h1336 X1336 e1336 W1336 V1336_ => ?_)
  rw [own_narc cr1] at V1336_
  have O0_1338 := O0_1333.wr W1336 ge_b1327
  have V1336 : Arv Z h1336 b1327 k1327 .char (12 : Int32) [(.int c0), (.int c1), (.int (0 : Int32)), (.int (0 : Int32)), (.int (0 : Int32)), (.int (0 : Int32)), (.int (0 : Int32)), (.int (0 : Int32)), (.int (0 : Int32)), (.int (0 : Int32)), (.int (0 : Int32)), (.int (0 : Int32))] (.int (0 : Int32)) := V1336_
  have N1336 := Fr.snoc X1336 N1335 ge_b1327
  have n0_1336 : n0 ≤ h1336.size := by rw [W1336.size]; exact n0_1331
  refine W.aload (q := 151) X1336 C at_149 rfl rfl rfl ?_
  refine W.iconst (q := 152) (v := 2) X1336 C at_151 rfl rfl ?_
  refine W.iconst (q := 153) (v := 2) X1336 C at_152 rfl rfl ?_
  refine W.iload (q := 155) X1336 C at_153 rfl rfl ?_
  refine W.isub (q := 156) X1336 C at_155 rfl ?_
  refine W.iload (q := 158) X1336 C at_156 rfl rfl ?_
  refine W.iload (q := 160) X1336 C at_158 rfl rfl ?_
  refine W.iload (q := 162) X1336 C at_160 rfl rfl ?_
  refine W.lloadN (q := 163) X1336 C at_162 rfl rfl ?_
  refine W.iload (q := 165) X1336 C at_163 rfl rfl ?_
  refine W.callS (q := 168) X1336 C (W.ww hw 2 rfl) (W.ww hw 3 rfl) (W.ww hw 4 rfl) (W.ww hw 5 rfl) (by decide) (rm1 l Z a0 hw [] ((2 : Int32) - v1326) n q len p0 w h1336 n0 hw16) e1336 at_165 [(.int ((2 : Int32) - v1326)), (.int n), (.int q), (.int len), (.long p0), (.int w)] [(.int (2 : Int32)), (.ref b1327)] rfl rfl pd__28IIIIJC_29C rfl rfl (by decide) (Nat.le_of_ble_eq_true rfl) (by decide) (by decide) rfl (fun T1340 w1340 L1340 X1340 hQ1340 => ?_)
  obtain ⟨rfl, NL1340, e1340⟩ := hQ1340
  have N1340 := Fr.app N1336 NL1340
  have cr2 : own_r16 (own_pk ((2 : Int32) - v1326) n q len p0 w) := own_pk16 hw16
  generalize hpk2 : (own_pk ((2 : Int32) - v1326) n q len p0 w) = c2 at cr2 ⊢
  show W.Go p e below _ (T1340.setTop (mkF m 168 #[.val (.long p0), .second, .val (.int p2), .val (.int p3), .val (.int p4), .val (.int p5), .val (.int n), .val (.int q), .val (.int t), .val (.int bo), .val (.int len), .val (.int ws), .val (.int w), .val (.int v1326), .val (.ref b1327), .unset, .unset, .unset, .unset, .unset, .unset] [(.int c2), (.int (2 : Int32)), (.ref b1327)]))
  refine W.castore (q := 169) X1340 C e1340 V1336  (by decide) (by decide) (Nat.le_of_ble_eq_true rfl) at_168 rfl (fun T1341 h1341 X1341 e1341 W1341 V1341_ => ?_)
  rw [own_narc cr2] at V1341_
  have O0_1343 := O0_1338.wr W1341 ge_b1327
  have V1341 : Arv Z h1341 b1327 k1327 .char (12 : Int32) [(.int c0), (.int c1), (.int c2), (.int (0 : Int32)), (.int (0 : Int32)), (.int (0 : Int32)), (.int (0 : Int32)), (.int (0 : Int32)), (.int (0 : Int32)), (.int (0 : Int32)), (.int (0 : Int32)), (.int (0 : Int32))] (.int (0 : Int32)) := V1341_
  have N1341 := Fr.snoc X1341 N1340 ge_b1327
  have n0_1341 : n0 ≤ h1341.size := by rw [W1341.size]; exact n0_1336
  refine W.aload (q := 171) X1341 C at_169 rfl rfl rfl ?_
  refine W.iconst (q := 172) (v := 3) X1341 C at_171 rfl rfl ?_
  refine W.iconst (q := 173) (v := 3) X1341 C at_172 rfl rfl ?_
  refine W.iload (q := 175) X1341 C at_173 rfl rfl ?_
  refine W.isub (q := 176) X1341 C at_175 rfl ?_
  refine W.iload (q := 178) X1341 C at_176 rfl rfl ?_
  refine W.iload (q := 180) X1341 C at_178 rfl rfl ?_
  refine W.iload (q := 182) X1341 C at_180 rfl rfl ?_
  refine W.lloadN (q := 183) X1341 C at_182 rfl rfl ?_
  refine W.iload (q := 185) X1341 C at_183 rfl rfl ?_
  refine W.callS (q := 188) X1341 C (W.ww hw 2 rfl) (W.ww hw 3 rfl) (W.ww hw 4 rfl) (W.ww hw 5 rfl) (by decide) (rm1 l Z a0 hw [] ((3 : Int32) - v1326) n q len p0 w h1341 n0 hw16) e1341 at_185 [(.int ((3 : Int32) - v1326)), (.int n), (.int q), (.int len), (.long p0), (.int w)] [(.int (3 : Int32)), (.ref b1327)] rfl rfl pd__28IIIIJC_29C rfl rfl (by decide) (Nat.le_of_ble_eq_true rfl) (by decide) (by decide) rfl (fun T1345 w1345 L1345 X1345 hQ1345 => ?_)
  obtain ⟨rfl, NL1345, e1345⟩ := hQ1345
  have N1345 := Fr.app N1341 NL1345
  have cr3 : own_r16 (own_pk ((3 : Int32) - v1326) n q len p0 w) := own_pk16 hw16
  generalize hpk3 : (own_pk ((3 : Int32) - v1326) n q len p0 w) = c3 at cr3 ⊢
  show W.Go p e below _ (T1345.setTop (mkF m 188 #[.val (.long p0), .second, .val (.int p2), .val (.int p3), .val (.int p4), .val (.int p5), .val (.int n), .val (.int q), .val (.int t), .val (.int bo), .val (.int len), .val (.int ws), .val (.int w), .val (.int v1326), .val (.ref b1327), .unset, .unset, .unset, .unset, .unset, .unset] [(.int c3), (.int (3 : Int32)), (.ref b1327)]))
  refine W.castore (q := 189) X1345 C e1345 V1341  (by decide) (by decide) (Nat.le_of_ble_eq_true rfl) at_188 rfl (fun T1346 h1346 X1346 e1346 W1346 V1346_ => ?_)
  rw [own_narc cr3] at V1346_
  have O0_1348 := O0_1343.wr W1346 ge_b1327
  have V1346 : Arv Z h1346 b1327 k1327 .char (12 : Int32) [(.int c0), (.int c1), (.int c2), (.int c3), (.int (0 : Int32)), (.int (0 : Int32)), (.int (0 : Int32)), (.int (0 : Int32)), (.int (0 : Int32)), (.int (0 : Int32)), (.int (0 : Int32)), (.int (0 : Int32))] (.int (0 : Int32)) := V1346_
  have N1346 := Fr.snoc X1346 N1345 ge_b1327
  have n0_1346 : n0 ≤ h1346.size := by rw [W1346.size]; exact n0_1341
  refine W.aload (q := 191) X1346 C at_189 rfl rfl rfl ?_
  refine W.iconst (q := 192) (v := 4) X1346 C at_191 rfl rfl ?_
  refine W.iconst (q := 193) (v := 4) X1346 C at_192 rfl rfl ?_
  refine W.iload (q := 195) X1346 C at_193 rfl rfl ?_
  refine W.isub (q := 196) X1346 C at_195 rfl ?_
  refine W.iload (q := 198) X1346 C at_196 rfl rfl ?_
  refine W.iload (q := 200) X1346 C at_198 rfl rfl ?_
  refine W.iload (q := 202) X1346 C at_200 rfl rfl ?_
  refine W.lloadN (q := 203) X1346 C at_202 rfl rfl ?_
  refine W.iload (q := 205) X1346 C at_203 rfl rfl ?_
  refine W.callS (q := 208) X1346 C (W.ww hw 2 rfl) (W.ww hw 3 rfl) (W.ww hw 4 rfl) (W.ww hw 5 rfl) (by decide) (rm1 l Z a0 hw [] ((4 : Int32) - v1326) n q len p0 w h1346 n0 hw16) e1346 at_205 [(.int ((4 : Int32) - v1326)), (.int n), (.int q), (.int len), (.long p0), (.int w)] [(.int (4 : Int32)), (.ref b1327)] rfl rfl pd__28IIIIJC_29C rfl rfl (by decide) (Nat.le_of_ble_eq_true rfl) (by decide) (by decide) rfl (fun T1350 w1350 L1350 X1350 hQ1350 => ?_)
  obtain ⟨rfl, NL1350, e1350⟩ := hQ1350
  have N1350 := Fr.app N1346 NL1350
  have cr4 : own_r16 (own_pk ((4 : Int32) - v1326) n q len p0 w) := own_pk16 hw16
  generalize hpk4 : (own_pk ((4 : Int32) - v1326) n q len p0 w) = c4 at cr4 ⊢
  show W.Go p e below _ (T1350.setTop (mkF m 208 #[.val (.long p0), .second, .val (.int p2), .val (.int p3), .val (.int p4), .val (.int p5), .val (.int n), .val (.int q), .val (.int t), .val (.int bo), .val (.int len), .val (.int ws), .val (.int w), .val (.int v1326), .val (.ref b1327), .unset, .unset, .unset, .unset, .unset, .unset] [(.int c4), (.int (4 : Int32)), (.ref b1327)]))
  refine W.castore (q := 209) X1350 C e1350 V1346  (by decide) (by decide) (Nat.le_of_ble_eq_true rfl) at_208 rfl (fun T1351 h1351 X1351 e1351 W1351 V1351_ => ?_)
  rw [own_narc cr4] at V1351_
  have O0_1353 := O0_1348.wr W1351 ge_b1327
  have V1351 : Arv Z h1351 b1327 k1327 .char (12 : Int32) [(.int c0), (.int c1), (.int c2), (.int c3), (.int c4), (.int (0 : Int32)), (.int (0 : Int32)), (.int (0 : Int32)), (.int (0 : Int32)), (.int (0 : Int32)), (.int (0 : Int32)), (.int (0 : Int32))] (.int (0 : Int32)) := V1351_
  have N1351 := Fr.snoc X1351 N1350 ge_b1327
  have n0_1351 : n0 ≤ h1351.size := by rw [W1351.size]; exact n0_1346
  refine W.aload (q := 211) X1351 C at_209 rfl rfl rfl ?_
  refine W.iconst (q := 212) (v := 5) X1351 C at_211 rfl rfl ?_
  refine W.iconst (q := 213) (v := 5) X1351 C at_212 rfl rfl ?_
  refine W.iload (q := 215) X1351 C at_213 rfl rfl ?_
  refine W.isub (q := 216) X1351 C at_215 rfl ?_
  refine W.iload (q := 218) X1351 C at_216 rfl rfl ?_
  refine W.iload (q := 220) X1351 C at_218 rfl rfl ?_
  refine W.iload (q := 222) X1351 C at_220 rfl rfl ?_
  refine W.lloadN (q := 223) X1351 C at_222 rfl rfl ?_
  refine W.iload (q := 225) X1351 C at_223 rfl rfl ?_
  refine W.callS (q := 228) X1351 C (W.ww hw 2 rfl) (W.ww hw 3 rfl) (W.ww hw 4 rfl) (W.ww hw 5 rfl) (by decide) (rm1 l Z a0 hw [] ((5 : Int32) - v1326) n q len p0 w h1351 n0 hw16) e1351 at_225 [(.int ((5 : Int32) - v1326)), (.int n), (.int q), (.int len), (.long p0), (.int w)] [(.int (5 : Int32)), (.ref b1327)] rfl rfl pd__28IIIIJC_29C rfl rfl (by decide) (Nat.le_of_ble_eq_true rfl) (by decide) (by decide) rfl (fun T1355 w1355 L1355 X1355 hQ1355 => ?_)
  obtain ⟨rfl, NL1355, e1355⟩ := hQ1355
  have N1355 := Fr.app N1351 NL1355
  have cr5 : own_r16 (own_pk ((5 : Int32) - v1326) n q len p0 w) := own_pk16 hw16
  generalize hpk5 : (own_pk ((5 : Int32) - v1326) n q len p0 w) = c5 at cr5 ⊢
  show W.Go p e below _ (T1355.setTop (mkF m 228 #[.val (.long p0), .second, .val (.int p2), .val (.int p3), .val (.int p4), .val (.int p5), .val (.int n), .val (.int q), .val (.int t), .val (.int bo), .val (.int len), .val (.int ws), .val (.int w), .val (.int v1326), .val (.ref b1327), .unset, .unset, .unset, .unset, .unset, .unset] [(.int c5), (.int (5 : Int32)), (.ref b1327)]))
  refine W.castore (q := 229) X1355 C e1355 V1351  (by decide) (by decide) (Nat.le_of_ble_eq_true rfl) at_228 rfl (fun T1356 h1356 X1356 e1356 W1356 V1356_ => ?_)
  rw [own_narc cr5] at V1356_
  have O0_1358 := O0_1353.wr W1356 ge_b1327
  have V1356 : Arv Z h1356 b1327 k1327 .char (12 : Int32) [(.int c0), (.int c1), (.int c2), (.int c3), (.int c4), (.int c5), (.int (0 : Int32)), (.int (0 : Int32)), (.int (0 : Int32)), (.int (0 : Int32)), (.int (0 : Int32)), (.int (0 : Int32))] (.int (0 : Int32)) := V1356_
  have N1356 := Fr.snoc X1356 N1355 ge_b1327
  have n0_1356 : n0 ≤ h1356.size := by rw [W1356.size]; exact n0_1351
  refine W.aload (q := 231) X1356 C at_229 rfl rfl rfl ?_
  refine W.bipush (q := 233) (v := 6) X1356 C at_231 rfl rfl ?_
  refine W.bipush (q := 235) (v := 6) X1356 C at_233 rfl rfl ?_
  refine W.iload (q := 237) X1356 C at_235 rfl rfl ?_
  refine W.isub (q := 238) X1356 C at_237 rfl ?_
  refine W.iload (q := 240) X1356 C at_238 rfl rfl ?_
  refine W.iload (q := 242) X1356 C at_240 rfl rfl ?_
  refine W.iload (q := 244) X1356 C at_242 rfl rfl ?_
  refine W.lloadN (q := 245) X1356 C at_244 rfl rfl ?_
  refine W.iload (q := 247) X1356 C at_245 rfl rfl ?_
  refine W.callS (q := 250) X1356 C (W.ww hw 2 rfl) (W.ww hw 3 rfl) (W.ww hw 4 rfl) (W.ww hw 5 rfl) (by decide) (rm1 l Z a0 hw [] ((6 : Int32) - v1326) n q len p0 w h1356 n0 hw16) e1356 at_247 [(.int ((6 : Int32) - v1326)), (.int n), (.int q), (.int len), (.long p0), (.int w)] [(.int (6 : Int32)), (.ref b1327)] rfl rfl pd__28IIIIJC_29C rfl rfl (by decide) (Nat.le_of_ble_eq_true rfl) (by decide) (by decide) rfl (fun T1360 w1360 L1360 X1360 hQ1360 => ?_)
  obtain ⟨rfl, NL1360, e1360⟩ := hQ1360
  have N1360 := Fr.app N1356 NL1360
  have cr6 : own_r16 (own_pk ((6 : Int32) - v1326) n q len p0 w) := own_pk16 hw16
  generalize hpk6 : (own_pk ((6 : Int32) - v1326) n q len p0 w) = c6 at cr6 ⊢
  show W.Go p e below _ (T1360.setTop (mkF m 250 #[.val (.long p0), .second, .val (.int p2), .val (.int p3), .val (.int p4), .val (.int p5), .val (.int n), .val (.int q), .val (.int t), .val (.int bo), .val (.int len), .val (.int ws), .val (.int w), .val (.int v1326), .val (.ref b1327), .unset, .unset, .unset, .unset, .unset, .unset] [(.int c6), (.int (6 : Int32)), (.ref b1327)]))
  refine W.castore (q := 251) X1360 C e1360 V1356  (by decide) (by decide) (Nat.le_of_ble_eq_true rfl) at_250 rfl (fun T1361 h1361 X1361 e1361 W1361 V1361_ => ?_)
  rw [own_narc cr6] at V1361_
  have O0_1363 := O0_1358.wr W1361 ge_b1327
  have V1361 : Arv Z h1361 b1327 k1327 .char (12 : Int32) [(.int c0), (.int c1), (.int c2), (.int c3), (.int c4), (.int c5), (.int c6), (.int (0 : Int32)), (.int (0 : Int32)), (.int (0 : Int32)), (.int (0 : Int32)), (.int (0 : Int32))] (.int (0 : Int32)) := V1361_
  have N1361 := Fr.snoc X1361 N1360 ge_b1327
  have n0_1361 : n0 ≤ h1361.size := by rw [W1361.size]; exact n0_1356
  refine W.aload (q := 253) X1361 C at_251 rfl rfl rfl ?_
  refine W.bipush (q := 255) (v := 7) X1361 C at_253 rfl rfl ?_
  refine W.bipush (q := 257) (v := 7) X1361 C at_255 rfl rfl ?_
  refine W.iload (q := 259) X1361 C at_257 rfl rfl ?_
  refine W.isub (q := 260) X1361 C at_259 rfl ?_
  refine W.iload (q := 262) X1361 C at_260 rfl rfl ?_
  refine W.iload (q := 264) X1361 C at_262 rfl rfl ?_
  refine W.iload (q := 266) X1361 C at_264 rfl rfl ?_
  refine W.lloadN (q := 267) X1361 C at_266 rfl rfl ?_
  refine W.iload (q := 269) X1361 C at_267 rfl rfl ?_
  refine W.callS (q := 272) X1361 C (W.ww hw 2 rfl) (W.ww hw 3 rfl) (W.ww hw 4 rfl) (W.ww hw 5 rfl) (by decide) (rm1 l Z a0 hw [] ((7 : Int32) - v1326) n q len p0 w h1361 n0 hw16) e1361 at_269 [(.int ((7 : Int32) - v1326)), (.int n), (.int q), (.int len), (.long p0), (.int w)] [(.int (7 : Int32)), (.ref b1327)] rfl rfl pd__28IIIIJC_29C rfl rfl (by decide) (Nat.le_of_ble_eq_true rfl) (by decide) (by decide) rfl (fun T1365 w1365 L1365 X1365 hQ1365 => ?_)
  obtain ⟨rfl, NL1365, e1365⟩ := hQ1365
  have N1365 := Fr.app N1361 NL1365
  have cr7 : own_r16 (own_pk ((7 : Int32) - v1326) n q len p0 w) := own_pk16 hw16
  generalize hpk7 : (own_pk ((7 : Int32) - v1326) n q len p0 w) = c7 at cr7 ⊢
  show W.Go p e below _ (T1365.setTop (mkF m 272 #[.val (.long p0), .second, .val (.int p2), .val (.int p3), .val (.int p4), .val (.int p5), .val (.int n), .val (.int q), .val (.int t), .val (.int bo), .val (.int len), .val (.int ws), .val (.int w), .val (.int v1326), .val (.ref b1327), .unset, .unset, .unset, .unset, .unset, .unset] [(.int c7), (.int (7 : Int32)), (.ref b1327)]))
  refine W.castore (q := 273) X1365 C e1365 V1361  (by decide) (by decide) (Nat.le_of_ble_eq_true rfl) at_272 rfl (fun T1366 h1366 X1366 e1366 W1366 V1366_ => ?_)
  rw [own_narc cr7] at V1366_
  have O0_1368 := O0_1363.wr W1366 ge_b1327
  have V1366 : Arv Z h1366 b1327 k1327 .char (12 : Int32) [(.int c0), (.int c1), (.int c2), (.int c3), (.int c4), (.int c5), (.int c6), (.int c7), (.int (0 : Int32)), (.int (0 : Int32)), (.int (0 : Int32)), (.int (0 : Int32))] (.int (0 : Int32)) := V1366_
  have N1366 := Fr.snoc X1366 N1365 ge_b1327
  have n0_1366 : n0 ≤ h1366.size := by rw [W1366.size]; exact n0_1361
  refine W.aload (q := 275) X1366 C at_273 rfl rfl rfl ?_
  refine W.bipush (q := 277) (v := 8) X1366 C at_275 rfl rfl ?_
  refine W.bipush (q := 279) (v := 8) X1366 C at_277 rfl rfl ?_
  refine W.iload (q := 281) X1366 C at_279 rfl rfl ?_
  refine W.isub (q := 282) X1366 C at_281 rfl ?_
  refine W.iload (q := 284) X1366 C at_282 rfl rfl ?_
  refine W.iload (q := 286) X1366 C at_284 rfl rfl ?_
  refine W.iload (q := 288) X1366 C at_286 rfl rfl ?_
  refine W.lloadN (q := 289) X1366 C at_288 rfl rfl ?_
  refine W.iload (q := 291) X1366 C at_289 rfl rfl ?_
  refine W.callS (q := 294) X1366 C (W.ww hw 2 rfl) (W.ww hw 3 rfl) (W.ww hw 4 rfl) (W.ww hw 5 rfl) (by decide) (rm1 l Z a0 hw [] ((8 : Int32) - v1326) n q len p0 w h1366 n0 hw16) e1366 at_291 [(.int ((8 : Int32) - v1326)), (.int n), (.int q), (.int len), (.long p0), (.int w)] [(.int (8 : Int32)), (.ref b1327)] rfl rfl pd__28IIIIJC_29C rfl rfl (by decide) (Nat.le_of_ble_eq_true rfl) (by decide) (by decide) rfl (fun T1370 w1370 L1370 X1370 hQ1370 => ?_)
  obtain ⟨rfl, NL1370, e1370⟩ := hQ1370
  have N1370 := Fr.app N1366 NL1370
  have cr8 : own_r16 (own_pk ((8 : Int32) - v1326) n q len p0 w) := own_pk16 hw16
  generalize hpk8 : (own_pk ((8 : Int32) - v1326) n q len p0 w) = c8 at cr8 ⊢
  show W.Go p e below _ (T1370.setTop (mkF m 294 #[.val (.long p0), .second, .val (.int p2), .val (.int p3), .val (.int p4), .val (.int p5), .val (.int n), .val (.int q), .val (.int t), .val (.int bo), .val (.int len), .val (.int ws), .val (.int w), .val (.int v1326), .val (.ref b1327), .unset, .unset, .unset, .unset, .unset, .unset] [(.int c8), (.int (8 : Int32)), (.ref b1327)]))
  refine W.castore (q := 295) X1370 C e1370 V1366  (by decide) (by decide) (Nat.le_of_ble_eq_true rfl) at_294 rfl (fun T1371 h1371 X1371 e1371 W1371 V1371_ => ?_)
  rw [own_narc cr8] at V1371_
  have O0_1373 := O0_1368.wr W1371 ge_b1327
  have V1371 : Arv Z h1371 b1327 k1327 .char (12 : Int32) [(.int c0), (.int c1), (.int c2), (.int c3), (.int c4), (.int c5), (.int c6), (.int c7), (.int c8), (.int (0 : Int32)), (.int (0 : Int32)), (.int (0 : Int32))] (.int (0 : Int32)) := V1371_
  have N1371 := Fr.snoc X1371 N1370 ge_b1327
  have n0_1371 : n0 ≤ h1371.size := by rw [W1371.size]; exact n0_1366
  refine W.aload (q := 297) X1371 C at_295 rfl rfl rfl ?_
  refine W.bipush (q := 299) (v := 9) X1371 C at_297 rfl rfl ?_
  refine W.bipush (q := 301) (v := 9) X1371 C at_299 rfl rfl ?_
  refine W.iload (q := 303) X1371 C at_301 rfl rfl ?_
  refine W.isub (q := 304) X1371 C at_303 rfl ?_
  refine W.iload (q := 306) X1371 C at_304 rfl rfl ?_
  refine W.iload (q := 308) X1371 C at_306 rfl rfl ?_
  refine W.iload (q := 310) X1371 C at_308 rfl rfl ?_
  refine W.lloadN (q := 311) X1371 C at_310 rfl rfl ?_
  refine W.iload (q := 313) X1371 C at_311 rfl rfl ?_
  refine W.callS (q := 316) X1371 C (W.ww hw 2 rfl) (W.ww hw 3 rfl) (W.ww hw 4 rfl) (W.ww hw 5 rfl) (by decide) (rm1 l Z a0 hw [] ((9 : Int32) - v1326) n q len p0 w h1371 n0 hw16) e1371 at_313 [(.int ((9 : Int32) - v1326)), (.int n), (.int q), (.int len), (.long p0), (.int w)] [(.int (9 : Int32)), (.ref b1327)] rfl rfl pd__28IIIIJC_29C rfl rfl (by decide) (Nat.le_of_ble_eq_true rfl) (by decide) (by decide) rfl (fun T1375 w1375 L1375 X1375 hQ1375 => ?_)
  obtain ⟨rfl, NL1375, e1375⟩ := hQ1375
  have N1375 := Fr.app N1371 NL1375
  have cr9 : own_r16 (own_pk ((9 : Int32) - v1326) n q len p0 w) := own_pk16 hw16
  generalize hpk9 : (own_pk ((9 : Int32) - v1326) n q len p0 w) = c9 at cr9 ⊢
  show W.Go p e below _ (T1375.setTop (mkF m 316 #[.val (.long p0), .second, .val (.int p2), .val (.int p3), .val (.int p4), .val (.int p5), .val (.int n), .val (.int q), .val (.int t), .val (.int bo), .val (.int len), .val (.int ws), .val (.int w), .val (.int v1326), .val (.ref b1327), .unset, .unset, .unset, .unset, .unset, .unset] [(.int c9), (.int (9 : Int32)), (.ref b1327)]))
  refine W.castore (q := 317) X1375 C e1375 V1371  (by decide) (by decide) (Nat.le_of_ble_eq_true rfl) at_316 rfl (fun T1376 h1376 X1376 e1376 W1376 V1376_ => ?_)
  rw [own_narc cr9] at V1376_
  have O0_1378 := O0_1373.wr W1376 ge_b1327
  have V1376 : Arv Z h1376 b1327 k1327 .char (12 : Int32) [(.int c0), (.int c1), (.int c2), (.int c3), (.int c4), (.int c5), (.int c6), (.int c7), (.int c8), (.int c9), (.int (0 : Int32)), (.int (0 : Int32))] (.int (0 : Int32)) := V1376_
  have N1376 := Fr.snoc X1376 N1375 ge_b1327
  have n0_1376 : n0 ≤ h1376.size := by rw [W1376.size]; exact n0_1371
  refine W.aload (q := 319) X1376 C at_317 rfl rfl rfl ?_
  refine W.bipush (q := 321) (v := 10) X1376 C at_319 rfl rfl ?_
  refine W.bipush (q := 323) (v := 10) X1376 C at_321 rfl rfl ?_
  refine W.iload (q := 325) X1376 C at_323 rfl rfl ?_
  refine W.isub (q := 326) X1376 C at_325 rfl ?_
  refine W.iload (q := 328) X1376 C at_326 rfl rfl ?_
  refine W.iload (q := 330) X1376 C at_328 rfl rfl ?_
  refine W.iload (q := 332) X1376 C at_330 rfl rfl ?_
  refine W.lloadN (q := 333) X1376 C at_332 rfl rfl ?_
  refine W.iload (q := 335) X1376 C at_333 rfl rfl ?_
  refine W.callS (q := 338) X1376 C (W.ww hw 2 rfl) (W.ww hw 3 rfl) (W.ww hw 4 rfl) (W.ww hw 5 rfl) (by decide) (rm1 l Z a0 hw [] ((10 : Int32) - v1326) n q len p0 w h1376 n0 hw16) e1376 at_335 [(.int ((10 : Int32) - v1326)), (.int n), (.int q), (.int len), (.long p0), (.int w)] [(.int (10 : Int32)), (.ref b1327)] rfl rfl pd__28IIIIJC_29C rfl rfl (by decide) (Nat.le_of_ble_eq_true rfl) (by decide) (by decide) rfl (fun T1380 w1380 L1380 X1380 hQ1380 => ?_)
  obtain ⟨rfl, NL1380, e1380⟩ := hQ1380
  have N1380 := Fr.app N1376 NL1380
  have cr10 : own_r16 (own_pk ((10 : Int32) - v1326) n q len p0 w) := own_pk16 hw16
  generalize hpk10 : (own_pk ((10 : Int32) - v1326) n q len p0 w) = c10 at cr10 ⊢
  show W.Go p e below _ (T1380.setTop (mkF m 338 #[.val (.long p0), .second, .val (.int p2), .val (.int p3), .val (.int p4), .val (.int p5), .val (.int n), .val (.int q), .val (.int t), .val (.int bo), .val (.int len), .val (.int ws), .val (.int w), .val (.int v1326), .val (.ref b1327), .unset, .unset, .unset, .unset, .unset, .unset] [(.int c10), (.int (10 : Int32)), (.ref b1327)]))
  refine W.castore (q := 339) X1380 C e1380 V1376  (by decide) (by decide) (Nat.le_of_ble_eq_true rfl) at_338 rfl (fun T1381 h1381 X1381 e1381 W1381 V1381_ => ?_)
  rw [own_narc cr10] at V1381_
  have O0_1383 := O0_1378.wr W1381 ge_b1327
  have V1381 : Arv Z h1381 b1327 k1327 .char (12 : Int32) [(.int c0), (.int c1), (.int c2), (.int c3), (.int c4), (.int c5), (.int c6), (.int c7), (.int c8), (.int c9), (.int c10), (.int (0 : Int32))] (.int (0 : Int32)) := V1381_
  have N1381 := Fr.snoc X1381 N1380 ge_b1327
  have n0_1381 : n0 ≤ h1381.size := by rw [W1381.size]; exact n0_1376
  refine W.aload (q := 341) X1381 C at_339 rfl rfl rfl ?_
  refine W.bipush (q := 343) (v := 11) X1381 C at_341 rfl rfl ?_
  refine W.bipush (q := 345) (v := 11) X1381 C at_343 rfl rfl ?_
  refine W.iload (q := 347) X1381 C at_345 rfl rfl ?_
  refine W.isub (q := 348) X1381 C at_347 rfl ?_
  refine W.iload (q := 350) X1381 C at_348 rfl rfl ?_
  refine W.iload (q := 352) X1381 C at_350 rfl rfl ?_
  refine W.iload (q := 354) X1381 C at_352 rfl rfl ?_
  refine W.lloadN (q := 355) X1381 C at_354 rfl rfl ?_
  refine W.iload (q := 357) X1381 C at_355 rfl rfl ?_
  refine W.callS (q := 360) X1381 C (W.ww hw 2 rfl) (W.ww hw 3 rfl) (W.ww hw 4 rfl) (W.ww hw 5 rfl) (by decide) (rm1 l Z a0 hw [] ((11 : Int32) - v1326) n q len p0 w h1381 n0 hw16) e1381 at_357 [(.int ((11 : Int32) - v1326)), (.int n), (.int q), (.int len), (.long p0), (.int w)] [(.int (11 : Int32)), (.ref b1327)] rfl rfl pd__28IIIIJC_29C rfl rfl (by decide) (Nat.le_of_ble_eq_true rfl) (by decide) (by decide) rfl (fun T1385 w1385 L1385 X1385 hQ1385 => ?_)
  obtain ⟨rfl, NL1385, e1385⟩ := hQ1385
  have N1385 := Fr.app N1381 NL1385
  have cr11 : own_r16 (own_pk ((11 : Int32) - v1326) n q len p0 w) := own_pk16 hw16
  generalize hpk11 : (own_pk ((11 : Int32) - v1326) n q len p0 w) = c11 at cr11 ⊢
  show W.Go p e below _ (T1385.setTop (mkF m 360 #[.val (.long p0), .second, .val (.int p2), .val (.int p3), .val (.int p4), .val (.int p5), .val (.int n), .val (.int q), .val (.int t), .val (.int bo), .val (.int len), .val (.int ws), .val (.int w), .val (.int v1326), .val (.ref b1327), .unset, .unset, .unset, .unset, .unset, .unset] [(.int c11), (.int (11 : Int32)), (.ref b1327)]))
  refine W.castore (q := 361) X1385 C e1385 V1381  (by decide) (by decide) (Nat.le_of_ble_eq_true rfl) at_360 rfl (fun T1386 h1386 X1386 e1386 W1386 V1386_ => ?_)
  rw [own_narc cr11] at V1386_
  have O0_1388 := O0_1383.wr W1386 ge_b1327
  have V1386 : Arv Z h1386 b1327 k1327 .char (12 : Int32) [(.int c0), (.int c1), (.int c2), (.int c3), (.int c4), (.int c5), (.int c6), (.int c7), (.int c8), (.int c9), (.int c10), (.int c11)] (.int (0 : Int32)) := V1386_
  have N1386 := Fr.snoc X1386 N1385 ge_b1327
  have n0_1386 : n0 ≤ h1386.size := by rw [W1386.size]; exact n0_1381
  refine W.iloadN (q := 362) X1386 C at_361 rfl rfl ?_
  refine W.ldcI (q := 364) X1386 C (W.ww hw 13 rfl) at_362 rfl ?_
  refine W.iand (q := 365) X1386 C at_364 rfl ?_
  refine W.i2c (q := 366) X1386 C at_365 rfl ?_
  generalize hv1390 : ((p3 &&& (65535 : Int32)).toUInt32.toUInt16.toUInt32.toInt32) = v1390
  refine W.istore (q := 368) (L' := #[.val (.long p0), .second, .val (.int p2), .val (.int p3), .val (.int p4), .val (.int p5), .val (.int n), .val (.int q), .val (.int t), .val (.int bo), .val (.int len), .val (.int ws), .val (.int w), .val (.int v1326), .val (.ref b1327), .val (.int v1390), .unset, .unset, .unset, .unset, .unset]) X1386 C at_366 rfl rfl ?_
  refine W.iloadN (q := 369) X1386 C at_368 rfl rfl ?_
  refine W.bipush (q := 371) (v := 16) X1386 C at_369 rfl rfl ?_
  refine W.iushr (q := 372) X1386 C at_371 rfl ?_
  refine W.sipush (q := 375) (v := 32767) X1386 C at_372 rfl rfl ?_
  refine W.iand (q := 376) X1386 C at_375 rfl ?_
  refine W.bipush (q := 378) (v := 12) X1386 C at_376 rfl rfl ?_
  refine W.irem (q := 379) X1386 C at_378 (by decide) rfl ?_
  generalize hv1391 : ((((p3.toUInt32 >>> ((16 : Int32) &&& 31).toUInt32).toInt32) &&& (32767 : Int32)) % (12 : Int32)) = v1391
  refine W.istore (q := 381) (L' := #[.val (.long p0), .second, .val (.int p2), .val (.int p3), .val (.int p4), .val (.int p5), .val (.int n), .val (.int q), .val (.int t), .val (.int bo), .val (.int len), .val (.int ws), .val (.int w), .val (.int v1326), .val (.ref b1327), .val (.int v1390), .val (.int v1391), .unset, .unset, .unset, .unset]) X1386 C at_379 rfl rfl ?_
  have hcc : own_r16 v1390 := by rw [← hv1390]; exact own_c16 _
  have hbp := own_bpos _ _ hv1391
  have VL : Arv Z h1386 b1327 k1327 .char (12 : Int32) (own_vs [c0, c1, c2, c3, c4, c5, c6, c7, c8, c9, c10, c11]) (.int (0 : Int32)) := V1386
  have hokl : own_okc [c0, c1, c2, c3, c4, c5, c6, c7, c8, c9, c10, c11] := ⟨rfl, fun x hx => by simp only [List.mem_cons, List.not_mem_nil, or_false] at hx; rcases hx with rfl | rfl | rfl | rfl | rfl | rfl | rfl | rfl | rfl | rfl | rfl | rfl <;> assumption⟩
  have hcl : ∀ j, j < 12 → own_tb ([c0, c1, c2, c3, c4, c5, c6, c7, c8, c9, c10, c11].getD j 0) = own_vl p0 (own_tok N Q (N + Q + T) O j) := by
    intro j hj
    have hsp2 := (own_sp hsp).1
    match j, hj with
    | 0, _ => exact (show own_tb c0 = _ by rw [← hpk0]; exact own_cls (t := t) rfl hN hQ hT hO hlen (by decide) hN8 hQ4 hT2 (by omega) hsp2)
    | 1, _ => exact (show own_tb c1 = _ by rw [← hpk1]; exact own_cls (t := t) rfl hN hQ hT hO hlen (by decide) hN8 hQ4 hT2 (by omega) hsp2)
    | 2, _ => exact (show own_tb c2 = _ by rw [← hpk2]; exact own_cls (t := t) rfl hN hQ hT hO hlen (by decide) hN8 hQ4 hT2 (by omega) hsp2)
    | 3, _ => exact (show own_tb c3 = _ by rw [← hpk3]; exact own_cls (t := t) rfl hN hQ hT hO hlen (by decide) hN8 hQ4 hT2 (by omega) hsp2)
    | 4, _ => exact (show own_tb c4 = _ by rw [← hpk4]; exact own_cls (t := t) rfl hN hQ hT hO hlen (by decide) hN8 hQ4 hT2 (by omega) hsp2)
    | 5, _ => exact (show own_tb c5 = _ by rw [← hpk5]; exact own_cls (t := t) rfl hN hQ hT hO hlen (by decide) hN8 hQ4 hT2 (by omega) hsp2)
    | 6, _ => exact (show own_tb c6 = _ by rw [← hpk6]; exact own_cls (t := t) rfl hN hQ hT hO hlen (by decide) hN8 hQ4 hT2 (by omega) hsp2)
    | 7, _ => exact (show own_tb c7 = _ by rw [← hpk7]; exact own_cls (t := t) rfl hN hQ hT hO hlen (by decide) hN8 hQ4 hT2 (by omega) hsp2)
    | 8, _ => exact (show own_tb c8 = _ by rw [← hpk8]; exact own_cls (t := t) rfl hN hQ hT hO hlen (by decide) hN8 hQ4 hT2 (by omega) hsp2)
    | 9, _ => exact (show own_tb c9 = _ by rw [← hpk9]; exact own_cls (t := t) rfl hN hQ hT hO hlen (by decide) hN8 hQ4 hT2 (by omega) hsp2)
    | 10, _ => exact (show own_tb c10 = _ by rw [← hpk10]; exact own_cls (t := t) rfl hN hQ hT hO hlen (by decide) hN8 hQ4 hT2 (by omega) hsp2)
    | 11, _ => exact (show own_tb c11 = _ by rw [← hpk11]; exact own_cls (t := t) rfl hN hQ hT hO hlen (by decide) hN8 hQ4 hT2 (by omega) hsp2)
  have hf0 : own_val (own_run 12 [c0, c1, c2, c3, c4, c5, c6, c7, c8, c9, c10, c11] 0 (0, 0, 0, 0)) = own_exp 0 n q t p0 := by
    have z := own_core ⟨N, hN8⟩ ⟨Q, hQ4⟩ ⟨T, hT2⟩ ⟨O, by omega⟩ (by show O + (N + Q + T) ≤ 12; omega) p0 [c0, c1, c2, c3, c4, c5, c6, c7, c8, c9, c10, c11] hcl
    rw [own_back hN, own_back hQ, own_back hT] at z; exact z
  refine W.iload (q := 383) X1386 C at_381 rfl rfl ?_
  refine W.if_ (q := 398) (q' := 386) X1386 C at_383 (by decide) (by decide) rfl (fun hc1392 => ?_) (fun hc1392 => ?_)
  · replace hc1392 : bo = 0 := hc1392
    refine W.iconst (q := 399) (v := 0) X1386 C at_398 rfl rfl ?_
    refine W.istore (q := 401) (L' := #[.val (.long p0), .second, .val (.int p2), .val (.int p3), .val (.int p4), .val (.int p5), .val (.int n), .val (.int q), .val (.int t), .val (.int bo), .val (.int len), .val (.int ws), .val (.int w), .val (.int v1326), .val (.ref b1327), .val (.int v1390), .val (.int v1391), .val (.int (0 : Int32)), .unset, .unset, .unset]) X1386 C at_399 rfl rfl ?_
    refine W.iload (q := 403) X1386 C at_401 rfl rfl ?_
    refine W.ifT (q := 413) X1386 C at_403 (by decide) (by decide) (by decide : W.cT .eq (0 : Int32) 0) ?_
    exact own_j413 l Z a0 hw h1386 n0 p0 p2 p3 p4 p5 n q t bo len ws w v1326 v1390 v1391 (0 : Int32) b1327 k1327 [c0, c1, c2, c3, c4, c5, c6, c7, c8, c9, c10, c11] sxa kx vsx C X1386 e1386 N1386 n0_1386 O0_1388 SX VSX hTab hsz ge_b1327 VL hokl hf0
  · replace hc1392 : bo ≠ 0 := hc1392
    refine W.iload (q := 388) X1386 C at_386 rfl rfl ?_
    refine W.callS (q := 391) X1386 C (W.ww hw 50 rfl) (W.ww hw 51 rfl) (W.ww hw 4 rfl) (W.ww hw 52 rfl) (by decide) (rm10 l Z a0 hw [] v1390 h1386 n0) e1386 at_388 [(.int v1390)] [] rfl rfl pd__28C_29Z rfl rfl (by decide) (Nat.le_of_ble_eq_true rfl) (by decide) (by decide) rfl (fun T1393 w1393 L1393 X1393 hQ1393 => ?_)
    obtain ⟨rfl, NL1393, e1393⟩ := hQ1393
    have N1393 := Fr.app N1386 NL1393
    show W.Go p e below _ (T1393.setTop (mkF m 391 #[.val (.long p0), .second, .val (.int p2), .val (.int p3), .val (.int p4), .val (.int p5), .val (.int n), .val (.int q), .val (.int t), .val (.int bo), .val (.int len), .val (.int ws), .val (.int w), .val (.int v1326), .val (.ref b1327), .val (.int v1390), .val (.int v1391), .unset, .unset, .unset, .unset] [(.int (own_non v1390))]))
    refine W.if_ (q := 398) (q' := 394) X1393 C at_391 (by decide) (by decide) rfl (fun hc1394 => ?_) (fun hc1394 => ?_)
    · replace hc1394 : (own_non v1390) = 0 := hc1394
      refine W.iconst (q := 399) (v := 0) X1393 C at_398 rfl rfl ?_
      refine W.istore (q := 401) (L' := #[.val (.long p0), .second, .val (.int p2), .val (.int p3), .val (.int p4), .val (.int p5), .val (.int n), .val (.int q), .val (.int t), .val (.int bo), .val (.int len), .val (.int ws), .val (.int w), .val (.int v1326), .val (.ref b1327), .val (.int v1390), .val (.int v1391), .val (.int (0 : Int32)), .unset, .unset, .unset]) X1393 C at_399 rfl rfl ?_
      refine W.iload (q := 403) X1393 C at_401 rfl rfl ?_
      refine W.ifT (q := 413) X1393 C at_403 (by decide) (by decide) (by decide : W.cT .eq (0 : Int32) 0) ?_
      exact own_j413 l Z a0 hw h1386 n0 p0 p2 p3 p4 p5 n q t bo len ws w v1326 v1390 v1391 (0 : Int32) b1327 k1327 [c0, c1, c2, c3, c4, c5, c6, c7, c8, c9, c10, c11] sxa kx vsx C X1393 e1393 N1393 n0_1386 O0_1388 SX VSX hTab hsz ge_b1327 VL hokl hf0
    · replace hc1394 : (own_non v1390) ≠ 0 := hc1394
      refine W.iconst (q := 395) (v := 1) X1393 C at_394 rfl rfl ?_
      refine W.goto (q := 399) X1393 C at_395 (by decide) (by decide) ?_
      refine W.istore (q := 401) (L' := #[.val (.long p0), .second, .val (.int p2), .val (.int p3), .val (.int p4), .val (.int p5), .val (.int n), .val (.int q), .val (.int t), .val (.int bo), .val (.int len), .val (.int ws), .val (.int w), .val (.int v1326), .val (.ref b1327), .val (.int v1390), .val (.int v1391), .val (.int (1 : Int32)), .unset, .unset, .unset]) X1393 C at_399 rfl rfl ?_
      refine W.iload (q := 403) X1393 C at_401 rfl rfl ?_
      refine W.ifF (q := 406) X1393 C at_403 rfl (by decide : W.cF .eq (1 : Int32) 0) ?_
      refine W.aload (q := 408) X1393 C at_406 rfl rfl rfl ?_
      refine W.iload (q := 410) X1393 C at_408 rfl rfl ?_
      refine W.iload (q := 412) X1393 C at_410 rfl rfl ?_
      refine W.castore (q := 413) X1393 C e1393 VL  hbp.1 hbp.2 (own_len hokl hbp) at_412 rfl (fun T1395 h1395 X1395 e1395 W1395 V1395_ => ?_)
      rw [own_narc hcc] at V1395_
      have O0_1397 := O0_1388.wr W1395 ge_b1327
      have N1395 := Fr.snoc X1395 N1393 ge_b1327
      have n0_1395 : n0 ≤ h1395.size := by rw [W1395.size]; exact n0_1386
      rw [own_set] at V1395_
      have hok2 := own_s_ok (i := v1391.toNatClampNeg) hokl hcc
      have hf1 : own_val (own_run 12 ([c0, c1, c2, c3, c4, c5, c6, c7, c8, c9, c10, c11].set v1391.toNatClampNeg v1390) 0 (0, 0, 0, 0)) = own_exp 1 n q t p0 := by
        have z := own_hit 12 ([c0, c1, c2, c3, c4, c5, c6, c7, c8, c9, c10, c11].set v1391.toNatClampNeg v1390) 0 (0, 0, 0, 0) v1391.toNatClampNeg (Nat.zero_le _) (by have := own_nat hbp; omega) (by have := own_nat hbp; rw [show ([c0, c1, c2, c3, c4, c5, c6, c7, c8, c9, c10, c11].set v1391.toNatClampNeg v1390).getD v1391.toNatClampNeg 0 = v1390 by simp [List.getD, this]]; exact own_nonT hc1394)
        rw [own_val, if_pos (Or.inl z), own_exp, if_pos (by decide)]
      exact own_j413 l Z a0 hw h1395 n0 p0 p2 p3 p4 p5 n q t bo len ws w v1326 v1390 v1391 (1 : Int32) b1327 k1327 ([c0, c1, c2, c3, c4, c5, c6, c7, c8, c9, c10, c11].set v1391.toNatClampNeg v1390) sxa kx vsx C X1395 e1395 N1395 n0_1395 O0_1397 SX VSX hTab hsz ge_b1327 V1395_ hok2 hf1
def Q0 (Z : State) (p0 : Int64) (p2 p3 p4 p5 : Int32) (sxa : Addr) (kx : ClassId) (vsx : List Value) (h0 : Heap) (n0 : Nat) (v : Option Value) (h : Heap) (L : List Loc) : Prop := v = some (.int 1) ∧ Fr n0 L
set_option maxRecDepth 65536 in
set_option maxHeartbeats 40000000 in
theorem rm0 (l : Launch) (Z : State) (a0 : Array Value) (hw : ∀ d ∈ tables_1, d.before a0 Z = true) (ws : List Jvm.Cond) (p0 : Int64) (p2 p3 p4 p5 : Int32) (sxa : Addr) (kx : ClassId) (vsx : List Value) (h0 : Heap) (n0 : Nat) (Z0 : n0 ≤ h0.size) (O0 : Old Z n0 h0) (SX : Sta Z Z.heap "com/example/fedlint/fedlint/Base64Binary" "SEXTETS" "[B" (.ref sxa)) (VSX : Arv Z Z.heap sxa kx .byte (128 : Int32) vsx (.int (0 : Int32))) (hTab : own_Tab vsx) (hsz : sxa < n0) :
    MetFree l x (head1 (Jvm.Cond.code x code maxLocals ret :: ws) room_1) (fun a U => a = #[(.long p0), (.int p2), (.int p3), (.int p4), (.int p5)] ∧ Z.Warmed39 U.vm ∧ U.heap = h0) (fun _ _ _ _ _ => True) (fun _ U o U' => ∃ v L, o = .returned v ∧ Q0 Z p0 p2 p3 p4 p5 sxa kx vsx h0 n0 v U'.heap L ∧ FrameEnd U o U' L room_1.cells room_1.slots) := by
  refine W.bodyOf (y := x) (as := #[(.long p0), (.int p2), (.int p3), (.int p4), (.int p5)]) (maxL := maxLocals) (Q := Q0 Z p0 p2 p3 p4 p5 sxa kx vsx h0 n0) (Ls := #[.val (.long p0), .second, .val (.int p2), .val (.int p3), .val (.int p4), .val (.int p5), .unset, .unset, .unset, .unset, .unset, .unset, .unset, .unset, .unset, .unset, .unset, .unset, .unset, .unset, .unset]) (plainFor_of_name pn_com_example_fedlint_fedlint_Base64CheckValidPinLaw) (fun m => by first | exact W.entry_of rfl | rfl | (simp [entryFrame, mkF, argsToLocals, Value.category, maxLocals]; done)) ?_
  intro p e s m below meth c T0 C X0 e0
  replace C : W.Cx p s m meth c Z code 21 "com/example/fedlint/fedlint/Base64CheckValidPinLaw" "law" (some .boolean) := C
  have N0 := Fr.nil n0
  refine W.iloadN (q := 1) X0 C at_0 rfl rfl ?_
  refine W.bipush (q := 3) (v := 7) X0 C at_1 rfl rfl ?_
  refine W.iand (q := 4) X0 C at_3 rfl ?_
  generalize hv1399 : (p2 &&& (7 : Int32)) = v1399
  refine W.istore (q := 6) (L' := #[.val (.long p0), .second, .val (.int p2), .val (.int p3), .val (.int p4), .val (.int p5), .val (.int v1399), .unset, .unset, .unset, .unset, .unset, .unset, .unset, .unset, .unset, .unset, .unset, .unset, .unset, .unset]) X0 C at_4 rfl rfl ?_
  refine W.iloadN (q := 7) X0 C at_6 rfl rfl ?_
  refine W.iconst (q := 8) (v := 3) X0 C at_7 rfl rfl ?_
  refine W.iushr (q := 9) X0 C at_8 rfl ?_
  refine W.iconst (q := 10) (v := 3) X0 C at_9 rfl rfl ?_
  refine W.iand (q := 11) X0 C at_10 rfl ?_
  generalize hv1400 : (((p2.toUInt32 >>> ((3 : Int32) &&& 31).toUInt32).toInt32) &&& (3 : Int32)) = v1400
  refine W.istore (q := 13) (L' := #[.val (.long p0), .second, .val (.int p2), .val (.int p3), .val (.int p4), .val (.int p5), .val (.int v1399), .val (.int v1400), .unset, .unset, .unset, .unset, .unset, .unset, .unset, .unset, .unset, .unset, .unset, .unset, .unset]) X0 C at_11 rfl rfl ?_
  refine W.iloadN (q := 14) X0 C at_13 rfl rfl ?_
  refine W.iconst (q := 15) (v := 5) X0 C at_14 rfl rfl ?_
  refine W.iushr (q := 16) X0 C at_15 rfl ?_
  refine W.iconst (q := 17) (v := 1) X0 C at_16 rfl rfl ?_
  refine W.iand (q := 18) X0 C at_17 rfl ?_
  generalize hv1401 : (((p2.toUInt32 >>> ((5 : Int32) &&& 31).toUInt32).toInt32) &&& (1 : Int32)) = v1401
  refine W.istore (q := 20) (L' := #[.val (.long p0), .second, .val (.int p2), .val (.int p3), .val (.int p4), .val (.int p5), .val (.int v1399), .val (.int v1400), .val (.int v1401), .unset, .unset, .unset, .unset, .unset, .unset, .unset, .unset, .unset, .unset, .unset, .unset]) X0 C at_18 rfl rfl ?_
  refine W.iloadN (q := 21) X0 C at_20 rfl rfl ?_
  refine W.bipush (q := 23) (v := 6) X0 C at_21 rfl rfl ?_
  refine W.iushr (q := 24) X0 C at_23 rfl ?_
  refine W.iconst (q := 25) (v := 1) X0 C at_24 rfl rfl ?_
  refine W.iand (q := 26) X0 C at_25 rfl ?_
  refine W.if_ (q := 33) (q' := 29) X0 C at_26 (by decide) (by decide) rfl (fun hc1402 => ?_) (fun hc1402 => ?_)
  · replace hc1402 : (((p2.toUInt32 >>> ((6 : Int32) &&& 31).toUInt32).toInt32) &&& (1 : Int32)) = 0 := hc1402
    refine W.iconst (q := 34) (v := 0) X0 C at_33 rfl rfl ?_
    refine W.istore (q := 36) (L' := #[.val (.long p0), .second, .val (.int p2), .val (.int p3), .val (.int p4), .val (.int p5), .val (.int v1399), .val (.int v1400), .val (.int v1401), .val (.int (0 : Int32)), .unset, .unset, .unset, .unset, .unset, .unset, .unset, .unset, .unset, .unset, .unset]) X0 C at_34 rfl rfl ?_
    refine W.iload (q := 38) X0 C at_36 rfl rfl ?_
    refine W.iload (q := 40) X0 C at_38 rfl rfl ?_
    refine W.iadd (q := 41) X0 C at_40 rfl ?_
    refine W.iload (q := 43) X0 C at_41 rfl rfl ?_
    refine W.iadd (q := 44) X0 C at_43 rfl ?_
    generalize hv1403 : ((v1399 + v1400) + v1401) = v1403
    refine W.istore (q := 46) (L' := #[.val (.long p0), .second, .val (.int p2), .val (.int p3), .val (.int p4), .val (.int p5), .val (.int v1399), .val (.int v1400), .val (.int v1401), .val (.int (0 : Int32)), .val (.int v1403), .unset, .unset, .unset, .unset, .unset, .unset, .unset, .unset, .unset, .unset]) X0 C at_44 rfl rfl ?_
    refine W.iload (q := 48) X0 C at_46 rfl rfl ?_
    refine W.iconst (q := 49) (v := 3) X0 C at_48 rfl rfl ?_
    refine W.iand (q := 50) X0 C at_49 rfl ?_
    generalize hv1404 : (p4 &&& (3 : Int32)) = v1404
    refine W.istore (q := 52) (L' := #[.val (.long p0), .second, .val (.int p2), .val (.int p3), .val (.int p4), .val (.int p5), .val (.int v1399), .val (.int v1400), .val (.int v1401), .val (.int (0 : Int32)), .val (.int v1403), .val (.int v1404), .unset, .unset, .unset, .unset, .unset, .unset, .unset, .unset, .unset]) X0 C at_50 rfl rfl ?_
    refine W.iload (q := 54) X0 C at_52 rfl rfl ?_
    refine W.if_ (q := 62) (q' := 57) X0 C at_54 (by decide) (by decide) rfl (fun hc1405 => ?_) (fun hc1405 => ?_)
    · replace hc1405 : v1404 ≠ 0 := hc1405
      refine W.iload (q := 64) X0 C at_62 rfl rfl ?_
      refine W.iconst (q := 65) (v := 1) X0 C at_64 rfl rfl ?_
      refine W.icmp (q := 73) (q' := 68) X0 C at_65 (by decide) (by decide) rfl (fun hc1406 => ?_) (fun hc1406 => ?_)
      · replace hc1406 : v1404 ≠ (1 : Int32) := hc1406
        refine W.iload (q := 75) X0 C at_73 rfl rfl ?_
        refine W.iconst (q := 76) (v := 2) X0 C at_75 rfl rfl ?_
        refine W.icmp (q := 84) (q' := 79) X0 C at_76 (by decide) (by decide) rfl (fun hc1407 => ?_) (fun hc1407 => ?_)
        · replace hc1407 : v1404 ≠ (2 : Int32) := hc1407
          refine W.bipush (q := 86) (v := 13) X0 C at_84 rfl rfl ?_
          obtain ⟨N, hN, hN8⟩ := own_shape _ _ 7 3 (by decide) (by decide) hv1399
          obtain ⟨Q, hQ, hQ4⟩ := own_shape _ _ 3 2 (by decide) (by decide) hv1400
          obtain ⟨T, hT, hT2⟩ := own_shape _ _ 1 1 (by decide) (by decide) hv1401
          exact own_j86 l Z a0 hw h0 n0 p0 p2 p3 p4 p5 v1399 v1400 v1401 (0 : Int32) v1403 v1404 (13 : Int32) N Q T sxa kx vsx C X0 e0 N0 Z0 O0 SX VSX hTab hsz hN hQ hT hN8 hQ4 hT2 hv1403 (by decide)
        · replace hc1407 : v1404 = (2 : Int32) := hc1407
          refine W.bipush (q := 81) (v := 10) X0 C at_79 rfl rfl ?_
          refine W.goto (q := 86) X0 C at_81 (by decide) (by decide) ?_
          obtain ⟨N, hN, hN8⟩ := own_shape _ _ 7 3 (by decide) (by decide) hv1399
          obtain ⟨Q, hQ, hQ4⟩ := own_shape _ _ 3 2 (by decide) (by decide) hv1400
          obtain ⟨T, hT, hT2⟩ := own_shape _ _ 1 1 (by decide) (by decide) hv1401
          exact own_j86 l Z a0 hw h0 n0 p0 p2 p3 p4 p5 v1399 v1400 v1401 (0 : Int32) v1403 v1404 (10 : Int32) N Q T sxa kx vsx C X0 e0 N0 Z0 O0 SX VSX hTab hsz hN hQ hT hN8 hQ4 hT2 hv1403 (by decide)
      · replace hc1406 : v1404 = (1 : Int32) := hc1406
        refine W.bipush (q := 70) (v := 9) X0 C at_68 rfl rfl ?_
        refine W.goto (q := 86) X0 C at_70 (by decide) (by decide) ?_
        obtain ⟨N, hN, hN8⟩ := own_shape _ _ 7 3 (by decide) (by decide) hv1399
        obtain ⟨Q, hQ, hQ4⟩ := own_shape _ _ 3 2 (by decide) (by decide) hv1400
        obtain ⟨T, hT, hT2⟩ := own_shape _ _ 1 1 (by decide) (by decide) hv1401
        exact own_j86 l Z a0 hw h0 n0 p0 p2 p3 p4 p5 v1399 v1400 v1401 (0 : Int32) v1403 v1404 (9 : Int32) N Q T sxa kx vsx C X0 e0 N0 Z0 O0 SX VSX hTab hsz hN hQ hT hN8 hQ4 hT2 hv1403 (by decide)
    · replace hc1405 : v1404 = 0 := hc1405
      refine W.bipush (q := 59) (v := 32) X0 C at_57 rfl rfl ?_
      refine W.goto (q := 86) X0 C at_59 (by decide) (by decide) ?_
      obtain ⟨N, hN, hN8⟩ := own_shape _ _ 7 3 (by decide) (by decide) hv1399
      obtain ⟨Q, hQ, hQ4⟩ := own_shape _ _ 3 2 (by decide) (by decide) hv1400
      obtain ⟨T, hT, hT2⟩ := own_shape _ _ 1 1 (by decide) (by decide) hv1401
      exact own_j86 l Z a0 hw h0 n0 p0 p2 p3 p4 p5 v1399 v1400 v1401 (0 : Int32) v1403 v1404 (32 : Int32) N Q T sxa kx vsx C X0 e0 N0 Z0 O0 SX VSX hTab hsz hN hQ hT hN8 hQ4 hT2 hv1403 (by decide)
  · replace hc1402 : (((p2.toUInt32 >>> ((6 : Int32) &&& 31).toUInt32).toInt32) &&& (1 : Int32)) ≠ 0 := hc1402
    refine W.iconst (q := 30) (v := 1) X0 C at_29 rfl rfl ?_
    refine W.goto (q := 34) X0 C at_30 (by decide) (by decide) ?_
    refine W.istore (q := 36) (L' := #[.val (.long p0), .second, .val (.int p2), .val (.int p3), .val (.int p4), .val (.int p5), .val (.int v1399), .val (.int v1400), .val (.int v1401), .val (.int (1 : Int32)), .unset, .unset, .unset, .unset, .unset, .unset, .unset, .unset, .unset, .unset, .unset]) X0 C at_34 rfl rfl ?_
    refine W.iload (q := 38) X0 C at_36 rfl rfl ?_
    refine W.iload (q := 40) X0 C at_38 rfl rfl ?_
    refine W.iadd (q := 41) X0 C at_40 rfl ?_
    refine W.iload (q := 43) X0 C at_41 rfl rfl ?_
    refine W.iadd (q := 44) X0 C at_43 rfl ?_
    generalize hv1408 : ((v1399 + v1400) + v1401) = v1408
    refine W.istore (q := 46) (L' := #[.val (.long p0), .second, .val (.int p2), .val (.int p3), .val (.int p4), .val (.int p5), .val (.int v1399), .val (.int v1400), .val (.int v1401), .val (.int (1 : Int32)), .val (.int v1408), .unset, .unset, .unset, .unset, .unset, .unset, .unset, .unset, .unset, .unset]) X0 C at_44 rfl rfl ?_
    refine W.iload (q := 48) X0 C at_46 rfl rfl ?_
    refine W.iconst (q := 49) (v := 3) X0 C at_48 rfl rfl ?_
    refine W.iand (q := 50) X0 C at_49 rfl ?_
    generalize hv1409 : (p4 &&& (3 : Int32)) = v1409
    refine W.istore (q := 52) (L' := #[.val (.long p0), .second, .val (.int p2), .val (.int p3), .val (.int p4), .val (.int p5), .val (.int v1399), .val (.int v1400), .val (.int v1401), .val (.int (1 : Int32)), .val (.int v1408), .val (.int v1409), .unset, .unset, .unset, .unset, .unset, .unset, .unset, .unset, .unset]) X0 C at_50 rfl rfl ?_
    refine W.iload (q := 54) X0 C at_52 rfl rfl ?_
    refine W.if_ (q := 62) (q' := 57) X0 C at_54 (by decide) (by decide) rfl (fun hc1410 => ?_) (fun hc1410 => ?_)
    · replace hc1410 : v1409 ≠ 0 := hc1410
      refine W.iload (q := 64) X0 C at_62 rfl rfl ?_
      refine W.iconst (q := 65) (v := 1) X0 C at_64 rfl rfl ?_
      refine W.icmp (q := 73) (q' := 68) X0 C at_65 (by decide) (by decide) rfl (fun hc1411 => ?_) (fun hc1411 => ?_)
      · replace hc1411 : v1409 ≠ (1 : Int32) := hc1411
        refine W.iload (q := 75) X0 C at_73 rfl rfl ?_
        refine W.iconst (q := 76) (v := 2) X0 C at_75 rfl rfl ?_
        refine W.icmp (q := 84) (q' := 79) X0 C at_76 (by decide) (by decide) rfl (fun hc1412 => ?_) (fun hc1412 => ?_)
        · replace hc1412 : v1409 ≠ (2 : Int32) := hc1412
          refine W.bipush (q := 86) (v := 13) X0 C at_84 rfl rfl ?_
          obtain ⟨N, hN, hN8⟩ := own_shape _ _ 7 3 (by decide) (by decide) hv1399
          obtain ⟨Q, hQ, hQ4⟩ := own_shape _ _ 3 2 (by decide) (by decide) hv1400
          obtain ⟨T, hT, hT2⟩ := own_shape _ _ 1 1 (by decide) (by decide) hv1401
          exact own_j86 l Z a0 hw h0 n0 p0 p2 p3 p4 p5 v1399 v1400 v1401 (1 : Int32) v1408 v1409 (13 : Int32) N Q T sxa kx vsx C X0 e0 N0 Z0 O0 SX VSX hTab hsz hN hQ hT hN8 hQ4 hT2 hv1408 (by decide)
        · replace hc1412 : v1409 = (2 : Int32) := hc1412
          refine W.bipush (q := 81) (v := 10) X0 C at_79 rfl rfl ?_
          refine W.goto (q := 86) X0 C at_81 (by decide) (by decide) ?_
          obtain ⟨N, hN, hN8⟩ := own_shape _ _ 7 3 (by decide) (by decide) hv1399
          obtain ⟨Q, hQ, hQ4⟩ := own_shape _ _ 3 2 (by decide) (by decide) hv1400
          obtain ⟨T, hT, hT2⟩ := own_shape _ _ 1 1 (by decide) (by decide) hv1401
          exact own_j86 l Z a0 hw h0 n0 p0 p2 p3 p4 p5 v1399 v1400 v1401 (1 : Int32) v1408 v1409 (10 : Int32) N Q T sxa kx vsx C X0 e0 N0 Z0 O0 SX VSX hTab hsz hN hQ hT hN8 hQ4 hT2 hv1408 (by decide)
      · replace hc1411 : v1409 = (1 : Int32) := hc1411
        refine W.bipush (q := 70) (v := 9) X0 C at_68 rfl rfl ?_
        refine W.goto (q := 86) X0 C at_70 (by decide) (by decide) ?_
        obtain ⟨N, hN, hN8⟩ := own_shape _ _ 7 3 (by decide) (by decide) hv1399
        obtain ⟨Q, hQ, hQ4⟩ := own_shape _ _ 3 2 (by decide) (by decide) hv1400
        obtain ⟨T, hT, hT2⟩ := own_shape _ _ 1 1 (by decide) (by decide) hv1401
        exact own_j86 l Z a0 hw h0 n0 p0 p2 p3 p4 p5 v1399 v1400 v1401 (1 : Int32) v1408 v1409 (9 : Int32) N Q T sxa kx vsx C X0 e0 N0 Z0 O0 SX VSX hTab hsz hN hQ hT hN8 hQ4 hT2 hv1408 (by decide)
    · replace hc1410 : v1409 = 0 := hc1410
      refine W.bipush (q := 59) (v := 32) X0 C at_57 rfl rfl ?_
      refine W.goto (q := 86) X0 C at_59 (by decide) (by decide) ?_
      obtain ⟨N, hN, hN8⟩ := own_shape _ _ 7 3 (by decide) (by decide) hv1399
      obtain ⟨Q, hQ, hQ4⟩ := own_shape _ _ 3 2 (by decide) (by decide) hv1400
      obtain ⟨T, hT, hT2⟩ := own_shape _ _ 1 1 (by decide) (by decide) hv1401
      exact own_j86 l Z a0 hw h0 n0 p0 p2 p3 p4 p5 v1399 v1400 v1401 (1 : Int32) v1408 v1409 (32 : Int32) N Q T sxa kx vsx C X0 e0 N0 Z0 O0 SX VSX hTab hsz hN hQ hT hN8 hQ4 hT2 hv1408 (by decide)
theorem own_segs (j : Int) (h0 : 0 ≤ j) (h1 : j < 128) : (0 ≤ j ∧ j < 9) ∨ (9 ≤ j ∧ j < 10) ∨ (10 ≤ j ∧ j < 11) ∨ (11 ≤ j ∧ j < 12) ∨ (12 ≤ j ∧ j < 13) ∨ (13 ≤ j ∧ j < 14) ∨ (14 ≤ j ∧ j < 32) ∨ (32 ≤ j ∧ j < 33) ∨ (33 ≤ j ∧ j < 43) ∨ (43 ≤ j ∧ j < 44) ∨ (44 ≤ j ∧ j < 45) ∨ (45 ≤ j ∧ j < 46) ∨ (46 ≤ j ∧ j < 47) ∨ (47 ≤ j ∧ j < 48) ∨ (48 ≤ j ∧ j < 58) ∨ (58 ≤ j ∧ j < 59) ∨ (59 ≤ j ∧ j < 60) ∨ (60 ≤ j ∧ j < 61) ∨ (61 ≤ j ∧ j < 62) ∨ (62 ≤ j ∧ j < 63) ∨ (63 ≤ j ∧ j < 64) ∨ (64 ≤ j ∧ j < 65) ∨ (65 ≤ j ∧ j < 91) ∨ (91 ≤ j ∧ j < 97) ∨ (97 ≤ j ∧ j < 123) ∨ (123 ≤ j ∧ j < 128) := by omega
theorem own_t3 (j x : Int32) (hx : x.toInt = -3) (h : ¬ ((65 ≤ j.toInt ∧ j.toInt ≤ 90) ∨ (97 ≤ j.toInt ∧ j.toInt ≤ 122) ∨ (48 ≤ j.toInt ∧ j.toInt ≤ 57) ∨ j.toInt = 43 ∨ j.toInt = 47 ∨ j.toInt = 61 ∨ j.toInt = 32 ∨ j.toInt = 9 ∨ j.toInt = 10 ∨ j.toInt = 13)) : x = own_tb j := by
  obtain rfl : x = (-3 : Int32) := Int32.toInt_inj.mp hx
  unfold own_tb
  rw [if_neg (by omega), if_neg (by omega), if_neg (by omega), if_neg (by omega), if_neg (by omega), if_neg (by omega), if_neg (by omega)]
theorem own_t1 (j x : Int32) (J V : Int32) (hj : j = J) (hx : x.toInt = V.toInt) (e : V = own_tb J) : x = own_tb j := by rw [hj, ← e]; exact Int32.toInt_inj.mp hx
theorem own_tA (j x : Int32) (hx : x = j - (65 : Int32)) (h : 65 ≤ j.toInt ∧ j.toInt < 91) : x = own_tb j := by unfold own_tb; rw [if_pos (by omega), hx]
theorem own_ta (j x : Int32) (hx : x = j - (71 : Int32)) (h : 97 ≤ j.toInt ∧ j.toInt < 123) : x = own_tb j := by unfold own_tb; rw [if_neg (by omega), if_pos (by omega), hx]
theorem own_td (j x : Int32) (hx : x.toInt64 = j.toInt64 + (4 : Int64)) (h : 48 ≤ j.toInt ∧ j.toInt < 58) : x = own_tb j := by
  unfold own_tb; rw [if_neg (by omega), if_neg (by omega), if_pos (by omega)]
  have a3 := c_iadd j 4
  have a4 := c_ladd j.toInt64 4
  have a5 := c_i2l j
  have a6 := c_i2l x
  have k3 : (4 : Int32).toInt = 4 := rfl
  have k4 : (4 : Int64).toInt = 4 := rfl
  rw [← hx] at a4
  have r3 := rng32 (j + 4); have r4 := rng64 x.toInt64
  apply Int32.toInt_inj.mp
  omega
theorem own_r3 {P Q R : Prop} (h : P ∨ Q ∨ R) (p : ¬ P) (q : ¬ Q) : R := (h.resolve_left p).resolve_left q
theorem own_ns0 {j : Int} (h : 0 ≤ j ∧ j < 9) : ¬ ((65 ≤ j ∧ j ≤ 90) ∨ (97 ≤ j ∧ j ≤ 122) ∨ (48 ≤ j ∧ j ≤ 57) ∨ j = 43 ∨ j = 47 ∨ j = 61 ∨ j = 32 ∨ j = 9 ∨ j = 10 ∨ j = 13) := by omega
theorem own_ns14 {j : Int} (h : 14 ≤ j ∧ j < 32) : ¬ ((65 ≤ j ∧ j ≤ 90) ∨ (97 ≤ j ∧ j ≤ 122) ∨ (48 ≤ j ∧ j ≤ 57) ∨ j = 43 ∨ j = 47 ∨ j = 61 ∨ j = 32 ∨ j = 9 ∨ j = 10 ∨ j = 13) := by omega
theorem own_ns33 {j : Int} (h : 33 ≤ j ∧ j < 43) : ¬ ((65 ≤ j ∧ j ≤ 90) ∨ (97 ≤ j ∧ j ≤ 122) ∨ (48 ≤ j ∧ j ≤ 57) ∨ j = 43 ∨ j = 47 ∨ j = 61 ∨ j = 32 ∨ j = 9 ∨ j = 10 ∨ j = 13) := by omega
theorem own_ns91 {j : Int} (h : 91 ≤ j ∧ j < 97) : ¬ ((65 ≤ j ∧ j ≤ 90) ∨ (97 ≤ j ∧ j ≤ 122) ∨ (48 ≤ j ∧ j ≤ 57) ∨ j = 43 ∨ j = 47 ∨ j = 61 ∨ j = 32 ∨ j = 9 ∨ j = 10 ∨ j = 13) := by omega
theorem own_ns123 {j : Int} (h : 123 ≤ j ∧ j < 128) : ¬ ((65 ≤ j ∧ j ≤ 90) ∨ (97 ≤ j ∧ j ≤ 122) ∨ (48 ≤ j ∧ j ≤ 57) ∨ j = 43 ∨ j = 47 ∨ j = 61 ∨ j = 32 ∨ j = 9 ∨ j = 10 ∨ j = 13) := by omega
theorem own_tabOf (j x : Int32) (h0 : 0 ≤ j.toInt) (h1 : j.toInt < 128) (f2 : 9 ≤ j.toInt ∨ x.toInt = -3) (f3 : j.toInt = 9 → x.toInt = -2) (f4 : j.toInt = 10 → x.toInt = -2) (f5 : j.toInt = 11 → x.toInt = -3) (f6 : j.toInt = 12 → x.toInt = -3) (f7 : j.toInt = 13 → x.toInt = -2) (f8 : j.toInt < 14 ∨ 32 ≤ j.toInt ∨ x.toInt = -3) (f9 : j.toInt = 32 → x.toInt = -2) (f10 : j.toInt < 33 ∨ 43 ≤ j.toInt ∨ x.toInt = -3) (f11 : j.toInt = 43 → x.toInt = 62) (f12 : j.toInt = 44 → x.toInt = -3) (f13 : j.toInt = 45 → x.toInt = -3) (f14 : j.toInt = 46 → x.toInt = -3) (f15 : j.toInt = 47 → x.toInt = 63) (f16 : j.toInt < 48 ∨ 58 ≤ j.toInt ∨ x.toInt64 = j.toInt64 + (4 : Int64)) (f17 : j.toInt = 58 → x.toInt = -3) (f18 : j.toInt = 59 → x.toInt = -3) (f19 : j.toInt = 60 → x.toInt = -3) (f20 : j.toInt = 61 → x.toInt = -1) (f21 : j.toInt = 62 → x.toInt = -3) (f22 : j.toInt = 63 → x.toInt = -3) (f23 : j.toInt = 64 → x.toInt = -3) (f24 : j.toInt < 65 ∨ 91 ≤ j.toInt ∨ x = j - (65 : Int32)) (f25 : j.toInt < 91 ∨ 97 ≤ j.toInt ∨ x.toInt = -3) (f26 : j.toInt < 97 ∨ 123 ≤ j.toInt ∨ x = j - (71 : Int32)) (f27 : j.toInt < 123 ∨ x.toInt = -3) : x = own_tb j := by
  rcases own_segs _ h0 h1 with h | h | h | h | h | h | h | h | h | h | h | h | h | h | h | h | h | h | h | h | h | h | h | h | h | h
  · exact own_t3 j x (f2.resolve_left (Int.not_le.mpr h.2)) (own_ns0 h)
  · exact own_t1 j x (9 : Int32) (-2 : Int32) (Int32.toInt_inj.mp (Int.le_antisymm (Int.le_of_lt_add_one h.2) h.1)) (f3 (Int.le_antisymm (Int.le_of_lt_add_one h.2) h.1)) (by decide)
  · exact own_t1 j x (10 : Int32) (-2 : Int32) (Int32.toInt_inj.mp (Int.le_antisymm (Int.le_of_lt_add_one h.2) h.1)) (f4 (Int.le_antisymm (Int.le_of_lt_add_one h.2) h.1)) (by decide)
  · exact own_t1 j x (11 : Int32) (-3 : Int32) (Int32.toInt_inj.mp (Int.le_antisymm (Int.le_of_lt_add_one h.2) h.1)) (f5 (Int.le_antisymm (Int.le_of_lt_add_one h.2) h.1)) (by decide)
  · exact own_t1 j x (12 : Int32) (-3 : Int32) (Int32.toInt_inj.mp (Int.le_antisymm (Int.le_of_lt_add_one h.2) h.1)) (f6 (Int.le_antisymm (Int.le_of_lt_add_one h.2) h.1)) (by decide)
  · exact own_t1 j x (13 : Int32) (-2 : Int32) (Int32.toInt_inj.mp (Int.le_antisymm (Int.le_of_lt_add_one h.2) h.1)) (f7 (Int.le_antisymm (Int.le_of_lt_add_one h.2) h.1)) (by decide)
  · exact own_t3 j x (own_r3 f8 (Int.not_lt.mpr h.1) (Int.not_le.mpr h.2)) (own_ns14 h)
  · exact own_t1 j x (32 : Int32) (-2 : Int32) (Int32.toInt_inj.mp (Int.le_antisymm (Int.le_of_lt_add_one h.2) h.1)) (f9 (Int.le_antisymm (Int.le_of_lt_add_one h.2) h.1)) (by decide)
  · exact own_t3 j x (own_r3 f10 (Int.not_lt.mpr h.1) (Int.not_le.mpr h.2)) (own_ns33 h)
  · exact own_t1 j x (43 : Int32) (62 : Int32) (Int32.toInt_inj.mp (Int.le_antisymm (Int.le_of_lt_add_one h.2) h.1)) (f11 (Int.le_antisymm (Int.le_of_lt_add_one h.2) h.1)) (by decide)
  · exact own_t1 j x (44 : Int32) (-3 : Int32) (Int32.toInt_inj.mp (Int.le_antisymm (Int.le_of_lt_add_one h.2) h.1)) (f12 (Int.le_antisymm (Int.le_of_lt_add_one h.2) h.1)) (by decide)
  · exact own_t1 j x (45 : Int32) (-3 : Int32) (Int32.toInt_inj.mp (Int.le_antisymm (Int.le_of_lt_add_one h.2) h.1)) (f13 (Int.le_antisymm (Int.le_of_lt_add_one h.2) h.1)) (by decide)
  · exact own_t1 j x (46 : Int32) (-3 : Int32) (Int32.toInt_inj.mp (Int.le_antisymm (Int.le_of_lt_add_one h.2) h.1)) (f14 (Int.le_antisymm (Int.le_of_lt_add_one h.2) h.1)) (by decide)
  · exact own_t1 j x (47 : Int32) (63 : Int32) (Int32.toInt_inj.mp (Int.le_antisymm (Int.le_of_lt_add_one h.2) h.1)) (f15 (Int.le_antisymm (Int.le_of_lt_add_one h.2) h.1)) (by decide)
  · exact own_td j x (own_r3 f16 (Int.not_lt.mpr h.1) (Int.not_le.mpr h.2)) h
  · exact own_t1 j x (58 : Int32) (-3 : Int32) (Int32.toInt_inj.mp (Int.le_antisymm (Int.le_of_lt_add_one h.2) h.1)) (f17 (Int.le_antisymm (Int.le_of_lt_add_one h.2) h.1)) (by decide)
  · exact own_t1 j x (59 : Int32) (-3 : Int32) (Int32.toInt_inj.mp (Int.le_antisymm (Int.le_of_lt_add_one h.2) h.1)) (f18 (Int.le_antisymm (Int.le_of_lt_add_one h.2) h.1)) (by decide)
  · exact own_t1 j x (60 : Int32) (-3 : Int32) (Int32.toInt_inj.mp (Int.le_antisymm (Int.le_of_lt_add_one h.2) h.1)) (f19 (Int.le_antisymm (Int.le_of_lt_add_one h.2) h.1)) (by decide)
  · exact own_t1 j x (61 : Int32) (-1 : Int32) (Int32.toInt_inj.mp (Int.le_antisymm (Int.le_of_lt_add_one h.2) h.1)) (f20 (Int.le_antisymm (Int.le_of_lt_add_one h.2) h.1)) (by decide)
  · exact own_t1 j x (62 : Int32) (-3 : Int32) (Int32.toInt_inj.mp (Int.le_antisymm (Int.le_of_lt_add_one h.2) h.1)) (f21 (Int.le_antisymm (Int.le_of_lt_add_one h.2) h.1)) (by decide)
  · exact own_t1 j x (63 : Int32) (-3 : Int32) (Int32.toInt_inj.mp (Int.le_antisymm (Int.le_of_lt_add_one h.2) h.1)) (f22 (Int.le_antisymm (Int.le_of_lt_add_one h.2) h.1)) (by decide)
  · exact own_t1 j x (64 : Int32) (-3 : Int32) (Int32.toInt_inj.mp (Int.le_antisymm (Int.le_of_lt_add_one h.2) h.1)) (f23 (Int.le_antisymm (Int.le_of_lt_add_one h.2) h.1)) (by decide)
  · exact own_tA j x (own_r3 f24 (Int.not_lt.mpr h.1) (Int.not_le.mpr h.2)) h
  · exact own_t3 j x (own_r3 f25 (Int.not_lt.mpr h.1) (Int.not_le.mpr h.2)) (own_ns91 h)
  · exact own_ta j x (own_r3 f26 (Int.not_lt.mpr h.1) (Int.not_le.mpr h.2)) h
  · exact own_t3 j x (f27.resolve_left (Int.not_lt.mpr h.1)) (own_ns123 h)
set_option maxRecDepth 65536 in
set_option maxHeartbeats 40000000 in
theorem comes_1 {Post : Tables → Env → Array Value → State → Outcome → State → Prop} (hpost : ∀ tb e args s v u, (limb_1_1.after args s (.returned v) u = true ∧ limb_1_2.after args s (.returned v) u = true ∧ True) → FrameEnd s (.returned v) u (Jvm.fieldLocs frame_1_writes args s ++ Jvm.arrayLocs frame_1_arrays args s ++ Jvm.staticLocs frame_1_statics s) 16 128 → Post tb e args s (.returned v) u) :
    ArmFor flags0 classFile x code maxLocals ret World_1 tables_1 room_1 Calls_1 rest_1 Pre_1 Post := by
  intro l hfl _ _ p e ha hc hk s m args below hf hA hF happ hP
  obtain ⟨hcalls, hrest, hpre⟩ := hP
  obtain ⟨-, -, -, hnamed, -, -, -, hat⟩ := (Spec.applies_iff hf).mp happ
  obtain ⟨hg, hn⟩ := and_e (Cond.before_iff.mp (show (Jvm.Cond.and given_1 narrow_1).before args s = true from hpre))
  obtain ⟨g1, g2⟩ := and_e hg
  obtain ⟨g3, g4⟩ := and_e g2
  obtain ⟨g5, g6⟩ := and_e g4
  obtain ⟨g7, g8⟩ := and_e g6
  obtain ⟨g9, g10⟩ := and_e g8
  obtain ⟨g11, g12⟩ := and_e hn
  obtain ⟨g13, g14⟩ := and_e g12
  obtain ⟨g15, g16⟩ := and_e g14
  obtain ⟨g17, g18⟩ := and_e g16
  obtain ⟨g19, g20⟩ := and_e g18
  obtain ⟨g21, g22⟩ := and_e g20
  obtain ⟨g23, g24⟩ := and_e g22
  obtain ⟨g25, g26⟩ := and_e g24
  obtain ⟨g27, g28⟩ := and_e g26
  obtain ⟨g29, g30⟩ := and_e g28
  obtain ⟨g31, g32⟩ := and_e g30
  obtain ⟨g33, g34⟩ := and_e g32
  obtain ⟨g35, g36⟩ := and_e g34
  obtain ⟨g37, g38⟩ := and_e g36
  obtain ⟨g39, g40⟩ := and_e g38
  obtain ⟨g41, g42⟩ := and_e g40
  obtain ⟨g43, g44⟩ := and_e g42
  obtain ⟨g45, g46⟩ := and_e g44
  obtain ⟨g47, g48⟩ := and_e g46
  obtain ⟨g49, g50⟩ := and_e g48
  obtain ⟨g51, g52⟩ := and_e g50
  obtain ⟨g53, g54⟩ := and_e g52
  obtain ⟨g55, g56⟩ := and_e g54
  obtain ⟨g57, g58⟩ := and_e g56
  obtain ⟨g59, g60⟩ := and_e g58
  obtain ⟨g61, g62⟩ := and_e g60
  obtain ⟨g63, g64⟩ := and_e g62
  obtain ⟨w0, w1, w2, w3, w4, rfl⟩ : ∃ w0 w1 w2 w3 w4 : Value, args = #[w0, w1, w2, w3, w4] := by
    have hs : args.size = 5 := by simpa [Cond.value, given_1] using g1
    obtain ⟨L⟩ := args
    match L, hs with
    | [w0, w1, w2, w3, w4], _ => exact ⟨w0, w1, w2, w3, w4, rfl⟩
  have hw := fun d (hd : d ∈ tables_1) => atoms_spec (ws := Jvm.Cond.code x code maxLocals ret :: tables_1) hat d (List.mem_cons_of_mem _ hd)
  have hfit : Fit s := fun {y c} hc i hi => by
    obtain ⟨ha, rfl⟩ := Array.getElem?_eq_some_iff.mp hc
    have q := List.all_eq_true.mp ((Array.all_eq_true_iff_forall_mem.mp hF) _ (Array.getElem_mem ha)) i (List.mem_range.mpr hi)
    simpa [Array.getElem?_eq_getElem hi] using q
  obtain ⟨i0, ei0⟩ := isL_v g3
  obtain rfl : w0 = (.long i0) := Option.some.inj ei0
  obtain ⟨i1, ei1⟩ := is_v g5
  obtain rfl : w1 = (.int i1) := Option.some.inj ei1
  obtain ⟨i2, ei2⟩ := is_v g7
  obtain rfl : w2 = (.int i2) := Option.some.inj ei2
  obtain ⟨i3, ei3⟩ := is_v g9
  obtain rfl : w3 = (.int i3) := Option.some.inj ei3
  obtain ⟨i4, ei4⟩ := is_v g10
  obtain rfl : w4 = (.int i4) := Option.some.inj ei4
  obtain ⟨sxa, evV⟩ := arr_v g11
  obtain ⟨cl, AV⟩ := Arr.start evV g11
  have SX := Sta.start evV (Or.inr ⟨(W.ww hw 38 rfl), (W.ww hw 41 rfl)⟩)
  obtain ⟨szV, lnV⟩ := W.lenAt AV evV g13
  have VSX : Arv s s.heap sxa cl.cls .byte (128 : Int32) cl.slots.toList (.int (0 : Int32)) := W.arvOf hfit AV szV lnV (by decide)
  have TB := Tab.start hfit AV (Or.inr (Or.inr (Or.inl rfl))) szV lnV (by decide)
  have hTab : own_Tab cl.slots.toList := by
    intro j hj0 hj1
    have hj1' : j.toInt < 128 := hj1
    have hin : ¬ (j < 0 ∨ cl.slots.size ≤ j.toNatClampNeg) := W.inb TB.2.1 hj0 hj1
    have hat := TB.2.2.2 j hin
    have hkk : j.toNatClampNeg < cl.slots.size := Nat.lt_of_not_le fun q => hin (Or.inr q)
    have hjn : ¬ j < 0 := fun q => hin (Or.inl q)
    have evI := idx_at (args := #[.long i0, .int i1, .int i2, .int i3, .int i4]) (s := s) (first := s) (o := none) hjn
    have evE : (Jvm.Term.elem (Jvm.Term.static "com/example/fedlint/fedlint/Base64Binary" "SEXTETS" "[B") (Jvm.Term.index (0 : Nat))).eval #[.long i0, .int i1, .int i2, .int i3, .int i4] s none [j.toNatClampNeg] s = some (.int (atv cl j)) := (elem_f (show (Jvm.Term.static "com/example/fedlint/fedlint/Base64Binary" "SEXTETS" "[B").eval #[.long i0, .int i1, .int i2, .int i3, .int i4] s none [j.toNatClampNeg] s = some (.ref sxa) from evV) evI (AV.fin (Vm.Alike.refl _)) hjn).trans hat
    have ha := AV.fin (Vm.Alike.refl _)
    have g1002 := Cond.all_elim evV ha g15 j.toNatClampNeg hkk
    have f2 : 9 ≤ j.toInt ∨ (atv cl j).toInt = -3 := (or_e2 (Cond.le_ints (Term.int_eval 9) evI) (Cond.eq_ints evE (Term.int_eval (-3))) g1002).imp Int32.le_iff_toInt_le.mp (congrArg Int32.toInt)
    have f3 : j.toInt = 9 → (atv cl j).toInt = -2 := by
      intro q
      obtain rfl : j = (9 : Int32) := Int32.toInt_inj.mp q
      have z := W.elemAt AV evV (Term.int_eval 9) (eqv_i (Term.int_eval (-2)) g17)
      rw [hat] at z
      rw [Value.int.inj (Option.some.inj z)]; rfl
    have f4 : j.toInt = 10 → (atv cl j).toInt = -2 := by
      intro q
      obtain rfl : j = (10 : Int32) := Int32.toInt_inj.mp q
      have z := W.elemAt AV evV (Term.int_eval 10) (eqv_i (Term.int_eval (-2)) g19)
      rw [hat] at z
      rw [Value.int.inj (Option.some.inj z)]; rfl
    have f5 : j.toInt = 11 → (atv cl j).toInt = -3 := by
      intro q
      obtain rfl : j = (11 : Int32) := Int32.toInt_inj.mp q
      have z := W.elemAt AV evV (Term.int_eval 11) (eqv_i (Term.int_eval (-3)) g21)
      rw [hat] at z
      rw [Value.int.inj (Option.some.inj z)]; rfl
    have f6 : j.toInt = 12 → (atv cl j).toInt = -3 := by
      intro q
      obtain rfl : j = (12 : Int32) := Int32.toInt_inj.mp q
      have z := W.elemAt AV evV (Term.int_eval 12) (eqv_i (Term.int_eval (-3)) g23)
      rw [hat] at z
      rw [Value.int.inj (Option.some.inj z)]; rfl
    have f7 : j.toInt = 13 → (atv cl j).toInt = -2 := by
      intro q
      obtain rfl : j = (13 : Int32) := Int32.toInt_inj.mp q
      have z := W.elemAt AV evV (Term.int_eval 13) (eqv_i (Term.int_eval (-2)) g25)
      rw [hat] at z
      rw [Value.int.inj (Option.some.inj z)]; rfl
    have g1008 := Cond.all_elim evV ha g27 j.toNatClampNeg hkk
    have f8 : j.toInt < 14 ∨ 32 ≤ j.toInt ∨ (atv cl j).toInt = -3 := (or3 g1008 (Cond.lt_ints evI (Term.int_eval 14)) (Cond.le_ints (Term.int_eval 32) evI) (Cond.eq_ints evE (Term.int_eval (-3)))).imp Int32.lt_iff_toInt_lt.mp (Or.imp (fun z => Int.not_lt.mp fun y => z (Int32.lt_iff_toInt_lt.mpr y)) (congrArg Int32.toInt))
    have f9 : j.toInt = 32 → (atv cl j).toInt = -2 := by
      intro q
      obtain rfl : j = (32 : Int32) := Int32.toInt_inj.mp q
      have z := W.elemAt AV evV (Term.int_eval 32) (eqv_i (Term.int_eval (-2)) g29)
      rw [hat] at z
      rw [Value.int.inj (Option.some.inj z)]; rfl
    have g1010 := Cond.all_elim evV ha g31 j.toNatClampNeg hkk
    have f10 : j.toInt < 33 ∨ 43 ≤ j.toInt ∨ (atv cl j).toInt = -3 := (or3 g1010 (Cond.lt_ints evI (Term.int_eval 33)) (Cond.le_ints (Term.int_eval 43) evI) (Cond.eq_ints evE (Term.int_eval (-3)))).imp Int32.lt_iff_toInt_lt.mp (Or.imp (fun z => Int.not_lt.mp fun y => z (Int32.lt_iff_toInt_lt.mpr y)) (congrArg Int32.toInt))
    have f11 : j.toInt = 43 → (atv cl j).toInt = 62 := by
      intro q
      obtain rfl : j = (43 : Int32) := Int32.toInt_inj.mp q
      have z := W.elemAt AV evV (Term.int_eval 43) (eqv_i (Term.int_eval (62)) g33)
      rw [hat] at z
      rw [Value.int.inj (Option.some.inj z)]; rfl
    have f12 : j.toInt = 44 → (atv cl j).toInt = -3 := by
      intro q
      obtain rfl : j = (44 : Int32) := Int32.toInt_inj.mp q
      have z := W.elemAt AV evV (Term.int_eval 44) (eqv_i (Term.int_eval (-3)) g35)
      rw [hat] at z
      rw [Value.int.inj (Option.some.inj z)]; rfl
    have f13 : j.toInt = 45 → (atv cl j).toInt = -3 := by
      intro q
      obtain rfl : j = (45 : Int32) := Int32.toInt_inj.mp q
      have z := W.elemAt AV evV (Term.int_eval 45) (eqv_i (Term.int_eval (-3)) g37)
      rw [hat] at z
      rw [Value.int.inj (Option.some.inj z)]; rfl
    have f14 : j.toInt = 46 → (atv cl j).toInt = -3 := by
      intro q
      obtain rfl : j = (46 : Int32) := Int32.toInt_inj.mp q
      have z := W.elemAt AV evV (Term.int_eval 46) (eqv_i (Term.int_eval (-3)) g39)
      rw [hat] at z
      rw [Value.int.inj (Option.some.inj z)]; rfl
    have f15 : j.toInt = 47 → (atv cl j).toInt = 63 := by
      intro q
      obtain rfl : j = (47 : Int32) := Int32.toInt_inj.mp q
      have z := W.elemAt AV evV (Term.int_eval 47) (eqv_i (Term.int_eval (63)) g41)
      rw [hat] at z
      rw [Value.int.inj (Option.some.inj z)]; rfl
    have g1016 := Cond.all_elim evV ha g43 j.toNatClampNeg hkk
    have f16 : j.toInt < 48 ∨ 58 ≤ j.toInt ∨ (atv cl j).toInt64 = j.toInt64 + (4 : Int64) := (or3 g1016 (Cond.lt_ints evI (Term.int_eval 48)) (Cond.le_ints (Term.int_eval 58) evI) (eq_L (i2l_at evE) ((op2_f (i2l_at evI) (long_at 4)).trans rfl))).imp Int32.lt_iff_toInt_lt.mp (Or.imp (fun z => Int.not_lt.mp fun y => z (Int32.lt_iff_toInt_lt.mpr y)) id)
    have f17 : j.toInt = 58 → (atv cl j).toInt = -3 := by
      intro q
      obtain rfl : j = (58 : Int32) := Int32.toInt_inj.mp q
      have z := W.elemAt AV evV (Term.int_eval 58) (eqv_i (Term.int_eval (-3)) g45)
      rw [hat] at z
      rw [Value.int.inj (Option.some.inj z)]; rfl
    have f18 : j.toInt = 59 → (atv cl j).toInt = -3 := by
      intro q
      obtain rfl : j = (59 : Int32) := Int32.toInt_inj.mp q
      have z := W.elemAt AV evV (Term.int_eval 59) (eqv_i (Term.int_eval (-3)) g47)
      rw [hat] at z
      rw [Value.int.inj (Option.some.inj z)]; rfl
    have f19 : j.toInt = 60 → (atv cl j).toInt = -3 := by
      intro q
      obtain rfl : j = (60 : Int32) := Int32.toInt_inj.mp q
      have z := W.elemAt AV evV (Term.int_eval 60) (eqv_i (Term.int_eval (-3)) g49)
      rw [hat] at z
      rw [Value.int.inj (Option.some.inj z)]; rfl
    have f20 : j.toInt = 61 → (atv cl j).toInt = -1 := by
      intro q
      obtain rfl : j = (61 : Int32) := Int32.toInt_inj.mp q
      have z := W.elemAt AV evV (Term.int_eval 61) (eqv_i (Term.int_eval (-1)) g51)
      rw [hat] at z
      rw [Value.int.inj (Option.some.inj z)]; rfl
    have f21 : j.toInt = 62 → (atv cl j).toInt = -3 := by
      intro q
      obtain rfl : j = (62 : Int32) := Int32.toInt_inj.mp q
      have z := W.elemAt AV evV (Term.int_eval 62) (eqv_i (Term.int_eval (-3)) g53)
      rw [hat] at z
      rw [Value.int.inj (Option.some.inj z)]; rfl
    have f22 : j.toInt = 63 → (atv cl j).toInt = -3 := by
      intro q
      obtain rfl : j = (63 : Int32) := Int32.toInt_inj.mp q
      have z := W.elemAt AV evV (Term.int_eval 63) (eqv_i (Term.int_eval (-3)) g55)
      rw [hat] at z
      rw [Value.int.inj (Option.some.inj z)]; rfl
    have f23 : j.toInt = 64 → (atv cl j).toInt = -3 := by
      intro q
      obtain rfl : j = (64 : Int32) := Int32.toInt_inj.mp q
      have z := W.elemAt AV evV (Term.int_eval 64) (eqv_i (Term.int_eval (-3)) g57)
      rw [hat] at z
      rw [Value.int.inj (Option.some.inj z)]; rfl
    have g1024 := Cond.all_elim evV ha g59 j.toNatClampNeg hkk
    have f24 : j.toInt < 65 ∨ 91 ≤ j.toInt ∨ atv cl j = j - (65 : Int32) := (or3 g1024 (Cond.lt_ints evI (Term.int_eval 65)) (Cond.le_ints (Term.int_eval 91) evI) (Cond.eq_ints evE (show _ = some (Value.int (j - (65 : Int32))) by simp [Term.eval, (back32 hjn).1]))).imp Int32.lt_iff_toInt_lt.mp (Or.imp (fun z => Int.not_lt.mp fun y => z (Int32.lt_iff_toInt_lt.mpr y)) id)
    have g1025 := Cond.all_elim evV ha g61 j.toNatClampNeg hkk
    have f25 : j.toInt < 91 ∨ 97 ≤ j.toInt ∨ (atv cl j).toInt = -3 := (or3 g1025 (Cond.lt_ints evI (Term.int_eval 91)) (Cond.le_ints (Term.int_eval 97) evI) (Cond.eq_ints evE (Term.int_eval (-3)))).imp Int32.lt_iff_toInt_lt.mp (Or.imp (fun z => Int.not_lt.mp fun y => z (Int32.lt_iff_toInt_lt.mpr y)) (congrArg Int32.toInt))
    have g1026 := Cond.all_elim evV ha g63 j.toNatClampNeg hkk
    have f26 : j.toInt < 97 ∨ 123 ≤ j.toInt ∨ atv cl j = j - (71 : Int32) := (or3 g1026 (Cond.lt_ints evI (Term.int_eval 97)) (Cond.le_ints (Term.int_eval 123) evI) (Cond.eq_ints evE (show _ = some (Value.int (j - (71 : Int32))) by simp [Term.eval, (back32 hjn).1]))).imp Int32.lt_iff_toInt_lt.mp (Or.imp (fun z => Int.not_lt.mp fun y => z (Int32.lt_iff_toInt_lt.mpr y)) id)
    have g1027 := Cond.all_elim evV ha g64 j.toNatClampNeg hkk
    have f27 : j.toInt < 123 ∨ (atv cl j).toInt = -3 := (or_e2 (Cond.lt_ints evI (Term.int_eval 123)) (Cond.eq_ints evE (Term.int_eval (-3))) g1027).imp Int32.lt_iff_toInt_lt.mp (congrArg Int32.toInt)
    have e0 : cl.slots.toList.getD j.toNatClampNeg (.int (0 : Int32)) = .int (atv cl j) := by simp [List.getD, hat]
    rw [e0]
    apply congrArg Value.int
    exact own_tabOf j (atv cl j) hj0 hj1' f2 f3 f4 f5 f6 f7 f8 f9 f10 f11 f12 f13 f14 f15 f16 f17 f18 f19 f20 f21 f22 f23 f24 f25 f26 f27
  have hsz : sxa < s.heap.size := AV.lt
  obtain ⟨n, o, h1, h2, h3, _, L, rfl, ⟨rfl, N⟩, hq⟩ := rm0 l s _ hw tables_1 i0 i1 i2 i3 i4 sxa cl.cls cl.slots.toList s.heap s.heap.size (Nat.le_refl _) (Old.start s) SX VSX hTab hsz p e ha hc hk s m _ below hf ((Spec.applies_iff_loose hf).mp happ).1 ⟨rfl, State.Warmed39.refl s, rfl⟩ trivial
  refine ⟨n, _, h1, h2, h3, hpost _ _ _ _ _ _ ⟨Cond.after_iff.mpr rfl, Cond.after_iff.mpr (eq_i res_at (Term.int_eval (1)) rfl), trivial⟩ ⟨hq.1, hq.2.1, (hq.2.2.sift fun y hy => Or.inr (N y hy)).mono (by decide) (by decide)⟩⟩
theorem main_1_1 : Claimed_1_1 := comes_1 fun _ _ _ _ _ _ h hF => ⟨h.1, hF⟩
theorem main_1_2 : Claimed_1_2 := comes_1 fun _ _ _ _ _ _ h hF => ⟨h.2.1, hF⟩
end Jvm.Pilot.@@N@@
namespace Jvm.Pilot.@@N@@
open Jvm Jvm.ClassFile Sem Op Lib Jvm.Free Jvm.Stand Jvm.Pilot.@@N@@.Jvm.D
/-! MADE BY PROGRAM (witnessworld.py) out of the Statement's table words and the real class files: 12 classes; the members and pool entries that the words name. The judged class is class 1, her method 1. -/
namespace start1
open Jvm.ClassFile
def u (s : String) : CpInfo := .utf8 (stringToUtf16 s)
/-- a pool by its gaps: so many unusable entries, then the entry; so many at the end -/
def gap : Nat → List CpInfo → List CpInfo
  | 0, r => r
  | n + 1, r => .unusable :: gap n r
def poolList (es : List (Nat × CpInfo)) (last : Nat) : List CpInfo := es.foldr (fun e r => gap e.1 (e.2 :: r)) (gap last [])
def pool (es : List (Nat × CpInfo)) (last : Nat) : Array CpInfo := ⟨poolList es last⟩
def fileOf (pool : Array CpInfo) (this : Nat) (attrs : Array Attribute := #[]) (ms : Array MethodInfo := #[]) (fl : Nat := 33) (sup : Nat := 0) (ifs : Array Nat := #[]) (fds : Array FieldInfo := #[]) : ClassFile where
  minorVersion := 0
  majorVersion := 65
  constantPool := pool
  accessFlags := fl
  thisClass := this
  superClass := sup
  interfaces := ifs
  fields := fds
  methods := ms
  attributes := attrs
def plain (name : String) (sup : Option ClassId) : Class where
  name := name
  kind := .ordinary
  loader := none
  accessFlags := 33
  super := sup
  interfaces := #[]
  cf := none
  fields := #[]
  methods := #[]
  instanceTypes := #[]
  staticTypes := #[]
  resolved := #[]
  callSites := []
  init := .initialized
  statics := none
  mirror := none

def pool0 : Array CpInfo := pool [(5, u "<init>"), (0, u "()V"), (1, .class_ 10), (1, u "java/lang/Object")] 113

def k0c0 : Code := { maxStack := 0, maxLocals := 1, code := object_method_1_code, exceptionTable := #[], attributes := #[] }
def k0m0 : Method := { name := "<init>", desc := "()V", sig := { parameters := [], returnType := none }, accessFlags := 1, code := some k0c0 }
/-- java/lang/Object -/
def k0 : Class := { plain "java/lang/Object" none with
  accessFlags := 33
  interfaces := #[]
  cf := some (fileOf pool0 8 #[] #[{ accessFlags := 1, nameIndex := 5, descriptorIndex := 6, attributes := #[] }] 33 0 #[] #[])
  fields := #[]
  methods := #[k0m0]
  instanceTypes := #[]
  staticTypes := #[]
  resolved := Array.replicate 124 none
  statics := none }

def pool1 : Array CpInfo := pool [(2, .class_ 4), (0, .nameAndType 5 6), (0, u "java/lang/Object"), (0, u "<init>"), (0, u "()V"), (0, .integer 2147483647), (0, .methodref 9 10), (0, .class_ 11), (0, .nameAndType 12 13), (0, u "com/example/fedlint/fedlint/Base64CheckValidPinLaw"), (0, u "pick"), (0, u "(IIIIJC)C"), (0, .integer 65535), (0, .methodref 9 16), (0, .nameAndType 17 18), (0, u "isNone"), (0, u "(C)Z"), (0, .class_ 20), (0, u "com/example/fedlint/fedlint/SimpleValues$Base64Check"), (0, .methodref 19 3), (0, .methodref 19 23), (0, .nameAndType 24 25), (0, u "add"), (0, u "([CII)V"), (0, .methodref 19 27), (0, .nameAndType 28 29), (0, u "valid"), (0, u "()Z"), (0, .methodref 9 31), (0, .nameAndType 32 33), (0, u "expected"), (0, u "(ZIIIJ)Z"), (0, .methodref 9 35), (0, .nameAndType 36 37), (0, u "sext"), (0, u "(JI)I"), (0, .long 63), (1, .methodref 9 41), (0, .nameAndType 42 43), (0, u "alpha"), (0, u "(I)C"), (2, u "law"), (0, u "(JIIII)Z")] 9

def k1m0 : Method := { name := "<init>", desc := "()V", sig := { parameters := [], returnType := none }, accessFlags := 2, code := none }
def k1c1 : Code := { maxStack := 9, maxLocals := 21, code := code, exceptionTable := #[], attributes := #[] }
def k1m1 : Method := { name := "law", desc := "(JIIII)Z", sig := { parameters := [.long, .int, .int, .int, .int], returnType := some .boolean }, accessFlags := 9, code := some k1c1 }
def k1c2 : Code := { maxStack := 4, maxLocals := 8, code := method_3_code, exceptionTable := #[], attributes := #[] }
def k1m2 : Method := { name := "expected", desc := "(ZIIIJ)Z", sig := { parameters := [.boolean, .int, .int, .int, .long], returnType := some .boolean }, accessFlags := 10, code := some k1c2 }
def k1c3 : Code := { maxStack := 4, maxLocals := 3, code := method_4_code, exceptionTable := #[], attributes := #[] }
def k1m3 : Method := { name := "sext", desc := "(JI)I", sig := { parameters := [.long, .int], returnType := some .int }, accessFlags := 10, code := some k1c3 }
def k1c4 : Code := { maxStack := 3, maxLocals := 1, code := method_5_code, exceptionTable := #[], attributes := #[] }
def k1m4 : Method := { name := "alpha", desc := "(I)C", sig := { parameters := [.int], returnType := some .char }, accessFlags := 10, code := some k1c4 }
def k1c5 : Code := { maxStack := 3, maxLocals := 7, code := method_6_code, exceptionTable := #[], attributes := #[] }
def k1m5 : Method := { name := "pick", desc := "(IIIIJC)C", sig := { parameters := [.int, .int, .int, .int, .long, .char], returnType := some .char }, accessFlags := 10, code := some k1c5 }
def k1c6 : Code := { maxStack := 2, maxLocals := 1, code := method_7_code, exceptionTable := #[], attributes := #[] }
def k1m6 : Method := { name := "isNone", desc := "(C)Z", sig := { parameters := [.char], returnType := some .boolean }, accessFlags := 10, code := some k1c6 }
/-- com/example/fedlint/fedlint/Base64CheckValidPinLaw -/
def k1 : Class := { plain "com/example/fedlint/fedlint/Base64CheckValidPinLaw" (some 0) with
  accessFlags := 49
  interfaces := #[]
  cf := some (fileOf pool1 9 #[] #[{ accessFlags := 2, nameIndex := 5, descriptorIndex := 6, attributes := #[] }, { accessFlags := 9, nameIndex := 46, descriptorIndex := 47, attributes := #[] }, { accessFlags := 10, nameIndex := 32, descriptorIndex := 33, attributes := #[] }, { accessFlags := 10, nameIndex := 36, descriptorIndex := 37, attributes := #[] }, { accessFlags := 10, nameIndex := 42, descriptorIndex := 43, attributes := #[] }, { accessFlags := 10, nameIndex := 12, descriptorIndex := 13, attributes := #[] }, { accessFlags := 10, nameIndex := 17, descriptorIndex := 18, attributes := #[] }] 49 2 #[] #[])
  fields := #[]
  methods := #[k1m0, k1m1, k1m2, k1m3, k1m4, k1m5, k1m6]
  instanceTypes := #[]
  staticTypes := #[]
  resolved := Array.replicate 57 none
  statics := none }

def pool2 : Array CpInfo := pool [(1, .methodref 2 3), (0, .class_ 4), (0, .nameAndType 5 6), (0, u "java/lang/Object"), (0, u "<init>"), (0, u "()V"), (0, .fieldref 8 9), (0, .class_ 10), (0, .nameAndType 11 12), (0, u "com/example/fedlint/fedlint/SimpleValues$Base64Check"), (0, u "count"), (0, u "I"), (0, .fieldref 8 14), (0, .nameAndType 15 12), (0, u "padding"), (0, .fieldref 8 17), (0, .nameAndType 18 12), (0, u "last"), (0, .fieldref 8 20), (0, .nameAndType 21 22), (0, u "broken"), (0, u "Z"), (0, .methodref 24 25), (0, .class_ 26), (0, .nameAndType 27 28), (0, u "com/example/fedlint/fedlint/Base64Binary"), (0, u "sextet"), (0, u "(C)I"), (3, u "add"), (0, u "([CII)V"), (3, u "valid"), (0, u "()Z"), (3, .class_ 43), (0, u "com/example/fedlint/fedlint/SimpleValues")] 2

def k2c0 : Code := { maxStack := 1, maxLocals := 1, code := prog_85_method_1_code, exceptionTable := #[], attributes := #[] }
def k2m0 : Method := { name := "<init>", desc := "()V", sig := { parameters := [], returnType := none }, accessFlags := 0, code := some k2c0 }
def k2c1 : Code := { maxStack := 3, maxLocals := 10, code := prog_85_method_3_code, exceptionTable := #[], attributes := #[] }
def k2m1 : Method := { name := "add", desc := "([CII)V", sig := { parameters := [(.array .char), .int, .int], returnType := none }, accessFlags := 0, code := some k2c1 }
def k2c2 : Code := { maxStack := 3, maxLocals := 1, code := prog_85_method_4_code, exceptionTable := #[], attributes := #[] }
def k2m2 : Method := { name := "valid", desc := "()Z", sig := { parameters := [], returnType := some .boolean }, accessFlags := 0, code := some k2c2 }
/-- com/example/fedlint/fedlint/SimpleValues$Base64Check -/
def k2 : Class := { plain "com/example/fedlint/fedlint/SimpleValues$Base64Check" (some 0) with
  accessFlags := 48
  interfaces := #[]
  cf := some (fileOf pool2 8 #[.nestHost 42] #[{ accessFlags := 0, nameIndex := 5, descriptorIndex := 6, attributes := #[] }, { accessFlags := 0, nameIndex := 32, descriptorIndex := 33, attributes := #[] }, { accessFlags := 0, nameIndex := 37, descriptorIndex := 38, attributes := #[] }] 48 2 #[] #[{ accessFlags := 2, nameIndex := 11, descriptorIndex := 12, attributes := #[] }, { accessFlags := 2, nameIndex := 15, descriptorIndex := 12, attributes := #[] }, { accessFlags := 2, nameIndex := 18, descriptorIndex := 12, attributes := #[] }, { accessFlags := 2, nameIndex := 21, descriptorIndex := 22, attributes := #[] }])
  fields := #[{ name := "count", type := .int, accessFlags := 2, slot := 0, constantValue := 0 }, { name := "padding", type := .int, accessFlags := 2, slot := 1, constantValue := 0 }, { name := "last", type := .int, accessFlags := 2, slot := 2, constantValue := 0 }, { name := "broken", type := .boolean, accessFlags := 2, slot := 3, constantValue := 0 }]
  methods := #[k2m0, k2m1, k2m2]
  instanceTypes := #[.int, .int, .int, .boolean]
  staticTypes := #[]
  resolved := Array.replicate 46 none
  statics := none }

def pool3 : Array CpInfo := pool [(2, .class_ 4), (1, u "java/lang/Object"), (0, u "<init>"), (0, u "()V"), (0, .fieldref 8 9), (0, .class_ 10), (0, .nameAndType 11 12), (0, u "com/example/fedlint/fedlint/Base64Binary"), (0, u "SEXTETS"), (0, u "[B"), (19, u "sextet"), (0, u "(C)I"), (40, u "PADDING"), (0, u "I"), (2, u "SPACE"), (1, u "NONE")] 12

def k3m0 : Method := { name := "<init>", desc := "()V", sig := { parameters := [], returnType := none }, accessFlags := 2, code := none }
def k3c1 : Code := { maxStack := 2, maxLocals := 1, code := prog_3_method_2_code, exceptionTable := #[], attributes := #[] }
def k3m1 : Method := { name := "sextet", desc := "(C)I", sig := { parameters := [.char], returnType := some .int }, accessFlags := 8, code := some k3c1 }
/-- com/example/fedlint/fedlint/Base64Binary -/
def k3 : Class := { plain "com/example/fedlint/fedlint/Base64Binary" (some 0) with
  accessFlags := 48
  interfaces := #[]
  cf := some (fileOf pool3 8 #[] #[{ accessFlags := 2, nameIndex := 5, descriptorIndex := 6, attributes := #[] }, { accessFlags := 8, nameIndex := 32, descriptorIndex := 33, attributes := #[] }] 48 2 #[] #[{ accessFlags := 26, nameIndex := 11, descriptorIndex := 12, attributes := #[] }, { accessFlags := 24, nameIndex := 74, descriptorIndex := 75, attributes := #[] }, { accessFlags := 24, nameIndex := 78, descriptorIndex := 75, attributes := #[] }, { accessFlags := 24, nameIndex := 80, descriptorIndex := 75, attributes := #[] }])
  fields := #[{ name := "SEXTETS", type := (.array .byte), accessFlags := 26, slot := 0, constantValue := 0 }, { name := "PADDING", type := .int, accessFlags := 24, slot := 1, constantValue := 0 }, { name := "SPACE", type := .int, accessFlags := 24, slot := 2, constantValue := 0 }, { name := "NONE", type := .int, accessFlags := 24, slot := 3, constantValue := 0 }]
  methods := #[k3m0, k3m1]
  instanceTypes := #[]
  staticTypes := #[(.array .byte), .int, .int, .int]
  resolved := Array.replicate 93 none
  statics := some 0 }

def pool4 : Array CpInfo := pool [(1, u "java/lang/Cloneable"), (0, .class_ 1), (0, u "java/lang/Object"), (0, .class_ 3)] 3

/-- java/lang/Cloneable -/
def k4 : Class := { plain "java/lang/Cloneable" (some 0) with
  accessFlags := 1537
  interfaces := #[]
  cf := some (fileOf pool4 2 #[] #[] 1537 4 #[] #[])
  fields := #[]
  methods := #[]
  instanceTypes := #[]
  staticTypes := #[]
  resolved := Array.replicate 8 none
  statics := none }

def pool5 : Array CpInfo := pool [(1, u "java/io/Serializable"), (0, .class_ 1), (0, u "java/lang/Object"), (0, .class_ 3)] 3

/-- java/io/Serializable -/
def k5 : Class := { plain "java/io/Serializable" (some 0) with
  accessFlags := 1537
  interfaces := #[]
  cf := some (fileOf pool5 2 #[] #[] 1537 4 #[] #[])
  fields := #[]
  methods := #[]
  instanceTypes := #[]
  staticTypes := #[]
  resolved := Array.replicate 8 none
  statics := none }

/-- the primitive byte -/
def k6 : Class := { plain "byte" none with kind := .primitive 'B', accessFlags := 0x411 }
/-- [B -/
def k7 : Class := { plain "[B" (some 0) with kind := .array 6 .byte, interfaces := #[4, 5], accessFlags := 1041 }

/-- the primitive char -/
def k8 : Class := { plain "char" none with kind := .primitive 'C', accessFlags := 0x411 }
/-- [C -/
def k9 : Class := { plain "[C" (some 0) with kind := .array 8 .char, interfaces := #[4, 5], accessFlags := 1041 }

/-- the primitive int -/
def k10 : Class := { plain "int" none with kind := .primitive 'I', accessFlags := 0x411 }
/-- [I -/
def k11 : Class := { plain "[I" (some 0) with kind := .array 10 .int, interfaces := #[4, 5], accessFlags := 1041 }

def heap : Heap := #[{ cls := 3, slots := #[.ref 1, .int 0, .int 0, .int 0], vm := .statics 3 },
  { cls := 7, slots := #[.int (-3), .int (-3), .int (-3), .int (-3), .int (-3), .int (-3), .int (-3), .int (-3), .int (-3), .int (-2), .int (-2), .int (-3), .int (-3), .int (-2), .int (-3), .int (-3), .int (-3), .int (-3), .int (-3), .int (-3), .int (-3), .int (-3), .int (-3), .int (-3), .int (-3), .int (-3), .int (-3), .int (-3), .int (-3), .int (-3), .int (-3), .int (-3), .int (-2), .int (-3), .int (-3), .int (-3), .int (-3), .int (-3), .int (-3), .int (-3), .int (-3), .int (-3), .int (-3), .int 62, .int (-3), .int (-3), .int (-3), .int 63, .int 52, .int 53, .int 54, .int 55, .int 56, .int 57, .int 58, .int 59, .int 60, .int 61, .int (-3), .int (-3), .int (-3), .int (-1), .int (-3), .int (-3), .int (-3), .int 0, .int 1, .int 2, .int 3, .int 4, .int 5, .int 6, .int 7, .int 8, .int 9, .int 10, .int 11, .int 12, .int 13, .int 14, .int 15, .int 16, .int 17, .int 18, .int 19, .int 20, .int 21, .int 22, .int 23, .int 24, .int 25, .int (-3), .int (-3), .int (-3), .int (-3), .int (-3), .int (-3), .int 26, .int 27, .int 28, .int 29, .int 30, .int 31, .int 32, .int 33, .int 34, .int 35, .int 36, .int 37, .int 38, .int 39, .int 40, .int 41, .int 42, .int 43, .int 44, .int 45, .int 46, .int 47, .int 48, .int 49, .int 50, .int 51, .int (-3), .int (-3), .int (-3), .int (-3), .int (-3)], vm := .none }]
def classes : Array Class := #[k0, k1, k2, k3, k4, k5, k6, k7, k8, k9, k10, k11]
def interned : List (Array UInt16 × Addr) := []
def slotsUsed : Nat := 132
def theMethod : MethodId := ⟨1, 1⟩
def args0 : Array Value := #[.long 123456, .int 6, .int 7, .int 8, .int 9]
def aboutOver (below : List Frame) : State where
  vm := { classes := classes, interned := interned.toArray }
  heap := heap
  slotsUsed := slotsUsed
  threads := #[{ frames := .invoking theMethod args0 :: below }]
def below0 : List Frame := [.native { method := ⟨0, 0⟩, args := #[] }]
def about1 : State := aboutOver below0
def p0 : Program := .bare "" "" ""
def e0 : Env := launch0.env 0 0 0
theorem w_frames : about1.frames = Frame.invoking theMethod args0 :: below0 := rfl
set_option maxRecDepth 65536 in
theorem w_args : argsFit about1.vm theMethod args0 = true := by decide +kernel
set_option maxRecDepth 65536 in
theorem w_heap : heapFits about1 = true := by decide +kernel
set_option maxRecDepth 65536 in
theorem w_runnable : about1.curStatus? = some .runnable := by decide +kernel
set_option maxRecDepth 65536 in
theorem w_alone : about1.alone = true := by decide +kernel
set_option maxRecDepth 65536 in
theorem w_named : about1.methodNamed? x = some theMethod := by decide +kernel
set_option maxRecDepth 65536 in
theorem w_hears : about1.hears theMethod below0 = true := by decide +kernel
set_option maxRecDepth 65536 in
theorem w_ripe : about1.ripe theMethod args0 below0 = true := by decide +kernel
theorem w_running : about1.status = .running := rfl
set_option maxRecDepth 65536 in
theorem w_room : about1.hasRoom e0.platform room_1 = true :=
  launch0.hasRoom_least _ room_1 (by decide +kernel) (by decide +kernel) (by decide +kernel) (by decide +kernel) (by decide +kernel) (by decide +kernel)
theorem allAtoms_all (ts : List Jvm.Cond) (a : Array Jvm.Value) (st : Jvm.State) : (allAtoms ts).before a st = ts.all (fun c => c.before a st) := by
  induction ts with
  | nil => rfl
  | cons c t ih =>
    show (Jvm.Cond.and c (allAtoms t)).before a st = _
    rw [Jvm.Cond.before_and, ih, List.all_cons]
def words1 : List Jvm.Cond := Jvm.Cond.code x code maxLocals ret :: tables_1
/-- a 'code' word, met by the world's own term for the bytes: nothing is compared byte by byte -/
theorem code_word {y : MethodName} {bytes : ByteArray} {mx : Nat} {rt : Option FieldType} {a : Array Value} {s : State} {m : MethodId} {meth : Method} {c : Code} (h1 : s.methodNamed? y = some m) (h2 : s.vm.method? m = some meth) (h3 : meth.code = some c) (h4 : c.code = bytes)
    (h5 : (c.maxLocals == mx && c.exceptionTable.isEmpty && decide (c.maxStack ≤ mostOperands) && decide (meth.sig.returnType = rt) && !meth.locks && decide (parseMethodDescriptor y.desc = some meth.sig)) = true) : (Jvm.Cond.code y bytes mx rt).before a s = true := by
  simp only [Bool.and_eq_true, beq_iff_eq, Bool.not_eq_true', decide_eq_true_eq] at h5
  obtain ⟨⟨⟨⟨⟨g1, g2⟩, g3⟩, g4⟩, g5⟩, g6⟩ := h5
  simp [Cond.before, Cond.holds, Cond.value, h1, h2, h3, h4, g1, g2, g3, g4, g5, g6]
def isCode : Jvm.Cond → Bool
  | .code _ _ _ _ => true
  | _ => false
theorem all_split {L : List Jvm.Cond} {P : Jvm.Cond → Bool} (h1 : L.all (fun c => isCode c || P c) = true) (h2 : ∀ c ∈ L.filter isCode, P c = true) : L.all P = true := by
  refine List.all_eq_true.mpr fun c hc => ?_
  have h := List.all_eq_true.mp h1 c hc
  rcases Bool.eq_false_or_eq_true (isCode c) with hi | hi
  · exact h2 c (List.mem_filter.mpr ⟨hc, hi⟩)
  · simpa [hi] using h
set_option maxRecDepth 65536 in
theorem w_c0 : (Jvm.Cond.code x code maxLocals ret).before args0 about1 = true := code_word (m := ⟨1, 1⟩) (meth := k1m1) (c := k1c1) (by decide +kernel) rfl rfl rfl (by decide +kernel)
set_option maxRecDepth 65536 in
theorem w_c1 : (Jvm.Cond.code ({ cls := "com/example/fedlint/fedlint/Base64CheckValidPinLaw", name := "pick", desc := "(IIIIJC)C" } : Jvm.MethodName) method_6_code (7 : Nat) (Option.some Jvm.ClassFile.FieldType.char)).before args0 about1 = true := code_word (m := ⟨1, 5⟩) (meth := k1m5) (c := k1c5) (by decide +kernel) rfl rfl rfl (by decide +kernel)
set_option maxRecDepth 65536 in
theorem w_c2 : (Jvm.Cond.code ({ cls := "com/example/fedlint/fedlint/Base64CheckValidPinLaw", name := "sext", desc := "(JI)I" } : Jvm.MethodName) method_4_code (3 : Nat) (Option.some Jvm.ClassFile.FieldType.int)).before args0 about1 = true := code_word (m := ⟨1, 3⟩) (meth := k1m3) (c := k1c3) (by decide +kernel) rfl rfl rfl (by decide +kernel)
set_option maxRecDepth 65536 in
theorem w_c3 : (Jvm.Cond.code ({ cls := "com/example/fedlint/fedlint/Base64CheckValidPinLaw", name := "alpha", desc := "(I)C" } : Jvm.MethodName) method_5_code (1 : Nat) (Option.some Jvm.ClassFile.FieldType.char)).before args0 about1 = true := code_word (m := ⟨1, 4⟩) (meth := k1m4) (c := k1c4) (by decide +kernel) rfl rfl rfl (by decide +kernel)
set_option maxRecDepth 65536 in
theorem w_c4 : (Jvm.Cond.code ({ cls := "com/example/fedlint/fedlint/SimpleValues$Base64Check", name := "<init>", desc := "()V" } : Jvm.MethodName) prog_85_method_1_code (1 : Nat) (Option.none : Option Jvm.ClassFile.FieldType)).before args0 about1 = true := code_word (m := ⟨2, 0⟩) (meth := k2m0) (c := k2c0) (by decide +kernel) rfl rfl rfl (by decide +kernel)
set_option maxRecDepth 65536 in
theorem w_c5 : (Jvm.Cond.code ({ cls := "java/lang/Object", name := "<init>", desc := "()V" } : Jvm.MethodName) object_method_1_code (1 : Nat) (Option.none : Option Jvm.ClassFile.FieldType)).before args0 about1 = true := code_word (m := ⟨0, 0⟩) (meth := k0m0) (c := k0c0) (by decide +kernel) rfl rfl rfl (by decide +kernel)
set_option maxRecDepth 65536 in
theorem w_c6 : (Jvm.Cond.code ({ cls := "com/example/fedlint/fedlint/SimpleValues$Base64Check", name := "add", desc := "([CII)V" } : Jvm.MethodName) prog_85_method_3_code (10 : Nat) (Option.none : Option Jvm.ClassFile.FieldType)).before args0 about1 = true := code_word (m := ⟨2, 1⟩) (meth := k2m1) (c := k2c1) (by decide +kernel) rfl rfl rfl (by decide +kernel)
set_option maxRecDepth 65536 in
theorem w_c7 : (Jvm.Cond.code ({ cls := "com/example/fedlint/fedlint/Base64Binary", name := "sextet", desc := "(C)I" } : Jvm.MethodName) prog_3_method_2_code (1 : Nat) (Option.some Jvm.ClassFile.FieldType.int)).before args0 about1 = true := code_word (m := ⟨3, 1⟩) (meth := k3m1) (c := k3c1) (by decide +kernel) rfl rfl rfl (by decide +kernel)
set_option maxRecDepth 65536 in
theorem w_c8 : (Jvm.Cond.code ({ cls := "com/example/fedlint/fedlint/SimpleValues$Base64Check", name := "valid", desc := "()Z" } : Jvm.MethodName) prog_85_method_4_code (1 : Nat) (Option.some Jvm.ClassFile.FieldType.boolean)).before args0 about1 = true := code_word (m := ⟨2, 2⟩) (meth := k2m2) (c := k2c2) (by decide +kernel) rfl rfl rfl (by decide +kernel)
set_option maxRecDepth 65536 in
theorem w_c9 : (Jvm.Cond.code ({ cls := "com/example/fedlint/fedlint/Base64CheckValidPinLaw", name := "expected", desc := "(ZIIIJ)Z" } : Jvm.MethodName) method_3_code (8 : Nat) (Option.some Jvm.ClassFile.FieldType.boolean)).before args0 about1 = true := code_word (m := ⟨1, 2⟩) (meth := k1m2) (c := k1c2) (by decide +kernel) rfl rfl rfl (by decide +kernel)
set_option maxRecDepth 65536 in
theorem w_c10 : (Jvm.Cond.code ({ cls := "com/example/fedlint/fedlint/Base64CheckValidPinLaw", name := "isNone", desc := "(C)Z" } : Jvm.MethodName) method_7_code (1 : Nat) (Option.some Jvm.ClassFile.FieldType.boolean)).before args0 about1 = true := code_word (m := ⟨1, 6⟩) (meth := k1m6) (c := k1c6) (by decide +kernel) rfl rfl rfl (by decide +kernel)
def codes1 : List Jvm.Cond := [Jvm.Cond.code x code maxLocals ret, Jvm.Cond.code ({ cls := "com/example/fedlint/fedlint/Base64CheckValidPinLaw", name := "pick", desc := "(IIIIJC)C" } : Jvm.MethodName) method_6_code (7 : Nat) (Option.some Jvm.ClassFile.FieldType.char), Jvm.Cond.code ({ cls := "com/example/fedlint/fedlint/Base64CheckValidPinLaw", name := "sext", desc := "(JI)I" } : Jvm.MethodName) method_4_code (3 : Nat) (Option.some Jvm.ClassFile.FieldType.int), Jvm.Cond.code ({ cls := "com/example/fedlint/fedlint/Base64CheckValidPinLaw", name := "alpha", desc := "(I)C" } : Jvm.MethodName) method_5_code (1 : Nat) (Option.some Jvm.ClassFile.FieldType.char), Jvm.Cond.code ({ cls := "com/example/fedlint/fedlint/SimpleValues$Base64Check", name := "<init>", desc := "()V" } : Jvm.MethodName) prog_85_method_1_code (1 : Nat) (Option.none : Option Jvm.ClassFile.FieldType), Jvm.Cond.code ({ cls := "java/lang/Object", name := "<init>", desc := "()V" } : Jvm.MethodName) object_method_1_code (1 : Nat) (Option.none : Option Jvm.ClassFile.FieldType), Jvm.Cond.code ({ cls := "com/example/fedlint/fedlint/SimpleValues$Base64Check", name := "add", desc := "([CII)V" } : Jvm.MethodName) prog_85_method_3_code (10 : Nat) (Option.none : Option Jvm.ClassFile.FieldType), Jvm.Cond.code ({ cls := "com/example/fedlint/fedlint/Base64Binary", name := "sextet", desc := "(C)I" } : Jvm.MethodName) prog_3_method_2_code (1 : Nat) (Option.some Jvm.ClassFile.FieldType.int), Jvm.Cond.code ({ cls := "com/example/fedlint/fedlint/SimpleValues$Base64Check", name := "valid", desc := "()Z" } : Jvm.MethodName) prog_85_method_4_code (1 : Nat) (Option.some Jvm.ClassFile.FieldType.boolean), Jvm.Cond.code ({ cls := "com/example/fedlint/fedlint/Base64CheckValidPinLaw", name := "expected", desc := "(ZIIIJ)Z" } : Jvm.MethodName) method_3_code (8 : Nat) (Option.some Jvm.ClassFile.FieldType.boolean), Jvm.Cond.code ({ cls := "com/example/fedlint/fedlint/Base64CheckValidPinLaw", name := "isNone", desc := "(C)Z" } : Jvm.MethodName) method_7_code (1 : Nat) (Option.some Jvm.ClassFile.FieldType.boolean)]
set_option maxRecDepth 65536 in
theorem codes_eq : words1.filter isCode = codes1 := rfl
theorem w_codes : ∀ c ∈ words1.filter isCode, c.before args0 about1 = true := by
  rw [codes_eq]
  intro c hc
  simp only [codes1, List.mem_cons, List.not_mem_nil, or_false] at hc
  rcases hc with rfl | rfl | rfl | rfl | rfl | rfl | rfl | rfl | rfl | rfl | rfl
  · exact w_c0
  · exact w_c1
  · exact w_c2
  · exact w_c3
  · exact w_c4
  · exact w_c5
  · exact w_c6
  · exact w_c7
  · exact w_c8
  · exact w_c9
  · exact w_c10
set_option maxRecDepth 65536 in
theorem w_t1 : (words1.take 24).all (fun c => isCode c || c.before args0 about1) = true := by decide +kernel
set_option maxRecDepth 65536 in
theorem w_t2 : ((words1.drop 24).take 24).all (fun c => isCode c || c.before args0 about1) = true := by decide +kernel
set_option maxRecDepth 65536 in
theorem w_t3 : ((words1.drop 24).drop 24).all (fun c => isCode c || c.before args0 about1) = true := by decide +kernel
theorem w_tables : (allAtoms (Jvm.Cond.code x code maxLocals ret :: tables_1)).before args0 about1 = true := by
  rw [allAtoms_all]
  show words1.all (fun c => c.before args0 about1) = true
  refine all_split ?_ w_codes
  rw [← List.take_append_drop 24 words1, List.all_append, w_t1, ← List.take_append_drop 24 (words1.drop 24), List.all_append, w_t2, w_t3]
  rfl
set_option maxRecDepth 65536 in
theorem w_case : (Jvm.Cond.and given_1 narrow_1).before args0 about1 = true := by decide +kernel
theorem w_applies : (headSpec (Jvm.Cond.code x code maxLocals ret :: tables_1) room_1).applies x e0.platform about1 = true :=
  (Spec.applies_iff w_frames).mpr ⟨w_running, w_runnable, w_alone, w_named, w_hears, w_ripe, w_room, w_tables⟩
theorem atStart : AtStart classFile x code maxLocals ret World_1 tables_1 room_1 Calls_1 rest_1 Pre_1 launch0 p0 e0 about1 theMethod args0 below0 :=
  ⟨lists_1, trivial, launch0.admits_env _ _ _, launch0.least_env, fairChoices_fair.cas, fairChoices_fair.clock, w_frames, w_args, w_heap, w_applies, trivial, trivial, w_case⟩
end start1
theorem witness_1 : WitnessClaimed_1 := ⟨start1.p0, start1.e0, start1.about1, start1.theMethod, start1.args0, start1.below0, start1.atStart⟩
end Jvm.Pilot.@@N@@
