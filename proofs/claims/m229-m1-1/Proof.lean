import JvmDerived
import JvmDerived.Pilot.@@N@@Statement
import JvmDerived.Pilot.@@N@@Code
set_option linter.unusedVariables false
set_option linter.unusedSimpArgs false
namespace Jvm.Pilot.@@N@@
open Jvm Jvm.ClassFile Sem Op Lib Jvm.Free Jvm.Stand Jvm.LawKit Jvm.RoadKit Bundle Jvm.Pilot.@@N@@.Jvm.D
/-! OWN KIT: a walk in continuation form. Go F U: from U the run comes to an end of which F holds. -/
namespace W
def Go (p : Program) (e : Env) (below : List Frame) (F : Outcome → State → Prop) (U : State) : Prop :=
  ∃ s₂ o, Steps p.tables e below U s₂ ∧ s₂.status = .running ∧ Ended s₂ below o ∧ F o s₂
def Cx (p : Program) (s : State) (m : MethodId) (meth : Method) (c : Code) (Z : State) (bytes : ByteArray) (maxL : Nat) (own mname : String) (ret : Option FieldType) : Prop :=
  p.tables.exec = Jvm.exec ∧ Z.Warmed39 s.vm ∧ c.code = bytes ∧ c.maxLocals = maxL ∧ s.vm.findClass own = some m.cls ∧ meth.name = mname ∧ meth.sig.returnType = ret ∧ meth.locks = false
def Post (s : State) (Q : Option Value → Heap → List Loc → Prop) (k n : Nat) (o : Outcome) (U' : State) : Prop := ∃ v L, o = .returned v ∧ Q v U'.heap L ∧ FrameEnd s o U' L k n
theorem of {p : Program} {e : Env} {below : List Frame} {F : Outcome → State → Prop} {U U' : State} (h : ∀ t, Steps p.tables e below U' t → Steps p.tables e below U t) (k : Go p e below F U') : Go p e below F U := by
  obtain ⟨s₂, o, h1, h2⟩ := k
  exact ⟨s₂, o, h _ h1, h2⟩
theorem tr {p : Program} {e : Env} {below : List Frame} {F : Outcome → State → Prop} {U U' : State} (h : Steps p.tables e below U U') (k : Go p e below F U') : Go p e below F U := of (fun _ q => h.trans q) k
def fillL : List Value → List Slot
  | [] => []
  | v :: t => if v.category = 2 then .val v :: .second :: fillL t else .val v :: fillL t
theorem fill_eq : ∀ (l : List Value) (acc : Array Slot), l.foldl (fun acc v => if v.category = 2 then (acc.push (.val v)).push .second else acc.push (.val v)) acc = acc ++ (fillL l).toArray
  | [], acc => by simp [fillL]
  | v :: t, acc => by
    rw [List.foldl_cons, fill_eq t, fillL]
    split <;> (apply Array.toList_inj.mp; simp)
theorem entry_of {m : MethodId} {as : List Value} {maxL : Nat} {Ls : List Slot} (h : Ls = fillL as ++ List.replicate (maxL - (fillL as).length) .unset) : entryFrame m as.toArray maxL = mkF m 0 Ls.toArray [] := by
  subst h
  simp only [entryFrame, mkF, argsToLocals]
  congr 1
  rw [List.foldl_toArray, fill_eq]
  simp
def cT : ClassFile.Cond → Int32 → Int32 → Prop
  | .eq, x, y => x = y
  | .ne, x, y => x ≠ y
  | .lt, x, y => x.toInt < y.toInt
  | .ge, x, y => y.toInt ≤ x.toInt
  | .gt, x, y => y.toInt < x.toInt
  | .le, x, y => x.toInt ≤ y.toInt
def cF : ClassFile.Cond → Int32 → Int32 → Prop
  | .eq, x, y => x ≠ y
  | .ne, x, y => x = y
  | .lt, x, y => y.toInt ≤ x.toInt
  | .ge, x, y => x.toInt < y.toInt
  | .gt, x, y => x.toInt ≤ y.toInt
  | .le, x, y => y.toInt < x.toInt
instance (cd : ClassFile.Cond) (x y : Int32) : Decidable (cT cd x y) := by cases cd <;> (simp only [cT]; infer_instance)
instance (cd : ClassFile.Cond) (x y : Int32) : Decidable (cF cd x y) := by cases cd <;> (simp only [cF]; infer_instance)
theorem holdsT {cd : ClassFile.Cond} {x y : Int32} (h : cT cd x y) : if_icmp.holds cd x y = true := by
  cases cd <;> simp only [cT] at h <;> simp [if_icmp.holds, h, Int32.lt_iff_toInt_lt, Int32.le_iff_toInt_le]
theorem holdsF {cd : ClassFile.Cond} {x y : Int32} (h : cF cd x y) : if_icmp.holds cd x y = false := by
  cases cd <;> simp only [cF] at h <;> simp [if_icmp.holds, h, Int32.lt_iff_toInt_lt, Int32.le_iff_toInt_le]
theorem cTF (cd : ClassFile.Cond) (x y : Int32) : cT cd x y ∨ cF cd x y := by
  cases cd <;> simp only [cT, cF] <;> first | omega | exact Decidable.em _ | exact (Decidable.em _).symm
theorem ww {a0 : Array Value} {Z : State} (hw : ∀ d ∈ tables_1, d.before a0 Z = true) (i : Nat) {d : Jvm.Cond} (h : tables_1[i]? = some d) : d.before a0 Z = true := hw _ (List.mem_of_getElem? h)
theorem small {P : Int32 → Prop} (K : Nat) (hK : ∀ i : Fin (K + 1), P (Int32.ofInt (i.1 : Int))) (k : Int32) (h1 : 0 ≤ k.toInt) (h2 : k.toInt ≤ K) : P k := by
  have e : Int32.ofInt ((k.toInt.toNat : Nat) : Int) = k := by rw [Int.toNat_of_nonneg h1]; exact Int32.ofInt_toInt k
  have := hK ⟨k.toInt.toNat, by omega⟩
  rw [e] at this; exact this
theorem eqR {args : Array Value} {s : State} {a b : Term} {idx : List Nat} {y : Addr} (hb : b.eval args s none idx s = some (.ref y)) (h : (Jvm.Cond.eq a b).value args s none s idx = some true) : a.eval args s none idx s = some (.ref y) := by
  cases ha : a.eval args s none idx s with
  | none => simp [Cond.value, ha] at h
  | some x =>
    have hx : x.isRef = true := by cases x <;> simp [Cond.value, ha, hb, Value.isRef] at h ⊢
    have q := gotT (eq_R ha hb hx rfl) h
    rw [q]
theorem elemAt {args : Array Value} {s : State} {t a : Term} {x : Addr} {j : Int32} {v : Value} {cl : Cell} {ty : FieldType} (A : Arr s s.heap x cl ty) (ht : t.eval args s none [] s = some (.ref x)) (hj : a.eval args s none [] s = some (.int j)) (h : (Term.elem t a).eval args s none [] s = some v) : cl.slots[j.toNatClampNeg]? = some v := (elem_in h ht hj A.1).2
theorem lenAt {args : Array Value} {s : State} {t : Term} {x : Addr} {z : Int32} {cl : Cell} {ty : FieldType} (A : Arr s s.heap x cl ty) (ht : t.eval args s none [] s = some (.ref x)) (h : (Jvm.Cond.eq (.length t) (.int z)).value args s none s [] = some true) : cl.slots.size < 2 ^ 31 ∧ cl.slots.size.toInt32 = z := by
  have h6 := eqv_i (Term.int_eval z) h
  have ha := A.fin (Vm.Alike.refl _)
  have sz : cl.slots.size < 2 ^ 31 := by
    refine Decidable.byContradiction fun q => ?_
    simp [Term.eval, ht, ha, q] at h6
  refine ⟨sz, ?_⟩
  rw [len_f ht ha sz] at h6
  exact Value.int.inj (Option.some.inj h6)
theorem arvOf {s : State} {a : Addr} {cl : Cell} {ty : FieldType} {z : Int32} {d : Value} (hf : Fit s) (A : Arr s s.heap a cl ty) (q : cl.slots.size < 2 ^ 31) (e : cl.slots.size.toInt32 = z) (hz : ¬ z < 0) : Arv s s.heap a cl.cls ty z cl.slots.toList d := by
  have S : cl.slots.size = z.toNatClampNeg := by rw [← e]; simp only [Int32.toNatClampNeg, len_toInt q]; rfl
  have H : Has cl cl.slots.toList d := fun k hk => by simp [List.getD, hk]
  refine ⟨cl, A, rfl, S, hz, H, fun j hj => ?_⟩
  have e1 : (Nat.toInt32 j).toNatClampNeg = j := by simp only [Int32.toNatClampNeg, len_toInt (Nat.lt_trans hj q)]; rfl
  exact elem_fits (j := Nat.toInt32 j) hf A (idx_in hj q) (by rw [e1]; exact H j hj)
theorem narZ {x : Int32} (h : x = 0 ∨ x = 1) : narrow .boolean (.int x) = .int x := by rcases h with rfl | rfl <;> rfl
theorem fitZ {x : Int32} (h : x = 0 ∨ x = 1) : fits .boolean (.int x) = true := by rcases h with rfl | rfl <;> rfl
theorem fieldInt {args : Array Value} {s : State} {t : Term} {Cn n d : String} {k : Int32} {a : Addr} (ht : t.eval args s none [] s = some (.ref a)) (h : (Jvm.Cond.eq (.field t Cn n d) (.int k)).value args s none s [] = some true) : Fld s s.heap a Cn n d (.int k) := by
  exact Fld.start ((fld_at ht).symm.trans (eqv_i (Term.int_eval k) h))
section
variable {p : Program} {l : Launch} {e : Env} {R : Room} {s : State} {m : MethodId} {args : Array Value} {below : List Frame} {meth : Method} {c : Code} {T : State} {locs : List Loc} {cells slots : Nat} {Z : State} {a0 : Array Value} {h h0 : Heap} {F : Outcome → State → Prop} {bytes : ByteArray} {maxL : Nat} {own mname : String} {ret : Option FieldType} {pc q : Nat} {Ls L' : Array Slot} {S rest : List Value}
theorem bodyOf {y : MethodName} {ws : List Jvm.Cond} {rm : Room} {as : Array Value} {Q : Option Value → Heap → List Loc → Prop} (hp : plainFor y = true) (hef : ∀ m, entryFrame m as maxL = mkF m 0 Ls [])
    (body : ∀ p e s m below meth c s₁, Cx p s m meth c Z bytes maxL y.cls y.name ret → Stand p l e rm s m as below meth c s₁ [] 0 0 → s₁.heap = h0 → Go p e below (Post s Q rm.cells rm.slots) (s₁.setTop (mkF m 0 Ls []))) :
    MetFree l y (head1 (Jvm.Cond.code y bytes maxL ret :: ws) rm) (fun a U => a = as ∧ Z.Warmed39 U.vm ∧ U.heap = h0) (fun _ _ _ _ _ => True) (fun _ U o U' => ∃ v L, o = .returned v ∧ Q v U'.heap L ∧ FrameEnd U o U' L rm.cells rm.slots) := by
  refine MetFree.of_bodySF hp hisR ?_
  intro p e s m args below meth c s₁ Bd hml0 hP hK
  obtain ⟨rfl, hZ, hh⟩ := hP
  obtain ⟨s₂, o, h1, h2⟩ := body p e s m below meth c s₁ ⟨Bd.exec, hZ, Bd.bytes, hml0, findClass_of_methodNamed Bd.named, (name_of_methodNamed Bd.named Bd.method).1, Bd.returns, Bd.notSynchronized⟩ (Stand.of_body Bd) (by rw [← hh, Bd.state]; rfl)
  exact ⟨s₂, o, castTop (hef m) h1, h2⟩
/-! returns -/
theorem retN (X : Stand p l e R s m args below meth c T locs cells slots) {t : FieldType} (C : Cx p s m meth c Z bytes maxL own mname (some t)) (ht : t = .boolean ∨ t = .byte ∨ t = .char ∨ t = .short) (eT : T.heap = h) {z z' : Int32} (hd : decode bytes pc = .ok (.ireturn, 1)) (hz : narrow t (.int z) = .int z') {k n : Nat} (hk : cells ≤ k) (hn : slots ≤ n) {Q : Option Value → Heap → List Loc → Prop} (hQ : Q (some (.int z')) h locs) :
    Go p e below (Post s Q k n) (T.setTop (mkF m pc Ls (.int z :: rest))) := by
  obtain ⟨hx, hZ, hby, hml, hown, hnm, hret, hlk⟩ := C
  obtain ⟨fs, hr, hrun, hended, hW, hsame⟩ := X.leave (v := some (.int z')) (fun h => by rw [hret] at h; cases h)
  refine ⟨_, _, ?_, hrun, hended, _, _, rfl, ?_, ⟨_, rfl⟩, hW, hsame.mono hk hn⟩
  · have hm' : T.vm.method? m = some meth := X.method'
    have hd' := hb hby hd
    rcases ht with rfl | rfl | rfl | rfl
    all_goals
      show Steps p.tables e below (T.setTop { method := m, pc := pc, locals := Ls, stack := _ :: rest, locked := none }) _
      jvm_step X.here [X.here.top, hx, hd', hm', hret, hz]
      first | (intro acts; rw [hr _ acts rfl rfl rfl]) | rw [hr _ _ rfl rfl rfl]
      exact Steps.refl _
  · show Q _ T.heap _
    rw [eT]; exact hQ
theorem retI (X : Stand p l e R s m args below meth c T locs cells slots) (C : Cx p s m meth c Z bytes maxL own mname (some .int)) (eT : T.heap = h) {z : Int32} (hd : decode bytes pc = .ok (.ireturn, 1)) {k n : Nat} (hk : cells ≤ k) (hn : slots ≤ n) {Q : Option Value → Heap → List Loc → Prop} (hQ : Q (some (.int z)) h locs) :
    Go p e below (Post s Q k n) (T.setTop (mkF m pc Ls (.int z :: rest))) := by
  obtain ⟨hx, hZ, hby, hml, hown, hnm, hret, hlk⟩ := C
  obtain ⟨fs, hr, hrun, hended, hW, hsame⟩ := X.leave (v := some (.int z)) (fun h => by rw [hret] at h; cases h)
  refine ⟨_, _, ?_, hrun, hended, _, _, rfl, ?_, ⟨_, rfl⟩, hW, hsame.mono hk hn⟩
  · have hm' : T.vm.method? m = some meth := X.method'
    have hd' := hb hby hd
    have hn : narrow .int (.int z) = .int z := rfl
    show Steps p.tables e below (T.setTop { method := m, pc := pc, locals := Ls, stack := _ :: rest, locked := none }) _
    jvm_step X.here [X.here.top, hx, hd', hm', hret, hn]
    first | (intro acts; rw [hr _ acts rfl rfl rfl]) | rw [hr _ _ rfl rfl rfl]
    exact Steps.refl _
  · show Q _ T.heap _
    rw [eT]; exact hQ
theorem retJ (X : Stand p l e R s m args below meth c T locs cells slots) (C : Cx p s m meth c Z bytes maxL own mname (some .long)) (eT : T.heap = h) {z : Int64} (hd : decode bytes pc = .ok (.lreturn, 1)) {k n : Nat} (hk : cells ≤ k) (hn : slots ≤ n) {Q : Option Value → Heap → List Loc → Prop} (hQ : Q (some (.long z)) h locs) :
    Go p e below (Post s Q k n) (T.setTop (mkF m pc Ls (.long z :: rest))) := by
  obtain ⟨hx, hZ, hby, hml, hown, hnm, hret, hlk⟩ := C
  obtain ⟨fs, hr, hrun, hended, hW, hsame⟩ := X.leave (v := some (.long z)) (fun h => by rw [hret] at h; cases h)
  refine ⟨_, _, ?_, hrun, hended, _, _, rfl, ?_, ⟨_, rfl⟩, hW, hsame.mono hk hn⟩
  · have hm' : T.vm.method? m = some meth := X.method'
    have hd' := hb hby hd
    show Steps p.tables e below (T.setTop { method := m, pc := pc, locals := Ls, stack := _ :: rest, locked := none }) _
    jvm_step X.here [X.here.top, hx, hd', hm', hret, narrow]
    first | (intro acts; rw [hr _ acts rfl rfl rfl]) | rw [hr _ _ rfl rfl rfl]
    exact Steps.refl _
  · show Q _ T.heap _
    rw [eT]; exact hQ
theorem retA (X : Stand p l e R s m args below meth c T locs cells slots) {t : FieldType} (C : Cx p s m meth c Z bytes maxL own mname (some t)) (ht : t.isReference = true) (eT : T.heap = h) {z : Value} (hz : z.isRef = true) (hd : decode bytes pc = .ok (.areturn, 1)) {k n : Nat} (hk : cells ≤ k) (hn : slots ≤ n) {Q : Option Value → Heap → List Loc → Prop} (hQ : Q (some z) h locs) :
    Go p e below (Post s Q k n) (T.setTop (mkF m pc Ls (z :: rest))) := by
  obtain ⟨hx, hZ, hby, hml, hown, hnm, hret, hlk⟩ := C
  obtain ⟨fs, hr, hrun, hended, hW, hsame⟩ := X.leave (v := some z) (fun h => by rw [hret] at h; cases h)
  refine ⟨_, _, ?_, hrun, hended, _, _, rfl, ?_, ⟨_, rfl⟩, hW, hsame.mono hk hn⟩
  · have hm' : T.vm.method? m = some meth := X.method'
    have hd' := hb hby hd
    show Steps p.tables e below (T.setTop { method := m, pc := pc, locals := Ls, stack := _ :: rest, locked := none }) _
    jvm_step X.here [X.here.top, hx, hd', hm', hret, hz, ht]
    first | (intro acts; rw [hr _ acts rfl rfl rfl]) | rw [hr _ _ rfl rfl rfl]
    exact Steps.refl _
  · show Q _ T.heap _
    rw [eT]; exact hQ
theorem retV (X : Stand p l e R s m args below meth c T locs cells slots) (C : Cx p s m meth c Z bytes maxL own mname none) (eT : T.heap = h) (hd : decode bytes pc = .ok (.return_, 1)) {k n : Nat} (hk : cells ≤ k) (hn : slots ≤ n) {Q : Option Value → Heap → List Loc → Prop} (hQ : Q none h locs) :
    Go p e below (Post s Q k n) (T.setTop (mkF m pc Ls [])) := by
  obtain ⟨hx, hZ, hby, hml, hown, hnm, hret, hlk⟩ := C
  obtain ⟨fs, hr, hrun, hended, hW, hsame⟩ := X.leave (v := none) (fun _ => rfl)
  refine ⟨_, _, X.returnOut hx hret (hb hby hd) hr, hrun, hended, _, _, rfl, ?_, ⟨_, rfl⟩, hW, hsame.mono hk hn⟩
  show Q _ T.heap _
  rw [eT]; exact hQ
/-! plain steps -/
theorem iload (X : Stand p l e R s m args below meth c T locs cells slots) (C : Cx p s m meth c Z bytes maxL own mname ret) {k : Nat} {v : Int32} (hd : decode bytes pc = .ok (.iload k, 2)) (hl : Ls[k]? = some (.val (.int v))) (hq : pc + 2 = q) (K : Go p e below F (T.setTop (mkF m q Ls (.int v :: S)))) : Go p e below F (T.setTop (mkF m pc Ls S)) := by
  subst hq; exact of (fun t k => XS.iload X.here C.1 rfl (hb C.2.2.1 hd) hl k) K
theorem iloadN (X : Stand p l e R s m args below meth c T locs cells slots) (C : Cx p s m meth c Z bytes maxL own mname ret) {k : Fin 4} {v : Int32} (hd : decode bytes pc = .ok (.iload_n k, 1)) (hl : Ls[k.val]? = some (.val (.int v))) (hq : pc + 1 = q) (K : Go p e below F (T.setTop (mkF m q Ls (.int v :: S)))) : Go p e below F (T.setTop (mkF m pc Ls S)) := by
  subst hq; exact of (fun t k => XS.iloadN X.here C.1 rfl (hb C.2.2.1 hd) hl k) K
theorem lload (X : Stand p l e R s m args below meth c T locs cells slots) (C : Cx p s m meth c Z bytes maxL own mname ret) {k : Nat} {v : Int64} (hd : decode bytes pc = .ok (.lload k, 2)) (hl : Ls[k]? = some (.val (.long v))) (hq : pc + 2 = q) (K : Go p e below F (T.setTop (mkF m q Ls (.long v :: S)))) : Go p e below F (T.setTop (mkF m pc Ls S)) := by
  subst hq; exact of (fun t k => XS.lload X.here C.1 rfl (hb C.2.2.1 hd) hl k) K
theorem lloadN (X : Stand p l e R s m args below meth c T locs cells slots) (C : Cx p s m meth c Z bytes maxL own mname ret) {k : Fin 4} {v : Int64} (hd : decode bytes pc = .ok (.lload_n k, 1)) (hl : Ls[k.val]? = some (.val (.long v))) (hq : pc + 1 = q) (K : Go p e below F (T.setTop (mkF m q Ls (.long v :: S)))) : Go p e below F (T.setTop (mkF m pc Ls S)) := by
  subst hq; exact of (fun t k => XS.lloadN X.here C.1 rfl (hb C.2.2.1 hd) hl k) K
theorem aload (X : Stand p l e R s m args below meth c T locs cells slots) (C : Cx p s m meth c Z bytes maxL own mname ret) {k : Nat} {v : Value} (hd : decode bytes pc = .ok (.aload k, 2)) (hl : Ls[k]? = some (.val v)) (hv : v.isRef = true) (hq : pc + 2 = q) (K : Go p e below F (T.setTop (mkF m q Ls (v :: S)))) : Go p e below F (T.setTop (mkF m pc Ls S)) := by
  subst hq; exact of (fun t k => XS.aload X.here C.1 rfl (hb C.2.2.1 hd) hl hv k) K
theorem aloadN (X : Stand p l e R s m args below meth c T locs cells slots) (C : Cx p s m meth c Z bytes maxL own mname ret) {k : Fin 4} {v : Value} (hd : decode bytes pc = .ok (.aload_n k, 1)) (hl : Ls[k.val]? = some (.val v)) (hv : v.isRef = true) (hq : pc + 1 = q) (K : Go p e below F (T.setTop (mkF m q Ls (v :: S)))) : Go p e below F (T.setTop (mkF m pc Ls S)) := by
  subst hq; exact of (fun t k => XS.aloadN X.here C.1 rfl (hb C.2.2.1 hd) hl hv k) K
theorem istore (X : Stand p l e R s m args below meth c T locs cells slots) (C : Cx p s m meth c Z bytes maxL own mname ret) {k : Nat} {v : Int32} (hd : decode bytes pc = .ok (.istore k, 2)) (hl : storeLocals Ls k (.int v) = some L') (hq : pc + 2 = q) (K : Go p e below F (T.setTop (mkF m q L' S))) : Go p e below F (T.setTop (mkF m pc Ls (.int v :: S))) := by
  subst hq; exact of (fun t k => XS.istore X.here C.1 rfl (hb C.2.2.1 hd) rfl hl k) K
theorem istoreN (X : Stand p l e R s m args below meth c T locs cells slots) (C : Cx p s m meth c Z bytes maxL own mname ret) {k : Fin 4} {v : Int32} (hd : decode bytes pc = .ok (.istore_n k, 1)) (hl : storeLocals Ls k.val (.int v) = some L') (hq : pc + 1 = q) (K : Go p e below F (T.setTop (mkF m q L' S))) : Go p e below F (T.setTop (mkF m pc Ls (.int v :: S))) := by
  subst hq; exact of (fun t k => XS.istoreN X.here C.1 rfl (hb C.2.2.1 hd) rfl hl k) K
theorem lstore (X : Stand p l e R s m args below meth c T locs cells slots) (C : Cx p s m meth c Z bytes maxL own mname ret) {k : Nat} {v : Int64} (hd : decode bytes pc = .ok (.lstore k, 2)) (hl : storeLocals Ls k (.long v) = some L') (hq : pc + 2 = q) (K : Go p e below F (T.setTop (mkF m q L' S))) : Go p e below F (T.setTop (mkF m pc Ls (.long v :: S))) := by
  subst hq; exact of (fun t k => XS.lstore X.here C.1 rfl (hb C.2.2.1 hd) rfl hl k) K
theorem lstoreN (X : Stand p l e R s m args below meth c T locs cells slots) (C : Cx p s m meth c Z bytes maxL own mname ret) {k : Fin 4} {v : Int64} (hd : decode bytes pc = .ok (.lstore_n k, 1)) (hl : storeLocals Ls k.val (.long v) = some L') (hq : pc + 1 = q) (K : Go p e below F (T.setTop (mkF m q L' S))) : Go p e below F (T.setTop (mkF m pc Ls (.long v :: S))) := by
  subst hq; exact of (fun t k => XS.lstoreN X.here C.1 rfl (hb C.2.2.1 hd) rfl hl k) K
theorem astore (X : Stand p l e R s m args below meth c T locs cells slots) (C : Cx p s m meth c Z bytes maxL own mname ret) {k : Nat} {v : Value} (hd : decode bytes pc = .ok (.astore k, 2)) (hv : v.isRef = true) (hl : storeLocals Ls k v = some L') (hq : pc + 2 = q) (K : Go p e below F (T.setTop (mkF m q L' S))) : Go p e below F (T.setTop (mkF m pc Ls (v :: S))) := by
  subst hq; exact of (fun t k => XS.astore X.here C.1 rfl (hb C.2.2.1 hd) rfl hv hl k) K
theorem astoreN (X : Stand p l e R s m args below meth c T locs cells slots) (C : Cx p s m meth c Z bytes maxL own mname ret) {k : Fin 4} {v : Value} (hd : decode bytes pc = .ok (.astore_n k, 1)) (hv : v.isRef = true) (hl : storeLocals Ls k.val v = some L') (hq : pc + 1 = q) (K : Go p e below F (T.setTop (mkF m q L' S))) : Go p e below F (T.setTop (mkF m pc Ls (v :: S))) := by
  subst hq; exact of (fun t k => XS.astoreN X.here C.1 rfl (hb C.2.2.1 hd) rfl hv hl k) K
theorem iinc (X : Stand p l e R s m args below meth c T locs cells slots) (C : Cx p s m meth c Z bytes maxL own mname ret) {k : Nat} {i : Int} {x y : Int32} (hd : decode bytes pc = .ok (.iinc k i, 3)) (hl : Ls[k]? = some (.val (.int x))) (hy : x + Int32.ofInt i = y) (hl' : storeLocals Ls k (.int y) = some L') (hq : pc + 3 = q) (K : Go p e below F (T.setTop (mkF m q L' S))) : Go p e below F (T.setTop (mkF m pc Ls S)) := by
  subst hq hy; exact of (fun t k => XS.iinc X.here C.1 rfl (hb C.2.2.1 hd) hl hl' k) K
theorem iconst (X : Stand p l e R s m args below meth c T locs cells slots) (C : Cx p s m meth c Z bytes maxL own mname ret) {i : Int} {v : Int32} (hd : decode bytes pc = .ok (.iconst i, 1)) (hi : Int32.ofInt i = v) (hq : pc + 1 = q) (K : Go p e below F (T.setTop (mkF m q Ls (.int v :: S)))) : Go p e below F (T.setTop (mkF m pc Ls S)) := by
  subst hq hi; exact of (fun t k => XS.iconst X.here C.1 rfl (hb C.2.2.1 hd) k) K
theorem bipush (X : Stand p l e R s m args below meth c T locs cells slots) (C : Cx p s m meth c Z bytes maxL own mname ret) {i : Int} {v : Int32} (hd : decode bytes pc = .ok (.bipush i, 2)) (hi : (Int8.ofInt i).toInt32 = v) (hq : pc + 2 = q) (K : Go p e below F (T.setTop (mkF m q Ls (.int v :: S)))) : Go p e below F (T.setTop (mkF m pc Ls S)) := by
  subst hq hi; exact of (fun t k => XS.bipush X.here C.1 rfl (hb C.2.2.1 hd) k) K
theorem sipush (X : Stand p l e R s m args below meth c T locs cells slots) (C : Cx p s m meth c Z bytes maxL own mname ret) {i : Int} {v : Int32} (hd : decode bytes pc = .ok (.sipush i, 3)) (hi : (Int16.ofInt i).toInt32 = v) (hq : pc + 3 = q) (K : Go p e below F (T.setTop (mkF m q Ls (.int v :: S)))) : Go p e below F (T.setTop (mkF m pc Ls S)) := by
  subst hq hi; exact of (fun t k => XS.sipush X.here C.1 rfl (hb C.2.2.1 hd) k) K
theorem lconst0 (X : Stand p l e R s m args below meth c T locs cells slots) (C : Cx p s m meth c Z bytes maxL own mname ret) (hd : decode bytes pc = .ok (.lconst 0, 1)) (hq : pc + 1 = q) (K : Go p e below F (T.setTop (mkF m q Ls (.long 0 :: S)))) : Go p e below F (T.setTop (mkF m pc Ls S)) := by
  subst hq; exact of (fun t k => XS.lconst X.here C.1 rfl (hb C.2.2.1 hd) k) K
theorem lconst1 (X : Stand p l e R s m args below meth c T locs cells slots) (C : Cx p s m meth c Z bytes maxL own mname ret) (hd : decode bytes pc = .ok (.lconst 1, 1)) (hq : pc + 1 = q) (K : Go p e below F (T.setTop (mkF m q Ls (.long 1 :: S)))) : Go p e below F (T.setTop (mkF m pc Ls S)) := by
  subst hq; exact of (fun t k => XS.lconst X.here C.1 rfl (hb C.2.2.1 hd) k) K
theorem ldcI (X : Stand p l e R s m args below meth c T locs cells slots) (C : Cx p s m meth c Z bytes maxL own mname ret) {i : Nat} {v : Int32} (w : (Jvm.Cond.constant own i v).before a0 Z = true) (hd : decode bytes pc = .ok (.ldc i, 2)) (hq : pc + 2 = q) (K : Go p e below F (T.setTop (mkF m q Ls (.int v :: S)))) : Go p e below F (T.setTop (mkF m pc Ls S)) := by
  subst hq; exact of (X.ldcInt C.1 C.2.2.2.2.1 (mvT C.2.1 w) (g := mkF m pc Ls S) rfl (hb C.2.2.1 hd)) K
theorem ldcL (X : Stand p l e R s m args below meth c T locs cells slots) (C : Cx p s m meth c Z bytes maxL own mname ret) {i : Nat} {v : Int64} (w : (Jvm.Cond.constantLong own i v).before a0 Z = true) (hd : decode bytes pc = .ok (.ldc2_w i, 3)) (hq : pc + 3 = q) (K : Go p e below F (T.setTop (mkF m q Ls (.long v :: S)))) : Go p e below F (T.setTop (mkF m pc Ls S)) := by
  subst hq; exact of (X.ldc2Long C.1 C.2.2.2.2.1 (mvT C.2.1 w) (g := mkF m pc Ls S) rfl (hb C.2.2.1 hd)) K
theorem aconst (X : Stand p l e R s m args below meth c T locs cells slots) (C : Cx p s m meth c Z bytes maxL own mname ret) (hd : decode bytes pc = .ok (.aconst_null, 1)) (hq : pc + 1 = q) (K : Go p e below F (T.setTop (mkF m q Ls (.null :: S)))) : Go p e below F (T.setTop (mkF m pc Ls S)) := by
  subst hq; exact of (fun t k => XS.aconstNull X.here C.1 rfl (hb C.2.2.1 hd) k) K
theorem iadd (X : Stand p l e R s m args below meth c T locs cells slots) (C : Cx p s m meth c Z bytes maxL own mname ret) {x : Int32} {y : Int32} (hd : decode bytes pc = .ok (.iadd, 1)) (hq : pc + 1 = q) (K : Go p e below F (T.setTop (mkF m q Ls (.int (x + y) :: S)))) : Go p e below F (T.setTop (mkF m pc Ls (.int y :: .int x :: S))) := by
  subst hq; exact of (fun t k => XS.iadd X.here C.1 rfl (hb C.2.2.1 hd) rfl k) K
theorem ladd (X : Stand p l e R s m args below meth c T locs cells slots) (C : Cx p s m meth c Z bytes maxL own mname ret) {x : Int64} {y : Int64} (hd : decode bytes pc = .ok (.ladd, 1)) (hq : pc + 1 = q) (K : Go p e below F (T.setTop (mkF m q Ls (.long (x + y) :: S)))) : Go p e below F (T.setTop (mkF m pc Ls (.long y :: .long x :: S))) := by
  subst hq; exact of (fun t k => XS.ladd X.here C.1 rfl (hb C.2.2.1 hd) rfl k) K
theorem isub (X : Stand p l e R s m args below meth c T locs cells slots) (C : Cx p s m meth c Z bytes maxL own mname ret) {x : Int32} {y : Int32} (hd : decode bytes pc = .ok (.isub, 1)) (hq : pc + 1 = q) (K : Go p e below F (T.setTop (mkF m q Ls (.int (x - y) :: S)))) : Go p e below F (T.setTop (mkF m pc Ls (.int y :: .int x :: S))) := by
  subst hq; exact of (fun t k => XS.isub X.here C.1 rfl (hb C.2.2.1 hd) rfl k) K
theorem lsub (X : Stand p l e R s m args below meth c T locs cells slots) (C : Cx p s m meth c Z bytes maxL own mname ret) {x : Int64} {y : Int64} (hd : decode bytes pc = .ok (.lsub, 1)) (hq : pc + 1 = q) (K : Go p e below F (T.setTop (mkF m q Ls (.long (x - y) :: S)))) : Go p e below F (T.setTop (mkF m pc Ls (.long y :: .long x :: S))) := by
  subst hq; exact of (fun t k => XS.lsub X.here C.1 rfl (hb C.2.2.1 hd) rfl k) K
theorem imul (X : Stand p l e R s m args below meth c T locs cells slots) (C : Cx p s m meth c Z bytes maxL own mname ret) {x : Int32} {y : Int32} (hd : decode bytes pc = .ok (.imul, 1)) (hq : pc + 1 = q) (K : Go p e below F (T.setTop (mkF m q Ls (.int (x * y) :: S)))) : Go p e below F (T.setTop (mkF m pc Ls (.int y :: .int x :: S))) := by
  subst hq; exact of (fun t k => XS.imul X.here C.1 rfl (hb C.2.2.1 hd) rfl k) K
theorem lmul (X : Stand p l e R s m args below meth c T locs cells slots) (C : Cx p s m meth c Z bytes maxL own mname ret) {x : Int64} {y : Int64} (hd : decode bytes pc = .ok (.lmul, 1)) (hq : pc + 1 = q) (K : Go p e below F (T.setTop (mkF m q Ls (.long (x * y) :: S)))) : Go p e below F (T.setTop (mkF m pc Ls (.long y :: .long x :: S))) := by
  subst hq; exact of (fun t k => XS.lmul X.here C.1 rfl (hb C.2.2.1 hd) rfl k) K
theorem iand (X : Stand p l e R s m args below meth c T locs cells slots) (C : Cx p s m meth c Z bytes maxL own mname ret) {x : Int32} {y : Int32} (hd : decode bytes pc = .ok (.iand, 1)) (hq : pc + 1 = q) (K : Go p e below F (T.setTop (mkF m q Ls (.int (x &&& y) :: S)))) : Go p e below F (T.setTop (mkF m pc Ls (.int y :: .int x :: S))) := by
  subst hq; exact of (fun t k => XS.iand X.here C.1 rfl (hb C.2.2.1 hd) rfl k) K
theorem land (X : Stand p l e R s m args below meth c T locs cells slots) (C : Cx p s m meth c Z bytes maxL own mname ret) {x : Int64} {y : Int64} (hd : decode bytes pc = .ok (.land, 1)) (hq : pc + 1 = q) (K : Go p e below F (T.setTop (mkF m q Ls (.long (x &&& y) :: S)))) : Go p e below F (T.setTop (mkF m pc Ls (.long y :: .long x :: S))) := by
  subst hq; exact of (fun t k => XS.land X.here C.1 rfl (hb C.2.2.1 hd) rfl k) K
theorem ior (X : Stand p l e R s m args below meth c T locs cells slots) (C : Cx p s m meth c Z bytes maxL own mname ret) {x : Int32} {y : Int32} (hd : decode bytes pc = .ok (.ior, 1)) (hq : pc + 1 = q) (K : Go p e below F (T.setTop (mkF m q Ls (.int (x ||| y) :: S)))) : Go p e below F (T.setTop (mkF m pc Ls (.int y :: .int x :: S))) := by
  subst hq; exact of (fun t k => XS.ior X.here C.1 rfl (hb C.2.2.1 hd) rfl k) K
theorem lor (X : Stand p l e R s m args below meth c T locs cells slots) (C : Cx p s m meth c Z bytes maxL own mname ret) {x : Int64} {y : Int64} (hd : decode bytes pc = .ok (.lor, 1)) (hq : pc + 1 = q) (K : Go p e below F (T.setTop (mkF m q Ls (.long (x ||| y) :: S)))) : Go p e below F (T.setTop (mkF m pc Ls (.long y :: .long x :: S))) := by
  subst hq; exact of (fun t k => XS.lor X.here C.1 rfl (hb C.2.2.1 hd) rfl k) K
theorem ixor (X : Stand p l e R s m args below meth c T locs cells slots) (C : Cx p s m meth c Z bytes maxL own mname ret) {x : Int32} {y : Int32} (hd : decode bytes pc = .ok (.ixor, 1)) (hq : pc + 1 = q) (K : Go p e below F (T.setTop (mkF m q Ls (.int (x ^^^ y) :: S)))) : Go p e below F (T.setTop (mkF m pc Ls (.int y :: .int x :: S))) := by
  subst hq; exact of (fun t k => XS.ixor X.here C.1 rfl (hb C.2.2.1 hd) rfl k) K
theorem lxor (X : Stand p l e R s m args below meth c T locs cells slots) (C : Cx p s m meth c Z bytes maxL own mname ret) {x : Int64} {y : Int64} (hd : decode bytes pc = .ok (.lxor, 1)) (hq : pc + 1 = q) (K : Go p e below F (T.setTop (mkF m q Ls (.long (x ^^^ y) :: S)))) : Go p e below F (T.setTop (mkF m pc Ls (.long y :: .long x :: S))) := by
  subst hq; exact of (fun t k => XS.lxor X.here C.1 rfl (hb C.2.2.1 hd) rfl k) K
theorem ishl (X : Stand p l e R s m args below meth c T locs cells slots) (C : Cx p s m meth c Z bytes maxL own mname ret) {x : Int32} {y : Int32} (hd : decode bytes pc = .ok (.ishl, 1)) (hq : pc + 1 = q) (K : Go p e below F (T.setTop (mkF m q Ls (.int (x <<< (y &&& 31)) :: S)))) : Go p e below F (T.setTop (mkF m pc Ls (.int y :: .int x :: S))) := by
  subst hq; exact of (fun t k => XS.ishl X.here C.1 rfl (hb C.2.2.1 hd) rfl k) K
theorem ishr (X : Stand p l e R s m args below meth c T locs cells slots) (C : Cx p s m meth c Z bytes maxL own mname ret) {x : Int32} {y : Int32} (hd : decode bytes pc = .ok (.ishr, 1)) (hq : pc + 1 = q) (K : Go p e below F (T.setTop (mkF m q Ls (.int (x >>> (y &&& 31)) :: S)))) : Go p e below F (T.setTop (mkF m pc Ls (.int y :: .int x :: S))) := by
  subst hq; exact of (fun t k => XS.ishr X.here C.1 rfl (hb C.2.2.1 hd) rfl k) K
theorem iushr (X : Stand p l e R s m args below meth c T locs cells slots) (C : Cx p s m meth c Z bytes maxL own mname ret) {x : Int32} {y : Int32} (hd : decode bytes pc = .ok (.iushr, 1)) (hq : pc + 1 = q) (K : Go p e below F (T.setTop (mkF m q Ls (.int ((x.toUInt32 >>> (y &&& 31).toUInt32).toInt32) :: S)))) : Go p e below F (T.setTop (mkF m pc Ls (.int y :: .int x :: S))) := by
  subst hq; exact of (fun t k => XS.iushr X.here C.1 rfl (hb C.2.2.1 hd) rfl k) K
theorem lshl (X : Stand p l e R s m args below meth c T locs cells slots) (C : Cx p s m meth c Z bytes maxL own mname ret) {x : Int64} {y : Int32} (hd : decode bytes pc = .ok (.lshl, 1)) (hq : pc + 1 = q) (K : Go p e below F (T.setTop (mkF m q Ls (.long (x <<< (y &&& 0x3f).toInt64) :: S)))) : Go p e below F (T.setTop (mkF m pc Ls (.int y :: .long x :: S))) := by
  subst hq; exact of (fun t k => XS.lshl X.here C.1 rfl (hb C.2.2.1 hd) rfl k) K
theorem lshr (X : Stand p l e R s m args below meth c T locs cells slots) (C : Cx p s m meth c Z bytes maxL own mname ret) {x : Int64} {y : Int32} (hd : decode bytes pc = .ok (.lshr, 1)) (hq : pc + 1 = q) (K : Go p e below F (T.setTop (mkF m q Ls (.long (x >>> (y &&& 0x3f).toInt64) :: S)))) : Go p e below F (T.setTop (mkF m pc Ls (.int y :: .long x :: S))) := by
  subst hq; exact of (fun t k => XS.lshr X.here C.1 rfl (hb C.2.2.1 hd) rfl k) K
theorem lushr (X : Stand p l e R s m args below meth c T locs cells slots) (C : Cx p s m meth c Z bytes maxL own mname ret) {x : Int64} {y : Int32} (hd : decode bytes pc = .ok (.lushr, 1)) (hq : pc + 1 = q) (K : Go p e below F (T.setTop (mkF m q Ls (.long ((x.toUInt64 >>> (y &&& 0x3f).toInt64.toUInt64).toInt64) :: S)))) : Go p e below F (T.setTop (mkF m pc Ls (.int y :: .long x :: S))) := by
  subst hq; exact of (fun t k => XS.lushr X.here C.1 rfl (hb C.2.2.1 hd) rfl k) K
theorem ineg (X : Stand p l e R s m args below meth c T locs cells slots) (C : Cx p s m meth c Z bytes maxL own mname ret) {x : Int32} (hd : decode bytes pc = .ok (.ineg, 1)) (hq : pc + 1 = q) (K : Go p e below F (T.setTop (mkF m q Ls (.int (-x) :: S)))) : Go p e below F (T.setTop (mkF m pc Ls (.int x :: S))) := by
  subst hq; exact of (fun t k => XS.ineg X.here C.1 rfl (hb C.2.2.1 hd) rfl k) K
theorem lneg (X : Stand p l e R s m args below meth c T locs cells slots) (C : Cx p s m meth c Z bytes maxL own mname ret) {x : Int64} (hd : decode bytes pc = .ok (.lneg, 1)) (hq : pc + 1 = q) (K : Go p e below F (T.setTop (mkF m q Ls (.long (-x) :: S)))) : Go p e below F (T.setTop (mkF m pc Ls (.long x :: S))) := by
  subst hq; exact of (fun t k => XS.lneg X.here C.1 rfl (hb C.2.2.1 hd) rfl k) K
theorem i2l (X : Stand p l e R s m args below meth c T locs cells slots) (C : Cx p s m meth c Z bytes maxL own mname ret) {x : Int32} (hd : decode bytes pc = .ok (.i2l, 1)) (hq : pc + 1 = q) (K : Go p e below F (T.setTop (mkF m q Ls (.long (x.toInt64) :: S)))) : Go p e below F (T.setTop (mkF m pc Ls (.int x :: S))) := by
  subst hq; exact of (fun t k => XS.i2l X.here C.1 rfl (hb C.2.2.1 hd) rfl k) K
theorem l2i (X : Stand p l e R s m args below meth c T locs cells slots) (C : Cx p s m meth c Z bytes maxL own mname ret) {x : Int64} (hd : decode bytes pc = .ok (.l2i, 1)) (hq : pc + 1 = q) (K : Go p e below F (T.setTop (mkF m q Ls (.int (x.toInt32) :: S)))) : Go p e below F (T.setTop (mkF m pc Ls (.long x :: S))) := by
  subst hq; exact of (fun t k => XS.l2i X.here C.1 rfl (hb C.2.2.1 hd) rfl k) K
theorem i2b (X : Stand p l e R s m args below meth c T locs cells slots) (C : Cx p s m meth c Z bytes maxL own mname ret) {x : Int32} (hd : decode bytes pc = .ok (.i2b, 1)) (hq : pc + 1 = q) (K : Go p e below F (T.setTop (mkF m q Ls (.int (x.toInt8.toInt32) :: S)))) : Go p e below F (T.setTop (mkF m pc Ls (.int x :: S))) := by
  subst hq; exact of (fun t k => XS.i2b X.here C.1 rfl (hb C.2.2.1 hd) rfl k) K
theorem i2s (X : Stand p l e R s m args below meth c T locs cells slots) (C : Cx p s m meth c Z bytes maxL own mname ret) {x : Int32} (hd : decode bytes pc = .ok (.i2s, 1)) (hq : pc + 1 = q) (K : Go p e below F (T.setTop (mkF m q Ls (.int (x.toInt16.toInt32) :: S)))) : Go p e below F (T.setTop (mkF m pc Ls (.int x :: S))) := by
  subst hq; exact of (fun t k => XS.i2s X.here C.1 rfl (hb C.2.2.1 hd) rfl k) K
theorem i2c (X : Stand p l e R s m args below meth c T locs cells slots) (C : Cx p s m meth c Z bytes maxL own mname ret) {x : Int32} (hd : decode bytes pc = .ok (.i2c, 1)) (hq : pc + 1 = q) (K : Go p e below F (T.setTop (mkF m q Ls (.int (x.toUInt32.toUInt16.toUInt32.toInt32) :: S)))) : Go p e below F (T.setTop (mkF m pc Ls (.int x :: S))) := by
  subst hq; exact of (fun t k => XS.i2c X.here C.1 rfl (hb C.2.2.1 hd) rfl k) K
theorem idiv (X : Stand p l e R s m args below meth c T locs cells slots) (C : Cx p s m meth c Z bytes maxL own mname ret) {x y : Int32} (hd : decode bytes pc = .ok (.idiv, 1)) (hy : y ≠ 0) (hq : pc + 1 = q) (K : Go p e below F (T.setTop (mkF m q Ls (.int (x / y) :: S)))) : Go p e below F (T.setTop (mkF m pc Ls (.int y :: .int x :: S))) := by
  subst hq; exact of (fun t k => XS.idiv X.here C.1 rfl (hb C.2.2.1 hd) rfl hy k) K
theorem irem (X : Stand p l e R s m args below meth c T locs cells slots) (C : Cx p s m meth c Z bytes maxL own mname ret) {x y : Int32} (hd : decode bytes pc = .ok (.irem, 1)) (hy : y ≠ 0) (hq : pc + 1 = q) (K : Go p e below F (T.setTop (mkF m q Ls (.int (x % y) :: S)))) : Go p e below F (T.setTop (mkF m pc Ls (.int y :: .int x :: S))) := by
  subst hq; exact of (fun t k => iremM (g := mkF m pc Ls (.int y :: .int x :: S)) X C.1 rfl (hb C.2.2.1 hd) rfl hy k) K
theorem ldiv (X : Stand p l e R s m args below meth c T locs cells slots) (C : Cx p s m meth c Z bytes maxL own mname ret) {x y : Int64} (hd : decode bytes pc = .ok (.ldiv, 1)) (hy : y ≠ 0) (hq : pc + 1 = q) (K : Go p e below F (T.setTop (mkF m q Ls (.long (x / y) :: S)))) : Go p e below F (T.setTop (mkF m pc Ls (.long y :: .long x :: S))) := by
  subst hq; exact of (fun t k => XS.ldiv X.here C.1 rfl (hb C.2.2.1 hd) rfl hy k) K
theorem lcmp (X : Stand p l e R s m args below meth c T locs cells slots) (C : Cx p s m meth c Z bytes maxL own mname ret) {x y : Int64} (hd : decode bytes pc = .ok (.lcmp, 1)) (hq : pc + 1 = q) (K : Go p e below F (T.setTop (mkF m q Ls (.int (lcmpW x y) :: S)))) : Go p e below F (T.setTop (mkF m pc Ls (.long y :: .long x :: S))) := by
  subst hq; exact of (fun t k => XS.lcmp X.here C.1 rfl (hb C.2.2.1 hd) rfl k) K
theorem dup (X : Stand p l e R s m args below meth c T locs cells slots) (C : Cx p s m meth c Z bytes maxL own mname ret) {v : Value} (hd : decode bytes pc = .ok (.dup, 1)) (hv : v.category = 1) (hq : pc + 1 = q) (K : Go p e below F (T.setTop (mkF m q Ls (v :: v :: S)))) : Go p e below F (T.setTop (mkF m pc Ls (v :: S))) := by
  subst hq; exact of (fun t k => XS.dup X.here C.1 rfl (hb C.2.2.1 hd) rfl hv k) K
theorem dupX1 (X : Stand p l e R s m args below meth c T locs cells slots) (C : Cx p s m meth c Z bytes maxL own mname ret) {v w : Value} (hd : decode bytes pc = .ok (.dup_x1, 1)) (hv : v.category = 1) (hw : w.category = 1) (hq : pc + 1 = q) (K : Go p e below F (T.setTop (mkF m q Ls (v :: w :: v :: S)))) : Go p e below F (T.setTop (mkF m pc Ls (v :: w :: S))) := by
  subst hq; exact of (fun t k => XS.dupX1 X.here C.1 rfl (hb C.2.2.1 hd) rfl hv hw k) K
theorem pop (X : Stand p l e R s m args below meth c T locs cells slots) (C : Cx p s m meth c Z bytes maxL own mname ret) {v : Value} (hd : decode bytes pc = .ok (.pop, 1)) (hv : v.category = 1) (hq : pc + 1 = q) (K : Go p e below F (T.setTop (mkF m q Ls S))) : Go p e below F (T.setTop (mkF m pc Ls (v :: S))) := by
  subst hq; exact of (fun t k => XS.pop X.here C.1 rfl (hb C.2.2.1 hd) rfl hv k) K
theorem goto (X : Stand p l e R s m args below meth c T locs cells slots) (C : Cx p s m meth c Z bytes maxL own mname ret) {o : Int} (hd : decode bytes pc = .ok (.goto o, 3)) (ho : 0 ≤ (pc : Int) + o) (hq : ((pc : Int) + o).toNat = q) (K : Go p e below F (T.setTop (mkF m q Ls S))) : Go p e below F (T.setTop (mkF m pc Ls S)) :=
  of (fun t k => XS.goto X.here C.1 rfl rfl (hb C.2.2.1 hd) ho hq k) K
theorem icmpT (X : Stand p l e R s m args below meth c T locs cells slots) (C : Cx p s m meth c Z bytes maxL own mname ret) {cd : ClassFile.Cond} {o : Int} {x y : Int32} (hd : decode bytes pc = .ok (.if_icmp cd o, 3)) (ho : 0 ≤ (pc : Int) + o) (hq : ((pc : Int) + o).toNat = q) (hc : cT cd x y) (K : Go p e below F (T.setTop (mkF m q Ls S))) : Go p e below F (T.setTop (mkF m pc Ls (.int y :: .int x :: S))) :=
  of (fun t k => XS.icmpYes X.here C.1 rfl rfl (hb C.2.2.1 hd) rfl (holdsT hc) ho hq k) K
theorem icmpF (X : Stand p l e R s m args below meth c T locs cells slots) (C : Cx p s m meth c Z bytes maxL own mname ret) {cd : ClassFile.Cond} {o : Int} {x y : Int32} (hd : decode bytes pc = .ok (.if_icmp cd o, 3)) (hq : pc + 3 = q) (hc : cF cd x y) (K : Go p e below F (T.setTop (mkF m q Ls S))) : Go p e below F (T.setTop (mkF m pc Ls (.int y :: .int x :: S))) := by
  subst hq; exact of (fun t k => XS.icmpNo X.here C.1 rfl (hb C.2.2.1 hd) rfl (holdsF hc) k) K
theorem icmp (X : Stand p l e R s m args below meth c T locs cells slots) (C : Cx p s m meth c Z bytes maxL own mname ret) {cd : ClassFile.Cond} {o : Int} {x y : Int32} {q' : Nat} (hd : decode bytes pc = .ok (.if_icmp cd o, 3)) (ho : 0 ≤ (pc : Int) + o) (hq : ((pc : Int) + o).toNat = q) (hq' : pc + 3 = q') (K : cT cd x y → Go p e below F (T.setTop (mkF m q Ls S))) (K' : cF cd x y → Go p e below F (T.setTop (mkF m q' Ls S))) : Go p e below F (T.setTop (mkF m pc Ls (.int y :: .int x :: S))) :=
  (cTF cd x y).elim (fun hc => icmpT X C hd ho hq hc (K hc)) (fun hc => icmpF X C hd hq' hc (K' hc))
theorem ifT (X : Stand p l e R s m args below meth c T locs cells slots) (C : Cx p s m meth c Z bytes maxL own mname ret) {cd : ClassFile.Cond} {o : Int} {x : Int32} (hd : decode bytes pc = .ok (.ifCond cd o, 3)) (ho : 0 ≤ (pc : Int) + o) (hq : ((pc : Int) + o).toNat = q) (hc : cT cd x 0) (K : Go p e below F (T.setTop (mkF m q Ls S))) : Go p e below F (T.setTop (mkF m pc Ls (.int x :: S))) :=
  of (fun t k => XS.ifYes X.here C.1 rfl rfl (hb C.2.2.1 hd) rfl ((if0 _ _).trans (holdsT hc)) ho hq k) K
theorem ifF (X : Stand p l e R s m args below meth c T locs cells slots) (C : Cx p s m meth c Z bytes maxL own mname ret) {cd : ClassFile.Cond} {o : Int} {x : Int32} (hd : decode bytes pc = .ok (.ifCond cd o, 3)) (hq : pc + 3 = q) (hc : cF cd x 0) (K : Go p e below F (T.setTop (mkF m q Ls S))) : Go p e below F (T.setTop (mkF m pc Ls (.int x :: S))) := by
  subst hq; exact of (fun t k => XS.ifNo X.here C.1 rfl (hb C.2.2.1 hd) rfl ((if0 _ _).trans (holdsF hc)) k) K
theorem if_ (X : Stand p l e R s m args below meth c T locs cells slots) (C : Cx p s m meth c Z bytes maxL own mname ret) {cd : ClassFile.Cond} {o : Int} {x : Int32} {q' : Nat} (hd : decode bytes pc = .ok (.ifCond cd o, 3)) (ho : 0 ≤ (pc : Int) + o) (hq : ((pc : Int) + o).toNat = q) (hq' : pc + 3 = q') (K : cT cd x 0 → Go p e below F (T.setTop (mkF m q Ls S))) (K' : cF cd x 0 → Go p e below F (T.setTop (mkF m q' Ls S))) : Go p e below F (T.setTop (mkF m pc Ls (.int x :: S))) :=
  (cTF cd x 0).elim (fun hc => ifT X C hd ho hq hc (K hc)) (fun hc => ifF X C hd hq' hc (K' hc))
theorem ifnullT (X : Stand p l e R s m args below meth c T locs cells slots) (C : Cx p s m meth c Z bytes maxL own mname ret) {o : Int} (hd : decode bytes pc = .ok (.ifnull o, 3)) (ho : 0 ≤ (pc : Int) + o) (hq : ((pc : Int) + o).toNat = q) (K : Go p e below F (T.setTop (mkF m q Ls S))) : Go p e below F (T.setTop (mkF m pc Ls (.null :: S))) :=
  of (fun t k => XS.ifnullYes X.here C.1 rfl rfl (hb C.2.2.1 hd) rfl ho hq k) K
theorem ifnullF (X : Stand p l e R s m args below meth c T locs cells slots) (C : Cx p s m meth c Z bytes maxL own mname ret) {o : Int} {a : Addr} (hd : decode bytes pc = .ok (.ifnull o, 3)) (hq : pc + 3 = q) (K : Go p e below F (T.setTop (mkF m q Ls S))) : Go p e below F (T.setTop (mkF m pc Ls (.ref a :: S))) := by
  subst hq; exact of (fun t k => XS.ifnullNo X.here C.1 rfl (hb C.2.2.1 hd) rfl k) K
theorem ifnonnullT (X : Stand p l e R s m args below meth c T locs cells slots) (C : Cx p s m meth c Z bytes maxL own mname ret) {o : Int} {a : Addr} (hd : decode bytes pc = .ok (.ifnonnull o, 3)) (ho : 0 ≤ (pc : Int) + o) (hq : ((pc : Int) + o).toNat = q) (K : Go p e below F (T.setTop (mkF m q Ls S))) : Go p e below F (T.setTop (mkF m pc Ls (.ref a :: S))) :=
  of (fun t k => XS.ifnonnullYes X.here C.1 rfl rfl (hb C.2.2.1 hd) rfl ho hq k) K
theorem ifnonnullF (X : Stand p l e R s m args below meth c T locs cells slots) (C : Cx p s m meth c Z bytes maxL own mname ret) {o : Int} (hd : decode bytes pc = .ok (.ifnonnull o, 3)) (hq : pc + 3 = q) (K : Go p e below F (T.setTop (mkF m q Ls S))) : Go p e below F (T.setTop (mkF m pc Ls (.null :: S))) := by
  subst hq; exact of (fun t k => XS.ifnonnullNo X.here C.1 rfl (hb C.2.2.1 hd) rfl k) K
/-! calls -/
theorem callS (X : Stand p l e R s m args below meth c T locs cells slots) (C : Cx p s m meth c Z bytes maxL own mname ret) {y : MethodName} {i : Nat} {yb : ByteArray} {ym : Nat} {yr : Option FieldType} (w1 : (Jvm.Cond.methodLink own i y).before a0 Z = true) (w2 : (Jvm.Cond.static y).before a0 Z = true) (w3 : (Jvm.Cond.initialized y.cls).before a0 Z = true) (w4 : (Jvm.Cond.code y yb ym yr).before a0 Z = true) (hy : y.cls ≠ "java/lang/invoke/MethodHandle" ∧ y.cls ≠ "java/lang/invoke/VarHandle")
    {rm : Room} {as' : Array Value} {Q : Option Value → Heap → List Loc → Prop} (hM : MetFree l y (head1 [Jvm.Cond.code y yb ym yr] rm) (fun a U => a = as' ∧ Z.Warmed39 U.vm ∧ U.heap = h) (fun _ _ _ _ _ => True) (fun _ U o U' => ∃ v L, o = .returned v ∧ Q v U'.heap L ∧ FrameEnd U o U' L rm.cells rm.slots))
    (eT : T.heap = h) (hd : decode bytes pc = .ok (.invokestatic i, 3)) (argsL : List Value) (rest : List Value) (hS : S = argsL.reverse ++ rest) (has : as' = argsL.toArray) {ps : List FieldType} {r : Option FieldType} (hpd : parseMethodDescriptor y.desc = some ⟨ps, r⟩) (hlen : argsL.length = ps.length) (hsz : Ls.size = maxL)
    (hf : rm.frames + 1 ≤ R.frames) (hl : (rest.map fun v => v.category).sum + (ym + 11) + rm.locals ≤ R.locals) (hc : cells + rm.cells ≤ R.cells) (hsl : slots + rm.slots ≤ R.slots) (hq : pc + 3 = q)
    (K : ∀ (T' : State) (v : Option Value) (L : List Loc), Stand p l e R s m args below meth c T' (locs ++ L) (cells + rm.cells) (slots + rm.slots) → Q v T'.heap L → Go p e below F (T'.setTop (mkF m q Ls (v.toList ++ rest)))) : Go p e below F (T.setTop (mkF m pc Ls S)) := by
  subst hq hS has
  obtain ⟨hx, hZ, hby, hml, hown, hnm, hret, hlk⟩ := C
  obtain ⟨v, _, ⟨T1, L1, k1, n1⟩, -, X1, ⟨Lc, hQ, l1, y1, z1⟩, st⟩ := Jvm.LawKit.callS X hx hown (mvT hZ w1) (mvT hZ w2) (mvT hZ w3) (mvT hZ w4) hy (backOf (W := (rest.map fun v => v.category).sum) hM hZ w4 w3 hf hl) (g := mkF m pc Ls (argsL.reverse ++ rest)) rfl (by rw [hml]; exact hsz) (argsL := argsL) (rest := rest) (lenOf hpd hlen) rfl (by show 2 * 0 + _ ≤ _; omega) (hb hby hd) (fun _ _ => ⟨rfl, eT, hc, hsl⟩)
  dsimp only [Pt.U, Pt.locs, Pt.cells, Pt.slots] at X1 l1 y1 z1 st hQ
  subst l1 y1 z1
  exact of st (K T1 v Lc X1 hQ)
theorem callI (X : Stand p l e R s m args below meth c T locs cells slots) (C : Cx p s m meth c Z bytes maxL own mname ret) {y : MethodName} {i : Nat} {yb : ByteArray} {ym : Nat} (hy1 : y.name = "<init>") (w1 : (Jvm.Cond.methodLink own i y).before a0 Z = true) (w2 : (Jvm.Cond.instanceMethod y).before a0 Z = true) (w3 : (Jvm.Cond.initialized y.cls).before a0 Z = true) (w4 : (Jvm.Cond.code y yb ym none).before a0 Z = true) (hy : y.cls ≠ "java/lang/invoke/MethodHandle" ∧ y.cls ≠ "java/lang/invoke/VarHandle")
    {rm : Room} {as' : Array Value} {Q : Option Value → Heap → List Loc → Prop} (hM : MetFree l y (head1 [Jvm.Cond.code y yb ym none] rm) (fun a U => a = as' ∧ Z.Warmed39 U.vm ∧ U.heap = h) (fun _ _ _ _ _ => True) (fun _ U o U' => ∃ v L, o = .returned v ∧ Q v U'.heap L ∧ FrameEnd U o U' L rm.cells rm.slots))
    (eT : T.heap = h) (hd : decode bytes pc = .ok (.invokespecial i, 3)) {a : Addr} (argsL : List Value) (rest : List Value) (hS : S = argsL.reverse ++ .ref a :: rest) (has : as' = (.ref a :: argsL).toArray) {ps : List FieldType} {r : Option FieldType} (hpd : parseMethodDescriptor y.desc = some ⟨ps, r⟩) (hlen : argsL.length = ps.length) (hsz : Ls.size = maxL)
    (hf : rm.frames + 1 ≤ R.frames) (hl : (rest.map fun v => v.category).sum + (ym + 11) + rm.locals ≤ R.locals) (hc : cells + rm.cells ≤ R.cells) (hsl : slots + rm.slots ≤ R.slots) (hq : pc + 3 = q)
    (K : ∀ (T' : State) (v : Option Value) (L : List Loc), Stand p l e R s m args below meth c T' (locs ++ L) (cells + rm.cells) (slots + rm.slots) → Q v T'.heap L → Go p e below F (T'.setTop (mkF m q Ls (v.toList ++ rest)))) : Go p e below F (T.setTop (mkF m pc Ls S)) := by
  subst hq hS has
  obtain ⟨hx, hZ, hby, hml, hown, hnm, hret, hlk⟩ := C
  obtain ⟨v, _, ⟨T1, L1, k1, n1⟩, -, X1, ⟨Lc, hQ, l1, y1, z1⟩, st⟩ := X.specialBack hx hy1 hown (mvT hZ w1) (mvT hZ w2) (mvT hZ w4) hy (backOf (W := (rest.map fun v => v.category).sum) hM hZ w4 w3 hf hl) (g := mkF m pc Ls (argsL.reverse ++ .ref a :: rest)) rfl (by rw [hml]; exact hsz) (Steps.refl _) (a := a) (argsL := argsL) (rest := rest) (lenOf hpd hlen) rfl (by show 2 * 0 + _ ≤ _; omega) (hb hby hd) (fun _ _ => ⟨rfl, eT, hc, hsl⟩)
  dsimp only [Pt.U, Pt.locs, Pt.cells, Pt.slots] at X1 l1 y1 z1 st hQ
  subst l1 y1 z1
  exact tr st (K T1 v Lc X1 hQ)
theorem callV (X : Stand p l e R s m args below meth c T locs cells slots) (C : Cx p s m meth c Z bytes maxL own mname ret) {y z : MethodName} {i : Nat} {Cn : String} {yb : ByteArray} {ym : Nat} {yr : Option FieldType} (w1 : (Jvm.Cond.methodLink own i y).before a0 Z = true) (w2 : (Jvm.Cond.declares y).before a0 Z = true) (hnf : NotFace s y) (ws : (Jvm.Cond.selects Cn y z).before a0 Z = true) (wi : (Jvm.Cond.instanceMethod z).before a0 Z = true) (w3 : (Jvm.Cond.initialized z.cls).before a0 Z = true) (w4 : (Jvm.Cond.code z yb ym yr).before a0 Z = true) (hy : y.cls ≠ "java/lang/invoke/MethodHandle" ∧ y.cls ≠ "java/lang/invoke/VarHandle")
    {rm : Room} {as' : Array Value} {Q : Option Value → Heap → List Loc → Prop} (hM : MetFree l z (head1 [Jvm.Cond.code z yb ym yr] rm) (fun a U => a = as' ∧ Z.Warmed39 U.vm ∧ U.heap = h) (fun _ _ _ _ _ => True) (fun _ U o U' => ∃ v L, o = .returned v ∧ Q v U'.heap L ∧ FrameEnd U o U' L rm.cells rm.slots))
    (eT : T.heap = h) {a : Addr} (E : Exa Z h a Cn) (hd : decode bytes pc = .ok (.invokevirtual i, 3)) (argsL : List Value) (rest : List Value) (hS : S = argsL.reverse ++ .ref a :: rest) (has : as' = (.ref a :: argsL).toArray) {ps : List FieldType} {r : Option FieldType} (hpd : parseMethodDescriptor y.desc = some ⟨ps, r⟩) (hlen : argsL.length = ps.length) (hsz : Ls.size = maxL)
    (hf : rm.frames + 1 ≤ R.frames) (hl : (rest.map fun v => v.category).sum + (ym + 11) + rm.locals ≤ R.locals) (hc : cells + rm.cells ≤ R.cells) (hsl : slots + rm.slots ≤ R.slots) (hq : pc + 3 = q)
    (K : ∀ (T' : State) (v : Option Value) (L : List Loc), Stand p l e R s m args below meth c T' (locs ++ L) (cells + rm.cells) (slots + rm.slots) → Q v T'.heap L → Go p e below F (T'.setTop (mkF m q Ls (v.toList ++ rest)))) : Go p e below F (T.setTop (mkF m pc Ls S)) := by
  subst hq hS has
  obtain ⟨hx, hZ, hby, hml, hown, hnm, hret, hlk⟩ := C
  obtain ⟨cq, kq, qa, qb, qc⟩ := isOf hZ eT E
  obtain ⟨v, _, ⟨T1, L1, k1, n1⟩, -, X1, ⟨Lc, hQ, l1, y1, z1⟩, st⟩ := X.virtualBack hx hown (mvT hZ w1) (mvT hZ w2) hnf (mvT hZ ws) (mvT hZ wi) hy (backOf (W := (rest.map fun v => v.category).sum) hM hZ w4 w3 hf hl) qa qc (g := mkF m pc Ls (argsL.reverse ++ .ref a :: rest)) rfl (by rw [hml]; exact hsz) (Steps.refl _) (argsL := argsL) (rest := rest) (lenOf hpd hlen) rfl (by show 2 * 0 + _ ≤ _; omega) (hb hby hd) (fun _ _ => ⟨rfl, eT, hc, hsl⟩)
  dsimp only [Pt.U, Pt.locs, Pt.cells, Pt.slots] at X1 l1 y1 z1 st hQ
  subst l1 y1 z1
  exact tr st (K T1 v Lc X1 hQ)
theorem callP (X : Stand p l e R s m args below meth c T locs cells slots) (C : Cx p s m meth c Z bytes maxL own mname ret) {y y2 : MethodName} {i : Nat} {Cn : String} {yb : ByteArray} {ym : Nat} {yr : Option FieldType} (w1 : (Jvm.Cond.methodLink own i y).before a0 Z = true) (wi : (Jvm.Cond.instanceMethod y).before a0 Z = true) (wp : (Jvm.Cond.privateMethod y).before a0 Z = true) (hcls : y2.cls = y.cls) (ws : (Jvm.Cond.selects y2.cls y2 y2).before a0 Z = true) (w3 : (Jvm.Cond.initialized y.cls).before a0 Z = true) (w4 : (Jvm.Cond.code y yb ym yr).before a0 Z = true) (hy : y.cls ≠ "java/lang/invoke/MethodHandle" ∧ y.cls ≠ "java/lang/invoke/VarHandle")
    {rm : Room} {as' : Array Value} {Q : Option Value → Heap → List Loc → Prop} (hM : MetFree l y (head1 [Jvm.Cond.code y yb ym yr] rm) (fun a U => a = as' ∧ Z.Warmed39 U.vm ∧ U.heap = h) (fun _ _ _ _ _ => True) (fun _ U o U' => ∃ v L, o = .returned v ∧ Q v U'.heap L ∧ FrameEnd U o U' L rm.cells rm.slots))
    (eT : T.heap = h) {a : Addr} (E : Exa Z h a Cn) (hd : decode bytes pc = .ok (.invokevirtual i, 3)) (argsL : List Value) (rest : List Value) (hS : S = argsL.reverse ++ .ref a :: rest) (has : as' = (.ref a :: argsL).toArray) {ps : List FieldType} {r : Option FieldType} (hpd : parseMethodDescriptor y.desc = some ⟨ps, r⟩) (hlen : argsL.length = ps.length) (hsz : Ls.size = maxL)
    (hf : rm.frames + 1 ≤ R.frames) (hl : (rest.map fun v => v.category).sum + (ym + 11) + rm.locals ≤ R.locals) (hc : cells + rm.cells ≤ R.cells) (hsl : slots + rm.slots ≤ R.slots) (hq : pc + 3 = q)
    (K : ∀ (T' : State) (v : Option Value) (L : List Loc), Stand p l e R s m args below meth c T' (locs ++ L) (cells + rm.cells) (slots + rm.slots) → Q v T'.heap L → Go p e below F (T'.setTop (mkF m q Ls (v.toList ++ rest)))) : Go p e below F (T.setTop (mkF m pc Ls S)) := by
  subst hq hS has
  obtain ⟨hx, hZ, hby, hml, hown, hnm, hret, hlk⟩ := C
  obtain ⟨cl, qa, qb⟩ := E.cell
  rw [← eT] at qa
  have ws' : (Jvm.Cond.selects y2.cls y2 y2).before args s = true := mvT hZ ws
  obtain ⟨_, _, m2, -, -, q3, -, kP, hkP, hkPi⟩ := Cond.selects_spec ws'
  have hfc := findClass_of_methodNamed q3
  rw [hcls] at hfc
  have hpr : s.PrivateAt y := Cond.privateMethod_at (args := args) (mvP hZ wp)
  have hsel := Jvm.Stand.selects_self_of_private (args := args) hfc hkP hkPi hpr (mvT hZ wi) hy
  obtain ⟨v, _, ⟨T1, L1, k1, n1⟩, -, X1, ⟨Lc, hQ, l1, y1, z1⟩, st⟩ := X.privateBack hx hown (mvT hZ w1) (mvT hZ wi) hsel hpr (mvT hZ w4) hy (backOf (W := (rest.map fun v => v.category).sum) hM hZ w4 w3 hf hl) (g := mkF m pc Ls (argsL.reverse ++ .ref a :: rest)) rfl (by rw [hml]; exact hsz) (Steps.refl _) qa qb (argsL := argsL) (rest := rest) (lenOf hpd hlen) rfl (by show 2 * 0 + _ ≤ _; omega) (hb hby hd) (fun _ _ => ⟨rfl, eT, hc, hsl⟩)
  dsimp only [Pt.U, Pt.locs, Pt.cells, Pt.slots] at X1 l1 y1 z1 st hQ
  subst l1 y1 z1
  exact tr st (K T1 v Lc X1 hQ)
theorem nf (C : Cx p s m meth c Z bytes maxL own mname ret) {Cn : String} {y : MethodName} (ws : (Jvm.Cond.selects Cn y y).before a0 Z = true) : NotFace s y := notFace_of_selects (args := #[]) (mvT C.2.1 ws)
theorem initObj (X : Stand p l e R s m args below meth c T locs cells slots) (C : Cx p s m meth c Z bytes maxL own mname ret) {i : Nat} (w1 : (Jvm.Cond.methodLink own i ⟨"java/lang/Object", "<init>", "()V"⟩).before a0 Z = true) (w2 : (Jvm.Cond.instanceMethod ⟨"java/lang/Object", "<init>", "()V"⟩).before a0 Z = true) (w3 : (Jvm.Cond.code ⟨"java/lang/Object", "<init>", "()V"⟩ object_method_1_code 1 none).before a0 Z = true)
    (eT : T.heap = h) {a : Addr} (hd : decode bytes pc = .ok (.invokespecial i, 3)) (hsz : Ls.size = maxL) (hf : 1 ≤ R.frames) (hl : (S.map fun v => v.category).sum + 12 ≤ R.locals) (hq : pc + 3 = q)
    (K : ∀ (T' : State), Stand p l e R s m args below meth c T' locs cells slots → T'.heap = h → Go p e below F (T'.setTop (mkF m q Ls S))) : Go p e below F (T.setTop (mkF m pc Ls (.ref a :: S))) := by
  subst hq
  obtain ⟨hx, hZ, hby, hml, hown, hnm, hret, hlk⟩ := C
  obtain ⟨T1, X1, e1, st⟩ := initO X hx hZ hown w1 w2 w3 eT (g := mkF m pc Ls (.ref a :: S)) rfl (by rw [hml]; exact hsz) rfl (hb hby hd) hf (W := (S.map fun v => v.category).sum) (by show 2 * 0 + _ ≤ _; omega) hl
  exact of st (K T1 X1 e1)
/-! objects -/
theorem newO (X : Stand p l e R s m args below meth c T locs cells slots) (C : Cx p s m meth c Z bytes maxL own mname ret) {i n : Nat} {Cn : String} (w1 : (Jvm.Cond.classLink own i Cn).before a0 Z = true) (w2 : (Jvm.Cond.instantiable Cn n).before a0 Z = true) (w3 : (Jvm.Cond.initialized Cn).before a0 Z = true) (eT : T.heap = h) (hd : decode bytes pc = .ok (.new i, 3)) (hc : cells + 1 ≤ R.cells) (hl : slots + n ≤ R.slots) (hq : pc + 3 = q)
    (K : ∀ (T' : State) (h' : Heap) (b : Addr), Stand p l e R s m args below meth c T' locs (cells + 1) (slots + n) → T'.heap = h' → b = h.size → Ext h h' → Exa Z h' b Cn → (∀ {O nm d : String} {ty : FieldType}, Laid Z a0 Cn O nm d → parseFieldDescriptor d = some ty → Fld Z h' b O nm d (defaultValue ty)) → Go p e below F (T'.setTop (mkF m q Ls (.ref b :: S)))) : Go p e below F (T.setTop (mkF m pc Ls S)) := by
  subst hq
  obtain ⟨hx, hZ, hby, hml, hown, hnm, hret, hlk⟩ := C
  obtain ⟨T1, h1, X1, e1, E1, A1, D1, -, st⟩ := Jvm.RoadKit.newO X hx hZ hown w1 w2 w3 eT (g := mkF m pc Ls S) rfl (hb hby hd) hc hl
  exact of st (K T1 h1 _ X1 e1 rfl E1 A1 D1)
theorem getF (X : Stand p l e R s m args below meth c T locs cells slots) (C : Cx p s m meth c Z bytes maxL own mname ret) {i : Nat} {R0 O n d host : String} (w : (Jvm.Cond.fieldLink own i R0 n d).before a0 Z = true ∨ (Jvm.Cond.fieldLinkNest own i R0 n d host).before a0 Z = true) (via : Via Z R0 O n d) (eT : T.heap = h) {a : Addr} {v : Value} (F0 : Fld Z h a O n d v) (hd : decode bytes pc = .ok (.getfield i, 3)) (hq : pc + 3 = q)
    (K : ∀ (T' : State), Stand p l e R s m args below meth c T' locs cells slots → T'.heap = h → Go p e below F (T'.setTop (mkF m q Ls (v :: S)))) : Go p e below F (T.setTop (mkF m pc Ls (.ref a :: S))) := by
  subst hq
  obtain ⟨hx, hZ, hby, hml, hown, hnm, hret, hlk⟩ := C
  obtain ⟨T1, X1, e1, st⟩ := Jvm.RoadKit.getF X hx hZ hown w via eT F0 (g := mkF m pc Ls (.ref a :: S)) rfl rfl (hb hby hd)
  exact of st (K T1 X1 e1)
theorem putF (X : Stand p l e R s m args below meth c T locs cells slots) (C : Cx p s m meth c Z bytes maxL own mname ret) {i kk : Nat} {R0 O n d host Cn : String} {ty : FieldType} (w : (Jvm.Cond.fieldLink own i R0 n d).before a0 Z = true ∨ (Jvm.Cond.fieldLinkNest own i R0 n d host).before a0 Z = true) (via : Via Z R0 O n d) (eT : T.heap = h) {a : Addr} {v old : Value} (F0 : Fld Z h a O n d old) (E : Exa Z h a Cn) (L : (Jvm.Cond.lays Cn O n d).before a0 Z = true ∨ ((Jvm.Cond.laysFinal Cn O n d).before a0 Z = true ∧ own = O ∧ mname = "<init>")) (wi : (Jvm.Cond.instantiable Cn kk).before a0 Z = true) (hty : parseFieldDescriptor d = some ty) (hn : narrow ty v = v) (hf : fits ty v = true) (hd : decode bytes pc = .ok (.putfield i, 3)) (hq : pc + 3 = q)
    (K : ∀ (T' : State) (h' : Heap), Stand p l e R s m args below meth c T' (locs ++ [⟨a, Jvm.RoadKit.slotOf Z O n d⟩]) cells slots → T'.heap = h' → Wr h h' a (Jvm.RoadKit.slotOf Z O n d) v → Go p e below F (T'.setTop (mkF m q Ls S))) : Go p e below F (T.setTop (mkF m pc Ls (v :: .ref a :: S))) := by
  subst hq
  obtain ⟨hx, hZ, hby, hml, hown, hnm, hret, hlk⟩ := C
  obtain ⟨T1, h1, X1, e1, W1, st⟩ := Jvm.RoadKit.putF X hx hZ hown w via eT F0 E (L.imp id fun q => ⟨q.1, q.2.1, hnm.trans q.2.2⟩) wi hty hn hf (g := mkF m pc Ls (v :: .ref a :: S)) rfl rfl (hb hby hd)
  exact of st (K T1 h1 X1 e1 W1)
theorem getS (X : Stand p l e R s m args below meth c T locs cells slots) (C : Cx p s m meth c Z bytes maxL own mname ret) {i : Nat} {R0 O n d : String} (w : (Jvm.Cond.fieldLink own i R0 n d).before a0 Z = true) (via : Via Z R0 O n d) (eT : T.heap = h) {v : Value} (F0 : Sta Z h O n d v) (hd : decode bytes pc = .ok (.getstatic i, 3)) (hq : pc + 3 = q)
    (K : ∀ (T' : State), Stand p l e R s m args below meth c T' locs cells slots → T'.heap = h → Go p e below F (T'.setTop (mkF m q Ls (v :: S)))) : Go p e below F (T.setTop (mkF m pc Ls S)) := by
  subst hq
  obtain ⟨hx, hZ, hby, hml, hown, hnm, hret, hlk⟩ := C
  obtain ⟨T1, X1, e1, st⟩ := Jvm.RoadKit.getS X hx hZ hown (host := "") w via eT F0 (g := mkF m pc Ls S) rfl (hb hby hd)
  exact of st (K T1 X1 e1)
/-! arrays: Arv Z h a k ty n vs d -/
theorem inb {cl : Cell} {n j : Int32} (S : cl.slots.size = n.toNatClampNeg) (h1 : 0 ≤ j.toInt) (h2 : j.toInt < n.toInt) : ¬ (j < 0 ∨ cl.slots.size ≤ j.toNatClampNeg) := inb_of S ⟨by rw [Int32.lt_iff_toInt_lt]; have : (0 : Int32).toInt = 0 := rfl; omega, by rw [Int32.lt_iff_toInt_lt]; exact h2⟩
theorem iaload (X : Stand p l e R s m args below meth c T locs cells slots) (C : Cx p s m meth c Z bytes maxL own mname ret) (eT : T.heap = h) {a : Addr} {k : ClassId} {n j x : Int32} {vs : List Value} {d : Value} (V : Arv Z h a k .int n vs d) (h1 : 0 ≤ j.toInt) (h2 : j.toInt < n.toInt) (hv : vs.getD j.toNatClampNeg d = .int x) (hd : decode bytes pc = .ok (.iaload, 1)) (hq : pc + 1 = q) (K : Go p e below F (T.setTop (mkF m q Ls (.int x :: S)))) : Go p e below F (T.setTop (mkF m pc Ls (.int j :: .ref a :: S))) := by
  subst hq
  obtain ⟨cl, Ar, q1, S1, N1, H1, G1⟩ := V
  exact of (X.iaload C.1 (j := j) (v := .int x) (by rw [eT]; exact Ar.1) (State.isArrayOf_alike C.2.1.alike Ar.2.1) Ar.2.2 (inb S1 h1 h2) (Has.at H1 (inb S1 h1 h2) hv) (g := mkF m pc Ls (.int j :: .ref a :: S)) rfl rfl (hb C.2.2.1 hd)) K
theorem caload (X : Stand p l e R s m args below meth c T locs cells slots) (C : Cx p s m meth c Z bytes maxL own mname ret) (eT : T.heap = h) {a : Addr} {k : ClassId} {n j x : Int32} {vs : List Value} {d : Value} (V : Arv Z h a k .char n vs d) (h1 : 0 ≤ j.toInt) (h2 : j.toInt < n.toInt) (hv : vs.getD j.toNatClampNeg d = .int x) (hd : decode bytes pc = .ok (.caload, 1)) (hq : pc + 1 = q) (K : Go p e below F (T.setTop (mkF m q Ls (.int x :: S)))) : Go p e below F (T.setTop (mkF m pc Ls (.int j :: .ref a :: S))) := by
  subst hq
  obtain ⟨cl, Ar, q1, S1, N1, H1, G1⟩ := V
  exact of (X.caload C.1 (j := j) (v := .int x) (by rw [eT]; exact Ar.1) (State.isArrayOf_alike C.2.1.alike Ar.2.1) Ar.2.2 (inb S1 h1 h2) (Has.at H1 (inb S1 h1 h2) hv) (g := mkF m pc Ls (.int j :: .ref a :: S)) rfl rfl (hb C.2.2.1 hd)) K
theorem baload (X : Stand p l e R s m args below meth c T locs cells slots) (C : Cx p s m meth c Z bytes maxL own mname ret) (eT : T.heap = h) {a : Addr} {k : ClassId} {n j x : Int32} {vs : List Value} {d : Value} (V : Arv Z h a k .byte n vs d) (h1 : 0 ≤ j.toInt) (h2 : j.toInt < n.toInt) (hv : vs.getD j.toNatClampNeg d = .int x) (hd : decode bytes pc = .ok (.baload, 1)) (hq : pc + 1 = q) (K : Go p e below F (T.setTop (mkF m q Ls (.int x :: S)))) : Go p e below F (T.setTop (mkF m pc Ls (.int j :: .ref a :: S))) := by
  subst hq
  obtain ⟨cl, Ar, q1, S1, N1, H1, G1⟩ := V
  exact of (X.baloadBytes C.1 (j := j) (v := .int x) (by rw [eT]; exact Ar.1) (State.isArrayOf_alike C.2.1.alike Ar.2.1) Ar.2.2 (inb S1 h1 h2) (Has.at H1 (inb S1 h1 h2) hv) (g := mkF m pc Ls (.int j :: .ref a :: S)) rfl rfl (hb C.2.2.1 hd)) K
theorem aaload (X : Stand p l e R s m args below meth c T locs cells slots) (C : Cx p s m meth c Z bytes maxL own mname ret) (eT : T.heap = h) {a : Addr} {k : ClassId} {n j : Int32} {x : Value} {vs : List Value} {d : Value} {ty : FieldType} (hty : ty.isReference = true) (V : Arv Z h a k ty n vs d) (h1 : 0 ≤ j.toInt) (h2 : j.toInt < n.toInt) (hv : vs.getD j.toNatClampNeg d = x) (hd : decode bytes pc = .ok (.aaload, 1)) (hq : pc + 1 = q) (K : Go p e below F (T.setTop (mkF m q Ls (x :: S)))) : Go p e below F (T.setTop (mkF m pc Ls (.int j :: .ref a :: S))) := by
  subst hq
  obtain ⟨cl, Ar, q1, S1, N1, H1, G1⟩ := V
  exact of (X.aaload C.1 (j := j) (v := x) (by rw [eT]; exact Ar.1) (State.isArrayOf_alike C.2.1.alike Ar.2.1) hty Ar.2.2 (inb S1 h1 h2) (Has.at H1 (inb S1 h1 h2) hv) (g := mkF m pc Ls (.int j :: .ref a :: S)) rfl rfl (hb C.2.2.1 hd)) K
theorem aaloadC (X : Stand p l e R s m args below meth c T locs cells slots) (C : Cx p s m meth c Z bytes maxL own mname ret) (eT : T.heap = h) {a : Addr} {cl : Cell} {j : Int32} {x : Value} {ty : FieldType} (hty : ty.isReference = true) (Ar : Arr Z h a cl ty) (hin : ¬ (j < 0 ∨ cl.slots.size ≤ j.toNatClampNeg)) (hat : cl.slots[j.toNatClampNeg]? = some x) (hd : decode bytes pc = .ok (.aaload, 1)) (hq : pc + 1 = q) (K : Go p e below F (T.setTop (mkF m q Ls (x :: S)))) : Go p e below F (T.setTop (mkF m pc Ls (.int j :: .ref a :: S))) := by
  subst hq
  exact of (X.aaload C.1 (j := j) (v := x) (by rw [eT]; exact Ar.1) (State.isArrayOf_alike C.2.1.alike Ar.2.1) hty Ar.2.2 hin hat (g := mkF m pc Ls (.int j :: .ref a :: S)) rfl rfl (hb C.2.2.1 hd)) K
theorem arraylength (X : Stand p l e R s m args below meth c T locs cells slots) (C : Cx p s m meth c Z bytes maxL own mname ret) (eT : T.heap = h) {a : Addr} {k : ClassId} {n : Int32} {vs : List Value} {d : Value} {ty : FieldType} (V : Arv Z h a k ty n vs d) (hd : decode bytes pc = .ok (.arraylength, 1)) (hq : pc + 1 = q) (K : Go p e below F (T.setTop (mkF m q Ls (.int n :: S)))) : Go p e below F (T.setTop (mkF m pc Ls (.ref a :: S))) := by
  subst hq
  obtain ⟨cl, Ar, q1, S1, N1, H1, G1⟩ := V
  refine of (X.arraylength C.1 (by rw [eT]; exact Ar.1) (State.isArrayOf_alike C.2.1.alike Ar.2.1) (g := mkF m pc Ls (.ref a :: S)) rfl rfl (hb C.2.2.1 hd)) ?_
  rw [len_of S1 N1]
  exact K
theorem iastore (X : Stand p l e R s m args below meth c T locs cells slots) (C : Cx p s m meth c Z bytes maxL own mname ret) (eT : T.heap = h) {a : Addr} {k : ClassId} {n j x : Int32} {vs : List Value} {d : Value} (V : Arv Z h a k .int n vs d) (h1 : 0 ≤ j.toInt) (h2 : j.toInt < n.toInt) (hlen : j.toNatClampNeg < vs.length) (hd : decode bytes pc = .ok (.iastore, 1)) (hq : pc + 1 = q)
    (K : ∀ (T' : State) (h' : Heap), Stand p l e R s m args below meth c T' (locs ++ [⟨a, j.toNatClampNeg⟩]) cells slots → T'.heap = h' → Wr h h' a j.toNatClampNeg (.int x) → Arv Z h' a k .int n (vs.set j.toNatClampNeg (.int x)) d → Go p e below F (T'.setTop (mkF m q Ls S))) : Go p e below F (T.setTop (mkF m pc Ls (.int x :: .int j :: .ref a :: S))) := by
  subst hq
  obtain ⟨cl, Ar, q1, S1, N1, H1, G1⟩ := V
  obtain ⟨T1, h1', X1, e1, W1, st⟩ := stI X C.1 C.2.1 eT Ar (j := j) (inb S1 h1 h2) (g := mkF m pc Ls (.int x :: .int j :: .ref a :: S)) rfl rfl (hb C.2.2.1 hd)
  exact of st (K T1 h1' X1 e1 W1 (Arv.set Ar q1 S1 N1 H1 G1 rfl W1 _ rfl hlen))
theorem castore (X : Stand p l e R s m args below meth c T locs cells slots) (C : Cx p s m meth c Z bytes maxL own mname ret) (eT : T.heap = h) {a : Addr} {k : ClassId} {n j x : Int32} {vs : List Value} {d : Value} (V : Arv Z h a k .char n vs d) (h1 : 0 ≤ j.toInt) (h2 : j.toInt < n.toInt) (hlen : j.toNatClampNeg < vs.length) (hd : decode bytes pc = .ok (.castore, 1)) (hq : pc + 1 = q)
    (K : ∀ (T' : State) (h' : Heap), Stand p l e R s m args below meth c T' (locs ++ [⟨a, j.toNatClampNeg⟩]) cells slots → T'.heap = h' → Wr h h' a j.toNatClampNeg (.int (nar .char x)) → Arv Z h' a k .char n (vs.set j.toNatClampNeg (.int (nar .char x))) d → Go p e below F (T'.setTop (mkF m q Ls S))) : Go p e below F (T.setTop (mkF m pc Ls (.int x :: .int j :: .ref a :: S))) := by
  subst hq
  obtain ⟨cl, Ar, q1, S1, N1, H1, G1⟩ := V
  obtain ⟨T1, h1', X1, e1, W1, st⟩ := stC X C.1 C.2.1 eT Ar (j := j) (inb S1 h1 h2) (g := mkF m pc Ls (.int x :: .int j :: .ref a :: S)) rfl rfl (hb C.2.2.1 hd)
  exact of st (K T1 h1' X1 e1 W1 (Arv.set Ar q1 S1 N1 H1 G1 (fits_nar_char _) W1 _ rfl hlen))
theorem bastore (X : Stand p l e R s m args below meth c T locs cells slots) (C : Cx p s m meth c Z bytes maxL own mname ret) (eT : T.heap = h) {a : Addr} {k : ClassId} {n j x : Int32} {vs : List Value} {d : Value} (V : Arv Z h a k .byte n vs d) (h1 : 0 ≤ j.toInt) (h2 : j.toInt < n.toInt) (hlen : j.toNatClampNeg < vs.length) (hd : decode bytes pc = .ok (.bastore, 1)) (hq : pc + 1 = q)
    (K : ∀ (T' : State) (h' : Heap), Stand p l e R s m args below meth c T' (locs ++ [⟨a, j.toNatClampNeg⟩]) cells slots → T'.heap = h' → Wr h h' a j.toNatClampNeg (.int x.toInt8.toInt32) → Arv Z h' a k .byte n (vs.set j.toNatClampNeg (.int x.toInt8.toInt32)) d → Go p e below F (T'.setTop (mkF m q Ls S))) : Go p e below F (T.setTop (mkF m pc Ls (.int x :: .int j :: .ref a :: S))) := by
  subst hq
  obtain ⟨cl, Ar, q1, S1, N1, H1, G1⟩ := V
  obtain ⟨T1, h1', X1, e1, W1, st⟩ := stB X C.1 C.2.1 eT Ar (j := j) (inb S1 h1 h2) (g := mkF m pc Ls (.int x :: .int j :: .ref a :: S)) rfl rfl (hb C.2.2.1 hd)
  exact of st (K T1 h1' X1 e1 W1 (Arv.set Ar q1 S1 N1 H1 G1 (fits_nar_byte _) W1 _ rfl hlen))
theorem aastore (X : Stand p l e R s m args below meth c T locs cells slots) (C : Cx p s m meth c Z bytes maxL own mname ret) (eT : T.heap = h) {a : Addr} {k : ClassId} {n j : Int32} {x : Value} {vs : List Value} {d : Value} {ty : FieldType} (hty : ty.isReference = true) (hf : fits ty x = true) (V : Arv Z h a k ty n vs d) (hs : ∀ cl, Arr Z h a cl ty → cl.cls = k → Sto Z h a x) (h1 : 0 ≤ j.toInt) (h2 : j.toInt < n.toInt) (hlen : j.toNatClampNeg < vs.length) (hd : decode bytes pc = .ok (.aastore, 1)) (hq : pc + 1 = q)
    (K : ∀ (T' : State) (h' : Heap), Stand p l e R s m args below meth c T' (locs ++ [⟨a, j.toNatClampNeg⟩]) cells slots → T'.heap = h' → Wr h h' a j.toNatClampNeg x → Arv Z h' a k ty n (vs.set j.toNatClampNeg x) d → Go p e below F (T'.setTop (mkF m q Ls S))) : Go p e below F (T.setTop (mkF m pc Ls (x :: .int j :: .ref a :: S))) := by
  subst hq
  obtain ⟨cl, Ar, q1, S1, N1, H1, G1⟩ := V
  obtain ⟨T1, h1', X1, e1, W1, st⟩ := stR X C.1 C.2.1 eT Ar (j := j) (inb S1 h1 h2) hty (hs cl Ar q1) (g := mkF m pc Ls (x :: .int j :: .ref a :: S)) rfl rfl (hb C.2.2.1 hd)
  exact of st (K T1 h1' X1 e1 W1 (Arv.set Ar q1 S1 N1 H1 G1 hf W1 _ rfl hlen))
theorem newarray (X : Stand p l e R s m args below meth c T locs cells slots) (C : Cx p s m meth c Z bytes maxL own mname ret) {aty : ArrayType} (w : (Jvm.Cond.arrayClass (newarray.typeOf aty)).before a0 Z = true) (eT : T.heap = h) {n : Int32} (hn : 0 ≤ n.toInt) (cap : Nat) (hcap : n.toInt ≤ cap) (hb8 : cap * 8 ≤ 536870912) (hd : decode bytes pc = .ok (.newarray aty, 2)) (hc : cells + 1 ≤ R.cells) (hl : slots + cap ≤ R.slots) (hq : pc + 2 = q)
    (K : ∀ (T' : State) (h' : Heap) (b : Addr) (k : ClassId), Stand p l e R s m args below meth c T' locs (cells + 1) (slots + cap) → T'.heap = h' → b = h.size → Ext h h' → Arv Z h' b k (newarray.typeOf aty) n (List.replicate cap (defaultValue (newarray.typeOf aty))) (defaultValue (newarray.typeOf aty)) → Go p e below F (T'.setTop (mkF m q Ls (.ref b :: S)))) : Go p e below F (T.setTop (mkF m pc Ls (.int n :: S))) := by
  subst hq
  have hn' : ¬ n < 0 := by rw [Int32.lt_iff_toInt_lt]; have : (0 : Int32).toInt = 0 := rfl; omega
  obtain ⟨T1, h1, k1, X1, e1, E1, A1, st⟩ := newP X C.1 C.2.1 w eT (g := mkF m pc Ls (.int n :: S)) rfl (hb C.2.2.1 hd) rfl hn' (cap := cap) (by simp only [Int32.toNatClampNeg]; omega) hb8 hc hl
  exact of st (K T1 h1 _ k1 X1 e1 rfl E1 ((Arv.new A1 hn').pad (pad_rep [] _ cap)))
theorem anewarray (X : Stand p l e R s m args below meth c T locs cells slots) (C : Cx p s m meth c Z bytes maxL own mname ret) {i : Nat} {Cn : String} (w1 : (Jvm.Cond.classLink own i Cn).before a0 Z = true) (w2 : (Jvm.Cond.arrayOver (.object Cn)).before a0 Z = true) (eT : T.heap = h) {n : Int32} (hn : 0 ≤ n.toInt) (cap : Nat) (hcap : n.toInt ≤ cap) (hb8 : cap * 8 ≤ 536870912) (hd : decode bytes pc = .ok (.anewarray i, 3)) (hc : cells + 1 ≤ R.cells) (hl : slots + cap ≤ R.slots) (hq : pc + 3 = q)
    (K : ∀ (T' : State) (h' : Heap) (b : Addr) (k : ClassId), Stand p l e R s m args below meth c T' locs (cells + 1) (slots + cap) → T'.heap = h' → b = h.size → Ext h h' → Ovr Z k Cn → Arv Z h' b k (.object Cn) n (List.replicate cap .null) .null → Go p e below F (T'.setTop (mkF m q Ls (.ref b :: S)))) : Go p e below F (T.setTop (mkF m pc Ls (.int n :: S))) := by
  subst hq
  have hn' : ¬ n < 0 := by rw [Int32.lt_iff_toInt_lt]; have : (0 : Int32).toInt = 0 := rfl; omega
  obtain ⟨T1, h1, k1, X1, e1, E1, A1, O1, st⟩ := newR X C.1 C.2.1 C.2.2.2.2.1 w1 w2 eT (g := mkF m pc Ls (.int n :: S)) rfl (hb C.2.2.1 hd) rfl hn' (cap := cap) (by simp only [Int32.toNatClampNeg]; omega) hb8 hc hl
  exact of st (K T1 h1 _ k1 X1 e1 rfl E1 O1 ((Arv.new A1 hn').pad (pad_rep [] _ cap)))
/-! doubles -/
theorem dload (X : Stand p l e R s m args below meth c T locs cells slots) (C : Cx p s m meth c Z bytes maxL own mname ret) {k : Nat} {v : UInt64} (hd : decode bytes pc = .ok (.dload k, 2)) (hl : Ls[k]? = some (.val (.double v))) (hq : pc + 2 = q) (K : Go p e below F (T.setTop (mkF m q Ls (.double v :: S)))) : Go p e below F (T.setTop (mkF m pc Ls S)) := by
  subst hq; exact of (fun t k => XS.dload X.here C.1 rfl (hb C.2.2.1 hd) hl k) K
theorem dloadN (X : Stand p l e R s m args below meth c T locs cells slots) (C : Cx p s m meth c Z bytes maxL own mname ret) {k : Fin 4} {v : UInt64} (hd : decode bytes pc = .ok (.dload_n k, 1)) (hl : Ls[k.val]? = some (.val (.double v))) (hq : pc + 1 = q) (K : Go p e below F (T.setTop (mkF m q Ls (.double v :: S)))) : Go p e below F (T.setTop (mkF m pc Ls S)) := by
  subst hq; exact of (fun t k => XS.dloadN X.here C.1 rfl (hb C.2.2.1 hd) hl k) K
theorem dstore (X : Stand p l e R s m args below meth c T locs cells slots) (C : Cx p s m meth c Z bytes maxL own mname ret) {k : Nat} {v : UInt64} (hd : decode bytes pc = .ok (.dstore k, 2)) (hl : storeLocals Ls k (.double v) = some L') (hq : pc + 2 = q) (K : Go p e below F (T.setTop (mkF m q L' S))) : Go p e below F (T.setTop (mkF m pc Ls (.double v :: S))) := by
  subst hq; exact of (fun t k => XS.dstore X.here C.1 rfl (hb C.2.2.1 hd) rfl hl k) K
theorem dstoreN (X : Stand p l e R s m args below meth c T locs cells slots) (C : Cx p s m meth c Z bytes maxL own mname ret) {k : Fin 4} {v : UInt64} (hd : decode bytes pc = .ok (.dstore_n k, 1)) (hl : storeLocals Ls k.val (.double v) = some L') (hq : pc + 1 = q) (K : Go p e below F (T.setTop (mkF m q L' S))) : Go p e below F (T.setTop (mkF m pc Ls (.double v :: S))) := by
  subst hq; exact of (fun t k => XS.dstoreN X.here C.1 rfl (hb C.2.2.1 hd) rfl hl k) K
theorem dconst0 (X : Stand p l e R s m args below meth c T locs cells slots) (C : Cx p s m meth c Z bytes maxL own mname ret) {v : UInt64} (hd : decode bytes pc = .ok (.dconst 0, 1)) (hv : FP.dconst0 = v) (hq : pc + 1 = q) (K : Go p e below F (T.setTop (mkF m q Ls (.double v :: S)))) : Go p e below F (T.setTop (mkF m pc Ls S)) := by
  subst hq; exact of (fun t k => XS.dconst0 X.here C.1 rfl (hb C.2.2.1 hd) hv k) K
theorem dconst1 (X : Stand p l e R s m args below meth c T locs cells slots) (C : Cx p s m meth c Z bytes maxL own mname ret) {v : UInt64} (hd : decode bytes pc = .ok (.dconst 1, 1)) (hv : FP.dconst1 = v) (hq : pc + 1 = q) (K : Go p e below F (T.setTop (mkF m q Ls (.double v :: S)))) : Go p e below F (T.setTop (mkF m pc Ls S)) := by
  subst hq; exact of (fun t k => XS.dconst1 X.here C.1 rfl (hb C.2.2.1 hd) hv k) K
theorem i2d (X : Stand p l e R s m args below meth c T locs cells slots) (C : Cx p s m meth c Z bytes maxL own mname ret) {x : Int32} {v : UInt64} (hd : decode bytes pc = .ok (.i2d, 1)) (hv : FP.i2d x = v) (hq : pc + 1 = q) (K : Go p e below F (T.setTop (mkF m q Ls (.double v :: S)))) : Go p e below F (T.setTop (mkF m pc Ls (.int x :: S))) := by
  subst hq; exact of (fun t k => XS.i2dS X.here C.1 rfl (hb C.2.2.1 hd) rfl hv k) K
theorem l2d (X : Stand p l e R s m args below meth c T locs cells slots) (C : Cx p s m meth c Z bytes maxL own mname ret) {x : Int64} {v : UInt64} (hd : decode bytes pc = .ok (.l2d, 1)) (hv : FP.l2d x = v) (hq : pc + 1 = q) (K : Go p e below F (T.setTop (mkF m q Ls (.double v :: S)))) : Go p e below F (T.setTop (mkF m pc Ls (.long x :: S))) := by
  subst hq; exact of (fun t k => XS.l2dS X.here C.1 rfl (hb C.2.2.1 hd) rfl hv k) K
theorem dcmp (X : Stand p l e R s m args below meth c T locs cells slots) (C : Cx p s m meth c Z bytes maxL own mname ret) {o : CmpOp} {x y : UInt64} {v : Int32} (hd : decode bytes pc = .ok (.dcmp o, 1)) (hv : cmpValue (FP.dcmp x y) o = v) (hq : pc + 1 = q) (K : Go p e below F (T.setTop (mkF m q Ls (.int v :: S)))) : Go p e below F (T.setTop (mkF m pc Ls (.double y :: .double x :: S))) := by
  subst hq; exact of (fun t k => XS.dcmpS X.here C.1 rfl (hb C.2.2.1 hd) rfl hv k) K
theorem dadd (X : Stand p l e R s m args below meth c T locs cells slots) (C : Cx p s m meth c Z bytes maxL own mname ret) {x y v : UInt64} (hd : decode bytes pc = .ok (.dadd, 1)) (hn : Jvm.Free.Fl.NoNaN64 v) (hv : FP.dadd x y = v) (hq : pc + 1 = q) (K : Go p e below F (T.setTop (mkF m q Ls (.double v :: S)))) : Go p e below F (T.setTop (mkF m pc Ls (.double y :: .double x :: S))) := by
  subst hq; exact of (fun t k => XS.daddS X.here C.1 rfl (hb C.2.2.1 hd) rfl (hv ▸ hn) hv k) K
theorem dsub (X : Stand p l e R s m args below meth c T locs cells slots) (C : Cx p s m meth c Z bytes maxL own mname ret) {x y v : UInt64} (hd : decode bytes pc = .ok (.dsub, 1)) (hn : Jvm.Free.Fl.NoNaN64 v) (hv : FP.dsub x y = v) (hq : pc + 1 = q) (K : Go p e below F (T.setTop (mkF m q Ls (.double v :: S)))) : Go p e below F (T.setTop (mkF m pc Ls (.double y :: .double x :: S))) := by
  subst hq; exact of (fun t k => XS.dsubS X.here C.1 rfl (hb C.2.2.1 hd) rfl (hv ▸ hn) hv k) K
theorem dmul (X : Stand p l e R s m args below meth c T locs cells slots) (C : Cx p s m meth c Z bytes maxL own mname ret) {x y v : UInt64} (hd : decode bytes pc = .ok (.dmul, 1)) (hn : Jvm.Free.Fl.NoNaN64 v) (hv : FP.dmul x y = v) (hq : pc + 1 = q) (K : Go p e below F (T.setTop (mkF m q Ls (.double v :: S)))) : Go p e below F (T.setTop (mkF m pc Ls (.double y :: .double x :: S))) := by
  subst hq; exact of (fun t k => XS.dmulS X.here C.1 rfl (hb C.2.2.1 hd) rfl (hv ▸ hn) hv k) K
theorem ddiv (X : Stand p l e R s m args below meth c T locs cells slots) (C : Cx p s m meth c Z bytes maxL own mname ret) {x y v : UInt64} (hd : decode bytes pc = .ok (.ddiv, 1)) (hn : Jvm.Free.Fl.NoNaN64 v) (hv : FP.ddiv x y = v) (hq : pc + 1 = q) (K : Go p e below F (T.setTop (mkF m q Ls (.double v :: S)))) : Go p e below F (T.setTop (mkF m pc Ls (.double y :: .double x :: S))) := by
  subst hq; exact of (fun t k => XS.ddivS X.here C.1 rfl (hb C.2.2.1 hd) rfl (hv ▸ hn) hv k) K
theorem ldcD (X : Stand p l e R s m args below meth c T locs cells slots) (C : Cx p s m meth c Z bytes maxL own mname ret) {i : Nat} {v : UInt64} (w : (Jvm.Cond.constantDouble own i v).before a0 Z = true) (hd : decode bytes pc = .ok (.ldc2_w i, 3)) (hq : pc + 3 = q) (K : Go p e below F (T.setTop (mkF m q Ls (.double v :: S)))) : Go p e below F (T.setTop (mkF m pc Ls S)) := by
  subst hq; exact of (X.ldc2DoubleC C.1 C.2.2.2.2.1 (mvT C.2.1 w) (g := mkF m pc Ls S) rfl (hb C.2.2.1 hd)) K
theorem retD (X : Stand p l e R s m args below meth c T locs cells slots) (C : Cx p s m meth c Z bytes maxL own mname (some .double)) (eT : T.heap = h) {z : UInt64} (hd : decode bytes pc = .ok (.dreturn, 1)) {k n : Nat} (hk : cells ≤ k) (hn : slots ≤ n) {Q : Option Value → Heap → List Loc → Prop} (hQ : Q (some (.double z)) h locs) :
    Go p e below (Post s Q k n) (T.setTop (mkF m pc Ls (.double z :: rest))) := by
  obtain ⟨hx, hZ, hby, hml, hown, hnm, hret, hlk⟩ := C
  obtain ⟨fs, hr, hrun, hended, hW, hsame⟩ := X.leave (v := some (.double z)) (fun h => by rw [hret] at h; cases h)
  refine ⟨_, _, retOut X hx hret rfl (Or.inr (Or.inr (Or.inl ⟨rfl, rfl, z, rfl⟩))) (hb hby hd) hr, hrun, hended, _, _, rfl, ?_, ⟨_, rfl⟩, hW, hsame.mono hk hn⟩
  show Q _ T.heap _
  rw [eT]; exact hQ
theorem keepRefl (h : Heap) : Keep h h [] := Keep.refl h []
/-! kinds of objects -/
theorem nsRoot {O Kn : String} {n : Nat} (w : (Jvm.Cond.noSuperclass O).before a0 Z = true) (wi : (Jvm.Cond.instantiable Kn n).before a0 Z = true) (hn : O ≠ Kn) : NS Z O Kn := by
  obtain ⟨c, k, h1, h2, h3, -, -⟩ := Cond.noSuperclass_spec w
  obtain ⟨t, k2, g1, -⟩ := Cond.instantiable_spec wi
  have ne := ids_ne h1 g1 hn
  refine ⟨c, t, h1, g1, fun fuel => ?_⟩
  cases fuel with
  | zero => rfl
  | succ f => simp [Vm.isSubclassAux, ne, h2, h3]
theorem nsNo {Cn S Kn : String} {n : Nat} (w : (Jvm.Cond.superclass Cn S).before a0 Z = true) (wi : (Jvm.Cond.instantiable Kn n).before a0 Z = true) (nn : NS Z Cn Kn) (hn : Cn ≠ Kn) : ∃ c t, Z.vm.findClass Cn = some c ∧ Z.vm.findClass Kn = some t ∧ Z.vm.assignable c t = false := by
  obtain ⟨c, t, h0, g0, n3⟩ := nn
  obtain ⟨p, k, kp, h1, h2, h3, h4, h5, -, h7⟩ := Cond.superclass_spec h0 w
  obtain ⟨t', k', g1, g2, g5, g6, -⟩ := Cond.instantiable_spec wi
  cases g0.symm.trans g1
  have g7 : k'.isInterface = false := (Bool.or_eq_false_iff.mp g6).1
  have ne := ids_ne h0 g0 hn
  refine ⟨c, t, h0, g0, ?_⟩
  show Z.vm.assignableAux (255 + 1) c t = false
  simp [Vm.assignableAux, ne, h2, g2, h5, g5, g7, Vm.isSubclass, n3]
theorem cast (X : Stand p l e R s m args below meth c T locs cells slots) (C : Cx p s m meth c Z bytes maxL own mname ret) {i : Nat} {Kn : String} (w : (Jvm.Cond.classLink own i Kn).before a0 Z = true) (eT : T.heap = h) {a : Addr} (I : Ins Z h a Kn true) (hd : decode bytes pc = .ok (.checkcast i, 3)) (hq : pc + 3 = q)
    (K : ∀ (T' : State), Stand p l e R s m args below meth c T' locs cells slots → T'.heap = h → Go p e below F (T'.setTop (mkF m q Ls (.ref a :: S)))) : Go p e below F (T.setTop (mkF m pc Ls (.ref a :: S))) := by
  subst hq
  obtain ⟨T1, X1, e1, st⟩ := castY X C.1 C.2.1 C.2.2.2.2.1 w eT I (g := mkF m pc Ls (.ref a :: S)) rfl rfl (hb C.2.2.1 hd)
  exact of st (K T1 X1 e1)
theorem inst1 (X : Stand p l e R s m args below meth c T locs cells slots) (C : Cx p s m meth c Z bytes maxL own mname ret) {i : Nat} {Kn : String} (w : (Jvm.Cond.classLink own i Kn).before a0 Z = true) (eT : T.heap = h) {a : Addr} (I : Ins Z h a Kn true) (hd : decode bytes pc = .ok (.instanceof i, 3)) (hq : pc + 3 = q)
    (K : ∀ (T' : State), Stand p l e R s m args below meth c T' locs cells slots → T'.heap = h → Go p e below F (T'.setTop (mkF m q Ls (.int 1 :: S)))) : Go p e below F (T.setTop (mkF m pc Ls (.ref a :: S))) := by
  subst hq
  obtain ⟨T1, X1, e1, st⟩ := instY X C.1 C.2.1 C.2.2.2.2.1 w eT I (g := mkF m pc Ls (.ref a :: S)) rfl rfl (hb C.2.2.1 hd)
  exact of st (K T1 X1 e1)
theorem inst0 (X : Stand p l e R s m args below meth c T locs cells slots) (C : Cx p s m meth c Z bytes maxL own mname ret) {i : Nat} {Kn Cn : String} (w : (Jvm.Cond.classLink own i Kn).before a0 Z = true) (eT : T.heap = h) {a : Addr} (E : Exa Z h a Cn) (N : ∃ c t, Z.vm.findClass Cn = some c ∧ Z.vm.findClass Kn = some t ∧ Z.vm.assignable c t = false) (hd : decode bytes pc = .ok (.instanceof i, 3)) (hq : pc + 3 = q)
    (K : ∀ (T' : State), Stand p l e R s m args below meth c T' locs cells slots → T'.heap = h → Go p e below F (T'.setTop (mkF m q Ls (.int 0 :: S)))) : Go p e below F (T.setTop (mkF m pc Ls (.ref a :: S))) := by
  subst hq
  obtain ⟨T1, X1, e1, st⟩ := instNo X C.1 C.2.1 C.2.2.2.2.1 w eT E N (g := mkF m pc Ls (.ref a :: S)) rfl rfl (hb C.2.2.1 hd)
  exact of st (K T1 X1 e1)
theorem instNull (X : Stand p l e R s m args below meth c T locs cells slots) (C : Cx p s m meth c Z bytes maxL own mname ret) {i : Nat} (hd : decode bytes pc = .ok (.instanceof i, 3)) (hq : pc + 3 = q) (K : Go p e below F (T.setTop (mkF m q Ls (.int 0 :: S)))) : Go p e below F (T.setTop (mkF m pc Ls (.null :: S))) := by
  subst hq; exact of (X.instanceofNull C.1 (g := mkF m pc Ls (.null :: S)) rfl rfl (hb C.2.2.1 hd)) K
theorem castNull (X : Stand p l e R s m args below meth c T locs cells slots) (C : Cx p s m meth c Z bytes maxL own mname ret) {i : Nat} (hd : decode bytes pc = .ok (.checkcast i, 3)) (hq : pc + 3 = q) (K : Go p e below F (T.setTop (mkF m q Ls (.null :: S)))) : Go p e below F (T.setTop (mkF m pc Ls (.null :: S))) := by
  subst hq; exact of (X.checkcastNull C.1 (g := mkF m pc Ls (.null :: S)) rfl rfl (hb C.2.2.1 hd)) K
theorem acmp (X : Stand p l e R s m args below meth c T locs cells slots) (C : Cx p s m meth c Z bytes maxL own mname ret) {cd : ACond} {o : Int} {x y : Value} (h1 : x.isRef = true) (h2 : y.isRef = true) {same : Bool} (hs : decide (x = y) = same) (hd : decode bytes pc = .ok (.if_acmp cd o, 3)) (ho : 0 ≤ (pc : Int) + o) (hq : q = if acV cd same = true then ((pc : Int) + o).toNat else pc + 3) (K : Go p e below F (T.setTop (mkF m q Ls S))) : Go p e below F (T.setTop (mkF m pc Ls (y :: x :: S))) :=
  of (fun t k => Jvm.RoadKit.acmp (g := mkF m pc Ls (y :: x :: S)) X C.1 rfl h1 h2 rfl (hb C.2.2.1 hd) rfl hs ho hq k) K
end
end W
end Jvm.Pilot.@@N@@
namespace Jvm.Pilot.@@N@@
open Jvm Jvm.ClassFile Sem Op Lib Jvm.Free Jvm.Stand Jvm.LawKit Jvm.RoadKit Bundle Jvm.Pilot.@@N@@.Jvm.D
theorem d1_0 : decode prog_49_method_1_code 0 = .ok (.aload_n 0, 1) := by decide +kernel
theorem d1_1 : decode prog_49_method_1_code 1 = .ok (.invokespecial 1, 3) := by decide +kernel
theorem d1_4 : decode prog_49_method_1_code 4 = .ok (.aload_n 0, 1) := by decide +kernel
theorem d1_5 : decode prog_49_method_1_code 5 = .ok (.aload_n 1, 1) := by decide +kernel
theorem d1_6 : decode prog_49_method_1_code 6 = .ok (.putfield 7, 3) := by decide +kernel
theorem d1_9 : decode prog_49_method_1_code 9 = .ok (.aload_n 0, 1) := by decide +kernel
theorem d1_10 : decode prog_49_method_1_code 10 = .ok (.aload_n 2, 1) := by decide +kernel
theorem d1_11 : decode prog_49_method_1_code 11 = .ok (.putfield 13, 3) := by decide +kernel
theorem d1_14 : decode prog_49_method_1_code 14 = .ok (.return_, 1) := by decide +kernel
theorem pn_com_example_cranfield_cranfield_measures_RankedQuery : plainName "com/example/cranfield/cranfield/measures/RankedQuery" = true := by first | (simp [plainName, overriddenIn]; done) | decide +kernel
def Q1 (Z : State) (p0 : Addr) (p1 : Addr) (p2 : Addr) (h0 : Heap) (n0 : Nat) (v : Option Value) (h : Heap) (L : List Loc) : Prop := v = none ∧ Fr n0 L ∧ Keep h0 h [p0] ∧ Exa Z h p0 "com/example/cranfield/cranfield/measures/RankedQuery" ∧ Fld Z h p0 "com/example/cranfield/cranfield/measures/RankedQuery" "ranked" "[I" (.ref p1) ∧ Fld Z h p0 "com/example/cranfield/cranfield/measures/RankedQuery" "ideal" "[I" (.ref p2)
set_option maxRecDepth 65536 in
set_option maxHeartbeats 40000000 in
theorem rm1 (l : Launch) (Z : State) (a0 : Array Value) (hw : ∀ d ∈ tables_1, d.before a0 Z = true) (ws : List Jvm.Cond) (p0 : Addr) (p1 : Addr) (p2 : Addr) (h0 : Heap) (n0 : Nat) (Z0 : n0 ≤ h0.size) (E0 : Exa Z h0 p0 "com/example/cranfield/cranfield/measures/RankedQuery") (F0a : Fld Z h0 p0 "com/example/cranfield/cranfield/measures/RankedQuery" "ranked" "[I" .null) (F0b : Fld Z h0 p0 "com/example/cranfield/cranfield/measures/RankedQuery" "ideal" "[I" .null) (hge : n0 ≤ p0) :
    MetFree l (⟨"com/example/cranfield/cranfield/measures/RankedQuery", "<init>", "([I[I)V"⟩ : MethodName) (head1 (Jvm.Cond.code (⟨"com/example/cranfield/cranfield/measures/RankedQuery", "<init>", "([I[I)V"⟩ : MethodName) prog_49_method_1_code 3 none :: ws) ({ frames := 1, cells := 0, slots := 0, locals := 12 } : Room)) (fun a U => a = #[(.ref p0), (.ref p1), (.ref p2)] ∧ Z.Warmed39 U.vm ∧ U.heap = h0) (fun _ _ _ _ _ => True) (fun _ U o U' => ∃ v L, o = .returned v ∧ Q1 Z p0 p1 p2 h0 n0 v U'.heap L ∧ FrameEnd U o U' L ({ frames := 1, cells := 0, slots := 0, locals := 12 } : Room).cells ({ frames := 1, cells := 0, slots := 0, locals := 12 } : Room).slots) := by
  refine W.bodyOf (y := (⟨"com/example/cranfield/cranfield/measures/RankedQuery", "<init>", "([I[I)V"⟩ : MethodName)) (as := #[(.ref p0), (.ref p1), (.ref p2)]) (maxL := 3) (Q := Q1 Z p0 p1 p2 h0 n0) (Ls := #[.val (.ref p0), .val (.ref p1), .val (.ref p2)]) (plainFor_of_name pn_com_example_cranfield_cranfield_measures_RankedQuery) (fun m => by first | exact W.entry_of rfl | rfl | (simp [entryFrame, mkF, argsToLocals, Value.category]; done)) ?_
  intro p e s m below meth c T0 C X0 e0
  have N0 := Fr.nil n0
  have K0 := Keep.refl h0 [p0]
  refine W.aloadN (q := 1) X0 C d1_0 rfl rfl rfl ?_
  refine W.initObj (q := 4) X0 C (W.ww hw 8 rfl) (W.ww hw 9 rfl) (W.ww hw 10 rfl) e0 d1_1 rfl (by decide) (Nat.le_of_ble_eq_true rfl) rfl (fun T1 X1 e1 => ?_)
  refine W.aloadN (q := 5) X1 C d1_4 rfl rfl rfl ?_
  refine W.aloadN (q := 6) X1 C d1_5 rfl rfl rfl ?_
  refine W.putF (host := "") (q := 9) X1 C (Or.inl (W.ww hw 11 rfl)) Via.refl e1 F0a E0 (Or.inr ⟨(W.ww hw 12 rfl), rfl, rfl⟩) (W.ww hw 3 rfl) (ty := (.array .int)) (by decide) rfl rfl d1_6 rfl (fun T2 h2 X2 e2 W2 => ?_)
  have Fw2 := F0a.same W2
  have E0_4 := E0.wr W2
  have F0b_6 := F0b.other W2 (Or.inr (slot_ne (Or.inr (W.ww hw 14 rfl)) (Or.inr (W.ww hw 12 rfl)) (by decide) (t := (.array .int)) (t' := (.array .int)) (by decide) (by decide)))
  have N2 := Fr.snoc X2 N0 hge
  have K2 := K0.wr W2 (Or.inl (by simp))
  have n0_2 : n0 ≤ h2.size := by rw [W2.size]; exact Z0
  refine W.aloadN (q := 10) X2 C d1_9 rfl rfl rfl ?_
  refine W.aloadN (q := 11) X2 C d1_10 rfl rfl rfl ?_
  refine W.putF (host := "") (q := 14) X2 C (Or.inl (W.ww hw 13 rfl)) Via.refl e2 F0b_6 E0_4 (Or.inr ⟨(W.ww hw 14 rfl), rfl, rfl⟩) (W.ww hw 3 rfl) (ty := (.array .int)) (by decide) rfl rfl d1_11 rfl (fun T7 h7 X7 e7 W7 => ?_)
  have Fw7 := F0b_6.same W7
  have E0_9 := E0_4.wr W7
  have Fw2_10 := Fw2.other W7 (Or.inr (slot_ne (Or.inr (W.ww hw 12 rfl)) (Or.inr (W.ww hw 14 rfl)) (by decide) (t := (.array .int)) (t' := (.array .int)) (by decide) (by decide)))
  have N7 := Fr.snoc X7 N2 hge
  have K7 := K2.wr W7 (Or.inl (by simp))
  have n0_7 : n0 ≤ h7.size := by rw [W7.size]; exact n0_2
  exact W.retV X7 C e7 d1_14 (by decide) (by decide) ⟨rfl, N7, K7, E0_9, Fw2_10, Fw7⟩
def own_tab : Bool → Bool → Bool → Bool → UInt64
  | false, false, false, false => 0
  | false, false, false, true => 4598175219545276416
  | false, false, true, false => 4599676419421066581
  | false, false, true, true => 4605681218924227242
  | false, true, false, false => 4602678819172646912
  | false, true, false, true => 4607182418800017408
  | false, true, true, false => 4607933018737912490
  | false, true, true, true => 4611310718458440362
  | true, false, false, false => 4607182418800017408
  | true, false, false, true => 4609434218613702656
  | true, false, true, false => 4610184818551597738
  | true, false, true, true => 4612624268349756757
  | true, true, false, false => 4611686018427387904
  | true, true, false, true => 4613374868287651840
  | true, true, true, false => 4613937818241073152
  | true, true, true, true => 4616189618054758400
def own_div (s : UInt64) (m : Int32) : UInt64 := if m = 0 then 0 else FP.ddiv s (FP.i2d m)
theorem own_le {x : Int32} (h : x.toInt ≤ (0 : Int32).toInt) : ¬ 0 < x.toInt := by have : (0 : Int32).toInt = 0 := rfl; omega
theorem own_lt {x : Int32} (h : (0 : Int32).toInt < x.toInt) : 0 < x.toInt := h
def own_pos (x : Int32) : Bool := decide (0 < x.toInt)
theorem own_pf {x : Int32} (h : x.toInt ≤ (0 : Int32).toInt) : own_pos x = false := decide_eq_false (own_le h)
theorem own_pt {x : Int32} (h : (0 : Int32).toInt < x.toInt) : own_pos x = true := decide_eq_true (own_lt h)
instance (r : UInt64) : Decidable (Jvm.Free.Fl.NoNaN64 r) := inferInstanceAs (Decidable (_ ≤ _))
theorem own_nn_all : ∀ b0 b1 b2 b3 : Bool, ∀ m : Fin 8, m.1 = 0 ∨ Jvm.Free.Fl.NoNaN64 (FP.ddiv (own_tab b0 b1 b2 b3) (FP.i2d (Int32.ofInt (m.1 : Int)))) := by decide +kernel
theorem own_nn (b0 b1 b2 b3 : Bool) (m : Int32) (h0 : m ≠ 0) (h1 : 0 ≤ m.toInt) (h2 : m.toInt ≤ 7) : Jvm.Free.Fl.NoNaN64 (FP.ddiv (own_tab b0 b1 b2 b3) (FP.i2d m)) := by
  have q : m = 0 ∨ Jvm.Free.Fl.NoNaN64 (FP.ddiv (own_tab b0 b1 b2 b3) (FP.i2d m)) := by
    refine W.small (P := fun m => m = 0 ∨ Jvm.Free.Fl.NoNaN64 (FP.ddiv (own_tab b0 b1 b2 b3) (FP.i2d m))) 7 (fun i => ?_) m h1 h2
    rcases own_nn_all b0 b1 b2 b3 i with q | q
    · left; rw [q]; rfl
    · right; exact q
  exact q.resolve_left h0
theorem own_07 (x v : Int32) (h : (((x.toUInt32 >>> ((8 : Int32) &&& 31).toUInt32).toInt32) &&& (7 : Int32)) = v) : 0 ≤ v.toInt ∧ v.toInt ≤ 7 := by
  have a1 := c_mask ((x.toUInt32 >>> ((8 : Int32) &&& 31).toUInt32).toInt32) 7 3 (by decide) (by decide)
  rw [h] at a1; omega
theorem own_04 (x v : Int32) (h : ((x &&& (2147483647 : Int32)) % (5 : Int32)) = v) : v = 0 ∨ v = 1 ∨ v = 2 ∨ v = 3 ∨ v = 4 := by
  have a1 := c_mask x 2147483647 31 (by decide) (by decide)
  have a2 := (c_irem (x &&& 2147483647) 5 5 (by decide)).1 (by omega)
  rw [h] at a2
  exact W.small (P := fun v => v = 0 ∨ v = 1 ∨ v = 2 ∨ v = 3 ∨ v = 4) 4 (by decide +kernel) v (by omega) (by omega)
theorem d3_0 : decode prog_49_method_4_code 0 = .ok (.aload_n 0, 1) := by decide +kernel
theorem d3_1 : decode prog_49_method_4_code 1 = .ok (.getfield 13, 3) := by decide +kernel
theorem d3_4 : decode prog_49_method_4_code 4 = .ok (.arraylength, 1) := by decide +kernel
theorem d3_5 : decode prog_49_method_4_code 5 = .ok (.ifCond .ne 5, 3) := by decide +kernel
theorem d3_10 : decode prog_49_method_4_code 10 = .ok (.dconst 0, 1) := by decide +kernel
theorem d3_11 : decode prog_49_method_4_code 11 = .ok (.dstore_n 1, 1) := by decide +kernel
theorem d3_12 : decode prog_49_method_4_code 12 = .ok (.iconst 0, 1) := by decide +kernel
theorem d3_13 : decode prog_49_method_4_code 13 = .ok (.istore_n 3, 1) := by decide +kernel
theorem d3_14 : decode prog_49_method_4_code 14 = .ok (.iconst 0, 1) := by decide +kernel
theorem d3_15 : decode prog_49_method_4_code 15 = .ok (.istore 4, 2) := by decide +kernel
theorem d3_17 : decode prog_49_method_4_code 17 = .ok (.iload 4, 2) := by decide +kernel
theorem d3_19 : decode prog_49_method_4_code 19 = .ok (.aload_n 0, 1) := by decide +kernel
theorem d3_20 : decode prog_49_method_4_code 20 = .ok (.getfield 7, 3) := by decide +kernel
theorem d3_23 : decode prog_49_method_4_code 23 = .ok (.arraylength, 1) := by decide +kernel
theorem d3_24 : decode prog_49_method_4_code 24 = .ok (.if_icmp .ge 33, 3) := by decide +kernel
theorem d3_57 : decode prog_49_method_4_code 57 = .ok (.dload_n 1, 1) := by decide +kernel
theorem d3_58 : decode prog_49_method_4_code 58 = .ok (.aload_n 0, 1) := by decide +kernel
theorem d3_59 : decode prog_49_method_4_code 59 = .ok (.getfield 13, 3) := by decide +kernel
theorem d3_62 : decode prog_49_method_4_code 62 = .ok (.arraylength, 1) := by decide +kernel
theorem d3_63 : decode prog_49_method_4_code 63 = .ok (.i2d, 1) := by decide +kernel
theorem d3_64 : decode prog_49_method_4_code 64 = .ok (.ddiv, 1) := by decide +kernel
theorem d3_65 : decode prog_49_method_4_code 65 = .ok (.dreturn, 1) := by decide +kernel
theorem d3_8 : decode prog_49_method_4_code 8 = .ok (.dconst 0, 1) := by decide +kernel
theorem d3_9 : decode prog_49_method_4_code 9 = .ok (.dreturn, 1) := by decide +kernel
def Q3_0 (Z : State) (p0 : Addr) (ra ia : Addr) (k0 k1 : ClassId) (mm : Int32) (vi : List Value) (h0 : Heap) (n0 : Nat) (v : Option Value) (h : Heap) (L : List Loc) : Prop := v = some (.double (own_div (own_tab false false false false) mm)) ∧ Fr n0 L ∧ h = h0
set_option maxRecDepth 65536 in
set_option maxHeartbeats 40000000 in
theorem rm3_0 (l : Launch) (Z : State) (a0 : Array Value) (hw : ∀ d ∈ tables_1, d.before a0 Z = true) (ws : List Jvm.Cond) (p0 : Addr) (ra ia : Addr) (k0 k1 : ClassId) (mm : Int32) (vi : List Value) (h0 : Heap) (n0 : Nat) (F0 : Fld Z h0 p0 "com/example/cranfield/cranfield/measures/RankedQuery" "ranked" "[I" (.ref ra)) (G0 : Fld Z h0 p0 "com/example/cranfield/cranfield/measures/RankedQuery" "ideal" "[I" (.ref ia)) (V0 : Arv Z h0 ra k0 .int (0 : Int32) [] (.int (0 : Int32))) (V1 : Arv Z h0 ia k1 .int mm vi (.int (0 : Int32))) (hm : 0 ≤ mm.toInt ∧ mm.toInt ≤ 7) :
    MetFree l (⟨"com/example/cranfield/cranfield/measures/RankedQuery", "averagePrecision", "()D"⟩ : MethodName) (head1 (Jvm.Cond.code (⟨"com/example/cranfield/cranfield/measures/RankedQuery", "averagePrecision", "()D"⟩ : MethodName) prog_49_method_4_code 5 (some .double) :: ws) ({ frames := 0, cells := 0, slots := 0, locals := 0 } : Room)) (fun a U => a = #[(.ref p0)] ∧ Z.Warmed39 U.vm ∧ U.heap = h0) (fun _ _ _ _ _ => True) (fun _ U o U' => ∃ v L, o = .returned v ∧ Q3_0 Z p0 ra ia k0 k1 mm vi h0 n0 v U'.heap L ∧ FrameEnd U o U' L ({ frames := 0, cells := 0, slots := 0, locals := 0 } : Room).cells ({ frames := 0, cells := 0, slots := 0, locals := 0 } : Room).slots) := by
  refine W.bodyOf (y := (⟨"com/example/cranfield/cranfield/measures/RankedQuery", "averagePrecision", "()D"⟩ : MethodName)) (as := #[(.ref p0)]) (maxL := 5) (Q := Q3_0 Z p0 ra ia k0 k1 mm vi h0 n0) (Ls := #[.val (.ref p0), .unset, .unset, .unset, .unset]) (plainFor_of_name pn_com_example_cranfield_cranfield_measures_RankedQuery) (fun m => by first | exact W.entry_of rfl | rfl | (simp [entryFrame, mkF, argsToLocals, Value.category]; done)) ?_
  intro p e s m below meth c T0 C X0 e0
  have N0 := Fr.nil n0
  refine W.aloadN (q := 1) X0 C d3_0 rfl rfl rfl ?_
  refine W.getF (host := "") (q := 4) X0 C (Or.inl (W.ww hw 13 rfl)) Via.refl e0 G0 d3_1 rfl (fun T12 X12 e12 => ?_)
  refine W.arraylength (q := 5) X12 C e12 V1 d3_4 rfl ?_
  refine W.if_ (q := 10) (q' := 8) X12 C d3_5 (by decide) (by decide) rfl (fun hc13 => ?_) (fun hc13 => ?_)
  · replace hc13 : mm ≠ 0 := hc13
    refine W.dconst0 (q := 11) (v := 0) X12 C d3_10 rfl rfl ?_
    refine W.dstoreN (q := 12) (L' := #[.val (.ref p0), .val (.double (0 : UInt64)), .second, .unset, .unset]) X12 C d3_11 rfl rfl ?_
    refine W.iconst (q := 13) (v := 0) X12 C d3_12 rfl rfl ?_
    refine W.istoreN (q := 14) (L' := #[.val (.ref p0), .val (.double (0 : UInt64)), .second, .val (.int (0 : Int32)), .unset]) X12 C d3_13 rfl rfl ?_
    refine W.iconst (q := 15) (v := 0) X12 C d3_14 rfl rfl ?_
    refine W.istore (q := 17) (L' := #[.val (.ref p0), .val (.double (0 : UInt64)), .second, .val (.int (0 : Int32)), .val (.int (0 : Int32))]) X12 C d3_15 rfl rfl ?_
    refine W.iload (q := 19) X12 C d3_17 rfl rfl ?_
    refine W.aloadN (q := 20) X12 C d3_19 rfl rfl rfl ?_
    refine W.getF (host := "") (q := 23) X12 C (Or.inl (W.ww hw 11 rfl)) Via.refl e12 F0 d3_20 rfl (fun T14 X14 e14 => ?_)
    refine W.arraylength (q := 24) X14 C e14 V0 d3_23 rfl ?_
    refine W.icmpT (q := 57) X14 C d3_24 (by decide) (by decide) (by decide : W.cT .ge (0 : Int32) (0 : Int32)) ?_
    refine W.dloadN (q := 58) X14 C d3_57 rfl rfl ?_
    refine W.aloadN (q := 59) X14 C d3_58 rfl rfl rfl ?_
    refine W.getF (host := "") (q := 62) X14 C (Or.inl (W.ww hw 13 rfl)) Via.refl e14 G0 d3_59 rfl (fun T15 X15 e15 => ?_)
    refine W.arraylength (q := 63) X15 C e15 V1 d3_62 rfl ?_
    refine W.i2d (q := 64) (v := FP.i2d mm) X15 C d3_63 rfl rfl ?_
    refine W.ddiv (q := 65) (v := FP.ddiv (0 : UInt64) (FP.i2d mm)) X15 C d3_64 (own_nn false false false false mm hc13 hm.1 hm.2) rfl rfl ?_
    exact W.retD X15 C e15 d3_65 (by decide) (by decide) ⟨by rw [own_div, if_neg hc13]; rfl, N0, rfl⟩
  · replace hc13 : mm = 0 := hc13
    refine W.dconst0 (q := 9) (v := 0) X12 C d3_8 rfl rfl ?_
    exact W.retD X12 C e12 d3_9 (by decide) (by decide) ⟨by rw [own_div, if_pos hc13], N0, rfl⟩
theorem d3_27 : decode prog_49_method_4_code 27 = .ok (.aload_n 0, 1) := by decide +kernel
theorem d3_28 : decode prog_49_method_4_code 28 = .ok (.getfield 7, 3) := by decide +kernel
theorem d3_31 : decode prog_49_method_4_code 31 = .ok (.iload 4, 2) := by decide +kernel
theorem d3_33 : decode prog_49_method_4_code 33 = .ok (.iaload, 1) := by decide +kernel
theorem d3_34 : decode prog_49_method_4_code 34 = .ok (.ifCond .le 17, 3) := by decide +kernel
theorem d3_51 : decode prog_49_method_4_code 51 = .ok (.iinc 4 1, 3) := by decide +kernel
theorem d3_54 : decode prog_49_method_4_code 54 = .ok (.goto (-37), 3) := by decide +kernel
theorem d3_37 : decode prog_49_method_4_code 37 = .ok (.iinc 3 1, 3) := by decide +kernel
theorem d3_40 : decode prog_49_method_4_code 40 = .ok (.dload_n 1, 1) := by decide +kernel
theorem d3_41 : decode prog_49_method_4_code 41 = .ok (.iload_n 3, 1) := by decide +kernel
theorem d3_42 : decode prog_49_method_4_code 42 = .ok (.i2d, 1) := by decide +kernel
theorem d3_43 : decode prog_49_method_4_code 43 = .ok (.iload 4, 2) := by decide +kernel
theorem d3_45 : decode prog_49_method_4_code 45 = .ok (.iconst 1, 1) := by decide +kernel
theorem d3_46 : decode prog_49_method_4_code 46 = .ok (.iadd, 1) := by decide +kernel
theorem d3_47 : decode prog_49_method_4_code 47 = .ok (.i2d, 1) := by decide +kernel
theorem d3_48 : decode prog_49_method_4_code 48 = .ok (.ddiv, 1) := by decide +kernel
theorem d3_49 : decode prog_49_method_4_code 49 = .ok (.dadd, 1) := by decide +kernel
theorem d3_50 : decode prog_49_method_4_code 50 = .ok (.dstore_n 1, 1) := by decide +kernel
def Q3_1 (Z : State) (p0 : Addr) (ra ia : Addr) (k0 k1 : ClassId) (mm : Int32) (vi : List Value) (x0 : Int32) (h0 : Heap) (n0 : Nat) (v : Option Value) (h : Heap) (L : List Loc) : Prop := v = some (.double (own_div (own_tab (own_pos x0) false false false) mm)) ∧ Fr n0 L ∧ h = h0
set_option maxRecDepth 65536 in
set_option maxHeartbeats 40000000 in
theorem rm3_1 (l : Launch) (Z : State) (a0 : Array Value) (hw : ∀ d ∈ tables_1, d.before a0 Z = true) (ws : List Jvm.Cond) (p0 : Addr) (ra ia : Addr) (k0 k1 : ClassId) (mm : Int32) (vi : List Value) (x0 : Int32) (h0 : Heap) (n0 : Nat) (F0 : Fld Z h0 p0 "com/example/cranfield/cranfield/measures/RankedQuery" "ranked" "[I" (.ref ra)) (G0 : Fld Z h0 p0 "com/example/cranfield/cranfield/measures/RankedQuery" "ideal" "[I" (.ref ia)) (V0 : Arv Z h0 ra k0 .int (1 : Int32) [(.int x0)] (.int (0 : Int32))) (V1 : Arv Z h0 ia k1 .int mm vi (.int (0 : Int32))) (hm : 0 ≤ mm.toInt ∧ mm.toInt ≤ 7) :
    MetFree l (⟨"com/example/cranfield/cranfield/measures/RankedQuery", "averagePrecision", "()D"⟩ : MethodName) (head1 (Jvm.Cond.code (⟨"com/example/cranfield/cranfield/measures/RankedQuery", "averagePrecision", "()D"⟩ : MethodName) prog_49_method_4_code 5 (some .double) :: ws) ({ frames := 0, cells := 0, slots := 0, locals := 0 } : Room)) (fun a U => a = #[(.ref p0)] ∧ Z.Warmed39 U.vm ∧ U.heap = h0) (fun _ _ _ _ _ => True) (fun _ U o U' => ∃ v L, o = .returned v ∧ Q3_1 Z p0 ra ia k0 k1 mm vi x0 h0 n0 v U'.heap L ∧ FrameEnd U o U' L ({ frames := 0, cells := 0, slots := 0, locals := 0 } : Room).cells ({ frames := 0, cells := 0, slots := 0, locals := 0 } : Room).slots) := by
  refine W.bodyOf (y := (⟨"com/example/cranfield/cranfield/measures/RankedQuery", "averagePrecision", "()D"⟩ : MethodName)) (as := #[(.ref p0)]) (maxL := 5) (Q := Q3_1 Z p0 ra ia k0 k1 mm vi x0 h0 n0) (Ls := #[.val (.ref p0), .unset, .unset, .unset, .unset]) (plainFor_of_name pn_com_example_cranfield_cranfield_measures_RankedQuery) (fun m => by first | exact W.entry_of rfl | rfl | (simp [entryFrame, mkF, argsToLocals, Value.category]; done)) ?_
  intro p e s m below meth c T0 C X0 e0
  have N0 := Fr.nil n0
  refine W.aloadN (q := 1) X0 C d3_0 rfl rfl rfl ?_
  refine W.getF (host := "") (q := 4) X0 C (Or.inl (W.ww hw 13 rfl)) Via.refl e0 G0 d3_1 rfl (fun T16 X16 e16 => ?_)
  refine W.arraylength (q := 5) X16 C e16 V1 d3_4 rfl ?_
  refine W.if_ (q := 10) (q' := 8) X16 C d3_5 (by decide) (by decide) rfl (fun hc17 => ?_) (fun hc17 => ?_)
  · replace hc17 : mm ≠ 0 := hc17
    refine W.dconst0 (q := 11) (v := 0) X16 C d3_10 rfl rfl ?_
    refine W.dstoreN (q := 12) (L' := #[.val (.ref p0), .val (.double (0 : UInt64)), .second, .unset, .unset]) X16 C d3_11 rfl rfl ?_
    refine W.iconst (q := 13) (v := 0) X16 C d3_12 rfl rfl ?_
    refine W.istoreN (q := 14) (L' := #[.val (.ref p0), .val (.double (0 : UInt64)), .second, .val (.int (0 : Int32)), .unset]) X16 C d3_13 rfl rfl ?_
    refine W.iconst (q := 15) (v := 0) X16 C d3_14 rfl rfl ?_
    refine W.istore (q := 17) (L' := #[.val (.ref p0), .val (.double (0 : UInt64)), .second, .val (.int (0 : Int32)), .val (.int (0 : Int32))]) X16 C d3_15 rfl rfl ?_
    refine W.iload (q := 19) X16 C d3_17 rfl rfl ?_
    refine W.aloadN (q := 20) X16 C d3_19 rfl rfl rfl ?_
    refine W.getF (host := "") (q := 23) X16 C (Or.inl (W.ww hw 11 rfl)) Via.refl e16 F0 d3_20 rfl (fun T18 X18 e18 => ?_)
    refine W.arraylength (q := 24) X18 C e18 V0 d3_23 rfl ?_
    refine W.icmpF (q := 27) X18 C d3_24 rfl (by decide : W.cF .ge (0 : Int32) (1 : Int32)) ?_
    refine W.aloadN (q := 28) X18 C d3_27 rfl rfl rfl ?_
    refine W.getF (host := "") (q := 31) X18 C (Or.inl (W.ww hw 11 rfl)) Via.refl e18 F0 d3_28 rfl (fun T19 X19 e19 => ?_)
    refine W.iload (q := 33) X19 C d3_31 rfl rfl ?_
    refine W.iaload (q := 34) X19 C e19 V0 (by decide) (by decide) rfl d3_33 rfl ?_
    refine W.if_ (q := 51) (q' := 37) X19 C d3_34 (by decide) (by decide) rfl (fun hc20 => ?_) (fun hc20 => ?_)
    · replace hc20 : x0.toInt ≤ (0 : Int32).toInt := hc20
      refine W.iinc (q := 54) (L' := #[.val (.ref p0), .val (.double (0 : UInt64)), .second, .val (.int (0 : Int32)), .val (.int (1 : Int32))]) X19 C d3_51 rfl (by decide) rfl rfl ?_
      refine W.goto (q := 17) X19 C d3_54 (by decide) (by decide) ?_
      refine W.iload (q := 19) X19 C d3_17 rfl rfl ?_
      refine W.aloadN (q := 20) X19 C d3_19 rfl rfl rfl ?_
      refine W.getF (host := "") (q := 23) X19 C (Or.inl (W.ww hw 11 rfl)) Via.refl e19 F0 d3_20 rfl (fun T21 X21 e21 => ?_)
      refine W.arraylength (q := 24) X21 C e21 V0 d3_23 rfl ?_
      refine W.icmpT (q := 57) X21 C d3_24 (by decide) (by decide) (by decide : W.cT .ge (1 : Int32) (1 : Int32)) ?_
      refine W.dloadN (q := 58) X21 C d3_57 rfl rfl ?_
      refine W.aloadN (q := 59) X21 C d3_58 rfl rfl rfl ?_
      refine W.getF (host := "") (q := 62) X21 C (Or.inl (W.ww hw 13 rfl)) Via.refl e21 G0 d3_59 rfl (fun T22 X22 e22 => ?_)
      refine W.arraylength (q := 63) X22 C e22 V1 d3_62 rfl ?_
      refine W.i2d (q := 64) (v := FP.i2d mm) X22 C d3_63 rfl rfl ?_
      refine W.ddiv (q := 65) (v := FP.ddiv (0 : UInt64) (FP.i2d mm)) X22 C d3_64 (own_nn false false false false mm hc17 hm.1 hm.2) rfl rfl ?_
      exact W.retD X22 C e22 d3_65 (by decide) (by decide) ⟨by rw [own_div, if_neg hc17, own_pf hc20]; rfl, N0, rfl⟩
    · replace hc20 : (0 : Int32).toInt < x0.toInt := hc20
      refine W.iinc (q := 40) (L' := #[.val (.ref p0), .val (.double (0 : UInt64)), .second, .val (.int (1 : Int32)), .val (.int (0 : Int32))]) X19 C d3_37 rfl (by decide) rfl rfl ?_
      refine W.dloadN (q := 41) X19 C d3_40 rfl rfl ?_
      refine W.iloadN (q := 42) X19 C d3_41 rfl rfl ?_
      refine W.i2d (q := 43) (v := 4607182418800017408) X19 C d3_42 (by decide +kernel) rfl ?_
      refine W.iload (q := 45) X19 C d3_43 rfl rfl ?_
      refine W.iconst (q := 46) (v := 1) X19 C d3_45 rfl rfl ?_
      refine W.iadd (q := 47) X19 C d3_46 rfl ?_
      rw [show ((0 : Int32) + (1 : Int32)) = (1 : Int32) by decide]
      refine W.i2d (q := 48) (v := 4607182418800017408) X19 C d3_47 (by decide +kernel) rfl ?_
      refine W.ddiv (q := 49) (v := 4607182418800017408) X19 C d3_48 (by decide +kernel) (by decide +kernel) rfl ?_
      refine W.dadd (q := 50) (v := 4607182418800017408) X19 C d3_49 (by decide +kernel) (by decide +kernel) rfl ?_
      refine W.dstoreN (q := 51) (L' := #[.val (.ref p0), .val (.double (4607182418800017408 : UInt64)), .second, .val (.int (1 : Int32)), .val (.int (0 : Int32))]) X19 C d3_50 rfl rfl ?_
      refine W.iinc (q := 54) (L' := #[.val (.ref p0), .val (.double (4607182418800017408 : UInt64)), .second, .val (.int (1 : Int32)), .val (.int (1 : Int32))]) X19 C d3_51 rfl (by decide) rfl rfl ?_
      refine W.goto (q := 17) X19 C d3_54 (by decide) (by decide) ?_
      refine W.iload (q := 19) X19 C d3_17 rfl rfl ?_
      refine W.aloadN (q := 20) X19 C d3_19 rfl rfl rfl ?_
      refine W.getF (host := "") (q := 23) X19 C (Or.inl (W.ww hw 11 rfl)) Via.refl e19 F0 d3_20 rfl (fun T23 X23 e23 => ?_)
      refine W.arraylength (q := 24) X23 C e23 V0 d3_23 rfl ?_
      refine W.icmpT (q := 57) X23 C d3_24 (by decide) (by decide) (by decide : W.cT .ge (1 : Int32) (1 : Int32)) ?_
      refine W.dloadN (q := 58) X23 C d3_57 rfl rfl ?_
      refine W.aloadN (q := 59) X23 C d3_58 rfl rfl rfl ?_
      refine W.getF (host := "") (q := 62) X23 C (Or.inl (W.ww hw 13 rfl)) Via.refl e23 G0 d3_59 rfl (fun T24 X24 e24 => ?_)
      refine W.arraylength (q := 63) X24 C e24 V1 d3_62 rfl ?_
      refine W.i2d (q := 64) (v := FP.i2d mm) X24 C d3_63 rfl rfl ?_
      refine W.ddiv (q := 65) (v := FP.ddiv (4607182418800017408 : UInt64) (FP.i2d mm)) X24 C d3_64 (own_nn true false false false mm hc17 hm.1 hm.2) rfl rfl ?_
      exact W.retD X24 C e24 d3_65 (by decide) (by decide) ⟨by rw [own_div, if_neg hc17, own_pt hc20]; rfl, N0, rfl⟩
  · replace hc17 : mm = 0 := hc17
    refine W.dconst0 (q := 9) (v := 0) X16 C d3_8 rfl rfl ?_
    exact W.retD X16 C e16 d3_9 (by decide) (by decide) ⟨by rw [own_div, if_pos hc17], N0, rfl⟩
def Q3_2 (Z : State) (p0 : Addr) (ra ia : Addr) (k0 k1 : ClassId) (mm : Int32) (vi : List Value) (x0 : Int32) (x1 : Int32) (h0 : Heap) (n0 : Nat) (v : Option Value) (h : Heap) (L : List Loc) : Prop := v = some (.double (own_div (own_tab (own_pos x0) (own_pos x1) false false) mm)) ∧ Fr n0 L ∧ h = h0
set_option maxRecDepth 65536 in
set_option maxHeartbeats 40000000 in
theorem rm3_2 (l : Launch) (Z : State) (a0 : Array Value) (hw : ∀ d ∈ tables_1, d.before a0 Z = true) (ws : List Jvm.Cond) (p0 : Addr) (ra ia : Addr) (k0 k1 : ClassId) (mm : Int32) (vi : List Value) (x0 : Int32) (x1 : Int32) (h0 : Heap) (n0 : Nat) (F0 : Fld Z h0 p0 "com/example/cranfield/cranfield/measures/RankedQuery" "ranked" "[I" (.ref ra)) (G0 : Fld Z h0 p0 "com/example/cranfield/cranfield/measures/RankedQuery" "ideal" "[I" (.ref ia)) (V0 : Arv Z h0 ra k0 .int (2 : Int32) [(.int x0), (.int x1)] (.int (0 : Int32))) (V1 : Arv Z h0 ia k1 .int mm vi (.int (0 : Int32))) (hm : 0 ≤ mm.toInt ∧ mm.toInt ≤ 7) :
    MetFree l (⟨"com/example/cranfield/cranfield/measures/RankedQuery", "averagePrecision", "()D"⟩ : MethodName) (head1 (Jvm.Cond.code (⟨"com/example/cranfield/cranfield/measures/RankedQuery", "averagePrecision", "()D"⟩ : MethodName) prog_49_method_4_code 5 (some .double) :: ws) ({ frames := 0, cells := 0, slots := 0, locals := 0 } : Room)) (fun a U => a = #[(.ref p0)] ∧ Z.Warmed39 U.vm ∧ U.heap = h0) (fun _ _ _ _ _ => True) (fun _ U o U' => ∃ v L, o = .returned v ∧ Q3_2 Z p0 ra ia k0 k1 mm vi x0 x1 h0 n0 v U'.heap L ∧ FrameEnd U o U' L ({ frames := 0, cells := 0, slots := 0, locals := 0 } : Room).cells ({ frames := 0, cells := 0, slots := 0, locals := 0 } : Room).slots) := by
  refine W.bodyOf (y := (⟨"com/example/cranfield/cranfield/measures/RankedQuery", "averagePrecision", "()D"⟩ : MethodName)) (as := #[(.ref p0)]) (maxL := 5) (Q := Q3_2 Z p0 ra ia k0 k1 mm vi x0 x1 h0 n0) (Ls := #[.val (.ref p0), .unset, .unset, .unset, .unset]) (plainFor_of_name pn_com_example_cranfield_cranfield_measures_RankedQuery) (fun m => by first | exact W.entry_of rfl | rfl | (simp [entryFrame, mkF, argsToLocals, Value.category]; done)) ?_
  intro p e s m below meth c T0 C X0 e0
  have N0 := Fr.nil n0
  refine W.aloadN (q := 1) X0 C d3_0 rfl rfl rfl ?_
  refine W.getF (host := "") (q := 4) X0 C (Or.inl (W.ww hw 13 rfl)) Via.refl e0 G0 d3_1 rfl (fun T25 X25 e25 => ?_)
  refine W.arraylength (q := 5) X25 C e25 V1 d3_4 rfl ?_
  refine W.if_ (q := 10) (q' := 8) X25 C d3_5 (by decide) (by decide) rfl (fun hc26 => ?_) (fun hc26 => ?_)
  · replace hc26 : mm ≠ 0 := hc26
    refine W.dconst0 (q := 11) (v := 0) X25 C d3_10 rfl rfl ?_
    refine W.dstoreN (q := 12) (L' := #[.val (.ref p0), .val (.double (0 : UInt64)), .second, .unset, .unset]) X25 C d3_11 rfl rfl ?_
    refine W.iconst (q := 13) (v := 0) X25 C d3_12 rfl rfl ?_
    refine W.istoreN (q := 14) (L' := #[.val (.ref p0), .val (.double (0 : UInt64)), .second, .val (.int (0 : Int32)), .unset]) X25 C d3_13 rfl rfl ?_
    refine W.iconst (q := 15) (v := 0) X25 C d3_14 rfl rfl ?_
    refine W.istore (q := 17) (L' := #[.val (.ref p0), .val (.double (0 : UInt64)), .second, .val (.int (0 : Int32)), .val (.int (0 : Int32))]) X25 C d3_15 rfl rfl ?_
    refine W.iload (q := 19) X25 C d3_17 rfl rfl ?_
    refine W.aloadN (q := 20) X25 C d3_19 rfl rfl rfl ?_
    refine W.getF (host := "") (q := 23) X25 C (Or.inl (W.ww hw 11 rfl)) Via.refl e25 F0 d3_20 rfl (fun T27 X27 e27 => ?_)
    refine W.arraylength (q := 24) X27 C e27 V0 d3_23 rfl ?_
    refine W.icmpF (q := 27) X27 C d3_24 rfl (by decide : W.cF .ge (0 : Int32) (2 : Int32)) ?_
    refine W.aloadN (q := 28) X27 C d3_27 rfl rfl rfl ?_
    refine W.getF (host := "") (q := 31) X27 C (Or.inl (W.ww hw 11 rfl)) Via.refl e27 F0 d3_28 rfl (fun T28 X28 e28 => ?_)
    refine W.iload (q := 33) X28 C d3_31 rfl rfl ?_
    refine W.iaload (q := 34) X28 C e28 V0 (by decide) (by decide) rfl d3_33 rfl ?_
    refine W.if_ (q := 51) (q' := 37) X28 C d3_34 (by decide) (by decide) rfl (fun hc29 => ?_) (fun hc29 => ?_)
    · replace hc29 : x0.toInt ≤ (0 : Int32).toInt := hc29
      refine W.iinc (q := 54) (L' := #[.val (.ref p0), .val (.double (0 : UInt64)), .second, .val (.int (0 : Int32)), .val (.int (1 : Int32))]) X28 C d3_51 rfl (by decide) rfl rfl ?_
      refine W.goto (q := 17) X28 C d3_54 (by decide) (by decide) ?_
      refine W.iload (q := 19) X28 C d3_17 rfl rfl ?_
      refine W.aloadN (q := 20) X28 C d3_19 rfl rfl rfl ?_
      refine W.getF (host := "") (q := 23) X28 C (Or.inl (W.ww hw 11 rfl)) Via.refl e28 F0 d3_20 rfl (fun T30 X30 e30 => ?_)
      refine W.arraylength (q := 24) X30 C e30 V0 d3_23 rfl ?_
      refine W.icmpF (q := 27) X30 C d3_24 rfl (by decide : W.cF .ge (1 : Int32) (2 : Int32)) ?_
      refine W.aloadN (q := 28) X30 C d3_27 rfl rfl rfl ?_
      refine W.getF (host := "") (q := 31) X30 C (Or.inl (W.ww hw 11 rfl)) Via.refl e30 F0 d3_28 rfl (fun T31 X31 e31 => ?_)
      refine W.iload (q := 33) X31 C d3_31 rfl rfl ?_
      refine W.iaload (q := 34) X31 C e31 V0 (by decide) (by decide) rfl d3_33 rfl ?_
      refine W.if_ (q := 51) (q' := 37) X31 C d3_34 (by decide) (by decide) rfl (fun hc32 => ?_) (fun hc32 => ?_)
      · replace hc32 : x1.toInt ≤ (0 : Int32).toInt := hc32
        refine W.iinc (q := 54) (L' := #[.val (.ref p0), .val (.double (0 : UInt64)), .second, .val (.int (0 : Int32)), .val (.int (2 : Int32))]) X31 C d3_51 rfl (by decide) rfl rfl ?_
        refine W.goto (q := 17) X31 C d3_54 (by decide) (by decide) ?_
        refine W.iload (q := 19) X31 C d3_17 rfl rfl ?_
        refine W.aloadN (q := 20) X31 C d3_19 rfl rfl rfl ?_
        refine W.getF (host := "") (q := 23) X31 C (Or.inl (W.ww hw 11 rfl)) Via.refl e31 F0 d3_20 rfl (fun T33 X33 e33 => ?_)
        refine W.arraylength (q := 24) X33 C e33 V0 d3_23 rfl ?_
        refine W.icmpT (q := 57) X33 C d3_24 (by decide) (by decide) (by decide : W.cT .ge (2 : Int32) (2 : Int32)) ?_
        refine W.dloadN (q := 58) X33 C d3_57 rfl rfl ?_
        refine W.aloadN (q := 59) X33 C d3_58 rfl rfl rfl ?_
        refine W.getF (host := "") (q := 62) X33 C (Or.inl (W.ww hw 13 rfl)) Via.refl e33 G0 d3_59 rfl (fun T34 X34 e34 => ?_)
        refine W.arraylength (q := 63) X34 C e34 V1 d3_62 rfl ?_
        refine W.i2d (q := 64) (v := FP.i2d mm) X34 C d3_63 rfl rfl ?_
        refine W.ddiv (q := 65) (v := FP.ddiv (0 : UInt64) (FP.i2d mm)) X34 C d3_64 (own_nn false false false false mm hc26 hm.1 hm.2) rfl rfl ?_
        exact W.retD X34 C e34 d3_65 (by decide) (by decide) ⟨by rw [own_div, if_neg hc26, own_pf hc29, own_pf hc32]; rfl, N0, rfl⟩
      · replace hc32 : (0 : Int32).toInt < x1.toInt := hc32
        refine W.iinc (q := 40) (L' := #[.val (.ref p0), .val (.double (0 : UInt64)), .second, .val (.int (1 : Int32)), .val (.int (1 : Int32))]) X31 C d3_37 rfl (by decide) rfl rfl ?_
        refine W.dloadN (q := 41) X31 C d3_40 rfl rfl ?_
        refine W.iloadN (q := 42) X31 C d3_41 rfl rfl ?_
        refine W.i2d (q := 43) (v := 4607182418800017408) X31 C d3_42 (by decide +kernel) rfl ?_
        refine W.iload (q := 45) X31 C d3_43 rfl rfl ?_
        refine W.iconst (q := 46) (v := 1) X31 C d3_45 rfl rfl ?_
        refine W.iadd (q := 47) X31 C d3_46 rfl ?_
        rw [show ((1 : Int32) + (1 : Int32)) = (2 : Int32) by decide]
        refine W.i2d (q := 48) (v := 4611686018427387904) X31 C d3_47 (by decide +kernel) rfl ?_
        refine W.ddiv (q := 49) (v := 4602678819172646912) X31 C d3_48 (by decide +kernel) (by decide +kernel) rfl ?_
        refine W.dadd (q := 50) (v := 4602678819172646912) X31 C d3_49 (by decide +kernel) (by decide +kernel) rfl ?_
        refine W.dstoreN (q := 51) (L' := #[.val (.ref p0), .val (.double (4602678819172646912 : UInt64)), .second, .val (.int (1 : Int32)), .val (.int (1 : Int32))]) X31 C d3_50 rfl rfl ?_
        refine W.iinc (q := 54) (L' := #[.val (.ref p0), .val (.double (4602678819172646912 : UInt64)), .second, .val (.int (1 : Int32)), .val (.int (2 : Int32))]) X31 C d3_51 rfl (by decide) rfl rfl ?_
        refine W.goto (q := 17) X31 C d3_54 (by decide) (by decide) ?_
        refine W.iload (q := 19) X31 C d3_17 rfl rfl ?_
        refine W.aloadN (q := 20) X31 C d3_19 rfl rfl rfl ?_
        refine W.getF (host := "") (q := 23) X31 C (Or.inl (W.ww hw 11 rfl)) Via.refl e31 F0 d3_20 rfl (fun T35 X35 e35 => ?_)
        refine W.arraylength (q := 24) X35 C e35 V0 d3_23 rfl ?_
        refine W.icmpT (q := 57) X35 C d3_24 (by decide) (by decide) (by decide : W.cT .ge (2 : Int32) (2 : Int32)) ?_
        refine W.dloadN (q := 58) X35 C d3_57 rfl rfl ?_
        refine W.aloadN (q := 59) X35 C d3_58 rfl rfl rfl ?_
        refine W.getF (host := "") (q := 62) X35 C (Or.inl (W.ww hw 13 rfl)) Via.refl e35 G0 d3_59 rfl (fun T36 X36 e36 => ?_)
        refine W.arraylength (q := 63) X36 C e36 V1 d3_62 rfl ?_
        refine W.i2d (q := 64) (v := FP.i2d mm) X36 C d3_63 rfl rfl ?_
        refine W.ddiv (q := 65) (v := FP.ddiv (4602678819172646912 : UInt64) (FP.i2d mm)) X36 C d3_64 (own_nn false true false false mm hc26 hm.1 hm.2) rfl rfl ?_
        exact W.retD X36 C e36 d3_65 (by decide) (by decide) ⟨by rw [own_div, if_neg hc26, own_pf hc29, own_pt hc32]; rfl, N0, rfl⟩
    · replace hc29 : (0 : Int32).toInt < x0.toInt := hc29
      refine W.iinc (q := 40) (L' := #[.val (.ref p0), .val (.double (0 : UInt64)), .second, .val (.int (1 : Int32)), .val (.int (0 : Int32))]) X28 C d3_37 rfl (by decide) rfl rfl ?_
      refine W.dloadN (q := 41) X28 C d3_40 rfl rfl ?_
      refine W.iloadN (q := 42) X28 C d3_41 rfl rfl ?_
      refine W.i2d (q := 43) (v := 4607182418800017408) X28 C d3_42 (by decide +kernel) rfl ?_
      refine W.iload (q := 45) X28 C d3_43 rfl rfl ?_
      refine W.iconst (q := 46) (v := 1) X28 C d3_45 rfl rfl ?_
      refine W.iadd (q := 47) X28 C d3_46 rfl ?_
      rw [show ((0 : Int32) + (1 : Int32)) = (1 : Int32) by decide]
      refine W.i2d (q := 48) (v := 4607182418800017408) X28 C d3_47 (by decide +kernel) rfl ?_
      refine W.ddiv (q := 49) (v := 4607182418800017408) X28 C d3_48 (by decide +kernel) (by decide +kernel) rfl ?_
      refine W.dadd (q := 50) (v := 4607182418800017408) X28 C d3_49 (by decide +kernel) (by decide +kernel) rfl ?_
      refine W.dstoreN (q := 51) (L' := #[.val (.ref p0), .val (.double (4607182418800017408 : UInt64)), .second, .val (.int (1 : Int32)), .val (.int (0 : Int32))]) X28 C d3_50 rfl rfl ?_
      refine W.iinc (q := 54) (L' := #[.val (.ref p0), .val (.double (4607182418800017408 : UInt64)), .second, .val (.int (1 : Int32)), .val (.int (1 : Int32))]) X28 C d3_51 rfl (by decide) rfl rfl ?_
      refine W.goto (q := 17) X28 C d3_54 (by decide) (by decide) ?_
      refine W.iload (q := 19) X28 C d3_17 rfl rfl ?_
      refine W.aloadN (q := 20) X28 C d3_19 rfl rfl rfl ?_
      refine W.getF (host := "") (q := 23) X28 C (Or.inl (W.ww hw 11 rfl)) Via.refl e28 F0 d3_20 rfl (fun T37 X37 e37 => ?_)
      refine W.arraylength (q := 24) X37 C e37 V0 d3_23 rfl ?_
      refine W.icmpF (q := 27) X37 C d3_24 rfl (by decide : W.cF .ge (1 : Int32) (2 : Int32)) ?_
      refine W.aloadN (q := 28) X37 C d3_27 rfl rfl rfl ?_
      refine W.getF (host := "") (q := 31) X37 C (Or.inl (W.ww hw 11 rfl)) Via.refl e37 F0 d3_28 rfl (fun T38 X38 e38 => ?_)
      refine W.iload (q := 33) X38 C d3_31 rfl rfl ?_
      refine W.iaload (q := 34) X38 C e38 V0 (by decide) (by decide) rfl d3_33 rfl ?_
      refine W.if_ (q := 51) (q' := 37) X38 C d3_34 (by decide) (by decide) rfl (fun hc39 => ?_) (fun hc39 => ?_)
      · replace hc39 : x1.toInt ≤ (0 : Int32).toInt := hc39
        refine W.iinc (q := 54) (L' := #[.val (.ref p0), .val (.double (4607182418800017408 : UInt64)), .second, .val (.int (1 : Int32)), .val (.int (2 : Int32))]) X38 C d3_51 rfl (by decide) rfl rfl ?_
        refine W.goto (q := 17) X38 C d3_54 (by decide) (by decide) ?_
        refine W.iload (q := 19) X38 C d3_17 rfl rfl ?_
        refine W.aloadN (q := 20) X38 C d3_19 rfl rfl rfl ?_
        refine W.getF (host := "") (q := 23) X38 C (Or.inl (W.ww hw 11 rfl)) Via.refl e38 F0 d3_20 rfl (fun T40 X40 e40 => ?_)
        refine W.arraylength (q := 24) X40 C e40 V0 d3_23 rfl ?_
        refine W.icmpT (q := 57) X40 C d3_24 (by decide) (by decide) (by decide : W.cT .ge (2 : Int32) (2 : Int32)) ?_
        refine W.dloadN (q := 58) X40 C d3_57 rfl rfl ?_
        refine W.aloadN (q := 59) X40 C d3_58 rfl rfl rfl ?_
        refine W.getF (host := "") (q := 62) X40 C (Or.inl (W.ww hw 13 rfl)) Via.refl e40 G0 d3_59 rfl (fun T41 X41 e41 => ?_)
        refine W.arraylength (q := 63) X41 C e41 V1 d3_62 rfl ?_
        refine W.i2d (q := 64) (v := FP.i2d mm) X41 C d3_63 rfl rfl ?_
        refine W.ddiv (q := 65) (v := FP.ddiv (4607182418800017408 : UInt64) (FP.i2d mm)) X41 C d3_64 (own_nn true false false false mm hc26 hm.1 hm.2) rfl rfl ?_
        exact W.retD X41 C e41 d3_65 (by decide) (by decide) ⟨by rw [own_div, if_neg hc26, own_pt hc29, own_pf hc39]; rfl, N0, rfl⟩
      · replace hc39 : (0 : Int32).toInt < x1.toInt := hc39
        refine W.iinc (q := 40) (L' := #[.val (.ref p0), .val (.double (4607182418800017408 : UInt64)), .second, .val (.int (2 : Int32)), .val (.int (1 : Int32))]) X38 C d3_37 rfl (by decide) rfl rfl ?_
        refine W.dloadN (q := 41) X38 C d3_40 rfl rfl ?_
        refine W.iloadN (q := 42) X38 C d3_41 rfl rfl ?_
        refine W.i2d (q := 43) (v := 4611686018427387904) X38 C d3_42 (by decide +kernel) rfl ?_
        refine W.iload (q := 45) X38 C d3_43 rfl rfl ?_
        refine W.iconst (q := 46) (v := 1) X38 C d3_45 rfl rfl ?_
        refine W.iadd (q := 47) X38 C d3_46 rfl ?_
        rw [show ((1 : Int32) + (1 : Int32)) = (2 : Int32) by decide]
        refine W.i2d (q := 48) (v := 4611686018427387904) X38 C d3_47 (by decide +kernel) rfl ?_
        refine W.ddiv (q := 49) (v := 4607182418800017408) X38 C d3_48 (by decide +kernel) (by decide +kernel) rfl ?_
        refine W.dadd (q := 50) (v := 4611686018427387904) X38 C d3_49 (by decide +kernel) (by decide +kernel) rfl ?_
        refine W.dstoreN (q := 51) (L' := #[.val (.ref p0), .val (.double (4611686018427387904 : UInt64)), .second, .val (.int (2 : Int32)), .val (.int (1 : Int32))]) X38 C d3_50 rfl rfl ?_
        refine W.iinc (q := 54) (L' := #[.val (.ref p0), .val (.double (4611686018427387904 : UInt64)), .second, .val (.int (2 : Int32)), .val (.int (2 : Int32))]) X38 C d3_51 rfl (by decide) rfl rfl ?_
        refine W.goto (q := 17) X38 C d3_54 (by decide) (by decide) ?_
        refine W.iload (q := 19) X38 C d3_17 rfl rfl ?_
        refine W.aloadN (q := 20) X38 C d3_19 rfl rfl rfl ?_
        refine W.getF (host := "") (q := 23) X38 C (Or.inl (W.ww hw 11 rfl)) Via.refl e38 F0 d3_20 rfl (fun T42 X42 e42 => ?_)
        refine W.arraylength (q := 24) X42 C e42 V0 d3_23 rfl ?_
        refine W.icmpT (q := 57) X42 C d3_24 (by decide) (by decide) (by decide : W.cT .ge (2 : Int32) (2 : Int32)) ?_
        refine W.dloadN (q := 58) X42 C d3_57 rfl rfl ?_
        refine W.aloadN (q := 59) X42 C d3_58 rfl rfl rfl ?_
        refine W.getF (host := "") (q := 62) X42 C (Or.inl (W.ww hw 13 rfl)) Via.refl e42 G0 d3_59 rfl (fun T43 X43 e43 => ?_)
        refine W.arraylength (q := 63) X43 C e43 V1 d3_62 rfl ?_
        refine W.i2d (q := 64) (v := FP.i2d mm) X43 C d3_63 rfl rfl ?_
        refine W.ddiv (q := 65) (v := FP.ddiv (4611686018427387904 : UInt64) (FP.i2d mm)) X43 C d3_64 (own_nn true true false false mm hc26 hm.1 hm.2) rfl rfl ?_
        exact W.retD X43 C e43 d3_65 (by decide) (by decide) ⟨by rw [own_div, if_neg hc26, own_pt hc29, own_pt hc39]; rfl, N0, rfl⟩
  · replace hc26 : mm = 0 := hc26
    refine W.dconst0 (q := 9) (v := 0) X25 C d3_8 rfl rfl ?_
    exact W.retD X25 C e25 d3_9 (by decide) (by decide) ⟨by rw [own_div, if_pos hc26], N0, rfl⟩
def Q3_3 (Z : State) (p0 : Addr) (ra ia : Addr) (k0 k1 : ClassId) (mm : Int32) (vi : List Value) (x0 : Int32) (x1 : Int32) (x2 : Int32) (h0 : Heap) (n0 : Nat) (v : Option Value) (h : Heap) (L : List Loc) : Prop := v = some (.double (own_div (own_tab (own_pos x0) (own_pos x1) (own_pos x2) false) mm)) ∧ Fr n0 L ∧ h = h0
set_option maxRecDepth 65536 in
set_option maxHeartbeats 40000000 in
theorem rm3_3 (l : Launch) (Z : State) (a0 : Array Value) (hw : ∀ d ∈ tables_1, d.before a0 Z = true) (ws : List Jvm.Cond) (p0 : Addr) (ra ia : Addr) (k0 k1 : ClassId) (mm : Int32) (vi : List Value) (x0 : Int32) (x1 : Int32) (x2 : Int32) (h0 : Heap) (n0 : Nat) (F0 : Fld Z h0 p0 "com/example/cranfield/cranfield/measures/RankedQuery" "ranked" "[I" (.ref ra)) (G0 : Fld Z h0 p0 "com/example/cranfield/cranfield/measures/RankedQuery" "ideal" "[I" (.ref ia)) (V0 : Arv Z h0 ra k0 .int (3 : Int32) [(.int x0), (.int x1), (.int x2)] (.int (0 : Int32))) (V1 : Arv Z h0 ia k1 .int mm vi (.int (0 : Int32))) (hm : 0 ≤ mm.toInt ∧ mm.toInt ≤ 7) :
    MetFree l (⟨"com/example/cranfield/cranfield/measures/RankedQuery", "averagePrecision", "()D"⟩ : MethodName) (head1 (Jvm.Cond.code (⟨"com/example/cranfield/cranfield/measures/RankedQuery", "averagePrecision", "()D"⟩ : MethodName) prog_49_method_4_code 5 (some .double) :: ws) ({ frames := 0, cells := 0, slots := 0, locals := 0 } : Room)) (fun a U => a = #[(.ref p0)] ∧ Z.Warmed39 U.vm ∧ U.heap = h0) (fun _ _ _ _ _ => True) (fun _ U o U' => ∃ v L, o = .returned v ∧ Q3_3 Z p0 ra ia k0 k1 mm vi x0 x1 x2 h0 n0 v U'.heap L ∧ FrameEnd U o U' L ({ frames := 0, cells := 0, slots := 0, locals := 0 } : Room).cells ({ frames := 0, cells := 0, slots := 0, locals := 0 } : Room).slots) := by
  refine W.bodyOf (y := (⟨"com/example/cranfield/cranfield/measures/RankedQuery", "averagePrecision", "()D"⟩ : MethodName)) (as := #[(.ref p0)]) (maxL := 5) (Q := Q3_3 Z p0 ra ia k0 k1 mm vi x0 x1 x2 h0 n0) (Ls := #[.val (.ref p0), .unset, .unset, .unset, .unset]) (plainFor_of_name pn_com_example_cranfield_cranfield_measures_RankedQuery) (fun m => by first | exact W.entry_of rfl | rfl | (simp [entryFrame, mkF, argsToLocals, Value.category]; done)) ?_
  intro p e s m below meth c T0 C X0 e0
  have N0 := Fr.nil n0
  refine W.aloadN (q := 1) X0 C d3_0 rfl rfl rfl ?_
  refine W.getF (host := "") (q := 4) X0 C (Or.inl (W.ww hw 13 rfl)) Via.refl e0 G0 d3_1 rfl (fun T44 X44 e44 => ?_)
  refine W.arraylength (q := 5) X44 C e44 V1 d3_4 rfl ?_
  refine W.if_ (q := 10) (q' := 8) X44 C d3_5 (by decide) (by decide) rfl (fun hc45 => ?_) (fun hc45 => ?_)
  · replace hc45 : mm ≠ 0 := hc45
    refine W.dconst0 (q := 11) (v := 0) X44 C d3_10 rfl rfl ?_
    refine W.dstoreN (q := 12) (L' := #[.val (.ref p0), .val (.double (0 : UInt64)), .second, .unset, .unset]) X44 C d3_11 rfl rfl ?_
    refine W.iconst (q := 13) (v := 0) X44 C d3_12 rfl rfl ?_
    refine W.istoreN (q := 14) (L' := #[.val (.ref p0), .val (.double (0 : UInt64)), .second, .val (.int (0 : Int32)), .unset]) X44 C d3_13 rfl rfl ?_
    refine W.iconst (q := 15) (v := 0) X44 C d3_14 rfl rfl ?_
    refine W.istore (q := 17) (L' := #[.val (.ref p0), .val (.double (0 : UInt64)), .second, .val (.int (0 : Int32)), .val (.int (0 : Int32))]) X44 C d3_15 rfl rfl ?_
    refine W.iload (q := 19) X44 C d3_17 rfl rfl ?_
    refine W.aloadN (q := 20) X44 C d3_19 rfl rfl rfl ?_
    refine W.getF (host := "") (q := 23) X44 C (Or.inl (W.ww hw 11 rfl)) Via.refl e44 F0 d3_20 rfl (fun T46 X46 e46 => ?_)
    refine W.arraylength (q := 24) X46 C e46 V0 d3_23 rfl ?_
    refine W.icmpF (q := 27) X46 C d3_24 rfl (by decide : W.cF .ge (0 : Int32) (3 : Int32)) ?_
    refine W.aloadN (q := 28) X46 C d3_27 rfl rfl rfl ?_
    refine W.getF (host := "") (q := 31) X46 C (Or.inl (W.ww hw 11 rfl)) Via.refl e46 F0 d3_28 rfl (fun T47 X47 e47 => ?_)
    refine W.iload (q := 33) X47 C d3_31 rfl rfl ?_
    refine W.iaload (q := 34) X47 C e47 V0 (by decide) (by decide) rfl d3_33 rfl ?_
    refine W.if_ (q := 51) (q' := 37) X47 C d3_34 (by decide) (by decide) rfl (fun hc48 => ?_) (fun hc48 => ?_)
    · replace hc48 : x0.toInt ≤ (0 : Int32).toInt := hc48
      refine W.iinc (q := 54) (L' := #[.val (.ref p0), .val (.double (0 : UInt64)), .second, .val (.int (0 : Int32)), .val (.int (1 : Int32))]) X47 C d3_51 rfl (by decide) rfl rfl ?_
      refine W.goto (q := 17) X47 C d3_54 (by decide) (by decide) ?_
      refine W.iload (q := 19) X47 C d3_17 rfl rfl ?_
      refine W.aloadN (q := 20) X47 C d3_19 rfl rfl rfl ?_
      refine W.getF (host := "") (q := 23) X47 C (Or.inl (W.ww hw 11 rfl)) Via.refl e47 F0 d3_20 rfl (fun T49 X49 e49 => ?_)
      refine W.arraylength (q := 24) X49 C e49 V0 d3_23 rfl ?_
      refine W.icmpF (q := 27) X49 C d3_24 rfl (by decide : W.cF .ge (1 : Int32) (3 : Int32)) ?_
      refine W.aloadN (q := 28) X49 C d3_27 rfl rfl rfl ?_
      refine W.getF (host := "") (q := 31) X49 C (Or.inl (W.ww hw 11 rfl)) Via.refl e49 F0 d3_28 rfl (fun T50 X50 e50 => ?_)
      refine W.iload (q := 33) X50 C d3_31 rfl rfl ?_
      refine W.iaload (q := 34) X50 C e50 V0 (by decide) (by decide) rfl d3_33 rfl ?_
      refine W.if_ (q := 51) (q' := 37) X50 C d3_34 (by decide) (by decide) rfl (fun hc51 => ?_) (fun hc51 => ?_)
      · replace hc51 : x1.toInt ≤ (0 : Int32).toInt := hc51
        refine W.iinc (q := 54) (L' := #[.val (.ref p0), .val (.double (0 : UInt64)), .second, .val (.int (0 : Int32)), .val (.int (2 : Int32))]) X50 C d3_51 rfl (by decide) rfl rfl ?_
        refine W.goto (q := 17) X50 C d3_54 (by decide) (by decide) ?_
        refine W.iload (q := 19) X50 C d3_17 rfl rfl ?_
        refine W.aloadN (q := 20) X50 C d3_19 rfl rfl rfl ?_
        refine W.getF (host := "") (q := 23) X50 C (Or.inl (W.ww hw 11 rfl)) Via.refl e50 F0 d3_20 rfl (fun T52 X52 e52 => ?_)
        refine W.arraylength (q := 24) X52 C e52 V0 d3_23 rfl ?_
        refine W.icmpF (q := 27) X52 C d3_24 rfl (by decide : W.cF .ge (2 : Int32) (3 : Int32)) ?_
        refine W.aloadN (q := 28) X52 C d3_27 rfl rfl rfl ?_
        refine W.getF (host := "") (q := 31) X52 C (Or.inl (W.ww hw 11 rfl)) Via.refl e52 F0 d3_28 rfl (fun T53 X53 e53 => ?_)
        refine W.iload (q := 33) X53 C d3_31 rfl rfl ?_
        refine W.iaload (q := 34) X53 C e53 V0 (by decide) (by decide) rfl d3_33 rfl ?_
        refine W.if_ (q := 51) (q' := 37) X53 C d3_34 (by decide) (by decide) rfl (fun hc54 => ?_) (fun hc54 => ?_)
        · replace hc54 : x2.toInt ≤ (0 : Int32).toInt := hc54
          refine W.iinc (q := 54) (L' := #[.val (.ref p0), .val (.double (0 : UInt64)), .second, .val (.int (0 : Int32)), .val (.int (3 : Int32))]) X53 C d3_51 rfl (by decide) rfl rfl ?_
          refine W.goto (q := 17) X53 C d3_54 (by decide) (by decide) ?_
          refine W.iload (q := 19) X53 C d3_17 rfl rfl ?_
          refine W.aloadN (q := 20) X53 C d3_19 rfl rfl rfl ?_
          refine W.getF (host := "") (q := 23) X53 C (Or.inl (W.ww hw 11 rfl)) Via.refl e53 F0 d3_20 rfl (fun T55 X55 e55 => ?_)
          refine W.arraylength (q := 24) X55 C e55 V0 d3_23 rfl ?_
          refine W.icmpT (q := 57) X55 C d3_24 (by decide) (by decide) (by decide : W.cT .ge (3 : Int32) (3 : Int32)) ?_
          refine W.dloadN (q := 58) X55 C d3_57 rfl rfl ?_
          refine W.aloadN (q := 59) X55 C d3_58 rfl rfl rfl ?_
          refine W.getF (host := "") (q := 62) X55 C (Or.inl (W.ww hw 13 rfl)) Via.refl e55 G0 d3_59 rfl (fun T56 X56 e56 => ?_)
          refine W.arraylength (q := 63) X56 C e56 V1 d3_62 rfl ?_
          refine W.i2d (q := 64) (v := FP.i2d mm) X56 C d3_63 rfl rfl ?_
          refine W.ddiv (q := 65) (v := FP.ddiv (0 : UInt64) (FP.i2d mm)) X56 C d3_64 (own_nn false false false false mm hc45 hm.1 hm.2) rfl rfl ?_
          exact W.retD X56 C e56 d3_65 (by decide) (by decide) ⟨by rw [own_div, if_neg hc45, own_pf hc48, own_pf hc51, own_pf hc54]; rfl, N0, rfl⟩
        · replace hc54 : (0 : Int32).toInt < x2.toInt := hc54
          refine W.iinc (q := 40) (L' := #[.val (.ref p0), .val (.double (0 : UInt64)), .second, .val (.int (1 : Int32)), .val (.int (2 : Int32))]) X53 C d3_37 rfl (by decide) rfl rfl ?_
          refine W.dloadN (q := 41) X53 C d3_40 rfl rfl ?_
          refine W.iloadN (q := 42) X53 C d3_41 rfl rfl ?_
          refine W.i2d (q := 43) (v := 4607182418800017408) X53 C d3_42 (by decide +kernel) rfl ?_
          refine W.iload (q := 45) X53 C d3_43 rfl rfl ?_
          refine W.iconst (q := 46) (v := 1) X53 C d3_45 rfl rfl ?_
          refine W.iadd (q := 47) X53 C d3_46 rfl ?_
          rw [show ((2 : Int32) + (1 : Int32)) = (3 : Int32) by decide]
          refine W.i2d (q := 48) (v := 4613937818241073152) X53 C d3_47 (by decide +kernel) rfl ?_
          refine W.ddiv (q := 49) (v := 4599676419421066581) X53 C d3_48 (by decide +kernel) (by decide +kernel) rfl ?_
          refine W.dadd (q := 50) (v := 4599676419421066581) X53 C d3_49 (by decide +kernel) (by decide +kernel) rfl ?_
          refine W.dstoreN (q := 51) (L' := #[.val (.ref p0), .val (.double (4599676419421066581 : UInt64)), .second, .val (.int (1 : Int32)), .val (.int (2 : Int32))]) X53 C d3_50 rfl rfl ?_
          refine W.iinc (q := 54) (L' := #[.val (.ref p0), .val (.double (4599676419421066581 : UInt64)), .second, .val (.int (1 : Int32)), .val (.int (3 : Int32))]) X53 C d3_51 rfl (by decide) rfl rfl ?_
          refine W.goto (q := 17) X53 C d3_54 (by decide) (by decide) ?_
          refine W.iload (q := 19) X53 C d3_17 rfl rfl ?_
          refine W.aloadN (q := 20) X53 C d3_19 rfl rfl rfl ?_
          refine W.getF (host := "") (q := 23) X53 C (Or.inl (W.ww hw 11 rfl)) Via.refl e53 F0 d3_20 rfl (fun T57 X57 e57 => ?_)
          refine W.arraylength (q := 24) X57 C e57 V0 d3_23 rfl ?_
          refine W.icmpT (q := 57) X57 C d3_24 (by decide) (by decide) (by decide : W.cT .ge (3 : Int32) (3 : Int32)) ?_
          refine W.dloadN (q := 58) X57 C d3_57 rfl rfl ?_
          refine W.aloadN (q := 59) X57 C d3_58 rfl rfl rfl ?_
          refine W.getF (host := "") (q := 62) X57 C (Or.inl (W.ww hw 13 rfl)) Via.refl e57 G0 d3_59 rfl (fun T58 X58 e58 => ?_)
          refine W.arraylength (q := 63) X58 C e58 V1 d3_62 rfl ?_
          refine W.i2d (q := 64) (v := FP.i2d mm) X58 C d3_63 rfl rfl ?_
          refine W.ddiv (q := 65) (v := FP.ddiv (4599676419421066581 : UInt64) (FP.i2d mm)) X58 C d3_64 (own_nn false false true false mm hc45 hm.1 hm.2) rfl rfl ?_
          exact W.retD X58 C e58 d3_65 (by decide) (by decide) ⟨by rw [own_div, if_neg hc45, own_pf hc48, own_pf hc51, own_pt hc54]; rfl, N0, rfl⟩
      · replace hc51 : (0 : Int32).toInt < x1.toInt := hc51
        refine W.iinc (q := 40) (L' := #[.val (.ref p0), .val (.double (0 : UInt64)), .second, .val (.int (1 : Int32)), .val (.int (1 : Int32))]) X50 C d3_37 rfl (by decide) rfl rfl ?_
        refine W.dloadN (q := 41) X50 C d3_40 rfl rfl ?_
        refine W.iloadN (q := 42) X50 C d3_41 rfl rfl ?_
        refine W.i2d (q := 43) (v := 4607182418800017408) X50 C d3_42 (by decide +kernel) rfl ?_
        refine W.iload (q := 45) X50 C d3_43 rfl rfl ?_
        refine W.iconst (q := 46) (v := 1) X50 C d3_45 rfl rfl ?_
        refine W.iadd (q := 47) X50 C d3_46 rfl ?_
        rw [show ((1 : Int32) + (1 : Int32)) = (2 : Int32) by decide]
        refine W.i2d (q := 48) (v := 4611686018427387904) X50 C d3_47 (by decide +kernel) rfl ?_
        refine W.ddiv (q := 49) (v := 4602678819172646912) X50 C d3_48 (by decide +kernel) (by decide +kernel) rfl ?_
        refine W.dadd (q := 50) (v := 4602678819172646912) X50 C d3_49 (by decide +kernel) (by decide +kernel) rfl ?_
        refine W.dstoreN (q := 51) (L' := #[.val (.ref p0), .val (.double (4602678819172646912 : UInt64)), .second, .val (.int (1 : Int32)), .val (.int (1 : Int32))]) X50 C d3_50 rfl rfl ?_
        refine W.iinc (q := 54) (L' := #[.val (.ref p0), .val (.double (4602678819172646912 : UInt64)), .second, .val (.int (1 : Int32)), .val (.int (2 : Int32))]) X50 C d3_51 rfl (by decide) rfl rfl ?_
        refine W.goto (q := 17) X50 C d3_54 (by decide) (by decide) ?_
        refine W.iload (q := 19) X50 C d3_17 rfl rfl ?_
        refine W.aloadN (q := 20) X50 C d3_19 rfl rfl rfl ?_
        refine W.getF (host := "") (q := 23) X50 C (Or.inl (W.ww hw 11 rfl)) Via.refl e50 F0 d3_20 rfl (fun T59 X59 e59 => ?_)
        refine W.arraylength (q := 24) X59 C e59 V0 d3_23 rfl ?_
        refine W.icmpF (q := 27) X59 C d3_24 rfl (by decide : W.cF .ge (2 : Int32) (3 : Int32)) ?_
        refine W.aloadN (q := 28) X59 C d3_27 rfl rfl rfl ?_
        refine W.getF (host := "") (q := 31) X59 C (Or.inl (W.ww hw 11 rfl)) Via.refl e59 F0 d3_28 rfl (fun T60 X60 e60 => ?_)
        refine W.iload (q := 33) X60 C d3_31 rfl rfl ?_
        refine W.iaload (q := 34) X60 C e60 V0 (by decide) (by decide) rfl d3_33 rfl ?_
        refine W.if_ (q := 51) (q' := 37) X60 C d3_34 (by decide) (by decide) rfl (fun hc61 => ?_) (fun hc61 => ?_)
        · replace hc61 : x2.toInt ≤ (0 : Int32).toInt := hc61
          refine W.iinc (q := 54) (L' := #[.val (.ref p0), .val (.double (4602678819172646912 : UInt64)), .second, .val (.int (1 : Int32)), .val (.int (3 : Int32))]) X60 C d3_51 rfl (by decide) rfl rfl ?_
          refine W.goto (q := 17) X60 C d3_54 (by decide) (by decide) ?_
          refine W.iload (q := 19) X60 C d3_17 rfl rfl ?_
          refine W.aloadN (q := 20) X60 C d3_19 rfl rfl rfl ?_
          refine W.getF (host := "") (q := 23) X60 C (Or.inl (W.ww hw 11 rfl)) Via.refl e60 F0 d3_20 rfl (fun T62 X62 e62 => ?_)
          refine W.arraylength (q := 24) X62 C e62 V0 d3_23 rfl ?_
          refine W.icmpT (q := 57) X62 C d3_24 (by decide) (by decide) (by decide : W.cT .ge (3 : Int32) (3 : Int32)) ?_
          refine W.dloadN (q := 58) X62 C d3_57 rfl rfl ?_
          refine W.aloadN (q := 59) X62 C d3_58 rfl rfl rfl ?_
          refine W.getF (host := "") (q := 62) X62 C (Or.inl (W.ww hw 13 rfl)) Via.refl e62 G0 d3_59 rfl (fun T63 X63 e63 => ?_)
          refine W.arraylength (q := 63) X63 C e63 V1 d3_62 rfl ?_
          refine W.i2d (q := 64) (v := FP.i2d mm) X63 C d3_63 rfl rfl ?_
          refine W.ddiv (q := 65) (v := FP.ddiv (4602678819172646912 : UInt64) (FP.i2d mm)) X63 C d3_64 (own_nn false true false false mm hc45 hm.1 hm.2) rfl rfl ?_
          exact W.retD X63 C e63 d3_65 (by decide) (by decide) ⟨by rw [own_div, if_neg hc45, own_pf hc48, own_pt hc51, own_pf hc61]; rfl, N0, rfl⟩
        · replace hc61 : (0 : Int32).toInt < x2.toInt := hc61
          refine W.iinc (q := 40) (L' := #[.val (.ref p0), .val (.double (4602678819172646912 : UInt64)), .second, .val (.int (2 : Int32)), .val (.int (2 : Int32))]) X60 C d3_37 rfl (by decide) rfl rfl ?_
          refine W.dloadN (q := 41) X60 C d3_40 rfl rfl ?_
          refine W.iloadN (q := 42) X60 C d3_41 rfl rfl ?_
          refine W.i2d (q := 43) (v := 4611686018427387904) X60 C d3_42 (by decide +kernel) rfl ?_
          refine W.iload (q := 45) X60 C d3_43 rfl rfl ?_
          refine W.iconst (q := 46) (v := 1) X60 C d3_45 rfl rfl ?_
          refine W.iadd (q := 47) X60 C d3_46 rfl ?_
          rw [show ((2 : Int32) + (1 : Int32)) = (3 : Int32) by decide]
          refine W.i2d (q := 48) (v := 4613937818241073152) X60 C d3_47 (by decide +kernel) rfl ?_
          refine W.ddiv (q := 49) (v := 4604180019048437077) X60 C d3_48 (by decide +kernel) (by decide +kernel) rfl ?_
          refine W.dadd (q := 50) (v := 4607933018737912490) X60 C d3_49 (by decide +kernel) (by decide +kernel) rfl ?_
          refine W.dstoreN (q := 51) (L' := #[.val (.ref p0), .val (.double (4607933018737912490 : UInt64)), .second, .val (.int (2 : Int32)), .val (.int (2 : Int32))]) X60 C d3_50 rfl rfl ?_
          refine W.iinc (q := 54) (L' := #[.val (.ref p0), .val (.double (4607933018737912490 : UInt64)), .second, .val (.int (2 : Int32)), .val (.int (3 : Int32))]) X60 C d3_51 rfl (by decide) rfl rfl ?_
          refine W.goto (q := 17) X60 C d3_54 (by decide) (by decide) ?_
          refine W.iload (q := 19) X60 C d3_17 rfl rfl ?_
          refine W.aloadN (q := 20) X60 C d3_19 rfl rfl rfl ?_
          refine W.getF (host := "") (q := 23) X60 C (Or.inl (W.ww hw 11 rfl)) Via.refl e60 F0 d3_20 rfl (fun T64 X64 e64 => ?_)
          refine W.arraylength (q := 24) X64 C e64 V0 d3_23 rfl ?_
          refine W.icmpT (q := 57) X64 C d3_24 (by decide) (by decide) (by decide : W.cT .ge (3 : Int32) (3 : Int32)) ?_
          refine W.dloadN (q := 58) X64 C d3_57 rfl rfl ?_
          refine W.aloadN (q := 59) X64 C d3_58 rfl rfl rfl ?_
          refine W.getF (host := "") (q := 62) X64 C (Or.inl (W.ww hw 13 rfl)) Via.refl e64 G0 d3_59 rfl (fun T65 X65 e65 => ?_)
          refine W.arraylength (q := 63) X65 C e65 V1 d3_62 rfl ?_
          refine W.i2d (q := 64) (v := FP.i2d mm) X65 C d3_63 rfl rfl ?_
          refine W.ddiv (q := 65) (v := FP.ddiv (4607933018737912490 : UInt64) (FP.i2d mm)) X65 C d3_64 (own_nn false true true false mm hc45 hm.1 hm.2) rfl rfl ?_
          exact W.retD X65 C e65 d3_65 (by decide) (by decide) ⟨by rw [own_div, if_neg hc45, own_pf hc48, own_pt hc51, own_pt hc61]; rfl, N0, rfl⟩
    · replace hc48 : (0 : Int32).toInt < x0.toInt := hc48
      refine W.iinc (q := 40) (L' := #[.val (.ref p0), .val (.double (0 : UInt64)), .second, .val (.int (1 : Int32)), .val (.int (0 : Int32))]) X47 C d3_37 rfl (by decide) rfl rfl ?_
      refine W.dloadN (q := 41) X47 C d3_40 rfl rfl ?_
      refine W.iloadN (q := 42) X47 C d3_41 rfl rfl ?_
      refine W.i2d (q := 43) (v := 4607182418800017408) X47 C d3_42 (by decide +kernel) rfl ?_
      refine W.iload (q := 45) X47 C d3_43 rfl rfl ?_
      refine W.iconst (q := 46) (v := 1) X47 C d3_45 rfl rfl ?_
      refine W.iadd (q := 47) X47 C d3_46 rfl ?_
      rw [show ((0 : Int32) + (1 : Int32)) = (1 : Int32) by decide]
      refine W.i2d (q := 48) (v := 4607182418800017408) X47 C d3_47 (by decide +kernel) rfl ?_
      refine W.ddiv (q := 49) (v := 4607182418800017408) X47 C d3_48 (by decide +kernel) (by decide +kernel) rfl ?_
      refine W.dadd (q := 50) (v := 4607182418800017408) X47 C d3_49 (by decide +kernel) (by decide +kernel) rfl ?_
      refine W.dstoreN (q := 51) (L' := #[.val (.ref p0), .val (.double (4607182418800017408 : UInt64)), .second, .val (.int (1 : Int32)), .val (.int (0 : Int32))]) X47 C d3_50 rfl rfl ?_
      refine W.iinc (q := 54) (L' := #[.val (.ref p0), .val (.double (4607182418800017408 : UInt64)), .second, .val (.int (1 : Int32)), .val (.int (1 : Int32))]) X47 C d3_51 rfl (by decide) rfl rfl ?_
      refine W.goto (q := 17) X47 C d3_54 (by decide) (by decide) ?_
      refine W.iload (q := 19) X47 C d3_17 rfl rfl ?_
      refine W.aloadN (q := 20) X47 C d3_19 rfl rfl rfl ?_
      refine W.getF (host := "") (q := 23) X47 C (Or.inl (W.ww hw 11 rfl)) Via.refl e47 F0 d3_20 rfl (fun T66 X66 e66 => ?_)
      refine W.arraylength (q := 24) X66 C e66 V0 d3_23 rfl ?_
      refine W.icmpF (q := 27) X66 C d3_24 rfl (by decide : W.cF .ge (1 : Int32) (3 : Int32)) ?_
      refine W.aloadN (q := 28) X66 C d3_27 rfl rfl rfl ?_
      refine W.getF (host := "") (q := 31) X66 C (Or.inl (W.ww hw 11 rfl)) Via.refl e66 F0 d3_28 rfl (fun T67 X67 e67 => ?_)
      refine W.iload (q := 33) X67 C d3_31 rfl rfl ?_
      refine W.iaload (q := 34) X67 C e67 V0 (by decide) (by decide) rfl d3_33 rfl ?_
      refine W.if_ (q := 51) (q' := 37) X67 C d3_34 (by decide) (by decide) rfl (fun hc68 => ?_) (fun hc68 => ?_)
      · replace hc68 : x1.toInt ≤ (0 : Int32).toInt := hc68
        refine W.iinc (q := 54) (L' := #[.val (.ref p0), .val (.double (4607182418800017408 : UInt64)), .second, .val (.int (1 : Int32)), .val (.int (2 : Int32))]) X67 C d3_51 rfl (by decide) rfl rfl ?_
        refine W.goto (q := 17) X67 C d3_54 (by decide) (by decide) ?_
        refine W.iload (q := 19) X67 C d3_17 rfl rfl ?_
        refine W.aloadN (q := 20) X67 C d3_19 rfl rfl rfl ?_
        refine W.getF (host := "") (q := 23) X67 C (Or.inl (W.ww hw 11 rfl)) Via.refl e67 F0 d3_20 rfl (fun T69 X69 e69 => ?_)
        refine W.arraylength (q := 24) X69 C e69 V0 d3_23 rfl ?_
        refine W.icmpF (q := 27) X69 C d3_24 rfl (by decide : W.cF .ge (2 : Int32) (3 : Int32)) ?_
        refine W.aloadN (q := 28) X69 C d3_27 rfl rfl rfl ?_
        refine W.getF (host := "") (q := 31) X69 C (Or.inl (W.ww hw 11 rfl)) Via.refl e69 F0 d3_28 rfl (fun T70 X70 e70 => ?_)
        refine W.iload (q := 33) X70 C d3_31 rfl rfl ?_
        refine W.iaload (q := 34) X70 C e70 V0 (by decide) (by decide) rfl d3_33 rfl ?_
        refine W.if_ (q := 51) (q' := 37) X70 C d3_34 (by decide) (by decide) rfl (fun hc71 => ?_) (fun hc71 => ?_)
        · replace hc71 : x2.toInt ≤ (0 : Int32).toInt := hc71
          refine W.iinc (q := 54) (L' := #[.val (.ref p0), .val (.double (4607182418800017408 : UInt64)), .second, .val (.int (1 : Int32)), .val (.int (3 : Int32))]) X70 C d3_51 rfl (by decide) rfl rfl ?_
          refine W.goto (q := 17) X70 C d3_54 (by decide) (by decide) ?_
          refine W.iload (q := 19) X70 C d3_17 rfl rfl ?_
          refine W.aloadN (q := 20) X70 C d3_19 rfl rfl rfl ?_
          refine W.getF (host := "") (q := 23) X70 C (Or.inl (W.ww hw 11 rfl)) Via.refl e70 F0 d3_20 rfl (fun T72 X72 e72 => ?_)
          refine W.arraylength (q := 24) X72 C e72 V0 d3_23 rfl ?_
          refine W.icmpT (q := 57) X72 C d3_24 (by decide) (by decide) (by decide : W.cT .ge (3 : Int32) (3 : Int32)) ?_
          refine W.dloadN (q := 58) X72 C d3_57 rfl rfl ?_
          refine W.aloadN (q := 59) X72 C d3_58 rfl rfl rfl ?_
          refine W.getF (host := "") (q := 62) X72 C (Or.inl (W.ww hw 13 rfl)) Via.refl e72 G0 d3_59 rfl (fun T73 X73 e73 => ?_)
          refine W.arraylength (q := 63) X73 C e73 V1 d3_62 rfl ?_
          refine W.i2d (q := 64) (v := FP.i2d mm) X73 C d3_63 rfl rfl ?_
          refine W.ddiv (q := 65) (v := FP.ddiv (4607182418800017408 : UInt64) (FP.i2d mm)) X73 C d3_64 (own_nn true false false false mm hc45 hm.1 hm.2) rfl rfl ?_
          exact W.retD X73 C e73 d3_65 (by decide) (by decide) ⟨by rw [own_div, if_neg hc45, own_pt hc48, own_pf hc68, own_pf hc71]; rfl, N0, rfl⟩
        · replace hc71 : (0 : Int32).toInt < x2.toInt := hc71
          refine W.iinc (q := 40) (L' := #[.val (.ref p0), .val (.double (4607182418800017408 : UInt64)), .second, .val (.int (2 : Int32)), .val (.int (2 : Int32))]) X70 C d3_37 rfl (by decide) rfl rfl ?_
          refine W.dloadN (q := 41) X70 C d3_40 rfl rfl ?_
          refine W.iloadN (q := 42) X70 C d3_41 rfl rfl ?_
          refine W.i2d (q := 43) (v := 4611686018427387904) X70 C d3_42 (by decide +kernel) rfl ?_
          refine W.iload (q := 45) X70 C d3_43 rfl rfl ?_
          refine W.iconst (q := 46) (v := 1) X70 C d3_45 rfl rfl ?_
          refine W.iadd (q := 47) X70 C d3_46 rfl ?_
          rw [show ((2 : Int32) + (1 : Int32)) = (3 : Int32) by decide]
          refine W.i2d (q := 48) (v := 4613937818241073152) X70 C d3_47 (by decide +kernel) rfl ?_
          refine W.ddiv (q := 49) (v := 4604180019048437077) X70 C d3_48 (by decide +kernel) (by decide +kernel) rfl ?_
          refine W.dadd (q := 50) (v := 4610184818551597738) X70 C d3_49 (by decide +kernel) (by decide +kernel) rfl ?_
          refine W.dstoreN (q := 51) (L' := #[.val (.ref p0), .val (.double (4610184818551597738 : UInt64)), .second, .val (.int (2 : Int32)), .val (.int (2 : Int32))]) X70 C d3_50 rfl rfl ?_
          refine W.iinc (q := 54) (L' := #[.val (.ref p0), .val (.double (4610184818551597738 : UInt64)), .second, .val (.int (2 : Int32)), .val (.int (3 : Int32))]) X70 C d3_51 rfl (by decide) rfl rfl ?_
          refine W.goto (q := 17) X70 C d3_54 (by decide) (by decide) ?_
          refine W.iload (q := 19) X70 C d3_17 rfl rfl ?_
          refine W.aloadN (q := 20) X70 C d3_19 rfl rfl rfl ?_
          refine W.getF (host := "") (q := 23) X70 C (Or.inl (W.ww hw 11 rfl)) Via.refl e70 F0 d3_20 rfl (fun T74 X74 e74 => ?_)
          refine W.arraylength (q := 24) X74 C e74 V0 d3_23 rfl ?_
          refine W.icmpT (q := 57) X74 C d3_24 (by decide) (by decide) (by decide : W.cT .ge (3 : Int32) (3 : Int32)) ?_
          refine W.dloadN (q := 58) X74 C d3_57 rfl rfl ?_
          refine W.aloadN (q := 59) X74 C d3_58 rfl rfl rfl ?_
          refine W.getF (host := "") (q := 62) X74 C (Or.inl (W.ww hw 13 rfl)) Via.refl e74 G0 d3_59 rfl (fun T75 X75 e75 => ?_)
          refine W.arraylength (q := 63) X75 C e75 V1 d3_62 rfl ?_
          refine W.i2d (q := 64) (v := FP.i2d mm) X75 C d3_63 rfl rfl ?_
          refine W.ddiv (q := 65) (v := FP.ddiv (4610184818551597738 : UInt64) (FP.i2d mm)) X75 C d3_64 (own_nn true false true false mm hc45 hm.1 hm.2) rfl rfl ?_
          exact W.retD X75 C e75 d3_65 (by decide) (by decide) ⟨by rw [own_div, if_neg hc45, own_pt hc48, own_pf hc68, own_pt hc71]; rfl, N0, rfl⟩
      · replace hc68 : (0 : Int32).toInt < x1.toInt := hc68
        refine W.iinc (q := 40) (L' := #[.val (.ref p0), .val (.double (4607182418800017408 : UInt64)), .second, .val (.int (2 : Int32)), .val (.int (1 : Int32))]) X67 C d3_37 rfl (by decide) rfl rfl ?_
        refine W.dloadN (q := 41) X67 C d3_40 rfl rfl ?_
        refine W.iloadN (q := 42) X67 C d3_41 rfl rfl ?_
        refine W.i2d (q := 43) (v := 4611686018427387904) X67 C d3_42 (by decide +kernel) rfl ?_
        refine W.iload (q := 45) X67 C d3_43 rfl rfl ?_
        refine W.iconst (q := 46) (v := 1) X67 C d3_45 rfl rfl ?_
        refine W.iadd (q := 47) X67 C d3_46 rfl ?_
        rw [show ((1 : Int32) + (1 : Int32)) = (2 : Int32) by decide]
        refine W.i2d (q := 48) (v := 4611686018427387904) X67 C d3_47 (by decide +kernel) rfl ?_
        refine W.ddiv (q := 49) (v := 4607182418800017408) X67 C d3_48 (by decide +kernel) (by decide +kernel) rfl ?_
        refine W.dadd (q := 50) (v := 4611686018427387904) X67 C d3_49 (by decide +kernel) (by decide +kernel) rfl ?_
        refine W.dstoreN (q := 51) (L' := #[.val (.ref p0), .val (.double (4611686018427387904 : UInt64)), .second, .val (.int (2 : Int32)), .val (.int (1 : Int32))]) X67 C d3_50 rfl rfl ?_
        refine W.iinc (q := 54) (L' := #[.val (.ref p0), .val (.double (4611686018427387904 : UInt64)), .second, .val (.int (2 : Int32)), .val (.int (2 : Int32))]) X67 C d3_51 rfl (by decide) rfl rfl ?_
        refine W.goto (q := 17) X67 C d3_54 (by decide) (by decide) ?_
        refine W.iload (q := 19) X67 C d3_17 rfl rfl ?_
        refine W.aloadN (q := 20) X67 C d3_19 rfl rfl rfl ?_
        refine W.getF (host := "") (q := 23) X67 C (Or.inl (W.ww hw 11 rfl)) Via.refl e67 F0 d3_20 rfl (fun T76 X76 e76 => ?_)
        refine W.arraylength (q := 24) X76 C e76 V0 d3_23 rfl ?_
        refine W.icmpF (q := 27) X76 C d3_24 rfl (by decide : W.cF .ge (2 : Int32) (3 : Int32)) ?_
        refine W.aloadN (q := 28) X76 C d3_27 rfl rfl rfl ?_
        refine W.getF (host := "") (q := 31) X76 C (Or.inl (W.ww hw 11 rfl)) Via.refl e76 F0 d3_28 rfl (fun T77 X77 e77 => ?_)
        refine W.iload (q := 33) X77 C d3_31 rfl rfl ?_
        refine W.iaload (q := 34) X77 C e77 V0 (by decide) (by decide) rfl d3_33 rfl ?_
        refine W.if_ (q := 51) (q' := 37) X77 C d3_34 (by decide) (by decide) rfl (fun hc78 => ?_) (fun hc78 => ?_)
        · replace hc78 : x2.toInt ≤ (0 : Int32).toInt := hc78
          refine W.iinc (q := 54) (L' := #[.val (.ref p0), .val (.double (4611686018427387904 : UInt64)), .second, .val (.int (2 : Int32)), .val (.int (3 : Int32))]) X77 C d3_51 rfl (by decide) rfl rfl ?_
          refine W.goto (q := 17) X77 C d3_54 (by decide) (by decide) ?_
          refine W.iload (q := 19) X77 C d3_17 rfl rfl ?_
          refine W.aloadN (q := 20) X77 C d3_19 rfl rfl rfl ?_
          refine W.getF (host := "") (q := 23) X77 C (Or.inl (W.ww hw 11 rfl)) Via.refl e77 F0 d3_20 rfl (fun T79 X79 e79 => ?_)
          refine W.arraylength (q := 24) X79 C e79 V0 d3_23 rfl ?_
          refine W.icmpT (q := 57) X79 C d3_24 (by decide) (by decide) (by decide : W.cT .ge (3 : Int32) (3 : Int32)) ?_
          refine W.dloadN (q := 58) X79 C d3_57 rfl rfl ?_
          refine W.aloadN (q := 59) X79 C d3_58 rfl rfl rfl ?_
          refine W.getF (host := "") (q := 62) X79 C (Or.inl (W.ww hw 13 rfl)) Via.refl e79 G0 d3_59 rfl (fun T80 X80 e80 => ?_)
          refine W.arraylength (q := 63) X80 C e80 V1 d3_62 rfl ?_
          refine W.i2d (q := 64) (v := FP.i2d mm) X80 C d3_63 rfl rfl ?_
          refine W.ddiv (q := 65) (v := FP.ddiv (4611686018427387904 : UInt64) (FP.i2d mm)) X80 C d3_64 (own_nn true true false false mm hc45 hm.1 hm.2) rfl rfl ?_
          exact W.retD X80 C e80 d3_65 (by decide) (by decide) ⟨by rw [own_div, if_neg hc45, own_pt hc48, own_pt hc68, own_pf hc78]; rfl, N0, rfl⟩
        · replace hc78 : (0 : Int32).toInt < x2.toInt := hc78
          refine W.iinc (q := 40) (L' := #[.val (.ref p0), .val (.double (4611686018427387904 : UInt64)), .second, .val (.int (3 : Int32)), .val (.int (2 : Int32))]) X77 C d3_37 rfl (by decide) rfl rfl ?_
          refine W.dloadN (q := 41) X77 C d3_40 rfl rfl ?_
          refine W.iloadN (q := 42) X77 C d3_41 rfl rfl ?_
          refine W.i2d (q := 43) (v := 4613937818241073152) X77 C d3_42 (by decide +kernel) rfl ?_
          refine W.iload (q := 45) X77 C d3_43 rfl rfl ?_
          refine W.iconst (q := 46) (v := 1) X77 C d3_45 rfl rfl ?_
          refine W.iadd (q := 47) X77 C d3_46 rfl ?_
          rw [show ((2 : Int32) + (1 : Int32)) = (3 : Int32) by decide]
          refine W.i2d (q := 48) (v := 4613937818241073152) X77 C d3_47 (by decide +kernel) rfl ?_
          refine W.ddiv (q := 49) (v := 4607182418800017408) X77 C d3_48 (by decide +kernel) (by decide +kernel) rfl ?_
          refine W.dadd (q := 50) (v := 4613937818241073152) X77 C d3_49 (by decide +kernel) (by decide +kernel) rfl ?_
          refine W.dstoreN (q := 51) (L' := #[.val (.ref p0), .val (.double (4613937818241073152 : UInt64)), .second, .val (.int (3 : Int32)), .val (.int (2 : Int32))]) X77 C d3_50 rfl rfl ?_
          refine W.iinc (q := 54) (L' := #[.val (.ref p0), .val (.double (4613937818241073152 : UInt64)), .second, .val (.int (3 : Int32)), .val (.int (3 : Int32))]) X77 C d3_51 rfl (by decide) rfl rfl ?_
          refine W.goto (q := 17) X77 C d3_54 (by decide) (by decide) ?_
          refine W.iload (q := 19) X77 C d3_17 rfl rfl ?_
          refine W.aloadN (q := 20) X77 C d3_19 rfl rfl rfl ?_
          refine W.getF (host := "") (q := 23) X77 C (Or.inl (W.ww hw 11 rfl)) Via.refl e77 F0 d3_20 rfl (fun T81 X81 e81 => ?_)
          refine W.arraylength (q := 24) X81 C e81 V0 d3_23 rfl ?_
          refine W.icmpT (q := 57) X81 C d3_24 (by decide) (by decide) (by decide : W.cT .ge (3 : Int32) (3 : Int32)) ?_
          refine W.dloadN (q := 58) X81 C d3_57 rfl rfl ?_
          refine W.aloadN (q := 59) X81 C d3_58 rfl rfl rfl ?_
          refine W.getF (host := "") (q := 62) X81 C (Or.inl (W.ww hw 13 rfl)) Via.refl e81 G0 d3_59 rfl (fun T82 X82 e82 => ?_)
          refine W.arraylength (q := 63) X82 C e82 V1 d3_62 rfl ?_
          refine W.i2d (q := 64) (v := FP.i2d mm) X82 C d3_63 rfl rfl ?_
          refine W.ddiv (q := 65) (v := FP.ddiv (4613937818241073152 : UInt64) (FP.i2d mm)) X82 C d3_64 (own_nn true true true false mm hc45 hm.1 hm.2) rfl rfl ?_
          exact W.retD X82 C e82 d3_65 (by decide) (by decide) ⟨by rw [own_div, if_neg hc45, own_pt hc48, own_pt hc68, own_pt hc78]; rfl, N0, rfl⟩
  · replace hc45 : mm = 0 := hc45
    refine W.dconst0 (q := 9) (v := 0) X44 C d3_8 rfl rfl ?_
    exact W.retD X44 C e44 d3_9 (by decide) (by decide) ⟨by rw [own_div, if_pos hc45], N0, rfl⟩
def Q3_4 (Z : State) (p0 : Addr) (ra ia : Addr) (k0 k1 : ClassId) (mm : Int32) (vi : List Value) (x0 : Int32) (x1 : Int32) (x2 : Int32) (x3 : Int32) (h0 : Heap) (n0 : Nat) (v : Option Value) (h : Heap) (L : List Loc) : Prop := v = some (.double (own_div (own_tab (own_pos x0) (own_pos x1) (own_pos x2) (own_pos x3)) mm)) ∧ Fr n0 L ∧ h = h0
set_option maxRecDepth 65536 in
set_option maxHeartbeats 40000000 in
theorem rm3_4 (l : Launch) (Z : State) (a0 : Array Value) (hw : ∀ d ∈ tables_1, d.before a0 Z = true) (ws : List Jvm.Cond) (p0 : Addr) (ra ia : Addr) (k0 k1 : ClassId) (mm : Int32) (vi : List Value) (x0 : Int32) (x1 : Int32) (x2 : Int32) (x3 : Int32) (h0 : Heap) (n0 : Nat) (F0 : Fld Z h0 p0 "com/example/cranfield/cranfield/measures/RankedQuery" "ranked" "[I" (.ref ra)) (G0 : Fld Z h0 p0 "com/example/cranfield/cranfield/measures/RankedQuery" "ideal" "[I" (.ref ia)) (V0 : Arv Z h0 ra k0 .int (4 : Int32) [(.int x0), (.int x1), (.int x2), (.int x3)] (.int (0 : Int32))) (V1 : Arv Z h0 ia k1 .int mm vi (.int (0 : Int32))) (hm : 0 ≤ mm.toInt ∧ mm.toInt ≤ 7) :
    MetFree l (⟨"com/example/cranfield/cranfield/measures/RankedQuery", "averagePrecision", "()D"⟩ : MethodName) (head1 (Jvm.Cond.code (⟨"com/example/cranfield/cranfield/measures/RankedQuery", "averagePrecision", "()D"⟩ : MethodName) prog_49_method_4_code 5 (some .double) :: ws) ({ frames := 0, cells := 0, slots := 0, locals := 0 } : Room)) (fun a U => a = #[(.ref p0)] ∧ Z.Warmed39 U.vm ∧ U.heap = h0) (fun _ _ _ _ _ => True) (fun _ U o U' => ∃ v L, o = .returned v ∧ Q3_4 Z p0 ra ia k0 k1 mm vi x0 x1 x2 x3 h0 n0 v U'.heap L ∧ FrameEnd U o U' L ({ frames := 0, cells := 0, slots := 0, locals := 0 } : Room).cells ({ frames := 0, cells := 0, slots := 0, locals := 0 } : Room).slots) := by
  refine W.bodyOf (y := (⟨"com/example/cranfield/cranfield/measures/RankedQuery", "averagePrecision", "()D"⟩ : MethodName)) (as := #[(.ref p0)]) (maxL := 5) (Q := Q3_4 Z p0 ra ia k0 k1 mm vi x0 x1 x2 x3 h0 n0) (Ls := #[.val (.ref p0), .unset, .unset, .unset, .unset]) (plainFor_of_name pn_com_example_cranfield_cranfield_measures_RankedQuery) (fun m => by first | exact W.entry_of rfl | rfl | (simp [entryFrame, mkF, argsToLocals, Value.category]; done)) ?_
  intro p e s m below meth c T0 C X0 e0
  have N0 := Fr.nil n0
  refine W.aloadN (q := 1) X0 C d3_0 rfl rfl rfl ?_
  refine W.getF (host := "") (q := 4) X0 C (Or.inl (W.ww hw 13 rfl)) Via.refl e0 G0 d3_1 rfl (fun T83 X83 e83 => ?_)
  refine W.arraylength (q := 5) X83 C e83 V1 d3_4 rfl ?_
  refine W.if_ (q := 10) (q' := 8) X83 C d3_5 (by decide) (by decide) rfl (fun hc84 => ?_) (fun hc84 => ?_)
  · replace hc84 : mm ≠ 0 := hc84
    refine W.dconst0 (q := 11) (v := 0) X83 C d3_10 rfl rfl ?_
    refine W.dstoreN (q := 12) (L' := #[.val (.ref p0), .val (.double (0 : UInt64)), .second, .unset, .unset]) X83 C d3_11 rfl rfl ?_
    refine W.iconst (q := 13) (v := 0) X83 C d3_12 rfl rfl ?_
    refine W.istoreN (q := 14) (L' := #[.val (.ref p0), .val (.double (0 : UInt64)), .second, .val (.int (0 : Int32)), .unset]) X83 C d3_13 rfl rfl ?_
    refine W.iconst (q := 15) (v := 0) X83 C d3_14 rfl rfl ?_
    refine W.istore (q := 17) (L' := #[.val (.ref p0), .val (.double (0 : UInt64)), .second, .val (.int (0 : Int32)), .val (.int (0 : Int32))]) X83 C d3_15 rfl rfl ?_
    refine W.iload (q := 19) X83 C d3_17 rfl rfl ?_
    refine W.aloadN (q := 20) X83 C d3_19 rfl rfl rfl ?_
    refine W.getF (host := "") (q := 23) X83 C (Or.inl (W.ww hw 11 rfl)) Via.refl e83 F0 d3_20 rfl (fun T85 X85 e85 => ?_)
    refine W.arraylength (q := 24) X85 C e85 V0 d3_23 rfl ?_
    refine W.icmpF (q := 27) X85 C d3_24 rfl (by decide : W.cF .ge (0 : Int32) (4 : Int32)) ?_
    refine W.aloadN (q := 28) X85 C d3_27 rfl rfl rfl ?_
    refine W.getF (host := "") (q := 31) X85 C (Or.inl (W.ww hw 11 rfl)) Via.refl e85 F0 d3_28 rfl (fun T86 X86 e86 => ?_)
    refine W.iload (q := 33) X86 C d3_31 rfl rfl ?_
    refine W.iaload (q := 34) X86 C e86 V0 (by decide) (by decide) rfl d3_33 rfl ?_
    refine W.if_ (q := 51) (q' := 37) X86 C d3_34 (by decide) (by decide) rfl (fun hc87 => ?_) (fun hc87 => ?_)
    · replace hc87 : x0.toInt ≤ (0 : Int32).toInt := hc87
      refine W.iinc (q := 54) (L' := #[.val (.ref p0), .val (.double (0 : UInt64)), .second, .val (.int (0 : Int32)), .val (.int (1 : Int32))]) X86 C d3_51 rfl (by decide) rfl rfl ?_
      refine W.goto (q := 17) X86 C d3_54 (by decide) (by decide) ?_
      refine W.iload (q := 19) X86 C d3_17 rfl rfl ?_
      refine W.aloadN (q := 20) X86 C d3_19 rfl rfl rfl ?_
      refine W.getF (host := "") (q := 23) X86 C (Or.inl (W.ww hw 11 rfl)) Via.refl e86 F0 d3_20 rfl (fun T88 X88 e88 => ?_)
      refine W.arraylength (q := 24) X88 C e88 V0 d3_23 rfl ?_
      refine W.icmpF (q := 27) X88 C d3_24 rfl (by decide : W.cF .ge (1 : Int32) (4 : Int32)) ?_
      refine W.aloadN (q := 28) X88 C d3_27 rfl rfl rfl ?_
      refine W.getF (host := "") (q := 31) X88 C (Or.inl (W.ww hw 11 rfl)) Via.refl e88 F0 d3_28 rfl (fun T89 X89 e89 => ?_)
      refine W.iload (q := 33) X89 C d3_31 rfl rfl ?_
      refine W.iaload (q := 34) X89 C e89 V0 (by decide) (by decide) rfl d3_33 rfl ?_
      refine W.if_ (q := 51) (q' := 37) X89 C d3_34 (by decide) (by decide) rfl (fun hc90 => ?_) (fun hc90 => ?_)
      · replace hc90 : x1.toInt ≤ (0 : Int32).toInt := hc90
        refine W.iinc (q := 54) (L' := #[.val (.ref p0), .val (.double (0 : UInt64)), .second, .val (.int (0 : Int32)), .val (.int (2 : Int32))]) X89 C d3_51 rfl (by decide) rfl rfl ?_
        refine W.goto (q := 17) X89 C d3_54 (by decide) (by decide) ?_
        refine W.iload (q := 19) X89 C d3_17 rfl rfl ?_
        refine W.aloadN (q := 20) X89 C d3_19 rfl rfl rfl ?_
        refine W.getF (host := "") (q := 23) X89 C (Or.inl (W.ww hw 11 rfl)) Via.refl e89 F0 d3_20 rfl (fun T91 X91 e91 => ?_)
        refine W.arraylength (q := 24) X91 C e91 V0 d3_23 rfl ?_
        refine W.icmpF (q := 27) X91 C d3_24 rfl (by decide : W.cF .ge (2 : Int32) (4 : Int32)) ?_
        refine W.aloadN (q := 28) X91 C d3_27 rfl rfl rfl ?_
        refine W.getF (host := "") (q := 31) X91 C (Or.inl (W.ww hw 11 rfl)) Via.refl e91 F0 d3_28 rfl (fun T92 X92 e92 => ?_)
        refine W.iload (q := 33) X92 C d3_31 rfl rfl ?_
        refine W.iaload (q := 34) X92 C e92 V0 (by decide) (by decide) rfl d3_33 rfl ?_
        refine W.if_ (q := 51) (q' := 37) X92 C d3_34 (by decide) (by decide) rfl (fun hc93 => ?_) (fun hc93 => ?_)
        · replace hc93 : x2.toInt ≤ (0 : Int32).toInt := hc93
          refine W.iinc (q := 54) (L' := #[.val (.ref p0), .val (.double (0 : UInt64)), .second, .val (.int (0 : Int32)), .val (.int (3 : Int32))]) X92 C d3_51 rfl (by decide) rfl rfl ?_
          refine W.goto (q := 17) X92 C d3_54 (by decide) (by decide) ?_
          refine W.iload (q := 19) X92 C d3_17 rfl rfl ?_
          refine W.aloadN (q := 20) X92 C d3_19 rfl rfl rfl ?_
          refine W.getF (host := "") (q := 23) X92 C (Or.inl (W.ww hw 11 rfl)) Via.refl e92 F0 d3_20 rfl (fun T94 X94 e94 => ?_)
          refine W.arraylength (q := 24) X94 C e94 V0 d3_23 rfl ?_
          refine W.icmpF (q := 27) X94 C d3_24 rfl (by decide : W.cF .ge (3 : Int32) (4 : Int32)) ?_
          refine W.aloadN (q := 28) X94 C d3_27 rfl rfl rfl ?_
          refine W.getF (host := "") (q := 31) X94 C (Or.inl (W.ww hw 11 rfl)) Via.refl e94 F0 d3_28 rfl (fun T95 X95 e95 => ?_)
          refine W.iload (q := 33) X95 C d3_31 rfl rfl ?_
          refine W.iaload (q := 34) X95 C e95 V0 (by decide) (by decide) rfl d3_33 rfl ?_
          refine W.if_ (q := 51) (q' := 37) X95 C d3_34 (by decide) (by decide) rfl (fun hc96 => ?_) (fun hc96 => ?_)
          · replace hc96 : x3.toInt ≤ (0 : Int32).toInt := hc96
            refine W.iinc (q := 54) (L' := #[.val (.ref p0), .val (.double (0 : UInt64)), .second, .val (.int (0 : Int32)), .val (.int (4 : Int32))]) X95 C d3_51 rfl (by decide) rfl rfl ?_
            refine W.goto (q := 17) X95 C d3_54 (by decide) (by decide) ?_
            refine W.iload (q := 19) X95 C d3_17 rfl rfl ?_
            refine W.aloadN (q := 20) X95 C d3_19 rfl rfl rfl ?_
            refine W.getF (host := "") (q := 23) X95 C (Or.inl (W.ww hw 11 rfl)) Via.refl e95 F0 d3_20 rfl (fun T97 X97 e97 => ?_)
            refine W.arraylength (q := 24) X97 C e97 V0 d3_23 rfl ?_
            refine W.icmpT (q := 57) X97 C d3_24 (by decide) (by decide) (by decide : W.cT .ge (4 : Int32) (4 : Int32)) ?_
            refine W.dloadN (q := 58) X97 C d3_57 rfl rfl ?_
            refine W.aloadN (q := 59) X97 C d3_58 rfl rfl rfl ?_
            refine W.getF (host := "") (q := 62) X97 C (Or.inl (W.ww hw 13 rfl)) Via.refl e97 G0 d3_59 rfl (fun T98 X98 e98 => ?_)
            refine W.arraylength (q := 63) X98 C e98 V1 d3_62 rfl ?_
            refine W.i2d (q := 64) (v := FP.i2d mm) X98 C d3_63 rfl rfl ?_
            refine W.ddiv (q := 65) (v := FP.ddiv (0 : UInt64) (FP.i2d mm)) X98 C d3_64 (own_nn false false false false mm hc84 hm.1 hm.2) rfl rfl ?_
            exact W.retD X98 C e98 d3_65 (by decide) (by decide) ⟨by rw [own_div, if_neg hc84, own_pf hc87, own_pf hc90, own_pf hc93, own_pf hc96]; rfl, N0, rfl⟩
          · replace hc96 : (0 : Int32).toInt < x3.toInt := hc96
            refine W.iinc (q := 40) (L' := #[.val (.ref p0), .val (.double (0 : UInt64)), .second, .val (.int (1 : Int32)), .val (.int (3 : Int32))]) X95 C d3_37 rfl (by decide) rfl rfl ?_
            refine W.dloadN (q := 41) X95 C d3_40 rfl rfl ?_
            refine W.iloadN (q := 42) X95 C d3_41 rfl rfl ?_
            refine W.i2d (q := 43) (v := 4607182418800017408) X95 C d3_42 (by decide +kernel) rfl ?_
            refine W.iload (q := 45) X95 C d3_43 rfl rfl ?_
            refine W.iconst (q := 46) (v := 1) X95 C d3_45 rfl rfl ?_
            refine W.iadd (q := 47) X95 C d3_46 rfl ?_
            rw [show ((3 : Int32) + (1 : Int32)) = (4 : Int32) by decide]
            refine W.i2d (q := 48) (v := 4616189618054758400) X95 C d3_47 (by decide +kernel) rfl ?_
            refine W.ddiv (q := 49) (v := 4598175219545276416) X95 C d3_48 (by decide +kernel) (by decide +kernel) rfl ?_
            refine W.dadd (q := 50) (v := 4598175219545276416) X95 C d3_49 (by decide +kernel) (by decide +kernel) rfl ?_
            refine W.dstoreN (q := 51) (L' := #[.val (.ref p0), .val (.double (4598175219545276416 : UInt64)), .second, .val (.int (1 : Int32)), .val (.int (3 : Int32))]) X95 C d3_50 rfl rfl ?_
            refine W.iinc (q := 54) (L' := #[.val (.ref p0), .val (.double (4598175219545276416 : UInt64)), .second, .val (.int (1 : Int32)), .val (.int (4 : Int32))]) X95 C d3_51 rfl (by decide) rfl rfl ?_
            refine W.goto (q := 17) X95 C d3_54 (by decide) (by decide) ?_
            refine W.iload (q := 19) X95 C d3_17 rfl rfl ?_
            refine W.aloadN (q := 20) X95 C d3_19 rfl rfl rfl ?_
            refine W.getF (host := "") (q := 23) X95 C (Or.inl (W.ww hw 11 rfl)) Via.refl e95 F0 d3_20 rfl (fun T99 X99 e99 => ?_)
            refine W.arraylength (q := 24) X99 C e99 V0 d3_23 rfl ?_
            refine W.icmpT (q := 57) X99 C d3_24 (by decide) (by decide) (by decide : W.cT .ge (4 : Int32) (4 : Int32)) ?_
            refine W.dloadN (q := 58) X99 C d3_57 rfl rfl ?_
            refine W.aloadN (q := 59) X99 C d3_58 rfl rfl rfl ?_
            refine W.getF (host := "") (q := 62) X99 C (Or.inl (W.ww hw 13 rfl)) Via.refl e99 G0 d3_59 rfl (fun T100 X100 e100 => ?_)
            refine W.arraylength (q := 63) X100 C e100 V1 d3_62 rfl ?_
            refine W.i2d (q := 64) (v := FP.i2d mm) X100 C d3_63 rfl rfl ?_
            refine W.ddiv (q := 65) (v := FP.ddiv (4598175219545276416 : UInt64) (FP.i2d mm)) X100 C d3_64 (own_nn false false false true mm hc84 hm.1 hm.2) rfl rfl ?_
            exact W.retD X100 C e100 d3_65 (by decide) (by decide) ⟨by rw [own_div, if_neg hc84, own_pf hc87, own_pf hc90, own_pf hc93, own_pt hc96]; rfl, N0, rfl⟩
        · replace hc93 : (0 : Int32).toInt < x2.toInt := hc93
          refine W.iinc (q := 40) (L' := #[.val (.ref p0), .val (.double (0 : UInt64)), .second, .val (.int (1 : Int32)), .val (.int (2 : Int32))]) X92 C d3_37 rfl (by decide) rfl rfl ?_
          refine W.dloadN (q := 41) X92 C d3_40 rfl rfl ?_
          refine W.iloadN (q := 42) X92 C d3_41 rfl rfl ?_
          refine W.i2d (q := 43) (v := 4607182418800017408) X92 C d3_42 (by decide +kernel) rfl ?_
          refine W.iload (q := 45) X92 C d3_43 rfl rfl ?_
          refine W.iconst (q := 46) (v := 1) X92 C d3_45 rfl rfl ?_
          refine W.iadd (q := 47) X92 C d3_46 rfl ?_
          rw [show ((2 : Int32) + (1 : Int32)) = (3 : Int32) by decide]
          refine W.i2d (q := 48) (v := 4613937818241073152) X92 C d3_47 (by decide +kernel) rfl ?_
          refine W.ddiv (q := 49) (v := 4599676419421066581) X92 C d3_48 (by decide +kernel) (by decide +kernel) rfl ?_
          refine W.dadd (q := 50) (v := 4599676419421066581) X92 C d3_49 (by decide +kernel) (by decide +kernel) rfl ?_
          refine W.dstoreN (q := 51) (L' := #[.val (.ref p0), .val (.double (4599676419421066581 : UInt64)), .second, .val (.int (1 : Int32)), .val (.int (2 : Int32))]) X92 C d3_50 rfl rfl ?_
          refine W.iinc (q := 54) (L' := #[.val (.ref p0), .val (.double (4599676419421066581 : UInt64)), .second, .val (.int (1 : Int32)), .val (.int (3 : Int32))]) X92 C d3_51 rfl (by decide) rfl rfl ?_
          refine W.goto (q := 17) X92 C d3_54 (by decide) (by decide) ?_
          refine W.iload (q := 19) X92 C d3_17 rfl rfl ?_
          refine W.aloadN (q := 20) X92 C d3_19 rfl rfl rfl ?_
          refine W.getF (host := "") (q := 23) X92 C (Or.inl (W.ww hw 11 rfl)) Via.refl e92 F0 d3_20 rfl (fun T101 X101 e101 => ?_)
          refine W.arraylength (q := 24) X101 C e101 V0 d3_23 rfl ?_
          refine W.icmpF (q := 27) X101 C d3_24 rfl (by decide : W.cF .ge (3 : Int32) (4 : Int32)) ?_
          refine W.aloadN (q := 28) X101 C d3_27 rfl rfl rfl ?_
          refine W.getF (host := "") (q := 31) X101 C (Or.inl (W.ww hw 11 rfl)) Via.refl e101 F0 d3_28 rfl (fun T102 X102 e102 => ?_)
          refine W.iload (q := 33) X102 C d3_31 rfl rfl ?_
          refine W.iaload (q := 34) X102 C e102 V0 (by decide) (by decide) rfl d3_33 rfl ?_
          refine W.if_ (q := 51) (q' := 37) X102 C d3_34 (by decide) (by decide) rfl (fun hc103 => ?_) (fun hc103 => ?_)
          · replace hc103 : x3.toInt ≤ (0 : Int32).toInt := hc103
            refine W.iinc (q := 54) (L' := #[.val (.ref p0), .val (.double (4599676419421066581 : UInt64)), .second, .val (.int (1 : Int32)), .val (.int (4 : Int32))]) X102 C d3_51 rfl (by decide) rfl rfl ?_
            refine W.goto (q := 17) X102 C d3_54 (by decide) (by decide) ?_
            refine W.iload (q := 19) X102 C d3_17 rfl rfl ?_
            refine W.aloadN (q := 20) X102 C d3_19 rfl rfl rfl ?_
            refine W.getF (host := "") (q := 23) X102 C (Or.inl (W.ww hw 11 rfl)) Via.refl e102 F0 d3_20 rfl (fun T104 X104 e104 => ?_)
            refine W.arraylength (q := 24) X104 C e104 V0 d3_23 rfl ?_
            refine W.icmpT (q := 57) X104 C d3_24 (by decide) (by decide) (by decide : W.cT .ge (4 : Int32) (4 : Int32)) ?_
            refine W.dloadN (q := 58) X104 C d3_57 rfl rfl ?_
            refine W.aloadN (q := 59) X104 C d3_58 rfl rfl rfl ?_
            refine W.getF (host := "") (q := 62) X104 C (Or.inl (W.ww hw 13 rfl)) Via.refl e104 G0 d3_59 rfl (fun T105 X105 e105 => ?_)
            refine W.arraylength (q := 63) X105 C e105 V1 d3_62 rfl ?_
            refine W.i2d (q := 64) (v := FP.i2d mm) X105 C d3_63 rfl rfl ?_
            refine W.ddiv (q := 65) (v := FP.ddiv (4599676419421066581 : UInt64) (FP.i2d mm)) X105 C d3_64 (own_nn false false true false mm hc84 hm.1 hm.2) rfl rfl ?_
            exact W.retD X105 C e105 d3_65 (by decide) (by decide) ⟨by rw [own_div, if_neg hc84, own_pf hc87, own_pf hc90, own_pt hc93, own_pf hc103]; rfl, N0, rfl⟩
          · replace hc103 : (0 : Int32).toInt < x3.toInt := hc103
            refine W.iinc (q := 40) (L' := #[.val (.ref p0), .val (.double (4599676419421066581 : UInt64)), .second, .val (.int (2 : Int32)), .val (.int (3 : Int32))]) X102 C d3_37 rfl (by decide) rfl rfl ?_
            refine W.dloadN (q := 41) X102 C d3_40 rfl rfl ?_
            refine W.iloadN (q := 42) X102 C d3_41 rfl rfl ?_
            refine W.i2d (q := 43) (v := 4611686018427387904) X102 C d3_42 (by decide +kernel) rfl ?_
            refine W.iload (q := 45) X102 C d3_43 rfl rfl ?_
            refine W.iconst (q := 46) (v := 1) X102 C d3_45 rfl rfl ?_
            refine W.iadd (q := 47) X102 C d3_46 rfl ?_
            rw [show ((3 : Int32) + (1 : Int32)) = (4 : Int32) by decide]
            refine W.i2d (q := 48) (v := 4616189618054758400) X102 C d3_47 (by decide +kernel) rfl ?_
            refine W.ddiv (q := 49) (v := 4602678819172646912) X102 C d3_48 (by decide +kernel) (by decide +kernel) rfl ?_
            refine W.dadd (q := 50) (v := 4605681218924227242) X102 C d3_49 (by decide +kernel) (by decide +kernel) rfl ?_
            refine W.dstoreN (q := 51) (L' := #[.val (.ref p0), .val (.double (4605681218924227242 : UInt64)), .second, .val (.int (2 : Int32)), .val (.int (3 : Int32))]) X102 C d3_50 rfl rfl ?_
            refine W.iinc (q := 54) (L' := #[.val (.ref p0), .val (.double (4605681218924227242 : UInt64)), .second, .val (.int (2 : Int32)), .val (.int (4 : Int32))]) X102 C d3_51 rfl (by decide) rfl rfl ?_
            refine W.goto (q := 17) X102 C d3_54 (by decide) (by decide) ?_
            refine W.iload (q := 19) X102 C d3_17 rfl rfl ?_
            refine W.aloadN (q := 20) X102 C d3_19 rfl rfl rfl ?_
            refine W.getF (host := "") (q := 23) X102 C (Or.inl (W.ww hw 11 rfl)) Via.refl e102 F0 d3_20 rfl (fun T106 X106 e106 => ?_)
            refine W.arraylength (q := 24) X106 C e106 V0 d3_23 rfl ?_
            refine W.icmpT (q := 57) X106 C d3_24 (by decide) (by decide) (by decide : W.cT .ge (4 : Int32) (4 : Int32)) ?_
            refine W.dloadN (q := 58) X106 C d3_57 rfl rfl ?_
            refine W.aloadN (q := 59) X106 C d3_58 rfl rfl rfl ?_
            refine W.getF (host := "") (q := 62) X106 C (Or.inl (W.ww hw 13 rfl)) Via.refl e106 G0 d3_59 rfl (fun T107 X107 e107 => ?_)
            refine W.arraylength (q := 63) X107 C e107 V1 d3_62 rfl ?_
            refine W.i2d (q := 64) (v := FP.i2d mm) X107 C d3_63 rfl rfl ?_
            refine W.ddiv (q := 65) (v := FP.ddiv (4605681218924227242 : UInt64) (FP.i2d mm)) X107 C d3_64 (own_nn false false true true mm hc84 hm.1 hm.2) rfl rfl ?_
            exact W.retD X107 C e107 d3_65 (by decide) (by decide) ⟨by rw [own_div, if_neg hc84, own_pf hc87, own_pf hc90, own_pt hc93, own_pt hc103]; rfl, N0, rfl⟩
      · replace hc90 : (0 : Int32).toInt < x1.toInt := hc90
        refine W.iinc (q := 40) (L' := #[.val (.ref p0), .val (.double (0 : UInt64)), .second, .val (.int (1 : Int32)), .val (.int (1 : Int32))]) X89 C d3_37 rfl (by decide) rfl rfl ?_
        refine W.dloadN (q := 41) X89 C d3_40 rfl rfl ?_
        refine W.iloadN (q := 42) X89 C d3_41 rfl rfl ?_
        refine W.i2d (q := 43) (v := 4607182418800017408) X89 C d3_42 (by decide +kernel) rfl ?_
        refine W.iload (q := 45) X89 C d3_43 rfl rfl ?_
        refine W.iconst (q := 46) (v := 1) X89 C d3_45 rfl rfl ?_
        refine W.iadd (q := 47) X89 C d3_46 rfl ?_
        rw [show ((1 : Int32) + (1 : Int32)) = (2 : Int32) by decide]
        refine W.i2d (q := 48) (v := 4611686018427387904) X89 C d3_47 (by decide +kernel) rfl ?_
        refine W.ddiv (q := 49) (v := 4602678819172646912) X89 C d3_48 (by decide +kernel) (by decide +kernel) rfl ?_
        refine W.dadd (q := 50) (v := 4602678819172646912) X89 C d3_49 (by decide +kernel) (by decide +kernel) rfl ?_
        refine W.dstoreN (q := 51) (L' := #[.val (.ref p0), .val (.double (4602678819172646912 : UInt64)), .second, .val (.int (1 : Int32)), .val (.int (1 : Int32))]) X89 C d3_50 rfl rfl ?_
        refine W.iinc (q := 54) (L' := #[.val (.ref p0), .val (.double (4602678819172646912 : UInt64)), .second, .val (.int (1 : Int32)), .val (.int (2 : Int32))]) X89 C d3_51 rfl (by decide) rfl rfl ?_
        refine W.goto (q := 17) X89 C d3_54 (by decide) (by decide) ?_
        refine W.iload (q := 19) X89 C d3_17 rfl rfl ?_
        refine W.aloadN (q := 20) X89 C d3_19 rfl rfl rfl ?_
        refine W.getF (host := "") (q := 23) X89 C (Or.inl (W.ww hw 11 rfl)) Via.refl e89 F0 d3_20 rfl (fun T108 X108 e108 => ?_)
        refine W.arraylength (q := 24) X108 C e108 V0 d3_23 rfl ?_
        refine W.icmpF (q := 27) X108 C d3_24 rfl (by decide : W.cF .ge (2 : Int32) (4 : Int32)) ?_
        refine W.aloadN (q := 28) X108 C d3_27 rfl rfl rfl ?_
        refine W.getF (host := "") (q := 31) X108 C (Or.inl (W.ww hw 11 rfl)) Via.refl e108 F0 d3_28 rfl (fun T109 X109 e109 => ?_)
        refine W.iload (q := 33) X109 C d3_31 rfl rfl ?_
        refine W.iaload (q := 34) X109 C e109 V0 (by decide) (by decide) rfl d3_33 rfl ?_
        refine W.if_ (q := 51) (q' := 37) X109 C d3_34 (by decide) (by decide) rfl (fun hc110 => ?_) (fun hc110 => ?_)
        · replace hc110 : x2.toInt ≤ (0 : Int32).toInt := hc110
          refine W.iinc (q := 54) (L' := #[.val (.ref p0), .val (.double (4602678819172646912 : UInt64)), .second, .val (.int (1 : Int32)), .val (.int (3 : Int32))]) X109 C d3_51 rfl (by decide) rfl rfl ?_
          refine W.goto (q := 17) X109 C d3_54 (by decide) (by decide) ?_
          refine W.iload (q := 19) X109 C d3_17 rfl rfl ?_
          refine W.aloadN (q := 20) X109 C d3_19 rfl rfl rfl ?_
          refine W.getF (host := "") (q := 23) X109 C (Or.inl (W.ww hw 11 rfl)) Via.refl e109 F0 d3_20 rfl (fun T111 X111 e111 => ?_)
          refine W.arraylength (q := 24) X111 C e111 V0 d3_23 rfl ?_
          refine W.icmpF (q := 27) X111 C d3_24 rfl (by decide : W.cF .ge (3 : Int32) (4 : Int32)) ?_
          refine W.aloadN (q := 28) X111 C d3_27 rfl rfl rfl ?_
          refine W.getF (host := "") (q := 31) X111 C (Or.inl (W.ww hw 11 rfl)) Via.refl e111 F0 d3_28 rfl (fun T112 X112 e112 => ?_)
          refine W.iload (q := 33) X112 C d3_31 rfl rfl ?_
          refine W.iaload (q := 34) X112 C e112 V0 (by decide) (by decide) rfl d3_33 rfl ?_
          refine W.if_ (q := 51) (q' := 37) X112 C d3_34 (by decide) (by decide) rfl (fun hc113 => ?_) (fun hc113 => ?_)
          · replace hc113 : x3.toInt ≤ (0 : Int32).toInt := hc113
            refine W.iinc (q := 54) (L' := #[.val (.ref p0), .val (.double (4602678819172646912 : UInt64)), .second, .val (.int (1 : Int32)), .val (.int (4 : Int32))]) X112 C d3_51 rfl (by decide) rfl rfl ?_
            refine W.goto (q := 17) X112 C d3_54 (by decide) (by decide) ?_
            refine W.iload (q := 19) X112 C d3_17 rfl rfl ?_
            refine W.aloadN (q := 20) X112 C d3_19 rfl rfl rfl ?_
            refine W.getF (host := "") (q := 23) X112 C (Or.inl (W.ww hw 11 rfl)) Via.refl e112 F0 d3_20 rfl (fun T114 X114 e114 => ?_)
            refine W.arraylength (q := 24) X114 C e114 V0 d3_23 rfl ?_
            refine W.icmpT (q := 57) X114 C d3_24 (by decide) (by decide) (by decide : W.cT .ge (4 : Int32) (4 : Int32)) ?_
            refine W.dloadN (q := 58) X114 C d3_57 rfl rfl ?_
            refine W.aloadN (q := 59) X114 C d3_58 rfl rfl rfl ?_
            refine W.getF (host := "") (q := 62) X114 C (Or.inl (W.ww hw 13 rfl)) Via.refl e114 G0 d3_59 rfl (fun T115 X115 e115 => ?_)
            refine W.arraylength (q := 63) X115 C e115 V1 d3_62 rfl ?_
            refine W.i2d (q := 64) (v := FP.i2d mm) X115 C d3_63 rfl rfl ?_
            refine W.ddiv (q := 65) (v := FP.ddiv (4602678819172646912 : UInt64) (FP.i2d mm)) X115 C d3_64 (own_nn false true false false mm hc84 hm.1 hm.2) rfl rfl ?_
            exact W.retD X115 C e115 d3_65 (by decide) (by decide) ⟨by rw [own_div, if_neg hc84, own_pf hc87, own_pt hc90, own_pf hc110, own_pf hc113]; rfl, N0, rfl⟩
          · replace hc113 : (0 : Int32).toInt < x3.toInt := hc113
            refine W.iinc (q := 40) (L' := #[.val (.ref p0), .val (.double (4602678819172646912 : UInt64)), .second, .val (.int (2 : Int32)), .val (.int (3 : Int32))]) X112 C d3_37 rfl (by decide) rfl rfl ?_
            refine W.dloadN (q := 41) X112 C d3_40 rfl rfl ?_
            refine W.iloadN (q := 42) X112 C d3_41 rfl rfl ?_
            refine W.i2d (q := 43) (v := 4611686018427387904) X112 C d3_42 (by decide +kernel) rfl ?_
            refine W.iload (q := 45) X112 C d3_43 rfl rfl ?_
            refine W.iconst (q := 46) (v := 1) X112 C d3_45 rfl rfl ?_
            refine W.iadd (q := 47) X112 C d3_46 rfl ?_
            rw [show ((3 : Int32) + (1 : Int32)) = (4 : Int32) by decide]
            refine W.i2d (q := 48) (v := 4616189618054758400) X112 C d3_47 (by decide +kernel) rfl ?_
            refine W.ddiv (q := 49) (v := 4602678819172646912) X112 C d3_48 (by decide +kernel) (by decide +kernel) rfl ?_
            refine W.dadd (q := 50) (v := 4607182418800017408) X112 C d3_49 (by decide +kernel) (by decide +kernel) rfl ?_
            refine W.dstoreN (q := 51) (L' := #[.val (.ref p0), .val (.double (4607182418800017408 : UInt64)), .second, .val (.int (2 : Int32)), .val (.int (3 : Int32))]) X112 C d3_50 rfl rfl ?_
            refine W.iinc (q := 54) (L' := #[.val (.ref p0), .val (.double (4607182418800017408 : UInt64)), .second, .val (.int (2 : Int32)), .val (.int (4 : Int32))]) X112 C d3_51 rfl (by decide) rfl rfl ?_
            refine W.goto (q := 17) X112 C d3_54 (by decide) (by decide) ?_
            refine W.iload (q := 19) X112 C d3_17 rfl rfl ?_
            refine W.aloadN (q := 20) X112 C d3_19 rfl rfl rfl ?_
            refine W.getF (host := "") (q := 23) X112 C (Or.inl (W.ww hw 11 rfl)) Via.refl e112 F0 d3_20 rfl (fun T116 X116 e116 => ?_)
            refine W.arraylength (q := 24) X116 C e116 V0 d3_23 rfl ?_
            refine W.icmpT (q := 57) X116 C d3_24 (by decide) (by decide) (by decide : W.cT .ge (4 : Int32) (4 : Int32)) ?_
            refine W.dloadN (q := 58) X116 C d3_57 rfl rfl ?_
            refine W.aloadN (q := 59) X116 C d3_58 rfl rfl rfl ?_
            refine W.getF (host := "") (q := 62) X116 C (Or.inl (W.ww hw 13 rfl)) Via.refl e116 G0 d3_59 rfl (fun T117 X117 e117 => ?_)
            refine W.arraylength (q := 63) X117 C e117 V1 d3_62 rfl ?_
            refine W.i2d (q := 64) (v := FP.i2d mm) X117 C d3_63 rfl rfl ?_
            refine W.ddiv (q := 65) (v := FP.ddiv (4607182418800017408 : UInt64) (FP.i2d mm)) X117 C d3_64 (own_nn false true false true mm hc84 hm.1 hm.2) rfl rfl ?_
            exact W.retD X117 C e117 d3_65 (by decide) (by decide) ⟨by rw [own_div, if_neg hc84, own_pf hc87, own_pt hc90, own_pf hc110, own_pt hc113]; rfl, N0, rfl⟩
        · replace hc110 : (0 : Int32).toInt < x2.toInt := hc110
          refine W.iinc (q := 40) (L' := #[.val (.ref p0), .val (.double (4602678819172646912 : UInt64)), .second, .val (.int (2 : Int32)), .val (.int (2 : Int32))]) X109 C d3_37 rfl (by decide) rfl rfl ?_
          refine W.dloadN (q := 41) X109 C d3_40 rfl rfl ?_
          refine W.iloadN (q := 42) X109 C d3_41 rfl rfl ?_
          refine W.i2d (q := 43) (v := 4611686018427387904) X109 C d3_42 (by decide +kernel) rfl ?_
          refine W.iload (q := 45) X109 C d3_43 rfl rfl ?_
          refine W.iconst (q := 46) (v := 1) X109 C d3_45 rfl rfl ?_
          refine W.iadd (q := 47) X109 C d3_46 rfl ?_
          rw [show ((2 : Int32) + (1 : Int32)) = (3 : Int32) by decide]
          refine W.i2d (q := 48) (v := 4613937818241073152) X109 C d3_47 (by decide +kernel) rfl ?_
          refine W.ddiv (q := 49) (v := 4604180019048437077) X109 C d3_48 (by decide +kernel) (by decide +kernel) rfl ?_
          refine W.dadd (q := 50) (v := 4607933018737912490) X109 C d3_49 (by decide +kernel) (by decide +kernel) rfl ?_
          refine W.dstoreN (q := 51) (L' := #[.val (.ref p0), .val (.double (4607933018737912490 : UInt64)), .second, .val (.int (2 : Int32)), .val (.int (2 : Int32))]) X109 C d3_50 rfl rfl ?_
          refine W.iinc (q := 54) (L' := #[.val (.ref p0), .val (.double (4607933018737912490 : UInt64)), .second, .val (.int (2 : Int32)), .val (.int (3 : Int32))]) X109 C d3_51 rfl (by decide) rfl rfl ?_
          refine W.goto (q := 17) X109 C d3_54 (by decide) (by decide) ?_
          refine W.iload (q := 19) X109 C d3_17 rfl rfl ?_
          refine W.aloadN (q := 20) X109 C d3_19 rfl rfl rfl ?_
          refine W.getF (host := "") (q := 23) X109 C (Or.inl (W.ww hw 11 rfl)) Via.refl e109 F0 d3_20 rfl (fun T118 X118 e118 => ?_)
          refine W.arraylength (q := 24) X118 C e118 V0 d3_23 rfl ?_
          refine W.icmpF (q := 27) X118 C d3_24 rfl (by decide : W.cF .ge (3 : Int32) (4 : Int32)) ?_
          refine W.aloadN (q := 28) X118 C d3_27 rfl rfl rfl ?_
          refine W.getF (host := "") (q := 31) X118 C (Or.inl (W.ww hw 11 rfl)) Via.refl e118 F0 d3_28 rfl (fun T119 X119 e119 => ?_)
          refine W.iload (q := 33) X119 C d3_31 rfl rfl ?_
          refine W.iaload (q := 34) X119 C e119 V0 (by decide) (by decide) rfl d3_33 rfl ?_
          refine W.if_ (q := 51) (q' := 37) X119 C d3_34 (by decide) (by decide) rfl (fun hc120 => ?_) (fun hc120 => ?_)
          · replace hc120 : x3.toInt ≤ (0 : Int32).toInt := hc120
            refine W.iinc (q := 54) (L' := #[.val (.ref p0), .val (.double (4607933018737912490 : UInt64)), .second, .val (.int (2 : Int32)), .val (.int (4 : Int32))]) X119 C d3_51 rfl (by decide) rfl rfl ?_
            refine W.goto (q := 17) X119 C d3_54 (by decide) (by decide) ?_
            refine W.iload (q := 19) X119 C d3_17 rfl rfl ?_
            refine W.aloadN (q := 20) X119 C d3_19 rfl rfl rfl ?_
            refine W.getF (host := "") (q := 23) X119 C (Or.inl (W.ww hw 11 rfl)) Via.refl e119 F0 d3_20 rfl (fun T121 X121 e121 => ?_)
            refine W.arraylength (q := 24) X121 C e121 V0 d3_23 rfl ?_
            refine W.icmpT (q := 57) X121 C d3_24 (by decide) (by decide) (by decide : W.cT .ge (4 : Int32) (4 : Int32)) ?_
            refine W.dloadN (q := 58) X121 C d3_57 rfl rfl ?_
            refine W.aloadN (q := 59) X121 C d3_58 rfl rfl rfl ?_
            refine W.getF (host := "") (q := 62) X121 C (Or.inl (W.ww hw 13 rfl)) Via.refl e121 G0 d3_59 rfl (fun T122 X122 e122 => ?_)
            refine W.arraylength (q := 63) X122 C e122 V1 d3_62 rfl ?_
            refine W.i2d (q := 64) (v := FP.i2d mm) X122 C d3_63 rfl rfl ?_
            refine W.ddiv (q := 65) (v := FP.ddiv (4607933018737912490 : UInt64) (FP.i2d mm)) X122 C d3_64 (own_nn false true true false mm hc84 hm.1 hm.2) rfl rfl ?_
            exact W.retD X122 C e122 d3_65 (by decide) (by decide) ⟨by rw [own_div, if_neg hc84, own_pf hc87, own_pt hc90, own_pt hc110, own_pf hc120]; rfl, N0, rfl⟩
          · replace hc120 : (0 : Int32).toInt < x3.toInt := hc120
            refine W.iinc (q := 40) (L' := #[.val (.ref p0), .val (.double (4607933018737912490 : UInt64)), .second, .val (.int (3 : Int32)), .val (.int (3 : Int32))]) X119 C d3_37 rfl (by decide) rfl rfl ?_
            refine W.dloadN (q := 41) X119 C d3_40 rfl rfl ?_
            refine W.iloadN (q := 42) X119 C d3_41 rfl rfl ?_
            refine W.i2d (q := 43) (v := 4613937818241073152) X119 C d3_42 (by decide +kernel) rfl ?_
            refine W.iload (q := 45) X119 C d3_43 rfl rfl ?_
            refine W.iconst (q := 46) (v := 1) X119 C d3_45 rfl rfl ?_
            refine W.iadd (q := 47) X119 C d3_46 rfl ?_
            rw [show ((3 : Int32) + (1 : Int32)) = (4 : Int32) by decide]
            refine W.i2d (q := 48) (v := 4616189618054758400) X119 C d3_47 (by decide +kernel) rfl ?_
            refine W.ddiv (q := 49) (v := 4604930618986332160) X119 C d3_48 (by decide +kernel) (by decide +kernel) rfl ?_
            refine W.dadd (q := 50) (v := 4611310718458440362) X119 C d3_49 (by decide +kernel) (by decide +kernel) rfl ?_
            refine W.dstoreN (q := 51) (L' := #[.val (.ref p0), .val (.double (4611310718458440362 : UInt64)), .second, .val (.int (3 : Int32)), .val (.int (3 : Int32))]) X119 C d3_50 rfl rfl ?_
            refine W.iinc (q := 54) (L' := #[.val (.ref p0), .val (.double (4611310718458440362 : UInt64)), .second, .val (.int (3 : Int32)), .val (.int (4 : Int32))]) X119 C d3_51 rfl (by decide) rfl rfl ?_
            refine W.goto (q := 17) X119 C d3_54 (by decide) (by decide) ?_
            refine W.iload (q := 19) X119 C d3_17 rfl rfl ?_
            refine W.aloadN (q := 20) X119 C d3_19 rfl rfl rfl ?_
            refine W.getF (host := "") (q := 23) X119 C (Or.inl (W.ww hw 11 rfl)) Via.refl e119 F0 d3_20 rfl (fun T123 X123 e123 => ?_)
            refine W.arraylength (q := 24) X123 C e123 V0 d3_23 rfl ?_
            refine W.icmpT (q := 57) X123 C d3_24 (by decide) (by decide) (by decide : W.cT .ge (4 : Int32) (4 : Int32)) ?_
            refine W.dloadN (q := 58) X123 C d3_57 rfl rfl ?_
            refine W.aloadN (q := 59) X123 C d3_58 rfl rfl rfl ?_
            refine W.getF (host := "") (q := 62) X123 C (Or.inl (W.ww hw 13 rfl)) Via.refl e123 G0 d3_59 rfl (fun T124 X124 e124 => ?_)
            refine W.arraylength (q := 63) X124 C e124 V1 d3_62 rfl ?_
            refine W.i2d (q := 64) (v := FP.i2d mm) X124 C d3_63 rfl rfl ?_
            refine W.ddiv (q := 65) (v := FP.ddiv (4611310718458440362 : UInt64) (FP.i2d mm)) X124 C d3_64 (own_nn false true true true mm hc84 hm.1 hm.2) rfl rfl ?_
            exact W.retD X124 C e124 d3_65 (by decide) (by decide) ⟨by rw [own_div, if_neg hc84, own_pf hc87, own_pt hc90, own_pt hc110, own_pt hc120]; rfl, N0, rfl⟩
    · replace hc87 : (0 : Int32).toInt < x0.toInt := hc87
      refine W.iinc (q := 40) (L' := #[.val (.ref p0), .val (.double (0 : UInt64)), .second, .val (.int (1 : Int32)), .val (.int (0 : Int32))]) X86 C d3_37 rfl (by decide) rfl rfl ?_
      refine W.dloadN (q := 41) X86 C d3_40 rfl rfl ?_
      refine W.iloadN (q := 42) X86 C d3_41 rfl rfl ?_
      refine W.i2d (q := 43) (v := 4607182418800017408) X86 C d3_42 (by decide +kernel) rfl ?_
      refine W.iload (q := 45) X86 C d3_43 rfl rfl ?_
      refine W.iconst (q := 46) (v := 1) X86 C d3_45 rfl rfl ?_
      refine W.iadd (q := 47) X86 C d3_46 rfl ?_
      rw [show ((0 : Int32) + (1 : Int32)) = (1 : Int32) by decide]
      refine W.i2d (q := 48) (v := 4607182418800017408) X86 C d3_47 (by decide +kernel) rfl ?_
      refine W.ddiv (q := 49) (v := 4607182418800017408) X86 C d3_48 (by decide +kernel) (by decide +kernel) rfl ?_
      refine W.dadd (q := 50) (v := 4607182418800017408) X86 C d3_49 (by decide +kernel) (by decide +kernel) rfl ?_
      refine W.dstoreN (q := 51) (L' := #[.val (.ref p0), .val (.double (4607182418800017408 : UInt64)), .second, .val (.int (1 : Int32)), .val (.int (0 : Int32))]) X86 C d3_50 rfl rfl ?_
      refine W.iinc (q := 54) (L' := #[.val (.ref p0), .val (.double (4607182418800017408 : UInt64)), .second, .val (.int (1 : Int32)), .val (.int (1 : Int32))]) X86 C d3_51 rfl (by decide) rfl rfl ?_
      refine W.goto (q := 17) X86 C d3_54 (by decide) (by decide) ?_
      refine W.iload (q := 19) X86 C d3_17 rfl rfl ?_
      refine W.aloadN (q := 20) X86 C d3_19 rfl rfl rfl ?_
      refine W.getF (host := "") (q := 23) X86 C (Or.inl (W.ww hw 11 rfl)) Via.refl e86 F0 d3_20 rfl (fun T125 X125 e125 => ?_)
      refine W.arraylength (q := 24) X125 C e125 V0 d3_23 rfl ?_
      refine W.icmpF (q := 27) X125 C d3_24 rfl (by decide : W.cF .ge (1 : Int32) (4 : Int32)) ?_
      refine W.aloadN (q := 28) X125 C d3_27 rfl rfl rfl ?_
      refine W.getF (host := "") (q := 31) X125 C (Or.inl (W.ww hw 11 rfl)) Via.refl e125 F0 d3_28 rfl (fun T126 X126 e126 => ?_)
      refine W.iload (q := 33) X126 C d3_31 rfl rfl ?_
      refine W.iaload (q := 34) X126 C e126 V0 (by decide) (by decide) rfl d3_33 rfl ?_
      refine W.if_ (q := 51) (q' := 37) X126 C d3_34 (by decide) (by decide) rfl (fun hc127 => ?_) (fun hc127 => ?_)
      · replace hc127 : x1.toInt ≤ (0 : Int32).toInt := hc127
        refine W.iinc (q := 54) (L' := #[.val (.ref p0), .val (.double (4607182418800017408 : UInt64)), .second, .val (.int (1 : Int32)), .val (.int (2 : Int32))]) X126 C d3_51 rfl (by decide) rfl rfl ?_
        refine W.goto (q := 17) X126 C d3_54 (by decide) (by decide) ?_
        refine W.iload (q := 19) X126 C d3_17 rfl rfl ?_
        refine W.aloadN (q := 20) X126 C d3_19 rfl rfl rfl ?_
        refine W.getF (host := "") (q := 23) X126 C (Or.inl (W.ww hw 11 rfl)) Via.refl e126 F0 d3_20 rfl (fun T128 X128 e128 => ?_)
        refine W.arraylength (q := 24) X128 C e128 V0 d3_23 rfl ?_
        refine W.icmpF (q := 27) X128 C d3_24 rfl (by decide : W.cF .ge (2 : Int32) (4 : Int32)) ?_
        refine W.aloadN (q := 28) X128 C d3_27 rfl rfl rfl ?_
        refine W.getF (host := "") (q := 31) X128 C (Or.inl (W.ww hw 11 rfl)) Via.refl e128 F0 d3_28 rfl (fun T129 X129 e129 => ?_)
        refine W.iload (q := 33) X129 C d3_31 rfl rfl ?_
        refine W.iaload (q := 34) X129 C e129 V0 (by decide) (by decide) rfl d3_33 rfl ?_
        refine W.if_ (q := 51) (q' := 37) X129 C d3_34 (by decide) (by decide) rfl (fun hc130 => ?_) (fun hc130 => ?_)
        · replace hc130 : x2.toInt ≤ (0 : Int32).toInt := hc130
          refine W.iinc (q := 54) (L' := #[.val (.ref p0), .val (.double (4607182418800017408 : UInt64)), .second, .val (.int (1 : Int32)), .val (.int (3 : Int32))]) X129 C d3_51 rfl (by decide) rfl rfl ?_
          refine W.goto (q := 17) X129 C d3_54 (by decide) (by decide) ?_
          refine W.iload (q := 19) X129 C d3_17 rfl rfl ?_
          refine W.aloadN (q := 20) X129 C d3_19 rfl rfl rfl ?_
          refine W.getF (host := "") (q := 23) X129 C (Or.inl (W.ww hw 11 rfl)) Via.refl e129 F0 d3_20 rfl (fun T131 X131 e131 => ?_)
          refine W.arraylength (q := 24) X131 C e131 V0 d3_23 rfl ?_
          refine W.icmpF (q := 27) X131 C d3_24 rfl (by decide : W.cF .ge (3 : Int32) (4 : Int32)) ?_
          refine W.aloadN (q := 28) X131 C d3_27 rfl rfl rfl ?_
          refine W.getF (host := "") (q := 31) X131 C (Or.inl (W.ww hw 11 rfl)) Via.refl e131 F0 d3_28 rfl (fun T132 X132 e132 => ?_)
          refine W.iload (q := 33) X132 C d3_31 rfl rfl ?_
          refine W.iaload (q := 34) X132 C e132 V0 (by decide) (by decide) rfl d3_33 rfl ?_
          refine W.if_ (q := 51) (q' := 37) X132 C d3_34 (by decide) (by decide) rfl (fun hc133 => ?_) (fun hc133 => ?_)
          · replace hc133 : x3.toInt ≤ (0 : Int32).toInt := hc133
            refine W.iinc (q := 54) (L' := #[.val (.ref p0), .val (.double (4607182418800017408 : UInt64)), .second, .val (.int (1 : Int32)), .val (.int (4 : Int32))]) X132 C d3_51 rfl (by decide) rfl rfl ?_
            refine W.goto (q := 17) X132 C d3_54 (by decide) (by decide) ?_
            refine W.iload (q := 19) X132 C d3_17 rfl rfl ?_
            refine W.aloadN (q := 20) X132 C d3_19 rfl rfl rfl ?_
            refine W.getF (host := "") (q := 23) X132 C (Or.inl (W.ww hw 11 rfl)) Via.refl e132 F0 d3_20 rfl (fun T134 X134 e134 => ?_)
            refine W.arraylength (q := 24) X134 C e134 V0 d3_23 rfl ?_
            refine W.icmpT (q := 57) X134 C d3_24 (by decide) (by decide) (by decide : W.cT .ge (4 : Int32) (4 : Int32)) ?_
            refine W.dloadN (q := 58) X134 C d3_57 rfl rfl ?_
            refine W.aloadN (q := 59) X134 C d3_58 rfl rfl rfl ?_
            refine W.getF (host := "") (q := 62) X134 C (Or.inl (W.ww hw 13 rfl)) Via.refl e134 G0 d3_59 rfl (fun T135 X135 e135 => ?_)
            refine W.arraylength (q := 63) X135 C e135 V1 d3_62 rfl ?_
            refine W.i2d (q := 64) (v := FP.i2d mm) X135 C d3_63 rfl rfl ?_
            refine W.ddiv (q := 65) (v := FP.ddiv (4607182418800017408 : UInt64) (FP.i2d mm)) X135 C d3_64 (own_nn true false false false mm hc84 hm.1 hm.2) rfl rfl ?_
            exact W.retD X135 C e135 d3_65 (by decide) (by decide) ⟨by rw [own_div, if_neg hc84, own_pt hc87, own_pf hc127, own_pf hc130, own_pf hc133]; rfl, N0, rfl⟩
          · replace hc133 : (0 : Int32).toInt < x3.toInt := hc133
            refine W.iinc (q := 40) (L' := #[.val (.ref p0), .val (.double (4607182418800017408 : UInt64)), .second, .val (.int (2 : Int32)), .val (.int (3 : Int32))]) X132 C d3_37 rfl (by decide) rfl rfl ?_
            refine W.dloadN (q := 41) X132 C d3_40 rfl rfl ?_
            refine W.iloadN (q := 42) X132 C d3_41 rfl rfl ?_
            refine W.i2d (q := 43) (v := 4611686018427387904) X132 C d3_42 (by decide +kernel) rfl ?_
            refine W.iload (q := 45) X132 C d3_43 rfl rfl ?_
            refine W.iconst (q := 46) (v := 1) X132 C d3_45 rfl rfl ?_
            refine W.iadd (q := 47) X132 C d3_46 rfl ?_
            rw [show ((3 : Int32) + (1 : Int32)) = (4 : Int32) by decide]
            refine W.i2d (q := 48) (v := 4616189618054758400) X132 C d3_47 (by decide +kernel) rfl ?_
            refine W.ddiv (q := 49) (v := 4602678819172646912) X132 C d3_48 (by decide +kernel) (by decide +kernel) rfl ?_
            refine W.dadd (q := 50) (v := 4609434218613702656) X132 C d3_49 (by decide +kernel) (by decide +kernel) rfl ?_
            refine W.dstoreN (q := 51) (L' := #[.val (.ref p0), .val (.double (4609434218613702656 : UInt64)), .second, .val (.int (2 : Int32)), .val (.int (3 : Int32))]) X132 C d3_50 rfl rfl ?_
            refine W.iinc (q := 54) (L' := #[.val (.ref p0), .val (.double (4609434218613702656 : UInt64)), .second, .val (.int (2 : Int32)), .val (.int (4 : Int32))]) X132 C d3_51 rfl (by decide) rfl rfl ?_
            refine W.goto (q := 17) X132 C d3_54 (by decide) (by decide) ?_
            refine W.iload (q := 19) X132 C d3_17 rfl rfl ?_
            refine W.aloadN (q := 20) X132 C d3_19 rfl rfl rfl ?_
            refine W.getF (host := "") (q := 23) X132 C (Or.inl (W.ww hw 11 rfl)) Via.refl e132 F0 d3_20 rfl (fun T136 X136 e136 => ?_)
            refine W.arraylength (q := 24) X136 C e136 V0 d3_23 rfl ?_
            refine W.icmpT (q := 57) X136 C d3_24 (by decide) (by decide) (by decide : W.cT .ge (4 : Int32) (4 : Int32)) ?_
            refine W.dloadN (q := 58) X136 C d3_57 rfl rfl ?_
            refine W.aloadN (q := 59) X136 C d3_58 rfl rfl rfl ?_
            refine W.getF (host := "") (q := 62) X136 C (Or.inl (W.ww hw 13 rfl)) Via.refl e136 G0 d3_59 rfl (fun T137 X137 e137 => ?_)
            refine W.arraylength (q := 63) X137 C e137 V1 d3_62 rfl ?_
            refine W.i2d (q := 64) (v := FP.i2d mm) X137 C d3_63 rfl rfl ?_
            refine W.ddiv (q := 65) (v := FP.ddiv (4609434218613702656 : UInt64) (FP.i2d mm)) X137 C d3_64 (own_nn true false false true mm hc84 hm.1 hm.2) rfl rfl ?_
            exact W.retD X137 C e137 d3_65 (by decide) (by decide) ⟨by rw [own_div, if_neg hc84, own_pt hc87, own_pf hc127, own_pf hc130, own_pt hc133]; rfl, N0, rfl⟩
        · replace hc130 : (0 : Int32).toInt < x2.toInt := hc130
          refine W.iinc (q := 40) (L' := #[.val (.ref p0), .val (.double (4607182418800017408 : UInt64)), .second, .val (.int (2 : Int32)), .val (.int (2 : Int32))]) X129 C d3_37 rfl (by decide) rfl rfl ?_
          refine W.dloadN (q := 41) X129 C d3_40 rfl rfl ?_
          refine W.iloadN (q := 42) X129 C d3_41 rfl rfl ?_
          refine W.i2d (q := 43) (v := 4611686018427387904) X129 C d3_42 (by decide +kernel) rfl ?_
          refine W.iload (q := 45) X129 C d3_43 rfl rfl ?_
          refine W.iconst (q := 46) (v := 1) X129 C d3_45 rfl rfl ?_
          refine W.iadd (q := 47) X129 C d3_46 rfl ?_
          rw [show ((2 : Int32) + (1 : Int32)) = (3 : Int32) by decide]
          refine W.i2d (q := 48) (v := 4613937818241073152) X129 C d3_47 (by decide +kernel) rfl ?_
          refine W.ddiv (q := 49) (v := 4604180019048437077) X129 C d3_48 (by decide +kernel) (by decide +kernel) rfl ?_
          refine W.dadd (q := 50) (v := 4610184818551597738) X129 C d3_49 (by decide +kernel) (by decide +kernel) rfl ?_
          refine W.dstoreN (q := 51) (L' := #[.val (.ref p0), .val (.double (4610184818551597738 : UInt64)), .second, .val (.int (2 : Int32)), .val (.int (2 : Int32))]) X129 C d3_50 rfl rfl ?_
          refine W.iinc (q := 54) (L' := #[.val (.ref p0), .val (.double (4610184818551597738 : UInt64)), .second, .val (.int (2 : Int32)), .val (.int (3 : Int32))]) X129 C d3_51 rfl (by decide) rfl rfl ?_
          refine W.goto (q := 17) X129 C d3_54 (by decide) (by decide) ?_
          refine W.iload (q := 19) X129 C d3_17 rfl rfl ?_
          refine W.aloadN (q := 20) X129 C d3_19 rfl rfl rfl ?_
          refine W.getF (host := "") (q := 23) X129 C (Or.inl (W.ww hw 11 rfl)) Via.refl e129 F0 d3_20 rfl (fun T138 X138 e138 => ?_)
          refine W.arraylength (q := 24) X138 C e138 V0 d3_23 rfl ?_
          refine W.icmpF (q := 27) X138 C d3_24 rfl (by decide : W.cF .ge (3 : Int32) (4 : Int32)) ?_
          refine W.aloadN (q := 28) X138 C d3_27 rfl rfl rfl ?_
          refine W.getF (host := "") (q := 31) X138 C (Or.inl (W.ww hw 11 rfl)) Via.refl e138 F0 d3_28 rfl (fun T139 X139 e139 => ?_)
          refine W.iload (q := 33) X139 C d3_31 rfl rfl ?_
          refine W.iaload (q := 34) X139 C e139 V0 (by decide) (by decide) rfl d3_33 rfl ?_
          refine W.if_ (q := 51) (q' := 37) X139 C d3_34 (by decide) (by decide) rfl (fun hc140 => ?_) (fun hc140 => ?_)
          · replace hc140 : x3.toInt ≤ (0 : Int32).toInt := hc140
            refine W.iinc (q := 54) (L' := #[.val (.ref p0), .val (.double (4610184818551597738 : UInt64)), .second, .val (.int (2 : Int32)), .val (.int (4 : Int32))]) X139 C d3_51 rfl (by decide) rfl rfl ?_
            refine W.goto (q := 17) X139 C d3_54 (by decide) (by decide) ?_
            refine W.iload (q := 19) X139 C d3_17 rfl rfl ?_
            refine W.aloadN (q := 20) X139 C d3_19 rfl rfl rfl ?_
            refine W.getF (host := "") (q := 23) X139 C (Or.inl (W.ww hw 11 rfl)) Via.refl e139 F0 d3_20 rfl (fun T141 X141 e141 => ?_)
            refine W.arraylength (q := 24) X141 C e141 V0 d3_23 rfl ?_
            refine W.icmpT (q := 57) X141 C d3_24 (by decide) (by decide) (by decide : W.cT .ge (4 : Int32) (4 : Int32)) ?_
            refine W.dloadN (q := 58) X141 C d3_57 rfl rfl ?_
            refine W.aloadN (q := 59) X141 C d3_58 rfl rfl rfl ?_
            refine W.getF (host := "") (q := 62) X141 C (Or.inl (W.ww hw 13 rfl)) Via.refl e141 G0 d3_59 rfl (fun T142 X142 e142 => ?_)
            refine W.arraylength (q := 63) X142 C e142 V1 d3_62 rfl ?_
            refine W.i2d (q := 64) (v := FP.i2d mm) X142 C d3_63 rfl rfl ?_
            refine W.ddiv (q := 65) (v := FP.ddiv (4610184818551597738 : UInt64) (FP.i2d mm)) X142 C d3_64 (own_nn true false true false mm hc84 hm.1 hm.2) rfl rfl ?_
            exact W.retD X142 C e142 d3_65 (by decide) (by decide) ⟨by rw [own_div, if_neg hc84, own_pt hc87, own_pf hc127, own_pt hc130, own_pf hc140]; rfl, N0, rfl⟩
          · replace hc140 : (0 : Int32).toInt < x3.toInt := hc140
            refine W.iinc (q := 40) (L' := #[.val (.ref p0), .val (.double (4610184818551597738 : UInt64)), .second, .val (.int (3 : Int32)), .val (.int (3 : Int32))]) X139 C d3_37 rfl (by decide) rfl rfl ?_
            refine W.dloadN (q := 41) X139 C d3_40 rfl rfl ?_
            refine W.iloadN (q := 42) X139 C d3_41 rfl rfl ?_
            refine W.i2d (q := 43) (v := 4613937818241073152) X139 C d3_42 (by decide +kernel) rfl ?_
            refine W.iload (q := 45) X139 C d3_43 rfl rfl ?_
            refine W.iconst (q := 46) (v := 1) X139 C d3_45 rfl rfl ?_
            refine W.iadd (q := 47) X139 C d3_46 rfl ?_
            rw [show ((3 : Int32) + (1 : Int32)) = (4 : Int32) by decide]
            refine W.i2d (q := 48) (v := 4616189618054758400) X139 C d3_47 (by decide +kernel) rfl ?_
            refine W.ddiv (q := 49) (v := 4604930618986332160) X139 C d3_48 (by decide +kernel) (by decide +kernel) rfl ?_
            refine W.dadd (q := 50) (v := 4612624268349756757) X139 C d3_49 (by decide +kernel) (by decide +kernel) rfl ?_
            refine W.dstoreN (q := 51) (L' := #[.val (.ref p0), .val (.double (4612624268349756757 : UInt64)), .second, .val (.int (3 : Int32)), .val (.int (3 : Int32))]) X139 C d3_50 rfl rfl ?_
            refine W.iinc (q := 54) (L' := #[.val (.ref p0), .val (.double (4612624268349756757 : UInt64)), .second, .val (.int (3 : Int32)), .val (.int (4 : Int32))]) X139 C d3_51 rfl (by decide) rfl rfl ?_
            refine W.goto (q := 17) X139 C d3_54 (by decide) (by decide) ?_
            refine W.iload (q := 19) X139 C d3_17 rfl rfl ?_
            refine W.aloadN (q := 20) X139 C d3_19 rfl rfl rfl ?_
            refine W.getF (host := "") (q := 23) X139 C (Or.inl (W.ww hw 11 rfl)) Via.refl e139 F0 d3_20 rfl (fun T143 X143 e143 => ?_)
            refine W.arraylength (q := 24) X143 C e143 V0 d3_23 rfl ?_
            refine W.icmpT (q := 57) X143 C d3_24 (by decide) (by decide) (by decide : W.cT .ge (4 : Int32) (4 : Int32)) ?_
            refine W.dloadN (q := 58) X143 C d3_57 rfl rfl ?_
            refine W.aloadN (q := 59) X143 C d3_58 rfl rfl rfl ?_
            refine W.getF (host := "") (q := 62) X143 C (Or.inl (W.ww hw 13 rfl)) Via.refl e143 G0 d3_59 rfl (fun T144 X144 e144 => ?_)
            refine W.arraylength (q := 63) X144 C e144 V1 d3_62 rfl ?_
            refine W.i2d (q := 64) (v := FP.i2d mm) X144 C d3_63 rfl rfl ?_
            refine W.ddiv (q := 65) (v := FP.ddiv (4612624268349756757 : UInt64) (FP.i2d mm)) X144 C d3_64 (own_nn true false true true mm hc84 hm.1 hm.2) rfl rfl ?_
            exact W.retD X144 C e144 d3_65 (by decide) (by decide) ⟨by rw [own_div, if_neg hc84, own_pt hc87, own_pf hc127, own_pt hc130, own_pt hc140]; rfl, N0, rfl⟩
      · replace hc127 : (0 : Int32).toInt < x1.toInt := hc127
        refine W.iinc (q := 40) (L' := #[.val (.ref p0), .val (.double (4607182418800017408 : UInt64)), .second, .val (.int (2 : Int32)), .val (.int (1 : Int32))]) X126 C d3_37 rfl (by decide) rfl rfl ?_
        refine W.dloadN (q := 41) X126 C d3_40 rfl rfl ?_
        refine W.iloadN (q := 42) X126 C d3_41 rfl rfl ?_
        refine W.i2d (q := 43) (v := 4611686018427387904) X126 C d3_42 (by decide +kernel) rfl ?_
        refine W.iload (q := 45) X126 C d3_43 rfl rfl ?_
        refine W.iconst (q := 46) (v := 1) X126 C d3_45 rfl rfl ?_
        refine W.iadd (q := 47) X126 C d3_46 rfl ?_
        rw [show ((1 : Int32) + (1 : Int32)) = (2 : Int32) by decide]
        refine W.i2d (q := 48) (v := 4611686018427387904) X126 C d3_47 (by decide +kernel) rfl ?_
        refine W.ddiv (q := 49) (v := 4607182418800017408) X126 C d3_48 (by decide +kernel) (by decide +kernel) rfl ?_
        refine W.dadd (q := 50) (v := 4611686018427387904) X126 C d3_49 (by decide +kernel) (by decide +kernel) rfl ?_
        refine W.dstoreN (q := 51) (L' := #[.val (.ref p0), .val (.double (4611686018427387904 : UInt64)), .second, .val (.int (2 : Int32)), .val (.int (1 : Int32))]) X126 C d3_50 rfl rfl ?_
        refine W.iinc (q := 54) (L' := #[.val (.ref p0), .val (.double (4611686018427387904 : UInt64)), .second, .val (.int (2 : Int32)), .val (.int (2 : Int32))]) X126 C d3_51 rfl (by decide) rfl rfl ?_
        refine W.goto (q := 17) X126 C d3_54 (by decide) (by decide) ?_
        refine W.iload (q := 19) X126 C d3_17 rfl rfl ?_
        refine W.aloadN (q := 20) X126 C d3_19 rfl rfl rfl ?_
        refine W.getF (host := "") (q := 23) X126 C (Or.inl (W.ww hw 11 rfl)) Via.refl e126 F0 d3_20 rfl (fun T145 X145 e145 => ?_)
        refine W.arraylength (q := 24) X145 C e145 V0 d3_23 rfl ?_
        refine W.icmpF (q := 27) X145 C d3_24 rfl (by decide : W.cF .ge (2 : Int32) (4 : Int32)) ?_
        refine W.aloadN (q := 28) X145 C d3_27 rfl rfl rfl ?_
        refine W.getF (host := "") (q := 31) X145 C (Or.inl (W.ww hw 11 rfl)) Via.refl e145 F0 d3_28 rfl (fun T146 X146 e146 => ?_)
        refine W.iload (q := 33) X146 C d3_31 rfl rfl ?_
        refine W.iaload (q := 34) X146 C e146 V0 (by decide) (by decide) rfl d3_33 rfl ?_
        refine W.if_ (q := 51) (q' := 37) X146 C d3_34 (by decide) (by decide) rfl (fun hc147 => ?_) (fun hc147 => ?_)
        · replace hc147 : x2.toInt ≤ (0 : Int32).toInt := hc147
          refine W.iinc (q := 54) (L' := #[.val (.ref p0), .val (.double (4611686018427387904 : UInt64)), .second, .val (.int (2 : Int32)), .val (.int (3 : Int32))]) X146 C d3_51 rfl (by decide) rfl rfl ?_
          refine W.goto (q := 17) X146 C d3_54 (by decide) (by decide) ?_
          refine W.iload (q := 19) X146 C d3_17 rfl rfl ?_
          refine W.aloadN (q := 20) X146 C d3_19 rfl rfl rfl ?_
          refine W.getF (host := "") (q := 23) X146 C (Or.inl (W.ww hw 11 rfl)) Via.refl e146 F0 d3_20 rfl (fun T148 X148 e148 => ?_)
          refine W.arraylength (q := 24) X148 C e148 V0 d3_23 rfl ?_
          refine W.icmpF (q := 27) X148 C d3_24 rfl (by decide : W.cF .ge (3 : Int32) (4 : Int32)) ?_
          refine W.aloadN (q := 28) X148 C d3_27 rfl rfl rfl ?_
          refine W.getF (host := "") (q := 31) X148 C (Or.inl (W.ww hw 11 rfl)) Via.refl e148 F0 d3_28 rfl (fun T149 X149 e149 => ?_)
          refine W.iload (q := 33) X149 C d3_31 rfl rfl ?_
          refine W.iaload (q := 34) X149 C e149 V0 (by decide) (by decide) rfl d3_33 rfl ?_
          refine W.if_ (q := 51) (q' := 37) X149 C d3_34 (by decide) (by decide) rfl (fun hc150 => ?_) (fun hc150 => ?_)
          · replace hc150 : x3.toInt ≤ (0 : Int32).toInt := hc150
            refine W.iinc (q := 54) (L' := #[.val (.ref p0), .val (.double (4611686018427387904 : UInt64)), .second, .val (.int (2 : Int32)), .val (.int (4 : Int32))]) X149 C d3_51 rfl (by decide) rfl rfl ?_
            refine W.goto (q := 17) X149 C d3_54 (by decide) (by decide) ?_
            refine W.iload (q := 19) X149 C d3_17 rfl rfl ?_
            refine W.aloadN (q := 20) X149 C d3_19 rfl rfl rfl ?_
            refine W.getF (host := "") (q := 23) X149 C (Or.inl (W.ww hw 11 rfl)) Via.refl e149 F0 d3_20 rfl (fun T151 X151 e151 => ?_)
            refine W.arraylength (q := 24) X151 C e151 V0 d3_23 rfl ?_
            refine W.icmpT (q := 57) X151 C d3_24 (by decide) (by decide) (by decide : W.cT .ge (4 : Int32) (4 : Int32)) ?_
            refine W.dloadN (q := 58) X151 C d3_57 rfl rfl ?_
            refine W.aloadN (q := 59) X151 C d3_58 rfl rfl rfl ?_
            refine W.getF (host := "") (q := 62) X151 C (Or.inl (W.ww hw 13 rfl)) Via.refl e151 G0 d3_59 rfl (fun T152 X152 e152 => ?_)
            refine W.arraylength (q := 63) X152 C e152 V1 d3_62 rfl ?_
            refine W.i2d (q := 64) (v := FP.i2d mm) X152 C d3_63 rfl rfl ?_
            refine W.ddiv (q := 65) (v := FP.ddiv (4611686018427387904 : UInt64) (FP.i2d mm)) X152 C d3_64 (own_nn true true false false mm hc84 hm.1 hm.2) rfl rfl ?_
            exact W.retD X152 C e152 d3_65 (by decide) (by decide) ⟨by rw [own_div, if_neg hc84, own_pt hc87, own_pt hc127, own_pf hc147, own_pf hc150]; rfl, N0, rfl⟩
          · replace hc150 : (0 : Int32).toInt < x3.toInt := hc150
            refine W.iinc (q := 40) (L' := #[.val (.ref p0), .val (.double (4611686018427387904 : UInt64)), .second, .val (.int (3 : Int32)), .val (.int (3 : Int32))]) X149 C d3_37 rfl (by decide) rfl rfl ?_
            refine W.dloadN (q := 41) X149 C d3_40 rfl rfl ?_
            refine W.iloadN (q := 42) X149 C d3_41 rfl rfl ?_
            refine W.i2d (q := 43) (v := 4613937818241073152) X149 C d3_42 (by decide +kernel) rfl ?_
            refine W.iload (q := 45) X149 C d3_43 rfl rfl ?_
            refine W.iconst (q := 46) (v := 1) X149 C d3_45 rfl rfl ?_
            refine W.iadd (q := 47) X149 C d3_46 rfl ?_
            rw [show ((3 : Int32) + (1 : Int32)) = (4 : Int32) by decide]
            refine W.i2d (q := 48) (v := 4616189618054758400) X149 C d3_47 (by decide +kernel) rfl ?_
            refine W.ddiv (q := 49) (v := 4604930618986332160) X149 C d3_48 (by decide +kernel) (by decide +kernel) rfl ?_
            refine W.dadd (q := 50) (v := 4613374868287651840) X149 C d3_49 (by decide +kernel) (by decide +kernel) rfl ?_
            refine W.dstoreN (q := 51) (L' := #[.val (.ref p0), .val (.double (4613374868287651840 : UInt64)), .second, .val (.int (3 : Int32)), .val (.int (3 : Int32))]) X149 C d3_50 rfl rfl ?_
            refine W.iinc (q := 54) (L' := #[.val (.ref p0), .val (.double (4613374868287651840 : UInt64)), .second, .val (.int (3 : Int32)), .val (.int (4 : Int32))]) X149 C d3_51 rfl (by decide) rfl rfl ?_
            refine W.goto (q := 17) X149 C d3_54 (by decide) (by decide) ?_
            refine W.iload (q := 19) X149 C d3_17 rfl rfl ?_
            refine W.aloadN (q := 20) X149 C d3_19 rfl rfl rfl ?_
            refine W.getF (host := "") (q := 23) X149 C (Or.inl (W.ww hw 11 rfl)) Via.refl e149 F0 d3_20 rfl (fun T153 X153 e153 => ?_)
            refine W.arraylength (q := 24) X153 C e153 V0 d3_23 rfl ?_
            refine W.icmpT (q := 57) X153 C d3_24 (by decide) (by decide) (by decide : W.cT .ge (4 : Int32) (4 : Int32)) ?_
            refine W.dloadN (q := 58) X153 C d3_57 rfl rfl ?_
            refine W.aloadN (q := 59) X153 C d3_58 rfl rfl rfl ?_
            refine W.getF (host := "") (q := 62) X153 C (Or.inl (W.ww hw 13 rfl)) Via.refl e153 G0 d3_59 rfl (fun T154 X154 e154 => ?_)
            refine W.arraylength (q := 63) X154 C e154 V1 d3_62 rfl ?_
            refine W.i2d (q := 64) (v := FP.i2d mm) X154 C d3_63 rfl rfl ?_
            refine W.ddiv (q := 65) (v := FP.ddiv (4613374868287651840 : UInt64) (FP.i2d mm)) X154 C d3_64 (own_nn true true false true mm hc84 hm.1 hm.2) rfl rfl ?_
            exact W.retD X154 C e154 d3_65 (by decide) (by decide) ⟨by rw [own_div, if_neg hc84, own_pt hc87, own_pt hc127, own_pf hc147, own_pt hc150]; rfl, N0, rfl⟩
        · replace hc147 : (0 : Int32).toInt < x2.toInt := hc147
          refine W.iinc (q := 40) (L' := #[.val (.ref p0), .val (.double (4611686018427387904 : UInt64)), .second, .val (.int (3 : Int32)), .val (.int (2 : Int32))]) X146 C d3_37 rfl (by decide) rfl rfl ?_
          refine W.dloadN (q := 41) X146 C d3_40 rfl rfl ?_
          refine W.iloadN (q := 42) X146 C d3_41 rfl rfl ?_
          refine W.i2d (q := 43) (v := 4613937818241073152) X146 C d3_42 (by decide +kernel) rfl ?_
          refine W.iload (q := 45) X146 C d3_43 rfl rfl ?_
          refine W.iconst (q := 46) (v := 1) X146 C d3_45 rfl rfl ?_
          refine W.iadd (q := 47) X146 C d3_46 rfl ?_
          rw [show ((2 : Int32) + (1 : Int32)) = (3 : Int32) by decide]
          refine W.i2d (q := 48) (v := 4613937818241073152) X146 C d3_47 (by decide +kernel) rfl ?_
          refine W.ddiv (q := 49) (v := 4607182418800017408) X146 C d3_48 (by decide +kernel) (by decide +kernel) rfl ?_
          refine W.dadd (q := 50) (v := 4613937818241073152) X146 C d3_49 (by decide +kernel) (by decide +kernel) rfl ?_
          refine W.dstoreN (q := 51) (L' := #[.val (.ref p0), .val (.double (4613937818241073152 : UInt64)), .second, .val (.int (3 : Int32)), .val (.int (2 : Int32))]) X146 C d3_50 rfl rfl ?_
          refine W.iinc (q := 54) (L' := #[.val (.ref p0), .val (.double (4613937818241073152 : UInt64)), .second, .val (.int (3 : Int32)), .val (.int (3 : Int32))]) X146 C d3_51 rfl (by decide) rfl rfl ?_
          refine W.goto (q := 17) X146 C d3_54 (by decide) (by decide) ?_
          refine W.iload (q := 19) X146 C d3_17 rfl rfl ?_
          refine W.aloadN (q := 20) X146 C d3_19 rfl rfl rfl ?_
          refine W.getF (host := "") (q := 23) X146 C (Or.inl (W.ww hw 11 rfl)) Via.refl e146 F0 d3_20 rfl (fun T155 X155 e155 => ?_)
          refine W.arraylength (q := 24) X155 C e155 V0 d3_23 rfl ?_
          refine W.icmpF (q := 27) X155 C d3_24 rfl (by decide : W.cF .ge (3 : Int32) (4 : Int32)) ?_
          refine W.aloadN (q := 28) X155 C d3_27 rfl rfl rfl ?_
          refine W.getF (host := "") (q := 31) X155 C (Or.inl (W.ww hw 11 rfl)) Via.refl e155 F0 d3_28 rfl (fun T156 X156 e156 => ?_)
          refine W.iload (q := 33) X156 C d3_31 rfl rfl ?_
          refine W.iaload (q := 34) X156 C e156 V0 (by decide) (by decide) rfl d3_33 rfl ?_
          refine W.if_ (q := 51) (q' := 37) X156 C d3_34 (by decide) (by decide) rfl (fun hc157 => ?_) (fun hc157 => ?_)
          · replace hc157 : x3.toInt ≤ (0 : Int32).toInt := hc157
            refine W.iinc (q := 54) (L' := #[.val (.ref p0), .val (.double (4613937818241073152 : UInt64)), .second, .val (.int (3 : Int32)), .val (.int (4 : Int32))]) X156 C d3_51 rfl (by decide) rfl rfl ?_
            refine W.goto (q := 17) X156 C d3_54 (by decide) (by decide) ?_
            refine W.iload (q := 19) X156 C d3_17 rfl rfl ?_
            refine W.aloadN (q := 20) X156 C d3_19 rfl rfl rfl ?_
            refine W.getF (host := "") (q := 23) X156 C (Or.inl (W.ww hw 11 rfl)) Via.refl e156 F0 d3_20 rfl (fun T158 X158 e158 => ?_)
            refine W.arraylength (q := 24) X158 C e158 V0 d3_23 rfl ?_
            refine W.icmpT (q := 57) X158 C d3_24 (by decide) (by decide) (by decide : W.cT .ge (4 : Int32) (4 : Int32)) ?_
            refine W.dloadN (q := 58) X158 C d3_57 rfl rfl ?_
            refine W.aloadN (q := 59) X158 C d3_58 rfl rfl rfl ?_
            refine W.getF (host := "") (q := 62) X158 C (Or.inl (W.ww hw 13 rfl)) Via.refl e158 G0 d3_59 rfl (fun T159 X159 e159 => ?_)
            refine W.arraylength (q := 63) X159 C e159 V1 d3_62 rfl ?_
            refine W.i2d (q := 64) (v := FP.i2d mm) X159 C d3_63 rfl rfl ?_
            refine W.ddiv (q := 65) (v := FP.ddiv (4613937818241073152 : UInt64) (FP.i2d mm)) X159 C d3_64 (own_nn true true true false mm hc84 hm.1 hm.2) rfl rfl ?_
            exact W.retD X159 C e159 d3_65 (by decide) (by decide) ⟨by rw [own_div, if_neg hc84, own_pt hc87, own_pt hc127, own_pt hc147, own_pf hc157]; rfl, N0, rfl⟩
          · replace hc157 : (0 : Int32).toInt < x3.toInt := hc157
            refine W.iinc (q := 40) (L' := #[.val (.ref p0), .val (.double (4613937818241073152 : UInt64)), .second, .val (.int (4 : Int32)), .val (.int (3 : Int32))]) X156 C d3_37 rfl (by decide) rfl rfl ?_
            refine W.dloadN (q := 41) X156 C d3_40 rfl rfl ?_
            refine W.iloadN (q := 42) X156 C d3_41 rfl rfl ?_
            refine W.i2d (q := 43) (v := 4616189618054758400) X156 C d3_42 (by decide +kernel) rfl ?_
            refine W.iload (q := 45) X156 C d3_43 rfl rfl ?_
            refine W.iconst (q := 46) (v := 1) X156 C d3_45 rfl rfl ?_
            refine W.iadd (q := 47) X156 C d3_46 rfl ?_
            rw [show ((3 : Int32) + (1 : Int32)) = (4 : Int32) by decide]
            refine W.i2d (q := 48) (v := 4616189618054758400) X156 C d3_47 (by decide +kernel) rfl ?_
            refine W.ddiv (q := 49) (v := 4607182418800017408) X156 C d3_48 (by decide +kernel) (by decide +kernel) rfl ?_
            refine W.dadd (q := 50) (v := 4616189618054758400) X156 C d3_49 (by decide +kernel) (by decide +kernel) rfl ?_
            refine W.dstoreN (q := 51) (L' := #[.val (.ref p0), .val (.double (4616189618054758400 : UInt64)), .second, .val (.int (4 : Int32)), .val (.int (3 : Int32))]) X156 C d3_50 rfl rfl ?_
            refine W.iinc (q := 54) (L' := #[.val (.ref p0), .val (.double (4616189618054758400 : UInt64)), .second, .val (.int (4 : Int32)), .val (.int (4 : Int32))]) X156 C d3_51 rfl (by decide) rfl rfl ?_
            refine W.goto (q := 17) X156 C d3_54 (by decide) (by decide) ?_
            refine W.iload (q := 19) X156 C d3_17 rfl rfl ?_
            refine W.aloadN (q := 20) X156 C d3_19 rfl rfl rfl ?_
            refine W.getF (host := "") (q := 23) X156 C (Or.inl (W.ww hw 11 rfl)) Via.refl e156 F0 d3_20 rfl (fun T160 X160 e160 => ?_)
            refine W.arraylength (q := 24) X160 C e160 V0 d3_23 rfl ?_
            refine W.icmpT (q := 57) X160 C d3_24 (by decide) (by decide) (by decide : W.cT .ge (4 : Int32) (4 : Int32)) ?_
            refine W.dloadN (q := 58) X160 C d3_57 rfl rfl ?_
            refine W.aloadN (q := 59) X160 C d3_58 rfl rfl rfl ?_
            refine W.getF (host := "") (q := 62) X160 C (Or.inl (W.ww hw 13 rfl)) Via.refl e160 G0 d3_59 rfl (fun T161 X161 e161 => ?_)
            refine W.arraylength (q := 63) X161 C e161 V1 d3_62 rfl ?_
            refine W.i2d (q := 64) (v := FP.i2d mm) X161 C d3_63 rfl rfl ?_
            refine W.ddiv (q := 65) (v := FP.ddiv (4616189618054758400 : UInt64) (FP.i2d mm)) X161 C d3_64 (own_nn true true true true mm hc84 hm.1 hm.2) rfl rfl ?_
            exact W.retD X161 C e161 d3_65 (by decide) (by decide) ⟨by rw [own_div, if_neg hc84, own_pt hc87, own_pt hc127, own_pt hc147, own_pt hc157]; rfl, N0, rfl⟩
  · replace hc84 : mm = 0 := hc84
    refine W.dconst0 (q := 9) (v := 0) X83 C d3_8 rfl rfl ?_
    exact W.retD X83 C e83 d3_9 (by decide) (by decide) ⟨by rw [own_div, if_pos hc84], N0, rfl⟩
set_option maxRecDepth 65536 in
set_option maxHeartbeats 40000000 in
theorem own_t0000 (l : Launch) (Z : State) (a0 : Array Value) (hw : ∀ d ∈ tables_1, d.before a0 Z = true) (h0 : Heap) (n0 : Nat) (p0 p1 p2 p3 p4 nn mm : Int32) (ra ia : Addr) (sl : Nat) {p : Program} {e : Env} {s : State} {m : MethodId} {args : Array Value} {below : List Frame} {meth : Method} {c : Code} {T0 : State} {locs : List Loc}
    (C : W.Cx p s m meth c Z code 23 "com/example/cranfield/cranfield/measures/RankedQueryAveragePrecisionPinLaw" "law" (some .boolean)) (X0 : Stand p l e room_1 s m args below meth c T0 locs 3 sl) (e0 : T0.heap = h0) (N0 : Fr n0 locs) (hm : 0 ≤ mm.toInt ∧ mm.toInt ≤ 7) (hsl : sl ≤ 128) :
    W.Go p e below (W.Post s (fun v h L => v = some (.int 1) ∧ Fr n0 L) room_1.cells room_1.slots) (T0.setTop (mkF m 157 #[.val (.int p0), .val (.int p1), .val (.int p2), .val (.int p3), .val (.int p4), .val (.int nn), .val (.int mm), .val (.ref ra), .val (.ref ia), .val (.double (own_div (own_tab false false false false) mm)), .second, .val (.int (0 : Int32)), .val (.int (0 : Int32)), .val (.int (0 : Int32)), .val (.int (0 : Int32)), .unset, .unset, .unset, .unset, .unset, .unset, .unset, .unset] [])) := by
  refine W.iload (q := 159) X0 C at_157 rfl rfl ?_
  refine W.ifT (q := 166) X0 C at_159 (by decide) (by decide) (by decide : W.cT .eq (0 : Int32) 0) ?_
  refine W.iconst (q := 167) (v := 0) X0 C at_166 rfl rfl ?_
  refine W.istore (q := 169) (L' := #[.val (.int p0), .val (.int p1), .val (.int p2), .val (.int p3), .val (.int p4), .val (.int nn), .val (.int mm), .val (.ref ra), .val (.ref ia), .val (.double (own_div (own_tab false false false false) mm)), .second, .val (.int (0 : Int32)), .val (.int (0 : Int32)), .val (.int (0 : Int32)), .val (.int (0 : Int32)), .val (.int (0 : Int32)), .unset, .unset, .unset, .unset, .unset, .unset, .unset]) X0 C at_167 rfl rfl ?_
  refine W.iload (q := 171) X0 C at_169 rfl rfl ?_
  refine W.iload (q := 173) X0 C at_171 rfl rfl ?_
  refine W.ifT (q := 180) X0 C at_173 (by decide) (by decide) (by decide : W.cT .eq (0 : Int32) 0) ?_
  refine W.iconst (q := 181) (v := 0) X0 C at_180 rfl rfl ?_
  refine W.iadd (q := 182) X0 C at_181 rfl ?_
  rw [show ((0 : Int32) + (0 : Int32)) = (0 : Int32) by decide]
  refine W.istore (q := 184) (L' := #[.val (.int p0), .val (.int p1), .val (.int p2), .val (.int p3), .val (.int p4), .val (.int nn), .val (.int mm), .val (.ref ra), .val (.ref ia), .val (.double (own_div (own_tab false false false false) mm)), .second, .val (.int (0 : Int32)), .val (.int (0 : Int32)), .val (.int (0 : Int32)), .val (.int (0 : Int32)), .val (.int (0 : Int32)), .val (.int (0 : Int32)), .unset, .unset, .unset, .unset, .unset, .unset]) X0 C at_182 rfl rfl ?_
  refine W.iload (q := 186) X0 C at_184 rfl rfl ?_
  refine W.iload (q := 188) X0 C at_186 rfl rfl ?_
  refine W.ifT (q := 195) X0 C at_188 (by decide) (by decide) (by decide : W.cT .eq (0 : Int32) 0) ?_
  refine W.iconst (q := 196) (v := 0) X0 C at_195 rfl rfl ?_
  refine W.iadd (q := 197) X0 C at_196 rfl ?_
  rw [show ((0 : Int32) + (0 : Int32)) = (0 : Int32) by decide]
  refine W.istore (q := 199) (L' := #[.val (.int p0), .val (.int p1), .val (.int p2), .val (.int p3), .val (.int p4), .val (.int nn), .val (.int mm), .val (.ref ra), .val (.ref ia), .val (.double (own_div (own_tab false false false false) mm)), .second, .val (.int (0 : Int32)), .val (.int (0 : Int32)), .val (.int (0 : Int32)), .val (.int (0 : Int32)), .val (.int (0 : Int32)), .val (.int (0 : Int32)), .val (.int (0 : Int32)), .unset, .unset, .unset, .unset, .unset]) X0 C at_197 rfl rfl ?_
  refine W.iload (q := 201) X0 C at_199 rfl rfl ?_
  refine W.iload (q := 203) X0 C at_201 rfl rfl ?_
  refine W.ifT (q := 210) X0 C at_203 (by decide) (by decide) (by decide : W.cT .eq (0 : Int32) 0) ?_
  refine W.iconst (q := 211) (v := 0) X0 C at_210 rfl rfl ?_
  refine W.iadd (q := 212) X0 C at_211 rfl ?_
  rw [show ((0 : Int32) + (0 : Int32)) = (0 : Int32) by decide]
  refine W.istore (q := 214) (L' := #[.val (.int p0), .val (.int p1), .val (.int p2), .val (.int p3), .val (.int p4), .val (.int nn), .val (.int mm), .val (.ref ra), .val (.ref ia), .val (.double (own_div (own_tab false false false false) mm)), .second, .val (.int (0 : Int32)), .val (.int (0 : Int32)), .val (.int (0 : Int32)), .val (.int (0 : Int32)), .val (.int (0 : Int32)), .val (.int (0 : Int32)), .val (.int (0 : Int32)), .val (.int (0 : Int32)), .unset, .unset, .unset, .unset]) X0 C at_212 rfl rfl ?_
  refine W.dconst0 (q := 215) (v := 0) X0 C at_214 rfl rfl ?_
  refine W.dstore (q := 217) (L' := #[.val (.int p0), .val (.int p1), .val (.int p2), .val (.int p3), .val (.int p4), .val (.int nn), .val (.int mm), .val (.ref ra), .val (.ref ia), .val (.double (own_div (own_tab false false false false) mm)), .second, .val (.int (0 : Int32)), .val (.int (0 : Int32)), .val (.int (0 : Int32)), .val (.int (0 : Int32)), .val (.int (0 : Int32)), .val (.int (0 : Int32)), .val (.int (0 : Int32)), .val (.int (0 : Int32)), .val (.double (0 : UInt64)), .second, .unset, .unset]) X0 C at_215 rfl rfl ?_
  refine W.iload (q := 219) X0 C at_217 rfl rfl ?_
  refine W.ifT (q := 232) X0 C at_219 (by decide) (by decide) (by decide : W.cT .eq (0 : Int32) 0) ?_
  refine W.iload (q := 234) X0 C at_232 rfl rfl ?_
  refine W.ifT (q := 249) X0 C at_234 (by decide) (by decide) (by decide : W.cT .eq (0 : Int32) 0) ?_
  refine W.iload (q := 251) X0 C at_249 rfl rfl ?_
  refine W.ifT (q := 266) X0 C at_251 (by decide) (by decide) (by decide : W.cT .eq (0 : Int32) 0) ?_
  refine W.iload (q := 268) X0 C at_266 rfl rfl ?_
  refine W.ifT (q := 283) X0 C at_268 (by decide) (by decide) (by decide : W.cT .eq (0 : Int32) 0) ?_
  refine W.iload (q := 285) X0 C at_283 rfl rfl ?_
  refine W.if_ (q := 292) (q' := 288) X0 C at_285 (by decide) (by decide) rfl (fun hc162 => ?_) (fun hc162 => ?_)
  · replace hc162 : mm ≠ 0 := hc162
    refine W.dload (q := 294) X0 C at_292 rfl rfl ?_
    refine W.iload (q := 296) X0 C at_294 rfl rfl ?_
    refine W.i2d (q := 297) (v := FP.i2d mm) X0 C at_296 rfl rfl ?_
    refine W.ddiv (q := 298) (v := FP.ddiv (0 : UInt64) (FP.i2d mm)) X0 C at_297 (own_nn false false false false mm hc162 hm.1 hm.2) rfl rfl ?_
    refine W.dstore (q := 300) (L' := #[.val (.int p0), .val (.int p1), .val (.int p2), .val (.int p3), .val (.int p4), .val (.int nn), .val (.int mm), .val (.ref ra), .val (.ref ia), .val (.double (own_div (own_tab false false false false) mm)), .second, .val (.int (0 : Int32)), .val (.int (0 : Int32)), .val (.int (0 : Int32)), .val (.int (0 : Int32)), .val (.int (0 : Int32)), .val (.int (0 : Int32)), .val (.int (0 : Int32)), .val (.int (0 : Int32)), .val (.double (0 : UInt64)), .second, .val (.double (FP.ddiv (0 : UInt64) (FP.i2d mm))), .second]) X0 C at_298 rfl rfl ?_
    refine W.dload (q := 302) X0 C at_300 rfl rfl ?_
    refine W.dload (q := 304) X0 C at_302 rfl rfl ?_
    refine W.dcmp (q := 305) (v := 0) X0 C at_304 (by rw [own_div, if_neg hc162]; exact dcmpV_self (own_nn false false false false mm hc162 hm.1 hm.2) _) rfl ?_
    refine W.ifF (q := 308) X0 C at_305 rfl (by decide : W.cF .ne (0 : Int32) 0) ?_
    refine W.iconst (q := 309) (v := 1) X0 C at_308 rfl rfl ?_
    refine W.goto (q := 313) X0 C at_309 (by decide) (by decide) ?_
    exact W.retN X0 C (by simp) e0 at_313 rfl (by decide) hsl ⟨rfl, N0⟩
  · replace hc162 : mm = 0 := hc162
    refine W.dconst0 (q := 289) (v := 0) X0 C at_288 rfl rfl ?_
    refine W.goto (q := 298) X0 C at_289 (by decide) (by decide) ?_
    refine W.dstore (q := 300) (L' := #[.val (.int p0), .val (.int p1), .val (.int p2), .val (.int p3), .val (.int p4), .val (.int nn), .val (.int mm), .val (.ref ra), .val (.ref ia), .val (.double (own_div (own_tab false false false false) mm)), .second, .val (.int (0 : Int32)), .val (.int (0 : Int32)), .val (.int (0 : Int32)), .val (.int (0 : Int32)), .val (.int (0 : Int32)), .val (.int (0 : Int32)), .val (.int (0 : Int32)), .val (.int (0 : Int32)), .val (.double (0 : UInt64)), .second, .val (.double (0 : UInt64)), .second]) X0 C at_298 rfl rfl ?_
    refine W.dload (q := 302) X0 C at_300 rfl rfl ?_
    refine W.dload (q := 304) X0 C at_302 rfl rfl ?_
    refine W.dcmp (q := 305) (v := 0) X0 C at_304 (by rw [own_div, if_pos hc162]; decide +kernel) rfl ?_
    refine W.ifF (q := 308) X0 C at_305 rfl (by decide : W.cF .ne (0 : Int32) 0) ?_
    refine W.iconst (q := 309) (v := 1) X0 C at_308 rfl rfl ?_
    refine W.goto (q := 313) X0 C at_309 (by decide) (by decide) ?_
    exact W.retN X0 C (by simp) e0 at_313 rfl (by decide) hsl ⟨rfl, N0⟩
set_option maxRecDepth 65536 in
set_option maxHeartbeats 40000000 in
theorem own_t0001 (l : Launch) (Z : State) (a0 : Array Value) (hw : ∀ d ∈ tables_1, d.before a0 Z = true) (h0 : Heap) (n0 : Nat) (p0 p1 p2 p3 p4 nn mm : Int32) (ra ia : Addr) (sl : Nat) {p : Program} {e : Env} {s : State} {m : MethodId} {args : Array Value} {below : List Frame} {meth : Method} {c : Code} {T0 : State} {locs : List Loc}
    (C : W.Cx p s m meth c Z code 23 "com/example/cranfield/cranfield/measures/RankedQueryAveragePrecisionPinLaw" "law" (some .boolean)) (X0 : Stand p l e room_1 s m args below meth c T0 locs 3 sl) (e0 : T0.heap = h0) (N0 : Fr n0 locs) (hm : 0 ≤ mm.toInt ∧ mm.toInt ≤ 7) (hsl : sl ≤ 128) :
    W.Go p e below (W.Post s (fun v h L => v = some (.int 1) ∧ Fr n0 L) room_1.cells room_1.slots) (T0.setTop (mkF m 157 #[.val (.int p0), .val (.int p1), .val (.int p2), .val (.int p3), .val (.int p4), .val (.int nn), .val (.int mm), .val (.ref ra), .val (.ref ia), .val (.double (own_div (own_tab false false false true) mm)), .second, .val (.int (0 : Int32)), .val (.int (0 : Int32)), .val (.int (0 : Int32)), .val (.int (1 : Int32)), .unset, .unset, .unset, .unset, .unset, .unset, .unset, .unset] [])) := by
  refine W.iload (q := 159) X0 C at_157 rfl rfl ?_
  refine W.ifT (q := 166) X0 C at_159 (by decide) (by decide) (by decide : W.cT .eq (0 : Int32) 0) ?_
  refine W.iconst (q := 167) (v := 0) X0 C at_166 rfl rfl ?_
  refine W.istore (q := 169) (L' := #[.val (.int p0), .val (.int p1), .val (.int p2), .val (.int p3), .val (.int p4), .val (.int nn), .val (.int mm), .val (.ref ra), .val (.ref ia), .val (.double (own_div (own_tab false false false true) mm)), .second, .val (.int (0 : Int32)), .val (.int (0 : Int32)), .val (.int (0 : Int32)), .val (.int (1 : Int32)), .val (.int (0 : Int32)), .unset, .unset, .unset, .unset, .unset, .unset, .unset]) X0 C at_167 rfl rfl ?_
  refine W.iload (q := 171) X0 C at_169 rfl rfl ?_
  refine W.iload (q := 173) X0 C at_171 rfl rfl ?_
  refine W.ifT (q := 180) X0 C at_173 (by decide) (by decide) (by decide : W.cT .eq (0 : Int32) 0) ?_
  refine W.iconst (q := 181) (v := 0) X0 C at_180 rfl rfl ?_
  refine W.iadd (q := 182) X0 C at_181 rfl ?_
  rw [show ((0 : Int32) + (0 : Int32)) = (0 : Int32) by decide]
  refine W.istore (q := 184) (L' := #[.val (.int p0), .val (.int p1), .val (.int p2), .val (.int p3), .val (.int p4), .val (.int nn), .val (.int mm), .val (.ref ra), .val (.ref ia), .val (.double (own_div (own_tab false false false true) mm)), .second, .val (.int (0 : Int32)), .val (.int (0 : Int32)), .val (.int (0 : Int32)), .val (.int (1 : Int32)), .val (.int (0 : Int32)), .val (.int (0 : Int32)), .unset, .unset, .unset, .unset, .unset, .unset]) X0 C at_182 rfl rfl ?_
  refine W.iload (q := 186) X0 C at_184 rfl rfl ?_
  refine W.iload (q := 188) X0 C at_186 rfl rfl ?_
  refine W.ifT (q := 195) X0 C at_188 (by decide) (by decide) (by decide : W.cT .eq (0 : Int32) 0) ?_
  refine W.iconst (q := 196) (v := 0) X0 C at_195 rfl rfl ?_
  refine W.iadd (q := 197) X0 C at_196 rfl ?_
  rw [show ((0 : Int32) + (0 : Int32)) = (0 : Int32) by decide]
  refine W.istore (q := 199) (L' := #[.val (.int p0), .val (.int p1), .val (.int p2), .val (.int p3), .val (.int p4), .val (.int nn), .val (.int mm), .val (.ref ra), .val (.ref ia), .val (.double (own_div (own_tab false false false true) mm)), .second, .val (.int (0 : Int32)), .val (.int (0 : Int32)), .val (.int (0 : Int32)), .val (.int (1 : Int32)), .val (.int (0 : Int32)), .val (.int (0 : Int32)), .val (.int (0 : Int32)), .unset, .unset, .unset, .unset, .unset]) X0 C at_197 rfl rfl ?_
  refine W.iload (q := 201) X0 C at_199 rfl rfl ?_
  refine W.iload (q := 203) X0 C at_201 rfl rfl ?_
  refine W.ifF (q := 206) X0 C at_203 rfl (by decide : W.cF .eq (1 : Int32) 0) ?_
  refine W.iconst (q := 207) (v := 1) X0 C at_206 rfl rfl ?_
  refine W.goto (q := 211) X0 C at_207 (by decide) (by decide) ?_
  refine W.iadd (q := 212) X0 C at_211 rfl ?_
  rw [show ((0 : Int32) + (1 : Int32)) = (1 : Int32) by decide]
  refine W.istore (q := 214) (L' := #[.val (.int p0), .val (.int p1), .val (.int p2), .val (.int p3), .val (.int p4), .val (.int nn), .val (.int mm), .val (.ref ra), .val (.ref ia), .val (.double (own_div (own_tab false false false true) mm)), .second, .val (.int (0 : Int32)), .val (.int (0 : Int32)), .val (.int (0 : Int32)), .val (.int (1 : Int32)), .val (.int (0 : Int32)), .val (.int (0 : Int32)), .val (.int (0 : Int32)), .val (.int (1 : Int32)), .unset, .unset, .unset, .unset]) X0 C at_212 rfl rfl ?_
  refine W.dconst0 (q := 215) (v := 0) X0 C at_214 rfl rfl ?_
  refine W.dstore (q := 217) (L' := #[.val (.int p0), .val (.int p1), .val (.int p2), .val (.int p3), .val (.int p4), .val (.int nn), .val (.int mm), .val (.ref ra), .val (.ref ia), .val (.double (own_div (own_tab false false false true) mm)), .second, .val (.int (0 : Int32)), .val (.int (0 : Int32)), .val (.int (0 : Int32)), .val (.int (1 : Int32)), .val (.int (0 : Int32)), .val (.int (0 : Int32)), .val (.int (0 : Int32)), .val (.int (1 : Int32)), .val (.double (0 : UInt64)), .second, .unset, .unset]) X0 C at_215 rfl rfl ?_
  refine W.iload (q := 219) X0 C at_217 rfl rfl ?_
  refine W.ifT (q := 232) X0 C at_219 (by decide) (by decide) (by decide : W.cT .eq (0 : Int32) 0) ?_
  refine W.iload (q := 234) X0 C at_232 rfl rfl ?_
  refine W.ifT (q := 249) X0 C at_234 (by decide) (by decide) (by decide : W.cT .eq (0 : Int32) 0) ?_
  refine W.iload (q := 251) X0 C at_249 rfl rfl ?_
  refine W.ifT (q := 266) X0 C at_251 (by decide) (by decide) (by decide : W.cT .eq (0 : Int32) 0) ?_
  refine W.iload (q := 268) X0 C at_266 rfl rfl ?_
  refine W.ifF (q := 271) X0 C at_268 rfl (by decide : W.cF .eq (1 : Int32) 0) ?_
  refine W.dload (q := 273) X0 C at_271 rfl rfl ?_
  refine W.iload (q := 275) X0 C at_273 rfl rfl ?_
  refine W.i2d (q := 276) (v := 4607182418800017408) X0 C at_275 (by decide +kernel) rfl ?_
  refine W.ldcD (q := 279) X0 C (W.ww hw 22 rfl) at_276 rfl ?_
  refine W.ddiv (q := 280) (v := 4598175219545276416) X0 C at_279 (by decide +kernel) (by decide +kernel) rfl ?_
  refine W.dadd (q := 281) (v := 4598175219545276416) X0 C at_280 (by decide +kernel) (by decide +kernel) rfl ?_
  refine W.dstore (q := 283) (L' := #[.val (.int p0), .val (.int p1), .val (.int p2), .val (.int p3), .val (.int p4), .val (.int nn), .val (.int mm), .val (.ref ra), .val (.ref ia), .val (.double (own_div (own_tab false false false true) mm)), .second, .val (.int (0 : Int32)), .val (.int (0 : Int32)), .val (.int (0 : Int32)), .val (.int (1 : Int32)), .val (.int (0 : Int32)), .val (.int (0 : Int32)), .val (.int (0 : Int32)), .val (.int (1 : Int32)), .val (.double (4598175219545276416 : UInt64)), .second, .unset, .unset]) X0 C at_281 rfl rfl ?_
  refine W.iload (q := 285) X0 C at_283 rfl rfl ?_
  refine W.if_ (q := 292) (q' := 288) X0 C at_285 (by decide) (by decide) rfl (fun hc163 => ?_) (fun hc163 => ?_)
  · replace hc163 : mm ≠ 0 := hc163
    refine W.dload (q := 294) X0 C at_292 rfl rfl ?_
    refine W.iload (q := 296) X0 C at_294 rfl rfl ?_
    refine W.i2d (q := 297) (v := FP.i2d mm) X0 C at_296 rfl rfl ?_
    refine W.ddiv (q := 298) (v := FP.ddiv (4598175219545276416 : UInt64) (FP.i2d mm)) X0 C at_297 (own_nn false false false true mm hc163 hm.1 hm.2) rfl rfl ?_
    refine W.dstore (q := 300) (L' := #[.val (.int p0), .val (.int p1), .val (.int p2), .val (.int p3), .val (.int p4), .val (.int nn), .val (.int mm), .val (.ref ra), .val (.ref ia), .val (.double (own_div (own_tab false false false true) mm)), .second, .val (.int (0 : Int32)), .val (.int (0 : Int32)), .val (.int (0 : Int32)), .val (.int (1 : Int32)), .val (.int (0 : Int32)), .val (.int (0 : Int32)), .val (.int (0 : Int32)), .val (.int (1 : Int32)), .val (.double (4598175219545276416 : UInt64)), .second, .val (.double (FP.ddiv (4598175219545276416 : UInt64) (FP.i2d mm))), .second]) X0 C at_298 rfl rfl ?_
    refine W.dload (q := 302) X0 C at_300 rfl rfl ?_
    refine W.dload (q := 304) X0 C at_302 rfl rfl ?_
    refine W.dcmp (q := 305) (v := 0) X0 C at_304 (by rw [own_div, if_neg hc163]; exact dcmpV_self (own_nn false false false true mm hc163 hm.1 hm.2) _) rfl ?_
    refine W.ifF (q := 308) X0 C at_305 rfl (by decide : W.cF .ne (0 : Int32) 0) ?_
    refine W.iconst (q := 309) (v := 1) X0 C at_308 rfl rfl ?_
    refine W.goto (q := 313) X0 C at_309 (by decide) (by decide) ?_
    exact W.retN X0 C (by simp) e0 at_313 rfl (by decide) hsl ⟨rfl, N0⟩
  · replace hc163 : mm = 0 := hc163
    refine W.dconst0 (q := 289) (v := 0) X0 C at_288 rfl rfl ?_
    refine W.goto (q := 298) X0 C at_289 (by decide) (by decide) ?_
    refine W.dstore (q := 300) (L' := #[.val (.int p0), .val (.int p1), .val (.int p2), .val (.int p3), .val (.int p4), .val (.int nn), .val (.int mm), .val (.ref ra), .val (.ref ia), .val (.double (own_div (own_tab false false false true) mm)), .second, .val (.int (0 : Int32)), .val (.int (0 : Int32)), .val (.int (0 : Int32)), .val (.int (1 : Int32)), .val (.int (0 : Int32)), .val (.int (0 : Int32)), .val (.int (0 : Int32)), .val (.int (1 : Int32)), .val (.double (4598175219545276416 : UInt64)), .second, .val (.double (0 : UInt64)), .second]) X0 C at_298 rfl rfl ?_
    refine W.dload (q := 302) X0 C at_300 rfl rfl ?_
    refine W.dload (q := 304) X0 C at_302 rfl rfl ?_
    refine W.dcmp (q := 305) (v := 0) X0 C at_304 (by rw [own_div, if_pos hc163]; decide +kernel) rfl ?_
    refine W.ifF (q := 308) X0 C at_305 rfl (by decide : W.cF .ne (0 : Int32) 0) ?_
    refine W.iconst (q := 309) (v := 1) X0 C at_308 rfl rfl ?_
    refine W.goto (q := 313) X0 C at_309 (by decide) (by decide) ?_
    exact W.retN X0 C (by simp) e0 at_313 rfl (by decide) hsl ⟨rfl, N0⟩
set_option maxRecDepth 65536 in
set_option maxHeartbeats 40000000 in
theorem own_t0010 (l : Launch) (Z : State) (a0 : Array Value) (hw : ∀ d ∈ tables_1, d.before a0 Z = true) (h0 : Heap) (n0 : Nat) (p0 p1 p2 p3 p4 nn mm : Int32) (ra ia : Addr) (sl : Nat) {p : Program} {e : Env} {s : State} {m : MethodId} {args : Array Value} {below : List Frame} {meth : Method} {c : Code} {T0 : State} {locs : List Loc}
    (C : W.Cx p s m meth c Z code 23 "com/example/cranfield/cranfield/measures/RankedQueryAveragePrecisionPinLaw" "law" (some .boolean)) (X0 : Stand p l e room_1 s m args below meth c T0 locs 3 sl) (e0 : T0.heap = h0) (N0 : Fr n0 locs) (hm : 0 ≤ mm.toInt ∧ mm.toInt ≤ 7) (hsl : sl ≤ 128) :
    W.Go p e below (W.Post s (fun v h L => v = some (.int 1) ∧ Fr n0 L) room_1.cells room_1.slots) (T0.setTop (mkF m 157 #[.val (.int p0), .val (.int p1), .val (.int p2), .val (.int p3), .val (.int p4), .val (.int nn), .val (.int mm), .val (.ref ra), .val (.ref ia), .val (.double (own_div (own_tab false false true false) mm)), .second, .val (.int (0 : Int32)), .val (.int (0 : Int32)), .val (.int (1 : Int32)), .val (.int (0 : Int32)), .unset, .unset, .unset, .unset, .unset, .unset, .unset, .unset] [])) := by
  refine W.iload (q := 159) X0 C at_157 rfl rfl ?_
  refine W.ifT (q := 166) X0 C at_159 (by decide) (by decide) (by decide : W.cT .eq (0 : Int32) 0) ?_
  refine W.iconst (q := 167) (v := 0) X0 C at_166 rfl rfl ?_
  refine W.istore (q := 169) (L' := #[.val (.int p0), .val (.int p1), .val (.int p2), .val (.int p3), .val (.int p4), .val (.int nn), .val (.int mm), .val (.ref ra), .val (.ref ia), .val (.double (own_div (own_tab false false true false) mm)), .second, .val (.int (0 : Int32)), .val (.int (0 : Int32)), .val (.int (1 : Int32)), .val (.int (0 : Int32)), .val (.int (0 : Int32)), .unset, .unset, .unset, .unset, .unset, .unset, .unset]) X0 C at_167 rfl rfl ?_
  refine W.iload (q := 171) X0 C at_169 rfl rfl ?_
  refine W.iload (q := 173) X0 C at_171 rfl rfl ?_
  refine W.ifT (q := 180) X0 C at_173 (by decide) (by decide) (by decide : W.cT .eq (0 : Int32) 0) ?_
  refine W.iconst (q := 181) (v := 0) X0 C at_180 rfl rfl ?_
  refine W.iadd (q := 182) X0 C at_181 rfl ?_
  rw [show ((0 : Int32) + (0 : Int32)) = (0 : Int32) by decide]
  refine W.istore (q := 184) (L' := #[.val (.int p0), .val (.int p1), .val (.int p2), .val (.int p3), .val (.int p4), .val (.int nn), .val (.int mm), .val (.ref ra), .val (.ref ia), .val (.double (own_div (own_tab false false true false) mm)), .second, .val (.int (0 : Int32)), .val (.int (0 : Int32)), .val (.int (1 : Int32)), .val (.int (0 : Int32)), .val (.int (0 : Int32)), .val (.int (0 : Int32)), .unset, .unset, .unset, .unset, .unset, .unset]) X0 C at_182 rfl rfl ?_
  refine W.iload (q := 186) X0 C at_184 rfl rfl ?_
  refine W.iload (q := 188) X0 C at_186 rfl rfl ?_
  refine W.ifF (q := 191) X0 C at_188 rfl (by decide : W.cF .eq (1 : Int32) 0) ?_
  refine W.iconst (q := 192) (v := 1) X0 C at_191 rfl rfl ?_
  refine W.goto (q := 196) X0 C at_192 (by decide) (by decide) ?_
  refine W.iadd (q := 197) X0 C at_196 rfl ?_
  rw [show ((0 : Int32) + (1 : Int32)) = (1 : Int32) by decide]
  refine W.istore (q := 199) (L' := #[.val (.int p0), .val (.int p1), .val (.int p2), .val (.int p3), .val (.int p4), .val (.int nn), .val (.int mm), .val (.ref ra), .val (.ref ia), .val (.double (own_div (own_tab false false true false) mm)), .second, .val (.int (0 : Int32)), .val (.int (0 : Int32)), .val (.int (1 : Int32)), .val (.int (0 : Int32)), .val (.int (0 : Int32)), .val (.int (0 : Int32)), .val (.int (1 : Int32)), .unset, .unset, .unset, .unset, .unset]) X0 C at_197 rfl rfl ?_
  refine W.iload (q := 201) X0 C at_199 rfl rfl ?_
  refine W.iload (q := 203) X0 C at_201 rfl rfl ?_
  refine W.ifT (q := 210) X0 C at_203 (by decide) (by decide) (by decide : W.cT .eq (0 : Int32) 0) ?_
  refine W.iconst (q := 211) (v := 0) X0 C at_210 rfl rfl ?_
  refine W.iadd (q := 212) X0 C at_211 rfl ?_
  rw [show ((1 : Int32) + (0 : Int32)) = (1 : Int32) by decide]
  refine W.istore (q := 214) (L' := #[.val (.int p0), .val (.int p1), .val (.int p2), .val (.int p3), .val (.int p4), .val (.int nn), .val (.int mm), .val (.ref ra), .val (.ref ia), .val (.double (own_div (own_tab false false true false) mm)), .second, .val (.int (0 : Int32)), .val (.int (0 : Int32)), .val (.int (1 : Int32)), .val (.int (0 : Int32)), .val (.int (0 : Int32)), .val (.int (0 : Int32)), .val (.int (1 : Int32)), .val (.int (1 : Int32)), .unset, .unset, .unset, .unset]) X0 C at_212 rfl rfl ?_
  refine W.dconst0 (q := 215) (v := 0) X0 C at_214 rfl rfl ?_
  refine W.dstore (q := 217) (L' := #[.val (.int p0), .val (.int p1), .val (.int p2), .val (.int p3), .val (.int p4), .val (.int nn), .val (.int mm), .val (.ref ra), .val (.ref ia), .val (.double (own_div (own_tab false false true false) mm)), .second, .val (.int (0 : Int32)), .val (.int (0 : Int32)), .val (.int (1 : Int32)), .val (.int (0 : Int32)), .val (.int (0 : Int32)), .val (.int (0 : Int32)), .val (.int (1 : Int32)), .val (.int (1 : Int32)), .val (.double (0 : UInt64)), .second, .unset, .unset]) X0 C at_215 rfl rfl ?_
  refine W.iload (q := 219) X0 C at_217 rfl rfl ?_
  refine W.ifT (q := 232) X0 C at_219 (by decide) (by decide) (by decide : W.cT .eq (0 : Int32) 0) ?_
  refine W.iload (q := 234) X0 C at_232 rfl rfl ?_
  refine W.ifT (q := 249) X0 C at_234 (by decide) (by decide) (by decide : W.cT .eq (0 : Int32) 0) ?_
  refine W.iload (q := 251) X0 C at_249 rfl rfl ?_
  refine W.ifF (q := 254) X0 C at_251 rfl (by decide : W.cF .eq (1 : Int32) 0) ?_
  refine W.dload (q := 256) X0 C at_254 rfl rfl ?_
  refine W.iload (q := 258) X0 C at_256 rfl rfl ?_
  refine W.i2d (q := 259) (v := 4607182418800017408) X0 C at_258 (by decide +kernel) rfl ?_
  refine W.ldcD (q := 262) X0 C (W.ww hw 21 rfl) at_259 rfl ?_
  refine W.ddiv (q := 263) (v := 4599676419421066581) X0 C at_262 (by decide +kernel) (by decide +kernel) rfl ?_
  refine W.dadd (q := 264) (v := 4599676419421066581) X0 C at_263 (by decide +kernel) (by decide +kernel) rfl ?_
  refine W.dstore (q := 266) (L' := #[.val (.int p0), .val (.int p1), .val (.int p2), .val (.int p3), .val (.int p4), .val (.int nn), .val (.int mm), .val (.ref ra), .val (.ref ia), .val (.double (own_div (own_tab false false true false) mm)), .second, .val (.int (0 : Int32)), .val (.int (0 : Int32)), .val (.int (1 : Int32)), .val (.int (0 : Int32)), .val (.int (0 : Int32)), .val (.int (0 : Int32)), .val (.int (1 : Int32)), .val (.int (1 : Int32)), .val (.double (4599676419421066581 : UInt64)), .second, .unset, .unset]) X0 C at_264 rfl rfl ?_
  refine W.iload (q := 268) X0 C at_266 rfl rfl ?_
  refine W.ifT (q := 283) X0 C at_268 (by decide) (by decide) (by decide : W.cT .eq (0 : Int32) 0) ?_
  refine W.iload (q := 285) X0 C at_283 rfl rfl ?_
  refine W.if_ (q := 292) (q' := 288) X0 C at_285 (by decide) (by decide) rfl (fun hc164 => ?_) (fun hc164 => ?_)
  · replace hc164 : mm ≠ 0 := hc164
    refine W.dload (q := 294) X0 C at_292 rfl rfl ?_
    refine W.iload (q := 296) X0 C at_294 rfl rfl ?_
    refine W.i2d (q := 297) (v := FP.i2d mm) X0 C at_296 rfl rfl ?_
    refine W.ddiv (q := 298) (v := FP.ddiv (4599676419421066581 : UInt64) (FP.i2d mm)) X0 C at_297 (own_nn false false true false mm hc164 hm.1 hm.2) rfl rfl ?_
    refine W.dstore (q := 300) (L' := #[.val (.int p0), .val (.int p1), .val (.int p2), .val (.int p3), .val (.int p4), .val (.int nn), .val (.int mm), .val (.ref ra), .val (.ref ia), .val (.double (own_div (own_tab false false true false) mm)), .second, .val (.int (0 : Int32)), .val (.int (0 : Int32)), .val (.int (1 : Int32)), .val (.int (0 : Int32)), .val (.int (0 : Int32)), .val (.int (0 : Int32)), .val (.int (1 : Int32)), .val (.int (1 : Int32)), .val (.double (4599676419421066581 : UInt64)), .second, .val (.double (FP.ddiv (4599676419421066581 : UInt64) (FP.i2d mm))), .second]) X0 C at_298 rfl rfl ?_
    refine W.dload (q := 302) X0 C at_300 rfl rfl ?_
    refine W.dload (q := 304) X0 C at_302 rfl rfl ?_
    refine W.dcmp (q := 305) (v := 0) X0 C at_304 (by rw [own_div, if_neg hc164]; exact dcmpV_self (own_nn false false true false mm hc164 hm.1 hm.2) _) rfl ?_
    refine W.ifF (q := 308) X0 C at_305 rfl (by decide : W.cF .ne (0 : Int32) 0) ?_
    refine W.iconst (q := 309) (v := 1) X0 C at_308 rfl rfl ?_
    refine W.goto (q := 313) X0 C at_309 (by decide) (by decide) ?_
    exact W.retN X0 C (by simp) e0 at_313 rfl (by decide) hsl ⟨rfl, N0⟩
  · replace hc164 : mm = 0 := hc164
    refine W.dconst0 (q := 289) (v := 0) X0 C at_288 rfl rfl ?_
    refine W.goto (q := 298) X0 C at_289 (by decide) (by decide) ?_
    refine W.dstore (q := 300) (L' := #[.val (.int p0), .val (.int p1), .val (.int p2), .val (.int p3), .val (.int p4), .val (.int nn), .val (.int mm), .val (.ref ra), .val (.ref ia), .val (.double (own_div (own_tab false false true false) mm)), .second, .val (.int (0 : Int32)), .val (.int (0 : Int32)), .val (.int (1 : Int32)), .val (.int (0 : Int32)), .val (.int (0 : Int32)), .val (.int (0 : Int32)), .val (.int (1 : Int32)), .val (.int (1 : Int32)), .val (.double (4599676419421066581 : UInt64)), .second, .val (.double (0 : UInt64)), .second]) X0 C at_298 rfl rfl ?_
    refine W.dload (q := 302) X0 C at_300 rfl rfl ?_
    refine W.dload (q := 304) X0 C at_302 rfl rfl ?_
    refine W.dcmp (q := 305) (v := 0) X0 C at_304 (by rw [own_div, if_pos hc164]; decide +kernel) rfl ?_
    refine W.ifF (q := 308) X0 C at_305 rfl (by decide : W.cF .ne (0 : Int32) 0) ?_
    refine W.iconst (q := 309) (v := 1) X0 C at_308 rfl rfl ?_
    refine W.goto (q := 313) X0 C at_309 (by decide) (by decide) ?_
    exact W.retN X0 C (by simp) e0 at_313 rfl (by decide) hsl ⟨rfl, N0⟩
set_option maxRecDepth 65536 in
set_option maxHeartbeats 40000000 in
theorem own_t0011 (l : Launch) (Z : State) (a0 : Array Value) (hw : ∀ d ∈ tables_1, d.before a0 Z = true) (h0 : Heap) (n0 : Nat) (p0 p1 p2 p3 p4 nn mm : Int32) (ra ia : Addr) (sl : Nat) {p : Program} {e : Env} {s : State} {m : MethodId} {args : Array Value} {below : List Frame} {meth : Method} {c : Code} {T0 : State} {locs : List Loc}
    (C : W.Cx p s m meth c Z code 23 "com/example/cranfield/cranfield/measures/RankedQueryAveragePrecisionPinLaw" "law" (some .boolean)) (X0 : Stand p l e room_1 s m args below meth c T0 locs 3 sl) (e0 : T0.heap = h0) (N0 : Fr n0 locs) (hm : 0 ≤ mm.toInt ∧ mm.toInt ≤ 7) (hsl : sl ≤ 128) :
    W.Go p e below (W.Post s (fun v h L => v = some (.int 1) ∧ Fr n0 L) room_1.cells room_1.slots) (T0.setTop (mkF m 157 #[.val (.int p0), .val (.int p1), .val (.int p2), .val (.int p3), .val (.int p4), .val (.int nn), .val (.int mm), .val (.ref ra), .val (.ref ia), .val (.double (own_div (own_tab false false true true) mm)), .second, .val (.int (0 : Int32)), .val (.int (0 : Int32)), .val (.int (1 : Int32)), .val (.int (1 : Int32)), .unset, .unset, .unset, .unset, .unset, .unset, .unset, .unset] [])) := by
  refine W.iload (q := 159) X0 C at_157 rfl rfl ?_
  refine W.ifT (q := 166) X0 C at_159 (by decide) (by decide) (by decide : W.cT .eq (0 : Int32) 0) ?_
  refine W.iconst (q := 167) (v := 0) X0 C at_166 rfl rfl ?_
  refine W.istore (q := 169) (L' := #[.val (.int p0), .val (.int p1), .val (.int p2), .val (.int p3), .val (.int p4), .val (.int nn), .val (.int mm), .val (.ref ra), .val (.ref ia), .val (.double (own_div (own_tab false false true true) mm)), .second, .val (.int (0 : Int32)), .val (.int (0 : Int32)), .val (.int (1 : Int32)), .val (.int (1 : Int32)), .val (.int (0 : Int32)), .unset, .unset, .unset, .unset, .unset, .unset, .unset]) X0 C at_167 rfl rfl ?_
  refine W.iload (q := 171) X0 C at_169 rfl rfl ?_
  refine W.iload (q := 173) X0 C at_171 rfl rfl ?_
  refine W.ifT (q := 180) X0 C at_173 (by decide) (by decide) (by decide : W.cT .eq (0 : Int32) 0) ?_
  refine W.iconst (q := 181) (v := 0) X0 C at_180 rfl rfl ?_
  refine W.iadd (q := 182) X0 C at_181 rfl ?_
  rw [show ((0 : Int32) + (0 : Int32)) = (0 : Int32) by decide]
  refine W.istore (q := 184) (L' := #[.val (.int p0), .val (.int p1), .val (.int p2), .val (.int p3), .val (.int p4), .val (.int nn), .val (.int mm), .val (.ref ra), .val (.ref ia), .val (.double (own_div (own_tab false false true true) mm)), .second, .val (.int (0 : Int32)), .val (.int (0 : Int32)), .val (.int (1 : Int32)), .val (.int (1 : Int32)), .val (.int (0 : Int32)), .val (.int (0 : Int32)), .unset, .unset, .unset, .unset, .unset, .unset]) X0 C at_182 rfl rfl ?_
  refine W.iload (q := 186) X0 C at_184 rfl rfl ?_
  refine W.iload (q := 188) X0 C at_186 rfl rfl ?_
  refine W.ifF (q := 191) X0 C at_188 rfl (by decide : W.cF .eq (1 : Int32) 0) ?_
  refine W.iconst (q := 192) (v := 1) X0 C at_191 rfl rfl ?_
  refine W.goto (q := 196) X0 C at_192 (by decide) (by decide) ?_
  refine W.iadd (q := 197) X0 C at_196 rfl ?_
  rw [show ((0 : Int32) + (1 : Int32)) = (1 : Int32) by decide]
  refine W.istore (q := 199) (L' := #[.val (.int p0), .val (.int p1), .val (.int p2), .val (.int p3), .val (.int p4), .val (.int nn), .val (.int mm), .val (.ref ra), .val (.ref ia), .val (.double (own_div (own_tab false false true true) mm)), .second, .val (.int (0 : Int32)), .val (.int (0 : Int32)), .val (.int (1 : Int32)), .val (.int (1 : Int32)), .val (.int (0 : Int32)), .val (.int (0 : Int32)), .val (.int (1 : Int32)), .unset, .unset, .unset, .unset, .unset]) X0 C at_197 rfl rfl ?_
  refine W.iload (q := 201) X0 C at_199 rfl rfl ?_
  refine W.iload (q := 203) X0 C at_201 rfl rfl ?_
  refine W.ifF (q := 206) X0 C at_203 rfl (by decide : W.cF .eq (1 : Int32) 0) ?_
  refine W.iconst (q := 207) (v := 1) X0 C at_206 rfl rfl ?_
  refine W.goto (q := 211) X0 C at_207 (by decide) (by decide) ?_
  refine W.iadd (q := 212) X0 C at_211 rfl ?_
  rw [show ((1 : Int32) + (1 : Int32)) = (2 : Int32) by decide]
  refine W.istore (q := 214) (L' := #[.val (.int p0), .val (.int p1), .val (.int p2), .val (.int p3), .val (.int p4), .val (.int nn), .val (.int mm), .val (.ref ra), .val (.ref ia), .val (.double (own_div (own_tab false false true true) mm)), .second, .val (.int (0 : Int32)), .val (.int (0 : Int32)), .val (.int (1 : Int32)), .val (.int (1 : Int32)), .val (.int (0 : Int32)), .val (.int (0 : Int32)), .val (.int (1 : Int32)), .val (.int (2 : Int32)), .unset, .unset, .unset, .unset]) X0 C at_212 rfl rfl ?_
  refine W.dconst0 (q := 215) (v := 0) X0 C at_214 rfl rfl ?_
  refine W.dstore (q := 217) (L' := #[.val (.int p0), .val (.int p1), .val (.int p2), .val (.int p3), .val (.int p4), .val (.int nn), .val (.int mm), .val (.ref ra), .val (.ref ia), .val (.double (own_div (own_tab false false true true) mm)), .second, .val (.int (0 : Int32)), .val (.int (0 : Int32)), .val (.int (1 : Int32)), .val (.int (1 : Int32)), .val (.int (0 : Int32)), .val (.int (0 : Int32)), .val (.int (1 : Int32)), .val (.int (2 : Int32)), .val (.double (0 : UInt64)), .second, .unset, .unset]) X0 C at_215 rfl rfl ?_
  refine W.iload (q := 219) X0 C at_217 rfl rfl ?_
  refine W.ifT (q := 232) X0 C at_219 (by decide) (by decide) (by decide : W.cT .eq (0 : Int32) 0) ?_
  refine W.iload (q := 234) X0 C at_232 rfl rfl ?_
  refine W.ifT (q := 249) X0 C at_234 (by decide) (by decide) (by decide : W.cT .eq (0 : Int32) 0) ?_
  refine W.iload (q := 251) X0 C at_249 rfl rfl ?_
  refine W.ifF (q := 254) X0 C at_251 rfl (by decide : W.cF .eq (1 : Int32) 0) ?_
  refine W.dload (q := 256) X0 C at_254 rfl rfl ?_
  refine W.iload (q := 258) X0 C at_256 rfl rfl ?_
  refine W.i2d (q := 259) (v := 4607182418800017408) X0 C at_258 (by decide +kernel) rfl ?_
  refine W.ldcD (q := 262) X0 C (W.ww hw 21 rfl) at_259 rfl ?_
  refine W.ddiv (q := 263) (v := 4599676419421066581) X0 C at_262 (by decide +kernel) (by decide +kernel) rfl ?_
  refine W.dadd (q := 264) (v := 4599676419421066581) X0 C at_263 (by decide +kernel) (by decide +kernel) rfl ?_
  refine W.dstore (q := 266) (L' := #[.val (.int p0), .val (.int p1), .val (.int p2), .val (.int p3), .val (.int p4), .val (.int nn), .val (.int mm), .val (.ref ra), .val (.ref ia), .val (.double (own_div (own_tab false false true true) mm)), .second, .val (.int (0 : Int32)), .val (.int (0 : Int32)), .val (.int (1 : Int32)), .val (.int (1 : Int32)), .val (.int (0 : Int32)), .val (.int (0 : Int32)), .val (.int (1 : Int32)), .val (.int (2 : Int32)), .val (.double (4599676419421066581 : UInt64)), .second, .unset, .unset]) X0 C at_264 rfl rfl ?_
  refine W.iload (q := 268) X0 C at_266 rfl rfl ?_
  refine W.ifF (q := 271) X0 C at_268 rfl (by decide : W.cF .eq (1 : Int32) 0) ?_
  refine W.dload (q := 273) X0 C at_271 rfl rfl ?_
  refine W.iload (q := 275) X0 C at_273 rfl rfl ?_
  refine W.i2d (q := 276) (v := 4611686018427387904) X0 C at_275 (by decide +kernel) rfl ?_
  refine W.ldcD (q := 279) X0 C (W.ww hw 22 rfl) at_276 rfl ?_
  refine W.ddiv (q := 280) (v := 4602678819172646912) X0 C at_279 (by decide +kernel) (by decide +kernel) rfl ?_
  refine W.dadd (q := 281) (v := 4605681218924227242) X0 C at_280 (by decide +kernel) (by decide +kernel) rfl ?_
  refine W.dstore (q := 283) (L' := #[.val (.int p0), .val (.int p1), .val (.int p2), .val (.int p3), .val (.int p4), .val (.int nn), .val (.int mm), .val (.ref ra), .val (.ref ia), .val (.double (own_div (own_tab false false true true) mm)), .second, .val (.int (0 : Int32)), .val (.int (0 : Int32)), .val (.int (1 : Int32)), .val (.int (1 : Int32)), .val (.int (0 : Int32)), .val (.int (0 : Int32)), .val (.int (1 : Int32)), .val (.int (2 : Int32)), .val (.double (4605681218924227242 : UInt64)), .second, .unset, .unset]) X0 C at_281 rfl rfl ?_
  refine W.iload (q := 285) X0 C at_283 rfl rfl ?_
  refine W.if_ (q := 292) (q' := 288) X0 C at_285 (by decide) (by decide) rfl (fun hc165 => ?_) (fun hc165 => ?_)
  · replace hc165 : mm ≠ 0 := hc165
    refine W.dload (q := 294) X0 C at_292 rfl rfl ?_
    refine W.iload (q := 296) X0 C at_294 rfl rfl ?_
    refine W.i2d (q := 297) (v := FP.i2d mm) X0 C at_296 rfl rfl ?_
    refine W.ddiv (q := 298) (v := FP.ddiv (4605681218924227242 : UInt64) (FP.i2d mm)) X0 C at_297 (own_nn false false true true mm hc165 hm.1 hm.2) rfl rfl ?_
    refine W.dstore (q := 300) (L' := #[.val (.int p0), .val (.int p1), .val (.int p2), .val (.int p3), .val (.int p4), .val (.int nn), .val (.int mm), .val (.ref ra), .val (.ref ia), .val (.double (own_div (own_tab false false true true) mm)), .second, .val (.int (0 : Int32)), .val (.int (0 : Int32)), .val (.int (1 : Int32)), .val (.int (1 : Int32)), .val (.int (0 : Int32)), .val (.int (0 : Int32)), .val (.int (1 : Int32)), .val (.int (2 : Int32)), .val (.double (4605681218924227242 : UInt64)), .second, .val (.double (FP.ddiv (4605681218924227242 : UInt64) (FP.i2d mm))), .second]) X0 C at_298 rfl rfl ?_
    refine W.dload (q := 302) X0 C at_300 rfl rfl ?_
    refine W.dload (q := 304) X0 C at_302 rfl rfl ?_
    refine W.dcmp (q := 305) (v := 0) X0 C at_304 (by rw [own_div, if_neg hc165]; exact dcmpV_self (own_nn false false true true mm hc165 hm.1 hm.2) _) rfl ?_
    refine W.ifF (q := 308) X0 C at_305 rfl (by decide : W.cF .ne (0 : Int32) 0) ?_
    refine W.iconst (q := 309) (v := 1) X0 C at_308 rfl rfl ?_
    refine W.goto (q := 313) X0 C at_309 (by decide) (by decide) ?_
    exact W.retN X0 C (by simp) e0 at_313 rfl (by decide) hsl ⟨rfl, N0⟩
  · replace hc165 : mm = 0 := hc165
    refine W.dconst0 (q := 289) (v := 0) X0 C at_288 rfl rfl ?_
    refine W.goto (q := 298) X0 C at_289 (by decide) (by decide) ?_
    refine W.dstore (q := 300) (L' := #[.val (.int p0), .val (.int p1), .val (.int p2), .val (.int p3), .val (.int p4), .val (.int nn), .val (.int mm), .val (.ref ra), .val (.ref ia), .val (.double (own_div (own_tab false false true true) mm)), .second, .val (.int (0 : Int32)), .val (.int (0 : Int32)), .val (.int (1 : Int32)), .val (.int (1 : Int32)), .val (.int (0 : Int32)), .val (.int (0 : Int32)), .val (.int (1 : Int32)), .val (.int (2 : Int32)), .val (.double (4605681218924227242 : UInt64)), .second, .val (.double (0 : UInt64)), .second]) X0 C at_298 rfl rfl ?_
    refine W.dload (q := 302) X0 C at_300 rfl rfl ?_
    refine W.dload (q := 304) X0 C at_302 rfl rfl ?_
    refine W.dcmp (q := 305) (v := 0) X0 C at_304 (by rw [own_div, if_pos hc165]; decide +kernel) rfl ?_
    refine W.ifF (q := 308) X0 C at_305 rfl (by decide : W.cF .ne (0 : Int32) 0) ?_
    refine W.iconst (q := 309) (v := 1) X0 C at_308 rfl rfl ?_
    refine W.goto (q := 313) X0 C at_309 (by decide) (by decide) ?_
    exact W.retN X0 C (by simp) e0 at_313 rfl (by decide) hsl ⟨rfl, N0⟩
set_option maxRecDepth 65536 in
set_option maxHeartbeats 40000000 in
theorem own_t0100 (l : Launch) (Z : State) (a0 : Array Value) (hw : ∀ d ∈ tables_1, d.before a0 Z = true) (h0 : Heap) (n0 : Nat) (p0 p1 p2 p3 p4 nn mm : Int32) (ra ia : Addr) (sl : Nat) {p : Program} {e : Env} {s : State} {m : MethodId} {args : Array Value} {below : List Frame} {meth : Method} {c : Code} {T0 : State} {locs : List Loc}
    (C : W.Cx p s m meth c Z code 23 "com/example/cranfield/cranfield/measures/RankedQueryAveragePrecisionPinLaw" "law" (some .boolean)) (X0 : Stand p l e room_1 s m args below meth c T0 locs 3 sl) (e0 : T0.heap = h0) (N0 : Fr n0 locs) (hm : 0 ≤ mm.toInt ∧ mm.toInt ≤ 7) (hsl : sl ≤ 128) :
    W.Go p e below (W.Post s (fun v h L => v = some (.int 1) ∧ Fr n0 L) room_1.cells room_1.slots) (T0.setTop (mkF m 157 #[.val (.int p0), .val (.int p1), .val (.int p2), .val (.int p3), .val (.int p4), .val (.int nn), .val (.int mm), .val (.ref ra), .val (.ref ia), .val (.double (own_div (own_tab false true false false) mm)), .second, .val (.int (0 : Int32)), .val (.int (1 : Int32)), .val (.int (0 : Int32)), .val (.int (0 : Int32)), .unset, .unset, .unset, .unset, .unset, .unset, .unset, .unset] [])) := by
  refine W.iload (q := 159) X0 C at_157 rfl rfl ?_
  refine W.ifT (q := 166) X0 C at_159 (by decide) (by decide) (by decide : W.cT .eq (0 : Int32) 0) ?_
  refine W.iconst (q := 167) (v := 0) X0 C at_166 rfl rfl ?_
  refine W.istore (q := 169) (L' := #[.val (.int p0), .val (.int p1), .val (.int p2), .val (.int p3), .val (.int p4), .val (.int nn), .val (.int mm), .val (.ref ra), .val (.ref ia), .val (.double (own_div (own_tab false true false false) mm)), .second, .val (.int (0 : Int32)), .val (.int (1 : Int32)), .val (.int (0 : Int32)), .val (.int (0 : Int32)), .val (.int (0 : Int32)), .unset, .unset, .unset, .unset, .unset, .unset, .unset]) X0 C at_167 rfl rfl ?_
  refine W.iload (q := 171) X0 C at_169 rfl rfl ?_
  refine W.iload (q := 173) X0 C at_171 rfl rfl ?_
  refine W.ifF (q := 176) X0 C at_173 rfl (by decide : W.cF .eq (1 : Int32) 0) ?_
  refine W.iconst (q := 177) (v := 1) X0 C at_176 rfl rfl ?_
  refine W.goto (q := 181) X0 C at_177 (by decide) (by decide) ?_
  refine W.iadd (q := 182) X0 C at_181 rfl ?_
  rw [show ((0 : Int32) + (1 : Int32)) = (1 : Int32) by decide]
  refine W.istore (q := 184) (L' := #[.val (.int p0), .val (.int p1), .val (.int p2), .val (.int p3), .val (.int p4), .val (.int nn), .val (.int mm), .val (.ref ra), .val (.ref ia), .val (.double (own_div (own_tab false true false false) mm)), .second, .val (.int (0 : Int32)), .val (.int (1 : Int32)), .val (.int (0 : Int32)), .val (.int (0 : Int32)), .val (.int (0 : Int32)), .val (.int (1 : Int32)), .unset, .unset, .unset, .unset, .unset, .unset]) X0 C at_182 rfl rfl ?_
  refine W.iload (q := 186) X0 C at_184 rfl rfl ?_
  refine W.iload (q := 188) X0 C at_186 rfl rfl ?_
  refine W.ifT (q := 195) X0 C at_188 (by decide) (by decide) (by decide : W.cT .eq (0 : Int32) 0) ?_
  refine W.iconst (q := 196) (v := 0) X0 C at_195 rfl rfl ?_
  refine W.iadd (q := 197) X0 C at_196 rfl ?_
  rw [show ((1 : Int32) + (0 : Int32)) = (1 : Int32) by decide]
  refine W.istore (q := 199) (L' := #[.val (.int p0), .val (.int p1), .val (.int p2), .val (.int p3), .val (.int p4), .val (.int nn), .val (.int mm), .val (.ref ra), .val (.ref ia), .val (.double (own_div (own_tab false true false false) mm)), .second, .val (.int (0 : Int32)), .val (.int (1 : Int32)), .val (.int (0 : Int32)), .val (.int (0 : Int32)), .val (.int (0 : Int32)), .val (.int (1 : Int32)), .val (.int (1 : Int32)), .unset, .unset, .unset, .unset, .unset]) X0 C at_197 rfl rfl ?_
  refine W.iload (q := 201) X0 C at_199 rfl rfl ?_
  refine W.iload (q := 203) X0 C at_201 rfl rfl ?_
  refine W.ifT (q := 210) X0 C at_203 (by decide) (by decide) (by decide : W.cT .eq (0 : Int32) 0) ?_
  refine W.iconst (q := 211) (v := 0) X0 C at_210 rfl rfl ?_
  refine W.iadd (q := 212) X0 C at_211 rfl ?_
  rw [show ((1 : Int32) + (0 : Int32)) = (1 : Int32) by decide]
  refine W.istore (q := 214) (L' := #[.val (.int p0), .val (.int p1), .val (.int p2), .val (.int p3), .val (.int p4), .val (.int nn), .val (.int mm), .val (.ref ra), .val (.ref ia), .val (.double (own_div (own_tab false true false false) mm)), .second, .val (.int (0 : Int32)), .val (.int (1 : Int32)), .val (.int (0 : Int32)), .val (.int (0 : Int32)), .val (.int (0 : Int32)), .val (.int (1 : Int32)), .val (.int (1 : Int32)), .val (.int (1 : Int32)), .unset, .unset, .unset, .unset]) X0 C at_212 rfl rfl ?_
  refine W.dconst0 (q := 215) (v := 0) X0 C at_214 rfl rfl ?_
  refine W.dstore (q := 217) (L' := #[.val (.int p0), .val (.int p1), .val (.int p2), .val (.int p3), .val (.int p4), .val (.int nn), .val (.int mm), .val (.ref ra), .val (.ref ia), .val (.double (own_div (own_tab false true false false) mm)), .second, .val (.int (0 : Int32)), .val (.int (1 : Int32)), .val (.int (0 : Int32)), .val (.int (0 : Int32)), .val (.int (0 : Int32)), .val (.int (1 : Int32)), .val (.int (1 : Int32)), .val (.int (1 : Int32)), .val (.double (0 : UInt64)), .second, .unset, .unset]) X0 C at_215 rfl rfl ?_
  refine W.iload (q := 219) X0 C at_217 rfl rfl ?_
  refine W.ifT (q := 232) X0 C at_219 (by decide) (by decide) (by decide : W.cT .eq (0 : Int32) 0) ?_
  refine W.iload (q := 234) X0 C at_232 rfl rfl ?_
  refine W.ifF (q := 237) X0 C at_234 rfl (by decide : W.cF .eq (1 : Int32) 0) ?_
  refine W.dload (q := 239) X0 C at_237 rfl rfl ?_
  refine W.iload (q := 241) X0 C at_239 rfl rfl ?_
  refine W.i2d (q := 242) (v := 4607182418800017408) X0 C at_241 (by decide +kernel) rfl ?_
  refine W.ldcD (q := 245) X0 C (W.ww hw 20 rfl) at_242 rfl ?_
  refine W.ddiv (q := 246) (v := 4602678819172646912) X0 C at_245 (by decide +kernel) (by decide +kernel) rfl ?_
  refine W.dadd (q := 247) (v := 4602678819172646912) X0 C at_246 (by decide +kernel) (by decide +kernel) rfl ?_
  refine W.dstore (q := 249) (L' := #[.val (.int p0), .val (.int p1), .val (.int p2), .val (.int p3), .val (.int p4), .val (.int nn), .val (.int mm), .val (.ref ra), .val (.ref ia), .val (.double (own_div (own_tab false true false false) mm)), .second, .val (.int (0 : Int32)), .val (.int (1 : Int32)), .val (.int (0 : Int32)), .val (.int (0 : Int32)), .val (.int (0 : Int32)), .val (.int (1 : Int32)), .val (.int (1 : Int32)), .val (.int (1 : Int32)), .val (.double (4602678819172646912 : UInt64)), .second, .unset, .unset]) X0 C at_247 rfl rfl ?_
  refine W.iload (q := 251) X0 C at_249 rfl rfl ?_
  refine W.ifT (q := 266) X0 C at_251 (by decide) (by decide) (by decide : W.cT .eq (0 : Int32) 0) ?_
  refine W.iload (q := 268) X0 C at_266 rfl rfl ?_
  refine W.ifT (q := 283) X0 C at_268 (by decide) (by decide) (by decide : W.cT .eq (0 : Int32) 0) ?_
  refine W.iload (q := 285) X0 C at_283 rfl rfl ?_
  refine W.if_ (q := 292) (q' := 288) X0 C at_285 (by decide) (by decide) rfl (fun hc166 => ?_) (fun hc166 => ?_)
  · replace hc166 : mm ≠ 0 := hc166
    refine W.dload (q := 294) X0 C at_292 rfl rfl ?_
    refine W.iload (q := 296) X0 C at_294 rfl rfl ?_
    refine W.i2d (q := 297) (v := FP.i2d mm) X0 C at_296 rfl rfl ?_
    refine W.ddiv (q := 298) (v := FP.ddiv (4602678819172646912 : UInt64) (FP.i2d mm)) X0 C at_297 (own_nn false true false false mm hc166 hm.1 hm.2) rfl rfl ?_
    refine W.dstore (q := 300) (L' := #[.val (.int p0), .val (.int p1), .val (.int p2), .val (.int p3), .val (.int p4), .val (.int nn), .val (.int mm), .val (.ref ra), .val (.ref ia), .val (.double (own_div (own_tab false true false false) mm)), .second, .val (.int (0 : Int32)), .val (.int (1 : Int32)), .val (.int (0 : Int32)), .val (.int (0 : Int32)), .val (.int (0 : Int32)), .val (.int (1 : Int32)), .val (.int (1 : Int32)), .val (.int (1 : Int32)), .val (.double (4602678819172646912 : UInt64)), .second, .val (.double (FP.ddiv (4602678819172646912 : UInt64) (FP.i2d mm))), .second]) X0 C at_298 rfl rfl ?_
    refine W.dload (q := 302) X0 C at_300 rfl rfl ?_
    refine W.dload (q := 304) X0 C at_302 rfl rfl ?_
    refine W.dcmp (q := 305) (v := 0) X0 C at_304 (by rw [own_div, if_neg hc166]; exact dcmpV_self (own_nn false true false false mm hc166 hm.1 hm.2) _) rfl ?_
    refine W.ifF (q := 308) X0 C at_305 rfl (by decide : W.cF .ne (0 : Int32) 0) ?_
    refine W.iconst (q := 309) (v := 1) X0 C at_308 rfl rfl ?_
    refine W.goto (q := 313) X0 C at_309 (by decide) (by decide) ?_
    exact W.retN X0 C (by simp) e0 at_313 rfl (by decide) hsl ⟨rfl, N0⟩
  · replace hc166 : mm = 0 := hc166
    refine W.dconst0 (q := 289) (v := 0) X0 C at_288 rfl rfl ?_
    refine W.goto (q := 298) X0 C at_289 (by decide) (by decide) ?_
    refine W.dstore (q := 300) (L' := #[.val (.int p0), .val (.int p1), .val (.int p2), .val (.int p3), .val (.int p4), .val (.int nn), .val (.int mm), .val (.ref ra), .val (.ref ia), .val (.double (own_div (own_tab false true false false) mm)), .second, .val (.int (0 : Int32)), .val (.int (1 : Int32)), .val (.int (0 : Int32)), .val (.int (0 : Int32)), .val (.int (0 : Int32)), .val (.int (1 : Int32)), .val (.int (1 : Int32)), .val (.int (1 : Int32)), .val (.double (4602678819172646912 : UInt64)), .second, .val (.double (0 : UInt64)), .second]) X0 C at_298 rfl rfl ?_
    refine W.dload (q := 302) X0 C at_300 rfl rfl ?_
    refine W.dload (q := 304) X0 C at_302 rfl rfl ?_
    refine W.dcmp (q := 305) (v := 0) X0 C at_304 (by rw [own_div, if_pos hc166]; decide +kernel) rfl ?_
    refine W.ifF (q := 308) X0 C at_305 rfl (by decide : W.cF .ne (0 : Int32) 0) ?_
    refine W.iconst (q := 309) (v := 1) X0 C at_308 rfl rfl ?_
    refine W.goto (q := 313) X0 C at_309 (by decide) (by decide) ?_
    exact W.retN X0 C (by simp) e0 at_313 rfl (by decide) hsl ⟨rfl, N0⟩
set_option maxRecDepth 65536 in
set_option maxHeartbeats 40000000 in
theorem own_t0101 (l : Launch) (Z : State) (a0 : Array Value) (hw : ∀ d ∈ tables_1, d.before a0 Z = true) (h0 : Heap) (n0 : Nat) (p0 p1 p2 p3 p4 nn mm : Int32) (ra ia : Addr) (sl : Nat) {p : Program} {e : Env} {s : State} {m : MethodId} {args : Array Value} {below : List Frame} {meth : Method} {c : Code} {T0 : State} {locs : List Loc}
    (C : W.Cx p s m meth c Z code 23 "com/example/cranfield/cranfield/measures/RankedQueryAveragePrecisionPinLaw" "law" (some .boolean)) (X0 : Stand p l e room_1 s m args below meth c T0 locs 3 sl) (e0 : T0.heap = h0) (N0 : Fr n0 locs) (hm : 0 ≤ mm.toInt ∧ mm.toInt ≤ 7) (hsl : sl ≤ 128) :
    W.Go p e below (W.Post s (fun v h L => v = some (.int 1) ∧ Fr n0 L) room_1.cells room_1.slots) (T0.setTop (mkF m 157 #[.val (.int p0), .val (.int p1), .val (.int p2), .val (.int p3), .val (.int p4), .val (.int nn), .val (.int mm), .val (.ref ra), .val (.ref ia), .val (.double (own_div (own_tab false true false true) mm)), .second, .val (.int (0 : Int32)), .val (.int (1 : Int32)), .val (.int (0 : Int32)), .val (.int (1 : Int32)), .unset, .unset, .unset, .unset, .unset, .unset, .unset, .unset] [])) := by
  refine W.iload (q := 159) X0 C at_157 rfl rfl ?_
  refine W.ifT (q := 166) X0 C at_159 (by decide) (by decide) (by decide : W.cT .eq (0 : Int32) 0) ?_
  refine W.iconst (q := 167) (v := 0) X0 C at_166 rfl rfl ?_
  refine W.istore (q := 169) (L' := #[.val (.int p0), .val (.int p1), .val (.int p2), .val (.int p3), .val (.int p4), .val (.int nn), .val (.int mm), .val (.ref ra), .val (.ref ia), .val (.double (own_div (own_tab false true false true) mm)), .second, .val (.int (0 : Int32)), .val (.int (1 : Int32)), .val (.int (0 : Int32)), .val (.int (1 : Int32)), .val (.int (0 : Int32)), .unset, .unset, .unset, .unset, .unset, .unset, .unset]) X0 C at_167 rfl rfl ?_
  refine W.iload (q := 171) X0 C at_169 rfl rfl ?_
  refine W.iload (q := 173) X0 C at_171 rfl rfl ?_
  refine W.ifF (q := 176) X0 C at_173 rfl (by decide : W.cF .eq (1 : Int32) 0) ?_
  refine W.iconst (q := 177) (v := 1) X0 C at_176 rfl rfl ?_
  refine W.goto (q := 181) X0 C at_177 (by decide) (by decide) ?_
  refine W.iadd (q := 182) X0 C at_181 rfl ?_
  rw [show ((0 : Int32) + (1 : Int32)) = (1 : Int32) by decide]
  refine W.istore (q := 184) (L' := #[.val (.int p0), .val (.int p1), .val (.int p2), .val (.int p3), .val (.int p4), .val (.int nn), .val (.int mm), .val (.ref ra), .val (.ref ia), .val (.double (own_div (own_tab false true false true) mm)), .second, .val (.int (0 : Int32)), .val (.int (1 : Int32)), .val (.int (0 : Int32)), .val (.int (1 : Int32)), .val (.int (0 : Int32)), .val (.int (1 : Int32)), .unset, .unset, .unset, .unset, .unset, .unset]) X0 C at_182 rfl rfl ?_
  refine W.iload (q := 186) X0 C at_184 rfl rfl ?_
  refine W.iload (q := 188) X0 C at_186 rfl rfl ?_
  refine W.ifT (q := 195) X0 C at_188 (by decide) (by decide) (by decide : W.cT .eq (0 : Int32) 0) ?_
  refine W.iconst (q := 196) (v := 0) X0 C at_195 rfl rfl ?_
  refine W.iadd (q := 197) X0 C at_196 rfl ?_
  rw [show ((1 : Int32) + (0 : Int32)) = (1 : Int32) by decide]
  refine W.istore (q := 199) (L' := #[.val (.int p0), .val (.int p1), .val (.int p2), .val (.int p3), .val (.int p4), .val (.int nn), .val (.int mm), .val (.ref ra), .val (.ref ia), .val (.double (own_div (own_tab false true false true) mm)), .second, .val (.int (0 : Int32)), .val (.int (1 : Int32)), .val (.int (0 : Int32)), .val (.int (1 : Int32)), .val (.int (0 : Int32)), .val (.int (1 : Int32)), .val (.int (1 : Int32)), .unset, .unset, .unset, .unset, .unset]) X0 C at_197 rfl rfl ?_
  refine W.iload (q := 201) X0 C at_199 rfl rfl ?_
  refine W.iload (q := 203) X0 C at_201 rfl rfl ?_
  refine W.ifF (q := 206) X0 C at_203 rfl (by decide : W.cF .eq (1 : Int32) 0) ?_
  refine W.iconst (q := 207) (v := 1) X0 C at_206 rfl rfl ?_
  refine W.goto (q := 211) X0 C at_207 (by decide) (by decide) ?_
  refine W.iadd (q := 212) X0 C at_211 rfl ?_
  rw [show ((1 : Int32) + (1 : Int32)) = (2 : Int32) by decide]
  refine W.istore (q := 214) (L' := #[.val (.int p0), .val (.int p1), .val (.int p2), .val (.int p3), .val (.int p4), .val (.int nn), .val (.int mm), .val (.ref ra), .val (.ref ia), .val (.double (own_div (own_tab false true false true) mm)), .second, .val (.int (0 : Int32)), .val (.int (1 : Int32)), .val (.int (0 : Int32)), .val (.int (1 : Int32)), .val (.int (0 : Int32)), .val (.int (1 : Int32)), .val (.int (1 : Int32)), .val (.int (2 : Int32)), .unset, .unset, .unset, .unset]) X0 C at_212 rfl rfl ?_
  refine W.dconst0 (q := 215) (v := 0) X0 C at_214 rfl rfl ?_
  refine W.dstore (q := 217) (L' := #[.val (.int p0), .val (.int p1), .val (.int p2), .val (.int p3), .val (.int p4), .val (.int nn), .val (.int mm), .val (.ref ra), .val (.ref ia), .val (.double (own_div (own_tab false true false true) mm)), .second, .val (.int (0 : Int32)), .val (.int (1 : Int32)), .val (.int (0 : Int32)), .val (.int (1 : Int32)), .val (.int (0 : Int32)), .val (.int (1 : Int32)), .val (.int (1 : Int32)), .val (.int (2 : Int32)), .val (.double (0 : UInt64)), .second, .unset, .unset]) X0 C at_215 rfl rfl ?_
  refine W.iload (q := 219) X0 C at_217 rfl rfl ?_
  refine W.ifT (q := 232) X0 C at_219 (by decide) (by decide) (by decide : W.cT .eq (0 : Int32) 0) ?_
  refine W.iload (q := 234) X0 C at_232 rfl rfl ?_
  refine W.ifF (q := 237) X0 C at_234 rfl (by decide : W.cF .eq (1 : Int32) 0) ?_
  refine W.dload (q := 239) X0 C at_237 rfl rfl ?_
  refine W.iload (q := 241) X0 C at_239 rfl rfl ?_
  refine W.i2d (q := 242) (v := 4607182418800017408) X0 C at_241 (by decide +kernel) rfl ?_
  refine W.ldcD (q := 245) X0 C (W.ww hw 20 rfl) at_242 rfl ?_
  refine W.ddiv (q := 246) (v := 4602678819172646912) X0 C at_245 (by decide +kernel) (by decide +kernel) rfl ?_
  refine W.dadd (q := 247) (v := 4602678819172646912) X0 C at_246 (by decide +kernel) (by decide +kernel) rfl ?_
  refine W.dstore (q := 249) (L' := #[.val (.int p0), .val (.int p1), .val (.int p2), .val (.int p3), .val (.int p4), .val (.int nn), .val (.int mm), .val (.ref ra), .val (.ref ia), .val (.double (own_div (own_tab false true false true) mm)), .second, .val (.int (0 : Int32)), .val (.int (1 : Int32)), .val (.int (0 : Int32)), .val (.int (1 : Int32)), .val (.int (0 : Int32)), .val (.int (1 : Int32)), .val (.int (1 : Int32)), .val (.int (2 : Int32)), .val (.double (4602678819172646912 : UInt64)), .second, .unset, .unset]) X0 C at_247 rfl rfl ?_
  refine W.iload (q := 251) X0 C at_249 rfl rfl ?_
  refine W.ifT (q := 266) X0 C at_251 (by decide) (by decide) (by decide : W.cT .eq (0 : Int32) 0) ?_
  refine W.iload (q := 268) X0 C at_266 rfl rfl ?_
  refine W.ifF (q := 271) X0 C at_268 rfl (by decide : W.cF .eq (1 : Int32) 0) ?_
  refine W.dload (q := 273) X0 C at_271 rfl rfl ?_
  refine W.iload (q := 275) X0 C at_273 rfl rfl ?_
  refine W.i2d (q := 276) (v := 4611686018427387904) X0 C at_275 (by decide +kernel) rfl ?_
  refine W.ldcD (q := 279) X0 C (W.ww hw 22 rfl) at_276 rfl ?_
  refine W.ddiv (q := 280) (v := 4602678819172646912) X0 C at_279 (by decide +kernel) (by decide +kernel) rfl ?_
  refine W.dadd (q := 281) (v := 4607182418800017408) X0 C at_280 (by decide +kernel) (by decide +kernel) rfl ?_
  refine W.dstore (q := 283) (L' := #[.val (.int p0), .val (.int p1), .val (.int p2), .val (.int p3), .val (.int p4), .val (.int nn), .val (.int mm), .val (.ref ra), .val (.ref ia), .val (.double (own_div (own_tab false true false true) mm)), .second, .val (.int (0 : Int32)), .val (.int (1 : Int32)), .val (.int (0 : Int32)), .val (.int (1 : Int32)), .val (.int (0 : Int32)), .val (.int (1 : Int32)), .val (.int (1 : Int32)), .val (.int (2 : Int32)), .val (.double (4607182418800017408 : UInt64)), .second, .unset, .unset]) X0 C at_281 rfl rfl ?_
  refine W.iload (q := 285) X0 C at_283 rfl rfl ?_
  refine W.if_ (q := 292) (q' := 288) X0 C at_285 (by decide) (by decide) rfl (fun hc167 => ?_) (fun hc167 => ?_)
  · replace hc167 : mm ≠ 0 := hc167
    refine W.dload (q := 294) X0 C at_292 rfl rfl ?_
    refine W.iload (q := 296) X0 C at_294 rfl rfl ?_
    refine W.i2d (q := 297) (v := FP.i2d mm) X0 C at_296 rfl rfl ?_
    refine W.ddiv (q := 298) (v := FP.ddiv (4607182418800017408 : UInt64) (FP.i2d mm)) X0 C at_297 (own_nn false true false true mm hc167 hm.1 hm.2) rfl rfl ?_
    refine W.dstore (q := 300) (L' := #[.val (.int p0), .val (.int p1), .val (.int p2), .val (.int p3), .val (.int p4), .val (.int nn), .val (.int mm), .val (.ref ra), .val (.ref ia), .val (.double (own_div (own_tab false true false true) mm)), .second, .val (.int (0 : Int32)), .val (.int (1 : Int32)), .val (.int (0 : Int32)), .val (.int (1 : Int32)), .val (.int (0 : Int32)), .val (.int (1 : Int32)), .val (.int (1 : Int32)), .val (.int (2 : Int32)), .val (.double (4607182418800017408 : UInt64)), .second, .val (.double (FP.ddiv (4607182418800017408 : UInt64) (FP.i2d mm))), .second]) X0 C at_298 rfl rfl ?_
    refine W.dload (q := 302) X0 C at_300 rfl rfl ?_
    refine W.dload (q := 304) X0 C at_302 rfl rfl ?_
    refine W.dcmp (q := 305) (v := 0) X0 C at_304 (by rw [own_div, if_neg hc167]; exact dcmpV_self (own_nn false true false true mm hc167 hm.1 hm.2) _) rfl ?_
    refine W.ifF (q := 308) X0 C at_305 rfl (by decide : W.cF .ne (0 : Int32) 0) ?_
    refine W.iconst (q := 309) (v := 1) X0 C at_308 rfl rfl ?_
    refine W.goto (q := 313) X0 C at_309 (by decide) (by decide) ?_
    exact W.retN X0 C (by simp) e0 at_313 rfl (by decide) hsl ⟨rfl, N0⟩
  · replace hc167 : mm = 0 := hc167
    refine W.dconst0 (q := 289) (v := 0) X0 C at_288 rfl rfl ?_
    refine W.goto (q := 298) X0 C at_289 (by decide) (by decide) ?_
    refine W.dstore (q := 300) (L' := #[.val (.int p0), .val (.int p1), .val (.int p2), .val (.int p3), .val (.int p4), .val (.int nn), .val (.int mm), .val (.ref ra), .val (.ref ia), .val (.double (own_div (own_tab false true false true) mm)), .second, .val (.int (0 : Int32)), .val (.int (1 : Int32)), .val (.int (0 : Int32)), .val (.int (1 : Int32)), .val (.int (0 : Int32)), .val (.int (1 : Int32)), .val (.int (1 : Int32)), .val (.int (2 : Int32)), .val (.double (4607182418800017408 : UInt64)), .second, .val (.double (0 : UInt64)), .second]) X0 C at_298 rfl rfl ?_
    refine W.dload (q := 302) X0 C at_300 rfl rfl ?_
    refine W.dload (q := 304) X0 C at_302 rfl rfl ?_
    refine W.dcmp (q := 305) (v := 0) X0 C at_304 (by rw [own_div, if_pos hc167]; decide +kernel) rfl ?_
    refine W.ifF (q := 308) X0 C at_305 rfl (by decide : W.cF .ne (0 : Int32) 0) ?_
    refine W.iconst (q := 309) (v := 1) X0 C at_308 rfl rfl ?_
    refine W.goto (q := 313) X0 C at_309 (by decide) (by decide) ?_
    exact W.retN X0 C (by simp) e0 at_313 rfl (by decide) hsl ⟨rfl, N0⟩
set_option maxRecDepth 65536 in
set_option maxHeartbeats 40000000 in
theorem own_t0110 (l : Launch) (Z : State) (a0 : Array Value) (hw : ∀ d ∈ tables_1, d.before a0 Z = true) (h0 : Heap) (n0 : Nat) (p0 p1 p2 p3 p4 nn mm : Int32) (ra ia : Addr) (sl : Nat) {p : Program} {e : Env} {s : State} {m : MethodId} {args : Array Value} {below : List Frame} {meth : Method} {c : Code} {T0 : State} {locs : List Loc}
    (C : W.Cx p s m meth c Z code 23 "com/example/cranfield/cranfield/measures/RankedQueryAveragePrecisionPinLaw" "law" (some .boolean)) (X0 : Stand p l e room_1 s m args below meth c T0 locs 3 sl) (e0 : T0.heap = h0) (N0 : Fr n0 locs) (hm : 0 ≤ mm.toInt ∧ mm.toInt ≤ 7) (hsl : sl ≤ 128) :
    W.Go p e below (W.Post s (fun v h L => v = some (.int 1) ∧ Fr n0 L) room_1.cells room_1.slots) (T0.setTop (mkF m 157 #[.val (.int p0), .val (.int p1), .val (.int p2), .val (.int p3), .val (.int p4), .val (.int nn), .val (.int mm), .val (.ref ra), .val (.ref ia), .val (.double (own_div (own_tab false true true false) mm)), .second, .val (.int (0 : Int32)), .val (.int (1 : Int32)), .val (.int (1 : Int32)), .val (.int (0 : Int32)), .unset, .unset, .unset, .unset, .unset, .unset, .unset, .unset] [])) := by
  refine W.iload (q := 159) X0 C at_157 rfl rfl ?_
  refine W.ifT (q := 166) X0 C at_159 (by decide) (by decide) (by decide : W.cT .eq (0 : Int32) 0) ?_
  refine W.iconst (q := 167) (v := 0) X0 C at_166 rfl rfl ?_
  refine W.istore (q := 169) (L' := #[.val (.int p0), .val (.int p1), .val (.int p2), .val (.int p3), .val (.int p4), .val (.int nn), .val (.int mm), .val (.ref ra), .val (.ref ia), .val (.double (own_div (own_tab false true true false) mm)), .second, .val (.int (0 : Int32)), .val (.int (1 : Int32)), .val (.int (1 : Int32)), .val (.int (0 : Int32)), .val (.int (0 : Int32)), .unset, .unset, .unset, .unset, .unset, .unset, .unset]) X0 C at_167 rfl rfl ?_
  refine W.iload (q := 171) X0 C at_169 rfl rfl ?_
  refine W.iload (q := 173) X0 C at_171 rfl rfl ?_
  refine W.ifF (q := 176) X0 C at_173 rfl (by decide : W.cF .eq (1 : Int32) 0) ?_
  refine W.iconst (q := 177) (v := 1) X0 C at_176 rfl rfl ?_
  refine W.goto (q := 181) X0 C at_177 (by decide) (by decide) ?_
  refine W.iadd (q := 182) X0 C at_181 rfl ?_
  rw [show ((0 : Int32) + (1 : Int32)) = (1 : Int32) by decide]
  refine W.istore (q := 184) (L' := #[.val (.int p0), .val (.int p1), .val (.int p2), .val (.int p3), .val (.int p4), .val (.int nn), .val (.int mm), .val (.ref ra), .val (.ref ia), .val (.double (own_div (own_tab false true true false) mm)), .second, .val (.int (0 : Int32)), .val (.int (1 : Int32)), .val (.int (1 : Int32)), .val (.int (0 : Int32)), .val (.int (0 : Int32)), .val (.int (1 : Int32)), .unset, .unset, .unset, .unset, .unset, .unset]) X0 C at_182 rfl rfl ?_
  refine W.iload (q := 186) X0 C at_184 rfl rfl ?_
  refine W.iload (q := 188) X0 C at_186 rfl rfl ?_
  refine W.ifF (q := 191) X0 C at_188 rfl (by decide : W.cF .eq (1 : Int32) 0) ?_
  refine W.iconst (q := 192) (v := 1) X0 C at_191 rfl rfl ?_
  refine W.goto (q := 196) X0 C at_192 (by decide) (by decide) ?_
  refine W.iadd (q := 197) X0 C at_196 rfl ?_
  rw [show ((1 : Int32) + (1 : Int32)) = (2 : Int32) by decide]
  refine W.istore (q := 199) (L' := #[.val (.int p0), .val (.int p1), .val (.int p2), .val (.int p3), .val (.int p4), .val (.int nn), .val (.int mm), .val (.ref ra), .val (.ref ia), .val (.double (own_div (own_tab false true true false) mm)), .second, .val (.int (0 : Int32)), .val (.int (1 : Int32)), .val (.int (1 : Int32)), .val (.int (0 : Int32)), .val (.int (0 : Int32)), .val (.int (1 : Int32)), .val (.int (2 : Int32)), .unset, .unset, .unset, .unset, .unset]) X0 C at_197 rfl rfl ?_
  refine W.iload (q := 201) X0 C at_199 rfl rfl ?_
  refine W.iload (q := 203) X0 C at_201 rfl rfl ?_
  refine W.ifT (q := 210) X0 C at_203 (by decide) (by decide) (by decide : W.cT .eq (0 : Int32) 0) ?_
  refine W.iconst (q := 211) (v := 0) X0 C at_210 rfl rfl ?_
  refine W.iadd (q := 212) X0 C at_211 rfl ?_
  rw [show ((2 : Int32) + (0 : Int32)) = (2 : Int32) by decide]
  refine W.istore (q := 214) (L' := #[.val (.int p0), .val (.int p1), .val (.int p2), .val (.int p3), .val (.int p4), .val (.int nn), .val (.int mm), .val (.ref ra), .val (.ref ia), .val (.double (own_div (own_tab false true true false) mm)), .second, .val (.int (0 : Int32)), .val (.int (1 : Int32)), .val (.int (1 : Int32)), .val (.int (0 : Int32)), .val (.int (0 : Int32)), .val (.int (1 : Int32)), .val (.int (2 : Int32)), .val (.int (2 : Int32)), .unset, .unset, .unset, .unset]) X0 C at_212 rfl rfl ?_
  refine W.dconst0 (q := 215) (v := 0) X0 C at_214 rfl rfl ?_
  refine W.dstore (q := 217) (L' := #[.val (.int p0), .val (.int p1), .val (.int p2), .val (.int p3), .val (.int p4), .val (.int nn), .val (.int mm), .val (.ref ra), .val (.ref ia), .val (.double (own_div (own_tab false true true false) mm)), .second, .val (.int (0 : Int32)), .val (.int (1 : Int32)), .val (.int (1 : Int32)), .val (.int (0 : Int32)), .val (.int (0 : Int32)), .val (.int (1 : Int32)), .val (.int (2 : Int32)), .val (.int (2 : Int32)), .val (.double (0 : UInt64)), .second, .unset, .unset]) X0 C at_215 rfl rfl ?_
  refine W.iload (q := 219) X0 C at_217 rfl rfl ?_
  refine W.ifT (q := 232) X0 C at_219 (by decide) (by decide) (by decide : W.cT .eq (0 : Int32) 0) ?_
  refine W.iload (q := 234) X0 C at_232 rfl rfl ?_
  refine W.ifF (q := 237) X0 C at_234 rfl (by decide : W.cF .eq (1 : Int32) 0) ?_
  refine W.dload (q := 239) X0 C at_237 rfl rfl ?_
  refine W.iload (q := 241) X0 C at_239 rfl rfl ?_
  refine W.i2d (q := 242) (v := 4607182418800017408) X0 C at_241 (by decide +kernel) rfl ?_
  refine W.ldcD (q := 245) X0 C (W.ww hw 20 rfl) at_242 rfl ?_
  refine W.ddiv (q := 246) (v := 4602678819172646912) X0 C at_245 (by decide +kernel) (by decide +kernel) rfl ?_
  refine W.dadd (q := 247) (v := 4602678819172646912) X0 C at_246 (by decide +kernel) (by decide +kernel) rfl ?_
  refine W.dstore (q := 249) (L' := #[.val (.int p0), .val (.int p1), .val (.int p2), .val (.int p3), .val (.int p4), .val (.int nn), .val (.int mm), .val (.ref ra), .val (.ref ia), .val (.double (own_div (own_tab false true true false) mm)), .second, .val (.int (0 : Int32)), .val (.int (1 : Int32)), .val (.int (1 : Int32)), .val (.int (0 : Int32)), .val (.int (0 : Int32)), .val (.int (1 : Int32)), .val (.int (2 : Int32)), .val (.int (2 : Int32)), .val (.double (4602678819172646912 : UInt64)), .second, .unset, .unset]) X0 C at_247 rfl rfl ?_
  refine W.iload (q := 251) X0 C at_249 rfl rfl ?_
  refine W.ifF (q := 254) X0 C at_251 rfl (by decide : W.cF .eq (1 : Int32) 0) ?_
  refine W.dload (q := 256) X0 C at_254 rfl rfl ?_
  refine W.iload (q := 258) X0 C at_256 rfl rfl ?_
  refine W.i2d (q := 259) (v := 4611686018427387904) X0 C at_258 (by decide +kernel) rfl ?_
  refine W.ldcD (q := 262) X0 C (W.ww hw 21 rfl) at_259 rfl ?_
  refine W.ddiv (q := 263) (v := 4604180019048437077) X0 C at_262 (by decide +kernel) (by decide +kernel) rfl ?_
  refine W.dadd (q := 264) (v := 4607933018737912490) X0 C at_263 (by decide +kernel) (by decide +kernel) rfl ?_
  refine W.dstore (q := 266) (L' := #[.val (.int p0), .val (.int p1), .val (.int p2), .val (.int p3), .val (.int p4), .val (.int nn), .val (.int mm), .val (.ref ra), .val (.ref ia), .val (.double (own_div (own_tab false true true false) mm)), .second, .val (.int (0 : Int32)), .val (.int (1 : Int32)), .val (.int (1 : Int32)), .val (.int (0 : Int32)), .val (.int (0 : Int32)), .val (.int (1 : Int32)), .val (.int (2 : Int32)), .val (.int (2 : Int32)), .val (.double (4607933018737912490 : UInt64)), .second, .unset, .unset]) X0 C at_264 rfl rfl ?_
  refine W.iload (q := 268) X0 C at_266 rfl rfl ?_
  refine W.ifT (q := 283) X0 C at_268 (by decide) (by decide) (by decide : W.cT .eq (0 : Int32) 0) ?_
  refine W.iload (q := 285) X0 C at_283 rfl rfl ?_
  refine W.if_ (q := 292) (q' := 288) X0 C at_285 (by decide) (by decide) rfl (fun hc168 => ?_) (fun hc168 => ?_)
  · replace hc168 : mm ≠ 0 := hc168
    refine W.dload (q := 294) X0 C at_292 rfl rfl ?_
    refine W.iload (q := 296) X0 C at_294 rfl rfl ?_
    refine W.i2d (q := 297) (v := FP.i2d mm) X0 C at_296 rfl rfl ?_
    refine W.ddiv (q := 298) (v := FP.ddiv (4607933018737912490 : UInt64) (FP.i2d mm)) X0 C at_297 (own_nn false true true false mm hc168 hm.1 hm.2) rfl rfl ?_
    refine W.dstore (q := 300) (L' := #[.val (.int p0), .val (.int p1), .val (.int p2), .val (.int p3), .val (.int p4), .val (.int nn), .val (.int mm), .val (.ref ra), .val (.ref ia), .val (.double (own_div (own_tab false true true false) mm)), .second, .val (.int (0 : Int32)), .val (.int (1 : Int32)), .val (.int (1 : Int32)), .val (.int (0 : Int32)), .val (.int (0 : Int32)), .val (.int (1 : Int32)), .val (.int (2 : Int32)), .val (.int (2 : Int32)), .val (.double (4607933018737912490 : UInt64)), .second, .val (.double (FP.ddiv (4607933018737912490 : UInt64) (FP.i2d mm))), .second]) X0 C at_298 rfl rfl ?_
    refine W.dload (q := 302) X0 C at_300 rfl rfl ?_
    refine W.dload (q := 304) X0 C at_302 rfl rfl ?_
    refine W.dcmp (q := 305) (v := 0) X0 C at_304 (by rw [own_div, if_neg hc168]; exact dcmpV_self (own_nn false true true false mm hc168 hm.1 hm.2) _) rfl ?_
    refine W.ifF (q := 308) X0 C at_305 rfl (by decide : W.cF .ne (0 : Int32) 0) ?_
    refine W.iconst (q := 309) (v := 1) X0 C at_308 rfl rfl ?_
    refine W.goto (q := 313) X0 C at_309 (by decide) (by decide) ?_
    exact W.retN X0 C (by simp) e0 at_313 rfl (by decide) hsl ⟨rfl, N0⟩
  · replace hc168 : mm = 0 := hc168
    refine W.dconst0 (q := 289) (v := 0) X0 C at_288 rfl rfl ?_
    refine W.goto (q := 298) X0 C at_289 (by decide) (by decide) ?_
    refine W.dstore (q := 300) (L' := #[.val (.int p0), .val (.int p1), .val (.int p2), .val (.int p3), .val (.int p4), .val (.int nn), .val (.int mm), .val (.ref ra), .val (.ref ia), .val (.double (own_div (own_tab false true true false) mm)), .second, .val (.int (0 : Int32)), .val (.int (1 : Int32)), .val (.int (1 : Int32)), .val (.int (0 : Int32)), .val (.int (0 : Int32)), .val (.int (1 : Int32)), .val (.int (2 : Int32)), .val (.int (2 : Int32)), .val (.double (4607933018737912490 : UInt64)), .second, .val (.double (0 : UInt64)), .second]) X0 C at_298 rfl rfl ?_
    refine W.dload (q := 302) X0 C at_300 rfl rfl ?_
    refine W.dload (q := 304) X0 C at_302 rfl rfl ?_
    refine W.dcmp (q := 305) (v := 0) X0 C at_304 (by rw [own_div, if_pos hc168]; decide +kernel) rfl ?_
    refine W.ifF (q := 308) X0 C at_305 rfl (by decide : W.cF .ne (0 : Int32) 0) ?_
    refine W.iconst (q := 309) (v := 1) X0 C at_308 rfl rfl ?_
    refine W.goto (q := 313) X0 C at_309 (by decide) (by decide) ?_
    exact W.retN X0 C (by simp) e0 at_313 rfl (by decide) hsl ⟨rfl, N0⟩
set_option maxRecDepth 65536 in
set_option maxHeartbeats 40000000 in
theorem own_t0111 (l : Launch) (Z : State) (a0 : Array Value) (hw : ∀ d ∈ tables_1, d.before a0 Z = true) (h0 : Heap) (n0 : Nat) (p0 p1 p2 p3 p4 nn mm : Int32) (ra ia : Addr) (sl : Nat) {p : Program} {e : Env} {s : State} {m : MethodId} {args : Array Value} {below : List Frame} {meth : Method} {c : Code} {T0 : State} {locs : List Loc}
    (C : W.Cx p s m meth c Z code 23 "com/example/cranfield/cranfield/measures/RankedQueryAveragePrecisionPinLaw" "law" (some .boolean)) (X0 : Stand p l e room_1 s m args below meth c T0 locs 3 sl) (e0 : T0.heap = h0) (N0 : Fr n0 locs) (hm : 0 ≤ mm.toInt ∧ mm.toInt ≤ 7) (hsl : sl ≤ 128) :
    W.Go p e below (W.Post s (fun v h L => v = some (.int 1) ∧ Fr n0 L) room_1.cells room_1.slots) (T0.setTop (mkF m 157 #[.val (.int p0), .val (.int p1), .val (.int p2), .val (.int p3), .val (.int p4), .val (.int nn), .val (.int mm), .val (.ref ra), .val (.ref ia), .val (.double (own_div (own_tab false true true true) mm)), .second, .val (.int (0 : Int32)), .val (.int (1 : Int32)), .val (.int (1 : Int32)), .val (.int (1 : Int32)), .unset, .unset, .unset, .unset, .unset, .unset, .unset, .unset] [])) := by
  refine W.iload (q := 159) X0 C at_157 rfl rfl ?_
  refine W.ifT (q := 166) X0 C at_159 (by decide) (by decide) (by decide : W.cT .eq (0 : Int32) 0) ?_
  refine W.iconst (q := 167) (v := 0) X0 C at_166 rfl rfl ?_
  refine W.istore (q := 169) (L' := #[.val (.int p0), .val (.int p1), .val (.int p2), .val (.int p3), .val (.int p4), .val (.int nn), .val (.int mm), .val (.ref ra), .val (.ref ia), .val (.double (own_div (own_tab false true true true) mm)), .second, .val (.int (0 : Int32)), .val (.int (1 : Int32)), .val (.int (1 : Int32)), .val (.int (1 : Int32)), .val (.int (0 : Int32)), .unset, .unset, .unset, .unset, .unset, .unset, .unset]) X0 C at_167 rfl rfl ?_
  refine W.iload (q := 171) X0 C at_169 rfl rfl ?_
  refine W.iload (q := 173) X0 C at_171 rfl rfl ?_
  refine W.ifF (q := 176) X0 C at_173 rfl (by decide : W.cF .eq (1 : Int32) 0) ?_
  refine W.iconst (q := 177) (v := 1) X0 C at_176 rfl rfl ?_
  refine W.goto (q := 181) X0 C at_177 (by decide) (by decide) ?_
  refine W.iadd (q := 182) X0 C at_181 rfl ?_
  rw [show ((0 : Int32) + (1 : Int32)) = (1 : Int32) by decide]
  refine W.istore (q := 184) (L' := #[.val (.int p0), .val (.int p1), .val (.int p2), .val (.int p3), .val (.int p4), .val (.int nn), .val (.int mm), .val (.ref ra), .val (.ref ia), .val (.double (own_div (own_tab false true true true) mm)), .second, .val (.int (0 : Int32)), .val (.int (1 : Int32)), .val (.int (1 : Int32)), .val (.int (1 : Int32)), .val (.int (0 : Int32)), .val (.int (1 : Int32)), .unset, .unset, .unset, .unset, .unset, .unset]) X0 C at_182 rfl rfl ?_
  refine W.iload (q := 186) X0 C at_184 rfl rfl ?_
  refine W.iload (q := 188) X0 C at_186 rfl rfl ?_
  refine W.ifF (q := 191) X0 C at_188 rfl (by decide : W.cF .eq (1 : Int32) 0) ?_
  refine W.iconst (q := 192) (v := 1) X0 C at_191 rfl rfl ?_
  refine W.goto (q := 196) X0 C at_192 (by decide) (by decide) ?_
  refine W.iadd (q := 197) X0 C at_196 rfl ?_
  rw [show ((1 : Int32) + (1 : Int32)) = (2 : Int32) by decide]
  refine W.istore (q := 199) (L' := #[.val (.int p0), .val (.int p1), .val (.int p2), .val (.int p3), .val (.int p4), .val (.int nn), .val (.int mm), .val (.ref ra), .val (.ref ia), .val (.double (own_div (own_tab false true true true) mm)), .second, .val (.int (0 : Int32)), .val (.int (1 : Int32)), .val (.int (1 : Int32)), .val (.int (1 : Int32)), .val (.int (0 : Int32)), .val (.int (1 : Int32)), .val (.int (2 : Int32)), .unset, .unset, .unset, .unset, .unset]) X0 C at_197 rfl rfl ?_
  refine W.iload (q := 201) X0 C at_199 rfl rfl ?_
  refine W.iload (q := 203) X0 C at_201 rfl rfl ?_
  refine W.ifF (q := 206) X0 C at_203 rfl (by decide : W.cF .eq (1 : Int32) 0) ?_
  refine W.iconst (q := 207) (v := 1) X0 C at_206 rfl rfl ?_
  refine W.goto (q := 211) X0 C at_207 (by decide) (by decide) ?_
  refine W.iadd (q := 212) X0 C at_211 rfl ?_
  rw [show ((2 : Int32) + (1 : Int32)) = (3 : Int32) by decide]
  refine W.istore (q := 214) (L' := #[.val (.int p0), .val (.int p1), .val (.int p2), .val (.int p3), .val (.int p4), .val (.int nn), .val (.int mm), .val (.ref ra), .val (.ref ia), .val (.double (own_div (own_tab false true true true) mm)), .second, .val (.int (0 : Int32)), .val (.int (1 : Int32)), .val (.int (1 : Int32)), .val (.int (1 : Int32)), .val (.int (0 : Int32)), .val (.int (1 : Int32)), .val (.int (2 : Int32)), .val (.int (3 : Int32)), .unset, .unset, .unset, .unset]) X0 C at_212 rfl rfl ?_
  refine W.dconst0 (q := 215) (v := 0) X0 C at_214 rfl rfl ?_
  refine W.dstore (q := 217) (L' := #[.val (.int p0), .val (.int p1), .val (.int p2), .val (.int p3), .val (.int p4), .val (.int nn), .val (.int mm), .val (.ref ra), .val (.ref ia), .val (.double (own_div (own_tab false true true true) mm)), .second, .val (.int (0 : Int32)), .val (.int (1 : Int32)), .val (.int (1 : Int32)), .val (.int (1 : Int32)), .val (.int (0 : Int32)), .val (.int (1 : Int32)), .val (.int (2 : Int32)), .val (.int (3 : Int32)), .val (.double (0 : UInt64)), .second, .unset, .unset]) X0 C at_215 rfl rfl ?_
  refine W.iload (q := 219) X0 C at_217 rfl rfl ?_
  refine W.ifT (q := 232) X0 C at_219 (by decide) (by decide) (by decide : W.cT .eq (0 : Int32) 0) ?_
  refine W.iload (q := 234) X0 C at_232 rfl rfl ?_
  refine W.ifF (q := 237) X0 C at_234 rfl (by decide : W.cF .eq (1 : Int32) 0) ?_
  refine W.dload (q := 239) X0 C at_237 rfl rfl ?_
  refine W.iload (q := 241) X0 C at_239 rfl rfl ?_
  refine W.i2d (q := 242) (v := 4607182418800017408) X0 C at_241 (by decide +kernel) rfl ?_
  refine W.ldcD (q := 245) X0 C (W.ww hw 20 rfl) at_242 rfl ?_
  refine W.ddiv (q := 246) (v := 4602678819172646912) X0 C at_245 (by decide +kernel) (by decide +kernel) rfl ?_
  refine W.dadd (q := 247) (v := 4602678819172646912) X0 C at_246 (by decide +kernel) (by decide +kernel) rfl ?_
  refine W.dstore (q := 249) (L' := #[.val (.int p0), .val (.int p1), .val (.int p2), .val (.int p3), .val (.int p4), .val (.int nn), .val (.int mm), .val (.ref ra), .val (.ref ia), .val (.double (own_div (own_tab false true true true) mm)), .second, .val (.int (0 : Int32)), .val (.int (1 : Int32)), .val (.int (1 : Int32)), .val (.int (1 : Int32)), .val (.int (0 : Int32)), .val (.int (1 : Int32)), .val (.int (2 : Int32)), .val (.int (3 : Int32)), .val (.double (4602678819172646912 : UInt64)), .second, .unset, .unset]) X0 C at_247 rfl rfl ?_
  refine W.iload (q := 251) X0 C at_249 rfl rfl ?_
  refine W.ifF (q := 254) X0 C at_251 rfl (by decide : W.cF .eq (1 : Int32) 0) ?_
  refine W.dload (q := 256) X0 C at_254 rfl rfl ?_
  refine W.iload (q := 258) X0 C at_256 rfl rfl ?_
  refine W.i2d (q := 259) (v := 4611686018427387904) X0 C at_258 (by decide +kernel) rfl ?_
  refine W.ldcD (q := 262) X0 C (W.ww hw 21 rfl) at_259 rfl ?_
  refine W.ddiv (q := 263) (v := 4604180019048437077) X0 C at_262 (by decide +kernel) (by decide +kernel) rfl ?_
  refine W.dadd (q := 264) (v := 4607933018737912490) X0 C at_263 (by decide +kernel) (by decide +kernel) rfl ?_
  refine W.dstore (q := 266) (L' := #[.val (.int p0), .val (.int p1), .val (.int p2), .val (.int p3), .val (.int p4), .val (.int nn), .val (.int mm), .val (.ref ra), .val (.ref ia), .val (.double (own_div (own_tab false true true true) mm)), .second, .val (.int (0 : Int32)), .val (.int (1 : Int32)), .val (.int (1 : Int32)), .val (.int (1 : Int32)), .val (.int (0 : Int32)), .val (.int (1 : Int32)), .val (.int (2 : Int32)), .val (.int (3 : Int32)), .val (.double (4607933018737912490 : UInt64)), .second, .unset, .unset]) X0 C at_264 rfl rfl ?_
  refine W.iload (q := 268) X0 C at_266 rfl rfl ?_
  refine W.ifF (q := 271) X0 C at_268 rfl (by decide : W.cF .eq (1 : Int32) 0) ?_
  refine W.dload (q := 273) X0 C at_271 rfl rfl ?_
  refine W.iload (q := 275) X0 C at_273 rfl rfl ?_
  refine W.i2d (q := 276) (v := 4613937818241073152) X0 C at_275 (by decide +kernel) rfl ?_
  refine W.ldcD (q := 279) X0 C (W.ww hw 22 rfl) at_276 rfl ?_
  refine W.ddiv (q := 280) (v := 4604930618986332160) X0 C at_279 (by decide +kernel) (by decide +kernel) rfl ?_
  refine W.dadd (q := 281) (v := 4611310718458440362) X0 C at_280 (by decide +kernel) (by decide +kernel) rfl ?_
  refine W.dstore (q := 283) (L' := #[.val (.int p0), .val (.int p1), .val (.int p2), .val (.int p3), .val (.int p4), .val (.int nn), .val (.int mm), .val (.ref ra), .val (.ref ia), .val (.double (own_div (own_tab false true true true) mm)), .second, .val (.int (0 : Int32)), .val (.int (1 : Int32)), .val (.int (1 : Int32)), .val (.int (1 : Int32)), .val (.int (0 : Int32)), .val (.int (1 : Int32)), .val (.int (2 : Int32)), .val (.int (3 : Int32)), .val (.double (4611310718458440362 : UInt64)), .second, .unset, .unset]) X0 C at_281 rfl rfl ?_
  refine W.iload (q := 285) X0 C at_283 rfl rfl ?_
  refine W.if_ (q := 292) (q' := 288) X0 C at_285 (by decide) (by decide) rfl (fun hc169 => ?_) (fun hc169 => ?_)
  · replace hc169 : mm ≠ 0 := hc169
    refine W.dload (q := 294) X0 C at_292 rfl rfl ?_
    refine W.iload (q := 296) X0 C at_294 rfl rfl ?_
    refine W.i2d (q := 297) (v := FP.i2d mm) X0 C at_296 rfl rfl ?_
    refine W.ddiv (q := 298) (v := FP.ddiv (4611310718458440362 : UInt64) (FP.i2d mm)) X0 C at_297 (own_nn false true true true mm hc169 hm.1 hm.2) rfl rfl ?_
    refine W.dstore (q := 300) (L' := #[.val (.int p0), .val (.int p1), .val (.int p2), .val (.int p3), .val (.int p4), .val (.int nn), .val (.int mm), .val (.ref ra), .val (.ref ia), .val (.double (own_div (own_tab false true true true) mm)), .second, .val (.int (0 : Int32)), .val (.int (1 : Int32)), .val (.int (1 : Int32)), .val (.int (1 : Int32)), .val (.int (0 : Int32)), .val (.int (1 : Int32)), .val (.int (2 : Int32)), .val (.int (3 : Int32)), .val (.double (4611310718458440362 : UInt64)), .second, .val (.double (FP.ddiv (4611310718458440362 : UInt64) (FP.i2d mm))), .second]) X0 C at_298 rfl rfl ?_
    refine W.dload (q := 302) X0 C at_300 rfl rfl ?_
    refine W.dload (q := 304) X0 C at_302 rfl rfl ?_
    refine W.dcmp (q := 305) (v := 0) X0 C at_304 (by rw [own_div, if_neg hc169]; exact dcmpV_self (own_nn false true true true mm hc169 hm.1 hm.2) _) rfl ?_
    refine W.ifF (q := 308) X0 C at_305 rfl (by decide : W.cF .ne (0 : Int32) 0) ?_
    refine W.iconst (q := 309) (v := 1) X0 C at_308 rfl rfl ?_
    refine W.goto (q := 313) X0 C at_309 (by decide) (by decide) ?_
    exact W.retN X0 C (by simp) e0 at_313 rfl (by decide) hsl ⟨rfl, N0⟩
  · replace hc169 : mm = 0 := hc169
    refine W.dconst0 (q := 289) (v := 0) X0 C at_288 rfl rfl ?_
    refine W.goto (q := 298) X0 C at_289 (by decide) (by decide) ?_
    refine W.dstore (q := 300) (L' := #[.val (.int p0), .val (.int p1), .val (.int p2), .val (.int p3), .val (.int p4), .val (.int nn), .val (.int mm), .val (.ref ra), .val (.ref ia), .val (.double (own_div (own_tab false true true true) mm)), .second, .val (.int (0 : Int32)), .val (.int (1 : Int32)), .val (.int (1 : Int32)), .val (.int (1 : Int32)), .val (.int (0 : Int32)), .val (.int (1 : Int32)), .val (.int (2 : Int32)), .val (.int (3 : Int32)), .val (.double (4611310718458440362 : UInt64)), .second, .val (.double (0 : UInt64)), .second]) X0 C at_298 rfl rfl ?_
    refine W.dload (q := 302) X0 C at_300 rfl rfl ?_
    refine W.dload (q := 304) X0 C at_302 rfl rfl ?_
    refine W.dcmp (q := 305) (v := 0) X0 C at_304 (by rw [own_div, if_pos hc169]; decide +kernel) rfl ?_
    refine W.ifF (q := 308) X0 C at_305 rfl (by decide : W.cF .ne (0 : Int32) 0) ?_
    refine W.iconst (q := 309) (v := 1) X0 C at_308 rfl rfl ?_
    refine W.goto (q := 313) X0 C at_309 (by decide) (by decide) ?_
    exact W.retN X0 C (by simp) e0 at_313 rfl (by decide) hsl ⟨rfl, N0⟩
set_option maxRecDepth 65536 in
set_option maxHeartbeats 40000000 in
theorem own_t1000 (l : Launch) (Z : State) (a0 : Array Value) (hw : ∀ d ∈ tables_1, d.before a0 Z = true) (h0 : Heap) (n0 : Nat) (p0 p1 p2 p3 p4 nn mm : Int32) (ra ia : Addr) (sl : Nat) {p : Program} {e : Env} {s : State} {m : MethodId} {args : Array Value} {below : List Frame} {meth : Method} {c : Code} {T0 : State} {locs : List Loc}
    (C : W.Cx p s m meth c Z code 23 "com/example/cranfield/cranfield/measures/RankedQueryAveragePrecisionPinLaw" "law" (some .boolean)) (X0 : Stand p l e room_1 s m args below meth c T0 locs 3 sl) (e0 : T0.heap = h0) (N0 : Fr n0 locs) (hm : 0 ≤ mm.toInt ∧ mm.toInt ≤ 7) (hsl : sl ≤ 128) :
    W.Go p e below (W.Post s (fun v h L => v = some (.int 1) ∧ Fr n0 L) room_1.cells room_1.slots) (T0.setTop (mkF m 157 #[.val (.int p0), .val (.int p1), .val (.int p2), .val (.int p3), .val (.int p4), .val (.int nn), .val (.int mm), .val (.ref ra), .val (.ref ia), .val (.double (own_div (own_tab true false false false) mm)), .second, .val (.int (1 : Int32)), .val (.int (0 : Int32)), .val (.int (0 : Int32)), .val (.int (0 : Int32)), .unset, .unset, .unset, .unset, .unset, .unset, .unset, .unset] [])) := by
  refine W.iload (q := 159) X0 C at_157 rfl rfl ?_
  refine W.ifF (q := 162) X0 C at_159 rfl (by decide : W.cF .eq (1 : Int32) 0) ?_
  refine W.iconst (q := 163) (v := 1) X0 C at_162 rfl rfl ?_
  refine W.goto (q := 167) X0 C at_163 (by decide) (by decide) ?_
  refine W.istore (q := 169) (L' := #[.val (.int p0), .val (.int p1), .val (.int p2), .val (.int p3), .val (.int p4), .val (.int nn), .val (.int mm), .val (.ref ra), .val (.ref ia), .val (.double (own_div (own_tab true false false false) mm)), .second, .val (.int (1 : Int32)), .val (.int (0 : Int32)), .val (.int (0 : Int32)), .val (.int (0 : Int32)), .val (.int (1 : Int32)), .unset, .unset, .unset, .unset, .unset, .unset, .unset]) X0 C at_167 rfl rfl ?_
  refine W.iload (q := 171) X0 C at_169 rfl rfl ?_
  refine W.iload (q := 173) X0 C at_171 rfl rfl ?_
  refine W.ifT (q := 180) X0 C at_173 (by decide) (by decide) (by decide : W.cT .eq (0 : Int32) 0) ?_
  refine W.iconst (q := 181) (v := 0) X0 C at_180 rfl rfl ?_
  refine W.iadd (q := 182) X0 C at_181 rfl ?_
  rw [show ((1 : Int32) + (0 : Int32)) = (1 : Int32) by decide]
  refine W.istore (q := 184) (L' := #[.val (.int p0), .val (.int p1), .val (.int p2), .val (.int p3), .val (.int p4), .val (.int nn), .val (.int mm), .val (.ref ra), .val (.ref ia), .val (.double (own_div (own_tab true false false false) mm)), .second, .val (.int (1 : Int32)), .val (.int (0 : Int32)), .val (.int (0 : Int32)), .val (.int (0 : Int32)), .val (.int (1 : Int32)), .val (.int (1 : Int32)), .unset, .unset, .unset, .unset, .unset, .unset]) X0 C at_182 rfl rfl ?_
  refine W.iload (q := 186) X0 C at_184 rfl rfl ?_
  refine W.iload (q := 188) X0 C at_186 rfl rfl ?_
  refine W.ifT (q := 195) X0 C at_188 (by decide) (by decide) (by decide : W.cT .eq (0 : Int32) 0) ?_
  refine W.iconst (q := 196) (v := 0) X0 C at_195 rfl rfl ?_
  refine W.iadd (q := 197) X0 C at_196 rfl ?_
  rw [show ((1 : Int32) + (0 : Int32)) = (1 : Int32) by decide]
  refine W.istore (q := 199) (L' := #[.val (.int p0), .val (.int p1), .val (.int p2), .val (.int p3), .val (.int p4), .val (.int nn), .val (.int mm), .val (.ref ra), .val (.ref ia), .val (.double (own_div (own_tab true false false false) mm)), .second, .val (.int (1 : Int32)), .val (.int (0 : Int32)), .val (.int (0 : Int32)), .val (.int (0 : Int32)), .val (.int (1 : Int32)), .val (.int (1 : Int32)), .val (.int (1 : Int32)), .unset, .unset, .unset, .unset, .unset]) X0 C at_197 rfl rfl ?_
  refine W.iload (q := 201) X0 C at_199 rfl rfl ?_
  refine W.iload (q := 203) X0 C at_201 rfl rfl ?_
  refine W.ifT (q := 210) X0 C at_203 (by decide) (by decide) (by decide : W.cT .eq (0 : Int32) 0) ?_
  refine W.iconst (q := 211) (v := 0) X0 C at_210 rfl rfl ?_
  refine W.iadd (q := 212) X0 C at_211 rfl ?_
  rw [show ((1 : Int32) + (0 : Int32)) = (1 : Int32) by decide]
  refine W.istore (q := 214) (L' := #[.val (.int p0), .val (.int p1), .val (.int p2), .val (.int p3), .val (.int p4), .val (.int nn), .val (.int mm), .val (.ref ra), .val (.ref ia), .val (.double (own_div (own_tab true false false false) mm)), .second, .val (.int (1 : Int32)), .val (.int (0 : Int32)), .val (.int (0 : Int32)), .val (.int (0 : Int32)), .val (.int (1 : Int32)), .val (.int (1 : Int32)), .val (.int (1 : Int32)), .val (.int (1 : Int32)), .unset, .unset, .unset, .unset]) X0 C at_212 rfl rfl ?_
  refine W.dconst0 (q := 215) (v := 0) X0 C at_214 rfl rfl ?_
  refine W.dstore (q := 217) (L' := #[.val (.int p0), .val (.int p1), .val (.int p2), .val (.int p3), .val (.int p4), .val (.int nn), .val (.int mm), .val (.ref ra), .val (.ref ia), .val (.double (own_div (own_tab true false false false) mm)), .second, .val (.int (1 : Int32)), .val (.int (0 : Int32)), .val (.int (0 : Int32)), .val (.int (0 : Int32)), .val (.int (1 : Int32)), .val (.int (1 : Int32)), .val (.int (1 : Int32)), .val (.int (1 : Int32)), .val (.double (0 : UInt64)), .second, .unset, .unset]) X0 C at_215 rfl rfl ?_
  refine W.iload (q := 219) X0 C at_217 rfl rfl ?_
  refine W.ifF (q := 222) X0 C at_219 rfl (by decide : W.cF .eq (1 : Int32) 0) ?_
  refine W.dload (q := 224) X0 C at_222 rfl rfl ?_
  refine W.iload (q := 226) X0 C at_224 rfl rfl ?_
  refine W.i2d (q := 227) (v := 4607182418800017408) X0 C at_226 (by decide +kernel) rfl ?_
  refine W.dconst1 (q := 228) (v := 4607182418800017408) X0 C at_227 rfl rfl ?_
  refine W.ddiv (q := 229) (v := 4607182418800017408) X0 C at_228 (by decide +kernel) (by decide +kernel) rfl ?_
  refine W.dadd (q := 230) (v := 4607182418800017408) X0 C at_229 (by decide +kernel) (by decide +kernel) rfl ?_
  refine W.dstore (q := 232) (L' := #[.val (.int p0), .val (.int p1), .val (.int p2), .val (.int p3), .val (.int p4), .val (.int nn), .val (.int mm), .val (.ref ra), .val (.ref ia), .val (.double (own_div (own_tab true false false false) mm)), .second, .val (.int (1 : Int32)), .val (.int (0 : Int32)), .val (.int (0 : Int32)), .val (.int (0 : Int32)), .val (.int (1 : Int32)), .val (.int (1 : Int32)), .val (.int (1 : Int32)), .val (.int (1 : Int32)), .val (.double (4607182418800017408 : UInt64)), .second, .unset, .unset]) X0 C at_230 rfl rfl ?_
  refine W.iload (q := 234) X0 C at_232 rfl rfl ?_
  refine W.ifT (q := 249) X0 C at_234 (by decide) (by decide) (by decide : W.cT .eq (0 : Int32) 0) ?_
  refine W.iload (q := 251) X0 C at_249 rfl rfl ?_
  refine W.ifT (q := 266) X0 C at_251 (by decide) (by decide) (by decide : W.cT .eq (0 : Int32) 0) ?_
  refine W.iload (q := 268) X0 C at_266 rfl rfl ?_
  refine W.ifT (q := 283) X0 C at_268 (by decide) (by decide) (by decide : W.cT .eq (0 : Int32) 0) ?_
  refine W.iload (q := 285) X0 C at_283 rfl rfl ?_
  refine W.if_ (q := 292) (q' := 288) X0 C at_285 (by decide) (by decide) rfl (fun hc170 => ?_) (fun hc170 => ?_)
  · replace hc170 : mm ≠ 0 := hc170
    refine W.dload (q := 294) X0 C at_292 rfl rfl ?_
    refine W.iload (q := 296) X0 C at_294 rfl rfl ?_
    refine W.i2d (q := 297) (v := FP.i2d mm) X0 C at_296 rfl rfl ?_
    refine W.ddiv (q := 298) (v := FP.ddiv (4607182418800017408 : UInt64) (FP.i2d mm)) X0 C at_297 (own_nn true false false false mm hc170 hm.1 hm.2) rfl rfl ?_
    refine W.dstore (q := 300) (L' := #[.val (.int p0), .val (.int p1), .val (.int p2), .val (.int p3), .val (.int p4), .val (.int nn), .val (.int mm), .val (.ref ra), .val (.ref ia), .val (.double (own_div (own_tab true false false false) mm)), .second, .val (.int (1 : Int32)), .val (.int (0 : Int32)), .val (.int (0 : Int32)), .val (.int (0 : Int32)), .val (.int (1 : Int32)), .val (.int (1 : Int32)), .val (.int (1 : Int32)), .val (.int (1 : Int32)), .val (.double (4607182418800017408 : UInt64)), .second, .val (.double (FP.ddiv (4607182418800017408 : UInt64) (FP.i2d mm))), .second]) X0 C at_298 rfl rfl ?_
    refine W.dload (q := 302) X0 C at_300 rfl rfl ?_
    refine W.dload (q := 304) X0 C at_302 rfl rfl ?_
    refine W.dcmp (q := 305) (v := 0) X0 C at_304 (by rw [own_div, if_neg hc170]; exact dcmpV_self (own_nn true false false false mm hc170 hm.1 hm.2) _) rfl ?_
    refine W.ifF (q := 308) X0 C at_305 rfl (by decide : W.cF .ne (0 : Int32) 0) ?_
    refine W.iconst (q := 309) (v := 1) X0 C at_308 rfl rfl ?_
    refine W.goto (q := 313) X0 C at_309 (by decide) (by decide) ?_
    exact W.retN X0 C (by simp) e0 at_313 rfl (by decide) hsl ⟨rfl, N0⟩
  · replace hc170 : mm = 0 := hc170
    refine W.dconst0 (q := 289) (v := 0) X0 C at_288 rfl rfl ?_
    refine W.goto (q := 298) X0 C at_289 (by decide) (by decide) ?_
    refine W.dstore (q := 300) (L' := #[.val (.int p0), .val (.int p1), .val (.int p2), .val (.int p3), .val (.int p4), .val (.int nn), .val (.int mm), .val (.ref ra), .val (.ref ia), .val (.double (own_div (own_tab true false false false) mm)), .second, .val (.int (1 : Int32)), .val (.int (0 : Int32)), .val (.int (0 : Int32)), .val (.int (0 : Int32)), .val (.int (1 : Int32)), .val (.int (1 : Int32)), .val (.int (1 : Int32)), .val (.int (1 : Int32)), .val (.double (4607182418800017408 : UInt64)), .second, .val (.double (0 : UInt64)), .second]) X0 C at_298 rfl rfl ?_
    refine W.dload (q := 302) X0 C at_300 rfl rfl ?_
    refine W.dload (q := 304) X0 C at_302 rfl rfl ?_
    refine W.dcmp (q := 305) (v := 0) X0 C at_304 (by rw [own_div, if_pos hc170]; decide +kernel) rfl ?_
    refine W.ifF (q := 308) X0 C at_305 rfl (by decide : W.cF .ne (0 : Int32) 0) ?_
    refine W.iconst (q := 309) (v := 1) X0 C at_308 rfl rfl ?_
    refine W.goto (q := 313) X0 C at_309 (by decide) (by decide) ?_
    exact W.retN X0 C (by simp) e0 at_313 rfl (by decide) hsl ⟨rfl, N0⟩
set_option maxRecDepth 65536 in
set_option maxHeartbeats 40000000 in
theorem own_t1001 (l : Launch) (Z : State) (a0 : Array Value) (hw : ∀ d ∈ tables_1, d.before a0 Z = true) (h0 : Heap) (n0 : Nat) (p0 p1 p2 p3 p4 nn mm : Int32) (ra ia : Addr) (sl : Nat) {p : Program} {e : Env} {s : State} {m : MethodId} {args : Array Value} {below : List Frame} {meth : Method} {c : Code} {T0 : State} {locs : List Loc}
    (C : W.Cx p s m meth c Z code 23 "com/example/cranfield/cranfield/measures/RankedQueryAveragePrecisionPinLaw" "law" (some .boolean)) (X0 : Stand p l e room_1 s m args below meth c T0 locs 3 sl) (e0 : T0.heap = h0) (N0 : Fr n0 locs) (hm : 0 ≤ mm.toInt ∧ mm.toInt ≤ 7) (hsl : sl ≤ 128) :
    W.Go p e below (W.Post s (fun v h L => v = some (.int 1) ∧ Fr n0 L) room_1.cells room_1.slots) (T0.setTop (mkF m 157 #[.val (.int p0), .val (.int p1), .val (.int p2), .val (.int p3), .val (.int p4), .val (.int nn), .val (.int mm), .val (.ref ra), .val (.ref ia), .val (.double (own_div (own_tab true false false true) mm)), .second, .val (.int (1 : Int32)), .val (.int (0 : Int32)), .val (.int (0 : Int32)), .val (.int (1 : Int32)), .unset, .unset, .unset, .unset, .unset, .unset, .unset, .unset] [])) := by
  refine W.iload (q := 159) X0 C at_157 rfl rfl ?_
  refine W.ifF (q := 162) X0 C at_159 rfl (by decide : W.cF .eq (1 : Int32) 0) ?_
  refine W.iconst (q := 163) (v := 1) X0 C at_162 rfl rfl ?_
  refine W.goto (q := 167) X0 C at_163 (by decide) (by decide) ?_
  refine W.istore (q := 169) (L' := #[.val (.int p0), .val (.int p1), .val (.int p2), .val (.int p3), .val (.int p4), .val (.int nn), .val (.int mm), .val (.ref ra), .val (.ref ia), .val (.double (own_div (own_tab true false false true) mm)), .second, .val (.int (1 : Int32)), .val (.int (0 : Int32)), .val (.int (0 : Int32)), .val (.int (1 : Int32)), .val (.int (1 : Int32)), .unset, .unset, .unset, .unset, .unset, .unset, .unset]) X0 C at_167 rfl rfl ?_
  refine W.iload (q := 171) X0 C at_169 rfl rfl ?_
  refine W.iload (q := 173) X0 C at_171 rfl rfl ?_
  refine W.ifT (q := 180) X0 C at_173 (by decide) (by decide) (by decide : W.cT .eq (0 : Int32) 0) ?_
  refine W.iconst (q := 181) (v := 0) X0 C at_180 rfl rfl ?_
  refine W.iadd (q := 182) X0 C at_181 rfl ?_
  rw [show ((1 : Int32) + (0 : Int32)) = (1 : Int32) by decide]
  refine W.istore (q := 184) (L' := #[.val (.int p0), .val (.int p1), .val (.int p2), .val (.int p3), .val (.int p4), .val (.int nn), .val (.int mm), .val (.ref ra), .val (.ref ia), .val (.double (own_div (own_tab true false false true) mm)), .second, .val (.int (1 : Int32)), .val (.int (0 : Int32)), .val (.int (0 : Int32)), .val (.int (1 : Int32)), .val (.int (1 : Int32)), .val (.int (1 : Int32)), .unset, .unset, .unset, .unset, .unset, .unset]) X0 C at_182 rfl rfl ?_
  refine W.iload (q := 186) X0 C at_184 rfl rfl ?_
  refine W.iload (q := 188) X0 C at_186 rfl rfl ?_
  refine W.ifT (q := 195) X0 C at_188 (by decide) (by decide) (by decide : W.cT .eq (0 : Int32) 0) ?_
  refine W.iconst (q := 196) (v := 0) X0 C at_195 rfl rfl ?_
  refine W.iadd (q := 197) X0 C at_196 rfl ?_
  rw [show ((1 : Int32) + (0 : Int32)) = (1 : Int32) by decide]
  refine W.istore (q := 199) (L' := #[.val (.int p0), .val (.int p1), .val (.int p2), .val (.int p3), .val (.int p4), .val (.int nn), .val (.int mm), .val (.ref ra), .val (.ref ia), .val (.double (own_div (own_tab true false false true) mm)), .second, .val (.int (1 : Int32)), .val (.int (0 : Int32)), .val (.int (0 : Int32)), .val (.int (1 : Int32)), .val (.int (1 : Int32)), .val (.int (1 : Int32)), .val (.int (1 : Int32)), .unset, .unset, .unset, .unset, .unset]) X0 C at_197 rfl rfl ?_
  refine W.iload (q := 201) X0 C at_199 rfl rfl ?_
  refine W.iload (q := 203) X0 C at_201 rfl rfl ?_
  refine W.ifF (q := 206) X0 C at_203 rfl (by decide : W.cF .eq (1 : Int32) 0) ?_
  refine W.iconst (q := 207) (v := 1) X0 C at_206 rfl rfl ?_
  refine W.goto (q := 211) X0 C at_207 (by decide) (by decide) ?_
  refine W.iadd (q := 212) X0 C at_211 rfl ?_
  rw [show ((1 : Int32) + (1 : Int32)) = (2 : Int32) by decide]
  refine W.istore (q := 214) (L' := #[.val (.int p0), .val (.int p1), .val (.int p2), .val (.int p3), .val (.int p4), .val (.int nn), .val (.int mm), .val (.ref ra), .val (.ref ia), .val (.double (own_div (own_tab true false false true) mm)), .second, .val (.int (1 : Int32)), .val (.int (0 : Int32)), .val (.int (0 : Int32)), .val (.int (1 : Int32)), .val (.int (1 : Int32)), .val (.int (1 : Int32)), .val (.int (1 : Int32)), .val (.int (2 : Int32)), .unset, .unset, .unset, .unset]) X0 C at_212 rfl rfl ?_
  refine W.dconst0 (q := 215) (v := 0) X0 C at_214 rfl rfl ?_
  refine W.dstore (q := 217) (L' := #[.val (.int p0), .val (.int p1), .val (.int p2), .val (.int p3), .val (.int p4), .val (.int nn), .val (.int mm), .val (.ref ra), .val (.ref ia), .val (.double (own_div (own_tab true false false true) mm)), .second, .val (.int (1 : Int32)), .val (.int (0 : Int32)), .val (.int (0 : Int32)), .val (.int (1 : Int32)), .val (.int (1 : Int32)), .val (.int (1 : Int32)), .val (.int (1 : Int32)), .val (.int (2 : Int32)), .val (.double (0 : UInt64)), .second, .unset, .unset]) X0 C at_215 rfl rfl ?_
  refine W.iload (q := 219) X0 C at_217 rfl rfl ?_
  refine W.ifF (q := 222) X0 C at_219 rfl (by decide : W.cF .eq (1 : Int32) 0) ?_
  refine W.dload (q := 224) X0 C at_222 rfl rfl ?_
  refine W.iload (q := 226) X0 C at_224 rfl rfl ?_
  refine W.i2d (q := 227) (v := 4607182418800017408) X0 C at_226 (by decide +kernel) rfl ?_
  refine W.dconst1 (q := 228) (v := 4607182418800017408) X0 C at_227 rfl rfl ?_
  refine W.ddiv (q := 229) (v := 4607182418800017408) X0 C at_228 (by decide +kernel) (by decide +kernel) rfl ?_
  refine W.dadd (q := 230) (v := 4607182418800017408) X0 C at_229 (by decide +kernel) (by decide +kernel) rfl ?_
  refine W.dstore (q := 232) (L' := #[.val (.int p0), .val (.int p1), .val (.int p2), .val (.int p3), .val (.int p4), .val (.int nn), .val (.int mm), .val (.ref ra), .val (.ref ia), .val (.double (own_div (own_tab true false false true) mm)), .second, .val (.int (1 : Int32)), .val (.int (0 : Int32)), .val (.int (0 : Int32)), .val (.int (1 : Int32)), .val (.int (1 : Int32)), .val (.int (1 : Int32)), .val (.int (1 : Int32)), .val (.int (2 : Int32)), .val (.double (4607182418800017408 : UInt64)), .second, .unset, .unset]) X0 C at_230 rfl rfl ?_
  refine W.iload (q := 234) X0 C at_232 rfl rfl ?_
  refine W.ifT (q := 249) X0 C at_234 (by decide) (by decide) (by decide : W.cT .eq (0 : Int32) 0) ?_
  refine W.iload (q := 251) X0 C at_249 rfl rfl ?_
  refine W.ifT (q := 266) X0 C at_251 (by decide) (by decide) (by decide : W.cT .eq (0 : Int32) 0) ?_
  refine W.iload (q := 268) X0 C at_266 rfl rfl ?_
  refine W.ifF (q := 271) X0 C at_268 rfl (by decide : W.cF .eq (1 : Int32) 0) ?_
  refine W.dload (q := 273) X0 C at_271 rfl rfl ?_
  refine W.iload (q := 275) X0 C at_273 rfl rfl ?_
  refine W.i2d (q := 276) (v := 4611686018427387904) X0 C at_275 (by decide +kernel) rfl ?_
  refine W.ldcD (q := 279) X0 C (W.ww hw 22 rfl) at_276 rfl ?_
  refine W.ddiv (q := 280) (v := 4602678819172646912) X0 C at_279 (by decide +kernel) (by decide +kernel) rfl ?_
  refine W.dadd (q := 281) (v := 4609434218613702656) X0 C at_280 (by decide +kernel) (by decide +kernel) rfl ?_
  refine W.dstore (q := 283) (L' := #[.val (.int p0), .val (.int p1), .val (.int p2), .val (.int p3), .val (.int p4), .val (.int nn), .val (.int mm), .val (.ref ra), .val (.ref ia), .val (.double (own_div (own_tab true false false true) mm)), .second, .val (.int (1 : Int32)), .val (.int (0 : Int32)), .val (.int (0 : Int32)), .val (.int (1 : Int32)), .val (.int (1 : Int32)), .val (.int (1 : Int32)), .val (.int (1 : Int32)), .val (.int (2 : Int32)), .val (.double (4609434218613702656 : UInt64)), .second, .unset, .unset]) X0 C at_281 rfl rfl ?_
  refine W.iload (q := 285) X0 C at_283 rfl rfl ?_
  refine W.if_ (q := 292) (q' := 288) X0 C at_285 (by decide) (by decide) rfl (fun hc171 => ?_) (fun hc171 => ?_)
  · replace hc171 : mm ≠ 0 := hc171
    refine W.dload (q := 294) X0 C at_292 rfl rfl ?_
    refine W.iload (q := 296) X0 C at_294 rfl rfl ?_
    refine W.i2d (q := 297) (v := FP.i2d mm) X0 C at_296 rfl rfl ?_
    refine W.ddiv (q := 298) (v := FP.ddiv (4609434218613702656 : UInt64) (FP.i2d mm)) X0 C at_297 (own_nn true false false true mm hc171 hm.1 hm.2) rfl rfl ?_
    refine W.dstore (q := 300) (L' := #[.val (.int p0), .val (.int p1), .val (.int p2), .val (.int p3), .val (.int p4), .val (.int nn), .val (.int mm), .val (.ref ra), .val (.ref ia), .val (.double (own_div (own_tab true false false true) mm)), .second, .val (.int (1 : Int32)), .val (.int (0 : Int32)), .val (.int (0 : Int32)), .val (.int (1 : Int32)), .val (.int (1 : Int32)), .val (.int (1 : Int32)), .val (.int (1 : Int32)), .val (.int (2 : Int32)), .val (.double (4609434218613702656 : UInt64)), .second, .val (.double (FP.ddiv (4609434218613702656 : UInt64) (FP.i2d mm))), .second]) X0 C at_298 rfl rfl ?_
    refine W.dload (q := 302) X0 C at_300 rfl rfl ?_
    refine W.dload (q := 304) X0 C at_302 rfl rfl ?_
    refine W.dcmp (q := 305) (v := 0) X0 C at_304 (by rw [own_div, if_neg hc171]; exact dcmpV_self (own_nn true false false true mm hc171 hm.1 hm.2) _) rfl ?_
    refine W.ifF (q := 308) X0 C at_305 rfl (by decide : W.cF .ne (0 : Int32) 0) ?_
    refine W.iconst (q := 309) (v := 1) X0 C at_308 rfl rfl ?_
    refine W.goto (q := 313) X0 C at_309 (by decide) (by decide) ?_
    exact W.retN X0 C (by simp) e0 at_313 rfl (by decide) hsl ⟨rfl, N0⟩
  · replace hc171 : mm = 0 := hc171
    refine W.dconst0 (q := 289) (v := 0) X0 C at_288 rfl rfl ?_
    refine W.goto (q := 298) X0 C at_289 (by decide) (by decide) ?_
    refine W.dstore (q := 300) (L' := #[.val (.int p0), .val (.int p1), .val (.int p2), .val (.int p3), .val (.int p4), .val (.int nn), .val (.int mm), .val (.ref ra), .val (.ref ia), .val (.double (own_div (own_tab true false false true) mm)), .second, .val (.int (1 : Int32)), .val (.int (0 : Int32)), .val (.int (0 : Int32)), .val (.int (1 : Int32)), .val (.int (1 : Int32)), .val (.int (1 : Int32)), .val (.int (1 : Int32)), .val (.int (2 : Int32)), .val (.double (4609434218613702656 : UInt64)), .second, .val (.double (0 : UInt64)), .second]) X0 C at_298 rfl rfl ?_
    refine W.dload (q := 302) X0 C at_300 rfl rfl ?_
    refine W.dload (q := 304) X0 C at_302 rfl rfl ?_
    refine W.dcmp (q := 305) (v := 0) X0 C at_304 (by rw [own_div, if_pos hc171]; decide +kernel) rfl ?_
    refine W.ifF (q := 308) X0 C at_305 rfl (by decide : W.cF .ne (0 : Int32) 0) ?_
    refine W.iconst (q := 309) (v := 1) X0 C at_308 rfl rfl ?_
    refine W.goto (q := 313) X0 C at_309 (by decide) (by decide) ?_
    exact W.retN X0 C (by simp) e0 at_313 rfl (by decide) hsl ⟨rfl, N0⟩
set_option maxRecDepth 65536 in
set_option maxHeartbeats 40000000 in
theorem own_t1010 (l : Launch) (Z : State) (a0 : Array Value) (hw : ∀ d ∈ tables_1, d.before a0 Z = true) (h0 : Heap) (n0 : Nat) (p0 p1 p2 p3 p4 nn mm : Int32) (ra ia : Addr) (sl : Nat) {p : Program} {e : Env} {s : State} {m : MethodId} {args : Array Value} {below : List Frame} {meth : Method} {c : Code} {T0 : State} {locs : List Loc}
    (C : W.Cx p s m meth c Z code 23 "com/example/cranfield/cranfield/measures/RankedQueryAveragePrecisionPinLaw" "law" (some .boolean)) (X0 : Stand p l e room_1 s m args below meth c T0 locs 3 sl) (e0 : T0.heap = h0) (N0 : Fr n0 locs) (hm : 0 ≤ mm.toInt ∧ mm.toInt ≤ 7) (hsl : sl ≤ 128) :
    W.Go p e below (W.Post s (fun v h L => v = some (.int 1) ∧ Fr n0 L) room_1.cells room_1.slots) (T0.setTop (mkF m 157 #[.val (.int p0), .val (.int p1), .val (.int p2), .val (.int p3), .val (.int p4), .val (.int nn), .val (.int mm), .val (.ref ra), .val (.ref ia), .val (.double (own_div (own_tab true false true false) mm)), .second, .val (.int (1 : Int32)), .val (.int (0 : Int32)), .val (.int (1 : Int32)), .val (.int (0 : Int32)), .unset, .unset, .unset, .unset, .unset, .unset, .unset, .unset] [])) := by
  refine W.iload (q := 159) X0 C at_157 rfl rfl ?_
  refine W.ifF (q := 162) X0 C at_159 rfl (by decide : W.cF .eq (1 : Int32) 0) ?_
  refine W.iconst (q := 163) (v := 1) X0 C at_162 rfl rfl ?_
  refine W.goto (q := 167) X0 C at_163 (by decide) (by decide) ?_
  refine W.istore (q := 169) (L' := #[.val (.int p0), .val (.int p1), .val (.int p2), .val (.int p3), .val (.int p4), .val (.int nn), .val (.int mm), .val (.ref ra), .val (.ref ia), .val (.double (own_div (own_tab true false true false) mm)), .second, .val (.int (1 : Int32)), .val (.int (0 : Int32)), .val (.int (1 : Int32)), .val (.int (0 : Int32)), .val (.int (1 : Int32)), .unset, .unset, .unset, .unset, .unset, .unset, .unset]) X0 C at_167 rfl rfl ?_
  refine W.iload (q := 171) X0 C at_169 rfl rfl ?_
  refine W.iload (q := 173) X0 C at_171 rfl rfl ?_
  refine W.ifT (q := 180) X0 C at_173 (by decide) (by decide) (by decide : W.cT .eq (0 : Int32) 0) ?_
  refine W.iconst (q := 181) (v := 0) X0 C at_180 rfl rfl ?_
  refine W.iadd (q := 182) X0 C at_181 rfl ?_
  rw [show ((1 : Int32) + (0 : Int32)) = (1 : Int32) by decide]
  refine W.istore (q := 184) (L' := #[.val (.int p0), .val (.int p1), .val (.int p2), .val (.int p3), .val (.int p4), .val (.int nn), .val (.int mm), .val (.ref ra), .val (.ref ia), .val (.double (own_div (own_tab true false true false) mm)), .second, .val (.int (1 : Int32)), .val (.int (0 : Int32)), .val (.int (1 : Int32)), .val (.int (0 : Int32)), .val (.int (1 : Int32)), .val (.int (1 : Int32)), .unset, .unset, .unset, .unset, .unset, .unset]) X0 C at_182 rfl rfl ?_
  refine W.iload (q := 186) X0 C at_184 rfl rfl ?_
  refine W.iload (q := 188) X0 C at_186 rfl rfl ?_
  refine W.ifF (q := 191) X0 C at_188 rfl (by decide : W.cF .eq (1 : Int32) 0) ?_
  refine W.iconst (q := 192) (v := 1) X0 C at_191 rfl rfl ?_
  refine W.goto (q := 196) X0 C at_192 (by decide) (by decide) ?_
  refine W.iadd (q := 197) X0 C at_196 rfl ?_
  rw [show ((1 : Int32) + (1 : Int32)) = (2 : Int32) by decide]
  refine W.istore (q := 199) (L' := #[.val (.int p0), .val (.int p1), .val (.int p2), .val (.int p3), .val (.int p4), .val (.int nn), .val (.int mm), .val (.ref ra), .val (.ref ia), .val (.double (own_div (own_tab true false true false) mm)), .second, .val (.int (1 : Int32)), .val (.int (0 : Int32)), .val (.int (1 : Int32)), .val (.int (0 : Int32)), .val (.int (1 : Int32)), .val (.int (1 : Int32)), .val (.int (2 : Int32)), .unset, .unset, .unset, .unset, .unset]) X0 C at_197 rfl rfl ?_
  refine W.iload (q := 201) X0 C at_199 rfl rfl ?_
  refine W.iload (q := 203) X0 C at_201 rfl rfl ?_
  refine W.ifT (q := 210) X0 C at_203 (by decide) (by decide) (by decide : W.cT .eq (0 : Int32) 0) ?_
  refine W.iconst (q := 211) (v := 0) X0 C at_210 rfl rfl ?_
  refine W.iadd (q := 212) X0 C at_211 rfl ?_
  rw [show ((2 : Int32) + (0 : Int32)) = (2 : Int32) by decide]
  refine W.istore (q := 214) (L' := #[.val (.int p0), .val (.int p1), .val (.int p2), .val (.int p3), .val (.int p4), .val (.int nn), .val (.int mm), .val (.ref ra), .val (.ref ia), .val (.double (own_div (own_tab true false true false) mm)), .second, .val (.int (1 : Int32)), .val (.int (0 : Int32)), .val (.int (1 : Int32)), .val (.int (0 : Int32)), .val (.int (1 : Int32)), .val (.int (1 : Int32)), .val (.int (2 : Int32)), .val (.int (2 : Int32)), .unset, .unset, .unset, .unset]) X0 C at_212 rfl rfl ?_
  refine W.dconst0 (q := 215) (v := 0) X0 C at_214 rfl rfl ?_
  refine W.dstore (q := 217) (L' := #[.val (.int p0), .val (.int p1), .val (.int p2), .val (.int p3), .val (.int p4), .val (.int nn), .val (.int mm), .val (.ref ra), .val (.ref ia), .val (.double (own_div (own_tab true false true false) mm)), .second, .val (.int (1 : Int32)), .val (.int (0 : Int32)), .val (.int (1 : Int32)), .val (.int (0 : Int32)), .val (.int (1 : Int32)), .val (.int (1 : Int32)), .val (.int (2 : Int32)), .val (.int (2 : Int32)), .val (.double (0 : UInt64)), .second, .unset, .unset]) X0 C at_215 rfl rfl ?_
  refine W.iload (q := 219) X0 C at_217 rfl rfl ?_
  refine W.ifF (q := 222) X0 C at_219 rfl (by decide : W.cF .eq (1 : Int32) 0) ?_
  refine W.dload (q := 224) X0 C at_222 rfl rfl ?_
  refine W.iload (q := 226) X0 C at_224 rfl rfl ?_
  refine W.i2d (q := 227) (v := 4607182418800017408) X0 C at_226 (by decide +kernel) rfl ?_
  refine W.dconst1 (q := 228) (v := 4607182418800017408) X0 C at_227 rfl rfl ?_
  refine W.ddiv (q := 229) (v := 4607182418800017408) X0 C at_228 (by decide +kernel) (by decide +kernel) rfl ?_
  refine W.dadd (q := 230) (v := 4607182418800017408) X0 C at_229 (by decide +kernel) (by decide +kernel) rfl ?_
  refine W.dstore (q := 232) (L' := #[.val (.int p0), .val (.int p1), .val (.int p2), .val (.int p3), .val (.int p4), .val (.int nn), .val (.int mm), .val (.ref ra), .val (.ref ia), .val (.double (own_div (own_tab true false true false) mm)), .second, .val (.int (1 : Int32)), .val (.int (0 : Int32)), .val (.int (1 : Int32)), .val (.int (0 : Int32)), .val (.int (1 : Int32)), .val (.int (1 : Int32)), .val (.int (2 : Int32)), .val (.int (2 : Int32)), .val (.double (4607182418800017408 : UInt64)), .second, .unset, .unset]) X0 C at_230 rfl rfl ?_
  refine W.iload (q := 234) X0 C at_232 rfl rfl ?_
  refine W.ifT (q := 249) X0 C at_234 (by decide) (by decide) (by decide : W.cT .eq (0 : Int32) 0) ?_
  refine W.iload (q := 251) X0 C at_249 rfl rfl ?_
  refine W.ifF (q := 254) X0 C at_251 rfl (by decide : W.cF .eq (1 : Int32) 0) ?_
  refine W.dload (q := 256) X0 C at_254 rfl rfl ?_
  refine W.iload (q := 258) X0 C at_256 rfl rfl ?_
  refine W.i2d (q := 259) (v := 4611686018427387904) X0 C at_258 (by decide +kernel) rfl ?_
  refine W.ldcD (q := 262) X0 C (W.ww hw 21 rfl) at_259 rfl ?_
  refine W.ddiv (q := 263) (v := 4604180019048437077) X0 C at_262 (by decide +kernel) (by decide +kernel) rfl ?_
  refine W.dadd (q := 264) (v := 4610184818551597738) X0 C at_263 (by decide +kernel) (by decide +kernel) rfl ?_
  refine W.dstore (q := 266) (L' := #[.val (.int p0), .val (.int p1), .val (.int p2), .val (.int p3), .val (.int p4), .val (.int nn), .val (.int mm), .val (.ref ra), .val (.ref ia), .val (.double (own_div (own_tab true false true false) mm)), .second, .val (.int (1 : Int32)), .val (.int (0 : Int32)), .val (.int (1 : Int32)), .val (.int (0 : Int32)), .val (.int (1 : Int32)), .val (.int (1 : Int32)), .val (.int (2 : Int32)), .val (.int (2 : Int32)), .val (.double (4610184818551597738 : UInt64)), .second, .unset, .unset]) X0 C at_264 rfl rfl ?_
  refine W.iload (q := 268) X0 C at_266 rfl rfl ?_
  refine W.ifT (q := 283) X0 C at_268 (by decide) (by decide) (by decide : W.cT .eq (0 : Int32) 0) ?_
  refine W.iload (q := 285) X0 C at_283 rfl rfl ?_
  refine W.if_ (q := 292) (q' := 288) X0 C at_285 (by decide) (by decide) rfl (fun hc172 => ?_) (fun hc172 => ?_)
  · replace hc172 : mm ≠ 0 := hc172
    refine W.dload (q := 294) X0 C at_292 rfl rfl ?_
    refine W.iload (q := 296) X0 C at_294 rfl rfl ?_
    refine W.i2d (q := 297) (v := FP.i2d mm) X0 C at_296 rfl rfl ?_
    refine W.ddiv (q := 298) (v := FP.ddiv (4610184818551597738 : UInt64) (FP.i2d mm)) X0 C at_297 (own_nn true false true false mm hc172 hm.1 hm.2) rfl rfl ?_
    refine W.dstore (q := 300) (L' := #[.val (.int p0), .val (.int p1), .val (.int p2), .val (.int p3), .val (.int p4), .val (.int nn), .val (.int mm), .val (.ref ra), .val (.ref ia), .val (.double (own_div (own_tab true false true false) mm)), .second, .val (.int (1 : Int32)), .val (.int (0 : Int32)), .val (.int (1 : Int32)), .val (.int (0 : Int32)), .val (.int (1 : Int32)), .val (.int (1 : Int32)), .val (.int (2 : Int32)), .val (.int (2 : Int32)), .val (.double (4610184818551597738 : UInt64)), .second, .val (.double (FP.ddiv (4610184818551597738 : UInt64) (FP.i2d mm))), .second]) X0 C at_298 rfl rfl ?_
    refine W.dload (q := 302) X0 C at_300 rfl rfl ?_
    refine W.dload (q := 304) X0 C at_302 rfl rfl ?_
    refine W.dcmp (q := 305) (v := 0) X0 C at_304 (by rw [own_div, if_neg hc172]; exact dcmpV_self (own_nn true false true false mm hc172 hm.1 hm.2) _) rfl ?_
    refine W.ifF (q := 308) X0 C at_305 rfl (by decide : W.cF .ne (0 : Int32) 0) ?_
    refine W.iconst (q := 309) (v := 1) X0 C at_308 rfl rfl ?_
    refine W.goto (q := 313) X0 C at_309 (by decide) (by decide) ?_
    exact W.retN X0 C (by simp) e0 at_313 rfl (by decide) hsl ⟨rfl, N0⟩
  · replace hc172 : mm = 0 := hc172
    refine W.dconst0 (q := 289) (v := 0) X0 C at_288 rfl rfl ?_
    refine W.goto (q := 298) X0 C at_289 (by decide) (by decide) ?_
    refine W.dstore (q := 300) (L' := #[.val (.int p0), .val (.int p1), .val (.int p2), .val (.int p3), .val (.int p4), .val (.int nn), .val (.int mm), .val (.ref ra), .val (.ref ia), .val (.double (own_div (own_tab true false true false) mm)), .second, .val (.int (1 : Int32)), .val (.int (0 : Int32)), .val (.int (1 : Int32)), .val (.int (0 : Int32)), .val (.int (1 : Int32)), .val (.int (1 : Int32)), .val (.int (2 : Int32)), .val (.int (2 : Int32)), .val (.double (4610184818551597738 : UInt64)), .second, .val (.double (0 : UInt64)), .second]) X0 C at_298 rfl rfl ?_
    refine W.dload (q := 302) X0 C at_300 rfl rfl ?_
    refine W.dload (q := 304) X0 C at_302 rfl rfl ?_
    refine W.dcmp (q := 305) (v := 0) X0 C at_304 (by rw [own_div, if_pos hc172]; decide +kernel) rfl ?_
    refine W.ifF (q := 308) X0 C at_305 rfl (by decide : W.cF .ne (0 : Int32) 0) ?_
    refine W.iconst (q := 309) (v := 1) X0 C at_308 rfl rfl ?_
    refine W.goto (q := 313) X0 C at_309 (by decide) (by decide) ?_
    exact W.retN X0 C (by simp) e0 at_313 rfl (by decide) hsl ⟨rfl, N0⟩
set_option maxRecDepth 65536 in
set_option maxHeartbeats 40000000 in
theorem own_t1011 (l : Launch) (Z : State) (a0 : Array Value) (hw : ∀ d ∈ tables_1, d.before a0 Z = true) (h0 : Heap) (n0 : Nat) (p0 p1 p2 p3 p4 nn mm : Int32) (ra ia : Addr) (sl : Nat) {p : Program} {e : Env} {s : State} {m : MethodId} {args : Array Value} {below : List Frame} {meth : Method} {c : Code} {T0 : State} {locs : List Loc}
    (C : W.Cx p s m meth c Z code 23 "com/example/cranfield/cranfield/measures/RankedQueryAveragePrecisionPinLaw" "law" (some .boolean)) (X0 : Stand p l e room_1 s m args below meth c T0 locs 3 sl) (e0 : T0.heap = h0) (N0 : Fr n0 locs) (hm : 0 ≤ mm.toInt ∧ mm.toInt ≤ 7) (hsl : sl ≤ 128) :
    W.Go p e below (W.Post s (fun v h L => v = some (.int 1) ∧ Fr n0 L) room_1.cells room_1.slots) (T0.setTop (mkF m 157 #[.val (.int p0), .val (.int p1), .val (.int p2), .val (.int p3), .val (.int p4), .val (.int nn), .val (.int mm), .val (.ref ra), .val (.ref ia), .val (.double (own_div (own_tab true false true true) mm)), .second, .val (.int (1 : Int32)), .val (.int (0 : Int32)), .val (.int (1 : Int32)), .val (.int (1 : Int32)), .unset, .unset, .unset, .unset, .unset, .unset, .unset, .unset] [])) := by
  refine W.iload (q := 159) X0 C at_157 rfl rfl ?_
  refine W.ifF (q := 162) X0 C at_159 rfl (by decide : W.cF .eq (1 : Int32) 0) ?_
  refine W.iconst (q := 163) (v := 1) X0 C at_162 rfl rfl ?_
  refine W.goto (q := 167) X0 C at_163 (by decide) (by decide) ?_
  refine W.istore (q := 169) (L' := #[.val (.int p0), .val (.int p1), .val (.int p2), .val (.int p3), .val (.int p4), .val (.int nn), .val (.int mm), .val (.ref ra), .val (.ref ia), .val (.double (own_div (own_tab true false true true) mm)), .second, .val (.int (1 : Int32)), .val (.int (0 : Int32)), .val (.int (1 : Int32)), .val (.int (1 : Int32)), .val (.int (1 : Int32)), .unset, .unset, .unset, .unset, .unset, .unset, .unset]) X0 C at_167 rfl rfl ?_
  refine W.iload (q := 171) X0 C at_169 rfl rfl ?_
  refine W.iload (q := 173) X0 C at_171 rfl rfl ?_
  refine W.ifT (q := 180) X0 C at_173 (by decide) (by decide) (by decide : W.cT .eq (0 : Int32) 0) ?_
  refine W.iconst (q := 181) (v := 0) X0 C at_180 rfl rfl ?_
  refine W.iadd (q := 182) X0 C at_181 rfl ?_
  rw [show ((1 : Int32) + (0 : Int32)) = (1 : Int32) by decide]
  refine W.istore (q := 184) (L' := #[.val (.int p0), .val (.int p1), .val (.int p2), .val (.int p3), .val (.int p4), .val (.int nn), .val (.int mm), .val (.ref ra), .val (.ref ia), .val (.double (own_div (own_tab true false true true) mm)), .second, .val (.int (1 : Int32)), .val (.int (0 : Int32)), .val (.int (1 : Int32)), .val (.int (1 : Int32)), .val (.int (1 : Int32)), .val (.int (1 : Int32)), .unset, .unset, .unset, .unset, .unset, .unset]) X0 C at_182 rfl rfl ?_
  refine W.iload (q := 186) X0 C at_184 rfl rfl ?_
  refine W.iload (q := 188) X0 C at_186 rfl rfl ?_
  refine W.ifF (q := 191) X0 C at_188 rfl (by decide : W.cF .eq (1 : Int32) 0) ?_
  refine W.iconst (q := 192) (v := 1) X0 C at_191 rfl rfl ?_
  refine W.goto (q := 196) X0 C at_192 (by decide) (by decide) ?_
  refine W.iadd (q := 197) X0 C at_196 rfl ?_
  rw [show ((1 : Int32) + (1 : Int32)) = (2 : Int32) by decide]
  refine W.istore (q := 199) (L' := #[.val (.int p0), .val (.int p1), .val (.int p2), .val (.int p3), .val (.int p4), .val (.int nn), .val (.int mm), .val (.ref ra), .val (.ref ia), .val (.double (own_div (own_tab true false true true) mm)), .second, .val (.int (1 : Int32)), .val (.int (0 : Int32)), .val (.int (1 : Int32)), .val (.int (1 : Int32)), .val (.int (1 : Int32)), .val (.int (1 : Int32)), .val (.int (2 : Int32)), .unset, .unset, .unset, .unset, .unset]) X0 C at_197 rfl rfl ?_
  refine W.iload (q := 201) X0 C at_199 rfl rfl ?_
  refine W.iload (q := 203) X0 C at_201 rfl rfl ?_
  refine W.ifF (q := 206) X0 C at_203 rfl (by decide : W.cF .eq (1 : Int32) 0) ?_
  refine W.iconst (q := 207) (v := 1) X0 C at_206 rfl rfl ?_
  refine W.goto (q := 211) X0 C at_207 (by decide) (by decide) ?_
  refine W.iadd (q := 212) X0 C at_211 rfl ?_
  rw [show ((2 : Int32) + (1 : Int32)) = (3 : Int32) by decide]
  refine W.istore (q := 214) (L' := #[.val (.int p0), .val (.int p1), .val (.int p2), .val (.int p3), .val (.int p4), .val (.int nn), .val (.int mm), .val (.ref ra), .val (.ref ia), .val (.double (own_div (own_tab true false true true) mm)), .second, .val (.int (1 : Int32)), .val (.int (0 : Int32)), .val (.int (1 : Int32)), .val (.int (1 : Int32)), .val (.int (1 : Int32)), .val (.int (1 : Int32)), .val (.int (2 : Int32)), .val (.int (3 : Int32)), .unset, .unset, .unset, .unset]) X0 C at_212 rfl rfl ?_
  refine W.dconst0 (q := 215) (v := 0) X0 C at_214 rfl rfl ?_
  refine W.dstore (q := 217) (L' := #[.val (.int p0), .val (.int p1), .val (.int p2), .val (.int p3), .val (.int p4), .val (.int nn), .val (.int mm), .val (.ref ra), .val (.ref ia), .val (.double (own_div (own_tab true false true true) mm)), .second, .val (.int (1 : Int32)), .val (.int (0 : Int32)), .val (.int (1 : Int32)), .val (.int (1 : Int32)), .val (.int (1 : Int32)), .val (.int (1 : Int32)), .val (.int (2 : Int32)), .val (.int (3 : Int32)), .val (.double (0 : UInt64)), .second, .unset, .unset]) X0 C at_215 rfl rfl ?_
  refine W.iload (q := 219) X0 C at_217 rfl rfl ?_
  refine W.ifF (q := 222) X0 C at_219 rfl (by decide : W.cF .eq (1 : Int32) 0) ?_
  refine W.dload (q := 224) X0 C at_222 rfl rfl ?_
  refine W.iload (q := 226) X0 C at_224 rfl rfl ?_
  refine W.i2d (q := 227) (v := 4607182418800017408) X0 C at_226 (by decide +kernel) rfl ?_
  refine W.dconst1 (q := 228) (v := 4607182418800017408) X0 C at_227 rfl rfl ?_
  refine W.ddiv (q := 229) (v := 4607182418800017408) X0 C at_228 (by decide +kernel) (by decide +kernel) rfl ?_
  refine W.dadd (q := 230) (v := 4607182418800017408) X0 C at_229 (by decide +kernel) (by decide +kernel) rfl ?_
  refine W.dstore (q := 232) (L' := #[.val (.int p0), .val (.int p1), .val (.int p2), .val (.int p3), .val (.int p4), .val (.int nn), .val (.int mm), .val (.ref ra), .val (.ref ia), .val (.double (own_div (own_tab true false true true) mm)), .second, .val (.int (1 : Int32)), .val (.int (0 : Int32)), .val (.int (1 : Int32)), .val (.int (1 : Int32)), .val (.int (1 : Int32)), .val (.int (1 : Int32)), .val (.int (2 : Int32)), .val (.int (3 : Int32)), .val (.double (4607182418800017408 : UInt64)), .second, .unset, .unset]) X0 C at_230 rfl rfl ?_
  refine W.iload (q := 234) X0 C at_232 rfl rfl ?_
  refine W.ifT (q := 249) X0 C at_234 (by decide) (by decide) (by decide : W.cT .eq (0 : Int32) 0) ?_
  refine W.iload (q := 251) X0 C at_249 rfl rfl ?_
  refine W.ifF (q := 254) X0 C at_251 rfl (by decide : W.cF .eq (1 : Int32) 0) ?_
  refine W.dload (q := 256) X0 C at_254 rfl rfl ?_
  refine W.iload (q := 258) X0 C at_256 rfl rfl ?_
  refine W.i2d (q := 259) (v := 4611686018427387904) X0 C at_258 (by decide +kernel) rfl ?_
  refine W.ldcD (q := 262) X0 C (W.ww hw 21 rfl) at_259 rfl ?_
  refine W.ddiv (q := 263) (v := 4604180019048437077) X0 C at_262 (by decide +kernel) (by decide +kernel) rfl ?_
  refine W.dadd (q := 264) (v := 4610184818551597738) X0 C at_263 (by decide +kernel) (by decide +kernel) rfl ?_
  refine W.dstore (q := 266) (L' := #[.val (.int p0), .val (.int p1), .val (.int p2), .val (.int p3), .val (.int p4), .val (.int nn), .val (.int mm), .val (.ref ra), .val (.ref ia), .val (.double (own_div (own_tab true false true true) mm)), .second, .val (.int (1 : Int32)), .val (.int (0 : Int32)), .val (.int (1 : Int32)), .val (.int (1 : Int32)), .val (.int (1 : Int32)), .val (.int (1 : Int32)), .val (.int (2 : Int32)), .val (.int (3 : Int32)), .val (.double (4610184818551597738 : UInt64)), .second, .unset, .unset]) X0 C at_264 rfl rfl ?_
  refine W.iload (q := 268) X0 C at_266 rfl rfl ?_
  refine W.ifF (q := 271) X0 C at_268 rfl (by decide : W.cF .eq (1 : Int32) 0) ?_
  refine W.dload (q := 273) X0 C at_271 rfl rfl ?_
  refine W.iload (q := 275) X0 C at_273 rfl rfl ?_
  refine W.i2d (q := 276) (v := 4613937818241073152) X0 C at_275 (by decide +kernel) rfl ?_
  refine W.ldcD (q := 279) X0 C (W.ww hw 22 rfl) at_276 rfl ?_
  refine W.ddiv (q := 280) (v := 4604930618986332160) X0 C at_279 (by decide +kernel) (by decide +kernel) rfl ?_
  refine W.dadd (q := 281) (v := 4612624268349756757) X0 C at_280 (by decide +kernel) (by decide +kernel) rfl ?_
  refine W.dstore (q := 283) (L' := #[.val (.int p0), .val (.int p1), .val (.int p2), .val (.int p3), .val (.int p4), .val (.int nn), .val (.int mm), .val (.ref ra), .val (.ref ia), .val (.double (own_div (own_tab true false true true) mm)), .second, .val (.int (1 : Int32)), .val (.int (0 : Int32)), .val (.int (1 : Int32)), .val (.int (1 : Int32)), .val (.int (1 : Int32)), .val (.int (1 : Int32)), .val (.int (2 : Int32)), .val (.int (3 : Int32)), .val (.double (4612624268349756757 : UInt64)), .second, .unset, .unset]) X0 C at_281 rfl rfl ?_
  refine W.iload (q := 285) X0 C at_283 rfl rfl ?_
  refine W.if_ (q := 292) (q' := 288) X0 C at_285 (by decide) (by decide) rfl (fun hc173 => ?_) (fun hc173 => ?_)
  · replace hc173 : mm ≠ 0 := hc173
    refine W.dload (q := 294) X0 C at_292 rfl rfl ?_
    refine W.iload (q := 296) X0 C at_294 rfl rfl ?_
    refine W.i2d (q := 297) (v := FP.i2d mm) X0 C at_296 rfl rfl ?_
    refine W.ddiv (q := 298) (v := FP.ddiv (4612624268349756757 : UInt64) (FP.i2d mm)) X0 C at_297 (own_nn true false true true mm hc173 hm.1 hm.2) rfl rfl ?_
    refine W.dstore (q := 300) (L' := #[.val (.int p0), .val (.int p1), .val (.int p2), .val (.int p3), .val (.int p4), .val (.int nn), .val (.int mm), .val (.ref ra), .val (.ref ia), .val (.double (own_div (own_tab true false true true) mm)), .second, .val (.int (1 : Int32)), .val (.int (0 : Int32)), .val (.int (1 : Int32)), .val (.int (1 : Int32)), .val (.int (1 : Int32)), .val (.int (1 : Int32)), .val (.int (2 : Int32)), .val (.int (3 : Int32)), .val (.double (4612624268349756757 : UInt64)), .second, .val (.double (FP.ddiv (4612624268349756757 : UInt64) (FP.i2d mm))), .second]) X0 C at_298 rfl rfl ?_
    refine W.dload (q := 302) X0 C at_300 rfl rfl ?_
    refine W.dload (q := 304) X0 C at_302 rfl rfl ?_
    refine W.dcmp (q := 305) (v := 0) X0 C at_304 (by rw [own_div, if_neg hc173]; exact dcmpV_self (own_nn true false true true mm hc173 hm.1 hm.2) _) rfl ?_
    refine W.ifF (q := 308) X0 C at_305 rfl (by decide : W.cF .ne (0 : Int32) 0) ?_
    refine W.iconst (q := 309) (v := 1) X0 C at_308 rfl rfl ?_
    refine W.goto (q := 313) X0 C at_309 (by decide) (by decide) ?_
    exact W.retN X0 C (by simp) e0 at_313 rfl (by decide) hsl ⟨rfl, N0⟩
  · replace hc173 : mm = 0 := hc173
    refine W.dconst0 (q := 289) (v := 0) X0 C at_288 rfl rfl ?_
    refine W.goto (q := 298) X0 C at_289 (by decide) (by decide) ?_
    refine W.dstore (q := 300) (L' := #[.val (.int p0), .val (.int p1), .val (.int p2), .val (.int p3), .val (.int p4), .val (.int nn), .val (.int mm), .val (.ref ra), .val (.ref ia), .val (.double (own_div (own_tab true false true true) mm)), .second, .val (.int (1 : Int32)), .val (.int (0 : Int32)), .val (.int (1 : Int32)), .val (.int (1 : Int32)), .val (.int (1 : Int32)), .val (.int (1 : Int32)), .val (.int (2 : Int32)), .val (.int (3 : Int32)), .val (.double (4612624268349756757 : UInt64)), .second, .val (.double (0 : UInt64)), .second]) X0 C at_298 rfl rfl ?_
    refine W.dload (q := 302) X0 C at_300 rfl rfl ?_
    refine W.dload (q := 304) X0 C at_302 rfl rfl ?_
    refine W.dcmp (q := 305) (v := 0) X0 C at_304 (by rw [own_div, if_pos hc173]; decide +kernel) rfl ?_
    refine W.ifF (q := 308) X0 C at_305 rfl (by decide : W.cF .ne (0 : Int32) 0) ?_
    refine W.iconst (q := 309) (v := 1) X0 C at_308 rfl rfl ?_
    refine W.goto (q := 313) X0 C at_309 (by decide) (by decide) ?_
    exact W.retN X0 C (by simp) e0 at_313 rfl (by decide) hsl ⟨rfl, N0⟩
set_option maxRecDepth 65536 in
set_option maxHeartbeats 40000000 in
theorem own_t1100 (l : Launch) (Z : State) (a0 : Array Value) (hw : ∀ d ∈ tables_1, d.before a0 Z = true) (h0 : Heap) (n0 : Nat) (p0 p1 p2 p3 p4 nn mm : Int32) (ra ia : Addr) (sl : Nat) {p : Program} {e : Env} {s : State} {m : MethodId} {args : Array Value} {below : List Frame} {meth : Method} {c : Code} {T0 : State} {locs : List Loc}
    (C : W.Cx p s m meth c Z code 23 "com/example/cranfield/cranfield/measures/RankedQueryAveragePrecisionPinLaw" "law" (some .boolean)) (X0 : Stand p l e room_1 s m args below meth c T0 locs 3 sl) (e0 : T0.heap = h0) (N0 : Fr n0 locs) (hm : 0 ≤ mm.toInt ∧ mm.toInt ≤ 7) (hsl : sl ≤ 128) :
    W.Go p e below (W.Post s (fun v h L => v = some (.int 1) ∧ Fr n0 L) room_1.cells room_1.slots) (T0.setTop (mkF m 157 #[.val (.int p0), .val (.int p1), .val (.int p2), .val (.int p3), .val (.int p4), .val (.int nn), .val (.int mm), .val (.ref ra), .val (.ref ia), .val (.double (own_div (own_tab true true false false) mm)), .second, .val (.int (1 : Int32)), .val (.int (1 : Int32)), .val (.int (0 : Int32)), .val (.int (0 : Int32)), .unset, .unset, .unset, .unset, .unset, .unset, .unset, .unset] [])) := by
  refine W.iload (q := 159) X0 C at_157 rfl rfl ?_
  refine W.ifF (q := 162) X0 C at_159 rfl (by decide : W.cF .eq (1 : Int32) 0) ?_
  refine W.iconst (q := 163) (v := 1) X0 C at_162 rfl rfl ?_
  refine W.goto (q := 167) X0 C at_163 (by decide) (by decide) ?_
  refine W.istore (q := 169) (L' := #[.val (.int p0), .val (.int p1), .val (.int p2), .val (.int p3), .val (.int p4), .val (.int nn), .val (.int mm), .val (.ref ra), .val (.ref ia), .val (.double (own_div (own_tab true true false false) mm)), .second, .val (.int (1 : Int32)), .val (.int (1 : Int32)), .val (.int (0 : Int32)), .val (.int (0 : Int32)), .val (.int (1 : Int32)), .unset, .unset, .unset, .unset, .unset, .unset, .unset]) X0 C at_167 rfl rfl ?_
  refine W.iload (q := 171) X0 C at_169 rfl rfl ?_
  refine W.iload (q := 173) X0 C at_171 rfl rfl ?_
  refine W.ifF (q := 176) X0 C at_173 rfl (by decide : W.cF .eq (1 : Int32) 0) ?_
  refine W.iconst (q := 177) (v := 1) X0 C at_176 rfl rfl ?_
  refine W.goto (q := 181) X0 C at_177 (by decide) (by decide) ?_
  refine W.iadd (q := 182) X0 C at_181 rfl ?_
  rw [show ((1 : Int32) + (1 : Int32)) = (2 : Int32) by decide]
  refine W.istore (q := 184) (L' := #[.val (.int p0), .val (.int p1), .val (.int p2), .val (.int p3), .val (.int p4), .val (.int nn), .val (.int mm), .val (.ref ra), .val (.ref ia), .val (.double (own_div (own_tab true true false false) mm)), .second, .val (.int (1 : Int32)), .val (.int (1 : Int32)), .val (.int (0 : Int32)), .val (.int (0 : Int32)), .val (.int (1 : Int32)), .val (.int (2 : Int32)), .unset, .unset, .unset, .unset, .unset, .unset]) X0 C at_182 rfl rfl ?_
  refine W.iload (q := 186) X0 C at_184 rfl rfl ?_
  refine W.iload (q := 188) X0 C at_186 rfl rfl ?_
  refine W.ifT (q := 195) X0 C at_188 (by decide) (by decide) (by decide : W.cT .eq (0 : Int32) 0) ?_
  refine W.iconst (q := 196) (v := 0) X0 C at_195 rfl rfl ?_
  refine W.iadd (q := 197) X0 C at_196 rfl ?_
  rw [show ((2 : Int32) + (0 : Int32)) = (2 : Int32) by decide]
  refine W.istore (q := 199) (L' := #[.val (.int p0), .val (.int p1), .val (.int p2), .val (.int p3), .val (.int p4), .val (.int nn), .val (.int mm), .val (.ref ra), .val (.ref ia), .val (.double (own_div (own_tab true true false false) mm)), .second, .val (.int (1 : Int32)), .val (.int (1 : Int32)), .val (.int (0 : Int32)), .val (.int (0 : Int32)), .val (.int (1 : Int32)), .val (.int (2 : Int32)), .val (.int (2 : Int32)), .unset, .unset, .unset, .unset, .unset]) X0 C at_197 rfl rfl ?_
  refine W.iload (q := 201) X0 C at_199 rfl rfl ?_
  refine W.iload (q := 203) X0 C at_201 rfl rfl ?_
  refine W.ifT (q := 210) X0 C at_203 (by decide) (by decide) (by decide : W.cT .eq (0 : Int32) 0) ?_
  refine W.iconst (q := 211) (v := 0) X0 C at_210 rfl rfl ?_
  refine W.iadd (q := 212) X0 C at_211 rfl ?_
  rw [show ((2 : Int32) + (0 : Int32)) = (2 : Int32) by decide]
  refine W.istore (q := 214) (L' := #[.val (.int p0), .val (.int p1), .val (.int p2), .val (.int p3), .val (.int p4), .val (.int nn), .val (.int mm), .val (.ref ra), .val (.ref ia), .val (.double (own_div (own_tab true true false false) mm)), .second, .val (.int (1 : Int32)), .val (.int (1 : Int32)), .val (.int (0 : Int32)), .val (.int (0 : Int32)), .val (.int (1 : Int32)), .val (.int (2 : Int32)), .val (.int (2 : Int32)), .val (.int (2 : Int32)), .unset, .unset, .unset, .unset]) X0 C at_212 rfl rfl ?_
  refine W.dconst0 (q := 215) (v := 0) X0 C at_214 rfl rfl ?_
  refine W.dstore (q := 217) (L' := #[.val (.int p0), .val (.int p1), .val (.int p2), .val (.int p3), .val (.int p4), .val (.int nn), .val (.int mm), .val (.ref ra), .val (.ref ia), .val (.double (own_div (own_tab true true false false) mm)), .second, .val (.int (1 : Int32)), .val (.int (1 : Int32)), .val (.int (0 : Int32)), .val (.int (0 : Int32)), .val (.int (1 : Int32)), .val (.int (2 : Int32)), .val (.int (2 : Int32)), .val (.int (2 : Int32)), .val (.double (0 : UInt64)), .second, .unset, .unset]) X0 C at_215 rfl rfl ?_
  refine W.iload (q := 219) X0 C at_217 rfl rfl ?_
  refine W.ifF (q := 222) X0 C at_219 rfl (by decide : W.cF .eq (1 : Int32) 0) ?_
  refine W.dload (q := 224) X0 C at_222 rfl rfl ?_
  refine W.iload (q := 226) X0 C at_224 rfl rfl ?_
  refine W.i2d (q := 227) (v := 4607182418800017408) X0 C at_226 (by decide +kernel) rfl ?_
  refine W.dconst1 (q := 228) (v := 4607182418800017408) X0 C at_227 rfl rfl ?_
  refine W.ddiv (q := 229) (v := 4607182418800017408) X0 C at_228 (by decide +kernel) (by decide +kernel) rfl ?_
  refine W.dadd (q := 230) (v := 4607182418800017408) X0 C at_229 (by decide +kernel) (by decide +kernel) rfl ?_
  refine W.dstore (q := 232) (L' := #[.val (.int p0), .val (.int p1), .val (.int p2), .val (.int p3), .val (.int p4), .val (.int nn), .val (.int mm), .val (.ref ra), .val (.ref ia), .val (.double (own_div (own_tab true true false false) mm)), .second, .val (.int (1 : Int32)), .val (.int (1 : Int32)), .val (.int (0 : Int32)), .val (.int (0 : Int32)), .val (.int (1 : Int32)), .val (.int (2 : Int32)), .val (.int (2 : Int32)), .val (.int (2 : Int32)), .val (.double (4607182418800017408 : UInt64)), .second, .unset, .unset]) X0 C at_230 rfl rfl ?_
  refine W.iload (q := 234) X0 C at_232 rfl rfl ?_
  refine W.ifF (q := 237) X0 C at_234 rfl (by decide : W.cF .eq (1 : Int32) 0) ?_
  refine W.dload (q := 239) X0 C at_237 rfl rfl ?_
  refine W.iload (q := 241) X0 C at_239 rfl rfl ?_
  refine W.i2d (q := 242) (v := 4611686018427387904) X0 C at_241 (by decide +kernel) rfl ?_
  refine W.ldcD (q := 245) X0 C (W.ww hw 20 rfl) at_242 rfl ?_
  refine W.ddiv (q := 246) (v := 4607182418800017408) X0 C at_245 (by decide +kernel) (by decide +kernel) rfl ?_
  refine W.dadd (q := 247) (v := 4611686018427387904) X0 C at_246 (by decide +kernel) (by decide +kernel) rfl ?_
  refine W.dstore (q := 249) (L' := #[.val (.int p0), .val (.int p1), .val (.int p2), .val (.int p3), .val (.int p4), .val (.int nn), .val (.int mm), .val (.ref ra), .val (.ref ia), .val (.double (own_div (own_tab true true false false) mm)), .second, .val (.int (1 : Int32)), .val (.int (1 : Int32)), .val (.int (0 : Int32)), .val (.int (0 : Int32)), .val (.int (1 : Int32)), .val (.int (2 : Int32)), .val (.int (2 : Int32)), .val (.int (2 : Int32)), .val (.double (4611686018427387904 : UInt64)), .second, .unset, .unset]) X0 C at_247 rfl rfl ?_
  refine W.iload (q := 251) X0 C at_249 rfl rfl ?_
  refine W.ifT (q := 266) X0 C at_251 (by decide) (by decide) (by decide : W.cT .eq (0 : Int32) 0) ?_
  refine W.iload (q := 268) X0 C at_266 rfl rfl ?_
  refine W.ifT (q := 283) X0 C at_268 (by decide) (by decide) (by decide : W.cT .eq (0 : Int32) 0) ?_
  refine W.iload (q := 285) X0 C at_283 rfl rfl ?_
  refine W.if_ (q := 292) (q' := 288) X0 C at_285 (by decide) (by decide) rfl (fun hc174 => ?_) (fun hc174 => ?_)
  · replace hc174 : mm ≠ 0 := hc174
    refine W.dload (q := 294) X0 C at_292 rfl rfl ?_
    refine W.iload (q := 296) X0 C at_294 rfl rfl ?_
    refine W.i2d (q := 297) (v := FP.i2d mm) X0 C at_296 rfl rfl ?_
    refine W.ddiv (q := 298) (v := FP.ddiv (4611686018427387904 : UInt64) (FP.i2d mm)) X0 C at_297 (own_nn true true false false mm hc174 hm.1 hm.2) rfl rfl ?_
    refine W.dstore (q := 300) (L' := #[.val (.int p0), .val (.int p1), .val (.int p2), .val (.int p3), .val (.int p4), .val (.int nn), .val (.int mm), .val (.ref ra), .val (.ref ia), .val (.double (own_div (own_tab true true false false) mm)), .second, .val (.int (1 : Int32)), .val (.int (1 : Int32)), .val (.int (0 : Int32)), .val (.int (0 : Int32)), .val (.int (1 : Int32)), .val (.int (2 : Int32)), .val (.int (2 : Int32)), .val (.int (2 : Int32)), .val (.double (4611686018427387904 : UInt64)), .second, .val (.double (FP.ddiv (4611686018427387904 : UInt64) (FP.i2d mm))), .second]) X0 C at_298 rfl rfl ?_
    refine W.dload (q := 302) X0 C at_300 rfl rfl ?_
    refine W.dload (q := 304) X0 C at_302 rfl rfl ?_
    refine W.dcmp (q := 305) (v := 0) X0 C at_304 (by rw [own_div, if_neg hc174]; exact dcmpV_self (own_nn true true false false mm hc174 hm.1 hm.2) _) rfl ?_
    refine W.ifF (q := 308) X0 C at_305 rfl (by decide : W.cF .ne (0 : Int32) 0) ?_
    refine W.iconst (q := 309) (v := 1) X0 C at_308 rfl rfl ?_
    refine W.goto (q := 313) X0 C at_309 (by decide) (by decide) ?_
    exact W.retN X0 C (by simp) e0 at_313 rfl (by decide) hsl ⟨rfl, N0⟩
  · replace hc174 : mm = 0 := hc174
    refine W.dconst0 (q := 289) (v := 0) X0 C at_288 rfl rfl ?_
    refine W.goto (q := 298) X0 C at_289 (by decide) (by decide) ?_
    refine W.dstore (q := 300) (L' := #[.val (.int p0), .val (.int p1), .val (.int p2), .val (.int p3), .val (.int p4), .val (.int nn), .val (.int mm), .val (.ref ra), .val (.ref ia), .val (.double (own_div (own_tab true true false false) mm)), .second, .val (.int (1 : Int32)), .val (.int (1 : Int32)), .val (.int (0 : Int32)), .val (.int (0 : Int32)), .val (.int (1 : Int32)), .val (.int (2 : Int32)), .val (.int (2 : Int32)), .val (.int (2 : Int32)), .val (.double (4611686018427387904 : UInt64)), .second, .val (.double (0 : UInt64)), .second]) X0 C at_298 rfl rfl ?_
    refine W.dload (q := 302) X0 C at_300 rfl rfl ?_
    refine W.dload (q := 304) X0 C at_302 rfl rfl ?_
    refine W.dcmp (q := 305) (v := 0) X0 C at_304 (by rw [own_div, if_pos hc174]; decide +kernel) rfl ?_
    refine W.ifF (q := 308) X0 C at_305 rfl (by decide : W.cF .ne (0 : Int32) 0) ?_
    refine W.iconst (q := 309) (v := 1) X0 C at_308 rfl rfl ?_
    refine W.goto (q := 313) X0 C at_309 (by decide) (by decide) ?_
    exact W.retN X0 C (by simp) e0 at_313 rfl (by decide) hsl ⟨rfl, N0⟩
set_option maxRecDepth 65536 in
set_option maxHeartbeats 40000000 in
theorem own_t1101 (l : Launch) (Z : State) (a0 : Array Value) (hw : ∀ d ∈ tables_1, d.before a0 Z = true) (h0 : Heap) (n0 : Nat) (p0 p1 p2 p3 p4 nn mm : Int32) (ra ia : Addr) (sl : Nat) {p : Program} {e : Env} {s : State} {m : MethodId} {args : Array Value} {below : List Frame} {meth : Method} {c : Code} {T0 : State} {locs : List Loc}
    (C : W.Cx p s m meth c Z code 23 "com/example/cranfield/cranfield/measures/RankedQueryAveragePrecisionPinLaw" "law" (some .boolean)) (X0 : Stand p l e room_1 s m args below meth c T0 locs 3 sl) (e0 : T0.heap = h0) (N0 : Fr n0 locs) (hm : 0 ≤ mm.toInt ∧ mm.toInt ≤ 7) (hsl : sl ≤ 128) :
    W.Go p e below (W.Post s (fun v h L => v = some (.int 1) ∧ Fr n0 L) room_1.cells room_1.slots) (T0.setTop (mkF m 157 #[.val (.int p0), .val (.int p1), .val (.int p2), .val (.int p3), .val (.int p4), .val (.int nn), .val (.int mm), .val (.ref ra), .val (.ref ia), .val (.double (own_div (own_tab true true false true) mm)), .second, .val (.int (1 : Int32)), .val (.int (1 : Int32)), .val (.int (0 : Int32)), .val (.int (1 : Int32)), .unset, .unset, .unset, .unset, .unset, .unset, .unset, .unset] [])) := by
  refine W.iload (q := 159) X0 C at_157 rfl rfl ?_
  refine W.ifF (q := 162) X0 C at_159 rfl (by decide : W.cF .eq (1 : Int32) 0) ?_
  refine W.iconst (q := 163) (v := 1) X0 C at_162 rfl rfl ?_
  refine W.goto (q := 167) X0 C at_163 (by decide) (by decide) ?_
  refine W.istore (q := 169) (L' := #[.val (.int p0), .val (.int p1), .val (.int p2), .val (.int p3), .val (.int p4), .val (.int nn), .val (.int mm), .val (.ref ra), .val (.ref ia), .val (.double (own_div (own_tab true true false true) mm)), .second, .val (.int (1 : Int32)), .val (.int (1 : Int32)), .val (.int (0 : Int32)), .val (.int (1 : Int32)), .val (.int (1 : Int32)), .unset, .unset, .unset, .unset, .unset, .unset, .unset]) X0 C at_167 rfl rfl ?_
  refine W.iload (q := 171) X0 C at_169 rfl rfl ?_
  refine W.iload (q := 173) X0 C at_171 rfl rfl ?_
  refine W.ifF (q := 176) X0 C at_173 rfl (by decide : W.cF .eq (1 : Int32) 0) ?_
  refine W.iconst (q := 177) (v := 1) X0 C at_176 rfl rfl ?_
  refine W.goto (q := 181) X0 C at_177 (by decide) (by decide) ?_
  refine W.iadd (q := 182) X0 C at_181 rfl ?_
  rw [show ((1 : Int32) + (1 : Int32)) = (2 : Int32) by decide]
  refine W.istore (q := 184) (L' := #[.val (.int p0), .val (.int p1), .val (.int p2), .val (.int p3), .val (.int p4), .val (.int nn), .val (.int mm), .val (.ref ra), .val (.ref ia), .val (.double (own_div (own_tab true true false true) mm)), .second, .val (.int (1 : Int32)), .val (.int (1 : Int32)), .val (.int (0 : Int32)), .val (.int (1 : Int32)), .val (.int (1 : Int32)), .val (.int (2 : Int32)), .unset, .unset, .unset, .unset, .unset, .unset]) X0 C at_182 rfl rfl ?_
  refine W.iload (q := 186) X0 C at_184 rfl rfl ?_
  refine W.iload (q := 188) X0 C at_186 rfl rfl ?_
  refine W.ifT (q := 195) X0 C at_188 (by decide) (by decide) (by decide : W.cT .eq (0 : Int32) 0) ?_
  refine W.iconst (q := 196) (v := 0) X0 C at_195 rfl rfl ?_
  refine W.iadd (q := 197) X0 C at_196 rfl ?_
  rw [show ((2 : Int32) + (0 : Int32)) = (2 : Int32) by decide]
  refine W.istore (q := 199) (L' := #[.val (.int p0), .val (.int p1), .val (.int p2), .val (.int p3), .val (.int p4), .val (.int nn), .val (.int mm), .val (.ref ra), .val (.ref ia), .val (.double (own_div (own_tab true true false true) mm)), .second, .val (.int (1 : Int32)), .val (.int (1 : Int32)), .val (.int (0 : Int32)), .val (.int (1 : Int32)), .val (.int (1 : Int32)), .val (.int (2 : Int32)), .val (.int (2 : Int32)), .unset, .unset, .unset, .unset, .unset]) X0 C at_197 rfl rfl ?_
  refine W.iload (q := 201) X0 C at_199 rfl rfl ?_
  refine W.iload (q := 203) X0 C at_201 rfl rfl ?_
  refine W.ifF (q := 206) X0 C at_203 rfl (by decide : W.cF .eq (1 : Int32) 0) ?_
  refine W.iconst (q := 207) (v := 1) X0 C at_206 rfl rfl ?_
  refine W.goto (q := 211) X0 C at_207 (by decide) (by decide) ?_
  refine W.iadd (q := 212) X0 C at_211 rfl ?_
  rw [show ((2 : Int32) + (1 : Int32)) = (3 : Int32) by decide]
  refine W.istore (q := 214) (L' := #[.val (.int p0), .val (.int p1), .val (.int p2), .val (.int p3), .val (.int p4), .val (.int nn), .val (.int mm), .val (.ref ra), .val (.ref ia), .val (.double (own_div (own_tab true true false true) mm)), .second, .val (.int (1 : Int32)), .val (.int (1 : Int32)), .val (.int (0 : Int32)), .val (.int (1 : Int32)), .val (.int (1 : Int32)), .val (.int (2 : Int32)), .val (.int (2 : Int32)), .val (.int (3 : Int32)), .unset, .unset, .unset, .unset]) X0 C at_212 rfl rfl ?_
  refine W.dconst0 (q := 215) (v := 0) X0 C at_214 rfl rfl ?_
  refine W.dstore (q := 217) (L' := #[.val (.int p0), .val (.int p1), .val (.int p2), .val (.int p3), .val (.int p4), .val (.int nn), .val (.int mm), .val (.ref ra), .val (.ref ia), .val (.double (own_div (own_tab true true false true) mm)), .second, .val (.int (1 : Int32)), .val (.int (1 : Int32)), .val (.int (0 : Int32)), .val (.int (1 : Int32)), .val (.int (1 : Int32)), .val (.int (2 : Int32)), .val (.int (2 : Int32)), .val (.int (3 : Int32)), .val (.double (0 : UInt64)), .second, .unset, .unset]) X0 C at_215 rfl rfl ?_
  refine W.iload (q := 219) X0 C at_217 rfl rfl ?_
  refine W.ifF (q := 222) X0 C at_219 rfl (by decide : W.cF .eq (1 : Int32) 0) ?_
  refine W.dload (q := 224) X0 C at_222 rfl rfl ?_
  refine W.iload (q := 226) X0 C at_224 rfl rfl ?_
  refine W.i2d (q := 227) (v := 4607182418800017408) X0 C at_226 (by decide +kernel) rfl ?_
  refine W.dconst1 (q := 228) (v := 4607182418800017408) X0 C at_227 rfl rfl ?_
  refine W.ddiv (q := 229) (v := 4607182418800017408) X0 C at_228 (by decide +kernel) (by decide +kernel) rfl ?_
  refine W.dadd (q := 230) (v := 4607182418800017408) X0 C at_229 (by decide +kernel) (by decide +kernel) rfl ?_
  refine W.dstore (q := 232) (L' := #[.val (.int p0), .val (.int p1), .val (.int p2), .val (.int p3), .val (.int p4), .val (.int nn), .val (.int mm), .val (.ref ra), .val (.ref ia), .val (.double (own_div (own_tab true true false true) mm)), .second, .val (.int (1 : Int32)), .val (.int (1 : Int32)), .val (.int (0 : Int32)), .val (.int (1 : Int32)), .val (.int (1 : Int32)), .val (.int (2 : Int32)), .val (.int (2 : Int32)), .val (.int (3 : Int32)), .val (.double (4607182418800017408 : UInt64)), .second, .unset, .unset]) X0 C at_230 rfl rfl ?_
  refine W.iload (q := 234) X0 C at_232 rfl rfl ?_
  refine W.ifF (q := 237) X0 C at_234 rfl (by decide : W.cF .eq (1 : Int32) 0) ?_
  refine W.dload (q := 239) X0 C at_237 rfl rfl ?_
  refine W.iload (q := 241) X0 C at_239 rfl rfl ?_
  refine W.i2d (q := 242) (v := 4611686018427387904) X0 C at_241 (by decide +kernel) rfl ?_
  refine W.ldcD (q := 245) X0 C (W.ww hw 20 rfl) at_242 rfl ?_
  refine W.ddiv (q := 246) (v := 4607182418800017408) X0 C at_245 (by decide +kernel) (by decide +kernel) rfl ?_
  refine W.dadd (q := 247) (v := 4611686018427387904) X0 C at_246 (by decide +kernel) (by decide +kernel) rfl ?_
  refine W.dstore (q := 249) (L' := #[.val (.int p0), .val (.int p1), .val (.int p2), .val (.int p3), .val (.int p4), .val (.int nn), .val (.int mm), .val (.ref ra), .val (.ref ia), .val (.double (own_div (own_tab true true false true) mm)), .second, .val (.int (1 : Int32)), .val (.int (1 : Int32)), .val (.int (0 : Int32)), .val (.int (1 : Int32)), .val (.int (1 : Int32)), .val (.int (2 : Int32)), .val (.int (2 : Int32)), .val (.int (3 : Int32)), .val (.double (4611686018427387904 : UInt64)), .second, .unset, .unset]) X0 C at_247 rfl rfl ?_
  refine W.iload (q := 251) X0 C at_249 rfl rfl ?_
  refine W.ifT (q := 266) X0 C at_251 (by decide) (by decide) (by decide : W.cT .eq (0 : Int32) 0) ?_
  refine W.iload (q := 268) X0 C at_266 rfl rfl ?_
  refine W.ifF (q := 271) X0 C at_268 rfl (by decide : W.cF .eq (1 : Int32) 0) ?_
  refine W.dload (q := 273) X0 C at_271 rfl rfl ?_
  refine W.iload (q := 275) X0 C at_273 rfl rfl ?_
  refine W.i2d (q := 276) (v := 4613937818241073152) X0 C at_275 (by decide +kernel) rfl ?_
  refine W.ldcD (q := 279) X0 C (W.ww hw 22 rfl) at_276 rfl ?_
  refine W.ddiv (q := 280) (v := 4604930618986332160) X0 C at_279 (by decide +kernel) (by decide +kernel) rfl ?_
  refine W.dadd (q := 281) (v := 4613374868287651840) X0 C at_280 (by decide +kernel) (by decide +kernel) rfl ?_
  refine W.dstore (q := 283) (L' := #[.val (.int p0), .val (.int p1), .val (.int p2), .val (.int p3), .val (.int p4), .val (.int nn), .val (.int mm), .val (.ref ra), .val (.ref ia), .val (.double (own_div (own_tab true true false true) mm)), .second, .val (.int (1 : Int32)), .val (.int (1 : Int32)), .val (.int (0 : Int32)), .val (.int (1 : Int32)), .val (.int (1 : Int32)), .val (.int (2 : Int32)), .val (.int (2 : Int32)), .val (.int (3 : Int32)), .val (.double (4613374868287651840 : UInt64)), .second, .unset, .unset]) X0 C at_281 rfl rfl ?_
  refine W.iload (q := 285) X0 C at_283 rfl rfl ?_
  refine W.if_ (q := 292) (q' := 288) X0 C at_285 (by decide) (by decide) rfl (fun hc175 => ?_) (fun hc175 => ?_)
  · replace hc175 : mm ≠ 0 := hc175
    refine W.dload (q := 294) X0 C at_292 rfl rfl ?_
    refine W.iload (q := 296) X0 C at_294 rfl rfl ?_
    refine W.i2d (q := 297) (v := FP.i2d mm) X0 C at_296 rfl rfl ?_
    refine W.ddiv (q := 298) (v := FP.ddiv (4613374868287651840 : UInt64) (FP.i2d mm)) X0 C at_297 (own_nn true true false true mm hc175 hm.1 hm.2) rfl rfl ?_
    refine W.dstore (q := 300) (L' := #[.val (.int p0), .val (.int p1), .val (.int p2), .val (.int p3), .val (.int p4), .val (.int nn), .val (.int mm), .val (.ref ra), .val (.ref ia), .val (.double (own_div (own_tab true true false true) mm)), .second, .val (.int (1 : Int32)), .val (.int (1 : Int32)), .val (.int (0 : Int32)), .val (.int (1 : Int32)), .val (.int (1 : Int32)), .val (.int (2 : Int32)), .val (.int (2 : Int32)), .val (.int (3 : Int32)), .val (.double (4613374868287651840 : UInt64)), .second, .val (.double (FP.ddiv (4613374868287651840 : UInt64) (FP.i2d mm))), .second]) X0 C at_298 rfl rfl ?_
    refine W.dload (q := 302) X0 C at_300 rfl rfl ?_
    refine W.dload (q := 304) X0 C at_302 rfl rfl ?_
    refine W.dcmp (q := 305) (v := 0) X0 C at_304 (by rw [own_div, if_neg hc175]; exact dcmpV_self (own_nn true true false true mm hc175 hm.1 hm.2) _) rfl ?_
    refine W.ifF (q := 308) X0 C at_305 rfl (by decide : W.cF .ne (0 : Int32) 0) ?_
    refine W.iconst (q := 309) (v := 1) X0 C at_308 rfl rfl ?_
    refine W.goto (q := 313) X0 C at_309 (by decide) (by decide) ?_
    exact W.retN X0 C (by simp) e0 at_313 rfl (by decide) hsl ⟨rfl, N0⟩
  · replace hc175 : mm = 0 := hc175
    refine W.dconst0 (q := 289) (v := 0) X0 C at_288 rfl rfl ?_
    refine W.goto (q := 298) X0 C at_289 (by decide) (by decide) ?_
    refine W.dstore (q := 300) (L' := #[.val (.int p0), .val (.int p1), .val (.int p2), .val (.int p3), .val (.int p4), .val (.int nn), .val (.int mm), .val (.ref ra), .val (.ref ia), .val (.double (own_div (own_tab true true false true) mm)), .second, .val (.int (1 : Int32)), .val (.int (1 : Int32)), .val (.int (0 : Int32)), .val (.int (1 : Int32)), .val (.int (1 : Int32)), .val (.int (2 : Int32)), .val (.int (2 : Int32)), .val (.int (3 : Int32)), .val (.double (4613374868287651840 : UInt64)), .second, .val (.double (0 : UInt64)), .second]) X0 C at_298 rfl rfl ?_
    refine W.dload (q := 302) X0 C at_300 rfl rfl ?_
    refine W.dload (q := 304) X0 C at_302 rfl rfl ?_
    refine W.dcmp (q := 305) (v := 0) X0 C at_304 (by rw [own_div, if_pos hc175]; decide +kernel) rfl ?_
    refine W.ifF (q := 308) X0 C at_305 rfl (by decide : W.cF .ne (0 : Int32) 0) ?_
    refine W.iconst (q := 309) (v := 1) X0 C at_308 rfl rfl ?_
    refine W.goto (q := 313) X0 C at_309 (by decide) (by decide) ?_
    exact W.retN X0 C (by simp) e0 at_313 rfl (by decide) hsl ⟨rfl, N0⟩
set_option maxRecDepth 65536 in
set_option maxHeartbeats 40000000 in
theorem own_t1110 (l : Launch) (Z : State) (a0 : Array Value) (hw : ∀ d ∈ tables_1, d.before a0 Z = true) (h0 : Heap) (n0 : Nat) (p0 p1 p2 p3 p4 nn mm : Int32) (ra ia : Addr) (sl : Nat) {p : Program} {e : Env} {s : State} {m : MethodId} {args : Array Value} {below : List Frame} {meth : Method} {c : Code} {T0 : State} {locs : List Loc}
    (C : W.Cx p s m meth c Z code 23 "com/example/cranfield/cranfield/measures/RankedQueryAveragePrecisionPinLaw" "law" (some .boolean)) (X0 : Stand p l e room_1 s m args below meth c T0 locs 3 sl) (e0 : T0.heap = h0) (N0 : Fr n0 locs) (hm : 0 ≤ mm.toInt ∧ mm.toInt ≤ 7) (hsl : sl ≤ 128) :
    W.Go p e below (W.Post s (fun v h L => v = some (.int 1) ∧ Fr n0 L) room_1.cells room_1.slots) (T0.setTop (mkF m 157 #[.val (.int p0), .val (.int p1), .val (.int p2), .val (.int p3), .val (.int p4), .val (.int nn), .val (.int mm), .val (.ref ra), .val (.ref ia), .val (.double (own_div (own_tab true true true false) mm)), .second, .val (.int (1 : Int32)), .val (.int (1 : Int32)), .val (.int (1 : Int32)), .val (.int (0 : Int32)), .unset, .unset, .unset, .unset, .unset, .unset, .unset, .unset] [])) := by
  refine W.iload (q := 159) X0 C at_157 rfl rfl ?_
  refine W.ifF (q := 162) X0 C at_159 rfl (by decide : W.cF .eq (1 : Int32) 0) ?_
  refine W.iconst (q := 163) (v := 1) X0 C at_162 rfl rfl ?_
  refine W.goto (q := 167) X0 C at_163 (by decide) (by decide) ?_
  refine W.istore (q := 169) (L' := #[.val (.int p0), .val (.int p1), .val (.int p2), .val (.int p3), .val (.int p4), .val (.int nn), .val (.int mm), .val (.ref ra), .val (.ref ia), .val (.double (own_div (own_tab true true true false) mm)), .second, .val (.int (1 : Int32)), .val (.int (1 : Int32)), .val (.int (1 : Int32)), .val (.int (0 : Int32)), .val (.int (1 : Int32)), .unset, .unset, .unset, .unset, .unset, .unset, .unset]) X0 C at_167 rfl rfl ?_
  refine W.iload (q := 171) X0 C at_169 rfl rfl ?_
  refine W.iload (q := 173) X0 C at_171 rfl rfl ?_
  refine W.ifF (q := 176) X0 C at_173 rfl (by decide : W.cF .eq (1 : Int32) 0) ?_
  refine W.iconst (q := 177) (v := 1) X0 C at_176 rfl rfl ?_
  refine W.goto (q := 181) X0 C at_177 (by decide) (by decide) ?_
  refine W.iadd (q := 182) X0 C at_181 rfl ?_
  rw [show ((1 : Int32) + (1 : Int32)) = (2 : Int32) by decide]
  refine W.istore (q := 184) (L' := #[.val (.int p0), .val (.int p1), .val (.int p2), .val (.int p3), .val (.int p4), .val (.int nn), .val (.int mm), .val (.ref ra), .val (.ref ia), .val (.double (own_div (own_tab true true true false) mm)), .second, .val (.int (1 : Int32)), .val (.int (1 : Int32)), .val (.int (1 : Int32)), .val (.int (0 : Int32)), .val (.int (1 : Int32)), .val (.int (2 : Int32)), .unset, .unset, .unset, .unset, .unset, .unset]) X0 C at_182 rfl rfl ?_
  refine W.iload (q := 186) X0 C at_184 rfl rfl ?_
  refine W.iload (q := 188) X0 C at_186 rfl rfl ?_
  refine W.ifF (q := 191) X0 C at_188 rfl (by decide : W.cF .eq (1 : Int32) 0) ?_
  refine W.iconst (q := 192) (v := 1) X0 C at_191 rfl rfl ?_
  refine W.goto (q := 196) X0 C at_192 (by decide) (by decide) ?_
  refine W.iadd (q := 197) X0 C at_196 rfl ?_
  rw [show ((2 : Int32) + (1 : Int32)) = (3 : Int32) by decide]
  refine W.istore (q := 199) (L' := #[.val (.int p0), .val (.int p1), .val (.int p2), .val (.int p3), .val (.int p4), .val (.int nn), .val (.int mm), .val (.ref ra), .val (.ref ia), .val (.double (own_div (own_tab true true true false) mm)), .second, .val (.int (1 : Int32)), .val (.int (1 : Int32)), .val (.int (1 : Int32)), .val (.int (0 : Int32)), .val (.int (1 : Int32)), .val (.int (2 : Int32)), .val (.int (3 : Int32)), .unset, .unset, .unset, .unset, .unset]) X0 C at_197 rfl rfl ?_
  refine W.iload (q := 201) X0 C at_199 rfl rfl ?_
  refine W.iload (q := 203) X0 C at_201 rfl rfl ?_
  refine W.ifT (q := 210) X0 C at_203 (by decide) (by decide) (by decide : W.cT .eq (0 : Int32) 0) ?_
  refine W.iconst (q := 211) (v := 0) X0 C at_210 rfl rfl ?_
  refine W.iadd (q := 212) X0 C at_211 rfl ?_
  rw [show ((3 : Int32) + (0 : Int32)) = (3 : Int32) by decide]
  refine W.istore (q := 214) (L' := #[.val (.int p0), .val (.int p1), .val (.int p2), .val (.int p3), .val (.int p4), .val (.int nn), .val (.int mm), .val (.ref ra), .val (.ref ia), .val (.double (own_div (own_tab true true true false) mm)), .second, .val (.int (1 : Int32)), .val (.int (1 : Int32)), .val (.int (1 : Int32)), .val (.int (0 : Int32)), .val (.int (1 : Int32)), .val (.int (2 : Int32)), .val (.int (3 : Int32)), .val (.int (3 : Int32)), .unset, .unset, .unset, .unset]) X0 C at_212 rfl rfl ?_
  refine W.dconst0 (q := 215) (v := 0) X0 C at_214 rfl rfl ?_
  refine W.dstore (q := 217) (L' := #[.val (.int p0), .val (.int p1), .val (.int p2), .val (.int p3), .val (.int p4), .val (.int nn), .val (.int mm), .val (.ref ra), .val (.ref ia), .val (.double (own_div (own_tab true true true false) mm)), .second, .val (.int (1 : Int32)), .val (.int (1 : Int32)), .val (.int (1 : Int32)), .val (.int (0 : Int32)), .val (.int (1 : Int32)), .val (.int (2 : Int32)), .val (.int (3 : Int32)), .val (.int (3 : Int32)), .val (.double (0 : UInt64)), .second, .unset, .unset]) X0 C at_215 rfl rfl ?_
  refine W.iload (q := 219) X0 C at_217 rfl rfl ?_
  refine W.ifF (q := 222) X0 C at_219 rfl (by decide : W.cF .eq (1 : Int32) 0) ?_
  refine W.dload (q := 224) X0 C at_222 rfl rfl ?_
  refine W.iload (q := 226) X0 C at_224 rfl rfl ?_
  refine W.i2d (q := 227) (v := 4607182418800017408) X0 C at_226 (by decide +kernel) rfl ?_
  refine W.dconst1 (q := 228) (v := 4607182418800017408) X0 C at_227 rfl rfl ?_
  refine W.ddiv (q := 229) (v := 4607182418800017408) X0 C at_228 (by decide +kernel) (by decide +kernel) rfl ?_
  refine W.dadd (q := 230) (v := 4607182418800017408) X0 C at_229 (by decide +kernel) (by decide +kernel) rfl ?_
  refine W.dstore (q := 232) (L' := #[.val (.int p0), .val (.int p1), .val (.int p2), .val (.int p3), .val (.int p4), .val (.int nn), .val (.int mm), .val (.ref ra), .val (.ref ia), .val (.double (own_div (own_tab true true true false) mm)), .second, .val (.int (1 : Int32)), .val (.int (1 : Int32)), .val (.int (1 : Int32)), .val (.int (0 : Int32)), .val (.int (1 : Int32)), .val (.int (2 : Int32)), .val (.int (3 : Int32)), .val (.int (3 : Int32)), .val (.double (4607182418800017408 : UInt64)), .second, .unset, .unset]) X0 C at_230 rfl rfl ?_
  refine W.iload (q := 234) X0 C at_232 rfl rfl ?_
  refine W.ifF (q := 237) X0 C at_234 rfl (by decide : W.cF .eq (1 : Int32) 0) ?_
  refine W.dload (q := 239) X0 C at_237 rfl rfl ?_
  refine W.iload (q := 241) X0 C at_239 rfl rfl ?_
  refine W.i2d (q := 242) (v := 4611686018427387904) X0 C at_241 (by decide +kernel) rfl ?_
  refine W.ldcD (q := 245) X0 C (W.ww hw 20 rfl) at_242 rfl ?_
  refine W.ddiv (q := 246) (v := 4607182418800017408) X0 C at_245 (by decide +kernel) (by decide +kernel) rfl ?_
  refine W.dadd (q := 247) (v := 4611686018427387904) X0 C at_246 (by decide +kernel) (by decide +kernel) rfl ?_
  refine W.dstore (q := 249) (L' := #[.val (.int p0), .val (.int p1), .val (.int p2), .val (.int p3), .val (.int p4), .val (.int nn), .val (.int mm), .val (.ref ra), .val (.ref ia), .val (.double (own_div (own_tab true true true false) mm)), .second, .val (.int (1 : Int32)), .val (.int (1 : Int32)), .val (.int (1 : Int32)), .val (.int (0 : Int32)), .val (.int (1 : Int32)), .val (.int (2 : Int32)), .val (.int (3 : Int32)), .val (.int (3 : Int32)), .val (.double (4611686018427387904 : UInt64)), .second, .unset, .unset]) X0 C at_247 rfl rfl ?_
  refine W.iload (q := 251) X0 C at_249 rfl rfl ?_
  refine W.ifF (q := 254) X0 C at_251 rfl (by decide : W.cF .eq (1 : Int32) 0) ?_
  refine W.dload (q := 256) X0 C at_254 rfl rfl ?_
  refine W.iload (q := 258) X0 C at_256 rfl rfl ?_
  refine W.i2d (q := 259) (v := 4613937818241073152) X0 C at_258 (by decide +kernel) rfl ?_
  refine W.ldcD (q := 262) X0 C (W.ww hw 21 rfl) at_259 rfl ?_
  refine W.ddiv (q := 263) (v := 4607182418800017408) X0 C at_262 (by decide +kernel) (by decide +kernel) rfl ?_
  refine W.dadd (q := 264) (v := 4613937818241073152) X0 C at_263 (by decide +kernel) (by decide +kernel) rfl ?_
  refine W.dstore (q := 266) (L' := #[.val (.int p0), .val (.int p1), .val (.int p2), .val (.int p3), .val (.int p4), .val (.int nn), .val (.int mm), .val (.ref ra), .val (.ref ia), .val (.double (own_div (own_tab true true true false) mm)), .second, .val (.int (1 : Int32)), .val (.int (1 : Int32)), .val (.int (1 : Int32)), .val (.int (0 : Int32)), .val (.int (1 : Int32)), .val (.int (2 : Int32)), .val (.int (3 : Int32)), .val (.int (3 : Int32)), .val (.double (4613937818241073152 : UInt64)), .second, .unset, .unset]) X0 C at_264 rfl rfl ?_
  refine W.iload (q := 268) X0 C at_266 rfl rfl ?_
  refine W.ifT (q := 283) X0 C at_268 (by decide) (by decide) (by decide : W.cT .eq (0 : Int32) 0) ?_
  refine W.iload (q := 285) X0 C at_283 rfl rfl ?_
  refine W.if_ (q := 292) (q' := 288) X0 C at_285 (by decide) (by decide) rfl (fun hc176 => ?_) (fun hc176 => ?_)
  · replace hc176 : mm ≠ 0 := hc176
    refine W.dload (q := 294) X0 C at_292 rfl rfl ?_
    refine W.iload (q := 296) X0 C at_294 rfl rfl ?_
    refine W.i2d (q := 297) (v := FP.i2d mm) X0 C at_296 rfl rfl ?_
    refine W.ddiv (q := 298) (v := FP.ddiv (4613937818241073152 : UInt64) (FP.i2d mm)) X0 C at_297 (own_nn true true true false mm hc176 hm.1 hm.2) rfl rfl ?_
    refine W.dstore (q := 300) (L' := #[.val (.int p0), .val (.int p1), .val (.int p2), .val (.int p3), .val (.int p4), .val (.int nn), .val (.int mm), .val (.ref ra), .val (.ref ia), .val (.double (own_div (own_tab true true true false) mm)), .second, .val (.int (1 : Int32)), .val (.int (1 : Int32)), .val (.int (1 : Int32)), .val (.int (0 : Int32)), .val (.int (1 : Int32)), .val (.int (2 : Int32)), .val (.int (3 : Int32)), .val (.int (3 : Int32)), .val (.double (4613937818241073152 : UInt64)), .second, .val (.double (FP.ddiv (4613937818241073152 : UInt64) (FP.i2d mm))), .second]) X0 C at_298 rfl rfl ?_
    refine W.dload (q := 302) X0 C at_300 rfl rfl ?_
    refine W.dload (q := 304) X0 C at_302 rfl rfl ?_
    refine W.dcmp (q := 305) (v := 0) X0 C at_304 (by rw [own_div, if_neg hc176]; exact dcmpV_self (own_nn true true true false mm hc176 hm.1 hm.2) _) rfl ?_
    refine W.ifF (q := 308) X0 C at_305 rfl (by decide : W.cF .ne (0 : Int32) 0) ?_
    refine W.iconst (q := 309) (v := 1) X0 C at_308 rfl rfl ?_
    refine W.goto (q := 313) X0 C at_309 (by decide) (by decide) ?_
    exact W.retN X0 C (by simp) e0 at_313 rfl (by decide) hsl ⟨rfl, N0⟩
  · replace hc176 : mm = 0 := hc176
    refine W.dconst0 (q := 289) (v := 0) X0 C at_288 rfl rfl ?_
    refine W.goto (q := 298) X0 C at_289 (by decide) (by decide) ?_
    refine W.dstore (q := 300) (L' := #[.val (.int p0), .val (.int p1), .val (.int p2), .val (.int p3), .val (.int p4), .val (.int nn), .val (.int mm), .val (.ref ra), .val (.ref ia), .val (.double (own_div (own_tab true true true false) mm)), .second, .val (.int (1 : Int32)), .val (.int (1 : Int32)), .val (.int (1 : Int32)), .val (.int (0 : Int32)), .val (.int (1 : Int32)), .val (.int (2 : Int32)), .val (.int (3 : Int32)), .val (.int (3 : Int32)), .val (.double (4613937818241073152 : UInt64)), .second, .val (.double (0 : UInt64)), .second]) X0 C at_298 rfl rfl ?_
    refine W.dload (q := 302) X0 C at_300 rfl rfl ?_
    refine W.dload (q := 304) X0 C at_302 rfl rfl ?_
    refine W.dcmp (q := 305) (v := 0) X0 C at_304 (by rw [own_div, if_pos hc176]; decide +kernel) rfl ?_
    refine W.ifF (q := 308) X0 C at_305 rfl (by decide : W.cF .ne (0 : Int32) 0) ?_
    refine W.iconst (q := 309) (v := 1) X0 C at_308 rfl rfl ?_
    refine W.goto (q := 313) X0 C at_309 (by decide) (by decide) ?_
    exact W.retN X0 C (by simp) e0 at_313 rfl (by decide) hsl ⟨rfl, N0⟩
set_option maxRecDepth 65536 in
set_option maxHeartbeats 40000000 in
theorem own_t1111 (l : Launch) (Z : State) (a0 : Array Value) (hw : ∀ d ∈ tables_1, d.before a0 Z = true) (h0 : Heap) (n0 : Nat) (p0 p1 p2 p3 p4 nn mm : Int32) (ra ia : Addr) (sl : Nat) {p : Program} {e : Env} {s : State} {m : MethodId} {args : Array Value} {below : List Frame} {meth : Method} {c : Code} {T0 : State} {locs : List Loc}
    (C : W.Cx p s m meth c Z code 23 "com/example/cranfield/cranfield/measures/RankedQueryAveragePrecisionPinLaw" "law" (some .boolean)) (X0 : Stand p l e room_1 s m args below meth c T0 locs 3 sl) (e0 : T0.heap = h0) (N0 : Fr n0 locs) (hm : 0 ≤ mm.toInt ∧ mm.toInt ≤ 7) (hsl : sl ≤ 128) :
    W.Go p e below (W.Post s (fun v h L => v = some (.int 1) ∧ Fr n0 L) room_1.cells room_1.slots) (T0.setTop (mkF m 157 #[.val (.int p0), .val (.int p1), .val (.int p2), .val (.int p3), .val (.int p4), .val (.int nn), .val (.int mm), .val (.ref ra), .val (.ref ia), .val (.double (own_div (own_tab true true true true) mm)), .second, .val (.int (1 : Int32)), .val (.int (1 : Int32)), .val (.int (1 : Int32)), .val (.int (1 : Int32)), .unset, .unset, .unset, .unset, .unset, .unset, .unset, .unset] [])) := by
  refine W.iload (q := 159) X0 C at_157 rfl rfl ?_
  refine W.ifF (q := 162) X0 C at_159 rfl (by decide : W.cF .eq (1 : Int32) 0) ?_
  refine W.iconst (q := 163) (v := 1) X0 C at_162 rfl rfl ?_
  refine W.goto (q := 167) X0 C at_163 (by decide) (by decide) ?_
  refine W.istore (q := 169) (L' := #[.val (.int p0), .val (.int p1), .val (.int p2), .val (.int p3), .val (.int p4), .val (.int nn), .val (.int mm), .val (.ref ra), .val (.ref ia), .val (.double (own_div (own_tab true true true true) mm)), .second, .val (.int (1 : Int32)), .val (.int (1 : Int32)), .val (.int (1 : Int32)), .val (.int (1 : Int32)), .val (.int (1 : Int32)), .unset, .unset, .unset, .unset, .unset, .unset, .unset]) X0 C at_167 rfl rfl ?_
  refine W.iload (q := 171) X0 C at_169 rfl rfl ?_
  refine W.iload (q := 173) X0 C at_171 rfl rfl ?_
  refine W.ifF (q := 176) X0 C at_173 rfl (by decide : W.cF .eq (1 : Int32) 0) ?_
  refine W.iconst (q := 177) (v := 1) X0 C at_176 rfl rfl ?_
  refine W.goto (q := 181) X0 C at_177 (by decide) (by decide) ?_
  refine W.iadd (q := 182) X0 C at_181 rfl ?_
  rw [show ((1 : Int32) + (1 : Int32)) = (2 : Int32) by decide]
  refine W.istore (q := 184) (L' := #[.val (.int p0), .val (.int p1), .val (.int p2), .val (.int p3), .val (.int p4), .val (.int nn), .val (.int mm), .val (.ref ra), .val (.ref ia), .val (.double (own_div (own_tab true true true true) mm)), .second, .val (.int (1 : Int32)), .val (.int (1 : Int32)), .val (.int (1 : Int32)), .val (.int (1 : Int32)), .val (.int (1 : Int32)), .val (.int (2 : Int32)), .unset, .unset, .unset, .unset, .unset, .unset]) X0 C at_182 rfl rfl ?_
  refine W.iload (q := 186) X0 C at_184 rfl rfl ?_
  refine W.iload (q := 188) X0 C at_186 rfl rfl ?_
  refine W.ifF (q := 191) X0 C at_188 rfl (by decide : W.cF .eq (1 : Int32) 0) ?_
  refine W.iconst (q := 192) (v := 1) X0 C at_191 rfl rfl ?_
  refine W.goto (q := 196) X0 C at_192 (by decide) (by decide) ?_
  refine W.iadd (q := 197) X0 C at_196 rfl ?_
  rw [show ((2 : Int32) + (1 : Int32)) = (3 : Int32) by decide]
  refine W.istore (q := 199) (L' := #[.val (.int p0), .val (.int p1), .val (.int p2), .val (.int p3), .val (.int p4), .val (.int nn), .val (.int mm), .val (.ref ra), .val (.ref ia), .val (.double (own_div (own_tab true true true true) mm)), .second, .val (.int (1 : Int32)), .val (.int (1 : Int32)), .val (.int (1 : Int32)), .val (.int (1 : Int32)), .val (.int (1 : Int32)), .val (.int (2 : Int32)), .val (.int (3 : Int32)), .unset, .unset, .unset, .unset, .unset]) X0 C at_197 rfl rfl ?_
  refine W.iload (q := 201) X0 C at_199 rfl rfl ?_
  refine W.iload (q := 203) X0 C at_201 rfl rfl ?_
  refine W.ifF (q := 206) X0 C at_203 rfl (by decide : W.cF .eq (1 : Int32) 0) ?_
  refine W.iconst (q := 207) (v := 1) X0 C at_206 rfl rfl ?_
  refine W.goto (q := 211) X0 C at_207 (by decide) (by decide) ?_
  refine W.iadd (q := 212) X0 C at_211 rfl ?_
  rw [show ((3 : Int32) + (1 : Int32)) = (4 : Int32) by decide]
  refine W.istore (q := 214) (L' := #[.val (.int p0), .val (.int p1), .val (.int p2), .val (.int p3), .val (.int p4), .val (.int nn), .val (.int mm), .val (.ref ra), .val (.ref ia), .val (.double (own_div (own_tab true true true true) mm)), .second, .val (.int (1 : Int32)), .val (.int (1 : Int32)), .val (.int (1 : Int32)), .val (.int (1 : Int32)), .val (.int (1 : Int32)), .val (.int (2 : Int32)), .val (.int (3 : Int32)), .val (.int (4 : Int32)), .unset, .unset, .unset, .unset]) X0 C at_212 rfl rfl ?_
  refine W.dconst0 (q := 215) (v := 0) X0 C at_214 rfl rfl ?_
  refine W.dstore (q := 217) (L' := #[.val (.int p0), .val (.int p1), .val (.int p2), .val (.int p3), .val (.int p4), .val (.int nn), .val (.int mm), .val (.ref ra), .val (.ref ia), .val (.double (own_div (own_tab true true true true) mm)), .second, .val (.int (1 : Int32)), .val (.int (1 : Int32)), .val (.int (1 : Int32)), .val (.int (1 : Int32)), .val (.int (1 : Int32)), .val (.int (2 : Int32)), .val (.int (3 : Int32)), .val (.int (4 : Int32)), .val (.double (0 : UInt64)), .second, .unset, .unset]) X0 C at_215 rfl rfl ?_
  refine W.iload (q := 219) X0 C at_217 rfl rfl ?_
  refine W.ifF (q := 222) X0 C at_219 rfl (by decide : W.cF .eq (1 : Int32) 0) ?_
  refine W.dload (q := 224) X0 C at_222 rfl rfl ?_
  refine W.iload (q := 226) X0 C at_224 rfl rfl ?_
  refine W.i2d (q := 227) (v := 4607182418800017408) X0 C at_226 (by decide +kernel) rfl ?_
  refine W.dconst1 (q := 228) (v := 4607182418800017408) X0 C at_227 rfl rfl ?_
  refine W.ddiv (q := 229) (v := 4607182418800017408) X0 C at_228 (by decide +kernel) (by decide +kernel) rfl ?_
  refine W.dadd (q := 230) (v := 4607182418800017408) X0 C at_229 (by decide +kernel) (by decide +kernel) rfl ?_
  refine W.dstore (q := 232) (L' := #[.val (.int p0), .val (.int p1), .val (.int p2), .val (.int p3), .val (.int p4), .val (.int nn), .val (.int mm), .val (.ref ra), .val (.ref ia), .val (.double (own_div (own_tab true true true true) mm)), .second, .val (.int (1 : Int32)), .val (.int (1 : Int32)), .val (.int (1 : Int32)), .val (.int (1 : Int32)), .val (.int (1 : Int32)), .val (.int (2 : Int32)), .val (.int (3 : Int32)), .val (.int (4 : Int32)), .val (.double (4607182418800017408 : UInt64)), .second, .unset, .unset]) X0 C at_230 rfl rfl ?_
  refine W.iload (q := 234) X0 C at_232 rfl rfl ?_
  refine W.ifF (q := 237) X0 C at_234 rfl (by decide : W.cF .eq (1 : Int32) 0) ?_
  refine W.dload (q := 239) X0 C at_237 rfl rfl ?_
  refine W.iload (q := 241) X0 C at_239 rfl rfl ?_
  refine W.i2d (q := 242) (v := 4611686018427387904) X0 C at_241 (by decide +kernel) rfl ?_
  refine W.ldcD (q := 245) X0 C (W.ww hw 20 rfl) at_242 rfl ?_
  refine W.ddiv (q := 246) (v := 4607182418800017408) X0 C at_245 (by decide +kernel) (by decide +kernel) rfl ?_
  refine W.dadd (q := 247) (v := 4611686018427387904) X0 C at_246 (by decide +kernel) (by decide +kernel) rfl ?_
  refine W.dstore (q := 249) (L' := #[.val (.int p0), .val (.int p1), .val (.int p2), .val (.int p3), .val (.int p4), .val (.int nn), .val (.int mm), .val (.ref ra), .val (.ref ia), .val (.double (own_div (own_tab true true true true) mm)), .second, .val (.int (1 : Int32)), .val (.int (1 : Int32)), .val (.int (1 : Int32)), .val (.int (1 : Int32)), .val (.int (1 : Int32)), .val (.int (2 : Int32)), .val (.int (3 : Int32)), .val (.int (4 : Int32)), .val (.double (4611686018427387904 : UInt64)), .second, .unset, .unset]) X0 C at_247 rfl rfl ?_
  refine W.iload (q := 251) X0 C at_249 rfl rfl ?_
  refine W.ifF (q := 254) X0 C at_251 rfl (by decide : W.cF .eq (1 : Int32) 0) ?_
  refine W.dload (q := 256) X0 C at_254 rfl rfl ?_
  refine W.iload (q := 258) X0 C at_256 rfl rfl ?_
  refine W.i2d (q := 259) (v := 4613937818241073152) X0 C at_258 (by decide +kernel) rfl ?_
  refine W.ldcD (q := 262) X0 C (W.ww hw 21 rfl) at_259 rfl ?_
  refine W.ddiv (q := 263) (v := 4607182418800017408) X0 C at_262 (by decide +kernel) (by decide +kernel) rfl ?_
  refine W.dadd (q := 264) (v := 4613937818241073152) X0 C at_263 (by decide +kernel) (by decide +kernel) rfl ?_
  refine W.dstore (q := 266) (L' := #[.val (.int p0), .val (.int p1), .val (.int p2), .val (.int p3), .val (.int p4), .val (.int nn), .val (.int mm), .val (.ref ra), .val (.ref ia), .val (.double (own_div (own_tab true true true true) mm)), .second, .val (.int (1 : Int32)), .val (.int (1 : Int32)), .val (.int (1 : Int32)), .val (.int (1 : Int32)), .val (.int (1 : Int32)), .val (.int (2 : Int32)), .val (.int (3 : Int32)), .val (.int (4 : Int32)), .val (.double (4613937818241073152 : UInt64)), .second, .unset, .unset]) X0 C at_264 rfl rfl ?_
  refine W.iload (q := 268) X0 C at_266 rfl rfl ?_
  refine W.ifF (q := 271) X0 C at_268 rfl (by decide : W.cF .eq (1 : Int32) 0) ?_
  refine W.dload (q := 273) X0 C at_271 rfl rfl ?_
  refine W.iload (q := 275) X0 C at_273 rfl rfl ?_
  refine W.i2d (q := 276) (v := 4616189618054758400) X0 C at_275 (by decide +kernel) rfl ?_
  refine W.ldcD (q := 279) X0 C (W.ww hw 22 rfl) at_276 rfl ?_
  refine W.ddiv (q := 280) (v := 4607182418800017408) X0 C at_279 (by decide +kernel) (by decide +kernel) rfl ?_
  refine W.dadd (q := 281) (v := 4616189618054758400) X0 C at_280 (by decide +kernel) (by decide +kernel) rfl ?_
  refine W.dstore (q := 283) (L' := #[.val (.int p0), .val (.int p1), .val (.int p2), .val (.int p3), .val (.int p4), .val (.int nn), .val (.int mm), .val (.ref ra), .val (.ref ia), .val (.double (own_div (own_tab true true true true) mm)), .second, .val (.int (1 : Int32)), .val (.int (1 : Int32)), .val (.int (1 : Int32)), .val (.int (1 : Int32)), .val (.int (1 : Int32)), .val (.int (2 : Int32)), .val (.int (3 : Int32)), .val (.int (4 : Int32)), .val (.double (4616189618054758400 : UInt64)), .second, .unset, .unset]) X0 C at_281 rfl rfl ?_
  refine W.iload (q := 285) X0 C at_283 rfl rfl ?_
  refine W.if_ (q := 292) (q' := 288) X0 C at_285 (by decide) (by decide) rfl (fun hc177 => ?_) (fun hc177 => ?_)
  · replace hc177 : mm ≠ 0 := hc177
    refine W.dload (q := 294) X0 C at_292 rfl rfl ?_
    refine W.iload (q := 296) X0 C at_294 rfl rfl ?_
    refine W.i2d (q := 297) (v := FP.i2d mm) X0 C at_296 rfl rfl ?_
    refine W.ddiv (q := 298) (v := FP.ddiv (4616189618054758400 : UInt64) (FP.i2d mm)) X0 C at_297 (own_nn true true true true mm hc177 hm.1 hm.2) rfl rfl ?_
    refine W.dstore (q := 300) (L' := #[.val (.int p0), .val (.int p1), .val (.int p2), .val (.int p3), .val (.int p4), .val (.int nn), .val (.int mm), .val (.ref ra), .val (.ref ia), .val (.double (own_div (own_tab true true true true) mm)), .second, .val (.int (1 : Int32)), .val (.int (1 : Int32)), .val (.int (1 : Int32)), .val (.int (1 : Int32)), .val (.int (1 : Int32)), .val (.int (2 : Int32)), .val (.int (3 : Int32)), .val (.int (4 : Int32)), .val (.double (4616189618054758400 : UInt64)), .second, .val (.double (FP.ddiv (4616189618054758400 : UInt64) (FP.i2d mm))), .second]) X0 C at_298 rfl rfl ?_
    refine W.dload (q := 302) X0 C at_300 rfl rfl ?_
    refine W.dload (q := 304) X0 C at_302 rfl rfl ?_
    refine W.dcmp (q := 305) (v := 0) X0 C at_304 (by rw [own_div, if_neg hc177]; exact dcmpV_self (own_nn true true true true mm hc177 hm.1 hm.2) _) rfl ?_
    refine W.ifF (q := 308) X0 C at_305 rfl (by decide : W.cF .ne (0 : Int32) 0) ?_
    refine W.iconst (q := 309) (v := 1) X0 C at_308 rfl rfl ?_
    refine W.goto (q := 313) X0 C at_309 (by decide) (by decide) ?_
    exact W.retN X0 C (by simp) e0 at_313 rfl (by decide) hsl ⟨rfl, N0⟩
  · replace hc177 : mm = 0 := hc177
    refine W.dconst0 (q := 289) (v := 0) X0 C at_288 rfl rfl ?_
    refine W.goto (q := 298) X0 C at_289 (by decide) (by decide) ?_
    refine W.dstore (q := 300) (L' := #[.val (.int p0), .val (.int p1), .val (.int p2), .val (.int p3), .val (.int p4), .val (.int nn), .val (.int mm), .val (.ref ra), .val (.ref ia), .val (.double (own_div (own_tab true true true true) mm)), .second, .val (.int (1 : Int32)), .val (.int (1 : Int32)), .val (.int (1 : Int32)), .val (.int (1 : Int32)), .val (.int (1 : Int32)), .val (.int (2 : Int32)), .val (.int (3 : Int32)), .val (.int (4 : Int32)), .val (.double (4616189618054758400 : UInt64)), .second, .val (.double (0 : UInt64)), .second]) X0 C at_298 rfl rfl ?_
    refine W.dload (q := 302) X0 C at_300 rfl rfl ?_
    refine W.dload (q := 304) X0 C at_302 rfl rfl ?_
    refine W.dcmp (q := 305) (v := 0) X0 C at_304 (by rw [own_div, if_pos hc177]; decide +kernel) rfl ?_
    refine W.ifF (q := 308) X0 C at_305 rfl (by decide : W.cF .ne (0 : Int32) 0) ?_
    refine W.iconst (q := 309) (v := 1) X0 C at_308 rfl rfl ?_
    refine W.goto (q := 313) X0 C at_309 (by decide) (by decide) ?_
    exact W.retN X0 C (by simp) e0 at_313 rfl (by decide) hsl ⟨rfl, N0⟩
set_option maxRecDepth 65536 in
set_option maxHeartbeats 40000000 in
theorem own_p0 (l : Launch) (Z : State) (a0 : Array Value) (hw : ∀ d ∈ tables_1, d.before a0 Z = true) (h0 : Heap) (n0 : Nat) (p0 p1 p2 p3 p4 mm : Int32) (ra ia : Addr) (sl : Nat) {p : Program} {e : Env} {s : State} {m : MethodId} {args : Array Value} {below : List Frame} {meth : Method} {c : Code} {T0 : State} {locs : List Loc}
    (C : W.Cx p s m meth c Z code 23 "com/example/cranfield/cranfield/measures/RankedQueryAveragePrecisionPinLaw" "law" (some .boolean)) (X0 : Stand p l e room_1 s m args below meth c T0 locs 3 sl) (e0 : T0.heap = h0) (N0 : Fr n0 locs) (hm : 0 ≤ mm.toInt ∧ mm.toInt ≤ 7) (hsl : sl ≤ 128) :
    W.Go p e below (W.Post s (fun v h L => v = some (.int 1) ∧ Fr n0 L) room_1.cells room_1.slots) (T0.setTop (mkF m 89 #[.val (.int p0), .val (.int p1), .val (.int p2), .val (.int p3), .val (.int p4), .val (.int (0 : Int32)), .val (.int mm), .val (.ref ra), .val (.ref ia), .val (.double (own_div (own_tab false false false false) mm)), .second, .unset, .unset, .unset, .unset, .unset, .unset, .unset, .unset, .unset, .unset, .unset, .unset] [])) := by
  refine W.iload (q := 91) X0 C at_89 rfl rfl ?_
  refine W.ifT (q := 102) X0 C at_91 (by decide) (by decide) (by decide : W.cT .le (0 : Int32) 0) ?_
  refine W.iconst (q := 103) (v := 0) X0 C at_102 rfl rfl ?_
  refine W.istore (q := 105) (L' := #[.val (.int p0), .val (.int p1), .val (.int p2), .val (.int p3), .val (.int p4), .val (.int (0 : Int32)), .val (.int mm), .val (.ref ra), .val (.ref ia), .val (.double (own_div (own_tab false false false false) mm)), .second, .val (.int (0 : Int32)), .unset, .unset, .unset, .unset, .unset, .unset, .unset, .unset, .unset, .unset, .unset]) X0 C at_103 rfl rfl ?_
  refine W.iload (q := 107) X0 C at_105 rfl rfl ?_
  refine W.iconst (q := 108) (v := 1) X0 C at_107 rfl rfl ?_
  refine W.icmpT (q := 119) X0 C at_108 (by decide) (by decide) (by decide : W.cT .le (0 : Int32) (1 : Int32)) ?_
  refine W.iconst (q := 120) (v := 0) X0 C at_119 rfl rfl ?_
  refine W.istore (q := 122) (L' := #[.val (.int p0), .val (.int p1), .val (.int p2), .val (.int p3), .val (.int p4), .val (.int (0 : Int32)), .val (.int mm), .val (.ref ra), .val (.ref ia), .val (.double (own_div (own_tab false false false false) mm)), .second, .val (.int (0 : Int32)), .val (.int (0 : Int32)), .unset, .unset, .unset, .unset, .unset, .unset, .unset, .unset, .unset, .unset]) X0 C at_120 rfl rfl ?_
  refine W.iload (q := 124) X0 C at_122 rfl rfl ?_
  refine W.iconst (q := 125) (v := 2) X0 C at_124 rfl rfl ?_
  refine W.icmpT (q := 136) X0 C at_125 (by decide) (by decide) (by decide : W.cT .le (0 : Int32) (2 : Int32)) ?_
  refine W.iconst (q := 137) (v := 0) X0 C at_136 rfl rfl ?_
  refine W.istore (q := 139) (L' := #[.val (.int p0), .val (.int p1), .val (.int p2), .val (.int p3), .val (.int p4), .val (.int (0 : Int32)), .val (.int mm), .val (.ref ra), .val (.ref ia), .val (.double (own_div (own_tab false false false false) mm)), .second, .val (.int (0 : Int32)), .val (.int (0 : Int32)), .val (.int (0 : Int32)), .unset, .unset, .unset, .unset, .unset, .unset, .unset, .unset, .unset]) X0 C at_137 rfl rfl ?_
  refine W.iload (q := 141) X0 C at_139 rfl rfl ?_
  refine W.iconst (q := 142) (v := 3) X0 C at_141 rfl rfl ?_
  refine W.icmpT (q := 154) X0 C at_142 (by decide) (by decide) (by decide : W.cT .le (0 : Int32) (3 : Int32)) ?_
  refine W.iconst (q := 155) (v := 0) X0 C at_154 rfl rfl ?_
  refine W.istore (q := 157) (L' := #[.val (.int p0), .val (.int p1), .val (.int p2), .val (.int p3), .val (.int p4), .val (.int (0 : Int32)), .val (.int mm), .val (.ref ra), .val (.ref ia), .val (.double (own_div (own_tab false false false false) mm)), .second, .val (.int (0 : Int32)), .val (.int (0 : Int32)), .val (.int (0 : Int32)), .val (.int (0 : Int32)), .unset, .unset, .unset, .unset, .unset, .unset, .unset, .unset]) X0 C at_155 rfl rfl ?_
  exact own_t0000 l Z a0 hw h0 n0 p0 p1 p2 p3 p4 (0 : Int32) mm ra ia sl C X0 e0 N0 hm hsl
set_option maxRecDepth 65536 in
set_option maxHeartbeats 40000000 in
theorem own_p1 (l : Launch) (Z : State) (a0 : Array Value) (hw : ∀ d ∈ tables_1, d.before a0 Z = true) (h0 : Heap) (n0 : Nat) (p0 p1 p2 p3 p4 mm : Int32) (ra ia : Addr) (sl : Nat) {p : Program} {e : Env} {s : State} {m : MethodId} {args : Array Value} {below : List Frame} {meth : Method} {c : Code} {T0 : State} {locs : List Loc}
    (C : W.Cx p s m meth c Z code 23 "com/example/cranfield/cranfield/measures/RankedQueryAveragePrecisionPinLaw" "law" (some .boolean)) (X0 : Stand p l e room_1 s m args below meth c T0 locs 3 sl) (e0 : T0.heap = h0) (N0 : Fr n0 locs) (hm : 0 ≤ mm.toInt ∧ mm.toInt ≤ 7) (hsl : sl ≤ 128) :
    W.Go p e below (W.Post s (fun v h L => v = some (.int 1) ∧ Fr n0 L) room_1.cells room_1.slots) (T0.setTop (mkF m 89 #[.val (.int p0), .val (.int p1), .val (.int p2), .val (.int p3), .val (.int p4), .val (.int (1 : Int32)), .val (.int mm), .val (.ref ra), .val (.ref ia), .val (.double (own_div (own_tab (own_pos p1) false false false) mm)), .second, .unset, .unset, .unset, .unset, .unset, .unset, .unset, .unset, .unset, .unset, .unset, .unset] [])) := by
  refine W.iload (q := 91) X0 C at_89 rfl rfl ?_
  refine W.ifF (q := 94) X0 C at_91 rfl (by decide : W.cF .le (1 : Int32) 0) ?_
  refine W.iloadN (q := 95) X0 C at_94 rfl rfl ?_
  refine W.if_ (q := 102) (q' := 98) X0 C at_95 (by decide) (by decide) rfl (fun hc178 => ?_) (fun hc178 => ?_)
  · replace hc178 : p1.toInt ≤ (0 : Int32).toInt := hc178
    refine W.iconst (q := 103) (v := 0) X0 C at_102 rfl rfl ?_
    refine W.istore (q := 105) (L' := #[.val (.int p0), .val (.int p1), .val (.int p2), .val (.int p3), .val (.int p4), .val (.int (1 : Int32)), .val (.int mm), .val (.ref ra), .val (.ref ia), .val (.double (own_div (own_tab (own_pos p1) false false false) mm)), .second, .val (.int (0 : Int32)), .unset, .unset, .unset, .unset, .unset, .unset, .unset, .unset, .unset, .unset, .unset]) X0 C at_103 rfl rfl ?_
    refine W.iload (q := 107) X0 C at_105 rfl rfl ?_
    refine W.iconst (q := 108) (v := 1) X0 C at_107 rfl rfl ?_
    refine W.icmpT (q := 119) X0 C at_108 (by decide) (by decide) (by decide : W.cT .le (1 : Int32) (1 : Int32)) ?_
    refine W.iconst (q := 120) (v := 0) X0 C at_119 rfl rfl ?_
    refine W.istore (q := 122) (L' := #[.val (.int p0), .val (.int p1), .val (.int p2), .val (.int p3), .val (.int p4), .val (.int (1 : Int32)), .val (.int mm), .val (.ref ra), .val (.ref ia), .val (.double (own_div (own_tab (own_pos p1) false false false) mm)), .second, .val (.int (0 : Int32)), .val (.int (0 : Int32)), .unset, .unset, .unset, .unset, .unset, .unset, .unset, .unset, .unset, .unset]) X0 C at_120 rfl rfl ?_
    refine W.iload (q := 124) X0 C at_122 rfl rfl ?_
    refine W.iconst (q := 125) (v := 2) X0 C at_124 rfl rfl ?_
    refine W.icmpT (q := 136) X0 C at_125 (by decide) (by decide) (by decide : W.cT .le (1 : Int32) (2 : Int32)) ?_
    refine W.iconst (q := 137) (v := 0) X0 C at_136 rfl rfl ?_
    refine W.istore (q := 139) (L' := #[.val (.int p0), .val (.int p1), .val (.int p2), .val (.int p3), .val (.int p4), .val (.int (1 : Int32)), .val (.int mm), .val (.ref ra), .val (.ref ia), .val (.double (own_div (own_tab (own_pos p1) false false false) mm)), .second, .val (.int (0 : Int32)), .val (.int (0 : Int32)), .val (.int (0 : Int32)), .unset, .unset, .unset, .unset, .unset, .unset, .unset, .unset, .unset]) X0 C at_137 rfl rfl ?_
    refine W.iload (q := 141) X0 C at_139 rfl rfl ?_
    refine W.iconst (q := 142) (v := 3) X0 C at_141 rfl rfl ?_
    refine W.icmpT (q := 154) X0 C at_142 (by decide) (by decide) (by decide : W.cT .le (1 : Int32) (3 : Int32)) ?_
    refine W.iconst (q := 155) (v := 0) X0 C at_154 rfl rfl ?_
    refine W.istore (q := 157) (L' := #[.val (.int p0), .val (.int p1), .val (.int p2), .val (.int p3), .val (.int p4), .val (.int (1 : Int32)), .val (.int mm), .val (.ref ra), .val (.ref ia), .val (.double (own_div (own_tab (own_pos p1) false false false) mm)), .second, .val (.int (0 : Int32)), .val (.int (0 : Int32)), .val (.int (0 : Int32)), .val (.int (0 : Int32)), .unset, .unset, .unset, .unset, .unset, .unset, .unset, .unset]) X0 C at_155 rfl rfl ?_
    rw [own_pf hc178]
    exact own_t0000 l Z a0 hw h0 n0 p0 p1 p2 p3 p4 (1 : Int32) mm ra ia sl C X0 e0 N0 hm hsl
  · replace hc178 : (0 : Int32).toInt < p1.toInt := hc178
    refine W.iconst (q := 99) (v := 1) X0 C at_98 rfl rfl ?_
    refine W.goto (q := 103) X0 C at_99 (by decide) (by decide) ?_
    refine W.istore (q := 105) (L' := #[.val (.int p0), .val (.int p1), .val (.int p2), .val (.int p3), .val (.int p4), .val (.int (1 : Int32)), .val (.int mm), .val (.ref ra), .val (.ref ia), .val (.double (own_div (own_tab (own_pos p1) false false false) mm)), .second, .val (.int (1 : Int32)), .unset, .unset, .unset, .unset, .unset, .unset, .unset, .unset, .unset, .unset, .unset]) X0 C at_103 rfl rfl ?_
    refine W.iload (q := 107) X0 C at_105 rfl rfl ?_
    refine W.iconst (q := 108) (v := 1) X0 C at_107 rfl rfl ?_
    refine W.icmpT (q := 119) X0 C at_108 (by decide) (by decide) (by decide : W.cT .le (1 : Int32) (1 : Int32)) ?_
    refine W.iconst (q := 120) (v := 0) X0 C at_119 rfl rfl ?_
    refine W.istore (q := 122) (L' := #[.val (.int p0), .val (.int p1), .val (.int p2), .val (.int p3), .val (.int p4), .val (.int (1 : Int32)), .val (.int mm), .val (.ref ra), .val (.ref ia), .val (.double (own_div (own_tab (own_pos p1) false false false) mm)), .second, .val (.int (1 : Int32)), .val (.int (0 : Int32)), .unset, .unset, .unset, .unset, .unset, .unset, .unset, .unset, .unset, .unset]) X0 C at_120 rfl rfl ?_
    refine W.iload (q := 124) X0 C at_122 rfl rfl ?_
    refine W.iconst (q := 125) (v := 2) X0 C at_124 rfl rfl ?_
    refine W.icmpT (q := 136) X0 C at_125 (by decide) (by decide) (by decide : W.cT .le (1 : Int32) (2 : Int32)) ?_
    refine W.iconst (q := 137) (v := 0) X0 C at_136 rfl rfl ?_
    refine W.istore (q := 139) (L' := #[.val (.int p0), .val (.int p1), .val (.int p2), .val (.int p3), .val (.int p4), .val (.int (1 : Int32)), .val (.int mm), .val (.ref ra), .val (.ref ia), .val (.double (own_div (own_tab (own_pos p1) false false false) mm)), .second, .val (.int (1 : Int32)), .val (.int (0 : Int32)), .val (.int (0 : Int32)), .unset, .unset, .unset, .unset, .unset, .unset, .unset, .unset, .unset]) X0 C at_137 rfl rfl ?_
    refine W.iload (q := 141) X0 C at_139 rfl rfl ?_
    refine W.iconst (q := 142) (v := 3) X0 C at_141 rfl rfl ?_
    refine W.icmpT (q := 154) X0 C at_142 (by decide) (by decide) (by decide : W.cT .le (1 : Int32) (3 : Int32)) ?_
    refine W.iconst (q := 155) (v := 0) X0 C at_154 rfl rfl ?_
    refine W.istore (q := 157) (L' := #[.val (.int p0), .val (.int p1), .val (.int p2), .val (.int p3), .val (.int p4), .val (.int (1 : Int32)), .val (.int mm), .val (.ref ra), .val (.ref ia), .val (.double (own_div (own_tab (own_pos p1) false false false) mm)), .second, .val (.int (1 : Int32)), .val (.int (0 : Int32)), .val (.int (0 : Int32)), .val (.int (0 : Int32)), .unset, .unset, .unset, .unset, .unset, .unset, .unset, .unset]) X0 C at_155 rfl rfl ?_
    rw [own_pt hc178]
    exact own_t1000 l Z a0 hw h0 n0 p0 p1 p2 p3 p4 (1 : Int32) mm ra ia sl C X0 e0 N0 hm hsl
set_option maxRecDepth 65536 in
set_option maxHeartbeats 40000000 in
theorem own_p2 (l : Launch) (Z : State) (a0 : Array Value) (hw : ∀ d ∈ tables_1, d.before a0 Z = true) (h0 : Heap) (n0 : Nat) (p0 p1 p2 p3 p4 mm : Int32) (ra ia : Addr) (sl : Nat) {p : Program} {e : Env} {s : State} {m : MethodId} {args : Array Value} {below : List Frame} {meth : Method} {c : Code} {T0 : State} {locs : List Loc}
    (C : W.Cx p s m meth c Z code 23 "com/example/cranfield/cranfield/measures/RankedQueryAveragePrecisionPinLaw" "law" (some .boolean)) (X0 : Stand p l e room_1 s m args below meth c T0 locs 3 sl) (e0 : T0.heap = h0) (N0 : Fr n0 locs) (hm : 0 ≤ mm.toInt ∧ mm.toInt ≤ 7) (hsl : sl ≤ 128) :
    W.Go p e below (W.Post s (fun v h L => v = some (.int 1) ∧ Fr n0 L) room_1.cells room_1.slots) (T0.setTop (mkF m 89 #[.val (.int p0), .val (.int p1), .val (.int p2), .val (.int p3), .val (.int p4), .val (.int (2 : Int32)), .val (.int mm), .val (.ref ra), .val (.ref ia), .val (.double (own_div (own_tab (own_pos p1) (own_pos p2) false false) mm)), .second, .unset, .unset, .unset, .unset, .unset, .unset, .unset, .unset, .unset, .unset, .unset, .unset] [])) := by
  refine W.iload (q := 91) X0 C at_89 rfl rfl ?_
  refine W.ifF (q := 94) X0 C at_91 rfl (by decide : W.cF .le (2 : Int32) 0) ?_
  refine W.iloadN (q := 95) X0 C at_94 rfl rfl ?_
  refine W.if_ (q := 102) (q' := 98) X0 C at_95 (by decide) (by decide) rfl (fun hc179 => ?_) (fun hc179 => ?_)
  · replace hc179 : p1.toInt ≤ (0 : Int32).toInt := hc179
    refine W.iconst (q := 103) (v := 0) X0 C at_102 rfl rfl ?_
    refine W.istore (q := 105) (L' := #[.val (.int p0), .val (.int p1), .val (.int p2), .val (.int p3), .val (.int p4), .val (.int (2 : Int32)), .val (.int mm), .val (.ref ra), .val (.ref ia), .val (.double (own_div (own_tab (own_pos p1) (own_pos p2) false false) mm)), .second, .val (.int (0 : Int32)), .unset, .unset, .unset, .unset, .unset, .unset, .unset, .unset, .unset, .unset, .unset]) X0 C at_103 rfl rfl ?_
    refine W.iload (q := 107) X0 C at_105 rfl rfl ?_
    refine W.iconst (q := 108) (v := 1) X0 C at_107 rfl rfl ?_
    refine W.icmpF (q := 111) X0 C at_108 rfl (by decide : W.cF .le (2 : Int32) (1 : Int32)) ?_
    refine W.iloadN (q := 112) X0 C at_111 rfl rfl ?_
    refine W.if_ (q := 119) (q' := 115) X0 C at_112 (by decide) (by decide) rfl (fun hc180 => ?_) (fun hc180 => ?_)
    · replace hc180 : p2.toInt ≤ (0 : Int32).toInt := hc180
      refine W.iconst (q := 120) (v := 0) X0 C at_119 rfl rfl ?_
      refine W.istore (q := 122) (L' := #[.val (.int p0), .val (.int p1), .val (.int p2), .val (.int p3), .val (.int p4), .val (.int (2 : Int32)), .val (.int mm), .val (.ref ra), .val (.ref ia), .val (.double (own_div (own_tab (own_pos p1) (own_pos p2) false false) mm)), .second, .val (.int (0 : Int32)), .val (.int (0 : Int32)), .unset, .unset, .unset, .unset, .unset, .unset, .unset, .unset, .unset, .unset]) X0 C at_120 rfl rfl ?_
      refine W.iload (q := 124) X0 C at_122 rfl rfl ?_
      refine W.iconst (q := 125) (v := 2) X0 C at_124 rfl rfl ?_
      refine W.icmpT (q := 136) X0 C at_125 (by decide) (by decide) (by decide : W.cT .le (2 : Int32) (2 : Int32)) ?_
      refine W.iconst (q := 137) (v := 0) X0 C at_136 rfl rfl ?_
      refine W.istore (q := 139) (L' := #[.val (.int p0), .val (.int p1), .val (.int p2), .val (.int p3), .val (.int p4), .val (.int (2 : Int32)), .val (.int mm), .val (.ref ra), .val (.ref ia), .val (.double (own_div (own_tab (own_pos p1) (own_pos p2) false false) mm)), .second, .val (.int (0 : Int32)), .val (.int (0 : Int32)), .val (.int (0 : Int32)), .unset, .unset, .unset, .unset, .unset, .unset, .unset, .unset, .unset]) X0 C at_137 rfl rfl ?_
      refine W.iload (q := 141) X0 C at_139 rfl rfl ?_
      refine W.iconst (q := 142) (v := 3) X0 C at_141 rfl rfl ?_
      refine W.icmpT (q := 154) X0 C at_142 (by decide) (by decide) (by decide : W.cT .le (2 : Int32) (3 : Int32)) ?_
      refine W.iconst (q := 155) (v := 0) X0 C at_154 rfl rfl ?_
      refine W.istore (q := 157) (L' := #[.val (.int p0), .val (.int p1), .val (.int p2), .val (.int p3), .val (.int p4), .val (.int (2 : Int32)), .val (.int mm), .val (.ref ra), .val (.ref ia), .val (.double (own_div (own_tab (own_pos p1) (own_pos p2) false false) mm)), .second, .val (.int (0 : Int32)), .val (.int (0 : Int32)), .val (.int (0 : Int32)), .val (.int (0 : Int32)), .unset, .unset, .unset, .unset, .unset, .unset, .unset, .unset]) X0 C at_155 rfl rfl ?_
      rw [own_pf hc179, own_pf hc180]
      exact own_t0000 l Z a0 hw h0 n0 p0 p1 p2 p3 p4 (2 : Int32) mm ra ia sl C X0 e0 N0 hm hsl
    · replace hc180 : (0 : Int32).toInt < p2.toInt := hc180
      refine W.iconst (q := 116) (v := 1) X0 C at_115 rfl rfl ?_
      refine W.goto (q := 120) X0 C at_116 (by decide) (by decide) ?_
      refine W.istore (q := 122) (L' := #[.val (.int p0), .val (.int p1), .val (.int p2), .val (.int p3), .val (.int p4), .val (.int (2 : Int32)), .val (.int mm), .val (.ref ra), .val (.ref ia), .val (.double (own_div (own_tab (own_pos p1) (own_pos p2) false false) mm)), .second, .val (.int (0 : Int32)), .val (.int (1 : Int32)), .unset, .unset, .unset, .unset, .unset, .unset, .unset, .unset, .unset, .unset]) X0 C at_120 rfl rfl ?_
      refine W.iload (q := 124) X0 C at_122 rfl rfl ?_
      refine W.iconst (q := 125) (v := 2) X0 C at_124 rfl rfl ?_
      refine W.icmpT (q := 136) X0 C at_125 (by decide) (by decide) (by decide : W.cT .le (2 : Int32) (2 : Int32)) ?_
      refine W.iconst (q := 137) (v := 0) X0 C at_136 rfl rfl ?_
      refine W.istore (q := 139) (L' := #[.val (.int p0), .val (.int p1), .val (.int p2), .val (.int p3), .val (.int p4), .val (.int (2 : Int32)), .val (.int mm), .val (.ref ra), .val (.ref ia), .val (.double (own_div (own_tab (own_pos p1) (own_pos p2) false false) mm)), .second, .val (.int (0 : Int32)), .val (.int (1 : Int32)), .val (.int (0 : Int32)), .unset, .unset, .unset, .unset, .unset, .unset, .unset, .unset, .unset]) X0 C at_137 rfl rfl ?_
      refine W.iload (q := 141) X0 C at_139 rfl rfl ?_
      refine W.iconst (q := 142) (v := 3) X0 C at_141 rfl rfl ?_
      refine W.icmpT (q := 154) X0 C at_142 (by decide) (by decide) (by decide : W.cT .le (2 : Int32) (3 : Int32)) ?_
      refine W.iconst (q := 155) (v := 0) X0 C at_154 rfl rfl ?_
      refine W.istore (q := 157) (L' := #[.val (.int p0), .val (.int p1), .val (.int p2), .val (.int p3), .val (.int p4), .val (.int (2 : Int32)), .val (.int mm), .val (.ref ra), .val (.ref ia), .val (.double (own_div (own_tab (own_pos p1) (own_pos p2) false false) mm)), .second, .val (.int (0 : Int32)), .val (.int (1 : Int32)), .val (.int (0 : Int32)), .val (.int (0 : Int32)), .unset, .unset, .unset, .unset, .unset, .unset, .unset, .unset]) X0 C at_155 rfl rfl ?_
      rw [own_pf hc179, own_pt hc180]
      exact own_t0100 l Z a0 hw h0 n0 p0 p1 p2 p3 p4 (2 : Int32) mm ra ia sl C X0 e0 N0 hm hsl
  · replace hc179 : (0 : Int32).toInt < p1.toInt := hc179
    refine W.iconst (q := 99) (v := 1) X0 C at_98 rfl rfl ?_
    refine W.goto (q := 103) X0 C at_99 (by decide) (by decide) ?_
    refine W.istore (q := 105) (L' := #[.val (.int p0), .val (.int p1), .val (.int p2), .val (.int p3), .val (.int p4), .val (.int (2 : Int32)), .val (.int mm), .val (.ref ra), .val (.ref ia), .val (.double (own_div (own_tab (own_pos p1) (own_pos p2) false false) mm)), .second, .val (.int (1 : Int32)), .unset, .unset, .unset, .unset, .unset, .unset, .unset, .unset, .unset, .unset, .unset]) X0 C at_103 rfl rfl ?_
    refine W.iload (q := 107) X0 C at_105 rfl rfl ?_
    refine W.iconst (q := 108) (v := 1) X0 C at_107 rfl rfl ?_
    refine W.icmpF (q := 111) X0 C at_108 rfl (by decide : W.cF .le (2 : Int32) (1 : Int32)) ?_
    refine W.iloadN (q := 112) X0 C at_111 rfl rfl ?_
    refine W.if_ (q := 119) (q' := 115) X0 C at_112 (by decide) (by decide) rfl (fun hc181 => ?_) (fun hc181 => ?_)
    · replace hc181 : p2.toInt ≤ (0 : Int32).toInt := hc181
      refine W.iconst (q := 120) (v := 0) X0 C at_119 rfl rfl ?_
      refine W.istore (q := 122) (L' := #[.val (.int p0), .val (.int p1), .val (.int p2), .val (.int p3), .val (.int p4), .val (.int (2 : Int32)), .val (.int mm), .val (.ref ra), .val (.ref ia), .val (.double (own_div (own_tab (own_pos p1) (own_pos p2) false false) mm)), .second, .val (.int (1 : Int32)), .val (.int (0 : Int32)), .unset, .unset, .unset, .unset, .unset, .unset, .unset, .unset, .unset, .unset]) X0 C at_120 rfl rfl ?_
      refine W.iload (q := 124) X0 C at_122 rfl rfl ?_
      refine W.iconst (q := 125) (v := 2) X0 C at_124 rfl rfl ?_
      refine W.icmpT (q := 136) X0 C at_125 (by decide) (by decide) (by decide : W.cT .le (2 : Int32) (2 : Int32)) ?_
      refine W.iconst (q := 137) (v := 0) X0 C at_136 rfl rfl ?_
      refine W.istore (q := 139) (L' := #[.val (.int p0), .val (.int p1), .val (.int p2), .val (.int p3), .val (.int p4), .val (.int (2 : Int32)), .val (.int mm), .val (.ref ra), .val (.ref ia), .val (.double (own_div (own_tab (own_pos p1) (own_pos p2) false false) mm)), .second, .val (.int (1 : Int32)), .val (.int (0 : Int32)), .val (.int (0 : Int32)), .unset, .unset, .unset, .unset, .unset, .unset, .unset, .unset, .unset]) X0 C at_137 rfl rfl ?_
      refine W.iload (q := 141) X0 C at_139 rfl rfl ?_
      refine W.iconst (q := 142) (v := 3) X0 C at_141 rfl rfl ?_
      refine W.icmpT (q := 154) X0 C at_142 (by decide) (by decide) (by decide : W.cT .le (2 : Int32) (3 : Int32)) ?_
      refine W.iconst (q := 155) (v := 0) X0 C at_154 rfl rfl ?_
      refine W.istore (q := 157) (L' := #[.val (.int p0), .val (.int p1), .val (.int p2), .val (.int p3), .val (.int p4), .val (.int (2 : Int32)), .val (.int mm), .val (.ref ra), .val (.ref ia), .val (.double (own_div (own_tab (own_pos p1) (own_pos p2) false false) mm)), .second, .val (.int (1 : Int32)), .val (.int (0 : Int32)), .val (.int (0 : Int32)), .val (.int (0 : Int32)), .unset, .unset, .unset, .unset, .unset, .unset, .unset, .unset]) X0 C at_155 rfl rfl ?_
      rw [own_pt hc179, own_pf hc181]
      exact own_t1000 l Z a0 hw h0 n0 p0 p1 p2 p3 p4 (2 : Int32) mm ra ia sl C X0 e0 N0 hm hsl
    · replace hc181 : (0 : Int32).toInt < p2.toInt := hc181
      refine W.iconst (q := 116) (v := 1) X0 C at_115 rfl rfl ?_
      refine W.goto (q := 120) X0 C at_116 (by decide) (by decide) ?_
      refine W.istore (q := 122) (L' := #[.val (.int p0), .val (.int p1), .val (.int p2), .val (.int p3), .val (.int p4), .val (.int (2 : Int32)), .val (.int mm), .val (.ref ra), .val (.ref ia), .val (.double (own_div (own_tab (own_pos p1) (own_pos p2) false false) mm)), .second, .val (.int (1 : Int32)), .val (.int (1 : Int32)), .unset, .unset, .unset, .unset, .unset, .unset, .unset, .unset, .unset, .unset]) X0 C at_120 rfl rfl ?_
      refine W.iload (q := 124) X0 C at_122 rfl rfl ?_
      refine W.iconst (q := 125) (v := 2) X0 C at_124 rfl rfl ?_
      refine W.icmpT (q := 136) X0 C at_125 (by decide) (by decide) (by decide : W.cT .le (2 : Int32) (2 : Int32)) ?_
      refine W.iconst (q := 137) (v := 0) X0 C at_136 rfl rfl ?_
      refine W.istore (q := 139) (L' := #[.val (.int p0), .val (.int p1), .val (.int p2), .val (.int p3), .val (.int p4), .val (.int (2 : Int32)), .val (.int mm), .val (.ref ra), .val (.ref ia), .val (.double (own_div (own_tab (own_pos p1) (own_pos p2) false false) mm)), .second, .val (.int (1 : Int32)), .val (.int (1 : Int32)), .val (.int (0 : Int32)), .unset, .unset, .unset, .unset, .unset, .unset, .unset, .unset, .unset]) X0 C at_137 rfl rfl ?_
      refine W.iload (q := 141) X0 C at_139 rfl rfl ?_
      refine W.iconst (q := 142) (v := 3) X0 C at_141 rfl rfl ?_
      refine W.icmpT (q := 154) X0 C at_142 (by decide) (by decide) (by decide : W.cT .le (2 : Int32) (3 : Int32)) ?_
      refine W.iconst (q := 155) (v := 0) X0 C at_154 rfl rfl ?_
      refine W.istore (q := 157) (L' := #[.val (.int p0), .val (.int p1), .val (.int p2), .val (.int p3), .val (.int p4), .val (.int (2 : Int32)), .val (.int mm), .val (.ref ra), .val (.ref ia), .val (.double (own_div (own_tab (own_pos p1) (own_pos p2) false false) mm)), .second, .val (.int (1 : Int32)), .val (.int (1 : Int32)), .val (.int (0 : Int32)), .val (.int (0 : Int32)), .unset, .unset, .unset, .unset, .unset, .unset, .unset, .unset]) X0 C at_155 rfl rfl ?_
      rw [own_pt hc179, own_pt hc181]
      exact own_t1100 l Z a0 hw h0 n0 p0 p1 p2 p3 p4 (2 : Int32) mm ra ia sl C X0 e0 N0 hm hsl
set_option maxRecDepth 65536 in
set_option maxHeartbeats 40000000 in
theorem own_p3 (l : Launch) (Z : State) (a0 : Array Value) (hw : ∀ d ∈ tables_1, d.before a0 Z = true) (h0 : Heap) (n0 : Nat) (p0 p1 p2 p3 p4 mm : Int32) (ra ia : Addr) (sl : Nat) {p : Program} {e : Env} {s : State} {m : MethodId} {args : Array Value} {below : List Frame} {meth : Method} {c : Code} {T0 : State} {locs : List Loc}
    (C : W.Cx p s m meth c Z code 23 "com/example/cranfield/cranfield/measures/RankedQueryAveragePrecisionPinLaw" "law" (some .boolean)) (X0 : Stand p l e room_1 s m args below meth c T0 locs 3 sl) (e0 : T0.heap = h0) (N0 : Fr n0 locs) (hm : 0 ≤ mm.toInt ∧ mm.toInt ≤ 7) (hsl : sl ≤ 128) :
    W.Go p e below (W.Post s (fun v h L => v = some (.int 1) ∧ Fr n0 L) room_1.cells room_1.slots) (T0.setTop (mkF m 89 #[.val (.int p0), .val (.int p1), .val (.int p2), .val (.int p3), .val (.int p4), .val (.int (3 : Int32)), .val (.int mm), .val (.ref ra), .val (.ref ia), .val (.double (own_div (own_tab (own_pos p1) (own_pos p2) (own_pos p3) false) mm)), .second, .unset, .unset, .unset, .unset, .unset, .unset, .unset, .unset, .unset, .unset, .unset, .unset] [])) := by
  refine W.iload (q := 91) X0 C at_89 rfl rfl ?_
  refine W.ifF (q := 94) X0 C at_91 rfl (by decide : W.cF .le (3 : Int32) 0) ?_
  refine W.iloadN (q := 95) X0 C at_94 rfl rfl ?_
  refine W.if_ (q := 102) (q' := 98) X0 C at_95 (by decide) (by decide) rfl (fun hc182 => ?_) (fun hc182 => ?_)
  · replace hc182 : p1.toInt ≤ (0 : Int32).toInt := hc182
    refine W.iconst (q := 103) (v := 0) X0 C at_102 rfl rfl ?_
    refine W.istore (q := 105) (L' := #[.val (.int p0), .val (.int p1), .val (.int p2), .val (.int p3), .val (.int p4), .val (.int (3 : Int32)), .val (.int mm), .val (.ref ra), .val (.ref ia), .val (.double (own_div (own_tab (own_pos p1) (own_pos p2) (own_pos p3) false) mm)), .second, .val (.int (0 : Int32)), .unset, .unset, .unset, .unset, .unset, .unset, .unset, .unset, .unset, .unset, .unset]) X0 C at_103 rfl rfl ?_
    refine W.iload (q := 107) X0 C at_105 rfl rfl ?_
    refine W.iconst (q := 108) (v := 1) X0 C at_107 rfl rfl ?_
    refine W.icmpF (q := 111) X0 C at_108 rfl (by decide : W.cF .le (3 : Int32) (1 : Int32)) ?_
    refine W.iloadN (q := 112) X0 C at_111 rfl rfl ?_
    refine W.if_ (q := 119) (q' := 115) X0 C at_112 (by decide) (by decide) rfl (fun hc183 => ?_) (fun hc183 => ?_)
    · replace hc183 : p2.toInt ≤ (0 : Int32).toInt := hc183
      refine W.iconst (q := 120) (v := 0) X0 C at_119 rfl rfl ?_
      refine W.istore (q := 122) (L' := #[.val (.int p0), .val (.int p1), .val (.int p2), .val (.int p3), .val (.int p4), .val (.int (3 : Int32)), .val (.int mm), .val (.ref ra), .val (.ref ia), .val (.double (own_div (own_tab (own_pos p1) (own_pos p2) (own_pos p3) false) mm)), .second, .val (.int (0 : Int32)), .val (.int (0 : Int32)), .unset, .unset, .unset, .unset, .unset, .unset, .unset, .unset, .unset, .unset]) X0 C at_120 rfl rfl ?_
      refine W.iload (q := 124) X0 C at_122 rfl rfl ?_
      refine W.iconst (q := 125) (v := 2) X0 C at_124 rfl rfl ?_
      refine W.icmpF (q := 128) X0 C at_125 rfl (by decide : W.cF .le (3 : Int32) (2 : Int32)) ?_
      refine W.iloadN (q := 129) X0 C at_128 rfl rfl ?_
      refine W.if_ (q := 136) (q' := 132) X0 C at_129 (by decide) (by decide) rfl (fun hc184 => ?_) (fun hc184 => ?_)
      · replace hc184 : p3.toInt ≤ (0 : Int32).toInt := hc184
        refine W.iconst (q := 137) (v := 0) X0 C at_136 rfl rfl ?_
        refine W.istore (q := 139) (L' := #[.val (.int p0), .val (.int p1), .val (.int p2), .val (.int p3), .val (.int p4), .val (.int (3 : Int32)), .val (.int mm), .val (.ref ra), .val (.ref ia), .val (.double (own_div (own_tab (own_pos p1) (own_pos p2) (own_pos p3) false) mm)), .second, .val (.int (0 : Int32)), .val (.int (0 : Int32)), .val (.int (0 : Int32)), .unset, .unset, .unset, .unset, .unset, .unset, .unset, .unset, .unset]) X0 C at_137 rfl rfl ?_
        refine W.iload (q := 141) X0 C at_139 rfl rfl ?_
        refine W.iconst (q := 142) (v := 3) X0 C at_141 rfl rfl ?_
        refine W.icmpT (q := 154) X0 C at_142 (by decide) (by decide) (by decide : W.cT .le (3 : Int32) (3 : Int32)) ?_
        refine W.iconst (q := 155) (v := 0) X0 C at_154 rfl rfl ?_
        refine W.istore (q := 157) (L' := #[.val (.int p0), .val (.int p1), .val (.int p2), .val (.int p3), .val (.int p4), .val (.int (3 : Int32)), .val (.int mm), .val (.ref ra), .val (.ref ia), .val (.double (own_div (own_tab (own_pos p1) (own_pos p2) (own_pos p3) false) mm)), .second, .val (.int (0 : Int32)), .val (.int (0 : Int32)), .val (.int (0 : Int32)), .val (.int (0 : Int32)), .unset, .unset, .unset, .unset, .unset, .unset, .unset, .unset]) X0 C at_155 rfl rfl ?_
        rw [own_pf hc182, own_pf hc183, own_pf hc184]
        exact own_t0000 l Z a0 hw h0 n0 p0 p1 p2 p3 p4 (3 : Int32) mm ra ia sl C X0 e0 N0 hm hsl
      · replace hc184 : (0 : Int32).toInt < p3.toInt := hc184
        refine W.iconst (q := 133) (v := 1) X0 C at_132 rfl rfl ?_
        refine W.goto (q := 137) X0 C at_133 (by decide) (by decide) ?_
        refine W.istore (q := 139) (L' := #[.val (.int p0), .val (.int p1), .val (.int p2), .val (.int p3), .val (.int p4), .val (.int (3 : Int32)), .val (.int mm), .val (.ref ra), .val (.ref ia), .val (.double (own_div (own_tab (own_pos p1) (own_pos p2) (own_pos p3) false) mm)), .second, .val (.int (0 : Int32)), .val (.int (0 : Int32)), .val (.int (1 : Int32)), .unset, .unset, .unset, .unset, .unset, .unset, .unset, .unset, .unset]) X0 C at_137 rfl rfl ?_
        refine W.iload (q := 141) X0 C at_139 rfl rfl ?_
        refine W.iconst (q := 142) (v := 3) X0 C at_141 rfl rfl ?_
        refine W.icmpT (q := 154) X0 C at_142 (by decide) (by decide) (by decide : W.cT .le (3 : Int32) (3 : Int32)) ?_
        refine W.iconst (q := 155) (v := 0) X0 C at_154 rfl rfl ?_
        refine W.istore (q := 157) (L' := #[.val (.int p0), .val (.int p1), .val (.int p2), .val (.int p3), .val (.int p4), .val (.int (3 : Int32)), .val (.int mm), .val (.ref ra), .val (.ref ia), .val (.double (own_div (own_tab (own_pos p1) (own_pos p2) (own_pos p3) false) mm)), .second, .val (.int (0 : Int32)), .val (.int (0 : Int32)), .val (.int (1 : Int32)), .val (.int (0 : Int32)), .unset, .unset, .unset, .unset, .unset, .unset, .unset, .unset]) X0 C at_155 rfl rfl ?_
        rw [own_pf hc182, own_pf hc183, own_pt hc184]
        exact own_t0010 l Z a0 hw h0 n0 p0 p1 p2 p3 p4 (3 : Int32) mm ra ia sl C X0 e0 N0 hm hsl
    · replace hc183 : (0 : Int32).toInt < p2.toInt := hc183
      refine W.iconst (q := 116) (v := 1) X0 C at_115 rfl rfl ?_
      refine W.goto (q := 120) X0 C at_116 (by decide) (by decide) ?_
      refine W.istore (q := 122) (L' := #[.val (.int p0), .val (.int p1), .val (.int p2), .val (.int p3), .val (.int p4), .val (.int (3 : Int32)), .val (.int mm), .val (.ref ra), .val (.ref ia), .val (.double (own_div (own_tab (own_pos p1) (own_pos p2) (own_pos p3) false) mm)), .second, .val (.int (0 : Int32)), .val (.int (1 : Int32)), .unset, .unset, .unset, .unset, .unset, .unset, .unset, .unset, .unset, .unset]) X0 C at_120 rfl rfl ?_
      refine W.iload (q := 124) X0 C at_122 rfl rfl ?_
      refine W.iconst (q := 125) (v := 2) X0 C at_124 rfl rfl ?_
      refine W.icmpF (q := 128) X0 C at_125 rfl (by decide : W.cF .le (3 : Int32) (2 : Int32)) ?_
      refine W.iloadN (q := 129) X0 C at_128 rfl rfl ?_
      refine W.if_ (q := 136) (q' := 132) X0 C at_129 (by decide) (by decide) rfl (fun hc185 => ?_) (fun hc185 => ?_)
      · replace hc185 : p3.toInt ≤ (0 : Int32).toInt := hc185
        refine W.iconst (q := 137) (v := 0) X0 C at_136 rfl rfl ?_
        refine W.istore (q := 139) (L' := #[.val (.int p0), .val (.int p1), .val (.int p2), .val (.int p3), .val (.int p4), .val (.int (3 : Int32)), .val (.int mm), .val (.ref ra), .val (.ref ia), .val (.double (own_div (own_tab (own_pos p1) (own_pos p2) (own_pos p3) false) mm)), .second, .val (.int (0 : Int32)), .val (.int (1 : Int32)), .val (.int (0 : Int32)), .unset, .unset, .unset, .unset, .unset, .unset, .unset, .unset, .unset]) X0 C at_137 rfl rfl ?_
        refine W.iload (q := 141) X0 C at_139 rfl rfl ?_
        refine W.iconst (q := 142) (v := 3) X0 C at_141 rfl rfl ?_
        refine W.icmpT (q := 154) X0 C at_142 (by decide) (by decide) (by decide : W.cT .le (3 : Int32) (3 : Int32)) ?_
        refine W.iconst (q := 155) (v := 0) X0 C at_154 rfl rfl ?_
        refine W.istore (q := 157) (L' := #[.val (.int p0), .val (.int p1), .val (.int p2), .val (.int p3), .val (.int p4), .val (.int (3 : Int32)), .val (.int mm), .val (.ref ra), .val (.ref ia), .val (.double (own_div (own_tab (own_pos p1) (own_pos p2) (own_pos p3) false) mm)), .second, .val (.int (0 : Int32)), .val (.int (1 : Int32)), .val (.int (0 : Int32)), .val (.int (0 : Int32)), .unset, .unset, .unset, .unset, .unset, .unset, .unset, .unset]) X0 C at_155 rfl rfl ?_
        rw [own_pf hc182, own_pt hc183, own_pf hc185]
        exact own_t0100 l Z a0 hw h0 n0 p0 p1 p2 p3 p4 (3 : Int32) mm ra ia sl C X0 e0 N0 hm hsl
      · replace hc185 : (0 : Int32).toInt < p3.toInt := hc185
        refine W.iconst (q := 133) (v := 1) X0 C at_132 rfl rfl ?_
        refine W.goto (q := 137) X0 C at_133 (by decide) (by decide) ?_
        refine W.istore (q := 139) (L' := #[.val (.int p0), .val (.int p1), .val (.int p2), .val (.int p3), .val (.int p4), .val (.int (3 : Int32)), .val (.int mm), .val (.ref ra), .val (.ref ia), .val (.double (own_div (own_tab (own_pos p1) (own_pos p2) (own_pos p3) false) mm)), .second, .val (.int (0 : Int32)), .val (.int (1 : Int32)), .val (.int (1 : Int32)), .unset, .unset, .unset, .unset, .unset, .unset, .unset, .unset, .unset]) X0 C at_137 rfl rfl ?_
        refine W.iload (q := 141) X0 C at_139 rfl rfl ?_
        refine W.iconst (q := 142) (v := 3) X0 C at_141 rfl rfl ?_
        refine W.icmpT (q := 154) X0 C at_142 (by decide) (by decide) (by decide : W.cT .le (3 : Int32) (3 : Int32)) ?_
        refine W.iconst (q := 155) (v := 0) X0 C at_154 rfl rfl ?_
        refine W.istore (q := 157) (L' := #[.val (.int p0), .val (.int p1), .val (.int p2), .val (.int p3), .val (.int p4), .val (.int (3 : Int32)), .val (.int mm), .val (.ref ra), .val (.ref ia), .val (.double (own_div (own_tab (own_pos p1) (own_pos p2) (own_pos p3) false) mm)), .second, .val (.int (0 : Int32)), .val (.int (1 : Int32)), .val (.int (1 : Int32)), .val (.int (0 : Int32)), .unset, .unset, .unset, .unset, .unset, .unset, .unset, .unset]) X0 C at_155 rfl rfl ?_
        rw [own_pf hc182, own_pt hc183, own_pt hc185]
        exact own_t0110 l Z a0 hw h0 n0 p0 p1 p2 p3 p4 (3 : Int32) mm ra ia sl C X0 e0 N0 hm hsl
  · replace hc182 : (0 : Int32).toInt < p1.toInt := hc182
    refine W.iconst (q := 99) (v := 1) X0 C at_98 rfl rfl ?_
    refine W.goto (q := 103) X0 C at_99 (by decide) (by decide) ?_
    refine W.istore (q := 105) (L' := #[.val (.int p0), .val (.int p1), .val (.int p2), .val (.int p3), .val (.int p4), .val (.int (3 : Int32)), .val (.int mm), .val (.ref ra), .val (.ref ia), .val (.double (own_div (own_tab (own_pos p1) (own_pos p2) (own_pos p3) false) mm)), .second, .val (.int (1 : Int32)), .unset, .unset, .unset, .unset, .unset, .unset, .unset, .unset, .unset, .unset, .unset]) X0 C at_103 rfl rfl ?_
    refine W.iload (q := 107) X0 C at_105 rfl rfl ?_
    refine W.iconst (q := 108) (v := 1) X0 C at_107 rfl rfl ?_
    refine W.icmpF (q := 111) X0 C at_108 rfl (by decide : W.cF .le (3 : Int32) (1 : Int32)) ?_
    refine W.iloadN (q := 112) X0 C at_111 rfl rfl ?_
    refine W.if_ (q := 119) (q' := 115) X0 C at_112 (by decide) (by decide) rfl (fun hc186 => ?_) (fun hc186 => ?_)
    · replace hc186 : p2.toInt ≤ (0 : Int32).toInt := hc186
      refine W.iconst (q := 120) (v := 0) X0 C at_119 rfl rfl ?_
      refine W.istore (q := 122) (L' := #[.val (.int p0), .val (.int p1), .val (.int p2), .val (.int p3), .val (.int p4), .val (.int (3 : Int32)), .val (.int mm), .val (.ref ra), .val (.ref ia), .val (.double (own_div (own_tab (own_pos p1) (own_pos p2) (own_pos p3) false) mm)), .second, .val (.int (1 : Int32)), .val (.int (0 : Int32)), .unset, .unset, .unset, .unset, .unset, .unset, .unset, .unset, .unset, .unset]) X0 C at_120 rfl rfl ?_
      refine W.iload (q := 124) X0 C at_122 rfl rfl ?_
      refine W.iconst (q := 125) (v := 2) X0 C at_124 rfl rfl ?_
      refine W.icmpF (q := 128) X0 C at_125 rfl (by decide : W.cF .le (3 : Int32) (2 : Int32)) ?_
      refine W.iloadN (q := 129) X0 C at_128 rfl rfl ?_
      refine W.if_ (q := 136) (q' := 132) X0 C at_129 (by decide) (by decide) rfl (fun hc187 => ?_) (fun hc187 => ?_)
      · replace hc187 : p3.toInt ≤ (0 : Int32).toInt := hc187
        refine W.iconst (q := 137) (v := 0) X0 C at_136 rfl rfl ?_
        refine W.istore (q := 139) (L' := #[.val (.int p0), .val (.int p1), .val (.int p2), .val (.int p3), .val (.int p4), .val (.int (3 : Int32)), .val (.int mm), .val (.ref ra), .val (.ref ia), .val (.double (own_div (own_tab (own_pos p1) (own_pos p2) (own_pos p3) false) mm)), .second, .val (.int (1 : Int32)), .val (.int (0 : Int32)), .val (.int (0 : Int32)), .unset, .unset, .unset, .unset, .unset, .unset, .unset, .unset, .unset]) X0 C at_137 rfl rfl ?_
        refine W.iload (q := 141) X0 C at_139 rfl rfl ?_
        refine W.iconst (q := 142) (v := 3) X0 C at_141 rfl rfl ?_
        refine W.icmpT (q := 154) X0 C at_142 (by decide) (by decide) (by decide : W.cT .le (3 : Int32) (3 : Int32)) ?_
        refine W.iconst (q := 155) (v := 0) X0 C at_154 rfl rfl ?_
        refine W.istore (q := 157) (L' := #[.val (.int p0), .val (.int p1), .val (.int p2), .val (.int p3), .val (.int p4), .val (.int (3 : Int32)), .val (.int mm), .val (.ref ra), .val (.ref ia), .val (.double (own_div (own_tab (own_pos p1) (own_pos p2) (own_pos p3) false) mm)), .second, .val (.int (1 : Int32)), .val (.int (0 : Int32)), .val (.int (0 : Int32)), .val (.int (0 : Int32)), .unset, .unset, .unset, .unset, .unset, .unset, .unset, .unset]) X0 C at_155 rfl rfl ?_
        rw [own_pt hc182, own_pf hc186, own_pf hc187]
        exact own_t1000 l Z a0 hw h0 n0 p0 p1 p2 p3 p4 (3 : Int32) mm ra ia sl C X0 e0 N0 hm hsl
      · replace hc187 : (0 : Int32).toInt < p3.toInt := hc187
        refine W.iconst (q := 133) (v := 1) X0 C at_132 rfl rfl ?_
        refine W.goto (q := 137) X0 C at_133 (by decide) (by decide) ?_
        refine W.istore (q := 139) (L' := #[.val (.int p0), .val (.int p1), .val (.int p2), .val (.int p3), .val (.int p4), .val (.int (3 : Int32)), .val (.int mm), .val (.ref ra), .val (.ref ia), .val (.double (own_div (own_tab (own_pos p1) (own_pos p2) (own_pos p3) false) mm)), .second, .val (.int (1 : Int32)), .val (.int (0 : Int32)), .val (.int (1 : Int32)), .unset, .unset, .unset, .unset, .unset, .unset, .unset, .unset, .unset]) X0 C at_137 rfl rfl ?_
        refine W.iload (q := 141) X0 C at_139 rfl rfl ?_
        refine W.iconst (q := 142) (v := 3) X0 C at_141 rfl rfl ?_
        refine W.icmpT (q := 154) X0 C at_142 (by decide) (by decide) (by decide : W.cT .le (3 : Int32) (3 : Int32)) ?_
        refine W.iconst (q := 155) (v := 0) X0 C at_154 rfl rfl ?_
        refine W.istore (q := 157) (L' := #[.val (.int p0), .val (.int p1), .val (.int p2), .val (.int p3), .val (.int p4), .val (.int (3 : Int32)), .val (.int mm), .val (.ref ra), .val (.ref ia), .val (.double (own_div (own_tab (own_pos p1) (own_pos p2) (own_pos p3) false) mm)), .second, .val (.int (1 : Int32)), .val (.int (0 : Int32)), .val (.int (1 : Int32)), .val (.int (0 : Int32)), .unset, .unset, .unset, .unset, .unset, .unset, .unset, .unset]) X0 C at_155 rfl rfl ?_
        rw [own_pt hc182, own_pf hc186, own_pt hc187]
        exact own_t1010 l Z a0 hw h0 n0 p0 p1 p2 p3 p4 (3 : Int32) mm ra ia sl C X0 e0 N0 hm hsl
    · replace hc186 : (0 : Int32).toInt < p2.toInt := hc186
      refine W.iconst (q := 116) (v := 1) X0 C at_115 rfl rfl ?_
      refine W.goto (q := 120) X0 C at_116 (by decide) (by decide) ?_
      refine W.istore (q := 122) (L' := #[.val (.int p0), .val (.int p1), .val (.int p2), .val (.int p3), .val (.int p4), .val (.int (3 : Int32)), .val (.int mm), .val (.ref ra), .val (.ref ia), .val (.double (own_div (own_tab (own_pos p1) (own_pos p2) (own_pos p3) false) mm)), .second, .val (.int (1 : Int32)), .val (.int (1 : Int32)), .unset, .unset, .unset, .unset, .unset, .unset, .unset, .unset, .unset, .unset]) X0 C at_120 rfl rfl ?_
      refine W.iload (q := 124) X0 C at_122 rfl rfl ?_
      refine W.iconst (q := 125) (v := 2) X0 C at_124 rfl rfl ?_
      refine W.icmpF (q := 128) X0 C at_125 rfl (by decide : W.cF .le (3 : Int32) (2 : Int32)) ?_
      refine W.iloadN (q := 129) X0 C at_128 rfl rfl ?_
      refine W.if_ (q := 136) (q' := 132) X0 C at_129 (by decide) (by decide) rfl (fun hc188 => ?_) (fun hc188 => ?_)
      · replace hc188 : p3.toInt ≤ (0 : Int32).toInt := hc188
        refine W.iconst (q := 137) (v := 0) X0 C at_136 rfl rfl ?_
        refine W.istore (q := 139) (L' := #[.val (.int p0), .val (.int p1), .val (.int p2), .val (.int p3), .val (.int p4), .val (.int (3 : Int32)), .val (.int mm), .val (.ref ra), .val (.ref ia), .val (.double (own_div (own_tab (own_pos p1) (own_pos p2) (own_pos p3) false) mm)), .second, .val (.int (1 : Int32)), .val (.int (1 : Int32)), .val (.int (0 : Int32)), .unset, .unset, .unset, .unset, .unset, .unset, .unset, .unset, .unset]) X0 C at_137 rfl rfl ?_
        refine W.iload (q := 141) X0 C at_139 rfl rfl ?_
        refine W.iconst (q := 142) (v := 3) X0 C at_141 rfl rfl ?_
        refine W.icmpT (q := 154) X0 C at_142 (by decide) (by decide) (by decide : W.cT .le (3 : Int32) (3 : Int32)) ?_
        refine W.iconst (q := 155) (v := 0) X0 C at_154 rfl rfl ?_
        refine W.istore (q := 157) (L' := #[.val (.int p0), .val (.int p1), .val (.int p2), .val (.int p3), .val (.int p4), .val (.int (3 : Int32)), .val (.int mm), .val (.ref ra), .val (.ref ia), .val (.double (own_div (own_tab (own_pos p1) (own_pos p2) (own_pos p3) false) mm)), .second, .val (.int (1 : Int32)), .val (.int (1 : Int32)), .val (.int (0 : Int32)), .val (.int (0 : Int32)), .unset, .unset, .unset, .unset, .unset, .unset, .unset, .unset]) X0 C at_155 rfl rfl ?_
        rw [own_pt hc182, own_pt hc186, own_pf hc188]
        exact own_t1100 l Z a0 hw h0 n0 p0 p1 p2 p3 p4 (3 : Int32) mm ra ia sl C X0 e0 N0 hm hsl
      · replace hc188 : (0 : Int32).toInt < p3.toInt := hc188
        refine W.iconst (q := 133) (v := 1) X0 C at_132 rfl rfl ?_
        refine W.goto (q := 137) X0 C at_133 (by decide) (by decide) ?_
        refine W.istore (q := 139) (L' := #[.val (.int p0), .val (.int p1), .val (.int p2), .val (.int p3), .val (.int p4), .val (.int (3 : Int32)), .val (.int mm), .val (.ref ra), .val (.ref ia), .val (.double (own_div (own_tab (own_pos p1) (own_pos p2) (own_pos p3) false) mm)), .second, .val (.int (1 : Int32)), .val (.int (1 : Int32)), .val (.int (1 : Int32)), .unset, .unset, .unset, .unset, .unset, .unset, .unset, .unset, .unset]) X0 C at_137 rfl rfl ?_
        refine W.iload (q := 141) X0 C at_139 rfl rfl ?_
        refine W.iconst (q := 142) (v := 3) X0 C at_141 rfl rfl ?_
        refine W.icmpT (q := 154) X0 C at_142 (by decide) (by decide) (by decide : W.cT .le (3 : Int32) (3 : Int32)) ?_
        refine W.iconst (q := 155) (v := 0) X0 C at_154 rfl rfl ?_
        refine W.istore (q := 157) (L' := #[.val (.int p0), .val (.int p1), .val (.int p2), .val (.int p3), .val (.int p4), .val (.int (3 : Int32)), .val (.int mm), .val (.ref ra), .val (.ref ia), .val (.double (own_div (own_tab (own_pos p1) (own_pos p2) (own_pos p3) false) mm)), .second, .val (.int (1 : Int32)), .val (.int (1 : Int32)), .val (.int (1 : Int32)), .val (.int (0 : Int32)), .unset, .unset, .unset, .unset, .unset, .unset, .unset, .unset]) X0 C at_155 rfl rfl ?_
        rw [own_pt hc182, own_pt hc186, own_pt hc188]
        exact own_t1110 l Z a0 hw h0 n0 p0 p1 p2 p3 p4 (3 : Int32) mm ra ia sl C X0 e0 N0 hm hsl
set_option maxRecDepth 65536 in
set_option maxHeartbeats 40000000 in
theorem own_p4 (l : Launch) (Z : State) (a0 : Array Value) (hw : ∀ d ∈ tables_1, d.before a0 Z = true) (h0 : Heap) (n0 : Nat) (p0 p1 p2 p3 p4 mm : Int32) (ra ia : Addr) (sl : Nat) {p : Program} {e : Env} {s : State} {m : MethodId} {args : Array Value} {below : List Frame} {meth : Method} {c : Code} {T0 : State} {locs : List Loc}
    (C : W.Cx p s m meth c Z code 23 "com/example/cranfield/cranfield/measures/RankedQueryAveragePrecisionPinLaw" "law" (some .boolean)) (X0 : Stand p l e room_1 s m args below meth c T0 locs 3 sl) (e0 : T0.heap = h0) (N0 : Fr n0 locs) (hm : 0 ≤ mm.toInt ∧ mm.toInt ≤ 7) (hsl : sl ≤ 128) :
    W.Go p e below (W.Post s (fun v h L => v = some (.int 1) ∧ Fr n0 L) room_1.cells room_1.slots) (T0.setTop (mkF m 89 #[.val (.int p0), .val (.int p1), .val (.int p2), .val (.int p3), .val (.int p4), .val (.int (4 : Int32)), .val (.int mm), .val (.ref ra), .val (.ref ia), .val (.double (own_div (own_tab (own_pos p1) (own_pos p2) (own_pos p3) (own_pos p4)) mm)), .second, .unset, .unset, .unset, .unset, .unset, .unset, .unset, .unset, .unset, .unset, .unset, .unset] [])) := by
  refine W.iload (q := 91) X0 C at_89 rfl rfl ?_
  refine W.ifF (q := 94) X0 C at_91 rfl (by decide : W.cF .le (4 : Int32) 0) ?_
  refine W.iloadN (q := 95) X0 C at_94 rfl rfl ?_
  refine W.if_ (q := 102) (q' := 98) X0 C at_95 (by decide) (by decide) rfl (fun hc189 => ?_) (fun hc189 => ?_)
  · replace hc189 : p1.toInt ≤ (0 : Int32).toInt := hc189
    refine W.iconst (q := 103) (v := 0) X0 C at_102 rfl rfl ?_
    refine W.istore (q := 105) (L' := #[.val (.int p0), .val (.int p1), .val (.int p2), .val (.int p3), .val (.int p4), .val (.int (4 : Int32)), .val (.int mm), .val (.ref ra), .val (.ref ia), .val (.double (own_div (own_tab (own_pos p1) (own_pos p2) (own_pos p3) (own_pos p4)) mm)), .second, .val (.int (0 : Int32)), .unset, .unset, .unset, .unset, .unset, .unset, .unset, .unset, .unset, .unset, .unset]) X0 C at_103 rfl rfl ?_
    refine W.iload (q := 107) X0 C at_105 rfl rfl ?_
    refine W.iconst (q := 108) (v := 1) X0 C at_107 rfl rfl ?_
    refine W.icmpF (q := 111) X0 C at_108 rfl (by decide : W.cF .le (4 : Int32) (1 : Int32)) ?_
    refine W.iloadN (q := 112) X0 C at_111 rfl rfl ?_
    refine W.if_ (q := 119) (q' := 115) X0 C at_112 (by decide) (by decide) rfl (fun hc190 => ?_) (fun hc190 => ?_)
    · replace hc190 : p2.toInt ≤ (0 : Int32).toInt := hc190
      refine W.iconst (q := 120) (v := 0) X0 C at_119 rfl rfl ?_
      refine W.istore (q := 122) (L' := #[.val (.int p0), .val (.int p1), .val (.int p2), .val (.int p3), .val (.int p4), .val (.int (4 : Int32)), .val (.int mm), .val (.ref ra), .val (.ref ia), .val (.double (own_div (own_tab (own_pos p1) (own_pos p2) (own_pos p3) (own_pos p4)) mm)), .second, .val (.int (0 : Int32)), .val (.int (0 : Int32)), .unset, .unset, .unset, .unset, .unset, .unset, .unset, .unset, .unset, .unset]) X0 C at_120 rfl rfl ?_
      refine W.iload (q := 124) X0 C at_122 rfl rfl ?_
      refine W.iconst (q := 125) (v := 2) X0 C at_124 rfl rfl ?_
      refine W.icmpF (q := 128) X0 C at_125 rfl (by decide : W.cF .le (4 : Int32) (2 : Int32)) ?_
      refine W.iloadN (q := 129) X0 C at_128 rfl rfl ?_
      refine W.if_ (q := 136) (q' := 132) X0 C at_129 (by decide) (by decide) rfl (fun hc191 => ?_) (fun hc191 => ?_)
      · replace hc191 : p3.toInt ≤ (0 : Int32).toInt := hc191
        refine W.iconst (q := 137) (v := 0) X0 C at_136 rfl rfl ?_
        refine W.istore (q := 139) (L' := #[.val (.int p0), .val (.int p1), .val (.int p2), .val (.int p3), .val (.int p4), .val (.int (4 : Int32)), .val (.int mm), .val (.ref ra), .val (.ref ia), .val (.double (own_div (own_tab (own_pos p1) (own_pos p2) (own_pos p3) (own_pos p4)) mm)), .second, .val (.int (0 : Int32)), .val (.int (0 : Int32)), .val (.int (0 : Int32)), .unset, .unset, .unset, .unset, .unset, .unset, .unset, .unset, .unset]) X0 C at_137 rfl rfl ?_
        refine W.iload (q := 141) X0 C at_139 rfl rfl ?_
        refine W.iconst (q := 142) (v := 3) X0 C at_141 rfl rfl ?_
        refine W.icmpF (q := 145) X0 C at_142 rfl (by decide : W.cF .le (4 : Int32) (3 : Int32)) ?_
        refine W.iload (q := 147) X0 C at_145 rfl rfl ?_
        refine W.if_ (q := 154) (q' := 150) X0 C at_147 (by decide) (by decide) rfl (fun hc192 => ?_) (fun hc192 => ?_)
        · replace hc192 : p4.toInt ≤ (0 : Int32).toInt := hc192
          refine W.iconst (q := 155) (v := 0) X0 C at_154 rfl rfl ?_
          refine W.istore (q := 157) (L' := #[.val (.int p0), .val (.int p1), .val (.int p2), .val (.int p3), .val (.int p4), .val (.int (4 : Int32)), .val (.int mm), .val (.ref ra), .val (.ref ia), .val (.double (own_div (own_tab (own_pos p1) (own_pos p2) (own_pos p3) (own_pos p4)) mm)), .second, .val (.int (0 : Int32)), .val (.int (0 : Int32)), .val (.int (0 : Int32)), .val (.int (0 : Int32)), .unset, .unset, .unset, .unset, .unset, .unset, .unset, .unset]) X0 C at_155 rfl rfl ?_
          rw [own_pf hc189, own_pf hc190, own_pf hc191, own_pf hc192]
          exact own_t0000 l Z a0 hw h0 n0 p0 p1 p2 p3 p4 (4 : Int32) mm ra ia sl C X0 e0 N0 hm hsl
        · replace hc192 : (0 : Int32).toInt < p4.toInt := hc192
          refine W.iconst (q := 151) (v := 1) X0 C at_150 rfl rfl ?_
          refine W.goto (q := 155) X0 C at_151 (by decide) (by decide) ?_
          refine W.istore (q := 157) (L' := #[.val (.int p0), .val (.int p1), .val (.int p2), .val (.int p3), .val (.int p4), .val (.int (4 : Int32)), .val (.int mm), .val (.ref ra), .val (.ref ia), .val (.double (own_div (own_tab (own_pos p1) (own_pos p2) (own_pos p3) (own_pos p4)) mm)), .second, .val (.int (0 : Int32)), .val (.int (0 : Int32)), .val (.int (0 : Int32)), .val (.int (1 : Int32)), .unset, .unset, .unset, .unset, .unset, .unset, .unset, .unset]) X0 C at_155 rfl rfl ?_
          rw [own_pf hc189, own_pf hc190, own_pf hc191, own_pt hc192]
          exact own_t0001 l Z a0 hw h0 n0 p0 p1 p2 p3 p4 (4 : Int32) mm ra ia sl C X0 e0 N0 hm hsl
      · replace hc191 : (0 : Int32).toInt < p3.toInt := hc191
        refine W.iconst (q := 133) (v := 1) X0 C at_132 rfl rfl ?_
        refine W.goto (q := 137) X0 C at_133 (by decide) (by decide) ?_
        refine W.istore (q := 139) (L' := #[.val (.int p0), .val (.int p1), .val (.int p2), .val (.int p3), .val (.int p4), .val (.int (4 : Int32)), .val (.int mm), .val (.ref ra), .val (.ref ia), .val (.double (own_div (own_tab (own_pos p1) (own_pos p2) (own_pos p3) (own_pos p4)) mm)), .second, .val (.int (0 : Int32)), .val (.int (0 : Int32)), .val (.int (1 : Int32)), .unset, .unset, .unset, .unset, .unset, .unset, .unset, .unset, .unset]) X0 C at_137 rfl rfl ?_
        refine W.iload (q := 141) X0 C at_139 rfl rfl ?_
        refine W.iconst (q := 142) (v := 3) X0 C at_141 rfl rfl ?_
        refine W.icmpF (q := 145) X0 C at_142 rfl (by decide : W.cF .le (4 : Int32) (3 : Int32)) ?_
        refine W.iload (q := 147) X0 C at_145 rfl rfl ?_
        refine W.if_ (q := 154) (q' := 150) X0 C at_147 (by decide) (by decide) rfl (fun hc193 => ?_) (fun hc193 => ?_)
        · replace hc193 : p4.toInt ≤ (0 : Int32).toInt := hc193
          refine W.iconst (q := 155) (v := 0) X0 C at_154 rfl rfl ?_
          refine W.istore (q := 157) (L' := #[.val (.int p0), .val (.int p1), .val (.int p2), .val (.int p3), .val (.int p4), .val (.int (4 : Int32)), .val (.int mm), .val (.ref ra), .val (.ref ia), .val (.double (own_div (own_tab (own_pos p1) (own_pos p2) (own_pos p3) (own_pos p4)) mm)), .second, .val (.int (0 : Int32)), .val (.int (0 : Int32)), .val (.int (1 : Int32)), .val (.int (0 : Int32)), .unset, .unset, .unset, .unset, .unset, .unset, .unset, .unset]) X0 C at_155 rfl rfl ?_
          rw [own_pf hc189, own_pf hc190, own_pt hc191, own_pf hc193]
          exact own_t0010 l Z a0 hw h0 n0 p0 p1 p2 p3 p4 (4 : Int32) mm ra ia sl C X0 e0 N0 hm hsl
        · replace hc193 : (0 : Int32).toInt < p4.toInt := hc193
          refine W.iconst (q := 151) (v := 1) X0 C at_150 rfl rfl ?_
          refine W.goto (q := 155) X0 C at_151 (by decide) (by decide) ?_
          refine W.istore (q := 157) (L' := #[.val (.int p0), .val (.int p1), .val (.int p2), .val (.int p3), .val (.int p4), .val (.int (4 : Int32)), .val (.int mm), .val (.ref ra), .val (.ref ia), .val (.double (own_div (own_tab (own_pos p1) (own_pos p2) (own_pos p3) (own_pos p4)) mm)), .second, .val (.int (0 : Int32)), .val (.int (0 : Int32)), .val (.int (1 : Int32)), .val (.int (1 : Int32)), .unset, .unset, .unset, .unset, .unset, .unset, .unset, .unset]) X0 C at_155 rfl rfl ?_
          rw [own_pf hc189, own_pf hc190, own_pt hc191, own_pt hc193]
          exact own_t0011 l Z a0 hw h0 n0 p0 p1 p2 p3 p4 (4 : Int32) mm ra ia sl C X0 e0 N0 hm hsl
    · replace hc190 : (0 : Int32).toInt < p2.toInt := hc190
      refine W.iconst (q := 116) (v := 1) X0 C at_115 rfl rfl ?_
      refine W.goto (q := 120) X0 C at_116 (by decide) (by decide) ?_
      refine W.istore (q := 122) (L' := #[.val (.int p0), .val (.int p1), .val (.int p2), .val (.int p3), .val (.int p4), .val (.int (4 : Int32)), .val (.int mm), .val (.ref ra), .val (.ref ia), .val (.double (own_div (own_tab (own_pos p1) (own_pos p2) (own_pos p3) (own_pos p4)) mm)), .second, .val (.int (0 : Int32)), .val (.int (1 : Int32)), .unset, .unset, .unset, .unset, .unset, .unset, .unset, .unset, .unset, .unset]) X0 C at_120 rfl rfl ?_
      refine W.iload (q := 124) X0 C at_122 rfl rfl ?_
      refine W.iconst (q := 125) (v := 2) X0 C at_124 rfl rfl ?_
      refine W.icmpF (q := 128) X0 C at_125 rfl (by decide : W.cF .le (4 : Int32) (2 : Int32)) ?_
      refine W.iloadN (q := 129) X0 C at_128 rfl rfl ?_
      refine W.if_ (q := 136) (q' := 132) X0 C at_129 (by decide) (by decide) rfl (fun hc194 => ?_) (fun hc194 => ?_)
      · replace hc194 : p3.toInt ≤ (0 : Int32).toInt := hc194
        refine W.iconst (q := 137) (v := 0) X0 C at_136 rfl rfl ?_
        refine W.istore (q := 139) (L' := #[.val (.int p0), .val (.int p1), .val (.int p2), .val (.int p3), .val (.int p4), .val (.int (4 : Int32)), .val (.int mm), .val (.ref ra), .val (.ref ia), .val (.double (own_div (own_tab (own_pos p1) (own_pos p2) (own_pos p3) (own_pos p4)) mm)), .second, .val (.int (0 : Int32)), .val (.int (1 : Int32)), .val (.int (0 : Int32)), .unset, .unset, .unset, .unset, .unset, .unset, .unset, .unset, .unset]) X0 C at_137 rfl rfl ?_
        refine W.iload (q := 141) X0 C at_139 rfl rfl ?_
        refine W.iconst (q := 142) (v := 3) X0 C at_141 rfl rfl ?_
        refine W.icmpF (q := 145) X0 C at_142 rfl (by decide : W.cF .le (4 : Int32) (3 : Int32)) ?_
        refine W.iload (q := 147) X0 C at_145 rfl rfl ?_
        refine W.if_ (q := 154) (q' := 150) X0 C at_147 (by decide) (by decide) rfl (fun hc195 => ?_) (fun hc195 => ?_)
        · replace hc195 : p4.toInt ≤ (0 : Int32).toInt := hc195
          refine W.iconst (q := 155) (v := 0) X0 C at_154 rfl rfl ?_
          refine W.istore (q := 157) (L' := #[.val (.int p0), .val (.int p1), .val (.int p2), .val (.int p3), .val (.int p4), .val (.int (4 : Int32)), .val (.int mm), .val (.ref ra), .val (.ref ia), .val (.double (own_div (own_tab (own_pos p1) (own_pos p2) (own_pos p3) (own_pos p4)) mm)), .second, .val (.int (0 : Int32)), .val (.int (1 : Int32)), .val (.int (0 : Int32)), .val (.int (0 : Int32)), .unset, .unset, .unset, .unset, .unset, .unset, .unset, .unset]) X0 C at_155 rfl rfl ?_
          rw [own_pf hc189, own_pt hc190, own_pf hc194, own_pf hc195]
          exact own_t0100 l Z a0 hw h0 n0 p0 p1 p2 p3 p4 (4 : Int32) mm ra ia sl C X0 e0 N0 hm hsl
        · replace hc195 : (0 : Int32).toInt < p4.toInt := hc195
          refine W.iconst (q := 151) (v := 1) X0 C at_150 rfl rfl ?_
          refine W.goto (q := 155) X0 C at_151 (by decide) (by decide) ?_
          refine W.istore (q := 157) (L' := #[.val (.int p0), .val (.int p1), .val (.int p2), .val (.int p3), .val (.int p4), .val (.int (4 : Int32)), .val (.int mm), .val (.ref ra), .val (.ref ia), .val (.double (own_div (own_tab (own_pos p1) (own_pos p2) (own_pos p3) (own_pos p4)) mm)), .second, .val (.int (0 : Int32)), .val (.int (1 : Int32)), .val (.int (0 : Int32)), .val (.int (1 : Int32)), .unset, .unset, .unset, .unset, .unset, .unset, .unset, .unset]) X0 C at_155 rfl rfl ?_
          rw [own_pf hc189, own_pt hc190, own_pf hc194, own_pt hc195]
          exact own_t0101 l Z a0 hw h0 n0 p0 p1 p2 p3 p4 (4 : Int32) mm ra ia sl C X0 e0 N0 hm hsl
      · replace hc194 : (0 : Int32).toInt < p3.toInt := hc194
        refine W.iconst (q := 133) (v := 1) X0 C at_132 rfl rfl ?_
        refine W.goto (q := 137) X0 C at_133 (by decide) (by decide) ?_
        refine W.istore (q := 139) (L' := #[.val (.int p0), .val (.int p1), .val (.int p2), .val (.int p3), .val (.int p4), .val (.int (4 : Int32)), .val (.int mm), .val (.ref ra), .val (.ref ia), .val (.double (own_div (own_tab (own_pos p1) (own_pos p2) (own_pos p3) (own_pos p4)) mm)), .second, .val (.int (0 : Int32)), .val (.int (1 : Int32)), .val (.int (1 : Int32)), .unset, .unset, .unset, .unset, .unset, .unset, .unset, .unset, .unset]) X0 C at_137 rfl rfl ?_
        refine W.iload (q := 141) X0 C at_139 rfl rfl ?_
        refine W.iconst (q := 142) (v := 3) X0 C at_141 rfl rfl ?_
        refine W.icmpF (q := 145) X0 C at_142 rfl (by decide : W.cF .le (4 : Int32) (3 : Int32)) ?_
        refine W.iload (q := 147) X0 C at_145 rfl rfl ?_
        refine W.if_ (q := 154) (q' := 150) X0 C at_147 (by decide) (by decide) rfl (fun hc196 => ?_) (fun hc196 => ?_)
        · replace hc196 : p4.toInt ≤ (0 : Int32).toInt := hc196
          refine W.iconst (q := 155) (v := 0) X0 C at_154 rfl rfl ?_
          refine W.istore (q := 157) (L' := #[.val (.int p0), .val (.int p1), .val (.int p2), .val (.int p3), .val (.int p4), .val (.int (4 : Int32)), .val (.int mm), .val (.ref ra), .val (.ref ia), .val (.double (own_div (own_tab (own_pos p1) (own_pos p2) (own_pos p3) (own_pos p4)) mm)), .second, .val (.int (0 : Int32)), .val (.int (1 : Int32)), .val (.int (1 : Int32)), .val (.int (0 : Int32)), .unset, .unset, .unset, .unset, .unset, .unset, .unset, .unset]) X0 C at_155 rfl rfl ?_
          rw [own_pf hc189, own_pt hc190, own_pt hc194, own_pf hc196]
          exact own_t0110 l Z a0 hw h0 n0 p0 p1 p2 p3 p4 (4 : Int32) mm ra ia sl C X0 e0 N0 hm hsl
        · replace hc196 : (0 : Int32).toInt < p4.toInt := hc196
          refine W.iconst (q := 151) (v := 1) X0 C at_150 rfl rfl ?_
          refine W.goto (q := 155) X0 C at_151 (by decide) (by decide) ?_
          refine W.istore (q := 157) (L' := #[.val (.int p0), .val (.int p1), .val (.int p2), .val (.int p3), .val (.int p4), .val (.int (4 : Int32)), .val (.int mm), .val (.ref ra), .val (.ref ia), .val (.double (own_div (own_tab (own_pos p1) (own_pos p2) (own_pos p3) (own_pos p4)) mm)), .second, .val (.int (0 : Int32)), .val (.int (1 : Int32)), .val (.int (1 : Int32)), .val (.int (1 : Int32)), .unset, .unset, .unset, .unset, .unset, .unset, .unset, .unset]) X0 C at_155 rfl rfl ?_
          rw [own_pf hc189, own_pt hc190, own_pt hc194, own_pt hc196]
          exact own_t0111 l Z a0 hw h0 n0 p0 p1 p2 p3 p4 (4 : Int32) mm ra ia sl C X0 e0 N0 hm hsl
  · replace hc189 : (0 : Int32).toInt < p1.toInt := hc189
    refine W.iconst (q := 99) (v := 1) X0 C at_98 rfl rfl ?_
    refine W.goto (q := 103) X0 C at_99 (by decide) (by decide) ?_
    refine W.istore (q := 105) (L' := #[.val (.int p0), .val (.int p1), .val (.int p2), .val (.int p3), .val (.int p4), .val (.int (4 : Int32)), .val (.int mm), .val (.ref ra), .val (.ref ia), .val (.double (own_div (own_tab (own_pos p1) (own_pos p2) (own_pos p3) (own_pos p4)) mm)), .second, .val (.int (1 : Int32)), .unset, .unset, .unset, .unset, .unset, .unset, .unset, .unset, .unset, .unset, .unset]) X0 C at_103 rfl rfl ?_
    refine W.iload (q := 107) X0 C at_105 rfl rfl ?_
    refine W.iconst (q := 108) (v := 1) X0 C at_107 rfl rfl ?_
    refine W.icmpF (q := 111) X0 C at_108 rfl (by decide : W.cF .le (4 : Int32) (1 : Int32)) ?_
    refine W.iloadN (q := 112) X0 C at_111 rfl rfl ?_
    refine W.if_ (q := 119) (q' := 115) X0 C at_112 (by decide) (by decide) rfl (fun hc197 => ?_) (fun hc197 => ?_)
    · replace hc197 : p2.toInt ≤ (0 : Int32).toInt := hc197
      refine W.iconst (q := 120) (v := 0) X0 C at_119 rfl rfl ?_
      refine W.istore (q := 122) (L' := #[.val (.int p0), .val (.int p1), .val (.int p2), .val (.int p3), .val (.int p4), .val (.int (4 : Int32)), .val (.int mm), .val (.ref ra), .val (.ref ia), .val (.double (own_div (own_tab (own_pos p1) (own_pos p2) (own_pos p3) (own_pos p4)) mm)), .second, .val (.int (1 : Int32)), .val (.int (0 : Int32)), .unset, .unset, .unset, .unset, .unset, .unset, .unset, .unset, .unset, .unset]) X0 C at_120 rfl rfl ?_
      refine W.iload (q := 124) X0 C at_122 rfl rfl ?_
      refine W.iconst (q := 125) (v := 2) X0 C at_124 rfl rfl ?_
      refine W.icmpF (q := 128) X0 C at_125 rfl (by decide : W.cF .le (4 : Int32) (2 : Int32)) ?_
      refine W.iloadN (q := 129) X0 C at_128 rfl rfl ?_
      refine W.if_ (q := 136) (q' := 132) X0 C at_129 (by decide) (by decide) rfl (fun hc198 => ?_) (fun hc198 => ?_)
      · replace hc198 : p3.toInt ≤ (0 : Int32).toInt := hc198
        refine W.iconst (q := 137) (v := 0) X0 C at_136 rfl rfl ?_
        refine W.istore (q := 139) (L' := #[.val (.int p0), .val (.int p1), .val (.int p2), .val (.int p3), .val (.int p4), .val (.int (4 : Int32)), .val (.int mm), .val (.ref ra), .val (.ref ia), .val (.double (own_div (own_tab (own_pos p1) (own_pos p2) (own_pos p3) (own_pos p4)) mm)), .second, .val (.int (1 : Int32)), .val (.int (0 : Int32)), .val (.int (0 : Int32)), .unset, .unset, .unset, .unset, .unset, .unset, .unset, .unset, .unset]) X0 C at_137 rfl rfl ?_
        refine W.iload (q := 141) X0 C at_139 rfl rfl ?_
        refine W.iconst (q := 142) (v := 3) X0 C at_141 rfl rfl ?_
        refine W.icmpF (q := 145) X0 C at_142 rfl (by decide : W.cF .le (4 : Int32) (3 : Int32)) ?_
        refine W.iload (q := 147) X0 C at_145 rfl rfl ?_
        refine W.if_ (q := 154) (q' := 150) X0 C at_147 (by decide) (by decide) rfl (fun hc199 => ?_) (fun hc199 => ?_)
        · replace hc199 : p4.toInt ≤ (0 : Int32).toInt := hc199
          refine W.iconst (q := 155) (v := 0) X0 C at_154 rfl rfl ?_
          refine W.istore (q := 157) (L' := #[.val (.int p0), .val (.int p1), .val (.int p2), .val (.int p3), .val (.int p4), .val (.int (4 : Int32)), .val (.int mm), .val (.ref ra), .val (.ref ia), .val (.double (own_div (own_tab (own_pos p1) (own_pos p2) (own_pos p3) (own_pos p4)) mm)), .second, .val (.int (1 : Int32)), .val (.int (0 : Int32)), .val (.int (0 : Int32)), .val (.int (0 : Int32)), .unset, .unset, .unset, .unset, .unset, .unset, .unset, .unset]) X0 C at_155 rfl rfl ?_
          rw [own_pt hc189, own_pf hc197, own_pf hc198, own_pf hc199]
          exact own_t1000 l Z a0 hw h0 n0 p0 p1 p2 p3 p4 (4 : Int32) mm ra ia sl C X0 e0 N0 hm hsl
        · replace hc199 : (0 : Int32).toInt < p4.toInt := hc199
          refine W.iconst (q := 151) (v := 1) X0 C at_150 rfl rfl ?_
          refine W.goto (q := 155) X0 C at_151 (by decide) (by decide) ?_
          refine W.istore (q := 157) (L' := #[.val (.int p0), .val (.int p1), .val (.int p2), .val (.int p3), .val (.int p4), .val (.int (4 : Int32)), .val (.int mm), .val (.ref ra), .val (.ref ia), .val (.double (own_div (own_tab (own_pos p1) (own_pos p2) (own_pos p3) (own_pos p4)) mm)), .second, .val (.int (1 : Int32)), .val (.int (0 : Int32)), .val (.int (0 : Int32)), .val (.int (1 : Int32)), .unset, .unset, .unset, .unset, .unset, .unset, .unset, .unset]) X0 C at_155 rfl rfl ?_
          rw [own_pt hc189, own_pf hc197, own_pf hc198, own_pt hc199]
          exact own_t1001 l Z a0 hw h0 n0 p0 p1 p2 p3 p4 (4 : Int32) mm ra ia sl C X0 e0 N0 hm hsl
      · replace hc198 : (0 : Int32).toInt < p3.toInt := hc198
        refine W.iconst (q := 133) (v := 1) X0 C at_132 rfl rfl ?_
        refine W.goto (q := 137) X0 C at_133 (by decide) (by decide) ?_
        refine W.istore (q := 139) (L' := #[.val (.int p0), .val (.int p1), .val (.int p2), .val (.int p3), .val (.int p4), .val (.int (4 : Int32)), .val (.int mm), .val (.ref ra), .val (.ref ia), .val (.double (own_div (own_tab (own_pos p1) (own_pos p2) (own_pos p3) (own_pos p4)) mm)), .second, .val (.int (1 : Int32)), .val (.int (0 : Int32)), .val (.int (1 : Int32)), .unset, .unset, .unset, .unset, .unset, .unset, .unset, .unset, .unset]) X0 C at_137 rfl rfl ?_
        refine W.iload (q := 141) X0 C at_139 rfl rfl ?_
        refine W.iconst (q := 142) (v := 3) X0 C at_141 rfl rfl ?_
        refine W.icmpF (q := 145) X0 C at_142 rfl (by decide : W.cF .le (4 : Int32) (3 : Int32)) ?_
        refine W.iload (q := 147) X0 C at_145 rfl rfl ?_
        refine W.if_ (q := 154) (q' := 150) X0 C at_147 (by decide) (by decide) rfl (fun hc200 => ?_) (fun hc200 => ?_)
        · replace hc200 : p4.toInt ≤ (0 : Int32).toInt := hc200
          refine W.iconst (q := 155) (v := 0) X0 C at_154 rfl rfl ?_
          refine W.istore (q := 157) (L' := #[.val (.int p0), .val (.int p1), .val (.int p2), .val (.int p3), .val (.int p4), .val (.int (4 : Int32)), .val (.int mm), .val (.ref ra), .val (.ref ia), .val (.double (own_div (own_tab (own_pos p1) (own_pos p2) (own_pos p3) (own_pos p4)) mm)), .second, .val (.int (1 : Int32)), .val (.int (0 : Int32)), .val (.int (1 : Int32)), .val (.int (0 : Int32)), .unset, .unset, .unset, .unset, .unset, .unset, .unset, .unset]) X0 C at_155 rfl rfl ?_
          rw [own_pt hc189, own_pf hc197, own_pt hc198, own_pf hc200]
          exact own_t1010 l Z a0 hw h0 n0 p0 p1 p2 p3 p4 (4 : Int32) mm ra ia sl C X0 e0 N0 hm hsl
        · replace hc200 : (0 : Int32).toInt < p4.toInt := hc200
          refine W.iconst (q := 151) (v := 1) X0 C at_150 rfl rfl ?_
          refine W.goto (q := 155) X0 C at_151 (by decide) (by decide) ?_
          refine W.istore (q := 157) (L' := #[.val (.int p0), .val (.int p1), .val (.int p2), .val (.int p3), .val (.int p4), .val (.int (4 : Int32)), .val (.int mm), .val (.ref ra), .val (.ref ia), .val (.double (own_div (own_tab (own_pos p1) (own_pos p2) (own_pos p3) (own_pos p4)) mm)), .second, .val (.int (1 : Int32)), .val (.int (0 : Int32)), .val (.int (1 : Int32)), .val (.int (1 : Int32)), .unset, .unset, .unset, .unset, .unset, .unset, .unset, .unset]) X0 C at_155 rfl rfl ?_
          rw [own_pt hc189, own_pf hc197, own_pt hc198, own_pt hc200]
          exact own_t1011 l Z a0 hw h0 n0 p0 p1 p2 p3 p4 (4 : Int32) mm ra ia sl C X0 e0 N0 hm hsl
    · replace hc197 : (0 : Int32).toInt < p2.toInt := hc197
      refine W.iconst (q := 116) (v := 1) X0 C at_115 rfl rfl ?_
      refine W.goto (q := 120) X0 C at_116 (by decide) (by decide) ?_
      refine W.istore (q := 122) (L' := #[.val (.int p0), .val (.int p1), .val (.int p2), .val (.int p3), .val (.int p4), .val (.int (4 : Int32)), .val (.int mm), .val (.ref ra), .val (.ref ia), .val (.double (own_div (own_tab (own_pos p1) (own_pos p2) (own_pos p3) (own_pos p4)) mm)), .second, .val (.int (1 : Int32)), .val (.int (1 : Int32)), .unset, .unset, .unset, .unset, .unset, .unset, .unset, .unset, .unset, .unset]) X0 C at_120 rfl rfl ?_
      refine W.iload (q := 124) X0 C at_122 rfl rfl ?_
      refine W.iconst (q := 125) (v := 2) X0 C at_124 rfl rfl ?_
      refine W.icmpF (q := 128) X0 C at_125 rfl (by decide : W.cF .le (4 : Int32) (2 : Int32)) ?_
      refine W.iloadN (q := 129) X0 C at_128 rfl rfl ?_
      refine W.if_ (q := 136) (q' := 132) X0 C at_129 (by decide) (by decide) rfl (fun hc201 => ?_) (fun hc201 => ?_)
      · replace hc201 : p3.toInt ≤ (0 : Int32).toInt := hc201
        refine W.iconst (q := 137) (v := 0) X0 C at_136 rfl rfl ?_
        refine W.istore (q := 139) (L' := #[.val (.int p0), .val (.int p1), .val (.int p2), .val (.int p3), .val (.int p4), .val (.int (4 : Int32)), .val (.int mm), .val (.ref ra), .val (.ref ia), .val (.double (own_div (own_tab (own_pos p1) (own_pos p2) (own_pos p3) (own_pos p4)) mm)), .second, .val (.int (1 : Int32)), .val (.int (1 : Int32)), .val (.int (0 : Int32)), .unset, .unset, .unset, .unset, .unset, .unset, .unset, .unset, .unset]) X0 C at_137 rfl rfl ?_
        refine W.iload (q := 141) X0 C at_139 rfl rfl ?_
        refine W.iconst (q := 142) (v := 3) X0 C at_141 rfl rfl ?_
        refine W.icmpF (q := 145) X0 C at_142 rfl (by decide : W.cF .le (4 : Int32) (3 : Int32)) ?_
        refine W.iload (q := 147) X0 C at_145 rfl rfl ?_
        refine W.if_ (q := 154) (q' := 150) X0 C at_147 (by decide) (by decide) rfl (fun hc202 => ?_) (fun hc202 => ?_)
        · replace hc202 : p4.toInt ≤ (0 : Int32).toInt := hc202
          refine W.iconst (q := 155) (v := 0) X0 C at_154 rfl rfl ?_
          refine W.istore (q := 157) (L' := #[.val (.int p0), .val (.int p1), .val (.int p2), .val (.int p3), .val (.int p4), .val (.int (4 : Int32)), .val (.int mm), .val (.ref ra), .val (.ref ia), .val (.double (own_div (own_tab (own_pos p1) (own_pos p2) (own_pos p3) (own_pos p4)) mm)), .second, .val (.int (1 : Int32)), .val (.int (1 : Int32)), .val (.int (0 : Int32)), .val (.int (0 : Int32)), .unset, .unset, .unset, .unset, .unset, .unset, .unset, .unset]) X0 C at_155 rfl rfl ?_
          rw [own_pt hc189, own_pt hc197, own_pf hc201, own_pf hc202]
          exact own_t1100 l Z a0 hw h0 n0 p0 p1 p2 p3 p4 (4 : Int32) mm ra ia sl C X0 e0 N0 hm hsl
        · replace hc202 : (0 : Int32).toInt < p4.toInt := hc202
          refine W.iconst (q := 151) (v := 1) X0 C at_150 rfl rfl ?_
          refine W.goto (q := 155) X0 C at_151 (by decide) (by decide) ?_
          refine W.istore (q := 157) (L' := #[.val (.int p0), .val (.int p1), .val (.int p2), .val (.int p3), .val (.int p4), .val (.int (4 : Int32)), .val (.int mm), .val (.ref ra), .val (.ref ia), .val (.double (own_div (own_tab (own_pos p1) (own_pos p2) (own_pos p3) (own_pos p4)) mm)), .second, .val (.int (1 : Int32)), .val (.int (1 : Int32)), .val (.int (0 : Int32)), .val (.int (1 : Int32)), .unset, .unset, .unset, .unset, .unset, .unset, .unset, .unset]) X0 C at_155 rfl rfl ?_
          rw [own_pt hc189, own_pt hc197, own_pf hc201, own_pt hc202]
          exact own_t1101 l Z a0 hw h0 n0 p0 p1 p2 p3 p4 (4 : Int32) mm ra ia sl C X0 e0 N0 hm hsl
      · replace hc201 : (0 : Int32).toInt < p3.toInt := hc201
        refine W.iconst (q := 133) (v := 1) X0 C at_132 rfl rfl ?_
        refine W.goto (q := 137) X0 C at_133 (by decide) (by decide) ?_
        refine W.istore (q := 139) (L' := #[.val (.int p0), .val (.int p1), .val (.int p2), .val (.int p3), .val (.int p4), .val (.int (4 : Int32)), .val (.int mm), .val (.ref ra), .val (.ref ia), .val (.double (own_div (own_tab (own_pos p1) (own_pos p2) (own_pos p3) (own_pos p4)) mm)), .second, .val (.int (1 : Int32)), .val (.int (1 : Int32)), .val (.int (1 : Int32)), .unset, .unset, .unset, .unset, .unset, .unset, .unset, .unset, .unset]) X0 C at_137 rfl rfl ?_
        refine W.iload (q := 141) X0 C at_139 rfl rfl ?_
        refine W.iconst (q := 142) (v := 3) X0 C at_141 rfl rfl ?_
        refine W.icmpF (q := 145) X0 C at_142 rfl (by decide : W.cF .le (4 : Int32) (3 : Int32)) ?_
        refine W.iload (q := 147) X0 C at_145 rfl rfl ?_
        refine W.if_ (q := 154) (q' := 150) X0 C at_147 (by decide) (by decide) rfl (fun hc203 => ?_) (fun hc203 => ?_)
        · replace hc203 : p4.toInt ≤ (0 : Int32).toInt := hc203
          refine W.iconst (q := 155) (v := 0) X0 C at_154 rfl rfl ?_
          refine W.istore (q := 157) (L' := #[.val (.int p0), .val (.int p1), .val (.int p2), .val (.int p3), .val (.int p4), .val (.int (4 : Int32)), .val (.int mm), .val (.ref ra), .val (.ref ia), .val (.double (own_div (own_tab (own_pos p1) (own_pos p2) (own_pos p3) (own_pos p4)) mm)), .second, .val (.int (1 : Int32)), .val (.int (1 : Int32)), .val (.int (1 : Int32)), .val (.int (0 : Int32)), .unset, .unset, .unset, .unset, .unset, .unset, .unset, .unset]) X0 C at_155 rfl rfl ?_
          rw [own_pt hc189, own_pt hc197, own_pt hc201, own_pf hc203]
          exact own_t1110 l Z a0 hw h0 n0 p0 p1 p2 p3 p4 (4 : Int32) mm ra ia sl C X0 e0 N0 hm hsl
        · replace hc203 : (0 : Int32).toInt < p4.toInt := hc203
          refine W.iconst (q := 151) (v := 1) X0 C at_150 rfl rfl ?_
          refine W.goto (q := 155) X0 C at_151 (by decide) (by decide) ?_
          refine W.istore (q := 157) (L' := #[.val (.int p0), .val (.int p1), .val (.int p2), .val (.int p3), .val (.int p4), .val (.int (4 : Int32)), .val (.int mm), .val (.ref ra), .val (.ref ia), .val (.double (own_div (own_tab (own_pos p1) (own_pos p2) (own_pos p3) (own_pos p4)) mm)), .second, .val (.int (1 : Int32)), .val (.int (1 : Int32)), .val (.int (1 : Int32)), .val (.int (1 : Int32)), .unset, .unset, .unset, .unset, .unset, .unset, .unset, .unset]) X0 C at_155 rfl rfl ?_
          rw [own_pt hc189, own_pt hc197, own_pt hc201, own_pt hc203]
          exact own_t1111 l Z a0 hw h0 n0 p0 p1 p2 p3 p4 (4 : Int32) mm ra ia sl C X0 e0 N0 hm hsl
theorem pd__28_5bI_5bI_29V : parseMethodDescriptor "([I[I)V" = some ⟨[(.array .int), (.array .int)], none⟩ := by decide +kernel
theorem pd__28_29D : parseMethodDescriptor "()D" = some ⟨[], some .double⟩ := by decide +kernel
theorem pn_com_example_cranfield_cranfield_measures_RankedQueryAveragePrecisionPinLaw : plainName "com/example/cranfield/cranfield/measures/RankedQueryAveragePrecisionPinLaw" = true := by first | (simp [plainName, overriddenIn]; done) | decide +kernel
def Q0 (Z : State) (p0 p1 p2 p3 p4 : Int32) (h0 : Heap) (n0 : Nat) (v : Option Value) (h : Heap) (L : List Loc) : Prop := v = some (.int 1) ∧ Fr n0 L
set_option maxRecDepth 65536 in
set_option maxHeartbeats 40000000 in
theorem rm0 (l : Launch) (Z : State) (a0 : Array Value) (hw : ∀ d ∈ tables_1, d.before a0 Z = true) (ws : List Jvm.Cond) (p0 p1 p2 p3 p4 : Int32) (h0 : Heap) (n0 : Nat) (Z0 : n0 ≤ h0.size) :
    MetFree l x (head1 (Jvm.Cond.code x code maxLocals ret :: ws) room_1) (fun a U => a = #[(.int p0), (.int p1), (.int p2), (.int p3), (.int p4)] ∧ Z.Warmed39 U.vm ∧ U.heap = h0) (fun _ _ _ _ _ => True) (fun _ U o U' => ∃ v L, o = .returned v ∧ Q0 Z p0 p1 p2 p3 p4 h0 n0 v U'.heap L ∧ FrameEnd U o U' L room_1.cells room_1.slots) := by
  refine W.bodyOf (y := x) (as := #[(.int p0), (.int p1), (.int p2), (.int p3), (.int p4)]) (maxL := maxLocals) (Q := Q0 Z p0 p1 p2 p3 p4 h0 n0) (Ls := #[.val (.int p0), .val (.int p1), .val (.int p2), .val (.int p3), .val (.int p4), .unset, .unset, .unset, .unset, .unset, .unset, .unset, .unset, .unset, .unset, .unset, .unset, .unset, .unset, .unset, .unset, .unset, .unset]) (plainFor_of_name pn_com_example_cranfield_cranfield_measures_RankedQueryAveragePrecisionPinLaw) (fun m => by first | exact W.entry_of rfl | rfl | (simp [entryFrame, mkF, argsToLocals, Value.category, maxLocals]; done)) ?_
  intro p e s m below meth c T0 C X0 e0
  replace C : W.Cx p s m meth c Z code 23 "com/example/cranfield/cranfield/measures/RankedQueryAveragePrecisionPinLaw" "law" (some .boolean) := C
  have N0 := Fr.nil n0
  refine W.iloadN (q := 1) X0 C at_0 rfl rfl ?_
  refine W.ldcI (q := 3) X0 C (W.ww hw 0 rfl) at_1 rfl ?_
  refine W.iand (q := 4) X0 C at_3 rfl ?_
  refine W.iconst (q := 5) (v := 5) X0 C at_4 rfl rfl ?_
  refine W.irem (q := 6) X0 C at_5 (by decide) rfl ?_
  generalize hv204 : ((p0 &&& (2147483647 : Int32)) % (5 : Int32)) = v204
  refine W.istore (q := 8) (L' := #[.val (.int p0), .val (.int p1), .val (.int p2), .val (.int p3), .val (.int p4), .val (.int v204), .unset, .unset, .unset, .unset, .unset, .unset, .unset, .unset, .unset, .unset, .unset, .unset, .unset, .unset, .unset, .unset, .unset]) X0 C at_6 rfl rfl ?_
  refine W.iloadN (q := 9) X0 C at_8 rfl rfl ?_
  refine W.bipush (q := 11) (v := 8) X0 C at_9 rfl rfl ?_
  refine W.iushr (q := 12) X0 C at_11 rfl ?_
  refine W.bipush (q := 14) (v := 7) X0 C at_12 rfl rfl ?_
  refine W.iand (q := 15) X0 C at_14 rfl ?_
  generalize hv205 : (((p0.toUInt32 >>> ((8 : Int32) &&& 31).toUInt32).toInt32) &&& (7 : Int32)) = v205
  refine W.istore (q := 17) (L' := #[.val (.int p0), .val (.int p1), .val (.int p2), .val (.int p3), .val (.int p4), .val (.int v204), .val (.int v205), .unset, .unset, .unset, .unset, .unset, .unset, .unset, .unset, .unset, .unset, .unset, .unset, .unset, .unset, .unset, .unset]) X0 C at_15 rfl rfl ?_
  have hm := own_07 _ _ hv205
  rcases own_04 _ _ hv204 with rfl | rfl | rfl | rfl | rfl
  · show W.Go p e below _ (T0.setTop (mkF m 17 #[.val (.int p0), .val (.int p1), .val (.int p2), .val (.int p3), .val (.int p4), .val (.int (0 : Int32)), .val (.int v205), .unset, .unset, .unset, .unset, .unset, .unset, .unset, .unset, .unset, .unset, .unset, .unset, .unset, .unset, .unset, .unset] []))
    refine W.iload (q := 19) X0 C at_17 rfl rfl ?_
    refine W.newarray (q := 21) X0 C (W.ww hw 1 rfl) e0 (by decide) 0 (by decide) (by decide) at_19 (by decide) (by decide) rfl (fun T206 h206 b206 k206 X206 e206 g206 E206 V206_ => ?_)
    have ge_b206 : n0 ≤ b206 := by rw [g206]; exact Z0
    have n0_206 : n0 ≤ h206.size := Nat.le_trans Z0 E206.1
    have V206 : Arv Z h206 b206 k206 .int (0 : Int32) [] (.int (0 : Int32)) := V206_
    refine W.astore (q := 23) (L' := #[.val (.int p0), .val (.int p1), .val (.int p2), .val (.int p3), .val (.int p4), .val (.int (0 : Int32)), .val (.int v205), .val (.ref b206), .unset, .unset, .unset, .unset, .unset, .unset, .unset, .unset, .unset, .unset, .unset, .unset, .unset, .unset, .unset]) X206 C at_21 rfl rfl rfl ?_
    refine W.iload (q := 25) X206 C at_23 rfl rfl ?_
    refine W.ifT (q := 33) X206 C at_25 (by decide) (by decide) (by decide : W.cT .le (0 : Int32) 0) ?_
    refine W.iload (q := 35) X206 C at_33 rfl rfl ?_
    refine W.iconst (q := 36) (v := 1) X206 C at_35 rfl rfl ?_
    refine W.icmpT (q := 44) X206 C at_36 (by decide) (by decide) (by decide : W.cT .le (0 : Int32) (1 : Int32)) ?_
    refine W.iload (q := 46) X206 C at_44 rfl rfl ?_
    refine W.iconst (q := 47) (v := 2) X206 C at_46 rfl rfl ?_
    refine W.icmpT (q := 55) X206 C at_47 (by decide) (by decide) (by decide : W.cT .le (0 : Int32) (2 : Int32)) ?_
    refine W.iload (q := 57) X206 C at_55 rfl rfl ?_
    refine W.iconst (q := 58) (v := 3) X206 C at_57 rfl rfl ?_
    refine W.icmpT (q := 67) X206 C at_58 (by decide) (by decide) (by decide : W.cT .le (0 : Int32) (3 : Int32)) ?_
    refine W.iload (q := 69) X206 C at_67 rfl rfl ?_
    refine W.newarray (q := 71) X206 C (W.ww hw 1 rfl) e206 hm.1 7 hm.2 (by decide) at_69 (by decide) (by decide) rfl (fun T208 h208 b208 k208 X208 e208 g208 E208 V208_ => ?_)
    have ne_b206_b208 : b206 ≠ b208 := by rw [g208]; exact Nat.ne_of_lt V206.lt
    have ge_b208 : n0 ≤ b208 := by rw [g208]; exact n0_206
    have n0_208 : n0 ≤ h208.size := Nat.le_trans n0_206 E208.1
    have V206_210 := V206.ext E208
    have V208 : Arv Z h208 b208 k208 .int v205 [(.int (0 : Int32)), (.int (0 : Int32)), (.int (0 : Int32)), (.int (0 : Int32)), (.int (0 : Int32)), (.int (0 : Int32)), (.int (0 : Int32))] (.int (0 : Int32)) := V208_
    refine W.astore (q := 73) (L' := #[.val (.int p0), .val (.int p1), .val (.int p2), .val (.int p3), .val (.int p4), .val (.int (0 : Int32)), .val (.int v205), .val (.ref b206), .val (.ref b208), .unset, .unset, .unset, .unset, .unset, .unset, .unset, .unset, .unset, .unset, .unset, .unset, .unset, .unset]) X208 C at_71 rfl rfl rfl ?_
    refine W.newO (q := 76) X208 C (W.ww hw 2 rfl) (W.ww hw 3 rfl) (W.ww hw 4 rfl) e208 at_73 (by decide) (by decide) rfl (fun T211 h211 b211 X211 e211 g211 E211 A211 D211 => ?_)
    have ne_b206_b211 : b206 ≠ b211 := by rw [g211]; exact Nat.ne_of_lt V206_210.lt
    have ne_b208_b211 : b208 ≠ b211 := by rw [g211]; exact Nat.ne_of_lt V208.lt
    have ge_b211 : n0 ≤ b211 := by rw [g211]; exact n0_208
    have n0_211 : n0 ≤ h211.size := Nat.le_trans n0_208 E211.1
    have V206_213 := V206_210.ext E211
    have V208_214 := V208.ext E211
    have F_ranked_215 : Fld Z h211 b211 "com/example/cranfield/cranfield/measures/RankedQuery" "ranked" "[I" .null := D211 (Or.inr (W.ww hw 12 rfl)) (ty := (.array .int)) (by decide)
    have F_ideal_216 : Fld Z h211 b211 "com/example/cranfield/cranfield/measures/RankedQuery" "ideal" "[I" .null := D211 (Or.inr (W.ww hw 14 rfl)) (ty := (.array .int)) (by decide)
    refine W.dup (q := 77) X211 C at_76 rfl rfl ?_
    refine W.aload (q := 79) X211 C at_77 rfl rfl rfl ?_
    refine W.aload (q := 81) X211 C at_79 rfl rfl rfl ?_
    refine W.callI (q := 84) X211 C rfl (W.ww hw 5 rfl) (W.ww hw 6 rfl) (W.ww hw 4 rfl) (W.ww hw 7 rfl) (by decide) (rm1 l Z a0 hw [] b211 b206 b208 h211 n0 n0_211 A211 F_ranked_215 F_ideal_216 ge_b211) e211 at_81 (a := b211) [(.ref b206), (.ref b208)] [(.ref b211)] rfl rfl pd__28_5bI_5bI_29V rfl rfl (by decide) (Nat.le_of_ble_eq_true rfl) (by decide) (by decide) rfl (fun T217 w217 L217 X217 hQ217 => ?_)
    obtain ⟨rfl, NL217, K217, E_217, Fa_217, Fb_217⟩ := hQ217
    have N217 := Fr.app N0 NL217
    have V206_219 := V206_213.keep K217 (ninS ne_b206_b211 nin0)
    have V208_220 := V208_214.keep K217 (ninS ne_b208_b211 nin0)
    have n0_217 : n0 ≤ T217.heap.size := Nat.le_trans n0_211 K217.1
    show W.Go p e below _ (T217.setTop (mkF m 84 #[.val (.int p0), .val (.int p1), .val (.int p2), .val (.int p3), .val (.int p4), .val (.int (0 : Int32)), .val (.int v205), .val (.ref b206), .val (.ref b208), .unset, .unset, .unset, .unset, .unset, .unset, .unset, .unset, .unset, .unset, .unset, .unset, .unset, .unset] [(.ref b211)]))
    refine W.callV (q := 87) X217 C (W.ww hw 15 rfl) (W.ww hw 16 rfl) (W.nf C (W.ww hw 18 rfl)) (W.ww hw 18 rfl) (W.ww hw 17 rfl) (W.ww hw 4 rfl) (W.ww hw 19 rfl) (by decide) (rm3_0 l Z a0 hw [] b211 b206 b208 k206 k208 v205 _  T217.heap n0 Fa_217 Fb_217 V206_219 V208_220 hm) rfl E_217 at_84 [] [] rfl rfl pd__28_29D rfl rfl (by decide) (Nat.le_of_ble_eq_true rfl) (by decide) (by decide) rfl (fun T221 w221 L221 X221 hQ221 => ?_)
    obtain ⟨rfl, NL221, e221⟩ := hQ221
    have N221 := Fr.app N217 NL221
    show W.Go p e below _ (T221.setTop (mkF m 87 #[.val (.int p0), .val (.int p1), .val (.int p2), .val (.int p3), .val (.int p4), .val (.int (0 : Int32)), .val (.int v205), .val (.ref b206), .val (.ref b208), .unset, .unset, .unset, .unset, .unset, .unset, .unset, .unset, .unset, .unset, .unset, .unset, .unset, .unset] [(.double (own_div (own_tab false false false false) v205))]))
    refine W.dstore (q := 89) (L' := #[.val (.int p0), .val (.int p1), .val (.int p2), .val (.int p3), .val (.int p4), .val (.int (0 : Int32)), .val (.int v205), .val (.ref b206), .val (.ref b208), .val (.double (own_div (own_tab false false false false) v205)), .second, .unset, .unset, .unset, .unset, .unset, .unset, .unset, .unset, .unset, .unset, .unset, .unset]) X221 C at_87 rfl rfl ?_
    exact own_p0 l Z a0 hw T217.heap n0 p0 p1 p2 p3 p4 v205 b206 b208 _ C X221 e221 N221 hm (by decide)
  · show W.Go p e below _ (T0.setTop (mkF m 17 #[.val (.int p0), .val (.int p1), .val (.int p2), .val (.int p3), .val (.int p4), .val (.int (1 : Int32)), .val (.int v205), .unset, .unset, .unset, .unset, .unset, .unset, .unset, .unset, .unset, .unset, .unset, .unset, .unset, .unset, .unset, .unset] []))
    refine W.iload (q := 19) X0 C at_17 rfl rfl ?_
    refine W.newarray (q := 21) X0 C (W.ww hw 1 rfl) e0 (by decide) 1 (by decide) (by decide) at_19 (by decide) (by decide) rfl (fun T222 h222 b222 k222 X222 e222 g222 E222 V222_ => ?_)
    have ge_b222 : n0 ≤ b222 := by rw [g222]; exact Z0
    have n0_222 : n0 ≤ h222.size := Nat.le_trans Z0 E222.1
    have V222 : Arv Z h222 b222 k222 .int (1 : Int32) [(.int (0 : Int32))] (.int (0 : Int32)) := V222_
    refine W.astore (q := 23) (L' := #[.val (.int p0), .val (.int p1), .val (.int p2), .val (.int p3), .val (.int p4), .val (.int (1 : Int32)), .val (.int v205), .val (.ref b222), .unset, .unset, .unset, .unset, .unset, .unset, .unset, .unset, .unset, .unset, .unset, .unset, .unset, .unset, .unset]) X222 C at_21 rfl rfl rfl ?_
    refine W.iload (q := 25) X222 C at_23 rfl rfl ?_
    refine W.ifF (q := 28) X222 C at_25 rfl (by decide : W.cF .le (1 : Int32) 0) ?_
    refine W.aload (q := 30) X222 C at_28 rfl rfl rfl ?_
    refine W.iconst (q := 31) (v := 0) X222 C at_30 rfl rfl ?_
    refine W.iloadN (q := 32) X222 C at_31 rfl rfl ?_
    refine W.iastore (q := 33) X222 C e222 V222  (by decide) (by decide) (Nat.le_of_ble_eq_true rfl) at_32 rfl (fun T224 h224 X224 e224 W224 V224_ => ?_)
    have V224 : Arv Z h224 b222 k222 .int (1 : Int32) [(.int p1)] (.int (0 : Int32)) := V224_
    have N224 := Fr.snoc X224 N0 ge_b222
    have n0_224 : n0 ≤ h224.size := by rw [W224.size]; exact n0_222
    refine W.iload (q := 35) X224 C at_33 rfl rfl ?_
    refine W.iconst (q := 36) (v := 1) X224 C at_35 rfl rfl ?_
    refine W.icmpT (q := 44) X224 C at_36 (by decide) (by decide) (by decide : W.cT .le (1 : Int32) (1 : Int32)) ?_
    refine W.iload (q := 46) X224 C at_44 rfl rfl ?_
    refine W.iconst (q := 47) (v := 2) X224 C at_46 rfl rfl ?_
    refine W.icmpT (q := 55) X224 C at_47 (by decide) (by decide) (by decide : W.cT .le (1 : Int32) (2 : Int32)) ?_
    refine W.iload (q := 57) X224 C at_55 rfl rfl ?_
    refine W.iconst (q := 58) (v := 3) X224 C at_57 rfl rfl ?_
    refine W.icmpT (q := 67) X224 C at_58 (by decide) (by decide) (by decide : W.cT .le (1 : Int32) (3 : Int32)) ?_
    refine W.iload (q := 69) X224 C at_67 rfl rfl ?_
    refine W.newarray (q := 71) X224 C (W.ww hw 1 rfl) e224 hm.1 7 hm.2 (by decide) at_69 (by decide) (by decide) rfl (fun T227 h227 b227 k227 X227 e227 g227 E227 V227_ => ?_)
    have ne_b222_b227 : b222 ≠ b227 := by rw [g227]; exact Nat.ne_of_lt V224.lt
    have ge_b227 : n0 ≤ b227 := by rw [g227]; exact n0_224
    have n0_227 : n0 ≤ h227.size := Nat.le_trans n0_224 E227.1
    have V224_229 := V224.ext E227
    have V227 : Arv Z h227 b227 k227 .int v205 [(.int (0 : Int32)), (.int (0 : Int32)), (.int (0 : Int32)), (.int (0 : Int32)), (.int (0 : Int32)), (.int (0 : Int32)), (.int (0 : Int32))] (.int (0 : Int32)) := V227_
    refine W.astore (q := 73) (L' := #[.val (.int p0), .val (.int p1), .val (.int p2), .val (.int p3), .val (.int p4), .val (.int (1 : Int32)), .val (.int v205), .val (.ref b222), .val (.ref b227), .unset, .unset, .unset, .unset, .unset, .unset, .unset, .unset, .unset, .unset, .unset, .unset, .unset, .unset]) X227 C at_71 rfl rfl rfl ?_
    refine W.newO (q := 76) X227 C (W.ww hw 2 rfl) (W.ww hw 3 rfl) (W.ww hw 4 rfl) e227 at_73 (by decide) (by decide) rfl (fun T230 h230 b230 X230 e230 g230 E230 A230 D230 => ?_)
    have ne_b222_b230 : b222 ≠ b230 := by rw [g230]; exact Nat.ne_of_lt V224_229.lt
    have ne_b227_b230 : b227 ≠ b230 := by rw [g230]; exact Nat.ne_of_lt V227.lt
    have ge_b230 : n0 ≤ b230 := by rw [g230]; exact n0_227
    have n0_230 : n0 ≤ h230.size := Nat.le_trans n0_227 E230.1
    have V224_232 := V224_229.ext E230
    have V227_233 := V227.ext E230
    have F_ranked_234 : Fld Z h230 b230 "com/example/cranfield/cranfield/measures/RankedQuery" "ranked" "[I" .null := D230 (Or.inr (W.ww hw 12 rfl)) (ty := (.array .int)) (by decide)
    have F_ideal_235 : Fld Z h230 b230 "com/example/cranfield/cranfield/measures/RankedQuery" "ideal" "[I" .null := D230 (Or.inr (W.ww hw 14 rfl)) (ty := (.array .int)) (by decide)
    refine W.dup (q := 77) X230 C at_76 rfl rfl ?_
    refine W.aload (q := 79) X230 C at_77 rfl rfl rfl ?_
    refine W.aload (q := 81) X230 C at_79 rfl rfl rfl ?_
    refine W.callI (q := 84) X230 C rfl (W.ww hw 5 rfl) (W.ww hw 6 rfl) (W.ww hw 4 rfl) (W.ww hw 7 rfl) (by decide) (rm1 l Z a0 hw [] b230 b222 b227 h230 n0 n0_230 A230 F_ranked_234 F_ideal_235 ge_b230) e230 at_81 (a := b230) [(.ref b222), (.ref b227)] [(.ref b230)] rfl rfl pd__28_5bI_5bI_29V rfl rfl (by decide) (Nat.le_of_ble_eq_true rfl) (by decide) (by decide) rfl (fun T236 w236 L236 X236 hQ236 => ?_)
    obtain ⟨rfl, NL236, K236, E_236, Fa_236, Fb_236⟩ := hQ236
    have N236 := Fr.app N224 NL236
    have V224_238 := V224_232.keep K236 (ninS ne_b222_b230 nin0)
    have V227_239 := V227_233.keep K236 (ninS ne_b227_b230 nin0)
    have n0_236 : n0 ≤ T236.heap.size := Nat.le_trans n0_230 K236.1
    show W.Go p e below _ (T236.setTop (mkF m 84 #[.val (.int p0), .val (.int p1), .val (.int p2), .val (.int p3), .val (.int p4), .val (.int (1 : Int32)), .val (.int v205), .val (.ref b222), .val (.ref b227), .unset, .unset, .unset, .unset, .unset, .unset, .unset, .unset, .unset, .unset, .unset, .unset, .unset, .unset] [(.ref b230)]))
    refine W.callV (q := 87) X236 C (W.ww hw 15 rfl) (W.ww hw 16 rfl) (W.nf C (W.ww hw 18 rfl)) (W.ww hw 18 rfl) (W.ww hw 17 rfl) (W.ww hw 4 rfl) (W.ww hw 19 rfl) (by decide) (rm3_1 l Z a0 hw [] b230 b222 b227 k222 k227 v205 _ p1 T236.heap n0 Fa_236 Fb_236 V224_238 V227_239 hm) rfl E_236 at_84 [] [] rfl rfl pd__28_29D rfl rfl (by decide) (Nat.le_of_ble_eq_true rfl) (by decide) (by decide) rfl (fun T240 w240 L240 X240 hQ240 => ?_)
    obtain ⟨rfl, NL240, e240⟩ := hQ240
    have N240 := Fr.app N236 NL240
    show W.Go p e below _ (T240.setTop (mkF m 87 #[.val (.int p0), .val (.int p1), .val (.int p2), .val (.int p3), .val (.int p4), .val (.int (1 : Int32)), .val (.int v205), .val (.ref b222), .val (.ref b227), .unset, .unset, .unset, .unset, .unset, .unset, .unset, .unset, .unset, .unset, .unset, .unset, .unset, .unset] [(.double (own_div (own_tab (own_pos p1) false false false) v205))]))
    refine W.dstore (q := 89) (L' := #[.val (.int p0), .val (.int p1), .val (.int p2), .val (.int p3), .val (.int p4), .val (.int (1 : Int32)), .val (.int v205), .val (.ref b222), .val (.ref b227), .val (.double (own_div (own_tab (own_pos p1) false false false) v205)), .second, .unset, .unset, .unset, .unset, .unset, .unset, .unset, .unset, .unset, .unset, .unset, .unset]) X240 C at_87 rfl rfl ?_
    exact own_p1 l Z a0 hw T236.heap n0 p0 p1 p2 p3 p4 v205 b222 b227 _ C X240 e240 N240 hm (by decide)
  · show W.Go p e below _ (T0.setTop (mkF m 17 #[.val (.int p0), .val (.int p1), .val (.int p2), .val (.int p3), .val (.int p4), .val (.int (2 : Int32)), .val (.int v205), .unset, .unset, .unset, .unset, .unset, .unset, .unset, .unset, .unset, .unset, .unset, .unset, .unset, .unset, .unset, .unset] []))
    refine W.iload (q := 19) X0 C at_17 rfl rfl ?_
    refine W.newarray (q := 21) X0 C (W.ww hw 1 rfl) e0 (by decide) 2 (by decide) (by decide) at_19 (by decide) (by decide) rfl (fun T241 h241 b241 k241 X241 e241 g241 E241 V241_ => ?_)
    have ge_b241 : n0 ≤ b241 := by rw [g241]; exact Z0
    have n0_241 : n0 ≤ h241.size := Nat.le_trans Z0 E241.1
    have V241 : Arv Z h241 b241 k241 .int (2 : Int32) [(.int (0 : Int32)), (.int (0 : Int32))] (.int (0 : Int32)) := V241_
    refine W.astore (q := 23) (L' := #[.val (.int p0), .val (.int p1), .val (.int p2), .val (.int p3), .val (.int p4), .val (.int (2 : Int32)), .val (.int v205), .val (.ref b241), .unset, .unset, .unset, .unset, .unset, .unset, .unset, .unset, .unset, .unset, .unset, .unset, .unset, .unset, .unset]) X241 C at_21 rfl rfl rfl ?_
    refine W.iload (q := 25) X241 C at_23 rfl rfl ?_
    refine W.ifF (q := 28) X241 C at_25 rfl (by decide : W.cF .le (2 : Int32) 0) ?_
    refine W.aload (q := 30) X241 C at_28 rfl rfl rfl ?_
    refine W.iconst (q := 31) (v := 0) X241 C at_30 rfl rfl ?_
    refine W.iloadN (q := 32) X241 C at_31 rfl rfl ?_
    refine W.iastore (q := 33) X241 C e241 V241  (by decide) (by decide) (Nat.le_of_ble_eq_true rfl) at_32 rfl (fun T243 h243 X243 e243 W243 V243_ => ?_)
    have V243 : Arv Z h243 b241 k241 .int (2 : Int32) [(.int p1), (.int (0 : Int32))] (.int (0 : Int32)) := V243_
    have N243 := Fr.snoc X243 N0 ge_b241
    have n0_243 : n0 ≤ h243.size := by rw [W243.size]; exact n0_241
    refine W.iload (q := 35) X243 C at_33 rfl rfl ?_
    refine W.iconst (q := 36) (v := 1) X243 C at_35 rfl rfl ?_
    refine W.icmpF (q := 39) X243 C at_36 rfl (by decide : W.cF .le (2 : Int32) (1 : Int32)) ?_
    refine W.aload (q := 41) X243 C at_39 rfl rfl rfl ?_
    refine W.iconst (q := 42) (v := 1) X243 C at_41 rfl rfl ?_
    refine W.iloadN (q := 43) X243 C at_42 rfl rfl ?_
    refine W.iastore (q := 44) X243 C e243 V243  (by decide) (by decide) (Nat.le_of_ble_eq_true rfl) at_43 rfl (fun T246 h246 X246 e246 W246 V246_ => ?_)
    have V246 : Arv Z h246 b241 k241 .int (2 : Int32) [(.int p1), (.int p2)] (.int (0 : Int32)) := V246_
    have N246 := Fr.snoc X246 N243 ge_b241
    have n0_246 : n0 ≤ h246.size := by rw [W246.size]; exact n0_243
    refine W.iload (q := 46) X246 C at_44 rfl rfl ?_
    refine W.iconst (q := 47) (v := 2) X246 C at_46 rfl rfl ?_
    refine W.icmpT (q := 55) X246 C at_47 (by decide) (by decide) (by decide : W.cT .le (2 : Int32) (2 : Int32)) ?_
    refine W.iload (q := 57) X246 C at_55 rfl rfl ?_
    refine W.iconst (q := 58) (v := 3) X246 C at_57 rfl rfl ?_
    refine W.icmpT (q := 67) X246 C at_58 (by decide) (by decide) (by decide : W.cT .le (2 : Int32) (3 : Int32)) ?_
    refine W.iload (q := 69) X246 C at_67 rfl rfl ?_
    refine W.newarray (q := 71) X246 C (W.ww hw 1 rfl) e246 hm.1 7 hm.2 (by decide) at_69 (by decide) (by decide) rfl (fun T249 h249 b249 k249 X249 e249 g249 E249 V249_ => ?_)
    have ne_b241_b249 : b241 ≠ b249 := by rw [g249]; exact Nat.ne_of_lt V246.lt
    have ge_b249 : n0 ≤ b249 := by rw [g249]; exact n0_246
    have n0_249 : n0 ≤ h249.size := Nat.le_trans n0_246 E249.1
    have V246_251 := V246.ext E249
    have V249 : Arv Z h249 b249 k249 .int v205 [(.int (0 : Int32)), (.int (0 : Int32)), (.int (0 : Int32)), (.int (0 : Int32)), (.int (0 : Int32)), (.int (0 : Int32)), (.int (0 : Int32))] (.int (0 : Int32)) := V249_
    refine W.astore (q := 73) (L' := #[.val (.int p0), .val (.int p1), .val (.int p2), .val (.int p3), .val (.int p4), .val (.int (2 : Int32)), .val (.int v205), .val (.ref b241), .val (.ref b249), .unset, .unset, .unset, .unset, .unset, .unset, .unset, .unset, .unset, .unset, .unset, .unset, .unset, .unset]) X249 C at_71 rfl rfl rfl ?_
    refine W.newO (q := 76) X249 C (W.ww hw 2 rfl) (W.ww hw 3 rfl) (W.ww hw 4 rfl) e249 at_73 (by decide) (by decide) rfl (fun T252 h252 b252 X252 e252 g252 E252 A252 D252 => ?_)
    have ne_b241_b252 : b241 ≠ b252 := by rw [g252]; exact Nat.ne_of_lt V246_251.lt
    have ne_b249_b252 : b249 ≠ b252 := by rw [g252]; exact Nat.ne_of_lt V249.lt
    have ge_b252 : n0 ≤ b252 := by rw [g252]; exact n0_249
    have n0_252 : n0 ≤ h252.size := Nat.le_trans n0_249 E252.1
    have V246_254 := V246_251.ext E252
    have V249_255 := V249.ext E252
    have F_ranked_256 : Fld Z h252 b252 "com/example/cranfield/cranfield/measures/RankedQuery" "ranked" "[I" .null := D252 (Or.inr (W.ww hw 12 rfl)) (ty := (.array .int)) (by decide)
    have F_ideal_257 : Fld Z h252 b252 "com/example/cranfield/cranfield/measures/RankedQuery" "ideal" "[I" .null := D252 (Or.inr (W.ww hw 14 rfl)) (ty := (.array .int)) (by decide)
    refine W.dup (q := 77) X252 C at_76 rfl rfl ?_
    refine W.aload (q := 79) X252 C at_77 rfl rfl rfl ?_
    refine W.aload (q := 81) X252 C at_79 rfl rfl rfl ?_
    refine W.callI (q := 84) X252 C rfl (W.ww hw 5 rfl) (W.ww hw 6 rfl) (W.ww hw 4 rfl) (W.ww hw 7 rfl) (by decide) (rm1 l Z a0 hw [] b252 b241 b249 h252 n0 n0_252 A252 F_ranked_256 F_ideal_257 ge_b252) e252 at_81 (a := b252) [(.ref b241), (.ref b249)] [(.ref b252)] rfl rfl pd__28_5bI_5bI_29V rfl rfl (by decide) (Nat.le_of_ble_eq_true rfl) (by decide) (by decide) rfl (fun T258 w258 L258 X258 hQ258 => ?_)
    obtain ⟨rfl, NL258, K258, E_258, Fa_258, Fb_258⟩ := hQ258
    have N258 := Fr.app N246 NL258
    have V246_260 := V246_254.keep K258 (ninS ne_b241_b252 nin0)
    have V249_261 := V249_255.keep K258 (ninS ne_b249_b252 nin0)
    have n0_258 : n0 ≤ T258.heap.size := Nat.le_trans n0_252 K258.1
    show W.Go p e below _ (T258.setTop (mkF m 84 #[.val (.int p0), .val (.int p1), .val (.int p2), .val (.int p3), .val (.int p4), .val (.int (2 : Int32)), .val (.int v205), .val (.ref b241), .val (.ref b249), .unset, .unset, .unset, .unset, .unset, .unset, .unset, .unset, .unset, .unset, .unset, .unset, .unset, .unset] [(.ref b252)]))
    refine W.callV (q := 87) X258 C (W.ww hw 15 rfl) (W.ww hw 16 rfl) (W.nf C (W.ww hw 18 rfl)) (W.ww hw 18 rfl) (W.ww hw 17 rfl) (W.ww hw 4 rfl) (W.ww hw 19 rfl) (by decide) (rm3_2 l Z a0 hw [] b252 b241 b249 k241 k249 v205 _ p1 p2 T258.heap n0 Fa_258 Fb_258 V246_260 V249_261 hm) rfl E_258 at_84 [] [] rfl rfl pd__28_29D rfl rfl (by decide) (Nat.le_of_ble_eq_true rfl) (by decide) (by decide) rfl (fun T262 w262 L262 X262 hQ262 => ?_)
    obtain ⟨rfl, NL262, e262⟩ := hQ262
    have N262 := Fr.app N258 NL262
    show W.Go p e below _ (T262.setTop (mkF m 87 #[.val (.int p0), .val (.int p1), .val (.int p2), .val (.int p3), .val (.int p4), .val (.int (2 : Int32)), .val (.int v205), .val (.ref b241), .val (.ref b249), .unset, .unset, .unset, .unset, .unset, .unset, .unset, .unset, .unset, .unset, .unset, .unset, .unset, .unset] [(.double (own_div (own_tab (own_pos p1) (own_pos p2) false false) v205))]))
    refine W.dstore (q := 89) (L' := #[.val (.int p0), .val (.int p1), .val (.int p2), .val (.int p3), .val (.int p4), .val (.int (2 : Int32)), .val (.int v205), .val (.ref b241), .val (.ref b249), .val (.double (own_div (own_tab (own_pos p1) (own_pos p2) false false) v205)), .second, .unset, .unset, .unset, .unset, .unset, .unset, .unset, .unset, .unset, .unset, .unset, .unset]) X262 C at_87 rfl rfl ?_
    exact own_p2 l Z a0 hw T258.heap n0 p0 p1 p2 p3 p4 v205 b241 b249 _ C X262 e262 N262 hm (by decide)
  · show W.Go p e below _ (T0.setTop (mkF m 17 #[.val (.int p0), .val (.int p1), .val (.int p2), .val (.int p3), .val (.int p4), .val (.int (3 : Int32)), .val (.int v205), .unset, .unset, .unset, .unset, .unset, .unset, .unset, .unset, .unset, .unset, .unset, .unset, .unset, .unset, .unset, .unset] []))
    refine W.iload (q := 19) X0 C at_17 rfl rfl ?_
    refine W.newarray (q := 21) X0 C (W.ww hw 1 rfl) e0 (by decide) 3 (by decide) (by decide) at_19 (by decide) (by decide) rfl (fun T263 h263 b263 k263 X263 e263 g263 E263 V263_ => ?_)
    have ge_b263 : n0 ≤ b263 := by rw [g263]; exact Z0
    have n0_263 : n0 ≤ h263.size := Nat.le_trans Z0 E263.1
    have V263 : Arv Z h263 b263 k263 .int (3 : Int32) [(.int (0 : Int32)), (.int (0 : Int32)), (.int (0 : Int32))] (.int (0 : Int32)) := V263_
    refine W.astore (q := 23) (L' := #[.val (.int p0), .val (.int p1), .val (.int p2), .val (.int p3), .val (.int p4), .val (.int (3 : Int32)), .val (.int v205), .val (.ref b263), .unset, .unset, .unset, .unset, .unset, .unset, .unset, .unset, .unset, .unset, .unset, .unset, .unset, .unset, .unset]) X263 C at_21 rfl rfl rfl ?_
    refine W.iload (q := 25) X263 C at_23 rfl rfl ?_
    refine W.ifF (q := 28) X263 C at_25 rfl (by decide : W.cF .le (3 : Int32) 0) ?_
    refine W.aload (q := 30) X263 C at_28 rfl rfl rfl ?_
    refine W.iconst (q := 31) (v := 0) X263 C at_30 rfl rfl ?_
    refine W.iloadN (q := 32) X263 C at_31 rfl rfl ?_
    refine W.iastore (q := 33) X263 C e263 V263  (by decide) (by decide) (Nat.le_of_ble_eq_true rfl) at_32 rfl (fun T265 h265 X265 e265 W265 V265_ => ?_)
    have V265 : Arv Z h265 b263 k263 .int (3 : Int32) [(.int p1), (.int (0 : Int32)), (.int (0 : Int32))] (.int (0 : Int32)) := V265_
    have N265 := Fr.snoc X265 N0 ge_b263
    have n0_265 : n0 ≤ h265.size := by rw [W265.size]; exact n0_263
    refine W.iload (q := 35) X265 C at_33 rfl rfl ?_
    refine W.iconst (q := 36) (v := 1) X265 C at_35 rfl rfl ?_
    refine W.icmpF (q := 39) X265 C at_36 rfl (by decide : W.cF .le (3 : Int32) (1 : Int32)) ?_
    refine W.aload (q := 41) X265 C at_39 rfl rfl rfl ?_
    refine W.iconst (q := 42) (v := 1) X265 C at_41 rfl rfl ?_
    refine W.iloadN (q := 43) X265 C at_42 rfl rfl ?_
    refine W.iastore (q := 44) X265 C e265 V265  (by decide) (by decide) (Nat.le_of_ble_eq_true rfl) at_43 rfl (fun T268 h268 X268 e268 W268 V268_ => ?_)
    have V268 : Arv Z h268 b263 k263 .int (3 : Int32) [(.int p1), (.int p2), (.int (0 : Int32))] (.int (0 : Int32)) := V268_
    have N268 := Fr.snoc X268 N265 ge_b263
    have n0_268 : n0 ≤ h268.size := by rw [W268.size]; exact n0_265
    refine W.iload (q := 46) X268 C at_44 rfl rfl ?_
    refine W.iconst (q := 47) (v := 2) X268 C at_46 rfl rfl ?_
    refine W.icmpF (q := 50) X268 C at_47 rfl (by decide : W.cF .le (3 : Int32) (2 : Int32)) ?_
    refine W.aload (q := 52) X268 C at_50 rfl rfl rfl ?_
    refine W.iconst (q := 53) (v := 2) X268 C at_52 rfl rfl ?_
    refine W.iloadN (q := 54) X268 C at_53 rfl rfl ?_
    refine W.iastore (q := 55) X268 C e268 V268  (by decide) (by decide) (Nat.le_of_ble_eq_true rfl) at_54 rfl (fun T271 h271 X271 e271 W271 V271_ => ?_)
    have V271 : Arv Z h271 b263 k263 .int (3 : Int32) [(.int p1), (.int p2), (.int p3)] (.int (0 : Int32)) := V271_
    have N271 := Fr.snoc X271 N268 ge_b263
    have n0_271 : n0 ≤ h271.size := by rw [W271.size]; exact n0_268
    refine W.iload (q := 57) X271 C at_55 rfl rfl ?_
    refine W.iconst (q := 58) (v := 3) X271 C at_57 rfl rfl ?_
    refine W.icmpT (q := 67) X271 C at_58 (by decide) (by decide) (by decide : W.cT .le (3 : Int32) (3 : Int32)) ?_
    refine W.iload (q := 69) X271 C at_67 rfl rfl ?_
    refine W.newarray (q := 71) X271 C (W.ww hw 1 rfl) e271 hm.1 7 hm.2 (by decide) at_69 (by decide) (by decide) rfl (fun T274 h274 b274 k274 X274 e274 g274 E274 V274_ => ?_)
    have ne_b263_b274 : b263 ≠ b274 := by rw [g274]; exact Nat.ne_of_lt V271.lt
    have ge_b274 : n0 ≤ b274 := by rw [g274]; exact n0_271
    have n0_274 : n0 ≤ h274.size := Nat.le_trans n0_271 E274.1
    have V271_276 := V271.ext E274
    have V274 : Arv Z h274 b274 k274 .int v205 [(.int (0 : Int32)), (.int (0 : Int32)), (.int (0 : Int32)), (.int (0 : Int32)), (.int (0 : Int32)), (.int (0 : Int32)), (.int (0 : Int32))] (.int (0 : Int32)) := V274_
    refine W.astore (q := 73) (L' := #[.val (.int p0), .val (.int p1), .val (.int p2), .val (.int p3), .val (.int p4), .val (.int (3 : Int32)), .val (.int v205), .val (.ref b263), .val (.ref b274), .unset, .unset, .unset, .unset, .unset, .unset, .unset, .unset, .unset, .unset, .unset, .unset, .unset, .unset]) X274 C at_71 rfl rfl rfl ?_
    refine W.newO (q := 76) X274 C (W.ww hw 2 rfl) (W.ww hw 3 rfl) (W.ww hw 4 rfl) e274 at_73 (by decide) (by decide) rfl (fun T277 h277 b277 X277 e277 g277 E277 A277 D277 => ?_)
    have ne_b263_b277 : b263 ≠ b277 := by rw [g277]; exact Nat.ne_of_lt V271_276.lt
    have ne_b274_b277 : b274 ≠ b277 := by rw [g277]; exact Nat.ne_of_lt V274.lt
    have ge_b277 : n0 ≤ b277 := by rw [g277]; exact n0_274
    have n0_277 : n0 ≤ h277.size := Nat.le_trans n0_274 E277.1
    have V271_279 := V271_276.ext E277
    have V274_280 := V274.ext E277
    have F_ranked_281 : Fld Z h277 b277 "com/example/cranfield/cranfield/measures/RankedQuery" "ranked" "[I" .null := D277 (Or.inr (W.ww hw 12 rfl)) (ty := (.array .int)) (by decide)
    have F_ideal_282 : Fld Z h277 b277 "com/example/cranfield/cranfield/measures/RankedQuery" "ideal" "[I" .null := D277 (Or.inr (W.ww hw 14 rfl)) (ty := (.array .int)) (by decide)
    refine W.dup (q := 77) X277 C at_76 rfl rfl ?_
    refine W.aload (q := 79) X277 C at_77 rfl rfl rfl ?_
    refine W.aload (q := 81) X277 C at_79 rfl rfl rfl ?_
    refine W.callI (q := 84) X277 C rfl (W.ww hw 5 rfl) (W.ww hw 6 rfl) (W.ww hw 4 rfl) (W.ww hw 7 rfl) (by decide) (rm1 l Z a0 hw [] b277 b263 b274 h277 n0 n0_277 A277 F_ranked_281 F_ideal_282 ge_b277) e277 at_81 (a := b277) [(.ref b263), (.ref b274)] [(.ref b277)] rfl rfl pd__28_5bI_5bI_29V rfl rfl (by decide) (Nat.le_of_ble_eq_true rfl) (by decide) (by decide) rfl (fun T283 w283 L283 X283 hQ283 => ?_)
    obtain ⟨rfl, NL283, K283, E_283, Fa_283, Fb_283⟩ := hQ283
    have N283 := Fr.app N271 NL283
    have V271_285 := V271_279.keep K283 (ninS ne_b263_b277 nin0)
    have V274_286 := V274_280.keep K283 (ninS ne_b274_b277 nin0)
    have n0_283 : n0 ≤ T283.heap.size := Nat.le_trans n0_277 K283.1
    show W.Go p e below _ (T283.setTop (mkF m 84 #[.val (.int p0), .val (.int p1), .val (.int p2), .val (.int p3), .val (.int p4), .val (.int (3 : Int32)), .val (.int v205), .val (.ref b263), .val (.ref b274), .unset, .unset, .unset, .unset, .unset, .unset, .unset, .unset, .unset, .unset, .unset, .unset, .unset, .unset] [(.ref b277)]))
    refine W.callV (q := 87) X283 C (W.ww hw 15 rfl) (W.ww hw 16 rfl) (W.nf C (W.ww hw 18 rfl)) (W.ww hw 18 rfl) (W.ww hw 17 rfl) (W.ww hw 4 rfl) (W.ww hw 19 rfl) (by decide) (rm3_3 l Z a0 hw [] b277 b263 b274 k263 k274 v205 _ p1 p2 p3 T283.heap n0 Fa_283 Fb_283 V271_285 V274_286 hm) rfl E_283 at_84 [] [] rfl rfl pd__28_29D rfl rfl (by decide) (Nat.le_of_ble_eq_true rfl) (by decide) (by decide) rfl (fun T287 w287 L287 X287 hQ287 => ?_)
    obtain ⟨rfl, NL287, e287⟩ := hQ287
    have N287 := Fr.app N283 NL287
    show W.Go p e below _ (T287.setTop (mkF m 87 #[.val (.int p0), .val (.int p1), .val (.int p2), .val (.int p3), .val (.int p4), .val (.int (3 : Int32)), .val (.int v205), .val (.ref b263), .val (.ref b274), .unset, .unset, .unset, .unset, .unset, .unset, .unset, .unset, .unset, .unset, .unset, .unset, .unset, .unset] [(.double (own_div (own_tab (own_pos p1) (own_pos p2) (own_pos p3) false) v205))]))
    refine W.dstore (q := 89) (L' := #[.val (.int p0), .val (.int p1), .val (.int p2), .val (.int p3), .val (.int p4), .val (.int (3 : Int32)), .val (.int v205), .val (.ref b263), .val (.ref b274), .val (.double (own_div (own_tab (own_pos p1) (own_pos p2) (own_pos p3) false) v205)), .second, .unset, .unset, .unset, .unset, .unset, .unset, .unset, .unset, .unset, .unset, .unset, .unset]) X287 C at_87 rfl rfl ?_
    exact own_p3 l Z a0 hw T283.heap n0 p0 p1 p2 p3 p4 v205 b263 b274 _ C X287 e287 N287 hm (by decide)
  · show W.Go p e below _ (T0.setTop (mkF m 17 #[.val (.int p0), .val (.int p1), .val (.int p2), .val (.int p3), .val (.int p4), .val (.int (4 : Int32)), .val (.int v205), .unset, .unset, .unset, .unset, .unset, .unset, .unset, .unset, .unset, .unset, .unset, .unset, .unset, .unset, .unset, .unset] []))
    refine W.iload (q := 19) X0 C at_17 rfl rfl ?_
    refine W.newarray (q := 21) X0 C (W.ww hw 1 rfl) e0 (by decide) 4 (by decide) (by decide) at_19 (by decide) (by decide) rfl (fun T288 h288 b288 k288 X288 e288 g288 E288 V288_ => ?_)
    have ge_b288 : n0 ≤ b288 := by rw [g288]; exact Z0
    have n0_288 : n0 ≤ h288.size := Nat.le_trans Z0 E288.1
    have V288 : Arv Z h288 b288 k288 .int (4 : Int32) [(.int (0 : Int32)), (.int (0 : Int32)), (.int (0 : Int32)), (.int (0 : Int32))] (.int (0 : Int32)) := V288_
    refine W.astore (q := 23) (L' := #[.val (.int p0), .val (.int p1), .val (.int p2), .val (.int p3), .val (.int p4), .val (.int (4 : Int32)), .val (.int v205), .val (.ref b288), .unset, .unset, .unset, .unset, .unset, .unset, .unset, .unset, .unset, .unset, .unset, .unset, .unset, .unset, .unset]) X288 C at_21 rfl rfl rfl ?_
    refine W.iload (q := 25) X288 C at_23 rfl rfl ?_
    refine W.ifF (q := 28) X288 C at_25 rfl (by decide : W.cF .le (4 : Int32) 0) ?_
    refine W.aload (q := 30) X288 C at_28 rfl rfl rfl ?_
    refine W.iconst (q := 31) (v := 0) X288 C at_30 rfl rfl ?_
    refine W.iloadN (q := 32) X288 C at_31 rfl rfl ?_
    refine W.iastore (q := 33) X288 C e288 V288  (by decide) (by decide) (Nat.le_of_ble_eq_true rfl) at_32 rfl (fun T290 h290 X290 e290 W290 V290_ => ?_)
    have V290 : Arv Z h290 b288 k288 .int (4 : Int32) [(.int p1), (.int (0 : Int32)), (.int (0 : Int32)), (.int (0 : Int32))] (.int (0 : Int32)) := V290_
    have N290 := Fr.snoc X290 N0 ge_b288
    have n0_290 : n0 ≤ h290.size := by rw [W290.size]; exact n0_288
    refine W.iload (q := 35) X290 C at_33 rfl rfl ?_
    refine W.iconst (q := 36) (v := 1) X290 C at_35 rfl rfl ?_
    refine W.icmpF (q := 39) X290 C at_36 rfl (by decide : W.cF .le (4 : Int32) (1 : Int32)) ?_
    refine W.aload (q := 41) X290 C at_39 rfl rfl rfl ?_
    refine W.iconst (q := 42) (v := 1) X290 C at_41 rfl rfl ?_
    refine W.iloadN (q := 43) X290 C at_42 rfl rfl ?_
    refine W.iastore (q := 44) X290 C e290 V290  (by decide) (by decide) (Nat.le_of_ble_eq_true rfl) at_43 rfl (fun T293 h293 X293 e293 W293 V293_ => ?_)
    have V293 : Arv Z h293 b288 k288 .int (4 : Int32) [(.int p1), (.int p2), (.int (0 : Int32)), (.int (0 : Int32))] (.int (0 : Int32)) := V293_
    have N293 := Fr.snoc X293 N290 ge_b288
    have n0_293 : n0 ≤ h293.size := by rw [W293.size]; exact n0_290
    refine W.iload (q := 46) X293 C at_44 rfl rfl ?_
    refine W.iconst (q := 47) (v := 2) X293 C at_46 rfl rfl ?_
    refine W.icmpF (q := 50) X293 C at_47 rfl (by decide : W.cF .le (4 : Int32) (2 : Int32)) ?_
    refine W.aload (q := 52) X293 C at_50 rfl rfl rfl ?_
    refine W.iconst (q := 53) (v := 2) X293 C at_52 rfl rfl ?_
    refine W.iloadN (q := 54) X293 C at_53 rfl rfl ?_
    refine W.iastore (q := 55) X293 C e293 V293  (by decide) (by decide) (Nat.le_of_ble_eq_true rfl) at_54 rfl (fun T296 h296 X296 e296 W296 V296_ => ?_)
    have V296 : Arv Z h296 b288 k288 .int (4 : Int32) [(.int p1), (.int p2), (.int p3), (.int (0 : Int32))] (.int (0 : Int32)) := V296_
    have N296 := Fr.snoc X296 N293 ge_b288
    have n0_296 : n0 ≤ h296.size := by rw [W296.size]; exact n0_293
    refine W.iload (q := 57) X296 C at_55 rfl rfl ?_
    refine W.iconst (q := 58) (v := 3) X296 C at_57 rfl rfl ?_
    refine W.icmpF (q := 61) X296 C at_58 rfl (by decide : W.cF .le (4 : Int32) (3 : Int32)) ?_
    refine W.aload (q := 63) X296 C at_61 rfl rfl rfl ?_
    refine W.iconst (q := 64) (v := 3) X296 C at_63 rfl rfl ?_
    refine W.iload (q := 66) X296 C at_64 rfl rfl ?_
    refine W.iastore (q := 67) X296 C e296 V296  (by decide) (by decide) (Nat.le_of_ble_eq_true rfl) at_66 rfl (fun T299 h299 X299 e299 W299 V299_ => ?_)
    have V299 : Arv Z h299 b288 k288 .int (4 : Int32) [(.int p1), (.int p2), (.int p3), (.int p4)] (.int (0 : Int32)) := V299_
    have N299 := Fr.snoc X299 N296 ge_b288
    have n0_299 : n0 ≤ h299.size := by rw [W299.size]; exact n0_296
    refine W.iload (q := 69) X299 C at_67 rfl rfl ?_
    refine W.newarray (q := 71) X299 C (W.ww hw 1 rfl) e299 hm.1 7 hm.2 (by decide) at_69 (by decide) (by decide) rfl (fun T302 h302 b302 k302 X302 e302 g302 E302 V302_ => ?_)
    have ne_b288_b302 : b288 ≠ b302 := by rw [g302]; exact Nat.ne_of_lt V299.lt
    have ge_b302 : n0 ≤ b302 := by rw [g302]; exact n0_299
    have n0_302 : n0 ≤ h302.size := Nat.le_trans n0_299 E302.1
    have V299_304 := V299.ext E302
    have V302 : Arv Z h302 b302 k302 .int v205 [(.int (0 : Int32)), (.int (0 : Int32)), (.int (0 : Int32)), (.int (0 : Int32)), (.int (0 : Int32)), (.int (0 : Int32)), (.int (0 : Int32))] (.int (0 : Int32)) := V302_
    refine W.astore (q := 73) (L' := #[.val (.int p0), .val (.int p1), .val (.int p2), .val (.int p3), .val (.int p4), .val (.int (4 : Int32)), .val (.int v205), .val (.ref b288), .val (.ref b302), .unset, .unset, .unset, .unset, .unset, .unset, .unset, .unset, .unset, .unset, .unset, .unset, .unset, .unset]) X302 C at_71 rfl rfl rfl ?_
    refine W.newO (q := 76) X302 C (W.ww hw 2 rfl) (W.ww hw 3 rfl) (W.ww hw 4 rfl) e302 at_73 (by decide) (by decide) rfl (fun T305 h305 b305 X305 e305 g305 E305 A305 D305 => ?_)
    have ne_b288_b305 : b288 ≠ b305 := by rw [g305]; exact Nat.ne_of_lt V299_304.lt
    have ne_b302_b305 : b302 ≠ b305 := by rw [g305]; exact Nat.ne_of_lt V302.lt
    have ge_b305 : n0 ≤ b305 := by rw [g305]; exact n0_302
    have n0_305 : n0 ≤ h305.size := Nat.le_trans n0_302 E305.1
    have V299_307 := V299_304.ext E305
    have V302_308 := V302.ext E305
    have F_ranked_309 : Fld Z h305 b305 "com/example/cranfield/cranfield/measures/RankedQuery" "ranked" "[I" .null := D305 (Or.inr (W.ww hw 12 rfl)) (ty := (.array .int)) (by decide)
    have F_ideal_310 : Fld Z h305 b305 "com/example/cranfield/cranfield/measures/RankedQuery" "ideal" "[I" .null := D305 (Or.inr (W.ww hw 14 rfl)) (ty := (.array .int)) (by decide)
    refine W.dup (q := 77) X305 C at_76 rfl rfl ?_
    refine W.aload (q := 79) X305 C at_77 rfl rfl rfl ?_
    refine W.aload (q := 81) X305 C at_79 rfl rfl rfl ?_
    refine W.callI (q := 84) X305 C rfl (W.ww hw 5 rfl) (W.ww hw 6 rfl) (W.ww hw 4 rfl) (W.ww hw 7 rfl) (by decide) (rm1 l Z a0 hw [] b305 b288 b302 h305 n0 n0_305 A305 F_ranked_309 F_ideal_310 ge_b305) e305 at_81 (a := b305) [(.ref b288), (.ref b302)] [(.ref b305)] rfl rfl pd__28_5bI_5bI_29V rfl rfl (by decide) (Nat.le_of_ble_eq_true rfl) (by decide) (by decide) rfl (fun T311 w311 L311 X311 hQ311 => ?_)
    obtain ⟨rfl, NL311, K311, E_311, Fa_311, Fb_311⟩ := hQ311
    have N311 := Fr.app N299 NL311
    have V299_313 := V299_307.keep K311 (ninS ne_b288_b305 nin0)
    have V302_314 := V302_308.keep K311 (ninS ne_b302_b305 nin0)
    have n0_311 : n0 ≤ T311.heap.size := Nat.le_trans n0_305 K311.1
    show W.Go p e below _ (T311.setTop (mkF m 84 #[.val (.int p0), .val (.int p1), .val (.int p2), .val (.int p3), .val (.int p4), .val (.int (4 : Int32)), .val (.int v205), .val (.ref b288), .val (.ref b302), .unset, .unset, .unset, .unset, .unset, .unset, .unset, .unset, .unset, .unset, .unset, .unset, .unset, .unset] [(.ref b305)]))
    refine W.callV (q := 87) X311 C (W.ww hw 15 rfl) (W.ww hw 16 rfl) (W.nf C (W.ww hw 18 rfl)) (W.ww hw 18 rfl) (W.ww hw 17 rfl) (W.ww hw 4 rfl) (W.ww hw 19 rfl) (by decide) (rm3_4 l Z a0 hw [] b305 b288 b302 k288 k302 v205 _ p1 p2 p3 p4 T311.heap n0 Fa_311 Fb_311 V299_313 V302_314 hm) rfl E_311 at_84 [] [] rfl rfl pd__28_29D rfl rfl (by decide) (Nat.le_of_ble_eq_true rfl) (by decide) (by decide) rfl (fun T315 w315 L315 X315 hQ315 => ?_)
    obtain ⟨rfl, NL315, e315⟩ := hQ315
    have N315 := Fr.app N311 NL315
    show W.Go p e below _ (T315.setTop (mkF m 87 #[.val (.int p0), .val (.int p1), .val (.int p2), .val (.int p3), .val (.int p4), .val (.int (4 : Int32)), .val (.int v205), .val (.ref b288), .val (.ref b302), .unset, .unset, .unset, .unset, .unset, .unset, .unset, .unset, .unset, .unset, .unset, .unset, .unset, .unset] [(.double (own_div (own_tab (own_pos p1) (own_pos p2) (own_pos p3) (own_pos p4)) v205))]))
    refine W.dstore (q := 89) (L' := #[.val (.int p0), .val (.int p1), .val (.int p2), .val (.int p3), .val (.int p4), .val (.int (4 : Int32)), .val (.int v205), .val (.ref b288), .val (.ref b302), .val (.double (own_div (own_tab (own_pos p1) (own_pos p2) (own_pos p3) (own_pos p4)) v205)), .second, .unset, .unset, .unset, .unset, .unset, .unset, .unset, .unset, .unset, .unset, .unset, .unset]) X315 C at_87 rfl rfl ?_
    exact own_p4 l Z a0 hw T311.heap n0 p0 p1 p2 p3 p4 v205 b288 b302 _ C X315 e315 N315 hm (by decide)
set_option maxRecDepth 65536 in
set_option maxHeartbeats 40000000 in
theorem comes_1 {Post : Tables → Env → Array Value → State → Outcome → State → Prop} (hpost : ∀ tb e args s v u, (limb_1_1.after args s (.returned v) u = true ∧ limb_1_2.after args s (.returned v) u = true ∧ True) → FrameEnd s (.returned v) u (Jvm.fieldLocs frame_1_writes args s ++ Jvm.arrayLocs frame_1_arrays args s ++ Jvm.staticLocs frame_1_statics s) 16 128 → Post tb e args s (.returned v) u) :
    ArmFor flags0 classFile x code maxLocals ret World_1 tables_1 room_1 Calls_1 rest_1 Pre_1 Post := by
  intro l hfl _ _ p e ha hc hk s m args below hf hA hF happ hP
  obtain ⟨hcalls, hrest, hpre⟩ := hP
  obtain ⟨-, -, -, hnamed, -, -, -, hat⟩ := (Spec.applies_iff hf).mp happ
  obtain ⟨hg, hn⟩ := and_e (Cond.before_iff.mp (show (Jvm.Cond.and given_1 narrow_1).before args s = true from hpre))
  obtain ⟨g1, g2⟩ := and_e hg
  obtain ⟨g3, g4⟩ := and_e g2
  obtain ⟨g5, g6⟩ := and_e g4
  obtain ⟨g7, g8⟩ := and_e g6
  obtain ⟨g9, g10⟩ := and_e g8
  obtain ⟨w0, w1, w2, w3, w4, rfl⟩ : ∃ w0 w1 w2 w3 w4 : Value, args = #[w0, w1, w2, w3, w4] := by
    have hs : args.size = 5 := by simpa [Cond.value, given_1] using g1
    obtain ⟨L⟩ := args
    match L, hs with
    | [w0, w1, w2, w3, w4], _ => exact ⟨w0, w1, w2, w3, w4, rfl⟩
  have hw := fun d (hd : d ∈ tables_1) => atoms_spec (ws := Jvm.Cond.code x code maxLocals ret :: tables_1) hat d (List.mem_cons_of_mem _ hd)
  have hfit : Fit s := fun {y c} hc i hi => by
    obtain ⟨ha, rfl⟩ := Array.getElem?_eq_some_iff.mp hc
    have q := List.all_eq_true.mp ((Array.all_eq_true_iff_forall_mem.mp hF) _ (Array.getElem_mem ha)) i (List.mem_range.mpr hi)
    simpa [Array.getElem?_eq_getElem hi] using q
  obtain ⟨i0, ei0⟩ := is_v g3
  obtain rfl : w0 = (.int i0) := Option.some.inj ei0
  obtain ⟨i1, ei1⟩ := is_v g5
  obtain rfl : w1 = (.int i1) := Option.some.inj ei1
  obtain ⟨i2, ei2⟩ := is_v g7
  obtain rfl : w2 = (.int i2) := Option.some.inj ei2
  obtain ⟨i3, ei3⟩ := is_v g9
  obtain rfl : w3 = (.int i3) := Option.some.inj ei3
  obtain ⟨i4, ei4⟩ := is_v g10
  obtain rfl : w4 = (.int i4) := Option.some.inj ei4
  obtain ⟨n, o, h1, h2, h3, _, L, rfl, ⟨rfl, N⟩, hq⟩ := rm0 l s _ hw tables_1 i0 i1 i2 i3 i4 s.heap s.heap.size (Nat.le_refl _) p e ha hc hk s m _ below hf ((Spec.applies_iff_loose hf).mp happ).1 ⟨rfl, State.Warmed39.refl s, rfl⟩ trivial
  refine ⟨n, _, h1, h2, h3, hpost _ _ _ _ _ _ ⟨Cond.after_iff.mpr rfl, Cond.after_iff.mpr (eq_i res_at (Term.int_eval (1)) rfl), trivial⟩ ⟨hq.1, hq.2.1, (hq.2.2.sift fun y hy => Or.inr (N y hy)).mono (by decide) (by decide)⟩⟩
theorem main_1_1 : Claimed_1_1 := comes_1 fun _ _ _ _ _ _ h hF => ⟨h.1, hF⟩
theorem main_1_2 : Claimed_1_2 := comes_1 fun _ _ _ _ _ _ h hF => ⟨h.2.1, hF⟩
end Jvm.Pilot.@@N@@
namespace Jvm.Pilot.@@N@@
open Jvm Jvm.ClassFile Sem Op Lib Jvm.Free Jvm.Stand Jvm.Pilot.@@N@@.Jvm.D
/-! MADE BY PROGRAM (witnessworld.py) out of the Statement's table words and the real class files: 9 classes; the members and pool entries that the words name. The judged class is class 1, her method 1. -/
namespace start1
open Jvm.ClassFile
def u (s : String) : CpInfo := .utf8 (stringToUtf16 s)
/-- a pool by its gaps: so many unusable entries, then the entry; so many at the end -/
def gap : Nat → List CpInfo → List CpInfo
  | 0, r => r
  | n + 1, r => .unusable :: gap n r
def poolList (es : List (Nat × CpInfo)) (last : Nat) : List CpInfo := es.foldr (fun e r => gap e.1 (e.2 :: r)) (gap last [])
def pool (es : List (Nat × CpInfo)) (last : Nat) : Array CpInfo := ⟨poolList es last⟩
def fileOf (pool : Array CpInfo) (this : Nat) (attrs : Array Attribute := #[]) (ms : Array MethodInfo := #[]) (fl : Nat := 33) (sup : Nat := 0) (ifs : Array Nat := #[]) (fds : Array FieldInfo := #[]) : ClassFile where
  minorVersion := 0
  majorVersion := 65
  constantPool := pool
  accessFlags := fl
  thisClass := this
  superClass := sup
  interfaces := ifs
  fields := fds
  methods := ms
  attributes := attrs
def plain (name : String) (sup : Option ClassId) : Class where
  name := name
  kind := .ordinary
  loader := none
  accessFlags := 33
  super := sup
  interfaces := #[]
  cf := none
  fields := #[]
  methods := #[]
  instanceTypes := #[]
  staticTypes := #[]
  resolved := #[]
  callSites := []
  init := .initialized
  statics := none
  mirror := none

def pool0 : Array CpInfo := pool [(5, u "<init>"), (0, u "()V"), (1, .class_ 10), (1, u "java/lang/Object")] 113

def k0c0 : Code := { maxStack := 0, maxLocals := 1, code := object_method_1_code, exceptionTable := #[], attributes := #[] }
def k0m0 : Method := { name := "<init>", desc := "()V", sig := { parameters := [], returnType := none }, accessFlags := 1, code := some k0c0 }
/-- java/lang/Object -/
def k0 : Class := { plain "java/lang/Object" none with
  accessFlags := 33
  interfaces := #[]
  cf := some (fileOf pool0 8 #[] #[{ accessFlags := 1, nameIndex := 5, descriptorIndex := 6, attributes := #[] }] 33 0 #[] #[])
  fields := #[]
  methods := #[k0m0]
  instanceTypes := #[]
  staticTypes := #[]
  resolved := Array.replicate 124 none
  statics := none }

def pool1 : Array CpInfo := pool [(2, .class_ 4), (1, u "java/lang/Object"), (0, u "<init>"), (0, u "()V"), (0, .integer 2147483647), (0, .class_ 9), (0, u "com/example/cranfield/cranfield/measures/RankedQuery"), (0, .methodref 8 11), (0, .nameAndType 5 12), (0, u "([I[I)V"), (0, .methodref 8 14), (0, .nameAndType 15 16), (0, u "averagePrecision"), (0, u "()D"), (0, .double 4611686018427387904), (1, .double 4613937818241073152), (1, .double 4616189618054758400), (1, .class_ 24), (0, u "com/example/cranfield/cranfield/measures/RankedQueryAveragePrecisionPinLaw"), (2, u "law"), (0, u "(IIIII)Z")] 5

def k1m0 : Method := { name := "<init>", desc := "()V", sig := { parameters := [], returnType := none }, accessFlags := 1, code := none }
def k1c1 : Code := { maxStack := 6, maxLocals := 23, code := code, exceptionTable := #[], attributes := #[] }
def k1m1 : Method := { name := "law", desc := "(IIIII)Z", sig := { parameters := [.int, .int, .int, .int, .int], returnType := some .boolean }, accessFlags := 9, code := some k1c1 }
/-- com/example/cranfield/cranfield/measures/RankedQueryAveragePrecisionPinLaw -/
def k1 : Class := { plain "com/example/cranfield/cranfield/measures/RankedQueryAveragePrecisionPinLaw" (some 0) with
  accessFlags := 49
  interfaces := #[]
  cf := some (fileOf pool1 23 #[] #[{ accessFlags := 1, nameIndex := 5, descriptorIndex := 6, attributes := #[] }, { accessFlags := 9, nameIndex := 27, descriptorIndex := 28, attributes := #[] }] 49 2 #[] #[])
  fields := #[]
  methods := #[k1m0, k1m1]
  instanceTypes := #[]
  staticTypes := #[]
  resolved := Array.replicate 34 none
  statics := none }

def pool2 : Array CpInfo := pool [(1, .methodref 2 3), (0, .class_ 4), (0, .nameAndType 5 6), (0, u "java/lang/Object"), (0, u "<init>"), (0, u "()V"), (0, .fieldref 8 9), (0, .class_ 10), (0, .nameAndType 11 12), (0, u "com/example/cranfield/cranfield/measures/RankedQuery"), (0, u "ranked"), (0, u "[I"), (0, .fieldref 8 14), (0, .nameAndType 15 12), (0, u "ideal"), (12, u "LN_2"), (0, u "D"), (6, u "([I[I)V"), (6, u "averagePrecision"), (0, u "()D")] 4

def k2c0 : Code := { maxStack := 2, maxLocals := 3, code := prog_49_method_1_code, exceptionTable := #[], attributes := #[] }
def k2m0 : Method := { name := "<init>", desc := "([I[I)V", sig := { parameters := [(.array .int), (.array .int)], returnType := none }, accessFlags := 0, code := some k2c0 }
def k2c1 : Code := { maxStack := 6, maxLocals := 5, code := prog_49_method_4_code, exceptionTable := #[], attributes := #[] }
def k2m1 : Method := { name := "averagePrecision", desc := "()D", sig := { parameters := [], returnType := some .double }, accessFlags := 0, code := some k2c1 }
/-- com/example/cranfield/cranfield/measures/RankedQuery -/
def k2 : Class := { plain "com/example/cranfield/cranfield/measures/RankedQuery" (some 0) with
  accessFlags := 48
  interfaces := #[]
  cf := some (fileOf pool2 8 #[] #[{ accessFlags := 0, nameIndex := 5, descriptorIndex := 36, attributes := #[] }, { accessFlags := 0, nameIndex := 43, descriptorIndex := 44, attributes := #[] }] 48 2 #[] #[{ accessFlags := 26, nameIndex := 28, descriptorIndex := 29, attributes := #[] }, { accessFlags := 18, nameIndex := 11, descriptorIndex := 12, attributes := #[] }, { accessFlags := 18, nameIndex := 15, descriptorIndex := 12, attributes := #[] }])
  fields := #[{ name := "LN_2", type := .double, accessFlags := 26, slot := 0, constantValue := 0 }, { name := "ranked", type := (.array .int), accessFlags := 18, slot := 0, constantValue := 0 }, { name := "ideal", type := (.array .int), accessFlags := 18, slot := 1, constantValue := 0 }]
  methods := #[k2m0, k2m1]
  instanceTypes := #[(.array .int), (.array .int)]
  staticTypes := #[.double]
  resolved := Array.replicate 49 none
  statics := none }

def pool3 : Array CpInfo := pool [(1, u "java/lang/Cloneable"), (0, .class_ 1), (0, u "java/lang/Object"), (0, .class_ 3)] 3

/-- java/lang/Cloneable -/
def k3 : Class := { plain "java/lang/Cloneable" (some 0) with
  accessFlags := 1537
  interfaces := #[]
  cf := some (fileOf pool3 2 #[] #[] 1537 4 #[] #[])
  fields := #[]
  methods := #[]
  instanceTypes := #[]
  staticTypes := #[]
  resolved := Array.replicate 8 none
  statics := none }

def pool4 : Array CpInfo := pool [(1, u "java/io/Serializable"), (0, .class_ 1), (0, u "java/lang/Object"), (0, .class_ 3)] 3

/-- java/io/Serializable -/
def k4 : Class := { plain "java/io/Serializable" (some 0) with
  accessFlags := 1537
  interfaces := #[]
  cf := some (fileOf pool4 2 #[] #[] 1537 4 #[] #[])
  fields := #[]
  methods := #[]
  instanceTypes := #[]
  staticTypes := #[]
  resolved := Array.replicate 8 none
  statics := none }

/-- the primitive byte -/
def k5 : Class := { plain "byte" none with kind := .primitive 'B', accessFlags := 0x411 }
/-- [B -/
def k6 : Class := { plain "[B" (some 0) with kind := .array 5 .byte, interfaces := #[3, 4], accessFlags := 1041 }

/-- the primitive int -/
def k7 : Class := { plain "int" none with kind := .primitive 'I', accessFlags := 0x411 }
/-- [I -/
def k8 : Class := { plain "[I" (some 0) with kind := .array 7 .int, interfaces := #[3, 4], accessFlags := 1041 }

def heap : Heap := #[]
def classes : Array Class := #[k0, k1, k2, k3, k4, k5, k6, k7, k8]
def interned : List (Array UInt16 × Addr) := []
def slotsUsed : Nat := 0
def theMethod : MethodId := ⟨1, 1⟩
def args0 : Array Value := #[.int 5, .int 6, .int 7, .int 8, .int 9]
def aboutOver (below : List Frame) : State where
  vm := { classes := classes, interned := interned.toArray }
  heap := heap
  slotsUsed := slotsUsed
  threads := #[{ frames := .invoking theMethod args0 :: below }]
def below0 : List Frame := [.native { method := ⟨0, 0⟩, args := #[] }]
def about1 : State := aboutOver below0
def p0 : Program := .bare "" "" ""
def e0 : Env := launch0.env 0 0 0
theorem w_frames : about1.frames = Frame.invoking theMethod args0 :: below0 := rfl
set_option maxRecDepth 65536 in
theorem w_args : argsFit about1.vm theMethod args0 = true := by decide +kernel
set_option maxRecDepth 65536 in
theorem w_heap : heapFits about1 = true := by decide +kernel
set_option maxRecDepth 65536 in
theorem w_runnable : about1.curStatus? = some .runnable := by decide +kernel
set_option maxRecDepth 65536 in
theorem w_alone : about1.alone = true := by decide +kernel
set_option maxRecDepth 65536 in
theorem w_named : about1.methodNamed? x = some theMethod := by decide +kernel
set_option maxRecDepth 65536 in
theorem w_hears : about1.hears theMethod below0 = true := by decide +kernel
set_option maxRecDepth 65536 in
theorem w_ripe : about1.ripe theMethod args0 below0 = true := by decide +kernel
theorem w_running : about1.status = .running := rfl
set_option maxRecDepth 65536 in
theorem w_room : about1.hasRoom e0.platform room_1 = true :=
  launch0.hasRoom_least _ room_1 (by decide +kernel) (by decide +kernel) (by decide +kernel) (by decide +kernel) (by decide +kernel) (by decide +kernel)
theorem allAtoms_all (ts : List Jvm.Cond) (a : Array Jvm.Value) (st : Jvm.State) : (allAtoms ts).before a st = ts.all (fun c => c.before a st) := by
  induction ts with
  | nil => rfl
  | cons c t ih =>
    show (Jvm.Cond.and c (allAtoms t)).before a st = _
    rw [Jvm.Cond.before_and, ih, List.all_cons]
def words1 : List Jvm.Cond := Jvm.Cond.code x code maxLocals ret :: tables_1
/-- a 'code' word, met by the world's own term for the bytes: nothing is compared byte by byte -/
theorem code_word {y : MethodName} {bytes : ByteArray} {mx : Nat} {rt : Option FieldType} {a : Array Value} {s : State} {m : MethodId} {meth : Method} {c : Code} (h1 : s.methodNamed? y = some m) (h2 : s.vm.method? m = some meth) (h3 : meth.code = some c) (h4 : c.code = bytes)
    (h5 : (c.maxLocals == mx && c.exceptionTable.isEmpty && decide (c.maxStack ≤ mostOperands) && decide (meth.sig.returnType = rt) && !meth.locks && decide (parseMethodDescriptor y.desc = some meth.sig)) = true) : (Jvm.Cond.code y bytes mx rt).before a s = true := by
  simp only [Bool.and_eq_true, beq_iff_eq, Bool.not_eq_true', decide_eq_true_eq] at h5
  obtain ⟨⟨⟨⟨⟨g1, g2⟩, g3⟩, g4⟩, g5⟩, g6⟩ := h5
  simp [Cond.before, Cond.holds, Cond.value, h1, h2, h3, h4, g1, g2, g3, g4, g5, g6]
def isCode : Jvm.Cond → Bool
  | .code _ _ _ _ => true
  | _ => false
theorem all_split {L : List Jvm.Cond} {P : Jvm.Cond → Bool} (h1 : L.all (fun c => isCode c || P c) = true) (h2 : ∀ c ∈ L.filter isCode, P c = true) : L.all P = true := by
  refine List.all_eq_true.mpr fun c hc => ?_
  have h := List.all_eq_true.mp h1 c hc
  rcases Bool.eq_false_or_eq_true (isCode c) with hi | hi
  · exact h2 c (List.mem_filter.mpr ⟨hc, hi⟩)
  · simpa [hi] using h
set_option maxRecDepth 65536 in
theorem w_c0 : (Jvm.Cond.code x code maxLocals ret).before args0 about1 = true := code_word (m := ⟨1, 1⟩) (meth := k1m1) (c := k1c1) (by decide +kernel) rfl rfl rfl (by decide +kernel)
set_option maxRecDepth 65536 in
theorem w_c1 : (Jvm.Cond.code ({ cls := "com/example/cranfield/cranfield/measures/RankedQuery", name := "<init>", desc := "([I[I)V" } : Jvm.MethodName) prog_49_method_1_code (3 : Nat) (Option.none : Option Jvm.ClassFile.FieldType)).before args0 about1 = true := code_word (m := ⟨2, 0⟩) (meth := k2m0) (c := k2c0) (by decide +kernel) rfl rfl rfl (by decide +kernel)
set_option maxRecDepth 65536 in
theorem w_c2 : (Jvm.Cond.code ({ cls := "java/lang/Object", name := "<init>", desc := "()V" } : Jvm.MethodName) object_method_1_code (1 : Nat) (Option.none : Option Jvm.ClassFile.FieldType)).before args0 about1 = true := code_word (m := ⟨0, 0⟩) (meth := k0m0) (c := k0c0) (by decide +kernel) rfl rfl rfl (by decide +kernel)
set_option maxRecDepth 65536 in
theorem w_c3 : (Jvm.Cond.code ({ cls := "com/example/cranfield/cranfield/measures/RankedQuery", name := "averagePrecision", desc := "()D" } : Jvm.MethodName) prog_49_method_4_code (5 : Nat) (Option.some Jvm.ClassFile.FieldType.double)).before args0 about1 = true := code_word (m := ⟨2, 1⟩) (meth := k2m1) (c := k2c1) (by decide +kernel) rfl rfl rfl (by decide +kernel)
def codes1 : List Jvm.Cond := [Jvm.Cond.code x code maxLocals ret, Jvm.Cond.code ({ cls := "com/example/cranfield/cranfield/measures/RankedQuery", name := "<init>", desc := "([I[I)V" } : Jvm.MethodName) prog_49_method_1_code (3 : Nat) (Option.none : Option Jvm.ClassFile.FieldType), Jvm.Cond.code ({ cls := "java/lang/Object", name := "<init>", desc := "()V" } : Jvm.MethodName) object_method_1_code (1 : Nat) (Option.none : Option Jvm.ClassFile.FieldType), Jvm.Cond.code ({ cls := "com/example/cranfield/cranfield/measures/RankedQuery", name := "averagePrecision", desc := "()D" } : Jvm.MethodName) prog_49_method_4_code (5 : Nat) (Option.some Jvm.ClassFile.FieldType.double)]
set_option maxRecDepth 65536 in
theorem codes_eq : words1.filter isCode = codes1 := rfl
theorem w_codes : ∀ c ∈ words1.filter isCode, c.before args0 about1 = true := by
  rw [codes_eq]
  intro c hc
  simp only [codes1, List.mem_cons, List.not_mem_nil, or_false] at hc
  rcases hc with rfl | rfl | rfl | rfl
  · exact w_c0
  · exact w_c1
  · exact w_c2
  · exact w_c3
set_option maxRecDepth 65536 in
theorem w_t1 : words1.all (fun c => isCode c || c.before args0 about1) = true := by decide +kernel
theorem w_tables : (allAtoms (Jvm.Cond.code x code maxLocals ret :: tables_1)).before args0 about1 = true := by
  rw [allAtoms_all]
  show words1.all (fun c => c.before args0 about1) = true
  refine all_split ?_ w_codes
  rw [w_t1]
set_option maxRecDepth 65536 in
theorem w_case : (Jvm.Cond.and given_1 narrow_1).before args0 about1 = true := by decide +kernel
theorem w_applies : (headSpec (Jvm.Cond.code x code maxLocals ret :: tables_1) room_1).applies x e0.platform about1 = true :=
  (Spec.applies_iff w_frames).mpr ⟨w_running, w_runnable, w_alone, w_named, w_hears, w_ripe, w_room, w_tables⟩
theorem atStart : AtStart classFile x code maxLocals ret World_1 tables_1 room_1 Calls_1 rest_1 Pre_1 launch0 p0 e0 about1 theMethod args0 below0 :=
  ⟨lists_1, trivial, launch0.admits_env _ _ _, launch0.least_env, fairChoices_fair.cas, fairChoices_fair.clock, w_frames, w_args, w_heap, w_applies, trivial, trivial, w_case⟩
end start1
theorem witness_1 : WitnessClaimed_1 := ⟨start1.p0, start1.e0, start1.about1, start1.theMethod, start1.args0, start1.below0, start1.atStart⟩
end Jvm.Pilot.@@N@@
