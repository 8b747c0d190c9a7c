import JvmDerived
import JvmDerived.Pilot.@@N@@Statement
import JvmDerived.Pilot.@@N@@Code
set_option linter.unusedVariables false
set_option linter.unusedSimpArgs false
namespace Jvm.Pilot.@@N@@
open Jvm Jvm.ClassFile Sem Op Lib Jvm.Free Jvm.Stand Jvm.LawKit Jvm.RoadKit Bundle Jvm.Pilot.@@N@@.Jvm.D
section Own
variable {p : Program} {l : Launch} {e : Env} {R : Room} {s : State} {m : MethodId} {args : Array Value} {below : List Frame} {meth : Method} {c : Code} {T T' : State} {locs : List Loc} {cells slots : Nat}
/-- what a walk owes from where it stands: it comes back, with what Q says -/
def Owes (p : Program) (e : Env) (below : List Frame) (s : State) (Q : Option Value → Heap → List Loc → Prop) (k n : Nat) (T : State) (f : JFrame) : Prop :=
  ∃ s₂ o, Steps p.tables e below (T.setTop f) s₂ ∧ s₂.status = .running ∧ Ended s₂ below o ∧ ∃ v L, o = .returned v ∧ Q v s₂.heap L ∧ FrameEnd s o s₂ L k n
theorem Owes.by {Q : Option Value → Heap → List Loc → Prop} {k n : Nat} {f f' : JFrame} (st : ∀ t, Steps p.tables e below (T'.setTop f') t → Steps p.tables e below (T.setTop f) t) (h : Owes p e below s Q k n T' f') : Owes p e below s Q k n T f := by
  obtain ⟨s₂, o, h1, h2⟩ := h
  exact ⟨s₂, o, st _ h1, h2⟩
theorem Owes.ret {Q : Option Value → Heap → List Loc → Prop} {k n : Nat} {f : JFrame} (X : Stand p l e R s m args below meth c T locs cells slots) {v : Option Value} (hv : meth.sig.returnType = none → v = none) (hlk : meth.locks = false)
    (hQ : Q v T.heap locs) (hk : cells ≤ k) (hn : slots ≤ n) (st : ∀ fs, (∀ (f : JFrame) (acts : List Action), f.method = m → f.locked = none → f.entered = [] → (doReturn e (T.setTop f) acts v).1 = T.setFrames fs) → Steps p.tables e below (T.setTop f) (T.setFrames fs)) : Owes p e below s Q k n T f := by
  obtain ⟨fs, hr, hrun, hended, hW, hsame⟩ := X.leave (v := v) hv hlk
  exact ⟨_, _, st fs hr, hrun, hended, _, _, rfl, hQ, ⟨_, rfl⟩, hW, hsame.mono hk hn⟩
/-- a join point: what holds wherever the walk stands again with the same heap -/
theorem own_join {h : Heap} {G : State → Prop} {P : Prop} (X : Stand p l e R s m args below meth c T locs cells slots) (J : ∀ T', Stand p l e R s m args below meth c T' locs cells slots → T'.heap = h → G T')
    (k : (∀ T', Stand p l e R s m args below meth c T' locs cells slots → T'.heap = h → G T') → P) : P := k J
end Own
/-- it writes nothing, makes nothing, and hands back w -/
def Qv (w : Option Value) (h0 : Heap) (n0 : Nat) (v : Option Value) (h : Heap) (L : List Loc) : Prop := v = w ∧ L = [] ∧ h = h0
def QL (n0 : Nat) (v : Option Value) (h : Heap) (L : List Loc) : Prop := v = some (.int (1 : Int32)) ∧ Fr n0 L
section Words
variable {Z : State} {args : Array Value} {t : Term} {C n d : String} {a : Addr}
theorem own_fld {k : Int32} (ht : t.eval args Z none [] Z = some (.ref a)) (h : (Cond.eq (Term.field t C n d) (Term.int k)).value args Z none Z [] = some true) : Fld Z Z.heap a C n d (.int k) := by
  obtain ⟨x, y, hx, hy, h1, -⟩ := cmp_v (Or.inl h)
  obtain rfl : y = .int k := (Option.some.inj ((Term.int_eval k).symm.trans hy)).symm
  have hx' : Z.fieldOf? a C n d = some x := (fld_at ht).symm.trans hx
  cases x <;> simp [Kin, Value.isRef] at h1
  rename_i z
  have e : z = k := by simpa [Cond.value, hx, hy] using h
  subst e
  exact Fld.start hx'
theorem own_fldL {k : Int64} (ht : t.eval args Z none [] Z = some (.ref a)) (h : (Cond.eq (Term.field t C n d) (Term.long k)).value args Z none Z [] = some true) : Fld Z Z.heap a C n d (.long k) := by
  obtain ⟨x, y, hx, hy, h1, -⟩ := cmp_v (Or.inl h)
  obtain rfl : y = .long k := (Option.some.inj ((long_at k).symm.trans hy)).symm
  have hx' : Z.fieldOf? a C n d = some x := (fld_at ht).symm.trans hx
  cases x <;> simp [Kin, Value.isRef] at h1
  rename_i z
  have e : z = k := by simpa [Cond.value, hx, hy] using h
  subst e
  exact Fld.start hx'
theorem own_len {k : Int32} {cl : Cell} {ty : FieldType} (ht : t.eval args Z none [] Z = some (.ref a)) (A : Arr Z Z.heap a cl ty) (h : (Cond.eq (Term.length t) (Term.int k)).value args Z none Z [] = some true) : cl.slots.size.toInt32 = k := by
  obtain ⟨x, y, hx, hy, -, -⟩ := cmp_v (Or.inl h)
  obtain ⟨a', cell, e1, e2, rfl⟩ := Term.length_spec hx
  cases ht.symm.trans e1
  obtain rfl : y = .int k := (Option.some.inj ((Term.int_eval k).symm.trans hy)).symm
  cases A.1.symm.trans (State.arrayAt?_spec e2).1
  simpa [Cond.value, hx, hy] using h
theorem own_elem {k : Int32} {cl : Cell} {ty : FieldType} {u : Term} {w : Addr} (ht : t.eval args Z none [] Z = some (.ref a)) (A : Arr Z Z.heap a cl ty) (hu : u.eval args Z none [] Z = some (.ref w)) (h : (Cond.eq (Term.elem t (Term.int k)) u).value args Z none Z [] = some true) :
    ¬ (k < 0 ∨ cl.slots.size ≤ k.toNatClampNeg) ∧ cl.slots[k.toNatClampNeg]? = some (.ref w) := by
  obtain ⟨x, y, hx, hy, h1, -⟩ := cmp_v (Or.inl h)
  obtain rfl : y = .ref w := (Option.some.inj (hu.symm.trans hy)).symm
  obtain ⟨cell, e1, e2, e3⟩ := Jvm.Lib.elem_at hx ht (Term.int_eval k)
  cases A.1.symm.trans e1
  refine ⟨e2, ?_⟩
  cases x <;> simp [Kin, Value.isRef] at h1
  · simp [Cond.value, hx, hy] at h
  · rename_i z
    have e : z = w := by simpa [Cond.value, hx, hy] using h
    rw [e3, e]
end Words
theorem pn_Constant_Type : plainName "com/example/rewix/rewix/lang/Constant$Type" = true := by first | (simp [plainName, overriddenIn]; done) | decide +kernel
theorem d1_0 : decode prog_54_method_4_code 0 = .ok (.aload_n 0, 1) := by decide +kernel
theorem d1_1 : decode prog_54_method_4_code 1 = .ok (.getstatic 7, 3) := by decide +kernel
theorem d1_4 : decode prog_54_method_4_code 4 = .ok (.if_acmp .eq 17, 3) := by decide +kernel
theorem d1_21 : decode prog_54_method_4_code 21 = .ok (.iconst 1, 1) := by decide +kernel
theorem d1_22 : decode prog_54_method_4_code 22 = .ok (.goto 4, 3) := by decide +kernel
theorem d1_26 : decode prog_54_method_4_code 26 = .ok (.ireturn, 1) := by decide +kernel
theorem d1_7 : decode prog_54_method_4_code 7 = .ok (.aload_n 0, 1) := by decide +kernel
theorem d1_8 : decode prog_54_method_4_code 8 = .ok (.getstatic 10, 3) := by decide +kernel
theorem d1_11 : decode prog_54_method_4_code 11 = .ok (.if_acmp .eq 10, 3) := by decide +kernel
theorem d1_14 : decode prog_54_method_4_code 14 = .ok (.aload_n 0, 1) := by decide +kernel
theorem d1_15 : decode prog_54_method_4_code 15 = .ok (.getstatic 13, 3) := by decide +kernel
theorem d1_18 : decode prog_54_method_4_code 18 = .ok (.if_acmp .ne 7, 3) := by decide +kernel
theorem d1_25 : decode prog_54_method_4_code 25 = .ok (.iconst 0, 1) := by decide +kernel
theorem pn_TypeIsNumber417PinLaw : plainName "com/example/rewix/rewix/lang/TypeIsNumber417PinLaw" = true := by first | (simp [plainName, overriddenIn]; done) | decide +kernel
theorem pd_Z : parseMethodDescriptor "()Z" = some ⟨[], some .boolean⟩ := by decide +kernel
theorem ef_rmN (m : MethodId) (x0 : Addr) : entryFrame m #[(.ref x0)] 1 = mkF m 0 #[(.val (.ref x0))] [] := by first | (simp [entryFrame, mkF, argsToLocals, Value.category]; done) | rfl
set_option maxRecDepth 65536 in
set_option maxHeartbeats 40000000 in
theorem rmN (l : Launch) (Z : State) (a0 : Array Value) (hw : ∀ d ∈ tables_1, d.before a0 Z = true) (ws : List Jvm.Cond) (a1 w_INTEGER w_DECIMAL w_DOUBLE : Addr) (r : Int32) (h0 : Heap) (n0 : Nat) (Z0 : n0 ≤ h0.size) (S_INTEGER : Sta Z h0 "com/example/rewix/rewix/lang/Constant$Type" "INTEGER" "Lcom/example/rewix/rewix/lang/Constant$Type;" (.ref w_INTEGER)) (S_DECIMAL : Sta Z h0 "com/example/rewix/rewix/lang/Constant$Type" "DECIMAL" "Lcom/example/rewix/rewix/lang/Constant$Type;" (.ref w_DECIMAL)) (S_DOUBLE : Sta Z h0 "com/example/rewix/rewix/lang/Constant$Type" "DOUBLE" "Lcom/example/rewix/rewix/lang/Constant$Type;" (.ref w_DOUBLE)) (hr : (if a1 = w_INTEGER ∨ a1 = w_DECIMAL ∨ a1 = w_DOUBLE then (1 : Int32) else 0) = r) :
    MetFree l (⟨"com/example/rewix/rewix/lang/Constant$Type", "isNumber", "()Z"⟩ : MethodName) (head1 (Jvm.Cond.code (⟨"com/example/rewix/rewix/lang/Constant$Type", "isNumber", "()Z"⟩ : MethodName) prog_54_method_4_code 1 (some .boolean) :: ws) ({ frames := 0, cells := 0, slots := 0, locals := 0 } : Room)) (fun aa UU => aa = #[(.ref a1)] ∧ Z.Warmed39 UU.vm ∧ UU.heap = h0) (fun _ _ _ _ _ => True) (fun _ UU oo UU' => ∃ vr Lr, oo = .returned vr ∧ (Qv (some (.int r)) h0 n0) vr UU'.heap Lr ∧ FrameEnd UU oo UU' Lr ({ frames := 0, cells := 0, slots := 0, locals := 0 } : Room).cells ({ frames := 0, cells := 0, slots := 0, locals := 0 } : Room).slots) := by
  refine MetFree.of_bodySF (plainFor_of_name pn_Constant_Type) hisR ?_
  intro p e s m args below meth c s₁ Bd hml0 hP hK
  obtain ⟨rfl, hZ, hh⟩ := hP
  have hx := Bd.exec
  have hby := Bd.bytes
  have hml : c.maxLocals = 1 := hml0
  have hown : s.vm.findClass "com/example/rewix/rewix/lang/Constant$Type" = some m.cls := findClass_of_methodNamed Bd.named
  have hnm := (name_of_methodNamed Bd.named Bd.method).1
  have hlk := Bd.notSynchronized
  have X0 : Stand p l e ({ frames := 0, cells := 0, slots := 0, locals := 0 } : Room) s m #[(.ref a1)] below meth c s₁ [] 0 0 := Stand.of_body Bd
  have e0 : s₁.heap = h0 := by rw [← hh, Bd.state]; rfl
  have N0 := Fr.nil n0
  show Owes p e below s (Qv (some (.int r)) h0 n0) ({ frames := 0, cells := 0, slots := 0, locals := 0 } : Room).cells ({ frames := 0, cells := 0, slots := 0, locals := 0 } : Room).slots s₁ (entryFrame m #[(.ref a1)] 1)
  rw [ef_rmN m a1]
  show Owes p e below s (Qv (some (.int r)) h0 n0) ({ frames := 0, cells := 0, slots := 0, locals := 0 } : Room).cells ({ frames := 0, cells := 0, slots := 0, locals := 0 } : Room).slots s₁ (mkF m 0 #[(.val (.ref a1))] [])
  refine Owes.by (fun _ k => XS.aloadN X0.here hx rfl (hb hby d1_0) rfl rfl k) ?_
  show Owes p e below s (Qv (some (.int r)) h0 n0) ({ frames := 0, cells := 0, slots := 0, locals := 0 } : Room).cells ({ frames := 0, cells := 0, slots := 0, locals := 0 } : Room).slots s₁ (mkF m 1 #[(.val (.ref a1))] [(.ref a1)])
  obtain ⟨T1, X1, e1, st1⟩ := getS2 X0 hx hZ hown (host := "") (Or.inl (hw _ (List.mem_of_getElem? (i := 9) rfl))) Via.refl e0 S_INTEGER (g := (mkF m 1 #[(.val (.ref a1))] [(.ref a1)])) rfl (hb hby d1_1)
  refine Owes.by st1 ?_
  show Owes p e below s (Qv (some (.int r)) h0 n0) ({ frames := 0, cells := 0, slots := 0, locals := 0 } : Room).cells ({ frames := 0, cells := 0, slots := 0, locals := 0 } : Room).slots T1 (mkF m 4 #[(.val (.ref a1))] [(.ref w_INTEGER), (.ref a1)])
  by_cases q0 : a1 = w_INTEGER
  · skip
    refine Owes.by (fun _ k => Jvm.RoadKit.acmp (g := (mkF m 4 #[(.val (.ref a1))] [(.ref w_INTEGER), (.ref a1)])) X1 hx rfl rfl rfl (pc0 := 4) (pc' := 21) (same := true) rfl (hb hby d1_4) rfl (decide_eq_true (congrArg Value.ref q0)) (by decide) (by decide) k) ?_
    show Owes p e below s (Qv (some (.int r)) h0 n0) ({ frames := 0, cells := 0, slots := 0, locals := 0 } : Room).cells ({ frames := 0, cells := 0, slots := 0, locals := 0 } : Room).slots T1 (mkF m 21 #[(.val (.ref a1))] [])
    refine Owes.by (fun _ k => XS.iconst X1.here hx rfl (hb hby d1_21) k) ?_
    show Owes p e below s (Qv (some (.int r)) h0 n0) ({ frames := 0, cells := 0, slots := 0, locals := 0 } : Room).cells ({ frames := 0, cells := 0, slots := 0, locals := 0 } : Room).slots T1 (mkF m 22 #[(.val (.ref a1))] [(.int (1 : Int32))])
    refine Owes.by (fun _ k => XS.goto X1.here hx rfl (pc0 := 22) (pc' := 26) rfl (hb hby d1_22) (by decide) (by decide) k) ?_
    show Owes p e below s (Qv (some (.int r)) h0 n0) ({ frames := 0, cells := 0, slots := 0, locals := 0 } : Room).cells ({ frames := 0, cells := 0, slots := 0, locals := 0 } : Room).slots T1 (mkF m 26 #[(.val (.ref a1))] [(.int (1 : Int32))])
    refine Owes.ret X1 (v := some (.int (1 : Int32))) (fun h => by rw [Bd.returns] at h; cases h) hlk ?_ (by decide) (by decide) (fun fs hr => retN X1 hx (t := .boolean) Bd.returns (by simp) (hb hby d1_26) hr)
    rw [e1]
    exact ⟨by rw [← hr]; simp [q0], rfl, rfl⟩
  · skip
    refine Owes.by (fun _ k => Jvm.RoadKit.acmp (g := (mkF m 4 #[(.val (.ref a1))] [(.ref w_INTEGER), (.ref a1)])) X1 hx rfl rfl rfl (pc0 := 4) (pc' := 7) (same := false) rfl (hb hby d1_4) rfl (decide_eq_false fun q => q0 (Value.ref.inj q)) (by decide) (by decide) k) ?_
    show Owes p e below s (Qv (some (.int r)) h0 n0) ({ frames := 0, cells := 0, slots := 0, locals := 0 } : Room).cells ({ frames := 0, cells := 0, slots := 0, locals := 0 } : Room).slots T1 (mkF m 7 #[(.val (.ref a1))] [])
    refine Owes.by (fun _ k => XS.aloadN X1.here hx rfl (hb hby d1_7) rfl rfl k) ?_
    show Owes p e below s (Qv (some (.int r)) h0 n0) ({ frames := 0, cells := 0, slots := 0, locals := 0 } : Room).cells ({ frames := 0, cells := 0, slots := 0, locals := 0 } : Room).slots T1 (mkF m 8 #[(.val (.ref a1))] [(.ref a1)])
    obtain ⟨T2, X2, e2, st2⟩ := getS2 X1 hx hZ hown (host := "") (Or.inl (hw _ (List.mem_of_getElem? (i := 11) rfl))) Via.refl e1 S_DECIMAL (g := (mkF m 8 #[(.val (.ref a1))] [(.ref a1)])) rfl (hb hby d1_8)
    refine Owes.by st2 ?_
    show Owes p e below s (Qv (some (.int r)) h0 n0) ({ frames := 0, cells := 0, slots := 0, locals := 0 } : Room).cells ({ frames := 0, cells := 0, slots := 0, locals := 0 } : Room).slots T2 (mkF m 11 #[(.val (.ref a1))] [(.ref w_DECIMAL), (.ref a1)])
    by_cases q1 : a1 = w_DECIMAL
    · skip
      refine Owes.by (fun _ k => Jvm.RoadKit.acmp (g := (mkF m 11 #[(.val (.ref a1))] [(.ref w_DECIMAL), (.ref a1)])) X2 hx rfl rfl rfl (pc0 := 11) (pc' := 21) (same := true) rfl (hb hby d1_11) rfl (decide_eq_true (congrArg Value.ref q1)) (by decide) (by decide) k) ?_
      show Owes p e below s (Qv (some (.int r)) h0 n0) ({ frames := 0, cells := 0, slots := 0, locals := 0 } : Room).cells ({ frames := 0, cells := 0, slots := 0, locals := 0 } : Room).slots T2 (mkF m 21 #[(.val (.ref a1))] [])
      refine Owes.by (fun _ k => XS.iconst X2.here hx rfl (hb hby d1_21) k) ?_
      show Owes p e below s (Qv (some (.int r)) h0 n0) ({ frames := 0, cells := 0, slots := 0, locals := 0 } : Room).cells ({ frames := 0, cells := 0, slots := 0, locals := 0 } : Room).slots T2 (mkF m 22 #[(.val (.ref a1))] [(.int (1 : Int32))])
      refine Owes.by (fun _ k => XS.goto X2.here hx rfl (pc0 := 22) (pc' := 26) rfl (hb hby d1_22) (by decide) (by decide) k) ?_
      show Owes p e below s (Qv (some (.int r)) h0 n0) ({ frames := 0, cells := 0, slots := 0, locals := 0 } : Room).cells ({ frames := 0, cells := 0, slots := 0, locals := 0 } : Room).slots T2 (mkF m 26 #[(.val (.ref a1))] [(.int (1 : Int32))])
      refine Owes.ret X2 (v := some (.int (1 : Int32))) (fun h => by rw [Bd.returns] at h; cases h) hlk ?_ (by decide) (by decide) (fun fs hr => retN X2 hx (t := .boolean) Bd.returns (by simp) (hb hby d1_26) hr)
      rw [e2]
      exact ⟨by rw [← hr]; simp [q0, q1], rfl, rfl⟩
    · skip
      refine Owes.by (fun _ k => Jvm.RoadKit.acmp (g := (mkF m 11 #[(.val (.ref a1))] [(.ref w_DECIMAL), (.ref a1)])) X2 hx rfl rfl rfl (pc0 := 11) (pc' := 14) (same := false) rfl (hb hby d1_11) rfl (decide_eq_false fun q => q1 (Value.ref.inj q)) (by decide) (by decide) k) ?_
      show Owes p e below s (Qv (some (.int r)) h0 n0) ({ frames := 0, cells := 0, slots := 0, locals := 0 } : Room).cells ({ frames := 0, cells := 0, slots := 0, locals := 0 } : Room).slots T2 (mkF m 14 #[(.val (.ref a1))] [])
      refine Owes.by (fun _ k => XS.aloadN X2.here hx rfl (hb hby d1_14) rfl rfl k) ?_
      show Owes p e below s (Qv (some (.int r)) h0 n0) ({ frames := 0, cells := 0, slots := 0, locals := 0 } : Room).cells ({ frames := 0, cells := 0, slots := 0, locals := 0 } : Room).slots T2 (mkF m 15 #[(.val (.ref a1))] [(.ref a1)])
      obtain ⟨T3, X3, e3, st3⟩ := getS2 X2 hx hZ hown (host := "") (Or.inl (hw _ (List.mem_of_getElem? (i := 13) rfl))) Via.refl e2 S_DOUBLE (g := (mkF m 15 #[(.val (.ref a1))] [(.ref a1)])) rfl (hb hby d1_15)
      refine Owes.by st3 ?_
      show Owes p e below s (Qv (some (.int r)) h0 n0) ({ frames := 0, cells := 0, slots := 0, locals := 0 } : Room).cells ({ frames := 0, cells := 0, slots := 0, locals := 0 } : Room).slots T3 (mkF m 18 #[(.val (.ref a1))] [(.ref w_DOUBLE), (.ref a1)])
      by_cases q2 : a1 = w_DOUBLE
      · skip
        refine Owes.by (fun _ k => Jvm.RoadKit.acmp (g := (mkF m 18 #[(.val (.ref a1))] [(.ref w_DOUBLE), (.ref a1)])) X3 hx rfl rfl rfl (pc0 := 18) (pc' := 21) (same := true) rfl (hb hby d1_18) rfl (decide_eq_true (congrArg Value.ref q2)) (by decide) (by decide) k) ?_
        show Owes p e below s (Qv (some (.int r)) h0 n0) ({ frames := 0, cells := 0, slots := 0, locals := 0 } : Room).cells ({ frames := 0, cells := 0, slots := 0, locals := 0 } : Room).slots T3 (mkF m 21 #[(.val (.ref a1))] [])
        refine Owes.by (fun _ k => XS.iconst X3.here hx rfl (hb hby d1_21) k) ?_
        show Owes p e below s (Qv (some (.int r)) h0 n0) ({ frames := 0, cells := 0, slots := 0, locals := 0 } : Room).cells ({ frames := 0, cells := 0, slots := 0, locals := 0 } : Room).slots T3 (mkF m 22 #[(.val (.ref a1))] [(.int (1 : Int32))])
        refine Owes.by (fun _ k => XS.goto X3.here hx rfl (pc0 := 22) (pc' := 26) rfl (hb hby d1_22) (by decide) (by decide) k) ?_
        show Owes p e below s (Qv (some (.int r)) h0 n0) ({ frames := 0, cells := 0, slots := 0, locals := 0 } : Room).cells ({ frames := 0, cells := 0, slots := 0, locals := 0 } : Room).slots T3 (mkF m 26 #[(.val (.ref a1))] [(.int (1 : Int32))])
        refine Owes.ret X3 (v := some (.int (1 : Int32))) (fun h => by rw [Bd.returns] at h; cases h) hlk ?_ (by decide) (by decide) (fun fs hr => retN X3 hx (t := .boolean) Bd.returns (by simp) (hb hby d1_26) hr)
        rw [e3]
        exact ⟨by rw [← hr]; simp [q0, q1, q2], rfl, rfl⟩
      · skip
        refine Owes.by (fun _ k => Jvm.RoadKit.acmp (g := (mkF m 18 #[(.val (.ref a1))] [(.ref w_DOUBLE), (.ref a1)])) X3 hx rfl rfl rfl (pc0 := 18) (pc' := 25) (same := false) rfl (hb hby d1_18) rfl (decide_eq_false fun q => q2 (Value.ref.inj q)) (by decide) (by decide) k) ?_
        show Owes p e below s (Qv (some (.int r)) h0 n0) ({ frames := 0, cells := 0, slots := 0, locals := 0 } : Room).cells ({ frames := 0, cells := 0, slots := 0, locals := 0 } : Room).slots T3 (mkF m 25 #[(.val (.ref a1))] [])
        refine Owes.by (fun _ k => XS.iconst X3.here hx rfl (hb hby d1_25) k) ?_
        show Owes p e below s (Qv (some (.int r)) h0 n0) ({ frames := 0, cells := 0, slots := 0, locals := 0 } : Room).cells ({ frames := 0, cells := 0, slots := 0, locals := 0 } : Room).slots T3 (mkF m 26 #[(.val (.ref a1))] [(.int (0 : Int32))])
        refine Owes.ret X3 (v := some (.int (0 : Int32))) (fun h => by rw [Bd.returns] at h; cases h) hlk ?_ (by decide) (by decide) (fun fs hr => retN X3 hx (t := .boolean) Bd.returns (by simp) (hb hby d1_26) hr)
        rw [e3]
        exact ⟨by rw [← hr]; simp [q0, q1, q2], rfl, rfl⟩
theorem ef_rm0 (m : MethodId) (x0 : Int32) : entryFrame m #[(.int x0)] maxLocals = mkF m 0 #[(.val (.int x0)), .unset, .unset, .unset] [] := by first | (simp [entryFrame, mkF, argsToLocals, Value.category, maxLocals]; done) | rfl
set_option maxRecDepth 65536 in
set_option maxHeartbeats 40000000 in
theorem rm0 (l : Launch) (Z : State) (a0 : Array Value) (hw : ∀ d ∈ tables_1, d.before a0 Z = true) (ws : List Jvm.Cond) (p0 : Int32) (w_STRING w_INTEGER w_DECIMAL w_DOUBLE w_DATE : Addr) (h0 : Heap) (n0 : Nat) (Z0 : n0 ≤ h0.size) (S_STRING : Sta Z h0 "com/example/rewix/rewix/lang/Constant$Type" "STRING" "Lcom/example/rewix/rewix/lang/Constant$Type;" (.ref w_STRING)) (S_INTEGER : Sta Z h0 "com/example/rewix/rewix/lang/Constant$Type" "INTEGER" "Lcom/example/rewix/rewix/lang/Constant$Type;" (.ref w_INTEGER)) (S_DECIMAL : Sta Z h0 "com/example/rewix/rewix/lang/Constant$Type" "DECIMAL" "Lcom/example/rewix/rewix/lang/Constant$Type;" (.ref w_DECIMAL)) (S_DOUBLE : Sta Z h0 "com/example/rewix/rewix/lang/Constant$Type" "DOUBLE" "Lcom/example/rewix/rewix/lang/Constant$Type;" (.ref w_DOUBLE)) (S_DATE : Sta Z h0 "com/example/rewix/rewix/lang/Constant$Type" "DATE" "Lcom/example/rewix/rewix/lang/Constant$Type;" (.ref w_DATE)) (E_STRING : Exa Z h0 w_STRING "com/example/rewix/rewix/lang/Constant$Type") (E_INTEGER : Exa Z h0 w_INTEGER "com/example/rewix/rewix/lang/Constant$Type") (E_DECIMAL : Exa Z h0 w_DECIMAL "com/example/rewix/rewix/lang/Constant$Type") (E_DOUBLE : Exa Z h0 w_DOUBLE "com/example/rewix/rewix/lang/Constant$Type") (E_DATE : Exa Z h0 w_DATE "com/example/rewix/rewix/lang/Constant$Type") (n_STRING_INTEGER : w_STRING ≠ w_INTEGER) (n_STRING_DECIMAL : w_STRING ≠ w_DECIMAL) (n_STRING_DOUBLE : w_STRING ≠ w_DOUBLE) (n_DATE_INTEGER : w_DATE ≠ w_INTEGER) (n_DATE_DECIMAL : w_DATE ≠ w_DECIMAL) (n_DATE_DOUBLE : w_DATE ≠ w_DOUBLE) :
    MetFree l x (head1 (Jvm.Cond.code x code maxLocals ret :: ws) room_1) (fun aa UU => aa = #[(.int p0)] ∧ Z.Warmed39 UU.vm ∧ UU.heap = h0) (fun _ _ _ _ _ => True) (fun _ UU oo UU' => ∃ vr Lr, oo = .returned vr ∧ (QL n0) vr UU'.heap Lr ∧ FrameEnd UU oo UU' Lr room_1.cells room_1.slots) := by
  refine MetFree.of_bodySF (plainFor_of_name pn_TypeIsNumber417PinLaw) hisR ?_
  intro p e s m args below meth c s₁ Bd hml0 hP hK
  obtain ⟨rfl, hZ, hh⟩ := hP
  have hx := Bd.exec
  have hby := Bd.bytes
  have hml : c.maxLocals = 4 := hml0
  have hown : s.vm.findClass "com/example/rewix/rewix/lang/TypeIsNumber417PinLaw" = some m.cls := findClass_of_methodNamed Bd.named
  have hnm := (name_of_methodNamed Bd.named Bd.method).1
  have hlk := Bd.notSynchronized
  have X0 : Stand p l e room_1 s m #[(.int p0)] below meth c s₁ [] 0 0 := Stand.of_body Bd
  have e0 : s₁.heap = h0 := by rw [← hh, Bd.state]; rfl
  have N0 := Fr.nil n0
  show Owes p e below s (QL n0) room_1.cells room_1.slots s₁ (entryFrame m #[(.int p0)] maxLocals)
  rw [ef_rm0 m p0]
  show Owes p e below s (QL n0) room_1.cells room_1.slots s₁ (mkF m 0 #[(.val (.int p0)), .unset, .unset, .unset] [])
  refine Owes.by (fun _ k => XS.iloadN X0.here hx rfl (hb hby at_0) rfl k) ?_
  show Owes p e below s (QL n0) room_1.cells room_1.slots s₁ (mkF m 1 #[(.val (.int p0)), .unset, .unset, .unset] [(.int p0)])
  refine Owes.by (fun t k => X0.ldcInt hx hown (mvT hZ (hw _ (List.mem_of_getElem? (i := 0) rfl))) (g := (mkF m 1 #[(.val (.int p0)), .unset, .unset, .unset] [(.int p0)])) rfl (hb hby at_1) t k) ?_
  show Owes p e below s (QL n0) room_1.cells room_1.slots s₁ (mkF m 3 #[(.val (.int p0)), .unset, .unset, .unset] [(.int (2147483647 : Int32)), (.int p0)])
  refine Owes.by (fun _ k => XS.iand X0.here hx rfl (hb hby at_3) rfl k) ?_
  show Owes p e below s (QL n0) room_1.cells room_1.slots s₁ (mkF m 4 #[(.val (.int p0)), .unset, .unset, .unset] [(.int (p0 &&& (2147483647 : Int32)))])
  refine Owes.by (fun _ k => XS.iconst X0.here hx rfl (hb hby at_4) k) ?_
  show Owes p e below s (QL n0) room_1.cells room_1.slots s₁ (mkF m 5 #[(.val (.int p0)), .unset, .unset, .unset] [(.int (5 : Int32)), (.int (p0 &&& (2147483647 : Int32)))])
  refine Owes.by (fun _ k => iremM X0 hx rfl (hb hby at_5) rfl (by decide) k) ?_
  show Owes p e below s (QL n0) room_1.cells room_1.slots s₁ (mkF m 6 #[(.val (.int p0)), .unset, .unset, .unset] [(.int ((p0 &&& (2147483647 : Int32)) % (5 : Int32)))])
  refine Owes.by (fun _ k => XS.istoreN X0.here hx rfl (hb hby at_6) rfl (l' := #[(.val (.int p0)), (.val (.int ((p0 &&& (2147483647 : Int32)) % (5 : Int32)))), .unset, .unset]) rfl k) ?_
  show Owes p e below s (QL n0) room_1.cells room_1.slots s₁ (mkF m 7 #[(.val (.int p0)), (.val (.int ((p0 &&& (2147483647 : Int32)) % (5 : Int32)))), .unset, .unset] [])
  refine Owes.by (fun _ k => XS.iloadN X0.here hx rfl (hb hby at_7) rfl k) ?_
  show Owes p e below s (QL n0) room_1.cells room_1.slots s₁ (mkF m 8 #[(.val (.int p0)), (.val (.int ((p0 &&& (2147483647 : Int32)) % (5 : Int32)))), .unset, .unset] [(.int ((p0 &&& (2147483647 : Int32)) % (5 : Int32)))])
  by_cases q0 : ((p0 &&& (2147483647 : Int32)) % (5 : Int32)) = 0
  · skip
    refine Owes.by (fun _ k => XS.ifNo X0.here hx rfl (hb hby at_8) rfl (XT.i0_ne_f q0) k) ?_
    show Owes p e below s (QL n0) room_1.cells room_1.slots s₁ (mkF m 11 #[(.val (.int p0)), (.val (.int ((p0 &&& (2147483647 : Int32)) % (5 : Int32)))), .unset, .unset] [])
    obtain ⟨T1, X1, e1, st1⟩ := getS2 X0 hx hZ hown (host := "") (Or.inl (hw _ (List.mem_of_getElem? (i := 1) rfl))) Via.refl e0 S_STRING (g := (mkF m 11 #[(.val (.int p0)), (.val (.int ((p0 &&& (2147483647 : Int32)) % (5 : Int32)))), .unset, .unset] [])) rfl (hb hby at_11)
    refine Owes.by st1 ?_
    show Owes p e below s (QL n0) room_1.cells room_1.slots T1 (mkF m 14 #[(.val (.int p0)), (.val (.int ((p0 &&& (2147483647 : Int32)) % (5 : Int32)))), .unset, .unset] [(.ref w_STRING)])
    refine Owes.by (fun _ k => XS.astoreN X1.here hx rfl (hb hby at_14) rfl rfl (l' := #[(.val (.int p0)), (.val (.int ((p0 &&& (2147483647 : Int32)) % (5 : Int32)))), (.val (.ref w_STRING)), .unset]) rfl k) ?_
    show Owes p e below s (QL n0) room_1.cells room_1.slots T1 (mkF m 15 #[(.val (.int p0)), (.val (.int ((p0 &&& (2147483647 : Int32)) % (5 : Int32)))), (.val (.ref w_STRING)), .unset] [])
    refine Owes.by (fun _ k => XS.iconst X1.here hx rfl (hb hby at_15) k) ?_
    show Owes p e below s (QL n0) room_1.cells room_1.slots T1 (mkF m 16 #[(.val (.int p0)), (.val (.int ((p0 &&& (2147483647 : Int32)) % (5 : Int32)))), (.val (.ref w_STRING)), .unset] [(.int (0 : Int32))])
    refine Owes.by (fun _ k => XS.istoreN X1.here hx rfl (hb hby at_16) rfl (l' := #[(.val (.int p0)), (.val (.int ((p0 &&& (2147483647 : Int32)) % (5 : Int32)))), (.val (.ref w_STRING)), (.val (.int (0 : Int32)))]) rfl k) ?_
    show Owes p e below s (QL n0) room_1.cells room_1.slots T1 (mkF m 17 #[(.val (.int p0)), (.val (.int ((p0 &&& (2147483647 : Int32)) % (5 : Int32)))), (.val (.ref w_STRING)), (.val (.int (0 : Int32)))] [])
    refine Owes.by (fun _ k => XS.goto X1.here hx rfl (pc0 := 17) (pc' := 68) rfl (hb hby at_17) (by decide) (by decide) k) ?_
    show Owes p e below s (QL n0) room_1.cells room_1.slots T1 (mkF m 68 #[(.val (.int p0)), (.val (.int ((p0 &&& (2147483647 : Int32)) % (5 : Int32)))), (.val (.ref w_STRING)), (.val (.int (0 : Int32)))] [])
    refine Owes.by (fun _ k => XS.aloadN X1.here hx rfl (hb hby at_68) rfl rfl k) ?_
    show Owes p e below s (QL n0) room_1.cells room_1.slots T1 (mkF m 69 #[(.val (.int p0)), (.val (.int ((p0 &&& (2147483647 : Int32)) % (5 : Int32)))), (.val (.ref w_STRING)), (.val (.int (0 : Int32)))] [(.ref w_STRING)])
    obtain ⟨cq2, kq2, qa2, qb2, qc2⟩ := isOf hZ e1 E_STRING
    obtain ⟨_, _, ⟨T2, L2, k2, n2⟩, -, X2, ⟨Lc2, hQ2, l2, y2, z2⟩, st2⟩ := X1.virtualBack hx (y := (⟨"com/example/rewix/rewix/lang/Constant$Type", "isNumber", "()Z"⟩ : MethodName)) (z := (⟨"com/example/rewix/rewix/lang/Constant$Type", "isNumber", "()Z"⟩ : MethodName)) hown (mvT hZ (hw _ (List.mem_of_getElem? (i := 4) rfl))) (mvT hZ (hw _ (List.mem_of_getElem? (i := 5) rfl))) (notFace_of_selects (args := #[]) (mvT hZ (hw _ (List.mem_of_getElem? (i := 7) rfl)))) (mvT hZ (hw _ (List.mem_of_getElem? (i := 7) rfl))) (mvT hZ (hw _ (List.mem_of_getElem? (i := 6) rfl))) (by decide) (backOf (W := 0) (rmN l Z a0 hw [] w_STRING w_INTEGER w_DECIMAL w_DOUBLE 0 h0 n0 Z0 S_INTEGER S_DECIMAL S_DOUBLE (by simp [n_STRING_INTEGER, n_STRING_DECIMAL, n_STRING_DOUBLE])) hZ (hw _ (List.mem_of_getElem? (i := 8) rfl)) (hw _ (List.mem_of_getElem? (i := 2) rfl)) (by decide) (by decide)) qa2 qc2 (g := (mkF m 69 #[(.val (.int p0)), (.val (.int ((p0 &&& (2147483647 : Int32)) % (5 : Int32)))), (.val (.ref w_STRING)), (.val (.int (0 : Int32)))] [(.ref w_STRING)])) rfl (by rw [hml]; rfl) (Steps.refl _) (argsL := []) (rest := []) (lenOf pd_Z rfl) rfl (by show 2 * 0 + _ ≤ _; exact Nat.le_of_eq rfl) (hb hby at_69) (fun _ _ => ⟨rfl, e1, (by decide : 0 + 0 ≤ _), (by decide : 0 + 0 ≤ _)⟩)
    dsimp only [Pt.U, Pt.locs, Pt.cells, Pt.slots] at X2 l2 y2 z2 st2 hQ2
    subst l2 y2 z2
    obtain ⟨rfl, rfl, e2⟩ := hQ2
    try rw [List.append_nil] at X2
    refine Owes.by (fun _ k => st2.trans k) ?_
    show Owes p e below s (QL n0) room_1.cells room_1.slots T2 (mkF m 72 #[(.val (.int p0)), (.val (.int ((p0 &&& (2147483647 : Int32)) % (5 : Int32)))), (.val (.ref w_STRING)), (.val (.int (0 : Int32)))] [(.int (0 : Int32))])
    refine Owes.by (fun _ k => XS.iloadN X2.here hx rfl (hb hby at_72) rfl k) ?_
    show Owes p e below s (QL n0) room_1.cells room_1.slots T2 (mkF m 73 #[(.val (.int p0)), (.val (.int ((p0 &&& (2147483647 : Int32)) % (5 : Int32)))), (.val (.ref w_STRING)), (.val (.int (0 : Int32)))] [(.int (0 : Int32)), (.int (0 : Int32))])
    refine Owes.by (fun _ k => XS.icmpNo X2.here hx rfl (hb hby at_73) rfl (XT.ii_ne_f (by decide)) k) ?_
    show Owes p e below s (QL n0) room_1.cells room_1.slots T2 (mkF m 76 #[(.val (.int p0)), (.val (.int ((p0 &&& (2147483647 : Int32)) % (5 : Int32)))), (.val (.ref w_STRING)), (.val (.int (0 : Int32)))] [])
    refine Owes.by (fun _ k => XS.iconst X2.here hx rfl (hb hby at_76) k) ?_
    show Owes p e below s (QL n0) room_1.cells room_1.slots T2 (mkF m 77 #[(.val (.int p0)), (.val (.int ((p0 &&& (2147483647 : Int32)) % (5 : Int32)))), (.val (.ref w_STRING)), (.val (.int (0 : Int32)))] [(.int (1 : Int32))])
    refine Owes.by (fun _ k => XS.goto X2.here hx rfl (pc0 := 77) (pc' := 81) rfl (hb hby at_77) (by decide) (by decide) k) ?_
    show Owes p e below s (QL n0) room_1.cells room_1.slots T2 (mkF m 81 #[(.val (.int p0)), (.val (.int ((p0 &&& (2147483647 : Int32)) % (5 : Int32)))), (.val (.ref w_STRING)), (.val (.int (0 : Int32)))] [(.int (1 : Int32))])
    refine Owes.ret X2 (v := some (.int (1 : Int32))) (fun h => by rw [Bd.returns] at h; cases h) hlk ?_ (by decide) (by decide) (fun fs hr => retN X2 hx (t := .boolean) Bd.returns (by simp) (hb hby at_81) hr)
    rw [e2]
    exact ⟨rfl, N0⟩
  · skip
    refine Owes.by (fun _ k => XS.ifYes X0.here hx rfl (pc0 := 8) (pc' := 20) rfl (hb hby at_8) rfl (XT.i0_ne_t q0) (by decide) (by decide) k) ?_
    show Owes p e below s (QL n0) room_1.cells room_1.slots s₁ (mkF m 20 #[(.val (.int p0)), (.val (.int ((p0 &&& (2147483647 : Int32)) % (5 : Int32)))), .unset, .unset] [])
    refine Owes.by (fun _ k => XS.iloadN X0.here hx rfl (hb hby at_20) rfl k) ?_
    show Owes p e below s (QL n0) room_1.cells room_1.slots s₁ (mkF m 21 #[(.val (.int p0)), (.val (.int ((p0 &&& (2147483647 : Int32)) % (5 : Int32)))), .unset, .unset] [(.int ((p0 &&& (2147483647 : Int32)) % (5 : Int32)))])
    refine Owes.by (fun _ k => XS.iconst X0.here hx rfl (hb hby at_21) k) ?_
    show Owes p e below s (QL n0) room_1.cells room_1.slots s₁ (mkF m 22 #[(.val (.int p0)), (.val (.int ((p0 &&& (2147483647 : Int32)) % (5 : Int32)))), .unset, .unset] [(.int (1 : Int32)), (.int ((p0 &&& (2147483647 : Int32)) % (5 : Int32)))])
    by_cases q1 : ((p0 &&& (2147483647 : Int32)) % (5 : Int32)) = (1 : Int32)
    · skip
      refine Owes.by (fun _ k => XS.icmpNo X0.here hx rfl (hb hby at_22) rfl (XT.ii_ne_f q1) k) ?_
      show Owes p e below s (QL n0) room_1.cells room_1.slots s₁ (mkF m 25 #[(.val (.int p0)), (.val (.int ((p0 &&& (2147483647 : Int32)) % (5 : Int32)))), .unset, .unset] [])
      obtain ⟨T3, X3, e3, st3⟩ := getS2 X0 hx hZ hown (host := "") (Or.inl (hw _ (List.mem_of_getElem? (i := 16) rfl))) Via.refl e0 S_INTEGER (g := (mkF m 25 #[(.val (.int p0)), (.val (.int ((p0 &&& (2147483647 : Int32)) % (5 : Int32)))), .unset, .unset] [])) rfl (hb hby at_25)
      refine Owes.by st3 ?_
      show Owes p e below s (QL n0) room_1.cells room_1.slots T3 (mkF m 28 #[(.val (.int p0)), (.val (.int ((p0 &&& (2147483647 : Int32)) % (5 : Int32)))), .unset, .unset] [(.ref w_INTEGER)])
      refine Owes.by (fun _ k => XS.astoreN X3.here hx rfl (hb hby at_28) rfl rfl (l' := #[(.val (.int p0)), (.val (.int ((p0 &&& (2147483647 : Int32)) % (5 : Int32)))), (.val (.ref w_INTEGER)), .unset]) rfl k) ?_
      show Owes p e below s (QL n0) room_1.cells room_1.slots T3 (mkF m 29 #[(.val (.int p0)), (.val (.int ((p0 &&& (2147483647 : Int32)) % (5 : Int32)))), (.val (.ref w_INTEGER)), .unset] [])
      refine Owes.by (fun _ k => XS.iconst X3.here hx rfl (hb hby at_29) k) ?_
      show Owes p e below s (QL n0) room_1.cells room_1.slots T3 (mkF m 30 #[(.val (.int p0)), (.val (.int ((p0 &&& (2147483647 : Int32)) % (5 : Int32)))), (.val (.ref w_INTEGER)), .unset] [(.int (1 : Int32))])
      refine Owes.by (fun _ k => XS.istoreN X3.here hx rfl (hb hby at_30) rfl (l' := #[(.val (.int p0)), (.val (.int ((p0 &&& (2147483647 : Int32)) % (5 : Int32)))), (.val (.ref w_INTEGER)), (.val (.int (1 : Int32)))]) rfl k) ?_
      show Owes p e below s (QL n0) room_1.cells room_1.slots T3 (mkF m 31 #[(.val (.int p0)), (.val (.int ((p0 &&& (2147483647 : Int32)) % (5 : Int32)))), (.val (.ref w_INTEGER)), (.val (.int (1 : Int32)))] [])
      refine Owes.by (fun _ k => XS.goto X3.here hx rfl (pc0 := 31) (pc' := 68) rfl (hb hby at_31) (by decide) (by decide) k) ?_
      show Owes p e below s (QL n0) room_1.cells room_1.slots T3 (mkF m 68 #[(.val (.int p0)), (.val (.int ((p0 &&& (2147483647 : Int32)) % (5 : Int32)))), (.val (.ref w_INTEGER)), (.val (.int (1 : Int32)))] [])
      refine Owes.by (fun _ k => XS.aloadN X3.here hx rfl (hb hby at_68) rfl rfl k) ?_
      show Owes p e below s (QL n0) room_1.cells room_1.slots T3 (mkF m 69 #[(.val (.int p0)), (.val (.int ((p0 &&& (2147483647 : Int32)) % (5 : Int32)))), (.val (.ref w_INTEGER)), (.val (.int (1 : Int32)))] [(.ref w_INTEGER)])
      obtain ⟨cq4, kq4, qa4, qb4, qc4⟩ := isOf hZ e3 E_INTEGER
      obtain ⟨_, _, ⟨T4, L4, k4, n4⟩, -, X4, ⟨Lc4, hQ4, l4, y4, z4⟩, st4⟩ := X3.virtualBack hx (y := (⟨"com/example/rewix/rewix/lang/Constant$Type", "isNumber", "()Z"⟩ : MethodName)) (z := (⟨"com/example/rewix/rewix/lang/Constant$Type", "isNumber", "()Z"⟩ : MethodName)) hown (mvT hZ (hw _ (List.mem_of_getElem? (i := 4) rfl))) (mvT hZ (hw _ (List.mem_of_getElem? (i := 5) rfl))) (notFace_of_selects (args := #[]) (mvT hZ (hw _ (List.mem_of_getElem? (i := 7) rfl)))) (mvT hZ (hw _ (List.mem_of_getElem? (i := 7) rfl))) (mvT hZ (hw _ (List.mem_of_getElem? (i := 6) rfl))) (by decide) (backOf (W := 0) (rmN l Z a0 hw [] w_INTEGER w_INTEGER w_DECIMAL w_DOUBLE 1 h0 n0 Z0 S_INTEGER S_DECIMAL S_DOUBLE (by simp)) hZ (hw _ (List.mem_of_getElem? (i := 8) rfl)) (hw _ (List.mem_of_getElem? (i := 2) rfl)) (by decide) (by decide)) qa4 qc4 (g := (mkF m 69 #[(.val (.int p0)), (.val (.int ((p0 &&& (2147483647 : Int32)) % (5 : Int32)))), (.val (.ref w_INTEGER)), (.val (.int (1 : Int32)))] [(.ref w_INTEGER)])) rfl (by rw [hml]; rfl) (Steps.refl _) (argsL := []) (rest := []) (lenOf pd_Z rfl) rfl (by show 2 * 0 + _ ≤ _; exact Nat.le_of_eq rfl) (hb hby at_69) (fun _ _ => ⟨rfl, e3, (by decide : 0 + 0 ≤ _), (by decide : 0 + 0 ≤ _)⟩)
      dsimp only [Pt.U, Pt.locs, Pt.cells, Pt.slots] at X4 l4 y4 z4 st4 hQ4
      subst l4 y4 z4
      obtain ⟨rfl, rfl, e4⟩ := hQ4
      try rw [List.append_nil] at X4
      refine Owes.by (fun _ k => st4.trans k) ?_
      show Owes p e below s (QL n0) room_1.cells room_1.slots T4 (mkF m 72 #[(.val (.int p0)), (.val (.int ((p0 &&& (2147483647 : Int32)) % (5 : Int32)))), (.val (.ref w_INTEGER)), (.val (.int (1 : Int32)))] [(.int (1 : Int32))])
      refine Owes.by (fun _ k => XS.iloadN X4.here hx rfl (hb hby at_72) rfl k) ?_
      show Owes p e below s (QL n0) room_1.cells room_1.slots T4 (mkF m 73 #[(.val (.int p0)), (.val (.int ((p0 &&& (2147483647 : Int32)) % (5 : Int32)))), (.val (.ref w_INTEGER)), (.val (.int (1 : Int32)))] [(.int (1 : Int32)), (.int (1 : Int32))])
      refine Owes.by (fun _ k => XS.icmpNo X4.here hx rfl (hb hby at_73) rfl (XT.ii_ne_f (by decide)) k) ?_
      show Owes p e below s (QL n0) room_1.cells room_1.slots T4 (mkF m 76 #[(.val (.int p0)), (.val (.int ((p0 &&& (2147483647 : Int32)) % (5 : Int32)))), (.val (.ref w_INTEGER)), (.val (.int (1 : Int32)))] [])
      refine Owes.by (fun _ k => XS.iconst X4.here hx rfl (hb hby at_76) k) ?_
      show Owes p e below s (QL n0) room_1.cells room_1.slots T4 (mkF m 77 #[(.val (.int p0)), (.val (.int ((p0 &&& (2147483647 : Int32)) % (5 : Int32)))), (.val (.ref w_INTEGER)), (.val (.int (1 : Int32)))] [(.int (1 : Int32))])
      refine Owes.by (fun _ k => XS.goto X4.here hx rfl (pc0 := 77) (pc' := 81) rfl (hb hby at_77) (by decide) (by decide) k) ?_
      show Owes p e below s (QL n0) room_1.cells room_1.slots T4 (mkF m 81 #[(.val (.int p0)), (.val (.int ((p0 &&& (2147483647 : Int32)) % (5 : Int32)))), (.val (.ref w_INTEGER)), (.val (.int (1 : Int32)))] [(.int (1 : Int32))])
      refine Owes.ret X4 (v := some (.int (1 : Int32))) (fun h => by rw [Bd.returns] at h; cases h) hlk ?_ (by decide) (by decide) (fun fs hr => retN X4 hx (t := .boolean) Bd.returns (by simp) (hb hby at_81) hr)
      rw [e4]
      exact ⟨rfl, N0⟩
    · skip
      refine Owes.by (fun _ k => XS.icmpYes X0.here hx rfl (pc0 := 22) (pc' := 34) rfl (hb hby at_22) rfl (XT.ii_ne_t q1) (by decide) (by decide) k) ?_
      show Owes p e below s (QL n0) room_1.cells room_1.slots s₁ (mkF m 34 #[(.val (.int p0)), (.val (.int ((p0 &&& (2147483647 : Int32)) % (5 : Int32)))), .unset, .unset] [])
      refine Owes.by (fun _ k => XS.iloadN X0.here hx rfl (hb hby at_34) rfl k) ?_
      show Owes p e below s (QL n0) room_1.cells room_1.slots s₁ (mkF m 35 #[(.val (.int p0)), (.val (.int ((p0 &&& (2147483647 : Int32)) % (5 : Int32)))), .unset, .unset] [(.int ((p0 &&& (2147483647 : Int32)) % (5 : Int32)))])
      refine Owes.by (fun _ k => XS.iconst X0.here hx rfl (hb hby at_35) k) ?_
      show Owes p e below s (QL n0) room_1.cells room_1.slots s₁ (mkF m 36 #[(.val (.int p0)), (.val (.int ((p0 &&& (2147483647 : Int32)) % (5 : Int32)))), .unset, .unset] [(.int (2 : Int32)), (.int ((p0 &&& (2147483647 : Int32)) % (5 : Int32)))])
      by_cases q2 : ((p0 &&& (2147483647 : Int32)) % (5 : Int32)) = (2 : Int32)
      · skip
        refine Owes.by (fun _ k => XS.icmpNo X0.here hx rfl (hb hby at_36) rfl (XT.ii_ne_f q2) k) ?_
        show Owes p e below s (QL n0) room_1.cells room_1.slots s₁ (mkF m 39 #[(.val (.int p0)), (.val (.int ((p0 &&& (2147483647 : Int32)) % (5 : Int32)))), .unset, .unset] [])
        obtain ⟨T5, X5, e5, st5⟩ := getS2 X0 hx hZ hown (host := "") (Or.inl (hw _ (List.mem_of_getElem? (i := 19) rfl))) Via.refl e0 S_DECIMAL (g := (mkF m 39 #[(.val (.int p0)), (.val (.int ((p0 &&& (2147483647 : Int32)) % (5 : Int32)))), .unset, .unset] [])) rfl (hb hby at_39)
        refine Owes.by st5 ?_
        show Owes p e below s (QL n0) room_1.cells room_1.slots T5 (mkF m 42 #[(.val (.int p0)), (.val (.int ((p0 &&& (2147483647 : Int32)) % (5 : Int32)))), .unset, .unset] [(.ref w_DECIMAL)])
        refine Owes.by (fun _ k => XS.astoreN X5.here hx rfl (hb hby at_42) rfl rfl (l' := #[(.val (.int p0)), (.val (.int ((p0 &&& (2147483647 : Int32)) % (5 : Int32)))), (.val (.ref w_DECIMAL)), .unset]) rfl k) ?_
        show Owes p e below s (QL n0) room_1.cells room_1.slots T5 (mkF m 43 #[(.val (.int p0)), (.val (.int ((p0 &&& (2147483647 : Int32)) % (5 : Int32)))), (.val (.ref w_DECIMAL)), .unset] [])
        refine Owes.by (fun _ k => XS.iconst X5.here hx rfl (hb hby at_43) k) ?_
        show Owes p e below s (QL n0) room_1.cells room_1.slots T5 (mkF m 44 #[(.val (.int p0)), (.val (.int ((p0 &&& (2147483647 : Int32)) % (5 : Int32)))), (.val (.ref w_DECIMAL)), .unset] [(.int (1 : Int32))])
        refine Owes.by (fun _ k => XS.istoreN X5.here hx rfl (hb hby at_44) rfl (l' := #[(.val (.int p0)), (.val (.int ((p0 &&& (2147483647 : Int32)) % (5 : Int32)))), (.val (.ref w_DECIMAL)), (.val (.int (1 : Int32)))]) rfl k) ?_
        show Owes p e below s (QL n0) room_1.cells room_1.slots T5 (mkF m 45 #[(.val (.int p0)), (.val (.int ((p0 &&& (2147483647 : Int32)) % (5 : Int32)))), (.val (.ref w_DECIMAL)), (.val (.int (1 : Int32)))] [])
        refine Owes.by (fun _ k => XS.goto X5.here hx rfl (pc0 := 45) (pc' := 68) rfl (hb hby at_45) (by decide) (by decide) k) ?_
        show Owes p e below s (QL n0) room_1.cells room_1.slots T5 (mkF m 68 #[(.val (.int p0)), (.val (.int ((p0 &&& (2147483647 : Int32)) % (5 : Int32)))), (.val (.ref w_DECIMAL)), (.val (.int (1 : Int32)))] [])
        refine Owes.by (fun _ k => XS.aloadN X5.here hx rfl (hb hby at_68) rfl rfl k) ?_
        show Owes p e below s (QL n0) room_1.cells room_1.slots T5 (mkF m 69 #[(.val (.int p0)), (.val (.int ((p0 &&& (2147483647 : Int32)) % (5 : Int32)))), (.val (.ref w_DECIMAL)), (.val (.int (1 : Int32)))] [(.ref w_DECIMAL)])
        obtain ⟨cq6, kq6, qa6, qb6, qc6⟩ := isOf hZ e5 E_DECIMAL
        obtain ⟨_, _, ⟨T6, L6, k6, n6⟩, -, X6, ⟨Lc6, hQ6, l6, y6, z6⟩, st6⟩ := X5.virtualBack hx (y := (⟨"com/example/rewix/rewix/lang/Constant$Type", "isNumber", "()Z"⟩ : MethodName)) (z := (⟨"com/example/rewix/rewix/lang/Constant$Type", "isNumber", "()Z"⟩ : MethodName)) hown (mvT hZ (hw _ (List.mem_of_getElem? (i := 4) rfl))) (mvT hZ (hw _ (List.mem_of_getElem? (i := 5) rfl))) (notFace_of_selects (args := #[]) (mvT hZ (hw _ (List.mem_of_getElem? (i := 7) rfl)))) (mvT hZ (hw _ (List.mem_of_getElem? (i := 7) rfl))) (mvT hZ (hw _ (List.mem_of_getElem? (i := 6) rfl))) (by decide) (backOf (W := 0) (rmN l Z a0 hw [] w_DECIMAL w_INTEGER w_DECIMAL w_DOUBLE 1 h0 n0 Z0 S_INTEGER S_DECIMAL S_DOUBLE (by simp)) hZ (hw _ (List.mem_of_getElem? (i := 8) rfl)) (hw _ (List.mem_of_getElem? (i := 2) rfl)) (by decide) (by decide)) qa6 qc6 (g := (mkF m 69 #[(.val (.int p0)), (.val (.int ((p0 &&& (2147483647 : Int32)) % (5 : Int32)))), (.val (.ref w_DECIMAL)), (.val (.int (1 : Int32)))] [(.ref w_DECIMAL)])) rfl (by rw [hml]; rfl) (Steps.refl _) (argsL := []) (rest := []) (lenOf pd_Z rfl) rfl (by show 2 * 0 + _ ≤ _; exact Nat.le_of_eq rfl) (hb hby at_69) (fun _ _ => ⟨rfl, e5, (by decide : 0 + 0 ≤ _), (by decide : 0 + 0 ≤ _)⟩)
        dsimp only [Pt.U, Pt.locs, Pt.cells, Pt.slots] at X6 l6 y6 z6 st6 hQ6
        subst l6 y6 z6
        obtain ⟨rfl, rfl, e6⟩ := hQ6
        try rw [List.append_nil] at X6
        refine Owes.by (fun _ k => st6.trans k) ?_
        show Owes p e below s (QL n0) room_1.cells room_1.slots T6 (mkF m 72 #[(.val (.int p0)), (.val (.int ((p0 &&& (2147483647 : Int32)) % (5 : Int32)))), (.val (.ref w_DECIMAL)), (.val (.int (1 : Int32)))] [(.int (1 : Int32))])
        refine Owes.by (fun _ k => XS.iloadN X6.here hx rfl (hb hby at_72) rfl k) ?_
        show Owes p e below s (QL n0) room_1.cells room_1.slots T6 (mkF m 73 #[(.val (.int p0)), (.val (.int ((p0 &&& (2147483647 : Int32)) % (5 : Int32)))), (.val (.ref w_DECIMAL)), (.val (.int (1 : Int32)))] [(.int (1 : Int32)), (.int (1 : Int32))])
        refine Owes.by (fun _ k => XS.icmpNo X6.here hx rfl (hb hby at_73) rfl (XT.ii_ne_f (by decide)) k) ?_
        show Owes p e below s (QL n0) room_1.cells room_1.slots T6 (mkF m 76 #[(.val (.int p0)), (.val (.int ((p0 &&& (2147483647 : Int32)) % (5 : Int32)))), (.val (.ref w_DECIMAL)), (.val (.int (1 : Int32)))] [])
        refine Owes.by (fun _ k => XS.iconst X6.here hx rfl (hb hby at_76) k) ?_
        show Owes p e below s (QL n0) room_1.cells room_1.slots T6 (mkF m 77 #[(.val (.int p0)), (.val (.int ((p0 &&& (2147483647 : Int32)) % (5 : Int32)))), (.val (.ref w_DECIMAL)), (.val (.int (1 : Int32)))] [(.int (1 : Int32))])
        refine Owes.by (fun _ k => XS.goto X6.here hx rfl (pc0 := 77) (pc' := 81) rfl (hb hby at_77) (by decide) (by decide) k) ?_
        show Owes p e below s (QL n0) room_1.cells room_1.slots T6 (mkF m 81 #[(.val (.int p0)), (.val (.int ((p0 &&& (2147483647 : Int32)) % (5 : Int32)))), (.val (.ref w_DECIMAL)), (.val (.int (1 : Int32)))] [(.int (1 : Int32))])
        refine Owes.ret X6 (v := some (.int (1 : Int32))) (fun h => by rw [Bd.returns] at h; cases h) hlk ?_ (by decide) (by decide) (fun fs hr => retN X6 hx (t := .boolean) Bd.returns (by simp) (hb hby at_81) hr)
        rw [e6]
        exact ⟨rfl, N0⟩
      · skip
        refine Owes.by (fun _ k => XS.icmpYes X0.here hx rfl (pc0 := 36) (pc' := 48) rfl (hb hby at_36) rfl (XT.ii_ne_t q2) (by decide) (by decide) k) ?_
        show Owes p e below s (QL n0) room_1.cells room_1.slots s₁ (mkF m 48 #[(.val (.int p0)), (.val (.int ((p0 &&& (2147483647 : Int32)) % (5 : Int32)))), .unset, .unset] [])
        refine Owes.by (fun _ k => XS.iloadN X0.here hx rfl (hb hby at_48) rfl k) ?_
        show Owes p e below s (QL n0) room_1.cells room_1.slots s₁ (mkF m 49 #[(.val (.int p0)), (.val (.int ((p0 &&& (2147483647 : Int32)) % (5 : Int32)))), .unset, .unset] [(.int ((p0 &&& (2147483647 : Int32)) % (5 : Int32)))])
        refine Owes.by (fun _ k => XS.iconst X0.here hx rfl (hb hby at_49) k) ?_
        show Owes p e below s (QL n0) room_1.cells room_1.slots s₁ (mkF m 50 #[(.val (.int p0)), (.val (.int ((p0 &&& (2147483647 : Int32)) % (5 : Int32)))), .unset, .unset] [(.int (3 : Int32)), (.int ((p0 &&& (2147483647 : Int32)) % (5 : Int32)))])
        by_cases q3 : ((p0 &&& (2147483647 : Int32)) % (5 : Int32)) = (3 : Int32)
        · skip
          refine Owes.by (fun _ k => XS.icmpNo X0.here hx rfl (hb hby at_50) rfl (XT.ii_ne_f q3) k) ?_
          show Owes p e below s (QL n0) room_1.cells room_1.slots s₁ (mkF m 53 #[(.val (.int p0)), (.val (.int ((p0 &&& (2147483647 : Int32)) % (5 : Int32)))), .unset, .unset] [])
          obtain ⟨T7, X7, e7, st7⟩ := getS2 X0 hx hZ hown (host := "") (Or.inl (hw _ (List.mem_of_getElem? (i := 15) rfl))) Via.refl e0 S_DOUBLE (g := (mkF m 53 #[(.val (.int p0)), (.val (.int ((p0 &&& (2147483647 : Int32)) % (5 : Int32)))), .unset, .unset] [])) rfl (hb hby at_53)
          refine Owes.by st7 ?_
          show Owes p e below s (QL n0) room_1.cells room_1.slots T7 (mkF m 56 #[(.val (.int p0)), (.val (.int ((p0 &&& (2147483647 : Int32)) % (5 : Int32)))), .unset, .unset] [(.ref w_DOUBLE)])
          refine Owes.by (fun _ k => XS.astoreN X7.here hx rfl (hb hby at_56) rfl rfl (l' := #[(.val (.int p0)), (.val (.int ((p0 &&& (2147483647 : Int32)) % (5 : Int32)))), (.val (.ref w_DOUBLE)), .unset]) rfl k) ?_
          show Owes p e below s (QL n0) room_1.cells room_1.slots T7 (mkF m 57 #[(.val (.int p0)), (.val (.int ((p0 &&& (2147483647 : Int32)) % (5 : Int32)))), (.val (.ref w_DOUBLE)), .unset] [])
          refine Owes.by (fun _ k => XS.iconst X7.here hx rfl (hb hby at_57) k) ?_
          show Owes p e below s (QL n0) room_1.cells room_1.slots T7 (mkF m 58 #[(.val (.int p0)), (.val (.int ((p0 &&& (2147483647 : Int32)) % (5 : Int32)))), (.val (.ref w_DOUBLE)), .unset] [(.int (1 : Int32))])
          refine Owes.by (fun _ k => XS.istoreN X7.here hx rfl (hb hby at_58) rfl (l' := #[(.val (.int p0)), (.val (.int ((p0 &&& (2147483647 : Int32)) % (5 : Int32)))), (.val (.ref w_DOUBLE)), (.val (.int (1 : Int32)))]) rfl k) ?_
          show Owes p e below s (QL n0) room_1.cells room_1.slots T7 (mkF m 59 #[(.val (.int p0)), (.val (.int ((p0 &&& (2147483647 : Int32)) % (5 : Int32)))), (.val (.ref w_DOUBLE)), (.val (.int (1 : Int32)))] [])
          refine Owes.by (fun _ k => XS.goto X7.here hx rfl (pc0 := 59) (pc' := 68) rfl (hb hby at_59) (by decide) (by decide) k) ?_
          show Owes p e below s (QL n0) room_1.cells room_1.slots T7 (mkF m 68 #[(.val (.int p0)), (.val (.int ((p0 &&& (2147483647 : Int32)) % (5 : Int32)))), (.val (.ref w_DOUBLE)), (.val (.int (1 : Int32)))] [])
          refine Owes.by (fun _ k => XS.aloadN X7.here hx rfl (hb hby at_68) rfl rfl k) ?_
          show Owes p e below s (QL n0) room_1.cells room_1.slots T7 (mkF m 69 #[(.val (.int p0)), (.val (.int ((p0 &&& (2147483647 : Int32)) % (5 : Int32)))), (.val (.ref w_DOUBLE)), (.val (.int (1 : Int32)))] [(.ref w_DOUBLE)])
          obtain ⟨cq8, kq8, qa8, qb8, qc8⟩ := isOf hZ e7 E_DOUBLE
          obtain ⟨_, _, ⟨T8, L8, k8, n8⟩, -, X8, ⟨Lc8, hQ8, l8, y8, z8⟩, st8⟩ := X7.virtualBack hx (y := (⟨"com/example/rewix/rewix/lang/Constant$Type", "isNumber", "()Z"⟩ : MethodName)) (z := (⟨"com/example/rewix/rewix/lang/Constant$Type", "isNumber", "()Z"⟩ : MethodName)) hown (mvT hZ (hw _ (List.mem_of_getElem? (i := 4) rfl))) (mvT hZ (hw _ (List.mem_of_getElem? (i := 5) rfl))) (notFace_of_selects (args := #[]) (mvT hZ (hw _ (List.mem_of_getElem? (i := 7) rfl)))) (mvT hZ (hw _ (List.mem_of_getElem? (i := 7) rfl))) (mvT hZ (hw _ (List.mem_of_getElem? (i := 6) rfl))) (by decide) (backOf (W := 0) (rmN l Z a0 hw [] w_DOUBLE w_INTEGER w_DECIMAL w_DOUBLE 1 h0 n0 Z0 S_INTEGER S_DECIMAL S_DOUBLE (by simp)) hZ (hw _ (List.mem_of_getElem? (i := 8) rfl)) (hw _ (List.mem_of_getElem? (i := 2) rfl)) (by decide) (by decide)) qa8 qc8 (g := (mkF m 69 #[(.val (.int p0)), (.val (.int ((p0 &&& (2147483647 : Int32)) % (5 : Int32)))), (.val (.ref w_DOUBLE)), (.val (.int (1 : Int32)))] [(.ref w_DOUBLE)])) rfl (by rw [hml]; rfl) (Steps.refl _) (argsL := []) (rest := []) (lenOf pd_Z rfl) rfl (by show 2 * 0 + _ ≤ _; exact Nat.le_of_eq rfl) (hb hby at_69) (fun _ _ => ⟨rfl, e7, (by decide : 0 + 0 ≤ _), (by decide : 0 + 0 ≤ _)⟩)
          dsimp only [Pt.U, Pt.locs, Pt.cells, Pt.slots] at X8 l8 y8 z8 st8 hQ8
          subst l8 y8 z8
          obtain ⟨rfl, rfl, e8⟩ := hQ8
          try rw [List.append_nil] at X8
          refine Owes.by (fun _ k => st8.trans k) ?_
          show Owes p e below s (QL n0) room_1.cells room_1.slots T8 (mkF m 72 #[(.val (.int p0)), (.val (.int ((p0 &&& (2147483647 : Int32)) % (5 : Int32)))), (.val (.ref w_DOUBLE)), (.val (.int (1 : Int32)))] [(.int (1 : Int32))])
          refine Owes.by (fun _ k => XS.iloadN X8.here hx rfl (hb hby at_72) rfl k) ?_
          show Owes p e below s (QL n0) room_1.cells room_1.slots T8 (mkF m 73 #[(.val (.int p0)), (.val (.int ((p0 &&& (2147483647 : Int32)) % (5 : Int32)))), (.val (.ref w_DOUBLE)), (.val (.int (1 : Int32)))] [(.int (1 : Int32)), (.int (1 : Int32))])
          refine Owes.by (fun _ k => XS.icmpNo X8.here hx rfl (hb hby at_73) rfl (XT.ii_ne_f (by decide)) k) ?_
          show Owes p e below s (QL n0) room_1.cells room_1.slots T8 (mkF m 76 #[(.val (.int p0)), (.val (.int ((p0 &&& (2147483647 : Int32)) % (5 : Int32)))), (.val (.ref w_DOUBLE)), (.val (.int (1 : Int32)))] [])
          refine Owes.by (fun _ k => XS.iconst X8.here hx rfl (hb hby at_76) k) ?_
          show Owes p e below s (QL n0) room_1.cells room_1.slots T8 (mkF m 77 #[(.val (.int p0)), (.val (.int ((p0 &&& (2147483647 : Int32)) % (5 : Int32)))), (.val (.ref w_DOUBLE)), (.val (.int (1 : Int32)))] [(.int (1 : Int32))])
          refine Owes.by (fun _ k => XS.goto X8.here hx rfl (pc0 := 77) (pc' := 81) rfl (hb hby at_77) (by decide) (by decide) k) ?_
          show Owes p e below s (QL n0) room_1.cells room_1.slots T8 (mkF m 81 #[(.val (.int p0)), (.val (.int ((p0 &&& (2147483647 : Int32)) % (5 : Int32)))), (.val (.ref w_DOUBLE)), (.val (.int (1 : Int32)))] [(.int (1 : Int32))])
          refine Owes.ret X8 (v := some (.int (1 : Int32))) (fun h => by rw [Bd.returns] at h; cases h) hlk ?_ (by decide) (by decide) (fun fs hr => retN X8 hx (t := .boolean) Bd.returns (by simp) (hb hby at_81) hr)
          rw [e8]
          exact ⟨rfl, N0⟩
        · skip
          refine Owes.by (fun _ k => XS.icmpYes X0.here hx rfl (pc0 := 50) (pc' := 62) rfl (hb hby at_50) rfl (XT.ii_ne_t q3) (by decide) (by decide) k) ?_
          show Owes p e below s (QL n0) room_1.cells room_1.slots s₁ (mkF m 62 #[(.val (.int p0)), (.val (.int ((p0 &&& (2147483647 : Int32)) % (5 : Int32)))), .unset, .unset] [])
          obtain ⟨T9, X9, e9, st9⟩ := getS2 X0 hx hZ hown (host := "") (Or.inl (hw _ (List.mem_of_getElem? (i := 17) rfl))) Via.refl e0 S_DATE (g := (mkF m 62 #[(.val (.int p0)), (.val (.int ((p0 &&& (2147483647 : Int32)) % (5 : Int32)))), .unset, .unset] [])) rfl (hb hby at_62)
          refine Owes.by st9 ?_
          show Owes p e below s (QL n0) room_1.cells room_1.slots T9 (mkF m 65 #[(.val (.int p0)), (.val (.int ((p0 &&& (2147483647 : Int32)) % (5 : Int32)))), .unset, .unset] [(.ref w_DATE)])
          refine Owes.by (fun _ k => XS.astoreN X9.here hx rfl (hb hby at_65) rfl rfl (l' := #[(.val (.int p0)), (.val (.int ((p0 &&& (2147483647 : Int32)) % (5 : Int32)))), (.val (.ref w_DATE)), .unset]) rfl k) ?_
          show Owes p e below s (QL n0) room_1.cells room_1.slots T9 (mkF m 66 #[(.val (.int p0)), (.val (.int ((p0 &&& (2147483647 : Int32)) % (5 : Int32)))), (.val (.ref w_DATE)), .unset] [])
          refine Owes.by (fun _ k => XS.iconst X9.here hx rfl (hb hby at_66) k) ?_
          show Owes p e below s (QL n0) room_1.cells room_1.slots T9 (mkF m 67 #[(.val (.int p0)), (.val (.int ((p0 &&& (2147483647 : Int32)) % (5 : Int32)))), (.val (.ref w_DATE)), .unset] [(.int (0 : Int32))])
          refine Owes.by (fun _ k => XS.istoreN X9.here hx rfl (hb hby at_67) rfl (l' := #[(.val (.int p0)), (.val (.int ((p0 &&& (2147483647 : Int32)) % (5 : Int32)))), (.val (.ref w_DATE)), (.val (.int (0 : Int32)))]) rfl k) ?_
          show Owes p e below s (QL n0) room_1.cells room_1.slots T9 (mkF m 68 #[(.val (.int p0)), (.val (.int ((p0 &&& (2147483647 : Int32)) % (5 : Int32)))), (.val (.ref w_DATE)), (.val (.int (0 : Int32)))] [])
          refine Owes.by (fun _ k => XS.aloadN X9.here hx rfl (hb hby at_68) rfl rfl k) ?_
          show Owes p e below s (QL n0) room_1.cells room_1.slots T9 (mkF m 69 #[(.val (.int p0)), (.val (.int ((p0 &&& (2147483647 : Int32)) % (5 : Int32)))), (.val (.ref w_DATE)), (.val (.int (0 : Int32)))] [(.ref w_DATE)])
          obtain ⟨cq10, kq10, qa10, qb10, qc10⟩ := isOf hZ e9 E_DATE
          obtain ⟨_, _, ⟨T10, L10, k10, n10⟩, -, X10, ⟨Lc10, hQ10, l10, y10, z10⟩, st10⟩ := X9.virtualBack hx (y := (⟨"com/example/rewix/rewix/lang/Constant$Type", "isNumber", "()Z"⟩ : MethodName)) (z := (⟨"com/example/rewix/rewix/lang/Constant$Type", "isNumber", "()Z"⟩ : MethodName)) hown (mvT hZ (hw _ (List.mem_of_getElem? (i := 4) rfl))) (mvT hZ (hw _ (List.mem_of_getElem? (i := 5) rfl))) (notFace_of_selects (args := #[]) (mvT hZ (hw _ (List.mem_of_getElem? (i := 7) rfl)))) (mvT hZ (hw _ (List.mem_of_getElem? (i := 7) rfl))) (mvT hZ (hw _ (List.mem_of_getElem? (i := 6) rfl))) (by decide) (backOf (W := 0) (rmN l Z a0 hw [] w_DATE w_INTEGER w_DECIMAL w_DOUBLE 0 h0 n0 Z0 S_INTEGER S_DECIMAL S_DOUBLE (by simp [n_DATE_INTEGER, n_DATE_DECIMAL, n_DATE_DOUBLE])) hZ (hw _ (List.mem_of_getElem? (i := 8) rfl)) (hw _ (List.mem_of_getElem? (i := 2) rfl)) (by decide) (by decide)) qa10 qc10 (g := (mkF m 69 #[(.val (.int p0)), (.val (.int ((p0 &&& (2147483647 : Int32)) % (5 : Int32)))), (.val (.ref w_DATE)), (.val (.int (0 : Int32)))] [(.ref w_DATE)])) rfl (by rw [hml]; rfl) (Steps.refl _) (argsL := []) (rest := []) (lenOf pd_Z rfl) rfl (by show 2 * 0 + _ ≤ _; exact Nat.le_of_eq rfl) (hb hby at_69) (fun _ _ => ⟨rfl, e9, (by decide : 0 + 0 ≤ _), (by decide : 0 + 0 ≤ _)⟩)
          dsimp only [Pt.U, Pt.locs, Pt.cells, Pt.slots] at X10 l10 y10 z10 st10 hQ10
          subst l10 y10 z10
          obtain ⟨rfl, rfl, e10⟩ := hQ10
          try rw [List.append_nil] at X10
          refine Owes.by (fun _ k => st10.trans k) ?_
          show Owes p e below s (QL n0) room_1.cells room_1.slots T10 (mkF m 72 #[(.val (.int p0)), (.val (.int ((p0 &&& (2147483647 : Int32)) % (5 : Int32)))), (.val (.ref w_DATE)), (.val (.int (0 : Int32)))] [(.int (0 : Int32))])
          refine Owes.by (fun _ k => XS.iloadN X10.here hx rfl (hb hby at_72) rfl k) ?_
          show Owes p e below s (QL n0) room_1.cells room_1.slots T10 (mkF m 73 #[(.val (.int p0)), (.val (.int ((p0 &&& (2147483647 : Int32)) % (5 : Int32)))), (.val (.ref w_DATE)), (.val (.int (0 : Int32)))] [(.int (0 : Int32)), (.int (0 : Int32))])
          refine Owes.by (fun _ k => XS.icmpNo X10.here hx rfl (hb hby at_73) rfl (XT.ii_ne_f (by decide)) k) ?_
          show Owes p e below s (QL n0) room_1.cells room_1.slots T10 (mkF m 76 #[(.val (.int p0)), (.val (.int ((p0 &&& (2147483647 : Int32)) % (5 : Int32)))), (.val (.ref w_DATE)), (.val (.int (0 : Int32)))] [])
          refine Owes.by (fun _ k => XS.iconst X10.here hx rfl (hb hby at_76) k) ?_
          show Owes p e below s (QL n0) room_1.cells room_1.slots T10 (mkF m 77 #[(.val (.int p0)), (.val (.int ((p0 &&& (2147483647 : Int32)) % (5 : Int32)))), (.val (.ref w_DATE)), (.val (.int (0 : Int32)))] [(.int (1 : Int32))])
          refine Owes.by (fun _ k => XS.goto X10.here hx rfl (pc0 := 77) (pc' := 81) rfl (hb hby at_77) (by decide) (by decide) k) ?_
          show Owes p e below s (QL n0) room_1.cells room_1.slots T10 (mkF m 81 #[(.val (.int p0)), (.val (.int ((p0 &&& (2147483647 : Int32)) % (5 : Int32)))), (.val (.ref w_DATE)), (.val (.int (0 : Int32)))] [(.int (1 : Int32))])
          refine Owes.ret X10 (v := some (.int (1 : Int32))) (fun h => by rw [Bd.returns] at h; cases h) hlk ?_ (by decide) (by decide) (fun fs hr => retN X10 hx (t := .boolean) Bd.returns (by simp) (hb hby at_81) hr)
          rw [e10]
          exact ⟨rfl, N0⟩
set_option maxRecDepth 65536 in
set_option maxHeartbeats 40000000 in
theorem comes_1 {Post : Tables → Env → Array Value → State → Outcome → State → Prop} (hpost : ∀ tb e args s v u, (limb_1_1.after args s (.returned v) u = true ∧ limb_1_2.after args s (.returned v) u = true ∧ True) → FrameEnd s (.returned v) u (Jvm.fieldLocs frame_1_writes args s ++ Jvm.arrayLocs frame_1_arrays args s ++ Jvm.staticLocs frame_1_statics s) 0 0 → Post tb e args s (.returned v) u) :
    ArmFor flags0 classFile x code maxLocals ret World_1 tables_1 room_1 Calls_1 rest_1 Pre_1 Post := by
  intro l hfl _ _ p e ha hc hk s m args below hf hA hF happ hP
  obtain ⟨hcalls, hrest, hpre⟩ := hP
  obtain ⟨-, -, -, hnamed, -, -, -, hat⟩ := (Spec.applies_iff hf).mp happ
  obtain ⟨hg, hn⟩ := and_e (Cond.before_iff.mp (show (Jvm.Cond.and given_1 narrow_1).before args s = true from hpre))
  obtain ⟨hgl, hgr⟩ := and_e hg
  obtain ⟨w0, rfl⟩ : ∃ w0 : Value, args = #[w0] := by
    have hs : args.size = 1 := by simpa [Cond.value, given_1] using hgl
    obtain ⟨L⟩ := args
    match L, hs with
    | [w0], _ => exact ⟨w0, rfl⟩
  have hw := fun d (hd : d ∈ tables_1) => atoms_spec (ws := Jvm.Cond.code x code maxLocals ret :: tables_1) hat d (List.mem_cons_of_mem _ hd)
  have hfit : Fit s := fun {y c} hc i hi => by
    obtain ⟨ha, rfl⟩ := Array.getElem?_eq_some_iff.mp hc
    have q := List.all_eq_true.mp ((Array.all_eq_true_iff_forall_mem.mp hF) _ (Array.getElem_mem ha)) i (List.mem_range.mpr hi)
    simpa [Array.getElem?_eq_getElem hi] using q
  obtain ⟨i0, ei0⟩ := is_v hgr
  obtain rfl : w0 = (.int i0) := Option.some.inj ei0
  obtain ⟨hnl, hnr⟩ := and_e hn
  obtain ⟨hnrl, hnrr⟩ := and_e hnr
  obtain ⟨hnrrl, hnrrr⟩ := and_e hnrr
  obtain ⟨hnrrrl, hnrrrr⟩ := and_e hnrrr
  obtain ⟨hnrrrrl, hnrrrrr⟩ := and_e hnrrrr
  obtain ⟨hnrrrrrl, hnrrrrrr⟩ := and_e hnrrrrr
  obtain ⟨hnrrrrrrl, hnrrrrrrr⟩ := and_e hnrrrrrr
  obtain ⟨hnrrrrrrrl, hnrrrrrrrr⟩ := and_e hnrrrrrrr
  obtain ⟨hnrrrrrrrrl, hnrrrrrrrrr⟩ := and_e hnrrrrrrrr
  obtain ⟨w_STRING, v_STRING⟩ := exa_v hnl
  have E_STRING := Exa.start v_STRING hnl
  have S_STRING := Sta.start v_STRING (Or.inr ⟨(hw _ (List.mem_of_getElem? (i := 2) rfl)), (hw _ (List.mem_of_getElem? (i := 3) rfl))⟩)
  obtain ⟨w_INTEGER, v_INTEGER⟩ := exa_v hnrl
  have E_INTEGER := Exa.start v_INTEGER hnrl
  have S_INTEGER := Sta.start v_INTEGER (Or.inr ⟨(hw _ (List.mem_of_getElem? (i := 2) rfl)), (hw _ (List.mem_of_getElem? (i := 10) rfl))⟩)
  obtain ⟨w_DECIMAL, v_DECIMAL⟩ := exa_v hnrrrrl
  have E_DECIMAL := Exa.start v_DECIMAL hnrrrrl
  have S_DECIMAL := Sta.start v_DECIMAL (Or.inr ⟨(hw _ (List.mem_of_getElem? (i := 2) rfl)), (hw _ (List.mem_of_getElem? (i := 12) rfl))⟩)
  obtain ⟨w_DOUBLE, v_DOUBLE⟩ := exa_v hnrrrrrrl
  have E_DOUBLE := Exa.start v_DOUBLE hnrrrrrrl
  have S_DOUBLE := Sta.start v_DOUBLE (Or.inr ⟨(hw _ (List.mem_of_getElem? (i := 2) rfl)), (hw _ (List.mem_of_getElem? (i := 14) rfl))⟩)
  obtain ⟨w_DATE, v_DATE⟩ := exa_v hnrrrrrrrrl
  have E_DATE := Exa.start v_DATE hnrrrrrrrrl
  have S_DATE := Sta.start v_DATE (Or.inr ⟨(hw _ (List.mem_of_getElem? (i := 2) rfl)), (hw _ (List.mem_of_getElem? (i := 18) rfl))⟩)
  have F_STRING_ordinal := own_fld v_STRING hnrrl
  have F_INTEGER_ordinal := own_fld v_INTEGER hnrrrl
  have F_DECIMAL_ordinal := own_fld v_DECIMAL hnrrrrrl
  have F_DOUBLE_ordinal := own_fld v_DOUBLE hnrrrrrrrl
  have F_DATE_ordinal := own_fld v_DATE hnrrrrrrrrr
  have n_STRING_INTEGER : w_STRING ≠ w_INTEGER := F_STRING_ordinal.ne F_INTEGER_ordinal (by decide)
  have n_STRING_DECIMAL : w_STRING ≠ w_DECIMAL := F_STRING_ordinal.ne F_DECIMAL_ordinal (by decide)
  have n_STRING_DOUBLE : w_STRING ≠ w_DOUBLE := F_STRING_ordinal.ne F_DOUBLE_ordinal (by decide)
  have n_DATE_INTEGER : w_DATE ≠ w_INTEGER := F_DATE_ordinal.ne F_INTEGER_ordinal (by decide)
  have n_DATE_DECIMAL : w_DATE ≠ w_DECIMAL := F_DATE_ordinal.ne F_DECIMAL_ordinal (by decide)
  have n_DATE_DOUBLE : w_DATE ≠ w_DOUBLE := F_DATE_ordinal.ne F_DOUBLE_ordinal (by decide)
  obtain ⟨n, o, h1, h2, h3, _, L, rfl, ⟨rfl, N⟩, hq⟩ := rm0 l s _ hw tables_1 i0 w_STRING w_INTEGER w_DECIMAL w_DOUBLE w_DATE s.heap s.heap.size (Nat.le_refl _) S_STRING S_INTEGER S_DECIMAL S_DOUBLE S_DATE E_STRING E_INTEGER E_DECIMAL E_DOUBLE E_DATE n_STRING_INTEGER n_STRING_DECIMAL n_STRING_DOUBLE n_DATE_INTEGER n_DATE_DECIMAL n_DATE_DOUBLE p e ha hc hk s m _ below hf ((Spec.applies_iff_loose hf).mp happ).1 ⟨rfl, State.Warmed39.refl s, rfl⟩ trivial
  refine ⟨n, _, h1, h2, h3, hpost _ _ _ _ _ _ ⟨Cond.after_iff.mpr rfl, Cond.after_iff.mpr (eq_i res_at (Term.int_eval (1)) rfl), trivial⟩ ⟨hq.1, hq.2.1, (hq.2.2.sift fun y hy => Or.inr (N y hy)).mono (by decide) (by decide)⟩⟩
theorem main_1_1 : Claimed_1_1 := comes_1 fun _ _ _ _ _ _ h hF => ⟨h.1, hF⟩
theorem main_1_2 : Claimed_1_2 := comes_1 fun _ _ _ _ _ _ h hF => ⟨h.2.1, hF⟩
end Jvm.Pilot.@@N@@
namespace Jvm.Pilot.@@N@@
open Jvm Jvm.ClassFile Sem Op Lib Jvm.Free Jvm.Stand Jvm.Pilot.@@N@@.Jvm.D
/-! MADE BY PROGRAM (witnessworld.py) out of the Statement's table words and the real class files: 12 classes; the members and pool entries that the words name. The judged class is class 1, her method 1. -/
namespace start1
open Jvm.ClassFile
def u (s : String) : CpInfo := .utf8 (stringToUtf16 s)
/-- a pool by its gaps: so many unusable entries, then the entry; so many at the end -/
def gap : Nat → List CpInfo → List CpInfo
  | 0, r => r
  | n + 1, r => .unusable :: gap n r
def poolList (es : List (Nat × CpInfo)) (last : Nat) : List CpInfo := es.foldr (fun e r => gap e.1 (e.2 :: r)) (gap last [])
def pool (es : List (Nat × CpInfo)) (last : Nat) : Array CpInfo := ⟨poolList es last⟩
def fileOf (pool : Array CpInfo) (this : Nat) (attrs : Array Attribute := #[]) (ms : Array MethodInfo := #[]) (fl : Nat := 33) (sup : Nat := 0) (ifs : Array Nat := #[]) (fds : Array FieldInfo := #[]) : ClassFile where
  minorVersion := 0
  majorVersion := 65
  constantPool := pool
  accessFlags := fl
  thisClass := this
  superClass := sup
  interfaces := ifs
  fields := fds
  methods := ms
  attributes := attrs
def plain (name : String) (sup : Option ClassId) : Class where
  name := name
  kind := .ordinary
  loader := none
  accessFlags := 33
  super := sup
  interfaces := #[]
  cf := none
  fields := #[]
  methods := #[]
  instanceTypes := #[]
  staticTypes := #[]
  resolved := #[]
  callSites := []
  init := .initialized
  statics := none
  mirror := none

def pool0 : Array CpInfo := pool [(5, u "<init>"), (0, u "()V"), (1, .class_ 10), (1, u "java/lang/Object")] 113

def k0m0 : Method := { name := "<init>", desc := "()V", sig := { parameters := [], returnType := none }, accessFlags := 1, code := none }
/-- java/lang/Object -/
def k0 : Class := { plain "java/lang/Object" none with
  accessFlags := 33
  interfaces := #[]
  cf := some (fileOf pool0 8 #[] #[{ accessFlags := 1, nameIndex := 5, descriptorIndex := 6, attributes := #[] }] 33 0 #[] #[])
  fields := #[]
  methods := #[k0m0]
  instanceTypes := #[]
  staticTypes := #[]
  resolved := Array.replicate 124 none
  statics := none }

def pool1 : Array CpInfo := pool [(2, .class_ 4), (1, u "java/lang/Object"), (0, u "<init>"), (0, u "()V"), (0, .integer 2147483647), (0, .fieldref 9 10), (0, .class_ 11), (0, .nameAndType 12 13), (0, u "com/example/rewix/rewix/lang/Constant$Type"), (0, u "STRING"), (0, u "Lcom/example/rewix/rewix/lang/Constant$Type;"), (0, .fieldref 9 15), (0, .nameAndType 16 13), (0, u "INTEGER"), (0, .fieldref 9 18), (0, .nameAndType 19 13), (0, u "DECIMAL"), (0, .fieldref 9 21), (0, .nameAndType 22 13), (0, u "DOUBLE"), (0, .fieldref 9 24), (0, .nameAndType 25 13), (0, u "DATE"), (0, .methodref 9 27), (0, .nameAndType 28 29), (0, u "isNumber"), (0, u "()Z"), (0, .class_ 31), (0, u "com/example/rewix/rewix/lang/TypeIsNumber417PinLaw"), (2, u "law"), (0, u "(I)Z")] 7

def k1m0 : Method := { name := "<init>", desc := "()V", sig := { parameters := [], returnType := none }, accessFlags := 1, code := none }
def k1c1 : Code := { maxStack := 2, maxLocals := 4, code := code, exceptionTable := #[], attributes := #[] }
def k1m1 : Method := { name := "law", desc := "(I)Z", sig := { parameters := [.int], returnType := some .boolean }, accessFlags := 9, code := some k1c1 }
/-- com/example/rewix/rewix/lang/TypeIsNumber417PinLaw -/
def k1 : Class := { plain "com/example/rewix/rewix/lang/TypeIsNumber417PinLaw" (some 0) with
  accessFlags := 49
  interfaces := #[]
  cf := some (fileOf pool1 30 #[] #[{ accessFlags := 1, nameIndex := 5, descriptorIndex := 6, attributes := #[] }, { accessFlags := 9, nameIndex := 34, descriptorIndex := 35, attributes := #[] }] 49 2 #[] #[])
  fields := #[]
  methods := #[k1m0, k1m1]
  instanceTypes := #[]
  staticTypes := #[]
  resolved := Array.replicate 43 none
  statics := none }

def pool2 : Array CpInfo := pool [(1, .class_ 2), (0, u "java/lang/constant/Constable"), (0, .class_ 4), (0, u "java/lang/Object")] 6

/-- java/lang/constant/Constable -/
def k2 : Class := { plain "java/lang/constant/Constable" (some 0) with
  accessFlags := 1537
  interfaces := #[]
  cf := some (fileOf pool2 1 #[] #[] 1537 3 #[] #[])
  fields := #[]
  methods := #[]
  instanceTypes := #[]
  staticTypes := #[]
  resolved := Array.replicate 11 none
  statics := none }

def pool3 : Array CpInfo := pool [(1, .class_ 2), (0, u "java/lang/Comparable"), (0, .class_ 4), (0, u "java/lang/Object")] 7

/-- java/lang/Comparable -/
def k3 : Class := { plain "java/lang/Comparable" (some 0) with
  accessFlags := 1537
  interfaces := #[]
  cf := some (fileOf pool3 1 #[] #[] 1537 3 #[] #[])
  fields := #[]
  methods := #[]
  instanceTypes := #[]
  staticTypes := #[]
  resolved := Array.replicate 12 none
  statics := none }

def pool4 : Array CpInfo := pool [(1, .class_ 2), (0, u "java/io/Serializable"), (0, .class_ 4), (0, u "java/lang/Object")] 2

/-- java/io/Serializable -/
def k4 : Class := { plain "java/io/Serializable" (some 0) with
  accessFlags := 1537
  interfaces := #[]
  cf := some (fileOf pool4 1 #[] #[] 1537 3 #[] #[])
  fields := #[]
  methods := #[]
  instanceTypes := #[]
  staticTypes := #[]
  resolved := Array.replicate 7 none
  statics := none }

def pool5 : Array CpInfo := pool [(2, .class_ 4), (1, u "java/lang/Enum"), (0, u "name"), (0, u "Ljava/lang/String;"), (2, u "ordinal"), (0, u "I"), (1, .class_ 14), (1, u "java/lang/Object"), (4, u "hash"), (86, .class_ 108), (1, u "java/lang/Enum$EnumDesc"), (2, .class_ 112), (0, u "java/lang/constant/Constable"), (0, .class_ 114), (0, u "java/lang/Comparable"), (0, .class_ 116), (0, u "java/io/Serializable")] 87

/-- java/lang/Enum -/
def k5 : Class := { plain "java/lang/Enum" (some 0) with
  accessFlags := 1057
  interfaces := #[2, 3, 4]
  cf := some (fileOf pool5 2 #[.nestMembers #[106]] #[] 1057 12 #[111, 113, 115] #[{ accessFlags := 18, nameIndex := 5, descriptorIndex := 6, attributes := #[] }, { accessFlags := 18, nameIndex := 9, descriptorIndex := 10, attributes := #[] }, { accessFlags := 2, nameIndex := 19, descriptorIndex := 10, attributes := #[] }])
  fields := #[{ name := "name", type := (.object "java/lang/String"), accessFlags := 18, slot := 0, constantValue := 0 }, { name := "ordinal", type := .int, accessFlags := 18, slot := 1, constantValue := 0 }, { name := "hash", type := .int, accessFlags := 2, slot := 2, constantValue := 0 }]
  methods := #[]
  instanceTypes := #[(.object "java/lang/String"), .int, .int]
  staticTypes := #[]
  resolved := Array.replicate 204 none
  statics := none }

def pool6 : Array CpInfo := pool [(1, .class_ 2), (0, u "com/example/rewix/rewix/lang/Constant$Type"), (2, u "STRING"), (0, u "Lcom/example/rewix/rewix/lang/Constant$Type;"), (0, .fieldref 1 8), (0, .nameAndType 9 6), (0, u "INTEGER"), (0, .fieldref 1 11), (0, .nameAndType 12 6), (0, u "DECIMAL"), (0, .fieldref 1 14), (0, .nameAndType 15 6), (0, u "DOUBLE"), (2, u "DATE"), (2, u "$VALUES"), (0, u "[Lcom/example/rewix/rewix/lang/Constant$Type;"), (6, .class_ 31), (1, u "java/lang/Enum"), (23, u "isNumber"), (0, u "()Z"), (6, .class_ 64), (0, u "com/example/rewix/rewix/lang/Constant")] 2

def k6c0 : Code := { maxStack := 2, maxLocals := 1, code := prog_54_method_4_code, exceptionTable := #[], attributes := #[] }
def k6m0 : Method := { name := "isNumber", desc := "()Z", sig := { parameters := [], returnType := some .boolean }, accessFlags := 1, code := some k6c0 }
/-- com/example/rewix/rewix/lang/Constant$Type -/
def k6 : Class := { plain "com/example/rewix/rewix/lang/Constant$Type" (some 5) with
  accessFlags := 16433
  interfaces := #[]
  cf := some (fileOf pool6 1 #[.nestHost 63] #[{ accessFlags := 1, nameIndex := 55, descriptorIndex := 56, attributes := #[] }] 16433 29 #[] #[{ accessFlags := 16409, nameIndex := 5, descriptorIndex := 6, attributes := #[] }, { accessFlags := 16409, nameIndex := 9, descriptorIndex := 6, attributes := #[] }, { accessFlags := 16409, nameIndex := 12, descriptorIndex := 6, attributes := #[] }, { accessFlags := 16409, nameIndex := 15, descriptorIndex := 6, attributes := #[] }, { accessFlags := 16409, nameIndex := 18, descriptorIndex := 6, attributes := #[] }, { accessFlags := 4122, nameIndex := 21, descriptorIndex := 22, attributes := #[] }])
  fields := #[{ name := "STRING", type := (.object "com/example/rewix/rewix/lang/Constant$Type"), accessFlags := 16409, slot := 0, constantValue := 0 }, { name := "INTEGER", type := (.object "com/example/rewix/rewix/lang/Constant$Type"), accessFlags := 16409, slot := 1, constantValue := 0 }, { name := "DECIMAL", type := (.object "com/example/rewix/rewix/lang/Constant$Type"), accessFlags := 16409, slot := 2, constantValue := 0 }, { name := "DOUBLE", type := (.object "com/example/rewix/rewix/lang/Constant$Type"), accessFlags := 16409, slot := 3, constantValue := 0 }, { name := "DATE", type := (.object "com/example/rewix/rewix/lang/Constant$Type"), accessFlags := 16409, slot := 4, constantValue := 0 }, { name := "$VALUES", type := (.array (.object "com/example/rewix/rewix/lang/Constant$Type")), accessFlags := 4122, slot := 5, constantValue := 0 }]
  methods := #[k6m0]
  instanceTypes := #[(.object "java/lang/String"), .int, .int]
  staticTypes := #[(.object "com/example/rewix/rewix/lang/Constant$Type"), (.object "com/example/rewix/rewix/lang/Constant$Type"), (.object "com/example/rewix/rewix/lang/Constant$Type"), (.object "com/example/rewix/rewix/lang/Constant$Type"), (.object "com/example/rewix/rewix/lang/Constant$Type"), (.array (.object "com/example/rewix/rewix/lang/Constant$Type"))]
  resolved := Array.replicate 67 none
  statics := some 0 }

def pool7 : Array CpInfo := pool [(1, u "java/lang/Cloneable"), (0, .class_ 1), (0, u "java/lang/Object"), (0, .class_ 3)] 3

/-- java/lang/Cloneable -/
def k7 : Class := { plain "java/lang/Cloneable" (some 0) with
  accessFlags := 1537
  interfaces := #[]
  cf := some (fileOf pool7 2 #[] #[] 1537 4 #[] #[])
  fields := #[]
  methods := #[]
  instanceTypes := #[]
  staticTypes := #[]
  resolved := Array.replicate 8 none
  statics := none }

/-- the primitive byte -/
def k8 : Class := { plain "byte" none with kind := .primitive 'B', accessFlags := 0x411 }
/-- [B -/
def k9 : Class := { plain "[B" (some 0) with kind := .array 8 .byte, interfaces := #[7, 4], accessFlags := 1041 }

/-- the primitive int -/
def k10 : Class := { plain "int" none with kind := .primitive 'I', accessFlags := 0x411 }
/-- [I -/
def k11 : Class := { plain "[I" (some 0) with kind := .array 10 .int, interfaces := #[7, 4], accessFlags := 1041 }

def heap : Heap := #[{ cls := 6, slots := #[.ref 1, .ref 2, .ref 3, .ref 4, .ref 5, .null], vm := .statics 6 },
  { cls := 6, slots := #[.null, .int 0, .int 0], vm := .none },
  { cls := 6, slots := #[.null, .int 1, .int 0], vm := .none },
  { cls := 6, slots := #[.null, .int 2, .int 0], vm := .none },
  { cls := 6, slots := #[.null, .int 3, .int 0], vm := .none },
  { cls := 6, slots := #[.null, .int 4, .int 0], vm := .none }]
def classes : Array Class := #[k0, k1, k2, k3, k4, k5, k6, k7, k8, k9, k10, k11]
def interned : List (Array UInt16 × Addr) := []
def slotsUsed : Nat := 21
def theMethod : MethodId := ⟨1, 1⟩
def args0 : Array Value := #[.int 6]
def aboutOver (below : List Frame) : State where
  vm := { classes := classes, interned := interned.toArray }
  heap := heap
  slotsUsed := slotsUsed
  threads := #[{ frames := .invoking theMethod args0 :: below }]
def below0 : List Frame := [.native { method := ⟨0, 0⟩, args := #[] }]
def about1 : State := aboutOver below0
def p0 : Program := .bare "" "" ""
def e0 : Env := launch0.env 0 0 0
theorem w_frames : about1.frames = Frame.invoking theMethod args0 :: below0 := rfl
set_option maxRecDepth 65536 in
theorem w_args : argsFit about1.vm theMethod args0 = true := by decide +kernel
set_option maxRecDepth 65536 in
theorem w_heap : heapFits about1 = true := by decide +kernel
set_option maxRecDepth 65536 in
theorem w_runnable : about1.curStatus? = some .runnable := by decide +kernel
set_option maxRecDepth 65536 in
theorem w_alone : about1.alone = true := by decide +kernel
set_option maxRecDepth 65536 in
theorem w_named : about1.methodNamed? x = some theMethod := by decide +kernel
set_option maxRecDepth 65536 in
theorem w_hears : about1.hears theMethod below0 = true := by decide +kernel
set_option maxRecDepth 65536 in
theorem w_ripe : about1.ripe theMethod args0 below0 = true := by decide +kernel
theorem w_running : about1.status = .running := rfl
set_option maxRecDepth 65536 in
theorem w_room : about1.hasRoom e0.platform room_1 = true :=
  launch0.hasRoom_least _ room_1 (by decide +kernel) (by decide +kernel) (by decide +kernel) (by decide +kernel) (by decide +kernel) (by decide +kernel)
theorem allAtoms_all (ts : List Jvm.Cond) (a : Array Jvm.Value) (st : Jvm.State) : (allAtoms ts).before a st = ts.all (fun c => c.before a st) := by
  induction ts with
  | nil => rfl
  | cons c t ih =>
    show (Jvm.Cond.and c (allAtoms t)).before a st = _
    rw [Jvm.Cond.before_and, ih, List.all_cons]
def words1 : List Jvm.Cond := Jvm.Cond.code x code maxLocals ret :: tables_1
/-- a 'code' word, met by the world's own term for the bytes: nothing is compared byte by byte -/
theorem code_word {y : MethodName} {bytes : ByteArray} {mx : Nat} {rt : Option FieldType} {a : Array Value} {s : State} {m : MethodId} {meth : Method} {c : Code} (h1 : s.methodNamed? y = some m) (h2 : s.vm.method? m = some meth) (h3 : meth.code = some c) (h4 : c.code = bytes)
    (h5 : (c.maxLocals == mx && c.exceptionTable.isEmpty && decide (c.maxStack ≤ mostOperands) && decide (meth.sig.returnType = rt) && !meth.locks && decide (parseMethodDescriptor y.desc = some meth.sig)) = true) : (Jvm.Cond.code y bytes mx rt).before a s = true := by
  simp only [Bool.and_eq_true, beq_iff_eq, Bool.not_eq_true', decide_eq_true_eq] at h5
  obtain ⟨⟨⟨⟨⟨g1, g2⟩, g3⟩, g4⟩, g5⟩, g6⟩ := h5
  simp [Cond.before, Cond.holds, Cond.value, h1, h2, h3, h4, g1, g2, g3, g4, g5, g6]
def isCode : Jvm.Cond → Bool
  | .code _ _ _ _ => true
  | _ => false
theorem all_split {L : List Jvm.Cond} {P : Jvm.Cond → Bool} (h1 : L.all (fun c => isCode c || P c) = true) (h2 : ∀ c ∈ L.filter isCode, P c = true) : L.all P = true := by
  refine List.all_eq_true.mpr fun c hc => ?_
  have h := List.all_eq_true.mp h1 c hc
  rcases Bool.eq_false_or_eq_true (isCode c) with hi | hi
  · exact h2 c (List.mem_filter.mpr ⟨hc, hi⟩)
  · simpa [hi] using h
set_option maxRecDepth 65536 in
theorem w_c0 : (Jvm.Cond.code x code maxLocals ret).before args0 about1 = true := code_word (m := ⟨1, 1⟩) (meth := k1m1) (c := k1c1) (by decide +kernel) rfl rfl rfl (by decide +kernel)
set_option maxRecDepth 65536 in
theorem w_c1 : (Jvm.Cond.code ({ cls := "com/example/rewix/rewix/lang/Constant$Type", name := "isNumber", desc := "()Z" } : Jvm.MethodName) prog_54_method_4_code (1 : Nat) (Option.some Jvm.ClassFile.FieldType.boolean)).before args0 about1 = true := code_word (m := ⟨6, 0⟩) (meth := k6m0) (c := k6c0) (by decide +kernel) rfl rfl rfl (by decide +kernel)
def codes1 : List Jvm.Cond := [Jvm.Cond.code x code maxLocals ret, Jvm.Cond.code ({ cls := "com/example/rewix/rewix/lang/Constant$Type", name := "isNumber", desc := "()Z" } : Jvm.MethodName) prog_54_method_4_code (1 : Nat) (Option.some Jvm.ClassFile.FieldType.boolean)]
set_option maxRecDepth 65536 in
theorem codes_eq : words1.filter isCode = codes1 := rfl
theorem w_codes : ∀ c ∈ words1.filter isCode, c.before args0 about1 = true := by
  rw [codes_eq]
  intro c hc
  simp only [codes1, List.mem_cons, List.not_mem_nil, or_false] at hc
  rcases hc with rfl | rfl
  · exact w_c0
  · exact w_c1
set_option maxRecDepth 65536 in
theorem w_t1 : words1.all (fun c => isCode c || c.before args0 about1) = true := by decide +kernel
theorem w_tables : (allAtoms (Jvm.Cond.code x code maxLocals ret :: tables_1)).before args0 about1 = true := by
  rw [allAtoms_all]
  show words1.all (fun c => c.before args0 about1) = true
  refine all_split ?_ w_codes
  rw [w_t1]
set_option maxRecDepth 65536 in
theorem w_case : (Jvm.Cond.and given_1 narrow_1).before args0 about1 = true := by decide +kernel
theorem w_applies : (headSpec (Jvm.Cond.code x code maxLocals ret :: tables_1) room_1).applies x e0.platform about1 = true :=
  (Spec.applies_iff w_frames).mpr ⟨w_running, w_runnable, w_alone, w_named, w_hears, w_ripe, w_room, w_tables⟩
theorem atStart : AtStart classFile x code maxLocals ret World_1 tables_1 room_1 Calls_1 rest_1 Pre_1 launch0 p0 e0 about1 theMethod args0 below0 :=
  ⟨lists_1, trivial, launch0.admits_env _ _ _, launch0.least_env, fairChoices_fair.cas, fairChoices_fair.clock, w_frames, w_args, w_heap, w_applies, trivial, trivial, w_case⟩
end start1
theorem witness_1 : WitnessClaimed_1 := ⟨start1.p0, start1.e0, start1.about1, start1.theMethod, start1.args0, start1.below0, start1.atStart⟩
end Jvm.Pilot.@@N@@
