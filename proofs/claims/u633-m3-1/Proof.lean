import JvmDerived
import JvmDerived.Pilot.@@N@@Statement
import JvmDerived.Pilot.@@N@@Code
set_option linter.unusedVariables false
set_option linter.unusedSimpArgs false
namespace Jvm.Pilot.@@N@@
open Jvm Jvm.ClassFile Sem Op Lib Jvm.Free Jvm.Stand Jvm.LawKit Jvm.RoadKit Bundle Jvm.Pilot.@@N@@.Jvm.D
section Own
variable {p : Program} {l : Launch} {e : Env} {R : Room} {s : State} {m : MethodId} {args : Array Value} {below : List Frame} {meth : Method} {c : Code} {T T' : State} {locs : List Loc} {cells slots : Nat}
/-- what a walk owes from where it stands: it comes back, with what Q says -/
def Owes (p : Program) (e : Env) (below : List Frame) (s : State) (Q : Option Value → Heap → List Loc → Prop) (k n : Nat) (T : State) (f : JFrame) : Prop :=
  ∃ s₂ o, Steps p.tables e below (T.setTop f) s₂ ∧ s₂.status = .running ∧ Ended s₂ below o ∧ ∃ v L, o = .returned v ∧ Q v s₂.heap L ∧ FrameEnd s o s₂ L k n
theorem Owes.by {Q : Option Value → Heap → List Loc → Prop} {k n : Nat} {f f' : JFrame} (st : ∀ t, Steps p.tables e below (T'.setTop f') t → Steps p.tables e below (T.setTop f) t) (h : Owes p e below s Q k n T' f') : Owes p e below s Q k n T f := by
  obtain ⟨s₂, o, h1, h2⟩ := h
  exact ⟨s₂, o, st _ h1, h2⟩
theorem Owes.ret {Q : Option Value → Heap → List Loc → Prop} {k n : Nat} {f : JFrame} (X : Stand p l e R s m args below meth c T locs cells slots) {v : Option Value} (hv : meth.sig.returnType = none → v = none) (hlk : meth.locks = false)
    (hQ : Q v T.heap locs) (hk : cells ≤ k) (hn : slots ≤ n) (st : ∀ fs, (∀ (f : JFrame) (acts : List Action), f.method = m → f.locked = none → f.entered = [] → (doReturn e (T.setTop f) acts v).1 = T.setFrames fs) → Steps p.tables e below (T.setTop f) (T.setFrames fs)) : Owes p e below s Q k n T f := by
  obtain ⟨fs, hr, hrun, hended, hW, hsame⟩ := X.leave (v := v) hv hlk
  exact ⟨_, _, st fs hr, hrun, hended, _, _, rfl, hQ, ⟨_, rfl⟩, hW, hsame.mono hk hn⟩
/-- a join point: what holds wherever the walk stands again with the same heap -/
theorem own_join {h : Heap} {G : State → Prop} {P : Prop} (X : Stand p l e R s m args below meth c T locs cells slots) (J : ∀ T', Stand p l e R s m args below meth c T' locs cells slots → T'.heap = h → G T')
    (k : (∀ T', Stand p l e R s m args below meth c T' locs cells slots → T'.heap = h → G T') → P) : P := k J
end Own
/-- it writes nothing, makes nothing, and hands back w -/
def Qv (w : Option Value) (h0 : Heap) (n0 : Nat) (v : Option Value) (h : Heap) (L : List Loc) : Prop := v = w ∧ L = [] ∧ h = h0
def QL (n0 : Nat) (v : Option Value) (h : Heap) (L : List Loc) : Prop := v = some (.int (1 : Int32)) ∧ Fr n0 L
section Words
variable {Z : State} {args : Array Value} {t : Term} {C n d : String} {a : Addr}
theorem own_fld {k : Int32} (ht : t.eval args Z none [] Z = some (.ref a)) (h : (Cond.eq (Term.field t C n d) (Term.int k)).value args Z none Z [] = some true) : Fld Z Z.heap a C n d (.int k) := by
  obtain ⟨x, y, hx, hy, h1, -⟩ := cmp_v (Or.inl h)
  obtain rfl : y = .int k := (Option.some.inj ((Term.int_eval k).symm.trans hy)).symm
  have hx' : Z.fieldOf? a C n d = some x := (fld_at ht).symm.trans hx
  cases x <;> simp [Kin, Value.isRef] at h1
  rename_i z
  have e : z = k := by simpa [Cond.value, hx, hy] using h
  subst e
  exact Fld.start hx'
theorem own_fldL {k : Int64} (ht : t.eval args Z none [] Z = some (.ref a)) (h : (Cond.eq (Term.field t C n d) (Term.long k)).value args Z none Z [] = some true) : Fld Z Z.heap a C n d (.long k) := by
  obtain ⟨x, y, hx, hy, h1, -⟩ := cmp_v (Or.inl h)
  obtain rfl : y = .long k := (Option.some.inj ((long_at k).symm.trans hy)).symm
  have hx' : Z.fieldOf? a C n d = some x := (fld_at ht).symm.trans hx
  cases x <;> simp [Kin, Value.isRef] at h1
  rename_i z
  have e : z = k := by simpa [Cond.value, hx, hy] using h
  subst e
  exact Fld.start hx'
theorem own_len {k : Int32} {cl : Cell} {ty : FieldType} (ht : t.eval args Z none [] Z = some (.ref a)) (A : Arr Z Z.heap a cl ty) (h : (Cond.eq (Term.length t) (Term.int k)).value args Z none Z [] = some true) : cl.slots.size.toInt32 = k := by
  obtain ⟨x, y, hx, hy, -, -⟩ := cmp_v (Or.inl h)
  obtain ⟨a', cell, e1, e2, rfl⟩ := Term.length_spec hx
  cases ht.symm.trans e1
  obtain rfl : y = .int k := (Option.some.inj ((Term.int_eval k).symm.trans hy)).symm
  cases A.1.symm.trans (State.arrayAt?_spec e2).1
  simpa [Cond.value, hx, hy] using h
theorem own_elem {k : Int32} {cl : Cell} {ty : FieldType} {u : Term} {w : Addr} (ht : t.eval args Z none [] Z = some (.ref a)) (A : Arr Z Z.heap a cl ty) (hu : u.eval args Z none [] Z = some (.ref w)) (h : (Cond.eq (Term.elem t (Term.int k)) u).value args Z none Z [] = some true) :
    ¬ (k < 0 ∨ cl.slots.size ≤ k.toNatClampNeg) ∧ cl.slots[k.toNatClampNeg]? = some (.ref w) := by
  obtain ⟨x, y, hx, hy, h1, -⟩ := cmp_v (Or.inl h)
  obtain rfl : y = .ref w := (Option.some.inj (hu.symm.trans hy)).symm
  obtain ⟨cell, e1, e2, e3⟩ := Jvm.Lib.elem_at hx ht (Term.int_eval k)
  cases A.1.symm.trans e1
  refine ⟨e2, ?_⟩
  cases x <;> simp [Kin, Value.isRef] at h1
  · simp [Cond.value, hx, hy] at h
  · rename_i z
    have e : z = w := by simpa [Cond.value, hx, hy] using h
    rw [e3, e]
end Words
theorem pn_TypeKindCompositePinLaw : plainName "com/example/hard_check/hardcheck/TypeKindCompositePinLaw" = true := by first | (simp [plainName, overriddenIn]; done) | decide +kernel
theorem d1_0 : decode method_2_code 0 = .ok (.iload_n 0, 1) := by decide +kernel
theorem d1_1 : decode method_2_code 1 = .ok (.ifCond .ne 7, 3) := by decide +kernel
theorem d1_4 : decode method_2_code 4 = .ok (.getstatic 7, 3) := by decide +kernel
theorem d1_7 : decode method_2_code 7 = .ok (.areturn, 1) := by decide +kernel
theorem d1_8 : decode method_2_code 8 = .ok (.iload_n 0, 1) := by decide +kernel
theorem d1_9 : decode method_2_code 9 = .ok (.iconst 1, 1) := by decide +kernel
theorem d1_10 : decode method_2_code 10 = .ok (.if_icmp .ne 7, 3) := by decide +kernel
theorem d1_13 : decode method_2_code 13 = .ok (.getstatic 13, 3) := by decide +kernel
theorem d1_16 : decode method_2_code 16 = .ok (.areturn, 1) := by decide +kernel
theorem d1_17 : decode method_2_code 17 = .ok (.iload_n 0, 1) := by decide +kernel
theorem d1_18 : decode method_2_code 18 = .ok (.iconst 2, 1) := by decide +kernel
theorem d1_19 : decode method_2_code 19 = .ok (.if_icmp .ne 7, 3) := by decide +kernel
theorem d1_22 : decode method_2_code 22 = .ok (.getstatic 16, 3) := by decide +kernel
theorem d1_25 : decode method_2_code 25 = .ok (.areturn, 1) := by decide +kernel
theorem d1_26 : decode method_2_code 26 = .ok (.iload_n 0, 1) := by decide +kernel
theorem d1_27 : decode method_2_code 27 = .ok (.iconst 3, 1) := by decide +kernel
theorem d1_28 : decode method_2_code 28 = .ok (.if_icmp .ne 7, 3) := by decide +kernel
theorem d1_31 : decode method_2_code 31 = .ok (.getstatic 19, 3) := by decide +kernel
theorem d1_34 : decode method_2_code 34 = .ok (.areturn, 1) := by decide +kernel
theorem d1_35 : decode method_2_code 35 = .ok (.iload_n 0, 1) := by decide +kernel
theorem d1_36 : decode method_2_code 36 = .ok (.iconst 4, 1) := by decide +kernel
theorem d1_37 : decode method_2_code 37 = .ok (.if_icmp .ne 7, 3) := by decide +kernel
theorem d1_40 : decode method_2_code 40 = .ok (.getstatic 22, 3) := by decide +kernel
theorem d1_43 : decode method_2_code 43 = .ok (.areturn, 1) := by decide +kernel
theorem d1_44 : decode method_2_code 44 = .ok (.getstatic 25, 3) := by decide +kernel
theorem d1_47 : decode method_2_code 47 = .ok (.areturn, 1) := by decide +kernel
theorem pn_TypeKind : plainName "com/example/hard_check/hardcheck/TypeKind" = true := by first | (simp [plainName, overriddenIn]; done) | decide +kernel
theorem d2_0 : decode prog_118_method_11_code 0 = .ok (.aload_n 0, 1) := by decide +kernel
theorem d2_1 : decode prog_118_method_11_code 1 = .ok (.getstatic 7, 3) := by decide +kernel
theorem d2_4 : decode prog_118_method_11_code 4 = .ok (.if_acmp .eq 17, 3) := by decide +kernel
theorem d2_21 : decode prog_118_method_11_code 21 = .ok (.iconst 1, 1) := by decide +kernel
theorem d2_22 : decode prog_118_method_11_code 22 = .ok (.goto 4, 3) := by decide +kernel
theorem d2_26 : decode prog_118_method_11_code 26 = .ok (.ireturn, 1) := by decide +kernel
theorem d2_7 : decode prog_118_method_11_code 7 = .ok (.aload_n 0, 1) := by decide +kernel
theorem d2_8 : decode prog_118_method_11_code 8 = .ok (.getstatic 10, 3) := by decide +kernel
theorem d2_11 : decode prog_118_method_11_code 11 = .ok (.if_acmp .eq 10, 3) := by decide +kernel
theorem d2_14 : decode prog_118_method_11_code 14 = .ok (.aload_n 0, 1) := by decide +kernel
theorem d2_15 : decode prog_118_method_11_code 15 = .ok (.getstatic 13, 3) := by decide +kernel
theorem d2_18 : decode prog_118_method_11_code 18 = .ok (.if_acmp .ne 7, 3) := by decide +kernel
theorem d2_25 : decode prog_118_method_11_code 25 = .ok (.iconst 0, 1) := by decide +kernel
theorem d3_0 : decode prog_118_method_9_code 0 = .ok (.aload_n 0, 1) := by decide +kernel
theorem d3_1 : decode prog_118_method_9_code 1 = .ok (.getfield 58, 3) := by decide +kernel
theorem d3_4 : decode prog_118_method_9_code 4 = .ok (.ireturn, 1) := by decide +kernel
theorem d4_0 : decode prog_118_method_8_code 0 = .ok (.aload_n 0, 1) := by decide +kernel
theorem d4_1 : decode prog_118_method_8_code 1 = .ok (.getfield 54, 3) := by decide +kernel
theorem d4_4 : decode prog_118_method_8_code 4 = .ok (.ireturn, 1) := by decide +kernel
theorem pd_I_Lcom_example_hard_check_hardcheck_TypeKind : parseMethodDescriptor "(I)Lcom/example/hard_check/hardcheck/TypeKind;" = some ⟨[.int], some (.object "com/example/hard_check/hardcheck/TypeKind")⟩ := by decide +kernel
theorem pd_Z : parseMethodDescriptor "()Z" = some ⟨[], some .boolean⟩ := by decide +kernel
theorem own_and_nn (x : Int32) : 0 ≤ (x &&& (2147483647 : Int32)).toInt := by
  have h : (x &&& (2147483647 : Int32)).toBitVec.msb = false := by
    rw [Int32.toBitVec_and, BitVec.msb_and]; simp; intro; decide
  rw [← Int32.toInt_toBitVec]
  exact BitVec.toInt_nonneg_of_msb_false h
theorem own_mod_b (x n : Int32) (hn : 0 < n.toInt) : 0 ≤ ((x &&& (2147483647 : Int32)) % n).toInt ∧ ((x &&& (2147483647 : Int32)) % n).toInt < n.toInt := by
  rw [Int32.toInt_mod]
  exact ⟨Int.tmod_nonneg _ (own_and_nn x), Int.tmod_lt_of_pos _ hn⟩
theorem own_mod6 (x : Int32) : (x &&& (2147483647 : Int32)) % (6 : Int32) = 0 ∨ (x &&& (2147483647 : Int32)) % (6 : Int32) = 1 ∨ (x &&& (2147483647 : Int32)) % (6 : Int32) = 2 ∨ (x &&& (2147483647 : Int32)) % (6 : Int32) = 3 ∨ (x &&& (2147483647 : Int32)) % (6 : Int32) = 4 ∨ (x &&& (2147483647 : Int32)) % (6 : Int32) = 5 := by
  obtain ⟨h1, h2⟩ := own_mod_b x 6 (by decide)
  generalize (x &&& (2147483647 : Int32)) % (6 : Int32) = k at *
  have h3 : (6 : Int32).toInt = 6 := by decide
  rw [h3] at h2
  simp only [← Int32.toInt_inj]
  simp +decide
  omega

theorem ef_rmP (m : MethodId) (x0 : Int32) : entryFrame m #[(.int x0)] 1 = mkF m 0 #[(.val (.int x0))] [] := by first | (simp [entryFrame, mkF, argsToLocals, Value.category]; done) | rfl
set_option maxRecDepth 65536 in
set_option maxHeartbeats 40000000 in
theorem rmP (l : Launch) (Z : State) (a0 : Array Value) (hw : ∀ d ∈ tables_1, d.before a0 Z = true) (ws : List Jvm.Cond) (k : Int32) (w_SCALAR w_OBJECT w_INTERFACE w_UNION w_ENUM w_INPUT_OBJECT r : Addr) (h0 : Heap) (n0 : Nat) (Z0 : n0 ≤ h0.size) (S_SCALAR : Sta Z h0 "com/example/hard_check/hardcheck/TypeKind" "SCALAR" "Lcom/example/hard_check/hardcheck/TypeKind;" (.ref w_SCALAR)) (S_OBJECT : Sta Z h0 "com/example/hard_check/hardcheck/TypeKind" "OBJECT" "Lcom/example/hard_check/hardcheck/TypeKind;" (.ref w_OBJECT)) (S_INTERFACE : Sta Z h0 "com/example/hard_check/hardcheck/TypeKind" "INTERFACE" "Lcom/example/hard_check/hardcheck/TypeKind;" (.ref w_INTERFACE)) (S_UNION : Sta Z h0 "com/example/hard_check/hardcheck/TypeKind" "UNION" "Lcom/example/hard_check/hardcheck/TypeKind;" (.ref w_UNION)) (S_ENUM : Sta Z h0 "com/example/hard_check/hardcheck/TypeKind" "ENUM" "Lcom/example/hard_check/hardcheck/TypeKind;" (.ref w_ENUM)) (S_INPUT_OBJECT : Sta Z h0 "com/example/hard_check/hardcheck/TypeKind" "INPUT_OBJECT" "Lcom/example/hard_check/hardcheck/TypeKind;" (.ref w_INPUT_OBJECT)) (hr : (if k = 0 then w_SCALAR else if k = 1 then w_OBJECT else if k = 2 then w_INTERFACE else if k = 3 then w_UNION else if k = 4 then w_ENUM else w_INPUT_OBJECT) = r) :
    MetFree l (⟨"com/example/hard_check/hardcheck/TypeKindCompositePinLaw", "pick", "(I)Lcom/example/hard_check/hardcheck/TypeKind;"⟩ : MethodName) (head1 (Jvm.Cond.code (⟨"com/example/hard_check/hardcheck/TypeKindCompositePinLaw", "pick", "(I)Lcom/example/hard_check/hardcheck/TypeKind;"⟩ : MethodName) method_2_code 1 (some (.object "com/example/hard_check/hardcheck/TypeKind")) :: ws) ({ frames := 0, cells := 0, slots := 0, locals := 0 } : Room)) (fun aa UU => aa = #[(.int k)] ∧ Z.Warmed39 UU.vm ∧ UU.heap = h0) (fun _ _ _ _ _ => True) (fun _ UU oo UU' => ∃ vr Lr, oo = .returned vr ∧ (Qv (some (.ref r)) h0 n0) vr UU'.heap Lr ∧ FrameEnd UU oo UU' Lr ({ frames := 0, cells := 0, slots := 0, locals := 0 } : Room).cells ({ frames := 0, cells := 0, slots := 0, locals := 0 } : Room).slots) := by
  refine MetFree.of_bodySF (plainFor_of_name pn_TypeKindCompositePinLaw) hisR ?_
  intro p e s m args below meth c s₁ Bd hml0 hP hK
  obtain ⟨rfl, hZ, hh⟩ := hP
  have hx := Bd.exec
  have hby := Bd.bytes
  have hml : c.maxLocals = 1 := hml0
  have hown : s.vm.findClass "com/example/hard_check/hardcheck/TypeKindCompositePinLaw" = some m.cls := findClass_of_methodNamed Bd.named
  have hnm := (name_of_methodNamed Bd.named Bd.method).1
  have hlk := Bd.notSynchronized
  have X0 : Stand p l e ({ frames := 0, cells := 0, slots := 0, locals := 0 } : Room) s m #[(.int k)] below meth c s₁ [] 0 0 := Stand.of_body Bd
  have e0 : s₁.heap = h0 := by rw [← hh, Bd.state]; rfl
  have N0 := Fr.nil n0
  show Owes p e below s (Qv (some (.ref r)) h0 n0) ({ frames := 0, cells := 0, slots := 0, locals := 0 } : Room).cells ({ frames := 0, cells := 0, slots := 0, locals := 0 } : Room).slots s₁ (entryFrame m #[(.int k)] 1)
  rw [ef_rmP m k]
  show Owes p e below s (Qv (some (.ref r)) h0 n0) ({ frames := 0, cells := 0, slots := 0, locals := 0 } : Room).cells ({ frames := 0, cells := 0, slots := 0, locals := 0 } : Room).slots s₁ (mkF m 0 #[(.val (.int k))] [])
  refine Owes.by (fun _ k => XS.iloadN X0.here hx rfl (hb hby d1_0) rfl k) ?_
  show Owes p e below s (Qv (some (.ref r)) h0 n0) ({ frames := 0, cells := 0, slots := 0, locals := 0 } : Room).cells ({ frames := 0, cells := 0, slots := 0, locals := 0 } : Room).slots s₁ (mkF m 1 #[(.val (.int k))] [(.int k)])
  by_cases q0 : k = 0
  · skip
    refine Owes.by (fun _ k => XS.ifNo X0.here hx rfl (hb hby d1_1) rfl (XT.i0_ne_f q0) k) ?_
    show Owes p e below s (Qv (some (.ref r)) h0 n0) ({ frames := 0, cells := 0, slots := 0, locals := 0 } : Room).cells ({ frames := 0, cells := 0, slots := 0, locals := 0 } : Room).slots s₁ (mkF m 4 #[(.val (.int k))] [])
    obtain ⟨T1, X1, e1, st1⟩ := getS2 X0 hx hZ hown (host := "") (Or.inl (hw _ (List.mem_of_getElem? (i := 5) rfl))) Via.refl e0 S_SCALAR (g := (mkF m 4 #[(.val (.int k))] [])) rfl (hb hby d1_4)
    refine Owes.by st1 ?_
    show Owes p e below s (Qv (some (.ref r)) h0 n0) ({ frames := 0, cells := 0, slots := 0, locals := 0 } : Room).cells ({ frames := 0, cells := 0, slots := 0, locals := 0 } : Room).slots T1 (mkF m 7 #[(.val (.int k))] [(.ref w_SCALAR)])
    refine Owes.ret X1 (v := some (.ref w_SCALAR)) (fun h => by rw [Bd.returns] at h; cases h) hlk ?_ (by decide) (by decide) (fun fs hr => retOut X1 hx Bd.returns rfl (Or.inr (Or.inr (Or.inr (Or.inr ⟨rfl, rfl, rfl⟩)))) (hb hby d1_7) hr)
    rw [e1]
    exact ⟨by rw [← hr, if_pos q0], rfl, rfl⟩
  · skip
    refine Owes.by (fun _ k => XS.ifYes X0.here hx rfl (pc0 := 1) (pc' := 8) rfl (hb hby d1_1) rfl (XT.i0_ne_t q0) (by decide) (by decide) k) ?_
    show Owes p e below s (Qv (some (.ref r)) h0 n0) ({ frames := 0, cells := 0, slots := 0, locals := 0 } : Room).cells ({ frames := 0, cells := 0, slots := 0, locals := 0 } : Room).slots s₁ (mkF m 8 #[(.val (.int k))] [])
    refine Owes.by (fun _ k => XS.iloadN X0.here hx rfl (hb hby d1_8) rfl k) ?_
    show Owes p e below s (Qv (some (.ref r)) h0 n0) ({ frames := 0, cells := 0, slots := 0, locals := 0 } : Room).cells ({ frames := 0, cells := 0, slots := 0, locals := 0 } : Room).slots s₁ (mkF m 9 #[(.val (.int k))] [(.int k)])
    refine Owes.by (fun _ k => XS.iconst X0.here hx rfl (hb hby d1_9) k) ?_
    show Owes p e below s (Qv (some (.ref r)) h0 n0) ({ frames := 0, cells := 0, slots := 0, locals := 0 } : Room).cells ({ frames := 0, cells := 0, slots := 0, locals := 0 } : Room).slots s₁ (mkF m 10 #[(.val (.int k))] [(.int (1 : Int32)), (.int k)])
    by_cases q1 : k = (1 : Int32)
    · skip
      refine Owes.by (fun _ k => XS.icmpNo X0.here hx rfl (hb hby d1_10) rfl (XT.ii_ne_f q1) k) ?_
      show Owes p e below s (Qv (some (.ref r)) h0 n0) ({ frames := 0, cells := 0, slots := 0, locals := 0 } : Room).cells ({ frames := 0, cells := 0, slots := 0, locals := 0 } : Room).slots s₁ (mkF m 13 #[(.val (.int k))] [])
      obtain ⟨T2, X2, e2, st2⟩ := getS2 X0 hx hZ hown (host := "") (Or.inl (hw _ (List.mem_of_getElem? (i := 35) rfl))) Via.refl e0 S_OBJECT (g := (mkF m 13 #[(.val (.int k))] [])) rfl (hb hby d1_13)
      refine Owes.by st2 ?_
      show Owes p e below s (Qv (some (.ref r)) h0 n0) ({ frames := 0, cells := 0, slots := 0, locals := 0 } : Room).cells ({ frames := 0, cells := 0, slots := 0, locals := 0 } : Room).slots T2 (mkF m 16 #[(.val (.int k))] [(.ref w_OBJECT)])
      refine Owes.ret X2 (v := some (.ref w_OBJECT)) (fun h => by rw [Bd.returns] at h; cases h) hlk ?_ (by decide) (by decide) (fun fs hr => retOut X2 hx Bd.returns rfl (Or.inr (Or.inr (Or.inr (Or.inr ⟨rfl, rfl, rfl⟩)))) (hb hby d1_16) hr)
      rw [e2]
      exact ⟨by rw [← hr, if_neg q0, if_pos q1], rfl, rfl⟩
    · skip
      refine Owes.by (fun _ k => XS.icmpYes X0.here hx rfl (pc0 := 10) (pc' := 17) rfl (hb hby d1_10) rfl (XT.ii_ne_t q1) (by decide) (by decide) k) ?_
      show Owes p e below s (Qv (some (.ref r)) h0 n0) ({ frames := 0, cells := 0, slots := 0, locals := 0 } : Room).cells ({ frames := 0, cells := 0, slots := 0, locals := 0 } : Room).slots s₁ (mkF m 17 #[(.val (.int k))] [])
      refine Owes.by (fun _ k => XS.iloadN X0.here hx rfl (hb hby d1_17) rfl k) ?_
      show Owes p e below s (Qv (some (.ref r)) h0 n0) ({ frames := 0, cells := 0, slots := 0, locals := 0 } : Room).cells ({ frames := 0, cells := 0, slots := 0, locals := 0 } : Room).slots s₁ (mkF m 18 #[(.val (.int k))] [(.int k)])
      refine Owes.by (fun _ k => XS.iconst X0.here hx rfl (hb hby d1_18) k) ?_
      show Owes p e below s (Qv (some (.ref r)) h0 n0) ({ frames := 0, cells := 0, slots := 0, locals := 0 } : Room).cells ({ frames := 0, cells := 0, slots := 0, locals := 0 } : Room).slots s₁ (mkF m 19 #[(.val (.int k))] [(.int (2 : Int32)), (.int k)])
      by_cases q2 : k = (2 : Int32)
      · skip
        refine Owes.by (fun _ k => XS.icmpNo X0.here hx rfl (hb hby d1_19) rfl (XT.ii_ne_f q2) k) ?_
        show Owes p e below s (Qv (some (.ref r)) h0 n0) ({ frames := 0, cells := 0, slots := 0, locals := 0 } : Room).cells ({ frames := 0, cells := 0, slots := 0, locals := 0 } : Room).slots s₁ (mkF m 22 #[(.val (.int k))] [])
        obtain ⟨T3, X3, e3, st3⟩ := getS2 X0 hx hZ hown (host := "") (Or.inl (hw _ (List.mem_of_getElem? (i := 34) rfl))) Via.refl e0 S_INTERFACE (g := (mkF m 22 #[(.val (.int k))] [])) rfl (hb hby d1_22)
        refine Owes.by st3 ?_
        show Owes p e below s (Qv (some (.ref r)) h0 n0) ({ frames := 0, cells := 0, slots := 0, locals := 0 } : Room).cells ({ frames := 0, cells := 0, slots := 0, locals := 0 } : Room).slots T3 (mkF m 25 #[(.val (.int k))] [(.ref w_INTERFACE)])
        refine Owes.ret X3 (v := some (.ref w_INTERFACE)) (fun h => by rw [Bd.returns] at h; cases h) hlk ?_ (by decide) (by decide) (fun fs hr => retOut X3 hx Bd.returns rfl (Or.inr (Or.inr (Or.inr (Or.inr ⟨rfl, rfl, rfl⟩)))) (hb hby d1_25) hr)
        rw [e3]
        exact ⟨by rw [← hr, if_neg q0, if_neg q1, if_pos q2], rfl, rfl⟩
      · skip
        refine Owes.by (fun _ k => XS.icmpYes X0.here hx rfl (pc0 := 19) (pc' := 26) rfl (hb hby d1_19) rfl (XT.ii_ne_t q2) (by decide) (by decide) k) ?_
        show Owes p e below s (Qv (some (.ref r)) h0 n0) ({ frames := 0, cells := 0, slots := 0, locals := 0 } : Room).cells ({ frames := 0, cells := 0, slots := 0, locals := 0 } : Room).slots s₁ (mkF m 26 #[(.val (.int k))] [])
        refine Owes.by (fun _ k => XS.iloadN X0.here hx rfl (hb hby d1_26) rfl k) ?_
        show Owes p e below s (Qv (some (.ref r)) h0 n0) ({ frames := 0, cells := 0, slots := 0, locals := 0 } : Room).cells ({ frames := 0, cells := 0, slots := 0, locals := 0 } : Room).slots s₁ (mkF m 27 #[(.val (.int k))] [(.int k)])
        refine Owes.by (fun _ k => XS.iconst X0.here hx rfl (hb hby d1_27) k) ?_
        show Owes p e below s (Qv (some (.ref r)) h0 n0) ({ frames := 0, cells := 0, slots := 0, locals := 0 } : Room).cells ({ frames := 0, cells := 0, slots := 0, locals := 0 } : Room).slots s₁ (mkF m 28 #[(.val (.int k))] [(.int (3 : Int32)), (.int k)])
        by_cases q3 : k = (3 : Int32)
        · skip
          refine Owes.by (fun _ k => XS.icmpNo X0.here hx rfl (hb hby d1_28) rfl (XT.ii_ne_f q3) k) ?_
          show Owes p e below s (Qv (some (.ref r)) h0 n0) ({ frames := 0, cells := 0, slots := 0, locals := 0 } : Room).cells ({ frames := 0, cells := 0, slots := 0, locals := 0 } : Room).slots s₁ (mkF m 31 #[(.val (.int k))] [])
          obtain ⟨T4, X4, e4, st4⟩ := getS2 X0 hx hZ hown (host := "") (Or.inl (hw _ (List.mem_of_getElem? (i := 33) rfl))) Via.refl e0 S_UNION (g := (mkF m 31 #[(.val (.int k))] [])) rfl (hb hby d1_31)
          refine Owes.by st4 ?_
          show Owes p e below s (Qv (some (.ref r)) h0 n0) ({ frames := 0, cells := 0, slots := 0, locals := 0 } : Room).cells ({ frames := 0, cells := 0, slots := 0, locals := 0 } : Room).slots T4 (mkF m 34 #[(.val (.int k))] [(.ref w_UNION)])
          refine Owes.ret X4 (v := some (.ref w_UNION)) (fun h => by rw [Bd.returns] at h; cases h) hlk ?_ (by decide) (by decide) (fun fs hr => retOut X4 hx Bd.returns rfl (Or.inr (Or.inr (Or.inr (Or.inr ⟨rfl, rfl, rfl⟩)))) (hb hby d1_34) hr)
          rw [e4]
          exact ⟨by rw [← hr, if_neg q0, if_neg q1, if_neg q2, if_pos q3], rfl, rfl⟩
        · skip
          refine Owes.by (fun _ k => XS.icmpYes X0.here hx rfl (pc0 := 28) (pc' := 35) rfl (hb hby d1_28) rfl (XT.ii_ne_t q3) (by decide) (by decide) k) ?_
          show Owes p e below s (Qv (some (.ref r)) h0 n0) ({ frames := 0, cells := 0, slots := 0, locals := 0 } : Room).cells ({ frames := 0, cells := 0, slots := 0, locals := 0 } : Room).slots s₁ (mkF m 35 #[(.val (.int k))] [])
          refine Owes.by (fun _ k => XS.iloadN X0.here hx rfl (hb hby d1_35) rfl k) ?_
          show Owes p e below s (Qv (some (.ref r)) h0 n0) ({ frames := 0, cells := 0, slots := 0, locals := 0 } : Room).cells ({ frames := 0, cells := 0, slots := 0, locals := 0 } : Room).slots s₁ (mkF m 36 #[(.val (.int k))] [(.int k)])
          refine Owes.by (fun _ k => XS.iconst X0.here hx rfl (hb hby d1_36) k) ?_
          show Owes p e below s (Qv (some (.ref r)) h0 n0) ({ frames := 0, cells := 0, slots := 0, locals := 0 } : Room).cells ({ frames := 0, cells := 0, slots := 0, locals := 0 } : Room).slots s₁ (mkF m 37 #[(.val (.int k))] [(.int (4 : Int32)), (.int k)])
          by_cases q4 : k = (4 : Int32)
          · skip
            refine Owes.by (fun _ k => XS.icmpNo X0.here hx rfl (hb hby d1_37) rfl (XT.ii_ne_f q4) k) ?_
            show Owes p e below s (Qv (some (.ref r)) h0 n0) ({ frames := 0, cells := 0, slots := 0, locals := 0 } : Room).cells ({ frames := 0, cells := 0, slots := 0, locals := 0 } : Room).slots s₁ (mkF m 40 #[(.val (.int k))] [])
            obtain ⟨T5, X5, e5, st5⟩ := getS2 X0 hx hZ hown (host := "") (Or.inl (hw _ (List.mem_of_getElem? (i := 38) rfl))) Via.refl e0 S_ENUM (g := (mkF m 40 #[(.val (.int k))] [])) rfl (hb hby d1_40)
            refine Owes.by st5 ?_
            show Owes p e below s (Qv (some (.ref r)) h0 n0) ({ frames := 0, cells := 0, slots := 0, locals := 0 } : Room).cells ({ frames := 0, cells := 0, slots := 0, locals := 0 } : Room).slots T5 (mkF m 43 #[(.val (.int k))] [(.ref w_ENUM)])
            refine Owes.ret X5 (v := some (.ref w_ENUM)) (fun h => by rw [Bd.returns] at h; cases h) hlk ?_ (by decide) (by decide) (fun fs hr => retOut X5 hx Bd.returns rfl (Or.inr (Or.inr (Or.inr (Or.inr ⟨rfl, rfl, rfl⟩)))) (hb hby d1_43) hr)
            rw [e5]
            exact ⟨by rw [← hr, if_neg q0, if_neg q1, if_neg q2, if_neg q3, if_pos q4], rfl, rfl⟩
          · skip
            refine Owes.by (fun _ k => XS.icmpYes X0.here hx rfl (pc0 := 37) (pc' := 44) rfl (hb hby d1_37) rfl (XT.ii_ne_t q4) (by decide) (by decide) k) ?_
            show Owes p e below s (Qv (some (.ref r)) h0 n0) ({ frames := 0, cells := 0, slots := 0, locals := 0 } : Room).cells ({ frames := 0, cells := 0, slots := 0, locals := 0 } : Room).slots s₁ (mkF m 44 #[(.val (.int k))] [])
            obtain ⟨T6, X6, e6, st6⟩ := getS2 X0 hx hZ hown (host := "") (Or.inl (hw _ (List.mem_of_getElem? (i := 36) rfl))) Via.refl e0 S_INPUT_OBJECT (g := (mkF m 44 #[(.val (.int k))] [])) rfl (hb hby d1_44)
            refine Owes.by st6 ?_
            show Owes p e below s (Qv (some (.ref r)) h0 n0) ({ frames := 0, cells := 0, slots := 0, locals := 0 } : Room).cells ({ frames := 0, cells := 0, slots := 0, locals := 0 } : Room).slots T6 (mkF m 47 #[(.val (.int k))] [(.ref w_INPUT_OBJECT)])
            refine Owes.ret X6 (v := some (.ref w_INPUT_OBJECT)) (fun h => by rw [Bd.returns] at h; cases h) hlk ?_ (by decide) (by decide) (fun fs hr => retOut X6 hx Bd.returns rfl (Or.inr (Or.inr (Or.inr (Or.inr ⟨rfl, rfl, rfl⟩)))) (hb hby d1_47) hr)
            rw [e6]
            exact ⟨by rw [← hr, if_neg q0, if_neg q1, if_neg q2, if_neg q3, if_neg q4], rfl, rfl⟩
theorem ef_rmC (m : MethodId) (x0 : Addr) : entryFrame m #[(.ref x0)] 1 = mkF m 0 #[(.val (.ref x0))] [] := by first | (simp [entryFrame, mkF, argsToLocals, Value.category]; done) | rfl
set_option maxRecDepth 65536 in
set_option maxHeartbeats 40000000 in
theorem rmC (l : Launch) (Z : State) (a0 : Array Value) (hw : ∀ d ∈ tables_1, d.before a0 Z = true) (ws : List Jvm.Cond) (a1 w_OBJECT w_INTERFACE w_UNION : Addr) (r : Int32) (h0 : Heap) (n0 : Nat) (Z0 : n0 ≤ h0.size) (S_OBJECT : Sta Z h0 "com/example/hard_check/hardcheck/TypeKind" "OBJECT" "Lcom/example/hard_check/hardcheck/TypeKind;" (.ref w_OBJECT)) (S_INTERFACE : Sta Z h0 "com/example/hard_check/hardcheck/TypeKind" "INTERFACE" "Lcom/example/hard_check/hardcheck/TypeKind;" (.ref w_INTERFACE)) (S_UNION : Sta Z h0 "com/example/hard_check/hardcheck/TypeKind" "UNION" "Lcom/example/hard_check/hardcheck/TypeKind;" (.ref w_UNION)) (hr : (if a1 = w_OBJECT ∨ a1 = w_INTERFACE ∨ a1 = w_UNION then (1 : Int32) else 0) = r) :
    MetFree l (⟨"com/example/hard_check/hardcheck/TypeKind", "composite", "()Z"⟩ : MethodName) (head1 (Jvm.Cond.code (⟨"com/example/hard_check/hardcheck/TypeKind", "composite", "()Z"⟩ : MethodName) prog_118_method_11_code 1 (some .boolean) :: ws) ({ frames := 0, cells := 0, slots := 0, locals := 0 } : Room)) (fun aa UU => aa = #[(.ref a1)] ∧ Z.Warmed39 UU.vm ∧ UU.heap = h0) (fun _ _ _ _ _ => True) (fun _ UU oo UU' => ∃ vr Lr, oo = .returned vr ∧ (Qv (some (.int r)) h0 n0) vr UU'.heap Lr ∧ FrameEnd UU oo UU' Lr ({ frames := 0, cells := 0, slots := 0, locals := 0 } : Room).cells ({ frames := 0, cells := 0, slots := 0, locals := 0 } : Room).slots) := by
  refine MetFree.of_bodySF (plainFor_of_name pn_TypeKind) hisR ?_
  intro p e s m args below meth c s₁ Bd hml0 hP hK
  obtain ⟨rfl, hZ, hh⟩ := hP
  have hx := Bd.exec
  have hby := Bd.bytes
  have hml : c.maxLocals = 1 := hml0
  have hown : s.vm.findClass "com/example/hard_check/hardcheck/TypeKind" = some m.cls := findClass_of_methodNamed Bd.named
  have hnm := (name_of_methodNamed Bd.named Bd.method).1
  have hlk := Bd.notSynchronized
  have X0 : Stand p l e ({ frames := 0, cells := 0, slots := 0, locals := 0 } : Room) s m #[(.ref a1)] below meth c s₁ [] 0 0 := Stand.of_body Bd
  have e0 : s₁.heap = h0 := by rw [← hh, Bd.state]; rfl
  have N0 := Fr.nil n0
  show Owes p e below s (Qv (some (.int r)) h0 n0) ({ frames := 0, cells := 0, slots := 0, locals := 0 } : Room).cells ({ frames := 0, cells := 0, slots := 0, locals := 0 } : Room).slots s₁ (entryFrame m #[(.ref a1)] 1)
  rw [ef_rmC m a1]
  show Owes p e below s (Qv (some (.int r)) h0 n0) ({ frames := 0, cells := 0, slots := 0, locals := 0 } : Room).cells ({ frames := 0, cells := 0, slots := 0, locals := 0 } : Room).slots s₁ (mkF m 0 #[(.val (.ref a1))] [])
  refine Owes.by (fun _ k => XS.aloadN X0.here hx rfl (hb hby d2_0) rfl rfl k) ?_
  show Owes p e below s (Qv (some (.int r)) h0 n0) ({ frames := 0, cells := 0, slots := 0, locals := 0 } : Room).cells ({ frames := 0, cells := 0, slots := 0, locals := 0 } : Room).slots s₁ (mkF m 1 #[(.val (.ref a1))] [(.ref a1)])
  obtain ⟨T1, X1, e1, st1⟩ := getS2 X0 hx hZ hown (host := "") (Or.inl (hw _ (List.mem_of_getElem? (i := 13) rfl))) Via.refl e0 S_OBJECT (g := (mkF m 1 #[(.val (.ref a1))] [(.ref a1)])) rfl (hb hby d2_1)
  refine Owes.by st1 ?_
  show Owes p e below s (Qv (some (.int r)) h0 n0) ({ frames := 0, cells := 0, slots := 0, locals := 0 } : Room).cells ({ frames := 0, cells := 0, slots := 0, locals := 0 } : Room).slots T1 (mkF m 4 #[(.val (.ref a1))] [(.ref w_OBJECT), (.ref a1)])
  by_cases q0 : a1 = w_OBJECT
  · skip
    refine Owes.by (fun _ k => Jvm.RoadKit.acmp (g := (mkF m 4 #[(.val (.ref a1))] [(.ref w_OBJECT), (.ref a1)])) X1 hx rfl rfl rfl (pc0 := 4) (pc' := 21) (same := true) rfl (hb hby d2_4) rfl (decide_eq_true (congrArg Value.ref q0)) (by decide) (by decide) k) ?_
    show Owes p e below s (Qv (some (.int r)) h0 n0) ({ frames := 0, cells := 0, slots := 0, locals := 0 } : Room).cells ({ frames := 0, cells := 0, slots := 0, locals := 0 } : Room).slots T1 (mkF m 21 #[(.val (.ref a1))] [])
    refine Owes.by (fun _ k => XS.iconst X1.here hx rfl (hb hby d2_21) k) ?_
    show Owes p e below s (Qv (some (.int r)) h0 n0) ({ frames := 0, cells := 0, slots := 0, locals := 0 } : Room).cells ({ frames := 0, cells := 0, slots := 0, locals := 0 } : Room).slots T1 (mkF m 22 #[(.val (.ref a1))] [(.int (1 : Int32))])
    refine Owes.by (fun _ k => XS.goto X1.here hx rfl (pc0 := 22) (pc' := 26) rfl (hb hby d2_22) (by decide) (by decide) k) ?_
    show Owes p e below s (Qv (some (.int r)) h0 n0) ({ frames := 0, cells := 0, slots := 0, locals := 0 } : Room).cells ({ frames := 0, cells := 0, slots := 0, locals := 0 } : Room).slots T1 (mkF m 26 #[(.val (.ref a1))] [(.int (1 : Int32))])
    refine Owes.ret X1 (v := some (.int (1 : Int32))) (fun h => by rw [Bd.returns] at h; cases h) hlk ?_ (by decide) (by decide) (fun fs hr => retN X1 hx (t := .boolean) Bd.returns (by simp) (hb hby d2_26) hr)
    rw [e1]
    exact ⟨by rw [← hr]; simp [q0], rfl, rfl⟩
  · skip
    refine Owes.by (fun _ k => Jvm.RoadKit.acmp (g := (mkF m 4 #[(.val (.ref a1))] [(.ref w_OBJECT), (.ref a1)])) X1 hx rfl rfl rfl (pc0 := 4) (pc' := 7) (same := false) rfl (hb hby d2_4) rfl (decide_eq_false fun q => q0 (Value.ref.inj q)) (by decide) (by decide) k) ?_
    show Owes p e below s (Qv (some (.int r)) h0 n0) ({ frames := 0, cells := 0, slots := 0, locals := 0 } : Room).cells ({ frames := 0, cells := 0, slots := 0, locals := 0 } : Room).slots T1 (mkF m 7 #[(.val (.ref a1))] [])
    refine Owes.by (fun _ k => XS.aloadN X1.here hx rfl (hb hby d2_7) rfl rfl k) ?_
    show Owes p e below s (Qv (some (.int r)) h0 n0) ({ frames := 0, cells := 0, slots := 0, locals := 0 } : Room).cells ({ frames := 0, cells := 0, slots := 0, locals := 0 } : Room).slots T1 (mkF m 8 #[(.val (.ref a1))] [(.ref a1)])
    obtain ⟨T2, X2, e2, st2⟩ := getS2 X1 hx hZ hown (host := "") (Or.inl (hw _ (List.mem_of_getElem? (i := 15) rfl))) Via.refl e1 S_INTERFACE (g := (mkF m 8 #[(.val (.ref a1))] [(.ref a1)])) rfl (hb hby d2_8)
    refine Owes.by st2 ?_
    show Owes p e below s (Qv (some (.int r)) h0 n0) ({ frames := 0, cells := 0, slots := 0, locals := 0 } : Room).cells ({ frames := 0, cells := 0, slots := 0, locals := 0 } : Room).slots T2 (mkF m 11 #[(.val (.ref a1))] [(.ref w_INTERFACE), (.ref a1)])
    by_cases q1 : a1 = w_INTERFACE
    · skip
      refine Owes.by (fun _ k => Jvm.RoadKit.acmp (g := (mkF m 11 #[(.val (.ref a1))] [(.ref w_INTERFACE), (.ref a1)])) X2 hx rfl rfl rfl (pc0 := 11) (pc' := 21) (same := true) rfl (hb hby d2_11) rfl (decide_eq_true (congrArg Value.ref q1)) (by decide) (by decide) k) ?_
      show Owes p e below s (Qv (some (.int r)) h0 n0) ({ frames := 0, cells := 0, slots := 0, locals := 0 } : Room).cells ({ frames := 0, cells := 0, slots := 0, locals := 0 } : Room).slots T2 (mkF m 21 #[(.val (.ref a1))] [])
      refine Owes.by (fun _ k => XS.iconst X2.here hx rfl (hb hby d2_21) k) ?_
      show Owes p e below s (Qv (some (.int r)) h0 n0) ({ frames := 0, cells := 0, slots := 0, locals := 0 } : Room).cells ({ frames := 0, cells := 0, slots := 0, locals := 0 } : Room).slots T2 (mkF m 22 #[(.val (.ref a1))] [(.int (1 : Int32))])
      refine Owes.by (fun _ k => XS.goto X2.here hx rfl (pc0 := 22) (pc' := 26) rfl (hb hby d2_22) (by decide) (by decide) k) ?_
      show Owes p e below s (Qv (some (.int r)) h0 n0) ({ frames := 0, cells := 0, slots := 0, locals := 0 } : Room).cells ({ frames := 0, cells := 0, slots := 0, locals := 0 } : Room).slots T2 (mkF m 26 #[(.val (.ref a1))] [(.int (1 : Int32))])
      refine Owes.ret X2 (v := some (.int (1 : Int32))) (fun h => by rw [Bd.returns] at h; cases h) hlk ?_ (by decide) (by decide) (fun fs hr => retN X2 hx (t := .boolean) Bd.returns (by simp) (hb hby d2_26) hr)
      rw [e2]
      exact ⟨by rw [← hr]; simp [q0, q1], rfl, rfl⟩
    · skip
      refine Owes.by (fun _ k => Jvm.RoadKit.acmp (g := (mkF m 11 #[(.val (.ref a1))] [(.ref w_INTERFACE), (.ref a1)])) X2 hx rfl rfl rfl (pc0 := 11) (pc' := 14) (same := false) rfl (hb hby d2_11) rfl (decide_eq_false fun q => q1 (Value.ref.inj q)) (by decide) (by decide) k) ?_
      show Owes p e below s (Qv (some (.int r)) h0 n0) ({ frames := 0, cells := 0, slots := 0, locals := 0 } : Room).cells ({ frames := 0, cells := 0, slots := 0, locals := 0 } : Room).slots T2 (mkF m 14 #[(.val (.ref a1))] [])
      refine Owes.by (fun _ k => XS.aloadN X2.here hx rfl (hb hby d2_14) rfl rfl k) ?_
      show Owes p e below s (Qv (some (.int r)) h0 n0) ({ frames := 0, cells := 0, slots := 0, locals := 0 } : Room).cells ({ frames := 0, cells := 0, slots := 0, locals := 0 } : Room).slots T2 (mkF m 15 #[(.val (.ref a1))] [(.ref a1)])
      obtain ⟨T3, X3, e3, st3⟩ := getS2 X2 hx hZ hown (host := "") (Or.inl (hw _ (List.mem_of_getElem? (i := 17) rfl))) Via.refl e2 S_UNION (g := (mkF m 15 #[(.val (.ref a1))] [(.ref a1)])) rfl (hb hby d2_15)
      refine Owes.by st3 ?_
      show Owes p e below s (Qv (some (.int r)) h0 n0) ({ frames := 0, cells := 0, slots := 0, locals := 0 } : Room).cells ({ frames := 0, cells := 0, slots := 0, locals := 0 } : Room).slots T3 (mkF m 18 #[(.val (.ref a1))] [(.ref w_UNION), (.ref a1)])
      by_cases q2 : a1 = w_UNION
      · skip
        refine Owes.by (fun _ k => Jvm.RoadKit.acmp (g := (mkF m 18 #[(.val (.ref a1))] [(.ref w_UNION), (.ref a1)])) X3 hx rfl rfl rfl (pc0 := 18) (pc' := 21) (same := true) rfl (hb hby d2_18) rfl (decide_eq_true (congrArg Value.ref q2)) (by decide) (by decide) k) ?_
        show Owes p e below s (Qv (some (.int r)) h0 n0) ({ frames := 0, cells := 0, slots := 0, locals := 0 } : Room).cells ({ frames := 0, cells := 0, slots := 0, locals := 0 } : Room).slots T3 (mkF m 21 #[(.val (.ref a1))] [])
        refine Owes.by (fun _ k => XS.iconst X3.here hx rfl (hb hby d2_21) k) ?_
        show Owes p e below s (Qv (some (.int r)) h0 n0) ({ frames := 0, cells := 0, slots := 0, locals := 0 } : Room).cells ({ frames := 0, cells := 0, slots := 0, locals := 0 } : Room).slots T3 (mkF m 22 #[(.val (.ref a1))] [(.int (1 : Int32))])
        refine Owes.by (fun _ k => XS.goto X3.here hx rfl (pc0 := 22) (pc' := 26) rfl (hb hby d2_22) (by decide) (by decide) k) ?_
        show Owes p e below s (Qv (some (.int r)) h0 n0) ({ frames := 0, cells := 0, slots := 0, locals := 0 } : Room).cells ({ frames := 0, cells := 0, slots := 0, locals := 0 } : Room).slots T3 (mkF m 26 #[(.val (.ref a1))] [(.int (1 : Int32))])
        refine Owes.ret X3 (v := some (.int (1 : Int32))) (fun h => by rw [Bd.returns] at h; cases h) hlk ?_ (by decide) (by decide) (fun fs hr => retN X3 hx (t := .boolean) Bd.returns (by simp) (hb hby d2_26) hr)
        rw [e3]
        exact ⟨by rw [← hr]; simp [q0, q1, q2], rfl, rfl⟩
      · skip
        refine Owes.by (fun _ k => Jvm.RoadKit.acmp (g := (mkF m 18 #[(.val (.ref a1))] [(.ref w_UNION), (.ref a1)])) X3 hx rfl rfl rfl (pc0 := 18) (pc' := 25) (same := false) rfl (hb hby d2_18) rfl (decide_eq_false fun q => q2 (Value.ref.inj q)) (by decide) (by decide) k) ?_
        show Owes p e below s (Qv (some (.int r)) h0 n0) ({ frames := 0, cells := 0, slots := 0, locals := 0 } : Room).cells ({ frames := 0, cells := 0, slots := 0, locals := 0 } : Room).slots T3 (mkF m 25 #[(.val (.ref a1))] [])
        refine Owes.by (fun _ k => XS.iconst X3.here hx rfl (hb hby d2_25) k) ?_
        show Owes p e below s (Qv (some (.int r)) h0 n0) ({ frames := 0, cells := 0, slots := 0, locals := 0 } : Room).cells ({ frames := 0, cells := 0, slots := 0, locals := 0 } : Room).slots T3 (mkF m 26 #[(.val (.ref a1))] [(.int (0 : Int32))])
        refine Owes.ret X3 (v := some (.int (0 : Int32))) (fun h => by rw [Bd.returns] at h; cases h) hlk ?_ (by decide) (by decide) (fun fs hr => retN X3 hx (t := .boolean) Bd.returns (by simp) (hb hby d2_26) hr)
        rw [e3]
        exact ⟨by rw [← hr]; simp [q0, q1, q2], rfl, rfl⟩
theorem ef_rmU (m : MethodId) (x0 : Addr) : entryFrame m #[(.ref x0)] 1 = mkF m 0 #[(.val (.ref x0))] [] := by first | (simp [entryFrame, mkF, argsToLocals, Value.category]; done) | rfl
set_option maxRecDepth 65536 in
set_option maxHeartbeats 40000000 in
theorem rmU (l : Launch) (Z : State) (a0 : Array Value) (hw : ∀ d ∈ tables_1, d.before a0 Z = true) (ws : List Jvm.Cond) (a1 : Addr) (o : Int32) (h0 : Heap) (n0 : Nat) (Z0 : n0 ≤ h0.size) (F : Fld Z h0 a1 "com/example/hard_check/hardcheck/TypeKind" "outputType" "Z" (.int o)) (hb1 : nar .boolean o = o) :
    MetFree l (⟨"com/example/hard_check/hardcheck/TypeKind", "outputType", "()Z"⟩ : MethodName) (head1 (Jvm.Cond.code (⟨"com/example/hard_check/hardcheck/TypeKind", "outputType", "()Z"⟩ : MethodName) prog_118_method_9_code 1 (some .boolean) :: ws) ({ frames := 0, cells := 0, slots := 0, locals := 0 } : Room)) (fun aa UU => aa = #[(.ref a1)] ∧ Z.Warmed39 UU.vm ∧ UU.heap = h0) (fun _ _ _ _ _ => True) (fun _ UU oo UU' => ∃ vr Lr, oo = .returned vr ∧ (Qv (some (.int o)) h0 n0) vr UU'.heap Lr ∧ FrameEnd UU oo UU' Lr ({ frames := 0, cells := 0, slots := 0, locals := 0 } : Room).cells ({ frames := 0, cells := 0, slots := 0, locals := 0 } : Room).slots) := by
  refine MetFree.of_bodySF (plainFor_of_name pn_TypeKind) hisR ?_
  intro p e s m args below meth c s₁ Bd hml0 hP hK
  obtain ⟨rfl, hZ, hh⟩ := hP
  have hx := Bd.exec
  have hby := Bd.bytes
  have hml : c.maxLocals = 1 := hml0
  have hown : s.vm.findClass "com/example/hard_check/hardcheck/TypeKind" = some m.cls := findClass_of_methodNamed Bd.named
  have hnm := (name_of_methodNamed Bd.named Bd.method).1
  have hlk := Bd.notSynchronized
  have X0 : Stand p l e ({ frames := 0, cells := 0, slots := 0, locals := 0 } : Room) s m #[(.ref a1)] below meth c s₁ [] 0 0 := Stand.of_body Bd
  have e0 : s₁.heap = h0 := by rw [← hh, Bd.state]; rfl
  have N0 := Fr.nil n0
  show Owes p e below s (Qv (some (.int o)) h0 n0) ({ frames := 0, cells := 0, slots := 0, locals := 0 } : Room).cells ({ frames := 0, cells := 0, slots := 0, locals := 0 } : Room).slots s₁ (entryFrame m #[(.ref a1)] 1)
  rw [ef_rmU m a1]
  show Owes p e below s (Qv (some (.int o)) h0 n0) ({ frames := 0, cells := 0, slots := 0, locals := 0 } : Room).cells ({ frames := 0, cells := 0, slots := 0, locals := 0 } : Room).slots s₁ (mkF m 0 #[(.val (.ref a1))] [])
  refine Owes.by (fun _ k => XS.aloadN X0.here hx rfl (hb hby d3_0) rfl rfl k) ?_
  show Owes p e below s (Qv (some (.int o)) h0 n0) ({ frames := 0, cells := 0, slots := 0, locals := 0 } : Room).cells ({ frames := 0, cells := 0, slots := 0, locals := 0 } : Room).slots s₁ (mkF m 1 #[(.val (.ref a1))] [(.ref a1)])
  obtain ⟨T1, X1, e1, st1⟩ := getF X0 hx hZ hown (host := "") (Or.inl (hw _ (List.mem_of_getElem? (i := 24) rfl))) Via.refl e0 F (g := (mkF m 1 #[(.val (.ref a1))] [(.ref a1)])) rfl rfl (hb hby d3_1)
  refine Owes.by st1 ?_
  show Owes p e below s (Qv (some (.int o)) h0 n0) ({ frames := 0, cells := 0, slots := 0, locals := 0 } : Room).cells ({ frames := 0, cells := 0, slots := 0, locals := 0 } : Room).slots T1 (mkF m 4 #[(.val (.ref a1))] [(.int o)])
  refine Owes.ret X1 (v := some (.int (nar .boolean o))) (fun h => by rw [Bd.returns] at h; cases h) hlk ?_ (by decide) (by decide) (fun fs hr => retN X1 hx (t := .boolean) Bd.returns (by simp) (hb hby d3_4) hr)
  rw [e1]
  exact ⟨by rw [hb1], rfl, rfl⟩
theorem ef_rmI (m : MethodId) (x0 : Addr) : entryFrame m #[(.ref x0)] 1 = mkF m 0 #[(.val (.ref x0))] [] := by first | (simp [entryFrame, mkF, argsToLocals, Value.category]; done) | rfl
set_option maxRecDepth 65536 in
set_option maxHeartbeats 40000000 in
theorem rmI (l : Launch) (Z : State) (a0 : Array Value) (hw : ∀ d ∈ tables_1, d.before a0 Z = true) (ws : List Jvm.Cond) (a1 : Addr) (o : Int32) (h0 : Heap) (n0 : Nat) (Z0 : n0 ≤ h0.size) (F : Fld Z h0 a1 "com/example/hard_check/hardcheck/TypeKind" "inputType" "Z" (.int o)) (hb1 : nar .boolean o = o) :
    MetFree l (⟨"com/example/hard_check/hardcheck/TypeKind", "inputType", "()Z"⟩ : MethodName) (head1 (Jvm.Cond.code (⟨"com/example/hard_check/hardcheck/TypeKind", "inputType", "()Z"⟩ : MethodName) prog_118_method_8_code 1 (some .boolean) :: ws) ({ frames := 0, cells := 0, slots := 0, locals := 0 } : Room)) (fun aa UU => aa = #[(.ref a1)] ∧ Z.Warmed39 UU.vm ∧ UU.heap = h0) (fun _ _ _ _ _ => True) (fun _ UU oo UU' => ∃ vr Lr, oo = .returned vr ∧ (Qv (some (.int o)) h0 n0) vr UU'.heap Lr ∧ FrameEnd UU oo UU' Lr ({ frames := 0, cells := 0, slots := 0, locals := 0 } : Room).cells ({ frames := 0, cells := 0, slots := 0, locals := 0 } : Room).slots) := by
  refine MetFree.of_bodySF (plainFor_of_name pn_TypeKind) hisR ?_
  intro p e s m args below meth c s₁ Bd hml0 hP hK
  obtain ⟨rfl, hZ, hh⟩ := hP
  have hx := Bd.exec
  have hby := Bd.bytes
  have hml : c.maxLocals = 1 := hml0
  have hown : s.vm.findClass "com/example/hard_check/hardcheck/TypeKind" = some m.cls := findClass_of_methodNamed Bd.named
  have hnm := (name_of_methodNamed Bd.named Bd.method).1
  have hlk := Bd.notSynchronized
  have X0 : Stand p l e ({ frames := 0, cells := 0, slots := 0, locals := 0 } : Room) s m #[(.ref a1)] below meth c s₁ [] 0 0 := Stand.of_body Bd
  have e0 : s₁.heap = h0 := by rw [← hh, Bd.state]; rfl
  have N0 := Fr.nil n0
  show Owes p e below s (Qv (some (.int o)) h0 n0) ({ frames := 0, cells := 0, slots := 0, locals := 0 } : Room).cells ({ frames := 0, cells := 0, slots := 0, locals := 0 } : Room).slots s₁ (entryFrame m #[(.ref a1)] 1)
  rw [ef_rmI m a1]
  show Owes p e below s (Qv (some (.int o)) h0 n0) ({ frames := 0, cells := 0, slots := 0, locals := 0 } : Room).cells ({ frames := 0, cells := 0, slots := 0, locals := 0 } : Room).slots s₁ (mkF m 0 #[(.val (.ref a1))] [])
  refine Owes.by (fun _ k => XS.aloadN X0.here hx rfl (hb hby d4_0) rfl rfl k) ?_
  show Owes p e below s (Qv (some (.int o)) h0 n0) ({ frames := 0, cells := 0, slots := 0, locals := 0 } : Room).cells ({ frames := 0, cells := 0, slots := 0, locals := 0 } : Room).slots s₁ (mkF m 1 #[(.val (.ref a1))] [(.ref a1)])
  obtain ⟨T1, X1, e1, st1⟩ := getF X0 hx hZ hown (host := "") (Or.inl (hw _ (List.mem_of_getElem? (i := 31) rfl))) Via.refl e0 F (g := (mkF m 1 #[(.val (.ref a1))] [(.ref a1)])) rfl rfl (hb hby d4_1)
  refine Owes.by st1 ?_
  show Owes p e below s (Qv (some (.int o)) h0 n0) ({ frames := 0, cells := 0, slots := 0, locals := 0 } : Room).cells ({ frames := 0, cells := 0, slots := 0, locals := 0 } : Room).slots T1 (mkF m 4 #[(.val (.ref a1))] [(.int o)])
  refine Owes.ret X1 (v := some (.int (nar .boolean o))) (fun h => by rw [Bd.returns] at h; cases h) hlk ?_ (by decide) (by decide) (fun fs hr => retN X1 hx (t := .boolean) Bd.returns (by simp) (hb hby d4_4) hr)
  rw [e1]
  exact ⟨by rw [hb1], rfl, rfl⟩
theorem ef_rm0 (m : MethodId) (x0 : Int32) : entryFrame m #[(.int x0)] maxLocals = mkF m 0 #[(.val (.int x0)), .unset, .unset, .unset, .unset, .unset] [] := by first | (simp [entryFrame, mkF, argsToLocals, Value.category, maxLocals]; done) | rfl
set_option maxRecDepth 65536 in
set_option maxHeartbeats 40000000 in
theorem rm0 (l : Launch) (Z : State) (a0 : Array Value) (hw : ∀ d ∈ tables_1, d.before a0 Z = true) (ws : List Jvm.Cond) (p0 : Int32) (w_SCALAR w_OBJECT w_INTERFACE w_UNION w_ENUM w_INPUT_OBJECT : Addr) (h0 : Heap) (n0 : Nat) (Z0 : n0 ≤ h0.size) (S_SCALAR : Sta Z h0 "com/example/hard_check/hardcheck/TypeKind" "SCALAR" "Lcom/example/hard_check/hardcheck/TypeKind;" (.ref w_SCALAR)) (S_OBJECT : Sta Z h0 "com/example/hard_check/hardcheck/TypeKind" "OBJECT" "Lcom/example/hard_check/hardcheck/TypeKind;" (.ref w_OBJECT)) (S_INTERFACE : Sta Z h0 "com/example/hard_check/hardcheck/TypeKind" "INTERFACE" "Lcom/example/hard_check/hardcheck/TypeKind;" (.ref w_INTERFACE)) (S_UNION : Sta Z h0 "com/example/hard_check/hardcheck/TypeKind" "UNION" "Lcom/example/hard_check/hardcheck/TypeKind;" (.ref w_UNION)) (S_ENUM : Sta Z h0 "com/example/hard_check/hardcheck/TypeKind" "ENUM" "Lcom/example/hard_check/hardcheck/TypeKind;" (.ref w_ENUM)) (S_INPUT_OBJECT : Sta Z h0 "com/example/hard_check/hardcheck/TypeKind" "INPUT_OBJECT" "Lcom/example/hard_check/hardcheck/TypeKind;" (.ref w_INPUT_OBJECT)) (E_SCALAR : Exa Z h0 w_SCALAR "com/example/hard_check/hardcheck/TypeKind") (E_OBJECT : Exa Z h0 w_OBJECT "com/example/hard_check/hardcheck/TypeKind") (E_INTERFACE : Exa Z h0 w_INTERFACE "com/example/hard_check/hardcheck/TypeKind") (E_UNION : Exa Z h0 w_UNION "com/example/hard_check/hardcheck/TypeKind") (E_ENUM : Exa Z h0 w_ENUM "com/example/hard_check/hardcheck/TypeKind") (E_INPUT_OBJECT : Exa Z h0 w_INPUT_OBJECT "com/example/hard_check/hardcheck/TypeKind") (F_SCALAR_outputType : Fld Z h0 w_SCALAR "com/example/hard_check/hardcheck/TypeKind" "outputType" "Z" (.int 1)) (F_SCALAR_inputType : Fld Z h0 w_SCALAR "com/example/hard_check/hardcheck/TypeKind" "inputType" "Z" (.int 1)) (F_OBJECT_outputType : Fld Z h0 w_OBJECT "com/example/hard_check/hardcheck/TypeKind" "outputType" "Z" (.int 1)) (F_OBJECT_inputType : Fld Z h0 w_OBJECT "com/example/hard_check/hardcheck/TypeKind" "inputType" "Z" (.int 0)) (F_INTERFACE_outputType : Fld Z h0 w_INTERFACE "com/example/hard_check/hardcheck/TypeKind" "outputType" "Z" (.int 1)) (F_INTERFACE_inputType : Fld Z h0 w_INTERFACE "com/example/hard_check/hardcheck/TypeKind" "inputType" "Z" (.int 0)) (F_UNION_outputType : Fld Z h0 w_UNION "com/example/hard_check/hardcheck/TypeKind" "outputType" "Z" (.int 1)) (F_UNION_inputType : Fld Z h0 w_UNION "com/example/hard_check/hardcheck/TypeKind" "inputType" "Z" (.int 0)) (F_ENUM_outputType : Fld Z h0 w_ENUM "com/example/hard_check/hardcheck/TypeKind" "outputType" "Z" (.int 1)) (F_ENUM_inputType : Fld Z h0 w_ENUM "com/example/hard_check/hardcheck/TypeKind" "inputType" "Z" (.int 1)) (F_INPUT_OBJECT_outputType : Fld Z h0 w_INPUT_OBJECT "com/example/hard_check/hardcheck/TypeKind" "outputType" "Z" (.int 0)) (F_INPUT_OBJECT_inputType : Fld Z h0 w_INPUT_OBJECT "com/example/hard_check/hardcheck/TypeKind" "inputType" "Z" (.int 1)) (n_SCALAR_OBJECT : w_SCALAR ≠ w_OBJECT) (n_SCALAR_INTERFACE : w_SCALAR ≠ w_INTERFACE) (n_SCALAR_UNION : w_SCALAR ≠ w_UNION) (n_ENUM_OBJECT : w_ENUM ≠ w_OBJECT) (n_ENUM_INTERFACE : w_ENUM ≠ w_INTERFACE) (n_ENUM_UNION : w_ENUM ≠ w_UNION) (n_INPUT_OBJECT_OBJECT : w_INPUT_OBJECT ≠ w_OBJECT) (n_INPUT_OBJECT_INTERFACE : w_INPUT_OBJECT ≠ w_INTERFACE) (n_INPUT_OBJECT_UNION : w_INPUT_OBJECT ≠ w_UNION) :
    MetFree l x (head1 (Jvm.Cond.code x code maxLocals ret :: ws) room_1) (fun aa UU => aa = #[(.int p0)] ∧ Z.Warmed39 UU.vm ∧ UU.heap = h0) (fun _ _ _ _ _ => True) (fun _ UU oo UU' => ∃ vr Lr, oo = .returned vr ∧ (QL n0) vr UU'.heap Lr ∧ FrameEnd UU oo UU' Lr room_1.cells room_1.slots) := by
  refine MetFree.of_bodySF (plainFor_of_name pn_TypeKindCompositePinLaw) hisR ?_
  intro p e s m args below meth c s₁ Bd hml0 hP hK
  obtain ⟨rfl, hZ, hh⟩ := hP
  have hx := Bd.exec
  have hby := Bd.bytes
  have hml : c.maxLocals = 6 := hml0
  have hown : s.vm.findClass "com/example/hard_check/hardcheck/TypeKindCompositePinLaw" = some m.cls := findClass_of_methodNamed Bd.named
  have hnm := (name_of_methodNamed Bd.named Bd.method).1
  have hlk := Bd.notSynchronized
  have X0 : Stand p l e room_1 s m #[(.int p0)] below meth c s₁ [] 0 0 := Stand.of_body Bd
  have e0 : s₁.heap = h0 := by rw [← hh, Bd.state]; rfl
  have N0 := Fr.nil n0
  show Owes p e below s (QL n0) room_1.cells room_1.slots s₁ (entryFrame m #[(.int p0)] maxLocals)
  rw [ef_rm0 m p0]
  show Owes p e below s (QL n0) room_1.cells room_1.slots s₁ (mkF m 0 #[(.val (.int p0)), .unset, .unset, .unset, .unset, .unset] [])
  refine Owes.by (fun _ k => XS.iloadN X0.here hx rfl (hb hby at_0) rfl k) ?_
  show Owes p e below s (QL n0) room_1.cells room_1.slots s₁ (mkF m 1 #[(.val (.int p0)), .unset, .unset, .unset, .unset, .unset] [(.int p0)])
  refine Owes.by (fun t k => X0.ldcInt hx hown (mvT hZ (hw _ (List.mem_of_getElem? (i := 0) rfl))) (g := (mkF m 1 #[(.val (.int p0)), .unset, .unset, .unset, .unset, .unset] [(.int p0)])) rfl (hb hby at_1) t k) ?_
  show Owes p e below s (QL n0) room_1.cells room_1.slots s₁ (mkF m 3 #[(.val (.int p0)), .unset, .unset, .unset, .unset, .unset] [(.int (2147483647 : Int32)), (.int p0)])
  refine Owes.by (fun _ k => XS.iand X0.here hx rfl (hb hby at_3) rfl k) ?_
  show Owes p e below s (QL n0) room_1.cells room_1.slots s₁ (mkF m 4 #[(.val (.int p0)), .unset, .unset, .unset, .unset, .unset] [(.int (p0 &&& (2147483647 : Int32)))])
  refine Owes.by (fun _ k => XS.bipush X0.here hx rfl (hb hby at_4) k) ?_
  show Owes p e below s (QL n0) room_1.cells room_1.slots s₁ (mkF m 6 #[(.val (.int p0)), .unset, .unset, .unset, .unset, .unset] [(.int (6 : Int32)), (.int (p0 &&& (2147483647 : Int32)))])
  refine Owes.by (fun _ k => iremM X0 hx rfl (hb hby at_6) rfl (by decide) k) ?_
  show Owes p e below s (QL n0) room_1.cells room_1.slots s₁ (mkF m 7 #[(.val (.int p0)), .unset, .unset, .unset, .unset, .unset] [(.int ((p0 &&& (2147483647 : Int32)) % (6 : Int32)))])
  rcases own_mod6 p0 with q | q | q | q | q | q
  · rw [q]
    show Owes p e below s (QL n0) room_1.cells room_1.slots s₁ (mkF m 7 #[(.val (.int p0)), .unset, .unset, .unset, .unset, .unset] [(.int (0 : Int32))])
    refine Owes.by (fun _ k => XS.istoreN X0.here hx rfl (hb hby at_7) rfl (l' := #[(.val (.int p0)), (.val (.int (0 : Int32))), .unset, .unset, .unset, .unset]) rfl k) ?_
    show Owes p e below s (QL n0) room_1.cells room_1.slots s₁ (mkF m 8 #[(.val (.int p0)), (.val (.int (0 : Int32))), .unset, .unset, .unset, .unset] [])
    refine Owes.by (fun _ k => XS.iloadN X0.here hx rfl (hb hby at_8) rfl k) ?_
    show Owes p e below s (QL n0) room_1.cells room_1.slots s₁ (mkF m 9 #[(.val (.int p0)), (.val (.int (0 : Int32))), .unset, .unset, .unset, .unset] [(.int (0 : Int32))])
    obtain ⟨_, _, ⟨T1, L1, k1, n1⟩, -, X1, ⟨Lc1, hQ1, l1, y1, z1⟩, st1⟩ := Jvm.LawKit.callS X0 hx (y := (⟨"com/example/hard_check/hardcheck/TypeKindCompositePinLaw", "pick", "(I)Lcom/example/hard_check/hardcheck/TypeKind;"⟩ : MethodName)) hown (mvT hZ (hw _ (List.mem_of_getElem? (i := 1) rfl))) (mvT hZ (hw _ (List.mem_of_getElem? (i := 2) rfl))) (mvT hZ (hw _ (List.mem_of_getElem? (i := 3) rfl))) (mvT hZ (hw _ (List.mem_of_getElem? (i := 4) rfl))) (by decide) (backOf (W := 0) (rmP l Z a0 hw [] 0 w_SCALAR w_OBJECT w_INTERFACE w_UNION w_ENUM w_INPUT_OBJECT w_SCALAR h0 n0 Z0 S_SCALAR S_OBJECT S_INTERFACE S_UNION S_ENUM S_INPUT_OBJECT (by simp +decide)) hZ (hw _ (List.mem_of_getElem? (i := 4) rfl)) (hw _ (List.mem_of_getElem? (i := 3) rfl)) (by decide) (by decide)) (g := (mkF m 9 #[(.val (.int p0)), (.val (.int (0 : Int32))), .unset, .unset, .unset, .unset] [(.int (0 : Int32))])) rfl (by rw [hml]; rfl) (argsL := [(.int (0 : Int32))]) (rest := []) (lenOf pd_I_Lcom_example_hard_check_hardcheck_TypeKind rfl) rfl (by show 2 * 0 + _ ≤ _; exact Nat.le_of_eq rfl) (hb hby at_9) (fun _ _ => ⟨rfl, e0, (by decide : 0 + 0 ≤ _), (by decide : 0 + 0 ≤ _)⟩)
    dsimp only [Pt.U, Pt.locs, Pt.cells, Pt.slots] at X1 l1 y1 z1 st1 hQ1
    subst l1 y1 z1
    obtain ⟨rfl, rfl, e1⟩ := hQ1
    try rw [List.append_nil] at X1
    refine Owes.by st1 ?_
    show Owes p e below s (QL n0) room_1.cells room_1.slots T1 (mkF m 12 #[(.val (.int p0)), (.val (.int (0 : Int32))), .unset, .unset, .unset, .unset] [(.ref w_SCALAR)])
    refine Owes.by (fun _ k => XS.astoreN X1.here hx rfl (hb hby at_12) rfl rfl (l' := #[(.val (.int p0)), (.val (.int (0 : Int32))), (.val (.ref w_SCALAR)), .unset, .unset, .unset]) rfl k) ?_
    show Owes p e below s (QL n0) room_1.cells room_1.slots T1 (mkF m 13 #[(.val (.int p0)), (.val (.int (0 : Int32))), (.val (.ref w_SCALAR)), .unset, .unset, .unset] [])
    refine Owes.by (fun _ k => XS.iloadN X1.here hx rfl (hb hby at_13) rfl k) ?_
    show Owes p e below s (QL n0) room_1.cells room_1.slots T1 (mkF m 14 #[(.val (.int p0)), (.val (.int (0 : Int32))), (.val (.ref w_SCALAR)), .unset, .unset, .unset] [(.int (0 : Int32))])
    refine Owes.by (fun _ k => XS.iconst X1.here hx rfl (hb hby at_14) k) ?_
    show Owes p e below s (QL n0) room_1.cells room_1.slots T1 (mkF m 15 #[(.val (.int p0)), (.val (.int (0 : Int32))), (.val (.ref w_SCALAR)), .unset, .unset, .unset] [(.int (1 : Int32)), (.int (0 : Int32))])
    refine Owes.by (fun _ k => XS.icmpYes X1.here hx rfl (pc0 := 15) (pc' := 27) rfl (hb hby at_15) rfl (XT.ii_lt_t (by decide)) (by decide) (by decide) k) ?_
    show Owes p e below s (QL n0) room_1.cells room_1.slots T1 (mkF m 27 #[(.val (.int p0)), (.val (.int (0 : Int32))), (.val (.ref w_SCALAR)), .unset, .unset, .unset] [])
    refine Owes.by (fun _ k => XS.iconst X1.here hx rfl (hb hby at_27) k) ?_
    show Owes p e below s (QL n0) room_1.cells room_1.slots T1 (mkF m 28 #[(.val (.int p0)), (.val (.int (0 : Int32))), (.val (.ref w_SCALAR)), .unset, .unset, .unset] [(.int (0 : Int32))])
    refine Owes.by (fun _ k => XS.istoreN X1.here hx rfl (hb hby at_28) rfl (l' := #[(.val (.int p0)), (.val (.int (0 : Int32))), (.val (.ref w_SCALAR)), (.val (.int (0 : Int32))), .unset, .unset]) rfl k) ?_
    show Owes p e below s (QL n0) room_1.cells room_1.slots T1 (mkF m 29 #[(.val (.int p0)), (.val (.int (0 : Int32))), (.val (.ref w_SCALAR)), (.val (.int (0 : Int32))), .unset, .unset] [])
    refine Owes.by (fun _ k => XS.aloadN X1.here hx rfl (hb hby at_29) rfl rfl k) ?_
    show Owes p e below s (QL n0) room_1.cells room_1.slots T1 (mkF m 30 #[(.val (.int p0)), (.val (.int (0 : Int32))), (.val (.ref w_SCALAR)), (.val (.int (0 : Int32))), .unset, .unset] [(.ref w_SCALAR)])
    obtain ⟨cq2, kq2, qa2, qb2, qc2⟩ := isOf hZ e1 E_SCALAR
    obtain ⟨_, _, ⟨T2, L2, k2, n2⟩, -, X2, ⟨Lc2, hQ2, l2, y2, z2⟩, st2⟩ := X1.virtualBack hx (y := (⟨"com/example/hard_check/hardcheck/TypeKind", "composite", "()Z"⟩ : MethodName)) (z := (⟨"com/example/hard_check/hardcheck/TypeKind", "composite", "()Z"⟩ : MethodName)) hown (mvT hZ (hw _ (List.mem_of_getElem? (i := 8) rfl))) (mvT hZ (hw _ (List.mem_of_getElem? (i := 9) rfl))) (notFace_of_selects (args := #[]) (mvT hZ (hw _ (List.mem_of_getElem? (i := 11) rfl)))) (mvT hZ (hw _ (List.mem_of_getElem? (i := 11) rfl))) (mvT hZ (hw _ (List.mem_of_getElem? (i := 10) rfl))) (by decide) (backOf (W := 0) (rmC l Z a0 hw [] w_SCALAR w_OBJECT w_INTERFACE w_UNION 0 h0 n0 Z0 S_OBJECT S_INTERFACE S_UNION (by simp [n_SCALAR_OBJECT, n_SCALAR_INTERFACE, n_SCALAR_UNION])) hZ (hw _ (List.mem_of_getElem? (i := 12) rfl)) (hw _ (List.mem_of_getElem? (i := 6) rfl)) (by decide) (by decide)) qa2 qc2 (g := (mkF m 30 #[(.val (.int p0)), (.val (.int (0 : Int32))), (.val (.ref w_SCALAR)), (.val (.int (0 : Int32))), .unset, .unset] [(.ref w_SCALAR)])) rfl (by rw [hml]; rfl) (Steps.refl _) (argsL := []) (rest := []) (lenOf pd_Z rfl) rfl (by show 2 * 0 + _ ≤ _; exact Nat.le_of_eq rfl) (hb hby at_30) (fun _ _ => ⟨rfl, e1, (by decide : 0 + 0 ≤ _), (by decide : 0 + 0 ≤ _)⟩)
    dsimp only [Pt.U, Pt.locs, Pt.cells, Pt.slots] at X2 l2 y2 z2 st2 hQ2
    subst l2 y2 z2
    obtain ⟨rfl, rfl, e2⟩ := hQ2
    try rw [List.append_nil] at X2
    refine Owes.by (fun _ k => st2.trans k) ?_
    show Owes p e below s (QL n0) room_1.cells room_1.slots T2 (mkF m 33 #[(.val (.int p0)), (.val (.int (0 : Int32))), (.val (.ref w_SCALAR)), (.val (.int (0 : Int32))), .unset, .unset] [(.int (0 : Int32))])
    refine Owes.by (fun _ k => XS.istore X2.here hx rfl (hb hby at_33) rfl (l' := #[(.val (.int p0)), (.val (.int (0 : Int32))), (.val (.ref w_SCALAR)), (.val (.int (0 : Int32))), (.val (.int (0 : Int32))), .unset]) rfl k) ?_
    show Owes p e below s (QL n0) room_1.cells room_1.slots T2 (mkF m 35 #[(.val (.int p0)), (.val (.int (0 : Int32))), (.val (.ref w_SCALAR)), (.val (.int (0 : Int32))), (.val (.int (0 : Int32))), .unset] [])
    refine Owes.by (fun _ k => XS.aloadN X2.here hx rfl (hb hby at_35) rfl rfl k) ?_
    show Owes p e below s (QL n0) room_1.cells room_1.slots T2 (mkF m 36 #[(.val (.int p0)), (.val (.int (0 : Int32))), (.val (.ref w_SCALAR)), (.val (.int (0 : Int32))), (.val (.int (0 : Int32))), .unset] [(.ref w_SCALAR)])
    obtain ⟨cq3, kq3, qa3, qb3, qc3⟩ := isOf hZ e2 E_SCALAR
    obtain ⟨_, _, ⟨T3, L3, k3, n3⟩, -, X3, ⟨Lc3, hQ3, l3, y3, z3⟩, st3⟩ := X2.virtualBack hx (y := (⟨"com/example/hard_check/hardcheck/TypeKind", "outputType", "()Z"⟩ : MethodName)) (z := (⟨"com/example/hard_check/hardcheck/TypeKind", "outputType", "()Z"⟩ : MethodName)) hown (mvT hZ (hw _ (List.mem_of_getElem? (i := 19) rfl))) (mvT hZ (hw _ (List.mem_of_getElem? (i := 20) rfl))) (notFace_of_selects (args := #[]) (mvT hZ (hw _ (List.mem_of_getElem? (i := 22) rfl)))) (mvT hZ (hw _ (List.mem_of_getElem? (i := 22) rfl))) (mvT hZ (hw _ (List.mem_of_getElem? (i := 21) rfl))) (by decide) (backOf (W := 0) (rmU l Z a0 hw [] w_SCALAR 1 h0 n0 Z0 F_SCALAR_outputType (by decide)) hZ (hw _ (List.mem_of_getElem? (i := 23) rfl)) (hw _ (List.mem_of_getElem? (i := 6) rfl)) (by decide) (by decide)) qa3 qc3 (g := (mkF m 36 #[(.val (.int p0)), (.val (.int (0 : Int32))), (.val (.ref w_SCALAR)), (.val (.int (0 : Int32))), (.val (.int (0 : Int32))), .unset] [(.ref w_SCALAR)])) rfl (by rw [hml]; rfl) (Steps.refl _) (argsL := []) (rest := []) (lenOf pd_Z rfl) rfl (by show 2 * 0 + _ ≤ _; exact Nat.le_of_eq rfl) (hb hby at_36) (fun _ _ => ⟨rfl, e2, (by decide : 0 + 0 ≤ _), (by decide : 0 + 0 ≤ _)⟩)
    dsimp only [Pt.U, Pt.locs, Pt.cells, Pt.slots] at X3 l3 y3 z3 st3 hQ3
    subst l3 y3 z3
    obtain ⟨rfl, rfl, e3⟩ := hQ3
    try rw [List.append_nil] at X3
    refine Owes.by (fun _ k => st3.trans k) ?_
    show Owes p e below s (QL n0) room_1.cells room_1.slots T3 (mkF m 39 #[(.val (.int p0)), (.val (.int (0 : Int32))), (.val (.ref w_SCALAR)), (.val (.int (0 : Int32))), (.val (.int (0 : Int32))), .unset] [(.int (1 : Int32))])
    refine Owes.by (fun _ k => XS.ifNo X3.here hx rfl (hb hby at_39) rfl (XT.i0_eq_f (by decide)) k) ?_
    show Owes p e below s (QL n0) room_1.cells room_1.slots T3 (mkF m 42 #[(.val (.int p0)), (.val (.int (0 : Int32))), (.val (.ref w_SCALAR)), (.val (.int (0 : Int32))), (.val (.int (0 : Int32))), .unset] [])
    refine Owes.by (fun _ k => XS.aloadN X3.here hx rfl (hb hby at_42) rfl rfl k) ?_
    show Owes p e below s (QL n0) room_1.cells room_1.slots T3 (mkF m 43 #[(.val (.int p0)), (.val (.int (0 : Int32))), (.val (.ref w_SCALAR)), (.val (.int (0 : Int32))), (.val (.int (0 : Int32))), .unset] [(.ref w_SCALAR)])
    obtain ⟨cq4, kq4, qa4, qb4, qc4⟩ := isOf hZ e3 E_SCALAR
    obtain ⟨_, _, ⟨T4, L4, k4, n4⟩, -, X4, ⟨Lc4, hQ4, l4, y4, z4⟩, st4⟩ := X3.virtualBack hx (y := (⟨"com/example/hard_check/hardcheck/TypeKind", "inputType", "()Z"⟩ : MethodName)) (z := (⟨"com/example/hard_check/hardcheck/TypeKind", "inputType", "()Z"⟩ : MethodName)) hown (mvT hZ (hw _ (List.mem_of_getElem? (i := 26) rfl))) (mvT hZ (hw _ (List.mem_of_getElem? (i := 27) rfl))) (notFace_of_selects (args := #[]) (mvT hZ (hw _ (List.mem_of_getElem? (i := 29) rfl)))) (mvT hZ (hw _ (List.mem_of_getElem? (i := 29) rfl))) (mvT hZ (hw _ (List.mem_of_getElem? (i := 28) rfl))) (by decide) (backOf (W := 0) (rmI l Z a0 hw [] w_SCALAR 1 h0 n0 Z0 F_SCALAR_inputType (by decide)) hZ (hw _ (List.mem_of_getElem? (i := 30) rfl)) (hw _ (List.mem_of_getElem? (i := 6) rfl)) (by decide) (by decide)) qa4 qc4 (g := (mkF m 43 #[(.val (.int p0)), (.val (.int (0 : Int32))), (.val (.ref w_SCALAR)), (.val (.int (0 : Int32))), (.val (.int (0 : Int32))), .unset] [(.ref w_SCALAR)])) rfl (by rw [hml]; rfl) (Steps.refl _) (argsL := []) (rest := []) (lenOf pd_Z rfl) rfl (by show 2 * 0 + _ ≤ _; exact Nat.le_of_eq rfl) (hb hby at_43) (fun _ _ => ⟨rfl, e3, (by decide : 0 + 0 ≤ _), (by decide : 0 + 0 ≤ _)⟩)
    dsimp only [Pt.U, Pt.locs, Pt.cells, Pt.slots] at X4 l4 y4 z4 st4 hQ4
    subst l4 y4 z4
    obtain ⟨rfl, rfl, e4⟩ := hQ4
    try rw [List.append_nil] at X4
    refine Owes.by (fun _ k => st4.trans k) ?_
    show Owes p e below s (QL n0) room_1.cells room_1.slots T4 (mkF m 46 #[(.val (.int p0)), (.val (.int (0 : Int32))), (.val (.ref w_SCALAR)), (.val (.int (0 : Int32))), (.val (.int (0 : Int32))), .unset] [(.int (1 : Int32))])
    refine Owes.by (fun _ k => XS.ifYes X4.here hx rfl (pc0 := 46) (pc' := 53) rfl (hb hby at_46) rfl (XT.i0_ne_t (by decide)) (by decide) (by decide) k) ?_
    show Owes p e below s (QL n0) room_1.cells room_1.slots T4 (mkF m 53 #[(.val (.int p0)), (.val (.int (0 : Int32))), (.val (.ref w_SCALAR)), (.val (.int (0 : Int32))), (.val (.int (0 : Int32))), .unset] [])
    refine Owes.by (fun _ k => XS.iconst X4.here hx rfl (hb hby at_53) k) ?_
    show Owes p e below s (QL n0) room_1.cells room_1.slots T4 (mkF m 54 #[(.val (.int p0)), (.val (.int (0 : Int32))), (.val (.ref w_SCALAR)), (.val (.int (0 : Int32))), (.val (.int (0 : Int32))), .unset] [(.int (0 : Int32))])
    refine Owes.by (fun _ k => XS.istore X4.here hx rfl (hb hby at_54) rfl (l' := #[(.val (.int p0)), (.val (.int (0 : Int32))), (.val (.ref w_SCALAR)), (.val (.int (0 : Int32))), (.val (.int (0 : Int32))), (.val (.int (0 : Int32)))]) rfl k) ?_
    show Owes p e below s (QL n0) room_1.cells room_1.slots T4 (mkF m 56 #[(.val (.int p0)), (.val (.int (0 : Int32))), (.val (.ref w_SCALAR)), (.val (.int (0 : Int32))), (.val (.int (0 : Int32))), (.val (.int (0 : Int32)))] [])
    refine Owes.by (fun _ k => XS.iload X4.here hx rfl (hb hby at_56) rfl k) ?_
    show Owes p e below s (QL n0) room_1.cells room_1.slots T4 (mkF m 58 #[(.val (.int p0)), (.val (.int (0 : Int32))), (.val (.ref w_SCALAR)), (.val (.int (0 : Int32))), (.val (.int (0 : Int32))), (.val (.int (0 : Int32)))] [(.int (0 : Int32))])
    refine Owes.by (fun _ k => XS.iloadN X4.here hx rfl (hb hby at_58) rfl k) ?_
    show Owes p e below s (QL n0) room_1.cells room_1.slots T4 (mkF m 59 #[(.val (.int p0)), (.val (.int (0 : Int32))), (.val (.ref w_SCALAR)), (.val (.int (0 : Int32))), (.val (.int (0 : Int32))), (.val (.int (0 : Int32)))] [(.int (0 : Int32)), (.int (0 : Int32))])
    refine Owes.by (fun _ k => XS.icmpNo X4.here hx rfl (hb hby at_59) rfl (XT.ii_ne_f (by decide)) k) ?_
    show Owes p e below s (QL n0) room_1.cells room_1.slots T4 (mkF m 62 #[(.val (.int p0)), (.val (.int (0 : Int32))), (.val (.ref w_SCALAR)), (.val (.int (0 : Int32))), (.val (.int (0 : Int32))), (.val (.int (0 : Int32)))] [])
    refine Owes.by (fun _ k => XS.iload X4.here hx rfl (hb hby at_62) rfl k) ?_
    show Owes p e below s (QL n0) room_1.cells room_1.slots T4 (mkF m 64 #[(.val (.int p0)), (.val (.int (0 : Int32))), (.val (.ref w_SCALAR)), (.val (.int (0 : Int32))), (.val (.int (0 : Int32))), (.val (.int (0 : Int32)))] [(.int (0 : Int32))])
    refine Owes.by (fun _ k => XS.iload X4.here hx rfl (hb hby at_64) rfl k) ?_
    show Owes p e below s (QL n0) room_1.cells room_1.slots T4 (mkF m 66 #[(.val (.int p0)), (.val (.int (0 : Int32))), (.val (.ref w_SCALAR)), (.val (.int (0 : Int32))), (.val (.int (0 : Int32))), (.val (.int (0 : Int32)))] [(.int (0 : Int32)), (.int (0 : Int32))])
    refine Owes.by (fun _ k => XS.icmpNo X4.here hx rfl (hb hby at_66) rfl (XT.ii_ne_f (by decide)) k) ?_
    show Owes p e below s (QL n0) room_1.cells room_1.slots T4 (mkF m 69 #[(.val (.int p0)), (.val (.int (0 : Int32))), (.val (.ref w_SCALAR)), (.val (.int (0 : Int32))), (.val (.int (0 : Int32))), (.val (.int (0 : Int32)))] [])
    refine Owes.by (fun _ k => XS.iconst X4.here hx rfl (hb hby at_69) k) ?_
    show Owes p e below s (QL n0) room_1.cells room_1.slots T4 (mkF m 70 #[(.val (.int p0)), (.val (.int (0 : Int32))), (.val (.ref w_SCALAR)), (.val (.int (0 : Int32))), (.val (.int (0 : Int32))), (.val (.int (0 : Int32)))] [(.int (1 : Int32))])
    refine Owes.by (fun _ k => XS.goto X4.here hx rfl (pc0 := 70) (pc' := 74) rfl (hb hby at_70) (by decide) (by decide) k) ?_
    show Owes p e below s (QL n0) room_1.cells room_1.slots T4 (mkF m 74 #[(.val (.int p0)), (.val (.int (0 : Int32))), (.val (.ref w_SCALAR)), (.val (.int (0 : Int32))), (.val (.int (0 : Int32))), (.val (.int (0 : Int32)))] [(.int (1 : Int32))])
    refine Owes.ret X4 (v := some (.int (1 : Int32))) (fun h => by rw [Bd.returns] at h; cases h) hlk ?_ (by decide) (by decide) (fun fs hr => retN X4 hx (t := .boolean) Bd.returns (by simp) (hb hby at_74) hr)
    rw [e4]
    exact ⟨rfl, N0⟩
  · rw [q]
    show Owes p e below s (QL n0) room_1.cells room_1.slots s₁ (mkF m 7 #[(.val (.int p0)), .unset, .unset, .unset, .unset, .unset] [(.int (1 : Int32))])
    refine Owes.by (fun _ k => XS.istoreN X0.here hx rfl (hb hby at_7) rfl (l' := #[(.val (.int p0)), (.val (.int (1 : Int32))), .unset, .unset, .unset, .unset]) rfl k) ?_
    show Owes p e below s (QL n0) room_1.cells room_1.slots s₁ (mkF m 8 #[(.val (.int p0)), (.val (.int (1 : Int32))), .unset, .unset, .unset, .unset] [])
    refine Owes.by (fun _ k => XS.iloadN X0.here hx rfl (hb hby at_8) rfl k) ?_
    show Owes p e below s (QL n0) room_1.cells room_1.slots s₁ (mkF m 9 #[(.val (.int p0)), (.val (.int (1 : Int32))), .unset, .unset, .unset, .unset] [(.int (1 : Int32))])
    obtain ⟨_, _, ⟨T5, L5, k5, n5⟩, -, X5, ⟨Lc5, hQ5, l5, y5, z5⟩, st5⟩ := Jvm.LawKit.callS X0 hx (y := (⟨"com/example/hard_check/hardcheck/TypeKindCompositePinLaw", "pick", "(I)Lcom/example/hard_check/hardcheck/TypeKind;"⟩ : MethodName)) hown (mvT hZ (hw _ (List.mem_of_getElem? (i := 1) rfl))) (mvT hZ (hw _ (List.mem_of_getElem? (i := 2) rfl))) (mvT hZ (hw _ (List.mem_of_getElem? (i := 3) rfl))) (mvT hZ (hw _ (List.mem_of_getElem? (i := 4) rfl))) (by decide) (backOf (W := 0) (rmP l Z a0 hw [] 1 w_SCALAR w_OBJECT w_INTERFACE w_UNION w_ENUM w_INPUT_OBJECT w_OBJECT h0 n0 Z0 S_SCALAR S_OBJECT S_INTERFACE S_UNION S_ENUM S_INPUT_OBJECT (by simp +decide)) hZ (hw _ (List.mem_of_getElem? (i := 4) rfl)) (hw _ (List.mem_of_getElem? (i := 3) rfl)) (by decide) (by decide)) (g := (mkF m 9 #[(.val (.int p0)), (.val (.int (1 : Int32))), .unset, .unset, .unset, .unset] [(.int (1 : Int32))])) rfl (by rw [hml]; rfl) (argsL := [(.int (1 : Int32))]) (rest := []) (lenOf pd_I_Lcom_example_hard_check_hardcheck_TypeKind rfl) rfl (by show 2 * 0 + _ ≤ _; exact Nat.le_of_eq rfl) (hb hby at_9) (fun _ _ => ⟨rfl, e0, (by decide : 0 + 0 ≤ _), (by decide : 0 + 0 ≤ _)⟩)
    dsimp only [Pt.U, Pt.locs, Pt.cells, Pt.slots] at X5 l5 y5 z5 st5 hQ5
    subst l5 y5 z5
    obtain ⟨rfl, rfl, e5⟩ := hQ5
    try rw [List.append_nil] at X5
    refine Owes.by st5 ?_
    show Owes p e below s (QL n0) room_1.cells room_1.slots T5 (mkF m 12 #[(.val (.int p0)), (.val (.int (1 : Int32))), .unset, .unset, .unset, .unset] [(.ref w_OBJECT)])
    refine Owes.by (fun _ k => XS.astoreN X5.here hx rfl (hb hby at_12) rfl rfl (l' := #[(.val (.int p0)), (.val (.int (1 : Int32))), (.val (.ref w_OBJECT)), .unset, .unset, .unset]) rfl k) ?_
    show Owes p e below s (QL n0) room_1.cells room_1.slots T5 (mkF m 13 #[(.val (.int p0)), (.val (.int (1 : Int32))), (.val (.ref w_OBJECT)), .unset, .unset, .unset] [])
    refine Owes.by (fun _ k => XS.iloadN X5.here hx rfl (hb hby at_13) rfl k) ?_
    show Owes p e below s (QL n0) room_1.cells room_1.slots T5 (mkF m 14 #[(.val (.int p0)), (.val (.int (1 : Int32))), (.val (.ref w_OBJECT)), .unset, .unset, .unset] [(.int (1 : Int32))])
    refine Owes.by (fun _ k => XS.iconst X5.here hx rfl (hb hby at_14) k) ?_
    show Owes p e below s (QL n0) room_1.cells room_1.slots T5 (mkF m 15 #[(.val (.int p0)), (.val (.int (1 : Int32))), (.val (.ref w_OBJECT)), .unset, .unset, .unset] [(.int (1 : Int32)), (.int (1 : Int32))])
    refine Owes.by (fun _ k => XS.icmpNo X5.here hx rfl (hb hby at_15) rfl (XT.ii_lt_f (by decide)) k) ?_
    show Owes p e below s (QL n0) room_1.cells room_1.slots T5 (mkF m 18 #[(.val (.int p0)), (.val (.int (1 : Int32))), (.val (.ref w_OBJECT)), .unset, .unset, .unset] [])
    refine Owes.by (fun _ k => XS.iloadN X5.here hx rfl (hb hby at_18) rfl k) ?_
    show Owes p e below s (QL n0) room_1.cells room_1.slots T5 (mkF m 19 #[(.val (.int p0)), (.val (.int (1 : Int32))), (.val (.ref w_OBJECT)), .unset, .unset, .unset] [(.int (1 : Int32))])
    refine Owes.by (fun _ k => XS.iconst X5.here hx rfl (hb hby at_19) k) ?_
    show Owes p e below s (QL n0) room_1.cells room_1.slots T5 (mkF m 20 #[(.val (.int p0)), (.val (.int (1 : Int32))), (.val (.ref w_OBJECT)), .unset, .unset, .unset] [(.int (3 : Int32)), (.int (1 : Int32))])
    refine Owes.by (fun _ k => XS.icmpNo X5.here hx rfl (hb hby at_20) rfl (XT.ii_gt_f (by decide)) k) ?_
    show Owes p e below s (QL n0) room_1.cells room_1.slots T5 (mkF m 23 #[(.val (.int p0)), (.val (.int (1 : Int32))), (.val (.ref w_OBJECT)), .unset, .unset, .unset] [])
    refine Owes.by (fun _ k => XS.iconst X5.here hx rfl (hb hby at_23) k) ?_
    show Owes p e below s (QL n0) room_1.cells room_1.slots T5 (mkF m 24 #[(.val (.int p0)), (.val (.int (1 : Int32))), (.val (.ref w_OBJECT)), .unset, .unset, .unset] [(.int (1 : Int32))])
    refine Owes.by (fun _ k => XS.goto X5.here hx rfl (pc0 := 24) (pc' := 28) rfl (hb hby at_24) (by decide) (by decide) k) ?_
    show Owes p e below s (QL n0) room_1.cells room_1.slots T5 (mkF m 28 #[(.val (.int p0)), (.val (.int (1 : Int32))), (.val (.ref w_OBJECT)), .unset, .unset, .unset] [(.int (1 : Int32))])
    refine Owes.by (fun _ k => XS.istoreN X5.here hx rfl (hb hby at_28) rfl (l' := #[(.val (.int p0)), (.val (.int (1 : Int32))), (.val (.ref w_OBJECT)), (.val (.int (1 : Int32))), .unset, .unset]) rfl k) ?_
    show Owes p e below s (QL n0) room_1.cells room_1.slots T5 (mkF m 29 #[(.val (.int p0)), (.val (.int (1 : Int32))), (.val (.ref w_OBJECT)), (.val (.int (1 : Int32))), .unset, .unset] [])
    refine Owes.by (fun _ k => XS.aloadN X5.here hx rfl (hb hby at_29) rfl rfl k) ?_
    show Owes p e below s (QL n0) room_1.cells room_1.slots T5 (mkF m 30 #[(.val (.int p0)), (.val (.int (1 : Int32))), (.val (.ref w_OBJECT)), (.val (.int (1 : Int32))), .unset, .unset] [(.ref w_OBJECT)])
    obtain ⟨cq6, kq6, qa6, qb6, qc6⟩ := isOf hZ e5 E_OBJECT
    obtain ⟨_, _, ⟨T6, L6, k6, n6⟩, -, X6, ⟨Lc6, hQ6, l6, y6, z6⟩, st6⟩ := X5.virtualBack hx (y := (⟨"com/example/hard_check/hardcheck/TypeKind", "composite", "()Z"⟩ : MethodName)) (z := (⟨"com/example/hard_check/hardcheck/TypeKind", "composite", "()Z"⟩ : MethodName)) hown (mvT hZ (hw _ (List.mem_of_getElem? (i := 8) rfl))) (mvT hZ (hw _ (List.mem_of_getElem? (i := 9) rfl))) (notFace_of_selects (args := #[]) (mvT hZ (hw _ (List.mem_of_getElem? (i := 11) rfl)))) (mvT hZ (hw _ (List.mem_of_getElem? (i := 11) rfl))) (mvT hZ (hw _ (List.mem_of_getElem? (i := 10) rfl))) (by decide) (backOf (W := 0) (rmC l Z a0 hw [] w_OBJECT w_OBJECT w_INTERFACE w_UNION 1 h0 n0 Z0 S_OBJECT S_INTERFACE S_UNION (by simp)) hZ (hw _ (List.mem_of_getElem? (i := 12) rfl)) (hw _ (List.mem_of_getElem? (i := 6) rfl)) (by decide) (by decide)) qa6 qc6 (g := (mkF m 30 #[(.val (.int p0)), (.val (.int (1 : Int32))), (.val (.ref w_OBJECT)), (.val (.int (1 : Int32))), .unset, .unset] [(.ref w_OBJECT)])) rfl (by rw [hml]; rfl) (Steps.refl _) (argsL := []) (rest := []) (lenOf pd_Z rfl) rfl (by show 2 * 0 + _ ≤ _; exact Nat.le_of_eq rfl) (hb hby at_30) (fun _ _ => ⟨rfl, e5, (by decide : 0 + 0 ≤ _), (by decide : 0 + 0 ≤ _)⟩)
    dsimp only [Pt.U, Pt.locs, Pt.cells, Pt.slots] at X6 l6 y6 z6 st6 hQ6
    subst l6 y6 z6
    obtain ⟨rfl, rfl, e6⟩ := hQ6
    try rw [List.append_nil] at X6
    refine Owes.by (fun _ k => st6.trans k) ?_
    show Owes p e below s (QL n0) room_1.cells room_1.slots T6 (mkF m 33 #[(.val (.int p0)), (.val (.int (1 : Int32))), (.val (.ref w_OBJECT)), (.val (.int (1 : Int32))), .unset, .unset] [(.int (1 : Int32))])
    refine Owes.by (fun _ k => XS.istore X6.here hx rfl (hb hby at_33) rfl (l' := #[(.val (.int p0)), (.val (.int (1 : Int32))), (.val (.ref w_OBJECT)), (.val (.int (1 : Int32))), (.val (.int (1 : Int32))), .unset]) rfl k) ?_
    show Owes p e below s (QL n0) room_1.cells room_1.slots T6 (mkF m 35 #[(.val (.int p0)), (.val (.int (1 : Int32))), (.val (.ref w_OBJECT)), (.val (.int (1 : Int32))), (.val (.int (1 : Int32))), .unset] [])
    refine Owes.by (fun _ k => XS.aloadN X6.here hx rfl (hb hby at_35) rfl rfl k) ?_
    show Owes p e below s (QL n0) room_1.cells room_1.slots T6 (mkF m 36 #[(.val (.int p0)), (.val (.int (1 : Int32))), (.val (.ref w_OBJECT)), (.val (.int (1 : Int32))), (.val (.int (1 : Int32))), .unset] [(.ref w_OBJECT)])
    obtain ⟨cq7, kq7, qa7, qb7, qc7⟩ := isOf hZ e6 E_OBJECT
    obtain ⟨_, _, ⟨T7, L7, k7, n7⟩, -, X7, ⟨Lc7, hQ7, l7, y7, z7⟩, st7⟩ := X6.virtualBack hx (y := (⟨"com/example/hard_check/hardcheck/TypeKind", "outputType", "()Z"⟩ : MethodName)) (z := (⟨"com/example/hard_check/hardcheck/TypeKind", "outputType", "()Z"⟩ : MethodName)) hown (mvT hZ (hw _ (List.mem_of_getElem? (i := 19) rfl))) (mvT hZ (hw _ (List.mem_of_getElem? (i := 20) rfl))) (notFace_of_selects (args := #[]) (mvT hZ (hw _ (List.mem_of_getElem? (i := 22) rfl)))) (mvT hZ (hw _ (List.mem_of_getElem? (i := 22) rfl))) (mvT hZ (hw _ (List.mem_of_getElem? (i := 21) rfl))) (by decide) (backOf (W := 0) (rmU l Z a0 hw [] w_OBJECT 1 h0 n0 Z0 F_OBJECT_outputType (by decide)) hZ (hw _ (List.mem_of_getElem? (i := 23) rfl)) (hw _ (List.mem_of_getElem? (i := 6) rfl)) (by decide) (by decide)) qa7 qc7 (g := (mkF m 36 #[(.val (.int p0)), (.val (.int (1 : Int32))), (.val (.ref w_OBJECT)), (.val (.int (1 : Int32))), (.val (.int (1 : Int32))), .unset] [(.ref w_OBJECT)])) rfl (by rw [hml]; rfl) (Steps.refl _) (argsL := []) (rest := []) (lenOf pd_Z rfl) rfl (by show 2 * 0 + _ ≤ _; exact Nat.le_of_eq rfl) (hb hby at_36) (fun _ _ => ⟨rfl, e6, (by decide : 0 + 0 ≤ _), (by decide : 0 + 0 ≤ _)⟩)
    dsimp only [Pt.U, Pt.locs, Pt.cells, Pt.slots] at X7 l7 y7 z7 st7 hQ7
    subst l7 y7 z7
    obtain ⟨rfl, rfl, e7⟩ := hQ7
    try rw [List.append_nil] at X7
    refine Owes.by (fun _ k => st7.trans k) ?_
    show Owes p e below s (QL n0) room_1.cells room_1.slots T7 (mkF m 39 #[(.val (.int p0)), (.val (.int (1 : Int32))), (.val (.ref w_OBJECT)), (.val (.int (1 : Int32))), (.val (.int (1 : Int32))), .unset] [(.int (1 : Int32))])
    refine Owes.by (fun _ k => XS.ifNo X7.here hx rfl (hb hby at_39) rfl (XT.i0_eq_f (by decide)) k) ?_
    show Owes p e below s (QL n0) room_1.cells room_1.slots T7 (mkF m 42 #[(.val (.int p0)), (.val (.int (1 : Int32))), (.val (.ref w_OBJECT)), (.val (.int (1 : Int32))), (.val (.int (1 : Int32))), .unset] [])
    refine Owes.by (fun _ k => XS.aloadN X7.here hx rfl (hb hby at_42) rfl rfl k) ?_
    show Owes p e below s (QL n0) room_1.cells room_1.slots T7 (mkF m 43 #[(.val (.int p0)), (.val (.int (1 : Int32))), (.val (.ref w_OBJECT)), (.val (.int (1 : Int32))), (.val (.int (1 : Int32))), .unset] [(.ref w_OBJECT)])
    obtain ⟨cq8, kq8, qa8, qb8, qc8⟩ := isOf hZ e7 E_OBJECT
    obtain ⟨_, _, ⟨T8, L8, k8, n8⟩, -, X8, ⟨Lc8, hQ8, l8, y8, z8⟩, st8⟩ := X7.virtualBack hx (y := (⟨"com/example/hard_check/hardcheck/TypeKind", "inputType", "()Z"⟩ : MethodName)) (z := (⟨"com/example/hard_check/hardcheck/TypeKind", "inputType", "()Z"⟩ : MethodName)) hown (mvT hZ (hw _ (List.mem_of_getElem? (i := 26) rfl))) (mvT hZ (hw _ (List.mem_of_getElem? (i := 27) rfl))) (notFace_of_selects (args := #[]) (mvT hZ (hw _ (List.mem_of_getElem? (i := 29) rfl)))) (mvT hZ (hw _ (List.mem_of_getElem? (i := 29) rfl))) (mvT hZ (hw _ (List.mem_of_getElem? (i := 28) rfl))) (by decide) (backOf (W := 0) (rmI l Z a0 hw [] w_OBJECT 0 h0 n0 Z0 F_OBJECT_inputType (by decide)) hZ (hw _ (List.mem_of_getElem? (i := 30) rfl)) (hw _ (List.mem_of_getElem? (i := 6) rfl)) (by decide) (by decide)) qa8 qc8 (g := (mkF m 43 #[(.val (.int p0)), (.val (.int (1 : Int32))), (.val (.ref w_OBJECT)), (.val (.int (1 : Int32))), (.val (.int (1 : Int32))), .unset] [(.ref w_OBJECT)])) rfl (by rw [hml]; rfl) (Steps.refl _) (argsL := []) (rest := []) (lenOf pd_Z rfl) rfl (by show 2 * 0 + _ ≤ _; exact Nat.le_of_eq rfl) (hb hby at_43) (fun _ _ => ⟨rfl, e7, (by decide : 0 + 0 ≤ _), (by decide : 0 + 0 ≤ _)⟩)
    dsimp only [Pt.U, Pt.locs, Pt.cells, Pt.slots] at X8 l8 y8 z8 st8 hQ8
    subst l8 y8 z8
    obtain ⟨rfl, rfl, e8⟩ := hQ8
    try rw [List.append_nil] at X8
    refine Owes.by (fun _ k => st8.trans k) ?_
    show Owes p e below s (QL n0) room_1.cells room_1.slots T8 (mkF m 46 #[(.val (.int p0)), (.val (.int (1 : Int32))), (.val (.ref w_OBJECT)), (.val (.int (1 : Int32))), (.val (.int (1 : Int32))), .unset] [(.int (0 : Int32))])
    refine Owes.by (fun _ k => XS.ifNo X8.here hx rfl (hb hby at_46) rfl (XT.i0_ne_f (by decide)) k) ?_
    show Owes p e below s (QL n0) room_1.cells room_1.slots T8 (mkF m 49 #[(.val (.int p0)), (.val (.int (1 : Int32))), (.val (.ref w_OBJECT)), (.val (.int (1 : Int32))), (.val (.int (1 : Int32))), .unset] [])
    refine Owes.by (fun _ k => XS.iconst X8.here hx rfl (hb hby at_49) k) ?_
    show Owes p e below s (QL n0) room_1.cells room_1.slots T8 (mkF m 50 #[(.val (.int p0)), (.val (.int (1 : Int32))), (.val (.ref w_OBJECT)), (.val (.int (1 : Int32))), (.val (.int (1 : Int32))), .unset] [(.int (1 : Int32))])
    refine Owes.by (fun _ k => XS.goto X8.here hx rfl (pc0 := 50) (pc' := 54) rfl (hb hby at_50) (by decide) (by decide) k) ?_
    show Owes p e below s (QL n0) room_1.cells room_1.slots T8 (mkF m 54 #[(.val (.int p0)), (.val (.int (1 : Int32))), (.val (.ref w_OBJECT)), (.val (.int (1 : Int32))), (.val (.int (1 : Int32))), .unset] [(.int (1 : Int32))])
    refine Owes.by (fun _ k => XS.istore X8.here hx rfl (hb hby at_54) rfl (l' := #[(.val (.int p0)), (.val (.int (1 : Int32))), (.val (.ref w_OBJECT)), (.val (.int (1 : Int32))), (.val (.int (1 : Int32))), (.val (.int (1 : Int32)))]) rfl k) ?_
    show Owes p e below s (QL n0) room_1.cells room_1.slots T8 (mkF m 56 #[(.val (.int p0)), (.val (.int (1 : Int32))), (.val (.ref w_OBJECT)), (.val (.int (1 : Int32))), (.val (.int (1 : Int32))), (.val (.int (1 : Int32)))] [])
    refine Owes.by (fun _ k => XS.iload X8.here hx rfl (hb hby at_56) rfl k) ?_
    show Owes p e below s (QL n0) room_1.cells room_1.slots T8 (mkF m 58 #[(.val (.int p0)), (.val (.int (1 : Int32))), (.val (.ref w_OBJECT)), (.val (.int (1 : Int32))), (.val (.int (1 : Int32))), (.val (.int (1 : Int32)))] [(.int (1 : Int32))])
    refine Owes.by (fun _ k => XS.iloadN X8.here hx rfl (hb hby at_58) rfl k) ?_
    show Owes p e below s (QL n0) room_1.cells room_1.slots T8 (mkF m 59 #[(.val (.int p0)), (.val (.int (1 : Int32))), (.val (.ref w_OBJECT)), (.val (.int (1 : Int32))), (.val (.int (1 : Int32))), (.val (.int (1 : Int32)))] [(.int (1 : Int32)), (.int (1 : Int32))])
    refine Owes.by (fun _ k => XS.icmpNo X8.here hx rfl (hb hby at_59) rfl (XT.ii_ne_f (by decide)) k) ?_
    show Owes p e below s (QL n0) room_1.cells room_1.slots T8 (mkF m 62 #[(.val (.int p0)), (.val (.int (1 : Int32))), (.val (.ref w_OBJECT)), (.val (.int (1 : Int32))), (.val (.int (1 : Int32))), (.val (.int (1 : Int32)))] [])
    refine Owes.by (fun _ k => XS.iload X8.here hx rfl (hb hby at_62) rfl k) ?_
    show Owes p e below s (QL n0) room_1.cells room_1.slots T8 (mkF m 64 #[(.val (.int p0)), (.val (.int (1 : Int32))), (.val (.ref w_OBJECT)), (.val (.int (1 : Int32))), (.val (.int (1 : Int32))), (.val (.int (1 : Int32)))] [(.int (1 : Int32))])
    refine Owes.by (fun _ k => XS.iload X8.here hx rfl (hb hby at_64) rfl k) ?_
    show Owes p e below s (QL n0) room_1.cells room_1.slots T8 (mkF m 66 #[(.val (.int p0)), (.val (.int (1 : Int32))), (.val (.ref w_OBJECT)), (.val (.int (1 : Int32))), (.val (.int (1 : Int32))), (.val (.int (1 : Int32)))] [(.int (1 : Int32)), (.int (1 : Int32))])
    refine Owes.by (fun _ k => XS.icmpNo X8.here hx rfl (hb hby at_66) rfl (XT.ii_ne_f (by decide)) k) ?_
    show Owes p e below s (QL n0) room_1.cells room_1.slots T8 (mkF m 69 #[(.val (.int p0)), (.val (.int (1 : Int32))), (.val (.ref w_OBJECT)), (.val (.int (1 : Int32))), (.val (.int (1 : Int32))), (.val (.int (1 : Int32)))] [])
    refine Owes.by (fun _ k => XS.iconst X8.here hx rfl (hb hby at_69) k) ?_
    show Owes p e below s (QL n0) room_1.cells room_1.slots T8 (mkF m 70 #[(.val (.int p0)), (.val (.int (1 : Int32))), (.val (.ref w_OBJECT)), (.val (.int (1 : Int32))), (.val (.int (1 : Int32))), (.val (.int (1 : Int32)))] [(.int (1 : Int32))])
    refine Owes.by (fun _ k => XS.goto X8.here hx rfl (pc0 := 70) (pc' := 74) rfl (hb hby at_70) (by decide) (by decide) k) ?_
    show Owes p e below s (QL n0) room_1.cells room_1.slots T8 (mkF m 74 #[(.val (.int p0)), (.val (.int (1 : Int32))), (.val (.ref w_OBJECT)), (.val (.int (1 : Int32))), (.val (.int (1 : Int32))), (.val (.int (1 : Int32)))] [(.int (1 : Int32))])
    refine Owes.ret X8 (v := some (.int (1 : Int32))) (fun h => by rw [Bd.returns] at h; cases h) hlk ?_ (by decide) (by decide) (fun fs hr => retN X8 hx (t := .boolean) Bd.returns (by simp) (hb hby at_74) hr)
    rw [e8]
    exact ⟨rfl, N0⟩
  · rw [q]
    show Owes p e below s (QL n0) room_1.cells room_1.slots s₁ (mkF m 7 #[(.val (.int p0)), .unset, .unset, .unset, .unset, .unset] [(.int (2 : Int32))])
    refine Owes.by (fun _ k => XS.istoreN X0.here hx rfl (hb hby at_7) rfl (l' := #[(.val (.int p0)), (.val (.int (2 : Int32))), .unset, .unset, .unset, .unset]) rfl k) ?_
    show Owes p e below s (QL n0) room_1.cells room_1.slots s₁ (mkF m 8 #[(.val (.int p0)), (.val (.int (2 : Int32))), .unset, .unset, .unset, .unset] [])
    refine Owes.by (fun _ k => XS.iloadN X0.here hx rfl (hb hby at_8) rfl k) ?_
    show Owes p e below s (QL n0) room_1.cells room_1.slots s₁ (mkF m 9 #[(.val (.int p0)), (.val (.int (2 : Int32))), .unset, .unset, .unset, .unset] [(.int (2 : Int32))])
    obtain ⟨_, _, ⟨T9, L9, k9, n9⟩, -, X9, ⟨Lc9, hQ9, l9, y9, z9⟩, st9⟩ := Jvm.LawKit.callS X0 hx (y := (⟨"com/example/hard_check/hardcheck/TypeKindCompositePinLaw", "pick", "(I)Lcom/example/hard_check/hardcheck/TypeKind;"⟩ : MethodName)) hown (mvT hZ (hw _ (List.mem_of_getElem? (i := 1) rfl))) (mvT hZ (hw _ (List.mem_of_getElem? (i := 2) rfl))) (mvT hZ (hw _ (List.mem_of_getElem? (i := 3) rfl))) (mvT hZ (hw _ (List.mem_of_getElem? (i := 4) rfl))) (by decide) (backOf (W := 0) (rmP l Z a0 hw [] 2 w_SCALAR w_OBJECT w_INTERFACE w_UNION w_ENUM w_INPUT_OBJECT w_INTERFACE h0 n0 Z0 S_SCALAR S_OBJECT S_INTERFACE S_UNION S_ENUM S_INPUT_OBJECT (by simp +decide)) hZ (hw _ (List.mem_of_getElem? (i := 4) rfl)) (hw _ (List.mem_of_getElem? (i := 3) rfl)) (by decide) (by decide)) (g := (mkF m 9 #[(.val (.int p0)), (.val (.int (2 : Int32))), .unset, .unset, .unset, .unset] [(.int (2 : Int32))])) rfl (by rw [hml]; rfl) (argsL := [(.int (2 : Int32))]) (rest := []) (lenOf pd_I_Lcom_example_hard_check_hardcheck_TypeKind rfl) rfl (by show 2 * 0 + _ ≤ _; exact Nat.le_of_eq rfl) (hb hby at_9) (fun _ _ => ⟨rfl, e0, (by decide : 0 + 0 ≤ _), (by decide : 0 + 0 ≤ _)⟩)
    dsimp only [Pt.U, Pt.locs, Pt.cells, Pt.slots] at X9 l9 y9 z9 st9 hQ9
    subst l9 y9 z9
    obtain ⟨rfl, rfl, e9⟩ := hQ9
    try rw [List.append_nil] at X9
    refine Owes.by st9 ?_
    show Owes p e below s (QL n0) room_1.cells room_1.slots T9 (mkF m 12 #[(.val (.int p0)), (.val (.int (2 : Int32))), .unset, .unset, .unset, .unset] [(.ref w_INTERFACE)])
    refine Owes.by (fun _ k => XS.astoreN X9.here hx rfl (hb hby at_12) rfl rfl (l' := #[(.val (.int p0)), (.val (.int (2 : Int32))), (.val (.ref w_INTERFACE)), .unset, .unset, .unset]) rfl k) ?_
    show Owes p e below s (QL n0) room_1.cells room_1.slots T9 (mkF m 13 #[(.val (.int p0)), (.val (.int (2 : Int32))), (.val (.ref w_INTERFACE)), .unset, .unset, .unset] [])
    refine Owes.by (fun _ k => XS.iloadN X9.here hx rfl (hb hby at_13) rfl k) ?_
    show Owes p e below s (QL n0) room_1.cells room_1.slots T9 (mkF m 14 #[(.val (.int p0)), (.val (.int (2 : Int32))), (.val (.ref w_INTERFACE)), .unset, .unset, .unset] [(.int (2 : Int32))])
    refine Owes.by (fun _ k => XS.iconst X9.here hx rfl (hb hby at_14) k) ?_
    show Owes p e below s (QL n0) room_1.cells room_1.slots T9 (mkF m 15 #[(.val (.int p0)), (.val (.int (2 : Int32))), (.val (.ref w_INTERFACE)), .unset, .unset, .unset] [(.int (1 : Int32)), (.int (2 : Int32))])
    refine Owes.by (fun _ k => XS.icmpNo X9.here hx rfl (hb hby at_15) rfl (XT.ii_lt_f (by decide)) k) ?_
    show Owes p e below s (QL n0) room_1.cells room_1.slots T9 (mkF m 18 #[(.val (.int p0)), (.val (.int (2 : Int32))), (.val (.ref w_INTERFACE)), .unset, .unset, .unset] [])
    refine Owes.by (fun _ k => XS.iloadN X9.here hx rfl (hb hby at_18) rfl k) ?_
    show Owes p e below s (QL n0) room_1.cells room_1.slots T9 (mkF m 19 #[(.val (.int p0)), (.val (.int (2 : Int32))), (.val (.ref w_INTERFACE)), .unset, .unset, .unset] [(.int (2 : Int32))])
    refine Owes.by (fun _ k => XS.iconst X9.here hx rfl (hb hby at_19) k) ?_
    show Owes p e below s (QL n0) room_1.cells room_1.slots T9 (mkF m 20 #[(.val (.int p0)), (.val (.int (2 : Int32))), (.val (.ref w_INTERFACE)), .unset, .unset, .unset] [(.int (3 : Int32)), (.int (2 : Int32))])
    refine Owes.by (fun _ k => XS.icmpNo X9.here hx rfl (hb hby at_20) rfl (XT.ii_gt_f (by decide)) k) ?_
    show Owes p e below s (QL n0) room_1.cells room_1.slots T9 (mkF m 23 #[(.val (.int p0)), (.val (.int (2 : Int32))), (.val (.ref w_INTERFACE)), .unset, .unset, .unset] [])
    refine Owes.by (fun _ k => XS.iconst X9.here hx rfl (hb hby at_23) k) ?_
    show Owes p e below s (QL n0) room_1.cells room_1.slots T9 (mkF m 24 #[(.val (.int p0)), (.val (.int (2 : Int32))), (.val (.ref w_INTERFACE)), .unset, .unset, .unset] [(.int (1 : Int32))])
    refine Owes.by (fun _ k => XS.goto X9.here hx rfl (pc0 := 24) (pc' := 28) rfl (hb hby at_24) (by decide) (by decide) k) ?_
    show Owes p e below s (QL n0) room_1.cells room_1.slots T9 (mkF m 28 #[(.val (.int p0)), (.val (.int (2 : Int32))), (.val (.ref w_INTERFACE)), .unset, .unset, .unset] [(.int (1 : Int32))])
    refine Owes.by (fun _ k => XS.istoreN X9.here hx rfl (hb hby at_28) rfl (l' := #[(.val (.int p0)), (.val (.int (2 : Int32))), (.val (.ref w_INTERFACE)), (.val (.int (1 : Int32))), .unset, .unset]) rfl k) ?_
    show Owes p e below s (QL n0) room_1.cells room_1.slots T9 (mkF m 29 #[(.val (.int p0)), (.val (.int (2 : Int32))), (.val (.ref w_INTERFACE)), (.val (.int (1 : Int32))), .unset, .unset] [])
    refine Owes.by (fun _ k => XS.aloadN X9.here hx rfl (hb hby at_29) rfl rfl k) ?_
    show Owes p e below s (QL n0) room_1.cells room_1.slots T9 (mkF m 30 #[(.val (.int p0)), (.val (.int (2 : Int32))), (.val (.ref w_INTERFACE)), (.val (.int (1 : Int32))), .unset, .unset] [(.ref w_INTERFACE)])
    obtain ⟨cq10, kq10, qa10, qb10, qc10⟩ := isOf hZ e9 E_INTERFACE
    obtain ⟨_, _, ⟨T10, L10, k10, n10⟩, -, X10, ⟨Lc10, hQ10, l10, y10, z10⟩, st10⟩ := X9.virtualBack hx (y := (⟨"com/example/hard_check/hardcheck/TypeKind", "composite", "()Z"⟩ : MethodName)) (z := (⟨"com/example/hard_check/hardcheck/TypeKind", "composite", "()Z"⟩ : MethodName)) hown (mvT hZ (hw _ (List.mem_of_getElem? (i := 8) rfl))) (mvT hZ (hw _ (List.mem_of_getElem? (i := 9) rfl))) (notFace_of_selects (args := #[]) (mvT hZ (hw _ (List.mem_of_getElem? (i := 11) rfl)))) (mvT hZ (hw _ (List.mem_of_getElem? (i := 11) rfl))) (mvT hZ (hw _ (List.mem_of_getElem? (i := 10) rfl))) (by decide) (backOf (W := 0) (rmC l Z a0 hw [] w_INTERFACE w_OBJECT w_INTERFACE w_UNION 1 h0 n0 Z0 S_OBJECT S_INTERFACE S_UNION (by simp)) hZ (hw _ (List.mem_of_getElem? (i := 12) rfl)) (hw _ (List.mem_of_getElem? (i := 6) rfl)) (by decide) (by decide)) qa10 qc10 (g := (mkF m 30 #[(.val (.int p0)), (.val (.int (2 : Int32))), (.val (.ref w_INTERFACE)), (.val (.int (1 : Int32))), .unset, .unset] [(.ref w_INTERFACE)])) rfl (by rw [hml]; rfl) (Steps.refl _) (argsL := []) (rest := []) (lenOf pd_Z rfl) rfl (by show 2 * 0 + _ ≤ _; exact Nat.le_of_eq rfl) (hb hby at_30) (fun _ _ => ⟨rfl, e9, (by decide : 0 + 0 ≤ _), (by decide : 0 + 0 ≤ _)⟩)
    dsimp only [Pt.U, Pt.locs, Pt.cells, Pt.slots] at X10 l10 y10 z10 st10 hQ10
    subst l10 y10 z10
    obtain ⟨rfl, rfl, e10⟩ := hQ10
    try rw [List.append_nil] at X10
    refine Owes.by (fun _ k => st10.trans k) ?_
    show Owes p e below s (QL n0) room_1.cells room_1.slots T10 (mkF m 33 #[(.val (.int p0)), (.val (.int (2 : Int32))), (.val (.ref w_INTERFACE)), (.val (.int (1 : Int32))), .unset, .unset] [(.int (1 : Int32))])
    refine Owes.by (fun _ k => XS.istore X10.here hx rfl (hb hby at_33) rfl (l' := #[(.val (.int p0)), (.val (.int (2 : Int32))), (.val (.ref w_INTERFACE)), (.val (.int (1 : Int32))), (.val (.int (1 : Int32))), .unset]) rfl k) ?_
    show Owes p e below s (QL n0) room_1.cells room_1.slots T10 (mkF m 35 #[(.val (.int p0)), (.val (.int (2 : Int32))), (.val (.ref w_INTERFACE)), (.val (.int (1 : Int32))), (.val (.int (1 : Int32))), .unset] [])
    refine Owes.by (fun _ k => XS.aloadN X10.here hx rfl (hb hby at_35) rfl rfl k) ?_
    show Owes p e below s (QL n0) room_1.cells room_1.slots T10 (mkF m 36 #[(.val (.int p0)), (.val (.int (2 : Int32))), (.val (.ref w_INTERFACE)), (.val (.int (1 : Int32))), (.val (.int (1 : Int32))), .unset] [(.ref w_INTERFACE)])
    obtain ⟨cq11, kq11, qa11, qb11, qc11⟩ := isOf hZ e10 E_INTERFACE
    obtain ⟨_, _, ⟨T11, L11, k11, n11⟩, -, X11, ⟨Lc11, hQ11, l11, y11, z11⟩, st11⟩ := X10.virtualBack hx (y := (⟨"com/example/hard_check/hardcheck/TypeKind", "outputType", "()Z"⟩ : MethodName)) (z := (⟨"com/example/hard_check/hardcheck/TypeKind", "outputType", "()Z"⟩ : MethodName)) hown (mvT hZ (hw _ (List.mem_of_getElem? (i := 19) rfl))) (mvT hZ (hw _ (List.mem_of_getElem? (i := 20) rfl))) (notFace_of_selects (args := #[]) (mvT hZ (hw _ (List.mem_of_getElem? (i := 22) rfl)))) (mvT hZ (hw _ (List.mem_of_getElem? (i := 22) rfl))) (mvT hZ (hw _ (List.mem_of_getElem? (i := 21) rfl))) (by decide) (backOf (W := 0) (rmU l Z a0 hw [] w_INTERFACE 1 h0 n0 Z0 F_INTERFACE_outputType (by decide)) hZ (hw _ (List.mem_of_getElem? (i := 23) rfl)) (hw _ (List.mem_of_getElem? (i := 6) rfl)) (by decide) (by decide)) qa11 qc11 (g := (mkF m 36 #[(.val (.int p0)), (.val (.int (2 : Int32))), (.val (.ref w_INTERFACE)), (.val (.int (1 : Int32))), (.val (.int (1 : Int32))), .unset] [(.ref w_INTERFACE)])) rfl (by rw [hml]; rfl) (Steps.refl _) (argsL := []) (rest := []) (lenOf pd_Z rfl) rfl (by show 2 * 0 + _ ≤ _; exact Nat.le_of_eq rfl) (hb hby at_36) (fun _ _ => ⟨rfl, e10, (by decide : 0 + 0 ≤ _), (by decide : 0 + 0 ≤ _)⟩)
    dsimp only [Pt.U, Pt.locs, Pt.cells, Pt.slots] at X11 l11 y11 z11 st11 hQ11
    subst l11 y11 z11
    obtain ⟨rfl, rfl, e11⟩ := hQ11
    try rw [List.append_nil] at X11
    refine Owes.by (fun _ k => st11.trans k) ?_
    show Owes p e below s (QL n0) room_1.cells room_1.slots T11 (mkF m 39 #[(.val (.int p0)), (.val (.int (2 : Int32))), (.val (.ref w_INTERFACE)), (.val (.int (1 : Int32))), (.val (.int (1 : Int32))), .unset] [(.int (1 : Int32))])
    refine Owes.by (fun _ k => XS.ifNo X11.here hx rfl (hb hby at_39) rfl (XT.i0_eq_f (by decide)) k) ?_
    show Owes p e below s (QL n0) room_1.cells room_1.slots T11 (mkF m 42 #[(.val (.int p0)), (.val (.int (2 : Int32))), (.val (.ref w_INTERFACE)), (.val (.int (1 : Int32))), (.val (.int (1 : Int32))), .unset] [])
    refine Owes.by (fun _ k => XS.aloadN X11.here hx rfl (hb hby at_42) rfl rfl k) ?_
    show Owes p e below s (QL n0) room_1.cells room_1.slots T11 (mkF m 43 #[(.val (.int p0)), (.val (.int (2 : Int32))), (.val (.ref w_INTERFACE)), (.val (.int (1 : Int32))), (.val (.int (1 : Int32))), .unset] [(.ref w_INTERFACE)])
    obtain ⟨cq12, kq12, qa12, qb12, qc12⟩ := isOf hZ e11 E_INTERFACE
    obtain ⟨_, _, ⟨T12, L12, k12, n12⟩, -, X12, ⟨Lc12, hQ12, l12, y12, z12⟩, st12⟩ := X11.virtualBack hx (y := (⟨"com/example/hard_check/hardcheck/TypeKind", "inputType", "()Z"⟩ : MethodName)) (z := (⟨"com/example/hard_check/hardcheck/TypeKind", "inputType", "()Z"⟩ : MethodName)) hown (mvT hZ (hw _ (List.mem_of_getElem? (i := 26) rfl))) (mvT hZ (hw _ (List.mem_of_getElem? (i := 27) rfl))) (notFace_of_selects (args := #[]) (mvT hZ (hw _ (List.mem_of_getElem? (i := 29) rfl)))) (mvT hZ (hw _ (List.mem_of_getElem? (i := 29) rfl))) (mvT hZ (hw _ (List.mem_of_getElem? (i := 28) rfl))) (by decide) (backOf (W := 0) (rmI l Z a0 hw [] w_INTERFACE 0 h0 n0 Z0 F_INTERFACE_inputType (by decide)) hZ (hw _ (List.mem_of_getElem? (i := 30) rfl)) (hw _ (List.mem_of_getElem? (i := 6) rfl)) (by decide) (by decide)) qa12 qc12 (g := (mkF m 43 #[(.val (.int p0)), (.val (.int (2 : Int32))), (.val (.ref w_INTERFACE)), (.val (.int (1 : Int32))), (.val (.int (1 : Int32))), .unset] [(.ref w_INTERFACE)])) rfl (by rw [hml]; rfl) (Steps.refl _) (argsL := []) (rest := []) (lenOf pd_Z rfl) rfl (by show 2 * 0 + _ ≤ _; exact Nat.le_of_eq rfl) (hb hby at_43) (fun _ _ => ⟨rfl, e11, (by decide : 0 + 0 ≤ _), (by decide : 0 + 0 ≤ _)⟩)
    dsimp only [Pt.U, Pt.locs, Pt.cells, Pt.slots] at X12 l12 y12 z12 st12 hQ12
    subst l12 y12 z12
    obtain ⟨rfl, rfl, e12⟩ := hQ12
    try rw [List.append_nil] at X12
    refine Owes.by (fun _ k => st12.trans k) ?_
    show Owes p e below s (QL n0) room_1.cells room_1.slots T12 (mkF m 46 #[(.val (.int p0)), (.val (.int (2 : Int32))), (.val (.ref w_INTERFACE)), (.val (.int (1 : Int32))), (.val (.int (1 : Int32))), .unset] [(.int (0 : Int32))])
    refine Owes.by (fun _ k => XS.ifNo X12.here hx rfl (hb hby at_46) rfl (XT.i0_ne_f (by decide)) k) ?_
    show Owes p e below s (QL n0) room_1.cells room_1.slots T12 (mkF m 49 #[(.val (.int p0)), (.val (.int (2 : Int32))), (.val (.ref w_INTERFACE)), (.val (.int (1 : Int32))), (.val (.int (1 : Int32))), .unset] [])
    refine Owes.by (fun _ k => XS.iconst X12.here hx rfl (hb hby at_49) k) ?_
    show Owes p e below s (QL n0) room_1.cells room_1.slots T12 (mkF m 50 #[(.val (.int p0)), (.val (.int (2 : Int32))), (.val (.ref w_INTERFACE)), (.val (.int (1 : Int32))), (.val (.int (1 : Int32))), .unset] [(.int (1 : Int32))])
    refine Owes.by (fun _ k => XS.goto X12.here hx rfl (pc0 := 50) (pc' := 54) rfl (hb hby at_50) (by decide) (by decide) k) ?_
    show Owes p e below s (QL n0) room_1.cells room_1.slots T12 (mkF m 54 #[(.val (.int p0)), (.val (.int (2 : Int32))), (.val (.ref w_INTERFACE)), (.val (.int (1 : Int32))), (.val (.int (1 : Int32))), .unset] [(.int (1 : Int32))])
    refine Owes.by (fun _ k => XS.istore X12.here hx rfl (hb hby at_54) rfl (l' := #[(.val (.int p0)), (.val (.int (2 : Int32))), (.val (.ref w_INTERFACE)), (.val (.int (1 : Int32))), (.val (.int (1 : Int32))), (.val (.int (1 : Int32)))]) rfl k) ?_
    show Owes p e below s (QL n0) room_1.cells room_1.slots T12 (mkF m 56 #[(.val (.int p0)), (.val (.int (2 : Int32))), (.val (.ref w_INTERFACE)), (.val (.int (1 : Int32))), (.val (.int (1 : Int32))), (.val (.int (1 : Int32)))] [])
    refine Owes.by (fun _ k => XS.iload X12.here hx rfl (hb hby at_56) rfl k) ?_
    show Owes p e below s (QL n0) room_1.cells room_1.slots T12 (mkF m 58 #[(.val (.int p0)), (.val (.int (2 : Int32))), (.val (.ref w_INTERFACE)), (.val (.int (1 : Int32))), (.val (.int (1 : Int32))), (.val (.int (1 : Int32)))] [(.int (1 : Int32))])
    refine Owes.by (fun _ k => XS.iloadN X12.here hx rfl (hb hby at_58) rfl k) ?_
    show Owes p e below s (QL n0) room_1.cells room_1.slots T12 (mkF m 59 #[(.val (.int p0)), (.val (.int (2 : Int32))), (.val (.ref w_INTERFACE)), (.val (.int (1 : Int32))), (.val (.int (1 : Int32))), (.val (.int (1 : Int32)))] [(.int (1 : Int32)), (.int (1 : Int32))])
    refine Owes.by (fun _ k => XS.icmpNo X12.here hx rfl (hb hby at_59) rfl (XT.ii_ne_f (by decide)) k) ?_
    show Owes p e below s (QL n0) room_1.cells room_1.slots T12 (mkF m 62 #[(.val (.int p0)), (.val (.int (2 : Int32))), (.val (.ref w_INTERFACE)), (.val (.int (1 : Int32))), (.val (.int (1 : Int32))), (.val (.int (1 : Int32)))] [])
    refine Owes.by (fun _ k => XS.iload X12.here hx rfl (hb hby at_62) rfl k) ?_
    show Owes p e below s (QL n0) room_1.cells room_1.slots T12 (mkF m 64 #[(.val (.int p0)), (.val (.int (2 : Int32))), (.val (.ref w_INTERFACE)), (.val (.int (1 : Int32))), (.val (.int (1 : Int32))), (.val (.int (1 : Int32)))] [(.int (1 : Int32))])
    refine Owes.by (fun _ k => XS.iload X12.here hx rfl (hb hby at_64) rfl k) ?_
    show Owes p e below s (QL n0) room_1.cells room_1.slots T12 (mkF m 66 #[(.val (.int p0)), (.val (.int (2 : Int32))), (.val (.ref w_INTERFACE)), (.val (.int (1 : Int32))), (.val (.int (1 : Int32))), (.val (.int (1 : Int32)))] [(.int (1 : Int32)), (.int (1 : Int32))])
    refine Owes.by (fun _ k => XS.icmpNo X12.here hx rfl (hb hby at_66) rfl (XT.ii_ne_f (by decide)) k) ?_
    show Owes p e below s (QL n0) room_1.cells room_1.slots T12 (mkF m 69 #[(.val (.int p0)), (.val (.int (2 : Int32))), (.val (.ref w_INTERFACE)), (.val (.int (1 : Int32))), (.val (.int (1 : Int32))), (.val (.int (1 : Int32)))] [])
    refine Owes.by (fun _ k => XS.iconst X12.here hx rfl (hb hby at_69) k) ?_
    show Owes p e below s (QL n0) room_1.cells room_1.slots T12 (mkF m 70 #[(.val (.int p0)), (.val (.int (2 : Int32))), (.val (.ref w_INTERFACE)), (.val (.int (1 : Int32))), (.val (.int (1 : Int32))), (.val (.int (1 : Int32)))] [(.int (1 : Int32))])
    refine Owes.by (fun _ k => XS.goto X12.here hx rfl (pc0 := 70) (pc' := 74) rfl (hb hby at_70) (by decide) (by decide) k) ?_
    show Owes p e below s (QL n0) room_1.cells room_1.slots T12 (mkF m 74 #[(.val (.int p0)), (.val (.int (2 : Int32))), (.val (.ref w_INTERFACE)), (.val (.int (1 : Int32))), (.val (.int (1 : Int32))), (.val (.int (1 : Int32)))] [(.int (1 : Int32))])
    refine Owes.ret X12 (v := some (.int (1 : Int32))) (fun h => by rw [Bd.returns] at h; cases h) hlk ?_ (by decide) (by decide) (fun fs hr => retN X12 hx (t := .boolean) Bd.returns (by simp) (hb hby at_74) hr)
    rw [e12]
    exact ⟨rfl, N0⟩
  · rw [q]
    show Owes p e below s (QL n0) room_1.cells room_1.slots s₁ (mkF m 7 #[(.val (.int p0)), .unset, .unset, .unset, .unset, .unset] [(.int (3 : Int32))])
    refine Owes.by (fun _ k => XS.istoreN X0.here hx rfl (hb hby at_7) rfl (l' := #[(.val (.int p0)), (.val (.int (3 : Int32))), .unset, .unset, .unset, .unset]) rfl k) ?_
    show Owes p e below s (QL n0) room_1.cells room_1.slots s₁ (mkF m 8 #[(.val (.int p0)), (.val (.int (3 : Int32))), .unset, .unset, .unset, .unset] [])
    refine Owes.by (fun _ k => XS.iloadN X0.here hx rfl (hb hby at_8) rfl k) ?_
    show Owes p e below s (QL n0) room_1.cells room_1.slots s₁ (mkF m 9 #[(.val (.int p0)), (.val (.int (3 : Int32))), .unset, .unset, .unset, .unset] [(.int (3 : Int32))])
    obtain ⟨_, _, ⟨T13, L13, k13, n13⟩, -, X13, ⟨Lc13, hQ13, l13, y13, z13⟩, st13⟩ := Jvm.LawKit.callS X0 hx (y := (⟨"com/example/hard_check/hardcheck/TypeKindCompositePinLaw", "pick", "(I)Lcom/example/hard_check/hardcheck/TypeKind;"⟩ : MethodName)) hown (mvT hZ (hw _ (List.mem_of_getElem? (i := 1) rfl))) (mvT hZ (hw _ (List.mem_of_getElem? (i := 2) rfl))) (mvT hZ (hw _ (List.mem_of_getElem? (i := 3) rfl))) (mvT hZ (hw _ (List.mem_of_getElem? (i := 4) rfl))) (by decide) (backOf (W := 0) (rmP l Z a0 hw [] 3 w_SCALAR w_OBJECT w_INTERFACE w_UNION w_ENUM w_INPUT_OBJECT w_UNION h0 n0 Z0 S_SCALAR S_OBJECT S_INTERFACE S_UNION S_ENUM S_INPUT_OBJECT (by simp +decide)) hZ (hw _ (List.mem_of_getElem? (i := 4) rfl)) (hw _ (List.mem_of_getElem? (i := 3) rfl)) (by decide) (by decide)) (g := (mkF m 9 #[(.val (.int p0)), (.val (.int (3 : Int32))), .unset, .unset, .unset, .unset] [(.int (3 : Int32))])) rfl (by rw [hml]; rfl) (argsL := [(.int (3 : Int32))]) (rest := []) (lenOf pd_I_Lcom_example_hard_check_hardcheck_TypeKind rfl) rfl (by show 2 * 0 + _ ≤ _; exact Nat.le_of_eq rfl) (hb hby at_9) (fun _ _ => ⟨rfl, e0, (by decide : 0 + 0 ≤ _), (by decide : 0 + 0 ≤ _)⟩)
    dsimp only [Pt.U, Pt.locs, Pt.cells, Pt.slots] at X13 l13 y13 z13 st13 hQ13
    subst l13 y13 z13
    obtain ⟨rfl, rfl, e13⟩ := hQ13
    try rw [List.append_nil] at X13
    refine Owes.by st13 ?_
    show Owes p e below s (QL n0) room_1.cells room_1.slots T13 (mkF m 12 #[(.val (.int p0)), (.val (.int (3 : Int32))), .unset, .unset, .unset, .unset] [(.ref w_UNION)])
    refine Owes.by (fun _ k => XS.astoreN X13.here hx rfl (hb hby at_12) rfl rfl (l' := #[(.val (.int p0)), (.val (.int (3 : Int32))), (.val (.ref w_UNION)), .unset, .unset, .unset]) rfl k) ?_
    show Owes p e below s (QL n0) room_1.cells room_1.slots T13 (mkF m 13 #[(.val (.int p0)), (.val (.int (3 : Int32))), (.val (.ref w_UNION)), .unset, .unset, .unset] [])
    refine Owes.by (fun _ k => XS.iloadN X13.here hx rfl (hb hby at_13) rfl k) ?_
    show Owes p e below s (QL n0) room_1.cells room_1.slots T13 (mkF m 14 #[(.val (.int p0)), (.val (.int (3 : Int32))), (.val (.ref w_UNION)), .unset, .unset, .unset] [(.int (3 : Int32))])
    refine Owes.by (fun _ k => XS.iconst X13.here hx rfl (hb hby at_14) k) ?_
    show Owes p e below s (QL n0) room_1.cells room_1.slots T13 (mkF m 15 #[(.val (.int p0)), (.val (.int (3 : Int32))), (.val (.ref w_UNION)), .unset, .unset, .unset] [(.int (1 : Int32)), (.int (3 : Int32))])
    refine Owes.by (fun _ k => XS.icmpNo X13.here hx rfl (hb hby at_15) rfl (XT.ii_lt_f (by decide)) k) ?_
    show Owes p e below s (QL n0) room_1.cells room_1.slots T13 (mkF m 18 #[(.val (.int p0)), (.val (.int (3 : Int32))), (.val (.ref w_UNION)), .unset, .unset, .unset] [])
    refine Owes.by (fun _ k => XS.iloadN X13.here hx rfl (hb hby at_18) rfl k) ?_
    show Owes p e below s (QL n0) room_1.cells room_1.slots T13 (mkF m 19 #[(.val (.int p0)), (.val (.int (3 : Int32))), (.val (.ref w_UNION)), .unset, .unset, .unset] [(.int (3 : Int32))])
    refine Owes.by (fun _ k => XS.iconst X13.here hx rfl (hb hby at_19) k) ?_
    show Owes p e below s (QL n0) room_1.cells room_1.slots T13 (mkF m 20 #[(.val (.int p0)), (.val (.int (3 : Int32))), (.val (.ref w_UNION)), .unset, .unset, .unset] [(.int (3 : Int32)), (.int (3 : Int32))])
    refine Owes.by (fun _ k => XS.icmpNo X13.here hx rfl (hb hby at_20) rfl (XT.ii_gt_f (by decide)) k) ?_
    show Owes p e below s (QL n0) room_1.cells room_1.slots T13 (mkF m 23 #[(.val (.int p0)), (.val (.int (3 : Int32))), (.val (.ref w_UNION)), .unset, .unset, .unset] [])
    refine Owes.by (fun _ k => XS.iconst X13.here hx rfl (hb hby at_23) k) ?_
    show Owes p e below s (QL n0) room_1.cells room_1.slots T13 (mkF m 24 #[(.val (.int p0)), (.val (.int (3 : Int32))), (.val (.ref w_UNION)), .unset, .unset, .unset] [(.int (1 : Int32))])
    refine Owes.by (fun _ k => XS.goto X13.here hx rfl (pc0 := 24) (pc' := 28) rfl (hb hby at_24) (by decide) (by decide) k) ?_
    show Owes p e below s (QL n0) room_1.cells room_1.slots T13 (mkF m 28 #[(.val (.int p0)), (.val (.int (3 : Int32))), (.val (.ref w_UNION)), .unset, .unset, .unset] [(.int (1 : Int32))])
    refine Owes.by (fun _ k => XS.istoreN X13.here hx rfl (hb hby at_28) rfl (l' := #[(.val (.int p0)), (.val (.int (3 : Int32))), (.val (.ref w_UNION)), (.val (.int (1 : Int32))), .unset, .unset]) rfl k) ?_
    show Owes p e below s (QL n0) room_1.cells room_1.slots T13 (mkF m 29 #[(.val (.int p0)), (.val (.int (3 : Int32))), (.val (.ref w_UNION)), (.val (.int (1 : Int32))), .unset, .unset] [])
    refine Owes.by (fun _ k => XS.aloadN X13.here hx rfl (hb hby at_29) rfl rfl k) ?_
    show Owes p e below s (QL n0) room_1.cells room_1.slots T13 (mkF m 30 #[(.val (.int p0)), (.val (.int (3 : Int32))), (.val (.ref w_UNION)), (.val (.int (1 : Int32))), .unset, .unset] [(.ref w_UNION)])
    obtain ⟨cq14, kq14, qa14, qb14, qc14⟩ := isOf hZ e13 E_UNION
    obtain ⟨_, _, ⟨T14, L14, k14, n14⟩, -, X14, ⟨Lc14, hQ14, l14, y14, z14⟩, st14⟩ := X13.virtualBack hx (y := (⟨"com/example/hard_check/hardcheck/TypeKind", "composite", "()Z"⟩ : MethodName)) (z := (⟨"com/example/hard_check/hardcheck/TypeKind", "composite", "()Z"⟩ : MethodName)) hown (mvT hZ (hw _ (List.mem_of_getElem? (i := 8) rfl))) (mvT hZ (hw _ (List.mem_of_getElem? (i := 9) rfl))) (notFace_of_selects (args := #[]) (mvT hZ (hw _ (List.mem_of_getElem? (i := 11) rfl)))) (mvT hZ (hw _ (List.mem_of_getElem? (i := 11) rfl))) (mvT hZ (hw _ (List.mem_of_getElem? (i := 10) rfl))) (by decide) (backOf (W := 0) (rmC l Z a0 hw [] w_UNION w_OBJECT w_INTERFACE w_UNION 1 h0 n0 Z0 S_OBJECT S_INTERFACE S_UNION (by simp)) hZ (hw _ (List.mem_of_getElem? (i := 12) rfl)) (hw _ (List.mem_of_getElem? (i := 6) rfl)) (by decide) (by decide)) qa14 qc14 (g := (mkF m 30 #[(.val (.int p0)), (.val (.int (3 : Int32))), (.val (.ref w_UNION)), (.val (.int (1 : Int32))), .unset, .unset] [(.ref w_UNION)])) rfl (by rw [hml]; rfl) (Steps.refl _) (argsL := []) (rest := []) (lenOf pd_Z rfl) rfl (by show 2 * 0 + _ ≤ _; exact Nat.le_of_eq rfl) (hb hby at_30) (fun _ _ => ⟨rfl, e13, (by decide : 0 + 0 ≤ _), (by decide : 0 + 0 ≤ _)⟩)
    dsimp only [Pt.U, Pt.locs, Pt.cells, Pt.slots] at X14 l14 y14 z14 st14 hQ14
    subst l14 y14 z14
    obtain ⟨rfl, rfl, e14⟩ := hQ14
    try rw [List.append_nil] at X14
    refine Owes.by (fun _ k => st14.trans k) ?_
    show Owes p e below s (QL n0) room_1.cells room_1.slots T14 (mkF m 33 #[(.val (.int p0)), (.val (.int (3 : Int32))), (.val (.ref w_UNION)), (.val (.int (1 : Int32))), .unset, .unset] [(.int (1 : Int32))])
    refine Owes.by (fun _ k => XS.istore X14.here hx rfl (hb hby at_33) rfl (l' := #[(.val (.int p0)), (.val (.int (3 : Int32))), (.val (.ref w_UNION)), (.val (.int (1 : Int32))), (.val (.int (1 : Int32))), .unset]) rfl k) ?_
    show Owes p e below s (QL n0) room_1.cells room_1.slots T14 (mkF m 35 #[(.val (.int p0)), (.val (.int (3 : Int32))), (.val (.ref w_UNION)), (.val (.int (1 : Int32))), (.val (.int (1 : Int32))), .unset] [])
    refine Owes.by (fun _ k => XS.aloadN X14.here hx rfl (hb hby at_35) rfl rfl k) ?_
    show Owes p e below s (QL n0) room_1.cells room_1.slots T14 (mkF m 36 #[(.val (.int p0)), (.val (.int (3 : Int32))), (.val (.ref w_UNION)), (.val (.int (1 : Int32))), (.val (.int (1 : Int32))), .unset] [(.ref w_UNION)])
    obtain ⟨cq15, kq15, qa15, qb15, qc15⟩ := isOf hZ e14 E_UNION
    obtain ⟨_, _, ⟨T15, L15, k15, n15⟩, -, X15, ⟨Lc15, hQ15, l15, y15, z15⟩, st15⟩ := X14.virtualBack hx (y := (⟨"com/example/hard_check/hardcheck/TypeKind", "outputType", "()Z"⟩ : MethodName)) (z := (⟨"com/example/hard_check/hardcheck/TypeKind", "outputType", "()Z"⟩ : MethodName)) hown (mvT hZ (hw _ (List.mem_of_getElem? (i := 19) rfl))) (mvT hZ (hw _ (List.mem_of_getElem? (i := 20) rfl))) (notFace_of_selects (args := #[]) (mvT hZ (hw _ (List.mem_of_getElem? (i := 22) rfl)))) (mvT hZ (hw _ (List.mem_of_getElem? (i := 22) rfl))) (mvT hZ (hw _ (List.mem_of_getElem? (i := 21) rfl))) (by decide) (backOf (W := 0) (rmU l Z a0 hw [] w_UNION 1 h0 n0 Z0 F_UNION_outputType (by decide)) hZ (hw _ (List.mem_of_getElem? (i := 23) rfl)) (hw _ (List.mem_of_getElem? (i := 6) rfl)) (by decide) (by decide)) qa15 qc15 (g := (mkF m 36 #[(.val (.int p0)), (.val (.int (3 : Int32))), (.val (.ref w_UNION)), (.val (.int (1 : Int32))), (.val (.int (1 : Int32))), .unset] [(.ref w_UNION)])) rfl (by rw [hml]; rfl) (Steps.refl _) (argsL := []) (rest := []) (lenOf pd_Z rfl) rfl (by show 2 * 0 + _ ≤ _; exact Nat.le_of_eq rfl) (hb hby at_36) (fun _ _ => ⟨rfl, e14, (by decide : 0 + 0 ≤ _), (by decide : 0 + 0 ≤ _)⟩)
    dsimp only [Pt.U, Pt.locs, Pt.cells, Pt.slots] at X15 l15 y15 z15 st15 hQ15
    subst l15 y15 z15
    obtain ⟨rfl, rfl, e15⟩ := hQ15
    try rw [List.append_nil] at X15
    refine Owes.by (fun _ k => st15.trans k) ?_
    show Owes p e below s (QL n0) room_1.cells room_1.slots T15 (mkF m 39 #[(.val (.int p0)), (.val (.int (3 : Int32))), (.val (.ref w_UNION)), (.val (.int (1 : Int32))), (.val (.int (1 : Int32))), .unset] [(.int (1 : Int32))])
    refine Owes.by (fun _ k => XS.ifNo X15.here hx rfl (hb hby at_39) rfl (XT.i0_eq_f (by decide)) k) ?_
    show Owes p e below s (QL n0) room_1.cells room_1.slots T15 (mkF m 42 #[(.val (.int p0)), (.val (.int (3 : Int32))), (.val (.ref w_UNION)), (.val (.int (1 : Int32))), (.val (.int (1 : Int32))), .unset] [])
    refine Owes.by (fun _ k => XS.aloadN X15.here hx rfl (hb hby at_42) rfl rfl k) ?_
    show Owes p e below s (QL n0) room_1.cells room_1.slots T15 (mkF m 43 #[(.val (.int p0)), (.val (.int (3 : Int32))), (.val (.ref w_UNION)), (.val (.int (1 : Int32))), (.val (.int (1 : Int32))), .unset] [(.ref w_UNION)])
    obtain ⟨cq16, kq16, qa16, qb16, qc16⟩ := isOf hZ e15 E_UNION
    obtain ⟨_, _, ⟨T16, L16, k16, n16⟩, -, X16, ⟨Lc16, hQ16, l16, y16, z16⟩, st16⟩ := X15.virtualBack hx (y := (⟨"com/example/hard_check/hardcheck/TypeKind", "inputType", "()Z"⟩ : MethodName)) (z := (⟨"com/example/hard_check/hardcheck/TypeKind", "inputType", "()Z"⟩ : MethodName)) hown (mvT hZ (hw _ (List.mem_of_getElem? (i := 26) rfl))) (mvT hZ (hw _ (List.mem_of_getElem? (i := 27) rfl))) (notFace_of_selects (args := #[]) (mvT hZ (hw _ (List.mem_of_getElem? (i := 29) rfl)))) (mvT hZ (hw _ (List.mem_of_getElem? (i := 29) rfl))) (mvT hZ (hw _ (List.mem_of_getElem? (i := 28) rfl))) (by decide) (backOf (W := 0) (rmI l Z a0 hw [] w_UNION 0 h0 n0 Z0 F_UNION_inputType (by decide)) hZ (hw _ (List.mem_of_getElem? (i := 30) rfl)) (hw _ (List.mem_of_getElem? (i := 6) rfl)) (by decide) (by decide)) qa16 qc16 (g := (mkF m 43 #[(.val (.int p0)), (.val (.int (3 : Int32))), (.val (.ref w_UNION)), (.val (.int (1 : Int32))), (.val (.int (1 : Int32))), .unset] [(.ref w_UNION)])) rfl (by rw [hml]; rfl) (Steps.refl _) (argsL := []) (rest := []) (lenOf pd_Z rfl) rfl (by show 2 * 0 + _ ≤ _; exact Nat.le_of_eq rfl) (hb hby at_43) (fun _ _ => ⟨rfl, e15, (by decide : 0 + 0 ≤ _), (by decide : 0 + 0 ≤ _)⟩)
    dsimp only [Pt.U, Pt.locs, Pt.cells, Pt.slots] at X16 l16 y16 z16 st16 hQ16
    subst l16 y16 z16
    obtain ⟨rfl, rfl, e16⟩ := hQ16
    try rw [List.append_nil] at X16
    refine Owes.by (fun _ k => st16.trans k) ?_
    show Owes p e below s (QL n0) room_1.cells room_1.slots T16 (mkF m 46 #[(.val (.int p0)), (.val (.int (3 : Int32))), (.val (.ref w_UNION)), (.val (.int (1 : Int32))), (.val (.int (1 : Int32))), .unset] [(.int (0 : Int32))])
    refine Owes.by (fun _ k => XS.ifNo X16.here hx rfl (hb hby at_46) rfl (XT.i0_ne_f (by decide)) k) ?_
    show Owes p e below s (QL n0) room_1.cells room_1.slots T16 (mkF m 49 #[(.val (.int p0)), (.val (.int (3 : Int32))), (.val (.ref w_UNION)), (.val (.int (1 : Int32))), (.val (.int (1 : Int32))), .unset] [])
    refine Owes.by (fun _ k => XS.iconst X16.here hx rfl (hb hby at_49) k) ?_
    show Owes p e below s (QL n0) room_1.cells room_1.slots T16 (mkF m 50 #[(.val (.int p0)), (.val (.int (3 : Int32))), (.val (.ref w_UNION)), (.val (.int (1 : Int32))), (.val (.int (1 : Int32))), .unset] [(.int (1 : Int32))])
    refine Owes.by (fun _ k => XS.goto X16.here hx rfl (pc0 := 50) (pc' := 54) rfl (hb hby at_50) (by decide) (by decide) k) ?_
    show Owes p e below s (QL n0) room_1.cells room_1.slots T16 (mkF m 54 #[(.val (.int p0)), (.val (.int (3 : Int32))), (.val (.ref w_UNION)), (.val (.int (1 : Int32))), (.val (.int (1 : Int32))), .unset] [(.int (1 : Int32))])
    refine Owes.by (fun _ k => XS.istore X16.here hx rfl (hb hby at_54) rfl (l' := #[(.val (.int p0)), (.val (.int (3 : Int32))), (.val (.ref w_UNION)), (.val (.int (1 : Int32))), (.val (.int (1 : Int32))), (.val (.int (1 : Int32)))]) rfl k) ?_
    show Owes p e below s (QL n0) room_1.cells room_1.slots T16 (mkF m 56 #[(.val (.int p0)), (.val (.int (3 : Int32))), (.val (.ref w_UNION)), (.val (.int (1 : Int32))), (.val (.int (1 : Int32))), (.val (.int (1 : Int32)))] [])
    refine Owes.by (fun _ k => XS.iload X16.here hx rfl (hb hby at_56) rfl k) ?_
    show Owes p e below s (QL n0) room_1.cells room_1.slots T16 (mkF m 58 #[(.val (.int p0)), (.val (.int (3 : Int32))), (.val (.ref w_UNION)), (.val (.int (1 : Int32))), (.val (.int (1 : Int32))), (.val (.int (1 : Int32)))] [(.int (1 : Int32))])
    refine Owes.by (fun _ k => XS.iloadN X16.here hx rfl (hb hby at_58) rfl k) ?_
    show Owes p e below s (QL n0) room_1.cells room_1.slots T16 (mkF m 59 #[(.val (.int p0)), (.val (.int (3 : Int32))), (.val (.ref w_UNION)), (.val (.int (1 : Int32))), (.val (.int (1 : Int32))), (.val (.int (1 : Int32)))] [(.int (1 : Int32)), (.int (1 : Int32))])
    refine Owes.by (fun _ k => XS.icmpNo X16.here hx rfl (hb hby at_59) rfl (XT.ii_ne_f (by decide)) k) ?_
    show Owes p e below s (QL n0) room_1.cells room_1.slots T16 (mkF m 62 #[(.val (.int p0)), (.val (.int (3 : Int32))), (.val (.ref w_UNION)), (.val (.int (1 : Int32))), (.val (.int (1 : Int32))), (.val (.int (1 : Int32)))] [])
    refine Owes.by (fun _ k => XS.iload X16.here hx rfl (hb hby at_62) rfl k) ?_
    show Owes p e below s (QL n0) room_1.cells room_1.slots T16 (mkF m 64 #[(.val (.int p0)), (.val (.int (3 : Int32))), (.val (.ref w_UNION)), (.val (.int (1 : Int32))), (.val (.int (1 : Int32))), (.val (.int (1 : Int32)))] [(.int (1 : Int32))])
    refine Owes.by (fun _ k => XS.iload X16.here hx rfl (hb hby at_64) rfl k) ?_
    show Owes p e below s (QL n0) room_1.cells room_1.slots T16 (mkF m 66 #[(.val (.int p0)), (.val (.int (3 : Int32))), (.val (.ref w_UNION)), (.val (.int (1 : Int32))), (.val (.int (1 : Int32))), (.val (.int (1 : Int32)))] [(.int (1 : Int32)), (.int (1 : Int32))])
    refine Owes.by (fun _ k => XS.icmpNo X16.here hx rfl (hb hby at_66) rfl (XT.ii_ne_f (by decide)) k) ?_
    show Owes p e below s (QL n0) room_1.cells room_1.slots T16 (mkF m 69 #[(.val (.int p0)), (.val (.int (3 : Int32))), (.val (.ref w_UNION)), (.val (.int (1 : Int32))), (.val (.int (1 : Int32))), (.val (.int (1 : Int32)))] [])
    refine Owes.by (fun _ k => XS.iconst X16.here hx rfl (hb hby at_69) k) ?_
    show Owes p e below s (QL n0) room_1.cells room_1.slots T16 (mkF m 70 #[(.val (.int p0)), (.val (.int (3 : Int32))), (.val (.ref w_UNION)), (.val (.int (1 : Int32))), (.val (.int (1 : Int32))), (.val (.int (1 : Int32)))] [(.int (1 : Int32))])
    refine Owes.by (fun _ k => XS.goto X16.here hx rfl (pc0 := 70) (pc' := 74) rfl (hb hby at_70) (by decide) (by decide) k) ?_
    show Owes p e below s (QL n0) room_1.cells room_1.slots T16 (mkF m 74 #[(.val (.int p0)), (.val (.int (3 : Int32))), (.val (.ref w_UNION)), (.val (.int (1 : Int32))), (.val (.int (1 : Int32))), (.val (.int (1 : Int32)))] [(.int (1 : Int32))])
    refine Owes.ret X16 (v := some (.int (1 : Int32))) (fun h => by rw [Bd.returns] at h; cases h) hlk ?_ (by decide) (by decide) (fun fs hr => retN X16 hx (t := .boolean) Bd.returns (by simp) (hb hby at_74) hr)
    rw [e16]
    exact ⟨rfl, N0⟩
  · rw [q]
    show Owes p e below s (QL n0) room_1.cells room_1.slots s₁ (mkF m 7 #[(.val (.int p0)), .unset, .unset, .unset, .unset, .unset] [(.int (4 : Int32))])
    refine Owes.by (fun _ k => XS.istoreN X0.here hx rfl (hb hby at_7) rfl (l' := #[(.val (.int p0)), (.val (.int (4 : Int32))), .unset, .unset, .unset, .unset]) rfl k) ?_
    show Owes p e below s (QL n0) room_1.cells room_1.slots s₁ (mkF m 8 #[(.val (.int p0)), (.val (.int (4 : Int32))), .unset, .unset, .unset, .unset] [])
    refine Owes.by (fun _ k => XS.iloadN X0.here hx rfl (hb hby at_8) rfl k) ?_
    show Owes p e below s (QL n0) room_1.cells room_1.slots s₁ (mkF m 9 #[(.val (.int p0)), (.val (.int (4 : Int32))), .unset, .unset, .unset, .unset] [(.int (4 : Int32))])
    obtain ⟨_, _, ⟨T17, L17, k17, n17⟩, -, X17, ⟨Lc17, hQ17, l17, y17, z17⟩, st17⟩ := Jvm.LawKit.callS X0 hx (y := (⟨"com/example/hard_check/hardcheck/TypeKindCompositePinLaw", "pick", "(I)Lcom/example/hard_check/hardcheck/TypeKind;"⟩ : MethodName)) hown (mvT hZ (hw _ (List.mem_of_getElem? (i := 1) rfl))) (mvT hZ (hw _ (List.mem_of_getElem? (i := 2) rfl))) (mvT hZ (hw _ (List.mem_of_getElem? (i := 3) rfl))) (mvT hZ (hw _ (List.mem_of_getElem? (i := 4) rfl))) (by decide) (backOf (W := 0) (rmP l Z a0 hw [] 4 w_SCALAR w_OBJECT w_INTERFACE w_UNION w_ENUM w_INPUT_OBJECT w_ENUM h0 n0 Z0 S_SCALAR S_OBJECT S_INTERFACE S_UNION S_ENUM S_INPUT_OBJECT (by simp +decide)) hZ (hw _ (List.mem_of_getElem? (i := 4) rfl)) (hw _ (List.mem_of_getElem? (i := 3) rfl)) (by decide) (by decide)) (g := (mkF m 9 #[(.val (.int p0)), (.val (.int (4 : Int32))), .unset, .unset, .unset, .unset] [(.int (4 : Int32))])) rfl (by rw [hml]; rfl) (argsL := [(.int (4 : Int32))]) (rest := []) (lenOf pd_I_Lcom_example_hard_check_hardcheck_TypeKind rfl) rfl (by show 2 * 0 + _ ≤ _; exact Nat.le_of_eq rfl) (hb hby at_9) (fun _ _ => ⟨rfl, e0, (by decide : 0 + 0 ≤ _), (by decide : 0 + 0 ≤ _)⟩)
    dsimp only [Pt.U, Pt.locs, Pt.cells, Pt.slots] at X17 l17 y17 z17 st17 hQ17
    subst l17 y17 z17
    obtain ⟨rfl, rfl, e17⟩ := hQ17
    try rw [List.append_nil] at X17
    refine Owes.by st17 ?_
    show Owes p e below s (QL n0) room_1.cells room_1.slots T17 (mkF m 12 #[(.val (.int p0)), (.val (.int (4 : Int32))), .unset, .unset, .unset, .unset] [(.ref w_ENUM)])
    refine Owes.by (fun _ k => XS.astoreN X17.here hx rfl (hb hby at_12) rfl rfl (l' := #[(.val (.int p0)), (.val (.int (4 : Int32))), (.val (.ref w_ENUM)), .unset, .unset, .unset]) rfl k) ?_
    show Owes p e below s (QL n0) room_1.cells room_1.slots T17 (mkF m 13 #[(.val (.int p0)), (.val (.int (4 : Int32))), (.val (.ref w_ENUM)), .unset, .unset, .unset] [])
    refine Owes.by (fun _ k => XS.iloadN X17.here hx rfl (hb hby at_13) rfl k) ?_
    show Owes p e below s (QL n0) room_1.cells room_1.slots T17 (mkF m 14 #[(.val (.int p0)), (.val (.int (4 : Int32))), (.val (.ref w_ENUM)), .unset, .unset, .unset] [(.int (4 : Int32))])
    refine Owes.by (fun _ k => XS.iconst X17.here hx rfl (hb hby at_14) k) ?_
    show Owes p e below s (QL n0) room_1.cells room_1.slots T17 (mkF m 15 #[(.val (.int p0)), (.val (.int (4 : Int32))), (.val (.ref w_ENUM)), .unset, .unset, .unset] [(.int (1 : Int32)), (.int (4 : Int32))])
    refine Owes.by (fun _ k => XS.icmpNo X17.here hx rfl (hb hby at_15) rfl (XT.ii_lt_f (by decide)) k) ?_
    show Owes p e below s (QL n0) room_1.cells room_1.slots T17 (mkF m 18 #[(.val (.int p0)), (.val (.int (4 : Int32))), (.val (.ref w_ENUM)), .unset, .unset, .unset] [])
    refine Owes.by (fun _ k => XS.iloadN X17.here hx rfl (hb hby at_18) rfl k) ?_
    show Owes p e below s (QL n0) room_1.cells room_1.slots T17 (mkF m 19 #[(.val (.int p0)), (.val (.int (4 : Int32))), (.val (.ref w_ENUM)), .unset, .unset, .unset] [(.int (4 : Int32))])
    refine Owes.by (fun _ k => XS.iconst X17.here hx rfl (hb hby at_19) k) ?_
    show Owes p e below s (QL n0) room_1.cells room_1.slots T17 (mkF m 20 #[(.val (.int p0)), (.val (.int (4 : Int32))), (.val (.ref w_ENUM)), .unset, .unset, .unset] [(.int (3 : Int32)), (.int (4 : Int32))])
    refine Owes.by (fun _ k => XS.icmpYes X17.here hx rfl (pc0 := 20) (pc' := 27) rfl (hb hby at_20) rfl (XT.ii_gt_t (by decide)) (by decide) (by decide) k) ?_
    show Owes p e below s (QL n0) room_1.cells room_1.slots T17 (mkF m 27 #[(.val (.int p0)), (.val (.int (4 : Int32))), (.val (.ref w_ENUM)), .unset, .unset, .unset] [])
    refine Owes.by (fun _ k => XS.iconst X17.here hx rfl (hb hby at_27) k) ?_
    show Owes p e below s (QL n0) room_1.cells room_1.slots T17 (mkF m 28 #[(.val (.int p0)), (.val (.int (4 : Int32))), (.val (.ref w_ENUM)), .unset, .unset, .unset] [(.int (0 : Int32))])
    refine Owes.by (fun _ k => XS.istoreN X17.here hx rfl (hb hby at_28) rfl (l' := #[(.val (.int p0)), (.val (.int (4 : Int32))), (.val (.ref w_ENUM)), (.val (.int (0 : Int32))), .unset, .unset]) rfl k) ?_
    show Owes p e below s (QL n0) room_1.cells room_1.slots T17 (mkF m 29 #[(.val (.int p0)), (.val (.int (4 : Int32))), (.val (.ref w_ENUM)), (.val (.int (0 : Int32))), .unset, .unset] [])
    refine Owes.by (fun _ k => XS.aloadN X17.here hx rfl (hb hby at_29) rfl rfl k) ?_
    show Owes p e below s (QL n0) room_1.cells room_1.slots T17 (mkF m 30 #[(.val (.int p0)), (.val (.int (4 : Int32))), (.val (.ref w_ENUM)), (.val (.int (0 : Int32))), .unset, .unset] [(.ref w_ENUM)])
    obtain ⟨cq18, kq18, qa18, qb18, qc18⟩ := isOf hZ e17 E_ENUM
    obtain ⟨_, _, ⟨T18, L18, k18, n18⟩, -, X18, ⟨Lc18, hQ18, l18, y18, z18⟩, st18⟩ := X17.virtualBack hx (y := (⟨"com/example/hard_check/hardcheck/TypeKind", "composite", "()Z"⟩ : MethodName)) (z := (⟨"com/example/hard_check/hardcheck/TypeKind", "composite", "()Z"⟩ : MethodName)) hown (mvT hZ (hw _ (List.mem_of_getElem? (i := 8) rfl))) (mvT hZ (hw _ (List.mem_of_getElem? (i := 9) rfl))) (notFace_of_selects (args := #[]) (mvT hZ (hw _ (List.mem_of_getElem? (i := 11) rfl)))) (mvT hZ (hw _ (List.mem_of_getElem? (i := 11) rfl))) (mvT hZ (hw _ (List.mem_of_getElem? (i := 10) rfl))) (by decide) (backOf (W := 0) (rmC l Z a0 hw [] w_ENUM w_OBJECT w_INTERFACE w_UNION 0 h0 n0 Z0 S_OBJECT S_INTERFACE S_UNION (by simp [n_ENUM_OBJECT, n_ENUM_INTERFACE, n_ENUM_UNION])) hZ (hw _ (List.mem_of_getElem? (i := 12) rfl)) (hw _ (List.mem_of_getElem? (i := 6) rfl)) (by decide) (by decide)) qa18 qc18 (g := (mkF m 30 #[(.val (.int p0)), (.val (.int (4 : Int32))), (.val (.ref w_ENUM)), (.val (.int (0 : Int32))), .unset, .unset] [(.ref w_ENUM)])) rfl (by rw [hml]; rfl) (Steps.refl _) (argsL := []) (rest := []) (lenOf pd_Z rfl) rfl (by show 2 * 0 + _ ≤ _; exact Nat.le_of_eq rfl) (hb hby at_30) (fun _ _ => ⟨rfl, e17, (by decide : 0 + 0 ≤ _), (by decide : 0 + 0 ≤ _)⟩)
    dsimp only [Pt.U, Pt.locs, Pt.cells, Pt.slots] at X18 l18 y18 z18 st18 hQ18
    subst l18 y18 z18
    obtain ⟨rfl, rfl, e18⟩ := hQ18
    try rw [List.append_nil] at X18
    refine Owes.by (fun _ k => st18.trans k) ?_
    show Owes p e below s (QL n0) room_1.cells room_1.slots T18 (mkF m 33 #[(.val (.int p0)), (.val (.int (4 : Int32))), (.val (.ref w_ENUM)), (.val (.int (0 : Int32))), .unset, .unset] [(.int (0 : Int32))])
    refine Owes.by (fun _ k => XS.istore X18.here hx rfl (hb hby at_33) rfl (l' := #[(.val (.int p0)), (.val (.int (4 : Int32))), (.val (.ref w_ENUM)), (.val (.int (0 : Int32))), (.val (.int (0 : Int32))), .unset]) rfl k) ?_
    show Owes p e below s (QL n0) room_1.cells room_1.slots T18 (mkF m 35 #[(.val (.int p0)), (.val (.int (4 : Int32))), (.val (.ref w_ENUM)), (.val (.int (0 : Int32))), (.val (.int (0 : Int32))), .unset] [])
    refine Owes.by (fun _ k => XS.aloadN X18.here hx rfl (hb hby at_35) rfl rfl k) ?_
    show Owes p e below s (QL n0) room_1.cells room_1.slots T18 (mkF m 36 #[(.val (.int p0)), (.val (.int (4 : Int32))), (.val (.ref w_ENUM)), (.val (.int (0 : Int32))), (.val (.int (0 : Int32))), .unset] [(.ref w_ENUM)])
    obtain ⟨cq19, kq19, qa19, qb19, qc19⟩ := isOf hZ e18 E_ENUM
    obtain ⟨_, _, ⟨T19, L19, k19, n19⟩, -, X19, ⟨Lc19, hQ19, l19, y19, z19⟩, st19⟩ := X18.virtualBack hx (y := (⟨"com/example/hard_check/hardcheck/TypeKind", "outputType", "()Z"⟩ : MethodName)) (z := (⟨"com/example/hard_check/hardcheck/TypeKind", "outputType", "()Z"⟩ : MethodName)) hown (mvT hZ (hw _ (List.mem_of_getElem? (i := 19) rfl))) (mvT hZ (hw _ (List.mem_of_getElem? (i := 20) rfl))) (notFace_of_selects (args := #[]) (mvT hZ (hw _ (List.mem_of_getElem? (i := 22) rfl)))) (mvT hZ (hw _ (List.mem_of_getElem? (i := 22) rfl))) (mvT hZ (hw _ (List.mem_of_getElem? (i := 21) rfl))) (by decide) (backOf (W := 0) (rmU l Z a0 hw [] w_ENUM 1 h0 n0 Z0 F_ENUM_outputType (by decide)) hZ (hw _ (List.mem_of_getElem? (i := 23) rfl)) (hw _ (List.mem_of_getElem? (i := 6) rfl)) (by decide) (by decide)) qa19 qc19 (g := (mkF m 36 #[(.val (.int p0)), (.val (.int (4 : Int32))), (.val (.ref w_ENUM)), (.val (.int (0 : Int32))), (.val (.int (0 : Int32))), .unset] [(.ref w_ENUM)])) rfl (by rw [hml]; rfl) (Steps.refl _) (argsL := []) (rest := []) (lenOf pd_Z rfl) rfl (by show 2 * 0 + _ ≤ _; exact Nat.le_of_eq rfl) (hb hby at_36) (fun _ _ => ⟨rfl, e18, (by decide : 0 + 0 ≤ _), (by decide : 0 + 0 ≤ _)⟩)
    dsimp only [Pt.U, Pt.locs, Pt.cells, Pt.slots] at X19 l19 y19 z19 st19 hQ19
    subst l19 y19 z19
    obtain ⟨rfl, rfl, e19⟩ := hQ19
    try rw [List.append_nil] at X19
    refine Owes.by (fun _ k => st19.trans k) ?_
    show Owes p e below s (QL n0) room_1.cells room_1.slots T19 (mkF m 39 #[(.val (.int p0)), (.val (.int (4 : Int32))), (.val (.ref w_ENUM)), (.val (.int (0 : Int32))), (.val (.int (0 : Int32))), .unset] [(.int (1 : Int32))])
    refine Owes.by (fun _ k => XS.ifNo X19.here hx rfl (hb hby at_39) rfl (XT.i0_eq_f (by decide)) k) ?_
    show Owes p e below s (QL n0) room_1.cells room_1.slots T19 (mkF m 42 #[(.val (.int p0)), (.val (.int (4 : Int32))), (.val (.ref w_ENUM)), (.val (.int (0 : Int32))), (.val (.int (0 : Int32))), .unset] [])
    refine Owes.by (fun _ k => XS.aloadN X19.here hx rfl (hb hby at_42) rfl rfl k) ?_
    show Owes p e below s (QL n0) room_1.cells room_1.slots T19 (mkF m 43 #[(.val (.int p0)), (.val (.int (4 : Int32))), (.val (.ref w_ENUM)), (.val (.int (0 : Int32))), (.val (.int (0 : Int32))), .unset] [(.ref w_ENUM)])
    obtain ⟨cq20, kq20, qa20, qb20, qc20⟩ := isOf hZ e19 E_ENUM
    obtain ⟨_, _, ⟨T20, L20, k20, n20⟩, -, X20, ⟨Lc20, hQ20, l20, y20, z20⟩, st20⟩ := X19.virtualBack hx (y := (⟨"com/example/hard_check/hardcheck/TypeKind", "inputType", "()Z"⟩ : MethodName)) (z := (⟨"com/example/hard_check/hardcheck/TypeKind", "inputType", "()Z"⟩ : MethodName)) hown (mvT hZ (hw _ (List.mem_of_getElem? (i := 26) rfl))) (mvT hZ (hw _ (List.mem_of_getElem? (i := 27) rfl))) (notFace_of_selects (args := #[]) (mvT hZ (hw _ (List.mem_of_getElem? (i := 29) rfl)))) (mvT hZ (hw _ (List.mem_of_getElem? (i := 29) rfl))) (mvT hZ (hw _ (List.mem_of_getElem? (i := 28) rfl))) (by decide) (backOf (W := 0) (rmI l Z a0 hw [] w_ENUM 1 h0 n0 Z0 F_ENUM_inputType (by decide)) hZ (hw _ (List.mem_of_getElem? (i := 30) rfl)) (hw _ (List.mem_of_getElem? (i := 6) rfl)) (by decide) (by decide)) qa20 qc20 (g := (mkF m 43 #[(.val (.int p0)), (.val (.int (4 : Int32))), (.val (.ref w_ENUM)), (.val (.int (0 : Int32))), (.val (.int (0 : Int32))), .unset] [(.ref w_ENUM)])) rfl (by rw [hml]; rfl) (Steps.refl _) (argsL := []) (rest := []) (lenOf pd_Z rfl) rfl (by show 2 * 0 + _ ≤ _; exact Nat.le_of_eq rfl) (hb hby at_43) (fun _ _ => ⟨rfl, e19, (by decide : 0 + 0 ≤ _), (by decide : 0 + 0 ≤ _)⟩)
    dsimp only [Pt.U, Pt.locs, Pt.cells, Pt.slots] at X20 l20 y20 z20 st20 hQ20
    subst l20 y20 z20
    obtain ⟨rfl, rfl, e20⟩ := hQ20
    try rw [List.append_nil] at X20
    refine Owes.by (fun _ k => st20.trans k) ?_
    show Owes p e below s (QL n0) room_1.cells room_1.slots T20 (mkF m 46 #[(.val (.int p0)), (.val (.int (4 : Int32))), (.val (.ref w_ENUM)), (.val (.int (0 : Int32))), (.val (.int (0 : Int32))), .unset] [(.int (1 : Int32))])
    refine Owes.by (fun _ k => XS.ifYes X20.here hx rfl (pc0 := 46) (pc' := 53) rfl (hb hby at_46) rfl (XT.i0_ne_t (by decide)) (by decide) (by decide) k) ?_
    show Owes p e below s (QL n0) room_1.cells room_1.slots T20 (mkF m 53 #[(.val (.int p0)), (.val (.int (4 : Int32))), (.val (.ref w_ENUM)), (.val (.int (0 : Int32))), (.val (.int (0 : Int32))), .unset] [])
    refine Owes.by (fun _ k => XS.iconst X20.here hx rfl (hb hby at_53) k) ?_
    show Owes p e below s (QL n0) room_1.cells room_1.slots T20 (mkF m 54 #[(.val (.int p0)), (.val (.int (4 : Int32))), (.val (.ref w_ENUM)), (.val (.int (0 : Int32))), (.val (.int (0 : Int32))), .unset] [(.int (0 : Int32))])
    refine Owes.by (fun _ k => XS.istore X20.here hx rfl (hb hby at_54) rfl (l' := #[(.val (.int p0)), (.val (.int (4 : Int32))), (.val (.ref w_ENUM)), (.val (.int (0 : Int32))), (.val (.int (0 : Int32))), (.val (.int (0 : Int32)))]) rfl k) ?_
    show Owes p e below s (QL n0) room_1.cells room_1.slots T20 (mkF m 56 #[(.val (.int p0)), (.val (.int (4 : Int32))), (.val (.ref w_ENUM)), (.val (.int (0 : Int32))), (.val (.int (0 : Int32))), (.val (.int (0 : Int32)))] [])
    refine Owes.by (fun _ k => XS.iload X20.here hx rfl (hb hby at_56) rfl k) ?_
    show Owes p e below s (QL n0) room_1.cells room_1.slots T20 (mkF m 58 #[(.val (.int p0)), (.val (.int (4 : Int32))), (.val (.ref w_ENUM)), (.val (.int (0 : Int32))), (.val (.int (0 : Int32))), (.val (.int (0 : Int32)))] [(.int (0 : Int32))])
    refine Owes.by (fun _ k => XS.iloadN X20.here hx rfl (hb hby at_58) rfl k) ?_
    show Owes p e below s (QL n0) room_1.cells room_1.slots T20 (mkF m 59 #[(.val (.int p0)), (.val (.int (4 : Int32))), (.val (.ref w_ENUM)), (.val (.int (0 : Int32))), (.val (.int (0 : Int32))), (.val (.int (0 : Int32)))] [(.int (0 : Int32)), (.int (0 : Int32))])
    refine Owes.by (fun _ k => XS.icmpNo X20.here hx rfl (hb hby at_59) rfl (XT.ii_ne_f (by decide)) k) ?_
    show Owes p e below s (QL n0) room_1.cells room_1.slots T20 (mkF m 62 #[(.val (.int p0)), (.val (.int (4 : Int32))), (.val (.ref w_ENUM)), (.val (.int (0 : Int32))), (.val (.int (0 : Int32))), (.val (.int (0 : Int32)))] [])
    refine Owes.by (fun _ k => XS.iload X20.here hx rfl (hb hby at_62) rfl k) ?_
    show Owes p e below s (QL n0) room_1.cells room_1.slots T20 (mkF m 64 #[(.val (.int p0)), (.val (.int (4 : Int32))), (.val (.ref w_ENUM)), (.val (.int (0 : Int32))), (.val (.int (0 : Int32))), (.val (.int (0 : Int32)))] [(.int (0 : Int32))])
    refine Owes.by (fun _ k => XS.iload X20.here hx rfl (hb hby at_64) rfl k) ?_
    show Owes p e below s (QL n0) room_1.cells room_1.slots T20 (mkF m 66 #[(.val (.int p0)), (.val (.int (4 : Int32))), (.val (.ref w_ENUM)), (.val (.int (0 : Int32))), (.val (.int (0 : Int32))), (.val (.int (0 : Int32)))] [(.int (0 : Int32)), (.int (0 : Int32))])
    refine Owes.by (fun _ k => XS.icmpNo X20.here hx rfl (hb hby at_66) rfl (XT.ii_ne_f (by decide)) k) ?_
    show Owes p e below s (QL n0) room_1.cells room_1.slots T20 (mkF m 69 #[(.val (.int p0)), (.val (.int (4 : Int32))), (.val (.ref w_ENUM)), (.val (.int (0 : Int32))), (.val (.int (0 : Int32))), (.val (.int (0 : Int32)))] [])
    refine Owes.by (fun _ k => XS.iconst X20.here hx rfl (hb hby at_69) k) ?_
    show Owes p e below s (QL n0) room_1.cells room_1.slots T20 (mkF m 70 #[(.val (.int p0)), (.val (.int (4 : Int32))), (.val (.ref w_ENUM)), (.val (.int (0 : Int32))), (.val (.int (0 : Int32))), (.val (.int (0 : Int32)))] [(.int (1 : Int32))])
    refine Owes.by (fun _ k => XS.goto X20.here hx rfl (pc0 := 70) (pc' := 74) rfl (hb hby at_70) (by decide) (by decide) k) ?_
    show Owes p e below s (QL n0) room_1.cells room_1.slots T20 (mkF m 74 #[(.val (.int p0)), (.val (.int (4 : Int32))), (.val (.ref w_ENUM)), (.val (.int (0 : Int32))), (.val (.int (0 : Int32))), (.val (.int (0 : Int32)))] [(.int (1 : Int32))])
    refine Owes.ret X20 (v := some (.int (1 : Int32))) (fun h => by rw [Bd.returns] at h; cases h) hlk ?_ (by decide) (by decide) (fun fs hr => retN X20 hx (t := .boolean) Bd.returns (by simp) (hb hby at_74) hr)
    rw [e20]
    exact ⟨rfl, N0⟩
  · rw [q]
    show Owes p e below s (QL n0) room_1.cells room_1.slots s₁ (mkF m 7 #[(.val (.int p0)), .unset, .unset, .unset, .unset, .unset] [(.int (5 : Int32))])
    refine Owes.by (fun _ k => XS.istoreN X0.here hx rfl (hb hby at_7) rfl (l' := #[(.val (.int p0)), (.val (.int (5 : Int32))), .unset, .unset, .unset, .unset]) rfl k) ?_
    show Owes p e below s (QL n0) room_1.cells room_1.slots s₁ (mkF m 8 #[(.val (.int p0)), (.val (.int (5 : Int32))), .unset, .unset, .unset, .unset] [])
    refine Owes.by (fun _ k => XS.iloadN X0.here hx rfl (hb hby at_8) rfl k) ?_
    show Owes p e below s (QL n0) room_1.cells room_1.slots s₁ (mkF m 9 #[(.val (.int p0)), (.val (.int (5 : Int32))), .unset, .unset, .unset, .unset] [(.int (5 : Int32))])
    obtain ⟨_, _, ⟨T21, L21, k21, n21⟩, -, X21, ⟨Lc21, hQ21, l21, y21, z21⟩, st21⟩ := Jvm.LawKit.callS X0 hx (y := (⟨"com/example/hard_check/hardcheck/TypeKindCompositePinLaw", "pick", "(I)Lcom/example/hard_check/hardcheck/TypeKind;"⟩ : MethodName)) hown (mvT hZ (hw _ (List.mem_of_getElem? (i := 1) rfl))) (mvT hZ (hw _ (List.mem_of_getElem? (i := 2) rfl))) (mvT hZ (hw _ (List.mem_of_getElem? (i := 3) rfl))) (mvT hZ (hw _ (List.mem_of_getElem? (i := 4) rfl))) (by decide) (backOf (W := 0) (rmP l Z a0 hw [] 5 w_SCALAR w_OBJECT w_INTERFACE w_UNION w_ENUM w_INPUT_OBJECT w_INPUT_OBJECT h0 n0 Z0 S_SCALAR S_OBJECT S_INTERFACE S_UNION S_ENUM S_INPUT_OBJECT (by simp +decide)) hZ (hw _ (List.mem_of_getElem? (i := 4) rfl)) (hw _ (List.mem_of_getElem? (i := 3) rfl)) (by decide) (by decide)) (g := (mkF m 9 #[(.val (.int p0)), (.val (.int (5 : Int32))), .unset, .unset, .unset, .unset] [(.int (5 : Int32))])) rfl (by rw [hml]; rfl) (argsL := [(.int (5 : Int32))]) (rest := []) (lenOf pd_I_Lcom_example_hard_check_hardcheck_TypeKind rfl) rfl (by show 2 * 0 + _ ≤ _; exact Nat.le_of_eq rfl) (hb hby at_9) (fun _ _ => ⟨rfl, e0, (by decide : 0 + 0 ≤ _), (by decide : 0 + 0 ≤ _)⟩)
    dsimp only [Pt.U, Pt.locs, Pt.cells, Pt.slots] at X21 l21 y21 z21 st21 hQ21
    subst l21 y21 z21
    obtain ⟨rfl, rfl, e21⟩ := hQ21
    try rw [List.append_nil] at X21
    refine Owes.by st21 ?_
    show Owes p e below s (QL n0) room_1.cells room_1.slots T21 (mkF m 12 #[(.val (.int p0)), (.val (.int (5 : Int32))), .unset, .unset, .unset, .unset] [(.ref w_INPUT_OBJECT)])
    refine Owes.by (fun _ k => XS.astoreN X21.here hx rfl (hb hby at_12) rfl rfl (l' := #[(.val (.int p0)), (.val (.int (5 : Int32))), (.val (.ref w_INPUT_OBJECT)), .unset, .unset, .unset]) rfl k) ?_
    show Owes p e below s (QL n0) room_1.cells room_1.slots T21 (mkF m 13 #[(.val (.int p0)), (.val (.int (5 : Int32))), (.val (.ref w_INPUT_OBJECT)), .unset, .unset, .unset] [])
    refine Owes.by (fun _ k => XS.iloadN X21.here hx rfl (hb hby at_13) rfl k) ?_
    show Owes p e below s (QL n0) room_1.cells room_1.slots T21 (mkF m 14 #[(.val (.int p0)), (.val (.int (5 : Int32))), (.val (.ref w_INPUT_OBJECT)), .unset, .unset, .unset] [(.int (5 : Int32))])
    refine Owes.by (fun _ k => XS.iconst X21.here hx rfl (hb hby at_14) k) ?_
    show Owes p e below s (QL n0) room_1.cells room_1.slots T21 (mkF m 15 #[(.val (.int p0)), (.val (.int (5 : Int32))), (.val (.ref w_INPUT_OBJECT)), .unset, .unset, .unset] [(.int (1 : Int32)), (.int (5 : Int32))])
    refine Owes.by (fun _ k => XS.icmpNo X21.here hx rfl (hb hby at_15) rfl (XT.ii_lt_f (by decide)) k) ?_
    show Owes p e below s (QL n0) room_1.cells room_1.slots T21 (mkF m 18 #[(.val (.int p0)), (.val (.int (5 : Int32))), (.val (.ref w_INPUT_OBJECT)), .unset, .unset, .unset] [])
    refine Owes.by (fun _ k => XS.iloadN X21.here hx rfl (hb hby at_18) rfl k) ?_
    show Owes p e below s (QL n0) room_1.cells room_1.slots T21 (mkF m 19 #[(.val (.int p0)), (.val (.int (5 : Int32))), (.val (.ref w_INPUT_OBJECT)), .unset, .unset, .unset] [(.int (5 : Int32))])
    refine Owes.by (fun _ k => XS.iconst X21.here hx rfl (hb hby at_19) k) ?_
    show Owes p e below s (QL n0) room_1.cells room_1.slots T21 (mkF m 20 #[(.val (.int p0)), (.val (.int (5 : Int32))), (.val (.ref w_INPUT_OBJECT)), .unset, .unset, .unset] [(.int (3 : Int32)), (.int (5 : Int32))])
    refine Owes.by (fun _ k => XS.icmpYes X21.here hx rfl (pc0 := 20) (pc' := 27) rfl (hb hby at_20) rfl (XT.ii_gt_t (by decide)) (by decide) (by decide) k) ?_
    show Owes p e below s (QL n0) room_1.cells room_1.slots T21 (mkF m 27 #[(.val (.int p0)), (.val (.int (5 : Int32))), (.val (.ref w_INPUT_OBJECT)), .unset, .unset, .unset] [])
    refine Owes.by (fun _ k => XS.iconst X21.here hx rfl (hb hby at_27) k) ?_
    show Owes p e below s (QL n0) room_1.cells room_1.slots T21 (mkF m 28 #[(.val (.int p0)), (.val (.int (5 : Int32))), (.val (.ref w_INPUT_OBJECT)), .unset, .unset, .unset] [(.int (0 : Int32))])
    refine Owes.by (fun _ k => XS.istoreN X21.here hx rfl (hb hby at_28) rfl (l' := #[(.val (.int p0)), (.val (.int (5 : Int32))), (.val (.ref w_INPUT_OBJECT)), (.val (.int (0 : Int32))), .unset, .unset]) rfl k) ?_
    show Owes p e below s (QL n0) room_1.cells room_1.slots T21 (mkF m 29 #[(.val (.int p0)), (.val (.int (5 : Int32))), (.val (.ref w_INPUT_OBJECT)), (.val (.int (0 : Int32))), .unset, .unset] [])
    refine Owes.by (fun _ k => XS.aloadN X21.here hx rfl (hb hby at_29) rfl rfl k) ?_
    show Owes p e below s (QL n0) room_1.cells room_1.slots T21 (mkF m 30 #[(.val (.int p0)), (.val (.int (5 : Int32))), (.val (.ref w_INPUT_OBJECT)), (.val (.int (0 : Int32))), .unset, .unset] [(.ref w_INPUT_OBJECT)])
    obtain ⟨cq22, kq22, qa22, qb22, qc22⟩ := isOf hZ e21 E_INPUT_OBJECT
    obtain ⟨_, _, ⟨T22, L22, k22, n22⟩, -, X22, ⟨Lc22, hQ22, l22, y22, z22⟩, st22⟩ := X21.virtualBack hx (y := (⟨"com/example/hard_check/hardcheck/TypeKind", "composite", "()Z"⟩ : MethodName)) (z := (⟨"com/example/hard_check/hardcheck/TypeKind", "composite", "()Z"⟩ : MethodName)) hown (mvT hZ (hw _ (List.mem_of_getElem? (i := 8) rfl))) (mvT hZ (hw _ (List.mem_of_getElem? (i := 9) rfl))) (notFace_of_selects (args := #[]) (mvT hZ (hw _ (List.mem_of_getElem? (i := 11) rfl)))) (mvT hZ (hw _ (List.mem_of_getElem? (i := 11) rfl))) (mvT hZ (hw _ (List.mem_of_getElem? (i := 10) rfl))) (by decide) (backOf (W := 0) (rmC l Z a0 hw [] w_INPUT_OBJECT w_OBJECT w_INTERFACE w_UNION 0 h0 n0 Z0 S_OBJECT S_INTERFACE S_UNION (by simp [n_INPUT_OBJECT_OBJECT, n_INPUT_OBJECT_INTERFACE, n_INPUT_OBJECT_UNION])) hZ (hw _ (List.mem_of_getElem? (i := 12) rfl)) (hw _ (List.mem_of_getElem? (i := 6) rfl)) (by decide) (by decide)) qa22 qc22 (g := (mkF m 30 #[(.val (.int p0)), (.val (.int (5 : Int32))), (.val (.ref w_INPUT_OBJECT)), (.val (.int (0 : Int32))), .unset, .unset] [(.ref w_INPUT_OBJECT)])) rfl (by rw [hml]; rfl) (Steps.refl _) (argsL := []) (rest := []) (lenOf pd_Z rfl) rfl (by show 2 * 0 + _ ≤ _; exact Nat.le_of_eq rfl) (hb hby at_30) (fun _ _ => ⟨rfl, e21, (by decide : 0 + 0 ≤ _), (by decide : 0 + 0 ≤ _)⟩)
    dsimp only [Pt.U, Pt.locs, Pt.cells, Pt.slots] at X22 l22 y22 z22 st22 hQ22
    subst l22 y22 z22
    obtain ⟨rfl, rfl, e22⟩ := hQ22
    try rw [List.append_nil] at X22
    refine Owes.by (fun _ k => st22.trans k) ?_
    show Owes p e below s (QL n0) room_1.cells room_1.slots T22 (mkF m 33 #[(.val (.int p0)), (.val (.int (5 : Int32))), (.val (.ref w_INPUT_OBJECT)), (.val (.int (0 : Int32))), .unset, .unset] [(.int (0 : Int32))])
    refine Owes.by (fun _ k => XS.istore X22.here hx rfl (hb hby at_33) rfl (l' := #[(.val (.int p0)), (.val (.int (5 : Int32))), (.val (.ref w_INPUT_OBJECT)), (.val (.int (0 : Int32))), (.val (.int (0 : Int32))), .unset]) rfl k) ?_
    show Owes p e below s (QL n0) room_1.cells room_1.slots T22 (mkF m 35 #[(.val (.int p0)), (.val (.int (5 : Int32))), (.val (.ref w_INPUT_OBJECT)), (.val (.int (0 : Int32))), (.val (.int (0 : Int32))), .unset] [])
    refine Owes.by (fun _ k => XS.aloadN X22.here hx rfl (hb hby at_35) rfl rfl k) ?_
    show Owes p e below s (QL n0) room_1.cells room_1.slots T22 (mkF m 36 #[(.val (.int p0)), (.val (.int (5 : Int32))), (.val (.ref w_INPUT_OBJECT)), (.val (.int (0 : Int32))), (.val (.int (0 : Int32))), .unset] [(.ref w_INPUT_OBJECT)])
    obtain ⟨cq23, kq23, qa23, qb23, qc23⟩ := isOf hZ e22 E_INPUT_OBJECT
    obtain ⟨_, _, ⟨T23, L23, k23, n23⟩, -, X23, ⟨Lc23, hQ23, l23, y23, z23⟩, st23⟩ := X22.virtualBack hx (y := (⟨"com/example/hard_check/hardcheck/TypeKind", "outputType", "()Z"⟩ : MethodName)) (z := (⟨"com/example/hard_check/hardcheck/TypeKind", "outputType", "()Z"⟩ : MethodName)) hown (mvT hZ (hw _ (List.mem_of_getElem? (i := 19) rfl))) (mvT hZ (hw _ (List.mem_of_getElem? (i := 20) rfl))) (notFace_of_selects (args := #[]) (mvT hZ (hw _ (List.mem_of_getElem? (i := 22) rfl)))) (mvT hZ (hw _ (List.mem_of_getElem? (i := 22) rfl))) (mvT hZ (hw _ (List.mem_of_getElem? (i := 21) rfl))) (by decide) (backOf (W := 0) (rmU l Z a0 hw [] w_INPUT_OBJECT 0 h0 n0 Z0 F_INPUT_OBJECT_outputType (by decide)) hZ (hw _ (List.mem_of_getElem? (i := 23) rfl)) (hw _ (List.mem_of_getElem? (i := 6) rfl)) (by decide) (by decide)) qa23 qc23 (g := (mkF m 36 #[(.val (.int p0)), (.val (.int (5 : Int32))), (.val (.ref w_INPUT_OBJECT)), (.val (.int (0 : Int32))), (.val (.int (0 : Int32))), .unset] [(.ref w_INPUT_OBJECT)])) rfl (by rw [hml]; rfl) (Steps.refl _) (argsL := []) (rest := []) (lenOf pd_Z rfl) rfl (by show 2 * 0 + _ ≤ _; exact Nat.le_of_eq rfl) (hb hby at_36) (fun _ _ => ⟨rfl, e22, (by decide : 0 + 0 ≤ _), (by decide : 0 + 0 ≤ _)⟩)
    dsimp only [Pt.U, Pt.locs, Pt.cells, Pt.slots] at X23 l23 y23 z23 st23 hQ23
    subst l23 y23 z23
    obtain ⟨rfl, rfl, e23⟩ := hQ23
    try rw [List.append_nil] at X23
    refine Owes.by (fun _ k => st23.trans k) ?_
    show Owes p e below s (QL n0) room_1.cells room_1.slots T23 (mkF m 39 #[(.val (.int p0)), (.val (.int (5 : Int32))), (.val (.ref w_INPUT_OBJECT)), (.val (.int (0 : Int32))), (.val (.int (0 : Int32))), .unset] [(.int (0 : Int32))])
    refine Owes.by (fun _ k => XS.ifYes X23.here hx rfl (pc0 := 39) (pc' := 53) rfl (hb hby at_39) rfl (XT.i0_eq_t (by decide)) (by decide) (by decide) k) ?_
    show Owes p e below s (QL n0) room_1.cells room_1.slots T23 (mkF m 53 #[(.val (.int p0)), (.val (.int (5 : Int32))), (.val (.ref w_INPUT_OBJECT)), (.val (.int (0 : Int32))), (.val (.int (0 : Int32))), .unset] [])
    refine Owes.by (fun _ k => XS.iconst X23.here hx rfl (hb hby at_53) k) ?_
    show Owes p e below s (QL n0) room_1.cells room_1.slots T23 (mkF m 54 #[(.val (.int p0)), (.val (.int (5 : Int32))), (.val (.ref w_INPUT_OBJECT)), (.val (.int (0 : Int32))), (.val (.int (0 : Int32))), .unset] [(.int (0 : Int32))])
    refine Owes.by (fun _ k => XS.istore X23.here hx rfl (hb hby at_54) rfl (l' := #[(.val (.int p0)), (.val (.int (5 : Int32))), (.val (.ref w_INPUT_OBJECT)), (.val (.int (0 : Int32))), (.val (.int (0 : Int32))), (.val (.int (0 : Int32)))]) rfl k) ?_
    show Owes p e below s (QL n0) room_1.cells room_1.slots T23 (mkF m 56 #[(.val (.int p0)), (.val (.int (5 : Int32))), (.val (.ref w_INPUT_OBJECT)), (.val (.int (0 : Int32))), (.val (.int (0 : Int32))), (.val (.int (0 : Int32)))] [])
    refine Owes.by (fun _ k => XS.iload X23.here hx rfl (hb hby at_56) rfl k) ?_
    show Owes p e below s (QL n0) room_1.cells room_1.slots T23 (mkF m 58 #[(.val (.int p0)), (.val (.int (5 : Int32))), (.val (.ref w_INPUT_OBJECT)), (.val (.int (0 : Int32))), (.val (.int (0 : Int32))), (.val (.int (0 : Int32)))] [(.int (0 : Int32))])
    refine Owes.by (fun _ k => XS.iloadN X23.here hx rfl (hb hby at_58) rfl k) ?_
    show Owes p e below s (QL n0) room_1.cells room_1.slots T23 (mkF m 59 #[(.val (.int p0)), (.val (.int (5 : Int32))), (.val (.ref w_INPUT_OBJECT)), (.val (.int (0 : Int32))), (.val (.int (0 : Int32))), (.val (.int (0 : Int32)))] [(.int (0 : Int32)), (.int (0 : Int32))])
    refine Owes.by (fun _ k => XS.icmpNo X23.here hx rfl (hb hby at_59) rfl (XT.ii_ne_f (by decide)) k) ?_
    show Owes p e below s (QL n0) room_1.cells room_1.slots T23 (mkF m 62 #[(.val (.int p0)), (.val (.int (5 : Int32))), (.val (.ref w_INPUT_OBJECT)), (.val (.int (0 : Int32))), (.val (.int (0 : Int32))), (.val (.int (0 : Int32)))] [])
    refine Owes.by (fun _ k => XS.iload X23.here hx rfl (hb hby at_62) rfl k) ?_
    show Owes p e below s (QL n0) room_1.cells room_1.slots T23 (mkF m 64 #[(.val (.int p0)), (.val (.int (5 : Int32))), (.val (.ref w_INPUT_OBJECT)), (.val (.int (0 : Int32))), (.val (.int (0 : Int32))), (.val (.int (0 : Int32)))] [(.int (0 : Int32))])
    refine Owes.by (fun _ k => XS.iload X23.here hx rfl (hb hby at_64) rfl k) ?_
    show Owes p e below s (QL n0) room_1.cells room_1.slots T23 (mkF m 66 #[(.val (.int p0)), (.val (.int (5 : Int32))), (.val (.ref w_INPUT_OBJECT)), (.val (.int (0 : Int32))), (.val (.int (0 : Int32))), (.val (.int (0 : Int32)))] [(.int (0 : Int32)), (.int (0 : Int32))])
    refine Owes.by (fun _ k => XS.icmpNo X23.here hx rfl (hb hby at_66) rfl (XT.ii_ne_f (by decide)) k) ?_
    show Owes p e below s (QL n0) room_1.cells room_1.slots T23 (mkF m 69 #[(.val (.int p0)), (.val (.int (5 : Int32))), (.val (.ref w_INPUT_OBJECT)), (.val (.int (0 : Int32))), (.val (.int (0 : Int32))), (.val (.int (0 : Int32)))] [])
    refine Owes.by (fun _ k => XS.iconst X23.here hx rfl (hb hby at_69) k) ?_
    show Owes p e below s (QL n0) room_1.cells room_1.slots T23 (mkF m 70 #[(.val (.int p0)), (.val (.int (5 : Int32))), (.val (.ref w_INPUT_OBJECT)), (.val (.int (0 : Int32))), (.val (.int (0 : Int32))), (.val (.int (0 : Int32)))] [(.int (1 : Int32))])
    refine Owes.by (fun _ k => XS.goto X23.here hx rfl (pc0 := 70) (pc' := 74) rfl (hb hby at_70) (by decide) (by decide) k) ?_
    show Owes p e below s (QL n0) room_1.cells room_1.slots T23 (mkF m 74 #[(.val (.int p0)), (.val (.int (5 : Int32))), (.val (.ref w_INPUT_OBJECT)), (.val (.int (0 : Int32))), (.val (.int (0 : Int32))), (.val (.int (0 : Int32)))] [(.int (1 : Int32))])
    refine Owes.ret X23 (v := some (.int (1 : Int32))) (fun h => by rw [Bd.returns] at h; cases h) hlk ?_ (by decide) (by decide) (fun fs hr => retN X23 hx (t := .boolean) Bd.returns (by simp) (hb hby at_74) hr)
    rw [e23]
    exact ⟨rfl, N0⟩
set_option maxRecDepth 65536 in
set_option maxHeartbeats 40000000 in
theorem comes_1 {Post : Tables → Env → Array Value → State → Outcome → State → Prop} (hpost : ∀ tb e args s v u, (limb_1_1.after args s (.returned v) u = true ∧ limb_1_2.after args s (.returned v) u = true ∧ True) → FrameEnd s (.returned v) u (Jvm.fieldLocs frame_1_writes args s ++ Jvm.arrayLocs frame_1_arrays args s ++ Jvm.staticLocs frame_1_statics s) 0 0 → Post tb e args s (.returned v) u) :
    ArmFor flags0 classFile x code maxLocals ret World_1 tables_1 room_1 Calls_1 rest_1 Pre_1 Post := by
  intro l hfl _ _ p e ha hc hk s m args below hf hA hF happ hP
  obtain ⟨hcalls, hrest, hpre⟩ := hP
  obtain ⟨-, -, -, hnamed, -, -, -, hat⟩ := (Spec.applies_iff hf).mp happ
  obtain ⟨hg, hn⟩ := and_e (Cond.before_iff.mp (show (Jvm.Cond.and given_1 narrow_1).before args s = true from hpre))
  obtain ⟨hgl, hgr⟩ := and_e hg
  obtain ⟨w0, rfl⟩ : ∃ w0 : Value, args = #[w0] := by
    have hs : args.size = 1 := by simpa [Cond.value, given_1] using hgl
    obtain ⟨L⟩ := args
    match L, hs with
    | [w0], _ => exact ⟨w0, rfl⟩
  have hw := fun d (hd : d ∈ tables_1) => atoms_spec (ws := Jvm.Cond.code x code maxLocals ret :: tables_1) hat d (List.mem_cons_of_mem _ hd)
  have hfit : Fit s := fun {y c} hc i hi => by
    obtain ⟨ha, rfl⟩ := Array.getElem?_eq_some_iff.mp hc
    have q := List.all_eq_true.mp ((Array.all_eq_true_iff_forall_mem.mp hF) _ (Array.getElem_mem ha)) i (List.mem_range.mpr hi)
    simpa [Array.getElem?_eq_getElem hi] using q
  obtain ⟨i0, ei0⟩ := is_v hgr
  obtain rfl : w0 = (.int i0) := Option.some.inj ei0
  obtain ⟨hnl, hnr⟩ := and_e hn
  obtain ⟨hnrl, hnrr⟩ := and_e hnr
  obtain ⟨hnrrl, hnrrr⟩ := and_e hnrr
  obtain ⟨hnrrrl, hnrrrr⟩ := and_e hnrrr
  obtain ⟨hnrrrrl, hnrrrrr⟩ := and_e hnrrrr
  obtain ⟨hnrrrrrl, hnrrrrrr⟩ := and_e hnrrrrr
  obtain ⟨hnrrrrrrl, hnrrrrrrr⟩ := and_e hnrrrrrr
  obtain ⟨hnrrrrrrrl, hnrrrrrrrr⟩ := and_e hnrrrrrrr
  obtain ⟨hnrrrrrrrrl, hnrrrrrrrrr⟩ := and_e hnrrrrrrrr
  obtain ⟨hnrrrrrrrrrl, hnrrrrrrrrrr⟩ := and_e hnrrrrrrrrr
  obtain ⟨hnrrrrrrrrrrl, hnrrrrrrrrrrr⟩ := and_e hnrrrrrrrrrr
  obtain ⟨hnrrrrrrrrrrrl, hnrrrrrrrrrrrr⟩ := and_e hnrrrrrrrrrrr
  obtain ⟨hnrrrrrrrrrrrrl, hnrrrrrrrrrrrrr⟩ := and_e hnrrrrrrrrrrrr
  obtain ⟨hnrrrrrrrrrrrrrl, hnrrrrrrrrrrrrrr⟩ := and_e hnrrrrrrrrrrrrr
  obtain ⟨hnrrrrrrrrrrrrrrl, hnrrrrrrrrrrrrrrr⟩ := and_e hnrrrrrrrrrrrrrr
  obtain ⟨hnrrrrrrrrrrrrrrrl, hnrrrrrrrrrrrrrrrr⟩ := and_e hnrrrrrrrrrrrrrrr
  obtain ⟨hnrrrrrrrrrrrrrrrrl, hnrrrrrrrrrrrrrrrrr⟩ := and_e hnrrrrrrrrrrrrrrrr
  obtain ⟨hnrrrrrrrrrrrrrrrrrl, hnrrrrrrrrrrrrrrrrrr⟩ := and_e hnrrrrrrrrrrrrrrrrr
  obtain ⟨hnrrrrrrrrrrrrrrrrrrl, hnrrrrrrrrrrrrrrrrrrr⟩ := and_e hnrrrrrrrrrrrrrrrrrr
  obtain ⟨hnrrrrrrrrrrrrrrrrrrrl, hnrrrrrrrrrrrrrrrrrrrr⟩ := and_e hnrrrrrrrrrrrrrrrrrrr
  obtain ⟨hnrrrrrrrrrrrrrrrrrrrrl, hnrrrrrrrrrrrrrrrrrrrrr⟩ := and_e hnrrrrrrrrrrrrrrrrrrrr
  obtain ⟨hnrrrrrrrrrrrrrrrrrrrrrl, hnrrrrrrrrrrrrrrrrrrrrrr⟩ := and_e hnrrrrrrrrrrrrrrrrrrrrr
  obtain ⟨hnrrrrrrrrrrrrrrrrrrrrrrl, hnrrrrrrrrrrrrrrrrrrrrrrr⟩ := and_e hnrrrrrrrrrrrrrrrrrrrrrr
  obtain ⟨w_SCALAR, v_SCALAR⟩ := exa_v hnl
  have E_SCALAR := Exa.start v_SCALAR hnl
  have S_SCALAR := Sta.start v_SCALAR (Or.inr ⟨(hw _ (List.mem_of_getElem? (i := 6) rfl)), (hw _ (List.mem_of_getElem? (i := 7) rfl))⟩)
  obtain ⟨w_OBJECT, v_OBJECT⟩ := exa_v hnrl
  have E_OBJECT := Exa.start v_OBJECT hnrl
  have S_OBJECT := Sta.start v_OBJECT (Or.inr ⟨(hw _ (List.mem_of_getElem? (i := 6) rfl)), (hw _ (List.mem_of_getElem? (i := 14) rfl))⟩)
  obtain ⟨w_INTERFACE, v_INTERFACE⟩ := exa_v hnrrrrl
  have E_INTERFACE := Exa.start v_INTERFACE hnrrrrl
  have S_INTERFACE := Sta.start v_INTERFACE (Or.inr ⟨(hw _ (List.mem_of_getElem? (i := 6) rfl)), (hw _ (List.mem_of_getElem? (i := 16) rfl))⟩)
  obtain ⟨w_UNION, v_UNION⟩ := exa_v hnrrrrrrl
  have E_UNION := Exa.start v_UNION hnrrrrrrl
  have S_UNION := Sta.start v_UNION (Or.inr ⟨(hw _ (List.mem_of_getElem? (i := 6) rfl)), (hw _ (List.mem_of_getElem? (i := 18) rfl))⟩)
  obtain ⟨w_INPUT_OBJECT, v_INPUT_OBJECT⟩ := exa_v hnrrrrrrrrrrrrrrrrl
  have E_INPUT_OBJECT := Exa.start v_INPUT_OBJECT hnrrrrrrrrrrrrrrrrl
  have S_INPUT_OBJECT := Sta.start v_INPUT_OBJECT (Or.inr ⟨(hw _ (List.mem_of_getElem? (i := 6) rfl)), (hw _ (List.mem_of_getElem? (i := 37) rfl))⟩)
  obtain ⟨w_ENUM, v_ENUM⟩ := exa_v hnrrrrrrrrrrrrrrrrrrrl
  have E_ENUM := Exa.start v_ENUM hnrrrrrrrrrrrrrrrrrrrl
  have S_ENUM := Sta.start v_ENUM (Or.inr ⟨(hw _ (List.mem_of_getElem? (i := 6) rfl)), (hw _ (List.mem_of_getElem? (i := 39) rfl))⟩)
  have F_SCALAR_ordinal := own_fld v_SCALAR hnrrl
  have F_OBJECT_ordinal := own_fld v_OBJECT hnrrrl
  have F_INTERFACE_ordinal := own_fld v_INTERFACE hnrrrrrl
  have F_UNION_ordinal := own_fld v_UNION hnrrrrrrrl
  have F_SCALAR_outputType := own_fld v_SCALAR hnrrrrrrrrl
  have F_SCALAR_inputType := own_fld v_SCALAR hnrrrrrrrrrl
  have F_UNION_outputType := own_fld v_UNION hnrrrrrrrrrrl
  have F_UNION_inputType := own_fld v_UNION hnrrrrrrrrrrrl
  have F_INTERFACE_outputType := own_fld v_INTERFACE hnrrrrrrrrrrrrl
  have F_INTERFACE_inputType := own_fld v_INTERFACE hnrrrrrrrrrrrrrl
  have F_OBJECT_outputType := own_fld v_OBJECT hnrrrrrrrrrrrrrrl
  have F_OBJECT_inputType := own_fld v_OBJECT hnrrrrrrrrrrrrrrrl
  have F_INPUT_OBJECT_ordinal := own_fld v_INPUT_OBJECT hnrrrrrrrrrrrrrrrrrl
  have F_INPUT_OBJECT_outputType := own_fld v_INPUT_OBJECT hnrrrrrrrrrrrrrrrrrrl
  have F_ENUM_ordinal := own_fld v_ENUM hnrrrrrrrrrrrrrrrrrrrrl
  have F_ENUM_outputType := own_fld v_ENUM hnrrrrrrrrrrrrrrrrrrrrrl
  have F_ENUM_inputType := own_fld v_ENUM hnrrrrrrrrrrrrrrrrrrrrrrl
  have F_INPUT_OBJECT_inputType := own_fld v_INPUT_OBJECT hnrrrrrrrrrrrrrrrrrrrrrrr
  have n_SCALAR_OBJECT : w_SCALAR ≠ w_OBJECT := F_SCALAR_ordinal.ne F_OBJECT_ordinal (by decide)
  have n_SCALAR_INTERFACE : w_SCALAR ≠ w_INTERFACE := F_SCALAR_ordinal.ne F_INTERFACE_ordinal (by decide)
  have n_SCALAR_UNION : w_SCALAR ≠ w_UNION := F_SCALAR_ordinal.ne F_UNION_ordinal (by decide)
  have n_ENUM_OBJECT : w_ENUM ≠ w_OBJECT := F_ENUM_ordinal.ne F_OBJECT_ordinal (by decide)
  have n_ENUM_INTERFACE : w_ENUM ≠ w_INTERFACE := F_ENUM_ordinal.ne F_INTERFACE_ordinal (by decide)
  have n_ENUM_UNION : w_ENUM ≠ w_UNION := F_ENUM_ordinal.ne F_UNION_ordinal (by decide)
  have n_INPUT_OBJECT_OBJECT : w_INPUT_OBJECT ≠ w_OBJECT := F_INPUT_OBJECT_ordinal.ne F_OBJECT_ordinal (by decide)
  have n_INPUT_OBJECT_INTERFACE : w_INPUT_OBJECT ≠ w_INTERFACE := F_INPUT_OBJECT_ordinal.ne F_INTERFACE_ordinal (by decide)
  have n_INPUT_OBJECT_UNION : w_INPUT_OBJECT ≠ w_UNION := F_INPUT_OBJECT_ordinal.ne F_UNION_ordinal (by decide)
  obtain ⟨n, o, h1, h2, h3, _, L, rfl, ⟨rfl, N⟩, hq⟩ := rm0 l s _ hw tables_1 i0 w_SCALAR w_OBJECT w_INTERFACE w_UNION w_ENUM w_INPUT_OBJECT s.heap s.heap.size (Nat.le_refl _) S_SCALAR S_OBJECT S_INTERFACE S_UNION S_ENUM S_INPUT_OBJECT E_SCALAR E_OBJECT E_INTERFACE E_UNION E_ENUM E_INPUT_OBJECT F_SCALAR_outputType F_SCALAR_inputType F_OBJECT_outputType F_OBJECT_inputType F_INTERFACE_outputType F_INTERFACE_inputType F_UNION_outputType F_UNION_inputType F_ENUM_outputType F_ENUM_inputType F_INPUT_OBJECT_outputType F_INPUT_OBJECT_inputType n_SCALAR_OBJECT n_SCALAR_INTERFACE n_SCALAR_UNION n_ENUM_OBJECT n_ENUM_INTERFACE n_ENUM_UNION n_INPUT_OBJECT_OBJECT n_INPUT_OBJECT_INTERFACE n_INPUT_OBJECT_UNION p e ha hc hk s m _ below hf ((Spec.applies_iff_loose hf).mp happ).1 ⟨rfl, State.Warmed39.refl s, rfl⟩ trivial
  refine ⟨n, _, h1, h2, h3, hpost _ _ _ _ _ _ ⟨Cond.after_iff.mpr rfl, Cond.after_iff.mpr (eq_i res_at (Term.int_eval (1)) rfl), trivial⟩ ⟨hq.1, hq.2.1, (hq.2.2.sift fun y hy => Or.inr (N y hy)).mono (by decide) (by decide)⟩⟩
theorem main_1_1 : Claimed_1_1 := comes_1 fun _ _ _ _ _ _ h hF => ⟨h.1, hF⟩
theorem main_1_2 : Claimed_1_2 := comes_1 fun _ _ _ _ _ _ h hF => ⟨h.2.1, hF⟩
end Jvm.Pilot.@@N@@
namespace Jvm.Pilot.@@N@@
open Jvm Jvm.ClassFile Sem Op Lib Jvm.Free Jvm.Stand Jvm.Pilot.@@N@@.Jvm.D
/-! MADE BY PROGRAM (witnessworld.py) out of the Statement's table words and the real class files: 12 classes; the members and pool entries that the words name. The judged class is class 1, her method 2. -/
namespace start1
open Jvm.ClassFile
def u (s : String) : CpInfo := .utf8 (stringToUtf16 s)
/-- a pool by its gaps: so many unusable entries, then the entry; so many at the end -/
def gap : Nat → List CpInfo → List CpInfo
  | 0, r => r
  | n + 1, r => .unusable :: gap n r
def poolList (es : List (Nat × CpInfo)) (last : Nat) : List CpInfo := es.foldr (fun e r => gap e.1 (e.2 :: r)) (gap last [])
def pool (es : List (Nat × CpInfo)) (last : Nat) : Array CpInfo := ⟨poolList es last⟩
def fileOf (pool : Array CpInfo) (this : Nat) (attrs : Array Attribute := #[]) (ms : Array MethodInfo := #[]) (fl : Nat := 33) (sup : Nat := 0) (ifs : Array Nat := #[]) (fds : Array FieldInfo := #[]) : ClassFile where
  minorVersion := 0
  majorVersion := 65
  constantPool := pool
  accessFlags := fl
  thisClass := this
  superClass := sup
  interfaces := ifs
  fields := fds
  methods := ms
  attributes := attrs
def plain (name : String) (sup : Option ClassId) : Class where
  name := name
  kind := .ordinary
  loader := none
  accessFlags := 33
  super := sup
  interfaces := #[]
  cf := none
  fields := #[]
  methods := #[]
  instanceTypes := #[]
  staticTypes := #[]
  resolved := #[]
  callSites := []
  init := .initialized
  statics := none
  mirror := none

def pool0 : Array CpInfo := pool [(5, u "<init>"), (0, u "()V"), (1, .class_ 10), (1, u "java/lang/Object")] 113

def k0m0 : Method := { name := "<init>", desc := "()V", sig := { parameters := [], returnType := none }, accessFlags := 1, code := none }
/-- java/lang/Object -/
def k0 : Class := { plain "java/lang/Object" none with
  accessFlags := 33
  interfaces := #[]
  cf := some (fileOf pool0 8 #[] #[{ accessFlags := 1, nameIndex := 5, descriptorIndex := 6, attributes := #[] }] 33 0 #[] #[])
  fields := #[]
  methods := #[k0m0]
  instanceTypes := #[]
  staticTypes := #[]
  resolved := Array.replicate 124 none
  statics := none }

def pool1 : Array CpInfo := pool [(2, .class_ 4), (1, u "java/lang/Object"), (0, u "<init>"), (0, u "()V"), (0, .fieldref 8 9), (0, .class_ 10), (0, .nameAndType 11 12), (0, u "com/example/hard_check/hardcheck/TypeKind"), (0, u "SCALAR"), (0, u "Lcom/example/hard_check/hardcheck/TypeKind;"), (0, .fieldref 8 14), (0, .nameAndType 15 12), (0, u "OBJECT"), (0, .fieldref 8 17), (0, .nameAndType 18 12), (0, u "INTERFACE"), (0, .fieldref 8 20), (0, .nameAndType 21 12), (0, u "UNION"), (0, .fieldref 8 23), (0, .nameAndType 24 12), (0, u "ENUM"), (0, .fieldref 8 26), (0, .nameAndType 27 12), (0, u "INPUT_OBJECT"), (0, .integer 2147483647), (0, .methodref 30 31), (0, .class_ 32), (0, .nameAndType 33 34), (0, u "com/example/hard_check/hardcheck/TypeKindCompositePinLaw"), (0, u "pick"), (0, u "(I)Lcom/example/hard_check/hardcheck/TypeKind;"), (0, .methodref 8 36), (0, .nameAndType 37 38), (0, u "composite"), (0, u "()Z"), (0, .methodref 8 40), (0, .nameAndType 41 38), (0, u "outputType"), (0, .methodref 8 43), (0, .nameAndType 44 38), (0, u "inputType"), (3, u "law"), (0, u "(I)Z")] 2

def k1m0 : Method := { name := "<init>", desc := "()V", sig := { parameters := [], returnType := none }, accessFlags := 1, code := none }
def k1c1 : Code := { maxStack := 2, maxLocals := 1, code := method_2_code, exceptionTable := #[], attributes := #[] }
def k1m1 : Method := { name := "pick", desc := "(I)Lcom/example/hard_check/hardcheck/TypeKind;", sig := { parameters := [.int], returnType := some (.object "com/example/hard_check/hardcheck/TypeKind") }, accessFlags := 10, code := some k1c1 }
def k1c2 : Code := { maxStack := 2, maxLocals := 6, code := code, exceptionTable := #[], attributes := #[] }
def k1m2 : Method := { name := "law", desc := "(I)Z", sig := { parameters := [.int], returnType := some .boolean }, accessFlags := 9, code := some k1c2 }
/-- com/example/hard_check/hardcheck/TypeKindCompositePinLaw -/
def k1 : Class := { plain "com/example/hard_check/hardcheck/TypeKindCompositePinLaw" (some 0) with
  accessFlags := 49
  interfaces := #[]
  cf := some (fileOf pool1 30 #[] #[{ accessFlags := 1, nameIndex := 5, descriptorIndex := 6, attributes := #[] }, { accessFlags := 10, nameIndex := 33, descriptorIndex := 34, attributes := #[] }, { accessFlags := 9, nameIndex := 48, descriptorIndex := 49, attributes := #[] }] 49 2 #[] #[])
  fields := #[]
  methods := #[k1m0, k1m1, k1m2]
  instanceTypes := #[]
  staticTypes := #[]
  resolved := Array.replicate 52 none
  statics := none }

def pool2 : Array CpInfo := pool [(1, .class_ 2), (0, u "java/lang/constant/Constable"), (0, .class_ 4), (0, u "java/lang/Object")] 6

/-- java/lang/constant/Constable -/
def k2 : Class := { plain "java/lang/constant/Constable" (some 0) with
  accessFlags := 1537
  interfaces := #[]
  cf := some (fileOf pool2 1 #[] #[] 1537 3 #[] #[])
  fields := #[]
  methods := #[]
  instanceTypes := #[]
  staticTypes := #[]
  resolved := Array.replicate 11 none
  statics := none }

def pool3 : Array CpInfo := pool [(1, .class_ 2), (0, u "java/lang/Comparable"), (0, .class_ 4), (0, u "java/lang/Object")] 7

/-- java/lang/Comparable -/
def k3 : Class := { plain "java/lang/Comparable" (some 0) with
  accessFlags := 1537
  interfaces := #[]
  cf := some (fileOf pool3 1 #[] #[] 1537 3 #[] #[])
  fields := #[]
  methods := #[]
  instanceTypes := #[]
  staticTypes := #[]
  resolved := Array.replicate 12 none
  statics := none }

def pool4 : Array CpInfo := pool [(1, .class_ 2), (0, u "java/io/Serializable"), (0, .class_ 4), (0, u "java/lang/Object")] 2

/-- java/io/Serializable -/
def k4 : Class := { plain "java/io/Serializable" (some 0) with
  accessFlags := 1537
  interfaces := #[]
  cf := some (fileOf pool4 1 #[] #[] 1537 3 #[] #[])
  fields := #[]
  methods := #[]
  instanceTypes := #[]
  staticTypes := #[]
  resolved := Array.replicate 7 none
  statics := none }

def pool5 : Array CpInfo := pool [(2, .class_ 4), (1, u "java/lang/Enum"), (0, u "name"), (0, u "Ljava/lang/String;"), (2, u "ordinal"), (0, u "I"), (1, .class_ 14), (1, u "java/lang/Object"), (4, u "hash"), (86, .class_ 108), (1, u "java/lang/Enum$EnumDesc"), (2, .class_ 112), (0, u "java/lang/constant/Constable"), (0, .class_ 114), (0, u "java/lang/Comparable"), (0, .class_ 116), (0, u "java/io/Serializable")] 87

/-- java/lang/Enum -/
def k5 : Class := { plain "java/lang/Enum" (some 0) with
  accessFlags := 1057
  interfaces := #[2, 3, 4]
  cf := some (fileOf pool5 2 #[.nestMembers #[106]] #[] 1057 12 #[111, 113, 115] #[{ accessFlags := 18, nameIndex := 5, descriptorIndex := 6, attributes := #[] }, { accessFlags := 18, nameIndex := 9, descriptorIndex := 10, attributes := #[] }, { accessFlags := 2, nameIndex := 19, descriptorIndex := 10, attributes := #[] }])
  fields := #[{ name := "name", type := (.object "java/lang/String"), accessFlags := 18, slot := 0, constantValue := 0 }, { name := "ordinal", type := .int, accessFlags := 18, slot := 1, constantValue := 0 }, { name := "hash", type := .int, accessFlags := 2, slot := 2, constantValue := 0 }]
  methods := #[]
  instanceTypes := #[(.object "java/lang/String"), .int, .int]
  staticTypes := #[]
  resolved := Array.replicate 204 none
  statics := none }

def pool6 : Array CpInfo := pool [(1, .class_ 2), (0, u "com/example/hard_check/hardcheck/TypeKind"), (2, u "SCALAR"), (0, u "Lcom/example/hard_check/hardcheck/TypeKind;"), (0, .fieldref 1 8), (0, .nameAndType 9 6), (0, u "OBJECT"), (0, .fieldref 1 11), (0, .nameAndType 12 6), (0, u "INTERFACE"), (0, .fieldref 1 14), (0, .nameAndType 15 6), (0, u "UNION"), (2, u "ENUM"), (2, u "INPUT_OBJECT"), (2, u "$VALUES"), (0, u "[Lcom/example/hard_check/hardcheck/TypeKind;"), (6, .class_ 34), (1, u "java/lang/Enum"), (8, u "keyword"), (0, u "Ljava/lang/String;"), (2, u "description"), (2, u "rule"), (2, u "extensionRule"), (0, .fieldref 1 55), (0, .nameAndType 56 57), (0, u "inputType"), (0, u "Z"), (0, .fieldref 1 59), (0, .nameAndType 60 57), (0, u "outputType"), (2, u "directiveLocation"), (0, u "Lcom/example/hard_check/hardcheck/DirectiveLocation;"), (103, u "()Z"), (1, u "composite")] 21

def k6c0 : Code := { maxStack := 1, maxLocals := 1, code := prog_118_method_8_code, exceptionTable := #[], attributes := #[] }
def k6m0 : Method := { name := "inputType", desc := "()Z", sig := { parameters := [], returnType := some .boolean }, accessFlags := 0, code := some k6c0 }
def k6c1 : Code := { maxStack := 1, maxLocals := 1, code := prog_118_method_9_code, exceptionTable := #[], attributes := #[] }
def k6m1 : Method := { name := "outputType", desc := "()Z", sig := { parameters := [], returnType := some .boolean }, accessFlags := 0, code := some k6c1 }
def k6c2 : Code := { maxStack := 2, maxLocals := 1, code := prog_118_method_11_code, exceptionTable := #[], attributes := #[] }
def k6m2 : Method := { name := "composite", desc := "()Z", sig := { parameters := [], returnType := some .boolean }, accessFlags := 0, code := some k6c2 }
/-- com/example/hard_check/hardcheck/TypeKind -/
def k6 : Class := { plain "com/example/hard_check/hardcheck/TypeKind" (some 5) with
  accessFlags := 16432
  interfaces := #[]
  cf := some (fileOf pool6 1 #[] #[{ accessFlags := 0, nameIndex := 56, descriptorIndex := 168, attributes := #[] }, { accessFlags := 0, nameIndex := 60, descriptorIndex := 168, attributes := #[] }, { accessFlags := 0, nameIndex := 170, descriptorIndex := 168, attributes := #[] }] 16432 32 #[] #[{ accessFlags := 16409, nameIndex := 5, descriptorIndex := 6, attributes := #[] }, { accessFlags := 16409, nameIndex := 9, descriptorIndex := 6, attributes := #[] }, { accessFlags := 16409, nameIndex := 12, descriptorIndex := 6, attributes := #[] }, { accessFlags := 16409, nameIndex := 15, descriptorIndex := 6, attributes := #[] }, { accessFlags := 16409, nameIndex := 18, descriptorIndex := 6, attributes := #[] }, { accessFlags := 16409, nameIndex := 21, descriptorIndex := 6, attributes := #[] }, { accessFlags := 18, nameIndex := 43, descriptorIndex := 44, attributes := #[] }, { accessFlags := 18, nameIndex := 47, descriptorIndex := 44, attributes := #[] }, { accessFlags := 18, nameIndex := 50, descriptorIndex := 44, attributes := #[] }, { accessFlags := 18, nameIndex := 53, descriptorIndex := 44, attributes := #[] }, { accessFlags := 18, nameIndex := 56, descriptorIndex := 57, attributes := #[] }, { accessFlags := 18, nameIndex := 60, descriptorIndex := 57, attributes := #[] }, { accessFlags := 18, nameIndex := 63, descriptorIndex := 64, attributes := #[] }, { accessFlags := 4122, nameIndex := 24, descriptorIndex := 25, attributes := #[] }])
  fields := #[{ name := "SCALAR", type := (.object "com/example/hard_check/hardcheck/TypeKind"), accessFlags := 16409, slot := 0, constantValue := 0 }, { name := "OBJECT", type := (.object "com/example/hard_check/hardcheck/TypeKind"), accessFlags := 16409, slot := 1, constantValue := 0 }, { name := "INTERFACE", type := (.object "com/example/hard_check/hardcheck/TypeKind"), accessFlags := 16409, slot := 2, constantValue := 0 }, { name := "UNION", type := (.object "com/example/hard_check/hardcheck/TypeKind"), accessFlags := 16409, slot := 3, constantValue := 0 }, { name := "ENUM", type := (.object "com/example/hard_check/hardcheck/TypeKind"), accessFlags := 16409, slot := 4, constantValue := 0 }, { name := "INPUT_OBJECT", type := (.object "com/example/hard_check/hardcheck/TypeKind"), accessFlags := 16409, slot := 5, constantValue := 0 }, { name := "keyword", type := (.object "java/lang/String"), accessFlags := 18, slot := 3, constantValue := 0 }, { name := "description", type := (.object "java/lang/String"), accessFlags := 18, slot := 4, constantValue := 0 }, { name := "rule", type := (.object "java/lang/String"), accessFlags := 18, slot := 5, constantValue := 0 }, { name := "extensionRule", type := (.object "java/lang/String"), accessFlags := 18, slot := 6, constantValue := 0 }, { name := "inputType", type := .boolean, accessFlags := 18, slot := 7, constantValue := 0 }, { name := "outputType", type := .boolean, accessFlags := 18, slot := 8, constantValue := 0 }, { name := "directiveLocation", type := (.object "com/example/hard_check/hardcheck/DirectiveLocation"), accessFlags := 18, slot := 9, constantValue := 0 }, { name := "$VALUES", type := (.array (.object "com/example/hard_check/hardcheck/TypeKind")), accessFlags := 4122, slot := 6, constantValue := 0 }]
  methods := #[k6m0, k6m1, k6m2]
  instanceTypes := #[(.object "java/lang/String"), .int, .int, (.object "java/lang/String"), (.object "java/lang/String"), (.object "java/lang/String"), (.object "java/lang/String"), .boolean, .boolean, (.object "com/example/hard_check/hardcheck/DirectiveLocation")]
  staticTypes := #[(.object "com/example/hard_check/hardcheck/TypeKind"), (.object "com/example/hard_check/hardcheck/TypeKind"), (.object "com/example/hard_check/hardcheck/TypeKind"), (.object "com/example/hard_check/hardcheck/TypeKind"), (.object "com/example/hard_check/hardcheck/TypeKind"), (.object "com/example/hard_check/hardcheck/TypeKind"), (.array (.object "com/example/hard_check/hardcheck/TypeKind"))]
  resolved := Array.replicate 192 none
  statics := some 0 }

def pool7 : Array CpInfo := pool [(1, u "java/lang/Cloneable"), (0, .class_ 1), (0, u "java/lang/Object"), (0, .class_ 3)] 3

/-- java/lang/Cloneable -/
def k7 : Class := { plain "java/lang/Cloneable" (some 0) with
  accessFlags := 1537
  interfaces := #[]
  cf := some (fileOf pool7 2 #[] #[] 1537 4 #[] #[])
  fields := #[]
  methods := #[]
  instanceTypes := #[]
  staticTypes := #[]
  resolved := Array.replicate 8 none
  statics := none }

/-- the primitive byte -/
def k8 : Class := { plain "byte" none with kind := .primitive 'B', accessFlags := 0x411 }
/-- [B -/
def k9 : Class := { plain "[B" (some 0) with kind := .array 8 .byte, interfaces := #[7, 4], accessFlags := 1041 }

/-- the primitive int -/
def k10 : Class := { plain "int" none with kind := .primitive 'I', accessFlags := 0x411 }
/-- [I -/
def k11 : Class := { plain "[I" (some 0) with kind := .array 10 .int, interfaces := #[7, 4], accessFlags := 1041 }

def heap : Heap := #[{ cls := 6, slots := #[.ref 1, .ref 2, .ref 3, .ref 4, .ref 5, .ref 6, .null], vm := .statics 6 },
  { cls := 6, slots := #[.null, .int 0, .int 0, .null, .null, .null, .null, .int 1, .int 1, .null], vm := .none },
  { cls := 6, slots := #[.null, .int 1, .int 0, .null, .null, .null, .null, .int 0, .int 1, .null], vm := .none },
  { cls := 6, slots := #[.null, .int 2, .int 0, .null, .null, .null, .null, .int 0, .int 1, .null], vm := .none },
  { cls := 6, slots := #[.null, .int 3, .int 0, .null, .null, .null, .null, .int 0, .int 1, .null], vm := .none },
  { cls := 6, slots := #[.null, .int 4, .int 0, .null, .null, .null, .null, .int 1, .int 1, .null], vm := .none },
  { cls := 6, slots := #[.null, .int 5, .int 0, .null, .null, .null, .null, .int 1, .int 0, .null], vm := .none }]
def classes : Array Class := #[k0, k1, k2, k3, k4, k5, k6, k7, k8, k9, k10, k11]
def interned : List (Array UInt16 × Addr) := []
def slotsUsed : Nat := 67
def theMethod : MethodId := ⟨1, 2⟩
def args0 : Array Value := #[.int 7]
def aboutOver (below : List Frame) : State where
  vm := { classes := classes, interned := interned.toArray }
  heap := heap
  slotsUsed := slotsUsed
  threads := #[{ frames := .invoking theMethod args0 :: below }]
def below0 : List Frame := [.native { method := ⟨0, 0⟩, args := #[] }]
def about1 : State := aboutOver below0
def p0 : Program := .bare "" "" ""
def e0 : Env := launch0.env 0 0 0
theorem w_frames : about1.frames = Frame.invoking theMethod args0 :: below0 := rfl
set_option maxRecDepth 65536 in
theorem w_args : argsFit about1.vm theMethod args0 = true := by decide +kernel
set_option maxRecDepth 65536 in
theorem w_heap : heapFits about1 = true := by decide +kernel
set_option maxRecDepth 65536 in
theorem w_runnable : about1.curStatus? = some .runnable := by decide +kernel
set_option maxRecDepth 65536 in
theorem w_alone : about1.alone = true := by decide +kernel
set_option maxRecDepth 65536 in
theorem w_named : about1.methodNamed? x = some theMethod := by decide +kernel
set_option maxRecDepth 65536 in
theorem w_hears : about1.hears theMethod below0 = true := by decide +kernel
set_option maxRecDepth 65536 in
theorem w_ripe : about1.ripe theMethod args0 below0 = true := by decide +kernel
theorem w_running : about1.status = .running := rfl
set_option maxRecDepth 65536 in
theorem w_room : about1.hasRoom e0.platform room_1 = true :=
  launch0.hasRoom_least _ room_1 (by decide +kernel) (by decide +kernel) (by decide +kernel) (by decide +kernel) (by decide +kernel) (by decide +kernel)
theorem allAtoms_all (ts : List Jvm.Cond) (a : Array Jvm.Value) (st : Jvm.State) : (allAtoms ts).before a st = ts.all (fun c => c.before a st) := by
  induction ts with
  | nil => rfl
  | cons c t ih =>
    show (Jvm.Cond.and c (allAtoms t)).before a st = _
    rw [Jvm.Cond.before_and, ih, List.all_cons]
def words1 : List Jvm.Cond := Jvm.Cond.code x code maxLocals ret :: tables_1
/-- a 'code' word, met by the world's own term for the bytes: nothing is compared byte by byte -/
theorem code_word {y : MethodName} {bytes : ByteArray} {mx : Nat} {rt : Option FieldType} {a : Array Value} {s : State} {m : MethodId} {meth : Method} {c : Code} (h1 : s.methodNamed? y = some m) (h2 : s.vm.method? m = some meth) (h3 : meth.code = some c) (h4 : c.code = bytes)
    (h5 : (c.maxLocals == mx && c.exceptionTable.isEmpty && decide (c.maxStack ≤ mostOperands) && decide (meth.sig.returnType = rt) && !meth.locks && decide (parseMethodDescriptor y.desc = some meth.sig)) = true) : (Jvm.Cond.code y bytes mx rt).before a s = true := by
  simp only [Bool.and_eq_true, beq_iff_eq, Bool.not_eq_true', decide_eq_true_eq] at h5
  obtain ⟨⟨⟨⟨⟨g1, g2⟩, g3⟩, g4⟩, g5⟩, g6⟩ := h5
  simp [Cond.before, Cond.holds, Cond.value, h1, h2, h3, h4, g1, g2, g3, g4, g5, g6]
def isCode : Jvm.Cond → Bool
  | .code _ _ _ _ => true
  | _ => false
theorem all_split {L : List Jvm.Cond} {P : Jvm.Cond → Bool} (h1 : L.all (fun c => isCode c || P c) = true) (h2 : ∀ c ∈ L.filter isCode, P c = true) : L.all P = true := by
  refine List.all_eq_true.mpr fun c hc => ?_
  have h := List.all_eq_true.mp h1 c hc
  rcases Bool.eq_false_or_eq_true (isCode c) with hi | hi
  · exact h2 c (List.mem_filter.mpr ⟨hc, hi⟩)
  · simpa [hi] using h
set_option maxRecDepth 65536 in
theorem w_c0 : (Jvm.Cond.code x code maxLocals ret).before args0 about1 = true := code_word (m := ⟨1, 2⟩) (meth := k1m2) (c := k1c2) (by decide +kernel) rfl rfl rfl (by decide +kernel)
set_option maxRecDepth 65536 in
theorem w_c1 : (Jvm.Cond.code ({ cls := "com/example/hard_check/hardcheck/TypeKindCompositePinLaw", name := "pick", desc := "(I)Lcom/example/hard_check/hardcheck/TypeKind;" } : Jvm.MethodName) method_2_code (1 : Nat) (Option.some (Jvm.ClassFile.FieldType.object "com/example/hard_check/hardcheck/TypeKind"))).before args0 about1 = true := code_word (m := ⟨1, 1⟩) (meth := k1m1) (c := k1c1) (by decide +kernel) rfl rfl rfl (by decide +kernel)
set_option maxRecDepth 65536 in
theorem w_c2 : (Jvm.Cond.code ({ cls := "com/example/hard_check/hardcheck/TypeKind", name := "composite", desc := "()Z" } : Jvm.MethodName) prog_118_method_11_code (1 : Nat) (Option.some Jvm.ClassFile.FieldType.boolean)).before args0 about1 = true := code_word (m := ⟨6, 2⟩) (meth := k6m2) (c := k6c2) (by decide +kernel) rfl rfl rfl (by decide +kernel)
set_option maxRecDepth 65536 in
theorem w_c3 : (Jvm.Cond.code ({ cls := "com/example/hard_check/hardcheck/TypeKind", name := "outputType", desc := "()Z" } : Jvm.MethodName) prog_118_method_9_code (1 : Nat) (Option.some Jvm.ClassFile.FieldType.boolean)).before args0 about1 = true := code_word (m := ⟨6, 1⟩) (meth := k6m1) (c := k6c1) (by decide +kernel) rfl rfl rfl (by decide +kernel)
set_option maxRecDepth 65536 in
theorem w_c4 : (Jvm.Cond.code ({ cls := "com/example/hard_check/hardcheck/TypeKind", name := "inputType", desc := "()Z" } : Jvm.MethodName) prog_118_method_8_code (1 : Nat) (Option.some Jvm.ClassFile.FieldType.boolean)).before args0 about1 = true := code_word (m := ⟨6, 0⟩) (meth := k6m0) (c := k6c0) (by decide +kernel) rfl rfl rfl (by decide +kernel)
def codes1 : List Jvm.Cond := [Jvm.Cond.code x code maxLocals ret, Jvm.Cond.code ({ cls := "com/example/hard_check/hardcheck/TypeKindCompositePinLaw", name := "pick", desc := "(I)Lcom/example/hard_check/hardcheck/TypeKind;" } : Jvm.MethodName) method_2_code (1 : Nat) (Option.some (Jvm.ClassFile.FieldType.object "com/example/hard_check/hardcheck/TypeKind")), Jvm.Cond.code ({ cls := "com/example/hard_check/hardcheck/TypeKind", name := "composite", desc := "()Z" } : Jvm.MethodName) prog_118_method_11_code (1 : Nat) (Option.some Jvm.ClassFile.FieldType.boolean), Jvm.Cond.code ({ cls := "com/example/hard_check/hardcheck/TypeKind", name := "outputType", desc := "()Z" } : Jvm.MethodName) prog_118_method_9_code (1 : Nat) (Option.some Jvm.ClassFile.FieldType.boolean), Jvm.Cond.code ({ cls := "com/example/hard_check/hardcheck/TypeKind", name := "inputType", desc := "()Z" } : Jvm.MethodName) prog_118_method_8_code (1 : Nat) (Option.some Jvm.ClassFile.FieldType.boolean)]
set_option maxRecDepth 65536 in
theorem codes_eq : words1.filter isCode = codes1 := rfl
theorem w_codes : ∀ c ∈ words1.filter isCode, c.before args0 about1 = true := by
  rw [codes_eq]
  intro c hc
  simp only [codes1, List.mem_cons, List.not_mem_nil, or_false] at hc
  rcases hc with rfl | rfl | rfl | rfl | rfl
  · exact w_c0
  · exact w_c1
  · exact w_c2
  · exact w_c3
  · exact w_c4
set_option maxRecDepth 65536 in
theorem w_t1 : (words1.take 24).all (fun c => isCode c || c.before args0 about1) = true := by decide +kernel
set_option maxRecDepth 65536 in
theorem w_t2 : (words1.drop 24).all (fun c => isCode c || c.before args0 about1) = true := by decide +kernel
theorem w_tables : (allAtoms (Jvm.Cond.code x code maxLocals ret :: tables_1)).before args0 about1 = true := by
  rw [allAtoms_all]
  show words1.all (fun c => c.before args0 about1) = true
  refine all_split ?_ w_codes
  rw [← List.take_append_drop 24 words1, List.all_append, w_t1, w_t2]
  rfl
set_option maxRecDepth 65536 in
theorem w_case : (Jvm.Cond.and given_1 narrow_1).before args0 about1 = true := by decide +kernel
theorem w_applies : (headSpec (Jvm.Cond.code x code maxLocals ret :: tables_1) room_1).applies x e0.platform about1 = true :=
  (Spec.applies_iff w_frames).mpr ⟨w_running, w_runnable, w_alone, w_named, w_hears, w_ripe, w_room, w_tables⟩
theorem atStart : AtStart classFile x code maxLocals ret World_1 tables_1 room_1 Calls_1 rest_1 Pre_1 launch0 p0 e0 about1 theMethod args0 below0 :=
  ⟨lists_1, trivial, launch0.admits_env _ _ _, launch0.least_env, fairChoices_fair.cas, fairChoices_fair.clock, w_frames, w_args, w_heap, w_applies, trivial, trivial, w_case⟩
end start1
theorem witness_1 : WitnessClaimed_1 := ⟨start1.p0, start1.e0, start1.about1, start1.theMethod, start1.args0, start1.below0, start1.atStart⟩
end Jvm.Pilot.@@N@@
