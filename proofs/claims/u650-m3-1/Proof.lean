import JvmDerived
import JvmDerived.Pilot.@@N@@Statement
import JvmDerived.Pilot.@@N@@Code
set_option linter.unusedVariables false
set_option linter.unusedSimpArgs false
namespace Jvm.Pilot.@@N@@
open Jvm Jvm.ClassFile Sem Op Lib Jvm.Free Jvm.Stand Jvm.LawKit Jvm.RoadKit Bundle Jvm.Pilot.@@N@@.Jvm.D
section Own
variable {p : Program} {l : Launch} {e : Env} {R : Room} {s : State} {m : MethodId} {args : Array Value} {below : List Frame} {meth : Method} {c : Code} {T T' : State} {locs : List Loc} {cells slots : Nat}
/-- what a walk owes from where it stands: it comes back, with what Q says -/
def Owes (p : Program) (e : Env) (below : List Frame) (s : State) (Q : Option Value → Heap → List Loc → Prop) (k n : Nat) (T : State) (f : JFrame) : Prop :=
  ∃ s₂ o, Steps p.tables e below (T.setTop f) s₂ ∧ s₂.status = .running ∧ Ended s₂ below o ∧ ∃ v L, o = .returned v ∧ Q v s₂.heap L ∧ FrameEnd s o s₂ L k n
theorem Owes.by {Q : Option Value → Heap → List Loc → Prop} {k n : Nat} {f f' : JFrame} (st : ∀ t, Steps p.tables e below (T'.setTop f') t → Steps p.tables e below (T.setTop f) t) (h : Owes p e below s Q k n T' f') : Owes p e below s Q k n T f := by
  obtain ⟨s₂, o, h1, h2⟩ := h
  exact ⟨s₂, o, st _ h1, h2⟩
theorem Owes.ret {Q : Option Value → Heap → List Loc → Prop} {k n : Nat} {f : JFrame} (X : Stand p l e R s m args below meth c T locs cells slots) {v : Option Value} (hv : meth.sig.returnType = none → v = none) (hlk : meth.locks = false)
    (hQ : Q v T.heap locs) (hk : cells ≤ k) (hn : slots ≤ n) (st : ∀ fs, (∀ (f : JFrame) (acts : List Action), f.method = m → f.locked = none → f.entered = [] → (doReturn e (T.setTop f) acts v).1 = T.setFrames fs) → Steps p.tables e below (T.setTop f) (T.setFrames fs)) : Owes p e below s Q k n T f := by
  obtain ⟨fs, hr, hrun, hended, hW, hsame⟩ := X.leave (v := v) hv hlk
  exact ⟨_, _, st fs hr, hrun, hended, _, _, rfl, hQ, ⟨_, rfl⟩, hW, hsame.mono hk hn⟩
/-- a join point: what holds wherever the walk stands again with the same heap -/
theorem own_join {h : Heap} {G : State → Prop} {P : Prop} (X : Stand p l e R s m args below meth c T locs cells slots) (J : ∀ T', Stand p l e R s m args below meth c T' locs cells slots → T'.heap = h → G T')
    (k : (∀ T', Stand p l e R s m args below meth c T' locs cells slots → T'.heap = h → G T') → P) : P := k J
end Own
/-- it writes nothing, makes nothing, and hands back w -/
def Qv (w : Option Value) (h0 : Heap) (n0 : Nat) (v : Option Value) (h : Heap) (L : List Loc) : Prop := v = w ∧ L = [] ∧ h = h0
def QL (n0 : Nat) (v : Option Value) (h : Heap) (L : List Loc) : Prop := v = some (.int (1 : Int32)) ∧ Fr n0 L
section Words
variable {Z : State} {args : Array Value} {t : Term} {C n d : String} {a : Addr}
theorem own_fld {k : Int32} (ht : t.eval args Z none [] Z = some (.ref a)) (h : (Cond.eq (Term.field t C n d) (Term.int k)).value args Z none Z [] = some true) : Fld Z Z.heap a C n d (.int k) := by
  obtain ⟨x, y, hx, hy, h1, -⟩ := cmp_v (Or.inl h)
  obtain rfl : y = .int k := (Option.some.inj ((Term.int_eval k).symm.trans hy)).symm
  have hx' : Z.fieldOf? a C n d = some x := (fld_at ht).symm.trans hx
  cases x <;> simp [Kin, Value.isRef] at h1
  rename_i z
  have e : z = k := by simpa [Cond.value, hx, hy] using h
  subst e
  exact Fld.start hx'
theorem own_fldL {k : Int64} (ht : t.eval args Z none [] Z = some (.ref a)) (h : (Cond.eq (Term.field t C n d) (Term.long k)).value args Z none Z [] = some true) : Fld Z Z.heap a C n d (.long k) := by
  obtain ⟨x, y, hx, hy, h1, -⟩ := cmp_v (Or.inl h)
  obtain rfl : y = .long k := (Option.some.inj ((long_at k).symm.trans hy)).symm
  have hx' : Z.fieldOf? a C n d = some x := (fld_at ht).symm.trans hx
  cases x <;> simp [Kin, Value.isRef] at h1
  rename_i z
  have e : z = k := by simpa [Cond.value, hx, hy] using h
  subst e
  exact Fld.start hx'
theorem own_len {k : Int32} {cl : Cell} {ty : FieldType} (ht : t.eval args Z none [] Z = some (.ref a)) (A : Arr Z Z.heap a cl ty) (h : (Cond.eq (Term.length t) (Term.int k)).value args Z none Z [] = some true) : cl.slots.size.toInt32 = k := by
  obtain ⟨x, y, hx, hy, -, -⟩ := cmp_v (Or.inl h)
  obtain ⟨a', cell, e1, e2, rfl⟩ := Term.length_spec hx
  cases ht.symm.trans e1
  obtain rfl : y = .int k := (Option.some.inj ((Term.int_eval k).symm.trans hy)).symm
  cases A.1.symm.trans (State.arrayAt?_spec e2).1
  simpa [Cond.value, hx, hy] using h
theorem own_elem {k : Int32} {cl : Cell} {ty : FieldType} {u : Term} {w : Addr} (ht : t.eval args Z none [] Z = some (.ref a)) (A : Arr Z Z.heap a cl ty) (hu : u.eval args Z none [] Z = some (.ref w)) (h : (Cond.eq (Term.elem t (Term.int k)) u).value args Z none Z [] = some true) :
    ¬ (k < 0 ∨ cl.slots.size ≤ k.toNatClampNeg) ∧ cl.slots[k.toNatClampNeg]? = some (.ref w) := by
  obtain ⟨x, y, hx, hy, h1, -⟩ := cmp_v (Or.inl h)
  obtain rfl : y = .ref w := (Option.some.inj (hu.symm.trans hy)).symm
  obtain ⟨cell, e1, e2, e3⟩ := Jvm.Lib.elem_at hx ht (Term.int_eval k)
  cases A.1.symm.trans e1
  refine ⟨e2, ?_⟩
  cases x <;> simp [Kin, Value.isRef] at h1
  · simp [Cond.value, hx, hy] at h
  · rename_i z
    have e : z = w := by simpa [Cond.value, hx, hy] using h
    rw [e3, e]
end Words
theorem pn_RelationBelowPinLaw : plainName "dev/tagwarden/condition/RelationBelowPinLaw" = true := by first | (simp [plainName, overriddenIn]; done) | decide +kernel
theorem d1_0 : decode method_2_code 0 = .ok (.iload_n 0, 1) := by decide +kernel
theorem d1_1 : decode method_2_code 1 = .ok (.ifCond .ne 7, 3) := by decide +kernel
theorem d1_4 : decode method_2_code 4 = .ok (.getstatic 7, 3) := by decide +kernel
theorem d1_7 : decode method_2_code 7 = .ok (.areturn, 1) := by decide +kernel
theorem d1_8 : decode method_2_code 8 = .ok (.iload_n 0, 1) := by decide +kernel
theorem d1_9 : decode method_2_code 9 = .ok (.iconst 1, 1) := by decide +kernel
theorem d1_10 : decode method_2_code 10 = .ok (.if_icmp .ne 7, 3) := by decide +kernel
theorem d1_13 : decode method_2_code 13 = .ok (.getstatic 13, 3) := by decide +kernel
theorem d1_16 : decode method_2_code 16 = .ok (.areturn, 1) := by decide +kernel
theorem d1_17 : decode method_2_code 17 = .ok (.iload_n 0, 1) := by decide +kernel
theorem d1_18 : decode method_2_code 18 = .ok (.iconst 2, 1) := by decide +kernel
theorem d1_19 : decode method_2_code 19 = .ok (.if_icmp .ne 7, 3) := by decide +kernel
theorem d1_22 : decode method_2_code 22 = .ok (.getstatic 16, 3) := by decide +kernel
theorem d1_25 : decode method_2_code 25 = .ok (.areturn, 1) := by decide +kernel
theorem d1_26 : decode method_2_code 26 = .ok (.iload_n 0, 1) := by decide +kernel
theorem d1_27 : decode method_2_code 27 = .ok (.iconst 3, 1) := by decide +kernel
theorem d1_28 : decode method_2_code 28 = .ok (.if_icmp .ne 7, 3) := by decide +kernel
theorem d1_31 : decode method_2_code 31 = .ok (.getstatic 19, 3) := by decide +kernel
theorem d1_34 : decode method_2_code 34 = .ok (.areturn, 1) := by decide +kernel
theorem d1_35 : decode method_2_code 35 = .ok (.getstatic 22, 3) := by decide +kernel
theorem d1_38 : decode method_2_code 38 = .ok (.areturn, 1) := by decide +kernel
theorem pn_Enum : plainName "java/lang/Enum" = true := by first | (simp [plainName, overriddenIn]; done) | decide +kernel
theorem d3_0 : decode jdk_37_method_2_code 0 = .ok (.aload_n 0, 1) := by decide +kernel
theorem d3_1 : decode jdk_37_method_2_code 1 = .ok (.getfield 7, 3) := by decide +kernel
theorem d3_4 : decode jdk_37_method_2_code 4 = .ok (.ireturn, 1) := by decide +kernel
theorem pn_OrderedValues_Relation : plainName "dev/tagwarden/condition/OrderedValues$Relation" = true := by first | (simp [plainName, overriddenIn]; done) | decide +kernel
theorem d2_0 : decode prog_38_method_4_code 0 = .ok (.aload_n 0, 1) := by decide +kernel
theorem d2_1 : decode prog_38_method_4_code 1 = .ok (.invokevirtual 38, 3) := by decide +kernel
theorem pd_I : parseMethodDescriptor "()I" = some ⟨[], some .int⟩ := by decide +kernel
theorem d2_4 : decode prog_38_method_4_code 4 = .ok (.tableswitch 36 0 4 #[46, 58, 70, 82, 94], 36) := by decide +kernel
theorem d2_50 : decode prog_38_method_4_code 50 = .ok (.iload_n 1, 1) := by decide +kernel
theorem d2_51 : decode prog_38_method_4_code 51 = .ok (.ifCond .ne 7, 3) := by decide +kernel
theorem d2_54 : decode prog_38_method_4_code 54 = .ok (.iconst 1, 1) := by decide +kernel
theorem d2_55 : decode prog_38_method_4_code 55 = .ok (.goto 52, 3) := by decide +kernel
theorem d2_107 : decode prog_38_method_4_code 107 = .ok (.ireturn, 1) := by decide +kernel
theorem d2_58 : decode prog_38_method_4_code 58 = .ok (.iconst 0, 1) := by decide +kernel
theorem d2_59 : decode prog_38_method_4_code 59 = .ok (.goto 48, 3) := by decide +kernel
theorem d2_62 : decode prog_38_method_4_code 62 = .ok (.iload_n 1, 1) := by decide +kernel
theorem d2_63 : decode prog_38_method_4_code 63 = .ok (.ifCond .ge 7, 3) := by decide +kernel
theorem d2_66 : decode prog_38_method_4_code 66 = .ok (.iconst 1, 1) := by decide +kernel
theorem d2_67 : decode prog_38_method_4_code 67 = .ok (.goto 40, 3) := by decide +kernel
theorem d2_70 : decode prog_38_method_4_code 70 = .ok (.iconst 0, 1) := by decide +kernel
theorem d2_71 : decode prog_38_method_4_code 71 = .ok (.goto 36, 3) := by decide +kernel
theorem d2_74 : decode prog_38_method_4_code 74 = .ok (.iload_n 1, 1) := by decide +kernel
theorem d2_75 : decode prog_38_method_4_code 75 = .ok (.ifCond .gt 7, 3) := by decide +kernel
theorem d2_82 : decode prog_38_method_4_code 82 = .ok (.iconst 0, 1) := by decide +kernel
theorem d2_83 : decode prog_38_method_4_code 83 = .ok (.goto 24, 3) := by decide +kernel
theorem d2_78 : decode prog_38_method_4_code 78 = .ok (.iconst 1, 1) := by decide +kernel
theorem d2_79 : decode prog_38_method_4_code 79 = .ok (.goto 28, 3) := by decide +kernel
theorem d2_86 : decode prog_38_method_4_code 86 = .ok (.iload_n 1, 1) := by decide +kernel
theorem d2_87 : decode prog_38_method_4_code 87 = .ok (.ifCond .le 7, 3) := by decide +kernel
theorem d2_90 : decode prog_38_method_4_code 90 = .ok (.iconst 1, 1) := by decide +kernel
theorem d2_91 : decode prog_38_method_4_code 91 = .ok (.goto 16, 3) := by decide +kernel
theorem d2_94 : decode prog_38_method_4_code 94 = .ok (.iconst 0, 1) := by decide +kernel
theorem d2_95 : decode prog_38_method_4_code 95 = .ok (.goto 12, 3) := by decide +kernel
theorem d2_98 : decode prog_38_method_4_code 98 = .ok (.iload_n 1, 1) := by decide +kernel
theorem d2_99 : decode prog_38_method_4_code 99 = .ok (.ifCond .lt 7, 3) := by decide +kernel
theorem d2_106 : decode prog_38_method_4_code 106 = .ok (.iconst 0, 1) := by decide +kernel
theorem d2_102 : decode prog_38_method_4_code 102 = .ok (.iconst 1, 1) := by decide +kernel
theorem d2_103 : decode prog_38_method_4_code 103 = .ok (.goto 4, 3) := by decide +kernel
theorem d4_0 : decode prog_38_method_5_code 0 = .ok (.aload_n 0, 1) := by decide +kernel
theorem d4_1 : decode prog_38_method_5_code 1 = .ok (.getstatic 7, 3) := by decide +kernel
theorem d4_4 : decode prog_38_method_5_code 4 = .ok (.if_acmp .eq 10, 3) := by decide +kernel
theorem d4_14 : decode prog_38_method_5_code 14 = .ok (.iconst 1, 1) := by decide +kernel
theorem d4_15 : decode prog_38_method_5_code 15 = .ok (.goto 4, 3) := by decide +kernel
theorem d4_19 : decode prog_38_method_5_code 19 = .ok (.ireturn, 1) := by decide +kernel
theorem d4_7 : decode prog_38_method_5_code 7 = .ok (.aload_n 0, 1) := by decide +kernel
theorem d4_8 : decode prog_38_method_5_code 8 = .ok (.getstatic 10, 3) := by decide +kernel
theorem d4_11 : decode prog_38_method_5_code 11 = .ok (.if_acmp .ne 7, 3) := by decide +kernel
theorem d4_18 : decode prog_38_method_5_code 18 = .ok (.iconst 0, 1) := by decide +kernel
theorem pd_I_Ldev_tagwarden_condition_OrderedValues_Relation : parseMethodDescriptor "(I)Ldev/tagwarden/condition/OrderedValues$Relation;" = some ⟨[.int], some (.object "dev/tagwarden/condition/OrderedValues$Relation")⟩ := by decide +kernel
theorem pd_I_Z : parseMethodDescriptor "(I)Z" = some ⟨[.int], some .boolean⟩ := by decide +kernel
theorem pd_Z : parseMethodDescriptor "()Z" = some ⟨[], some .boolean⟩ := by decide +kernel
theorem own_and_nn (x : Int32) : 0 ≤ (x &&& (2147483647 : Int32)).toInt := by
  have h : (x &&& (2147483647 : Int32)).toBitVec.msb = false := by
    rw [Int32.toBitVec_and, BitVec.msb_and]; simp; intro; decide
  rw [← Int32.toInt_toBitVec]
  exact BitVec.toInt_nonneg_of_msb_false h
theorem own_mod_b (x n : Int32) (hn : 0 < n.toInt) : 0 ≤ ((x &&& (2147483647 : Int32)) % n).toInt ∧ ((x &&& (2147483647 : Int32)) % n).toInt < n.toInt := by
  rw [Int32.toInt_mod]
  exact ⟨Int.tmod_nonneg _ (own_and_nn x), Int.tmod_lt_of_pos _ hn⟩
theorem own_mod5 (x : Int32) : (x &&& (2147483647 : Int32)) % (5 : Int32) = 0 ∨ (x &&& (2147483647 : Int32)) % (5 : Int32) = 1 ∨ (x &&& (2147483647 : Int32)) % (5 : Int32) = 2 ∨ (x &&& (2147483647 : Int32)) % (5 : Int32) = 3 ∨ (x &&& (2147483647 : Int32)) % (5 : Int32) = 4 := by
  obtain ⟨h1, h2⟩ := own_mod_b x 5 (by decide)
  generalize (x &&& (2147483647 : Int32)) % (5 : Int32) = k at *
  have h3 : (5 : Int32).toInt = 5 := by decide
  rw [h3] at h2
  simp only [← Int32.toInt_inj]
  simp +decide
  omega
def own_holds (o x : Int32) : Int32 := if o = 0 then (if x = 0 then 1 else 0) else if o = 1 then (if x < 0 then 1 else 0) else if o = 2 then (if 0 < x then 0 else 1) else if o = 3 then (if 0 < x then 1 else 0) else (if x < 0 then 0 else 1)
theorem own_negLt (x : Int32) : (x ||| (-2147483648 : Int32)) < 0 := by
  have h : (x ||| (-2147483648 : Int32)).toBitVec.msb = true := by
    rw [Int32.toBitVec_or, BitVec.msb_or]; simp; right; decide
  have h2 := BitVec.toInt_neg_of_msb_true h
  rw [Int32.lt_iff_toInt_lt, ← Int32.toInt_toBitVec]
  exact h2
theorem own_posLt (x : Int32) : 0 < (XT.ushr x (1 : Int32) ||| (1 : Int32)) := by
  have hm : (XT.ushr x (1 : Int32) ||| (1 : Int32)).toBitVec.msb = false := by
    rw [Int32.toBitVec_or, BitVec.msb_or]
    have e : (XT.ushr x (1:Int32)).toBitVec = x.toBitVec >>> 1 := by
      simp [XT.ushr]
    rw [e]
    simp [BitVec.msb_ushiftRight]
  have h0 := BitVec.toInt_nonneg_of_msb_false hm
  rw [Int32.lt_iff_toInt_lt]
  have h1 : (XT.ushr x (1 : Int32) ||| (1 : Int32)).toInt ≠ 0 := by
    intro h
    have h2 : (XT.ushr x (1 : Int32) ||| (1 : Int32)) = 0 := Int32.toInt_inj.mp (by rw [h]; rfl)
    have h3 : (XT.ushr x (1 : Int32) ||| (1 : Int32)).toBitVec.getLsbD 0 = true := by
      rw [Int32.toBitVec_or]; simp
    rw [h2] at h3
    exact absurd h3 (by decide)
  rw [Int32.toInt_toBitVec] at h0
  have : (0 : Int32).toInt = 0 := by decide
  omega
theorem own_n_facts {v : Int32} (h : v < 0) : ¬ v = 0 ∧ ¬ 0 < v := by
  rw [Int32.lt_iff_toInt_lt] at h
  constructor
  · rintro rfl; exact absurd h (by decide)
  · rw [Int32.lt_iff_toInt_lt]; have : (0 : Int32).toInt = 0 := by decide
    omega
theorem own_p_facts {v : Int32} (h : 0 < v) : ¬ v < 0 := by
  rw [Int32.lt_iff_toInt_lt] at h ⊢
  omega
theorem own_neg0 (x : Int32) : own_holds 0 (x ||| (-2147483648 : Int32)) = 0 := by
  have h := own_negLt x; have g := own_n_facts h; simp +decide only [own_holds, h, g, if_true, if_false]
theorem own_neg1 (x : Int32) : own_holds 1 (x ||| (-2147483648 : Int32)) = 1 := by
  have h := own_negLt x; have g := own_n_facts h; simp +decide only [own_holds, h, g, if_true, if_false]
theorem own_neg2 (x : Int32) : own_holds 2 (x ||| (-2147483648 : Int32)) = 1 := by
  have h := own_negLt x; have g := own_n_facts h; simp +decide only [own_holds, h, g, if_true, if_false]
theorem own_neg3 (x : Int32) : own_holds 3 (x ||| (-2147483648 : Int32)) = 0 := by
  have h := own_negLt x; have g := own_n_facts h; simp +decide only [own_holds, h, g, if_true, if_false]
theorem own_neg4 (x : Int32) : own_holds 4 (x ||| (-2147483648 : Int32)) = 0 := by
  have h := own_negLt x; have g := own_n_facts h; simp +decide only [own_holds, h, g, if_true, if_false]
theorem own_pos1 (x : Int32) : own_holds 1 (XT.ushr x (1 : Int32) ||| (1 : Int32)) = 0 := by
  have h := own_posLt x; have g := own_p_facts h; simp +decide only [own_holds, h, g, if_true, if_false]
theorem own_pos2 (x : Int32) : own_holds 2 (XT.ushr x (1 : Int32) ||| (1 : Int32)) = 0 := by
  have h := own_posLt x; have g := own_p_facts h; simp +decide only [own_holds, h, g, if_true, if_false]

theorem ef_rmP (m : MethodId) (x0 : Int32) : entryFrame m #[(.int x0)] 1 = mkF m 0 #[(.val (.int x0))] [] := by first | (simp [entryFrame, mkF, argsToLocals, Value.category]; done) | rfl
set_option maxRecDepth 65536 in
set_option maxHeartbeats 40000000 in
theorem rmP (l : Launch) (Z : State) (a0 : Array Value) (hw : ∀ d ∈ tables_1, d.before a0 Z = true) (ws : List Jvm.Cond) (k : Int32) (w_EQUAL w_LESS w_LESS_OR_EQUAL w_GREATER w_GREATER_OR_EQUAL r : Addr) (h0 : Heap) (n0 : Nat) (Z0 : n0 ≤ h0.size) (S_EQUAL : Sta Z h0 "dev/tagwarden/condition/OrderedValues$Relation" "EQUAL" "Ldev/tagwarden/condition/OrderedValues$Relation;" (.ref w_EQUAL)) (S_LESS : Sta Z h0 "dev/tagwarden/condition/OrderedValues$Relation" "LESS" "Ldev/tagwarden/condition/OrderedValues$Relation;" (.ref w_LESS)) (S_LESS_OR_EQUAL : Sta Z h0 "dev/tagwarden/condition/OrderedValues$Relation" "LESS_OR_EQUAL" "Ldev/tagwarden/condition/OrderedValues$Relation;" (.ref w_LESS_OR_EQUAL)) (S_GREATER : Sta Z h0 "dev/tagwarden/condition/OrderedValues$Relation" "GREATER" "Ldev/tagwarden/condition/OrderedValues$Relation;" (.ref w_GREATER)) (S_GREATER_OR_EQUAL : Sta Z h0 "dev/tagwarden/condition/OrderedValues$Relation" "GREATER_OR_EQUAL" "Ldev/tagwarden/condition/OrderedValues$Relation;" (.ref w_GREATER_OR_EQUAL)) (hr : (if k = 0 then w_EQUAL else if k = 1 then w_LESS else if k = 2 then w_LESS_OR_EQUAL else if k = 3 then w_GREATER else w_GREATER_OR_EQUAL) = r) :
    MetFree l (⟨"dev/tagwarden/condition/RelationBelowPinLaw", "pick", "(I)Ldev/tagwarden/condition/OrderedValues$Relation;"⟩ : MethodName) (head1 (Jvm.Cond.code (⟨"dev/tagwarden/condition/RelationBelowPinLaw", "pick", "(I)Ldev/tagwarden/condition/OrderedValues$Relation;"⟩ : MethodName) method_2_code 1 (some (.object "dev/tagwarden/condition/OrderedValues$Relation")) :: ws) ({ frames := 0, cells := 0, slots := 0, locals := 0 } : Room)) (fun aa UU => aa = #[(.int k)] ∧ Z.Warmed39 UU.vm ∧ UU.heap = h0) (fun _ _ _ _ _ => True) (fun _ UU oo UU' => ∃ vr Lr, oo = .returned vr ∧ (Qv (some (.ref r)) h0 n0) vr UU'.heap Lr ∧ FrameEnd UU oo UU' Lr ({ frames := 0, cells := 0, slots := 0, locals := 0 } : Room).cells ({ frames := 0, cells := 0, slots := 0, locals := 0 } : Room).slots) := by
  refine MetFree.of_bodySF (plainFor_of_name pn_RelationBelowPinLaw) hisR ?_
  intro p e s m args below meth c s₁ Bd hml0 hP hK
  obtain ⟨rfl, hZ, hh⟩ := hP
  have hx := Bd.exec
  have hby := Bd.bytes
  have hml : c.maxLocals = 1 := hml0
  have hown : s.vm.findClass "dev/tagwarden/condition/RelationBelowPinLaw" = some m.cls := findClass_of_methodNamed Bd.named
  have hnm := (name_of_methodNamed Bd.named Bd.method).1
  have hlk := Bd.notSynchronized
  have X0 : Stand p l e ({ frames := 0, cells := 0, slots := 0, locals := 0 } : Room) s m #[(.int k)] below meth c s₁ [] 0 0 := Stand.of_body Bd
  have e0 : s₁.heap = h0 := by rw [← hh, Bd.state]; rfl
  have N0 := Fr.nil n0
  show Owes p e below s (Qv (some (.ref r)) h0 n0) ({ frames := 0, cells := 0, slots := 0, locals := 0 } : Room).cells ({ frames := 0, cells := 0, slots := 0, locals := 0 } : Room).slots s₁ (entryFrame m #[(.int k)] 1)
  rw [ef_rmP m k]
  show Owes p e below s (Qv (some (.ref r)) h0 n0) ({ frames := 0, cells := 0, slots := 0, locals := 0 } : Room).cells ({ frames := 0, cells := 0, slots := 0, locals := 0 } : Room).slots s₁ (mkF m 0 #[(.val (.int k))] [])
  refine Owes.by (fun _ kq => XS.iloadN X0.here hx rfl (hb hby d1_0) rfl kq) ?_
  show Owes p e below s (Qv (some (.ref r)) h0 n0) ({ frames := 0, cells := 0, slots := 0, locals := 0 } : Room).cells ({ frames := 0, cells := 0, slots := 0, locals := 0 } : Room).slots s₁ (mkF m 1 #[(.val (.int k))] [(.int k)])
  by_cases q0 : k = 0
  · skip
    refine Owes.by (fun _ kq => XS.ifNo X0.here hx rfl (hb hby d1_1) rfl (XT.i0_ne_f q0) kq) ?_
    show Owes p e below s (Qv (some (.ref r)) h0 n0) ({ frames := 0, cells := 0, slots := 0, locals := 0 } : Room).cells ({ frames := 0, cells := 0, slots := 0, locals := 0 } : Room).slots s₁ (mkF m 4 #[(.val (.int k))] [])
    obtain ⟨T1, X1, e1, st1⟩ := getS2 X0 hx hZ hown (host := "") (Or.inl (hw _ (List.mem_of_getElem? (i := 5) rfl))) Via.refl e0 S_EQUAL (g := (mkF m 4 #[(.val (.int k))] [])) rfl (hb hby d1_4)
    refine Owes.by st1 ?_
    show Owes p e below s (Qv (some (.ref r)) h0 n0) ({ frames := 0, cells := 0, slots := 0, locals := 0 } : Room).cells ({ frames := 0, cells := 0, slots := 0, locals := 0 } : Room).slots T1 (mkF m 7 #[(.val (.int k))] [(.ref w_EQUAL)])
    refine Owes.ret X1 (v := some (.ref w_EQUAL)) (fun h => by rw [Bd.returns] at h; cases h) hlk ?_ (by decide) (by decide) (fun fs hr => retOut X1 hx Bd.returns rfl (Or.inr (Or.inr (Or.inr (Or.inr ⟨rfl, rfl, rfl⟩)))) (hb hby d1_7) hr)
    rw [e1]
    exact ⟨by rw [← hr, if_pos q0], rfl, rfl⟩
  · skip
    refine Owes.by (fun _ kq => XS.ifYes X0.here hx rfl (pc0 := 1) (pc' := 8) rfl (hb hby d1_1) rfl (XT.i0_ne_t q0) (by decide) (by decide) kq) ?_
    show Owes p e below s (Qv (some (.ref r)) h0 n0) ({ frames := 0, cells := 0, slots := 0, locals := 0 } : Room).cells ({ frames := 0, cells := 0, slots := 0, locals := 0 } : Room).slots s₁ (mkF m 8 #[(.val (.int k))] [])
    refine Owes.by (fun _ kq => XS.iloadN X0.here hx rfl (hb hby d1_8) rfl kq) ?_
    show Owes p e below s (Qv (some (.ref r)) h0 n0) ({ frames := 0, cells := 0, slots := 0, locals := 0 } : Room).cells ({ frames := 0, cells := 0, slots := 0, locals := 0 } : Room).slots s₁ (mkF m 9 #[(.val (.int k))] [(.int k)])
    refine Owes.by (fun _ kq => XS.iconst X0.here hx rfl (hb hby d1_9) kq) ?_
    show Owes p e below s (Qv (some (.ref r)) h0 n0) ({ frames := 0, cells := 0, slots := 0, locals := 0 } : Room).cells ({ frames := 0, cells := 0, slots := 0, locals := 0 } : Room).slots s₁ (mkF m 10 #[(.val (.int k))] [(.int (1 : Int32)), (.int k)])
    by_cases q1 : k = (1 : Int32)
    · skip
      refine Owes.by (fun _ kq => XS.icmpNo X0.here hx rfl (hb hby d1_10) rfl (XT.ii_ne_f q1) kq) ?_
      show Owes p e below s (Qv (some (.ref r)) h0 n0) ({ frames := 0, cells := 0, slots := 0, locals := 0 } : Room).cells ({ frames := 0, cells := 0, slots := 0, locals := 0 } : Room).slots s₁ (mkF m 13 #[(.val (.int k))] [])
      obtain ⟨T2, X2, e2, st2⟩ := getS2 X0 hx hZ hown (host := "") (Or.inl (hw _ (List.mem_of_getElem? (i := 32) rfl))) Via.refl e0 S_LESS (g := (mkF m 13 #[(.val (.int k))] [])) rfl (hb hby d1_13)
      refine Owes.by st2 ?_
      show Owes p e below s (Qv (some (.ref r)) h0 n0) ({ frames := 0, cells := 0, slots := 0, locals := 0 } : Room).cells ({ frames := 0, cells := 0, slots := 0, locals := 0 } : Room).slots T2 (mkF m 16 #[(.val (.int k))] [(.ref w_LESS)])
      refine Owes.ret X2 (v := some (.ref w_LESS)) (fun h => by rw [Bd.returns] at h; cases h) hlk ?_ (by decide) (by decide) (fun fs hr => retOut X2 hx Bd.returns rfl (Or.inr (Or.inr (Or.inr (Or.inr ⟨rfl, rfl, rfl⟩)))) (hb hby d1_16) hr)
      rw [e2]
      exact ⟨by rw [← hr, if_neg q0, if_pos q1], rfl, rfl⟩
    · skip
      refine Owes.by (fun _ kq => XS.icmpYes X0.here hx rfl (pc0 := 10) (pc' := 17) rfl (hb hby d1_10) rfl (XT.ii_ne_t q1) (by decide) (by decide) kq) ?_
      show Owes p e below s (Qv (some (.ref r)) h0 n0) ({ frames := 0, cells := 0, slots := 0, locals := 0 } : Room).cells ({ frames := 0, cells := 0, slots := 0, locals := 0 } : Room).slots s₁ (mkF m 17 #[(.val (.int k))] [])
      refine Owes.by (fun _ kq => XS.iloadN X0.here hx rfl (hb hby d1_17) rfl kq) ?_
      show Owes p e below s (Qv (some (.ref r)) h0 n0) ({ frames := 0, cells := 0, slots := 0, locals := 0 } : Room).cells ({ frames := 0, cells := 0, slots := 0, locals := 0 } : Room).slots s₁ (mkF m 18 #[(.val (.int k))] [(.int k)])
      refine Owes.by (fun _ kq => XS.iconst X0.here hx rfl (hb hby d1_18) kq) ?_
      show Owes p e below s (Qv (some (.ref r)) h0 n0) ({ frames := 0, cells := 0, slots := 0, locals := 0 } : Room).cells ({ frames := 0, cells := 0, slots := 0, locals := 0 } : Room).slots s₁ (mkF m 19 #[(.val (.int k))] [(.int (2 : Int32)), (.int k)])
      by_cases q2 : k = (2 : Int32)
      · skip
        refine Owes.by (fun _ kq => XS.icmpNo X0.here hx rfl (hb hby d1_19) rfl (XT.ii_ne_f q2) kq) ?_
        show Owes p e below s (Qv (some (.ref r)) h0 n0) ({ frames := 0, cells := 0, slots := 0, locals := 0 } : Room).cells ({ frames := 0, cells := 0, slots := 0, locals := 0 } : Room).slots s₁ (mkF m 22 #[(.val (.int k))] [])
        obtain ⟨T3, X3, e3, st3⟩ := getS2 X0 hx hZ hown (host := "") (Or.inl (hw _ (List.mem_of_getElem? (i := 37) rfl))) Via.refl e0 S_LESS_OR_EQUAL (g := (mkF m 22 #[(.val (.int k))] [])) rfl (hb hby d1_22)
        refine Owes.by st3 ?_
        show Owes p e below s (Qv (some (.ref r)) h0 n0) ({ frames := 0, cells := 0, slots := 0, locals := 0 } : Room).cells ({ frames := 0, cells := 0, slots := 0, locals := 0 } : Room).slots T3 (mkF m 25 #[(.val (.int k))] [(.ref w_LESS_OR_EQUAL)])
        refine Owes.ret X3 (v := some (.ref w_LESS_OR_EQUAL)) (fun h => by rw [Bd.returns] at h; cases h) hlk ?_ (by decide) (by decide) (fun fs hr => retOut X3 hx Bd.returns rfl (Or.inr (Or.inr (Or.inr (Or.inr ⟨rfl, rfl, rfl⟩)))) (hb hby d1_25) hr)
        rw [e3]
        exact ⟨by rw [← hr, if_neg q0, if_neg q1, if_pos q2], rfl, rfl⟩
      · skip
        refine Owes.by (fun _ kq => XS.icmpYes X0.here hx rfl (pc0 := 19) (pc' := 26) rfl (hb hby d1_19) rfl (XT.ii_ne_t q2) (by decide) (by decide) kq) ?_
        show Owes p e below s (Qv (some (.ref r)) h0 n0) ({ frames := 0, cells := 0, slots := 0, locals := 0 } : Room).cells ({ frames := 0, cells := 0, slots := 0, locals := 0 } : Room).slots s₁ (mkF m 26 #[(.val (.int k))] [])
        refine Owes.by (fun _ kq => XS.iloadN X0.here hx rfl (hb hby d1_26) rfl kq) ?_
        show Owes p e below s (Qv (some (.ref r)) h0 n0) ({ frames := 0, cells := 0, slots := 0, locals := 0 } : Room).cells ({ frames := 0, cells := 0, slots := 0, locals := 0 } : Room).slots s₁ (mkF m 27 #[(.val (.int k))] [(.int k)])
        refine Owes.by (fun _ kq => XS.iconst X0.here hx rfl (hb hby d1_27) kq) ?_
        show Owes p e below s (Qv (some (.ref r)) h0 n0) ({ frames := 0, cells := 0, slots := 0, locals := 0 } : Room).cells ({ frames := 0, cells := 0, slots := 0, locals := 0 } : Room).slots s₁ (mkF m 28 #[(.val (.int k))] [(.int (3 : Int32)), (.int k)])
        by_cases q3 : k = (3 : Int32)
        · skip
          refine Owes.by (fun _ kq => XS.icmpNo X0.here hx rfl (hb hby d1_28) rfl (XT.ii_ne_f q3) kq) ?_
          show Owes p e below s (Qv (some (.ref r)) h0 n0) ({ frames := 0, cells := 0, slots := 0, locals := 0 } : Room).cells ({ frames := 0, cells := 0, slots := 0, locals := 0 } : Room).slots s₁ (mkF m 31 #[(.val (.int k))] [])
          obtain ⟨T4, X4, e4, st4⟩ := getS2 X0 hx hZ hown (host := "") (Or.inl (hw _ (List.mem_of_getElem? (i := 35) rfl))) Via.refl e0 S_GREATER (g := (mkF m 31 #[(.val (.int k))] [])) rfl (hb hby d1_31)
          refine Owes.by st4 ?_
          show Owes p e below s (Qv (some (.ref r)) h0 n0) ({ frames := 0, cells := 0, slots := 0, locals := 0 } : Room).cells ({ frames := 0, cells := 0, slots := 0, locals := 0 } : Room).slots T4 (mkF m 34 #[(.val (.int k))] [(.ref w_GREATER)])
          refine Owes.ret X4 (v := some (.ref w_GREATER)) (fun h => by rw [Bd.returns] at h; cases h) hlk ?_ (by decide) (by decide) (fun fs hr => retOut X4 hx Bd.returns rfl (Or.inr (Or.inr (Or.inr (Or.inr ⟨rfl, rfl, rfl⟩)))) (hb hby d1_34) hr)
          rw [e4]
          exact ⟨by rw [← hr, if_neg q0, if_neg q1, if_neg q2, if_pos q3], rfl, rfl⟩
        · skip
          refine Owes.by (fun _ kq => XS.icmpYes X0.here hx rfl (pc0 := 28) (pc' := 35) rfl (hb hby d1_28) rfl (XT.ii_ne_t q3) (by decide) (by decide) kq) ?_
          show Owes p e below s (Qv (some (.ref r)) h0 n0) ({ frames := 0, cells := 0, slots := 0, locals := 0 } : Room).cells ({ frames := 0, cells := 0, slots := 0, locals := 0 } : Room).slots s₁ (mkF m 35 #[(.val (.int k))] [])
          obtain ⟨T5, X5, e5, st5⟩ := getS2 X0 hx hZ hown (host := "") (Or.inl (hw _ (List.mem_of_getElem? (i := 33) rfl))) Via.refl e0 S_GREATER_OR_EQUAL (g := (mkF m 35 #[(.val (.int k))] [])) rfl (hb hby d1_35)
          refine Owes.by st5 ?_
          show Owes p e below s (Qv (some (.ref r)) h0 n0) ({ frames := 0, cells := 0, slots := 0, locals := 0 } : Room).cells ({ frames := 0, cells := 0, slots := 0, locals := 0 } : Room).slots T5 (mkF m 38 #[(.val (.int k))] [(.ref w_GREATER_OR_EQUAL)])
          refine Owes.ret X5 (v := some (.ref w_GREATER_OR_EQUAL)) (fun h => by rw [Bd.returns] at h; cases h) hlk ?_ (by decide) (by decide) (fun fs hr => retOut X5 hx Bd.returns rfl (Or.inr (Or.inr (Or.inr (Or.inr ⟨rfl, rfl, rfl⟩)))) (hb hby d1_38) hr)
          rw [e5]
          exact ⟨by rw [← hr, if_neg q0, if_neg q1, if_neg q2, if_neg q3], rfl, rfl⟩
theorem ef_rmO (m : MethodId) (x0 : Addr) : entryFrame m #[(.ref x0)] 1 = mkF m 0 #[(.val (.ref x0))] [] := by first | (simp [entryFrame, mkF, argsToLocals, Value.category]; done) | rfl
set_option maxRecDepth 65536 in
set_option maxHeartbeats 40000000 in
theorem rmO (l : Launch) (Z : State) (a0 : Array Value) (hw : ∀ d ∈ tables_1, d.before a0 Z = true) (ws : List Jvm.Cond) (a1 : Addr) (o : Int32) (h0 : Heap) (n0 : Nat) (Z0 : n0 ≤ h0.size) (F : Fld Z h0 a1 "java/lang/Enum" "ordinal" "I" (.int o)) :
    MetFree l (⟨"java/lang/Enum", "ordinal", "()I"⟩ : MethodName) (head1 (Jvm.Cond.code (⟨"java/lang/Enum", "ordinal", "()I"⟩ : MethodName) jdk_37_method_2_code 1 (some .int) :: ws) ({ frames := 0, cells := 0, slots := 0, locals := 0 } : Room)) (fun aa UU => aa = #[(.ref a1)] ∧ Z.Warmed39 UU.vm ∧ UU.heap = h0) (fun _ _ _ _ _ => True) (fun _ UU oo UU' => ∃ vr Lr, oo = .returned vr ∧ (Qv (some (.int o)) h0 n0) vr UU'.heap Lr ∧ FrameEnd UU oo UU' Lr ({ frames := 0, cells := 0, slots := 0, locals := 0 } : Room).cells ({ frames := 0, cells := 0, slots := 0, locals := 0 } : Room).slots) := by
  refine MetFree.of_bodySF (plainFor_of_name pn_Enum) hisR ?_
  intro p e s m args below meth c s₁ Bd hml0 hP hK
  obtain ⟨rfl, hZ, hh⟩ := hP
  have hx := Bd.exec
  have hby := Bd.bytes
  have hml : c.maxLocals = 1 := hml0
  have hown : s.vm.findClass "java/lang/Enum" = some m.cls := findClass_of_methodNamed Bd.named
  have hnm := (name_of_methodNamed Bd.named Bd.method).1
  have hlk := Bd.notSynchronized
  have X0 : Stand p l e ({ frames := 0, cells := 0, slots := 0, locals := 0 } : Room) s m #[(.ref a1)] below meth c s₁ [] 0 0 := Stand.of_body Bd
  have e0 : s₁.heap = h0 := by rw [← hh, Bd.state]; rfl
  have N0 := Fr.nil n0
  show Owes p e below s (Qv (some (.int o)) h0 n0) ({ frames := 0, cells := 0, slots := 0, locals := 0 } : Room).cells ({ frames := 0, cells := 0, slots := 0, locals := 0 } : Room).slots s₁ (entryFrame m #[(.ref a1)] 1)
  rw [ef_rmO m a1]
  show Owes p e below s (Qv (some (.int o)) h0 n0) ({ frames := 0, cells := 0, slots := 0, locals := 0 } : Room).cells ({ frames := 0, cells := 0, slots := 0, locals := 0 } : Room).slots s₁ (mkF m 0 #[(.val (.ref a1))] [])
  refine Owes.by (fun _ kq => XS.aloadN X0.here hx rfl (hb hby d3_0) rfl rfl kq) ?_
  show Owes p e below s (Qv (some (.int o)) h0 n0) ({ frames := 0, cells := 0, slots := 0, locals := 0 } : Room).cells ({ frames := 0, cells := 0, slots := 0, locals := 0 } : Room).slots s₁ (mkF m 1 #[(.val (.ref a1))] [(.ref a1)])
  obtain ⟨T1, X1, e1, st1⟩ := getF X0 hx hZ hown (host := "") (Or.inl (hw _ (List.mem_of_getElem? (i := 21) rfl))) Via.refl e0 F (g := (mkF m 1 #[(.val (.ref a1))] [(.ref a1)])) rfl rfl (hb hby d3_1)
  refine Owes.by st1 ?_
  show Owes p e below s (Qv (some (.int o)) h0 n0) ({ frames := 0, cells := 0, slots := 0, locals := 0 } : Room).cells ({ frames := 0, cells := 0, slots := 0, locals := 0 } : Room).slots T1 (mkF m 4 #[(.val (.ref a1))] [(.int o)])
  refine Owes.ret X1 (v := some (.int o)) (fun h => by rw [Bd.returns] at h; cases h) hlk ?_ (by decide) (by decide) (fun fs hr => retOut X1 hx Bd.returns rfl (Or.inl ⟨rfl, Or.inl rfl, _, rfl⟩) (hb hby d3_4) hr)
  rw [e1]
  exact ⟨rfl, rfl, rfl⟩
theorem ef_rmH (m : MethodId) (x0 : Addr) (x1 : Int32) : entryFrame m #[(.ref x0), (.int x1)] 2 = mkF m 0 #[(.val (.ref x0)), (.val (.int x1))] [] := by first | (simp [entryFrame, mkF, argsToLocals, Value.category]; done) | rfl
set_option maxRecDepth 65536 in
set_option maxHeartbeats 40000000 in
theorem rmH (l : Launch) (Z : State) (a0 : Array Value) (hw : ∀ d ∈ tables_1, d.before a0 Z = true) (ws : List Jvm.Cond) (a1 : Addr) (x : Int32) (o r : Int32) (h0 : Heap) (n0 : Nat) (Z0 : n0 ≤ h0.size) (F : Fld Z h0 a1 "java/lang/Enum" "ordinal" "I" (.int o)) (E : Exa Z h0 a1 "dev/tagwarden/condition/OrderedValues$Relation") (ho : o = 0 ∨ o = 1 ∨ o = 2 ∨ o = 3 ∨ o = 4) (hr : own_holds o x = r) :
    MetFree l (⟨"dev/tagwarden/condition/OrderedValues$Relation", "holds", "(I)Z"⟩ : MethodName) (head1 (Jvm.Cond.code (⟨"dev/tagwarden/condition/OrderedValues$Relation", "holds", "(I)Z"⟩ : MethodName) prog_38_method_4_code 2 (some .boolean) :: ws) ({ frames := 1, cells := 0, slots := 0, locals := 12 } : Room)) (fun aa UU => aa = #[(.ref a1), (.int x)] ∧ Z.Warmed39 UU.vm ∧ UU.heap = h0) (fun _ _ _ _ _ => True) (fun _ UU oo UU' => ∃ vr Lr, oo = .returned vr ∧ (Qv (some (.int r)) h0 n0) vr UU'.heap Lr ∧ FrameEnd UU oo UU' Lr ({ frames := 1, cells := 0, slots := 0, locals := 12 } : Room).cells ({ frames := 1, cells := 0, slots := 0, locals := 12 } : Room).slots) := by
  refine MetFree.of_bodySF (plainFor_of_name pn_OrderedValues_Relation) hisR ?_
  intro p e s m args below meth c s₁ Bd hml0 hP hK
  obtain ⟨rfl, hZ, hh⟩ := hP
  have hx := Bd.exec
  have hby := Bd.bytes
  have hml : c.maxLocals = 2 := hml0
  have hown : s.vm.findClass "dev/tagwarden/condition/OrderedValues$Relation" = some m.cls := findClass_of_methodNamed Bd.named
  have hnm := (name_of_methodNamed Bd.named Bd.method).1
  have hlk := Bd.notSynchronized
  have X0 : Stand p l e ({ frames := 1, cells := 0, slots := 0, locals := 12 } : Room) s m #[(.ref a1), (.int x)] below meth c s₁ [] 0 0 := Stand.of_body Bd
  have e0 : s₁.heap = h0 := by rw [← hh, Bd.state]; rfl
  have N0 := Fr.nil n0
  show Owes p e below s (Qv (some (.int r)) h0 n0) ({ frames := 1, cells := 0, slots := 0, locals := 12 } : Room).cells ({ frames := 1, cells := 0, slots := 0, locals := 12 } : Room).slots s₁ (entryFrame m #[(.ref a1), (.int x)] 2)
  rw [ef_rmH m a1 x]
  show Owes p e below s (Qv (some (.int r)) h0 n0) ({ frames := 1, cells := 0, slots := 0, locals := 12 } : Room).cells ({ frames := 1, cells := 0, slots := 0, locals := 12 } : Room).slots s₁ (mkF m 0 #[(.val (.ref a1)), (.val (.int x))] [])
  refine Owes.by (fun _ kq => XS.aloadN X0.here hx rfl (hb hby d2_0) rfl rfl kq) ?_
  show Owes p e below s (Qv (some (.int r)) h0 n0) ({ frames := 1, cells := 0, slots := 0, locals := 12 } : Room).cells ({ frames := 1, cells := 0, slots := 0, locals := 12 } : Room).slots s₁ (mkF m 1 #[(.val (.ref a1)), (.val (.int x))] [(.ref a1)])
  obtain ⟨cq1, kq1, qa1, qb1, qc1⟩ := isOf hZ e0 E
  obtain ⟨_, _, ⟨T1, L1, k1, n1⟩, -, X1, ⟨Lc1, hQ1, l1, y1, z1⟩, st1⟩ := X0.virtualBackUp hx (x := (⟨"dev/tagwarden/condition/OrderedValues$Relation", "ordinal", "()I"⟩ : MethodName)) (y := (⟨"java/lang/Enum", "ordinal", "()I"⟩ : MethodName)) (owner := "java/lang/Enum") hown (mvT hZ (hw _ (List.mem_of_getElem? (i := 14) rfl))) (mvT hZ (hw _ (List.mem_of_getElem? (i := 15) rfl))) (mvT hZ (hw _ (List.mem_of_getElem? (i := 16) rfl))) (by decide) (mvT hZ (hw _ (List.mem_of_getElem? (i := 18) rfl))) (mvT hZ (hw _ (List.mem_of_getElem? (i := 17) rfl))) (backOf (W := 0) (rmO l Z a0 hw [] a1 o h0 n0 Z0 F) hZ (hw _ (List.mem_of_getElem? (i := 20) rfl)) (hw _ (List.mem_of_getElem? (i := 19) rfl)) (by decide) (by decide)) qa1 qc1 (g := (mkF m 1 #[(.val (.ref a1)), (.val (.int x))] [(.ref a1)])) rfl (by rw [hml]; rfl) (Steps.refl _) (argsL := []) (rest := []) (lenOf pd_I rfl) rfl (by show 2 * 0 + _ ≤ _; exact Nat.le_of_eq rfl) (hb hby d2_1) (fun _ _ => ⟨rfl, e0, (by decide : 0 + 0 ≤ _), (by decide : 0 + 0 ≤ _)⟩)
  dsimp only [Pt.U, Pt.locs, Pt.cells, Pt.slots] at X1 l1 y1 z1 st1 hQ1
  subst l1 y1 z1
  obtain ⟨rfl, rfl, e1⟩ := hQ1
  try rw [List.append_nil] at X1
  refine Owes.by (fun _ kq => st1.trans kq) ?_
  show Owes p e below s (Qv (some (.int r)) h0 n0) ({ frames := 1, cells := 0, slots := 0, locals := 12 } : Room).cells ({ frames := 1, cells := 0, slots := 0, locals := 12 } : Room).slots T1 (mkF m 4 #[(.val (.ref a1)), (.val (.int x))] [(.int o)])
  rcases ho with q | q | q | q | q
  · rw [q]
    show Owes p e below s (Qv (some (.int r)) h0 n0) ({ frames := 1, cells := 0, slots := 0, locals := 12 } : Room).cells ({ frames := 1, cells := 0, slots := 0, locals := 12 } : Room).slots T1 (mkF m 4 #[(.val (.ref a1)), (.val (.int x))] [(.int (0 : Int32))])
    refine Owes.by (fun _ kq => XS.tswIn X1.here hx rfl (o := 46) (pc0 := 4) (pc' := 50) rfl (hb hby d2_4) rfl (by decide) (by decide) (by decide) (by decide) kq) ?_
    show Owes p e below s (Qv (some (.int r)) h0 n0) ({ frames := 1, cells := 0, slots := 0, locals := 12 } : Room).cells ({ frames := 1, cells := 0, slots := 0, locals := 12 } : Room).slots T1 (mkF m 50 #[(.val (.ref a1)), (.val (.int x))] [])
    refine Owes.by (fun _ kq => XS.iloadN X1.here hx rfl (hb hby d2_50) rfl kq) ?_
    show Owes p e below s (Qv (some (.int r)) h0 n0) ({ frames := 1, cells := 0, slots := 0, locals := 12 } : Room).cells ({ frames := 1, cells := 0, slots := 0, locals := 12 } : Room).slots T1 (mkF m 51 #[(.val (.ref a1)), (.val (.int x))] [(.int x)])
    by_cases b : x = 0
    · skip
      refine Owes.by (fun _ kq => XS.ifNo X1.here hx rfl (hb hby d2_51) rfl (XT.i0_ne_f b) kq) ?_
      show Owes p e below s (Qv (some (.int r)) h0 n0) ({ frames := 1, cells := 0, slots := 0, locals := 12 } : Room).cells ({ frames := 1, cells := 0, slots := 0, locals := 12 } : Room).slots T1 (mkF m 54 #[(.val (.ref a1)), (.val (.int x))] [])
      refine Owes.by (fun _ kq => XS.iconst X1.here hx rfl (hb hby d2_54) kq) ?_
      show Owes p e below s (Qv (some (.int r)) h0 n0) ({ frames := 1, cells := 0, slots := 0, locals := 12 } : Room).cells ({ frames := 1, cells := 0, slots := 0, locals := 12 } : Room).slots T1 (mkF m 55 #[(.val (.ref a1)), (.val (.int x))] [(.int (1 : Int32))])
      refine Owes.by (fun _ kq => XS.goto X1.here hx rfl (pc0 := 55) (pc' := 107) rfl (hb hby d2_55) (by decide) (by decide) kq) ?_
      show Owes p e below s (Qv (some (.int r)) h0 n0) ({ frames := 1, cells := 0, slots := 0, locals := 12 } : Room).cells ({ frames := 1, cells := 0, slots := 0, locals := 12 } : Room).slots T1 (mkF m 107 #[(.val (.ref a1)), (.val (.int x))] [(.int (1 : Int32))])
      refine Owes.ret X1 (v := some (.int (1 : Int32))) (fun h => by rw [Bd.returns] at h; cases h) hlk ?_ (by decide) (by decide) (fun fs hr => retN X1 hx (t := .boolean) Bd.returns (by simp) (hb hby d2_107) hr)
      rw [e1]
      exact ⟨by rw [← hr, q]; simp +decide [own_holds, b], rfl, rfl⟩
    · skip
      refine Owes.by (fun _ kq => XS.ifYes X1.here hx rfl (pc0 := 51) (pc' := 58) rfl (hb hby d2_51) rfl (XT.i0_ne_t b) (by decide) (by decide) kq) ?_
      show Owes p e below s (Qv (some (.int r)) h0 n0) ({ frames := 1, cells := 0, slots := 0, locals := 12 } : Room).cells ({ frames := 1, cells := 0, slots := 0, locals := 12 } : Room).slots T1 (mkF m 58 #[(.val (.ref a1)), (.val (.int x))] [])
      refine Owes.by (fun _ kq => XS.iconst X1.here hx rfl (hb hby d2_58) kq) ?_
      show Owes p e below s (Qv (some (.int r)) h0 n0) ({ frames := 1, cells := 0, slots := 0, locals := 12 } : Room).cells ({ frames := 1, cells := 0, slots := 0, locals := 12 } : Room).slots T1 (mkF m 59 #[(.val (.ref a1)), (.val (.int x))] [(.int (0 : Int32))])
      refine Owes.by (fun _ kq => XS.goto X1.here hx rfl (pc0 := 59) (pc' := 107) rfl (hb hby d2_59) (by decide) (by decide) kq) ?_
      show Owes p e below s (Qv (some (.int r)) h0 n0) ({ frames := 1, cells := 0, slots := 0, locals := 12 } : Room).cells ({ frames := 1, cells := 0, slots := 0, locals := 12 } : Room).slots T1 (mkF m 107 #[(.val (.ref a1)), (.val (.int x))] [(.int (0 : Int32))])
      refine Owes.ret X1 (v := some (.int (0 : Int32))) (fun h => by rw [Bd.returns] at h; cases h) hlk ?_ (by decide) (by decide) (fun fs hr => retN X1 hx (t := .boolean) Bd.returns (by simp) (hb hby d2_107) hr)
      rw [e1]
      exact ⟨by rw [← hr, q]; simp +decide [own_holds, b], rfl, rfl⟩
  · rw [q]
    show Owes p e below s (Qv (some (.int r)) h0 n0) ({ frames := 1, cells := 0, slots := 0, locals := 12 } : Room).cells ({ frames := 1, cells := 0, slots := 0, locals := 12 } : Room).slots T1 (mkF m 4 #[(.val (.ref a1)), (.val (.int x))] [(.int (1 : Int32))])
    refine Owes.by (fun _ kq => XS.tswIn X1.here hx rfl (o := 58) (pc0 := 4) (pc' := 62) rfl (hb hby d2_4) rfl (by decide) (by decide) (by decide) (by decide) kq) ?_
    show Owes p e below s (Qv (some (.int r)) h0 n0) ({ frames := 1, cells := 0, slots := 0, locals := 12 } : Room).cells ({ frames := 1, cells := 0, slots := 0, locals := 12 } : Room).slots T1 (mkF m 62 #[(.val (.ref a1)), (.val (.int x))] [])
    refine Owes.by (fun _ kq => XS.iloadN X1.here hx rfl (hb hby d2_62) rfl kq) ?_
    show Owes p e below s (Qv (some (.int r)) h0 n0) ({ frames := 1, cells := 0, slots := 0, locals := 12 } : Room).cells ({ frames := 1, cells := 0, slots := 0, locals := 12 } : Room).slots T1 (mkF m 63 #[(.val (.ref a1)), (.val (.int x))] [(.int x)])
    by_cases b : x < 0
    · skip
      refine Owes.by (fun _ kq => XS.ifNo X1.here hx rfl (hb hby d2_63) rfl (XT.i0_ge_f b) kq) ?_
      show Owes p e below s (Qv (some (.int r)) h0 n0) ({ frames := 1, cells := 0, slots := 0, locals := 12 } : Room).cells ({ frames := 1, cells := 0, slots := 0, locals := 12 } : Room).slots T1 (mkF m 66 #[(.val (.ref a1)), (.val (.int x))] [])
      refine Owes.by (fun _ kq => XS.iconst X1.here hx rfl (hb hby d2_66) kq) ?_
      show Owes p e below s (Qv (some (.int r)) h0 n0) ({ frames := 1, cells := 0, slots := 0, locals := 12 } : Room).cells ({ frames := 1, cells := 0, slots := 0, locals := 12 } : Room).slots T1 (mkF m 67 #[(.val (.ref a1)), (.val (.int x))] [(.int (1 : Int32))])
      refine Owes.by (fun _ kq => XS.goto X1.here hx rfl (pc0 := 67) (pc' := 107) rfl (hb hby d2_67) (by decide) (by decide) kq) ?_
      show Owes p e below s (Qv (some (.int r)) h0 n0) ({ frames := 1, cells := 0, slots := 0, locals := 12 } : Room).cells ({ frames := 1, cells := 0, slots := 0, locals := 12 } : Room).slots T1 (mkF m 107 #[(.val (.ref a1)), (.val (.int x))] [(.int (1 : Int32))])
      refine Owes.ret X1 (v := some (.int (1 : Int32))) (fun h => by rw [Bd.returns] at h; cases h) hlk ?_ (by decide) (by decide) (fun fs hr => retN X1 hx (t := .boolean) Bd.returns (by simp) (hb hby d2_107) hr)
      rw [e1]
      exact ⟨by rw [← hr, q]; simp +decide [own_holds, b], rfl, rfl⟩
    · skip
      refine Owes.by (fun _ kq => XS.ifYes X1.here hx rfl (pc0 := 63) (pc' := 70) rfl (hb hby d2_63) rfl (XT.i0_ge_t b) (by decide) (by decide) kq) ?_
      show Owes p e below s (Qv (some (.int r)) h0 n0) ({ frames := 1, cells := 0, slots := 0, locals := 12 } : Room).cells ({ frames := 1, cells := 0, slots := 0, locals := 12 } : Room).slots T1 (mkF m 70 #[(.val (.ref a1)), (.val (.int x))] [])
      refine Owes.by (fun _ kq => XS.iconst X1.here hx rfl (hb hby d2_70) kq) ?_
      show Owes p e below s (Qv (some (.int r)) h0 n0) ({ frames := 1, cells := 0, slots := 0, locals := 12 } : Room).cells ({ frames := 1, cells := 0, slots := 0, locals := 12 } : Room).slots T1 (mkF m 71 #[(.val (.ref a1)), (.val (.int x))] [(.int (0 : Int32))])
      refine Owes.by (fun _ kq => XS.goto X1.here hx rfl (pc0 := 71) (pc' := 107) rfl (hb hby d2_71) (by decide) (by decide) kq) ?_
      show Owes p e below s (Qv (some (.int r)) h0 n0) ({ frames := 1, cells := 0, slots := 0, locals := 12 } : Room).cells ({ frames := 1, cells := 0, slots := 0, locals := 12 } : Room).slots T1 (mkF m 107 #[(.val (.ref a1)), (.val (.int x))] [(.int (0 : Int32))])
      refine Owes.ret X1 (v := some (.int (0 : Int32))) (fun h => by rw [Bd.returns] at h; cases h) hlk ?_ (by decide) (by decide) (fun fs hr => retN X1 hx (t := .boolean) Bd.returns (by simp) (hb hby d2_107) hr)
      rw [e1]
      exact ⟨by rw [← hr, q]; simp +decide [own_holds, b], rfl, rfl⟩
  · rw [q]
    show Owes p e below s (Qv (some (.int r)) h0 n0) ({ frames := 1, cells := 0, slots := 0, locals := 12 } : Room).cells ({ frames := 1, cells := 0, slots := 0, locals := 12 } : Room).slots T1 (mkF m 4 #[(.val (.ref a1)), (.val (.int x))] [(.int (2 : Int32))])
    refine Owes.by (fun _ kq => XS.tswIn X1.here hx rfl (o := 70) (pc0 := 4) (pc' := 74) rfl (hb hby d2_4) rfl (by decide) (by decide) (by decide) (by decide) kq) ?_
    show Owes p e below s (Qv (some (.int r)) h0 n0) ({ frames := 1, cells := 0, slots := 0, locals := 12 } : Room).cells ({ frames := 1, cells := 0, slots := 0, locals := 12 } : Room).slots T1 (mkF m 74 #[(.val (.ref a1)), (.val (.int x))] [])
    refine Owes.by (fun _ kq => XS.iloadN X1.here hx rfl (hb hby d2_74) rfl kq) ?_
    show Owes p e below s (Qv (some (.int r)) h0 n0) ({ frames := 1, cells := 0, slots := 0, locals := 12 } : Room).cells ({ frames := 1, cells := 0, slots := 0, locals := 12 } : Room).slots T1 (mkF m 75 #[(.val (.ref a1)), (.val (.int x))] [(.int x)])
    by_cases b : 0 < x
    · skip
      refine Owes.by (fun _ kq => XS.ifYes X1.here hx rfl (pc0 := 75) (pc' := 82) rfl (hb hby d2_75) rfl (XT.i0_gt_t b) (by decide) (by decide) kq) ?_
      show Owes p e below s (Qv (some (.int r)) h0 n0) ({ frames := 1, cells := 0, slots := 0, locals := 12 } : Room).cells ({ frames := 1, cells := 0, slots := 0, locals := 12 } : Room).slots T1 (mkF m 82 #[(.val (.ref a1)), (.val (.int x))] [])
      refine Owes.by (fun _ kq => XS.iconst X1.here hx rfl (hb hby d2_82) kq) ?_
      show Owes p e below s (Qv (some (.int r)) h0 n0) ({ frames := 1, cells := 0, slots := 0, locals := 12 } : Room).cells ({ frames := 1, cells := 0, slots := 0, locals := 12 } : Room).slots T1 (mkF m 83 #[(.val (.ref a1)), (.val (.int x))] [(.int (0 : Int32))])
      refine Owes.by (fun _ kq => XS.goto X1.here hx rfl (pc0 := 83) (pc' := 107) rfl (hb hby d2_83) (by decide) (by decide) kq) ?_
      show Owes p e below s (Qv (some (.int r)) h0 n0) ({ frames := 1, cells := 0, slots := 0, locals := 12 } : Room).cells ({ frames := 1, cells := 0, slots := 0, locals := 12 } : Room).slots T1 (mkF m 107 #[(.val (.ref a1)), (.val (.int x))] [(.int (0 : Int32))])
      refine Owes.ret X1 (v := some (.int (0 : Int32))) (fun h => by rw [Bd.returns] at h; cases h) hlk ?_ (by decide) (by decide) (fun fs hr => retN X1 hx (t := .boolean) Bd.returns (by simp) (hb hby d2_107) hr)
      rw [e1]
      exact ⟨by rw [← hr, q]; simp +decide [own_holds, b], rfl, rfl⟩
    · skip
      refine Owes.by (fun _ kq => XS.ifNo X1.here hx rfl (hb hby d2_75) rfl (XT.i0_gt_f b) kq) ?_
      show Owes p e below s (Qv (some (.int r)) h0 n0) ({ frames := 1, cells := 0, slots := 0, locals := 12 } : Room).cells ({ frames := 1, cells := 0, slots := 0, locals := 12 } : Room).slots T1 (mkF m 78 #[(.val (.ref a1)), (.val (.int x))] [])
      refine Owes.by (fun _ kq => XS.iconst X1.here hx rfl (hb hby d2_78) kq) ?_
      show Owes p e below s (Qv (some (.int r)) h0 n0) ({ frames := 1, cells := 0, slots := 0, locals := 12 } : Room).cells ({ frames := 1, cells := 0, slots := 0, locals := 12 } : Room).slots T1 (mkF m 79 #[(.val (.ref a1)), (.val (.int x))] [(.int (1 : Int32))])
      refine Owes.by (fun _ kq => XS.goto X1.here hx rfl (pc0 := 79) (pc' := 107) rfl (hb hby d2_79) (by decide) (by decide) kq) ?_
      show Owes p e below s (Qv (some (.int r)) h0 n0) ({ frames := 1, cells := 0, slots := 0, locals := 12 } : Room).cells ({ frames := 1, cells := 0, slots := 0, locals := 12 } : Room).slots T1 (mkF m 107 #[(.val (.ref a1)), (.val (.int x))] [(.int (1 : Int32))])
      refine Owes.ret X1 (v := some (.int (1 : Int32))) (fun h => by rw [Bd.returns] at h; cases h) hlk ?_ (by decide) (by decide) (fun fs hr => retN X1 hx (t := .boolean) Bd.returns (by simp) (hb hby d2_107) hr)
      rw [e1]
      exact ⟨by rw [← hr, q]; simp +decide [own_holds, b], rfl, rfl⟩
  · rw [q]
    show Owes p e below s (Qv (some (.int r)) h0 n0) ({ frames := 1, cells := 0, slots := 0, locals := 12 } : Room).cells ({ frames := 1, cells := 0, slots := 0, locals := 12 } : Room).slots T1 (mkF m 4 #[(.val (.ref a1)), (.val (.int x))] [(.int (3 : Int32))])
    refine Owes.by (fun _ kq => XS.tswIn X1.here hx rfl (o := 82) (pc0 := 4) (pc' := 86) rfl (hb hby d2_4) rfl (by decide) (by decide) (by decide) (by decide) kq) ?_
    show Owes p e below s (Qv (some (.int r)) h0 n0) ({ frames := 1, cells := 0, slots := 0, locals := 12 } : Room).cells ({ frames := 1, cells := 0, slots := 0, locals := 12 } : Room).slots T1 (mkF m 86 #[(.val (.ref a1)), (.val (.int x))] [])
    refine Owes.by (fun _ kq => XS.iloadN X1.here hx rfl (hb hby d2_86) rfl kq) ?_
    show Owes p e below s (Qv (some (.int r)) h0 n0) ({ frames := 1, cells := 0, slots := 0, locals := 12 } : Room).cells ({ frames := 1, cells := 0, slots := 0, locals := 12 } : Room).slots T1 (mkF m 87 #[(.val (.ref a1)), (.val (.int x))] [(.int x)])
    by_cases b : 0 < x
    · skip
      refine Owes.by (fun _ kq => XS.ifNo X1.here hx rfl (hb hby d2_87) rfl (XT.i0_le_f b) kq) ?_
      show Owes p e below s (Qv (some (.int r)) h0 n0) ({ frames := 1, cells := 0, slots := 0, locals := 12 } : Room).cells ({ frames := 1, cells := 0, slots := 0, locals := 12 } : Room).slots T1 (mkF m 90 #[(.val (.ref a1)), (.val (.int x))] [])
      refine Owes.by (fun _ kq => XS.iconst X1.here hx rfl (hb hby d2_90) kq) ?_
      show Owes p e below s (Qv (some (.int r)) h0 n0) ({ frames := 1, cells := 0, slots := 0, locals := 12 } : Room).cells ({ frames := 1, cells := 0, slots := 0, locals := 12 } : Room).slots T1 (mkF m 91 #[(.val (.ref a1)), (.val (.int x))] [(.int (1 : Int32))])
      refine Owes.by (fun _ kq => XS.goto X1.here hx rfl (pc0 := 91) (pc' := 107) rfl (hb hby d2_91) (by decide) (by decide) kq) ?_
      show Owes p e below s (Qv (some (.int r)) h0 n0) ({ frames := 1, cells := 0, slots := 0, locals := 12 } : Room).cells ({ frames := 1, cells := 0, slots := 0, locals := 12 } : Room).slots T1 (mkF m 107 #[(.val (.ref a1)), (.val (.int x))] [(.int (1 : Int32))])
      refine Owes.ret X1 (v := some (.int (1 : Int32))) (fun h => by rw [Bd.returns] at h; cases h) hlk ?_ (by decide) (by decide) (fun fs hr => retN X1 hx (t := .boolean) Bd.returns (by simp) (hb hby d2_107) hr)
      rw [e1]
      exact ⟨by rw [← hr, q]; simp +decide [own_holds, b], rfl, rfl⟩
    · skip
      refine Owes.by (fun _ kq => XS.ifYes X1.here hx rfl (pc0 := 87) (pc' := 94) rfl (hb hby d2_87) rfl (XT.i0_le_t b) (by decide) (by decide) kq) ?_
      show Owes p e below s (Qv (some (.int r)) h0 n0) ({ frames := 1, cells := 0, slots := 0, locals := 12 } : Room).cells ({ frames := 1, cells := 0, slots := 0, locals := 12 } : Room).slots T1 (mkF m 94 #[(.val (.ref a1)), (.val (.int x))] [])
      refine Owes.by (fun _ kq => XS.iconst X1.here hx rfl (hb hby d2_94) kq) ?_
      show Owes p e below s (Qv (some (.int r)) h0 n0) ({ frames := 1, cells := 0, slots := 0, locals := 12 } : Room).cells ({ frames := 1, cells := 0, slots := 0, locals := 12 } : Room).slots T1 (mkF m 95 #[(.val (.ref a1)), (.val (.int x))] [(.int (0 : Int32))])
      refine Owes.by (fun _ kq => XS.goto X1.here hx rfl (pc0 := 95) (pc' := 107) rfl (hb hby d2_95) (by decide) (by decide) kq) ?_
      show Owes p e below s (Qv (some (.int r)) h0 n0) ({ frames := 1, cells := 0, slots := 0, locals := 12 } : Room).cells ({ frames := 1, cells := 0, slots := 0, locals := 12 } : Room).slots T1 (mkF m 107 #[(.val (.ref a1)), (.val (.int x))] [(.int (0 : Int32))])
      refine Owes.ret X1 (v := some (.int (0 : Int32))) (fun h => by rw [Bd.returns] at h; cases h) hlk ?_ (by decide) (by decide) (fun fs hr => retN X1 hx (t := .boolean) Bd.returns (by simp) (hb hby d2_107) hr)
      rw [e1]
      exact ⟨by rw [← hr, q]; simp +decide [own_holds, b], rfl, rfl⟩
  · rw [q]
    show Owes p e below s (Qv (some (.int r)) h0 n0) ({ frames := 1, cells := 0, slots := 0, locals := 12 } : Room).cells ({ frames := 1, cells := 0, slots := 0, locals := 12 } : Room).slots T1 (mkF m 4 #[(.val (.ref a1)), (.val (.int x))] [(.int (4 : Int32))])
    refine Owes.by (fun _ kq => XS.tswIn X1.here hx rfl (o := 94) (pc0 := 4) (pc' := 98) rfl (hb hby d2_4) rfl (by decide) (by decide) (by decide) (by decide) kq) ?_
    show Owes p e below s (Qv (some (.int r)) h0 n0) ({ frames := 1, cells := 0, slots := 0, locals := 12 } : Room).cells ({ frames := 1, cells := 0, slots := 0, locals := 12 } : Room).slots T1 (mkF m 98 #[(.val (.ref a1)), (.val (.int x))] [])
    refine Owes.by (fun _ kq => XS.iloadN X1.here hx rfl (hb hby d2_98) rfl kq) ?_
    show Owes p e below s (Qv (some (.int r)) h0 n0) ({ frames := 1, cells := 0, slots := 0, locals := 12 } : Room).cells ({ frames := 1, cells := 0, slots := 0, locals := 12 } : Room).slots T1 (mkF m 99 #[(.val (.ref a1)), (.val (.int x))] [(.int x)])
    by_cases b : x < 0
    · skip
      refine Owes.by (fun _ kq => XS.ifYes X1.here hx rfl (pc0 := 99) (pc' := 106) rfl (hb hby d2_99) rfl (XT.i0_lt_t b) (by decide) (by decide) kq) ?_
      show Owes p e below s (Qv (some (.int r)) h0 n0) ({ frames := 1, cells := 0, slots := 0, locals := 12 } : Room).cells ({ frames := 1, cells := 0, slots := 0, locals := 12 } : Room).slots T1 (mkF m 106 #[(.val (.ref a1)), (.val (.int x))] [])
      refine Owes.by (fun _ kq => XS.iconst X1.here hx rfl (hb hby d2_106) kq) ?_
      show Owes p e below s (Qv (some (.int r)) h0 n0) ({ frames := 1, cells := 0, slots := 0, locals := 12 } : Room).cells ({ frames := 1, cells := 0, slots := 0, locals := 12 } : Room).slots T1 (mkF m 107 #[(.val (.ref a1)), (.val (.int x))] [(.int (0 : Int32))])
      refine Owes.ret X1 (v := some (.int (0 : Int32))) (fun h => by rw [Bd.returns] at h; cases h) hlk ?_ (by decide) (by decide) (fun fs hr => retN X1 hx (t := .boolean) Bd.returns (by simp) (hb hby d2_107) hr)
      rw [e1]
      exact ⟨by rw [← hr, q]; simp +decide [own_holds, b], rfl, rfl⟩
    · skip
      refine Owes.by (fun _ kq => XS.ifNo X1.here hx rfl (hb hby d2_99) rfl (XT.i0_lt_f b) kq) ?_
      show Owes p e below s (Qv (some (.int r)) h0 n0) ({ frames := 1, cells := 0, slots := 0, locals := 12 } : Room).cells ({ frames := 1, cells := 0, slots := 0, locals := 12 } : Room).slots T1 (mkF m 102 #[(.val (.ref a1)), (.val (.int x))] [])
      refine Owes.by (fun _ kq => XS.iconst X1.here hx rfl (hb hby d2_102) kq) ?_
      show Owes p e below s (Qv (some (.int r)) h0 n0) ({ frames := 1, cells := 0, slots := 0, locals := 12 } : Room).cells ({ frames := 1, cells := 0, slots := 0, locals := 12 } : Room).slots T1 (mkF m 103 #[(.val (.ref a1)), (.val (.int x))] [(.int (1 : Int32))])
      refine Owes.by (fun _ kq => XS.goto X1.here hx rfl (pc0 := 103) (pc' := 107) rfl (hb hby d2_103) (by decide) (by decide) kq) ?_
      show Owes p e below s (Qv (some (.int r)) h0 n0) ({ frames := 1, cells := 0, slots := 0, locals := 12 } : Room).cells ({ frames := 1, cells := 0, slots := 0, locals := 12 } : Room).slots T1 (mkF m 107 #[(.val (.ref a1)), (.val (.int x))] [(.int (1 : Int32))])
      refine Owes.ret X1 (v := some (.int (1 : Int32))) (fun h => by rw [Bd.returns] at h; cases h) hlk ?_ (by decide) (by decide) (fun fs hr => retN X1 hx (t := .boolean) Bd.returns (by simp) (hb hby d2_107) hr)
      rw [e1]
      exact ⟨by rw [← hr, q]; simp +decide [own_holds, b], rfl, rfl⟩
theorem ef_rmB (m : MethodId) (x0 : Addr) : entryFrame m #[(.ref x0)] 1 = mkF m 0 #[(.val (.ref x0))] [] := by first | (simp [entryFrame, mkF, argsToLocals, Value.category]; done) | rfl
set_option maxRecDepth 65536 in
set_option maxHeartbeats 40000000 in
theorem rmB (l : Launch) (Z : State) (a0 : Array Value) (hw : ∀ d ∈ tables_1, d.before a0 Z = true) (ws : List Jvm.Cond) (a1 w_LESS w_LESS_OR_EQUAL : Addr) (r : Int32) (h0 : Heap) (n0 : Nat) (Z0 : n0 ≤ h0.size) (S_LESS : Sta Z h0 "dev/tagwarden/condition/OrderedValues$Relation" "LESS" "Ldev/tagwarden/condition/OrderedValues$Relation;" (.ref w_LESS)) (S_LESS_OR_EQUAL : Sta Z h0 "dev/tagwarden/condition/OrderedValues$Relation" "LESS_OR_EQUAL" "Ldev/tagwarden/condition/OrderedValues$Relation;" (.ref w_LESS_OR_EQUAL)) (hr : (if a1 = w_LESS ∨ a1 = w_LESS_OR_EQUAL then (1 : Int32) else 0) = r) :
    MetFree l (⟨"dev/tagwarden/condition/OrderedValues$Relation", "below", "()Z"⟩ : MethodName) (head1 (Jvm.Cond.code (⟨"dev/tagwarden/condition/OrderedValues$Relation", "below", "()Z"⟩ : MethodName) prog_38_method_5_code 1 (some .boolean) :: ws) ({ frames := 0, cells := 0, slots := 0, locals := 0 } : Room)) (fun aa UU => aa = #[(.ref a1)] ∧ Z.Warmed39 UU.vm ∧ UU.heap = h0) (fun _ _ _ _ _ => True) (fun _ UU oo UU' => ∃ vr Lr, oo = .returned vr ∧ (Qv (some (.int r)) h0 n0) vr UU'.heap Lr ∧ FrameEnd UU oo UU' Lr ({ frames := 0, cells := 0, slots := 0, locals := 0 } : Room).cells ({ frames := 0, cells := 0, slots := 0, locals := 0 } : Room).slots) := by
  refine MetFree.of_bodySF (plainFor_of_name pn_OrderedValues_Relation) hisR ?_
  intro p e s m args below meth c s₁ Bd hml0 hP hK
  obtain ⟨rfl, hZ, hh⟩ := hP
  have hx := Bd.exec
  have hby := Bd.bytes
  have hml : c.maxLocals = 1 := hml0
  have hown : s.vm.findClass "dev/tagwarden/condition/OrderedValues$Relation" = some m.cls := findClass_of_methodNamed Bd.named
  have hnm := (name_of_methodNamed Bd.named Bd.method).1
  have hlk := Bd.notSynchronized
  have X0 : Stand p l e ({ frames := 0, cells := 0, slots := 0, locals := 0 } : Room) s m #[(.ref a1)] below meth c s₁ [] 0 0 := Stand.of_body Bd
  have e0 : s₁.heap = h0 := by rw [← hh, Bd.state]; rfl
  have N0 := Fr.nil n0
  show Owes p e below s (Qv (some (.int r)) h0 n0) ({ frames := 0, cells := 0, slots := 0, locals := 0 } : Room).cells ({ frames := 0, cells := 0, slots := 0, locals := 0 } : Room).slots s₁ (entryFrame m #[(.ref a1)] 1)
  rw [ef_rmB m a1]
  show Owes p e below s (Qv (some (.int r)) h0 n0) ({ frames := 0, cells := 0, slots := 0, locals := 0 } : Room).cells ({ frames := 0, cells := 0, slots := 0, locals := 0 } : Room).slots s₁ (mkF m 0 #[(.val (.ref a1))] [])
  refine Owes.by (fun _ kq => XS.aloadN X0.here hx rfl (hb hby d4_0) rfl rfl kq) ?_
  show Owes p e below s (Qv (some (.int r)) h0 n0) ({ frames := 0, cells := 0, slots := 0, locals := 0 } : Room).cells ({ frames := 0, cells := 0, slots := 0, locals := 0 } : Room).slots s₁ (mkF m 1 #[(.val (.ref a1))] [(.ref a1)])
  obtain ⟨T1, X1, e1, st1⟩ := getS2 X0 hx hZ hown (host := "") (Or.inl (hw _ (List.mem_of_getElem? (i := 28) rfl))) Via.refl e0 S_LESS (g := (mkF m 1 #[(.val (.ref a1))] [(.ref a1)])) rfl (hb hby d4_1)
  refine Owes.by st1 ?_
  show Owes p e below s (Qv (some (.int r)) h0 n0) ({ frames := 0, cells := 0, slots := 0, locals := 0 } : Room).cells ({ frames := 0, cells := 0, slots := 0, locals := 0 } : Room).slots T1 (mkF m 4 #[(.val (.ref a1))] [(.ref w_LESS), (.ref a1)])
  by_cases q0 : a1 = w_LESS
  · skip
    refine Owes.by (fun _ kq => Jvm.RoadKit.acmp (g := (mkF m 4 #[(.val (.ref a1))] [(.ref w_LESS), (.ref a1)])) X1 hx rfl rfl rfl (pc0 := 4) (pc' := 14) (same := true) rfl (hb hby d4_4) rfl (decide_eq_true (congrArg Value.ref q0)) (by decide) (by decide) kq) ?_
    show Owes p e below s (Qv (some (.int r)) h0 n0) ({ frames := 0, cells := 0, slots := 0, locals := 0 } : Room).cells ({ frames := 0, cells := 0, slots := 0, locals := 0 } : Room).slots T1 (mkF m 14 #[(.val (.ref a1))] [])
    refine Owes.by (fun _ kq => XS.iconst X1.here hx rfl (hb hby d4_14) kq) ?_
    show Owes p e below s (Qv (some (.int r)) h0 n0) ({ frames := 0, cells := 0, slots := 0, locals := 0 } : Room).cells ({ frames := 0, cells := 0, slots := 0, locals := 0 } : Room).slots T1 (mkF m 15 #[(.val (.ref a1))] [(.int (1 : Int32))])
    refine Owes.by (fun _ kq => XS.goto X1.here hx rfl (pc0 := 15) (pc' := 19) rfl (hb hby d4_15) (by decide) (by decide) kq) ?_
    show Owes p e below s (Qv (some (.int r)) h0 n0) ({ frames := 0, cells := 0, slots := 0, locals := 0 } : Room).cells ({ frames := 0, cells := 0, slots := 0, locals := 0 } : Room).slots T1 (mkF m 19 #[(.val (.ref a1))] [(.int (1 : Int32))])
    refine Owes.ret X1 (v := some (.int (1 : Int32))) (fun h => by rw [Bd.returns] at h; cases h) hlk ?_ (by decide) (by decide) (fun fs hr => retN X1 hx (t := .boolean) Bd.returns (by simp) (hb hby d4_19) hr)
    rw [e1]
    exact ⟨by rw [← hr]; simp [q0], rfl, rfl⟩
  · skip
    refine Owes.by (fun _ kq => Jvm.RoadKit.acmp (g := (mkF m 4 #[(.val (.ref a1))] [(.ref w_LESS), (.ref a1)])) X1 hx rfl rfl rfl (pc0 := 4) (pc' := 7) (same := false) rfl (hb hby d4_4) rfl (decide_eq_false fun q => q0 (Value.ref.inj q)) (by decide) (by decide) kq) ?_
    show Owes p e below s (Qv (some (.int r)) h0 n0) ({ frames := 0, cells := 0, slots := 0, locals := 0 } : Room).cells ({ frames := 0, cells := 0, slots := 0, locals := 0 } : Room).slots T1 (mkF m 7 #[(.val (.ref a1))] [])
    refine Owes.by (fun _ kq => XS.aloadN X1.here hx rfl (hb hby d4_7) rfl rfl kq) ?_
    show Owes p e below s (Qv (some (.int r)) h0 n0) ({ frames := 0, cells := 0, slots := 0, locals := 0 } : Room).cells ({ frames := 0, cells := 0, slots := 0, locals := 0 } : Room).slots T1 (mkF m 8 #[(.val (.ref a1))] [(.ref a1)])
    obtain ⟨T2, X2, e2, st2⟩ := getS2 X1 hx hZ hown (host := "") (Or.inl (hw _ (List.mem_of_getElem? (i := 30) rfl))) Via.refl e1 S_LESS_OR_EQUAL (g := (mkF m 8 #[(.val (.ref a1))] [(.ref a1)])) rfl (hb hby d4_8)
    refine Owes.by st2 ?_
    show Owes p e below s (Qv (some (.int r)) h0 n0) ({ frames := 0, cells := 0, slots := 0, locals := 0 } : Room).cells ({ frames := 0, cells := 0, slots := 0, locals := 0 } : Room).slots T2 (mkF m 11 #[(.val (.ref a1))] [(.ref w_LESS_OR_EQUAL), (.ref a1)])
    by_cases q1 : a1 = w_LESS_OR_EQUAL
    · skip
      refine Owes.by (fun _ kq => Jvm.RoadKit.acmp (g := (mkF m 11 #[(.val (.ref a1))] [(.ref w_LESS_OR_EQUAL), (.ref a1)])) X2 hx rfl rfl rfl (pc0 := 11) (pc' := 14) (same := true) rfl (hb hby d4_11) rfl (decide_eq_true (congrArg Value.ref q1)) (by decide) (by decide) kq) ?_
      show Owes p e below s (Qv (some (.int r)) h0 n0) ({ frames := 0, cells := 0, slots := 0, locals := 0 } : Room).cells ({ frames := 0, cells := 0, slots := 0, locals := 0 } : Room).slots T2 (mkF m 14 #[(.val (.ref a1))] [])
      refine Owes.by (fun _ kq => XS.iconst X2.here hx rfl (hb hby d4_14) kq) ?_
      show Owes p e below s (Qv (some (.int r)) h0 n0) ({ frames := 0, cells := 0, slots := 0, locals := 0 } : Room).cells ({ frames := 0, cells := 0, slots := 0, locals := 0 } : Room).slots T2 (mkF m 15 #[(.val (.ref a1))] [(.int (1 : Int32))])
      refine Owes.by (fun _ kq => XS.goto X2.here hx rfl (pc0 := 15) (pc' := 19) rfl (hb hby d4_15) (by decide) (by decide) kq) ?_
      show Owes p e below s (Qv (some (.int r)) h0 n0) ({ frames := 0, cells := 0, slots := 0, locals := 0 } : Room).cells ({ frames := 0, cells := 0, slots := 0, locals := 0 } : Room).slots T2 (mkF m 19 #[(.val (.ref a1))] [(.int (1 : Int32))])
      refine Owes.ret X2 (v := some (.int (1 : Int32))) (fun h => by rw [Bd.returns] at h; cases h) hlk ?_ (by decide) (by decide) (fun fs hr => retN X2 hx (t := .boolean) Bd.returns (by simp) (hb hby d4_19) hr)
      rw [e2]
      exact ⟨by rw [← hr]; simp [q0, q1], rfl, rfl⟩
    · skip
      refine Owes.by (fun _ kq => Jvm.RoadKit.acmp (g := (mkF m 11 #[(.val (.ref a1))] [(.ref w_LESS_OR_EQUAL), (.ref a1)])) X2 hx rfl rfl rfl (pc0 := 11) (pc' := 18) (same := false) rfl (hb hby d4_11) rfl (decide_eq_false fun q => q1 (Value.ref.inj q)) (by decide) (by decide) kq) ?_
      show Owes p e below s (Qv (some (.int r)) h0 n0) ({ frames := 0, cells := 0, slots := 0, locals := 0 } : Room).cells ({ frames := 0, cells := 0, slots := 0, locals := 0 } : Room).slots T2 (mkF m 18 #[(.val (.ref a1))] [])
      refine Owes.by (fun _ kq => XS.iconst X2.here hx rfl (hb hby d4_18) kq) ?_
      show Owes p e below s (Qv (some (.int r)) h0 n0) ({ frames := 0, cells := 0, slots := 0, locals := 0 } : Room).cells ({ frames := 0, cells := 0, slots := 0, locals := 0 } : Room).slots T2 (mkF m 19 #[(.val (.ref a1))] [(.int (0 : Int32))])
      refine Owes.ret X2 (v := some (.int (0 : Int32))) (fun h => by rw [Bd.returns] at h; cases h) hlk ?_ (by decide) (by decide) (fun fs hr => retN X2 hx (t := .boolean) Bd.returns (by simp) (hb hby d4_19) hr)
      rw [e2]
      exact ⟨by rw [← hr]; simp [q0, q1], rfl, rfl⟩
theorem ef_rm0 (m : MethodId) (x0 : Int32) (x1 : Int32) (x2 : Int32) : entryFrame m #[(.int x0), (.int x1), (.int x2)] maxLocals = mkF m 0 #[(.val (.int x0)), (.val (.int x1)), (.val (.int x2)), .unset, .unset, .unset, .unset] [] := by first | (simp [entryFrame, mkF, argsToLocals, Value.category, maxLocals]; done) | rfl
set_option maxRecDepth 65536 in
set_option maxHeartbeats 40000000 in
theorem rm0 (l : Launch) (Z : State) (a0 : Array Value) (hw : ∀ d ∈ tables_1, d.before a0 Z = true) (ws : List Jvm.Cond) (p0 p1 p2 : Int32) (w_EQUAL w_LESS w_LESS_OR_EQUAL w_GREATER w_GREATER_OR_EQUAL : Addr) (h0 : Heap) (n0 : Nat) (Z0 : n0 ≤ h0.size) (S_EQUAL : Sta Z h0 "dev/tagwarden/condition/OrderedValues$Relation" "EQUAL" "Ldev/tagwarden/condition/OrderedValues$Relation;" (.ref w_EQUAL)) (S_LESS : Sta Z h0 "dev/tagwarden/condition/OrderedValues$Relation" "LESS" "Ldev/tagwarden/condition/OrderedValues$Relation;" (.ref w_LESS)) (S_LESS_OR_EQUAL : Sta Z h0 "dev/tagwarden/condition/OrderedValues$Relation" "LESS_OR_EQUAL" "Ldev/tagwarden/condition/OrderedValues$Relation;" (.ref w_LESS_OR_EQUAL)) (S_GREATER : Sta Z h0 "dev/tagwarden/condition/OrderedValues$Relation" "GREATER" "Ldev/tagwarden/condition/OrderedValues$Relation;" (.ref w_GREATER)) (S_GREATER_OR_EQUAL : Sta Z h0 "dev/tagwarden/condition/OrderedValues$Relation" "GREATER_OR_EQUAL" "Ldev/tagwarden/condition/OrderedValues$Relation;" (.ref w_GREATER_OR_EQUAL)) (E_EQUAL : Exa Z h0 w_EQUAL "dev/tagwarden/condition/OrderedValues$Relation") (E_LESS : Exa Z h0 w_LESS "dev/tagwarden/condition/OrderedValues$Relation") (E_LESS_OR_EQUAL : Exa Z h0 w_LESS_OR_EQUAL "dev/tagwarden/condition/OrderedValues$Relation") (E_GREATER : Exa Z h0 w_GREATER "dev/tagwarden/condition/OrderedValues$Relation") (E_GREATER_OR_EQUAL : Exa Z h0 w_GREATER_OR_EQUAL "dev/tagwarden/condition/OrderedValues$Relation") (F_EQUAL : Fld Z h0 w_EQUAL "java/lang/Enum" "ordinal" "I" (.int 0)) (F_LESS : Fld Z h0 w_LESS "java/lang/Enum" "ordinal" "I" (.int 1)) (F_LESS_OR_EQUAL : Fld Z h0 w_LESS_OR_EQUAL "java/lang/Enum" "ordinal" "I" (.int 2)) (F_GREATER : Fld Z h0 w_GREATER "java/lang/Enum" "ordinal" "I" (.int 3)) (F_GREATER_OR_EQUAL : Fld Z h0 w_GREATER_OR_EQUAL "java/lang/Enum" "ordinal" "I" (.int 4)) (n_EQUAL_LESS : w_EQUAL ≠ w_LESS) (n_EQUAL_LESS_OR_EQUAL : w_EQUAL ≠ w_LESS_OR_EQUAL) (n_GREATER_LESS : w_GREATER ≠ w_LESS) (n_GREATER_LESS_OR_EQUAL : w_GREATER ≠ w_LESS_OR_EQUAL) (n_GREATER_OR_EQUAL_LESS : w_GREATER_OR_EQUAL ≠ w_LESS) (n_GREATER_OR_EQUAL_LESS_OR_EQUAL : w_GREATER_OR_EQUAL ≠ w_LESS_OR_EQUAL) :
    MetFree l x (head1 (Jvm.Cond.code x code maxLocals ret :: ws) room_1) (fun aa UU => aa = #[(.int p0), (.int p1), (.int p2)] ∧ Z.Warmed39 UU.vm ∧ UU.heap = h0) (fun _ _ _ _ _ => True) (fun _ UU oo UU' => ∃ vr Lr, oo = .returned vr ∧ (QL n0) vr UU'.heap Lr ∧ FrameEnd UU oo UU' Lr room_1.cells room_1.slots) := by
  refine MetFree.of_bodySF (plainFor_of_name pn_RelationBelowPinLaw) hisR ?_
  intro p e s m args below meth c s₁ Bd hml0 hP hK
  obtain ⟨rfl, hZ, hh⟩ := hP
  have hx := Bd.exec
  have hby := Bd.bytes
  have hml : c.maxLocals = 7 := hml0
  have hown : s.vm.findClass "dev/tagwarden/condition/RelationBelowPinLaw" = some m.cls := findClass_of_methodNamed Bd.named
  have hnm := (name_of_methodNamed Bd.named Bd.method).1
  have hlk := Bd.notSynchronized
  have X0 : Stand p l e room_1 s m #[(.int p0), (.int p1), (.int p2)] below meth c s₁ [] 0 0 := Stand.of_body Bd
  have e0 : s₁.heap = h0 := by rw [← hh, Bd.state]; rfl
  have N0 := Fr.nil n0
  show Owes p e below s (QL n0) room_1.cells room_1.slots s₁ (entryFrame m #[(.int p0), (.int p1), (.int p2)] maxLocals)
  rw [ef_rm0 m p0 p1 p2]
  show Owes p e below s (QL n0) room_1.cells room_1.slots s₁ (mkF m 0 #[(.val (.int p0)), (.val (.int p1)), (.val (.int p2)), .unset, .unset, .unset, .unset] [])
  refine Owes.by (fun _ kq => XS.iloadN X0.here hx rfl (hb hby at_0) rfl kq) ?_
  show Owes p e below s (QL n0) room_1.cells room_1.slots s₁ (mkF m 1 #[(.val (.int p0)), (.val (.int p1)), (.val (.int p2)), .unset, .unset, .unset, .unset] [(.int p0)])
  refine Owes.by (fun tq kq => X0.ldcInt hx hown (mvT hZ (hw _ (List.mem_of_getElem? (i := 0) rfl))) (g := (mkF m 1 #[(.val (.int p0)), (.val (.int p1)), (.val (.int p2)), .unset, .unset, .unset, .unset] [(.int p0)])) rfl (hb hby at_1) tq kq) ?_
  show Owes p e below s (QL n0) room_1.cells room_1.slots s₁ (mkF m 3 #[(.val (.int p0)), (.val (.int p1)), (.val (.int p2)), .unset, .unset, .unset, .unset] [(.int (2147483647 : Int32)), (.int p0)])
  refine Owes.by (fun _ kq => XS.iand X0.here hx rfl (hb hby at_3) rfl kq) ?_
  show Owes p e below s (QL n0) room_1.cells room_1.slots s₁ (mkF m 4 #[(.val (.int p0)), (.val (.int p1)), (.val (.int p2)), .unset, .unset, .unset, .unset] [(.int (p0 &&& (2147483647 : Int32)))])
  refine Owes.by (fun _ kq => XS.iconst X0.here hx rfl (hb hby at_4) kq) ?_
  show Owes p e below s (QL n0) room_1.cells room_1.slots s₁ (mkF m 5 #[(.val (.int p0)), (.val (.int p1)), (.val (.int p2)), .unset, .unset, .unset, .unset] [(.int (5 : Int32)), (.int (p0 &&& (2147483647 : Int32)))])
  refine Owes.by (fun _ kq => iremM X0 hx rfl (hb hby at_5) rfl (by decide) kq) ?_
  show Owes p e below s (QL n0) room_1.cells room_1.slots s₁ (mkF m 6 #[(.val (.int p0)), (.val (.int p1)), (.val (.int p2)), .unset, .unset, .unset, .unset] [(.int ((p0 &&& (2147483647 : Int32)) % (5 : Int32)))])
  rcases own_mod5 p0 with q | q | q | q | q
  · rw [q]
    show Owes p e below s (QL n0) room_1.cells room_1.slots s₁ (mkF m 6 #[(.val (.int p0)), (.val (.int p1)), (.val (.int p2)), .unset, .unset, .unset, .unset] [(.int (0 : Int32))])
    obtain ⟨_, _, ⟨T1, L1, k1, n1⟩, -, X1, ⟨Lc1, hQ1, l1, y1, z1⟩, st1⟩ := Jvm.LawKit.callS X0 hx (y := (⟨"dev/tagwarden/condition/RelationBelowPinLaw", "pick", "(I)Ldev/tagwarden/condition/OrderedValues$Relation;"⟩ : MethodName)) hown (mvT hZ (hw _ (List.mem_of_getElem? (i := 1) rfl))) (mvT hZ (hw _ (List.mem_of_getElem? (i := 2) rfl))) (mvT hZ (hw _ (List.mem_of_getElem? (i := 3) rfl))) (mvT hZ (hw _ (List.mem_of_getElem? (i := 4) rfl))) (by decide) (backOf (W := 0) (rmP l Z a0 hw [] 0 w_EQUAL w_LESS w_LESS_OR_EQUAL w_GREATER w_GREATER_OR_EQUAL w_EQUAL h0 n0 Z0 S_EQUAL S_LESS S_LESS_OR_EQUAL S_GREATER S_GREATER_OR_EQUAL (by simp +decide)) hZ (hw _ (List.mem_of_getElem? (i := 4) rfl)) (hw _ (List.mem_of_getElem? (i := 3) rfl)) (by decide) (by decide)) (g := (mkF m 6 #[(.val (.int p0)), (.val (.int p1)), (.val (.int p2)), .unset, .unset, .unset, .unset] [(.int (0 : Int32))])) rfl (by rw [hml]; rfl) (argsL := [(.int (0 : Int32))]) (rest := []) (lenOf pd_I_Ldev_tagwarden_condition_OrderedValues_Relation rfl) rfl (by show 2 * 0 + _ ≤ _; exact Nat.le_of_eq rfl) (hb hby at_6) (fun _ _ => ⟨rfl, e0, (by decide : 0 + 0 ≤ _), (by decide : 0 + 0 ≤ _)⟩)
    dsimp only [Pt.U, Pt.locs, Pt.cells, Pt.slots] at X1 l1 y1 z1 st1 hQ1
    subst l1 y1 z1
    obtain ⟨rfl, rfl, e1⟩ := hQ1
    try rw [List.append_nil] at X1
    refine Owes.by st1 ?_
    show Owes p e below s (QL n0) room_1.cells room_1.slots T1 (mkF m 9 #[(.val (.int p0)), (.val (.int p1)), (.val (.int p2)), .unset, .unset, .unset, .unset] [(.ref w_EQUAL)])
    refine Owes.by (fun _ kq => XS.astoreN X1.here hx rfl (hb hby at_9) rfl rfl (l' := #[(.val (.int p0)), (.val (.int p1)), (.val (.int p2)), (.val (.ref w_EQUAL)), .unset, .unset, .unset]) rfl kq) ?_
    show Owes p e below s (QL n0) room_1.cells room_1.slots T1 (mkF m 10 #[(.val (.int p0)), (.val (.int p1)), (.val (.int p2)), (.val (.ref w_EQUAL)), .unset, .unset, .unset] [])
    refine Owes.by (fun _ kq => XS.iloadN X1.here hx rfl (hb hby at_10) rfl kq) ?_
    show Owes p e below s (QL n0) room_1.cells room_1.slots T1 (mkF m 11 #[(.val (.int p0)), (.val (.int p1)), (.val (.int p2)), (.val (.ref w_EQUAL)), .unset, .unset, .unset] [(.int p1)])
    refine Owes.by (fun tq kq => X1.ldcInt hx hown (mvT hZ (hw _ (List.mem_of_getElem? (i := 8) rfl))) (g := (mkF m 11 #[(.val (.int p0)), (.val (.int p1)), (.val (.int p2)), (.val (.ref w_EQUAL)), .unset, .unset, .unset] [(.int p1)])) rfl (hb hby at_11) tq kq) ?_
    show Owes p e below s (QL n0) room_1.cells room_1.slots T1 (mkF m 13 #[(.val (.int p0)), (.val (.int p1)), (.val (.int p2)), (.val (.ref w_EQUAL)), .unset, .unset, .unset] [(.int (-2147483648 : Int32)), (.int p1)])
    refine Owes.by (fun _ kq => XT.ior X1.here hx rfl (hb hby at_13) rfl kq) ?_
    show Owes p e below s (QL n0) room_1.cells room_1.slots T1 (mkF m 14 #[(.val (.int p0)), (.val (.int p1)), (.val (.int p2)), (.val (.ref w_EQUAL)), .unset, .unset, .unset] [(.int (p1 ||| (-2147483648 : Int32)))])
    refine Owes.by (fun _ kq => XS.istore X1.here hx rfl (hb hby at_14) rfl (l' := #[(.val (.int p0)), (.val (.int p1)), (.val (.int p2)), (.val (.ref w_EQUAL)), (.val (.int (p1 ||| (-2147483648 : Int32)))), .unset, .unset]) rfl kq) ?_
    show Owes p e below s (QL n0) room_1.cells room_1.slots T1 (mkF m 16 #[(.val (.int p0)), (.val (.int p1)), (.val (.int p2)), (.val (.ref w_EQUAL)), (.val (.int (p1 ||| (-2147483648 : Int32)))), .unset, .unset] [])
    refine Owes.by (fun _ kq => XS.iloadN X1.here hx rfl (hb hby at_16) rfl kq) ?_
    show Owes p e below s (QL n0) room_1.cells room_1.slots T1 (mkF m 17 #[(.val (.int p0)), (.val (.int p1)), (.val (.int p2)), (.val (.ref w_EQUAL)), (.val (.int (p1 ||| (-2147483648 : Int32)))), .unset, .unset] [(.int p2)])
    refine Owes.by (fun _ kq => XS.iconst X1.here hx rfl (hb hby at_17) kq) ?_
    show Owes p e below s (QL n0) room_1.cells room_1.slots T1 (mkF m 18 #[(.val (.int p0)), (.val (.int p1)), (.val (.int p2)), (.val (.ref w_EQUAL)), (.val (.int (p1 ||| (-2147483648 : Int32)))), .unset, .unset] [(.int (1 : Int32)), (.int p2)])
    refine Owes.by (fun _ kq => XT.iushr X1.here hx rfl (hb hby at_18) rfl kq) ?_
    show Owes p e below s (QL n0) room_1.cells room_1.slots T1 (mkF m 19 #[(.val (.int p0)), (.val (.int p1)), (.val (.int p2)), (.val (.ref w_EQUAL)), (.val (.int (p1 ||| (-2147483648 : Int32)))), .unset, .unset] [(.int (XT.ushr p2 (1 : Int32)))])
    refine Owes.by (fun _ kq => XS.iconst X1.here hx rfl (hb hby at_19) kq) ?_
    show Owes p e below s (QL n0) room_1.cells room_1.slots T1 (mkF m 20 #[(.val (.int p0)), (.val (.int p1)), (.val (.int p2)), (.val (.ref w_EQUAL)), (.val (.int (p1 ||| (-2147483648 : Int32)))), .unset, .unset] [(.int (1 : Int32)), (.int (XT.ushr p2 (1 : Int32)))])
    refine Owes.by (fun _ kq => XT.ior X1.here hx rfl (hb hby at_20) rfl kq) ?_
    show Owes p e below s (QL n0) room_1.cells room_1.slots T1 (mkF m 21 #[(.val (.int p0)), (.val (.int p1)), (.val (.int p2)), (.val (.ref w_EQUAL)), (.val (.int (p1 ||| (-2147483648 : Int32)))), .unset, .unset] [(.int ((XT.ushr p2 (1 : Int32)) ||| (1 : Int32)))])
    refine Owes.by (fun _ kq => XS.istore X1.here hx rfl (hb hby at_21) rfl (l' := #[(.val (.int p0)), (.val (.int p1)), (.val (.int p2)), (.val (.ref w_EQUAL)), (.val (.int (p1 ||| (-2147483648 : Int32)))), (.val (.int ((XT.ushr p2 (1 : Int32)) ||| (1 : Int32)))), .unset]) rfl kq) ?_
    show Owes p e below s (QL n0) room_1.cells room_1.slots T1 (mkF m 23 #[(.val (.int p0)), (.val (.int p1)), (.val (.int p2)), (.val (.ref w_EQUAL)), (.val (.int (p1 ||| (-2147483648 : Int32)))), (.val (.int ((XT.ushr p2 (1 : Int32)) ||| (1 : Int32)))), .unset] [])
    refine Owes.by (fun _ kq => XS.aloadN X1.here hx rfl (hb hby at_23) rfl rfl kq) ?_
    show Owes p e below s (QL n0) room_1.cells room_1.slots T1 (mkF m 24 #[(.val (.int p0)), (.val (.int p1)), (.val (.int p2)), (.val (.ref w_EQUAL)), (.val (.int (p1 ||| (-2147483648 : Int32)))), (.val (.int ((XT.ushr p2 (1 : Int32)) ||| (1 : Int32)))), .unset] [(.ref w_EQUAL)])
    refine Owes.by (fun _ kq => XS.iload X1.here hx rfl (hb hby at_24) rfl kq) ?_
    show Owes p e below s (QL n0) room_1.cells room_1.slots T1 (mkF m 26 #[(.val (.int p0)), (.val (.int p1)), (.val (.int p2)), (.val (.ref w_EQUAL)), (.val (.int (p1 ||| (-2147483648 : Int32)))), (.val (.int ((XT.ushr p2 (1 : Int32)) ||| (1 : Int32)))), .unset] [(.int (p1 ||| (-2147483648 : Int32))), (.ref w_EQUAL)])
    obtain ⟨cq2, kq2, qa2, qb2, qc2⟩ := isOf hZ e1 E_EQUAL
    obtain ⟨_, _, ⟨T2, L2, k2, n2⟩, -, X2, ⟨Lc2, hQ2, l2, y2, z2⟩, st2⟩ := X1.virtualBack hx (y := (⟨"dev/tagwarden/condition/OrderedValues$Relation", "holds", "(I)Z"⟩ : MethodName)) (z := (⟨"dev/tagwarden/condition/OrderedValues$Relation", "holds", "(I)Z"⟩ : MethodName)) hown (mvT hZ (hw _ (List.mem_of_getElem? (i := 9) rfl))) (mvT hZ (hw _ (List.mem_of_getElem? (i := 10) rfl))) (notFace_of_selects (args := #[]) (mvT hZ (hw _ (List.mem_of_getElem? (i := 12) rfl)))) (mvT hZ (hw _ (List.mem_of_getElem? (i := 12) rfl))) (mvT hZ (hw _ (List.mem_of_getElem? (i := 11) rfl))) (by decide) (backOf (W := 0) (rmH l Z a0 hw [] w_EQUAL (p1 ||| (-2147483648 : Int32)) 0 0 h0 n0 Z0 F_EQUAL E_EQUAL (by decide) (own_neg0 p1)) hZ (hw _ (List.mem_of_getElem? (i := 13) rfl)) (hw _ (List.mem_of_getElem? (i := 6) rfl)) (by decide) (by decide)) qa2 qc2 (g := (mkF m 26 #[(.val (.int p0)), (.val (.int p1)), (.val (.int p2)), (.val (.ref w_EQUAL)), (.val (.int (p1 ||| (-2147483648 : Int32)))), (.val (.int ((XT.ushr p2 (1 : Int32)) ||| (1 : Int32)))), .unset] [(.int (p1 ||| (-2147483648 : Int32))), (.ref w_EQUAL)])) rfl (by rw [hml]; rfl) (Steps.refl _) (argsL := [(.int (p1 ||| (-2147483648 : Int32)))]) (rest := []) (lenOf pd_I_Z rfl) rfl (by show 2 * 0 + _ ≤ _; exact Nat.le_of_eq rfl) (hb hby at_26) (fun _ _ => ⟨rfl, e1, (by decide : 0 + 0 ≤ _), (by decide : 0 + 0 ≤ _)⟩)
    dsimp only [Pt.U, Pt.locs, Pt.cells, Pt.slots] at X2 l2 y2 z2 st2 hQ2
    subst l2 y2 z2
    obtain ⟨rfl, rfl, e2⟩ := hQ2
    try rw [List.append_nil] at X2
    refine Owes.by (fun _ kq => st2.trans kq) ?_
    show Owes p e below s (QL n0) room_1.cells room_1.slots T2 (mkF m 29 #[(.val (.int p0)), (.val (.int p1)), (.val (.int p2)), (.val (.ref w_EQUAL)), (.val (.int (p1 ||| (-2147483648 : Int32)))), (.val (.int ((XT.ushr p2 (1 : Int32)) ||| (1 : Int32)))), .unset] [(.int (0 : Int32))])
    refine Owes.by (fun _ kq => XS.ifYes X2.here hx rfl (pc0 := 29) (pc' := 45) rfl (hb hby at_29) rfl (XT.i0_eq_t (by decide)) (by decide) (by decide) kq) ?_
    show Owes p e below s (QL n0) room_1.cells room_1.slots T2 (mkF m 45 #[(.val (.int p0)), (.val (.int p1)), (.val (.int p2)), (.val (.ref w_EQUAL)), (.val (.int (p1 ||| (-2147483648 : Int32)))), (.val (.int ((XT.ushr p2 (1 : Int32)) ||| (1 : Int32)))), .unset] [])
    refine Owes.by (fun _ kq => XS.iconst X2.here hx rfl (hb hby at_45) kq) ?_
    show Owes p e below s (QL n0) room_1.cells room_1.slots T2 (mkF m 46 #[(.val (.int p0)), (.val (.int p1)), (.val (.int p2)), (.val (.ref w_EQUAL)), (.val (.int (p1 ||| (-2147483648 : Int32)))), (.val (.int ((XT.ushr p2 (1 : Int32)) ||| (1 : Int32)))), .unset] [(.int (0 : Int32))])
    refine Owes.by (fun _ kq => XS.istore X2.here hx rfl (hb hby at_46) rfl (l' := #[(.val (.int p0)), (.val (.int p1)), (.val (.int p2)), (.val (.ref w_EQUAL)), (.val (.int (p1 ||| (-2147483648 : Int32)))), (.val (.int ((XT.ushr p2 (1 : Int32)) ||| (1 : Int32)))), (.val (.int (0 : Int32)))]) rfl kq) ?_
    show Owes p e below s (QL n0) room_1.cells room_1.slots T2 (mkF m 48 #[(.val (.int p0)), (.val (.int p1)), (.val (.int p2)), (.val (.ref w_EQUAL)), (.val (.int (p1 ||| (-2147483648 : Int32)))), (.val (.int ((XT.ushr p2 (1 : Int32)) ||| (1 : Int32)))), (.val (.int (0 : Int32)))] [])
    refine Owes.by (fun _ kq => XS.aloadN X2.here hx rfl (hb hby at_48) rfl rfl kq) ?_
    show Owes p e below s (QL n0) room_1.cells room_1.slots T2 (mkF m 49 #[(.val (.int p0)), (.val (.int p1)), (.val (.int p2)), (.val (.ref w_EQUAL)), (.val (.int (p1 ||| (-2147483648 : Int32)))), (.val (.int ((XT.ushr p2 (1 : Int32)) ||| (1 : Int32)))), (.val (.int (0 : Int32)))] [(.ref w_EQUAL)])
    obtain ⟨cq3, kq3, qa3, qb3, qc3⟩ := isOf hZ e2 E_EQUAL
    obtain ⟨_, _, ⟨T3, L3, k3, n3⟩, -, X3, ⟨Lc3, hQ3, l3, y3, z3⟩, st3⟩ := X2.virtualBack hx (y := (⟨"dev/tagwarden/condition/OrderedValues$Relation", "below", "()Z"⟩ : MethodName)) (z := (⟨"dev/tagwarden/condition/OrderedValues$Relation", "below", "()Z"⟩ : MethodName)) hown (mvT hZ (hw _ (List.mem_of_getElem? (i := 23) rfl))) (mvT hZ (hw _ (List.mem_of_getElem? (i := 24) rfl))) (notFace_of_selects (args := #[]) (mvT hZ (hw _ (List.mem_of_getElem? (i := 26) rfl)))) (mvT hZ (hw _ (List.mem_of_getElem? (i := 26) rfl))) (mvT hZ (hw _ (List.mem_of_getElem? (i := 25) rfl))) (by decide) (backOf (W := 0) (rmB l Z a0 hw [] w_EQUAL w_LESS w_LESS_OR_EQUAL 0 h0 n0 Z0 S_LESS S_LESS_OR_EQUAL (by simp [n_EQUAL_LESS, n_EQUAL_LESS_OR_EQUAL])) hZ (hw _ (List.mem_of_getElem? (i := 27) rfl)) (hw _ (List.mem_of_getElem? (i := 6) rfl)) (by decide) (by decide)) qa3 qc3 (g := (mkF m 49 #[(.val (.int p0)), (.val (.int p1)), (.val (.int p2)), (.val (.ref w_EQUAL)), (.val (.int (p1 ||| (-2147483648 : Int32)))), (.val (.int ((XT.ushr p2 (1 : Int32)) ||| (1 : Int32)))), (.val (.int (0 : Int32)))] [(.ref w_EQUAL)])) rfl (by rw [hml]; rfl) (Steps.refl _) (argsL := []) (rest := []) (lenOf pd_Z rfl) rfl (by show 2 * 0 + _ ≤ _; exact Nat.le_of_eq rfl) (hb hby at_49) (fun _ _ => ⟨rfl, e2, (by decide : 0 + 0 ≤ _), (by decide : 0 + 0 ≤ _)⟩)
    dsimp only [Pt.U, Pt.locs, Pt.cells, Pt.slots] at X3 l3 y3 z3 st3 hQ3
    subst l3 y3 z3
    obtain ⟨rfl, rfl, e3⟩ := hQ3
    try rw [List.append_nil] at X3
    refine Owes.by (fun _ kq => st3.trans kq) ?_
    show Owes p e below s (QL n0) room_1.cells room_1.slots T3 (mkF m 52 #[(.val (.int p0)), (.val (.int p1)), (.val (.int p2)), (.val (.ref w_EQUAL)), (.val (.int (p1 ||| (-2147483648 : Int32)))), (.val (.int ((XT.ushr p2 (1 : Int32)) ||| (1 : Int32)))), (.val (.int (0 : Int32)))] [(.int (0 : Int32))])
    refine Owes.by (fun _ kq => XS.iload X3.here hx rfl (hb hby at_52) rfl kq) ?_
    show Owes p e below s (QL n0) room_1.cells room_1.slots T3 (mkF m 54 #[(.val (.int p0)), (.val (.int p1)), (.val (.int p2)), (.val (.ref w_EQUAL)), (.val (.int (p1 ||| (-2147483648 : Int32)))), (.val (.int ((XT.ushr p2 (1 : Int32)) ||| (1 : Int32)))), (.val (.int (0 : Int32)))] [(.int (0 : Int32)), (.int (0 : Int32))])
    refine Owes.by (fun _ kq => XS.icmpNo X3.here hx rfl (hb hby at_54) rfl (XT.ii_ne_f (by decide)) kq) ?_
    show Owes p e below s (QL n0) room_1.cells room_1.slots T3 (mkF m 57 #[(.val (.int p0)), (.val (.int p1)), (.val (.int p2)), (.val (.ref w_EQUAL)), (.val (.int (p1 ||| (-2147483648 : Int32)))), (.val (.int ((XT.ushr p2 (1 : Int32)) ||| (1 : Int32)))), (.val (.int (0 : Int32)))] [])
    refine Owes.by (fun _ kq => XS.iconst X3.here hx rfl (hb hby at_57) kq) ?_
    show Owes p e below s (QL n0) room_1.cells room_1.slots T3 (mkF m 58 #[(.val (.int p0)), (.val (.int p1)), (.val (.int p2)), (.val (.ref w_EQUAL)), (.val (.int (p1 ||| (-2147483648 : Int32)))), (.val (.int ((XT.ushr p2 (1 : Int32)) ||| (1 : Int32)))), (.val (.int (0 : Int32)))] [(.int (1 : Int32))])
    refine Owes.by (fun _ kq => XS.goto X3.here hx rfl (pc0 := 58) (pc' := 62) rfl (hb hby at_58) (by decide) (by decide) kq) ?_
    show Owes p e below s (QL n0) room_1.cells room_1.slots T3 (mkF m 62 #[(.val (.int p0)), (.val (.int p1)), (.val (.int p2)), (.val (.ref w_EQUAL)), (.val (.int (p1 ||| (-2147483648 : Int32)))), (.val (.int ((XT.ushr p2 (1 : Int32)) ||| (1 : Int32)))), (.val (.int (0 : Int32)))] [(.int (1 : Int32))])
    refine Owes.ret X3 (v := some (.int (1 : Int32))) (fun h => by rw [Bd.returns] at h; cases h) hlk ?_ (by decide) (by decide) (fun fs hr => retN X3 hx (t := .boolean) Bd.returns (by simp) (hb hby at_62) hr)
    rw [e3]
    exact ⟨rfl, N0⟩
  · rw [q]
    show Owes p e below s (QL n0) room_1.cells room_1.slots s₁ (mkF m 6 #[(.val (.int p0)), (.val (.int p1)), (.val (.int p2)), .unset, .unset, .unset, .unset] [(.int (1 : Int32))])
    obtain ⟨_, _, ⟨T4, L4, k4, n4⟩, -, X4, ⟨Lc4, hQ4, l4, y4, z4⟩, st4⟩ := Jvm.LawKit.callS X0 hx (y := (⟨"dev/tagwarden/condition/RelationBelowPinLaw", "pick", "(I)Ldev/tagwarden/condition/OrderedValues$Relation;"⟩ : MethodName)) hown (mvT hZ (hw _ (List.mem_of_getElem? (i := 1) rfl))) (mvT hZ (hw _ (List.mem_of_getElem? (i := 2) rfl))) (mvT hZ (hw _ (List.mem_of_getElem? (i := 3) rfl))) (mvT hZ (hw _ (List.mem_of_getElem? (i := 4) rfl))) (by decide) (backOf (W := 0) (rmP l Z a0 hw [] 1 w_EQUAL w_LESS w_LESS_OR_EQUAL w_GREATER w_GREATER_OR_EQUAL w_LESS h0 n0 Z0 S_EQUAL S_LESS S_LESS_OR_EQUAL S_GREATER S_GREATER_OR_EQUAL (by simp +decide)) hZ (hw _ (List.mem_of_getElem? (i := 4) rfl)) (hw _ (List.mem_of_getElem? (i := 3) rfl)) (by decide) (by decide)) (g := (mkF m 6 #[(.val (.int p0)), (.val (.int p1)), (.val (.int p2)), .unset, .unset, .unset, .unset] [(.int (1 : Int32))])) rfl (by rw [hml]; rfl) (argsL := [(.int (1 : Int32))]) (rest := []) (lenOf pd_I_Ldev_tagwarden_condition_OrderedValues_Relation rfl) rfl (by show 2 * 0 + _ ≤ _; exact Nat.le_of_eq rfl) (hb hby at_6) (fun _ _ => ⟨rfl, e0, (by decide : 0 + 0 ≤ _), (by decide : 0 + 0 ≤ _)⟩)
    dsimp only [Pt.U, Pt.locs, Pt.cells, Pt.slots] at X4 l4 y4 z4 st4 hQ4
    subst l4 y4 z4
    obtain ⟨rfl, rfl, e4⟩ := hQ4
    try rw [List.append_nil] at X4
    refine Owes.by st4 ?_
    show Owes p e below s (QL n0) room_1.cells room_1.slots T4 (mkF m 9 #[(.val (.int p0)), (.val (.int p1)), (.val (.int p2)), .unset, .unset, .unset, .unset] [(.ref w_LESS)])
    refine Owes.by (fun _ kq => XS.astoreN X4.here hx rfl (hb hby at_9) rfl rfl (l' := #[(.val (.int p0)), (.val (.int p1)), (.val (.int p2)), (.val (.ref w_LESS)), .unset, .unset, .unset]) rfl kq) ?_
    show Owes p e below s (QL n0) room_1.cells room_1.slots T4 (mkF m 10 #[(.val (.int p0)), (.val (.int p1)), (.val (.int p2)), (.val (.ref w_LESS)), .unset, .unset, .unset] [])
    refine Owes.by (fun _ kq => XS.iloadN X4.here hx rfl (hb hby at_10) rfl kq) ?_
    show Owes p e below s (QL n0) room_1.cells room_1.slots T4 (mkF m 11 #[(.val (.int p0)), (.val (.int p1)), (.val (.int p2)), (.val (.ref w_LESS)), .unset, .unset, .unset] [(.int p1)])
    refine Owes.by (fun tq kq => X4.ldcInt hx hown (mvT hZ (hw _ (List.mem_of_getElem? (i := 8) rfl))) (g := (mkF m 11 #[(.val (.int p0)), (.val (.int p1)), (.val (.int p2)), (.val (.ref w_LESS)), .unset, .unset, .unset] [(.int p1)])) rfl (hb hby at_11) tq kq) ?_
    show Owes p e below s (QL n0) room_1.cells room_1.slots T4 (mkF m 13 #[(.val (.int p0)), (.val (.int p1)), (.val (.int p2)), (.val (.ref w_LESS)), .unset, .unset, .unset] [(.int (-2147483648 : Int32)), (.int p1)])
    refine Owes.by (fun _ kq => XT.ior X4.here hx rfl (hb hby at_13) rfl kq) ?_
    show Owes p e below s (QL n0) room_1.cells room_1.slots T4 (mkF m 14 #[(.val (.int p0)), (.val (.int p1)), (.val (.int p2)), (.val (.ref w_LESS)), .unset, .unset, .unset] [(.int (p1 ||| (-2147483648 : Int32)))])
    refine Owes.by (fun _ kq => XS.istore X4.here hx rfl (hb hby at_14) rfl (l' := #[(.val (.int p0)), (.val (.int p1)), (.val (.int p2)), (.val (.ref w_LESS)), (.val (.int (p1 ||| (-2147483648 : Int32)))), .unset, .unset]) rfl kq) ?_
    show Owes p e below s (QL n0) room_1.cells room_1.slots T4 (mkF m 16 #[(.val (.int p0)), (.val (.int p1)), (.val (.int p2)), (.val (.ref w_LESS)), (.val (.int (p1 ||| (-2147483648 : Int32)))), .unset, .unset] [])
    refine Owes.by (fun _ kq => XS.iloadN X4.here hx rfl (hb hby at_16) rfl kq) ?_
    show Owes p e below s (QL n0) room_1.cells room_1.slots T4 (mkF m 17 #[(.val (.int p0)), (.val (.int p1)), (.val (.int p2)), (.val (.ref w_LESS)), (.val (.int (p1 ||| (-2147483648 : Int32)))), .unset, .unset] [(.int p2)])
    refine Owes.by (fun _ kq => XS.iconst X4.here hx rfl (hb hby at_17) kq) ?_
    show Owes p e below s (QL n0) room_1.cells room_1.slots T4 (mkF m 18 #[(.val (.int p0)), (.val (.int p1)), (.val (.int p2)), (.val (.ref w_LESS)), (.val (.int (p1 ||| (-2147483648 : Int32)))), .unset, .unset] [(.int (1 : Int32)), (.int p2)])
    refine Owes.by (fun _ kq => XT.iushr X4.here hx rfl (hb hby at_18) rfl kq) ?_
    show Owes p e below s (QL n0) room_1.cells room_1.slots T4 (mkF m 19 #[(.val (.int p0)), (.val (.int p1)), (.val (.int p2)), (.val (.ref w_LESS)), (.val (.int (p1 ||| (-2147483648 : Int32)))), .unset, .unset] [(.int (XT.ushr p2 (1 : Int32)))])
    refine Owes.by (fun _ kq => XS.iconst X4.here hx rfl (hb hby at_19) kq) ?_
    show Owes p e below s (QL n0) room_1.cells room_1.slots T4 (mkF m 20 #[(.val (.int p0)), (.val (.int p1)), (.val (.int p2)), (.val (.ref w_LESS)), (.val (.int (p1 ||| (-2147483648 : Int32)))), .unset, .unset] [(.int (1 : Int32)), (.int (XT.ushr p2 (1 : Int32)))])
    refine Owes.by (fun _ kq => XT.ior X4.here hx rfl (hb hby at_20) rfl kq) ?_
    show Owes p e below s (QL n0) room_1.cells room_1.slots T4 (mkF m 21 #[(.val (.int p0)), (.val (.int p1)), (.val (.int p2)), (.val (.ref w_LESS)), (.val (.int (p1 ||| (-2147483648 : Int32)))), .unset, .unset] [(.int ((XT.ushr p2 (1 : Int32)) ||| (1 : Int32)))])
    refine Owes.by (fun _ kq => XS.istore X4.here hx rfl (hb hby at_21) rfl (l' := #[(.val (.int p0)), (.val (.int p1)), (.val (.int p2)), (.val (.ref w_LESS)), (.val (.int (p1 ||| (-2147483648 : Int32)))), (.val (.int ((XT.ushr p2 (1 : Int32)) ||| (1 : Int32)))), .unset]) rfl kq) ?_
    show Owes p e below s (QL n0) room_1.cells room_1.slots T4 (mkF m 23 #[(.val (.int p0)), (.val (.int p1)), (.val (.int p2)), (.val (.ref w_LESS)), (.val (.int (p1 ||| (-2147483648 : Int32)))), (.val (.int ((XT.ushr p2 (1 : Int32)) ||| (1 : Int32)))), .unset] [])
    refine Owes.by (fun _ kq => XS.aloadN X4.here hx rfl (hb hby at_23) rfl rfl kq) ?_
    show Owes p e below s (QL n0) room_1.cells room_1.slots T4 (mkF m 24 #[(.val (.int p0)), (.val (.int p1)), (.val (.int p2)), (.val (.ref w_LESS)), (.val (.int (p1 ||| (-2147483648 : Int32)))), (.val (.int ((XT.ushr p2 (1 : Int32)) ||| (1 : Int32)))), .unset] [(.ref w_LESS)])
    refine Owes.by (fun _ kq => XS.iload X4.here hx rfl (hb hby at_24) rfl kq) ?_
    show Owes p e below s (QL n0) room_1.cells room_1.slots T4 (mkF m 26 #[(.val (.int p0)), (.val (.int p1)), (.val (.int p2)), (.val (.ref w_LESS)), (.val (.int (p1 ||| (-2147483648 : Int32)))), (.val (.int ((XT.ushr p2 (1 : Int32)) ||| (1 : Int32)))), .unset] [(.int (p1 ||| (-2147483648 : Int32))), (.ref w_LESS)])
    obtain ⟨cq5, kq5, qa5, qb5, qc5⟩ := isOf hZ e4 E_LESS
    obtain ⟨_, _, ⟨T5, L5, k5, n5⟩, -, X5, ⟨Lc5, hQ5, l5, y5, z5⟩, st5⟩ := X4.virtualBack hx (y := (⟨"dev/tagwarden/condition/OrderedValues$Relation", "holds", "(I)Z"⟩ : MethodName)) (z := (⟨"dev/tagwarden/condition/OrderedValues$Relation", "holds", "(I)Z"⟩ : MethodName)) hown (mvT hZ (hw _ (List.mem_of_getElem? (i := 9) rfl))) (mvT hZ (hw _ (List.mem_of_getElem? (i := 10) rfl))) (notFace_of_selects (args := #[]) (mvT hZ (hw _ (List.mem_of_getElem? (i := 12) rfl)))) (mvT hZ (hw _ (List.mem_of_getElem? (i := 12) rfl))) (mvT hZ (hw _ (List.mem_of_getElem? (i := 11) rfl))) (by decide) (backOf (W := 0) (rmH l Z a0 hw [] w_LESS (p1 ||| (-2147483648 : Int32)) 1 1 h0 n0 Z0 F_LESS E_LESS (by decide) (own_neg1 p1)) hZ (hw _ (List.mem_of_getElem? (i := 13) rfl)) (hw _ (List.mem_of_getElem? (i := 6) rfl)) (by decide) (by decide)) qa5 qc5 (g := (mkF m 26 #[(.val (.int p0)), (.val (.int p1)), (.val (.int p2)), (.val (.ref w_LESS)), (.val (.int (p1 ||| (-2147483648 : Int32)))), (.val (.int ((XT.ushr p2 (1 : Int32)) ||| (1 : Int32)))), .unset] [(.int (p1 ||| (-2147483648 : Int32))), (.ref w_LESS)])) rfl (by rw [hml]; rfl) (Steps.refl _) (argsL := [(.int (p1 ||| (-2147483648 : Int32)))]) (rest := []) (lenOf pd_I_Z rfl) rfl (by show 2 * 0 + _ ≤ _; exact Nat.le_of_eq rfl) (hb hby at_26) (fun _ _ => ⟨rfl, e4, (by decide : 0 + 0 ≤ _), (by decide : 0 + 0 ≤ _)⟩)
    dsimp only [Pt.U, Pt.locs, Pt.cells, Pt.slots] at X5 l5 y5 z5 st5 hQ5
    subst l5 y5 z5
    obtain ⟨rfl, rfl, e5⟩ := hQ5
    try rw [List.append_nil] at X5
    refine Owes.by (fun _ kq => st5.trans kq) ?_
    show Owes p e below s (QL n0) room_1.cells room_1.slots T5 (mkF m 29 #[(.val (.int p0)), (.val (.int p1)), (.val (.int p2)), (.val (.ref w_LESS)), (.val (.int (p1 ||| (-2147483648 : Int32)))), (.val (.int ((XT.ushr p2 (1 : Int32)) ||| (1 : Int32)))), .unset] [(.int (1 : Int32))])
    refine Owes.by (fun _ kq => XS.ifNo X5.here hx rfl (hb hby at_29) rfl (XT.i0_eq_f (by decide)) kq) ?_
    show Owes p e below s (QL n0) room_1.cells room_1.slots T5 (mkF m 32 #[(.val (.int p0)), (.val (.int p1)), (.val (.int p2)), (.val (.ref w_LESS)), (.val (.int (p1 ||| (-2147483648 : Int32)))), (.val (.int ((XT.ushr p2 (1 : Int32)) ||| (1 : Int32)))), .unset] [])
    refine Owes.by (fun _ kq => XS.aloadN X5.here hx rfl (hb hby at_32) rfl rfl kq) ?_
    show Owes p e below s (QL n0) room_1.cells room_1.slots T5 (mkF m 33 #[(.val (.int p0)), (.val (.int p1)), (.val (.int p2)), (.val (.ref w_LESS)), (.val (.int (p1 ||| (-2147483648 : Int32)))), (.val (.int ((XT.ushr p2 (1 : Int32)) ||| (1 : Int32)))), .unset] [(.ref w_LESS)])
    refine Owes.by (fun _ kq => XS.iload X5.here hx rfl (hb hby at_33) rfl kq) ?_
    show Owes p e below s (QL n0) room_1.cells room_1.slots T5 (mkF m 35 #[(.val (.int p0)), (.val (.int p1)), (.val (.int p2)), (.val (.ref w_LESS)), (.val (.int (p1 ||| (-2147483648 : Int32)))), (.val (.int ((XT.ushr p2 (1 : Int32)) ||| (1 : Int32)))), .unset] [(.int ((XT.ushr p2 (1 : Int32)) ||| (1 : Int32))), (.ref w_LESS)])
    obtain ⟨cq6, kq6, qa6, qb6, qc6⟩ := isOf hZ e5 E_LESS
    obtain ⟨_, _, ⟨T6, L6, k6, n6⟩, -, X6, ⟨Lc6, hQ6, l6, y6, z6⟩, st6⟩ := X5.virtualBack hx (y := (⟨"dev/tagwarden/condition/OrderedValues$Relation", "holds", "(I)Z"⟩ : MethodName)) (z := (⟨"dev/tagwarden/condition/OrderedValues$Relation", "holds", "(I)Z"⟩ : MethodName)) hown (mvT hZ (hw _ (List.mem_of_getElem? (i := 9) rfl))) (mvT hZ (hw _ (List.mem_of_getElem? (i := 10) rfl))) (notFace_of_selects (args := #[]) (mvT hZ (hw _ (List.mem_of_getElem? (i := 12) rfl)))) (mvT hZ (hw _ (List.mem_of_getElem? (i := 12) rfl))) (mvT hZ (hw _ (List.mem_of_getElem? (i := 11) rfl))) (by decide) (backOf (W := 0) (rmH l Z a0 hw [] w_LESS ((XT.ushr p2 (1 : Int32)) ||| (1 : Int32)) 1 0 h0 n0 Z0 F_LESS E_LESS (by decide) (own_pos1 p2)) hZ (hw _ (List.mem_of_getElem? (i := 13) rfl)) (hw _ (List.mem_of_getElem? (i := 6) rfl)) (by decide) (by decide)) qa6 qc6 (g := (mkF m 35 #[(.val (.int p0)), (.val (.int p1)), (.val (.int p2)), (.val (.ref w_LESS)), (.val (.int (p1 ||| (-2147483648 : Int32)))), (.val (.int ((XT.ushr p2 (1 : Int32)) ||| (1 : Int32)))), .unset] [(.int ((XT.ushr p2 (1 : Int32)) ||| (1 : Int32))), (.ref w_LESS)])) rfl (by rw [hml]; rfl) (Steps.refl _) (argsL := [(.int ((XT.ushr p2 (1 : Int32)) ||| (1 : Int32)))]) (rest := []) (lenOf pd_I_Z rfl) rfl (by show 2 * 0 + _ ≤ _; exact Nat.le_of_eq rfl) (hb hby at_35) (fun _ _ => ⟨rfl, e5, (by decide : 0 + 0 ≤ _), (by decide : 0 + 0 ≤ _)⟩)
    dsimp only [Pt.U, Pt.locs, Pt.cells, Pt.slots] at X6 l6 y6 z6 st6 hQ6
    subst l6 y6 z6
    obtain ⟨rfl, rfl, e6⟩ := hQ6
    try rw [List.append_nil] at X6
    refine Owes.by (fun _ kq => st6.trans kq) ?_
    show Owes p e below s (QL n0) room_1.cells room_1.slots T6 (mkF m 38 #[(.val (.int p0)), (.val (.int p1)), (.val (.int p2)), (.val (.ref w_LESS)), (.val (.int (p1 ||| (-2147483648 : Int32)))), (.val (.int ((XT.ushr p2 (1 : Int32)) ||| (1 : Int32)))), .unset] [(.int (0 : Int32))])
    refine Owes.by (fun _ kq => XS.ifNo X6.here hx rfl (hb hby at_38) rfl (XT.i0_ne_f (by decide)) kq) ?_
    show Owes p e below s (QL n0) room_1.cells room_1.slots T6 (mkF m 41 #[(.val (.int p0)), (.val (.int p1)), (.val (.int p2)), (.val (.ref w_LESS)), (.val (.int (p1 ||| (-2147483648 : Int32)))), (.val (.int ((XT.ushr p2 (1 : Int32)) ||| (1 : Int32)))), .unset] [])
    refine Owes.by (fun _ kq => XS.iconst X6.here hx rfl (hb hby at_41) kq) ?_
    show Owes p e below s (QL n0) room_1.cells room_1.slots T6 (mkF m 42 #[(.val (.int p0)), (.val (.int p1)), (.val (.int p2)), (.val (.ref w_LESS)), (.val (.int (p1 ||| (-2147483648 : Int32)))), (.val (.int ((XT.ushr p2 (1 : Int32)) ||| (1 : Int32)))), .unset] [(.int (1 : Int32))])
    refine Owes.by (fun _ kq => XS.goto X6.here hx rfl (pc0 := 42) (pc' := 46) rfl (hb hby at_42) (by decide) (by decide) kq) ?_
    show Owes p e below s (QL n0) room_1.cells room_1.slots T6 (mkF m 46 #[(.val (.int p0)), (.val (.int p1)), (.val (.int p2)), (.val (.ref w_LESS)), (.val (.int (p1 ||| (-2147483648 : Int32)))), (.val (.int ((XT.ushr p2 (1 : Int32)) ||| (1 : Int32)))), .unset] [(.int (1 : Int32))])
    refine Owes.by (fun _ kq => XS.istore X6.here hx rfl (hb hby at_46) rfl (l' := #[(.val (.int p0)), (.val (.int p1)), (.val (.int p2)), (.val (.ref w_LESS)), (.val (.int (p1 ||| (-2147483648 : Int32)))), (.val (.int ((XT.ushr p2 (1 : Int32)) ||| (1 : Int32)))), (.val (.int (1 : Int32)))]) rfl kq) ?_
    show Owes p e below s (QL n0) room_1.cells room_1.slots T6 (mkF m 48 #[(.val (.int p0)), (.val (.int p1)), (.val (.int p2)), (.val (.ref w_LESS)), (.val (.int (p1 ||| (-2147483648 : Int32)))), (.val (.int ((XT.ushr p2 (1 : Int32)) ||| (1 : Int32)))), (.val (.int (1 : Int32)))] [])
    refine Owes.by (fun _ kq => XS.aloadN X6.here hx rfl (hb hby at_48) rfl rfl kq) ?_
    show Owes p e below s (QL n0) room_1.cells room_1.slots T6 (mkF m 49 #[(.val (.int p0)), (.val (.int p1)), (.val (.int p2)), (.val (.ref w_LESS)), (.val (.int (p1 ||| (-2147483648 : Int32)))), (.val (.int ((XT.ushr p2 (1 : Int32)) ||| (1 : Int32)))), (.val (.int (1 : Int32)))] [(.ref w_LESS)])
    obtain ⟨cq7, kq7, qa7, qb7, qc7⟩ := isOf hZ e6 E_LESS
    obtain ⟨_, _, ⟨T7, L7, k7, n7⟩, -, X7, ⟨Lc7, hQ7, l7, y7, z7⟩, st7⟩ := X6.virtualBack hx (y := (⟨"dev/tagwarden/condition/OrderedValues$Relation", "below", "()Z"⟩ : MethodName)) (z := (⟨"dev/tagwarden/condition/OrderedValues$Relation", "below", "()Z"⟩ : MethodName)) hown (mvT hZ (hw _ (List.mem_of_getElem? (i := 23) rfl))) (mvT hZ (hw _ (List.mem_of_getElem? (i := 24) rfl))) (notFace_of_selects (args := #[]) (mvT hZ (hw _ (List.mem_of_getElem? (i := 26) rfl)))) (mvT hZ (hw _ (List.mem_of_getElem? (i := 26) rfl))) (mvT hZ (hw _ (List.mem_of_getElem? (i := 25) rfl))) (by decide) (backOf (W := 0) (rmB l Z a0 hw [] w_LESS w_LESS w_LESS_OR_EQUAL 1 h0 n0 Z0 S_LESS S_LESS_OR_EQUAL (by simp)) hZ (hw _ (List.mem_of_getElem? (i := 27) rfl)) (hw _ (List.mem_of_getElem? (i := 6) rfl)) (by decide) (by decide)) qa7 qc7 (g := (mkF m 49 #[(.val (.int p0)), (.val (.int p1)), (.val (.int p2)), (.val (.ref w_LESS)), (.val (.int (p1 ||| (-2147483648 : Int32)))), (.val (.int ((XT.ushr p2 (1 : Int32)) ||| (1 : Int32)))), (.val (.int (1 : Int32)))] [(.ref w_LESS)])) rfl (by rw [hml]; rfl) (Steps.refl _) (argsL := []) (rest := []) (lenOf pd_Z rfl) rfl (by show 2 * 0 + _ ≤ _; exact Nat.le_of_eq rfl) (hb hby at_49) (fun _ _ => ⟨rfl, e6, (by decide : 0 + 0 ≤ _), (by decide : 0 + 0 ≤ _)⟩)
    dsimp only [Pt.U, Pt.locs, Pt.cells, Pt.slots] at X7 l7 y7 z7 st7 hQ7
    subst l7 y7 z7
    obtain ⟨rfl, rfl, e7⟩ := hQ7
    try rw [List.append_nil] at X7
    refine Owes.by (fun _ kq => st7.trans kq) ?_
    show Owes p e below s (QL n0) room_1.cells room_1.slots T7 (mkF m 52 #[(.val (.int p0)), (.val (.int p1)), (.val (.int p2)), (.val (.ref w_LESS)), (.val (.int (p1 ||| (-2147483648 : Int32)))), (.val (.int ((XT.ushr p2 (1 : Int32)) ||| (1 : Int32)))), (.val (.int (1 : Int32)))] [(.int (1 : Int32))])
    refine Owes.by (fun _ kq => XS.iload X7.here hx rfl (hb hby at_52) rfl kq) ?_
    show Owes p e below s (QL n0) room_1.cells room_1.slots T7 (mkF m 54 #[(.val (.int p0)), (.val (.int p1)), (.val (.int p2)), (.val (.ref w_LESS)), (.val (.int (p1 ||| (-2147483648 : Int32)))), (.val (.int ((XT.ushr p2 (1 : Int32)) ||| (1 : Int32)))), (.val (.int (1 : Int32)))] [(.int (1 : Int32)), (.int (1 : Int32))])
    refine Owes.by (fun _ kq => XS.icmpNo X7.here hx rfl (hb hby at_54) rfl (XT.ii_ne_f (by decide)) kq) ?_
    show Owes p e below s (QL n0) room_1.cells room_1.slots T7 (mkF m 57 #[(.val (.int p0)), (.val (.int p1)), (.val (.int p2)), (.val (.ref w_LESS)), (.val (.int (p1 ||| (-2147483648 : Int32)))), (.val (.int ((XT.ushr p2 (1 : Int32)) ||| (1 : Int32)))), (.val (.int (1 : Int32)))] [])
    refine Owes.by (fun _ kq => XS.iconst X7.here hx rfl (hb hby at_57) kq) ?_
    show Owes p e below s (QL n0) room_1.cells room_1.slots T7 (mkF m 58 #[(.val (.int p0)), (.val (.int p1)), (.val (.int p2)), (.val (.ref w_LESS)), (.val (.int (p1 ||| (-2147483648 : Int32)))), (.val (.int ((XT.ushr p2 (1 : Int32)) ||| (1 : Int32)))), (.val (.int (1 : Int32)))] [(.int (1 : Int32))])
    refine Owes.by (fun _ kq => XS.goto X7.here hx rfl (pc0 := 58) (pc' := 62) rfl (hb hby at_58) (by decide) (by decide) kq) ?_
    show Owes p e below s (QL n0) room_1.cells room_1.slots T7 (mkF m 62 #[(.val (.int p0)), (.val (.int p1)), (.val (.int p2)), (.val (.ref w_LESS)), (.val (.int (p1 ||| (-2147483648 : Int32)))), (.val (.int ((XT.ushr p2 (1 : Int32)) ||| (1 : Int32)))), (.val (.int (1 : Int32)))] [(.int (1 : Int32))])
    refine Owes.ret X7 (v := some (.int (1 : Int32))) (fun h => by rw [Bd.returns] at h; cases h) hlk ?_ (by decide) (by decide) (fun fs hr => retN X7 hx (t := .boolean) Bd.returns (by simp) (hb hby at_62) hr)
    rw [e7]
    exact ⟨rfl, N0⟩
  · rw [q]
    show Owes p e below s (QL n0) room_1.cells room_1.slots s₁ (mkF m 6 #[(.val (.int p0)), (.val (.int p1)), (.val (.int p2)), .unset, .unset, .unset, .unset] [(.int (2 : Int32))])
    obtain ⟨_, _, ⟨T8, L8, k8, n8⟩, -, X8, ⟨Lc8, hQ8, l8, y8, z8⟩, st8⟩ := Jvm.LawKit.callS X0 hx (y := (⟨"dev/tagwarden/condition/RelationBelowPinLaw", "pick", "(I)Ldev/tagwarden/condition/OrderedValues$Relation;"⟩ : MethodName)) hown (mvT hZ (hw _ (List.mem_of_getElem? (i := 1) rfl))) (mvT hZ (hw _ (List.mem_of_getElem? (i := 2) rfl))) (mvT hZ (hw _ (List.mem_of_getElem? (i := 3) rfl))) (mvT hZ (hw _ (List.mem_of_getElem? (i := 4) rfl))) (by decide) (backOf (W := 0) (rmP l Z a0 hw [] 2 w_EQUAL w_LESS w_LESS_OR_EQUAL w_GREATER w_GREATER_OR_EQUAL w_LESS_OR_EQUAL h0 n0 Z0 S_EQUAL S_LESS S_LESS_OR_EQUAL S_GREATER S_GREATER_OR_EQUAL (by simp +decide)) hZ (hw _ (List.mem_of_getElem? (i := 4) rfl)) (hw _ (List.mem_of_getElem? (i := 3) rfl)) (by decide) (by decide)) (g := (mkF m 6 #[(.val (.int p0)), (.val (.int p1)), (.val (.int p2)), .unset, .unset, .unset, .unset] [(.int (2 : Int32))])) rfl (by rw [hml]; rfl) (argsL := [(.int (2 : Int32))]) (rest := []) (lenOf pd_I_Ldev_tagwarden_condition_OrderedValues_Relation rfl) rfl (by show 2 * 0 + _ ≤ _; exact Nat.le_of_eq rfl) (hb hby at_6) (fun _ _ => ⟨rfl, e0, (by decide : 0 + 0 ≤ _), (by decide : 0 + 0 ≤ _)⟩)
    dsimp only [Pt.U, Pt.locs, Pt.cells, Pt.slots] at X8 l8 y8 z8 st8 hQ8
    subst l8 y8 z8
    obtain ⟨rfl, rfl, e8⟩ := hQ8
    try rw [List.append_nil] at X8
    refine Owes.by st8 ?_
    show Owes p e below s (QL n0) room_1.cells room_1.slots T8 (mkF m 9 #[(.val (.int p0)), (.val (.int p1)), (.val (.int p2)), .unset, .unset, .unset, .unset] [(.ref w_LESS_OR_EQUAL)])
    refine Owes.by (fun _ kq => XS.astoreN X8.here hx rfl (hb hby at_9) rfl rfl (l' := #[(.val (.int p0)), (.val (.int p1)), (.val (.int p2)), (.val (.ref w_LESS_OR_EQUAL)), .unset, .unset, .unset]) rfl kq) ?_
    show Owes p e below s (QL n0) room_1.cells room_1.slots T8 (mkF m 10 #[(.val (.int p0)), (.val (.int p1)), (.val (.int p2)), (.val (.ref w_LESS_OR_EQUAL)), .unset, .unset, .unset] [])
    refine Owes.by (fun _ kq => XS.iloadN X8.here hx rfl (hb hby at_10) rfl kq) ?_
    show Owes p e below s (QL n0) room_1.cells room_1.slots T8 (mkF m 11 #[(.val (.int p0)), (.val (.int p1)), (.val (.int p2)), (.val (.ref w_LESS_OR_EQUAL)), .unset, .unset, .unset] [(.int p1)])
    refine Owes.by (fun tq kq => X8.ldcInt hx hown (mvT hZ (hw _ (List.mem_of_getElem? (i := 8) rfl))) (g := (mkF m 11 #[(.val (.int p0)), (.val (.int p1)), (.val (.int p2)), (.val (.ref w_LESS_OR_EQUAL)), .unset, .unset, .unset] [(.int p1)])) rfl (hb hby at_11) tq kq) ?_
    show Owes p e below s (QL n0) room_1.cells room_1.slots T8 (mkF m 13 #[(.val (.int p0)), (.val (.int p1)), (.val (.int p2)), (.val (.ref w_LESS_OR_EQUAL)), .unset, .unset, .unset] [(.int (-2147483648 : Int32)), (.int p1)])
    refine Owes.by (fun _ kq => XT.ior X8.here hx rfl (hb hby at_13) rfl kq) ?_
    show Owes p e below s (QL n0) room_1.cells room_1.slots T8 (mkF m 14 #[(.val (.int p0)), (.val (.int p1)), (.val (.int p2)), (.val (.ref w_LESS_OR_EQUAL)), .unset, .unset, .unset] [(.int (p1 ||| (-2147483648 : Int32)))])
    refine Owes.by (fun _ kq => XS.istore X8.here hx rfl (hb hby at_14) rfl (l' := #[(.val (.int p0)), (.val (.int p1)), (.val (.int p2)), (.val (.ref w_LESS_OR_EQUAL)), (.val (.int (p1 ||| (-2147483648 : Int32)))), .unset, .unset]) rfl kq) ?_
    show Owes p e below s (QL n0) room_1.cells room_1.slots T8 (mkF m 16 #[(.val (.int p0)), (.val (.int p1)), (.val (.int p2)), (.val (.ref w_LESS_OR_EQUAL)), (.val (.int (p1 ||| (-2147483648 : Int32)))), .unset, .unset] [])
    refine Owes.by (fun _ kq => XS.iloadN X8.here hx rfl (hb hby at_16) rfl kq) ?_
    show Owes p e below s (QL n0) room_1.cells room_1.slots T8 (mkF m 17 #[(.val (.int p0)), (.val (.int p1)), (.val (.int p2)), (.val (.ref w_LESS_OR_EQUAL)), (.val (.int (p1 ||| (-2147483648 : Int32)))), .unset, .unset] [(.int p2)])
    refine Owes.by (fun _ kq => XS.iconst X8.here hx rfl (hb hby at_17) kq) ?_
    show Owes p e below s (QL n0) room_1.cells room_1.slots T8 (mkF m 18 #[(.val (.int p0)), (.val (.int p1)), (.val (.int p2)), (.val (.ref w_LESS_OR_EQUAL)), (.val (.int (p1 ||| (-2147483648 : Int32)))), .unset, .unset] [(.int (1 : Int32)), (.int p2)])
    refine Owes.by (fun _ kq => XT.iushr X8.here hx rfl (hb hby at_18) rfl kq) ?_
    show Owes p e below s (QL n0) room_1.cells room_1.slots T8 (mkF m 19 #[(.val (.int p0)), (.val (.int p1)), (.val (.int p2)), (.val (.ref w_LESS_OR_EQUAL)), (.val (.int (p1 ||| (-2147483648 : Int32)))), .unset, .unset] [(.int (XT.ushr p2 (1 : Int32)))])
    refine Owes.by (fun _ kq => XS.iconst X8.here hx rfl (hb hby at_19) kq) ?_
    show Owes p e below s (QL n0) room_1.cells room_1.slots T8 (mkF m 20 #[(.val (.int p0)), (.val (.int p1)), (.val (.int p2)), (.val (.ref w_LESS_OR_EQUAL)), (.val (.int (p1 ||| (-2147483648 : Int32)))), .unset, .unset] [(.int (1 : Int32)), (.int (XT.ushr p2 (1 : Int32)))])
    refine Owes.by (fun _ kq => XT.ior X8.here hx rfl (hb hby at_20) rfl kq) ?_
    show Owes p e below s (QL n0) room_1.cells room_1.slots T8 (mkF m 21 #[(.val (.int p0)), (.val (.int p1)), (.val (.int p2)), (.val (.ref w_LESS_OR_EQUAL)), (.val (.int (p1 ||| (-2147483648 : Int32)))), .unset, .unset] [(.int ((XT.ushr p2 (1 : Int32)) ||| (1 : Int32)))])
    refine Owes.by (fun _ kq => XS.istore X8.here hx rfl (hb hby at_21) rfl (l' := #[(.val (.int p0)), (.val (.int p1)), (.val (.int p2)), (.val (.ref w_LESS_OR_EQUAL)), (.val (.int (p1 ||| (-2147483648 : Int32)))), (.val (.int ((XT.ushr p2 (1 : Int32)) ||| (1 : Int32)))), .unset]) rfl kq) ?_
    show Owes p e below s (QL n0) room_1.cells room_1.slots T8 (mkF m 23 #[(.val (.int p0)), (.val (.int p1)), (.val (.int p2)), (.val (.ref w_LESS_OR_EQUAL)), (.val (.int (p1 ||| (-2147483648 : Int32)))), (.val (.int ((XT.ushr p2 (1 : Int32)) ||| (1 : Int32)))), .unset] [])
    refine Owes.by (fun _ kq => XS.aloadN X8.here hx rfl (hb hby at_23) rfl rfl kq) ?_
    show Owes p e below s (QL n0) room_1.cells room_1.slots T8 (mkF m 24 #[(.val (.int p0)), (.val (.int p1)), (.val (.int p2)), (.val (.ref w_LESS_OR_EQUAL)), (.val (.int (p1 ||| (-2147483648 : Int32)))), (.val (.int ((XT.ushr p2 (1 : Int32)) ||| (1 : Int32)))), .unset] [(.ref w_LESS_OR_EQUAL)])
    refine Owes.by (fun _ kq => XS.iload X8.here hx rfl (hb hby at_24) rfl kq) ?_
    show Owes p e below s (QL n0) room_1.cells room_1.slots T8 (mkF m 26 #[(.val (.int p0)), (.val (.int p1)), (.val (.int p2)), (.val (.ref w_LESS_OR_EQUAL)), (.val (.int (p1 ||| (-2147483648 : Int32)))), (.val (.int ((XT.ushr p2 (1 : Int32)) ||| (1 : Int32)))), .unset] [(.int (p1 ||| (-2147483648 : Int32))), (.ref w_LESS_OR_EQUAL)])
    obtain ⟨cq9, kq9, qa9, qb9, qc9⟩ := isOf hZ e8 E_LESS_OR_EQUAL
    obtain ⟨_, _, ⟨T9, L9, k9, n9⟩, -, X9, ⟨Lc9, hQ9, l9, y9, z9⟩, st9⟩ := X8.virtualBack hx (y := (⟨"dev/tagwarden/condition/OrderedValues$Relation", "holds", "(I)Z"⟩ : MethodName)) (z := (⟨"dev/tagwarden/condition/OrderedValues$Relation", "holds", "(I)Z"⟩ : MethodName)) hown (mvT hZ (hw _ (List.mem_of_getElem? (i := 9) rfl))) (mvT hZ (hw _ (List.mem_of_getElem? (i := 10) rfl))) (notFace_of_selects (args := #[]) (mvT hZ (hw _ (List.mem_of_getElem? (i := 12) rfl)))) (mvT hZ (hw _ (List.mem_of_getElem? (i := 12) rfl))) (mvT hZ (hw _ (List.mem_of_getElem? (i := 11) rfl))) (by decide) (backOf (W := 0) (rmH l Z a0 hw [] w_LESS_OR_EQUAL (p1 ||| (-2147483648 : Int32)) 2 1 h0 n0 Z0 F_LESS_OR_EQUAL E_LESS_OR_EQUAL (by decide) (own_neg2 p1)) hZ (hw _ (List.mem_of_getElem? (i := 13) rfl)) (hw _ (List.mem_of_getElem? (i := 6) rfl)) (by decide) (by decide)) qa9 qc9 (g := (mkF m 26 #[(.val (.int p0)), (.val (.int p1)), (.val (.int p2)), (.val (.ref w_LESS_OR_EQUAL)), (.val (.int (p1 ||| (-2147483648 : Int32)))), (.val (.int ((XT.ushr p2 (1 : Int32)) ||| (1 : Int32)))), .unset] [(.int (p1 ||| (-2147483648 : Int32))), (.ref w_LESS_OR_EQUAL)])) rfl (by rw [hml]; rfl) (Steps.refl _) (argsL := [(.int (p1 ||| (-2147483648 : Int32)))]) (rest := []) (lenOf pd_I_Z rfl) rfl (by show 2 * 0 + _ ≤ _; exact Nat.le_of_eq rfl) (hb hby at_26) (fun _ _ => ⟨rfl, e8, (by decide : 0 + 0 ≤ _), (by decide : 0 + 0 ≤ _)⟩)
    dsimp only [Pt.U, Pt.locs, Pt.cells, Pt.slots] at X9 l9 y9 z9 st9 hQ9
    subst l9 y9 z9
    obtain ⟨rfl, rfl, e9⟩ := hQ9
    try rw [List.append_nil] at X9
    refine Owes.by (fun _ kq => st9.trans kq) ?_
    show Owes p e below s (QL n0) room_1.cells room_1.slots T9 (mkF m 29 #[(.val (.int p0)), (.val (.int p1)), (.val (.int p2)), (.val (.ref w_LESS_OR_EQUAL)), (.val (.int (p1 ||| (-2147483648 : Int32)))), (.val (.int ((XT.ushr p2 (1 : Int32)) ||| (1 : Int32)))), .unset] [(.int (1 : Int32))])
    refine Owes.by (fun _ kq => XS.ifNo X9.here hx rfl (hb hby at_29) rfl (XT.i0_eq_f (by decide)) kq) ?_
    show Owes p e below s (QL n0) room_1.cells room_1.slots T9 (mkF m 32 #[(.val (.int p0)), (.val (.int p1)), (.val (.int p2)), (.val (.ref w_LESS_OR_EQUAL)), (.val (.int (p1 ||| (-2147483648 : Int32)))), (.val (.int ((XT.ushr p2 (1 : Int32)) ||| (1 : Int32)))), .unset] [])
    refine Owes.by (fun _ kq => XS.aloadN X9.here hx rfl (hb hby at_32) rfl rfl kq) ?_
    show Owes p e below s (QL n0) room_1.cells room_1.slots T9 (mkF m 33 #[(.val (.int p0)), (.val (.int p1)), (.val (.int p2)), (.val (.ref w_LESS_OR_EQUAL)), (.val (.int (p1 ||| (-2147483648 : Int32)))), (.val (.int ((XT.ushr p2 (1 : Int32)) ||| (1 : Int32)))), .unset] [(.ref w_LESS_OR_EQUAL)])
    refine Owes.by (fun _ kq => XS.iload X9.here hx rfl (hb hby at_33) rfl kq) ?_
    show Owes p e below s (QL n0) room_1.cells room_1.slots T9 (mkF m 35 #[(.val (.int p0)), (.val (.int p1)), (.val (.int p2)), (.val (.ref w_LESS_OR_EQUAL)), (.val (.int (p1 ||| (-2147483648 : Int32)))), (.val (.int ((XT.ushr p2 (1 : Int32)) ||| (1 : Int32)))), .unset] [(.int ((XT.ushr p2 (1 : Int32)) ||| (1 : Int32))), (.ref w_LESS_OR_EQUAL)])
    obtain ⟨cq10, kq10, qa10, qb10, qc10⟩ := isOf hZ e9 E_LESS_OR_EQUAL
    obtain ⟨_, _, ⟨T10, L10, k10, n10⟩, -, X10, ⟨Lc10, hQ10, l10, y10, z10⟩, st10⟩ := X9.virtualBack hx (y := (⟨"dev/tagwarden/condition/OrderedValues$Relation", "holds", "(I)Z"⟩ : MethodName)) (z := (⟨"dev/tagwarden/condition/OrderedValues$Relation", "holds", "(I)Z"⟩ : MethodName)) hown (mvT hZ (hw _ (List.mem_of_getElem? (i := 9) rfl))) (mvT hZ (hw _ (List.mem_of_getElem? (i := 10) rfl))) (notFace_of_selects (args := #[]) (mvT hZ (hw _ (List.mem_of_getElem? (i := 12) rfl)))) (mvT hZ (hw _ (List.mem_of_getElem? (i := 12) rfl))) (mvT hZ (hw _ (List.mem_of_getElem? (i := 11) rfl))) (by decide) (backOf (W := 0) (rmH l Z a0 hw [] w_LESS_OR_EQUAL ((XT.ushr p2 (1 : Int32)) ||| (1 : Int32)) 2 0 h0 n0 Z0 F_LESS_OR_EQUAL E_LESS_OR_EQUAL (by decide) (own_pos2 p2)) hZ (hw _ (List.mem_of_getElem? (i := 13) rfl)) (hw _ (List.mem_of_getElem? (i := 6) rfl)) (by decide) (by decide)) qa10 qc10 (g := (mkF m 35 #[(.val (.int p0)), (.val (.int p1)), (.val (.int p2)), (.val (.ref w_LESS_OR_EQUAL)), (.val (.int (p1 ||| (-2147483648 : Int32)))), (.val (.int ((XT.ushr p2 (1 : Int32)) ||| (1 : Int32)))), .unset] [(.int ((XT.ushr p2 (1 : Int32)) ||| (1 : Int32))), (.ref w_LESS_OR_EQUAL)])) rfl (by rw [hml]; rfl) (Steps.refl _) (argsL := [(.int ((XT.ushr p2 (1 : Int32)) ||| (1 : Int32)))]) (rest := []) (lenOf pd_I_Z rfl) rfl (by show 2 * 0 + _ ≤ _; exact Nat.le_of_eq rfl) (hb hby at_35) (fun _ _ => ⟨rfl, e9, (by decide : 0 + 0 ≤ _), (by decide : 0 + 0 ≤ _)⟩)
    dsimp only [Pt.U, Pt.locs, Pt.cells, Pt.slots] at X10 l10 y10 z10 st10 hQ10
    subst l10 y10 z10
    obtain ⟨rfl, rfl, e10⟩ := hQ10
    try rw [List.append_nil] at X10
    refine Owes.by (fun _ kq => st10.trans kq) ?_
    show Owes p e below s (QL n0) room_1.cells room_1.slots T10 (mkF m 38 #[(.val (.int p0)), (.val (.int p1)), (.val (.int p2)), (.val (.ref w_LESS_OR_EQUAL)), (.val (.int (p1 ||| (-2147483648 : Int32)))), (.val (.int ((XT.ushr p2 (1 : Int32)) ||| (1 : Int32)))), .unset] [(.int (0 : Int32))])
    refine Owes.by (fun _ kq => XS.ifNo X10.here hx rfl (hb hby at_38) rfl (XT.i0_ne_f (by decide)) kq) ?_
    show Owes p e below s (QL n0) room_1.cells room_1.slots T10 (mkF m 41 #[(.val (.int p0)), (.val (.int p1)), (.val (.int p2)), (.val (.ref w_LESS_OR_EQUAL)), (.val (.int (p1 ||| (-2147483648 : Int32)))), (.val (.int ((XT.ushr p2 (1 : Int32)) ||| (1 : Int32)))), .unset] [])
    refine Owes.by (fun _ kq => XS.iconst X10.here hx rfl (hb hby at_41) kq) ?_
    show Owes p e below s (QL n0) room_1.cells room_1.slots T10 (mkF m 42 #[(.val (.int p0)), (.val (.int p1)), (.val (.int p2)), (.val (.ref w_LESS_OR_EQUAL)), (.val (.int (p1 ||| (-2147483648 : Int32)))), (.val (.int ((XT.ushr p2 (1 : Int32)) ||| (1 : Int32)))), .unset] [(.int (1 : Int32))])
    refine Owes.by (fun _ kq => XS.goto X10.here hx rfl (pc0 := 42) (pc' := 46) rfl (hb hby at_42) (by decide) (by decide) kq) ?_
    show Owes p e below s (QL n0) room_1.cells room_1.slots T10 (mkF m 46 #[(.val (.int p0)), (.val (.int p1)), (.val (.int p2)), (.val (.ref w_LESS_OR_EQUAL)), (.val (.int (p1 ||| (-2147483648 : Int32)))), (.val (.int ((XT.ushr p2 (1 : Int32)) ||| (1 : Int32)))), .unset] [(.int (1 : Int32))])
    refine Owes.by (fun _ kq => XS.istore X10.here hx rfl (hb hby at_46) rfl (l' := #[(.val (.int p0)), (.val (.int p1)), (.val (.int p2)), (.val (.ref w_LESS_OR_EQUAL)), (.val (.int (p1 ||| (-2147483648 : Int32)))), (.val (.int ((XT.ushr p2 (1 : Int32)) ||| (1 : Int32)))), (.val (.int (1 : Int32)))]) rfl kq) ?_
    show Owes p e below s (QL n0) room_1.cells room_1.slots T10 (mkF m 48 #[(.val (.int p0)), (.val (.int p1)), (.val (.int p2)), (.val (.ref w_LESS_OR_EQUAL)), (.val (.int (p1 ||| (-2147483648 : Int32)))), (.val (.int ((XT.ushr p2 (1 : Int32)) ||| (1 : Int32)))), (.val (.int (1 : Int32)))] [])
    refine Owes.by (fun _ kq => XS.aloadN X10.here hx rfl (hb hby at_48) rfl rfl kq) ?_
    show Owes p e below s (QL n0) room_1.cells room_1.slots T10 (mkF m 49 #[(.val (.int p0)), (.val (.int p1)), (.val (.int p2)), (.val (.ref w_LESS_OR_EQUAL)), (.val (.int (p1 ||| (-2147483648 : Int32)))), (.val (.int ((XT.ushr p2 (1 : Int32)) ||| (1 : Int32)))), (.val (.int (1 : Int32)))] [(.ref w_LESS_OR_EQUAL)])
    obtain ⟨cq11, kq11, qa11, qb11, qc11⟩ := isOf hZ e10 E_LESS_OR_EQUAL
    obtain ⟨_, _, ⟨T11, L11, k11, n11⟩, -, X11, ⟨Lc11, hQ11, l11, y11, z11⟩, st11⟩ := X10.virtualBack hx (y := (⟨"dev/tagwarden/condition/OrderedValues$Relation", "below", "()Z"⟩ : MethodName)) (z := (⟨"dev/tagwarden/condition/OrderedValues$Relation", "below", "()Z"⟩ : MethodName)) hown (mvT hZ (hw _ (List.mem_of_getElem? (i := 23) rfl))) (mvT hZ (hw _ (List.mem_of_getElem? (i := 24) rfl))) (notFace_of_selects (args := #[]) (mvT hZ (hw _ (List.mem_of_getElem? (i := 26) rfl)))) (mvT hZ (hw _ (List.mem_of_getElem? (i := 26) rfl))) (mvT hZ (hw _ (List.mem_of_getElem? (i := 25) rfl))) (by decide) (backOf (W := 0) (rmB l Z a0 hw [] w_LESS_OR_EQUAL w_LESS w_LESS_OR_EQUAL 1 h0 n0 Z0 S_LESS S_LESS_OR_EQUAL (by simp)) hZ (hw _ (List.mem_of_getElem? (i := 27) rfl)) (hw _ (List.mem_of_getElem? (i := 6) rfl)) (by decide) (by decide)) qa11 qc11 (g := (mkF m 49 #[(.val (.int p0)), (.val (.int p1)), (.val (.int p2)), (.val (.ref w_LESS_OR_EQUAL)), (.val (.int (p1 ||| (-2147483648 : Int32)))), (.val (.int ((XT.ushr p2 (1 : Int32)) ||| (1 : Int32)))), (.val (.int (1 : Int32)))] [(.ref w_LESS_OR_EQUAL)])) rfl (by rw [hml]; rfl) (Steps.refl _) (argsL := []) (rest := []) (lenOf pd_Z rfl) rfl (by show 2 * 0 + _ ≤ _; exact Nat.le_of_eq rfl) (hb hby at_49) (fun _ _ => ⟨rfl, e10, (by decide : 0 + 0 ≤ _), (by decide : 0 + 0 ≤ _)⟩)
    dsimp only [Pt.U, Pt.locs, Pt.cells, Pt.slots] at X11 l11 y11 z11 st11 hQ11
    subst l11 y11 z11
    obtain ⟨rfl, rfl, e11⟩ := hQ11
    try rw [List.append_nil] at X11
    refine Owes.by (fun _ kq => st11.trans kq) ?_
    show Owes p e below s (QL n0) room_1.cells room_1.slots T11 (mkF m 52 #[(.val (.int p0)), (.val (.int p1)), (.val (.int p2)), (.val (.ref w_LESS_OR_EQUAL)), (.val (.int (p1 ||| (-2147483648 : Int32)))), (.val (.int ((XT.ushr p2 (1 : Int32)) ||| (1 : Int32)))), (.val (.int (1 : Int32)))] [(.int (1 : Int32))])
    refine Owes.by (fun _ kq => XS.iload X11.here hx rfl (hb hby at_52) rfl kq) ?_
    show Owes p e below s (QL n0) room_1.cells room_1.slots T11 (mkF m 54 #[(.val (.int p0)), (.val (.int p1)), (.val (.int p2)), (.val (.ref w_LESS_OR_EQUAL)), (.val (.int (p1 ||| (-2147483648 : Int32)))), (.val (.int ((XT.ushr p2 (1 : Int32)) ||| (1 : Int32)))), (.val (.int (1 : Int32)))] [(.int (1 : Int32)), (.int (1 : Int32))])
    refine Owes.by (fun _ kq => XS.icmpNo X11.here hx rfl (hb hby at_54) rfl (XT.ii_ne_f (by decide)) kq) ?_
    show Owes p e below s (QL n0) room_1.cells room_1.slots T11 (mkF m 57 #[(.val (.int p0)), (.val (.int p1)), (.val (.int p2)), (.val (.ref w_LESS_OR_EQUAL)), (.val (.int (p1 ||| (-2147483648 : Int32)))), (.val (.int ((XT.ushr p2 (1 : Int32)) ||| (1 : Int32)))), (.val (.int (1 : Int32)))] [])
    refine Owes.by (fun _ kq => XS.iconst X11.here hx rfl (hb hby at_57) kq) ?_
    show Owes p e below s (QL n0) room_1.cells room_1.slots T11 (mkF m 58 #[(.val (.int p0)), (.val (.int p1)), (.val (.int p2)), (.val (.ref w_LESS_OR_EQUAL)), (.val (.int (p1 ||| (-2147483648 : Int32)))), (.val (.int ((XT.ushr p2 (1 : Int32)) ||| (1 : Int32)))), (.val (.int (1 : Int32)))] [(.int (1 : Int32))])
    refine Owes.by (fun _ kq => XS.goto X11.here hx rfl (pc0 := 58) (pc' := 62) rfl (hb hby at_58) (by decide) (by decide) kq) ?_
    show Owes p e below s (QL n0) room_1.cells room_1.slots T11 (mkF m 62 #[(.val (.int p0)), (.val (.int p1)), (.val (.int p2)), (.val (.ref w_LESS_OR_EQUAL)), (.val (.int (p1 ||| (-2147483648 : Int32)))), (.val (.int ((XT.ushr p2 (1 : Int32)) ||| (1 : Int32)))), (.val (.int (1 : Int32)))] [(.int (1 : Int32))])
    refine Owes.ret X11 (v := some (.int (1 : Int32))) (fun h => by rw [Bd.returns] at h; cases h) hlk ?_ (by decide) (by decide) (fun fs hr => retN X11 hx (t := .boolean) Bd.returns (by simp) (hb hby at_62) hr)
    rw [e11]
    exact ⟨rfl, N0⟩
  · rw [q]
    show Owes p e below s (QL n0) room_1.cells room_1.slots s₁ (mkF m 6 #[(.val (.int p0)), (.val (.int p1)), (.val (.int p2)), .unset, .unset, .unset, .unset] [(.int (3 : Int32))])
    obtain ⟨_, _, ⟨T12, L12, k12, n12⟩, -, X12, ⟨Lc12, hQ12, l12, y12, z12⟩, st12⟩ := Jvm.LawKit.callS X0 hx (y := (⟨"dev/tagwarden/condition/RelationBelowPinLaw", "pick", "(I)Ldev/tagwarden/condition/OrderedValues$Relation;"⟩ : MethodName)) hown (mvT hZ (hw _ (List.mem_of_getElem? (i := 1) rfl))) (mvT hZ (hw _ (List.mem_of_getElem? (i := 2) rfl))) (mvT hZ (hw _ (List.mem_of_getElem? (i := 3) rfl))) (mvT hZ (hw _ (List.mem_of_getElem? (i := 4) rfl))) (by decide) (backOf (W := 0) (rmP l Z a0 hw [] 3 w_EQUAL w_LESS w_LESS_OR_EQUAL w_GREATER w_GREATER_OR_EQUAL w_GREATER h0 n0 Z0 S_EQUAL S_LESS S_LESS_OR_EQUAL S_GREATER S_GREATER_OR_EQUAL (by simp +decide)) hZ (hw _ (List.mem_of_getElem? (i := 4) rfl)) (hw _ (List.mem_of_getElem? (i := 3) rfl)) (by decide) (by decide)) (g := (mkF m 6 #[(.val (.int p0)), (.val (.int p1)), (.val (.int p2)), .unset, .unset, .unset, .unset] [(.int (3 : Int32))])) rfl (by rw [hml]; rfl) (argsL := [(.int (3 : Int32))]) (rest := []) (lenOf pd_I_Ldev_tagwarden_condition_OrderedValues_Relation rfl) rfl (by show 2 * 0 + _ ≤ _; exact Nat.le_of_eq rfl) (hb hby at_6) (fun _ _ => ⟨rfl, e0, (by decide : 0 + 0 ≤ _), (by decide : 0 + 0 ≤ _)⟩)
    dsimp only [Pt.U, Pt.locs, Pt.cells, Pt.slots] at X12 l12 y12 z12 st12 hQ12
    subst l12 y12 z12
    obtain ⟨rfl, rfl, e12⟩ := hQ12
    try rw [List.append_nil] at X12
    refine Owes.by st12 ?_
    show Owes p e below s (QL n0) room_1.cells room_1.slots T12 (mkF m 9 #[(.val (.int p0)), (.val (.int p1)), (.val (.int p2)), .unset, .unset, .unset, .unset] [(.ref w_GREATER)])
    refine Owes.by (fun _ kq => XS.astoreN X12.here hx rfl (hb hby at_9) rfl rfl (l' := #[(.val (.int p0)), (.val (.int p1)), (.val (.int p2)), (.val (.ref w_GREATER)), .unset, .unset, .unset]) rfl kq) ?_
    show Owes p e below s (QL n0) room_1.cells room_1.slots T12 (mkF m 10 #[(.val (.int p0)), (.val (.int p1)), (.val (.int p2)), (.val (.ref w_GREATER)), .unset, .unset, .unset] [])
    refine Owes.by (fun _ kq => XS.iloadN X12.here hx rfl (hb hby at_10) rfl kq) ?_
    show Owes p e below s (QL n0) room_1.cells room_1.slots T12 (mkF m 11 #[(.val (.int p0)), (.val (.int p1)), (.val (.int p2)), (.val (.ref w_GREATER)), .unset, .unset, .unset] [(.int p1)])
    refine Owes.by (fun tq kq => X12.ldcInt hx hown (mvT hZ (hw _ (List.mem_of_getElem? (i := 8) rfl))) (g := (mkF m 11 #[(.val (.int p0)), (.val (.int p1)), (.val (.int p2)), (.val (.ref w_GREATER)), .unset, .unset, .unset] [(.int p1)])) rfl (hb hby at_11) tq kq) ?_
    show Owes p e below s (QL n0) room_1.cells room_1.slots T12 (mkF m 13 #[(.val (.int p0)), (.val (.int p1)), (.val (.int p2)), (.val (.ref w_GREATER)), .unset, .unset, .unset] [(.int (-2147483648 : Int32)), (.int p1)])
    refine Owes.by (fun _ kq => XT.ior X12.here hx rfl (hb hby at_13) rfl kq) ?_
    show Owes p e below s (QL n0) room_1.cells room_1.slots T12 (mkF m 14 #[(.val (.int p0)), (.val (.int p1)), (.val (.int p2)), (.val (.ref w_GREATER)), .unset, .unset, .unset] [(.int (p1 ||| (-2147483648 : Int32)))])
    refine Owes.by (fun _ kq => XS.istore X12.here hx rfl (hb hby at_14) rfl (l' := #[(.val (.int p0)), (.val (.int p1)), (.val (.int p2)), (.val (.ref w_GREATER)), (.val (.int (p1 ||| (-2147483648 : Int32)))), .unset, .unset]) rfl kq) ?_
    show Owes p e below s (QL n0) room_1.cells room_1.slots T12 (mkF m 16 #[(.val (.int p0)), (.val (.int p1)), (.val (.int p2)), (.val (.ref w_GREATER)), (.val (.int (p1 ||| (-2147483648 : Int32)))), .unset, .unset] [])
    refine Owes.by (fun _ kq => XS.iloadN X12.here hx rfl (hb hby at_16) rfl kq) ?_
    show Owes p e below s (QL n0) room_1.cells room_1.slots T12 (mkF m 17 #[(.val (.int p0)), (.val (.int p1)), (.val (.int p2)), (.val (.ref w_GREATER)), (.val (.int (p1 ||| (-2147483648 : Int32)))), .unset, .unset] [(.int p2)])
    refine Owes.by (fun _ kq => XS.iconst X12.here hx rfl (hb hby at_17) kq) ?_
    show Owes p e below s (QL n0) room_1.cells room_1.slots T12 (mkF m 18 #[(.val (.int p0)), (.val (.int p1)), (.val (.int p2)), (.val (.ref w_GREATER)), (.val (.int (p1 ||| (-2147483648 : Int32)))), .unset, .unset] [(.int (1 : Int32)), (.int p2)])
    refine Owes.by (fun _ kq => XT.iushr X12.here hx rfl (hb hby at_18) rfl kq) ?_
    show Owes p e below s (QL n0) room_1.cells room_1.slots T12 (mkF m 19 #[(.val (.int p0)), (.val (.int p1)), (.val (.int p2)), (.val (.ref w_GREATER)), (.val (.int (p1 ||| (-2147483648 : Int32)))), .unset, .unset] [(.int (XT.ushr p2 (1 : Int32)))])
    refine Owes.by (fun _ kq => XS.iconst X12.here hx rfl (hb hby at_19) kq) ?_
    show Owes p e below s (QL n0) room_1.cells room_1.slots T12 (mkF m 20 #[(.val (.int p0)), (.val (.int p1)), (.val (.int p2)), (.val (.ref w_GREATER)), (.val (.int (p1 ||| (-2147483648 : Int32)))), .unset, .unset] [(.int (1 : Int32)), (.int (XT.ushr p2 (1 : Int32)))])
    refine Owes.by (fun _ kq => XT.ior X12.here hx rfl (hb hby at_20) rfl kq) ?_
    show Owes p e below s (QL n0) room_1.cells room_1.slots T12 (mkF m 21 #[(.val (.int p0)), (.val (.int p1)), (.val (.int p2)), (.val (.ref w_GREATER)), (.val (.int (p1 ||| (-2147483648 : Int32)))), .unset, .unset] [(.int ((XT.ushr p2 (1 : Int32)) ||| (1 : Int32)))])
    refine Owes.by (fun _ kq => XS.istore X12.here hx rfl (hb hby at_21) rfl (l' := #[(.val (.int p0)), (.val (.int p1)), (.val (.int p2)), (.val (.ref w_GREATER)), (.val (.int (p1 ||| (-2147483648 : Int32)))), (.val (.int ((XT.ushr p2 (1 : Int32)) ||| (1 : Int32)))), .unset]) rfl kq) ?_
    show Owes p e below s (QL n0) room_1.cells room_1.slots T12 (mkF m 23 #[(.val (.int p0)), (.val (.int p1)), (.val (.int p2)), (.val (.ref w_GREATER)), (.val (.int (p1 ||| (-2147483648 : Int32)))), (.val (.int ((XT.ushr p2 (1 : Int32)) ||| (1 : Int32)))), .unset] [])
    refine Owes.by (fun _ kq => XS.aloadN X12.here hx rfl (hb hby at_23) rfl rfl kq) ?_
    show Owes p e below s (QL n0) room_1.cells room_1.slots T12 (mkF m 24 #[(.val (.int p0)), (.val (.int p1)), (.val (.int p2)), (.val (.ref w_GREATER)), (.val (.int (p1 ||| (-2147483648 : Int32)))), (.val (.int ((XT.ushr p2 (1 : Int32)) ||| (1 : Int32)))), .unset] [(.ref w_GREATER)])
    refine Owes.by (fun _ kq => XS.iload X12.here hx rfl (hb hby at_24) rfl kq) ?_
    show Owes p e below s (QL n0) room_1.cells room_1.slots T12 (mkF m 26 #[(.val (.int p0)), (.val (.int p1)), (.val (.int p2)), (.val (.ref w_GREATER)), (.val (.int (p1 ||| (-2147483648 : Int32)))), (.val (.int ((XT.ushr p2 (1 : Int32)) ||| (1 : Int32)))), .unset] [(.int (p1 ||| (-2147483648 : Int32))), (.ref w_GREATER)])
    obtain ⟨cq13, kq13, qa13, qb13, qc13⟩ := isOf hZ e12 E_GREATER
    obtain ⟨_, _, ⟨T13, L13, k13, n13⟩, -, X13, ⟨Lc13, hQ13, l13, y13, z13⟩, st13⟩ := X12.virtualBack hx (y := (⟨"dev/tagwarden/condition/OrderedValues$Relation", "holds", "(I)Z"⟩ : MethodName)) (z := (⟨"dev/tagwarden/condition/OrderedValues$Relation", "holds", "(I)Z"⟩ : MethodName)) hown (mvT hZ (hw _ (List.mem_of_getElem? (i := 9) rfl))) (mvT hZ (hw _ (List.mem_of_getElem? (i := 10) rfl))) (notFace_of_selects (args := #[]) (mvT hZ (hw _ (List.mem_of_getElem? (i := 12) rfl)))) (mvT hZ (hw _ (List.mem_of_getElem? (i := 12) rfl))) (mvT hZ (hw _ (List.mem_of_getElem? (i := 11) rfl))) (by decide) (backOf (W := 0) (rmH l Z a0 hw [] w_GREATER (p1 ||| (-2147483648 : Int32)) 3 0 h0 n0 Z0 F_GREATER E_GREATER (by decide) (own_neg3 p1)) hZ (hw _ (List.mem_of_getElem? (i := 13) rfl)) (hw _ (List.mem_of_getElem? (i := 6) rfl)) (by decide) (by decide)) qa13 qc13 (g := (mkF m 26 #[(.val (.int p0)), (.val (.int p1)), (.val (.int p2)), (.val (.ref w_GREATER)), (.val (.int (p1 ||| (-2147483648 : Int32)))), (.val (.int ((XT.ushr p2 (1 : Int32)) ||| (1 : Int32)))), .unset] [(.int (p1 ||| (-2147483648 : Int32))), (.ref w_GREATER)])) rfl (by rw [hml]; rfl) (Steps.refl _) (argsL := [(.int (p1 ||| (-2147483648 : Int32)))]) (rest := []) (lenOf pd_I_Z rfl) rfl (by show 2 * 0 + _ ≤ _; exact Nat.le_of_eq rfl) (hb hby at_26) (fun _ _ => ⟨rfl, e12, (by decide : 0 + 0 ≤ _), (by decide : 0 + 0 ≤ _)⟩)
    dsimp only [Pt.U, Pt.locs, Pt.cells, Pt.slots] at X13 l13 y13 z13 st13 hQ13
    subst l13 y13 z13
    obtain ⟨rfl, rfl, e13⟩ := hQ13
    try rw [List.append_nil] at X13
    refine Owes.by (fun _ kq => st13.trans kq) ?_
    show Owes p e below s (QL n0) room_1.cells room_1.slots T13 (mkF m 29 #[(.val (.int p0)), (.val (.int p1)), (.val (.int p2)), (.val (.ref w_GREATER)), (.val (.int (p1 ||| (-2147483648 : Int32)))), (.val (.int ((XT.ushr p2 (1 : Int32)) ||| (1 : Int32)))), .unset] [(.int (0 : Int32))])
    refine Owes.by (fun _ kq => XS.ifYes X13.here hx rfl (pc0 := 29) (pc' := 45) rfl (hb hby at_29) rfl (XT.i0_eq_t (by decide)) (by decide) (by decide) kq) ?_
    show Owes p e below s (QL n0) room_1.cells room_1.slots T13 (mkF m 45 #[(.val (.int p0)), (.val (.int p1)), (.val (.int p2)), (.val (.ref w_GREATER)), (.val (.int (p1 ||| (-2147483648 : Int32)))), (.val (.int ((XT.ushr p2 (1 : Int32)) ||| (1 : Int32)))), .unset] [])
    refine Owes.by (fun _ kq => XS.iconst X13.here hx rfl (hb hby at_45) kq) ?_
    show Owes p e below s (QL n0) room_1.cells room_1.slots T13 (mkF m 46 #[(.val (.int p0)), (.val (.int p1)), (.val (.int p2)), (.val (.ref w_GREATER)), (.val (.int (p1 ||| (-2147483648 : Int32)))), (.val (.int ((XT.ushr p2 (1 : Int32)) ||| (1 : Int32)))), .unset] [(.int (0 : Int32))])
    refine Owes.by (fun _ kq => XS.istore X13.here hx rfl (hb hby at_46) rfl (l' := #[(.val (.int p0)), (.val (.int p1)), (.val (.int p2)), (.val (.ref w_GREATER)), (.val (.int (p1 ||| (-2147483648 : Int32)))), (.val (.int ((XT.ushr p2 (1 : Int32)) ||| (1 : Int32)))), (.val (.int (0 : Int32)))]) rfl kq) ?_
    show Owes p e below s (QL n0) room_1.cells room_1.slots T13 (mkF m 48 #[(.val (.int p0)), (.val (.int p1)), (.val (.int p2)), (.val (.ref w_GREATER)), (.val (.int (p1 ||| (-2147483648 : Int32)))), (.val (.int ((XT.ushr p2 (1 : Int32)) ||| (1 : Int32)))), (.val (.int (0 : Int32)))] [])
    refine Owes.by (fun _ kq => XS.aloadN X13.here hx rfl (hb hby at_48) rfl rfl kq) ?_
    show Owes p e below s (QL n0) room_1.cells room_1.slots T13 (mkF m 49 #[(.val (.int p0)), (.val (.int p1)), (.val (.int p2)), (.val (.ref w_GREATER)), (.val (.int (p1 ||| (-2147483648 : Int32)))), (.val (.int ((XT.ushr p2 (1 : Int32)) ||| (1 : Int32)))), (.val (.int (0 : Int32)))] [(.ref w_GREATER)])
    obtain ⟨cq14, kq14, qa14, qb14, qc14⟩ := isOf hZ e13 E_GREATER
    obtain ⟨_, _, ⟨T14, L14, k14, n14⟩, -, X14, ⟨Lc14, hQ14, l14, y14, z14⟩, st14⟩ := X13.virtualBack hx (y := (⟨"dev/tagwarden/condition/OrderedValues$Relation", "below", "()Z"⟩ : MethodName)) (z := (⟨"dev/tagwarden/condition/OrderedValues$Relation", "below", "()Z"⟩ : MethodName)) hown (mvT hZ (hw _ (List.mem_of_getElem? (i := 23) rfl))) (mvT hZ (hw _ (List.mem_of_getElem? (i := 24) rfl))) (notFace_of_selects (args := #[]) (mvT hZ (hw _ (List.mem_of_getElem? (i := 26) rfl)))) (mvT hZ (hw _ (List.mem_of_getElem? (i := 26) rfl))) (mvT hZ (hw _ (List.mem_of_getElem? (i := 25) rfl))) (by decide) (backOf (W := 0) (rmB l Z a0 hw [] w_GREATER w_LESS w_LESS_OR_EQUAL 0 h0 n0 Z0 S_LESS S_LESS_OR_EQUAL (by simp [n_GREATER_LESS, n_GREATER_LESS_OR_EQUAL])) hZ (hw _ (List.mem_of_getElem? (i := 27) rfl)) (hw _ (List.mem_of_getElem? (i := 6) rfl)) (by decide) (by decide)) qa14 qc14 (g := (mkF m 49 #[(.val (.int p0)), (.val (.int p1)), (.val (.int p2)), (.val (.ref w_GREATER)), (.val (.int (p1 ||| (-2147483648 : Int32)))), (.val (.int ((XT.ushr p2 (1 : Int32)) ||| (1 : Int32)))), (.val (.int (0 : Int32)))] [(.ref w_GREATER)])) rfl (by rw [hml]; rfl) (Steps.refl _) (argsL := []) (rest := []) (lenOf pd_Z rfl) rfl (by show 2 * 0 + _ ≤ _; exact Nat.le_of_eq rfl) (hb hby at_49) (fun _ _ => ⟨rfl, e13, (by decide : 0 + 0 ≤ _), (by decide : 0 + 0 ≤ _)⟩)
    dsimp only [Pt.U, Pt.locs, Pt.cells, Pt.slots] at X14 l14 y14 z14 st14 hQ14
    subst l14 y14 z14
    obtain ⟨rfl, rfl, e14⟩ := hQ14
    try rw [List.append_nil] at X14
    refine Owes.by (fun _ kq => st14.trans kq) ?_
    show Owes p e below s (QL n0) room_1.cells room_1.slots T14 (mkF m 52 #[(.val (.int p0)), (.val (.int p1)), (.val (.int p2)), (.val (.ref w_GREATER)), (.val (.int (p1 ||| (-2147483648 : Int32)))), (.val (.int ((XT.ushr p2 (1 : Int32)) ||| (1 : Int32)))), (.val (.int (0 : Int32)))] [(.int (0 : Int32))])
    refine Owes.by (fun _ kq => XS.iload X14.here hx rfl (hb hby at_52) rfl kq) ?_
    show Owes p e below s (QL n0) room_1.cells room_1.slots T14 (mkF m 54 #[(.val (.int p0)), (.val (.int p1)), (.val (.int p2)), (.val (.ref w_GREATER)), (.val (.int (p1 ||| (-2147483648 : Int32)))), (.val (.int ((XT.ushr p2 (1 : Int32)) ||| (1 : Int32)))), (.val (.int (0 : Int32)))] [(.int (0 : Int32)), (.int (0 : Int32))])
    refine Owes.by (fun _ kq => XS.icmpNo X14.here hx rfl (hb hby at_54) rfl (XT.ii_ne_f (by decide)) kq) ?_
    show Owes p e below s (QL n0) room_1.cells room_1.slots T14 (mkF m 57 #[(.val (.int p0)), (.val (.int p1)), (.val (.int p2)), (.val (.ref w_GREATER)), (.val (.int (p1 ||| (-2147483648 : Int32)))), (.val (.int ((XT.ushr p2 (1 : Int32)) ||| (1 : Int32)))), (.val (.int (0 : Int32)))] [])
    refine Owes.by (fun _ kq => XS.iconst X14.here hx rfl (hb hby at_57) kq) ?_
    show Owes p e below s (QL n0) room_1.cells room_1.slots T14 (mkF m 58 #[(.val (.int p0)), (.val (.int p1)), (.val (.int p2)), (.val (.ref w_GREATER)), (.val (.int (p1 ||| (-2147483648 : Int32)))), (.val (.int ((XT.ushr p2 (1 : Int32)) ||| (1 : Int32)))), (.val (.int (0 : Int32)))] [(.int (1 : Int32))])
    refine Owes.by (fun _ kq => XS.goto X14.here hx rfl (pc0 := 58) (pc' := 62) rfl (hb hby at_58) (by decide) (by decide) kq) ?_
    show Owes p e below s (QL n0) room_1.cells room_1.slots T14 (mkF m 62 #[(.val (.int p0)), (.val (.int p1)), (.val (.int p2)), (.val (.ref w_GREATER)), (.val (.int (p1 ||| (-2147483648 : Int32)))), (.val (.int ((XT.ushr p2 (1 : Int32)) ||| (1 : Int32)))), (.val (.int (0 : Int32)))] [(.int (1 : Int32))])
    refine Owes.ret X14 (v := some (.int (1 : Int32))) (fun h => by rw [Bd.returns] at h; cases h) hlk ?_ (by decide) (by decide) (fun fs hr => retN X14 hx (t := .boolean) Bd.returns (by simp) (hb hby at_62) hr)
    rw [e14]
    exact ⟨rfl, N0⟩
  · rw [q]
    show Owes p e below s (QL n0) room_1.cells room_1.slots s₁ (mkF m 6 #[(.val (.int p0)), (.val (.int p1)), (.val (.int p2)), .unset, .unset, .unset, .unset] [(.int (4 : Int32))])
    obtain ⟨_, _, ⟨T15, L15, k15, n15⟩, -, X15, ⟨Lc15, hQ15, l15, y15, z15⟩, st15⟩ := Jvm.LawKit.callS X0 hx (y := (⟨"dev/tagwarden/condition/RelationBelowPinLaw", "pick", "(I)Ldev/tagwarden/condition/OrderedValues$Relation;"⟩ : MethodName)) hown (mvT hZ (hw _ (List.mem_of_getElem? (i := 1) rfl))) (mvT hZ (hw _ (List.mem_of_getElem? (i := 2) rfl))) (mvT hZ (hw _ (List.mem_of_getElem? (i := 3) rfl))) (mvT hZ (hw _ (List.mem_of_getElem? (i := 4) rfl))) (by decide) (backOf (W := 0) (rmP l Z a0 hw [] 4 w_EQUAL w_LESS w_LESS_OR_EQUAL w_GREATER w_GREATER_OR_EQUAL w_GREATER_OR_EQUAL h0 n0 Z0 S_EQUAL S_LESS S_LESS_OR_EQUAL S_GREATER S_GREATER_OR_EQUAL (by simp +decide)) hZ (hw _ (List.mem_of_getElem? (i := 4) rfl)) (hw _ (List.mem_of_getElem? (i := 3) rfl)) (by decide) (by decide)) (g := (mkF m 6 #[(.val (.int p0)), (.val (.int p1)), (.val (.int p2)), .unset, .unset, .unset, .unset] [(.int (4 : Int32))])) rfl (by rw [hml]; rfl) (argsL := [(.int (4 : Int32))]) (rest := []) (lenOf pd_I_Ldev_tagwarden_condition_OrderedValues_Relation rfl) rfl (by show 2 * 0 + _ ≤ _; exact Nat.le_of_eq rfl) (hb hby at_6) (fun _ _ => ⟨rfl, e0, (by decide : 0 + 0 ≤ _), (by decide : 0 + 0 ≤ _)⟩)
    dsimp only [Pt.U, Pt.locs, Pt.cells, Pt.slots] at X15 l15 y15 z15 st15 hQ15
    subst l15 y15 z15
    obtain ⟨rfl, rfl, e15⟩ := hQ15
    try rw [List.append_nil] at X15
    refine Owes.by st15 ?_
    show Owes p e below s (QL n0) room_1.cells room_1.slots T15 (mkF m 9 #[(.val (.int p0)), (.val (.int p1)), (.val (.int p2)), .unset, .unset, .unset, .unset] [(.ref w_GREATER_OR_EQUAL)])
    refine Owes.by (fun _ kq => XS.astoreN X15.here hx rfl (hb hby at_9) rfl rfl (l' := #[(.val (.int p0)), (.val (.int p1)), (.val (.int p2)), (.val (.ref w_GREATER_OR_EQUAL)), .unset, .unset, .unset]) rfl kq) ?_
    show Owes p e below s (QL n0) room_1.cells room_1.slots T15 (mkF m 10 #[(.val (.int p0)), (.val (.int p1)), (.val (.int p2)), (.val (.ref w_GREATER_OR_EQUAL)), .unset, .unset, .unset] [])
    refine Owes.by (fun _ kq => XS.iloadN X15.here hx rfl (hb hby at_10) rfl kq) ?_
    show Owes p e below s (QL n0) room_1.cells room_1.slots T15 (mkF m 11 #[(.val (.int p0)), (.val (.int p1)), (.val (.int p2)), (.val (.ref w_GREATER_OR_EQUAL)), .unset, .unset, .unset] [(.int p1)])
    refine Owes.by (fun tq kq => X15.ldcInt hx hown (mvT hZ (hw _ (List.mem_of_getElem? (i := 8) rfl))) (g := (mkF m 11 #[(.val (.int p0)), (.val (.int p1)), (.val (.int p2)), (.val (.ref w_GREATER_OR_EQUAL)), .unset, .unset, .unset] [(.int p1)])) rfl (hb hby at_11) tq kq) ?_
    show Owes p e below s (QL n0) room_1.cells room_1.slots T15 (mkF m 13 #[(.val (.int p0)), (.val (.int p1)), (.val (.int p2)), (.val (.ref w_GREATER_OR_EQUAL)), .unset, .unset, .unset] [(.int (-2147483648 : Int32)), (.int p1)])
    refine Owes.by (fun _ kq => XT.ior X15.here hx rfl (hb hby at_13) rfl kq) ?_
    show Owes p e below s (QL n0) room_1.cells room_1.slots T15 (mkF m 14 #[(.val (.int p0)), (.val (.int p1)), (.val (.int p2)), (.val (.ref w_GREATER_OR_EQUAL)), .unset, .unset, .unset] [(.int (p1 ||| (-2147483648 : Int32)))])
    refine Owes.by (fun _ kq => XS.istore X15.here hx rfl (hb hby at_14) rfl (l' := #[(.val (.int p0)), (.val (.int p1)), (.val (.int p2)), (.val (.ref w_GREATER_OR_EQUAL)), (.val (.int (p1 ||| (-2147483648 : Int32)))), .unset, .unset]) rfl kq) ?_
    show Owes p e below s (QL n0) room_1.cells room_1.slots T15 (mkF m 16 #[(.val (.int p0)), (.val (.int p1)), (.val (.int p2)), (.val (.ref w_GREATER_OR_EQUAL)), (.val (.int (p1 ||| (-2147483648 : Int32)))), .unset, .unset] [])
    refine Owes.by (fun _ kq => XS.iloadN X15.here hx rfl (hb hby at_16) rfl kq) ?_
    show Owes p e below s (QL n0) room_1.cells room_1.slots T15 (mkF m 17 #[(.val (.int p0)), (.val (.int p1)), (.val (.int p2)), (.val (.ref w_GREATER_OR_EQUAL)), (.val (.int (p1 ||| (-2147483648 : Int32)))), .unset, .unset] [(.int p2)])
    refine Owes.by (fun _ kq => XS.iconst X15.here hx rfl (hb hby at_17) kq) ?_
    show Owes p e below s (QL n0) room_1.cells room_1.slots T15 (mkF m 18 #[(.val (.int p0)), (.val (.int p1)), (.val (.int p2)), (.val (.ref w_GREATER_OR_EQUAL)), (.val (.int (p1 ||| (-2147483648 : Int32)))), .unset, .unset] [(.int (1 : Int32)), (.int p2)])
    refine Owes.by (fun _ kq => XT.iushr X15.here hx rfl (hb hby at_18) rfl kq) ?_
    show Owes p e below s (QL n0) room_1.cells room_1.slots T15 (mkF m 19 #[(.val (.int p0)), (.val (.int p1)), (.val (.int p2)), (.val (.ref w_GREATER_OR_EQUAL)), (.val (.int (p1 ||| (-2147483648 : Int32)))), .unset, .unset] [(.int (XT.ushr p2 (1 : Int32)))])
    refine Owes.by (fun _ kq => XS.iconst X15.here hx rfl (hb hby at_19) kq) ?_
    show Owes p e below s (QL n0) room_1.cells room_1.slots T15 (mkF m 20 #[(.val (.int p0)), (.val (.int p1)), (.val (.int p2)), (.val (.ref w_GREATER_OR_EQUAL)), (.val (.int (p1 ||| (-2147483648 : Int32)))), .unset, .unset] [(.int (1 : Int32)), (.int (XT.ushr p2 (1 : Int32)))])
    refine Owes.by (fun _ kq => XT.ior X15.here hx rfl (hb hby at_20) rfl kq) ?_
    show Owes p e below s (QL n0) room_1.cells room_1.slots T15 (mkF m 21 #[(.val (.int p0)), (.val (.int p1)), (.val (.int p2)), (.val (.ref w_GREATER_OR_EQUAL)), (.val (.int (p1 ||| (-2147483648 : Int32)))), .unset, .unset] [(.int ((XT.ushr p2 (1 : Int32)) ||| (1 : Int32)))])
    refine Owes.by (fun _ kq => XS.istore X15.here hx rfl (hb hby at_21) rfl (l' := #[(.val (.int p0)), (.val (.int p1)), (.val (.int p2)), (.val (.ref w_GREATER_OR_EQUAL)), (.val (.int (p1 ||| (-2147483648 : Int32)))), (.val (.int ((XT.ushr p2 (1 : Int32)) ||| (1 : Int32)))), .unset]) rfl kq) ?_
    show Owes p e below s (QL n0) room_1.cells room_1.slots T15 (mkF m 23 #[(.val (.int p0)), (.val (.int p1)), (.val (.int p2)), (.val (.ref w_GREATER_OR_EQUAL)), (.val (.int (p1 ||| (-2147483648 : Int32)))), (.val (.int ((XT.ushr p2 (1 : Int32)) ||| (1 : Int32)))), .unset] [])
    refine Owes.by (fun _ kq => XS.aloadN X15.here hx rfl (hb hby at_23) rfl rfl kq) ?_
    show Owes p e below s (QL n0) room_1.cells room_1.slots T15 (mkF m 24 #[(.val (.int p0)), (.val (.int p1)), (.val (.int p2)), (.val (.ref w_GREATER_OR_EQUAL)), (.val (.int (p1 ||| (-2147483648 : Int32)))), (.val (.int ((XT.ushr p2 (1 : Int32)) ||| (1 : Int32)))), .unset] [(.ref w_GREATER_OR_EQUAL)])
    refine Owes.by (fun _ kq => XS.iload X15.here hx rfl (hb hby at_24) rfl kq) ?_
    show Owes p e below s (QL n0) room_1.cells room_1.slots T15 (mkF m 26 #[(.val (.int p0)), (.val (.int p1)), (.val (.int p2)), (.val (.ref w_GREATER_OR_EQUAL)), (.val (.int (p1 ||| (-2147483648 : Int32)))), (.val (.int ((XT.ushr p2 (1 : Int32)) ||| (1 : Int32)))), .unset] [(.int (p1 ||| (-2147483648 : Int32))), (.ref w_GREATER_OR_EQUAL)])
    obtain ⟨cq16, kq16, qa16, qb16, qc16⟩ := isOf hZ e15 E_GREATER_OR_EQUAL
    obtain ⟨_, _, ⟨T16, L16, k16, n16⟩, -, X16, ⟨Lc16, hQ16, l16, y16, z16⟩, st16⟩ := X15.virtualBack hx (y := (⟨"dev/tagwarden/condition/OrderedValues$Relation", "holds", "(I)Z"⟩ : MethodName)) (z := (⟨"dev/tagwarden/condition/OrderedValues$Relation", "holds", "(I)Z"⟩ : MethodName)) hown (mvT hZ (hw _ (List.mem_of_getElem? (i := 9) rfl))) (mvT hZ (hw _ (List.mem_of_getElem? (i := 10) rfl))) (notFace_of_selects (args := #[]) (mvT hZ (hw _ (List.mem_of_getElem? (i := 12) rfl)))) (mvT hZ (hw _ (List.mem_of_getElem? (i := 12) rfl))) (mvT hZ (hw _ (List.mem_of_getElem? (i := 11) rfl))) (by decide) (backOf (W := 0) (rmH l Z a0 hw [] w_GREATER_OR_EQUAL (p1 ||| (-2147483648 : Int32)) 4 0 h0 n0 Z0 F_GREATER_OR_EQUAL E_GREATER_OR_EQUAL (by decide) (own_neg4 p1)) hZ (hw _ (List.mem_of_getElem? (i := 13) rfl)) (hw _ (List.mem_of_getElem? (i := 6) rfl)) (by decide) (by decide)) qa16 qc16 (g := (mkF m 26 #[(.val (.int p0)), (.val (.int p1)), (.val (.int p2)), (.val (.ref w_GREATER_OR_EQUAL)), (.val (.int (p1 ||| (-2147483648 : Int32)))), (.val (.int ((XT.ushr p2 (1 : Int32)) ||| (1 : Int32)))), .unset] [(.int (p1 ||| (-2147483648 : Int32))), (.ref w_GREATER_OR_EQUAL)])) rfl (by rw [hml]; rfl) (Steps.refl _) (argsL := [(.int (p1 ||| (-2147483648 : Int32)))]) (rest := []) (lenOf pd_I_Z rfl) rfl (by show 2 * 0 + _ ≤ _; exact Nat.le_of_eq rfl) (hb hby at_26) (fun _ _ => ⟨rfl, e15, (by decide : 0 + 0 ≤ _), (by decide : 0 + 0 ≤ _)⟩)
    dsimp only [Pt.U, Pt.locs, Pt.cells, Pt.slots] at X16 l16 y16 z16 st16 hQ16
    subst l16 y16 z16
    obtain ⟨rfl, rfl, e16⟩ := hQ16
    try rw [List.append_nil] at X16
    refine Owes.by (fun _ kq => st16.trans kq) ?_
    show Owes p e below s (QL n0) room_1.cells room_1.slots T16 (mkF m 29 #[(.val (.int p0)), (.val (.int p1)), (.val (.int p2)), (.val (.ref w_GREATER_OR_EQUAL)), (.val (.int (p1 ||| (-2147483648 : Int32)))), (.val (.int ((XT.ushr p2 (1 : Int32)) ||| (1 : Int32)))), .unset] [(.int (0 : Int32))])
    refine Owes.by (fun _ kq => XS.ifYes X16.here hx rfl (pc0 := 29) (pc' := 45) rfl (hb hby at_29) rfl (XT.i0_eq_t (by decide)) (by decide) (by decide) kq) ?_
    show Owes p e below s (QL n0) room_1.cells room_1.slots T16 (mkF m 45 #[(.val (.int p0)), (.val (.int p1)), (.val (.int p2)), (.val (.ref w_GREATER_OR_EQUAL)), (.val (.int (p1 ||| (-2147483648 : Int32)))), (.val (.int ((XT.ushr p2 (1 : Int32)) ||| (1 : Int32)))), .unset] [])
    refine Owes.by (fun _ kq => XS.iconst X16.here hx rfl (hb hby at_45) kq) ?_
    show Owes p e below s (QL n0) room_1.cells room_1.slots T16 (mkF m 46 #[(.val (.int p0)), (.val (.int p1)), (.val (.int p2)), (.val (.ref w_GREATER_OR_EQUAL)), (.val (.int (p1 ||| (-2147483648 : Int32)))), (.val (.int ((XT.ushr p2 (1 : Int32)) ||| (1 : Int32)))), .unset] [(.int (0 : Int32))])
    refine Owes.by (fun _ kq => XS.istore X16.here hx rfl (hb hby at_46) rfl (l' := #[(.val (.int p0)), (.val (.int p1)), (.val (.int p2)), (.val (.ref w_GREATER_OR_EQUAL)), (.val (.int (p1 ||| (-2147483648 : Int32)))), (.val (.int ((XT.ushr p2 (1 : Int32)) ||| (1 : Int32)))), (.val (.int (0 : Int32)))]) rfl kq) ?_
    show Owes p e below s (QL n0) room_1.cells room_1.slots T16 (mkF m 48 #[(.val (.int p0)), (.val (.int p1)), (.val (.int p2)), (.val (.ref w_GREATER_OR_EQUAL)), (.val (.int (p1 ||| (-2147483648 : Int32)))), (.val (.int ((XT.ushr p2 (1 : Int32)) ||| (1 : Int32)))), (.val (.int (0 : Int32)))] [])
    refine Owes.by (fun _ kq => XS.aloadN X16.here hx rfl (hb hby at_48) rfl rfl kq) ?_
    show Owes p e below s (QL n0) room_1.cells room_1.slots T16 (mkF m 49 #[(.val (.int p0)), (.val (.int p1)), (.val (.int p2)), (.val (.ref w_GREATER_OR_EQUAL)), (.val (.int (p1 ||| (-2147483648 : Int32)))), (.val (.int ((XT.ushr p2 (1 : Int32)) ||| (1 : Int32)))), (.val (.int (0 : Int32)))] [(.ref w_GREATER_OR_EQUAL)])
    obtain ⟨cq17, kq17, qa17, qb17, qc17⟩ := isOf hZ e16 E_GREATER_OR_EQUAL
    obtain ⟨_, _, ⟨T17, L17, k17, n17⟩, -, X17, ⟨Lc17, hQ17, l17, y17, z17⟩, st17⟩ := X16.virtualBack hx (y := (⟨"dev/tagwarden/condition/OrderedValues$Relation", "below", "()Z"⟩ : MethodName)) (z := (⟨"dev/tagwarden/condition/OrderedValues$Relation", "below", "()Z"⟩ : MethodName)) hown (mvT hZ (hw _ (List.mem_of_getElem? (i := 23) rfl))) (mvT hZ (hw _ (List.mem_of_getElem? (i := 24) rfl))) (notFace_of_selects (args := #[]) (mvT hZ (hw _ (List.mem_of_getElem? (i := 26) rfl)))) (mvT hZ (hw _ (List.mem_of_getElem? (i := 26) rfl))) (mvT hZ (hw _ (List.mem_of_getElem? (i := 25) rfl))) (by decide) (backOf (W := 0) (rmB l Z a0 hw [] w_GREATER_OR_EQUAL w_LESS w_LESS_OR_EQUAL 0 h0 n0 Z0 S_LESS S_LESS_OR_EQUAL (by simp [n_GREATER_OR_EQUAL_LESS, n_GREATER_OR_EQUAL_LESS_OR_EQUAL])) hZ (hw _ (List.mem_of_getElem? (i := 27) rfl)) (hw _ (List.mem_of_getElem? (i := 6) rfl)) (by decide) (by decide)) qa17 qc17 (g := (mkF m 49 #[(.val (.int p0)), (.val (.int p1)), (.val (.int p2)), (.val (.ref w_GREATER_OR_EQUAL)), (.val (.int (p1 ||| (-2147483648 : Int32)))), (.val (.int ((XT.ushr p2 (1 : Int32)) ||| (1 : Int32)))), (.val (.int (0 : Int32)))] [(.ref w_GREATER_OR_EQUAL)])) rfl (by rw [hml]; rfl) (Steps.refl _) (argsL := []) (rest := []) (lenOf pd_Z rfl) rfl (by show 2 * 0 + _ ≤ _; exact Nat.le_of_eq rfl) (hb hby at_49) (fun _ _ => ⟨rfl, e16, (by decide : 0 + 0 ≤ _), (by decide : 0 + 0 ≤ _)⟩)
    dsimp only [Pt.U, Pt.locs, Pt.cells, Pt.slots] at X17 l17 y17 z17 st17 hQ17
    subst l17 y17 z17
    obtain ⟨rfl, rfl, e17⟩ := hQ17
    try rw [List.append_nil] at X17
    refine Owes.by (fun _ kq => st17.trans kq) ?_
    show Owes p e below s (QL n0) room_1.cells room_1.slots T17 (mkF m 52 #[(.val (.int p0)), (.val (.int p1)), (.val (.int p2)), (.val (.ref w_GREATER_OR_EQUAL)), (.val (.int (p1 ||| (-2147483648 : Int32)))), (.val (.int ((XT.ushr p2 (1 : Int32)) ||| (1 : Int32)))), (.val (.int (0 : Int32)))] [(.int (0 : Int32))])
    refine Owes.by (fun _ kq => XS.iload X17.here hx rfl (hb hby at_52) rfl kq) ?_
    show Owes p e below s (QL n0) room_1.cells room_1.slots T17 (mkF m 54 #[(.val (.int p0)), (.val (.int p1)), (.val (.int p2)), (.val (.ref w_GREATER_OR_EQUAL)), (.val (.int (p1 ||| (-2147483648 : Int32)))), (.val (.int ((XT.ushr p2 (1 : Int32)) ||| (1 : Int32)))), (.val (.int (0 : Int32)))] [(.int (0 : Int32)), (.int (0 : Int32))])
    refine Owes.by (fun _ kq => XS.icmpNo X17.here hx rfl (hb hby at_54) rfl (XT.ii_ne_f (by decide)) kq) ?_
    show Owes p e below s (QL n0) room_1.cells room_1.slots T17 (mkF m 57 #[(.val (.int p0)), (.val (.int p1)), (.val (.int p2)), (.val (.ref w_GREATER_OR_EQUAL)), (.val (.int (p1 ||| (-2147483648 : Int32)))), (.val (.int ((XT.ushr p2 (1 : Int32)) ||| (1 : Int32)))), (.val (.int (0 : Int32)))] [])
    refine Owes.by (fun _ kq => XS.iconst X17.here hx rfl (hb hby at_57) kq) ?_
    show Owes p e below s (QL n0) room_1.cells room_1.slots T17 (mkF m 58 #[(.val (.int p0)), (.val (.int p1)), (.val (.int p2)), (.val (.ref w_GREATER_OR_EQUAL)), (.val (.int (p1 ||| (-2147483648 : Int32)))), (.val (.int ((XT.ushr p2 (1 : Int32)) ||| (1 : Int32)))), (.val (.int (0 : Int32)))] [(.int (1 : Int32))])
    refine Owes.by (fun _ kq => XS.goto X17.here hx rfl (pc0 := 58) (pc' := 62) rfl (hb hby at_58) (by decide) (by decide) kq) ?_
    show Owes p e below s (QL n0) room_1.cells room_1.slots T17 (mkF m 62 #[(.val (.int p0)), (.val (.int p1)), (.val (.int p2)), (.val (.ref w_GREATER_OR_EQUAL)), (.val (.int (p1 ||| (-2147483648 : Int32)))), (.val (.int ((XT.ushr p2 (1 : Int32)) ||| (1 : Int32)))), (.val (.int (0 : Int32)))] [(.int (1 : Int32))])
    refine Owes.ret X17 (v := some (.int (1 : Int32))) (fun h => by rw [Bd.returns] at h; cases h) hlk ?_ (by decide) (by decide) (fun fs hr => retN X17 hx (t := .boolean) Bd.returns (by simp) (hb hby at_62) hr)
    rw [e17]
    exact ⟨rfl, N0⟩
set_option maxRecDepth 65536 in
set_option maxHeartbeats 40000000 in
theorem comes_1 {Post : Tables → Env → Array Value → State → Outcome → State → Prop} (hpost : ∀ tb e args s v u, (limb_1_1.after args s (.returned v) u = true ∧ limb_1_2.after args s (.returned v) u = true ∧ True) → FrameEnd s (.returned v) u (Jvm.fieldLocs frame_1_writes args s ++ Jvm.arrayLocs frame_1_arrays args s ++ Jvm.staticLocs frame_1_statics s) 0 0 → Post tb e args s (.returned v) u) :
    ArmFor flags0 classFile x code maxLocals ret World_1 tables_1 room_1 Calls_1 rest_1 Pre_1 Post := by
  intro l hfl _ _ p e ha hc hk s m args below hf hA hF happ hP
  obtain ⟨hcalls, hrest, hpre⟩ := hP
  obtain ⟨-, -, -, hnamed, -, -, -, hat⟩ := (Spec.applies_iff hf).mp happ
  obtain ⟨hg, hn⟩ := and_e (Cond.before_iff.mp (show (Jvm.Cond.and given_1 narrow_1).before args s = true from hpre))
  obtain ⟨hgl, hgr⟩ := and_e hg
  obtain ⟨hgrl, hgrr⟩ := and_e hgr
  obtain ⟨hgrrl, hgrrr⟩ := and_e hgrr
  obtain ⟨w0, w1, w2, rfl⟩ : ∃ w0 w1 w2 : Value, args = #[w0, w1, w2] := by
    have hs : args.size = 3 := by simpa [Cond.value, given_1] using hgl
    obtain ⟨L⟩ := args
    match L, hs with
    | [w0, w1, w2], _ => exact ⟨w0, w1, w2, rfl⟩
  have hw := fun d (hd : d ∈ tables_1) => atoms_spec (ws := Jvm.Cond.code x code maxLocals ret :: tables_1) hat d (List.mem_cons_of_mem _ hd)
  have hfit : Fit s := fun {y c} hc i hi => by
    obtain ⟨ha, rfl⟩ := Array.getElem?_eq_some_iff.mp hc
    have q := List.all_eq_true.mp ((Array.all_eq_true_iff_forall_mem.mp hF) _ (Array.getElem_mem ha)) i (List.mem_range.mpr hi)
    simpa [Array.getElem?_eq_getElem hi] using q
  obtain ⟨i0, ei0⟩ := is_v hgrl
  obtain rfl : w0 = (.int i0) := Option.some.inj ei0
  obtain ⟨i1, ei1⟩ := is_v hgrrl
  obtain rfl : w1 = (.int i1) := Option.some.inj ei1
  obtain ⟨i2, ei2⟩ := is_v hgrrr
  obtain rfl : w2 = (.int i2) := Option.some.inj ei2
  obtain ⟨hnl, hnr⟩ := and_e hn
  obtain ⟨hnrl, hnrr⟩ := and_e hnr
  obtain ⟨hnrrl, hnrrr⟩ := and_e hnrr
  obtain ⟨hnrrrl, hnrrrr⟩ := and_e hnrrr
  obtain ⟨hnrrrrl, hnrrrrr⟩ := and_e hnrrrr
  obtain ⟨hnrrrrrl, hnrrrrrr⟩ := and_e hnrrrrr
  obtain ⟨hnrrrrrrl, hnrrrrrrr⟩ := and_e hnrrrrrr
  obtain ⟨hnrrrrrrrl, hnrrrrrrrr⟩ := and_e hnrrrrrrr
  obtain ⟨hnrrrrrrrrl, hnrrrrrrrrr⟩ := and_e hnrrrrrrrr
  obtain ⟨w_EQUAL, v_EQUAL⟩ := exa_v hnl
  have E_EQUAL := Exa.start v_EQUAL hnl
  have S_EQUAL := Sta.start v_EQUAL (Or.inr ⟨(hw _ (List.mem_of_getElem? (i := 6) rfl)), (hw _ (List.mem_of_getElem? (i := 7) rfl))⟩)
  obtain ⟨w_LESS, v_LESS⟩ := exa_v hnrrl
  have E_LESS := Exa.start v_LESS hnrrl
  have S_LESS := Sta.start v_LESS (Or.inr ⟨(hw _ (List.mem_of_getElem? (i := 6) rfl)), (hw _ (List.mem_of_getElem? (i := 29) rfl))⟩)
  obtain ⟨w_LESS_OR_EQUAL, v_LESS_OR_EQUAL⟩ := exa_v hnrrrrl
  have E_LESS_OR_EQUAL := Exa.start v_LESS_OR_EQUAL hnrrrrl
  have S_LESS_OR_EQUAL := Sta.start v_LESS_OR_EQUAL (Or.inr ⟨(hw _ (List.mem_of_getElem? (i := 6) rfl)), (hw _ (List.mem_of_getElem? (i := 31) rfl))⟩)
  obtain ⟨w_GREATER_OR_EQUAL, v_GREATER_OR_EQUAL⟩ := exa_v hnrrrrrrl
  have E_GREATER_OR_EQUAL := Exa.start v_GREATER_OR_EQUAL hnrrrrrrl
  have S_GREATER_OR_EQUAL := Sta.start v_GREATER_OR_EQUAL (Or.inr ⟨(hw _ (List.mem_of_getElem? (i := 6) rfl)), (hw _ (List.mem_of_getElem? (i := 34) rfl))⟩)
  obtain ⟨w_GREATER, v_GREATER⟩ := exa_v hnrrrrrrrrl
  have E_GREATER := Exa.start v_GREATER hnrrrrrrrrl
  have S_GREATER := Sta.start v_GREATER (Or.inr ⟨(hw _ (List.mem_of_getElem? (i := 6) rfl)), (hw _ (List.mem_of_getElem? (i := 36) rfl))⟩)
  have F_EQUAL_ordinal := own_fld v_EQUAL hnrl
  have F_LESS_ordinal := own_fld v_LESS hnrrrl
  have F_LESS_OR_EQUAL_ordinal := own_fld v_LESS_OR_EQUAL hnrrrrrl
  have F_GREATER_OR_EQUAL_ordinal := own_fld v_GREATER_OR_EQUAL hnrrrrrrrl
  have F_GREATER_ordinal := own_fld v_GREATER hnrrrrrrrrr
  have n_EQUAL_LESS : w_EQUAL ≠ w_LESS := F_EQUAL_ordinal.ne F_LESS_ordinal (by decide)
  have n_EQUAL_LESS_OR_EQUAL : w_EQUAL ≠ w_LESS_OR_EQUAL := F_EQUAL_ordinal.ne F_LESS_OR_EQUAL_ordinal (by decide)
  have n_GREATER_LESS : w_GREATER ≠ w_LESS := F_GREATER_ordinal.ne F_LESS_ordinal (by decide)
  have n_GREATER_LESS_OR_EQUAL : w_GREATER ≠ w_LESS_OR_EQUAL := F_GREATER_ordinal.ne F_LESS_OR_EQUAL_ordinal (by decide)
  have n_GREATER_OR_EQUAL_LESS : w_GREATER_OR_EQUAL ≠ w_LESS := F_GREATER_OR_EQUAL_ordinal.ne F_LESS_ordinal (by decide)
  have n_GREATER_OR_EQUAL_LESS_OR_EQUAL : w_GREATER_OR_EQUAL ≠ w_LESS_OR_EQUAL := F_GREATER_OR_EQUAL_ordinal.ne F_LESS_OR_EQUAL_ordinal (by decide)
  obtain ⟨n, o, h1, h2, h3, _, L, rfl, ⟨rfl, N⟩, hq⟩ := rm0 l s _ hw tables_1 i0 i1 i2 w_EQUAL w_LESS w_LESS_OR_EQUAL w_GREATER w_GREATER_OR_EQUAL s.heap s.heap.size (Nat.le_refl _) S_EQUAL S_LESS S_LESS_OR_EQUAL S_GREATER S_GREATER_OR_EQUAL E_EQUAL E_LESS E_LESS_OR_EQUAL E_GREATER E_GREATER_OR_EQUAL F_EQUAL_ordinal F_LESS_ordinal F_LESS_OR_EQUAL_ordinal F_GREATER_ordinal F_GREATER_OR_EQUAL_ordinal n_EQUAL_LESS n_EQUAL_LESS_OR_EQUAL n_GREATER_LESS n_GREATER_LESS_OR_EQUAL n_GREATER_OR_EQUAL_LESS n_GREATER_OR_EQUAL_LESS_OR_EQUAL p e ha hc hk s m _ below hf ((Spec.applies_iff_loose hf).mp happ).1 ⟨rfl, State.Warmed39.refl s, rfl⟩ trivial
  refine ⟨n, _, h1, h2, h3, hpost _ _ _ _ _ _ ⟨Cond.after_iff.mpr rfl, Cond.after_iff.mpr (eq_i res_at (Term.int_eval (1)) rfl), trivial⟩ ⟨hq.1, hq.2.1, (hq.2.2.sift fun y hy => Or.inr (N y hy)).mono (by decide) (by decide)⟩⟩
theorem main_1_1 : Claimed_1_1 := comes_1 fun _ _ _ _ _ _ h hF => ⟨h.1, hF⟩
theorem main_1_2 : Claimed_1_2 := comes_1 fun _ _ _ _ _ _ h hF => ⟨h.2.1, hF⟩
end Jvm.Pilot.@@N@@
namespace Jvm.Pilot.@@N@@
open Jvm Jvm.ClassFile Sem Op Lib Jvm.Free Jvm.Stand Jvm.Pilot.@@N@@.Jvm.D
/-! MADE BY PROGRAM (witnessworld.py) out of the Statement's table words and the real class files: 12 classes; the members and pool entries that the words name. The judged class is class 1, her method 2. -/
namespace start1
open Jvm.ClassFile
def u (s : String) : CpInfo := .utf8 (stringToUtf16 s)
/-- a pool by its gaps: so many unusable entries, then the entry; so many at the end -/
def gap : Nat → List CpInfo → List CpInfo
  | 0, r => r
  | n + 1, r => .unusable :: gap n r
def poolList (es : List (Nat × CpInfo)) (last : Nat) : List CpInfo := es.foldr (fun e r => gap e.1 (e.2 :: r)) (gap last [])
def pool (es : List (Nat × CpInfo)) (last : Nat) : Array CpInfo := ⟨poolList es last⟩
def fileOf (pool : Array CpInfo) (this : Nat) (attrs : Array Attribute := #[]) (ms : Array MethodInfo := #[]) (fl : Nat := 33) (sup : Nat := 0) (ifs : Array Nat := #[]) (fds : Array FieldInfo := #[]) : ClassFile where
  minorVersion := 0
  majorVersion := 65
  constantPool := pool
  accessFlags := fl
  thisClass := this
  superClass := sup
  interfaces := ifs
  fields := fds
  methods := ms
  attributes := attrs
def plain (name : String) (sup : Option ClassId) : Class where
  name := name
  kind := .ordinary
  loader := none
  accessFlags := 33
  super := sup
  interfaces := #[]
  cf := none
  fields := #[]
  methods := #[]
  instanceTypes := #[]
  staticTypes := #[]
  resolved := #[]
  callSites := []
  init := .initialized
  statics := none
  mirror := none

def pool0 : Array CpInfo := pool [(5, u "<init>"), (0, u "()V"), (1, .class_ 10), (1, u "java/lang/Object")] 113

def k0m0 : Method := { name := "<init>", desc := "()V", sig := { parameters := [], returnType := none }, accessFlags := 1, code := none }
/-- java/lang/Object -/
def k0 : Class := { plain "java/lang/Object" none with
  accessFlags := 33
  interfaces := #[]
  cf := some (fileOf pool0 8 #[] #[{ accessFlags := 1, nameIndex := 5, descriptorIndex := 6, attributes := #[] }] 33 0 #[] #[])
  fields := #[]
  methods := #[k0m0]
  instanceTypes := #[]
  staticTypes := #[]
  resolved := Array.replicate 124 none
  statics := none }

def pool1 : Array CpInfo := pool [(2, .class_ 4), (1, u "java/lang/Object"), (0, u "<init>"), (0, u "()V"), (0, .fieldref 8 9), (0, .class_ 10), (0, .nameAndType 11 12), (0, u "dev/tagwarden/condition/OrderedValues$Relation"), (0, u "EQUAL"), (0, u "Ldev/tagwarden/condition/OrderedValues$Relation;"), (0, .fieldref 8 14), (0, .nameAndType 15 12), (0, u "LESS"), (0, .fieldref 8 17), (0, .nameAndType 18 12), (0, u "LESS_OR_EQUAL"), (0, .fieldref 8 20), (0, .nameAndType 21 12), (0, u "GREATER"), (0, .fieldref 8 23), (0, .nameAndType 24 12), (0, u "GREATER_OR_EQUAL"), (0, .integer 2147483647), (0, .methodref 27 28), (0, .class_ 29), (0, .nameAndType 30 31), (0, u "dev/tagwarden/condition/RelationBelowPinLaw"), (0, u "pick"), (0, u "(I)Ldev/tagwarden/condition/OrderedValues$Relation;"), (2, .integer 2147483648), (0, .methodref 8 36), (0, .nameAndType 37 38), (0, u "holds"), (0, u "(I)Z"), (0, .methodref 8 40), (0, .nameAndType 41 42), (0, u "below"), (0, u "()Z"), (3, u "law"), (0, u "(III)Z")] 6

def k1m0 : Method := { name := "<init>", desc := "()V", sig := { parameters := [], returnType := none }, accessFlags := 2, code := none }
def k1c1 : Code := { maxStack := 2, maxLocals := 1, code := method_2_code, exceptionTable := #[], attributes := #[] }
def k1m1 : Method := { name := "pick", desc := "(I)Ldev/tagwarden/condition/OrderedValues$Relation;", sig := { parameters := [.int], returnType := some (.object "dev/tagwarden/condition/OrderedValues$Relation") }, accessFlags := 10, code := some k1c1 }
def k1c2 : Code := { maxStack := 2, maxLocals := 7, code := code, exceptionTable := #[], attributes := #[] }
def k1m2 : Method := { name := "law", desc := "(III)Z", sig := { parameters := [.int, .int, .int], returnType := some .boolean }, accessFlags := 9, code := some k1c2 }
/-- dev/tagwarden/condition/RelationBelowPinLaw -/
def k1 : Class := { plain "dev/tagwarden/condition/RelationBelowPinLaw" (some 0) with
  accessFlags := 49
  interfaces := #[]
  cf := some (fileOf pool1 27 #[] #[{ accessFlags := 2, nameIndex := 5, descriptorIndex := 6, attributes := #[] }, { accessFlags := 10, nameIndex := 30, descriptorIndex := 31, attributes := #[] }, { accessFlags := 9, nameIndex := 46, descriptorIndex := 47, attributes := #[] }] 49 2 #[] #[])
  fields := #[]
  methods := #[k1m0, k1m1, k1m2]
  instanceTypes := #[]
  staticTypes := #[]
  resolved := Array.replicate 54 none
  statics := none }

def pool2 : Array CpInfo := pool [(1, .class_ 2), (0, u "java/lang/constant/Constable"), (0, .class_ 4), (0, u "java/lang/Object")] 6

/-- java/lang/constant/Constable -/
def k2 : Class := { plain "java/lang/constant/Constable" (some 0) with
  accessFlags := 1537
  interfaces := #[]
  cf := some (fileOf pool2 1 #[] #[] 1537 3 #[] #[])
  fields := #[]
  methods := #[]
  instanceTypes := #[]
  staticTypes := #[]
  resolved := Array.replicate 11 none
  statics := none }

def pool3 : Array CpInfo := pool [(1, .class_ 2), (0, u "java/lang/Comparable"), (0, .class_ 4), (0, u "java/lang/Object")] 7

/-- java/lang/Comparable -/
def k3 : Class := { plain "java/lang/Comparable" (some 0) with
  accessFlags := 1537
  interfaces := #[]
  cf := some (fileOf pool3 1 #[] #[] 1537 3 #[] #[])
  fields := #[]
  methods := #[]
  instanceTypes := #[]
  staticTypes := #[]
  resolved := Array.replicate 12 none
  statics := none }

def pool4 : Array CpInfo := pool [(1, .class_ 2), (0, u "java/io/Serializable"), (0, .class_ 4), (0, u "java/lang/Object")] 2

/-- java/io/Serializable -/
def k4 : Class := { plain "java/io/Serializable" (some 0) with
  accessFlags := 1537
  interfaces := #[]
  cf := some (fileOf pool4 1 #[] #[] 1537 3 #[] #[])
  fields := #[]
  methods := #[]
  instanceTypes := #[]
  staticTypes := #[]
  resolved := Array.replicate 7 none
  statics := none }

def pool5 : Array CpInfo := pool [(2, .class_ 4), (1, u "java/lang/Enum"), (0, u "name"), (0, u "Ljava/lang/String;"), (0, .fieldref 2 8), (0, .nameAndType 9 10), (0, u "ordinal"), (0, u "I"), (1, .class_ 14), (1, u "java/lang/Object"), (4, u "hash"), (86, .class_ 108), (1, u "java/lang/Enum$EnumDesc"), (2, .class_ 112), (0, u "java/lang/constant/Constable"), (0, .class_ 114), (0, u "java/lang/Comparable"), (0, .class_ 116), (0, u "java/io/Serializable"), (9, u "()I")] 77

def k5c0 : Code := { maxStack := 1, maxLocals := 1, code := jdk_37_method_2_code, exceptionTable := #[], attributes := #[] }
def k5m0 : Method := { name := "ordinal", desc := "()I", sig := { parameters := [], returnType := some .int }, accessFlags := 17, code := some k5c0 }
/-- java/lang/Enum -/
def k5 : Class := { plain "java/lang/Enum" (some 0) with
  accessFlags := 1057
  interfaces := #[2, 3, 4]
  cf := some (fileOf pool5 2 #[.nestMembers #[106]] #[{ accessFlags := 17, nameIndex := 9, descriptorIndex := 126, attributes := #[] }] 1057 12 #[111, 113, 115] #[{ accessFlags := 18, nameIndex := 5, descriptorIndex := 6, attributes := #[] }, { accessFlags := 18, nameIndex := 9, descriptorIndex := 10, attributes := #[] }, { accessFlags := 2, nameIndex := 19, descriptorIndex := 10, attributes := #[] }])
  fields := #[{ name := "name", type := (.object "java/lang/String"), accessFlags := 18, slot := 0, constantValue := 0 }, { name := "ordinal", type := .int, accessFlags := 18, slot := 1, constantValue := 0 }, { name := "hash", type := .int, accessFlags := 2, slot := 2, constantValue := 0 }]
  methods := #[k5m0]
  instanceTypes := #[(.object "java/lang/String"), .int, .int]
  staticTypes := #[]
  resolved := Array.replicate 204 none
  statics := none }

def pool6 : Array CpInfo := pool [(1, .class_ 2), (0, u "dev/tagwarden/condition/OrderedValues$Relation"), (2, u "EQUAL"), (0, u "Ldev/tagwarden/condition/OrderedValues$Relation;"), (0, .fieldref 1 8), (0, .nameAndType 9 6), (0, u "LESS"), (0, .fieldref 1 11), (0, .nameAndType 12 6), (0, u "LESS_OR_EQUAL"), (2, u "GREATER"), (2, u "GREATER_OR_EQUAL"), (2, u "$VALUES"), (0, u "[Ldev/tagwarden/condition/OrderedValues$Relation;"), (6, .class_ 31), (1, u "java/lang/Enum"), (6, .methodref 1 39), (0, .nameAndType 40 41), (0, u "ordinal"), (0, u "()I"), (22, u "holds"), (0, u "(I)Z"), (1, u "below"), (0, u "()Z"), (5, .class_ 75), (0, u "dev/tagwarden/condition/OrderedValues")] 2

def k6c0 : Code := { maxStack := 4, maxLocals := 2, code := prog_38_method_4_code, exceptionTable := #[], attributes := #[] }
def k6m0 : Method := { name := "holds", desc := "(I)Z", sig := { parameters := [.int], returnType := some .boolean }, accessFlags := 0, code := some k6c0 }
def k6c1 : Code := { maxStack := 2, maxLocals := 1, code := prog_38_method_5_code, exceptionTable := #[], attributes := #[] }
def k6m1 : Method := { name := "below", desc := "()Z", sig := { parameters := [], returnType := some .boolean }, accessFlags := 0, code := some k6c1 }
/-- dev/tagwarden/condition/OrderedValues$Relation -/
def k6 : Class := { plain "dev/tagwarden/condition/OrderedValues$Relation" (some 5) with
  accessFlags := 16432
  interfaces := #[]
  cf := some (fileOf pool6 1 #[.nestHost 74] #[{ accessFlags := 0, nameIndex := 64, descriptorIndex := 65, attributes := #[] }, { accessFlags := 0, nameIndex := 67, descriptorIndex := 68, attributes := #[] }] 16432 29 #[] #[{ accessFlags := 16409, nameIndex := 5, descriptorIndex := 6, attributes := #[] }, { accessFlags := 16409, nameIndex := 9, descriptorIndex := 6, attributes := #[] }, { accessFlags := 16409, nameIndex := 12, descriptorIndex := 6, attributes := #[] }, { accessFlags := 16409, nameIndex := 15, descriptorIndex := 6, attributes := #[] }, { accessFlags := 16409, nameIndex := 18, descriptorIndex := 6, attributes := #[] }, { accessFlags := 4122, nameIndex := 21, descriptorIndex := 22, attributes := #[] }])
  fields := #[{ name := "EQUAL", type := (.object "dev/tagwarden/condition/OrderedValues$Relation"), accessFlags := 16409, slot := 0, constantValue := 0 }, { name := "LESS", type := (.object "dev/tagwarden/condition/OrderedValues$Relation"), accessFlags := 16409, slot := 1, constantValue := 0 }, { name := "LESS_OR_EQUAL", type := (.object "dev/tagwarden/condition/OrderedValues$Relation"), accessFlags := 16409, slot := 2, constantValue := 0 }, { name := "GREATER", type := (.object "dev/tagwarden/condition/OrderedValues$Relation"), accessFlags := 16409, slot := 3, constantValue := 0 }, { name := "GREATER_OR_EQUAL", type := (.object "dev/tagwarden/condition/OrderedValues$Relation"), accessFlags := 16409, slot := 4, constantValue := 0 }, { name := "$VALUES", type := (.array (.object "dev/tagwarden/condition/OrderedValues$Relation")), accessFlags := 4122, slot := 5, constantValue := 0 }]
  methods := #[k6m0, k6m1]
  instanceTypes := #[(.object "java/lang/String"), .int, .int]
  staticTypes := #[(.object "dev/tagwarden/condition/OrderedValues$Relation"), (.object "dev/tagwarden/condition/OrderedValues$Relation"), (.object "dev/tagwarden/condition/OrderedValues$Relation"), (.object "dev/tagwarden/condition/OrderedValues$Relation"), (.object "dev/tagwarden/condition/OrderedValues$Relation"), (.array (.object "dev/tagwarden/condition/OrderedValues$Relation"))]
  resolved := Array.replicate 78 none
  statics := some 0 }

def pool7 : Array CpInfo := pool [(1, u "java/lang/Cloneable"), (0, .class_ 1), (0, u "java/lang/Object"), (0, .class_ 3)] 3

/-- java/lang/Cloneable -/
def k7 : Class := { plain "java/lang/Cloneable" (some 0) with
  accessFlags := 1537
  interfaces := #[]
  cf := some (fileOf pool7 2 #[] #[] 1537 4 #[] #[])
  fields := #[]
  methods := #[]
  instanceTypes := #[]
  staticTypes := #[]
  resolved := Array.replicate 8 none
  statics := none }

/-- the primitive byte -/
def k8 : Class := { plain "byte" none with kind := .primitive 'B', accessFlags := 0x411 }
/-- [B -/
def k9 : Class := { plain "[B" (some 0) with kind := .array 8 .byte, interfaces := #[7, 4], accessFlags := 1041 }

/-- the primitive int -/
def k10 : Class := { plain "int" none with kind := .primitive 'I', accessFlags := 0x411 }
/-- [I -/
def k11 : Class := { plain "[I" (some 0) with kind := .array 10 .int, interfaces := #[7, 4], accessFlags := 1041 }

def heap : Heap := #[{ cls := 6, slots := #[.ref 1, .ref 2, .ref 3, .ref 4, .ref 5, .null], vm := .statics 6 },
  { cls := 6, slots := #[.null, .int 0, .int 0], vm := .none },
  { cls := 6, slots := #[.null, .int 1, .int 0], vm := .none },
  { cls := 6, slots := #[.null, .int 2, .int 0], vm := .none },
  { cls := 6, slots := #[.null, .int 3, .int 0], vm := .none },
  { cls := 6, slots := #[.null, .int 4, .int 0], vm := .none }]
def classes : Array Class := #[k0, k1, k2, k3, k4, k5, k6, k7, k8, k9, k10, k11]
def interned : List (Array UInt16 × Addr) := []
def slotsUsed : Nat := 21
def theMethod : MethodId := ⟨1, 2⟩
def args0 : Array Value := #[.int 6, .int 5, .int 9]
def aboutOver (below : List Frame) : State where
  vm := { classes := classes, interned := interned.toArray }
  heap := heap
  slotsUsed := slotsUsed
  threads := #[{ frames := .invoking theMethod args0 :: below }]
def below0 : List Frame := [.native { method := ⟨0, 0⟩, args := #[] }]
def about1 : State := aboutOver below0
def p0 : Program := .bare "" "" ""
def e0 : Env := launch0.env 0 0 0
theorem w_frames : about1.frames = Frame.invoking theMethod args0 :: below0 := rfl
set_option maxRecDepth 65536 in
theorem w_args : argsFit about1.vm theMethod args0 = true := by decide +kernel
set_option maxRecDepth 65536 in
theorem w_heap : heapFits about1 = true := by decide +kernel
set_option maxRecDepth 65536 in
theorem w_runnable : about1.curStatus? = some .runnable := by decide +kernel
set_option maxRecDepth 65536 in
theorem w_alone : about1.alone = true := by decide +kernel
set_option maxRecDepth 65536 in
theorem w_named : about1.methodNamed? x = some theMethod := by decide +kernel
set_option maxRecDepth 65536 in
theorem w_hears : about1.hears theMethod below0 = true := by decide +kernel
set_option maxRecDepth 65536 in
theorem w_ripe : about1.ripe theMethod args0 below0 = true := by decide +kernel
theorem w_running : about1.status = .running := rfl
set_option maxRecDepth 65536 in
theorem w_room : about1.hasRoom e0.platform room_1 = true :=
  launch0.hasRoom_least _ room_1 (by decide +kernel) (by decide +kernel) (by decide +kernel) (by decide +kernel) (by decide +kernel) (by decide +kernel)
theorem allAtoms_all (ts : List Jvm.Cond) (a : Array Jvm.Value) (st : Jvm.State) : (allAtoms ts).before a st = ts.all (fun c => c.before a st) := by
  induction ts with
  | nil => rfl
  | cons c t ih =>
    show (Jvm.Cond.and c (allAtoms t)).before a st = _
    rw [Jvm.Cond.before_and, ih, List.all_cons]
def words1 : List Jvm.Cond := Jvm.Cond.code x code maxLocals ret :: tables_1
/-- a 'code' word, met by the world's own term for the bytes: nothing is compared byte by byte -/
theorem code_word {y : MethodName} {bytes : ByteArray} {mx : Nat} {rt : Option FieldType} {a : Array Value} {s : State} {m : MethodId} {meth : Method} {c : Code} (h1 : s.methodNamed? y = some m) (h2 : s.vm.method? m = some meth) (h3 : meth.code = some c) (h4 : c.code = bytes)
    (h5 : (c.maxLocals == mx && c.exceptionTable.isEmpty && decide (c.maxStack ≤ mostOperands) && decide (meth.sig.returnType = rt) && !meth.locks && decide (parseMethodDescriptor y.desc = some meth.sig)) = true) : (Jvm.Cond.code y bytes mx rt).before a s = true := by
  simp only [Bool.and_eq_true, beq_iff_eq, Bool.not_eq_true', decide_eq_true_eq] at h5
  obtain ⟨⟨⟨⟨⟨g1, g2⟩, g3⟩, g4⟩, g5⟩, g6⟩ := h5
  simp [Cond.before, Cond.holds, Cond.value, h1, h2, h3, h4, g1, g2, g3, g4, g5, g6]
def isCode : Jvm.Cond → Bool
  | .code _ _ _ _ => true
  | _ => false
theorem all_split {L : List Jvm.Cond} {P : Jvm.Cond → Bool} (h1 : L.all (fun c => isCode c || P c) = true) (h2 : ∀ c ∈ L.filter isCode, P c = true) : L.all P = true := by
  refine List.all_eq_true.mpr fun c hc => ?_
  have h := List.all_eq_true.mp h1 c hc
  rcases Bool.eq_false_or_eq_true (isCode c) with hi | hi
  · exact h2 c (List.mem_filter.mpr ⟨hc, hi⟩)
  · simpa [hi] using h
set_option maxRecDepth 65536 in
theorem w_c0 : (Jvm.Cond.code x code maxLocals ret).before args0 about1 = true := code_word (m := ⟨1, 2⟩) (meth := k1m2) (c := k1c2) (by decide +kernel) rfl rfl rfl (by decide +kernel)
set_option maxRecDepth 65536 in
theorem w_c1 : (Jvm.Cond.code ({ cls := "dev/tagwarden/condition/RelationBelowPinLaw", name := "pick", desc := "(I)Ldev/tagwarden/condition/OrderedValues$Relation;" } : Jvm.MethodName) method_2_code (1 : Nat) (Option.some (Jvm.ClassFile.FieldType.object "dev/tagwarden/condition/OrderedValues$Relation"))).before args0 about1 = true := code_word (m := ⟨1, 1⟩) (meth := k1m1) (c := k1c1) (by decide +kernel) rfl rfl rfl (by decide +kernel)
set_option maxRecDepth 65536 in
theorem w_c2 : (Jvm.Cond.code ({ cls := "dev/tagwarden/condition/OrderedValues$Relation", name := "holds", desc := "(I)Z" } : Jvm.MethodName) prog_38_method_4_code (2 : Nat) (Option.some Jvm.ClassFile.FieldType.boolean)).before args0 about1 = true := code_word (m := ⟨6, 0⟩) (meth := k6m0) (c := k6c0) (by decide +kernel) rfl rfl rfl (by decide +kernel)
set_option maxRecDepth 65536 in
theorem w_c3 : (Jvm.Cond.code ({ cls := "java/lang/Enum", name := "ordinal", desc := "()I" } : Jvm.MethodName) jdk_37_method_2_code (1 : Nat) (Option.some Jvm.ClassFile.FieldType.int)).before args0 about1 = true := code_word (m := ⟨5, 0⟩) (meth := k5m0) (c := k5c0) (by decide +kernel) rfl rfl rfl (by decide +kernel)
set_option maxRecDepth 65536 in
theorem w_c4 : (Jvm.Cond.code ({ cls := "dev/tagwarden/condition/OrderedValues$Relation", name := "below", desc := "()Z" } : Jvm.MethodName) prog_38_method_5_code (1 : Nat) (Option.some Jvm.ClassFile.FieldType.boolean)).before args0 about1 = true := code_word (m := ⟨6, 1⟩) (meth := k6m1) (c := k6c1) (by decide +kernel) rfl rfl rfl (by decide +kernel)
def codes1 : List Jvm.Cond := [Jvm.Cond.code x code maxLocals ret, Jvm.Cond.code ({ cls := "dev/tagwarden/condition/RelationBelowPinLaw", name := "pick", desc := "(I)Ldev/tagwarden/condition/OrderedValues$Relation;" } : Jvm.MethodName) method_2_code (1 : Nat) (Option.some (Jvm.ClassFile.FieldType.object "dev/tagwarden/condition/OrderedValues$Relation")), Jvm.Cond.code ({ cls := "dev/tagwarden/condition/OrderedValues$Relation", name := "holds", desc := "(I)Z" } : Jvm.MethodName) prog_38_method_4_code (2 : Nat) (Option.some Jvm.ClassFile.FieldType.boolean), Jvm.Cond.code ({ cls := "java/lang/Enum", name := "ordinal", desc := "()I" } : Jvm.MethodName) jdk_37_method_2_code (1 : Nat) (Option.some Jvm.ClassFile.FieldType.int), Jvm.Cond.code ({ cls := "dev/tagwarden/condition/OrderedValues$Relation", name := "below", desc := "()Z" } : Jvm.MethodName) prog_38_method_5_code (1 : Nat) (Option.some Jvm.ClassFile.FieldType.boolean)]
set_option maxRecDepth 65536 in
theorem codes_eq : words1.filter isCode = codes1 := rfl
theorem w_codes : ∀ c ∈ words1.filter isCode, c.before args0 about1 = true := by
  rw [codes_eq]
  intro c hc
  simp only [codes1, List.mem_cons, List.not_mem_nil, or_false] at hc
  rcases hc with rfl | rfl | rfl | rfl | rfl
  · exact w_c0
  · exact w_c1
  · exact w_c2
  · exact w_c3
  · exact w_c4
set_option maxRecDepth 65536 in
theorem w_t1 : (words1.take 24).all (fun c => isCode c || c.before args0 about1) = true := by decide +kernel
set_option maxRecDepth 65536 in
theorem w_t2 : (words1.drop 24).all (fun c => isCode c || c.before args0 about1) = true := by decide +kernel
theorem w_tables : (allAtoms (Jvm.Cond.code x code maxLocals ret :: tables_1)).before args0 about1 = true := by
  rw [allAtoms_all]
  show words1.all (fun c => c.before args0 about1) = true
  refine all_split ?_ w_codes
  rw [← List.take_append_drop 24 words1, List.all_append, w_t1, w_t2]
  rfl
set_option maxRecDepth 65536 in
theorem w_case : (Jvm.Cond.and given_1 narrow_1).before args0 about1 = true := by decide +kernel
theorem w_applies : (headSpec (Jvm.Cond.code x code maxLocals ret :: tables_1) room_1).applies x e0.platform about1 = true :=
  (Spec.applies_iff w_frames).mpr ⟨w_running, w_runnable, w_alone, w_named, w_hears, w_ripe, w_room, w_tables⟩
theorem atStart : AtStart classFile x code maxLocals ret World_1 tables_1 room_1 Calls_1 rest_1 Pre_1 launch0 p0 e0 about1 theMethod args0 below0 :=
  ⟨lists_1, trivial, launch0.admits_env _ _ _, launch0.least_env, fairChoices_fair.cas, fairChoices_fair.clock, w_frames, w_args, w_heap, w_applies, trivial, trivial, w_case⟩
end start1
theorem witness_1 : WitnessClaimed_1 := ⟨start1.p0, start1.e0, start1.about1, start1.theMethod, start1.args0, start1.below0, start1.atStart⟩
end Jvm.Pilot.@@N@@
