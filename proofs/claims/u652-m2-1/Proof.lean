import JvmDerived
import JvmDerived.Pilot.@@N@@Statement
import JvmDerived.Pilot.@@N@@Code
set_option linter.unusedVariables false
set_option linter.unusedSimpArgs false
namespace Jvm.Pilot.@@N@@
open Jvm Jvm.ClassFile Sem Op Lib Jvm.Free Jvm.Stand Jvm.LawKit Jvm.RoadKit Bundle Jvm.Pilot.@@N@@.Jvm.D
section Own
variable {p : Program} {l : Launch} {e : Env} {R : Room} {s : State} {m : MethodId} {args : Array Value} {below : List Frame} {meth : Method} {c : Code} {T T' : State} {locs : List Loc} {cells slots : Nat}
/-- what a walk owes from where it stands: it comes back, with what Q says -/
def Owes (p : Program) (e : Env) (below : List Frame) (s : State) (Q : Option Value → Heap → List Loc → Prop) (k n : Nat) (T : State) (f : JFrame) : Prop :=
  ∃ s₂ o, Steps p.tables e below (T.setTop f) s₂ ∧ s₂.status = .running ∧ Ended s₂ below o ∧ ∃ v L, o = .returned v ∧ Q v s₂.heap L ∧ FrameEnd s o s₂ L k n
theorem Owes.by {Q : Option Value → Heap → List Loc → Prop} {k n : Nat} {f f' : JFrame} (st : ∀ t, Steps p.tables e below (T'.setTop f') t → Steps p.tables e below (T.setTop f) t) (h : Owes p e below s Q k n T' f') : Owes p e below s Q k n T f := by
  obtain ⟨s₂, o, h1, h2⟩ := h
  exact ⟨s₂, o, st _ h1, h2⟩
theorem Owes.ret {Q : Option Value → Heap → List Loc → Prop} {k n : Nat} {f : JFrame} (X : Stand p l e R s m args below meth c T locs cells slots) {v : Option Value} (hv : meth.sig.returnType = none → v = none) (hlk : meth.locks = false)
    (hQ : Q v T.heap locs) (hk : cells ≤ k) (hn : slots ≤ n) (st : ∀ fs, (∀ (f : JFrame) (acts : List Action), f.method = m → f.locked = none → f.entered = [] → (doReturn e (T.setTop f) acts v).1 = T.setFrames fs) → Steps p.tables e below (T.setTop f) (T.setFrames fs)) : Owes p e below s Q k n T f := by
  obtain ⟨fs, hr, hrun, hended, hW, hsame⟩ := X.leave (v := v) hv hlk
  exact ⟨_, _, st fs hr, hrun, hended, _, _, rfl, hQ, ⟨_, rfl⟩, hW, hsame.mono hk hn⟩
/-- a join point: what holds wherever the walk stands again with the same heap -/
theorem own_join {h : Heap} {G : State → Prop} {P : Prop} (X : Stand p l e R s m args below meth c T locs cells slots) (J : ∀ T', Stand p l e R s m args below meth c T' locs cells slots → T'.heap = h → G T')
    (k : (∀ T', Stand p l e R s m args below meth c T' locs cells slots → T'.heap = h → G T') → P) : P := k J
end Own
/-- it writes nothing, makes nothing, and hands back w -/
def Qv (w : Option Value) (h0 : Heap) (n0 : Nat) (v : Option Value) (h : Heap) (L : List Loc) : Prop := v = w ∧ L = [] ∧ h = h0
def QL (n0 : Nat) (v : Option Value) (h : Heap) (L : List Loc) : Prop := v = some (.int (1 : Int32)) ∧ Fr n0 L
section Words
variable {Z : State} {args : Array Value} {t : Term} {C n d : String} {a : Addr}
theorem own_fld {k : Int32} (ht : t.eval args Z none [] Z = some (.ref a)) (h : (Cond.eq (Term.field t C n d) (Term.int k)).value args Z none Z [] = some true) : Fld Z Z.heap a C n d (.int k) := by
  obtain ⟨x, y, hx, hy, h1, -⟩ := cmp_v (Or.inl h)
  obtain rfl : y = .int k := (Option.some.inj ((Term.int_eval k).symm.trans hy)).symm
  have hx' : Z.fieldOf? a C n d = some x := (fld_at ht).symm.trans hx
  cases x <;> simp [Kin, Value.isRef] at h1
  rename_i z
  have e : z = k := by simpa [Cond.value, hx, hy] using h
  subst e
  exact Fld.start hx'
theorem own_fldL {k : Int64} (ht : t.eval args Z none [] Z = some (.ref a)) (h : (Cond.eq (Term.field t C n d) (Term.long k)).value args Z none Z [] = some true) : Fld Z Z.heap a C n d (.long k) := by
  obtain ⟨x, y, hx, hy, h1, -⟩ := cmp_v (Or.inl h)
  obtain rfl : y = .long k := (Option.some.inj ((long_at k).symm.trans hy)).symm
  have hx' : Z.fieldOf? a C n d = some x := (fld_at ht).symm.trans hx
  cases x <;> simp [Kin, Value.isRef] at h1
  rename_i z
  have e : z = k := by simpa [Cond.value, hx, hy] using h
  subst e
  exact Fld.start hx'
theorem own_len {k : Int32} {cl : Cell} {ty : FieldType} (ht : t.eval args Z none [] Z = some (.ref a)) (A : Arr Z Z.heap a cl ty) (h : (Cond.eq (Term.length t) (Term.int k)).value args Z none Z [] = some true) : cl.slots.size.toInt32 = k := by
  obtain ⟨x, y, hx, hy, -, -⟩ := cmp_v (Or.inl h)
  obtain ⟨a', cell, e1, e2, rfl⟩ := Term.length_spec hx
  cases ht.symm.trans e1
  obtain rfl : y = .int k := (Option.some.inj ((Term.int_eval k).symm.trans hy)).symm
  cases A.1.symm.trans (State.arrayAt?_spec e2).1
  simpa [Cond.value, hx, hy] using h
theorem own_elem {k : Int32} {cl : Cell} {ty : FieldType} {u : Term} {w : Addr} (ht : t.eval args Z none [] Z = some (.ref a)) (A : Arr Z Z.heap a cl ty) (hu : u.eval args Z none [] Z = some (.ref w)) (h : (Cond.eq (Term.elem t (Term.int k)) u).value args Z none Z [] = some true) :
    ¬ (k < 0 ∨ cl.slots.size ≤ k.toNatClampNeg) ∧ cl.slots[k.toNatClampNeg]? = some (.ref w) := by
  obtain ⟨x, y, hx, hy, h1, -⟩ := cmp_v (Or.inl h)
  obtain rfl : y = .ref w := (Option.some.inj (hu.symm.trans hy)).symm
  obtain ⟨cell, e1, e2, e3⟩ := Jvm.Lib.elem_at hx ht (Term.int_eval k)
  cases A.1.symm.trans e1
  refine ⟨e2, ?_⟩
  cases x <;> simp [Kin, Value.isRef] at h1
  · simp [Cond.value, hx, hy] at h
  · rename_i z
    have e : z = w := by simpa [Cond.value, hx, hy] using h
    rw [e3, e]
end Words
theorem d13_0 : decode jdk_29_method_69_code 0 = .ok (.iload_n 0, 1) := by decide +kernel
theorem d13_1 : decode jdk_29_method_69_code 1 = .ok (.iload_n 1, 1) := by decide +kernel
theorem d13_2 : decode jdk_29_method_69_code 2 = .ok (.if_icmp .gt 7, 3) := by decide +kernel
theorem d13_9 : decode jdk_29_method_69_code 9 = .ok (.iload_n 1, 1) := by decide +kernel
theorem d13_10 : decode jdk_29_method_69_code 10 = .ok (.ireturn, 1) := by decide +kernel
theorem d13_5 : decode jdk_29_method_69_code 5 = .ok (.iload_n 0, 1) := by decide +kernel
theorem d13_6 : decode jdk_29_method_69_code 6 = .ok (.goto 4, 3) := by decide +kernel
theorem pn_BindingsUndoPinLaw : plainName "com/example/incant5/incant5/BindingsUndoPinLaw" = true := by first | (simp [plainName, overriddenIn]; done) | decide +kernel
theorem d17_0 : decode method_3_code 0 = .ok (.iload_n 1, 1) := by decide +kernel
theorem d17_1 : decode method_3_code 1 = .ok (.iload_n 2, 1) := by decide +kernel
theorem d17_2 : decode method_3_code 2 = .ok (.if_icmp .ge 14, 3) := by decide +kernel
theorem d17_5 : decode method_3_code 5 = .ok (.aload_n 0, 1) := by decide +kernel
theorem d17_6 : decode method_3_code 6 = .ok (.iload_n 1, 1) := by decide +kernel
theorem d17_7 : decode method_3_code 7 = .ok (.iaload, 1) := by decide +kernel
theorem d17_8 : decode method_3_code 8 = .ok (.iload_n 3, 1) := by decide +kernel
theorem d17_9 : decode method_3_code 9 = .ok (.if_icmp .ne 7, 3) := by decide +kernel
theorem d17_12 : decode method_3_code 12 = .ok (.iconst 1, 1) := by decide +kernel
theorem d17_13 : decode method_3_code 13 = .ok (.goto 4, 3) := by decide +kernel
theorem d17_17 : decode method_3_code 17 = .ok (.ireturn, 1) := by decide +kernel
theorem d17_16 : decode method_3_code 16 = .ok (.iconst 0, 1) := by decide +kernel
theorem d16_0 : decode method_4_code 0 = .ok (.iconst 0, 1) := by decide +kernel
theorem d16_1 : decode method_4_code 1 = .ok (.iload_n 2, 1) := by decide +kernel
theorem d16_2 : decode method_4_code 2 = .ok (.if_icmp .ge 13, 3) := by decide +kernel
theorem d16_65 : decode method_4_code 65 = .ok (.istore 4, 2) := by decide +kernel
theorem d16_67 : decode method_4_code 67 = .ok (.iconst 0, 1) := by decide +kernel
theorem d16_68 : decode method_4_code 68 = .ok (.iload_n 2, 1) := by decide +kernel
theorem d16_69 : decode method_4_code 69 = .ok (.if_icmp .lt 13, 3) := by decide +kernel
theorem d16_132 : decode method_4_code 132 = .ok (.istore 5, 2) := by decide +kernel
theorem d16_134 : decode method_4_code 134 = .ok (.iload 4, 2) := by decide +kernel
theorem d16_136 : decode method_4_code 136 = .ok (.ifCond .eq 12, 3) := by decide +kernel
theorem d16_139 : decode method_4_code 139 = .ok (.iload 5, 2) := by decide +kernel
theorem d16_141 : decode method_4_code 141 = .ok (.ifCond .ne 7, 3) := by decide +kernel
theorem d16_148 : decode method_4_code 148 = .ok (.iconst 0, 1) := by decide +kernel
theorem d16_149 : decode method_4_code 149 = .ok (.ireturn, 1) := by decide +kernel
theorem d16_144 : decode method_4_code 144 = .ok (.iconst 1, 1) := by decide +kernel
theorem d16_145 : decode method_4_code 145 = .ok (.goto 4, 3) := by decide +kernel
theorem d16_112 : decode method_4_code 112 = .ok (.iconst 3, 1) := by decide +kernel
theorem d16_113 : decode method_4_code 113 = .ok (.iload_n 2, 1) := by decide +kernel
theorem d16_114 : decode method_4_code 114 = .ok (.if_icmp .lt 17, 3) := by decide +kernel
theorem d16_131 : decode method_4_code 131 = .ok (.iconst 0, 1) := by decide +kernel
theorem d16_117 : decode method_4_code 117 = .ok (.aload_n 0, 1) := by decide +kernel
theorem d16_118 : decode method_4_code 118 = .ok (.iconst 3, 1) := by decide +kernel
theorem d16_119 : decode method_4_code 119 = .ok (.iload_n 1, 1) := by decide +kernel
theorem d16_120 : decode method_4_code 120 = .ok (.iload_n 3, 1) := by decide +kernel
theorem d16_121 : decode method_4_code 121 = .ok (.invokestatic 46, 3) := by decide +kernel
theorem pd_IIII_Z : parseMethodDescriptor "([IIII)Z" = some ⟨[(.array .int), .int, .int, .int], some .boolean⟩ := by decide +kernel
theorem d16_124 : decode method_4_code 124 = .ok (.ifCond .eq 7, 3) := by decide +kernel
theorem d16_127 : decode method_4_code 127 = .ok (.iconst 1, 1) := by decide +kernel
theorem d16_128 : decode method_4_code 128 = .ok (.goto 4, 3) := by decide +kernel
theorem d16_97 : decode method_4_code 97 = .ok (.iconst 2, 1) := by decide +kernel
theorem d16_98 : decode method_4_code 98 = .ok (.iload_n 2, 1) := by decide +kernel
theorem d16_99 : decode method_4_code 99 = .ok (.if_icmp .lt 13, 3) := by decide +kernel
theorem d16_102 : decode method_4_code 102 = .ok (.aload_n 0, 1) := by decide +kernel
theorem d16_103 : decode method_4_code 103 = .ok (.iconst 2, 1) := by decide +kernel
theorem d16_104 : decode method_4_code 104 = .ok (.iload_n 1, 1) := by decide +kernel
theorem d16_105 : decode method_4_code 105 = .ok (.iload_n 3, 1) := by decide +kernel
theorem d16_106 : decode method_4_code 106 = .ok (.invokestatic 46, 3) := by decide +kernel
theorem d16_109 : decode method_4_code 109 = .ok (.ifCond .ne 18, 3) := by decide +kernel
theorem d16_82 : decode method_4_code 82 = .ok (.iconst 1, 1) := by decide +kernel
theorem d16_83 : decode method_4_code 83 = .ok (.iload_n 2, 1) := by decide +kernel
theorem d16_84 : decode method_4_code 84 = .ok (.if_icmp .lt 13, 3) := by decide +kernel
theorem d16_87 : decode method_4_code 87 = .ok (.aload_n 0, 1) := by decide +kernel
theorem d16_88 : decode method_4_code 88 = .ok (.iconst 1, 1) := by decide +kernel
theorem d16_89 : decode method_4_code 89 = .ok (.iload_n 1, 1) := by decide +kernel
theorem d16_90 : decode method_4_code 90 = .ok (.iload_n 3, 1) := by decide +kernel
theorem d16_91 : decode method_4_code 91 = .ok (.invokestatic 46, 3) := by decide +kernel
theorem d16_94 : decode method_4_code 94 = .ok (.ifCond .ne 33, 3) := by decide +kernel
theorem d16_72 : decode method_4_code 72 = .ok (.aload_n 0, 1) := by decide +kernel
theorem d16_73 : decode method_4_code 73 = .ok (.iconst 0, 1) := by decide +kernel
theorem d16_74 : decode method_4_code 74 = .ok (.iload_n 1, 1) := by decide +kernel
theorem d16_75 : decode method_4_code 75 = .ok (.iload_n 3, 1) := by decide +kernel
theorem d16_76 : decode method_4_code 76 = .ok (.invokestatic 46, 3) := by decide +kernel
theorem d16_79 : decode method_4_code 79 = .ok (.ifCond .ne 48, 3) := by decide +kernel
theorem d16_45 : decode method_4_code 45 = .ok (.iconst 3, 1) := by decide +kernel
theorem d16_46 : decode method_4_code 46 = .ok (.iload_n 2, 1) := by decide +kernel
theorem d16_47 : decode method_4_code 47 = .ok (.if_icmp .ge 17, 3) := by decide +kernel
theorem d16_50 : decode method_4_code 50 = .ok (.aload_n 0, 1) := by decide +kernel
theorem d16_51 : decode method_4_code 51 = .ok (.iconst 3, 1) := by decide +kernel
theorem d16_52 : decode method_4_code 52 = .ok (.iload_n 1, 1) := by decide +kernel
theorem d16_53 : decode method_4_code 53 = .ok (.iload_n 3, 1) := by decide +kernel
theorem d16_54 : decode method_4_code 54 = .ok (.invokestatic 46, 3) := by decide +kernel
theorem d16_57 : decode method_4_code 57 = .ok (.ifCond .eq 7, 3) := by decide +kernel
theorem d16_60 : decode method_4_code 60 = .ok (.iconst 1, 1) := by decide +kernel
theorem d16_61 : decode method_4_code 61 = .ok (.goto 4, 3) := by decide +kernel
theorem d16_64 : decode method_4_code 64 = .ok (.iconst 0, 1) := by decide +kernel
theorem d16_30 : decode method_4_code 30 = .ok (.iconst 2, 1) := by decide +kernel
theorem d16_31 : decode method_4_code 31 = .ok (.iload_n 2, 1) := by decide +kernel
theorem d16_32 : decode method_4_code 32 = .ok (.if_icmp .ge 13, 3) := by decide +kernel
theorem d16_35 : decode method_4_code 35 = .ok (.aload_n 0, 1) := by decide +kernel
theorem d16_36 : decode method_4_code 36 = .ok (.iconst 2, 1) := by decide +kernel
theorem d16_37 : decode method_4_code 37 = .ok (.iload_n 1, 1) := by decide +kernel
theorem d16_38 : decode method_4_code 38 = .ok (.iload_n 3, 1) := by decide +kernel
theorem d16_39 : decode method_4_code 39 = .ok (.invokestatic 46, 3) := by decide +kernel
theorem d16_42 : decode method_4_code 42 = .ok (.ifCond .ne 18, 3) := by decide +kernel
theorem d16_15 : decode method_4_code 15 = .ok (.iconst 1, 1) := by decide +kernel
theorem d16_16 : decode method_4_code 16 = .ok (.iload_n 2, 1) := by decide +kernel
theorem d16_17 : decode method_4_code 17 = .ok (.if_icmp .ge 13, 3) := by decide +kernel
theorem d16_20 : decode method_4_code 20 = .ok (.aload_n 0, 1) := by decide +kernel
theorem d16_21 : decode method_4_code 21 = .ok (.iconst 1, 1) := by decide +kernel
theorem d16_22 : decode method_4_code 22 = .ok (.iload_n 1, 1) := by decide +kernel
theorem d16_23 : decode method_4_code 23 = .ok (.iload_n 3, 1) := by decide +kernel
theorem d16_24 : decode method_4_code 24 = .ok (.invokestatic 46, 3) := by decide +kernel
theorem d16_27 : decode method_4_code 27 = .ok (.ifCond .ne 33, 3) := by decide +kernel
theorem d16_5 : decode method_4_code 5 = .ok (.aload_n 0, 1) := by decide +kernel
theorem d16_6 : decode method_4_code 6 = .ok (.iconst 0, 1) := by decide +kernel
theorem d16_7 : decode method_4_code 7 = .ok (.iload_n 1, 1) := by decide +kernel
theorem d16_8 : decode method_4_code 8 = .ok (.iload_n 3, 1) := by decide +kernel
theorem d16_9 : decode method_4_code 9 = .ok (.invokestatic 46, 3) := by decide +kernel
theorem d16_12 : decode method_4_code 12 = .ok (.ifCond .ne 48, 3) := by decide +kernel
theorem d15_0 : decode method_5_code 0 = .ok (.aload_n 3, 1) := by decide +kernel
theorem d15_1 : decode method_5_code 1 = .ok (.iload 4, 2) := by decide +kernel
theorem d15_3 : decode method_5_code 3 = .ok (.iload 5, 2) := by decide +kernel
theorem d15_5 : decode method_5_code 5 = .ok (.iload_n 2, 1) := by decide +kernel
theorem d15_6 : decode method_5_code 6 = .ok (.invokestatic 50, 3) := by decide +kernel
theorem d15_9 : decode method_5_code 9 = .ok (.ifCond .eq 14, 3) := by decide +kernel
theorem d15_12 : decode method_5_code 12 = .ok (.aload_n 0, 1) := by decide +kernel
theorem d15_13 : decode method_5_code 13 = .ok (.aload_n 1, 1) := by decide +kernel
theorem d15_14 : decode method_5_code 14 = .ok (.if_acmp .ne 7, 3) := by decide +kernel
theorem d15_17 : decode method_5_code 17 = .ok (.iconst 1, 1) := by decide +kernel
theorem d15_18 : decode method_5_code 18 = .ok (.goto 4, 3) := by decide +kernel
theorem d15_22 : decode method_5_code 22 = .ok (.ireturn, 1) := by decide +kernel
theorem d15_23 : decode method_5_code 23 = .ok (.aload_n 0, 1) := by decide +kernel
theorem d15_24 : decode method_5_code 24 = .ok (.ifnonnull 7, 3) := by decide +kernel
theorem d15_27 : decode method_5_code 27 = .ok (.iconst 1, 1) := by decide +kernel
theorem d15_28 : decode method_5_code 28 = .ok (.goto 4, 3) := by decide +kernel
theorem d15_32 : decode method_5_code 32 = .ok (.ireturn, 1) := by decide +kernel
theorem pn_Bindings : plainName "com/example/incant5/incant5/Bindings" = true := by first | (simp [plainName, overriddenIn]; done) | decide +kernel
theorem d14_0 : decode prog_8_method_2_code 0 = .ok (.aload_n 0, 1) := by decide +kernel
theorem d14_1 : decode prog_8_method_2_code 1 = .ok (.getfield 15, 3) := by decide +kernel
theorem d14_4 : decode prog_8_method_2_code 4 = .ok (.iload_n 1, 1) := by decide +kernel
theorem d14_5 : decode prog_8_method_2_code 5 = .ok (.aaload, 1) := by decide +kernel
theorem d14_6 : decode prog_8_method_2_code 6 = .ok (.areturn, 1) := by decide +kernel
theorem d12_0 : decode prog_8_method_4_code 0 = .ok (.aload_n 0, 1) := by decide +kernel
theorem d12_1 : decode prog_8_method_4_code 1 = .ok (.getfield 19, 3) := by decide +kernel
theorem d12_4 : decode prog_8_method_4_code 4 = .ok (.ireturn, 1) := by decide +kernel
theorem pn_BigInteger : plainName "java/math/BigInteger" = true := by first | (simp [plainName, overriddenIn]; done) | decide +kernel
theorem d7_0 : decode jdk_2097_method_127_code 0 = .ok (.iconst 0, 1) := by decide +kernel
theorem d7_1 : decode jdk_2097_method_127_code 1 = .ok (.istore_n 1, 1) := by decide +kernel
theorem d7_2 : decode jdk_2097_method_127_code 2 = .ok (.iconst 0, 1) := by decide +kernel
theorem d7_3 : decode jdk_2097_method_127_code 3 = .ok (.istore_n 2, 1) := by decide +kernel
theorem d7_4 : decode jdk_2097_method_127_code 4 = .ok (.iload_n 2, 1) := by decide +kernel
theorem d7_5 : decode jdk_2097_method_127_code 5 = .ok (.aload_n 0, 1) := by decide +kernel
theorem d7_6 : decode jdk_2097_method_127_code 6 = .ok (.getfield 28, 3) := by decide +kernel
theorem d7_9 : decode jdk_2097_method_127_code 9 = .ok (.arraylength, 1) := by decide +kernel
theorem d7_10 : decode jdk_2097_method_127_code 10 = .ok (.if_icmp .ge 28, 3) := by decide +kernel
theorem d7_38 : decode jdk_2097_method_127_code 38 = .ok (.iload_n 1, 1) := by decide +kernel
theorem d7_39 : decode jdk_2097_method_127_code 39 = .ok (.aload_n 0, 1) := by decide +kernel
theorem d7_40 : decode jdk_2097_method_127_code 40 = .ok (.getfield 32, 3) := by decide +kernel
theorem d7_43 : decode jdk_2097_method_127_code 43 = .ok (.imul, 1) := by decide +kernel
theorem d7_44 : decode jdk_2097_method_127_code 44 = .ok (.ireturn, 1) := by decide +kernel
theorem d7_13 : decode jdk_2097_method_127_code 13 = .ok (.bipush 31, 2) := by decide +kernel
theorem d7_15 : decode jdk_2097_method_127_code 15 = .ok (.iload_n 1, 1) := by decide +kernel
theorem d7_16 : decode jdk_2097_method_127_code 16 = .ok (.imul, 1) := by decide +kernel
theorem d7_17 : decode jdk_2097_method_127_code 17 = .ok (.i2l, 1) := by decide +kernel
theorem d7_18 : decode jdk_2097_method_127_code 18 = .ok (.aload_n 0, 1) := by decide +kernel
theorem d7_19 : decode jdk_2097_method_127_code 19 = .ok (.getfield 28, 3) := by decide +kernel
theorem d7_22 : decode jdk_2097_method_127_code 22 = .ok (.iload_n 2, 1) := by decide +kernel
theorem d7_23 : decode jdk_2097_method_127_code 23 = .ok (.iaload, 1) := by decide +kernel
theorem d7_24 : decode jdk_2097_method_127_code 24 = .ok (.i2l, 1) := by decide +kernel
theorem d7_25 : decode jdk_2097_method_127_code 25 = .ok (.ldc2_w 130, 3) := by decide +kernel
theorem d7_28 : decode jdk_2097_method_127_code 28 = .ok (.land, 1) := by decide +kernel
theorem d7_29 : decode jdk_2097_method_127_code 29 = .ok (.ladd, 1) := by decide +kernel
theorem d7_30 : decode jdk_2097_method_127_code 30 = .ok (.l2i, 1) := by decide +kernel
theorem d7_31 : decode jdk_2097_method_127_code 31 = .ok (.istore_n 1, 1) := by decide +kernel
theorem d7_32 : decode jdk_2097_method_127_code 32 = .ok (.iinc 2 1, 3) := by decide +kernel
theorem d7_35 : decode jdk_2097_method_127_code 35 = .ok (.goto (-31), 3) := by decide +kernel
theorem pn_Number : plainName "java/lang/Number" = true := by first | (simp [plainName, overriddenIn]; done) | decide +kernel
theorem d4_0 : decode jdk_18_method_1_code 0 = .ok (.aload_n 0, 1) := by decide +kernel
theorem d4_1 : decode jdk_18_method_1_code 1 = .ok (.invokespecial 1, 3) := by decide +kernel
theorem d4_4 : decode jdk_18_method_1_code 4 = .ok (.return_, 1) := by decide +kernel
theorem d3_0 : decode jdk_2097_method_30_code 0 = .ok (.aload_n 0, 1) := by decide +kernel
theorem d3_1 : decode jdk_2097_method_30_code 1 = .ok (.invokespecial 3, 3) := by decide +kernel
theorem pd_V : parseMethodDescriptor "()V" = some ⟨[], none⟩ := by decide +kernel
theorem d3_4 : decode jdk_2097_method_30_code 4 = .ok (.lload_n 1, 1) := by decide +kernel
theorem d3_5 : decode jdk_2097_method_30_code 5 = .ok (.lconst 0, 1) := by decide +kernel
theorem d3_6 : decode jdk_2097_method_30_code 6 = .ok (.lcmp, 1) := by decide +kernel
theorem d3_7 : decode jdk_2097_method_30_code 7 = .ok (.ifCond .ge 14, 3) := by decide +kernel
theorem d3_10 : decode jdk_2097_method_30_code 10 = .ok (.lload_n 1, 1) := by decide +kernel
theorem d3_11 : decode jdk_2097_method_30_code 11 = .ok (.lneg, 1) := by decide +kernel
theorem d3_12 : decode jdk_2097_method_30_code 12 = .ok (.lstore_n 1, 1) := by decide +kernel
theorem d3_13 : decode jdk_2097_method_30_code 13 = .ok (.aload_n 0, 1) := by decide +kernel
theorem d3_14 : decode jdk_2097_method_30_code 14 = .ok (.iconst (-1), 1) := by decide +kernel
theorem d3_15 : decode jdk_2097_method_30_code 15 = .ok (.putfield 32, 3) := by decide +kernel
theorem d3_18 : decode jdk_2097_method_30_code 18 = .ok (.goto 8, 3) := by decide +kernel
theorem d3_26 : decode jdk_2097_method_30_code 26 = .ok (.lload_n 1, 1) := by decide +kernel
theorem d3_27 : decode jdk_2097_method_30_code 27 = .ok (.bipush 32, 2) := by decide +kernel
theorem d3_29 : decode jdk_2097_method_30_code 29 = .ok (.lushr, 1) := by decide +kernel
theorem d3_30 : decode jdk_2097_method_30_code 30 = .ok (.l2i, 1) := by decide +kernel
theorem d3_31 : decode jdk_2097_method_30_code 31 = .ok (.istore_n 3, 1) := by decide +kernel
theorem d3_32 : decode jdk_2097_method_30_code 32 = .ok (.iload_n 3, 1) := by decide +kernel
theorem d3_33 : decode jdk_2097_method_30_code 33 = .ok (.ifCond .ne 21, 3) := by decide +kernel
theorem d3_36 : decode jdk_2097_method_30_code 36 = .ok (.aload_n 0, 1) := by decide +kernel
theorem d3_37 : decode jdk_2097_method_30_code 37 = .ok (.iconst 1, 1) := by decide +kernel
theorem d3_38 : decode jdk_2097_method_30_code 38 = .ok (.newarray .int, 2) := by decide +kernel
theorem d3_40 : decode jdk_2097_method_30_code 40 = .ok (.putfield 28, 3) := by decide +kernel
theorem d3_43 : decode jdk_2097_method_30_code 43 = .ok (.aload_n 0, 1) := by decide +kernel
theorem d3_44 : decode jdk_2097_method_30_code 44 = .ok (.getfield 28, 3) := by decide +kernel
theorem d3_47 : decode jdk_2097_method_30_code 47 = .ok (.iconst 0, 1) := by decide +kernel
theorem d3_48 : decode jdk_2097_method_30_code 48 = .ok (.lload_n 1, 1) := by decide +kernel
theorem d3_49 : decode jdk_2097_method_30_code 49 = .ok (.l2i, 1) := by decide +kernel
theorem d3_50 : decode jdk_2097_method_30_code 50 = .ok (.iastore, 1) := by decide +kernel
theorem d3_51 : decode jdk_2097_method_30_code 51 = .ok (.goto 25, 3) := by decide +kernel
theorem d3_76 : decode jdk_2097_method_30_code 76 = .ok (.return_, 1) := by decide +kernel
theorem d3_54 : decode jdk_2097_method_30_code 54 = .ok (.aload_n 0, 1) := by decide +kernel
theorem d3_55 : decode jdk_2097_method_30_code 55 = .ok (.iconst 2, 1) := by decide +kernel
theorem d3_56 : decode jdk_2097_method_30_code 56 = .ok (.newarray .int, 2) := by decide +kernel
theorem d3_58 : decode jdk_2097_method_30_code 58 = .ok (.putfield 28, 3) := by decide +kernel
theorem d3_61 : decode jdk_2097_method_30_code 61 = .ok (.aload_n 0, 1) := by decide +kernel
theorem d3_62 : decode jdk_2097_method_30_code 62 = .ok (.getfield 28, 3) := by decide +kernel
theorem d3_65 : decode jdk_2097_method_30_code 65 = .ok (.iconst 0, 1) := by decide +kernel
theorem d3_66 : decode jdk_2097_method_30_code 66 = .ok (.iload_n 3, 1) := by decide +kernel
theorem d3_67 : decode jdk_2097_method_30_code 67 = .ok (.iastore, 1) := by decide +kernel
theorem d3_68 : decode jdk_2097_method_30_code 68 = .ok (.aload_n 0, 1) := by decide +kernel
theorem d3_69 : decode jdk_2097_method_30_code 69 = .ok (.getfield 28, 3) := by decide +kernel
theorem d3_72 : decode jdk_2097_method_30_code 72 = .ok (.iconst 1, 1) := by decide +kernel
theorem d3_73 : decode jdk_2097_method_30_code 73 = .ok (.lload_n 1, 1) := by decide +kernel
theorem d3_74 : decode jdk_2097_method_30_code 74 = .ok (.l2i, 1) := by decide +kernel
theorem d3_75 : decode jdk_2097_method_30_code 75 = .ok (.iastore, 1) := by decide +kernel
theorem d3_21 : decode jdk_2097_method_30_code 21 = .ok (.aload_n 0, 1) := by decide +kernel
theorem d3_22 : decode jdk_2097_method_30_code 22 = .ok (.iconst 1, 1) := by decide +kernel
theorem d3_23 : decode jdk_2097_method_30_code 23 = .ok (.putfield 32, 3) := by decide +kernel
theorem d2_0 : decode jdk_2097_method_29_code 0 = .ok (.lload_n 0, 1) := by decide +kernel
theorem d2_1 : decode jdk_2097_method_29_code 1 = .ok (.lconst 0, 1) := by decide +kernel
theorem d2_2 : decode jdk_2097_method_29_code 2 = .ok (.lcmp, 1) := by decide +kernel
theorem d2_3 : decode jdk_2097_method_29_code 3 = .ok (.ifCond .ne 7, 3) := by decide +kernel
theorem d2_6 : decode jdk_2097_method_29_code 6 = .ok (.getstatic 22, 3) := by decide +kernel
theorem d2_9 : decode jdk_2097_method_29_code 9 = .ok (.areturn, 1) := by decide +kernel
theorem d2_10 : decode jdk_2097_method_29_code 10 = .ok (.lload_n 0, 1) := by decide +kernel
theorem d2_11 : decode jdk_2097_method_29_code 11 = .ok (.lconst 0, 1) := by decide +kernel
theorem d2_12 : decode jdk_2097_method_29_code 12 = .ok (.lcmp, 1) := by decide +kernel
theorem d2_13 : decode jdk_2097_method_29_code 13 = .ok (.ifCond .le 18, 3) := by decide +kernel
theorem d2_16 : decode jdk_2097_method_29_code 16 = .ok (.lload_n 0, 1) := by decide +kernel
theorem d2_17 : decode jdk_2097_method_29_code 17 = .ok (.ldc2_w 345, 3) := by decide +kernel
theorem d2_20 : decode jdk_2097_method_29_code 20 = .ok (.lcmp, 1) := by decide +kernel
theorem d2_21 : decode jdk_2097_method_29_code 21 = .ok (.ifCond .gt 10, 3) := by decide +kernel
theorem d2_31 : decode jdk_2097_method_29_code 31 = .ok (.lload_n 0, 1) := by decide +kernel
theorem d2_32 : decode jdk_2097_method_29_code 32 = .ok (.lconst 0, 1) := by decide +kernel
theorem d2_33 : decode jdk_2097_method_29_code 33 = .ok (.lcmp, 1) := by decide +kernel
theorem d2_34 : decode jdk_2097_method_29_code 34 = .ok (.ifCond .ge 19, 3) := by decide +kernel
theorem d2_37 : decode jdk_2097_method_29_code 37 = .ok (.lload_n 0, 1) := by decide +kernel
theorem d2_38 : decode jdk_2097_method_29_code 38 = .ok (.ldc2_w 351, 3) := by decide +kernel
theorem d2_41 : decode jdk_2097_method_29_code 41 = .ok (.lcmp, 1) := by decide +kernel
theorem d2_42 : decode jdk_2097_method_29_code 42 = .ok (.ifCond .lt 11, 3) := by decide +kernel
theorem d2_53 : decode jdk_2097_method_29_code 53 = .ok (.new 23, 3) := by decide +kernel
theorem d2_56 : decode jdk_2097_method_29_code 56 = .ok (.dup, 1) := by decide +kernel
theorem d2_57 : decode jdk_2097_method_29_code 57 = .ok (.lload_n 0, 1) := by decide +kernel
theorem d2_58 : decode jdk_2097_method_29_code 58 = .ok (.invokespecial 356, 3) := by decide +kernel
theorem pd_J_V : parseMethodDescriptor "(J)V" = some ⟨[.long], none⟩ := by decide +kernel
theorem d2_61 : decode jdk_2097_method_29_code 61 = .ok (.areturn, 1) := by decide +kernel
theorem d2_45 : decode jdk_2097_method_29_code 45 = .ok (.getstatic 353, 3) := by decide +kernel
theorem d2_48 : decode jdk_2097_method_29_code 48 = .ok (.lload_n 0, 1) := by decide +kernel
theorem d2_49 : decode jdk_2097_method_29_code 49 = .ok (.lneg, 1) := by decide +kernel
theorem d2_50 : decode jdk_2097_method_29_code 50 = .ok (.l2i, 1) := by decide +kernel
theorem d2_51 : decode jdk_2097_method_29_code 51 = .ok (.aaload, 1) := by decide +kernel
theorem d2_52 : decode jdk_2097_method_29_code 52 = .ok (.areturn, 1) := by decide +kernel
theorem d2_24 : decode jdk_2097_method_29_code 24 = .ok (.getstatic 347, 3) := by decide +kernel
theorem d2_27 : decode jdk_2097_method_29_code 27 = .ok (.lload_n 0, 1) := by decide +kernel
theorem d2_28 : decode jdk_2097_method_29_code 28 = .ok (.l2i, 1) := by decide +kernel
theorem d2_29 : decode jdk_2097_method_29_code 29 = .ok (.aaload, 1) := by decide +kernel
theorem d2_30 : decode jdk_2097_method_29_code 30 = .ok (.areturn, 1) := by decide +kernel
theorem pn_Term : plainName "com/example/incant5/incant5/Term" = true := by first | (simp [plainName, overriddenIn]; done) | decide +kernel
theorem d8_0 : decode prog_60_method_1_code 0 = .ok (.aload_n 0, 1) := by decide +kernel
theorem d8_1 : decode prog_60_method_1_code 1 = .ok (.invokespecial 1, 3) := by decide +kernel
theorem d8_4 : decode prog_60_method_1_code 4 = .ok (.aload_n 0, 1) := by decide +kernel
theorem d8_5 : decode prog_60_method_1_code 5 = .ok (.iload_n 1, 1) := by decide +kernel
theorem d8_6 : decode prog_60_method_1_code 6 = .ok (.putfield 7, 3) := by decide +kernel
theorem d8_9 : decode prog_60_method_1_code 9 = .ok (.aload_n 0, 1) := by decide +kernel
theorem d8_10 : decode prog_60_method_1_code 10 = .ok (.iload_n 2, 1) := by decide +kernel
theorem d8_11 : decode prog_60_method_1_code 11 = .ok (.putfield 13, 3) := by decide +kernel
theorem d8_14 : decode prog_60_method_1_code 14 = .ok (.return_, 1) := by decide +kernel
theorem pn_Term_IntegerConstant : plainName "com/example/incant5/incant5/Term$IntegerConstant" = true := by first | (simp [plainName, overriddenIn]; done) | decide +kernel
theorem d6_0 : decode prog_62_method_1_code 0 = .ok (.aload_n 0, 1) := by decide +kernel
theorem d6_1 : decode prog_62_method_1_code 1 = .ok (.aload_n 1, 1) := by decide +kernel
theorem d6_2 : decode prog_62_method_1_code 2 = .ok (.invokevirtual 1, 3) := by decide +kernel
theorem pd_I : parseMethodDescriptor "()I" = some ⟨[], some .int⟩ := by decide +kernel
theorem d6_5 : decode prog_62_method_1_code 5 = .ok (.iconst 1, 1) := by decide +kernel
theorem d6_6 : decode prog_62_method_1_code 6 = .ok (.invokespecial 7, 3) := by decide +kernel
theorem pd_IZ_V : parseMethodDescriptor "(IZ)V" = some ⟨[.int, .boolean], none⟩ := by decide +kernel
theorem d6_9 : decode prog_62_method_1_code 9 = .ok (.aload_n 0, 1) := by decide +kernel
theorem d6_10 : decode prog_62_method_1_code 10 = .ok (.aload_n 1, 1) := by decide +kernel
theorem d6_11 : decode prog_62_method_1_code 11 = .ok (.putfield 13, 3) := by decide +kernel
theorem d6_14 : decode prog_62_method_1_code 14 = .ok (.return_, 1) := by decide +kernel
theorem d1_0 : decode prog_60_method_3_code 0 = .ok (.new 33, 3) := by decide +kernel
theorem d1_3 : decode prog_60_method_3_code 3 = .ok (.dup, 1) := by decide +kernel
theorem d1_4 : decode prog_60_method_3_code 4 = .ok (.lload_n 0, 1) := by decide +kernel
theorem d1_5 : decode prog_60_method_3_code 5 = .ok (.invokestatic 35, 3) := by decide +kernel
theorem pd_J_Ljava_math_BigInteger : parseMethodDescriptor "(J)Ljava/math/BigInteger;" = some ⟨[.long], some (.object "java/math/BigInteger")⟩ := by decide +kernel
theorem d1_8 : decode prog_60_method_3_code 8 = .ok (.invokespecial 41, 3) := by decide +kernel
theorem pd_Ljava_math_BigInteger_V : parseMethodDescriptor "(Ljava/math/BigInteger;)V" = some ⟨[(.object "java/math/BigInteger")], none⟩ := by decide +kernel
theorem d1_11 : decode prog_60_method_3_code 11 = .ok (.areturn, 1) := by decide +kernel
theorem d9_0 : decode prog_8_method_1_code 0 = .ok (.aload_n 0, 1) := by decide +kernel
theorem d9_1 : decode prog_8_method_1_code 1 = .ok (.invokespecial 1, 3) := by decide +kernel
theorem d9_4 : decode prog_8_method_1_code 4 = .ok (.aload_n 0, 1) := by decide +kernel
theorem d9_5 : decode prog_8_method_1_code 5 = .ok (.bipush 16, 2) := by decide +kernel
theorem d9_7 : decode prog_8_method_1_code 7 = .ok (.newarray .int, 2) := by decide +kernel
theorem d9_9 : decode prog_8_method_1_code 9 = .ok (.putfield 7, 3) := by decide +kernel
theorem d9_12 : decode prog_8_method_1_code 12 = .ok (.aload_n 0, 1) := by decide +kernel
theorem d9_13 : decode prog_8_method_1_code 13 = .ok (.iload_n 1, 1) := by decide +kernel
theorem d9_14 : decode prog_8_method_1_code 14 = .ok (.anewarray 13, 3) := by decide +kernel
theorem d9_17 : decode prog_8_method_1_code 17 = .ok (.putfield 15, 3) := by decide +kernel
theorem d9_20 : decode prog_8_method_1_code 20 = .ok (.return_, 1) := by decide +kernel
theorem d10_0 : decode prog_8_method_3_code 0 = .ok (.aload_n 0, 1) := by decide +kernel
theorem d10_1 : decode prog_8_method_3_code 1 = .ok (.getfield 19, 3) := by decide +kernel
theorem d10_4 : decode prog_8_method_3_code 4 = .ok (.aload_n 0, 1) := by decide +kernel
theorem d10_5 : decode prog_8_method_3_code 5 = .ok (.getfield 7, 3) := by decide +kernel
theorem d10_8 : decode prog_8_method_3_code 8 = .ok (.arraylength, 1) := by decide +kernel
theorem d10_9 : decode prog_8_method_3_code 9 = .ok (.if_icmp .ne 20, 3) := by decide +kernel
theorem d10_29 : decode prog_8_method_3_code 29 = .ok (.aload_n 0, 1) := by decide +kernel
theorem d10_30 : decode prog_8_method_3_code 30 = .ok (.getfield 7, 3) := by decide +kernel
theorem d10_33 : decode prog_8_method_3_code 33 = .ok (.aload_n 0, 1) := by decide +kernel
theorem d10_34 : decode prog_8_method_3_code 34 = .ok (.dup, 1) := by decide +kernel
theorem d10_35 : decode prog_8_method_3_code 35 = .ok (.getfield 19, 3) := by decide +kernel
theorem d10_38 : decode prog_8_method_3_code 38 = .ok (.dup_x1, 1) := by decide +kernel
theorem d10_39 : decode prog_8_method_3_code 39 = .ok (.iconst 1, 1) := by decide +kernel
theorem d10_40 : decode prog_8_method_3_code 40 = .ok (.iadd, 1) := by decide +kernel
theorem d10_41 : decode prog_8_method_3_code 41 = .ok (.putfield 19, 3) := by decide +kernel
theorem d10_44 : decode prog_8_method_3_code 44 = .ok (.iload_n 1, 1) := by decide +kernel
theorem d10_45 : decode prog_8_method_3_code 45 = .ok (.iastore, 1) := by decide +kernel
theorem d10_46 : decode prog_8_method_3_code 46 = .ok (.aload_n 0, 1) := by decide +kernel
theorem d10_47 : decode prog_8_method_3_code 47 = .ok (.getfield 15, 3) := by decide +kernel
theorem d10_50 : decode prog_8_method_3_code 50 = .ok (.iload_n 1, 1) := by decide +kernel
theorem d10_51 : decode prog_8_method_3_code 51 = .ok (.aload_n 2, 1) := by decide +kernel
theorem d10_52 : decode prog_8_method_3_code 52 = .ok (.aastore, 1) := by decide +kernel
theorem d10_53 : decode prog_8_method_3_code 53 = .ok (.return_, 1) := by decide +kernel
theorem d11_0 : decode prog_8_method_5_code 0 = .ok (.aload_n 0, 1) := by decide +kernel
theorem d11_1 : decode prog_8_method_5_code 1 = .ok (.getfield 19, 3) := by decide +kernel
theorem d11_4 : decode prog_8_method_5_code 4 = .ok (.iload_n 1, 1) := by decide +kernel
theorem d11_5 : decode prog_8_method_5_code 5 = .ok (.if_icmp .le 31, 3) := by decide +kernel
theorem d11_36 : decode prog_8_method_5_code 36 = .ok (.return_, 1) := by decide +kernel
theorem d11_8 : decode prog_8_method_5_code 8 = .ok (.aload_n 0, 1) := by decide +kernel
theorem d11_9 : decode prog_8_method_5_code 9 = .ok (.dup, 1) := by decide +kernel
theorem d11_10 : decode prog_8_method_5_code 10 = .ok (.getfield 19, 3) := by decide +kernel
theorem d11_13 : decode prog_8_method_5_code 13 = .ok (.iconst 1, 1) := by decide +kernel
theorem d11_14 : decode prog_8_method_5_code 14 = .ok (.isub, 1) := by decide +kernel
theorem d11_15 : decode prog_8_method_5_code 15 = .ok (.putfield 19, 3) := by decide +kernel
theorem d11_18 : decode prog_8_method_5_code 18 = .ok (.aload_n 0, 1) := by decide +kernel
theorem d11_19 : decode prog_8_method_5_code 19 = .ok (.getfield 15, 3) := by decide +kernel
theorem d11_22 : decode prog_8_method_5_code 22 = .ok (.aload_n 0, 1) := by decide +kernel
theorem d11_23 : decode prog_8_method_5_code 23 = .ok (.getfield 7, 3) := by decide +kernel
theorem d11_26 : decode prog_8_method_5_code 26 = .ok (.aload_n 0, 1) := by decide +kernel
theorem d11_27 : decode prog_8_method_5_code 27 = .ok (.getfield 19, 3) := by decide +kernel
theorem d11_30 : decode prog_8_method_5_code 30 = .ok (.iaload, 1) := by decide +kernel
theorem d11_31 : decode prog_8_method_5_code 31 = .ok (.aconst_null, 1) := by decide +kernel
theorem d11_32 : decode prog_8_method_5_code 32 = .ok (.aastore, 1) := by decide +kernel
theorem d11_33 : decode prog_8_method_5_code 33 = .ok (.goto (-33), 3) := by decide +kernel
theorem pd_J_Lcom_example_incant5_incant5_Term_IntegerConstant : parseMethodDescriptor "(J)Lcom/example/incant5/incant5/Term$IntegerConstant;" = some ⟨[.long], some (.object "com/example/incant5/incant5/Term$IntegerConstant")⟩ := by decide +kernel
theorem pd_I_V : parseMethodDescriptor "(I)V" = some ⟨[.int], none⟩ := by decide +kernel
theorem pd_II_I : parseMethodDescriptor "(II)I" = some ⟨[.int, .int], some .int⟩ := by decide +kernel
theorem pd_I_Lcom_example_incant5_incant5_Term : parseMethodDescriptor "(I)Lcom/example/incant5/incant5/Term;" = some ⟨[.int], some (.object "com/example/incant5/incant5/Term")⟩ := by decide +kernel
theorem pd_Lcom_example_incant5_incant5_Term_Lcom_example_incant5_incant5_Term_I_III_Z : parseMethodDescriptor "(Lcom/example/incant5/incant5/Term;Lcom/example/incant5/incant5/Term;I[III)Z" = some ⟨[(.object "com/example/incant5/incant5/Term"), (.object "com/example/incant5/incant5/Term"), .int, (.array .int), .int, .int], some .boolean⟩ := by decide +kernel
theorem pd_ILcom_example_incant5_incant5_Term_V : parseMethodDescriptor "(ILcom/example/incant5/incant5/Term;)V" = some ⟨[.int, (.object "com/example/incant5/incant5/Term")], none⟩ := by decide +kernel
theorem own_and_nn (x : Int32) : 0 ≤ (x &&& (2147483647 : Int32)).toInt := by
  have h : (x &&& (2147483647 : Int32)).toBitVec.msb = false := by
    rw [Int32.toBitVec_and, BitVec.msb_and]; simp; intro; decide
  rw [← Int32.toInt_toBitVec]
  exact BitVec.toInt_nonneg_of_msb_false h
theorem own_mod_b (x n : Int32) (hn : 0 < n.toInt) : 0 ≤ ((x &&& (2147483647 : Int32)) % n).toInt ∧ ((x &&& (2147483647 : Int32)) % n).toInt < n.toInt := by
  rw [Int32.toInt_mod]
  exact ⟨Int.tmod_nonneg _ (own_and_nn x), Int.tmod_lt_of_pos _ hn⟩
theorem own_mod5 (x : Int32) : (x &&& (2147483647 : Int32)) % (5 : Int32) = 0 ∨ (x &&& (2147483647 : Int32)) % (5 : Int32) = 1 ∨ (x &&& (2147483647 : Int32)) % (5 : Int32) = 2 ∨ (x &&& (2147483647 : Int32)) % (5 : Int32) = 3 ∨ (x &&& (2147483647 : Int32)) % (5 : Int32) = 4 := by
  obtain ⟨h1, h2⟩ := own_mod_b x 5 (by decide)
  generalize (x &&& (2147483647 : Int32)) % (5 : Int32) = k at *
  have h3 : (5 : Int32).toInt = 5 := by decide
  rw [h3] at h2
  simp only [← Int32.toInt_inj]
  simp +decide
  omega
theorem own_mod6 (x : Int32) : (x &&& (2147483647 : Int32)) % (6 : Int32) = 0 ∨ (x &&& (2147483647 : Int32)) % (6 : Int32) = 1 ∨ (x &&& (2147483647 : Int32)) % (6 : Int32) = 2 ∨ (x &&& (2147483647 : Int32)) % (6 : Int32) = 3 ∨ (x &&& (2147483647 : Int32)) % (6 : Int32) = 4 ∨ (x &&& (2147483647 : Int32)) % (6 : Int32) = 5 := by
  obtain ⟨h1, h2⟩ := own_mod_b x 6 (by decide)
  generalize (x &&& (2147483647 : Int32)) % (6 : Int32) = k at *
  have h3 : (6 : Int32).toInt = 6 := by decide
  rw [h3] at h2
  simp only [← Int32.toInt_inj]
  simp +decide
  omega
def own_at (i n s0 x : Int32) : Prop := i < n ∧ x = s0
theorem own_r1 {A : Prop} {r : Int32} (hr : (A ∧ r = 1) ∨ (¬ A ∧ r = 0)) (h : A) : some (Value.int (1 : Int32)) = some (.int r) := by
  rcases hr with ⟨-, e⟩ | ⟨q, -⟩
  · rw [e]
  · exact absurd h q
theorem own_r0 {A : Prop} {r : Int32} (hr : (A ∧ r = 1) ∨ (¬ A ∧ r = 0)) (h : ¬ A) : some (Value.int (0 : Int32)) = some (.int r) := by
  rcases hr with ⟨q, -⟩ | ⟨-, e⟩
  · exact absurd q h
  · rw [e]
def own_bef (n k s0 x0 x1 x2 x3 : Int32) : Prop := (0 < k ∧ own_at 0 n s0 x0) ∨ (1 < k ∧ own_at 1 n s0 x1) ∨ (2 < k ∧ own_at 2 n s0 x2) ∨ (3 < k ∧ own_at 3 n s0 x3)
def own_aft (n k s0 x0 x1 x2 x3 : Int32) : Prop := (¬ 0 < k ∧ own_at 0 n s0 x0) ∨ (¬ 1 < k ∧ own_at 1 n s0 x1) ∨ (¬ 2 < k ∧ own_at 2 n s0 x2) ∨ (¬ 3 < k ∧ own_at 3 n s0 x3)
def own_kept (n k s0 x0 x1 x2 x3 : Int32) : Prop := own_bef n k s0 x0 x1 x2 x3 ∧ ¬ own_aft n k s0 x0 x1 x2 x3
theorem own_none {A B C D : Prop} (a : ¬ A) (b : ¬ B) (c : ¬ C) (d : ¬ D) : ¬ (A ∨ B ∨ C ∨ D) := fun h => h.elim a fun h => h.elim b fun h => h.elim c d
def own_un (kk : Nat) : Nat → Nat
  | 0 => 0
  | n + 1 => if kk < n + 1 then own_un kk n else n + 1
def own_ul (xs : List Nat) (kk : Nat) : Nat → List Value → List Value
  | 0, v => v
  | n + 1, v => if kk < n + 1 then own_ul xs kk n (v.set (xs.getD n 0) .null) else v
def own_ulB (xs : List Nat) (kk : Nat) : Nat → List Bool → List Bool
  | 0, v => v
  | n + 1, v => if kk < n + 1 then own_ulB xs kk n (v.set (xs.getD n 0) false) else v
def own_bl (xs : List Nat) : Nat → List Bool
  | 0 => [false, false, false, false]
  | n + 1 => (own_bl xs n).set (xs.getD n 0) true
def own_f (t : Nat) (b : Bool) : Value := if b then .ref t else .null
theorem own_bl_len (xs : List Nat) (t : Nat) : ∀ n, ((own_bl xs n).map (own_f t)).length = 4
  | 0 => rfl
  | n + 1 => by have := own_bl_len xs t n; simp only [own_bl, List.length_map, List.length_set] at *; exact this
theorem own_un_no {kk i : Nat} (h : ¬ kk < i + 1) : own_un kk (i + 1) = i + 1 := if_neg h
theorem own_un_yes {kk i : Nat} (h : kk < i + 1) : own_un kk (i + 1) = own_un kk i := if_pos h
theorem own_ul_no {xs : List Nat} {kk i : Nat} {v : List Value} (h : ¬ kk < i + 1) : own_ul xs kk (i + 1) v = v := if_neg h
theorem own_ul_yes {xs : List Nat} {kk i : Nat} {v : List Value} (h : kk < i + 1) : own_ul xs kk (i + 1) v = own_ul xs kk i (v.set (xs.getD i 0) .null) := if_pos h
theorem own_ti {a : Nat} (h : a < 1000) : (Int32.ofNat a).toInt = a := by
  rw [Int32.toInt_ofNat_of_lt (by omega)]
theorem own_lt32 {a b : Nat} (ha : a < 1000) (hb : b < 1000) : Int32.ofNat a < Int32.ofNat b ↔ a < b := by
  rw [Int32.lt_iff_toInt_lt, own_ti ha, own_ti hb]; omega
theorem own_eq32 {a b : Nat} (ha : a < 1000) (hb : b < 1000) : Int32.ofNat a = Int32.ofNat b ↔ a = b := by
  rw [← Int32.toInt_inj, own_ti ha, own_ti hb]; omega
theorem own_k0 {kk : Nat} (h : kk ≤ 5) : ¬ Int32.ofNat kk < Int32.ofNat 0 := by rw [own_lt32 (by omega) (by omega)]; omega
theorem own_nlt {kk i : Nat} (h : kk ≤ 5) (hi : i + 1 ≤ 4) (q : ¬ Int32.ofNat kk < Int32.ofNat (i + 1)) : ¬ kk < i + 1 := by rw [own_lt32 (by omega) (by omega)] at q; exact q
theorem own_lt' {kk i : Nat} (h : kk ≤ 5) (hi : i + 1 ≤ 4) (q : Int32.ofNat kk < Int32.ofNat (i + 1)) : kk < i + 1 := by rw [own_lt32 (by omega) (by omega)] at q; exact q
theorem own_in16 {i : Nat} (h : i < 16) : ¬ Int32.ofNat i < 0 ∧ Int32.ofNat i < 16 := by
  have e : (16 : Int32) = Int32.ofNat 16 := rfl
  have e0 : (0 : Int32) = Int32.ofNat 0 := rfl
  rw [e, e0, own_lt32 (by omega) (by omega), own_lt32 (by omega) (by omega)]; omega
theorem own_in4 {i : Nat} (h : i < 4) : ¬ Int32.ofNat i < 0 ∧ Int32.ofNat i < 4 := by
  have e : (4 : Int32) = Int32.ofNat 4 := rfl
  have e0 : (0 : Int32) = Int32.ofNat 0 := rfl
  rw [e, e0, own_lt32 (by omega) (by omega), own_lt32 (by omega) (by omega)]; omega
theorem own_xs4 {a0 a1 a2 a3 : Nat} (h0 : a0 < 4) (h1 : a1 < 4) (h2 : a2 < 4) (h3 : a3 < 4) (i : Nat) : [a0, a1, a2, a3].getD i 0 < 4 := by
  match i with
  | 0 => exact h0
  | 1 => exact h1
  | 2 => exact h2
  | 3 => exact h3
  | i + 4 => exact (by decide : 0 < 4)
theorem own_min {kk i0 : Nat} (hk : kk ≤ 5) (hi : i0 ≤ 4) : (if Int32.ofNat i0 < Int32.ofNat kk then Int32.ofNat i0 else Int32.ofNat kk) = Int32.ofNat (own_un kk i0) := by
  have h : (if i0 < kk then i0 else kk) = own_un kk i0 := by
    induction i0 with
    | zero => simp [own_un]
    | succ n ih =>
      have ih := ih (by omega)
      by_cases q : kk < n + 1
      · rw [own_un_yes q, ← ih]; split <;> split <;> omega
      · rw [own_un_no q]; split <;> omega
  rw [← h]
  by_cases q : i0 < kk
  · rw [if_pos q, if_pos ((own_lt32 (by omega) (by omega)).mpr q)]
  · rw [if_neg q, if_neg (fun z => q ((own_lt32 (by omega) (by omega)).mp z))]
theorem own_ul_map (t : Nat) (xs : List Nat) (kk : Nat) : ∀ (n : Nat) (v : List Bool), own_ul xs kk n (v.map (own_f t)) = (own_ulB xs kk n v).map (own_f t)
  | 0, v => rfl
  | n + 1, v => by
    by_cases q : kk < n + 1
    · rw [own_ul_yes q]
      have e : own_ulB xs kk (n + 1) v = own_ulB xs kk n (v.set (xs.getD n 0) false) := if_pos q
      rw [e, ← own_ul_map t xs kk n, List.map_set]; rfl
    · rw [own_ul_no q]
      have e : own_ulB xs kk (n + 1) v = v := if_neg q
      rw [e]
def own_keptB (n k s : Nat) (xs : List Nat) : Bool :=
  let at_ := fun i => decide (i < n) && decide (xs.getD i 0 = s)
  ((decide (0 < k) && at_ 0) || (decide (1 < k) && at_ 1) || (decide (2 < k) && at_ 2) || (decide (3 < k) && at_ 3)) &&
    !((decide (¬ 0 < k) && at_ 0) || (decide (¬ 1 < k) && at_ 1) || (decide (¬ 2 < k) && at_ 2) || (decide (¬ 3 < k) && at_ 3))
def own_allB : Bool := (List.range 4).all fun a0 => (List.range 4).all fun a1 => (List.range 4).all fun a2 => (List.range 4).all fun a3 => (List.range 5).all fun n => (List.range 6).all fun k => (List.range 4).all fun s =>
  (own_ulB [a0, a1, a2, a3] k n (own_bl [a0, a1, a2, a3] n)).getD s false == own_keptB n k s [a0, a1, a2, a3]
theorem own_allB_true : own_allB = true := by decide +kernel
theorem own_finB {a0 a1 a2 a3 n k s : Nat} (h0 : a0 < 4) (h1 : a1 < 4) (h2 : a2 < 4) (h3 : a3 < 4) (hn : n ≤ 4) (hk : k ≤ 5) (hs : s < 4) :
    (own_ulB [a0, a1, a2, a3] k n (own_bl [a0, a1, a2, a3] n)).getD s false = own_keptB n k s [a0, a1, a2, a3] := by
  have h := own_allB_true
  simp only [own_allB, List.all_eq_true, List.mem_range, beq_iff_eq] at h
  exact h a0 h0 a1 h1 a2 h2 a3 h3 n (by omega) k (by omega) s hs
theorem own_kept_iff {a0 a1 a2 a3 n k s : Nat} (h0 : a0 < 4) (h1 : a1 < 4) (h2 : a2 < 4) (h3 : a3 < 4) (hn : n ≤ 4) (hk : k ≤ 5) (hs : s < 4) :
    own_kept (Int32.ofNat n) (Int32.ofNat k) (Int32.ofNat s) (Int32.ofNat a0) (Int32.ofNat a1) (Int32.ofNat a2) (Int32.ofNat a3) ↔ own_keptB n k s [a0, a1, a2, a3] = true := by
  have e0 : (0 : Int32) = Int32.ofNat 0 := rfl
  have e1 : (1 : Int32) = Int32.ofNat 1 := rfl
  have e2 : (2 : Int32) = Int32.ofNat 2 := rfl
  have e3 : (3 : Int32) = Int32.ofNat 3 := rfl
  have l : ∀ {a b : Nat}, a < 1000 → b < 1000 → (Int32.ofNat a < Int32.ofNat b ↔ a < b) := fun ha hb => own_lt32 ha hb
  have q : ∀ {a b : Nat}, a < 1000 → b < 1000 → (Int32.ofNat a = Int32.ofNat b ↔ a = b) := fun ha hb => own_eq32 ha hb
  simp only [own_kept, own_bef, own_aft, own_at, e0, e1, e2, e3]
  rw [l (a := 0) (b := k) (by omega) (by omega), l (a := 1) (b := k) (by omega) (by omega), l (a := 2) (b := k) (by omega) (by omega), l (a := 3) (b := k) (by omega) (by omega)]
  rw [l (a := 0) (b := n) (by omega) (by omega), l (a := 1) (b := n) (by omega) (by omega), l (a := 2) (b := n) (by omega) (by omega), l (a := 3) (b := n) (by omega) (by omega)]
  rw [q (a := a0) (b := s) (by omega) (by omega), q (a := a1) (b := s) (by omega) (by omega), q (a := a2) (b := s) (by omega) (by omega), q (a := a3) (b := s) (by omega) (by omega)]
  simp only [own_keptB, List.getD_cons_zero, List.getD_cons_succ, Bool.and_eq_true, Bool.or_eq_true, Bool.not_eq_true', Bool.or_eq_false_iff, Bool.and_eq_false_iff, decide_eq_true_eq, decide_eq_false_iff_not]
  constructor
  · rintro ⟨A, B⟩
    refine ⟨?_, ?_⟩
    · rcases A with h | h | h | h
      · exact Or.inl (Or.inl (Or.inl h))
      · exact Or.inl (Or.inl (Or.inr h))
      · exact Or.inl (Or.inr h)
      · exact Or.inr h
    · omega
  · rintro ⟨A, B⟩
    refine ⟨?_, ?_⟩
    · rcases A with ((h | h) | h) | h
      · exact Or.inl h
      · exact Or.inr (Or.inl h)
      · exact Or.inr (Or.inr (Or.inl h))
      · exact Or.inr (Or.inr (Or.inr h))
    · omega
theorem own_getD_map (t : Nat) : ∀ (v : List Bool) (s : Nat), (v.map (own_f t)).getD s .null = own_f t (v.getD s false)
  | [], s => by cases s <;> rfl
  | b :: v, 0 => rfl
  | b :: v, s + 1 => by rw [List.map_cons, List.getD_cons_succ, List.getD_cons_succ]; exact own_getD_map t v s
theorem own_plain {t a0 a1 a2 a3 n k s : Nat} (h0 : a0 < 4) (h1 : a1 < 4) (h2 : a2 < 4) (h3 : a3 < 4) (hn : n ≤ 4) (hk : k ≤ 5) (hs : s < 4) :
    (own_ul [a0, a1, a2, a3] k n ((own_bl [a0, a1, a2, a3] n).map (own_f t))).getD (Int32.ofNat s).toNatClampNeg .null = own_f t (own_keptB n k s [a0, a1, a2, a3]) := by
  have e : (Int32.ofNat s).toNatClampNeg = s := by simp only [Int32.toNatClampNeg, own_ti (by omega : s < 1000)]; rfl
  rw [e, own_ul_map, own_getD_map, own_finB h0 h1 h2 h3 hn hk hs]
theorem own_plain1 {t a0 a1 a2 a3 n k s : Nat} (h0 : a0 < 4) (h1 : a1 < 4) (h2 : a2 < 4) (h3 : a3 < 4) (hn : n ≤ 4) (hk : k ≤ 5) (hs : s < 4) (hK : own_kept (Int32.ofNat n) (Int32.ofNat k) (Int32.ofNat s) (Int32.ofNat a0) (Int32.ofNat a1) (Int32.ofNat a2) (Int32.ofNat a3)) :
    (own_ul [a0, a1, a2, a3] k n ((own_bl [a0, a1, a2, a3] n).map (own_f t))).getD (Int32.ofNat s).toNatClampNeg .null = .ref t := by
  rw [own_plain h0 h1 h2 h3 hn hk hs, (own_kept_iff h0 h1 h2 h3 hn hk hs).mp hK]; rfl
theorem own_plain0 {t a0 a1 a2 a3 n k s : Nat} (h0 : a0 < 4) (h1 : a1 < 4) (h2 : a2 < 4) (h3 : a3 < 4) (hn : n ≤ 4) (hk : k ≤ 5) (hs : s < 4) (hK : ¬ own_kept (Int32.ofNat n) (Int32.ofNat k) (Int32.ofNat s) (Int32.ofNat a0) (Int32.ofNat a1) (Int32.ofNat a2) (Int32.ofNat a3)) :
    (own_ul [a0, a1, a2, a3] k n ((own_bl [a0, a1, a2, a3] n).map (own_f t))).getD (Int32.ofNat s).toNatClampNeg .null = .null := by
  rw [own_plain h0 h1 h2 h3 hn hk hs, Bool.eq_false_iff.mpr (fun z => hK ((own_kept_iff h0 h1 h2 h3 hn hk hs).mpr z))]; rfl
theorem own_and3 (x : Int32) : ∃ a : Nat, a < 4 ∧ (x &&& (3 : Int32)) = Int32.ofNat a := by
  have h : (x &&& (3 : Int32)).toBitVec.toNat ≤ 3 := by
    rw [Int32.toBitVec_and, BitVec.toNat_and]; exact Nat.and_le_right
  refine ⟨(x &&& (3 : Int32)).toBitVec.toNat, by omega, ?_⟩
  rw [← Int32.toInt_inj, own_ti (by omega), ← Int32.toInt_toBitVec, BitVec.toInt_eq_toNat_of_lt (by omega)]
theorem own_k6 (x : Int32) : ∃ a : Nat, a ≤ 5 ∧ (x &&& (2147483647 : Int32)) % (6 : Int32) = Int32.ofNat a := by
  rcases own_mod6 x with h | h | h | h | h | h
  · exact ⟨0, by omega, h⟩
  · exact ⟨1, by omega, h⟩
  · exact ⟨2, by omega, h⟩
  · exact ⟨3, by omega, h⟩
  · exact ⟨4, by omega, h⟩
  · exact ⟨5, by omega, h⟩
theorem own_t32 {u : Int64} (h1 : -100 ≤ u.toInt) (h2 : u.toInt ≤ 100) : u.toInt32.toInt = u.toInt := by
  rw [Int64.toInt_toInt32]; simp [Int.bmod]; omega
theorem own_l0 : (0 : Int64).toInt = 0 := by decide
theorem own_l16 : (16 : Int64).toInt = 16 := by decide
theorem own_lm16 : (-16 : Int64).toInt = -16 := by decide
theorem own_i16 : (16 : Int32).toInt = 16 := by decide
theorem own_iz : (0 : Int32).toInt = 0 := by decide
theorem own_jp {u : Int64} (h1 : (0 : Int64) < u) (h2 : ¬ (16 : Int64) < u) : 0 < u.toInt32 ∧ ¬ 16 < u.toInt32 := by
  rw [Int64.lt_iff_toInt_lt, own_l0] at h1; rw [Int64.lt_iff_toInt_lt, own_l16] at h2
  have e := own_t32 (u := u) (by omega) (by omega)
  rw [Int32.lt_iff_toInt_lt, Int32.lt_iff_toInt_lt, e, own_i16, own_iz]; omega
theorem own_jn {u : Int64} (h1 : u < (0 : Int64)) (h2 : ¬ u < (-16 : Int64)) : 0 < (-u).toInt32 ∧ ¬ 16 < (-u).toInt32 := by
  rw [Int64.lt_iff_toInt_lt, own_l0] at h1; rw [Int64.lt_iff_toInt_lt, own_lm16] at h2
  have en : (-u).toInt = -u.toInt := by
    rw [Int64.toInt_neg]; apply Int.bmod_eq_of_le <;> omega
  have e := own_t32 (u := -u) (by omega) (by omega)
  rw [Int32.lt_iff_toInt_lt, Int32.lt_iff_toInt_lt, e, en, own_i16, own_iz]; omega
theorem own_j16 {j : Int32} (h1 : 0 < j) (h2 : ¬ 16 < j) : j = 1 ∨ j = 2 ∨ j = 3 ∨ j = 4 ∨ j = 5 ∨ j = 6 ∨ j = 7 ∨ j = 8 ∨ j = 9 ∨ j = 10 ∨ j = 11 ∨ j = 12 ∨ j = 13 ∨ j = 14 ∨ j = 15 ∨ j = 16 := by
  rw [Int32.lt_iff_toInt_lt, own_iz] at h1; rw [Int32.lt_iff_toInt_lt, own_i16] at h2
  simp only [← Int32.toInt_inj]
  simp +decide
  omega

def own_IT (cl : Cell) (j : Int32) : Prop := ¬ (j < 0 ∨ cl.slots.size ≤ j.toNatClampNeg) ∧ ∃ x : Int32, cl.slots[j.toNatClampNeg]? = some (.int x)
def own_MG (Z : State) (h : Heap) (w : Addr) : Prop := Exa Z h w "java/math/BigInteger" ∧ ∃ (sg : Int32) (ma : Addr) (cl : Cell), Fld Z h w "java/math/BigInteger" "signum" "I" (.int sg) ∧ Fld Z h w "java/math/BigInteger" "mag" "[I" (.ref ma) ∧ Arr Z h ma cl .int ∧ (cl.slots.size.toInt32 = 0 ∨ (cl.slots.size.toInt32 = 1 ∧ own_IT cl 0) ∨ (cl.slots.size.toInt32 = 2 ∧ own_IT cl 0 ∧ own_IT cl 1))
theorem own_MG.ext {Z : State} {h h' : Heap} {w : Addr} (M : own_MG Z h w) (E : Ext h h') : own_MG Z h' w := by
  obtain ⟨A, sg, ma, cl, F, G, Ar, r⟩ := M
  exact ⟨A.ext E, sg, ma, cl, F.ext E, G.ext E, Ar.ext E, r⟩
def QH (h0 : Heap) (n0 : Nat) (v : Option Value) (h : Heap) (L : List Loc) : Prop := ∃ r : Int32, v = some (.int r) ∧ L = [] ∧ h = h0
def QBI (Z : State) (a : Addr) (h0 : Heap) (n0 : Nat) (v : Option Value) (h : Heap) (L : List Loc) : Prop := v = none ∧ Fr n0 L ∧ Keep h0 h [a] ∧ own_MG Z h a
def QVO (Z : State) (h0 : Heap) (n0 : Nat) (v : Option Value) (h : Heap) (L : List Loc) : Prop := ∃ w, v = some (.ref w) ∧ Fr n0 L ∧ Ext h0 h ∧ own_MG Z h w
def QTI (Z : State) (a : Addr) (h0 : Heap) (n0 : Nat) (v : Option Value) (h : Heap) (L : List Loc) : Prop := v = none ∧ Fr n0 L ∧ Keep h0 h [a] ∧ Exa Z h a "com/example/incant5/incant5/Term$IntegerConstant" ∧ Fld Z h a "com/example/incant5/incant5/Term$IntegerConstant" "value" "Ljava/math/BigInteger;" .null
def QIC (Z : State) (a : Addr) (h0 : Heap) (n0 : Nat) (v : Option Value) (h : Heap) (L : List Loc) : Prop := v = none ∧ Fr n0 L ∧ Keep h0 h [a] ∧ Exa Z h a "com/example/incant5/incant5/Term$IntegerConstant"
def QIN (Z : State) (h0 : Heap) (n0 : Nat) (v : Option Value) (h : Heap) (L : List Loc) : Prop := ∃ a, v = some (.ref a) ∧ Fr n0 L ∧ Ext h0 h ∧ Exa Z h a "com/example/incant5/incant5/Term$IntegerConstant"
def own_BD (Z : State) (h : Heap) (b tr va : Addr) (kT kV : ClassId) (n : Int32) (tv vv : List Value) : Prop :=
  Exa Z h b "com/example/incant5/incant5/Bindings" ∧ Fld Z h b "com/example/incant5/incant5/Bindings" "trail" "[I" (.ref tr) ∧ Fld Z h b "com/example/incant5/incant5/Bindings" "values" "[Lcom/example/incant5/incant5/Term;" (.ref va) ∧ Fld Z h b "com/example/incant5/incant5/Bindings" "trailSize" "I" (.int n) ∧ Arv Z h tr kT .int 16 tv (.int (0 : Int32)) ∧ Arv Z h va kV (.object "com/example/incant5/incant5/Term") 4 vv .null ∧ Ovr Z kV "com/example/incant5/incant5/Term" ∧ b ≠ tr ∧ b ≠ va ∧ tr ≠ va
def QB (Z : State) (b tr va : Addr) (kT kV : ClassId) (n : Int32) (tv vv : List Value) (h0 : Heap) (n0 : Nat) (v : Option Value) (h : Heap) (L : List Loc) : Prop := v = none ∧ Fr n0 L ∧ Keep h0 h [b, tr, va] ∧ own_BD Z h b tr va kT kV n tv vv
def QBN (Z : State) (b : Addr) (h0 : Heap) (n0 : Nat) (v : Option Value) (h : Heap) (L : List Loc) : Prop := v = none ∧ Fr n0 L ∧ Keep h0 h [b] ∧ ∃ tr va kT kV, h0.size ≤ tr ∧ h0.size ≤ va ∧ own_BD Z h b tr va kT kV 0 [(.int (0 : Int32)), (.int (0 : Int32)), (.int (0 : Int32)), (.int (0 : Int32)), (.int (0 : Int32)), (.int (0 : Int32)), (.int (0 : Int32)), (.int (0 : Int32)), (.int (0 : Int32)), (.int (0 : Int32)), (.int (0 : Int32)), (.int (0 : Int32)), (.int (0 : Int32)), (.int (0 : Int32)), (.int (0 : Int32)), (.int (0 : Int32))] [.null, .null, .null, .null]

theorem own_ext {h h' : Heap} (K : Keep h h' []) : Ext h h' := ⟨K.1, fun x c q => K.2.1 x c q nin0⟩
theorem own_extWr {h0 h h' : Heap} {a : Addr} {sl : Nat} {v : Value} (E : Ext h0 h) (W : Wr h h' a sl v) (q : h0.size ≤ a) : Ext h0 h' := own_ext (((Keep.refl h0 []).ext E).wr W (Or.inr q))
theorem own_hx {Z : State} {h0 h : Heap} {cl : Cell} (H : ∀ j : Int32, 0 < j → ¬ 16 < j → (¬ (j < 0 ∨ cl.slots.size ≤ j.toNatClampNeg) ∧ ∃ w, cl.slots[j.toNatClampNeg]? = some (.ref w) ∧ own_MG Z h0 w)) (E : Ext h0 h) :
    ∀ j : Int32, 0 < j → ¬ 16 < j → (¬ (j < 0 ∨ cl.slots.size ≤ j.toNatClampNeg) ∧ ∃ w, cl.slots[j.toNatClampNeg]? = some (.ref w) ∧ own_MG Z h w) := fun j h1 h2 => by
  obtain ⟨q, w, e, M⟩ := H j h1 h2
  exact ⟨q, w, e, M.ext E⟩
section Mg
variable {Z : State} {args : Array Value} {t A : Term} {w pa : Addr} {cl0 : Cell} {ty : FieldType} {j x k : Int32}
theorem own_mg0 (v : t.eval args Z none [] Z = some (.ref w)) (ex : (Cond.exactly t "java/math/BigInteger").value args Z none Z [] = some true) (sg : (Cond.eq (Term.field t "java/math/BigInteger" "signum" "I") (Term.int k)).value args Z none Z [] = some true)
    (ar : (Cond.arrayOf (Term.field t "java/math/BigInteger" "mag" "[I") .int).value args Z none Z [] = some true) (ln : (Cond.eq (Term.length (Term.field t "java/math/BigInteger" "mag" "[I")) (Term.int 0)).value args Z none Z [] = some true) : own_MG Z Z.heap w := by
  obtain ⟨ma, vm⟩ := arr_v ar
  obtain ⟨cl, Ar⟩ := Arr.start vm ar
  exact ⟨Exa.start v ex, _, ma, cl, own_fld v sg, Fld.start ((fld_at v).symm.trans vm), Ar, Or.inl (own_len vm Ar ln)⟩
theorem own_mg1 (v : A.eval args Z none [] Z = some (.ref pa)) (Ar0 : Arr Z Z.heap pa cl0 ty) (ex : (Cond.exactly (Term.elem A (Term.int j)) "java/math/BigInteger").value args Z none Z [] = some true) (sg : (Cond.eq (Term.field (Term.elem A (Term.int j)) "java/math/BigInteger" "signum" "I") (Term.int k)).value args Z none Z [] = some true)
    (ar : (Cond.arrayOf (Term.field (Term.elem A (Term.int j)) "java/math/BigInteger" "mag" "[I") .int).value args Z none Z [] = some true) (ln : (Cond.eq (Term.length (Term.field (Term.elem A (Term.int j)) "java/math/BigInteger" "mag" "[I")) (Term.int 1)).value args Z none Z [] = some true)
    (el : (Cond.eq (Term.elem (Term.field (Term.elem A (Term.int j)) "java/math/BigInteger" "mag" "[I") (Term.int 0)) (Term.int x)).value args Z none Z [] = some true) :
    ¬ (j < 0 ∨ cl0.slots.size ≤ j.toNatClampNeg) ∧ ∃ w, cl0.slots[j.toNatClampNeg]? = some (.ref w) ∧ own_MG Z Z.heap w := by
  obtain ⟨w, ev⟩ := exa_v ex
  obtain ⟨cell, e1, e2, e3⟩ := Jvm.Lib.elem_at ev v (Term.int_eval j)
  cases Ar0.1.symm.trans e1
  obtain ⟨ma, vm⟩ := arr_v ar
  obtain ⟨cl, Ar⟩ := Arr.start vm ar
  refine ⟨e2, w, e3, Exa.start ev ex, _, ma, cl, own_fld ev sg, Fld.start ((fld_at ev).symm.trans vm), Ar, Or.inr (Or.inl ⟨own_len vm Ar ln, ?_⟩)⟩
  obtain ⟨y, z, hy, hz, hk, -⟩ := cmp_v (Or.inl el)
  obtain rfl : z = .int x := (Option.some.inj ((Term.int_eval x).symm.trans hz)).symm
  obtain ⟨c2, f1, f2, f3⟩ := Jvm.Lib.elem_at hy vm (Term.int_eval 0)
  cases Ar.1.symm.trans f1
  cases y <;> simp [Kin, Value.isRef] at hk
  exact ⟨f2, _, f3⟩
end Mg
section Calls
variable {p : Program} {l : Launch} {e : Env} {R : Room} {s : State} {m : MethodId} {args : Array Value} {below : List Frame} {meth : Method} {c : Code} {T : State} {locs : List Loc} {cells slots : Nat} {Z : State} {a0 : Array Value}
theorem own_joinH {n0 : Nat} {G : State → Heap → Prop} {P : Prop} (X : Stand p l e R s m args below meth c T locs cells slots) (J : ∀ T' locs' h', Stand p l e R s m args below meth c T' locs' cells slots → T'.heap = h' → Fr n0 locs' → G T' h')
    (k : (∀ T' locs' h', Stand p l e R s m args below meth c T' locs' cells slots → T'.heap = h' → Fr n0 locs' → G T' h') → P) : P := k J
theorem own_mvNest {own host : String} {index : Nat} {y : MethodName} (hZ : Z.Warmed39 s.vm) (w : (Cond.methodLinkNest own index y host).before a0 Z = true) : (Cond.methodLinkNest own index y host).before args s = true := (Cond.methodLinkNest_wide hZ w :)
theorem own_mvRef {own : String} {index : Nat} {y : MethodName} (hZ : Z.Warmed39 s.vm) (wi : (Cond.instanceMethod y).before a0 Z = true) (w : (Cond.methodRef own index y).before a0 Z = true) (hy : y.cls ≠ "java/lang/invoke/MethodHandle" ∧ y.cls ≠ "java/lang/invoke/VarHandle" := by decide) : (Cond.methodRef own index y).before args s = true := by
  obtain ⟨mk, methM, hn, -⟩ := Cond.instanceMethod_spec wi
  have h1 : (Cond.methodRef own index y).before a0 (Z.setVm s.vm) = true := Cond.methodRef_warmed39 hZ hn hy w
  exact h1
/-- 'invokespecial' of a constructor through an entry that is resolved already -/
theorem own_specialRef (X : Stand p l e R s m args below meth c T locs cells slots) (hexec : p.tables.exec = Jvm.exec) {own : String} {index : Nat} {y : MethodName} (hy1 : y.name = "<init>")
    (hown : s.vm.findClass own = some m.cls) (hlink : (Cond.methodRef own index y).before args s = true) (hinst : (Cond.instanceMethod y).before args s = true)
    {bytes : ByteArray} {maxL : Nat} (hcode : (Cond.code y bytes maxL none).before args s = true)
    (hy : y.cls ≠ "java/lang/invoke/MethodHandle" ∧ y.cls ≠ "java/lang/invoke/VarHandle")
    {W : Nat} {Pre : Pt → Array Value → Prop} {Post : Pt → Array Value → Option Value → Pt → Prop} (hK : Back l R p e below s args y 3 W Pre Post)
    {g : JFrame} (hg : g.method = m) (hsize : g.locals.size = c.maxLocals) {s₀ : State} (hcome : Steps p.tables e below s₀ (T.setTop g)) {a : Addr} {argsL rest : List Value}
    (hlen : ∀ sig, parseMethodDescriptor y.desc = some sig → argsL.length = sig.parameters.length) (hstack : g.stack = argsL.reverse ++ .ref a :: rest) (hW : 2 * g.monitorRoom + (rest.map fun v => v.category).sum ≤ W)
    (hdg : decode c.code g.pc = .ok (.invokespecial index, 3)) (hpre : ∀ vm₁, s.WarmedH vm₁ → Pre ⟨T.setVm vm₁, locs, cells, slots⟩ (.ref a :: argsL).toArray) :
    ∃ (v : Option Value) (vm₁ : Vm) (B : Pt), s.WarmedH vm₁ ∧ Stand p l e R s m args below meth c B.U B.locs B.cells B.slots ∧ Post ⟨T.setVm vm₁, locs, cells, slots⟩ (.ref a :: argsL).toArray v B ∧
      Steps p.tables e below s₀ (B.U.setTop { g with pc := g.pc + 3, stack := v.toList ++ rest }) := by
  obtain ⟨obj, methO, hnO, hmO, hstO, habO⟩ := Cond.instanceMethod_spec hinst
  obtain ⟨methO', cO, hmO', -, -, -, -, -, -, hsigO⟩ := Cond.code_spec hnO hcode
  cases hmO.symm.trans hmO'
  obtain ⟨kO, hkO, hnameO⟩ := className_of_methodNamed hnO
  obtain ⟨hnameMO, hdescO⟩ := name_of_methodNamed hnO hmO
  have hr := Cond.methodRef_warmed X.warmed hnO hy hlink
  have hown' : (s.setVm T.vm).vm.findClass own = some m.cls := (X.warmed.alike.findClass _ _).trans hown
  obtain ⟨m', c', hf, hready, hfind, hnr⟩ := Cond.methodRef_named e hown' hr
  have hn' : (s.setVm T.vm).methodNamed? y = some obj := by rw [State.methodNamed?_setVm X.warmed.alike]; exact hnO
  cases (State.methodFound?_of_named hn' hy).symm.trans hf
  have hc' : c' = obj.cls := Option.some.inj (hfind.symm.trans (findClass_of_methodNamed hn'))
  subst hc'
  obtain ⟨kO₂, hkO₂, -⟩ := X.warmed.alike.2.2 _ _ hkO
  have hmO₂ : T.vm.method? obj = some methO := by rw [X.warmed.alike.method?]; exact hmO
  have hfound : lookupSpecial T.vm obj.cls "<init>" methO.desc = .method obj := by
    rw [X.warmed.alike.lookupSpecial, hdescO, ← hy1]; exact lookupSpecial_of_named hnO hmO hstO
  have eT : T.setVm T.vm = T := rfl
  have hstep : Steps p.tables e below (T.setTop g) (doInvoke e (T.setTop { g with stack := rest }) [] obj (.ref a :: argsL).toArray).1 := by
    subst hg
    jvm_step X.here [hexec, hdg, invokespecial.wp_init (e := e) (s := T) (k := kO₂) (meth := methO) (m := obj) (a := a) (args := argsL) (rest := rest) (f := g) X.here.top hnr hready hkO₂ hmO₂ (by rw [hnameMO]; exact hy1) hstO habO hfound (hlen _ hsigO) hstack]
    intro acts
    rw [doInvoke_state]
    exact Steps.refl _
  obtain ⟨v, B, X', hpost, hsteps⟩ := hK m meth c ⟨T.setVm T.vm, locs, cells, slots⟩ { g with stack := rest } (.invokespecial index) obj (.ref a :: argsL).toArray X hg hsize hdg hW hn' (hpre T.vm X.warmed)
  exact ⟨v, T.vm, B, X.warmed, X', hpost, (hcome.trans hstep).trans hsteps⟩
end Calls

theorem ef_rmMin (m : MethodId) (x0 : Int32) (x1 : Int32) : entryFrame m #[(.int x0), (.int x1)] 2 = mkF m 0 #[(.val (.int x0)), (.val (.int x1))] [] := by first | (simp [entryFrame, mkF, argsToLocals, Value.category]; done) | rfl
set_option maxRecDepth 65536 in
set_option maxHeartbeats 40000000 in
theorem rmMin (l : Launch) (Z : State) (a0 : Array Value) (hw : ∀ d ∈ tables_1, d.before a0 Z = true) (ws : List Jvm.Cond) (x y r : Int32) (h0 : Heap) (n0 : Nat) (Z0 : n0 ≤ h0.size) (hr : (if y < x then y else x) = r) :
    MetFree l (⟨"java/lang/Math", "min", "(II)I"⟩ : MethodName) (head1 (Jvm.Cond.code (⟨"java/lang/Math", "min", "(II)I"⟩ : MethodName) jdk_29_method_69_code 2 (some .int) :: ws) ({ frames := 0, cells := 0, slots := 0, locals := 0 } : Room)) (fun aa UU => aa = #[(.int x), (.int y)] ∧ Z.Warmed39 UU.vm ∧ UU.heap = h0) (fun _ _ _ _ _ => True) (fun _ UU oo UU' => ∃ vr Lr, oo = .returned vr ∧ (Qv (some (.int r)) h0 n0) vr UU'.heap Lr ∧ FrameEnd UU oo UU' Lr ({ frames := 0, cells := 0, slots := 0, locals := 0 } : Room).cells ({ frames := 0, cells := 0, slots := 0, locals := 0 } : Room).slots) := by
  refine MetFree.of_bodySF (Jvm.Free.JP.mathPlain rfl (by decide +kernel)) hisR ?_
  intro p e s m args below meth c s₁ Bd hml0 hP hK
  obtain ⟨rfl, hZ, hh⟩ := hP
  have hx := Bd.exec
  have hby := Bd.bytes
  have hml : c.maxLocals = 2 := hml0
  have hown : s.vm.findClass "java/lang/Math" = some m.cls := findClass_of_methodNamed Bd.named
  have hnm := (name_of_methodNamed Bd.named Bd.method).1
  have hlk := Bd.notSynchronized
  have X0 : Stand p l e ({ frames := 0, cells := 0, slots := 0, locals := 0 } : Room) s m #[(.int x), (.int y)] below meth c s₁ [] 0 0 := Stand.of_body Bd
  have e0 : s₁.heap = h0 := by rw [← hh, Bd.state]; rfl
  have N0 := Fr.nil n0
  show Owes p e below s (Qv (some (.int r)) h0 n0) ({ frames := 0, cells := 0, slots := 0, locals := 0 } : Room).cells ({ frames := 0, cells := 0, slots := 0, locals := 0 } : Room).slots s₁ (entryFrame m #[(.int x), (.int y)] 2)
  rw [ef_rmMin m x y]
  show Owes p e below s (Qv (some (.int r)) h0 n0) ({ frames := 0, cells := 0, slots := 0, locals := 0 } : Room).cells ({ frames := 0, cells := 0, slots := 0, locals := 0 } : Room).slots s₁ (mkF m 0 #[(.val (.int x)), (.val (.int y))] [])
  refine Owes.by (fun _ kq => XS.iloadN X0.here hx rfl (hb hby d13_0) rfl kq) ?_
  show Owes p e below s (Qv (some (.int r)) h0 n0) ({ frames := 0, cells := 0, slots := 0, locals := 0 } : Room).cells ({ frames := 0, cells := 0, slots := 0, locals := 0 } : Room).slots s₁ (mkF m 1 #[(.val (.int x)), (.val (.int y))] [(.int x)])
  refine Owes.by (fun _ kq => XS.iloadN X0.here hx rfl (hb hby d13_1) rfl kq) ?_
  show Owes p e below s (Qv (some (.int r)) h0 n0) ({ frames := 0, cells := 0, slots := 0, locals := 0 } : Room).cells ({ frames := 0, cells := 0, slots := 0, locals := 0 } : Room).slots s₁ (mkF m 2 #[(.val (.int x)), (.val (.int y))] [(.int y), (.int x)])
  by_cases q : y < x
  · skip
    refine Owes.by (fun _ kq => XS.icmpYes X0.here hx rfl (pc0 := 2) (pc' := 9) rfl (hb hby d13_2) rfl (XT.ii_gt_t q) (by decide) (by decide) kq) ?_
    show Owes p e below s (Qv (some (.int r)) h0 n0) ({ frames := 0, cells := 0, slots := 0, locals := 0 } : Room).cells ({ frames := 0, cells := 0, slots := 0, locals := 0 } : Room).slots s₁ (mkF m 9 #[(.val (.int x)), (.val (.int y))] [])
    refine Owes.by (fun _ kq => XS.iloadN X0.here hx rfl (hb hby d13_9) rfl kq) ?_
    show Owes p e below s (Qv (some (.int r)) h0 n0) ({ frames := 0, cells := 0, slots := 0, locals := 0 } : Room).cells ({ frames := 0, cells := 0, slots := 0, locals := 0 } : Room).slots s₁ (mkF m 10 #[(.val (.int x)), (.val (.int y))] [(.int y)])
    refine Owes.ret X0 (v := some (.int y)) (fun h => by rw [Bd.returns] at h; cases h) hlk ?_ (by decide) (by decide) (fun fs hr => retOut X0 hx Bd.returns rfl (Or.inl ⟨rfl, Or.inl rfl, _, rfl⟩) (hb hby d13_10) hr)
    rw [e0]
    exact ⟨by rw [← hr, if_pos q], rfl, rfl⟩
  · skip
    refine Owes.by (fun _ kq => XS.icmpNo X0.here hx rfl (hb hby d13_2) rfl (XT.ii_gt_f q) kq) ?_
    show Owes p e below s (Qv (some (.int r)) h0 n0) ({ frames := 0, cells := 0, slots := 0, locals := 0 } : Room).cells ({ frames := 0, cells := 0, slots := 0, locals := 0 } : Room).slots s₁ (mkF m 5 #[(.val (.int x)), (.val (.int y))] [])
    refine Owes.by (fun _ kq => XS.iloadN X0.here hx rfl (hb hby d13_5) rfl kq) ?_
    show Owes p e below s (Qv (some (.int r)) h0 n0) ({ frames := 0, cells := 0, slots := 0, locals := 0 } : Room).cells ({ frames := 0, cells := 0, slots := 0, locals := 0 } : Room).slots s₁ (mkF m 6 #[(.val (.int x)), (.val (.int y))] [(.int x)])
    refine Owes.by (fun _ kq => XS.goto X0.here hx rfl (pc0 := 6) (pc' := 10) rfl (hb hby d13_6) (by decide) (by decide) kq) ?_
    show Owes p e below s (Qv (some (.int r)) h0 n0) ({ frames := 0, cells := 0, slots := 0, locals := 0 } : Room).cells ({ frames := 0, cells := 0, slots := 0, locals := 0 } : Room).slots s₁ (mkF m 10 #[(.val (.int x)), (.val (.int y))] [(.int x)])
    refine Owes.ret X0 (v := some (.int x)) (fun h => by rw [Bd.returns] at h; cases h) hlk ?_ (by decide) (by decide) (fun fs hr => retOut X0 hx Bd.returns rfl (Or.inl ⟨rfl, Or.inl rfl, _, rfl⟩) (hb hby d13_10) hr)
    rw [e0]
    exact ⟨by rw [← hr, if_neg q], rfl, rfl⟩
theorem ef_rmA (m : MethodId) (x0 : Addr) (x1 : Int32) (x2 : Int32) (x3 : Int32) : entryFrame m #[(.ref x0), (.int x1), (.int x2), (.int x3)] 4 = mkF m 0 #[(.val (.ref x0)), (.val (.int x1)), (.val (.int x2)), (.val (.int x3))] [] := by first | (simp [entryFrame, mkF, argsToLocals, Value.category]; done) | rfl
set_option maxRecDepth 65536 in
set_option maxHeartbeats 40000000 in
theorem rmA (l : Launch) (Z : State) (a0 : Array Value) (hw : ∀ d ∈ tables_1, d.before a0 Z = true) (ws : List Jvm.Cond) (sl : Addr) (cl : Cell) (i n s0 x r : Int32) (h0 : Heap) (n0 : Nat) (Z0 : n0 ≤ h0.size) (Ar : Arr Z h0 sl cl .int) (hat : ¬ (i < 0 ∨ cl.slots.size ≤ i.toNatClampNeg) ∧ cl.slots[i.toNatClampNeg]? = some (.int x)) (hr : (own_at i n s0 x ∧ r = 1) ∨ (¬ own_at i n s0 x ∧ r = 0)) :
    MetFree l (⟨"com/example/incant5/incant5/BindingsUndoPinLaw", "at", "([IIII)Z"⟩ : MethodName) (head1 (Jvm.Cond.code (⟨"com/example/incant5/incant5/BindingsUndoPinLaw", "at", "([IIII)Z"⟩ : MethodName) method_3_code 4 (some .boolean) :: ws) ({ frames := 0, cells := 0, slots := 0, locals := 0 } : Room)) (fun aa UU => aa = #[(.ref sl), (.int i), (.int n), (.int s0)] ∧ Z.Warmed39 UU.vm ∧ UU.heap = h0) (fun _ _ _ _ _ => True) (fun _ UU oo UU' => ∃ vr Lr, oo = .returned vr ∧ (Qv (some (.int r)) h0 n0) vr UU'.heap Lr ∧ FrameEnd UU oo UU' Lr ({ frames := 0, cells := 0, slots := 0, locals := 0 } : Room).cells ({ frames := 0, cells := 0, slots := 0, locals := 0 } : Room).slots) := by
  refine MetFree.of_bodySF (plainFor_of_name pn_BindingsUndoPinLaw) hisR ?_
  intro p e s m args below meth c s₁ Bd hml0 hP hK
  obtain ⟨rfl, hZ, hh⟩ := hP
  have hx := Bd.exec
  have hby := Bd.bytes
  have hml : c.maxLocals = 4 := hml0
  have hown : s.vm.findClass "com/example/incant5/incant5/BindingsUndoPinLaw" = some m.cls := findClass_of_methodNamed Bd.named
  have hnm := (name_of_methodNamed Bd.named Bd.method).1
  have hlk := Bd.notSynchronized
  have X0 : Stand p l e ({ frames := 0, cells := 0, slots := 0, locals := 0 } : Room) s m #[(.ref sl), (.int i), (.int n), (.int s0)] below meth c s₁ [] 0 0 := Stand.of_body Bd
  have e0 : s₁.heap = h0 := by rw [← hh, Bd.state]; rfl
  have N0 := Fr.nil n0
  show Owes p e below s (Qv (some (.int r)) h0 n0) ({ frames := 0, cells := 0, slots := 0, locals := 0 } : Room).cells ({ frames := 0, cells := 0, slots := 0, locals := 0 } : Room).slots s₁ (entryFrame m #[(.ref sl), (.int i), (.int n), (.int s0)] 4)
  rw [ef_rmA m sl i n s0]
  show Owes p e below s (Qv (some (.int r)) h0 n0) ({ frames := 0, cells := 0, slots := 0, locals := 0 } : Room).cells ({ frames := 0, cells := 0, slots := 0, locals := 0 } : Room).slots s₁ (mkF m 0 #[(.val (.ref sl)), (.val (.int i)), (.val (.int n)), (.val (.int s0))] [])
  refine Owes.by (fun _ kq => XS.iloadN X0.here hx rfl (hb hby d17_0) rfl kq) ?_
  show Owes p e below s (Qv (some (.int r)) h0 n0) ({ frames := 0, cells := 0, slots := 0, locals := 0 } : Room).cells ({ frames := 0, cells := 0, slots := 0, locals := 0 } : Room).slots s₁ (mkF m 1 #[(.val (.ref sl)), (.val (.int i)), (.val (.int n)), (.val (.int s0))] [(.int i)])
  refine Owes.by (fun _ kq => XS.iloadN X0.here hx rfl (hb hby d17_1) rfl kq) ?_
  show Owes p e below s (Qv (some (.int r)) h0 n0) ({ frames := 0, cells := 0, slots := 0, locals := 0 } : Room).cells ({ frames := 0, cells := 0, slots := 0, locals := 0 } : Room).slots s₁ (mkF m 2 #[(.val (.ref sl)), (.val (.int i)), (.val (.int n)), (.val (.int s0))] [(.int n), (.int i)])
  by_cases q : i < n
  · skip
    refine Owes.by (fun _ kq => XS.icmpNo X0.here hx rfl (hb hby d17_2) rfl (XT.ii_ge_f q) kq) ?_
    show Owes p e below s (Qv (some (.int r)) h0 n0) ({ frames := 0, cells := 0, slots := 0, locals := 0 } : Room).cells ({ frames := 0, cells := 0, slots := 0, locals := 0 } : Room).slots s₁ (mkF m 5 #[(.val (.ref sl)), (.val (.int i)), (.val (.int n)), (.val (.int s0))] [])
    refine Owes.by (fun _ kq => XS.aloadN X0.here hx rfl (hb hby d17_5) rfl rfl kq) ?_
    show Owes p e below s (Qv (some (.int r)) h0 n0) ({ frames := 0, cells := 0, slots := 0, locals := 0 } : Room).cells ({ frames := 0, cells := 0, slots := 0, locals := 0 } : Room).slots s₁ (mkF m 6 #[(.val (.ref sl)), (.val (.int i)), (.val (.int n)), (.val (.int s0))] [(.ref sl)])
    refine Owes.by (fun _ kq => XS.iloadN X0.here hx rfl (hb hby d17_6) rfl kq) ?_
    show Owes p e below s (Qv (some (.int r)) h0 n0) ({ frames := 0, cells := 0, slots := 0, locals := 0 } : Room).cells ({ frames := 0, cells := 0, slots := 0, locals := 0 } : Room).slots s₁ (mkF m 7 #[(.val (.ref sl)), (.val (.int i)), (.val (.int n)), (.val (.int s0))] [(.int i), (.ref sl)])
    refine Owes.by (fun tq kq => X0.iaload hx (j := i) (v := (.int x)) (by rw [e0]; exact Ar.1) (State.isArrayOf_alike hZ.alike Ar.2.1) Ar.2.2 hat.1 hat.2 (g := (mkF m 7 #[(.val (.ref sl)), (.val (.int i)), (.val (.int n)), (.val (.int s0))] [(.int i), (.ref sl)])) rfl rfl (hb hby d17_7) tq kq) ?_
    show Owes p e below s (Qv (some (.int r)) h0 n0) ({ frames := 0, cells := 0, slots := 0, locals := 0 } : Room).cells ({ frames := 0, cells := 0, slots := 0, locals := 0 } : Room).slots s₁ (mkF m 8 #[(.val (.ref sl)), (.val (.int i)), (.val (.int n)), (.val (.int s0))] [(.int x)])
    refine Owes.by (fun _ kq => XS.iloadN X0.here hx rfl (hb hby d17_8) rfl kq) ?_
    show Owes p e below s (Qv (some (.int r)) h0 n0) ({ frames := 0, cells := 0, slots := 0, locals := 0 } : Room).cells ({ frames := 0, cells := 0, slots := 0, locals := 0 } : Room).slots s₁ (mkF m 9 #[(.val (.ref sl)), (.val (.int i)), (.val (.int n)), (.val (.int s0))] [(.int s0), (.int x)])
    by_cases q' : x = s0
    · skip
      refine Owes.by (fun _ kq => XS.icmpNo X0.here hx rfl (hb hby d17_9) rfl (XT.ii_ne_f q') kq) ?_
      show Owes p e below s (Qv (some (.int r)) h0 n0) ({ frames := 0, cells := 0, slots := 0, locals := 0 } : Room).cells ({ frames := 0, cells := 0, slots := 0, locals := 0 } : Room).slots s₁ (mkF m 12 #[(.val (.ref sl)), (.val (.int i)), (.val (.int n)), (.val (.int s0))] [])
      refine Owes.by (fun _ kq => XS.iconst X0.here hx rfl (hb hby d17_12) kq) ?_
      show Owes p e below s (Qv (some (.int r)) h0 n0) ({ frames := 0, cells := 0, slots := 0, locals := 0 } : Room).cells ({ frames := 0, cells := 0, slots := 0, locals := 0 } : Room).slots s₁ (mkF m 13 #[(.val (.ref sl)), (.val (.int i)), (.val (.int n)), (.val (.int s0))] [(.int (1 : Int32))])
      refine Owes.by (fun _ kq => XS.goto X0.here hx rfl (pc0 := 13) (pc' := 17) rfl (hb hby d17_13) (by decide) (by decide) kq) ?_
      show Owes p e below s (Qv (some (.int r)) h0 n0) ({ frames := 0, cells := 0, slots := 0, locals := 0 } : Room).cells ({ frames := 0, cells := 0, slots := 0, locals := 0 } : Room).slots s₁ (mkF m 17 #[(.val (.ref sl)), (.val (.int i)), (.val (.int n)), (.val (.int s0))] [(.int (1 : Int32))])
      refine Owes.ret X0 (v := some (.int (1 : Int32))) (fun h => by rw [Bd.returns] at h; cases h) hlk ?_ (by decide) (by decide) (fun fs hr => retN X0 hx (t := .boolean) Bd.returns (by simp) (hb hby d17_17) hr)
      rw [e0]
      exact ⟨own_r1 hr ⟨q, q'⟩, rfl, rfl⟩
    · skip
      refine Owes.by (fun _ kq => XS.icmpYes X0.here hx rfl (pc0 := 9) (pc' := 16) rfl (hb hby d17_9) rfl (XT.ii_ne_t q') (by decide) (by decide) kq) ?_
      show Owes p e below s (Qv (some (.int r)) h0 n0) ({ frames := 0, cells := 0, slots := 0, locals := 0 } : Room).cells ({ frames := 0, cells := 0, slots := 0, locals := 0 } : Room).slots s₁ (mkF m 16 #[(.val (.ref sl)), (.val (.int i)), (.val (.int n)), (.val (.int s0))] [])
      refine Owes.by (fun _ kq => XS.iconst X0.here hx rfl (hb hby d17_16) kq) ?_
      show Owes p e below s (Qv (some (.int r)) h0 n0) ({ frames := 0, cells := 0, slots := 0, locals := 0 } : Room).cells ({ frames := 0, cells := 0, slots := 0, locals := 0 } : Room).slots s₁ (mkF m 17 #[(.val (.ref sl)), (.val (.int i)), (.val (.int n)), (.val (.int s0))] [(.int (0 : Int32))])
      refine Owes.ret X0 (v := some (.int (0 : Int32))) (fun h => by rw [Bd.returns] at h; cases h) hlk ?_ (by decide) (by decide) (fun fs hr => retN X0 hx (t := .boolean) Bd.returns (by simp) (hb hby d17_17) hr)
      rw [e0]
      exact ⟨own_r0 hr (fun h => q' h.2), rfl, rfl⟩
  · skip
    refine Owes.by (fun _ kq => XS.icmpYes X0.here hx rfl (pc0 := 2) (pc' := 16) rfl (hb hby d17_2) rfl (XT.ii_ge_t q) (by decide) (by decide) kq) ?_
    show Owes p e below s (Qv (some (.int r)) h0 n0) ({ frames := 0, cells := 0, slots := 0, locals := 0 } : Room).cells ({ frames := 0, cells := 0, slots := 0, locals := 0 } : Room).slots s₁ (mkF m 16 #[(.val (.ref sl)), (.val (.int i)), (.val (.int n)), (.val (.int s0))] [])
    refine Owes.by (fun _ kq => XS.iconst X0.here hx rfl (hb hby d17_16) kq) ?_
    show Owes p e below s (Qv (some (.int r)) h0 n0) ({ frames := 0, cells := 0, slots := 0, locals := 0 } : Room).cells ({ frames := 0, cells := 0, slots := 0, locals := 0 } : Room).slots s₁ (mkF m 17 #[(.val (.ref sl)), (.val (.int i)), (.val (.int n)), (.val (.int s0))] [(.int (0 : Int32))])
    refine Owes.ret X0 (v := some (.int (0 : Int32))) (fun h => by rw [Bd.returns] at h; cases h) hlk ?_ (by decide) (by decide) (fun fs hr => retN X0 hx (t := .boolean) Bd.returns (by simp) (hb hby d17_17) hr)
    rw [e0]
    exact ⟨own_r0 hr (fun h => q h.1), rfl, rfl⟩
theorem ef_rmK (m : MethodId) (x0 : Addr) (x1 : Int32) (x2 : Int32) (x3 : Int32) : entryFrame m #[(.ref x0), (.int x1), (.int x2), (.int x3)] 6 = mkF m 0 #[(.val (.ref x0)), (.val (.int x1)), (.val (.int x2)), (.val (.int x3)), .unset, .unset] [] := by first | (simp [entryFrame, mkF, argsToLocals, Value.category]; done) | rfl
set_option maxRecDepth 65536 in
set_option maxHeartbeats 40000000 in
theorem rmK (l : Launch) (Z : State) (a0 : Array Value) (hw : ∀ d ∈ tables_1, d.before a0 Z = true) (ws : List Jvm.Cond) (sl : Addr) (cl : Cell) (n k s0 x0 x1 x2 x3 r : Int32) (h0 : Heap) (n0 : Nat) (Z0 : n0 ≤ h0.size) (Ar : Arr Z h0 sl cl .int) (at0 : ¬ ((0 : Int32) < 0 ∨ cl.slots.size ≤ (0 : Int32).toNatClampNeg) ∧ cl.slots[(0 : Int32).toNatClampNeg]? = some (.int x0)) (at1 : ¬ ((1 : Int32) < 0 ∨ cl.slots.size ≤ (1 : Int32).toNatClampNeg) ∧ cl.slots[(1 : Int32).toNatClampNeg]? = some (.int x1)) (at2 : ¬ ((2 : Int32) < 0 ∨ cl.slots.size ≤ (2 : Int32).toNatClampNeg) ∧ cl.slots[(2 : Int32).toNatClampNeg]? = some (.int x2)) (at3 : ¬ ((3 : Int32) < 0 ∨ cl.slots.size ≤ (3 : Int32).toNatClampNeg) ∧ cl.slots[(3 : Int32).toNatClampNeg]? = some (.int x3)) (hr : (own_kept n k s0 x0 x1 x2 x3 ∧ r = 1) ∨ (¬ own_kept n k s0 x0 x1 x2 x3 ∧ r = 0)) :
    MetFree l (⟨"com/example/incant5/incant5/BindingsUndoPinLaw", "kept", "([IIII)Z"⟩ : MethodName) (head1 (Jvm.Cond.code (⟨"com/example/incant5/incant5/BindingsUndoPinLaw", "kept", "([IIII)Z"⟩ : MethodName) method_4_code 6 (some .boolean) :: ws) ({ frames := 1, cells := 0, slots := 0, locals := 18 } : Room)) (fun aa UU => aa = #[(.ref sl), (.int n), (.int k), (.int s0)] ∧ Z.Warmed39 UU.vm ∧ UU.heap = h0) (fun _ _ _ _ _ => True) (fun _ UU oo UU' => ∃ vr Lr, oo = .returned vr ∧ (Qv (some (.int r)) h0 n0) vr UU'.heap Lr ∧ FrameEnd UU oo UU' Lr ({ frames := 1, cells := 0, slots := 0, locals := 18 } : Room).cells ({ frames := 1, cells := 0, slots := 0, locals := 18 } : Room).slots) := by
  refine MetFree.of_bodySF (plainFor_of_name pn_BindingsUndoPinLaw) hisR ?_
  intro p e s m args below meth c s₁ Bd hml0 hP hK
  obtain ⟨rfl, hZ, hh⟩ := hP
  have hx := Bd.exec
  have hby := Bd.bytes
  have hml : c.maxLocals = 6 := hml0
  have hown : s.vm.findClass "com/example/incant5/incant5/BindingsUndoPinLaw" = some m.cls := findClass_of_methodNamed Bd.named
  have hnm := (name_of_methodNamed Bd.named Bd.method).1
  have hlk := Bd.notSynchronized
  have X0 : Stand p l e ({ frames := 1, cells := 0, slots := 0, locals := 18 } : Room) s m #[(.ref sl), (.int n), (.int k), (.int s0)] below meth c s₁ [] 0 0 := Stand.of_body Bd
  have e0 : s₁.heap = h0 := by rw [← hh, Bd.state]; rfl
  have N0 := Fr.nil n0
  show Owes p e below s (Qv (some (.int r)) h0 n0) ({ frames := 1, cells := 0, slots := 0, locals := 18 } : Room).cells ({ frames := 1, cells := 0, slots := 0, locals := 18 } : Room).slots s₁ (entryFrame m #[(.ref sl), (.int n), (.int k), (.int s0)] 6)
  rw [ef_rmK m sl n k s0]
  show Owes p e below s (Qv (some (.int r)) h0 n0) ({ frames := 1, cells := 0, slots := 0, locals := 18 } : Room).cells ({ frames := 1, cells := 0, slots := 0, locals := 18 } : Room).slots s₁ (mkF m 0 #[(.val (.ref sl)), (.val (.int n)), (.val (.int k)), (.val (.int s0)), .unset, .unset] [])
  refine Owes.by (fun _ kq => XS.iconst X0.here hx rfl (hb hby d16_0) kq) ?_
  show Owes p e below s (Qv (some (.int r)) h0 n0) ({ frames := 1, cells := 0, slots := 0, locals := 18 } : Room).cells ({ frames := 1, cells := 0, slots := 0, locals := 18 } : Room).slots s₁ (mkF m 1 #[(.val (.ref sl)), (.val (.int n)), (.val (.int k)), (.val (.int s0)), .unset, .unset] [(.int (0 : Int32))])
  refine Owes.by (fun _ kq => XS.iloadN X0.here hx rfl (hb hby d16_1) rfl kq) ?_
  show Owes p e below s (Qv (some (.int r)) h0 n0) ({ frames := 1, cells := 0, slots := 0, locals := 18 } : Room).cells ({ frames := 1, cells := 0, slots := 0, locals := 18 } : Room).slots s₁ (mkF m 2 #[(.val (.ref sl)), (.val (.int n)), (.val (.int k)), (.val (.int s0)), .unset, .unset] [(.int k), (.int (0 : Int32))])
  refine own_join X0 (h := h0) (G := fun T' => ∀ (b65 : Int32), ((own_bef n k s0 x0 x1 x2 x3 ∧ b65 = 1) ∨ (¬ own_bef n k s0 x0 x1 x2 x3 ∧ b65 = 0)) → Owes p e below s (Qv (some (.int r)) h0 n0) ({ frames := 1, cells := 0, slots := 0, locals := 18 } : Room).cells ({ frames := 1, cells := 0, slots := 0, locals := 18 } : Room).slots T' (mkF m 65 #[(.val (.ref sl)), (.val (.int n)), (.val (.int k)), (.val (.int s0)), .unset, .unset] [(.int b65)])) (fun T1 X1 e1 b65 hb65 => ?_) (fun J1 => ?_)
  · skip
    show Owes p e below s (Qv (some (.int r)) h0 n0) ({ frames := 1, cells := 0, slots := 0, locals := 18 } : Room).cells ({ frames := 1, cells := 0, slots := 0, locals := 18 } : Room).slots T1 (mkF m 65 #[(.val (.ref sl)), (.val (.int n)), (.val (.int k)), (.val (.int s0)), .unset, .unset] [(.int b65)])
    refine Owes.by (fun _ kq => XS.istore X1.here hx rfl (hb hby d16_65) rfl (l' := #[(.val (.ref sl)), (.val (.int n)), (.val (.int k)), (.val (.int s0)), (.val (.int b65)), .unset]) rfl kq) ?_
    show Owes p e below s (Qv (some (.int r)) h0 n0) ({ frames := 1, cells := 0, slots := 0, locals := 18 } : Room).cells ({ frames := 1, cells := 0, slots := 0, locals := 18 } : Room).slots T1 (mkF m 67 #[(.val (.ref sl)), (.val (.int n)), (.val (.int k)), (.val (.int s0)), (.val (.int b65)), .unset] [])
    refine Owes.by (fun _ kq => XS.iconst X1.here hx rfl (hb hby d16_67) kq) ?_
    show Owes p e below s (Qv (some (.int r)) h0 n0) ({ frames := 1, cells := 0, slots := 0, locals := 18 } : Room).cells ({ frames := 1, cells := 0, slots := 0, locals := 18 } : Room).slots T1 (mkF m 68 #[(.val (.ref sl)), (.val (.int n)), (.val (.int k)), (.val (.int s0)), (.val (.int b65)), .unset] [(.int (0 : Int32))])
    refine Owes.by (fun _ kq => XS.iloadN X1.here hx rfl (hb hby d16_68) rfl kq) ?_
    show Owes p e below s (Qv (some (.int r)) h0 n0) ({ frames := 1, cells := 0, slots := 0, locals := 18 } : Room).cells ({ frames := 1, cells := 0, slots := 0, locals := 18 } : Room).slots T1 (mkF m 69 #[(.val (.ref sl)), (.val (.int n)), (.val (.int k)), (.val (.int s0)), (.val (.int b65)), .unset] [(.int k), (.int (0 : Int32))])
    refine own_join X1 (h := h0) (G := fun T' => ∀ (b132 : Int32), ((own_aft n k s0 x0 x1 x2 x3 ∧ b132 = 1) ∨ (¬ own_aft n k s0 x0 x1 x2 x3 ∧ b132 = 0)) → Owes p e below s (Qv (some (.int r)) h0 n0) ({ frames := 1, cells := 0, slots := 0, locals := 18 } : Room).cells ({ frames := 1, cells := 0, slots := 0, locals := 18 } : Room).slots T' (mkF m 132 #[(.val (.ref sl)), (.val (.int n)), (.val (.int k)), (.val (.int s0)), (.val (.int b65)), .unset] [(.int b132)])) (fun T2 X2 e2 b132 hb132 => ?_) (fun J2 => ?_)
    · skip
      show Owes p e below s (Qv (some (.int r)) h0 n0) ({ frames := 1, cells := 0, slots := 0, locals := 18 } : Room).cells ({ frames := 1, cells := 0, slots := 0, locals := 18 } : Room).slots T2 (mkF m 132 #[(.val (.ref sl)), (.val (.int n)), (.val (.int k)), (.val (.int s0)), (.val (.int b65)), .unset] [(.int b132)])
      refine Owes.by (fun _ kq => XS.istore X2.here hx rfl (hb hby d16_132) rfl (l' := #[(.val (.ref sl)), (.val (.int n)), (.val (.int k)), (.val (.int s0)), (.val (.int b65)), (.val (.int b132))]) rfl kq) ?_
      show Owes p e below s (Qv (some (.int r)) h0 n0) ({ frames := 1, cells := 0, slots := 0, locals := 18 } : Room).cells ({ frames := 1, cells := 0, slots := 0, locals := 18 } : Room).slots T2 (mkF m 134 #[(.val (.ref sl)), (.val (.int n)), (.val (.int k)), (.val (.int s0)), (.val (.int b65)), (.val (.int b132))] [])
      refine Owes.by (fun _ kq => XS.iload X2.here hx rfl (hb hby d16_134) rfl kq) ?_
      show Owes p e below s (Qv (some (.int r)) h0 n0) ({ frames := 1, cells := 0, slots := 0, locals := 18 } : Room).cells ({ frames := 1, cells := 0, slots := 0, locals := 18 } : Room).slots T2 (mkF m 136 #[(.val (.ref sl)), (.val (.int n)), (.val (.int k)), (.val (.int s0)), (.val (.int b65)), (.val (.int b132))] [(.int b65)])
      rcases hb65 with ⟨B1, rfl⟩ | ⟨B1, rfl⟩
      · rcases hb132 with ⟨B2, rfl⟩ | ⟨B2, rfl⟩
        · skip
          show Owes p e below s (Qv (some (.int r)) h0 n0) ({ frames := 1, cells := 0, slots := 0, locals := 18 } : Room).cells ({ frames := 1, cells := 0, slots := 0, locals := 18 } : Room).slots T2 (mkF m 136 #[(.val (.ref sl)), (.val (.int n)), (.val (.int k)), (.val (.int s0)), (.val (.int (1 : Int32))), (.val (.int (1 : Int32)))] [(.int (1 : Int32))])
          refine Owes.by (fun _ kq => XS.ifNo X2.here hx rfl (hb hby d16_136) rfl (XT.i0_eq_f (by decide)) kq) ?_
          show Owes p e below s (Qv (some (.int r)) h0 n0) ({ frames := 1, cells := 0, slots := 0, locals := 18 } : Room).cells ({ frames := 1, cells := 0, slots := 0, locals := 18 } : Room).slots T2 (mkF m 139 #[(.val (.ref sl)), (.val (.int n)), (.val (.int k)), (.val (.int s0)), (.val (.int (1 : Int32))), (.val (.int (1 : Int32)))] [])
          refine Owes.by (fun _ kq => XS.iload X2.here hx rfl (hb hby d16_139) rfl kq) ?_
          show Owes p e below s (Qv (some (.int r)) h0 n0) ({ frames := 1, cells := 0, slots := 0, locals := 18 } : Room).cells ({ frames := 1, cells := 0, slots := 0, locals := 18 } : Room).slots T2 (mkF m 141 #[(.val (.ref sl)), (.val (.int n)), (.val (.int k)), (.val (.int s0)), (.val (.int (1 : Int32))), (.val (.int (1 : Int32)))] [(.int (1 : Int32))])
          refine Owes.by (fun _ kq => XS.ifYes X2.here hx rfl (pc0 := 141) (pc' := 148) rfl (hb hby d16_141) rfl (XT.i0_ne_t (by decide)) (by decide) (by decide) kq) ?_
          show Owes p e below s (Qv (some (.int r)) h0 n0) ({ frames := 1, cells := 0, slots := 0, locals := 18 } : Room).cells ({ frames := 1, cells := 0, slots := 0, locals := 18 } : Room).slots T2 (mkF m 148 #[(.val (.ref sl)), (.val (.int n)), (.val (.int k)), (.val (.int s0)), (.val (.int (1 : Int32))), (.val (.int (1 : Int32)))] [])
          refine Owes.by (fun _ kq => XS.iconst X2.here hx rfl (hb hby d16_148) kq) ?_
          show Owes p e below s (Qv (some (.int r)) h0 n0) ({ frames := 1, cells := 0, slots := 0, locals := 18 } : Room).cells ({ frames := 1, cells := 0, slots := 0, locals := 18 } : Room).slots T2 (mkF m 149 #[(.val (.ref sl)), (.val (.int n)), (.val (.int k)), (.val (.int s0)), (.val (.int (1 : Int32))), (.val (.int (1 : Int32)))] [(.int (0 : Int32))])
          refine Owes.ret X2 (v := some (.int (0 : Int32))) (fun h => by rw [Bd.returns] at h; cases h) hlk ?_ (by decide) (by decide) (fun fs hr => retN X2 hx (t := .boolean) Bd.returns (by simp) (hb hby d16_149) hr)
          rw [e2]
          exact ⟨own_r0 hr (fun h => h.2 B2), rfl, rfl⟩
        · skip
          show Owes p e below s (Qv (some (.int r)) h0 n0) ({ frames := 1, cells := 0, slots := 0, locals := 18 } : Room).cells ({ frames := 1, cells := 0, slots := 0, locals := 18 } : Room).slots T2 (mkF m 136 #[(.val (.ref sl)), (.val (.int n)), (.val (.int k)), (.val (.int s0)), (.val (.int (1 : Int32))), (.val (.int (0 : Int32)))] [(.int (1 : Int32))])
          refine Owes.by (fun _ kq => XS.ifNo X2.here hx rfl (hb hby d16_136) rfl (XT.i0_eq_f (by decide)) kq) ?_
          show Owes p e below s (Qv (some (.int r)) h0 n0) ({ frames := 1, cells := 0, slots := 0, locals := 18 } : Room).cells ({ frames := 1, cells := 0, slots := 0, locals := 18 } : Room).slots T2 (mkF m 139 #[(.val (.ref sl)), (.val (.int n)), (.val (.int k)), (.val (.int s0)), (.val (.int (1 : Int32))), (.val (.int (0 : Int32)))] [])
          refine Owes.by (fun _ kq => XS.iload X2.here hx rfl (hb hby d16_139) rfl kq) ?_
          show Owes p e below s (Qv (some (.int r)) h0 n0) ({ frames := 1, cells := 0, slots := 0, locals := 18 } : Room).cells ({ frames := 1, cells := 0, slots := 0, locals := 18 } : Room).slots T2 (mkF m 141 #[(.val (.ref sl)), (.val (.int n)), (.val (.int k)), (.val (.int s0)), (.val (.int (1 : Int32))), (.val (.int (0 : Int32)))] [(.int (0 : Int32))])
          refine Owes.by (fun _ kq => XS.ifNo X2.here hx rfl (hb hby d16_141) rfl (XT.i0_ne_f (by decide)) kq) ?_
          show Owes p e below s (Qv (some (.int r)) h0 n0) ({ frames := 1, cells := 0, slots := 0, locals := 18 } : Room).cells ({ frames := 1, cells := 0, slots := 0, locals := 18 } : Room).slots T2 (mkF m 144 #[(.val (.ref sl)), (.val (.int n)), (.val (.int k)), (.val (.int s0)), (.val (.int (1 : Int32))), (.val (.int (0 : Int32)))] [])
          refine Owes.by (fun _ kq => XS.iconst X2.here hx rfl (hb hby d16_144) kq) ?_
          show Owes p e below s (Qv (some (.int r)) h0 n0) ({ frames := 1, cells := 0, slots := 0, locals := 18 } : Room).cells ({ frames := 1, cells := 0, slots := 0, locals := 18 } : Room).slots T2 (mkF m 145 #[(.val (.ref sl)), (.val (.int n)), (.val (.int k)), (.val (.int s0)), (.val (.int (1 : Int32))), (.val (.int (0 : Int32)))] [(.int (1 : Int32))])
          refine Owes.by (fun _ kq => XS.goto X2.here hx rfl (pc0 := 145) (pc' := 149) rfl (hb hby d16_145) (by decide) (by decide) kq) ?_
          show Owes p e below s (Qv (some (.int r)) h0 n0) ({ frames := 1, cells := 0, slots := 0, locals := 18 } : Room).cells ({ frames := 1, cells := 0, slots := 0, locals := 18 } : Room).slots T2 (mkF m 149 #[(.val (.ref sl)), (.val (.int n)), (.val (.int k)), (.val (.int s0)), (.val (.int (1 : Int32))), (.val (.int (0 : Int32)))] [(.int (1 : Int32))])
          refine Owes.ret X2 (v := some (.int (1 : Int32))) (fun h => by rw [Bd.returns] at h; cases h) hlk ?_ (by decide) (by decide) (fun fs hr => retN X2 hx (t := .boolean) Bd.returns (by simp) (hb hby d16_149) hr)
          rw [e2]
          exact ⟨own_r1 hr ⟨B1, B2⟩, rfl, rfl⟩
      · rcases hb132 with ⟨B2, rfl⟩ | ⟨B2, rfl⟩
        · skip
          show Owes p e below s (Qv (some (.int r)) h0 n0) ({ frames := 1, cells := 0, slots := 0, locals := 18 } : Room).cells ({ frames := 1, cells := 0, slots := 0, locals := 18 } : Room).slots T2 (mkF m 136 #[(.val (.ref sl)), (.val (.int n)), (.val (.int k)), (.val (.int s0)), (.val (.int (0 : Int32))), (.val (.int (1 : Int32)))] [(.int (0 : Int32))])
          refine Owes.by (fun _ kq => XS.ifYes X2.here hx rfl (pc0 := 136) (pc' := 148) rfl (hb hby d16_136) rfl (XT.i0_eq_t (by decide)) (by decide) (by decide) kq) ?_
          show Owes p e below s (Qv (some (.int r)) h0 n0) ({ frames := 1, cells := 0, slots := 0, locals := 18 } : Room).cells ({ frames := 1, cells := 0, slots := 0, locals := 18 } : Room).slots T2 (mkF m 148 #[(.val (.ref sl)), (.val (.int n)), (.val (.int k)), (.val (.int s0)), (.val (.int (0 : Int32))), (.val (.int (1 : Int32)))] [])
          refine Owes.by (fun _ kq => XS.iconst X2.here hx rfl (hb hby d16_148) kq) ?_
          show Owes p e below s (Qv (some (.int r)) h0 n0) ({ frames := 1, cells := 0, slots := 0, locals := 18 } : Room).cells ({ frames := 1, cells := 0, slots := 0, locals := 18 } : Room).slots T2 (mkF m 149 #[(.val (.ref sl)), (.val (.int n)), (.val (.int k)), (.val (.int s0)), (.val (.int (0 : Int32))), (.val (.int (1 : Int32)))] [(.int (0 : Int32))])
          refine Owes.ret X2 (v := some (.int (0 : Int32))) (fun h => by rw [Bd.returns] at h; cases h) hlk ?_ (by decide) (by decide) (fun fs hr => retN X2 hx (t := .boolean) Bd.returns (by simp) (hb hby d16_149) hr)
          rw [e2]
          exact ⟨own_r0 hr (fun h => B1 h.1), rfl, rfl⟩
        · skip
          show Owes p e below s (Qv (some (.int r)) h0 n0) ({ frames := 1, cells := 0, slots := 0, locals := 18 } : Room).cells ({ frames := 1, cells := 0, slots := 0, locals := 18 } : Room).slots T2 (mkF m 136 #[(.val (.ref sl)), (.val (.int n)), (.val (.int k)), (.val (.int s0)), (.val (.int (0 : Int32))), (.val (.int (0 : Int32)))] [(.int (0 : Int32))])
          refine Owes.by (fun _ kq => XS.ifYes X2.here hx rfl (pc0 := 136) (pc' := 148) rfl (hb hby d16_136) rfl (XT.i0_eq_t (by decide)) (by decide) (by decide) kq) ?_
          show Owes p e below s (Qv (some (.int r)) h0 n0) ({ frames := 1, cells := 0, slots := 0, locals := 18 } : Room).cells ({ frames := 1, cells := 0, slots := 0, locals := 18 } : Room).slots T2 (mkF m 148 #[(.val (.ref sl)), (.val (.int n)), (.val (.int k)), (.val (.int s0)), (.val (.int (0 : Int32))), (.val (.int (0 : Int32)))] [])
          refine Owes.by (fun _ kq => XS.iconst X2.here hx rfl (hb hby d16_148) kq) ?_
          show Owes p e below s (Qv (some (.int r)) h0 n0) ({ frames := 1, cells := 0, slots := 0, locals := 18 } : Room).cells ({ frames := 1, cells := 0, slots := 0, locals := 18 } : Room).slots T2 (mkF m 149 #[(.val (.ref sl)), (.val (.int n)), (.val (.int k)), (.val (.int s0)), (.val (.int (0 : Int32))), (.val (.int (0 : Int32)))] [(.int (0 : Int32))])
          refine Owes.ret X2 (v := some (.int (0 : Int32))) (fun h => by rw [Bd.returns] at h; cases h) hlk ?_ (by decide) (by decide) (fun fs hr => retN X2 hx (t := .boolean) Bd.returns (by simp) (hb hby d16_149) hr)
          rw [e2]
          exact ⟨own_r0 hr (fun h => B1 h.1), rfl, rfl⟩
    refine own_join X1 (h := h0) (G := fun T' => (¬ (¬ 0 < k ∧ own_at 0 n s0 x0)) → (¬ (¬ 1 < k ∧ own_at 1 n s0 x1)) → (¬ (¬ 2 < k ∧ own_at 2 n s0 x2)) → Owes p e below s (Qv (some (.int r)) h0 n0) ({ frames := 1, cells := 0, slots := 0, locals := 18 } : Room).cells ({ frames := 1, cells := 0, slots := 0, locals := 18 } : Room).slots T' (mkF m 112 #[(.val (.ref sl)), (.val (.int n)), (.val (.int k)), (.val (.int s0)), (.val (.int b65)), .unset] [])) (fun T3 X3 e3  f0 f1 f2 => ?_) (fun J3 => ?_)
    · skip
      show Owes p e below s (Qv (some (.int r)) h0 n0) ({ frames := 1, cells := 0, slots := 0, locals := 18 } : Room).cells ({ frames := 1, cells := 0, slots := 0, locals := 18 } : Room).slots T3 (mkF m 112 #[(.val (.ref sl)), (.val (.int n)), (.val (.int k)), (.val (.int s0)), (.val (.int b65)), .unset] [])
      refine Owes.by (fun _ kq => XS.iconst X3.here hx rfl (hb hby d16_112) kq) ?_
      show Owes p e below s (Qv (some (.int r)) h0 n0) ({ frames := 1, cells := 0, slots := 0, locals := 18 } : Room).cells ({ frames := 1, cells := 0, slots := 0, locals := 18 } : Room).slots T3 (mkF m 113 #[(.val (.ref sl)), (.val (.int n)), (.val (.int k)), (.val (.int s0)), (.val (.int b65)), .unset] [(.int (3 : Int32))])
      refine Owes.by (fun _ kq => XS.iloadN X3.here hx rfl (hb hby d16_113) rfl kq) ?_
      show Owes p e below s (Qv (some (.int r)) h0 n0) ({ frames := 1, cells := 0, slots := 0, locals := 18 } : Room).cells ({ frames := 1, cells := 0, slots := 0, locals := 18 } : Room).slots T3 (mkF m 114 #[(.val (.ref sl)), (.val (.int n)), (.val (.int k)), (.val (.int s0)), (.val (.int b65)), .unset] [(.int k), (.int (3 : Int32))])
      by_cases q : (3 : Int32) < k
      · skip
        refine Owes.by (fun _ kq => XS.icmpYes X3.here hx rfl (pc0 := 114) (pc' := 131) rfl (hb hby d16_114) rfl (XT.ii_lt_t q) (by decide) (by decide) kq) ?_
        show Owes p e below s (Qv (some (.int r)) h0 n0) ({ frames := 1, cells := 0, slots := 0, locals := 18 } : Room).cells ({ frames := 1, cells := 0, slots := 0, locals := 18 } : Room).slots T3 (mkF m 131 #[(.val (.ref sl)), (.val (.int n)), (.val (.int k)), (.val (.int s0)), (.val (.int b65)), .unset] [])
        refine Owes.by (fun _ kq => XS.iconst X3.here hx rfl (hb hby d16_131) kq) ?_
        show Owes p e below s (Qv (some (.int r)) h0 n0) ({ frames := 1, cells := 0, slots := 0, locals := 18 } : Room).cells ({ frames := 1, cells := 0, slots := 0, locals := 18 } : Room).slots T3 (mkF m 132 #[(.val (.ref sl)), (.val (.int n)), (.val (.int k)), (.val (.int s0)), (.val (.int b65)), .unset] [(.int (0 : Int32))])
        exact J2 T3 X3 e3 0 (Or.inr ⟨own_none f0 f1 f2 (fun h => h.1 q), rfl⟩)
      · skip
        refine Owes.by (fun _ kq => XS.icmpNo X3.here hx rfl (hb hby d16_114) rfl (XT.ii_lt_f q) kq) ?_
        show Owes p e below s (Qv (some (.int r)) h0 n0) ({ frames := 1, cells := 0, slots := 0, locals := 18 } : Room).cells ({ frames := 1, cells := 0, slots := 0, locals := 18 } : Room).slots T3 (mkF m 117 #[(.val (.ref sl)), (.val (.int n)), (.val (.int k)), (.val (.int s0)), (.val (.int b65)), .unset] [])
        refine Owes.by (fun _ kq => XS.aloadN X3.here hx rfl (hb hby d16_117) rfl rfl kq) ?_
        show Owes p e below s (Qv (some (.int r)) h0 n0) ({ frames := 1, cells := 0, slots := 0, locals := 18 } : Room).cells ({ frames := 1, cells := 0, slots := 0, locals := 18 } : Room).slots T3 (mkF m 118 #[(.val (.ref sl)), (.val (.int n)), (.val (.int k)), (.val (.int s0)), (.val (.int b65)), .unset] [(.ref sl)])
        refine Owes.by (fun _ kq => XS.iconst X3.here hx rfl (hb hby d16_118) kq) ?_
        show Owes p e below s (Qv (some (.int r)) h0 n0) ({ frames := 1, cells := 0, slots := 0, locals := 18 } : Room).cells ({ frames := 1, cells := 0, slots := 0, locals := 18 } : Room).slots T3 (mkF m 119 #[(.val (.ref sl)), (.val (.int n)), (.val (.int k)), (.val (.int s0)), (.val (.int b65)), .unset] [(.int (3 : Int32)), (.ref sl)])
        refine Owes.by (fun _ kq => XS.iloadN X3.here hx rfl (hb hby d16_119) rfl kq) ?_
        show Owes p e below s (Qv (some (.int r)) h0 n0) ({ frames := 1, cells := 0, slots := 0, locals := 18 } : Room).cells ({ frames := 1, cells := 0, slots := 0, locals := 18 } : Room).slots T3 (mkF m 120 #[(.val (.ref sl)), (.val (.int n)), (.val (.int k)), (.val (.int s0)), (.val (.int b65)), .unset] [(.int n), (.int (3 : Int32)), (.ref sl)])
        refine Owes.by (fun _ kq => XS.iloadN X3.here hx rfl (hb hby d16_120) rfl kq) ?_
        show Owes p e below s (Qv (some (.int r)) h0 n0) ({ frames := 1, cells := 0, slots := 0, locals := 18 } : Room).cells ({ frames := 1, cells := 0, slots := 0, locals := 18 } : Room).slots T3 (mkF m 121 #[(.val (.ref sl)), (.val (.int n)), (.val (.int k)), (.val (.int s0)), (.val (.int b65)), .unset] [(.int s0), (.int n), (.int (3 : Int32)), (.ref sl)])
        by_cases hA : own_at 3 n s0 x3
        · skip
          obtain ⟨_, _, ⟨T4, L4, k4, n4⟩, -, X4, ⟨Lc4, hQ4, l4, y4, z4⟩, st4⟩ := Jvm.LawKit.callS X3 hx (y := (⟨"com/example/incant5/incant5/BindingsUndoPinLaw", "at", "([IIII)Z"⟩ : MethodName)) hown (mvT hZ (hw _ (List.mem_of_getElem? (i := 100) rfl))) (mvT hZ (hw _ (List.mem_of_getElem? (i := 101) rfl))) (mvT hZ (hw _ (List.mem_of_getElem? (i := 95) rfl))) (mvT hZ (hw _ (List.mem_of_getElem? (i := 102) rfl))) (by decide) (backOf (W := 0) (rmA l Z a0 hw [] sl cl 3 n s0 x3 1 h0 n0 Z0 Ar at3 (Or.inl ⟨hA, rfl⟩)) hZ (hw _ (List.mem_of_getElem? (i := 102) rfl)) (hw _ (List.mem_of_getElem? (i := 95) rfl)) (by decide) (by decide)) (g := (mkF m 121 #[(.val (.ref sl)), (.val (.int n)), (.val (.int k)), (.val (.int s0)), (.val (.int b65)), .unset] [(.int s0), (.int n), (.int (3 : Int32)), (.ref sl)])) rfl (by rw [hml]; rfl) (argsL := [(.ref sl), (.int (3 : Int32)), (.int n), (.int s0)]) (rest := []) (lenOf pd_IIII_Z rfl) rfl (by show 2 * 0 + _ ≤ _; exact Nat.le_of_eq rfl) (hb hby d16_121) (fun _ _ => ⟨rfl, e3, (by decide : 0 + 0 ≤ _), (by decide : 0 + 0 ≤ _)⟩)
          dsimp only [Pt.U, Pt.locs, Pt.cells, Pt.slots] at X4 l4 y4 z4 st4 hQ4
          subst l4 y4 z4
          obtain ⟨rfl, rfl, e4⟩ := hQ4
          try rw [List.append_nil] at X4
          refine Owes.by st4 ?_
          show Owes p e below s (Qv (some (.int r)) h0 n0) ({ frames := 1, cells := 0, slots := 0, locals := 18 } : Room).cells ({ frames := 1, cells := 0, slots := 0, locals := 18 } : Room).slots T4 (mkF m 124 #[(.val (.ref sl)), (.val (.int n)), (.val (.int k)), (.val (.int s0)), (.val (.int b65)), .unset] [(.int (1 : Int32))])
          refine Owes.by (fun _ kq => XS.ifNo X4.here hx rfl (hb hby d16_124) rfl (XT.i0_eq_f (by decide)) kq) ?_
          show Owes p e below s (Qv (some (.int r)) h0 n0) ({ frames := 1, cells := 0, slots := 0, locals := 18 } : Room).cells ({ frames := 1, cells := 0, slots := 0, locals := 18 } : Room).slots T4 (mkF m 127 #[(.val (.ref sl)), (.val (.int n)), (.val (.int k)), (.val (.int s0)), (.val (.int b65)), .unset] [])
          refine Owes.by (fun _ kq => XS.iconst X4.here hx rfl (hb hby d16_127) kq) ?_
          show Owes p e below s (Qv (some (.int r)) h0 n0) ({ frames := 1, cells := 0, slots := 0, locals := 18 } : Room).cells ({ frames := 1, cells := 0, slots := 0, locals := 18 } : Room).slots T4 (mkF m 128 #[(.val (.ref sl)), (.val (.int n)), (.val (.int k)), (.val (.int s0)), (.val (.int b65)), .unset] [(.int (1 : Int32))])
          refine Owes.by (fun _ kq => XS.goto X4.here hx rfl (pc0 := 128) (pc' := 132) rfl (hb hby d16_128) (by decide) (by decide) kq) ?_
          show Owes p e below s (Qv (some (.int r)) h0 n0) ({ frames := 1, cells := 0, slots := 0, locals := 18 } : Room).cells ({ frames := 1, cells := 0, slots := 0, locals := 18 } : Room).slots T4 (mkF m 132 #[(.val (.ref sl)), (.val (.int n)), (.val (.int k)), (.val (.int s0)), (.val (.int b65)), .unset] [(.int (1 : Int32))])
          exact J2 T4 X4 e4 1 (Or.inl ⟨Or.inr (Or.inr (Or.inr (⟨q, hA⟩))), rfl⟩)
        · skip
          obtain ⟨_, _, ⟨T5, L5, k5, n5⟩, -, X5, ⟨Lc5, hQ5, l5, y5, z5⟩, st5⟩ := Jvm.LawKit.callS X3 hx (y := (⟨"com/example/incant5/incant5/BindingsUndoPinLaw", "at", "([IIII)Z"⟩ : MethodName)) hown (mvT hZ (hw _ (List.mem_of_getElem? (i := 100) rfl))) (mvT hZ (hw _ (List.mem_of_getElem? (i := 101) rfl))) (mvT hZ (hw _ (List.mem_of_getElem? (i := 95) rfl))) (mvT hZ (hw _ (List.mem_of_getElem? (i := 102) rfl))) (by decide) (backOf (W := 0) (rmA l Z a0 hw [] sl cl 3 n s0 x3 0 h0 n0 Z0 Ar at3 (Or.inr ⟨hA, rfl⟩)) hZ (hw _ (List.mem_of_getElem? (i := 102) rfl)) (hw _ (List.mem_of_getElem? (i := 95) rfl)) (by decide) (by decide)) (g := (mkF m 121 #[(.val (.ref sl)), (.val (.int n)), (.val (.int k)), (.val (.int s0)), (.val (.int b65)), .unset] [(.int s0), (.int n), (.int (3 : Int32)), (.ref sl)])) rfl (by rw [hml]; rfl) (argsL := [(.ref sl), (.int (3 : Int32)), (.int n), (.int s0)]) (rest := []) (lenOf pd_IIII_Z rfl) rfl (by show 2 * 0 + _ ≤ _; exact Nat.le_of_eq rfl) (hb hby d16_121) (fun _ _ => ⟨rfl, e3, (by decide : 0 + 0 ≤ _), (by decide : 0 + 0 ≤ _)⟩)
          dsimp only [Pt.U, Pt.locs, Pt.cells, Pt.slots] at X5 l5 y5 z5 st5 hQ5
          subst l5 y5 z5
          obtain ⟨rfl, rfl, e5⟩ := hQ5
          try rw [List.append_nil] at X5
          refine Owes.by st5 ?_
          show Owes p e below s (Qv (some (.int r)) h0 n0) ({ frames := 1, cells := 0, slots := 0, locals := 18 } : Room).cells ({ frames := 1, cells := 0, slots := 0, locals := 18 } : Room).slots T5 (mkF m 124 #[(.val (.ref sl)), (.val (.int n)), (.val (.int k)), (.val (.int s0)), (.val (.int b65)), .unset] [(.int (0 : Int32))])
          refine Owes.by (fun _ kq => XS.ifYes X5.here hx rfl (pc0 := 124) (pc' := 131) rfl (hb hby d16_124) rfl (XT.i0_eq_t (by decide)) (by decide) (by decide) kq) ?_
          show Owes p e below s (Qv (some (.int r)) h0 n0) ({ frames := 1, cells := 0, slots := 0, locals := 18 } : Room).cells ({ frames := 1, cells := 0, slots := 0, locals := 18 } : Room).slots T5 (mkF m 131 #[(.val (.ref sl)), (.val (.int n)), (.val (.int k)), (.val (.int s0)), (.val (.int b65)), .unset] [])
          refine Owes.by (fun _ kq => XS.iconst X5.here hx rfl (hb hby d16_131) kq) ?_
          show Owes p e below s (Qv (some (.int r)) h0 n0) ({ frames := 1, cells := 0, slots := 0, locals := 18 } : Room).cells ({ frames := 1, cells := 0, slots := 0, locals := 18 } : Room).slots T5 (mkF m 132 #[(.val (.ref sl)), (.val (.int n)), (.val (.int k)), (.val (.int s0)), (.val (.int b65)), .unset] [(.int (0 : Int32))])
          exact J2 T5 X5 e5 0 (Or.inr ⟨own_none f0 f1 f2 (fun h => hA h.2), rfl⟩)
    refine own_join X1 (h := h0) (G := fun T' => (¬ (¬ 0 < k ∧ own_at 0 n s0 x0)) → (¬ (¬ 1 < k ∧ own_at 1 n s0 x1)) → Owes p e below s (Qv (some (.int r)) h0 n0) ({ frames := 1, cells := 0, slots := 0, locals := 18 } : Room).cells ({ frames := 1, cells := 0, slots := 0, locals := 18 } : Room).slots T' (mkF m 97 #[(.val (.ref sl)), (.val (.int n)), (.val (.int k)), (.val (.int s0)), (.val (.int b65)), .unset] [])) (fun T6 X6 e6  f0 f1 => ?_) (fun J6 => ?_)
    · skip
      show Owes p e below s (Qv (some (.int r)) h0 n0) ({ frames := 1, cells := 0, slots := 0, locals := 18 } : Room).cells ({ frames := 1, cells := 0, slots := 0, locals := 18 } : Room).slots T6 (mkF m 97 #[(.val (.ref sl)), (.val (.int n)), (.val (.int k)), (.val (.int s0)), (.val (.int b65)), .unset] [])
      refine Owes.by (fun _ kq => XS.iconst X6.here hx rfl (hb hby d16_97) kq) ?_
      show Owes p e below s (Qv (some (.int r)) h0 n0) ({ frames := 1, cells := 0, slots := 0, locals := 18 } : Room).cells ({ frames := 1, cells := 0, slots := 0, locals := 18 } : Room).slots T6 (mkF m 98 #[(.val (.ref sl)), (.val (.int n)), (.val (.int k)), (.val (.int s0)), (.val (.int b65)), .unset] [(.int (2 : Int32))])
      refine Owes.by (fun _ kq => XS.iloadN X6.here hx rfl (hb hby d16_98) rfl kq) ?_
      show Owes p e below s (Qv (some (.int r)) h0 n0) ({ frames := 1, cells := 0, slots := 0, locals := 18 } : Room).cells ({ frames := 1, cells := 0, slots := 0, locals := 18 } : Room).slots T6 (mkF m 99 #[(.val (.ref sl)), (.val (.int n)), (.val (.int k)), (.val (.int s0)), (.val (.int b65)), .unset] [(.int k), (.int (2 : Int32))])
      by_cases q : (2 : Int32) < k
      · skip
        refine Owes.by (fun _ kq => XS.icmpYes X6.here hx rfl (pc0 := 99) (pc' := 112) rfl (hb hby d16_99) rfl (XT.ii_lt_t q) (by decide) (by decide) kq) ?_
        show Owes p e below s (Qv (some (.int r)) h0 n0) ({ frames := 1, cells := 0, slots := 0, locals := 18 } : Room).cells ({ frames := 1, cells := 0, slots := 0, locals := 18 } : Room).slots T6 (mkF m 112 #[(.val (.ref sl)), (.val (.int n)), (.val (.int k)), (.val (.int s0)), (.val (.int b65)), .unset] [])
        exact J3 T6 X6 e6 f0 f1 (fun h => h.1 q)
      · skip
        refine Owes.by (fun _ kq => XS.icmpNo X6.here hx rfl (hb hby d16_99) rfl (XT.ii_lt_f q) kq) ?_
        show Owes p e below s (Qv (some (.int r)) h0 n0) ({ frames := 1, cells := 0, slots := 0, locals := 18 } : Room).cells ({ frames := 1, cells := 0, slots := 0, locals := 18 } : Room).slots T6 (mkF m 102 #[(.val (.ref sl)), (.val (.int n)), (.val (.int k)), (.val (.int s0)), (.val (.int b65)), .unset] [])
        refine Owes.by (fun _ kq => XS.aloadN X6.here hx rfl (hb hby d16_102) rfl rfl kq) ?_
        show Owes p e below s (Qv (some (.int r)) h0 n0) ({ frames := 1, cells := 0, slots := 0, locals := 18 } : Room).cells ({ frames := 1, cells := 0, slots := 0, locals := 18 } : Room).slots T6 (mkF m 103 #[(.val (.ref sl)), (.val (.int n)), (.val (.int k)), (.val (.int s0)), (.val (.int b65)), .unset] [(.ref sl)])
        refine Owes.by (fun _ kq => XS.iconst X6.here hx rfl (hb hby d16_103) kq) ?_
        show Owes p e below s (Qv (some (.int r)) h0 n0) ({ frames := 1, cells := 0, slots := 0, locals := 18 } : Room).cells ({ frames := 1, cells := 0, slots := 0, locals := 18 } : Room).slots T6 (mkF m 104 #[(.val (.ref sl)), (.val (.int n)), (.val (.int k)), (.val (.int s0)), (.val (.int b65)), .unset] [(.int (2 : Int32)), (.ref sl)])
        refine Owes.by (fun _ kq => XS.iloadN X6.here hx rfl (hb hby d16_104) rfl kq) ?_
        show Owes p e below s (Qv (some (.int r)) h0 n0) ({ frames := 1, cells := 0, slots := 0, locals := 18 } : Room).cells ({ frames := 1, cells := 0, slots := 0, locals := 18 } : Room).slots T6 (mkF m 105 #[(.val (.ref sl)), (.val (.int n)), (.val (.int k)), (.val (.int s0)), (.val (.int b65)), .unset] [(.int n), (.int (2 : Int32)), (.ref sl)])
        refine Owes.by (fun _ kq => XS.iloadN X6.here hx rfl (hb hby d16_105) rfl kq) ?_
        show Owes p e below s (Qv (some (.int r)) h0 n0) ({ frames := 1, cells := 0, slots := 0, locals := 18 } : Room).cells ({ frames := 1, cells := 0, slots := 0, locals := 18 } : Room).slots T6 (mkF m 106 #[(.val (.ref sl)), (.val (.int n)), (.val (.int k)), (.val (.int s0)), (.val (.int b65)), .unset] [(.int s0), (.int n), (.int (2 : Int32)), (.ref sl)])
        by_cases hA : own_at 2 n s0 x2
        · skip
          obtain ⟨_, _, ⟨T7, L7, k7, n7⟩, -, X7, ⟨Lc7, hQ7, l7, y7, z7⟩, st7⟩ := Jvm.LawKit.callS X6 hx (y := (⟨"com/example/incant5/incant5/BindingsUndoPinLaw", "at", "([IIII)Z"⟩ : MethodName)) hown (mvT hZ (hw _ (List.mem_of_getElem? (i := 100) rfl))) (mvT hZ (hw _ (List.mem_of_getElem? (i := 101) rfl))) (mvT hZ (hw _ (List.mem_of_getElem? (i := 95) rfl))) (mvT hZ (hw _ (List.mem_of_getElem? (i := 102) rfl))) (by decide) (backOf (W := 0) (rmA l Z a0 hw [] sl cl 2 n s0 x2 1 h0 n0 Z0 Ar at2 (Or.inl ⟨hA, rfl⟩)) hZ (hw _ (List.mem_of_getElem? (i := 102) rfl)) (hw _ (List.mem_of_getElem? (i := 95) rfl)) (by decide) (by decide)) (g := (mkF m 106 #[(.val (.ref sl)), (.val (.int n)), (.val (.int k)), (.val (.int s0)), (.val (.int b65)), .unset] [(.int s0), (.int n), (.int (2 : Int32)), (.ref sl)])) rfl (by rw [hml]; rfl) (argsL := [(.ref sl), (.int (2 : Int32)), (.int n), (.int s0)]) (rest := []) (lenOf pd_IIII_Z rfl) rfl (by show 2 * 0 + _ ≤ _; exact Nat.le_of_eq rfl) (hb hby d16_106) (fun _ _ => ⟨rfl, e6, (by decide : 0 + 0 ≤ _), (by decide : 0 + 0 ≤ _)⟩)
          dsimp only [Pt.U, Pt.locs, Pt.cells, Pt.slots] at X7 l7 y7 z7 st7 hQ7
          subst l7 y7 z7
          obtain ⟨rfl, rfl, e7⟩ := hQ7
          try rw [List.append_nil] at X7
          refine Owes.by st7 ?_
          show Owes p e below s (Qv (some (.int r)) h0 n0) ({ frames := 1, cells := 0, slots := 0, locals := 18 } : Room).cells ({ frames := 1, cells := 0, slots := 0, locals := 18 } : Room).slots T7 (mkF m 109 #[(.val (.ref sl)), (.val (.int n)), (.val (.int k)), (.val (.int s0)), (.val (.int b65)), .unset] [(.int (1 : Int32))])
          refine Owes.by (fun _ kq => XS.ifYes X7.here hx rfl (pc0 := 109) (pc' := 127) rfl (hb hby d16_109) rfl (XT.i0_ne_t (by decide)) (by decide) (by decide) kq) ?_
          show Owes p e below s (Qv (some (.int r)) h0 n0) ({ frames := 1, cells := 0, slots := 0, locals := 18 } : Room).cells ({ frames := 1, cells := 0, slots := 0, locals := 18 } : Room).slots T7 (mkF m 127 #[(.val (.ref sl)), (.val (.int n)), (.val (.int k)), (.val (.int s0)), (.val (.int b65)), .unset] [])
          refine Owes.by (fun _ kq => XS.iconst X7.here hx rfl (hb hby d16_127) kq) ?_
          show Owes p e below s (Qv (some (.int r)) h0 n0) ({ frames := 1, cells := 0, slots := 0, locals := 18 } : Room).cells ({ frames := 1, cells := 0, slots := 0, locals := 18 } : Room).slots T7 (mkF m 128 #[(.val (.ref sl)), (.val (.int n)), (.val (.int k)), (.val (.int s0)), (.val (.int b65)), .unset] [(.int (1 : Int32))])
          refine Owes.by (fun _ kq => XS.goto X7.here hx rfl (pc0 := 128) (pc' := 132) rfl (hb hby d16_128) (by decide) (by decide) kq) ?_
          show Owes p e below s (Qv (some (.int r)) h0 n0) ({ frames := 1, cells := 0, slots := 0, locals := 18 } : Room).cells ({ frames := 1, cells := 0, slots := 0, locals := 18 } : Room).slots T7 (mkF m 132 #[(.val (.ref sl)), (.val (.int n)), (.val (.int k)), (.val (.int s0)), (.val (.int b65)), .unset] [(.int (1 : Int32))])
          exact J2 T7 X7 e7 1 (Or.inl ⟨Or.inr (Or.inr (Or.inl ⟨q, hA⟩)), rfl⟩)
        · skip
          obtain ⟨_, _, ⟨T8, L8, k8, n8⟩, -, X8, ⟨Lc8, hQ8, l8, y8, z8⟩, st8⟩ := Jvm.LawKit.callS X6 hx (y := (⟨"com/example/incant5/incant5/BindingsUndoPinLaw", "at", "([IIII)Z"⟩ : MethodName)) hown (mvT hZ (hw _ (List.mem_of_getElem? (i := 100) rfl))) (mvT hZ (hw _ (List.mem_of_getElem? (i := 101) rfl))) (mvT hZ (hw _ (List.mem_of_getElem? (i := 95) rfl))) (mvT hZ (hw _ (List.mem_of_getElem? (i := 102) rfl))) (by decide) (backOf (W := 0) (rmA l Z a0 hw [] sl cl 2 n s0 x2 0 h0 n0 Z0 Ar at2 (Or.inr ⟨hA, rfl⟩)) hZ (hw _ (List.mem_of_getElem? (i := 102) rfl)) (hw _ (List.mem_of_getElem? (i := 95) rfl)) (by decide) (by decide)) (g := (mkF m 106 #[(.val (.ref sl)), (.val (.int n)), (.val (.int k)), (.val (.int s0)), (.val (.int b65)), .unset] [(.int s0), (.int n), (.int (2 : Int32)), (.ref sl)])) rfl (by rw [hml]; rfl) (argsL := [(.ref sl), (.int (2 : Int32)), (.int n), (.int s0)]) (rest := []) (lenOf pd_IIII_Z rfl) rfl (by show 2 * 0 + _ ≤ _; exact Nat.le_of_eq rfl) (hb hby d16_106) (fun _ _ => ⟨rfl, e6, (by decide : 0 + 0 ≤ _), (by decide : 0 + 0 ≤ _)⟩)
          dsimp only [Pt.U, Pt.locs, Pt.cells, Pt.slots] at X8 l8 y8 z8 st8 hQ8
          subst l8 y8 z8
          obtain ⟨rfl, rfl, e8⟩ := hQ8
          try rw [List.append_nil] at X8
          refine Owes.by st8 ?_
          show Owes p e below s (Qv (some (.int r)) h0 n0) ({ frames := 1, cells := 0, slots := 0, locals := 18 } : Room).cells ({ frames := 1, cells := 0, slots := 0, locals := 18 } : Room).slots T8 (mkF m 109 #[(.val (.ref sl)), (.val (.int n)), (.val (.int k)), (.val (.int s0)), (.val (.int b65)), .unset] [(.int (0 : Int32))])
          refine Owes.by (fun _ kq => XS.ifNo X8.here hx rfl (hb hby d16_109) rfl (XT.i0_ne_f (by decide)) kq) ?_
          show Owes p e below s (Qv (some (.int r)) h0 n0) ({ frames := 1, cells := 0, slots := 0, locals := 18 } : Room).cells ({ frames := 1, cells := 0, slots := 0, locals := 18 } : Room).slots T8 (mkF m 112 #[(.val (.ref sl)), (.val (.int n)), (.val (.int k)), (.val (.int s0)), (.val (.int b65)), .unset] [])
          exact J3 T8 X8 e8 f0 f1 (fun h => hA h.2)
    refine own_join X1 (h := h0) (G := fun T' => (¬ (¬ 0 < k ∧ own_at 0 n s0 x0)) → Owes p e below s (Qv (some (.int r)) h0 n0) ({ frames := 1, cells := 0, slots := 0, locals := 18 } : Room).cells ({ frames := 1, cells := 0, slots := 0, locals := 18 } : Room).slots T' (mkF m 82 #[(.val (.ref sl)), (.val (.int n)), (.val (.int k)), (.val (.int s0)), (.val (.int b65)), .unset] [])) (fun T9 X9 e9  f0 => ?_) (fun J9 => ?_)
    · skip
      show Owes p e below s (Qv (some (.int r)) h0 n0) ({ frames := 1, cells := 0, slots := 0, locals := 18 } : Room).cells ({ frames := 1, cells := 0, slots := 0, locals := 18 } : Room).slots T9 (mkF m 82 #[(.val (.ref sl)), (.val (.int n)), (.val (.int k)), (.val (.int s0)), (.val (.int b65)), .unset] [])
      refine Owes.by (fun _ kq => XS.iconst X9.here hx rfl (hb hby d16_82) kq) ?_
      show Owes p e below s (Qv (some (.int r)) h0 n0) ({ frames := 1, cells := 0, slots := 0, locals := 18 } : Room).cells ({ frames := 1, cells := 0, slots := 0, locals := 18 } : Room).slots T9 (mkF m 83 #[(.val (.ref sl)), (.val (.int n)), (.val (.int k)), (.val (.int s0)), (.val (.int b65)), .unset] [(.int (1 : Int32))])
      refine Owes.by (fun _ kq => XS.iloadN X9.here hx rfl (hb hby d16_83) rfl kq) ?_
      show Owes p e below s (Qv (some (.int r)) h0 n0) ({ frames := 1, cells := 0, slots := 0, locals := 18 } : Room).cells ({ frames := 1, cells := 0, slots := 0, locals := 18 } : Room).slots T9 (mkF m 84 #[(.val (.ref sl)), (.val (.int n)), (.val (.int k)), (.val (.int s0)), (.val (.int b65)), .unset] [(.int k), (.int (1 : Int32))])
      by_cases q : (1 : Int32) < k
      · skip
        refine Owes.by (fun _ kq => XS.icmpYes X9.here hx rfl (pc0 := 84) (pc' := 97) rfl (hb hby d16_84) rfl (XT.ii_lt_t q) (by decide) (by decide) kq) ?_
        show Owes p e below s (Qv (some (.int r)) h0 n0) ({ frames := 1, cells := 0, slots := 0, locals := 18 } : Room).cells ({ frames := 1, cells := 0, slots := 0, locals := 18 } : Room).slots T9 (mkF m 97 #[(.val (.ref sl)), (.val (.int n)), (.val (.int k)), (.val (.int s0)), (.val (.int b65)), .unset] [])
        exact J6 T9 X9 e9 f0 (fun h => h.1 q)
      · skip
        refine Owes.by (fun _ kq => XS.icmpNo X9.here hx rfl (hb hby d16_84) rfl (XT.ii_lt_f q) kq) ?_
        show Owes p e below s (Qv (some (.int r)) h0 n0) ({ frames := 1, cells := 0, slots := 0, locals := 18 } : Room).cells ({ frames := 1, cells := 0, slots := 0, locals := 18 } : Room).slots T9 (mkF m 87 #[(.val (.ref sl)), (.val (.int n)), (.val (.int k)), (.val (.int s0)), (.val (.int b65)), .unset] [])
        refine Owes.by (fun _ kq => XS.aloadN X9.here hx rfl (hb hby d16_87) rfl rfl kq) ?_
        show Owes p e below s (Qv (some (.int r)) h0 n0) ({ frames := 1, cells := 0, slots := 0, locals := 18 } : Room).cells ({ frames := 1, cells := 0, slots := 0, locals := 18 } : Room).slots T9 (mkF m 88 #[(.val (.ref sl)), (.val (.int n)), (.val (.int k)), (.val (.int s0)), (.val (.int b65)), .unset] [(.ref sl)])
        refine Owes.by (fun _ kq => XS.iconst X9.here hx rfl (hb hby d16_88) kq) ?_
        show Owes p e below s (Qv (some (.int r)) h0 n0) ({ frames := 1, cells := 0, slots := 0, locals := 18 } : Room).cells ({ frames := 1, cells := 0, slots := 0, locals := 18 } : Room).slots T9 (mkF m 89 #[(.val (.ref sl)), (.val (.int n)), (.val (.int k)), (.val (.int s0)), (.val (.int b65)), .unset] [(.int (1 : Int32)), (.ref sl)])
        refine Owes.by (fun _ kq => XS.iloadN X9.here hx rfl (hb hby d16_89) rfl kq) ?_
        show Owes p e below s (Qv (some (.int r)) h0 n0) ({ frames := 1, cells := 0, slots := 0, locals := 18 } : Room).cells ({ frames := 1, cells := 0, slots := 0, locals := 18 } : Room).slots T9 (mkF m 90 #[(.val (.ref sl)), (.val (.int n)), (.val (.int k)), (.val (.int s0)), (.val (.int b65)), .unset] [(.int n), (.int (1 : Int32)), (.ref sl)])
        refine Owes.by (fun _ kq => XS.iloadN X9.here hx rfl (hb hby d16_90) rfl kq) ?_
        show Owes p e below s (Qv (some (.int r)) h0 n0) ({ frames := 1, cells := 0, slots := 0, locals := 18 } : Room).cells ({ frames := 1, cells := 0, slots := 0, locals := 18 } : Room).slots T9 (mkF m 91 #[(.val (.ref sl)), (.val (.int n)), (.val (.int k)), (.val (.int s0)), (.val (.int b65)), .unset] [(.int s0), (.int n), (.int (1 : Int32)), (.ref sl)])
        by_cases hA : own_at 1 n s0 x1
        · skip
          obtain ⟨_, _, ⟨T10, L10, k10, n10⟩, -, X10, ⟨Lc10, hQ10, l10, y10, z10⟩, st10⟩ := Jvm.LawKit.callS X9 hx (y := (⟨"com/example/incant5/incant5/BindingsUndoPinLaw", "at", "([IIII)Z"⟩ : MethodName)) hown (mvT hZ (hw _ (List.mem_of_getElem? (i := 100) rfl))) (mvT hZ (hw _ (List.mem_of_getElem? (i := 101) rfl))) (mvT hZ (hw _ (List.mem_of_getElem? (i := 95) rfl))) (mvT hZ (hw _ (List.mem_of_getElem? (i := 102) rfl))) (by decide) (backOf (W := 0) (rmA l Z a0 hw [] sl cl 1 n s0 x1 1 h0 n0 Z0 Ar at1 (Or.inl ⟨hA, rfl⟩)) hZ (hw _ (List.mem_of_getElem? (i := 102) rfl)) (hw _ (List.mem_of_getElem? (i := 95) rfl)) (by decide) (by decide)) (g := (mkF m 91 #[(.val (.ref sl)), (.val (.int n)), (.val (.int k)), (.val (.int s0)), (.val (.int b65)), .unset] [(.int s0), (.int n), (.int (1 : Int32)), (.ref sl)])) rfl (by rw [hml]; rfl) (argsL := [(.ref sl), (.int (1 : Int32)), (.int n), (.int s0)]) (rest := []) (lenOf pd_IIII_Z rfl) rfl (by show 2 * 0 + _ ≤ _; exact Nat.le_of_eq rfl) (hb hby d16_91) (fun _ _ => ⟨rfl, e9, (by decide : 0 + 0 ≤ _), (by decide : 0 + 0 ≤ _)⟩)
          dsimp only [Pt.U, Pt.locs, Pt.cells, Pt.slots] at X10 l10 y10 z10 st10 hQ10
          subst l10 y10 z10
          obtain ⟨rfl, rfl, e10⟩ := hQ10
          try rw [List.append_nil] at X10
          refine Owes.by st10 ?_
          show Owes p e below s (Qv (some (.int r)) h0 n0) ({ frames := 1, cells := 0, slots := 0, locals := 18 } : Room).cells ({ frames := 1, cells := 0, slots := 0, locals := 18 } : Room).slots T10 (mkF m 94 #[(.val (.ref sl)), (.val (.int n)), (.val (.int k)), (.val (.int s0)), (.val (.int b65)), .unset] [(.int (1 : Int32))])
          refine Owes.by (fun _ kq => XS.ifYes X10.here hx rfl (pc0 := 94) (pc' := 127) rfl (hb hby d16_94) rfl (XT.i0_ne_t (by decide)) (by decide) (by decide) kq) ?_
          show Owes p e below s (Qv (some (.int r)) h0 n0) ({ frames := 1, cells := 0, slots := 0, locals := 18 } : Room).cells ({ frames := 1, cells := 0, slots := 0, locals := 18 } : Room).slots T10 (mkF m 127 #[(.val (.ref sl)), (.val (.int n)), (.val (.int k)), (.val (.int s0)), (.val (.int b65)), .unset] [])
          refine Owes.by (fun _ kq => XS.iconst X10.here hx rfl (hb hby d16_127) kq) ?_
          show Owes p e below s (Qv (some (.int r)) h0 n0) ({ frames := 1, cells := 0, slots := 0, locals := 18 } : Room).cells ({ frames := 1, cells := 0, slots := 0, locals := 18 } : Room).slots T10 (mkF m 128 #[(.val (.ref sl)), (.val (.int n)), (.val (.int k)), (.val (.int s0)), (.val (.int b65)), .unset] [(.int (1 : Int32))])
          refine Owes.by (fun _ kq => XS.goto X10.here hx rfl (pc0 := 128) (pc' := 132) rfl (hb hby d16_128) (by decide) (by decide) kq) ?_
          show Owes p e below s (Qv (some (.int r)) h0 n0) ({ frames := 1, cells := 0, slots := 0, locals := 18 } : Room).cells ({ frames := 1, cells := 0, slots := 0, locals := 18 } : Room).slots T10 (mkF m 132 #[(.val (.ref sl)), (.val (.int n)), (.val (.int k)), (.val (.int s0)), (.val (.int b65)), .unset] [(.int (1 : Int32))])
          exact J2 T10 X10 e10 1 (Or.inl ⟨Or.inr (Or.inl ⟨q, hA⟩), rfl⟩)
        · skip
          obtain ⟨_, _, ⟨T11, L11, k11, n11⟩, -, X11, ⟨Lc11, hQ11, l11, y11, z11⟩, st11⟩ := Jvm.LawKit.callS X9 hx (y := (⟨"com/example/incant5/incant5/BindingsUndoPinLaw", "at", "([IIII)Z"⟩ : MethodName)) hown (mvT hZ (hw _ (List.mem_of_getElem? (i := 100) rfl))) (mvT hZ (hw _ (List.mem_of_getElem? (i := 101) rfl))) (mvT hZ (hw _ (List.mem_of_getElem? (i := 95) rfl))) (mvT hZ (hw _ (List.mem_of_getElem? (i := 102) rfl))) (by decide) (backOf (W := 0) (rmA l Z a0 hw [] sl cl 1 n s0 x1 0 h0 n0 Z0 Ar at1 (Or.inr ⟨hA, rfl⟩)) hZ (hw _ (List.mem_of_getElem? (i := 102) rfl)) (hw _ (List.mem_of_getElem? (i := 95) rfl)) (by decide) (by decide)) (g := (mkF m 91 #[(.val (.ref sl)), (.val (.int n)), (.val (.int k)), (.val (.int s0)), (.val (.int b65)), .unset] [(.int s0), (.int n), (.int (1 : Int32)), (.ref sl)])) rfl (by rw [hml]; rfl) (argsL := [(.ref sl), (.int (1 : Int32)), (.int n), (.int s0)]) (rest := []) (lenOf pd_IIII_Z rfl) rfl (by show 2 * 0 + _ ≤ _; exact Nat.le_of_eq rfl) (hb hby d16_91) (fun _ _ => ⟨rfl, e9, (by decide : 0 + 0 ≤ _), (by decide : 0 + 0 ≤ _)⟩)
          dsimp only [Pt.U, Pt.locs, Pt.cells, Pt.slots] at X11 l11 y11 z11 st11 hQ11
          subst l11 y11 z11
          obtain ⟨rfl, rfl, e11⟩ := hQ11
          try rw [List.append_nil] at X11
          refine Owes.by st11 ?_
          show Owes p e below s (Qv (some (.int r)) h0 n0) ({ frames := 1, cells := 0, slots := 0, locals := 18 } : Room).cells ({ frames := 1, cells := 0, slots := 0, locals := 18 } : Room).slots T11 (mkF m 94 #[(.val (.ref sl)), (.val (.int n)), (.val (.int k)), (.val (.int s0)), (.val (.int b65)), .unset] [(.int (0 : Int32))])
          refine Owes.by (fun _ kq => XS.ifNo X11.here hx rfl (hb hby d16_94) rfl (XT.i0_ne_f (by decide)) kq) ?_
          show Owes p e below s (Qv (some (.int r)) h0 n0) ({ frames := 1, cells := 0, slots := 0, locals := 18 } : Room).cells ({ frames := 1, cells := 0, slots := 0, locals := 18 } : Room).slots T11 (mkF m 97 #[(.val (.ref sl)), (.val (.int n)), (.val (.int k)), (.val (.int s0)), (.val (.int b65)), .unset] [])
          exact J6 T11 X11 e11 f0 (fun h => hA h.2)
    by_cases q : (0 : Int32) < k
    · skip
      refine Owes.by (fun _ kq => XS.icmpYes X1.here hx rfl (pc0 := 69) (pc' := 82) rfl (hb hby d16_69) rfl (XT.ii_lt_t q) (by decide) (by decide) kq) ?_
      show Owes p e below s (Qv (some (.int r)) h0 n0) ({ frames := 1, cells := 0, slots := 0, locals := 18 } : Room).cells ({ frames := 1, cells := 0, slots := 0, locals := 18 } : Room).slots T1 (mkF m 82 #[(.val (.ref sl)), (.val (.int n)), (.val (.int k)), (.val (.int s0)), (.val (.int b65)), .unset] [])
      exact J9 T1 X1 e1 (fun h => h.1 q)
    · skip
      refine Owes.by (fun _ kq => XS.icmpNo X1.here hx rfl (hb hby d16_69) rfl (XT.ii_lt_f q) kq) ?_
      show Owes p e below s (Qv (some (.int r)) h0 n0) ({ frames := 1, cells := 0, slots := 0, locals := 18 } : Room).cells ({ frames := 1, cells := 0, slots := 0, locals := 18 } : Room).slots T1 (mkF m 72 #[(.val (.ref sl)), (.val (.int n)), (.val (.int k)), (.val (.int s0)), (.val (.int b65)), .unset] [])
      refine Owes.by (fun _ kq => XS.aloadN X1.here hx rfl (hb hby d16_72) rfl rfl kq) ?_
      show Owes p e below s (Qv (some (.int r)) h0 n0) ({ frames := 1, cells := 0, slots := 0, locals := 18 } : Room).cells ({ frames := 1, cells := 0, slots := 0, locals := 18 } : Room).slots T1 (mkF m 73 #[(.val (.ref sl)), (.val (.int n)), (.val (.int k)), (.val (.int s0)), (.val (.int b65)), .unset] [(.ref sl)])
      refine Owes.by (fun _ kq => XS.iconst X1.here hx rfl (hb hby d16_73) kq) ?_
      show Owes p e below s (Qv (some (.int r)) h0 n0) ({ frames := 1, cells := 0, slots := 0, locals := 18 } : Room).cells ({ frames := 1, cells := 0, slots := 0, locals := 18 } : Room).slots T1 (mkF m 74 #[(.val (.ref sl)), (.val (.int n)), (.val (.int k)), (.val (.int s0)), (.val (.int b65)), .unset] [(.int (0 : Int32)), (.ref sl)])
      refine Owes.by (fun _ kq => XS.iloadN X1.here hx rfl (hb hby d16_74) rfl kq) ?_
      show Owes p e below s (Qv (some (.int r)) h0 n0) ({ frames := 1, cells := 0, slots := 0, locals := 18 } : Room).cells ({ frames := 1, cells := 0, slots := 0, locals := 18 } : Room).slots T1 (mkF m 75 #[(.val (.ref sl)), (.val (.int n)), (.val (.int k)), (.val (.int s0)), (.val (.int b65)), .unset] [(.int n), (.int (0 : Int32)), (.ref sl)])
      refine Owes.by (fun _ kq => XS.iloadN X1.here hx rfl (hb hby d16_75) rfl kq) ?_
      show Owes p e below s (Qv (some (.int r)) h0 n0) ({ frames := 1, cells := 0, slots := 0, locals := 18 } : Room).cells ({ frames := 1, cells := 0, slots := 0, locals := 18 } : Room).slots T1 (mkF m 76 #[(.val (.ref sl)), (.val (.int n)), (.val (.int k)), (.val (.int s0)), (.val (.int b65)), .unset] [(.int s0), (.int n), (.int (0 : Int32)), (.ref sl)])
      by_cases hA : own_at 0 n s0 x0
      · skip
        obtain ⟨_, _, ⟨T12, L12, k12, n12⟩, -, X12, ⟨Lc12, hQ12, l12, y12, z12⟩, st12⟩ := Jvm.LawKit.callS X1 hx (y := (⟨"com/example/incant5/incant5/BindingsUndoPinLaw", "at", "([IIII)Z"⟩ : MethodName)) hown (mvT hZ (hw _ (List.mem_of_getElem? (i := 100) rfl))) (mvT hZ (hw _ (List.mem_of_getElem? (i := 101) rfl))) (mvT hZ (hw _ (List.mem_of_getElem? (i := 95) rfl))) (mvT hZ (hw _ (List.mem_of_getElem? (i := 102) rfl))) (by decide) (backOf (W := 0) (rmA l Z a0 hw [] sl cl 0 n s0 x0 1 h0 n0 Z0 Ar at0 (Or.inl ⟨hA, rfl⟩)) hZ (hw _ (List.mem_of_getElem? (i := 102) rfl)) (hw _ (List.mem_of_getElem? (i := 95) rfl)) (by decide) (by decide)) (g := (mkF m 76 #[(.val (.ref sl)), (.val (.int n)), (.val (.int k)), (.val (.int s0)), (.val (.int b65)), .unset] [(.int s0), (.int n), (.int (0 : Int32)), (.ref sl)])) rfl (by rw [hml]; rfl) (argsL := [(.ref sl), (.int (0 : Int32)), (.int n), (.int s0)]) (rest := []) (lenOf pd_IIII_Z rfl) rfl (by show 2 * 0 + _ ≤ _; exact Nat.le_of_eq rfl) (hb hby d16_76) (fun _ _ => ⟨rfl, e1, (by decide : 0 + 0 ≤ _), (by decide : 0 + 0 ≤ _)⟩)
        dsimp only [Pt.U, Pt.locs, Pt.cells, Pt.slots] at X12 l12 y12 z12 st12 hQ12
        subst l12 y12 z12
        obtain ⟨rfl, rfl, e12⟩ := hQ12
        try rw [List.append_nil] at X12
        refine Owes.by st12 ?_
        show Owes p e below s (Qv (some (.int r)) h0 n0) ({ frames := 1, cells := 0, slots := 0, locals := 18 } : Room).cells ({ frames := 1, cells := 0, slots := 0, locals := 18 } : Room).slots T12 (mkF m 79 #[(.val (.ref sl)), (.val (.int n)), (.val (.int k)), (.val (.int s0)), (.val (.int b65)), .unset] [(.int (1 : Int32))])
        refine Owes.by (fun _ kq => XS.ifYes X12.here hx rfl (pc0 := 79) (pc' := 127) rfl (hb hby d16_79) rfl (XT.i0_ne_t (by decide)) (by decide) (by decide) kq) ?_
        show Owes p e below s (Qv (some (.int r)) h0 n0) ({ frames := 1, cells := 0, slots := 0, locals := 18 } : Room).cells ({ frames := 1, cells := 0, slots := 0, locals := 18 } : Room).slots T12 (mkF m 127 #[(.val (.ref sl)), (.val (.int n)), (.val (.int k)), (.val (.int s0)), (.val (.int b65)), .unset] [])
        refine Owes.by (fun _ kq => XS.iconst X12.here hx rfl (hb hby d16_127) kq) ?_
        show Owes p e below s (Qv (some (.int r)) h0 n0) ({ frames := 1, cells := 0, slots := 0, locals := 18 } : Room).cells ({ frames := 1, cells := 0, slots := 0, locals := 18 } : Room).slots T12 (mkF m 128 #[(.val (.ref sl)), (.val (.int n)), (.val (.int k)), (.val (.int s0)), (.val (.int b65)), .unset] [(.int (1 : Int32))])
        refine Owes.by (fun _ kq => XS.goto X12.here hx rfl (pc0 := 128) (pc' := 132) rfl (hb hby d16_128) (by decide) (by decide) kq) ?_
        show Owes p e below s (Qv (some (.int r)) h0 n0) ({ frames := 1, cells := 0, slots := 0, locals := 18 } : Room).cells ({ frames := 1, cells := 0, slots := 0, locals := 18 } : Room).slots T12 (mkF m 132 #[(.val (.ref sl)), (.val (.int n)), (.val (.int k)), (.val (.int s0)), (.val (.int b65)), .unset] [(.int (1 : Int32))])
        exact J2 T12 X12 e12 1 (Or.inl ⟨Or.inl ⟨q, hA⟩, rfl⟩)
      · skip
        obtain ⟨_, _, ⟨T13, L13, k13, n13⟩, -, X13, ⟨Lc13, hQ13, l13, y13, z13⟩, st13⟩ := Jvm.LawKit.callS X1 hx (y := (⟨"com/example/incant5/incant5/BindingsUndoPinLaw", "at", "([IIII)Z"⟩ : MethodName)) hown (mvT hZ (hw _ (List.mem_of_getElem? (i := 100) rfl))) (mvT hZ (hw _ (List.mem_of_getElem? (i := 101) rfl))) (mvT hZ (hw _ (List.mem_of_getElem? (i := 95) rfl))) (mvT hZ (hw _ (List.mem_of_getElem? (i := 102) rfl))) (by decide) (backOf (W := 0) (rmA l Z a0 hw [] sl cl 0 n s0 x0 0 h0 n0 Z0 Ar at0 (Or.inr ⟨hA, rfl⟩)) hZ (hw _ (List.mem_of_getElem? (i := 102) rfl)) (hw _ (List.mem_of_getElem? (i := 95) rfl)) (by decide) (by decide)) (g := (mkF m 76 #[(.val (.ref sl)), (.val (.int n)), (.val (.int k)), (.val (.int s0)), (.val (.int b65)), .unset] [(.int s0), (.int n), (.int (0 : Int32)), (.ref sl)])) rfl (by rw [hml]; rfl) (argsL := [(.ref sl), (.int (0 : Int32)), (.int n), (.int s0)]) (rest := []) (lenOf pd_IIII_Z rfl) rfl (by show 2 * 0 + _ ≤ _; exact Nat.le_of_eq rfl) (hb hby d16_76) (fun _ _ => ⟨rfl, e1, (by decide : 0 + 0 ≤ _), (by decide : 0 + 0 ≤ _)⟩)
        dsimp only [Pt.U, Pt.locs, Pt.cells, Pt.slots] at X13 l13 y13 z13 st13 hQ13
        subst l13 y13 z13
        obtain ⟨rfl, rfl, e13⟩ := hQ13
        try rw [List.append_nil] at X13
        refine Owes.by st13 ?_
        show Owes p e below s (Qv (some (.int r)) h0 n0) ({ frames := 1, cells := 0, slots := 0, locals := 18 } : Room).cells ({ frames := 1, cells := 0, slots := 0, locals := 18 } : Room).slots T13 (mkF m 79 #[(.val (.ref sl)), (.val (.int n)), (.val (.int k)), (.val (.int s0)), (.val (.int b65)), .unset] [(.int (0 : Int32))])
        refine Owes.by (fun _ kq => XS.ifNo X13.here hx rfl (hb hby d16_79) rfl (XT.i0_ne_f (by decide)) kq) ?_
        show Owes p e below s (Qv (some (.int r)) h0 n0) ({ frames := 1, cells := 0, slots := 0, locals := 18 } : Room).cells ({ frames := 1, cells := 0, slots := 0, locals := 18 } : Room).slots T13 (mkF m 82 #[(.val (.ref sl)), (.val (.int n)), (.val (.int k)), (.val (.int s0)), (.val (.int b65)), .unset] [])
        exact J9 T13 X13 e13 (fun h => hA h.2)
  refine own_join X0 (h := h0) (G := fun T' => (¬ (0 < k ∧ own_at 0 n s0 x0)) → (¬ (1 < k ∧ own_at 1 n s0 x1)) → (¬ (2 < k ∧ own_at 2 n s0 x2)) → Owes p e below s (Qv (some (.int r)) h0 n0) ({ frames := 1, cells := 0, slots := 0, locals := 18 } : Room).cells ({ frames := 1, cells := 0, slots := 0, locals := 18 } : Room).slots T' (mkF m 45 #[(.val (.ref sl)), (.val (.int n)), (.val (.int k)), (.val (.int s0)), .unset, .unset] [])) (fun T14 X14 e14  f0 f1 f2 => ?_) (fun J14 => ?_)
  · skip
    show Owes p e below s (Qv (some (.int r)) h0 n0) ({ frames := 1, cells := 0, slots := 0, locals := 18 } : Room).cells ({ frames := 1, cells := 0, slots := 0, locals := 18 } : Room).slots T14 (mkF m 45 #[(.val (.ref sl)), (.val (.int n)), (.val (.int k)), (.val (.int s0)), .unset, .unset] [])
    refine Owes.by (fun _ kq => XS.iconst X14.here hx rfl (hb hby d16_45) kq) ?_
    show Owes p e below s (Qv (some (.int r)) h0 n0) ({ frames := 1, cells := 0, slots := 0, locals := 18 } : Room).cells ({ frames := 1, cells := 0, slots := 0, locals := 18 } : Room).slots T14 (mkF m 46 #[(.val (.ref sl)), (.val (.int n)), (.val (.int k)), (.val (.int s0)), .unset, .unset] [(.int (3 : Int32))])
    refine Owes.by (fun _ kq => XS.iloadN X14.here hx rfl (hb hby d16_46) rfl kq) ?_
    show Owes p e below s (Qv (some (.int r)) h0 n0) ({ frames := 1, cells := 0, slots := 0, locals := 18 } : Room).cells ({ frames := 1, cells := 0, slots := 0, locals := 18 } : Room).slots T14 (mkF m 47 #[(.val (.ref sl)), (.val (.int n)), (.val (.int k)), (.val (.int s0)), .unset, .unset] [(.int k), (.int (3 : Int32))])
    by_cases q : (3 : Int32) < k
    · skip
      refine Owes.by (fun _ kq => XS.icmpNo X14.here hx rfl (hb hby d16_47) rfl (XT.ii_ge_f q) kq) ?_
      show Owes p e below s (Qv (some (.int r)) h0 n0) ({ frames := 1, cells := 0, slots := 0, locals := 18 } : Room).cells ({ frames := 1, cells := 0, slots := 0, locals := 18 } : Room).slots T14 (mkF m 50 #[(.val (.ref sl)), (.val (.int n)), (.val (.int k)), (.val (.int s0)), .unset, .unset] [])
      refine Owes.by (fun _ kq => XS.aloadN X14.here hx rfl (hb hby d16_50) rfl rfl kq) ?_
      show Owes p e below s (Qv (some (.int r)) h0 n0) ({ frames := 1, cells := 0, slots := 0, locals := 18 } : Room).cells ({ frames := 1, cells := 0, slots := 0, locals := 18 } : Room).slots T14 (mkF m 51 #[(.val (.ref sl)), (.val (.int n)), (.val (.int k)), (.val (.int s0)), .unset, .unset] [(.ref sl)])
      refine Owes.by (fun _ kq => XS.iconst X14.here hx rfl (hb hby d16_51) kq) ?_
      show Owes p e below s (Qv (some (.int r)) h0 n0) ({ frames := 1, cells := 0, slots := 0, locals := 18 } : Room).cells ({ frames := 1, cells := 0, slots := 0, locals := 18 } : Room).slots T14 (mkF m 52 #[(.val (.ref sl)), (.val (.int n)), (.val (.int k)), (.val (.int s0)), .unset, .unset] [(.int (3 : Int32)), (.ref sl)])
      refine Owes.by (fun _ kq => XS.iloadN X14.here hx rfl (hb hby d16_52) rfl kq) ?_
      show Owes p e below s (Qv (some (.int r)) h0 n0) ({ frames := 1, cells := 0, slots := 0, locals := 18 } : Room).cells ({ frames := 1, cells := 0, slots := 0, locals := 18 } : Room).slots T14 (mkF m 53 #[(.val (.ref sl)), (.val (.int n)), (.val (.int k)), (.val (.int s0)), .unset, .unset] [(.int n), (.int (3 : Int32)), (.ref sl)])
      refine Owes.by (fun _ kq => XS.iloadN X14.here hx rfl (hb hby d16_53) rfl kq) ?_
      show Owes p e below s (Qv (some (.int r)) h0 n0) ({ frames := 1, cells := 0, slots := 0, locals := 18 } : Room).cells ({ frames := 1, cells := 0, slots := 0, locals := 18 } : Room).slots T14 (mkF m 54 #[(.val (.ref sl)), (.val (.int n)), (.val (.int k)), (.val (.int s0)), .unset, .unset] [(.int s0), (.int n), (.int (3 : Int32)), (.ref sl)])
      by_cases hA : own_at 3 n s0 x3
      · skip
        obtain ⟨_, _, ⟨T15, L15, k15, n15⟩, -, X15, ⟨Lc15, hQ15, l15, y15, z15⟩, st15⟩ := Jvm.LawKit.callS X14 hx (y := (⟨"com/example/incant5/incant5/BindingsUndoPinLaw", "at", "([IIII)Z"⟩ : MethodName)) hown (mvT hZ (hw _ (List.mem_of_getElem? (i := 100) rfl))) (mvT hZ (hw _ (List.mem_of_getElem? (i := 101) rfl))) (mvT hZ (hw _ (List.mem_of_getElem? (i := 95) rfl))) (mvT hZ (hw _ (List.mem_of_getElem? (i := 102) rfl))) (by decide) (backOf (W := 0) (rmA l Z a0 hw [] sl cl 3 n s0 x3 1 h0 n0 Z0 Ar at3 (Or.inl ⟨hA, rfl⟩)) hZ (hw _ (List.mem_of_getElem? (i := 102) rfl)) (hw _ (List.mem_of_getElem? (i := 95) rfl)) (by decide) (by decide)) (g := (mkF m 54 #[(.val (.ref sl)), (.val (.int n)), (.val (.int k)), (.val (.int s0)), .unset, .unset] [(.int s0), (.int n), (.int (3 : Int32)), (.ref sl)])) rfl (by rw [hml]; rfl) (argsL := [(.ref sl), (.int (3 : Int32)), (.int n), (.int s0)]) (rest := []) (lenOf pd_IIII_Z rfl) rfl (by show 2 * 0 + _ ≤ _; exact Nat.le_of_eq rfl) (hb hby d16_54) (fun _ _ => ⟨rfl, e14, (by decide : 0 + 0 ≤ _), (by decide : 0 + 0 ≤ _)⟩)
        dsimp only [Pt.U, Pt.locs, Pt.cells, Pt.slots] at X15 l15 y15 z15 st15 hQ15
        subst l15 y15 z15
        obtain ⟨rfl, rfl, e15⟩ := hQ15
        try rw [List.append_nil] at X15
        refine Owes.by st15 ?_
        show Owes p e below s (Qv (some (.int r)) h0 n0) ({ frames := 1, cells := 0, slots := 0, locals := 18 } : Room).cells ({ frames := 1, cells := 0, slots := 0, locals := 18 } : Room).slots T15 (mkF m 57 #[(.val (.ref sl)), (.val (.int n)), (.val (.int k)), (.val (.int s0)), .unset, .unset] [(.int (1 : Int32))])
        refine Owes.by (fun _ kq => XS.ifNo X15.here hx rfl (hb hby d16_57) rfl (XT.i0_eq_f (by decide)) kq) ?_
        show Owes p e below s (Qv (some (.int r)) h0 n0) ({ frames := 1, cells := 0, slots := 0, locals := 18 } : Room).cells ({ frames := 1, cells := 0, slots := 0, locals := 18 } : Room).slots T15 (mkF m 60 #[(.val (.ref sl)), (.val (.int n)), (.val (.int k)), (.val (.int s0)), .unset, .unset] [])
        refine Owes.by (fun _ kq => XS.iconst X15.here hx rfl (hb hby d16_60) kq) ?_
        show Owes p e below s (Qv (some (.int r)) h0 n0) ({ frames := 1, cells := 0, slots := 0, locals := 18 } : Room).cells ({ frames := 1, cells := 0, slots := 0, locals := 18 } : Room).slots T15 (mkF m 61 #[(.val (.ref sl)), (.val (.int n)), (.val (.int k)), (.val (.int s0)), .unset, .unset] [(.int (1 : Int32))])
        refine Owes.by (fun _ kq => XS.goto X15.here hx rfl (pc0 := 61) (pc' := 65) rfl (hb hby d16_61) (by decide) (by decide) kq) ?_
        show Owes p e below s (Qv (some (.int r)) h0 n0) ({ frames := 1, cells := 0, slots := 0, locals := 18 } : Room).cells ({ frames := 1, cells := 0, slots := 0, locals := 18 } : Room).slots T15 (mkF m 65 #[(.val (.ref sl)), (.val (.int n)), (.val (.int k)), (.val (.int s0)), .unset, .unset] [(.int (1 : Int32))])
        exact J1 T15 X15 e15 1 (Or.inl ⟨Or.inr (Or.inr (Or.inr (⟨q, hA⟩))), rfl⟩)
      · skip
        obtain ⟨_, _, ⟨T16, L16, k16, n16⟩, -, X16, ⟨Lc16, hQ16, l16, y16, z16⟩, st16⟩ := Jvm.LawKit.callS X14 hx (y := (⟨"com/example/incant5/incant5/BindingsUndoPinLaw", "at", "([IIII)Z"⟩ : MethodName)) hown (mvT hZ (hw _ (List.mem_of_getElem? (i := 100) rfl))) (mvT hZ (hw _ (List.mem_of_getElem? (i := 101) rfl))) (mvT hZ (hw _ (List.mem_of_getElem? (i := 95) rfl))) (mvT hZ (hw _ (List.mem_of_getElem? (i := 102) rfl))) (by decide) (backOf (W := 0) (rmA l Z a0 hw [] sl cl 3 n s0 x3 0 h0 n0 Z0 Ar at3 (Or.inr ⟨hA, rfl⟩)) hZ (hw _ (List.mem_of_getElem? (i := 102) rfl)) (hw _ (List.mem_of_getElem? (i := 95) rfl)) (by decide) (by decide)) (g := (mkF m 54 #[(.val (.ref sl)), (.val (.int n)), (.val (.int k)), (.val (.int s0)), .unset, .unset] [(.int s0), (.int n), (.int (3 : Int32)), (.ref sl)])) rfl (by rw [hml]; rfl) (argsL := [(.ref sl), (.int (3 : Int32)), (.int n), (.int s0)]) (rest := []) (lenOf pd_IIII_Z rfl) rfl (by show 2 * 0 + _ ≤ _; exact Nat.le_of_eq rfl) (hb hby d16_54) (fun _ _ => ⟨rfl, e14, (by decide : 0 + 0 ≤ _), (by decide : 0 + 0 ≤ _)⟩)
        dsimp only [Pt.U, Pt.locs, Pt.cells, Pt.slots] at X16 l16 y16 z16 st16 hQ16
        subst l16 y16 z16
        obtain ⟨rfl, rfl, e16⟩ := hQ16
        try rw [List.append_nil] at X16
        refine Owes.by st16 ?_
        show Owes p e below s (Qv (some (.int r)) h0 n0) ({ frames := 1, cells := 0, slots := 0, locals := 18 } : Room).cells ({ frames := 1, cells := 0, slots := 0, locals := 18 } : Room).slots T16 (mkF m 57 #[(.val (.ref sl)), (.val (.int n)), (.val (.int k)), (.val (.int s0)), .unset, .unset] [(.int (0 : Int32))])
        refine Owes.by (fun _ kq => XS.ifYes X16.here hx rfl (pc0 := 57) (pc' := 64) rfl (hb hby d16_57) rfl (XT.i0_eq_t (by decide)) (by decide) (by decide) kq) ?_
        show Owes p e below s (Qv (some (.int r)) h0 n0) ({ frames := 1, cells := 0, slots := 0, locals := 18 } : Room).cells ({ frames := 1, cells := 0, slots := 0, locals := 18 } : Room).slots T16 (mkF m 64 #[(.val (.ref sl)), (.val (.int n)), (.val (.int k)), (.val (.int s0)), .unset, .unset] [])
        refine Owes.by (fun _ kq => XS.iconst X16.here hx rfl (hb hby d16_64) kq) ?_
        show Owes p e below s (Qv (some (.int r)) h0 n0) ({ frames := 1, cells := 0, slots := 0, locals := 18 } : Room).cells ({ frames := 1, cells := 0, slots := 0, locals := 18 } : Room).slots T16 (mkF m 65 #[(.val (.ref sl)), (.val (.int n)), (.val (.int k)), (.val (.int s0)), .unset, .unset] [(.int (0 : Int32))])
        exact J1 T16 X16 e16 0 (Or.inr ⟨own_none f0 f1 f2 (fun h => hA h.2), rfl⟩)
    · skip
      refine Owes.by (fun _ kq => XS.icmpYes X14.here hx rfl (pc0 := 47) (pc' := 64) rfl (hb hby d16_47) rfl (XT.ii_ge_t q) (by decide) (by decide) kq) ?_
      show Owes p e below s (Qv (some (.int r)) h0 n0) ({ frames := 1, cells := 0, slots := 0, locals := 18 } : Room).cells ({ frames := 1, cells := 0, slots := 0, locals := 18 } : Room).slots T14 (mkF m 64 #[(.val (.ref sl)), (.val (.int n)), (.val (.int k)), (.val (.int s0)), .unset, .unset] [])
      refine Owes.by (fun _ kq => XS.iconst X14.here hx rfl (hb hby d16_64) kq) ?_
      show Owes p e below s (Qv (some (.int r)) h0 n0) ({ frames := 1, cells := 0, slots := 0, locals := 18 } : Room).cells ({ frames := 1, cells := 0, slots := 0, locals := 18 } : Room).slots T14 (mkF m 65 #[(.val (.ref sl)), (.val (.int n)), (.val (.int k)), (.val (.int s0)), .unset, .unset] [(.int (0 : Int32))])
      exact J1 T14 X14 e14 0 (Or.inr ⟨own_none f0 f1 f2 (fun h => q h.1), rfl⟩)
  refine own_join X0 (h := h0) (G := fun T' => (¬ (0 < k ∧ own_at 0 n s0 x0)) → (¬ (1 < k ∧ own_at 1 n s0 x1)) → Owes p e below s (Qv (some (.int r)) h0 n0) ({ frames := 1, cells := 0, slots := 0, locals := 18 } : Room).cells ({ frames := 1, cells := 0, slots := 0, locals := 18 } : Room).slots T' (mkF m 30 #[(.val (.ref sl)), (.val (.int n)), (.val (.int k)), (.val (.int s0)), .unset, .unset] [])) (fun T17 X17 e17  f0 f1 => ?_) (fun J17 => ?_)
  · skip
    show Owes p e below s (Qv (some (.int r)) h0 n0) ({ frames := 1, cells := 0, slots := 0, locals := 18 } : Room).cells ({ frames := 1, cells := 0, slots := 0, locals := 18 } : Room).slots T17 (mkF m 30 #[(.val (.ref sl)), (.val (.int n)), (.val (.int k)), (.val (.int s0)), .unset, .unset] [])
    refine Owes.by (fun _ kq => XS.iconst X17.here hx rfl (hb hby d16_30) kq) ?_
    show Owes p e below s (Qv (some (.int r)) h0 n0) ({ frames := 1, cells := 0, slots := 0, locals := 18 } : Room).cells ({ frames := 1, cells := 0, slots := 0, locals := 18 } : Room).slots T17 (mkF m 31 #[(.val (.ref sl)), (.val (.int n)), (.val (.int k)), (.val (.int s0)), .unset, .unset] [(.int (2 : Int32))])
    refine Owes.by (fun _ kq => XS.iloadN X17.here hx rfl (hb hby d16_31) rfl kq) ?_
    show Owes p e below s (Qv (some (.int r)) h0 n0) ({ frames := 1, cells := 0, slots := 0, locals := 18 } : Room).cells ({ frames := 1, cells := 0, slots := 0, locals := 18 } : Room).slots T17 (mkF m 32 #[(.val (.ref sl)), (.val (.int n)), (.val (.int k)), (.val (.int s0)), .unset, .unset] [(.int k), (.int (2 : Int32))])
    by_cases q : (2 : Int32) < k
    · skip
      refine Owes.by (fun _ kq => XS.icmpNo X17.here hx rfl (hb hby d16_32) rfl (XT.ii_ge_f q) kq) ?_
      show Owes p e below s (Qv (some (.int r)) h0 n0) ({ frames := 1, cells := 0, slots := 0, locals := 18 } : Room).cells ({ frames := 1, cells := 0, slots := 0, locals := 18 } : Room).slots T17 (mkF m 35 #[(.val (.ref sl)), (.val (.int n)), (.val (.int k)), (.val (.int s0)), .unset, .unset] [])
      refine Owes.by (fun _ kq => XS.aloadN X17.here hx rfl (hb hby d16_35) rfl rfl kq) ?_
      show Owes p e below s (Qv (some (.int r)) h0 n0) ({ frames := 1, cells := 0, slots := 0, locals := 18 } : Room).cells ({ frames := 1, cells := 0, slots := 0, locals := 18 } : Room).slots T17 (mkF m 36 #[(.val (.ref sl)), (.val (.int n)), (.val (.int k)), (.val (.int s0)), .unset, .unset] [(.ref sl)])
      refine Owes.by (fun _ kq => XS.iconst X17.here hx rfl (hb hby d16_36) kq) ?_
      show Owes p e below s (Qv (some (.int r)) h0 n0) ({ frames := 1, cells := 0, slots := 0, locals := 18 } : Room).cells ({ frames := 1, cells := 0, slots := 0, locals := 18 } : Room).slots T17 (mkF m 37 #[(.val (.ref sl)), (.val (.int n)), (.val (.int k)), (.val (.int s0)), .unset, .unset] [(.int (2 : Int32)), (.ref sl)])
      refine Owes.by (fun _ kq => XS.iloadN X17.here hx rfl (hb hby d16_37) rfl kq) ?_
      show Owes p e below s (Qv (some (.int r)) h0 n0) ({ frames := 1, cells := 0, slots := 0, locals := 18 } : Room).cells ({ frames := 1, cells := 0, slots := 0, locals := 18 } : Room).slots T17 (mkF m 38 #[(.val (.ref sl)), (.val (.int n)), (.val (.int k)), (.val (.int s0)), .unset, .unset] [(.int n), (.int (2 : Int32)), (.ref sl)])
      refine Owes.by (fun _ kq => XS.iloadN X17.here hx rfl (hb hby d16_38) rfl kq) ?_
      show Owes p e below s (Qv (some (.int r)) h0 n0) ({ frames := 1, cells := 0, slots := 0, locals := 18 } : Room).cells ({ frames := 1, cells := 0, slots := 0, locals := 18 } : Room).slots T17 (mkF m 39 #[(.val (.ref sl)), (.val (.int n)), (.val (.int k)), (.val (.int s0)), .unset, .unset] [(.int s0), (.int n), (.int (2 : Int32)), (.ref sl)])
      by_cases hA : own_at 2 n s0 x2
      · skip
        obtain ⟨_, _, ⟨T18, L18, k18, n18⟩, -, X18, ⟨Lc18, hQ18, l18, y18, z18⟩, st18⟩ := Jvm.LawKit.callS X17 hx (y := (⟨"com/example/incant5/incant5/BindingsUndoPinLaw", "at", "([IIII)Z"⟩ : MethodName)) hown (mvT hZ (hw _ (List.mem_of_getElem? (i := 100) rfl))) (mvT hZ (hw _ (List.mem_of_getElem? (i := 101) rfl))) (mvT hZ (hw _ (List.mem_of_getElem? (i := 95) rfl))) (mvT hZ (hw _ (List.mem_of_getElem? (i := 102) rfl))) (by decide) (backOf (W := 0) (rmA l Z a0 hw [] sl cl 2 n s0 x2 1 h0 n0 Z0 Ar at2 (Or.inl ⟨hA, rfl⟩)) hZ (hw _ (List.mem_of_getElem? (i := 102) rfl)) (hw _ (List.mem_of_getElem? (i := 95) rfl)) (by decide) (by decide)) (g := (mkF m 39 #[(.val (.ref sl)), (.val (.int n)), (.val (.int k)), (.val (.int s0)), .unset, .unset] [(.int s0), (.int n), (.int (2 : Int32)), (.ref sl)])) rfl (by rw [hml]; rfl) (argsL := [(.ref sl), (.int (2 : Int32)), (.int n), (.int s0)]) (rest := []) (lenOf pd_IIII_Z rfl) rfl (by show 2 * 0 + _ ≤ _; exact Nat.le_of_eq rfl) (hb hby d16_39) (fun _ _ => ⟨rfl, e17, (by decide : 0 + 0 ≤ _), (by decide : 0 + 0 ≤ _)⟩)
        dsimp only [Pt.U, Pt.locs, Pt.cells, Pt.slots] at X18 l18 y18 z18 st18 hQ18
        subst l18 y18 z18
        obtain ⟨rfl, rfl, e18⟩ := hQ18
        try rw [List.append_nil] at X18
        refine Owes.by st18 ?_
        show Owes p e below s (Qv (some (.int r)) h0 n0) ({ frames := 1, cells := 0, slots := 0, locals := 18 } : Room).cells ({ frames := 1, cells := 0, slots := 0, locals := 18 } : Room).slots T18 (mkF m 42 #[(.val (.ref sl)), (.val (.int n)), (.val (.int k)), (.val (.int s0)), .unset, .unset] [(.int (1 : Int32))])
        refine Owes.by (fun _ kq => XS.ifYes X18.here hx rfl (pc0 := 42) (pc' := 60) rfl (hb hby d16_42) rfl (XT.i0_ne_t (by decide)) (by decide) (by decide) kq) ?_
        show Owes p e below s (Qv (some (.int r)) h0 n0) ({ frames := 1, cells := 0, slots := 0, locals := 18 } : Room).cells ({ frames := 1, cells := 0, slots := 0, locals := 18 } : Room).slots T18 (mkF m 60 #[(.val (.ref sl)), (.val (.int n)), (.val (.int k)), (.val (.int s0)), .unset, .unset] [])
        refine Owes.by (fun _ kq => XS.iconst X18.here hx rfl (hb hby d16_60) kq) ?_
        show Owes p e below s (Qv (some (.int r)) h0 n0) ({ frames := 1, cells := 0, slots := 0, locals := 18 } : Room).cells ({ frames := 1, cells := 0, slots := 0, locals := 18 } : Room).slots T18 (mkF m 61 #[(.val (.ref sl)), (.val (.int n)), (.val (.int k)), (.val (.int s0)), .unset, .unset] [(.int (1 : Int32))])
        refine Owes.by (fun _ kq => XS.goto X18.here hx rfl (pc0 := 61) (pc' := 65) rfl (hb hby d16_61) (by decide) (by decide) kq) ?_
        show Owes p e below s (Qv (some (.int r)) h0 n0) ({ frames := 1, cells := 0, slots := 0, locals := 18 } : Room).cells ({ frames := 1, cells := 0, slots := 0, locals := 18 } : Room).slots T18 (mkF m 65 #[(.val (.ref sl)), (.val (.int n)), (.val (.int k)), (.val (.int s0)), .unset, .unset] [(.int (1 : Int32))])
        exact J1 T18 X18 e18 1 (Or.inl ⟨Or.inr (Or.inr (Or.inl ⟨q, hA⟩)), rfl⟩)
      · skip
        obtain ⟨_, _, ⟨T19, L19, k19, n19⟩, -, X19, ⟨Lc19, hQ19, l19, y19, z19⟩, st19⟩ := Jvm.LawKit.callS X17 hx (y := (⟨"com/example/incant5/incant5/BindingsUndoPinLaw", "at", "([IIII)Z"⟩ : MethodName)) hown (mvT hZ (hw _ (List.mem_of_getElem? (i := 100) rfl))) (mvT hZ (hw _ (List.mem_of_getElem? (i := 101) rfl))) (mvT hZ (hw _ (List.mem_of_getElem? (i := 95) rfl))) (mvT hZ (hw _ (List.mem_of_getElem? (i := 102) rfl))) (by decide) (backOf (W := 0) (rmA l Z a0 hw [] sl cl 2 n s0 x2 0 h0 n0 Z0 Ar at2 (Or.inr ⟨hA, rfl⟩)) hZ (hw _ (List.mem_of_getElem? (i := 102) rfl)) (hw _ (List.mem_of_getElem? (i := 95) rfl)) (by decide) (by decide)) (g := (mkF m 39 #[(.val (.ref sl)), (.val (.int n)), (.val (.int k)), (.val (.int s0)), .unset, .unset] [(.int s0), (.int n), (.int (2 : Int32)), (.ref sl)])) rfl (by rw [hml]; rfl) (argsL := [(.ref sl), (.int (2 : Int32)), (.int n), (.int s0)]) (rest := []) (lenOf pd_IIII_Z rfl) rfl (by show 2 * 0 + _ ≤ _; exact Nat.le_of_eq rfl) (hb hby d16_39) (fun _ _ => ⟨rfl, e17, (by decide : 0 + 0 ≤ _), (by decide : 0 + 0 ≤ _)⟩)
        dsimp only [Pt.U, Pt.locs, Pt.cells, Pt.slots] at X19 l19 y19 z19 st19 hQ19
        subst l19 y19 z19
        obtain ⟨rfl, rfl, e19⟩ := hQ19
        try rw [List.append_nil] at X19
        refine Owes.by st19 ?_
        show Owes p e below s (Qv (some (.int r)) h0 n0) ({ frames := 1, cells := 0, slots := 0, locals := 18 } : Room).cells ({ frames := 1, cells := 0, slots := 0, locals := 18 } : Room).slots T19 (mkF m 42 #[(.val (.ref sl)), (.val (.int n)), (.val (.int k)), (.val (.int s0)), .unset, .unset] [(.int (0 : Int32))])
        refine Owes.by (fun _ kq => XS.ifNo X19.here hx rfl (hb hby d16_42) rfl (XT.i0_ne_f (by decide)) kq) ?_
        show Owes p e below s (Qv (some (.int r)) h0 n0) ({ frames := 1, cells := 0, slots := 0, locals := 18 } : Room).cells ({ frames := 1, cells := 0, slots := 0, locals := 18 } : Room).slots T19 (mkF m 45 #[(.val (.ref sl)), (.val (.int n)), (.val (.int k)), (.val (.int s0)), .unset, .unset] [])
        exact J14 T19 X19 e19 f0 f1 (fun h => hA h.2)
    · skip
      refine Owes.by (fun _ kq => XS.icmpYes X17.here hx rfl (pc0 := 32) (pc' := 45) rfl (hb hby d16_32) rfl (XT.ii_ge_t q) (by decide) (by decide) kq) ?_
      show Owes p e below s (Qv (some (.int r)) h0 n0) ({ frames := 1, cells := 0, slots := 0, locals := 18 } : Room).cells ({ frames := 1, cells := 0, slots := 0, locals := 18 } : Room).slots T17 (mkF m 45 #[(.val (.ref sl)), (.val (.int n)), (.val (.int k)), (.val (.int s0)), .unset, .unset] [])
      exact J14 T17 X17 e17 f0 f1 (fun h => q h.1)
  refine own_join X0 (h := h0) (G := fun T' => (¬ (0 < k ∧ own_at 0 n s0 x0)) → Owes p e below s (Qv (some (.int r)) h0 n0) ({ frames := 1, cells := 0, slots := 0, locals := 18 } : Room).cells ({ frames := 1, cells := 0, slots := 0, locals := 18 } : Room).slots T' (mkF m 15 #[(.val (.ref sl)), (.val (.int n)), (.val (.int k)), (.val (.int s0)), .unset, .unset] [])) (fun T20 X20 e20  f0 => ?_) (fun J20 => ?_)
  · skip
    show Owes p e below s (Qv (some (.int r)) h0 n0) ({ frames := 1, cells := 0, slots := 0, locals := 18 } : Room).cells ({ frames := 1, cells := 0, slots := 0, locals := 18 } : Room).slots T20 (mkF m 15 #[(.val (.ref sl)), (.val (.int n)), (.val (.int k)), (.val (.int s0)), .unset, .unset] [])
    refine Owes.by (fun _ kq => XS.iconst X20.here hx rfl (hb hby d16_15) kq) ?_
    show Owes p e below s (Qv (some (.int r)) h0 n0) ({ frames := 1, cells := 0, slots := 0, locals := 18 } : Room).cells ({ frames := 1, cells := 0, slots := 0, locals := 18 } : Room).slots T20 (mkF m 16 #[(.val (.ref sl)), (.val (.int n)), (.val (.int k)), (.val (.int s0)), .unset, .unset] [(.int (1 : Int32))])
    refine Owes.by (fun _ kq => XS.iloadN X20.here hx rfl (hb hby d16_16) rfl kq) ?_
    show Owes p e below s (Qv (some (.int r)) h0 n0) ({ frames := 1, cells := 0, slots := 0, locals := 18 } : Room).cells ({ frames := 1, cells := 0, slots := 0, locals := 18 } : Room).slots T20 (mkF m 17 #[(.val (.ref sl)), (.val (.int n)), (.val (.int k)), (.val (.int s0)), .unset, .unset] [(.int k), (.int (1 : Int32))])
    by_cases q : (1 : Int32) < k
    · skip
      refine Owes.by (fun _ kq => XS.icmpNo X20.here hx rfl (hb hby d16_17) rfl (XT.ii_ge_f q) kq) ?_
      show Owes p e below s (Qv (some (.int r)) h0 n0) ({ frames := 1, cells := 0, slots := 0, locals := 18 } : Room).cells ({ frames := 1, cells := 0, slots := 0, locals := 18 } : Room).slots T20 (mkF m 20 #[(.val (.ref sl)), (.val (.int n)), (.val (.int k)), (.val (.int s0)), .unset, .unset] [])
      refine Owes.by (fun _ kq => XS.aloadN X20.here hx rfl (hb hby d16_20) rfl rfl kq) ?_
      show Owes p e below s (Qv (some (.int r)) h0 n0) ({ frames := 1, cells := 0, slots := 0, locals := 18 } : Room).cells ({ frames := 1, cells := 0, slots := 0, locals := 18 } : Room).slots T20 (mkF m 21 #[(.val (.ref sl)), (.val (.int n)), (.val (.int k)), (.val (.int s0)), .unset, .unset] [(.ref sl)])
      refine Owes.by (fun _ kq => XS.iconst X20.here hx rfl (hb hby d16_21) kq) ?_
      show Owes p e below s (Qv (some (.int r)) h0 n0) ({ frames := 1, cells := 0, slots := 0, locals := 18 } : Room).cells ({ frames := 1, cells := 0, slots := 0, locals := 18 } : Room).slots T20 (mkF m 22 #[(.val (.ref sl)), (.val (.int n)), (.val (.int k)), (.val (.int s0)), .unset, .unset] [(.int (1 : Int32)), (.ref sl)])
      refine Owes.by (fun _ kq => XS.iloadN X20.here hx rfl (hb hby d16_22) rfl kq) ?_
      show Owes p e below s (Qv (some (.int r)) h0 n0) ({ frames := 1, cells := 0, slots := 0, locals := 18 } : Room).cells ({ frames := 1, cells := 0, slots := 0, locals := 18 } : Room).slots T20 (mkF m 23 #[(.val (.ref sl)), (.val (.int n)), (.val (.int k)), (.val (.int s0)), .unset, .unset] [(.int n), (.int (1 : Int32)), (.ref sl)])
      refine Owes.by (fun _ kq => XS.iloadN X20.here hx rfl (hb hby d16_23) rfl kq) ?_
      show Owes p e below s (Qv (some (.int r)) h0 n0) ({ frames := 1, cells := 0, slots := 0, locals := 18 } : Room).cells ({ frames := 1, cells := 0, slots := 0, locals := 18 } : Room).slots T20 (mkF m 24 #[(.val (.ref sl)), (.val (.int n)), (.val (.int k)), (.val (.int s0)), .unset, .unset] [(.int s0), (.int n), (.int (1 : Int32)), (.ref sl)])
      by_cases hA : own_at 1 n s0 x1
      · skip
        obtain ⟨_, _, ⟨T21, L21, k21, n21⟩, -, X21, ⟨Lc21, hQ21, l21, y21, z21⟩, st21⟩ := Jvm.LawKit.callS X20 hx (y := (⟨"com/example/incant5/incant5/BindingsUndoPinLaw", "at", "([IIII)Z"⟩ : MethodName)) hown (mvT hZ (hw _ (List.mem_of_getElem? (i := 100) rfl))) (mvT hZ (hw _ (List.mem_of_getElem? (i := 101) rfl))) (mvT hZ (hw _ (List.mem_of_getElem? (i := 95) rfl))) (mvT hZ (hw _ (List.mem_of_getElem? (i := 102) rfl))) (by decide) (backOf (W := 0) (rmA l Z a0 hw [] sl cl 1 n s0 x1 1 h0 n0 Z0 Ar at1 (Or.inl ⟨hA, rfl⟩)) hZ (hw _ (List.mem_of_getElem? (i := 102) rfl)) (hw _ (List.mem_of_getElem? (i := 95) rfl)) (by decide) (by decide)) (g := (mkF m 24 #[(.val (.ref sl)), (.val (.int n)), (.val (.int k)), (.val (.int s0)), .unset, .unset] [(.int s0), (.int n), (.int (1 : Int32)), (.ref sl)])) rfl (by rw [hml]; rfl) (argsL := [(.ref sl), (.int (1 : Int32)), (.int n), (.int s0)]) (rest := []) (lenOf pd_IIII_Z rfl) rfl (by show 2 * 0 + _ ≤ _; exact Nat.le_of_eq rfl) (hb hby d16_24) (fun _ _ => ⟨rfl, e20, (by decide : 0 + 0 ≤ _), (by decide : 0 + 0 ≤ _)⟩)
        dsimp only [Pt.U, Pt.locs, Pt.cells, Pt.slots] at X21 l21 y21 z21 st21 hQ21
        subst l21 y21 z21
        obtain ⟨rfl, rfl, e21⟩ := hQ21
        try rw [List.append_nil] at X21
        refine Owes.by st21 ?_
        show Owes p e below s (Qv (some (.int r)) h0 n0) ({ frames := 1, cells := 0, slots := 0, locals := 18 } : Room).cells ({ frames := 1, cells := 0, slots := 0, locals := 18 } : Room).slots T21 (mkF m 27 #[(.val (.ref sl)), (.val (.int n)), (.val (.int k)), (.val (.int s0)), .unset, .unset] [(.int (1 : Int32))])
        refine Owes.by (fun _ kq => XS.ifYes X21.here hx rfl (pc0 := 27) (pc' := 60) rfl (hb hby d16_27) rfl (XT.i0_ne_t (by decide)) (by decide) (by decide) kq) ?_
        show Owes p e below s (Qv (some (.int r)) h0 n0) ({ frames := 1, cells := 0, slots := 0, locals := 18 } : Room).cells ({ frames := 1, cells := 0, slots := 0, locals := 18 } : Room).slots T21 (mkF m 60 #[(.val (.ref sl)), (.val (.int n)), (.val (.int k)), (.val (.int s0)), .unset, .unset] [])
        refine Owes.by (fun _ kq => XS.iconst X21.here hx rfl (hb hby d16_60) kq) ?_
        show Owes p e below s (Qv (some (.int r)) h0 n0) ({ frames := 1, cells := 0, slots := 0, locals := 18 } : Room).cells ({ frames := 1, cells := 0, slots := 0, locals := 18 } : Room).slots T21 (mkF m 61 #[(.val (.ref sl)), (.val (.int n)), (.val (.int k)), (.val (.int s0)), .unset, .unset] [(.int (1 : Int32))])
        refine Owes.by (fun _ kq => XS.goto X21.here hx rfl (pc0 := 61) (pc' := 65) rfl (hb hby d16_61) (by decide) (by decide) kq) ?_
        show Owes p e below s (Qv (some (.int r)) h0 n0) ({ frames := 1, cells := 0, slots := 0, locals := 18 } : Room).cells ({ frames := 1, cells := 0, slots := 0, locals := 18 } : Room).slots T21 (mkF m 65 #[(.val (.ref sl)), (.val (.int n)), (.val (.int k)), (.val (.int s0)), .unset, .unset] [(.int (1 : Int32))])
        exact J1 T21 X21 e21 1 (Or.inl ⟨Or.inr (Or.inl ⟨q, hA⟩), rfl⟩)
      · skip
        obtain ⟨_, _, ⟨T22, L22, k22, n22⟩, -, X22, ⟨Lc22, hQ22, l22, y22, z22⟩, st22⟩ := Jvm.LawKit.callS X20 hx (y := (⟨"com/example/incant5/incant5/BindingsUndoPinLaw", "at", "([IIII)Z"⟩ : MethodName)) hown (mvT hZ (hw _ (List.mem_of_getElem? (i := 100) rfl))) (mvT hZ (hw _ (List.mem_of_getElem? (i := 101) rfl))) (mvT hZ (hw _ (List.mem_of_getElem? (i := 95) rfl))) (mvT hZ (hw _ (List.mem_of_getElem? (i := 102) rfl))) (by decide) (backOf (W := 0) (rmA l Z a0 hw [] sl cl 1 n s0 x1 0 h0 n0 Z0 Ar at1 (Or.inr ⟨hA, rfl⟩)) hZ (hw _ (List.mem_of_getElem? (i := 102) rfl)) (hw _ (List.mem_of_getElem? (i := 95) rfl)) (by decide) (by decide)) (g := (mkF m 24 #[(.val (.ref sl)), (.val (.int n)), (.val (.int k)), (.val (.int s0)), .unset, .unset] [(.int s0), (.int n), (.int (1 : Int32)), (.ref sl)])) rfl (by rw [hml]; rfl) (argsL := [(.ref sl), (.int (1 : Int32)), (.int n), (.int s0)]) (rest := []) (lenOf pd_IIII_Z rfl) rfl (by show 2 * 0 + _ ≤ _; exact Nat.le_of_eq rfl) (hb hby d16_24) (fun _ _ => ⟨rfl, e20, (by decide : 0 + 0 ≤ _), (by decide : 0 + 0 ≤ _)⟩)
        dsimp only [Pt.U, Pt.locs, Pt.cells, Pt.slots] at X22 l22 y22 z22 st22 hQ22
        subst l22 y22 z22
        obtain ⟨rfl, rfl, e22⟩ := hQ22
        try rw [List.append_nil] at X22
        refine Owes.by st22 ?_
        show Owes p e below s (Qv (some (.int r)) h0 n0) ({ frames := 1, cells := 0, slots := 0, locals := 18 } : Room).cells ({ frames := 1, cells := 0, slots := 0, locals := 18 } : Room).slots T22 (mkF m 27 #[(.val (.ref sl)), (.val (.int n)), (.val (.int k)), (.val (.int s0)), .unset, .unset] [(.int (0 : Int32))])
        refine Owes.by (fun _ kq => XS.ifNo X22.here hx rfl (hb hby d16_27) rfl (XT.i0_ne_f (by decide)) kq) ?_
        show Owes p e below s (Qv (some (.int r)) h0 n0) ({ frames := 1, cells := 0, slots := 0, locals := 18 } : Room).cells ({ frames := 1, cells := 0, slots := 0, locals := 18 } : Room).slots T22 (mkF m 30 #[(.val (.ref sl)), (.val (.int n)), (.val (.int k)), (.val (.int s0)), .unset, .unset] [])
        exact J17 T22 X22 e22 f0 (fun h => hA h.2)
    · skip
      refine Owes.by (fun _ kq => XS.icmpYes X20.here hx rfl (pc0 := 17) (pc' := 30) rfl (hb hby d16_17) rfl (XT.ii_ge_t q) (by decide) (by decide) kq) ?_
      show Owes p e below s (Qv (some (.int r)) h0 n0) ({ frames := 1, cells := 0, slots := 0, locals := 18 } : Room).cells ({ frames := 1, cells := 0, slots := 0, locals := 18 } : Room).slots T20 (mkF m 30 #[(.val (.ref sl)), (.val (.int n)), (.val (.int k)), (.val (.int s0)), .unset, .unset] [])
      exact J17 T20 X20 e20 f0 (fun h => q h.1)
  by_cases q : (0 : Int32) < k
  · skip
    refine Owes.by (fun _ kq => XS.icmpNo X0.here hx rfl (hb hby d16_2) rfl (XT.ii_ge_f q) kq) ?_
    show Owes p e below s (Qv (some (.int r)) h0 n0) ({ frames := 1, cells := 0, slots := 0, locals := 18 } : Room).cells ({ frames := 1, cells := 0, slots := 0, locals := 18 } : Room).slots s₁ (mkF m 5 #[(.val (.ref sl)), (.val (.int n)), (.val (.int k)), (.val (.int s0)), .unset, .unset] [])
    refine Owes.by (fun _ kq => XS.aloadN X0.here hx rfl (hb hby d16_5) rfl rfl kq) ?_
    show Owes p e below s (Qv (some (.int r)) h0 n0) ({ frames := 1, cells := 0, slots := 0, locals := 18 } : Room).cells ({ frames := 1, cells := 0, slots := 0, locals := 18 } : Room).slots s₁ (mkF m 6 #[(.val (.ref sl)), (.val (.int n)), (.val (.int k)), (.val (.int s0)), .unset, .unset] [(.ref sl)])
    refine Owes.by (fun _ kq => XS.iconst X0.here hx rfl (hb hby d16_6) kq) ?_
    show Owes p e below s (Qv (some (.int r)) h0 n0) ({ frames := 1, cells := 0, slots := 0, locals := 18 } : Room).cells ({ frames := 1, cells := 0, slots := 0, locals := 18 } : Room).slots s₁ (mkF m 7 #[(.val (.ref sl)), (.val (.int n)), (.val (.int k)), (.val (.int s0)), .unset, .unset] [(.int (0 : Int32)), (.ref sl)])
    refine Owes.by (fun _ kq => XS.iloadN X0.here hx rfl (hb hby d16_7) rfl kq) ?_
    show Owes p e below s (Qv (some (.int r)) h0 n0) ({ frames := 1, cells := 0, slots := 0, locals := 18 } : Room).cells ({ frames := 1, cells := 0, slots := 0, locals := 18 } : Room).slots s₁ (mkF m 8 #[(.val (.ref sl)), (.val (.int n)), (.val (.int k)), (.val (.int s0)), .unset, .unset] [(.int n), (.int (0 : Int32)), (.ref sl)])
    refine Owes.by (fun _ kq => XS.iloadN X0.here hx rfl (hb hby d16_8) rfl kq) ?_
    show Owes p e below s (Qv (some (.int r)) h0 n0) ({ frames := 1, cells := 0, slots := 0, locals := 18 } : Room).cells ({ frames := 1, cells := 0, slots := 0, locals := 18 } : Room).slots s₁ (mkF m 9 #[(.val (.ref sl)), (.val (.int n)), (.val (.int k)), (.val (.int s0)), .unset, .unset] [(.int s0), (.int n), (.int (0 : Int32)), (.ref sl)])
    by_cases hA : own_at 0 n s0 x0
    · skip
      obtain ⟨_, _, ⟨T23, L23, k23, n23⟩, -, X23, ⟨Lc23, hQ23, l23, y23, z23⟩, st23⟩ := Jvm.LawKit.callS X0 hx (y := (⟨"com/example/incant5/incant5/BindingsUndoPinLaw", "at", "([IIII)Z"⟩ : MethodName)) hown (mvT hZ (hw _ (List.mem_of_getElem? (i := 100) rfl))) (mvT hZ (hw _ (List.mem_of_getElem? (i := 101) rfl))) (mvT hZ (hw _ (List.mem_of_getElem? (i := 95) rfl))) (mvT hZ (hw _ (List.mem_of_getElem? (i := 102) rfl))) (by decide) (backOf (W := 0) (rmA l Z a0 hw [] sl cl 0 n s0 x0 1 h0 n0 Z0 Ar at0 (Or.inl ⟨hA, rfl⟩)) hZ (hw _ (List.mem_of_getElem? (i := 102) rfl)) (hw _ (List.mem_of_getElem? (i := 95) rfl)) (by decide) (by decide)) (g := (mkF m 9 #[(.val (.ref sl)), (.val (.int n)), (.val (.int k)), (.val (.int s0)), .unset, .unset] [(.int s0), (.int n), (.int (0 : Int32)), (.ref sl)])) rfl (by rw [hml]; rfl) (argsL := [(.ref sl), (.int (0 : Int32)), (.int n), (.int s0)]) (rest := []) (lenOf pd_IIII_Z rfl) rfl (by show 2 * 0 + _ ≤ _; exact Nat.le_of_eq rfl) (hb hby d16_9) (fun _ _ => ⟨rfl, e0, (by decide : 0 + 0 ≤ _), (by decide : 0 + 0 ≤ _)⟩)
      dsimp only [Pt.U, Pt.locs, Pt.cells, Pt.slots] at X23 l23 y23 z23 st23 hQ23
      subst l23 y23 z23
      obtain ⟨rfl, rfl, e23⟩ := hQ23
      try rw [List.append_nil] at X23
      refine Owes.by st23 ?_
      show Owes p e below s (Qv (some (.int r)) h0 n0) ({ frames := 1, cells := 0, slots := 0, locals := 18 } : Room).cells ({ frames := 1, cells := 0, slots := 0, locals := 18 } : Room).slots T23 (mkF m 12 #[(.val (.ref sl)), (.val (.int n)), (.val (.int k)), (.val (.int s0)), .unset, .unset] [(.int (1 : Int32))])
      refine Owes.by (fun _ kq => XS.ifYes X23.here hx rfl (pc0 := 12) (pc' := 60) rfl (hb hby d16_12) rfl (XT.i0_ne_t (by decide)) (by decide) (by decide) kq) ?_
      show Owes p e below s (Qv (some (.int r)) h0 n0) ({ frames := 1, cells := 0, slots := 0, locals := 18 } : Room).cells ({ frames := 1, cells := 0, slots := 0, locals := 18 } : Room).slots T23 (mkF m 60 #[(.val (.ref sl)), (.val (.int n)), (.val (.int k)), (.val (.int s0)), .unset, .unset] [])
      refine Owes.by (fun _ kq => XS.iconst X23.here hx rfl (hb hby d16_60) kq) ?_
      show Owes p e below s (Qv (some (.int r)) h0 n0) ({ frames := 1, cells := 0, slots := 0, locals := 18 } : Room).cells ({ frames := 1, cells := 0, slots := 0, locals := 18 } : Room).slots T23 (mkF m 61 #[(.val (.ref sl)), (.val (.int n)), (.val (.int k)), (.val (.int s0)), .unset, .unset] [(.int (1 : Int32))])
      refine Owes.by (fun _ kq => XS.goto X23.here hx rfl (pc0 := 61) (pc' := 65) rfl (hb hby d16_61) (by decide) (by decide) kq) ?_
      show Owes p e below s (Qv (some (.int r)) h0 n0) ({ frames := 1, cells := 0, slots := 0, locals := 18 } : Room).cells ({ frames := 1, cells := 0, slots := 0, locals := 18 } : Room).slots T23 (mkF m 65 #[(.val (.ref sl)), (.val (.int n)), (.val (.int k)), (.val (.int s0)), .unset, .unset] [(.int (1 : Int32))])
      exact J1 T23 X23 e23 1 (Or.inl ⟨Or.inl ⟨q, hA⟩, rfl⟩)
    · skip
      obtain ⟨_, _, ⟨T24, L24, k24, n24⟩, -, X24, ⟨Lc24, hQ24, l24, y24, z24⟩, st24⟩ := Jvm.LawKit.callS X0 hx (y := (⟨"com/example/incant5/incant5/BindingsUndoPinLaw", "at", "([IIII)Z"⟩ : MethodName)) hown (mvT hZ (hw _ (List.mem_of_getElem? (i := 100) rfl))) (mvT hZ (hw _ (List.mem_of_getElem? (i := 101) rfl))) (mvT hZ (hw _ (List.mem_of_getElem? (i := 95) rfl))) (mvT hZ (hw _ (List.mem_of_getElem? (i := 102) rfl))) (by decide) (backOf (W := 0) (rmA l Z a0 hw [] sl cl 0 n s0 x0 0 h0 n0 Z0 Ar at0 (Or.inr ⟨hA, rfl⟩)) hZ (hw _ (List.mem_of_getElem? (i := 102) rfl)) (hw _ (List.mem_of_getElem? (i := 95) rfl)) (by decide) (by decide)) (g := (mkF m 9 #[(.val (.ref sl)), (.val (.int n)), (.val (.int k)), (.val (.int s0)), .unset, .unset] [(.int s0), (.int n), (.int (0 : Int32)), (.ref sl)])) rfl (by rw [hml]; rfl) (argsL := [(.ref sl), (.int (0 : Int32)), (.int n), (.int s0)]) (rest := []) (lenOf pd_IIII_Z rfl) rfl (by show 2 * 0 + _ ≤ _; exact Nat.le_of_eq rfl) (hb hby d16_9) (fun _ _ => ⟨rfl, e0, (by decide : 0 + 0 ≤ _), (by decide : 0 + 0 ≤ _)⟩)
      dsimp only [Pt.U, Pt.locs, Pt.cells, Pt.slots] at X24 l24 y24 z24 st24 hQ24
      subst l24 y24 z24
      obtain ⟨rfl, rfl, e24⟩ := hQ24
      try rw [List.append_nil] at X24
      refine Owes.by st24 ?_
      show Owes p e below s (Qv (some (.int r)) h0 n0) ({ frames := 1, cells := 0, slots := 0, locals := 18 } : Room).cells ({ frames := 1, cells := 0, slots := 0, locals := 18 } : Room).slots T24 (mkF m 12 #[(.val (.ref sl)), (.val (.int n)), (.val (.int k)), (.val (.int s0)), .unset, .unset] [(.int (0 : Int32))])
      refine Owes.by (fun _ kq => XS.ifNo X24.here hx rfl (hb hby d16_12) rfl (XT.i0_ne_f (by decide)) kq) ?_
      show Owes p e below s (Qv (some (.int r)) h0 n0) ({ frames := 1, cells := 0, slots := 0, locals := 18 } : Room).cells ({ frames := 1, cells := 0, slots := 0, locals := 18 } : Room).slots T24 (mkF m 15 #[(.val (.ref sl)), (.val (.int n)), (.val (.int k)), (.val (.int s0)), .unset, .unset] [])
      exact J20 T24 X24 e24 (fun h => hA h.2)
  · skip
    refine Owes.by (fun _ kq => XS.icmpYes X0.here hx rfl (pc0 := 2) (pc' := 15) rfl (hb hby d16_2) rfl (XT.ii_ge_t q) (by decide) (by decide) kq) ?_
    show Owes p e below s (Qv (some (.int r)) h0 n0) ({ frames := 1, cells := 0, slots := 0, locals := 18 } : Room).cells ({ frames := 1, cells := 0, slots := 0, locals := 18 } : Room).slots s₁ (mkF m 15 #[(.val (.ref sl)), (.val (.int n)), (.val (.int k)), (.val (.int s0)), .unset, .unset] [])
    exact J20 s₁ X0 e0 (fun h => q h.1)
theorem ef_rmS1 (m : MethodId) (x0 : Addr) (x1 : Addr) (x2 : Int32) (x3 : Addr) (x4 : Int32) (x5 : Int32) : entryFrame m #[(.ref x0), (.ref x1), (.int x2), (.ref x3), (.int x4), (.int x5)] 6 = mkF m 0 #[(.val (.ref x0)), (.val (.ref x1)), (.val (.int x2)), (.val (.ref x3)), (.val (.int x4)), (.val (.int x5))] [] := by first | (simp [entryFrame, mkF, argsToLocals, Value.category]; done) | rfl
set_option maxRecDepth 65536 in
set_option maxHeartbeats 40000000 in
theorem rmS1 (l : Launch) (Z : State) (a0 : Array Value) (hw : ∀ d ∈ tables_1, d.before a0 Z = true) (ws : List Jvm.Cond) (t sl : Addr) (cl : Cell) (s0 n k x0 x1 x2 x3 : Int32) (h0 : Heap) (n0 : Nat) (Z0 : n0 ≤ h0.size) (Ar : Arr Z h0 sl cl .int) (at0 : ¬ ((0 : Int32) < 0 ∨ cl.slots.size ≤ (0 : Int32).toNatClampNeg) ∧ cl.slots[(0 : Int32).toNatClampNeg]? = some (.int x0)) (at1 : ¬ ((1 : Int32) < 0 ∨ cl.slots.size ≤ (1 : Int32).toNatClampNeg) ∧ cl.slots[(1 : Int32).toNatClampNeg]? = some (.int x1)) (at2 : ¬ ((2 : Int32) < 0 ∨ cl.slots.size ≤ (2 : Int32).toNatClampNeg) ∧ cl.slots[(2 : Int32).toNatClampNeg]? = some (.int x2)) (at3 : ¬ ((3 : Int32) < 0 ∨ cl.slots.size ≤ (3 : Int32).toNatClampNeg) ∧ cl.slots[(3 : Int32).toNatClampNeg]? = some (.int x3)) (hk1 : own_kept n k s0 x0 x1 x2 x3) :
    MetFree l (⟨"com/example/incant5/incant5/BindingsUndoPinLaw", "slotOk", "(Lcom/example/incant5/incant5/Term;Lcom/example/incant5/incant5/Term;I[III)Z"⟩ : MethodName) (head1 (Jvm.Cond.code (⟨"com/example/incant5/incant5/BindingsUndoPinLaw", "slotOk", "(Lcom/example/incant5/incant5/Term;Lcom/example/incant5/incant5/Term;I[III)Z"⟩ : MethodName) method_5_code 6 (some .boolean) :: ws) ({ frames := 2, cells := 0, slots := 0, locals := 36 } : Room)) (fun aa UU => aa = #[(.ref t), (.ref t), (.int s0), (.ref sl), (.int n), (.int k)] ∧ Z.Warmed39 UU.vm ∧ UU.heap = h0) (fun _ _ _ _ _ => True) (fun _ UU oo UU' => ∃ vr Lr, oo = .returned vr ∧ (Qv (some (.int 1)) h0 n0) vr UU'.heap Lr ∧ FrameEnd UU oo UU' Lr ({ frames := 2, cells := 0, slots := 0, locals := 36 } : Room).cells ({ frames := 2, cells := 0, slots := 0, locals := 36 } : Room).slots) := by
  refine MetFree.of_bodySF (plainFor_of_name pn_BindingsUndoPinLaw) hisR ?_
  intro p e s m args below meth c s₁ Bd hml0 hP hK
  obtain ⟨rfl, hZ, hh⟩ := hP
  have hx := Bd.exec
  have hby := Bd.bytes
  have hml : c.maxLocals = 6 := hml0
  have hown : s.vm.findClass "com/example/incant5/incant5/BindingsUndoPinLaw" = some m.cls := findClass_of_methodNamed Bd.named
  have hnm := (name_of_methodNamed Bd.named Bd.method).1
  have hlk := Bd.notSynchronized
  have X0 : Stand p l e ({ frames := 2, cells := 0, slots := 0, locals := 36 } : Room) s m #[(.ref t), (.ref t), (.int s0), (.ref sl), (.int n), (.int k)] below meth c s₁ [] 0 0 := Stand.of_body Bd
  have e0 : s₁.heap = h0 := by rw [← hh, Bd.state]; rfl
  have N0 := Fr.nil n0
  show Owes p e below s (Qv (some (.int 1)) h0 n0) ({ frames := 2, cells := 0, slots := 0, locals := 36 } : Room).cells ({ frames := 2, cells := 0, slots := 0, locals := 36 } : Room).slots s₁ (entryFrame m #[(.ref t), (.ref t), (.int s0), (.ref sl), (.int n), (.int k)] 6)
  rw [ef_rmS1 m t t s0 sl n k]
  show Owes p e below s (Qv (some (.int 1)) h0 n0) ({ frames := 2, cells := 0, slots := 0, locals := 36 } : Room).cells ({ frames := 2, cells := 0, slots := 0, locals := 36 } : Room).slots s₁ (mkF m 0 #[(.val (.ref t)), (.val (.ref t)), (.val (.int s0)), (.val (.ref sl)), (.val (.int n)), (.val (.int k))] [])
  refine Owes.by (fun _ kq => XS.aloadN X0.here hx rfl (hb hby d15_0) rfl rfl kq) ?_
  show Owes p e below s (Qv (some (.int 1)) h0 n0) ({ frames := 2, cells := 0, slots := 0, locals := 36 } : Room).cells ({ frames := 2, cells := 0, slots := 0, locals := 36 } : Room).slots s₁ (mkF m 1 #[(.val (.ref t)), (.val (.ref t)), (.val (.int s0)), (.val (.ref sl)), (.val (.int n)), (.val (.int k))] [(.ref sl)])
  refine Owes.by (fun _ kq => XS.iload X0.here hx rfl (hb hby d15_1) rfl kq) ?_
  show Owes p e below s (Qv (some (.int 1)) h0 n0) ({ frames := 2, cells := 0, slots := 0, locals := 36 } : Room).cells ({ frames := 2, cells := 0, slots := 0, locals := 36 } : Room).slots s₁ (mkF m 3 #[(.val (.ref t)), (.val (.ref t)), (.val (.int s0)), (.val (.ref sl)), (.val (.int n)), (.val (.int k))] [(.int n), (.ref sl)])
  refine Owes.by (fun _ kq => XS.iload X0.here hx rfl (hb hby d15_3) rfl kq) ?_
  show Owes p e below s (Qv (some (.int 1)) h0 n0) ({ frames := 2, cells := 0, slots := 0, locals := 36 } : Room).cells ({ frames := 2, cells := 0, slots := 0, locals := 36 } : Room).slots s₁ (mkF m 5 #[(.val (.ref t)), (.val (.ref t)), (.val (.int s0)), (.val (.ref sl)), (.val (.int n)), (.val (.int k))] [(.int k), (.int n), (.ref sl)])
  refine Owes.by (fun _ kq => XS.iloadN X0.here hx rfl (hb hby d15_5) rfl kq) ?_
  show Owes p e below s (Qv (some (.int 1)) h0 n0) ({ frames := 2, cells := 0, slots := 0, locals := 36 } : Room).cells ({ frames := 2, cells := 0, slots := 0, locals := 36 } : Room).slots s₁ (mkF m 6 #[(.val (.ref t)), (.val (.ref t)), (.val (.int s0)), (.val (.ref sl)), (.val (.int n)), (.val (.int k))] [(.int s0), (.int k), (.int n), (.ref sl)])
  obtain ⟨_, _, ⟨T1, L1, k1, n1⟩, -, X1, ⟨Lc1, hQ1, l1, y1, z1⟩, st1⟩ := Jvm.LawKit.callS X0 hx (y := (⟨"com/example/incant5/incant5/BindingsUndoPinLaw", "kept", "([IIII)Z"⟩ : MethodName)) hown (mvT hZ (hw _ (List.mem_of_getElem? (i := 97) rfl))) (mvT hZ (hw _ (List.mem_of_getElem? (i := 98) rfl))) (mvT hZ (hw _ (List.mem_of_getElem? (i := 95) rfl))) (mvT hZ (hw _ (List.mem_of_getElem? (i := 99) rfl))) (by decide) (backOf (W := 0) (rmK l Z a0 hw [] sl cl n k s0 x0 x1 x2 x3 1 h0 n0 Z0 Ar at0 at1 at2 at3 (Or.inl ⟨hk1, rfl⟩)) hZ (hw _ (List.mem_of_getElem? (i := 99) rfl)) (hw _ (List.mem_of_getElem? (i := 95) rfl)) (by decide) (by decide)) (g := (mkF m 6 #[(.val (.ref t)), (.val (.ref t)), (.val (.int s0)), (.val (.ref sl)), (.val (.int n)), (.val (.int k))] [(.int s0), (.int k), (.int n), (.ref sl)])) rfl (by rw [hml]; rfl) (argsL := [(.ref sl), (.int n), (.int k), (.int s0)]) (rest := []) (lenOf pd_IIII_Z rfl) rfl (by show 2 * 0 + _ ≤ _; exact Nat.le_of_eq rfl) (hb hby d15_6) (fun _ _ => ⟨rfl, e0, (by decide : 0 + 0 ≤ _), (by decide : 0 + 0 ≤ _)⟩)
  dsimp only [Pt.U, Pt.locs, Pt.cells, Pt.slots] at X1 l1 y1 z1 st1 hQ1
  subst l1 y1 z1
  obtain ⟨rfl, rfl, e1⟩ := hQ1
  try rw [List.append_nil] at X1
  refine Owes.by st1 ?_
  show Owes p e below s (Qv (some (.int 1)) h0 n0) ({ frames := 2, cells := 0, slots := 0, locals := 36 } : Room).cells ({ frames := 2, cells := 0, slots := 0, locals := 36 } : Room).slots T1 (mkF m 9 #[(.val (.ref t)), (.val (.ref t)), (.val (.int s0)), (.val (.ref sl)), (.val (.int n)), (.val (.int k))] [(.int (1 : Int32))])
  refine Owes.by (fun _ kq => XS.ifNo X1.here hx rfl (hb hby d15_9) rfl (XT.i0_eq_f (by decide)) kq) ?_
  show Owes p e below s (Qv (some (.int 1)) h0 n0) ({ frames := 2, cells := 0, slots := 0, locals := 36 } : Room).cells ({ frames := 2, cells := 0, slots := 0, locals := 36 } : Room).slots T1 (mkF m 12 #[(.val (.ref t)), (.val (.ref t)), (.val (.int s0)), (.val (.ref sl)), (.val (.int n)), (.val (.int k))] [])
  refine Owes.by (fun _ kq => XS.aloadN X1.here hx rfl (hb hby d15_12) rfl rfl kq) ?_
  show Owes p e below s (Qv (some (.int 1)) h0 n0) ({ frames := 2, cells := 0, slots := 0, locals := 36 } : Room).cells ({ frames := 2, cells := 0, slots := 0, locals := 36 } : Room).slots T1 (mkF m 13 #[(.val (.ref t)), (.val (.ref t)), (.val (.int s0)), (.val (.ref sl)), (.val (.int n)), (.val (.int k))] [(.ref t)])
  refine Owes.by (fun _ kq => XS.aloadN X1.here hx rfl (hb hby d15_13) rfl rfl kq) ?_
  show Owes p e below s (Qv (some (.int 1)) h0 n0) ({ frames := 2, cells := 0, slots := 0, locals := 36 } : Room).cells ({ frames := 2, cells := 0, slots := 0, locals := 36 } : Room).slots T1 (mkF m 14 #[(.val (.ref t)), (.val (.ref t)), (.val (.int s0)), (.val (.ref sl)), (.val (.int n)), (.val (.int k))] [(.ref t), (.ref t)])
  refine Owes.by (fun _ kq => Jvm.RoadKit.acmp (g := (mkF m 14 #[(.val (.ref t)), (.val (.ref t)), (.val (.int s0)), (.val (.ref sl)), (.val (.int n)), (.val (.int k))] [(.ref t), (.ref t)])) X1 hx rfl rfl rfl (pc0 := 14) (pc' := 17) (same := true) rfl (hb hby d15_14) rfl (decide_eq_true rfl) (by decide) (by decide) kq) ?_
  show Owes p e below s (Qv (some (.int 1)) h0 n0) ({ frames := 2, cells := 0, slots := 0, locals := 36 } : Room).cells ({ frames := 2, cells := 0, slots := 0, locals := 36 } : Room).slots T1 (mkF m 17 #[(.val (.ref t)), (.val (.ref t)), (.val (.int s0)), (.val (.ref sl)), (.val (.int n)), (.val (.int k))] [])
  refine Owes.by (fun _ kq => XS.iconst X1.here hx rfl (hb hby d15_17) kq) ?_
  show Owes p e below s (Qv (some (.int 1)) h0 n0) ({ frames := 2, cells := 0, slots := 0, locals := 36 } : Room).cells ({ frames := 2, cells := 0, slots := 0, locals := 36 } : Room).slots T1 (mkF m 18 #[(.val (.ref t)), (.val (.ref t)), (.val (.int s0)), (.val (.ref sl)), (.val (.int n)), (.val (.int k))] [(.int (1 : Int32))])
  refine Owes.by (fun _ kq => XS.goto X1.here hx rfl (pc0 := 18) (pc' := 22) rfl (hb hby d15_18) (by decide) (by decide) kq) ?_
  show Owes p e below s (Qv (some (.int 1)) h0 n0) ({ frames := 2, cells := 0, slots := 0, locals := 36 } : Room).cells ({ frames := 2, cells := 0, slots := 0, locals := 36 } : Room).slots T1 (mkF m 22 #[(.val (.ref t)), (.val (.ref t)), (.val (.int s0)), (.val (.ref sl)), (.val (.int n)), (.val (.int k))] [(.int (1 : Int32))])
  refine Owes.ret X1 (v := some (.int (1 : Int32))) (fun h => by rw [Bd.returns] at h; cases h) hlk ?_ (by decide) (by decide) (fun fs hr => retN X1 hx (t := .boolean) Bd.returns (by simp) (hb hby d15_22) hr)
  rw [e1]
  exact ⟨rfl, rfl, rfl⟩
theorem ef_rmS0 (m : MethodId) (x1 : Addr) (x2 : Int32) (x3 : Addr) (x4 : Int32) (x5 : Int32) : entryFrame m #[.null, (.ref x1), (.int x2), (.ref x3), (.int x4), (.int x5)] 6 = mkF m 0 #[(.val .null), (.val (.ref x1)), (.val (.int x2)), (.val (.ref x3)), (.val (.int x4)), (.val (.int x5))] [] := by first | (simp [entryFrame, mkF, argsToLocals, Value.category]; done) | rfl
set_option maxRecDepth 65536 in
set_option maxHeartbeats 40000000 in
theorem rmS0 (l : Launch) (Z : State) (a0 : Array Value) (hw : ∀ d ∈ tables_1, d.before a0 Z = true) (ws : List Jvm.Cond) (t sl : Addr) (cl : Cell) (s0 n k x0 x1 x2 x3 : Int32) (h0 : Heap) (n0 : Nat) (Z0 : n0 ≤ h0.size) (Ar : Arr Z h0 sl cl .int) (at0 : ¬ ((0 : Int32) < 0 ∨ cl.slots.size ≤ (0 : Int32).toNatClampNeg) ∧ cl.slots[(0 : Int32).toNatClampNeg]? = some (.int x0)) (at1 : ¬ ((1 : Int32) < 0 ∨ cl.slots.size ≤ (1 : Int32).toNatClampNeg) ∧ cl.slots[(1 : Int32).toNatClampNeg]? = some (.int x1)) (at2 : ¬ ((2 : Int32) < 0 ∨ cl.slots.size ≤ (2 : Int32).toNatClampNeg) ∧ cl.slots[(2 : Int32).toNatClampNeg]? = some (.int x2)) (at3 : ¬ ((3 : Int32) < 0 ∨ cl.slots.size ≤ (3 : Int32).toNatClampNeg) ∧ cl.slots[(3 : Int32).toNatClampNeg]? = some (.int x3)) (hk1 : ¬ own_kept n k s0 x0 x1 x2 x3) :
    MetFree l (⟨"com/example/incant5/incant5/BindingsUndoPinLaw", "slotOk", "(Lcom/example/incant5/incant5/Term;Lcom/example/incant5/incant5/Term;I[III)Z"⟩ : MethodName) (head1 (Jvm.Cond.code (⟨"com/example/incant5/incant5/BindingsUndoPinLaw", "slotOk", "(Lcom/example/incant5/incant5/Term;Lcom/example/incant5/incant5/Term;I[III)Z"⟩ : MethodName) method_5_code 6 (some .boolean) :: ws) ({ frames := 2, cells := 0, slots := 0, locals := 36 } : Room)) (fun aa UU => aa = #[.null, (.ref t), (.int s0), (.ref sl), (.int n), (.int k)] ∧ Z.Warmed39 UU.vm ∧ UU.heap = h0) (fun _ _ _ _ _ => True) (fun _ UU oo UU' => ∃ vr Lr, oo = .returned vr ∧ (Qv (some (.int 1)) h0 n0) vr UU'.heap Lr ∧ FrameEnd UU oo UU' Lr ({ frames := 2, cells := 0, slots := 0, locals := 36 } : Room).cells ({ frames := 2, cells := 0, slots := 0, locals := 36 } : Room).slots) := by
  refine MetFree.of_bodySF (plainFor_of_name pn_BindingsUndoPinLaw) hisR ?_
  intro p e s m args below meth c s₁ Bd hml0 hP hK
  obtain ⟨rfl, hZ, hh⟩ := hP
  have hx := Bd.exec
  have hby := Bd.bytes
  have hml : c.maxLocals = 6 := hml0
  have hown : s.vm.findClass "com/example/incant5/incant5/BindingsUndoPinLaw" = some m.cls := findClass_of_methodNamed Bd.named
  have hnm := (name_of_methodNamed Bd.named Bd.method).1
  have hlk := Bd.notSynchronized
  have X0 : Stand p l e ({ frames := 2, cells := 0, slots := 0, locals := 36 } : Room) s m #[.null, (.ref t), (.int s0), (.ref sl), (.int n), (.int k)] below meth c s₁ [] 0 0 := Stand.of_body Bd
  have e0 : s₁.heap = h0 := by rw [← hh, Bd.state]; rfl
  have N0 := Fr.nil n0
  show Owes p e below s (Qv (some (.int 1)) h0 n0) ({ frames := 2, cells := 0, slots := 0, locals := 36 } : Room).cells ({ frames := 2, cells := 0, slots := 0, locals := 36 } : Room).slots s₁ (entryFrame m #[.null, (.ref t), (.int s0), (.ref sl), (.int n), (.int k)] 6)
  rw [ef_rmS0 m t s0 sl n k]
  show Owes p e below s (Qv (some (.int 1)) h0 n0) ({ frames := 2, cells := 0, slots := 0, locals := 36 } : Room).cells ({ frames := 2, cells := 0, slots := 0, locals := 36 } : Room).slots s₁ (mkF m 0 #[(.val .null), (.val (.ref t)), (.val (.int s0)), (.val (.ref sl)), (.val (.int n)), (.val (.int k))] [])
  refine Owes.by (fun _ kq => XS.aloadN X0.here hx rfl (hb hby d15_0) rfl rfl kq) ?_
  show Owes p e below s (Qv (some (.int 1)) h0 n0) ({ frames := 2, cells := 0, slots := 0, locals := 36 } : Room).cells ({ frames := 2, cells := 0, slots := 0, locals := 36 } : Room).slots s₁ (mkF m 1 #[(.val .null), (.val (.ref t)), (.val (.int s0)), (.val (.ref sl)), (.val (.int n)), (.val (.int k))] [(.ref sl)])
  refine Owes.by (fun _ kq => XS.iload X0.here hx rfl (hb hby d15_1) rfl kq) ?_
  show Owes p e below s (Qv (some (.int 1)) h0 n0) ({ frames := 2, cells := 0, slots := 0, locals := 36 } : Room).cells ({ frames := 2, cells := 0, slots := 0, locals := 36 } : Room).slots s₁ (mkF m 3 #[(.val .null), (.val (.ref t)), (.val (.int s0)), (.val (.ref sl)), (.val (.int n)), (.val (.int k))] [(.int n), (.ref sl)])
  refine Owes.by (fun _ kq => XS.iload X0.here hx rfl (hb hby d15_3) rfl kq) ?_
  show Owes p e below s (Qv (some (.int 1)) h0 n0) ({ frames := 2, cells := 0, slots := 0, locals := 36 } : Room).cells ({ frames := 2, cells := 0, slots := 0, locals := 36 } : Room).slots s₁ (mkF m 5 #[(.val .null), (.val (.ref t)), (.val (.int s0)), (.val (.ref sl)), (.val (.int n)), (.val (.int k))] [(.int k), (.int n), (.ref sl)])
  refine Owes.by (fun _ kq => XS.iloadN X0.here hx rfl (hb hby d15_5) rfl kq) ?_
  show Owes p e below s (Qv (some (.int 1)) h0 n0) ({ frames := 2, cells := 0, slots := 0, locals := 36 } : Room).cells ({ frames := 2, cells := 0, slots := 0, locals := 36 } : Room).slots s₁ (mkF m 6 #[(.val .null), (.val (.ref t)), (.val (.int s0)), (.val (.ref sl)), (.val (.int n)), (.val (.int k))] [(.int s0), (.int k), (.int n), (.ref sl)])
  obtain ⟨_, _, ⟨T1, L1, k1, n1⟩, -, X1, ⟨Lc1, hQ1, l1, y1, z1⟩, st1⟩ := Jvm.LawKit.callS X0 hx (y := (⟨"com/example/incant5/incant5/BindingsUndoPinLaw", "kept", "([IIII)Z"⟩ : MethodName)) hown (mvT hZ (hw _ (List.mem_of_getElem? (i := 97) rfl))) (mvT hZ (hw _ (List.mem_of_getElem? (i := 98) rfl))) (mvT hZ (hw _ (List.mem_of_getElem? (i := 95) rfl))) (mvT hZ (hw _ (List.mem_of_getElem? (i := 99) rfl))) (by decide) (backOf (W := 0) (rmK l Z a0 hw [] sl cl n k s0 x0 x1 x2 x3 0 h0 n0 Z0 Ar at0 at1 at2 at3 (Or.inr ⟨hk1, rfl⟩)) hZ (hw _ (List.mem_of_getElem? (i := 99) rfl)) (hw _ (List.mem_of_getElem? (i := 95) rfl)) (by decide) (by decide)) (g := (mkF m 6 #[(.val .null), (.val (.ref t)), (.val (.int s0)), (.val (.ref sl)), (.val (.int n)), (.val (.int k))] [(.int s0), (.int k), (.int n), (.ref sl)])) rfl (by rw [hml]; rfl) (argsL := [(.ref sl), (.int n), (.int k), (.int s0)]) (rest := []) (lenOf pd_IIII_Z rfl) rfl (by show 2 * 0 + _ ≤ _; exact Nat.le_of_eq rfl) (hb hby d15_6) (fun _ _ => ⟨rfl, e0, (by decide : 0 + 0 ≤ _), (by decide : 0 + 0 ≤ _)⟩)
  dsimp only [Pt.U, Pt.locs, Pt.cells, Pt.slots] at X1 l1 y1 z1 st1 hQ1
  subst l1 y1 z1
  obtain ⟨rfl, rfl, e1⟩ := hQ1
  try rw [List.append_nil] at X1
  refine Owes.by st1 ?_
  show Owes p e below s (Qv (some (.int 1)) h0 n0) ({ frames := 2, cells := 0, slots := 0, locals := 36 } : Room).cells ({ frames := 2, cells := 0, slots := 0, locals := 36 } : Room).slots T1 (mkF m 9 #[(.val .null), (.val (.ref t)), (.val (.int s0)), (.val (.ref sl)), (.val (.int n)), (.val (.int k))] [(.int (0 : Int32))])
  refine Owes.by (fun _ kq => XS.ifYes X1.here hx rfl (pc0 := 9) (pc' := 23) rfl (hb hby d15_9) rfl (XT.i0_eq_t (by decide)) (by decide) (by decide) kq) ?_
  show Owes p e below s (Qv (some (.int 1)) h0 n0) ({ frames := 2, cells := 0, slots := 0, locals := 36 } : Room).cells ({ frames := 2, cells := 0, slots := 0, locals := 36 } : Room).slots T1 (mkF m 23 #[(.val .null), (.val (.ref t)), (.val (.int s0)), (.val (.ref sl)), (.val (.int n)), (.val (.int k))] [])
  refine Owes.by (fun _ kq => XS.aloadN X1.here hx rfl (hb hby d15_23) rfl rfl kq) ?_
  show Owes p e below s (Qv (some (.int 1)) h0 n0) ({ frames := 2, cells := 0, slots := 0, locals := 36 } : Room).cells ({ frames := 2, cells := 0, slots := 0, locals := 36 } : Room).slots T1 (mkF m 24 #[(.val .null), (.val (.ref t)), (.val (.int s0)), (.val (.ref sl)), (.val (.int n)), (.val (.int k))] [.null])
  refine Owes.by (fun _ kq => XT.ifnonnullNo X1.here hx rfl (hb hby d15_24) rfl kq) ?_
  show Owes p e below s (Qv (some (.int 1)) h0 n0) ({ frames := 2, cells := 0, slots := 0, locals := 36 } : Room).cells ({ frames := 2, cells := 0, slots := 0, locals := 36 } : Room).slots T1 (mkF m 27 #[(.val .null), (.val (.ref t)), (.val (.int s0)), (.val (.ref sl)), (.val (.int n)), (.val (.int k))] [])
  refine Owes.by (fun _ kq => XS.iconst X1.here hx rfl (hb hby d15_27) kq) ?_
  show Owes p e below s (Qv (some (.int 1)) h0 n0) ({ frames := 2, cells := 0, slots := 0, locals := 36 } : Room).cells ({ frames := 2, cells := 0, slots := 0, locals := 36 } : Room).slots T1 (mkF m 28 #[(.val .null), (.val (.ref t)), (.val (.int s0)), (.val (.ref sl)), (.val (.int n)), (.val (.int k))] [(.int (1 : Int32))])
  refine Owes.by (fun _ kq => XS.goto X1.here hx rfl (pc0 := 28) (pc' := 32) rfl (hb hby d15_28) (by decide) (by decide) kq) ?_
  show Owes p e below s (Qv (some (.int 1)) h0 n0) ({ frames := 2, cells := 0, slots := 0, locals := 36 } : Room).cells ({ frames := 2, cells := 0, slots := 0, locals := 36 } : Room).slots T1 (mkF m 32 #[(.val .null), (.val (.ref t)), (.val (.int s0)), (.val (.ref sl)), (.val (.int n)), (.val (.int k))] [(.int (1 : Int32))])
  refine Owes.ret X1 (v := some (.int (1 : Int32))) (fun h => by rw [Bd.returns] at h; cases h) hlk ?_ (by decide) (by decide) (fun fs hr => retN X1 hx (t := .boolean) Bd.returns (by simp) (hb hby d15_32) hr)
  rw [e1]
  exact ⟨rfl, rfl, rfl⟩
theorem ef_rmG1 (m : MethodId) (x0 : Addr) (x1 : Int32) : entryFrame m #[(.ref x0), (.int x1)] 2 = mkF m 0 #[(.val (.ref x0)), (.val (.int x1))] [] := by first | (simp [entryFrame, mkF, argsToLocals, Value.category]; done) | rfl
set_option maxRecDepth 65536 in
set_option maxHeartbeats 40000000 in
theorem rmG1 (l : Launch) (Z : State) (a0 : Array Value) (hw : ∀ d ∈ tables_1, d.before a0 Z = true) (ws : List Jvm.Cond) (b va t : Addr) (cl : Cell) (s0 : Int32) (h0 : Heap) (n0 : Nat) (Z0 : n0 ≤ h0.size) (F : Fld Z h0 b "com/example/incant5/incant5/Bindings" "values" "[Lcom/example/incant5/incant5/Term;" (.ref va)) (Ar : Arr Z h0 va cl (.object "com/example/incant5/incant5/Term")) (hin : ¬ (s0 < 0 ∨ cl.slots.size ≤ s0.toNatClampNeg)) (hat : cl.slots[s0.toNatClampNeg]? = some (.ref t)) :
    MetFree l (⟨"com/example/incant5/incant5/Bindings", "get", "(I)Lcom/example/incant5/incant5/Term;"⟩ : MethodName) (head1 (Jvm.Cond.code (⟨"com/example/incant5/incant5/Bindings", "get", "(I)Lcom/example/incant5/incant5/Term;"⟩ : MethodName) prog_8_method_2_code 2 (some (.object "com/example/incant5/incant5/Term")) :: ws) ({ frames := 0, cells := 0, slots := 0, locals := 0 } : Room)) (fun aa UU => aa = #[(.ref b), (.int s0)] ∧ Z.Warmed39 UU.vm ∧ UU.heap = h0) (fun _ _ _ _ _ => True) (fun _ UU oo UU' => ∃ vr Lr, oo = .returned vr ∧ (Qv (some (.ref t)) h0 n0) vr UU'.heap Lr ∧ FrameEnd UU oo UU' Lr ({ frames := 0, cells := 0, slots := 0, locals := 0 } : Room).cells ({ frames := 0, cells := 0, slots := 0, locals := 0 } : Room).slots) := by
  refine MetFree.of_bodySF (plainFor_of_name pn_Bindings) hisR ?_
  intro p e s m args below meth c s₁ Bd hml0 hP hK
  obtain ⟨rfl, hZ, hh⟩ := hP
  have hx := Bd.exec
  have hby := Bd.bytes
  have hml : c.maxLocals = 2 := hml0
  have hown : s.vm.findClass "com/example/incant5/incant5/Bindings" = some m.cls := findClass_of_methodNamed Bd.named
  have hnm := (name_of_methodNamed Bd.named Bd.method).1
  have hlk := Bd.notSynchronized
  have X0 : Stand p l e ({ frames := 0, cells := 0, slots := 0, locals := 0 } : Room) s m #[(.ref b), (.int s0)] below meth c s₁ [] 0 0 := Stand.of_body Bd
  have e0 : s₁.heap = h0 := by rw [← hh, Bd.state]; rfl
  have N0 := Fr.nil n0
  show Owes p e below s (Qv (some (.ref t)) h0 n0) ({ frames := 0, cells := 0, slots := 0, locals := 0 } : Room).cells ({ frames := 0, cells := 0, slots := 0, locals := 0 } : Room).slots s₁ (entryFrame m #[(.ref b), (.int s0)] 2)
  rw [ef_rmG1 m b s0]
  show Owes p e below s (Qv (some (.ref t)) h0 n0) ({ frames := 0, cells := 0, slots := 0, locals := 0 } : Room).cells ({ frames := 0, cells := 0, slots := 0, locals := 0 } : Room).slots s₁ (mkF m 0 #[(.val (.ref b)), (.val (.int s0))] [])
  refine Owes.by (fun _ kq => XS.aloadN X0.here hx rfl (hb hby d14_0) rfl rfl kq) ?_
  show Owes p e below s (Qv (some (.ref t)) h0 n0) ({ frames := 0, cells := 0, slots := 0, locals := 0 } : Room).cells ({ frames := 0, cells := 0, slots := 0, locals := 0 } : Room).slots s₁ (mkF m 1 #[(.val (.ref b)), (.val (.int s0))] [(.ref b)])
  obtain ⟨T1, X1, e1, st1⟩ := getF X0 hx hZ hown (host := "") (Or.inl (hw _ (List.mem_of_getElem? (i := 64) rfl))) Via.refl e0 F (g := (mkF m 1 #[(.val (.ref b)), (.val (.int s0))] [(.ref b)])) rfl rfl (hb hby d14_1)
  refine Owes.by st1 ?_
  show Owes p e below s (Qv (some (.ref t)) h0 n0) ({ frames := 0, cells := 0, slots := 0, locals := 0 } : Room).cells ({ frames := 0, cells := 0, slots := 0, locals := 0 } : Room).slots T1 (mkF m 4 #[(.val (.ref b)), (.val (.int s0))] [(.ref va)])
  refine Owes.by (fun _ kq => XS.iloadN X1.here hx rfl (hb hby d14_4) rfl kq) ?_
  show Owes p e below s (Qv (some (.ref t)) h0 n0) ({ frames := 0, cells := 0, slots := 0, locals := 0 } : Room).cells ({ frames := 0, cells := 0, slots := 0, locals := 0 } : Room).slots T1 (mkF m 5 #[(.val (.ref b)), (.val (.int s0))] [(.int s0), (.ref va)])
  refine Owes.by (fun tq kq => X1.aaload hx (j := s0) (v := (.ref t)) (by rw [e1]; exact Ar.1) (State.isArrayOf_alike hZ.alike Ar.2.1) rfl Ar.2.2 hin hat (g := (mkF m 5 #[(.val (.ref b)), (.val (.int s0))] [(.int s0), (.ref va)])) rfl rfl (hb hby d14_5) tq kq) ?_
  show Owes p e below s (Qv (some (.ref t)) h0 n0) ({ frames := 0, cells := 0, slots := 0, locals := 0 } : Room).cells ({ frames := 0, cells := 0, slots := 0, locals := 0 } : Room).slots T1 (mkF m 6 #[(.val (.ref b)), (.val (.int s0))] [(.ref t)])
  refine Owes.ret X1 (v := some (.ref t)) (fun h => by rw [Bd.returns] at h; cases h) hlk ?_ (by decide) (by decide) (fun fs hr => retOut X1 hx Bd.returns rfl (Or.inr (Or.inr (Or.inr (Or.inr ⟨rfl, rfl, rfl⟩)))) (hb hby d14_6) hr)
  rw [e1]
  exact ⟨rfl, rfl, rfl⟩
theorem ef_rmG0 (m : MethodId) (x0 : Addr) (x1 : Int32) : entryFrame m #[(.ref x0), (.int x1)] 2 = mkF m 0 #[(.val (.ref x0)), (.val (.int x1))] [] := by first | (simp [entryFrame, mkF, argsToLocals, Value.category]; done) | rfl
set_option maxRecDepth 65536 in
set_option maxHeartbeats 40000000 in
theorem rmG0 (l : Launch) (Z : State) (a0 : Array Value) (hw : ∀ d ∈ tables_1, d.before a0 Z = true) (ws : List Jvm.Cond) (b va t : Addr) (cl : Cell) (s0 : Int32) (h0 : Heap) (n0 : Nat) (Z0 : n0 ≤ h0.size) (F : Fld Z h0 b "com/example/incant5/incant5/Bindings" "values" "[Lcom/example/incant5/incant5/Term;" (.ref va)) (Ar : Arr Z h0 va cl (.object "com/example/incant5/incant5/Term")) (hin : ¬ (s0 < 0 ∨ cl.slots.size ≤ s0.toNatClampNeg)) (hat : cl.slots[s0.toNatClampNeg]? = some .null) :
    MetFree l (⟨"com/example/incant5/incant5/Bindings", "get", "(I)Lcom/example/incant5/incant5/Term;"⟩ : MethodName) (head1 (Jvm.Cond.code (⟨"com/example/incant5/incant5/Bindings", "get", "(I)Lcom/example/incant5/incant5/Term;"⟩ : MethodName) prog_8_method_2_code 2 (some (.object "com/example/incant5/incant5/Term")) :: ws) ({ frames := 0, cells := 0, slots := 0, locals := 0 } : Room)) (fun aa UU => aa = #[(.ref b), (.int s0)] ∧ Z.Warmed39 UU.vm ∧ UU.heap = h0) (fun _ _ _ _ _ => True) (fun _ UU oo UU' => ∃ vr Lr, oo = .returned vr ∧ (Qv (some .null) h0 n0) vr UU'.heap Lr ∧ FrameEnd UU oo UU' Lr ({ frames := 0, cells := 0, slots := 0, locals := 0 } : Room).cells ({ frames := 0, cells := 0, slots := 0, locals := 0 } : Room).slots) := by
  refine MetFree.of_bodySF (plainFor_of_name pn_Bindings) hisR ?_
  intro p e s m args below meth c s₁ Bd hml0 hP hK
  obtain ⟨rfl, hZ, hh⟩ := hP
  have hx := Bd.exec
  have hby := Bd.bytes
  have hml : c.maxLocals = 2 := hml0
  have hown : s.vm.findClass "com/example/incant5/incant5/Bindings" = some m.cls := findClass_of_methodNamed Bd.named
  have hnm := (name_of_methodNamed Bd.named Bd.method).1
  have hlk := Bd.notSynchronized
  have X0 : Stand p l e ({ frames := 0, cells := 0, slots := 0, locals := 0 } : Room) s m #[(.ref b), (.int s0)] below meth c s₁ [] 0 0 := Stand.of_body Bd
  have e0 : s₁.heap = h0 := by rw [← hh, Bd.state]; rfl
  have N0 := Fr.nil n0
  show Owes p e below s (Qv (some .null) h0 n0) ({ frames := 0, cells := 0, slots := 0, locals := 0 } : Room).cells ({ frames := 0, cells := 0, slots := 0, locals := 0 } : Room).slots s₁ (entryFrame m #[(.ref b), (.int s0)] 2)
  rw [ef_rmG0 m b s0]
  show Owes p e below s (Qv (some .null) h0 n0) ({ frames := 0, cells := 0, slots := 0, locals := 0 } : Room).cells ({ frames := 0, cells := 0, slots := 0, locals := 0 } : Room).slots s₁ (mkF m 0 #[(.val (.ref b)), (.val (.int s0))] [])
  refine Owes.by (fun _ kq => XS.aloadN X0.here hx rfl (hb hby d14_0) rfl rfl kq) ?_
  show Owes p e below s (Qv (some .null) h0 n0) ({ frames := 0, cells := 0, slots := 0, locals := 0 } : Room).cells ({ frames := 0, cells := 0, slots := 0, locals := 0 } : Room).slots s₁ (mkF m 1 #[(.val (.ref b)), (.val (.int s0))] [(.ref b)])
  obtain ⟨T1, X1, e1, st1⟩ := getF X0 hx hZ hown (host := "") (Or.inl (hw _ (List.mem_of_getElem? (i := 64) rfl))) Via.refl e0 F (g := (mkF m 1 #[(.val (.ref b)), (.val (.int s0))] [(.ref b)])) rfl rfl (hb hby d14_1)
  refine Owes.by st1 ?_
  show Owes p e below s (Qv (some .null) h0 n0) ({ frames := 0, cells := 0, slots := 0, locals := 0 } : Room).cells ({ frames := 0, cells := 0, slots := 0, locals := 0 } : Room).slots T1 (mkF m 4 #[(.val (.ref b)), (.val (.int s0))] [(.ref va)])
  refine Owes.by (fun _ kq => XS.iloadN X1.here hx rfl (hb hby d14_4) rfl kq) ?_
  show Owes p e below s (Qv (some .null) h0 n0) ({ frames := 0, cells := 0, slots := 0, locals := 0 } : Room).cells ({ frames := 0, cells := 0, slots := 0, locals := 0 } : Room).slots T1 (mkF m 5 #[(.val (.ref b)), (.val (.int s0))] [(.int s0), (.ref va)])
  refine Owes.by (fun tq kq => X1.aaload hx (j := s0) (v := .null) (by rw [e1]; exact Ar.1) (State.isArrayOf_alike hZ.alike Ar.2.1) rfl Ar.2.2 hin hat (g := (mkF m 5 #[(.val (.ref b)), (.val (.int s0))] [(.int s0), (.ref va)])) rfl rfl (hb hby d14_5) tq kq) ?_
  show Owes p e below s (Qv (some .null) h0 n0) ({ frames := 0, cells := 0, slots := 0, locals := 0 } : Room).cells ({ frames := 0, cells := 0, slots := 0, locals := 0 } : Room).slots T1 (mkF m 6 #[(.val (.ref b)), (.val (.int s0))] [.null])
  refine Owes.ret X1 (v := some .null) (fun h => by rw [Bd.returns] at h; cases h) hlk ?_ (by decide) (by decide) (fun fs hr => retOut X1 hx Bd.returns rfl (Or.inr (Or.inr (Or.inr (Or.inr ⟨rfl, rfl, rfl⟩)))) (hb hby d14_6) hr)
  rw [e1]
  exact ⟨rfl, rfl, rfl⟩
theorem ef_rmMk (m : MethodId) (x0 : Addr) : entryFrame m #[(.ref x0)] 1 = mkF m 0 #[(.val (.ref x0))] [] := by first | (simp [entryFrame, mkF, argsToLocals, Value.category]; done) | rfl
set_option maxRecDepth 65536 in
set_option maxHeartbeats 40000000 in
theorem rmMk (l : Launch) (Z : State) (a0 : Array Value) (hw : ∀ d ∈ tables_1, d.before a0 Z = true) (ws : List Jvm.Cond) (b : Addr) (n : Int32) (h0 : Heap) (n0 : Nat) (Z0 : n0 ≤ h0.size) (F : Fld Z h0 b "com/example/incant5/incant5/Bindings" "trailSize" "I" (.int n)) :
    MetFree l (⟨"com/example/incant5/incant5/Bindings", "mark", "()I"⟩ : MethodName) (head1 (Jvm.Cond.code (⟨"com/example/incant5/incant5/Bindings", "mark", "()I"⟩ : MethodName) prog_8_method_4_code 1 (some .int) :: ws) ({ frames := 0, cells := 0, slots := 0, locals := 0 } : Room)) (fun aa UU => aa = #[(.ref b)] ∧ Z.Warmed39 UU.vm ∧ UU.heap = h0) (fun _ _ _ _ _ => True) (fun _ UU oo UU' => ∃ vr Lr, oo = .returned vr ∧ (Qv (some (.int n)) h0 n0) vr UU'.heap Lr ∧ FrameEnd UU oo UU' Lr ({ frames := 0, cells := 0, slots := 0, locals := 0 } : Room).cells ({ frames := 0, cells := 0, slots := 0, locals := 0 } : Room).slots) := by
  refine MetFree.of_bodySF (plainFor_of_name pn_Bindings) hisR ?_
  intro p e s m args below meth c s₁ Bd hml0 hP hK
  obtain ⟨rfl, hZ, hh⟩ := hP
  have hx := Bd.exec
  have hby := Bd.bytes
  have hml : c.maxLocals = 1 := hml0
  have hown : s.vm.findClass "com/example/incant5/incant5/Bindings" = some m.cls := findClass_of_methodNamed Bd.named
  have hnm := (name_of_methodNamed Bd.named Bd.method).1
  have hlk := Bd.notSynchronized
  have X0 : Stand p l e ({ frames := 0, cells := 0, slots := 0, locals := 0 } : Room) s m #[(.ref b)] below meth c s₁ [] 0 0 := Stand.of_body Bd
  have e0 : s₁.heap = h0 := by rw [← hh, Bd.state]; rfl
  have N0 := Fr.nil n0
  show Owes p e below s (Qv (some (.int n)) h0 n0) ({ frames := 0, cells := 0, slots := 0, locals := 0 } : Room).cells ({ frames := 0, cells := 0, slots := 0, locals := 0 } : Room).slots s₁ (entryFrame m #[(.ref b)] 1)
  rw [ef_rmMk m b]
  show Owes p e below s (Qv (some (.int n)) h0 n0) ({ frames := 0, cells := 0, slots := 0, locals := 0 } : Room).cells ({ frames := 0, cells := 0, slots := 0, locals := 0 } : Room).slots s₁ (mkF m 0 #[(.val (.ref b))] [])
  refine Owes.by (fun _ kq => XS.aloadN X0.here hx rfl (hb hby d12_0) rfl rfl kq) ?_
  show Owes p e below s (Qv (some (.int n)) h0 n0) ({ frames := 0, cells := 0, slots := 0, locals := 0 } : Room).cells ({ frames := 0, cells := 0, slots := 0, locals := 0 } : Room).slots s₁ (mkF m 1 #[(.val (.ref b))] [(.ref b)])
  obtain ⟨T1, X1, e1, st1⟩ := getF X0 hx hZ hown (host := "") (Or.inl (hw _ (List.mem_of_getElem? (i := 71) rfl))) Via.refl e0 F (g := (mkF m 1 #[(.val (.ref b))] [(.ref b)])) rfl rfl (hb hby d12_1)
  refine Owes.by st1 ?_
  show Owes p e below s (Qv (some (.int n)) h0 n0) ({ frames := 0, cells := 0, slots := 0, locals := 0 } : Room).cells ({ frames := 0, cells := 0, slots := 0, locals := 0 } : Room).slots T1 (mkF m 4 #[(.val (.ref b))] [(.int n)])
  refine Owes.ret X1 (v := some (.int n)) (fun h => by rw [Bd.returns] at h; cases h) hlk ?_ (by decide) (by decide) (fun fs hr => retOut X1 hx Bd.returns rfl (Or.inl ⟨rfl, Or.inl rfl, _, rfl⟩) (hb hby d12_4) hr)
  rw [e1]
  exact ⟨rfl, rfl, rfl⟩
theorem ef_rmHC (m : MethodId) (x0 : Addr) : entryFrame m #[(.ref x0)] 3 = mkF m 0 #[(.val (.ref x0)), .unset, .unset] [] := by first | (simp [entryFrame, mkF, argsToLocals, Value.category]; done) | rfl
set_option maxRecDepth 65536 in
set_option maxHeartbeats 40000000 in
theorem rmHC (l : Launch) (Z : State) (a0 : Array Value) (hw : ∀ d ∈ tables_1, d.before a0 Z = true) (ws : List Jvm.Cond) (a : Addr) (h0 : Heap) (n0 : Nat) (Z0 : n0 ≤ h0.size) (M : own_MG Z h0 a) :
    MetFree l (⟨"java/math/BigInteger", "hashCode", "()I"⟩ : MethodName) (head1 (Jvm.Cond.code (⟨"java/math/BigInteger", "hashCode", "()I"⟩ : MethodName) jdk_2097_method_127_code 3 (some .int) :: ws) ({ frames := 0, cells := 0, slots := 0, locals := 0 } : Room)) (fun aa UU => aa = #[(.ref a)] ∧ Z.Warmed39 UU.vm ∧ UU.heap = h0) (fun _ _ _ _ _ => True) (fun _ UU oo UU' => ∃ vr Lr, oo = .returned vr ∧ (QH h0 n0) vr UU'.heap Lr ∧ FrameEnd UU oo UU' Lr ({ frames := 0, cells := 0, slots := 0, locals := 0 } : Room).cells ({ frames := 0, cells := 0, slots := 0, locals := 0 } : Room).slots) := by
  refine MetFree.of_bodySF (plainFor_of_name pn_BigInteger) hisR ?_
  intro p e s m args below meth c s₁ Bd hml0 hP hK
  obtain ⟨rfl, hZ, hh⟩ := hP
  have hx := Bd.exec
  have hby := Bd.bytes
  have hml : c.maxLocals = 3 := hml0
  have hown : s.vm.findClass "java/math/BigInteger" = some m.cls := findClass_of_methodNamed Bd.named
  have hnm := (name_of_methodNamed Bd.named Bd.method).1
  have hlk := Bd.notSynchronized
  have X0 : Stand p l e ({ frames := 0, cells := 0, slots := 0, locals := 0 } : Room) s m #[(.ref a)] below meth c s₁ [] 0 0 := Stand.of_body Bd
  have e0 : s₁.heap = h0 := by rw [← hh, Bd.state]; rfl
  have N0 := Fr.nil n0
  show Owes p e below s (QH h0 n0) ({ frames := 0, cells := 0, slots := 0, locals := 0 } : Room).cells ({ frames := 0, cells := 0, slots := 0, locals := 0 } : Room).slots s₁ (entryFrame m #[(.ref a)] 3)
  rw [ef_rmHC m a]
  show Owes p e below s (QH h0 n0) ({ frames := 0, cells := 0, slots := 0, locals := 0 } : Room).cells ({ frames := 0, cells := 0, slots := 0, locals := 0 } : Room).slots s₁ (mkF m 0 #[(.val (.ref a)), .unset, .unset] [])
  obtain ⟨E, sg, ma, cl, F, G, Ar, hl⟩ := M
  refine Owes.by (fun _ kq => XS.iconst X0.here hx rfl (hb hby d7_0) kq) ?_
  show Owes p e below s (QH h0 n0) ({ frames := 0, cells := 0, slots := 0, locals := 0 } : Room).cells ({ frames := 0, cells := 0, slots := 0, locals := 0 } : Room).slots s₁ (mkF m 1 #[(.val (.ref a)), .unset, .unset] [(.int (0 : Int32))])
  refine Owes.by (fun _ kq => XS.istoreN X0.here hx rfl (hb hby d7_1) rfl (l' := #[(.val (.ref a)), (.val (.int (0 : Int32))), .unset]) rfl kq) ?_
  show Owes p e below s (QH h0 n0) ({ frames := 0, cells := 0, slots := 0, locals := 0 } : Room).cells ({ frames := 0, cells := 0, slots := 0, locals := 0 } : Room).slots s₁ (mkF m 2 #[(.val (.ref a)), (.val (.int (0 : Int32))), .unset] [])
  refine Owes.by (fun _ kq => XS.iconst X0.here hx rfl (hb hby d7_2) kq) ?_
  show Owes p e below s (QH h0 n0) ({ frames := 0, cells := 0, slots := 0, locals := 0 } : Room).cells ({ frames := 0, cells := 0, slots := 0, locals := 0 } : Room).slots s₁ (mkF m 3 #[(.val (.ref a)), (.val (.int (0 : Int32))), .unset] [(.int (0 : Int32))])
  refine Owes.by (fun _ kq => XS.istoreN X0.here hx rfl (hb hby d7_3) rfl (l' := #[(.val (.ref a)), (.val (.int (0 : Int32))), (.val (.int (0 : Int32)))]) rfl kq) ?_
  show Owes p e below s (QH h0 n0) ({ frames := 0, cells := 0, slots := 0, locals := 0 } : Room).cells ({ frames := 0, cells := 0, slots := 0, locals := 0 } : Room).slots s₁ (mkF m 4 #[(.val (.ref a)), (.val (.int (0 : Int32))), (.val (.int (0 : Int32)))] [])
  refine Owes.by (fun _ kq => XS.iloadN X0.here hx rfl (hb hby d7_4) rfl kq) ?_
  show Owes p e below s (QH h0 n0) ({ frames := 0, cells := 0, slots := 0, locals := 0 } : Room).cells ({ frames := 0, cells := 0, slots := 0, locals := 0 } : Room).slots s₁ (mkF m 5 #[(.val (.ref a)), (.val (.int (0 : Int32))), (.val (.int (0 : Int32)))] [(.int (0 : Int32))])
  refine Owes.by (fun _ kq => XS.aloadN X0.here hx rfl (hb hby d7_5) rfl rfl kq) ?_
  show Owes p e below s (QH h0 n0) ({ frames := 0, cells := 0, slots := 0, locals := 0 } : Room).cells ({ frames := 0, cells := 0, slots := 0, locals := 0 } : Room).slots s₁ (mkF m 6 #[(.val (.ref a)), (.val (.int (0 : Int32))), (.val (.int (0 : Int32)))] [(.ref a), (.int (0 : Int32))])
  obtain ⟨T1, X1, e1, st1⟩ := getF X0 hx hZ hown (host := "") (Or.inl (hw _ (List.mem_of_getElem? (i := 31) rfl))) Via.refl e0 G (g := (mkF m 6 #[(.val (.ref a)), (.val (.int (0 : Int32))), (.val (.int (0 : Int32)))] [(.ref a), (.int (0 : Int32))])) rfl rfl (hb hby d7_6)
  refine Owes.by st1 ?_
  show Owes p e below s (QH h0 n0) ({ frames := 0, cells := 0, slots := 0, locals := 0 } : Room).cells ({ frames := 0, cells := 0, slots := 0, locals := 0 } : Room).slots T1 (mkF m 9 #[(.val (.ref a)), (.val (.int (0 : Int32))), (.val (.int (0 : Int32)))] [(.ref ma), (.int (0 : Int32))])
  rcases hl with hl | ⟨hl, i0, z0, t0⟩ | ⟨hl, ⟨i0, z0, t0⟩, i1, z1, t1⟩
  · skip
    refine Owes.by (fun tq kq => X1.arraylength hx (by rw [e1]; exact Ar.1) (State.isArrayOf_alike hZ.alike Ar.2.1) (g := (mkF m 9 #[(.val (.ref a)), (.val (.int (0 : Int32))), (.val (.int (0 : Int32)))] [(.ref ma), (.int (0 : Int32))])) rfl rfl (hb hby d7_9) tq (by rw [hl]; exact kq)) ?_
    show Owes p e below s (QH h0 n0) ({ frames := 0, cells := 0, slots := 0, locals := 0 } : Room).cells ({ frames := 0, cells := 0, slots := 0, locals := 0 } : Room).slots T1 (mkF m 10 #[(.val (.ref a)), (.val (.int (0 : Int32))), (.val (.int (0 : Int32)))] [(.int (0 : Int32)), (.int (0 : Int32))])
    refine Owes.by (fun _ kq => XS.icmpYes X1.here hx rfl (pc0 := 10) (pc' := 38) rfl (hb hby d7_10) rfl (XT.ii_ge_t (by decide)) (by decide) (by decide) kq) ?_
    show Owes p e below s (QH h0 n0) ({ frames := 0, cells := 0, slots := 0, locals := 0 } : Room).cells ({ frames := 0, cells := 0, slots := 0, locals := 0 } : Room).slots T1 (mkF m 38 #[(.val (.ref a)), (.val (.int (0 : Int32))), (.val (.int (0 : Int32)))] [])
    refine Owes.by (fun _ kq => XS.iloadN X1.here hx rfl (hb hby d7_38) rfl kq) ?_
    show Owes p e below s (QH h0 n0) ({ frames := 0, cells := 0, slots := 0, locals := 0 } : Room).cells ({ frames := 0, cells := 0, slots := 0, locals := 0 } : Room).slots T1 (mkF m 39 #[(.val (.ref a)), (.val (.int (0 : Int32))), (.val (.int (0 : Int32)))] [(.int (0 : Int32))])
    refine Owes.by (fun _ kq => XS.aloadN X1.here hx rfl (hb hby d7_39) rfl rfl kq) ?_
    show Owes p e below s (QH h0 n0) ({ frames := 0, cells := 0, slots := 0, locals := 0 } : Room).cells ({ frames := 0, cells := 0, slots := 0, locals := 0 } : Room).slots T1 (mkF m 40 #[(.val (.ref a)), (.val (.int (0 : Int32))), (.val (.int (0 : Int32)))] [(.ref a), (.int (0 : Int32))])
    obtain ⟨T2, X2, e2, st2⟩ := getF X1 hx hZ hown (host := "") (Or.inl (hw _ (List.mem_of_getElem? (i := 29) rfl))) Via.refl e1 F (g := (mkF m 40 #[(.val (.ref a)), (.val (.int (0 : Int32))), (.val (.int (0 : Int32)))] [(.ref a), (.int (0 : Int32))])) rfl rfl (hb hby d7_40)
    refine Owes.by st2 ?_
    show Owes p e below s (QH h0 n0) ({ frames := 0, cells := 0, slots := 0, locals := 0 } : Room).cells ({ frames := 0, cells := 0, slots := 0, locals := 0 } : Room).slots T2 (mkF m 43 #[(.val (.ref a)), (.val (.int (0 : Int32))), (.val (.int (0 : Int32)))] [(.int sg), (.int (0 : Int32))])
    refine Owes.by (fun _ kq => XS.imul X2.here hx rfl (hb hby d7_43) rfl kq) ?_
    show Owes p e below s (QH h0 n0) ({ frames := 0, cells := 0, slots := 0, locals := 0 } : Room).cells ({ frames := 0, cells := 0, slots := 0, locals := 0 } : Room).slots T2 (mkF m 44 #[(.val (.ref a)), (.val (.int (0 : Int32))), (.val (.int (0 : Int32)))] [(.int ((0 : Int32) * sg))])
    refine Owes.ret X2 (v := some (.int ((0 : Int32) * sg))) (fun h => by rw [Bd.returns] at h; cases h) hlk ?_ (by decide) (by decide) (fun fs hr => retOut X2 hx Bd.returns rfl (Or.inl ⟨rfl, Or.inl rfl, _, rfl⟩) (hb hby d7_44) hr)
    rw [e2]
    exact ⟨_, rfl, rfl, rfl⟩
  · skip
    refine Owes.by (fun tq kq => X1.arraylength hx (by rw [e1]; exact Ar.1) (State.isArrayOf_alike hZ.alike Ar.2.1) (g := (mkF m 9 #[(.val (.ref a)), (.val (.int (0 : Int32))), (.val (.int (0 : Int32)))] [(.ref ma), (.int (0 : Int32))])) rfl rfl (hb hby d7_9) tq (by rw [hl]; exact kq)) ?_
    show Owes p e below s (QH h0 n0) ({ frames := 0, cells := 0, slots := 0, locals := 0 } : Room).cells ({ frames := 0, cells := 0, slots := 0, locals := 0 } : Room).slots T1 (mkF m 10 #[(.val (.ref a)), (.val (.int (0 : Int32))), (.val (.int (0 : Int32)))] [(.int (1 : Int32)), (.int (0 : Int32))])
    refine Owes.by (fun _ kq => XS.icmpNo X1.here hx rfl (hb hby d7_10) rfl (XT.ii_ge_f (by decide)) kq) ?_
    show Owes p e below s (QH h0 n0) ({ frames := 0, cells := 0, slots := 0, locals := 0 } : Room).cells ({ frames := 0, cells := 0, slots := 0, locals := 0 } : Room).slots T1 (mkF m 13 #[(.val (.ref a)), (.val (.int (0 : Int32))), (.val (.int (0 : Int32)))] [])
    refine Owes.by (fun _ kq => XS.bipush X1.here hx rfl (hb hby d7_13) kq) ?_
    show Owes p e below s (QH h0 n0) ({ frames := 0, cells := 0, slots := 0, locals := 0 } : Room).cells ({ frames := 0, cells := 0, slots := 0, locals := 0 } : Room).slots T1 (mkF m 15 #[(.val (.ref a)), (.val (.int (0 : Int32))), (.val (.int (0 : Int32)))] [(.int (31 : Int32))])
    refine Owes.by (fun _ kq => XS.iloadN X1.here hx rfl (hb hby d7_15) rfl kq) ?_
    show Owes p e below s (QH h0 n0) ({ frames := 0, cells := 0, slots := 0, locals := 0 } : Room).cells ({ frames := 0, cells := 0, slots := 0, locals := 0 } : Room).slots T1 (mkF m 16 #[(.val (.ref a)), (.val (.int (0 : Int32))), (.val (.int (0 : Int32)))] [(.int (0 : Int32)), (.int (31 : Int32))])
    refine Owes.by (fun _ kq => XS.imul X1.here hx rfl (hb hby d7_16) rfl kq) ?_
    show Owes p e below s (QH h0 n0) ({ frames := 0, cells := 0, slots := 0, locals := 0 } : Room).cells ({ frames := 0, cells := 0, slots := 0, locals := 0 } : Room).slots T1 (mkF m 17 #[(.val (.ref a)), (.val (.int (0 : Int32))), (.val (.int (0 : Int32)))] [(.int ((31 : Int32) * (0 : Int32)))])
    refine Owes.by (fun _ kq => XT.i2l X1.here hx rfl (hb hby d7_17) rfl kq) ?_
    show Owes p e below s (QH h0 n0) ({ frames := 0, cells := 0, slots := 0, locals := 0 } : Room).cells ({ frames := 0, cells := 0, slots := 0, locals := 0 } : Room).slots T1 (mkF m 18 #[(.val (.ref a)), (.val (.int (0 : Int32))), (.val (.int (0 : Int32)))] [(.long (((31 : Int32) * (0 : Int32)).toInt64))])
    refine Owes.by (fun _ kq => XS.aloadN X1.here hx rfl (hb hby d7_18) rfl rfl kq) ?_
    show Owes p e below s (QH h0 n0) ({ frames := 0, cells := 0, slots := 0, locals := 0 } : Room).cells ({ frames := 0, cells := 0, slots := 0, locals := 0 } : Room).slots T1 (mkF m 19 #[(.val (.ref a)), (.val (.int (0 : Int32))), (.val (.int (0 : Int32)))] [(.ref a), (.long (((31 : Int32) * (0 : Int32)).toInt64))])
    obtain ⟨T3, X3, e3, st3⟩ := getF X1 hx hZ hown (host := "") (Or.inl (hw _ (List.mem_of_getElem? (i := 31) rfl))) Via.refl e1 G (g := (mkF m 19 #[(.val (.ref a)), (.val (.int (0 : Int32))), (.val (.int (0 : Int32)))] [(.ref a), (.long (((31 : Int32) * (0 : Int32)).toInt64))])) rfl rfl (hb hby d7_19)
    refine Owes.by st3 ?_
    show Owes p e below s (QH h0 n0) ({ frames := 0, cells := 0, slots := 0, locals := 0 } : Room).cells ({ frames := 0, cells := 0, slots := 0, locals := 0 } : Room).slots T3 (mkF m 22 #[(.val (.ref a)), (.val (.int (0 : Int32))), (.val (.int (0 : Int32)))] [(.ref ma), (.long (((31 : Int32) * (0 : Int32)).toInt64))])
    refine Owes.by (fun _ kq => XS.iloadN X3.here hx rfl (hb hby d7_22) rfl kq) ?_
    show Owes p e below s (QH h0 n0) ({ frames := 0, cells := 0, slots := 0, locals := 0 } : Room).cells ({ frames := 0, cells := 0, slots := 0, locals := 0 } : Room).slots T3 (mkF m 23 #[(.val (.ref a)), (.val (.int (0 : Int32))), (.val (.int (0 : Int32)))] [(.int (0 : Int32)), (.ref ma), (.long (((31 : Int32) * (0 : Int32)).toInt64))])
    refine Owes.by (fun tq kq => X3.iaload hx (j := (0 : Int32)) (v := (.int z0)) (by rw [e3]; exact Ar.1) (State.isArrayOf_alike hZ.alike Ar.2.1) Ar.2.2 i0 t0 (g := (mkF m 23 #[(.val (.ref a)), (.val (.int (0 : Int32))), (.val (.int (0 : Int32)))] [(.int (0 : Int32)), (.ref ma), (.long (((31 : Int32) * (0 : Int32)).toInt64))])) rfl rfl (hb hby d7_23) tq kq) ?_
    show Owes p e below s (QH h0 n0) ({ frames := 0, cells := 0, slots := 0, locals := 0 } : Room).cells ({ frames := 0, cells := 0, slots := 0, locals := 0 } : Room).slots T3 (mkF m 24 #[(.val (.ref a)), (.val (.int (0 : Int32))), (.val (.int (0 : Int32)))] [(.int z0), (.long (((31 : Int32) * (0 : Int32)).toInt64))])
    refine Owes.by (fun _ kq => XT.i2l X3.here hx rfl (hb hby d7_24) rfl kq) ?_
    show Owes p e below s (QH h0 n0) ({ frames := 0, cells := 0, slots := 0, locals := 0 } : Room).cells ({ frames := 0, cells := 0, slots := 0, locals := 0 } : Room).slots T3 (mkF m 25 #[(.val (.ref a)), (.val (.int (0 : Int32))), (.val (.int (0 : Int32)))] [(.long (z0.toInt64)), (.long (((31 : Int32) * (0 : Int32)).toInt64))])
    refine Owes.by (fun tq kq => X3.ldc2Long hx hown (mvT hZ (hw _ (List.mem_of_getElem? (i := 41) rfl))) (g := (mkF m 25 #[(.val (.ref a)), (.val (.int (0 : Int32))), (.val (.int (0 : Int32)))] [(.long (z0.toInt64)), (.long (((31 : Int32) * (0 : Int32)).toInt64))])) rfl (hb hby d7_25) tq kq) ?_
    show Owes p e below s (QH h0 n0) ({ frames := 0, cells := 0, slots := 0, locals := 0 } : Room).cells ({ frames := 0, cells := 0, slots := 0, locals := 0 } : Room).slots T3 (mkF m 28 #[(.val (.ref a)), (.val (.int (0 : Int32))), (.val (.int (0 : Int32)))] [(.long (4294967295 : Int64)), (.long (z0.toInt64)), (.long (((31 : Int32) * (0 : Int32)).toInt64))])
    refine Owes.by (fun _ kq => XT.land X3.here hx rfl (hb hby d7_28) rfl kq) ?_
    show Owes p e below s (QH h0 n0) ({ frames := 0, cells := 0, slots := 0, locals := 0 } : Room).cells ({ frames := 0, cells := 0, slots := 0, locals := 0 } : Room).slots T3 (mkF m 29 #[(.val (.ref a)), (.val (.int (0 : Int32))), (.val (.int (0 : Int32)))] [(.long ((z0.toInt64) &&& (4294967295 : Int64))), (.long (((31 : Int32) * (0 : Int32)).toInt64))])
    refine Owes.by (fun _ kq => XT.ladd X3.here hx rfl (hb hby d7_29) rfl kq) ?_
    show Owes p e below s (QH h0 n0) ({ frames := 0, cells := 0, slots := 0, locals := 0 } : Room).cells ({ frames := 0, cells := 0, slots := 0, locals := 0 } : Room).slots T3 (mkF m 30 #[(.val (.ref a)), (.val (.int (0 : Int32))), (.val (.int (0 : Int32)))] [(.long ((((31 : Int32) * (0 : Int32)).toInt64) + ((z0.toInt64) &&& (4294967295 : Int64))))])
    refine Owes.by (fun _ kq => XT.l2i X3.here hx rfl (hb hby d7_30) rfl kq) ?_
    show Owes p e below s (QH h0 n0) ({ frames := 0, cells := 0, slots := 0, locals := 0 } : Room).cells ({ frames := 0, cells := 0, slots := 0, locals := 0 } : Room).slots T3 (mkF m 31 #[(.val (.ref a)), (.val (.int (0 : Int32))), (.val (.int (0 : Int32)))] [(.int (((((31 : Int32) * (0 : Int32)).toInt64) + ((z0.toInt64) &&& (4294967295 : Int64))).toInt32))])
    refine Owes.by (fun _ kq => XS.istoreN X3.here hx rfl (hb hby d7_31) rfl (l' := #[(.val (.ref a)), (.val (.int (((((31 : Int32) * (0 : Int32)).toInt64) + ((z0.toInt64) &&& (4294967295 : Int64))).toInt32))), (.val (.int (0 : Int32)))]) rfl kq) ?_
    show Owes p e below s (QH h0 n0) ({ frames := 0, cells := 0, slots := 0, locals := 0 } : Room).cells ({ frames := 0, cells := 0, slots := 0, locals := 0 } : Room).slots T3 (mkF m 32 #[(.val (.ref a)), (.val (.int (((((31 : Int32) * (0 : Int32)).toInt64) + ((z0.toInt64) &&& (4294967295 : Int64))).toInt32))), (.val (.int (0 : Int32)))] [])
    refine Owes.by (fun _ kq => XS.iinc X3.here hx rfl (hb hby d7_32) rfl (l' := #[(.val (.ref a)), (.val (.int (((((31 : Int32) * (0 : Int32)).toInt64) + ((z0.toInt64) &&& (4294967295 : Int64))).toInt32))), (.val (.int (1 : Int32)))]) rfl kq) ?_
    show Owes p e below s (QH h0 n0) ({ frames := 0, cells := 0, slots := 0, locals := 0 } : Room).cells ({ frames := 0, cells := 0, slots := 0, locals := 0 } : Room).slots T3 (mkF m 35 #[(.val (.ref a)), (.val (.int (((((31 : Int32) * (0 : Int32)).toInt64) + ((z0.toInt64) &&& (4294967295 : Int64))).toInt32))), (.val (.int (1 : Int32)))] [])
    refine Owes.by (fun _ kq => XS.goto X3.here hx rfl (pc0 := 35) (pc' := 4) rfl (hb hby d7_35) (by decide) (by decide) kq) ?_
    show Owes p e below s (QH h0 n0) ({ frames := 0, cells := 0, slots := 0, locals := 0 } : Room).cells ({ frames := 0, cells := 0, slots := 0, locals := 0 } : Room).slots T3 (mkF m 4 #[(.val (.ref a)), (.val (.int (((((31 : Int32) * (0 : Int32)).toInt64) + ((z0.toInt64) &&& (4294967295 : Int64))).toInt32))), (.val (.int (1 : Int32)))] [])
    refine Owes.by (fun _ kq => XS.iloadN X3.here hx rfl (hb hby d7_4) rfl kq) ?_
    show Owes p e below s (QH h0 n0) ({ frames := 0, cells := 0, slots := 0, locals := 0 } : Room).cells ({ frames := 0, cells := 0, slots := 0, locals := 0 } : Room).slots T3 (mkF m 5 #[(.val (.ref a)), (.val (.int (((((31 : Int32) * (0 : Int32)).toInt64) + ((z0.toInt64) &&& (4294967295 : Int64))).toInt32))), (.val (.int (1 : Int32)))] [(.int (1 : Int32))])
    refine Owes.by (fun _ kq => XS.aloadN X3.here hx rfl (hb hby d7_5) rfl rfl kq) ?_
    show Owes p e below s (QH h0 n0) ({ frames := 0, cells := 0, slots := 0, locals := 0 } : Room).cells ({ frames := 0, cells := 0, slots := 0, locals := 0 } : Room).slots T3 (mkF m 6 #[(.val (.ref a)), (.val (.int (((((31 : Int32) * (0 : Int32)).toInt64) + ((z0.toInt64) &&& (4294967295 : Int64))).toInt32))), (.val (.int (1 : Int32)))] [(.ref a), (.int (1 : Int32))])
    obtain ⟨T4, X4, e4, st4⟩ := getF X3 hx hZ hown (host := "") (Or.inl (hw _ (List.mem_of_getElem? (i := 31) rfl))) Via.refl e3 G (g := (mkF m 6 #[(.val (.ref a)), (.val (.int (((((31 : Int32) * (0 : Int32)).toInt64) + ((z0.toInt64) &&& (4294967295 : Int64))).toInt32))), (.val (.int (1 : Int32)))] [(.ref a), (.int (1 : Int32))])) rfl rfl (hb hby d7_6)
    refine Owes.by st4 ?_
    show Owes p e below s (QH h0 n0) ({ frames := 0, cells := 0, slots := 0, locals := 0 } : Room).cells ({ frames := 0, cells := 0, slots := 0, locals := 0 } : Room).slots T4 (mkF m 9 #[(.val (.ref a)), (.val (.int (((((31 : Int32) * (0 : Int32)).toInt64) + ((z0.toInt64) &&& (4294967295 : Int64))).toInt32))), (.val (.int (1 : Int32)))] [(.ref ma), (.int (1 : Int32))])
    refine Owes.by (fun tq kq => X4.arraylength hx (by rw [e4]; exact Ar.1) (State.isArrayOf_alike hZ.alike Ar.2.1) (g := (mkF m 9 #[(.val (.ref a)), (.val (.int (((((31 : Int32) * (0 : Int32)).toInt64) + ((z0.toInt64) &&& (4294967295 : Int64))).toInt32))), (.val (.int (1 : Int32)))] [(.ref ma), (.int (1 : Int32))])) rfl rfl (hb hby d7_9) tq (by rw [hl]; exact kq)) ?_
    show Owes p e below s (QH h0 n0) ({ frames := 0, cells := 0, slots := 0, locals := 0 } : Room).cells ({ frames := 0, cells := 0, slots := 0, locals := 0 } : Room).slots T4 (mkF m 10 #[(.val (.ref a)), (.val (.int (((((31 : Int32) * (0 : Int32)).toInt64) + ((z0.toInt64) &&& (4294967295 : Int64))).toInt32))), (.val (.int (1 : Int32)))] [(.int (1 : Int32)), (.int (1 : Int32))])
    refine Owes.by (fun _ kq => XS.icmpYes X4.here hx rfl (pc0 := 10) (pc' := 38) rfl (hb hby d7_10) rfl (XT.ii_ge_t (by decide)) (by decide) (by decide) kq) ?_
    show Owes p e below s (QH h0 n0) ({ frames := 0, cells := 0, slots := 0, locals := 0 } : Room).cells ({ frames := 0, cells := 0, slots := 0, locals := 0 } : Room).slots T4 (mkF m 38 #[(.val (.ref a)), (.val (.int (((((31 : Int32) * (0 : Int32)).toInt64) + ((z0.toInt64) &&& (4294967295 : Int64))).toInt32))), (.val (.int (1 : Int32)))] [])
    refine Owes.by (fun _ kq => XS.iloadN X4.here hx rfl (hb hby d7_38) rfl kq) ?_
    show Owes p e below s (QH h0 n0) ({ frames := 0, cells := 0, slots := 0, locals := 0 } : Room).cells ({ frames := 0, cells := 0, slots := 0, locals := 0 } : Room).slots T4 (mkF m 39 #[(.val (.ref a)), (.val (.int (((((31 : Int32) * (0 : Int32)).toInt64) + ((z0.toInt64) &&& (4294967295 : Int64))).toInt32))), (.val (.int (1 : Int32)))] [(.int (((((31 : Int32) * (0 : Int32)).toInt64) + ((z0.toInt64) &&& (4294967295 : Int64))).toInt32))])
    refine Owes.by (fun _ kq => XS.aloadN X4.here hx rfl (hb hby d7_39) rfl rfl kq) ?_
    show Owes p e below s (QH h0 n0) ({ frames := 0, cells := 0, slots := 0, locals := 0 } : Room).cells ({ frames := 0, cells := 0, slots := 0, locals := 0 } : Room).slots T4 (mkF m 40 #[(.val (.ref a)), (.val (.int (((((31 : Int32) * (0 : Int32)).toInt64) + ((z0.toInt64) &&& (4294967295 : Int64))).toInt32))), (.val (.int (1 : Int32)))] [(.ref a), (.int (((((31 : Int32) * (0 : Int32)).toInt64) + ((z0.toInt64) &&& (4294967295 : Int64))).toInt32))])
    obtain ⟨T5, X5, e5, st5⟩ := getF X4 hx hZ hown (host := "") (Or.inl (hw _ (List.mem_of_getElem? (i := 29) rfl))) Via.refl e4 F (g := (mkF m 40 #[(.val (.ref a)), (.val (.int (((((31 : Int32) * (0 : Int32)).toInt64) + ((z0.toInt64) &&& (4294967295 : Int64))).toInt32))), (.val (.int (1 : Int32)))] [(.ref a), (.int (((((31 : Int32) * (0 : Int32)).toInt64) + ((z0.toInt64) &&& (4294967295 : Int64))).toInt32))])) rfl rfl (hb hby d7_40)
    refine Owes.by st5 ?_
    show Owes p e below s (QH h0 n0) ({ frames := 0, cells := 0, slots := 0, locals := 0 } : Room).cells ({ frames := 0, cells := 0, slots := 0, locals := 0 } : Room).slots T5 (mkF m 43 #[(.val (.ref a)), (.val (.int (((((31 : Int32) * (0 : Int32)).toInt64) + ((z0.toInt64) &&& (4294967295 : Int64))).toInt32))), (.val (.int (1 : Int32)))] [(.int sg), (.int (((((31 : Int32) * (0 : Int32)).toInt64) + ((z0.toInt64) &&& (4294967295 : Int64))).toInt32))])
    refine Owes.by (fun _ kq => XS.imul X5.here hx rfl (hb hby d7_43) rfl kq) ?_
    show Owes p e below s (QH h0 n0) ({ frames := 0, cells := 0, slots := 0, locals := 0 } : Room).cells ({ frames := 0, cells := 0, slots := 0, locals := 0 } : Room).slots T5 (mkF m 44 #[(.val (.ref a)), (.val (.int (((((31 : Int32) * (0 : Int32)).toInt64) + ((z0.toInt64) &&& (4294967295 : Int64))).toInt32))), (.val (.int (1 : Int32)))] [(.int ((((((31 : Int32) * (0 : Int32)).toInt64) + ((z0.toInt64) &&& (4294967295 : Int64))).toInt32) * sg))])
    refine Owes.ret X5 (v := some (.int ((((((31 : Int32) * (0 : Int32)).toInt64) + ((z0.toInt64) &&& (4294967295 : Int64))).toInt32) * sg))) (fun h => by rw [Bd.returns] at h; cases h) hlk ?_ (by decide) (by decide) (fun fs hr => retOut X5 hx Bd.returns rfl (Or.inl ⟨rfl, Or.inl rfl, _, rfl⟩) (hb hby d7_44) hr)
    rw [e5]
    exact ⟨_, rfl, rfl, rfl⟩
  · skip
    refine Owes.by (fun tq kq => X1.arraylength hx (by rw [e1]; exact Ar.1) (State.isArrayOf_alike hZ.alike Ar.2.1) (g := (mkF m 9 #[(.val (.ref a)), (.val (.int (0 : Int32))), (.val (.int (0 : Int32)))] [(.ref ma), (.int (0 : Int32))])) rfl rfl (hb hby d7_9) tq (by rw [hl]; exact kq)) ?_
    show Owes p e below s (QH h0 n0) ({ frames := 0, cells := 0, slots := 0, locals := 0 } : Room).cells ({ frames := 0, cells := 0, slots := 0, locals := 0 } : Room).slots T1 (mkF m 10 #[(.val (.ref a)), (.val (.int (0 : Int32))), (.val (.int (0 : Int32)))] [(.int (2 : Int32)), (.int (0 : Int32))])
    refine Owes.by (fun _ kq => XS.icmpNo X1.here hx rfl (hb hby d7_10) rfl (XT.ii_ge_f (by decide)) kq) ?_
    show Owes p e below s (QH h0 n0) ({ frames := 0, cells := 0, slots := 0, locals := 0 } : Room).cells ({ frames := 0, cells := 0, slots := 0, locals := 0 } : Room).slots T1 (mkF m 13 #[(.val (.ref a)), (.val (.int (0 : Int32))), (.val (.int (0 : Int32)))] [])
    refine Owes.by (fun _ kq => XS.bipush X1.here hx rfl (hb hby d7_13) kq) ?_
    show Owes p e below s (QH h0 n0) ({ frames := 0, cells := 0, slots := 0, locals := 0 } : Room).cells ({ frames := 0, cells := 0, slots := 0, locals := 0 } : Room).slots T1 (mkF m 15 #[(.val (.ref a)), (.val (.int (0 : Int32))), (.val (.int (0 : Int32)))] [(.int (31 : Int32))])
    refine Owes.by (fun _ kq => XS.iloadN X1.here hx rfl (hb hby d7_15) rfl kq) ?_
    show Owes p e below s (QH h0 n0) ({ frames := 0, cells := 0, slots := 0, locals := 0 } : Room).cells ({ frames := 0, cells := 0, slots := 0, locals := 0 } : Room).slots T1 (mkF m 16 #[(.val (.ref a)), (.val (.int (0 : Int32))), (.val (.int (0 : Int32)))] [(.int (0 : Int32)), (.int (31 : Int32))])
    refine Owes.by (fun _ kq => XS.imul X1.here hx rfl (hb hby d7_16) rfl kq) ?_
    show Owes p e below s (QH h0 n0) ({ frames := 0, cells := 0, slots := 0, locals := 0 } : Room).cells ({ frames := 0, cells := 0, slots := 0, locals := 0 } : Room).slots T1 (mkF m 17 #[(.val (.ref a)), (.val (.int (0 : Int32))), (.val (.int (0 : Int32)))] [(.int ((31 : Int32) * (0 : Int32)))])
    refine Owes.by (fun _ kq => XT.i2l X1.here hx rfl (hb hby d7_17) rfl kq) ?_
    show Owes p e below s (QH h0 n0) ({ frames := 0, cells := 0, slots := 0, locals := 0 } : Room).cells ({ frames := 0, cells := 0, slots := 0, locals := 0 } : Room).slots T1 (mkF m 18 #[(.val (.ref a)), (.val (.int (0 : Int32))), (.val (.int (0 : Int32)))] [(.long (((31 : Int32) * (0 : Int32)).toInt64))])
    refine Owes.by (fun _ kq => XS.aloadN X1.here hx rfl (hb hby d7_18) rfl rfl kq) ?_
    show Owes p e below s (QH h0 n0) ({ frames := 0, cells := 0, slots := 0, locals := 0 } : Room).cells ({ frames := 0, cells := 0, slots := 0, locals := 0 } : Room).slots T1 (mkF m 19 #[(.val (.ref a)), (.val (.int (0 : Int32))), (.val (.int (0 : Int32)))] [(.ref a), (.long (((31 : Int32) * (0 : Int32)).toInt64))])
    obtain ⟨T6, X6, e6, st6⟩ := getF X1 hx hZ hown (host := "") (Or.inl (hw _ (List.mem_of_getElem? (i := 31) rfl))) Via.refl e1 G (g := (mkF m 19 #[(.val (.ref a)), (.val (.int (0 : Int32))), (.val (.int (0 : Int32)))] [(.ref a), (.long (((31 : Int32) * (0 : Int32)).toInt64))])) rfl rfl (hb hby d7_19)
    refine Owes.by st6 ?_
    show Owes p e below s (QH h0 n0) ({ frames := 0, cells := 0, slots := 0, locals := 0 } : Room).cells ({ frames := 0, cells := 0, slots := 0, locals := 0 } : Room).slots T6 (mkF m 22 #[(.val (.ref a)), (.val (.int (0 : Int32))), (.val (.int (0 : Int32)))] [(.ref ma), (.long (((31 : Int32) * (0 : Int32)).toInt64))])
    refine Owes.by (fun _ kq => XS.iloadN X6.here hx rfl (hb hby d7_22) rfl kq) ?_
    show Owes p e below s (QH h0 n0) ({ frames := 0, cells := 0, slots := 0, locals := 0 } : Room).cells ({ frames := 0, cells := 0, slots := 0, locals := 0 } : Room).slots T6 (mkF m 23 #[(.val (.ref a)), (.val (.int (0 : Int32))), (.val (.int (0 : Int32)))] [(.int (0 : Int32)), (.ref ma), (.long (((31 : Int32) * (0 : Int32)).toInt64))])
    refine Owes.by (fun tq kq => X6.iaload hx (j := (0 : Int32)) (v := (.int z0)) (by rw [e6]; exact Ar.1) (State.isArrayOf_alike hZ.alike Ar.2.1) Ar.2.2 i0 t0 (g := (mkF m 23 #[(.val (.ref a)), (.val (.int (0 : Int32))), (.val (.int (0 : Int32)))] [(.int (0 : Int32)), (.ref ma), (.long (((31 : Int32) * (0 : Int32)).toInt64))])) rfl rfl (hb hby d7_23) tq kq) ?_
    show Owes p e below s (QH h0 n0) ({ frames := 0, cells := 0, slots := 0, locals := 0 } : Room).cells ({ frames := 0, cells := 0, slots := 0, locals := 0 } : Room).slots T6 (mkF m 24 #[(.val (.ref a)), (.val (.int (0 : Int32))), (.val (.int (0 : Int32)))] [(.int z0), (.long (((31 : Int32) * (0 : Int32)).toInt64))])
    refine Owes.by (fun _ kq => XT.i2l X6.here hx rfl (hb hby d7_24) rfl kq) ?_
    show Owes p e below s (QH h0 n0) ({ frames := 0, cells := 0, slots := 0, locals := 0 } : Room).cells ({ frames := 0, cells := 0, slots := 0, locals := 0 } : Room).slots T6 (mkF m 25 #[(.val (.ref a)), (.val (.int (0 : Int32))), (.val (.int (0 : Int32)))] [(.long (z0.toInt64)), (.long (((31 : Int32) * (0 : Int32)).toInt64))])
    refine Owes.by (fun tq kq => X6.ldc2Long hx hown (mvT hZ (hw _ (List.mem_of_getElem? (i := 41) rfl))) (g := (mkF m 25 #[(.val (.ref a)), (.val (.int (0 : Int32))), (.val (.int (0 : Int32)))] [(.long (z0.toInt64)), (.long (((31 : Int32) * (0 : Int32)).toInt64))])) rfl (hb hby d7_25) tq kq) ?_
    show Owes p e below s (QH h0 n0) ({ frames := 0, cells := 0, slots := 0, locals := 0 } : Room).cells ({ frames := 0, cells := 0, slots := 0, locals := 0 } : Room).slots T6 (mkF m 28 #[(.val (.ref a)), (.val (.int (0 : Int32))), (.val (.int (0 : Int32)))] [(.long (4294967295 : Int64)), (.long (z0.toInt64)), (.long (((31 : Int32) * (0 : Int32)).toInt64))])
    refine Owes.by (fun _ kq => XT.land X6.here hx rfl (hb hby d7_28) rfl kq) ?_
    show Owes p e below s (QH h0 n0) ({ frames := 0, cells := 0, slots := 0, locals := 0 } : Room).cells ({ frames := 0, cells := 0, slots := 0, locals := 0 } : Room).slots T6 (mkF m 29 #[(.val (.ref a)), (.val (.int (0 : Int32))), (.val (.int (0 : Int32)))] [(.long ((z0.toInt64) &&& (4294967295 : Int64))), (.long (((31 : Int32) * (0 : Int32)).toInt64))])
    refine Owes.by (fun _ kq => XT.ladd X6.here hx rfl (hb hby d7_29) rfl kq) ?_
    show Owes p e below s (QH h0 n0) ({ frames := 0, cells := 0, slots := 0, locals := 0 } : Room).cells ({ frames := 0, cells := 0, slots := 0, locals := 0 } : Room).slots T6 (mkF m 30 #[(.val (.ref a)), (.val (.int (0 : Int32))), (.val (.int (0 : Int32)))] [(.long ((((31 : Int32) * (0 : Int32)).toInt64) + ((z0.toInt64) &&& (4294967295 : Int64))))])
    refine Owes.by (fun _ kq => XT.l2i X6.here hx rfl (hb hby d7_30) rfl kq) ?_
    show Owes p e below s (QH h0 n0) ({ frames := 0, cells := 0, slots := 0, locals := 0 } : Room).cells ({ frames := 0, cells := 0, slots := 0, locals := 0 } : Room).slots T6 (mkF m 31 #[(.val (.ref a)), (.val (.int (0 : Int32))), (.val (.int (0 : Int32)))] [(.int (((((31 : Int32) * (0 : Int32)).toInt64) + ((z0.toInt64) &&& (4294967295 : Int64))).toInt32))])
    refine Owes.by (fun _ kq => XS.istoreN X6.here hx rfl (hb hby d7_31) rfl (l' := #[(.val (.ref a)), (.val (.int (((((31 : Int32) * (0 : Int32)).toInt64) + ((z0.toInt64) &&& (4294967295 : Int64))).toInt32))), (.val (.int (0 : Int32)))]) rfl kq) ?_
    show Owes p e below s (QH h0 n0) ({ frames := 0, cells := 0, slots := 0, locals := 0 } : Room).cells ({ frames := 0, cells := 0, slots := 0, locals := 0 } : Room).slots T6 (mkF m 32 #[(.val (.ref a)), (.val (.int (((((31 : Int32) * (0 : Int32)).toInt64) + ((z0.toInt64) &&& (4294967295 : Int64))).toInt32))), (.val (.int (0 : Int32)))] [])
    refine Owes.by (fun _ kq => XS.iinc X6.here hx rfl (hb hby d7_32) rfl (l' := #[(.val (.ref a)), (.val (.int (((((31 : Int32) * (0 : Int32)).toInt64) + ((z0.toInt64) &&& (4294967295 : Int64))).toInt32))), (.val (.int (1 : Int32)))]) rfl kq) ?_
    show Owes p e below s (QH h0 n0) ({ frames := 0, cells := 0, slots := 0, locals := 0 } : Room).cells ({ frames := 0, cells := 0, slots := 0, locals := 0 } : Room).slots T6 (mkF m 35 #[(.val (.ref a)), (.val (.int (((((31 : Int32) * (0 : Int32)).toInt64) + ((z0.toInt64) &&& (4294967295 : Int64))).toInt32))), (.val (.int (1 : Int32)))] [])
    refine Owes.by (fun _ kq => XS.goto X6.here hx rfl (pc0 := 35) (pc' := 4) rfl (hb hby d7_35) (by decide) (by decide) kq) ?_
    show Owes p e below s (QH h0 n0) ({ frames := 0, cells := 0, slots := 0, locals := 0 } : Room).cells ({ frames := 0, cells := 0, slots := 0, locals := 0 } : Room).slots T6 (mkF m 4 #[(.val (.ref a)), (.val (.int (((((31 : Int32) * (0 : Int32)).toInt64) + ((z0.toInt64) &&& (4294967295 : Int64))).toInt32))), (.val (.int (1 : Int32)))] [])
    refine Owes.by (fun _ kq => XS.iloadN X6.here hx rfl (hb hby d7_4) rfl kq) ?_
    show Owes p e below s (QH h0 n0) ({ frames := 0, cells := 0, slots := 0, locals := 0 } : Room).cells ({ frames := 0, cells := 0, slots := 0, locals := 0 } : Room).slots T6 (mkF m 5 #[(.val (.ref a)), (.val (.int (((((31 : Int32) * (0 : Int32)).toInt64) + ((z0.toInt64) &&& (4294967295 : Int64))).toInt32))), (.val (.int (1 : Int32)))] [(.int (1 : Int32))])
    refine Owes.by (fun _ kq => XS.aloadN X6.here hx rfl (hb hby d7_5) rfl rfl kq) ?_
    show Owes p e below s (QH h0 n0) ({ frames := 0, cells := 0, slots := 0, locals := 0 } : Room).cells ({ frames := 0, cells := 0, slots := 0, locals := 0 } : Room).slots T6 (mkF m 6 #[(.val (.ref a)), (.val (.int (((((31 : Int32) * (0 : Int32)).toInt64) + ((z0.toInt64) &&& (4294967295 : Int64))).toInt32))), (.val (.int (1 : Int32)))] [(.ref a), (.int (1 : Int32))])
    obtain ⟨T7, X7, e7, st7⟩ := getF X6 hx hZ hown (host := "") (Or.inl (hw _ (List.mem_of_getElem? (i := 31) rfl))) Via.refl e6 G (g := (mkF m 6 #[(.val (.ref a)), (.val (.int (((((31 : Int32) * (0 : Int32)).toInt64) + ((z0.toInt64) &&& (4294967295 : Int64))).toInt32))), (.val (.int (1 : Int32)))] [(.ref a), (.int (1 : Int32))])) rfl rfl (hb hby d7_6)
    refine Owes.by st7 ?_
    show Owes p e below s (QH h0 n0) ({ frames := 0, cells := 0, slots := 0, locals := 0 } : Room).cells ({ frames := 0, cells := 0, slots := 0, locals := 0 } : Room).slots T7 (mkF m 9 #[(.val (.ref a)), (.val (.int (((((31 : Int32) * (0 : Int32)).toInt64) + ((z0.toInt64) &&& (4294967295 : Int64))).toInt32))), (.val (.int (1 : Int32)))] [(.ref ma), (.int (1 : Int32))])
    refine Owes.by (fun tq kq => X7.arraylength hx (by rw [e7]; exact Ar.1) (State.isArrayOf_alike hZ.alike Ar.2.1) (g := (mkF m 9 #[(.val (.ref a)), (.val (.int (((((31 : Int32) * (0 : Int32)).toInt64) + ((z0.toInt64) &&& (4294967295 : Int64))).toInt32))), (.val (.int (1 : Int32)))] [(.ref ma), (.int (1 : Int32))])) rfl rfl (hb hby d7_9) tq (by rw [hl]; exact kq)) ?_
    show Owes p e below s (QH h0 n0) ({ frames := 0, cells := 0, slots := 0, locals := 0 } : Room).cells ({ frames := 0, cells := 0, slots := 0, locals := 0 } : Room).slots T7 (mkF m 10 #[(.val (.ref a)), (.val (.int (((((31 : Int32) * (0 : Int32)).toInt64) + ((z0.toInt64) &&& (4294967295 : Int64))).toInt32))), (.val (.int (1 : Int32)))] [(.int (2 : Int32)), (.int (1 : Int32))])
    refine Owes.by (fun _ kq => XS.icmpNo X7.here hx rfl (hb hby d7_10) rfl (XT.ii_ge_f (by decide)) kq) ?_
    show Owes p e below s (QH h0 n0) ({ frames := 0, cells := 0, slots := 0, locals := 0 } : Room).cells ({ frames := 0, cells := 0, slots := 0, locals := 0 } : Room).slots T7 (mkF m 13 #[(.val (.ref a)), (.val (.int (((((31 : Int32) * (0 : Int32)).toInt64) + ((z0.toInt64) &&& (4294967295 : Int64))).toInt32))), (.val (.int (1 : Int32)))] [])
    refine Owes.by (fun _ kq => XS.bipush X7.here hx rfl (hb hby d7_13) kq) ?_
    show Owes p e below s (QH h0 n0) ({ frames := 0, cells := 0, slots := 0, locals := 0 } : Room).cells ({ frames := 0, cells := 0, slots := 0, locals := 0 } : Room).slots T7 (mkF m 15 #[(.val (.ref a)), (.val (.int (((((31 : Int32) * (0 : Int32)).toInt64) + ((z0.toInt64) &&& (4294967295 : Int64))).toInt32))), (.val (.int (1 : Int32)))] [(.int (31 : Int32))])
    refine Owes.by (fun _ kq => XS.iloadN X7.here hx rfl (hb hby d7_15) rfl kq) ?_
    show Owes p e below s (QH h0 n0) ({ frames := 0, cells := 0, slots := 0, locals := 0 } : Room).cells ({ frames := 0, cells := 0, slots := 0, locals := 0 } : Room).slots T7 (mkF m 16 #[(.val (.ref a)), (.val (.int (((((31 : Int32) * (0 : Int32)).toInt64) + ((z0.toInt64) &&& (4294967295 : Int64))).toInt32))), (.val (.int (1 : Int32)))] [(.int (((((31 : Int32) * (0 : Int32)).toInt64) + ((z0.toInt64) &&& (4294967295 : Int64))).toInt32)), (.int (31 : Int32))])
    refine Owes.by (fun _ kq => XS.imul X7.here hx rfl (hb hby d7_16) rfl kq) ?_
    show Owes p e below s (QH h0 n0) ({ frames := 0, cells := 0, slots := 0, locals := 0 } : Room).cells ({ frames := 0, cells := 0, slots := 0, locals := 0 } : Room).slots T7 (mkF m 17 #[(.val (.ref a)), (.val (.int (((((31 : Int32) * (0 : Int32)).toInt64) + ((z0.toInt64) &&& (4294967295 : Int64))).toInt32))), (.val (.int (1 : Int32)))] [(.int ((31 : Int32) * (((((31 : Int32) * (0 : Int32)).toInt64) + ((z0.toInt64) &&& (4294967295 : Int64))).toInt32)))])
    refine Owes.by (fun _ kq => XT.i2l X7.here hx rfl (hb hby d7_17) rfl kq) ?_
    show Owes p e below s (QH h0 n0) ({ frames := 0, cells := 0, slots := 0, locals := 0 } : Room).cells ({ frames := 0, cells := 0, slots := 0, locals := 0 } : Room).slots T7 (mkF m 18 #[(.val (.ref a)), (.val (.int (((((31 : Int32) * (0 : Int32)).toInt64) + ((z0.toInt64) &&& (4294967295 : Int64))).toInt32))), (.val (.int (1 : Int32)))] [(.long (((31 : Int32) * (((((31 : Int32) * (0 : Int32)).toInt64) + ((z0.toInt64) &&& (4294967295 : Int64))).toInt32)).toInt64))])
    refine Owes.by (fun _ kq => XS.aloadN X7.here hx rfl (hb hby d7_18) rfl rfl kq) ?_
    show Owes p e below s (QH h0 n0) ({ frames := 0, cells := 0, slots := 0, locals := 0 } : Room).cells ({ frames := 0, cells := 0, slots := 0, locals := 0 } : Room).slots T7 (mkF m 19 #[(.val (.ref a)), (.val (.int (((((31 : Int32) * (0 : Int32)).toInt64) + ((z0.toInt64) &&& (4294967295 : Int64))).toInt32))), (.val (.int (1 : Int32)))] [(.ref a), (.long (((31 : Int32) * (((((31 : Int32) * (0 : Int32)).toInt64) + ((z0.toInt64) &&& (4294967295 : Int64))).toInt32)).toInt64))])
    obtain ⟨T8, X8, e8, st8⟩ := getF X7 hx hZ hown (host := "") (Or.inl (hw _ (List.mem_of_getElem? (i := 31) rfl))) Via.refl e7 G (g := (mkF m 19 #[(.val (.ref a)), (.val (.int (((((31 : Int32) * (0 : Int32)).toInt64) + ((z0.toInt64) &&& (4294967295 : Int64))).toInt32))), (.val (.int (1 : Int32)))] [(.ref a), (.long (((31 : Int32) * (((((31 : Int32) * (0 : Int32)).toInt64) + ((z0.toInt64) &&& (4294967295 : Int64))).toInt32)).toInt64))])) rfl rfl (hb hby d7_19)
    refine Owes.by st8 ?_
    show Owes p e below s (QH h0 n0) ({ frames := 0, cells := 0, slots := 0, locals := 0 } : Room).cells ({ frames := 0, cells := 0, slots := 0, locals := 0 } : Room).slots T8 (mkF m 22 #[(.val (.ref a)), (.val (.int (((((31 : Int32) * (0 : Int32)).toInt64) + ((z0.toInt64) &&& (4294967295 : Int64))).toInt32))), (.val (.int (1 : Int32)))] [(.ref ma), (.long (((31 : Int32) * (((((31 : Int32) * (0 : Int32)).toInt64) + ((z0.toInt64) &&& (4294967295 : Int64))).toInt32)).toInt64))])
    refine Owes.by (fun _ kq => XS.iloadN X8.here hx rfl (hb hby d7_22) rfl kq) ?_
    show Owes p e below s (QH h0 n0) ({ frames := 0, cells := 0, slots := 0, locals := 0 } : Room).cells ({ frames := 0, cells := 0, slots := 0, locals := 0 } : Room).slots T8 (mkF m 23 #[(.val (.ref a)), (.val (.int (((((31 : Int32) * (0 : Int32)).toInt64) + ((z0.toInt64) &&& (4294967295 : Int64))).toInt32))), (.val (.int (1 : Int32)))] [(.int (1 : Int32)), (.ref ma), (.long (((31 : Int32) * (((((31 : Int32) * (0 : Int32)).toInt64) + ((z0.toInt64) &&& (4294967295 : Int64))).toInt32)).toInt64))])
    refine Owes.by (fun tq kq => X8.iaload hx (j := (1 : Int32)) (v := (.int z1)) (by rw [e8]; exact Ar.1) (State.isArrayOf_alike hZ.alike Ar.2.1) Ar.2.2 i1 t1 (g := (mkF m 23 #[(.val (.ref a)), (.val (.int (((((31 : Int32) * (0 : Int32)).toInt64) + ((z0.toInt64) &&& (4294967295 : Int64))).toInt32))), (.val (.int (1 : Int32)))] [(.int (1 : Int32)), (.ref ma), (.long (((31 : Int32) * (((((31 : Int32) * (0 : Int32)).toInt64) + ((z0.toInt64) &&& (4294967295 : Int64))).toInt32)).toInt64))])) rfl rfl (hb hby d7_23) tq kq) ?_
    show Owes p e below s (QH h0 n0) ({ frames := 0, cells := 0, slots := 0, locals := 0 } : Room).cells ({ frames := 0, cells := 0, slots := 0, locals := 0 } : Room).slots T8 (mkF m 24 #[(.val (.ref a)), (.val (.int (((((31 : Int32) * (0 : Int32)).toInt64) + ((z0.toInt64) &&& (4294967295 : Int64))).toInt32))), (.val (.int (1 : Int32)))] [(.int z1), (.long (((31 : Int32) * (((((31 : Int32) * (0 : Int32)).toInt64) + ((z0.toInt64) &&& (4294967295 : Int64))).toInt32)).toInt64))])
    refine Owes.by (fun _ kq => XT.i2l X8.here hx rfl (hb hby d7_24) rfl kq) ?_
    show Owes p e below s (QH h0 n0) ({ frames := 0, cells := 0, slots := 0, locals := 0 } : Room).cells ({ frames := 0, cells := 0, slots := 0, locals := 0 } : Room).slots T8 (mkF m 25 #[(.val (.ref a)), (.val (.int (((((31 : Int32) * (0 : Int32)).toInt64) + ((z0.toInt64) &&& (4294967295 : Int64))).toInt32))), (.val (.int (1 : Int32)))] [(.long (z1.toInt64)), (.long (((31 : Int32) * (((((31 : Int32) * (0 : Int32)).toInt64) + ((z0.toInt64) &&& (4294967295 : Int64))).toInt32)).toInt64))])
    refine Owes.by (fun tq kq => X8.ldc2Long hx hown (mvT hZ (hw _ (List.mem_of_getElem? (i := 41) rfl))) (g := (mkF m 25 #[(.val (.ref a)), (.val (.int (((((31 : Int32) * (0 : Int32)).toInt64) + ((z0.toInt64) &&& (4294967295 : Int64))).toInt32))), (.val (.int (1 : Int32)))] [(.long (z1.toInt64)), (.long (((31 : Int32) * (((((31 : Int32) * (0 : Int32)).toInt64) + ((z0.toInt64) &&& (4294967295 : Int64))).toInt32)).toInt64))])) rfl (hb hby d7_25) tq kq) ?_
    show Owes p e below s (QH h0 n0) ({ frames := 0, cells := 0, slots := 0, locals := 0 } : Room).cells ({ frames := 0, cells := 0, slots := 0, locals := 0 } : Room).slots T8 (mkF m 28 #[(.val (.ref a)), (.val (.int (((((31 : Int32) * (0 : Int32)).toInt64) + ((z0.toInt64) &&& (4294967295 : Int64))).toInt32))), (.val (.int (1 : Int32)))] [(.long (4294967295 : Int64)), (.long (z1.toInt64)), (.long (((31 : Int32) * (((((31 : Int32) * (0 : Int32)).toInt64) + ((z0.toInt64) &&& (4294967295 : Int64))).toInt32)).toInt64))])
    refine Owes.by (fun _ kq => XT.land X8.here hx rfl (hb hby d7_28) rfl kq) ?_
    show Owes p e below s (QH h0 n0) ({ frames := 0, cells := 0, slots := 0, locals := 0 } : Room).cells ({ frames := 0, cells := 0, slots := 0, locals := 0 } : Room).slots T8 (mkF m 29 #[(.val (.ref a)), (.val (.int (((((31 : Int32) * (0 : Int32)).toInt64) + ((z0.toInt64) &&& (4294967295 : Int64))).toInt32))), (.val (.int (1 : Int32)))] [(.long ((z1.toInt64) &&& (4294967295 : Int64))), (.long (((31 : Int32) * (((((31 : Int32) * (0 : Int32)).toInt64) + ((z0.toInt64) &&& (4294967295 : Int64))).toInt32)).toInt64))])
    refine Owes.by (fun _ kq => XT.ladd X8.here hx rfl (hb hby d7_29) rfl kq) ?_
    show Owes p e below s (QH h0 n0) ({ frames := 0, cells := 0, slots := 0, locals := 0 } : Room).cells ({ frames := 0, cells := 0, slots := 0, locals := 0 } : Room).slots T8 (mkF m 30 #[(.val (.ref a)), (.val (.int (((((31 : Int32) * (0 : Int32)).toInt64) + ((z0.toInt64) &&& (4294967295 : Int64))).toInt32))), (.val (.int (1 : Int32)))] [(.long ((((31 : Int32) * (((((31 : Int32) * (0 : Int32)).toInt64) + ((z0.toInt64) &&& (4294967295 : Int64))).toInt32)).toInt64) + ((z1.toInt64) &&& (4294967295 : Int64))))])
    refine Owes.by (fun _ kq => XT.l2i X8.here hx rfl (hb hby d7_30) rfl kq) ?_
    show Owes p e below s (QH h0 n0) ({ frames := 0, cells := 0, slots := 0, locals := 0 } : Room).cells ({ frames := 0, cells := 0, slots := 0, locals := 0 } : Room).slots T8 (mkF m 31 #[(.val (.ref a)), (.val (.int (((((31 : Int32) * (0 : Int32)).toInt64) + ((z0.toInt64) &&& (4294967295 : Int64))).toInt32))), (.val (.int (1 : Int32)))] [(.int (((((31 : Int32) * (((((31 : Int32) * (0 : Int32)).toInt64) + ((z0.toInt64) &&& (4294967295 : Int64))).toInt32)).toInt64) + ((z1.toInt64) &&& (4294967295 : Int64))).toInt32))])
    refine Owes.by (fun _ kq => XS.istoreN X8.here hx rfl (hb hby d7_31) rfl (l' := #[(.val (.ref a)), (.val (.int (((((31 : Int32) * (((((31 : Int32) * (0 : Int32)).toInt64) + ((z0.toInt64) &&& (4294967295 : Int64))).toInt32)).toInt64) + ((z1.toInt64) &&& (4294967295 : Int64))).toInt32))), (.val (.int (1 : Int32)))]) rfl kq) ?_
    show Owes p e below s (QH h0 n0) ({ frames := 0, cells := 0, slots := 0, locals := 0 } : Room).cells ({ frames := 0, cells := 0, slots := 0, locals := 0 } : Room).slots T8 (mkF m 32 #[(.val (.ref a)), (.val (.int (((((31 : Int32) * (((((31 : Int32) * (0 : Int32)).toInt64) + ((z0.toInt64) &&& (4294967295 : Int64))).toInt32)).toInt64) + ((z1.toInt64) &&& (4294967295 : Int64))).toInt32))), (.val (.int (1 : Int32)))] [])
    refine Owes.by (fun _ kq => XS.iinc X8.here hx rfl (hb hby d7_32) rfl (l' := #[(.val (.ref a)), (.val (.int (((((31 : Int32) * (((((31 : Int32) * (0 : Int32)).toInt64) + ((z0.toInt64) &&& (4294967295 : Int64))).toInt32)).toInt64) + ((z1.toInt64) &&& (4294967295 : Int64))).toInt32))), (.val (.int (2 : Int32)))]) rfl kq) ?_
    show Owes p e below s (QH h0 n0) ({ frames := 0, cells := 0, slots := 0, locals := 0 } : Room).cells ({ frames := 0, cells := 0, slots := 0, locals := 0 } : Room).slots T8 (mkF m 35 #[(.val (.ref a)), (.val (.int (((((31 : Int32) * (((((31 : Int32) * (0 : Int32)).toInt64) + ((z0.toInt64) &&& (4294967295 : Int64))).toInt32)).toInt64) + ((z1.toInt64) &&& (4294967295 : Int64))).toInt32))), (.val (.int (2 : Int32)))] [])
    refine Owes.by (fun _ kq => XS.goto X8.here hx rfl (pc0 := 35) (pc' := 4) rfl (hb hby d7_35) (by decide) (by decide) kq) ?_
    show Owes p e below s (QH h0 n0) ({ frames := 0, cells := 0, slots := 0, locals := 0 } : Room).cells ({ frames := 0, cells := 0, slots := 0, locals := 0 } : Room).slots T8 (mkF m 4 #[(.val (.ref a)), (.val (.int (((((31 : Int32) * (((((31 : Int32) * (0 : Int32)).toInt64) + ((z0.toInt64) &&& (4294967295 : Int64))).toInt32)).toInt64) + ((z1.toInt64) &&& (4294967295 : Int64))).toInt32))), (.val (.int (2 : Int32)))] [])
    refine Owes.by (fun _ kq => XS.iloadN X8.here hx rfl (hb hby d7_4) rfl kq) ?_
    show Owes p e below s (QH h0 n0) ({ frames := 0, cells := 0, slots := 0, locals := 0 } : Room).cells ({ frames := 0, cells := 0, slots := 0, locals := 0 } : Room).slots T8 (mkF m 5 #[(.val (.ref a)), (.val (.int (((((31 : Int32) * (((((31 : Int32) * (0 : Int32)).toInt64) + ((z0.toInt64) &&& (4294967295 : Int64))).toInt32)).toInt64) + ((z1.toInt64) &&& (4294967295 : Int64))).toInt32))), (.val (.int (2 : Int32)))] [(.int (2 : Int32))])
    refine Owes.by (fun _ kq => XS.aloadN X8.here hx rfl (hb hby d7_5) rfl rfl kq) ?_
    show Owes p e below s (QH h0 n0) ({ frames := 0, cells := 0, slots := 0, locals := 0 } : Room).cells ({ frames := 0, cells := 0, slots := 0, locals := 0 } : Room).slots T8 (mkF m 6 #[(.val (.ref a)), (.val (.int (((((31 : Int32) * (((((31 : Int32) * (0 : Int32)).toInt64) + ((z0.toInt64) &&& (4294967295 : Int64))).toInt32)).toInt64) + ((z1.toInt64) &&& (4294967295 : Int64))).toInt32))), (.val (.int (2 : Int32)))] [(.ref a), (.int (2 : Int32))])
    obtain ⟨T9, X9, e9, st9⟩ := getF X8 hx hZ hown (host := "") (Or.inl (hw _ (List.mem_of_getElem? (i := 31) rfl))) Via.refl e8 G (g := (mkF m 6 #[(.val (.ref a)), (.val (.int (((((31 : Int32) * (((((31 : Int32) * (0 : Int32)).toInt64) + ((z0.toInt64) &&& (4294967295 : Int64))).toInt32)).toInt64) + ((z1.toInt64) &&& (4294967295 : Int64))).toInt32))), (.val (.int (2 : Int32)))] [(.ref a), (.int (2 : Int32))])) rfl rfl (hb hby d7_6)
    refine Owes.by st9 ?_
    show Owes p e below s (QH h0 n0) ({ frames := 0, cells := 0, slots := 0, locals := 0 } : Room).cells ({ frames := 0, cells := 0, slots := 0, locals := 0 } : Room).slots T9 (mkF m 9 #[(.val (.ref a)), (.val (.int (((((31 : Int32) * (((((31 : Int32) * (0 : Int32)).toInt64) + ((z0.toInt64) &&& (4294967295 : Int64))).toInt32)).toInt64) + ((z1.toInt64) &&& (4294967295 : Int64))).toInt32))), (.val (.int (2 : Int32)))] [(.ref ma), (.int (2 : Int32))])
    refine Owes.by (fun tq kq => X9.arraylength hx (by rw [e9]; exact Ar.1) (State.isArrayOf_alike hZ.alike Ar.2.1) (g := (mkF m 9 #[(.val (.ref a)), (.val (.int (((((31 : Int32) * (((((31 : Int32) * (0 : Int32)).toInt64) + ((z0.toInt64) &&& (4294967295 : Int64))).toInt32)).toInt64) + ((z1.toInt64) &&& (4294967295 : Int64))).toInt32))), (.val (.int (2 : Int32)))] [(.ref ma), (.int (2 : Int32))])) rfl rfl (hb hby d7_9) tq (by rw [hl]; exact kq)) ?_
    show Owes p e below s (QH h0 n0) ({ frames := 0, cells := 0, slots := 0, locals := 0 } : Room).cells ({ frames := 0, cells := 0, slots := 0, locals := 0 } : Room).slots T9 (mkF m 10 #[(.val (.ref a)), (.val (.int (((((31 : Int32) * (((((31 : Int32) * (0 : Int32)).toInt64) + ((z0.toInt64) &&& (4294967295 : Int64))).toInt32)).toInt64) + ((z1.toInt64) &&& (4294967295 : Int64))).toInt32))), (.val (.int (2 : Int32)))] [(.int (2 : Int32)), (.int (2 : Int32))])
    refine Owes.by (fun _ kq => XS.icmpYes X9.here hx rfl (pc0 := 10) (pc' := 38) rfl (hb hby d7_10) rfl (XT.ii_ge_t (by decide)) (by decide) (by decide) kq) ?_
    show Owes p e below s (QH h0 n0) ({ frames := 0, cells := 0, slots := 0, locals := 0 } : Room).cells ({ frames := 0, cells := 0, slots := 0, locals := 0 } : Room).slots T9 (mkF m 38 #[(.val (.ref a)), (.val (.int (((((31 : Int32) * (((((31 : Int32) * (0 : Int32)).toInt64) + ((z0.toInt64) &&& (4294967295 : Int64))).toInt32)).toInt64) + ((z1.toInt64) &&& (4294967295 : Int64))).toInt32))), (.val (.int (2 : Int32)))] [])
    refine Owes.by (fun _ kq => XS.iloadN X9.here hx rfl (hb hby d7_38) rfl kq) ?_
    show Owes p e below s (QH h0 n0) ({ frames := 0, cells := 0, slots := 0, locals := 0 } : Room).cells ({ frames := 0, cells := 0, slots := 0, locals := 0 } : Room).slots T9 (mkF m 39 #[(.val (.ref a)), (.val (.int (((((31 : Int32) * (((((31 : Int32) * (0 : Int32)).toInt64) + ((z0.toInt64) &&& (4294967295 : Int64))).toInt32)).toInt64) + ((z1.toInt64) &&& (4294967295 : Int64))).toInt32))), (.val (.int (2 : Int32)))] [(.int (((((31 : Int32) * (((((31 : Int32) * (0 : Int32)).toInt64) + ((z0.toInt64) &&& (4294967295 : Int64))).toInt32)).toInt64) + ((z1.toInt64) &&& (4294967295 : Int64))).toInt32))])
    refine Owes.by (fun _ kq => XS.aloadN X9.here hx rfl (hb hby d7_39) rfl rfl kq) ?_
    show Owes p e below s (QH h0 n0) ({ frames := 0, cells := 0, slots := 0, locals := 0 } : Room).cells ({ frames := 0, cells := 0, slots := 0, locals := 0 } : Room).slots T9 (mkF m 40 #[(.val (.ref a)), (.val (.int (((((31 : Int32) * (((((31 : Int32) * (0 : Int32)).toInt64) + ((z0.toInt64) &&& (4294967295 : Int64))).toInt32)).toInt64) + ((z1.toInt64) &&& (4294967295 : Int64))).toInt32))), (.val (.int (2 : Int32)))] [(.ref a), (.int (((((31 : Int32) * (((((31 : Int32) * (0 : Int32)).toInt64) + ((z0.toInt64) &&& (4294967295 : Int64))).toInt32)).toInt64) + ((z1.toInt64) &&& (4294967295 : Int64))).toInt32))])
    obtain ⟨T10, X10, e10, st10⟩ := getF X9 hx hZ hown (host := "") (Or.inl (hw _ (List.mem_of_getElem? (i := 29) rfl))) Via.refl e9 F (g := (mkF m 40 #[(.val (.ref a)), (.val (.int (((((31 : Int32) * (((((31 : Int32) * (0 : Int32)).toInt64) + ((z0.toInt64) &&& (4294967295 : Int64))).toInt32)).toInt64) + ((z1.toInt64) &&& (4294967295 : Int64))).toInt32))), (.val (.int (2 : Int32)))] [(.ref a), (.int (((((31 : Int32) * (((((31 : Int32) * (0 : Int32)).toInt64) + ((z0.toInt64) &&& (4294967295 : Int64))).toInt32)).toInt64) + ((z1.toInt64) &&& (4294967295 : Int64))).toInt32))])) rfl rfl (hb hby d7_40)
    refine Owes.by st10 ?_
    show Owes p e below s (QH h0 n0) ({ frames := 0, cells := 0, slots := 0, locals := 0 } : Room).cells ({ frames := 0, cells := 0, slots := 0, locals := 0 } : Room).slots T10 (mkF m 43 #[(.val (.ref a)), (.val (.int (((((31 : Int32) * (((((31 : Int32) * (0 : Int32)).toInt64) + ((z0.toInt64) &&& (4294967295 : Int64))).toInt32)).toInt64) + ((z1.toInt64) &&& (4294967295 : Int64))).toInt32))), (.val (.int (2 : Int32)))] [(.int sg), (.int (((((31 : Int32) * (((((31 : Int32) * (0 : Int32)).toInt64) + ((z0.toInt64) &&& (4294967295 : Int64))).toInt32)).toInt64) + ((z1.toInt64) &&& (4294967295 : Int64))).toInt32))])
    refine Owes.by (fun _ kq => XS.imul X10.here hx rfl (hb hby d7_43) rfl kq) ?_
    show Owes p e below s (QH h0 n0) ({ frames := 0, cells := 0, slots := 0, locals := 0 } : Room).cells ({ frames := 0, cells := 0, slots := 0, locals := 0 } : Room).slots T10 (mkF m 44 #[(.val (.ref a)), (.val (.int (((((31 : Int32) * (((((31 : Int32) * (0 : Int32)).toInt64) + ((z0.toInt64) &&& (4294967295 : Int64))).toInt32)).toInt64) + ((z1.toInt64) &&& (4294967295 : Int64))).toInt32))), (.val (.int (2 : Int32)))] [(.int ((((((31 : Int32) * (((((31 : Int32) * (0 : Int32)).toInt64) + ((z0.toInt64) &&& (4294967295 : Int64))).toInt32)).toInt64) + ((z1.toInt64) &&& (4294967295 : Int64))).toInt32) * sg))])
    refine Owes.ret X10 (v := some (.int ((((((31 : Int32) * (((((31 : Int32) * (0 : Int32)).toInt64) + ((z0.toInt64) &&& (4294967295 : Int64))).toInt32)).toInt64) + ((z1.toInt64) &&& (4294967295 : Int64))).toInt32) * sg))) (fun h => by rw [Bd.returns] at h; cases h) hlk ?_ (by decide) (by decide) (fun fs hr => retOut X10 hx Bd.returns rfl (Or.inl ⟨rfl, Or.inl rfl, _, rfl⟩) (hb hby d7_44) hr)
    rw [e10]
    exact ⟨_, rfl, rfl, rfl⟩
theorem ef_rmNu (m : MethodId) (x0 : Addr) : entryFrame m #[(.ref x0)] 1 = mkF m 0 #[(.val (.ref x0))] [] := by first | (simp [entryFrame, mkF, argsToLocals, Value.category]; done) | rfl
set_option maxRecDepth 65536 in
set_option maxHeartbeats 40000000 in
theorem rmNu (l : Launch) (Z : State) (a0 : Array Value) (hw : ∀ d ∈ tables_1, d.before a0 Z = true) (ws : List Jvm.Cond) (a : Addr) (h0 : Heap) (n0 : Nat) (Z0 : n0 ≤ h0.size) :
    MetFree l (⟨"java/lang/Number", "<init>", "()V"⟩ : MethodName) (head1 (Jvm.Cond.code (⟨"java/lang/Number", "<init>", "()V"⟩ : MethodName) jdk_18_method_1_code 1 none :: ws) ({ frames := 1, cells := 0, slots := 0, locals := 12 } : Room)) (fun aa UU => aa = #[(.ref a)] ∧ Z.Warmed39 UU.vm ∧ UU.heap = h0) (fun _ _ _ _ _ => True) (fun _ UU oo UU' => ∃ vr Lr, oo = .returned vr ∧ (Qv none h0 n0) vr UU'.heap Lr ∧ FrameEnd UU oo UU' Lr ({ frames := 1, cells := 0, slots := 0, locals := 12 } : Room).cells ({ frames := 1, cells := 0, slots := 0, locals := 12 } : Room).slots) := by
  refine MetFree.of_bodySF (plainFor_of_name pn_Number) hisR ?_
  intro p e s m args below meth c s₁ Bd hml0 hP hK
  obtain ⟨rfl, hZ, hh⟩ := hP
  have hx := Bd.exec
  have hby := Bd.bytes
  have hml : c.maxLocals = 1 := hml0
  have hown : s.vm.findClass "java/lang/Number" = some m.cls := findClass_of_methodNamed Bd.named
  have hnm := (name_of_methodNamed Bd.named Bd.method).1
  have hlk := Bd.notSynchronized
  have X0 : Stand p l e ({ frames := 1, cells := 0, slots := 0, locals := 12 } : Room) s m #[(.ref a)] below meth c s₁ [] 0 0 := Stand.of_body Bd
  have e0 : s₁.heap = h0 := by rw [← hh, Bd.state]; rfl
  have N0 := Fr.nil n0
  show Owes p e below s (Qv none h0 n0) ({ frames := 1, cells := 0, slots := 0, locals := 12 } : Room).cells ({ frames := 1, cells := 0, slots := 0, locals := 12 } : Room).slots s₁ (entryFrame m #[(.ref a)] 1)
  rw [ef_rmNu m a]
  show Owes p e below s (Qv none h0 n0) ({ frames := 1, cells := 0, slots := 0, locals := 12 } : Room).cells ({ frames := 1, cells := 0, slots := 0, locals := 12 } : Room).slots s₁ (mkF m 0 #[(.val (.ref a))] [])
  refine Owes.by (fun _ kq => XS.aloadN X0.here hx rfl (hb hby d4_0) rfl rfl kq) ?_
  show Owes p e below s (Qv none h0 n0) ({ frames := 1, cells := 0, slots := 0, locals := 12 } : Room).cells ({ frames := 1, cells := 0, slots := 0, locals := 12 } : Room).slots s₁ (mkF m 1 #[(.val (.ref a))] [(.ref a)])
  obtain ⟨T1, X1, e1, st1⟩ := initO X0 hx hZ hown (hw _ (List.mem_of_getElem? (i := 26) rfl)) (hw _ (List.mem_of_getElem? (i := 27) rfl)) (hw _ (List.mem_of_getElem? (i := 28) rfl)) e0 (g := (mkF m 1 #[(.val (.ref a))] [(.ref a)])) rfl (by rw [hml]; rfl) rfl (hb hby d4_1) (by decide) (W := 0) (by show 2 * 0 + _ ≤ _; exact Nat.le_of_eq rfl) (by decide)
  refine Owes.by st1 ?_
  show Owes p e below s (Qv none h0 n0) ({ frames := 1, cells := 0, slots := 0, locals := 12 } : Room).cells ({ frames := 1, cells := 0, slots := 0, locals := 12 } : Room).slots T1 (mkF m 4 #[(.val (.ref a))] [])
  refine Owes.ret X1 (v := none) (fun _ => rfl) hlk ?_ (by decide) (by decide) (fun fs hr => X1.returnOut hx Bd.returns (hb hby d4_4) hr)
  rw [e1]
  exact ⟨rfl, rfl, rfl⟩
theorem ef_rmBI (m : MethodId) (x0 : Addr) (x1 : Int64) : entryFrame m #[(.ref x0), (.long x1)] 4 = mkF m 0 #[(.val (.ref x0)), (.val (.long x1)), .second, .unset] [] := by first | (simp [entryFrame, mkF, argsToLocals, Value.category]; done) | rfl
set_option maxRecDepth 65536 in
set_option maxHeartbeats 40000000 in
theorem rmBI (l : Launch) (Z : State) (a0 : Array Value) (hw : ∀ d ∈ tables_1, d.before a0 Z = true) (ws : List Jvm.Cond) (a : Addr) (u : Int64) (h0 : Heap) (n0 : Nat) (Z0 : n0 ≤ h0.size) (Fs : Fld Z h0 a "java/math/BigInteger" "signum" "I" (.int (0 : Int32))) (Fm : Fld Z h0 a "java/math/BigInteger" "mag" "[I" .null) (E : Exa Z h0 a "java/math/BigInteger") (g : n0 ≤ a) (hlt : a < h0.size) :
    MetFree l (⟨"java/math/BigInteger", "<init>", "(J)V"⟩ : MethodName) (head1 (Jvm.Cond.code (⟨"java/math/BigInteger", "<init>", "(J)V"⟩ : MethodName) jdk_2097_method_30_code 4 none :: ws) ({ frames := 2, cells := 1, slots := 2, locals := 24 } : Room)) (fun aa UU => aa = #[(.ref a), (.long u)] ∧ Z.Warmed39 UU.vm ∧ UU.heap = h0) (fun _ _ _ _ _ => True) (fun _ UU oo UU' => ∃ vr Lr, oo = .returned vr ∧ (QBI Z a h0 n0) vr UU'.heap Lr ∧ FrameEnd UU oo UU' Lr ({ frames := 2, cells := 1, slots := 2, locals := 24 } : Room).cells ({ frames := 2, cells := 1, slots := 2, locals := 24 } : Room).slots) := by
  refine MetFree.of_bodySF (plainFor_of_name pn_BigInteger) hisR ?_
  intro p e s m args below meth c s₁ Bd hml0 hP hK
  obtain ⟨rfl, hZ, hh⟩ := hP
  have hx := Bd.exec
  have hby := Bd.bytes
  have hml : c.maxLocals = 4 := hml0
  have hown : s.vm.findClass "java/math/BigInteger" = some m.cls := findClass_of_methodNamed Bd.named
  have hnm := (name_of_methodNamed Bd.named Bd.method).1
  have hlk := Bd.notSynchronized
  have X0 : Stand p l e ({ frames := 2, cells := 1, slots := 2, locals := 24 } : Room) s m #[(.ref a), (.long u)] below meth c s₁ [] 0 0 := Stand.of_body Bd
  have e0 : s₁.heap = h0 := by rw [← hh, Bd.state]; rfl
  have N0 := Fr.nil n0
  show Owes p e below s (QBI Z a h0 n0) ({ frames := 2, cells := 1, slots := 2, locals := 24 } : Room).cells ({ frames := 2, cells := 1, slots := 2, locals := 24 } : Room).slots s₁ (entryFrame m #[(.ref a), (.long u)] 4)
  rw [ef_rmBI m a u]
  show Owes p e below s (QBI Z a h0 n0) ({ frames := 2, cells := 1, slots := 2, locals := 24 } : Room).cells ({ frames := 2, cells := 1, slots := 2, locals := 24 } : Room).slots s₁ (mkF m 0 #[(.val (.ref a)), (.val (.long u)), .second, .unset] [])
  refine Owes.by (fun _ kq => XS.aloadN X0.here hx rfl (hb hby d3_0) rfl rfl kq) ?_
  show Owes p e below s (QBI Z a h0 n0) ({ frames := 2, cells := 1, slots := 2, locals := 24 } : Room).cells ({ frames := 2, cells := 1, slots := 2, locals := 24 } : Room).slots s₁ (mkF m 1 #[(.val (.ref a)), (.val (.long u)), .second, .unset] [(.ref a)])
  obtain ⟨_, _, ⟨T1, L1, k1, n1⟩, -, X1, ⟨Lc1, hQ1, l1, y1, z1⟩, st1⟩ := X0.specialBack hx (y := (⟨"java/lang/Number", "<init>", "()V"⟩ : MethodName)) rfl hown (mvT hZ (hw _ (List.mem_of_getElem? (i := 20) rfl))) (mvT hZ (hw _ (List.mem_of_getElem? (i := 21) rfl))) (mvT hZ (hw _ (List.mem_of_getElem? (i := 25) rfl))) (by decide) (backOf (W := 0) (rmNu l Z a0 hw [] a h0 n0 Z0) hZ (hw _ (List.mem_of_getElem? (i := 25) rfl)) (hw _ (List.mem_of_getElem? (i := 24) rfl)) (by decide) (by decide)) (g := (mkF m 1 #[(.val (.ref a)), (.val (.long u)), .second, .unset] [(.ref a)])) rfl (by rw [hml]; rfl) (Steps.refl _) (a := a) (argsL := []) (rest := []) (lenOf pd_V rfl) rfl (by show 2 * 0 + _ ≤ _; exact Nat.le_of_eq rfl) (hb hby d3_1) (fun _ _ => ⟨rfl, e0, (by decide : 0 + 0 ≤ _), (by decide : 0 + 0 ≤ _)⟩)
  dsimp only [Pt.U, Pt.locs, Pt.cells, Pt.slots] at X1 l1 y1 z1 st1 hQ1
  subst l1 y1 z1
  obtain ⟨rfl, rfl, e1⟩ := hQ1
  try rw [List.append_nil] at X1
  refine Owes.by (fun _ kq => st1.trans kq) ?_
  show Owes p e below s (QBI Z a h0 n0) ({ frames := 2, cells := 1, slots := 2, locals := 24 } : Room).cells ({ frames := 2, cells := 1, slots := 2, locals := 24 } : Room).slots T1 (mkF m 4 #[(.val (.ref a)), (.val (.long u)), .second, .unset] [])
  refine Owes.by (fun _ kq => XT.lloadN X1.here hx rfl (hb hby d3_4) rfl kq) ?_
  show Owes p e below s (QBI Z a h0 n0) ({ frames := 2, cells := 1, slots := 2, locals := 24 } : Room).cells ({ frames := 2, cells := 1, slots := 2, locals := 24 } : Room).slots T1 (mkF m 5 #[(.val (.ref a)), (.val (.long u)), .second, .unset] [(.long u)])
  refine Owes.by (fun _ kq => XT.lconst X1.here hx rfl (hb hby d3_5) kq) ?_
  show Owes p e below s (QBI Z a h0 n0) ({ frames := 2, cells := 1, slots := 2, locals := 24 } : Room).cells ({ frames := 2, cells := 1, slots := 2, locals := 24 } : Room).slots T1 (mkF m 6 #[(.val (.ref a)), (.val (.long u)), .second, .unset] [(.long (0 : Int64)), (.long u)])
  refine Owes.by (fun _ kq => XT.lcmp X1.here hx rfl (hb hby d3_6) rfl kq) ?_
  show Owes p e below s (QBI Z a h0 n0) ({ frames := 2, cells := 1, slots := 2, locals := 24 } : Room).cells ({ frames := 2, cells := 1, slots := 2, locals := 24 } : Room).slots T1 (mkF m 7 #[(.val (.ref a)), (.val (.long u)), .second, .unset] [(.int (XT.cmpL u (0 : Int64)))])
  by_cases q0 : u < (0 : Int64)
  · skip
    refine Owes.by (fun _ kq => XS.ifNo X1.here hx rfl (hb hby d3_7) rfl (XT.ll_ge_f q0) kq) ?_
    show Owes p e below s (QBI Z a h0 n0) ({ frames := 2, cells := 1, slots := 2, locals := 24 } : Room).cells ({ frames := 2, cells := 1, slots := 2, locals := 24 } : Room).slots T1 (mkF m 10 #[(.val (.ref a)), (.val (.long u)), .second, .unset] [])
    refine Owes.by (fun _ kq => XT.lloadN X1.here hx rfl (hb hby d3_10) rfl kq) ?_
    show Owes p e below s (QBI Z a h0 n0) ({ frames := 2, cells := 1, slots := 2, locals := 24 } : Room).cells ({ frames := 2, cells := 1, slots := 2, locals := 24 } : Room).slots T1 (mkF m 11 #[(.val (.ref a)), (.val (.long u)), .second, .unset] [(.long u)])
    refine Owes.by (fun _ kq => XT.lneg X1.here hx rfl (hb hby d3_11) rfl kq) ?_
    show Owes p e below s (QBI Z a h0 n0) ({ frames := 2, cells := 1, slots := 2, locals := 24 } : Room).cells ({ frames := 2, cells := 1, slots := 2, locals := 24 } : Room).slots T1 (mkF m 12 #[(.val (.ref a)), (.val (.long u)), .second, .unset] [(.long ((-u)))])
    refine Owes.by (fun _ kq => XT.lstoreN X1.here hx rfl (hb hby d3_12) rfl (l' := #[(.val (.ref a)), (.val (.long ((-u)))), .second, .unset]) rfl kq) ?_
    show Owes p e below s (QBI Z a h0 n0) ({ frames := 2, cells := 1, slots := 2, locals := 24 } : Room).cells ({ frames := 2, cells := 1, slots := 2, locals := 24 } : Room).slots T1 (mkF m 13 #[(.val (.ref a)), (.val (.long ((-u)))), .second, .unset] [])
    refine Owes.by (fun _ kq => XS.aloadN X1.here hx rfl (hb hby d3_13) rfl rfl kq) ?_
    show Owes p e below s (QBI Z a h0 n0) ({ frames := 2, cells := 1, slots := 2, locals := 24 } : Room).cells ({ frames := 2, cells := 1, slots := 2, locals := 24 } : Room).slots T1 (mkF m 14 #[(.val (.ref a)), (.val (.long ((-u)))), .second, .unset] [(.ref a)])
    refine Owes.by (fun _ kq => XS.iconst X1.here hx rfl (hb hby d3_14) kq) ?_
    show Owes p e below s (QBI Z a h0 n0) ({ frames := 2, cells := 1, slots := 2, locals := 24 } : Room).cells ({ frames := 2, cells := 1, slots := 2, locals := 24 } : Room).slots T1 (mkF m 15 #[(.val (.ref a)), (.val (.long ((-u)))), .second, .unset] [(.int (-1 : Int32)), (.ref a)])
    obtain ⟨T2, h2, X2, e2, W2, st2⟩ := putF X1 hx hZ hown (host := "") (Or.inl (hw _ (List.mem_of_getElem? (i := 29) rfl))) Via.refl e1 Fs E (Or.inr ⟨(hw _ (List.mem_of_getElem? (i := 30) rfl)), rfl, hnm⟩) (hw _ (List.mem_of_getElem? (i := 15) rfl)) (ty := .int) (by decide) rfl rfl (g := (mkF m 15 #[(.val (.ref a)), (.val (.long ((-u)))), .second, .unset] [(.int (-1 : Int32)), (.ref a)])) rfl rfl (hb hby d3_15)
    refine Owes.by st2 ?_
    show Owes p e below s (QBI Z a h0 n0) ({ frames := 2, cells := 1, slots := 2, locals := 24 } : Room).cells ({ frames := 2, cells := 1, slots := 2, locals := 24 } : Room).slots T2 (mkF m 18 #[(.val (.ref a)), (.val (.long ((-u)))), .second, .unset] [])
    have Fs2 := Fs.same W2
    have Fm2 := Fm.other W2 (Or.inr (slot_ne (Or.inr (hw _ (List.mem_of_getElem? (i := 32) rfl))) (Or.inr (hw _ (List.mem_of_getElem? (i := 30) rfl))) (by decide) (t := (.array .int)) (t' := .int) (by decide) (by decide)))
    have E2 := E.wr W2
    have K2 := (Keep.refl h0 [a]).wr W2 (Or.inl (List.mem_of_getElem? (l := [a]) (i := 0) rfl))
    have N2 := Fr.snoc X2 N0 g
    refine Owes.by (fun _ kq => XS.goto X2.here hx rfl (pc0 := 18) (pc' := 26) rfl (hb hby d3_18) (by decide) (by decide) kq) ?_
    show Owes p e below s (QBI Z a h0 n0) ({ frames := 2, cells := 1, slots := 2, locals := 24 } : Room).cells ({ frames := 2, cells := 1, slots := 2, locals := 24 } : Room).slots T2 (mkF m 26 #[(.val (.ref a)), (.val (.long ((-u)))), .second, .unset] [])
    refine Owes.by (fun _ kq => XT.lloadN X2.here hx rfl (hb hby d3_26) rfl kq) ?_
    show Owes p e below s (QBI Z a h0 n0) ({ frames := 2, cells := 1, slots := 2, locals := 24 } : Room).cells ({ frames := 2, cells := 1, slots := 2, locals := 24 } : Room).slots T2 (mkF m 27 #[(.val (.ref a)), (.val (.long ((-u)))), .second, .unset] [(.long ((-u)))])
    refine Owes.by (fun _ kq => XS.bipush X2.here hx rfl (hb hby d3_27) kq) ?_
    show Owes p e below s (QBI Z a h0 n0) ({ frames := 2, cells := 1, slots := 2, locals := 24 } : Room).cells ({ frames := 2, cells := 1, slots := 2, locals := 24 } : Room).slots T2 (mkF m 29 #[(.val (.ref a)), (.val (.long ((-u)))), .second, .unset] [(.int (32 : Int32)), (.long ((-u)))])
    refine Owes.by (fun _ kq => XT.lushr X2.here hx rfl (hb hby d3_29) rfl kq) ?_
    show Owes p e below s (QBI Z a h0 n0) ({ frames := 2, cells := 1, slots := 2, locals := 24 } : Room).cells ({ frames := 2, cells := 1, slots := 2, locals := 24 } : Room).slots T2 (mkF m 30 #[(.val (.ref a)), (.val (.long ((-u)))), .second, .unset] [(.long (XT.ushrL ((-u)) (32 : Int32)))])
    refine Owes.by (fun _ kq => XT.l2i X2.here hx rfl (hb hby d3_30) rfl kq) ?_
    show Owes p e below s (QBI Z a h0 n0) ({ frames := 2, cells := 1, slots := 2, locals := 24 } : Room).cells ({ frames := 2, cells := 1, slots := 2, locals := 24 } : Room).slots T2 (mkF m 31 #[(.val (.ref a)), (.val (.long ((-u)))), .second, .unset] [(.int ((XT.ushrL ((-u)) (32 : Int32)).toInt32))])
    refine Owes.by (fun _ kq => XS.istoreN X2.here hx rfl (hb hby d3_31) rfl (l' := #[(.val (.ref a)), (.val (.long ((-u)))), .second, (.val (.int ((XT.ushrL ((-u)) (32 : Int32)).toInt32)))]) rfl kq) ?_
    show Owes p e below s (QBI Z a h0 n0) ({ frames := 2, cells := 1, slots := 2, locals := 24 } : Room).cells ({ frames := 2, cells := 1, slots := 2, locals := 24 } : Room).slots T2 (mkF m 32 #[(.val (.ref a)), (.val (.long ((-u)))), .second, (.val (.int ((XT.ushrL ((-u)) (32 : Int32)).toInt32)))] [])
    refine Owes.by (fun _ kq => XS.iloadN X2.here hx rfl (hb hby d3_32) rfl kq) ?_
    show Owes p e below s (QBI Z a h0 n0) ({ frames := 2, cells := 1, slots := 2, locals := 24 } : Room).cells ({ frames := 2, cells := 1, slots := 2, locals := 24 } : Room).slots T2 (mkF m 33 #[(.val (.ref a)), (.val (.long ((-u)))), .second, (.val (.int ((XT.ushrL ((-u)) (32 : Int32)).toInt32)))] [(.int ((XT.ushrL ((-u)) (32 : Int32)).toInt32))])
    by_cases q1 : ((XT.ushrL ((-u)) (32 : Int32)).toInt32) = 0
    · skip
      refine Owes.by (fun _ kq => XS.ifNo X2.here hx rfl (hb hby d3_33) rfl (XT.i0_ne_f q1) kq) ?_
      show Owes p e below s (QBI Z a h0 n0) ({ frames := 2, cells := 1, slots := 2, locals := 24 } : Room).cells ({ frames := 2, cells := 1, slots := 2, locals := 24 } : Room).slots T2 (mkF m 36 #[(.val (.ref a)), (.val (.long ((-u)))), .second, (.val (.int ((XT.ushrL ((-u)) (32 : Int32)).toInt32)))] [])
      refine Owes.by (fun _ kq => XS.aloadN X2.here hx rfl (hb hby d3_36) rfl rfl kq) ?_
      show Owes p e below s (QBI Z a h0 n0) ({ frames := 2, cells := 1, slots := 2, locals := 24 } : Room).cells ({ frames := 2, cells := 1, slots := 2, locals := 24 } : Room).slots T2 (mkF m 37 #[(.val (.ref a)), (.val (.long ((-u)))), .second, (.val (.int ((XT.ushrL ((-u)) (32 : Int32)).toInt32)))] [(.ref a)])
      refine Owes.by (fun _ kq => XS.iconst X2.here hx rfl (hb hby d3_37) kq) ?_
      show Owes p e below s (QBI Z a h0 n0) ({ frames := 2, cells := 1, slots := 2, locals := 24 } : Room).cells ({ frames := 2, cells := 1, slots := 2, locals := 24 } : Room).slots T2 (mkF m 38 #[(.val (.ref a)), (.val (.long ((-u)))), .second, (.val (.int ((XT.ushrL ((-u)) (32 : Int32)).toInt32)))] [(.int (1 : Int32)), (.ref a)])
      obtain ⟨T3, h3, k3, X3, e3, E3, A3, st3⟩ := newP X2 hx hZ (hw _ (List.mem_of_getElem? (i := 0) rfl)) e2 (g := (mkF m 38 #[(.val (.ref a)), (.val (.long ((-u)))), .second, (.val (.int ((XT.ushrL ((-u)) (32 : Int32)).toInt32)))] [(.int (1 : Int32)), (.ref a)])) rfl (hb hby d3_38) rfl (by decide) (cap := 1) (by decide) (by decide) (by decide) (by decide)
      obtain ⟨b3, g3⟩ : ∃ z, z = h2.size := ⟨_, rfl⟩
      rw [← g3] at A3 st3
      have V3 : Arv Z h3 b3 k3 .int 1 [(.int (0 : Int32))] (.int (0 : Int32)) := (Arv.new A3 (by decide)).pad (pad_rep [] (.int (0 : Int32)) 1)
      refine Owes.by st3 ?_
      show Owes p e below s (QBI Z a h0 n0) ({ frames := 2, cells := 1, slots := 2, locals := 24 } : Room).cells ({ frames := 2, cells := 1, slots := 2, locals := 24 } : Room).slots T3 (mkF m 40 #[(.val (.ref a)), (.val (.long ((-u)))), .second, (.val (.int ((XT.ushrL ((-u)) (32 : Int32)).toInt32)))] [(.ref b3), (.ref a)])
      have gz3 : h0.size ≤ b3 := Nat.le_trans K2.1 (Nat.le_of_eq g3.symm)
      have ne3 : b3 ≠ a := Nat.ne_of_gt (Nat.lt_of_lt_of_le hlt gz3)
      have Fs3 := Fs2.ext E3
      have Fm3 := Fm2.ext E3
      have Ea3 := E2.ext E3
      have K3 := K2.ext E3
      obtain ⟨T4, h4, X4, e4, W4, st4⟩ := putF X3 hx hZ hown (host := "") (Or.inl (hw _ (List.mem_of_getElem? (i := 31) rfl))) Via.refl e3 Fm3 Ea3 (Or.inr ⟨(hw _ (List.mem_of_getElem? (i := 32) rfl)), rfl, hnm⟩) (hw _ (List.mem_of_getElem? (i := 15) rfl)) (ty := (.array .int)) (by decide) rfl rfl (g := (mkF m 40 #[(.val (.ref a)), (.val (.long ((-u)))), .second, (.val (.int ((XT.ushrL ((-u)) (32 : Int32)).toInt32)))] [(.ref b3), (.ref a)])) rfl rfl (hb hby d3_40)
      refine Owes.by st4 ?_
      show Owes p e below s (QBI Z a h0 n0) ({ frames := 2, cells := 1, slots := 2, locals := 24 } : Room).cells ({ frames := 2, cells := 1, slots := 2, locals := 24 } : Room).slots T4 (mkF m 43 #[(.val (.ref a)), (.val (.long ((-u)))), .second, (.val (.int ((XT.ushrL ((-u)) (32 : Int32)).toInt32)))] [])
      have Fm4 := Fm3.same W4
      have Fs4 := Fs3.other W4 (Or.inr (slot_ne (Or.inr (hw _ (List.mem_of_getElem? (i := 30) rfl))) (Or.inr (hw _ (List.mem_of_getElem? (i := 32) rfl))) (by decide) (t := .int) (t' := (.array .int)) (by decide) (by decide)))
      have E4 := Ea3.wr W4
      have K4 := K3.wr W4 (Or.inl (List.mem_of_getElem? (l := [a]) (i := 0) rfl))
      have N4 := Fr.snoc X4 N2 g
      have V4 := V3.other W4 ne3
      refine Owes.by (fun _ kq => XS.aloadN X4.here hx rfl (hb hby d3_43) rfl rfl kq) ?_
      show Owes p e below s (QBI Z a h0 n0) ({ frames := 2, cells := 1, slots := 2, locals := 24 } : Room).cells ({ frames := 2, cells := 1, slots := 2, locals := 24 } : Room).slots T4 (mkF m 44 #[(.val (.ref a)), (.val (.long ((-u)))), .second, (.val (.int ((XT.ushrL ((-u)) (32 : Int32)).toInt32)))] [(.ref a)])
      obtain ⟨T5, X5, e5, st5⟩ := getF X4 hx hZ hown (host := "") (Or.inl (hw _ (List.mem_of_getElem? (i := 31) rfl))) Via.refl e4 Fm4 (g := (mkF m 44 #[(.val (.ref a)), (.val (.long ((-u)))), .second, (.val (.int ((XT.ushrL ((-u)) (32 : Int32)).toInt32)))] [(.ref a)])) rfl rfl (hb hby d3_44)
      refine Owes.by st5 ?_
      show Owes p e below s (QBI Z a h0 n0) ({ frames := 2, cells := 1, slots := 2, locals := 24 } : Room).cells ({ frames := 2, cells := 1, slots := 2, locals := 24 } : Room).slots T5 (mkF m 47 #[(.val (.ref a)), (.val (.long ((-u)))), .second, (.val (.int ((XT.ushrL ((-u)) (32 : Int32)).toInt32)))] [(.ref b3)])
      refine Owes.by (fun _ kq => XS.iconst X5.here hx rfl (hb hby d3_47) kq) ?_
      show Owes p e below s (QBI Z a h0 n0) ({ frames := 2, cells := 1, slots := 2, locals := 24 } : Room).cells ({ frames := 2, cells := 1, slots := 2, locals := 24 } : Room).slots T5 (mkF m 48 #[(.val (.ref a)), (.val (.long ((-u)))), .second, (.val (.int ((XT.ushrL ((-u)) (32 : Int32)).toInt32)))] [(.int (0 : Int32)), (.ref b3)])
      refine Owes.by (fun _ kq => XT.lloadN X5.here hx rfl (hb hby d3_48) rfl kq) ?_
      show Owes p e below s (QBI Z a h0 n0) ({ frames := 2, cells := 1, slots := 2, locals := 24 } : Room).cells ({ frames := 2, cells := 1, slots := 2, locals := 24 } : Room).slots T5 (mkF m 49 #[(.val (.ref a)), (.val (.long ((-u)))), .second, (.val (.int ((XT.ushrL ((-u)) (32 : Int32)).toInt32)))] [(.long ((-u))), (.int (0 : Int32)), (.ref b3)])
      refine Owes.by (fun _ kq => XT.l2i X5.here hx rfl (hb hby d3_49) rfl kq) ?_
      show Owes p e below s (QBI Z a h0 n0) ({ frames := 2, cells := 1, slots := 2, locals := 24 } : Room).cells ({ frames := 2, cells := 1, slots := 2, locals := 24 } : Room).slots T5 (mkF m 50 #[(.val (.ref a)), (.val (.long ((-u)))), .second, (.val (.int ((XT.ushrL ((-u)) (32 : Int32)).toInt32)))] [(.int (((-u)).toInt32)), (.int (0 : Int32)), (.ref b3)])
      obtain ⟨cl6, Ar6, qq6, sz6, nn6, hh6, gg6⟩ := V4
      have hin6 : ¬ ((0 : Int32) < 0 ∨ cl6.slots.size ≤ ((0 : Int32)).toNatClampNeg) := inb_of sz6 ⟨by decide, by decide⟩
      obtain ⟨T6, h6, X6, e6, W6, st6⟩ := stI X5 hx hZ e5 Ar6 (j := (0 : Int32)) hin6 (g := (mkF m 50 #[(.val (.ref a)), (.val (.long ((-u)))), .second, (.val (.int ((XT.ushrL ((-u)) (32 : Int32)).toInt32)))] [(.int (((-u)).toInt32)), (.int (0 : Int32)), (.ref b3)])) rfl rfl (hb hby d3_50)
      have V6 : Arv Z h6 b3 k3 .int 1 [(.int (((-u)).toInt32))] (.int (0 : Int32)) := Arv.set Ar6 qq6 sz6 nn6 hh6 gg6 rfl W6 0 rfl (Nat.le_of_ble_eq_true rfl)
      refine Owes.by st6 ?_
      show Owes p e below s (QBI Z a h0 n0) ({ frames := 2, cells := 1, slots := 2, locals := 24 } : Room).cells ({ frames := 2, cells := 1, slots := 2, locals := 24 } : Room).slots T6 (mkF m 51 #[(.val (.ref a)), (.val (.long ((-u)))), .second, (.val (.int ((XT.ushrL ((-u)) (32 : Int32)).toInt32)))] [])
      have Fm6 := Fm4.other W6 (Or.inl (Ne.symm ne3))
      have Fs6 := Fs4.other W6 (Or.inl (Ne.symm ne3))
      have E6 := E4.wr W6
      have K6 := K4.wr W6 (Or.inr gz3)
      have N6 := Fr.snoc X6 N4 (Nat.le_trans Z0 gz3)
      refine Owes.by (fun _ kq => XS.goto X6.here hx rfl (pc0 := 51) (pc' := 76) rfl (hb hby d3_51) (by decide) (by decide) kq) ?_
      show Owes p e below s (QBI Z a h0 n0) ({ frames := 2, cells := 1, slots := 2, locals := 24 } : Room).cells ({ frames := 2, cells := 1, slots := 2, locals := 24 } : Room).slots T6 (mkF m 76 #[(.val (.ref a)), (.val (.long ((-u)))), .second, (.val (.int ((XT.ushrL ((-u)) (32 : Int32)).toInt32)))] [])
      obtain ⟨cl, Ar, -, sz, nn, hh, -⟩ := V6
      refine Owes.ret X6 (v := none) (fun _ => rfl) hlk ?_ (by decide) (by decide) (fun fs hr => X6.returnOut hx Bd.returns (hb hby d3_76) hr)
      rw [e6]
      exact ⟨rfl, N6, K6, E6, _, _, cl, Fs6, Fm6, Ar, Or.inr (Or.inl ⟨len_of sz nn, ⟨inb_of sz ⟨by decide, by decide⟩, _, hh.at (inb_of sz ⟨by decide, by decide⟩) rfl⟩⟩)⟩
    · skip
      refine Owes.by (fun _ kq => XS.ifYes X2.here hx rfl (pc0 := 33) (pc' := 54) rfl (hb hby d3_33) rfl (XT.i0_ne_t q1) (by decide) (by decide) kq) ?_
      show Owes p e below s (QBI Z a h0 n0) ({ frames := 2, cells := 1, slots := 2, locals := 24 } : Room).cells ({ frames := 2, cells := 1, slots := 2, locals := 24 } : Room).slots T2 (mkF m 54 #[(.val (.ref a)), (.val (.long ((-u)))), .second, (.val (.int ((XT.ushrL ((-u)) (32 : Int32)).toInt32)))] [])
      refine Owes.by (fun _ kq => XS.aloadN X2.here hx rfl (hb hby d3_54) rfl rfl kq) ?_
      show Owes p e below s (QBI Z a h0 n0) ({ frames := 2, cells := 1, slots := 2, locals := 24 } : Room).cells ({ frames := 2, cells := 1, slots := 2, locals := 24 } : Room).slots T2 (mkF m 55 #[(.val (.ref a)), (.val (.long ((-u)))), .second, (.val (.int ((XT.ushrL ((-u)) (32 : Int32)).toInt32)))] [(.ref a)])
      refine Owes.by (fun _ kq => XS.iconst X2.here hx rfl (hb hby d3_55) kq) ?_
      show Owes p e below s (QBI Z a h0 n0) ({ frames := 2, cells := 1, slots := 2, locals := 24 } : Room).cells ({ frames := 2, cells := 1, slots := 2, locals := 24 } : Room).slots T2 (mkF m 56 #[(.val (.ref a)), (.val (.long ((-u)))), .second, (.val (.int ((XT.ushrL ((-u)) (32 : Int32)).toInt32)))] [(.int (2 : Int32)), (.ref a)])
      obtain ⟨T7, h7, k7, X7, e7, E7, A7, st7⟩ := newP X2 hx hZ (hw _ (List.mem_of_getElem? (i := 0) rfl)) e2 (g := (mkF m 56 #[(.val (.ref a)), (.val (.long ((-u)))), .second, (.val (.int ((XT.ushrL ((-u)) (32 : Int32)).toInt32)))] [(.int (2 : Int32)), (.ref a)])) rfl (hb hby d3_56) rfl (by decide) (cap := 2) (by decide) (by decide) (by decide) (by decide)
      obtain ⟨b7, g7⟩ : ∃ z, z = h2.size := ⟨_, rfl⟩
      rw [← g7] at A7 st7
      have V7 : Arv Z h7 b7 k7 .int 2 [(.int (0 : Int32)), (.int (0 : Int32))] (.int (0 : Int32)) := (Arv.new A7 (by decide)).pad (pad_rep [] (.int (0 : Int32)) 2)
      refine Owes.by st7 ?_
      show Owes p e below s (QBI Z a h0 n0) ({ frames := 2, cells := 1, slots := 2, locals := 24 } : Room).cells ({ frames := 2, cells := 1, slots := 2, locals := 24 } : Room).slots T7 (mkF m 58 #[(.val (.ref a)), (.val (.long ((-u)))), .second, (.val (.int ((XT.ushrL ((-u)) (32 : Int32)).toInt32)))] [(.ref b7), (.ref a)])
      have gz7 : h0.size ≤ b7 := Nat.le_trans K2.1 (Nat.le_of_eq g7.symm)
      have ne7 : b7 ≠ a := Nat.ne_of_gt (Nat.lt_of_lt_of_le hlt gz7)
      have Fs7 := Fs2.ext E7
      have Fm7 := Fm2.ext E7
      have Ea7 := E2.ext E7
      have K7 := K2.ext E7
      obtain ⟨T8, h8, X8, e8, W8, st8⟩ := putF X7 hx hZ hown (host := "") (Or.inl (hw _ (List.mem_of_getElem? (i := 31) rfl))) Via.refl e7 Fm7 Ea7 (Or.inr ⟨(hw _ (List.mem_of_getElem? (i := 32) rfl)), rfl, hnm⟩) (hw _ (List.mem_of_getElem? (i := 15) rfl)) (ty := (.array .int)) (by decide) rfl rfl (g := (mkF m 58 #[(.val (.ref a)), (.val (.long ((-u)))), .second, (.val (.int ((XT.ushrL ((-u)) (32 : Int32)).toInt32)))] [(.ref b7), (.ref a)])) rfl rfl (hb hby d3_58)
      refine Owes.by st8 ?_
      show Owes p e below s (QBI Z a h0 n0) ({ frames := 2, cells := 1, slots := 2, locals := 24 } : Room).cells ({ frames := 2, cells := 1, slots := 2, locals := 24 } : Room).slots T8 (mkF m 61 #[(.val (.ref a)), (.val (.long ((-u)))), .second, (.val (.int ((XT.ushrL ((-u)) (32 : Int32)).toInt32)))] [])
      have Fm8 := Fm7.same W8
      have Fs8 := Fs7.other W8 (Or.inr (slot_ne (Or.inr (hw _ (List.mem_of_getElem? (i := 30) rfl))) (Or.inr (hw _ (List.mem_of_getElem? (i := 32) rfl))) (by decide) (t := .int) (t' := (.array .int)) (by decide) (by decide)))
      have E8 := Ea7.wr W8
      have K8 := K7.wr W8 (Or.inl (List.mem_of_getElem? (l := [a]) (i := 0) rfl))
      have N8 := Fr.snoc X8 N2 g
      have V8 := V7.other W8 ne7
      refine Owes.by (fun _ kq => XS.aloadN X8.here hx rfl (hb hby d3_61) rfl rfl kq) ?_
      show Owes p e below s (QBI Z a h0 n0) ({ frames := 2, cells := 1, slots := 2, locals := 24 } : Room).cells ({ frames := 2, cells := 1, slots := 2, locals := 24 } : Room).slots T8 (mkF m 62 #[(.val (.ref a)), (.val (.long ((-u)))), .second, (.val (.int ((XT.ushrL ((-u)) (32 : Int32)).toInt32)))] [(.ref a)])
      obtain ⟨T9, X9, e9, st9⟩ := getF X8 hx hZ hown (host := "") (Or.inl (hw _ (List.mem_of_getElem? (i := 31) rfl))) Via.refl e8 Fm8 (g := (mkF m 62 #[(.val (.ref a)), (.val (.long ((-u)))), .second, (.val (.int ((XT.ushrL ((-u)) (32 : Int32)).toInt32)))] [(.ref a)])) rfl rfl (hb hby d3_62)
      refine Owes.by st9 ?_
      show Owes p e below s (QBI Z a h0 n0) ({ frames := 2, cells := 1, slots := 2, locals := 24 } : Room).cells ({ frames := 2, cells := 1, slots := 2, locals := 24 } : Room).slots T9 (mkF m 65 #[(.val (.ref a)), (.val (.long ((-u)))), .second, (.val (.int ((XT.ushrL ((-u)) (32 : Int32)).toInt32)))] [(.ref b7)])
      refine Owes.by (fun _ kq => XS.iconst X9.here hx rfl (hb hby d3_65) kq) ?_
      show Owes p e below s (QBI Z a h0 n0) ({ frames := 2, cells := 1, slots := 2, locals := 24 } : Room).cells ({ frames := 2, cells := 1, slots := 2, locals := 24 } : Room).slots T9 (mkF m 66 #[(.val (.ref a)), (.val (.long ((-u)))), .second, (.val (.int ((XT.ushrL ((-u)) (32 : Int32)).toInt32)))] [(.int (0 : Int32)), (.ref b7)])
      refine Owes.by (fun _ kq => XS.iloadN X9.here hx rfl (hb hby d3_66) rfl kq) ?_
      show Owes p e below s (QBI Z a h0 n0) ({ frames := 2, cells := 1, slots := 2, locals := 24 } : Room).cells ({ frames := 2, cells := 1, slots := 2, locals := 24 } : Room).slots T9 (mkF m 67 #[(.val (.ref a)), (.val (.long ((-u)))), .second, (.val (.int ((XT.ushrL ((-u)) (32 : Int32)).toInt32)))] [(.int ((XT.ushrL ((-u)) (32 : Int32)).toInt32)), (.int (0 : Int32)), (.ref b7)])
      obtain ⟨cl10, Ar10, qq10, sz10, nn10, hh10, gg10⟩ := V8
      have hin10 : ¬ ((0 : Int32) < 0 ∨ cl10.slots.size ≤ ((0 : Int32)).toNatClampNeg) := inb_of sz10 ⟨by decide, by decide⟩
      obtain ⟨T10, h10, X10, e10, W10, st10⟩ := stI X9 hx hZ e9 Ar10 (j := (0 : Int32)) hin10 (g := (mkF m 67 #[(.val (.ref a)), (.val (.long ((-u)))), .second, (.val (.int ((XT.ushrL ((-u)) (32 : Int32)).toInt32)))] [(.int ((XT.ushrL ((-u)) (32 : Int32)).toInt32)), (.int (0 : Int32)), (.ref b7)])) rfl rfl (hb hby d3_67)
      have V10 : Arv Z h10 b7 k7 .int 2 [(.int ((XT.ushrL ((-u)) (32 : Int32)).toInt32)), (.int (0 : Int32))] (.int (0 : Int32)) := Arv.set Ar10 qq10 sz10 nn10 hh10 gg10 rfl W10 0 rfl (Nat.le_of_ble_eq_true rfl)
      refine Owes.by st10 ?_
      show Owes p e below s (QBI Z a h0 n0) ({ frames := 2, cells := 1, slots := 2, locals := 24 } : Room).cells ({ frames := 2, cells := 1, slots := 2, locals := 24 } : Room).slots T10 (mkF m 68 #[(.val (.ref a)), (.val (.long ((-u)))), .second, (.val (.int ((XT.ushrL ((-u)) (32 : Int32)).toInt32)))] [])
      have Fm10 := Fm8.other W10 (Or.inl (Ne.symm ne7))
      have Fs10 := Fs8.other W10 (Or.inl (Ne.symm ne7))
      have E10 := E8.wr W10
      have K10 := K8.wr W10 (Or.inr gz7)
      have N10 := Fr.snoc X10 N8 (Nat.le_trans Z0 gz7)
      refine Owes.by (fun _ kq => XS.aloadN X10.here hx rfl (hb hby d3_68) rfl rfl kq) ?_
      show Owes p e below s (QBI Z a h0 n0) ({ frames := 2, cells := 1, slots := 2, locals := 24 } : Room).cells ({ frames := 2, cells := 1, slots := 2, locals := 24 } : Room).slots T10 (mkF m 69 #[(.val (.ref a)), (.val (.long ((-u)))), .second, (.val (.int ((XT.ushrL ((-u)) (32 : Int32)).toInt32)))] [(.ref a)])
      obtain ⟨T11, X11, e11, st11⟩ := getF X10 hx hZ hown (host := "") (Or.inl (hw _ (List.mem_of_getElem? (i := 31) rfl))) Via.refl e10 Fm10 (g := (mkF m 69 #[(.val (.ref a)), (.val (.long ((-u)))), .second, (.val (.int ((XT.ushrL ((-u)) (32 : Int32)).toInt32)))] [(.ref a)])) rfl rfl (hb hby d3_69)
      refine Owes.by st11 ?_
      show Owes p e below s (QBI Z a h0 n0) ({ frames := 2, cells := 1, slots := 2, locals := 24 } : Room).cells ({ frames := 2, cells := 1, slots := 2, locals := 24 } : Room).slots T11 (mkF m 72 #[(.val (.ref a)), (.val (.long ((-u)))), .second, (.val (.int ((XT.ushrL ((-u)) (32 : Int32)).toInt32)))] [(.ref b7)])
      refine Owes.by (fun _ kq => XS.iconst X11.here hx rfl (hb hby d3_72) kq) ?_
      show Owes p e below s (QBI Z a h0 n0) ({ frames := 2, cells := 1, slots := 2, locals := 24 } : Room).cells ({ frames := 2, cells := 1, slots := 2, locals := 24 } : Room).slots T11 (mkF m 73 #[(.val (.ref a)), (.val (.long ((-u)))), .second, (.val (.int ((XT.ushrL ((-u)) (32 : Int32)).toInt32)))] [(.int (1 : Int32)), (.ref b7)])
      refine Owes.by (fun _ kq => XT.lloadN X11.here hx rfl (hb hby d3_73) rfl kq) ?_
      show Owes p e below s (QBI Z a h0 n0) ({ frames := 2, cells := 1, slots := 2, locals := 24 } : Room).cells ({ frames := 2, cells := 1, slots := 2, locals := 24 } : Room).slots T11 (mkF m 74 #[(.val (.ref a)), (.val (.long ((-u)))), .second, (.val (.int ((XT.ushrL ((-u)) (32 : Int32)).toInt32)))] [(.long ((-u))), (.int (1 : Int32)), (.ref b7)])
      refine Owes.by (fun _ kq => XT.l2i X11.here hx rfl (hb hby d3_74) rfl kq) ?_
      show Owes p e below s (QBI Z a h0 n0) ({ frames := 2, cells := 1, slots := 2, locals := 24 } : Room).cells ({ frames := 2, cells := 1, slots := 2, locals := 24 } : Room).slots T11 (mkF m 75 #[(.val (.ref a)), (.val (.long ((-u)))), .second, (.val (.int ((XT.ushrL ((-u)) (32 : Int32)).toInt32)))] [(.int (((-u)).toInt32)), (.int (1 : Int32)), (.ref b7)])
      obtain ⟨cl12, Ar12, qq12, sz12, nn12, hh12, gg12⟩ := V10
      have hin12 : ¬ ((1 : Int32) < 0 ∨ cl12.slots.size ≤ ((1 : Int32)).toNatClampNeg) := inb_of sz12 ⟨by decide, by decide⟩
      obtain ⟨T12, h12, X12, e12, W12, st12⟩ := stI X11 hx hZ e11 Ar12 (j := (1 : Int32)) hin12 (g := (mkF m 75 #[(.val (.ref a)), (.val (.long ((-u)))), .second, (.val (.int ((XT.ushrL ((-u)) (32 : Int32)).toInt32)))] [(.int (((-u)).toInt32)), (.int (1 : Int32)), (.ref b7)])) rfl rfl (hb hby d3_75)
      have V12 : Arv Z h12 b7 k7 .int 2 [(.int ((XT.ushrL ((-u)) (32 : Int32)).toInt32)), (.int (((-u)).toInt32))] (.int (0 : Int32)) := Arv.set Ar12 qq12 sz12 nn12 hh12 gg12 rfl W12 1 rfl (Nat.le_of_ble_eq_true rfl)
      refine Owes.by st12 ?_
      show Owes p e below s (QBI Z a h0 n0) ({ frames := 2, cells := 1, slots := 2, locals := 24 } : Room).cells ({ frames := 2, cells := 1, slots := 2, locals := 24 } : Room).slots T12 (mkF m 76 #[(.val (.ref a)), (.val (.long ((-u)))), .second, (.val (.int ((XT.ushrL ((-u)) (32 : Int32)).toInt32)))] [])
      have Fm12 := Fm10.other W12 (Or.inl (Ne.symm ne7))
      have Fs12 := Fs10.other W12 (Or.inl (Ne.symm ne7))
      have E12 := E10.wr W12
      have K12 := K10.wr W12 (Or.inr gz7)
      have N12 := Fr.snoc X12 N10 (Nat.le_trans Z0 gz7)
      obtain ⟨cl, Ar, -, sz, nn, hh, -⟩ := V12
      refine Owes.ret X12 (v := none) (fun _ => rfl) hlk ?_ (by decide) (by decide) (fun fs hr => X12.returnOut hx Bd.returns (hb hby d3_76) hr)
      rw [e12]
      exact ⟨rfl, N12, K12, E12, _, _, cl, Fs12, Fm12, Ar, Or.inr (Or.inr ⟨len_of sz nn, ⟨inb_of sz ⟨by decide, by decide⟩, _, hh.at (inb_of sz ⟨by decide, by decide⟩) rfl⟩, ⟨inb_of sz ⟨by decide, by decide⟩, _, hh.at (inb_of sz ⟨by decide, by decide⟩) rfl⟩⟩)⟩
  · skip
    refine Owes.by (fun _ kq => XS.ifYes X1.here hx rfl (pc0 := 7) (pc' := 21) rfl (hb hby d3_7) rfl (XT.ll_ge_t q0) (by decide) (by decide) kq) ?_
    show Owes p e below s (QBI Z a h0 n0) ({ frames := 2, cells := 1, slots := 2, locals := 24 } : Room).cells ({ frames := 2, cells := 1, slots := 2, locals := 24 } : Room).slots T1 (mkF m 21 #[(.val (.ref a)), (.val (.long u)), .second, .unset] [])
    refine Owes.by (fun _ kq => XS.aloadN X1.here hx rfl (hb hby d3_21) rfl rfl kq) ?_
    show Owes p e below s (QBI Z a h0 n0) ({ frames := 2, cells := 1, slots := 2, locals := 24 } : Room).cells ({ frames := 2, cells := 1, slots := 2, locals := 24 } : Room).slots T1 (mkF m 22 #[(.val (.ref a)), (.val (.long u)), .second, .unset] [(.ref a)])
    refine Owes.by (fun _ kq => XS.iconst X1.here hx rfl (hb hby d3_22) kq) ?_
    show Owes p e below s (QBI Z a h0 n0) ({ frames := 2, cells := 1, slots := 2, locals := 24 } : Room).cells ({ frames := 2, cells := 1, slots := 2, locals := 24 } : Room).slots T1 (mkF m 23 #[(.val (.ref a)), (.val (.long u)), .second, .unset] [(.int (1 : Int32)), (.ref a)])
    obtain ⟨T13, h13, X13, e13, W13, st13⟩ := putF X1 hx hZ hown (host := "") (Or.inl (hw _ (List.mem_of_getElem? (i := 29) rfl))) Via.refl e1 Fs E (Or.inr ⟨(hw _ (List.mem_of_getElem? (i := 30) rfl)), rfl, hnm⟩) (hw _ (List.mem_of_getElem? (i := 15) rfl)) (ty := .int) (by decide) rfl rfl (g := (mkF m 23 #[(.val (.ref a)), (.val (.long u)), .second, .unset] [(.int (1 : Int32)), (.ref a)])) rfl rfl (hb hby d3_23)
    refine Owes.by st13 ?_
    show Owes p e below s (QBI Z a h0 n0) ({ frames := 2, cells := 1, slots := 2, locals := 24 } : Room).cells ({ frames := 2, cells := 1, slots := 2, locals := 24 } : Room).slots T13 (mkF m 26 #[(.val (.ref a)), (.val (.long u)), .second, .unset] [])
    have Fs13 := Fs.same W13
    have Fm13 := Fm.other W13 (Or.inr (slot_ne (Or.inr (hw _ (List.mem_of_getElem? (i := 32) rfl))) (Or.inr (hw _ (List.mem_of_getElem? (i := 30) rfl))) (by decide) (t := (.array .int)) (t' := .int) (by decide) (by decide)))
    have E13 := E.wr W13
    have K13 := (Keep.refl h0 [a]).wr W13 (Or.inl (List.mem_of_getElem? (l := [a]) (i := 0) rfl))
    have N13 := Fr.snoc X13 N0 g
    refine Owes.by (fun _ kq => XT.lloadN X13.here hx rfl (hb hby d3_26) rfl kq) ?_
    show Owes p e below s (QBI Z a h0 n0) ({ frames := 2, cells := 1, slots := 2, locals := 24 } : Room).cells ({ frames := 2, cells := 1, slots := 2, locals := 24 } : Room).slots T13 (mkF m 27 #[(.val (.ref a)), (.val (.long u)), .second, .unset] [(.long u)])
    refine Owes.by (fun _ kq => XS.bipush X13.here hx rfl (hb hby d3_27) kq) ?_
    show Owes p e below s (QBI Z a h0 n0) ({ frames := 2, cells := 1, slots := 2, locals := 24 } : Room).cells ({ frames := 2, cells := 1, slots := 2, locals := 24 } : Room).slots T13 (mkF m 29 #[(.val (.ref a)), (.val (.long u)), .second, .unset] [(.int (32 : Int32)), (.long u)])
    refine Owes.by (fun _ kq => XT.lushr X13.here hx rfl (hb hby d3_29) rfl kq) ?_
    show Owes p e below s (QBI Z a h0 n0) ({ frames := 2, cells := 1, slots := 2, locals := 24 } : Room).cells ({ frames := 2, cells := 1, slots := 2, locals := 24 } : Room).slots T13 (mkF m 30 #[(.val (.ref a)), (.val (.long u)), .second, .unset] [(.long (XT.ushrL u (32 : Int32)))])
    refine Owes.by (fun _ kq => XT.l2i X13.here hx rfl (hb hby d3_30) rfl kq) ?_
    show Owes p e below s (QBI Z a h0 n0) ({ frames := 2, cells := 1, slots := 2, locals := 24 } : Room).cells ({ frames := 2, cells := 1, slots := 2, locals := 24 } : Room).slots T13 (mkF m 31 #[(.val (.ref a)), (.val (.long u)), .second, .unset] [(.int ((XT.ushrL u (32 : Int32)).toInt32))])
    refine Owes.by (fun _ kq => XS.istoreN X13.here hx rfl (hb hby d3_31) rfl (l' := #[(.val (.ref a)), (.val (.long u)), .second, (.val (.int ((XT.ushrL u (32 : Int32)).toInt32)))]) rfl kq) ?_
    show Owes p e below s (QBI Z a h0 n0) ({ frames := 2, cells := 1, slots := 2, locals := 24 } : Room).cells ({ frames := 2, cells := 1, slots := 2, locals := 24 } : Room).slots T13 (mkF m 32 #[(.val (.ref a)), (.val (.long u)), .second, (.val (.int ((XT.ushrL u (32 : Int32)).toInt32)))] [])
    refine Owes.by (fun _ kq => XS.iloadN X13.here hx rfl (hb hby d3_32) rfl kq) ?_
    show Owes p e below s (QBI Z a h0 n0) ({ frames := 2, cells := 1, slots := 2, locals := 24 } : Room).cells ({ frames := 2, cells := 1, slots := 2, locals := 24 } : Room).slots T13 (mkF m 33 #[(.val (.ref a)), (.val (.long u)), .second, (.val (.int ((XT.ushrL u (32 : Int32)).toInt32)))] [(.int ((XT.ushrL u (32 : Int32)).toInt32))])
    by_cases q1 : ((XT.ushrL u (32 : Int32)).toInt32) = 0
    · skip
      refine Owes.by (fun _ kq => XS.ifNo X13.here hx rfl (hb hby d3_33) rfl (XT.i0_ne_f q1) kq) ?_
      show Owes p e below s (QBI Z a h0 n0) ({ frames := 2, cells := 1, slots := 2, locals := 24 } : Room).cells ({ frames := 2, cells := 1, slots := 2, locals := 24 } : Room).slots T13 (mkF m 36 #[(.val (.ref a)), (.val (.long u)), .second, (.val (.int ((XT.ushrL u (32 : Int32)).toInt32)))] [])
      refine Owes.by (fun _ kq => XS.aloadN X13.here hx rfl (hb hby d3_36) rfl rfl kq) ?_
      show Owes p e below s (QBI Z a h0 n0) ({ frames := 2, cells := 1, slots := 2, locals := 24 } : Room).cells ({ frames := 2, cells := 1, slots := 2, locals := 24 } : Room).slots T13 (mkF m 37 #[(.val (.ref a)), (.val (.long u)), .second, (.val (.int ((XT.ushrL u (32 : Int32)).toInt32)))] [(.ref a)])
      refine Owes.by (fun _ kq => XS.iconst X13.here hx rfl (hb hby d3_37) kq) ?_
      show Owes p e below s (QBI Z a h0 n0) ({ frames := 2, cells := 1, slots := 2, locals := 24 } : Room).cells ({ frames := 2, cells := 1, slots := 2, locals := 24 } : Room).slots T13 (mkF m 38 #[(.val (.ref a)), (.val (.long u)), .second, (.val (.int ((XT.ushrL u (32 : Int32)).toInt32)))] [(.int (1 : Int32)), (.ref a)])
      obtain ⟨T14, h14, k14, X14, e14, E14, A14, st14⟩ := newP X13 hx hZ (hw _ (List.mem_of_getElem? (i := 0) rfl)) e13 (g := (mkF m 38 #[(.val (.ref a)), (.val (.long u)), .second, (.val (.int ((XT.ushrL u (32 : Int32)).toInt32)))] [(.int (1 : Int32)), (.ref a)])) rfl (hb hby d3_38) rfl (by decide) (cap := 1) (by decide) (by decide) (by decide) (by decide)
      obtain ⟨b14, g14⟩ : ∃ z, z = h13.size := ⟨_, rfl⟩
      rw [← g14] at A14 st14
      have V14 : Arv Z h14 b14 k14 .int 1 [(.int (0 : Int32))] (.int (0 : Int32)) := (Arv.new A14 (by decide)).pad (pad_rep [] (.int (0 : Int32)) 1)
      refine Owes.by st14 ?_
      show Owes p e below s (QBI Z a h0 n0) ({ frames := 2, cells := 1, slots := 2, locals := 24 } : Room).cells ({ frames := 2, cells := 1, slots := 2, locals := 24 } : Room).slots T14 (mkF m 40 #[(.val (.ref a)), (.val (.long u)), .second, (.val (.int ((XT.ushrL u (32 : Int32)).toInt32)))] [(.ref b14), (.ref a)])
      have gz14 : h0.size ≤ b14 := Nat.le_trans K13.1 (Nat.le_of_eq g14.symm)
      have ne14 : b14 ≠ a := Nat.ne_of_gt (Nat.lt_of_lt_of_le hlt gz14)
      have Fs14 := Fs13.ext E14
      have Fm14 := Fm13.ext E14
      have Ea14 := E13.ext E14
      have K14 := K13.ext E14
      obtain ⟨T15, h15, X15, e15, W15, st15⟩ := putF X14 hx hZ hown (host := "") (Or.inl (hw _ (List.mem_of_getElem? (i := 31) rfl))) Via.refl e14 Fm14 Ea14 (Or.inr ⟨(hw _ (List.mem_of_getElem? (i := 32) rfl)), rfl, hnm⟩) (hw _ (List.mem_of_getElem? (i := 15) rfl)) (ty := (.array .int)) (by decide) rfl rfl (g := (mkF m 40 #[(.val (.ref a)), (.val (.long u)), .second, (.val (.int ((XT.ushrL u (32 : Int32)).toInt32)))] [(.ref b14), (.ref a)])) rfl rfl (hb hby d3_40)
      refine Owes.by st15 ?_
      show Owes p e below s (QBI Z a h0 n0) ({ frames := 2, cells := 1, slots := 2, locals := 24 } : Room).cells ({ frames := 2, cells := 1, slots := 2, locals := 24 } : Room).slots T15 (mkF m 43 #[(.val (.ref a)), (.val (.long u)), .second, (.val (.int ((XT.ushrL u (32 : Int32)).toInt32)))] [])
      have Fm15 := Fm14.same W15
      have Fs15 := Fs14.other W15 (Or.inr (slot_ne (Or.inr (hw _ (List.mem_of_getElem? (i := 30) rfl))) (Or.inr (hw _ (List.mem_of_getElem? (i := 32) rfl))) (by decide) (t := .int) (t' := (.array .int)) (by decide) (by decide)))
      have E15 := Ea14.wr W15
      have K15 := K14.wr W15 (Or.inl (List.mem_of_getElem? (l := [a]) (i := 0) rfl))
      have N15 := Fr.snoc X15 N13 g
      have V15 := V14.other W15 ne14
      refine Owes.by (fun _ kq => XS.aloadN X15.here hx rfl (hb hby d3_43) rfl rfl kq) ?_
      show Owes p e below s (QBI Z a h0 n0) ({ frames := 2, cells := 1, slots := 2, locals := 24 } : Room).cells ({ frames := 2, cells := 1, slots := 2, locals := 24 } : Room).slots T15 (mkF m 44 #[(.val (.ref a)), (.val (.long u)), .second, (.val (.int ((XT.ushrL u (32 : Int32)).toInt32)))] [(.ref a)])
      obtain ⟨T16, X16, e16, st16⟩ := getF X15 hx hZ hown (host := "") (Or.inl (hw _ (List.mem_of_getElem? (i := 31) rfl))) Via.refl e15 Fm15 (g := (mkF m 44 #[(.val (.ref a)), (.val (.long u)), .second, (.val (.int ((XT.ushrL u (32 : Int32)).toInt32)))] [(.ref a)])) rfl rfl (hb hby d3_44)
      refine Owes.by st16 ?_
      show Owes p e below s (QBI Z a h0 n0) ({ frames := 2, cells := 1, slots := 2, locals := 24 } : Room).cells ({ frames := 2, cells := 1, slots := 2, locals := 24 } : Room).slots T16 (mkF m 47 #[(.val (.ref a)), (.val (.long u)), .second, (.val (.int ((XT.ushrL u (32 : Int32)).toInt32)))] [(.ref b14)])
      refine Owes.by (fun _ kq => XS.iconst X16.here hx rfl (hb hby d3_47) kq) ?_
      show Owes p e below s (QBI Z a h0 n0) ({ frames := 2, cells := 1, slots := 2, locals := 24 } : Room).cells ({ frames := 2, cells := 1, slots := 2, locals := 24 } : Room).slots T16 (mkF m 48 #[(.val (.ref a)), (.val (.long u)), .second, (.val (.int ((XT.ushrL u (32 : Int32)).toInt32)))] [(.int (0 : Int32)), (.ref b14)])
      refine Owes.by (fun _ kq => XT.lloadN X16.here hx rfl (hb hby d3_48) rfl kq) ?_
      show Owes p e below s (QBI Z a h0 n0) ({ frames := 2, cells := 1, slots := 2, locals := 24 } : Room).cells ({ frames := 2, cells := 1, slots := 2, locals := 24 } : Room).slots T16 (mkF m 49 #[(.val (.ref a)), (.val (.long u)), .second, (.val (.int ((XT.ushrL u (32 : Int32)).toInt32)))] [(.long u), (.int (0 : Int32)), (.ref b14)])
      refine Owes.by (fun _ kq => XT.l2i X16.here hx rfl (hb hby d3_49) rfl kq) ?_
      show Owes p e below s (QBI Z a h0 n0) ({ frames := 2, cells := 1, slots := 2, locals := 24 } : Room).cells ({ frames := 2, cells := 1, slots := 2, locals := 24 } : Room).slots T16 (mkF m 50 #[(.val (.ref a)), (.val (.long u)), .second, (.val (.int ((XT.ushrL u (32 : Int32)).toInt32)))] [(.int (u.toInt32)), (.int (0 : Int32)), (.ref b14)])
      obtain ⟨cl17, Ar17, qq17, sz17, nn17, hh17, gg17⟩ := V15
      have hin17 : ¬ ((0 : Int32) < 0 ∨ cl17.slots.size ≤ ((0 : Int32)).toNatClampNeg) := inb_of sz17 ⟨by decide, by decide⟩
      obtain ⟨T17, h17, X17, e17, W17, st17⟩ := stI X16 hx hZ e16 Ar17 (j := (0 : Int32)) hin17 (g := (mkF m 50 #[(.val (.ref a)), (.val (.long u)), .second, (.val (.int ((XT.ushrL u (32 : Int32)).toInt32)))] [(.int (u.toInt32)), (.int (0 : Int32)), (.ref b14)])) rfl rfl (hb hby d3_50)
      have V17 : Arv Z h17 b14 k14 .int 1 [(.int (u.toInt32))] (.int (0 : Int32)) := Arv.set Ar17 qq17 sz17 nn17 hh17 gg17 rfl W17 0 rfl (Nat.le_of_ble_eq_true rfl)
      refine Owes.by st17 ?_
      show Owes p e below s (QBI Z a h0 n0) ({ frames := 2, cells := 1, slots := 2, locals := 24 } : Room).cells ({ frames := 2, cells := 1, slots := 2, locals := 24 } : Room).slots T17 (mkF m 51 #[(.val (.ref a)), (.val (.long u)), .second, (.val (.int ((XT.ushrL u (32 : Int32)).toInt32)))] [])
      have Fm17 := Fm15.other W17 (Or.inl (Ne.symm ne14))
      have Fs17 := Fs15.other W17 (Or.inl (Ne.symm ne14))
      have E17 := E15.wr W17
      have K17 := K15.wr W17 (Or.inr gz14)
      have N17 := Fr.snoc X17 N15 (Nat.le_trans Z0 gz14)
      refine Owes.by (fun _ kq => XS.goto X17.here hx rfl (pc0 := 51) (pc' := 76) rfl (hb hby d3_51) (by decide) (by decide) kq) ?_
      show Owes p e below s (QBI Z a h0 n0) ({ frames := 2, cells := 1, slots := 2, locals := 24 } : Room).cells ({ frames := 2, cells := 1, slots := 2, locals := 24 } : Room).slots T17 (mkF m 76 #[(.val (.ref a)), (.val (.long u)), .second, (.val (.int ((XT.ushrL u (32 : Int32)).toInt32)))] [])
      obtain ⟨cl, Ar, -, sz, nn, hh, -⟩ := V17
      refine Owes.ret X17 (v := none) (fun _ => rfl) hlk ?_ (by decide) (by decide) (fun fs hr => X17.returnOut hx Bd.returns (hb hby d3_76) hr)
      rw [e17]
      exact ⟨rfl, N17, K17, E17, _, _, cl, Fs17, Fm17, Ar, Or.inr (Or.inl ⟨len_of sz nn, ⟨inb_of sz ⟨by decide, by decide⟩, _, hh.at (inb_of sz ⟨by decide, by decide⟩) rfl⟩⟩)⟩
    · skip
      refine Owes.by (fun _ kq => XS.ifYes X13.here hx rfl (pc0 := 33) (pc' := 54) rfl (hb hby d3_33) rfl (XT.i0_ne_t q1) (by decide) (by decide) kq) ?_
      show Owes p e below s (QBI Z a h0 n0) ({ frames := 2, cells := 1, slots := 2, locals := 24 } : Room).cells ({ frames := 2, cells := 1, slots := 2, locals := 24 } : Room).slots T13 (mkF m 54 #[(.val (.ref a)), (.val (.long u)), .second, (.val (.int ((XT.ushrL u (32 : Int32)).toInt32)))] [])
      refine Owes.by (fun _ kq => XS.aloadN X13.here hx rfl (hb hby d3_54) rfl rfl kq) ?_
      show Owes p e below s (QBI Z a h0 n0) ({ frames := 2, cells := 1, slots := 2, locals := 24 } : Room).cells ({ frames := 2, cells := 1, slots := 2, locals := 24 } : Room).slots T13 (mkF m 55 #[(.val (.ref a)), (.val (.long u)), .second, (.val (.int ((XT.ushrL u (32 : Int32)).toInt32)))] [(.ref a)])
      refine Owes.by (fun _ kq => XS.iconst X13.here hx rfl (hb hby d3_55) kq) ?_
      show Owes p e below s (QBI Z a h0 n0) ({ frames := 2, cells := 1, slots := 2, locals := 24 } : Room).cells ({ frames := 2, cells := 1, slots := 2, locals := 24 } : Room).slots T13 (mkF m 56 #[(.val (.ref a)), (.val (.long u)), .second, (.val (.int ((XT.ushrL u (32 : Int32)).toInt32)))] [(.int (2 : Int32)), (.ref a)])
      obtain ⟨T18, h18, k18, X18, e18, E18, A18, st18⟩ := newP X13 hx hZ (hw _ (List.mem_of_getElem? (i := 0) rfl)) e13 (g := (mkF m 56 #[(.val (.ref a)), (.val (.long u)), .second, (.val (.int ((XT.ushrL u (32 : Int32)).toInt32)))] [(.int (2 : Int32)), (.ref a)])) rfl (hb hby d3_56) rfl (by decide) (cap := 2) (by decide) (by decide) (by decide) (by decide)
      obtain ⟨b18, g18⟩ : ∃ z, z = h13.size := ⟨_, rfl⟩
      rw [← g18] at A18 st18
      have V18 : Arv Z h18 b18 k18 .int 2 [(.int (0 : Int32)), (.int (0 : Int32))] (.int (0 : Int32)) := (Arv.new A18 (by decide)).pad (pad_rep [] (.int (0 : Int32)) 2)
      refine Owes.by st18 ?_
      show Owes p e below s (QBI Z a h0 n0) ({ frames := 2, cells := 1, slots := 2, locals := 24 } : Room).cells ({ frames := 2, cells := 1, slots := 2, locals := 24 } : Room).slots T18 (mkF m 58 #[(.val (.ref a)), (.val (.long u)), .second, (.val (.int ((XT.ushrL u (32 : Int32)).toInt32)))] [(.ref b18), (.ref a)])
      have gz18 : h0.size ≤ b18 := Nat.le_trans K13.1 (Nat.le_of_eq g18.symm)
      have ne18 : b18 ≠ a := Nat.ne_of_gt (Nat.lt_of_lt_of_le hlt gz18)
      have Fs18 := Fs13.ext E18
      have Fm18 := Fm13.ext E18
      have Ea18 := E13.ext E18
      have K18 := K13.ext E18
      obtain ⟨T19, h19, X19, e19, W19, st19⟩ := putF X18 hx hZ hown (host := "") (Or.inl (hw _ (List.mem_of_getElem? (i := 31) rfl))) Via.refl e18 Fm18 Ea18 (Or.inr ⟨(hw _ (List.mem_of_getElem? (i := 32) rfl)), rfl, hnm⟩) (hw _ (List.mem_of_getElem? (i := 15) rfl)) (ty := (.array .int)) (by decide) rfl rfl (g := (mkF m 58 #[(.val (.ref a)), (.val (.long u)), .second, (.val (.int ((XT.ushrL u (32 : Int32)).toInt32)))] [(.ref b18), (.ref a)])) rfl rfl (hb hby d3_58)
      refine Owes.by st19 ?_
      show Owes p e below s (QBI Z a h0 n0) ({ frames := 2, cells := 1, slots := 2, locals := 24 } : Room).cells ({ frames := 2, cells := 1, slots := 2, locals := 24 } : Room).slots T19 (mkF m 61 #[(.val (.ref a)), (.val (.long u)), .second, (.val (.int ((XT.ushrL u (32 : Int32)).toInt32)))] [])
      have Fm19 := Fm18.same W19
      have Fs19 := Fs18.other W19 (Or.inr (slot_ne (Or.inr (hw _ (List.mem_of_getElem? (i := 30) rfl))) (Or.inr (hw _ (List.mem_of_getElem? (i := 32) rfl))) (by decide) (t := .int) (t' := (.array .int)) (by decide) (by decide)))
      have E19 := Ea18.wr W19
      have K19 := K18.wr W19 (Or.inl (List.mem_of_getElem? (l := [a]) (i := 0) rfl))
      have N19 := Fr.snoc X19 N13 g
      have V19 := V18.other W19 ne18
      refine Owes.by (fun _ kq => XS.aloadN X19.here hx rfl (hb hby d3_61) rfl rfl kq) ?_
      show Owes p e below s (QBI Z a h0 n0) ({ frames := 2, cells := 1, slots := 2, locals := 24 } : Room).cells ({ frames := 2, cells := 1, slots := 2, locals := 24 } : Room).slots T19 (mkF m 62 #[(.val (.ref a)), (.val (.long u)), .second, (.val (.int ((XT.ushrL u (32 : Int32)).toInt32)))] [(.ref a)])
      obtain ⟨T20, X20, e20, st20⟩ := getF X19 hx hZ hown (host := "") (Or.inl (hw _ (List.mem_of_getElem? (i := 31) rfl))) Via.refl e19 Fm19 (g := (mkF m 62 #[(.val (.ref a)), (.val (.long u)), .second, (.val (.int ((XT.ushrL u (32 : Int32)).toInt32)))] [(.ref a)])) rfl rfl (hb hby d3_62)
      refine Owes.by st20 ?_
      show Owes p e below s (QBI Z a h0 n0) ({ frames := 2, cells := 1, slots := 2, locals := 24 } : Room).cells ({ frames := 2, cells := 1, slots := 2, locals := 24 } : Room).slots T20 (mkF m 65 #[(.val (.ref a)), (.val (.long u)), .second, (.val (.int ((XT.ushrL u (32 : Int32)).toInt32)))] [(.ref b18)])
      refine Owes.by (fun _ kq => XS.iconst X20.here hx rfl (hb hby d3_65) kq) ?_
      show Owes p e below s (QBI Z a h0 n0) ({ frames := 2, cells := 1, slots := 2, locals := 24 } : Room).cells ({ frames := 2, cells := 1, slots := 2, locals := 24 } : Room).slots T20 (mkF m 66 #[(.val (.ref a)), (.val (.long u)), .second, (.val (.int ((XT.ushrL u (32 : Int32)).toInt32)))] [(.int (0 : Int32)), (.ref b18)])
      refine Owes.by (fun _ kq => XS.iloadN X20.here hx rfl (hb hby d3_66) rfl kq) ?_
      show Owes p e below s (QBI Z a h0 n0) ({ frames := 2, cells := 1, slots := 2, locals := 24 } : Room).cells ({ frames := 2, cells := 1, slots := 2, locals := 24 } : Room).slots T20 (mkF m 67 #[(.val (.ref a)), (.val (.long u)), .second, (.val (.int ((XT.ushrL u (32 : Int32)).toInt32)))] [(.int ((XT.ushrL u (32 : Int32)).toInt32)), (.int (0 : Int32)), (.ref b18)])
      obtain ⟨cl21, Ar21, qq21, sz21, nn21, hh21, gg21⟩ := V19
      have hin21 : ¬ ((0 : Int32) < 0 ∨ cl21.slots.size ≤ ((0 : Int32)).toNatClampNeg) := inb_of sz21 ⟨by decide, by decide⟩
      obtain ⟨T21, h21, X21, e21, W21, st21⟩ := stI X20 hx hZ e20 Ar21 (j := (0 : Int32)) hin21 (g := (mkF m 67 #[(.val (.ref a)), (.val (.long u)), .second, (.val (.int ((XT.ushrL u (32 : Int32)).toInt32)))] [(.int ((XT.ushrL u (32 : Int32)).toInt32)), (.int (0 : Int32)), (.ref b18)])) rfl rfl (hb hby d3_67)
      have V21 : Arv Z h21 b18 k18 .int 2 [(.int ((XT.ushrL u (32 : Int32)).toInt32)), (.int (0 : Int32))] (.int (0 : Int32)) := Arv.set Ar21 qq21 sz21 nn21 hh21 gg21 rfl W21 0 rfl (Nat.le_of_ble_eq_true rfl)
      refine Owes.by st21 ?_
      show Owes p e below s (QBI Z a h0 n0) ({ frames := 2, cells := 1, slots := 2, locals := 24 } : Room).cells ({ frames := 2, cells := 1, slots := 2, locals := 24 } : Room).slots T21 (mkF m 68 #[(.val (.ref a)), (.val (.long u)), .second, (.val (.int ((XT.ushrL u (32 : Int32)).toInt32)))] [])
      have Fm21 := Fm19.other W21 (Or.inl (Ne.symm ne18))
      have Fs21 := Fs19.other W21 (Or.inl (Ne.symm ne18))
      have E21 := E19.wr W21
      have K21 := K19.wr W21 (Or.inr gz18)
      have N21 := Fr.snoc X21 N19 (Nat.le_trans Z0 gz18)
      refine Owes.by (fun _ kq => XS.aloadN X21.here hx rfl (hb hby d3_68) rfl rfl kq) ?_
      show Owes p e below s (QBI Z a h0 n0) ({ frames := 2, cells := 1, slots := 2, locals := 24 } : Room).cells ({ frames := 2, cells := 1, slots := 2, locals := 24 } : Room).slots T21 (mkF m 69 #[(.val (.ref a)), (.val (.long u)), .second, (.val (.int ((XT.ushrL u (32 : Int32)).toInt32)))] [(.ref a)])
      obtain ⟨T22, X22, e22, st22⟩ := getF X21 hx hZ hown (host := "") (Or.inl (hw _ (List.mem_of_getElem? (i := 31) rfl))) Via.refl e21 Fm21 (g := (mkF m 69 #[(.val (.ref a)), (.val (.long u)), .second, (.val (.int ((XT.ushrL u (32 : Int32)).toInt32)))] [(.ref a)])) rfl rfl (hb hby d3_69)
      refine Owes.by st22 ?_
      show Owes p e below s (QBI Z a h0 n0) ({ frames := 2, cells := 1, slots := 2, locals := 24 } : Room).cells ({ frames := 2, cells := 1, slots := 2, locals := 24 } : Room).slots T22 (mkF m 72 #[(.val (.ref a)), (.val (.long u)), .second, (.val (.int ((XT.ushrL u (32 : Int32)).toInt32)))] [(.ref b18)])
      refine Owes.by (fun _ kq => XS.iconst X22.here hx rfl (hb hby d3_72) kq) ?_
      show Owes p e below s (QBI Z a h0 n0) ({ frames := 2, cells := 1, slots := 2, locals := 24 } : Room).cells ({ frames := 2, cells := 1, slots := 2, locals := 24 } : Room).slots T22 (mkF m 73 #[(.val (.ref a)), (.val (.long u)), .second, (.val (.int ((XT.ushrL u (32 : Int32)).toInt32)))] [(.int (1 : Int32)), (.ref b18)])
      refine Owes.by (fun _ kq => XT.lloadN X22.here hx rfl (hb hby d3_73) rfl kq) ?_
      show Owes p e below s (QBI Z a h0 n0) ({ frames := 2, cells := 1, slots := 2, locals := 24 } : Room).cells ({ frames := 2, cells := 1, slots := 2, locals := 24 } : Room).slots T22 (mkF m 74 #[(.val (.ref a)), (.val (.long u)), .second, (.val (.int ((XT.ushrL u (32 : Int32)).toInt32)))] [(.long u), (.int (1 : Int32)), (.ref b18)])
      refine Owes.by (fun _ kq => XT.l2i X22.here hx rfl (hb hby d3_74) rfl kq) ?_
      show Owes p e below s (QBI Z a h0 n0) ({ frames := 2, cells := 1, slots := 2, locals := 24 } : Room).cells ({ frames := 2, cells := 1, slots := 2, locals := 24 } : Room).slots T22 (mkF m 75 #[(.val (.ref a)), (.val (.long u)), .second, (.val (.int ((XT.ushrL u (32 : Int32)).toInt32)))] [(.int (u.toInt32)), (.int (1 : Int32)), (.ref b18)])
      obtain ⟨cl23, Ar23, qq23, sz23, nn23, hh23, gg23⟩ := V21
      have hin23 : ¬ ((1 : Int32) < 0 ∨ cl23.slots.size ≤ ((1 : Int32)).toNatClampNeg) := inb_of sz23 ⟨by decide, by decide⟩
      obtain ⟨T23, h23, X23, e23, W23, st23⟩ := stI X22 hx hZ e22 Ar23 (j := (1 : Int32)) hin23 (g := (mkF m 75 #[(.val (.ref a)), (.val (.long u)), .second, (.val (.int ((XT.ushrL u (32 : Int32)).toInt32)))] [(.int (u.toInt32)), (.int (1 : Int32)), (.ref b18)])) rfl rfl (hb hby d3_75)
      have V23 : Arv Z h23 b18 k18 .int 2 [(.int ((XT.ushrL u (32 : Int32)).toInt32)), (.int (u.toInt32))] (.int (0 : Int32)) := Arv.set Ar23 qq23 sz23 nn23 hh23 gg23 rfl W23 1 rfl (Nat.le_of_ble_eq_true rfl)
      refine Owes.by st23 ?_
      show Owes p e below s (QBI Z a h0 n0) ({ frames := 2, cells := 1, slots := 2, locals := 24 } : Room).cells ({ frames := 2, cells := 1, slots := 2, locals := 24 } : Room).slots T23 (mkF m 76 #[(.val (.ref a)), (.val (.long u)), .second, (.val (.int ((XT.ushrL u (32 : Int32)).toInt32)))] [])
      have Fm23 := Fm21.other W23 (Or.inl (Ne.symm ne18))
      have Fs23 := Fs21.other W23 (Or.inl (Ne.symm ne18))
      have E23 := E21.wr W23
      have K23 := K21.wr W23 (Or.inr gz18)
      have N23 := Fr.snoc X23 N21 (Nat.le_trans Z0 gz18)
      obtain ⟨cl, Ar, -, sz, nn, hh, -⟩ := V23
      refine Owes.ret X23 (v := none) (fun _ => rfl) hlk ?_ (by decide) (by decide) (fun fs hr => X23.returnOut hx Bd.returns (hb hby d3_76) hr)
      rw [e23]
      exact ⟨rfl, N23, K23, E23, _, _, cl, Fs23, Fm23, Ar, Or.inr (Or.inr ⟨len_of sz nn, ⟨inb_of sz ⟨by decide, by decide⟩, _, hh.at (inb_of sz ⟨by decide, by decide⟩) rfl⟩, ⟨inb_of sz ⟨by decide, by decide⟩, _, hh.at (inb_of sz ⟨by decide, by decide⟩) rfl⟩⟩)⟩
theorem ef_rmVO (m : MethodId) (x0 : Int64) : entryFrame m #[(.long x0)] 2 = mkF m 0 #[(.val (.long x0)), .second] [] := by first | (simp [entryFrame, mkF, argsToLocals, Value.category]; done) | rfl
set_option maxRecDepth 65536 in
set_option maxHeartbeats 40000000 in
theorem rmVO (l : Launch) (Z : State) (a0 : Array Value) (hw : ∀ d ∈ tables_1, d.before a0 Z = true) (ws : List Jvm.Cond) (u : Int64) (wz pa na : Addr) (clp cln : Cell) (h0 : Heap) (n0 : Nat) (Z0 : n0 ≤ h0.size) (S_Z : Sta Z h0 "java/math/BigInteger" "ZERO" "Ljava/math/BigInteger;" (.ref wz)) (M_Z : own_MG Z h0 wz) (S_P : Sta Z h0 "java/math/BigInteger" "posConst" "[Ljava/math/BigInteger;" (.ref pa)) (A_P : Arr Z h0 pa clp (.object "java/math/BigInteger")) (H_P : ∀ j : Int32, 0 < j → ¬ 16 < j → (¬ (j < 0 ∨ clp.slots.size ≤ j.toNatClampNeg) ∧ ∃ w, clp.slots[j.toNatClampNeg]? = some (.ref w) ∧ own_MG Z h0 w)) (S_N : Sta Z h0 "java/math/BigInteger" "negConst" "[Ljava/math/BigInteger;" (.ref na)) (A_N : Arr Z h0 na cln (.object "java/math/BigInteger")) (H_N : ∀ j : Int32, 0 < j → ¬ 16 < j → (¬ (j < 0 ∨ cln.slots.size ≤ j.toNatClampNeg) ∧ ∃ w, cln.slots[j.toNatClampNeg]? = some (.ref w) ∧ own_MG Z h0 w)) :
    MetFree l (⟨"java/math/BigInteger", "valueOf", "(J)Ljava/math/BigInteger;"⟩ : MethodName) (head1 (Jvm.Cond.code (⟨"java/math/BigInteger", "valueOf", "(J)Ljava/math/BigInteger;"⟩ : MethodName) jdk_2097_method_29_code 2 (some (.object "java/math/BigInteger")) :: ws) ({ frames := 3, cells := 2, slots := 8, locals := 40 } : Room)) (fun aa UU => aa = #[(.long u)] ∧ Z.Warmed39 UU.vm ∧ UU.heap = h0) (fun _ _ _ _ _ => True) (fun _ UU oo UU' => ∃ vr Lr, oo = .returned vr ∧ (QVO Z h0 n0) vr UU'.heap Lr ∧ FrameEnd UU oo UU' Lr ({ frames := 3, cells := 2, slots := 8, locals := 40 } : Room).cells ({ frames := 3, cells := 2, slots := 8, locals := 40 } : Room).slots) := by
  refine MetFree.of_bodySF (plainFor_of_name pn_BigInteger) hisR ?_
  intro p e s m args below meth c s₁ Bd hml0 hP hK
  obtain ⟨rfl, hZ, hh⟩ := hP
  have hx := Bd.exec
  have hby := Bd.bytes
  have hml : c.maxLocals = 2 := hml0
  have hown : s.vm.findClass "java/math/BigInteger" = some m.cls := findClass_of_methodNamed Bd.named
  have hnm := (name_of_methodNamed Bd.named Bd.method).1
  have hlk := Bd.notSynchronized
  have X0 : Stand p l e ({ frames := 3, cells := 2, slots := 8, locals := 40 } : Room) s m #[(.long u)] below meth c s₁ [] 0 0 := Stand.of_body Bd
  have e0 : s₁.heap = h0 := by rw [← hh, Bd.state]; rfl
  have N0 := Fr.nil n0
  show Owes p e below s (QVO Z h0 n0) ({ frames := 3, cells := 2, slots := 8, locals := 40 } : Room).cells ({ frames := 3, cells := 2, slots := 8, locals := 40 } : Room).slots s₁ (entryFrame m #[(.long u)] 2)
  rw [ef_rmVO m u]
  show Owes p e below s (QVO Z h0 n0) ({ frames := 3, cells := 2, slots := 8, locals := 40 } : Room).cells ({ frames := 3, cells := 2, slots := 8, locals := 40 } : Room).slots s₁ (mkF m 0 #[(.val (.long u)), .second] [])
  refine Owes.by (fun _ kq => XT.lloadN X0.here hx rfl (hb hby d2_0) rfl kq) ?_
  show Owes p e below s (QVO Z h0 n0) ({ frames := 3, cells := 2, slots := 8, locals := 40 } : Room).cells ({ frames := 3, cells := 2, slots := 8, locals := 40 } : Room).slots s₁ (mkF m 1 #[(.val (.long u)), .second] [(.long u)])
  refine Owes.by (fun _ kq => XT.lconst X0.here hx rfl (hb hby d2_1) kq) ?_
  show Owes p e below s (QVO Z h0 n0) ({ frames := 3, cells := 2, slots := 8, locals := 40 } : Room).cells ({ frames := 3, cells := 2, slots := 8, locals := 40 } : Room).slots s₁ (mkF m 2 #[(.val (.long u)), .second] [(.long (0 : Int64)), (.long u)])
  refine Owes.by (fun _ kq => XT.lcmp X0.here hx rfl (hb hby d2_2) rfl kq) ?_
  show Owes p e below s (QVO Z h0 n0) ({ frames := 3, cells := 2, slots := 8, locals := 40 } : Room).cells ({ frames := 3, cells := 2, slots := 8, locals := 40 } : Room).slots s₁ (mkF m 3 #[(.val (.long u)), .second] [(.int (XT.cmpL u (0 : Int64)))])
  by_cases q0 : u = (0 : Int64)
  · skip
    refine Owes.by (fun _ kq => XS.ifNo X0.here hx rfl (hb hby d2_3) rfl (XT.ll_ne_f q0) kq) ?_
    show Owes p e below s (QVO Z h0 n0) ({ frames := 3, cells := 2, slots := 8, locals := 40 } : Room).cells ({ frames := 3, cells := 2, slots := 8, locals := 40 } : Room).slots s₁ (mkF m 6 #[(.val (.long u)), .second] [])
    obtain ⟨T1, X1, e1, st1⟩ := getS2 X0 hx hZ hown (host := "") (Or.inl (hw _ (List.mem_of_getElem? (i := 105) rfl))) Via.refl e0 S_Z (g := (mkF m 6 #[(.val (.long u)), .second] [])) rfl (hb hby d2_6)
    refine Owes.by st1 ?_
    show Owes p e below s (QVO Z h0 n0) ({ frames := 3, cells := 2, slots := 8, locals := 40 } : Room).cells ({ frames := 3, cells := 2, slots := 8, locals := 40 } : Room).slots T1 (mkF m 9 #[(.val (.long u)), .second] [(.ref wz)])
    refine Owes.ret X1 (v := some (.ref wz)) (fun h => by rw [Bd.returns] at h; cases h) hlk ?_ (by decide) (by decide) (fun fs hr => retOut X1 hx Bd.returns rfl (Or.inr (Or.inr (Or.inr (Or.inr ⟨rfl, rfl, rfl⟩)))) (hb hby d2_9) hr)
    rw [e1]
    exact ⟨wz, rfl, N0, ⟨Nat.le_refl _, fun _ _ q => q⟩, M_Z⟩
  · skip
    refine Owes.by (fun _ kq => XS.ifYes X0.here hx rfl (pc0 := 3) (pc' := 10) rfl (hb hby d2_3) rfl (XT.ll_ne_t q0) (by decide) (by decide) kq) ?_
    show Owes p e below s (QVO Z h0 n0) ({ frames := 3, cells := 2, slots := 8, locals := 40 } : Room).cells ({ frames := 3, cells := 2, slots := 8, locals := 40 } : Room).slots s₁ (mkF m 10 #[(.val (.long u)), .second] [])
    refine Owes.by (fun _ kq => XT.lloadN X0.here hx rfl (hb hby d2_10) rfl kq) ?_
    show Owes p e below s (QVO Z h0 n0) ({ frames := 3, cells := 2, slots := 8, locals := 40 } : Room).cells ({ frames := 3, cells := 2, slots := 8, locals := 40 } : Room).slots s₁ (mkF m 11 #[(.val (.long u)), .second] [(.long u)])
    refine Owes.by (fun _ kq => XT.lconst X0.here hx rfl (hb hby d2_11) kq) ?_
    show Owes p e below s (QVO Z h0 n0) ({ frames := 3, cells := 2, slots := 8, locals := 40 } : Room).cells ({ frames := 3, cells := 2, slots := 8, locals := 40 } : Room).slots s₁ (mkF m 12 #[(.val (.long u)), .second] [(.long (0 : Int64)), (.long u)])
    refine Owes.by (fun _ kq => XT.lcmp X0.here hx rfl (hb hby d2_12) rfl kq) ?_
    show Owes p e below s (QVO Z h0 n0) ({ frames := 3, cells := 2, slots := 8, locals := 40 } : Room).cells ({ frames := 3, cells := 2, slots := 8, locals := 40 } : Room).slots s₁ (mkF m 13 #[(.val (.long u)), .second] [(.int (XT.cmpL u (0 : Int64)))])
    by_cases q1 : (0 : Int64) < u
    · skip
      refine Owes.by (fun _ kq => XS.ifNo X0.here hx rfl (hb hby d2_13) rfl (XT.ll_le_f q1) kq) ?_
      show Owes p e below s (QVO Z h0 n0) ({ frames := 3, cells := 2, slots := 8, locals := 40 } : Room).cells ({ frames := 3, cells := 2, slots := 8, locals := 40 } : Room).slots s₁ (mkF m 16 #[(.val (.long u)), .second] [])
      refine Owes.by (fun _ kq => XT.lloadN X0.here hx rfl (hb hby d2_16) rfl kq) ?_
      show Owes p e below s (QVO Z h0 n0) ({ frames := 3, cells := 2, slots := 8, locals := 40 } : Room).cells ({ frames := 3, cells := 2, slots := 8, locals := 40 } : Room).slots s₁ (mkF m 17 #[(.val (.long u)), .second] [(.long u)])
      refine Owes.by (fun tq kq => X0.ldc2Long hx hown (mvT hZ (hw _ (List.mem_of_getElem? (i := 103) rfl))) (g := (mkF m 17 #[(.val (.long u)), .second] [(.long u)])) rfl (hb hby d2_17) tq kq) ?_
      show Owes p e below s (QVO Z h0 n0) ({ frames := 3, cells := 2, slots := 8, locals := 40 } : Room).cells ({ frames := 3, cells := 2, slots := 8, locals := 40 } : Room).slots s₁ (mkF m 20 #[(.val (.long u)), .second] [(.long (16 : Int64)), (.long u)])
      refine Owes.by (fun _ kq => XT.lcmp X0.here hx rfl (hb hby d2_20) rfl kq) ?_
      show Owes p e below s (QVO Z h0 n0) ({ frames := 3, cells := 2, slots := 8, locals := 40 } : Room).cells ({ frames := 3, cells := 2, slots := 8, locals := 40 } : Room).slots s₁ (mkF m 21 #[(.val (.long u)), .second] [(.int (XT.cmpL u (16 : Int64)))])
      by_cases q2 : (16 : Int64) < u
      · skip
        refine Owes.by (fun _ kq => XS.ifYes X0.here hx rfl (pc0 := 21) (pc' := 31) rfl (hb hby d2_21) rfl (XT.ll_gt_t q2) (by decide) (by decide) kq) ?_
        show Owes p e below s (QVO Z h0 n0) ({ frames := 3, cells := 2, slots := 8, locals := 40 } : Room).cells ({ frames := 3, cells := 2, slots := 8, locals := 40 } : Room).slots s₁ (mkF m 31 #[(.val (.long u)), .second] [])
        refine Owes.by (fun _ kq => XT.lloadN X0.here hx rfl (hb hby d2_31) rfl kq) ?_
        show Owes p e below s (QVO Z h0 n0) ({ frames := 3, cells := 2, slots := 8, locals := 40 } : Room).cells ({ frames := 3, cells := 2, slots := 8, locals := 40 } : Room).slots s₁ (mkF m 32 #[(.val (.long u)), .second] [(.long u)])
        refine Owes.by (fun _ kq => XT.lconst X0.here hx rfl (hb hby d2_32) kq) ?_
        show Owes p e below s (QVO Z h0 n0) ({ frames := 3, cells := 2, slots := 8, locals := 40 } : Room).cells ({ frames := 3, cells := 2, slots := 8, locals := 40 } : Room).slots s₁ (mkF m 33 #[(.val (.long u)), .second] [(.long (0 : Int64)), (.long u)])
        refine Owes.by (fun _ kq => XT.lcmp X0.here hx rfl (hb hby d2_33) rfl kq) ?_
        show Owes p e below s (QVO Z h0 n0) ({ frames := 3, cells := 2, slots := 8, locals := 40 } : Room).cells ({ frames := 3, cells := 2, slots := 8, locals := 40 } : Room).slots s₁ (mkF m 34 #[(.val (.long u)), .second] [(.int (XT.cmpL u (0 : Int64)))])
        by_cases q3 : u < (0 : Int64)
        · skip
          refine Owes.by (fun _ kq => XS.ifNo X0.here hx rfl (hb hby d2_34) rfl (XT.ll_ge_f q3) kq) ?_
          show Owes p e below s (QVO Z h0 n0) ({ frames := 3, cells := 2, slots := 8, locals := 40 } : Room).cells ({ frames := 3, cells := 2, slots := 8, locals := 40 } : Room).slots s₁ (mkF m 37 #[(.val (.long u)), .second] [])
          refine Owes.by (fun _ kq => XT.lloadN X0.here hx rfl (hb hby d2_37) rfl kq) ?_
          show Owes p e below s (QVO Z h0 n0) ({ frames := 3, cells := 2, slots := 8, locals := 40 } : Room).cells ({ frames := 3, cells := 2, slots := 8, locals := 40 } : Room).slots s₁ (mkF m 38 #[(.val (.long u)), .second] [(.long u)])
          refine Owes.by (fun tq kq => X0.ldc2Long hx hown (mvT hZ (hw _ (List.mem_of_getElem? (i := 13) rfl))) (g := (mkF m 38 #[(.val (.long u)), .second] [(.long u)])) rfl (hb hby d2_38) tq kq) ?_
          show Owes p e below s (QVO Z h0 n0) ({ frames := 3, cells := 2, slots := 8, locals := 40 } : Room).cells ({ frames := 3, cells := 2, slots := 8, locals := 40 } : Room).slots s₁ (mkF m 41 #[(.val (.long u)), .second] [(.long (-16 : Int64)), (.long u)])
          refine Owes.by (fun _ kq => XT.lcmp X0.here hx rfl (hb hby d2_41) rfl kq) ?_
          show Owes p e below s (QVO Z h0 n0) ({ frames := 3, cells := 2, slots := 8, locals := 40 } : Room).cells ({ frames := 3, cells := 2, slots := 8, locals := 40 } : Room).slots s₁ (mkF m 42 #[(.val (.long u)), .second] [(.int (XT.cmpL u (-16 : Int64)))])
          by_cases q4 : u < (-16 : Int64)
          · skip
            refine Owes.by (fun _ kq => XS.ifYes X0.here hx rfl (pc0 := 42) (pc' := 53) rfl (hb hby d2_42) rfl (XT.ll_lt_t q4) (by decide) (by decide) kq) ?_
            show Owes p e below s (QVO Z h0 n0) ({ frames := 3, cells := 2, slots := 8, locals := 40 } : Room).cells ({ frames := 3, cells := 2, slots := 8, locals := 40 } : Room).slots s₁ (mkF m 53 #[(.val (.long u)), .second] [])
            obtain ⟨T2, h2, X2, e2, E2, A2, D2, -, st2⟩ := newO X0 hx hZ hown (hw _ (List.mem_of_getElem? (i := 14) rfl)) (hw _ (List.mem_of_getElem? (i := 15) rfl)) (hw _ (List.mem_of_getElem? (i := 11) rfl)) e0 (g := (mkF m 53 #[(.val (.long u)), .second] [])) rfl (hb hby d2_53) (by decide) (by decide)
            obtain ⟨b2, g2⟩ : ∃ z, z = h0.size := ⟨_, rfl⟩
            rw [← g2] at A2 D2 st2
            refine Owes.by st2 ?_
            show Owes p e below s (QVO Z h0 n0) ({ frames := 3, cells := 2, slots := 8, locals := 40 } : Room).cells ({ frames := 3, cells := 2, slots := 8, locals := 40 } : Room).slots T2 (mkF m 56 #[(.val (.long u)), .second] [(.ref b2)])
            refine Owes.by (fun _ kq => XS.dup X2.here hx rfl (hb hby d2_56) rfl rfl kq) ?_
            show Owes p e below s (QVO Z h0 n0) ({ frames := 3, cells := 2, slots := 8, locals := 40 } : Room).cells ({ frames := 3, cells := 2, slots := 8, locals := 40 } : Room).slots T2 (mkF m 57 #[(.val (.long u)), .second] [(.ref b2), (.ref b2)])
            refine Owes.by (fun _ kq => XT.lloadN X2.here hx rfl (hb hby d2_57) rfl kq) ?_
            show Owes p e below s (QVO Z h0 n0) ({ frames := 3, cells := 2, slots := 8, locals := 40 } : Room).cells ({ frames := 3, cells := 2, slots := 8, locals := 40 } : Room).slots T2 (mkF m 58 #[(.val (.long u)), .second] [(.long u), (.ref b2), (.ref b2)])
            have I2_signum : Fld Z h2 b2 "java/math/BigInteger" "signum" "I" (.int (0 : Int32)) := D2 (Or.inr (hw _ (List.mem_of_getElem? (i := 30) rfl))) (ty := .int) (by decide)
            have I2_mag : Fld Z h2 b2 "java/math/BigInteger" "mag" "[I" .null := D2 (Or.inr (hw _ (List.mem_of_getElem? (i := 32) rfl))) (ty := (.array .int)) (by decide)
            obtain ⟨_, _, ⟨T3, L3, k3, n3⟩, -, X3, ⟨Lc3, hQ3, l3, y3, z3⟩, st3⟩ := X2.specialBack hx (y := (⟨"java/math/BigInteger", "<init>", "(J)V"⟩ : MethodName)) rfl hown (mvT hZ (hw _ (List.mem_of_getElem? (i := 16) rfl))) (mvT hZ (hw _ (List.mem_of_getElem? (i := 17) rfl))) (mvT hZ (hw _ (List.mem_of_getElem? (i := 19) rfl))) (by decide) (backOf (W := 1) (rmBI l Z a0 hw [] b2 u h2 n0 (Nat.le_trans Z0 E2.1) I2_signum I2_mag A2 (Nat.le_trans Z0 (Nat.le_of_eq g2.symm)) A2.lt) hZ (hw _ (List.mem_of_getElem? (i := 19) rfl)) (hw _ (List.mem_of_getElem? (i := 11) rfl)) (by decide) (by decide)) (g := (mkF m 58 #[(.val (.long u)), .second] [(.long u), (.ref b2), (.ref b2)])) rfl (by rw [hml]; rfl) (Steps.refl _) (a := b2) (argsL := [(.long u)]) (rest := [(.ref b2)]) (lenOf pd_J_V rfl) rfl (by show 2 * 0 + _ ≤ _; exact Nat.le_of_eq rfl) (hb hby d2_58) (fun _ _ => ⟨rfl, e2, (by decide : 1 + 1 ≤ _), (by decide : 6 + 2 ≤ _)⟩)
            dsimp only [Pt.U, Pt.locs, Pt.cells, Pt.slots] at X3 l3 y3 z3 st3 hQ3
            subst l3 y3 z3
            obtain ⟨rfl, N3, K3, M3⟩ := hQ3
            refine Owes.by (fun _ kq => st3.trans kq) ?_
            show Owes p e below s (QVO Z h0 n0) ({ frames := 3, cells := 2, slots := 8, locals := 40 } : Room).cells ({ frames := 3, cells := 2, slots := 8, locals := 40 } : Room).slots T3 (mkF m 61 #[(.val (.long u)), .second] [(.ref b2)])
            refine Owes.ret X3 (v := some (.ref b2)) (fun h => by rw [Bd.returns] at h; cases h) hlk ?_ (by decide) (by decide) (fun fs hr => retOut X3 hx Bd.returns rfl (Or.inr (Or.inr (Or.inr (Or.inr ⟨rfl, rfl, rfl⟩)))) (hb hby d2_61) hr)
            exact ⟨b2, rfl, Fr.app N0 N3, own_ext (((Keep.refl h0 []).ext E2).trans K3 (allS (Or.inr (Nat.le_of_eq g2.symm)) all0)), M3⟩
          · skip
            refine Owes.by (fun _ kq => XS.ifNo X0.here hx rfl (hb hby d2_42) rfl (XT.ll_lt_f q4) kq) ?_
            show Owes p e below s (QVO Z h0 n0) ({ frames := 3, cells := 2, slots := 8, locals := 40 } : Room).cells ({ frames := 3, cells := 2, slots := 8, locals := 40 } : Room).slots s₁ (mkF m 45 #[(.val (.long u)), .second] [])
            obtain ⟨T4, X4, e4, st4⟩ := getS2 X0 hx hZ hown (host := "") (Or.inl (hw _ (List.mem_of_getElem? (i := 106) rfl))) Via.refl e0 S_N (g := (mkF m 45 #[(.val (.long u)), .second] [])) rfl (hb hby d2_45)
            refine Owes.by st4 ?_
            show Owes p e below s (QVO Z h0 n0) ({ frames := 3, cells := 2, slots := 8, locals := 40 } : Room).cells ({ frames := 3, cells := 2, slots := 8, locals := 40 } : Room).slots T4 (mkF m 48 #[(.val (.long u)), .second] [(.ref na)])
            refine Owes.by (fun _ kq => XT.lloadN X4.here hx rfl (hb hby d2_48) rfl kq) ?_
            show Owes p e below s (QVO Z h0 n0) ({ frames := 3, cells := 2, slots := 8, locals := 40 } : Room).cells ({ frames := 3, cells := 2, slots := 8, locals := 40 } : Room).slots T4 (mkF m 49 #[(.val (.long u)), .second] [(.long u), (.ref na)])
            refine Owes.by (fun _ kq => XT.lneg X4.here hx rfl (hb hby d2_49) rfl kq) ?_
            show Owes p e below s (QVO Z h0 n0) ({ frames := 3, cells := 2, slots := 8, locals := 40 } : Room).cells ({ frames := 3, cells := 2, slots := 8, locals := 40 } : Room).slots T4 (mkF m 50 #[(.val (.long u)), .second] [(.long ((-u))), (.ref na)])
            refine Owes.by (fun _ kq => XT.l2i X4.here hx rfl (hb hby d2_50) rfl kq) ?_
            show Owes p e below s (QVO Z h0 n0) ({ frames := 3, cells := 2, slots := 8, locals := 40 } : Room).cells ({ frames := 3, cells := 2, slots := 8, locals := 40 } : Room).slots T4 (mkF m 51 #[(.val (.long u)), .second] [(.int (((-u)).toInt32)), (.ref na)])
            obtain ⟨hj, w, hat, Mw⟩ := H_N (((-u)).toInt32) (own_jn q3 q4).1 (own_jn q3 q4).2
            refine Owes.by (fun tq kq => X4.aaload hx (j := (((-u)).toInt32)) (v := (.ref w)) (by rw [e4]; exact A_N.1) (State.isArrayOf_alike hZ.alike A_N.2.1) rfl A_N.2.2 hj hat (g := (mkF m 51 #[(.val (.long u)), .second] [(.int (((-u)).toInt32)), (.ref na)])) rfl rfl (hb hby d2_51) tq kq) ?_
            show Owes p e below s (QVO Z h0 n0) ({ frames := 3, cells := 2, slots := 8, locals := 40 } : Room).cells ({ frames := 3, cells := 2, slots := 8, locals := 40 } : Room).slots T4 (mkF m 52 #[(.val (.long u)), .second] [(.ref w)])
            refine Owes.ret X4 (v := some (.ref w)) (fun h => by rw [Bd.returns] at h; cases h) hlk ?_ (by decide) (by decide) (fun fs hr => retOut X4 hx Bd.returns rfl (Or.inr (Or.inr (Or.inr (Or.inr ⟨rfl, rfl, rfl⟩)))) (hb hby d2_52) hr)
            rw [e4]
            exact ⟨w, rfl, N0, ⟨Nat.le_refl _, fun _ _ q => q⟩, Mw⟩
        · skip
          refine Owes.by (fun _ kq => XS.ifYes X0.here hx rfl (pc0 := 34) (pc' := 53) rfl (hb hby d2_34) rfl (XT.ll_ge_t q3) (by decide) (by decide) kq) ?_
          show Owes p e below s (QVO Z h0 n0) ({ frames := 3, cells := 2, slots := 8, locals := 40 } : Room).cells ({ frames := 3, cells := 2, slots := 8, locals := 40 } : Room).slots s₁ (mkF m 53 #[(.val (.long u)), .second] [])
          obtain ⟨T5, h5, X5, e5, E5, A5, D5, -, st5⟩ := newO X0 hx hZ hown (hw _ (List.mem_of_getElem? (i := 14) rfl)) (hw _ (List.mem_of_getElem? (i := 15) rfl)) (hw _ (List.mem_of_getElem? (i := 11) rfl)) e0 (g := (mkF m 53 #[(.val (.long u)), .second] [])) rfl (hb hby d2_53) (by decide) (by decide)
          obtain ⟨b5, g5⟩ : ∃ z, z = h0.size := ⟨_, rfl⟩
          rw [← g5] at A5 D5 st5
          refine Owes.by st5 ?_
          show Owes p e below s (QVO Z h0 n0) ({ frames := 3, cells := 2, slots := 8, locals := 40 } : Room).cells ({ frames := 3, cells := 2, slots := 8, locals := 40 } : Room).slots T5 (mkF m 56 #[(.val (.long u)), .second] [(.ref b5)])
          refine Owes.by (fun _ kq => XS.dup X5.here hx rfl (hb hby d2_56) rfl rfl kq) ?_
          show Owes p e below s (QVO Z h0 n0) ({ frames := 3, cells := 2, slots := 8, locals := 40 } : Room).cells ({ frames := 3, cells := 2, slots := 8, locals := 40 } : Room).slots T5 (mkF m 57 #[(.val (.long u)), .second] [(.ref b5), (.ref b5)])
          refine Owes.by (fun _ kq => XT.lloadN X5.here hx rfl (hb hby d2_57) rfl kq) ?_
          show Owes p e below s (QVO Z h0 n0) ({ frames := 3, cells := 2, slots := 8, locals := 40 } : Room).cells ({ frames := 3, cells := 2, slots := 8, locals := 40 } : Room).slots T5 (mkF m 58 #[(.val (.long u)), .second] [(.long u), (.ref b5), (.ref b5)])
          have I5_signum : Fld Z h5 b5 "java/math/BigInteger" "signum" "I" (.int (0 : Int32)) := D5 (Or.inr (hw _ (List.mem_of_getElem? (i := 30) rfl))) (ty := .int) (by decide)
          have I5_mag : Fld Z h5 b5 "java/math/BigInteger" "mag" "[I" .null := D5 (Or.inr (hw _ (List.mem_of_getElem? (i := 32) rfl))) (ty := (.array .int)) (by decide)
          obtain ⟨_, _, ⟨T6, L6, k6, n6⟩, -, X6, ⟨Lc6, hQ6, l6, y6, z6⟩, st6⟩ := X5.specialBack hx (y := (⟨"java/math/BigInteger", "<init>", "(J)V"⟩ : MethodName)) rfl hown (mvT hZ (hw _ (List.mem_of_getElem? (i := 16) rfl))) (mvT hZ (hw _ (List.mem_of_getElem? (i := 17) rfl))) (mvT hZ (hw _ (List.mem_of_getElem? (i := 19) rfl))) (by decide) (backOf (W := 1) (rmBI l Z a0 hw [] b5 u h5 n0 (Nat.le_trans Z0 E5.1) I5_signum I5_mag A5 (Nat.le_trans Z0 (Nat.le_of_eq g5.symm)) A5.lt) hZ (hw _ (List.mem_of_getElem? (i := 19) rfl)) (hw _ (List.mem_of_getElem? (i := 11) rfl)) (by decide) (by decide)) (g := (mkF m 58 #[(.val (.long u)), .second] [(.long u), (.ref b5), (.ref b5)])) rfl (by rw [hml]; rfl) (Steps.refl _) (a := b5) (argsL := [(.long u)]) (rest := [(.ref b5)]) (lenOf pd_J_V rfl) rfl (by show 2 * 0 + _ ≤ _; exact Nat.le_of_eq rfl) (hb hby d2_58) (fun _ _ => ⟨rfl, e5, (by decide : 1 + 1 ≤ _), (by decide : 6 + 2 ≤ _)⟩)
          dsimp only [Pt.U, Pt.locs, Pt.cells, Pt.slots] at X6 l6 y6 z6 st6 hQ6
          subst l6 y6 z6
          obtain ⟨rfl, N6, K6, M6⟩ := hQ6
          refine Owes.by (fun _ kq => st6.trans kq) ?_
          show Owes p e below s (QVO Z h0 n0) ({ frames := 3, cells := 2, slots := 8, locals := 40 } : Room).cells ({ frames := 3, cells := 2, slots := 8, locals := 40 } : Room).slots T6 (mkF m 61 #[(.val (.long u)), .second] [(.ref b5)])
          refine Owes.ret X6 (v := some (.ref b5)) (fun h => by rw [Bd.returns] at h; cases h) hlk ?_ (by decide) (by decide) (fun fs hr => retOut X6 hx Bd.returns rfl (Or.inr (Or.inr (Or.inr (Or.inr ⟨rfl, rfl, rfl⟩)))) (hb hby d2_61) hr)
          exact ⟨b5, rfl, Fr.app N0 N6, own_ext (((Keep.refl h0 []).ext E5).trans K6 (allS (Or.inr (Nat.le_of_eq g5.symm)) all0)), M6⟩
      · skip
        refine Owes.by (fun _ kq => XS.ifNo X0.here hx rfl (hb hby d2_21) rfl (XT.ll_gt_f q2) kq) ?_
        show Owes p e below s (QVO Z h0 n0) ({ frames := 3, cells := 2, slots := 8, locals := 40 } : Room).cells ({ frames := 3, cells := 2, slots := 8, locals := 40 } : Room).slots s₁ (mkF m 24 #[(.val (.long u)), .second] [])
        obtain ⟨T7, X7, e7, st7⟩ := getS2 X0 hx hZ hown (host := "") (Or.inl (hw _ (List.mem_of_getElem? (i := 104) rfl))) Via.refl e0 S_P (g := (mkF m 24 #[(.val (.long u)), .second] [])) rfl (hb hby d2_24)
        refine Owes.by st7 ?_
        show Owes p e below s (QVO Z h0 n0) ({ frames := 3, cells := 2, slots := 8, locals := 40 } : Room).cells ({ frames := 3, cells := 2, slots := 8, locals := 40 } : Room).slots T7 (mkF m 27 #[(.val (.long u)), .second] [(.ref pa)])
        refine Owes.by (fun _ kq => XT.lloadN X7.here hx rfl (hb hby d2_27) rfl kq) ?_
        show Owes p e below s (QVO Z h0 n0) ({ frames := 3, cells := 2, slots := 8, locals := 40 } : Room).cells ({ frames := 3, cells := 2, slots := 8, locals := 40 } : Room).slots T7 (mkF m 28 #[(.val (.long u)), .second] [(.long u), (.ref pa)])
        refine Owes.by (fun _ kq => XT.l2i X7.here hx rfl (hb hby d2_28) rfl kq) ?_
        show Owes p e below s (QVO Z h0 n0) ({ frames := 3, cells := 2, slots := 8, locals := 40 } : Room).cells ({ frames := 3, cells := 2, slots := 8, locals := 40 } : Room).slots T7 (mkF m 29 #[(.val (.long u)), .second] [(.int (u.toInt32)), (.ref pa)])
        obtain ⟨hj, w, hat, Mw⟩ := H_P (u.toInt32) (own_jp q1 q2).1 (own_jp q1 q2).2
        refine Owes.by (fun tq kq => X7.aaload hx (j := (u.toInt32)) (v := (.ref w)) (by rw [e7]; exact A_P.1) (State.isArrayOf_alike hZ.alike A_P.2.1) rfl A_P.2.2 hj hat (g := (mkF m 29 #[(.val (.long u)), .second] [(.int (u.toInt32)), (.ref pa)])) rfl rfl (hb hby d2_29) tq kq) ?_
        show Owes p e below s (QVO Z h0 n0) ({ frames := 3, cells := 2, slots := 8, locals := 40 } : Room).cells ({ frames := 3, cells := 2, slots := 8, locals := 40 } : Room).slots T7 (mkF m 30 #[(.val (.long u)), .second] [(.ref w)])
        refine Owes.ret X7 (v := some (.ref w)) (fun h => by rw [Bd.returns] at h; cases h) hlk ?_ (by decide) (by decide) (fun fs hr => retOut X7 hx Bd.returns rfl (Or.inr (Or.inr (Or.inr (Or.inr ⟨rfl, rfl, rfl⟩)))) (hb hby d2_30) hr)
        rw [e7]
        exact ⟨w, rfl, N0, ⟨Nat.le_refl _, fun _ _ q => q⟩, Mw⟩
    · skip
      refine Owes.by (fun _ kq => XS.ifYes X0.here hx rfl (pc0 := 13) (pc' := 31) rfl (hb hby d2_13) rfl (XT.ll_le_t q1) (by decide) (by decide) kq) ?_
      show Owes p e below s (QVO Z h0 n0) ({ frames := 3, cells := 2, slots := 8, locals := 40 } : Room).cells ({ frames := 3, cells := 2, slots := 8, locals := 40 } : Room).slots s₁ (mkF m 31 #[(.val (.long u)), .second] [])
      refine Owes.by (fun _ kq => XT.lloadN X0.here hx rfl (hb hby d2_31) rfl kq) ?_
      show Owes p e below s (QVO Z h0 n0) ({ frames := 3, cells := 2, slots := 8, locals := 40 } : Room).cells ({ frames := 3, cells := 2, slots := 8, locals := 40 } : Room).slots s₁ (mkF m 32 #[(.val (.long u)), .second] [(.long u)])
      refine Owes.by (fun _ kq => XT.lconst X0.here hx rfl (hb hby d2_32) kq) ?_
      show Owes p e below s (QVO Z h0 n0) ({ frames := 3, cells := 2, slots := 8, locals := 40 } : Room).cells ({ frames := 3, cells := 2, slots := 8, locals := 40 } : Room).slots s₁ (mkF m 33 #[(.val (.long u)), .second] [(.long (0 : Int64)), (.long u)])
      refine Owes.by (fun _ kq => XT.lcmp X0.here hx rfl (hb hby d2_33) rfl kq) ?_
      show Owes p e below s (QVO Z h0 n0) ({ frames := 3, cells := 2, slots := 8, locals := 40 } : Room).cells ({ frames := 3, cells := 2, slots := 8, locals := 40 } : Room).slots s₁ (mkF m 34 #[(.val (.long u)), .second] [(.int (XT.cmpL u (0 : Int64)))])
      by_cases q3 : u < (0 : Int64)
      · skip
        refine Owes.by (fun _ kq => XS.ifNo X0.here hx rfl (hb hby d2_34) rfl (XT.ll_ge_f q3) kq) ?_
        show Owes p e below s (QVO Z h0 n0) ({ frames := 3, cells := 2, slots := 8, locals := 40 } : Room).cells ({ frames := 3, cells := 2, slots := 8, locals := 40 } : Room).slots s₁ (mkF m 37 #[(.val (.long u)), .second] [])
        refine Owes.by (fun _ kq => XT.lloadN X0.here hx rfl (hb hby d2_37) rfl kq) ?_
        show Owes p e below s (QVO Z h0 n0) ({ frames := 3, cells := 2, slots := 8, locals := 40 } : Room).cells ({ frames := 3, cells := 2, slots := 8, locals := 40 } : Room).slots s₁ (mkF m 38 #[(.val (.long u)), .second] [(.long u)])
        refine Owes.by (fun tq kq => X0.ldc2Long hx hown (mvT hZ (hw _ (List.mem_of_getElem? (i := 13) rfl))) (g := (mkF m 38 #[(.val (.long u)), .second] [(.long u)])) rfl (hb hby d2_38) tq kq) ?_
        show Owes p e below s (QVO Z h0 n0) ({ frames := 3, cells := 2, slots := 8, locals := 40 } : Room).cells ({ frames := 3, cells := 2, slots := 8, locals := 40 } : Room).slots s₁ (mkF m 41 #[(.val (.long u)), .second] [(.long (-16 : Int64)), (.long u)])
        refine Owes.by (fun _ kq => XT.lcmp X0.here hx rfl (hb hby d2_41) rfl kq) ?_
        show Owes p e below s (QVO Z h0 n0) ({ frames := 3, cells := 2, slots := 8, locals := 40 } : Room).cells ({ frames := 3, cells := 2, slots := 8, locals := 40 } : Room).slots s₁ (mkF m 42 #[(.val (.long u)), .second] [(.int (XT.cmpL u (-16 : Int64)))])
        by_cases q4 : u < (-16 : Int64)
        · skip
          refine Owes.by (fun _ kq => XS.ifYes X0.here hx rfl (pc0 := 42) (pc' := 53) rfl (hb hby d2_42) rfl (XT.ll_lt_t q4) (by decide) (by decide) kq) ?_
          show Owes p e below s (QVO Z h0 n0) ({ frames := 3, cells := 2, slots := 8, locals := 40 } : Room).cells ({ frames := 3, cells := 2, slots := 8, locals := 40 } : Room).slots s₁ (mkF m 53 #[(.val (.long u)), .second] [])
          obtain ⟨T8, h8, X8, e8, E8, A8, D8, -, st8⟩ := newO X0 hx hZ hown (hw _ (List.mem_of_getElem? (i := 14) rfl)) (hw _ (List.mem_of_getElem? (i := 15) rfl)) (hw _ (List.mem_of_getElem? (i := 11) rfl)) e0 (g := (mkF m 53 #[(.val (.long u)), .second] [])) rfl (hb hby d2_53) (by decide) (by decide)
          obtain ⟨b8, g8⟩ : ∃ z, z = h0.size := ⟨_, rfl⟩
          rw [← g8] at A8 D8 st8
          refine Owes.by st8 ?_
          show Owes p e below s (QVO Z h0 n0) ({ frames := 3, cells := 2, slots := 8, locals := 40 } : Room).cells ({ frames := 3, cells := 2, slots := 8, locals := 40 } : Room).slots T8 (mkF m 56 #[(.val (.long u)), .second] [(.ref b8)])
          refine Owes.by (fun _ kq => XS.dup X8.here hx rfl (hb hby d2_56) rfl rfl kq) ?_
          show Owes p e below s (QVO Z h0 n0) ({ frames := 3, cells := 2, slots := 8, locals := 40 } : Room).cells ({ frames := 3, cells := 2, slots := 8, locals := 40 } : Room).slots T8 (mkF m 57 #[(.val (.long u)), .second] [(.ref b8), (.ref b8)])
          refine Owes.by (fun _ kq => XT.lloadN X8.here hx rfl (hb hby d2_57) rfl kq) ?_
          show Owes p e below s (QVO Z h0 n0) ({ frames := 3, cells := 2, slots := 8, locals := 40 } : Room).cells ({ frames := 3, cells := 2, slots := 8, locals := 40 } : Room).slots T8 (mkF m 58 #[(.val (.long u)), .second] [(.long u), (.ref b8), (.ref b8)])
          have I8_signum : Fld Z h8 b8 "java/math/BigInteger" "signum" "I" (.int (0 : Int32)) := D8 (Or.inr (hw _ (List.mem_of_getElem? (i := 30) rfl))) (ty := .int) (by decide)
          have I8_mag : Fld Z h8 b8 "java/math/BigInteger" "mag" "[I" .null := D8 (Or.inr (hw _ (List.mem_of_getElem? (i := 32) rfl))) (ty := (.array .int)) (by decide)
          obtain ⟨_, _, ⟨T9, L9, k9, n9⟩, -, X9, ⟨Lc9, hQ9, l9, y9, z9⟩, st9⟩ := X8.specialBack hx (y := (⟨"java/math/BigInteger", "<init>", "(J)V"⟩ : MethodName)) rfl hown (mvT hZ (hw _ (List.mem_of_getElem? (i := 16) rfl))) (mvT hZ (hw _ (List.mem_of_getElem? (i := 17) rfl))) (mvT hZ (hw _ (List.mem_of_getElem? (i := 19) rfl))) (by decide) (backOf (W := 1) (rmBI l Z a0 hw [] b8 u h8 n0 (Nat.le_trans Z0 E8.1) I8_signum I8_mag A8 (Nat.le_trans Z0 (Nat.le_of_eq g8.symm)) A8.lt) hZ (hw _ (List.mem_of_getElem? (i := 19) rfl)) (hw _ (List.mem_of_getElem? (i := 11) rfl)) (by decide) (by decide)) (g := (mkF m 58 #[(.val (.long u)), .second] [(.long u), (.ref b8), (.ref b8)])) rfl (by rw [hml]; rfl) (Steps.refl _) (a := b8) (argsL := [(.long u)]) (rest := [(.ref b8)]) (lenOf pd_J_V rfl) rfl (by show 2 * 0 + _ ≤ _; exact Nat.le_of_eq rfl) (hb hby d2_58) (fun _ _ => ⟨rfl, e8, (by decide : 1 + 1 ≤ _), (by decide : 6 + 2 ≤ _)⟩)
          dsimp only [Pt.U, Pt.locs, Pt.cells, Pt.slots] at X9 l9 y9 z9 st9 hQ9
          subst l9 y9 z9
          obtain ⟨rfl, N9, K9, M9⟩ := hQ9
          refine Owes.by (fun _ kq => st9.trans kq) ?_
          show Owes p e below s (QVO Z h0 n0) ({ frames := 3, cells := 2, slots := 8, locals := 40 } : Room).cells ({ frames := 3, cells := 2, slots := 8, locals := 40 } : Room).slots T9 (mkF m 61 #[(.val (.long u)), .second] [(.ref b8)])
          refine Owes.ret X9 (v := some (.ref b8)) (fun h => by rw [Bd.returns] at h; cases h) hlk ?_ (by decide) (by decide) (fun fs hr => retOut X9 hx Bd.returns rfl (Or.inr (Or.inr (Or.inr (Or.inr ⟨rfl, rfl, rfl⟩)))) (hb hby d2_61) hr)
          exact ⟨b8, rfl, Fr.app N0 N9, own_ext (((Keep.refl h0 []).ext E8).trans K9 (allS (Or.inr (Nat.le_of_eq g8.symm)) all0)), M9⟩
        · skip
          refine Owes.by (fun _ kq => XS.ifNo X0.here hx rfl (hb hby d2_42) rfl (XT.ll_lt_f q4) kq) ?_
          show Owes p e below s (QVO Z h0 n0) ({ frames := 3, cells := 2, slots := 8, locals := 40 } : Room).cells ({ frames := 3, cells := 2, slots := 8, locals := 40 } : Room).slots s₁ (mkF m 45 #[(.val (.long u)), .second] [])
          obtain ⟨T10, X10, e10, st10⟩ := getS2 X0 hx hZ hown (host := "") (Or.inl (hw _ (List.mem_of_getElem? (i := 106) rfl))) Via.refl e0 S_N (g := (mkF m 45 #[(.val (.long u)), .second] [])) rfl (hb hby d2_45)
          refine Owes.by st10 ?_
          show Owes p e below s (QVO Z h0 n0) ({ frames := 3, cells := 2, slots := 8, locals := 40 } : Room).cells ({ frames := 3, cells := 2, slots := 8, locals := 40 } : Room).slots T10 (mkF m 48 #[(.val (.long u)), .second] [(.ref na)])
          refine Owes.by (fun _ kq => XT.lloadN X10.here hx rfl (hb hby d2_48) rfl kq) ?_
          show Owes p e below s (QVO Z h0 n0) ({ frames := 3, cells := 2, slots := 8, locals := 40 } : Room).cells ({ frames := 3, cells := 2, slots := 8, locals := 40 } : Room).slots T10 (mkF m 49 #[(.val (.long u)), .second] [(.long u), (.ref na)])
          refine Owes.by (fun _ kq => XT.lneg X10.here hx rfl (hb hby d2_49) rfl kq) ?_
          show Owes p e below s (QVO Z h0 n0) ({ frames := 3, cells := 2, slots := 8, locals := 40 } : Room).cells ({ frames := 3, cells := 2, slots := 8, locals := 40 } : Room).slots T10 (mkF m 50 #[(.val (.long u)), .second] [(.long ((-u))), (.ref na)])
          refine Owes.by (fun _ kq => XT.l2i X10.here hx rfl (hb hby d2_50) rfl kq) ?_
          show Owes p e below s (QVO Z h0 n0) ({ frames := 3, cells := 2, slots := 8, locals := 40 } : Room).cells ({ frames := 3, cells := 2, slots := 8, locals := 40 } : Room).slots T10 (mkF m 51 #[(.val (.long u)), .second] [(.int (((-u)).toInt32)), (.ref na)])
          obtain ⟨hj, w, hat, Mw⟩ := H_N (((-u)).toInt32) (own_jn q3 q4).1 (own_jn q3 q4).2
          refine Owes.by (fun tq kq => X10.aaload hx (j := (((-u)).toInt32)) (v := (.ref w)) (by rw [e10]; exact A_N.1) (State.isArrayOf_alike hZ.alike A_N.2.1) rfl A_N.2.2 hj hat (g := (mkF m 51 #[(.val (.long u)), .second] [(.int (((-u)).toInt32)), (.ref na)])) rfl rfl (hb hby d2_51) tq kq) ?_
          show Owes p e below s (QVO Z h0 n0) ({ frames := 3, cells := 2, slots := 8, locals := 40 } : Room).cells ({ frames := 3, cells := 2, slots := 8, locals := 40 } : Room).slots T10 (mkF m 52 #[(.val (.long u)), .second] [(.ref w)])
          refine Owes.ret X10 (v := some (.ref w)) (fun h => by rw [Bd.returns] at h; cases h) hlk ?_ (by decide) (by decide) (fun fs hr => retOut X10 hx Bd.returns rfl (Or.inr (Or.inr (Or.inr (Or.inr ⟨rfl, rfl, rfl⟩)))) (hb hby d2_52) hr)
          rw [e10]
          exact ⟨w, rfl, N0, ⟨Nat.le_refl _, fun _ _ q => q⟩, Mw⟩
      · skip
        refine Owes.by (fun _ kq => XS.ifYes X0.here hx rfl (pc0 := 34) (pc' := 53) rfl (hb hby d2_34) rfl (XT.ll_ge_t q3) (by decide) (by decide) kq) ?_
        show Owes p e below s (QVO Z h0 n0) ({ frames := 3, cells := 2, slots := 8, locals := 40 } : Room).cells ({ frames := 3, cells := 2, slots := 8, locals := 40 } : Room).slots s₁ (mkF m 53 #[(.val (.long u)), .second] [])
        obtain ⟨T11, h11, X11, e11, E11, A11, D11, -, st11⟩ := newO X0 hx hZ hown (hw _ (List.mem_of_getElem? (i := 14) rfl)) (hw _ (List.mem_of_getElem? (i := 15) rfl)) (hw _ (List.mem_of_getElem? (i := 11) rfl)) e0 (g := (mkF m 53 #[(.val (.long u)), .second] [])) rfl (hb hby d2_53) (by decide) (by decide)
        obtain ⟨b11, g11⟩ : ∃ z, z = h0.size := ⟨_, rfl⟩
        rw [← g11] at A11 D11 st11
        refine Owes.by st11 ?_
        show Owes p e below s (QVO Z h0 n0) ({ frames := 3, cells := 2, slots := 8, locals := 40 } : Room).cells ({ frames := 3, cells := 2, slots := 8, locals := 40 } : Room).slots T11 (mkF m 56 #[(.val (.long u)), .second] [(.ref b11)])
        refine Owes.by (fun _ kq => XS.dup X11.here hx rfl (hb hby d2_56) rfl rfl kq) ?_
        show Owes p e below s (QVO Z h0 n0) ({ frames := 3, cells := 2, slots := 8, locals := 40 } : Room).cells ({ frames := 3, cells := 2, slots := 8, locals := 40 } : Room).slots T11 (mkF m 57 #[(.val (.long u)), .second] [(.ref b11), (.ref b11)])
        refine Owes.by (fun _ kq => XT.lloadN X11.here hx rfl (hb hby d2_57) rfl kq) ?_
        show Owes p e below s (QVO Z h0 n0) ({ frames := 3, cells := 2, slots := 8, locals := 40 } : Room).cells ({ frames := 3, cells := 2, slots := 8, locals := 40 } : Room).slots T11 (mkF m 58 #[(.val (.long u)), .second] [(.long u), (.ref b11), (.ref b11)])
        have I11_signum : Fld Z h11 b11 "java/math/BigInteger" "signum" "I" (.int (0 : Int32)) := D11 (Or.inr (hw _ (List.mem_of_getElem? (i := 30) rfl))) (ty := .int) (by decide)
        have I11_mag : Fld Z h11 b11 "java/math/BigInteger" "mag" "[I" .null := D11 (Or.inr (hw _ (List.mem_of_getElem? (i := 32) rfl))) (ty := (.array .int)) (by decide)
        obtain ⟨_, _, ⟨T12, L12, k12, n12⟩, -, X12, ⟨Lc12, hQ12, l12, y12, z12⟩, st12⟩ := X11.specialBack hx (y := (⟨"java/math/BigInteger", "<init>", "(J)V"⟩ : MethodName)) rfl hown (mvT hZ (hw _ (List.mem_of_getElem? (i := 16) rfl))) (mvT hZ (hw _ (List.mem_of_getElem? (i := 17) rfl))) (mvT hZ (hw _ (List.mem_of_getElem? (i := 19) rfl))) (by decide) (backOf (W := 1) (rmBI l Z a0 hw [] b11 u h11 n0 (Nat.le_trans Z0 E11.1) I11_signum I11_mag A11 (Nat.le_trans Z0 (Nat.le_of_eq g11.symm)) A11.lt) hZ (hw _ (List.mem_of_getElem? (i := 19) rfl)) (hw _ (List.mem_of_getElem? (i := 11) rfl)) (by decide) (by decide)) (g := (mkF m 58 #[(.val (.long u)), .second] [(.long u), (.ref b11), (.ref b11)])) rfl (by rw [hml]; rfl) (Steps.refl _) (a := b11) (argsL := [(.long u)]) (rest := [(.ref b11)]) (lenOf pd_J_V rfl) rfl (by show 2 * 0 + _ ≤ _; exact Nat.le_of_eq rfl) (hb hby d2_58) (fun _ _ => ⟨rfl, e11, (by decide : 1 + 1 ≤ _), (by decide : 6 + 2 ≤ _)⟩)
        dsimp only [Pt.U, Pt.locs, Pt.cells, Pt.slots] at X12 l12 y12 z12 st12 hQ12
        subst l12 y12 z12
        obtain ⟨rfl, N12, K12, M12⟩ := hQ12
        refine Owes.by (fun _ kq => st12.trans kq) ?_
        show Owes p e below s (QVO Z h0 n0) ({ frames := 3, cells := 2, slots := 8, locals := 40 } : Room).cells ({ frames := 3, cells := 2, slots := 8, locals := 40 } : Room).slots T12 (mkF m 61 #[(.val (.long u)), .second] [(.ref b11)])
        refine Owes.ret X12 (v := some (.ref b11)) (fun h => by rw [Bd.returns] at h; cases h) hlk ?_ (by decide) (by decide) (fun fs hr => retOut X12 hx Bd.returns rfl (Or.inr (Or.inr (Or.inr (Or.inr ⟨rfl, rfl, rfl⟩)))) (hb hby d2_61) hr)
        exact ⟨b11, rfl, Fr.app N0 N12, own_ext (((Keep.refl h0 []).ext E11).trans K12 (allS (Or.inr (Nat.le_of_eq g11.symm)) all0)), M12⟩
theorem ef_rmT (m : MethodId) (x0 : Addr) (x1 : Int32) (x2 : Int32) : entryFrame m #[(.ref x0), (.int x1), (.int x2)] 3 = mkF m 0 #[(.val (.ref x0)), (.val (.int x1)), (.val (.int x2))] [] := by first | (simp [entryFrame, mkF, argsToLocals, Value.category]; done) | rfl
set_option maxRecDepth 65536 in
set_option maxHeartbeats 40000000 in
theorem rmT (l : Launch) (Z : State) (a0 : Array Value) (hw : ∀ d ∈ tables_1, d.before a0 Z = true) (ws : List Jvm.Cond) (a : Addr) (x : Int32) (h0 : Heap) (n0 : Nat) (Z0 : n0 ≤ h0.size) (Fh : Fld Z h0 a "com/example/incant5/incant5/Term" "hash" "I" (.int (0 : Int32))) (Fg : Fld Z h0 a "com/example/incant5/incant5/Term" "ground" "Z" (.int (0 : Int32))) (Fv : Fld Z h0 a "com/example/incant5/incant5/Term$IntegerConstant" "value" "Ljava/math/BigInteger;" .null) (E : Exa Z h0 a "com/example/incant5/incant5/Term$IntegerConstant") (g : n0 ≤ a) :
    MetFree l (⟨"com/example/incant5/incant5/Term", "<init>", "(IZ)V"⟩ : MethodName) (head1 (Jvm.Cond.code (⟨"com/example/incant5/incant5/Term", "<init>", "(IZ)V"⟩ : MethodName) prog_60_method_1_code 3 none :: ws) ({ frames := 1, cells := 0, slots := 0, locals := 12 } : Room)) (fun aa UU => aa = #[(.ref a), (.int x), (.int (1 : Int32))] ∧ Z.Warmed39 UU.vm ∧ UU.heap = h0) (fun _ _ _ _ _ => True) (fun _ UU oo UU' => ∃ vr Lr, oo = .returned vr ∧ (QTI Z a h0 n0) vr UU'.heap Lr ∧ FrameEnd UU oo UU' Lr ({ frames := 1, cells := 0, slots := 0, locals := 12 } : Room).cells ({ frames := 1, cells := 0, slots := 0, locals := 12 } : Room).slots) := by
  refine MetFree.of_bodySF (plainFor_of_name pn_Term) hisR ?_
  intro p e s m args below meth c s₁ Bd hml0 hP hK
  obtain ⟨rfl, hZ, hh⟩ := hP
  have hx := Bd.exec
  have hby := Bd.bytes
  have hml : c.maxLocals = 3 := hml0
  have hown : s.vm.findClass "com/example/incant5/incant5/Term" = some m.cls := findClass_of_methodNamed Bd.named
  have hnm := (name_of_methodNamed Bd.named Bd.method).1
  have hlk := Bd.notSynchronized
  have X0 : Stand p l e ({ frames := 1, cells := 0, slots := 0, locals := 12 } : Room) s m #[(.ref a), (.int x), (.int (1 : Int32))] below meth c s₁ [] 0 0 := Stand.of_body Bd
  have e0 : s₁.heap = h0 := by rw [← hh, Bd.state]; rfl
  have N0 := Fr.nil n0
  show Owes p e below s (QTI Z a h0 n0) ({ frames := 1, cells := 0, slots := 0, locals := 12 } : Room).cells ({ frames := 1, cells := 0, slots := 0, locals := 12 } : Room).slots s₁ (entryFrame m #[(.ref a), (.int x), (.int (1 : Int32))] 3)
  rw [ef_rmT m a x (1 : Int32)]
  show Owes p e below s (QTI Z a h0 n0) ({ frames := 1, cells := 0, slots := 0, locals := 12 } : Room).cells ({ frames := 1, cells := 0, slots := 0, locals := 12 } : Room).slots s₁ (mkF m 0 #[(.val (.ref a)), (.val (.int x)), (.val (.int (1 : Int32)))] [])
  refine Owes.by (fun _ kq => XS.aloadN X0.here hx rfl (hb hby d8_0) rfl rfl kq) ?_
  show Owes p e below s (QTI Z a h0 n0) ({ frames := 1, cells := 0, slots := 0, locals := 12 } : Room).cells ({ frames := 1, cells := 0, slots := 0, locals := 12 } : Room).slots s₁ (mkF m 1 #[(.val (.ref a)), (.val (.int x)), (.val (.int (1 : Int32)))] [(.ref a)])
  obtain ⟨T1, X1, e1, st1⟩ := initO X0 hx hZ hown (hw _ (List.mem_of_getElem? (i := 46) rfl)) (hw _ (List.mem_of_getElem? (i := 27) rfl)) (hw _ (List.mem_of_getElem? (i := 28) rfl)) e0 (g := (mkF m 1 #[(.val (.ref a)), (.val (.int x)), (.val (.int (1 : Int32)))] [(.ref a)])) rfl (by rw [hml]; rfl) rfl (hb hby d8_1) (by decide) (W := 0) (by show 2 * 0 + _ ≤ _; exact Nat.le_of_eq rfl) (by decide)
  refine Owes.by st1 ?_
  show Owes p e below s (QTI Z a h0 n0) ({ frames := 1, cells := 0, slots := 0, locals := 12 } : Room).cells ({ frames := 1, cells := 0, slots := 0, locals := 12 } : Room).slots T1 (mkF m 4 #[(.val (.ref a)), (.val (.int x)), (.val (.int (1 : Int32)))] [])
  refine Owes.by (fun _ kq => XS.aloadN X1.here hx rfl (hb hby d8_4) rfl rfl kq) ?_
  show Owes p e below s (QTI Z a h0 n0) ({ frames := 1, cells := 0, slots := 0, locals := 12 } : Room).cells ({ frames := 1, cells := 0, slots := 0, locals := 12 } : Room).slots T1 (mkF m 5 #[(.val (.ref a)), (.val (.int x)), (.val (.int (1 : Int32)))] [(.ref a)])
  refine Owes.by (fun _ kq => XS.iloadN X1.here hx rfl (hb hby d8_5) rfl kq) ?_
  show Owes p e below s (QTI Z a h0 n0) ({ frames := 1, cells := 0, slots := 0, locals := 12 } : Room).cells ({ frames := 1, cells := 0, slots := 0, locals := 12 } : Room).slots T1 (mkF m 6 #[(.val (.ref a)), (.val (.int x)), (.val (.int (1 : Int32)))] [(.int x), (.ref a)])
  obtain ⟨T2, h2, X2, e2, W2, st2⟩ := putF X1 hx hZ hown (host := "") (Or.inl (hw _ (List.mem_of_getElem? (i := 47) rfl))) Via.refl e1 Fh E (Or.inr ⟨(hw _ (List.mem_of_getElem? (i := 48) rfl)), rfl, hnm⟩) (hw _ (List.mem_of_getElem? (i := 7) rfl)) (ty := .int) (by decide) rfl rfl (g := (mkF m 6 #[(.val (.ref a)), (.val (.int x)), (.val (.int (1 : Int32)))] [(.int x), (.ref a)])) rfl rfl (hb hby d8_6)
  refine Owes.by st2 ?_
  show Owes p e below s (QTI Z a h0 n0) ({ frames := 1, cells := 0, slots := 0, locals := 12 } : Room).cells ({ frames := 1, cells := 0, slots := 0, locals := 12 } : Room).slots T2 (mkF m 9 #[(.val (.ref a)), (.val (.int x)), (.val (.int (1 : Int32)))] [])
  have Fg2 := Fg.other W2 (Or.inr (slot_ne (Or.inr (hw _ (List.mem_of_getElem? (i := 50) rfl))) (Or.inr (hw _ (List.mem_of_getElem? (i := 48) rfl))) (by decide) (t := .boolean) (t' := .int) (by decide) (by decide)))
  have Fv2 := Fv.other W2 (Or.inr (slot_ne (Or.inr (hw _ (List.mem_of_getElem? (i := 52) rfl))) (Or.inr (hw _ (List.mem_of_getElem? (i := 48) rfl))) (by decide) (t := (.object "java/math/BigInteger")) (t' := .int) (by decide) (by decide)))
  have E2 := E.wr W2
  have K2 := (Keep.refl h0 [a]).wr W2 (Or.inl (List.mem_of_getElem? (l := [a]) (i := 0) rfl))
  have N2 := Fr.snoc X2 N0 g
  refine Owes.by (fun _ kq => XS.aloadN X2.here hx rfl (hb hby d8_9) rfl rfl kq) ?_
  show Owes p e below s (QTI Z a h0 n0) ({ frames := 1, cells := 0, slots := 0, locals := 12 } : Room).cells ({ frames := 1, cells := 0, slots := 0, locals := 12 } : Room).slots T2 (mkF m 10 #[(.val (.ref a)), (.val (.int x)), (.val (.int (1 : Int32)))] [(.ref a)])
  refine Owes.by (fun _ kq => XS.iloadN X2.here hx rfl (hb hby d8_10) rfl kq) ?_
  show Owes p e below s (QTI Z a h0 n0) ({ frames := 1, cells := 0, slots := 0, locals := 12 } : Room).cells ({ frames := 1, cells := 0, slots := 0, locals := 12 } : Room).slots T2 (mkF m 11 #[(.val (.ref a)), (.val (.int x)), (.val (.int (1 : Int32)))] [(.int (1 : Int32)), (.ref a)])
  obtain ⟨T3, h3, X3, e3, W3, st3⟩ := putF X2 hx hZ hown (host := "") (Or.inl (hw _ (List.mem_of_getElem? (i := 49) rfl))) Via.refl e2 Fg2 E2 (Or.inr ⟨(hw _ (List.mem_of_getElem? (i := 50) rfl)), rfl, hnm⟩) (hw _ (List.mem_of_getElem? (i := 7) rfl)) (ty := .boolean) (by decide) rfl rfl (g := (mkF m 11 #[(.val (.ref a)), (.val (.int x)), (.val (.int (1 : Int32)))] [(.int (1 : Int32)), (.ref a)])) rfl rfl (hb hby d8_11)
  refine Owes.by st3 ?_
  show Owes p e below s (QTI Z a h0 n0) ({ frames := 1, cells := 0, slots := 0, locals := 12 } : Room).cells ({ frames := 1, cells := 0, slots := 0, locals := 12 } : Room).slots T3 (mkF m 14 #[(.val (.ref a)), (.val (.int x)), (.val (.int (1 : Int32)))] [])
  refine Owes.ret X3 (v := none) (fun _ => rfl) hlk ?_ (by decide) (by decide) (fun fs hr => X3.returnOut hx Bd.returns (hb hby d8_14) hr)
  rw [e3]
  exact ⟨rfl, Fr.snoc X3 N2 g, K2.wr W3 (Or.inl (List.mem_of_getElem? (l := [a]) (i := 0) rfl)), E2.wr W3, Fv2.other W3 (Or.inr (slot_ne (Or.inr (hw _ (List.mem_of_getElem? (i := 52) rfl))) (Or.inr (hw _ (List.mem_of_getElem? (i := 50) rfl))) (by decide) (t := (.object "java/math/BigInteger")) (t' := .boolean) (by decide) (by decide)))⟩
theorem ef_rmIC (m : MethodId) (x0 : Addr) (x1 : Addr) : entryFrame m #[(.ref x0), (.ref x1)] 2 = mkF m 0 #[(.val (.ref x0)), (.val (.ref x1))] [] := by first | (simp [entryFrame, mkF, argsToLocals, Value.category]; done) | rfl
set_option maxRecDepth 65536 in
set_option maxHeartbeats 40000000 in
theorem rmIC (l : Launch) (Z : State) (a0 : Array Value) (hw : ∀ d ∈ tables_1, d.before a0 Z = true) (ws : List Jvm.Cond) (a w : Addr) (h0 : Heap) (n0 : Nat) (Z0 : n0 ≤ h0.size) (Fh : Fld Z h0 a "com/example/incant5/incant5/Term" "hash" "I" (.int (0 : Int32))) (Fg : Fld Z h0 a "com/example/incant5/incant5/Term" "ground" "Z" (.int (0 : Int32))) (Fv : Fld Z h0 a "com/example/incant5/incant5/Term$IntegerConstant" "value" "Ljava/math/BigInteger;" .null) (E : Exa Z h0 a "com/example/incant5/incant5/Term$IntegerConstant") (g : n0 ≤ a) (M : own_MG Z h0 w) :
    MetFree l (⟨"com/example/incant5/incant5/Term$IntegerConstant", "<init>", "(Ljava/math/BigInteger;)V"⟩ : MethodName) (head1 (Jvm.Cond.code (⟨"com/example/incant5/incant5/Term$IntegerConstant", "<init>", "(Ljava/math/BigInteger;)V"⟩ : MethodName) prog_62_method_1_code 2 none :: ws) ({ frames := 2, cells := 0, slots := 0, locals := 26 } : Room)) (fun aa UU => aa = #[(.ref a), (.ref w)] ∧ Z.Warmed39 UU.vm ∧ UU.heap = h0) (fun _ _ _ _ _ => True) (fun _ UU oo UU' => ∃ vr Lr, oo = .returned vr ∧ (QIC Z a h0 n0) vr UU'.heap Lr ∧ FrameEnd UU oo UU' Lr ({ frames := 2, cells := 0, slots := 0, locals := 26 } : Room).cells ({ frames := 2, cells := 0, slots := 0, locals := 26 } : Room).slots) := by
  refine MetFree.of_bodySF (plainFor_of_name pn_Term_IntegerConstant) hisR ?_
  intro p e s m args below meth c s₁ Bd hml0 hP hK
  obtain ⟨rfl, hZ, hh⟩ := hP
  have hx := Bd.exec
  have hby := Bd.bytes
  have hml : c.maxLocals = 2 := hml0
  have hown : s.vm.findClass "com/example/incant5/incant5/Term$IntegerConstant" = some m.cls := findClass_of_methodNamed Bd.named
  have hnm := (name_of_methodNamed Bd.named Bd.method).1
  have hlk := Bd.notSynchronized
  have X0 : Stand p l e ({ frames := 2, cells := 0, slots := 0, locals := 26 } : Room) s m #[(.ref a), (.ref w)] below meth c s₁ [] 0 0 := Stand.of_body Bd
  have e0 : s₁.heap = h0 := by rw [← hh, Bd.state]; rfl
  have N0 := Fr.nil n0
  show Owes p e below s (QIC Z a h0 n0) ({ frames := 2, cells := 0, slots := 0, locals := 26 } : Room).cells ({ frames := 2, cells := 0, slots := 0, locals := 26 } : Room).slots s₁ (entryFrame m #[(.ref a), (.ref w)] 2)
  rw [ef_rmIC m a w]
  show Owes p e below s (QIC Z a h0 n0) ({ frames := 2, cells := 0, slots := 0, locals := 26 } : Room).cells ({ frames := 2, cells := 0, slots := 0, locals := 26 } : Room).slots s₁ (mkF m 0 #[(.val (.ref a)), (.val (.ref w))] [])
  refine Owes.by (fun _ kq => XS.aloadN X0.here hx rfl (hb hby d6_0) rfl rfl kq) ?_
  show Owes p e below s (QIC Z a h0 n0) ({ frames := 2, cells := 0, slots := 0, locals := 26 } : Room).cells ({ frames := 2, cells := 0, slots := 0, locals := 26 } : Room).slots s₁ (mkF m 1 #[(.val (.ref a)), (.val (.ref w))] [(.ref a)])
  refine Owes.by (fun _ kq => XS.aloadN X0.here hx rfl (hb hby d6_1) rfl rfl kq) ?_
  show Owes p e below s (QIC Z a h0 n0) ({ frames := 2, cells := 0, slots := 0, locals := 26 } : Room).cells ({ frames := 2, cells := 0, slots := 0, locals := 26 } : Room).slots s₁ (mkF m 2 #[(.val (.ref a)), (.val (.ref w))] [(.ref w), (.ref a)])
  obtain ⟨cq1, kq1, qa1, qb1, qc1⟩ := isOf hZ e0 M.1
  obtain ⟨_, _, ⟨T1, L1, k1, n1⟩, -, X1, ⟨Lc1, hQ1, l1, y1, z1⟩, st1⟩ := X0.virtualBack hx (y := (⟨"java/math/BigInteger", "hashCode", "()I"⟩ : MethodName)) (z := (⟨"java/math/BigInteger", "hashCode", "()I"⟩ : MethodName)) hown (mvT hZ (hw _ (List.mem_of_getElem? (i := 36) rfl))) (mvT hZ (hw _ (List.mem_of_getElem? (i := 37) rfl))) (notFace_of_selects (args := #[]) (mvT hZ (hw _ (List.mem_of_getElem? (i := 39) rfl)))) (mvT hZ (hw _ (List.mem_of_getElem? (i := 39) rfl))) (mvT hZ (hw _ (List.mem_of_getElem? (i := 38) rfl))) (by decide) (backOf (W := 1) (rmHC l Z a0 hw [] w h0 n0 Z0 M) hZ (hw _ (List.mem_of_getElem? (i := 40) rfl)) (hw _ (List.mem_of_getElem? (i := 11) rfl)) (by decide) (by decide)) qa1 qc1 (g := (mkF m 2 #[(.val (.ref a)), (.val (.ref w))] [(.ref w), (.ref a)])) rfl (by rw [hml]; rfl) (Steps.refl _) (argsL := []) (rest := [(.ref a)]) (lenOf pd_I rfl) rfl (by show 2 * 0 + _ ≤ _; exact Nat.le_of_eq rfl) (hb hby d6_2) (fun _ _ => ⟨rfl, e0, (by decide : 0 + 0 ≤ _), (by decide : 0 + 0 ≤ _)⟩)
  dsimp only [Pt.U, Pt.locs, Pt.cells, Pt.slots] at X1 l1 y1 z1 st1 hQ1
  subst l1 y1 z1
  obtain ⟨r, rfl, rfl, e1⟩ := hQ1
  refine Owes.by (fun _ kq => st1.trans kq) ?_
  show Owes p e below s (QIC Z a h0 n0) ({ frames := 2, cells := 0, slots := 0, locals := 26 } : Room).cells ({ frames := 2, cells := 0, slots := 0, locals := 26 } : Room).slots T1 (mkF m 5 #[(.val (.ref a)), (.val (.ref w))] [(.int r), (.ref a)])
  try rw [List.append_nil] at X1
  refine Owes.by (fun _ kq => XS.iconst X1.here hx rfl (hb hby d6_5) kq) ?_
  show Owes p e below s (QIC Z a h0 n0) ({ frames := 2, cells := 0, slots := 0, locals := 26 } : Room).cells ({ frames := 2, cells := 0, slots := 0, locals := 26 } : Room).slots T1 (mkF m 6 #[(.val (.ref a)), (.val (.ref w))] [(.int (1 : Int32)), (.int r), (.ref a)])
  obtain ⟨_, _, ⟨T2, L2, k2, n2⟩, -, X2, ⟨Lc2, hQ2, l2, y2, z2⟩, st2⟩ := X1.specialBackNest hx (y := (⟨"com/example/incant5/incant5/Term", "<init>", "(IZ)V"⟩ : MethodName)) rfl hown (own_mvNest hZ (hw _ (List.mem_of_getElem? (i := 42) rfl))) (mvT hZ (hw _ (List.mem_of_getElem? (i := 43) rfl))) (mvT hZ (hw _ (List.mem_of_getElem? (i := 45) rfl))) (by decide) (backOf (W := 0) (rmT l Z a0 hw [] a r h0 n0 Z0 Fh Fg Fv E g) hZ (hw _ (List.mem_of_getElem? (i := 45) rfl)) (hw _ (List.mem_of_getElem? (i := 4) rfl)) (by decide) (by decide)) (g := (mkF m 6 #[(.val (.ref a)), (.val (.ref w))] [(.int (1 : Int32)), (.int r), (.ref a)])) rfl (by rw [hml]; rfl) (Steps.refl _) (a := a) (argsL := [(.int r), (.int (1 : Int32))]) (rest := []) (lenOf pd_IZ_V rfl) rfl (by show 2 * 0 + _ ≤ _; exact Nat.le_of_eq rfl) (hb hby d6_6) (fun _ _ => ⟨rfl, e1, (by decide : 0 + 0 ≤ _), (by decide : 0 + 0 ≤ _)⟩)
  dsimp only [Pt.U, Pt.locs, Pt.cells, Pt.slots] at X2 l2 y2 z2 st2 hQ2
  subst l2 y2 z2
  obtain ⟨rfl, N2, K2, E2, F2⟩ := hQ2
  refine Owes.by (fun _ kq => st2.trans kq) ?_
  show Owes p e below s (QIC Z a h0 n0) ({ frames := 2, cells := 0, slots := 0, locals := 26 } : Room).cells ({ frames := 2, cells := 0, slots := 0, locals := 26 } : Room).slots T2 (mkF m 9 #[(.val (.ref a)), (.val (.ref w))] [])
  refine Owes.by (fun _ kq => XS.aloadN X2.here hx rfl (hb hby d6_9) rfl rfl kq) ?_
  show Owes p e below s (QIC Z a h0 n0) ({ frames := 2, cells := 0, slots := 0, locals := 26 } : Room).cells ({ frames := 2, cells := 0, slots := 0, locals := 26 } : Room).slots T2 (mkF m 10 #[(.val (.ref a)), (.val (.ref w))] [(.ref a)])
  refine Owes.by (fun _ kq => XS.aloadN X2.here hx rfl (hb hby d6_10) rfl rfl kq) ?_
  show Owes p e below s (QIC Z a h0 n0) ({ frames := 2, cells := 0, slots := 0, locals := 26 } : Room).cells ({ frames := 2, cells := 0, slots := 0, locals := 26 } : Room).slots T2 (mkF m 11 #[(.val (.ref a)), (.val (.ref w))] [(.ref w), (.ref a)])
  obtain ⟨T3, h3, X3, e3, W3, st3⟩ := putF X2 hx hZ hown (host := "") (Or.inl (hw _ (List.mem_of_getElem? (i := 51) rfl))) Via.refl (rfl : T2.heap = T2.heap) F2 E2 (Or.inr ⟨(hw _ (List.mem_of_getElem? (i := 52) rfl)), rfl, hnm⟩) (hw _ (List.mem_of_getElem? (i := 7) rfl)) (ty := (.object "java/math/BigInteger")) (by decide) rfl rfl (g := (mkF m 11 #[(.val (.ref a)), (.val (.ref w))] [(.ref w), (.ref a)])) rfl rfl (hb hby d6_11)
  refine Owes.by st3 ?_
  show Owes p e below s (QIC Z a h0 n0) ({ frames := 2, cells := 0, slots := 0, locals := 26 } : Room).cells ({ frames := 2, cells := 0, slots := 0, locals := 26 } : Room).slots T3 (mkF m 14 #[(.val (.ref a)), (.val (.ref w))] [])
  refine Owes.ret X3 (v := none) (fun _ => rfl) hlk ?_ (by decide) (by decide) (fun fs hr => X3.returnOut hx Bd.returns (hb hby d6_14) hr)
  rw [e3]
  exact ⟨rfl, Fr.snoc X3 (Fr.app N0 N2) g, K2.wr W3 (Or.inl (List.mem_of_getElem? (l := [a]) (i := 0) rfl)), E2.wr W3⟩
theorem ef_rmIN (m : MethodId) (x0 : Int64) : entryFrame m #[(.long x0)] 2 = mkF m 0 #[(.val (.long x0)), .second] [] := by first | (simp [entryFrame, mkF, argsToLocals, Value.category]; done) | rfl
set_option maxRecDepth 65536 in
set_option maxHeartbeats 40000000 in
theorem rmIN (l : Launch) (Z : State) (a0 : Array Value) (hw : ∀ d ∈ tables_1, d.before a0 Z = true) (ws : List Jvm.Cond) (u : Int64) (wz pa na : Addr) (clp cln : Cell) (h0 : Heap) (n0 : Nat) (Z0 : n0 ≤ h0.size) (S_Z : Sta Z h0 "java/math/BigInteger" "ZERO" "Ljava/math/BigInteger;" (.ref wz)) (M_Z : own_MG Z h0 wz) (S_P : Sta Z h0 "java/math/BigInteger" "posConst" "[Ljava/math/BigInteger;" (.ref pa)) (A_P : Arr Z h0 pa clp (.object "java/math/BigInteger")) (H_P : ∀ j : Int32, 0 < j → ¬ 16 < j → (¬ (j < 0 ∨ clp.slots.size ≤ j.toNatClampNeg) ∧ ∃ w, clp.slots[j.toNatClampNeg]? = some (.ref w) ∧ own_MG Z h0 w)) (S_N : Sta Z h0 "java/math/BigInteger" "negConst" "[Ljava/math/BigInteger;" (.ref na)) (A_N : Arr Z h0 na cln (.object "java/math/BigInteger")) (H_N : ∀ j : Int32, 0 < j → ¬ 16 < j → (¬ (j < 0 ∨ cln.slots.size ≤ j.toNatClampNeg) ∧ ∃ w, cln.slots[j.toNatClampNeg]? = some (.ref w) ∧ own_MG Z h0 w)) :
    MetFree l (⟨"com/example/incant5/incant5/Term", "integer", "(J)Lcom/example/incant5/incant5/Term$IntegerConstant;"⟩ : MethodName) (head1 (Jvm.Cond.code (⟨"com/example/incant5/incant5/Term", "integer", "(J)Lcom/example/incant5/incant5/Term$IntegerConstant;"⟩ : MethodName) prog_60_method_3_code 2 (some (.object "com/example/incant5/incant5/Term$IntegerConstant")) :: ws) ({ frames := 4, cells := 3, slots := 11, locals := 55 } : Room)) (fun aa UU => aa = #[(.long u)] ∧ Z.Warmed39 UU.vm ∧ UU.heap = h0) (fun _ _ _ _ _ => True) (fun _ UU oo UU' => ∃ vr Lr, oo = .returned vr ∧ (QIN Z h0 n0) vr UU'.heap Lr ∧ FrameEnd UU oo UU' Lr ({ frames := 4, cells := 3, slots := 11, locals := 55 } : Room).cells ({ frames := 4, cells := 3, slots := 11, locals := 55 } : Room).slots) := by
  refine MetFree.of_bodySF (plainFor_of_name pn_Term) hisR ?_
  intro p e s m args below meth c s₁ Bd hml0 hP hK
  obtain ⟨rfl, hZ, hh⟩ := hP
  have hx := Bd.exec
  have hby := Bd.bytes
  have hml : c.maxLocals = 2 := hml0
  have hown : s.vm.findClass "com/example/incant5/incant5/Term" = some m.cls := findClass_of_methodNamed Bd.named
  have hnm := (name_of_methodNamed Bd.named Bd.method).1
  have hlk := Bd.notSynchronized
  have X0 : Stand p l e ({ frames := 4, cells := 3, slots := 11, locals := 55 } : Room) s m #[(.long u)] below meth c s₁ [] 0 0 := Stand.of_body Bd
  have e0 : s₁.heap = h0 := by rw [← hh, Bd.state]; rfl
  have N0 := Fr.nil n0
  show Owes p e below s (QIN Z h0 n0) ({ frames := 4, cells := 3, slots := 11, locals := 55 } : Room).cells ({ frames := 4, cells := 3, slots := 11, locals := 55 } : Room).slots s₁ (entryFrame m #[(.long u)] 2)
  rw [ef_rmIN m u]
  show Owes p e below s (QIN Z h0 n0) ({ frames := 4, cells := 3, slots := 11, locals := 55 } : Room).cells ({ frames := 4, cells := 3, slots := 11, locals := 55 } : Room).slots s₁ (mkF m 0 #[(.val (.long u)), .second] [])
  obtain ⟨T1, h1, X1, e1, E1, A1, D1, -, st1⟩ := newO X0 hx hZ hown (hw _ (List.mem_of_getElem? (i := 6) rfl)) (hw _ (List.mem_of_getElem? (i := 7) rfl)) (hw _ (List.mem_of_getElem? (i := 8) rfl)) e0 (g := (mkF m 0 #[(.val (.long u)), .second] [])) rfl (hb hby d1_0) (by decide) (by decide)
  obtain ⟨b1, g1⟩ : ∃ z, z = h0.size := ⟨_, rfl⟩
  rw [← g1] at A1 D1 st1
  refine Owes.by st1 ?_
  show Owes p e below s (QIN Z h0 n0) ({ frames := 4, cells := 3, slots := 11, locals := 55 } : Room).cells ({ frames := 4, cells := 3, slots := 11, locals := 55 } : Room).slots T1 (mkF m 3 #[(.val (.long u)), .second] [(.ref b1)])
  refine Owes.by (fun _ kq => XS.dup X1.here hx rfl (hb hby d1_3) rfl rfl kq) ?_
  show Owes p e below s (QIN Z h0 n0) ({ frames := 4, cells := 3, slots := 11, locals := 55 } : Room).cells ({ frames := 4, cells := 3, slots := 11, locals := 55 } : Room).slots T1 (mkF m 4 #[(.val (.long u)), .second] [(.ref b1), (.ref b1)])
  refine Owes.by (fun _ kq => XT.lloadN X1.here hx rfl (hb hby d1_4) rfl kq) ?_
  show Owes p e below s (QIN Z h0 n0) ({ frames := 4, cells := 3, slots := 11, locals := 55 } : Room).cells ({ frames := 4, cells := 3, slots := 11, locals := 55 } : Room).slots T1 (mkF m 5 #[(.val (.long u)), .second] [(.long u), (.ref b1), (.ref b1)])
  have Fh : Fld Z h1 b1 "com/example/incant5/incant5/Term" "hash" "I" (.int (0 : Int32)) := D1 (Or.inr (hw _ (List.mem_of_getElem? (i := 48) rfl))) (ty := .int) (by decide)
  have Fg : Fld Z h1 b1 "com/example/incant5/incant5/Term" "ground" "Z" (.int (0 : Int32)) := D1 (Or.inr (hw _ (List.mem_of_getElem? (i := 50) rfl))) (ty := .boolean) (by decide)
  have Fv : Fld Z h1 b1 "com/example/incant5/incant5/Term$IntegerConstant" "value" "Ljava/math/BigInteger;" .null := D1 (Or.inr (hw _ (List.mem_of_getElem? (i := 52) rfl))) (ty := (.object "java/math/BigInteger")) (by decide)
  obtain ⟨_, _, ⟨T2, L2, k2, n2⟩, -, X2, ⟨Lc2, hQ2, l2, y2, z2⟩, st2⟩ := Jvm.LawKit.callS X1 hx (y := (⟨"java/math/BigInteger", "valueOf", "(J)Ljava/math/BigInteger;"⟩ : MethodName)) hown (mvT hZ (hw _ (List.mem_of_getElem? (i := 9) rfl))) (mvT hZ (hw _ (List.mem_of_getElem? (i := 10) rfl))) (mvT hZ (hw _ (List.mem_of_getElem? (i := 11) rfl))) (mvT hZ (hw _ (List.mem_of_getElem? (i := 12) rfl))) (by decide) (backOf (W := 2) (rmVO l Z a0 hw [] u wz pa na clp cln h1 n0 (Nat.le_trans Z0 E1.1) (S_Z.ext E1) (M_Z.ext E1) (S_P.ext E1) (A_P.ext E1) (own_hx H_P E1) (S_N.ext E1) (A_N.ext E1) (own_hx H_N E1)) hZ (hw _ (List.mem_of_getElem? (i := 12) rfl)) (hw _ (List.mem_of_getElem? (i := 11) rfl)) (by decide) (by decide)) (g := (mkF m 5 #[(.val (.long u)), .second] [(.long u), (.ref b1), (.ref b1)])) rfl (by rw [hml]; rfl) (argsL := [(.long u)]) (rest := [(.ref b1), (.ref b1)]) (lenOf pd_J_Ljava_math_BigInteger rfl) rfl (by show 2 * 0 + _ ≤ _; exact Nat.le_of_eq rfl) (hb hby d1_5) (fun _ _ => ⟨rfl, e1, (by decide : 1 + 2 ≤ _), (by decide : 3 + 8 ≤ _)⟩)
  dsimp only [Pt.U, Pt.locs, Pt.cells, Pt.slots] at X2 l2 y2 z2 st2 hQ2
  subst l2 y2 z2
  obtain ⟨w, rfl, N2, Y2, M2⟩ := hQ2
  refine Owes.by st2 ?_
  show Owes p e below s (QIN Z h0 n0) ({ frames := 4, cells := 3, slots := 11, locals := 55 } : Room).cells ({ frames := 4, cells := 3, slots := 11, locals := 55 } : Room).slots T2 (mkF m 8 #[(.val (.long u)), .second] [(.ref w), (.ref b1), (.ref b1)])
  obtain ⟨_, _, ⟨T3, L3, k3, n3⟩, -, X3, ⟨Lc3, hQ3, l3, y3, z3⟩, st3⟩ := own_specialRef X2 hx (y := (⟨"com/example/incant5/incant5/Term$IntegerConstant", "<init>", "(Ljava/math/BigInteger;)V"⟩ : MethodName)) rfl hown (own_mvRef hZ (hw _ (List.mem_of_getElem? (i := 34) rfl)) (hw _ (List.mem_of_getElem? (i := 33) rfl))) (mvT hZ (hw _ (List.mem_of_getElem? (i := 34) rfl))) (mvT hZ (hw _ (List.mem_of_getElem? (i := 35) rfl))) (by decide) (backOf (W := 1) (rmIC l Z a0 hw [] b1 w T2.heap n0 (Nat.le_trans (Nat.le_trans Z0 E1.1) Y2.1) (Fh.ext Y2) (Fg.ext Y2) (Fv.ext Y2) (A1.ext Y2) (Nat.le_trans Z0 (Nat.le_of_eq g1.symm)) M2) hZ (hw _ (List.mem_of_getElem? (i := 35) rfl)) (hw _ (List.mem_of_getElem? (i := 8) rfl)) (by decide) (by decide)) (g := (mkF m 8 #[(.val (.long u)), .second] [(.ref w), (.ref b1), (.ref b1)])) rfl (by rw [hml]; rfl) (Steps.refl _) (a := b1) (argsL := [(.ref w)]) (rest := [(.ref b1)]) (lenOf pd_Ljava_math_BigInteger_V rfl) rfl (by show 2 * 0 + _ ≤ _; exact Nat.le_of_eq rfl) (hb hby d1_8) (fun _ _ => ⟨rfl, (rfl : T2.heap = T2.heap), (by decide : 3 + 0 ≤ _), (by decide : 11 + 0 ≤ _)⟩)
  dsimp only [Pt.U, Pt.locs, Pt.cells, Pt.slots] at X3 l3 y3 z3 st3 hQ3
  subst l3 y3 z3
  obtain ⟨rfl, N3, K3, A3⟩ := hQ3
  refine Owes.by (fun _ kq => st3.trans kq) ?_
  show Owes p e below s (QIN Z h0 n0) ({ frames := 4, cells := 3, slots := 11, locals := 55 } : Room).cells ({ frames := 4, cells := 3, slots := 11, locals := 55 } : Room).slots T3 (mkF m 11 #[(.val (.long u)), .second] [(.ref b1)])
  refine Owes.ret X3 (v := some (.ref b1)) (fun h => by rw [Bd.returns] at h; cases h) hlk ?_ (by decide) (by decide) (fun fs hr => retOut X3 hx Bd.returns rfl (Or.inr (Or.inr (Or.inr (Or.inr ⟨rfl, rfl, rfl⟩)))) (hb hby d1_11) hr)
  exact ⟨b1, rfl, Fr.app (Fr.app N0 N2) N3, own_ext ((((Keep.refl h0 []).ext E1).ext Y2).trans K3 (allS (Or.inr (Nat.le_of_eq g1.symm)) all0)), A3⟩
theorem ef_rmBN (m : MethodId) (x0 : Addr) (x1 : Int32) : entryFrame m #[(.ref x0), (.int x1)] 2 = mkF m 0 #[(.val (.ref x0)), (.val (.int x1))] [] := by first | (simp [entryFrame, mkF, argsToLocals, Value.category]; done) | rfl
set_option maxRecDepth 65536 in
set_option maxHeartbeats 40000000 in
theorem rmBN (l : Launch) (Z : State) (a0 : Array Value) (hw : ∀ d ∈ tables_1, d.before a0 Z = true) (ws : List Jvm.Cond) (b : Addr) (h0 : Heap) (n0 : Nat) (Z0 : n0 ≤ h0.size) (E : Exa Z h0 b "com/example/incant5/incant5/Bindings") (Ft : Fld Z h0 b "com/example/incant5/incant5/Bindings" "trail" "[I" .null) (Fv : Fld Z h0 b "com/example/incant5/incant5/Bindings" "values" "[Lcom/example/incant5/incant5/Term;" .null) (Fn : Fld Z h0 b "com/example/incant5/incant5/Bindings" "trailSize" "I" (.int (0 : Int32))) (g : n0 ≤ b) :
    MetFree l (⟨"com/example/incant5/incant5/Bindings", "<init>", "(I)V"⟩ : MethodName) (head1 (Jvm.Cond.code (⟨"com/example/incant5/incant5/Bindings", "<init>", "(I)V"⟩ : MethodName) prog_8_method_1_code 2 none :: ws) ({ frames := 1, cells := 2, slots := 20, locals := 13 } : Room)) (fun aa UU => aa = #[(.ref b), (.int (4 : Int32))] ∧ Z.Warmed39 UU.vm ∧ UU.heap = h0) (fun _ _ _ _ _ => True) (fun _ UU oo UU' => ∃ vr Lr, oo = .returned vr ∧ (QBN Z b h0 n0) vr UU'.heap Lr ∧ FrameEnd UU oo UU' Lr ({ frames := 1, cells := 2, slots := 20, locals := 13 } : Room).cells ({ frames := 1, cells := 2, slots := 20, locals := 13 } : Room).slots) := by
  refine MetFree.of_bodySF (plainFor_of_name pn_Bindings) hisR ?_
  intro p e s m args below meth c s₁ Bd hml0 hP hK
  obtain ⟨rfl, hZ, hh⟩ := hP
  have hx := Bd.exec
  have hby := Bd.bytes
  have hml : c.maxLocals = 2 := hml0
  have hown : s.vm.findClass "com/example/incant5/incant5/Bindings" = some m.cls := findClass_of_methodNamed Bd.named
  have hnm := (name_of_methodNamed Bd.named Bd.method).1
  have hlk := Bd.notSynchronized
  have X0 : Stand p l e ({ frames := 1, cells := 2, slots := 20, locals := 13 } : Room) s m #[(.ref b), (.int (4 : Int32))] below meth c s₁ [] 0 0 := Stand.of_body Bd
  have e0 : s₁.heap = h0 := by rw [← hh, Bd.state]; rfl
  have N0 := Fr.nil n0
  show Owes p e below s (QBN Z b h0 n0) ({ frames := 1, cells := 2, slots := 20, locals := 13 } : Room).cells ({ frames := 1, cells := 2, slots := 20, locals := 13 } : Room).slots s₁ (entryFrame m #[(.ref b), (.int (4 : Int32))] 2)
  rw [ef_rmBN m b (4 : Int32)]
  show Owes p e below s (QBN Z b h0 n0) ({ frames := 1, cells := 2, slots := 20, locals := 13 } : Room).cells ({ frames := 1, cells := 2, slots := 20, locals := 13 } : Room).slots s₁ (mkF m 0 #[(.val (.ref b)), (.val (.int (4 : Int32)))] [])
  refine Owes.by (fun _ kq => XS.aloadN X0.here hx rfl (hb hby d9_0) rfl rfl kq) ?_
  show Owes p e below s (QBN Z b h0 n0) ({ frames := 1, cells := 2, slots := 20, locals := 13 } : Room).cells ({ frames := 1, cells := 2, slots := 20, locals := 13 } : Room).slots s₁ (mkF m 1 #[(.val (.ref b)), (.val (.int (4 : Int32)))] [(.ref b)])
  obtain ⟨T1, X1, e1, st1⟩ := initO X0 hx hZ hown (hw _ (List.mem_of_getElem? (i := 59) rfl)) (hw _ (List.mem_of_getElem? (i := 27) rfl)) (hw _ (List.mem_of_getElem? (i := 28) rfl)) e0 (g := (mkF m 1 #[(.val (.ref b)), (.val (.int (4 : Int32)))] [(.ref b)])) rfl (by rw [hml]; rfl) rfl (hb hby d9_1) (by decide) (W := 0) (by show 2 * 0 + _ ≤ _; exact Nat.le_of_eq rfl) (by decide)
  refine Owes.by st1 ?_
  show Owes p e below s (QBN Z b h0 n0) ({ frames := 1, cells := 2, slots := 20, locals := 13 } : Room).cells ({ frames := 1, cells := 2, slots := 20, locals := 13 } : Room).slots T1 (mkF m 4 #[(.val (.ref b)), (.val (.int (4 : Int32)))] [])
  refine Owes.by (fun _ kq => XS.aloadN X1.here hx rfl (hb hby d9_4) rfl rfl kq) ?_
  show Owes p e below s (QBN Z b h0 n0) ({ frames := 1, cells := 2, slots := 20, locals := 13 } : Room).cells ({ frames := 1, cells := 2, slots := 20, locals := 13 } : Room).slots T1 (mkF m 5 #[(.val (.ref b)), (.val (.int (4 : Int32)))] [(.ref b)])
  refine Owes.by (fun _ kq => XS.bipush X1.here hx rfl (hb hby d9_5) kq) ?_
  show Owes p e below s (QBN Z b h0 n0) ({ frames := 1, cells := 2, slots := 20, locals := 13 } : Room).cells ({ frames := 1, cells := 2, slots := 20, locals := 13 } : Room).slots T1 (mkF m 7 #[(.val (.ref b)), (.val (.int (4 : Int32)))] [(.int (16 : Int32)), (.ref b)])
  obtain ⟨T2, h2, k2, X2, e2, E2, A2, st2⟩ := newP X1 hx hZ (hw _ (List.mem_of_getElem? (i := 0) rfl)) e1 (g := (mkF m 7 #[(.val (.ref b)), (.val (.int (4 : Int32)))] [(.int (16 : Int32)), (.ref b)])) rfl (hb hby d9_7) rfl (by decide) (cap := 16) (by decide) (by decide) (by decide) (by decide)
  obtain ⟨b2, g2⟩ : ∃ z, z = h0.size := ⟨_, rfl⟩
  rw [← g2] at A2 st2
  have V2 : Arv Z h2 b2 k2 .int 16 [(.int (0 : Int32)), (.int (0 : Int32)), (.int (0 : Int32)), (.int (0 : Int32)), (.int (0 : Int32)), (.int (0 : Int32)), (.int (0 : Int32)), (.int (0 : Int32)), (.int (0 : Int32)), (.int (0 : Int32)), (.int (0 : Int32)), (.int (0 : Int32)), (.int (0 : Int32)), (.int (0 : Int32)), (.int (0 : Int32)), (.int (0 : Int32))] (.int (0 : Int32)) := (Arv.new A2 (by decide)).pad (pad_rep [] (.int (0 : Int32)) 16)
  refine Owes.by st2 ?_
  show Owes p e below s (QBN Z b h0 n0) ({ frames := 1, cells := 2, slots := 20, locals := 13 } : Room).cells ({ frames := 1, cells := 2, slots := 20, locals := 13 } : Room).slots T2 (mkF m 9 #[(.val (.ref b)), (.val (.int (4 : Int32)))] [(.ref b2), (.ref b)])
  have gz2 : h0.size ≤ b2 := Nat.le_of_eq g2.symm
  have ne2 : b ≠ b2 := Nat.ne_of_lt (Nat.lt_of_lt_of_le E.lt gz2)
  obtain ⟨T3, h3, X3, e3, W3, st3⟩ := putF X2 hx hZ hown (host := "") (Or.inl (hw _ (List.mem_of_getElem? (i := 60) rfl))) Via.refl e2 (Ft.ext E2) (E.ext E2) (Or.inl (hw _ (List.mem_of_getElem? (i := 61) rfl))) (hw _ (List.mem_of_getElem? (i := 54) rfl)) (ty := (.array .int)) (by decide) rfl rfl (g := (mkF m 9 #[(.val (.ref b)), (.val (.int (4 : Int32)))] [(.ref b2), (.ref b)])) rfl rfl (hb hby d9_9)
  refine Owes.by st3 ?_
  show Owes p e below s (QBN Z b h0 n0) ({ frames := 1, cells := 2, slots := 20, locals := 13 } : Room).cells ({ frames := 1, cells := 2, slots := 20, locals := 13 } : Room).slots T3 (mkF m 12 #[(.val (.ref b)), (.val (.int (4 : Int32)))] [])
  have Ft3 := (Ft.ext E2).same W3
  have Fv3 := (Fv.ext E2).other W3 (Or.inr (slot_ne (Or.inr (hw _ (List.mem_of_getElem? (i := 65) rfl))) (Or.inl (hw _ (List.mem_of_getElem? (i := 61) rfl))) (by decide) (t := (.array (.object "com/example/incant5/incant5/Term"))) (t' := (.array .int)) (by decide) (by decide)))
  have Fn3 := (Fn.ext E2).other W3 (Or.inr (slot_ne (Or.inl (hw _ (List.mem_of_getElem? (i := 72) rfl))) (Or.inl (hw _ (List.mem_of_getElem? (i := 61) rfl))) (by decide) (t := .int) (t' := (.array .int)) (by decide) (by decide)))
  have Eb3 := (E.ext E2).wr W3
  have K3 := ((Keep.refl h0 [b]).ext E2).wr W3 (Or.inl (List.mem_of_getElem? (l := [b]) (i := 0) rfl))
  have N3 := Fr.snoc X3 N0 g
  have V3 := V2.other W3 (Ne.symm ne2)
  refine Owes.by (fun _ kq => XS.aloadN X3.here hx rfl (hb hby d9_12) rfl rfl kq) ?_
  show Owes p e below s (QBN Z b h0 n0) ({ frames := 1, cells := 2, slots := 20, locals := 13 } : Room).cells ({ frames := 1, cells := 2, slots := 20, locals := 13 } : Room).slots T3 (mkF m 13 #[(.val (.ref b)), (.val (.int (4 : Int32)))] [(.ref b)])
  refine Owes.by (fun _ kq => XS.iloadN X3.here hx rfl (hb hby d9_13) rfl kq) ?_
  show Owes p e below s (QBN Z b h0 n0) ({ frames := 1, cells := 2, slots := 20, locals := 13 } : Room).cells ({ frames := 1, cells := 2, slots := 20, locals := 13 } : Room).slots T3 (mkF m 14 #[(.val (.ref b)), (.val (.int (4 : Int32)))] [(.int (4 : Int32)), (.ref b)])
  obtain ⟨T4, h4, k4, X4, e4, E4, A4, O4, st4⟩ := newR X3 hx hZ hown (hw _ (List.mem_of_getElem? (i := 62) rfl)) (hw _ (List.mem_of_getElem? (i := 63) rfl)) e3 (g := (mkF m 14 #[(.val (.ref b)), (.val (.int (4 : Int32)))] [(.int (4 : Int32)), (.ref b)])) rfl (hb hby d9_14) rfl (by decide) (cap := 4) (by decide) (by decide) (by decide) (by decide)
  obtain ⟨b4, g4⟩ : ∃ z, z = h3.size := ⟨_, rfl⟩
  rw [← g4] at A4 st4
  have V4 : Arv Z h4 b4 k4 (.object "com/example/incant5/incant5/Term") 4 [.null, .null, .null, .null] .null := (Arv.new A4 (by decide)).pad (pad_rep [] .null 4)
  refine Owes.by st4 ?_
  show Owes p e below s (QBN Z b h0 n0) ({ frames := 1, cells := 2, slots := 20, locals := 13 } : Room).cells ({ frames := 1, cells := 2, slots := 20, locals := 13 } : Room).slots T4 (mkF m 17 #[(.val (.ref b)), (.val (.int (4 : Int32)))] [(.ref b4), (.ref b)])
  have gy4 : b2 < b4 := Nat.lt_of_lt_of_le V3.lt (Nat.le_of_eq g4.symm)
  have gz4 : h0.size ≤ b4 := Nat.le_trans gz2 (Nat.le_of_lt gy4)
  have ne4 : b ≠ b4 := Nat.ne_of_lt (Nat.lt_of_lt_of_le E.lt gz4)
  obtain ⟨T5, h5, X5, e5, W5, st5⟩ := putF X4 hx hZ hown (host := "") (Or.inl (hw _ (List.mem_of_getElem? (i := 64) rfl))) Via.refl e4 (Fv3.ext E4) (Eb3.ext E4) (Or.inr ⟨(hw _ (List.mem_of_getElem? (i := 65) rfl)), rfl, hnm⟩) (hw _ (List.mem_of_getElem? (i := 54) rfl)) (ty := (.array (.object "com/example/incant5/incant5/Term"))) (by decide) rfl rfl (g := (mkF m 17 #[(.val (.ref b)), (.val (.int (4 : Int32)))] [(.ref b4), (.ref b)])) rfl rfl (hb hby d9_17)
  refine Owes.by st5 ?_
  show Owes p e below s (QBN Z b h0 n0) ({ frames := 1, cells := 2, slots := 20, locals := 13 } : Room).cells ({ frames := 1, cells := 2, slots := 20, locals := 13 } : Room).slots T5 (mkF m 20 #[(.val (.ref b)), (.val (.int (4 : Int32)))] [])
  refine Owes.ret X5 (v := none) (fun _ => rfl) hlk ?_ (by decide) (by decide) (fun fs hr => X5.returnOut hx Bd.returns (hb hby d9_20) hr)
  rw [e5]
  exact ⟨rfl, Fr.snoc X5 N3 g, (K3.ext E4).wr W5 (Or.inl (List.mem_of_getElem? (l := [b]) (i := 0) rfl)), b2, b4, k2, k4, gz2, gz4, (Eb3.ext E4).wr W5, (Ft3.ext E4).other W5 (Or.inr (slot_ne (Or.inl (hw _ (List.mem_of_getElem? (i := 61) rfl))) (Or.inr (hw _ (List.mem_of_getElem? (i := 65) rfl))) (by decide) (t := (.array .int)) (t' := (.array (.object "com/example/incant5/incant5/Term"))) (by decide) (by decide))), (Fv3.ext E4).same W5, (Fn3.ext E4).other W5 (Or.inr (slot_ne (Or.inl (hw _ (List.mem_of_getElem? (i := 72) rfl))) (Or.inr (hw _ (List.mem_of_getElem? (i := 65) rfl))) (by decide) (t := .int) (t' := (.array (.object "com/example/incant5/incant5/Term"))) (by decide) (by decide))), (V3.ext E4).other W5 (Ne.symm ne2), V4.other W5 (Ne.symm ne4), O4, ne2, ne4, Nat.ne_of_lt gy4⟩
theorem ef_rmBd (m : MethodId) (x0 : Addr) (x1 : Int32) (x2 : Addr) : entryFrame m #[(.ref x0), (.int x1), (.ref x2)] 3 = mkF m 0 #[(.val (.ref x0)), (.val (.int x1)), (.val (.ref x2))] [] := by first | (simp [entryFrame, mkF, argsToLocals, Value.category]; done) | rfl
set_option maxRecDepth 65536 in
set_option maxHeartbeats 40000000 in
theorem rmBd (l : Launch) (Z : State) (a0 : Array Value) (hw : ∀ d ∈ tables_1, d.before a0 Z = true) (ws : List Jvm.Cond) (b tr va t : Addr) (kT kV : ClassId) (n n' x : Int32) (i j : Nat) (tv vv : List Value) (h0 : Heap) (n0 : Nat) (Z0 : n0 ≤ h0.size) (B : own_BD Z h0 b tr va kT kV n tv vv) (Et : Exa Z h0 t "com/example/incant5/incant5/Term$IntegerConstant") (hn0 : ¬ n < 0) (hn1 : n < 16) (hi : n.toNatClampNeg = i) (hti : i < tv.length) (hn' : n + 1 = n') (hx0 : ¬ x < 0) (hx1 : x < 4) (hj : x.toNatClampNeg = j) (hvj : j < vv.length) (gb : n0 ≤ b) (gt : n0 ≤ tr) (gv : n0 ≤ va) :
    MetFree l (⟨"com/example/incant5/incant5/Bindings", "bind", "(ILcom/example/incant5/incant5/Term;)V"⟩ : MethodName) (head1 (Jvm.Cond.code (⟨"com/example/incant5/incant5/Bindings", "bind", "(ILcom/example/incant5/incant5/Term;)V"⟩ : MethodName) prog_8_method_3_code 3 none :: ws) ({ frames := 0, cells := 0, slots := 0, locals := 0 } : Room)) (fun aa UU => aa = #[(.ref b), (.int x), (.ref t)] ∧ Z.Warmed39 UU.vm ∧ UU.heap = h0) (fun _ _ _ _ _ => True) (fun _ UU oo UU' => ∃ vr Lr, oo = .returned vr ∧ (QB Z b tr va kT kV n' (tv.set i (.int x)) (vv.set j (.ref t)) h0 n0) vr UU'.heap Lr ∧ FrameEnd UU oo UU' Lr ({ frames := 0, cells := 0, slots := 0, locals := 0 } : Room).cells ({ frames := 0, cells := 0, slots := 0, locals := 0 } : Room).slots) := by
  refine MetFree.of_bodySF (plainFor_of_name pn_Bindings) hisR ?_
  intro p e s m args below meth c s₁ Bd hml0 hP hK
  obtain ⟨rfl, hZ, hh⟩ := hP
  have hx := Bd.exec
  have hby := Bd.bytes
  have hml : c.maxLocals = 3 := hml0
  have hown : s.vm.findClass "com/example/incant5/incant5/Bindings" = some m.cls := findClass_of_methodNamed Bd.named
  have hnm := (name_of_methodNamed Bd.named Bd.method).1
  have hlk := Bd.notSynchronized
  have X0 : Stand p l e ({ frames := 0, cells := 0, slots := 0, locals := 0 } : Room) s m #[(.ref b), (.int x), (.ref t)] below meth c s₁ [] 0 0 := Stand.of_body Bd
  have e0 : s₁.heap = h0 := by rw [← hh, Bd.state]; rfl
  have N0 := Fr.nil n0
  show Owes p e below s (QB Z b tr va kT kV n' (tv.set i (.int x)) (vv.set j (.ref t)) h0 n0) ({ frames := 0, cells := 0, slots := 0, locals := 0 } : Room).cells ({ frames := 0, cells := 0, slots := 0, locals := 0 } : Room).slots s₁ (entryFrame m #[(.ref b), (.int x), (.ref t)] 3)
  rw [ef_rmBd m b x t]
  show Owes p e below s (QB Z b tr va kT kV n' (tv.set i (.int x)) (vv.set j (.ref t)) h0 n0) ({ frames := 0, cells := 0, slots := 0, locals := 0 } : Room).cells ({ frames := 0, cells := 0, slots := 0, locals := 0 } : Room).slots s₁ (mkF m 0 #[(.val (.ref b)), (.val (.int x)), (.val (.ref t))] [])
  obtain ⟨E, Ft, Fv, Fn, Vt, Vv, Ov, nbt, nbv, ntv⟩ := B
  refine Owes.by (fun _ kq => XS.aloadN X0.here hx rfl (hb hby d10_0) rfl rfl kq) ?_
  show Owes p e below s (QB Z b tr va kT kV n' (tv.set i (.int x)) (vv.set j (.ref t)) h0 n0) ({ frames := 0, cells := 0, slots := 0, locals := 0 } : Room).cells ({ frames := 0, cells := 0, slots := 0, locals := 0 } : Room).slots s₁ (mkF m 1 #[(.val (.ref b)), (.val (.int x)), (.val (.ref t))] [(.ref b)])
  obtain ⟨T1, X1, e1, st1⟩ := getF X0 hx hZ hown (host := "") (Or.inl (hw _ (List.mem_of_getElem? (i := 71) rfl))) Via.refl e0 Fn (g := (mkF m 1 #[(.val (.ref b)), (.val (.int x)), (.val (.ref t))] [(.ref b)])) rfl rfl (hb hby d10_1)
  refine Owes.by st1 ?_
  show Owes p e below s (QB Z b tr va kT kV n' (tv.set i (.int x)) (vv.set j (.ref t)) h0 n0) ({ frames := 0, cells := 0, slots := 0, locals := 0 } : Room).cells ({ frames := 0, cells := 0, slots := 0, locals := 0 } : Room).slots T1 (mkF m 4 #[(.val (.ref b)), (.val (.int x)), (.val (.ref t))] [(.int n)])
  refine Owes.by (fun _ kq => XS.aloadN X1.here hx rfl (hb hby d10_4) rfl rfl kq) ?_
  show Owes p e below s (QB Z b tr va kT kV n' (tv.set i (.int x)) (vv.set j (.ref t)) h0 n0) ({ frames := 0, cells := 0, slots := 0, locals := 0 } : Room).cells ({ frames := 0, cells := 0, slots := 0, locals := 0 } : Room).slots T1 (mkF m 5 #[(.val (.ref b)), (.val (.int x)), (.val (.ref t))] [(.ref b), (.int n)])
  obtain ⟨T2, X2, e2, st2⟩ := getF X1 hx hZ hown (host := "") (Or.inl (hw _ (List.mem_of_getElem? (i := 60) rfl))) Via.refl e1 Ft (g := (mkF m 5 #[(.val (.ref b)), (.val (.int x)), (.val (.ref t))] [(.ref b), (.int n)])) rfl rfl (hb hby d10_5)
  refine Owes.by st2 ?_
  show Owes p e below s (QB Z b tr va kT kV n' (tv.set i (.int x)) (vv.set j (.ref t)) h0 n0) ({ frames := 0, cells := 0, slots := 0, locals := 0 } : Room).cells ({ frames := 0, cells := 0, slots := 0, locals := 0 } : Room).slots T2 (mkF m 8 #[(.val (.ref b)), (.val (.int x)), (.val (.ref t))] [(.ref tr), (.int n)])
  have Vt0 := Vt
  obtain ⟨cl0, Ar0, qq0, sz0, nn0, hh0, gg0⟩ := Vt0
  refine Owes.by (fun tq kq => X2.arraylength hx (by rw [e2]; exact Ar0.1) (State.isArrayOf_alike hZ.alike Ar0.2.1) (g := (mkF m 8 #[(.val (.ref b)), (.val (.int x)), (.val (.ref t))] [(.ref tr), (.int n)])) rfl rfl (hb hby d10_8) tq (by rw [(len_of sz0 nn0)]; exact kq)) ?_
  show Owes p e below s (QB Z b tr va kT kV n' (tv.set i (.int x)) (vv.set j (.ref t)) h0 n0) ({ frames := 0, cells := 0, slots := 0, locals := 0 } : Room).cells ({ frames := 0, cells := 0, slots := 0, locals := 0 } : Room).slots T2 (mkF m 9 #[(.val (.ref b)), (.val (.int x)), (.val (.ref t))] [(.int (16 : Int32)), (.int n)])
  have h16 : ¬ n = (16 : Int32) := fun h => absurd (h ▸ hn1 : (16 : Int32) < 16) (by decide)
  refine Owes.by (fun _ kq => XS.icmpYes X2.here hx rfl (pc0 := 9) (pc' := 29) rfl (hb hby d10_9) rfl (XT.ii_ne_t h16) (by decide) (by decide) kq) ?_
  show Owes p e below s (QB Z b tr va kT kV n' (tv.set i (.int x)) (vv.set j (.ref t)) h0 n0) ({ frames := 0, cells := 0, slots := 0, locals := 0 } : Room).cells ({ frames := 0, cells := 0, slots := 0, locals := 0 } : Room).slots T2 (mkF m 29 #[(.val (.ref b)), (.val (.int x)), (.val (.ref t))] [])
  refine Owes.by (fun _ kq => XS.aloadN X2.here hx rfl (hb hby d10_29) rfl rfl kq) ?_
  show Owes p e below s (QB Z b tr va kT kV n' (tv.set i (.int x)) (vv.set j (.ref t)) h0 n0) ({ frames := 0, cells := 0, slots := 0, locals := 0 } : Room).cells ({ frames := 0, cells := 0, slots := 0, locals := 0 } : Room).slots T2 (mkF m 30 #[(.val (.ref b)), (.val (.int x)), (.val (.ref t))] [(.ref b)])
  obtain ⟨T3, X3, e3, st3⟩ := getF X2 hx hZ hown (host := "") (Or.inl (hw _ (List.mem_of_getElem? (i := 60) rfl))) Via.refl e2 Ft (g := (mkF m 30 #[(.val (.ref b)), (.val (.int x)), (.val (.ref t))] [(.ref b)])) rfl rfl (hb hby d10_30)
  refine Owes.by st3 ?_
  show Owes p e below s (QB Z b tr va kT kV n' (tv.set i (.int x)) (vv.set j (.ref t)) h0 n0) ({ frames := 0, cells := 0, slots := 0, locals := 0 } : Room).cells ({ frames := 0, cells := 0, slots := 0, locals := 0 } : Room).slots T3 (mkF m 33 #[(.val (.ref b)), (.val (.int x)), (.val (.ref t))] [(.ref tr)])
  refine Owes.by (fun _ kq => XS.aloadN X3.here hx rfl (hb hby d10_33) rfl rfl kq) ?_
  show Owes p e below s (QB Z b tr va kT kV n' (tv.set i (.int x)) (vv.set j (.ref t)) h0 n0) ({ frames := 0, cells := 0, slots := 0, locals := 0 } : Room).cells ({ frames := 0, cells := 0, slots := 0, locals := 0 } : Room).slots T3 (mkF m 34 #[(.val (.ref b)), (.val (.int x)), (.val (.ref t))] [(.ref b), (.ref tr)])
  refine Owes.by (fun _ kq => XS.dup X3.here hx rfl (hb hby d10_34) rfl rfl kq) ?_
  show Owes p e below s (QB Z b tr va kT kV n' (tv.set i (.int x)) (vv.set j (.ref t)) h0 n0) ({ frames := 0, cells := 0, slots := 0, locals := 0 } : Room).cells ({ frames := 0, cells := 0, slots := 0, locals := 0 } : Room).slots T3 (mkF m 35 #[(.val (.ref b)), (.val (.int x)), (.val (.ref t))] [(.ref b), (.ref b), (.ref tr)])
  obtain ⟨T4, X4, e4, st4⟩ := getF X3 hx hZ hown (host := "") (Or.inl (hw _ (List.mem_of_getElem? (i := 71) rfl))) Via.refl e3 Fn (g := (mkF m 35 #[(.val (.ref b)), (.val (.int x)), (.val (.ref t))] [(.ref b), (.ref b), (.ref tr)])) rfl rfl (hb hby d10_35)
  refine Owes.by st4 ?_
  show Owes p e below s (QB Z b tr va kT kV n' (tv.set i (.int x)) (vv.set j (.ref t)) h0 n0) ({ frames := 0, cells := 0, slots := 0, locals := 0 } : Room).cells ({ frames := 0, cells := 0, slots := 0, locals := 0 } : Room).slots T4 (mkF m 38 #[(.val (.ref b)), (.val (.int x)), (.val (.ref t))] [(.int n), (.ref b), (.ref tr)])
  refine Owes.by (fun _ kq => XT.dupX1 X4.here hx rfl (hb hby d10_38) rfl rfl rfl kq) ?_
  show Owes p e below s (QB Z b tr va kT kV n' (tv.set i (.int x)) (vv.set j (.ref t)) h0 n0) ({ frames := 0, cells := 0, slots := 0, locals := 0 } : Room).cells ({ frames := 0, cells := 0, slots := 0, locals := 0 } : Room).slots T4 (mkF m 39 #[(.val (.ref b)), (.val (.int x)), (.val (.ref t))] [(.int n), (.ref b), (.int n), (.ref tr)])
  refine Owes.by (fun _ kq => XS.iconst X4.here hx rfl (hb hby d10_39) kq) ?_
  show Owes p e below s (QB Z b tr va kT kV n' (tv.set i (.int x)) (vv.set j (.ref t)) h0 n0) ({ frames := 0, cells := 0, slots := 0, locals := 0 } : Room).cells ({ frames := 0, cells := 0, slots := 0, locals := 0 } : Room).slots T4 (mkF m 40 #[(.val (.ref b)), (.val (.int x)), (.val (.ref t))] [(.int (1 : Int32)), (.int n), (.ref b), (.int n), (.ref tr)])
  refine Owes.by (fun _ kq => XS.iadd X4.here hx rfl (hb hby d10_40) rfl kq) ?_
  show Owes p e below s (QB Z b tr va kT kV n' (tv.set i (.int x)) (vv.set j (.ref t)) h0 n0) ({ frames := 0, cells := 0, slots := 0, locals := 0 } : Room).cells ({ frames := 0, cells := 0, slots := 0, locals := 0 } : Room).slots T4 (mkF m 41 #[(.val (.ref b)), (.val (.int x)), (.val (.ref t))] [(.int (n + (1 : Int32))), (.ref b), (.int n), (.ref tr)])
  rw [hn']
  show Owes p e below s (QB Z b tr va kT kV n' (tv.set i (.int x)) (vv.set j (.ref t)) h0 n0) ({ frames := 0, cells := 0, slots := 0, locals := 0 } : Room).cells ({ frames := 0, cells := 0, slots := 0, locals := 0 } : Room).slots T4 (mkF m 41 #[(.val (.ref b)), (.val (.int x)), (.val (.ref t))] [(.int n'), (.ref b), (.int n), (.ref tr)])
  obtain ⟨T5, h5, X5, e5, W5, st5⟩ := putF X4 hx hZ hown (host := "") (Or.inl (hw _ (List.mem_of_getElem? (i := 71) rfl))) Via.refl e4 Fn E (Or.inl (hw _ (List.mem_of_getElem? (i := 72) rfl))) (hw _ (List.mem_of_getElem? (i := 54) rfl)) (ty := .int) (by decide) rfl rfl (g := (mkF m 41 #[(.val (.ref b)), (.val (.int x)), (.val (.ref t))] [(.int n'), (.ref b), (.int n), (.ref tr)])) rfl rfl (hb hby d10_41)
  refine Owes.by st5 ?_
  show Owes p e below s (QB Z b tr va kT kV n' (tv.set i (.int x)) (vv.set j (.ref t)) h0 n0) ({ frames := 0, cells := 0, slots := 0, locals := 0 } : Room).cells ({ frames := 0, cells := 0, slots := 0, locals := 0 } : Room).slots T5 (mkF m 44 #[(.val (.ref b)), (.val (.int x)), (.val (.ref t))] [(.int n), (.ref tr)])
  have Fn1 := Fn.same W5
  have Ft1 := Ft.other W5 (Or.inr (slot_ne (Or.inl (hw _ (List.mem_of_getElem? (i := 61) rfl))) (Or.inl (hw _ (List.mem_of_getElem? (i := 72) rfl))) (by decide) (t := (.array .int)) (t' := .int) (by decide) (by decide)))
  have Fv1 := Fv.other W5 (Or.inr (slot_ne (Or.inr (hw _ (List.mem_of_getElem? (i := 65) rfl))) (Or.inl (hw _ (List.mem_of_getElem? (i := 72) rfl))) (by decide) (t := (.array (.object "com/example/incant5/incant5/Term"))) (t' := .int) (by decide) (by decide)))
  have E1 := E.wr W5
  have Vt1 := Vt.other W5 (Ne.symm nbt)
  have Vv1 := Vv.other W5 (Ne.symm nbv)
  have K1 := (Keep.refl h0 [b, tr, va]).wr W5 (Or.inl (List.mem_of_getElem? (l := [b, tr, va]) (i := 0) rfl))
  have N1 := Fr.snoc X5 N0 gb
  refine Owes.by (fun _ kq => XS.iloadN X5.here hx rfl (hb hby d10_44) rfl kq) ?_
  show Owes p e below s (QB Z b tr va kT kV n' (tv.set i (.int x)) (vv.set j (.ref t)) h0 n0) ({ frames := 0, cells := 0, slots := 0, locals := 0 } : Room).cells ({ frames := 0, cells := 0, slots := 0, locals := 0 } : Room).slots T5 (mkF m 45 #[(.val (.ref b)), (.val (.int x)), (.val (.ref t))] [(.int x), (.int n), (.ref tr)])
  obtain ⟨cl1, Ar1, qq1, sz1, nn1, hh1, gg1⟩ := Vt1
  obtain ⟨T6, h6, X6, e6, W6, st6⟩ := stI X5 hx hZ e5 Ar1 (j := n) (inb_of sz1 ⟨hn0, hn1⟩) (g := (mkF m 45 #[(.val (.ref b)), (.val (.int x)), (.val (.ref t))] [(.int x), (.int n), (.ref tr)])) rfl rfl (hb hby d10_45)
  refine Owes.by st6 ?_
  show Owes p e below s (QB Z b tr va kT kV n' (tv.set i (.int x)) (vv.set j (.ref t)) h0 n0) ({ frames := 0, cells := 0, slots := 0, locals := 0 } : Room).cells ({ frames := 0, cells := 0, slots := 0, locals := 0 } : Room).slots T6 (mkF m 46 #[(.val (.ref b)), (.val (.int x)), (.val (.ref t))] [])
  have Vt2 := Arv.set Ar1 qq1 sz1 nn1 hh1 gg1 rfl W6 i hi hti
  have Vv2 := Vv1.other W6 (Ne.symm ntv)
  have E2 := E1.wr W6
  have Et2 := (Et.wr W5).wr W6
  have Fn2 := Fn1.other W6 (Or.inl nbt)
  have Ft2 := Ft1.other W6 (Or.inl nbt)
  have Fv2 := Fv1.other W6 (Or.inl nbt)
  have K2 := K1.wr W6 (Or.inl (List.mem_of_getElem? (l := [b, tr, va]) (i := 1) rfl))
  have N2 := Fr.snoc X6 N1 gt
  refine Owes.by (fun _ kq => XS.aloadN X6.here hx rfl (hb hby d10_46) rfl rfl kq) ?_
  show Owes p e below s (QB Z b tr va kT kV n' (tv.set i (.int x)) (vv.set j (.ref t)) h0 n0) ({ frames := 0, cells := 0, slots := 0, locals := 0 } : Room).cells ({ frames := 0, cells := 0, slots := 0, locals := 0 } : Room).slots T6 (mkF m 47 #[(.val (.ref b)), (.val (.int x)), (.val (.ref t))] [(.ref b)])
  obtain ⟨T7, X7, e7, st7⟩ := getF X6 hx hZ hown (host := "") (Or.inl (hw _ (List.mem_of_getElem? (i := 64) rfl))) Via.refl e6 Fv2 (g := (mkF m 47 #[(.val (.ref b)), (.val (.int x)), (.val (.ref t))] [(.ref b)])) rfl rfl (hb hby d10_47)
  refine Owes.by st7 ?_
  show Owes p e below s (QB Z b tr va kT kV n' (tv.set i (.int x)) (vv.set j (.ref t)) h0 n0) ({ frames := 0, cells := 0, slots := 0, locals := 0 } : Room).cells ({ frames := 0, cells := 0, slots := 0, locals := 0 } : Room).slots T7 (mkF m 50 #[(.val (.ref b)), (.val (.int x)), (.val (.ref t))] [(.ref va)])
  refine Owes.by (fun _ kq => XS.iloadN X7.here hx rfl (hb hby d10_50) rfl kq) ?_
  show Owes p e below s (QB Z b tr va kT kV n' (tv.set i (.int x)) (vv.set j (.ref t)) h0 n0) ({ frames := 0, cells := 0, slots := 0, locals := 0 } : Room).cells ({ frames := 0, cells := 0, slots := 0, locals := 0 } : Room).slots T7 (mkF m 51 #[(.val (.ref b)), (.val (.int x)), (.val (.ref t))] [(.int x), (.ref va)])
  refine Owes.by (fun _ kq => XS.aloadN X7.here hx rfl (hb hby d10_51) rfl rfl kq) ?_
  show Owes p e below s (QB Z b tr va kT kV n' (tv.set i (.int x)) (vv.set j (.ref t)) h0 n0) ({ frames := 0, cells := 0, slots := 0, locals := 0 } : Room).cells ({ frames := 0, cells := 0, slots := 0, locals := 0 } : Room).slots T7 (mkF m 52 #[(.val (.ref b)), (.val (.int x)), (.val (.ref t))] [(.ref t), (.int x), (.ref va)])
  obtain ⟨cl2, Ar2, qq2, sz2, nn2, hh2, gg2⟩ := Vv2
  obtain ⟨T8, h8, X8, e8, W8, st8⟩ := stR X7 hx hZ e7 Ar2 (j := x) (inb_of sz2 ⟨hx0, hx1⟩) rfl (Sto.ofV Ar2 qq2 Ov (Ins.of_exa Et2 (hw _ (List.mem_of_getElem? (i := 73) rfl)))) (g := (mkF m 52 #[(.val (.ref b)), (.val (.int x)), (.val (.ref t))] [(.ref t), (.int x), (.ref va)])) rfl rfl (hb hby d10_52)
  refine Owes.by st8 ?_
  show Owes p e below s (QB Z b tr va kT kV n' (tv.set i (.int x)) (vv.set j (.ref t)) h0 n0) ({ frames := 0, cells := 0, slots := 0, locals := 0 } : Room).cells ({ frames := 0, cells := 0, slots := 0, locals := 0 } : Room).slots T8 (mkF m 53 #[(.val (.ref b)), (.val (.int x)), (.val (.ref t))] [])
  refine Owes.ret X8 (v := none) (fun _ => rfl) hlk ?_ (by decide) (by decide) (fun fs hr => X8.returnOut hx Bd.returns (hb hby d10_53) hr)
  rw [e8]
  exact ⟨rfl, Fr.snoc X8 N2 gv, K2.wr W8 (Or.inl (List.mem_of_getElem? (l := [b, tr, va]) (i := 2) rfl)), E2.wr W8, Ft2.other W8 (Or.inl nbv), Fv2.other W8 (Or.inl nbv), Fn2.other W8 (Or.inl nbv), Vt2.other W8 ntv, Arv.set Ar2 qq2 sz2 nn2 hh2 gg2 rfl W8 j hj hvj, Ov, nbt, nbv, ntv⟩
theorem ef_rmUn (m : MethodId) (x0 : Addr) (x1 : Int32) : entryFrame m #[(.ref x0), (.int x1)] 2 = mkF m 0 #[(.val (.ref x0)), (.val (.int x1))] [] := by first | (simp [entryFrame, mkF, argsToLocals, Value.category]; done) | rfl
set_option maxRecDepth 65536 in
set_option maxHeartbeats 40000000 in
theorem rmUn (l : Launch) (Z : State) (a0 : Array Value) (hw : ∀ d ∈ tables_1, d.before a0 Z = true) (ws : List Jvm.Cond) (b tr va : Addr) (kT kV : ClassId) (kk i0 : Nat) (tv vv : List Value) (xs : List Nat) (h0 : Heap) (n0 : Nat) (Z0 : n0 ≤ h0.size) (B : own_BD Z h0 b tr va kT kV (Int32.ofNat i0) tv vv) (hi0 : i0 ≤ 4) (hkk : kk ≤ 5) (hvl : vv.length = 4) (hxs : ∀ i, i < i0 → tv.getD i (.int (0 : Int32)) = .int (Int32.ofNat (xs.getD i 0)) ∧ xs.getD i 0 < 4) (gb : n0 ≤ b) (gt : n0 ≤ tr) (gv : n0 ≤ va) :
    MetFree l (⟨"com/example/incant5/incant5/Bindings", "undo", "(I)V"⟩ : MethodName) (head1 (Jvm.Cond.code (⟨"com/example/incant5/incant5/Bindings", "undo", "(I)V"⟩ : MethodName) prog_8_method_5_code 2 none :: ws) ({ frames := 0, cells := 0, slots := 0, locals := 0 } : Room)) (fun aa UU => aa = #[(.ref b), (.int (Int32.ofNat kk))] ∧ Z.Warmed39 UU.vm ∧ UU.heap = h0) (fun _ _ _ _ _ => True) (fun _ UU oo UU' => ∃ vr Lr, oo = .returned vr ∧ (QB Z b tr va kT kV (Int32.ofNat (own_un kk i0)) tv (own_ul xs kk i0 vv) h0 n0) vr UU'.heap Lr ∧ FrameEnd UU oo UU' Lr ({ frames := 0, cells := 0, slots := 0, locals := 0 } : Room).cells ({ frames := 0, cells := 0, slots := 0, locals := 0 } : Room).slots) := by
  refine MetFree.of_bodySF (plainFor_of_name pn_Bindings) hisR ?_
  intro p e s m args below meth c s₁ Bd hml0 hP hK
  obtain ⟨rfl, hZ, hh⟩ := hP
  have hx := Bd.exec
  have hby := Bd.bytes
  have hml : c.maxLocals = 2 := hml0
  have hown : s.vm.findClass "com/example/incant5/incant5/Bindings" = some m.cls := findClass_of_methodNamed Bd.named
  have hnm := (name_of_methodNamed Bd.named Bd.method).1
  have hlk := Bd.notSynchronized
  have X0 : Stand p l e ({ frames := 0, cells := 0, slots := 0, locals := 0 } : Room) s m #[(.ref b), (.int (Int32.ofNat kk))] below meth c s₁ [] 0 0 := Stand.of_body Bd
  have e0 : s₁.heap = h0 := by rw [← hh, Bd.state]; rfl
  have N0 := Fr.nil n0
  show Owes p e below s (QB Z b tr va kT kV (Int32.ofNat (own_un kk i0)) tv (own_ul xs kk i0 vv) h0 n0) ({ frames := 0, cells := 0, slots := 0, locals := 0 } : Room).cells ({ frames := 0, cells := 0, slots := 0, locals := 0 } : Room).slots s₁ (entryFrame m #[(.ref b), (.int (Int32.ofNat kk))] 2)
  rw [ef_rmUn m b (Int32.ofNat kk)]
  show Owes p e below s (QB Z b tr va kT kV (Int32.ofNat (own_un kk i0)) tv (own_ul xs kk i0 vv) h0 n0) ({ frames := 0, cells := 0, slots := 0, locals := 0 } : Room).cells ({ frames := 0, cells := 0, slots := 0, locals := 0 } : Room).slots s₁ (mkF m 0 #[(.val (.ref b)), (.val (.int (Int32.ofNat kk)))] [])
  suffices H : ∀ (i : Nat), i ≤ i0 → ∀ (T : State) (locs : List Loc) (h : Heap) (ww : List Value), Stand p l e ({ frames := 0, cells := 0, slots := 0, locals := 0 } : Room) s m #[(.ref b), (.int (Int32.ofNat kk))] below meth c T locs 0 0 → T.heap = h → Fr n0 locs → Keep h0 h [b, tr, va] → own_BD Z h b tr va kT kV (Int32.ofNat i) tv ww → ww.length = 4 → own_un kk i = own_un kk i0 → own_ul xs kk i ww = own_ul xs kk i0 vv → Owes p e below s (QB Z b tr va kT kV (Int32.ofNat (own_un kk i0)) tv (own_ul xs kk i0 vv) h0 n0) ({ frames := 0, cells := 0, slots := 0, locals := 0 } : Room).cells ({ frames := 0, cells := 0, slots := 0, locals := 0 } : Room).slots T (mkF m 0 #[(.val (.ref b)), (.val (.int (Int32.ofNat kk)))] []) from H i0 (Nat.le_refl _) _ _ _ _ X0 e0 N0 (Keep.refl _ _) B hvl rfl rfl
  intro i
  induction i with
  | zero =>
    intro hi T locs h ww X eh N K B' hl hu hv
    obtain ⟨E, Ft, Fv, Fn, Vt, Vv, Ov, nbt, nbv, ntv⟩ := B'
    show Owes p e below s (QB Z b tr va kT kV (Int32.ofNat (own_un kk i0)) tv (own_ul xs kk i0 vv) h0 n0) ({ frames := 0, cells := 0, slots := 0, locals := 0 } : Room).cells ({ frames := 0, cells := 0, slots := 0, locals := 0 } : Room).slots T (mkF m 0 #[(.val (.ref b)), (.val (.int (Int32.ofNat kk)))] [])
    refine Owes.by (fun _ kq => XS.aloadN X.here hx rfl (hb hby d11_0) rfl rfl kq) ?_
    show Owes p e below s (QB Z b tr va kT kV (Int32.ofNat (own_un kk i0)) tv (own_ul xs kk i0 vv) h0 n0) ({ frames := 0, cells := 0, slots := 0, locals := 0 } : Room).cells ({ frames := 0, cells := 0, slots := 0, locals := 0 } : Room).slots T (mkF m 1 #[(.val (.ref b)), (.val (.int (Int32.ofNat kk)))] [(.ref b)])
    obtain ⟨T1, X1, e1, st1⟩ := getF X hx hZ hown (host := "") (Or.inl (hw _ (List.mem_of_getElem? (i := 71) rfl))) Via.refl eh Fn (g := (mkF m 1 #[(.val (.ref b)), (.val (.int (Int32.ofNat kk)))] [(.ref b)])) rfl rfl (hb hby d11_1)
    refine Owes.by st1 ?_
    show Owes p e below s (QB Z b tr va kT kV (Int32.ofNat (own_un kk i0)) tv (own_ul xs kk i0 vv) h0 n0) ({ frames := 0, cells := 0, slots := 0, locals := 0 } : Room).cells ({ frames := 0, cells := 0, slots := 0, locals := 0 } : Room).slots T1 (mkF m 4 #[(.val (.ref b)), (.val (.int (Int32.ofNat kk)))] [(.int (Int32.ofNat 0))])
    refine Owes.by (fun _ kq => XS.iloadN X1.here hx rfl (hb hby d11_4) rfl kq) ?_
    show Owes p e below s (QB Z b tr va kT kV (Int32.ofNat (own_un kk i0)) tv (own_ul xs kk i0 vv) h0 n0) ({ frames := 0, cells := 0, slots := 0, locals := 0 } : Room).cells ({ frames := 0, cells := 0, slots := 0, locals := 0 } : Room).slots T1 (mkF m 5 #[(.val (.ref b)), (.val (.int (Int32.ofNat kk)))] [(.int (Int32.ofNat kk)), (.int (Int32.ofNat 0))])
    have hq : ¬ (Int32.ofNat kk) < (Int32.ofNat 0) := own_k0 hkk
    refine Owes.by (fun _ kq => XS.icmpYes X1.here hx rfl (pc0 := 5) (pc' := 36) rfl (hb hby d11_5) rfl (XT.ii_le_t hq) (by decide) (by decide) kq) ?_
    show Owes p e below s (QB Z b tr va kT kV (Int32.ofNat (own_un kk i0)) tv (own_ul xs kk i0 vv) h0 n0) ({ frames := 0, cells := 0, slots := 0, locals := 0 } : Room).cells ({ frames := 0, cells := 0, slots := 0, locals := 0 } : Room).slots T1 (mkF m 36 #[(.val (.ref b)), (.val (.int (Int32.ofNat kk)))] [])
    refine Owes.ret X1 (v := none) (fun _ => rfl) hlk ?_ (by decide) (by decide) (fun fs hr => X1.returnOut hx Bd.returns (hb hby d11_36) hr)
    rw [e1]
    exact ⟨rfl, N, K, (by rw [← hu, ← hv]; exact ⟨E, Ft, Fv, Fn, Vt, Vv, Ov, nbt, nbv, ntv⟩)⟩
  | succ i ih =>
    intro hi T locs h ww X eh N K B' hl hu hv
    obtain ⟨E, Ft, Fv, Fn, Vt, Vv, Ov, nbt, nbv, ntv⟩ := B'
    show Owes p e below s (QB Z b tr va kT kV (Int32.ofNat (own_un kk i0)) tv (own_ul xs kk i0 vv) h0 n0) ({ frames := 0, cells := 0, slots := 0, locals := 0 } : Room).cells ({ frames := 0, cells := 0, slots := 0, locals := 0 } : Room).slots T (mkF m 0 #[(.val (.ref b)), (.val (.int (Int32.ofNat kk)))] [])
    refine Owes.by (fun _ kq => XS.aloadN X.here hx rfl (hb hby d11_0) rfl rfl kq) ?_
    show Owes p e below s (QB Z b tr va kT kV (Int32.ofNat (own_un kk i0)) tv (own_ul xs kk i0 vv) h0 n0) ({ frames := 0, cells := 0, slots := 0, locals := 0 } : Room).cells ({ frames := 0, cells := 0, slots := 0, locals := 0 } : Room).slots T (mkF m 1 #[(.val (.ref b)), (.val (.int (Int32.ofNat kk)))] [(.ref b)])
    obtain ⟨T2, X2, e2, st2⟩ := getF X hx hZ hown (host := "") (Or.inl (hw _ (List.mem_of_getElem? (i := 71) rfl))) Via.refl eh Fn (g := (mkF m 1 #[(.val (.ref b)), (.val (.int (Int32.ofNat kk)))] [(.ref b)])) rfl rfl (hb hby d11_1)
    refine Owes.by st2 ?_
    show Owes p e below s (QB Z b tr va kT kV (Int32.ofNat (own_un kk i0)) tv (own_ul xs kk i0 vv) h0 n0) ({ frames := 0, cells := 0, slots := 0, locals := 0 } : Room).cells ({ frames := 0, cells := 0, slots := 0, locals := 0 } : Room).slots T2 (mkF m 4 #[(.val (.ref b)), (.val (.int (Int32.ofNat kk)))] [(.int (Int32.ofNat (i + 1)))])
    refine Owes.by (fun _ kq => XS.iloadN X2.here hx rfl (hb hby d11_4) rfl kq) ?_
    show Owes p e below s (QB Z b tr va kT kV (Int32.ofNat (own_un kk i0)) tv (own_ul xs kk i0 vv) h0 n0) ({ frames := 0, cells := 0, slots := 0, locals := 0 } : Room).cells ({ frames := 0, cells := 0, slots := 0, locals := 0 } : Room).slots T2 (mkF m 5 #[(.val (.ref b)), (.val (.int (Int32.ofNat kk)))] [(.int (Int32.ofNat kk)), (.int (Int32.ofNat (i + 1)))])
    have hi4 : i + 1 ≤ 4 := Nat.le_trans hi hi0
    by_cases q : (Int32.ofNat kk) < (Int32.ofNat (i + 1))
    · skip
      refine Owes.by (fun _ kq => XS.icmpNo X2.here hx rfl (hb hby d11_5) rfl (XT.ii_le_f q) kq) ?_
      show Owes p e below s (QB Z b tr va kT kV (Int32.ofNat (own_un kk i0)) tv (own_ul xs kk i0 vv) h0 n0) ({ frames := 0, cells := 0, slots := 0, locals := 0 } : Room).cells ({ frames := 0, cells := 0, slots := 0, locals := 0 } : Room).slots T2 (mkF m 8 #[(.val (.ref b)), (.val (.int (Int32.ofNat kk)))] [])
      have hq : kk < i + 1 := own_lt' hkk hi4 q
      obtain ⟨hxi, hx4⟩ := hxs i hi
      refine Owes.by (fun _ kq => XS.aloadN X2.here hx rfl (hb hby d11_8) rfl rfl kq) ?_
      show Owes p e below s (QB Z b tr va kT kV (Int32.ofNat (own_un kk i0)) tv (own_ul xs kk i0 vv) h0 n0) ({ frames := 0, cells := 0, slots := 0, locals := 0 } : Room).cells ({ frames := 0, cells := 0, slots := 0, locals := 0 } : Room).slots T2 (mkF m 9 #[(.val (.ref b)), (.val (.int (Int32.ofNat kk)))] [(.ref b)])
      refine Owes.by (fun _ kq => XS.dup X2.here hx rfl (hb hby d11_9) rfl rfl kq) ?_
      show Owes p e below s (QB Z b tr va kT kV (Int32.ofNat (own_un kk i0)) tv (own_ul xs kk i0 vv) h0 n0) ({ frames := 0, cells := 0, slots := 0, locals := 0 } : Room).cells ({ frames := 0, cells := 0, slots := 0, locals := 0 } : Room).slots T2 (mkF m 10 #[(.val (.ref b)), (.val (.int (Int32.ofNat kk)))] [(.ref b), (.ref b)])
      obtain ⟨T3, X3, e3, st3⟩ := getF X2 hx hZ hown (host := "") (Or.inl (hw _ (List.mem_of_getElem? (i := 71) rfl))) Via.refl e2 Fn (g := (mkF m 10 #[(.val (.ref b)), (.val (.int (Int32.ofNat kk)))] [(.ref b), (.ref b)])) rfl rfl (hb hby d11_10)
      refine Owes.by st3 ?_
      show Owes p e below s (QB Z b tr va kT kV (Int32.ofNat (own_un kk i0)) tv (own_ul xs kk i0 vv) h0 n0) ({ frames := 0, cells := 0, slots := 0, locals := 0 } : Room).cells ({ frames := 0, cells := 0, slots := 0, locals := 0 } : Room).slots T3 (mkF m 13 #[(.val (.ref b)), (.val (.int (Int32.ofNat kk)))] [(.int (Int32.ofNat (i + 1))), (.ref b)])
      refine Owes.by (fun _ kq => XS.iconst X3.here hx rfl (hb hby d11_13) kq) ?_
      show Owes p e below s (QB Z b tr va kT kV (Int32.ofNat (own_un kk i0)) tv (own_ul xs kk i0 vv) h0 n0) ({ frames := 0, cells := 0, slots := 0, locals := 0 } : Room).cells ({ frames := 0, cells := 0, slots := 0, locals := 0 } : Room).slots T3 (mkF m 14 #[(.val (.ref b)), (.val (.int (Int32.ofNat kk)))] [(.int (1 : Int32)), (.int (Int32.ofNat (i + 1))), (.ref b)])
      refine Owes.by (fun _ kq => XS.isub X3.here hx rfl (hb hby d11_14) rfl kq) ?_
      show Owes p e below s (QB Z b tr va kT kV (Int32.ofNat (own_un kk i0)) tv (own_ul xs kk i0 vv) h0 n0) ({ frames := 0, cells := 0, slots := 0, locals := 0 } : Room).cells ({ frames := 0, cells := 0, slots := 0, locals := 0 } : Room).slots T3 (mkF m 15 #[(.val (.ref b)), (.val (.int (Int32.ofNat kk)))] [(.int ((Int32.ofNat (i + 1)) - (1 : Int32))), (.ref b)])
      rw [dec_ofNat]
      show Owes p e below s (QB Z b tr va kT kV (Int32.ofNat (own_un kk i0)) tv (own_ul xs kk i0 vv) h0 n0) ({ frames := 0, cells := 0, slots := 0, locals := 0 } : Room).cells ({ frames := 0, cells := 0, slots := 0, locals := 0 } : Room).slots T3 (mkF m 15 #[(.val (.ref b)), (.val (.int (Int32.ofNat kk)))] [(.int (Int32.ofNat i)), (.ref b)])
      obtain ⟨T4, h4, X4, e4, W4, st4⟩ := putF X3 hx hZ hown (host := "") (Or.inl (hw _ (List.mem_of_getElem? (i := 71) rfl))) Via.refl e3 Fn E (Or.inl (hw _ (List.mem_of_getElem? (i := 72) rfl))) (hw _ (List.mem_of_getElem? (i := 54) rfl)) (ty := .int) (by decide) rfl rfl (g := (mkF m 15 #[(.val (.ref b)), (.val (.int (Int32.ofNat kk)))] [(.int (Int32.ofNat i)), (.ref b)])) rfl rfl (hb hby d11_15)
      refine Owes.by st4 ?_
      show Owes p e below s (QB Z b tr va kT kV (Int32.ofNat (own_un kk i0)) tv (own_ul xs kk i0 vv) h0 n0) ({ frames := 0, cells := 0, slots := 0, locals := 0 } : Room).cells ({ frames := 0, cells := 0, slots := 0, locals := 0 } : Room).slots T4 (mkF m 18 #[(.val (.ref b)), (.val (.int (Int32.ofNat kk)))] [])
      have Fn1 := Fn.same W4
      have Ft1 := Ft.other W4 (Or.inr (slot_ne (Or.inl (hw _ (List.mem_of_getElem? (i := 61) rfl))) (Or.inl (hw _ (List.mem_of_getElem? (i := 72) rfl))) (by decide) (t := (.array .int)) (t' := .int) (by decide) (by decide)))
      have Fv1 := Fv.other W4 (Or.inr (slot_ne (Or.inr (hw _ (List.mem_of_getElem? (i := 65) rfl))) (Or.inl (hw _ (List.mem_of_getElem? (i := 72) rfl))) (by decide) (t := (.array (.object "com/example/incant5/incant5/Term"))) (t' := .int) (by decide) (by decide)))
      have E1 := E.wr W4
      have Vt1 := Vt.other W4 (Ne.symm nbt)
      have Vv1 := Vv.other W4 (Ne.symm nbv)
      have K1 := K.wr W4 (Or.inl (List.mem_of_getElem? (l := [b, tr, va]) (i := 0) rfl))
      have N1 := Fr.snoc X4 N gb
      refine Owes.by (fun _ kq => XS.aloadN X4.here hx rfl (hb hby d11_18) rfl rfl kq) ?_
      show Owes p e below s (QB Z b tr va kT kV (Int32.ofNat (own_un kk i0)) tv (own_ul xs kk i0 vv) h0 n0) ({ frames := 0, cells := 0, slots := 0, locals := 0 } : Room).cells ({ frames := 0, cells := 0, slots := 0, locals := 0 } : Room).slots T4 (mkF m 19 #[(.val (.ref b)), (.val (.int (Int32.ofNat kk)))] [(.ref b)])
      obtain ⟨T5, X5, e5, st5⟩ := getF X4 hx hZ hown (host := "") (Or.inl (hw _ (List.mem_of_getElem? (i := 64) rfl))) Via.refl e4 Fv1 (g := (mkF m 19 #[(.val (.ref b)), (.val (.int (Int32.ofNat kk)))] [(.ref b)])) rfl rfl (hb hby d11_19)
      refine Owes.by st5 ?_
      show Owes p e below s (QB Z b tr va kT kV (Int32.ofNat (own_un kk i0)) tv (own_ul xs kk i0 vv) h0 n0) ({ frames := 0, cells := 0, slots := 0, locals := 0 } : Room).cells ({ frames := 0, cells := 0, slots := 0, locals := 0 } : Room).slots T5 (mkF m 22 #[(.val (.ref b)), (.val (.int (Int32.ofNat kk)))] [(.ref va)])
      refine Owes.by (fun _ kq => XS.aloadN X5.here hx rfl (hb hby d11_22) rfl rfl kq) ?_
      show Owes p e below s (QB Z b tr va kT kV (Int32.ofNat (own_un kk i0)) tv (own_ul xs kk i0 vv) h0 n0) ({ frames := 0, cells := 0, slots := 0, locals := 0 } : Room).cells ({ frames := 0, cells := 0, slots := 0, locals := 0 } : Room).slots T5 (mkF m 23 #[(.val (.ref b)), (.val (.int (Int32.ofNat kk)))] [(.ref b), (.ref va)])
      obtain ⟨T6, X6, e6, st6⟩ := getF X5 hx hZ hown (host := "") (Or.inl (hw _ (List.mem_of_getElem? (i := 60) rfl))) Via.refl e5 Ft1 (g := (mkF m 23 #[(.val (.ref b)), (.val (.int (Int32.ofNat kk)))] [(.ref b), (.ref va)])) rfl rfl (hb hby d11_23)
      refine Owes.by st6 ?_
      show Owes p e below s (QB Z b tr va kT kV (Int32.ofNat (own_un kk i0)) tv (own_ul xs kk i0 vv) h0 n0) ({ frames := 0, cells := 0, slots := 0, locals := 0 } : Room).cells ({ frames := 0, cells := 0, slots := 0, locals := 0 } : Room).slots T6 (mkF m 26 #[(.val (.ref b)), (.val (.int (Int32.ofNat kk)))] [(.ref tr), (.ref va)])
      refine Owes.by (fun _ kq => XS.aloadN X6.here hx rfl (hb hby d11_26) rfl rfl kq) ?_
      show Owes p e below s (QB Z b tr va kT kV (Int32.ofNat (own_un kk i0)) tv (own_ul xs kk i0 vv) h0 n0) ({ frames := 0, cells := 0, slots := 0, locals := 0 } : Room).cells ({ frames := 0, cells := 0, slots := 0, locals := 0 } : Room).slots T6 (mkF m 27 #[(.val (.ref b)), (.val (.int (Int32.ofNat kk)))] [(.ref b), (.ref tr), (.ref va)])
      obtain ⟨T7, X7, e7, st7⟩ := getF X6 hx hZ hown (host := "") (Or.inl (hw _ (List.mem_of_getElem? (i := 71) rfl))) Via.refl e6 Fn1 (g := (mkF m 27 #[(.val (.ref b)), (.val (.int (Int32.ofNat kk)))] [(.ref b), (.ref tr), (.ref va)])) rfl rfl (hb hby d11_27)
      refine Owes.by st7 ?_
      show Owes p e below s (QB Z b tr va kT kV (Int32.ofNat (own_un kk i0)) tv (own_ul xs kk i0 vv) h0 n0) ({ frames := 0, cells := 0, slots := 0, locals := 0 } : Room).cells ({ frames := 0, cells := 0, slots := 0, locals := 0 } : Room).slots T7 (mkF m 30 #[(.val (.ref b)), (.val (.int (Int32.ofNat kk)))] [(.int (Int32.ofNat i)), (.ref tr), (.ref va)])
      have Vt1' := Vt1
      obtain ⟨cl1, Ar1, qq1, sz1, nn1, hh1, gg1⟩ := Vt1'
      have hin1 : ¬ (Int32.ofNat i < 0 ∨ cl1.slots.size ≤ (Int32.ofNat i).toNatClampNeg) := inb_of sz1 (own_in16 (by omega))
      have hat1 : cl1.slots[(Int32.ofNat i).toNatClampNeg]? = some (.int (Int32.ofNat (xs.getD i 0))) := hh1.at hin1 (by rw [clamp_of rfl (by omega)]; exact hxi)
      refine Owes.by (fun tq kq => X7.iaload hx (j := (Int32.ofNat i)) (v := (.int (Int32.ofNat (xs.getD i 0)))) (by rw [e7]; exact Ar1.1) (State.isArrayOf_alike hZ.alike Ar1.2.1) Ar1.2.2 hin1 hat1 (g := (mkF m 30 #[(.val (.ref b)), (.val (.int (Int32.ofNat kk)))] [(.int (Int32.ofNat i)), (.ref tr), (.ref va)])) rfl rfl (hb hby d11_30) tq kq) ?_
      show Owes p e below s (QB Z b tr va kT kV (Int32.ofNat (own_un kk i0)) tv (own_ul xs kk i0 vv) h0 n0) ({ frames := 0, cells := 0, slots := 0, locals := 0 } : Room).cells ({ frames := 0, cells := 0, slots := 0, locals := 0 } : Room).slots T7 (mkF m 31 #[(.val (.ref b)), (.val (.int (Int32.ofNat kk)))] [(.int (Int32.ofNat (xs.getD i 0))), (.ref va)])
      refine Owes.by (fun _ kq => XS.aconstNull X7.here hx rfl (hb hby d11_31) kq) ?_
      show Owes p e below s (QB Z b tr va kT kV (Int32.ofNat (own_un kk i0)) tv (own_ul xs kk i0 vv) h0 n0) ({ frames := 0, cells := 0, slots := 0, locals := 0 } : Room).cells ({ frames := 0, cells := 0, slots := 0, locals := 0 } : Room).slots T7 (mkF m 32 #[(.val (.ref b)), (.val (.int (Int32.ofNat kk)))] [.null, (.int (Int32.ofNat (xs.getD i 0))), (.ref va)])
      obtain ⟨cl2, Ar2, qq2, sz2, nn2, hh2, gg2⟩ := Vv1
      obtain ⟨T8, h8, X8, e8, W8, st8⟩ := stR X7 hx hZ e7 Ar2 (j := (Int32.ofNat (xs.getD i 0))) (inb_of sz2 (own_in4 hx4)) rfl (Or.inl rfl) (g := (mkF m 32 #[(.val (.ref b)), (.val (.int (Int32.ofNat kk)))] [.null, (.int (Int32.ofNat (xs.getD i 0))), (.ref va)])) rfl rfl (hb hby d11_32)
      refine Owes.by st8 ?_
      show Owes p e below s (QB Z b tr va kT kV (Int32.ofNat (own_un kk i0)) tv (own_ul xs kk i0 vv) h0 n0) ({ frames := 0, cells := 0, slots := 0, locals := 0 } : Room).cells ({ frames := 0, cells := 0, slots := 0, locals := 0 } : Room).slots T8 (mkF m 33 #[(.val (.ref b)), (.val (.int (Int32.ofNat kk)))] [])
      have Vv2 := Arv.set Ar2 qq2 sz2 nn2 hh2 gg2 rfl W8 (xs.getD i 0) (clamp_of rfl (by omega)) (by omega)
      refine Owes.by (fun _ kq => XS.goto X8.here hx rfl (pc0 := 33) (pc' := 0) rfl (hb hby d11_33) (by decide) (by decide) kq) ?_
      show Owes p e below s (QB Z b tr va kT kV (Int32.ofNat (own_un kk i0)) tv (own_ul xs kk i0 vv) h0 n0) ({ frames := 0, cells := 0, slots := 0, locals := 0 } : Room).cells ({ frames := 0, cells := 0, slots := 0, locals := 0 } : Room).slots T8 (mkF m 0 #[(.val (.ref b)), (.val (.int (Int32.ofNat kk)))] [])
      exact ih (by omega) _ _ _ _ X8 e8 (Fr.snoc X8 N1 gv) (K1.wr W8 (Or.inl (List.mem_of_getElem? (l := [b, tr, va]) (i := 2) rfl))) ⟨E1.wr W8, Ft1.other W8 (Or.inl nbv), Fv1.other W8 (Or.inl nbv), Fn1.other W8 (Or.inl nbv), Vt1.other W8 ntv, Vv2, Ov, nbt, nbv, ntv⟩ (by rw [List.length_set]; exact hl) (by rw [← hu, own_un_yes hq]) (by rw [← hv, own_ul_yes hq])
    · skip
      refine Owes.by (fun _ kq => XS.icmpYes X2.here hx rfl (pc0 := 5) (pc' := 36) rfl (hb hby d11_5) rfl (XT.ii_le_t q) (by decide) (by decide) kq) ?_
      show Owes p e below s (QB Z b tr va kT kV (Int32.ofNat (own_un kk i0)) tv (own_ul xs kk i0 vv) h0 n0) ({ frames := 0, cells := 0, slots := 0, locals := 0 } : Room).cells ({ frames := 0, cells := 0, slots := 0, locals := 0 } : Room).slots T2 (mkF m 36 #[(.val (.ref b)), (.val (.int (Int32.ofNat kk)))] [])
      have hq : ¬ kk < i + 1 := own_nlt hkk hi4 q
      refine Owes.ret X2 (v := none) (fun _ => rfl) hlk ?_ (by decide) (by decide) (fun fs hr => X2.returnOut hx Bd.returns (hb hby d11_36) hr)
      rw [e2]
      exact ⟨rfl, N, K, (by rw [← hu, ← hv, own_un_no hq, own_ul_no hq]; exact ⟨E, Ft, Fv, Fn, Vt, Vv, Ov, nbt, nbv, ntv⟩)⟩
theorem ef_rm0 (m : MethodId) (x0 : Int32) (x1 : Int32) (x2 : Int32) (x3 : Int64) : entryFrame m #[(.int x0), (.int x1), (.int x2), (.long x3)] maxLocals = mkF m 0 #[(.val (.int x0)), (.val (.int x1)), (.val (.int x2)), (.val (.long x3)), .second, .unset, .unset, .unset, .unset, .unset, .unset] [] := by first | (simp [entryFrame, mkF, argsToLocals, Value.category, maxLocals]; done) | rfl
set_option maxRecDepth 65536 in
set_option maxHeartbeats 40000000 in
theorem rm0 (l : Launch) (Z : State) (a0 : Array Value) (hw : ∀ d ∈ tables_1, d.before a0 Z = true) (ws : List Jvm.Cond) (p0 p1 p2 : Int32) (p3 : Int64) (wz pa na : Addr) (clp cln : Cell) (h0 : Heap) (n0 : Nat) (Z0 : n0 ≤ h0.size) (S_Z : Sta Z h0 "java/math/BigInteger" "ZERO" "Ljava/math/BigInteger;" (.ref wz)) (M_Z : own_MG Z h0 wz) (S_P : Sta Z h0 "java/math/BigInteger" "posConst" "[Ljava/math/BigInteger;" (.ref pa)) (A_P : Arr Z h0 pa clp (.object "java/math/BigInteger")) (H_P : ∀ j : Int32, 0 < j → ¬ 16 < j → (¬ (j < 0 ∨ clp.slots.size ≤ j.toNatClampNeg) ∧ ∃ w, clp.slots[j.toNatClampNeg]? = some (.ref w) ∧ own_MG Z h0 w)) (S_N : Sta Z h0 "java/math/BigInteger" "negConst" "[Ljava/math/BigInteger;" (.ref na)) (A_N : Arr Z h0 na cln (.object "java/math/BigInteger")) (H_N : ∀ j : Int32, 0 < j → ¬ 16 < j → (¬ (j < 0 ∨ cln.slots.size ≤ j.toNatClampNeg) ∧ ∃ w, cln.slots[j.toNatClampNeg]? = some (.ref w) ∧ own_MG Z h0 w)) :
    MetFree l x (head1 (Jvm.Cond.code x code maxLocals ret :: ws) room_1) (fun aa UU => aa = #[(.int p0), (.int p1), (.int p2), (.long p3)] ∧ Z.Warmed39 UU.vm ∧ UU.heap = h0) (fun _ _ _ _ _ => True) (fun _ UU oo UU' => ∃ vr Lr, oo = .returned vr ∧ (QL n0) vr UU'.heap Lr ∧ FrameEnd UU oo UU' Lr room_1.cells room_1.slots) := by
  refine MetFree.of_bodySF (plainFor_of_name pn_BindingsUndoPinLaw) hisR ?_
  intro p e s m args below meth c s₁ Bd hml0 hP hK
  obtain ⟨rfl, hZ, hh⟩ := hP
  have hx := Bd.exec
  have hby := Bd.bytes
  have hml : c.maxLocals = 11 := hml0
  have hown : s.vm.findClass "com/example/incant5/incant5/BindingsUndoPinLaw" = some m.cls := findClass_of_methodNamed Bd.named
  have hnm := (name_of_methodNamed Bd.named Bd.method).1
  have hlk := Bd.notSynchronized
  have X0 : Stand p l e room_1 s m #[(.int p0), (.int p1), (.int p2), (.long p3)] below meth c s₁ [] 0 0 := Stand.of_body Bd
  have e0 : s₁.heap = h0 := by rw [← hh, Bd.state]; rfl
  have N0 := Fr.nil n0
  show Owes p e below s (QL n0) room_1.cells room_1.slots s₁ (entryFrame m #[(.int p0), (.int p1), (.int p2), (.long p3)] maxLocals)
  rw [ef_rm0 m p0 p1 p2 p3]
  show Owes p e below s (QL n0) room_1.cells room_1.slots s₁ (mkF m 0 #[(.val (.int p0)), (.val (.int p1)), (.val (.int p2)), (.val (.long p3)), .second, .unset, .unset, .unset, .unset, .unset, .unset] [])
  refine Owes.by (fun _ kq => XS.iconst X0.here hx rfl (hb hby at_0) kq) ?_
  show Owes p e below s (QL n0) room_1.cells room_1.slots s₁ (mkF m 1 #[(.val (.int p0)), (.val (.int p1)), (.val (.int p2)), (.val (.long p3)), .second, .unset, .unset, .unset, .unset, .unset, .unset] [(.int (4 : Int32))])
  obtain ⟨T1, h1, k1, X1, e1, E1, A1, st1⟩ := newP X0 hx hZ (hw _ (List.mem_of_getElem? (i := 0) rfl)) e0 (g := (mkF m 1 #[(.val (.int p0)), (.val (.int p1)), (.val (.int p2)), (.val (.long p3)), .second, .unset, .unset, .unset, .unset, .unset, .unset] [(.int (4 : Int32))])) rfl (hb hby at_1) rfl (by decide) (cap := 4) (by decide) (by decide) (by decide) (by decide)
  obtain ⟨b1, g1⟩ : ∃ z, z = h0.size := ⟨_, rfl⟩
  rw [← g1] at A1 st1
  have V1 : Arv Z h1 b1 k1 .int 4 [(.int (0 : Int32)), (.int (0 : Int32)), (.int (0 : Int32)), (.int (0 : Int32))] (.int (0 : Int32)) := (Arv.new A1 (by decide)).pad (pad_rep [] (.int (0 : Int32)) 4)
  refine Owes.by st1 ?_
  show Owes p e below s (QL n0) room_1.cells room_1.slots T1 (mkF m 3 #[(.val (.int p0)), (.val (.int p1)), (.val (.int p2)), (.val (.long p3)), .second, .unset, .unset, .unset, .unset, .unset, .unset] [(.ref b1)])
  have C0 : Ext h0 h1 := E1
  have gsl : h0.size ≤ b1 := Nat.le_of_eq g1.symm
  have gsn : n0 ≤ b1 := Nat.le_trans Z0 gsl
  refine Owes.by (fun _ kq => XS.astore X1.here hx rfl (hb hby at_3) rfl rfl (l' := #[(.val (.int p0)), (.val (.int p1)), (.val (.int p2)), (.val (.long p3)), .second, (.val (.ref b1)), .unset, .unset, .unset, .unset, .unset]) rfl kq) ?_
  show Owes p e below s (QL n0) room_1.cells room_1.slots T1 (mkF m 5 #[(.val (.int p0)), (.val (.int p1)), (.val (.int p2)), (.val (.long p3)), .second, (.val (.ref b1)), .unset, .unset, .unset, .unset, .unset] [])
  refine Owes.by (fun _ kq => XS.aload X1.here hx rfl (hb hby at_5) rfl rfl kq) ?_
  show Owes p e below s (QL n0) room_1.cells room_1.slots T1 (mkF m 7 #[(.val (.int p0)), (.val (.int p1)), (.val (.int p2)), (.val (.long p3)), .second, (.val (.ref b1)), .unset, .unset, .unset, .unset, .unset] [(.ref b1)])
  refine Owes.by (fun _ kq => XS.iconst X1.here hx rfl (hb hby at_7) kq) ?_
  show Owes p e below s (QL n0) room_1.cells room_1.slots T1 (mkF m 8 #[(.val (.int p0)), (.val (.int p1)), (.val (.int p2)), (.val (.long p3)), .second, (.val (.ref b1)), .unset, .unset, .unset, .unset, .unset] [(.int (0 : Int32)), (.ref b1)])
  refine Owes.by (fun _ kq => XS.iloadN X1.here hx rfl (hb hby at_8) rfl kq) ?_
  show Owes p e below s (QL n0) room_1.cells room_1.slots T1 (mkF m 9 #[(.val (.int p0)), (.val (.int p1)), (.val (.int p2)), (.val (.long p3)), .second, (.val (.ref b1)), .unset, .unset, .unset, .unset, .unset] [(.int p0), (.int (0 : Int32)), (.ref b1)])
  refine Owes.by (fun _ kq => XS.iconst X1.here hx rfl (hb hby at_9) kq) ?_
  show Owes p e below s (QL n0) room_1.cells room_1.slots T1 (mkF m 10 #[(.val (.int p0)), (.val (.int p1)), (.val (.int p2)), (.val (.long p3)), .second, (.val (.ref b1)), .unset, .unset, .unset, .unset, .unset] [(.int (3 : Int32)), (.int p0), (.int (0 : Int32)), (.ref b1)])
  refine Owes.by (fun _ kq => XS.iand X1.here hx rfl (hb hby at_10) rfl kq) ?_
  show Owes p e below s (QL n0) room_1.cells room_1.slots T1 (mkF m 11 #[(.val (.int p0)), (.val (.int p1)), (.val (.int p2)), (.val (.long p3)), .second, (.val (.ref b1)), .unset, .unset, .unset, .unset, .unset] [(.int (p0 &&& (3 : Int32))), (.int (0 : Int32)), (.ref b1)])
  have h_x0 : ∃ a : Nat, a < 4 ∧ ((p0 &&& (3 : Int32))) = Int32.ofNat a := own_and3 _
  generalize (p0 &&& (3 : Int32)) = x0 at h_x0 ⊢
  show Owes p e below s (QL n0) room_1.cells room_1.slots T1 (mkF m 11 #[(.val (.int p0)), (.val (.int p1)), (.val (.int p2)), (.val (.long p3)), .second, (.val (.ref b1)), .unset, .unset, .unset, .unset, .unset] [(.int x0), (.int (0 : Int32)), (.ref b1)])
  obtain ⟨u0, hu0, rfl⟩ := h_x0
  show Owes p e below s (QL n0) room_1.cells room_1.slots T1 (mkF m 11 #[(.val (.int p0)), (.val (.int p1)), (.val (.int p2)), (.val (.long p3)), .second, (.val (.ref b1)), .unset, .unset, .unset, .unset, .unset] [(.int (Int32.ofNat u0)), (.int (0 : Int32)), (.ref b1)])
  obtain ⟨cl2, Ar2, qq2, sz2, nn2, hh2, gg2⟩ := V1
  have hin2 : ¬ ((0 : Int32) < 0 ∨ cl2.slots.size ≤ ((0 : Int32)).toNatClampNeg) := inb_of sz2 ⟨by decide, by decide⟩
  obtain ⟨T2, h2, X2, e2, W2, st2⟩ := stI X1 hx hZ e1 Ar2 (j := (0 : Int32)) hin2 (g := (mkF m 11 #[(.val (.int p0)), (.val (.int p1)), (.val (.int p2)), (.val (.long p3)), .second, (.val (.ref b1)), .unset, .unset, .unset, .unset, .unset] [(.int (Int32.ofNat u0)), (.int (0 : Int32)), (.ref b1)])) rfl rfl (hb hby at_11)
  have V2 : Arv Z h2 b1 k1 .int 4 [(.int (Int32.ofNat u0)), (.int (0 : Int32)), (.int (0 : Int32)), (.int (0 : Int32))] (.int (0 : Int32)) := Arv.set Ar2 qq2 sz2 nn2 hh2 gg2 rfl W2 0 rfl (Nat.le_of_ble_eq_true rfl)
  refine Owes.by st2 ?_
  show Owes p e below s (QL n0) room_1.cells room_1.slots T2 (mkF m 12 #[(.val (.int p0)), (.val (.int p1)), (.val (.int p2)), (.val (.long p3)), .second, (.val (.ref b1)), .unset, .unset, .unset, .unset, .unset] [])
  have C2 : Ext h0 h2 := own_extWr C0 W2 gsl
  have N2 := Fr.snoc X2 N0 gsn
  refine Owes.by (fun _ kq => XS.aload X2.here hx rfl (hb hby at_12) rfl rfl kq) ?_
  show Owes p e below s (QL n0) room_1.cells room_1.slots T2 (mkF m 14 #[(.val (.int p0)), (.val (.int p1)), (.val (.int p2)), (.val (.long p3)), .second, (.val (.ref b1)), .unset, .unset, .unset, .unset, .unset] [(.ref b1)])
  refine Owes.by (fun _ kq => XS.iconst X2.here hx rfl (hb hby at_14) kq) ?_
  show Owes p e below s (QL n0) room_1.cells room_1.slots T2 (mkF m 15 #[(.val (.int p0)), (.val (.int p1)), (.val (.int p2)), (.val (.long p3)), .second, (.val (.ref b1)), .unset, .unset, .unset, .unset, .unset] [(.int (1 : Int32)), (.ref b1)])
  refine Owes.by (fun _ kq => XS.iloadN X2.here hx rfl (hb hby at_15) rfl kq) ?_
  show Owes p e below s (QL n0) room_1.cells room_1.slots T2 (mkF m 16 #[(.val (.int p0)), (.val (.int p1)), (.val (.int p2)), (.val (.long p3)), .second, (.val (.ref b1)), .unset, .unset, .unset, .unset, .unset] [(.int p0), (.int (1 : Int32)), (.ref b1)])
  refine Owes.by (fun _ kq => XS.iconst X2.here hx rfl (hb hby at_16) kq) ?_
  show Owes p e below s (QL n0) room_1.cells room_1.slots T2 (mkF m 17 #[(.val (.int p0)), (.val (.int p1)), (.val (.int p2)), (.val (.long p3)), .second, (.val (.ref b1)), .unset, .unset, .unset, .unset, .unset] [(.int (2 : Int32)), (.int p0), (.int (1 : Int32)), (.ref b1)])
  refine Owes.by (fun _ kq => XT.iushr X2.here hx rfl (hb hby at_17) rfl kq) ?_
  show Owes p e below s (QL n0) room_1.cells room_1.slots T2 (mkF m 18 #[(.val (.int p0)), (.val (.int p1)), (.val (.int p2)), (.val (.long p3)), .second, (.val (.ref b1)), .unset, .unset, .unset, .unset, .unset] [(.int (XT.ushr p0 (2 : Int32))), (.int (1 : Int32)), (.ref b1)])
  refine Owes.by (fun _ kq => XS.iconst X2.here hx rfl (hb hby at_18) kq) ?_
  show Owes p e below s (QL n0) room_1.cells room_1.slots T2 (mkF m 19 #[(.val (.int p0)), (.val (.int p1)), (.val (.int p2)), (.val (.long p3)), .second, (.val (.ref b1)), .unset, .unset, .unset, .unset, .unset] [(.int (3 : Int32)), (.int (XT.ushr p0 (2 : Int32))), (.int (1 : Int32)), (.ref b1)])
  refine Owes.by (fun _ kq => XS.iand X2.here hx rfl (hb hby at_19) rfl kq) ?_
  show Owes p e below s (QL n0) room_1.cells room_1.slots T2 (mkF m 20 #[(.val (.int p0)), (.val (.int p1)), (.val (.int p2)), (.val (.long p3)), .second, (.val (.ref b1)), .unset, .unset, .unset, .unset, .unset] [(.int ((XT.ushr p0 (2 : Int32)) &&& (3 : Int32))), (.int (1 : Int32)), (.ref b1)])
  have h_x1 : ∃ a : Nat, a < 4 ∧ (((XT.ushr p0 (2 : Int32)) &&& (3 : Int32))) = Int32.ofNat a := own_and3 _
  generalize ((XT.ushr p0 (2 : Int32)) &&& (3 : Int32)) = x1 at h_x1 ⊢
  show Owes p e below s (QL n0) room_1.cells room_1.slots T2 (mkF m 20 #[(.val (.int p0)), (.val (.int p1)), (.val (.int p2)), (.val (.long p3)), .second, (.val (.ref b1)), .unset, .unset, .unset, .unset, .unset] [(.int x1), (.int (1 : Int32)), (.ref b1)])
  obtain ⟨u1, hu1, rfl⟩ := h_x1
  show Owes p e below s (QL n0) room_1.cells room_1.slots T2 (mkF m 20 #[(.val (.int p0)), (.val (.int p1)), (.val (.int p2)), (.val (.long p3)), .second, (.val (.ref b1)), .unset, .unset, .unset, .unset, .unset] [(.int (Int32.ofNat u1)), (.int (1 : Int32)), (.ref b1)])
  obtain ⟨cl3, Ar3, qq3, sz3, nn3, hh3, gg3⟩ := V2
  have hin3 : ¬ ((1 : Int32) < 0 ∨ cl3.slots.size ≤ ((1 : Int32)).toNatClampNeg) := inb_of sz3 ⟨by decide, by decide⟩
  obtain ⟨T3, h3, X3, e3, W3, st3⟩ := stI X2 hx hZ e2 Ar3 (j := (1 : Int32)) hin3 (g := (mkF m 20 #[(.val (.int p0)), (.val (.int p1)), (.val (.int p2)), (.val (.long p3)), .second, (.val (.ref b1)), .unset, .unset, .unset, .unset, .unset] [(.int (Int32.ofNat u1)), (.int (1 : Int32)), (.ref b1)])) rfl rfl (hb hby at_20)
  have V3 : Arv Z h3 b1 k1 .int 4 [(.int (Int32.ofNat u0)), (.int (Int32.ofNat u1)), (.int (0 : Int32)), (.int (0 : Int32))] (.int (0 : Int32)) := Arv.set Ar3 qq3 sz3 nn3 hh3 gg3 rfl W3 1 rfl (Nat.le_of_ble_eq_true rfl)
  refine Owes.by st3 ?_
  show Owes p e below s (QL n0) room_1.cells room_1.slots T3 (mkF m 21 #[(.val (.int p0)), (.val (.int p1)), (.val (.int p2)), (.val (.long p3)), .second, (.val (.ref b1)), .unset, .unset, .unset, .unset, .unset] [])
  have C3 : Ext h0 h3 := own_extWr C2 W3 gsl
  have N3 := Fr.snoc X3 N2 gsn
  refine Owes.by (fun _ kq => XS.aload X3.here hx rfl (hb hby at_21) rfl rfl kq) ?_
  show Owes p e below s (QL n0) room_1.cells room_1.slots T3 (mkF m 23 #[(.val (.int p0)), (.val (.int p1)), (.val (.int p2)), (.val (.long p3)), .second, (.val (.ref b1)), .unset, .unset, .unset, .unset, .unset] [(.ref b1)])
  refine Owes.by (fun _ kq => XS.iconst X3.here hx rfl (hb hby at_23) kq) ?_
  show Owes p e below s (QL n0) room_1.cells room_1.slots T3 (mkF m 24 #[(.val (.int p0)), (.val (.int p1)), (.val (.int p2)), (.val (.long p3)), .second, (.val (.ref b1)), .unset, .unset, .unset, .unset, .unset] [(.int (2 : Int32)), (.ref b1)])
  refine Owes.by (fun _ kq => XS.iloadN X3.here hx rfl (hb hby at_24) rfl kq) ?_
  show Owes p e below s (QL n0) room_1.cells room_1.slots T3 (mkF m 25 #[(.val (.int p0)), (.val (.int p1)), (.val (.int p2)), (.val (.long p3)), .second, (.val (.ref b1)), .unset, .unset, .unset, .unset, .unset] [(.int p0), (.int (2 : Int32)), (.ref b1)])
  refine Owes.by (fun _ kq => XS.iconst X3.here hx rfl (hb hby at_25) kq) ?_
  show Owes p e below s (QL n0) room_1.cells room_1.slots T3 (mkF m 26 #[(.val (.int p0)), (.val (.int p1)), (.val (.int p2)), (.val (.long p3)), .second, (.val (.ref b1)), .unset, .unset, .unset, .unset, .unset] [(.int (4 : Int32)), (.int p0), (.int (2 : Int32)), (.ref b1)])
  refine Owes.by (fun _ kq => XT.iushr X3.here hx rfl (hb hby at_26) rfl kq) ?_
  show Owes p e below s (QL n0) room_1.cells room_1.slots T3 (mkF m 27 #[(.val (.int p0)), (.val (.int p1)), (.val (.int p2)), (.val (.long p3)), .second, (.val (.ref b1)), .unset, .unset, .unset, .unset, .unset] [(.int (XT.ushr p0 (4 : Int32))), (.int (2 : Int32)), (.ref b1)])
  refine Owes.by (fun _ kq => XS.iconst X3.here hx rfl (hb hby at_27) kq) ?_
  show Owes p e below s (QL n0) room_1.cells room_1.slots T3 (mkF m 28 #[(.val (.int p0)), (.val (.int p1)), (.val (.int p2)), (.val (.long p3)), .second, (.val (.ref b1)), .unset, .unset, .unset, .unset, .unset] [(.int (3 : Int32)), (.int (XT.ushr p0 (4 : Int32))), (.int (2 : Int32)), (.ref b1)])
  refine Owes.by (fun _ kq => XS.iand X3.here hx rfl (hb hby at_28) rfl kq) ?_
  show Owes p e below s (QL n0) room_1.cells room_1.slots T3 (mkF m 29 #[(.val (.int p0)), (.val (.int p1)), (.val (.int p2)), (.val (.long p3)), .second, (.val (.ref b1)), .unset, .unset, .unset, .unset, .unset] [(.int ((XT.ushr p0 (4 : Int32)) &&& (3 : Int32))), (.int (2 : Int32)), (.ref b1)])
  have h_x2 : ∃ a : Nat, a < 4 ∧ (((XT.ushr p0 (4 : Int32)) &&& (3 : Int32))) = Int32.ofNat a := own_and3 _
  generalize ((XT.ushr p0 (4 : Int32)) &&& (3 : Int32)) = x2 at h_x2 ⊢
  show Owes p e below s (QL n0) room_1.cells room_1.slots T3 (mkF m 29 #[(.val (.int p0)), (.val (.int p1)), (.val (.int p2)), (.val (.long p3)), .second, (.val (.ref b1)), .unset, .unset, .unset, .unset, .unset] [(.int x2), (.int (2 : Int32)), (.ref b1)])
  obtain ⟨u2, hu2, rfl⟩ := h_x2
  show Owes p e below s (QL n0) room_1.cells room_1.slots T3 (mkF m 29 #[(.val (.int p0)), (.val (.int p1)), (.val (.int p2)), (.val (.long p3)), .second, (.val (.ref b1)), .unset, .unset, .unset, .unset, .unset] [(.int (Int32.ofNat u2)), (.int (2 : Int32)), (.ref b1)])
  obtain ⟨cl4, Ar4, qq4, sz4, nn4, hh4, gg4⟩ := V3
  have hin4 : ¬ ((2 : Int32) < 0 ∨ cl4.slots.size ≤ ((2 : Int32)).toNatClampNeg) := inb_of sz4 ⟨by decide, by decide⟩
  obtain ⟨T4, h4, X4, e4, W4, st4⟩ := stI X3 hx hZ e3 Ar4 (j := (2 : Int32)) hin4 (g := (mkF m 29 #[(.val (.int p0)), (.val (.int p1)), (.val (.int p2)), (.val (.long p3)), .second, (.val (.ref b1)), .unset, .unset, .unset, .unset, .unset] [(.int (Int32.ofNat u2)), (.int (2 : Int32)), (.ref b1)])) rfl rfl (hb hby at_29)
  have V4 : Arv Z h4 b1 k1 .int 4 [(.int (Int32.ofNat u0)), (.int (Int32.ofNat u1)), (.int (Int32.ofNat u2)), (.int (0 : Int32))] (.int (0 : Int32)) := Arv.set Ar4 qq4 sz4 nn4 hh4 gg4 rfl W4 2 rfl (Nat.le_of_ble_eq_true rfl)
  refine Owes.by st4 ?_
  show Owes p e below s (QL n0) room_1.cells room_1.slots T4 (mkF m 30 #[(.val (.int p0)), (.val (.int p1)), (.val (.int p2)), (.val (.long p3)), .second, (.val (.ref b1)), .unset, .unset, .unset, .unset, .unset] [])
  have C4 : Ext h0 h4 := own_extWr C3 W4 gsl
  have N4 := Fr.snoc X4 N3 gsn
  refine Owes.by (fun _ kq => XS.aload X4.here hx rfl (hb hby at_30) rfl rfl kq) ?_
  show Owes p e below s (QL n0) room_1.cells room_1.slots T4 (mkF m 32 #[(.val (.int p0)), (.val (.int p1)), (.val (.int p2)), (.val (.long p3)), .second, (.val (.ref b1)), .unset, .unset, .unset, .unset, .unset] [(.ref b1)])
  refine Owes.by (fun _ kq => XS.iconst X4.here hx rfl (hb hby at_32) kq) ?_
  show Owes p e below s (QL n0) room_1.cells room_1.slots T4 (mkF m 33 #[(.val (.int p0)), (.val (.int p1)), (.val (.int p2)), (.val (.long p3)), .second, (.val (.ref b1)), .unset, .unset, .unset, .unset, .unset] [(.int (3 : Int32)), (.ref b1)])
  refine Owes.by (fun _ kq => XS.iloadN X4.here hx rfl (hb hby at_33) rfl kq) ?_
  show Owes p e below s (QL n0) room_1.cells room_1.slots T4 (mkF m 34 #[(.val (.int p0)), (.val (.int p1)), (.val (.int p2)), (.val (.long p3)), .second, (.val (.ref b1)), .unset, .unset, .unset, .unset, .unset] [(.int p0), (.int (3 : Int32)), (.ref b1)])
  refine Owes.by (fun _ kq => XS.bipush X4.here hx rfl (hb hby at_34) kq) ?_
  show Owes p e below s (QL n0) room_1.cells room_1.slots T4 (mkF m 36 #[(.val (.int p0)), (.val (.int p1)), (.val (.int p2)), (.val (.long p3)), .second, (.val (.ref b1)), .unset, .unset, .unset, .unset, .unset] [(.int (6 : Int32)), (.int p0), (.int (3 : Int32)), (.ref b1)])
  refine Owes.by (fun _ kq => XT.iushr X4.here hx rfl (hb hby at_36) rfl kq) ?_
  show Owes p e below s (QL n0) room_1.cells room_1.slots T4 (mkF m 37 #[(.val (.int p0)), (.val (.int p1)), (.val (.int p2)), (.val (.long p3)), .second, (.val (.ref b1)), .unset, .unset, .unset, .unset, .unset] [(.int (XT.ushr p0 (6 : Int32))), (.int (3 : Int32)), (.ref b1)])
  refine Owes.by (fun _ kq => XS.iconst X4.here hx rfl (hb hby at_37) kq) ?_
  show Owes p e below s (QL n0) room_1.cells room_1.slots T4 (mkF m 38 #[(.val (.int p0)), (.val (.int p1)), (.val (.int p2)), (.val (.long p3)), .second, (.val (.ref b1)), .unset, .unset, .unset, .unset, .unset] [(.int (3 : Int32)), (.int (XT.ushr p0 (6 : Int32))), (.int (3 : Int32)), (.ref b1)])
  refine Owes.by (fun _ kq => XS.iand X4.here hx rfl (hb hby at_38) rfl kq) ?_
  show Owes p e below s (QL n0) room_1.cells room_1.slots T4 (mkF m 39 #[(.val (.int p0)), (.val (.int p1)), (.val (.int p2)), (.val (.long p3)), .second, (.val (.ref b1)), .unset, .unset, .unset, .unset, .unset] [(.int ((XT.ushr p0 (6 : Int32)) &&& (3 : Int32))), (.int (3 : Int32)), (.ref b1)])
  have h_x3 : ∃ a : Nat, a < 4 ∧ (((XT.ushr p0 (6 : Int32)) &&& (3 : Int32))) = Int32.ofNat a := own_and3 _
  generalize ((XT.ushr p0 (6 : Int32)) &&& (3 : Int32)) = x3 at h_x3 ⊢
  show Owes p e below s (QL n0) room_1.cells room_1.slots T4 (mkF m 39 #[(.val (.int p0)), (.val (.int p1)), (.val (.int p2)), (.val (.long p3)), .second, (.val (.ref b1)), .unset, .unset, .unset, .unset, .unset] [(.int x3), (.int (3 : Int32)), (.ref b1)])
  obtain ⟨u3, hu3, rfl⟩ := h_x3
  show Owes p e below s (QL n0) room_1.cells room_1.slots T4 (mkF m 39 #[(.val (.int p0)), (.val (.int p1)), (.val (.int p2)), (.val (.long p3)), .second, (.val (.ref b1)), .unset, .unset, .unset, .unset, .unset] [(.int (Int32.ofNat u3)), (.int (3 : Int32)), (.ref b1)])
  obtain ⟨cl5, Ar5, qq5, sz5, nn5, hh5, gg5⟩ := V4
  have hin5 : ¬ ((3 : Int32) < 0 ∨ cl5.slots.size ≤ ((3 : Int32)).toNatClampNeg) := inb_of sz5 ⟨by decide, by decide⟩
  obtain ⟨T5, h5, X5, e5, W5, st5⟩ := stI X4 hx hZ e4 Ar5 (j := (3 : Int32)) hin5 (g := (mkF m 39 #[(.val (.int p0)), (.val (.int p1)), (.val (.int p2)), (.val (.long p3)), .second, (.val (.ref b1)), .unset, .unset, .unset, .unset, .unset] [(.int (Int32.ofNat u3)), (.int (3 : Int32)), (.ref b1)])) rfl rfl (hb hby at_39)
  have V5 : Arv Z h5 b1 k1 .int 4 [(.int (Int32.ofNat u0)), (.int (Int32.ofNat u1)), (.int (Int32.ofNat u2)), (.int (Int32.ofNat u3))] (.int (0 : Int32)) := Arv.set Ar5 qq5 sz5 nn5 hh5 gg5 rfl W5 3 rfl (Nat.le_of_ble_eq_true rfl)
  refine Owes.by st5 ?_
  show Owes p e below s (QL n0) room_1.cells room_1.slots T5 (mkF m 40 #[(.val (.int p0)), (.val (.int p1)), (.val (.int p2)), (.val (.long p3)), .second, (.val (.ref b1)), .unset, .unset, .unset, .unset, .unset] [])
  have C5 : Ext h0 h5 := own_extWr C4 W5 gsl
  have N5 := Fr.snoc X5 N4 gsn
  refine Owes.by (fun _ kq => XS.iloadN X5.here hx rfl (hb hby at_40) rfl kq) ?_
  show Owes p e below s (QL n0) room_1.cells room_1.slots T5 (mkF m 41 #[(.val (.int p0)), (.val (.int p1)), (.val (.int p2)), (.val (.long p3)), .second, (.val (.ref b1)), .unset, .unset, .unset, .unset, .unset] [(.int p1)])
  refine Owes.by (fun tq kq => X5.ldcInt hx hown (mvT hZ (hw _ (List.mem_of_getElem? (i := 1) rfl))) (g := (mkF m 41 #[(.val (.int p0)), (.val (.int p1)), (.val (.int p2)), (.val (.long p3)), .second, (.val (.ref b1)), .unset, .unset, .unset, .unset, .unset] [(.int p1)])) rfl (hb hby at_41) tq kq) ?_
  show Owes p e below s (QL n0) room_1.cells room_1.slots T5 (mkF m 43 #[(.val (.int p0)), (.val (.int p1)), (.val (.int p2)), (.val (.long p3)), .second, (.val (.ref b1)), .unset, .unset, .unset, .unset, .unset] [(.int (2147483647 : Int32)), (.int p1)])
  refine Owes.by (fun _ kq => XS.iand X5.here hx rfl (hb hby at_43) rfl kq) ?_
  show Owes p e below s (QL n0) room_1.cells room_1.slots T5 (mkF m 44 #[(.val (.int p0)), (.val (.int p1)), (.val (.int p2)), (.val (.long p3)), .second, (.val (.ref b1)), .unset, .unset, .unset, .unset, .unset] [(.int (p1 &&& (2147483647 : Int32)))])
  refine Owes.by (fun _ kq => XS.iconst X5.here hx rfl (hb hby at_44) kq) ?_
  show Owes p e below s (QL n0) room_1.cells room_1.slots T5 (mkF m 45 #[(.val (.int p0)), (.val (.int p1)), (.val (.int p2)), (.val (.long p3)), .second, (.val (.ref b1)), .unset, .unset, .unset, .unset, .unset] [(.int (5 : Int32)), (.int (p1 &&& (2147483647 : Int32)))])
  refine Owes.by (fun _ kq => iremM X5 hx rfl (hb hby at_45) rfl (by decide) kq) ?_
  show Owes p e below s (QL n0) room_1.cells room_1.slots T5 (mkF m 46 #[(.val (.int p0)), (.val (.int p1)), (.val (.int p2)), (.val (.long p3)), .second, (.val (.ref b1)), .unset, .unset, .unset, .unset, .unset] [(.int ((p1 &&& (2147483647 : Int32)) % (5 : Int32)))])
  have h_n : (((p1 &&& (2147483647 : Int32)) % (5 : Int32))) = 0 ∨ (((p1 &&& (2147483647 : Int32)) % (5 : Int32))) = 1 ∨ (((p1 &&& (2147483647 : Int32)) % (5 : Int32))) = 2 ∨ (((p1 &&& (2147483647 : Int32)) % (5 : Int32))) = 3 ∨ (((p1 &&& (2147483647 : Int32)) % (5 : Int32))) = 4 := own_mod5 p1
  generalize ((p1 &&& (2147483647 : Int32)) % (5 : Int32)) = n at h_n ⊢
  show Owes p e below s (QL n0) room_1.cells room_1.slots T5 (mkF m 46 #[(.val (.int p0)), (.val (.int p1)), (.val (.int p2)), (.val (.long p3)), .second, (.val (.ref b1)), .unset, .unset, .unset, .unset, .unset] [(.int n)])
  refine Owes.by (fun _ kq => XS.istore X5.here hx rfl (hb hby at_46) rfl (l' := #[(.val (.int p0)), (.val (.int p1)), (.val (.int p2)), (.val (.long p3)), .second, (.val (.ref b1)), (.val (.int n)), .unset, .unset, .unset, .unset]) rfl kq) ?_
  show Owes p e below s (QL n0) room_1.cells room_1.slots T5 (mkF m 48 #[(.val (.int p0)), (.val (.int p1)), (.val (.int p2)), (.val (.long p3)), .second, (.val (.ref b1)), (.val (.int n)), .unset, .unset, .unset, .unset] [])
  refine Owes.by (fun _ kq => XS.iloadN X5.here hx rfl (hb hby at_48) rfl kq) ?_
  show Owes p e below s (QL n0) room_1.cells room_1.slots T5 (mkF m 49 #[(.val (.int p0)), (.val (.int p1)), (.val (.int p2)), (.val (.long p3)), .second, (.val (.ref b1)), (.val (.int n)), .unset, .unset, .unset, .unset] [(.int p2)])
  refine Owes.by (fun tq kq => X5.ldcInt hx hown (mvT hZ (hw _ (List.mem_of_getElem? (i := 1) rfl))) (g := (mkF m 49 #[(.val (.int p0)), (.val (.int p1)), (.val (.int p2)), (.val (.long p3)), .second, (.val (.ref b1)), (.val (.int n)), .unset, .unset, .unset, .unset] [(.int p2)])) rfl (hb hby at_49) tq kq) ?_
  show Owes p e below s (QL n0) room_1.cells room_1.slots T5 (mkF m 51 #[(.val (.int p0)), (.val (.int p1)), (.val (.int p2)), (.val (.long p3)), .second, (.val (.ref b1)), (.val (.int n)), .unset, .unset, .unset, .unset] [(.int (2147483647 : Int32)), (.int p2)])
  refine Owes.by (fun _ kq => XS.iand X5.here hx rfl (hb hby at_51) rfl kq) ?_
  show Owes p e below s (QL n0) room_1.cells room_1.slots T5 (mkF m 52 #[(.val (.int p0)), (.val (.int p1)), (.val (.int p2)), (.val (.long p3)), .second, (.val (.ref b1)), (.val (.int n)), .unset, .unset, .unset, .unset] [(.int (p2 &&& (2147483647 : Int32)))])
  refine Owes.by (fun _ kq => XS.bipush X5.here hx rfl (hb hby at_52) kq) ?_
  show Owes p e below s (QL n0) room_1.cells room_1.slots T5 (mkF m 54 #[(.val (.int p0)), (.val (.int p1)), (.val (.int p2)), (.val (.long p3)), .second, (.val (.ref b1)), (.val (.int n)), .unset, .unset, .unset, .unset] [(.int (6 : Int32)), (.int (p2 &&& (2147483647 : Int32)))])
  refine Owes.by (fun _ kq => iremM X5 hx rfl (hb hby at_54) rfl (by decide) kq) ?_
  show Owes p e below s (QL n0) room_1.cells room_1.slots T5 (mkF m 55 #[(.val (.int p0)), (.val (.int p1)), (.val (.int p2)), (.val (.long p3)), .second, (.val (.ref b1)), (.val (.int n)), .unset, .unset, .unset, .unset] [(.int ((p2 &&& (2147483647 : Int32)) % (6 : Int32)))])
  have h_k : ∃ a : Nat, a ≤ 5 ∧ (((p2 &&& (2147483647 : Int32)) % (6 : Int32))) = Int32.ofNat a := own_k6 p2
  generalize ((p2 &&& (2147483647 : Int32)) % (6 : Int32)) = k at h_k ⊢
  show Owes p e below s (QL n0) room_1.cells room_1.slots T5 (mkF m 55 #[(.val (.int p0)), (.val (.int p1)), (.val (.int p2)), (.val (.long p3)), .second, (.val (.ref b1)), (.val (.int n)), .unset, .unset, .unset, .unset] [(.int k)])
  obtain ⟨kk, hkk, rfl⟩ := h_k
  show Owes p e below s (QL n0) room_1.cells room_1.slots T5 (mkF m 55 #[(.val (.int p0)), (.val (.int p1)), (.val (.int p2)), (.val (.long p3)), .second, (.val (.ref b1)), (.val (.int n)), .unset, .unset, .unset, .unset] [(.int (Int32.ofNat kk))])
  refine Owes.by (fun _ kq => XS.istore X5.here hx rfl (hb hby at_55) rfl (l' := #[(.val (.int p0)), (.val (.int p1)), (.val (.int p2)), (.val (.long p3)), .second, (.val (.ref b1)), (.val (.int n)), (.val (.int (Int32.ofNat kk))), .unset, .unset, .unset]) rfl kq) ?_
  show Owes p e below s (QL n0) room_1.cells room_1.slots T5 (mkF m 57 #[(.val (.int p0)), (.val (.int p1)), (.val (.int p2)), (.val (.long p3)), .second, (.val (.ref b1)), (.val (.int n)), (.val (.int (Int32.ofNat kk))), .unset, .unset, .unset] [])
  refine Owes.by (fun _ kq => XT.lloadN X5.here hx rfl (hb hby at_57) rfl kq) ?_
  show Owes p e below s (QL n0) room_1.cells room_1.slots T5 (mkF m 58 #[(.val (.int p0)), (.val (.int p1)), (.val (.int p2)), (.val (.long p3)), .second, (.val (.ref b1)), (.val (.int n)), (.val (.int (Int32.ofNat kk))), .unset, .unset, .unset] [(.long p3)])
  obtain ⟨_, _, ⟨T6, L6, k6, n6⟩, -, X6, ⟨Lc6, hQ6, l6, y6, z6⟩, st6⟩ := Jvm.LawKit.callS X5 hx (y := (⟨"com/example/incant5/incant5/Term", "integer", "(J)Lcom/example/incant5/incant5/Term$IntegerConstant;"⟩ : MethodName)) hown (mvT hZ (hw _ (List.mem_of_getElem? (i := 2) rfl))) (mvT hZ (hw _ (List.mem_of_getElem? (i := 3) rfl))) (mvT hZ (hw _ (List.mem_of_getElem? (i := 4) rfl))) (mvT hZ (hw _ (List.mem_of_getElem? (i := 5) rfl))) (by decide) (backOf (W := 0) (rmIN l Z a0 hw [] p3 wz pa na clp cln h5 n0 (Nat.le_trans Z0 C5.1) (S_Z.ext C5) (M_Z.ext C5) (S_P.ext C5) (A_P.ext C5) (own_hx H_P C5) (S_N.ext C5) (A_N.ext C5) (own_hx H_N C5)) hZ (hw _ (List.mem_of_getElem? (i := 5) rfl)) (hw _ (List.mem_of_getElem? (i := 4) rfl)) (by decide) (by decide)) (g := (mkF m 58 #[(.val (.int p0)), (.val (.int p1)), (.val (.int p2)), (.val (.long p3)), .second, (.val (.ref b1)), (.val (.int n)), (.val (.int (Int32.ofNat kk))), .unset, .unset, .unset] [(.long p3)])) rfl (by rw [hml]; rfl) (argsL := [(.long p3)]) (rest := []) (lenOf pd_J_Lcom_example_incant5_incant5_Term_IntegerConstant rfl) rfl (by show 2 * 0 + _ ≤ _; exact Nat.le_of_eq rfl) (hb hby at_58) (fun _ _ => ⟨rfl, e5, (by decide : 1 + 3 ≤ _), (by decide : 4 + 11 ≤ _)⟩)
  dsimp only [Pt.U, Pt.locs, Pt.cells, Pt.slots] at X6 l6 y6 z6 st6 hQ6
  subst l6 y6 z6
  obtain ⟨t, rfl, N6, Y6, At6⟩ := hQ6
  refine Owes.by st6 ?_
  show Owes p e below s (QL n0) room_1.cells room_1.slots T6 (mkF m 61 #[(.val (.int p0)), (.val (.int p1)), (.val (.int p2)), (.val (.long p3)), .second, (.val (.ref b1)), (.val (.int n)), (.val (.int (Int32.ofNat kk))), .unset, .unset, .unset] [(.ref t)])
  have Vs6 := V5.ext Y6
  have ZZ6 : h0.size ≤ T6.heap.size := Nat.le_trans C5.1 Y6.1
  refine Owes.by (fun _ kq => XS.astore X6.here hx rfl (hb hby at_61) rfl rfl (l' := #[(.val (.int p0)), (.val (.int p1)), (.val (.int p2)), (.val (.long p3)), .second, (.val (.ref b1)), (.val (.int n)), (.val (.int (Int32.ofNat kk))), (.val (.ref t)), .unset, .unset]) rfl kq) ?_
  show Owes p e below s (QL n0) room_1.cells room_1.slots T6 (mkF m 63 #[(.val (.int p0)), (.val (.int p1)), (.val (.int p2)), (.val (.long p3)), .second, (.val (.ref b1)), (.val (.int n)), (.val (.int (Int32.ofNat kk))), (.val (.ref t)), .unset, .unset] [])
  obtain ⟨T7, h7, X7, e7, E7, A7, D7, -, st7⟩ := newO X6 hx hZ hown (hw _ (List.mem_of_getElem? (i := 53) rfl)) (hw _ (List.mem_of_getElem? (i := 54) rfl)) (hw _ (List.mem_of_getElem? (i := 55) rfl)) (rfl : T6.heap = T6.heap) (g := (mkF m 63 #[(.val (.int p0)), (.val (.int p1)), (.val (.int p2)), (.val (.long p3)), .second, (.val (.ref b1)), (.val (.int n)), (.val (.int (Int32.ofNat kk))), (.val (.ref t)), .unset, .unset] [])) rfl (hb hby at_63) (by decide) (by decide)
  obtain ⟨b7, g7⟩ : ∃ z, z = T6.heap.size := ⟨_, rfl⟩
  rw [← g7] at A7 D7 st7
  refine Owes.by st7 ?_
  show Owes p e below s (QL n0) room_1.cells room_1.slots T7 (mkF m 66 #[(.val (.int p0)), (.val (.int p1)), (.val (.int p2)), (.val (.long p3)), .second, (.val (.ref b1)), (.val (.int n)), (.val (.int (Int32.ofNat kk))), (.val (.ref t)), .unset, .unset] [(.ref b7)])
  refine Owes.by (fun _ kq => XS.dup X7.here hx rfl (hb hby at_66) rfl rfl kq) ?_
  show Owes p e below s (QL n0) room_1.cells room_1.slots T7 (mkF m 67 #[(.val (.int p0)), (.val (.int p1)), (.val (.int p2)), (.val (.long p3)), .second, (.val (.ref b1)), (.val (.int n)), (.val (.int (Int32.ofNat kk))), (.val (.ref t)), .unset, .unset] [(.ref b7), (.ref b7)])
  refine Owes.by (fun _ kq => XS.iconst X7.here hx rfl (hb hby at_67) kq) ?_
  show Owes p e below s (QL n0) room_1.cells room_1.slots T7 (mkF m 68 #[(.val (.int p0)), (.val (.int p1)), (.val (.int p2)), (.val (.long p3)), .second, (.val (.ref b1)), (.val (.int n)), (.val (.int (Int32.ofNat kk))), (.val (.ref t)), .unset, .unset] [(.int (4 : Int32)), (.ref b7), (.ref b7)])
  have go7 : h0.size ≤ b7 := Nat.le_trans ZZ6 (Nat.le_of_eq g7.symm)
  have Jt : Fld Z h7 b7 "com/example/incant5/incant5/Bindings" "trail" "[I" .null := D7 (Or.inl (hw _ (List.mem_of_getElem? (i := 61) rfl))) (ty := (.array .int)) (by decide)
  have Jv : Fld Z h7 b7 "com/example/incant5/incant5/Bindings" "values" "[Lcom/example/incant5/incant5/Term;" .null := D7 (Or.inr (hw _ (List.mem_of_getElem? (i := 65) rfl))) (ty := (.array (.object "com/example/incant5/incant5/Term"))) (by decide)
  have Jn : Fld Z h7 b7 "com/example/incant5/incant5/Bindings" "trailSize" "I" (.int (0 : Int32)) := D7 (Or.inl (hw _ (List.mem_of_getElem? (i := 72) rfl))) (ty := .int) (by decide)
  obtain ⟨_, _, ⟨T8, L8, k8, n8⟩, -, X8, ⟨Lc8, hQ8, l8, y8, z8⟩, st8⟩ := X7.specialBack hx (y := (⟨"com/example/incant5/incant5/Bindings", "<init>", "(I)V"⟩ : MethodName)) rfl hown (mvT hZ (hw _ (List.mem_of_getElem? (i := 56) rfl))) (mvT hZ (hw _ (List.mem_of_getElem? (i := 57) rfl))) (mvT hZ (hw _ (List.mem_of_getElem? (i := 58) rfl))) (by decide) (backOf (W := 1) (rmBN l Z a0 hw [] b7 h7 n0 (Nat.le_trans (Nat.le_trans Z0 ZZ6) E7.1) A7 Jt Jv Jn (Nat.le_trans Z0 go7)) hZ (hw _ (List.mem_of_getElem? (i := 58) rfl)) (hw _ (List.mem_of_getElem? (i := 55) rfl)) (by decide) (by decide)) (g := (mkF m 68 #[(.val (.int p0)), (.val (.int p1)), (.val (.int p2)), (.val (.long p3)), .second, (.val (.ref b1)), (.val (.int n)), (.val (.int (Int32.ofNat kk))), (.val (.ref t)), .unset, .unset] [(.int (4 : Int32)), (.ref b7), (.ref b7)])) rfl (by rw [hml]; rfl) (Steps.refl _) (a := b7) (argsL := [(.int (4 : Int32))]) (rest := [(.ref b7)]) (lenOf pd_I_V rfl) rfl (by show 2 * 0 + _ ≤ _; exact Nat.le_of_eq rfl) (hb hby at_68) (fun _ _ => ⟨rfl, e7, (by decide : 5 + 2 ≤ _), (by decide : 18 + 20 ≤ _)⟩)
  dsimp only [Pt.U, Pt.locs, Pt.cells, Pt.slots] at X8 l8 y8 z8 st8 hQ8
  subst l8 y8 z8
  obtain ⟨rfl, N8, K8, tr, va, kT, kV, gt8, gv8, B8⟩ := hQ8
  refine Owes.by (fun _ kq => st8.trans kq) ?_
  show Owes p e below s (QL n0) room_1.cells room_1.slots T8 (mkF m 71 #[(.val (.int p0)), (.val (.int p1)), (.val (.int p2)), (.val (.long p3)), .second, (.val (.ref b1)), (.val (.int n)), (.val (.int (Int32.ofNat kk))), (.val (.ref t)), .unset, .unset] [(.ref b7)])
  refine Owes.by (fun _ kq => XS.astore X8.here hx rfl (hb hby at_71) rfl rfl (l' := #[(.val (.int p0)), (.val (.int p1)), (.val (.int p2)), (.val (.long p3)), .second, (.val (.ref b1)), (.val (.int n)), (.val (.int (Int32.ofNat kk))), (.val (.ref t)), (.val (.ref b7)), .unset]) rfl kq) ?_
  show Owes p e below s (QL n0) room_1.cells room_1.slots T8 (mkF m 73 #[(.val (.int p0)), (.val (.int p1)), (.val (.int p2)), (.val (.long p3)), .second, (.val (.ref b1)), (.val (.int n)), (.val (.int (Int32.ofNat kk))), (.val (.ref t)), (.val (.ref b7)), .unset] [])
  have Nm := Fr.app (Fr.app N5 N6) N8
  have nsb : b1 ≠ b7 := Nat.ne_of_lt (Nat.lt_of_lt_of_le Vs6.lt (Nat.le_of_eq g7.symm))
  have szo : T6.heap.size ≤ h7.size := E7.1
  have nst : b1 ≠ tr := Nat.ne_of_lt (Nat.lt_of_lt_of_le Vs6.lt (Nat.le_trans szo gt8))
  have nsv : b1 ≠ va := Nat.ne_of_lt (Nat.lt_of_lt_of_le Vs6.lt (Nat.le_trans szo gv8))
  have Vs0 := (Vs6.ext E7).keep K8 (ninS nsb nin0)
  have At0 := (At6.ext E7).keep K8
  have gb0 : n0 ≤ b7 := Nat.le_trans Z0 go7
  have gt0 : n0 ≤ tr := Nat.le_trans (Nat.le_trans (Nat.le_trans Z0 ZZ6) szo) gt8
  have gv0 : n0 ≤ va := Nat.le_trans (Nat.le_trans (Nat.le_trans Z0 ZZ6) szo) gv8
  have Zm : n0 ≤ T8.heap.size := Nat.le_trans (Nat.le_trans (Nat.le_trans Z0 ZZ6) szo) K8.1
  refine own_joinH X8 (n0 := n0) (G := fun T' h' => ∀ (i0 : Nat) (tv : List Value), n = Int32.ofNat i0 → i0 ≤ 4 → n0 ≤ h'.size → own_BD Z h' b7 tr va kT kV (Int32.ofNat i0) tv ((own_bl [u0, u1, u2, u3] i0).map (own_f t)) → (∀ i, i < i0 → tv.getD i (.int (0 : Int32)) = .int (Int32.ofNat ([u0, u1, u2, u3].getD i 0))) → Arv Z h' b1 k1 .int 4 [(.int (Int32.ofNat u0)), (.int (Int32.ofNat u1)), (.int (Int32.ofNat u2)), (.int (Int32.ofNat u3))] (.int (0 : Int32)) → Owes p e below s (QL n0) room_1.cells room_1.slots T' (mkF m 140 #[(.val (.int p0)), (.val (.int p1)), (.val (.int p2)), (.val (.long p3)), .second, (.val (.ref b1)), (.val (.int (Int32.ofNat i0))), (.val (.int (Int32.ofNat kk))), (.val (.ref t)), (.val (.ref b7)), .unset] [])) (fun TJ LJ hJ XJ eJ NJ i0 tv hn hi0 ZJ BJ tJ VJ => ?_) (fun J => ?_)
  · skip
    show Owes p e below s (QL n0) room_1.cells room_1.slots TJ (mkF m 140 #[(.val (.int p0)), (.val (.int p1)), (.val (.int p2)), (.val (.long p3)), .second, (.val (.ref b1)), (.val (.int (Int32.ofNat i0))), (.val (.int (Int32.ofNat kk))), (.val (.ref t)), (.val (.ref b7)), .unset] [])
    refine Owes.by (fun _ kq => XS.aload XJ.here hx rfl (hb hby at_140) rfl rfl kq) ?_
    show Owes p e below s (QL n0) room_1.cells room_1.slots TJ (mkF m 142 #[(.val (.int p0)), (.val (.int p1)), (.val (.int p2)), (.val (.long p3)), .second, (.val (.ref b1)), (.val (.int (Int32.ofNat i0))), (.val (.int (Int32.ofNat kk))), (.val (.ref t)), (.val (.ref b7)), .unset] [(.ref b7)])
    refine Owes.by (fun _ kq => XS.iload XJ.here hx rfl (hb hby at_142) rfl kq) ?_
    show Owes p e below s (QL n0) room_1.cells room_1.slots TJ (mkF m 144 #[(.val (.int p0)), (.val (.int p1)), (.val (.int p2)), (.val (.long p3)), .second, (.val (.ref b1)), (.val (.int (Int32.ofNat i0))), (.val (.int (Int32.ofNat kk))), (.val (.ref t)), (.val (.ref b7)), .unset] [(.int (Int32.ofNat kk)), (.ref b7)])
    obtain ⟨cq9, kq9, qa9, qb9, qc9⟩ := isOf hZ eJ BJ.1
    obtain ⟨_, _, ⟨T9, L9, k9, n9⟩, -, X9, ⟨Lc9, hQ9, l9, y9, z9⟩, st9⟩ := XJ.virtualBack hx (y := (⟨"com/example/incant5/incant5/Bindings", "undo", "(I)V"⟩ : MethodName)) (z := (⟨"com/example/incant5/incant5/Bindings", "undo", "(I)V"⟩ : MethodName)) hown (mvT hZ (hw _ (List.mem_of_getElem? (i := 74) rfl))) (mvT hZ (hw _ (List.mem_of_getElem? (i := 75) rfl))) (notFace_of_selects (args := #[]) (mvT hZ (hw _ (List.mem_of_getElem? (i := 77) rfl)))) (mvT hZ (hw _ (List.mem_of_getElem? (i := 77) rfl))) (mvT hZ (hw _ (List.mem_of_getElem? (i := 76) rfl))) (by decide) (backOf (W := 0) (rmUn l Z a0 hw [] b7 tr va kT kV kk i0 tv ((own_bl [u0, u1, u2, u3] i0).map (own_f t)) [u0, u1, u2, u3] hJ n0 ZJ BJ hi0 hkk (own_bl_len _ _ _) (fun i hi => ⟨tJ i hi, own_xs4 hu0 hu1 hu2 hu3 i⟩) gb0 gt0 gv0) hZ (hw _ (List.mem_of_getElem? (i := 78) rfl)) (hw _ (List.mem_of_getElem? (i := 55) rfl)) (by decide) (by decide)) qa9 qc9 (g := (mkF m 144 #[(.val (.int p0)), (.val (.int p1)), (.val (.int p2)), (.val (.long p3)), .second, (.val (.ref b1)), (.val (.int (Int32.ofNat i0))), (.val (.int (Int32.ofNat kk))), (.val (.ref t)), (.val (.ref b7)), .unset] [(.int (Int32.ofNat kk)), (.ref b7)])) rfl (by rw [hml]; rfl) (Steps.refl _) (argsL := [(.int (Int32.ofNat kk))]) (rest := []) (lenOf pd_I_V rfl) rfl (by show 2 * 0 + _ ≤ _; exact Nat.le_of_eq rfl) (hb hby at_144) (fun _ _ => ⟨rfl, eJ, (by decide : 7 + 0 ≤ _), (by decide : 38 + 0 ≤ _)⟩)
    dsimp only [Pt.U, Pt.locs, Pt.cells, Pt.slots] at X9 l9 y9 z9 st9 hQ9
    subst l9 y9 z9
    obtain ⟨rfl, N9, K9, B9⟩ := hQ9
    refine Owes.by (fun _ kq => st9.trans kq) ?_
    show Owes p e below s (QL n0) room_1.cells room_1.slots T9 (mkF m 147 #[(.val (.int p0)), (.val (.int p1)), (.val (.int p2)), (.val (.long p3)), .second, (.val (.ref b1)), (.val (.int (Int32.ofNat i0))), (.val (.int (Int32.ofNat kk))), (.val (.ref t)), (.val (.ref b7)), .unset] [])
    have NF := Fr.app NJ N9
    have VF := VJ.keep K9 (ninS nsb (ninS nst (ninS nsv nin0)))
    have ZF : n0 ≤ T9.heap.size := Nat.le_trans ZJ K9.1
    obtain ⟨Eb, Ftr, Fva, Fns, Vtr, Vva, -⟩ := B9
    refine Owes.by (fun _ kq => XS.aload X9.here hx rfl (hb hby at_147) rfl rfl kq) ?_
    show Owes p e below s (QL n0) room_1.cells room_1.slots T9 (mkF m 149 #[(.val (.int p0)), (.val (.int p1)), (.val (.int p2)), (.val (.long p3)), .second, (.val (.ref b1)), (.val (.int (Int32.ofNat i0))), (.val (.int (Int32.ofNat kk))), (.val (.ref t)), (.val (.ref b7)), .unset] [(.ref b7)])
    obtain ⟨cq10, kq10, qa10, qb10, qc10⟩ := isOf hZ (rfl : T9.heap = T9.heap) Eb
    obtain ⟨_, _, ⟨T10, L10, k10, n10⟩, -, X10, ⟨Lc10, hQ10, l10, y10, z10⟩, st10⟩ := X9.virtualBack hx (y := (⟨"com/example/incant5/incant5/Bindings", "mark", "()I"⟩ : MethodName)) (z := (⟨"com/example/incant5/incant5/Bindings", "mark", "()I"⟩ : MethodName)) hown (mvT hZ (hw _ (List.mem_of_getElem? (i := 79) rfl))) (mvT hZ (hw _ (List.mem_of_getElem? (i := 80) rfl))) (notFace_of_selects (args := #[]) (mvT hZ (hw _ (List.mem_of_getElem? (i := 82) rfl)))) (mvT hZ (hw _ (List.mem_of_getElem? (i := 82) rfl))) (mvT hZ (hw _ (List.mem_of_getElem? (i := 81) rfl))) (by decide) (backOf (W := 0) (rmMk l Z a0 hw [] b7 (Int32.ofNat (own_un kk i0)) T9.heap n0 ZF Fns) hZ (hw _ (List.mem_of_getElem? (i := 83) rfl)) (hw _ (List.mem_of_getElem? (i := 55) rfl)) (by decide) (by decide)) qa10 qc10 (g := (mkF m 149 #[(.val (.int p0)), (.val (.int p1)), (.val (.int p2)), (.val (.long p3)), .second, (.val (.ref b1)), (.val (.int (Int32.ofNat i0))), (.val (.int (Int32.ofNat kk))), (.val (.ref t)), (.val (.ref b7)), .unset] [(.ref b7)])) rfl (by rw [hml]; rfl) (Steps.refl _) (argsL := []) (rest := []) (lenOf pd_I rfl) rfl (by show 2 * 0 + _ ≤ _; exact Nat.le_of_eq rfl) (hb hby at_149) (fun _ _ => ⟨rfl, (rfl : T9.heap = T9.heap), (by decide : 7 + 0 ≤ _), (by decide : 38 + 0 ≤ _)⟩)
    dsimp only [Pt.U, Pt.locs, Pt.cells, Pt.slots] at X10 l10 y10 z10 st10 hQ10
    subst l10 y10 z10
    obtain ⟨rfl, rfl, e10⟩ := hQ10
    try rw [List.append_nil] at X10
    refine Owes.by (fun _ kq => st10.trans kq) ?_
    show Owes p e below s (QL n0) room_1.cells room_1.slots T10 (mkF m 152 #[(.val (.int p0)), (.val (.int p1)), (.val (.int p2)), (.val (.long p3)), .second, (.val (.ref b1)), (.val (.int (Int32.ofNat i0))), (.val (.int (Int32.ofNat kk))), (.val (.ref t)), (.val (.ref b7)), .unset] [(.int (Int32.ofNat (own_un kk i0)))])
    refine Owes.by (fun _ kq => XS.iload X10.here hx rfl (hb hby at_152) rfl kq) ?_
    show Owes p e below s (QL n0) room_1.cells room_1.slots T10 (mkF m 154 #[(.val (.int p0)), (.val (.int p1)), (.val (.int p2)), (.val (.long p3)), .second, (.val (.ref b1)), (.val (.int (Int32.ofNat i0))), (.val (.int (Int32.ofNat kk))), (.val (.ref t)), (.val (.ref b7)), .unset] [(.int (Int32.ofNat kk)), (.int (Int32.ofNat (own_un kk i0)))])
    refine Owes.by (fun _ kq => XS.iload X10.here hx rfl (hb hby at_154) rfl kq) ?_
    show Owes p e below s (QL n0) room_1.cells room_1.slots T10 (mkF m 156 #[(.val (.int p0)), (.val (.int p1)), (.val (.int p2)), (.val (.long p3)), .second, (.val (.ref b1)), (.val (.int (Int32.ofNat i0))), (.val (.int (Int32.ofNat kk))), (.val (.ref t)), (.val (.ref b7)), .unset] [(.int (Int32.ofNat i0)), (.int (Int32.ofNat kk)), (.int (Int32.ofNat (own_un kk i0)))])
    obtain ⟨_, _, ⟨T11, L11, k11, n11⟩, -, X11, ⟨Lc11, hQ11, l11, y11, z11⟩, st11⟩ := Jvm.LawKit.callS X10 hx (y := (⟨"java/lang/Math", "min", "(II)I"⟩ : MethodName)) hown (mvT hZ (hw _ (List.mem_of_getElem? (i := 84) rfl))) (mvT hZ (hw _ (List.mem_of_getElem? (i := 85) rfl))) (mvT hZ (hw _ (List.mem_of_getElem? (i := 86) rfl))) (mvT hZ (hw _ (List.mem_of_getElem? (i := 87) rfl))) (by decide) (backOf (W := 1) (rmMin l Z a0 hw [] (Int32.ofNat kk) (Int32.ofNat i0) (Int32.ofNat (own_un kk i0)) T9.heap n0 ZF (own_min hkk hi0)) hZ (hw _ (List.mem_of_getElem? (i := 87) rfl)) (hw _ (List.mem_of_getElem? (i := 86) rfl)) (by decide) (by decide)) (g := (mkF m 156 #[(.val (.int p0)), (.val (.int p1)), (.val (.int p2)), (.val (.long p3)), .second, (.val (.ref b1)), (.val (.int (Int32.ofNat i0))), (.val (.int (Int32.ofNat kk))), (.val (.ref t)), (.val (.ref b7)), .unset] [(.int (Int32.ofNat i0)), (.int (Int32.ofNat kk)), (.int (Int32.ofNat (own_un kk i0)))])) rfl (by rw [hml]; rfl) (argsL := [(.int (Int32.ofNat kk)), (.int (Int32.ofNat i0))]) (rest := [(.int (Int32.ofNat (own_un kk i0)))]) (lenOf pd_II_I rfl) rfl (by show 2 * 0 + _ ≤ _; exact Nat.le_of_eq rfl) (hb hby at_156) (fun _ _ => ⟨rfl, e10, (by decide : 7 + 0 ≤ _), (by decide : 38 + 0 ≤ _)⟩)
    dsimp only [Pt.U, Pt.locs, Pt.cells, Pt.slots] at X11 l11 y11 z11 st11 hQ11
    subst l11 y11 z11
    obtain ⟨rfl, rfl, e11⟩ := hQ11
    try rw [List.append_nil] at X11
    refine Owes.by st11 ?_
    show Owes p e below s (QL n0) room_1.cells room_1.slots T11 (mkF m 159 #[(.val (.int p0)), (.val (.int p1)), (.val (.int p2)), (.val (.long p3)), .second, (.val (.ref b1)), (.val (.int (Int32.ofNat i0))), (.val (.int (Int32.ofNat kk))), (.val (.ref t)), (.val (.ref b7)), .unset] [(.int (Int32.ofNat (own_un kk i0))), (.int (Int32.ofNat (own_un kk i0)))])
    refine Owes.by (fun _ kq => XS.icmpNo X11.here hx rfl (hb hby at_159) rfl (XT.ii_ne_f rfl) kq) ?_
    show Owes p e below s (QL n0) room_1.cells room_1.slots T11 (mkF m 162 #[(.val (.int p0)), (.val (.int p1)), (.val (.int p2)), (.val (.long p3)), .second, (.val (.ref b1)), (.val (.int (Int32.ofNat i0))), (.val (.int (Int32.ofNat kk))), (.val (.ref t)), (.val (.ref b7)), .unset] [])
    refine Owes.by (fun _ kq => XS.iconst X11.here hx rfl (hb hby at_162) kq) ?_
    show Owes p e below s (QL n0) room_1.cells room_1.slots T11 (mkF m 163 #[(.val (.int p0)), (.val (.int p1)), (.val (.int p2)), (.val (.long p3)), .second, (.val (.ref b1)), (.val (.int (Int32.ofNat i0))), (.val (.int (Int32.ofNat kk))), (.val (.ref t)), (.val (.ref b7)), .unset] [(.int (1 : Int32))])
    refine Owes.by (fun _ kq => XS.goto X11.here hx rfl (pc0 := 163) (pc' := 167) rfl (hb hby at_163) (by decide) (by decide) kq) ?_
    show Owes p e below s (QL n0) room_1.cells room_1.slots T11 (mkF m 167 #[(.val (.int p0)), (.val (.int p1)), (.val (.int p2)), (.val (.long p3)), .second, (.val (.ref b1)), (.val (.int (Int32.ofNat i0))), (.val (.int (Int32.ofNat kk))), (.val (.ref t)), (.val (.ref b7)), .unset] [(.int (1 : Int32))])
    refine Owes.by (fun _ kq => XS.istore X11.here hx rfl (hb hby at_167) rfl (l' := #[(.val (.int p0)), (.val (.int p1)), (.val (.int p2)), (.val (.long p3)), .second, (.val (.ref b1)), (.val (.int (Int32.ofNat i0))), (.val (.int (Int32.ofNat kk))), (.val (.ref t)), (.val (.ref b7)), (.val (.int (1 : Int32)))]) rfl kq) ?_
    show Owes p e below s (QL n0) room_1.cells room_1.slots T11 (mkF m 169 #[(.val (.int p0)), (.val (.int p1)), (.val (.int p2)), (.val (.long p3)), .second, (.val (.ref b1)), (.val (.int (Int32.ofNat i0))), (.val (.int (Int32.ofNat kk))), (.val (.ref t)), (.val (.ref b7)), (.val (.int (1 : Int32)))] [])
    refine Owes.by (fun _ kq => XS.iload X11.here hx rfl (hb hby at_169) rfl kq) ?_
    show Owes p e below s (QL n0) room_1.cells room_1.slots T11 (mkF m 171 #[(.val (.int p0)), (.val (.int p1)), (.val (.int p2)), (.val (.long p3)), .second, (.val (.ref b1)), (.val (.int (Int32.ofNat i0))), (.val (.int (Int32.ofNat kk))), (.val (.ref t)), (.val (.ref b7)), (.val (.int (1 : Int32)))] [(.int (1 : Int32))])
    refine Owes.by (fun _ kq => XS.ifNo X11.here hx rfl (hb hby at_171) rfl (XT.i0_eq_f (by decide)) kq) ?_
    show Owes p e below s (QL n0) room_1.cells room_1.slots T11 (mkF m 174 #[(.val (.int p0)), (.val (.int p1)), (.val (.int p2)), (.val (.long p3)), .second, (.val (.ref b1)), (.val (.int (Int32.ofNat i0))), (.val (.int (Int32.ofNat kk))), (.val (.ref t)), (.val (.ref b7)), (.val (.int (1 : Int32)))] [])
    refine Owes.by (fun _ kq => XS.aload X11.here hx rfl (hb hby at_174) rfl rfl kq) ?_
    show Owes p e below s (QL n0) room_1.cells room_1.slots T11 (mkF m 176 #[(.val (.int p0)), (.val (.int p1)), (.val (.int p2)), (.val (.long p3)), .second, (.val (.ref b1)), (.val (.int (Int32.ofNat i0))), (.val (.int (Int32.ofNat kk))), (.val (.ref t)), (.val (.ref b7)), (.val (.int (1 : Int32)))] [(.ref b7)])
    refine Owes.by (fun _ kq => XS.iconst X11.here hx rfl (hb hby at_176) kq) ?_
    show Owes p e below s (QL n0) room_1.cells room_1.slots T11 (mkF m 177 #[(.val (.int p0)), (.val (.int p1)), (.val (.int p2)), (.val (.long p3)), .second, (.val (.ref b1)), (.val (.int (Int32.ofNat i0))), (.val (.int (Int32.ofNat kk))), (.val (.ref t)), (.val (.ref b7)), (.val (.int (1 : Int32)))] [(.int (0 : Int32)), (.ref b7)])
    obtain ⟨clS, ArS, -, szS, -, hhS, -⟩ := VF
    obtain ⟨clV, ArV, -, szV, -, hhV, -⟩ := Vva
    have at0 : ¬ ((0 : Int32) < 0 ∨ clS.slots.size ≤ (0 : Int32).toNatClampNeg) ∧ clS.slots[(0 : Int32).toNatClampNeg]? = some (.int (Int32.ofNat u0)) := ⟨inb_of szS ⟨by decide, by decide⟩, hhS.at (inb_of szS ⟨by decide, by decide⟩) rfl⟩
    have at1 : ¬ ((1 : Int32) < 0 ∨ clS.slots.size ≤ (1 : Int32).toNatClampNeg) ∧ clS.slots[(1 : Int32).toNatClampNeg]? = some (.int (Int32.ofNat u1)) := ⟨inb_of szS ⟨by decide, by decide⟩, hhS.at (inb_of szS ⟨by decide, by decide⟩) rfl⟩
    have at2 : ¬ ((2 : Int32) < 0 ∨ clS.slots.size ≤ (2 : Int32).toNatClampNeg) ∧ clS.slots[(2 : Int32).toNatClampNeg]? = some (.int (Int32.ofNat u2)) := ⟨inb_of szS ⟨by decide, by decide⟩, hhS.at (inb_of szS ⟨by decide, by decide⟩) rfl⟩
    have at3 : ¬ ((3 : Int32) < 0 ∨ clS.slots.size ≤ (3 : Int32).toNatClampNeg) ∧ clS.slots[(3 : Int32).toNatClampNeg]? = some (.int (Int32.ofNat u3)) := ⟨inb_of szS ⟨by decide, by decide⟩, hhS.at (inb_of szS ⟨by decide, by decide⟩) rfl⟩
    refine own_join X11 (h := T9.heap) (G := fun T' => Owes p e below s (QL n0) room_1.cells room_1.slots T' (mkF m 200 #[(.val (.int p0)), (.val (.int p1)), (.val (.int p2)), (.val (.long p3)), .second, (.val (.ref b1)), (.val (.int (Int32.ofNat i0))), (.val (.int (Int32.ofNat kk))), (.val (.ref t)), (.val (.ref b7)), (.val (.int (1 : Int32)))] [(.int (1 : Int32))])) (fun T12 X12 e12   => ?_) (fun J12 => ?_)
    · skip
      show Owes p e below s (QL n0) room_1.cells room_1.slots T12 (mkF m 200 #[(.val (.int p0)), (.val (.int p1)), (.val (.int p2)), (.val (.long p3)), .second, (.val (.ref b1)), (.val (.int (Int32.ofNat i0))), (.val (.int (Int32.ofNat kk))), (.val (.ref t)), (.val (.ref b7)), (.val (.int (1 : Int32)))] [(.int (1 : Int32))])
      refine Owes.by (fun _ kq => XS.istore X12.here hx rfl (hb hby at_200) rfl (l' := #[(.val (.int p0)), (.val (.int p1)), (.val (.int p2)), (.val (.long p3)), .second, (.val (.ref b1)), (.val (.int (Int32.ofNat i0))), (.val (.int (Int32.ofNat kk))), (.val (.ref t)), (.val (.ref b7)), (.val (.int (1 : Int32)))]) rfl kq) ?_
      show Owes p e below s (QL n0) room_1.cells room_1.slots T12 (mkF m 202 #[(.val (.int p0)), (.val (.int p1)), (.val (.int p2)), (.val (.long p3)), .second, (.val (.ref b1)), (.val (.int (Int32.ofNat i0))), (.val (.int (Int32.ofNat kk))), (.val (.ref t)), (.val (.ref b7)), (.val (.int (1 : Int32)))] [])
      refine Owes.by (fun _ kq => XS.iload X12.here hx rfl (hb hby at_202) rfl kq) ?_
      show Owes p e below s (QL n0) room_1.cells room_1.slots T12 (mkF m 204 #[(.val (.int p0)), (.val (.int p1)), (.val (.int p2)), (.val (.long p3)), .second, (.val (.ref b1)), (.val (.int (Int32.ofNat i0))), (.val (.int (Int32.ofNat kk))), (.val (.ref t)), (.val (.ref b7)), (.val (.int (1 : Int32)))] [(.int (1 : Int32))])
      refine Owes.by (fun _ kq => XS.ifNo X12.here hx rfl (hb hby at_204) rfl (XT.i0_eq_f (by decide)) kq) ?_
      show Owes p e below s (QL n0) room_1.cells room_1.slots T12 (mkF m 207 #[(.val (.int p0)), (.val (.int p1)), (.val (.int p2)), (.val (.long p3)), .second, (.val (.ref b1)), (.val (.int (Int32.ofNat i0))), (.val (.int (Int32.ofNat kk))), (.val (.ref t)), (.val (.ref b7)), (.val (.int (1 : Int32)))] [])
      refine Owes.by (fun _ kq => XS.aload X12.here hx rfl (hb hby at_207) rfl rfl kq) ?_
      show Owes p e below s (QL n0) room_1.cells room_1.slots T12 (mkF m 209 #[(.val (.int p0)), (.val (.int p1)), (.val (.int p2)), (.val (.long p3)), .second, (.val (.ref b1)), (.val (.int (Int32.ofNat i0))), (.val (.int (Int32.ofNat kk))), (.val (.ref t)), (.val (.ref b7)), (.val (.int (1 : Int32)))] [(.ref b7)])
      refine Owes.by (fun _ kq => XS.iconst X12.here hx rfl (hb hby at_209) kq) ?_
      show Owes p e below s (QL n0) room_1.cells room_1.slots T12 (mkF m 210 #[(.val (.int p0)), (.val (.int p1)), (.val (.int p2)), (.val (.long p3)), .second, (.val (.ref b1)), (.val (.int (Int32.ofNat i0))), (.val (.int (Int32.ofNat kk))), (.val (.ref t)), (.val (.ref b7)), (.val (.int (1 : Int32)))] [(.int (1 : Int32)), (.ref b7)])
      refine own_join X12 (h := T9.heap) (G := fun T' => Owes p e below s (QL n0) room_1.cells room_1.slots T' (mkF m 233 #[(.val (.int p0)), (.val (.int p1)), (.val (.int p2)), (.val (.long p3)), .second, (.val (.ref b1)), (.val (.int (Int32.ofNat i0))), (.val (.int (Int32.ofNat kk))), (.val (.ref t)), (.val (.ref b7)), (.val (.int (1 : Int32)))] [(.int (1 : Int32))])) (fun T13 X13 e13   => ?_) (fun J13 => ?_)
      · skip
        show Owes p e below s (QL n0) room_1.cells room_1.slots T13 (mkF m 233 #[(.val (.int p0)), (.val (.int p1)), (.val (.int p2)), (.val (.long p3)), .second, (.val (.ref b1)), (.val (.int (Int32.ofNat i0))), (.val (.int (Int32.ofNat kk))), (.val (.ref t)), (.val (.ref b7)), (.val (.int (1 : Int32)))] [(.int (1 : Int32))])
        refine Owes.by (fun _ kq => XS.istore X13.here hx rfl (hb hby at_233) rfl (l' := #[(.val (.int p0)), (.val (.int p1)), (.val (.int p2)), (.val (.long p3)), .second, (.val (.ref b1)), (.val (.int (Int32.ofNat i0))), (.val (.int (Int32.ofNat kk))), (.val (.ref t)), (.val (.ref b7)), (.val (.int (1 : Int32)))]) rfl kq) ?_
        show Owes p e below s (QL n0) room_1.cells room_1.slots T13 (mkF m 235 #[(.val (.int p0)), (.val (.int p1)), (.val (.int p2)), (.val (.long p3)), .second, (.val (.ref b1)), (.val (.int (Int32.ofNat i0))), (.val (.int (Int32.ofNat kk))), (.val (.ref t)), (.val (.ref b7)), (.val (.int (1 : Int32)))] [])
        refine Owes.by (fun _ kq => XS.iload X13.here hx rfl (hb hby at_235) rfl kq) ?_
        show Owes p e below s (QL n0) room_1.cells room_1.slots T13 (mkF m 237 #[(.val (.int p0)), (.val (.int p1)), (.val (.int p2)), (.val (.long p3)), .second, (.val (.ref b1)), (.val (.int (Int32.ofNat i0))), (.val (.int (Int32.ofNat kk))), (.val (.ref t)), (.val (.ref b7)), (.val (.int (1 : Int32)))] [(.int (1 : Int32))])
        refine Owes.by (fun _ kq => XS.ifNo X13.here hx rfl (hb hby at_237) rfl (XT.i0_eq_f (by decide)) kq) ?_
        show Owes p e below s (QL n0) room_1.cells room_1.slots T13 (mkF m 240 #[(.val (.int p0)), (.val (.int p1)), (.val (.int p2)), (.val (.long p3)), .second, (.val (.ref b1)), (.val (.int (Int32.ofNat i0))), (.val (.int (Int32.ofNat kk))), (.val (.ref t)), (.val (.ref b7)), (.val (.int (1 : Int32)))] [])
        refine Owes.by (fun _ kq => XS.aload X13.here hx rfl (hb hby at_240) rfl rfl kq) ?_
        show Owes p e below s (QL n0) room_1.cells room_1.slots T13 (mkF m 242 #[(.val (.int p0)), (.val (.int p1)), (.val (.int p2)), (.val (.long p3)), .second, (.val (.ref b1)), (.val (.int (Int32.ofNat i0))), (.val (.int (Int32.ofNat kk))), (.val (.ref t)), (.val (.ref b7)), (.val (.int (1 : Int32)))] [(.ref b7)])
        refine Owes.by (fun _ kq => XS.iconst X13.here hx rfl (hb hby at_242) kq) ?_
        show Owes p e below s (QL n0) room_1.cells room_1.slots T13 (mkF m 243 #[(.val (.int p0)), (.val (.int p1)), (.val (.int p2)), (.val (.long p3)), .second, (.val (.ref b1)), (.val (.int (Int32.ofNat i0))), (.val (.int (Int32.ofNat kk))), (.val (.ref t)), (.val (.ref b7)), (.val (.int (1 : Int32)))] [(.int (2 : Int32)), (.ref b7)])
        refine own_join X13 (h := T9.heap) (G := fun T' => Owes p e below s (QL n0) room_1.cells room_1.slots T' (mkF m 266 #[(.val (.int p0)), (.val (.int p1)), (.val (.int p2)), (.val (.long p3)), .second, (.val (.ref b1)), (.val (.int (Int32.ofNat i0))), (.val (.int (Int32.ofNat kk))), (.val (.ref t)), (.val (.ref b7)), (.val (.int (1 : Int32)))] [(.int (1 : Int32))])) (fun T14 X14 e14   => ?_) (fun J14 => ?_)
        · skip
          show Owes p e below s (QL n0) room_1.cells room_1.slots T14 (mkF m 266 #[(.val (.int p0)), (.val (.int p1)), (.val (.int p2)), (.val (.long p3)), .second, (.val (.ref b1)), (.val (.int (Int32.ofNat i0))), (.val (.int (Int32.ofNat kk))), (.val (.ref t)), (.val (.ref b7)), (.val (.int (1 : Int32)))] [(.int (1 : Int32))])
          refine Owes.by (fun _ kq => XS.istore X14.here hx rfl (hb hby at_266) rfl (l' := #[(.val (.int p0)), (.val (.int p1)), (.val (.int p2)), (.val (.long p3)), .second, (.val (.ref b1)), (.val (.int (Int32.ofNat i0))), (.val (.int (Int32.ofNat kk))), (.val (.ref t)), (.val (.ref b7)), (.val (.int (1 : Int32)))]) rfl kq) ?_
          show Owes p e below s (QL n0) room_1.cells room_1.slots T14 (mkF m 268 #[(.val (.int p0)), (.val (.int p1)), (.val (.int p2)), (.val (.long p3)), .second, (.val (.ref b1)), (.val (.int (Int32.ofNat i0))), (.val (.int (Int32.ofNat kk))), (.val (.ref t)), (.val (.ref b7)), (.val (.int (1 : Int32)))] [])
          refine Owes.by (fun _ kq => XS.iload X14.here hx rfl (hb hby at_268) rfl kq) ?_
          show Owes p e below s (QL n0) room_1.cells room_1.slots T14 (mkF m 270 #[(.val (.int p0)), (.val (.int p1)), (.val (.int p2)), (.val (.long p3)), .second, (.val (.ref b1)), (.val (.int (Int32.ofNat i0))), (.val (.int (Int32.ofNat kk))), (.val (.ref t)), (.val (.ref b7)), (.val (.int (1 : Int32)))] [(.int (1 : Int32))])
          refine Owes.by (fun _ kq => XS.ifNo X14.here hx rfl (hb hby at_270) rfl (XT.i0_eq_f (by decide)) kq) ?_
          show Owes p e below s (QL n0) room_1.cells room_1.slots T14 (mkF m 273 #[(.val (.int p0)), (.val (.int p1)), (.val (.int p2)), (.val (.long p3)), .second, (.val (.ref b1)), (.val (.int (Int32.ofNat i0))), (.val (.int (Int32.ofNat kk))), (.val (.ref t)), (.val (.ref b7)), (.val (.int (1 : Int32)))] [])
          refine Owes.by (fun _ kq => XS.aload X14.here hx rfl (hb hby at_273) rfl rfl kq) ?_
          show Owes p e below s (QL n0) room_1.cells room_1.slots T14 (mkF m 275 #[(.val (.int p0)), (.val (.int p1)), (.val (.int p2)), (.val (.long p3)), .second, (.val (.ref b1)), (.val (.int (Int32.ofNat i0))), (.val (.int (Int32.ofNat kk))), (.val (.ref t)), (.val (.ref b7)), (.val (.int (1 : Int32)))] [(.ref b7)])
          refine Owes.by (fun _ kq => XS.iconst X14.here hx rfl (hb hby at_275) kq) ?_
          show Owes p e below s (QL n0) room_1.cells room_1.slots T14 (mkF m 276 #[(.val (.int p0)), (.val (.int p1)), (.val (.int p2)), (.val (.long p3)), .second, (.val (.ref b1)), (.val (.int (Int32.ofNat i0))), (.val (.int (Int32.ofNat kk))), (.val (.ref t)), (.val (.ref b7)), (.val (.int (1 : Int32)))] [(.int (3 : Int32)), (.ref b7)])
          refine own_join X14 (h := T9.heap) (G := fun T' => Owes p e below s (QL n0) room_1.cells room_1.slots T' (mkF m 299 #[(.val (.int p0)), (.val (.int p1)), (.val (.int p2)), (.val (.long p3)), .second, (.val (.ref b1)), (.val (.int (Int32.ofNat i0))), (.val (.int (Int32.ofNat kk))), (.val (.ref t)), (.val (.ref b7)), (.val (.int (1 : Int32)))] [(.int (1 : Int32))])) (fun T15 X15 e15   => ?_) (fun J15 => ?_)
          · skip
            show Owes p e below s (QL n0) room_1.cells room_1.slots T15 (mkF m 299 #[(.val (.int p0)), (.val (.int p1)), (.val (.int p2)), (.val (.long p3)), .second, (.val (.ref b1)), (.val (.int (Int32.ofNat i0))), (.val (.int (Int32.ofNat kk))), (.val (.ref t)), (.val (.ref b7)), (.val (.int (1 : Int32)))] [(.int (1 : Int32))])
            refine Owes.by (fun _ kq => XS.istore X15.here hx rfl (hb hby at_299) rfl (l' := #[(.val (.int p0)), (.val (.int p1)), (.val (.int p2)), (.val (.long p3)), .second, (.val (.ref b1)), (.val (.int (Int32.ofNat i0))), (.val (.int (Int32.ofNat kk))), (.val (.ref t)), (.val (.ref b7)), (.val (.int (1 : Int32)))]) rfl kq) ?_
            show Owes p e below s (QL n0) room_1.cells room_1.slots T15 (mkF m 301 #[(.val (.int p0)), (.val (.int p1)), (.val (.int p2)), (.val (.long p3)), .second, (.val (.ref b1)), (.val (.int (Int32.ofNat i0))), (.val (.int (Int32.ofNat kk))), (.val (.ref t)), (.val (.ref b7)), (.val (.int (1 : Int32)))] [])
            refine Owes.by (fun _ kq => XS.iload X15.here hx rfl (hb hby at_301) rfl kq) ?_
            show Owes p e below s (QL n0) room_1.cells room_1.slots T15 (mkF m 303 #[(.val (.int p0)), (.val (.int p1)), (.val (.int p2)), (.val (.long p3)), .second, (.val (.ref b1)), (.val (.int (Int32.ofNat i0))), (.val (.int (Int32.ofNat kk))), (.val (.ref t)), (.val (.ref b7)), (.val (.int (1 : Int32)))] [(.int (1 : Int32))])
            refine Owes.ret X15 (v := some (.int (1 : Int32))) (fun h => by rw [Bd.returns] at h; cases h) hlk ?_ (by decide) (by decide) (fun fs hr => retN X15 hx (t := .boolean) Bd.returns (by simp) (hb hby at_303) hr)
            rw [e15]
            exact ⟨rfl, NF⟩
          have hin3 : ¬ ((3 : Int32) < 0 ∨ clV.slots.size ≤ (3 : Int32).toNatClampNeg) := inb_of szV ⟨by decide, by decide⟩
          by_cases hK : own_kept (Int32.ofNat i0) (Int32.ofNat kk) 3 (Int32.ofNat u0) (Int32.ofNat u1) (Int32.ofNat u2) (Int32.ofNat u3)
          · skip
            obtain ⟨cq16, kq16, qa16, qb16, qc16⟩ := isOf hZ e14 Eb
            obtain ⟨_, _, ⟨T16, L16, k16, n16⟩, -, X16, ⟨Lc16, hQ16, l16, y16, z16⟩, st16⟩ := X14.virtualBack hx (y := (⟨"com/example/incant5/incant5/Bindings", "get", "(I)Lcom/example/incant5/incant5/Term;"⟩ : MethodName)) (z := (⟨"com/example/incant5/incant5/Bindings", "get", "(I)Lcom/example/incant5/incant5/Term;"⟩ : MethodName)) hown (mvT hZ (hw _ (List.mem_of_getElem? (i := 88) rfl))) (mvT hZ (hw _ (List.mem_of_getElem? (i := 89) rfl))) (notFace_of_selects (args := #[]) (mvT hZ (hw _ (List.mem_of_getElem? (i := 91) rfl)))) (mvT hZ (hw _ (List.mem_of_getElem? (i := 91) rfl))) (mvT hZ (hw _ (List.mem_of_getElem? (i := 90) rfl))) (by decide) (backOf (W := 0) (rmG1 l Z a0 hw [] b7 va t clV 3 T9.heap n0 ZF Fva ArV hin3 (hhV.at hin3 (own_plain1 hu0 hu1 hu2 hu3 hi0 hkk (by decide : 3 < 4) hK))) hZ (hw _ (List.mem_of_getElem? (i := 92) rfl)) (hw _ (List.mem_of_getElem? (i := 55) rfl)) (by decide) (by decide)) qa16 qc16 (g := (mkF m 276 #[(.val (.int p0)), (.val (.int p1)), (.val (.int p2)), (.val (.long p3)), .second, (.val (.ref b1)), (.val (.int (Int32.ofNat i0))), (.val (.int (Int32.ofNat kk))), (.val (.ref t)), (.val (.ref b7)), (.val (.int (1 : Int32)))] [(.int (3 : Int32)), (.ref b7)])) rfl (by rw [hml]; rfl) (Steps.refl _) (argsL := [(.int (3 : Int32))]) (rest := []) (lenOf pd_I_Lcom_example_incant5_incant5_Term rfl) rfl (by show 2 * 0 + _ ≤ _; exact Nat.le_of_eq rfl) (hb hby at_276) (fun _ _ => ⟨rfl, e14, (by decide : 7 + 0 ≤ _), (by decide : 38 + 0 ≤ _)⟩)
            dsimp only [Pt.U, Pt.locs, Pt.cells, Pt.slots] at X16 l16 y16 z16 st16 hQ16
            subst l16 y16 z16
            obtain ⟨rfl, rfl, e16⟩ := hQ16
            try rw [List.append_nil] at X16
            refine Owes.by (fun _ kq => st16.trans kq) ?_
            show Owes p e below s (QL n0) room_1.cells room_1.slots T16 (mkF m 279 #[(.val (.int p0)), (.val (.int p1)), (.val (.int p2)), (.val (.long p3)), .second, (.val (.ref b1)), (.val (.int (Int32.ofNat i0))), (.val (.int (Int32.ofNat kk))), (.val (.ref t)), (.val (.ref b7)), (.val (.int (1 : Int32)))] [(.ref t)])
            refine Owes.by (fun _ kq => XS.aload X16.here hx rfl (hb hby at_279) rfl rfl kq) ?_
            show Owes p e below s (QL n0) room_1.cells room_1.slots T16 (mkF m 281 #[(.val (.int p0)), (.val (.int p1)), (.val (.int p2)), (.val (.long p3)), .second, (.val (.ref b1)), (.val (.int (Int32.ofNat i0))), (.val (.int (Int32.ofNat kk))), (.val (.ref t)), (.val (.ref b7)), (.val (.int (1 : Int32)))] [(.ref t), (.ref t)])
            refine Owes.by (fun _ kq => XS.iconst X16.here hx rfl (hb hby at_281) kq) ?_
            show Owes p e below s (QL n0) room_1.cells room_1.slots T16 (mkF m 282 #[(.val (.int p0)), (.val (.int p1)), (.val (.int p2)), (.val (.long p3)), .second, (.val (.ref b1)), (.val (.int (Int32.ofNat i0))), (.val (.int (Int32.ofNat kk))), (.val (.ref t)), (.val (.ref b7)), (.val (.int (1 : Int32)))] [(.int (3 : Int32)), (.ref t), (.ref t)])
            refine Owes.by (fun _ kq => XS.aload X16.here hx rfl (hb hby at_282) rfl rfl kq) ?_
            show Owes p e below s (QL n0) room_1.cells room_1.slots T16 (mkF m 284 #[(.val (.int p0)), (.val (.int p1)), (.val (.int p2)), (.val (.long p3)), .second, (.val (.ref b1)), (.val (.int (Int32.ofNat i0))), (.val (.int (Int32.ofNat kk))), (.val (.ref t)), (.val (.ref b7)), (.val (.int (1 : Int32)))] [(.ref b1), (.int (3 : Int32)), (.ref t), (.ref t)])
            refine Owes.by (fun _ kq => XS.iload X16.here hx rfl (hb hby at_284) rfl kq) ?_
            show Owes p e below s (QL n0) room_1.cells room_1.slots T16 (mkF m 286 #[(.val (.int p0)), (.val (.int p1)), (.val (.int p2)), (.val (.long p3)), .second, (.val (.ref b1)), (.val (.int (Int32.ofNat i0))), (.val (.int (Int32.ofNat kk))), (.val (.ref t)), (.val (.ref b7)), (.val (.int (1 : Int32)))] [(.int (Int32.ofNat i0)), (.ref b1), (.int (3 : Int32)), (.ref t), (.ref t)])
            refine Owes.by (fun _ kq => XS.iload X16.here hx rfl (hb hby at_286) rfl kq) ?_
            show Owes p e below s (QL n0) room_1.cells room_1.slots T16 (mkF m 288 #[(.val (.int p0)), (.val (.int p1)), (.val (.int p2)), (.val (.long p3)), .second, (.val (.ref b1)), (.val (.int (Int32.ofNat i0))), (.val (.int (Int32.ofNat kk))), (.val (.ref t)), (.val (.ref b7)), (.val (.int (1 : Int32)))] [(.int (Int32.ofNat kk)), (.int (Int32.ofNat i0)), (.ref b1), (.int (3 : Int32)), (.ref t), (.ref t)])
            obtain ⟨_, _, ⟨T17, L17, k17, n17⟩, -, X17, ⟨Lc17, hQ17, l17, y17, z17⟩, st17⟩ := Jvm.LawKit.callS X16 hx (y := (⟨"com/example/incant5/incant5/BindingsUndoPinLaw", "slotOk", "(Lcom/example/incant5/incant5/Term;Lcom/example/incant5/incant5/Term;I[III)Z"⟩ : MethodName)) hown (mvT hZ (hw _ (List.mem_of_getElem? (i := 93) rfl))) (mvT hZ (hw _ (List.mem_of_getElem? (i := 94) rfl))) (mvT hZ (hw _ (List.mem_of_getElem? (i := 95) rfl))) (mvT hZ (hw _ (List.mem_of_getElem? (i := 96) rfl))) (by decide) (backOf (W := 0) (rmS1 l Z a0 hw [] t b1 clS 3 (Int32.ofNat i0) (Int32.ofNat kk) (Int32.ofNat u0) (Int32.ofNat u1) (Int32.ofNat u2) (Int32.ofNat u3) T9.heap n0 ZF ArS at0 at1 at2 at3 hK) hZ (hw _ (List.mem_of_getElem? (i := 96) rfl)) (hw _ (List.mem_of_getElem? (i := 95) rfl)) (by decide) (by decide)) (g := (mkF m 288 #[(.val (.int p0)), (.val (.int p1)), (.val (.int p2)), (.val (.long p3)), .second, (.val (.ref b1)), (.val (.int (Int32.ofNat i0))), (.val (.int (Int32.ofNat kk))), (.val (.ref t)), (.val (.ref b7)), (.val (.int (1 : Int32)))] [(.int (Int32.ofNat kk)), (.int (Int32.ofNat i0)), (.ref b1), (.int (3 : Int32)), (.ref t), (.ref t)])) rfl (by rw [hml]; rfl) (argsL := [(.ref t), (.ref t), (.int (3 : Int32)), (.ref b1), (.int (Int32.ofNat i0)), (.int (Int32.ofNat kk))]) (rest := []) (lenOf pd_Lcom_example_incant5_incant5_Term_Lcom_example_incant5_incant5_Term_I_III_Z rfl) rfl (by show 2 * 0 + _ ≤ _; exact Nat.le_of_eq rfl) (hb hby at_288) (fun _ _ => ⟨rfl, e16, (by decide : 7 + 0 ≤ _), (by decide : 38 + 0 ≤ _)⟩)
            dsimp only [Pt.U, Pt.locs, Pt.cells, Pt.slots] at X17 l17 y17 z17 st17 hQ17
            subst l17 y17 z17
            obtain ⟨rfl, rfl, e17⟩ := hQ17
            try rw [List.append_nil] at X17
            refine Owes.by st17 ?_
            show Owes p e below s (QL n0) room_1.cells room_1.slots T17 (mkF m 291 #[(.val (.int p0)), (.val (.int p1)), (.val (.int p2)), (.val (.long p3)), .second, (.val (.ref b1)), (.val (.int (Int32.ofNat i0))), (.val (.int (Int32.ofNat kk))), (.val (.ref t)), (.val (.ref b7)), (.val (.int (1 : Int32)))] [(.int (1 : Int32))])
            refine Owes.by (fun _ kq => XS.ifNo X17.here hx rfl (hb hby at_291) rfl (XT.i0_eq_f (by decide)) kq) ?_
            show Owes p e below s (QL n0) room_1.cells room_1.slots T17 (mkF m 294 #[(.val (.int p0)), (.val (.int p1)), (.val (.int p2)), (.val (.long p3)), .second, (.val (.ref b1)), (.val (.int (Int32.ofNat i0))), (.val (.int (Int32.ofNat kk))), (.val (.ref t)), (.val (.ref b7)), (.val (.int (1 : Int32)))] [])
            refine Owes.by (fun _ kq => XS.iconst X17.here hx rfl (hb hby at_294) kq) ?_
            show Owes p e below s (QL n0) room_1.cells room_1.slots T17 (mkF m 295 #[(.val (.int p0)), (.val (.int p1)), (.val (.int p2)), (.val (.long p3)), .second, (.val (.ref b1)), (.val (.int (Int32.ofNat i0))), (.val (.int (Int32.ofNat kk))), (.val (.ref t)), (.val (.ref b7)), (.val (.int (1 : Int32)))] [(.int (1 : Int32))])
            refine Owes.by (fun _ kq => XS.goto X17.here hx rfl (pc0 := 295) (pc' := 299) rfl (hb hby at_295) (by decide) (by decide) kq) ?_
            show Owes p e below s (QL n0) room_1.cells room_1.slots T17 (mkF m 299 #[(.val (.int p0)), (.val (.int p1)), (.val (.int p2)), (.val (.long p3)), .second, (.val (.ref b1)), (.val (.int (Int32.ofNat i0))), (.val (.int (Int32.ofNat kk))), (.val (.ref t)), (.val (.ref b7)), (.val (.int (1 : Int32)))] [(.int (1 : Int32))])
            exact J15 T17 X17 e17
          · skip
            obtain ⟨cq18, kq18, qa18, qb18, qc18⟩ := isOf hZ e14 Eb
            obtain ⟨_, _, ⟨T18, L18, k18, n18⟩, -, X18, ⟨Lc18, hQ18, l18, y18, z18⟩, st18⟩ := X14.virtualBack hx (y := (⟨"com/example/incant5/incant5/Bindings", "get", "(I)Lcom/example/incant5/incant5/Term;"⟩ : MethodName)) (z := (⟨"com/example/incant5/incant5/Bindings", "get", "(I)Lcom/example/incant5/incant5/Term;"⟩ : MethodName)) hown (mvT hZ (hw _ (List.mem_of_getElem? (i := 88) rfl))) (mvT hZ (hw _ (List.mem_of_getElem? (i := 89) rfl))) (notFace_of_selects (args := #[]) (mvT hZ (hw _ (List.mem_of_getElem? (i := 91) rfl)))) (mvT hZ (hw _ (List.mem_of_getElem? (i := 91) rfl))) (mvT hZ (hw _ (List.mem_of_getElem? (i := 90) rfl))) (by decide) (backOf (W := 0) (rmG0 l Z a0 hw [] b7 va t clV 3 T9.heap n0 ZF Fva ArV hin3 (hhV.at hin3 (own_plain0 hu0 hu1 hu2 hu3 hi0 hkk (by decide : 3 < 4) hK))) hZ (hw _ (List.mem_of_getElem? (i := 92) rfl)) (hw _ (List.mem_of_getElem? (i := 55) rfl)) (by decide) (by decide)) qa18 qc18 (g := (mkF m 276 #[(.val (.int p0)), (.val (.int p1)), (.val (.int p2)), (.val (.long p3)), .second, (.val (.ref b1)), (.val (.int (Int32.ofNat i0))), (.val (.int (Int32.ofNat kk))), (.val (.ref t)), (.val (.ref b7)), (.val (.int (1 : Int32)))] [(.int (3 : Int32)), (.ref b7)])) rfl (by rw [hml]; rfl) (Steps.refl _) (argsL := [(.int (3 : Int32))]) (rest := []) (lenOf pd_I_Lcom_example_incant5_incant5_Term rfl) rfl (by show 2 * 0 + _ ≤ _; exact Nat.le_of_eq rfl) (hb hby at_276) (fun _ _ => ⟨rfl, e14, (by decide : 7 + 0 ≤ _), (by decide : 38 + 0 ≤ _)⟩)
            dsimp only [Pt.U, Pt.locs, Pt.cells, Pt.slots] at X18 l18 y18 z18 st18 hQ18
            subst l18 y18 z18
            obtain ⟨rfl, rfl, e18⟩ := hQ18
            try rw [List.append_nil] at X18
            refine Owes.by (fun _ kq => st18.trans kq) ?_
            show Owes p e below s (QL n0) room_1.cells room_1.slots T18 (mkF m 279 #[(.val (.int p0)), (.val (.int p1)), (.val (.int p2)), (.val (.long p3)), .second, (.val (.ref b1)), (.val (.int (Int32.ofNat i0))), (.val (.int (Int32.ofNat kk))), (.val (.ref t)), (.val (.ref b7)), (.val (.int (1 : Int32)))] [.null])
            refine Owes.by (fun _ kq => XS.aload X18.here hx rfl (hb hby at_279) rfl rfl kq) ?_
            show Owes p e below s (QL n0) room_1.cells room_1.slots T18 (mkF m 281 #[(.val (.int p0)), (.val (.int p1)), (.val (.int p2)), (.val (.long p3)), .second, (.val (.ref b1)), (.val (.int (Int32.ofNat i0))), (.val (.int (Int32.ofNat kk))), (.val (.ref t)), (.val (.ref b7)), (.val (.int (1 : Int32)))] [(.ref t), .null])
            refine Owes.by (fun _ kq => XS.iconst X18.here hx rfl (hb hby at_281) kq) ?_
            show Owes p e below s (QL n0) room_1.cells room_1.slots T18 (mkF m 282 #[(.val (.int p0)), (.val (.int p1)), (.val (.int p2)), (.val (.long p3)), .second, (.val (.ref b1)), (.val (.int (Int32.ofNat i0))), (.val (.int (Int32.ofNat kk))), (.val (.ref t)), (.val (.ref b7)), (.val (.int (1 : Int32)))] [(.int (3 : Int32)), (.ref t), .null])
            refine Owes.by (fun _ kq => XS.aload X18.here hx rfl (hb hby at_282) rfl rfl kq) ?_
            show Owes p e below s (QL n0) room_1.cells room_1.slots T18 (mkF m 284 #[(.val (.int p0)), (.val (.int p1)), (.val (.int p2)), (.val (.long p3)), .second, (.val (.ref b1)), (.val (.int (Int32.ofNat i0))), (.val (.int (Int32.ofNat kk))), (.val (.ref t)), (.val (.ref b7)), (.val (.int (1 : Int32)))] [(.ref b1), (.int (3 : Int32)), (.ref t), .null])
            refine Owes.by (fun _ kq => XS.iload X18.here hx rfl (hb hby at_284) rfl kq) ?_
            show Owes p e below s (QL n0) room_1.cells room_1.slots T18 (mkF m 286 #[(.val (.int p0)), (.val (.int p1)), (.val (.int p2)), (.val (.long p3)), .second, (.val (.ref b1)), (.val (.int (Int32.ofNat i0))), (.val (.int (Int32.ofNat kk))), (.val (.ref t)), (.val (.ref b7)), (.val (.int (1 : Int32)))] [(.int (Int32.ofNat i0)), (.ref b1), (.int (3 : Int32)), (.ref t), .null])
            refine Owes.by (fun _ kq => XS.iload X18.here hx rfl (hb hby at_286) rfl kq) ?_
            show Owes p e below s (QL n0) room_1.cells room_1.slots T18 (mkF m 288 #[(.val (.int p0)), (.val (.int p1)), (.val (.int p2)), (.val (.long p3)), .second, (.val (.ref b1)), (.val (.int (Int32.ofNat i0))), (.val (.int (Int32.ofNat kk))), (.val (.ref t)), (.val (.ref b7)), (.val (.int (1 : Int32)))] [(.int (Int32.ofNat kk)), (.int (Int32.ofNat i0)), (.ref b1), (.int (3 : Int32)), (.ref t), .null])
            obtain ⟨_, _, ⟨T19, L19, k19, n19⟩, -, X19, ⟨Lc19, hQ19, l19, y19, z19⟩, st19⟩ := Jvm.LawKit.callS X18 hx (y := (⟨"com/example/incant5/incant5/BindingsUndoPinLaw", "slotOk", "(Lcom/example/incant5/incant5/Term;Lcom/example/incant5/incant5/Term;I[III)Z"⟩ : MethodName)) hown (mvT hZ (hw _ (List.mem_of_getElem? (i := 93) rfl))) (mvT hZ (hw _ (List.mem_of_getElem? (i := 94) rfl))) (mvT hZ (hw _ (List.mem_of_getElem? (i := 95) rfl))) (mvT hZ (hw _ (List.mem_of_getElem? (i := 96) rfl))) (by decide) (backOf (W := 0) (rmS0 l Z a0 hw [] t b1 clS 3 (Int32.ofNat i0) (Int32.ofNat kk) (Int32.ofNat u0) (Int32.ofNat u1) (Int32.ofNat u2) (Int32.ofNat u3) T9.heap n0 ZF ArS at0 at1 at2 at3 hK) hZ (hw _ (List.mem_of_getElem? (i := 96) rfl)) (hw _ (List.mem_of_getElem? (i := 95) rfl)) (by decide) (by decide)) (g := (mkF m 288 #[(.val (.int p0)), (.val (.int p1)), (.val (.int p2)), (.val (.long p3)), .second, (.val (.ref b1)), (.val (.int (Int32.ofNat i0))), (.val (.int (Int32.ofNat kk))), (.val (.ref t)), (.val (.ref b7)), (.val (.int (1 : Int32)))] [(.int (Int32.ofNat kk)), (.int (Int32.ofNat i0)), (.ref b1), (.int (3 : Int32)), (.ref t), .null])) rfl (by rw [hml]; rfl) (argsL := [.null, (.ref t), (.int (3 : Int32)), (.ref b1), (.int (Int32.ofNat i0)), (.int (Int32.ofNat kk))]) (rest := []) (lenOf pd_Lcom_example_incant5_incant5_Term_Lcom_example_incant5_incant5_Term_I_III_Z rfl) rfl (by show 2 * 0 + _ ≤ _; exact Nat.le_of_eq rfl) (hb hby at_288) (fun _ _ => ⟨rfl, e18, (by decide : 7 + 0 ≤ _), (by decide : 38 + 0 ≤ _)⟩)
            dsimp only [Pt.U, Pt.locs, Pt.cells, Pt.slots] at X19 l19 y19 z19 st19 hQ19
            subst l19 y19 z19
            obtain ⟨rfl, rfl, e19⟩ := hQ19
            try rw [List.append_nil] at X19
            refine Owes.by st19 ?_
            show Owes p e below s (QL n0) room_1.cells room_1.slots T19 (mkF m 291 #[(.val (.int p0)), (.val (.int p1)), (.val (.int p2)), (.val (.long p3)), .second, (.val (.ref b1)), (.val (.int (Int32.ofNat i0))), (.val (.int (Int32.ofNat kk))), (.val (.ref t)), (.val (.ref b7)), (.val (.int (1 : Int32)))] [(.int (1 : Int32))])
            refine Owes.by (fun _ kq => XS.ifNo X19.here hx rfl (hb hby at_291) rfl (XT.i0_eq_f (by decide)) kq) ?_
            show Owes p e below s (QL n0) room_1.cells room_1.slots T19 (mkF m 294 #[(.val (.int p0)), (.val (.int p1)), (.val (.int p2)), (.val (.long p3)), .second, (.val (.ref b1)), (.val (.int (Int32.ofNat i0))), (.val (.int (Int32.ofNat kk))), (.val (.ref t)), (.val (.ref b7)), (.val (.int (1 : Int32)))] [])
            refine Owes.by (fun _ kq => XS.iconst X19.here hx rfl (hb hby at_294) kq) ?_
            show Owes p e below s (QL n0) room_1.cells room_1.slots T19 (mkF m 295 #[(.val (.int p0)), (.val (.int p1)), (.val (.int p2)), (.val (.long p3)), .second, (.val (.ref b1)), (.val (.int (Int32.ofNat i0))), (.val (.int (Int32.ofNat kk))), (.val (.ref t)), (.val (.ref b7)), (.val (.int (1 : Int32)))] [(.int (1 : Int32))])
            refine Owes.by (fun _ kq => XS.goto X19.here hx rfl (pc0 := 295) (pc' := 299) rfl (hb hby at_295) (by decide) (by decide) kq) ?_
            show Owes p e below s (QL n0) room_1.cells room_1.slots T19 (mkF m 299 #[(.val (.int p0)), (.val (.int p1)), (.val (.int p2)), (.val (.long p3)), .second, (.val (.ref b1)), (.val (.int (Int32.ofNat i0))), (.val (.int (Int32.ofNat kk))), (.val (.ref t)), (.val (.ref b7)), (.val (.int (1 : Int32)))] [(.int (1 : Int32))])
            exact J15 T19 X19 e19
        have hin2 : ¬ ((2 : Int32) < 0 ∨ clV.slots.size ≤ (2 : Int32).toNatClampNeg) := inb_of szV ⟨by decide, by decide⟩
        by_cases hK : own_kept (Int32.ofNat i0) (Int32.ofNat kk) 2 (Int32.ofNat u0) (Int32.ofNat u1) (Int32.ofNat u2) (Int32.ofNat u3)
        · skip
          obtain ⟨cq20, kq20, qa20, qb20, qc20⟩ := isOf hZ e13 Eb
          obtain ⟨_, _, ⟨T20, L20, k20, n20⟩, -, X20, ⟨Lc20, hQ20, l20, y20, z20⟩, st20⟩ := X13.virtualBack hx (y := (⟨"com/example/incant5/incant5/Bindings", "get", "(I)Lcom/example/incant5/incant5/Term;"⟩ : MethodName)) (z := (⟨"com/example/incant5/incant5/Bindings", "get", "(I)Lcom/example/incant5/incant5/Term;"⟩ : MethodName)) hown (mvT hZ (hw _ (List.mem_of_getElem? (i := 88) rfl))) (mvT hZ (hw _ (List.mem_of_getElem? (i := 89) rfl))) (notFace_of_selects (args := #[]) (mvT hZ (hw _ (List.mem_of_getElem? (i := 91) rfl)))) (mvT hZ (hw _ (List.mem_of_getElem? (i := 91) rfl))) (mvT hZ (hw _ (List.mem_of_getElem? (i := 90) rfl))) (by decide) (backOf (W := 0) (rmG1 l Z a0 hw [] b7 va t clV 2 T9.heap n0 ZF Fva ArV hin2 (hhV.at hin2 (own_plain1 hu0 hu1 hu2 hu3 hi0 hkk (by decide : 2 < 4) hK))) hZ (hw _ (List.mem_of_getElem? (i := 92) rfl)) (hw _ (List.mem_of_getElem? (i := 55) rfl)) (by decide) (by decide)) qa20 qc20 (g := (mkF m 243 #[(.val (.int p0)), (.val (.int p1)), (.val (.int p2)), (.val (.long p3)), .second, (.val (.ref b1)), (.val (.int (Int32.ofNat i0))), (.val (.int (Int32.ofNat kk))), (.val (.ref t)), (.val (.ref b7)), (.val (.int (1 : Int32)))] [(.int (2 : Int32)), (.ref b7)])) rfl (by rw [hml]; rfl) (Steps.refl _) (argsL := [(.int (2 : Int32))]) (rest := []) (lenOf pd_I_Lcom_example_incant5_incant5_Term rfl) rfl (by show 2 * 0 + _ ≤ _; exact Nat.le_of_eq rfl) (hb hby at_243) (fun _ _ => ⟨rfl, e13, (by decide : 7 + 0 ≤ _), (by decide : 38 + 0 ≤ _)⟩)
          dsimp only [Pt.U, Pt.locs, Pt.cells, Pt.slots] at X20 l20 y20 z20 st20 hQ20
          subst l20 y20 z20
          obtain ⟨rfl, rfl, e20⟩ := hQ20
          try rw [List.append_nil] at X20
          refine Owes.by (fun _ kq => st20.trans kq) ?_
          show Owes p e below s (QL n0) room_1.cells room_1.slots T20 (mkF m 246 #[(.val (.int p0)), (.val (.int p1)), (.val (.int p2)), (.val (.long p3)), .second, (.val (.ref b1)), (.val (.int (Int32.ofNat i0))), (.val (.int (Int32.ofNat kk))), (.val (.ref t)), (.val (.ref b7)), (.val (.int (1 : Int32)))] [(.ref t)])
          refine Owes.by (fun _ kq => XS.aload X20.here hx rfl (hb hby at_246) rfl rfl kq) ?_
          show Owes p e below s (QL n0) room_1.cells room_1.slots T20 (mkF m 248 #[(.val (.int p0)), (.val (.int p1)), (.val (.int p2)), (.val (.long p3)), .second, (.val (.ref b1)), (.val (.int (Int32.ofNat i0))), (.val (.int (Int32.ofNat kk))), (.val (.ref t)), (.val (.ref b7)), (.val (.int (1 : Int32)))] [(.ref t), (.ref t)])
          refine Owes.by (fun _ kq => XS.iconst X20.here hx rfl (hb hby at_248) kq) ?_
          show Owes p e below s (QL n0) room_1.cells room_1.slots T20 (mkF m 249 #[(.val (.int p0)), (.val (.int p1)), (.val (.int p2)), (.val (.long p3)), .second, (.val (.ref b1)), (.val (.int (Int32.ofNat i0))), (.val (.int (Int32.ofNat kk))), (.val (.ref t)), (.val (.ref b7)), (.val (.int (1 : Int32)))] [(.int (2 : Int32)), (.ref t), (.ref t)])
          refine Owes.by (fun _ kq => XS.aload X20.here hx rfl (hb hby at_249) rfl rfl kq) ?_
          show Owes p e below s (QL n0) room_1.cells room_1.slots T20 (mkF m 251 #[(.val (.int p0)), (.val (.int p1)), (.val (.int p2)), (.val (.long p3)), .second, (.val (.ref b1)), (.val (.int (Int32.ofNat i0))), (.val (.int (Int32.ofNat kk))), (.val (.ref t)), (.val (.ref b7)), (.val (.int (1 : Int32)))] [(.ref b1), (.int (2 : Int32)), (.ref t), (.ref t)])
          refine Owes.by (fun _ kq => XS.iload X20.here hx rfl (hb hby at_251) rfl kq) ?_
          show Owes p e below s (QL n0) room_1.cells room_1.slots T20 (mkF m 253 #[(.val (.int p0)), (.val (.int p1)), (.val (.int p2)), (.val (.long p3)), .second, (.val (.ref b1)), (.val (.int (Int32.ofNat i0))), (.val (.int (Int32.ofNat kk))), (.val (.ref t)), (.val (.ref b7)), (.val (.int (1 : Int32)))] [(.int (Int32.ofNat i0)), (.ref b1), (.int (2 : Int32)), (.ref t), (.ref t)])
          refine Owes.by (fun _ kq => XS.iload X20.here hx rfl (hb hby at_253) rfl kq) ?_
          show Owes p e below s (QL n0) room_1.cells room_1.slots T20 (mkF m 255 #[(.val (.int p0)), (.val (.int p1)), (.val (.int p2)), (.val (.long p3)), .second, (.val (.ref b1)), (.val (.int (Int32.ofNat i0))), (.val (.int (Int32.ofNat kk))), (.val (.ref t)), (.val (.ref b7)), (.val (.int (1 : Int32)))] [(.int (Int32.ofNat kk)), (.int (Int32.ofNat i0)), (.ref b1), (.int (2 : Int32)), (.ref t), (.ref t)])
          obtain ⟨_, _, ⟨T21, L21, k21, n21⟩, -, X21, ⟨Lc21, hQ21, l21, y21, z21⟩, st21⟩ := Jvm.LawKit.callS X20 hx (y := (⟨"com/example/incant5/incant5/BindingsUndoPinLaw", "slotOk", "(Lcom/example/incant5/incant5/Term;Lcom/example/incant5/incant5/Term;I[III)Z"⟩ : MethodName)) hown (mvT hZ (hw _ (List.mem_of_getElem? (i := 93) rfl))) (mvT hZ (hw _ (List.mem_of_getElem? (i := 94) rfl))) (mvT hZ (hw _ (List.mem_of_getElem? (i := 95) rfl))) (mvT hZ (hw _ (List.mem_of_getElem? (i := 96) rfl))) (by decide) (backOf (W := 0) (rmS1 l Z a0 hw [] t b1 clS 2 (Int32.ofNat i0) (Int32.ofNat kk) (Int32.ofNat u0) (Int32.ofNat u1) (Int32.ofNat u2) (Int32.ofNat u3) T9.heap n0 ZF ArS at0 at1 at2 at3 hK) hZ (hw _ (List.mem_of_getElem? (i := 96) rfl)) (hw _ (List.mem_of_getElem? (i := 95) rfl)) (by decide) (by decide)) (g := (mkF m 255 #[(.val (.int p0)), (.val (.int p1)), (.val (.int p2)), (.val (.long p3)), .second, (.val (.ref b1)), (.val (.int (Int32.ofNat i0))), (.val (.int (Int32.ofNat kk))), (.val (.ref t)), (.val (.ref b7)), (.val (.int (1 : Int32)))] [(.int (Int32.ofNat kk)), (.int (Int32.ofNat i0)), (.ref b1), (.int (2 : Int32)), (.ref t), (.ref t)])) rfl (by rw [hml]; rfl) (argsL := [(.ref t), (.ref t), (.int (2 : Int32)), (.ref b1), (.int (Int32.ofNat i0)), (.int (Int32.ofNat kk))]) (rest := []) (lenOf pd_Lcom_example_incant5_incant5_Term_Lcom_example_incant5_incant5_Term_I_III_Z rfl) rfl (by show 2 * 0 + _ ≤ _; exact Nat.le_of_eq rfl) (hb hby at_255) (fun _ _ => ⟨rfl, e20, (by decide : 7 + 0 ≤ _), (by decide : 38 + 0 ≤ _)⟩)
          dsimp only [Pt.U, Pt.locs, Pt.cells, Pt.slots] at X21 l21 y21 z21 st21 hQ21
          subst l21 y21 z21
          obtain ⟨rfl, rfl, e21⟩ := hQ21
          try rw [List.append_nil] at X21
          refine Owes.by st21 ?_
          show Owes p e below s (QL n0) room_1.cells room_1.slots T21 (mkF m 258 #[(.val (.int p0)), (.val (.int p1)), (.val (.int p2)), (.val (.long p3)), .second, (.val (.ref b1)), (.val (.int (Int32.ofNat i0))), (.val (.int (Int32.ofNat kk))), (.val (.ref t)), (.val (.ref b7)), (.val (.int (1 : Int32)))] [(.int (1 : Int32))])
          refine Owes.by (fun _ kq => XS.ifNo X21.here hx rfl (hb hby at_258) rfl (XT.i0_eq_f (by decide)) kq) ?_
          show Owes p e below s (QL n0) room_1.cells room_1.slots T21 (mkF m 261 #[(.val (.int p0)), (.val (.int p1)), (.val (.int p2)), (.val (.long p3)), .second, (.val (.ref b1)), (.val (.int (Int32.ofNat i0))), (.val (.int (Int32.ofNat kk))), (.val (.ref t)), (.val (.ref b7)), (.val (.int (1 : Int32)))] [])
          refine Owes.by (fun _ kq => XS.iconst X21.here hx rfl (hb hby at_261) kq) ?_
          show Owes p e below s (QL n0) room_1.cells room_1.slots T21 (mkF m 262 #[(.val (.int p0)), (.val (.int p1)), (.val (.int p2)), (.val (.long p3)), .second, (.val (.ref b1)), (.val (.int (Int32.ofNat i0))), (.val (.int (Int32.ofNat kk))), (.val (.ref t)), (.val (.ref b7)), (.val (.int (1 : Int32)))] [(.int (1 : Int32))])
          refine Owes.by (fun _ kq => XS.goto X21.here hx rfl (pc0 := 262) (pc' := 266) rfl (hb hby at_262) (by decide) (by decide) kq) ?_
          show Owes p e below s (QL n0) room_1.cells room_1.slots T21 (mkF m 266 #[(.val (.int p0)), (.val (.int p1)), (.val (.int p2)), (.val (.long p3)), .second, (.val (.ref b1)), (.val (.int (Int32.ofNat i0))), (.val (.int (Int32.ofNat kk))), (.val (.ref t)), (.val (.ref b7)), (.val (.int (1 : Int32)))] [(.int (1 : Int32))])
          exact J14 T21 X21 e21
        · skip
          obtain ⟨cq22, kq22, qa22, qb22, qc22⟩ := isOf hZ e13 Eb
          obtain ⟨_, _, ⟨T22, L22, k22, n22⟩, -, X22, ⟨Lc22, hQ22, l22, y22, z22⟩, st22⟩ := X13.virtualBack hx (y := (⟨"com/example/incant5/incant5/Bindings", "get", "(I)Lcom/example/incant5/incant5/Term;"⟩ : MethodName)) (z := (⟨"com/example/incant5/incant5/Bindings", "get", "(I)Lcom/example/incant5/incant5/Term;"⟩ : MethodName)) hown (mvT hZ (hw _ (List.mem_of_getElem? (i := 88) rfl))) (mvT hZ (hw _ (List.mem_of_getElem? (i := 89) rfl))) (notFace_of_selects (args := #[]) (mvT hZ (hw _ (List.mem_of_getElem? (i := 91) rfl)))) (mvT hZ (hw _ (List.mem_of_getElem? (i := 91) rfl))) (mvT hZ (hw _ (List.mem_of_getElem? (i := 90) rfl))) (by decide) (backOf (W := 0) (rmG0 l Z a0 hw [] b7 va t clV 2 T9.heap n0 ZF Fva ArV hin2 (hhV.at hin2 (own_plain0 hu0 hu1 hu2 hu3 hi0 hkk (by decide : 2 < 4) hK))) hZ (hw _ (List.mem_of_getElem? (i := 92) rfl)) (hw _ (List.mem_of_getElem? (i := 55) rfl)) (by decide) (by decide)) qa22 qc22 (g := (mkF m 243 #[(.val (.int p0)), (.val (.int p1)), (.val (.int p2)), (.val (.long p3)), .second, (.val (.ref b1)), (.val (.int (Int32.ofNat i0))), (.val (.int (Int32.ofNat kk))), (.val (.ref t)), (.val (.ref b7)), (.val (.int (1 : Int32)))] [(.int (2 : Int32)), (.ref b7)])) rfl (by rw [hml]; rfl) (Steps.refl _) (argsL := [(.int (2 : Int32))]) (rest := []) (lenOf pd_I_Lcom_example_incant5_incant5_Term rfl) rfl (by show 2 * 0 + _ ≤ _; exact Nat.le_of_eq rfl) (hb hby at_243) (fun _ _ => ⟨rfl, e13, (by decide : 7 + 0 ≤ _), (by decide : 38 + 0 ≤ _)⟩)
          dsimp only [Pt.U, Pt.locs, Pt.cells, Pt.slots] at X22 l22 y22 z22 st22 hQ22
          subst l22 y22 z22
          obtain ⟨rfl, rfl, e22⟩ := hQ22
          try rw [List.append_nil] at X22
          refine Owes.by (fun _ kq => st22.trans kq) ?_
          show Owes p e below s (QL n0) room_1.cells room_1.slots T22 (mkF m 246 #[(.val (.int p0)), (.val (.int p1)), (.val (.int p2)), (.val (.long p3)), .second, (.val (.ref b1)), (.val (.int (Int32.ofNat i0))), (.val (.int (Int32.ofNat kk))), (.val (.ref t)), (.val (.ref b7)), (.val (.int (1 : Int32)))] [.null])
          refine Owes.by (fun _ kq => XS.aload X22.here hx rfl (hb hby at_246) rfl rfl kq) ?_
          show Owes p e below s (QL n0) room_1.cells room_1.slots T22 (mkF m 248 #[(.val (.int p0)), (.val (.int p1)), (.val (.int p2)), (.val (.long p3)), .second, (.val (.ref b1)), (.val (.int (Int32.ofNat i0))), (.val (.int (Int32.ofNat kk))), (.val (.ref t)), (.val (.ref b7)), (.val (.int (1 : Int32)))] [(.ref t), .null])
          refine Owes.by (fun _ kq => XS.iconst X22.here hx rfl (hb hby at_248) kq) ?_
          show Owes p e below s (QL n0) room_1.cells room_1.slots T22 (mkF m 249 #[(.val (.int p0)), (.val (.int p1)), (.val (.int p2)), (.val (.long p3)), .second, (.val (.ref b1)), (.val (.int (Int32.ofNat i0))), (.val (.int (Int32.ofNat kk))), (.val (.ref t)), (.val (.ref b7)), (.val (.int (1 : Int32)))] [(.int (2 : Int32)), (.ref t), .null])
          refine Owes.by (fun _ kq => XS.aload X22.here hx rfl (hb hby at_249) rfl rfl kq) ?_
          show Owes p e below s (QL n0) room_1.cells room_1.slots T22 (mkF m 251 #[(.val (.int p0)), (.val (.int p1)), (.val (.int p2)), (.val (.long p3)), .second, (.val (.ref b1)), (.val (.int (Int32.ofNat i0))), (.val (.int (Int32.ofNat kk))), (.val (.ref t)), (.val (.ref b7)), (.val (.int (1 : Int32)))] [(.ref b1), (.int (2 : Int32)), (.ref t), .null])
          refine Owes.by (fun _ kq => XS.iload X22.here hx rfl (hb hby at_251) rfl kq) ?_
          show Owes p e below s (QL n0) room_1.cells room_1.slots T22 (mkF m 253 #[(.val (.int p0)), (.val (.int p1)), (.val (.int p2)), (.val (.long p3)), .second, (.val (.ref b1)), (.val (.int (Int32.ofNat i0))), (.val (.int (Int32.ofNat kk))), (.val (.ref t)), (.val (.ref b7)), (.val (.int (1 : Int32)))] [(.int (Int32.ofNat i0)), (.ref b1), (.int (2 : Int32)), (.ref t), .null])
          refine Owes.by (fun _ kq => XS.iload X22.here hx rfl (hb hby at_253) rfl kq) ?_
          show Owes p e below s (QL n0) room_1.cells room_1.slots T22 (mkF m 255 #[(.val (.int p0)), (.val (.int p1)), (.val (.int p2)), (.val (.long p3)), .second, (.val (.ref b1)), (.val (.int (Int32.ofNat i0))), (.val (.int (Int32.ofNat kk))), (.val (.ref t)), (.val (.ref b7)), (.val (.int (1 : Int32)))] [(.int (Int32.ofNat kk)), (.int (Int32.ofNat i0)), (.ref b1), (.int (2 : Int32)), (.ref t), .null])
          obtain ⟨_, _, ⟨T23, L23, k23, n23⟩, -, X23, ⟨Lc23, hQ23, l23, y23, z23⟩, st23⟩ := Jvm.LawKit.callS X22 hx (y := (⟨"com/example/incant5/incant5/BindingsUndoPinLaw", "slotOk", "(Lcom/example/incant5/incant5/Term;Lcom/example/incant5/incant5/Term;I[III)Z"⟩ : MethodName)) hown (mvT hZ (hw _ (List.mem_of_getElem? (i := 93) rfl))) (mvT hZ (hw _ (List.mem_of_getElem? (i := 94) rfl))) (mvT hZ (hw _ (List.mem_of_getElem? (i := 95) rfl))) (mvT hZ (hw _ (List.mem_of_getElem? (i := 96) rfl))) (by decide) (backOf (W := 0) (rmS0 l Z a0 hw [] t b1 clS 2 (Int32.ofNat i0) (Int32.ofNat kk) (Int32.ofNat u0) (Int32.ofNat u1) (Int32.ofNat u2) (Int32.ofNat u3) T9.heap n0 ZF ArS at0 at1 at2 at3 hK) hZ (hw _ (List.mem_of_getElem? (i := 96) rfl)) (hw _ (List.mem_of_getElem? (i := 95) rfl)) (by decide) (by decide)) (g := (mkF m 255 #[(.val (.int p0)), (.val (.int p1)), (.val (.int p2)), (.val (.long p3)), .second, (.val (.ref b1)), (.val (.int (Int32.ofNat i0))), (.val (.int (Int32.ofNat kk))), (.val (.ref t)), (.val (.ref b7)), (.val (.int (1 : Int32)))] [(.int (Int32.ofNat kk)), (.int (Int32.ofNat i0)), (.ref b1), (.int (2 : Int32)), (.ref t), .null])) rfl (by rw [hml]; rfl) (argsL := [.null, (.ref t), (.int (2 : Int32)), (.ref b1), (.int (Int32.ofNat i0)), (.int (Int32.ofNat kk))]) (rest := []) (lenOf pd_Lcom_example_incant5_incant5_Term_Lcom_example_incant5_incant5_Term_I_III_Z rfl) rfl (by show 2 * 0 + _ ≤ _; exact Nat.le_of_eq rfl) (hb hby at_255) (fun _ _ => ⟨rfl, e22, (by decide : 7 + 0 ≤ _), (by decide : 38 + 0 ≤ _)⟩)
          dsimp only [Pt.U, Pt.locs, Pt.cells, Pt.slots] at X23 l23 y23 z23 st23 hQ23
          subst l23 y23 z23
          obtain ⟨rfl, rfl, e23⟩ := hQ23
          try rw [List.append_nil] at X23
          refine Owes.by st23 ?_
          show Owes p e below s (QL n0) room_1.cells room_1.slots T23 (mkF m 258 #[(.val (.int p0)), (.val (.int p1)), (.val (.int p2)), (.val (.long p3)), .second, (.val (.ref b1)), (.val (.int (Int32.ofNat i0))), (.val (.int (Int32.ofNat kk))), (.val (.ref t)), (.val (.ref b7)), (.val (.int (1 : Int32)))] [(.int (1 : Int32))])
          refine Owes.by (fun _ kq => XS.ifNo X23.here hx rfl (hb hby at_258) rfl (XT.i0_eq_f (by decide)) kq) ?_
          show Owes p e below s (QL n0) room_1.cells room_1.slots T23 (mkF m 261 #[(.val (.int p0)), (.val (.int p1)), (.val (.int p2)), (.val (.long p3)), .second, (.val (.ref b1)), (.val (.int (Int32.ofNat i0))), (.val (.int (Int32.ofNat kk))), (.val (.ref t)), (.val (.ref b7)), (.val (.int (1 : Int32)))] [])
          refine Owes.by (fun _ kq => XS.iconst X23.here hx rfl (hb hby at_261) kq) ?_
          show Owes p e below s (QL n0) room_1.cells room_1.slots T23 (mkF m 262 #[(.val (.int p0)), (.val (.int p1)), (.val (.int p2)), (.val (.long p3)), .second, (.val (.ref b1)), (.val (.int (Int32.ofNat i0))), (.val (.int (Int32.ofNat kk))), (.val (.ref t)), (.val (.ref b7)), (.val (.int (1 : Int32)))] [(.int (1 : Int32))])
          refine Owes.by (fun _ kq => XS.goto X23.here hx rfl (pc0 := 262) (pc' := 266) rfl (hb hby at_262) (by decide) (by decide) kq) ?_
          show Owes p e below s (QL n0) room_1.cells room_1.slots T23 (mkF m 266 #[(.val (.int p0)), (.val (.int p1)), (.val (.int p2)), (.val (.long p3)), .second, (.val (.ref b1)), (.val (.int (Int32.ofNat i0))), (.val (.int (Int32.ofNat kk))), (.val (.ref t)), (.val (.ref b7)), (.val (.int (1 : Int32)))] [(.int (1 : Int32))])
          exact J14 T23 X23 e23
      have hin1 : ¬ ((1 : Int32) < 0 ∨ clV.slots.size ≤ (1 : Int32).toNatClampNeg) := inb_of szV ⟨by decide, by decide⟩
      by_cases hK : own_kept (Int32.ofNat i0) (Int32.ofNat kk) 1 (Int32.ofNat u0) (Int32.ofNat u1) (Int32.ofNat u2) (Int32.ofNat u3)
      · skip
        obtain ⟨cq24, kq24, qa24, qb24, qc24⟩ := isOf hZ e12 Eb
        obtain ⟨_, _, ⟨T24, L24, k24, n24⟩, -, X24, ⟨Lc24, hQ24, l24, y24, z24⟩, st24⟩ := X12.virtualBack hx (y := (⟨"com/example/incant5/incant5/Bindings", "get", "(I)Lcom/example/incant5/incant5/Term;"⟩ : MethodName)) (z := (⟨"com/example/incant5/incant5/Bindings", "get", "(I)Lcom/example/incant5/incant5/Term;"⟩ : MethodName)) hown (mvT hZ (hw _ (List.mem_of_getElem? (i := 88) rfl))) (mvT hZ (hw _ (List.mem_of_getElem? (i := 89) rfl))) (notFace_of_selects (args := #[]) (mvT hZ (hw _ (List.mem_of_getElem? (i := 91) rfl)))) (mvT hZ (hw _ (List.mem_of_getElem? (i := 91) rfl))) (mvT hZ (hw _ (List.mem_of_getElem? (i := 90) rfl))) (by decide) (backOf (W := 0) (rmG1 l Z a0 hw [] b7 va t clV 1 T9.heap n0 ZF Fva ArV hin1 (hhV.at hin1 (own_plain1 hu0 hu1 hu2 hu3 hi0 hkk (by decide : 1 < 4) hK))) hZ (hw _ (List.mem_of_getElem? (i := 92) rfl)) (hw _ (List.mem_of_getElem? (i := 55) rfl)) (by decide) (by decide)) qa24 qc24 (g := (mkF m 210 #[(.val (.int p0)), (.val (.int p1)), (.val (.int p2)), (.val (.long p3)), .second, (.val (.ref b1)), (.val (.int (Int32.ofNat i0))), (.val (.int (Int32.ofNat kk))), (.val (.ref t)), (.val (.ref b7)), (.val (.int (1 : Int32)))] [(.int (1 : Int32)), (.ref b7)])) rfl (by rw [hml]; rfl) (Steps.refl _) (argsL := [(.int (1 : Int32))]) (rest := []) (lenOf pd_I_Lcom_example_incant5_incant5_Term rfl) rfl (by show 2 * 0 + _ ≤ _; exact Nat.le_of_eq rfl) (hb hby at_210) (fun _ _ => ⟨rfl, e12, (by decide : 7 + 0 ≤ _), (by decide : 38 + 0 ≤ _)⟩)
        dsimp only [Pt.U, Pt.locs, Pt.cells, Pt.slots] at X24 l24 y24 z24 st24 hQ24
        subst l24 y24 z24
        obtain ⟨rfl, rfl, e24⟩ := hQ24
        try rw [List.append_nil] at X24
        refine Owes.by (fun _ kq => st24.trans kq) ?_
        show Owes p e below s (QL n0) room_1.cells room_1.slots T24 (mkF m 213 #[(.val (.int p0)), (.val (.int p1)), (.val (.int p2)), (.val (.long p3)), .second, (.val (.ref b1)), (.val (.int (Int32.ofNat i0))), (.val (.int (Int32.ofNat kk))), (.val (.ref t)), (.val (.ref b7)), (.val (.int (1 : Int32)))] [(.ref t)])
        refine Owes.by (fun _ kq => XS.aload X24.here hx rfl (hb hby at_213) rfl rfl kq) ?_
        show Owes p e below s (QL n0) room_1.cells room_1.slots T24 (mkF m 215 #[(.val (.int p0)), (.val (.int p1)), (.val (.int p2)), (.val (.long p3)), .second, (.val (.ref b1)), (.val (.int (Int32.ofNat i0))), (.val (.int (Int32.ofNat kk))), (.val (.ref t)), (.val (.ref b7)), (.val (.int (1 : Int32)))] [(.ref t), (.ref t)])
        refine Owes.by (fun _ kq => XS.iconst X24.here hx rfl (hb hby at_215) kq) ?_
        show Owes p e below s (QL n0) room_1.cells room_1.slots T24 (mkF m 216 #[(.val (.int p0)), (.val (.int p1)), (.val (.int p2)), (.val (.long p3)), .second, (.val (.ref b1)), (.val (.int (Int32.ofNat i0))), (.val (.int (Int32.ofNat kk))), (.val (.ref t)), (.val (.ref b7)), (.val (.int (1 : Int32)))] [(.int (1 : Int32)), (.ref t), (.ref t)])
        refine Owes.by (fun _ kq => XS.aload X24.here hx rfl (hb hby at_216) rfl rfl kq) ?_
        show Owes p e below s (QL n0) room_1.cells room_1.slots T24 (mkF m 218 #[(.val (.int p0)), (.val (.int p1)), (.val (.int p2)), (.val (.long p3)), .second, (.val (.ref b1)), (.val (.int (Int32.ofNat i0))), (.val (.int (Int32.ofNat kk))), (.val (.ref t)), (.val (.ref b7)), (.val (.int (1 : Int32)))] [(.ref b1), (.int (1 : Int32)), (.ref t), (.ref t)])
        refine Owes.by (fun _ kq => XS.iload X24.here hx rfl (hb hby at_218) rfl kq) ?_
        show Owes p e below s (QL n0) room_1.cells room_1.slots T24 (mkF m 220 #[(.val (.int p0)), (.val (.int p1)), (.val (.int p2)), (.val (.long p3)), .second, (.val (.ref b1)), (.val (.int (Int32.ofNat i0))), (.val (.int (Int32.ofNat kk))), (.val (.ref t)), (.val (.ref b7)), (.val (.int (1 : Int32)))] [(.int (Int32.ofNat i0)), (.ref b1), (.int (1 : Int32)), (.ref t), (.ref t)])
        refine Owes.by (fun _ kq => XS.iload X24.here hx rfl (hb hby at_220) rfl kq) ?_
        show Owes p e below s (QL n0) room_1.cells room_1.slots T24 (mkF m 222 #[(.val (.int p0)), (.val (.int p1)), (.val (.int p2)), (.val (.long p3)), .second, (.val (.ref b1)), (.val (.int (Int32.ofNat i0))), (.val (.int (Int32.ofNat kk))), (.val (.ref t)), (.val (.ref b7)), (.val (.int (1 : Int32)))] [(.int (Int32.ofNat kk)), (.int (Int32.ofNat i0)), (.ref b1), (.int (1 : Int32)), (.ref t), (.ref t)])
        obtain ⟨_, _, ⟨T25, L25, k25, n25⟩, -, X25, ⟨Lc25, hQ25, l25, y25, z25⟩, st25⟩ := Jvm.LawKit.callS X24 hx (y := (⟨"com/example/incant5/incant5/BindingsUndoPinLaw", "slotOk", "(Lcom/example/incant5/incant5/Term;Lcom/example/incant5/incant5/Term;I[III)Z"⟩ : MethodName)) hown (mvT hZ (hw _ (List.mem_of_getElem? (i := 93) rfl))) (mvT hZ (hw _ (List.mem_of_getElem? (i := 94) rfl))) (mvT hZ (hw _ (List.mem_of_getElem? (i := 95) rfl))) (mvT hZ (hw _ (List.mem_of_getElem? (i := 96) rfl))) (by decide) (backOf (W := 0) (rmS1 l Z a0 hw [] t b1 clS 1 (Int32.ofNat i0) (Int32.ofNat kk) (Int32.ofNat u0) (Int32.ofNat u1) (Int32.ofNat u2) (Int32.ofNat u3) T9.heap n0 ZF ArS at0 at1 at2 at3 hK) hZ (hw _ (List.mem_of_getElem? (i := 96) rfl)) (hw _ (List.mem_of_getElem? (i := 95) rfl)) (by decide) (by decide)) (g := (mkF m 222 #[(.val (.int p0)), (.val (.int p1)), (.val (.int p2)), (.val (.long p3)), .second, (.val (.ref b1)), (.val (.int (Int32.ofNat i0))), (.val (.int (Int32.ofNat kk))), (.val (.ref t)), (.val (.ref b7)), (.val (.int (1 : Int32)))] [(.int (Int32.ofNat kk)), (.int (Int32.ofNat i0)), (.ref b1), (.int (1 : Int32)), (.ref t), (.ref t)])) rfl (by rw [hml]; rfl) (argsL := [(.ref t), (.ref t), (.int (1 : Int32)), (.ref b1), (.int (Int32.ofNat i0)), (.int (Int32.ofNat kk))]) (rest := []) (lenOf pd_Lcom_example_incant5_incant5_Term_Lcom_example_incant5_incant5_Term_I_III_Z rfl) rfl (by show 2 * 0 + _ ≤ _; exact Nat.le_of_eq rfl) (hb hby at_222) (fun _ _ => ⟨rfl, e24, (by decide : 7 + 0 ≤ _), (by decide : 38 + 0 ≤ _)⟩)
        dsimp only [Pt.U, Pt.locs, Pt.cells, Pt.slots] at X25 l25 y25 z25 st25 hQ25
        subst l25 y25 z25
        obtain ⟨rfl, rfl, e25⟩ := hQ25
        try rw [List.append_nil] at X25
        refine Owes.by st25 ?_
        show Owes p e below s (QL n0) room_1.cells room_1.slots T25 (mkF m 225 #[(.val (.int p0)), (.val (.int p1)), (.val (.int p2)), (.val (.long p3)), .second, (.val (.ref b1)), (.val (.int (Int32.ofNat i0))), (.val (.int (Int32.ofNat kk))), (.val (.ref t)), (.val (.ref b7)), (.val (.int (1 : Int32)))] [(.int (1 : Int32))])
        refine Owes.by (fun _ kq => XS.ifNo X25.here hx rfl (hb hby at_225) rfl (XT.i0_eq_f (by decide)) kq) ?_
        show Owes p e below s (QL n0) room_1.cells room_1.slots T25 (mkF m 228 #[(.val (.int p0)), (.val (.int p1)), (.val (.int p2)), (.val (.long p3)), .second, (.val (.ref b1)), (.val (.int (Int32.ofNat i0))), (.val (.int (Int32.ofNat kk))), (.val (.ref t)), (.val (.ref b7)), (.val (.int (1 : Int32)))] [])
        refine Owes.by (fun _ kq => XS.iconst X25.here hx rfl (hb hby at_228) kq) ?_
        show Owes p e below s (QL n0) room_1.cells room_1.slots T25 (mkF m 229 #[(.val (.int p0)), (.val (.int p1)), (.val (.int p2)), (.val (.long p3)), .second, (.val (.ref b1)), (.val (.int (Int32.ofNat i0))), (.val (.int (Int32.ofNat kk))), (.val (.ref t)), (.val (.ref b7)), (.val (.int (1 : Int32)))] [(.int (1 : Int32))])
        refine Owes.by (fun _ kq => XS.goto X25.here hx rfl (pc0 := 229) (pc' := 233) rfl (hb hby at_229) (by decide) (by decide) kq) ?_
        show Owes p e below s (QL n0) room_1.cells room_1.slots T25 (mkF m 233 #[(.val (.int p0)), (.val (.int p1)), (.val (.int p2)), (.val (.long p3)), .second, (.val (.ref b1)), (.val (.int (Int32.ofNat i0))), (.val (.int (Int32.ofNat kk))), (.val (.ref t)), (.val (.ref b7)), (.val (.int (1 : Int32)))] [(.int (1 : Int32))])
        exact J13 T25 X25 e25
      · skip
        obtain ⟨cq26, kq26, qa26, qb26, qc26⟩ := isOf hZ e12 Eb
        obtain ⟨_, _, ⟨T26, L26, k26, n26⟩, -, X26, ⟨Lc26, hQ26, l26, y26, z26⟩, st26⟩ := X12.virtualBack hx (y := (⟨"com/example/incant5/incant5/Bindings", "get", "(I)Lcom/example/incant5/incant5/Term;"⟩ : MethodName)) (z := (⟨"com/example/incant5/incant5/Bindings", "get", "(I)Lcom/example/incant5/incant5/Term;"⟩ : MethodName)) hown (mvT hZ (hw _ (List.mem_of_getElem? (i := 88) rfl))) (mvT hZ (hw _ (List.mem_of_getElem? (i := 89) rfl))) (notFace_of_selects (args := #[]) (mvT hZ (hw _ (List.mem_of_getElem? (i := 91) rfl)))) (mvT hZ (hw _ (List.mem_of_getElem? (i := 91) rfl))) (mvT hZ (hw _ (List.mem_of_getElem? (i := 90) rfl))) (by decide) (backOf (W := 0) (rmG0 l Z a0 hw [] b7 va t clV 1 T9.heap n0 ZF Fva ArV hin1 (hhV.at hin1 (own_plain0 hu0 hu1 hu2 hu3 hi0 hkk (by decide : 1 < 4) hK))) hZ (hw _ (List.mem_of_getElem? (i := 92) rfl)) (hw _ (List.mem_of_getElem? (i := 55) rfl)) (by decide) (by decide)) qa26 qc26 (g := (mkF m 210 #[(.val (.int p0)), (.val (.int p1)), (.val (.int p2)), (.val (.long p3)), .second, (.val (.ref b1)), (.val (.int (Int32.ofNat i0))), (.val (.int (Int32.ofNat kk))), (.val (.ref t)), (.val (.ref b7)), (.val (.int (1 : Int32)))] [(.int (1 : Int32)), (.ref b7)])) rfl (by rw [hml]; rfl) (Steps.refl _) (argsL := [(.int (1 : Int32))]) (rest := []) (lenOf pd_I_Lcom_example_incant5_incant5_Term rfl) rfl (by show 2 * 0 + _ ≤ _; exact Nat.le_of_eq rfl) (hb hby at_210) (fun _ _ => ⟨rfl, e12, (by decide : 7 + 0 ≤ _), (by decide : 38 + 0 ≤ _)⟩)
        dsimp only [Pt.U, Pt.locs, Pt.cells, Pt.slots] at X26 l26 y26 z26 st26 hQ26
        subst l26 y26 z26
        obtain ⟨rfl, rfl, e26⟩ := hQ26
        try rw [List.append_nil] at X26
        refine Owes.by (fun _ kq => st26.trans kq) ?_
        show Owes p e below s (QL n0) room_1.cells room_1.slots T26 (mkF m 213 #[(.val (.int p0)), (.val (.int p1)), (.val (.int p2)), (.val (.long p3)), .second, (.val (.ref b1)), (.val (.int (Int32.ofNat i0))), (.val (.int (Int32.ofNat kk))), (.val (.ref t)), (.val (.ref b7)), (.val (.int (1 : Int32)))] [.null])
        refine Owes.by (fun _ kq => XS.aload X26.here hx rfl (hb hby at_213) rfl rfl kq) ?_
        show Owes p e below s (QL n0) room_1.cells room_1.slots T26 (mkF m 215 #[(.val (.int p0)), (.val (.int p1)), (.val (.int p2)), (.val (.long p3)), .second, (.val (.ref b1)), (.val (.int (Int32.ofNat i0))), (.val (.int (Int32.ofNat kk))), (.val (.ref t)), (.val (.ref b7)), (.val (.int (1 : Int32)))] [(.ref t), .null])
        refine Owes.by (fun _ kq => XS.iconst X26.here hx rfl (hb hby at_215) kq) ?_
        show Owes p e below s (QL n0) room_1.cells room_1.slots T26 (mkF m 216 #[(.val (.int p0)), (.val (.int p1)), (.val (.int p2)), (.val (.long p3)), .second, (.val (.ref b1)), (.val (.int (Int32.ofNat i0))), (.val (.int (Int32.ofNat kk))), (.val (.ref t)), (.val (.ref b7)), (.val (.int (1 : Int32)))] [(.int (1 : Int32)), (.ref t), .null])
        refine Owes.by (fun _ kq => XS.aload X26.here hx rfl (hb hby at_216) rfl rfl kq) ?_
        show Owes p e below s (QL n0) room_1.cells room_1.slots T26 (mkF m 218 #[(.val (.int p0)), (.val (.int p1)), (.val (.int p2)), (.val (.long p3)), .second, (.val (.ref b1)), (.val (.int (Int32.ofNat i0))), (.val (.int (Int32.ofNat kk))), (.val (.ref t)), (.val (.ref b7)), (.val (.int (1 : Int32)))] [(.ref b1), (.int (1 : Int32)), (.ref t), .null])
        refine Owes.by (fun _ kq => XS.iload X26.here hx rfl (hb hby at_218) rfl kq) ?_
        show Owes p e below s (QL n0) room_1.cells room_1.slots T26 (mkF m 220 #[(.val (.int p0)), (.val (.int p1)), (.val (.int p2)), (.val (.long p3)), .second, (.val (.ref b1)), (.val (.int (Int32.ofNat i0))), (.val (.int (Int32.ofNat kk))), (.val (.ref t)), (.val (.ref b7)), (.val (.int (1 : Int32)))] [(.int (Int32.ofNat i0)), (.ref b1), (.int (1 : Int32)), (.ref t), .null])
        refine Owes.by (fun _ kq => XS.iload X26.here hx rfl (hb hby at_220) rfl kq) ?_
        show Owes p e below s (QL n0) room_1.cells room_1.slots T26 (mkF m 222 #[(.val (.int p0)), (.val (.int p1)), (.val (.int p2)), (.val (.long p3)), .second, (.val (.ref b1)), (.val (.int (Int32.ofNat i0))), (.val (.int (Int32.ofNat kk))), (.val (.ref t)), (.val (.ref b7)), (.val (.int (1 : Int32)))] [(.int (Int32.ofNat kk)), (.int (Int32.ofNat i0)), (.ref b1), (.int (1 : Int32)), (.ref t), .null])
        obtain ⟨_, _, ⟨T27, L27, k27, n27⟩, -, X27, ⟨Lc27, hQ27, l27, y27, z27⟩, st27⟩ := Jvm.LawKit.callS X26 hx (y := (⟨"com/example/incant5/incant5/BindingsUndoPinLaw", "slotOk", "(Lcom/example/incant5/incant5/Term;Lcom/example/incant5/incant5/Term;I[III)Z"⟩ : MethodName)) hown (mvT hZ (hw _ (List.mem_of_getElem? (i := 93) rfl))) (mvT hZ (hw _ (List.mem_of_getElem? (i := 94) rfl))) (mvT hZ (hw _ (List.mem_of_getElem? (i := 95) rfl))) (mvT hZ (hw _ (List.mem_of_getElem? (i := 96) rfl))) (by decide) (backOf (W := 0) (rmS0 l Z a0 hw [] t b1 clS 1 (Int32.ofNat i0) (Int32.ofNat kk) (Int32.ofNat u0) (Int32.ofNat u1) (Int32.ofNat u2) (Int32.ofNat u3) T9.heap n0 ZF ArS at0 at1 at2 at3 hK) hZ (hw _ (List.mem_of_getElem? (i := 96) rfl)) (hw _ (List.mem_of_getElem? (i := 95) rfl)) (by decide) (by decide)) (g := (mkF m 222 #[(.val (.int p0)), (.val (.int p1)), (.val (.int p2)), (.val (.long p3)), .second, (.val (.ref b1)), (.val (.int (Int32.ofNat i0))), (.val (.int (Int32.ofNat kk))), (.val (.ref t)), (.val (.ref b7)), (.val (.int (1 : Int32)))] [(.int (Int32.ofNat kk)), (.int (Int32.ofNat i0)), (.ref b1), (.int (1 : Int32)), (.ref t), .null])) rfl (by rw [hml]; rfl) (argsL := [.null, (.ref t), (.int (1 : Int32)), (.ref b1), (.int (Int32.ofNat i0)), (.int (Int32.ofNat kk))]) (rest := []) (lenOf pd_Lcom_example_incant5_incant5_Term_Lcom_example_incant5_incant5_Term_I_III_Z rfl) rfl (by show 2 * 0 + _ ≤ _; exact Nat.le_of_eq rfl) (hb hby at_222) (fun _ _ => ⟨rfl, e26, (by decide : 7 + 0 ≤ _), (by decide : 38 + 0 ≤ _)⟩)
        dsimp only [Pt.U, Pt.locs, Pt.cells, Pt.slots] at X27 l27 y27 z27 st27 hQ27
        subst l27 y27 z27
        obtain ⟨rfl, rfl, e27⟩ := hQ27
        try rw [List.append_nil] at X27
        refine Owes.by st27 ?_
        show Owes p e below s (QL n0) room_1.cells room_1.slots T27 (mkF m 225 #[(.val (.int p0)), (.val (.int p1)), (.val (.int p2)), (.val (.long p3)), .second, (.val (.ref b1)), (.val (.int (Int32.ofNat i0))), (.val (.int (Int32.ofNat kk))), (.val (.ref t)), (.val (.ref b7)), (.val (.int (1 : Int32)))] [(.int (1 : Int32))])
        refine Owes.by (fun _ kq => XS.ifNo X27.here hx rfl (hb hby at_225) rfl (XT.i0_eq_f (by decide)) kq) ?_
        show Owes p e below s (QL n0) room_1.cells room_1.slots T27 (mkF m 228 #[(.val (.int p0)), (.val (.int p1)), (.val (.int p2)), (.val (.long p3)), .second, (.val (.ref b1)), (.val (.int (Int32.ofNat i0))), (.val (.int (Int32.ofNat kk))), (.val (.ref t)), (.val (.ref b7)), (.val (.int (1 : Int32)))] [])
        refine Owes.by (fun _ kq => XS.iconst X27.here hx rfl (hb hby at_228) kq) ?_
        show Owes p e below s (QL n0) room_1.cells room_1.slots T27 (mkF m 229 #[(.val (.int p0)), (.val (.int p1)), (.val (.int p2)), (.val (.long p3)), .second, (.val (.ref b1)), (.val (.int (Int32.ofNat i0))), (.val (.int (Int32.ofNat kk))), (.val (.ref t)), (.val (.ref b7)), (.val (.int (1 : Int32)))] [(.int (1 : Int32))])
        refine Owes.by (fun _ kq => XS.goto X27.here hx rfl (pc0 := 229) (pc' := 233) rfl (hb hby at_229) (by decide) (by decide) kq) ?_
        show Owes p e below s (QL n0) room_1.cells room_1.slots T27 (mkF m 233 #[(.val (.int p0)), (.val (.int p1)), (.val (.int p2)), (.val (.long p3)), .second, (.val (.ref b1)), (.val (.int (Int32.ofNat i0))), (.val (.int (Int32.ofNat kk))), (.val (.ref t)), (.val (.ref b7)), (.val (.int (1 : Int32)))] [(.int (1 : Int32))])
        exact J13 T27 X27 e27
    have hin0 : ¬ ((0 : Int32) < 0 ∨ clV.slots.size ≤ (0 : Int32).toNatClampNeg) := inb_of szV ⟨by decide, by decide⟩
    by_cases hK : own_kept (Int32.ofNat i0) (Int32.ofNat kk) 0 (Int32.ofNat u0) (Int32.ofNat u1) (Int32.ofNat u2) (Int32.ofNat u3)
    · skip
      obtain ⟨cq28, kq28, qa28, qb28, qc28⟩ := isOf hZ e11 Eb
      obtain ⟨_, _, ⟨T28, L28, k28, n28⟩, -, X28, ⟨Lc28, hQ28, l28, y28, z28⟩, st28⟩ := X11.virtualBack hx (y := (⟨"com/example/incant5/incant5/Bindings", "get", "(I)Lcom/example/incant5/incant5/Term;"⟩ : MethodName)) (z := (⟨"com/example/incant5/incant5/Bindings", "get", "(I)Lcom/example/incant5/incant5/Term;"⟩ : MethodName)) hown (mvT hZ (hw _ (List.mem_of_getElem? (i := 88) rfl))) (mvT hZ (hw _ (List.mem_of_getElem? (i := 89) rfl))) (notFace_of_selects (args := #[]) (mvT hZ (hw _ (List.mem_of_getElem? (i := 91) rfl)))) (mvT hZ (hw _ (List.mem_of_getElem? (i := 91) rfl))) (mvT hZ (hw _ (List.mem_of_getElem? (i := 90) rfl))) (by decide) (backOf (W := 0) (rmG1 l Z a0 hw [] b7 va t clV 0 T9.heap n0 ZF Fva ArV hin0 (hhV.at hin0 (own_plain1 hu0 hu1 hu2 hu3 hi0 hkk (by decide : 0 < 4) hK))) hZ (hw _ (List.mem_of_getElem? (i := 92) rfl)) (hw _ (List.mem_of_getElem? (i := 55) rfl)) (by decide) (by decide)) qa28 qc28 (g := (mkF m 177 #[(.val (.int p0)), (.val (.int p1)), (.val (.int p2)), (.val (.long p3)), .second, (.val (.ref b1)), (.val (.int (Int32.ofNat i0))), (.val (.int (Int32.ofNat kk))), (.val (.ref t)), (.val (.ref b7)), (.val (.int (1 : Int32)))] [(.int (0 : Int32)), (.ref b7)])) rfl (by rw [hml]; rfl) (Steps.refl _) (argsL := [(.int (0 : Int32))]) (rest := []) (lenOf pd_I_Lcom_example_incant5_incant5_Term rfl) rfl (by show 2 * 0 + _ ≤ _; exact Nat.le_of_eq rfl) (hb hby at_177) (fun _ _ => ⟨rfl, e11, (by decide : 7 + 0 ≤ _), (by decide : 38 + 0 ≤ _)⟩)
      dsimp only [Pt.U, Pt.locs, Pt.cells, Pt.slots] at X28 l28 y28 z28 st28 hQ28
      subst l28 y28 z28
      obtain ⟨rfl, rfl, e28⟩ := hQ28
      try rw [List.append_nil] at X28
      refine Owes.by (fun _ kq => st28.trans kq) ?_
      show Owes p e below s (QL n0) room_1.cells room_1.slots T28 (mkF m 180 #[(.val (.int p0)), (.val (.int p1)), (.val (.int p2)), (.val (.long p3)), .second, (.val (.ref b1)), (.val (.int (Int32.ofNat i0))), (.val (.int (Int32.ofNat kk))), (.val (.ref t)), (.val (.ref b7)), (.val (.int (1 : Int32)))] [(.ref t)])
      refine Owes.by (fun _ kq => XS.aload X28.here hx rfl (hb hby at_180) rfl rfl kq) ?_
      show Owes p e below s (QL n0) room_1.cells room_1.slots T28 (mkF m 182 #[(.val (.int p0)), (.val (.int p1)), (.val (.int p2)), (.val (.long p3)), .second, (.val (.ref b1)), (.val (.int (Int32.ofNat i0))), (.val (.int (Int32.ofNat kk))), (.val (.ref t)), (.val (.ref b7)), (.val (.int (1 : Int32)))] [(.ref t), (.ref t)])
      refine Owes.by (fun _ kq => XS.iconst X28.here hx rfl (hb hby at_182) kq) ?_
      show Owes p e below s (QL n0) room_1.cells room_1.slots T28 (mkF m 183 #[(.val (.int p0)), (.val (.int p1)), (.val (.int p2)), (.val (.long p3)), .second, (.val (.ref b1)), (.val (.int (Int32.ofNat i0))), (.val (.int (Int32.ofNat kk))), (.val (.ref t)), (.val (.ref b7)), (.val (.int (1 : Int32)))] [(.int (0 : Int32)), (.ref t), (.ref t)])
      refine Owes.by (fun _ kq => XS.aload X28.here hx rfl (hb hby at_183) rfl rfl kq) ?_
      show Owes p e below s (QL n0) room_1.cells room_1.slots T28 (mkF m 185 #[(.val (.int p0)), (.val (.int p1)), (.val (.int p2)), (.val (.long p3)), .second, (.val (.ref b1)), (.val (.int (Int32.ofNat i0))), (.val (.int (Int32.ofNat kk))), (.val (.ref t)), (.val (.ref b7)), (.val (.int (1 : Int32)))] [(.ref b1), (.int (0 : Int32)), (.ref t), (.ref t)])
      refine Owes.by (fun _ kq => XS.iload X28.here hx rfl (hb hby at_185) rfl kq) ?_
      show Owes p e below s (QL n0) room_1.cells room_1.slots T28 (mkF m 187 #[(.val (.int p0)), (.val (.int p1)), (.val (.int p2)), (.val (.long p3)), .second, (.val (.ref b1)), (.val (.int (Int32.ofNat i0))), (.val (.int (Int32.ofNat kk))), (.val (.ref t)), (.val (.ref b7)), (.val (.int (1 : Int32)))] [(.int (Int32.ofNat i0)), (.ref b1), (.int (0 : Int32)), (.ref t), (.ref t)])
      refine Owes.by (fun _ kq => XS.iload X28.here hx rfl (hb hby at_187) rfl kq) ?_
      show Owes p e below s (QL n0) room_1.cells room_1.slots T28 (mkF m 189 #[(.val (.int p0)), (.val (.int p1)), (.val (.int p2)), (.val (.long p3)), .second, (.val (.ref b1)), (.val (.int (Int32.ofNat i0))), (.val (.int (Int32.ofNat kk))), (.val (.ref t)), (.val (.ref b7)), (.val (.int (1 : Int32)))] [(.int (Int32.ofNat kk)), (.int (Int32.ofNat i0)), (.ref b1), (.int (0 : Int32)), (.ref t), (.ref t)])
      obtain ⟨_, _, ⟨T29, L29, k29, n29⟩, -, X29, ⟨Lc29, hQ29, l29, y29, z29⟩, st29⟩ := Jvm.LawKit.callS X28 hx (y := (⟨"com/example/incant5/incant5/BindingsUndoPinLaw", "slotOk", "(Lcom/example/incant5/incant5/Term;Lcom/example/incant5/incant5/Term;I[III)Z"⟩ : MethodName)) hown (mvT hZ (hw _ (List.mem_of_getElem? (i := 93) rfl))) (mvT hZ (hw _ (List.mem_of_getElem? (i := 94) rfl))) (mvT hZ (hw _ (List.mem_of_getElem? (i := 95) rfl))) (mvT hZ (hw _ (List.mem_of_getElem? (i := 96) rfl))) (by decide) (backOf (W := 0) (rmS1 l Z a0 hw [] t b1 clS 0 (Int32.ofNat i0) (Int32.ofNat kk) (Int32.ofNat u0) (Int32.ofNat u1) (Int32.ofNat u2) (Int32.ofNat u3) T9.heap n0 ZF ArS at0 at1 at2 at3 hK) hZ (hw _ (List.mem_of_getElem? (i := 96) rfl)) (hw _ (List.mem_of_getElem? (i := 95) rfl)) (by decide) (by decide)) (g := (mkF m 189 #[(.val (.int p0)), (.val (.int p1)), (.val (.int p2)), (.val (.long p3)), .second, (.val (.ref b1)), (.val (.int (Int32.ofNat i0))), (.val (.int (Int32.ofNat kk))), (.val (.ref t)), (.val (.ref b7)), (.val (.int (1 : Int32)))] [(.int (Int32.ofNat kk)), (.int (Int32.ofNat i0)), (.ref b1), (.int (0 : Int32)), (.ref t), (.ref t)])) rfl (by rw [hml]; rfl) (argsL := [(.ref t), (.ref t), (.int (0 : Int32)), (.ref b1), (.int (Int32.ofNat i0)), (.int (Int32.ofNat kk))]) (rest := []) (lenOf pd_Lcom_example_incant5_incant5_Term_Lcom_example_incant5_incant5_Term_I_III_Z rfl) rfl (by show 2 * 0 + _ ≤ _; exact Nat.le_of_eq rfl) (hb hby at_189) (fun _ _ => ⟨rfl, e28, (by decide : 7 + 0 ≤ _), (by decide : 38 + 0 ≤ _)⟩)
      dsimp only [Pt.U, Pt.locs, Pt.cells, Pt.slots] at X29 l29 y29 z29 st29 hQ29
      subst l29 y29 z29
      obtain ⟨rfl, rfl, e29⟩ := hQ29
      try rw [List.append_nil] at X29
      refine Owes.by st29 ?_
      show Owes p e below s (QL n0) room_1.cells room_1.slots T29 (mkF m 192 #[(.val (.int p0)), (.val (.int p1)), (.val (.int p2)), (.val (.long p3)), .second, (.val (.ref b1)), (.val (.int (Int32.ofNat i0))), (.val (.int (Int32.ofNat kk))), (.val (.ref t)), (.val (.ref b7)), (.val (.int (1 : Int32)))] [(.int (1 : Int32))])
      refine Owes.by (fun _ kq => XS.ifNo X29.here hx rfl (hb hby at_192) rfl (XT.i0_eq_f (by decide)) kq) ?_
      show Owes p e below s (QL n0) room_1.cells room_1.slots T29 (mkF m 195 #[(.val (.int p0)), (.val (.int p1)), (.val (.int p2)), (.val (.long p3)), .second, (.val (.ref b1)), (.val (.int (Int32.ofNat i0))), (.val (.int (Int32.ofNat kk))), (.val (.ref t)), (.val (.ref b7)), (.val (.int (1 : Int32)))] [])
      refine Owes.by (fun _ kq => XS.iconst X29.here hx rfl (hb hby at_195) kq) ?_
      show Owes p e below s (QL n0) room_1.cells room_1.slots T29 (mkF m 196 #[(.val (.int p0)), (.val (.int p1)), (.val (.int p2)), (.val (.long p3)), .second, (.val (.ref b1)), (.val (.int (Int32.ofNat i0))), (.val (.int (Int32.ofNat kk))), (.val (.ref t)), (.val (.ref b7)), (.val (.int (1 : Int32)))] [(.int (1 : Int32))])
      refine Owes.by (fun _ kq => XS.goto X29.here hx rfl (pc0 := 196) (pc' := 200) rfl (hb hby at_196) (by decide) (by decide) kq) ?_
      show Owes p e below s (QL n0) room_1.cells room_1.slots T29 (mkF m 200 #[(.val (.int p0)), (.val (.int p1)), (.val (.int p2)), (.val (.long p3)), .second, (.val (.ref b1)), (.val (.int (Int32.ofNat i0))), (.val (.int (Int32.ofNat kk))), (.val (.ref t)), (.val (.ref b7)), (.val (.int (1 : Int32)))] [(.int (1 : Int32))])
      exact J12 T29 X29 e29
    · skip
      obtain ⟨cq30, kq30, qa30, qb30, qc30⟩ := isOf hZ e11 Eb
      obtain ⟨_, _, ⟨T30, L30, k30, n30⟩, -, X30, ⟨Lc30, hQ30, l30, y30, z30⟩, st30⟩ := X11.virtualBack hx (y := (⟨"com/example/incant5/incant5/Bindings", "get", "(I)Lcom/example/incant5/incant5/Term;"⟩ : MethodName)) (z := (⟨"com/example/incant5/incant5/Bindings", "get", "(I)Lcom/example/incant5/incant5/Term;"⟩ : MethodName)) hown (mvT hZ (hw _ (List.mem_of_getElem? (i := 88) rfl))) (mvT hZ (hw _ (List.mem_of_getElem? (i := 89) rfl))) (notFace_of_selects (args := #[]) (mvT hZ (hw _ (List.mem_of_getElem? (i := 91) rfl)))) (mvT hZ (hw _ (List.mem_of_getElem? (i := 91) rfl))) (mvT hZ (hw _ (List.mem_of_getElem? (i := 90) rfl))) (by decide) (backOf (W := 0) (rmG0 l Z a0 hw [] b7 va t clV 0 T9.heap n0 ZF Fva ArV hin0 (hhV.at hin0 (own_plain0 hu0 hu1 hu2 hu3 hi0 hkk (by decide : 0 < 4) hK))) hZ (hw _ (List.mem_of_getElem? (i := 92) rfl)) (hw _ (List.mem_of_getElem? (i := 55) rfl)) (by decide) (by decide)) qa30 qc30 (g := (mkF m 177 #[(.val (.int p0)), (.val (.int p1)), (.val (.int p2)), (.val (.long p3)), .second, (.val (.ref b1)), (.val (.int (Int32.ofNat i0))), (.val (.int (Int32.ofNat kk))), (.val (.ref t)), (.val (.ref b7)), (.val (.int (1 : Int32)))] [(.int (0 : Int32)), (.ref b7)])) rfl (by rw [hml]; rfl) (Steps.refl _) (argsL := [(.int (0 : Int32))]) (rest := []) (lenOf pd_I_Lcom_example_incant5_incant5_Term rfl) rfl (by show 2 * 0 + _ ≤ _; exact Nat.le_of_eq rfl) (hb hby at_177) (fun _ _ => ⟨rfl, e11, (by decide : 7 + 0 ≤ _), (by decide : 38 + 0 ≤ _)⟩)
      dsimp only [Pt.U, Pt.locs, Pt.cells, Pt.slots] at X30 l30 y30 z30 st30 hQ30
      subst l30 y30 z30
      obtain ⟨rfl, rfl, e30⟩ := hQ30
      try rw [List.append_nil] at X30
      refine Owes.by (fun _ kq => st30.trans kq) ?_
      show Owes p e below s (QL n0) room_1.cells room_1.slots T30 (mkF m 180 #[(.val (.int p0)), (.val (.int p1)), (.val (.int p2)), (.val (.long p3)), .second, (.val (.ref b1)), (.val (.int (Int32.ofNat i0))), (.val (.int (Int32.ofNat kk))), (.val (.ref t)), (.val (.ref b7)), (.val (.int (1 : Int32)))] [.null])
      refine Owes.by (fun _ kq => XS.aload X30.here hx rfl (hb hby at_180) rfl rfl kq) ?_
      show Owes p e below s (QL n0) room_1.cells room_1.slots T30 (mkF m 182 #[(.val (.int p0)), (.val (.int p1)), (.val (.int p2)), (.val (.long p3)), .second, (.val (.ref b1)), (.val (.int (Int32.ofNat i0))), (.val (.int (Int32.ofNat kk))), (.val (.ref t)), (.val (.ref b7)), (.val (.int (1 : Int32)))] [(.ref t), .null])
      refine Owes.by (fun _ kq => XS.iconst X30.here hx rfl (hb hby at_182) kq) ?_
      show Owes p e below s (QL n0) room_1.cells room_1.slots T30 (mkF m 183 #[(.val (.int p0)), (.val (.int p1)), (.val (.int p2)), (.val (.long p3)), .second, (.val (.ref b1)), (.val (.int (Int32.ofNat i0))), (.val (.int (Int32.ofNat kk))), (.val (.ref t)), (.val (.ref b7)), (.val (.int (1 : Int32)))] [(.int (0 : Int32)), (.ref t), .null])
      refine Owes.by (fun _ kq => XS.aload X30.here hx rfl (hb hby at_183) rfl rfl kq) ?_
      show Owes p e below s (QL n0) room_1.cells room_1.slots T30 (mkF m 185 #[(.val (.int p0)), (.val (.int p1)), (.val (.int p2)), (.val (.long p3)), .second, (.val (.ref b1)), (.val (.int (Int32.ofNat i0))), (.val (.int (Int32.ofNat kk))), (.val (.ref t)), (.val (.ref b7)), (.val (.int (1 : Int32)))] [(.ref b1), (.int (0 : Int32)), (.ref t), .null])
      refine Owes.by (fun _ kq => XS.iload X30.here hx rfl (hb hby at_185) rfl kq) ?_
      show Owes p e below s (QL n0) room_1.cells room_1.slots T30 (mkF m 187 #[(.val (.int p0)), (.val (.int p1)), (.val (.int p2)), (.val (.long p3)), .second, (.val (.ref b1)), (.val (.int (Int32.ofNat i0))), (.val (.int (Int32.ofNat kk))), (.val (.ref t)), (.val (.ref b7)), (.val (.int (1 : Int32)))] [(.int (Int32.ofNat i0)), (.ref b1), (.int (0 : Int32)), (.ref t), .null])
      refine Owes.by (fun _ kq => XS.iload X30.here hx rfl (hb hby at_187) rfl kq) ?_
      show Owes p e below s (QL n0) room_1.cells room_1.slots T30 (mkF m 189 #[(.val (.int p0)), (.val (.int p1)), (.val (.int p2)), (.val (.long p3)), .second, (.val (.ref b1)), (.val (.int (Int32.ofNat i0))), (.val (.int (Int32.ofNat kk))), (.val (.ref t)), (.val (.ref b7)), (.val (.int (1 : Int32)))] [(.int (Int32.ofNat kk)), (.int (Int32.ofNat i0)), (.ref b1), (.int (0 : Int32)), (.ref t), .null])
      obtain ⟨_, _, ⟨T31, L31, k31, n31⟩, -, X31, ⟨Lc31, hQ31, l31, y31, z31⟩, st31⟩ := Jvm.LawKit.callS X30 hx (y := (⟨"com/example/incant5/incant5/BindingsUndoPinLaw", "slotOk", "(Lcom/example/incant5/incant5/Term;Lcom/example/incant5/incant5/Term;I[III)Z"⟩ : MethodName)) hown (mvT hZ (hw _ (List.mem_of_getElem? (i := 93) rfl))) (mvT hZ (hw _ (List.mem_of_getElem? (i := 94) rfl))) (mvT hZ (hw _ (List.mem_of_getElem? (i := 95) rfl))) (mvT hZ (hw _ (List.mem_of_getElem? (i := 96) rfl))) (by decide) (backOf (W := 0) (rmS0 l Z a0 hw [] t b1 clS 0 (Int32.ofNat i0) (Int32.ofNat kk) (Int32.ofNat u0) (Int32.ofNat u1) (Int32.ofNat u2) (Int32.ofNat u3) T9.heap n0 ZF ArS at0 at1 at2 at3 hK) hZ (hw _ (List.mem_of_getElem? (i := 96) rfl)) (hw _ (List.mem_of_getElem? (i := 95) rfl)) (by decide) (by decide)) (g := (mkF m 189 #[(.val (.int p0)), (.val (.int p1)), (.val (.int p2)), (.val (.long p3)), .second, (.val (.ref b1)), (.val (.int (Int32.ofNat i0))), (.val (.int (Int32.ofNat kk))), (.val (.ref t)), (.val (.ref b7)), (.val (.int (1 : Int32)))] [(.int (Int32.ofNat kk)), (.int (Int32.ofNat i0)), (.ref b1), (.int (0 : Int32)), (.ref t), .null])) rfl (by rw [hml]; rfl) (argsL := [.null, (.ref t), (.int (0 : Int32)), (.ref b1), (.int (Int32.ofNat i0)), (.int (Int32.ofNat kk))]) (rest := []) (lenOf pd_Lcom_example_incant5_incant5_Term_Lcom_example_incant5_incant5_Term_I_III_Z rfl) rfl (by show 2 * 0 + _ ≤ _; exact Nat.le_of_eq rfl) (hb hby at_189) (fun _ _ => ⟨rfl, e30, (by decide : 7 + 0 ≤ _), (by decide : 38 + 0 ≤ _)⟩)
      dsimp only [Pt.U, Pt.locs, Pt.cells, Pt.slots] at X31 l31 y31 z31 st31 hQ31
      subst l31 y31 z31
      obtain ⟨rfl, rfl, e31⟩ := hQ31
      try rw [List.append_nil] at X31
      refine Owes.by st31 ?_
      show Owes p e below s (QL n0) room_1.cells room_1.slots T31 (mkF m 192 #[(.val (.int p0)), (.val (.int p1)), (.val (.int p2)), (.val (.long p3)), .second, (.val (.ref b1)), (.val (.int (Int32.ofNat i0))), (.val (.int (Int32.ofNat kk))), (.val (.ref t)), (.val (.ref b7)), (.val (.int (1 : Int32)))] [(.int (1 : Int32))])
      refine Owes.by (fun _ kq => XS.ifNo X31.here hx rfl (hb hby at_192) rfl (XT.i0_eq_f (by decide)) kq) ?_
      show Owes p e below s (QL n0) room_1.cells room_1.slots T31 (mkF m 195 #[(.val (.int p0)), (.val (.int p1)), (.val (.int p2)), (.val (.long p3)), .second, (.val (.ref b1)), (.val (.int (Int32.ofNat i0))), (.val (.int (Int32.ofNat kk))), (.val (.ref t)), (.val (.ref b7)), (.val (.int (1 : Int32)))] [])
      refine Owes.by (fun _ kq => XS.iconst X31.here hx rfl (hb hby at_195) kq) ?_
      show Owes p e below s (QL n0) room_1.cells room_1.slots T31 (mkF m 196 #[(.val (.int p0)), (.val (.int p1)), (.val (.int p2)), (.val (.long p3)), .second, (.val (.ref b1)), (.val (.int (Int32.ofNat i0))), (.val (.int (Int32.ofNat kk))), (.val (.ref t)), (.val (.ref b7)), (.val (.int (1 : Int32)))] [(.int (1 : Int32))])
      refine Owes.by (fun _ kq => XS.goto X31.here hx rfl (pc0 := 196) (pc' := 200) rfl (hb hby at_196) (by decide) (by decide) kq) ?_
      show Owes p e below s (QL n0) room_1.cells room_1.slots T31 (mkF m 200 #[(.val (.int p0)), (.val (.int p1)), (.val (.int p2)), (.val (.long p3)), .second, (.val (.ref b1)), (.val (.int (Int32.ofNat i0))), (.val (.int (Int32.ofNat kk))), (.val (.ref t)), (.val (.ref b7)), (.val (.int (1 : Int32)))] [(.int (1 : Int32))])
      exact J12 T31 X31 e31
  rcases h_n with rfl | rfl | rfl | rfl | rfl
  · skip
    show Owes p e below s (QL n0) room_1.cells room_1.slots T8 (mkF m 73 #[(.val (.int p0)), (.val (.int p1)), (.val (.int p2)), (.val (.long p3)), .second, (.val (.ref b1)), (.val (.int (0 : Int32))), (.val (.int (Int32.ofNat kk))), (.val (.ref t)), (.val (.ref b7)), .unset] [])
    refine Owes.by (fun _ kq => XS.iload X8.here hx rfl (hb hby at_73) rfl kq) ?_
    show Owes p e below s (QL n0) room_1.cells room_1.slots T8 (mkF m 75 #[(.val (.int p0)), (.val (.int p1)), (.val (.int p2)), (.val (.long p3)), .second, (.val (.ref b1)), (.val (.int (0 : Int32))), (.val (.int (Int32.ofNat kk))), (.val (.ref t)), (.val (.ref b7)), .unset] [(.int (0 : Int32))])
    refine Owes.by (fun _ kq => XS.ifYes X8.here hx rfl (pc0 := 75) (pc' := 89) rfl (hb hby at_75) rfl (XT.i0_le_t (by decide)) (by decide) (by decide) kq) ?_
    show Owes p e below s (QL n0) room_1.cells room_1.slots T8 (mkF m 89 #[(.val (.int p0)), (.val (.int p1)), (.val (.int p2)), (.val (.long p3)), .second, (.val (.ref b1)), (.val (.int (0 : Int32))), (.val (.int (Int32.ofNat kk))), (.val (.ref t)), (.val (.ref b7)), .unset] [])
    refine Owes.by (fun _ kq => XS.iload X8.here hx rfl (hb hby at_89) rfl kq) ?_
    show Owes p e below s (QL n0) room_1.cells room_1.slots T8 (mkF m 91 #[(.val (.int p0)), (.val (.int p1)), (.val (.int p2)), (.val (.long p3)), .second, (.val (.ref b1)), (.val (.int (0 : Int32))), (.val (.int (Int32.ofNat kk))), (.val (.ref t)), (.val (.ref b7)), .unset] [(.int (0 : Int32))])
    refine Owes.by (fun _ kq => XS.iconst X8.here hx rfl (hb hby at_91) kq) ?_
    show Owes p e below s (QL n0) room_1.cells room_1.slots T8 (mkF m 92 #[(.val (.int p0)), (.val (.int p1)), (.val (.int p2)), (.val (.long p3)), .second, (.val (.ref b1)), (.val (.int (0 : Int32))), (.val (.int (Int32.ofNat kk))), (.val (.ref t)), (.val (.ref b7)), .unset] [(.int (1 : Int32)), (.int (0 : Int32))])
    refine Owes.by (fun _ kq => XS.icmpYes X8.here hx rfl (pc0 := 92) (pc' := 106) rfl (hb hby at_92) rfl (XT.ii_le_t (by decide)) (by decide) (by decide) kq) ?_
    show Owes p e below s (QL n0) room_1.cells room_1.slots T8 (mkF m 106 #[(.val (.int p0)), (.val (.int p1)), (.val (.int p2)), (.val (.long p3)), .second, (.val (.ref b1)), (.val (.int (0 : Int32))), (.val (.int (Int32.ofNat kk))), (.val (.ref t)), (.val (.ref b7)), .unset] [])
    refine Owes.by (fun _ kq => XS.iload X8.here hx rfl (hb hby at_106) rfl kq) ?_
    show Owes p e below s (QL n0) room_1.cells room_1.slots T8 (mkF m 108 #[(.val (.int p0)), (.val (.int p1)), (.val (.int p2)), (.val (.long p3)), .second, (.val (.ref b1)), (.val (.int (0 : Int32))), (.val (.int (Int32.ofNat kk))), (.val (.ref t)), (.val (.ref b7)), .unset] [(.int (0 : Int32))])
    refine Owes.by (fun _ kq => XS.iconst X8.here hx rfl (hb hby at_108) kq) ?_
    show Owes p e below s (QL n0) room_1.cells room_1.slots T8 (mkF m 109 #[(.val (.int p0)), (.val (.int p1)), (.val (.int p2)), (.val (.long p3)), .second, (.val (.ref b1)), (.val (.int (0 : Int32))), (.val (.int (Int32.ofNat kk))), (.val (.ref t)), (.val (.ref b7)), .unset] [(.int (2 : Int32)), (.int (0 : Int32))])
    refine Owes.by (fun _ kq => XS.icmpYes X8.here hx rfl (pc0 := 109) (pc' := 123) rfl (hb hby at_109) rfl (XT.ii_le_t (by decide)) (by decide) (by decide) kq) ?_
    show Owes p e below s (QL n0) room_1.cells room_1.slots T8 (mkF m 123 #[(.val (.int p0)), (.val (.int p1)), (.val (.int p2)), (.val (.long p3)), .second, (.val (.ref b1)), (.val (.int (0 : Int32))), (.val (.int (Int32.ofNat kk))), (.val (.ref t)), (.val (.ref b7)), .unset] [])
    refine Owes.by (fun _ kq => XS.iload X8.here hx rfl (hb hby at_123) rfl kq) ?_
    show Owes p e below s (QL n0) room_1.cells room_1.slots T8 (mkF m 125 #[(.val (.int p0)), (.val (.int p1)), (.val (.int p2)), (.val (.long p3)), .second, (.val (.ref b1)), (.val (.int (0 : Int32))), (.val (.int (Int32.ofNat kk))), (.val (.ref t)), (.val (.ref b7)), .unset] [(.int (0 : Int32))])
    refine Owes.by (fun _ kq => XS.iconst X8.here hx rfl (hb hby at_125) kq) ?_
    show Owes p e below s (QL n0) room_1.cells room_1.slots T8 (mkF m 126 #[(.val (.int p0)), (.val (.int p1)), (.val (.int p2)), (.val (.long p3)), .second, (.val (.ref b1)), (.val (.int (0 : Int32))), (.val (.int (Int32.ofNat kk))), (.val (.ref t)), (.val (.ref b7)), .unset] [(.int (3 : Int32)), (.int (0 : Int32))])
    refine Owes.by (fun _ kq => XS.icmpYes X8.here hx rfl (pc0 := 126) (pc' := 140) rfl (hb hby at_126) rfl (XT.ii_le_t (by decide)) (by decide) (by decide) kq) ?_
    show Owes p e below s (QL n0) room_1.cells room_1.slots T8 (mkF m 140 #[(.val (.int p0)), (.val (.int p1)), (.val (.int p2)), (.val (.long p3)), .second, (.val (.ref b1)), (.val (.int (0 : Int32))), (.val (.int (Int32.ofNat kk))), (.val (.ref t)), (.val (.ref b7)), .unset] [])
    exact J T8 _ _ X8 (rfl : T8.heap = T8.heap) Nm 0 [(.int (0 : Int32)), (.int (0 : Int32)), (.int (0 : Int32)), (.int (0 : Int32)), (.int (0 : Int32)), (.int (0 : Int32)), (.int (0 : Int32)), (.int (0 : Int32)), (.int (0 : Int32)), (.int (0 : Int32)), (.int (0 : Int32)), (.int (0 : Int32)), (.int (0 : Int32)), (.int (0 : Int32)), (.int (0 : Int32)), (.int (0 : Int32))] rfl (by decide) Zm (by simpa [own_bl, own_f] using B8) (by intro i hi; omega) Vs0
  · skip
    show Owes p e below s (QL n0) room_1.cells room_1.slots T8 (mkF m 73 #[(.val (.int p0)), (.val (.int p1)), (.val (.int p2)), (.val (.long p3)), .second, (.val (.ref b1)), (.val (.int (1 : Int32))), (.val (.int (Int32.ofNat kk))), (.val (.ref t)), (.val (.ref b7)), .unset] [])
    refine Owes.by (fun _ kq => XS.iload X8.here hx rfl (hb hby at_73) rfl kq) ?_
    show Owes p e below s (QL n0) room_1.cells room_1.slots T8 (mkF m 75 #[(.val (.int p0)), (.val (.int p1)), (.val (.int p2)), (.val (.long p3)), .second, (.val (.ref b1)), (.val (.int (1 : Int32))), (.val (.int (Int32.ofNat kk))), (.val (.ref t)), (.val (.ref b7)), .unset] [(.int (1 : Int32))])
    refine Owes.by (fun _ kq => XS.ifNo X8.here hx rfl (hb hby at_75) rfl (XT.i0_le_f (by decide)) kq) ?_
    show Owes p e below s (QL n0) room_1.cells room_1.slots T8 (mkF m 78 #[(.val (.int p0)), (.val (.int p1)), (.val (.int p2)), (.val (.long p3)), .second, (.val (.ref b1)), (.val (.int (1 : Int32))), (.val (.int (Int32.ofNat kk))), (.val (.ref t)), (.val (.ref b7)), .unset] [])
    refine Owes.by (fun _ kq => XS.aload X8.here hx rfl (hb hby at_78) rfl rfl kq) ?_
    show Owes p e below s (QL n0) room_1.cells room_1.slots T8 (mkF m 80 #[(.val (.int p0)), (.val (.int p1)), (.val (.int p2)), (.val (.long p3)), .second, (.val (.ref b1)), (.val (.int (1 : Int32))), (.val (.int (Int32.ofNat kk))), (.val (.ref t)), (.val (.ref b7)), .unset] [(.ref b7)])
    refine Owes.by (fun _ kq => XS.aload X8.here hx rfl (hb hby at_80) rfl rfl kq) ?_
    show Owes p e below s (QL n0) room_1.cells room_1.slots T8 (mkF m 82 #[(.val (.int p0)), (.val (.int p1)), (.val (.int p2)), (.val (.long p3)), .second, (.val (.ref b1)), (.val (.int (1 : Int32))), (.val (.int (Int32.ofNat kk))), (.val (.ref t)), (.val (.ref b7)), .unset] [(.ref b1), (.ref b7)])
    refine Owes.by (fun _ kq => XS.iconst X8.here hx rfl (hb hby at_82) kq) ?_
    show Owes p e below s (QL n0) room_1.cells room_1.slots T8 (mkF m 83 #[(.val (.int p0)), (.val (.int p1)), (.val (.int p2)), (.val (.long p3)), .second, (.val (.ref b1)), (.val (.int (1 : Int32))), (.val (.int (Int32.ofNat kk))), (.val (.ref t)), (.val (.ref b7)), .unset] [(.int (0 : Int32)), (.ref b1), (.ref b7)])
    have Vo0 := Vs0
    obtain ⟨clo0, Aro0, -, szo0, -, hho0, -⟩ := Vo0
    have hino0 := inb_of (j := 0) szo0 ⟨by decide, by decide⟩
    refine Owes.by (fun tq kq => X8.iaload hx (j := (0 : Int32)) (v := (.int (Int32.ofNat u0))) (by rw [(rfl : T8.heap = T8.heap)]; exact Aro0.1) (State.isArrayOf_alike hZ.alike Aro0.2.1) Aro0.2.2 hino0 (hho0.at hino0 rfl) (g := (mkF m 83 #[(.val (.int p0)), (.val (.int p1)), (.val (.int p2)), (.val (.long p3)), .second, (.val (.ref b1)), (.val (.int (1 : Int32))), (.val (.int (Int32.ofNat kk))), (.val (.ref t)), (.val (.ref b7)), .unset] [(.int (0 : Int32)), (.ref b1), (.ref b7)])) rfl rfl (hb hby at_83) tq kq) ?_
    show Owes p e below s (QL n0) room_1.cells room_1.slots T8 (mkF m 84 #[(.val (.int p0)), (.val (.int p1)), (.val (.int p2)), (.val (.long p3)), .second, (.val (.ref b1)), (.val (.int (1 : Int32))), (.val (.int (Int32.ofNat kk))), (.val (.ref t)), (.val (.ref b7)), .unset] [(.int (Int32.ofNat u0)), (.ref b7)])
    refine Owes.by (fun _ kq => XS.aload X8.here hx rfl (hb hby at_84) rfl rfl kq) ?_
    show Owes p e below s (QL n0) room_1.cells room_1.slots T8 (mkF m 86 #[(.val (.int p0)), (.val (.int p1)), (.val (.int p2)), (.val (.long p3)), .second, (.val (.ref b1)), (.val (.int (1 : Int32))), (.val (.int (Int32.ofNat kk))), (.val (.ref t)), (.val (.ref b7)), .unset] [(.ref t), (.int (Int32.ofNat u0)), (.ref b7)])
    obtain ⟨cq32, kq32, qa32, qb32, qc32⟩ := isOf hZ (rfl : T8.heap = T8.heap) B8.1
    obtain ⟨_, _, ⟨T32, L32, k32, n32⟩, -, X32, ⟨Lc32, hQ32, l32, y32, z32⟩, st32⟩ := X8.virtualBack hx (y := (⟨"com/example/incant5/incant5/Bindings", "bind", "(ILcom/example/incant5/incant5/Term;)V"⟩ : MethodName)) (z := (⟨"com/example/incant5/incant5/Bindings", "bind", "(ILcom/example/incant5/incant5/Term;)V"⟩ : MethodName)) hown (mvT hZ (hw _ (List.mem_of_getElem? (i := 66) rfl))) (mvT hZ (hw _ (List.mem_of_getElem? (i := 67) rfl))) (notFace_of_selects (args := #[]) (mvT hZ (hw _ (List.mem_of_getElem? (i := 69) rfl)))) (mvT hZ (hw _ (List.mem_of_getElem? (i := 69) rfl))) (mvT hZ (hw _ (List.mem_of_getElem? (i := 68) rfl))) (by decide) (backOf (W := 0) (rmBd l Z a0 hw [] b7 tr va t kT kV 0 1 (Int32.ofNat u0) 0 u0 [(.int (0 : Int32)), (.int (0 : Int32)), (.int (0 : Int32)), (.int (0 : Int32)), (.int (0 : Int32)), (.int (0 : Int32)), (.int (0 : Int32)), (.int (0 : Int32)), (.int (0 : Int32)), (.int (0 : Int32)), (.int (0 : Int32)), (.int (0 : Int32)), (.int (0 : Int32)), (.int (0 : Int32)), (.int (0 : Int32)), (.int (0 : Int32))] [.null, .null, .null, .null] T8.heap n0 Zm B8 At0 (by decide) (by decide) (by decide) (by simp) (by decide) (own_in4 hu0).1 (own_in4 hu0).2 (clamp_of rfl (by omega)) (by simp; omega) gb0 gt0 gv0) hZ (hw _ (List.mem_of_getElem? (i := 70) rfl)) (hw _ (List.mem_of_getElem? (i := 55) rfl)) (by decide) (by decide)) qa32 qc32 (g := (mkF m 86 #[(.val (.int p0)), (.val (.int p1)), (.val (.int p2)), (.val (.long p3)), .second, (.val (.ref b1)), (.val (.int (1 : Int32))), (.val (.int (Int32.ofNat kk))), (.val (.ref t)), (.val (.ref b7)), .unset] [(.ref t), (.int (Int32.ofNat u0)), (.ref b7)])) rfl (by rw [hml]; rfl) (Steps.refl _) (argsL := [(.int (Int32.ofNat u0)), (.ref t)]) (rest := []) (lenOf pd_ILcom_example_incant5_incant5_Term_V rfl) rfl (by show 2 * 0 + _ ≤ _; exact Nat.le_of_eq rfl) (hb hby at_86) (fun _ _ => ⟨rfl, (rfl : T8.heap = T8.heap), (by decide : 7 + 0 ≤ _), (by decide : 38 + 0 ≤ _)⟩)
    dsimp only [Pt.U, Pt.locs, Pt.cells, Pt.slots] at X32 l32 y32 z32 st32 hQ32
    subst l32 y32 z32
    obtain ⟨rfl, N32, K32, B32⟩ := hQ32
    refine Owes.by (fun _ kq => st32.trans kq) ?_
    show Owes p e below s (QL n0) room_1.cells room_1.slots T32 (mkF m 89 #[(.val (.int p0)), (.val (.int p1)), (.val (.int p2)), (.val (.long p3)), .second, (.val (.ref b1)), (.val (.int (1 : Int32))), (.val (.int (Int32.ofNat kk))), (.val (.ref t)), (.val (.ref b7)), .unset] [])
    have N32' := Fr.app Nm N32
    have Z32' : n0 ≤ T32.heap.size := Nat.le_trans Zm K32.1
    have Vs32 := Vs0.keep K32 (ninS nsb (ninS nst (ninS nsv nin0)))
    have At32 := At0.keep K32
    refine Owes.by (fun _ kq => XS.iload X32.here hx rfl (hb hby at_89) rfl kq) ?_
    show Owes p e below s (QL n0) room_1.cells room_1.slots T32 (mkF m 91 #[(.val (.int p0)), (.val (.int p1)), (.val (.int p2)), (.val (.long p3)), .second, (.val (.ref b1)), (.val (.int (1 : Int32))), (.val (.int (Int32.ofNat kk))), (.val (.ref t)), (.val (.ref b7)), .unset] [(.int (1 : Int32))])
    refine Owes.by (fun _ kq => XS.iconst X32.here hx rfl (hb hby at_91) kq) ?_
    show Owes p e below s (QL n0) room_1.cells room_1.slots T32 (mkF m 92 #[(.val (.int p0)), (.val (.int p1)), (.val (.int p2)), (.val (.long p3)), .second, (.val (.ref b1)), (.val (.int (1 : Int32))), (.val (.int (Int32.ofNat kk))), (.val (.ref t)), (.val (.ref b7)), .unset] [(.int (1 : Int32)), (.int (1 : Int32))])
    refine Owes.by (fun _ kq => XS.icmpYes X32.here hx rfl (pc0 := 92) (pc' := 106) rfl (hb hby at_92) rfl (XT.ii_le_t (by decide)) (by decide) (by decide) kq) ?_
    show Owes p e below s (QL n0) room_1.cells room_1.slots T32 (mkF m 106 #[(.val (.int p0)), (.val (.int p1)), (.val (.int p2)), (.val (.long p3)), .second, (.val (.ref b1)), (.val (.int (1 : Int32))), (.val (.int (Int32.ofNat kk))), (.val (.ref t)), (.val (.ref b7)), .unset] [])
    refine Owes.by (fun _ kq => XS.iload X32.here hx rfl (hb hby at_106) rfl kq) ?_
    show Owes p e below s (QL n0) room_1.cells room_1.slots T32 (mkF m 108 #[(.val (.int p0)), (.val (.int p1)), (.val (.int p2)), (.val (.long p3)), .second, (.val (.ref b1)), (.val (.int (1 : Int32))), (.val (.int (Int32.ofNat kk))), (.val (.ref t)), (.val (.ref b7)), .unset] [(.int (1 : Int32))])
    refine Owes.by (fun _ kq => XS.iconst X32.here hx rfl (hb hby at_108) kq) ?_
    show Owes p e below s (QL n0) room_1.cells room_1.slots T32 (mkF m 109 #[(.val (.int p0)), (.val (.int p1)), (.val (.int p2)), (.val (.long p3)), .second, (.val (.ref b1)), (.val (.int (1 : Int32))), (.val (.int (Int32.ofNat kk))), (.val (.ref t)), (.val (.ref b7)), .unset] [(.int (2 : Int32)), (.int (1 : Int32))])
    refine Owes.by (fun _ kq => XS.icmpYes X32.here hx rfl (pc0 := 109) (pc' := 123) rfl (hb hby at_109) rfl (XT.ii_le_t (by decide)) (by decide) (by decide) kq) ?_
    show Owes p e below s (QL n0) room_1.cells room_1.slots T32 (mkF m 123 #[(.val (.int p0)), (.val (.int p1)), (.val (.int p2)), (.val (.long p3)), .second, (.val (.ref b1)), (.val (.int (1 : Int32))), (.val (.int (Int32.ofNat kk))), (.val (.ref t)), (.val (.ref b7)), .unset] [])
    refine Owes.by (fun _ kq => XS.iload X32.here hx rfl (hb hby at_123) rfl kq) ?_
    show Owes p e below s (QL n0) room_1.cells room_1.slots T32 (mkF m 125 #[(.val (.int p0)), (.val (.int p1)), (.val (.int p2)), (.val (.long p3)), .second, (.val (.ref b1)), (.val (.int (1 : Int32))), (.val (.int (Int32.ofNat kk))), (.val (.ref t)), (.val (.ref b7)), .unset] [(.int (1 : Int32))])
    refine Owes.by (fun _ kq => XS.iconst X32.here hx rfl (hb hby at_125) kq) ?_
    show Owes p e below s (QL n0) room_1.cells room_1.slots T32 (mkF m 126 #[(.val (.int p0)), (.val (.int p1)), (.val (.int p2)), (.val (.long p3)), .second, (.val (.ref b1)), (.val (.int (1 : Int32))), (.val (.int (Int32.ofNat kk))), (.val (.ref t)), (.val (.ref b7)), .unset] [(.int (3 : Int32)), (.int (1 : Int32))])
    refine Owes.by (fun _ kq => XS.icmpYes X32.here hx rfl (pc0 := 126) (pc' := 140) rfl (hb hby at_126) rfl (XT.ii_le_t (by decide)) (by decide) (by decide) kq) ?_
    show Owes p e below s (QL n0) room_1.cells room_1.slots T32 (mkF m 140 #[(.val (.int p0)), (.val (.int p1)), (.val (.int p2)), (.val (.long p3)), .second, (.val (.ref b1)), (.val (.int (1 : Int32))), (.val (.int (Int32.ofNat kk))), (.val (.ref t)), (.val (.ref b7)), .unset] [])
    exact J T32 _ _ X32 (rfl : T32.heap = T32.heap) N32' 1 ([(.int (0 : Int32)), (.int (0 : Int32)), (.int (0 : Int32)), (.int (0 : Int32)), (.int (0 : Int32)), (.int (0 : Int32)), (.int (0 : Int32)), (.int (0 : Int32)), (.int (0 : Int32)), (.int (0 : Int32)), (.int (0 : Int32)), (.int (0 : Int32)), (.int (0 : Int32)), (.int (0 : Int32)), (.int (0 : Int32)), (.int (0 : Int32))].set 0 (.int (Int32.ofNat u0))) rfl (by decide) Z32' (by simpa [own_bl, own_f] using B32) (by intro i hi; match i, hi with | 0, _ => rfl) Vs32
  · skip
    show Owes p e below s (QL n0) room_1.cells room_1.slots T8 (mkF m 73 #[(.val (.int p0)), (.val (.int p1)), (.val (.int p2)), (.val (.long p3)), .second, (.val (.ref b1)), (.val (.int (2 : Int32))), (.val (.int (Int32.ofNat kk))), (.val (.ref t)), (.val (.ref b7)), .unset] [])
    refine Owes.by (fun _ kq => XS.iload X8.here hx rfl (hb hby at_73) rfl kq) ?_
    show Owes p e below s (QL n0) room_1.cells room_1.slots T8 (mkF m 75 #[(.val (.int p0)), (.val (.int p1)), (.val (.int p2)), (.val (.long p3)), .second, (.val (.ref b1)), (.val (.int (2 : Int32))), (.val (.int (Int32.ofNat kk))), (.val (.ref t)), (.val (.ref b7)), .unset] [(.int (2 : Int32))])
    refine Owes.by (fun _ kq => XS.ifNo X8.here hx rfl (hb hby at_75) rfl (XT.i0_le_f (by decide)) kq) ?_
    show Owes p e below s (QL n0) room_1.cells room_1.slots T8 (mkF m 78 #[(.val (.int p0)), (.val (.int p1)), (.val (.int p2)), (.val (.long p3)), .second, (.val (.ref b1)), (.val (.int (2 : Int32))), (.val (.int (Int32.ofNat kk))), (.val (.ref t)), (.val (.ref b7)), .unset] [])
    refine Owes.by (fun _ kq => XS.aload X8.here hx rfl (hb hby at_78) rfl rfl kq) ?_
    show Owes p e below s (QL n0) room_1.cells room_1.slots T8 (mkF m 80 #[(.val (.int p0)), (.val (.int p1)), (.val (.int p2)), (.val (.long p3)), .second, (.val (.ref b1)), (.val (.int (2 : Int32))), (.val (.int (Int32.ofNat kk))), (.val (.ref t)), (.val (.ref b7)), .unset] [(.ref b7)])
    refine Owes.by (fun _ kq => XS.aload X8.here hx rfl (hb hby at_80) rfl rfl kq) ?_
    show Owes p e below s (QL n0) room_1.cells room_1.slots T8 (mkF m 82 #[(.val (.int p0)), (.val (.int p1)), (.val (.int p2)), (.val (.long p3)), .second, (.val (.ref b1)), (.val (.int (2 : Int32))), (.val (.int (Int32.ofNat kk))), (.val (.ref t)), (.val (.ref b7)), .unset] [(.ref b1), (.ref b7)])
    refine Owes.by (fun _ kq => XS.iconst X8.here hx rfl (hb hby at_82) kq) ?_
    show Owes p e below s (QL n0) room_1.cells room_1.slots T8 (mkF m 83 #[(.val (.int p0)), (.val (.int p1)), (.val (.int p2)), (.val (.long p3)), .second, (.val (.ref b1)), (.val (.int (2 : Int32))), (.val (.int (Int32.ofNat kk))), (.val (.ref t)), (.val (.ref b7)), .unset] [(.int (0 : Int32)), (.ref b1), (.ref b7)])
    have Vo0 := Vs0
    obtain ⟨clo0, Aro0, -, szo0, -, hho0, -⟩ := Vo0
    have hino0 := inb_of (j := 0) szo0 ⟨by decide, by decide⟩
    refine Owes.by (fun tq kq => X8.iaload hx (j := (0 : Int32)) (v := (.int (Int32.ofNat u0))) (by rw [(rfl : T8.heap = T8.heap)]; exact Aro0.1) (State.isArrayOf_alike hZ.alike Aro0.2.1) Aro0.2.2 hino0 (hho0.at hino0 rfl) (g := (mkF m 83 #[(.val (.int p0)), (.val (.int p1)), (.val (.int p2)), (.val (.long p3)), .second, (.val (.ref b1)), (.val (.int (2 : Int32))), (.val (.int (Int32.ofNat kk))), (.val (.ref t)), (.val (.ref b7)), .unset] [(.int (0 : Int32)), (.ref b1), (.ref b7)])) rfl rfl (hb hby at_83) tq kq) ?_
    show Owes p e below s (QL n0) room_1.cells room_1.slots T8 (mkF m 84 #[(.val (.int p0)), (.val (.int p1)), (.val (.int p2)), (.val (.long p3)), .second, (.val (.ref b1)), (.val (.int (2 : Int32))), (.val (.int (Int32.ofNat kk))), (.val (.ref t)), (.val (.ref b7)), .unset] [(.int (Int32.ofNat u0)), (.ref b7)])
    refine Owes.by (fun _ kq => XS.aload X8.here hx rfl (hb hby at_84) rfl rfl kq) ?_
    show Owes p e below s (QL n0) room_1.cells room_1.slots T8 (mkF m 86 #[(.val (.int p0)), (.val (.int p1)), (.val (.int p2)), (.val (.long p3)), .second, (.val (.ref b1)), (.val (.int (2 : Int32))), (.val (.int (Int32.ofNat kk))), (.val (.ref t)), (.val (.ref b7)), .unset] [(.ref t), (.int (Int32.ofNat u0)), (.ref b7)])
    obtain ⟨cq33, kq33, qa33, qb33, qc33⟩ := isOf hZ (rfl : T8.heap = T8.heap) B8.1
    obtain ⟨_, _, ⟨T33, L33, k33, n33⟩, -, X33, ⟨Lc33, hQ33, l33, y33, z33⟩, st33⟩ := X8.virtualBack hx (y := (⟨"com/example/incant5/incant5/Bindings", "bind", "(ILcom/example/incant5/incant5/Term;)V"⟩ : MethodName)) (z := (⟨"com/example/incant5/incant5/Bindings", "bind", "(ILcom/example/incant5/incant5/Term;)V"⟩ : MethodName)) hown (mvT hZ (hw _ (List.mem_of_getElem? (i := 66) rfl))) (mvT hZ (hw _ (List.mem_of_getElem? (i := 67) rfl))) (notFace_of_selects (args := #[]) (mvT hZ (hw _ (List.mem_of_getElem? (i := 69) rfl)))) (mvT hZ (hw _ (List.mem_of_getElem? (i := 69) rfl))) (mvT hZ (hw _ (List.mem_of_getElem? (i := 68) rfl))) (by decide) (backOf (W := 0) (rmBd l Z a0 hw [] b7 tr va t kT kV 0 1 (Int32.ofNat u0) 0 u0 [(.int (0 : Int32)), (.int (0 : Int32)), (.int (0 : Int32)), (.int (0 : Int32)), (.int (0 : Int32)), (.int (0 : Int32)), (.int (0 : Int32)), (.int (0 : Int32)), (.int (0 : Int32)), (.int (0 : Int32)), (.int (0 : Int32)), (.int (0 : Int32)), (.int (0 : Int32)), (.int (0 : Int32)), (.int (0 : Int32)), (.int (0 : Int32))] [.null, .null, .null, .null] T8.heap n0 Zm B8 At0 (by decide) (by decide) (by decide) (by simp) (by decide) (own_in4 hu0).1 (own_in4 hu0).2 (clamp_of rfl (by omega)) (by simp; omega) gb0 gt0 gv0) hZ (hw _ (List.mem_of_getElem? (i := 70) rfl)) (hw _ (List.mem_of_getElem? (i := 55) rfl)) (by decide) (by decide)) qa33 qc33 (g := (mkF m 86 #[(.val (.int p0)), (.val (.int p1)), (.val (.int p2)), (.val (.long p3)), .second, (.val (.ref b1)), (.val (.int (2 : Int32))), (.val (.int (Int32.ofNat kk))), (.val (.ref t)), (.val (.ref b7)), .unset] [(.ref t), (.int (Int32.ofNat u0)), (.ref b7)])) rfl (by rw [hml]; rfl) (Steps.refl _) (argsL := [(.int (Int32.ofNat u0)), (.ref t)]) (rest := []) (lenOf pd_ILcom_example_incant5_incant5_Term_V rfl) rfl (by show 2 * 0 + _ ≤ _; exact Nat.le_of_eq rfl) (hb hby at_86) (fun _ _ => ⟨rfl, (rfl : T8.heap = T8.heap), (by decide : 7 + 0 ≤ _), (by decide : 38 + 0 ≤ _)⟩)
    dsimp only [Pt.U, Pt.locs, Pt.cells, Pt.slots] at X33 l33 y33 z33 st33 hQ33
    subst l33 y33 z33
    obtain ⟨rfl, N33, K33, B33⟩ := hQ33
    refine Owes.by (fun _ kq => st33.trans kq) ?_
    show Owes p e below s (QL n0) room_1.cells room_1.slots T33 (mkF m 89 #[(.val (.int p0)), (.val (.int p1)), (.val (.int p2)), (.val (.long p3)), .second, (.val (.ref b1)), (.val (.int (2 : Int32))), (.val (.int (Int32.ofNat kk))), (.val (.ref t)), (.val (.ref b7)), .unset] [])
    have N33' := Fr.app Nm N33
    have Z33' : n0 ≤ T33.heap.size := Nat.le_trans Zm K33.1
    have Vs33 := Vs0.keep K33 (ninS nsb (ninS nst (ninS nsv nin0)))
    have At33 := At0.keep K33
    refine Owes.by (fun _ kq => XS.iload X33.here hx rfl (hb hby at_89) rfl kq) ?_
    show Owes p e below s (QL n0) room_1.cells room_1.slots T33 (mkF m 91 #[(.val (.int p0)), (.val (.int p1)), (.val (.int p2)), (.val (.long p3)), .second, (.val (.ref b1)), (.val (.int (2 : Int32))), (.val (.int (Int32.ofNat kk))), (.val (.ref t)), (.val (.ref b7)), .unset] [(.int (2 : Int32))])
    refine Owes.by (fun _ kq => XS.iconst X33.here hx rfl (hb hby at_91) kq) ?_
    show Owes p e below s (QL n0) room_1.cells room_1.slots T33 (mkF m 92 #[(.val (.int p0)), (.val (.int p1)), (.val (.int p2)), (.val (.long p3)), .second, (.val (.ref b1)), (.val (.int (2 : Int32))), (.val (.int (Int32.ofNat kk))), (.val (.ref t)), (.val (.ref b7)), .unset] [(.int (1 : Int32)), (.int (2 : Int32))])
    refine Owes.by (fun _ kq => XS.icmpNo X33.here hx rfl (hb hby at_92) rfl (XT.ii_le_f (by decide)) kq) ?_
    show Owes p e below s (QL n0) room_1.cells room_1.slots T33 (mkF m 95 #[(.val (.int p0)), (.val (.int p1)), (.val (.int p2)), (.val (.long p3)), .second, (.val (.ref b1)), (.val (.int (2 : Int32))), (.val (.int (Int32.ofNat kk))), (.val (.ref t)), (.val (.ref b7)), .unset] [])
    refine Owes.by (fun _ kq => XS.aload X33.here hx rfl (hb hby at_95) rfl rfl kq) ?_
    show Owes p e below s (QL n0) room_1.cells room_1.slots T33 (mkF m 97 #[(.val (.int p0)), (.val (.int p1)), (.val (.int p2)), (.val (.long p3)), .second, (.val (.ref b1)), (.val (.int (2 : Int32))), (.val (.int (Int32.ofNat kk))), (.val (.ref t)), (.val (.ref b7)), .unset] [(.ref b7)])
    refine Owes.by (fun _ kq => XS.aload X33.here hx rfl (hb hby at_97) rfl rfl kq) ?_
    show Owes p e below s (QL n0) room_1.cells room_1.slots T33 (mkF m 99 #[(.val (.int p0)), (.val (.int p1)), (.val (.int p2)), (.val (.long p3)), .second, (.val (.ref b1)), (.val (.int (2 : Int32))), (.val (.int (Int32.ofNat kk))), (.val (.ref t)), (.val (.ref b7)), .unset] [(.ref b1), (.ref b7)])
    refine Owes.by (fun _ kq => XS.iconst X33.here hx rfl (hb hby at_99) kq) ?_
    show Owes p e below s (QL n0) room_1.cells room_1.slots T33 (mkF m 100 #[(.val (.int p0)), (.val (.int p1)), (.val (.int p2)), (.val (.long p3)), .second, (.val (.ref b1)), (.val (.int (2 : Int32))), (.val (.int (Int32.ofNat kk))), (.val (.ref t)), (.val (.ref b7)), .unset] [(.int (1 : Int32)), (.ref b1), (.ref b7)])
    have Vo1 := Vs33
    obtain ⟨clo1, Aro1, -, szo1, -, hho1, -⟩ := Vo1
    have hino1 := inb_of (j := 1) szo1 ⟨by decide, by decide⟩
    refine Owes.by (fun tq kq => X33.iaload hx (j := (1 : Int32)) (v := (.int (Int32.ofNat u1))) (by rw [(rfl : T33.heap = T33.heap)]; exact Aro1.1) (State.isArrayOf_alike hZ.alike Aro1.2.1) Aro1.2.2 hino1 (hho1.at hino1 rfl) (g := (mkF m 100 #[(.val (.int p0)), (.val (.int p1)), (.val (.int p2)), (.val (.long p3)), .second, (.val (.ref b1)), (.val (.int (2 : Int32))), (.val (.int (Int32.ofNat kk))), (.val (.ref t)), (.val (.ref b7)), .unset] [(.int (1 : Int32)), (.ref b1), (.ref b7)])) rfl rfl (hb hby at_100) tq kq) ?_
    show Owes p e below s (QL n0) room_1.cells room_1.slots T33 (mkF m 101 #[(.val (.int p0)), (.val (.int p1)), (.val (.int p2)), (.val (.long p3)), .second, (.val (.ref b1)), (.val (.int (2 : Int32))), (.val (.int (Int32.ofNat kk))), (.val (.ref t)), (.val (.ref b7)), .unset] [(.int (Int32.ofNat u1)), (.ref b7)])
    refine Owes.by (fun _ kq => XS.aload X33.here hx rfl (hb hby at_101) rfl rfl kq) ?_
    show Owes p e below s (QL n0) room_1.cells room_1.slots T33 (mkF m 103 #[(.val (.int p0)), (.val (.int p1)), (.val (.int p2)), (.val (.long p3)), .second, (.val (.ref b1)), (.val (.int (2 : Int32))), (.val (.int (Int32.ofNat kk))), (.val (.ref t)), (.val (.ref b7)), .unset] [(.ref t), (.int (Int32.ofNat u1)), (.ref b7)])
    obtain ⟨cq34, kq34, qa34, qb34, qc34⟩ := isOf hZ (rfl : T33.heap = T33.heap) B33.1
    obtain ⟨_, _, ⟨T34, L34, k34, n34⟩, -, X34, ⟨Lc34, hQ34, l34, y34, z34⟩, st34⟩ := X33.virtualBack hx (y := (⟨"com/example/incant5/incant5/Bindings", "bind", "(ILcom/example/incant5/incant5/Term;)V"⟩ : MethodName)) (z := (⟨"com/example/incant5/incant5/Bindings", "bind", "(ILcom/example/incant5/incant5/Term;)V"⟩ : MethodName)) hown (mvT hZ (hw _ (List.mem_of_getElem? (i := 66) rfl))) (mvT hZ (hw _ (List.mem_of_getElem? (i := 67) rfl))) (notFace_of_selects (args := #[]) (mvT hZ (hw _ (List.mem_of_getElem? (i := 69) rfl)))) (mvT hZ (hw _ (List.mem_of_getElem? (i := 69) rfl))) (mvT hZ (hw _ (List.mem_of_getElem? (i := 68) rfl))) (by decide) (backOf (W := 0) (rmBd l Z a0 hw [] b7 tr va t kT kV 1 2 (Int32.ofNat u1) 1 u1 ([(.int (0 : Int32)), (.int (0 : Int32)), (.int (0 : Int32)), (.int (0 : Int32)), (.int (0 : Int32)), (.int (0 : Int32)), (.int (0 : Int32)), (.int (0 : Int32)), (.int (0 : Int32)), (.int (0 : Int32)), (.int (0 : Int32)), (.int (0 : Int32)), (.int (0 : Int32)), (.int (0 : Int32)), (.int (0 : Int32)), (.int (0 : Int32))].set 0 (.int (Int32.ofNat u0))) ([.null, .null, .null, .null].set u0 (.ref t)) T33.heap n0 Z33' B33 At33 (by decide) (by decide) (by decide) (by simp) (by decide) (own_in4 hu1).1 (own_in4 hu1).2 (clamp_of rfl (by omega)) (by simp; omega) gb0 gt0 gv0) hZ (hw _ (List.mem_of_getElem? (i := 70) rfl)) (hw _ (List.mem_of_getElem? (i := 55) rfl)) (by decide) (by decide)) qa34 qc34 (g := (mkF m 103 #[(.val (.int p0)), (.val (.int p1)), (.val (.int p2)), (.val (.long p3)), .second, (.val (.ref b1)), (.val (.int (2 : Int32))), (.val (.int (Int32.ofNat kk))), (.val (.ref t)), (.val (.ref b7)), .unset] [(.ref t), (.int (Int32.ofNat u1)), (.ref b7)])) rfl (by rw [hml]; rfl) (Steps.refl _) (argsL := [(.int (Int32.ofNat u1)), (.ref t)]) (rest := []) (lenOf pd_ILcom_example_incant5_incant5_Term_V rfl) rfl (by show 2 * 0 + _ ≤ _; exact Nat.le_of_eq rfl) (hb hby at_103) (fun _ _ => ⟨rfl, (rfl : T33.heap = T33.heap), (by decide : 7 + 0 ≤ _), (by decide : 38 + 0 ≤ _)⟩)
    dsimp only [Pt.U, Pt.locs, Pt.cells, Pt.slots] at X34 l34 y34 z34 st34 hQ34
    subst l34 y34 z34
    obtain ⟨rfl, N34, K34, B34⟩ := hQ34
    refine Owes.by (fun _ kq => st34.trans kq) ?_
    show Owes p e below s (QL n0) room_1.cells room_1.slots T34 (mkF m 106 #[(.val (.int p0)), (.val (.int p1)), (.val (.int p2)), (.val (.long p3)), .second, (.val (.ref b1)), (.val (.int (2 : Int32))), (.val (.int (Int32.ofNat kk))), (.val (.ref t)), (.val (.ref b7)), .unset] [])
    have N34' := Fr.app N33' N34
    have Z34' : n0 ≤ T34.heap.size := Nat.le_trans Z33' K34.1
    have Vs34 := Vs33.keep K34 (ninS nsb (ninS nst (ninS nsv nin0)))
    have At34 := At33.keep K34
    refine Owes.by (fun _ kq => XS.iload X34.here hx rfl (hb hby at_106) rfl kq) ?_
    show Owes p e below s (QL n0) room_1.cells room_1.slots T34 (mkF m 108 #[(.val (.int p0)), (.val (.int p1)), (.val (.int p2)), (.val (.long p3)), .second, (.val (.ref b1)), (.val (.int (2 : Int32))), (.val (.int (Int32.ofNat kk))), (.val (.ref t)), (.val (.ref b7)), .unset] [(.int (2 : Int32))])
    refine Owes.by (fun _ kq => XS.iconst X34.here hx rfl (hb hby at_108) kq) ?_
    show Owes p e below s (QL n0) room_1.cells room_1.slots T34 (mkF m 109 #[(.val (.int p0)), (.val (.int p1)), (.val (.int p2)), (.val (.long p3)), .second, (.val (.ref b1)), (.val (.int (2 : Int32))), (.val (.int (Int32.ofNat kk))), (.val (.ref t)), (.val (.ref b7)), .unset] [(.int (2 : Int32)), (.int (2 : Int32))])
    refine Owes.by (fun _ kq => XS.icmpYes X34.here hx rfl (pc0 := 109) (pc' := 123) rfl (hb hby at_109) rfl (XT.ii_le_t (by decide)) (by decide) (by decide) kq) ?_
    show Owes p e below s (QL n0) room_1.cells room_1.slots T34 (mkF m 123 #[(.val (.int p0)), (.val (.int p1)), (.val (.int p2)), (.val (.long p3)), .second, (.val (.ref b1)), (.val (.int (2 : Int32))), (.val (.int (Int32.ofNat kk))), (.val (.ref t)), (.val (.ref b7)), .unset] [])
    refine Owes.by (fun _ kq => XS.iload X34.here hx rfl (hb hby at_123) rfl kq) ?_
    show Owes p e below s (QL n0) room_1.cells room_1.slots T34 (mkF m 125 #[(.val (.int p0)), (.val (.int p1)), (.val (.int p2)), (.val (.long p3)), .second, (.val (.ref b1)), (.val (.int (2 : Int32))), (.val (.int (Int32.ofNat kk))), (.val (.ref t)), (.val (.ref b7)), .unset] [(.int (2 : Int32))])
    refine Owes.by (fun _ kq => XS.iconst X34.here hx rfl (hb hby at_125) kq) ?_
    show Owes p e below s (QL n0) room_1.cells room_1.slots T34 (mkF m 126 #[(.val (.int p0)), (.val (.int p1)), (.val (.int p2)), (.val (.long p3)), .second, (.val (.ref b1)), (.val (.int (2 : Int32))), (.val (.int (Int32.ofNat kk))), (.val (.ref t)), (.val (.ref b7)), .unset] [(.int (3 : Int32)), (.int (2 : Int32))])
    refine Owes.by (fun _ kq => XS.icmpYes X34.here hx rfl (pc0 := 126) (pc' := 140) rfl (hb hby at_126) rfl (XT.ii_le_t (by decide)) (by decide) (by decide) kq) ?_
    show Owes p e below s (QL n0) room_1.cells room_1.slots T34 (mkF m 140 #[(.val (.int p0)), (.val (.int p1)), (.val (.int p2)), (.val (.long p3)), .second, (.val (.ref b1)), (.val (.int (2 : Int32))), (.val (.int (Int32.ofNat kk))), (.val (.ref t)), (.val (.ref b7)), .unset] [])
    exact J T34 _ _ X34 (rfl : T34.heap = T34.heap) N34' 2 (([(.int (0 : Int32)), (.int (0 : Int32)), (.int (0 : Int32)), (.int (0 : Int32)), (.int (0 : Int32)), (.int (0 : Int32)), (.int (0 : Int32)), (.int (0 : Int32)), (.int (0 : Int32)), (.int (0 : Int32)), (.int (0 : Int32)), (.int (0 : Int32)), (.int (0 : Int32)), (.int (0 : Int32)), (.int (0 : Int32)), (.int (0 : Int32))].set 0 (.int (Int32.ofNat u0))).set 1 (.int (Int32.ofNat u1))) rfl (by decide) Z34' (by simpa [own_bl, own_f] using B34) (by intro i hi; match i, hi with | 0, _ => rfl | 1, _ => rfl) Vs34
  · skip
    show Owes p e below s (QL n0) room_1.cells room_1.slots T8 (mkF m 73 #[(.val (.int p0)), (.val (.int p1)), (.val (.int p2)), (.val (.long p3)), .second, (.val (.ref b1)), (.val (.int (3 : Int32))), (.val (.int (Int32.ofNat kk))), (.val (.ref t)), (.val (.ref b7)), .unset] [])
    refine Owes.by (fun _ kq => XS.iload X8.here hx rfl (hb hby at_73) rfl kq) ?_
    show Owes p e below s (QL n0) room_1.cells room_1.slots T8 (mkF m 75 #[(.val (.int p0)), (.val (.int p1)), (.val (.int p2)), (.val (.long p3)), .second, (.val (.ref b1)), (.val (.int (3 : Int32))), (.val (.int (Int32.ofNat kk))), (.val (.ref t)), (.val (.ref b7)), .unset] [(.int (3 : Int32))])
    refine Owes.by (fun _ kq => XS.ifNo X8.here hx rfl (hb hby at_75) rfl (XT.i0_le_f (by decide)) kq) ?_
    show Owes p e below s (QL n0) room_1.cells room_1.slots T8 (mkF m 78 #[(.val (.int p0)), (.val (.int p1)), (.val (.int p2)), (.val (.long p3)), .second, (.val (.ref b1)), (.val (.int (3 : Int32))), (.val (.int (Int32.ofNat kk))), (.val (.ref t)), (.val (.ref b7)), .unset] [])
    refine Owes.by (fun _ kq => XS.aload X8.here hx rfl (hb hby at_78) rfl rfl kq) ?_
    show Owes p e below s (QL n0) room_1.cells room_1.slots T8 (mkF m 80 #[(.val (.int p0)), (.val (.int p1)), (.val (.int p2)), (.val (.long p3)), .second, (.val (.ref b1)), (.val (.int (3 : Int32))), (.val (.int (Int32.ofNat kk))), (.val (.ref t)), (.val (.ref b7)), .unset] [(.ref b7)])
    refine Owes.by (fun _ kq => XS.aload X8.here hx rfl (hb hby at_80) rfl rfl kq) ?_
    show Owes p e below s (QL n0) room_1.cells room_1.slots T8 (mkF m 82 #[(.val (.int p0)), (.val (.int p1)), (.val (.int p2)), (.val (.long p3)), .second, (.val (.ref b1)), (.val (.int (3 : Int32))), (.val (.int (Int32.ofNat kk))), (.val (.ref t)), (.val (.ref b7)), .unset] [(.ref b1), (.ref b7)])
    refine Owes.by (fun _ kq => XS.iconst X8.here hx rfl (hb hby at_82) kq) ?_
    show Owes p e below s (QL n0) room_1.cells room_1.slots T8 (mkF m 83 #[(.val (.int p0)), (.val (.int p1)), (.val (.int p2)), (.val (.long p3)), .second, (.val (.ref b1)), (.val (.int (3 : Int32))), (.val (.int (Int32.ofNat kk))), (.val (.ref t)), (.val (.ref b7)), .unset] [(.int (0 : Int32)), (.ref b1), (.ref b7)])
    have Vo0 := Vs0
    obtain ⟨clo0, Aro0, -, szo0, -, hho0, -⟩ := Vo0
    have hino0 := inb_of (j := 0) szo0 ⟨by decide, by decide⟩
    refine Owes.by (fun tq kq => X8.iaload hx (j := (0 : Int32)) (v := (.int (Int32.ofNat u0))) (by rw [(rfl : T8.heap = T8.heap)]; exact Aro0.1) (State.isArrayOf_alike hZ.alike Aro0.2.1) Aro0.2.2 hino0 (hho0.at hino0 rfl) (g := (mkF m 83 #[(.val (.int p0)), (.val (.int p1)), (.val (.int p2)), (.val (.long p3)), .second, (.val (.ref b1)), (.val (.int (3 : Int32))), (.val (.int (Int32.ofNat kk))), (.val (.ref t)), (.val (.ref b7)), .unset] [(.int (0 : Int32)), (.ref b1), (.ref b7)])) rfl rfl (hb hby at_83) tq kq) ?_
    show Owes p e below s (QL n0) room_1.cells room_1.slots T8 (mkF m 84 #[(.val (.int p0)), (.val (.int p1)), (.val (.int p2)), (.val (.long p3)), .second, (.val (.ref b1)), (.val (.int (3 : Int32))), (.val (.int (Int32.ofNat kk))), (.val (.ref t)), (.val (.ref b7)), .unset] [(.int (Int32.ofNat u0)), (.ref b7)])
    refine Owes.by (fun _ kq => XS.aload X8.here hx rfl (hb hby at_84) rfl rfl kq) ?_
    show Owes p e below s (QL n0) room_1.cells room_1.slots T8 (mkF m 86 #[(.val (.int p0)), (.val (.int p1)), (.val (.int p2)), (.val (.long p3)), .second, (.val (.ref b1)), (.val (.int (3 : Int32))), (.val (.int (Int32.ofNat kk))), (.val (.ref t)), (.val (.ref b7)), .unset] [(.ref t), (.int (Int32.ofNat u0)), (.ref b7)])
    obtain ⟨cq35, kq35, qa35, qb35, qc35⟩ := isOf hZ (rfl : T8.heap = T8.heap) B8.1
    obtain ⟨_, _, ⟨T35, L35, k35, n35⟩, -, X35, ⟨Lc35, hQ35, l35, y35, z35⟩, st35⟩ := X8.virtualBack hx (y := (⟨"com/example/incant5/incant5/Bindings", "bind", "(ILcom/example/incant5/incant5/Term;)V"⟩ : MethodName)) (z := (⟨"com/example/incant5/incant5/Bindings", "bind", "(ILcom/example/incant5/incant5/Term;)V"⟩ : MethodName)) hown (mvT hZ (hw _ (List.mem_of_getElem? (i := 66) rfl))) (mvT hZ (hw _ (List.mem_of_getElem? (i := 67) rfl))) (notFace_of_selects (args := #[]) (mvT hZ (hw _ (List.mem_of_getElem? (i := 69) rfl)))) (mvT hZ (hw _ (List.mem_of_getElem? (i := 69) rfl))) (mvT hZ (hw _ (List.mem_of_getElem? (i := 68) rfl))) (by decide) (backOf (W := 0) (rmBd l Z a0 hw [] b7 tr va t kT kV 0 1 (Int32.ofNat u0) 0 u0 [(.int (0 : Int32)), (.int (0 : Int32)), (.int (0 : Int32)), (.int (0 : Int32)), (.int (0 : Int32)), (.int (0 : Int32)), (.int (0 : Int32)), (.int (0 : Int32)), (.int (0 : Int32)), (.int (0 : Int32)), (.int (0 : Int32)), (.int (0 : Int32)), (.int (0 : Int32)), (.int (0 : Int32)), (.int (0 : Int32)), (.int (0 : Int32))] [.null, .null, .null, .null] T8.heap n0 Zm B8 At0 (by decide) (by decide) (by decide) (by simp) (by decide) (own_in4 hu0).1 (own_in4 hu0).2 (clamp_of rfl (by omega)) (by simp; omega) gb0 gt0 gv0) hZ (hw _ (List.mem_of_getElem? (i := 70) rfl)) (hw _ (List.mem_of_getElem? (i := 55) rfl)) (by decide) (by decide)) qa35 qc35 (g := (mkF m 86 #[(.val (.int p0)), (.val (.int p1)), (.val (.int p2)), (.val (.long p3)), .second, (.val (.ref b1)), (.val (.int (3 : Int32))), (.val (.int (Int32.ofNat kk))), (.val (.ref t)), (.val (.ref b7)), .unset] [(.ref t), (.int (Int32.ofNat u0)), (.ref b7)])) rfl (by rw [hml]; rfl) (Steps.refl _) (argsL := [(.int (Int32.ofNat u0)), (.ref t)]) (rest := []) (lenOf pd_ILcom_example_incant5_incant5_Term_V rfl) rfl (by show 2 * 0 + _ ≤ _; exact Nat.le_of_eq rfl) (hb hby at_86) (fun _ _ => ⟨rfl, (rfl : T8.heap = T8.heap), (by decide : 7 + 0 ≤ _), (by decide : 38 + 0 ≤ _)⟩)
    dsimp only [Pt.U, Pt.locs, Pt.cells, Pt.slots] at X35 l35 y35 z35 st35 hQ35
    subst l35 y35 z35
    obtain ⟨rfl, N35, K35, B35⟩ := hQ35
    refine Owes.by (fun _ kq => st35.trans kq) ?_
    show Owes p e below s (QL n0) room_1.cells room_1.slots T35 (mkF m 89 #[(.val (.int p0)), (.val (.int p1)), (.val (.int p2)), (.val (.long p3)), .second, (.val (.ref b1)), (.val (.int (3 : Int32))), (.val (.int (Int32.ofNat kk))), (.val (.ref t)), (.val (.ref b7)), .unset] [])
    have N35' := Fr.app Nm N35
    have Z35' : n0 ≤ T35.heap.size := Nat.le_trans Zm K35.1
    have Vs35 := Vs0.keep K35 (ninS nsb (ninS nst (ninS nsv nin0)))
    have At35 := At0.keep K35
    refine Owes.by (fun _ kq => XS.iload X35.here hx rfl (hb hby at_89) rfl kq) ?_
    show Owes p e below s (QL n0) room_1.cells room_1.slots T35 (mkF m 91 #[(.val (.int p0)), (.val (.int p1)), (.val (.int p2)), (.val (.long p3)), .second, (.val (.ref b1)), (.val (.int (3 : Int32))), (.val (.int (Int32.ofNat kk))), (.val (.ref t)), (.val (.ref b7)), .unset] [(.int (3 : Int32))])
    refine Owes.by (fun _ kq => XS.iconst X35.here hx rfl (hb hby at_91) kq) ?_
    show Owes p e below s (QL n0) room_1.cells room_1.slots T35 (mkF m 92 #[(.val (.int p0)), (.val (.int p1)), (.val (.int p2)), (.val (.long p3)), .second, (.val (.ref b1)), (.val (.int (3 : Int32))), (.val (.int (Int32.ofNat kk))), (.val (.ref t)), (.val (.ref b7)), .unset] [(.int (1 : Int32)), (.int (3 : Int32))])
    refine Owes.by (fun _ kq => XS.icmpNo X35.here hx rfl (hb hby at_92) rfl (XT.ii_le_f (by decide)) kq) ?_
    show Owes p e below s (QL n0) room_1.cells room_1.slots T35 (mkF m 95 #[(.val (.int p0)), (.val (.int p1)), (.val (.int p2)), (.val (.long p3)), .second, (.val (.ref b1)), (.val (.int (3 : Int32))), (.val (.int (Int32.ofNat kk))), (.val (.ref t)), (.val (.ref b7)), .unset] [])
    refine Owes.by (fun _ kq => XS.aload X35.here hx rfl (hb hby at_95) rfl rfl kq) ?_
    show Owes p e below s (QL n0) room_1.cells room_1.slots T35 (mkF m 97 #[(.val (.int p0)), (.val (.int p1)), (.val (.int p2)), (.val (.long p3)), .second, (.val (.ref b1)), (.val (.int (3 : Int32))), (.val (.int (Int32.ofNat kk))), (.val (.ref t)), (.val (.ref b7)), .unset] [(.ref b7)])
    refine Owes.by (fun _ kq => XS.aload X35.here hx rfl (hb hby at_97) rfl rfl kq) ?_
    show Owes p e below s (QL n0) room_1.cells room_1.slots T35 (mkF m 99 #[(.val (.int p0)), (.val (.int p1)), (.val (.int p2)), (.val (.long p3)), .second, (.val (.ref b1)), (.val (.int (3 : Int32))), (.val (.int (Int32.ofNat kk))), (.val (.ref t)), (.val (.ref b7)), .unset] [(.ref b1), (.ref b7)])
    refine Owes.by (fun _ kq => XS.iconst X35.here hx rfl (hb hby at_99) kq) ?_
    show Owes p e below s (QL n0) room_1.cells room_1.slots T35 (mkF m 100 #[(.val (.int p0)), (.val (.int p1)), (.val (.int p2)), (.val (.long p3)), .second, (.val (.ref b1)), (.val (.int (3 : Int32))), (.val (.int (Int32.ofNat kk))), (.val (.ref t)), (.val (.ref b7)), .unset] [(.int (1 : Int32)), (.ref b1), (.ref b7)])
    have Vo1 := Vs35
    obtain ⟨clo1, Aro1, -, szo1, -, hho1, -⟩ := Vo1
    have hino1 := inb_of (j := 1) szo1 ⟨by decide, by decide⟩
    refine Owes.by (fun tq kq => X35.iaload hx (j := (1 : Int32)) (v := (.int (Int32.ofNat u1))) (by rw [(rfl : T35.heap = T35.heap)]; exact Aro1.1) (State.isArrayOf_alike hZ.alike Aro1.2.1) Aro1.2.2 hino1 (hho1.at hino1 rfl) (g := (mkF m 100 #[(.val (.int p0)), (.val (.int p1)), (.val (.int p2)), (.val (.long p3)), .second, (.val (.ref b1)), (.val (.int (3 : Int32))), (.val (.int (Int32.ofNat kk))), (.val (.ref t)), (.val (.ref b7)), .unset] [(.int (1 : Int32)), (.ref b1), (.ref b7)])) rfl rfl (hb hby at_100) tq kq) ?_
    show Owes p e below s (QL n0) room_1.cells room_1.slots T35 (mkF m 101 #[(.val (.int p0)), (.val (.int p1)), (.val (.int p2)), (.val (.long p3)), .second, (.val (.ref b1)), (.val (.int (3 : Int32))), (.val (.int (Int32.ofNat kk))), (.val (.ref t)), (.val (.ref b7)), .unset] [(.int (Int32.ofNat u1)), (.ref b7)])
    refine Owes.by (fun _ kq => XS.aload X35.here hx rfl (hb hby at_101) rfl rfl kq) ?_
    show Owes p e below s (QL n0) room_1.cells room_1.slots T35 (mkF m 103 #[(.val (.int p0)), (.val (.int p1)), (.val (.int p2)), (.val (.long p3)), .second, (.val (.ref b1)), (.val (.int (3 : Int32))), (.val (.int (Int32.ofNat kk))), (.val (.ref t)), (.val (.ref b7)), .unset] [(.ref t), (.int (Int32.ofNat u1)), (.ref b7)])
    obtain ⟨cq36, kq36, qa36, qb36, qc36⟩ := isOf hZ (rfl : T35.heap = T35.heap) B35.1
    obtain ⟨_, _, ⟨T36, L36, k36, n36⟩, -, X36, ⟨Lc36, hQ36, l36, y36, z36⟩, st36⟩ := X35.virtualBack hx (y := (⟨"com/example/incant5/incant5/Bindings", "bind", "(ILcom/example/incant5/incant5/Term;)V"⟩ : MethodName)) (z := (⟨"com/example/incant5/incant5/Bindings", "bind", "(ILcom/example/incant5/incant5/Term;)V"⟩ : MethodName)) hown (mvT hZ (hw _ (List.mem_of_getElem? (i := 66) rfl))) (mvT hZ (hw _ (List.mem_of_getElem? (i := 67) rfl))) (notFace_of_selects (args := #[]) (mvT hZ (hw _ (List.mem_of_getElem? (i := 69) rfl)))) (mvT hZ (hw _ (List.mem_of_getElem? (i := 69) rfl))) (mvT hZ (hw _ (List.mem_of_getElem? (i := 68) rfl))) (by decide) (backOf (W := 0) (rmBd l Z a0 hw [] b7 tr va t kT kV 1 2 (Int32.ofNat u1) 1 u1 ([(.int (0 : Int32)), (.int (0 : Int32)), (.int (0 : Int32)), (.int (0 : Int32)), (.int (0 : Int32)), (.int (0 : Int32)), (.int (0 : Int32)), (.int (0 : Int32)), (.int (0 : Int32)), (.int (0 : Int32)), (.int (0 : Int32)), (.int (0 : Int32)), (.int (0 : Int32)), (.int (0 : Int32)), (.int (0 : Int32)), (.int (0 : Int32))].set 0 (.int (Int32.ofNat u0))) ([.null, .null, .null, .null].set u0 (.ref t)) T35.heap n0 Z35' B35 At35 (by decide) (by decide) (by decide) (by simp) (by decide) (own_in4 hu1).1 (own_in4 hu1).2 (clamp_of rfl (by omega)) (by simp; omega) gb0 gt0 gv0) hZ (hw _ (List.mem_of_getElem? (i := 70) rfl)) (hw _ (List.mem_of_getElem? (i := 55) rfl)) (by decide) (by decide)) qa36 qc36 (g := (mkF m 103 #[(.val (.int p0)), (.val (.int p1)), (.val (.int p2)), (.val (.long p3)), .second, (.val (.ref b1)), (.val (.int (3 : Int32))), (.val (.int (Int32.ofNat kk))), (.val (.ref t)), (.val (.ref b7)), .unset] [(.ref t), (.int (Int32.ofNat u1)), (.ref b7)])) rfl (by rw [hml]; rfl) (Steps.refl _) (argsL := [(.int (Int32.ofNat u1)), (.ref t)]) (rest := []) (lenOf pd_ILcom_example_incant5_incant5_Term_V rfl) rfl (by show 2 * 0 + _ ≤ _; exact Nat.le_of_eq rfl) (hb hby at_103) (fun _ _ => ⟨rfl, (rfl : T35.heap = T35.heap), (by decide : 7 + 0 ≤ _), (by decide : 38 + 0 ≤ _)⟩)
    dsimp only [Pt.U, Pt.locs, Pt.cells, Pt.slots] at X36 l36 y36 z36 st36 hQ36
    subst l36 y36 z36
    obtain ⟨rfl, N36, K36, B36⟩ := hQ36
    refine Owes.by (fun _ kq => st36.trans kq) ?_
    show Owes p e below s (QL n0) room_1.cells room_1.slots T36 (mkF m 106 #[(.val (.int p0)), (.val (.int p1)), (.val (.int p2)), (.val (.long p3)), .second, (.val (.ref b1)), (.val (.int (3 : Int32))), (.val (.int (Int32.ofNat kk))), (.val (.ref t)), (.val (.ref b7)), .unset] [])
    have N36' := Fr.app N35' N36
    have Z36' : n0 ≤ T36.heap.size := Nat.le_trans Z35' K36.1
    have Vs36 := Vs35.keep K36 (ninS nsb (ninS nst (ninS nsv nin0)))
    have At36 := At35.keep K36
    refine Owes.by (fun _ kq => XS.iload X36.here hx rfl (hb hby at_106) rfl kq) ?_
    show Owes p e below s (QL n0) room_1.cells room_1.slots T36 (mkF m 108 #[(.val (.int p0)), (.val (.int p1)), (.val (.int p2)), (.val (.long p3)), .second, (.val (.ref b1)), (.val (.int (3 : Int32))), (.val (.int (Int32.ofNat kk))), (.val (.ref t)), (.val (.ref b7)), .unset] [(.int (3 : Int32))])
    refine Owes.by (fun _ kq => XS.iconst X36.here hx rfl (hb hby at_108) kq) ?_
    show Owes p e below s (QL n0) room_1.cells room_1.slots T36 (mkF m 109 #[(.val (.int p0)), (.val (.int p1)), (.val (.int p2)), (.val (.long p3)), .second, (.val (.ref b1)), (.val (.int (3 : Int32))), (.val (.int (Int32.ofNat kk))), (.val (.ref t)), (.val (.ref b7)), .unset] [(.int (2 : Int32)), (.int (3 : Int32))])
    refine Owes.by (fun _ kq => XS.icmpNo X36.here hx rfl (hb hby at_109) rfl (XT.ii_le_f (by decide)) kq) ?_
    show Owes p e below s (QL n0) room_1.cells room_1.slots T36 (mkF m 112 #[(.val (.int p0)), (.val (.int p1)), (.val (.int p2)), (.val (.long p3)), .second, (.val (.ref b1)), (.val (.int (3 : Int32))), (.val (.int (Int32.ofNat kk))), (.val (.ref t)), (.val (.ref b7)), .unset] [])
    refine Owes.by (fun _ kq => XS.aload X36.here hx rfl (hb hby at_112) rfl rfl kq) ?_
    show Owes p e below s (QL n0) room_1.cells room_1.slots T36 (mkF m 114 #[(.val (.int p0)), (.val (.int p1)), (.val (.int p2)), (.val (.long p3)), .second, (.val (.ref b1)), (.val (.int (3 : Int32))), (.val (.int (Int32.ofNat kk))), (.val (.ref t)), (.val (.ref b7)), .unset] [(.ref b7)])
    refine Owes.by (fun _ kq => XS.aload X36.here hx rfl (hb hby at_114) rfl rfl kq) ?_
    show Owes p e below s (QL n0) room_1.cells room_1.slots T36 (mkF m 116 #[(.val (.int p0)), (.val (.int p1)), (.val (.int p2)), (.val (.long p3)), .second, (.val (.ref b1)), (.val (.int (3 : Int32))), (.val (.int (Int32.ofNat kk))), (.val (.ref t)), (.val (.ref b7)), .unset] [(.ref b1), (.ref b7)])
    refine Owes.by (fun _ kq => XS.iconst X36.here hx rfl (hb hby at_116) kq) ?_
    show Owes p e below s (QL n0) room_1.cells room_1.slots T36 (mkF m 117 #[(.val (.int p0)), (.val (.int p1)), (.val (.int p2)), (.val (.long p3)), .second, (.val (.ref b1)), (.val (.int (3 : Int32))), (.val (.int (Int32.ofNat kk))), (.val (.ref t)), (.val (.ref b7)), .unset] [(.int (2 : Int32)), (.ref b1), (.ref b7)])
    have Vo2 := Vs36
    obtain ⟨clo2, Aro2, -, szo2, -, hho2, -⟩ := Vo2
    have hino2 := inb_of (j := 2) szo2 ⟨by decide, by decide⟩
    refine Owes.by (fun tq kq => X36.iaload hx (j := (2 : Int32)) (v := (.int (Int32.ofNat u2))) (by rw [(rfl : T36.heap = T36.heap)]; exact Aro2.1) (State.isArrayOf_alike hZ.alike Aro2.2.1) Aro2.2.2 hino2 (hho2.at hino2 rfl) (g := (mkF m 117 #[(.val (.int p0)), (.val (.int p1)), (.val (.int p2)), (.val (.long p3)), .second, (.val (.ref b1)), (.val (.int (3 : Int32))), (.val (.int (Int32.ofNat kk))), (.val (.ref t)), (.val (.ref b7)), .unset] [(.int (2 : Int32)), (.ref b1), (.ref b7)])) rfl rfl (hb hby at_117) tq kq) ?_
    show Owes p e below s (QL n0) room_1.cells room_1.slots T36 (mkF m 118 #[(.val (.int p0)), (.val (.int p1)), (.val (.int p2)), (.val (.long p3)), .second, (.val (.ref b1)), (.val (.int (3 : Int32))), (.val (.int (Int32.ofNat kk))), (.val (.ref t)), (.val (.ref b7)), .unset] [(.int (Int32.ofNat u2)), (.ref b7)])
    refine Owes.by (fun _ kq => XS.aload X36.here hx rfl (hb hby at_118) rfl rfl kq) ?_
    show Owes p e below s (QL n0) room_1.cells room_1.slots T36 (mkF m 120 #[(.val (.int p0)), (.val (.int p1)), (.val (.int p2)), (.val (.long p3)), .second, (.val (.ref b1)), (.val (.int (3 : Int32))), (.val (.int (Int32.ofNat kk))), (.val (.ref t)), (.val (.ref b7)), .unset] [(.ref t), (.int (Int32.ofNat u2)), (.ref b7)])
    obtain ⟨cq37, kq37, qa37, qb37, qc37⟩ := isOf hZ (rfl : T36.heap = T36.heap) B36.1
    obtain ⟨_, _, ⟨T37, L37, k37, n37⟩, -, X37, ⟨Lc37, hQ37, l37, y37, z37⟩, st37⟩ := X36.virtualBack hx (y := (⟨"com/example/incant5/incant5/Bindings", "bind", "(ILcom/example/incant5/incant5/Term;)V"⟩ : MethodName)) (z := (⟨"com/example/incant5/incant5/Bindings", "bind", "(ILcom/example/incant5/incant5/Term;)V"⟩ : MethodName)) hown (mvT hZ (hw _ (List.mem_of_getElem? (i := 66) rfl))) (mvT hZ (hw _ (List.mem_of_getElem? (i := 67) rfl))) (notFace_of_selects (args := #[]) (mvT hZ (hw _ (List.mem_of_getElem? (i := 69) rfl)))) (mvT hZ (hw _ (List.mem_of_getElem? (i := 69) rfl))) (mvT hZ (hw _ (List.mem_of_getElem? (i := 68) rfl))) (by decide) (backOf (W := 0) (rmBd l Z a0 hw [] b7 tr va t kT kV 2 3 (Int32.ofNat u2) 2 u2 (([(.int (0 : Int32)), (.int (0 : Int32)), (.int (0 : Int32)), (.int (0 : Int32)), (.int (0 : Int32)), (.int (0 : Int32)), (.int (0 : Int32)), (.int (0 : Int32)), (.int (0 : Int32)), (.int (0 : Int32)), (.int (0 : Int32)), (.int (0 : Int32)), (.int (0 : Int32)), (.int (0 : Int32)), (.int (0 : Int32)), (.int (0 : Int32))].set 0 (.int (Int32.ofNat u0))).set 1 (.int (Int32.ofNat u1))) (([.null, .null, .null, .null].set u0 (.ref t)).set u1 (.ref t)) T36.heap n0 Z36' B36 At36 (by decide) (by decide) (by decide) (by simp) (by decide) (own_in4 hu2).1 (own_in4 hu2).2 (clamp_of rfl (by omega)) (by simp; omega) gb0 gt0 gv0) hZ (hw _ (List.mem_of_getElem? (i := 70) rfl)) (hw _ (List.mem_of_getElem? (i := 55) rfl)) (by decide) (by decide)) qa37 qc37 (g := (mkF m 120 #[(.val (.int p0)), (.val (.int p1)), (.val (.int p2)), (.val (.long p3)), .second, (.val (.ref b1)), (.val (.int (3 : Int32))), (.val (.int (Int32.ofNat kk))), (.val (.ref t)), (.val (.ref b7)), .unset] [(.ref t), (.int (Int32.ofNat u2)), (.ref b7)])) rfl (by rw [hml]; rfl) (Steps.refl _) (argsL := [(.int (Int32.ofNat u2)), (.ref t)]) (rest := []) (lenOf pd_ILcom_example_incant5_incant5_Term_V rfl) rfl (by show 2 * 0 + _ ≤ _; exact Nat.le_of_eq rfl) (hb hby at_120) (fun _ _ => ⟨rfl, (rfl : T36.heap = T36.heap), (by decide : 7 + 0 ≤ _), (by decide : 38 + 0 ≤ _)⟩)
    dsimp only [Pt.U, Pt.locs, Pt.cells, Pt.slots] at X37 l37 y37 z37 st37 hQ37
    subst l37 y37 z37
    obtain ⟨rfl, N37, K37, B37⟩ := hQ37
    refine Owes.by (fun _ kq => st37.trans kq) ?_
    show Owes p e below s (QL n0) room_1.cells room_1.slots T37 (mkF m 123 #[(.val (.int p0)), (.val (.int p1)), (.val (.int p2)), (.val (.long p3)), .second, (.val (.ref b1)), (.val (.int (3 : Int32))), (.val (.int (Int32.ofNat kk))), (.val (.ref t)), (.val (.ref b7)), .unset] [])
    have N37' := Fr.app N36' N37
    have Z37' : n0 ≤ T37.heap.size := Nat.le_trans Z36' K37.1
    have Vs37 := Vs36.keep K37 (ninS nsb (ninS nst (ninS nsv nin0)))
    have At37 := At36.keep K37
    refine Owes.by (fun _ kq => XS.iload X37.here hx rfl (hb hby at_123) rfl kq) ?_
    show Owes p e below s (QL n0) room_1.cells room_1.slots T37 (mkF m 125 #[(.val (.int p0)), (.val (.int p1)), (.val (.int p2)), (.val (.long p3)), .second, (.val (.ref b1)), (.val (.int (3 : Int32))), (.val (.int (Int32.ofNat kk))), (.val (.ref t)), (.val (.ref b7)), .unset] [(.int (3 : Int32))])
    refine Owes.by (fun _ kq => XS.iconst X37.here hx rfl (hb hby at_125) kq) ?_
    show Owes p e below s (QL n0) room_1.cells room_1.slots T37 (mkF m 126 #[(.val (.int p0)), (.val (.int p1)), (.val (.int p2)), (.val (.long p3)), .second, (.val (.ref b1)), (.val (.int (3 : Int32))), (.val (.int (Int32.ofNat kk))), (.val (.ref t)), (.val (.ref b7)), .unset] [(.int (3 : Int32)), (.int (3 : Int32))])
    refine Owes.by (fun _ kq => XS.icmpYes X37.here hx rfl (pc0 := 126) (pc' := 140) rfl (hb hby at_126) rfl (XT.ii_le_t (by decide)) (by decide) (by decide) kq) ?_
    show Owes p e below s (QL n0) room_1.cells room_1.slots T37 (mkF m 140 #[(.val (.int p0)), (.val (.int p1)), (.val (.int p2)), (.val (.long p3)), .second, (.val (.ref b1)), (.val (.int (3 : Int32))), (.val (.int (Int32.ofNat kk))), (.val (.ref t)), (.val (.ref b7)), .unset] [])
    exact J T37 _ _ X37 (rfl : T37.heap = T37.heap) N37' 3 ((([(.int (0 : Int32)), (.int (0 : Int32)), (.int (0 : Int32)), (.int (0 : Int32)), (.int (0 : Int32)), (.int (0 : Int32)), (.int (0 : Int32)), (.int (0 : Int32)), (.int (0 : Int32)), (.int (0 : Int32)), (.int (0 : Int32)), (.int (0 : Int32)), (.int (0 : Int32)), (.int (0 : Int32)), (.int (0 : Int32)), (.int (0 : Int32))].set 0 (.int (Int32.ofNat u0))).set 1 (.int (Int32.ofNat u1))).set 2 (.int (Int32.ofNat u2))) rfl (by decide) Z37' (by simpa [own_bl, own_f] using B37) (by intro i hi; match i, hi with | 0, _ => rfl | 1, _ => rfl | 2, _ => rfl) Vs37
  · skip
    show Owes p e below s (QL n0) room_1.cells room_1.slots T8 (mkF m 73 #[(.val (.int p0)), (.val (.int p1)), (.val (.int p2)), (.val (.long p3)), .second, (.val (.ref b1)), (.val (.int (4 : Int32))), (.val (.int (Int32.ofNat kk))), (.val (.ref t)), (.val (.ref b7)), .unset] [])
    refine Owes.by (fun _ kq => XS.iload X8.here hx rfl (hb hby at_73) rfl kq) ?_
    show Owes p e below s (QL n0) room_1.cells room_1.slots T8 (mkF m 75 #[(.val (.int p0)), (.val (.int p1)), (.val (.int p2)), (.val (.long p3)), .second, (.val (.ref b1)), (.val (.int (4 : Int32))), (.val (.int (Int32.ofNat kk))), (.val (.ref t)), (.val (.ref b7)), .unset] [(.int (4 : Int32))])
    refine Owes.by (fun _ kq => XS.ifNo X8.here hx rfl (hb hby at_75) rfl (XT.i0_le_f (by decide)) kq) ?_
    show Owes p e below s (QL n0) room_1.cells room_1.slots T8 (mkF m 78 #[(.val (.int p0)), (.val (.int p1)), (.val (.int p2)), (.val (.long p3)), .second, (.val (.ref b1)), (.val (.int (4 : Int32))), (.val (.int (Int32.ofNat kk))), (.val (.ref t)), (.val (.ref b7)), .unset] [])
    refine Owes.by (fun _ kq => XS.aload X8.here hx rfl (hb hby at_78) rfl rfl kq) ?_
    show Owes p e below s (QL n0) room_1.cells room_1.slots T8 (mkF m 80 #[(.val (.int p0)), (.val (.int p1)), (.val (.int p2)), (.val (.long p3)), .second, (.val (.ref b1)), (.val (.int (4 : Int32))), (.val (.int (Int32.ofNat kk))), (.val (.ref t)), (.val (.ref b7)), .unset] [(.ref b7)])
    refine Owes.by (fun _ kq => XS.aload X8.here hx rfl (hb hby at_80) rfl rfl kq) ?_
    show Owes p e below s (QL n0) room_1.cells room_1.slots T8 (mkF m 82 #[(.val (.int p0)), (.val (.int p1)), (.val (.int p2)), (.val (.long p3)), .second, (.val (.ref b1)), (.val (.int (4 : Int32))), (.val (.int (Int32.ofNat kk))), (.val (.ref t)), (.val (.ref b7)), .unset] [(.ref b1), (.ref b7)])
    refine Owes.by (fun _ kq => XS.iconst X8.here hx rfl (hb hby at_82) kq) ?_
    show Owes p e below s (QL n0) room_1.cells room_1.slots T8 (mkF m 83 #[(.val (.int p0)), (.val (.int p1)), (.val (.int p2)), (.val (.long p3)), .second, (.val (.ref b1)), (.val (.int (4 : Int32))), (.val (.int (Int32.ofNat kk))), (.val (.ref t)), (.val (.ref b7)), .unset] [(.int (0 : Int32)), (.ref b1), (.ref b7)])
    have Vo0 := Vs0
    obtain ⟨clo0, Aro0, -, szo0, -, hho0, -⟩ := Vo0
    have hino0 := inb_of (j := 0) szo0 ⟨by decide, by decide⟩
    refine Owes.by (fun tq kq => X8.iaload hx (j := (0 : Int32)) (v := (.int (Int32.ofNat u0))) (by rw [(rfl : T8.heap = T8.heap)]; exact Aro0.1) (State.isArrayOf_alike hZ.alike Aro0.2.1) Aro0.2.2 hino0 (hho0.at hino0 rfl) (g := (mkF m 83 #[(.val (.int p0)), (.val (.int p1)), (.val (.int p2)), (.val (.long p3)), .second, (.val (.ref b1)), (.val (.int (4 : Int32))), (.val (.int (Int32.ofNat kk))), (.val (.ref t)), (.val (.ref b7)), .unset] [(.int (0 : Int32)), (.ref b1), (.ref b7)])) rfl rfl (hb hby at_83) tq kq) ?_
    show Owes p e below s (QL n0) room_1.cells room_1.slots T8 (mkF m 84 #[(.val (.int p0)), (.val (.int p1)), (.val (.int p2)), (.val (.long p3)), .second, (.val (.ref b1)), (.val (.int (4 : Int32))), (.val (.int (Int32.ofNat kk))), (.val (.ref t)), (.val (.ref b7)), .unset] [(.int (Int32.ofNat u0)), (.ref b7)])
    refine Owes.by (fun _ kq => XS.aload X8.here hx rfl (hb hby at_84) rfl rfl kq) ?_
    show Owes p e below s (QL n0) room_1.cells room_1.slots T8 (mkF m 86 #[(.val (.int p0)), (.val (.int p1)), (.val (.int p2)), (.val (.long p3)), .second, (.val (.ref b1)), (.val (.int (4 : Int32))), (.val (.int (Int32.ofNat kk))), (.val (.ref t)), (.val (.ref b7)), .unset] [(.ref t), (.int (Int32.ofNat u0)), (.ref b7)])
    obtain ⟨cq38, kq38, qa38, qb38, qc38⟩ := isOf hZ (rfl : T8.heap = T8.heap) B8.1
    obtain ⟨_, _, ⟨T38, L38, k38, n38⟩, -, X38, ⟨Lc38, hQ38, l38, y38, z38⟩, st38⟩ := X8.virtualBack hx (y := (⟨"com/example/incant5/incant5/Bindings", "bind", "(ILcom/example/incant5/incant5/Term;)V"⟩ : MethodName)) (z := (⟨"com/example/incant5/incant5/Bindings", "bind", "(ILcom/example/incant5/incant5/Term;)V"⟩ : MethodName)) hown (mvT hZ (hw _ (List.mem_of_getElem? (i := 66) rfl))) (mvT hZ (hw _ (List.mem_of_getElem? (i := 67) rfl))) (notFace_of_selects (args := #[]) (mvT hZ (hw _ (List.mem_of_getElem? (i := 69) rfl)))) (mvT hZ (hw _ (List.mem_of_getElem? (i := 69) rfl))) (mvT hZ (hw _ (List.mem_of_getElem? (i := 68) rfl))) (by decide) (backOf (W := 0) (rmBd l Z a0 hw [] b7 tr va t kT kV 0 1 (Int32.ofNat u0) 0 u0 [(.int (0 : Int32)), (.int (0 : Int32)), (.int (0 : Int32)), (.int (0 : Int32)), (.int (0 : Int32)), (.int (0 : Int32)), (.int (0 : Int32)), (.int (0 : Int32)), (.int (0 : Int32)), (.int (0 : Int32)), (.int (0 : Int32)), (.int (0 : Int32)), (.int (0 : Int32)), (.int (0 : Int32)), (.int (0 : Int32)), (.int (0 : Int32))] [.null, .null, .null, .null] T8.heap n0 Zm B8 At0 (by decide) (by decide) (by decide) (by simp) (by decide) (own_in4 hu0).1 (own_in4 hu0).2 (clamp_of rfl (by omega)) (by simp; omega) gb0 gt0 gv0) hZ (hw _ (List.mem_of_getElem? (i := 70) rfl)) (hw _ (List.mem_of_getElem? (i := 55) rfl)) (by decide) (by decide)) qa38 qc38 (g := (mkF m 86 #[(.val (.int p0)), (.val (.int p1)), (.val (.int p2)), (.val (.long p3)), .second, (.val (.ref b1)), (.val (.int (4 : Int32))), (.val (.int (Int32.ofNat kk))), (.val (.ref t)), (.val (.ref b7)), .unset] [(.ref t), (.int (Int32.ofNat u0)), (.ref b7)])) rfl (by rw [hml]; rfl) (Steps.refl _) (argsL := [(.int (Int32.ofNat u0)), (.ref t)]) (rest := []) (lenOf pd_ILcom_example_incant5_incant5_Term_V rfl) rfl (by show 2 * 0 + _ ≤ _; exact Nat.le_of_eq rfl) (hb hby at_86) (fun _ _ => ⟨rfl, (rfl : T8.heap = T8.heap), (by decide : 7 + 0 ≤ _), (by decide : 38 + 0 ≤ _)⟩)
    dsimp only [Pt.U, Pt.locs, Pt.cells, Pt.slots] at X38 l38 y38 z38 st38 hQ38
    subst l38 y38 z38
    obtain ⟨rfl, N38, K38, B38⟩ := hQ38
    refine Owes.by (fun _ kq => st38.trans kq) ?_
    show Owes p e below s (QL n0) room_1.cells room_1.slots T38 (mkF m 89 #[(.val (.int p0)), (.val (.int p1)), (.val (.int p2)), (.val (.long p3)), .second, (.val (.ref b1)), (.val (.int (4 : Int32))), (.val (.int (Int32.ofNat kk))), (.val (.ref t)), (.val (.ref b7)), .unset] [])
    have N38' := Fr.app Nm N38
    have Z38' : n0 ≤ T38.heap.size := Nat.le_trans Zm K38.1
    have Vs38 := Vs0.keep K38 (ninS nsb (ninS nst (ninS nsv nin0)))
    have At38 := At0.keep K38
    refine Owes.by (fun _ kq => XS.iload X38.here hx rfl (hb hby at_89) rfl kq) ?_
    show Owes p e below s (QL n0) room_1.cells room_1.slots T38 (mkF m 91 #[(.val (.int p0)), (.val (.int p1)), (.val (.int p2)), (.val (.long p3)), .second, (.val (.ref b1)), (.val (.int (4 : Int32))), (.val (.int (Int32.ofNat kk))), (.val (.ref t)), (.val (.ref b7)), .unset] [(.int (4 : Int32))])
    refine Owes.by (fun _ kq => XS.iconst X38.here hx rfl (hb hby at_91) kq) ?_
    show Owes p e below s (QL n0) room_1.cells room_1.slots T38 (mkF m 92 #[(.val (.int p0)), (.val (.int p1)), (.val (.int p2)), (.val (.long p3)), .second, (.val (.ref b1)), (.val (.int (4 : Int32))), (.val (.int (Int32.ofNat kk))), (.val (.ref t)), (.val (.ref b7)), .unset] [(.int (1 : Int32)), (.int (4 : Int32))])
    refine Owes.by (fun _ kq => XS.icmpNo X38.here hx rfl (hb hby at_92) rfl (XT.ii_le_f (by decide)) kq) ?_
    show Owes p e below s (QL n0) room_1.cells room_1.slots T38 (mkF m 95 #[(.val (.int p0)), (.val (.int p1)), (.val (.int p2)), (.val (.long p3)), .second, (.val (.ref b1)), (.val (.int (4 : Int32))), (.val (.int (Int32.ofNat kk))), (.val (.ref t)), (.val (.ref b7)), .unset] [])
    refine Owes.by (fun _ kq => XS.aload X38.here hx rfl (hb hby at_95) rfl rfl kq) ?_
    show Owes p e below s (QL n0) room_1.cells room_1.slots T38 (mkF m 97 #[(.val (.int p0)), (.val (.int p1)), (.val (.int p2)), (.val (.long p3)), .second, (.val (.ref b1)), (.val (.int (4 : Int32))), (.val (.int (Int32.ofNat kk))), (.val (.ref t)), (.val (.ref b7)), .unset] [(.ref b7)])
    refine Owes.by (fun _ kq => XS.aload X38.here hx rfl (hb hby at_97) rfl rfl kq) ?_
    show Owes p e below s (QL n0) room_1.cells room_1.slots T38 (mkF m 99 #[(.val (.int p0)), (.val (.int p1)), (.val (.int p2)), (.val (.long p3)), .second, (.val (.ref b1)), (.val (.int (4 : Int32))), (.val (.int (Int32.ofNat kk))), (.val (.ref t)), (.val (.ref b7)), .unset] [(.ref b1), (.ref b7)])
    refine Owes.by (fun _ kq => XS.iconst X38.here hx rfl (hb hby at_99) kq) ?_
    show Owes p e below s (QL n0) room_1.cells room_1.slots T38 (mkF m 100 #[(.val (.int p0)), (.val (.int p1)), (.val (.int p2)), (.val (.long p3)), .second, (.val (.ref b1)), (.val (.int (4 : Int32))), (.val (.int (Int32.ofNat kk))), (.val (.ref t)), (.val (.ref b7)), .unset] [(.int (1 : Int32)), (.ref b1), (.ref b7)])
    have Vo1 := Vs38
    obtain ⟨clo1, Aro1, -, szo1, -, hho1, -⟩ := Vo1
    have hino1 := inb_of (j := 1) szo1 ⟨by decide, by decide⟩
    refine Owes.by (fun tq kq => X38.iaload hx (j := (1 : Int32)) (v := (.int (Int32.ofNat u1))) (by rw [(rfl : T38.heap = T38.heap)]; exact Aro1.1) (State.isArrayOf_alike hZ.alike Aro1.2.1) Aro1.2.2 hino1 (hho1.at hino1 rfl) (g := (mkF m 100 #[(.val (.int p0)), (.val (.int p1)), (.val (.int p2)), (.val (.long p3)), .second, (.val (.ref b1)), (.val (.int (4 : Int32))), (.val (.int (Int32.ofNat kk))), (.val (.ref t)), (.val (.ref b7)), .unset] [(.int (1 : Int32)), (.ref b1), (.ref b7)])) rfl rfl (hb hby at_100) tq kq) ?_
    show Owes p e below s (QL n0) room_1.cells room_1.slots T38 (mkF m 101 #[(.val (.int p0)), (.val (.int p1)), (.val (.int p2)), (.val (.long p3)), .second, (.val (.ref b1)), (.val (.int (4 : Int32))), (.val (.int (Int32.ofNat kk))), (.val (.ref t)), (.val (.ref b7)), .unset] [(.int (Int32.ofNat u1)), (.ref b7)])
    refine Owes.by (fun _ kq => XS.aload X38.here hx rfl (hb hby at_101) rfl rfl kq) ?_
    show Owes p e below s (QL n0) room_1.cells room_1.slots T38 (mkF m 103 #[(.val (.int p0)), (.val (.int p1)), (.val (.int p2)), (.val (.long p3)), .second, (.val (.ref b1)), (.val (.int (4 : Int32))), (.val (.int (Int32.ofNat kk))), (.val (.ref t)), (.val (.ref b7)), .unset] [(.ref t), (.int (Int32.ofNat u1)), (.ref b7)])
    obtain ⟨cq39, kq39, qa39, qb39, qc39⟩ := isOf hZ (rfl : T38.heap = T38.heap) B38.1
    obtain ⟨_, _, ⟨T39, L39, k39, n39⟩, -, X39, ⟨Lc39, hQ39, l39, y39, z39⟩, st39⟩ := X38.virtualBack hx (y := (⟨"com/example/incant5/incant5/Bindings", "bind", "(ILcom/example/incant5/incant5/Term;)V"⟩ : MethodName)) (z := (⟨"com/example/incant5/incant5/Bindings", "bind", "(ILcom/example/incant5/incant5/Term;)V"⟩ : MethodName)) hown (mvT hZ (hw _ (List.mem_of_getElem? (i := 66) rfl))) (mvT hZ (hw _ (List.mem_of_getElem? (i := 67) rfl))) (notFace_of_selects (args := #[]) (mvT hZ (hw _ (List.mem_of_getElem? (i := 69) rfl)))) (mvT hZ (hw _ (List.mem_of_getElem? (i := 69) rfl))) (mvT hZ (hw _ (List.mem_of_getElem? (i := 68) rfl))) (by decide) (backOf (W := 0) (rmBd l Z a0 hw [] b7 tr va t kT kV 1 2 (Int32.ofNat u1) 1 u1 ([(.int (0 : Int32)), (.int (0 : Int32)), (.int (0 : Int32)), (.int (0 : Int32)), (.int (0 : Int32)), (.int (0 : Int32)), (.int (0 : Int32)), (.int (0 : Int32)), (.int (0 : Int32)), (.int (0 : Int32)), (.int (0 : Int32)), (.int (0 : Int32)), (.int (0 : Int32)), (.int (0 : Int32)), (.int (0 : Int32)), (.int (0 : Int32))].set 0 (.int (Int32.ofNat u0))) ([.null, .null, .null, .null].set u0 (.ref t)) T38.heap n0 Z38' B38 At38 (by decide) (by decide) (by decide) (by simp) (by decide) (own_in4 hu1).1 (own_in4 hu1).2 (clamp_of rfl (by omega)) (by simp; omega) gb0 gt0 gv0) hZ (hw _ (List.mem_of_getElem? (i := 70) rfl)) (hw _ (List.mem_of_getElem? (i := 55) rfl)) (by decide) (by decide)) qa39 qc39 (g := (mkF m 103 #[(.val (.int p0)), (.val (.int p1)), (.val (.int p2)), (.val (.long p3)), .second, (.val (.ref b1)), (.val (.int (4 : Int32))), (.val (.int (Int32.ofNat kk))), (.val (.ref t)), (.val (.ref b7)), .unset] [(.ref t), (.int (Int32.ofNat u1)), (.ref b7)])) rfl (by rw [hml]; rfl) (Steps.refl _) (argsL := [(.int (Int32.ofNat u1)), (.ref t)]) (rest := []) (lenOf pd_ILcom_example_incant5_incant5_Term_V rfl) rfl (by show 2 * 0 + _ ≤ _; exact Nat.le_of_eq rfl) (hb hby at_103) (fun _ _ => ⟨rfl, (rfl : T38.heap = T38.heap), (by decide : 7 + 0 ≤ _), (by decide : 38 + 0 ≤ _)⟩)
    dsimp only [Pt.U, Pt.locs, Pt.cells, Pt.slots] at X39 l39 y39 z39 st39 hQ39
    subst l39 y39 z39
    obtain ⟨rfl, N39, K39, B39⟩ := hQ39
    refine Owes.by (fun _ kq => st39.trans kq) ?_
    show Owes p e below s (QL n0) room_1.cells room_1.slots T39 (mkF m 106 #[(.val (.int p0)), (.val (.int p1)), (.val (.int p2)), (.val (.long p3)), .second, (.val (.ref b1)), (.val (.int (4 : Int32))), (.val (.int (Int32.ofNat kk))), (.val (.ref t)), (.val (.ref b7)), .unset] [])
    have N39' := Fr.app N38' N39
    have Z39' : n0 ≤ T39.heap.size := Nat.le_trans Z38' K39.1
    have Vs39 := Vs38.keep K39 (ninS nsb (ninS nst (ninS nsv nin0)))
    have At39 := At38.keep K39
    refine Owes.by (fun _ kq => XS.iload X39.here hx rfl (hb hby at_106) rfl kq) ?_
    show Owes p e below s (QL n0) room_1.cells room_1.slots T39 (mkF m 108 #[(.val (.int p0)), (.val (.int p1)), (.val (.int p2)), (.val (.long p3)), .second, (.val (.ref b1)), (.val (.int (4 : Int32))), (.val (.int (Int32.ofNat kk))), (.val (.ref t)), (.val (.ref b7)), .unset] [(.int (4 : Int32))])
    refine Owes.by (fun _ kq => XS.iconst X39.here hx rfl (hb hby at_108) kq) ?_
    show Owes p e below s (QL n0) room_1.cells room_1.slots T39 (mkF m 109 #[(.val (.int p0)), (.val (.int p1)), (.val (.int p2)), (.val (.long p3)), .second, (.val (.ref b1)), (.val (.int (4 : Int32))), (.val (.int (Int32.ofNat kk))), (.val (.ref t)), (.val (.ref b7)), .unset] [(.int (2 : Int32)), (.int (4 : Int32))])
    refine Owes.by (fun _ kq => XS.icmpNo X39.here hx rfl (hb hby at_109) rfl (XT.ii_le_f (by decide)) kq) ?_
    show Owes p e below s (QL n0) room_1.cells room_1.slots T39 (mkF m 112 #[(.val (.int p0)), (.val (.int p1)), (.val (.int p2)), (.val (.long p3)), .second, (.val (.ref b1)), (.val (.int (4 : Int32))), (.val (.int (Int32.ofNat kk))), (.val (.ref t)), (.val (.ref b7)), .unset] [])
    refine Owes.by (fun _ kq => XS.aload X39.here hx rfl (hb hby at_112) rfl rfl kq) ?_
    show Owes p e below s (QL n0) room_1.cells room_1.slots T39 (mkF m 114 #[(.val (.int p0)), (.val (.int p1)), (.val (.int p2)), (.val (.long p3)), .second, (.val (.ref b1)), (.val (.int (4 : Int32))), (.val (.int (Int32.ofNat kk))), (.val (.ref t)), (.val (.ref b7)), .unset] [(.ref b7)])
    refine Owes.by (fun _ kq => XS.aload X39.here hx rfl (hb hby at_114) rfl rfl kq) ?_
    show Owes p e below s (QL n0) room_1.cells room_1.slots T39 (mkF m 116 #[(.val (.int p0)), (.val (.int p1)), (.val (.int p2)), (.val (.long p3)), .second, (.val (.ref b1)), (.val (.int (4 : Int32))), (.val (.int (Int32.ofNat kk))), (.val (.ref t)), (.val (.ref b7)), .unset] [(.ref b1), (.ref b7)])
    refine Owes.by (fun _ kq => XS.iconst X39.here hx rfl (hb hby at_116) kq) ?_
    show Owes p e below s (QL n0) room_1.cells room_1.slots T39 (mkF m 117 #[(.val (.int p0)), (.val (.int p1)), (.val (.int p2)), (.val (.long p3)), .second, (.val (.ref b1)), (.val (.int (4 : Int32))), (.val (.int (Int32.ofNat kk))), (.val (.ref t)), (.val (.ref b7)), .unset] [(.int (2 : Int32)), (.ref b1), (.ref b7)])
    have Vo2 := Vs39
    obtain ⟨clo2, Aro2, -, szo2, -, hho2, -⟩ := Vo2
    have hino2 := inb_of (j := 2) szo2 ⟨by decide, by decide⟩
    refine Owes.by (fun tq kq => X39.iaload hx (j := (2 : Int32)) (v := (.int (Int32.ofNat u2))) (by rw [(rfl : T39.heap = T39.heap)]; exact Aro2.1) (State.isArrayOf_alike hZ.alike Aro2.2.1) Aro2.2.2 hino2 (hho2.at hino2 rfl) (g := (mkF m 117 #[(.val (.int p0)), (.val (.int p1)), (.val (.int p2)), (.val (.long p3)), .second, (.val (.ref b1)), (.val (.int (4 : Int32))), (.val (.int (Int32.ofNat kk))), (.val (.ref t)), (.val (.ref b7)), .unset] [(.int (2 : Int32)), (.ref b1), (.ref b7)])) rfl rfl (hb hby at_117) tq kq) ?_
    show Owes p e below s (QL n0) room_1.cells room_1.slots T39 (mkF m 118 #[(.val (.int p0)), (.val (.int p1)), (.val (.int p2)), (.val (.long p3)), .second, (.val (.ref b1)), (.val (.int (4 : Int32))), (.val (.int (Int32.ofNat kk))), (.val (.ref t)), (.val (.ref b7)), .unset] [(.int (Int32.ofNat u2)), (.ref b7)])
    refine Owes.by (fun _ kq => XS.aload X39.here hx rfl (hb hby at_118) rfl rfl kq) ?_
    show Owes p e below s (QL n0) room_1.cells room_1.slots T39 (mkF m 120 #[(.val (.int p0)), (.val (.int p1)), (.val (.int p2)), (.val (.long p3)), .second, (.val (.ref b1)), (.val (.int (4 : Int32))), (.val (.int (Int32.ofNat kk))), (.val (.ref t)), (.val (.ref b7)), .unset] [(.ref t), (.int (Int32.ofNat u2)), (.ref b7)])
    obtain ⟨cq40, kq40, qa40, qb40, qc40⟩ := isOf hZ (rfl : T39.heap = T39.heap) B39.1
    obtain ⟨_, _, ⟨T40, L40, k40, n40⟩, -, X40, ⟨Lc40, hQ40, l40, y40, z40⟩, st40⟩ := X39.virtualBack hx (y := (⟨"com/example/incant5/incant5/Bindings", "bind", "(ILcom/example/incant5/incant5/Term;)V"⟩ : MethodName)) (z := (⟨"com/example/incant5/incant5/Bindings", "bind", "(ILcom/example/incant5/incant5/Term;)V"⟩ : MethodName)) hown (mvT hZ (hw _ (List.mem_of_getElem? (i := 66) rfl))) (mvT hZ (hw _ (List.mem_of_getElem? (i := 67) rfl))) (notFace_of_selects (args := #[]) (mvT hZ (hw _ (List.mem_of_getElem? (i := 69) rfl)))) (mvT hZ (hw _ (List.mem_of_getElem? (i := 69) rfl))) (mvT hZ (hw _ (List.mem_of_getElem? (i := 68) rfl))) (by decide) (backOf (W := 0) (rmBd l Z a0 hw [] b7 tr va t kT kV 2 3 (Int32.ofNat u2) 2 u2 (([(.int (0 : Int32)), (.int (0 : Int32)), (.int (0 : Int32)), (.int (0 : Int32)), (.int (0 : Int32)), (.int (0 : Int32)), (.int (0 : Int32)), (.int (0 : Int32)), (.int (0 : Int32)), (.int (0 : Int32)), (.int (0 : Int32)), (.int (0 : Int32)), (.int (0 : Int32)), (.int (0 : Int32)), (.int (0 : Int32)), (.int (0 : Int32))].set 0 (.int (Int32.ofNat u0))).set 1 (.int (Int32.ofNat u1))) (([.null, .null, .null, .null].set u0 (.ref t)).set u1 (.ref t)) T39.heap n0 Z39' B39 At39 (by decide) (by decide) (by decide) (by simp) (by decide) (own_in4 hu2).1 (own_in4 hu2).2 (clamp_of rfl (by omega)) (by simp; omega) gb0 gt0 gv0) hZ (hw _ (List.mem_of_getElem? (i := 70) rfl)) (hw _ (List.mem_of_getElem? (i := 55) rfl)) (by decide) (by decide)) qa40 qc40 (g := (mkF m 120 #[(.val (.int p0)), (.val (.int p1)), (.val (.int p2)), (.val (.long p3)), .second, (.val (.ref b1)), (.val (.int (4 : Int32))), (.val (.int (Int32.ofNat kk))), (.val (.ref t)), (.val (.ref b7)), .unset] [(.ref t), (.int (Int32.ofNat u2)), (.ref b7)])) rfl (by rw [hml]; rfl) (Steps.refl _) (argsL := [(.int (Int32.ofNat u2)), (.ref t)]) (rest := []) (lenOf pd_ILcom_example_incant5_incant5_Term_V rfl) rfl (by show 2 * 0 + _ ≤ _; exact Nat.le_of_eq rfl) (hb hby at_120) (fun _ _ => ⟨rfl, (rfl : T39.heap = T39.heap), (by decide : 7 + 0 ≤ _), (by decide : 38 + 0 ≤ _)⟩)
    dsimp only [Pt.U, Pt.locs, Pt.cells, Pt.slots] at X40 l40 y40 z40 st40 hQ40
    subst l40 y40 z40
    obtain ⟨rfl, N40, K40, B40⟩ := hQ40
    refine Owes.by (fun _ kq => st40.trans kq) ?_
    show Owes p e below s (QL n0) room_1.cells room_1.slots T40 (mkF m 123 #[(.val (.int p0)), (.val (.int p1)), (.val (.int p2)), (.val (.long p3)), .second, (.val (.ref b1)), (.val (.int (4 : Int32))), (.val (.int (Int32.ofNat kk))), (.val (.ref t)), (.val (.ref b7)), .unset] [])
    have N40' := Fr.app N39' N40
    have Z40' : n0 ≤ T40.heap.size := Nat.le_trans Z39' K40.1
    have Vs40 := Vs39.keep K40 (ninS nsb (ninS nst (ninS nsv nin0)))
    have At40 := At39.keep K40
    refine Owes.by (fun _ kq => XS.iload X40.here hx rfl (hb hby at_123) rfl kq) ?_
    show Owes p e below s (QL n0) room_1.cells room_1.slots T40 (mkF m 125 #[(.val (.int p0)), (.val (.int p1)), (.val (.int p2)), (.val (.long p3)), .second, (.val (.ref b1)), (.val (.int (4 : Int32))), (.val (.int (Int32.ofNat kk))), (.val (.ref t)), (.val (.ref b7)), .unset] [(.int (4 : Int32))])
    refine Owes.by (fun _ kq => XS.iconst X40.here hx rfl (hb hby at_125) kq) ?_
    show Owes p e below s (QL n0) room_1.cells room_1.slots T40 (mkF m 126 #[(.val (.int p0)), (.val (.int p1)), (.val (.int p2)), (.val (.long p3)), .second, (.val (.ref b1)), (.val (.int (4 : Int32))), (.val (.int (Int32.ofNat kk))), (.val (.ref t)), (.val (.ref b7)), .unset] [(.int (3 : Int32)), (.int (4 : Int32))])
    refine Owes.by (fun _ kq => XS.icmpNo X40.here hx rfl (hb hby at_126) rfl (XT.ii_le_f (by decide)) kq) ?_
    show Owes p e below s (QL n0) room_1.cells room_1.slots T40 (mkF m 129 #[(.val (.int p0)), (.val (.int p1)), (.val (.int p2)), (.val (.long p3)), .second, (.val (.ref b1)), (.val (.int (4 : Int32))), (.val (.int (Int32.ofNat kk))), (.val (.ref t)), (.val (.ref b7)), .unset] [])
    refine Owes.by (fun _ kq => XS.aload X40.here hx rfl (hb hby at_129) rfl rfl kq) ?_
    show Owes p e below s (QL n0) room_1.cells room_1.slots T40 (mkF m 131 #[(.val (.int p0)), (.val (.int p1)), (.val (.int p2)), (.val (.long p3)), .second, (.val (.ref b1)), (.val (.int (4 : Int32))), (.val (.int (Int32.ofNat kk))), (.val (.ref t)), (.val (.ref b7)), .unset] [(.ref b7)])
    refine Owes.by (fun _ kq => XS.aload X40.here hx rfl (hb hby at_131) rfl rfl kq) ?_
    show Owes p e below s (QL n0) room_1.cells room_1.slots T40 (mkF m 133 #[(.val (.int p0)), (.val (.int p1)), (.val (.int p2)), (.val (.long p3)), .second, (.val (.ref b1)), (.val (.int (4 : Int32))), (.val (.int (Int32.ofNat kk))), (.val (.ref t)), (.val (.ref b7)), .unset] [(.ref b1), (.ref b7)])
    refine Owes.by (fun _ kq => XS.iconst X40.here hx rfl (hb hby at_133) kq) ?_
    show Owes p e below s (QL n0) room_1.cells room_1.slots T40 (mkF m 134 #[(.val (.int p0)), (.val (.int p1)), (.val (.int p2)), (.val (.long p3)), .second, (.val (.ref b1)), (.val (.int (4 : Int32))), (.val (.int (Int32.ofNat kk))), (.val (.ref t)), (.val (.ref b7)), .unset] [(.int (3 : Int32)), (.ref b1), (.ref b7)])
    have Vo3 := Vs40
    obtain ⟨clo3, Aro3, -, szo3, -, hho3, -⟩ := Vo3
    have hino3 := inb_of (j := 3) szo3 ⟨by decide, by decide⟩
    refine Owes.by (fun tq kq => X40.iaload hx (j := (3 : Int32)) (v := (.int (Int32.ofNat u3))) (by rw [(rfl : T40.heap = T40.heap)]; exact Aro3.1) (State.isArrayOf_alike hZ.alike Aro3.2.1) Aro3.2.2 hino3 (hho3.at hino3 rfl) (g := (mkF m 134 #[(.val (.int p0)), (.val (.int p1)), (.val (.int p2)), (.val (.long p3)), .second, (.val (.ref b1)), (.val (.int (4 : Int32))), (.val (.int (Int32.ofNat kk))), (.val (.ref t)), (.val (.ref b7)), .unset] [(.int (3 : Int32)), (.ref b1), (.ref b7)])) rfl rfl (hb hby at_134) tq kq) ?_
    show Owes p e below s (QL n0) room_1.cells room_1.slots T40 (mkF m 135 #[(.val (.int p0)), (.val (.int p1)), (.val (.int p2)), (.val (.long p3)), .second, (.val (.ref b1)), (.val (.int (4 : Int32))), (.val (.int (Int32.ofNat kk))), (.val (.ref t)), (.val (.ref b7)), .unset] [(.int (Int32.ofNat u3)), (.ref b7)])
    refine Owes.by (fun _ kq => XS.aload X40.here hx rfl (hb hby at_135) rfl rfl kq) ?_
    show Owes p e below s (QL n0) room_1.cells room_1.slots T40 (mkF m 137 #[(.val (.int p0)), (.val (.int p1)), (.val (.int p2)), (.val (.long p3)), .second, (.val (.ref b1)), (.val (.int (4 : Int32))), (.val (.int (Int32.ofNat kk))), (.val (.ref t)), (.val (.ref b7)), .unset] [(.ref t), (.int (Int32.ofNat u3)), (.ref b7)])
    obtain ⟨cq41, kq41, qa41, qb41, qc41⟩ := isOf hZ (rfl : T40.heap = T40.heap) B40.1
    obtain ⟨_, _, ⟨T41, L41, k41, n41⟩, -, X41, ⟨Lc41, hQ41, l41, y41, z41⟩, st41⟩ := X40.virtualBack hx (y := (⟨"com/example/incant5/incant5/Bindings", "bind", "(ILcom/example/incant5/incant5/Term;)V"⟩ : MethodName)) (z := (⟨"com/example/incant5/incant5/Bindings", "bind", "(ILcom/example/incant5/incant5/Term;)V"⟩ : MethodName)) hown (mvT hZ (hw _ (List.mem_of_getElem? (i := 66) rfl))) (mvT hZ (hw _ (List.mem_of_getElem? (i := 67) rfl))) (notFace_of_selects (args := #[]) (mvT hZ (hw _ (List.mem_of_getElem? (i := 69) rfl)))) (mvT hZ (hw _ (List.mem_of_getElem? (i := 69) rfl))) (mvT hZ (hw _ (List.mem_of_getElem? (i := 68) rfl))) (by decide) (backOf (W := 0) (rmBd l Z a0 hw [] b7 tr va t kT kV 3 4 (Int32.ofNat u3) 3 u3 ((([(.int (0 : Int32)), (.int (0 : Int32)), (.int (0 : Int32)), (.int (0 : Int32)), (.int (0 : Int32)), (.int (0 : Int32)), (.int (0 : Int32)), (.int (0 : Int32)), (.int (0 : Int32)), (.int (0 : Int32)), (.int (0 : Int32)), (.int (0 : Int32)), (.int (0 : Int32)), (.int (0 : Int32)), (.int (0 : Int32)), (.int (0 : Int32))].set 0 (.int (Int32.ofNat u0))).set 1 (.int (Int32.ofNat u1))).set 2 (.int (Int32.ofNat u2))) ((([.null, .null, .null, .null].set u0 (.ref t)).set u1 (.ref t)).set u2 (.ref t)) T40.heap n0 Z40' B40 At40 (by decide) (by decide) (by decide) (by simp) (by decide) (own_in4 hu3).1 (own_in4 hu3).2 (clamp_of rfl (by omega)) (by simp; omega) gb0 gt0 gv0) hZ (hw _ (List.mem_of_getElem? (i := 70) rfl)) (hw _ (List.mem_of_getElem? (i := 55) rfl)) (by decide) (by decide)) qa41 qc41 (g := (mkF m 137 #[(.val (.int p0)), (.val (.int p1)), (.val (.int p2)), (.val (.long p3)), .second, (.val (.ref b1)), (.val (.int (4 : Int32))), (.val (.int (Int32.ofNat kk))), (.val (.ref t)), (.val (.ref b7)), .unset] [(.ref t), (.int (Int32.ofNat u3)), (.ref b7)])) rfl (by rw [hml]; rfl) (Steps.refl _) (argsL := [(.int (Int32.ofNat u3)), (.ref t)]) (rest := []) (lenOf pd_ILcom_example_incant5_incant5_Term_V rfl) rfl (by show 2 * 0 + _ ≤ _; exact Nat.le_of_eq rfl) (hb hby at_137) (fun _ _ => ⟨rfl, (rfl : T40.heap = T40.heap), (by decide : 7 + 0 ≤ _), (by decide : 38 + 0 ≤ _)⟩)
    dsimp only [Pt.U, Pt.locs, Pt.cells, Pt.slots] at X41 l41 y41 z41 st41 hQ41
    subst l41 y41 z41
    obtain ⟨rfl, N41, K41, B41⟩ := hQ41
    refine Owes.by (fun _ kq => st41.trans kq) ?_
    show Owes p e below s (QL n0) room_1.cells room_1.slots T41 (mkF m 140 #[(.val (.int p0)), (.val (.int p1)), (.val (.int p2)), (.val (.long p3)), .second, (.val (.ref b1)), (.val (.int (4 : Int32))), (.val (.int (Int32.ofNat kk))), (.val (.ref t)), (.val (.ref b7)), .unset] [])
    have N41' := Fr.app N40' N41
    have Z41' : n0 ≤ T41.heap.size := Nat.le_trans Z40' K41.1
    have Vs41 := Vs40.keep K41 (ninS nsb (ninS nst (ninS nsv nin0)))
    have At41 := At40.keep K41
    exact J T41 _ _ X41 (rfl : T41.heap = T41.heap) N41' 4 (((([(.int (0 : Int32)), (.int (0 : Int32)), (.int (0 : Int32)), (.int (0 : Int32)), (.int (0 : Int32)), (.int (0 : Int32)), (.int (0 : Int32)), (.int (0 : Int32)), (.int (0 : Int32)), (.int (0 : Int32)), (.int (0 : Int32)), (.int (0 : Int32)), (.int (0 : Int32)), (.int (0 : Int32)), (.int (0 : Int32)), (.int (0 : Int32))].set 0 (.int (Int32.ofNat u0))).set 1 (.int (Int32.ofNat u1))).set 2 (.int (Int32.ofNat u2))).set 3 (.int (Int32.ofNat u3))) rfl (by decide) Z41' (by simpa [own_bl, own_f] using B41) (by intro i hi; match i, hi with | 0, _ => rfl | 1, _ => rfl | 2, _ => rfl | 3, _ => rfl) Vs41
set_option maxRecDepth 65536 in
set_option maxHeartbeats 40000000 in
theorem comes_1 {Post : Tables → Env → Array Value → State → Outcome → State → Prop} (hpost : ∀ tb e args s v u, (limb_1_1.after args s (.returned v) u = true ∧ limb_1_2.after args s (.returned v) u = true ∧ True) → FrameEnd s (.returned v) u (Jvm.fieldLocs frame_1_writes args s ++ Jvm.arrayLocs frame_1_arrays args s ++ Jvm.staticLocs frame_1_statics s) 24 192 → Post tb e args s (.returned v) u) :
    ArmFor flags0 classFile x code maxLocals ret World_1 tables_1 room_1 Calls_1 rest_1 Pre_1 Post := by
  intro l hfl _ _ p e ha hc hk s m args below hf hA hF happ hP
  obtain ⟨hcalls, hrest, hpre⟩ := hP
  obtain ⟨-, -, -, hnamed, -, -, -, hat⟩ := (Spec.applies_iff hf).mp happ
  obtain ⟨hg, hn⟩ := and_e (Cond.before_iff.mp (show (Jvm.Cond.and given_1 narrow_1).before args s = true from hpre))
  obtain ⟨hgl, hgr⟩ := and_e hg
  obtain ⟨hgrl, hgrr⟩ := and_e hgr
  obtain ⟨hgrrl, hgrrr⟩ := and_e hgrr
  obtain ⟨hgrrrl, hgrrrr⟩ := and_e hgrrr
  obtain ⟨w0, w1, w2, w3, rfl⟩ : ∃ w0 w1 w2 w3 : Value, args = #[w0, w1, w2, w3] := by
    have hs : args.size = 4 := by simpa [Cond.value, given_1] using hgl
    obtain ⟨L⟩ := args
    match L, hs with
    | [w0, w1, w2, w3], _ => exact ⟨w0, w1, w2, w3, rfl⟩
  have hw := fun d (hd : d ∈ tables_1) => atoms_spec (ws := Jvm.Cond.code x code maxLocals ret :: tables_1) hat d (List.mem_cons_of_mem _ hd)
  have hfit : Fit s := fun {y c} hc i hi => by
    obtain ⟨ha, rfl⟩ := Array.getElem?_eq_some_iff.mp hc
    have q := List.all_eq_true.mp ((Array.all_eq_true_iff_forall_mem.mp hF) _ (Array.getElem_mem ha)) i (List.mem_range.mpr hi)
    simpa [Array.getElem?_eq_getElem hi] using q
  obtain ⟨hsets, hown0⟩ := atoms_of _ (rest_1_c_eq ▸ (show rest_1_c.before _ s = true from hrest))
  obtain ⟨i0, ei0⟩ := is_v hgrl
  obtain rfl : w0 = (.int i0) := Option.some.inj ei0
  obtain ⟨i1, ei1⟩ := is_v hgrrl
  obtain rfl : w1 = (.int i1) := Option.some.inj ei1
  obtain ⟨i2, ei2⟩ := is_v hgrrrl
  obtain rfl : w2 = (.int i2) := Option.some.inj ei2
  obtain ⟨i3, ei3⟩ := isL_v hgrrrr
  obtain rfl : w3 = (.long i3) := Option.some.inj ei3
  obtain ⟨wz, v_z⟩ := exa_v (Cond.before_iff.mp (hsets _ (List.mem_of_getElem? (i := 112) rfl)))
  have S_Z := Sta.start v_z (Or.inl (hsets _ (List.mem_of_getElem? (i := 111) rfl)))
  have M_Z := own_mg0 v_z (Cond.before_iff.mp (hsets _ (List.mem_of_getElem? (i := 112) rfl))) (Cond.before_iff.mp (hsets _ (List.mem_of_getElem? (i := 113) rfl))) (Cond.before_iff.mp (hsets _ (List.mem_of_getElem? (i := 114) rfl))) (Cond.before_iff.mp (hsets _ (List.mem_of_getElem? (i := 116) rfl)))
  obtain ⟨pa, v_P⟩ := arr_v (Cond.before_iff.mp (hsets _ (List.mem_of_getElem? (i := 8) rfl)))
  obtain ⟨clp, A_P⟩ := Arr.start v_P (Cond.before_iff.mp (hsets _ (List.mem_of_getElem? (i := 8) rfl)))
  have S_P := Sta.start v_P (Or.inl (hsets _ (List.mem_of_getElem? (i := 1) rfl)))
  have H_P : ∀ j : Int32, 0 < j → ¬ 16 < j → (¬ (j < 0 ∨ clp.slots.size ≤ j.toNatClampNeg) ∧ ∃ w, clp.slots[j.toNatClampNeg]? = some (.ref w) ∧ own_MG s s.heap w) := by
    intro j h1 h2
    rcases own_j16 h1 h2 with rfl | rfl | rfl | rfl | rfl | rfl | rfl | rfl | rfl | rfl | rfl | rfl | rfl | rfl | rfl | rfl
    · exact own_mg1 v_P A_P (Cond.before_iff.mp (hsets _ (List.mem_of_getElem? (i := 12) rfl))) (Cond.before_iff.mp (hsets _ (List.mem_of_getElem? (i := 13) rfl))) (Cond.before_iff.mp (hsets _ (List.mem_of_getElem? (i := 14) rfl))) (Cond.before_iff.mp (hsets _ (List.mem_of_getElem? (i := 16) rfl))) (Cond.before_iff.mp (hsets _ (List.mem_of_getElem? (i := 17) rfl)))
    · exact own_mg1 v_P A_P (Cond.before_iff.mp (hsets _ (List.mem_of_getElem? (i := 19) rfl))) (Cond.before_iff.mp (hsets _ (List.mem_of_getElem? (i := 20) rfl))) (Cond.before_iff.mp (hsets _ (List.mem_of_getElem? (i := 21) rfl))) (Cond.before_iff.mp (hsets _ (List.mem_of_getElem? (i := 23) rfl))) (Cond.before_iff.mp (hsets _ (List.mem_of_getElem? (i := 24) rfl)))
    · exact own_mg1 v_P A_P (Cond.before_iff.mp (hsets _ (List.mem_of_getElem? (i := 25) rfl))) (Cond.before_iff.mp (hsets _ (List.mem_of_getElem? (i := 26) rfl))) (Cond.before_iff.mp (hsets _ (List.mem_of_getElem? (i := 27) rfl))) (Cond.before_iff.mp (hsets _ (List.mem_of_getElem? (i := 29) rfl))) (Cond.before_iff.mp (hsets _ (List.mem_of_getElem? (i := 30) rfl)))
    · exact own_mg1 v_P A_P (Cond.before_iff.mp (hsets _ (List.mem_of_getElem? (i := 31) rfl))) (Cond.before_iff.mp (hsets _ (List.mem_of_getElem? (i := 32) rfl))) (Cond.before_iff.mp (hsets _ (List.mem_of_getElem? (i := 33) rfl))) (Cond.before_iff.mp (hsets _ (List.mem_of_getElem? (i := 35) rfl))) (Cond.before_iff.mp (hsets _ (List.mem_of_getElem? (i := 36) rfl)))
    · exact own_mg1 v_P A_P (Cond.before_iff.mp (hsets _ (List.mem_of_getElem? (i := 37) rfl))) (Cond.before_iff.mp (hsets _ (List.mem_of_getElem? (i := 38) rfl))) (Cond.before_iff.mp (hsets _ (List.mem_of_getElem? (i := 39) rfl))) (Cond.before_iff.mp (hsets _ (List.mem_of_getElem? (i := 41) rfl))) (Cond.before_iff.mp (hsets _ (List.mem_of_getElem? (i := 42) rfl)))
    · exact own_mg1 v_P A_P (Cond.before_iff.mp (hsets _ (List.mem_of_getElem? (i := 43) rfl))) (Cond.before_iff.mp (hsets _ (List.mem_of_getElem? (i := 44) rfl))) (Cond.before_iff.mp (hsets _ (List.mem_of_getElem? (i := 45) rfl))) (Cond.before_iff.mp (hsets _ (List.mem_of_getElem? (i := 47) rfl))) (Cond.before_iff.mp (hsets _ (List.mem_of_getElem? (i := 48) rfl)))
    · exact own_mg1 v_P A_P (Cond.before_iff.mp (hsets _ (List.mem_of_getElem? (i := 49) rfl))) (Cond.before_iff.mp (hsets _ (List.mem_of_getElem? (i := 50) rfl))) (Cond.before_iff.mp (hsets _ (List.mem_of_getElem? (i := 51) rfl))) (Cond.before_iff.mp (hsets _ (List.mem_of_getElem? (i := 53) rfl))) (Cond.before_iff.mp (hsets _ (List.mem_of_getElem? (i := 54) rfl)))
    · exact own_mg1 v_P A_P (Cond.before_iff.mp (hsets _ (List.mem_of_getElem? (i := 55) rfl))) (Cond.before_iff.mp (hsets _ (List.mem_of_getElem? (i := 56) rfl))) (Cond.before_iff.mp (hsets _ (List.mem_of_getElem? (i := 57) rfl))) (Cond.before_iff.mp (hsets _ (List.mem_of_getElem? (i := 59) rfl))) (Cond.before_iff.mp (hsets _ (List.mem_of_getElem? (i := 60) rfl)))
    · exact own_mg1 v_P A_P (Cond.before_iff.mp (hsets _ (List.mem_of_getElem? (i := 61) rfl))) (Cond.before_iff.mp (hsets _ (List.mem_of_getElem? (i := 62) rfl))) (Cond.before_iff.mp (hsets _ (List.mem_of_getElem? (i := 63) rfl))) (Cond.before_iff.mp (hsets _ (List.mem_of_getElem? (i := 65) rfl))) (Cond.before_iff.mp (hsets _ (List.mem_of_getElem? (i := 66) rfl)))
    · exact own_mg1 v_P A_P (Cond.before_iff.mp (hsets _ (List.mem_of_getElem? (i := 68) rfl))) (Cond.before_iff.mp (hsets _ (List.mem_of_getElem? (i := 69) rfl))) (Cond.before_iff.mp (hsets _ (List.mem_of_getElem? (i := 70) rfl))) (Cond.before_iff.mp (hsets _ (List.mem_of_getElem? (i := 72) rfl))) (Cond.before_iff.mp (hsets _ (List.mem_of_getElem? (i := 73) rfl)))
    · exact own_mg1 v_P A_P (Cond.before_iff.mp (hsets _ (List.mem_of_getElem? (i := 74) rfl))) (Cond.before_iff.mp (hsets _ (List.mem_of_getElem? (i := 75) rfl))) (Cond.before_iff.mp (hsets _ (List.mem_of_getElem? (i := 76) rfl))) (Cond.before_iff.mp (hsets _ (List.mem_of_getElem? (i := 78) rfl))) (Cond.before_iff.mp (hsets _ (List.mem_of_getElem? (i := 79) rfl)))
    · exact own_mg1 v_P A_P (Cond.before_iff.mp (hsets _ (List.mem_of_getElem? (i := 80) rfl))) (Cond.before_iff.mp (hsets _ (List.mem_of_getElem? (i := 81) rfl))) (Cond.before_iff.mp (hsets _ (List.mem_of_getElem? (i := 82) rfl))) (Cond.before_iff.mp (hsets _ (List.mem_of_getElem? (i := 84) rfl))) (Cond.before_iff.mp (hsets _ (List.mem_of_getElem? (i := 85) rfl)))
    · exact own_mg1 v_P A_P (Cond.before_iff.mp (hsets _ (List.mem_of_getElem? (i := 86) rfl))) (Cond.before_iff.mp (hsets _ (List.mem_of_getElem? (i := 87) rfl))) (Cond.before_iff.mp (hsets _ (List.mem_of_getElem? (i := 88) rfl))) (Cond.before_iff.mp (hsets _ (List.mem_of_getElem? (i := 90) rfl))) (Cond.before_iff.mp (hsets _ (List.mem_of_getElem? (i := 91) rfl)))
    · exact own_mg1 v_P A_P (Cond.before_iff.mp (hsets _ (List.mem_of_getElem? (i := 92) rfl))) (Cond.before_iff.mp (hsets _ (List.mem_of_getElem? (i := 93) rfl))) (Cond.before_iff.mp (hsets _ (List.mem_of_getElem? (i := 94) rfl))) (Cond.before_iff.mp (hsets _ (List.mem_of_getElem? (i := 96) rfl))) (Cond.before_iff.mp (hsets _ (List.mem_of_getElem? (i := 97) rfl)))
    · exact own_mg1 v_P A_P (Cond.before_iff.mp (hsets _ (List.mem_of_getElem? (i := 98) rfl))) (Cond.before_iff.mp (hsets _ (List.mem_of_getElem? (i := 99) rfl))) (Cond.before_iff.mp (hsets _ (List.mem_of_getElem? (i := 100) rfl))) (Cond.before_iff.mp (hsets _ (List.mem_of_getElem? (i := 102) rfl))) (Cond.before_iff.mp (hsets _ (List.mem_of_getElem? (i := 103) rfl)))
    · exact own_mg1 v_P A_P (Cond.before_iff.mp (hsets _ (List.mem_of_getElem? (i := 104) rfl))) (Cond.before_iff.mp (hsets _ (List.mem_of_getElem? (i := 105) rfl))) (Cond.before_iff.mp (hsets _ (List.mem_of_getElem? (i := 106) rfl))) (Cond.before_iff.mp (hsets _ (List.mem_of_getElem? (i := 108) rfl))) (Cond.before_iff.mp (hsets _ (List.mem_of_getElem? (i := 109) rfl)))
  obtain ⟨na, v_N⟩ := arr_v (Cond.before_iff.mp (hsets _ (List.mem_of_getElem? (i := 121) rfl)))
  obtain ⟨cln, A_N⟩ := Arr.start v_N (Cond.before_iff.mp (hsets _ (List.mem_of_getElem? (i := 121) rfl)))
  have S_N := Sta.start v_N (Or.inl (hsets _ (List.mem_of_getElem? (i := 118) rfl)))
  have H_N : ∀ j : Int32, 0 < j → ¬ 16 < j → (¬ (j < 0 ∨ cln.slots.size ≤ j.toNatClampNeg) ∧ ∃ w, cln.slots[j.toNatClampNeg]? = some (.ref w) ∧ own_MG s s.heap w) := by
    intro j h1 h2
    rcases own_j16 h1 h2 with rfl | rfl | rfl | rfl | rfl | rfl | rfl | rfl | rfl | rfl | rfl | rfl | rfl | rfl | rfl | rfl
    · exact own_mg1 v_N A_N (Cond.before_iff.mp (hsets _ (List.mem_of_getElem? (i := 125) rfl))) (Cond.before_iff.mp (hsets _ (List.mem_of_getElem? (i := 126) rfl))) (Cond.before_iff.mp (hsets _ (List.mem_of_getElem? (i := 127) rfl))) (Cond.before_iff.mp (hsets _ (List.mem_of_getElem? (i := 129) rfl))) (Cond.before_iff.mp (hsets _ (List.mem_of_getElem? (i := 130) rfl)))
    · exact own_mg1 v_N A_N (Cond.before_iff.mp (hsets _ (List.mem_of_getElem? (i := 131) rfl))) (Cond.before_iff.mp (hsets _ (List.mem_of_getElem? (i := 132) rfl))) (Cond.before_iff.mp (hsets _ (List.mem_of_getElem? (i := 133) rfl))) (Cond.before_iff.mp (hsets _ (List.mem_of_getElem? (i := 135) rfl))) (Cond.before_iff.mp (hsets _ (List.mem_of_getElem? (i := 136) rfl)))
    · exact own_mg1 v_N A_N (Cond.before_iff.mp (hsets _ (List.mem_of_getElem? (i := 137) rfl))) (Cond.before_iff.mp (hsets _ (List.mem_of_getElem? (i := 138) rfl))) (Cond.before_iff.mp (hsets _ (List.mem_of_getElem? (i := 139) rfl))) (Cond.before_iff.mp (hsets _ (List.mem_of_getElem? (i := 141) rfl))) (Cond.before_iff.mp (hsets _ (List.mem_of_getElem? (i := 142) rfl)))
    · exact own_mg1 v_N A_N (Cond.before_iff.mp (hsets _ (List.mem_of_getElem? (i := 143) rfl))) (Cond.before_iff.mp (hsets _ (List.mem_of_getElem? (i := 144) rfl))) (Cond.before_iff.mp (hsets _ (List.mem_of_getElem? (i := 145) rfl))) (Cond.before_iff.mp (hsets _ (List.mem_of_getElem? (i := 147) rfl))) (Cond.before_iff.mp (hsets _ (List.mem_of_getElem? (i := 148) rfl)))
    · exact own_mg1 v_N A_N (Cond.before_iff.mp (hsets _ (List.mem_of_getElem? (i := 149) rfl))) (Cond.before_iff.mp (hsets _ (List.mem_of_getElem? (i := 150) rfl))) (Cond.before_iff.mp (hsets _ (List.mem_of_getElem? (i := 151) rfl))) (Cond.before_iff.mp (hsets _ (List.mem_of_getElem? (i := 153) rfl))) (Cond.before_iff.mp (hsets _ (List.mem_of_getElem? (i := 154) rfl)))
    · exact own_mg1 v_N A_N (Cond.before_iff.mp (hsets _ (List.mem_of_getElem? (i := 155) rfl))) (Cond.before_iff.mp (hsets _ (List.mem_of_getElem? (i := 156) rfl))) (Cond.before_iff.mp (hsets _ (List.mem_of_getElem? (i := 157) rfl))) (Cond.before_iff.mp (hsets _ (List.mem_of_getElem? (i := 159) rfl))) (Cond.before_iff.mp (hsets _ (List.mem_of_getElem? (i := 160) rfl)))
    · exact own_mg1 v_N A_N (Cond.before_iff.mp (hsets _ (List.mem_of_getElem? (i := 161) rfl))) (Cond.before_iff.mp (hsets _ (List.mem_of_getElem? (i := 162) rfl))) (Cond.before_iff.mp (hsets _ (List.mem_of_getElem? (i := 163) rfl))) (Cond.before_iff.mp (hsets _ (List.mem_of_getElem? (i := 165) rfl))) (Cond.before_iff.mp (hsets _ (List.mem_of_getElem? (i := 166) rfl)))
    · exact own_mg1 v_N A_N (Cond.before_iff.mp (hsets _ (List.mem_of_getElem? (i := 167) rfl))) (Cond.before_iff.mp (hsets _ (List.mem_of_getElem? (i := 168) rfl))) (Cond.before_iff.mp (hsets _ (List.mem_of_getElem? (i := 169) rfl))) (Cond.before_iff.mp (hsets _ (List.mem_of_getElem? (i := 171) rfl))) (Cond.before_iff.mp (hsets _ (List.mem_of_getElem? (i := 172) rfl)))
    · exact own_mg1 v_N A_N (Cond.before_iff.mp (hsets _ (List.mem_of_getElem? (i := 173) rfl))) (Cond.before_iff.mp (hsets _ (List.mem_of_getElem? (i := 174) rfl))) (Cond.before_iff.mp (hsets _ (List.mem_of_getElem? (i := 175) rfl))) (Cond.before_iff.mp (hsets _ (List.mem_of_getElem? (i := 177) rfl))) (Cond.before_iff.mp (hsets _ (List.mem_of_getElem? (i := 178) rfl)))
    · exact own_mg1 v_N A_N (Cond.before_iff.mp (hsets _ (List.mem_of_getElem? (i := 179) rfl))) (Cond.before_iff.mp (hsets _ (List.mem_of_getElem? (i := 180) rfl))) (Cond.before_iff.mp (hsets _ (List.mem_of_getElem? (i := 181) rfl))) (Cond.before_iff.mp (hsets _ (List.mem_of_getElem? (i := 183) rfl))) (Cond.before_iff.mp (hsets _ (List.mem_of_getElem? (i := 184) rfl)))
    · exact own_mg1 v_N A_N (Cond.before_iff.mp (hsets _ (List.mem_of_getElem? (i := 185) rfl))) (Cond.before_iff.mp (hsets _ (List.mem_of_getElem? (i := 186) rfl))) (Cond.before_iff.mp (hsets _ (List.mem_of_getElem? (i := 187) rfl))) (Cond.before_iff.mp (hsets _ (List.mem_of_getElem? (i := 189) rfl))) (Cond.before_iff.mp (hsets _ (List.mem_of_getElem? (i := 190) rfl)))
    · exact own_mg1 v_N A_N (Cond.before_iff.mp (hsets _ (List.mem_of_getElem? (i := 191) rfl))) (Cond.before_iff.mp (hsets _ (List.mem_of_getElem? (i := 192) rfl))) (Cond.before_iff.mp (hsets _ (List.mem_of_getElem? (i := 193) rfl))) (Cond.before_iff.mp (hsets _ (List.mem_of_getElem? (i := 195) rfl))) (Cond.before_iff.mp (hsets _ (List.mem_of_getElem? (i := 196) rfl)))
    · exact own_mg1 v_N A_N (Cond.before_iff.mp (hsets _ (List.mem_of_getElem? (i := 197) rfl))) (Cond.before_iff.mp (hsets _ (List.mem_of_getElem? (i := 198) rfl))) (Cond.before_iff.mp (hsets _ (List.mem_of_getElem? (i := 199) rfl))) (Cond.before_iff.mp (hsets _ (List.mem_of_getElem? (i := 201) rfl))) (Cond.before_iff.mp (hsets _ (List.mem_of_getElem? (i := 202) rfl)))
    · exact own_mg1 v_N A_N (Cond.before_iff.mp (hsets _ (List.mem_of_getElem? (i := 203) rfl))) (Cond.before_iff.mp (hsets _ (List.mem_of_getElem? (i := 204) rfl))) (Cond.before_iff.mp (hsets _ (List.mem_of_getElem? (i := 205) rfl))) (Cond.before_iff.mp (hsets _ (List.mem_of_getElem? (i := 207) rfl))) (Cond.before_iff.mp (hsets _ (List.mem_of_getElem? (i := 208) rfl)))
    · exact own_mg1 v_N A_N (Cond.before_iff.mp (hsets _ (List.mem_of_getElem? (i := 209) rfl))) (Cond.before_iff.mp (hsets _ (List.mem_of_getElem? (i := 210) rfl))) (Cond.before_iff.mp (hsets _ (List.mem_of_getElem? (i := 211) rfl))) (Cond.before_iff.mp (hsets _ (List.mem_of_getElem? (i := 213) rfl))) (Cond.before_iff.mp (hsets _ (List.mem_of_getElem? (i := 214) rfl)))
    · exact own_mg1 v_N A_N (Cond.before_iff.mp (hsets _ (List.mem_of_getElem? (i := 215) rfl))) (Cond.before_iff.mp (hsets _ (List.mem_of_getElem? (i := 216) rfl))) (Cond.before_iff.mp (hsets _ (List.mem_of_getElem? (i := 217) rfl))) (Cond.before_iff.mp (hsets _ (List.mem_of_getElem? (i := 219) rfl))) (Cond.before_iff.mp (hsets _ (List.mem_of_getElem? (i := 220) rfl)))
  obtain ⟨n, o, h1, h2, h3, _, L, rfl, ⟨rfl, N⟩, hq⟩ := rm0 l s _ hw tables_1 i0 i1 i2 i3 wz pa na clp cln s.heap s.heap.size (Nat.le_refl _) S_Z M_Z S_P A_P H_P S_N A_N H_N p e ha hc hk s m _ below hf ((Spec.applies_iff_loose hf).mp happ).1 ⟨rfl, State.Warmed39.refl s, rfl⟩ trivial
  refine ⟨n, _, h1, h2, h3, hpost _ _ _ _ _ _ ⟨Cond.after_iff.mpr rfl, Cond.after_iff.mpr (eq_i res_at (Term.int_eval (1)) rfl), trivial⟩ ⟨hq.1, hq.2.1, (hq.2.2.sift fun y hy => Or.inr (N y hy)).mono (by decide) (by decide)⟩⟩
theorem main_1_1 : Claimed_1_1 := comes_1 fun _ _ _ _ _ _ h hF => ⟨h.1, hF⟩
theorem main_1_2 : Claimed_1_2 := comes_1 fun _ _ _ _ _ _ h hF => ⟨h.2.1, hF⟩
end Jvm.Pilot.@@N@@
namespace Jvm.Pilot.@@N@@
open Jvm Jvm.ClassFile Sem Op Lib Jvm.Free Jvm.Stand Jvm.Pilot.@@N@@.Jvm.D
/-! MADE BY PROGRAM (witnessworld.py) out of the Statement's table words and the real class files: 17 classes; the members and pool entries that the words name. The judged class is class 1, her method 1. -/
namespace start1
open Jvm.ClassFile
def u (s : String) : CpInfo := .utf8 (stringToUtf16 s)
/-- a pool by its gaps: so many unusable entries, then the entry; so many at the end -/
def gap : Nat → List CpInfo → List CpInfo
  | 0, r => r
  | n + 1, r => .unusable :: gap n r
def poolList (es : List (Nat × CpInfo)) (last : Nat) : List CpInfo := es.foldr (fun e r => gap e.1 (e.2 :: r)) (gap last [])
def pool (es : List (Nat × CpInfo)) (last : Nat) : Array CpInfo := ⟨poolList es last⟩
def fileOf (pool : Array CpInfo) (this : Nat) (attrs : Array Attribute := #[]) (ms : Array MethodInfo := #[]) (fl : Nat := 33) (sup : Nat := 0) (ifs : Array Nat := #[]) (fds : Array FieldInfo := #[]) : ClassFile where
  minorVersion := 0
  majorVersion := 65
  constantPool := pool
  accessFlags := fl
  thisClass := this
  superClass := sup
  interfaces := ifs
  fields := fds
  methods := ms
  attributes := attrs
def plain (name : String) (sup : Option ClassId) : Class where
  name := name
  kind := .ordinary
  loader := none
  accessFlags := 33
  super := sup
  interfaces := #[]
  cf := none
  fields := #[]
  methods := #[]
  instanceTypes := #[]
  staticTypes := #[]
  resolved := #[]
  callSites := []
  init := .initialized
  statics := none
  mirror := none

def pool0 : Array CpInfo := pool [(5, u "<init>"), (0, u "()V"), (1, .class_ 10), (1, u "java/lang/Object")] 113

def k0c0 : Code := { maxStack := 0, maxLocals := 1, code := object_method_1_code, exceptionTable := #[], attributes := #[] }
def k0m0 : Method := { name := "<init>", desc := "()V", sig := { parameters := [], returnType := none }, accessFlags := 1, code := some k0c0 }
/-- java/lang/Object -/
def k0 : Class := { plain "java/lang/Object" none with
  accessFlags := 33
  interfaces := #[]
  cf := some (fileOf pool0 8 #[] #[{ accessFlags := 1, nameIndex := 5, descriptorIndex := 6, attributes := #[] }] 33 0 #[] #[])
  fields := #[]
  methods := #[k0m0]
  instanceTypes := #[]
  staticTypes := #[]
  resolved := Array.replicate 124 none
  statics := none }

def pool1 : Array CpInfo := pool [(2, .class_ 4), (1, u "java/lang/Object"), (0, u "<init>"), (0, u "()V"), (0, .integer 2147483647), (0, .methodref 9 10), (0, .class_ 11), (0, .nameAndType 12 13), (0, u "com/example/incant5/incant5/Term"), (0, u "integer"), (0, u "(J)Lcom/example/incant5/incant5/Term$IntegerConstant;"), (0, .class_ 15), (0, u "com/example/incant5/incant5/Bindings"), (0, .methodref 14 17), (0, .nameAndType 5 18), (0, u "(I)V"), (0, .methodref 14 20), (0, .nameAndType 21 22), (0, u "bind"), (0, u "(ILcom/example/incant5/incant5/Term;)V"), (0, .methodref 14 24), (0, .nameAndType 25 18), (0, u "undo"), (0, .methodref 14 27), (0, .nameAndType 28 29), (0, u "mark"), (0, u "()I"), (0, .methodref 31 32), (0, .class_ 33), (0, .nameAndType 34 35), (0, u "java/lang/Math"), (0, u "min"), (0, u "(II)I"), (0, .methodref 14 37), (0, .nameAndType 38 39), (0, u "get"), (0, u "(I)Lcom/example/incant5/incant5/Term;"), (0, .methodref 41 42), (0, .class_ 43), (0, .nameAndType 44 45), (0, u "com/example/incant5/incant5/BindingsUndoPinLaw"), (0, u "slotOk"), (0, u "(Lcom/example/incant5/incant5/Term;Lcom/example/incant5/incant5/Term;I[III)Z"), (0, .methodref 41 47), (0, .nameAndType 48 49), (0, u "at"), (0, u "([IIII)Z"), (0, .methodref 41 51), (0, .nameAndType 52 49), (0, u "kept"), (2, u "law"), (0, u "(IIIJ)Z")] 9

def k1m0 : Method := { name := "<init>", desc := "()V", sig := { parameters := [], returnType := none }, accessFlags := 1, code := none }
def k1c1 : Code := { maxStack := 6, maxLocals := 11, code := code, exceptionTable := #[], attributes := #[] }
def k1m1 : Method := { name := "law", desc := "(IIIJ)Z", sig := { parameters := [.int, .int, .int, .long], returnType := some .boolean }, accessFlags := 9, code := some k1c1 }
def k1c2 : Code := { maxStack := 2, maxLocals := 4, code := method_3_code, exceptionTable := #[], attributes := #[] }
def k1m2 : Method := { name := "at", desc := "([IIII)Z", sig := { parameters := [(.array .int), .int, .int, .int], returnType := some .boolean }, accessFlags := 10, code := some k1c2 }
def k1c3 : Code := { maxStack := 4, maxLocals := 6, code := method_4_code, exceptionTable := #[], attributes := #[] }
def k1m3 : Method := { name := "kept", desc := "([IIII)Z", sig := { parameters := [(.array .int), .int, .int, .int], returnType := some .boolean }, accessFlags := 10, code := some k1c3 }
def k1c4 : Code := { maxStack := 4, maxLocals := 6, code := method_5_code, exceptionTable := #[], attributes := #[] }
def k1m4 : Method := { name := "slotOk", desc := "(Lcom/example/incant5/incant5/Term;Lcom/example/incant5/incant5/Term;I[III)Z", sig := { parameters := [(.object "com/example/incant5/incant5/Term"), (.object "com/example/incant5/incant5/Term"), .int, (.array .int), .int, .int], returnType := some .boolean }, accessFlags := 10, code := some k1c4 }
/-- com/example/incant5/incant5/BindingsUndoPinLaw -/
def k1 : Class := { plain "com/example/incant5/incant5/BindingsUndoPinLaw" (some 0) with
  accessFlags := 49
  interfaces := #[]
  cf := some (fileOf pool1 41 #[] #[{ accessFlags := 1, nameIndex := 5, descriptorIndex := 6, attributes := #[] }, { accessFlags := 9, nameIndex := 55, descriptorIndex := 56, attributes := #[] }, { accessFlags := 10, nameIndex := 48, descriptorIndex := 49, attributes := #[] }, { accessFlags := 10, nameIndex := 52, descriptorIndex := 49, attributes := #[] }, { accessFlags := 10, nameIndex := 44, descriptorIndex := 45, attributes := #[] }] 49 2 #[] #[])
  fields := #[]
  methods := #[k1m0, k1m1, k1m2, k1m3, k1m4]
  instanceTypes := #[]
  staticTypes := #[]
  resolved := Array.replicate 66 none
  statics := none }

def pool2 : Array CpInfo := pool [(1, .methodref 2 3), (0, .class_ 4), (0, .nameAndType 5 6), (0, u "java/lang/Object"), (0, u "<init>"), (0, u "()V"), (0, .fieldref 8 9), (0, .class_ 10), (0, .nameAndType 11 12), (0, u "com/example/incant5/incant5/Term"), (0, u "hash"), (0, u "I"), (0, .fieldref 8 14), (0, .nameAndType 15 16), (0, u "ground"), (0, u "Z"), (13, .class_ 31), (0, u "com/example/incant5/incant5/Term$Variable"), (1, .class_ 34), (0, u "com/example/incant5/incant5/Term$IntegerConstant"), (0, .methodref 36 37), (0, .class_ 38), (0, .nameAndType 39 40), (0, u "java/math/BigInteger"), (0, u "valueOf"), (0, u "(J)Ljava/math/BigInteger;"), (0, .methodref 33 42), (0, .nameAndType 5 43), (0, u "(Ljava/math/BigInteger;)V"), (8, .class_ 53), (0, u "com/example/incant5/incant5/Term$StringConstant"), (17, .class_ 72), (0, u "com/example/incant5/incant5/Term$Compound"), (97, u "(IZ)V"), (5, u "integer"), (0, u "(J)Lcom/example/incant5/incant5/Term$IntegerConstant;")] 35

def k2c0 : Code := { maxStack := 2, maxLocals := 3, code := prog_60_method_1_code, exceptionTable := #[], attributes := #[] }
def k2m0 : Method := { name := "<init>", desc := "(IZ)V", sig := { parameters := [.int, .boolean], returnType := none }, accessFlags := 2, code := some k2c0 }
def k2c1 : Code := { maxStack := 4, maxLocals := 2, code := prog_60_method_3_code, exceptionTable := #[], attributes := #[] }
def k2m1 : Method := { name := "integer", desc := "(J)Lcom/example/incant5/incant5/Term$IntegerConstant;", sig := { parameters := [.long], returnType := some (.object "com/example/incant5/incant5/Term$IntegerConstant") }, accessFlags := 9, code := some k2c1 }
/-- com/example/incant5/incant5/Term -/
def k2 : Class := { plain "com/example/incant5/incant5/Term" (some 0) with
  accessFlags := 1057
  interfaces := #[]
  cf := some (fileOf pool2 8 #[.nestMembers #[71, 52, 33, 30]] #[{ accessFlags := 2, nameIndex := 5, descriptorIndex := 170, attributes := #[] }, { accessFlags := 9, nameIndex := 176, descriptorIndex := 177, attributes := #[] }] 1057 2 #[] #[{ accessFlags := 18, nameIndex := 11, descriptorIndex := 12, attributes := #[] }, { accessFlags := 18, nameIndex := 15, descriptorIndex := 16, attributes := #[] }])
  fields := #[{ name := "hash", type := .int, accessFlags := 18, slot := 0, constantValue := 0 }, { name := "ground", type := .boolean, accessFlags := 18, slot := 1, constantValue := 0 }]
  methods := #[k2m0, k2m1]
  instanceTypes := #[.int, .boolean]
  staticTypes := #[]
  resolved := ((Array.replicate 213 none).setIfInBounds 33 (some (.cls 3))).setIfInBounds 41 (some (.method ⟨3, 0⟩))
  statics := none }

def pool3 : Array CpInfo := pool [(1, .methodref 2 3), (0, .class_ 4), (0, .nameAndType 5 6), (0, u "java/math/BigInteger"), (0, u "hashCode"), (0, u "()I"), (0, .methodref 8 9), (0, .class_ 10), (0, .nameAndType 11 12), (0, u "com/example/incant5/incant5/Term"), (0, u "<init>"), (0, u "(IZ)V"), (0, .fieldref 14 15), (0, .class_ 16), (0, .nameAndType 17 18), (0, u "com/example/incant5/incant5/Term$IntegerConstant"), (0, u "value"), (0, u "Ljava/math/BigInteger;"), (10, u "(Ljava/math/BigInteger;)V")] 13

def k3c0 : Code := { maxStack := 3, maxLocals := 2, code := prog_62_method_1_code, exceptionTable := #[], attributes := #[] }
def k3m0 : Method := { name := "<init>", desc := "(Ljava/math/BigInteger;)V", sig := { parameters := [(.object "java/math/BigInteger")], returnType := none }, accessFlags := 2, code := some k3c0 }
/-- com/example/incant5/incant5/Term$IntegerConstant -/
def k3 : Class := { plain "com/example/incant5/incant5/Term$IntegerConstant" (some 2) with
  accessFlags := 49
  interfaces := #[]
  cf := some (fileOf pool3 14 #[.nestHost 8] #[{ accessFlags := 2, nameIndex := 11, descriptorIndex := 29, attributes := #[] }] 49 8 #[] #[{ accessFlags := 18, nameIndex := 17, descriptorIndex := 18, attributes := #[] }])
  fields := #[{ name := "value", type := (.object "java/math/BigInteger"), accessFlags := 18, slot := 2, constantValue := 0 }]
  methods := #[k3m0]
  instanceTypes := #[.int, .boolean, (.object "java/math/BigInteger")]
  staticTypes := #[]
  resolved := Array.replicate 43 none
  statics := none }

def pool4 : Array CpInfo := pool [(1, .class_ 2), (0, u "java/io/Serializable"), (0, .class_ 4), (0, u "java/lang/Object")] 2

/-- java/io/Serializable -/
def k4 : Class := { plain "java/io/Serializable" (some 0) with
  accessFlags := 1537
  interfaces := #[]
  cf := some (fileOf pool4 1 #[] #[] 1537 3 #[] #[])
  fields := #[]
  methods := #[]
  instanceTypes := #[]
  staticTypes := #[]
  resolved := Array.replicate 7 none
  statics := none }

def pool5 : Array CpInfo := pool [(1, .methodref 2 3), (0, .class_ 4), (0, .nameAndType 5 6), (0, u "java/lang/Object"), (0, u "<init>"), (0, u "()V"), (1, .class_ 10), (1, u "java/lang/Number"), (2, .class_ 14), (0, u "java/io/Serializable"), (0, u "serialVersionUID"), (0, u "J")] 20

def k5c0 : Code := { maxStack := 1, maxLocals := 1, code := jdk_18_method_1_code, exceptionTable := #[], attributes := #[] }
def k5m0 : Method := { name := "<init>", desc := "()V", sig := { parameters := [], returnType := none }, accessFlags := 1, code := some k5c0 }
/-- java/lang/Number -/
def k5 : Class := { plain "java/lang/Number" (some 0) with
  accessFlags := 1057
  interfaces := #[4]
  cf := some (fileOf pool5 8 #[] #[{ accessFlags := 1, nameIndex := 5, descriptorIndex := 6, attributes := #[] }] 1057 2 #[13] #[{ accessFlags := 26, nameIndex := 15, descriptorIndex := 16, attributes := #[] }])
  fields := #[{ name := "serialVersionUID", type := .long, accessFlags := 26, slot := 0, constantValue := 0 }]
  methods := #[k5m0]
  instanceTypes := #[]
  staticTypes := #[.long]
  resolved := Array.replicate 37 none
  statics := none }

def pool6 : Array CpInfo := pool [(1, .class_ 2), (0, u "java/lang/Comparable"), (0, .class_ 4), (0, u "java/lang/Object")] 7

/-- java/lang/Comparable -/
def k6 : Class := { plain "java/lang/Comparable" (some 0) with
  accessFlags := 1537
  interfaces := #[]
  cf := some (fileOf pool6 1 #[] #[] 1537 3 #[] #[])
  fields := #[]
  methods := #[]
  instanceTypes := #[]
  staticTypes := #[]
  resolved := Array.replicate 12 none
  statics := none }

def pool7 : Array CpInfo := pool [(3, .methodref 4 5), (0, .class_ 6), (0, .nameAndType 7 8), (0, u "java/lang/Number"), (0, u "<init>"), (0, u "()V"), (13, .fieldref 23 24), (0, .class_ 25), (0, .nameAndType 26 27), (0, u "java/math/BigInteger"), (0, u "ZERO"), (0, u "Ljava/math/BigInteger;"), (0, .fieldref 23 29), (0, .nameAndType 30 31), (0, u "mag"), (0, u "[I"), (0, .fieldref 23 33), (0, .nameAndType 34 35), (0, u "signum"), (0, u "I"), (38, u "()I"), (20, u "bitsPerDigit"), (0, u "[J"), (9, u "digitsPerInt"), (12, u "intRadix"), (10, .long 4294967295), (49, u "SMALL_PRIME_PRODUCT"), (56, u "valueOf"), (0, u "(J)Ljava/math/BigInteger;"), (21, u "ONE"), (6, u "TWO"), (43, u "$assertionsDisabled"), (0, u "Z"), (32, .long 16), (1, .fieldref 23 348), (0, .nameAndType 349 350), (0, u "posConst"), (0, u "[Ljava/math/BigInteger;"), (0, .long 18446744073709551600), (1, .fieldref 23 354), (0, .nameAndType 355 350), (0, u "negConst"), (0, .methodref 23 357), (0, .nameAndType 7 358), (0, u "(J)V"), (113, .class_ 474), (1, u "java/math/BigInteger$RecursiveOp"), (106, u "NEGATIVE_ONE"), (91, u "bnExpModThreshTable"), (72, u "lowestSetBitPlusTwo"), (2, u "bitLengthPlusOne"), (2, u "bitCountPlusOne"), (6, u "LOG_TWO"), (0, u "D"), (2, u "logCache"), (0, u "[D"), (13, u "NUM_ZEROS"), (2, u "ZEROS"), (0, u "Ljava/lang/String;"), (9, u "longRadix"), (5, u "digitsPerLong"), (22, u "powerCache"), (0, u "[[Ljava/math/BigInteger;"), (45, u "firstNonzeroIntNumPlusTwo"), (38, .class_ 909), (1, u "java/math/BigInteger$UnsafeHolder"), (141, u "TEN"), (106, u "serialPersistentFields"), (0, u "[Ljava/io/ObjectStreamField;"), (0, .class_ 1161), (0, u "java/lang/Comparable"), (0, u "LONG_MASK"), (0, u "J"), (1, u "MAX_MAG_LENGTH"), (0, u "PRIME_SEARCH_BIT_LENGTH_LIMIT"), (1, u "KARATSUBA_THRESHOLD"), (1, u "TOOM_COOK_THRESHOLD"), (1, u "KARATSUBA_SQUARE_THRESHOLD"), (1, u "TOOM_COOK_SQUARE_THRESHOLD"), (1, u "BURNIKEL_ZIEGLER_THRESHOLD"), (0, u "BURNIKEL_ZIEGLER_OFFSET"), (1, u "SCHOENHAGE_BASE_CONVERSION_THRESHOLD"), (1, u "MULTIPLY_SQUARE_THRESHOLD"), (0, u "MONTGOMERY_INTRINSIC_THRESHOLD"), (1, u "SMALL_PRIME_THRESHOLD"), (1, u "DEFAULT_PRIME_CERTAINTY"), (1, u "MAX_CONSTANT"), (3, u "serialVersionUID"), (262, u "hashCode"), (75, .class_ 1532), (0, u "java/math/BigInteger$RecursiveOp$RecursiveSquare"), (0, .class_ 1534), (0, u "java/math/BigInteger$RecursiveOp$RecursiveMultiply")] 7

def k7c0 : Code := { maxStack := 4, maxLocals := 2, code := jdk_2097_method_29_code, exceptionTable := #[], attributes := #[] }
def k7m0 : Method := { name := "valueOf", desc := "(J)Ljava/math/BigInteger;", sig := { parameters := [.long], returnType := some (.object "java/math/BigInteger") }, accessFlags := 9, code := some k7c0 }
def k7c1 : Code := { maxStack := 4, maxLocals := 4, code := jdk_2097_method_30_code, exceptionTable := #[], attributes := #[] }
def k7m1 : Method := { name := "<init>", desc := "(J)V", sig := { parameters := [.long], returnType := none }, accessFlags := 2, code := some k7c1 }
def k7c2 : Code := { maxStack := 6, maxLocals := 3, code := jdk_2097_method_127_code, exceptionTable := #[], attributes := #[] }
def k7m2 : Method := { name := "hashCode", desc := "()I", sig := { parameters := [], returnType := some .int }, accessFlags := 1, code := some k7c2 }
/-- java/math/BigInteger -/
def k7 : Class := { plain "java/math/BigInteger" (some 5) with
  accessFlags := 33
  interfaces := #[6]
  cf := some (fileOf pool7 23 #[.nestMembers #[907, 472, 1531, 1533]] #[{ accessFlags := 9, nameIndex := 237, descriptorIndex := 238, attributes := #[] }, { accessFlags := 2, nameIndex := 7, descriptorIndex := 358, attributes := #[] }, { accessFlags := 1, nameIndex := 1455, descriptorIndex := 74, attributes := #[] }] 33 4 #[1160] #[{ accessFlags := 16, nameIndex := 34, descriptorIndex := 35, attributes := #[] }, { accessFlags := 16, nameIndex := 30, descriptorIndex := 31, attributes := #[] }, { accessFlags := 2, nameIndex := 752, descriptorIndex := 35, attributes := #[] }, { accessFlags := 2, nameIndex := 749, descriptorIndex := 35, attributes := #[] }, { accessFlags := 2, nameIndex := 746, descriptorIndex := 35, attributes := #[] }, { accessFlags := 2, nameIndex := 868, descriptorIndex := 35, attributes := #[] }, { accessFlags := 24, nameIndex := 1162, descriptorIndex := 1163, attributes := #[] }, { accessFlags := 26, nameIndex := 1165, descriptorIndex := 35, attributes := #[] }, { accessFlags := 26, nameIndex := 1166, descriptorIndex := 35, attributes := #[] }, { accessFlags := 26, nameIndex := 1168, descriptorIndex := 35, attributes := #[] }, { accessFlags := 26, nameIndex := 1170, descriptorIndex := 35, attributes := #[] }, { accessFlags := 26, nameIndex := 1172, descriptorIndex := 35, attributes := #[] }, { accessFlags := 26, nameIndex := 1174, descriptorIndex := 35, attributes := #[] }, { accessFlags := 24, nameIndex := 1176, descriptorIndex := 35, attributes := #[] }, { accessFlags := 24, nameIndex := 1177, descriptorIndex := 35, attributes := #[] }, { accessFlags := 26, nameIndex := 1179, descriptorIndex := 35, attributes := #[] }, { accessFlags := 26, nameIndex := 1181, descriptorIndex := 35, attributes := #[] }, { accessFlags := 26, nameIndex := 1182, descriptorIndex := 35, attributes := #[] }, { accessFlags := 10, nameIndex := 95, descriptorIndex := 96, attributes := #[] }, { accessFlags := 26, nameIndex := 1184, descriptorIndex := 35, attributes := #[] }, { accessFlags := 26, nameIndex := 1186, descriptorIndex := 35, attributes := #[] }, { accessFlags := 26, nameIndex := 180, descriptorIndex := 27, attributes := #[] }, { accessFlags := 26, nameIndex := 1188, descriptorIndex := 35, attributes := #[] }, { accessFlags := 26, nameIndex := 349, descriptorIndex := 350, attributes := #[] }, { accessFlags := 26, nameIndex := 355, descriptorIndex := 350, attributes := #[] }, { accessFlags := 74, nameIndex := 821, descriptorIndex := 822, attributes := #[] }, { accessFlags := 26, nameIndex := 763, descriptorIndex := 764, attributes := #[] }, { accessFlags := 26, nameIndex := 759, descriptorIndex := 760, attributes := #[] }, { accessFlags := 25, nameIndex := 26, descriptorIndex := 27, attributes := #[] }, { accessFlags := 25, nameIndex := 260, descriptorIndex := 27, attributes := #[] }, { accessFlags := 25, nameIndex := 267, descriptorIndex := 27, attributes := #[] }, { accessFlags := 26, nameIndex := 581, descriptorIndex := 27, attributes := #[] }, { accessFlags := 25, nameIndex := 1051, descriptorIndex := 27, attributes := #[] }, { accessFlags := 8, nameIndex := 673, descriptorIndex := 31, attributes := #[] }, { accessFlags := 10, nameIndex := 778, descriptorIndex := 35, attributes := #[] }, { accessFlags := 26, nameIndex := 781, descriptorIndex := 782, attributes := #[] }, { accessFlags := 10, nameIndex := 798, descriptorIndex := 31, attributes := #[] }, { accessFlags := 10, nameIndex := 792, descriptorIndex := 350, attributes := #[] }, { accessFlags := 10, nameIndex := 106, descriptorIndex := 31, attributes := #[] }, { accessFlags := 10, nameIndex := 119, descriptorIndex := 31, attributes := #[] }, { accessFlags := 26, nameIndex := 1192, descriptorIndex := 1163, attributes := #[] }, { accessFlags := 26, nameIndex := 1158, descriptorIndex := 1159, attributes := #[] }, { accessFlags := 4120, nameIndex := 311, descriptorIndex := 312, attributes := #[] }])
  fields := #[{ name := "signum", type := .int, accessFlags := 16, slot := 0, constantValue := 0 }, { name := "mag", type := (.array .int), accessFlags := 16, slot := 1, constantValue := 0 }, { name := "bitCountPlusOne", type := .int, accessFlags := 2, slot := 2, constantValue := 0 }, { name := "bitLengthPlusOne", type := .int, accessFlags := 2, slot := 3, constantValue := 0 }, { name := "lowestSetBitPlusTwo", type := .int, accessFlags := 2, slot := 4, constantValue := 0 }, { name := "firstNonzeroIntNumPlusTwo", type := .int, accessFlags := 2, slot := 5, constantValue := 0 }, { name := "LONG_MASK", type := .long, accessFlags := 24, slot := 0, constantValue := 0 }, { name := "MAX_MAG_LENGTH", type := .int, accessFlags := 26, slot := 1, constantValue := 0 }, { name := "PRIME_SEARCH_BIT_LENGTH_LIMIT", type := .int, accessFlags := 26, slot := 2, constantValue := 0 }, { name := "KARATSUBA_THRESHOLD", type := .int, accessFlags := 26, slot := 3, constantValue := 0 }, { name := "TOOM_COOK_THRESHOLD", type := .int, accessFlags := 26, slot := 4, constantValue := 0 }, { name := "KARATSUBA_SQUARE_THRESHOLD", type := .int, accessFlags := 26, slot := 5, constantValue := 0 }, { name := "TOOM_COOK_SQUARE_THRESHOLD", type := .int, accessFlags := 26, slot := 6, constantValue := 0 }, { name := "BURNIKEL_ZIEGLER_THRESHOLD", type := .int, accessFlags := 24, slot := 7, constantValue := 0 }, { name := "BURNIKEL_ZIEGLER_OFFSET", type := .int, accessFlags := 24, slot := 8, constantValue := 0 }, { name := "SCHOENHAGE_BASE_CONVERSION_THRESHOLD", type := .int, accessFlags := 26, slot := 9, constantValue := 0 }, { name := "MULTIPLY_SQUARE_THRESHOLD", type := .int, accessFlags := 26, slot := 10, constantValue := 0 }, { name := "MONTGOMERY_INTRINSIC_THRESHOLD", type := .int, accessFlags := 26, slot := 11, constantValue := 0 }, { name := "bitsPerDigit", type := (.array .long), accessFlags := 10, slot := 12, constantValue := 0 }, { name := "SMALL_PRIME_THRESHOLD", type := .int, accessFlags := 26, slot := 13, constantValue := 0 }, { name := "DEFAULT_PRIME_CERTAINTY", type := .int, accessFlags := 26, slot := 14, constantValue := 0 }, { name := "SMALL_PRIME_PRODUCT", type := (.object "java/math/BigInteger"), accessFlags := 26, slot := 15, constantValue := 0 }, { name := "MAX_CONSTANT", type := .int, accessFlags := 26, slot := 16, constantValue := 0 }, { name := "posConst", type := (.array (.object "java/math/BigInteger")), accessFlags := 26, slot := 17, constantValue := 0 }, { name := "negConst", type := (.array (.object "java/math/BigInteger")), accessFlags := 26, slot := 18, constantValue := 0 }, { name := "powerCache", type := (.array (.array (.object "java/math/BigInteger"))), accessFlags := 74, slot := 19, constantValue := 0 }, { name := "logCache", type := (.array .double), accessFlags := 26, slot := 20, constantValue := 0 }, { name := "LOG_TWO", type := .double, accessFlags := 26, slot := 21, constantValue := 0 }, { name := "ZERO", type := (.object "java/math/BigInteger"), accessFlags := 25, slot := 22, constantValue := 0 }, { name := "ONE", type := (.object "java/math/BigInteger"), accessFlags := 25, slot := 23, constantValue := 0 }, { name := "TWO", type := (.object "java/math/BigInteger"), accessFlags := 25, slot := 24, constantValue := 0 }, { name := "NEGATIVE_ONE", type := (.object "java/math/BigInteger"), accessFlags := 26, slot := 25, constantValue := 0 }, { name := "TEN", type := (.object "java/math/BigInteger"), accessFlags := 25, slot := 26, constantValue := 0 }, { name := "bnExpModThreshTable", type := (.array .int), accessFlags := 8, slot := 27, constantValue := 0 }, { name := "NUM_ZEROS", type := .int, accessFlags := 10, slot := 28, constantValue := 0 }, { name := "ZEROS", type := (.object "java/lang/String"), accessFlags := 26, slot := 29, constantValue := 0 }, { name := "digitsPerLong", type := (.array .int), accessFlags := 10, slot := 30, constantValue := 0 }, { name := "longRadix", type := (.array (.object "java/math/BigInteger")), accessFlags := 10, slot := 31, constantValue := 0 }, { name := "digitsPerInt", type := (.array .int), accessFlags := 10, slot := 32, constantValue := 0 }, { name := "intRadix", type := (.array .int), accessFlags := 10, slot := 33, constantValue := 0 }, { name := "serialVersionUID", type := .long, accessFlags := 26, slot := 34, constantValue := 0 }, { name := "serialPersistentFields", type := (.array (.object "java/io/ObjectStreamField")), accessFlags := 26, slot := 35, constantValue := 0 }, { name := "$assertionsDisabled", type := .boolean, accessFlags := 4120, slot := 36, constantValue := 0 }]
  methods := #[k7m0, k7m1, k7m2]
  instanceTypes := #[.int, (.array .int), .int, .int, .int, .int]
  staticTypes := #[.long, .int, .int, .int, .int, .int, .int, .int, .int, .int, .int, .int, (.array .long), .int, .int, (.object "java/math/BigInteger"), .int, (.array (.object "java/math/BigInteger")), (.array (.object "java/math/BigInteger")), (.array (.array (.object "java/math/BigInteger"))), (.array .double), .double, (.object "java/math/BigInteger"), (.object "java/math/BigInteger"), (.object "java/math/BigInteger"), (.object "java/math/BigInteger"), (.object "java/math/BigInteger"), (.array .int), .int, (.object "java/lang/String"), (.array .int), (.array (.object "java/math/BigInteger")), (.array .int), (.array .int), .long, (.array (.object "java/io/ObjectStreamField")), .boolean]
  resolved := Array.replicate 1542 none
  statics := some 0 }

def pool8 : Array CpInfo := pool [(1, .methodref 2 3), (0, .class_ 4), (0, .nameAndType 5 6), (0, u "java/lang/Object"), (0, u "<init>"), (0, u "()V"), (0, .fieldref 8 9), (0, .class_ 10), (0, .nameAndType 11 12), (0, u "com/example/incant5/incant5/Bindings"), (0, u "trail"), (0, u "[I"), (0, .class_ 14), (0, u "com/example/incant5/incant5/Term"), (0, .fieldref 8 16), (0, .nameAndType 17 18), (0, u "values"), (0, u "[Lcom/example/incant5/incant5/Term;"), (0, .fieldref 8 20), (0, .nameAndType 21 22), (0, u "trailSize"), (0, u "I"), (6, u "(I)V"), (2, u "get"), (0, u "(I)Lcom/example/incant5/incant5/Term;"), (0, u "bind"), (0, u "(ILcom/example/incant5/incant5/Term;)V"), (1, u "mark"), (0, u "()I"), (0, u "undo")] 2

def k8c0 : Code := { maxStack := 2, maxLocals := 2, code := prog_8_method_1_code, exceptionTable := #[], attributes := #[] }
def k8m0 : Method := { name := "<init>", desc := "(I)V", sig := { parameters := [.int], returnType := none }, accessFlags := 0, code := some k8c0 }
def k8c1 : Code := { maxStack := 2, maxLocals := 2, code := prog_8_method_2_code, exceptionTable := #[], attributes := #[] }
def k8m1 : Method := { name := "get", desc := "(I)Lcom/example/incant5/incant5/Term;", sig := { parameters := [.int], returnType := some (.object "com/example/incant5/incant5/Term") }, accessFlags := 0, code := some k8c1 }
def k8c2 : Code := { maxStack := 5, maxLocals := 3, code := prog_8_method_3_code, exceptionTable := #[], attributes := #[] }
def k8m2 : Method := { name := "bind", desc := "(ILcom/example/incant5/incant5/Term;)V", sig := { parameters := [.int, (.object "com/example/incant5/incant5/Term")], returnType := none }, accessFlags := 0, code := some k8c2 }
def k8c3 : Code := { maxStack := 1, maxLocals := 1, code := prog_8_method_4_code, exceptionTable := #[], attributes := #[] }
def k8m3 : Method := { name := "mark", desc := "()I", sig := { parameters := [], returnType := some .int }, accessFlags := 0, code := some k8c3 }
def k8c4 : Code := { maxStack := 3, maxLocals := 2, code := prog_8_method_5_code, exceptionTable := #[], attributes := #[] }
def k8m4 : Method := { name := "undo", desc := "(I)V", sig := { parameters := [.int], returnType := none }, accessFlags := 0, code := some k8c4 }
/-- com/example/incant5/incant5/Bindings -/
def k8 : Class := { plain "com/example/incant5/incant5/Bindings" (some 0) with
  accessFlags := 32
  interfaces := #[]
  cf := some (fileOf pool8 8 #[] #[{ accessFlags := 0, nameIndex := 5, descriptorIndex := 29, attributes := #[] }, { accessFlags := 0, nameIndex := 32, descriptorIndex := 33, attributes := #[] }, { accessFlags := 0, nameIndex := 34, descriptorIndex := 35, attributes := #[] }, { accessFlags := 0, nameIndex := 37, descriptorIndex := 38, attributes := #[] }, { accessFlags := 0, nameIndex := 39, descriptorIndex := 29, attributes := #[] }] 32 2 #[] #[{ accessFlags := 18, nameIndex := 17, descriptorIndex := 18, attributes := #[] }, { accessFlags := 2, nameIndex := 11, descriptorIndex := 12, attributes := #[] }, { accessFlags := 2, nameIndex := 21, descriptorIndex := 22, attributes := #[] }])
  fields := #[{ name := "values", type := (.array (.object "com/example/incant5/incant5/Term")), accessFlags := 18, slot := 0, constantValue := 0 }, { name := "trail", type := (.array .int), accessFlags := 2, slot := 1, constantValue := 0 }, { name := "trailSize", type := .int, accessFlags := 2, slot := 2, constantValue := 0 }]
  methods := #[k8m0, k8m1, k8m2, k8m3, k8m4]
  instanceTypes := #[(.array (.object "com/example/incant5/incant5/Term")), (.array .int), .int]
  staticTypes := #[]
  resolved := Array.replicate 42 none
  statics := none }

def pool9 : Array CpInfo := pool [(1, .class_ 2), (0, u "java/lang/Math"), (1, .class_ 6), (1, u "java/lang/Object"), (0, u "<init>"), (0, u "()V"), (89, .class_ 100), (1, u "java/lang/Math$RandomNumberGeneratorHolder"), (71, u "negativeZeroFloatBits"), (0, u "J"), (2, u "negativeZeroDoubleBits"), (24, u "min"), (43, u "$assertionsDisabled"), (0, u "Z"), (88, u "(II)I"), (2, u "twoToTheDoubleScaleDown"), (0, u "D"), (4, u "twoToTheDoubleScaleUp"), (9, u "E"), (3, u "PI"), (2, u "TAU"), (2, u "DEGREES_TO_RADIANS"), (0, u "RADIANS_TO_DEGREES")] 94

def k9m0 : Method := { name := "<init>", desc := "()V", sig := { parameters := [], returnType := none }, accessFlags := 2, code := none }
def k9c1 : Code := { maxStack := 2, maxLocals := 2, code := jdk_29_method_69_code, exceptionTable := #[], attributes := #[] }
def k9m1 : Method := { name := "min", desc := "(II)I", sig := { parameters := [.int, .int], returnType := some .int }, accessFlags := 9, code := some k9c1 }
/-- java/lang/Math -/
def k9 : Class := { plain "java/lang/Math" (some 0) with
  accessFlags := 49
  interfaces := #[]
  cf := some (fileOf pool9 1 #[.nestMembers #[98]] #[{ accessFlags := 2, nameIndex := 7, descriptorIndex := 8, attributes := #[] }, { accessFlags := 9, nameIndex := 201, descriptorIndex := 335, attributes := #[] }] 49 4 #[] #[{ accessFlags := 25, nameIndex := 354, descriptorIndex := 339, attributes := #[] }, { accessFlags := 25, nameIndex := 358, descriptorIndex := 339, attributes := #[] }, { accessFlags := 25, nameIndex := 361, descriptorIndex := 339, attributes := #[] }, { accessFlags := 26, nameIndex := 364, descriptorIndex := 339, attributes := #[] }, { accessFlags := 26, nameIndex := 365, descriptorIndex := 339, attributes := #[] }, { accessFlags := 26, nameIndex := 172, descriptorIndex := 173, attributes := #[] }, { accessFlags := 26, nameIndex := 176, descriptorIndex := 173, attributes := #[] }, { accessFlags := 8, nameIndex := 344, descriptorIndex := 339, attributes := #[] }, { accessFlags := 8, nameIndex := 338, descriptorIndex := 339, attributes := #[] }, { accessFlags := 4120, nameIndex := 245, descriptorIndex := 246, attributes := #[] }])
  fields := #[{ name := "E", type := .double, accessFlags := 25, slot := 0, constantValue := 0 }, { name := "PI", type := .double, accessFlags := 25, slot := 1, constantValue := 0 }, { name := "TAU", type := .double, accessFlags := 25, slot := 2, constantValue := 0 }, { name := "DEGREES_TO_RADIANS", type := .double, accessFlags := 26, slot := 3, constantValue := 0 }, { name := "RADIANS_TO_DEGREES", type := .double, accessFlags := 26, slot := 4, constantValue := 0 }, { name := "negativeZeroFloatBits", type := .long, accessFlags := 26, slot := 5, constantValue := 0 }, { name := "negativeZeroDoubleBits", type := .long, accessFlags := 26, slot := 6, constantValue := 0 }, { name := "twoToTheDoubleScaleUp", type := .double, accessFlags := 8, slot := 7, constantValue := 0 }, { name := "twoToTheDoubleScaleDown", type := .double, accessFlags := 8, slot := 8, constantValue := 0 }, { name := "$assertionsDisabled", type := .boolean, accessFlags := 4120, slot := 9, constantValue := 0 }]
  methods := #[k9m0, k9m1]
  instanceTypes := #[]
  staticTypes := #[.double, .double, .double, .double, .double, .long, .long, .double, .double, .boolean]
  resolved := Array.replicate 460 none
  statics := none }

def pool10 : Array CpInfo := pool [(1, u "java/lang/Cloneable"), (0, .class_ 1), (0, u "java/lang/Object"), (0, .class_ 3)] 3

/-- java/lang/Cloneable -/
def k10 : Class := { plain "java/lang/Cloneable" (some 0) with
  accessFlags := 1537
  interfaces := #[]
  cf := some (fileOf pool10 2 #[] #[] 1537 4 #[] #[])
  fields := #[]
  methods := #[]
  instanceTypes := #[]
  staticTypes := #[]
  resolved := Array.replicate 8 none
  statics := none }

/-- the primitive byte -/
def k11 : Class := { plain "byte" none with kind := .primitive 'B', accessFlags := 0x411 }
/-- [B -/
def k12 : Class := { plain "[B" (some 0) with kind := .array 11 .byte, interfaces := #[10, 4], accessFlags := 1041 }

/-- the primitive int -/
def k13 : Class := { plain "int" none with kind := .primitive 'I', accessFlags := 0x411 }
/-- [I -/
def k14 : Class := { plain "[I" (some 0) with kind := .array 13 .int, interfaces := #[10, 4], accessFlags := 1041 }

/-- [Lcom/example/incant5/incant5/Term; -/
def k15 : Class := { plain "[Lcom/example/incant5/incant5/Term;" (some 0) with kind := .array 2 (.object "com/example/incant5/incant5/Term"), interfaces := #[10, 4], accessFlags := 1041 }

/-- [Ljava/math/BigInteger; -/
def k16 : Class := { plain "[Ljava/math/BigInteger;" (some 0) with kind := .array 7 (.object "java/math/BigInteger"), interfaces := #[10, 4], accessFlags := 1041 }

def heap : Heap := #[{ cls := 7, slots := #[.long 0, .int 0, .int 0, .int 0, .int 0, .int 0, .int 0, .int 0, .int 0, .int 0, .int 0, .int 0, .null, .int 0, .int 0, .null, .int 0, .ref 1, .ref 2, .null, .null, .double 0, .ref 35, .ref 3, .ref 4, .ref 19, .ref 12, .null, .int 0, .null, .null, .null, .null, .null, .long 0, .null, .int 0], vm := .statics 7 },
  { cls := 16, slots := #[.null, .ref 3, .ref 4, .ref 5, .ref 6, .ref 7, .ref 8, .ref 9, .ref 10, .ref 11, .ref 12, .ref 13, .ref 14, .ref 15, .ref 16, .ref 17, .ref 18], vm := .none },
  { cls := 16, slots := #[.null, .ref 19, .ref 20, .ref 21, .ref 22, .ref 23, .ref 24, .ref 25, .ref 26, .ref 27, .ref 28, .ref 29, .ref 30, .ref 31, .ref 32, .ref 33, .ref 34], vm := .none },
  { cls := 7, slots := #[.int 1, .ref 36, .int 0, .int 0, .int 0, .int 0], vm := .none },
  { cls := 7, slots := #[.int 1, .ref 37, .int 0, .int 0, .int 0, .int 0], vm := .none },
  { cls := 7, slots := #[.int 1, .ref 38, .int 0, .int 0, .int 0, .int 0], vm := .none },
  { cls := 7, slots := #[.int 1, .ref 39, .int 0, .int 0, .int 0, .int 0], vm := .none },
  { cls := 7, slots := #[.int 1, .ref 40, .int 0, .int 0, .int 0, .int 0], vm := .none },
  { cls := 7, slots := #[.int 1, .ref 41, .int 0, .int 0, .int 0, .int 0], vm := .none },
  { cls := 7, slots := #[.int 1, .ref 42, .int 0, .int 0, .int 0, .int 0], vm := .none },
  { cls := 7, slots := #[.int 1, .ref 43, .int 0, .int 0, .int 0, .int 0], vm := .none },
  { cls := 7, slots := #[.int 1, .ref 44, .int 0, .int 0, .int 0, .int 0], vm := .none },
  { cls := 7, slots := #[.int 1, .ref 45, .int 0, .int 0, .int 0, .int 0], vm := .none },
  { cls := 7, slots := #[.int 1, .ref 46, .int 0, .int 0, .int 0, .int 0], vm := .none },
  { cls := 7, slots := #[.int 1, .ref 47, .int 0, .int 0, .int 0, .int 0], vm := .none },
  { cls := 7, slots := #[.int 1, .ref 48, .int 0, .int 0, .int 0, .int 0], vm := .none },
  { cls := 7, slots := #[.int 1, .ref 49, .int 0, .int 0, .int 0, .int 0], vm := .none },
  { cls := 7, slots := #[.int 1, .ref 50, .int 0, .int 0, .int 0, .int 0], vm := .none },
  { cls := 7, slots := #[.int 1, .ref 51, .int 0, .int 0, .int 0, .int 0], vm := .none },
  { cls := 7, slots := #[.int (-1), .ref 36, .int 0, .int 0, .int 0, .int 0], vm := .none },
  { cls := 7, slots := #[.int (-1), .ref 37, .int 0, .int 0, .int 0, .int 0], vm := .none },
  { cls := 7, slots := #[.int (-1), .ref 38, .int 0, .int 0, .int 0, .int 0], vm := .none },
  { cls := 7, slots := #[.int (-1), .ref 39, .int 0, .int 0, .int 0, .int 0], vm := .none },
  { cls := 7, slots := #[.int (-1), .ref 40, .int 0, .int 0, .int 0, .int 0], vm := .none },
  { cls := 7, slots := #[.int (-1), .ref 41, .int 0, .int 0, .int 0, .int 0], vm := .none },
  { cls := 7, slots := #[.int (-1), .ref 42, .int 0, .int 0, .int 0, .int 0], vm := .none },
  { cls := 7, slots := #[.int (-1), .ref 43, .int 0, .int 0, .int 0, .int 0], vm := .none },
  { cls := 7, slots := #[.int (-1), .ref 44, .int 0, .int 0, .int 0, .int 0], vm := .none },
  { cls := 7, slots := #[.int (-1), .ref 45, .int 0, .int 0, .int 0, .int 0], vm := .none },
  { cls := 7, slots := #[.int (-1), .ref 46, .int 0, .int 0, .int 0, .int 0], vm := .none },
  { cls := 7, slots := #[.int (-1), .ref 47, .int 0, .int 0, .int 0, .int 0], vm := .none },
  { cls := 7, slots := #[.int (-1), .ref 48, .int 0, .int 0, .int 0, .int 0], vm := .none },
  { cls := 7, slots := #[.int (-1), .ref 49, .int 0, .int 0, .int 0, .int 0], vm := .none },
  { cls := 7, slots := #[.int (-1), .ref 50, .int 0, .int 0, .int 0, .int 0], vm := .none },
  { cls := 7, slots := #[.int (-1), .ref 51, .int 0, .int 0, .int 0, .int 0], vm := .none },
  { cls := 7, slots := #[.int 0, .ref 52, .int 0, .int 0, .int 0, .int 0], vm := .none },
  { cls := 14, slots := #[.int 1], vm := .none },
  { cls := 14, slots := #[.int 2], vm := .none },
  { cls := 14, slots := #[.int 3], vm := .none },
  { cls := 14, slots := #[.int 4], vm := .none },
  { cls := 14, slots := #[.int 5], vm := .none },
  { cls := 14, slots := #[.int 6], vm := .none },
  { cls := 14, slots := #[.int 7], vm := .none },
  { cls := 14, slots := #[.int 8], vm := .none },
  { cls := 14, slots := #[.int 9], vm := .none },
  { cls := 14, slots := #[.int 10], vm := .none },
  { cls := 14, slots := #[.int 11], vm := .none },
  { cls := 14, slots := #[.int 12], vm := .none },
  { cls := 14, slots := #[.int 13], vm := .none },
  { cls := 14, slots := #[.int 14], vm := .none },
  { cls := 14, slots := #[.int 15], vm := .none },
  { cls := 14, slots := #[.int 16], vm := .none },
  { cls := 14, slots := #[], vm := .none }]
def classes : Array Class := #[k0, k1, k2, k3, k4, k5, k6, k7, k8, k9, k10, k11, k12, k13, k14, k15, k16]
def interned : List (Array UInt16 × Addr) := []
def slotsUsed : Nat := 285
def theMethod : MethodId := ⟨1, 1⟩
def args0 : Array Value := #[.int 27, .int 3, .int 2, .long 100]
def aboutOver (below : List Frame) : State where
  vm := { classes := classes, interned := interned.toArray }
  heap := heap
  slotsUsed := slotsUsed
  threads := #[{ frames := .invoking theMethod args0 :: below }]
def below0 : List Frame := [.native { method := ⟨0, 0⟩, args := #[] }]
def about1 : State := aboutOver below0
def p0 : Program := .bare "" "" ""
def e0 : Env := launch0.env 0 0 0
theorem w_frames : about1.frames = Frame.invoking theMethod args0 :: below0 := rfl
set_option maxRecDepth 65536 in
theorem w_args : argsFit about1.vm theMethod args0 = true := by decide +kernel
set_option maxRecDepth 65536 in
theorem w_heap : heapFits about1 = true := by decide +kernel
set_option maxRecDepth 65536 in
theorem w_runnable : about1.curStatus? = some .runnable := by decide +kernel
set_option maxRecDepth 65536 in
theorem w_alone : about1.alone = true := by decide +kernel
set_option maxRecDepth 65536 in
theorem w_named : about1.methodNamed? x = some theMethod := by decide +kernel
set_option maxRecDepth 65536 in
theorem w_hears : about1.hears theMethod below0 = true := by decide +kernel
set_option maxRecDepth 65536 in
theorem w_ripe : about1.ripe theMethod args0 below0 = true := by decide +kernel
theorem w_running : about1.status = .running := rfl
set_option maxRecDepth 65536 in
theorem w_room : about1.hasRoom e0.platform room_1 = true :=
  launch0.hasRoom_least _ room_1 (by decide +kernel) (by decide +kernel) (by decide +kernel) (by decide +kernel) (by decide +kernel) (by decide +kernel)
theorem allAtoms_all (ts : List Jvm.Cond) (a : Array Jvm.Value) (st : Jvm.State) : (allAtoms ts).before a st = ts.all (fun c => c.before a st) := by
  induction ts with
  | nil => rfl
  | cons c t ih =>
    show (Jvm.Cond.and c (allAtoms t)).before a st = _
    rw [Jvm.Cond.before_and, ih, List.all_cons]
def words1 : List Jvm.Cond := Jvm.Cond.code x code maxLocals ret :: tables_1
/-- a 'code' word, met by the world's own term for the bytes: nothing is compared byte by byte -/
theorem code_word {y : MethodName} {bytes : ByteArray} {mx : Nat} {rt : Option FieldType} {a : Array Value} {s : State} {m : MethodId} {meth : Method} {c : Code} (h1 : s.methodNamed? y = some m) (h2 : s.vm.method? m = some meth) (h3 : meth.code = some c) (h4 : c.code = bytes)
    (h5 : (c.maxLocals == mx && c.exceptionTable.isEmpty && decide (c.maxStack ≤ mostOperands) && decide (meth.sig.returnType = rt) && !meth.locks && decide (parseMethodDescriptor y.desc = some meth.sig)) = true) : (Jvm.Cond.code y bytes mx rt).before a s = true := by
  simp only [Bool.and_eq_true, beq_iff_eq, Bool.not_eq_true', decide_eq_true_eq] at h5
  obtain ⟨⟨⟨⟨⟨g1, g2⟩, g3⟩, g4⟩, g5⟩, g6⟩ := h5
  simp [Cond.before, Cond.holds, Cond.value, h1, h2, h3, h4, g1, g2, g3, g4, g5, g6]
def isCode : Jvm.Cond → Bool
  | .code _ _ _ _ => true
  | _ => false
theorem all_split {L : List Jvm.Cond} {P : Jvm.Cond → Bool} (h1 : L.all (fun c => isCode c || P c) = true) (h2 : ∀ c ∈ L.filter isCode, P c = true) : L.all P = true := by
  refine List.all_eq_true.mpr fun c hc => ?_
  have h := List.all_eq_true.mp h1 c hc
  rcases Bool.eq_false_or_eq_true (isCode c) with hi | hi
  · exact h2 c (List.mem_filter.mpr ⟨hc, hi⟩)
  · simpa [hi] using h
set_option maxRecDepth 65536 in
theorem w_c0 : (Jvm.Cond.code x code maxLocals ret).before args0 about1 = true := code_word (m := ⟨1, 1⟩) (meth := k1m1) (c := k1c1) (by decide +kernel) rfl rfl rfl (by decide +kernel)
set_option maxRecDepth 65536 in
theorem w_c1 : (Jvm.Cond.code ({ cls := "com/example/incant5/incant5/Term", name := "integer", desc := "(J)Lcom/example/incant5/incant5/Term$IntegerConstant;" } : Jvm.MethodName) prog_60_method_3_code (2 : Nat) (Option.some (Jvm.ClassFile.FieldType.object "com/example/incant5/incant5/Term$IntegerConstant"))).before args0 about1 = true := code_word (m := ⟨2, 1⟩) (meth := k2m1) (c := k2c1) (by decide +kernel) rfl rfl rfl (by decide +kernel)
set_option maxRecDepth 65536 in
theorem w_c2 : (Jvm.Cond.code ({ cls := "java/math/BigInteger", name := "valueOf", desc := "(J)Ljava/math/BigInteger;" } : Jvm.MethodName) jdk_2097_method_29_code (2 : Nat) (Option.some (Jvm.ClassFile.FieldType.object "java/math/BigInteger"))).before args0 about1 = true := code_word (m := ⟨7, 0⟩) (meth := k7m0) (c := k7c0) (by decide +kernel) rfl rfl rfl (by decide +kernel)
set_option maxRecDepth 65536 in
theorem w_c3 : (Jvm.Cond.code ({ cls := "java/math/BigInteger", name := "<init>", desc := "(J)V" } : Jvm.MethodName) jdk_2097_method_30_code (4 : Nat) (Option.none : Option Jvm.ClassFile.FieldType)).before args0 about1 = true := code_word (m := ⟨7, 1⟩) (meth := k7m1) (c := k7c1) (by decide +kernel) rfl rfl rfl (by decide +kernel)
set_option maxRecDepth 65536 in
theorem w_c4 : (Jvm.Cond.code ({ cls := "java/lang/Number", name := "<init>", desc := "()V" } : Jvm.MethodName) jdk_18_method_1_code (1 : Nat) (Option.none : Option Jvm.ClassFile.FieldType)).before args0 about1 = true := code_word (m := ⟨5, 0⟩) (meth := k5m0) (c := k5c0) (by decide +kernel) rfl rfl rfl (by decide +kernel)
set_option maxRecDepth 65536 in
theorem w_c5 : (Jvm.Cond.code ({ cls := "java/lang/Object", name := "<init>", desc := "()V" } : Jvm.MethodName) object_method_1_code (1 : Nat) (Option.none : Option Jvm.ClassFile.FieldType)).before args0 about1 = true := code_word (m := ⟨0, 0⟩) (meth := k0m0) (c := k0c0) (by decide +kernel) rfl rfl rfl (by decide +kernel)
set_option maxRecDepth 65536 in
theorem w_c6 : (Jvm.Cond.code ({ cls := "com/example/incant5/incant5/Term$IntegerConstant", name := "<init>", desc := "(Ljava/math/BigInteger;)V" } : Jvm.MethodName) prog_62_method_1_code (2 : Nat) (Option.none : Option Jvm.ClassFile.FieldType)).before args0 about1 = true := code_word (m := ⟨3, 0⟩) (meth := k3m0) (c := k3c0) (by decide +kernel) rfl rfl rfl (by decide +kernel)
set_option maxRecDepth 65536 in
theorem w_c7 : (Jvm.Cond.code ({ cls := "java/math/BigInteger", name := "hashCode", desc := "()I" } : Jvm.MethodName) jdk_2097_method_127_code (3 : Nat) (Option.some Jvm.ClassFile.FieldType.int)).before args0 about1 = true := code_word (m := ⟨7, 2⟩) (meth := k7m2) (c := k7c2) (by decide +kernel) rfl rfl rfl (by decide +kernel)
set_option maxRecDepth 65536 in
theorem w_c8 : (Jvm.Cond.code ({ cls := "com/example/incant5/incant5/Term", name := "<init>", desc := "(IZ)V" } : Jvm.MethodName) prog_60_method_1_code (3 : Nat) (Option.none : Option Jvm.ClassFile.FieldType)).before args0 about1 = true := code_word (m := ⟨2, 0⟩) (meth := k2m0) (c := k2c0) (by decide +kernel) rfl rfl rfl (by decide +kernel)
set_option maxRecDepth 65536 in
theorem w_c9 : (Jvm.Cond.code ({ cls := "com/example/incant5/incant5/Bindings", name := "<init>", desc := "(I)V" } : Jvm.MethodName) prog_8_method_1_code (2 : Nat) (Option.none : Option Jvm.ClassFile.FieldType)).before args0 about1 = true := code_word (m := ⟨8, 0⟩) (meth := k8m0) (c := k8c0) (by decide +kernel) rfl rfl rfl (by decide +kernel)
set_option maxRecDepth 65536 in
theorem w_c10 : (Jvm.Cond.code ({ cls := "com/example/incant5/incant5/Bindings", name := "bind", desc := "(ILcom/example/incant5/incant5/Term;)V" } : Jvm.MethodName) prog_8_method_3_code (3 : Nat) (Option.none : Option Jvm.ClassFile.FieldType)).before args0 about1 = true := code_word (m := ⟨8, 2⟩) (meth := k8m2) (c := k8c2) (by decide +kernel) rfl rfl rfl (by decide +kernel)
set_option maxRecDepth 65536 in
theorem w_c11 : (Jvm.Cond.code ({ cls := "com/example/incant5/incant5/Bindings", name := "undo", desc := "(I)V" } : Jvm.MethodName) prog_8_method_5_code (2 : Nat) (Option.none : Option Jvm.ClassFile.FieldType)).before args0 about1 = true := code_word (m := ⟨8, 4⟩) (meth := k8m4) (c := k8c4) (by decide +kernel) rfl rfl rfl (by decide +kernel)
set_option maxRecDepth 65536 in
theorem w_c12 : (Jvm.Cond.code ({ cls := "com/example/incant5/incant5/Bindings", name := "mark", desc := "()I" } : Jvm.MethodName) prog_8_method_4_code (1 : Nat) (Option.some Jvm.ClassFile.FieldType.int)).before args0 about1 = true := code_word (m := ⟨8, 3⟩) (meth := k8m3) (c := k8c3) (by decide +kernel) rfl rfl rfl (by decide +kernel)
set_option maxRecDepth 65536 in
theorem w_c13 : (Jvm.Cond.code ({ cls := "java/lang/Math", name := "min", desc := "(II)I" } : Jvm.MethodName) jdk_29_method_69_code (2 : Nat) (Option.some Jvm.ClassFile.FieldType.int)).before args0 about1 = true := code_word (m := ⟨9, 1⟩) (meth := k9m1) (c := k9c1) (by decide +kernel) rfl rfl rfl (by decide +kernel)
set_option maxRecDepth 65536 in
theorem w_c14 : (Jvm.Cond.code ({ cls := "com/example/incant5/incant5/Bindings", name := "get", desc := "(I)Lcom/example/incant5/incant5/Term;" } : Jvm.MethodName) prog_8_method_2_code (2 : Nat) (Option.some (Jvm.ClassFile.FieldType.object "com/example/incant5/incant5/Term"))).before args0 about1 = true := code_word (m := ⟨8, 1⟩) (meth := k8m1) (c := k8c1) (by decide +kernel) rfl rfl rfl (by decide +kernel)
set_option maxRecDepth 65536 in
theorem w_c15 : (Jvm.Cond.code ({ cls := "com/example/incant5/incant5/BindingsUndoPinLaw", name := "slotOk", desc := "(Lcom/example/incant5/incant5/Term;Lcom/example/incant5/incant5/Term;I[III)Z" } : Jvm.MethodName) method_5_code (6 : Nat) (Option.some Jvm.ClassFile.FieldType.boolean)).before args0 about1 = true := code_word (m := ⟨1, 4⟩) (meth := k1m4) (c := k1c4) (by decide +kernel) rfl rfl rfl (by decide +kernel)
set_option maxRecDepth 65536 in
theorem w_c16 : (Jvm.Cond.code ({ cls := "com/example/incant5/incant5/BindingsUndoPinLaw", name := "kept", desc := "([IIII)Z" } : Jvm.MethodName) method_4_code (6 : Nat) (Option.some Jvm.ClassFile.FieldType.boolean)).before args0 about1 = true := code_word (m := ⟨1, 3⟩) (meth := k1m3) (c := k1c3) (by decide +kernel) rfl rfl rfl (by decide +kernel)
set_option maxRecDepth 65536 in
theorem w_c17 : (Jvm.Cond.code ({ cls := "com/example/incant5/incant5/BindingsUndoPinLaw", name := "at", desc := "([IIII)Z" } : Jvm.MethodName) method_3_code (4 : Nat) (Option.some Jvm.ClassFile.FieldType.boolean)).before args0 about1 = true := code_word (m := ⟨1, 2⟩) (meth := k1m2) (c := k1c2) (by decide +kernel) rfl rfl rfl (by decide +kernel)
def codes1 : List Jvm.Cond := [Jvm.Cond.code x code maxLocals ret, Jvm.Cond.code ({ cls := "com/example/incant5/incant5/Term", name := "integer", desc := "(J)Lcom/example/incant5/incant5/Term$IntegerConstant;" } : Jvm.MethodName) prog_60_method_3_code (2 : Nat) (Option.some (Jvm.ClassFile.FieldType.object "com/example/incant5/incant5/Term$IntegerConstant")), Jvm.Cond.code ({ cls := "java/math/BigInteger", name := "valueOf", desc := "(J)Ljava/math/BigInteger;" } : Jvm.MethodName) jdk_2097_method_29_code (2 : Nat) (Option.some (Jvm.ClassFile.FieldType.object "java/math/BigInteger")), Jvm.Cond.code ({ cls := "java/math/BigInteger", name := "<init>", desc := "(J)V" } : Jvm.MethodName) jdk_2097_method_30_code (4 : Nat) (Option.none : Option Jvm.ClassFile.FieldType), Jvm.Cond.code ({ cls := "java/lang/Number", name := "<init>", desc := "()V" } : Jvm.MethodName) jdk_18_method_1_code (1 : Nat) (Option.none : Option Jvm.ClassFile.FieldType), Jvm.Cond.code ({ cls := "java/lang/Object", name := "<init>", desc := "()V" } : Jvm.MethodName) object_method_1_code (1 : Nat) (Option.none : Option Jvm.ClassFile.FieldType), Jvm.Cond.code ({ cls := "com/example/incant5/incant5/Term$IntegerConstant", name := "<init>", desc := "(Ljava/math/BigInteger;)V" } : Jvm.MethodName) prog_62_method_1_code (2 : Nat) (Option.none : Option Jvm.ClassFile.FieldType), Jvm.Cond.code ({ cls := "java/math/BigInteger", name := "hashCode", desc := "()I" } : Jvm.MethodName) jdk_2097_method_127_code (3 : Nat) (Option.some Jvm.ClassFile.FieldType.int), Jvm.Cond.code ({ cls := "com/example/incant5/incant5/Term", name := "<init>", desc := "(IZ)V" } : Jvm.MethodName) prog_60_method_1_code (3 : Nat) (Option.none : Option Jvm.ClassFile.FieldType), Jvm.Cond.code ({ cls := "com/example/incant5/incant5/Bindings", name := "<init>", desc := "(I)V" } : Jvm.MethodName) prog_8_method_1_code (2 : Nat) (Option.none : Option Jvm.ClassFile.FieldType), Jvm.Cond.code ({ cls := "com/example/incant5/incant5/Bindings", name := "bind", desc := "(ILcom/example/incant5/incant5/Term;)V" } : Jvm.MethodName) prog_8_method_3_code (3 : Nat) (Option.none : Option Jvm.ClassFile.FieldType), Jvm.Cond.code ({ cls := "com/example/incant5/incant5/Bindings", name := "undo", desc := "(I)V" } : Jvm.MethodName) prog_8_method_5_code (2 : Nat) (Option.none : Option Jvm.ClassFile.FieldType), Jvm.Cond.code ({ cls := "com/example/incant5/incant5/Bindings", name := "mark", desc := "()I" } : Jvm.MethodName) prog_8_method_4_code (1 : Nat) (Option.some Jvm.ClassFile.FieldType.int), Jvm.Cond.code ({ cls := "java/lang/Math", name := "min", desc := "(II)I" } : Jvm.MethodName) jdk_29_method_69_code (2 : Nat) (Option.some Jvm.ClassFile.FieldType.int), Jvm.Cond.code ({ cls := "com/example/incant5/incant5/Bindings", name := "get", desc := "(I)Lcom/example/incant5/incant5/Term;" } : Jvm.MethodName) prog_8_method_2_code (2 : Nat) (Option.some (Jvm.ClassFile.FieldType.object "com/example/incant5/incant5/Term")), Jvm.Cond.code ({ cls := "com/example/incant5/incant5/BindingsUndoPinLaw", name := "slotOk", desc := "(Lcom/example/incant5/incant5/Term;Lcom/example/incant5/incant5/Term;I[III)Z" } : Jvm.MethodName) method_5_code (6 : Nat) (Option.some Jvm.ClassFile.FieldType.boolean), Jvm.Cond.code ({ cls := "com/example/incant5/incant5/BindingsUndoPinLaw", name := "kept", desc := "([IIII)Z" } : Jvm.MethodName) method_4_code (6 : Nat) (Option.some Jvm.ClassFile.FieldType.boolean), Jvm.Cond.code ({ cls := "com/example/incant5/incant5/BindingsUndoPinLaw", name := "at", desc := "([IIII)Z" } : Jvm.MethodName) method_3_code (4 : Nat) (Option.some Jvm.ClassFile.FieldType.boolean)]
set_option maxRecDepth 65536 in
theorem codes_eq : words1.filter isCode = codes1 := rfl
theorem w_codes : ∀ c ∈ words1.filter isCode, c.before args0 about1 = true := by
  rw [codes_eq]
  intro c hc
  simp only [codes1, List.mem_cons, List.not_mem_nil, or_false] at hc
  rcases hc with rfl | rfl | rfl | rfl | rfl | rfl | rfl | rfl | rfl | rfl | rfl | rfl | rfl | rfl | rfl | rfl | rfl | rfl
  · exact w_c0
  · exact w_c1
  · exact w_c2
  · exact w_c3
  · exact w_c4
  · exact w_c5
  · exact w_c6
  · exact w_c7
  · exact w_c8
  · exact w_c9
  · exact w_c10
  · exact w_c11
  · exact w_c12
  · exact w_c13
  · exact w_c14
  · exact w_c15
  · exact w_c16
  · exact w_c17
set_option maxRecDepth 65536 in
theorem w_t1 : (words1.take 24).all (fun c => isCode c || c.before args0 about1) = true := by decide +kernel
set_option maxRecDepth 65536 in
theorem w_t2 : ((words1.drop 24).take 24).all (fun c => isCode c || c.before args0 about1) = true := by decide +kernel
set_option maxRecDepth 65536 in
theorem w_t3 : (((words1.drop 24).drop 24).take 24).all (fun c => isCode c || c.before args0 about1) = true := by decide +kernel
set_option maxRecDepth 65536 in
theorem w_t4 : ((((words1.drop 24).drop 24).drop 24).take 24).all (fun c => isCode c || c.before args0 about1) = true := by decide +kernel
set_option maxRecDepth 65536 in
theorem w_t5 : ((((words1.drop 24).drop 24).drop 24).drop 24).all (fun c => isCode c || c.before args0 about1) = true := by decide +kernel
theorem w_tables : (allAtoms (Jvm.Cond.code x code maxLocals ret :: tables_1)).before args0 about1 = true := by
  rw [allAtoms_all]
  show words1.all (fun c => c.before args0 about1) = true
  refine all_split ?_ w_codes
  rw [← List.take_append_drop 24 words1, List.all_append, w_t1, ← List.take_append_drop 24 (words1.drop 24), List.all_append, w_t2, ← List.take_append_drop 24 ((words1.drop 24).drop 24), List.all_append, w_t3, ← List.take_append_drop 24 (((words1.drop 24).drop 24).drop 24), List.all_append, w_t4, w_t5]
  rfl
set_option maxRecDepth 65536 in
theorem w_rest : rest_1_c.before args0 about1 = true := by decide +kernel
set_option maxRecDepth 65536 in
theorem w_case : (Jvm.Cond.and given_1 narrow_1).before args0 about1 = true := by decide +kernel
theorem w_applies : (headSpec (Jvm.Cond.code x code maxLocals ret :: tables_1) room_1).applies x e0.platform about1 = true :=
  (Spec.applies_iff w_frames).mpr ⟨w_running, w_runnable, w_alone, w_named, w_hears, w_ripe, w_room, w_tables⟩
theorem atStart : AtStart classFile x code maxLocals ret World_1 tables_1 room_1 Calls_1 rest_1 Pre_1 launch0 p0 e0 about1 theMethod args0 below0 :=
  ⟨lists_1, trivial, launch0.admits_env _ _ _, launch0.least_env, fairChoices_fair.cas, fairChoices_fair.clock, w_frames, w_args, w_heap, w_applies, trivial, w_rest, w_case⟩
end start1
theorem witness_1 : WitnessClaimed_1 := ⟨start1.p0, start1.e0, start1.about1, start1.theMethod, start1.args0, start1.below0, start1.atStart⟩
end Jvm.Pilot.@@N@@
