import JvmDerived
import JvmDerived.Pilot.@@N@@Statement
import JvmDerived.Pilot.@@N@@Code
set_option linter.unusedVariables false
set_option linter.unusedSimpArgs false
namespace Jvm.Pilot.@@N@@
open Jvm Jvm.ClassFile Sem Op Lib Jvm.Free Jvm.Stand Jvm.LawKit Jvm.RoadKit Bundle Jvm.Pilot.@@N@@.Jvm.D
section Own
variable {p : Program} {l : Launch} {e : Env} {R : Room} {s : State} {m : MethodId} {args : Array Value} {below : List Frame} {meth : Method} {c : Code} {T T' : State} {locs : List Loc} {cells slots : Nat}
/-- what a walk owes from where it stands: it comes back, with what Q says -/
def Owes (p : Program) (e : Env) (below : List Frame) (s : State) (Q : Option Value → Heap → List Loc → Prop) (k n : Nat) (T : State) (f : JFrame) : Prop :=
  ∃ s₂ o, Steps p.tables e below (T.setTop f) s₂ ∧ s₂.status = .running ∧ Ended s₂ below o ∧ ∃ v L, o = .returned v ∧ Q v s₂.heap L ∧ FrameEnd s o s₂ L k n
theorem Owes.by {Q : Option Value → Heap → List Loc → Prop} {k n : Nat} {f f' : JFrame} (st : ∀ t, Steps p.tables e below (T'.setTop f') t → Steps p.tables e below (T.setTop f) t) (h : Owes p e below s Q k n T' f') : Owes p e below s Q k n T f := by
  obtain ⟨s₂, o, h1, h2⟩ := h
  exact ⟨s₂, o, st _ h1, h2⟩
theorem Owes.ret {Q : Option Value → Heap → List Loc → Prop} {k n : Nat} {f : JFrame} (X : Stand p l e R s m args below meth c T locs cells slots) {v : Option Value} (hv : meth.sig.returnType = none → v = none) (hlk : meth.locks = false)
    (hQ : Q v T.heap locs) (hk : cells ≤ k) (hn : slots ≤ n) (st : ∀ fs, (∀ (f : JFrame) (acts : List Action), f.method = m → f.locked = none → f.entered = [] → (doReturn e (T.setTop f) acts v).1 = T.setFrames fs) → Steps p.tables e below (T.setTop f) (T.setFrames fs)) : Owes p e below s Q k n T f := by
  obtain ⟨fs, hr, hrun, hended, hW, hsame⟩ := X.leave (v := v) hv hlk
  exact ⟨_, _, st fs hr, hrun, hended, _, _, rfl, hQ, ⟨_, rfl⟩, hW, hsame.mono hk hn⟩
/-- a join point: what holds wherever the walk stands again with the same heap -/
theorem own_join {h : Heap} {G : State → Prop} {P : Prop} (X : Stand p l e R s m args below meth c T locs cells slots) (J : ∀ T', Stand p l e R s m args below meth c T' locs cells slots → T'.heap = h → G T')
    (k : (∀ T', Stand p l e R s m args below meth c T' locs cells slots → T'.heap = h → G T') → P) : P := k J
end Own
/-- it writes nothing, makes nothing, and hands back w -/
def Qv (w : Option Value) (h0 : Heap) (n0 : Nat) (v : Option Value) (h : Heap) (L : List Loc) : Prop := v = w ∧ L = [] ∧ h = h0
def QL (n0 : Nat) (v : Option Value) (h : Heap) (L : List Loc) : Prop := v = some (.int (1 : Int32)) ∧ Fr n0 L
section Words
variable {Z : State} {args : Array Value} {t : Term} {C n d : String} {a : Addr}
theorem own_fld {k : Int32} (ht : t.eval args Z none [] Z = some (.ref a)) (h : (Cond.eq (Term.field t C n d) (Term.int k)).value args Z none Z [] = some true) : Fld Z Z.heap a C n d (.int k) := by
  obtain ⟨x, y, hx, hy, h1, -⟩ := cmp_v (Or.inl h)
  obtain rfl : y = .int k := (Option.some.inj ((Term.int_eval k).symm.trans hy)).symm
  have hx' : Z.fieldOf? a C n d = some x := (fld_at ht).symm.trans hx
  cases x <;> simp [Kin, Value.isRef] at h1
  rename_i z
  have e : z = k := by simpa [Cond.value, hx, hy] using h
  subst e
  exact Fld.start hx'
theorem own_fldL {k : Int64} (ht : t.eval args Z none [] Z = some (.ref a)) (h : (Cond.eq (Term.field t C n d) (Term.long k)).value args Z none Z [] = some true) : Fld Z Z.heap a C n d (.long k) := by
  obtain ⟨x, y, hx, hy, h1, -⟩ := cmp_v (Or.inl h)
  obtain rfl : y = .long k := (Option.some.inj ((long_at k).symm.trans hy)).symm
  have hx' : Z.fieldOf? a C n d = some x := (fld_at ht).symm.trans hx
  cases x <;> simp [Kin, Value.isRef] at h1
  rename_i z
  have e : z = k := by simpa [Cond.value, hx, hy] using h
  subst e
  exact Fld.start hx'
theorem own_len {k : Int32} {cl : Cell} {ty : FieldType} (ht : t.eval args Z none [] Z = some (.ref a)) (A : Arr Z Z.heap a cl ty) (h : (Cond.eq (Term.length t) (Term.int k)).value args Z none Z [] = some true) : cl.slots.size.toInt32 = k := by
  obtain ⟨x, y, hx, hy, -, -⟩ := cmp_v (Or.inl h)
  obtain ⟨a', cell, e1, e2, rfl⟩ := Term.length_spec hx
  cases ht.symm.trans e1
  obtain rfl : y = .int k := (Option.some.inj ((Term.int_eval k).symm.trans hy)).symm
  cases A.1.symm.trans (State.arrayAt?_spec e2).1
  simpa [Cond.value, hx, hy] using h
theorem own_elem {k : Int32} {cl : Cell} {ty : FieldType} {u : Term} {w : Addr} (ht : t.eval args Z none [] Z = some (.ref a)) (A : Arr Z Z.heap a cl ty) (hu : u.eval args Z none [] Z = some (.ref w)) (h : (Cond.eq (Term.elem t (Term.int k)) u).value args Z none Z [] = some true) :
    ¬ (k < 0 ∨ cl.slots.size ≤ k.toNatClampNeg) ∧ cl.slots[k.toNatClampNeg]? = some (.ref w) := by
  obtain ⟨x, y, hx, hy, h1, -⟩ := cmp_v (Or.inl h)
  obtain rfl : y = .ref w := (Option.some.inj (hu.symm.trans hy)).symm
  obtain ⟨cell, e1, e2, e3⟩ := Jvm.Lib.elem_at hx ht (Term.int_eval k)
  cases A.1.symm.trans e1
  refine ⟨e2, ?_⟩
  cases x <;> simp [Kin, Value.isRef] at h1
  · simp [Cond.value, hx, hy] at h
  · rename_i z
    have e : z = w := by simpa [Cond.value, hx, hy] using h
    rw [e3, e]
end Words
theorem d7_0 : decode jdk_29_method_66_code 0 = .ok (.lload_n 0, 1) := by decide +kernel
theorem d7_1 : decode jdk_29_method_66_code 1 = .ok (.lload_n 2, 1) := by decide +kernel
theorem d7_2 : decode jdk_29_method_66_code 2 = .ok (.lcmp, 1) := by decide +kernel
theorem d7_3 : decode jdk_29_method_66_code 3 = .ok (.ifCond .lt 7, 3) := by decide +kernel
theorem d7_10 : decode jdk_29_method_66_code 10 = .ok (.lload_n 2, 1) := by decide +kernel
theorem d7_11 : decode jdk_29_method_66_code 11 = .ok (.lreturn, 1) := by decide +kernel
theorem d7_6 : decode jdk_29_method_66_code 6 = .ok (.lload_n 0, 1) := by decide +kernel
theorem d7_7 : decode jdk_29_method_66_code 7 = .ok (.goto 4, 3) := by decide +kernel
theorem pn_Range : plainName "com/example/chunkmark/chunkmark/dataset/Range" = true := by first | (simp [plainName, overriddenIn]; done) | decide +kernel
theorem d1_0 : decode prog_52_method_1_code 0 = .ok (.aload_n 0, 1) := by decide +kernel
theorem d1_1 : decode prog_52_method_1_code 1 = .ok (.invokespecial 1, 3) := by decide +kernel
theorem d1_4 : decode prog_52_method_1_code 4 = .ok (.lload 7, 2) := by decide +kernel
theorem d1_6 : decode prog_52_method_1_code 6 = .ok (.lconst 1, 1) := by decide +kernel
theorem d1_7 : decode prog_52_method_1_code 7 = .ok (.lcmp, 1) := by decide +kernel
theorem d1_8 : decode prog_52_method_1_code 8 = .ok (.ifCond .gt 7, 3) := by decide +kernel
theorem d1_17 : decode prog_52_method_1_code 17 = .ok (.lstore 9, 2) := by decide +kernel
theorem d1_19 : decode prog_52_method_1_code 19 = .ok (.lload_n 1, 1) := by decide +kernel
theorem d1_20 : decode prog_52_method_1_code 20 = .ok (.lconst 0, 1) := by decide +kernel
theorem d1_21 : decode prog_52_method_1_code 21 = .ok (.lcmp, 1) := by decide +kernel
theorem d1_22 : decode prog_52_method_1_code 22 = .ok (.ifCond .lt 23, 3) := by decide +kernel
theorem d1_25 : decode prog_52_method_1_code 25 = .ok (.lload_n 3, 1) := by decide +kernel
theorem d1_26 : decode prog_52_method_1_code 26 = .ok (.lconst 0, 1) := by decide +kernel
theorem d1_27 : decode prog_52_method_1_code 27 = .ok (.lcmp, 1) := by decide +kernel
theorem d1_28 : decode prog_52_method_1_code 28 = .ok (.ifCond .lt 17, 3) := by decide +kernel
theorem d1_31 : decode prog_52_method_1_code 31 = .ok (.lload 5, 2) := by decide +kernel
theorem d1_33 : decode prog_52_method_1_code 33 = .ok (.lconst 1, 1) := by decide +kernel
theorem d1_34 : decode prog_52_method_1_code 34 = .ok (.lcmp, 1) := by decide +kernel
theorem d1_35 : decode prog_52_method_1_code 35 = .ok (.ifCond .lt 10, 3) := by decide +kernel
theorem d1_38 : decode prog_52_method_1_code 38 = .ok (.lload 7, 2) := by decide +kernel
theorem d1_40 : decode prog_52_method_1_code 40 = .ok (.lconst 0, 1) := by decide +kernel
theorem d1_41 : decode prog_52_method_1_code 41 = .ok (.lcmp, 1) := by decide +kernel
theorem d1_42 : decode prog_52_method_1_code 42 = .ok (.ifCond .ge 22, 3) := by decide +kernel
theorem d1_64 : decode prog_52_method_1_code 64 = .ok (.lload_n 1, 1) := by decide +kernel
theorem d1_65 : decode prog_52_method_1_code 65 = .ok (.lconst 0, 1) := by decide +kernel
theorem d1_66 : decode prog_52_method_1_code 66 = .ok (.lcmp, 1) := by decide +kernel
theorem d1_67 : decode prog_52_method_1_code 67 = .ok (.ifCond .ne 7, 3) := by decide +kernel
theorem d1_70 : decode prog_52_method_1_code 70 = .ok (.iconst 1, 1) := by decide +kernel
theorem d1_71 : decode prog_52_method_1_code 71 = .ok (.goto 4, 3) := by decide +kernel
theorem d1_75 : decode prog_52_method_1_code 75 = .ok (.lload 7, 2) := by decide +kernel
theorem d1_77 : decode prog_52_method_1_code 77 = .ok (.lconst 0, 1) := by decide +kernel
theorem d1_78 : decode prog_52_method_1_code 78 = .ok (.lcmp, 1) := by decide +kernel
theorem d1_79 : decode prog_52_method_1_code 79 = .ok (.ifCond .ne 7, 3) := by decide +kernel
theorem d1_82 : decode prog_52_method_1_code 82 = .ok (.iconst 1, 1) := by decide +kernel
theorem d1_83 : decode prog_52_method_1_code 83 = .ok (.goto 4, 3) := by decide +kernel
theorem d1_87 : decode prog_52_method_1_code 87 = .ok (.if_icmp .eq 19, 3) := by decide +kernel
theorem d1_106 : decode prog_52_method_1_code 106 = .ok (.lload 7, 2) := by decide +kernel
theorem d1_108 : decode prog_52_method_1_code 108 = .ok (.lconst 0, 1) := by decide +kernel
theorem d1_109 : decode prog_52_method_1_code 109 = .ok (.lcmp, 1) := by decide +kernel
theorem d1_110 : decode prog_52_method_1_code 110 = .ok (.ifCond .le 38, 3) := by decide +kernel
theorem d1_148 : decode prog_52_method_1_code 148 = .ok (.aload_n 0, 1) := by decide +kernel
theorem d1_149 : decode prog_52_method_1_code 149 = .ok (.lload_n 1, 1) := by decide +kernel
theorem d1_150 : decode prog_52_method_1_code 150 = .ok (.putfield 20, 3) := by decide +kernel
theorem d1_153 : decode prog_52_method_1_code 153 = .ok (.aload_n 0, 1) := by decide +kernel
theorem d1_154 : decode prog_52_method_1_code 154 = .ok (.lload 7, 2) := by decide +kernel
theorem d1_156 : decode prog_52_method_1_code 156 = .ok (.lconst 0, 1) := by decide +kernel
theorem d1_157 : decode prog_52_method_1_code 157 = .ok (.lcmp, 1) := by decide +kernel
theorem d1_158 : decode prog_52_method_1_code 158 = .ok (.ifCond .ne 7, 3) := by decide +kernel
theorem d1_161 : decode prog_52_method_1_code 161 = .ok (.lconst 0, 1) := by decide +kernel
theorem d1_162 : decode prog_52_method_1_code 162 = .ok (.goto 4, 3) := by decide +kernel
theorem d1_166 : decode prog_52_method_1_code 166 = .ok (.putfield 26, 3) := by decide +kernel
theorem d1_169 : decode prog_52_method_1_code 169 = .ok (.aload_n 0, 1) := by decide +kernel
theorem d1_170 : decode prog_52_method_1_code 170 = .ok (.lload 9, 2) := by decide +kernel
theorem d1_172 : decode prog_52_method_1_code 172 = .ok (.putfield 29, 3) := by decide +kernel
theorem d1_175 : decode prog_52_method_1_code 175 = .ok (.aload_n 0, 1) := by decide +kernel
theorem d1_176 : decode prog_52_method_1_code 176 = .ok (.lload 7, 2) := by decide +kernel
theorem d1_178 : decode prog_52_method_1_code 178 = .ok (.putfield 32, 3) := by decide +kernel
theorem d1_181 : decode prog_52_method_1_code 181 = .ok (.return_, 1) := by decide +kernel
theorem d1_74 : decode prog_52_method_1_code 74 = .ok (.iconst 0, 1) := by decide +kernel
theorem d1_86 : decode prog_52_method_1_code 86 = .ok (.iconst 0, 1) := by decide +kernel
theorem d1_113 : decode prog_52_method_1_code 113 = .ok (.lload_n 1, 1) := by decide +kernel
theorem d1_114 : decode prog_52_method_1_code 114 = .ok (.lconst 1, 1) := by decide +kernel
theorem d1_115 : decode prog_52_method_1_code 115 = .ok (.lsub, 1) := by decide +kernel
theorem d1_116 : decode prog_52_method_1_code 116 = .ok (.lload_n 3, 1) := by decide +kernel
theorem d1_117 : decode prog_52_method_1_code 117 = .ok (.lsub, 1) := by decide +kernel
theorem d1_118 : decode prog_52_method_1_code 118 = .ok (.lload 9, 2) := by decide +kernel
theorem d1_120 : decode prog_52_method_1_code 120 = .ok (.ldiv, 1) := by decide +kernel
theorem d1_121 : decode prog_52_method_1_code 121 = .ok (.lload 7, 2) := by decide +kernel
theorem d1_123 : decode prog_52_method_1_code 123 = .ok (.lconst 1, 1) := by decide +kernel
theorem d1_124 : decode prog_52_method_1_code 124 = .ok (.lsub, 1) := by decide +kernel
theorem d1_125 : decode prog_52_method_1_code 125 = .ok (.lcmp, 1) := by decide +kernel
theorem d1_126 : decode prog_52_method_1_code 126 = .ok (.ifCond .ge 22, 3) := by decide +kernel
theorem d1_165 : decode prog_52_method_1_code 165 = .ok (.lload_n 3, 1) := by decide +kernel
theorem d1_15 : decode prog_52_method_1_code 15 = .ok (.lload 5, 2) := by decide +kernel
theorem d1_11 : decode prog_52_method_1_code 11 = .ok (.lconst 1, 1) := by decide +kernel
theorem d1_12 : decode prog_52_method_1_code 12 = .ok (.goto 5, 3) := by decide +kernel
theorem d3_0 : decode prog_52_method_11_code 0 = .ok (.aload_n 1, 1) := by decide +kernel
theorem d3_1 : decode prog_52_method_11_code 1 = .ok (.instanceof 21, 3) := by decide +kernel
theorem d3_4 : decode prog_52_method_11_code 4 = .ok (.ifCond .eq 60, 3) := by decide +kernel
theorem d3_7 : decode prog_52_method_11_code 7 = .ok (.aload_n 1, 1) := by decide +kernel
theorem d3_8 : decode prog_52_method_11_code 8 = .ok (.checkcast 21, 3) := by decide +kernel
theorem d3_11 : decode prog_52_method_11_code 11 = .ok (.astore_n 2, 1) := by decide +kernel
theorem d3_12 : decode prog_52_method_11_code 12 = .ok (.aload_n 0, 1) := by decide +kernel
theorem d3_13 : decode prog_52_method_11_code 13 = .ok (.getfield 20, 3) := by decide +kernel
theorem d3_16 : decode prog_52_method_11_code 16 = .ok (.aload_n 2, 1) := by decide +kernel
theorem d3_17 : decode prog_52_method_11_code 17 = .ok (.getfield 20, 3) := by decide +kernel
theorem d3_20 : decode prog_52_method_11_code 20 = .ok (.lcmp, 1) := by decide +kernel
theorem d3_21 : decode prog_52_method_11_code 21 = .ok (.ifCond .ne 43, 3) := by decide +kernel
theorem d3_24 : decode prog_52_method_11_code 24 = .ok (.aload_n 0, 1) := by decide +kernel
theorem d3_25 : decode prog_52_method_11_code 25 = .ok (.getfield 26, 3) := by decide +kernel
theorem d3_28 : decode prog_52_method_11_code 28 = .ok (.aload_n 2, 1) := by decide +kernel
theorem d3_29 : decode prog_52_method_11_code 29 = .ok (.getfield 26, 3) := by decide +kernel
theorem d3_32 : decode prog_52_method_11_code 32 = .ok (.lcmp, 1) := by decide +kernel
theorem d3_33 : decode prog_52_method_11_code 33 = .ok (.ifCond .ne 31, 3) := by decide +kernel
theorem d3_36 : decode prog_52_method_11_code 36 = .ok (.aload_n 0, 1) := by decide +kernel
theorem d3_37 : decode prog_52_method_11_code 37 = .ok (.getfield 29, 3) := by decide +kernel
theorem d3_40 : decode prog_52_method_11_code 40 = .ok (.aload_n 2, 1) := by decide +kernel
theorem d3_41 : decode prog_52_method_11_code 41 = .ok (.getfield 29, 3) := by decide +kernel
theorem d3_44 : decode prog_52_method_11_code 44 = .ok (.lcmp, 1) := by decide +kernel
theorem d3_45 : decode prog_52_method_11_code 45 = .ok (.ifCond .ne 19, 3) := by decide +kernel
theorem d3_48 : decode prog_52_method_11_code 48 = .ok (.aload_n 0, 1) := by decide +kernel
theorem d3_49 : decode prog_52_method_11_code 49 = .ok (.getfield 32, 3) := by decide +kernel
theorem d3_52 : decode prog_52_method_11_code 52 = .ok (.aload_n 2, 1) := by decide +kernel
theorem d3_53 : decode prog_52_method_11_code 53 = .ok (.getfield 32, 3) := by decide +kernel
theorem d3_56 : decode prog_52_method_11_code 56 = .ok (.lcmp, 1) := by decide +kernel
theorem d3_57 : decode prog_52_method_11_code 57 = .ok (.ifCond .ne 7, 3) := by decide +kernel
theorem d3_60 : decode prog_52_method_11_code 60 = .ok (.iconst 1, 1) := by decide +kernel
theorem d3_61 : decode prog_52_method_11_code 61 = .ok (.goto 4, 3) := by decide +kernel
theorem d3_65 : decode prog_52_method_11_code 65 = .ok (.ireturn, 1) := by decide +kernel
theorem d3_64 : decode prog_52_method_11_code 64 = .ok (.iconst 0, 1) := by decide +kernel
theorem pn_Number : plainName "java/lang/Number" = true := by first | (simp [plainName, overriddenIn]; done) | decide +kernel
theorem d6_0 : decode jdk_18_method_1_code 0 = .ok (.aload_n 0, 1) := by decide +kernel
theorem d6_1 : decode jdk_18_method_1_code 1 = .ok (.invokespecial 1, 3) := by decide +kernel
theorem d6_4 : decode jdk_18_method_1_code 4 = .ok (.return_, 1) := by decide +kernel
theorem pn_Long : plainName "java/lang/Long" = true := by first | (simp [plainName, overriddenIn]; done) | decide +kernel
theorem d5_0 : decode jdk_35_method_26_code 0 = .ok (.aload_n 0, 1) := by decide +kernel
theorem d5_1 : decode jdk_35_method_26_code 1 = .ok (.invokespecial 270, 3) := by decide +kernel
theorem pd_V : parseMethodDescriptor "()V" = some ⟨[], none⟩ := by decide +kernel
theorem d5_4 : decode jdk_35_method_26_code 4 = .ok (.aload_n 0, 1) := by decide +kernel
theorem d5_5 : decode jdk_35_method_26_code 5 = .ok (.lload_n 1, 1) := by decide +kernel
theorem d5_6 : decode jdk_35_method_26_code 6 = .ok (.putfield 273, 3) := by decide +kernel
theorem d5_9 : decode jdk_35_method_26_code 9 = .ok (.return_, 1) := by decide +kernel
theorem d4_0 : decode jdk_35_method_24_code 0 = .ok (.sipush 128, 3) := by decide +kernel
theorem d4_3 : decode jdk_35_method_24_code 3 = .ok (.istore_n 2, 1) := by decide +kernel
theorem d4_4 : decode jdk_35_method_24_code 4 = .ok (.lload_n 0, 1) := by decide +kernel
theorem d4_5 : decode jdk_35_method_24_code 5 = .ok (.ldc2_w 230, 3) := by decide +kernel
theorem d4_8 : decode jdk_35_method_24_code 8 = .ok (.lcmp, 1) := by decide +kernel
theorem d4_9 : decode jdk_35_method_24_code 9 = .ok (.ifCond .lt 22, 3) := by decide +kernel
theorem d4_31 : decode jdk_35_method_24_code 31 = .ok (.new 1, 3) := by decide +kernel
theorem d4_34 : decode jdk_35_method_24_code 34 = .ok (.dup, 1) := by decide +kernel
theorem d4_35 : decode jdk_35_method_24_code 35 = .ok (.lload_n 0, 1) := by decide +kernel
theorem d4_36 : decode jdk_35_method_24_code 36 = .ok (.invokespecial 240, 3) := by decide +kernel
theorem pd_J_V : parseMethodDescriptor "(J)V" = some ⟨[.long], none⟩ := by decide +kernel
theorem d4_39 : decode jdk_35_method_24_code 39 = .ok (.areturn, 1) := by decide +kernel
theorem d4_12 : decode jdk_35_method_24_code 12 = .ok (.lload_n 0, 1) := by decide +kernel
theorem d4_13 : decode jdk_35_method_24_code 13 = .ok (.ldc2_w 232, 3) := by decide +kernel
theorem d4_16 : decode jdk_35_method_24_code 16 = .ok (.lcmp, 1) := by decide +kernel
theorem d4_17 : decode jdk_35_method_24_code 17 = .ok (.ifCond .gt 14, 3) := by decide +kernel
theorem d4_20 : decode jdk_35_method_24_code 20 = .ok (.getstatic 234, 3) := by decide +kernel
theorem d4_23 : decode jdk_35_method_24_code 23 = .ok (.lload_n 0, 1) := by decide +kernel
theorem d4_24 : decode jdk_35_method_24_code 24 = .ok (.l2i, 1) := by decide +kernel
theorem d4_25 : decode jdk_35_method_24_code 25 = .ok (.sipush 128, 3) := by decide +kernel
theorem d4_28 : decode jdk_35_method_24_code 28 = .ok (.iadd, 1) := by decide +kernel
theorem d4_29 : decode jdk_35_method_24_code 29 = .ok (.aaload, 1) := by decide +kernel
theorem d4_30 : decode jdk_35_method_24_code 30 = .ok (.areturn, 1) := by decide +kernel
theorem pn_RangeEqualsPinLaw : plainName "com/example/chunkmark/chunkmark/dataset/RangeEqualsPinLaw" = true := by first | (simp [plainName, overriddenIn]; done) | decide +kernel
theorem pd_JJJJ_V : parseMethodDescriptor "(JJJJ)V" = some ⟨[.long, .long, .long, .long], none⟩ := by decide +kernel
theorem pd_Ljava_lang_Object_Z : parseMethodDescriptor "(Ljava/lang/Object;)Z" = some ⟨[(.object "java/lang/Object")], some .boolean⟩ := by decide +kernel
theorem pd_J_Ljava_lang_Long : parseMethodDescriptor "(J)Ljava/lang/Long;" = some ⟨[.long], some (.object "java/lang/Long")⟩ := by decide +kernel
theorem pd_JJ_J : parseMethodDescriptor "(JJ)J" = some ⟨[.long, .long], some .long⟩ := by decide +kernel
def own_ok (l s d c : Int64) : Prop := ¬ l < 0 ∧ ¬ s < 0 ∧ ¬ d < 1 ∧ ¬ c < 0 ∧ (l = 0 ↔ c = 0) ∧ (¬ c = 0 → ¬ (l - 1 - s) / (if 1 < c then d else 1) < c - 1)
theorem own_i0 : (0 : Int64).toInt = 0 := by decide
theorem own_i1 : (1 : Int64).toInt = 1 := by decide
theorem own_lt (x y : Int64) : x < y ↔ x.toInt < y.toInt := Int64.lt_iff_toInt_lt
theorem own_inj (x y : Int64) : x = y ↔ x.toInt = y.toInt := Int64.toInt_inj.symm
theorem own_bm {x : Int} (h1 : -9223372036854775808 ≤ x) (h2 : x < 9223372036854775808) : x.bmod (2 ^ 64) = x := by
  apply Int.bmod_eq_of_le <;> omega
theorem own_add {x y : Int64} (h1 : -9223372036854775808 ≤ x.toInt + y.toInt) (h2 : x.toInt + y.toInt < 9223372036854775808) : (x + y).toInt = x.toInt + y.toInt := by
  rw [Int64.toInt_add]; exact own_bm h1 h2
theorem own_sub {x y : Int64} (h1 : -9223372036854775808 ≤ x.toInt - y.toInt) (h2 : x.toInt - y.toInt < 9223372036854775808) : (x - y).toInt = x.toInt - y.toInt := by
  rw [Int64.toInt_sub]; exact own_bm h1 h2
theorem own_mul {x y : Int64} (h1 : -9223372036854775808 ≤ x.toInt * y.toInt) (h2 : x.toInt * y.toInt < 9223372036854775808) : (x * y).toInt = x.toInt * y.toInt := by
  rw [Int64.toInt_mul]; exact own_bm h1 h2
theorem own_ok_zero {s d c : Int64} (hs : 0 ≤ s.toInt) (hd : 1 ≤ d.toInt) (hc : c = 0) : own_ok 0 s d c := by
  subst hc
  refine ⟨by decide, ?_, ?_, by decide, by simp, fun h => absurd rfl h⟩
  · rw [own_lt, own_i0]; omega
  · rw [own_lt, own_i1]; omega
theorem own_prod {c d : Int} (h1 : 1 ≤ c) (h2 : c ≤ 7) (h3 : 1 ≤ d) (h4 : d ≤ 1099511627780) : 0 ≤ (c - 1) * d ∧ (c - 1) * d ≤ 6597069766680 := by
  have : c = 1 ∨ c = 2 ∨ c = 3 ∨ c = 4 ∨ c = 5 ∨ c = 6 ∨ c = 7 := by omega
  rcases this with rfl | rfl | rfl | rfl | rfl | rfl | rfl <;> omega
theorem own_ok_pos {l s d c : Int64} (hs : 0 ≤ s.toInt) (hs2 : s.toInt ≤ 4611686018427387906) (hd : 1 ≤ d.toInt) (hd2 : d.toInt ≤ 1099511627780) (hc : 1 ≤ c.toInt) (hc2 : c.toInt ≤ 7)
    (hl : s.toInt + (c.toInt - 1) * d.toInt + 1 ≤ l.toInt) (hl2 : l.toInt < 9223372036854775808) : own_ok l s d c := by
  obtain ⟨p1, p2⟩ := own_prod hc hc2 hd hd2
  have e1 : (l - 1).toInt = l.toInt - 1 := by rw [own_sub] <;> rw [own_i1] <;> omega
  have e2 : (l - 1 - s).toInt = l.toInt - 1 - s.toInt := by rw [own_sub] <;> rw [e1] <;> omega
  have e3 : (c - 1).toInt = c.toInt - 1 := by rw [own_sub] <;> rw [own_i1] <;> omega
  refine ⟨?_, ?_, ?_, ?_, ?_, ?_⟩
  · rw [own_lt, own_i0]; omega
  · rw [own_lt, own_i0]; omega
  · rw [own_lt, own_i1]; omega
  · rw [own_lt, own_i0]; omega
  · rw [own_inj, own_inj, own_i0]; constructor <;> intro h <;> omega
  · intro _
    have hd' : 1 ≤ (if 1 < c then d else 1).toInt ∧ (c.toInt - 1) * (if 1 < c then d else 1).toInt ≤ l.toInt - 1 - s.toInt := by
      by_cases q : 1 < c
      · rw [if_pos q]; exact ⟨hd, by omega⟩
      · rw [if_neg q, own_i1]; rw [own_lt, own_i1] at q
        have : c.toInt = 1 := by omega
        rw [this]; constructor <;> omega
    generalize (if 1 < c then d else 1) = y at hd'
    obtain ⟨y1, y2⟩ := hd'
    have n0 : 0 ≤ l.toInt - 1 - s.toInt := by omega
    have q1 : c.toInt - 1 ≤ (l.toInt - 1 - s.toInt) / y.toInt := (Int.le_ediv_iff_mul_le (by omega)).mpr y2
    have q2 : (l.toInt - 1 - s.toInt) / y.toInt ≤ l.toInt - 1 - s.toInt := Int.ediv_le_self _ n0
    rw [own_lt, e3, Int64.toInt_div, e2, Int.tdiv_eq_ediv_of_nonneg n0, own_bm (by omega) (by omega)]
    omega
theorem own_c (x : Int32) : 0 ≤ (x &&& (7 : Int32)).toInt64.toInt ∧ (x &&& (7 : Int32)).toInt64.toInt ≤ 7 := by
  rw [Int32.toInt_toInt64]
  have h : (x &&& (7 : Int32)).toBitVec.toNat ≤ 7 := by
    rw [Int32.toBitVec_and, BitVec.toNat_and]; exact Nat.and_le_right
  rw [← Int32.toInt_toBitVec, BitVec.toInt_eq_toNat_of_lt (by omega)]
  omega
theorem own_3 (x : Int32) : 0 ≤ (x &&& (3 : Int32)).toInt64.toInt ∧ (x &&& (3 : Int32)).toInt64.toInt ≤ 3 := by
  rw [Int32.toInt_toInt64]
  have h : (x &&& (3 : Int32)).toBitVec.toNat ≤ 3 := by
    rw [Int32.toBitVec_and, BitVec.toNat_and]; exact Nat.and_le_right
  rw [← Int32.toInt_toBitVec, BitVec.toInt_eq_toNat_of_lt (by omega)]
  omega
theorem own_mask (x : Int64) (n : Nat) (w : Int64) (hw : w.toBitVec.toNat = n) (hn : n < 9223372036854775808) : 0 ≤ (x &&& w).toInt ∧ (x &&& w).toInt ≤ n := by
  have h : (x &&& w).toBitVec.toNat ≤ n := by
    rw [Int64.toBitVec_and, BitVec.toNat_and, hw]; exact Nat.and_le_right
  rw [← Int64.toInt_toBitVec, BitVec.toInt_eq_toNat_of_lt (by omega)]
  omega
theorem own_s (x : Int64) : 0 ≤ (x &&& (4611686018427387903 : Int64)).toInt ∧ (x &&& (4611686018427387903 : Int64)).toInt ≤ 4611686018427387903 := own_mask x 4611686018427387903 _ (by decide) (by decide)
theorem own_d (x : Int64) : 1 ≤ ((1 : Int64) + (x &&& (1099511627775 : Int64))).toInt ∧ ((1 : Int64) + (x &&& (1099511627775 : Int64))).toInt ≤ 1099511627776 := by
  obtain ⟨h1, h2⟩ := own_mask x 1099511627775 (1099511627775 : Int64) (by decide) (by decide)
  rw [own_add] <;> rw [own_i1] <;> omega
theorem own_e (x : Int64) : 0 ≤ (x &&& (1048575 : Int64)).toInt ∧ (x &&& (1048575 : Int64)).toInt ≤ 1048575 := own_mask x 1048575 _ (by decide) (by decide)
theorem own_need {s d c : Int64} (hs : 0 ≤ s.toInt) (hs2 : s.toInt ≤ 4611686018427387906) (hd : 1 ≤ d.toInt) (hd2 : d.toInt ≤ 1099511627780) (hc : 0 ≤ c.toInt) (hc2 : c.toInt ≤ 7) (hz : ¬ c = 0) :
    (s + (c - 1) * d + 1).toInt = s.toInt + (c.toInt - 1) * d.toInt + 1 ∧ 0 ≤ (c.toInt - 1) * d.toInt ∧ (c.toInt - 1) * d.toInt ≤ 6597069766680 ∧ 1 ≤ c.toInt := by
  rw [own_inj, own_i0] at hz
  obtain ⟨p1, p2⟩ := own_prod (by omega : 1 ≤ c.toInt) hc2 hd hd2
  have e3 : (c - 1).toInt = c.toInt - 1 := by rw [own_sub] <;> rw [own_i1] <;> omega
  have e4 : ((c - 1) * d).toInt = (c.toInt - 1) * d.toInt := by rw [own_mul] <;> rw [e3] <;> omega
  have e5 : (s + (c - 1) * d).toInt = s.toInt + (c.toInt - 1) * d.toInt := by rw [own_add] <;> rw [e4] <;> omega
  refine ⟨?_, p1, p2, by omega⟩
  rw [own_add] <;> rw [e5, own_i1] <;> omega
def own_exp (l1 s1 d1 c1 l2 s2 d2 c2 : Int64) : Prop := l1 = l2 ∧ c1 = c2 ∧ (c1 = 0 ∨ (s1 = s2 ∧ (c1 = 1 ∨ d1 = d2)))
theorem own_iff {l1 s1 d1 c1 l2 s2 d2 c2 : Int64} (hc : 0 ≤ c1.toInt) :
    (l1 = l2 ∧ (if c1 = 0 then 0 else s1) = (if c2 = 0 then 0 else s2) ∧ (if 1 < c1 then d1 else 1) = (if 1 < c2 then d2 else 1) ∧ c1 = c2) ↔ own_exp l1 s1 d1 c1 l2 s2 d2 c2 := by
  constructor
  · rintro ⟨rfl, h2, h3, rfl⟩
    refine ⟨rfl, rfl, ?_⟩
    by_cases q : c1 = 0
    · exact Or.inl q
    · rw [if_neg q, if_neg q] at h2
      refine Or.inr ⟨h2, ?_⟩
      by_cases q1 : c1 = 1
      · exact Or.inl q1
      · have : 1 < c1 := by rw [own_lt, own_i1]; rw [own_inj, own_i0] at q; rw [own_inj, own_i1] at q1; omega
        rw [if_pos this, if_pos this] at h3
        exact Or.inr h3
  · rintro ⟨rfl, rfl, h⟩
    refine ⟨rfl, ?_, ?_, rfl⟩
    · by_cases q : c1 = 0
      · rw [if_pos q, if_pos q]
      · rw [if_neg q, if_neg q]
        rcases h with h | ⟨h, -⟩
        · exact absurd h q
        · exact h
    · by_cases q : 1 < c1
      · rw [if_pos q, if_pos q]
        rcases h with h | ⟨-, h | h⟩
        · rw [h] at q; exact absurd q (by decide)
        · rw [h] at q; exact absurd q (by decide)
        · exact h
      · rw [if_neg q, if_neg q]
theorem own_exp_comm {l1 s1 d1 c1 l2 s2 d2 c2 : Int64} : own_exp l1 s1 d1 c1 l2 s2 d2 c2 ↔ own_exp l2 s2 d2 c2 l1 s1 d1 c1 := by
  unfold own_exp
  constructor
  · rintro ⟨rfl, rfl, h⟩; exact ⟨rfl, rfl, h.imp id fun ⟨a, b⟩ => ⟨a.symm, b.imp id Eq.symm⟩⟩
  · rintro ⟨rfl, rfl, h⟩; exact ⟨rfl, rfl, h.imp id fun ⟨a, b⟩ => ⟨a.symm, b.imp id Eq.symm⟩⟩
theorem own_pos {c : Int64} (h1 : ¬ c = 0) (h2 : ¬ c < 0) : (0 : Int64) < c := by
  rw [own_inj, own_i0] at h1; rw [own_lt, own_i0] at h2 ⊢; omega
theorem own_nz {d d1 c : Int64} (h : d1 = (if 1 < c then d else 1)) (h3 : ¬ d < 1) : d1 ≠ 0 := by
  subst h
  by_cases q : 1 < c
  · rw [if_pos q]; intro e; rw [e] at h3; exact h3 (by decide)
  · rw [if_neg q]; decide
theorem own_s3 {s : Int64} (h1 : 0 ≤ s.toInt) (h2 : s.toInt ≤ 4611686018427387903) (x : Int32) : 0 ≤ (s + (x &&& (3 : Int32)).toInt64).toInt ∧ (s + (x &&& (3 : Int32)).toInt64).toInt ≤ 4611686018427387906 := by
  obtain ⟨g1, g2⟩ := own_3 x
  rw [own_add] <;> omega
theorem own_s' (x : Int64) : 0 ≤ (x &&& (4611686018427387903 : Int64)).toInt ∧ (x &&& (4611686018427387903 : Int64)).toInt ≤ 4611686018427387906 := ⟨(own_s x).1, Int.le_trans (own_s x).2 (by decide)⟩
theorem own_d3 {d : Int64} (h1 : 1 ≤ d.toInt) (h2 : d.toInt ≤ 1099511627776) (x : Int32) : 1 ≤ (d + (x &&& (3 : Int32)).toInt64).toInt ∧ (d + (x &&& (3 : Int32)).toInt64).toInt ≤ 1099511627780 := by
  obtain ⟨g1, g2⟩ := own_3 x
  rw [own_add] <;> omega
theorem own_d' (x : Int64) : 1 ≤ ((1 : Int64) + (x &&& (1099511627775 : Int64))).toInt ∧ ((1 : Int64) + (x &&& (1099511627775 : Int64))).toInt ≤ 1099511627780 := ⟨(own_d x).1, Int.le_trans (own_d x).2 (by decide)⟩
theorem own_l1 {s d c e : Int64} (hs : 0 ≤ s.toInt ∧ s.toInt ≤ 4611686018427387903) (hd : 1 ≤ d.toInt ∧ d.toInt ≤ 1099511627776) (hc : 0 ≤ c.toInt ∧ c.toInt ≤ 7) (he : 0 ≤ e.toInt ∧ e.toInt ≤ 1048575) (hz : ¬ c = 0) :
    own_ok (s + (c - 1) * d + 1 + e) s d c ∧ 0 ≤ (s + (c - 1) * d + 1 + e).toInt ∧ (s + (c - 1) * d + 1 + e).toInt ≤ 4611700000000000000 := by
  obtain ⟨q1, q2, q3, q4⟩ := own_need hs.1 (by omega) hd.1 (by omega) hc.1 hc.2 hz
  have e1 : (s + (c - 1) * d + 1 + e).toInt = s.toInt + (c.toInt - 1) * d.toInt + 1 + e.toInt := by rw [own_add] <;> rw [q1] <;> omega
  exact ⟨own_ok_pos hs.1 (by omega) hd.1 (by omega) q4 hc.2 (by omega) (by omega), by omega, by omega⟩
theorem own_l2 {s d c e nd : Int64} (hs : 0 ≤ s.toInt ∧ s.toInt ≤ 4611686018427387906) (hd : 1 ≤ d.toInt ∧ d.toInt ≤ 1099511627780) (hc : 0 ≤ c.toInt ∧ c.toInt ≤ 7) (he : 0 ≤ e.toInt ∧ e.toInt ≤ 1048575)
    (hn : nd.toInt = s.toInt + (c.toInt - 1) * d.toInt + 1 ∧ 0 ≤ (c.toInt - 1) * d.toInt ∧ (c.toInt - 1) * d.toInt ≤ 6597069766680 ∧ 1 ≤ c.toInt) : own_ok (nd + e) s d c := by
  obtain ⟨q1, q2, q3, q4⟩ := hn
  have e1 : (nd + e).toInt = nd.toInt + e.toInt := by rw [own_add] <;> omega
  exact own_ok_pos hs.1 hs.2 hd.1 hd.2 q4 hc.2 (by omega) (by omega)
theorem own_l2m {s d c nd l1 : Int64} (hs : 0 ≤ s.toInt ∧ s.toInt ≤ 4611686018427387906) (hd : 1 ≤ d.toInt ∧ d.toInt ≤ 1099511627780) (hc : 0 ≤ c.toInt ∧ c.toInt ≤ 7)
    (hn : nd.toInt = s.toInt + (c.toInt - 1) * d.toInt + 1 ∧ 0 ≤ (c.toInt - 1) * d.toInt ∧ (c.toInt - 1) * d.toInt ≤ 6597069766680 ∧ 1 ≤ c.toInt) (hl : 0 ≤ l1.toInt ∧ l1.toInt ≤ 4611700000000000000) : own_ok (if l1 < nd then nd else l1) s d c := by
  obtain ⟨q1, q2, q3, q4⟩ := hn
  by_cases q : l1 < nd
  · rw [if_pos q]; exact own_ok_pos hs.1 hs.2 hd.1 hd.2 q4 hc.2 (by omega) (by omega)
  · rw [if_neg q]; rw [own_lt] at q; exact own_ok_pos hs.1 hs.2 hd.1 hd.2 q4 hc.2 (by omega) (by omega)
theorem own_ext {h h' : Heap} (K : Keep h h' []) : Ext h h' := ⟨K.1, fun x c q => K.2.1 x c q nin0⟩
theorem own_no {Z : State} {a0 : Array Value} {K : String} {n : Nat} (w1 : (Cond.superclass "java/lang/Long" "java/lang/Number").before a0 Z = true) (w2 : (Cond.superclass "java/lang/Number" "java/lang/Object").before a0 Z = true) (w3 : (Cond.noSuperclass "java/lang/Object").before a0 Z = true) (wi : (Cond.instantiable K n).before a0 Z = true)
    (n1 : "java/lang/Object" ≠ K := by decide) (n2 : "java/lang/Number" ≠ K := by decide) (n3 : "java/lang/Long" ≠ K := by decide) : ∃ c t, Z.vm.findClass "java/lang/Long" = some c ∧ Z.vm.findClass K = some t ∧ Z.vm.assignable c t = false := by
  obtain ⟨t, kt, g1, g2, g3, g4, -⟩ := Cond.instantiable_spec wi
  have hO : NS Z "java/lang/Object" K := by
    obtain ⟨c, k, h1, h2, h3, -, -⟩ := Cond.noSuperclass_spec w3
    have ne := ids_ne h1 g1 n1
    refine ⟨c, t, h1, g1, fun fuel => ?_⟩
    cases fuel with
    | zero => rfl
    | succ f => simp [Vm.isSubclassAux, ne, h2, h3]
  obtain ⟨c, t', h0, g0, n3'⟩ := NS.step w1 (NS.step w2 hO n2) n3
  cases g1.symm.trans g0
  obtain ⟨p, k, kp, h1, h2, h3, h4, h5, -, h7⟩ := Cond.superclass_spec h0 w1
  have ne := ids_ne h0 g1 n3
  simp only [Bool.or_eq_false_iff] at g4
  refine ⟨c, t, h0, g1, ?_⟩
  show Z.vm.assignableAux (255 + 1) c t = false
  simp [Vm.assignableAux, ne, h2, g2, h5, g3, g4.1, Vm.isSubclass, n3']
theorem own_hallX {Z : State} {h0 h : Heap} {cl : Cell} (hall : ∀ j : Int32, ¬ (j < 0 ∨ 256 ≤ j.toNatClampNeg) → ¬ (j < 0 ∨ cl.slots.size ≤ j.toNatClampNeg) ∧ ∃ w, cl.slots[j.toNatClampNeg]? = some (.ref w) ∧ Exa Z h0 w "java/lang/Long") (E : Ext h0 h) :
    ∀ j : Int32, ¬ (j < 0 ∨ 256 ≤ j.toNatClampNeg) → ¬ (j < 0 ∨ cl.slots.size ≤ j.toNatClampNeg) ∧ ∃ w, cl.slots[j.toNatClampNeg]? = some (.ref w) ∧ Exa Z h w "java/lang/Long" := fun j hj => by
  obtain ⟨h1, w, h2, h3⟩ := hall j hj
  exact ⟨h1, w, h2, h3.ext E⟩
theorem own_hall {Z : State} {args : Array Value} {ca : Addr} {cl : Cell} (v : (Term.static "java/lang/Long$LongCache" "cache" "[Ljava/lang/Long;").eval args Z none [] Z = some (.ref ca)) (A : Arr Z Z.heap ca cl (.object "java/lang/Long"))
    (w4 : (Cond.eq (Term.length (Term.static "java/lang/Long$LongCache" "cache" "[Ljava/lang/Long;")) (Term.int 256)).before args Z = true) {D : Cond}
    (w5 : (Cond.all (Term.static "java/lang/Long$LongCache" "cache" "[Ljava/lang/Long;") (Cond.and (Cond.exactly (Term.elem (Term.static "java/lang/Long$LongCache" "cache" "[Ljava/lang/Long;") (Term.index 0)) "java/lang/Long") D)).value args Z none Z [] = some true) :
    ∀ j : Int32, ¬ (j < 0 ∨ 256 ≤ j.toNatClampNeg) → ¬ (j < 0 ∨ cl.slots.size ≤ j.toNatClampNeg) ∧ ∃ w, cl.slots[j.toNatClampNeg]? = some (.ref w) ∧ Exa Z Z.heap w "java/lang/Long" := fun j hj => by
  have hat := A.fin (Vm.Alike.refl _)
  obtain ⟨hsz, hsize⟩ := IntBox.length_fwd w4 v A.1 A.2.1 A.2.2
  have hsz256 : cl.slots.size = 256 := by
    have e : (cl.slots.size.toInt32).toInt = cl.slots.size := len_toInt hsz
    rw [hsize] at e
    have : ((256 : Int32)).toInt = 256 := by decide
    omega
  have hlt : j.toNatClampNeg < cl.slots.size := by rw [hsz256]; exact Nat.lt_of_not_le fun y => hj (Or.inr y)
  have hn : ¬ j < 0 := fun y => hj (Or.inl y)
  obtain ⟨hex, -⟩ := and_e (Cond.all_elim v hat w5 _ hlt)
  obtain ⟨x, ex⟩ := exa_v hex
  have v' : (Term.static "java/lang/Long$LongCache" "cache" "[Ljava/lang/Long;").eval args Z none [j.toNatClampNeg] Z = some (.ref ca) := by rw [← v]; simp only [Term.eval]
  obtain ⟨cell, e1, e2, e3⟩ := Jvm.Lib.elem_at ex v' (idx_at hn)
  cases A.1.symm.trans e1
  exact ⟨e2, x, e3, exa_at ex hex⟩

def QR (Z : State) (a : Addr) (l s d c : Int64) (h0 : Heap) (n0 : Nat) (v : Option Value) (h : Heap) (L : List Loc) : Prop := v = none ∧ Fr n0 L ∧ Keep h0 h [a] ∧ Exa Z h a "com/example/chunkmark/chunkmark/dataset/Range" ∧ Fld Z h a "com/example/chunkmark/chunkmark/dataset/Range" "length" "J" (.long l) ∧ Fld Z h a "com/example/chunkmark/chunkmark/dataset/Range" "start" "J" (.long (if c = 0 then 0 else s)) ∧ Fld Z h a "com/example/chunkmark/chunkmark/dataset/Range" "stride" "J" (.long (if 1 < c then d else 1)) ∧ Fld Z h a "com/example/chunkmark/chunkmark/dataset/Range" "count" "J" (.long c)
def QV (Z : State) (h0 : Heap) (n0 : Nat) (v : Option Value) (h : Heap) (L : List Loc) : Prop := ∃ a, v = some (.ref a) ∧ Fr n0 L ∧ Ext h0 h ∧ Exa Z h a "java/lang/Long"
def QN (Z : State) (a : Addr) (u : Int64) (h0 : Heap) (n0 : Nat) (v : Option Value) (h : Heap) (L : List Loc) : Prop := v = none ∧ Fr n0 L ∧ Keep h0 h [a] ∧ Exa Z h a "java/lang/Long"

theorem ef_rmM (m : MethodId) (x0 : Int64) (x1 : Int64) : entryFrame m #[(.long x0), (.long x1)] 4 = mkF m 0 #[(.val (.long x0)), .second, (.val (.long x1)), .second] [] := by first | (simp [entryFrame, mkF, argsToLocals, Value.category]; done) | rfl
set_option maxRecDepth 65536 in
set_option maxHeartbeats 40000000 in
theorem rmM (l : Launch) (Z : State) (a0 : Array Value) (hw : ∀ d ∈ tables_1, d.before a0 Z = true) (ws : List Jvm.Cond) (x y r : Int64) (h0 : Heap) (n0 : Nat) (Z0 : n0 ≤ h0.size) (hr : (if x < y then y else x) = r) :
    MetFree l (⟨"java/lang/Math", "max", "(JJ)J"⟩ : MethodName) (head1 (Jvm.Cond.code (⟨"java/lang/Math", "max", "(JJ)J"⟩ : MethodName) jdk_29_method_66_code 4 (some .long) :: ws) ({ frames := 0, cells := 0, slots := 0, locals := 0 } : Room)) (fun aa UU => aa = #[(.long x), (.long y)] ∧ Z.Warmed39 UU.vm ∧ UU.heap = h0) (fun _ _ _ _ _ => True) (fun _ UU oo UU' => ∃ vr Lr, oo = .returned vr ∧ (Qv (some (.long r)) h0 n0) vr UU'.heap Lr ∧ FrameEnd UU oo UU' Lr ({ frames := 0, cells := 0, slots := 0, locals := 0 } : Room).cells ({ frames := 0, cells := 0, slots := 0, locals := 0 } : Room).slots) := by
  refine MetFree.of_bodySF (Jvm.Free.JP.mathPlain rfl (by decide +kernel)) hisR ?_
  intro p e s m args below meth c s₁ Bd hml0 hP hK
  obtain ⟨rfl, hZ, hh⟩ := hP
  have hx := Bd.exec
  have hby := Bd.bytes
  have hml : c.maxLocals = 4 := hml0
  have hown : s.vm.findClass "java/lang/Math" = some m.cls := findClass_of_methodNamed Bd.named
  have hnm := (name_of_methodNamed Bd.named Bd.method).1
  have hlk := Bd.notSynchronized
  have X0 : Stand p l e ({ frames := 0, cells := 0, slots := 0, locals := 0 } : Room) s m #[(.long x), (.long y)] below meth c s₁ [] 0 0 := Stand.of_body Bd
  have e0 : s₁.heap = h0 := by rw [← hh, Bd.state]; rfl
  have N0 := Fr.nil n0
  show Owes p e below s (Qv (some (.long r)) h0 n0) ({ frames := 0, cells := 0, slots := 0, locals := 0 } : Room).cells ({ frames := 0, cells := 0, slots := 0, locals := 0 } : Room).slots s₁ (entryFrame m #[(.long x), (.long y)] 4)
  rw [ef_rmM m x y]
  show Owes p e below s (Qv (some (.long r)) h0 n0) ({ frames := 0, cells := 0, slots := 0, locals := 0 } : Room).cells ({ frames := 0, cells := 0, slots := 0, locals := 0 } : Room).slots s₁ (mkF m 0 #[(.val (.long x)), .second, (.val (.long y)), .second] [])
  refine Owes.by (fun _ kq => XT.lloadN X0.here hx rfl (hb hby d7_0) rfl kq) ?_
  show Owes p e below s (Qv (some (.long r)) h0 n0) ({ frames := 0, cells := 0, slots := 0, locals := 0 } : Room).cells ({ frames := 0, cells := 0, slots := 0, locals := 0 } : Room).slots s₁ (mkF m 1 #[(.val (.long x)), .second, (.val (.long y)), .second] [(.long x)])
  refine Owes.by (fun _ kq => XT.lloadN X0.here hx rfl (hb hby d7_1) rfl kq) ?_
  show Owes p e below s (Qv (some (.long r)) h0 n0) ({ frames := 0, cells := 0, slots := 0, locals := 0 } : Room).cells ({ frames := 0, cells := 0, slots := 0, locals := 0 } : Room).slots s₁ (mkF m 2 #[(.val (.long x)), .second, (.val (.long y)), .second] [(.long y), (.long x)])
  refine Owes.by (fun _ kq => XT.lcmp X0.here hx rfl (hb hby d7_2) rfl kq) ?_
  show Owes p e below s (Qv (some (.long r)) h0 n0) ({ frames := 0, cells := 0, slots := 0, locals := 0 } : Room).cells ({ frames := 0, cells := 0, slots := 0, locals := 0 } : Room).slots s₁ (mkF m 3 #[(.val (.long x)), .second, (.val (.long y)), .second] [(.int (XT.cmpL x y))])
  by_cases q : x < y
  · skip
    refine Owes.by (fun _ kq => XS.ifYes X0.here hx rfl (pc0 := 3) (pc' := 10) rfl (hb hby d7_3) rfl (XT.ll_lt_t q) (by decide) (by decide) kq) ?_
    show Owes p e below s (Qv (some (.long r)) h0 n0) ({ frames := 0, cells := 0, slots := 0, locals := 0 } : Room).cells ({ frames := 0, cells := 0, slots := 0, locals := 0 } : Room).slots s₁ (mkF m 10 #[(.val (.long x)), .second, (.val (.long y)), .second] [])
    refine Owes.by (fun _ kq => XT.lloadN X0.here hx rfl (hb hby d7_10) rfl kq) ?_
    show Owes p e below s (Qv (some (.long r)) h0 n0) ({ frames := 0, cells := 0, slots := 0, locals := 0 } : Room).cells ({ frames := 0, cells := 0, slots := 0, locals := 0 } : Room).slots s₁ (mkF m 11 #[(.val (.long x)), .second, (.val (.long y)), .second] [(.long y)])
    refine Owes.ret X0 (v := some (.long y)) (fun h => by rw [Bd.returns] at h; cases h) hlk ?_ (by decide) (by decide) (fun fs hr => retOut X0 hx Bd.returns rfl (Or.inr (Or.inl ⟨rfl, rfl, _, rfl⟩)) (hb hby d7_11) hr)
    rw [e0]
    exact ⟨by rw [← hr, if_pos q], rfl, rfl⟩
  · skip
    refine Owes.by (fun _ kq => XS.ifNo X0.here hx rfl (hb hby d7_3) rfl (XT.ll_lt_f q) kq) ?_
    show Owes p e below s (Qv (some (.long r)) h0 n0) ({ frames := 0, cells := 0, slots := 0, locals := 0 } : Room).cells ({ frames := 0, cells := 0, slots := 0, locals := 0 } : Room).slots s₁ (mkF m 6 #[(.val (.long x)), .second, (.val (.long y)), .second] [])
    refine Owes.by (fun _ kq => XT.lloadN X0.here hx rfl (hb hby d7_6) rfl kq) ?_
    show Owes p e below s (Qv (some (.long r)) h0 n0) ({ frames := 0, cells := 0, slots := 0, locals := 0 } : Room).cells ({ frames := 0, cells := 0, slots := 0, locals := 0 } : Room).slots s₁ (mkF m 7 #[(.val (.long x)), .second, (.val (.long y)), .second] [(.long x)])
    refine Owes.by (fun _ kq => XS.goto X0.here hx rfl (pc0 := 7) (pc' := 11) rfl (hb hby d7_7) (by decide) (by decide) kq) ?_
    show Owes p e below s (Qv (some (.long r)) h0 n0) ({ frames := 0, cells := 0, slots := 0, locals := 0 } : Room).cells ({ frames := 0, cells := 0, slots := 0, locals := 0 } : Room).slots s₁ (mkF m 11 #[(.val (.long x)), .second, (.val (.long y)), .second] [(.long x)])
    refine Owes.ret X0 (v := some (.long x)) (fun h => by rw [Bd.returns] at h; cases h) hlk ?_ (by decide) (by decide) (fun fs hr => retOut X0 hx Bd.returns rfl (Or.inr (Or.inl ⟨rfl, rfl, _, rfl⟩)) (hb hby d7_11) hr)
    rw [e0]
    exact ⟨by rw [← hr, if_neg q], rfl, rfl⟩
theorem ef_rmR (m : MethodId) (x0 : Addr) (x1 : Int64) (x2 : Int64) (x3 : Int64) (x4 : Int64) : entryFrame m #[(.ref x0), (.long x1), (.long x2), (.long x3), (.long x4)] 11 = mkF m 0 #[(.val (.ref x0)), (.val (.long x1)), .second, (.val (.long x2)), .second, (.val (.long x3)), .second, (.val (.long x4)), .second, .unset, .unset] [] := by first | (simp [entryFrame, mkF, argsToLocals, Value.category]; done) | rfl
set_option maxRecDepth 65536 in
set_option maxHeartbeats 40000000 in
theorem rmR (l : Launch) (Z : State) (a0 : Array Value) (hw : ∀ d ∈ tables_1, d.before a0 Z = true) (ws : List Jvm.Cond) (a : Addr) (len s0 d c' : Int64) (h0 : Heap) (n0 : Nat) (Z0 : n0 ≤ h0.size) (E : Exa Z h0 a "com/example/chunkmark/chunkmark/dataset/Range") (F0 : Fld Z h0 a "com/example/chunkmark/chunkmark/dataset/Range" "length" "J" (.long (0 : Int64))) (F1 : Fld Z h0 a "com/example/chunkmark/chunkmark/dataset/Range" "start" "J" (.long (0 : Int64))) (F2 : Fld Z h0 a "com/example/chunkmark/chunkmark/dataset/Range" "stride" "J" (.long (0 : Int64))) (F3 : Fld Z h0 a "com/example/chunkmark/chunkmark/dataset/Range" "count" "J" (.long (0 : Int64))) (g : n0 ≤ a) (ok : own_ok len s0 d c') :
    MetFree l (⟨"com/example/chunkmark/chunkmark/dataset/Range", "<init>", "(JJJJ)V"⟩ : MethodName) (head1 (Jvm.Cond.code (⟨"com/example/chunkmark/chunkmark/dataset/Range", "<init>", "(JJJJ)V"⟩ : MethodName) prog_52_method_1_code 11 none :: ws) ({ frames := 1, cells := 0, slots := 0, locals := 12 } : Room)) (fun aa UU => aa = #[(.ref a), (.long len), (.long s0), (.long d), (.long c')] ∧ Z.Warmed39 UU.vm ∧ UU.heap = h0) (fun _ _ _ _ _ => True) (fun _ UU oo UU' => ∃ vr Lr, oo = .returned vr ∧ (QR Z a len s0 d c' h0 n0) vr UU'.heap Lr ∧ FrameEnd UU oo UU' Lr ({ frames := 1, cells := 0, slots := 0, locals := 12 } : Room).cells ({ frames := 1, cells := 0, slots := 0, locals := 12 } : Room).slots) := by
  refine MetFree.of_bodySF (plainFor_of_name pn_Range) hisR ?_
  intro p e s m args below meth c s₁ Bd hml0 hP hK
  obtain ⟨rfl, hZ, hh⟩ := hP
  have hx := Bd.exec
  have hby := Bd.bytes
  have hml : c.maxLocals = 11 := hml0
  have hown : s.vm.findClass "com/example/chunkmark/chunkmark/dataset/Range" = some m.cls := findClass_of_methodNamed Bd.named
  have hnm := (name_of_methodNamed Bd.named Bd.method).1
  have hlk := Bd.notSynchronized
  have X0 : Stand p l e ({ frames := 1, cells := 0, slots := 0, locals := 12 } : Room) s m #[(.ref a), (.long len), (.long s0), (.long d), (.long c')] below meth c s₁ [] 0 0 := Stand.of_body Bd
  have e0 : s₁.heap = h0 := by rw [← hh, Bd.state]; rfl
  have N0 := Fr.nil n0
  show Owes p e below s (QR Z a len s0 d c' h0 n0) ({ frames := 1, cells := 0, slots := 0, locals := 12 } : Room).cells ({ frames := 1, cells := 0, slots := 0, locals := 12 } : Room).slots s₁ (entryFrame m #[(.ref a), (.long len), (.long s0), (.long d), (.long c')] 11)
  rw [ef_rmR m a len s0 d c']
  show Owes p e below s (QR Z a len s0 d c' h0 n0) ({ frames := 1, cells := 0, slots := 0, locals := 12 } : Room).cells ({ frames := 1, cells := 0, slots := 0, locals := 12 } : Room).slots s₁ (mkF m 0 #[(.val (.ref a)), (.val (.long len)), .second, (.val (.long s0)), .second, (.val (.long d)), .second, (.val (.long c')), .second, .unset, .unset] [])
  obtain ⟨k1, k2, k3, k4, k5, k6⟩ := ok
  refine Owes.by (fun _ kq => XS.aloadN X0.here hx rfl (hb hby d1_0) rfl rfl kq) ?_
  show Owes p e below s (QR Z a len s0 d c' h0 n0) ({ frames := 1, cells := 0, slots := 0, locals := 12 } : Room).cells ({ frames := 1, cells := 0, slots := 0, locals := 12 } : Room).slots s₁ (mkF m 1 #[(.val (.ref a)), (.val (.long len)), .second, (.val (.long s0)), .second, (.val (.long d)), .second, (.val (.long c')), .second, .unset, .unset] [(.ref a)])
  obtain ⟨T1, X1, e1, st1⟩ := initO X0 hx hZ hown (hw _ (List.mem_of_getElem? (i := 9) rfl)) (hw _ (List.mem_of_getElem? (i := 10) rfl)) (hw _ (List.mem_of_getElem? (i := 11) rfl)) e0 (g := (mkF m 1 #[(.val (.ref a)), (.val (.long len)), .second, (.val (.long s0)), .second, (.val (.long d)), .second, (.val (.long c')), .second, .unset, .unset] [(.ref a)])) rfl (by rw [hml]; rfl) rfl (hb hby d1_1) (by decide) (W := 0) (by show 2 * 0 + _ ≤ _; exact Nat.le_of_eq rfl) (by decide)
  refine Owes.by st1 ?_
  show Owes p e below s (QR Z a len s0 d c' h0 n0) ({ frames := 1, cells := 0, slots := 0, locals := 12 } : Room).cells ({ frames := 1, cells := 0, slots := 0, locals := 12 } : Room).slots T1 (mkF m 4 #[(.val (.ref a)), (.val (.long len)), .second, (.val (.long s0)), .second, (.val (.long d)), .second, (.val (.long c')), .second, .unset, .unset] [])
  refine Owes.by (fun _ kq => XT.lload X1.here hx rfl (hb hby d1_4) rfl kq) ?_
  show Owes p e below s (QR Z a len s0 d c' h0 n0) ({ frames := 1, cells := 0, slots := 0, locals := 12 } : Room).cells ({ frames := 1, cells := 0, slots := 0, locals := 12 } : Room).slots T1 (mkF m 6 #[(.val (.ref a)), (.val (.long len)), .second, (.val (.long s0)), .second, (.val (.long d)), .second, (.val (.long c')), .second, .unset, .unset] [(.long c')])
  refine Owes.by (fun _ kq => XT.lconst X1.here hx rfl (hb hby d1_6) kq) ?_
  show Owes p e below s (QR Z a len s0 d c' h0 n0) ({ frames := 1, cells := 0, slots := 0, locals := 12 } : Room).cells ({ frames := 1, cells := 0, slots := 0, locals := 12 } : Room).slots T1 (mkF m 7 #[(.val (.ref a)), (.val (.long len)), .second, (.val (.long s0)), .second, (.val (.long d)), .second, (.val (.long c')), .second, .unset, .unset] [(.long (1 : Int64)), (.long c')])
  refine Owes.by (fun _ kq => XT.lcmp X1.here hx rfl (hb hby d1_7) rfl kq) ?_
  show Owes p e below s (QR Z a len s0 d c' h0 n0) ({ frames := 1, cells := 0, slots := 0, locals := 12 } : Room).cells ({ frames := 1, cells := 0, slots := 0, locals := 12 } : Room).slots T1 (mkF m 8 #[(.val (.ref a)), (.val (.long len)), .second, (.val (.long s0)), .second, (.val (.long d)), .second, (.val (.long c')), .second, .unset, .unset] [(.int (XT.cmpL c' (1 : Int64)))])
  refine own_join X1 (h := h0) (G := fun T' => ∀ (d1 : Int64), (d1 = (if 1 < c' then d else 1)) → Owes p e below s (QR Z a len s0 d c' h0 n0) ({ frames := 1, cells := 0, slots := 0, locals := 12 } : Room).cells ({ frames := 1, cells := 0, slots := 0, locals := 12 } : Room).slots T' (mkF m 17 #[(.val (.ref a)), (.val (.long len)), .second, (.val (.long s0)), .second, (.val (.long d)), .second, (.val (.long c')), .second, .unset, .unset] [(.long d1)])) (fun T2 X2 e2 d1 hd1 => ?_) (fun J2 => ?_)
  · skip
    show Owes p e below s (QR Z a len s0 d c' h0 n0) ({ frames := 1, cells := 0, slots := 0, locals := 12 } : Room).cells ({ frames := 1, cells := 0, slots := 0, locals := 12 } : Room).slots T2 (mkF m 17 #[(.val (.ref a)), (.val (.long len)), .second, (.val (.long s0)), .second, (.val (.long d)), .second, (.val (.long c')), .second, .unset, .unset] [(.long d1)])
    refine Owes.by (fun _ kq => XT.lstore X2.here hx rfl (hb hby d1_17) rfl (l' := #[(.val (.ref a)), (.val (.long len)), .second, (.val (.long s0)), .second, (.val (.long d)), .second, (.val (.long c')), .second, (.val (.long d1)), .second]) rfl kq) ?_
    show Owes p e below s (QR Z a len s0 d c' h0 n0) ({ frames := 1, cells := 0, slots := 0, locals := 12 } : Room).cells ({ frames := 1, cells := 0, slots := 0, locals := 12 } : Room).slots T2 (mkF m 19 #[(.val (.ref a)), (.val (.long len)), .second, (.val (.long s0)), .second, (.val (.long d)), .second, (.val (.long c')), .second, (.val (.long d1)), .second] [])
    refine Owes.by (fun _ kq => XT.lloadN X2.here hx rfl (hb hby d1_19) rfl kq) ?_
    show Owes p e below s (QR Z a len s0 d c' h0 n0) ({ frames := 1, cells := 0, slots := 0, locals := 12 } : Room).cells ({ frames := 1, cells := 0, slots := 0, locals := 12 } : Room).slots T2 (mkF m 20 #[(.val (.ref a)), (.val (.long len)), .second, (.val (.long s0)), .second, (.val (.long d)), .second, (.val (.long c')), .second, (.val (.long d1)), .second] [(.long len)])
    refine Owes.by (fun _ kq => XT.lconst X2.here hx rfl (hb hby d1_20) kq) ?_
    show Owes p e below s (QR Z a len s0 d c' h0 n0) ({ frames := 1, cells := 0, slots := 0, locals := 12 } : Room).cells ({ frames := 1, cells := 0, slots := 0, locals := 12 } : Room).slots T2 (mkF m 21 #[(.val (.ref a)), (.val (.long len)), .second, (.val (.long s0)), .second, (.val (.long d)), .second, (.val (.long c')), .second, (.val (.long d1)), .second] [(.long (0 : Int64)), (.long len)])
    refine Owes.by (fun _ kq => XT.lcmp X2.here hx rfl (hb hby d1_21) rfl kq) ?_
    show Owes p e below s (QR Z a len s0 d c' h0 n0) ({ frames := 1, cells := 0, slots := 0, locals := 12 } : Room).cells ({ frames := 1, cells := 0, slots := 0, locals := 12 } : Room).slots T2 (mkF m 22 #[(.val (.ref a)), (.val (.long len)), .second, (.val (.long s0)), .second, (.val (.long d)), .second, (.val (.long c')), .second, (.val (.long d1)), .second] [(.int (XT.cmpL len (0 : Int64)))])
    refine Owes.by (fun _ kq => XS.ifNo X2.here hx rfl (hb hby d1_22) rfl (XT.ll_lt_f k1) kq) ?_
    show Owes p e below s (QR Z a len s0 d c' h0 n0) ({ frames := 1, cells := 0, slots := 0, locals := 12 } : Room).cells ({ frames := 1, cells := 0, slots := 0, locals := 12 } : Room).slots T2 (mkF m 25 #[(.val (.ref a)), (.val (.long len)), .second, (.val (.long s0)), .second, (.val (.long d)), .second, (.val (.long c')), .second, (.val (.long d1)), .second] [])
    refine Owes.by (fun _ kq => XT.lloadN X2.here hx rfl (hb hby d1_25) rfl kq) ?_
    show Owes p e below s (QR Z a len s0 d c' h0 n0) ({ frames := 1, cells := 0, slots := 0, locals := 12 } : Room).cells ({ frames := 1, cells := 0, slots := 0, locals := 12 } : Room).slots T2 (mkF m 26 #[(.val (.ref a)), (.val (.long len)), .second, (.val (.long s0)), .second, (.val (.long d)), .second, (.val (.long c')), .second, (.val (.long d1)), .second] [(.long s0)])
    refine Owes.by (fun _ kq => XT.lconst X2.here hx rfl (hb hby d1_26) kq) ?_
    show Owes p e below s (QR Z a len s0 d c' h0 n0) ({ frames := 1, cells := 0, slots := 0, locals := 12 } : Room).cells ({ frames := 1, cells := 0, slots := 0, locals := 12 } : Room).slots T2 (mkF m 27 #[(.val (.ref a)), (.val (.long len)), .second, (.val (.long s0)), .second, (.val (.long d)), .second, (.val (.long c')), .second, (.val (.long d1)), .second] [(.long (0 : Int64)), (.long s0)])
    refine Owes.by (fun _ kq => XT.lcmp X2.here hx rfl (hb hby d1_27) rfl kq) ?_
    show Owes p e below s (QR Z a len s0 d c' h0 n0) ({ frames := 1, cells := 0, slots := 0, locals := 12 } : Room).cells ({ frames := 1, cells := 0, slots := 0, locals := 12 } : Room).slots T2 (mkF m 28 #[(.val (.ref a)), (.val (.long len)), .second, (.val (.long s0)), .second, (.val (.long d)), .second, (.val (.long c')), .second, (.val (.long d1)), .second] [(.int (XT.cmpL s0 (0 : Int64)))])
    refine Owes.by (fun _ kq => XS.ifNo X2.here hx rfl (hb hby d1_28) rfl (XT.ll_lt_f k2) kq) ?_
    show Owes p e below s (QR Z a len s0 d c' h0 n0) ({ frames := 1, cells := 0, slots := 0, locals := 12 } : Room).cells ({ frames := 1, cells := 0, slots := 0, locals := 12 } : Room).slots T2 (mkF m 31 #[(.val (.ref a)), (.val (.long len)), .second, (.val (.long s0)), .second, (.val (.long d)), .second, (.val (.long c')), .second, (.val (.long d1)), .second] [])
    refine Owes.by (fun _ kq => XT.lload X2.here hx rfl (hb hby d1_31) rfl kq) ?_
    show Owes p e below s (QR Z a len s0 d c' h0 n0) ({ frames := 1, cells := 0, slots := 0, locals := 12 } : Room).cells ({ frames := 1, cells := 0, slots := 0, locals := 12 } : Room).slots T2 (mkF m 33 #[(.val (.ref a)), (.val (.long len)), .second, (.val (.long s0)), .second, (.val (.long d)), .second, (.val (.long c')), .second, (.val (.long d1)), .second] [(.long d)])
    refine Owes.by (fun _ kq => XT.lconst X2.here hx rfl (hb hby d1_33) kq) ?_
    show Owes p e below s (QR Z a len s0 d c' h0 n0) ({ frames := 1, cells := 0, slots := 0, locals := 12 } : Room).cells ({ frames := 1, cells := 0, slots := 0, locals := 12 } : Room).slots T2 (mkF m 34 #[(.val (.ref a)), (.val (.long len)), .second, (.val (.long s0)), .second, (.val (.long d)), .second, (.val (.long c')), .second, (.val (.long d1)), .second] [(.long (1 : Int64)), (.long d)])
    refine Owes.by (fun _ kq => XT.lcmp X2.here hx rfl (hb hby d1_34) rfl kq) ?_
    show Owes p e below s (QR Z a len s0 d c' h0 n0) ({ frames := 1, cells := 0, slots := 0, locals := 12 } : Room).cells ({ frames := 1, cells := 0, slots := 0, locals := 12 } : Room).slots T2 (mkF m 35 #[(.val (.ref a)), (.val (.long len)), .second, (.val (.long s0)), .second, (.val (.long d)), .second, (.val (.long c')), .second, (.val (.long d1)), .second] [(.int (XT.cmpL d (1 : Int64)))])
    refine Owes.by (fun _ kq => XS.ifNo X2.here hx rfl (hb hby d1_35) rfl (XT.ll_lt_f k3) kq) ?_
    show Owes p e below s (QR Z a len s0 d c' h0 n0) ({ frames := 1, cells := 0, slots := 0, locals := 12 } : Room).cells ({ frames := 1, cells := 0, slots := 0, locals := 12 } : Room).slots T2 (mkF m 38 #[(.val (.ref a)), (.val (.long len)), .second, (.val (.long s0)), .second, (.val (.long d)), .second, (.val (.long c')), .second, (.val (.long d1)), .second] [])
    refine Owes.by (fun _ kq => XT.lload X2.here hx rfl (hb hby d1_38) rfl kq) ?_
    show Owes p e below s (QR Z a len s0 d c' h0 n0) ({ frames := 1, cells := 0, slots := 0, locals := 12 } : Room).cells ({ frames := 1, cells := 0, slots := 0, locals := 12 } : Room).slots T2 (mkF m 40 #[(.val (.ref a)), (.val (.long len)), .second, (.val (.long s0)), .second, (.val (.long d)), .second, (.val (.long c')), .second, (.val (.long d1)), .second] [(.long c')])
    refine Owes.by (fun _ kq => XT.lconst X2.here hx rfl (hb hby d1_40) kq) ?_
    show Owes p e below s (QR Z a len s0 d c' h0 n0) ({ frames := 1, cells := 0, slots := 0, locals := 12 } : Room).cells ({ frames := 1, cells := 0, slots := 0, locals := 12 } : Room).slots T2 (mkF m 41 #[(.val (.ref a)), (.val (.long len)), .second, (.val (.long s0)), .second, (.val (.long d)), .second, (.val (.long c')), .second, (.val (.long d1)), .second] [(.long (0 : Int64)), (.long c')])
    refine Owes.by (fun _ kq => XT.lcmp X2.here hx rfl (hb hby d1_41) rfl kq) ?_
    show Owes p e below s (QR Z a len s0 d c' h0 n0) ({ frames := 1, cells := 0, slots := 0, locals := 12 } : Room).cells ({ frames := 1, cells := 0, slots := 0, locals := 12 } : Room).slots T2 (mkF m 42 #[(.val (.ref a)), (.val (.long len)), .second, (.val (.long s0)), .second, (.val (.long d)), .second, (.val (.long c')), .second, (.val (.long d1)), .second] [(.int (XT.cmpL c' (0 : Int64)))])
    refine Owes.by (fun _ kq => XS.ifYes X2.here hx rfl (pc0 := 42) (pc' := 64) rfl (hb hby d1_42) rfl (XT.ll_ge_t k4) (by decide) (by decide) kq) ?_
    show Owes p e below s (QR Z a len s0 d c' h0 n0) ({ frames := 1, cells := 0, slots := 0, locals := 12 } : Room).cells ({ frames := 1, cells := 0, slots := 0, locals := 12 } : Room).slots T2 (mkF m 64 #[(.val (.ref a)), (.val (.long len)), .second, (.val (.long s0)), .second, (.val (.long d)), .second, (.val (.long c')), .second, (.val (.long d1)), .second] [])
    refine Owes.by (fun _ kq => XT.lloadN X2.here hx rfl (hb hby d1_64) rfl kq) ?_
    show Owes p e below s (QR Z a len s0 d c' h0 n0) ({ frames := 1, cells := 0, slots := 0, locals := 12 } : Room).cells ({ frames := 1, cells := 0, slots := 0, locals := 12 } : Room).slots T2 (mkF m 65 #[(.val (.ref a)), (.val (.long len)), .second, (.val (.long s0)), .second, (.val (.long d)), .second, (.val (.long c')), .second, (.val (.long d1)), .second] [(.long len)])
    refine Owes.by (fun _ kq => XT.lconst X2.here hx rfl (hb hby d1_65) kq) ?_
    show Owes p e below s (QR Z a len s0 d c' h0 n0) ({ frames := 1, cells := 0, slots := 0, locals := 12 } : Room).cells ({ frames := 1, cells := 0, slots := 0, locals := 12 } : Room).slots T2 (mkF m 66 #[(.val (.ref a)), (.val (.long len)), .second, (.val (.long s0)), .second, (.val (.long d)), .second, (.val (.long c')), .second, (.val (.long d1)), .second] [(.long (0 : Int64)), (.long len)])
    refine Owes.by (fun _ kq => XT.lcmp X2.here hx rfl (hb hby d1_66) rfl kq) ?_
    show Owes p e below s (QR Z a len s0 d c' h0 n0) ({ frames := 1, cells := 0, slots := 0, locals := 12 } : Room).cells ({ frames := 1, cells := 0, slots := 0, locals := 12 } : Room).slots T2 (mkF m 67 #[(.val (.ref a)), (.val (.long len)), .second, (.val (.long s0)), .second, (.val (.long d)), .second, (.val (.long c')), .second, (.val (.long d1)), .second] [(.int (XT.cmpL len (0 : Int64)))])
    by_cases q : len = (0 : Int64)
    · skip
      refine Owes.by (fun _ kq => XS.ifNo X2.here hx rfl (hb hby d1_67) rfl (XT.ll_ne_f q) kq) ?_
      show Owes p e below s (QR Z a len s0 d c' h0 n0) ({ frames := 1, cells := 0, slots := 0, locals := 12 } : Room).cells ({ frames := 1, cells := 0, slots := 0, locals := 12 } : Room).slots T2 (mkF m 70 #[(.val (.ref a)), (.val (.long len)), .second, (.val (.long s0)), .second, (.val (.long d)), .second, (.val (.long c')), .second, (.val (.long d1)), .second] [])
      refine Owes.by (fun _ kq => XS.iconst X2.here hx rfl (hb hby d1_70) kq) ?_
      show Owes p e below s (QR Z a len s0 d c' h0 n0) ({ frames := 1, cells := 0, slots := 0, locals := 12 } : Room).cells ({ frames := 1, cells := 0, slots := 0, locals := 12 } : Room).slots T2 (mkF m 71 #[(.val (.ref a)), (.val (.long len)), .second, (.val (.long s0)), .second, (.val (.long d)), .second, (.val (.long c')), .second, (.val (.long d1)), .second] [(.int (1 : Int32))])
      refine Owes.by (fun _ kq => XS.goto X2.here hx rfl (pc0 := 71) (pc' := 75) rfl (hb hby d1_71) (by decide) (by decide) kq) ?_
      show Owes p e below s (QR Z a len s0 d c' h0 n0) ({ frames := 1, cells := 0, slots := 0, locals := 12 } : Room).cells ({ frames := 1, cells := 0, slots := 0, locals := 12 } : Room).slots T2 (mkF m 75 #[(.val (.ref a)), (.val (.long len)), .second, (.val (.long s0)), .second, (.val (.long d)), .second, (.val (.long c')), .second, (.val (.long d1)), .second] [(.int (1 : Int32))])
      refine Owes.by (fun _ kq => XT.lload X2.here hx rfl (hb hby d1_75) rfl kq) ?_
      show Owes p e below s (QR Z a len s0 d c' h0 n0) ({ frames := 1, cells := 0, slots := 0, locals := 12 } : Room).cells ({ frames := 1, cells := 0, slots := 0, locals := 12 } : Room).slots T2 (mkF m 77 #[(.val (.ref a)), (.val (.long len)), .second, (.val (.long s0)), .second, (.val (.long d)), .second, (.val (.long c')), .second, (.val (.long d1)), .second] [(.long c'), (.int (1 : Int32))])
      refine Owes.by (fun _ kq => XT.lconst X2.here hx rfl (hb hby d1_77) kq) ?_
      show Owes p e below s (QR Z a len s0 d c' h0 n0) ({ frames := 1, cells := 0, slots := 0, locals := 12 } : Room).cells ({ frames := 1, cells := 0, slots := 0, locals := 12 } : Room).slots T2 (mkF m 78 #[(.val (.ref a)), (.val (.long len)), .second, (.val (.long s0)), .second, (.val (.long d)), .second, (.val (.long c')), .second, (.val (.long d1)), .second] [(.long (0 : Int64)), (.long c'), (.int (1 : Int32))])
      refine Owes.by (fun _ kq => XT.lcmp X2.here hx rfl (hb hby d1_78) rfl kq) ?_
      show Owes p e below s (QR Z a len s0 d c' h0 n0) ({ frames := 1, cells := 0, slots := 0, locals := 12 } : Room).cells ({ frames := 1, cells := 0, slots := 0, locals := 12 } : Room).slots T2 (mkF m 79 #[(.val (.ref a)), (.val (.long len)), .second, (.val (.long s0)), .second, (.val (.long d)), .second, (.val (.long c')), .second, (.val (.long d1)), .second] [(.int (XT.cmpL c' (0 : Int64))), (.int (1 : Int32))])
      have hc0 := k5.mp q
      refine Owes.by (fun _ kq => XS.ifNo X2.here hx rfl (hb hby d1_79) rfl (XT.ll_ne_f hc0) kq) ?_
      show Owes p e below s (QR Z a len s0 d c' h0 n0) ({ frames := 1, cells := 0, slots := 0, locals := 12 } : Room).cells ({ frames := 1, cells := 0, slots := 0, locals := 12 } : Room).slots T2 (mkF m 82 #[(.val (.ref a)), (.val (.long len)), .second, (.val (.long s0)), .second, (.val (.long d)), .second, (.val (.long c')), .second, (.val (.long d1)), .second] [(.int (1 : Int32))])
      refine Owes.by (fun _ kq => XS.iconst X2.here hx rfl (hb hby d1_82) kq) ?_
      show Owes p e below s (QR Z a len s0 d c' h0 n0) ({ frames := 1, cells := 0, slots := 0, locals := 12 } : Room).cells ({ frames := 1, cells := 0, slots := 0, locals := 12 } : Room).slots T2 (mkF m 83 #[(.val (.ref a)), (.val (.long len)), .second, (.val (.long s0)), .second, (.val (.long d)), .second, (.val (.long c')), .second, (.val (.long d1)), .second] [(.int (1 : Int32)), (.int (1 : Int32))])
      refine Owes.by (fun _ kq => XS.goto X2.here hx rfl (pc0 := 83) (pc' := 87) rfl (hb hby d1_83) (by decide) (by decide) kq) ?_
      show Owes p e below s (QR Z a len s0 d c' h0 n0) ({ frames := 1, cells := 0, slots := 0, locals := 12 } : Room).cells ({ frames := 1, cells := 0, slots := 0, locals := 12 } : Room).slots T2 (mkF m 87 #[(.val (.ref a)), (.val (.long len)), .second, (.val (.long s0)), .second, (.val (.long d)), .second, (.val (.long c')), .second, (.val (.long d1)), .second] [(.int (1 : Int32)), (.int (1 : Int32))])
      refine Owes.by (fun _ kq => XS.icmpYes X2.here hx rfl (pc0 := 87) (pc' := 106) rfl (hb hby d1_87) rfl (XT.ii_eq_t (by decide)) (by decide) (by decide) kq) ?_
      show Owes p e below s (QR Z a len s0 d c' h0 n0) ({ frames := 1, cells := 0, slots := 0, locals := 12 } : Room).cells ({ frames := 1, cells := 0, slots := 0, locals := 12 } : Room).slots T2 (mkF m 106 #[(.val (.ref a)), (.val (.long len)), .second, (.val (.long s0)), .second, (.val (.long d)), .second, (.val (.long c')), .second, (.val (.long d1)), .second] [])
      refine Owes.by (fun _ kq => XT.lload X2.here hx rfl (hb hby d1_106) rfl kq) ?_
      show Owes p e below s (QR Z a len s0 d c' h0 n0) ({ frames := 1, cells := 0, slots := 0, locals := 12 } : Room).cells ({ frames := 1, cells := 0, slots := 0, locals := 12 } : Room).slots T2 (mkF m 108 #[(.val (.ref a)), (.val (.long len)), .second, (.val (.long s0)), .second, (.val (.long d)), .second, (.val (.long c')), .second, (.val (.long d1)), .second] [(.long c')])
      refine Owes.by (fun _ kq => XT.lconst X2.here hx rfl (hb hby d1_108) kq) ?_
      show Owes p e below s (QR Z a len s0 d c' h0 n0) ({ frames := 1, cells := 0, slots := 0, locals := 12 } : Room).cells ({ frames := 1, cells := 0, slots := 0, locals := 12 } : Room).slots T2 (mkF m 109 #[(.val (.ref a)), (.val (.long len)), .second, (.val (.long s0)), .second, (.val (.long d)), .second, (.val (.long c')), .second, (.val (.long d1)), .second] [(.long (0 : Int64)), (.long c')])
      refine Owes.by (fun _ kq => XT.lcmp X2.here hx rfl (hb hby d1_109) rfl kq) ?_
      show Owes p e below s (QR Z a len s0 d c' h0 n0) ({ frames := 1, cells := 0, slots := 0, locals := 12 } : Room).cells ({ frames := 1, cells := 0, slots := 0, locals := 12 } : Room).slots T2 (mkF m 110 #[(.val (.ref a)), (.val (.long len)), .second, (.val (.long s0)), .second, (.val (.long d)), .second, (.val (.long c')), .second, (.val (.long d1)), .second] [(.int (XT.cmpL c' (0 : Int64)))])
      have hz : ¬ (0 : Int64) < c' := by rw [hc0]; decide
      refine Owes.by (fun _ kq => XS.ifYes X2.here hx rfl (pc0 := 110) (pc' := 148) rfl (hb hby d1_110) rfl (XT.ll_le_t hz) (by decide) (by decide) kq) ?_
      show Owes p e below s (QR Z a len s0 d c' h0 n0) ({ frames := 1, cells := 0, slots := 0, locals := 12 } : Room).cells ({ frames := 1, cells := 0, slots := 0, locals := 12 } : Room).slots T2 (mkF m 148 #[(.val (.ref a)), (.val (.long len)), .second, (.val (.long s0)), .second, (.val (.long d)), .second, (.val (.long c')), .second, (.val (.long d1)), .second] [])
      refine Owes.by (fun _ kq => XS.aloadN X2.here hx rfl (hb hby d1_148) rfl rfl kq) ?_
      show Owes p e below s (QR Z a len s0 d c' h0 n0) ({ frames := 1, cells := 0, slots := 0, locals := 12 } : Room).cells ({ frames := 1, cells := 0, slots := 0, locals := 12 } : Room).slots T2 (mkF m 149 #[(.val (.ref a)), (.val (.long len)), .second, (.val (.long s0)), .second, (.val (.long d)), .second, (.val (.long c')), .second, (.val (.long d1)), .second] [(.ref a)])
      refine Owes.by (fun _ kq => XT.lloadN X2.here hx rfl (hb hby d1_149) rfl kq) ?_
      show Owes p e below s (QR Z a len s0 d c' h0 n0) ({ frames := 1, cells := 0, slots := 0, locals := 12 } : Room).cells ({ frames := 1, cells := 0, slots := 0, locals := 12 } : Room).slots T2 (mkF m 150 #[(.val (.ref a)), (.val (.long len)), .second, (.val (.long s0)), .second, (.val (.long d)), .second, (.val (.long c')), .second, (.val (.long d1)), .second] [(.long len), (.ref a)])
      obtain ⟨T3, h3, X3, e3, W3, st3⟩ := putF X2 hx hZ hown (host := "") (Or.inl (hw _ (List.mem_of_getElem? (i := 12) rfl))) Via.refl e2 F0 E (Or.inr ⟨(hw _ (List.mem_of_getElem? (i := 13) rfl)), rfl, hnm⟩) (hw _ (List.mem_of_getElem? (i := 4) rfl)) (ty := .long) (by decide) rfl rfl (g := (mkF m 150 #[(.val (.ref a)), (.val (.long len)), .second, (.val (.long s0)), .second, (.val (.long d)), .second, (.val (.long c')), .second, (.val (.long d1)), .second] [(.long len), (.ref a)])) rfl rfl (hb hby d1_150)
      refine Owes.by st3 ?_
      show Owes p e below s (QR Z a len s0 d c' h0 n0) ({ frames := 1, cells := 0, slots := 0, locals := 12 } : Room).cells ({ frames := 1, cells := 0, slots := 0, locals := 12 } : Room).slots T3 (mkF m 153 #[(.val (.ref a)), (.val (.long len)), .second, (.val (.long s0)), .second, (.val (.long d)), .second, (.val (.long c')), .second, (.val (.long d1)), .second] [])
      have F3_length := F0.same W3
      have F3_start := F1.other W3 (Or.inr (slot_ne (Or.inr (hw _ (List.mem_of_getElem? (i := 15) rfl))) (Or.inr (hw _ (List.mem_of_getElem? (i := 13) rfl))) (by decide) (t := .long) (t' := .long) (by decide) (by decide)))
      have F3_stride := F2.other W3 (Or.inr (slot_ne (Or.inr (hw _ (List.mem_of_getElem? (i := 17) rfl))) (Or.inr (hw _ (List.mem_of_getElem? (i := 13) rfl))) (by decide) (t := .long) (t' := .long) (by decide) (by decide)))
      have F3_count := F3.other W3 (Or.inr (slot_ne (Or.inr (hw _ (List.mem_of_getElem? (i := 19) rfl))) (Or.inr (hw _ (List.mem_of_getElem? (i := 13) rfl))) (by decide) (t := .long) (t' := .long) (by decide) (by decide)))
      have E3 := E.wr W3
      have K3 := (Keep.refl h0 [a]).wr W3 (Or.inl (List.mem_of_getElem? (l := [a]) (i := 0) rfl))
      have N3 := Fr.snoc X3 N0 g
      refine Owes.by (fun _ kq => XS.aloadN X3.here hx rfl (hb hby d1_153) rfl rfl kq) ?_
      show Owes p e below s (QR Z a len s0 d c' h0 n0) ({ frames := 1, cells := 0, slots := 0, locals := 12 } : Room).cells ({ frames := 1, cells := 0, slots := 0, locals := 12 } : Room).slots T3 (mkF m 154 #[(.val (.ref a)), (.val (.long len)), .second, (.val (.long s0)), .second, (.val (.long d)), .second, (.val (.long c')), .second, (.val (.long d1)), .second] [(.ref a)])
      refine Owes.by (fun _ kq => XT.lload X3.here hx rfl (hb hby d1_154) rfl kq) ?_
      show Owes p e below s (QR Z a len s0 d c' h0 n0) ({ frames := 1, cells := 0, slots := 0, locals := 12 } : Room).cells ({ frames := 1, cells := 0, slots := 0, locals := 12 } : Room).slots T3 (mkF m 156 #[(.val (.ref a)), (.val (.long len)), .second, (.val (.long s0)), .second, (.val (.long d)), .second, (.val (.long c')), .second, (.val (.long d1)), .second] [(.long c'), (.ref a)])
      refine Owes.by (fun _ kq => XT.lconst X3.here hx rfl (hb hby d1_156) kq) ?_
      show Owes p e below s (QR Z a len s0 d c' h0 n0) ({ frames := 1, cells := 0, slots := 0, locals := 12 } : Room).cells ({ frames := 1, cells := 0, slots := 0, locals := 12 } : Room).slots T3 (mkF m 157 #[(.val (.ref a)), (.val (.long len)), .second, (.val (.long s0)), .second, (.val (.long d)), .second, (.val (.long c')), .second, (.val (.long d1)), .second] [(.long (0 : Int64)), (.long c'), (.ref a)])
      refine Owes.by (fun _ kq => XT.lcmp X3.here hx rfl (hb hby d1_157) rfl kq) ?_
      show Owes p e below s (QR Z a len s0 d c' h0 n0) ({ frames := 1, cells := 0, slots := 0, locals := 12 } : Room).cells ({ frames := 1, cells := 0, slots := 0, locals := 12 } : Room).slots T3 (mkF m 158 #[(.val (.ref a)), (.val (.long len)), .second, (.val (.long s0)), .second, (.val (.long d)), .second, (.val (.long c')), .second, (.val (.long d1)), .second] [(.int (XT.cmpL c' (0 : Int64))), (.ref a)])
      refine Owes.by (fun _ kq => XS.ifNo X3.here hx rfl (hb hby d1_158) rfl (XT.ll_ne_f hc0) kq) ?_
      show Owes p e below s (QR Z a len s0 d c' h0 n0) ({ frames := 1, cells := 0, slots := 0, locals := 12 } : Room).cells ({ frames := 1, cells := 0, slots := 0, locals := 12 } : Room).slots T3 (mkF m 161 #[(.val (.ref a)), (.val (.long len)), .second, (.val (.long s0)), .second, (.val (.long d)), .second, (.val (.long c')), .second, (.val (.long d1)), .second] [(.ref a)])
      refine Owes.by (fun _ kq => XT.lconst X3.here hx rfl (hb hby d1_161) kq) ?_
      show Owes p e below s (QR Z a len s0 d c' h0 n0) ({ frames := 1, cells := 0, slots := 0, locals := 12 } : Room).cells ({ frames := 1, cells := 0, slots := 0, locals := 12 } : Room).slots T3 (mkF m 162 #[(.val (.ref a)), (.val (.long len)), .second, (.val (.long s0)), .second, (.val (.long d)), .second, (.val (.long c')), .second, (.val (.long d1)), .second] [(.long (0 : Int64)), (.ref a)])
      refine Owes.by (fun _ kq => XS.goto X3.here hx rfl (pc0 := 162) (pc' := 166) rfl (hb hby d1_162) (by decide) (by decide) kq) ?_
      show Owes p e below s (QR Z a len s0 d c' h0 n0) ({ frames := 1, cells := 0, slots := 0, locals := 12 } : Room).cells ({ frames := 1, cells := 0, slots := 0, locals := 12 } : Room).slots T3 (mkF m 166 #[(.val (.ref a)), (.val (.long len)), .second, (.val (.long s0)), .second, (.val (.long d)), .second, (.val (.long c')), .second, (.val (.long d1)), .second] [(.long (0 : Int64)), (.ref a)])
      obtain ⟨T4, h4, X4, e4, W4, st4⟩ := putF X3 hx hZ hown (host := "") (Or.inl (hw _ (List.mem_of_getElem? (i := 14) rfl))) Via.refl e3 F3_start E3 (Or.inr ⟨(hw _ (List.mem_of_getElem? (i := 15) rfl)), rfl, hnm⟩) (hw _ (List.mem_of_getElem? (i := 4) rfl)) (ty := .long) (by decide) rfl rfl (g := (mkF m 166 #[(.val (.ref a)), (.val (.long len)), .second, (.val (.long s0)), .second, (.val (.long d)), .second, (.val (.long c')), .second, (.val (.long d1)), .second] [(.long (0 : Int64)), (.ref a)])) rfl rfl (hb hby d1_166)
      refine Owes.by st4 ?_
      show Owes p e below s (QR Z a len s0 d c' h0 n0) ({ frames := 1, cells := 0, slots := 0, locals := 12 } : Room).cells ({ frames := 1, cells := 0, slots := 0, locals := 12 } : Room).slots T4 (mkF m 169 #[(.val (.ref a)), (.val (.long len)), .second, (.val (.long s0)), .second, (.val (.long d)), .second, (.val (.long c')), .second, (.val (.long d1)), .second] [])
      have F4_length := F3_length.other W4 (Or.inr (slot_ne (Or.inr (hw _ (List.mem_of_getElem? (i := 13) rfl))) (Or.inr (hw _ (List.mem_of_getElem? (i := 15) rfl))) (by decide) (t := .long) (t' := .long) (by decide) (by decide)))
      have F4_start := F3_start.same W4
      have F4_stride := F3_stride.other W4 (Or.inr (slot_ne (Or.inr (hw _ (List.mem_of_getElem? (i := 17) rfl))) (Or.inr (hw _ (List.mem_of_getElem? (i := 15) rfl))) (by decide) (t := .long) (t' := .long) (by decide) (by decide)))
      have F4_count := F3_count.other W4 (Or.inr (slot_ne (Or.inr (hw _ (List.mem_of_getElem? (i := 19) rfl))) (Or.inr (hw _ (List.mem_of_getElem? (i := 15) rfl))) (by decide) (t := .long) (t' := .long) (by decide) (by decide)))
      have E4 := E3.wr W4
      have K4 := K3.wr W4 (Or.inl (List.mem_of_getElem? (l := [a]) (i := 0) rfl))
      have N4 := Fr.snoc X4 N3 g
      refine Owes.by (fun _ kq => XS.aloadN X4.here hx rfl (hb hby d1_169) rfl rfl kq) ?_
      show Owes p e below s (QR Z a len s0 d c' h0 n0) ({ frames := 1, cells := 0, slots := 0, locals := 12 } : Room).cells ({ frames := 1, cells := 0, slots := 0, locals := 12 } : Room).slots T4 (mkF m 170 #[(.val (.ref a)), (.val (.long len)), .second, (.val (.long s0)), .second, (.val (.long d)), .second, (.val (.long c')), .second, (.val (.long d1)), .second] [(.ref a)])
      refine Owes.by (fun _ kq => XT.lload X4.here hx rfl (hb hby d1_170) rfl kq) ?_
      show Owes p e below s (QR Z a len s0 d c' h0 n0) ({ frames := 1, cells := 0, slots := 0, locals := 12 } : Room).cells ({ frames := 1, cells := 0, slots := 0, locals := 12 } : Room).slots T4 (mkF m 172 #[(.val (.ref a)), (.val (.long len)), .second, (.val (.long s0)), .second, (.val (.long d)), .second, (.val (.long c')), .second, (.val (.long d1)), .second] [(.long d1), (.ref a)])
      obtain ⟨T5, h5, X5, e5, W5, st5⟩ := putF X4 hx hZ hown (host := "") (Or.inl (hw _ (List.mem_of_getElem? (i := 16) rfl))) Via.refl e4 F4_stride E4 (Or.inr ⟨(hw _ (List.mem_of_getElem? (i := 17) rfl)), rfl, hnm⟩) (hw _ (List.mem_of_getElem? (i := 4) rfl)) (ty := .long) (by decide) rfl rfl (g := (mkF m 172 #[(.val (.ref a)), (.val (.long len)), .second, (.val (.long s0)), .second, (.val (.long d)), .second, (.val (.long c')), .second, (.val (.long d1)), .second] [(.long d1), (.ref a)])) rfl rfl (hb hby d1_172)
      refine Owes.by st5 ?_
      show Owes p e below s (QR Z a len s0 d c' h0 n0) ({ frames := 1, cells := 0, slots := 0, locals := 12 } : Room).cells ({ frames := 1, cells := 0, slots := 0, locals := 12 } : Room).slots T5 (mkF m 175 #[(.val (.ref a)), (.val (.long len)), .second, (.val (.long s0)), .second, (.val (.long d)), .second, (.val (.long c')), .second, (.val (.long d1)), .second] [])
      have F5_length := F4_length.other W5 (Or.inr (slot_ne (Or.inr (hw _ (List.mem_of_getElem? (i := 13) rfl))) (Or.inr (hw _ (List.mem_of_getElem? (i := 17) rfl))) (by decide) (t := .long) (t' := .long) (by decide) (by decide)))
      have F5_start := F4_start.other W5 (Or.inr (slot_ne (Or.inr (hw _ (List.mem_of_getElem? (i := 15) rfl))) (Or.inr (hw _ (List.mem_of_getElem? (i := 17) rfl))) (by decide) (t := .long) (t' := .long) (by decide) (by decide)))
      have F5_stride := F4_stride.same W5
      have F5_count := F4_count.other W5 (Or.inr (slot_ne (Or.inr (hw _ (List.mem_of_getElem? (i := 19) rfl))) (Or.inr (hw _ (List.mem_of_getElem? (i := 17) rfl))) (by decide) (t := .long) (t' := .long) (by decide) (by decide)))
      have E5 := E4.wr W5
      have K5 := K4.wr W5 (Or.inl (List.mem_of_getElem? (l := [a]) (i := 0) rfl))
      have N5 := Fr.snoc X5 N4 g
      refine Owes.by (fun _ kq => XS.aloadN X5.here hx rfl (hb hby d1_175) rfl rfl kq) ?_
      show Owes p e below s (QR Z a len s0 d c' h0 n0) ({ frames := 1, cells := 0, slots := 0, locals := 12 } : Room).cells ({ frames := 1, cells := 0, slots := 0, locals := 12 } : Room).slots T5 (mkF m 176 #[(.val (.ref a)), (.val (.long len)), .second, (.val (.long s0)), .second, (.val (.long d)), .second, (.val (.long c')), .second, (.val (.long d1)), .second] [(.ref a)])
      refine Owes.by (fun _ kq => XT.lload X5.here hx rfl (hb hby d1_176) rfl kq) ?_
      show Owes p e below s (QR Z a len s0 d c' h0 n0) ({ frames := 1, cells := 0, slots := 0, locals := 12 } : Room).cells ({ frames := 1, cells := 0, slots := 0, locals := 12 } : Room).slots T5 (mkF m 178 #[(.val (.ref a)), (.val (.long len)), .second, (.val (.long s0)), .second, (.val (.long d)), .second, (.val (.long c')), .second, (.val (.long d1)), .second] [(.long c'), (.ref a)])
      obtain ⟨T6, h6, X6, e6, W6, st6⟩ := putF X5 hx hZ hown (host := "") (Or.inl (hw _ (List.mem_of_getElem? (i := 18) rfl))) Via.refl e5 F5_count E5 (Or.inr ⟨(hw _ (List.mem_of_getElem? (i := 19) rfl)), rfl, hnm⟩) (hw _ (List.mem_of_getElem? (i := 4) rfl)) (ty := .long) (by decide) rfl rfl (g := (mkF m 178 #[(.val (.ref a)), (.val (.long len)), .second, (.val (.long s0)), .second, (.val (.long d)), .second, (.val (.long c')), .second, (.val (.long d1)), .second] [(.long c'), (.ref a)])) rfl rfl (hb hby d1_178)
      refine Owes.by st6 ?_
      show Owes p e below s (QR Z a len s0 d c' h0 n0) ({ frames := 1, cells := 0, slots := 0, locals := 12 } : Room).cells ({ frames := 1, cells := 0, slots := 0, locals := 12 } : Room).slots T6 (mkF m 181 #[(.val (.ref a)), (.val (.long len)), .second, (.val (.long s0)), .second, (.val (.long d)), .second, (.val (.long c')), .second, (.val (.long d1)), .second] [])
      have F6_length := F5_length.other W6 (Or.inr (slot_ne (Or.inr (hw _ (List.mem_of_getElem? (i := 13) rfl))) (Or.inr (hw _ (List.mem_of_getElem? (i := 19) rfl))) (by decide) (t := .long) (t' := .long) (by decide) (by decide)))
      have F6_start := F5_start.other W6 (Or.inr (slot_ne (Or.inr (hw _ (List.mem_of_getElem? (i := 15) rfl))) (Or.inr (hw _ (List.mem_of_getElem? (i := 19) rfl))) (by decide) (t := .long) (t' := .long) (by decide) (by decide)))
      have F6_stride := F5_stride.other W6 (Or.inr (slot_ne (Or.inr (hw _ (List.mem_of_getElem? (i := 17) rfl))) (Or.inr (hw _ (List.mem_of_getElem? (i := 19) rfl))) (by decide) (t := .long) (t' := .long) (by decide) (by decide)))
      have F6_count := F5_count.same W6
      have E6 := E5.wr W6
      have K6 := K5.wr W6 (Or.inl (List.mem_of_getElem? (l := [a]) (i := 0) rfl))
      have N6 := Fr.snoc X6 N5 g
      refine Owes.ret X6 (v := none) (fun _ => rfl) hlk ?_ (by decide) (by decide) (fun fs hr => X6.returnOut hx Bd.returns (hb hby d1_181) hr)
      rw [e6]
      exact ⟨rfl, N6, K6, E6, F6_length, (by rw [if_pos hc0]; exact F6_start), (by rw [← hd1]; exact F6_stride), F6_count⟩
    · skip
      refine Owes.by (fun _ kq => XS.ifYes X2.here hx rfl (pc0 := 67) (pc' := 74) rfl (hb hby d1_67) rfl (XT.ll_ne_t q) (by decide) (by decide) kq) ?_
      show Owes p e below s (QR Z a len s0 d c' h0 n0) ({ frames := 1, cells := 0, slots := 0, locals := 12 } : Room).cells ({ frames := 1, cells := 0, slots := 0, locals := 12 } : Room).slots T2 (mkF m 74 #[(.val (.ref a)), (.val (.long len)), .second, (.val (.long s0)), .second, (.val (.long d)), .second, (.val (.long c')), .second, (.val (.long d1)), .second] [])
      refine Owes.by (fun _ kq => XS.iconst X2.here hx rfl (hb hby d1_74) kq) ?_
      show Owes p e below s (QR Z a len s0 d c' h0 n0) ({ frames := 1, cells := 0, slots := 0, locals := 12 } : Room).cells ({ frames := 1, cells := 0, slots := 0, locals := 12 } : Room).slots T2 (mkF m 75 #[(.val (.ref a)), (.val (.long len)), .second, (.val (.long s0)), .second, (.val (.long d)), .second, (.val (.long c')), .second, (.val (.long d1)), .second] [(.int (0 : Int32))])
      refine Owes.by (fun _ kq => XT.lload X2.here hx rfl (hb hby d1_75) rfl kq) ?_
      show Owes p e below s (QR Z a len s0 d c' h0 n0) ({ frames := 1, cells := 0, slots := 0, locals := 12 } : Room).cells ({ frames := 1, cells := 0, slots := 0, locals := 12 } : Room).slots T2 (mkF m 77 #[(.val (.ref a)), (.val (.long len)), .second, (.val (.long s0)), .second, (.val (.long d)), .second, (.val (.long c')), .second, (.val (.long d1)), .second] [(.long c'), (.int (0 : Int32))])
      refine Owes.by (fun _ kq => XT.lconst X2.here hx rfl (hb hby d1_77) kq) ?_
      show Owes p e below s (QR Z a len s0 d c' h0 n0) ({ frames := 1, cells := 0, slots := 0, locals := 12 } : Room).cells ({ frames := 1, cells := 0, slots := 0, locals := 12 } : Room).slots T2 (mkF m 78 #[(.val (.ref a)), (.val (.long len)), .second, (.val (.long s0)), .second, (.val (.long d)), .second, (.val (.long c')), .second, (.val (.long d1)), .second] [(.long (0 : Int64)), (.long c'), (.int (0 : Int32))])
      refine Owes.by (fun _ kq => XT.lcmp X2.here hx rfl (hb hby d1_78) rfl kq) ?_
      show Owes p e below s (QR Z a len s0 d c' h0 n0) ({ frames := 1, cells := 0, slots := 0, locals := 12 } : Room).cells ({ frames := 1, cells := 0, slots := 0, locals := 12 } : Room).slots T2 (mkF m 79 #[(.val (.ref a)), (.val (.long len)), .second, (.val (.long s0)), .second, (.val (.long d)), .second, (.val (.long c')), .second, (.val (.long d1)), .second] [(.int (XT.cmpL c' (0 : Int64))), (.int (0 : Int32))])
      have hz : ¬ c' = 0 := fun h => q (k5.mpr h)
      refine Owes.by (fun _ kq => XS.ifYes X2.here hx rfl (pc0 := 79) (pc' := 86) rfl (hb hby d1_79) rfl (XT.ll_ne_t hz) (by decide) (by decide) kq) ?_
      show Owes p e below s (QR Z a len s0 d c' h0 n0) ({ frames := 1, cells := 0, slots := 0, locals := 12 } : Room).cells ({ frames := 1, cells := 0, slots := 0, locals := 12 } : Room).slots T2 (mkF m 86 #[(.val (.ref a)), (.val (.long len)), .second, (.val (.long s0)), .second, (.val (.long d)), .second, (.val (.long c')), .second, (.val (.long d1)), .second] [(.int (0 : Int32))])
      refine Owes.by (fun _ kq => XS.iconst X2.here hx rfl (hb hby d1_86) kq) ?_
      show Owes p e below s (QR Z a len s0 d c' h0 n0) ({ frames := 1, cells := 0, slots := 0, locals := 12 } : Room).cells ({ frames := 1, cells := 0, slots := 0, locals := 12 } : Room).slots T2 (mkF m 87 #[(.val (.ref a)), (.val (.long len)), .second, (.val (.long s0)), .second, (.val (.long d)), .second, (.val (.long c')), .second, (.val (.long d1)), .second] [(.int (0 : Int32)), (.int (0 : Int32))])
      refine Owes.by (fun _ kq => XS.icmpYes X2.here hx rfl (pc0 := 87) (pc' := 106) rfl (hb hby d1_87) rfl (XT.ii_eq_t (by decide)) (by decide) (by decide) kq) ?_
      show Owes p e below s (QR Z a len s0 d c' h0 n0) ({ frames := 1, cells := 0, slots := 0, locals := 12 } : Room).cells ({ frames := 1, cells := 0, slots := 0, locals := 12 } : Room).slots T2 (mkF m 106 #[(.val (.ref a)), (.val (.long len)), .second, (.val (.long s0)), .second, (.val (.long d)), .second, (.val (.long c')), .second, (.val (.long d1)), .second] [])
      refine Owes.by (fun _ kq => XT.lload X2.here hx rfl (hb hby d1_106) rfl kq) ?_
      show Owes p e below s (QR Z a len s0 d c' h0 n0) ({ frames := 1, cells := 0, slots := 0, locals := 12 } : Room).cells ({ frames := 1, cells := 0, slots := 0, locals := 12 } : Room).slots T2 (mkF m 108 #[(.val (.ref a)), (.val (.long len)), .second, (.val (.long s0)), .second, (.val (.long d)), .second, (.val (.long c')), .second, (.val (.long d1)), .second] [(.long c')])
      refine Owes.by (fun _ kq => XT.lconst X2.here hx rfl (hb hby d1_108) kq) ?_
      show Owes p e below s (QR Z a len s0 d c' h0 n0) ({ frames := 1, cells := 0, slots := 0, locals := 12 } : Room).cells ({ frames := 1, cells := 0, slots := 0, locals := 12 } : Room).slots T2 (mkF m 109 #[(.val (.ref a)), (.val (.long len)), .second, (.val (.long s0)), .second, (.val (.long d)), .second, (.val (.long c')), .second, (.val (.long d1)), .second] [(.long (0 : Int64)), (.long c')])
      refine Owes.by (fun _ kq => XT.lcmp X2.here hx rfl (hb hby d1_109) rfl kq) ?_
      show Owes p e below s (QR Z a len s0 d c' h0 n0) ({ frames := 1, cells := 0, slots := 0, locals := 12 } : Room).cells ({ frames := 1, cells := 0, slots := 0, locals := 12 } : Room).slots T2 (mkF m 110 #[(.val (.ref a)), (.val (.long len)), .second, (.val (.long s0)), .second, (.val (.long d)), .second, (.val (.long c')), .second, (.val (.long d1)), .second] [(.int (XT.cmpL c' (0 : Int64)))])
      have hp : (0 : Int64) < c' := own_pos hz k4
      refine Owes.by (fun _ kq => XS.ifNo X2.here hx rfl (hb hby d1_110) rfl (XT.ll_le_f hp) kq) ?_
      show Owes p e below s (QR Z a len s0 d c' h0 n0) ({ frames := 1, cells := 0, slots := 0, locals := 12 } : Room).cells ({ frames := 1, cells := 0, slots := 0, locals := 12 } : Room).slots T2 (mkF m 113 #[(.val (.ref a)), (.val (.long len)), .second, (.val (.long s0)), .second, (.val (.long d)), .second, (.val (.long c')), .second, (.val (.long d1)), .second] [])
      refine Owes.by (fun _ kq => XT.lloadN X2.here hx rfl (hb hby d1_113) rfl kq) ?_
      show Owes p e below s (QR Z a len s0 d c' h0 n0) ({ frames := 1, cells := 0, slots := 0, locals := 12 } : Room).cells ({ frames := 1, cells := 0, slots := 0, locals := 12 } : Room).slots T2 (mkF m 114 #[(.val (.ref a)), (.val (.long len)), .second, (.val (.long s0)), .second, (.val (.long d)), .second, (.val (.long c')), .second, (.val (.long d1)), .second] [(.long len)])
      refine Owes.by (fun _ kq => XT.lconst X2.here hx rfl (hb hby d1_114) kq) ?_
      show Owes p e below s (QR Z a len s0 d c' h0 n0) ({ frames := 1, cells := 0, slots := 0, locals := 12 } : Room).cells ({ frames := 1, cells := 0, slots := 0, locals := 12 } : Room).slots T2 (mkF m 115 #[(.val (.ref a)), (.val (.long len)), .second, (.val (.long s0)), .second, (.val (.long d)), .second, (.val (.long c')), .second, (.val (.long d1)), .second] [(.long (1 : Int64)), (.long len)])
      refine Owes.by (fun _ kq => XT.lsub X2.here hx rfl (hb hby d1_115) rfl kq) ?_
      show Owes p e below s (QR Z a len s0 d c' h0 n0) ({ frames := 1, cells := 0, slots := 0, locals := 12 } : Room).cells ({ frames := 1, cells := 0, slots := 0, locals := 12 } : Room).slots T2 (mkF m 116 #[(.val (.ref a)), (.val (.long len)), .second, (.val (.long s0)), .second, (.val (.long d)), .second, (.val (.long c')), .second, (.val (.long d1)), .second] [(.long (len - (1 : Int64)))])
      refine Owes.by (fun _ kq => XT.lloadN X2.here hx rfl (hb hby d1_116) rfl kq) ?_
      show Owes p e below s (QR Z a len s0 d c' h0 n0) ({ frames := 1, cells := 0, slots := 0, locals := 12 } : Room).cells ({ frames := 1, cells := 0, slots := 0, locals := 12 } : Room).slots T2 (mkF m 117 #[(.val (.ref a)), (.val (.long len)), .second, (.val (.long s0)), .second, (.val (.long d)), .second, (.val (.long c')), .second, (.val (.long d1)), .second] [(.long s0), (.long (len - (1 : Int64)))])
      refine Owes.by (fun _ kq => XT.lsub X2.here hx rfl (hb hby d1_117) rfl kq) ?_
      show Owes p e below s (QR Z a len s0 d c' h0 n0) ({ frames := 1, cells := 0, slots := 0, locals := 12 } : Room).cells ({ frames := 1, cells := 0, slots := 0, locals := 12 } : Room).slots T2 (mkF m 118 #[(.val (.ref a)), (.val (.long len)), .second, (.val (.long s0)), .second, (.val (.long d)), .second, (.val (.long c')), .second, (.val (.long d1)), .second] [(.long ((len - (1 : Int64)) - s0))])
      refine Owes.by (fun _ kq => XT.lload X2.here hx rfl (hb hby d1_118) rfl kq) ?_
      show Owes p e below s (QR Z a len s0 d c' h0 n0) ({ frames := 1, cells := 0, slots := 0, locals := 12 } : Room).cells ({ frames := 1, cells := 0, slots := 0, locals := 12 } : Room).slots T2 (mkF m 120 #[(.val (.ref a)), (.val (.long len)), .second, (.val (.long s0)), .second, (.val (.long d)), .second, (.val (.long c')), .second, (.val (.long d1)), .second] [(.long d1), (.long ((len - (1 : Int64)) - s0))])
      have hn : d1 ≠ 0 := own_nz hd1 k3
      refine Owes.by (fun _ kq => XT.ldiv X2.here hx rfl (hb hby d1_120) rfl hn kq) ?_
      show Owes p e below s (QR Z a len s0 d c' h0 n0) ({ frames := 1, cells := 0, slots := 0, locals := 12 } : Room).cells ({ frames := 1, cells := 0, slots := 0, locals := 12 } : Room).slots T2 (mkF m 121 #[(.val (.ref a)), (.val (.long len)), .second, (.val (.long s0)), .second, (.val (.long d)), .second, (.val (.long c')), .second, (.val (.long d1)), .second] [(.long (((len - (1 : Int64)) - s0) / d1))])
      refine Owes.by (fun _ kq => XT.lload X2.here hx rfl (hb hby d1_121) rfl kq) ?_
      show Owes p e below s (QR Z a len s0 d c' h0 n0) ({ frames := 1, cells := 0, slots := 0, locals := 12 } : Room).cells ({ frames := 1, cells := 0, slots := 0, locals := 12 } : Room).slots T2 (mkF m 123 #[(.val (.ref a)), (.val (.long len)), .second, (.val (.long s0)), .second, (.val (.long d)), .second, (.val (.long c')), .second, (.val (.long d1)), .second] [(.long c'), (.long (((len - (1 : Int64)) - s0) / d1))])
      refine Owes.by (fun _ kq => XT.lconst X2.here hx rfl (hb hby d1_123) kq) ?_
      show Owes p e below s (QR Z a len s0 d c' h0 n0) ({ frames := 1, cells := 0, slots := 0, locals := 12 } : Room).cells ({ frames := 1, cells := 0, slots := 0, locals := 12 } : Room).slots T2 (mkF m 124 #[(.val (.ref a)), (.val (.long len)), .second, (.val (.long s0)), .second, (.val (.long d)), .second, (.val (.long c')), .second, (.val (.long d1)), .second] [(.long (1 : Int64)), (.long c'), (.long (((len - (1 : Int64)) - s0) / d1))])
      refine Owes.by (fun _ kq => XT.lsub X2.here hx rfl (hb hby d1_124) rfl kq) ?_
      show Owes p e below s (QR Z a len s0 d c' h0 n0) ({ frames := 1, cells := 0, slots := 0, locals := 12 } : Room).cells ({ frames := 1, cells := 0, slots := 0, locals := 12 } : Room).slots T2 (mkF m 125 #[(.val (.ref a)), (.val (.long len)), .second, (.val (.long s0)), .second, (.val (.long d)), .second, (.val (.long c')), .second, (.val (.long d1)), .second] [(.long (c' - (1 : Int64))), (.long (((len - (1 : Int64)) - s0) / d1))])
      refine Owes.by (fun _ kq => XT.lcmp X2.here hx rfl (hb hby d1_125) rfl kq) ?_
      show Owes p e below s (QR Z a len s0 d c' h0 n0) ({ frames := 1, cells := 0, slots := 0, locals := 12 } : Room).cells ({ frames := 1, cells := 0, slots := 0, locals := 12 } : Room).slots T2 (mkF m 126 #[(.val (.ref a)), (.val (.long len)), .second, (.val (.long s0)), .second, (.val (.long d)), .second, (.val (.long c')), .second, (.val (.long d1)), .second] [(.int (XT.cmpL (((len - (1 : Int64)) - s0) / d1) (c' - (1 : Int64))))])
      have h6 := k6 hz
      rw [← hd1] at h6
      refine Owes.by (fun _ kq => XS.ifYes X2.here hx rfl (pc0 := 126) (pc' := 148) rfl (hb hby d1_126) rfl (XT.ll_ge_t h6) (by decide) (by decide) kq) ?_
      show Owes p e below s (QR Z a len s0 d c' h0 n0) ({ frames := 1, cells := 0, slots := 0, locals := 12 } : Room).cells ({ frames := 1, cells := 0, slots := 0, locals := 12 } : Room).slots T2 (mkF m 148 #[(.val (.ref a)), (.val (.long len)), .second, (.val (.long s0)), .second, (.val (.long d)), .second, (.val (.long c')), .second, (.val (.long d1)), .second] [])
      refine Owes.by (fun _ kq => XS.aloadN X2.here hx rfl (hb hby d1_148) rfl rfl kq) ?_
      show Owes p e below s (QR Z a len s0 d c' h0 n0) ({ frames := 1, cells := 0, slots := 0, locals := 12 } : Room).cells ({ frames := 1, cells := 0, slots := 0, locals := 12 } : Room).slots T2 (mkF m 149 #[(.val (.ref a)), (.val (.long len)), .second, (.val (.long s0)), .second, (.val (.long d)), .second, (.val (.long c')), .second, (.val (.long d1)), .second] [(.ref a)])
      refine Owes.by (fun _ kq => XT.lloadN X2.here hx rfl (hb hby d1_149) rfl kq) ?_
      show Owes p e below s (QR Z a len s0 d c' h0 n0) ({ frames := 1, cells := 0, slots := 0, locals := 12 } : Room).cells ({ frames := 1, cells := 0, slots := 0, locals := 12 } : Room).slots T2 (mkF m 150 #[(.val (.ref a)), (.val (.long len)), .second, (.val (.long s0)), .second, (.val (.long d)), .second, (.val (.long c')), .second, (.val (.long d1)), .second] [(.long len), (.ref a)])
      obtain ⟨T7, h7, X7, e7, W7, st7⟩ := putF X2 hx hZ hown (host := "") (Or.inl (hw _ (List.mem_of_getElem? (i := 12) rfl))) Via.refl e2 F0 E (Or.inr ⟨(hw _ (List.mem_of_getElem? (i := 13) rfl)), rfl, hnm⟩) (hw _ (List.mem_of_getElem? (i := 4) rfl)) (ty := .long) (by decide) rfl rfl (g := (mkF m 150 #[(.val (.ref a)), (.val (.long len)), .second, (.val (.long s0)), .second, (.val (.long d)), .second, (.val (.long c')), .second, (.val (.long d1)), .second] [(.long len), (.ref a)])) rfl rfl (hb hby d1_150)
      refine Owes.by st7 ?_
      show Owes p e below s (QR Z a len s0 d c' h0 n0) ({ frames := 1, cells := 0, slots := 0, locals := 12 } : Room).cells ({ frames := 1, cells := 0, slots := 0, locals := 12 } : Room).slots T7 (mkF m 153 #[(.val (.ref a)), (.val (.long len)), .second, (.val (.long s0)), .second, (.val (.long d)), .second, (.val (.long c')), .second, (.val (.long d1)), .second] [])
      have F7_length := F0.same W7
      have F7_start := F1.other W7 (Or.inr (slot_ne (Or.inr (hw _ (List.mem_of_getElem? (i := 15) rfl))) (Or.inr (hw _ (List.mem_of_getElem? (i := 13) rfl))) (by decide) (t := .long) (t' := .long) (by decide) (by decide)))
      have F7_stride := F2.other W7 (Or.inr (slot_ne (Or.inr (hw _ (List.mem_of_getElem? (i := 17) rfl))) (Or.inr (hw _ (List.mem_of_getElem? (i := 13) rfl))) (by decide) (t := .long) (t' := .long) (by decide) (by decide)))
      have F7_count := F3.other W7 (Or.inr (slot_ne (Or.inr (hw _ (List.mem_of_getElem? (i := 19) rfl))) (Or.inr (hw _ (List.mem_of_getElem? (i := 13) rfl))) (by decide) (t := .long) (t' := .long) (by decide) (by decide)))
      have E7 := E.wr W7
      have K7 := (Keep.refl h0 [a]).wr W7 (Or.inl (List.mem_of_getElem? (l := [a]) (i := 0) rfl))
      have N7 := Fr.snoc X7 N0 g
      refine Owes.by (fun _ kq => XS.aloadN X7.here hx rfl (hb hby d1_153) rfl rfl kq) ?_
      show Owes p e below s (QR Z a len s0 d c' h0 n0) ({ frames := 1, cells := 0, slots := 0, locals := 12 } : Room).cells ({ frames := 1, cells := 0, slots := 0, locals := 12 } : Room).slots T7 (mkF m 154 #[(.val (.ref a)), (.val (.long len)), .second, (.val (.long s0)), .second, (.val (.long d)), .second, (.val (.long c')), .second, (.val (.long d1)), .second] [(.ref a)])
      refine Owes.by (fun _ kq => XT.lload X7.here hx rfl (hb hby d1_154) rfl kq) ?_
      show Owes p e below s (QR Z a len s0 d c' h0 n0) ({ frames := 1, cells := 0, slots := 0, locals := 12 } : Room).cells ({ frames := 1, cells := 0, slots := 0, locals := 12 } : Room).slots T7 (mkF m 156 #[(.val (.ref a)), (.val (.long len)), .second, (.val (.long s0)), .second, (.val (.long d)), .second, (.val (.long c')), .second, (.val (.long d1)), .second] [(.long c'), (.ref a)])
      refine Owes.by (fun _ kq => XT.lconst X7.here hx rfl (hb hby d1_156) kq) ?_
      show Owes p e below s (QR Z a len s0 d c' h0 n0) ({ frames := 1, cells := 0, slots := 0, locals := 12 } : Room).cells ({ frames := 1, cells := 0, slots := 0, locals := 12 } : Room).slots T7 (mkF m 157 #[(.val (.ref a)), (.val (.long len)), .second, (.val (.long s0)), .second, (.val (.long d)), .second, (.val (.long c')), .second, (.val (.long d1)), .second] [(.long (0 : Int64)), (.long c'), (.ref a)])
      refine Owes.by (fun _ kq => XT.lcmp X7.here hx rfl (hb hby d1_157) rfl kq) ?_
      show Owes p e below s (QR Z a len s0 d c' h0 n0) ({ frames := 1, cells := 0, slots := 0, locals := 12 } : Room).cells ({ frames := 1, cells := 0, slots := 0, locals := 12 } : Room).slots T7 (mkF m 158 #[(.val (.ref a)), (.val (.long len)), .second, (.val (.long s0)), .second, (.val (.long d)), .second, (.val (.long c')), .second, (.val (.long d1)), .second] [(.int (XT.cmpL c' (0 : Int64))), (.ref a)])
      refine Owes.by (fun _ kq => XS.ifYes X7.here hx rfl (pc0 := 158) (pc' := 165) rfl (hb hby d1_158) rfl (XT.ll_ne_t hz) (by decide) (by decide) kq) ?_
      show Owes p e below s (QR Z a len s0 d c' h0 n0) ({ frames := 1, cells := 0, slots := 0, locals := 12 } : Room).cells ({ frames := 1, cells := 0, slots := 0, locals := 12 } : Room).slots T7 (mkF m 165 #[(.val (.ref a)), (.val (.long len)), .second, (.val (.long s0)), .second, (.val (.long d)), .second, (.val (.long c')), .second, (.val (.long d1)), .second] [(.ref a)])
      refine Owes.by (fun _ kq => XT.lloadN X7.here hx rfl (hb hby d1_165) rfl kq) ?_
      show Owes p e below s (QR Z a len s0 d c' h0 n0) ({ frames := 1, cells := 0, slots := 0, locals := 12 } : Room).cells ({ frames := 1, cells := 0, slots := 0, locals := 12 } : Room).slots T7 (mkF m 166 #[(.val (.ref a)), (.val (.long len)), .second, (.val (.long s0)), .second, (.val (.long d)), .second, (.val (.long c')), .second, (.val (.long d1)), .second] [(.long s0), (.ref a)])
      obtain ⟨T8, h8, X8, e8, W8, st8⟩ := putF X7 hx hZ hown (host := "") (Or.inl (hw _ (List.mem_of_getElem? (i := 14) rfl))) Via.refl e7 F7_start E7 (Or.inr ⟨(hw _ (List.mem_of_getElem? (i := 15) rfl)), rfl, hnm⟩) (hw _ (List.mem_of_getElem? (i := 4) rfl)) (ty := .long) (by decide) rfl rfl (g := (mkF m 166 #[(.val (.ref a)), (.val (.long len)), .second, (.val (.long s0)), .second, (.val (.long d)), .second, (.val (.long c')), .second, (.val (.long d1)), .second] [(.long s0), (.ref a)])) rfl rfl (hb hby d1_166)
      refine Owes.by st8 ?_
      show Owes p e below s (QR Z a len s0 d c' h0 n0) ({ frames := 1, cells := 0, slots := 0, locals := 12 } : Room).cells ({ frames := 1, cells := 0, slots := 0, locals := 12 } : Room).slots T8 (mkF m 169 #[(.val (.ref a)), (.val (.long len)), .second, (.val (.long s0)), .second, (.val (.long d)), .second, (.val (.long c')), .second, (.val (.long d1)), .second] [])
      have F8_length := F7_length.other W8 (Or.inr (slot_ne (Or.inr (hw _ (List.mem_of_getElem? (i := 13) rfl))) (Or.inr (hw _ (List.mem_of_getElem? (i := 15) rfl))) (by decide) (t := .long) (t' := .long) (by decide) (by decide)))
      have F8_start := F7_start.same W8
      have F8_stride := F7_stride.other W8 (Or.inr (slot_ne (Or.inr (hw _ (List.mem_of_getElem? (i := 17) rfl))) (Or.inr (hw _ (List.mem_of_getElem? (i := 15) rfl))) (by decide) (t := .long) (t' := .long) (by decide) (by decide)))
      have F8_count := F7_count.other W8 (Or.inr (slot_ne (Or.inr (hw _ (List.mem_of_getElem? (i := 19) rfl))) (Or.inr (hw _ (List.mem_of_getElem? (i := 15) rfl))) (by decide) (t := .long) (t' := .long) (by decide) (by decide)))
      have E8 := E7.wr W8
      have K8 := K7.wr W8 (Or.inl (List.mem_of_getElem? (l := [a]) (i := 0) rfl))
      have N8 := Fr.snoc X8 N7 g
      refine Owes.by (fun _ kq => XS.aloadN X8.here hx rfl (hb hby d1_169) rfl rfl kq) ?_
      show Owes p e below s (QR Z a len s0 d c' h0 n0) ({ frames := 1, cells := 0, slots := 0, locals := 12 } : Room).cells ({ frames := 1, cells := 0, slots := 0, locals := 12 } : Room).slots T8 (mkF m 170 #[(.val (.ref a)), (.val (.long len)), .second, (.val (.long s0)), .second, (.val (.long d)), .second, (.val (.long c')), .second, (.val (.long d1)), .second] [(.ref a)])
      refine Owes.by (fun _ kq => XT.lload X8.here hx rfl (hb hby d1_170) rfl kq) ?_
      show Owes p e below s (QR Z a len s0 d c' h0 n0) ({ frames := 1, cells := 0, slots := 0, locals := 12 } : Room).cells ({ frames := 1, cells := 0, slots := 0, locals := 12 } : Room).slots T8 (mkF m 172 #[(.val (.ref a)), (.val (.long len)), .second, (.val (.long s0)), .second, (.val (.long d)), .second, (.val (.long c')), .second, (.val (.long d1)), .second] [(.long d1), (.ref a)])
      obtain ⟨T9, h9, X9, e9, W9, st9⟩ := putF X8 hx hZ hown (host := "") (Or.inl (hw _ (List.mem_of_getElem? (i := 16) rfl))) Via.refl e8 F8_stride E8 (Or.inr ⟨(hw _ (List.mem_of_getElem? (i := 17) rfl)), rfl, hnm⟩) (hw _ (List.mem_of_getElem? (i := 4) rfl)) (ty := .long) (by decide) rfl rfl (g := (mkF m 172 #[(.val (.ref a)), (.val (.long len)), .second, (.val (.long s0)), .second, (.val (.long d)), .second, (.val (.long c')), .second, (.val (.long d1)), .second] [(.long d1), (.ref a)])) rfl rfl (hb hby d1_172)
      refine Owes.by st9 ?_
      show Owes p e below s (QR Z a len s0 d c' h0 n0) ({ frames := 1, cells := 0, slots := 0, locals := 12 } : Room).cells ({ frames := 1, cells := 0, slots := 0, locals := 12 } : Room).slots T9 (mkF m 175 #[(.val (.ref a)), (.val (.long len)), .second, (.val (.long s0)), .second, (.val (.long d)), .second, (.val (.long c')), .second, (.val (.long d1)), .second] [])
      have F9_length := F8_length.other W9 (Or.inr (slot_ne (Or.inr (hw _ (List.mem_of_getElem? (i := 13) rfl))) (Or.inr (hw _ (List.mem_of_getElem? (i := 17) rfl))) (by decide) (t := .long) (t' := .long) (by decide) (by decide)))
      have F9_start := F8_start.other W9 (Or.inr (slot_ne (Or.inr (hw _ (List.mem_of_getElem? (i := 15) rfl))) (Or.inr (hw _ (List.mem_of_getElem? (i := 17) rfl))) (by decide) (t := .long) (t' := .long) (by decide) (by decide)))
      have F9_stride := F8_stride.same W9
      have F9_count := F8_count.other W9 (Or.inr (slot_ne (Or.inr (hw _ (List.mem_of_getElem? (i := 19) rfl))) (Or.inr (hw _ (List.mem_of_getElem? (i := 17) rfl))) (by decide) (t := .long) (t' := .long) (by decide) (by decide)))
      have E9 := E8.wr W9
      have K9 := K8.wr W9 (Or.inl (List.mem_of_getElem? (l := [a]) (i := 0) rfl))
      have N9 := Fr.snoc X9 N8 g
      refine Owes.by (fun _ kq => XS.aloadN X9.here hx rfl (hb hby d1_175) rfl rfl kq) ?_
      show Owes p e below s (QR Z a len s0 d c' h0 n0) ({ frames := 1, cells := 0, slots := 0, locals := 12 } : Room).cells ({ frames := 1, cells := 0, slots := 0, locals := 12 } : Room).slots T9 (mkF m 176 #[(.val (.ref a)), (.val (.long len)), .second, (.val (.long s0)), .second, (.val (.long d)), .second, (.val (.long c')), .second, (.val (.long d1)), .second] [(.ref a)])
      refine Owes.by (fun _ kq => XT.lload X9.here hx rfl (hb hby d1_176) rfl kq) ?_
      show Owes p e below s (QR Z a len s0 d c' h0 n0) ({ frames := 1, cells := 0, slots := 0, locals := 12 } : Room).cells ({ frames := 1, cells := 0, slots := 0, locals := 12 } : Room).slots T9 (mkF m 178 #[(.val (.ref a)), (.val (.long len)), .second, (.val (.long s0)), .second, (.val (.long d)), .second, (.val (.long c')), .second, (.val (.long d1)), .second] [(.long c'), (.ref a)])
      obtain ⟨T10, h10, X10, e10, W10, st10⟩ := putF X9 hx hZ hown (host := "") (Or.inl (hw _ (List.mem_of_getElem? (i := 18) rfl))) Via.refl e9 F9_count E9 (Or.inr ⟨(hw _ (List.mem_of_getElem? (i := 19) rfl)), rfl, hnm⟩) (hw _ (List.mem_of_getElem? (i := 4) rfl)) (ty := .long) (by decide) rfl rfl (g := (mkF m 178 #[(.val (.ref a)), (.val (.long len)), .second, (.val (.long s0)), .second, (.val (.long d)), .second, (.val (.long c')), .second, (.val (.long d1)), .second] [(.long c'), (.ref a)])) rfl rfl (hb hby d1_178)
      refine Owes.by st10 ?_
      show Owes p e below s (QR Z a len s0 d c' h0 n0) ({ frames := 1, cells := 0, slots := 0, locals := 12 } : Room).cells ({ frames := 1, cells := 0, slots := 0, locals := 12 } : Room).slots T10 (mkF m 181 #[(.val (.ref a)), (.val (.long len)), .second, (.val (.long s0)), .second, (.val (.long d)), .second, (.val (.long c')), .second, (.val (.long d1)), .second] [])
      have F10_length := F9_length.other W10 (Or.inr (slot_ne (Or.inr (hw _ (List.mem_of_getElem? (i := 13) rfl))) (Or.inr (hw _ (List.mem_of_getElem? (i := 19) rfl))) (by decide) (t := .long) (t' := .long) (by decide) (by decide)))
      have F10_start := F9_start.other W10 (Or.inr (slot_ne (Or.inr (hw _ (List.mem_of_getElem? (i := 15) rfl))) (Or.inr (hw _ (List.mem_of_getElem? (i := 19) rfl))) (by decide) (t := .long) (t' := .long) (by decide) (by decide)))
      have F10_stride := F9_stride.other W10 (Or.inr (slot_ne (Or.inr (hw _ (List.mem_of_getElem? (i := 17) rfl))) (Or.inr (hw _ (List.mem_of_getElem? (i := 19) rfl))) (by decide) (t := .long) (t' := .long) (by decide) (by decide)))
      have F10_count := F9_count.same W10
      have E10 := E9.wr W10
      have K10 := K9.wr W10 (Or.inl (List.mem_of_getElem? (l := [a]) (i := 0) rfl))
      have N10 := Fr.snoc X10 N9 g
      refine Owes.ret X10 (v := none) (fun _ => rfl) hlk ?_ (by decide) (by decide) (fun fs hr => X10.returnOut hx Bd.returns (hb hby d1_181) hr)
      rw [e10]
      exact ⟨rfl, N10, K10, E10, F10_length, (by rw [if_neg hz]; exact F10_start), (by rw [← hd1]; exact F10_stride), F10_count⟩
  by_cases q0 : (1 : Int64) < c'
  · skip
    refine Owes.by (fun _ kq => XS.ifYes X1.here hx rfl (pc0 := 8) (pc' := 15) rfl (hb hby d1_8) rfl (XT.ll_gt_t q0) (by decide) (by decide) kq) ?_
    show Owes p e below s (QR Z a len s0 d c' h0 n0) ({ frames := 1, cells := 0, slots := 0, locals := 12 } : Room).cells ({ frames := 1, cells := 0, slots := 0, locals := 12 } : Room).slots T1 (mkF m 15 #[(.val (.ref a)), (.val (.long len)), .second, (.val (.long s0)), .second, (.val (.long d)), .second, (.val (.long c')), .second, .unset, .unset] [])
    refine Owes.by (fun _ kq => XT.lload X1.here hx rfl (hb hby d1_15) rfl kq) ?_
    show Owes p e below s (QR Z a len s0 d c' h0 n0) ({ frames := 1, cells := 0, slots := 0, locals := 12 } : Room).cells ({ frames := 1, cells := 0, slots := 0, locals := 12 } : Room).slots T1 (mkF m 17 #[(.val (.ref a)), (.val (.long len)), .second, (.val (.long s0)), .second, (.val (.long d)), .second, (.val (.long c')), .second, .unset, .unset] [(.long d)])
    exact J2 T1 X1 e1 d (by rw [if_pos q0])
  · skip
    refine Owes.by (fun _ kq => XS.ifNo X1.here hx rfl (hb hby d1_8) rfl (XT.ll_gt_f q0) kq) ?_
    show Owes p e below s (QR Z a len s0 d c' h0 n0) ({ frames := 1, cells := 0, slots := 0, locals := 12 } : Room).cells ({ frames := 1, cells := 0, slots := 0, locals := 12 } : Room).slots T1 (mkF m 11 #[(.val (.ref a)), (.val (.long len)), .second, (.val (.long s0)), .second, (.val (.long d)), .second, (.val (.long c')), .second, .unset, .unset] [])
    refine Owes.by (fun _ kq => XT.lconst X1.here hx rfl (hb hby d1_11) kq) ?_
    show Owes p e below s (QR Z a len s0 d c' h0 n0) ({ frames := 1, cells := 0, slots := 0, locals := 12 } : Room).cells ({ frames := 1, cells := 0, slots := 0, locals := 12 } : Room).slots T1 (mkF m 12 #[(.val (.ref a)), (.val (.long len)), .second, (.val (.long s0)), .second, (.val (.long d)), .second, (.val (.long c')), .second, .unset, .unset] [(.long (1 : Int64))])
    refine Owes.by (fun _ kq => XS.goto X1.here hx rfl (pc0 := 12) (pc' := 17) rfl (hb hby d1_12) (by decide) (by decide) kq) ?_
    show Owes p e below s (QR Z a len s0 d c' h0 n0) ({ frames := 1, cells := 0, slots := 0, locals := 12 } : Room).cells ({ frames := 1, cells := 0, slots := 0, locals := 12 } : Room).slots T1 (mkF m 17 #[(.val (.ref a)), (.val (.long len)), .second, (.val (.long s0)), .second, (.val (.long d)), .second, (.val (.long c')), .second, .unset, .unset] [(.long (1 : Int64))])
    exact J2 T1 X1 e1 (1 : Int64) (by rw [if_neg q0])
theorem ef_rmE (m : MethodId) (x0 : Addr) (x1 : Addr) : entryFrame m #[(.ref x0), (.ref x1)] 3 = mkF m 0 #[(.val (.ref x0)), (.val (.ref x1)), .unset] [] := by first | (simp [entryFrame, mkF, argsToLocals, Value.category]; done) | rfl
set_option maxRecDepth 65536 in
set_option maxHeartbeats 40000000 in
theorem rmE (l : Launch) (Z : State) (a0 : Array Value) (hw : ∀ d ∈ tables_1, d.before a0 Z = true) (ws : List Jvm.Cond) (a b : Addr) (la sa da ca lb sb db cb : Int64) (r : Int32) (h0 : Heap) (n0 : Nat) (Z0 : n0 ≤ h0.size) (E : Exa Z h0 b "com/example/chunkmark/chunkmark/dataset/Range") (F0 : Fld Z h0 a "com/example/chunkmark/chunkmark/dataset/Range" "length" "J" (.long la)) (F1 : Fld Z h0 a "com/example/chunkmark/chunkmark/dataset/Range" "start" "J" (.long sa)) (F2 : Fld Z h0 a "com/example/chunkmark/chunkmark/dataset/Range" "stride" "J" (.long da)) (F3 : Fld Z h0 a "com/example/chunkmark/chunkmark/dataset/Range" "count" "J" (.long ca)) (G0 : Fld Z h0 b "com/example/chunkmark/chunkmark/dataset/Range" "length" "J" (.long lb)) (G1 : Fld Z h0 b "com/example/chunkmark/chunkmark/dataset/Range" "start" "J" (.long sb)) (G2 : Fld Z h0 b "com/example/chunkmark/chunkmark/dataset/Range" "stride" "J" (.long db)) (G3 : Fld Z h0 b "com/example/chunkmark/chunkmark/dataset/Range" "count" "J" (.long cb)) (hr : (if la = lb ∧ sa = sb ∧ da = db ∧ ca = cb then (1 : Int32) else 0) = r) :
    MetFree l (⟨"com/example/chunkmark/chunkmark/dataset/Range", "equals", "(Ljava/lang/Object;)Z"⟩ : MethodName) (head1 (Jvm.Cond.code (⟨"com/example/chunkmark/chunkmark/dataset/Range", "equals", "(Ljava/lang/Object;)Z"⟩ : MethodName) prog_52_method_11_code 3 (some .boolean) :: ws) ({ frames := 0, cells := 0, slots := 0, locals := 0 } : Room)) (fun aa UU => aa = #[(.ref a), (.ref b)] ∧ Z.Warmed39 UU.vm ∧ UU.heap = h0) (fun _ _ _ _ _ => True) (fun _ UU oo UU' => ∃ vr Lr, oo = .returned vr ∧ (Qv (some (.int r)) h0 n0) vr UU'.heap Lr ∧ FrameEnd UU oo UU' Lr ({ frames := 0, cells := 0, slots := 0, locals := 0 } : Room).cells ({ frames := 0, cells := 0, slots := 0, locals := 0 } : Room).slots) := by
  refine MetFree.of_bodySF (plainFor_of_name pn_Range) hisR ?_
  intro p e s m args below meth c s₁ Bd hml0 hP hK
  obtain ⟨rfl, hZ, hh⟩ := hP
  have hx := Bd.exec
  have hby := Bd.bytes
  have hml : c.maxLocals = 3 := hml0
  have hown : s.vm.findClass "com/example/chunkmark/chunkmark/dataset/Range" = some m.cls := findClass_of_methodNamed Bd.named
  have hnm := (name_of_methodNamed Bd.named Bd.method).1
  have hlk := Bd.notSynchronized
  have X0 : Stand p l e ({ frames := 0, cells := 0, slots := 0, locals := 0 } : Room) s m #[(.ref a), (.ref b)] below meth c s₁ [] 0 0 := Stand.of_body Bd
  have e0 : s₁.heap = h0 := by rw [← hh, Bd.state]; rfl
  have N0 := Fr.nil n0
  show Owes p e below s (Qv (some (.int r)) h0 n0) ({ frames := 0, cells := 0, slots := 0, locals := 0 } : Room).cells ({ frames := 0, cells := 0, slots := 0, locals := 0 } : Room).slots s₁ (entryFrame m #[(.ref a), (.ref b)] 3)
  rw [ef_rmE m a b]
  show Owes p e below s (Qv (some (.int r)) h0 n0) ({ frames := 0, cells := 0, slots := 0, locals := 0 } : Room).cells ({ frames := 0, cells := 0, slots := 0, locals := 0 } : Room).slots s₁ (mkF m 0 #[(.val (.ref a)), (.val (.ref b)), .unset] [])
  refine Owes.by (fun _ kq => XS.aloadN X0.here hx rfl (hb hby d3_0) rfl rfl kq) ?_
  show Owes p e below s (Qv (some (.int r)) h0 n0) ({ frames := 0, cells := 0, slots := 0, locals := 0 } : Room).cells ({ frames := 0, cells := 0, slots := 0, locals := 0 } : Room).slots s₁ (mkF m 1 #[(.val (.ref a)), (.val (.ref b)), .unset] [(.ref b)])
  obtain ⟨T1, X1, e1, st1⟩ := instY X0 hx hZ hown (hw _ (List.mem_of_getElem? (i := 25) rfl)) e0 (Ins.self E) (g := (mkF m 1 #[(.val (.ref a)), (.val (.ref b)), .unset] [(.ref b)])) rfl rfl (hb hby d3_1)
  refine Owes.by st1 ?_
  show Owes p e below s (Qv (some (.int r)) h0 n0) ({ frames := 0, cells := 0, slots := 0, locals := 0 } : Room).cells ({ frames := 0, cells := 0, slots := 0, locals := 0 } : Room).slots T1 (mkF m 4 #[(.val (.ref a)), (.val (.ref b)), .unset] [(.int (1 : Int32))])
  refine Owes.by (fun _ kq => XS.ifNo X1.here hx rfl (hb hby d3_4) rfl (XT.i0_eq_f (by decide)) kq) ?_
  show Owes p e below s (Qv (some (.int r)) h0 n0) ({ frames := 0, cells := 0, slots := 0, locals := 0 } : Room).cells ({ frames := 0, cells := 0, slots := 0, locals := 0 } : Room).slots T1 (mkF m 7 #[(.val (.ref a)), (.val (.ref b)), .unset] [])
  refine Owes.by (fun _ kq => XS.aloadN X1.here hx rfl (hb hby d3_7) rfl rfl kq) ?_
  show Owes p e below s (Qv (some (.int r)) h0 n0) ({ frames := 0, cells := 0, slots := 0, locals := 0 } : Room).cells ({ frames := 0, cells := 0, slots := 0, locals := 0 } : Room).slots T1 (mkF m 8 #[(.val (.ref a)), (.val (.ref b)), .unset] [(.ref b)])
  obtain ⟨T2, X2, e2, st2⟩ := castY X1 hx hZ hown (hw _ (List.mem_of_getElem? (i := 25) rfl)) e1 (Ins.self E) (g := (mkF m 8 #[(.val (.ref a)), (.val (.ref b)), .unset] [(.ref b)])) rfl rfl (hb hby d3_8)
  refine Owes.by st2 ?_
  show Owes p e below s (Qv (some (.int r)) h0 n0) ({ frames := 0, cells := 0, slots := 0, locals := 0 } : Room).cells ({ frames := 0, cells := 0, slots := 0, locals := 0 } : Room).slots T2 (mkF m 11 #[(.val (.ref a)), (.val (.ref b)), .unset] [(.ref b)])
  refine Owes.by (fun _ kq => XS.astoreN X2.here hx rfl (hb hby d3_11) rfl rfl (l' := #[(.val (.ref a)), (.val (.ref b)), (.val (.ref b))]) rfl kq) ?_
  show Owes p e below s (Qv (some (.int r)) h0 n0) ({ frames := 0, cells := 0, slots := 0, locals := 0 } : Room).cells ({ frames := 0, cells := 0, slots := 0, locals := 0 } : Room).slots T2 (mkF m 12 #[(.val (.ref a)), (.val (.ref b)), (.val (.ref b))] [])
  refine Owes.by (fun _ kq => XS.aloadN X2.here hx rfl (hb hby d3_12) rfl rfl kq) ?_
  show Owes p e below s (Qv (some (.int r)) h0 n0) ({ frames := 0, cells := 0, slots := 0, locals := 0 } : Room).cells ({ frames := 0, cells := 0, slots := 0, locals := 0 } : Room).slots T2 (mkF m 13 #[(.val (.ref a)), (.val (.ref b)), (.val (.ref b))] [(.ref a)])
  obtain ⟨T3, X3, e3, st3⟩ := getF X2 hx hZ hown (host := "") (Or.inl (hw _ (List.mem_of_getElem? (i := 12) rfl))) Via.refl e2 F0 (g := (mkF m 13 #[(.val (.ref a)), (.val (.ref b)), (.val (.ref b))] [(.ref a)])) rfl rfl (hb hby d3_13)
  refine Owes.by st3 ?_
  show Owes p e below s (Qv (some (.int r)) h0 n0) ({ frames := 0, cells := 0, slots := 0, locals := 0 } : Room).cells ({ frames := 0, cells := 0, slots := 0, locals := 0 } : Room).slots T3 (mkF m 16 #[(.val (.ref a)), (.val (.ref b)), (.val (.ref b))] [(.long la)])
  refine Owes.by (fun _ kq => XS.aloadN X3.here hx rfl (hb hby d3_16) rfl rfl kq) ?_
  show Owes p e below s (Qv (some (.int r)) h0 n0) ({ frames := 0, cells := 0, slots := 0, locals := 0 } : Room).cells ({ frames := 0, cells := 0, slots := 0, locals := 0 } : Room).slots T3 (mkF m 17 #[(.val (.ref a)), (.val (.ref b)), (.val (.ref b))] [(.ref b), (.long la)])
  obtain ⟨T4, X4, e4, st4⟩ := getF X3 hx hZ hown (host := "") (Or.inl (hw _ (List.mem_of_getElem? (i := 12) rfl))) Via.refl e3 G0 (g := (mkF m 17 #[(.val (.ref a)), (.val (.ref b)), (.val (.ref b))] [(.ref b), (.long la)])) rfl rfl (hb hby d3_17)
  refine Owes.by st4 ?_
  show Owes p e below s (Qv (some (.int r)) h0 n0) ({ frames := 0, cells := 0, slots := 0, locals := 0 } : Room).cells ({ frames := 0, cells := 0, slots := 0, locals := 0 } : Room).slots T4 (mkF m 20 #[(.val (.ref a)), (.val (.ref b)), (.val (.ref b))] [(.long lb), (.long la)])
  refine Owes.by (fun _ kq => XT.lcmp X4.here hx rfl (hb hby d3_20) rfl kq) ?_
  show Owes p e below s (Qv (some (.int r)) h0 n0) ({ frames := 0, cells := 0, slots := 0, locals := 0 } : Room).cells ({ frames := 0, cells := 0, slots := 0, locals := 0 } : Room).slots T4 (mkF m 21 #[(.val (.ref a)), (.val (.ref b)), (.val (.ref b))] [(.int (XT.cmpL la lb))])
  by_cases q0 : la = lb
  · skip
    refine Owes.by (fun _ kq => XS.ifNo X4.here hx rfl (hb hby d3_21) rfl (XT.ll_ne_f q0) kq) ?_
    show Owes p e below s (Qv (some (.int r)) h0 n0) ({ frames := 0, cells := 0, slots := 0, locals := 0 } : Room).cells ({ frames := 0, cells := 0, slots := 0, locals := 0 } : Room).slots T4 (mkF m 24 #[(.val (.ref a)), (.val (.ref b)), (.val (.ref b))] [])
    refine Owes.by (fun _ kq => XS.aloadN X4.here hx rfl (hb hby d3_24) rfl rfl kq) ?_
    show Owes p e below s (Qv (some (.int r)) h0 n0) ({ frames := 0, cells := 0, slots := 0, locals := 0 } : Room).cells ({ frames := 0, cells := 0, slots := 0, locals := 0 } : Room).slots T4 (mkF m 25 #[(.val (.ref a)), (.val (.ref b)), (.val (.ref b))] [(.ref a)])
    obtain ⟨T5, X5, e5, st5⟩ := getF X4 hx hZ hown (host := "") (Or.inl (hw _ (List.mem_of_getElem? (i := 14) rfl))) Via.refl e4 F1 (g := (mkF m 25 #[(.val (.ref a)), (.val (.ref b)), (.val (.ref b))] [(.ref a)])) rfl rfl (hb hby d3_25)
    refine Owes.by st5 ?_
    show Owes p e below s (Qv (some (.int r)) h0 n0) ({ frames := 0, cells := 0, slots := 0, locals := 0 } : Room).cells ({ frames := 0, cells := 0, slots := 0, locals := 0 } : Room).slots T5 (mkF m 28 #[(.val (.ref a)), (.val (.ref b)), (.val (.ref b))] [(.long sa)])
    refine Owes.by (fun _ kq => XS.aloadN X5.here hx rfl (hb hby d3_28) rfl rfl kq) ?_
    show Owes p e below s (Qv (some (.int r)) h0 n0) ({ frames := 0, cells := 0, slots := 0, locals := 0 } : Room).cells ({ frames := 0, cells := 0, slots := 0, locals := 0 } : Room).slots T5 (mkF m 29 #[(.val (.ref a)), (.val (.ref b)), (.val (.ref b))] [(.ref b), (.long sa)])
    obtain ⟨T6, X6, e6, st6⟩ := getF X5 hx hZ hown (host := "") (Or.inl (hw _ (List.mem_of_getElem? (i := 14) rfl))) Via.refl e5 G1 (g := (mkF m 29 #[(.val (.ref a)), (.val (.ref b)), (.val (.ref b))] [(.ref b), (.long sa)])) rfl rfl (hb hby d3_29)
    refine Owes.by st6 ?_
    show Owes p e below s (Qv (some (.int r)) h0 n0) ({ frames := 0, cells := 0, slots := 0, locals := 0 } : Room).cells ({ frames := 0, cells := 0, slots := 0, locals := 0 } : Room).slots T6 (mkF m 32 #[(.val (.ref a)), (.val (.ref b)), (.val (.ref b))] [(.long sb), (.long sa)])
    refine Owes.by (fun _ kq => XT.lcmp X6.here hx rfl (hb hby d3_32) rfl kq) ?_
    show Owes p e below s (Qv (some (.int r)) h0 n0) ({ frames := 0, cells := 0, slots := 0, locals := 0 } : Room).cells ({ frames := 0, cells := 0, slots := 0, locals := 0 } : Room).slots T6 (mkF m 33 #[(.val (.ref a)), (.val (.ref b)), (.val (.ref b))] [(.int (XT.cmpL sa sb))])
    by_cases q1 : sa = sb
    · skip
      refine Owes.by (fun _ kq => XS.ifNo X6.here hx rfl (hb hby d3_33) rfl (XT.ll_ne_f q1) kq) ?_
      show Owes p e below s (Qv (some (.int r)) h0 n0) ({ frames := 0, cells := 0, slots := 0, locals := 0 } : Room).cells ({ frames := 0, cells := 0, slots := 0, locals := 0 } : Room).slots T6 (mkF m 36 #[(.val (.ref a)), (.val (.ref b)), (.val (.ref b))] [])
      refine Owes.by (fun _ kq => XS.aloadN X6.here hx rfl (hb hby d3_36) rfl rfl kq) ?_
      show Owes p e below s (Qv (some (.int r)) h0 n0) ({ frames := 0, cells := 0, slots := 0, locals := 0 } : Room).cells ({ frames := 0, cells := 0, slots := 0, locals := 0 } : Room).slots T6 (mkF m 37 #[(.val (.ref a)), (.val (.ref b)), (.val (.ref b))] [(.ref a)])
      obtain ⟨T7, X7, e7, st7⟩ := getF X6 hx hZ hown (host := "") (Or.inl (hw _ (List.mem_of_getElem? (i := 16) rfl))) Via.refl e6 F2 (g := (mkF m 37 #[(.val (.ref a)), (.val (.ref b)), (.val (.ref b))] [(.ref a)])) rfl rfl (hb hby d3_37)
      refine Owes.by st7 ?_
      show Owes p e below s (Qv (some (.int r)) h0 n0) ({ frames := 0, cells := 0, slots := 0, locals := 0 } : Room).cells ({ frames := 0, cells := 0, slots := 0, locals := 0 } : Room).slots T7 (mkF m 40 #[(.val (.ref a)), (.val (.ref b)), (.val (.ref b))] [(.long da)])
      refine Owes.by (fun _ kq => XS.aloadN X7.here hx rfl (hb hby d3_40) rfl rfl kq) ?_
      show Owes p e below s (Qv (some (.int r)) h0 n0) ({ frames := 0, cells := 0, slots := 0, locals := 0 } : Room).cells ({ frames := 0, cells := 0, slots := 0, locals := 0 } : Room).slots T7 (mkF m 41 #[(.val (.ref a)), (.val (.ref b)), (.val (.ref b))] [(.ref b), (.long da)])
      obtain ⟨T8, X8, e8, st8⟩ := getF X7 hx hZ hown (host := "") (Or.inl (hw _ (List.mem_of_getElem? (i := 16) rfl))) Via.refl e7 G2 (g := (mkF m 41 #[(.val (.ref a)), (.val (.ref b)), (.val (.ref b))] [(.ref b), (.long da)])) rfl rfl (hb hby d3_41)
      refine Owes.by st8 ?_
      show Owes p e below s (Qv (some (.int r)) h0 n0) ({ frames := 0, cells := 0, slots := 0, locals := 0 } : Room).cells ({ frames := 0, cells := 0, slots := 0, locals := 0 } : Room).slots T8 (mkF m 44 #[(.val (.ref a)), (.val (.ref b)), (.val (.ref b))] [(.long db), (.long da)])
      refine Owes.by (fun _ kq => XT.lcmp X8.here hx rfl (hb hby d3_44) rfl kq) ?_
      show Owes p e below s (Qv (some (.int r)) h0 n0) ({ frames := 0, cells := 0, slots := 0, locals := 0 } : Room).cells ({ frames := 0, cells := 0, slots := 0, locals := 0 } : Room).slots T8 (mkF m 45 #[(.val (.ref a)), (.val (.ref b)), (.val (.ref b))] [(.int (XT.cmpL da db))])
      by_cases q2 : da = db
      · skip
        refine Owes.by (fun _ kq => XS.ifNo X8.here hx rfl (hb hby d3_45) rfl (XT.ll_ne_f q2) kq) ?_
        show Owes p e below s (Qv (some (.int r)) h0 n0) ({ frames := 0, cells := 0, slots := 0, locals := 0 } : Room).cells ({ frames := 0, cells := 0, slots := 0, locals := 0 } : Room).slots T8 (mkF m 48 #[(.val (.ref a)), (.val (.ref b)), (.val (.ref b))] [])
        refine Owes.by (fun _ kq => XS.aloadN X8.here hx rfl (hb hby d3_48) rfl rfl kq) ?_
        show Owes p e below s (Qv (some (.int r)) h0 n0) ({ frames := 0, cells := 0, slots := 0, locals := 0 } : Room).cells ({ frames := 0, cells := 0, slots := 0, locals := 0 } : Room).slots T8 (mkF m 49 #[(.val (.ref a)), (.val (.ref b)), (.val (.ref b))] [(.ref a)])
        obtain ⟨T9, X9, e9, st9⟩ := getF X8 hx hZ hown (host := "") (Or.inl (hw _ (List.mem_of_getElem? (i := 18) rfl))) Via.refl e8 F3 (g := (mkF m 49 #[(.val (.ref a)), (.val (.ref b)), (.val (.ref b))] [(.ref a)])) rfl rfl (hb hby d3_49)
        refine Owes.by st9 ?_
        show Owes p e below s (Qv (some (.int r)) h0 n0) ({ frames := 0, cells := 0, slots := 0, locals := 0 } : Room).cells ({ frames := 0, cells := 0, slots := 0, locals := 0 } : Room).slots T9 (mkF m 52 #[(.val (.ref a)), (.val (.ref b)), (.val (.ref b))] [(.long ca)])
        refine Owes.by (fun _ kq => XS.aloadN X9.here hx rfl (hb hby d3_52) rfl rfl kq) ?_
        show Owes p e below s (Qv (some (.int r)) h0 n0) ({ frames := 0, cells := 0, slots := 0, locals := 0 } : Room).cells ({ frames := 0, cells := 0, slots := 0, locals := 0 } : Room).slots T9 (mkF m 53 #[(.val (.ref a)), (.val (.ref b)), (.val (.ref b))] [(.ref b), (.long ca)])
        obtain ⟨T10, X10, e10, st10⟩ := getF X9 hx hZ hown (host := "") (Or.inl (hw _ (List.mem_of_getElem? (i := 18) rfl))) Via.refl e9 G3 (g := (mkF m 53 #[(.val (.ref a)), (.val (.ref b)), (.val (.ref b))] [(.ref b), (.long ca)])) rfl rfl (hb hby d3_53)
        refine Owes.by st10 ?_
        show Owes p e below s (Qv (some (.int r)) h0 n0) ({ frames := 0, cells := 0, slots := 0, locals := 0 } : Room).cells ({ frames := 0, cells := 0, slots := 0, locals := 0 } : Room).slots T10 (mkF m 56 #[(.val (.ref a)), (.val (.ref b)), (.val (.ref b))] [(.long cb), (.long ca)])
        refine Owes.by (fun _ kq => XT.lcmp X10.here hx rfl (hb hby d3_56) rfl kq) ?_
        show Owes p e below s (Qv (some (.int r)) h0 n0) ({ frames := 0, cells := 0, slots := 0, locals := 0 } : Room).cells ({ frames := 0, cells := 0, slots := 0, locals := 0 } : Room).slots T10 (mkF m 57 #[(.val (.ref a)), (.val (.ref b)), (.val (.ref b))] [(.int (XT.cmpL ca cb))])
        by_cases q3 : ca = cb
        · skip
          refine Owes.by (fun _ kq => XS.ifNo X10.here hx rfl (hb hby d3_57) rfl (XT.ll_ne_f q3) kq) ?_
          show Owes p e below s (Qv (some (.int r)) h0 n0) ({ frames := 0, cells := 0, slots := 0, locals := 0 } : Room).cells ({ frames := 0, cells := 0, slots := 0, locals := 0 } : Room).slots T10 (mkF m 60 #[(.val (.ref a)), (.val (.ref b)), (.val (.ref b))] [])
          refine Owes.by (fun _ kq => XS.iconst X10.here hx rfl (hb hby d3_60) kq) ?_
          show Owes p e below s (Qv (some (.int r)) h0 n0) ({ frames := 0, cells := 0, slots := 0, locals := 0 } : Room).cells ({ frames := 0, cells := 0, slots := 0, locals := 0 } : Room).slots T10 (mkF m 61 #[(.val (.ref a)), (.val (.ref b)), (.val (.ref b))] [(.int (1 : Int32))])
          refine Owes.by (fun _ kq => XS.goto X10.here hx rfl (pc0 := 61) (pc' := 65) rfl (hb hby d3_61) (by decide) (by decide) kq) ?_
          show Owes p e below s (Qv (some (.int r)) h0 n0) ({ frames := 0, cells := 0, slots := 0, locals := 0 } : Room).cells ({ frames := 0, cells := 0, slots := 0, locals := 0 } : Room).slots T10 (mkF m 65 #[(.val (.ref a)), (.val (.ref b)), (.val (.ref b))] [(.int (1 : Int32))])
          refine Owes.ret X10 (v := some (.int (1 : Int32))) (fun h => by rw [Bd.returns] at h; cases h) hlk ?_ (by decide) (by decide) (fun fs hr => retN X10 hx (t := .boolean) Bd.returns (by simp) (hb hby d3_65) hr)
          rw [e10]
          exact ⟨by rw [← hr]; simp [q0, q1, q2, q3], rfl, rfl⟩
        · skip
          refine Owes.by (fun _ kq => XS.ifYes X10.here hx rfl (pc0 := 57) (pc' := 64) rfl (hb hby d3_57) rfl (XT.ll_ne_t q3) (by decide) (by decide) kq) ?_
          show Owes p e below s (Qv (some (.int r)) h0 n0) ({ frames := 0, cells := 0, slots := 0, locals := 0 } : Room).cells ({ frames := 0, cells := 0, slots := 0, locals := 0 } : Room).slots T10 (mkF m 64 #[(.val (.ref a)), (.val (.ref b)), (.val (.ref b))] [])
          refine Owes.by (fun _ kq => XS.iconst X10.here hx rfl (hb hby d3_64) kq) ?_
          show Owes p e below s (Qv (some (.int r)) h0 n0) ({ frames := 0, cells := 0, slots := 0, locals := 0 } : Room).cells ({ frames := 0, cells := 0, slots := 0, locals := 0 } : Room).slots T10 (mkF m 65 #[(.val (.ref a)), (.val (.ref b)), (.val (.ref b))] [(.int (0 : Int32))])
          refine Owes.ret X10 (v := some (.int (0 : Int32))) (fun h => by rw [Bd.returns] at h; cases h) hlk ?_ (by decide) (by decide) (fun fs hr => retN X10 hx (t := .boolean) Bd.returns (by simp) (hb hby d3_65) hr)
          rw [e10]
          exact ⟨by rw [← hr]; simp [q0, q1, q2, q3], rfl, rfl⟩
      · skip
        refine Owes.by (fun _ kq => XS.ifYes X8.here hx rfl (pc0 := 45) (pc' := 64) rfl (hb hby d3_45) rfl (XT.ll_ne_t q2) (by decide) (by decide) kq) ?_
        show Owes p e below s (Qv (some (.int r)) h0 n0) ({ frames := 0, cells := 0, slots := 0, locals := 0 } : Room).cells ({ frames := 0, cells := 0, slots := 0, locals := 0 } : Room).slots T8 (mkF m 64 #[(.val (.ref a)), (.val (.ref b)), (.val (.ref b))] [])
        refine Owes.by (fun _ kq => XS.iconst X8.here hx rfl (hb hby d3_64) kq) ?_
        show Owes p e below s (Qv (some (.int r)) h0 n0) ({ frames := 0, cells := 0, slots := 0, locals := 0 } : Room).cells ({ frames := 0, cells := 0, slots := 0, locals := 0 } : Room).slots T8 (mkF m 65 #[(.val (.ref a)), (.val (.ref b)), (.val (.ref b))] [(.int (0 : Int32))])
        refine Owes.ret X8 (v := some (.int (0 : Int32))) (fun h => by rw [Bd.returns] at h; cases h) hlk ?_ (by decide) (by decide) (fun fs hr => retN X8 hx (t := .boolean) Bd.returns (by simp) (hb hby d3_65) hr)
        rw [e8]
        exact ⟨by rw [← hr]; simp [q0, q1, q2], rfl, rfl⟩
    · skip
      refine Owes.by (fun _ kq => XS.ifYes X6.here hx rfl (pc0 := 33) (pc' := 64) rfl (hb hby d3_33) rfl (XT.ll_ne_t q1) (by decide) (by decide) kq) ?_
      show Owes p e below s (Qv (some (.int r)) h0 n0) ({ frames := 0, cells := 0, slots := 0, locals := 0 } : Room).cells ({ frames := 0, cells := 0, slots := 0, locals := 0 } : Room).slots T6 (mkF m 64 #[(.val (.ref a)), (.val (.ref b)), (.val (.ref b))] [])
      refine Owes.by (fun _ kq => XS.iconst X6.here hx rfl (hb hby d3_64) kq) ?_
      show Owes p e below s (Qv (some (.int r)) h0 n0) ({ frames := 0, cells := 0, slots := 0, locals := 0 } : Room).cells ({ frames := 0, cells := 0, slots := 0, locals := 0 } : Room).slots T6 (mkF m 65 #[(.val (.ref a)), (.val (.ref b)), (.val (.ref b))] [(.int (0 : Int32))])
      refine Owes.ret X6 (v := some (.int (0 : Int32))) (fun h => by rw [Bd.returns] at h; cases h) hlk ?_ (by decide) (by decide) (fun fs hr => retN X6 hx (t := .boolean) Bd.returns (by simp) (hb hby d3_65) hr)
      rw [e6]
      exact ⟨by rw [← hr]; simp [q0, q1], rfl, rfl⟩
  · skip
    refine Owes.by (fun _ kq => XS.ifYes X4.here hx rfl (pc0 := 21) (pc' := 64) rfl (hb hby d3_21) rfl (XT.ll_ne_t q0) (by decide) (by decide) kq) ?_
    show Owes p e below s (Qv (some (.int r)) h0 n0) ({ frames := 0, cells := 0, slots := 0, locals := 0 } : Room).cells ({ frames := 0, cells := 0, slots := 0, locals := 0 } : Room).slots T4 (mkF m 64 #[(.val (.ref a)), (.val (.ref b)), (.val (.ref b))] [])
    refine Owes.by (fun _ kq => XS.iconst X4.here hx rfl (hb hby d3_64) kq) ?_
    show Owes p e below s (Qv (some (.int r)) h0 n0) ({ frames := 0, cells := 0, slots := 0, locals := 0 } : Room).cells ({ frames := 0, cells := 0, slots := 0, locals := 0 } : Room).slots T4 (mkF m 65 #[(.val (.ref a)), (.val (.ref b)), (.val (.ref b))] [(.int (0 : Int32))])
    refine Owes.ret X4 (v := some (.int (0 : Int32))) (fun h => by rw [Bd.returns] at h; cases h) hlk ?_ (by decide) (by decide) (fun fs hr => retN X4 hx (t := .boolean) Bd.returns (by simp) (hb hby d3_65) hr)
    rw [e4]
    exact ⟨by rw [← hr]; simp [q0], rfl, rfl⟩
theorem ef_rmE0 (m : MethodId) (x0 : Addr) : entryFrame m #[(.ref x0), .null] 3 = mkF m 0 #[(.val (.ref x0)), (.val .null), .unset] [] := by first | (simp [entryFrame, mkF, argsToLocals, Value.category]; done) | rfl
set_option maxRecDepth 65536 in
set_option maxHeartbeats 40000000 in
theorem rmE0 (l : Launch) (Z : State) (a0 : Array Value) (hw : ∀ d ∈ tables_1, d.before a0 Z = true) (ws : List Jvm.Cond) (a : Addr) (h0 : Heap) (n0 : Nat) (Z0 : n0 ≤ h0.size) :
    MetFree l (⟨"com/example/chunkmark/chunkmark/dataset/Range", "equals", "(Ljava/lang/Object;)Z"⟩ : MethodName) (head1 (Jvm.Cond.code (⟨"com/example/chunkmark/chunkmark/dataset/Range", "equals", "(Ljava/lang/Object;)Z"⟩ : MethodName) prog_52_method_11_code 3 (some .boolean) :: ws) ({ frames := 0, cells := 0, slots := 0, locals := 0 } : Room)) (fun aa UU => aa = #[(.ref a), .null] ∧ Z.Warmed39 UU.vm ∧ UU.heap = h0) (fun _ _ _ _ _ => True) (fun _ UU oo UU' => ∃ vr Lr, oo = .returned vr ∧ (Qv (some (.int 0)) h0 n0) vr UU'.heap Lr ∧ FrameEnd UU oo UU' Lr ({ frames := 0, cells := 0, slots := 0, locals := 0 } : Room).cells ({ frames := 0, cells := 0, slots := 0, locals := 0 } : Room).slots) := by
  refine MetFree.of_bodySF (plainFor_of_name pn_Range) hisR ?_
  intro p e s m args below meth c s₁ Bd hml0 hP hK
  obtain ⟨rfl, hZ, hh⟩ := hP
  have hx := Bd.exec
  have hby := Bd.bytes
  have hml : c.maxLocals = 3 := hml0
  have hown : s.vm.findClass "com/example/chunkmark/chunkmark/dataset/Range" = some m.cls := findClass_of_methodNamed Bd.named
  have hnm := (name_of_methodNamed Bd.named Bd.method).1
  have hlk := Bd.notSynchronized
  have X0 : Stand p l e ({ frames := 0, cells := 0, slots := 0, locals := 0 } : Room) s m #[(.ref a), .null] below meth c s₁ [] 0 0 := Stand.of_body Bd
  have e0 : s₁.heap = h0 := by rw [← hh, Bd.state]; rfl
  have N0 := Fr.nil n0
  show Owes p e below s (Qv (some (.int 0)) h0 n0) ({ frames := 0, cells := 0, slots := 0, locals := 0 } : Room).cells ({ frames := 0, cells := 0, slots := 0, locals := 0 } : Room).slots s₁ (entryFrame m #[(.ref a), .null] 3)
  rw [ef_rmE0 m a]
  show Owes p e below s (Qv (some (.int 0)) h0 n0) ({ frames := 0, cells := 0, slots := 0, locals := 0 } : Room).cells ({ frames := 0, cells := 0, slots := 0, locals := 0 } : Room).slots s₁ (mkF m 0 #[(.val (.ref a)), (.val .null), .unset] [])
  refine Owes.by (fun _ kq => XS.aloadN X0.here hx rfl (hb hby d3_0) rfl rfl kq) ?_
  show Owes p e below s (Qv (some (.int 0)) h0 n0) ({ frames := 0, cells := 0, slots := 0, locals := 0 } : Room).cells ({ frames := 0, cells := 0, slots := 0, locals := 0 } : Room).slots s₁ (mkF m 1 #[(.val (.ref a)), (.val .null), .unset] [.null])
  refine Owes.by (fun tq kq => X0.instanceofNull hx (g := (mkF m 1 #[(.val (.ref a)), (.val .null), .unset] [.null])) rfl rfl (hb hby d3_1) tq kq) ?_
  show Owes p e below s (Qv (some (.int 0)) h0 n0) ({ frames := 0, cells := 0, slots := 0, locals := 0 } : Room).cells ({ frames := 0, cells := 0, slots := 0, locals := 0 } : Room).slots s₁ (mkF m 4 #[(.val (.ref a)), (.val .null), .unset] [(.int (0 : Int32))])
  refine Owes.by (fun _ kq => XS.ifYes X0.here hx rfl (pc0 := 4) (pc' := 64) rfl (hb hby d3_4) rfl (XT.i0_eq_t (by decide)) (by decide) (by decide) kq) ?_
  show Owes p e below s (Qv (some (.int 0)) h0 n0) ({ frames := 0, cells := 0, slots := 0, locals := 0 } : Room).cells ({ frames := 0, cells := 0, slots := 0, locals := 0 } : Room).slots s₁ (mkF m 64 #[(.val (.ref a)), (.val .null), .unset] [])
  refine Owes.by (fun _ kq => XS.iconst X0.here hx rfl (hb hby d3_64) kq) ?_
  show Owes p e below s (Qv (some (.int 0)) h0 n0) ({ frames := 0, cells := 0, slots := 0, locals := 0 } : Room).cells ({ frames := 0, cells := 0, slots := 0, locals := 0 } : Room).slots s₁ (mkF m 65 #[(.val (.ref a)), (.val .null), .unset] [(.int (0 : Int32))])
  refine Owes.ret X0 (v := some (.int (0 : Int32))) (fun h => by rw [Bd.returns] at h; cases h) hlk ?_ (by decide) (by decide) (fun fs hr => retN X0 hx (t := .boolean) Bd.returns (by simp) (hb hby d3_65) hr)
  rw [e0]
  exact ⟨rfl, rfl, rfl⟩
theorem ef_rmEL (m : MethodId) (x0 : Addr) (x1 : Addr) : entryFrame m #[(.ref x0), (.ref x1)] 3 = mkF m 0 #[(.val (.ref x0)), (.val (.ref x1)), .unset] [] := by first | (simp [entryFrame, mkF, argsToLocals, Value.category]; done) | rfl
set_option maxRecDepth 65536 in
set_option maxHeartbeats 40000000 in
theorem rmEL (l : Launch) (Z : State) (a0 : Array Value) (hw : ∀ d ∈ tables_1, d.before a0 Z = true) (ws : List Jvm.Cond) (a b : Addr) (h0 : Heap) (n0 : Nat) (Z0 : n0 ≤ h0.size) (E : Exa Z h0 b "java/lang/Long") :
    MetFree l (⟨"com/example/chunkmark/chunkmark/dataset/Range", "equals", "(Ljava/lang/Object;)Z"⟩ : MethodName) (head1 (Jvm.Cond.code (⟨"com/example/chunkmark/chunkmark/dataset/Range", "equals", "(Ljava/lang/Object;)Z"⟩ : MethodName) prog_52_method_11_code 3 (some .boolean) :: ws) ({ frames := 0, cells := 0, slots := 0, locals := 0 } : Room)) (fun aa UU => aa = #[(.ref a), (.ref b)] ∧ Z.Warmed39 UU.vm ∧ UU.heap = h0) (fun _ _ _ _ _ => True) (fun _ UU oo UU' => ∃ vr Lr, oo = .returned vr ∧ (Qv (some (.int 0)) h0 n0) vr UU'.heap Lr ∧ FrameEnd UU oo UU' Lr ({ frames := 0, cells := 0, slots := 0, locals := 0 } : Room).cells ({ frames := 0, cells := 0, slots := 0, locals := 0 } : Room).slots) := by
  refine MetFree.of_bodySF (plainFor_of_name pn_Range) hisR ?_
  intro p e s m args below meth c s₁ Bd hml0 hP hK
  obtain ⟨rfl, hZ, hh⟩ := hP
  have hx := Bd.exec
  have hby := Bd.bytes
  have hml : c.maxLocals = 3 := hml0
  have hown : s.vm.findClass "com/example/chunkmark/chunkmark/dataset/Range" = some m.cls := findClass_of_methodNamed Bd.named
  have hnm := (name_of_methodNamed Bd.named Bd.method).1
  have hlk := Bd.notSynchronized
  have X0 : Stand p l e ({ frames := 0, cells := 0, slots := 0, locals := 0 } : Room) s m #[(.ref a), (.ref b)] below meth c s₁ [] 0 0 := Stand.of_body Bd
  have e0 : s₁.heap = h0 := by rw [← hh, Bd.state]; rfl
  have N0 := Fr.nil n0
  show Owes p e below s (Qv (some (.int 0)) h0 n0) ({ frames := 0, cells := 0, slots := 0, locals := 0 } : Room).cells ({ frames := 0, cells := 0, slots := 0, locals := 0 } : Room).slots s₁ (entryFrame m #[(.ref a), (.ref b)] 3)
  rw [ef_rmEL m a b]
  show Owes p e below s (Qv (some (.int 0)) h0 n0) ({ frames := 0, cells := 0, slots := 0, locals := 0 } : Room).cells ({ frames := 0, cells := 0, slots := 0, locals := 0 } : Room).slots s₁ (mkF m 0 #[(.val (.ref a)), (.val (.ref b)), .unset] [])
  refine Owes.by (fun _ kq => XS.aloadN X0.here hx rfl (hb hby d3_0) rfl rfl kq) ?_
  show Owes p e below s (Qv (some (.int 0)) h0 n0) ({ frames := 0, cells := 0, slots := 0, locals := 0 } : Room).cells ({ frames := 0, cells := 0, slots := 0, locals := 0 } : Room).slots s₁ (mkF m 1 #[(.val (.ref a)), (.val (.ref b)), .unset] [(.ref b)])
  obtain ⟨T1, X1, e1, st1⟩ := instNo X0 hx hZ hown (hw _ (List.mem_of_getElem? (i := 25) rfl)) e0 E (own_no (hw _ (List.mem_of_getElem? (i := 35) rfl)) (hw _ (List.mem_of_getElem? (i := 36) rfl)) (hw _ (List.mem_of_getElem? (i := 37) rfl)) (hw _ (List.mem_of_getElem? (i := 4) rfl))) (g := (mkF m 1 #[(.val (.ref a)), (.val (.ref b)), .unset] [(.ref b)])) rfl rfl (hb hby d3_1)
  refine Owes.by st1 ?_
  show Owes p e below s (Qv (some (.int 0)) h0 n0) ({ frames := 0, cells := 0, slots := 0, locals := 0 } : Room).cells ({ frames := 0, cells := 0, slots := 0, locals := 0 } : Room).slots T1 (mkF m 4 #[(.val (.ref a)), (.val (.ref b)), .unset] [(.int (0 : Int32))])
  refine Owes.by (fun _ kq => XS.ifYes X1.here hx rfl (pc0 := 4) (pc' := 64) rfl (hb hby d3_4) rfl (XT.i0_eq_t (by decide)) (by decide) (by decide) kq) ?_
  show Owes p e below s (Qv (some (.int 0)) h0 n0) ({ frames := 0, cells := 0, slots := 0, locals := 0 } : Room).cells ({ frames := 0, cells := 0, slots := 0, locals := 0 } : Room).slots T1 (mkF m 64 #[(.val (.ref a)), (.val (.ref b)), .unset] [])
  refine Owes.by (fun _ kq => XS.iconst X1.here hx rfl (hb hby d3_64) kq) ?_
  show Owes p e below s (Qv (some (.int 0)) h0 n0) ({ frames := 0, cells := 0, slots := 0, locals := 0 } : Room).cells ({ frames := 0, cells := 0, slots := 0, locals := 0 } : Room).slots T1 (mkF m 65 #[(.val (.ref a)), (.val (.ref b)), .unset] [(.int (0 : Int32))])
  refine Owes.ret X1 (v := some (.int (0 : Int32))) (fun h => by rw [Bd.returns] at h; cases h) hlk ?_ (by decide) (by decide) (fun fs hr => retN X1 hx (t := .boolean) Bd.returns (by simp) (hb hby d3_65) hr)
  rw [e1]
  exact ⟨rfl, rfl, rfl⟩
theorem ef_rmNu (m : MethodId) (x0 : Addr) : entryFrame m #[(.ref x0)] 1 = mkF m 0 #[(.val (.ref x0))] [] := by first | (simp [entryFrame, mkF, argsToLocals, Value.category]; done) | rfl
set_option maxRecDepth 65536 in
set_option maxHeartbeats 40000000 in
theorem rmNu (l : Launch) (Z : State) (a0 : Array Value) (hw : ∀ d ∈ tables_1, d.before a0 Z = true) (ws : List Jvm.Cond) (a : Addr) (h0 : Heap) (n0 : Nat) (Z0 : n0 ≤ h0.size) :
    MetFree l (⟨"java/lang/Number", "<init>", "()V"⟩ : MethodName) (head1 (Jvm.Cond.code (⟨"java/lang/Number", "<init>", "()V"⟩ : MethodName) jdk_18_method_1_code 1 none :: ws) ({ frames := 1, cells := 0, slots := 0, locals := 12 } : Room)) (fun aa UU => aa = #[(.ref a)] ∧ Z.Warmed39 UU.vm ∧ UU.heap = h0) (fun _ _ _ _ _ => True) (fun _ UU oo UU' => ∃ vr Lr, oo = .returned vr ∧ (Qv none h0 n0) vr UU'.heap Lr ∧ FrameEnd UU oo UU' Lr ({ frames := 1, cells := 0, slots := 0, locals := 12 } : Room).cells ({ frames := 1, cells := 0, slots := 0, locals := 12 } : Room).slots) := by
  refine MetFree.of_bodySF (plainFor_of_name pn_Number) hisR ?_
  intro p e s m args below meth c s₁ Bd hml0 hP hK
  obtain ⟨rfl, hZ, hh⟩ := hP
  have hx := Bd.exec
  have hby := Bd.bytes
  have hml : c.maxLocals = 1 := hml0
  have hown : s.vm.findClass "java/lang/Number" = some m.cls := findClass_of_methodNamed Bd.named
  have hnm := (name_of_methodNamed Bd.named Bd.method).1
  have hlk := Bd.notSynchronized
  have X0 : Stand p l e ({ frames := 1, cells := 0, slots := 0, locals := 12 } : Room) s m #[(.ref a)] below meth c s₁ [] 0 0 := Stand.of_body Bd
  have e0 : s₁.heap = h0 := by rw [← hh, Bd.state]; rfl
  have N0 := Fr.nil n0
  show Owes p e below s (Qv none h0 n0) ({ frames := 1, cells := 0, slots := 0, locals := 12 } : Room).cells ({ frames := 1, cells := 0, slots := 0, locals := 12 } : Room).slots s₁ (entryFrame m #[(.ref a)] 1)
  rw [ef_rmNu m a]
  show Owes p e below s (Qv none h0 n0) ({ frames := 1, cells := 0, slots := 0, locals := 12 } : Room).cells ({ frames := 1, cells := 0, slots := 0, locals := 12 } : Room).slots s₁ (mkF m 0 #[(.val (.ref a))] [])
  refine Owes.by (fun _ kq => XS.aloadN X0.here hx rfl (hb hby d6_0) rfl rfl kq) ?_
  show Owes p e below s (Qv none h0 n0) ({ frames := 1, cells := 0, slots := 0, locals := 12 } : Room).cells ({ frames := 1, cells := 0, slots := 0, locals := 12 } : Room).slots s₁ (mkF m 1 #[(.val (.ref a))] [(.ref a)])
  obtain ⟨T1, X1, e1, st1⟩ := initO X0 hx hZ hown (hw _ (List.mem_of_getElem? (i := 50) rfl)) (hw _ (List.mem_of_getElem? (i := 10) rfl)) (hw _ (List.mem_of_getElem? (i := 11) rfl)) e0 (g := (mkF m 1 #[(.val (.ref a))] [(.ref a)])) rfl (by rw [hml]; rfl) rfl (hb hby d6_1) (by decide) (W := 0) (by show 2 * 0 + _ ≤ _; exact Nat.le_of_eq rfl) (by decide)
  refine Owes.by st1 ?_
  show Owes p e below s (Qv none h0 n0) ({ frames := 1, cells := 0, slots := 0, locals := 12 } : Room).cells ({ frames := 1, cells := 0, slots := 0, locals := 12 } : Room).slots T1 (mkF m 4 #[(.val (.ref a))] [])
  refine Owes.ret X1 (v := none) (fun _ => rfl) hlk ?_ (by decide) (by decide) (fun fs hr => X1.returnOut hx Bd.returns (hb hby d6_4) hr)
  rw [e1]
  exact ⟨rfl, rfl, rfl⟩
theorem ef_rmLi (m : MethodId) (x0 : Addr) (x1 : Int64) : entryFrame m #[(.ref x0), (.long x1)] 3 = mkF m 0 #[(.val (.ref x0)), (.val (.long x1)), .second] [] := by first | (simp [entryFrame, mkF, argsToLocals, Value.category]; done) | rfl
set_option maxRecDepth 65536 in
set_option maxHeartbeats 40000000 in
theorem rmLi (l : Launch) (Z : State) (a0 : Array Value) (hw : ∀ d ∈ tables_1, d.before a0 Z = true) (ws : List Jvm.Cond) (a : Addr) (u : Int64) (h0 : Heap) (n0 : Nat) (Z0 : n0 ≤ h0.size) (F : Fld Z h0 a "java/lang/Long" "value" "J" (.long (0 : Int64))) (E : Exa Z h0 a "java/lang/Long") (g : n0 ≤ a) :
    MetFree l (⟨"java/lang/Long", "<init>", "(J)V"⟩ : MethodName) (head1 (Jvm.Cond.code (⟨"java/lang/Long", "<init>", "(J)V"⟩ : MethodName) jdk_35_method_26_code 3 none :: ws) ({ frames := 2, cells := 0, slots := 0, locals := 24 } : Room)) (fun aa UU => aa = #[(.ref a), (.long u)] ∧ Z.Warmed39 UU.vm ∧ UU.heap = h0) (fun _ _ _ _ _ => True) (fun _ UU oo UU' => ∃ vr Lr, oo = .returned vr ∧ (QN Z a u h0 n0) vr UU'.heap Lr ∧ FrameEnd UU oo UU' Lr ({ frames := 2, cells := 0, slots := 0, locals := 24 } : Room).cells ({ frames := 2, cells := 0, slots := 0, locals := 24 } : Room).slots) := by
  refine MetFree.of_bodySF (plainFor_of_name pn_Long) hisR ?_
  intro p e s m args below meth c s₁ Bd hml0 hP hK
  obtain ⟨rfl, hZ, hh⟩ := hP
  have hx := Bd.exec
  have hby := Bd.bytes
  have hml : c.maxLocals = 3 := hml0
  have hown : s.vm.findClass "java/lang/Long" = some m.cls := findClass_of_methodNamed Bd.named
  have hnm := (name_of_methodNamed Bd.named Bd.method).1
  have hlk := Bd.notSynchronized
  have X0 : Stand p l e ({ frames := 2, cells := 0, slots := 0, locals := 24 } : Room) s m #[(.ref a), (.long u)] below meth c s₁ [] 0 0 := Stand.of_body Bd
  have e0 : s₁.heap = h0 := by rw [← hh, Bd.state]; rfl
  have N0 := Fr.nil n0
  show Owes p e below s (QN Z a u h0 n0) ({ frames := 2, cells := 0, slots := 0, locals := 24 } : Room).cells ({ frames := 2, cells := 0, slots := 0, locals := 24 } : Room).slots s₁ (entryFrame m #[(.ref a), (.long u)] 3)
  rw [ef_rmLi m a u]
  show Owes p e below s (QN Z a u h0 n0) ({ frames := 2, cells := 0, slots := 0, locals := 24 } : Room).cells ({ frames := 2, cells := 0, slots := 0, locals := 24 } : Room).slots s₁ (mkF m 0 #[(.val (.ref a)), (.val (.long u)), .second] [])
  refine Owes.by (fun _ kq => XS.aloadN X0.here hx rfl (hb hby d5_0) rfl rfl kq) ?_
  show Owes p e below s (QN Z a u h0 n0) ({ frames := 2, cells := 0, slots := 0, locals := 24 } : Room).cells ({ frames := 2, cells := 0, slots := 0, locals := 24 } : Room).slots s₁ (mkF m 1 #[(.val (.ref a)), (.val (.long u)), .second] [(.ref a)])
  obtain ⟨_, _, ⟨T1, L1, k1, n1⟩, -, X1, ⟨Lc1, hQ1, l1, y1, z1⟩, st1⟩ := X0.specialBack hx (y := (⟨"java/lang/Number", "<init>", "()V"⟩ : MethodName)) rfl hown (mvT hZ (hw _ (List.mem_of_getElem? (i := 44) rfl))) (mvT hZ (hw _ (List.mem_of_getElem? (i := 45) rfl))) (mvT hZ (hw _ (List.mem_of_getElem? (i := 49) rfl))) (by decide) (backOf (W := 0) (rmNu l Z a0 hw [] a h0 n0 Z0) hZ (hw _ (List.mem_of_getElem? (i := 49) rfl)) (hw _ (List.mem_of_getElem? (i := 48) rfl)) (by decide) (by decide)) (g := (mkF m 1 #[(.val (.ref a)), (.val (.long u)), .second] [(.ref a)])) rfl (by rw [hml]; rfl) (Steps.refl _) (a := a) (argsL := []) (rest := []) (lenOf pd_V rfl) rfl (by show 2 * 0 + _ ≤ _; exact Nat.le_of_eq rfl) (hb hby d5_1) (fun _ _ => ⟨rfl, e0, (by decide : 0 + 0 ≤ _), (by decide : 0 + 0 ≤ _)⟩)
  dsimp only [Pt.U, Pt.locs, Pt.cells, Pt.slots] at X1 l1 y1 z1 st1 hQ1
  subst l1 y1 z1
  obtain ⟨rfl, rfl, e1⟩ := hQ1
  try rw [List.append_nil] at X1
  refine Owes.by (fun _ kq => st1.trans kq) ?_
  show Owes p e below s (QN Z a u h0 n0) ({ frames := 2, cells := 0, slots := 0, locals := 24 } : Room).cells ({ frames := 2, cells := 0, slots := 0, locals := 24 } : Room).slots T1 (mkF m 4 #[(.val (.ref a)), (.val (.long u)), .second] [])
  refine Owes.by (fun _ kq => XS.aloadN X1.here hx rfl (hb hby d5_4) rfl rfl kq) ?_
  show Owes p e below s (QN Z a u h0 n0) ({ frames := 2, cells := 0, slots := 0, locals := 24 } : Room).cells ({ frames := 2, cells := 0, slots := 0, locals := 24 } : Room).slots T1 (mkF m 5 #[(.val (.ref a)), (.val (.long u)), .second] [(.ref a)])
  refine Owes.by (fun _ kq => XT.lloadN X1.here hx rfl (hb hby d5_5) rfl kq) ?_
  show Owes p e below s (QN Z a u h0 n0) ({ frames := 2, cells := 0, slots := 0, locals := 24 } : Room).cells ({ frames := 2, cells := 0, slots := 0, locals := 24 } : Room).slots T1 (mkF m 6 #[(.val (.ref a)), (.val (.long u)), .second] [(.long u), (.ref a)])
  obtain ⟨T2, h2, X2, e2, W2, st2⟩ := putF X1 hx hZ hown (host := "") (Or.inl (hw _ (List.mem_of_getElem? (i := 51) rfl))) Via.refl e1 F E (Or.inr ⟨(hw _ (List.mem_of_getElem? (i := 52) rfl)), rfl, hnm⟩) (hw _ (List.mem_of_getElem? (i := 39) rfl)) (ty := .long) (by decide) rfl rfl (g := (mkF m 6 #[(.val (.ref a)), (.val (.long u)), .second] [(.long u), (.ref a)])) rfl rfl (hb hby d5_6)
  refine Owes.by st2 ?_
  show Owes p e below s (QN Z a u h0 n0) ({ frames := 2, cells := 0, slots := 0, locals := 24 } : Room).cells ({ frames := 2, cells := 0, slots := 0, locals := 24 } : Room).slots T2 (mkF m 9 #[(.val (.ref a)), (.val (.long u)), .second] [])
  refine Owes.ret X2 (v := none) (fun _ => rfl) hlk ?_ (by decide) (by decide) (fun fs hr => X2.returnOut hx Bd.returns (hb hby d5_9) hr)
  rw [e2]
  exact ⟨rfl, Fr.snoc X2 N0 g, (Keep.refl _ _).wr W2 (Or.inl (List.mem_of_getElem? (i := 0) rfl)), E.wr W2⟩
theorem ef_rmV (m : MethodId) (x0 : Int64) : entryFrame m #[(.long x0)] 3 = mkF m 0 #[(.val (.long x0)), .second, .unset] [] := by first | (simp [entryFrame, mkF, argsToLocals, Value.category]; done) | rfl
set_option maxRecDepth 65536 in
set_option maxHeartbeats 40000000 in
theorem rmV (l : Launch) (Z : State) (a0 : Array Value) (hw : ∀ d ∈ tables_1, d.before a0 Z = true) (ws : List Jvm.Cond) (u : Int64) (ca : Addr) (cl : Cell) (h0 : Heap) (n0 : Nat) (Z0 : n0 ≤ h0.size) (S_cache : Sta Z h0 "java/lang/Long$LongCache" "cache" "[Ljava/lang/Long;" (.ref ca)) (Ar : Arr Z h0 ca cl (.object "java/lang/Long")) (hall : ∀ j : Int32, ¬ (j < 0 ∨ 256 ≤ j.toNatClampNeg) → ¬ (j < 0 ∨ cl.slots.size ≤ j.toNatClampNeg) ∧ ∃ w, cl.slots[j.toNatClampNeg]? = some (.ref w) ∧ Exa Z h0 w "java/lang/Long") :
    MetFree l (⟨"java/lang/Long", "valueOf", "(J)Ljava/lang/Long;"⟩ : MethodName) (head1 (Jvm.Cond.code (⟨"java/lang/Long", "valueOf", "(J)Ljava/lang/Long;"⟩ : MethodName) jdk_35_method_24_code 3 (some (.object "java/lang/Long")) :: ws) ({ frames := 3, cells := 1, slots := 1, locals := 42 } : Room)) (fun aa UU => aa = #[(.long u)] ∧ Z.Warmed39 UU.vm ∧ UU.heap = h0) (fun _ _ _ _ _ => True) (fun _ UU oo UU' => ∃ vr Lr, oo = .returned vr ∧ (QV Z h0 n0) vr UU'.heap Lr ∧ FrameEnd UU oo UU' Lr ({ frames := 3, cells := 1, slots := 1, locals := 42 } : Room).cells ({ frames := 3, cells := 1, slots := 1, locals := 42 } : Room).slots) := by
  refine MetFree.of_bodySF (plainFor_of_name pn_Long) hisR ?_
  intro p e s m args below meth c s₁ Bd hml0 hP hK
  obtain ⟨rfl, hZ, hh⟩ := hP
  have hx := Bd.exec
  have hby := Bd.bytes
  have hml : c.maxLocals = 3 := hml0
  have hown : s.vm.findClass "java/lang/Long" = some m.cls := findClass_of_methodNamed Bd.named
  have hnm := (name_of_methodNamed Bd.named Bd.method).1
  have hlk := Bd.notSynchronized
  have X0 : Stand p l e ({ frames := 3, cells := 1, slots := 1, locals := 42 } : Room) s m #[(.long u)] below meth c s₁ [] 0 0 := Stand.of_body Bd
  have e0 : s₁.heap = h0 := by rw [← hh, Bd.state]; rfl
  have N0 := Fr.nil n0
  show Owes p e below s (QV Z h0 n0) ({ frames := 3, cells := 1, slots := 1, locals := 42 } : Room).cells ({ frames := 3, cells := 1, slots := 1, locals := 42 } : Room).slots s₁ (entryFrame m #[(.long u)] 3)
  rw [ef_rmV m u]
  show Owes p e below s (QV Z h0 n0) ({ frames := 3, cells := 1, slots := 1, locals := 42 } : Room).cells ({ frames := 3, cells := 1, slots := 1, locals := 42 } : Room).slots s₁ (mkF m 0 #[(.val (.long u)), .second, .unset] [])
  refine Owes.by (fun _ kq => XS.sipush X0.here hx rfl (hb hby d4_0) kq) ?_
  show Owes p e below s (QV Z h0 n0) ({ frames := 3, cells := 1, slots := 1, locals := 42 } : Room).cells ({ frames := 3, cells := 1, slots := 1, locals := 42 } : Room).slots s₁ (mkF m 3 #[(.val (.long u)), .second, .unset] [(.int (128 : Int32))])
  refine Owes.by (fun _ kq => XS.istoreN X0.here hx rfl (hb hby d4_3) rfl (l' := #[(.val (.long u)), .second, (.val (.int (128 : Int32)))]) rfl kq) ?_
  show Owes p e below s (QV Z h0 n0) ({ frames := 3, cells := 1, slots := 1, locals := 42 } : Room).cells ({ frames := 3, cells := 1, slots := 1, locals := 42 } : Room).slots s₁ (mkF m 4 #[(.val (.long u)), .second, (.val (.int (128 : Int32)))] [])
  refine Owes.by (fun _ kq => XT.lloadN X0.here hx rfl (hb hby d4_4) rfl kq) ?_
  show Owes p e below s (QV Z h0 n0) ({ frames := 3, cells := 1, slots := 1, locals := 42 } : Room).cells ({ frames := 3, cells := 1, slots := 1, locals := 42 } : Room).slots s₁ (mkF m 5 #[(.val (.long u)), .second, (.val (.int (128 : Int32)))] [(.long u)])
  refine Owes.by (fun tq kq => X0.ldc2Long hx hown (mvT hZ (hw _ (List.mem_of_getElem? (i := 31) rfl))) (g := (mkF m 5 #[(.val (.long u)), .second, (.val (.int (128 : Int32)))] [(.long u)])) rfl (hb hby d4_5) tq kq) ?_
  show Owes p e below s (QV Z h0 n0) ({ frames := 3, cells := 1, slots := 1, locals := 42 } : Room).cells ({ frames := 3, cells := 1, slots := 1, locals := 42 } : Room).slots s₁ (mkF m 8 #[(.val (.long u)), .second, (.val (.int (128 : Int32)))] [(.long (-128 : Int64)), (.long u)])
  refine Owes.by (fun _ kq => XT.lcmp X0.here hx rfl (hb hby d4_8) rfl kq) ?_
  show Owes p e below s (QV Z h0 n0) ({ frames := 3, cells := 1, slots := 1, locals := 42 } : Room).cells ({ frames := 3, cells := 1, slots := 1, locals := 42 } : Room).slots s₁ (mkF m 9 #[(.val (.long u)), .second, (.val (.int (128 : Int32)))] [(.int (XT.cmpL u (-128 : Int64)))])
  by_cases q0 : u < (-128 : Int64)
  · skip
    refine Owes.by (fun _ kq => XS.ifYes X0.here hx rfl (pc0 := 9) (pc' := 31) rfl (hb hby d4_9) rfl (XT.ll_lt_t q0) (by decide) (by decide) kq) ?_
    show Owes p e below s (QV Z h0 n0) ({ frames := 3, cells := 1, slots := 1, locals := 42 } : Room).cells ({ frames := 3, cells := 1, slots := 1, locals := 42 } : Room).slots s₁ (mkF m 31 #[(.val (.long u)), .second, (.val (.int (128 : Int32)))] [])
    obtain ⟨T1, h1, X1, e1, E1, A1, D1, -, st1⟩ := newO X0 hx hZ hown (hw _ (List.mem_of_getElem? (i := 38) rfl)) (hw _ (List.mem_of_getElem? (i := 39) rfl)) (hw _ (List.mem_of_getElem? (i := 29) rfl)) e0 (g := (mkF m 31 #[(.val (.long u)), .second, (.val (.int (128 : Int32)))] [])) rfl (hb hby d4_31) (by decide) (by decide)
    obtain ⟨b1, g1⟩ : ∃ z, z = h0.size := ⟨_, rfl⟩
    rw [← g1] at A1 D1 st1
    refine Owes.by st1 ?_
    show Owes p e below s (QV Z h0 n0) ({ frames := 3, cells := 1, slots := 1, locals := 42 } : Room).cells ({ frames := 3, cells := 1, slots := 1, locals := 42 } : Room).slots T1 (mkF m 34 #[(.val (.long u)), .second, (.val (.int (128 : Int32)))] [(.ref b1)])
    refine Owes.by (fun _ kq => XS.dup X1.here hx rfl (hb hby d4_34) rfl rfl kq) ?_
    show Owes p e below s (QV Z h0 n0) ({ frames := 3, cells := 1, slots := 1, locals := 42 } : Room).cells ({ frames := 3, cells := 1, slots := 1, locals := 42 } : Room).slots T1 (mkF m 35 #[(.val (.long u)), .second, (.val (.int (128 : Int32)))] [(.ref b1), (.ref b1)])
    refine Owes.by (fun _ kq => XT.lloadN X1.here hx rfl (hb hby d4_35) rfl kq) ?_
    show Owes p e below s (QV Z h0 n0) ({ frames := 3, cells := 1, slots := 1, locals := 42 } : Room).cells ({ frames := 3, cells := 1, slots := 1, locals := 42 } : Room).slots T1 (mkF m 36 #[(.val (.long u)), .second, (.val (.int (128 : Int32)))] [(.long u), (.ref b1), (.ref b1)])
    have F1 : Fld Z h1 b1 "java/lang/Long" "value" "J" (.long (0 : Int64)) := D1 (Or.inr (hw _ (List.mem_of_getElem? (i := 52) rfl))) (ty := .long) (by decide)
    obtain ⟨_, _, ⟨T2, L2, k2, n2⟩, -, X2, ⟨Lc2, hQ2, l2, y2, z2⟩, st2⟩ := X1.specialBack hx (y := (⟨"java/lang/Long", "<init>", "(J)V"⟩ : MethodName)) rfl hown (mvT hZ (hw _ (List.mem_of_getElem? (i := 40) rfl))) (mvT hZ (hw _ (List.mem_of_getElem? (i := 41) rfl))) (mvT hZ (hw _ (List.mem_of_getElem? (i := 43) rfl))) (by decide) (backOf (W := 1) (rmLi l Z a0 hw [] b1 u h1 n0 (Nat.le_trans Z0 E1.1) F1 A1 (Nat.le_trans Z0 (Nat.le_of_eq g1.symm))) hZ (hw _ (List.mem_of_getElem? (i := 43) rfl)) (hw _ (List.mem_of_getElem? (i := 29) rfl)) (by decide) (by decide)) (g := (mkF m 36 #[(.val (.long u)), .second, (.val (.int (128 : Int32)))] [(.long u), (.ref b1), (.ref b1)])) rfl (by rw [hml]; rfl) (Steps.refl _) (a := b1) (argsL := [(.long u)]) (rest := [(.ref b1)]) (lenOf pd_J_V rfl) rfl (by show 2 * 0 + _ ≤ _; exact Nat.le_of_eq rfl) (hb hby d4_36) (fun _ _ => ⟨rfl, e1, (by decide : 1 + 0 ≤ _), (by decide : 1 + 0 ≤ _)⟩)
    dsimp only [Pt.U, Pt.locs, Pt.cells, Pt.slots] at X2 l2 y2 z2 st2 hQ2
    subst l2 y2 z2
    obtain ⟨rfl, N2, K2, A2⟩ := hQ2
    refine Owes.by (fun _ kq => st2.trans kq) ?_
    show Owes p e below s (QV Z h0 n0) ({ frames := 3, cells := 1, slots := 1, locals := 42 } : Room).cells ({ frames := 3, cells := 1, slots := 1, locals := 42 } : Room).slots T2 (mkF m 39 #[(.val (.long u)), .second, (.val (.int (128 : Int32)))] [(.ref b1)])
    refine Owes.ret X2 (v := some (.ref b1)) (fun h => by rw [Bd.returns] at h; cases h) hlk ?_ (by decide) (by decide) (fun fs hr => retOut X2 hx Bd.returns rfl (Or.inr (Or.inr (Or.inr (Or.inr ⟨rfl, rfl, rfl⟩)))) (hb hby d4_39) hr)
    exact ⟨b1, rfl, Fr.app N0 N2, own_ext (((Keep.refl h0 []).ext E1).trans K2 (allS (Or.inr (Nat.le_of_eq g1.symm)) all0)), A2⟩
  · skip
    refine Owes.by (fun _ kq => XS.ifNo X0.here hx rfl (hb hby d4_9) rfl (XT.ll_lt_f q0) kq) ?_
    show Owes p e below s (QV Z h0 n0) ({ frames := 3, cells := 1, slots := 1, locals := 42 } : Room).cells ({ frames := 3, cells := 1, slots := 1, locals := 42 } : Room).slots s₁ (mkF m 12 #[(.val (.long u)), .second, (.val (.int (128 : Int32)))] [])
    refine Owes.by (fun _ kq => XT.lloadN X0.here hx rfl (hb hby d4_12) rfl kq) ?_
    show Owes p e below s (QV Z h0 n0) ({ frames := 3, cells := 1, slots := 1, locals := 42 } : Room).cells ({ frames := 3, cells := 1, slots := 1, locals := 42 } : Room).slots s₁ (mkF m 13 #[(.val (.long u)), .second, (.val (.int (128 : Int32)))] [(.long u)])
    refine Owes.by (fun tq kq => X0.ldc2Long hx hown (mvT hZ (hw _ (List.mem_of_getElem? (i := 32) rfl))) (g := (mkF m 13 #[(.val (.long u)), .second, (.val (.int (128 : Int32)))] [(.long u)])) rfl (hb hby d4_13) tq kq) ?_
    show Owes p e below s (QV Z h0 n0) ({ frames := 3, cells := 1, slots := 1, locals := 42 } : Room).cells ({ frames := 3, cells := 1, slots := 1, locals := 42 } : Room).slots s₁ (mkF m 16 #[(.val (.long u)), .second, (.val (.int (128 : Int32)))] [(.long (127 : Int64)), (.long u)])
    refine Owes.by (fun _ kq => XT.lcmp X0.here hx rfl (hb hby d4_16) rfl kq) ?_
    show Owes p e below s (QV Z h0 n0) ({ frames := 3, cells := 1, slots := 1, locals := 42 } : Room).cells ({ frames := 3, cells := 1, slots := 1, locals := 42 } : Room).slots s₁ (mkF m 17 #[(.val (.long u)), .second, (.val (.int (128 : Int32)))] [(.int (XT.cmpL u (127 : Int64)))])
    by_cases q1 : (127 : Int64) < u
    · skip
      refine Owes.by (fun _ kq => XS.ifYes X0.here hx rfl (pc0 := 17) (pc' := 31) rfl (hb hby d4_17) rfl (XT.ll_gt_t q1) (by decide) (by decide) kq) ?_
      show Owes p e below s (QV Z h0 n0) ({ frames := 3, cells := 1, slots := 1, locals := 42 } : Room).cells ({ frames := 3, cells := 1, slots := 1, locals := 42 } : Room).slots s₁ (mkF m 31 #[(.val (.long u)), .second, (.val (.int (128 : Int32)))] [])
      obtain ⟨T3, h3, X3, e3, E3, A3, D3, -, st3⟩ := newO X0 hx hZ hown (hw _ (List.mem_of_getElem? (i := 38) rfl)) (hw _ (List.mem_of_getElem? (i := 39) rfl)) (hw _ (List.mem_of_getElem? (i := 29) rfl)) e0 (g := (mkF m 31 #[(.val (.long u)), .second, (.val (.int (128 : Int32)))] [])) rfl (hb hby d4_31) (by decide) (by decide)
      obtain ⟨b3, g3⟩ : ∃ z, z = h0.size := ⟨_, rfl⟩
      rw [← g3] at A3 D3 st3
      refine Owes.by st3 ?_
      show Owes p e below s (QV Z h0 n0) ({ frames := 3, cells := 1, slots := 1, locals := 42 } : Room).cells ({ frames := 3, cells := 1, slots := 1, locals := 42 } : Room).slots T3 (mkF m 34 #[(.val (.long u)), .second, (.val (.int (128 : Int32)))] [(.ref b3)])
      refine Owes.by (fun _ kq => XS.dup X3.here hx rfl (hb hby d4_34) rfl rfl kq) ?_
      show Owes p e below s (QV Z h0 n0) ({ frames := 3, cells := 1, slots := 1, locals := 42 } : Room).cells ({ frames := 3, cells := 1, slots := 1, locals := 42 } : Room).slots T3 (mkF m 35 #[(.val (.long u)), .second, (.val (.int (128 : Int32)))] [(.ref b3), (.ref b3)])
      refine Owes.by (fun _ kq => XT.lloadN X3.here hx rfl (hb hby d4_35) rfl kq) ?_
      show Owes p e below s (QV Z h0 n0) ({ frames := 3, cells := 1, slots := 1, locals := 42 } : Room).cells ({ frames := 3, cells := 1, slots := 1, locals := 42 } : Room).slots T3 (mkF m 36 #[(.val (.long u)), .second, (.val (.int (128 : Int32)))] [(.long u), (.ref b3), (.ref b3)])
      have F3 : Fld Z h3 b3 "java/lang/Long" "value" "J" (.long (0 : Int64)) := D3 (Or.inr (hw _ (List.mem_of_getElem? (i := 52) rfl))) (ty := .long) (by decide)
      obtain ⟨_, _, ⟨T4, L4, k4, n4⟩, -, X4, ⟨Lc4, hQ4, l4, y4, z4⟩, st4⟩ := X3.specialBack hx (y := (⟨"java/lang/Long", "<init>", "(J)V"⟩ : MethodName)) rfl hown (mvT hZ (hw _ (List.mem_of_getElem? (i := 40) rfl))) (mvT hZ (hw _ (List.mem_of_getElem? (i := 41) rfl))) (mvT hZ (hw _ (List.mem_of_getElem? (i := 43) rfl))) (by decide) (backOf (W := 1) (rmLi l Z a0 hw [] b3 u h3 n0 (Nat.le_trans Z0 E3.1) F3 A3 (Nat.le_trans Z0 (Nat.le_of_eq g3.symm))) hZ (hw _ (List.mem_of_getElem? (i := 43) rfl)) (hw _ (List.mem_of_getElem? (i := 29) rfl)) (by decide) (by decide)) (g := (mkF m 36 #[(.val (.long u)), .second, (.val (.int (128 : Int32)))] [(.long u), (.ref b3), (.ref b3)])) rfl (by rw [hml]; rfl) (Steps.refl _) (a := b3) (argsL := [(.long u)]) (rest := [(.ref b3)]) (lenOf pd_J_V rfl) rfl (by show 2 * 0 + _ ≤ _; exact Nat.le_of_eq rfl) (hb hby d4_36) (fun _ _ => ⟨rfl, e3, (by decide : 1 + 0 ≤ _), (by decide : 1 + 0 ≤ _)⟩)
      dsimp only [Pt.U, Pt.locs, Pt.cells, Pt.slots] at X4 l4 y4 z4 st4 hQ4
      subst l4 y4 z4
      obtain ⟨rfl, N4, K4, A4⟩ := hQ4
      refine Owes.by (fun _ kq => st4.trans kq) ?_
      show Owes p e below s (QV Z h0 n0) ({ frames := 3, cells := 1, slots := 1, locals := 42 } : Room).cells ({ frames := 3, cells := 1, slots := 1, locals := 42 } : Room).slots T4 (mkF m 39 #[(.val (.long u)), .second, (.val (.int (128 : Int32)))] [(.ref b3)])
      refine Owes.ret X4 (v := some (.ref b3)) (fun h => by rw [Bd.returns] at h; cases h) hlk ?_ (by decide) (by decide) (fun fs hr => retOut X4 hx Bd.returns rfl (Or.inr (Or.inr (Or.inr (Or.inr ⟨rfl, rfl, rfl⟩)))) (hb hby d4_39) hr)
      exact ⟨b3, rfl, Fr.app N0 N4, own_ext (((Keep.refl h0 []).ext E3).trans K4 (allS (Or.inr (Nat.le_of_eq g3.symm)) all0)), A4⟩
    · skip
      refine Owes.by (fun _ kq => XS.ifNo X0.here hx rfl (hb hby d4_17) rfl (XT.ll_gt_f q1) kq) ?_
      show Owes p e below s (QV Z h0 n0) ({ frames := 3, cells := 1, slots := 1, locals := 42 } : Room).cells ({ frames := 3, cells := 1, slots := 1, locals := 42 } : Room).slots s₁ (mkF m 20 #[(.val (.long u)), .second, (.val (.int (128 : Int32)))] [])
      obtain ⟨T5, X5, e5, st5⟩ := getS2 X0 hx hZ hown (host := "") (Or.inl (hw _ (List.mem_of_getElem? (i := 33) rfl))) Via.refl e0 S_cache (g := (mkF m 20 #[(.val (.long u)), .second, (.val (.int (128 : Int32)))] [])) rfl (hb hby d4_20)
      refine Owes.by st5 ?_
      show Owes p e below s (QV Z h0 n0) ({ frames := 3, cells := 1, slots := 1, locals := 42 } : Room).cells ({ frames := 3, cells := 1, slots := 1, locals := 42 } : Room).slots T5 (mkF m 23 #[(.val (.long u)), .second, (.val (.int (128 : Int32)))] [(.ref ca)])
      refine Owes.by (fun _ kq => XT.lloadN X5.here hx rfl (hb hby d4_23) rfl kq) ?_
      show Owes p e below s (QV Z h0 n0) ({ frames := 3, cells := 1, slots := 1, locals := 42 } : Room).cells ({ frames := 3, cells := 1, slots := 1, locals := 42 } : Room).slots T5 (mkF m 24 #[(.val (.long u)), .second, (.val (.int (128 : Int32)))] [(.long u), (.ref ca)])
      refine Owes.by (fun _ kq => XT.l2i X5.here hx rfl (hb hby d4_24) rfl kq) ?_
      show Owes p e below s (QV Z h0 n0) ({ frames := 3, cells := 1, slots := 1, locals := 42 } : Room).cells ({ frames := 3, cells := 1, slots := 1, locals := 42 } : Room).slots T5 (mkF m 25 #[(.val (.long u)), .second, (.val (.int (128 : Int32)))] [(.int (u.toInt32)), (.ref ca)])
      refine Owes.by (fun _ kq => XS.sipush X5.here hx rfl (hb hby d4_25) kq) ?_
      show Owes p e below s (QV Z h0 n0) ({ frames := 3, cells := 1, slots := 1, locals := 42 } : Room).cells ({ frames := 3, cells := 1, slots := 1, locals := 42 } : Room).slots T5 (mkF m 28 #[(.val (.long u)), .second, (.val (.int (128 : Int32)))] [(.int (128 : Int32)), (.int (u.toInt32)), (.ref ca)])
      refine Owes.by (fun _ kq => XS.iadd X5.here hx rfl (hb hby d4_28) rfl kq) ?_
      show Owes p e below s (QV Z h0 n0) ({ frames := 3, cells := 1, slots := 1, locals := 42 } : Room).cells ({ frames := 3, cells := 1, slots := 1, locals := 42 } : Room).slots T5 (mkF m 29 #[(.val (.long u)), .second, (.val (.int (128 : Int32)))] [(.int ((u.toInt32) + (128 : Int32))), (.ref ca)])
      obtain ⟨hj, w, hat, Ew⟩ := hall ((u.toInt32) + (128 : Int32)) (Jvm.Free.LongBox.place_okL u q0 q1).1
      refine Owes.by (fun tq kq => X5.aaload hx (j := ((u.toInt32) + (128 : Int32))) (v := (.ref w)) (by rw [e5]; exact Ar.1) (State.isArrayOf_alike hZ.alike Ar.2.1) rfl Ar.2.2 hj hat (g := (mkF m 29 #[(.val (.long u)), .second, (.val (.int (128 : Int32)))] [(.int ((u.toInt32) + (128 : Int32))), (.ref ca)])) rfl rfl (hb hby d4_29) tq kq) ?_
      show Owes p e below s (QV Z h0 n0) ({ frames := 3, cells := 1, slots := 1, locals := 42 } : Room).cells ({ frames := 3, cells := 1, slots := 1, locals := 42 } : Room).slots T5 (mkF m 30 #[(.val (.long u)), .second, (.val (.int (128 : Int32)))] [(.ref w)])
      refine Owes.ret X5 (v := some (.ref w)) (fun h => by rw [Bd.returns] at h; cases h) hlk ?_ (by decide) (by decide) (fun fs hr => retOut X5 hx Bd.returns rfl (Or.inr (Or.inr (Or.inr (Or.inr ⟨rfl, rfl, rfl⟩)))) (hb hby d4_30) hr)
      rw [e5]
      exact ⟨w, rfl, N0, ⟨Nat.le_refl _, fun _ _ q => q⟩, Ew⟩
theorem ef_rm0 (m : MethodId) (x0 : Int64) (x1 : Int64) (x2 : Int64) (x3 : Int64) (x4 : Int32) (x5 : Int32) : entryFrame m #[(.long x0), (.long x1), (.long x2), (.long x3), (.int x4), (.int x5)] maxLocals = mkF m 0 #[(.val (.long x0)), .second, (.val (.long x1)), .second, (.val (.long x2)), .second, (.val (.long x3)), .second, (.val (.int x4)), (.val (.int x5)), .unset, .unset, .unset, .unset, .unset, .unset, .unset, .unset, .unset, .unset, .unset, .unset, .unset, .unset, .unset, .unset, .unset, .unset, .unset, .unset, .unset, .unset, .unset, .unset, .unset, .unset, .unset, .unset, .unset, .unset, .unset, .unset, .unset] [] := by first | (simp [entryFrame, mkF, argsToLocals, Value.category, maxLocals]; done) | rfl
set_option maxRecDepth 65536 in
set_option maxHeartbeats 40000000 in
theorem rm0 (l : Launch) (Z : State) (a0 : Array Value) (hw : ∀ d ∈ tables_1, d.before a0 Z = true) (ws : List Jvm.Cond) (p0 p1 p2 p3 : Int64) (p4 p5 : Int32) (ca : Addr) (cl : Cell) (h0 : Heap) (n0 : Nat) (Z0 : n0 ≤ h0.size) (S_cache : Sta Z h0 "java/lang/Long$LongCache" "cache" "[Ljava/lang/Long;" (.ref ca)) (Ar : Arr Z h0 ca cl (.object "java/lang/Long")) (hall : ∀ j : Int32, ¬ (j < 0 ∨ 256 ≤ j.toNatClampNeg) → ¬ (j < 0 ∨ cl.slots.size ≤ j.toNatClampNeg) ∧ ∃ w, cl.slots[j.toNatClampNeg]? = some (.ref w) ∧ Exa Z h0 w "java/lang/Long") :
    MetFree l x (head1 (Jvm.Cond.code x code maxLocals ret :: ws) room_1) (fun aa UU => aa = #[(.long p0), (.long p1), (.long p2), (.long p3), (.int p4), (.int p5)] ∧ Z.Warmed39 UU.vm ∧ UU.heap = h0) (fun _ _ _ _ _ => True) (fun _ UU oo UU' => ∃ vr Lr, oo = .returned vr ∧ (QL n0) vr UU'.heap Lr ∧ FrameEnd UU oo UU' Lr room_1.cells room_1.slots) := by
  refine MetFree.of_bodySF (plainFor_of_name pn_RangeEqualsPinLaw) hisR ?_
  intro p e s m args below meth c s₁ Bd hml0 hP hK
  obtain ⟨rfl, hZ, hh⟩ := hP
  have hx := Bd.exec
  have hby := Bd.bytes
  have hml : c.maxLocals = 43 := hml0
  have hown : s.vm.findClass "com/example/chunkmark/chunkmark/dataset/RangeEqualsPinLaw" = some m.cls := findClass_of_methodNamed Bd.named
  have hnm := (name_of_methodNamed Bd.named Bd.method).1
  have hlk := Bd.notSynchronized
  have X0 : Stand p l e room_1 s m #[(.long p0), (.long p1), (.long p2), (.long p3), (.int p4), (.int p5)] below meth c s₁ [] 0 0 := Stand.of_body Bd
  have e0 : s₁.heap = h0 := by rw [← hh, Bd.state]; rfl
  have N0 := Fr.nil n0
  show Owes p e below s (QL n0) room_1.cells room_1.slots s₁ (entryFrame m #[(.long p0), (.long p1), (.long p2), (.long p3), (.int p4), (.int p5)] maxLocals)
  rw [ef_rm0 m p0 p1 p2 p3 p4 p5]
  show Owes p e below s (QL n0) room_1.cells room_1.slots s₁ (mkF m 0 #[(.val (.long p0)), .second, (.val (.long p1)), .second, (.val (.long p2)), .second, (.val (.long p3)), .second, (.val (.int p4)), (.val (.int p5)), .unset, .unset, .unset, .unset, .unset, .unset, .unset, .unset, .unset, .unset, .unset, .unset, .unset, .unset, .unset, .unset, .unset, .unset, .unset, .unset, .unset, .unset, .unset, .unset, .unset, .unset, .unset, .unset, .unset, .unset, .unset, .unset, .unset] [])
  refine Owes.by (fun _ kq => XS.iload X0.here hx rfl (hb hby at_0) rfl kq) ?_
  show Owes p e below s (QL n0) room_1.cells room_1.slots s₁ (mkF m 2 #[(.val (.long p0)), .second, (.val (.long p1)), .second, (.val (.long p2)), .second, (.val (.long p3)), .second, (.val (.int p4)), (.val (.int p5)), .unset, .unset, .unset, .unset, .unset, .unset, .unset, .unset, .unset, .unset, .unset, .unset, .unset, .unset, .unset, .unset, .unset, .unset, .unset, .unset, .unset, .unset, .unset, .unset, .unset, .unset, .unset, .unset, .unset, .unset, .unset, .unset, .unset] [(.int p4)])
  refine Owes.by (fun _ kq => XS.bipush X0.here hx rfl (hb hby at_2) kq) ?_
  show Owes p e below s (QL n0) room_1.cells room_1.slots s₁ (mkF m 4 #[(.val (.long p0)), .second, (.val (.long p1)), .second, (.val (.long p2)), .second, (.val (.long p3)), .second, (.val (.int p4)), (.val (.int p5)), .unset, .unset, .unset, .unset, .unset, .unset, .unset, .unset, .unset, .unset, .unset, .unset, .unset, .unset, .unset, .unset, .unset, .unset, .unset, .unset, .unset, .unset, .unset, .unset, .unset, .unset, .unset, .unset, .unset, .unset, .unset, .unset, .unset] [(.int (7 : Int32)), (.int p4)])
  refine Owes.by (fun _ kq => XS.iand X0.here hx rfl (hb hby at_4) rfl kq) ?_
  show Owes p e below s (QL n0) room_1.cells room_1.slots s₁ (mkF m 5 #[(.val (.long p0)), .second, (.val (.long p1)), .second, (.val (.long p2)), .second, (.val (.long p3)), .second, (.val (.int p4)), (.val (.int p5)), .unset, .unset, .unset, .unset, .unset, .unset, .unset, .unset, .unset, .unset, .unset, .unset, .unset, .unset, .unset, .unset, .unset, .unset, .unset, .unset, .unset, .unset, .unset, .unset, .unset, .unset, .unset, .unset, .unset, .unset, .unset, .unset, .unset] [(.int (p4 &&& (7 : Int32)))])
  refine Owes.by (fun _ kq => XT.i2l X0.here hx rfl (hb hby at_5) rfl kq) ?_
  show Owes p e below s (QL n0) room_1.cells room_1.slots s₁ (mkF m 6 #[(.val (.long p0)), .second, (.val (.long p1)), .second, (.val (.long p2)), .second, (.val (.long p3)), .second, (.val (.int p4)), (.val (.int p5)), .unset, .unset, .unset, .unset, .unset, .unset, .unset, .unset, .unset, .unset, .unset, .unset, .unset, .unset, .unset, .unset, .unset, .unset, .unset, .unset, .unset, .unset, .unset, .unset, .unset, .unset, .unset, .unset, .unset, .unset, .unset, .unset, .unset] [(.long ((p4 &&& (7 : Int32)).toInt64))])
  have h_c1 : 0 ≤ (((p4 &&& (7 : Int32)).toInt64)).toInt ∧ (((p4 &&& (7 : Int32)).toInt64)).toInt ≤ 7 := own_c _
  generalize ((p4 &&& (7 : Int32)).toInt64) = c1 at h_c1 ⊢
  show Owes p e below s (QL n0) room_1.cells room_1.slots s₁ (mkF m 6 #[(.val (.long p0)), .second, (.val (.long p1)), .second, (.val (.long p2)), .second, (.val (.long p3)), .second, (.val (.int p4)), (.val (.int p5)), .unset, .unset, .unset, .unset, .unset, .unset, .unset, .unset, .unset, .unset, .unset, .unset, .unset, .unset, .unset, .unset, .unset, .unset, .unset, .unset, .unset, .unset, .unset, .unset, .unset, .unset, .unset, .unset, .unset, .unset, .unset, .unset, .unset] [(.long c1)])
  refine Owes.by (fun _ kq => XT.lstore X0.here hx rfl (hb hby at_6) rfl (l' := #[(.val (.long p0)), .second, (.val (.long p1)), .second, (.val (.long p2)), .second, (.val (.long p3)), .second, (.val (.int p4)), (.val (.int p5)), (.val (.long c1)), .second, .unset, .unset, .unset, .unset, .unset, .unset, .unset, .unset, .unset, .unset, .unset, .unset, .unset, .unset, .unset, .unset, .unset, .unset, .unset, .unset, .unset, .unset, .unset, .unset, .unset, .unset, .unset, .unset, .unset, .unset, .unset]) rfl kq) ?_
  show Owes p e below s (QL n0) room_1.cells room_1.slots s₁ (mkF m 8 #[(.val (.long p0)), .second, (.val (.long p1)), .second, (.val (.long p2)), .second, (.val (.long p3)), .second, (.val (.int p4)), (.val (.int p5)), (.val (.long c1)), .second, .unset, .unset, .unset, .unset, .unset, .unset, .unset, .unset, .unset, .unset, .unset, .unset, .unset, .unset, .unset, .unset, .unset, .unset, .unset, .unset, .unset, .unset, .unset, .unset, .unset, .unset, .unset, .unset, .unset, .unset, .unset] [])
  refine Owes.by (fun _ kq => XT.lloadN X0.here hx rfl (hb hby at_8) rfl kq) ?_
  show Owes p e below s (QL n0) room_1.cells room_1.slots s₁ (mkF m 9 #[(.val (.long p0)), .second, (.val (.long p1)), .second, (.val (.long p2)), .second, (.val (.long p3)), .second, (.val (.int p4)), (.val (.int p5)), (.val (.long c1)), .second, .unset, .unset, .unset, .unset, .unset, .unset, .unset, .unset, .unset, .unset, .unset, .unset, .unset, .unset, .unset, .unset, .unset, .unset, .unset, .unset, .unset, .unset, .unset, .unset, .unset, .unset, .unset, .unset, .unset, .unset, .unset] [(.long p0)])
  refine Owes.by (fun tq kq => X0.ldc2Long hx hown (mvT hZ (hw _ (List.mem_of_getElem? (i := 0) rfl))) (g := (mkF m 9 #[(.val (.long p0)), .second, (.val (.long p1)), .second, (.val (.long p2)), .second, (.val (.long p3)), .second, (.val (.int p4)), (.val (.int p5)), (.val (.long c1)), .second, .unset, .unset, .unset, .unset, .unset, .unset, .unset, .unset, .unset, .unset, .unset, .unset, .unset, .unset, .unset, .unset, .unset, .unset, .unset, .unset, .unset, .unset, .unset, .unset, .unset, .unset, .unset, .unset, .unset, .unset, .unset] [(.long p0)])) rfl (hb hby at_9) tq kq) ?_
  show Owes p e below s (QL n0) room_1.cells room_1.slots s₁ (mkF m 12 #[(.val (.long p0)), .second, (.val (.long p1)), .second, (.val (.long p2)), .second, (.val (.long p3)), .second, (.val (.int p4)), (.val (.int p5)), (.val (.long c1)), .second, .unset, .unset, .unset, .unset, .unset, .unset, .unset, .unset, .unset, .unset, .unset, .unset, .unset, .unset, .unset, .unset, .unset, .unset, .unset, .unset, .unset, .unset, .unset, .unset, .unset, .unset, .unset, .unset, .unset, .unset, .unset] [(.long (4611686018427387903 : Int64)), (.long p0)])
  refine Owes.by (fun _ kq => XT.land X0.here hx rfl (hb hby at_12) rfl kq) ?_
  show Owes p e below s (QL n0) room_1.cells room_1.slots s₁ (mkF m 13 #[(.val (.long p0)), .second, (.val (.long p1)), .second, (.val (.long p2)), .second, (.val (.long p3)), .second, (.val (.int p4)), (.val (.int p5)), (.val (.long c1)), .second, .unset, .unset, .unset, .unset, .unset, .unset, .unset, .unset, .unset, .unset, .unset, .unset, .unset, .unset, .unset, .unset, .unset, .unset, .unset, .unset, .unset, .unset, .unset, .unset, .unset, .unset, .unset, .unset, .unset, .unset, .unset] [(.long (p0 &&& (4611686018427387903 : Int64)))])
  have h_s1 : 0 ≤ ((p0 &&& (4611686018427387903 : Int64))).toInt ∧ ((p0 &&& (4611686018427387903 : Int64))).toInt ≤ 4611686018427387903 := own_s _
  generalize (p0 &&& (4611686018427387903 : Int64)) = s1 at h_s1 ⊢
  show Owes p e below s (QL n0) room_1.cells room_1.slots s₁ (mkF m 13 #[(.val (.long p0)), .second, (.val (.long p1)), .second, (.val (.long p2)), .second, (.val (.long p3)), .second, (.val (.int p4)), (.val (.int p5)), (.val (.long c1)), .second, .unset, .unset, .unset, .unset, .unset, .unset, .unset, .unset, .unset, .unset, .unset, .unset, .unset, .unset, .unset, .unset, .unset, .unset, .unset, .unset, .unset, .unset, .unset, .unset, .unset, .unset, .unset, .unset, .unset, .unset, .unset] [(.long s1)])
  refine Owes.by (fun _ kq => XT.lstore X0.here hx rfl (hb hby at_13) rfl (l' := #[(.val (.long p0)), .second, (.val (.long p1)), .second, (.val (.long p2)), .second, (.val (.long p3)), .second, (.val (.int p4)), (.val (.int p5)), (.val (.long c1)), .second, (.val (.long s1)), .second, .unset, .unset, .unset, .unset, .unset, .unset, .unset, .unset, .unset, .unset, .unset, .unset, .unset, .unset, .unset, .unset, .unset, .unset, .unset, .unset, .unset, .unset, .unset, .unset, .unset, .unset, .unset, .unset, .unset]) rfl kq) ?_
  show Owes p e below s (QL n0) room_1.cells room_1.slots s₁ (mkF m 15 #[(.val (.long p0)), .second, (.val (.long p1)), .second, (.val (.long p2)), .second, (.val (.long p3)), .second, (.val (.int p4)), (.val (.int p5)), (.val (.long c1)), .second, (.val (.long s1)), .second, .unset, .unset, .unset, .unset, .unset, .unset, .unset, .unset, .unset, .unset, .unset, .unset, .unset, .unset, .unset, .unset, .unset, .unset, .unset, .unset, .unset, .unset, .unset, .unset, .unset, .unset, .unset, .unset, .unset] [])
  refine Owes.by (fun _ kq => XT.lconst X0.here hx rfl (hb hby at_15) kq) ?_
  show Owes p e below s (QL n0) room_1.cells room_1.slots s₁ (mkF m 16 #[(.val (.long p0)), .second, (.val (.long p1)), .second, (.val (.long p2)), .second, (.val (.long p3)), .second, (.val (.int p4)), (.val (.int p5)), (.val (.long c1)), .second, (.val (.long s1)), .second, .unset, .unset, .unset, .unset, .unset, .unset, .unset, .unset, .unset, .unset, .unset, .unset, .unset, .unset, .unset, .unset, .unset, .unset, .unset, .unset, .unset, .unset, .unset, .unset, .unset, .unset, .unset, .unset, .unset] [(.long (1 : Int64))])
  refine Owes.by (fun _ kq => XT.lloadN X0.here hx rfl (hb hby at_16) rfl kq) ?_
  show Owes p e below s (QL n0) room_1.cells room_1.slots s₁ (mkF m 17 #[(.val (.long p0)), .second, (.val (.long p1)), .second, (.val (.long p2)), .second, (.val (.long p3)), .second, (.val (.int p4)), (.val (.int p5)), (.val (.long c1)), .second, (.val (.long s1)), .second, .unset, .unset, .unset, .unset, .unset, .unset, .unset, .unset, .unset, .unset, .unset, .unset, .unset, .unset, .unset, .unset, .unset, .unset, .unset, .unset, .unset, .unset, .unset, .unset, .unset, .unset, .unset, .unset, .unset] [(.long p1), (.long (1 : Int64))])
  refine Owes.by (fun tq kq => X0.ldc2Long hx hown (mvT hZ (hw _ (List.mem_of_getElem? (i := 1) rfl))) (g := (mkF m 17 #[(.val (.long p0)), .second, (.val (.long p1)), .second, (.val (.long p2)), .second, (.val (.long p3)), .second, (.val (.int p4)), (.val (.int p5)), (.val (.long c1)), .second, (.val (.long s1)), .second, .unset, .unset, .unset, .unset, .unset, .unset, .unset, .unset, .unset, .unset, .unset, .unset, .unset, .unset, .unset, .unset, .unset, .unset, .unset, .unset, .unset, .unset, .unset, .unset, .unset, .unset, .unset, .unset, .unset] [(.long p1), (.long (1 : Int64))])) rfl (hb hby at_17) tq kq) ?_
  show Owes p e below s (QL n0) room_1.cells room_1.slots s₁ (mkF m 20 #[(.val (.long p0)), .second, (.val (.long p1)), .second, (.val (.long p2)), .second, (.val (.long p3)), .second, (.val (.int p4)), (.val (.int p5)), (.val (.long c1)), .second, (.val (.long s1)), .second, .unset, .unset, .unset, .unset, .unset, .unset, .unset, .unset, .unset, .unset, .unset, .unset, .unset, .unset, .unset, .unset, .unset, .unset, .unset, .unset, .unset, .unset, .unset, .unset, .unset, .unset, .unset, .unset, .unset] [(.long (1099511627775 : Int64)), (.long p1), (.long (1 : Int64))])
  refine Owes.by (fun _ kq => XT.land X0.here hx rfl (hb hby at_20) rfl kq) ?_
  show Owes p e below s (QL n0) room_1.cells room_1.slots s₁ (mkF m 21 #[(.val (.long p0)), .second, (.val (.long p1)), .second, (.val (.long p2)), .second, (.val (.long p3)), .second, (.val (.int p4)), (.val (.int p5)), (.val (.long c1)), .second, (.val (.long s1)), .second, .unset, .unset, .unset, .unset, .unset, .unset, .unset, .unset, .unset, .unset, .unset, .unset, .unset, .unset, .unset, .unset, .unset, .unset, .unset, .unset, .unset, .unset, .unset, .unset, .unset, .unset, .unset, .unset, .unset] [(.long (p1 &&& (1099511627775 : Int64))), (.long (1 : Int64))])
  refine Owes.by (fun _ kq => XT.ladd X0.here hx rfl (hb hby at_21) rfl kq) ?_
  show Owes p e below s (QL n0) room_1.cells room_1.slots s₁ (mkF m 22 #[(.val (.long p0)), .second, (.val (.long p1)), .second, (.val (.long p2)), .second, (.val (.long p3)), .second, (.val (.int p4)), (.val (.int p5)), (.val (.long c1)), .second, (.val (.long s1)), .second, .unset, .unset, .unset, .unset, .unset, .unset, .unset, .unset, .unset, .unset, .unset, .unset, .unset, .unset, .unset, .unset, .unset, .unset, .unset, .unset, .unset, .unset, .unset, .unset, .unset, .unset, .unset, .unset, .unset] [(.long ((1 : Int64) + (p1 &&& (1099511627775 : Int64))))])
  have h_d1 : 1 ≤ (((1 : Int64) + (p1 &&& (1099511627775 : Int64)))).toInt ∧ (((1 : Int64) + (p1 &&& (1099511627775 : Int64)))).toInt ≤ 1099511627776 := own_d _
  generalize ((1 : Int64) + (p1 &&& (1099511627775 : Int64))) = d1 at h_d1 ⊢
  show Owes p e below s (QL n0) room_1.cells room_1.slots s₁ (mkF m 22 #[(.val (.long p0)), .second, (.val (.long p1)), .second, (.val (.long p2)), .second, (.val (.long p3)), .second, (.val (.int p4)), (.val (.int p5)), (.val (.long c1)), .second, (.val (.long s1)), .second, .unset, .unset, .unset, .unset, .unset, .unset, .unset, .unset, .unset, .unset, .unset, .unset, .unset, .unset, .unset, .unset, .unset, .unset, .unset, .unset, .unset, .unset, .unset, .unset, .unset, .unset, .unset, .unset, .unset] [(.long d1)])
  refine Owes.by (fun _ kq => XT.lstore X0.here hx rfl (hb hby at_22) rfl (l' := #[(.val (.long p0)), .second, (.val (.long p1)), .second, (.val (.long p2)), .second, (.val (.long p3)), .second, (.val (.int p4)), (.val (.int p5)), (.val (.long c1)), .second, (.val (.long s1)), .second, (.val (.long d1)), .second, .unset, .unset, .unset, .unset, .unset, .unset, .unset, .unset, .unset, .unset, .unset, .unset, .unset, .unset, .unset, .unset, .unset, .unset, .unset, .unset, .unset, .unset, .unset, .unset, .unset, .unset, .unset]) rfl kq) ?_
  show Owes p e below s (QL n0) room_1.cells room_1.slots s₁ (mkF m 24 #[(.val (.long p0)), .second, (.val (.long p1)), .second, (.val (.long p2)), .second, (.val (.long p3)), .second, (.val (.int p4)), (.val (.int p5)), (.val (.long c1)), .second, (.val (.long s1)), .second, (.val (.long d1)), .second, .unset, .unset, .unset, .unset, .unset, .unset, .unset, .unset, .unset, .unset, .unset, .unset, .unset, .unset, .unset, .unset, .unset, .unset, .unset, .unset, .unset, .unset, .unset, .unset, .unset, .unset, .unset] [])
  refine Owes.by (fun _ kq => XT.lloadN X0.here hx rfl (hb hby at_24) rfl kq) ?_
  show Owes p e below s (QL n0) room_1.cells room_1.slots s₁ (mkF m 25 #[(.val (.long p0)), .second, (.val (.long p1)), .second, (.val (.long p2)), .second, (.val (.long p3)), .second, (.val (.int p4)), (.val (.int p5)), (.val (.long c1)), .second, (.val (.long s1)), .second, (.val (.long d1)), .second, .unset, .unset, .unset, .unset, .unset, .unset, .unset, .unset, .unset, .unset, .unset, .unset, .unset, .unset, .unset, .unset, .unset, .unset, .unset, .unset, .unset, .unset, .unset, .unset, .unset, .unset, .unset] [(.long p1)])
  refine Owes.by (fun _ kq => XS.bipush X0.here hx rfl (hb hby at_25) kq) ?_
  show Owes p e below s (QL n0) room_1.cells room_1.slots s₁ (mkF m 27 #[(.val (.long p0)), .second, (.val (.long p1)), .second, (.val (.long p2)), .second, (.val (.long p3)), .second, (.val (.int p4)), (.val (.int p5)), (.val (.long c1)), .second, (.val (.long s1)), .second, (.val (.long d1)), .second, .unset, .unset, .unset, .unset, .unset, .unset, .unset, .unset, .unset, .unset, .unset, .unset, .unset, .unset, .unset, .unset, .unset, .unset, .unset, .unset, .unset, .unset, .unset, .unset, .unset, .unset, .unset] [(.int (40 : Int32)), (.long p1)])
  refine Owes.by (fun _ kq => XT.lushr X0.here hx rfl (hb hby at_27) rfl kq) ?_
  show Owes p e below s (QL n0) room_1.cells room_1.slots s₁ (mkF m 28 #[(.val (.long p0)), .second, (.val (.long p1)), .second, (.val (.long p2)), .second, (.val (.long p3)), .second, (.val (.int p4)), (.val (.int p5)), (.val (.long c1)), .second, (.val (.long s1)), .second, (.val (.long d1)), .second, .unset, .unset, .unset, .unset, .unset, .unset, .unset, .unset, .unset, .unset, .unset, .unset, .unset, .unset, .unset, .unset, .unset, .unset, .unset, .unset, .unset, .unset, .unset, .unset, .unset, .unset, .unset] [(.long (XT.ushrL p1 (40 : Int32)))])
  refine Owes.by (fun tq kq => X0.ldc2Long hx hown (mvT hZ (hw _ (List.mem_of_getElem? (i := 2) rfl))) (g := (mkF m 28 #[(.val (.long p0)), .second, (.val (.long p1)), .second, (.val (.long p2)), .second, (.val (.long p3)), .second, (.val (.int p4)), (.val (.int p5)), (.val (.long c1)), .second, (.val (.long s1)), .second, (.val (.long d1)), .second, .unset, .unset, .unset, .unset, .unset, .unset, .unset, .unset, .unset, .unset, .unset, .unset, .unset, .unset, .unset, .unset, .unset, .unset, .unset, .unset, .unset, .unset, .unset, .unset, .unset, .unset, .unset] [(.long (XT.ushrL p1 (40 : Int32)))])) rfl (hb hby at_28) tq kq) ?_
  show Owes p e below s (QL n0) room_1.cells room_1.slots s₁ (mkF m 31 #[(.val (.long p0)), .second, (.val (.long p1)), .second, (.val (.long p2)), .second, (.val (.long p3)), .second, (.val (.int p4)), (.val (.int p5)), (.val (.long c1)), .second, (.val (.long s1)), .second, (.val (.long d1)), .second, .unset, .unset, .unset, .unset, .unset, .unset, .unset, .unset, .unset, .unset, .unset, .unset, .unset, .unset, .unset, .unset, .unset, .unset, .unset, .unset, .unset, .unset, .unset, .unset, .unset, .unset, .unset] [(.long (1048575 : Int64)), (.long (XT.ushrL p1 (40 : Int32)))])
  refine Owes.by (fun _ kq => XT.land X0.here hx rfl (hb hby at_31) rfl kq) ?_
  show Owes p e below s (QL n0) room_1.cells room_1.slots s₁ (mkF m 32 #[(.val (.long p0)), .second, (.val (.long p1)), .second, (.val (.long p2)), .second, (.val (.long p3)), .second, (.val (.int p4)), (.val (.int p5)), (.val (.long c1)), .second, (.val (.long s1)), .second, (.val (.long d1)), .second, .unset, .unset, .unset, .unset, .unset, .unset, .unset, .unset, .unset, .unset, .unset, .unset, .unset, .unset, .unset, .unset, .unset, .unset, .unset, .unset, .unset, .unset, .unset, .unset, .unset, .unset, .unset] [(.long ((XT.ushrL p1 (40 : Int32)) &&& (1048575 : Int64)))])
  have h_ee1 : 0 ≤ (((XT.ushrL p1 (40 : Int32)) &&& (1048575 : Int64))).toInt ∧ (((XT.ushrL p1 (40 : Int32)) &&& (1048575 : Int64))).toInt ≤ 1048575 := own_e _
  generalize ((XT.ushrL p1 (40 : Int32)) &&& (1048575 : Int64)) = ee1 at h_ee1 ⊢
  show Owes p e below s (QL n0) room_1.cells room_1.slots s₁ (mkF m 32 #[(.val (.long p0)), .second, (.val (.long p1)), .second, (.val (.long p2)), .second, (.val (.long p3)), .second, (.val (.int p4)), (.val (.int p5)), (.val (.long c1)), .second, (.val (.long s1)), .second, (.val (.long d1)), .second, .unset, .unset, .unset, .unset, .unset, .unset, .unset, .unset, .unset, .unset, .unset, .unset, .unset, .unset, .unset, .unset, .unset, .unset, .unset, .unset, .unset, .unset, .unset, .unset, .unset, .unset, .unset] [(.long ee1)])
  refine Owes.by (fun _ kq => XT.lstore X0.here hx rfl (hb hby at_32) rfl (l' := #[(.val (.long p0)), .second, (.val (.long p1)), .second, (.val (.long p2)), .second, (.val (.long p3)), .second, (.val (.int p4)), (.val (.int p5)), (.val (.long c1)), .second, (.val (.long s1)), .second, (.val (.long d1)), .second, (.val (.long ee1)), .second, .unset, .unset, .unset, .unset, .unset, .unset, .unset, .unset, .unset, .unset, .unset, .unset, .unset, .unset, .unset, .unset, .unset, .unset, .unset, .unset, .unset, .unset, .unset, .unset, .unset]) rfl kq) ?_
  show Owes p e below s (QL n0) room_1.cells room_1.slots s₁ (mkF m 34 #[(.val (.long p0)), .second, (.val (.long p1)), .second, (.val (.long p2)), .second, (.val (.long p3)), .second, (.val (.int p4)), (.val (.int p5)), (.val (.long c1)), .second, (.val (.long s1)), .second, (.val (.long d1)), .second, (.val (.long ee1)), .second, .unset, .unset, .unset, .unset, .unset, .unset, .unset, .unset, .unset, .unset, .unset, .unset, .unset, .unset, .unset, .unset, .unset, .unset, .unset, .unset, .unset, .unset, .unset, .unset, .unset] [])
  refine Owes.by (fun _ kq => XS.iload X0.here hx rfl (hb hby at_34) rfl kq) ?_
  show Owes p e below s (QL n0) room_1.cells room_1.slots s₁ (mkF m 36 #[(.val (.long p0)), .second, (.val (.long p1)), .second, (.val (.long p2)), .second, (.val (.long p3)), .second, (.val (.int p4)), (.val (.int p5)), (.val (.long c1)), .second, (.val (.long s1)), .second, (.val (.long d1)), .second, (.val (.long ee1)), .second, .unset, .unset, .unset, .unset, .unset, .unset, .unset, .unset, .unset, .unset, .unset, .unset, .unset, .unset, .unset, .unset, .unset, .unset, .unset, .unset, .unset, .unset, .unset, .unset, .unset] [(.int p4)])
  refine Owes.by (fun _ kq => XS.iconst X0.here hx rfl (hb hby at_36) kq) ?_
  show Owes p e below s (QL n0) room_1.cells room_1.slots s₁ (mkF m 37 #[(.val (.long p0)), .second, (.val (.long p1)), .second, (.val (.long p2)), .second, (.val (.long p3)), .second, (.val (.int p4)), (.val (.int p5)), (.val (.long c1)), .second, (.val (.long s1)), .second, (.val (.long d1)), .second, (.val (.long ee1)), .second, .unset, .unset, .unset, .unset, .unset, .unset, .unset, .unset, .unset, .unset, .unset, .unset, .unset, .unset, .unset, .unset, .unset, .unset, .unset, .unset, .unset, .unset, .unset, .unset, .unset] [(.int (3 : Int32)), (.int p4)])
  refine Owes.by (fun _ kq => XT.iushr X0.here hx rfl (hb hby at_37) rfl kq) ?_
  show Owes p e below s (QL n0) room_1.cells room_1.slots s₁ (mkF m 38 #[(.val (.long p0)), .second, (.val (.long p1)), .second, (.val (.long p2)), .second, (.val (.long p3)), .second, (.val (.int p4)), (.val (.int p5)), (.val (.long c1)), .second, (.val (.long s1)), .second, (.val (.long d1)), .second, (.val (.long ee1)), .second, .unset, .unset, .unset, .unset, .unset, .unset, .unset, .unset, .unset, .unset, .unset, .unset, .unset, .unset, .unset, .unset, .unset, .unset, .unset, .unset, .unset, .unset, .unset, .unset, .unset] [(.int (XT.ushr p4 (3 : Int32)))])
  refine Owes.by (fun _ kq => XS.iconst X0.here hx rfl (hb hby at_38) kq) ?_
  show Owes p e below s (QL n0) room_1.cells room_1.slots s₁ (mkF m 39 #[(.val (.long p0)), .second, (.val (.long p1)), .second, (.val (.long p2)), .second, (.val (.long p3)), .second, (.val (.int p4)), (.val (.int p5)), (.val (.long c1)), .second, (.val (.long s1)), .second, (.val (.long d1)), .second, (.val (.long ee1)), .second, .unset, .unset, .unset, .unset, .unset, .unset, .unset, .unset, .unset, .unset, .unset, .unset, .unset, .unset, .unset, .unset, .unset, .unset, .unset, .unset, .unset, .unset, .unset, .unset, .unset] [(.int (1 : Int32)), (.int (XT.ushr p4 (3 : Int32)))])
  refine Owes.by (fun _ kq => XS.iand X0.here hx rfl (hb hby at_39) rfl kq) ?_
  show Owes p e below s (QL n0) room_1.cells room_1.slots s₁ (mkF m 40 #[(.val (.long p0)), .second, (.val (.long p1)), .second, (.val (.long p2)), .second, (.val (.long p3)), .second, (.val (.int p4)), (.val (.int p5)), (.val (.long c1)), .second, (.val (.long s1)), .second, (.val (.long d1)), .second, (.val (.long ee1)), .second, .unset, .unset, .unset, .unset, .unset, .unset, .unset, .unset, .unset, .unset, .unset, .unset, .unset, .unset, .unset, .unset, .unset, .unset, .unset, .unset, .unset, .unset, .unset, .unset, .unset] [(.int ((XT.ushr p4 (3 : Int32)) &&& (1 : Int32)))])
  refine own_join X0 (h := h0) (G := fun T' => ∀ (c2 : Int64), (0 ≤ c2.toInt ∧ c2.toInt ≤ 7) → Owes p e below s (QL n0) room_1.cells room_1.slots T' (mkF m 56 #[(.val (.long p0)), .second, (.val (.long p1)), .second, (.val (.long p2)), .second, (.val (.long p3)), .second, (.val (.int p4)), (.val (.int p5)), (.val (.long c1)), .second, (.val (.long s1)), .second, (.val (.long d1)), .second, (.val (.long ee1)), .second, .unset, .unset, .unset, .unset, .unset, .unset, .unset, .unset, .unset, .unset, .unset, .unset, .unset, .unset, .unset, .unset, .unset, .unset, .unset, .unset, .unset, .unset, .unset, .unset, .unset] [(.long c2)])) (fun T1 X1 e1 c2 h_c2 => ?_) (fun J1 => ?_)
  · skip
    show Owes p e below s (QL n0) room_1.cells room_1.slots T1 (mkF m 56 #[(.val (.long p0)), .second, (.val (.long p1)), .second, (.val (.long p2)), .second, (.val (.long p3)), .second, (.val (.int p4)), (.val (.int p5)), (.val (.long c1)), .second, (.val (.long s1)), .second, (.val (.long d1)), .second, (.val (.long ee1)), .second, .unset, .unset, .unset, .unset, .unset, .unset, .unset, .unset, .unset, .unset, .unset, .unset, .unset, .unset, .unset, .unset, .unset, .unset, .unset, .unset, .unset, .unset, .unset, .unset, .unset] [(.long c2)])
    refine Owes.by (fun _ kq => XT.lstore X1.here hx rfl (hb hby at_56) rfl (l' := #[(.val (.long p0)), .second, (.val (.long p1)), .second, (.val (.long p2)), .second, (.val (.long p3)), .second, (.val (.int p4)), (.val (.int p5)), (.val (.long c1)), .second, (.val (.long s1)), .second, (.val (.long d1)), .second, (.val (.long ee1)), .second, (.val (.long c2)), .second, .unset, .unset, .unset, .unset, .unset, .unset, .unset, .unset, .unset, .unset, .unset, .unset, .unset, .unset, .unset, .unset, .unset, .unset, .unset, .unset, .unset, .unset, .unset]) rfl kq) ?_
    show Owes p e below s (QL n0) room_1.cells room_1.slots T1 (mkF m 58 #[(.val (.long p0)), .second, (.val (.long p1)), .second, (.val (.long p2)), .second, (.val (.long p3)), .second, (.val (.int p4)), (.val (.int p5)), (.val (.long c1)), .second, (.val (.long s1)), .second, (.val (.long d1)), .second, (.val (.long ee1)), .second, (.val (.long c2)), .second, .unset, .unset, .unset, .unset, .unset, .unset, .unset, .unset, .unset, .unset, .unset, .unset, .unset, .unset, .unset, .unset, .unset, .unset, .unset, .unset, .unset, .unset, .unset] [])
    refine Owes.by (fun _ kq => XS.iload X1.here hx rfl (hb hby at_58) rfl kq) ?_
    show Owes p e below s (QL n0) room_1.cells room_1.slots T1 (mkF m 60 #[(.val (.long p0)), .second, (.val (.long p1)), .second, (.val (.long p2)), .second, (.val (.long p3)), .second, (.val (.int p4)), (.val (.int p5)), (.val (.long c1)), .second, (.val (.long s1)), .second, (.val (.long d1)), .second, (.val (.long ee1)), .second, (.val (.long c2)), .second, .unset, .unset, .unset, .unset, .unset, .unset, .unset, .unset, .unset, .unset, .unset, .unset, .unset, .unset, .unset, .unset, .unset, .unset, .unset, .unset, .unset, .unset, .unset] [(.int p4)])
    refine Owes.by (fun _ kq => XS.bipush X1.here hx rfl (hb hby at_60) kq) ?_
    show Owes p e below s (QL n0) room_1.cells room_1.slots T1 (mkF m 62 #[(.val (.long p0)), .second, (.val (.long p1)), .second, (.val (.long p2)), .second, (.val (.long p3)), .second, (.val (.int p4)), (.val (.int p5)), (.val (.long c1)), .second, (.val (.long s1)), .second, (.val (.long d1)), .second, (.val (.long ee1)), .second, (.val (.long c2)), .second, .unset, .unset, .unset, .unset, .unset, .unset, .unset, .unset, .unset, .unset, .unset, .unset, .unset, .unset, .unset, .unset, .unset, .unset, .unset, .unset, .unset, .unset, .unset] [(.int (7 : Int32)), (.int p4)])
    refine Owes.by (fun _ kq => XT.iushr X1.here hx rfl (hb hby at_62) rfl kq) ?_
    show Owes p e below s (QL n0) room_1.cells room_1.slots T1 (mkF m 63 #[(.val (.long p0)), .second, (.val (.long p1)), .second, (.val (.long p2)), .second, (.val (.long p3)), .second, (.val (.int p4)), (.val (.int p5)), (.val (.long c1)), .second, (.val (.long s1)), .second, (.val (.long d1)), .second, (.val (.long ee1)), .second, (.val (.long c2)), .second, .unset, .unset, .unset, .unset, .unset, .unset, .unset, .unset, .unset, .unset, .unset, .unset, .unset, .unset, .unset, .unset, .unset, .unset, .unset, .unset, .unset, .unset, .unset] [(.int (XT.ushr p4 (7 : Int32)))])
    refine Owes.by (fun _ kq => XS.iconst X1.here hx rfl (hb hby at_63) kq) ?_
    show Owes p e below s (QL n0) room_1.cells room_1.slots T1 (mkF m 64 #[(.val (.long p0)), .second, (.val (.long p1)), .second, (.val (.long p2)), .second, (.val (.long p3)), .second, (.val (.int p4)), (.val (.int p5)), (.val (.long c1)), .second, (.val (.long s1)), .second, (.val (.long d1)), .second, (.val (.long ee1)), .second, (.val (.long c2)), .second, .unset, .unset, .unset, .unset, .unset, .unset, .unset, .unset, .unset, .unset, .unset, .unset, .unset, .unset, .unset, .unset, .unset, .unset, .unset, .unset, .unset, .unset, .unset] [(.int (3 : Int32)), (.int (XT.ushr p4 (7 : Int32)))])
    refine Owes.by (fun _ kq => XS.iand X1.here hx rfl (hb hby at_64) rfl kq) ?_
    show Owes p e below s (QL n0) room_1.cells room_1.slots T1 (mkF m 65 #[(.val (.long p0)), .second, (.val (.long p1)), .second, (.val (.long p2)), .second, (.val (.long p3)), .second, (.val (.int p4)), (.val (.int p5)), (.val (.long c1)), .second, (.val (.long s1)), .second, (.val (.long d1)), .second, (.val (.long ee1)), .second, (.val (.long c2)), .second, .unset, .unset, .unset, .unset, .unset, .unset, .unset, .unset, .unset, .unset, .unset, .unset, .unset, .unset, .unset, .unset, .unset, .unset, .unset, .unset, .unset, .unset, .unset] [(.int ((XT.ushr p4 (7 : Int32)) &&& (3 : Int32)))])
    generalize ((XT.ushr p4 (7 : Int32)) &&& (3 : Int32)) = ss
    show Owes p e below s (QL n0) room_1.cells room_1.slots T1 (mkF m 65 #[(.val (.long p0)), .second, (.val (.long p1)), .second, (.val (.long p2)), .second, (.val (.long p3)), .second, (.val (.int p4)), (.val (.int p5)), (.val (.long c1)), .second, (.val (.long s1)), .second, (.val (.long d1)), .second, (.val (.long ee1)), .second, (.val (.long c2)), .second, .unset, .unset, .unset, .unset, .unset, .unset, .unset, .unset, .unset, .unset, .unset, .unset, .unset, .unset, .unset, .unset, .unset, .unset, .unset, .unset, .unset, .unset, .unset] [(.int ss)])
    refine Owes.by (fun _ kq => XS.istore X1.here hx rfl (hb hby at_65) rfl (l' := #[(.val (.long p0)), .second, (.val (.long p1)), .second, (.val (.long p2)), .second, (.val (.long p3)), .second, (.val (.int p4)), (.val (.int p5)), (.val (.long c1)), .second, (.val (.long s1)), .second, (.val (.long d1)), .second, (.val (.long ee1)), .second, (.val (.long c2)), .second, (.val (.int ss)), .unset, .unset, .unset, .unset, .unset, .unset, .unset, .unset, .unset, .unset, .unset, .unset, .unset, .unset, .unset, .unset, .unset, .unset, .unset, .unset, .unset, .unset]) rfl kq) ?_
    show Owes p e below s (QL n0) room_1.cells room_1.slots T1 (mkF m 67 #[(.val (.long p0)), .second, (.val (.long p1)), .second, (.val (.long p2)), .second, (.val (.long p3)), .second, (.val (.int p4)), (.val (.int p5)), (.val (.long c1)), .second, (.val (.long s1)), .second, (.val (.long d1)), .second, (.val (.long ee1)), .second, (.val (.long c2)), .second, (.val (.int ss)), .unset, .unset, .unset, .unset, .unset, .unset, .unset, .unset, .unset, .unset, .unset, .unset, .unset, .unset, .unset, .unset, .unset, .unset, .unset, .unset, .unset, .unset] [])
    refine Owes.by (fun _ kq => XS.iload X1.here hx rfl (hb hby at_67) rfl kq) ?_
    show Owes p e below s (QL n0) room_1.cells room_1.slots T1 (mkF m 69 #[(.val (.long p0)), .second, (.val (.long p1)), .second, (.val (.long p2)), .second, (.val (.long p3)), .second, (.val (.int p4)), (.val (.int p5)), (.val (.long c1)), .second, (.val (.long s1)), .second, (.val (.long d1)), .second, (.val (.long ee1)), .second, (.val (.long c2)), .second, (.val (.int ss)), .unset, .unset, .unset, .unset, .unset, .unset, .unset, .unset, .unset, .unset, .unset, .unset, .unset, .unset, .unset, .unset, .unset, .unset, .unset, .unset, .unset, .unset] [(.int ss)])
    refine own_join X1 (h := h0) (G := fun T' => ∀ (s2 : Int64), (0 ≤ s2.toInt ∧ s2.toInt ≤ 4611686018427387906) → Owes p e below s (QL n0) room_1.cells room_1.slots T' (mkF m 100 #[(.val (.long p0)), .second, (.val (.long p1)), .second, (.val (.long p2)), .second, (.val (.long p3)), .second, (.val (.int p4)), (.val (.int p5)), (.val (.long c1)), .second, (.val (.long s1)), .second, (.val (.long d1)), .second, (.val (.long ee1)), .second, (.val (.long c2)), .second, (.val (.int ss)), .unset, .unset, .unset, .unset, .unset, .unset, .unset, .unset, .unset, .unset, .unset, .unset, .unset, .unset, .unset, .unset, .unset, .unset, .unset, .unset, .unset, .unset] [(.long s2)])) (fun T2 X2 e2 s2 h_s2 => ?_) (fun J2 => ?_)
    · skip
      show Owes p e below s (QL n0) room_1.cells room_1.slots T2 (mkF m 100 #[(.val (.long p0)), .second, (.val (.long p1)), .second, (.val (.long p2)), .second, (.val (.long p3)), .second, (.val (.int p4)), (.val (.int p5)), (.val (.long c1)), .second, (.val (.long s1)), .second, (.val (.long d1)), .second, (.val (.long ee1)), .second, (.val (.long c2)), .second, (.val (.int ss)), .unset, .unset, .unset, .unset, .unset, .unset, .unset, .unset, .unset, .unset, .unset, .unset, .unset, .unset, .unset, .unset, .unset, .unset, .unset, .unset, .unset, .unset] [(.long s2)])
      refine Owes.by (fun _ kq => XT.lstore X2.here hx rfl (hb hby at_100) rfl (l' := #[(.val (.long p0)), .second, (.val (.long p1)), .second, (.val (.long p2)), .second, (.val (.long p3)), .second, (.val (.int p4)), (.val (.int p5)), (.val (.long c1)), .second, (.val (.long s1)), .second, (.val (.long d1)), .second, (.val (.long ee1)), .second, (.val (.long c2)), .second, (.val (.int ss)), (.val (.long s2)), .second, .unset, .unset, .unset, .unset, .unset, .unset, .unset, .unset, .unset, .unset, .unset, .unset, .unset, .unset, .unset, .unset, .unset, .unset, .unset, .unset]) rfl kq) ?_
      show Owes p e below s (QL n0) room_1.cells room_1.slots T2 (mkF m 102 #[(.val (.long p0)), .second, (.val (.long p1)), .second, (.val (.long p2)), .second, (.val (.long p3)), .second, (.val (.int p4)), (.val (.int p5)), (.val (.long c1)), .second, (.val (.long s1)), .second, (.val (.long d1)), .second, (.val (.long ee1)), .second, (.val (.long c2)), .second, (.val (.int ss)), (.val (.long s2)), .second, .unset, .unset, .unset, .unset, .unset, .unset, .unset, .unset, .unset, .unset, .unset, .unset, .unset, .unset, .unset, .unset, .unset, .unset, .unset, .unset] [])
      refine Owes.by (fun _ kq => XS.iload X2.here hx rfl (hb hby at_102) rfl kq) ?_
      show Owes p e below s (QL n0) room_1.cells room_1.slots T2 (mkF m 104 #[(.val (.long p0)), .second, (.val (.long p1)), .second, (.val (.long p2)), .second, (.val (.long p3)), .second, (.val (.int p4)), (.val (.int p5)), (.val (.long c1)), .second, (.val (.long s1)), .second, (.val (.long d1)), .second, (.val (.long ee1)), .second, (.val (.long c2)), .second, (.val (.int ss)), (.val (.long s2)), .second, .unset, .unset, .unset, .unset, .unset, .unset, .unset, .unset, .unset, .unset, .unset, .unset, .unset, .unset, .unset, .unset, .unset, .unset, .unset, .unset] [(.int p4)])
      refine Owes.by (fun _ kq => XS.bipush X2.here hx rfl (hb hby at_104) kq) ?_
      show Owes p e below s (QL n0) room_1.cells room_1.slots T2 (mkF m 106 #[(.val (.long p0)), .second, (.val (.long p1)), .second, (.val (.long p2)), .second, (.val (.long p3)), .second, (.val (.int p4)), (.val (.int p5)), (.val (.long c1)), .second, (.val (.long s1)), .second, (.val (.long d1)), .second, (.val (.long ee1)), .second, (.val (.long c2)), .second, (.val (.int ss)), (.val (.long s2)), .second, .unset, .unset, .unset, .unset, .unset, .unset, .unset, .unset, .unset, .unset, .unset, .unset, .unset, .unset, .unset, .unset, .unset, .unset, .unset, .unset] [(.int (9 : Int32)), (.int p4)])
      refine Owes.by (fun _ kq => XT.iushr X2.here hx rfl (hb hby at_106) rfl kq) ?_
      show Owes p e below s (QL n0) room_1.cells room_1.slots T2 (mkF m 107 #[(.val (.long p0)), .second, (.val (.long p1)), .second, (.val (.long p2)), .second, (.val (.long p3)), .second, (.val (.int p4)), (.val (.int p5)), (.val (.long c1)), .second, (.val (.long s1)), .second, (.val (.long d1)), .second, (.val (.long ee1)), .second, (.val (.long c2)), .second, (.val (.int ss)), (.val (.long s2)), .second, .unset, .unset, .unset, .unset, .unset, .unset, .unset, .unset, .unset, .unset, .unset, .unset, .unset, .unset, .unset, .unset, .unset, .unset, .unset, .unset] [(.int (XT.ushr p4 (9 : Int32)))])
      refine Owes.by (fun _ kq => XS.iconst X2.here hx rfl (hb hby at_107) kq) ?_
      show Owes p e below s (QL n0) room_1.cells room_1.slots T2 (mkF m 108 #[(.val (.long p0)), .second, (.val (.long p1)), .second, (.val (.long p2)), .second, (.val (.long p3)), .second, (.val (.int p4)), (.val (.int p5)), (.val (.long c1)), .second, (.val (.long s1)), .second, (.val (.long d1)), .second, (.val (.long ee1)), .second, (.val (.long c2)), .second, (.val (.int ss)), (.val (.long s2)), .second, .unset, .unset, .unset, .unset, .unset, .unset, .unset, .unset, .unset, .unset, .unset, .unset, .unset, .unset, .unset, .unset, .unset, .unset, .unset, .unset] [(.int (3 : Int32)), (.int (XT.ushr p4 (9 : Int32)))])
      refine Owes.by (fun _ kq => XS.iand X2.here hx rfl (hb hby at_108) rfl kq) ?_
      show Owes p e below s (QL n0) room_1.cells room_1.slots T2 (mkF m 109 #[(.val (.long p0)), .second, (.val (.long p1)), .second, (.val (.long p2)), .second, (.val (.long p3)), .second, (.val (.int p4)), (.val (.int p5)), (.val (.long c1)), .second, (.val (.long s1)), .second, (.val (.long d1)), .second, (.val (.long ee1)), .second, (.val (.long c2)), .second, (.val (.int ss)), (.val (.long s2)), .second, .unset, .unset, .unset, .unset, .unset, .unset, .unset, .unset, .unset, .unset, .unset, .unset, .unset, .unset, .unset, .unset, .unset, .unset, .unset, .unset] [(.int ((XT.ushr p4 (9 : Int32)) &&& (3 : Int32)))])
      generalize ((XT.ushr p4 (9 : Int32)) &&& (3 : Int32)) = ds
      show Owes p e below s (QL n0) room_1.cells room_1.slots T2 (mkF m 109 #[(.val (.long p0)), .second, (.val (.long p1)), .second, (.val (.long p2)), .second, (.val (.long p3)), .second, (.val (.int p4)), (.val (.int p5)), (.val (.long c1)), .second, (.val (.long s1)), .second, (.val (.long d1)), .second, (.val (.long ee1)), .second, (.val (.long c2)), .second, (.val (.int ss)), (.val (.long s2)), .second, .unset, .unset, .unset, .unset, .unset, .unset, .unset, .unset, .unset, .unset, .unset, .unset, .unset, .unset, .unset, .unset, .unset, .unset, .unset, .unset] [(.int ds)])
      refine Owes.by (fun _ kq => XS.istore X2.here hx rfl (hb hby at_109) rfl (l' := #[(.val (.long p0)), .second, (.val (.long p1)), .second, (.val (.long p2)), .second, (.val (.long p3)), .second, (.val (.int p4)), (.val (.int p5)), (.val (.long c1)), .second, (.val (.long s1)), .second, (.val (.long d1)), .second, (.val (.long ee1)), .second, (.val (.long c2)), .second, (.val (.int ss)), (.val (.long s2)), .second, (.val (.int ds)), .unset, .unset, .unset, .unset, .unset, .unset, .unset, .unset, .unset, .unset, .unset, .unset, .unset, .unset, .unset, .unset, .unset, .unset, .unset]) rfl kq) ?_
      show Owes p e below s (QL n0) room_1.cells room_1.slots T2 (mkF m 111 #[(.val (.long p0)), .second, (.val (.long p1)), .second, (.val (.long p2)), .second, (.val (.long p3)), .second, (.val (.int p4)), (.val (.int p5)), (.val (.long c1)), .second, (.val (.long s1)), .second, (.val (.long d1)), .second, (.val (.long ee1)), .second, (.val (.long c2)), .second, (.val (.int ss)), (.val (.long s2)), .second, (.val (.int ds)), .unset, .unset, .unset, .unset, .unset, .unset, .unset, .unset, .unset, .unset, .unset, .unset, .unset, .unset, .unset, .unset, .unset, .unset, .unset] [])
      refine Owes.by (fun _ kq => XS.iload X2.here hx rfl (hb hby at_111) rfl kq) ?_
      show Owes p e below s (QL n0) room_1.cells room_1.slots T2 (mkF m 113 #[(.val (.long p0)), .second, (.val (.long p1)), .second, (.val (.long p2)), .second, (.val (.long p3)), .second, (.val (.int p4)), (.val (.int p5)), (.val (.long c1)), .second, (.val (.long s1)), .second, (.val (.long d1)), .second, (.val (.long ee1)), .second, (.val (.long c2)), .second, (.val (.int ss)), (.val (.long s2)), .second, (.val (.int ds)), .unset, .unset, .unset, .unset, .unset, .unset, .unset, .unset, .unset, .unset, .unset, .unset, .unset, .unset, .unset, .unset, .unset, .unset, .unset] [(.int ds)])
      refine own_join X2 (h := h0) (G := fun T' => ∀ (d2 : Int64), (1 ≤ d2.toInt ∧ d2.toInt ≤ 1099511627780) → Owes p e below s (QL n0) room_1.cells room_1.slots T' (mkF m 148 #[(.val (.long p0)), .second, (.val (.long p1)), .second, (.val (.long p2)), .second, (.val (.long p3)), .second, (.val (.int p4)), (.val (.int p5)), (.val (.long c1)), .second, (.val (.long s1)), .second, (.val (.long d1)), .second, (.val (.long ee1)), .second, (.val (.long c2)), .second, (.val (.int ss)), (.val (.long s2)), .second, (.val (.int ds)), .unset, .unset, .unset, .unset, .unset, .unset, .unset, .unset, .unset, .unset, .unset, .unset, .unset, .unset, .unset, .unset, .unset, .unset, .unset] [(.long d2)])) (fun T3 X3 e3 d2 h_d2 => ?_) (fun J3 => ?_)
      · skip
        show Owes p e below s (QL n0) room_1.cells room_1.slots T3 (mkF m 148 #[(.val (.long p0)), .second, (.val (.long p1)), .second, (.val (.long p2)), .second, (.val (.long p3)), .second, (.val (.int p4)), (.val (.int p5)), (.val (.long c1)), .second, (.val (.long s1)), .second, (.val (.long d1)), .second, (.val (.long ee1)), .second, (.val (.long c2)), .second, (.val (.int ss)), (.val (.long s2)), .second, (.val (.int ds)), .unset, .unset, .unset, .unset, .unset, .unset, .unset, .unset, .unset, .unset, .unset, .unset, .unset, .unset, .unset, .unset, .unset, .unset, .unset] [(.long d2)])
        refine Owes.by (fun _ kq => XT.lstore X3.here hx rfl (hb hby at_148) rfl (l' := #[(.val (.long p0)), .second, (.val (.long p1)), .second, (.val (.long p2)), .second, (.val (.long p3)), .second, (.val (.int p4)), (.val (.int p5)), (.val (.long c1)), .second, (.val (.long s1)), .second, (.val (.long d1)), .second, (.val (.long ee1)), .second, (.val (.long c2)), .second, (.val (.int ss)), (.val (.long s2)), .second, (.val (.int ds)), (.val (.long d2)), .second, .unset, .unset, .unset, .unset, .unset, .unset, .unset, .unset, .unset, .unset, .unset, .unset, .unset, .unset, .unset, .unset, .unset]) rfl kq) ?_
        show Owes p e below s (QL n0) room_1.cells room_1.slots T3 (mkF m 150 #[(.val (.long p0)), .second, (.val (.long p1)), .second, (.val (.long p2)), .second, (.val (.long p3)), .second, (.val (.int p4)), (.val (.int p5)), (.val (.long c1)), .second, (.val (.long s1)), .second, (.val (.long d1)), .second, (.val (.long ee1)), .second, (.val (.long c2)), .second, (.val (.int ss)), (.val (.long s2)), .second, (.val (.int ds)), (.val (.long d2)), .second, .unset, .unset, .unset, .unset, .unset, .unset, .unset, .unset, .unset, .unset, .unset, .unset, .unset, .unset, .unset, .unset, .unset] [])
        refine Owes.by (fun _ kq => XT.lload X3.here hx rfl (hb hby at_150) rfl kq) ?_
        show Owes p e below s (QL n0) room_1.cells room_1.slots T3 (mkF m 152 #[(.val (.long p0)), .second, (.val (.long p1)), .second, (.val (.long p2)), .second, (.val (.long p3)), .second, (.val (.int p4)), (.val (.int p5)), (.val (.long c1)), .second, (.val (.long s1)), .second, (.val (.long d1)), .second, (.val (.long ee1)), .second, (.val (.long c2)), .second, (.val (.int ss)), (.val (.long s2)), .second, (.val (.int ds)), (.val (.long d2)), .second, .unset, .unset, .unset, .unset, .unset, .unset, .unset, .unset, .unset, .unset, .unset, .unset, .unset, .unset, .unset, .unset, .unset] [(.long p3)])
        refine Owes.by (fun _ kq => XS.bipush X3.here hx rfl (hb hby at_152) kq) ?_
        show Owes p e below s (QL n0) room_1.cells room_1.slots T3 (mkF m 154 #[(.val (.long p0)), .second, (.val (.long p1)), .second, (.val (.long p2)), .second, (.val (.long p3)), .second, (.val (.int p4)), (.val (.int p5)), (.val (.long c1)), .second, (.val (.long s1)), .second, (.val (.long d1)), .second, (.val (.long ee1)), .second, (.val (.long c2)), .second, (.val (.int ss)), (.val (.long s2)), .second, (.val (.int ds)), (.val (.long d2)), .second, .unset, .unset, .unset, .unset, .unset, .unset, .unset, .unset, .unset, .unset, .unset, .unset, .unset, .unset, .unset, .unset, .unset] [(.int (40 : Int32)), (.long p3)])
        refine Owes.by (fun _ kq => XT.lushr X3.here hx rfl (hb hby at_154) rfl kq) ?_
        show Owes p e below s (QL n0) room_1.cells room_1.slots T3 (mkF m 155 #[(.val (.long p0)), .second, (.val (.long p1)), .second, (.val (.long p2)), .second, (.val (.long p3)), .second, (.val (.int p4)), (.val (.int p5)), (.val (.long c1)), .second, (.val (.long s1)), .second, (.val (.long d1)), .second, (.val (.long ee1)), .second, (.val (.long c2)), .second, (.val (.int ss)), (.val (.long s2)), .second, (.val (.int ds)), (.val (.long d2)), .second, .unset, .unset, .unset, .unset, .unset, .unset, .unset, .unset, .unset, .unset, .unset, .unset, .unset, .unset, .unset, .unset, .unset] [(.long (XT.ushrL p3 (40 : Int32)))])
        refine Owes.by (fun tq kq => X3.ldc2Long hx hown (mvT hZ (hw _ (List.mem_of_getElem? (i := 2) rfl))) (g := (mkF m 155 #[(.val (.long p0)), .second, (.val (.long p1)), .second, (.val (.long p2)), .second, (.val (.long p3)), .second, (.val (.int p4)), (.val (.int p5)), (.val (.long c1)), .second, (.val (.long s1)), .second, (.val (.long d1)), .second, (.val (.long ee1)), .second, (.val (.long c2)), .second, (.val (.int ss)), (.val (.long s2)), .second, (.val (.int ds)), (.val (.long d2)), .second, .unset, .unset, .unset, .unset, .unset, .unset, .unset, .unset, .unset, .unset, .unset, .unset, .unset, .unset, .unset, .unset, .unset] [(.long (XT.ushrL p3 (40 : Int32)))])) rfl (hb hby at_155) tq kq) ?_
        show Owes p e below s (QL n0) room_1.cells room_1.slots T3 (mkF m 158 #[(.val (.long p0)), .second, (.val (.long p1)), .second, (.val (.long p2)), .second, (.val (.long p3)), .second, (.val (.int p4)), (.val (.int p5)), (.val (.long c1)), .second, (.val (.long s1)), .second, (.val (.long d1)), .second, (.val (.long ee1)), .second, (.val (.long c2)), .second, (.val (.int ss)), (.val (.long s2)), .second, (.val (.int ds)), (.val (.long d2)), .second, .unset, .unset, .unset, .unset, .unset, .unset, .unset, .unset, .unset, .unset, .unset, .unset, .unset, .unset, .unset, .unset, .unset] [(.long (1048575 : Int64)), (.long (XT.ushrL p3 (40 : Int32)))])
        refine Owes.by (fun _ kq => XT.land X3.here hx rfl (hb hby at_158) rfl kq) ?_
        show Owes p e below s (QL n0) room_1.cells room_1.slots T3 (mkF m 159 #[(.val (.long p0)), .second, (.val (.long p1)), .second, (.val (.long p2)), .second, (.val (.long p3)), .second, (.val (.int p4)), (.val (.int p5)), (.val (.long c1)), .second, (.val (.long s1)), .second, (.val (.long d1)), .second, (.val (.long ee1)), .second, (.val (.long c2)), .second, (.val (.int ss)), (.val (.long s2)), .second, (.val (.int ds)), (.val (.long d2)), .second, .unset, .unset, .unset, .unset, .unset, .unset, .unset, .unset, .unset, .unset, .unset, .unset, .unset, .unset, .unset, .unset, .unset] [(.long ((XT.ushrL p3 (40 : Int32)) &&& (1048575 : Int64)))])
        have h_ee2 : 0 ≤ (((XT.ushrL p3 (40 : Int32)) &&& (1048575 : Int64))).toInt ∧ (((XT.ushrL p3 (40 : Int32)) &&& (1048575 : Int64))).toInt ≤ 1048575 := own_e _
        generalize ((XT.ushrL p3 (40 : Int32)) &&& (1048575 : Int64)) = ee2 at h_ee2 ⊢
        show Owes p e below s (QL n0) room_1.cells room_1.slots T3 (mkF m 159 #[(.val (.long p0)), .second, (.val (.long p1)), .second, (.val (.long p2)), .second, (.val (.long p3)), .second, (.val (.int p4)), (.val (.int p5)), (.val (.long c1)), .second, (.val (.long s1)), .second, (.val (.long d1)), .second, (.val (.long ee1)), .second, (.val (.long c2)), .second, (.val (.int ss)), (.val (.long s2)), .second, (.val (.int ds)), (.val (.long d2)), .second, .unset, .unset, .unset, .unset, .unset, .unset, .unset, .unset, .unset, .unset, .unset, .unset, .unset, .unset, .unset, .unset, .unset] [(.long ee2)])
        refine Owes.by (fun _ kq => XT.lstore X3.here hx rfl (hb hby at_159) rfl (l' := #[(.val (.long p0)), .second, (.val (.long p1)), .second, (.val (.long p2)), .second, (.val (.long p3)), .second, (.val (.int p4)), (.val (.int p5)), (.val (.long c1)), .second, (.val (.long s1)), .second, (.val (.long d1)), .second, (.val (.long ee1)), .second, (.val (.long c2)), .second, (.val (.int ss)), (.val (.long s2)), .second, (.val (.int ds)), (.val (.long d2)), .second, (.val (.long ee2)), .second, .unset, .unset, .unset, .unset, .unset, .unset, .unset, .unset, .unset, .unset, .unset, .unset, .unset, .unset, .unset]) rfl kq) ?_
        show Owes p e below s (QL n0) room_1.cells room_1.slots T3 (mkF m 161 #[(.val (.long p0)), .second, (.val (.long p1)), .second, (.val (.long p2)), .second, (.val (.long p3)), .second, (.val (.int p4)), (.val (.int p5)), (.val (.long c1)), .second, (.val (.long s1)), .second, (.val (.long d1)), .second, (.val (.long ee1)), .second, (.val (.long c2)), .second, (.val (.int ss)), (.val (.long s2)), .second, (.val (.int ds)), (.val (.long d2)), .second, (.val (.long ee2)), .second, .unset, .unset, .unset, .unset, .unset, .unset, .unset, .unset, .unset, .unset, .unset, .unset, .unset, .unset, .unset] [])
        refine Owes.by (fun _ kq => XS.iload X3.here hx rfl (hb hby at_161) rfl kq) ?_
        show Owes p e below s (QL n0) room_1.cells room_1.slots T3 (mkF m 163 #[(.val (.long p0)), .second, (.val (.long p1)), .second, (.val (.long p2)), .second, (.val (.long p3)), .second, (.val (.int p4)), (.val (.int p5)), (.val (.long c1)), .second, (.val (.long s1)), .second, (.val (.long d1)), .second, (.val (.long ee1)), .second, (.val (.long c2)), .second, (.val (.int ss)), (.val (.long s2)), .second, (.val (.int ds)), (.val (.long d2)), .second, (.val (.long ee2)), .second, .unset, .unset, .unset, .unset, .unset, .unset, .unset, .unset, .unset, .unset, .unset, .unset, .unset, .unset, .unset] [(.int p4)])
        refine Owes.by (fun _ kq => XS.bipush X3.here hx rfl (hb hby at_163) kq) ?_
        show Owes p e below s (QL n0) room_1.cells room_1.slots T3 (mkF m 165 #[(.val (.long p0)), .second, (.val (.long p1)), .second, (.val (.long p2)), .second, (.val (.long p3)), .second, (.val (.int p4)), (.val (.int p5)), (.val (.long c1)), .second, (.val (.long s1)), .second, (.val (.long d1)), .second, (.val (.long ee1)), .second, (.val (.long c2)), .second, (.val (.int ss)), (.val (.long s2)), .second, (.val (.int ds)), (.val (.long d2)), .second, (.val (.long ee2)), .second, .unset, .unset, .unset, .unset, .unset, .unset, .unset, .unset, .unset, .unset, .unset, .unset, .unset, .unset, .unset] [(.int (11 : Int32)), (.int p4)])
        refine Owes.by (fun _ kq => XT.iushr X3.here hx rfl (hb hby at_165) rfl kq) ?_
        show Owes p e below s (QL n0) room_1.cells room_1.slots T3 (mkF m 166 #[(.val (.long p0)), .second, (.val (.long p1)), .second, (.val (.long p2)), .second, (.val (.long p3)), .second, (.val (.int p4)), (.val (.int p5)), (.val (.long c1)), .second, (.val (.long s1)), .second, (.val (.long d1)), .second, (.val (.long ee1)), .second, (.val (.long c2)), .second, (.val (.int ss)), (.val (.long s2)), .second, (.val (.int ds)), (.val (.long d2)), .second, (.val (.long ee2)), .second, .unset, .unset, .unset, .unset, .unset, .unset, .unset, .unset, .unset, .unset, .unset, .unset, .unset, .unset, .unset] [(.int (XT.ushr p4 (11 : Int32)))])
        refine Owes.by (fun _ kq => XS.iconst X3.here hx rfl (hb hby at_166) kq) ?_
        show Owes p e below s (QL n0) room_1.cells room_1.slots T3 (mkF m 167 #[(.val (.long p0)), .second, (.val (.long p1)), .second, (.val (.long p2)), .second, (.val (.long p3)), .second, (.val (.int p4)), (.val (.int p5)), (.val (.long c1)), .second, (.val (.long s1)), .second, (.val (.long d1)), .second, (.val (.long ee1)), .second, (.val (.long c2)), .second, (.val (.int ss)), (.val (.long s2)), .second, (.val (.int ds)), (.val (.long d2)), .second, (.val (.long ee2)), .second, .unset, .unset, .unset, .unset, .unset, .unset, .unset, .unset, .unset, .unset, .unset, .unset, .unset, .unset, .unset] [(.int (1 : Int32)), (.int (XT.ushr p4 (11 : Int32)))])
        refine Owes.by (fun _ kq => XS.iand X3.here hx rfl (hb hby at_167) rfl kq) ?_
        show Owes p e below s (QL n0) room_1.cells room_1.slots T3 (mkF m 168 #[(.val (.long p0)), .second, (.val (.long p1)), .second, (.val (.long p2)), .second, (.val (.long p3)), .second, (.val (.int p4)), (.val (.int p5)), (.val (.long c1)), .second, (.val (.long s1)), .second, (.val (.long d1)), .second, (.val (.long ee1)), .second, (.val (.long c2)), .second, (.val (.int ss)), (.val (.long s2)), .second, (.val (.int ds)), (.val (.long d2)), .second, (.val (.long ee2)), .second, .unset, .unset, .unset, .unset, .unset, .unset, .unset, .unset, .unset, .unset, .unset, .unset, .unset, .unset, .unset] [(.int ((XT.ushr p4 (11 : Int32)) &&& (1 : Int32)))])
        refine own_join X3 (h := h0) (G := fun T' => ∀ (f7 : Int32), Owes p e below s (QL n0) room_1.cells room_1.slots T' (mkF m 176 #[(.val (.long p0)), .second, (.val (.long p1)), .second, (.val (.long p2)), .second, (.val (.long p3)), .second, (.val (.int p4)), (.val (.int p5)), (.val (.long c1)), .second, (.val (.long s1)), .second, (.val (.long d1)), .second, (.val (.long ee1)), .second, (.val (.long c2)), .second, (.val (.int ss)), (.val (.long s2)), .second, (.val (.int ds)), (.val (.long d2)), .second, (.val (.long ee2)), .second, .unset, .unset, .unset, .unset, .unset, .unset, .unset, .unset, .unset, .unset, .unset, .unset, .unset, .unset, .unset] [(.int f7)])) (fun T4 X4 e4 f7  => ?_) (fun J4 => ?_)
        · skip
          show Owes p e below s (QL n0) room_1.cells room_1.slots T4 (mkF m 176 #[(.val (.long p0)), .second, (.val (.long p1)), .second, (.val (.long p2)), .second, (.val (.long p3)), .second, (.val (.int p4)), (.val (.int p5)), (.val (.long c1)), .second, (.val (.long s1)), .second, (.val (.long d1)), .second, (.val (.long ee1)), .second, (.val (.long c2)), .second, (.val (.int ss)), (.val (.long s2)), .second, (.val (.int ds)), (.val (.long d2)), .second, (.val (.long ee2)), .second, .unset, .unset, .unset, .unset, .unset, .unset, .unset, .unset, .unset, .unset, .unset, .unset, .unset, .unset, .unset] [(.int f7)])
          refine Owes.by (fun _ kq => XS.istore X4.here hx rfl (hb hby at_176) rfl (l' := #[(.val (.long p0)), .second, (.val (.long p1)), .second, (.val (.long p2)), .second, (.val (.long p3)), .second, (.val (.int p4)), (.val (.int p5)), (.val (.long c1)), .second, (.val (.long s1)), .second, (.val (.long d1)), .second, (.val (.long ee1)), .second, (.val (.long c2)), .second, (.val (.int ss)), (.val (.long s2)), .second, (.val (.int ds)), (.val (.long d2)), .second, (.val (.long ee2)), .second, (.val (.int f7)), .unset, .unset, .unset, .unset, .unset, .unset, .unset, .unset, .unset, .unset, .unset, .unset, .unset, .unset]) rfl kq) ?_
          show Owes p e below s (QL n0) room_1.cells room_1.slots T4 (mkF m 178 #[(.val (.long p0)), .second, (.val (.long p1)), .second, (.val (.long p2)), .second, (.val (.long p3)), .second, (.val (.int p4)), (.val (.int p5)), (.val (.long c1)), .second, (.val (.long s1)), .second, (.val (.long d1)), .second, (.val (.long ee1)), .second, (.val (.long c2)), .second, (.val (.int ss)), (.val (.long s2)), .second, (.val (.int ds)), (.val (.long d2)), .second, (.val (.long ee2)), .second, (.val (.int f7)), .unset, .unset, .unset, .unset, .unset, .unset, .unset, .unset, .unset, .unset, .unset, .unset, .unset, .unset] [])
          refine Owes.by (fun _ kq => XT.lload X4.here hx rfl (hb hby at_178) rfl kq) ?_
          show Owes p e below s (QL n0) room_1.cells room_1.slots T4 (mkF m 180 #[(.val (.long p0)), .second, (.val (.long p1)), .second, (.val (.long p2)), .second, (.val (.long p3)), .second, (.val (.int p4)), (.val (.int p5)), (.val (.long c1)), .second, (.val (.long s1)), .second, (.val (.long d1)), .second, (.val (.long ee1)), .second, (.val (.long c2)), .second, (.val (.int ss)), (.val (.long s2)), .second, (.val (.int ds)), (.val (.long d2)), .second, (.val (.long ee2)), .second, (.val (.int f7)), .unset, .unset, .unset, .unset, .unset, .unset, .unset, .unset, .unset, .unset, .unset, .unset, .unset, .unset] [(.long c1)])
          refine Owes.by (fun _ kq => XT.lconst X4.here hx rfl (hb hby at_180) kq) ?_
          show Owes p e below s (QL n0) room_1.cells room_1.slots T4 (mkF m 181 #[(.val (.long p0)), .second, (.val (.long p1)), .second, (.val (.long p2)), .second, (.val (.long p3)), .second, (.val (.int p4)), (.val (.int p5)), (.val (.long c1)), .second, (.val (.long s1)), .second, (.val (.long d1)), .second, (.val (.long ee1)), .second, (.val (.long c2)), .second, (.val (.int ss)), (.val (.long s2)), .second, (.val (.int ds)), (.val (.long d2)), .second, (.val (.long ee2)), .second, (.val (.int f7)), .unset, .unset, .unset, .unset, .unset, .unset, .unset, .unset, .unset, .unset, .unset, .unset, .unset, .unset] [(.long (0 : Int64)), (.long c1)])
          refine Owes.by (fun _ kq => XT.lcmp X4.here hx rfl (hb hby at_181) rfl kq) ?_
          show Owes p e below s (QL n0) room_1.cells room_1.slots T4 (mkF m 182 #[(.val (.long p0)), .second, (.val (.long p1)), .second, (.val (.long p2)), .second, (.val (.long p3)), .second, (.val (.int p4)), (.val (.int p5)), (.val (.long c1)), .second, (.val (.long s1)), .second, (.val (.long d1)), .second, (.val (.long ee1)), .second, (.val (.long c2)), .second, (.val (.int ss)), (.val (.long s2)), .second, (.val (.int ds)), (.val (.long d2)), .second, (.val (.long ee2)), .second, (.val (.int f7)), .unset, .unset, .unset, .unset, .unset, .unset, .unset, .unset, .unset, .unset, .unset, .unset, .unset, .unset] [(.int (XT.cmpL c1 (0 : Int64)))])
          refine own_join X4 (h := h0) (G := fun T' => ∀ (l1 : Int64), (own_ok l1 s1 d1 c1) → (0 ≤ l1.toInt ∧ l1.toInt ≤ 4611700000000000000) → Owes p e below s (QL n0) room_1.cells room_1.slots T' (mkF m 204 #[(.val (.long p0)), .second, (.val (.long p1)), .second, (.val (.long p2)), .second, (.val (.long p3)), .second, (.val (.int p4)), (.val (.int p5)), (.val (.long c1)), .second, (.val (.long s1)), .second, (.val (.long d1)), .second, (.val (.long ee1)), .second, (.val (.long c2)), .second, (.val (.int ss)), (.val (.long s2)), .second, (.val (.int ds)), (.val (.long d2)), .second, (.val (.long ee2)), .second, (.val (.int f7)), .unset, .unset, .unset, .unset, .unset, .unset, .unset, .unset, .unset, .unset, .unset, .unset, .unset, .unset] [(.long l1)])) (fun T5 X5 e5 l1 ok1 hl1 => ?_) (fun J5 => ?_)
          · skip
            show Owes p e below s (QL n0) room_1.cells room_1.slots T5 (mkF m 204 #[(.val (.long p0)), .second, (.val (.long p1)), .second, (.val (.long p2)), .second, (.val (.long p3)), .second, (.val (.int p4)), (.val (.int p5)), (.val (.long c1)), .second, (.val (.long s1)), .second, (.val (.long d1)), .second, (.val (.long ee1)), .second, (.val (.long c2)), .second, (.val (.int ss)), (.val (.long s2)), .second, (.val (.int ds)), (.val (.long d2)), .second, (.val (.long ee2)), .second, (.val (.int f7)), .unset, .unset, .unset, .unset, .unset, .unset, .unset, .unset, .unset, .unset, .unset, .unset, .unset, .unset] [(.long l1)])
            refine Owes.by (fun _ kq => XT.lstore X5.here hx rfl (hb hby at_204) rfl (l' := #[(.val (.long p0)), .second, (.val (.long p1)), .second, (.val (.long p2)), .second, (.val (.long p3)), .second, (.val (.int p4)), (.val (.int p5)), (.val (.long c1)), .second, (.val (.long s1)), .second, (.val (.long d1)), .second, (.val (.long ee1)), .second, (.val (.long c2)), .second, (.val (.int ss)), (.val (.long s2)), .second, (.val (.int ds)), (.val (.long d2)), .second, (.val (.long ee2)), .second, (.val (.int f7)), (.val (.long l1)), .second, .unset, .unset, .unset, .unset, .unset, .unset, .unset, .unset, .unset, .unset, .unset, .unset]) rfl kq) ?_
            show Owes p e below s (QL n0) room_1.cells room_1.slots T5 (mkF m 206 #[(.val (.long p0)), .second, (.val (.long p1)), .second, (.val (.long p2)), .second, (.val (.long p3)), .second, (.val (.int p4)), (.val (.int p5)), (.val (.long c1)), .second, (.val (.long s1)), .second, (.val (.long d1)), .second, (.val (.long ee1)), .second, (.val (.long c2)), .second, (.val (.int ss)), (.val (.long s2)), .second, (.val (.int ds)), (.val (.long d2)), .second, (.val (.long ee2)), .second, (.val (.int f7)), (.val (.long l1)), .second, .unset, .unset, .unset, .unset, .unset, .unset, .unset, .unset, .unset, .unset, .unset, .unset] [])
            refine Owes.by (fun _ kq => XT.lload X5.here hx rfl (hb hby at_206) rfl kq) ?_
            show Owes p e below s (QL n0) room_1.cells room_1.slots T5 (mkF m 208 #[(.val (.long p0)), .second, (.val (.long p1)), .second, (.val (.long p2)), .second, (.val (.long p3)), .second, (.val (.int p4)), (.val (.int p5)), (.val (.long c1)), .second, (.val (.long s1)), .second, (.val (.long d1)), .second, (.val (.long ee1)), .second, (.val (.long c2)), .second, (.val (.int ss)), (.val (.long s2)), .second, (.val (.int ds)), (.val (.long d2)), .second, (.val (.long ee2)), .second, (.val (.int f7)), (.val (.long l1)), .second, .unset, .unset, .unset, .unset, .unset, .unset, .unset, .unset, .unset, .unset, .unset, .unset] [(.long s2)])
            refine Owes.by (fun _ kq => XT.lload X5.here hx rfl (hb hby at_208) rfl kq) ?_
            show Owes p e below s (QL n0) room_1.cells room_1.slots T5 (mkF m 210 #[(.val (.long p0)), .second, (.val (.long p1)), .second, (.val (.long p2)), .second, (.val (.long p3)), .second, (.val (.int p4)), (.val (.int p5)), (.val (.long c1)), .second, (.val (.long s1)), .second, (.val (.long d1)), .second, (.val (.long ee1)), .second, (.val (.long c2)), .second, (.val (.int ss)), (.val (.long s2)), .second, (.val (.int ds)), (.val (.long d2)), .second, (.val (.long ee2)), .second, (.val (.int f7)), (.val (.long l1)), .second, .unset, .unset, .unset, .unset, .unset, .unset, .unset, .unset, .unset, .unset, .unset, .unset] [(.long c2), (.long s2)])
            refine Owes.by (fun _ kq => XT.lconst X5.here hx rfl (hb hby at_210) kq) ?_
            show Owes p e below s (QL n0) room_1.cells room_1.slots T5 (mkF m 211 #[(.val (.long p0)), .second, (.val (.long p1)), .second, (.val (.long p2)), .second, (.val (.long p3)), .second, (.val (.int p4)), (.val (.int p5)), (.val (.long c1)), .second, (.val (.long s1)), .second, (.val (.long d1)), .second, (.val (.long ee1)), .second, (.val (.long c2)), .second, (.val (.int ss)), (.val (.long s2)), .second, (.val (.int ds)), (.val (.long d2)), .second, (.val (.long ee2)), .second, (.val (.int f7)), (.val (.long l1)), .second, .unset, .unset, .unset, .unset, .unset, .unset, .unset, .unset, .unset, .unset, .unset, .unset] [(.long (1 : Int64)), (.long c2), (.long s2)])
            refine Owes.by (fun _ kq => XT.lsub X5.here hx rfl (hb hby at_211) rfl kq) ?_
            show Owes p e below s (QL n0) room_1.cells room_1.slots T5 (mkF m 212 #[(.val (.long p0)), .second, (.val (.long p1)), .second, (.val (.long p2)), .second, (.val (.long p3)), .second, (.val (.int p4)), (.val (.int p5)), (.val (.long c1)), .second, (.val (.long s1)), .second, (.val (.long d1)), .second, (.val (.long ee1)), .second, (.val (.long c2)), .second, (.val (.int ss)), (.val (.long s2)), .second, (.val (.int ds)), (.val (.long d2)), .second, (.val (.long ee2)), .second, (.val (.int f7)), (.val (.long l1)), .second, .unset, .unset, .unset, .unset, .unset, .unset, .unset, .unset, .unset, .unset, .unset, .unset] [(.long (c2 - (1 : Int64))), (.long s2)])
            refine Owes.by (fun _ kq => XT.lload X5.here hx rfl (hb hby at_212) rfl kq) ?_
            show Owes p e below s (QL n0) room_1.cells room_1.slots T5 (mkF m 214 #[(.val (.long p0)), .second, (.val (.long p1)), .second, (.val (.long p2)), .second, (.val (.long p3)), .second, (.val (.int p4)), (.val (.int p5)), (.val (.long c1)), .second, (.val (.long s1)), .second, (.val (.long d1)), .second, (.val (.long ee1)), .second, (.val (.long c2)), .second, (.val (.int ss)), (.val (.long s2)), .second, (.val (.int ds)), (.val (.long d2)), .second, (.val (.long ee2)), .second, (.val (.int f7)), (.val (.long l1)), .second, .unset, .unset, .unset, .unset, .unset, .unset, .unset, .unset, .unset, .unset, .unset, .unset] [(.long d2), (.long (c2 - (1 : Int64))), (.long s2)])
            refine Owes.by (fun _ kq => XT.lmul X5.here hx rfl (hb hby at_214) rfl kq) ?_
            show Owes p e below s (QL n0) room_1.cells room_1.slots T5 (mkF m 215 #[(.val (.long p0)), .second, (.val (.long p1)), .second, (.val (.long p2)), .second, (.val (.long p3)), .second, (.val (.int p4)), (.val (.int p5)), (.val (.long c1)), .second, (.val (.long s1)), .second, (.val (.long d1)), .second, (.val (.long ee1)), .second, (.val (.long c2)), .second, (.val (.int ss)), (.val (.long s2)), .second, (.val (.int ds)), (.val (.long d2)), .second, (.val (.long ee2)), .second, (.val (.int f7)), (.val (.long l1)), .second, .unset, .unset, .unset, .unset, .unset, .unset, .unset, .unset, .unset, .unset, .unset, .unset] [(.long ((c2 - (1 : Int64)) * d2)), (.long s2)])
            refine Owes.by (fun _ kq => XT.ladd X5.here hx rfl (hb hby at_215) rfl kq) ?_
            show Owes p e below s (QL n0) room_1.cells room_1.slots T5 (mkF m 216 #[(.val (.long p0)), .second, (.val (.long p1)), .second, (.val (.long p2)), .second, (.val (.long p3)), .second, (.val (.int p4)), (.val (.int p5)), (.val (.long c1)), .second, (.val (.long s1)), .second, (.val (.long d1)), .second, (.val (.long ee1)), .second, (.val (.long c2)), .second, (.val (.int ss)), (.val (.long s2)), .second, (.val (.int ds)), (.val (.long d2)), .second, (.val (.long ee2)), .second, (.val (.int f7)), (.val (.long l1)), .second, .unset, .unset, .unset, .unset, .unset, .unset, .unset, .unset, .unset, .unset, .unset, .unset] [(.long (s2 + ((c2 - (1 : Int64)) * d2)))])
            refine Owes.by (fun _ kq => XT.lconst X5.here hx rfl (hb hby at_216) kq) ?_
            show Owes p e below s (QL n0) room_1.cells room_1.slots T5 (mkF m 217 #[(.val (.long p0)), .second, (.val (.long p1)), .second, (.val (.long p2)), .second, (.val (.long p3)), .second, (.val (.int p4)), (.val (.int p5)), (.val (.long c1)), .second, (.val (.long s1)), .second, (.val (.long d1)), .second, (.val (.long ee1)), .second, (.val (.long c2)), .second, (.val (.int ss)), (.val (.long s2)), .second, (.val (.int ds)), (.val (.long d2)), .second, (.val (.long ee2)), .second, (.val (.int f7)), (.val (.long l1)), .second, .unset, .unset, .unset, .unset, .unset, .unset, .unset, .unset, .unset, .unset, .unset, .unset] [(.long (1 : Int64)), (.long (s2 + ((c2 - (1 : Int64)) * d2)))])
            refine Owes.by (fun _ kq => XT.ladd X5.here hx rfl (hb hby at_217) rfl kq) ?_
            show Owes p e below s (QL n0) room_1.cells room_1.slots T5 (mkF m 218 #[(.val (.long p0)), .second, (.val (.long p1)), .second, (.val (.long p2)), .second, (.val (.long p3)), .second, (.val (.int p4)), (.val (.int p5)), (.val (.long c1)), .second, (.val (.long s1)), .second, (.val (.long d1)), .second, (.val (.long ee1)), .second, (.val (.long c2)), .second, (.val (.int ss)), (.val (.long s2)), .second, (.val (.int ds)), (.val (.long d2)), .second, (.val (.long ee2)), .second, (.val (.int f7)), (.val (.long l1)), .second, .unset, .unset, .unset, .unset, .unset, .unset, .unset, .unset, .unset, .unset, .unset, .unset] [(.long ((s2 + ((c2 - (1 : Int64)) * d2)) + (1 : Int64)))])
            have h_nd : ¬ c2 = 0 → (((s2 + ((c2 - (1 : Int64)) * d2)) + (1 : Int64))).toInt = s2.toInt + (c2.toInt - 1) * d2.toInt + 1 ∧ 0 ≤ (c2.toInt - 1) * d2.toInt ∧ (c2.toInt - 1) * d2.toInt ≤ 6597069766680 ∧ 1 ≤ c2.toInt := fun hz => own_need h_s2.1 h_s2.2 h_d2.1 h_d2.2 h_c2.1 h_c2.2 hz
            generalize ((s2 + ((c2 - (1 : Int64)) * d2)) + (1 : Int64)) = nd at h_nd ⊢
            show Owes p e below s (QL n0) room_1.cells room_1.slots T5 (mkF m 218 #[(.val (.long p0)), .second, (.val (.long p1)), .second, (.val (.long p2)), .second, (.val (.long p3)), .second, (.val (.int p4)), (.val (.int p5)), (.val (.long c1)), .second, (.val (.long s1)), .second, (.val (.long d1)), .second, (.val (.long ee1)), .second, (.val (.long c2)), .second, (.val (.int ss)), (.val (.long s2)), .second, (.val (.int ds)), (.val (.long d2)), .second, (.val (.long ee2)), .second, (.val (.int f7)), (.val (.long l1)), .second, .unset, .unset, .unset, .unset, .unset, .unset, .unset, .unset, .unset, .unset, .unset, .unset] [(.long nd)])
            refine Owes.by (fun _ kq => XT.lstore X5.here hx rfl (hb hby at_218) rfl (l' := #[(.val (.long p0)), .second, (.val (.long p1)), .second, (.val (.long p2)), .second, (.val (.long p3)), .second, (.val (.int p4)), (.val (.int p5)), (.val (.long c1)), .second, (.val (.long s1)), .second, (.val (.long d1)), .second, (.val (.long ee1)), .second, (.val (.long c2)), .second, (.val (.int ss)), (.val (.long s2)), .second, (.val (.int ds)), (.val (.long d2)), .second, (.val (.long ee2)), .second, (.val (.int f7)), (.val (.long l1)), .second, (.val (.long nd)), .second, .unset, .unset, .unset, .unset, .unset, .unset, .unset, .unset, .unset, .unset]) rfl kq) ?_
            show Owes p e below s (QL n0) room_1.cells room_1.slots T5 (mkF m 220 #[(.val (.long p0)), .second, (.val (.long p1)), .second, (.val (.long p2)), .second, (.val (.long p3)), .second, (.val (.int p4)), (.val (.int p5)), (.val (.long c1)), .second, (.val (.long s1)), .second, (.val (.long d1)), .second, (.val (.long ee1)), .second, (.val (.long c2)), .second, (.val (.int ss)), (.val (.long s2)), .second, (.val (.int ds)), (.val (.long d2)), .second, (.val (.long ee2)), .second, (.val (.int f7)), (.val (.long l1)), .second, (.val (.long nd)), .second, .unset, .unset, .unset, .unset, .unset, .unset, .unset, .unset, .unset, .unset] [])
            refine Owes.by (fun _ kq => XT.lload X5.here hx rfl (hb hby at_220) rfl kq) ?_
            show Owes p e below s (QL n0) room_1.cells room_1.slots T5 (mkF m 222 #[(.val (.long p0)), .second, (.val (.long p1)), .second, (.val (.long p2)), .second, (.val (.long p3)), .second, (.val (.int p4)), (.val (.int p5)), (.val (.long c1)), .second, (.val (.long s1)), .second, (.val (.long d1)), .second, (.val (.long ee1)), .second, (.val (.long c2)), .second, (.val (.int ss)), (.val (.long s2)), .second, (.val (.int ds)), (.val (.long d2)), .second, (.val (.long ee2)), .second, (.val (.int f7)), (.val (.long l1)), .second, (.val (.long nd)), .second, .unset, .unset, .unset, .unset, .unset, .unset, .unset, .unset, .unset, .unset] [(.long c2)])
            refine Owes.by (fun _ kq => XT.lconst X5.here hx rfl (hb hby at_222) kq) ?_
            show Owes p e below s (QL n0) room_1.cells room_1.slots T5 (mkF m 223 #[(.val (.long p0)), .second, (.val (.long p1)), .second, (.val (.long p2)), .second, (.val (.long p3)), .second, (.val (.int p4)), (.val (.int p5)), (.val (.long c1)), .second, (.val (.long s1)), .second, (.val (.long d1)), .second, (.val (.long ee1)), .second, (.val (.long c2)), .second, (.val (.int ss)), (.val (.long s2)), .second, (.val (.int ds)), (.val (.long d2)), .second, (.val (.long ee2)), .second, (.val (.int f7)), (.val (.long l1)), .second, (.val (.long nd)), .second, .unset, .unset, .unset, .unset, .unset, .unset, .unset, .unset, .unset, .unset] [(.long (0 : Int64)), (.long c2)])
            refine Owes.by (fun _ kq => XT.lcmp X5.here hx rfl (hb hby at_223) rfl kq) ?_
            show Owes p e below s (QL n0) room_1.cells room_1.slots T5 (mkF m 224 #[(.val (.long p0)), .second, (.val (.long p1)), .second, (.val (.long p2)), .second, (.val (.long p3)), .second, (.val (.int p4)), (.val (.int p5)), (.val (.long c1)), .second, (.val (.long s1)), .second, (.val (.long d1)), .second, (.val (.long ee1)), .second, (.val (.long c2)), .second, (.val (.int ss)), (.val (.long s2)), .second, (.val (.int ds)), (.val (.long d2)), .second, (.val (.long ee2)), .second, (.val (.int f7)), (.val (.long l1)), .second, (.val (.long nd)), .second, .unset, .unset, .unset, .unset, .unset, .unset, .unset, .unset, .unset, .unset] [(.int (XT.cmpL c2 (0 : Int64)))])
            refine own_join X5 (h := h0) (G := fun T' => ∀ (l2 : Int64), (own_ok l2 s2 d2 c2) → Owes p e below s (QL n0) room_1.cells room_1.slots T' (mkF m 251 #[(.val (.long p0)), .second, (.val (.long p1)), .second, (.val (.long p2)), .second, (.val (.long p3)), .second, (.val (.int p4)), (.val (.int p5)), (.val (.long c1)), .second, (.val (.long s1)), .second, (.val (.long d1)), .second, (.val (.long ee1)), .second, (.val (.long c2)), .second, (.val (.int ss)), (.val (.long s2)), .second, (.val (.int ds)), (.val (.long d2)), .second, (.val (.long ee2)), .second, (.val (.int f7)), (.val (.long l1)), .second, (.val (.long nd)), .second, .unset, .unset, .unset, .unset, .unset, .unset, .unset, .unset, .unset, .unset] [(.long l2)])) (fun T6 X6 e6 l2 ok2 => ?_) (fun J6 => ?_)
            · skip
              show Owes p e below s (QL n0) room_1.cells room_1.slots T6 (mkF m 251 #[(.val (.long p0)), .second, (.val (.long p1)), .second, (.val (.long p2)), .second, (.val (.long p3)), .second, (.val (.int p4)), (.val (.int p5)), (.val (.long c1)), .second, (.val (.long s1)), .second, (.val (.long d1)), .second, (.val (.long ee1)), .second, (.val (.long c2)), .second, (.val (.int ss)), (.val (.long s2)), .second, (.val (.int ds)), (.val (.long d2)), .second, (.val (.long ee2)), .second, (.val (.int f7)), (.val (.long l1)), .second, (.val (.long nd)), .second, .unset, .unset, .unset, .unset, .unset, .unset, .unset, .unset, .unset, .unset] [(.long l2)])
              refine Owes.by (fun _ kq => XT.lstore X6.here hx rfl (hb hby at_251) rfl (l' := #[(.val (.long p0)), .second, (.val (.long p1)), .second, (.val (.long p2)), .second, (.val (.long p3)), .second, (.val (.int p4)), (.val (.int p5)), (.val (.long c1)), .second, (.val (.long s1)), .second, (.val (.long d1)), .second, (.val (.long ee1)), .second, (.val (.long c2)), .second, (.val (.int ss)), (.val (.long s2)), .second, (.val (.int ds)), (.val (.long d2)), .second, (.val (.long ee2)), .second, (.val (.int f7)), (.val (.long l1)), .second, (.val (.long nd)), .second, (.val (.long l2)), .second, .unset, .unset, .unset, .unset, .unset, .unset, .unset, .unset]) rfl kq) ?_
              show Owes p e below s (QL n0) room_1.cells room_1.slots T6 (mkF m 253 #[(.val (.long p0)), .second, (.val (.long p1)), .second, (.val (.long p2)), .second, (.val (.long p3)), .second, (.val (.int p4)), (.val (.int p5)), (.val (.long c1)), .second, (.val (.long s1)), .second, (.val (.long d1)), .second, (.val (.long ee1)), .second, (.val (.long c2)), .second, (.val (.int ss)), (.val (.long s2)), .second, (.val (.int ds)), (.val (.long d2)), .second, (.val (.long ee2)), .second, (.val (.int f7)), (.val (.long l1)), .second, (.val (.long nd)), .second, (.val (.long l2)), .second, .unset, .unset, .unset, .unset, .unset, .unset, .unset, .unset] [])
              obtain ⟨T7, h7, X7, e7, E7, A7, D7, -, st7⟩ := newO X6 hx hZ hown (hw _ (List.mem_of_getElem? (i := 3) rfl)) (hw _ (List.mem_of_getElem? (i := 4) rfl)) (hw _ (List.mem_of_getElem? (i := 5) rfl)) e6 (g := (mkF m 253 #[(.val (.long p0)), .second, (.val (.long p1)), .second, (.val (.long p2)), .second, (.val (.long p3)), .second, (.val (.int p4)), (.val (.int p5)), (.val (.long c1)), .second, (.val (.long s1)), .second, (.val (.long d1)), .second, (.val (.long ee1)), .second, (.val (.long c2)), .second, (.val (.int ss)), (.val (.long s2)), .second, (.val (.int ds)), (.val (.long d2)), .second, (.val (.long ee2)), .second, (.val (.int f7)), (.val (.long l1)), .second, (.val (.long nd)), .second, (.val (.long l2)), .second, .unset, .unset, .unset, .unset, .unset, .unset, .unset, .unset] [])) rfl (hb hby at_253) (by decide) (by decide)
              obtain ⟨b7, g7⟩ : ∃ z, z = h0.size := ⟨_, rfl⟩
              rw [← g7] at A7 D7 st7
              refine Owes.by st7 ?_
              show Owes p e below s (QL n0) room_1.cells room_1.slots T7 (mkF m 256 #[(.val (.long p0)), .second, (.val (.long p1)), .second, (.val (.long p2)), .second, (.val (.long p3)), .second, (.val (.int p4)), (.val (.int p5)), (.val (.long c1)), .second, (.val (.long s1)), .second, (.val (.long d1)), .second, (.val (.long ee1)), .second, (.val (.long c2)), .second, (.val (.int ss)), (.val (.long s2)), .second, (.val (.int ds)), (.val (.long d2)), .second, (.val (.long ee2)), .second, (.val (.int f7)), (.val (.long l1)), .second, (.val (.long nd)), .second, (.val (.long l2)), .second, .unset, .unset, .unset, .unset, .unset, .unset, .unset, .unset] [(.ref b7)])
              refine Owes.by (fun _ kq => XS.dup X7.here hx rfl (hb hby at_256) rfl rfl kq) ?_
              show Owes p e below s (QL n0) room_1.cells room_1.slots T7 (mkF m 257 #[(.val (.long p0)), .second, (.val (.long p1)), .second, (.val (.long p2)), .second, (.val (.long p3)), .second, (.val (.int p4)), (.val (.int p5)), (.val (.long c1)), .second, (.val (.long s1)), .second, (.val (.long d1)), .second, (.val (.long ee1)), .second, (.val (.long c2)), .second, (.val (.int ss)), (.val (.long s2)), .second, (.val (.int ds)), (.val (.long d2)), .second, (.val (.long ee2)), .second, (.val (.int f7)), (.val (.long l1)), .second, (.val (.long nd)), .second, (.val (.long l2)), .second, .unset, .unset, .unset, .unset, .unset, .unset, .unset, .unset] [(.ref b7), (.ref b7)])
              refine Owes.by (fun _ kq => XT.lload X7.here hx rfl (hb hby at_257) rfl kq) ?_
              show Owes p e below s (QL n0) room_1.cells room_1.slots T7 (mkF m 259 #[(.val (.long p0)), .second, (.val (.long p1)), .second, (.val (.long p2)), .second, (.val (.long p3)), .second, (.val (.int p4)), (.val (.int p5)), (.val (.long c1)), .second, (.val (.long s1)), .second, (.val (.long d1)), .second, (.val (.long ee1)), .second, (.val (.long c2)), .second, (.val (.int ss)), (.val (.long s2)), .second, (.val (.int ds)), (.val (.long d2)), .second, (.val (.long ee2)), .second, (.val (.int f7)), (.val (.long l1)), .second, (.val (.long nd)), .second, (.val (.long l2)), .second, .unset, .unset, .unset, .unset, .unset, .unset, .unset, .unset] [(.long l1), (.ref b7), (.ref b7)])
              refine Owes.by (fun _ kq => XT.lload X7.here hx rfl (hb hby at_259) rfl kq) ?_
              show Owes p e below s (QL n0) room_1.cells room_1.slots T7 (mkF m 261 #[(.val (.long p0)), .second, (.val (.long p1)), .second, (.val (.long p2)), .second, (.val (.long p3)), .second, (.val (.int p4)), (.val (.int p5)), (.val (.long c1)), .second, (.val (.long s1)), .second, (.val (.long d1)), .second, (.val (.long ee1)), .second, (.val (.long c2)), .second, (.val (.int ss)), (.val (.long s2)), .second, (.val (.int ds)), (.val (.long d2)), .second, (.val (.long ee2)), .second, (.val (.int f7)), (.val (.long l1)), .second, (.val (.long nd)), .second, (.val (.long l2)), .second, .unset, .unset, .unset, .unset, .unset, .unset, .unset, .unset] [(.long s1), (.long l1), (.ref b7), (.ref b7)])
              refine Owes.by (fun _ kq => XT.lload X7.here hx rfl (hb hby at_261) rfl kq) ?_
              show Owes p e below s (QL n0) room_1.cells room_1.slots T7 (mkF m 263 #[(.val (.long p0)), .second, (.val (.long p1)), .second, (.val (.long p2)), .second, (.val (.long p3)), .second, (.val (.int p4)), (.val (.int p5)), (.val (.long c1)), .second, (.val (.long s1)), .second, (.val (.long d1)), .second, (.val (.long ee1)), .second, (.val (.long c2)), .second, (.val (.int ss)), (.val (.long s2)), .second, (.val (.int ds)), (.val (.long d2)), .second, (.val (.long ee2)), .second, (.val (.int f7)), (.val (.long l1)), .second, (.val (.long nd)), .second, (.val (.long l2)), .second, .unset, .unset, .unset, .unset, .unset, .unset, .unset, .unset] [(.long d1), (.long s1), (.long l1), (.ref b7), (.ref b7)])
              refine Owes.by (fun _ kq => XT.lload X7.here hx rfl (hb hby at_263) rfl kq) ?_
              show Owes p e below s (QL n0) room_1.cells room_1.slots T7 (mkF m 265 #[(.val (.long p0)), .second, (.val (.long p1)), .second, (.val (.long p2)), .second, (.val (.long p3)), .second, (.val (.int p4)), (.val (.int p5)), (.val (.long c1)), .second, (.val (.long s1)), .second, (.val (.long d1)), .second, (.val (.long ee1)), .second, (.val (.long c2)), .second, (.val (.int ss)), (.val (.long s2)), .second, (.val (.int ds)), (.val (.long d2)), .second, (.val (.long ee2)), .second, (.val (.int f7)), (.val (.long l1)), .second, (.val (.long nd)), .second, (.val (.long l2)), .second, .unset, .unset, .unset, .unset, .unset, .unset, .unset, .unset] [(.long c1), (.long d1), (.long s1), (.long l1), (.ref b7), (.ref b7)])
              have I7_length : Fld Z h7 b7 "com/example/chunkmark/chunkmark/dataset/Range" "length" "J" (.long (0 : Int64)) := D7 (Or.inr (hw _ (List.mem_of_getElem? (i := 13) rfl))) (ty := .long) (by decide)
              have I7_start : Fld Z h7 b7 "com/example/chunkmark/chunkmark/dataset/Range" "start" "J" (.long (0 : Int64)) := D7 (Or.inr (hw _ (List.mem_of_getElem? (i := 15) rfl))) (ty := .long) (by decide)
              have I7_stride : Fld Z h7 b7 "com/example/chunkmark/chunkmark/dataset/Range" "stride" "J" (.long (0 : Int64)) := D7 (Or.inr (hw _ (List.mem_of_getElem? (i := 17) rfl))) (ty := .long) (by decide)
              have I7_count : Fld Z h7 b7 "com/example/chunkmark/chunkmark/dataset/Range" "count" "J" (.long (0 : Int64)) := D7 (Or.inr (hw _ (List.mem_of_getElem? (i := 19) rfl))) (ty := .long) (by decide)
              obtain ⟨_, _, ⟨T8, L8, k8, n8⟩, -, X8, ⟨Lc8, hQ8, l8, y8, z8⟩, st8⟩ := X7.specialBack hx (y := (⟨"com/example/chunkmark/chunkmark/dataset/Range", "<init>", "(JJJJ)V"⟩ : MethodName)) rfl hown (mvT hZ (hw _ (List.mem_of_getElem? (i := 6) rfl))) (mvT hZ (hw _ (List.mem_of_getElem? (i := 7) rfl))) (mvT hZ (hw _ (List.mem_of_getElem? (i := 8) rfl))) (by decide) (backOf (W := 1) (rmR l Z a0 hw [] b7 l1 s1 d1 c1 h7 n0 (Nat.le_trans Z0 E7.1) A7 I7_length I7_start I7_stride I7_count (Nat.le_trans Z0 (Nat.le_of_eq g7.symm)) ok1) hZ (hw _ (List.mem_of_getElem? (i := 8) rfl)) (hw _ (List.mem_of_getElem? (i := 5) rfl)) (by decide) (by decide)) (g := (mkF m 265 #[(.val (.long p0)), .second, (.val (.long p1)), .second, (.val (.long p2)), .second, (.val (.long p3)), .second, (.val (.int p4)), (.val (.int p5)), (.val (.long c1)), .second, (.val (.long s1)), .second, (.val (.long d1)), .second, (.val (.long ee1)), .second, (.val (.long c2)), .second, (.val (.int ss)), (.val (.long s2)), .second, (.val (.int ds)), (.val (.long d2)), .second, (.val (.long ee2)), .second, (.val (.int f7)), (.val (.long l1)), .second, (.val (.long nd)), .second, (.val (.long l2)), .second, .unset, .unset, .unset, .unset, .unset, .unset, .unset, .unset] [(.long c1), (.long d1), (.long s1), (.long l1), (.ref b7), (.ref b7)])) rfl (by rw [hml]; rfl) (Steps.refl _) (a := b7) (argsL := [(.long l1), (.long s1), (.long d1), (.long c1)]) (rest := [(.ref b7)]) (lenOf pd_JJJJ_V rfl) rfl (by show 2 * 0 + _ ≤ _; exact Nat.le_of_eq rfl) (hb hby at_265) (fun _ _ => ⟨rfl, e7, (by decide : 1 + 0 ≤ _), (by decide : 4 + 0 ≤ _)⟩)
              dsimp only [Pt.U, Pt.locs, Pt.cells, Pt.slots] at X8 l8 y8 z8 st8 hQ8
              subst l8 y8 z8
              obtain ⟨rfl, N8, K8, A8, F8_length, F8_start, F8_stride, F8_count⟩ := hQ8
              refine Owes.by (fun _ kq => st8.trans kq) ?_
              show Owes p e below s (QL n0) room_1.cells room_1.slots T8 (mkF m 268 #[(.val (.long p0)), .second, (.val (.long p1)), .second, (.val (.long p2)), .second, (.val (.long p3)), .second, (.val (.int p4)), (.val (.int p5)), (.val (.long c1)), .second, (.val (.long s1)), .second, (.val (.long d1)), .second, (.val (.long ee1)), .second, (.val (.long c2)), .second, (.val (.int ss)), (.val (.long s2)), .second, (.val (.int ds)), (.val (.long d2)), .second, (.val (.long ee2)), .second, (.val (.int f7)), (.val (.long l1)), .second, (.val (.long nd)), .second, (.val (.long l2)), .second, .unset, .unset, .unset, .unset, .unset, .unset, .unset, .unset] [(.ref b7)])
              refine Owes.by (fun _ kq => XS.astore X8.here hx rfl (hb hby at_268) rfl rfl (l' := #[(.val (.long p0)), .second, (.val (.long p1)), .second, (.val (.long p2)), .second, (.val (.long p3)), .second, (.val (.int p4)), (.val (.int p5)), (.val (.long c1)), .second, (.val (.long s1)), .second, (.val (.long d1)), .second, (.val (.long ee1)), .second, (.val (.long c2)), .second, (.val (.int ss)), (.val (.long s2)), .second, (.val (.int ds)), (.val (.long d2)), .second, (.val (.long ee2)), .second, (.val (.int f7)), (.val (.long l1)), .second, (.val (.long nd)), .second, (.val (.long l2)), .second, (.val (.ref b7)), .unset, .unset, .unset, .unset, .unset, .unset, .unset]) rfl kq) ?_
              show Owes p e below s (QL n0) room_1.cells room_1.slots T8 (mkF m 270 #[(.val (.long p0)), .second, (.val (.long p1)), .second, (.val (.long p2)), .second, (.val (.long p3)), .second, (.val (.int p4)), (.val (.int p5)), (.val (.long c1)), .second, (.val (.long s1)), .second, (.val (.long d1)), .second, (.val (.long ee1)), .second, (.val (.long c2)), .second, (.val (.int ss)), (.val (.long s2)), .second, (.val (.int ds)), (.val (.long d2)), .second, (.val (.long ee2)), .second, (.val (.int f7)), (.val (.long l1)), .second, (.val (.long nd)), .second, (.val (.long l2)), .second, (.val (.ref b7)), .unset, .unset, .unset, .unset, .unset, .unset, .unset] [])
              have Q8 : Keep h0 T8.heap [] := ((Keep.refl h0 []).ext E7).trans K8 (allS (Or.inr (Nat.le_of_eq g7.symm)) all0)
              obtain ⟨T9, h9, X9, e9, E9, A9, D9, -, st9⟩ := newO X8 hx hZ hown (hw _ (List.mem_of_getElem? (i := 3) rfl)) (hw _ (List.mem_of_getElem? (i := 4) rfl)) (hw _ (List.mem_of_getElem? (i := 5) rfl)) (rfl : T8.heap = T8.heap) (g := (mkF m 270 #[(.val (.long p0)), .second, (.val (.long p1)), .second, (.val (.long p2)), .second, (.val (.long p3)), .second, (.val (.int p4)), (.val (.int p5)), (.val (.long c1)), .second, (.val (.long s1)), .second, (.val (.long d1)), .second, (.val (.long ee1)), .second, (.val (.long c2)), .second, (.val (.int ss)), (.val (.long s2)), .second, (.val (.int ds)), (.val (.long d2)), .second, (.val (.long ee2)), .second, (.val (.int f7)), (.val (.long l1)), .second, (.val (.long nd)), .second, (.val (.long l2)), .second, (.val (.ref b7)), .unset, .unset, .unset, .unset, .unset, .unset, .unset] [])) rfl (hb hby at_270) (by decide) (by decide)
              obtain ⟨b9, g9⟩ : ∃ z, z = T8.heap.size := ⟨_, rfl⟩
              rw [← g9] at A9 D9 st9
              refine Owes.by st9 ?_
              show Owes p e below s (QL n0) room_1.cells room_1.slots T9 (mkF m 273 #[(.val (.long p0)), .second, (.val (.long p1)), .second, (.val (.long p2)), .second, (.val (.long p3)), .second, (.val (.int p4)), (.val (.int p5)), (.val (.long c1)), .second, (.val (.long s1)), .second, (.val (.long d1)), .second, (.val (.long ee1)), .second, (.val (.long c2)), .second, (.val (.int ss)), (.val (.long s2)), .second, (.val (.int ds)), (.val (.long d2)), .second, (.val (.long ee2)), .second, (.val (.int f7)), (.val (.long l1)), .second, (.val (.long nd)), .second, (.val (.long l2)), .second, (.val (.ref b7)), .unset, .unset, .unset, .unset, .unset, .unset, .unset] [(.ref b9)])
              refine Owes.by (fun _ kq => XS.dup X9.here hx rfl (hb hby at_273) rfl rfl kq) ?_
              show Owes p e below s (QL n0) room_1.cells room_1.slots T9 (mkF m 274 #[(.val (.long p0)), .second, (.val (.long p1)), .second, (.val (.long p2)), .second, (.val (.long p3)), .second, (.val (.int p4)), (.val (.int p5)), (.val (.long c1)), .second, (.val (.long s1)), .second, (.val (.long d1)), .second, (.val (.long ee1)), .second, (.val (.long c2)), .second, (.val (.int ss)), (.val (.long s2)), .second, (.val (.int ds)), (.val (.long d2)), .second, (.val (.long ee2)), .second, (.val (.int f7)), (.val (.long l1)), .second, (.val (.long nd)), .second, (.val (.long l2)), .second, (.val (.ref b7)), .unset, .unset, .unset, .unset, .unset, .unset, .unset] [(.ref b9), (.ref b9)])
              refine Owes.by (fun _ kq => XT.lload X9.here hx rfl (hb hby at_274) rfl kq) ?_
              show Owes p e below s (QL n0) room_1.cells room_1.slots T9 (mkF m 276 #[(.val (.long p0)), .second, (.val (.long p1)), .second, (.val (.long p2)), .second, (.val (.long p3)), .second, (.val (.int p4)), (.val (.int p5)), (.val (.long c1)), .second, (.val (.long s1)), .second, (.val (.long d1)), .second, (.val (.long ee1)), .second, (.val (.long c2)), .second, (.val (.int ss)), (.val (.long s2)), .second, (.val (.int ds)), (.val (.long d2)), .second, (.val (.long ee2)), .second, (.val (.int f7)), (.val (.long l1)), .second, (.val (.long nd)), .second, (.val (.long l2)), .second, (.val (.ref b7)), .unset, .unset, .unset, .unset, .unset, .unset, .unset] [(.long l2), (.ref b9), (.ref b9)])
              refine Owes.by (fun _ kq => XT.lload X9.here hx rfl (hb hby at_276) rfl kq) ?_
              show Owes p e below s (QL n0) room_1.cells room_1.slots T9 (mkF m 278 #[(.val (.long p0)), .second, (.val (.long p1)), .second, (.val (.long p2)), .second, (.val (.long p3)), .second, (.val (.int p4)), (.val (.int p5)), (.val (.long c1)), .second, (.val (.long s1)), .second, (.val (.long d1)), .second, (.val (.long ee1)), .second, (.val (.long c2)), .second, (.val (.int ss)), (.val (.long s2)), .second, (.val (.int ds)), (.val (.long d2)), .second, (.val (.long ee2)), .second, (.val (.int f7)), (.val (.long l1)), .second, (.val (.long nd)), .second, (.val (.long l2)), .second, (.val (.ref b7)), .unset, .unset, .unset, .unset, .unset, .unset, .unset] [(.long s2), (.long l2), (.ref b9), (.ref b9)])
              refine Owes.by (fun _ kq => XT.lload X9.here hx rfl (hb hby at_278) rfl kq) ?_
              show Owes p e below s (QL n0) room_1.cells room_1.slots T9 (mkF m 280 #[(.val (.long p0)), .second, (.val (.long p1)), .second, (.val (.long p2)), .second, (.val (.long p3)), .second, (.val (.int p4)), (.val (.int p5)), (.val (.long c1)), .second, (.val (.long s1)), .second, (.val (.long d1)), .second, (.val (.long ee1)), .second, (.val (.long c2)), .second, (.val (.int ss)), (.val (.long s2)), .second, (.val (.int ds)), (.val (.long d2)), .second, (.val (.long ee2)), .second, (.val (.int f7)), (.val (.long l1)), .second, (.val (.long nd)), .second, (.val (.long l2)), .second, (.val (.ref b7)), .unset, .unset, .unset, .unset, .unset, .unset, .unset] [(.long d2), (.long s2), (.long l2), (.ref b9), (.ref b9)])
              refine Owes.by (fun _ kq => XT.lload X9.here hx rfl (hb hby at_280) rfl kq) ?_
              show Owes p e below s (QL n0) room_1.cells room_1.slots T9 (mkF m 282 #[(.val (.long p0)), .second, (.val (.long p1)), .second, (.val (.long p2)), .second, (.val (.long p3)), .second, (.val (.int p4)), (.val (.int p5)), (.val (.long c1)), .second, (.val (.long s1)), .second, (.val (.long d1)), .second, (.val (.long ee1)), .second, (.val (.long c2)), .second, (.val (.int ss)), (.val (.long s2)), .second, (.val (.int ds)), (.val (.long d2)), .second, (.val (.long ee2)), .second, (.val (.int f7)), (.val (.long l1)), .second, (.val (.long nd)), .second, (.val (.long l2)), .second, (.val (.ref b7)), .unset, .unset, .unset, .unset, .unset, .unset, .unset] [(.long c2), (.long d2), (.long s2), (.long l2), (.ref b9), (.ref b9)])
              have I9_length : Fld Z h9 b9 "com/example/chunkmark/chunkmark/dataset/Range" "length" "J" (.long (0 : Int64)) := D9 (Or.inr (hw _ (List.mem_of_getElem? (i := 13) rfl))) (ty := .long) (by decide)
              have I9_start : Fld Z h9 b9 "com/example/chunkmark/chunkmark/dataset/Range" "start" "J" (.long (0 : Int64)) := D9 (Or.inr (hw _ (List.mem_of_getElem? (i := 15) rfl))) (ty := .long) (by decide)
              have I9_stride : Fld Z h9 b9 "com/example/chunkmark/chunkmark/dataset/Range" "stride" "J" (.long (0 : Int64)) := D9 (Or.inr (hw _ (List.mem_of_getElem? (i := 17) rfl))) (ty := .long) (by decide)
              have I9_count : Fld Z h9 b9 "com/example/chunkmark/chunkmark/dataset/Range" "count" "J" (.long (0 : Int64)) := D9 (Or.inr (hw _ (List.mem_of_getElem? (i := 19) rfl))) (ty := .long) (by decide)
              obtain ⟨_, _, ⟨T10, L10, k10, n10⟩, -, X10, ⟨Lc10, hQ10, l10, y10, z10⟩, st10⟩ := X9.specialBack hx (y := (⟨"com/example/chunkmark/chunkmark/dataset/Range", "<init>", "(JJJJ)V"⟩ : MethodName)) rfl hown (mvT hZ (hw _ (List.mem_of_getElem? (i := 6) rfl))) (mvT hZ (hw _ (List.mem_of_getElem? (i := 7) rfl))) (mvT hZ (hw _ (List.mem_of_getElem? (i := 8) rfl))) (by decide) (backOf (W := 1) (rmR l Z a0 hw [] b9 l2 s2 d2 c2 h9 n0 (Nat.le_trans (Nat.le_trans Z0 Q8.1) E9.1) A9 I9_length I9_start I9_stride I9_count (Nat.le_trans (Nat.le_trans Z0 Q8.1) (Nat.le_of_eq g9.symm)) ok2) hZ (hw _ (List.mem_of_getElem? (i := 8) rfl)) (hw _ (List.mem_of_getElem? (i := 5) rfl)) (by decide) (by decide)) (g := (mkF m 282 #[(.val (.long p0)), .second, (.val (.long p1)), .second, (.val (.long p2)), .second, (.val (.long p3)), .second, (.val (.int p4)), (.val (.int p5)), (.val (.long c1)), .second, (.val (.long s1)), .second, (.val (.long d1)), .second, (.val (.long ee1)), .second, (.val (.long c2)), .second, (.val (.int ss)), (.val (.long s2)), .second, (.val (.int ds)), (.val (.long d2)), .second, (.val (.long ee2)), .second, (.val (.int f7)), (.val (.long l1)), .second, (.val (.long nd)), .second, (.val (.long l2)), .second, (.val (.ref b7)), .unset, .unset, .unset, .unset, .unset, .unset, .unset] [(.long c2), (.long d2), (.long s2), (.long l2), (.ref b9), (.ref b9)])) rfl (by rw [hml]; rfl) (Steps.refl _) (a := b9) (argsL := [(.long l2), (.long s2), (.long d2), (.long c2)]) (rest := [(.ref b9)]) (lenOf pd_JJJJ_V rfl) rfl (by show 2 * 0 + _ ≤ _; exact Nat.le_of_eq rfl) (hb hby at_282) (fun _ _ => ⟨rfl, e9, (by decide : 2 + 0 ≤ _), (by decide : 8 + 0 ≤ _)⟩)
              dsimp only [Pt.U, Pt.locs, Pt.cells, Pt.slots] at X10 l10 y10 z10 st10 hQ10
              subst l10 y10 z10
              obtain ⟨rfl, N10, K10, A10, F10_length, F10_start, F10_stride, F10_count⟩ := hQ10
              refine Owes.by (fun _ kq => st10.trans kq) ?_
              show Owes p e below s (QL n0) room_1.cells room_1.slots T10 (mkF m 285 #[(.val (.long p0)), .second, (.val (.long p1)), .second, (.val (.long p2)), .second, (.val (.long p3)), .second, (.val (.int p4)), (.val (.int p5)), (.val (.long c1)), .second, (.val (.long s1)), .second, (.val (.long d1)), .second, (.val (.long ee1)), .second, (.val (.long c2)), .second, (.val (.int ss)), (.val (.long s2)), .second, (.val (.int ds)), (.val (.long d2)), .second, (.val (.long ee2)), .second, (.val (.int f7)), (.val (.long l1)), .second, (.val (.long nd)), .second, (.val (.long l2)), .second, (.val (.ref b7)), .unset, .unset, .unset, .unset, .unset, .unset, .unset] [(.ref b9)])
              refine Owes.by (fun _ kq => XS.astore X10.here hx rfl (hb hby at_285) rfl rfl (l' := #[(.val (.long p0)), .second, (.val (.long p1)), .second, (.val (.long p2)), .second, (.val (.long p3)), .second, (.val (.int p4)), (.val (.int p5)), (.val (.long c1)), .second, (.val (.long s1)), .second, (.val (.long d1)), .second, (.val (.long ee1)), .second, (.val (.long c2)), .second, (.val (.int ss)), (.val (.long s2)), .second, (.val (.int ds)), (.val (.long d2)), .second, (.val (.long ee2)), .second, (.val (.int f7)), (.val (.long l1)), .second, (.val (.long nd)), .second, (.val (.long l2)), .second, (.val (.ref b7)), (.val (.ref b9)), .unset, .unset, .unset, .unset, .unset, .unset]) rfl kq) ?_
              show Owes p e below s (QL n0) room_1.cells room_1.slots T10 (mkF m 287 #[(.val (.long p0)), .second, (.val (.long p1)), .second, (.val (.long p2)), .second, (.val (.long p3)), .second, (.val (.int p4)), (.val (.int p5)), (.val (.long c1)), .second, (.val (.long s1)), .second, (.val (.long d1)), .second, (.val (.long ee1)), .second, (.val (.long c2)), .second, (.val (.int ss)), (.val (.long s2)), .second, (.val (.int ds)), (.val (.long d2)), .second, (.val (.long ee2)), .second, (.val (.int f7)), (.val (.long l1)), .second, (.val (.long nd)), .second, (.val (.long l2)), .second, (.val (.ref b7)), (.val (.ref b9)), .unset, .unset, .unset, .unset, .unset, .unset] [])
              refine Owes.by (fun _ kq => XT.lload X10.here hx rfl (hb hby at_287) rfl kq) ?_
              show Owes p e below s (QL n0) room_1.cells room_1.slots T10 (mkF m 289 #[(.val (.long p0)), .second, (.val (.long p1)), .second, (.val (.long p2)), .second, (.val (.long p3)), .second, (.val (.int p4)), (.val (.int p5)), (.val (.long c1)), .second, (.val (.long s1)), .second, (.val (.long d1)), .second, (.val (.long ee1)), .second, (.val (.long c2)), .second, (.val (.int ss)), (.val (.long s2)), .second, (.val (.int ds)), (.val (.long d2)), .second, (.val (.long ee2)), .second, (.val (.int f7)), (.val (.long l1)), .second, (.val (.long nd)), .second, (.val (.long l2)), .second, (.val (.ref b7)), (.val (.ref b9)), .unset, .unset, .unset, .unset, .unset, .unset] [(.long l1)])
              refine Owes.by (fun _ kq => XT.lload X10.here hx rfl (hb hby at_289) rfl kq) ?_
              show Owes p e below s (QL n0) room_1.cells room_1.slots T10 (mkF m 291 #[(.val (.long p0)), .second, (.val (.long p1)), .second, (.val (.long p2)), .second, (.val (.long p3)), .second, (.val (.int p4)), (.val (.int p5)), (.val (.long c1)), .second, (.val (.long s1)), .second, (.val (.long d1)), .second, (.val (.long ee1)), .second, (.val (.long c2)), .second, (.val (.int ss)), (.val (.long s2)), .second, (.val (.int ds)), (.val (.long d2)), .second, (.val (.long ee2)), .second, (.val (.int f7)), (.val (.long l1)), .second, (.val (.long nd)), .second, (.val (.long l2)), .second, (.val (.ref b7)), (.val (.ref b9)), .unset, .unset, .unset, .unset, .unset, .unset] [(.long l2), (.long l1)])
              refine Owes.by (fun _ kq => XT.lcmp X10.here hx rfl (hb hby at_291) rfl kq) ?_
              show Owes p e below s (QL n0) room_1.cells room_1.slots T10 (mkF m 292 #[(.val (.long p0)), .second, (.val (.long p1)), .second, (.val (.long p2)), .second, (.val (.long p3)), .second, (.val (.int p4)), (.val (.int p5)), (.val (.long c1)), .second, (.val (.long s1)), .second, (.val (.long d1)), .second, (.val (.long ee1)), .second, (.val (.long c2)), .second, (.val (.int ss)), (.val (.long s2)), .second, (.val (.int ds)), (.val (.long d2)), .second, (.val (.long ee2)), .second, (.val (.int f7)), (.val (.long l1)), .second, (.val (.long nd)), .second, (.val (.long l2)), .second, (.val (.ref b7)), (.val (.ref b9)), .unset, .unset, .unset, .unset, .unset, .unset] [(.int (XT.cmpL l1 l2))])
              have ne : b7 ≠ b9 := Nat.ne_of_lt (Nat.lt_of_lt_of_le A8.lt (Nat.le_of_eq g9.symm))
              have B1_length := (F8_length.ext E9).keep K10 (ninS ne nin0)
              have B1_start := (F8_start.ext E9).keep K10 (ninS ne nin0)
              have B1_stride := (F8_stride.ext E9).keep K10 (ninS ne nin0)
              have B1_count := (F8_count.ext E9).keep K10 (ninS ne nin0)
              have A1' := (A8.ext E9).keep K10
              have Q2 : Keep h0 T10.heap [] := (Q8.ext E9).trans K10 (allS (Or.inr (Nat.le_trans Q8.1 (Nat.le_of_eq g9.symm))) all0)
              have X2' := own_ext Q2
              have Z2 : n0 ≤ T10.heap.size := Nat.le_trans Z0 Q2.1
              have NN := Fr.app (Fr.app N0 N8) N10
              refine own_join X10 (h := T10.heap) (G := fun T' => ∀ (x : Int32), ((own_exp l1 s1 d1 c1 l2 s2 d2 c2 ∧ x = 1) ∨ (¬ own_exp l1 s1 d1 c1 l2 s2 d2 c2 ∧ x = 0)) → Owes p e below s (QL n0) room_1.cells room_1.slots T' (mkF m 338 #[(.val (.long p0)), .second, (.val (.long p1)), .second, (.val (.long p2)), .second, (.val (.long p3)), .second, (.val (.int p4)), (.val (.int p5)), (.val (.long c1)), .second, (.val (.long s1)), .second, (.val (.long d1)), .second, (.val (.long ee1)), .second, (.val (.long c2)), .second, (.val (.int ss)), (.val (.long s2)), .second, (.val (.int ds)), (.val (.long d2)), .second, (.val (.long ee2)), .second, (.val (.int f7)), (.val (.long l1)), .second, (.val (.long nd)), .second, (.val (.long l2)), .second, (.val (.ref b7)), (.val (.ref b9)), .unset, .unset, .unset, .unset, .unset, .unset] [(.int x)])) (fun T11 X11 e11 x hx1 => ?_) (fun J11 => ?_)
              · skip
                show Owes p e below s (QL n0) room_1.cells room_1.slots T11 (mkF m 338 #[(.val (.long p0)), .second, (.val (.long p1)), .second, (.val (.long p2)), .second, (.val (.long p3)), .second, (.val (.int p4)), (.val (.int p5)), (.val (.long c1)), .second, (.val (.long s1)), .second, (.val (.long d1)), .second, (.val (.long ee1)), .second, (.val (.long c2)), .second, (.val (.int ss)), (.val (.long s2)), .second, (.val (.int ds)), (.val (.long d2)), .second, (.val (.long ee2)), .second, (.val (.int f7)), (.val (.long l1)), .second, (.val (.long nd)), .second, (.val (.long l2)), .second, (.val (.ref b7)), (.val (.ref b9)), .unset, .unset, .unset, .unset, .unset, .unset] [(.int x)])
                rcases hx1 with ⟨hE, rfl⟩ | ⟨hE, rfl⟩
                · skip
                  show Owes p e below s (QL n0) room_1.cells room_1.slots T11 (mkF m 338 #[(.val (.long p0)), .second, (.val (.long p1)), .second, (.val (.long p2)), .second, (.val (.long p3)), .second, (.val (.int p4)), (.val (.int p5)), (.val (.long c1)), .second, (.val (.long s1)), .second, (.val (.long d1)), .second, (.val (.long ee1)), .second, (.val (.long c2)), .second, (.val (.int ss)), (.val (.long s2)), .second, (.val (.int ds)), (.val (.long d2)), .second, (.val (.long ee2)), .second, (.val (.int f7)), (.val (.long l1)), .second, (.val (.long nd)), .second, (.val (.long l2)), .second, (.val (.ref b7)), (.val (.ref b9)), .unset, .unset, .unset, .unset, .unset, .unset] [(.int (1 : Int32))])
                  refine Owes.by (fun _ kq => XS.istore X11.here hx rfl (hb hby at_338) rfl (l' := #[(.val (.long p0)), .second, (.val (.long p1)), .second, (.val (.long p2)), .second, (.val (.long p3)), .second, (.val (.int p4)), (.val (.int p5)), (.val (.long c1)), .second, (.val (.long s1)), .second, (.val (.long d1)), .second, (.val (.long ee1)), .second, (.val (.long c2)), .second, (.val (.int ss)), (.val (.long s2)), .second, (.val (.int ds)), (.val (.long d2)), .second, (.val (.long ee2)), .second, (.val (.int f7)), (.val (.long l1)), .second, (.val (.long nd)), .second, (.val (.long l2)), .second, (.val (.ref b7)), (.val (.ref b9)), (.val (.int (1 : Int32))), .unset, .unset, .unset, .unset, .unset]) rfl kq) ?_
                  show Owes p e below s (QL n0) room_1.cells room_1.slots T11 (mkF m 340 #[(.val (.long p0)), .second, (.val (.long p1)), .second, (.val (.long p2)), .second, (.val (.long p3)), .second, (.val (.int p4)), (.val (.int p5)), (.val (.long c1)), .second, (.val (.long s1)), .second, (.val (.long d1)), .second, (.val (.long ee1)), .second, (.val (.long c2)), .second, (.val (.int ss)), (.val (.long s2)), .second, (.val (.int ds)), (.val (.long d2)), .second, (.val (.long ee2)), .second, (.val (.int f7)), (.val (.long l1)), .second, (.val (.long nd)), .second, (.val (.long l2)), .second, (.val (.ref b7)), (.val (.ref b9)), (.val (.int (1 : Int32))), .unset, .unset, .unset, .unset, .unset] [])
                  refine Owes.by (fun _ kq => XS.aload X11.here hx rfl (hb hby at_340) rfl rfl kq) ?_
                  show Owes p e below s (QL n0) room_1.cells room_1.slots T11 (mkF m 342 #[(.val (.long p0)), .second, (.val (.long p1)), .second, (.val (.long p2)), .second, (.val (.long p3)), .second, (.val (.int p4)), (.val (.int p5)), (.val (.long c1)), .second, (.val (.long s1)), .second, (.val (.long d1)), .second, (.val (.long ee1)), .second, (.val (.long c2)), .second, (.val (.int ss)), (.val (.long s2)), .second, (.val (.int ds)), (.val (.long d2)), .second, (.val (.long ee2)), .second, (.val (.int f7)), (.val (.long l1)), .second, (.val (.long nd)), .second, (.val (.long l2)), .second, (.val (.ref b7)), (.val (.ref b9)), (.val (.int (1 : Int32))), .unset, .unset, .unset, .unset, .unset] [(.ref b7)])
                  refine Owes.by (fun _ kq => XS.aload X11.here hx rfl (hb hby at_342) rfl rfl kq) ?_
                  show Owes p e below s (QL n0) room_1.cells room_1.slots T11 (mkF m 344 #[(.val (.long p0)), .second, (.val (.long p1)), .second, (.val (.long p2)), .second, (.val (.long p3)), .second, (.val (.int p4)), (.val (.int p5)), (.val (.long c1)), .second, (.val (.long s1)), .second, (.val (.long d1)), .second, (.val (.long ee1)), .second, (.val (.long c2)), .second, (.val (.int ss)), (.val (.long s2)), .second, (.val (.int ds)), (.val (.long d2)), .second, (.val (.long ee2)), .second, (.val (.int f7)), (.val (.long l1)), .second, (.val (.long nd)), .second, (.val (.long l2)), .second, (.val (.ref b7)), (.val (.ref b9)), (.val (.int (1 : Int32))), .unset, .unset, .unset, .unset, .unset] [(.ref b9), (.ref b7)])
                  obtain ⟨cq12, kq12, qa12, qb12, qc12⟩ := isOf hZ e11 A1'
                  obtain ⟨_, _, ⟨T12, L12, k12, n12⟩, -, X12, ⟨Lc12, hQ12, l12, y12, z12⟩, st12⟩ := X11.virtualBack hx (y := (⟨"com/example/chunkmark/chunkmark/dataset/Range", "equals", "(Ljava/lang/Object;)Z"⟩ : MethodName)) (z := (⟨"com/example/chunkmark/chunkmark/dataset/Range", "equals", "(Ljava/lang/Object;)Z"⟩ : MethodName)) hown (mvT hZ (hw _ (List.mem_of_getElem? (i := 20) rfl))) (mvT hZ (hw _ (List.mem_of_getElem? (i := 21) rfl))) (notFace_of_selects (args := #[]) (mvT hZ (hw _ (List.mem_of_getElem? (i := 23) rfl)))) (mvT hZ (hw _ (List.mem_of_getElem? (i := 23) rfl))) (mvT hZ (hw _ (List.mem_of_getElem? (i := 22) rfl))) (by decide) (backOf (W := 0) (rmE l Z a0 hw [] b7 b9 l1 (if c1 = 0 then 0 else s1) (if 1 < c1 then d1 else 1) c1 l2 (if c2 = 0 then 0 else s2) (if 1 < c2 then d2 else 1) c2 1 T10.heap n0 Z2 A10 B1_length B1_start B1_stride B1_count F10_length F10_start F10_stride F10_count (if_pos ((own_iff h_c1.1).mpr hE))) hZ (hw _ (List.mem_of_getElem? (i := 24) rfl)) (hw _ (List.mem_of_getElem? (i := 5) rfl)) (by decide) (by decide)) qa12 qc12 (g := (mkF m 344 #[(.val (.long p0)), .second, (.val (.long p1)), .second, (.val (.long p2)), .second, (.val (.long p3)), .second, (.val (.int p4)), (.val (.int p5)), (.val (.long c1)), .second, (.val (.long s1)), .second, (.val (.long d1)), .second, (.val (.long ee1)), .second, (.val (.long c2)), .second, (.val (.int ss)), (.val (.long s2)), .second, (.val (.int ds)), (.val (.long d2)), .second, (.val (.long ee2)), .second, (.val (.int f7)), (.val (.long l1)), .second, (.val (.long nd)), .second, (.val (.long l2)), .second, (.val (.ref b7)), (.val (.ref b9)), (.val (.int (1 : Int32))), .unset, .unset, .unset, .unset, .unset] [(.ref b9), (.ref b7)])) rfl (by rw [hml]; rfl) (Steps.refl _) (argsL := [(.ref b9)]) (rest := []) (lenOf pd_Ljava_lang_Object_Z rfl) rfl (by show 2 * 0 + _ ≤ _; exact Nat.le_of_eq rfl) (hb hby at_344) (fun _ _ => ⟨rfl, e11, (by decide : 2 + 0 ≤ _), (by decide : 8 + 0 ≤ _)⟩)
                  dsimp only [Pt.U, Pt.locs, Pt.cells, Pt.slots] at X12 l12 y12 z12 st12 hQ12
                  subst l12 y12 z12
                  obtain ⟨rfl, rfl, e12⟩ := hQ12
                  try rw [List.append_nil] at X12
                  refine Owes.by (fun _ kq => st12.trans kq) ?_
                  show Owes p e below s (QL n0) room_1.cells room_1.slots T12 (mkF m 347 #[(.val (.long p0)), .second, (.val (.long p1)), .second, (.val (.long p2)), .second, (.val (.long p3)), .second, (.val (.int p4)), (.val (.int p5)), (.val (.long c1)), .second, (.val (.long s1)), .second, (.val (.long d1)), .second, (.val (.long ee1)), .second, (.val (.long c2)), .second, (.val (.int ss)), (.val (.long s2)), .second, (.val (.int ds)), (.val (.long d2)), .second, (.val (.long ee2)), .second, (.val (.int f7)), (.val (.long l1)), .second, (.val (.long nd)), .second, (.val (.long l2)), .second, (.val (.ref b7)), (.val (.ref b9)), (.val (.int (1 : Int32))), .unset, .unset, .unset, .unset, .unset] [(.int (1 : Int32))])
                  refine Owes.by (fun _ kq => XS.istore X12.here hx rfl (hb hby at_347) rfl (l' := #[(.val (.long p0)), .second, (.val (.long p1)), .second, (.val (.long p2)), .second, (.val (.long p3)), .second, (.val (.int p4)), (.val (.int p5)), (.val (.long c1)), .second, (.val (.long s1)), .second, (.val (.long d1)), .second, (.val (.long ee1)), .second, (.val (.long c2)), .second, (.val (.int ss)), (.val (.long s2)), .second, (.val (.int ds)), (.val (.long d2)), .second, (.val (.long ee2)), .second, (.val (.int f7)), (.val (.long l1)), .second, (.val (.long nd)), .second, (.val (.long l2)), .second, (.val (.ref b7)), (.val (.ref b9)), (.val (.int (1 : Int32))), (.val (.int (1 : Int32))), .unset, .unset, .unset, .unset]) rfl kq) ?_
                  show Owes p e below s (QL n0) room_1.cells room_1.slots T12 (mkF m 349 #[(.val (.long p0)), .second, (.val (.long p1)), .second, (.val (.long p2)), .second, (.val (.long p3)), .second, (.val (.int p4)), (.val (.int p5)), (.val (.long c1)), .second, (.val (.long s1)), .second, (.val (.long d1)), .second, (.val (.long ee1)), .second, (.val (.long c2)), .second, (.val (.int ss)), (.val (.long s2)), .second, (.val (.int ds)), (.val (.long d2)), .second, (.val (.long ee2)), .second, (.val (.int f7)), (.val (.long l1)), .second, (.val (.long nd)), .second, (.val (.long l2)), .second, (.val (.ref b7)), (.val (.ref b9)), (.val (.int (1 : Int32))), (.val (.int (1 : Int32))), .unset, .unset, .unset, .unset] [])
                  refine Owes.by (fun _ kq => XS.aload X12.here hx rfl (hb hby at_349) rfl rfl kq) ?_
                  show Owes p e below s (QL n0) room_1.cells room_1.slots T12 (mkF m 351 #[(.val (.long p0)), .second, (.val (.long p1)), .second, (.val (.long p2)), .second, (.val (.long p3)), .second, (.val (.int p4)), (.val (.int p5)), (.val (.long c1)), .second, (.val (.long s1)), .second, (.val (.long d1)), .second, (.val (.long ee1)), .second, (.val (.long c2)), .second, (.val (.int ss)), (.val (.long s2)), .second, (.val (.int ds)), (.val (.long d2)), .second, (.val (.long ee2)), .second, (.val (.int f7)), (.val (.long l1)), .second, (.val (.long nd)), .second, (.val (.long l2)), .second, (.val (.ref b7)), (.val (.ref b9)), (.val (.int (1 : Int32))), (.val (.int (1 : Int32))), .unset, .unset, .unset, .unset] [(.ref b9)])
                  refine Owes.by (fun _ kq => XS.aload X12.here hx rfl (hb hby at_351) rfl rfl kq) ?_
                  show Owes p e below s (QL n0) room_1.cells room_1.slots T12 (mkF m 353 #[(.val (.long p0)), .second, (.val (.long p1)), .second, (.val (.long p2)), .second, (.val (.long p3)), .second, (.val (.int p4)), (.val (.int p5)), (.val (.long c1)), .second, (.val (.long s1)), .second, (.val (.long d1)), .second, (.val (.long ee1)), .second, (.val (.long c2)), .second, (.val (.int ss)), (.val (.long s2)), .second, (.val (.int ds)), (.val (.long d2)), .second, (.val (.long ee2)), .second, (.val (.int f7)), (.val (.long l1)), .second, (.val (.long nd)), .second, (.val (.long l2)), .second, (.val (.ref b7)), (.val (.ref b9)), (.val (.int (1 : Int32))), (.val (.int (1 : Int32))), .unset, .unset, .unset, .unset] [(.ref b7), (.ref b9)])
                  obtain ⟨cq13, kq13, qa13, qb13, qc13⟩ := isOf hZ e12 A10
                  obtain ⟨_, _, ⟨T13, L13, k13, n13⟩, -, X13, ⟨Lc13, hQ13, l13, y13, z13⟩, st13⟩ := X12.virtualBack hx (y := (⟨"com/example/chunkmark/chunkmark/dataset/Range", "equals", "(Ljava/lang/Object;)Z"⟩ : MethodName)) (z := (⟨"com/example/chunkmark/chunkmark/dataset/Range", "equals", "(Ljava/lang/Object;)Z"⟩ : MethodName)) hown (mvT hZ (hw _ (List.mem_of_getElem? (i := 20) rfl))) (mvT hZ (hw _ (List.mem_of_getElem? (i := 21) rfl))) (notFace_of_selects (args := #[]) (mvT hZ (hw _ (List.mem_of_getElem? (i := 23) rfl)))) (mvT hZ (hw _ (List.mem_of_getElem? (i := 23) rfl))) (mvT hZ (hw _ (List.mem_of_getElem? (i := 22) rfl))) (by decide) (backOf (W := 0) (rmE l Z a0 hw [] b9 b7 l2 (if c2 = 0 then 0 else s2) (if 1 < c2 then d2 else 1) c2 l1 (if c1 = 0 then 0 else s1) (if 1 < c1 then d1 else 1) c1 1 T10.heap n0 Z2 A1' F10_length F10_start F10_stride F10_count B1_length B1_start B1_stride B1_count (if_pos ((own_iff h_c2.1).mpr (own_exp_comm.mp hE)))) hZ (hw _ (List.mem_of_getElem? (i := 24) rfl)) (hw _ (List.mem_of_getElem? (i := 5) rfl)) (by decide) (by decide)) qa13 qc13 (g := (mkF m 353 #[(.val (.long p0)), .second, (.val (.long p1)), .second, (.val (.long p2)), .second, (.val (.long p3)), .second, (.val (.int p4)), (.val (.int p5)), (.val (.long c1)), .second, (.val (.long s1)), .second, (.val (.long d1)), .second, (.val (.long ee1)), .second, (.val (.long c2)), .second, (.val (.int ss)), (.val (.long s2)), .second, (.val (.int ds)), (.val (.long d2)), .second, (.val (.long ee2)), .second, (.val (.int f7)), (.val (.long l1)), .second, (.val (.long nd)), .second, (.val (.long l2)), .second, (.val (.ref b7)), (.val (.ref b9)), (.val (.int (1 : Int32))), (.val (.int (1 : Int32))), .unset, .unset, .unset, .unset] [(.ref b7), (.ref b9)])) rfl (by rw [hml]; rfl) (Steps.refl _) (argsL := [(.ref b7)]) (rest := []) (lenOf pd_Ljava_lang_Object_Z rfl) rfl (by show 2 * 0 + _ ≤ _; exact Nat.le_of_eq rfl) (hb hby at_353) (fun _ _ => ⟨rfl, e12, (by decide : 2 + 0 ≤ _), (by decide : 8 + 0 ≤ _)⟩)
                  dsimp only [Pt.U, Pt.locs, Pt.cells, Pt.slots] at X13 l13 y13 z13 st13 hQ13
                  subst l13 y13 z13
                  obtain ⟨rfl, rfl, e13⟩ := hQ13
                  try rw [List.append_nil] at X13
                  refine Owes.by (fun _ kq => st13.trans kq) ?_
                  show Owes p e below s (QL n0) room_1.cells room_1.slots T13 (mkF m 356 #[(.val (.long p0)), .second, (.val (.long p1)), .second, (.val (.long p2)), .second, (.val (.long p3)), .second, (.val (.int p4)), (.val (.int p5)), (.val (.long c1)), .second, (.val (.long s1)), .second, (.val (.long d1)), .second, (.val (.long ee1)), .second, (.val (.long c2)), .second, (.val (.int ss)), (.val (.long s2)), .second, (.val (.int ds)), (.val (.long d2)), .second, (.val (.long ee2)), .second, (.val (.int f7)), (.val (.long l1)), .second, (.val (.long nd)), .second, (.val (.long l2)), .second, (.val (.ref b7)), (.val (.ref b9)), (.val (.int (1 : Int32))), (.val (.int (1 : Int32))), .unset, .unset, .unset, .unset] [(.int (1 : Int32))])
                  refine Owes.by (fun _ kq => XS.istore X13.here hx rfl (hb hby at_356) rfl (l' := #[(.val (.long p0)), .second, (.val (.long p1)), .second, (.val (.long p2)), .second, (.val (.long p3)), .second, (.val (.int p4)), (.val (.int p5)), (.val (.long c1)), .second, (.val (.long s1)), .second, (.val (.long d1)), .second, (.val (.long ee1)), .second, (.val (.long c2)), .second, (.val (.int ss)), (.val (.long s2)), .second, (.val (.int ds)), (.val (.long d2)), .second, (.val (.long ee2)), .second, (.val (.int f7)), (.val (.long l1)), .second, (.val (.long nd)), .second, (.val (.long l2)), .second, (.val (.ref b7)), (.val (.ref b9)), (.val (.int (1 : Int32))), (.val (.int (1 : Int32))), (.val (.int (1 : Int32))), .unset, .unset, .unset]) rfl kq) ?_
                  show Owes p e below s (QL n0) room_1.cells room_1.slots T13 (mkF m 358 #[(.val (.long p0)), .second, (.val (.long p1)), .second, (.val (.long p2)), .second, (.val (.long p3)), .second, (.val (.int p4)), (.val (.int p5)), (.val (.long c1)), .second, (.val (.long s1)), .second, (.val (.long d1)), .second, (.val (.long ee1)), .second, (.val (.long c2)), .second, (.val (.int ss)), (.val (.long s2)), .second, (.val (.int ds)), (.val (.long d2)), .second, (.val (.long ee2)), .second, (.val (.int f7)), (.val (.long l1)), .second, (.val (.long nd)), .second, (.val (.long l2)), .second, (.val (.ref b7)), (.val (.ref b9)), (.val (.int (1 : Int32))), (.val (.int (1 : Int32))), (.val (.int (1 : Int32))), .unset, .unset, .unset] [])
                  refine Owes.by (fun _ kq => XS.aload X13.here hx rfl (hb hby at_358) rfl rfl kq) ?_
                  show Owes p e below s (QL n0) room_1.cells room_1.slots T13 (mkF m 360 #[(.val (.long p0)), .second, (.val (.long p1)), .second, (.val (.long p2)), .second, (.val (.long p3)), .second, (.val (.int p4)), (.val (.int p5)), (.val (.long c1)), .second, (.val (.long s1)), .second, (.val (.long d1)), .second, (.val (.long ee1)), .second, (.val (.long c2)), .second, (.val (.int ss)), (.val (.long s2)), .second, (.val (.int ds)), (.val (.long d2)), .second, (.val (.long ee2)), .second, (.val (.int f7)), (.val (.long l1)), .second, (.val (.long nd)), .second, (.val (.long l2)), .second, (.val (.ref b7)), (.val (.ref b9)), (.val (.int (1 : Int32))), (.val (.int (1 : Int32))), (.val (.int (1 : Int32))), .unset, .unset, .unset] [(.ref b7)])
                  refine Owes.by (fun _ kq => XS.aload X13.here hx rfl (hb hby at_360) rfl rfl kq) ?_
                  show Owes p e below s (QL n0) room_1.cells room_1.slots T13 (mkF m 362 #[(.val (.long p0)), .second, (.val (.long p1)), .second, (.val (.long p2)), .second, (.val (.long p3)), .second, (.val (.int p4)), (.val (.int p5)), (.val (.long c1)), .second, (.val (.long s1)), .second, (.val (.long d1)), .second, (.val (.long ee1)), .second, (.val (.long c2)), .second, (.val (.int ss)), (.val (.long s2)), .second, (.val (.int ds)), (.val (.long d2)), .second, (.val (.long ee2)), .second, (.val (.int f7)), (.val (.long l1)), .second, (.val (.long nd)), .second, (.val (.long l2)), .second, (.val (.ref b7)), (.val (.ref b9)), (.val (.int (1 : Int32))), (.val (.int (1 : Int32))), (.val (.int (1 : Int32))), .unset, .unset, .unset] [(.ref b7), (.ref b7)])
                  obtain ⟨cq14, kq14, qa14, qb14, qc14⟩ := isOf hZ e13 A1'
                  obtain ⟨_, _, ⟨T14, L14, k14, n14⟩, -, X14, ⟨Lc14, hQ14, l14, y14, z14⟩, st14⟩ := X13.virtualBack hx (y := (⟨"com/example/chunkmark/chunkmark/dataset/Range", "equals", "(Ljava/lang/Object;)Z"⟩ : MethodName)) (z := (⟨"com/example/chunkmark/chunkmark/dataset/Range", "equals", "(Ljava/lang/Object;)Z"⟩ : MethodName)) hown (mvT hZ (hw _ (List.mem_of_getElem? (i := 20) rfl))) (mvT hZ (hw _ (List.mem_of_getElem? (i := 21) rfl))) (notFace_of_selects (args := #[]) (mvT hZ (hw _ (List.mem_of_getElem? (i := 23) rfl)))) (mvT hZ (hw _ (List.mem_of_getElem? (i := 23) rfl))) (mvT hZ (hw _ (List.mem_of_getElem? (i := 22) rfl))) (by decide) (backOf (W := 0) (rmE l Z a0 hw [] b7 b7 l1 (if c1 = 0 then 0 else s1) (if 1 < c1 then d1 else 1) c1 l1 (if c1 = 0 then 0 else s1) (if 1 < c1 then d1 else 1) c1 1 T10.heap n0 Z2 A1' B1_length B1_start B1_stride B1_count B1_length B1_start B1_stride B1_count (if_pos ⟨rfl, rfl, rfl, rfl⟩)) hZ (hw _ (List.mem_of_getElem? (i := 24) rfl)) (hw _ (List.mem_of_getElem? (i := 5) rfl)) (by decide) (by decide)) qa14 qc14 (g := (mkF m 362 #[(.val (.long p0)), .second, (.val (.long p1)), .second, (.val (.long p2)), .second, (.val (.long p3)), .second, (.val (.int p4)), (.val (.int p5)), (.val (.long c1)), .second, (.val (.long s1)), .second, (.val (.long d1)), .second, (.val (.long ee1)), .second, (.val (.long c2)), .second, (.val (.int ss)), (.val (.long s2)), .second, (.val (.int ds)), (.val (.long d2)), .second, (.val (.long ee2)), .second, (.val (.int f7)), (.val (.long l1)), .second, (.val (.long nd)), .second, (.val (.long l2)), .second, (.val (.ref b7)), (.val (.ref b9)), (.val (.int (1 : Int32))), (.val (.int (1 : Int32))), (.val (.int (1 : Int32))), .unset, .unset, .unset] [(.ref b7), (.ref b7)])) rfl (by rw [hml]; rfl) (Steps.refl _) (argsL := [(.ref b7)]) (rest := []) (lenOf pd_Ljava_lang_Object_Z rfl) rfl (by show 2 * 0 + _ ≤ _; exact Nat.le_of_eq rfl) (hb hby at_362) (fun _ _ => ⟨rfl, e13, (by decide : 2 + 0 ≤ _), (by decide : 8 + 0 ≤ _)⟩)
                  dsimp only [Pt.U, Pt.locs, Pt.cells, Pt.slots] at X14 l14 y14 z14 st14 hQ14
                  subst l14 y14 z14
                  obtain ⟨rfl, rfl, e14⟩ := hQ14
                  try rw [List.append_nil] at X14
                  refine Owes.by (fun _ kq => st14.trans kq) ?_
                  show Owes p e below s (QL n0) room_1.cells room_1.slots T14 (mkF m 365 #[(.val (.long p0)), .second, (.val (.long p1)), .second, (.val (.long p2)), .second, (.val (.long p3)), .second, (.val (.int p4)), (.val (.int p5)), (.val (.long c1)), .second, (.val (.long s1)), .second, (.val (.long d1)), .second, (.val (.long ee1)), .second, (.val (.long c2)), .second, (.val (.int ss)), (.val (.long s2)), .second, (.val (.int ds)), (.val (.long d2)), .second, (.val (.long ee2)), .second, (.val (.int f7)), (.val (.long l1)), .second, (.val (.long nd)), .second, (.val (.long l2)), .second, (.val (.ref b7)), (.val (.ref b9)), (.val (.int (1 : Int32))), (.val (.int (1 : Int32))), (.val (.int (1 : Int32))), .unset, .unset, .unset] [(.int (1 : Int32))])
                  refine Owes.by (fun _ kq => XS.istore X14.here hx rfl (hb hby at_365) rfl (l' := #[(.val (.long p0)), .second, (.val (.long p1)), .second, (.val (.long p2)), .second, (.val (.long p3)), .second, (.val (.int p4)), (.val (.int p5)), (.val (.long c1)), .second, (.val (.long s1)), .second, (.val (.long d1)), .second, (.val (.long ee1)), .second, (.val (.long c2)), .second, (.val (.int ss)), (.val (.long s2)), .second, (.val (.int ds)), (.val (.long d2)), .second, (.val (.long ee2)), .second, (.val (.int f7)), (.val (.long l1)), .second, (.val (.long nd)), .second, (.val (.long l2)), .second, (.val (.ref b7)), (.val (.ref b9)), (.val (.int (1 : Int32))), (.val (.int (1 : Int32))), (.val (.int (1 : Int32))), (.val (.int (1 : Int32))), .unset, .unset]) rfl kq) ?_
                  show Owes p e below s (QL n0) room_1.cells room_1.slots T14 (mkF m 367 #[(.val (.long p0)), .second, (.val (.long p1)), .second, (.val (.long p2)), .second, (.val (.long p3)), .second, (.val (.int p4)), (.val (.int p5)), (.val (.long c1)), .second, (.val (.long s1)), .second, (.val (.long d1)), .second, (.val (.long ee1)), .second, (.val (.long c2)), .second, (.val (.int ss)), (.val (.long s2)), .second, (.val (.int ds)), (.val (.long d2)), .second, (.val (.long ee2)), .second, (.val (.int f7)), (.val (.long l1)), .second, (.val (.long nd)), .second, (.val (.long l2)), .second, (.val (.ref b7)), (.val (.ref b9)), (.val (.int (1 : Int32))), (.val (.int (1 : Int32))), (.val (.int (1 : Int32))), (.val (.int (1 : Int32))), .unset, .unset] [])
                  refine Owes.by (fun _ kq => XS.aload X14.here hx rfl (hb hby at_367) rfl rfl kq) ?_
                  show Owes p e below s (QL n0) room_1.cells room_1.slots T14 (mkF m 369 #[(.val (.long p0)), .second, (.val (.long p1)), .second, (.val (.long p2)), .second, (.val (.long p3)), .second, (.val (.int p4)), (.val (.int p5)), (.val (.long c1)), .second, (.val (.long s1)), .second, (.val (.long d1)), .second, (.val (.long ee1)), .second, (.val (.long c2)), .second, (.val (.int ss)), (.val (.long s2)), .second, (.val (.int ds)), (.val (.long d2)), .second, (.val (.long ee2)), .second, (.val (.int f7)), (.val (.long l1)), .second, (.val (.long nd)), .second, (.val (.long l2)), .second, (.val (.ref b7)), (.val (.ref b9)), (.val (.int (1 : Int32))), (.val (.int (1 : Int32))), (.val (.int (1 : Int32))), (.val (.int (1 : Int32))), .unset, .unset] [(.ref b7)])
                  refine Owes.by (fun _ kq => XS.aconstNull X14.here hx rfl (hb hby at_369) kq) ?_
                  show Owes p e below s (QL n0) room_1.cells room_1.slots T14 (mkF m 370 #[(.val (.long p0)), .second, (.val (.long p1)), .second, (.val (.long p2)), .second, (.val (.long p3)), .second, (.val (.int p4)), (.val (.int p5)), (.val (.long c1)), .second, (.val (.long s1)), .second, (.val (.long d1)), .second, (.val (.long ee1)), .second, (.val (.long c2)), .second, (.val (.int ss)), (.val (.long s2)), .second, (.val (.int ds)), (.val (.long d2)), .second, (.val (.long ee2)), .second, (.val (.int f7)), (.val (.long l1)), .second, (.val (.long nd)), .second, (.val (.long l2)), .second, (.val (.ref b7)), (.val (.ref b9)), (.val (.int (1 : Int32))), (.val (.int (1 : Int32))), (.val (.int (1 : Int32))), (.val (.int (1 : Int32))), .unset, .unset] [.null, (.ref b7)])
                  obtain ⟨cq15, kq15, qa15, qb15, qc15⟩ := isOf hZ e14 A1'
                  obtain ⟨_, _, ⟨T15, L15, k15, n15⟩, -, X15, ⟨Lc15, hQ15, l15, y15, z15⟩, st15⟩ := X14.virtualBack hx (y := (⟨"com/example/chunkmark/chunkmark/dataset/Range", "equals", "(Ljava/lang/Object;)Z"⟩ : MethodName)) (z := (⟨"com/example/chunkmark/chunkmark/dataset/Range", "equals", "(Ljava/lang/Object;)Z"⟩ : MethodName)) hown (mvT hZ (hw _ (List.mem_of_getElem? (i := 20) rfl))) (mvT hZ (hw _ (List.mem_of_getElem? (i := 21) rfl))) (notFace_of_selects (args := #[]) (mvT hZ (hw _ (List.mem_of_getElem? (i := 23) rfl)))) (mvT hZ (hw _ (List.mem_of_getElem? (i := 23) rfl))) (mvT hZ (hw _ (List.mem_of_getElem? (i := 22) rfl))) (by decide) (backOf (W := 0) (rmE0 l Z a0 hw [] b7 T10.heap n0 Z2) hZ (hw _ (List.mem_of_getElem? (i := 24) rfl)) (hw _ (List.mem_of_getElem? (i := 5) rfl)) (by decide) (by decide)) qa15 qc15 (g := (mkF m 370 #[(.val (.long p0)), .second, (.val (.long p1)), .second, (.val (.long p2)), .second, (.val (.long p3)), .second, (.val (.int p4)), (.val (.int p5)), (.val (.long c1)), .second, (.val (.long s1)), .second, (.val (.long d1)), .second, (.val (.long ee1)), .second, (.val (.long c2)), .second, (.val (.int ss)), (.val (.long s2)), .second, (.val (.int ds)), (.val (.long d2)), .second, (.val (.long ee2)), .second, (.val (.int f7)), (.val (.long l1)), .second, (.val (.long nd)), .second, (.val (.long l2)), .second, (.val (.ref b7)), (.val (.ref b9)), (.val (.int (1 : Int32))), (.val (.int (1 : Int32))), (.val (.int (1 : Int32))), (.val (.int (1 : Int32))), .unset, .unset] [.null, (.ref b7)])) rfl (by rw [hml]; rfl) (Steps.refl _) (argsL := [.null]) (rest := []) (lenOf pd_Ljava_lang_Object_Z rfl) rfl (by show 2 * 0 + _ ≤ _; exact Nat.le_of_eq rfl) (hb hby at_370) (fun _ _ => ⟨rfl, e14, (by decide : 2 + 0 ≤ _), (by decide : 8 + 0 ≤ _)⟩)
                  dsimp only [Pt.U, Pt.locs, Pt.cells, Pt.slots] at X15 l15 y15 z15 st15 hQ15
                  subst l15 y15 z15
                  obtain ⟨rfl, rfl, e15⟩ := hQ15
                  try rw [List.append_nil] at X15
                  refine Owes.by (fun _ kq => st15.trans kq) ?_
                  show Owes p e below s (QL n0) room_1.cells room_1.slots T15 (mkF m 373 #[(.val (.long p0)), .second, (.val (.long p1)), .second, (.val (.long p2)), .second, (.val (.long p3)), .second, (.val (.int p4)), (.val (.int p5)), (.val (.long c1)), .second, (.val (.long s1)), .second, (.val (.long d1)), .second, (.val (.long ee1)), .second, (.val (.long c2)), .second, (.val (.int ss)), (.val (.long s2)), .second, (.val (.int ds)), (.val (.long d2)), .second, (.val (.long ee2)), .second, (.val (.int f7)), (.val (.long l1)), .second, (.val (.long nd)), .second, (.val (.long l2)), .second, (.val (.ref b7)), (.val (.ref b9)), (.val (.int (1 : Int32))), (.val (.int (1 : Int32))), (.val (.int (1 : Int32))), (.val (.int (1 : Int32))), .unset, .unset] [(.int (0 : Int32))])
                  refine Owes.by (fun _ kq => XS.istore X15.here hx rfl (hb hby at_373) rfl (l' := #[(.val (.long p0)), .second, (.val (.long p1)), .second, (.val (.long p2)), .second, (.val (.long p3)), .second, (.val (.int p4)), (.val (.int p5)), (.val (.long c1)), .second, (.val (.long s1)), .second, (.val (.long d1)), .second, (.val (.long ee1)), .second, (.val (.long c2)), .second, (.val (.int ss)), (.val (.long s2)), .second, (.val (.int ds)), (.val (.long d2)), .second, (.val (.long ee2)), .second, (.val (.int f7)), (.val (.long l1)), .second, (.val (.long nd)), .second, (.val (.long l2)), .second, (.val (.ref b7)), (.val (.ref b9)), (.val (.int (1 : Int32))), (.val (.int (1 : Int32))), (.val (.int (1 : Int32))), (.val (.int (1 : Int32))), (.val (.int (0 : Int32))), .unset]) rfl kq) ?_
                  show Owes p e below s (QL n0) room_1.cells room_1.slots T15 (mkF m 375 #[(.val (.long p0)), .second, (.val (.long p1)), .second, (.val (.long p2)), .second, (.val (.long p3)), .second, (.val (.int p4)), (.val (.int p5)), (.val (.long c1)), .second, (.val (.long s1)), .second, (.val (.long d1)), .second, (.val (.long ee1)), .second, (.val (.long c2)), .second, (.val (.int ss)), (.val (.long s2)), .second, (.val (.int ds)), (.val (.long d2)), .second, (.val (.long ee2)), .second, (.val (.int f7)), (.val (.long l1)), .second, (.val (.long nd)), .second, (.val (.long l2)), .second, (.val (.ref b7)), (.val (.ref b9)), (.val (.int (1 : Int32))), (.val (.int (1 : Int32))), (.val (.int (1 : Int32))), (.val (.int (1 : Int32))), (.val (.int (0 : Int32))), .unset] [])
                  refine Owes.by (fun _ kq => XS.aload X15.here hx rfl (hb hby at_375) rfl rfl kq) ?_
                  show Owes p e below s (QL n0) room_1.cells room_1.slots T15 (mkF m 377 #[(.val (.long p0)), .second, (.val (.long p1)), .second, (.val (.long p2)), .second, (.val (.long p3)), .second, (.val (.int p4)), (.val (.int p5)), (.val (.long c1)), .second, (.val (.long s1)), .second, (.val (.long d1)), .second, (.val (.long ee1)), .second, (.val (.long c2)), .second, (.val (.int ss)), (.val (.long s2)), .second, (.val (.int ds)), (.val (.long d2)), .second, (.val (.long ee2)), .second, (.val (.int f7)), (.val (.long l1)), .second, (.val (.long nd)), .second, (.val (.long l2)), .second, (.val (.ref b7)), (.val (.ref b9)), (.val (.int (1 : Int32))), (.val (.int (1 : Int32))), (.val (.int (1 : Int32))), (.val (.int (1 : Int32))), (.val (.int (0 : Int32))), .unset] [(.ref b7)])
                  refine Owes.by (fun _ kq => XT.lload X15.here hx rfl (hb hby at_377) rfl kq) ?_
                  show Owes p e below s (QL n0) room_1.cells room_1.slots T15 (mkF m 379 #[(.val (.long p0)), .second, (.val (.long p1)), .second, (.val (.long p2)), .second, (.val (.long p3)), .second, (.val (.int p4)), (.val (.int p5)), (.val (.long c1)), .second, (.val (.long s1)), .second, (.val (.long d1)), .second, (.val (.long ee1)), .second, (.val (.long c2)), .second, (.val (.int ss)), (.val (.long s2)), .second, (.val (.int ds)), (.val (.long d2)), .second, (.val (.long ee2)), .second, (.val (.int f7)), (.val (.long l1)), .second, (.val (.long nd)), .second, (.val (.long l2)), .second, (.val (.ref b7)), (.val (.ref b9)), (.val (.int (1 : Int32))), (.val (.int (1 : Int32))), (.val (.int (1 : Int32))), (.val (.int (1 : Int32))), (.val (.int (0 : Int32))), .unset] [(.long l1), (.ref b7)])
                  obtain ⟨_, _, ⟨T16, L16, k16, n16⟩, -, X16, ⟨Lc16, hQ16, l16, y16, z16⟩, st16⟩ := Jvm.LawKit.callS X15 hx (y := (⟨"java/lang/Long", "valueOf", "(J)Ljava/lang/Long;"⟩ : MethodName)) hown (mvT hZ (hw _ (List.mem_of_getElem? (i := 27) rfl))) (mvT hZ (hw _ (List.mem_of_getElem? (i := 28) rfl))) (mvT hZ (hw _ (List.mem_of_getElem? (i := 29) rfl))) (mvT hZ (hw _ (List.mem_of_getElem? (i := 30) rfl))) (by decide) (backOf (W := 1) (rmV l Z a0 hw [] l1 ca cl T10.heap n0 Z2 (S_cache.ext X2') (Ar.ext X2') (own_hallX hall X2')) hZ (hw _ (List.mem_of_getElem? (i := 30) rfl)) (hw _ (List.mem_of_getElem? (i := 29) rfl)) (by decide) (by decide)) (g := (mkF m 379 #[(.val (.long p0)), .second, (.val (.long p1)), .second, (.val (.long p2)), .second, (.val (.long p3)), .second, (.val (.int p4)), (.val (.int p5)), (.val (.long c1)), .second, (.val (.long s1)), .second, (.val (.long d1)), .second, (.val (.long ee1)), .second, (.val (.long c2)), .second, (.val (.int ss)), (.val (.long s2)), .second, (.val (.int ds)), (.val (.long d2)), .second, (.val (.long ee2)), .second, (.val (.int f7)), (.val (.long l1)), .second, (.val (.long nd)), .second, (.val (.long l2)), .second, (.val (.ref b7)), (.val (.ref b9)), (.val (.int (1 : Int32))), (.val (.int (1 : Int32))), (.val (.int (1 : Int32))), (.val (.int (1 : Int32))), (.val (.int (0 : Int32))), .unset] [(.long l1), (.ref b7)])) rfl (by rw [hml]; rfl) (argsL := [(.long l1)]) (rest := [(.ref b7)]) (lenOf pd_J_Ljava_lang_Long rfl) rfl (by show 2 * 0 + _ ≤ _; exact Nat.le_of_eq rfl) (hb hby at_379) (fun _ _ => ⟨rfl, e15, (by decide : 2 + 1 ≤ _), (by decide : 8 + 1 ≤ _)⟩)
                  dsimp only [Pt.U, Pt.locs, Pt.cells, Pt.slots] at X16 l16 y16 z16 st16 hQ16
                  subst l16 y16 z16
                  obtain ⟨lo, rfl, N16, Y16, A16⟩ := hQ16
                  refine Owes.by st16 ?_
                  show Owes p e below s (QL n0) room_1.cells room_1.slots T16 (mkF m 382 #[(.val (.long p0)), .second, (.val (.long p1)), .second, (.val (.long p2)), .second, (.val (.long p3)), .second, (.val (.int p4)), (.val (.int p5)), (.val (.long c1)), .second, (.val (.long s1)), .second, (.val (.long d1)), .second, (.val (.long ee1)), .second, (.val (.long c2)), .second, (.val (.int ss)), (.val (.long s2)), .second, (.val (.int ds)), (.val (.long d2)), .second, (.val (.long ee2)), .second, (.val (.int f7)), (.val (.long l1)), .second, (.val (.long nd)), .second, (.val (.long l2)), .second, (.val (.ref b7)), (.val (.ref b9)), (.val (.int (1 : Int32))), (.val (.int (1 : Int32))), (.val (.int (1 : Int32))), (.val (.int (1 : Int32))), (.val (.int (0 : Int32))), .unset] [(.ref lo), (.ref b7)])
                  obtain ⟨cq17, kq17, qa17, qb17, qc17⟩ := isOf hZ (rfl : T16.heap = T16.heap) (A1'.ext Y16)
                  obtain ⟨_, _, ⟨T17, L17, k17, n17⟩, -, X17, ⟨Lc17, hQ17, l17, y17, z17⟩, st17⟩ := X16.virtualBack hx (y := (⟨"com/example/chunkmark/chunkmark/dataset/Range", "equals", "(Ljava/lang/Object;)Z"⟩ : MethodName)) (z := (⟨"com/example/chunkmark/chunkmark/dataset/Range", "equals", "(Ljava/lang/Object;)Z"⟩ : MethodName)) hown (mvT hZ (hw _ (List.mem_of_getElem? (i := 20) rfl))) (mvT hZ (hw _ (List.mem_of_getElem? (i := 21) rfl))) (notFace_of_selects (args := #[]) (mvT hZ (hw _ (List.mem_of_getElem? (i := 23) rfl)))) (mvT hZ (hw _ (List.mem_of_getElem? (i := 23) rfl))) (mvT hZ (hw _ (List.mem_of_getElem? (i := 22) rfl))) (by decide) (backOf (W := 0) (rmEL l Z a0 hw [] b7 lo T16.heap n0 (Nat.le_trans Z2 Y16.1) A16) hZ (hw _ (List.mem_of_getElem? (i := 24) rfl)) (hw _ (List.mem_of_getElem? (i := 5) rfl)) (by decide) (by decide)) qa17 qc17 (g := (mkF m 382 #[(.val (.long p0)), .second, (.val (.long p1)), .second, (.val (.long p2)), .second, (.val (.long p3)), .second, (.val (.int p4)), (.val (.int p5)), (.val (.long c1)), .second, (.val (.long s1)), .second, (.val (.long d1)), .second, (.val (.long ee1)), .second, (.val (.long c2)), .second, (.val (.int ss)), (.val (.long s2)), .second, (.val (.int ds)), (.val (.long d2)), .second, (.val (.long ee2)), .second, (.val (.int f7)), (.val (.long l1)), .second, (.val (.long nd)), .second, (.val (.long l2)), .second, (.val (.ref b7)), (.val (.ref b9)), (.val (.int (1 : Int32))), (.val (.int (1 : Int32))), (.val (.int (1 : Int32))), (.val (.int (1 : Int32))), (.val (.int (0 : Int32))), .unset] [(.ref lo), (.ref b7)])) rfl (by rw [hml]; rfl) (Steps.refl _) (argsL := [(.ref lo)]) (rest := []) (lenOf pd_Ljava_lang_Object_Z rfl) rfl (by show 2 * 0 + _ ≤ _; exact Nat.le_of_eq rfl) (hb hby at_382) (fun _ _ => ⟨rfl, (rfl : T16.heap = T16.heap), (by decide : 3 + 0 ≤ _), (by decide : 9 + 0 ≤ _)⟩)
                  dsimp only [Pt.U, Pt.locs, Pt.cells, Pt.slots] at X17 l17 y17 z17 st17 hQ17
                  subst l17 y17 z17
                  obtain ⟨rfl, rfl, e17⟩ := hQ17
                  try rw [List.append_nil] at X17
                  refine Owes.by (fun _ kq => st17.trans kq) ?_
                  show Owes p e below s (QL n0) room_1.cells room_1.slots T17 (mkF m 385 #[(.val (.long p0)), .second, (.val (.long p1)), .second, (.val (.long p2)), .second, (.val (.long p3)), .second, (.val (.int p4)), (.val (.int p5)), (.val (.long c1)), .second, (.val (.long s1)), .second, (.val (.long d1)), .second, (.val (.long ee1)), .second, (.val (.long c2)), .second, (.val (.int ss)), (.val (.long s2)), .second, (.val (.int ds)), (.val (.long d2)), .second, (.val (.long ee2)), .second, (.val (.int f7)), (.val (.long l1)), .second, (.val (.long nd)), .second, (.val (.long l2)), .second, (.val (.ref b7)), (.val (.ref b9)), (.val (.int (1 : Int32))), (.val (.int (1 : Int32))), (.val (.int (1 : Int32))), (.val (.int (1 : Int32))), (.val (.int (0 : Int32))), .unset] [(.int (0 : Int32))])
                  refine Owes.by (fun _ kq => XS.istore X17.here hx rfl (hb hby at_385) rfl (l' := #[(.val (.long p0)), .second, (.val (.long p1)), .second, (.val (.long p2)), .second, (.val (.long p3)), .second, (.val (.int p4)), (.val (.int p5)), (.val (.long c1)), .second, (.val (.long s1)), .second, (.val (.long d1)), .second, (.val (.long ee1)), .second, (.val (.long c2)), .second, (.val (.int ss)), (.val (.long s2)), .second, (.val (.int ds)), (.val (.long d2)), .second, (.val (.long ee2)), .second, (.val (.int f7)), (.val (.long l1)), .second, (.val (.long nd)), .second, (.val (.long l2)), .second, (.val (.ref b7)), (.val (.ref b9)), (.val (.int (1 : Int32))), (.val (.int (1 : Int32))), (.val (.int (1 : Int32))), (.val (.int (1 : Int32))), (.val (.int (0 : Int32))), (.val (.int (0 : Int32)))]) rfl kq) ?_
                  show Owes p e below s (QL n0) room_1.cells room_1.slots T17 (mkF m 387 #[(.val (.long p0)), .second, (.val (.long p1)), .second, (.val (.long p2)), .second, (.val (.long p3)), .second, (.val (.int p4)), (.val (.int p5)), (.val (.long c1)), .second, (.val (.long s1)), .second, (.val (.long d1)), .second, (.val (.long ee1)), .second, (.val (.long c2)), .second, (.val (.int ss)), (.val (.long s2)), .second, (.val (.int ds)), (.val (.long d2)), .second, (.val (.long ee2)), .second, (.val (.int f7)), (.val (.long l1)), .second, (.val (.long nd)), .second, (.val (.long l2)), .second, (.val (.ref b7)), (.val (.ref b9)), (.val (.int (1 : Int32))), (.val (.int (1 : Int32))), (.val (.int (1 : Int32))), (.val (.int (1 : Int32))), (.val (.int (0 : Int32))), (.val (.int (0 : Int32)))] [])
                  refine Owes.by (fun _ kq => XS.iload X17.here hx rfl (hb hby at_387) rfl kq) ?_
                  show Owes p e below s (QL n0) room_1.cells room_1.slots T17 (mkF m 389 #[(.val (.long p0)), .second, (.val (.long p1)), .second, (.val (.long p2)), .second, (.val (.long p3)), .second, (.val (.int p4)), (.val (.int p5)), (.val (.long c1)), .second, (.val (.long s1)), .second, (.val (.long d1)), .second, (.val (.long ee1)), .second, (.val (.long c2)), .second, (.val (.int ss)), (.val (.long s2)), .second, (.val (.int ds)), (.val (.long d2)), .second, (.val (.long ee2)), .second, (.val (.int f7)), (.val (.long l1)), .second, (.val (.long nd)), .second, (.val (.long l2)), .second, (.val (.ref b7)), (.val (.ref b9)), (.val (.int (1 : Int32))), (.val (.int (1 : Int32))), (.val (.int (1 : Int32))), (.val (.int (1 : Int32))), (.val (.int (0 : Int32))), (.val (.int (0 : Int32)))] [(.int (1 : Int32))])
                  refine Owes.by (fun _ kq => XS.iload X17.here hx rfl (hb hby at_389) rfl kq) ?_
                  show Owes p e below s (QL n0) room_1.cells room_1.slots T17 (mkF m 391 #[(.val (.long p0)), .second, (.val (.long p1)), .second, (.val (.long p2)), .second, (.val (.long p3)), .second, (.val (.int p4)), (.val (.int p5)), (.val (.long c1)), .second, (.val (.long s1)), .second, (.val (.long d1)), .second, (.val (.long ee1)), .second, (.val (.long c2)), .second, (.val (.int ss)), (.val (.long s2)), .second, (.val (.int ds)), (.val (.long d2)), .second, (.val (.long ee2)), .second, (.val (.int f7)), (.val (.long l1)), .second, (.val (.long nd)), .second, (.val (.long l2)), .second, (.val (.ref b7)), (.val (.ref b9)), (.val (.int (1 : Int32))), (.val (.int (1 : Int32))), (.val (.int (1 : Int32))), (.val (.int (1 : Int32))), (.val (.int (0 : Int32))), (.val (.int (0 : Int32)))] [(.int (1 : Int32)), (.int (1 : Int32))])
                  refine Owes.by (fun _ kq => XS.icmpNo X17.here hx rfl (hb hby at_391) rfl (XT.ii_ne_f (by decide)) kq) ?_
                  show Owes p e below s (QL n0) room_1.cells room_1.slots T17 (mkF m 394 #[(.val (.long p0)), .second, (.val (.long p1)), .second, (.val (.long p2)), .second, (.val (.long p3)), .second, (.val (.int p4)), (.val (.int p5)), (.val (.long c1)), .second, (.val (.long s1)), .second, (.val (.long d1)), .second, (.val (.long ee1)), .second, (.val (.long c2)), .second, (.val (.int ss)), (.val (.long s2)), .second, (.val (.int ds)), (.val (.long d2)), .second, (.val (.long ee2)), .second, (.val (.int f7)), (.val (.long l1)), .second, (.val (.long nd)), .second, (.val (.long l2)), .second, (.val (.ref b7)), (.val (.ref b9)), (.val (.int (1 : Int32))), (.val (.int (1 : Int32))), (.val (.int (1 : Int32))), (.val (.int (1 : Int32))), (.val (.int (0 : Int32))), (.val (.int (0 : Int32)))] [])
                  refine Owes.by (fun _ kq => XS.iload X17.here hx rfl (hb hby at_394) rfl kq) ?_
                  show Owes p e below s (QL n0) room_1.cells room_1.slots T17 (mkF m 396 #[(.val (.long p0)), .second, (.val (.long p1)), .second, (.val (.long p2)), .second, (.val (.long p3)), .second, (.val (.int p4)), (.val (.int p5)), (.val (.long c1)), .second, (.val (.long s1)), .second, (.val (.long d1)), .second, (.val (.long ee1)), .second, (.val (.long c2)), .second, (.val (.int ss)), (.val (.long s2)), .second, (.val (.int ds)), (.val (.long d2)), .second, (.val (.long ee2)), .second, (.val (.int f7)), (.val (.long l1)), .second, (.val (.long nd)), .second, (.val (.long l2)), .second, (.val (.ref b7)), (.val (.ref b9)), (.val (.int (1 : Int32))), (.val (.int (1 : Int32))), (.val (.int (1 : Int32))), (.val (.int (1 : Int32))), (.val (.int (0 : Int32))), (.val (.int (0 : Int32)))] [(.int (1 : Int32))])
                  refine Owes.by (fun _ kq => XS.iload X17.here hx rfl (hb hby at_396) rfl kq) ?_
                  show Owes p e below s (QL n0) room_1.cells room_1.slots T17 (mkF m 398 #[(.val (.long p0)), .second, (.val (.long p1)), .second, (.val (.long p2)), .second, (.val (.long p3)), .second, (.val (.int p4)), (.val (.int p5)), (.val (.long c1)), .second, (.val (.long s1)), .second, (.val (.long d1)), .second, (.val (.long ee1)), .second, (.val (.long c2)), .second, (.val (.int ss)), (.val (.long s2)), .second, (.val (.int ds)), (.val (.long d2)), .second, (.val (.long ee2)), .second, (.val (.int f7)), (.val (.long l1)), .second, (.val (.long nd)), .second, (.val (.long l2)), .second, (.val (.ref b7)), (.val (.ref b9)), (.val (.int (1 : Int32))), (.val (.int (1 : Int32))), (.val (.int (1 : Int32))), (.val (.int (1 : Int32))), (.val (.int (0 : Int32))), (.val (.int (0 : Int32)))] [(.int (1 : Int32)), (.int (1 : Int32))])
                  refine Owes.by (fun _ kq => XS.icmpNo X17.here hx rfl (hb hby at_398) rfl (XT.ii_ne_f (by decide)) kq) ?_
                  show Owes p e below s (QL n0) room_1.cells room_1.slots T17 (mkF m 401 #[(.val (.long p0)), .second, (.val (.long p1)), .second, (.val (.long p2)), .second, (.val (.long p3)), .second, (.val (.int p4)), (.val (.int p5)), (.val (.long c1)), .second, (.val (.long s1)), .second, (.val (.long d1)), .second, (.val (.long ee1)), .second, (.val (.long c2)), .second, (.val (.int ss)), (.val (.long s2)), .second, (.val (.int ds)), (.val (.long d2)), .second, (.val (.long ee2)), .second, (.val (.int f7)), (.val (.long l1)), .second, (.val (.long nd)), .second, (.val (.long l2)), .second, (.val (.ref b7)), (.val (.ref b9)), (.val (.int (1 : Int32))), (.val (.int (1 : Int32))), (.val (.int (1 : Int32))), (.val (.int (1 : Int32))), (.val (.int (0 : Int32))), (.val (.int (0 : Int32)))] [])
                  refine Owes.by (fun _ kq => XS.iload X17.here hx rfl (hb hby at_401) rfl kq) ?_
                  show Owes p e below s (QL n0) room_1.cells room_1.slots T17 (mkF m 403 #[(.val (.long p0)), .second, (.val (.long p1)), .second, (.val (.long p2)), .second, (.val (.long p3)), .second, (.val (.int p4)), (.val (.int p5)), (.val (.long c1)), .second, (.val (.long s1)), .second, (.val (.long d1)), .second, (.val (.long ee1)), .second, (.val (.long c2)), .second, (.val (.int ss)), (.val (.long s2)), .second, (.val (.int ds)), (.val (.long d2)), .second, (.val (.long ee2)), .second, (.val (.int f7)), (.val (.long l1)), .second, (.val (.long nd)), .second, (.val (.long l2)), .second, (.val (.ref b7)), (.val (.ref b9)), (.val (.int (1 : Int32))), (.val (.int (1 : Int32))), (.val (.int (1 : Int32))), (.val (.int (1 : Int32))), (.val (.int (0 : Int32))), (.val (.int (0 : Int32)))] [(.int (1 : Int32))])
                  refine Owes.by (fun _ kq => XS.ifNo X17.here hx rfl (hb hby at_403) rfl (XT.i0_eq_f (by decide)) kq) ?_
                  show Owes p e below s (QL n0) room_1.cells room_1.slots T17 (mkF m 406 #[(.val (.long p0)), .second, (.val (.long p1)), .second, (.val (.long p2)), .second, (.val (.long p3)), .second, (.val (.int p4)), (.val (.int p5)), (.val (.long c1)), .second, (.val (.long s1)), .second, (.val (.long d1)), .second, (.val (.long ee1)), .second, (.val (.long c2)), .second, (.val (.int ss)), (.val (.long s2)), .second, (.val (.int ds)), (.val (.long d2)), .second, (.val (.long ee2)), .second, (.val (.int f7)), (.val (.long l1)), .second, (.val (.long nd)), .second, (.val (.long l2)), .second, (.val (.ref b7)), (.val (.ref b9)), (.val (.int (1 : Int32))), (.val (.int (1 : Int32))), (.val (.int (1 : Int32))), (.val (.int (1 : Int32))), (.val (.int (0 : Int32))), (.val (.int (0 : Int32)))] [])
                  refine Owes.by (fun _ kq => XS.iload X17.here hx rfl (hb hby at_406) rfl kq) ?_
                  show Owes p e below s (QL n0) room_1.cells room_1.slots T17 (mkF m 408 #[(.val (.long p0)), .second, (.val (.long p1)), .second, (.val (.long p2)), .second, (.val (.long p3)), .second, (.val (.int p4)), (.val (.int p5)), (.val (.long c1)), .second, (.val (.long s1)), .second, (.val (.long d1)), .second, (.val (.long ee1)), .second, (.val (.long c2)), .second, (.val (.int ss)), (.val (.long s2)), .second, (.val (.int ds)), (.val (.long d2)), .second, (.val (.long ee2)), .second, (.val (.int f7)), (.val (.long l1)), .second, (.val (.long nd)), .second, (.val (.long l2)), .second, (.val (.ref b7)), (.val (.ref b9)), (.val (.int (1 : Int32))), (.val (.int (1 : Int32))), (.val (.int (1 : Int32))), (.val (.int (1 : Int32))), (.val (.int (0 : Int32))), (.val (.int (0 : Int32)))] [(.int (0 : Int32))])
                  refine Owes.by (fun _ kq => XS.ifNo X17.here hx rfl (hb hby at_408) rfl (XT.i0_ne_f (by decide)) kq) ?_
                  show Owes p e below s (QL n0) room_1.cells room_1.slots T17 (mkF m 411 #[(.val (.long p0)), .second, (.val (.long p1)), .second, (.val (.long p2)), .second, (.val (.long p3)), .second, (.val (.int p4)), (.val (.int p5)), (.val (.long c1)), .second, (.val (.long s1)), .second, (.val (.long d1)), .second, (.val (.long ee1)), .second, (.val (.long c2)), .second, (.val (.int ss)), (.val (.long s2)), .second, (.val (.int ds)), (.val (.long d2)), .second, (.val (.long ee2)), .second, (.val (.int f7)), (.val (.long l1)), .second, (.val (.long nd)), .second, (.val (.long l2)), .second, (.val (.ref b7)), (.val (.ref b9)), (.val (.int (1 : Int32))), (.val (.int (1 : Int32))), (.val (.int (1 : Int32))), (.val (.int (1 : Int32))), (.val (.int (0 : Int32))), (.val (.int (0 : Int32)))] [])
                  refine Owes.by (fun _ kq => XS.iload X17.here hx rfl (hb hby at_411) rfl kq) ?_
                  show Owes p e below s (QL n0) room_1.cells room_1.slots T17 (mkF m 413 #[(.val (.long p0)), .second, (.val (.long p1)), .second, (.val (.long p2)), .second, (.val (.long p3)), .second, (.val (.int p4)), (.val (.int p5)), (.val (.long c1)), .second, (.val (.long s1)), .second, (.val (.long d1)), .second, (.val (.long ee1)), .second, (.val (.long c2)), .second, (.val (.int ss)), (.val (.long s2)), .second, (.val (.int ds)), (.val (.long d2)), .second, (.val (.long ee2)), .second, (.val (.int f7)), (.val (.long l1)), .second, (.val (.long nd)), .second, (.val (.long l2)), .second, (.val (.ref b7)), (.val (.ref b9)), (.val (.int (1 : Int32))), (.val (.int (1 : Int32))), (.val (.int (1 : Int32))), (.val (.int (1 : Int32))), (.val (.int (0 : Int32))), (.val (.int (0 : Int32)))] [(.int (0 : Int32))])
                  refine Owes.by (fun _ kq => XS.ifNo X17.here hx rfl (hb hby at_413) rfl (XT.i0_ne_f (by decide)) kq) ?_
                  show Owes p e below s (QL n0) room_1.cells room_1.slots T17 (mkF m 416 #[(.val (.long p0)), .second, (.val (.long p1)), .second, (.val (.long p2)), .second, (.val (.long p3)), .second, (.val (.int p4)), (.val (.int p5)), (.val (.long c1)), .second, (.val (.long s1)), .second, (.val (.long d1)), .second, (.val (.long ee1)), .second, (.val (.long c2)), .second, (.val (.int ss)), (.val (.long s2)), .second, (.val (.int ds)), (.val (.long d2)), .second, (.val (.long ee2)), .second, (.val (.int f7)), (.val (.long l1)), .second, (.val (.long nd)), .second, (.val (.long l2)), .second, (.val (.ref b7)), (.val (.ref b9)), (.val (.int (1 : Int32))), (.val (.int (1 : Int32))), (.val (.int (1 : Int32))), (.val (.int (1 : Int32))), (.val (.int (0 : Int32))), (.val (.int (0 : Int32)))] [])
                  refine Owes.by (fun _ kq => XS.iconst X17.here hx rfl (hb hby at_416) kq) ?_
                  show Owes p e below s (QL n0) room_1.cells room_1.slots T17 (mkF m 417 #[(.val (.long p0)), .second, (.val (.long p1)), .second, (.val (.long p2)), .second, (.val (.long p3)), .second, (.val (.int p4)), (.val (.int p5)), (.val (.long c1)), .second, (.val (.long s1)), .second, (.val (.long d1)), .second, (.val (.long ee1)), .second, (.val (.long c2)), .second, (.val (.int ss)), (.val (.long s2)), .second, (.val (.int ds)), (.val (.long d2)), .second, (.val (.long ee2)), .second, (.val (.int f7)), (.val (.long l1)), .second, (.val (.long nd)), .second, (.val (.long l2)), .second, (.val (.ref b7)), (.val (.ref b9)), (.val (.int (1 : Int32))), (.val (.int (1 : Int32))), (.val (.int (1 : Int32))), (.val (.int (1 : Int32))), (.val (.int (0 : Int32))), (.val (.int (0 : Int32)))] [(.int (1 : Int32))])
                  refine Owes.by (fun _ kq => XS.goto X17.here hx rfl (pc0 := 417) (pc' := 421) rfl (hb hby at_417) (by decide) (by decide) kq) ?_
                  show Owes p e below s (QL n0) room_1.cells room_1.slots T17 (mkF m 421 #[(.val (.long p0)), .second, (.val (.long p1)), .second, (.val (.long p2)), .second, (.val (.long p3)), .second, (.val (.int p4)), (.val (.int p5)), (.val (.long c1)), .second, (.val (.long s1)), .second, (.val (.long d1)), .second, (.val (.long ee1)), .second, (.val (.long c2)), .second, (.val (.int ss)), (.val (.long s2)), .second, (.val (.int ds)), (.val (.long d2)), .second, (.val (.long ee2)), .second, (.val (.int f7)), (.val (.long l1)), .second, (.val (.long nd)), .second, (.val (.long l2)), .second, (.val (.ref b7)), (.val (.ref b9)), (.val (.int (1 : Int32))), (.val (.int (1 : Int32))), (.val (.int (1 : Int32))), (.val (.int (1 : Int32))), (.val (.int (0 : Int32))), (.val (.int (0 : Int32)))] [(.int (1 : Int32))])
                  refine Owes.ret X17 (v := some (.int (1 : Int32))) (fun h => by rw [Bd.returns] at h; cases h) hlk ?_ (by decide) (by decide) (fun fs hr => retN X17 hx (t := .boolean) Bd.returns (by simp) (hb hby at_421) hr)
                  rw [e17]
                  exact ⟨rfl, Fr.app NN N16⟩
                · skip
                  show Owes p e below s (QL n0) room_1.cells room_1.slots T11 (mkF m 338 #[(.val (.long p0)), .second, (.val (.long p1)), .second, (.val (.long p2)), .second, (.val (.long p3)), .second, (.val (.int p4)), (.val (.int p5)), (.val (.long c1)), .second, (.val (.long s1)), .second, (.val (.long d1)), .second, (.val (.long ee1)), .second, (.val (.long c2)), .second, (.val (.int ss)), (.val (.long s2)), .second, (.val (.int ds)), (.val (.long d2)), .second, (.val (.long ee2)), .second, (.val (.int f7)), (.val (.long l1)), .second, (.val (.long nd)), .second, (.val (.long l2)), .second, (.val (.ref b7)), (.val (.ref b9)), .unset, .unset, .unset, .unset, .unset, .unset] [(.int (0 : Int32))])
                  refine Owes.by (fun _ kq => XS.istore X11.here hx rfl (hb hby at_338) rfl (l' := #[(.val (.long p0)), .second, (.val (.long p1)), .second, (.val (.long p2)), .second, (.val (.long p3)), .second, (.val (.int p4)), (.val (.int p5)), (.val (.long c1)), .second, (.val (.long s1)), .second, (.val (.long d1)), .second, (.val (.long ee1)), .second, (.val (.long c2)), .second, (.val (.int ss)), (.val (.long s2)), .second, (.val (.int ds)), (.val (.long d2)), .second, (.val (.long ee2)), .second, (.val (.int f7)), (.val (.long l1)), .second, (.val (.long nd)), .second, (.val (.long l2)), .second, (.val (.ref b7)), (.val (.ref b9)), (.val (.int (0 : Int32))), .unset, .unset, .unset, .unset, .unset]) rfl kq) ?_
                  show Owes p e below s (QL n0) room_1.cells room_1.slots T11 (mkF m 340 #[(.val (.long p0)), .second, (.val (.long p1)), .second, (.val (.long p2)), .second, (.val (.long p3)), .second, (.val (.int p4)), (.val (.int p5)), (.val (.long c1)), .second, (.val (.long s1)), .second, (.val (.long d1)), .second, (.val (.long ee1)), .second, (.val (.long c2)), .second, (.val (.int ss)), (.val (.long s2)), .second, (.val (.int ds)), (.val (.long d2)), .second, (.val (.long ee2)), .second, (.val (.int f7)), (.val (.long l1)), .second, (.val (.long nd)), .second, (.val (.long l2)), .second, (.val (.ref b7)), (.val (.ref b9)), (.val (.int (0 : Int32))), .unset, .unset, .unset, .unset, .unset] [])
                  refine Owes.by (fun _ kq => XS.aload X11.here hx rfl (hb hby at_340) rfl rfl kq) ?_
                  show Owes p e below s (QL n0) room_1.cells room_1.slots T11 (mkF m 342 #[(.val (.long p0)), .second, (.val (.long p1)), .second, (.val (.long p2)), .second, (.val (.long p3)), .second, (.val (.int p4)), (.val (.int p5)), (.val (.long c1)), .second, (.val (.long s1)), .second, (.val (.long d1)), .second, (.val (.long ee1)), .second, (.val (.long c2)), .second, (.val (.int ss)), (.val (.long s2)), .second, (.val (.int ds)), (.val (.long d2)), .second, (.val (.long ee2)), .second, (.val (.int f7)), (.val (.long l1)), .second, (.val (.long nd)), .second, (.val (.long l2)), .second, (.val (.ref b7)), (.val (.ref b9)), (.val (.int (0 : Int32))), .unset, .unset, .unset, .unset, .unset] [(.ref b7)])
                  refine Owes.by (fun _ kq => XS.aload X11.here hx rfl (hb hby at_342) rfl rfl kq) ?_
                  show Owes p e below s (QL n0) room_1.cells room_1.slots T11 (mkF m 344 #[(.val (.long p0)), .second, (.val (.long p1)), .second, (.val (.long p2)), .second, (.val (.long p3)), .second, (.val (.int p4)), (.val (.int p5)), (.val (.long c1)), .second, (.val (.long s1)), .second, (.val (.long d1)), .second, (.val (.long ee1)), .second, (.val (.long c2)), .second, (.val (.int ss)), (.val (.long s2)), .second, (.val (.int ds)), (.val (.long d2)), .second, (.val (.long ee2)), .second, (.val (.int f7)), (.val (.long l1)), .second, (.val (.long nd)), .second, (.val (.long l2)), .second, (.val (.ref b7)), (.val (.ref b9)), (.val (.int (0 : Int32))), .unset, .unset, .unset, .unset, .unset] [(.ref b9), (.ref b7)])
                  obtain ⟨cq18, kq18, qa18, qb18, qc18⟩ := isOf hZ e11 A1'
                  obtain ⟨_, _, ⟨T18, L18, k18, n18⟩, -, X18, ⟨Lc18, hQ18, l18, y18, z18⟩, st18⟩ := X11.virtualBack hx (y := (⟨"com/example/chunkmark/chunkmark/dataset/Range", "equals", "(Ljava/lang/Object;)Z"⟩ : MethodName)) (z := (⟨"com/example/chunkmark/chunkmark/dataset/Range", "equals", "(Ljava/lang/Object;)Z"⟩ : MethodName)) hown (mvT hZ (hw _ (List.mem_of_getElem? (i := 20) rfl))) (mvT hZ (hw _ (List.mem_of_getElem? (i := 21) rfl))) (notFace_of_selects (args := #[]) (mvT hZ (hw _ (List.mem_of_getElem? (i := 23) rfl)))) (mvT hZ (hw _ (List.mem_of_getElem? (i := 23) rfl))) (mvT hZ (hw _ (List.mem_of_getElem? (i := 22) rfl))) (by decide) (backOf (W := 0) (rmE l Z a0 hw [] b7 b9 l1 (if c1 = 0 then 0 else s1) (if 1 < c1 then d1 else 1) c1 l2 (if c2 = 0 then 0 else s2) (if 1 < c2 then d2 else 1) c2 0 T10.heap n0 Z2 A10 B1_length B1_start B1_stride B1_count F10_length F10_start F10_stride F10_count (if_neg (fun h => hE ((own_iff h_c1.1).mp h)))) hZ (hw _ (List.mem_of_getElem? (i := 24) rfl)) (hw _ (List.mem_of_getElem? (i := 5) rfl)) (by decide) (by decide)) qa18 qc18 (g := (mkF m 344 #[(.val (.long p0)), .second, (.val (.long p1)), .second, (.val (.long p2)), .second, (.val (.long p3)), .second, (.val (.int p4)), (.val (.int p5)), (.val (.long c1)), .second, (.val (.long s1)), .second, (.val (.long d1)), .second, (.val (.long ee1)), .second, (.val (.long c2)), .second, (.val (.int ss)), (.val (.long s2)), .second, (.val (.int ds)), (.val (.long d2)), .second, (.val (.long ee2)), .second, (.val (.int f7)), (.val (.long l1)), .second, (.val (.long nd)), .second, (.val (.long l2)), .second, (.val (.ref b7)), (.val (.ref b9)), (.val (.int (0 : Int32))), .unset, .unset, .unset, .unset, .unset] [(.ref b9), (.ref b7)])) rfl (by rw [hml]; rfl) (Steps.refl _) (argsL := [(.ref b9)]) (rest := []) (lenOf pd_Ljava_lang_Object_Z rfl) rfl (by show 2 * 0 + _ ≤ _; exact Nat.le_of_eq rfl) (hb hby at_344) (fun _ _ => ⟨rfl, e11, (by decide : 2 + 0 ≤ _), (by decide : 8 + 0 ≤ _)⟩)
                  dsimp only [Pt.U, Pt.locs, Pt.cells, Pt.slots] at X18 l18 y18 z18 st18 hQ18
                  subst l18 y18 z18
                  obtain ⟨rfl, rfl, e18⟩ := hQ18
                  try rw [List.append_nil] at X18
                  refine Owes.by (fun _ kq => st18.trans kq) ?_
                  show Owes p e below s (QL n0) room_1.cells room_1.slots T18 (mkF m 347 #[(.val (.long p0)), .second, (.val (.long p1)), .second, (.val (.long p2)), .second, (.val (.long p3)), .second, (.val (.int p4)), (.val (.int p5)), (.val (.long c1)), .second, (.val (.long s1)), .second, (.val (.long d1)), .second, (.val (.long ee1)), .second, (.val (.long c2)), .second, (.val (.int ss)), (.val (.long s2)), .second, (.val (.int ds)), (.val (.long d2)), .second, (.val (.long ee2)), .second, (.val (.int f7)), (.val (.long l1)), .second, (.val (.long nd)), .second, (.val (.long l2)), .second, (.val (.ref b7)), (.val (.ref b9)), (.val (.int (0 : Int32))), .unset, .unset, .unset, .unset, .unset] [(.int (0 : Int32))])
                  refine Owes.by (fun _ kq => XS.istore X18.here hx rfl (hb hby at_347) rfl (l' := #[(.val (.long p0)), .second, (.val (.long p1)), .second, (.val (.long p2)), .second, (.val (.long p3)), .second, (.val (.int p4)), (.val (.int p5)), (.val (.long c1)), .second, (.val (.long s1)), .second, (.val (.long d1)), .second, (.val (.long ee1)), .second, (.val (.long c2)), .second, (.val (.int ss)), (.val (.long s2)), .second, (.val (.int ds)), (.val (.long d2)), .second, (.val (.long ee2)), .second, (.val (.int f7)), (.val (.long l1)), .second, (.val (.long nd)), .second, (.val (.long l2)), .second, (.val (.ref b7)), (.val (.ref b9)), (.val (.int (0 : Int32))), (.val (.int (0 : Int32))), .unset, .unset, .unset, .unset]) rfl kq) ?_
                  show Owes p e below s (QL n0) room_1.cells room_1.slots T18 (mkF m 349 #[(.val (.long p0)), .second, (.val (.long p1)), .second, (.val (.long p2)), .second, (.val (.long p3)), .second, (.val (.int p4)), (.val (.int p5)), (.val (.long c1)), .second, (.val (.long s1)), .second, (.val (.long d1)), .second, (.val (.long ee1)), .second, (.val (.long c2)), .second, (.val (.int ss)), (.val (.long s2)), .second, (.val (.int ds)), (.val (.long d2)), .second, (.val (.long ee2)), .second, (.val (.int f7)), (.val (.long l1)), .second, (.val (.long nd)), .second, (.val (.long l2)), .second, (.val (.ref b7)), (.val (.ref b9)), (.val (.int (0 : Int32))), (.val (.int (0 : Int32))), .unset, .unset, .unset, .unset] [])
                  refine Owes.by (fun _ kq => XS.aload X18.here hx rfl (hb hby at_349) rfl rfl kq) ?_
                  show Owes p e below s (QL n0) room_1.cells room_1.slots T18 (mkF m 351 #[(.val (.long p0)), .second, (.val (.long p1)), .second, (.val (.long p2)), .second, (.val (.long p3)), .second, (.val (.int p4)), (.val (.int p5)), (.val (.long c1)), .second, (.val (.long s1)), .second, (.val (.long d1)), .second, (.val (.long ee1)), .second, (.val (.long c2)), .second, (.val (.int ss)), (.val (.long s2)), .second, (.val (.int ds)), (.val (.long d2)), .second, (.val (.long ee2)), .second, (.val (.int f7)), (.val (.long l1)), .second, (.val (.long nd)), .second, (.val (.long l2)), .second, (.val (.ref b7)), (.val (.ref b9)), (.val (.int (0 : Int32))), (.val (.int (0 : Int32))), .unset, .unset, .unset, .unset] [(.ref b9)])
                  refine Owes.by (fun _ kq => XS.aload X18.here hx rfl (hb hby at_351) rfl rfl kq) ?_
                  show Owes p e below s (QL n0) room_1.cells room_1.slots T18 (mkF m 353 #[(.val (.long p0)), .second, (.val (.long p1)), .second, (.val (.long p2)), .second, (.val (.long p3)), .second, (.val (.int p4)), (.val (.int p5)), (.val (.long c1)), .second, (.val (.long s1)), .second, (.val (.long d1)), .second, (.val (.long ee1)), .second, (.val (.long c2)), .second, (.val (.int ss)), (.val (.long s2)), .second, (.val (.int ds)), (.val (.long d2)), .second, (.val (.long ee2)), .second, (.val (.int f7)), (.val (.long l1)), .second, (.val (.long nd)), .second, (.val (.long l2)), .second, (.val (.ref b7)), (.val (.ref b9)), (.val (.int (0 : Int32))), (.val (.int (0 : Int32))), .unset, .unset, .unset, .unset] [(.ref b7), (.ref b9)])
                  obtain ⟨cq19, kq19, qa19, qb19, qc19⟩ := isOf hZ e18 A10
                  obtain ⟨_, _, ⟨T19, L19, k19, n19⟩, -, X19, ⟨Lc19, hQ19, l19, y19, z19⟩, st19⟩ := X18.virtualBack hx (y := (⟨"com/example/chunkmark/chunkmark/dataset/Range", "equals", "(Ljava/lang/Object;)Z"⟩ : MethodName)) (z := (⟨"com/example/chunkmark/chunkmark/dataset/Range", "equals", "(Ljava/lang/Object;)Z"⟩ : MethodName)) hown (mvT hZ (hw _ (List.mem_of_getElem? (i := 20) rfl))) (mvT hZ (hw _ (List.mem_of_getElem? (i := 21) rfl))) (notFace_of_selects (args := #[]) (mvT hZ (hw _ (List.mem_of_getElem? (i := 23) rfl)))) (mvT hZ (hw _ (List.mem_of_getElem? (i := 23) rfl))) (mvT hZ (hw _ (List.mem_of_getElem? (i := 22) rfl))) (by decide) (backOf (W := 0) (rmE l Z a0 hw [] b9 b7 l2 (if c2 = 0 then 0 else s2) (if 1 < c2 then d2 else 1) c2 l1 (if c1 = 0 then 0 else s1) (if 1 < c1 then d1 else 1) c1 0 T10.heap n0 Z2 A1' F10_length F10_start F10_stride F10_count B1_length B1_start B1_stride B1_count (if_neg (fun h => hE (own_exp_comm.mp ((own_iff h_c2.1).mp h))))) hZ (hw _ (List.mem_of_getElem? (i := 24) rfl)) (hw _ (List.mem_of_getElem? (i := 5) rfl)) (by decide) (by decide)) qa19 qc19 (g := (mkF m 353 #[(.val (.long p0)), .second, (.val (.long p1)), .second, (.val (.long p2)), .second, (.val (.long p3)), .second, (.val (.int p4)), (.val (.int p5)), (.val (.long c1)), .second, (.val (.long s1)), .second, (.val (.long d1)), .second, (.val (.long ee1)), .second, (.val (.long c2)), .second, (.val (.int ss)), (.val (.long s2)), .second, (.val (.int ds)), (.val (.long d2)), .second, (.val (.long ee2)), .second, (.val (.int f7)), (.val (.long l1)), .second, (.val (.long nd)), .second, (.val (.long l2)), .second, (.val (.ref b7)), (.val (.ref b9)), (.val (.int (0 : Int32))), (.val (.int (0 : Int32))), .unset, .unset, .unset, .unset] [(.ref b7), (.ref b9)])) rfl (by rw [hml]; rfl) (Steps.refl _) (argsL := [(.ref b7)]) (rest := []) (lenOf pd_Ljava_lang_Object_Z rfl) rfl (by show 2 * 0 + _ ≤ _; exact Nat.le_of_eq rfl) (hb hby at_353) (fun _ _ => ⟨rfl, e18, (by decide : 2 + 0 ≤ _), (by decide : 8 + 0 ≤ _)⟩)
                  dsimp only [Pt.U, Pt.locs, Pt.cells, Pt.slots] at X19 l19 y19 z19 st19 hQ19
                  subst l19 y19 z19
                  obtain ⟨rfl, rfl, e19⟩ := hQ19
                  try rw [List.append_nil] at X19
                  refine Owes.by (fun _ kq => st19.trans kq) ?_
                  show Owes p e below s (QL n0) room_1.cells room_1.slots T19 (mkF m 356 #[(.val (.long p0)), .second, (.val (.long p1)), .second, (.val (.long p2)), .second, (.val (.long p3)), .second, (.val (.int p4)), (.val (.int p5)), (.val (.long c1)), .second, (.val (.long s1)), .second, (.val (.long d1)), .second, (.val (.long ee1)), .second, (.val (.long c2)), .second, (.val (.int ss)), (.val (.long s2)), .second, (.val (.int ds)), (.val (.long d2)), .second, (.val (.long ee2)), .second, (.val (.int f7)), (.val (.long l1)), .second, (.val (.long nd)), .second, (.val (.long l2)), .second, (.val (.ref b7)), (.val (.ref b9)), (.val (.int (0 : Int32))), (.val (.int (0 : Int32))), .unset, .unset, .unset, .unset] [(.int (0 : Int32))])
                  refine Owes.by (fun _ kq => XS.istore X19.here hx rfl (hb hby at_356) rfl (l' := #[(.val (.long p0)), .second, (.val (.long p1)), .second, (.val (.long p2)), .second, (.val (.long p3)), .second, (.val (.int p4)), (.val (.int p5)), (.val (.long c1)), .second, (.val (.long s1)), .second, (.val (.long d1)), .second, (.val (.long ee1)), .second, (.val (.long c2)), .second, (.val (.int ss)), (.val (.long s2)), .second, (.val (.int ds)), (.val (.long d2)), .second, (.val (.long ee2)), .second, (.val (.int f7)), (.val (.long l1)), .second, (.val (.long nd)), .second, (.val (.long l2)), .second, (.val (.ref b7)), (.val (.ref b9)), (.val (.int (0 : Int32))), (.val (.int (0 : Int32))), (.val (.int (0 : Int32))), .unset, .unset, .unset]) rfl kq) ?_
                  show Owes p e below s (QL n0) room_1.cells room_1.slots T19 (mkF m 358 #[(.val (.long p0)), .second, (.val (.long p1)), .second, (.val (.long p2)), .second, (.val (.long p3)), .second, (.val (.int p4)), (.val (.int p5)), (.val (.long c1)), .second, (.val (.long s1)), .second, (.val (.long d1)), .second, (.val (.long ee1)), .second, (.val (.long c2)), .second, (.val (.int ss)), (.val (.long s2)), .second, (.val (.int ds)), (.val (.long d2)), .second, (.val (.long ee2)), .second, (.val (.int f7)), (.val (.long l1)), .second, (.val (.long nd)), .second, (.val (.long l2)), .second, (.val (.ref b7)), (.val (.ref b9)), (.val (.int (0 : Int32))), (.val (.int (0 : Int32))), (.val (.int (0 : Int32))), .unset, .unset, .unset] [])
                  refine Owes.by (fun _ kq => XS.aload X19.here hx rfl (hb hby at_358) rfl rfl kq) ?_
                  show Owes p e below s (QL n0) room_1.cells room_1.slots T19 (mkF m 360 #[(.val (.long p0)), .second, (.val (.long p1)), .second, (.val (.long p2)), .second, (.val (.long p3)), .second, (.val (.int p4)), (.val (.int p5)), (.val (.long c1)), .second, (.val (.long s1)), .second, (.val (.long d1)), .second, (.val (.long ee1)), .second, (.val (.long c2)), .second, (.val (.int ss)), (.val (.long s2)), .second, (.val (.int ds)), (.val (.long d2)), .second, (.val (.long ee2)), .second, (.val (.int f7)), (.val (.long l1)), .second, (.val (.long nd)), .second, (.val (.long l2)), .second, (.val (.ref b7)), (.val (.ref b9)), (.val (.int (0 : Int32))), (.val (.int (0 : Int32))), (.val (.int (0 : Int32))), .unset, .unset, .unset] [(.ref b7)])
                  refine Owes.by (fun _ kq => XS.aload X19.here hx rfl (hb hby at_360) rfl rfl kq) ?_
                  show Owes p e below s (QL n0) room_1.cells room_1.slots T19 (mkF m 362 #[(.val (.long p0)), .second, (.val (.long p1)), .second, (.val (.long p2)), .second, (.val (.long p3)), .second, (.val (.int p4)), (.val (.int p5)), (.val (.long c1)), .second, (.val (.long s1)), .second, (.val (.long d1)), .second, (.val (.long ee1)), .second, (.val (.long c2)), .second, (.val (.int ss)), (.val (.long s2)), .second, (.val (.int ds)), (.val (.long d2)), .second, (.val (.long ee2)), .second, (.val (.int f7)), (.val (.long l1)), .second, (.val (.long nd)), .second, (.val (.long l2)), .second, (.val (.ref b7)), (.val (.ref b9)), (.val (.int (0 : Int32))), (.val (.int (0 : Int32))), (.val (.int (0 : Int32))), .unset, .unset, .unset] [(.ref b7), (.ref b7)])
                  obtain ⟨cq20, kq20, qa20, qb20, qc20⟩ := isOf hZ e19 A1'
                  obtain ⟨_, _, ⟨T20, L20, k20, n20⟩, -, X20, ⟨Lc20, hQ20, l20, y20, z20⟩, st20⟩ := X19.virtualBack hx (y := (⟨"com/example/chunkmark/chunkmark/dataset/Range", "equals", "(Ljava/lang/Object;)Z"⟩ : MethodName)) (z := (⟨"com/example/chunkmark/chunkmark/dataset/Range", "equals", "(Ljava/lang/Object;)Z"⟩ : MethodName)) hown (mvT hZ (hw _ (List.mem_of_getElem? (i := 20) rfl))) (mvT hZ (hw _ (List.mem_of_getElem? (i := 21) rfl))) (notFace_of_selects (args := #[]) (mvT hZ (hw _ (List.mem_of_getElem? (i := 23) rfl)))) (mvT hZ (hw _ (List.mem_of_getElem? (i := 23) rfl))) (mvT hZ (hw _ (List.mem_of_getElem? (i := 22) rfl))) (by decide) (backOf (W := 0) (rmE l Z a0 hw [] b7 b7 l1 (if c1 = 0 then 0 else s1) (if 1 < c1 then d1 else 1) c1 l1 (if c1 = 0 then 0 else s1) (if 1 < c1 then d1 else 1) c1 1 T10.heap n0 Z2 A1' B1_length B1_start B1_stride B1_count B1_length B1_start B1_stride B1_count (if_pos ⟨rfl, rfl, rfl, rfl⟩)) hZ (hw _ (List.mem_of_getElem? (i := 24) rfl)) (hw _ (List.mem_of_getElem? (i := 5) rfl)) (by decide) (by decide)) qa20 qc20 (g := (mkF m 362 #[(.val (.long p0)), .second, (.val (.long p1)), .second, (.val (.long p2)), .second, (.val (.long p3)), .second, (.val (.int p4)), (.val (.int p5)), (.val (.long c1)), .second, (.val (.long s1)), .second, (.val (.long d1)), .second, (.val (.long ee1)), .second, (.val (.long c2)), .second, (.val (.int ss)), (.val (.long s2)), .second, (.val (.int ds)), (.val (.long d2)), .second, (.val (.long ee2)), .second, (.val (.int f7)), (.val (.long l1)), .second, (.val (.long nd)), .second, (.val (.long l2)), .second, (.val (.ref b7)), (.val (.ref b9)), (.val (.int (0 : Int32))), (.val (.int (0 : Int32))), (.val (.int (0 : Int32))), .unset, .unset, .unset] [(.ref b7), (.ref b7)])) rfl (by rw [hml]; rfl) (Steps.refl _) (argsL := [(.ref b7)]) (rest := []) (lenOf pd_Ljava_lang_Object_Z rfl) rfl (by show 2 * 0 + _ ≤ _; exact Nat.le_of_eq rfl) (hb hby at_362) (fun _ _ => ⟨rfl, e19, (by decide : 2 + 0 ≤ _), (by decide : 8 + 0 ≤ _)⟩)
                  dsimp only [Pt.U, Pt.locs, Pt.cells, Pt.slots] at X20 l20 y20 z20 st20 hQ20
                  subst l20 y20 z20
                  obtain ⟨rfl, rfl, e20⟩ := hQ20
                  try rw [List.append_nil] at X20
                  refine Owes.by (fun _ kq => st20.trans kq) ?_
                  show Owes p e below s (QL n0) room_1.cells room_1.slots T20 (mkF m 365 #[(.val (.long p0)), .second, (.val (.long p1)), .second, (.val (.long p2)), .second, (.val (.long p3)), .second, (.val (.int p4)), (.val (.int p5)), (.val (.long c1)), .second, (.val (.long s1)), .second, (.val (.long d1)), .second, (.val (.long ee1)), .second, (.val (.long c2)), .second, (.val (.int ss)), (.val (.long s2)), .second, (.val (.int ds)), (.val (.long d2)), .second, (.val (.long ee2)), .second, (.val (.int f7)), (.val (.long l1)), .second, (.val (.long nd)), .second, (.val (.long l2)), .second, (.val (.ref b7)), (.val (.ref b9)), (.val (.int (0 : Int32))), (.val (.int (0 : Int32))), (.val (.int (0 : Int32))), .unset, .unset, .unset] [(.int (1 : Int32))])
                  refine Owes.by (fun _ kq => XS.istore X20.here hx rfl (hb hby at_365) rfl (l' := #[(.val (.long p0)), .second, (.val (.long p1)), .second, (.val (.long p2)), .second, (.val (.long p3)), .second, (.val (.int p4)), (.val (.int p5)), (.val (.long c1)), .second, (.val (.long s1)), .second, (.val (.long d1)), .second, (.val (.long ee1)), .second, (.val (.long c2)), .second, (.val (.int ss)), (.val (.long s2)), .second, (.val (.int ds)), (.val (.long d2)), .second, (.val (.long ee2)), .second, (.val (.int f7)), (.val (.long l1)), .second, (.val (.long nd)), .second, (.val (.long l2)), .second, (.val (.ref b7)), (.val (.ref b9)), (.val (.int (0 : Int32))), (.val (.int (0 : Int32))), (.val (.int (0 : Int32))), (.val (.int (1 : Int32))), .unset, .unset]) rfl kq) ?_
                  show Owes p e below s (QL n0) room_1.cells room_1.slots T20 (mkF m 367 #[(.val (.long p0)), .second, (.val (.long p1)), .second, (.val (.long p2)), .second, (.val (.long p3)), .second, (.val (.int p4)), (.val (.int p5)), (.val (.long c1)), .second, (.val (.long s1)), .second, (.val (.long d1)), .second, (.val (.long ee1)), .second, (.val (.long c2)), .second, (.val (.int ss)), (.val (.long s2)), .second, (.val (.int ds)), (.val (.long d2)), .second, (.val (.long ee2)), .second, (.val (.int f7)), (.val (.long l1)), .second, (.val (.long nd)), .second, (.val (.long l2)), .second, (.val (.ref b7)), (.val (.ref b9)), (.val (.int (0 : Int32))), (.val (.int (0 : Int32))), (.val (.int (0 : Int32))), (.val (.int (1 : Int32))), .unset, .unset] [])
                  refine Owes.by (fun _ kq => XS.aload X20.here hx rfl (hb hby at_367) rfl rfl kq) ?_
                  show Owes p e below s (QL n0) room_1.cells room_1.slots T20 (mkF m 369 #[(.val (.long p0)), .second, (.val (.long p1)), .second, (.val (.long p2)), .second, (.val (.long p3)), .second, (.val (.int p4)), (.val (.int p5)), (.val (.long c1)), .second, (.val (.long s1)), .second, (.val (.long d1)), .second, (.val (.long ee1)), .second, (.val (.long c2)), .second, (.val (.int ss)), (.val (.long s2)), .second, (.val (.int ds)), (.val (.long d2)), .second, (.val (.long ee2)), .second, (.val (.int f7)), (.val (.long l1)), .second, (.val (.long nd)), .second, (.val (.long l2)), .second, (.val (.ref b7)), (.val (.ref b9)), (.val (.int (0 : Int32))), (.val (.int (0 : Int32))), (.val (.int (0 : Int32))), (.val (.int (1 : Int32))), .unset, .unset] [(.ref b7)])
                  refine Owes.by (fun _ kq => XS.aconstNull X20.here hx rfl (hb hby at_369) kq) ?_
                  show Owes p e below s (QL n0) room_1.cells room_1.slots T20 (mkF m 370 #[(.val (.long p0)), .second, (.val (.long p1)), .second, (.val (.long p2)), .second, (.val (.long p3)), .second, (.val (.int p4)), (.val (.int p5)), (.val (.long c1)), .second, (.val (.long s1)), .second, (.val (.long d1)), .second, (.val (.long ee1)), .second, (.val (.long c2)), .second, (.val (.int ss)), (.val (.long s2)), .second, (.val (.int ds)), (.val (.long d2)), .second, (.val (.long ee2)), .second, (.val (.int f7)), (.val (.long l1)), .second, (.val (.long nd)), .second, (.val (.long l2)), .second, (.val (.ref b7)), (.val (.ref b9)), (.val (.int (0 : Int32))), (.val (.int (0 : Int32))), (.val (.int (0 : Int32))), (.val (.int (1 : Int32))), .unset, .unset] [.null, (.ref b7)])
                  obtain ⟨cq21, kq21, qa21, qb21, qc21⟩ := isOf hZ e20 A1'
                  obtain ⟨_, _, ⟨T21, L21, k21, n21⟩, -, X21, ⟨Lc21, hQ21, l21, y21, z21⟩, st21⟩ := X20.virtualBack hx (y := (⟨"com/example/chunkmark/chunkmark/dataset/Range", "equals", "(Ljava/lang/Object;)Z"⟩ : MethodName)) (z := (⟨"com/example/chunkmark/chunkmark/dataset/Range", "equals", "(Ljava/lang/Object;)Z"⟩ : MethodName)) hown (mvT hZ (hw _ (List.mem_of_getElem? (i := 20) rfl))) (mvT hZ (hw _ (List.mem_of_getElem? (i := 21) rfl))) (notFace_of_selects (args := #[]) (mvT hZ (hw _ (List.mem_of_getElem? (i := 23) rfl)))) (mvT hZ (hw _ (List.mem_of_getElem? (i := 23) rfl))) (mvT hZ (hw _ (List.mem_of_getElem? (i := 22) rfl))) (by decide) (backOf (W := 0) (rmE0 l Z a0 hw [] b7 T10.heap n0 Z2) hZ (hw _ (List.mem_of_getElem? (i := 24) rfl)) (hw _ (List.mem_of_getElem? (i := 5) rfl)) (by decide) (by decide)) qa21 qc21 (g := (mkF m 370 #[(.val (.long p0)), .second, (.val (.long p1)), .second, (.val (.long p2)), .second, (.val (.long p3)), .second, (.val (.int p4)), (.val (.int p5)), (.val (.long c1)), .second, (.val (.long s1)), .second, (.val (.long d1)), .second, (.val (.long ee1)), .second, (.val (.long c2)), .second, (.val (.int ss)), (.val (.long s2)), .second, (.val (.int ds)), (.val (.long d2)), .second, (.val (.long ee2)), .second, (.val (.int f7)), (.val (.long l1)), .second, (.val (.long nd)), .second, (.val (.long l2)), .second, (.val (.ref b7)), (.val (.ref b9)), (.val (.int (0 : Int32))), (.val (.int (0 : Int32))), (.val (.int (0 : Int32))), (.val (.int (1 : Int32))), .unset, .unset] [.null, (.ref b7)])) rfl (by rw [hml]; rfl) (Steps.refl _) (argsL := [.null]) (rest := []) (lenOf pd_Ljava_lang_Object_Z rfl) rfl (by show 2 * 0 + _ ≤ _; exact Nat.le_of_eq rfl) (hb hby at_370) (fun _ _ => ⟨rfl, e20, (by decide : 2 + 0 ≤ _), (by decide : 8 + 0 ≤ _)⟩)
                  dsimp only [Pt.U, Pt.locs, Pt.cells, Pt.slots] at X21 l21 y21 z21 st21 hQ21
                  subst l21 y21 z21
                  obtain ⟨rfl, rfl, e21⟩ := hQ21
                  try rw [List.append_nil] at X21
                  refine Owes.by (fun _ kq => st21.trans kq) ?_
                  show Owes p e below s (QL n0) room_1.cells room_1.slots T21 (mkF m 373 #[(.val (.long p0)), .second, (.val (.long p1)), .second, (.val (.long p2)), .second, (.val (.long p3)), .second, (.val (.int p4)), (.val (.int p5)), (.val (.long c1)), .second, (.val (.long s1)), .second, (.val (.long d1)), .second, (.val (.long ee1)), .second, (.val (.long c2)), .second, (.val (.int ss)), (.val (.long s2)), .second, (.val (.int ds)), (.val (.long d2)), .second, (.val (.long ee2)), .second, (.val (.int f7)), (.val (.long l1)), .second, (.val (.long nd)), .second, (.val (.long l2)), .second, (.val (.ref b7)), (.val (.ref b9)), (.val (.int (0 : Int32))), (.val (.int (0 : Int32))), (.val (.int (0 : Int32))), (.val (.int (1 : Int32))), .unset, .unset] [(.int (0 : Int32))])
                  refine Owes.by (fun _ kq => XS.istore X21.here hx rfl (hb hby at_373) rfl (l' := #[(.val (.long p0)), .second, (.val (.long p1)), .second, (.val (.long p2)), .second, (.val (.long p3)), .second, (.val (.int p4)), (.val (.int p5)), (.val (.long c1)), .second, (.val (.long s1)), .second, (.val (.long d1)), .second, (.val (.long ee1)), .second, (.val (.long c2)), .second, (.val (.int ss)), (.val (.long s2)), .second, (.val (.int ds)), (.val (.long d2)), .second, (.val (.long ee2)), .second, (.val (.int f7)), (.val (.long l1)), .second, (.val (.long nd)), .second, (.val (.long l2)), .second, (.val (.ref b7)), (.val (.ref b9)), (.val (.int (0 : Int32))), (.val (.int (0 : Int32))), (.val (.int (0 : Int32))), (.val (.int (1 : Int32))), (.val (.int (0 : Int32))), .unset]) rfl kq) ?_
                  show Owes p e below s (QL n0) room_1.cells room_1.slots T21 (mkF m 375 #[(.val (.long p0)), .second, (.val (.long p1)), .second, (.val (.long p2)), .second, (.val (.long p3)), .second, (.val (.int p4)), (.val (.int p5)), (.val (.long c1)), .second, (.val (.long s1)), .second, (.val (.long d1)), .second, (.val (.long ee1)), .second, (.val (.long c2)), .second, (.val (.int ss)), (.val (.long s2)), .second, (.val (.int ds)), (.val (.long d2)), .second, (.val (.long ee2)), .second, (.val (.int f7)), (.val (.long l1)), .second, (.val (.long nd)), .second, (.val (.long l2)), .second, (.val (.ref b7)), (.val (.ref b9)), (.val (.int (0 : Int32))), (.val (.int (0 : Int32))), (.val (.int (0 : Int32))), (.val (.int (1 : Int32))), (.val (.int (0 : Int32))), .unset] [])
                  refine Owes.by (fun _ kq => XS.aload X21.here hx rfl (hb hby at_375) rfl rfl kq) ?_
                  show Owes p e below s (QL n0) room_1.cells room_1.slots T21 (mkF m 377 #[(.val (.long p0)), .second, (.val (.long p1)), .second, (.val (.long p2)), .second, (.val (.long p3)), .second, (.val (.int p4)), (.val (.int p5)), (.val (.long c1)), .second, (.val (.long s1)), .second, (.val (.long d1)), .second, (.val (.long ee1)), .second, (.val (.long c2)), .second, (.val (.int ss)), (.val (.long s2)), .second, (.val (.int ds)), (.val (.long d2)), .second, (.val (.long ee2)), .second, (.val (.int f7)), (.val (.long l1)), .second, (.val (.long nd)), .second, (.val (.long l2)), .second, (.val (.ref b7)), (.val (.ref b9)), (.val (.int (0 : Int32))), (.val (.int (0 : Int32))), (.val (.int (0 : Int32))), (.val (.int (1 : Int32))), (.val (.int (0 : Int32))), .unset] [(.ref b7)])
                  refine Owes.by (fun _ kq => XT.lload X21.here hx rfl (hb hby at_377) rfl kq) ?_
                  show Owes p e below s (QL n0) room_1.cells room_1.slots T21 (mkF m 379 #[(.val (.long p0)), .second, (.val (.long p1)), .second, (.val (.long p2)), .second, (.val (.long p3)), .second, (.val (.int p4)), (.val (.int p5)), (.val (.long c1)), .second, (.val (.long s1)), .second, (.val (.long d1)), .second, (.val (.long ee1)), .second, (.val (.long c2)), .second, (.val (.int ss)), (.val (.long s2)), .second, (.val (.int ds)), (.val (.long d2)), .second, (.val (.long ee2)), .second, (.val (.int f7)), (.val (.long l1)), .second, (.val (.long nd)), .second, (.val (.long l2)), .second, (.val (.ref b7)), (.val (.ref b9)), (.val (.int (0 : Int32))), (.val (.int (0 : Int32))), (.val (.int (0 : Int32))), (.val (.int (1 : Int32))), (.val (.int (0 : Int32))), .unset] [(.long l1), (.ref b7)])
                  obtain ⟨_, _, ⟨T22, L22, k22, n22⟩, -, X22, ⟨Lc22, hQ22, l22, y22, z22⟩, st22⟩ := Jvm.LawKit.callS X21 hx (y := (⟨"java/lang/Long", "valueOf", "(J)Ljava/lang/Long;"⟩ : MethodName)) hown (mvT hZ (hw _ (List.mem_of_getElem? (i := 27) rfl))) (mvT hZ (hw _ (List.mem_of_getElem? (i := 28) rfl))) (mvT hZ (hw _ (List.mem_of_getElem? (i := 29) rfl))) (mvT hZ (hw _ (List.mem_of_getElem? (i := 30) rfl))) (by decide) (backOf (W := 1) (rmV l Z a0 hw [] l1 ca cl T10.heap n0 Z2 (S_cache.ext X2') (Ar.ext X2') (own_hallX hall X2')) hZ (hw _ (List.mem_of_getElem? (i := 30) rfl)) (hw _ (List.mem_of_getElem? (i := 29) rfl)) (by decide) (by decide)) (g := (mkF m 379 #[(.val (.long p0)), .second, (.val (.long p1)), .second, (.val (.long p2)), .second, (.val (.long p3)), .second, (.val (.int p4)), (.val (.int p5)), (.val (.long c1)), .second, (.val (.long s1)), .second, (.val (.long d1)), .second, (.val (.long ee1)), .second, (.val (.long c2)), .second, (.val (.int ss)), (.val (.long s2)), .second, (.val (.int ds)), (.val (.long d2)), .second, (.val (.long ee2)), .second, (.val (.int f7)), (.val (.long l1)), .second, (.val (.long nd)), .second, (.val (.long l2)), .second, (.val (.ref b7)), (.val (.ref b9)), (.val (.int (0 : Int32))), (.val (.int (0 : Int32))), (.val (.int (0 : Int32))), (.val (.int (1 : Int32))), (.val (.int (0 : Int32))), .unset] [(.long l1), (.ref b7)])) rfl (by rw [hml]; rfl) (argsL := [(.long l1)]) (rest := [(.ref b7)]) (lenOf pd_J_Ljava_lang_Long rfl) rfl (by show 2 * 0 + _ ≤ _; exact Nat.le_of_eq rfl) (hb hby at_379) (fun _ _ => ⟨rfl, e21, (by decide : 2 + 1 ≤ _), (by decide : 8 + 1 ≤ _)⟩)
                  dsimp only [Pt.U, Pt.locs, Pt.cells, Pt.slots] at X22 l22 y22 z22 st22 hQ22
                  subst l22 y22 z22
                  obtain ⟨lo, rfl, N22, Y22, A22⟩ := hQ22
                  refine Owes.by st22 ?_
                  show Owes p e below s (QL n0) room_1.cells room_1.slots T22 (mkF m 382 #[(.val (.long p0)), .second, (.val (.long p1)), .second, (.val (.long p2)), .second, (.val (.long p3)), .second, (.val (.int p4)), (.val (.int p5)), (.val (.long c1)), .second, (.val (.long s1)), .second, (.val (.long d1)), .second, (.val (.long ee1)), .second, (.val (.long c2)), .second, (.val (.int ss)), (.val (.long s2)), .second, (.val (.int ds)), (.val (.long d2)), .second, (.val (.long ee2)), .second, (.val (.int f7)), (.val (.long l1)), .second, (.val (.long nd)), .second, (.val (.long l2)), .second, (.val (.ref b7)), (.val (.ref b9)), (.val (.int (0 : Int32))), (.val (.int (0 : Int32))), (.val (.int (0 : Int32))), (.val (.int (1 : Int32))), (.val (.int (0 : Int32))), .unset] [(.ref lo), (.ref b7)])
                  obtain ⟨cq23, kq23, qa23, qb23, qc23⟩ := isOf hZ (rfl : T22.heap = T22.heap) (A1'.ext Y22)
                  obtain ⟨_, _, ⟨T23, L23, k23, n23⟩, -, X23, ⟨Lc23, hQ23, l23, y23, z23⟩, st23⟩ := X22.virtualBack hx (y := (⟨"com/example/chunkmark/chunkmark/dataset/Range", "equals", "(Ljava/lang/Object;)Z"⟩ : MethodName)) (z := (⟨"com/example/chunkmark/chunkmark/dataset/Range", "equals", "(Ljava/lang/Object;)Z"⟩ : MethodName)) hown (mvT hZ (hw _ (List.mem_of_getElem? (i := 20) rfl))) (mvT hZ (hw _ (List.mem_of_getElem? (i := 21) rfl))) (notFace_of_selects (args := #[]) (mvT hZ (hw _ (List.mem_of_getElem? (i := 23) rfl)))) (mvT hZ (hw _ (List.mem_of_getElem? (i := 23) rfl))) (mvT hZ (hw _ (List.mem_of_getElem? (i := 22) rfl))) (by decide) (backOf (W := 0) (rmEL l Z a0 hw [] b7 lo T22.heap n0 (Nat.le_trans Z2 Y22.1) A22) hZ (hw _ (List.mem_of_getElem? (i := 24) rfl)) (hw _ (List.mem_of_getElem? (i := 5) rfl)) (by decide) (by decide)) qa23 qc23 (g := (mkF m 382 #[(.val (.long p0)), .second, (.val (.long p1)), .second, (.val (.long p2)), .second, (.val (.long p3)), .second, (.val (.int p4)), (.val (.int p5)), (.val (.long c1)), .second, (.val (.long s1)), .second, (.val (.long d1)), .second, (.val (.long ee1)), .second, (.val (.long c2)), .second, (.val (.int ss)), (.val (.long s2)), .second, (.val (.int ds)), (.val (.long d2)), .second, (.val (.long ee2)), .second, (.val (.int f7)), (.val (.long l1)), .second, (.val (.long nd)), .second, (.val (.long l2)), .second, (.val (.ref b7)), (.val (.ref b9)), (.val (.int (0 : Int32))), (.val (.int (0 : Int32))), (.val (.int (0 : Int32))), (.val (.int (1 : Int32))), (.val (.int (0 : Int32))), .unset] [(.ref lo), (.ref b7)])) rfl (by rw [hml]; rfl) (Steps.refl _) (argsL := [(.ref lo)]) (rest := []) (lenOf pd_Ljava_lang_Object_Z rfl) rfl (by show 2 * 0 + _ ≤ _; exact Nat.le_of_eq rfl) (hb hby at_382) (fun _ _ => ⟨rfl, (rfl : T22.heap = T22.heap), (by decide : 3 + 0 ≤ _), (by decide : 9 + 0 ≤ _)⟩)
                  dsimp only [Pt.U, Pt.locs, Pt.cells, Pt.slots] at X23 l23 y23 z23 st23 hQ23
                  subst l23 y23 z23
                  obtain ⟨rfl, rfl, e23⟩ := hQ23
                  try rw [List.append_nil] at X23
                  refine Owes.by (fun _ kq => st23.trans kq) ?_
                  show Owes p e below s (QL n0) room_1.cells room_1.slots T23 (mkF m 385 #[(.val (.long p0)), .second, (.val (.long p1)), .second, (.val (.long p2)), .second, (.val (.long p3)), .second, (.val (.int p4)), (.val (.int p5)), (.val (.long c1)), .second, (.val (.long s1)), .second, (.val (.long d1)), .second, (.val (.long ee1)), .second, (.val (.long c2)), .second, (.val (.int ss)), (.val (.long s2)), .second, (.val (.int ds)), (.val (.long d2)), .second, (.val (.long ee2)), .second, (.val (.int f7)), (.val (.long l1)), .second, (.val (.long nd)), .second, (.val (.long l2)), .second, (.val (.ref b7)), (.val (.ref b9)), (.val (.int (0 : Int32))), (.val (.int (0 : Int32))), (.val (.int (0 : Int32))), (.val (.int (1 : Int32))), (.val (.int (0 : Int32))), .unset] [(.int (0 : Int32))])
                  refine Owes.by (fun _ kq => XS.istore X23.here hx rfl (hb hby at_385) rfl (l' := #[(.val (.long p0)), .second, (.val (.long p1)), .second, (.val (.long p2)), .second, (.val (.long p3)), .second, (.val (.int p4)), (.val (.int p5)), (.val (.long c1)), .second, (.val (.long s1)), .second, (.val (.long d1)), .second, (.val (.long ee1)), .second, (.val (.long c2)), .second, (.val (.int ss)), (.val (.long s2)), .second, (.val (.int ds)), (.val (.long d2)), .second, (.val (.long ee2)), .second, (.val (.int f7)), (.val (.long l1)), .second, (.val (.long nd)), .second, (.val (.long l2)), .second, (.val (.ref b7)), (.val (.ref b9)), (.val (.int (0 : Int32))), (.val (.int (0 : Int32))), (.val (.int (0 : Int32))), (.val (.int (1 : Int32))), (.val (.int (0 : Int32))), (.val (.int (0 : Int32)))]) rfl kq) ?_
                  show Owes p e below s (QL n0) room_1.cells room_1.slots T23 (mkF m 387 #[(.val (.long p0)), .second, (.val (.long p1)), .second, (.val (.long p2)), .second, (.val (.long p3)), .second, (.val (.int p4)), (.val (.int p5)), (.val (.long c1)), .second, (.val (.long s1)), .second, (.val (.long d1)), .second, (.val (.long ee1)), .second, (.val (.long c2)), .second, (.val (.int ss)), (.val (.long s2)), .second, (.val (.int ds)), (.val (.long d2)), .second, (.val (.long ee2)), .second, (.val (.int f7)), (.val (.long l1)), .second, (.val (.long nd)), .second, (.val (.long l2)), .second, (.val (.ref b7)), (.val (.ref b9)), (.val (.int (0 : Int32))), (.val (.int (0 : Int32))), (.val (.int (0 : Int32))), (.val (.int (1 : Int32))), (.val (.int (0 : Int32))), (.val (.int (0 : Int32)))] [])
                  refine Owes.by (fun _ kq => XS.iload X23.here hx rfl (hb hby at_387) rfl kq) ?_
                  show Owes p e below s (QL n0) room_1.cells room_1.slots T23 (mkF m 389 #[(.val (.long p0)), .second, (.val (.long p1)), .second, (.val (.long p2)), .second, (.val (.long p3)), .second, (.val (.int p4)), (.val (.int p5)), (.val (.long c1)), .second, (.val (.long s1)), .second, (.val (.long d1)), .second, (.val (.long ee1)), .second, (.val (.long c2)), .second, (.val (.int ss)), (.val (.long s2)), .second, (.val (.int ds)), (.val (.long d2)), .second, (.val (.long ee2)), .second, (.val (.int f7)), (.val (.long l1)), .second, (.val (.long nd)), .second, (.val (.long l2)), .second, (.val (.ref b7)), (.val (.ref b9)), (.val (.int (0 : Int32))), (.val (.int (0 : Int32))), (.val (.int (0 : Int32))), (.val (.int (1 : Int32))), (.val (.int (0 : Int32))), (.val (.int (0 : Int32)))] [(.int (0 : Int32))])
                  refine Owes.by (fun _ kq => XS.iload X23.here hx rfl (hb hby at_389) rfl kq) ?_
                  show Owes p e below s (QL n0) room_1.cells room_1.slots T23 (mkF m 391 #[(.val (.long p0)), .second, (.val (.long p1)), .second, (.val (.long p2)), .second, (.val (.long p3)), .second, (.val (.int p4)), (.val (.int p5)), (.val (.long c1)), .second, (.val (.long s1)), .second, (.val (.long d1)), .second, (.val (.long ee1)), .second, (.val (.long c2)), .second, (.val (.int ss)), (.val (.long s2)), .second, (.val (.int ds)), (.val (.long d2)), .second, (.val (.long ee2)), .second, (.val (.int f7)), (.val (.long l1)), .second, (.val (.long nd)), .second, (.val (.long l2)), .second, (.val (.ref b7)), (.val (.ref b9)), (.val (.int (0 : Int32))), (.val (.int (0 : Int32))), (.val (.int (0 : Int32))), (.val (.int (1 : Int32))), (.val (.int (0 : Int32))), (.val (.int (0 : Int32)))] [(.int (0 : Int32)), (.int (0 : Int32))])
                  refine Owes.by (fun _ kq => XS.icmpNo X23.here hx rfl (hb hby at_391) rfl (XT.ii_ne_f (by decide)) kq) ?_
                  show Owes p e below s (QL n0) room_1.cells room_1.slots T23 (mkF m 394 #[(.val (.long p0)), .second, (.val (.long p1)), .second, (.val (.long p2)), .second, (.val (.long p3)), .second, (.val (.int p4)), (.val (.int p5)), (.val (.long c1)), .second, (.val (.long s1)), .second, (.val (.long d1)), .second, (.val (.long ee1)), .second, (.val (.long c2)), .second, (.val (.int ss)), (.val (.long s2)), .second, (.val (.int ds)), (.val (.long d2)), .second, (.val (.long ee2)), .second, (.val (.int f7)), (.val (.long l1)), .second, (.val (.long nd)), .second, (.val (.long l2)), .second, (.val (.ref b7)), (.val (.ref b9)), (.val (.int (0 : Int32))), (.val (.int (0 : Int32))), (.val (.int (0 : Int32))), (.val (.int (1 : Int32))), (.val (.int (0 : Int32))), (.val (.int (0 : Int32)))] [])
                  refine Owes.by (fun _ kq => XS.iload X23.here hx rfl (hb hby at_394) rfl kq) ?_
                  show Owes p e below s (QL n0) room_1.cells room_1.slots T23 (mkF m 396 #[(.val (.long p0)), .second, (.val (.long p1)), .second, (.val (.long p2)), .second, (.val (.long p3)), .second, (.val (.int p4)), (.val (.int p5)), (.val (.long c1)), .second, (.val (.long s1)), .second, (.val (.long d1)), .second, (.val (.long ee1)), .second, (.val (.long c2)), .second, (.val (.int ss)), (.val (.long s2)), .second, (.val (.int ds)), (.val (.long d2)), .second, (.val (.long ee2)), .second, (.val (.int f7)), (.val (.long l1)), .second, (.val (.long nd)), .second, (.val (.long l2)), .second, (.val (.ref b7)), (.val (.ref b9)), (.val (.int (0 : Int32))), (.val (.int (0 : Int32))), (.val (.int (0 : Int32))), (.val (.int (1 : Int32))), (.val (.int (0 : Int32))), (.val (.int (0 : Int32)))] [(.int (0 : Int32))])
                  refine Owes.by (fun _ kq => XS.iload X23.here hx rfl (hb hby at_396) rfl kq) ?_
                  show Owes p e below s (QL n0) room_1.cells room_1.slots T23 (mkF m 398 #[(.val (.long p0)), .second, (.val (.long p1)), .second, (.val (.long p2)), .second, (.val (.long p3)), .second, (.val (.int p4)), (.val (.int p5)), (.val (.long c1)), .second, (.val (.long s1)), .second, (.val (.long d1)), .second, (.val (.long ee1)), .second, (.val (.long c2)), .second, (.val (.int ss)), (.val (.long s2)), .second, (.val (.int ds)), (.val (.long d2)), .second, (.val (.long ee2)), .second, (.val (.int f7)), (.val (.long l1)), .second, (.val (.long nd)), .second, (.val (.long l2)), .second, (.val (.ref b7)), (.val (.ref b9)), (.val (.int (0 : Int32))), (.val (.int (0 : Int32))), (.val (.int (0 : Int32))), (.val (.int (1 : Int32))), (.val (.int (0 : Int32))), (.val (.int (0 : Int32)))] [(.int (0 : Int32)), (.int (0 : Int32))])
                  refine Owes.by (fun _ kq => XS.icmpNo X23.here hx rfl (hb hby at_398) rfl (XT.ii_ne_f (by decide)) kq) ?_
                  show Owes p e below s (QL n0) room_1.cells room_1.slots T23 (mkF m 401 #[(.val (.long p0)), .second, (.val (.long p1)), .second, (.val (.long p2)), .second, (.val (.long p3)), .second, (.val (.int p4)), (.val (.int p5)), (.val (.long c1)), .second, (.val (.long s1)), .second, (.val (.long d1)), .second, (.val (.long ee1)), .second, (.val (.long c2)), .second, (.val (.int ss)), (.val (.long s2)), .second, (.val (.int ds)), (.val (.long d2)), .second, (.val (.long ee2)), .second, (.val (.int f7)), (.val (.long l1)), .second, (.val (.long nd)), .second, (.val (.long l2)), .second, (.val (.ref b7)), (.val (.ref b9)), (.val (.int (0 : Int32))), (.val (.int (0 : Int32))), (.val (.int (0 : Int32))), (.val (.int (1 : Int32))), (.val (.int (0 : Int32))), (.val (.int (0 : Int32)))] [])
                  refine Owes.by (fun _ kq => XS.iload X23.here hx rfl (hb hby at_401) rfl kq) ?_
                  show Owes p e below s (QL n0) room_1.cells room_1.slots T23 (mkF m 403 #[(.val (.long p0)), .second, (.val (.long p1)), .second, (.val (.long p2)), .second, (.val (.long p3)), .second, (.val (.int p4)), (.val (.int p5)), (.val (.long c1)), .second, (.val (.long s1)), .second, (.val (.long d1)), .second, (.val (.long ee1)), .second, (.val (.long c2)), .second, (.val (.int ss)), (.val (.long s2)), .second, (.val (.int ds)), (.val (.long d2)), .second, (.val (.long ee2)), .second, (.val (.int f7)), (.val (.long l1)), .second, (.val (.long nd)), .second, (.val (.long l2)), .second, (.val (.ref b7)), (.val (.ref b9)), (.val (.int (0 : Int32))), (.val (.int (0 : Int32))), (.val (.int (0 : Int32))), (.val (.int (1 : Int32))), (.val (.int (0 : Int32))), (.val (.int (0 : Int32)))] [(.int (1 : Int32))])
                  refine Owes.by (fun _ kq => XS.ifNo X23.here hx rfl (hb hby at_403) rfl (XT.i0_eq_f (by decide)) kq) ?_
                  show Owes p e below s (QL n0) room_1.cells room_1.slots T23 (mkF m 406 #[(.val (.long p0)), .second, (.val (.long p1)), .second, (.val (.long p2)), .second, (.val (.long p3)), .second, (.val (.int p4)), (.val (.int p5)), (.val (.long c1)), .second, (.val (.long s1)), .second, (.val (.long d1)), .second, (.val (.long ee1)), .second, (.val (.long c2)), .second, (.val (.int ss)), (.val (.long s2)), .second, (.val (.int ds)), (.val (.long d2)), .second, (.val (.long ee2)), .second, (.val (.int f7)), (.val (.long l1)), .second, (.val (.long nd)), .second, (.val (.long l2)), .second, (.val (.ref b7)), (.val (.ref b9)), (.val (.int (0 : Int32))), (.val (.int (0 : Int32))), (.val (.int (0 : Int32))), (.val (.int (1 : Int32))), (.val (.int (0 : Int32))), (.val (.int (0 : Int32)))] [])
                  refine Owes.by (fun _ kq => XS.iload X23.here hx rfl (hb hby at_406) rfl kq) ?_
                  show Owes p e below s (QL n0) room_1.cells room_1.slots T23 (mkF m 408 #[(.val (.long p0)), .second, (.val (.long p1)), .second, (.val (.long p2)), .second, (.val (.long p3)), .second, (.val (.int p4)), (.val (.int p5)), (.val (.long c1)), .second, (.val (.long s1)), .second, (.val (.long d1)), .second, (.val (.long ee1)), .second, (.val (.long c2)), .second, (.val (.int ss)), (.val (.long s2)), .second, (.val (.int ds)), (.val (.long d2)), .second, (.val (.long ee2)), .second, (.val (.int f7)), (.val (.long l1)), .second, (.val (.long nd)), .second, (.val (.long l2)), .second, (.val (.ref b7)), (.val (.ref b9)), (.val (.int (0 : Int32))), (.val (.int (0 : Int32))), (.val (.int (0 : Int32))), (.val (.int (1 : Int32))), (.val (.int (0 : Int32))), (.val (.int (0 : Int32)))] [(.int (0 : Int32))])
                  refine Owes.by (fun _ kq => XS.ifNo X23.here hx rfl (hb hby at_408) rfl (XT.i0_ne_f (by decide)) kq) ?_
                  show Owes p e below s (QL n0) room_1.cells room_1.slots T23 (mkF m 411 #[(.val (.long p0)), .second, (.val (.long p1)), .second, (.val (.long p2)), .second, (.val (.long p3)), .second, (.val (.int p4)), (.val (.int p5)), (.val (.long c1)), .second, (.val (.long s1)), .second, (.val (.long d1)), .second, (.val (.long ee1)), .second, (.val (.long c2)), .second, (.val (.int ss)), (.val (.long s2)), .second, (.val (.int ds)), (.val (.long d2)), .second, (.val (.long ee2)), .second, (.val (.int f7)), (.val (.long l1)), .second, (.val (.long nd)), .second, (.val (.long l2)), .second, (.val (.ref b7)), (.val (.ref b9)), (.val (.int (0 : Int32))), (.val (.int (0 : Int32))), (.val (.int (0 : Int32))), (.val (.int (1 : Int32))), (.val (.int (0 : Int32))), (.val (.int (0 : Int32)))] [])
                  refine Owes.by (fun _ kq => XS.iload X23.here hx rfl (hb hby at_411) rfl kq) ?_
                  show Owes p e below s (QL n0) room_1.cells room_1.slots T23 (mkF m 413 #[(.val (.long p0)), .second, (.val (.long p1)), .second, (.val (.long p2)), .second, (.val (.long p3)), .second, (.val (.int p4)), (.val (.int p5)), (.val (.long c1)), .second, (.val (.long s1)), .second, (.val (.long d1)), .second, (.val (.long ee1)), .second, (.val (.long c2)), .second, (.val (.int ss)), (.val (.long s2)), .second, (.val (.int ds)), (.val (.long d2)), .second, (.val (.long ee2)), .second, (.val (.int f7)), (.val (.long l1)), .second, (.val (.long nd)), .second, (.val (.long l2)), .second, (.val (.ref b7)), (.val (.ref b9)), (.val (.int (0 : Int32))), (.val (.int (0 : Int32))), (.val (.int (0 : Int32))), (.val (.int (1 : Int32))), (.val (.int (0 : Int32))), (.val (.int (0 : Int32)))] [(.int (0 : Int32))])
                  refine Owes.by (fun _ kq => XS.ifNo X23.here hx rfl (hb hby at_413) rfl (XT.i0_ne_f (by decide)) kq) ?_
                  show Owes p e below s (QL n0) room_1.cells room_1.slots T23 (mkF m 416 #[(.val (.long p0)), .second, (.val (.long p1)), .second, (.val (.long p2)), .second, (.val (.long p3)), .second, (.val (.int p4)), (.val (.int p5)), (.val (.long c1)), .second, (.val (.long s1)), .second, (.val (.long d1)), .second, (.val (.long ee1)), .second, (.val (.long c2)), .second, (.val (.int ss)), (.val (.long s2)), .second, (.val (.int ds)), (.val (.long d2)), .second, (.val (.long ee2)), .second, (.val (.int f7)), (.val (.long l1)), .second, (.val (.long nd)), .second, (.val (.long l2)), .second, (.val (.ref b7)), (.val (.ref b9)), (.val (.int (0 : Int32))), (.val (.int (0 : Int32))), (.val (.int (0 : Int32))), (.val (.int (1 : Int32))), (.val (.int (0 : Int32))), (.val (.int (0 : Int32)))] [])
                  refine Owes.by (fun _ kq => XS.iconst X23.here hx rfl (hb hby at_416) kq) ?_
                  show Owes p e below s (QL n0) room_1.cells room_1.slots T23 (mkF m 417 #[(.val (.long p0)), .second, (.val (.long p1)), .second, (.val (.long p2)), .second, (.val (.long p3)), .second, (.val (.int p4)), (.val (.int p5)), (.val (.long c1)), .second, (.val (.long s1)), .second, (.val (.long d1)), .second, (.val (.long ee1)), .second, (.val (.long c2)), .second, (.val (.int ss)), (.val (.long s2)), .second, (.val (.int ds)), (.val (.long d2)), .second, (.val (.long ee2)), .second, (.val (.int f7)), (.val (.long l1)), .second, (.val (.long nd)), .second, (.val (.long l2)), .second, (.val (.ref b7)), (.val (.ref b9)), (.val (.int (0 : Int32))), (.val (.int (0 : Int32))), (.val (.int (0 : Int32))), (.val (.int (1 : Int32))), (.val (.int (0 : Int32))), (.val (.int (0 : Int32)))] [(.int (1 : Int32))])
                  refine Owes.by (fun _ kq => XS.goto X23.here hx rfl (pc0 := 417) (pc' := 421) rfl (hb hby at_417) (by decide) (by decide) kq) ?_
                  show Owes p e below s (QL n0) room_1.cells room_1.slots T23 (mkF m 421 #[(.val (.long p0)), .second, (.val (.long p1)), .second, (.val (.long p2)), .second, (.val (.long p3)), .second, (.val (.int p4)), (.val (.int p5)), (.val (.long c1)), .second, (.val (.long s1)), .second, (.val (.long d1)), .second, (.val (.long ee1)), .second, (.val (.long c2)), .second, (.val (.int ss)), (.val (.long s2)), .second, (.val (.int ds)), (.val (.long d2)), .second, (.val (.long ee2)), .second, (.val (.int f7)), (.val (.long l1)), .second, (.val (.long nd)), .second, (.val (.long l2)), .second, (.val (.ref b7)), (.val (.ref b9)), (.val (.int (0 : Int32))), (.val (.int (0 : Int32))), (.val (.int (0 : Int32))), (.val (.int (1 : Int32))), (.val (.int (0 : Int32))), (.val (.int (0 : Int32)))] [(.int (1 : Int32))])
                  refine Owes.ret X23 (v := some (.int (1 : Int32))) (fun h => by rw [Bd.returns] at h; cases h) hlk ?_ (by decide) (by decide) (fun fs hr => retN X23 hx (t := .boolean) Bd.returns (by simp) (hb hby at_421) hr)
                  rw [e23]
                  exact ⟨rfl, Fr.app NN N22⟩
              by_cases q1 : l1 = l2
              · skip
                refine Owes.by (fun _ kq => XS.ifNo X10.here hx rfl (hb hby at_292) rfl (XT.ll_ne_f q1) kq) ?_
                show Owes p e below s (QL n0) room_1.cells room_1.slots T10 (mkF m 295 #[(.val (.long p0)), .second, (.val (.long p1)), .second, (.val (.long p2)), .second, (.val (.long p3)), .second, (.val (.int p4)), (.val (.int p5)), (.val (.long c1)), .second, (.val (.long s1)), .second, (.val (.long d1)), .second, (.val (.long ee1)), .second, (.val (.long c2)), .second, (.val (.int ss)), (.val (.long s2)), .second, (.val (.int ds)), (.val (.long d2)), .second, (.val (.long ee2)), .second, (.val (.int f7)), (.val (.long l1)), .second, (.val (.long nd)), .second, (.val (.long l2)), .second, (.val (.ref b7)), (.val (.ref b9)), .unset, .unset, .unset, .unset, .unset, .unset] [])
                refine Owes.by (fun _ kq => XT.lload X10.here hx rfl (hb hby at_295) rfl kq) ?_
                show Owes p e below s (QL n0) room_1.cells room_1.slots T10 (mkF m 297 #[(.val (.long p0)), .second, (.val (.long p1)), .second, (.val (.long p2)), .second, (.val (.long p3)), .second, (.val (.int p4)), (.val (.int p5)), (.val (.long c1)), .second, (.val (.long s1)), .second, (.val (.long d1)), .second, (.val (.long ee1)), .second, (.val (.long c2)), .second, (.val (.int ss)), (.val (.long s2)), .second, (.val (.int ds)), (.val (.long d2)), .second, (.val (.long ee2)), .second, (.val (.int f7)), (.val (.long l1)), .second, (.val (.long nd)), .second, (.val (.long l2)), .second, (.val (.ref b7)), (.val (.ref b9)), .unset, .unset, .unset, .unset, .unset, .unset] [(.long c1)])
                refine Owes.by (fun _ kq => XT.lload X10.here hx rfl (hb hby at_297) rfl kq) ?_
                show Owes p e below s (QL n0) room_1.cells room_1.slots T10 (mkF m 299 #[(.val (.long p0)), .second, (.val (.long p1)), .second, (.val (.long p2)), .second, (.val (.long p3)), .second, (.val (.int p4)), (.val (.int p5)), (.val (.long c1)), .second, (.val (.long s1)), .second, (.val (.long d1)), .second, (.val (.long ee1)), .second, (.val (.long c2)), .second, (.val (.int ss)), (.val (.long s2)), .second, (.val (.int ds)), (.val (.long d2)), .second, (.val (.long ee2)), .second, (.val (.int f7)), (.val (.long l1)), .second, (.val (.long nd)), .second, (.val (.long l2)), .second, (.val (.ref b7)), (.val (.ref b9)), .unset, .unset, .unset, .unset, .unset, .unset] [(.long c2), (.long c1)])
                refine Owes.by (fun _ kq => XT.lcmp X10.here hx rfl (hb hby at_299) rfl kq) ?_
                show Owes p e below s (QL n0) room_1.cells room_1.slots T10 (mkF m 300 #[(.val (.long p0)), .second, (.val (.long p1)), .second, (.val (.long p2)), .second, (.val (.long p3)), .second, (.val (.int p4)), (.val (.int p5)), (.val (.long c1)), .second, (.val (.long s1)), .second, (.val (.long d1)), .second, (.val (.long ee1)), .second, (.val (.long c2)), .second, (.val (.int ss)), (.val (.long s2)), .second, (.val (.int ds)), (.val (.long d2)), .second, (.val (.long ee2)), .second, (.val (.int f7)), (.val (.long l1)), .second, (.val (.long nd)), .second, (.val (.long l2)), .second, (.val (.ref b7)), (.val (.ref b9)), .unset, .unset, .unset, .unset, .unset, .unset] [(.int (XT.cmpL c1 c2))])
                by_cases q2 : c1 = c2
                · skip
                  refine Owes.by (fun _ kq => XS.ifNo X10.here hx rfl (hb hby at_300) rfl (XT.ll_ne_f q2) kq) ?_
                  show Owes p e below s (QL n0) room_1.cells room_1.slots T10 (mkF m 303 #[(.val (.long p0)), .second, (.val (.long p1)), .second, (.val (.long p2)), .second, (.val (.long p3)), .second, (.val (.int p4)), (.val (.int p5)), (.val (.long c1)), .second, (.val (.long s1)), .second, (.val (.long d1)), .second, (.val (.long ee1)), .second, (.val (.long c2)), .second, (.val (.int ss)), (.val (.long s2)), .second, (.val (.int ds)), (.val (.long d2)), .second, (.val (.long ee2)), .second, (.val (.int f7)), (.val (.long l1)), .second, (.val (.long nd)), .second, (.val (.long l2)), .second, (.val (.ref b7)), (.val (.ref b9)), .unset, .unset, .unset, .unset, .unset, .unset] [])
                  refine Owes.by (fun _ kq => XT.lload X10.here hx rfl (hb hby at_303) rfl kq) ?_
                  show Owes p e below s (QL n0) room_1.cells room_1.slots T10 (mkF m 305 #[(.val (.long p0)), .second, (.val (.long p1)), .second, (.val (.long p2)), .second, (.val (.long p3)), .second, (.val (.int p4)), (.val (.int p5)), (.val (.long c1)), .second, (.val (.long s1)), .second, (.val (.long d1)), .second, (.val (.long ee1)), .second, (.val (.long c2)), .second, (.val (.int ss)), (.val (.long s2)), .second, (.val (.int ds)), (.val (.long d2)), .second, (.val (.long ee2)), .second, (.val (.int f7)), (.val (.long l1)), .second, (.val (.long nd)), .second, (.val (.long l2)), .second, (.val (.ref b7)), (.val (.ref b9)), .unset, .unset, .unset, .unset, .unset, .unset] [(.long c1)])
                  refine Owes.by (fun _ kq => XT.lconst X10.here hx rfl (hb hby at_305) kq) ?_
                  show Owes p e below s (QL n0) room_1.cells room_1.slots T10 (mkF m 306 #[(.val (.long p0)), .second, (.val (.long p1)), .second, (.val (.long p2)), .second, (.val (.long p3)), .second, (.val (.int p4)), (.val (.int p5)), (.val (.long c1)), .second, (.val (.long s1)), .second, (.val (.long d1)), .second, (.val (.long ee1)), .second, (.val (.long c2)), .second, (.val (.int ss)), (.val (.long s2)), .second, (.val (.int ds)), (.val (.long d2)), .second, (.val (.long ee2)), .second, (.val (.int f7)), (.val (.long l1)), .second, (.val (.long nd)), .second, (.val (.long l2)), .second, (.val (.ref b7)), (.val (.ref b9)), .unset, .unset, .unset, .unset, .unset, .unset] [(.long (0 : Int64)), (.long c1)])
                  refine Owes.by (fun _ kq => XT.lcmp X10.here hx rfl (hb hby at_306) rfl kq) ?_
                  show Owes p e below s (QL n0) room_1.cells room_1.slots T10 (mkF m 307 #[(.val (.long p0)), .second, (.val (.long p1)), .second, (.val (.long p2)), .second, (.val (.long p3)), .second, (.val (.int p4)), (.val (.int p5)), (.val (.long c1)), .second, (.val (.long s1)), .second, (.val (.long d1)), .second, (.val (.long ee1)), .second, (.val (.long c2)), .second, (.val (.int ss)), (.val (.long s2)), .second, (.val (.int ds)), (.val (.long d2)), .second, (.val (.long ee2)), .second, (.val (.int f7)), (.val (.long l1)), .second, (.val (.long nd)), .second, (.val (.long l2)), .second, (.val (.ref b7)), (.val (.ref b9)), .unset, .unset, .unset, .unset, .unset, .unset] [(.int (XT.cmpL c1 (0 : Int64)))])
                  by_cases q3 : c1 = (0 : Int64)
                  · skip
                    refine Owes.by (fun _ kq => XS.ifYes X10.here hx rfl (pc0 := 307) (pc' := 333) rfl (hb hby at_307) rfl (XT.ll_eq_t q3) (by decide) (by decide) kq) ?_
                    show Owes p e below s (QL n0) room_1.cells room_1.slots T10 (mkF m 333 #[(.val (.long p0)), .second, (.val (.long p1)), .second, (.val (.long p2)), .second, (.val (.long p3)), .second, (.val (.int p4)), (.val (.int p5)), (.val (.long c1)), .second, (.val (.long s1)), .second, (.val (.long d1)), .second, (.val (.long ee1)), .second, (.val (.long c2)), .second, (.val (.int ss)), (.val (.long s2)), .second, (.val (.int ds)), (.val (.long d2)), .second, (.val (.long ee2)), .second, (.val (.int f7)), (.val (.long l1)), .second, (.val (.long nd)), .second, (.val (.long l2)), .second, (.val (.ref b7)), (.val (.ref b9)), .unset, .unset, .unset, .unset, .unset, .unset] [])
                    refine Owes.by (fun _ kq => XS.iconst X10.here hx rfl (hb hby at_333) kq) ?_
                    show Owes p e below s (QL n0) room_1.cells room_1.slots T10 (mkF m 334 #[(.val (.long p0)), .second, (.val (.long p1)), .second, (.val (.long p2)), .second, (.val (.long p3)), .second, (.val (.int p4)), (.val (.int p5)), (.val (.long c1)), .second, (.val (.long s1)), .second, (.val (.long d1)), .second, (.val (.long ee1)), .second, (.val (.long c2)), .second, (.val (.int ss)), (.val (.long s2)), .second, (.val (.int ds)), (.val (.long d2)), .second, (.val (.long ee2)), .second, (.val (.int f7)), (.val (.long l1)), .second, (.val (.long nd)), .second, (.val (.long l2)), .second, (.val (.ref b7)), (.val (.ref b9)), .unset, .unset, .unset, .unset, .unset, .unset] [(.int (1 : Int32))])
                    refine Owes.by (fun _ kq => XS.goto X10.here hx rfl (pc0 := 334) (pc' := 338) rfl (hb hby at_334) (by decide) (by decide) kq) ?_
                    show Owes p e below s (QL n0) room_1.cells room_1.slots T10 (mkF m 338 #[(.val (.long p0)), .second, (.val (.long p1)), .second, (.val (.long p2)), .second, (.val (.long p3)), .second, (.val (.int p4)), (.val (.int p5)), (.val (.long c1)), .second, (.val (.long s1)), .second, (.val (.long d1)), .second, (.val (.long ee1)), .second, (.val (.long c2)), .second, (.val (.int ss)), (.val (.long s2)), .second, (.val (.int ds)), (.val (.long d2)), .second, (.val (.long ee2)), .second, (.val (.int f7)), (.val (.long l1)), .second, (.val (.long nd)), .second, (.val (.long l2)), .second, (.val (.ref b7)), (.val (.ref b9)), .unset, .unset, .unset, .unset, .unset, .unset] [(.int (1 : Int32))])
                    exact J11 T10 X10 (rfl : T10.heap = T10.heap) (1 : Int32) (Or.inl ⟨⟨q1, q2, Or.inl q3⟩, rfl⟩)
                  · skip
                    refine Owes.by (fun _ kq => XS.ifNo X10.here hx rfl (hb hby at_307) rfl (XT.ll_eq_f q3) kq) ?_
                    show Owes p e below s (QL n0) room_1.cells room_1.slots T10 (mkF m 310 #[(.val (.long p0)), .second, (.val (.long p1)), .second, (.val (.long p2)), .second, (.val (.long p3)), .second, (.val (.int p4)), (.val (.int p5)), (.val (.long c1)), .second, (.val (.long s1)), .second, (.val (.long d1)), .second, (.val (.long ee1)), .second, (.val (.long c2)), .second, (.val (.int ss)), (.val (.long s2)), .second, (.val (.int ds)), (.val (.long d2)), .second, (.val (.long ee2)), .second, (.val (.int f7)), (.val (.long l1)), .second, (.val (.long nd)), .second, (.val (.long l2)), .second, (.val (.ref b7)), (.val (.ref b9)), .unset, .unset, .unset, .unset, .unset, .unset] [])
                    refine Owes.by (fun _ kq => XT.lload X10.here hx rfl (hb hby at_310) rfl kq) ?_
                    show Owes p e below s (QL n0) room_1.cells room_1.slots T10 (mkF m 312 #[(.val (.long p0)), .second, (.val (.long p1)), .second, (.val (.long p2)), .second, (.val (.long p3)), .second, (.val (.int p4)), (.val (.int p5)), (.val (.long c1)), .second, (.val (.long s1)), .second, (.val (.long d1)), .second, (.val (.long ee1)), .second, (.val (.long c2)), .second, (.val (.int ss)), (.val (.long s2)), .second, (.val (.int ds)), (.val (.long d2)), .second, (.val (.long ee2)), .second, (.val (.int f7)), (.val (.long l1)), .second, (.val (.long nd)), .second, (.val (.long l2)), .second, (.val (.ref b7)), (.val (.ref b9)), .unset, .unset, .unset, .unset, .unset, .unset] [(.long s1)])
                    refine Owes.by (fun _ kq => XT.lload X10.here hx rfl (hb hby at_312) rfl kq) ?_
                    show Owes p e below s (QL n0) room_1.cells room_1.slots T10 (mkF m 314 #[(.val (.long p0)), .second, (.val (.long p1)), .second, (.val (.long p2)), .second, (.val (.long p3)), .second, (.val (.int p4)), (.val (.int p5)), (.val (.long c1)), .second, (.val (.long s1)), .second, (.val (.long d1)), .second, (.val (.long ee1)), .second, (.val (.long c2)), .second, (.val (.int ss)), (.val (.long s2)), .second, (.val (.int ds)), (.val (.long d2)), .second, (.val (.long ee2)), .second, (.val (.int f7)), (.val (.long l1)), .second, (.val (.long nd)), .second, (.val (.long l2)), .second, (.val (.ref b7)), (.val (.ref b9)), .unset, .unset, .unset, .unset, .unset, .unset] [(.long s2), (.long s1)])
                    refine Owes.by (fun _ kq => XT.lcmp X10.here hx rfl (hb hby at_314) rfl kq) ?_
                    show Owes p e below s (QL n0) room_1.cells room_1.slots T10 (mkF m 315 #[(.val (.long p0)), .second, (.val (.long p1)), .second, (.val (.long p2)), .second, (.val (.long p3)), .second, (.val (.int p4)), (.val (.int p5)), (.val (.long c1)), .second, (.val (.long s1)), .second, (.val (.long d1)), .second, (.val (.long ee1)), .second, (.val (.long c2)), .second, (.val (.int ss)), (.val (.long s2)), .second, (.val (.int ds)), (.val (.long d2)), .second, (.val (.long ee2)), .second, (.val (.int f7)), (.val (.long l1)), .second, (.val (.long nd)), .second, (.val (.long l2)), .second, (.val (.ref b7)), (.val (.ref b9)), .unset, .unset, .unset, .unset, .unset, .unset] [(.int (XT.cmpL s1 s2))])
                    by_cases q4 : s1 = s2
                    · skip
                      refine Owes.by (fun _ kq => XS.ifNo X10.here hx rfl (hb hby at_315) rfl (XT.ll_ne_f q4) kq) ?_
                      show Owes p e below s (QL n0) room_1.cells room_1.slots T10 (mkF m 318 #[(.val (.long p0)), .second, (.val (.long p1)), .second, (.val (.long p2)), .second, (.val (.long p3)), .second, (.val (.int p4)), (.val (.int p5)), (.val (.long c1)), .second, (.val (.long s1)), .second, (.val (.long d1)), .second, (.val (.long ee1)), .second, (.val (.long c2)), .second, (.val (.int ss)), (.val (.long s2)), .second, (.val (.int ds)), (.val (.long d2)), .second, (.val (.long ee2)), .second, (.val (.int f7)), (.val (.long l1)), .second, (.val (.long nd)), .second, (.val (.long l2)), .second, (.val (.ref b7)), (.val (.ref b9)), .unset, .unset, .unset, .unset, .unset, .unset] [])
                      refine Owes.by (fun _ kq => XT.lload X10.here hx rfl (hb hby at_318) rfl kq) ?_
                      show Owes p e below s (QL n0) room_1.cells room_1.slots T10 (mkF m 320 #[(.val (.long p0)), .second, (.val (.long p1)), .second, (.val (.long p2)), .second, (.val (.long p3)), .second, (.val (.int p4)), (.val (.int p5)), (.val (.long c1)), .second, (.val (.long s1)), .second, (.val (.long d1)), .second, (.val (.long ee1)), .second, (.val (.long c2)), .second, (.val (.int ss)), (.val (.long s2)), .second, (.val (.int ds)), (.val (.long d2)), .second, (.val (.long ee2)), .second, (.val (.int f7)), (.val (.long l1)), .second, (.val (.long nd)), .second, (.val (.long l2)), .second, (.val (.ref b7)), (.val (.ref b9)), .unset, .unset, .unset, .unset, .unset, .unset] [(.long c1)])
                      refine Owes.by (fun _ kq => XT.lconst X10.here hx rfl (hb hby at_320) kq) ?_
                      show Owes p e below s (QL n0) room_1.cells room_1.slots T10 (mkF m 321 #[(.val (.long p0)), .second, (.val (.long p1)), .second, (.val (.long p2)), .second, (.val (.long p3)), .second, (.val (.int p4)), (.val (.int p5)), (.val (.long c1)), .second, (.val (.long s1)), .second, (.val (.long d1)), .second, (.val (.long ee1)), .second, (.val (.long c2)), .second, (.val (.int ss)), (.val (.long s2)), .second, (.val (.int ds)), (.val (.long d2)), .second, (.val (.long ee2)), .second, (.val (.int f7)), (.val (.long l1)), .second, (.val (.long nd)), .second, (.val (.long l2)), .second, (.val (.ref b7)), (.val (.ref b9)), .unset, .unset, .unset, .unset, .unset, .unset] [(.long (1 : Int64)), (.long c1)])
                      refine Owes.by (fun _ kq => XT.lcmp X10.here hx rfl (hb hby at_321) rfl kq) ?_
                      show Owes p e below s (QL n0) room_1.cells room_1.slots T10 (mkF m 322 #[(.val (.long p0)), .second, (.val (.long p1)), .second, (.val (.long p2)), .second, (.val (.long p3)), .second, (.val (.int p4)), (.val (.int p5)), (.val (.long c1)), .second, (.val (.long s1)), .second, (.val (.long d1)), .second, (.val (.long ee1)), .second, (.val (.long c2)), .second, (.val (.int ss)), (.val (.long s2)), .second, (.val (.int ds)), (.val (.long d2)), .second, (.val (.long ee2)), .second, (.val (.int f7)), (.val (.long l1)), .second, (.val (.long nd)), .second, (.val (.long l2)), .second, (.val (.ref b7)), (.val (.ref b9)), .unset, .unset, .unset, .unset, .unset, .unset] [(.int (XT.cmpL c1 (1 : Int64)))])
                      by_cases q5 : c1 = (1 : Int64)
                      · skip
                        refine Owes.by (fun _ kq => XS.ifYes X10.here hx rfl (pc0 := 322) (pc' := 333) rfl (hb hby at_322) rfl (XT.ll_eq_t q5) (by decide) (by decide) kq) ?_
                        show Owes p e below s (QL n0) room_1.cells room_1.slots T10 (mkF m 333 #[(.val (.long p0)), .second, (.val (.long p1)), .second, (.val (.long p2)), .second, (.val (.long p3)), .second, (.val (.int p4)), (.val (.int p5)), (.val (.long c1)), .second, (.val (.long s1)), .second, (.val (.long d1)), .second, (.val (.long ee1)), .second, (.val (.long c2)), .second, (.val (.int ss)), (.val (.long s2)), .second, (.val (.int ds)), (.val (.long d2)), .second, (.val (.long ee2)), .second, (.val (.int f7)), (.val (.long l1)), .second, (.val (.long nd)), .second, (.val (.long l2)), .second, (.val (.ref b7)), (.val (.ref b9)), .unset, .unset, .unset, .unset, .unset, .unset] [])
                        refine Owes.by (fun _ kq => XS.iconst X10.here hx rfl (hb hby at_333) kq) ?_
                        show Owes p e below s (QL n0) room_1.cells room_1.slots T10 (mkF m 334 #[(.val (.long p0)), .second, (.val (.long p1)), .second, (.val (.long p2)), .second, (.val (.long p3)), .second, (.val (.int p4)), (.val (.int p5)), (.val (.long c1)), .second, (.val (.long s1)), .second, (.val (.long d1)), .second, (.val (.long ee1)), .second, (.val (.long c2)), .second, (.val (.int ss)), (.val (.long s2)), .second, (.val (.int ds)), (.val (.long d2)), .second, (.val (.long ee2)), .second, (.val (.int f7)), (.val (.long l1)), .second, (.val (.long nd)), .second, (.val (.long l2)), .second, (.val (.ref b7)), (.val (.ref b9)), .unset, .unset, .unset, .unset, .unset, .unset] [(.int (1 : Int32))])
                        refine Owes.by (fun _ kq => XS.goto X10.here hx rfl (pc0 := 334) (pc' := 338) rfl (hb hby at_334) (by decide) (by decide) kq) ?_
                        show Owes p e below s (QL n0) room_1.cells room_1.slots T10 (mkF m 338 #[(.val (.long p0)), .second, (.val (.long p1)), .second, (.val (.long p2)), .second, (.val (.long p3)), .second, (.val (.int p4)), (.val (.int p5)), (.val (.long c1)), .second, (.val (.long s1)), .second, (.val (.long d1)), .second, (.val (.long ee1)), .second, (.val (.long c2)), .second, (.val (.int ss)), (.val (.long s2)), .second, (.val (.int ds)), (.val (.long d2)), .second, (.val (.long ee2)), .second, (.val (.int f7)), (.val (.long l1)), .second, (.val (.long nd)), .second, (.val (.long l2)), .second, (.val (.ref b7)), (.val (.ref b9)), .unset, .unset, .unset, .unset, .unset, .unset] [(.int (1 : Int32))])
                        exact J11 T10 X10 (rfl : T10.heap = T10.heap) (1 : Int32) (Or.inl ⟨⟨q1, q2, Or.inr ⟨q4, Or.inl q5⟩⟩, rfl⟩)
                      · skip
                        refine Owes.by (fun _ kq => XS.ifNo X10.here hx rfl (hb hby at_322) rfl (XT.ll_eq_f q5) kq) ?_
                        show Owes p e below s (QL n0) room_1.cells room_1.slots T10 (mkF m 325 #[(.val (.long p0)), .second, (.val (.long p1)), .second, (.val (.long p2)), .second, (.val (.long p3)), .second, (.val (.int p4)), (.val (.int p5)), (.val (.long c1)), .second, (.val (.long s1)), .second, (.val (.long d1)), .second, (.val (.long ee1)), .second, (.val (.long c2)), .second, (.val (.int ss)), (.val (.long s2)), .second, (.val (.int ds)), (.val (.long d2)), .second, (.val (.long ee2)), .second, (.val (.int f7)), (.val (.long l1)), .second, (.val (.long nd)), .second, (.val (.long l2)), .second, (.val (.ref b7)), (.val (.ref b9)), .unset, .unset, .unset, .unset, .unset, .unset] [])
                        refine Owes.by (fun _ kq => XT.lload X10.here hx rfl (hb hby at_325) rfl kq) ?_
                        show Owes p e below s (QL n0) room_1.cells room_1.slots T10 (mkF m 327 #[(.val (.long p0)), .second, (.val (.long p1)), .second, (.val (.long p2)), .second, (.val (.long p3)), .second, (.val (.int p4)), (.val (.int p5)), (.val (.long c1)), .second, (.val (.long s1)), .second, (.val (.long d1)), .second, (.val (.long ee1)), .second, (.val (.long c2)), .second, (.val (.int ss)), (.val (.long s2)), .second, (.val (.int ds)), (.val (.long d2)), .second, (.val (.long ee2)), .second, (.val (.int f7)), (.val (.long l1)), .second, (.val (.long nd)), .second, (.val (.long l2)), .second, (.val (.ref b7)), (.val (.ref b9)), .unset, .unset, .unset, .unset, .unset, .unset] [(.long d1)])
                        refine Owes.by (fun _ kq => XT.lload X10.here hx rfl (hb hby at_327) rfl kq) ?_
                        show Owes p e below s (QL n0) room_1.cells room_1.slots T10 (mkF m 329 #[(.val (.long p0)), .second, (.val (.long p1)), .second, (.val (.long p2)), .second, (.val (.long p3)), .second, (.val (.int p4)), (.val (.int p5)), (.val (.long c1)), .second, (.val (.long s1)), .second, (.val (.long d1)), .second, (.val (.long ee1)), .second, (.val (.long c2)), .second, (.val (.int ss)), (.val (.long s2)), .second, (.val (.int ds)), (.val (.long d2)), .second, (.val (.long ee2)), .second, (.val (.int f7)), (.val (.long l1)), .second, (.val (.long nd)), .second, (.val (.long l2)), .second, (.val (.ref b7)), (.val (.ref b9)), .unset, .unset, .unset, .unset, .unset, .unset] [(.long d2), (.long d1)])
                        refine Owes.by (fun _ kq => XT.lcmp X10.here hx rfl (hb hby at_329) rfl kq) ?_
                        show Owes p e below s (QL n0) room_1.cells room_1.slots T10 (mkF m 330 #[(.val (.long p0)), .second, (.val (.long p1)), .second, (.val (.long p2)), .second, (.val (.long p3)), .second, (.val (.int p4)), (.val (.int p5)), (.val (.long c1)), .second, (.val (.long s1)), .second, (.val (.long d1)), .second, (.val (.long ee1)), .second, (.val (.long c2)), .second, (.val (.int ss)), (.val (.long s2)), .second, (.val (.int ds)), (.val (.long d2)), .second, (.val (.long ee2)), .second, (.val (.int f7)), (.val (.long l1)), .second, (.val (.long nd)), .second, (.val (.long l2)), .second, (.val (.ref b7)), (.val (.ref b9)), .unset, .unset, .unset, .unset, .unset, .unset] [(.int (XT.cmpL d1 d2))])
                        by_cases q6 : d1 = d2
                        · skip
                          refine Owes.by (fun _ kq => XS.ifNo X10.here hx rfl (hb hby at_330) rfl (XT.ll_ne_f q6) kq) ?_
                          show Owes p e below s (QL n0) room_1.cells room_1.slots T10 (mkF m 333 #[(.val (.long p0)), .second, (.val (.long p1)), .second, (.val (.long p2)), .second, (.val (.long p3)), .second, (.val (.int p4)), (.val (.int p5)), (.val (.long c1)), .second, (.val (.long s1)), .second, (.val (.long d1)), .second, (.val (.long ee1)), .second, (.val (.long c2)), .second, (.val (.int ss)), (.val (.long s2)), .second, (.val (.int ds)), (.val (.long d2)), .second, (.val (.long ee2)), .second, (.val (.int f7)), (.val (.long l1)), .second, (.val (.long nd)), .second, (.val (.long l2)), .second, (.val (.ref b7)), (.val (.ref b9)), .unset, .unset, .unset, .unset, .unset, .unset] [])
                          refine Owes.by (fun _ kq => XS.iconst X10.here hx rfl (hb hby at_333) kq) ?_
                          show Owes p e below s (QL n0) room_1.cells room_1.slots T10 (mkF m 334 #[(.val (.long p0)), .second, (.val (.long p1)), .second, (.val (.long p2)), .second, (.val (.long p3)), .second, (.val (.int p4)), (.val (.int p5)), (.val (.long c1)), .second, (.val (.long s1)), .second, (.val (.long d1)), .second, (.val (.long ee1)), .second, (.val (.long c2)), .second, (.val (.int ss)), (.val (.long s2)), .second, (.val (.int ds)), (.val (.long d2)), .second, (.val (.long ee2)), .second, (.val (.int f7)), (.val (.long l1)), .second, (.val (.long nd)), .second, (.val (.long l2)), .second, (.val (.ref b7)), (.val (.ref b9)), .unset, .unset, .unset, .unset, .unset, .unset] [(.int (1 : Int32))])
                          refine Owes.by (fun _ kq => XS.goto X10.here hx rfl (pc0 := 334) (pc' := 338) rfl (hb hby at_334) (by decide) (by decide) kq) ?_
                          show Owes p e below s (QL n0) room_1.cells room_1.slots T10 (mkF m 338 #[(.val (.long p0)), .second, (.val (.long p1)), .second, (.val (.long p2)), .second, (.val (.long p3)), .second, (.val (.int p4)), (.val (.int p5)), (.val (.long c1)), .second, (.val (.long s1)), .second, (.val (.long d1)), .second, (.val (.long ee1)), .second, (.val (.long c2)), .second, (.val (.int ss)), (.val (.long s2)), .second, (.val (.int ds)), (.val (.long d2)), .second, (.val (.long ee2)), .second, (.val (.int f7)), (.val (.long l1)), .second, (.val (.long nd)), .second, (.val (.long l2)), .second, (.val (.ref b7)), (.val (.ref b9)), .unset, .unset, .unset, .unset, .unset, .unset] [(.int (1 : Int32))])
                          exact J11 T10 X10 (rfl : T10.heap = T10.heap) (1 : Int32) (Or.inl ⟨⟨q1, q2, Or.inr ⟨q4, Or.inr q6⟩⟩, rfl⟩)
                        · skip
                          refine Owes.by (fun _ kq => XS.ifYes X10.here hx rfl (pc0 := 330) (pc' := 337) rfl (hb hby at_330) rfl (XT.ll_ne_t q6) (by decide) (by decide) kq) ?_
                          show Owes p e below s (QL n0) room_1.cells room_1.slots T10 (mkF m 337 #[(.val (.long p0)), .second, (.val (.long p1)), .second, (.val (.long p2)), .second, (.val (.long p3)), .second, (.val (.int p4)), (.val (.int p5)), (.val (.long c1)), .second, (.val (.long s1)), .second, (.val (.long d1)), .second, (.val (.long ee1)), .second, (.val (.long c2)), .second, (.val (.int ss)), (.val (.long s2)), .second, (.val (.int ds)), (.val (.long d2)), .second, (.val (.long ee2)), .second, (.val (.int f7)), (.val (.long l1)), .second, (.val (.long nd)), .second, (.val (.long l2)), .second, (.val (.ref b7)), (.val (.ref b9)), .unset, .unset, .unset, .unset, .unset, .unset] [])
                          refine Owes.by (fun _ kq => XS.iconst X10.here hx rfl (hb hby at_337) kq) ?_
                          show Owes p e below s (QL n0) room_1.cells room_1.slots T10 (mkF m 338 #[(.val (.long p0)), .second, (.val (.long p1)), .second, (.val (.long p2)), .second, (.val (.long p3)), .second, (.val (.int p4)), (.val (.int p5)), (.val (.long c1)), .second, (.val (.long s1)), .second, (.val (.long d1)), .second, (.val (.long ee1)), .second, (.val (.long c2)), .second, (.val (.int ss)), (.val (.long s2)), .second, (.val (.int ds)), (.val (.long d2)), .second, (.val (.long ee2)), .second, (.val (.int f7)), (.val (.long l1)), .second, (.val (.long nd)), .second, (.val (.long l2)), .second, (.val (.ref b7)), (.val (.ref b9)), .unset, .unset, .unset, .unset, .unset, .unset] [(.int (0 : Int32))])
                          exact J11 T10 X10 (rfl : T10.heap = T10.heap) (0 : Int32) (Or.inr ⟨fun h => h.2.2.elim q3 fun y => y.2.elim q5 q6, rfl⟩)
                    · skip
                      refine Owes.by (fun _ kq => XS.ifYes X10.here hx rfl (pc0 := 315) (pc' := 337) rfl (hb hby at_315) rfl (XT.ll_ne_t q4) (by decide) (by decide) kq) ?_
                      show Owes p e below s (QL n0) room_1.cells room_1.slots T10 (mkF m 337 #[(.val (.long p0)), .second, (.val (.long p1)), .second, (.val (.long p2)), .second, (.val (.long p3)), .second, (.val (.int p4)), (.val (.int p5)), (.val (.long c1)), .second, (.val (.long s1)), .second, (.val (.long d1)), .second, (.val (.long ee1)), .second, (.val (.long c2)), .second, (.val (.int ss)), (.val (.long s2)), .second, (.val (.int ds)), (.val (.long d2)), .second, (.val (.long ee2)), .second, (.val (.int f7)), (.val (.long l1)), .second, (.val (.long nd)), .second, (.val (.long l2)), .second, (.val (.ref b7)), (.val (.ref b9)), .unset, .unset, .unset, .unset, .unset, .unset] [])
                      refine Owes.by (fun _ kq => XS.iconst X10.here hx rfl (hb hby at_337) kq) ?_
                      show Owes p e below s (QL n0) room_1.cells room_1.slots T10 (mkF m 338 #[(.val (.long p0)), .second, (.val (.long p1)), .second, (.val (.long p2)), .second, (.val (.long p3)), .second, (.val (.int p4)), (.val (.int p5)), (.val (.long c1)), .second, (.val (.long s1)), .second, (.val (.long d1)), .second, (.val (.long ee1)), .second, (.val (.long c2)), .second, (.val (.int ss)), (.val (.long s2)), .second, (.val (.int ds)), (.val (.long d2)), .second, (.val (.long ee2)), .second, (.val (.int f7)), (.val (.long l1)), .second, (.val (.long nd)), .second, (.val (.long l2)), .second, (.val (.ref b7)), (.val (.ref b9)), .unset, .unset, .unset, .unset, .unset, .unset] [(.int (0 : Int32))])
                      exact J11 T10 X10 (rfl : T10.heap = T10.heap) (0 : Int32) (Or.inr ⟨fun h => h.2.2.elim q3 fun y => q4 y.1, rfl⟩)
                · skip
                  refine Owes.by (fun _ kq => XS.ifYes X10.here hx rfl (pc0 := 300) (pc' := 337) rfl (hb hby at_300) rfl (XT.ll_ne_t q2) (by decide) (by decide) kq) ?_
                  show Owes p e below s (QL n0) room_1.cells room_1.slots T10 (mkF m 337 #[(.val (.long p0)), .second, (.val (.long p1)), .second, (.val (.long p2)), .second, (.val (.long p3)), .second, (.val (.int p4)), (.val (.int p5)), (.val (.long c1)), .second, (.val (.long s1)), .second, (.val (.long d1)), .second, (.val (.long ee1)), .second, (.val (.long c2)), .second, (.val (.int ss)), (.val (.long s2)), .second, (.val (.int ds)), (.val (.long d2)), .second, (.val (.long ee2)), .second, (.val (.int f7)), (.val (.long l1)), .second, (.val (.long nd)), .second, (.val (.long l2)), .second, (.val (.ref b7)), (.val (.ref b9)), .unset, .unset, .unset, .unset, .unset, .unset] [])
                  refine Owes.by (fun _ kq => XS.iconst X10.here hx rfl (hb hby at_337) kq) ?_
                  show Owes p e below s (QL n0) room_1.cells room_1.slots T10 (mkF m 338 #[(.val (.long p0)), .second, (.val (.long p1)), .second, (.val (.long p2)), .second, (.val (.long p3)), .second, (.val (.int p4)), (.val (.int p5)), (.val (.long c1)), .second, (.val (.long s1)), .second, (.val (.long d1)), .second, (.val (.long ee1)), .second, (.val (.long c2)), .second, (.val (.int ss)), (.val (.long s2)), .second, (.val (.int ds)), (.val (.long d2)), .second, (.val (.long ee2)), .second, (.val (.int f7)), (.val (.long l1)), .second, (.val (.long nd)), .second, (.val (.long l2)), .second, (.val (.ref b7)), (.val (.ref b9)), .unset, .unset, .unset, .unset, .unset, .unset] [(.int (0 : Int32))])
                  exact J11 T10 X10 (rfl : T10.heap = T10.heap) (0 : Int32) (Or.inr ⟨fun h => q2 h.2.1, rfl⟩)
              · skip
                refine Owes.by (fun _ kq => XS.ifYes X10.here hx rfl (pc0 := 292) (pc' := 337) rfl (hb hby at_292) rfl (XT.ll_ne_t q1) (by decide) (by decide) kq) ?_
                show Owes p e below s (QL n0) room_1.cells room_1.slots T10 (mkF m 337 #[(.val (.long p0)), .second, (.val (.long p1)), .second, (.val (.long p2)), .second, (.val (.long p3)), .second, (.val (.int p4)), (.val (.int p5)), (.val (.long c1)), .second, (.val (.long s1)), .second, (.val (.long d1)), .second, (.val (.long ee1)), .second, (.val (.long c2)), .second, (.val (.int ss)), (.val (.long s2)), .second, (.val (.int ds)), (.val (.long d2)), .second, (.val (.long ee2)), .second, (.val (.int f7)), (.val (.long l1)), .second, (.val (.long nd)), .second, (.val (.long l2)), .second, (.val (.ref b7)), (.val (.ref b9)), .unset, .unset, .unset, .unset, .unset, .unset] [])
                refine Owes.by (fun _ kq => XS.iconst X10.here hx rfl (hb hby at_337) kq) ?_
                show Owes p e below s (QL n0) room_1.cells room_1.slots T10 (mkF m 338 #[(.val (.long p0)), .second, (.val (.long p1)), .second, (.val (.long p2)), .second, (.val (.long p3)), .second, (.val (.int p4)), (.val (.int p5)), (.val (.long c1)), .second, (.val (.long s1)), .second, (.val (.long d1)), .second, (.val (.long ee1)), .second, (.val (.long c2)), .second, (.val (.int ss)), (.val (.long s2)), .second, (.val (.int ds)), (.val (.long d2)), .second, (.val (.long ee2)), .second, (.val (.int f7)), (.val (.long l1)), .second, (.val (.long nd)), .second, (.val (.long l2)), .second, (.val (.ref b7)), (.val (.ref b9)), .unset, .unset, .unset, .unset, .unset, .unset] [(.int (0 : Int32))])
                exact J11 T10 X10 (rfl : T10.heap = T10.heap) (0 : Int32) (Or.inr ⟨fun h => q1 h.1, rfl⟩)
            by_cases q : c2 = (0 : Int64)
            · skip
              refine Owes.by (fun _ kq => XS.ifNo X5.here hx rfl (hb hby at_224) rfl (XT.ll_ne_f q) kq) ?_
              show Owes p e below s (QL n0) room_1.cells room_1.slots T5 (mkF m 227 #[(.val (.long p0)), .second, (.val (.long p1)), .second, (.val (.long p2)), .second, (.val (.long p3)), .second, (.val (.int p4)), (.val (.int p5)), (.val (.long c1)), .second, (.val (.long s1)), .second, (.val (.long d1)), .second, (.val (.long ee1)), .second, (.val (.long c2)), .second, (.val (.int ss)), (.val (.long s2)), .second, (.val (.int ds)), (.val (.long d2)), .second, (.val (.long ee2)), .second, (.val (.int f7)), (.val (.long l1)), .second, (.val (.long nd)), .second, .unset, .unset, .unset, .unset, .unset, .unset, .unset, .unset, .unset, .unset] [])
              refine Owes.by (fun _ kq => XT.lconst X5.here hx rfl (hb hby at_227) kq) ?_
              show Owes p e below s (QL n0) room_1.cells room_1.slots T5 (mkF m 228 #[(.val (.long p0)), .second, (.val (.long p1)), .second, (.val (.long p2)), .second, (.val (.long p3)), .second, (.val (.int p4)), (.val (.int p5)), (.val (.long c1)), .second, (.val (.long s1)), .second, (.val (.long d1)), .second, (.val (.long ee1)), .second, (.val (.long c2)), .second, (.val (.int ss)), (.val (.long s2)), .second, (.val (.int ds)), (.val (.long d2)), .second, (.val (.long ee2)), .second, (.val (.int f7)), (.val (.long l1)), .second, (.val (.long nd)), .second, .unset, .unset, .unset, .unset, .unset, .unset, .unset, .unset, .unset, .unset] [(.long (0 : Int64))])
              refine Owes.by (fun _ kq => XS.goto X5.here hx rfl (pc0 := 228) (pc' := 251) rfl (hb hby at_228) (by decide) (by decide) kq) ?_
              show Owes p e below s (QL n0) room_1.cells room_1.slots T5 (mkF m 251 #[(.val (.long p0)), .second, (.val (.long p1)), .second, (.val (.long p2)), .second, (.val (.long p3)), .second, (.val (.int p4)), (.val (.int p5)), (.val (.long c1)), .second, (.val (.long s1)), .second, (.val (.long d1)), .second, (.val (.long ee1)), .second, (.val (.long c2)), .second, (.val (.int ss)), (.val (.long s2)), .second, (.val (.int ds)), (.val (.long d2)), .second, (.val (.long ee2)), .second, (.val (.int f7)), (.val (.long l1)), .second, (.val (.long nd)), .second, .unset, .unset, .unset, .unset, .unset, .unset, .unset, .unset, .unset, .unset] [(.long (0 : Int64))])
              exact J6 T5 X5 e5 (0 : Int64) (own_ok_zero h_s2.1 h_d2.1 q)
            · skip
              refine Owes.by (fun _ kq => XS.ifYes X5.here hx rfl (pc0 := 224) (pc' := 231) rfl (hb hby at_224) rfl (XT.ll_ne_t q) (by decide) (by decide) kq) ?_
              show Owes p e below s (QL n0) room_1.cells room_1.slots T5 (mkF m 231 #[(.val (.long p0)), .second, (.val (.long p1)), .second, (.val (.long p2)), .second, (.val (.long p3)), .second, (.val (.int p4)), (.val (.int p5)), (.val (.long c1)), .second, (.val (.long s1)), .second, (.val (.long d1)), .second, (.val (.long ee1)), .second, (.val (.long c2)), .second, (.val (.int ss)), (.val (.long s2)), .second, (.val (.int ds)), (.val (.long d2)), .second, (.val (.long ee2)), .second, (.val (.int f7)), (.val (.long l1)), .second, (.val (.long nd)), .second, .unset, .unset, .unset, .unset, .unset, .unset, .unset, .unset, .unset, .unset] [])
              refine Owes.by (fun _ kq => XS.iload X5.here hx rfl (hb hby at_231) rfl kq) ?_
              show Owes p e below s (QL n0) room_1.cells room_1.slots T5 (mkF m 233 #[(.val (.long p0)), .second, (.val (.long p1)), .second, (.val (.long p2)), .second, (.val (.long p3)), .second, (.val (.int p4)), (.val (.int p5)), (.val (.long c1)), .second, (.val (.long s1)), .second, (.val (.long d1)), .second, (.val (.long ee1)), .second, (.val (.long c2)), .second, (.val (.int ss)), (.val (.long s2)), .second, (.val (.int ds)), (.val (.long d2)), .second, (.val (.long ee2)), .second, (.val (.int f7)), (.val (.long l1)), .second, (.val (.long nd)), .second, .unset, .unset, .unset, .unset, .unset, .unset, .unset, .unset, .unset, .unset] [(.int f7)])
              by_cases q' : f7 = 0
              · skip
                refine Owes.by (fun _ kq => XS.ifYes X5.here hx rfl (pc0 := 233) (pc' := 246) rfl (hb hby at_233) rfl (XT.i0_eq_t q') (by decide) (by decide) kq) ?_
                show Owes p e below s (QL n0) room_1.cells room_1.slots T5 (mkF m 246 #[(.val (.long p0)), .second, (.val (.long p1)), .second, (.val (.long p2)), .second, (.val (.long p3)), .second, (.val (.int p4)), (.val (.int p5)), (.val (.long c1)), .second, (.val (.long s1)), .second, (.val (.long d1)), .second, (.val (.long ee1)), .second, (.val (.long c2)), .second, (.val (.int ss)), (.val (.long s2)), .second, (.val (.int ds)), (.val (.long d2)), .second, (.val (.long ee2)), .second, (.val (.int f7)), (.val (.long l1)), .second, (.val (.long nd)), .second, .unset, .unset, .unset, .unset, .unset, .unset, .unset, .unset, .unset, .unset] [])
                refine Owes.by (fun _ kq => XT.lload X5.here hx rfl (hb hby at_246) rfl kq) ?_
                show Owes p e below s (QL n0) room_1.cells room_1.slots T5 (mkF m 248 #[(.val (.long p0)), .second, (.val (.long p1)), .second, (.val (.long p2)), .second, (.val (.long p3)), .second, (.val (.int p4)), (.val (.int p5)), (.val (.long c1)), .second, (.val (.long s1)), .second, (.val (.long d1)), .second, (.val (.long ee1)), .second, (.val (.long c2)), .second, (.val (.int ss)), (.val (.long s2)), .second, (.val (.int ds)), (.val (.long d2)), .second, (.val (.long ee2)), .second, (.val (.int f7)), (.val (.long l1)), .second, (.val (.long nd)), .second, .unset, .unset, .unset, .unset, .unset, .unset, .unset, .unset, .unset, .unset] [(.long nd)])
                refine Owes.by (fun _ kq => XT.lload X5.here hx rfl (hb hby at_248) rfl kq) ?_
                show Owes p e below s (QL n0) room_1.cells room_1.slots T5 (mkF m 250 #[(.val (.long p0)), .second, (.val (.long p1)), .second, (.val (.long p2)), .second, (.val (.long p3)), .second, (.val (.int p4)), (.val (.int p5)), (.val (.long c1)), .second, (.val (.long s1)), .second, (.val (.long d1)), .second, (.val (.long ee1)), .second, (.val (.long c2)), .second, (.val (.int ss)), (.val (.long s2)), .second, (.val (.int ds)), (.val (.long d2)), .second, (.val (.long ee2)), .second, (.val (.int f7)), (.val (.long l1)), .second, (.val (.long nd)), .second, .unset, .unset, .unset, .unset, .unset, .unset, .unset, .unset, .unset, .unset] [(.long ee2), (.long nd)])
                refine Owes.by (fun _ kq => XT.ladd X5.here hx rfl (hb hby at_250) rfl kq) ?_
                show Owes p e below s (QL n0) room_1.cells room_1.slots T5 (mkF m 251 #[(.val (.long p0)), .second, (.val (.long p1)), .second, (.val (.long p2)), .second, (.val (.long p3)), .second, (.val (.int p4)), (.val (.int p5)), (.val (.long c1)), .second, (.val (.long s1)), .second, (.val (.long d1)), .second, (.val (.long ee1)), .second, (.val (.long c2)), .second, (.val (.int ss)), (.val (.long s2)), .second, (.val (.int ds)), (.val (.long d2)), .second, (.val (.long ee2)), .second, (.val (.int f7)), (.val (.long l1)), .second, (.val (.long nd)), .second, .unset, .unset, .unset, .unset, .unset, .unset, .unset, .unset, .unset, .unset] [(.long (nd + ee2))])
                exact J6 T5 X5 e5 (nd + ee2) (own_l2 h_s2 h_d2 h_c2 h_ee2 (h_nd q))
              · skip
                refine Owes.by (fun _ kq => XS.ifNo X5.here hx rfl (hb hby at_233) rfl (XT.i0_eq_f q') kq) ?_
                show Owes p e below s (QL n0) room_1.cells room_1.slots T5 (mkF m 236 #[(.val (.long p0)), .second, (.val (.long p1)), .second, (.val (.long p2)), .second, (.val (.long p3)), .second, (.val (.int p4)), (.val (.int p5)), (.val (.long c1)), .second, (.val (.long s1)), .second, (.val (.long d1)), .second, (.val (.long ee1)), .second, (.val (.long c2)), .second, (.val (.int ss)), (.val (.long s2)), .second, (.val (.int ds)), (.val (.long d2)), .second, (.val (.long ee2)), .second, (.val (.int f7)), (.val (.long l1)), .second, (.val (.long nd)), .second, .unset, .unset, .unset, .unset, .unset, .unset, .unset, .unset, .unset, .unset] [])
                refine Owes.by (fun _ kq => XT.lload X5.here hx rfl (hb hby at_236) rfl kq) ?_
                show Owes p e below s (QL n0) room_1.cells room_1.slots T5 (mkF m 238 #[(.val (.long p0)), .second, (.val (.long p1)), .second, (.val (.long p2)), .second, (.val (.long p3)), .second, (.val (.int p4)), (.val (.int p5)), (.val (.long c1)), .second, (.val (.long s1)), .second, (.val (.long d1)), .second, (.val (.long ee1)), .second, (.val (.long c2)), .second, (.val (.int ss)), (.val (.long s2)), .second, (.val (.int ds)), (.val (.long d2)), .second, (.val (.long ee2)), .second, (.val (.int f7)), (.val (.long l1)), .second, (.val (.long nd)), .second, .unset, .unset, .unset, .unset, .unset, .unset, .unset, .unset, .unset, .unset] [(.long l1)])
                refine Owes.by (fun _ kq => XT.lload X5.here hx rfl (hb hby at_238) rfl kq) ?_
                show Owes p e below s (QL n0) room_1.cells room_1.slots T5 (mkF m 240 #[(.val (.long p0)), .second, (.val (.long p1)), .second, (.val (.long p2)), .second, (.val (.long p3)), .second, (.val (.int p4)), (.val (.int p5)), (.val (.long c1)), .second, (.val (.long s1)), .second, (.val (.long d1)), .second, (.val (.long ee1)), .second, (.val (.long c2)), .second, (.val (.int ss)), (.val (.long s2)), .second, (.val (.int ds)), (.val (.long d2)), .second, (.val (.long ee2)), .second, (.val (.int f7)), (.val (.long l1)), .second, (.val (.long nd)), .second, .unset, .unset, .unset, .unset, .unset, .unset, .unset, .unset, .unset, .unset] [(.long nd), (.long l1)])
                obtain ⟨_, _, ⟨T24, L24, k24, n24⟩, -, X24, ⟨Lc24, hQ24, l24, y24, z24⟩, st24⟩ := Jvm.LawKit.callS X5 hx (y := (⟨"java/lang/Math", "max", "(JJ)J"⟩ : MethodName)) hown (mvT hZ (hw _ (List.mem_of_getElem? (i := 53) rfl))) (mvT hZ (hw _ (List.mem_of_getElem? (i := 54) rfl))) (mvT hZ (hw _ (List.mem_of_getElem? (i := 55) rfl))) (mvT hZ (hw _ (List.mem_of_getElem? (i := 56) rfl))) (by decide) (backOf (W := 0) (rmM l Z a0 hw [] l1 nd (if l1 < nd then nd else l1) h0 n0 Z0 rfl) hZ (hw _ (List.mem_of_getElem? (i := 56) rfl)) (hw _ (List.mem_of_getElem? (i := 55) rfl)) (by decide) (by decide)) (g := (mkF m 240 #[(.val (.long p0)), .second, (.val (.long p1)), .second, (.val (.long p2)), .second, (.val (.long p3)), .second, (.val (.int p4)), (.val (.int p5)), (.val (.long c1)), .second, (.val (.long s1)), .second, (.val (.long d1)), .second, (.val (.long ee1)), .second, (.val (.long c2)), .second, (.val (.int ss)), (.val (.long s2)), .second, (.val (.int ds)), (.val (.long d2)), .second, (.val (.long ee2)), .second, (.val (.int f7)), (.val (.long l1)), .second, (.val (.long nd)), .second, .unset, .unset, .unset, .unset, .unset, .unset, .unset, .unset, .unset, .unset] [(.long nd), (.long l1)])) rfl (by rw [hml]; rfl) (argsL := [(.long l1), (.long nd)]) (rest := []) (lenOf pd_JJ_J rfl) rfl (by show 2 * 0 + _ ≤ _; exact Nat.le_of_eq rfl) (hb hby at_240) (fun _ _ => ⟨rfl, e5, (by decide : 0 + 0 ≤ _), (by decide : 0 + 0 ≤ _)⟩)
                dsimp only [Pt.U, Pt.locs, Pt.cells, Pt.slots] at X24 l24 y24 z24 st24 hQ24
                subst l24 y24 z24
                obtain ⟨rfl, rfl, e24⟩ := hQ24
                try rw [List.append_nil] at X24
                refine Owes.by st24 ?_
                show Owes p e below s (QL n0) room_1.cells room_1.slots T24 (mkF m 243 #[(.val (.long p0)), .second, (.val (.long p1)), .second, (.val (.long p2)), .second, (.val (.long p3)), .second, (.val (.int p4)), (.val (.int p5)), (.val (.long c1)), .second, (.val (.long s1)), .second, (.val (.long d1)), .second, (.val (.long ee1)), .second, (.val (.long c2)), .second, (.val (.int ss)), (.val (.long s2)), .second, (.val (.int ds)), (.val (.long d2)), .second, (.val (.long ee2)), .second, (.val (.int f7)), (.val (.long l1)), .second, (.val (.long nd)), .second, .unset, .unset, .unset, .unset, .unset, .unset, .unset, .unset, .unset, .unset] [(.long (if l1 < nd then nd else l1))])
                refine Owes.by (fun _ kq => XS.goto X24.here hx rfl (pc0 := 243) (pc' := 251) rfl (hb hby at_243) (by decide) (by decide) kq) ?_
                show Owes p e below s (QL n0) room_1.cells room_1.slots T24 (mkF m 251 #[(.val (.long p0)), .second, (.val (.long p1)), .second, (.val (.long p2)), .second, (.val (.long p3)), .second, (.val (.int p4)), (.val (.int p5)), (.val (.long c1)), .second, (.val (.long s1)), .second, (.val (.long d1)), .second, (.val (.long ee1)), .second, (.val (.long c2)), .second, (.val (.int ss)), (.val (.long s2)), .second, (.val (.int ds)), (.val (.long d2)), .second, (.val (.long ee2)), .second, (.val (.int f7)), (.val (.long l1)), .second, (.val (.long nd)), .second, .unset, .unset, .unset, .unset, .unset, .unset, .unset, .unset, .unset, .unset] [(.long (if l1 < nd then nd else l1))])
                exact J6 T24 X24 e24 (if l1 < nd then nd else l1) (own_l2m h_s2 h_d2 h_c2 (h_nd q) hl1)
          by_cases q : c1 = (0 : Int64)
          · skip
            refine Owes.by (fun _ kq => XS.ifNo X4.here hx rfl (hb hby at_182) rfl (XT.ll_ne_f q) kq) ?_
            show Owes p e below s (QL n0) room_1.cells room_1.slots T4 (mkF m 185 #[(.val (.long p0)), .second, (.val (.long p1)), .second, (.val (.long p2)), .second, (.val (.long p3)), .second, (.val (.int p4)), (.val (.int p5)), (.val (.long c1)), .second, (.val (.long s1)), .second, (.val (.long d1)), .second, (.val (.long ee1)), .second, (.val (.long c2)), .second, (.val (.int ss)), (.val (.long s2)), .second, (.val (.int ds)), (.val (.long d2)), .second, (.val (.long ee2)), .second, (.val (.int f7)), .unset, .unset, .unset, .unset, .unset, .unset, .unset, .unset, .unset, .unset, .unset, .unset, .unset, .unset] [])
            refine Owes.by (fun _ kq => XT.lconst X4.here hx rfl (hb hby at_185) kq) ?_
            show Owes p e below s (QL n0) room_1.cells room_1.slots T4 (mkF m 186 #[(.val (.long p0)), .second, (.val (.long p1)), .second, (.val (.long p2)), .second, (.val (.long p3)), .second, (.val (.int p4)), (.val (.int p5)), (.val (.long c1)), .second, (.val (.long s1)), .second, (.val (.long d1)), .second, (.val (.long ee1)), .second, (.val (.long c2)), .second, (.val (.int ss)), (.val (.long s2)), .second, (.val (.int ds)), (.val (.long d2)), .second, (.val (.long ee2)), .second, (.val (.int f7)), .unset, .unset, .unset, .unset, .unset, .unset, .unset, .unset, .unset, .unset, .unset, .unset, .unset, .unset] [(.long (0 : Int64))])
            refine Owes.by (fun _ kq => XS.goto X4.here hx rfl (pc0 := 186) (pc' := 204) rfl (hb hby at_186) (by decide) (by decide) kq) ?_
            show Owes p e below s (QL n0) room_1.cells room_1.slots T4 (mkF m 204 #[(.val (.long p0)), .second, (.val (.long p1)), .second, (.val (.long p2)), .second, (.val (.long p3)), .second, (.val (.int p4)), (.val (.int p5)), (.val (.long c1)), .second, (.val (.long s1)), .second, (.val (.long d1)), .second, (.val (.long ee1)), .second, (.val (.long c2)), .second, (.val (.int ss)), (.val (.long s2)), .second, (.val (.int ds)), (.val (.long d2)), .second, (.val (.long ee2)), .second, (.val (.int f7)), .unset, .unset, .unset, .unset, .unset, .unset, .unset, .unset, .unset, .unset, .unset, .unset, .unset, .unset] [(.long (0 : Int64))])
            exact J5 T4 X4 e4 (0 : Int64) (own_ok_zero h_s1.1 h_d1.1 q) (by decide)
          · skip
            refine Owes.by (fun _ kq => XS.ifYes X4.here hx rfl (pc0 := 182) (pc' := 189) rfl (hb hby at_182) rfl (XT.ll_ne_t q) (by decide) (by decide) kq) ?_
            show Owes p e below s (QL n0) room_1.cells room_1.slots T4 (mkF m 189 #[(.val (.long p0)), .second, (.val (.long p1)), .second, (.val (.long p2)), .second, (.val (.long p3)), .second, (.val (.int p4)), (.val (.int p5)), (.val (.long c1)), .second, (.val (.long s1)), .second, (.val (.long d1)), .second, (.val (.long ee1)), .second, (.val (.long c2)), .second, (.val (.int ss)), (.val (.long s2)), .second, (.val (.int ds)), (.val (.long d2)), .second, (.val (.long ee2)), .second, (.val (.int f7)), .unset, .unset, .unset, .unset, .unset, .unset, .unset, .unset, .unset, .unset, .unset, .unset, .unset, .unset] [])
            refine Owes.by (fun _ kq => XT.lload X4.here hx rfl (hb hby at_189) rfl kq) ?_
            show Owes p e below s (QL n0) room_1.cells room_1.slots T4 (mkF m 191 #[(.val (.long p0)), .second, (.val (.long p1)), .second, (.val (.long p2)), .second, (.val (.long p3)), .second, (.val (.int p4)), (.val (.int p5)), (.val (.long c1)), .second, (.val (.long s1)), .second, (.val (.long d1)), .second, (.val (.long ee1)), .second, (.val (.long c2)), .second, (.val (.int ss)), (.val (.long s2)), .second, (.val (.int ds)), (.val (.long d2)), .second, (.val (.long ee2)), .second, (.val (.int f7)), .unset, .unset, .unset, .unset, .unset, .unset, .unset, .unset, .unset, .unset, .unset, .unset, .unset, .unset] [(.long s1)])
            refine Owes.by (fun _ kq => XT.lload X4.here hx rfl (hb hby at_191) rfl kq) ?_
            show Owes p e below s (QL n0) room_1.cells room_1.slots T4 (mkF m 193 #[(.val (.long p0)), .second, (.val (.long p1)), .second, (.val (.long p2)), .second, (.val (.long p3)), .second, (.val (.int p4)), (.val (.int p5)), (.val (.long c1)), .second, (.val (.long s1)), .second, (.val (.long d1)), .second, (.val (.long ee1)), .second, (.val (.long c2)), .second, (.val (.int ss)), (.val (.long s2)), .second, (.val (.int ds)), (.val (.long d2)), .second, (.val (.long ee2)), .second, (.val (.int f7)), .unset, .unset, .unset, .unset, .unset, .unset, .unset, .unset, .unset, .unset, .unset, .unset, .unset, .unset] [(.long c1), (.long s1)])
            refine Owes.by (fun _ kq => XT.lconst X4.here hx rfl (hb hby at_193) kq) ?_
            show Owes p e below s (QL n0) room_1.cells room_1.slots T4 (mkF m 194 #[(.val (.long p0)), .second, (.val (.long p1)), .second, (.val (.long p2)), .second, (.val (.long p3)), .second, (.val (.int p4)), (.val (.int p5)), (.val (.long c1)), .second, (.val (.long s1)), .second, (.val (.long d1)), .second, (.val (.long ee1)), .second, (.val (.long c2)), .second, (.val (.int ss)), (.val (.long s2)), .second, (.val (.int ds)), (.val (.long d2)), .second, (.val (.long ee2)), .second, (.val (.int f7)), .unset, .unset, .unset, .unset, .unset, .unset, .unset, .unset, .unset, .unset, .unset, .unset, .unset, .unset] [(.long (1 : Int64)), (.long c1), (.long s1)])
            refine Owes.by (fun _ kq => XT.lsub X4.here hx rfl (hb hby at_194) rfl kq) ?_
            show Owes p e below s (QL n0) room_1.cells room_1.slots T4 (mkF m 195 #[(.val (.long p0)), .second, (.val (.long p1)), .second, (.val (.long p2)), .second, (.val (.long p3)), .second, (.val (.int p4)), (.val (.int p5)), (.val (.long c1)), .second, (.val (.long s1)), .second, (.val (.long d1)), .second, (.val (.long ee1)), .second, (.val (.long c2)), .second, (.val (.int ss)), (.val (.long s2)), .second, (.val (.int ds)), (.val (.long d2)), .second, (.val (.long ee2)), .second, (.val (.int f7)), .unset, .unset, .unset, .unset, .unset, .unset, .unset, .unset, .unset, .unset, .unset, .unset, .unset, .unset] [(.long (c1 - (1 : Int64))), (.long s1)])
            refine Owes.by (fun _ kq => XT.lload X4.here hx rfl (hb hby at_195) rfl kq) ?_
            show Owes p e below s (QL n0) room_1.cells room_1.slots T4 (mkF m 197 #[(.val (.long p0)), .second, (.val (.long p1)), .second, (.val (.long p2)), .second, (.val (.long p3)), .second, (.val (.int p4)), (.val (.int p5)), (.val (.long c1)), .second, (.val (.long s1)), .second, (.val (.long d1)), .second, (.val (.long ee1)), .second, (.val (.long c2)), .second, (.val (.int ss)), (.val (.long s2)), .second, (.val (.int ds)), (.val (.long d2)), .second, (.val (.long ee2)), .second, (.val (.int f7)), .unset, .unset, .unset, .unset, .unset, .unset, .unset, .unset, .unset, .unset, .unset, .unset, .unset, .unset] [(.long d1), (.long (c1 - (1 : Int64))), (.long s1)])
            refine Owes.by (fun _ kq => XT.lmul X4.here hx rfl (hb hby at_197) rfl kq) ?_
            show Owes p e below s (QL n0) room_1.cells room_1.slots T4 (mkF m 198 #[(.val (.long p0)), .second, (.val (.long p1)), .second, (.val (.long p2)), .second, (.val (.long p3)), .second, (.val (.int p4)), (.val (.int p5)), (.val (.long c1)), .second, (.val (.long s1)), .second, (.val (.long d1)), .second, (.val (.long ee1)), .second, (.val (.long c2)), .second, (.val (.int ss)), (.val (.long s2)), .second, (.val (.int ds)), (.val (.long d2)), .second, (.val (.long ee2)), .second, (.val (.int f7)), .unset, .unset, .unset, .unset, .unset, .unset, .unset, .unset, .unset, .unset, .unset, .unset, .unset, .unset] [(.long ((c1 - (1 : Int64)) * d1)), (.long s1)])
            refine Owes.by (fun _ kq => XT.ladd X4.here hx rfl (hb hby at_198) rfl kq) ?_
            show Owes p e below s (QL n0) room_1.cells room_1.slots T4 (mkF m 199 #[(.val (.long p0)), .second, (.val (.long p1)), .second, (.val (.long p2)), .second, (.val (.long p3)), .second, (.val (.int p4)), (.val (.int p5)), (.val (.long c1)), .second, (.val (.long s1)), .second, (.val (.long d1)), .second, (.val (.long ee1)), .second, (.val (.long c2)), .second, (.val (.int ss)), (.val (.long s2)), .second, (.val (.int ds)), (.val (.long d2)), .second, (.val (.long ee2)), .second, (.val (.int f7)), .unset, .unset, .unset, .unset, .unset, .unset, .unset, .unset, .unset, .unset, .unset, .unset, .unset, .unset] [(.long (s1 + ((c1 - (1 : Int64)) * d1)))])
            refine Owes.by (fun _ kq => XT.lconst X4.here hx rfl (hb hby at_199) kq) ?_
            show Owes p e below s (QL n0) room_1.cells room_1.slots T4 (mkF m 200 #[(.val (.long p0)), .second, (.val (.long p1)), .second, (.val (.long p2)), .second, (.val (.long p3)), .second, (.val (.int p4)), (.val (.int p5)), (.val (.long c1)), .second, (.val (.long s1)), .second, (.val (.long d1)), .second, (.val (.long ee1)), .second, (.val (.long c2)), .second, (.val (.int ss)), (.val (.long s2)), .second, (.val (.int ds)), (.val (.long d2)), .second, (.val (.long ee2)), .second, (.val (.int f7)), .unset, .unset, .unset, .unset, .unset, .unset, .unset, .unset, .unset, .unset, .unset, .unset, .unset, .unset] [(.long (1 : Int64)), (.long (s1 + ((c1 - (1 : Int64)) * d1)))])
            refine Owes.by (fun _ kq => XT.ladd X4.here hx rfl (hb hby at_200) rfl kq) ?_
            show Owes p e below s (QL n0) room_1.cells room_1.slots T4 (mkF m 201 #[(.val (.long p0)), .second, (.val (.long p1)), .second, (.val (.long p2)), .second, (.val (.long p3)), .second, (.val (.int p4)), (.val (.int p5)), (.val (.long c1)), .second, (.val (.long s1)), .second, (.val (.long d1)), .second, (.val (.long ee1)), .second, (.val (.long c2)), .second, (.val (.int ss)), (.val (.long s2)), .second, (.val (.int ds)), (.val (.long d2)), .second, (.val (.long ee2)), .second, (.val (.int f7)), .unset, .unset, .unset, .unset, .unset, .unset, .unset, .unset, .unset, .unset, .unset, .unset, .unset, .unset] [(.long ((s1 + ((c1 - (1 : Int64)) * d1)) + (1 : Int64)))])
            refine Owes.by (fun _ kq => XT.lload X4.here hx rfl (hb hby at_201) rfl kq) ?_
            show Owes p e below s (QL n0) room_1.cells room_1.slots T4 (mkF m 203 #[(.val (.long p0)), .second, (.val (.long p1)), .second, (.val (.long p2)), .second, (.val (.long p3)), .second, (.val (.int p4)), (.val (.int p5)), (.val (.long c1)), .second, (.val (.long s1)), .second, (.val (.long d1)), .second, (.val (.long ee1)), .second, (.val (.long c2)), .second, (.val (.int ss)), (.val (.long s2)), .second, (.val (.int ds)), (.val (.long d2)), .second, (.val (.long ee2)), .second, (.val (.int f7)), .unset, .unset, .unset, .unset, .unset, .unset, .unset, .unset, .unset, .unset, .unset, .unset, .unset, .unset] [(.long ee1), (.long ((s1 + ((c1 - (1 : Int64)) * d1)) + (1 : Int64)))])
            refine Owes.by (fun _ kq => XT.ladd X4.here hx rfl (hb hby at_203) rfl kq) ?_
            show Owes p e below s (QL n0) room_1.cells room_1.slots T4 (mkF m 204 #[(.val (.long p0)), .second, (.val (.long p1)), .second, (.val (.long p2)), .second, (.val (.long p3)), .second, (.val (.int p4)), (.val (.int p5)), (.val (.long c1)), .second, (.val (.long s1)), .second, (.val (.long d1)), .second, (.val (.long ee1)), .second, (.val (.long c2)), .second, (.val (.int ss)), (.val (.long s2)), .second, (.val (.int ds)), (.val (.long d2)), .second, (.val (.long ee2)), .second, (.val (.int f7)), .unset, .unset, .unset, .unset, .unset, .unset, .unset, .unset, .unset, .unset, .unset, .unset, .unset, .unset] [(.long (((s1 + ((c1 - (1 : Int64)) * d1)) + (1 : Int64)) + ee1))])
            exact J5 T4 X4 e4 (((s1 + ((c1 - (1 : Int64)) * d1)) + (1 : Int64)) + ee1) (own_l1 h_s1 h_d1 h_c1 h_ee1 q).1 (own_l1 h_s1 h_d1 h_c1 h_ee1 q).2
        by_cases q : ((XT.ushr p4 (11 : Int32)) &&& (1 : Int32)) = 0
        · skip
          refine Owes.by (fun _ kq => XS.ifYes X3.here hx rfl (pc0 := 168) (pc' := 175) rfl (hb hby at_168) rfl (XT.i0_eq_t q) (by decide) (by decide) kq) ?_
          show Owes p e below s (QL n0) room_1.cells room_1.slots T3 (mkF m 175 #[(.val (.long p0)), .second, (.val (.long p1)), .second, (.val (.long p2)), .second, (.val (.long p3)), .second, (.val (.int p4)), (.val (.int p5)), (.val (.long c1)), .second, (.val (.long s1)), .second, (.val (.long d1)), .second, (.val (.long ee1)), .second, (.val (.long c2)), .second, (.val (.int ss)), (.val (.long s2)), .second, (.val (.int ds)), (.val (.long d2)), .second, (.val (.long ee2)), .second, .unset, .unset, .unset, .unset, .unset, .unset, .unset, .unset, .unset, .unset, .unset, .unset, .unset, .unset, .unset] [])
          refine Owes.by (fun _ kq => XS.iconst X3.here hx rfl (hb hby at_175) kq) ?_
          show Owes p e below s (QL n0) room_1.cells room_1.slots T3 (mkF m 176 #[(.val (.long p0)), .second, (.val (.long p1)), .second, (.val (.long p2)), .second, (.val (.long p3)), .second, (.val (.int p4)), (.val (.int p5)), (.val (.long c1)), .second, (.val (.long s1)), .second, (.val (.long d1)), .second, (.val (.long ee1)), .second, (.val (.long c2)), .second, (.val (.int ss)), (.val (.long s2)), .second, (.val (.int ds)), (.val (.long d2)), .second, (.val (.long ee2)), .second, .unset, .unset, .unset, .unset, .unset, .unset, .unset, .unset, .unset, .unset, .unset, .unset, .unset, .unset, .unset] [(.int (0 : Int32))])
          exact J4 T3 X3 e3 (0 : Int32) 
        · skip
          refine Owes.by (fun _ kq => XS.ifNo X3.here hx rfl (hb hby at_168) rfl (XT.i0_eq_f q) kq) ?_
          show Owes p e below s (QL n0) room_1.cells room_1.slots T3 (mkF m 171 #[(.val (.long p0)), .second, (.val (.long p1)), .second, (.val (.long p2)), .second, (.val (.long p3)), .second, (.val (.int p4)), (.val (.int p5)), (.val (.long c1)), .second, (.val (.long s1)), .second, (.val (.long d1)), .second, (.val (.long ee1)), .second, (.val (.long c2)), .second, (.val (.int ss)), (.val (.long s2)), .second, (.val (.int ds)), (.val (.long d2)), .second, (.val (.long ee2)), .second, .unset, .unset, .unset, .unset, .unset, .unset, .unset, .unset, .unset, .unset, .unset, .unset, .unset, .unset, .unset] [])
          refine Owes.by (fun _ kq => XS.iconst X3.here hx rfl (hb hby at_171) kq) ?_
          show Owes p e below s (QL n0) room_1.cells room_1.slots T3 (mkF m 172 #[(.val (.long p0)), .second, (.val (.long p1)), .second, (.val (.long p2)), .second, (.val (.long p3)), .second, (.val (.int p4)), (.val (.int p5)), (.val (.long c1)), .second, (.val (.long s1)), .second, (.val (.long d1)), .second, (.val (.long ee1)), .second, (.val (.long c2)), .second, (.val (.int ss)), (.val (.long s2)), .second, (.val (.int ds)), (.val (.long d2)), .second, (.val (.long ee2)), .second, .unset, .unset, .unset, .unset, .unset, .unset, .unset, .unset, .unset, .unset, .unset, .unset, .unset, .unset, .unset] [(.int (1 : Int32))])
          refine Owes.by (fun _ kq => XS.goto X3.here hx rfl (pc0 := 172) (pc' := 176) rfl (hb hby at_172) (by decide) (by decide) kq) ?_
          show Owes p e below s (QL n0) room_1.cells room_1.slots T3 (mkF m 176 #[(.val (.long p0)), .second, (.val (.long p1)), .second, (.val (.long p2)), .second, (.val (.long p3)), .second, (.val (.int p4)), (.val (.int p5)), (.val (.long c1)), .second, (.val (.long s1)), .second, (.val (.long d1)), .second, (.val (.long ee1)), .second, (.val (.long c2)), .second, (.val (.int ss)), (.val (.long s2)), .second, (.val (.int ds)), (.val (.long d2)), .second, (.val (.long ee2)), .second, .unset, .unset, .unset, .unset, .unset, .unset, .unset, .unset, .unset, .unset, .unset, .unset, .unset, .unset, .unset] [(.int (1 : Int32))])
          exact J4 T3 X3 e3 (1 : Int32) 
      by_cases q : ds = 0
      · skip
        refine Owes.by (fun _ kq => XS.ifNo X2.here hx rfl (hb hby at_113) rfl (XT.i0_ne_f q) kq) ?_
        show Owes p e below s (QL n0) room_1.cells room_1.slots T2 (mkF m 116 #[(.val (.long p0)), .second, (.val (.long p1)), .second, (.val (.long p2)), .second, (.val (.long p3)), .second, (.val (.int p4)), (.val (.int p5)), (.val (.long c1)), .second, (.val (.long s1)), .second, (.val (.long d1)), .second, (.val (.long ee1)), .second, (.val (.long c2)), .second, (.val (.int ss)), (.val (.long s2)), .second, (.val (.int ds)), .unset, .unset, .unset, .unset, .unset, .unset, .unset, .unset, .unset, .unset, .unset, .unset, .unset, .unset, .unset, .unset, .unset, .unset, .unset] [])
        refine Owes.by (fun _ kq => XT.lload X2.here hx rfl (hb hby at_116) rfl kq) ?_
        show Owes p e below s (QL n0) room_1.cells room_1.slots T2 (mkF m 118 #[(.val (.long p0)), .second, (.val (.long p1)), .second, (.val (.long p2)), .second, (.val (.long p3)), .second, (.val (.int p4)), (.val (.int p5)), (.val (.long c1)), .second, (.val (.long s1)), .second, (.val (.long d1)), .second, (.val (.long ee1)), .second, (.val (.long c2)), .second, (.val (.int ss)), (.val (.long s2)), .second, (.val (.int ds)), .unset, .unset, .unset, .unset, .unset, .unset, .unset, .unset, .unset, .unset, .unset, .unset, .unset, .unset, .unset, .unset, .unset, .unset, .unset] [(.long d1)])
        refine Owes.by (fun _ kq => XS.goto X2.here hx rfl (pc0 := 118) (pc' := 148) rfl (hb hby at_118) (by decide) (by decide) kq) ?_
        show Owes p e below s (QL n0) room_1.cells room_1.slots T2 (mkF m 148 #[(.val (.long p0)), .second, (.val (.long p1)), .second, (.val (.long p2)), .second, (.val (.long p3)), .second, (.val (.int p4)), (.val (.int p5)), (.val (.long c1)), .second, (.val (.long s1)), .second, (.val (.long d1)), .second, (.val (.long ee1)), .second, (.val (.long c2)), .second, (.val (.int ss)), (.val (.long s2)), .second, (.val (.int ds)), .unset, .unset, .unset, .unset, .unset, .unset, .unset, .unset, .unset, .unset, .unset, .unset, .unset, .unset, .unset, .unset, .unset, .unset, .unset] [(.long d1)])
        exact J3 T2 X2 e2 d1 ⟨h_d1.1, by omega⟩
      · skip
        refine Owes.by (fun _ kq => XS.ifYes X2.here hx rfl (pc0 := 113) (pc' := 121) rfl (hb hby at_113) rfl (XT.i0_ne_t q) (by decide) (by decide) kq) ?_
        show Owes p e below s (QL n0) room_1.cells room_1.slots T2 (mkF m 121 #[(.val (.long p0)), .second, (.val (.long p1)), .second, (.val (.long p2)), .second, (.val (.long p3)), .second, (.val (.int p4)), (.val (.int p5)), (.val (.long c1)), .second, (.val (.long s1)), .second, (.val (.long d1)), .second, (.val (.long ee1)), .second, (.val (.long c2)), .second, (.val (.int ss)), (.val (.long s2)), .second, (.val (.int ds)), .unset, .unset, .unset, .unset, .unset, .unset, .unset, .unset, .unset, .unset, .unset, .unset, .unset, .unset, .unset, .unset, .unset, .unset, .unset] [])
        refine Owes.by (fun _ kq => XS.iload X2.here hx rfl (hb hby at_121) rfl kq) ?_
        show Owes p e below s (QL n0) room_1.cells room_1.slots T2 (mkF m 123 #[(.val (.long p0)), .second, (.val (.long p1)), .second, (.val (.long p2)), .second, (.val (.long p3)), .second, (.val (.int p4)), (.val (.int p5)), (.val (.long c1)), .second, (.val (.long s1)), .second, (.val (.long d1)), .second, (.val (.long ee1)), .second, (.val (.long c2)), .second, (.val (.int ss)), (.val (.long s2)), .second, (.val (.int ds)), .unset, .unset, .unset, .unset, .unset, .unset, .unset, .unset, .unset, .unset, .unset, .unset, .unset, .unset, .unset, .unset, .unset, .unset, .unset] [(.int ds)])
        refine Owes.by (fun _ kq => XS.iconst X2.here hx rfl (hb hby at_123) kq) ?_
        show Owes p e below s (QL n0) room_1.cells room_1.slots T2 (mkF m 124 #[(.val (.long p0)), .second, (.val (.long p1)), .second, (.val (.long p2)), .second, (.val (.long p3)), .second, (.val (.int p4)), (.val (.int p5)), (.val (.long c1)), .second, (.val (.long s1)), .second, (.val (.long d1)), .second, (.val (.long ee1)), .second, (.val (.long c2)), .second, (.val (.int ss)), (.val (.long s2)), .second, (.val (.int ds)), .unset, .unset, .unset, .unset, .unset, .unset, .unset, .unset, .unset, .unset, .unset, .unset, .unset, .unset, .unset, .unset, .unset, .unset, .unset] [(.int (1 : Int32)), (.int ds)])
        by_cases q' : ds = (1 : Int32)
        · skip
          refine Owes.by (fun _ kq => XS.icmpNo X2.here hx rfl (hb hby at_124) rfl (XT.ii_ne_f q') kq) ?_
          show Owes p e below s (QL n0) room_1.cells room_1.slots T2 (mkF m 127 #[(.val (.long p0)), .second, (.val (.long p1)), .second, (.val (.long p2)), .second, (.val (.long p3)), .second, (.val (.int p4)), (.val (.int p5)), (.val (.long c1)), .second, (.val (.long s1)), .second, (.val (.long d1)), .second, (.val (.long ee1)), .second, (.val (.long c2)), .second, (.val (.int ss)), (.val (.long s2)), .second, (.val (.int ds)), .unset, .unset, .unset, .unset, .unset, .unset, .unset, .unset, .unset, .unset, .unset, .unset, .unset, .unset, .unset, .unset, .unset, .unset, .unset] [])
          refine Owes.by (fun _ kq => XT.lload X2.here hx rfl (hb hby at_127) rfl kq) ?_
          show Owes p e below s (QL n0) room_1.cells room_1.slots T2 (mkF m 129 #[(.val (.long p0)), .second, (.val (.long p1)), .second, (.val (.long p2)), .second, (.val (.long p3)), .second, (.val (.int p4)), (.val (.int p5)), (.val (.long c1)), .second, (.val (.long s1)), .second, (.val (.long d1)), .second, (.val (.long ee1)), .second, (.val (.long c2)), .second, (.val (.int ss)), (.val (.long s2)), .second, (.val (.int ds)), .unset, .unset, .unset, .unset, .unset, .unset, .unset, .unset, .unset, .unset, .unset, .unset, .unset, .unset, .unset, .unset, .unset, .unset, .unset] [(.long d1)])
          refine Owes.by (fun _ kq => XS.iload X2.here hx rfl (hb hby at_129) rfl kq) ?_
          show Owes p e below s (QL n0) room_1.cells room_1.slots T2 (mkF m 131 #[(.val (.long p0)), .second, (.val (.long p1)), .second, (.val (.long p2)), .second, (.val (.long p3)), .second, (.val (.int p4)), (.val (.int p5)), (.val (.long c1)), .second, (.val (.long s1)), .second, (.val (.long d1)), .second, (.val (.long ee1)), .second, (.val (.long c2)), .second, (.val (.int ss)), (.val (.long s2)), .second, (.val (.int ds)), .unset, .unset, .unset, .unset, .unset, .unset, .unset, .unset, .unset, .unset, .unset, .unset, .unset, .unset, .unset, .unset, .unset, .unset, .unset] [(.int p5), (.long d1)])
          refine Owes.by (fun _ kq => XS.iconst X2.here hx rfl (hb hby at_131) kq) ?_
          show Owes p e below s (QL n0) room_1.cells room_1.slots T2 (mkF m 132 #[(.val (.long p0)), .second, (.val (.long p1)), .second, (.val (.long p2)), .second, (.val (.long p3)), .second, (.val (.int p4)), (.val (.int p5)), (.val (.long c1)), .second, (.val (.long s1)), .second, (.val (.long d1)), .second, (.val (.long ee1)), .second, (.val (.long c2)), .second, (.val (.int ss)), (.val (.long s2)), .second, (.val (.int ds)), .unset, .unset, .unset, .unset, .unset, .unset, .unset, .unset, .unset, .unset, .unset, .unset, .unset, .unset, .unset, .unset, .unset, .unset, .unset] [(.int (2 : Int32)), (.int p5), (.long d1)])
          refine Owes.by (fun _ kq => XT.iushr X2.here hx rfl (hb hby at_132) rfl kq) ?_
          show Owes p e below s (QL n0) room_1.cells room_1.slots T2 (mkF m 133 #[(.val (.long p0)), .second, (.val (.long p1)), .second, (.val (.long p2)), .second, (.val (.long p3)), .second, (.val (.int p4)), (.val (.int p5)), (.val (.long c1)), .second, (.val (.long s1)), .second, (.val (.long d1)), .second, (.val (.long ee1)), .second, (.val (.long c2)), .second, (.val (.int ss)), (.val (.long s2)), .second, (.val (.int ds)), .unset, .unset, .unset, .unset, .unset, .unset, .unset, .unset, .unset, .unset, .unset, .unset, .unset, .unset, .unset, .unset, .unset, .unset, .unset] [(.int (XT.ushr p5 (2 : Int32))), (.long d1)])
          refine Owes.by (fun _ kq => XS.iconst X2.here hx rfl (hb hby at_133) kq) ?_
          show Owes p e below s (QL n0) room_1.cells room_1.slots T2 (mkF m 134 #[(.val (.long p0)), .second, (.val (.long p1)), .second, (.val (.long p2)), .second, (.val (.long p3)), .second, (.val (.int p4)), (.val (.int p5)), (.val (.long c1)), .second, (.val (.long s1)), .second, (.val (.long d1)), .second, (.val (.long ee1)), .second, (.val (.long c2)), .second, (.val (.int ss)), (.val (.long s2)), .second, (.val (.int ds)), .unset, .unset, .unset, .unset, .unset, .unset, .unset, .unset, .unset, .unset, .unset, .unset, .unset, .unset, .unset, .unset, .unset, .unset, .unset] [(.int (3 : Int32)), (.int (XT.ushr p5 (2 : Int32))), (.long d1)])
          refine Owes.by (fun _ kq => XS.iand X2.here hx rfl (hb hby at_134) rfl kq) ?_
          show Owes p e below s (QL n0) room_1.cells room_1.slots T2 (mkF m 135 #[(.val (.long p0)), .second, (.val (.long p1)), .second, (.val (.long p2)), .second, (.val (.long p3)), .second, (.val (.int p4)), (.val (.int p5)), (.val (.long c1)), .second, (.val (.long s1)), .second, (.val (.long d1)), .second, (.val (.long ee1)), .second, (.val (.long c2)), .second, (.val (.int ss)), (.val (.long s2)), .second, (.val (.int ds)), .unset, .unset, .unset, .unset, .unset, .unset, .unset, .unset, .unset, .unset, .unset, .unset, .unset, .unset, .unset, .unset, .unset, .unset, .unset] [(.int ((XT.ushr p5 (2 : Int32)) &&& (3 : Int32))), (.long d1)])
          refine Owes.by (fun _ kq => XT.i2l X2.here hx rfl (hb hby at_135) rfl kq) ?_
          show Owes p e below s (QL n0) room_1.cells room_1.slots T2 (mkF m 136 #[(.val (.long p0)), .second, (.val (.long p1)), .second, (.val (.long p2)), .second, (.val (.long p3)), .second, (.val (.int p4)), (.val (.int p5)), (.val (.long c1)), .second, (.val (.long s1)), .second, (.val (.long d1)), .second, (.val (.long ee1)), .second, (.val (.long c2)), .second, (.val (.int ss)), (.val (.long s2)), .second, (.val (.int ds)), .unset, .unset, .unset, .unset, .unset, .unset, .unset, .unset, .unset, .unset, .unset, .unset, .unset, .unset, .unset, .unset, .unset, .unset, .unset] [(.long (((XT.ushr p5 (2 : Int32)) &&& (3 : Int32)).toInt64)), (.long d1)])
          refine Owes.by (fun _ kq => XT.ladd X2.here hx rfl (hb hby at_136) rfl kq) ?_
          show Owes p e below s (QL n0) room_1.cells room_1.slots T2 (mkF m 137 #[(.val (.long p0)), .second, (.val (.long p1)), .second, (.val (.long p2)), .second, (.val (.long p3)), .second, (.val (.int p4)), (.val (.int p5)), (.val (.long c1)), .second, (.val (.long s1)), .second, (.val (.long d1)), .second, (.val (.long ee1)), .second, (.val (.long c2)), .second, (.val (.int ss)), (.val (.long s2)), .second, (.val (.int ds)), .unset, .unset, .unset, .unset, .unset, .unset, .unset, .unset, .unset, .unset, .unset, .unset, .unset, .unset, .unset, .unset, .unset, .unset, .unset] [(.long (d1 + (((XT.ushr p5 (2 : Int32)) &&& (3 : Int32)).toInt64)))])
          refine Owes.by (fun _ kq => XS.goto X2.here hx rfl (pc0 := 137) (pc' := 148) rfl (hb hby at_137) (by decide) (by decide) kq) ?_
          show Owes p e below s (QL n0) room_1.cells room_1.slots T2 (mkF m 148 #[(.val (.long p0)), .second, (.val (.long p1)), .second, (.val (.long p2)), .second, (.val (.long p3)), .second, (.val (.int p4)), (.val (.int p5)), (.val (.long c1)), .second, (.val (.long s1)), .second, (.val (.long d1)), .second, (.val (.long ee1)), .second, (.val (.long c2)), .second, (.val (.int ss)), (.val (.long s2)), .second, (.val (.int ds)), .unset, .unset, .unset, .unset, .unset, .unset, .unset, .unset, .unset, .unset, .unset, .unset, .unset, .unset, .unset, .unset, .unset, .unset, .unset] [(.long (d1 + (((XT.ushr p5 (2 : Int32)) &&& (3 : Int32)).toInt64)))])
          exact J3 T2 X2 e2 (d1 + (((XT.ushr p5 (2 : Int32)) &&& (3 : Int32)).toInt64)) (own_d3 h_d1.1 h_d1.2 _)
        · skip
          refine Owes.by (fun _ kq => XS.icmpYes X2.here hx rfl (pc0 := 124) (pc' := 140) rfl (hb hby at_124) rfl (XT.ii_ne_t q') (by decide) (by decide) kq) ?_
          show Owes p e below s (QL n0) room_1.cells room_1.slots T2 (mkF m 140 #[(.val (.long p0)), .second, (.val (.long p1)), .second, (.val (.long p2)), .second, (.val (.long p3)), .second, (.val (.int p4)), (.val (.int p5)), (.val (.long c1)), .second, (.val (.long s1)), .second, (.val (.long d1)), .second, (.val (.long ee1)), .second, (.val (.long c2)), .second, (.val (.int ss)), (.val (.long s2)), .second, (.val (.int ds)), .unset, .unset, .unset, .unset, .unset, .unset, .unset, .unset, .unset, .unset, .unset, .unset, .unset, .unset, .unset, .unset, .unset, .unset, .unset] [])
          refine Owes.by (fun _ kq => XT.lconst X2.here hx rfl (hb hby at_140) kq) ?_
          show Owes p e below s (QL n0) room_1.cells room_1.slots T2 (mkF m 141 #[(.val (.long p0)), .second, (.val (.long p1)), .second, (.val (.long p2)), .second, (.val (.long p3)), .second, (.val (.int p4)), (.val (.int p5)), (.val (.long c1)), .second, (.val (.long s1)), .second, (.val (.long d1)), .second, (.val (.long ee1)), .second, (.val (.long c2)), .second, (.val (.int ss)), (.val (.long s2)), .second, (.val (.int ds)), .unset, .unset, .unset, .unset, .unset, .unset, .unset, .unset, .unset, .unset, .unset, .unset, .unset, .unset, .unset, .unset, .unset, .unset, .unset] [(.long (1 : Int64))])
          refine Owes.by (fun _ kq => XT.lload X2.here hx rfl (hb hby at_141) rfl kq) ?_
          show Owes p e below s (QL n0) room_1.cells room_1.slots T2 (mkF m 143 #[(.val (.long p0)), .second, (.val (.long p1)), .second, (.val (.long p2)), .second, (.val (.long p3)), .second, (.val (.int p4)), (.val (.int p5)), (.val (.long c1)), .second, (.val (.long s1)), .second, (.val (.long d1)), .second, (.val (.long ee1)), .second, (.val (.long c2)), .second, (.val (.int ss)), (.val (.long s2)), .second, (.val (.int ds)), .unset, .unset, .unset, .unset, .unset, .unset, .unset, .unset, .unset, .unset, .unset, .unset, .unset, .unset, .unset, .unset, .unset, .unset, .unset] [(.long p3), (.long (1 : Int64))])
          refine Owes.by (fun tq kq => X2.ldc2Long hx hown (mvT hZ (hw _ (List.mem_of_getElem? (i := 1) rfl))) (g := (mkF m 143 #[(.val (.long p0)), .second, (.val (.long p1)), .second, (.val (.long p2)), .second, (.val (.long p3)), .second, (.val (.int p4)), (.val (.int p5)), (.val (.long c1)), .second, (.val (.long s1)), .second, (.val (.long d1)), .second, (.val (.long ee1)), .second, (.val (.long c2)), .second, (.val (.int ss)), (.val (.long s2)), .second, (.val (.int ds)), .unset, .unset, .unset, .unset, .unset, .unset, .unset, .unset, .unset, .unset, .unset, .unset, .unset, .unset, .unset, .unset, .unset, .unset, .unset] [(.long p3), (.long (1 : Int64))])) rfl (hb hby at_143) tq kq) ?_
          show Owes p e below s (QL n0) room_1.cells room_1.slots T2 (mkF m 146 #[(.val (.long p0)), .second, (.val (.long p1)), .second, (.val (.long p2)), .second, (.val (.long p3)), .second, (.val (.int p4)), (.val (.int p5)), (.val (.long c1)), .second, (.val (.long s1)), .second, (.val (.long d1)), .second, (.val (.long ee1)), .second, (.val (.long c2)), .second, (.val (.int ss)), (.val (.long s2)), .second, (.val (.int ds)), .unset, .unset, .unset, .unset, .unset, .unset, .unset, .unset, .unset, .unset, .unset, .unset, .unset, .unset, .unset, .unset, .unset, .unset, .unset] [(.long (1099511627775 : Int64)), (.long p3), (.long (1 : Int64))])
          refine Owes.by (fun _ kq => XT.land X2.here hx rfl (hb hby at_146) rfl kq) ?_
          show Owes p e below s (QL n0) room_1.cells room_1.slots T2 (mkF m 147 #[(.val (.long p0)), .second, (.val (.long p1)), .second, (.val (.long p2)), .second, (.val (.long p3)), .second, (.val (.int p4)), (.val (.int p5)), (.val (.long c1)), .second, (.val (.long s1)), .second, (.val (.long d1)), .second, (.val (.long ee1)), .second, (.val (.long c2)), .second, (.val (.int ss)), (.val (.long s2)), .second, (.val (.int ds)), .unset, .unset, .unset, .unset, .unset, .unset, .unset, .unset, .unset, .unset, .unset, .unset, .unset, .unset, .unset, .unset, .unset, .unset, .unset] [(.long (p3 &&& (1099511627775 : Int64))), (.long (1 : Int64))])
          refine Owes.by (fun _ kq => XT.ladd X2.here hx rfl (hb hby at_147) rfl kq) ?_
          show Owes p e below s (QL n0) room_1.cells room_1.slots T2 (mkF m 148 #[(.val (.long p0)), .second, (.val (.long p1)), .second, (.val (.long p2)), .second, (.val (.long p3)), .second, (.val (.int p4)), (.val (.int p5)), (.val (.long c1)), .second, (.val (.long s1)), .second, (.val (.long d1)), .second, (.val (.long ee1)), .second, (.val (.long c2)), .second, (.val (.int ss)), (.val (.long s2)), .second, (.val (.int ds)), .unset, .unset, .unset, .unset, .unset, .unset, .unset, .unset, .unset, .unset, .unset, .unset, .unset, .unset, .unset, .unset, .unset, .unset, .unset] [(.long ((1 : Int64) + (p3 &&& (1099511627775 : Int64))))])
          exact J3 T2 X2 e2 ((1 : Int64) + (p3 &&& (1099511627775 : Int64))) (own_d' _)
    by_cases q : ss = 0
    · skip
      refine Owes.by (fun _ kq => XS.ifNo X1.here hx rfl (hb hby at_69) rfl (XT.i0_ne_f q) kq) ?_
      show Owes p e below s (QL n0) room_1.cells room_1.slots T1 (mkF m 72 #[(.val (.long p0)), .second, (.val (.long p1)), .second, (.val (.long p2)), .second, (.val (.long p3)), .second, (.val (.int p4)), (.val (.int p5)), (.val (.long c1)), .second, (.val (.long s1)), .second, (.val (.long d1)), .second, (.val (.long ee1)), .second, (.val (.long c2)), .second, (.val (.int ss)), .unset, .unset, .unset, .unset, .unset, .unset, .unset, .unset, .unset, .unset, .unset, .unset, .unset, .unset, .unset, .unset, .unset, .unset, .unset, .unset, .unset, .unset] [])
      refine Owes.by (fun _ kq => XT.lload X1.here hx rfl (hb hby at_72) rfl kq) ?_
      show Owes p e below s (QL n0) room_1.cells room_1.slots T1 (mkF m 74 #[(.val (.long p0)), .second, (.val (.long p1)), .second, (.val (.long p2)), .second, (.val (.long p3)), .second, (.val (.int p4)), (.val (.int p5)), (.val (.long c1)), .second, (.val (.long s1)), .second, (.val (.long d1)), .second, (.val (.long ee1)), .second, (.val (.long c2)), .second, (.val (.int ss)), .unset, .unset, .unset, .unset, .unset, .unset, .unset, .unset, .unset, .unset, .unset, .unset, .unset, .unset, .unset, .unset, .unset, .unset, .unset, .unset, .unset, .unset] [(.long s1)])
      refine Owes.by (fun _ kq => XS.goto X1.here hx rfl (pc0 := 74) (pc' := 100) rfl (hb hby at_74) (by decide) (by decide) kq) ?_
      show Owes p e below s (QL n0) room_1.cells room_1.slots T1 (mkF m 100 #[(.val (.long p0)), .second, (.val (.long p1)), .second, (.val (.long p2)), .second, (.val (.long p3)), .second, (.val (.int p4)), (.val (.int p5)), (.val (.long c1)), .second, (.val (.long s1)), .second, (.val (.long d1)), .second, (.val (.long ee1)), .second, (.val (.long c2)), .second, (.val (.int ss)), .unset, .unset, .unset, .unset, .unset, .unset, .unset, .unset, .unset, .unset, .unset, .unset, .unset, .unset, .unset, .unset, .unset, .unset, .unset, .unset, .unset, .unset] [(.long s1)])
      exact J2 T1 X1 e1 s1 ⟨h_s1.1, by omega⟩
    · skip
      refine Owes.by (fun _ kq => XS.ifYes X1.here hx rfl (pc0 := 69) (pc' := 77) rfl (hb hby at_69) rfl (XT.i0_ne_t q) (by decide) (by decide) kq) ?_
      show Owes p e below s (QL n0) room_1.cells room_1.slots T1 (mkF m 77 #[(.val (.long p0)), .second, (.val (.long p1)), .second, (.val (.long p2)), .second, (.val (.long p3)), .second, (.val (.int p4)), (.val (.int p5)), (.val (.long c1)), .second, (.val (.long s1)), .second, (.val (.long d1)), .second, (.val (.long ee1)), .second, (.val (.long c2)), .second, (.val (.int ss)), .unset, .unset, .unset, .unset, .unset, .unset, .unset, .unset, .unset, .unset, .unset, .unset, .unset, .unset, .unset, .unset, .unset, .unset, .unset, .unset, .unset, .unset] [])
      refine Owes.by (fun _ kq => XS.iload X1.here hx rfl (hb hby at_77) rfl kq) ?_
      show Owes p e below s (QL n0) room_1.cells room_1.slots T1 (mkF m 79 #[(.val (.long p0)), .second, (.val (.long p1)), .second, (.val (.long p2)), .second, (.val (.long p3)), .second, (.val (.int p4)), (.val (.int p5)), (.val (.long c1)), .second, (.val (.long s1)), .second, (.val (.long d1)), .second, (.val (.long ee1)), .second, (.val (.long c2)), .second, (.val (.int ss)), .unset, .unset, .unset, .unset, .unset, .unset, .unset, .unset, .unset, .unset, .unset, .unset, .unset, .unset, .unset, .unset, .unset, .unset, .unset, .unset, .unset, .unset] [(.int ss)])
      refine Owes.by (fun _ kq => XS.iconst X1.here hx rfl (hb hby at_79) kq) ?_
      show Owes p e below s (QL n0) room_1.cells room_1.slots T1 (mkF m 80 #[(.val (.long p0)), .second, (.val (.long p1)), .second, (.val (.long p2)), .second, (.val (.long p3)), .second, (.val (.int p4)), (.val (.int p5)), (.val (.long c1)), .second, (.val (.long s1)), .second, (.val (.long d1)), .second, (.val (.long ee1)), .second, (.val (.long c2)), .second, (.val (.int ss)), .unset, .unset, .unset, .unset, .unset, .unset, .unset, .unset, .unset, .unset, .unset, .unset, .unset, .unset, .unset, .unset, .unset, .unset, .unset, .unset, .unset, .unset] [(.int (1 : Int32)), (.int ss)])
      by_cases q' : ss = (1 : Int32)
      · skip
        refine Owes.by (fun _ kq => XS.icmpNo X1.here hx rfl (hb hby at_80) rfl (XT.ii_ne_f q') kq) ?_
        show Owes p e below s (QL n0) room_1.cells room_1.slots T1 (mkF m 83 #[(.val (.long p0)), .second, (.val (.long p1)), .second, (.val (.long p2)), .second, (.val (.long p3)), .second, (.val (.int p4)), (.val (.int p5)), (.val (.long c1)), .second, (.val (.long s1)), .second, (.val (.long d1)), .second, (.val (.long ee1)), .second, (.val (.long c2)), .second, (.val (.int ss)), .unset, .unset, .unset, .unset, .unset, .unset, .unset, .unset, .unset, .unset, .unset, .unset, .unset, .unset, .unset, .unset, .unset, .unset, .unset, .unset, .unset, .unset] [])
        refine Owes.by (fun _ kq => XT.lload X1.here hx rfl (hb hby at_83) rfl kq) ?_
        show Owes p e below s (QL n0) room_1.cells room_1.slots T1 (mkF m 85 #[(.val (.long p0)), .second, (.val (.long p1)), .second, (.val (.long p2)), .second, (.val (.long p3)), .second, (.val (.int p4)), (.val (.int p5)), (.val (.long c1)), .second, (.val (.long s1)), .second, (.val (.long d1)), .second, (.val (.long ee1)), .second, (.val (.long c2)), .second, (.val (.int ss)), .unset, .unset, .unset, .unset, .unset, .unset, .unset, .unset, .unset, .unset, .unset, .unset, .unset, .unset, .unset, .unset, .unset, .unset, .unset, .unset, .unset, .unset] [(.long s1)])
        refine Owes.by (fun _ kq => XS.iload X1.here hx rfl (hb hby at_85) rfl kq) ?_
        show Owes p e below s (QL n0) room_1.cells room_1.slots T1 (mkF m 87 #[(.val (.long p0)), .second, (.val (.long p1)), .second, (.val (.long p2)), .second, (.val (.long p3)), .second, (.val (.int p4)), (.val (.int p5)), (.val (.long c1)), .second, (.val (.long s1)), .second, (.val (.long d1)), .second, (.val (.long ee1)), .second, (.val (.long c2)), .second, (.val (.int ss)), .unset, .unset, .unset, .unset, .unset, .unset, .unset, .unset, .unset, .unset, .unset, .unset, .unset, .unset, .unset, .unset, .unset, .unset, .unset, .unset, .unset, .unset] [(.int p5), (.long s1)])
        refine Owes.by (fun _ kq => XS.iconst X1.here hx rfl (hb hby at_87) kq) ?_
        show Owes p e below s (QL n0) room_1.cells room_1.slots T1 (mkF m 88 #[(.val (.long p0)), .second, (.val (.long p1)), .second, (.val (.long p2)), .second, (.val (.long p3)), .second, (.val (.int p4)), (.val (.int p5)), (.val (.long c1)), .second, (.val (.long s1)), .second, (.val (.long d1)), .second, (.val (.long ee1)), .second, (.val (.long c2)), .second, (.val (.int ss)), .unset, .unset, .unset, .unset, .unset, .unset, .unset, .unset, .unset, .unset, .unset, .unset, .unset, .unset, .unset, .unset, .unset, .unset, .unset, .unset, .unset, .unset] [(.int (3 : Int32)), (.int p5), (.long s1)])
        refine Owes.by (fun _ kq => XS.iand X1.here hx rfl (hb hby at_88) rfl kq) ?_
        show Owes p e below s (QL n0) room_1.cells room_1.slots T1 (mkF m 89 #[(.val (.long p0)), .second, (.val (.long p1)), .second, (.val (.long p2)), .second, (.val (.long p3)), .second, (.val (.int p4)), (.val (.int p5)), (.val (.long c1)), .second, (.val (.long s1)), .second, (.val (.long d1)), .second, (.val (.long ee1)), .second, (.val (.long c2)), .second, (.val (.int ss)), .unset, .unset, .unset, .unset, .unset, .unset, .unset, .unset, .unset, .unset, .unset, .unset, .unset, .unset, .unset, .unset, .unset, .unset, .unset, .unset, .unset, .unset] [(.int (p5 &&& (3 : Int32))), (.long s1)])
        refine Owes.by (fun _ kq => XT.i2l X1.here hx rfl (hb hby at_89) rfl kq) ?_
        show Owes p e below s (QL n0) room_1.cells room_1.slots T1 (mkF m 90 #[(.val (.long p0)), .second, (.val (.long p1)), .second, (.val (.long p2)), .second, (.val (.long p3)), .second, (.val (.int p4)), (.val (.int p5)), (.val (.long c1)), .second, (.val (.long s1)), .second, (.val (.long d1)), .second, (.val (.long ee1)), .second, (.val (.long c2)), .second, (.val (.int ss)), .unset, .unset, .unset, .unset, .unset, .unset, .unset, .unset, .unset, .unset, .unset, .unset, .unset, .unset, .unset, .unset, .unset, .unset, .unset, .unset, .unset, .unset] [(.long ((p5 &&& (3 : Int32)).toInt64)), (.long s1)])
        refine Owes.by (fun _ kq => XT.ladd X1.here hx rfl (hb hby at_90) rfl kq) ?_
        show Owes p e below s (QL n0) room_1.cells room_1.slots T1 (mkF m 91 #[(.val (.long p0)), .second, (.val (.long p1)), .second, (.val (.long p2)), .second, (.val (.long p3)), .second, (.val (.int p4)), (.val (.int p5)), (.val (.long c1)), .second, (.val (.long s1)), .second, (.val (.long d1)), .second, (.val (.long ee1)), .second, (.val (.long c2)), .second, (.val (.int ss)), .unset, .unset, .unset, .unset, .unset, .unset, .unset, .unset, .unset, .unset, .unset, .unset, .unset, .unset, .unset, .unset, .unset, .unset, .unset, .unset, .unset, .unset] [(.long (s1 + ((p5 &&& (3 : Int32)).toInt64)))])
        refine Owes.by (fun _ kq => XS.goto X1.here hx rfl (pc0 := 91) (pc' := 100) rfl (hb hby at_91) (by decide) (by decide) kq) ?_
        show Owes p e below s (QL n0) room_1.cells room_1.slots T1 (mkF m 100 #[(.val (.long p0)), .second, (.val (.long p1)), .second, (.val (.long p2)), .second, (.val (.long p3)), .second, (.val (.int p4)), (.val (.int p5)), (.val (.long c1)), .second, (.val (.long s1)), .second, (.val (.long d1)), .second, (.val (.long ee1)), .second, (.val (.long c2)), .second, (.val (.int ss)), .unset, .unset, .unset, .unset, .unset, .unset, .unset, .unset, .unset, .unset, .unset, .unset, .unset, .unset, .unset, .unset, .unset, .unset, .unset, .unset, .unset, .unset] [(.long (s1 + ((p5 &&& (3 : Int32)).toInt64)))])
        exact J2 T1 X1 e1 (s1 + ((p5 &&& (3 : Int32)).toInt64)) (own_s3 h_s1.1 h_s1.2 _)
      · skip
        refine Owes.by (fun _ kq => XS.icmpYes X1.here hx rfl (pc0 := 80) (pc' := 94) rfl (hb hby at_80) rfl (XT.ii_ne_t q') (by decide) (by decide) kq) ?_
        show Owes p e below s (QL n0) room_1.cells room_1.slots T1 (mkF m 94 #[(.val (.long p0)), .second, (.val (.long p1)), .second, (.val (.long p2)), .second, (.val (.long p3)), .second, (.val (.int p4)), (.val (.int p5)), (.val (.long c1)), .second, (.val (.long s1)), .second, (.val (.long d1)), .second, (.val (.long ee1)), .second, (.val (.long c2)), .second, (.val (.int ss)), .unset, .unset, .unset, .unset, .unset, .unset, .unset, .unset, .unset, .unset, .unset, .unset, .unset, .unset, .unset, .unset, .unset, .unset, .unset, .unset, .unset, .unset] [])
        refine Owes.by (fun _ kq => XT.lload X1.here hx rfl (hb hby at_94) rfl kq) ?_
        show Owes p e below s (QL n0) room_1.cells room_1.slots T1 (mkF m 96 #[(.val (.long p0)), .second, (.val (.long p1)), .second, (.val (.long p2)), .second, (.val (.long p3)), .second, (.val (.int p4)), (.val (.int p5)), (.val (.long c1)), .second, (.val (.long s1)), .second, (.val (.long d1)), .second, (.val (.long ee1)), .second, (.val (.long c2)), .second, (.val (.int ss)), .unset, .unset, .unset, .unset, .unset, .unset, .unset, .unset, .unset, .unset, .unset, .unset, .unset, .unset, .unset, .unset, .unset, .unset, .unset, .unset, .unset, .unset] [(.long p2)])
        refine Owes.by (fun tq kq => X1.ldc2Long hx hown (mvT hZ (hw _ (List.mem_of_getElem? (i := 0) rfl))) (g := (mkF m 96 #[(.val (.long p0)), .second, (.val (.long p1)), .second, (.val (.long p2)), .second, (.val (.long p3)), .second, (.val (.int p4)), (.val (.int p5)), (.val (.long c1)), .second, (.val (.long s1)), .second, (.val (.long d1)), .second, (.val (.long ee1)), .second, (.val (.long c2)), .second, (.val (.int ss)), .unset, .unset, .unset, .unset, .unset, .unset, .unset, .unset, .unset, .unset, .unset, .unset, .unset, .unset, .unset, .unset, .unset, .unset, .unset, .unset, .unset, .unset] [(.long p2)])) rfl (hb hby at_96) tq kq) ?_
        show Owes p e below s (QL n0) room_1.cells room_1.slots T1 (mkF m 99 #[(.val (.long p0)), .second, (.val (.long p1)), .second, (.val (.long p2)), .second, (.val (.long p3)), .second, (.val (.int p4)), (.val (.int p5)), (.val (.long c1)), .second, (.val (.long s1)), .second, (.val (.long d1)), .second, (.val (.long ee1)), .second, (.val (.long c2)), .second, (.val (.int ss)), .unset, .unset, .unset, .unset, .unset, .unset, .unset, .unset, .unset, .unset, .unset, .unset, .unset, .unset, .unset, .unset, .unset, .unset, .unset, .unset, .unset, .unset] [(.long (4611686018427387903 : Int64)), (.long p2)])
        refine Owes.by (fun _ kq => XT.land X1.here hx rfl (hb hby at_99) rfl kq) ?_
        show Owes p e below s (QL n0) room_1.cells room_1.slots T1 (mkF m 100 #[(.val (.long p0)), .second, (.val (.long p1)), .second, (.val (.long p2)), .second, (.val (.long p3)), .second, (.val (.int p4)), (.val (.int p5)), (.val (.long c1)), .second, (.val (.long s1)), .second, (.val (.long d1)), .second, (.val (.long ee1)), .second, (.val (.long c2)), .second, (.val (.int ss)), .unset, .unset, .unset, .unset, .unset, .unset, .unset, .unset, .unset, .unset, .unset, .unset, .unset, .unset, .unset, .unset, .unset, .unset, .unset, .unset, .unset, .unset] [(.long (p2 &&& (4611686018427387903 : Int64)))])
        exact J2 T1 X1 e1 (p2 &&& (4611686018427387903 : Int64)) (own_s' _)
  by_cases q : ((XT.ushr p4 (3 : Int32)) &&& (1 : Int32)) = 0
  · skip
    refine Owes.by (fun _ kq => XS.ifNo X0.here hx rfl (hb hby at_40) rfl (XT.i0_ne_f q) kq) ?_
    show Owes p e below s (QL n0) room_1.cells room_1.slots s₁ (mkF m 43 #[(.val (.long p0)), .second, (.val (.long p1)), .second, (.val (.long p2)), .second, (.val (.long p3)), .second, (.val (.int p4)), (.val (.int p5)), (.val (.long c1)), .second, (.val (.long s1)), .second, (.val (.long d1)), .second, (.val (.long ee1)), .second, .unset, .unset, .unset, .unset, .unset, .unset, .unset, .unset, .unset, .unset, .unset, .unset, .unset, .unset, .unset, .unset, .unset, .unset, .unset, .unset, .unset, .unset, .unset, .unset, .unset] [])
    refine Owes.by (fun _ kq => XT.lload X0.here hx rfl (hb hby at_43) rfl kq) ?_
    show Owes p e below s (QL n0) room_1.cells room_1.slots s₁ (mkF m 45 #[(.val (.long p0)), .second, (.val (.long p1)), .second, (.val (.long p2)), .second, (.val (.long p3)), .second, (.val (.int p4)), (.val (.int p5)), (.val (.long c1)), .second, (.val (.long s1)), .second, (.val (.long d1)), .second, (.val (.long ee1)), .second, .unset, .unset, .unset, .unset, .unset, .unset, .unset, .unset, .unset, .unset, .unset, .unset, .unset, .unset, .unset, .unset, .unset, .unset, .unset, .unset, .unset, .unset, .unset, .unset, .unset] [(.long c1)])
    refine Owes.by (fun _ kq => XS.goto X0.here hx rfl (pc0 := 45) (pc' := 56) rfl (hb hby at_45) (by decide) (by decide) kq) ?_
    show Owes p e below s (QL n0) room_1.cells room_1.slots s₁ (mkF m 56 #[(.val (.long p0)), .second, (.val (.long p1)), .second, (.val (.long p2)), .second, (.val (.long p3)), .second, (.val (.int p4)), (.val (.int p5)), (.val (.long c1)), .second, (.val (.long s1)), .second, (.val (.long d1)), .second, (.val (.long ee1)), .second, .unset, .unset, .unset, .unset, .unset, .unset, .unset, .unset, .unset, .unset, .unset, .unset, .unset, .unset, .unset, .unset, .unset, .unset, .unset, .unset, .unset, .unset, .unset, .unset, .unset] [(.long c1)])
    exact J1 s₁ X0 e0 c1 h_c1
  · skip
    refine Owes.by (fun _ kq => XS.ifYes X0.here hx rfl (pc0 := 40) (pc' := 48) rfl (hb hby at_40) rfl (XT.i0_ne_t q) (by decide) (by decide) kq) ?_
    show Owes p e below s (QL n0) room_1.cells room_1.slots s₁ (mkF m 48 #[(.val (.long p0)), .second, (.val (.long p1)), .second, (.val (.long p2)), .second, (.val (.long p3)), .second, (.val (.int p4)), (.val (.int p5)), (.val (.long c1)), .second, (.val (.long s1)), .second, (.val (.long d1)), .second, (.val (.long ee1)), .second, .unset, .unset, .unset, .unset, .unset, .unset, .unset, .unset, .unset, .unset, .unset, .unset, .unset, .unset, .unset, .unset, .unset, .unset, .unset, .unset, .unset, .unset, .unset, .unset, .unset] [])
    refine Owes.by (fun _ kq => XS.iload X0.here hx rfl (hb hby at_48) rfl kq) ?_
    show Owes p e below s (QL n0) room_1.cells room_1.slots s₁ (mkF m 50 #[(.val (.long p0)), .second, (.val (.long p1)), .second, (.val (.long p2)), .second, (.val (.long p3)), .second, (.val (.int p4)), (.val (.int p5)), (.val (.long c1)), .second, (.val (.long s1)), .second, (.val (.long d1)), .second, (.val (.long ee1)), .second, .unset, .unset, .unset, .unset, .unset, .unset, .unset, .unset, .unset, .unset, .unset, .unset, .unset, .unset, .unset, .unset, .unset, .unset, .unset, .unset, .unset, .unset, .unset, .unset, .unset] [(.int p4)])
    refine Owes.by (fun _ kq => XS.iconst X0.here hx rfl (hb hby at_50) kq) ?_
    show Owes p e below s (QL n0) room_1.cells room_1.slots s₁ (mkF m 51 #[(.val (.long p0)), .second, (.val (.long p1)), .second, (.val (.long p2)), .second, (.val (.long p3)), .second, (.val (.int p4)), (.val (.int p5)), (.val (.long c1)), .second, (.val (.long s1)), .second, (.val (.long d1)), .second, (.val (.long ee1)), .second, .unset, .unset, .unset, .unset, .unset, .unset, .unset, .unset, .unset, .unset, .unset, .unset, .unset, .unset, .unset, .unset, .unset, .unset, .unset, .unset, .unset, .unset, .unset, .unset, .unset] [(.int (4 : Int32)), (.int p4)])
    refine Owes.by (fun _ kq => XT.iushr X0.here hx rfl (hb hby at_51) rfl kq) ?_
    show Owes p e below s (QL n0) room_1.cells room_1.slots s₁ (mkF m 52 #[(.val (.long p0)), .second, (.val (.long p1)), .second, (.val (.long p2)), .second, (.val (.long p3)), .second, (.val (.int p4)), (.val (.int p5)), (.val (.long c1)), .second, (.val (.long s1)), .second, (.val (.long d1)), .second, (.val (.long ee1)), .second, .unset, .unset, .unset, .unset, .unset, .unset, .unset, .unset, .unset, .unset, .unset, .unset, .unset, .unset, .unset, .unset, .unset, .unset, .unset, .unset, .unset, .unset, .unset, .unset, .unset] [(.int (XT.ushr p4 (4 : Int32)))])
    refine Owes.by (fun _ kq => XS.bipush X0.here hx rfl (hb hby at_52) kq) ?_
    show Owes p e below s (QL n0) room_1.cells room_1.slots s₁ (mkF m 54 #[(.val (.long p0)), .second, (.val (.long p1)), .second, (.val (.long p2)), .second, (.val (.long p3)), .second, (.val (.int p4)), (.val (.int p5)), (.val (.long c1)), .second, (.val (.long s1)), .second, (.val (.long d1)), .second, (.val (.long ee1)), .second, .unset, .unset, .unset, .unset, .unset, .unset, .unset, .unset, .unset, .unset, .unset, .unset, .unset, .unset, .unset, .unset, .unset, .unset, .unset, .unset, .unset, .unset, .unset, .unset, .unset] [(.int (7 : Int32)), (.int (XT.ushr p4 (4 : Int32)))])
    refine Owes.by (fun _ kq => XS.iand X0.here hx rfl (hb hby at_54) rfl kq) ?_
    show Owes p e below s (QL n0) room_1.cells room_1.slots s₁ (mkF m 55 #[(.val (.long p0)), .second, (.val (.long p1)), .second, (.val (.long p2)), .second, (.val (.long p3)), .second, (.val (.int p4)), (.val (.int p5)), (.val (.long c1)), .second, (.val (.long s1)), .second, (.val (.long d1)), .second, (.val (.long ee1)), .second, .unset, .unset, .unset, .unset, .unset, .unset, .unset, .unset, .unset, .unset, .unset, .unset, .unset, .unset, .unset, .unset, .unset, .unset, .unset, .unset, .unset, .unset, .unset, .unset, .unset] [(.int ((XT.ushr p4 (4 : Int32)) &&& (7 : Int32)))])
    refine Owes.by (fun _ kq => XT.i2l X0.here hx rfl (hb hby at_55) rfl kq) ?_
    show Owes p e below s (QL n0) room_1.cells room_1.slots s₁ (mkF m 56 #[(.val (.long p0)), .second, (.val (.long p1)), .second, (.val (.long p2)), .second, (.val (.long p3)), .second, (.val (.int p4)), (.val (.int p5)), (.val (.long c1)), .second, (.val (.long s1)), .second, (.val (.long d1)), .second, (.val (.long ee1)), .second, .unset, .unset, .unset, .unset, .unset, .unset, .unset, .unset, .unset, .unset, .unset, .unset, .unset, .unset, .unset, .unset, .unset, .unset, .unset, .unset, .unset, .unset, .unset, .unset, .unset] [(.long (((XT.ushr p4 (4 : Int32)) &&& (7 : Int32)).toInt64))])
    exact J1 s₁ X0 e0 (((XT.ushr p4 (4 : Int32)) &&& (7 : Int32)).toInt64) (own_c _)
set_option maxRecDepth 65536 in
set_option maxHeartbeats 40000000 in
theorem comes_1 {Post : Tables → Env → Array Value → State → Outcome → State → Prop} (hpost : ∀ tb e args s v u, (limb_1_1.after args s (.returned v) u = true ∧ limb_1_2.after args s (.returned v) u = true ∧ True) → FrameEnd s (.returned v) u (Jvm.fieldLocs frame_1_writes args s ++ Jvm.arrayLocs frame_1_arrays args s ++ Jvm.staticLocs frame_1_statics s) 16 128 → Post tb e args s (.returned v) u) :
    ArmFor flags0 classFile x code maxLocals ret World_1 tables_1 room_1 Calls_1 rest_1 Pre_1 Post := by
  intro l hfl _ _ p e ha hc hk s m args below hf hA hF happ hP
  obtain ⟨hcalls, hrest, hpre⟩ := hP
  obtain ⟨-, -, -, hnamed, -, -, -, hat⟩ := (Spec.applies_iff hf).mp happ
  obtain ⟨hg, hn⟩ := and_e (Cond.before_iff.mp (show (Jvm.Cond.and given_1 narrow_1).before args s = true from hpre))
  obtain ⟨hgl, hgr⟩ := and_e hg
  obtain ⟨hgrl, hgrr⟩ := and_e hgr
  obtain ⟨hgrrl, hgrrr⟩ := and_e hgrr
  obtain ⟨hgrrrl, hgrrrr⟩ := and_e hgrrr
  obtain ⟨hgrrrrl, hgrrrrr⟩ := and_e hgrrrr
  obtain ⟨hgrrrrrl, hgrrrrrr⟩ := and_e hgrrrrr
  obtain ⟨w0, w1, w2, w3, w4, w5, rfl⟩ : ∃ w0 w1 w2 w3 w4 w5 : Value, args = #[w0, w1, w2, w3, w4, w5] := by
    have hs : args.size = 6 := by simpa [Cond.value, given_1] using hgl
    obtain ⟨L⟩ := args
    match L, hs with
    | [w0, w1, w2, w3, w4, w5], _ => exact ⟨w0, w1, w2, w3, w4, w5, rfl⟩
  have hw := fun d (hd : d ∈ tables_1) => atoms_spec (ws := Jvm.Cond.code x code maxLocals ret :: tables_1) hat d (List.mem_cons_of_mem _ hd)
  have hfit : Fit s := fun {y c} hc i hi => by
    obtain ⟨ha, rfl⟩ := Array.getElem?_eq_some_iff.mp hc
    have q := List.all_eq_true.mp ((Array.all_eq_true_iff_forall_mem.mp hF) _ (Array.getElem_mem ha)) i (List.mem_range.mpr hi)
    simpa [Array.getElem?_eq_getElem hi] using q
  obtain ⟨hsets, hown0⟩ := atoms_of _ (rest_1_c_eq ▸ (show rest_1_c.before _ s = true from hrest))
  obtain ⟨i0, ei0⟩ := isL_v hgrl
  obtain rfl : w0 = (.long i0) := Option.some.inj ei0
  obtain ⟨i1, ei1⟩ := isL_v hgrrl
  obtain rfl : w1 = (.long i1) := Option.some.inj ei1
  obtain ⟨i2, ei2⟩ := isL_v hgrrrl
  obtain rfl : w2 = (.long i2) := Option.some.inj ei2
  obtain ⟨i3, ei3⟩ := isL_v hgrrrrl
  obtain rfl : w3 = (.long i3) := Option.some.inj ei3
  obtain ⟨i4, ei4⟩ := is_v hgrrrrrl
  obtain rfl : w4 = (.int i4) := Option.some.inj ei4
  obtain ⟨i5, ei5⟩ := is_v hgrrrrrr
  obtain rfl : w5 = (.int i5) := Option.some.inj ei5
  have w2 := Cond.before_iff.mp (hsets _ (List.mem_of_getElem? (i := 2) rfl))
  obtain ⟨ca, v_ca⟩ := arr_v w2
  obtain ⟨cl, Ar⟩ := Arr.start v_ca w2
  have S_cache := Sta.start v_ca (Or.inl (hsets _ (List.mem_of_getElem? (i := 1) rfl)))
  have hall := own_hall v_ca Ar (hsets _ (List.mem_of_getElem? (i := 4) rfl)) (Cond.before_iff.mp (hsets _ (List.mem_of_getElem? (i := 5) rfl)))
  obtain ⟨n, o, h1, h2, h3, _, L, rfl, ⟨rfl, N⟩, hq⟩ := rm0 l s _ hw tables_1 i0 i1 i2 i3 i4 i5 ca cl s.heap s.heap.size (Nat.le_refl _) S_cache Ar hall p e ha hc hk s m _ below hf ((Spec.applies_iff_loose hf).mp happ).1 ⟨rfl, State.Warmed39.refl s, rfl⟩ trivial
  refine ⟨n, _, h1, h2, h3, hpost _ _ _ _ _ _ ⟨Cond.after_iff.mpr rfl, Cond.after_iff.mpr (eq_i res_at (Term.int_eval (1)) rfl), trivial⟩ ⟨hq.1, hq.2.1, (hq.2.2.sift fun y hy => Or.inr (N y hy)).mono (by decide) (by decide)⟩⟩
theorem main_1_1 : Claimed_1_1 := comes_1 fun _ _ _ _ _ _ h hF => ⟨h.1, hF⟩
theorem main_1_2 : Claimed_1_2 := comes_1 fun _ _ _ _ _ _ h hF => ⟨h.2.1, hF⟩
end Jvm.Pilot.@@N@@
namespace Jvm.Pilot.@@N@@
open Jvm Jvm.ClassFile Sem Op Lib Jvm.Free Jvm.Stand Jvm.Pilot.@@N@@.Jvm.D
/-! MADE BY PROGRAM (witnessworld.py) out of the Statement's table words and the real class files: 17 classes; the members and pool entries that the words name. The judged class is class 1, her method 1. -/
namespace start1
open Jvm.ClassFile
def u (s : String) : CpInfo := .utf8 (stringToUtf16 s)
/-- a pool by its gaps: so many unusable entries, then the entry; so many at the end -/
def gap : Nat → List CpInfo → List CpInfo
  | 0, r => r
  | n + 1, r => .unusable :: gap n r
def poolList (es : List (Nat × CpInfo)) (last : Nat) : List CpInfo := es.foldr (fun e r => gap e.1 (e.2 :: r)) (gap last [])
def pool (es : List (Nat × CpInfo)) (last : Nat) : Array CpInfo := ⟨poolList es last⟩
def fileOf (pool : Array CpInfo) (this : Nat) (attrs : Array Attribute := #[]) (ms : Array MethodInfo := #[]) (fl : Nat := 33) (sup : Nat := 0) (ifs : Array Nat := #[]) (fds : Array FieldInfo := #[]) : ClassFile where
  minorVersion := 0
  majorVersion := 65
  constantPool := pool
  accessFlags := fl
  thisClass := this
  superClass := sup
  interfaces := ifs
  fields := fds
  methods := ms
  attributes := attrs
def plain (name : String) (sup : Option ClassId) : Class where
  name := name
  kind := .ordinary
  loader := none
  accessFlags := 33
  super := sup
  interfaces := #[]
  cf := none
  fields := #[]
  methods := #[]
  instanceTypes := #[]
  staticTypes := #[]
  resolved := #[]
  callSites := []
  init := .initialized
  statics := none
  mirror := none

def pool0 : Array CpInfo := pool [(5, u "<init>"), (0, u "()V"), (1, .class_ 10), (1, u "java/lang/Object")] 113

def k0c0 : Code := { maxStack := 0, maxLocals := 1, code := object_method_1_code, exceptionTable := #[], attributes := #[] }
def k0m0 : Method := { name := "<init>", desc := "()V", sig := { parameters := [], returnType := none }, accessFlags := 1, code := some k0c0 }
/-- java/lang/Object -/
def k0 : Class := { plain "java/lang/Object" none with
  accessFlags := 33
  interfaces := #[]
  cf := some (fileOf pool0 8 #[] #[{ accessFlags := 1, nameIndex := 5, descriptorIndex := 6, attributes := #[] }] 33 0 #[] #[])
  fields := #[]
  methods := #[k0m0]
  instanceTypes := #[]
  staticTypes := #[]
  resolved := Array.replicate 124 none
  statics := none }

def pool1 : Array CpInfo := pool [(2, .class_ 4), (1, u "java/lang/Object"), (0, u "<init>"), (0, u "()V"), (0, .long 4611686018427387903), (1, .long 1099511627775), (1, .long 1048575), (1, .methodref 14 15), (0, .class_ 16), (0, .nameAndType 17 18), (0, u "java/lang/Math"), (0, u "max"), (0, u "(JJ)J"), (0, .class_ 20), (0, u "com/example/chunkmark/chunkmark/dataset/Range"), (0, .methodref 19 22), (0, .nameAndType 5 23), (0, u "(JJJJ)V"), (0, .methodref 19 25), (0, .nameAndType 26 27), (0, u "equals"), (0, u "(Ljava/lang/Object;)Z"), (0, .methodref 29 30), (0, .class_ 31), (0, .nameAndType 32 33), (0, u "java/lang/Long"), (0, u "valueOf"), (0, u "(J)Ljava/lang/Long;"), (0, .class_ 35), (0, u "com/example/chunkmark/chunkmark/dataset/RangeEqualsPinLaw"), (2, u "law"), (0, u "(JJJJII)Z")] 3

def k1m0 : Method := { name := "<init>", desc := "()V", sig := { parameters := [], returnType := none }, accessFlags := 1, code := none }
def k1c1 : Code := { maxStack := 10, maxLocals := 43, code := code, exceptionTable := #[], attributes := #[] }
def k1m1 : Method := { name := "law", desc := "(JJJJII)Z", sig := { parameters := [.long, .long, .long, .long, .int, .int], returnType := some .boolean }, accessFlags := 9, code := some k1c1 }
/-- com/example/chunkmark/chunkmark/dataset/RangeEqualsPinLaw -/
def k1 : Class := { plain "com/example/chunkmark/chunkmark/dataset/RangeEqualsPinLaw" (some 0) with
  accessFlags := 49
  interfaces := #[]
  cf := some (fileOf pool1 34 #[] #[{ accessFlags := 1, nameIndex := 5, descriptorIndex := 6, attributes := #[] }, { accessFlags := 9, nameIndex := 38, descriptorIndex := 39, attributes := #[] }] 49 2 #[] #[])
  fields := #[]
  methods := #[k1m0, k1m1]
  instanceTypes := #[]
  staticTypes := #[]
  resolved := Array.replicate 43 none
  statics := none }

def pool2 : Array CpInfo := pool [(1, .methodref 2 3), (0, .class_ 4), (0, .nameAndType 5 6), (0, u "java/lang/Object"), (0, u "<init>"), (0, u "()V"), (13, .fieldref 21 22), (0, .class_ 23), (0, .nameAndType 24 25), (0, u "com/example/chunkmark/chunkmark/dataset/Range"), (0, u "length"), (0, u "J"), (0, .fieldref 21 27), (0, .nameAndType 28 25), (0, u "start"), (0, .fieldref 21 30), (0, .nameAndType 31 25), (0, u "stride"), (0, .fieldref 21 33), (0, .nameAndType 34 25), (0, u "count"), (2, u "(JJJJ)V"), (67, u "equals"), (0, u "(Ljava/lang/Object;)Z")] 27

def k2c0 : Code := { maxStack := 10, maxLocals := 11, code := prog_52_method_1_code, exceptionTable := #[], attributes := #[] }
def k2m0 : Method := { name := "<init>", desc := "(JJJJ)V", sig := { parameters := [.long, .long, .long, .long], returnType := none }, accessFlags := 1, code := some k2c0 }
def k2c1 : Code := { maxStack := 4, maxLocals := 3, code := prog_52_method_11_code, exceptionTable := #[], attributes := #[] }
def k2m1 : Method := { name := "equals", desc := "(Ljava/lang/Object;)Z", sig := { parameters := [(.object "java/lang/Object")], returnType := some .boolean }, accessFlags := 1, code := some k2c1 }
/-- com/example/chunkmark/chunkmark/dataset/Range -/
def k2 : Class := { plain "com/example/chunkmark/chunkmark/dataset/Range" (some 0) with
  accessFlags := 49
  interfaces := #[]
  cf := some (fileOf pool2 21 #[] #[{ accessFlags := 1, nameIndex := 5, descriptorIndex := 37, attributes := #[] }, { accessFlags := 1, nameIndex := 105, descriptorIndex := 106, attributes := #[] }] 49 2 #[] #[{ accessFlags := 18, nameIndex := 24, descriptorIndex := 25, attributes := #[] }, { accessFlags := 18, nameIndex := 28, descriptorIndex := 25, attributes := #[] }, { accessFlags := 18, nameIndex := 31, descriptorIndex := 25, attributes := #[] }, { accessFlags := 18, nameIndex := 34, descriptorIndex := 25, attributes := #[] }])
  fields := #[{ name := "length", type := .long, accessFlags := 18, slot := 0, constantValue := 0 }, { name := "start", type := .long, accessFlags := 18, slot := 1, constantValue := 0 }, { name := "stride", type := .long, accessFlags := 18, slot := 2, constantValue := 0 }, { name := "count", type := .long, accessFlags := 18, slot := 3, constantValue := 0 }]
  methods := #[k2m0, k2m1]
  instanceTypes := #[.long, .long, .long, .long]
  staticTypes := #[]
  resolved := Array.replicate 134 none
  statics := none }

def pool3 : Array CpInfo := pool [(1, .class_ 2), (0, u "java/io/Serializable"), (0, .class_ 4), (0, u "java/lang/Object")] 2

/-- java/io/Serializable -/
def k3 : Class := { plain "java/io/Serializable" (some 0) with
  accessFlags := 1537
  interfaces := #[]
  cf := some (fileOf pool3 1 #[] #[] 1537 3 #[] #[])
  fields := #[]
  methods := #[]
  instanceTypes := #[]
  staticTypes := #[]
  resolved := Array.replicate 7 none
  statics := none }

def pool4 : Array CpInfo := pool [(1, .methodref 2 3), (0, .class_ 4), (0, .nameAndType 5 6), (0, u "java/lang/Object"), (0, u "<init>"), (0, u "()V"), (1, .class_ 10), (1, u "java/lang/Number"), (2, .class_ 14), (0, u "java/io/Serializable"), (0, u "serialVersionUID"), (0, u "J")] 20

def k4c0 : Code := { maxStack := 1, maxLocals := 1, code := jdk_18_method_1_code, exceptionTable := #[], attributes := #[] }
def k4m0 : Method := { name := "<init>", desc := "()V", sig := { parameters := [], returnType := none }, accessFlags := 1, code := some k4c0 }
/-- java/lang/Number -/
def k4 : Class := { plain "java/lang/Number" (some 0) with
  accessFlags := 1057
  interfaces := #[3]
  cf := some (fileOf pool4 8 #[] #[{ accessFlags := 1, nameIndex := 5, descriptorIndex := 6, attributes := #[] }] 1057 2 #[13] #[{ accessFlags := 26, nameIndex := 15, descriptorIndex := 16, attributes := #[] }])
  fields := #[{ name := "serialVersionUID", type := .long, accessFlags := 26, slot := 0, constantValue := 0 }]
  methods := #[k4m0]
  instanceTypes := #[]
  staticTypes := #[.long]
  resolved := Array.replicate 37 none
  statics := none }

def pool5 : Array CpInfo := pool [(1, .class_ 2), (0, u "java/lang/Comparable"), (0, .class_ 4), (0, u "java/lang/Object")] 7

/-- java/lang/Comparable -/
def k5 : Class := { plain "java/lang/Comparable" (some 0) with
  accessFlags := 1537
  interfaces := #[]
  cf := some (fileOf pool5 1 #[] #[] 1537 3 #[] #[])
  fields := #[]
  methods := #[]
  instanceTypes := #[]
  staticTypes := #[]
  resolved := Array.replicate 12 none
  statics := none }

def pool6 : Array CpInfo := pool [(1, .class_ 2), (0, u "java/lang/constant/Constable"), (0, .class_ 4), (0, u "java/lang/Object")] 6

/-- java/lang/constant/Constable -/
def k6 : Class := { plain "java/lang/constant/Constable" (some 0) with
  accessFlags := 1537
  interfaces := #[]
  cf := some (fileOf pool6 1 #[] #[] 1537 3 #[] #[])
  fields := #[]
  methods := #[]
  instanceTypes := #[]
  staticTypes := #[]
  resolved := Array.replicate 11 none
  statics := none }

def pool7 : Array CpInfo := pool [(1, .class_ 2), (0, u "java/lang/constant/ConstantDesc"), (0, .class_ 4), (0, u "java/lang/Object")] 32

/-- java/lang/constant/ConstantDesc -/
def k7 : Class := { plain "java/lang/constant/ConstantDesc" (some 0) with
  accessFlags := 1537
  interfaces := #[]
  cf := some (fileOf pool7 1 #[] #[] 1537 3 #[] #[])
  fields := #[]
  methods := #[]
  instanceTypes := #[]
  staticTypes := #[]
  resolved := Array.replicate 37 none
  statics := none }

def pool8 : Array CpInfo := pool [(1, .class_ 2), (0, u "java/lang/Long"), (55, .nameAndType 59 60), (0, u "<init>"), (0, u "()V"), (24, u "valueOf"), (143, u "(J)Ljava/lang/Long;"), (0, .long 18446744073709551488), (1, .long 127), (1, .fieldref 235 236), (0, .class_ 237), (0, .nameAndType 238 239), (0, u "java/lang/Long$LongCache"), (0, u "cache"), (0, u "[Ljava/lang/Long;"), (0, .methodref 1 241), (0, .nameAndType 59 242), (0, u "(J)V"), (27, .methodref 271 58), (0, .class_ 272), (0, u "java/lang/Number"), (0, .fieldref 1 274), (0, .nameAndType 275 276), (0, u "value"), (0, u "J"), (84, u "TYPE"), (0, u "Ljava/lang/Class;"), (0, .class_ 364), (0, u "java/lang/Comparable"), (0, .class_ 366), (0, u "java/lang/constant/Constable"), (0, .class_ 368), (0, u "java/lang/constant/ConstantDesc"), (0, u "MIN_VALUE"), (1, u "MAX_VALUE"), (4, u "SIZE"), (0, u "I"), (1, u "BYTES"), (1, u "serialVersionUID")] 142

def k8c0 : Code := { maxStack := 4, maxLocals := 3, code := jdk_35_method_24_code, exceptionTable := #[], attributes := #[] }
def k8m0 : Method := { name := "valueOf", desc := "(J)Ljava/lang/Long;", sig := { parameters := [.long], returnType := some (.object "java/lang/Long") }, accessFlags := 9, code := some k8c0 }
def k8c1 : Code := { maxStack := 3, maxLocals := 3, code := jdk_35_method_26_code, exceptionTable := #[], attributes := #[] }
def k8m1 : Method := { name := "<init>", desc := "(J)V", sig := { parameters := [.long], returnType := none }, accessFlags := 1, code := some k8c1 }
/-- java/lang/Long -/
def k8 : Class := { plain "java/lang/Long" (some 4) with
  accessFlags := 49
  interfaces := #[5, 6, 7]
  cf := some (fileOf pool8 1 #[.nestMembers #[235]] #[{ accessFlags := 9, nameIndex := 85, descriptorIndex := 229, attributes := #[] }, { accessFlags := 1, nameIndex := 59, descriptorIndex := 242, attributes := #[] }] 49 271 #[363, 365, 367] #[{ accessFlags := 25, nameIndex := 369, descriptorIndex := 276, attributes := #[] }, { accessFlags := 25, nameIndex := 371, descriptorIndex := 276, attributes := #[] }, { accessFlags := 25, nameIndex := 361, descriptorIndex := 362, attributes := #[] }, { accessFlags := 18, nameIndex := 275, descriptorIndex := 276, attributes := #[] }, { accessFlags := 25, nameIndex := 376, descriptorIndex := 377, attributes := #[] }, { accessFlags := 25, nameIndex := 379, descriptorIndex := 377, attributes := #[] }, { accessFlags := 26, nameIndex := 381, descriptorIndex := 276, attributes := #[] }])
  fields := #[{ name := "MIN_VALUE", type := .long, accessFlags := 25, slot := 0, constantValue := 0 }, { name := "MAX_VALUE", type := .long, accessFlags := 25, slot := 1, constantValue := 0 }, { name := "TYPE", type := (.object "java/lang/Class"), accessFlags := 25, slot := 2, constantValue := 0 }, { name := "value", type := .long, accessFlags := 18, slot := 0, constantValue := 0 }, { name := "SIZE", type := .int, accessFlags := 25, slot := 3, constantValue := 0 }, { name := "BYTES", type := .int, accessFlags := 25, slot := 4, constantValue := 0 }, { name := "serialVersionUID", type := .long, accessFlags := 26, slot := 5, constantValue := 0 }]
  methods := #[k8m0, k8m1]
  instanceTypes := #[.long]
  staticTypes := #[.long, .long, (.object "java/lang/Class"), .int, .int, .long]
  resolved := Array.replicate 524 none
  statics := none }

def pool9 : Array CpInfo := pool [(2, .class_ 4), (1, u "java/lang/Object"), (0, u "<init>"), (0, u "()V"), (0, .class_ 8), (0, u "java/lang/Long"), (7, .class_ 18), (1, u "java/lang/Long$LongCache"), (0, u "$assertionsDisabled"), (0, u "Z"), (8, u "archivedCache"), (0, u "[Ljava/lang/Long;"), (7, u "cache")] 24

def k9m0 : Method := { name := "<init>", desc := "()V", sig := { parameters := [], returnType := none }, accessFlags := 2, code := none }
/-- java/lang/Long$LongCache -/
def k9 : Class := { plain "java/lang/Long$LongCache" (some 0) with
  accessFlags := 48
  interfaces := #[]
  cf := some (fileOf pool9 16 #[.nestHost 7] #[{ accessFlags := 2, nameIndex := 5, descriptorIndex := 6, attributes := #[] }] 48 2 #[] #[{ accessFlags := 24, nameIndex := 38, descriptorIndex := 30, attributes := #[] }, { accessFlags := 8, nameIndex := 29, descriptorIndex := 30, attributes := #[] }, { accessFlags := 4120, nameIndex := 19, descriptorIndex := 20, attributes := #[] }])
  fields := #[{ name := "cache", type := (.array (.object "java/lang/Long")), accessFlags := 24, slot := 0, constantValue := 0 }, { name := "archivedCache", type := (.array (.object "java/lang/Long")), accessFlags := 8, slot := 1, constantValue := 0 }, { name := "$assertionsDisabled", type := .boolean, accessFlags := 4120, slot := 2, constantValue := 0 }]
  methods := #[k9m0]
  instanceTypes := #[]
  staticTypes := #[(.array (.object "java/lang/Long")), (.array (.object "java/lang/Long")), .boolean]
  resolved := Array.replicate 63 none
  statics := some 0 }

def pool10 : Array CpInfo := pool [(1, .class_ 2), (0, u "java/lang/Math"), (1, .class_ 6), (1, u "java/lang/Object"), (0, u "<init>"), (0, u "()V"), (89, .class_ 100), (1, u "java/lang/Math$RandomNumberGeneratorHolder"), (20, u "(JJ)J"), (50, u "negativeZeroFloatBits"), (0, u "J"), (2, u "negativeZeroDoubleBits"), (21, u "max"), (46, u "$assertionsDisabled"), (0, u "Z"), (91, u "twoToTheDoubleScaleDown"), (0, u "D"), (4, u "twoToTheDoubleScaleUp"), (9, u "E"), (3, u "PI"), (2, u "TAU"), (2, u "DEGREES_TO_RADIANS"), (0, u "RADIANS_TO_DEGREES")] 94

def k10m0 : Method := { name := "<init>", desc := "()V", sig := { parameters := [], returnType := none }, accessFlags := 2, code := none }
def k10c1 : Code := { maxStack := 4, maxLocals := 4, code := jdk_29_method_66_code, exceptionTable := #[], attributes := #[] }
def k10m1 : Method := { name := "max", desc := "(JJ)J", sig := { parameters := [.long, .long], returnType := some .long }, accessFlags := 9, code := some k10c1 }
/-- java/lang/Math -/
def k10 : Class := { plain "java/lang/Math" (some 0) with
  accessFlags := 49
  interfaces := #[]
  cf := some (fileOf pool10 1 #[.nestMembers #[98]] #[{ accessFlags := 2, nameIndex := 7, descriptorIndex := 8, attributes := #[] }, { accessFlags := 9, nameIndex := 198, descriptorIndex := 121, attributes := #[] }] 49 4 #[] #[{ accessFlags := 25, nameIndex := 354, descriptorIndex := 339, attributes := #[] }, { accessFlags := 25, nameIndex := 358, descriptorIndex := 339, attributes := #[] }, { accessFlags := 25, nameIndex := 361, descriptorIndex := 339, attributes := #[] }, { accessFlags := 26, nameIndex := 364, descriptorIndex := 339, attributes := #[] }, { accessFlags := 26, nameIndex := 365, descriptorIndex := 339, attributes := #[] }, { accessFlags := 26, nameIndex := 172, descriptorIndex := 173, attributes := #[] }, { accessFlags := 26, nameIndex := 176, descriptorIndex := 173, attributes := #[] }, { accessFlags := 8, nameIndex := 344, descriptorIndex := 339, attributes := #[] }, { accessFlags := 8, nameIndex := 338, descriptorIndex := 339, attributes := #[] }, { accessFlags := 4120, nameIndex := 245, descriptorIndex := 246, attributes := #[] }])
  fields := #[{ name := "E", type := .double, accessFlags := 25, slot := 0, constantValue := 0 }, { name := "PI", type := .double, accessFlags := 25, slot := 1, constantValue := 0 }, { name := "TAU", type := .double, accessFlags := 25, slot := 2, constantValue := 0 }, { name := "DEGREES_TO_RADIANS", type := .double, accessFlags := 26, slot := 3, constantValue := 0 }, { name := "RADIANS_TO_DEGREES", type := .double, accessFlags := 26, slot := 4, constantValue := 0 }, { name := "negativeZeroFloatBits", type := .long, accessFlags := 26, slot := 5, constantValue := 0 }, { name := "negativeZeroDoubleBits", type := .long, accessFlags := 26, slot := 6, constantValue := 0 }, { name := "twoToTheDoubleScaleUp", type := .double, accessFlags := 8, slot := 7, constantValue := 0 }, { name := "twoToTheDoubleScaleDown", type := .double, accessFlags := 8, slot := 8, constantValue := 0 }, { name := "$assertionsDisabled", type := .boolean, accessFlags := 4120, slot := 9, constantValue := 0 }]
  methods := #[k10m0, k10m1]
  instanceTypes := #[]
  staticTypes := #[.double, .double, .double, .double, .double, .long, .long, .double, .double, .boolean]
  resolved := Array.replicate 460 none
  statics := none }

def pool11 : Array CpInfo := pool [(1, u "java/lang/Cloneable"), (0, .class_ 1), (0, u "java/lang/Object"), (0, .class_ 3)] 3

/-- java/lang/Cloneable -/
def k11 : Class := { plain "java/lang/Cloneable" (some 0) with
  accessFlags := 1537
  interfaces := #[]
  cf := some (fileOf pool11 2 #[] #[] 1537 4 #[] #[])
  fields := #[]
  methods := #[]
  instanceTypes := #[]
  staticTypes := #[]
  resolved := Array.replicate 8 none
  statics := none }

/-- the primitive byte -/
def k12 : Class := { plain "byte" none with kind := .primitive 'B', accessFlags := 0x411 }
/-- [B -/
def k13 : Class := { plain "[B" (some 0) with kind := .array 12 .byte, interfaces := #[11, 3], accessFlags := 1041 }

/-- the primitive int -/
def k14 : Class := { plain "int" none with kind := .primitive 'I', accessFlags := 0x411 }
/-- [I -/
def k15 : Class := { plain "[I" (some 0) with kind := .array 14 .int, interfaces := #[11, 3], accessFlags := 1041 }

/-- [Ljava/lang/Long; -/
def k16 : Class := { plain "[Ljava/lang/Long;" (some 0) with kind := .array 8 (.object "java/lang/Long"), interfaces := #[11, 3], accessFlags := 1041 }

def heap : Heap := #[{ cls := 9, slots := #[.ref 1, .null, .int 0], vm := .statics 9 },
  { cls := 16, slots := #[.ref 2, .ref 3, .ref 4, .ref 5, .ref 6, .ref 7, .ref 8, .ref 9, .ref 10, .ref 11, .ref 12, .ref 13, .ref 14, .ref 15, .ref 16, .ref 17, .ref 18, .ref 19, .ref 20, .ref 21, .ref 22, .ref 23, .ref 24, .ref 25, .ref 26, .ref 27, .ref 28, .ref 29, .ref 30, .ref 31, .ref 32, .ref 33, .ref 34, .ref 35, .ref 36, .ref 37, .ref 38, .ref 39, .ref 40, .ref 41, .ref 42, .ref 43, .ref 44, .ref 45, .ref 46, .ref 47, .ref 48, .ref 49, .ref 50, .ref 51, .ref 52, .ref 53, .ref 54, .ref 55, .ref 56, .ref 57, .ref 58, .ref 59, .ref 60, .ref 61, .ref 62, .ref 63, .ref 64, .ref 65, .ref 66, .ref 67, .ref 68, .ref 69, .ref 70, .ref 71, .ref 72, .ref 73, .ref 74, .ref 75, .ref 76, .ref 77, .ref 78, .ref 79, .ref 80, .ref 81, .ref 82, .ref 83, .ref 84, .ref 85, .ref 86, .ref 87, .ref 88, .ref 89, .ref 90, .ref 91, .ref 92, .ref 93, .ref 94, .ref 95, .ref 96, .ref 97, .ref 98, .ref 99, .ref 100, .ref 101, .ref 102, .ref 103, .ref 104, .ref 105, .ref 106, .ref 107, .ref 108, .ref 109, .ref 110, .ref 111, .ref 112, .ref 113, .ref 114, .ref 115, .ref 116, .ref 117, .ref 118, .ref 119, .ref 120, .ref 121, .ref 122, .ref 123, .ref 124, .ref 125, .ref 126, .ref 127, .ref 128, .ref 129, .ref 130, .ref 131, .ref 132, .ref 133, .ref 134, .ref 135, .ref 136, .ref 137, .ref 138, .ref 139, .ref 140, .ref 141, .ref 142, .ref 143, .ref 144, .ref 145, .ref 146, .ref 147, .ref 148, .ref 149, .ref 150, .ref 151, .ref 152, .ref 153, .ref 154, .ref 155, .ref 156, .ref 157, .ref 158, .ref 159, .ref 160, .ref 161, .ref 162, .ref 163, .ref 164, .ref 165, .ref 166, .ref 167, .ref 168, .ref 169, .ref 170, .ref 171, .ref 172, .ref 173, .ref 174, .ref 175, .ref 176, .ref 177, .ref 178, .ref 179, .ref 180, .ref 181, .ref 182, .ref 183, .ref 184, .ref 185, .ref 186, .ref 187, .ref 188, .ref 189, .ref 190, .ref 191, .ref 192, .ref 193, .ref 194, .ref 195, .ref 196, .ref 197, .ref 198, .ref 199, .ref 200, .ref 201, .ref 202, .ref 203, .ref 204, .ref 205, .ref 206, .ref 207, .ref 208, .ref 209, .ref 210, .ref 211, .ref 212, .ref 213, .ref 214, .ref 215, .ref 216, .ref 217, .ref 218, .ref 219, .ref 220, .ref 221, .ref 222, .ref 223, .ref 224, .ref 225, .ref 226, .ref 227, .ref 228, .ref 229, .ref 230, .ref 231, .ref 232, .ref 233, .ref 234, .ref 235, .ref 236, .ref 237, .ref 238, .ref 239, .ref 240, .ref 241, .ref 242, .ref 243, .ref 244, .ref 245, .ref 246, .ref 247, .ref 248, .ref 249, .ref 250, .ref 251, .ref 252, .ref 253, .ref 254, .ref 255, .ref 256, .ref 257], vm := .none },
  { cls := 8, slots := #[.long (-128)], vm := .none },
  { cls := 8, slots := #[.long (-127)], vm := .none },
  { cls := 8, slots := #[.long (-126)], vm := .none },
  { cls := 8, slots := #[.long (-125)], vm := .none },
  { cls := 8, slots := #[.long (-124)], vm := .none },
  { cls := 8, slots := #[.long (-123)], vm := .none },
  { cls := 8, slots := #[.long (-122)], vm := .none },
  { cls := 8, slots := #[.long (-121)], vm := .none },
  { cls := 8, slots := #[.long (-120)], vm := .none },
  { cls := 8, slots := #[.long (-119)], vm := .none },
  { cls := 8, slots := #[.long (-118)], vm := .none },
  { cls := 8, slots := #[.long (-117)], vm := .none },
  { cls := 8, slots := #[.long (-116)], vm := .none },
  { cls := 8, slots := #[.long (-115)], vm := .none },
  { cls := 8, slots := #[.long (-114)], vm := .none },
  { cls := 8, slots := #[.long (-113)], vm := .none },
  { cls := 8, slots := #[.long (-112)], vm := .none },
  { cls := 8, slots := #[.long (-111)], vm := .none },
  { cls := 8, slots := #[.long (-110)], vm := .none },
  { cls := 8, slots := #[.long (-109)], vm := .none },
  { cls := 8, slots := #[.long (-108)], vm := .none },
  { cls := 8, slots := #[.long (-107)], vm := .none },
  { cls := 8, slots := #[.long (-106)], vm := .none },
  { cls := 8, slots := #[.long (-105)], vm := .none },
  { cls := 8, slots := #[.long (-104)], vm := .none },
  { cls := 8, slots := #[.long (-103)], vm := .none },
  { cls := 8, slots := #[.long (-102)], vm := .none },
  { cls := 8, slots := #[.long (-101)], vm := .none },
  { cls := 8, slots := #[.long (-100)], vm := .none },
  { cls := 8, slots := #[.long (-99)], vm := .none },
  { cls := 8, slots := #[.long (-98)], vm := .none },
  { cls := 8, slots := #[.long (-97)], vm := .none },
  { cls := 8, slots := #[.long (-96)], vm := .none },
  { cls := 8, slots := #[.long (-95)], vm := .none },
  { cls := 8, slots := #[.long (-94)], vm := .none },
  { cls := 8, slots := #[.long (-93)], vm := .none },
  { cls := 8, slots := #[.long (-92)], vm := .none },
  { cls := 8, slots := #[.long (-91)], vm := .none },
  { cls := 8, slots := #[.long (-90)], vm := .none },
  { cls := 8, slots := #[.long (-89)], vm := .none },
  { cls := 8, slots := #[.long (-88)], vm := .none },
  { cls := 8, slots := #[.long (-87)], vm := .none },
  { cls := 8, slots := #[.long (-86)], vm := .none },
  { cls := 8, slots := #[.long (-85)], vm := .none },
  { cls := 8, slots := #[.long (-84)], vm := .none },
  { cls := 8, slots := #[.long (-83)], vm := .none },
  { cls := 8, slots := #[.long (-82)], vm := .none },
  { cls := 8, slots := #[.long (-81)], vm := .none },
  { cls := 8, slots := #[.long (-80)], vm := .none },
  { cls := 8, slots := #[.long (-79)], vm := .none },
  { cls := 8, slots := #[.long (-78)], vm := .none },
  { cls := 8, slots := #[.long (-77)], vm := .none },
  { cls := 8, slots := #[.long (-76)], vm := .none },
  { cls := 8, slots := #[.long (-75)], vm := .none },
  { cls := 8, slots := #[.long (-74)], vm := .none },
  { cls := 8, slots := #[.long (-73)], vm := .none },
  { cls := 8, slots := #[.long (-72)], vm := .none },
  { cls := 8, slots := #[.long (-71)], vm := .none },
  { cls := 8, slots := #[.long (-70)], vm := .none },
  { cls := 8, slots := #[.long (-69)], vm := .none },
  { cls := 8, slots := #[.long (-68)], vm := .none },
  { cls := 8, slots := #[.long (-67)], vm := .none },
  { cls := 8, slots := #[.long (-66)], vm := .none },
  { cls := 8, slots := #[.long (-65)], vm := .none },
  { cls := 8, slots := #[.long (-64)], vm := .none },
  { cls := 8, slots := #[.long (-63)], vm := .none },
  { cls := 8, slots := #[.long (-62)], vm := .none },
  { cls := 8, slots := #[.long (-61)], vm := .none },
  { cls := 8, slots := #[.long (-60)], vm := .none },
  { cls := 8, slots := #[.long (-59)], vm := .none },
  { cls := 8, slots := #[.long (-58)], vm := .none },
  { cls := 8, slots := #[.long (-57)], vm := .none },
  { cls := 8, slots := #[.long (-56)], vm := .none },
  { cls := 8, slots := #[.long (-55)], vm := .none },
  { cls := 8, slots := #[.long (-54)], vm := .none },
  { cls := 8, slots := #[.long (-53)], vm := .none },
  { cls := 8, slots := #[.long (-52)], vm := .none },
  { cls := 8, slots := #[.long (-51)], vm := .none },
  { cls := 8, slots := #[.long (-50)], vm := .none },
  { cls := 8, slots := #[.long (-49)], vm := .none },
  { cls := 8, slots := #[.long (-48)], vm := .none },
  { cls := 8, slots := #[.long (-47)], vm := .none },
  { cls := 8, slots := #[.long (-46)], vm := .none },
  { cls := 8, slots := #[.long (-45)], vm := .none },
  { cls := 8, slots := #[.long (-44)], vm := .none },
  { cls := 8, slots := #[.long (-43)], vm := .none },
  { cls := 8, slots := #[.long (-42)], vm := .none },
  { cls := 8, slots := #[.long (-41)], vm := .none },
  { cls := 8, slots := #[.long (-40)], vm := .none },
  { cls := 8, slots := #[.long (-39)], vm := .none },
  { cls := 8, slots := #[.long (-38)], vm := .none },
  { cls := 8, slots := #[.long (-37)], vm := .none },
  { cls := 8, slots := #[.long (-36)], vm := .none },
  { cls := 8, slots := #[.long (-35)], vm := .none },
  { cls := 8, slots := #[.long (-34)], vm := .none },
  { cls := 8, slots := #[.long (-33)], vm := .none },
  { cls := 8, slots := #[.long (-32)], vm := .none },
  { cls := 8, slots := #[.long (-31)], vm := .none },
  { cls := 8, slots := #[.long (-30)], vm := .none },
  { cls := 8, slots := #[.long (-29)], vm := .none },
  { cls := 8, slots := #[.long (-28)], vm := .none },
  { cls := 8, slots := #[.long (-27)], vm := .none },
  { cls := 8, slots := #[.long (-26)], vm := .none },
  { cls := 8, slots := #[.long (-25)], vm := .none },
  { cls := 8, slots := #[.long (-24)], vm := .none },
  { cls := 8, slots := #[.long (-23)], vm := .none },
  { cls := 8, slots := #[.long (-22)], vm := .none },
  { cls := 8, slots := #[.long (-21)], vm := .none },
  { cls := 8, slots := #[.long (-20)], vm := .none },
  { cls := 8, slots := #[.long (-19)], vm := .none },
  { cls := 8, slots := #[.long (-18)], vm := .none },
  { cls := 8, slots := #[.long (-17)], vm := .none },
  { cls := 8, slots := #[.long (-16)], vm := .none },
  { cls := 8, slots := #[.long (-15)], vm := .none },
  { cls := 8, slots := #[.long (-14)], vm := .none },
  { cls := 8, slots := #[.long (-13)], vm := .none },
  { cls := 8, slots := #[.long (-12)], vm := .none },
  { cls := 8, slots := #[.long (-11)], vm := .none },
  { cls := 8, slots := #[.long (-10)], vm := .none },
  { cls := 8, slots := #[.long (-9)], vm := .none },
  { cls := 8, slots := #[.long (-8)], vm := .none },
  { cls := 8, slots := #[.long (-7)], vm := .none },
  { cls := 8, slots := #[.long (-6)], vm := .none },
  { cls := 8, slots := #[.long (-5)], vm := .none },
  { cls := 8, slots := #[.long (-4)], vm := .none },
  { cls := 8, slots := #[.long (-3)], vm := .none },
  { cls := 8, slots := #[.long (-2)], vm := .none },
  { cls := 8, slots := #[.long (-1)], vm := .none },
  { cls := 8, slots := #[.long (0)], vm := .none },
  { cls := 8, slots := #[.long (1)], vm := .none },
  { cls := 8, slots := #[.long (2)], vm := .none },
  { cls := 8, slots := #[.long (3)], vm := .none },
  { cls := 8, slots := #[.long (4)], vm := .none },
  { cls := 8, slots := #[.long (5)], vm := .none },
  { cls := 8, slots := #[.long (6)], vm := .none },
  { cls := 8, slots := #[.long (7)], vm := .none },
  { cls := 8, slots := #[.long (8)], vm := .none },
  { cls := 8, slots := #[.long (9)], vm := .none },
  { cls := 8, slots := #[.long (10)], vm := .none },
  { cls := 8, slots := #[.long (11)], vm := .none },
  { cls := 8, slots := #[.long (12)], vm := .none },
  { cls := 8, slots := #[.long (13)], vm := .none },
  { cls := 8, slots := #[.long (14)], vm := .none },
  { cls := 8, slots := #[.long (15)], vm := .none },
  { cls := 8, slots := #[.long (16)], vm := .none },
  { cls := 8, slots := #[.long (17)], vm := .none },
  { cls := 8, slots := #[.long (18)], vm := .none },
  { cls := 8, slots := #[.long (19)], vm := .none },
  { cls := 8, slots := #[.long (20)], vm := .none },
  { cls := 8, slots := #[.long (21)], vm := .none },
  { cls := 8, slots := #[.long (22)], vm := .none },
  { cls := 8, slots := #[.long (23)], vm := .none },
  { cls := 8, slots := #[.long (24)], vm := .none },
  { cls := 8, slots := #[.long (25)], vm := .none },
  { cls := 8, slots := #[.long (26)], vm := .none },
  { cls := 8, slots := #[.long (27)], vm := .none },
  { cls := 8, slots := #[.long (28)], vm := .none },
  { cls := 8, slots := #[.long (29)], vm := .none },
  { cls := 8, slots := #[.long (30)], vm := .none },
  { cls := 8, slots := #[.long (31)], vm := .none },
  { cls := 8, slots := #[.long (32)], vm := .none },
  { cls := 8, slots := #[.long (33)], vm := .none },
  { cls := 8, slots := #[.long (34)], vm := .none },
  { cls := 8, slots := #[.long (35)], vm := .none },
  { cls := 8, slots := #[.long (36)], vm := .none },
  { cls := 8, slots := #[.long (37)], vm := .none },
  { cls := 8, slots := #[.long (38)], vm := .none },
  { cls := 8, slots := #[.long (39)], vm := .none },
  { cls := 8, slots := #[.long (40)], vm := .none },
  { cls := 8, slots := #[.long (41)], vm := .none },
  { cls := 8, slots := #[.long (42)], vm := .none },
  { cls := 8, slots := #[.long (43)], vm := .none },
  { cls := 8, slots := #[.long (44)], vm := .none },
  { cls := 8, slots := #[.long (45)], vm := .none },
  { cls := 8, slots := #[.long (46)], vm := .none },
  { cls := 8, slots := #[.long (47)], vm := .none },
  { cls := 8, slots := #[.long (48)], vm := .none },
  { cls := 8, slots := #[.long (49)], vm := .none },
  { cls := 8, slots := #[.long (50)], vm := .none },
  { cls := 8, slots := #[.long (51)], vm := .none },
  { cls := 8, slots := #[.long (52)], vm := .none },
  { cls := 8, slots := #[.long (53)], vm := .none },
  { cls := 8, slots := #[.long (54)], vm := .none },
  { cls := 8, slots := #[.long (55)], vm := .none },
  { cls := 8, slots := #[.long (56)], vm := .none },
  { cls := 8, slots := #[.long (57)], vm := .none },
  { cls := 8, slots := #[.long (58)], vm := .none },
  { cls := 8, slots := #[.long (59)], vm := .none },
  { cls := 8, slots := #[.long (60)], vm := .none },
  { cls := 8, slots := #[.long (61)], vm := .none },
  { cls := 8, slots := #[.long (62)], vm := .none },
  { cls := 8, slots := #[.long (63)], vm := .none },
  { cls := 8, slots := #[.long (64)], vm := .none },
  { cls := 8, slots := #[.long (65)], vm := .none },
  { cls := 8, slots := #[.long (66)], vm := .none },
  { cls := 8, slots := #[.long (67)], vm := .none },
  { cls := 8, slots := #[.long (68)], vm := .none },
  { cls := 8, slots := #[.long (69)], vm := .none },
  { cls := 8, slots := #[.long (70)], vm := .none },
  { cls := 8, slots := #[.long (71)], vm := .none },
  { cls := 8, slots := #[.long (72)], vm := .none },
  { cls := 8, slots := #[.long (73)], vm := .none },
  { cls := 8, slots := #[.long (74)], vm := .none },
  { cls := 8, slots := #[.long (75)], vm := .none },
  { cls := 8, slots := #[.long (76)], vm := .none },
  { cls := 8, slots := #[.long (77)], vm := .none },
  { cls := 8, slots := #[.long (78)], vm := .none },
  { cls := 8, slots := #[.long (79)], vm := .none },
  { cls := 8, slots := #[.long (80)], vm := .none },
  { cls := 8, slots := #[.long (81)], vm := .none },
  { cls := 8, slots := #[.long (82)], vm := .none },
  { cls := 8, slots := #[.long (83)], vm := .none },
  { cls := 8, slots := #[.long (84)], vm := .none },
  { cls := 8, slots := #[.long (85)], vm := .none },
  { cls := 8, slots := #[.long (86)], vm := .none },
  { cls := 8, slots := #[.long (87)], vm := .none },
  { cls := 8, slots := #[.long (88)], vm := .none },
  { cls := 8, slots := #[.long (89)], vm := .none },
  { cls := 8, slots := #[.long (90)], vm := .none },
  { cls := 8, slots := #[.long (91)], vm := .none },
  { cls := 8, slots := #[.long (92)], vm := .none },
  { cls := 8, slots := #[.long (93)], vm := .none },
  { cls := 8, slots := #[.long (94)], vm := .none },
  { cls := 8, slots := #[.long (95)], vm := .none },
  { cls := 8, slots := #[.long (96)], vm := .none },
  { cls := 8, slots := #[.long (97)], vm := .none },
  { cls := 8, slots := #[.long (98)], vm := .none },
  { cls := 8, slots := #[.long (99)], vm := .none },
  { cls := 8, slots := #[.long (100)], vm := .none },
  { cls := 8, slots := #[.long (101)], vm := .none },
  { cls := 8, slots := #[.long (102)], vm := .none },
  { cls := 8, slots := #[.long (103)], vm := .none },
  { cls := 8, slots := #[.long (104)], vm := .none },
  { cls := 8, slots := #[.long (105)], vm := .none },
  { cls := 8, slots := #[.long (106)], vm := .none },
  { cls := 8, slots := #[.long (107)], vm := .none },
  { cls := 8, slots := #[.long (108)], vm := .none },
  { cls := 8, slots := #[.long (109)], vm := .none },
  { cls := 8, slots := #[.long (110)], vm := .none },
  { cls := 8, slots := #[.long (111)], vm := .none },
  { cls := 8, slots := #[.long (112)], vm := .none },
  { cls := 8, slots := #[.long (113)], vm := .none },
  { cls := 8, slots := #[.long (114)], vm := .none },
  { cls := 8, slots := #[.long (115)], vm := .none },
  { cls := 8, slots := #[.long (116)], vm := .none },
  { cls := 8, slots := #[.long (117)], vm := .none },
  { cls := 8, slots := #[.long (118)], vm := .none },
  { cls := 8, slots := #[.long (119)], vm := .none },
  { cls := 8, slots := #[.long (120)], vm := .none },
  { cls := 8, slots := #[.long (121)], vm := .none },
  { cls := 8, slots := #[.long (122)], vm := .none },
  { cls := 8, slots := #[.long (123)], vm := .none },
  { cls := 8, slots := #[.long (124)], vm := .none },
  { cls := 8, slots := #[.long (125)], vm := .none },
  { cls := 8, slots := #[.long (126)], vm := .none },
  { cls := 8, slots := #[.long (127)], vm := .none }]
def classes : Array Class := #[k0, k1, k2, k3, k4, k5, k6, k7, k8, k9, k10, k11, k12, k13, k14, k15, k16]
def interned : List (Array UInt16 × Addr) := []
def slotsUsed : Nat := 515
def theMethod : MethodId := ⟨1, 1⟩
def args0 : Array Value := #[.long 3, .long 4, .long 5, .long 6, .int 7, .int 8]
def aboutOver (below : List Frame) : State where
  vm := { classes := classes, interned := interned.toArray }
  heap := heap
  slotsUsed := slotsUsed
  threads := #[{ frames := .invoking theMethod args0 :: below }]
def below0 : List Frame := [.native { method := ⟨0, 0⟩, args := #[] }]
def about1 : State := aboutOver below0
def p0 : Program := .bare "" "" ""
def e0 : Env := launch0.env 0 0 0
theorem w_frames : about1.frames = Frame.invoking theMethod args0 :: below0 := rfl
set_option maxRecDepth 65536 in
theorem w_args : argsFit about1.vm theMethod args0 = true := by decide +kernel
set_option maxRecDepth 65536 in
theorem w_heap : heapFits about1 = true := by decide +kernel
set_option maxRecDepth 65536 in
theorem w_runnable : about1.curStatus? = some .runnable := by decide +kernel
set_option maxRecDepth 65536 in
theorem w_alone : about1.alone = true := by decide +kernel
set_option maxRecDepth 65536 in
theorem w_named : about1.methodNamed? x = some theMethod := by decide +kernel
set_option maxRecDepth 65536 in
theorem w_hears : about1.hears theMethod below0 = true := by decide +kernel
set_option maxRecDepth 65536 in
theorem w_ripe : about1.ripe theMethod args0 below0 = true := by decide +kernel
theorem w_running : about1.status = .running := rfl
set_option maxRecDepth 65536 in
theorem w_room : about1.hasRoom e0.platform room_1 = true :=
  launch0.hasRoom_least _ room_1 (by decide +kernel) (by decide +kernel) (by decide +kernel) (by decide +kernel) (by decide +kernel) (by decide +kernel)
theorem allAtoms_all (ts : List Jvm.Cond) (a : Array Jvm.Value) (st : Jvm.State) : (allAtoms ts).before a st = ts.all (fun c => c.before a st) := by
  induction ts with
  | nil => rfl
  | cons c t ih =>
    show (Jvm.Cond.and c (allAtoms t)).before a st = _
    rw [Jvm.Cond.before_and, ih, List.all_cons]
def words1 : List Jvm.Cond := Jvm.Cond.code x code maxLocals ret :: tables_1
/-- a 'code' word, met by the world's own term for the bytes: nothing is compared byte by byte -/
theorem code_word {y : MethodName} {bytes : ByteArray} {mx : Nat} {rt : Option FieldType} {a : Array Value} {s : State} {m : MethodId} {meth : Method} {c : Code} (h1 : s.methodNamed? y = some m) (h2 : s.vm.method? m = some meth) (h3 : meth.code = some c) (h4 : c.code = bytes)
    (h5 : (c.maxLocals == mx && c.exceptionTable.isEmpty && decide (c.maxStack ≤ mostOperands) && decide (meth.sig.returnType = rt) && !meth.locks && decide (parseMethodDescriptor y.desc = some meth.sig)) = true) : (Jvm.Cond.code y bytes mx rt).before a s = true := by
  simp only [Bool.and_eq_true, beq_iff_eq, Bool.not_eq_true', decide_eq_true_eq] at h5
  obtain ⟨⟨⟨⟨⟨g1, g2⟩, g3⟩, g4⟩, g5⟩, g6⟩ := h5
  simp [Cond.before, Cond.holds, Cond.value, h1, h2, h3, h4, g1, g2, g3, g4, g5, g6]
def isCode : Jvm.Cond → Bool
  | .code _ _ _ _ => true
  | _ => false
theorem all_split {L : List Jvm.Cond} {P : Jvm.Cond → Bool} (h1 : L.all (fun c => isCode c || P c) = true) (h2 : ∀ c ∈ L.filter isCode, P c = true) : L.all P = true := by
  refine List.all_eq_true.mpr fun c hc => ?_
  have h := List.all_eq_true.mp h1 c hc
  rcases Bool.eq_false_or_eq_true (isCode c) with hi | hi
  · exact h2 c (List.mem_filter.mpr ⟨hc, hi⟩)
  · simpa [hi] using h
set_option maxRecDepth 65536 in
theorem w_c0 : (Jvm.Cond.code x code maxLocals ret).before args0 about1 = true := code_word (m := ⟨1, 1⟩) (meth := k1m1) (c := k1c1) (by decide +kernel) rfl rfl rfl (by decide +kernel)
set_option maxRecDepth 65536 in
theorem w_c1 : (Jvm.Cond.code ({ cls := "com/example/chunkmark/chunkmark/dataset/Range", name := "<init>", desc := "(JJJJ)V" } : Jvm.MethodName) prog_52_method_1_code (11 : Nat) (Option.none : Option Jvm.ClassFile.FieldType)).before args0 about1 = true := code_word (m := ⟨2, 0⟩) (meth := k2m0) (c := k2c0) (by decide +kernel) rfl rfl rfl (by decide +kernel)
set_option maxRecDepth 65536 in
theorem w_c2 : (Jvm.Cond.code ({ cls := "java/lang/Object", name := "<init>", desc := "()V" } : Jvm.MethodName) object_method_1_code (1 : Nat) (Option.none : Option Jvm.ClassFile.FieldType)).before args0 about1 = true := code_word (m := ⟨0, 0⟩) (meth := k0m0) (c := k0c0) (by decide +kernel) rfl rfl rfl (by decide +kernel)
set_option maxRecDepth 65536 in
theorem w_c3 : (Jvm.Cond.code ({ cls := "com/example/chunkmark/chunkmark/dataset/Range", name := "equals", desc := "(Ljava/lang/Object;)Z" } : Jvm.MethodName) prog_52_method_11_code (3 : Nat) (Option.some Jvm.ClassFile.FieldType.boolean)).before args0 about1 = true := code_word (m := ⟨2, 1⟩) (meth := k2m1) (c := k2c1) (by decide +kernel) rfl rfl rfl (by decide +kernel)
set_option maxRecDepth 65536 in
theorem w_c4 : (Jvm.Cond.code ({ cls := "java/lang/Long", name := "valueOf", desc := "(J)Ljava/lang/Long;" } : Jvm.MethodName) jdk_35_method_24_code (3 : Nat) (Option.some (Jvm.ClassFile.FieldType.object "java/lang/Long"))).before args0 about1 = true := code_word (m := ⟨8, 0⟩) (meth := k8m0) (c := k8c0) (by decide +kernel) rfl rfl rfl (by decide +kernel)
set_option maxRecDepth 65536 in
theorem w_c5 : (Jvm.Cond.code ({ cls := "java/lang/Long", name := "<init>", desc := "(J)V" } : Jvm.MethodName) jdk_35_method_26_code (3 : Nat) (Option.none : Option Jvm.ClassFile.FieldType)).before args0 about1 = true := code_word (m := ⟨8, 1⟩) (meth := k8m1) (c := k8c1) (by decide +kernel) rfl rfl rfl (by decide +kernel)
set_option maxRecDepth 65536 in
theorem w_c6 : (Jvm.Cond.code ({ cls := "java/lang/Number", name := "<init>", desc := "()V" } : Jvm.MethodName) jdk_18_method_1_code (1 : Nat) (Option.none : Option Jvm.ClassFile.FieldType)).before args0 about1 = true := code_word (m := ⟨4, 0⟩) (meth := k4m0) (c := k4c0) (by decide +kernel) rfl rfl rfl (by decide +kernel)
set_option maxRecDepth 65536 in
theorem w_c7 : (Jvm.Cond.code ({ cls := "java/lang/Math", name := "max", desc := "(JJ)J" } : Jvm.MethodName) jdk_29_method_66_code (4 : Nat) (Option.some Jvm.ClassFile.FieldType.long)).before args0 about1 = true := code_word (m := ⟨10, 1⟩) (meth := k10m1) (c := k10c1) (by decide +kernel) rfl rfl rfl (by decide +kernel)
def codes1 : List Jvm.Cond := [Jvm.Cond.code x code maxLocals ret, Jvm.Cond.code ({ cls := "com/example/chunkmark/chunkmark/dataset/Range", name := "<init>", desc := "(JJJJ)V" } : Jvm.MethodName) prog_52_method_1_code (11 : Nat) (Option.none : Option Jvm.ClassFile.FieldType), Jvm.Cond.code ({ cls := "java/lang/Object", name := "<init>", desc := "()V" } : Jvm.MethodName) object_method_1_code (1 : Nat) (Option.none : Option Jvm.ClassFile.FieldType), Jvm.Cond.code ({ cls := "com/example/chunkmark/chunkmark/dataset/Range", name := "equals", desc := "(Ljava/lang/Object;)Z" } : Jvm.MethodName) prog_52_method_11_code (3 : Nat) (Option.some Jvm.ClassFile.FieldType.boolean), Jvm.Cond.code ({ cls := "java/lang/Long", name := "valueOf", desc := "(J)Ljava/lang/Long;" } : Jvm.MethodName) jdk_35_method_24_code (3 : Nat) (Option.some (Jvm.ClassFile.FieldType.object "java/lang/Long")), Jvm.Cond.code ({ cls := "java/lang/Long", name := "<init>", desc := "(J)V" } : Jvm.MethodName) jdk_35_method_26_code (3 : Nat) (Option.none : Option Jvm.ClassFile.FieldType), Jvm.Cond.code ({ cls := "java/lang/Number", name := "<init>", desc := "()V" } : Jvm.MethodName) jdk_18_method_1_code (1 : Nat) (Option.none : Option Jvm.ClassFile.FieldType), Jvm.Cond.code ({ cls := "java/lang/Math", name := "max", desc := "(JJ)J" } : Jvm.MethodName) jdk_29_method_66_code (4 : Nat) (Option.some Jvm.ClassFile.FieldType.long)]
set_option maxRecDepth 65536 in
theorem codes_eq : words1.filter isCode = codes1 := rfl
theorem w_codes : ∀ c ∈ words1.filter isCode, c.before args0 about1 = true := by
  rw [codes_eq]
  intro c hc
  simp only [codes1, List.mem_cons, List.not_mem_nil, or_false] at hc
  rcases hc with rfl | rfl | rfl | rfl | rfl | rfl | rfl | rfl
  · exact w_c0
  · exact w_c1
  · exact w_c2
  · exact w_c3
  · exact w_c4
  · exact w_c5
  · exact w_c6
  · exact w_c7
set_option maxRecDepth 65536 in
theorem w_t1 : (words1.take 24).all (fun c => isCode c || c.before args0 about1) = true := by decide +kernel
set_option maxRecDepth 65536 in
theorem w_t2 : ((words1.drop 24).take 24).all (fun c => isCode c || c.before args0 about1) = true := by decide +kernel
set_option maxRecDepth 65536 in
theorem w_t3 : ((words1.drop 24).drop 24).all (fun c => isCode c || c.before args0 about1) = true := by decide +kernel
theorem w_tables : (allAtoms (Jvm.Cond.code x code maxLocals ret :: tables_1)).before args0 about1 = true := by
  rw [allAtoms_all]
  show words1.all (fun c => c.before args0 about1) = true
  refine all_split ?_ w_codes
  rw [← List.take_append_drop 24 words1, List.all_append, w_t1, ← List.take_append_drop 24 (words1.drop 24), List.all_append, w_t2, w_t3]
  rfl
set_option maxRecDepth 65536 in
theorem w_rest : rest_1_c.before args0 about1 = true := by decide +kernel
set_option maxRecDepth 65536 in
theorem w_case : (Jvm.Cond.and given_1 narrow_1).before args0 about1 = true := by decide +kernel
theorem w_applies : (headSpec (Jvm.Cond.code x code maxLocals ret :: tables_1) room_1).applies x e0.platform about1 = true :=
  (Spec.applies_iff w_frames).mpr ⟨w_running, w_runnable, w_alone, w_named, w_hears, w_ripe, w_room, w_tables⟩
theorem atStart : AtStart classFile x code maxLocals ret World_1 tables_1 room_1 Calls_1 rest_1 Pre_1 launch0 p0 e0 about1 theMethod args0 below0 :=
  ⟨lists_1, trivial, launch0.admits_env _ _ _, launch0.least_env, fairChoices_fair.cas, fairChoices_fair.clock, w_frames, w_args, w_heap, w_applies, trivial, w_rest, w_case⟩
end start1
theorem witness_1 : WitnessClaimed_1 := ⟨start1.p0, start1.e0, start1.about1, start1.theMethod, start1.args0, start1.below0, start1.atStart⟩
end Jvm.Pilot.@@N@@
