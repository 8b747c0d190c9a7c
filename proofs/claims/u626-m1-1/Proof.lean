import JvmDerived
import JvmDerived.Pilot.@@N@@Statement
import JvmDerived.Pilot.@@N@@Code
set_option linter.unusedVariables false
set_option linter.unusedSimpArgs false
namespace Jvm.Pilot.@@N@@
open Jvm Jvm.ClassFile Sem Op Lib Jvm.Free Jvm.Stand Jvm.LawKit Jvm.RoadKit Bundle Jvm.Pilot.@@N@@.Jvm.D
section Own
variable {p : Program} {l : Launch} {e : Env} {R : Room} {s : State} {m : MethodId} {args : Array Value} {below : List Frame} {meth : Method} {c : Code} {T T' : State} {locs : List Loc} {cells slots : Nat}
/-- what a walk owes from where it stands: it comes back, with what Q says -/
def Owes (p : Program) (e : Env) (below : List Frame) (s : State) (Q : Option Value → Heap → List Loc → Prop) (k n : Nat) (T : State) (f : JFrame) : Prop :=
  ∃ s₂ o, Steps p.tables e below (T.setTop f) s₂ ∧ s₂.status = .running ∧ Ended s₂ below o ∧ ∃ v L, o = .returned v ∧ Q v s₂.heap L ∧ FrameEnd s o s₂ L k n
theorem Owes.by {Q : Option Value → Heap → List Loc → Prop} {k n : Nat} {f f' : JFrame} (st : ∀ t, Steps p.tables e below (T'.setTop f') t → Steps p.tables e below (T.setTop f) t) (h : Owes p e below s Q k n T' f') : Owes p e below s Q k n T f := by
  obtain ⟨s₂, o, h1, h2⟩ := h
  exact ⟨s₂, o, st _ h1, h2⟩
theorem Owes.ret {Q : Option Value → Heap → List Loc → Prop} {k n : Nat} {f : JFrame} (X : Stand p l e R s m args below meth c T locs cells slots) {v : Option Value} (hv : meth.sig.returnType = none → v = none) (hlk : meth.locks = false)
    (hQ : Q v T.heap locs) (hk : cells ≤ k) (hn : slots ≤ n) (st : ∀ fs, (∀ (f : JFrame) (acts : List Action), f.method = m → f.locked = none → f.entered = [] → (doReturn e (T.setTop f) acts v).1 = T.setFrames fs) → Steps p.tables e below (T.setTop f) (T.setFrames fs)) : Owes p e below s Q k n T f := by
  obtain ⟨fs, hr, hrun, hended, hW, hsame⟩ := X.leave (v := v) hv hlk
  exact ⟨_, _, st fs hr, hrun, hended, _, _, rfl, hQ, ⟨_, rfl⟩, hW, hsame.mono hk hn⟩
/-- a join point: what holds wherever the walk stands again with the same heap -/
theorem own_join {h : Heap} {G : State → Prop} {P : Prop} (X : Stand p l e R s m args below meth c T locs cells slots) (J : ∀ T', Stand p l e R s m args below meth c T' locs cells slots → T'.heap = h → G T')
    (k : (∀ T', Stand p l e R s m args below meth c T' locs cells slots → T'.heap = h → G T') → P) : P := k J
end Own
/-- it writes nothing, makes nothing, and hands back w -/
def Qv (w : Option Value) (h0 : Heap) (n0 : Nat) (v : Option Value) (h : Heap) (L : List Loc) : Prop := v = w ∧ L = [] ∧ h = h0
def QL (n0 : Nat) (v : Option Value) (h : Heap) (L : List Loc) : Prop := v = some (.int (1 : Int32)) ∧ Fr n0 L
section Words
variable {Z : State} {args : Array Value} {t : Term} {C n d : String} {a : Addr}
theorem own_fld {k : Int32} (ht : t.eval args Z none [] Z = some (.ref a)) (h : (Cond.eq (Term.field t C n d) (Term.int k)).value args Z none Z [] = some true) : Fld Z Z.heap a C n d (.int k) := by
  obtain ⟨x, y, hx, hy, h1, -⟩ := cmp_v (Or.inl h)
  obtain rfl : y = .int k := (Option.some.inj ((Term.int_eval k).symm.trans hy)).symm
  have hx' : Z.fieldOf? a C n d = some x := (fld_at ht).symm.trans hx
  cases x <;> simp [Kin, Value.isRef] at h1
  rename_i z
  have e : z = k := by simpa [Cond.value, hx, hy] using h
  subst e
  exact Fld.start hx'
theorem own_fldL {k : Int64} (ht : t.eval args Z none [] Z = some (.ref a)) (h : (Cond.eq (Term.field t C n d) (Term.long k)).value args Z none Z [] = some true) : Fld Z Z.heap a C n d (.long k) := by
  obtain ⟨x, y, hx, hy, h1, -⟩ := cmp_v (Or.inl h)
  obtain rfl : y = .long k := (Option.some.inj ((long_at k).symm.trans hy)).symm
  have hx' : Z.fieldOf? a C n d = some x := (fld_at ht).symm.trans hx
  cases x <;> simp [Kin, Value.isRef] at h1
  rename_i z
  have e : z = k := by simpa [Cond.value, hx, hy] using h
  subst e
  exact Fld.start hx'
theorem own_len {k : Int32} {cl : Cell} {ty : FieldType} (ht : t.eval args Z none [] Z = some (.ref a)) (A : Arr Z Z.heap a cl ty) (h : (Cond.eq (Term.length t) (Term.int k)).value args Z none Z [] = some true) : cl.slots.size.toInt32 = k := by
  obtain ⟨x, y, hx, hy, -, -⟩ := cmp_v (Or.inl h)
  obtain ⟨a', cell, e1, e2, rfl⟩ := Term.length_spec hx
  cases ht.symm.trans e1
  obtain rfl : y = .int k := (Option.some.inj ((Term.int_eval k).symm.trans hy)).symm
  cases A.1.symm.trans (State.arrayAt?_spec e2).1
  simpa [Cond.value, hx, hy] using h
theorem own_elem {k : Int32} {cl : Cell} {ty : FieldType} {u : Term} {w : Addr} (ht : t.eval args Z none [] Z = some (.ref a)) (A : Arr Z Z.heap a cl ty) (hu : u.eval args Z none [] Z = some (.ref w)) (h : (Cond.eq (Term.elem t (Term.int k)) u).value args Z none Z [] = some true) :
    ¬ (k < 0 ∨ cl.slots.size ≤ k.toNatClampNeg) ∧ cl.slots[k.toNatClampNeg]? = some (.ref w) := by
  obtain ⟨x, y, hx, hy, h1, -⟩ := cmp_v (Or.inl h)
  obtain rfl : y = .ref w := (Option.some.inj (hu.symm.trans hy)).symm
  obtain ⟨cell, e1, e2, e3⟩ := Jvm.Lib.elem_at hx ht (Term.int_eval k)
  cases A.1.symm.trans e1
  refine ⟨e2, ?_⟩
  cases x <;> simp [Kin, Value.isRef] at h1
  · simp [Cond.value, hx, hy] at h
  · rename_i z
    have e : z = w := by simpa [Cond.value, hx, hy] using h
    rw [e3, e]
end Words
theorem pn_Quantity : plainName "com/example/libtier/libtier/Quantity" = true := by first | (simp [plainName, overriddenIn]; done) | decide +kernel
theorem d2_0 : decode prog_75_method_1_code 0 = .ok (.aload_n 0, 1) := by decide +kernel
theorem d2_1 : decode prog_75_method_1_code 1 = .ok (.invokespecial 1, 3) := by decide +kernel
theorem d2_4 : decode prog_75_method_1_code 4 = .ok (.aload_n 0, 1) := by decide +kernel
theorem d2_5 : decode prog_75_method_1_code 5 = .ok (.lload_n 1, 1) := by decide +kernel
theorem d2_6 : decode prog_75_method_1_code 6 = .ok (.putfield 7, 3) := by decide +kernel
theorem d2_9 : decode prog_75_method_1_code 9 = .ok (.return_, 1) := by decide +kernel
theorem d1_0 : decode prog_75_method_2_code 0 = .ok (.lload_n 0, 1) := by decide +kernel
theorem d1_1 : decode prog_75_method_2_code 1 = .ok (.lconst 0, 1) := by decide +kernel
theorem d1_2 : decode prog_75_method_2_code 2 = .ok (.lcmp, 1) := by decide +kernel
theorem d1_3 : decode prog_75_method_2_code 3 = .ok (.ifCond .ge 17, 3) := by decide +kernel
theorem d1_20 : decode prog_75_method_2_code 20 = .ok (.new 8, 3) := by decide +kernel
theorem d1_23 : decode prog_75_method_2_code 23 = .ok (.dup, 1) := by decide +kernel
theorem d1_24 : decode prog_75_method_2_code 24 = .ok (.lload_n 0, 1) := by decide +kernel
theorem d1_25 : decode prog_75_method_2_code 25 = .ok (.invokespecial 22, 3) := by decide +kernel
theorem pd_J_V : parseMethodDescriptor "(J)V" = some ⟨[.long], none⟩ := by decide +kernel
theorem d1_28 : decode prog_75_method_2_code 28 = .ok (.areturn, 1) := by decide +kernel
theorem d4_0 : decode prog_75_method_4_code 0 = .ok (.aload_n 0, 1) := by decide +kernel
theorem d4_1 : decode prog_75_method_4_code 1 = .ok (.getfield 7, 3) := by decide +kernel
theorem d4_4 : decode prog_75_method_4_code 4 = .ok (.lconst 0, 1) := by decide +kernel
theorem d4_5 : decode prog_75_method_4_code 5 = .ok (.lcmp, 1) := by decide +kernel
theorem d4_6 : decode prog_75_method_4_code 6 = .ok (.ifCond .ge 7, 3) := by decide +kernel
theorem d4_13 : decode prog_75_method_4_code 13 = .ok (.iconst 0, 1) := by decide +kernel
theorem d4_14 : decode prog_75_method_4_code 14 = .ok (.ireturn, 1) := by decide +kernel
theorem d5_0 : decode prog_75_method_5_code 0 = .ok (.aload_n 0, 1) := by decide +kernel
theorem d5_1 : decode prog_75_method_5_code 1 = .ok (.invokevirtual 29, 3) := by decide +kernel
theorem pd_Z : parseMethodDescriptor "()Z" = some ⟨[], some .boolean⟩ := by decide +kernel
theorem d5_4 : decode prog_75_method_5_code 4 = .ok (.ifCond .eq 13, 3) := by decide +kernel
theorem d5_17 : decode prog_75_method_5_code 17 = .ok (.aload_n 0, 1) := by decide +kernel
theorem d5_18 : decode prog_75_method_5_code 18 = .ok (.getfield 7, 3) := by decide +kernel
theorem d5_21 : decode prog_75_method_5_code 21 = .ok (.lreturn, 1) := by decide +kernel
theorem d6_0 : decode prog_75_method_3_code 0 = .ok (.getstatic 25, 3) := by decide +kernel
theorem d6_3 : decode prog_75_method_3_code 3 = .ok (.areturn, 1) := by decide +kernel
theorem d7_0 : decode prog_75_method_6_code 0 = .ok (.aload_n 1, 1) := by decide +kernel
theorem d7_1 : decode prog_75_method_6_code 1 = .ok (.instanceof 8, 3) := by decide +kernel
theorem d7_4 : decode prog_75_method_6_code 4 = .ok (.ifCond .eq 22, 3) := by decide +kernel
theorem d7_7 : decode prog_75_method_6_code 7 = .ok (.aload_n 1, 1) := by decide +kernel
theorem d7_8 : decode prog_75_method_6_code 8 = .ok (.checkcast 8, 3) := by decide +kernel
theorem d7_11 : decode prog_75_method_6_code 11 = .ok (.getfield 7, 3) := by decide +kernel
theorem d7_14 : decode prog_75_method_6_code 14 = .ok (.aload_n 0, 1) := by decide +kernel
theorem d7_15 : decode prog_75_method_6_code 15 = .ok (.getfield 7, 3) := by decide +kernel
theorem d7_18 : decode prog_75_method_6_code 18 = .ok (.lcmp, 1) := by decide +kernel
theorem d7_19 : decode prog_75_method_6_code 19 = .ok (.ifCond .ne 7, 3) := by decide +kernel
theorem d7_22 : decode prog_75_method_6_code 22 = .ok (.iconst 1, 1) := by decide +kernel
theorem d7_23 : decode prog_75_method_6_code 23 = .ok (.goto 4, 3) := by decide +kernel
theorem d7_27 : decode prog_75_method_6_code 27 = .ok (.ireturn, 1) := by decide +kernel
theorem d7_26 : decode prog_75_method_6_code 26 = .ok (.iconst 0, 1) := by decide +kernel
theorem pn_QuantityOfPinLaw : plainName "com/example/libtier/libtier/QuantityOfPinLaw" = true := by first | (simp [plainName, overriddenIn]; done) | decide +kernel
theorem pd_J_Lcom_example_libtier_libtier_Quantity : parseMethodDescriptor "(J)Lcom/example/libtier/libtier/Quantity;" = some ⟨[.long], some (.object "com/example/libtier/libtier/Quantity")⟩ := by decide +kernel
theorem pd_J : parseMethodDescriptor "()J" = some ⟨[], some .long⟩ := by decide +kernel
theorem pd_Lcom_example_libtier_libtier_Quantity : parseMethodDescriptor "()Lcom/example/libtier/libtier/Quantity;" = some ⟨[], some (.object "com/example/libtier/libtier/Quantity")⟩ := by decide +kernel
theorem pd_Ljava_lang_Object_Z : parseMethodDescriptor "(Ljava/lang/Object;)Z" = some ⟨[(.object "java/lang/Object")], some .boolean⟩ := by decide +kernel
theorem own_andL (x : Int64) : ¬ (x &&& (9223372036854775807 : Int64)) < 0 := by
  have h : (x &&& (9223372036854775807 : Int64)).toBitVec.msb = false := by
    rw [Int64.toBitVec_and, BitVec.msb_and]; simp; intro; decide
  have h2 := BitVec.toInt_nonneg_of_msb_false h
  rw [Int64.lt_iff_toInt_lt, ← Int64.toInt_toBitVec]
  intro h3
  have : (0 : Int64).toInt = 0 := by decide
  omega
theorem own_m1 {u : Int64} (hu : ¬ u < 0) : ¬ (-1 : Int64) = u := by
  rintro rfl; exact hu (by decide)

def QC (Z : State) (a : Addr) (u : Int64) (h0 : Heap) (n0 : Nat) (v : Option Value) (h : Heap) (L : List Loc) : Prop := v = none ∧ Fr n0 L ∧ Keep h0 h [a] ∧ Exa Z h a "com/example/libtier/libtier/Quantity" ∧ Fld Z h a "com/example/libtier/libtier/Quantity" "units" "J" (.long u)
def QO (Z : State) (u : Int64) (h0 : Heap) (n0 : Nat) (v : Option Value) (h : Heap) (L : List Loc) : Prop := ∃ a, v = some (.ref a) ∧ Fr n0 L ∧ Ext h0 h ∧ Exa Z h a "com/example/libtier/libtier/Quantity" ∧ Fld Z h a "com/example/libtier/libtier/Quantity" "units" "J" (.long u)
theorem ef_rmC (m : MethodId) (x0 : Addr) (x1 : Int64) : entryFrame m #[(.ref x0), (.long x1)] 3 = mkF m 0 #[(.val (.ref x0)), (.val (.long x1)), .second] [] := by first | (simp [entryFrame, mkF, argsToLocals, Value.category]; done) | rfl
set_option maxRecDepth 65536 in
set_option maxHeartbeats 40000000 in
theorem rmC (l : Launch) (Z : State) (a0 : Array Value) (hw : ∀ d ∈ tables_1, d.before a0 Z = true) (ws : List Jvm.Cond) (a : Addr) (u : Int64) (h0 : Heap) (n0 : Nat) (Z0 : n0 ≤ h0.size) (F : Fld Z h0 a "com/example/libtier/libtier/Quantity" "units" "J" (.long (0 : Int64))) (E : Exa Z h0 a "com/example/libtier/libtier/Quantity") (g : n0 ≤ a) :
    MetFree l (⟨"com/example/libtier/libtier/Quantity", "<init>", "(J)V"⟩ : MethodName) (head1 (Jvm.Cond.code (⟨"com/example/libtier/libtier/Quantity", "<init>", "(J)V"⟩ : MethodName) prog_75_method_1_code 3 none :: ws) ({ frames := 1, cells := 0, slots := 0, locals := 12 } : Room)) (fun aa UU => aa = #[(.ref a), (.long u)] ∧ Z.Warmed39 UU.vm ∧ UU.heap = h0) (fun _ _ _ _ _ => True) (fun _ UU oo UU' => ∃ vr Lr, oo = .returned vr ∧ (QC Z a u h0 n0) vr UU'.heap Lr ∧ FrameEnd UU oo UU' Lr ({ frames := 1, cells := 0, slots := 0, locals := 12 } : Room).cells ({ frames := 1, cells := 0, slots := 0, locals := 12 } : Room).slots) := by
  refine MetFree.of_bodySF (plainFor_of_name pn_Quantity) hisR ?_
  intro p e s m args below meth c s₁ Bd hml0 hP hK
  obtain ⟨rfl, hZ, hh⟩ := hP
  have hx := Bd.exec
  have hby := Bd.bytes
  have hml : c.maxLocals = 3 := hml0
  have hown : s.vm.findClass "com/example/libtier/libtier/Quantity" = some m.cls := findClass_of_methodNamed Bd.named
  have hnm := (name_of_methodNamed Bd.named Bd.method).1
  have hlk := Bd.notSynchronized
  have X0 : Stand p l e ({ frames := 1, cells := 0, slots := 0, locals := 12 } : Room) s m #[(.ref a), (.long u)] below meth c s₁ [] 0 0 := Stand.of_body Bd
  have e0 : s₁.heap = h0 := by rw [← hh, Bd.state]; rfl
  have N0 := Fr.nil n0
  show Owes p e below s (QC Z a u h0 n0) ({ frames := 1, cells := 0, slots := 0, locals := 12 } : Room).cells ({ frames := 1, cells := 0, slots := 0, locals := 12 } : Room).slots s₁ (entryFrame m #[(.ref a), (.long u)] 3)
  rw [ef_rmC m a u]
  show Owes p e below s (QC Z a u h0 n0) ({ frames := 1, cells := 0, slots := 0, locals := 12 } : Room).cells ({ frames := 1, cells := 0, slots := 0, locals := 12 } : Room).slots s₁ (mkF m 0 #[(.val (.ref a)), (.val (.long u)), .second] [])
  refine Owes.by (fun _ k => XS.aloadN X0.here hx rfl (hb hby d2_0) rfl rfl k) ?_
  show Owes p e below s (QC Z a u h0 n0) ({ frames := 1, cells := 0, slots := 0, locals := 12 } : Room).cells ({ frames := 1, cells := 0, slots := 0, locals := 12 } : Room).slots s₁ (mkF m 1 #[(.val (.ref a)), (.val (.long u)), .second] [(.ref a)])
  obtain ⟨T1, X1, e1, st1⟩ := initO X0 hx hZ hown (hw _ (List.mem_of_getElem? (i := 10) rfl)) (hw _ (List.mem_of_getElem? (i := 11) rfl)) (hw _ (List.mem_of_getElem? (i := 12) rfl)) e0 (g := (mkF m 1 #[(.val (.ref a)), (.val (.long u)), .second] [(.ref a)])) rfl (by rw [hml]; rfl) rfl (hb hby d2_1) (by decide) (W := 0) (by show 2 * 0 + _ ≤ _; exact Nat.le_of_eq rfl) (by decide)
  refine Owes.by st1 ?_
  show Owes p e below s (QC Z a u h0 n0) ({ frames := 1, cells := 0, slots := 0, locals := 12 } : Room).cells ({ frames := 1, cells := 0, slots := 0, locals := 12 } : Room).slots T1 (mkF m 4 #[(.val (.ref a)), (.val (.long u)), .second] [])
  refine Owes.by (fun _ k => XS.aloadN X1.here hx rfl (hb hby d2_4) rfl rfl k) ?_
  show Owes p e below s (QC Z a u h0 n0) ({ frames := 1, cells := 0, slots := 0, locals := 12 } : Room).cells ({ frames := 1, cells := 0, slots := 0, locals := 12 } : Room).slots T1 (mkF m 5 #[(.val (.ref a)), (.val (.long u)), .second] [(.ref a)])
  refine Owes.by (fun _ k => XT.lloadN X1.here hx rfl (hb hby d2_5) rfl k) ?_
  show Owes p e below s (QC Z a u h0 n0) ({ frames := 1, cells := 0, slots := 0, locals := 12 } : Room).cells ({ frames := 1, cells := 0, slots := 0, locals := 12 } : Room).slots T1 (mkF m 6 #[(.val (.ref a)), (.val (.long u)), .second] [(.long u), (.ref a)])
  obtain ⟨T2, h2, X2, e2, W2, st2⟩ := putF X1 hx hZ hown (host := "") (Or.inl (hw _ (List.mem_of_getElem? (i := 13) rfl))) Via.refl e1 F E (Or.inr ⟨(hw _ (List.mem_of_getElem? (i := 14) rfl)), rfl, hnm⟩) (hw _ (List.mem_of_getElem? (i := 6) rfl)) (ty := .long) (by decide) rfl rfl (g := (mkF m 6 #[(.val (.ref a)), (.val (.long u)), .second] [(.long u), (.ref a)])) rfl rfl (hb hby d2_6)
  refine Owes.by st2 ?_
  show Owes p e below s (QC Z a u h0 n0) ({ frames := 1, cells := 0, slots := 0, locals := 12 } : Room).cells ({ frames := 1, cells := 0, slots := 0, locals := 12 } : Room).slots T2 (mkF m 9 #[(.val (.ref a)), (.val (.long u)), .second] [])
  refine Owes.ret X2 (v := none) (fun _ => rfl) hlk ?_ (by decide) (by decide) (fun fs hr => X2.returnOut hx Bd.returns (hb hby d2_9) hr)
  rw [e2]
  exact ⟨rfl, Fr.snoc X2 N0 g, (Keep.refl _ _).wr W2 (Or.inl (List.mem_of_getElem? (i := 0) rfl)), E.wr W2, F.same W2⟩
theorem own_ext {h h' : Heap} (K : Keep h h' []) : Ext h h' := ⟨K.1, fun x c q => K.2.1 x c q nin0⟩
theorem ef_rmO (m : MethodId) (x0 : Int64) : entryFrame m #[(.long x0)] 2 = mkF m 0 #[(.val (.long x0)), .second] [] := by first | (simp [entryFrame, mkF, argsToLocals, Value.category]; done) | rfl
set_option maxRecDepth 65536 in
set_option maxHeartbeats 40000000 in
theorem rmO (l : Launch) (Z : State) (a0 : Array Value) (hw : ∀ d ∈ tables_1, d.before a0 Z = true) (ws : List Jvm.Cond) (u : Int64) (h0 : Heap) (n0 : Nat) (Z0 : n0 ≤ h0.size) (hu : ¬ u < 0) :
    MetFree l (⟨"com/example/libtier/libtier/Quantity", "of", "(J)Lcom/example/libtier/libtier/Quantity;"⟩ : MethodName) (head1 (Jvm.Cond.code (⟨"com/example/libtier/libtier/Quantity", "of", "(J)Lcom/example/libtier/libtier/Quantity;"⟩ : MethodName) prog_75_method_2_code 2 (some (.object "com/example/libtier/libtier/Quantity")) :: ws) ({ frames := 2, cells := 1, slots := 1, locals := 28 } : Room)) (fun aa UU => aa = #[(.long u)] ∧ Z.Warmed39 UU.vm ∧ UU.heap = h0) (fun _ _ _ _ _ => True) (fun _ UU oo UU' => ∃ vr Lr, oo = .returned vr ∧ (QO Z u h0 n0) vr UU'.heap Lr ∧ FrameEnd UU oo UU' Lr ({ frames := 2, cells := 1, slots := 1, locals := 28 } : Room).cells ({ frames := 2, cells := 1, slots := 1, locals := 28 } : Room).slots) := by
  refine MetFree.of_bodySF (plainFor_of_name pn_Quantity) hisR ?_
  intro p e s m args below meth c s₁ Bd hml0 hP hK
  obtain ⟨rfl, hZ, hh⟩ := hP
  have hx := Bd.exec
  have hby := Bd.bytes
  have hml : c.maxLocals = 2 := hml0
  have hown : s.vm.findClass "com/example/libtier/libtier/Quantity" = some m.cls := findClass_of_methodNamed Bd.named
  have hnm := (name_of_methodNamed Bd.named Bd.method).1
  have hlk := Bd.notSynchronized
  have X0 : Stand p l e ({ frames := 2, cells := 1, slots := 1, locals := 28 } : Room) s m #[(.long u)] below meth c s₁ [] 0 0 := Stand.of_body Bd
  have e0 : s₁.heap = h0 := by rw [← hh, Bd.state]; rfl
  have N0 := Fr.nil n0
  show Owes p e below s (QO Z u h0 n0) ({ frames := 2, cells := 1, slots := 1, locals := 28 } : Room).cells ({ frames := 2, cells := 1, slots := 1, locals := 28 } : Room).slots s₁ (entryFrame m #[(.long u)] 2)
  rw [ef_rmO m u]
  show Owes p e below s (QO Z u h0 n0) ({ frames := 2, cells := 1, slots := 1, locals := 28 } : Room).cells ({ frames := 2, cells := 1, slots := 1, locals := 28 } : Room).slots s₁ (mkF m 0 #[(.val (.long u)), .second] [])
  refine Owes.by (fun _ k => XT.lloadN X0.here hx rfl (hb hby d1_0) rfl k) ?_
  show Owes p e below s (QO Z u h0 n0) ({ frames := 2, cells := 1, slots := 1, locals := 28 } : Room).cells ({ frames := 2, cells := 1, slots := 1, locals := 28 } : Room).slots s₁ (mkF m 1 #[(.val (.long u)), .second] [(.long u)])
  refine Owes.by (fun _ k => XT.lconst X0.here hx rfl (hb hby d1_1) k) ?_
  show Owes p e below s (QO Z u h0 n0) ({ frames := 2, cells := 1, slots := 1, locals := 28 } : Room).cells ({ frames := 2, cells := 1, slots := 1, locals := 28 } : Room).slots s₁ (mkF m 2 #[(.val (.long u)), .second] [(.long (0 : Int64)), (.long u)])
  refine Owes.by (fun _ k => XT.lcmp X0.here hx rfl (hb hby d1_2) rfl k) ?_
  show Owes p e below s (QO Z u h0 n0) ({ frames := 2, cells := 1, slots := 1, locals := 28 } : Room).cells ({ frames := 2, cells := 1, slots := 1, locals := 28 } : Room).slots s₁ (mkF m 3 #[(.val (.long u)), .second] [(.int (XT.cmpL u (0 : Int64)))])
  refine Owes.by (fun _ k => XS.ifYes X0.here hx rfl (pc0 := 3) (pc' := 20) rfl (hb hby d1_3) rfl (XT.ll_ge_t hu) (by decide) (by decide) k) ?_
  show Owes p e below s (QO Z u h0 n0) ({ frames := 2, cells := 1, slots := 1, locals := 28 } : Room).cells ({ frames := 2, cells := 1, slots := 1, locals := 28 } : Room).slots s₁ (mkF m 20 #[(.val (.long u)), .second] [])
  obtain ⟨T1, h1, X1, e1, E1, A1, D1, -, st1⟩ := newO X0 hx hZ hown (hw _ (List.mem_of_getElem? (i := 5) rfl)) (hw _ (List.mem_of_getElem? (i := 6) rfl)) (hw _ (List.mem_of_getElem? (i := 3) rfl)) e0 (g := (mkF m 20 #[(.val (.long u)), .second] [])) rfl (hb hby d1_20) (by decide) (by decide)
  obtain ⟨b1, g1⟩ : ∃ z, z = h0.size := ⟨_, rfl⟩
  rw [← g1] at A1 D1 st1
  refine Owes.by st1 ?_
  show Owes p e below s (QO Z u h0 n0) ({ frames := 2, cells := 1, slots := 1, locals := 28 } : Room).cells ({ frames := 2, cells := 1, slots := 1, locals := 28 } : Room).slots T1 (mkF m 23 #[(.val (.long u)), .second] [(.ref b1)])
  refine Owes.by (fun _ k => XS.dup X1.here hx rfl (hb hby d1_23) rfl rfl k) ?_
  show Owes p e below s (QO Z u h0 n0) ({ frames := 2, cells := 1, slots := 1, locals := 28 } : Room).cells ({ frames := 2, cells := 1, slots := 1, locals := 28 } : Room).slots T1 (mkF m 24 #[(.val (.long u)), .second] [(.ref b1), (.ref b1)])
  refine Owes.by (fun _ k => XT.lloadN X1.here hx rfl (hb hby d1_24) rfl k) ?_
  show Owes p e below s (QO Z u h0 n0) ({ frames := 2, cells := 1, slots := 1, locals := 28 } : Room).cells ({ frames := 2, cells := 1, slots := 1, locals := 28 } : Room).slots T1 (mkF m 25 #[(.val (.long u)), .second] [(.long u), (.ref b1), (.ref b1)])
  have F1 : Fld Z h1 b1 "com/example/libtier/libtier/Quantity" "units" "J" (.long (0 : Int64)) := D1 (Or.inr (hw _ (List.mem_of_getElem? (i := 14) rfl))) (ty := .long) (by decide)
  obtain ⟨_, _, ⟨T2, L2, k2, n2⟩, -, X2, ⟨Lc2, hQ2, l2, y2, z2⟩, st2⟩ := X1.specialBack hx (y := (⟨"com/example/libtier/libtier/Quantity", "<init>", "(J)V"⟩ : MethodName)) rfl hown (mvT hZ (hw _ (List.mem_of_getElem? (i := 7) rfl))) (mvT hZ (hw _ (List.mem_of_getElem? (i := 8) rfl))) (mvT hZ (hw _ (List.mem_of_getElem? (i := 9) rfl))) (by decide) (backOf (W := 1) (rmC l Z a0 hw [] b1 u h1 n0 (Nat.le_trans Z0 E1.1) F1 A1 (Nat.le_trans Z0 (Nat.le_of_eq g1.symm))) hZ (hw _ (List.mem_of_getElem? (i := 9) rfl)) (hw _ (List.mem_of_getElem? (i := 3) rfl)) (by decide) (by decide)) (g := (mkF m 25 #[(.val (.long u)), .second] [(.long u), (.ref b1), (.ref b1)])) rfl (by rw [hml]; rfl) (Steps.refl _) (a := b1) (argsL := [(.long u)]) (rest := [(.ref b1)]) (lenOf pd_J_V rfl) rfl (by show 2 * 0 + _ ≤ _; exact Nat.le_of_eq rfl) (hb hby d1_25) (fun _ _ => ⟨rfl, e1, (by decide : 1 + 0 ≤ _), (by decide : 1 + 0 ≤ _)⟩)
  dsimp only [Pt.U, Pt.locs, Pt.cells, Pt.slots] at X2 l2 y2 z2 st2 hQ2
  subst l2 y2 z2
  obtain ⟨rfl, N2, K2, A2, F2⟩ := hQ2
  refine Owes.by (fun _ k => st2.trans k) ?_
  show Owes p e below s (QO Z u h0 n0) ({ frames := 2, cells := 1, slots := 1, locals := 28 } : Room).cells ({ frames := 2, cells := 1, slots := 1, locals := 28 } : Room).slots T2 (mkF m 28 #[(.val (.long u)), .second] [(.ref b1)])
  refine Owes.ret X2 (v := some (.ref b1)) (fun h => by rw [Bd.returns] at h; cases h) hlk ?_ (by decide) (by decide) (fun fs hr => retOut X2 hx Bd.returns rfl (Or.inr (Or.inr (Or.inr (Or.inr ⟨rfl, rfl, rfl⟩)))) (hb hby d1_28) hr)
  exact ⟨b1, rfl, Fr.app N0 N2, own_ext (((Keep.refl h0 []).ext E1).trans K2 (allS (Or.inr (Nat.le_of_eq g1.symm)) all0)), A2, F2⟩
theorem ef_rmL (m : MethodId) (x0 : Addr) : entryFrame m #[(.ref x0)] 1 = mkF m 0 #[(.val (.ref x0))] [] := by first | (simp [entryFrame, mkF, argsToLocals, Value.category]; done) | rfl
set_option maxRecDepth 65536 in
set_option maxHeartbeats 40000000 in
theorem rmL (l : Launch) (Z : State) (a0 : Array Value) (hw : ∀ d ∈ tables_1, d.before a0 Z = true) (ws : List Jvm.Cond) (a : Addr) (u : Int64) (h0 : Heap) (n0 : Nat) (Z0 : n0 ≤ h0.size) (F : Fld Z h0 a "com/example/libtier/libtier/Quantity" "units" "J" (.long u)) (hu : ¬ u < 0) :
    MetFree l (⟨"com/example/libtier/libtier/Quantity", "isUnlimited", "()Z"⟩ : MethodName) (head1 (Jvm.Cond.code (⟨"com/example/libtier/libtier/Quantity", "isUnlimited", "()Z"⟩ : MethodName) prog_75_method_4_code 1 (some .boolean) :: ws) ({ frames := 0, cells := 0, slots := 0, locals := 0 } : Room)) (fun aa UU => aa = #[(.ref a)] ∧ Z.Warmed39 UU.vm ∧ UU.heap = h0) (fun _ _ _ _ _ => True) (fun _ UU oo UU' => ∃ vr Lr, oo = .returned vr ∧ (Qv (some (.int 0)) h0 n0) vr UU'.heap Lr ∧ FrameEnd UU oo UU' Lr ({ frames := 0, cells := 0, slots := 0, locals := 0 } : Room).cells ({ frames := 0, cells := 0, slots := 0, locals := 0 } : Room).slots) := by
  refine MetFree.of_bodySF (plainFor_of_name pn_Quantity) hisR ?_
  intro p e s m args below meth c s₁ Bd hml0 hP hK
  obtain ⟨rfl, hZ, hh⟩ := hP
  have hx := Bd.exec
  have hby := Bd.bytes
  have hml : c.maxLocals = 1 := hml0
  have hown : s.vm.findClass "com/example/libtier/libtier/Quantity" = some m.cls := findClass_of_methodNamed Bd.named
  have hnm := (name_of_methodNamed Bd.named Bd.method).1
  have hlk := Bd.notSynchronized
  have X0 : Stand p l e ({ frames := 0, cells := 0, slots := 0, locals := 0 } : Room) s m #[(.ref a)] below meth c s₁ [] 0 0 := Stand.of_body Bd
  have e0 : s₁.heap = h0 := by rw [← hh, Bd.state]; rfl
  have N0 := Fr.nil n0
  show Owes p e below s (Qv (some (.int 0)) h0 n0) ({ frames := 0, cells := 0, slots := 0, locals := 0 } : Room).cells ({ frames := 0, cells := 0, slots := 0, locals := 0 } : Room).slots s₁ (entryFrame m #[(.ref a)] 1)
  rw [ef_rmL m a]
  show Owes p e below s (Qv (some (.int 0)) h0 n0) ({ frames := 0, cells := 0, slots := 0, locals := 0 } : Room).cells ({ frames := 0, cells := 0, slots := 0, locals := 0 } : Room).slots s₁ (mkF m 0 #[(.val (.ref a))] [])
  refine Owes.by (fun _ k => XS.aloadN X0.here hx rfl (hb hby d4_0) rfl rfl k) ?_
  show Owes p e below s (Qv (some (.int 0)) h0 n0) ({ frames := 0, cells := 0, slots := 0, locals := 0 } : Room).cells ({ frames := 0, cells := 0, slots := 0, locals := 0 } : Room).slots s₁ (mkF m 1 #[(.val (.ref a))] [(.ref a)])
  obtain ⟨T1, X1, e1, st1⟩ := getF X0 hx hZ hown (host := "") (Or.inl (hw _ (List.mem_of_getElem? (i := 13) rfl))) Via.refl e0 F (g := (mkF m 1 #[(.val (.ref a))] [(.ref a)])) rfl rfl (hb hby d4_1)
  refine Owes.by st1 ?_
  show Owes p e below s (Qv (some (.int 0)) h0 n0) ({ frames := 0, cells := 0, slots := 0, locals := 0 } : Room).cells ({ frames := 0, cells := 0, slots := 0, locals := 0 } : Room).slots T1 (mkF m 4 #[(.val (.ref a))] [(.long u)])
  refine Owes.by (fun _ k => XT.lconst X1.here hx rfl (hb hby d4_4) k) ?_
  show Owes p e below s (Qv (some (.int 0)) h0 n0) ({ frames := 0, cells := 0, slots := 0, locals := 0 } : Room).cells ({ frames := 0, cells := 0, slots := 0, locals := 0 } : Room).slots T1 (mkF m 5 #[(.val (.ref a))] [(.long (0 : Int64)), (.long u)])
  refine Owes.by (fun _ k => XT.lcmp X1.here hx rfl (hb hby d4_5) rfl k) ?_
  show Owes p e below s (Qv (some (.int 0)) h0 n0) ({ frames := 0, cells := 0, slots := 0, locals := 0 } : Room).cells ({ frames := 0, cells := 0, slots := 0, locals := 0 } : Room).slots T1 (mkF m 6 #[(.val (.ref a))] [(.int (XT.cmpL u (0 : Int64)))])
  refine Owes.by (fun _ k => XS.ifYes X1.here hx rfl (pc0 := 6) (pc' := 13) rfl (hb hby d4_6) rfl (XT.ll_ge_t hu) (by decide) (by decide) k) ?_
  show Owes p e below s (Qv (some (.int 0)) h0 n0) ({ frames := 0, cells := 0, slots := 0, locals := 0 } : Room).cells ({ frames := 0, cells := 0, slots := 0, locals := 0 } : Room).slots T1 (mkF m 13 #[(.val (.ref a))] [])
  refine Owes.by (fun _ k => XS.iconst X1.here hx rfl (hb hby d4_13) k) ?_
  show Owes p e below s (Qv (some (.int 0)) h0 n0) ({ frames := 0, cells := 0, slots := 0, locals := 0 } : Room).cells ({ frames := 0, cells := 0, slots := 0, locals := 0 } : Room).slots T1 (mkF m 14 #[(.val (.ref a))] [(.int (0 : Int32))])
  refine Owes.ret X1 (v := some (.int (0 : Int32))) (fun h => by rw [Bd.returns] at h; cases h) hlk ?_ (by decide) (by decide) (fun fs hr => retN X1 hx (t := .boolean) Bd.returns (by simp) (hb hby d4_14) hr)
  rw [e1]
  exact ⟨rfl, rfl, rfl⟩
theorem ef_rmU (m : MethodId) (x0 : Addr) : entryFrame m #[(.ref x0)] 1 = mkF m 0 #[(.val (.ref x0))] [] := by first | (simp [entryFrame, mkF, argsToLocals, Value.category]; done) | rfl
set_option maxRecDepth 65536 in
set_option maxHeartbeats 40000000 in
theorem rmU (l : Launch) (Z : State) (a0 : Array Value) (hw : ∀ d ∈ tables_1, d.before a0 Z = true) (ws : List Jvm.Cond) (a : Addr) (u : Int64) (h0 : Heap) (n0 : Nat) (Z0 : n0 ≤ h0.size) (F : Fld Z h0 a "com/example/libtier/libtier/Quantity" "units" "J" (.long u)) (E : Exa Z h0 a "com/example/libtier/libtier/Quantity") (hu : ¬ u < 0) :
    MetFree l (⟨"com/example/libtier/libtier/Quantity", "units", "()J"⟩ : MethodName) (head1 (Jvm.Cond.code (⟨"com/example/libtier/libtier/Quantity", "units", "()J"⟩ : MethodName) prog_75_method_5_code 1 (some .long) :: ws) ({ frames := 1, cells := 0, slots := 0, locals := 12 } : Room)) (fun aa UU => aa = #[(.ref a)] ∧ Z.Warmed39 UU.vm ∧ UU.heap = h0) (fun _ _ _ _ _ => True) (fun _ UU oo UU' => ∃ vr Lr, oo = .returned vr ∧ (Qv (some (.long u)) h0 n0) vr UU'.heap Lr ∧ FrameEnd UU oo UU' Lr ({ frames := 1, cells := 0, slots := 0, locals := 12 } : Room).cells ({ frames := 1, cells := 0, slots := 0, locals := 12 } : Room).slots) := by
  refine MetFree.of_bodySF (plainFor_of_name pn_Quantity) hisR ?_
  intro p e s m args below meth c s₁ Bd hml0 hP hK
  obtain ⟨rfl, hZ, hh⟩ := hP
  have hx := Bd.exec
  have hby := Bd.bytes
  have hml : c.maxLocals = 1 := hml0
  have hown : s.vm.findClass "com/example/libtier/libtier/Quantity" = some m.cls := findClass_of_methodNamed Bd.named
  have hnm := (name_of_methodNamed Bd.named Bd.method).1
  have hlk := Bd.notSynchronized
  have X0 : Stand p l e ({ frames := 1, cells := 0, slots := 0, locals := 12 } : Room) s m #[(.ref a)] below meth c s₁ [] 0 0 := Stand.of_body Bd
  have e0 : s₁.heap = h0 := by rw [← hh, Bd.state]; rfl
  have N0 := Fr.nil n0
  show Owes p e below s (Qv (some (.long u)) h0 n0) ({ frames := 1, cells := 0, slots := 0, locals := 12 } : Room).cells ({ frames := 1, cells := 0, slots := 0, locals := 12 } : Room).slots s₁ (entryFrame m #[(.ref a)] 1)
  rw [ef_rmU m a]
  show Owes p e below s (Qv (some (.long u)) h0 n0) ({ frames := 1, cells := 0, slots := 0, locals := 12 } : Room).cells ({ frames := 1, cells := 0, slots := 0, locals := 12 } : Room).slots s₁ (mkF m 0 #[(.val (.ref a))] [])
  refine Owes.by (fun _ k => XS.aloadN X0.here hx rfl (hb hby d5_0) rfl rfl k) ?_
  show Owes p e below s (Qv (some (.long u)) h0 n0) ({ frames := 1, cells := 0, slots := 0, locals := 12 } : Room).cells ({ frames := 1, cells := 0, slots := 0, locals := 12 } : Room).slots s₁ (mkF m 1 #[(.val (.ref a))] [(.ref a)])
  obtain ⟨cq1, kq1, qa1, qb1, qc1⟩ := isOf hZ e0 E
  obtain ⟨_, _, ⟨T1, L1, k1, n1⟩, -, X1, ⟨Lc1, hQ1, l1, y1, z1⟩, st1⟩ := X0.virtualBack hx (y := (⟨"com/example/libtier/libtier/Quantity", "isUnlimited", "()Z"⟩ : MethodName)) (z := (⟨"com/example/libtier/libtier/Quantity", "isUnlimited", "()Z"⟩ : MethodName)) hown (mvT hZ (hw _ (List.mem_of_getElem? (i := 25) rfl))) (mvT hZ (hw _ (List.mem_of_getElem? (i := 16) rfl))) (notFace_of_selects (args := #[]) (mvT hZ (hw _ (List.mem_of_getElem? (i := 18) rfl)))) (mvT hZ (hw _ (List.mem_of_getElem? (i := 18) rfl))) (mvT hZ (hw _ (List.mem_of_getElem? (i := 17) rfl))) (by decide) (backOf (W := 0) (rmL l Z a0 hw [] a u h0 n0 Z0 F hu) hZ (hw _ (List.mem_of_getElem? (i := 19) rfl)) (hw _ (List.mem_of_getElem? (i := 3) rfl)) (by decide) (by decide)) qa1 qc1 (g := (mkF m 1 #[(.val (.ref a))] [(.ref a)])) rfl (by rw [hml]; rfl) (Steps.refl _) (argsL := []) (rest := []) (lenOf pd_Z rfl) rfl (by show 2 * 0 + _ ≤ _; exact Nat.le_of_eq rfl) (hb hby d5_1) (fun _ _ => ⟨rfl, e0, (by decide : 0 + 0 ≤ _), (by decide : 0 + 0 ≤ _)⟩)
  dsimp only [Pt.U, Pt.locs, Pt.cells, Pt.slots] at X1 l1 y1 z1 st1 hQ1
  subst l1 y1 z1
  obtain ⟨rfl, rfl, e1⟩ := hQ1
  try rw [List.append_nil] at X1
  refine Owes.by (fun _ k => st1.trans k) ?_
  show Owes p e below s (Qv (some (.long u)) h0 n0) ({ frames := 1, cells := 0, slots := 0, locals := 12 } : Room).cells ({ frames := 1, cells := 0, slots := 0, locals := 12 } : Room).slots T1 (mkF m 4 #[(.val (.ref a))] [(.int (0 : Int32))])
  refine Owes.by (fun _ k => XS.ifYes X1.here hx rfl (pc0 := 4) (pc' := 17) rfl (hb hby d5_4) rfl (XT.i0_eq_t (by decide)) (by decide) (by decide) k) ?_
  show Owes p e below s (Qv (some (.long u)) h0 n0) ({ frames := 1, cells := 0, slots := 0, locals := 12 } : Room).cells ({ frames := 1, cells := 0, slots := 0, locals := 12 } : Room).slots T1 (mkF m 17 #[(.val (.ref a))] [])
  refine Owes.by (fun _ k => XS.aloadN X1.here hx rfl (hb hby d5_17) rfl rfl k) ?_
  show Owes p e below s (Qv (some (.long u)) h0 n0) ({ frames := 1, cells := 0, slots := 0, locals := 12 } : Room).cells ({ frames := 1, cells := 0, slots := 0, locals := 12 } : Room).slots T1 (mkF m 18 #[(.val (.ref a))] [(.ref a)])
  obtain ⟨T2, X2, e2, st2⟩ := getF X1 hx hZ hown (host := "") (Or.inl (hw _ (List.mem_of_getElem? (i := 13) rfl))) Via.refl e1 F (g := (mkF m 18 #[(.val (.ref a))] [(.ref a)])) rfl rfl (hb hby d5_18)
  refine Owes.by st2 ?_
  show Owes p e below s (Qv (some (.long u)) h0 n0) ({ frames := 1, cells := 0, slots := 0, locals := 12 } : Room).cells ({ frames := 1, cells := 0, slots := 0, locals := 12 } : Room).slots T2 (mkF m 21 #[(.val (.ref a))] [(.long u)])
  refine Owes.ret X2 (v := some (.long u)) (fun h => by rw [Bd.returns] at h; cases h) hlk ?_ (by decide) (by decide) (fun fs hr => retOut X2 hx Bd.returns rfl (Or.inr (Or.inl ⟨rfl, rfl, _, rfl⟩)) (hb hby d5_21) hr)
  rw [e2]
  exact ⟨rfl, rfl, rfl⟩
theorem ef_rmN (m : MethodId)  : entryFrame m #[] 0 = mkF m 0 #[] [] := by first | (simp [entryFrame, mkF, argsToLocals, Value.category]; done) | rfl
set_option maxRecDepth 65536 in
set_option maxHeartbeats 40000000 in
theorem rmN (l : Launch) (Z : State) (a0 : Array Value) (hw : ∀ d ∈ tables_1, d.before a0 Z = true) (ws : List Jvm.Cond) (w : Addr) (h0 : Heap) (n0 : Nat) (Z0 : n0 ≤ h0.size) (S : Sta Z h0 "com/example/libtier/libtier/Quantity" "UNLIMITED" "Lcom/example/libtier/libtier/Quantity;" (.ref w)) :
    MetFree l (⟨"com/example/libtier/libtier/Quantity", "unlimited", "()Lcom/example/libtier/libtier/Quantity;"⟩ : MethodName) (head1 (Jvm.Cond.code (⟨"com/example/libtier/libtier/Quantity", "unlimited", "()Lcom/example/libtier/libtier/Quantity;"⟩ : MethodName) prog_75_method_3_code 0 (some (.object "com/example/libtier/libtier/Quantity")) :: ws) ({ frames := 0, cells := 0, slots := 0, locals := 0 } : Room)) (fun aa UU => aa = #[] ∧ Z.Warmed39 UU.vm ∧ UU.heap = h0) (fun _ _ _ _ _ => True) (fun _ UU oo UU' => ∃ vr Lr, oo = .returned vr ∧ (Qv (some (.ref w)) h0 n0) vr UU'.heap Lr ∧ FrameEnd UU oo UU' Lr ({ frames := 0, cells := 0, slots := 0, locals := 0 } : Room).cells ({ frames := 0, cells := 0, slots := 0, locals := 0 } : Room).slots) := by
  refine MetFree.of_bodySF (plainFor_of_name pn_Quantity) hisR ?_
  intro p e s m args below meth c s₁ Bd hml0 hP hK
  obtain ⟨rfl, hZ, hh⟩ := hP
  have hx := Bd.exec
  have hby := Bd.bytes
  have hml : c.maxLocals = 0 := hml0
  have hown : s.vm.findClass "com/example/libtier/libtier/Quantity" = some m.cls := findClass_of_methodNamed Bd.named
  have hnm := (name_of_methodNamed Bd.named Bd.method).1
  have hlk := Bd.notSynchronized
  have X0 : Stand p l e ({ frames := 0, cells := 0, slots := 0, locals := 0 } : Room) s m #[] below meth c s₁ [] 0 0 := Stand.of_body Bd
  have e0 : s₁.heap = h0 := by rw [← hh, Bd.state]; rfl
  have N0 := Fr.nil n0
  show Owes p e below s (Qv (some (.ref w)) h0 n0) ({ frames := 0, cells := 0, slots := 0, locals := 0 } : Room).cells ({ frames := 0, cells := 0, slots := 0, locals := 0 } : Room).slots s₁ (entryFrame m #[] 0)
  rw [ef_rmN m ]
  show Owes p e below s (Qv (some (.ref w)) h0 n0) ({ frames := 0, cells := 0, slots := 0, locals := 0 } : Room).cells ({ frames := 0, cells := 0, slots := 0, locals := 0 } : Room).slots s₁ (mkF m 0 #[] [])
  obtain ⟨T1, X1, e1, st1⟩ := getS2 X0 hx hZ hown (host := "") (Or.inl (hw _ (List.mem_of_getElem? (i := 29) rfl))) Via.refl e0 S (g := (mkF m 0 #[] [])) rfl (hb hby d6_0)
  refine Owes.by st1 ?_
  show Owes p e below s (Qv (some (.ref w)) h0 n0) ({ frames := 0, cells := 0, slots := 0, locals := 0 } : Room).cells ({ frames := 0, cells := 0, slots := 0, locals := 0 } : Room).slots T1 (mkF m 3 #[] [(.ref w)])
  refine Owes.ret X1 (v := some (.ref w)) (fun h => by rw [Bd.returns] at h; cases h) hlk ?_ (by decide) (by decide) (fun fs hr => retOut X1 hx Bd.returns rfl (Or.inr (Or.inr (Or.inr (Or.inr ⟨rfl, rfl, rfl⟩)))) (hb hby d6_3) hr)
  rw [e1]
  exact ⟨rfl, rfl, rfl⟩
theorem ef_rmE (m : MethodId) (x0 : Addr) (x1 : Addr) : entryFrame m #[(.ref x0), (.ref x1)] 2 = mkF m 0 #[(.val (.ref x0)), (.val (.ref x1))] [] := by first | (simp [entryFrame, mkF, argsToLocals, Value.category]; done) | rfl
set_option maxRecDepth 65536 in
set_option maxHeartbeats 40000000 in
theorem rmE (l : Launch) (Z : State) (a0 : Array Value) (hw : ∀ d ∈ tables_1, d.before a0 Z = true) (ws : List Jvm.Cond) (a b : Addr) (u w : Int64) (r : Int32) (h0 : Heap) (n0 : Nat) (Z0 : n0 ≤ h0.size) (F : Fld Z h0 a "com/example/libtier/libtier/Quantity" "units" "J" (.long u)) (G : Fld Z h0 b "com/example/libtier/libtier/Quantity" "units" "J" (.long w)) (E : Exa Z h0 b "com/example/libtier/libtier/Quantity") (hr : (if w = u then (1 : Int32) else 0) = r) :
    MetFree l (⟨"com/example/libtier/libtier/Quantity", "equals", "(Ljava/lang/Object;)Z"⟩ : MethodName) (head1 (Jvm.Cond.code (⟨"com/example/libtier/libtier/Quantity", "equals", "(Ljava/lang/Object;)Z"⟩ : MethodName) prog_75_method_6_code 2 (some .boolean) :: ws) ({ frames := 0, cells := 0, slots := 0, locals := 0 } : Room)) (fun aa UU => aa = #[(.ref a), (.ref b)] ∧ Z.Warmed39 UU.vm ∧ UU.heap = h0) (fun _ _ _ _ _ => True) (fun _ UU oo UU' => ∃ vr Lr, oo = .returned vr ∧ (Qv (some (.int r)) h0 n0) vr UU'.heap Lr ∧ FrameEnd UU oo UU' Lr ({ frames := 0, cells := 0, slots := 0, locals := 0 } : Room).cells ({ frames := 0, cells := 0, slots := 0, locals := 0 } : Room).slots) := by
  refine MetFree.of_bodySF (plainFor_of_name pn_Quantity) hisR ?_
  intro p e s m args below meth c s₁ Bd hml0 hP hK
  obtain ⟨rfl, hZ, hh⟩ := hP
  have hx := Bd.exec
  have hby := Bd.bytes
  have hml : c.maxLocals = 2 := hml0
  have hown : s.vm.findClass "com/example/libtier/libtier/Quantity" = some m.cls := findClass_of_methodNamed Bd.named
  have hnm := (name_of_methodNamed Bd.named Bd.method).1
  have hlk := Bd.notSynchronized
  have X0 : Stand p l e ({ frames := 0, cells := 0, slots := 0, locals := 0 } : Room) s m #[(.ref a), (.ref b)] below meth c s₁ [] 0 0 := Stand.of_body Bd
  have e0 : s₁.heap = h0 := by rw [← hh, Bd.state]; rfl
  have N0 := Fr.nil n0
  show Owes p e below s (Qv (some (.int r)) h0 n0) ({ frames := 0, cells := 0, slots := 0, locals := 0 } : Room).cells ({ frames := 0, cells := 0, slots := 0, locals := 0 } : Room).slots s₁ (entryFrame m #[(.ref a), (.ref b)] 2)
  rw [ef_rmE m a b]
  show Owes p e below s (Qv (some (.int r)) h0 n0) ({ frames := 0, cells := 0, slots := 0, locals := 0 } : Room).cells ({ frames := 0, cells := 0, slots := 0, locals := 0 } : Room).slots s₁ (mkF m 0 #[(.val (.ref a)), (.val (.ref b))] [])
  refine Owes.by (fun _ k => XS.aloadN X0.here hx rfl (hb hby d7_0) rfl rfl k) ?_
  show Owes p e below s (Qv (some (.int r)) h0 n0) ({ frames := 0, cells := 0, slots := 0, locals := 0 } : Room).cells ({ frames := 0, cells := 0, slots := 0, locals := 0 } : Room).slots s₁ (mkF m 1 #[(.val (.ref a)), (.val (.ref b))] [(.ref b)])
  obtain ⟨T1, X1, e1, st1⟩ := instY X0 hx hZ hown (hw _ (List.mem_of_getElem? (i := 5) rfl)) e0 (Ins.self E) (g := (mkF m 1 #[(.val (.ref a)), (.val (.ref b))] [(.ref b)])) rfl rfl (hb hby d7_1)
  refine Owes.by st1 ?_
  show Owes p e below s (Qv (some (.int r)) h0 n0) ({ frames := 0, cells := 0, slots := 0, locals := 0 } : Room).cells ({ frames := 0, cells := 0, slots := 0, locals := 0 } : Room).slots T1 (mkF m 4 #[(.val (.ref a)), (.val (.ref b))] [(.int (1 : Int32))])
  refine Owes.by (fun _ k => XS.ifNo X1.here hx rfl (hb hby d7_4) rfl (XT.i0_eq_f (by decide)) k) ?_
  show Owes p e below s (Qv (some (.int r)) h0 n0) ({ frames := 0, cells := 0, slots := 0, locals := 0 } : Room).cells ({ frames := 0, cells := 0, slots := 0, locals := 0 } : Room).slots T1 (mkF m 7 #[(.val (.ref a)), (.val (.ref b))] [])
  refine Owes.by (fun _ k => XS.aloadN X1.here hx rfl (hb hby d7_7) rfl rfl k) ?_
  show Owes p e below s (Qv (some (.int r)) h0 n0) ({ frames := 0, cells := 0, slots := 0, locals := 0 } : Room).cells ({ frames := 0, cells := 0, slots := 0, locals := 0 } : Room).slots T1 (mkF m 8 #[(.val (.ref a)), (.val (.ref b))] [(.ref b)])
  obtain ⟨T2, X2, e2, st2⟩ := castY X1 hx hZ hown (hw _ (List.mem_of_getElem? (i := 5) rfl)) e1 (Ins.self E) (g := (mkF m 8 #[(.val (.ref a)), (.val (.ref b))] [(.ref b)])) rfl rfl (hb hby d7_8)
  refine Owes.by st2 ?_
  show Owes p e below s (Qv (some (.int r)) h0 n0) ({ frames := 0, cells := 0, slots := 0, locals := 0 } : Room).cells ({ frames := 0, cells := 0, slots := 0, locals := 0 } : Room).slots T2 (mkF m 11 #[(.val (.ref a)), (.val (.ref b))] [(.ref b)])
  obtain ⟨T3, X3, e3, st3⟩ := getF X2 hx hZ hown (host := "") (Or.inl (hw _ (List.mem_of_getElem? (i := 13) rfl))) Via.refl e2 G (g := (mkF m 11 #[(.val (.ref a)), (.val (.ref b))] [(.ref b)])) rfl rfl (hb hby d7_11)
  refine Owes.by st3 ?_
  show Owes p e below s (Qv (some (.int r)) h0 n0) ({ frames := 0, cells := 0, slots := 0, locals := 0 } : Room).cells ({ frames := 0, cells := 0, slots := 0, locals := 0 } : Room).slots T3 (mkF m 14 #[(.val (.ref a)), (.val (.ref b))] [(.long w)])
  refine Owes.by (fun _ k => XS.aloadN X3.here hx rfl (hb hby d7_14) rfl rfl k) ?_
  show Owes p e below s (Qv (some (.int r)) h0 n0) ({ frames := 0, cells := 0, slots := 0, locals := 0 } : Room).cells ({ frames := 0, cells := 0, slots := 0, locals := 0 } : Room).slots T3 (mkF m 15 #[(.val (.ref a)), (.val (.ref b))] [(.ref a), (.long w)])
  obtain ⟨T4, X4, e4, st4⟩ := getF X3 hx hZ hown (host := "") (Or.inl (hw _ (List.mem_of_getElem? (i := 13) rfl))) Via.refl e3 F (g := (mkF m 15 #[(.val (.ref a)), (.val (.ref b))] [(.ref a), (.long w)])) rfl rfl (hb hby d7_15)
  refine Owes.by st4 ?_
  show Owes p e below s (Qv (some (.int r)) h0 n0) ({ frames := 0, cells := 0, slots := 0, locals := 0 } : Room).cells ({ frames := 0, cells := 0, slots := 0, locals := 0 } : Room).slots T4 (mkF m 18 #[(.val (.ref a)), (.val (.ref b))] [(.long u), (.long w)])
  refine Owes.by (fun _ k => XT.lcmp X4.here hx rfl (hb hby d7_18) rfl k) ?_
  show Owes p e below s (Qv (some (.int r)) h0 n0) ({ frames := 0, cells := 0, slots := 0, locals := 0 } : Room).cells ({ frames := 0, cells := 0, slots := 0, locals := 0 } : Room).slots T4 (mkF m 19 #[(.val (.ref a)), (.val (.ref b))] [(.int (XT.cmpL w u))])
  by_cases q : w = u
  · skip
    refine Owes.by (fun _ k => XS.ifNo X4.here hx rfl (hb hby d7_19) rfl (XT.ll_ne_f q) k) ?_
    show Owes p e below s (Qv (some (.int r)) h0 n0) ({ frames := 0, cells := 0, slots := 0, locals := 0 } : Room).cells ({ frames := 0, cells := 0, slots := 0, locals := 0 } : Room).slots T4 (mkF m 22 #[(.val (.ref a)), (.val (.ref b))] [])
    refine Owes.by (fun _ k => XS.iconst X4.here hx rfl (hb hby d7_22) k) ?_
    show Owes p e below s (Qv (some (.int r)) h0 n0) ({ frames := 0, cells := 0, slots := 0, locals := 0 } : Room).cells ({ frames := 0, cells := 0, slots := 0, locals := 0 } : Room).slots T4 (mkF m 23 #[(.val (.ref a)), (.val (.ref b))] [(.int (1 : Int32))])
    refine Owes.by (fun _ k => XS.goto X4.here hx rfl (pc0 := 23) (pc' := 27) rfl (hb hby d7_23) (by decide) (by decide) k) ?_
    show Owes p e below s (Qv (some (.int r)) h0 n0) ({ frames := 0, cells := 0, slots := 0, locals := 0 } : Room).cells ({ frames := 0, cells := 0, slots := 0, locals := 0 } : Room).slots T4 (mkF m 27 #[(.val (.ref a)), (.val (.ref b))] [(.int (1 : Int32))])
    refine Owes.ret X4 (v := some (.int (1 : Int32))) (fun h => by rw [Bd.returns] at h; cases h) hlk ?_ (by decide) (by decide) (fun fs hr => retN X4 hx (t := .boolean) Bd.returns (by simp) (hb hby d7_27) hr)
    rw [e4]
    exact ⟨by rw [← hr, if_pos q], rfl, rfl⟩
  · skip
    refine Owes.by (fun _ k => XS.ifYes X4.here hx rfl (pc0 := 19) (pc' := 26) rfl (hb hby d7_19) rfl (XT.ll_ne_t q) (by decide) (by decide) k) ?_
    show Owes p e below s (Qv (some (.int r)) h0 n0) ({ frames := 0, cells := 0, slots := 0, locals := 0 } : Room).cells ({ frames := 0, cells := 0, slots := 0, locals := 0 } : Room).slots T4 (mkF m 26 #[(.val (.ref a)), (.val (.ref b))] [])
    refine Owes.by (fun _ k => XS.iconst X4.here hx rfl (hb hby d7_26) k) ?_
    show Owes p e below s (Qv (some (.int r)) h0 n0) ({ frames := 0, cells := 0, slots := 0, locals := 0 } : Room).cells ({ frames := 0, cells := 0, slots := 0, locals := 0 } : Room).slots T4 (mkF m 27 #[(.val (.ref a)), (.val (.ref b))] [(.int (0 : Int32))])
    refine Owes.ret X4 (v := some (.int (0 : Int32))) (fun h => by rw [Bd.returns] at h; cases h) hlk ?_ (by decide) (by decide) (fun fs hr => retN X4 hx (t := .boolean) Bd.returns (by simp) (hb hby d7_27) hr)
    rw [e4]
    exact ⟨by rw [← hr, if_neg q], rfl, rfl⟩
theorem ef_rm0 (m : MethodId) (x0 : Int64) (x1 : Int64) (x2 : Int32) : entryFrame m #[(.long x0), (.long x1), (.int x2)] maxLocals = mkF m 0 #[(.val (.long x0)), .second, (.val (.long x1)), .second, (.val (.int x2)), .unset, .unset, .unset, .unset, .unset, .unset] [] := by first | (simp [entryFrame, mkF, argsToLocals, Value.category, maxLocals]; done) | rfl
set_option maxRecDepth 65536 in
set_option maxHeartbeats 40000000 in
theorem rm0 (l : Launch) (Z : State) (a0 : Array Value) (hw : ∀ d ∈ tables_1, d.before a0 Z = true) (ws : List Jvm.Cond) (p0 p1 : Int64) (p2 : Int32) (w : Addr) (h0 : Heap) (n0 : Nat) (Z0 : n0 ≤ h0.size) (S : Sta Z h0 "com/example/libtier/libtier/Quantity" "UNLIMITED" "Lcom/example/libtier/libtier/Quantity;" (.ref w)) (E_w : Exa Z h0 w "com/example/libtier/libtier/Quantity") (F_w : Fld Z h0 w "com/example/libtier/libtier/Quantity" "units" "J" (.long (-1 : Int64))) :
    MetFree l x (head1 (Jvm.Cond.code x code maxLocals ret :: ws) room_1) (fun aa UU => aa = #[(.long p0), (.long p1), (.int p2)] ∧ Z.Warmed39 UU.vm ∧ UU.heap = h0) (fun _ _ _ _ _ => True) (fun _ UU oo UU' => ∃ vr Lr, oo = .returned vr ∧ (QL n0) vr UU'.heap Lr ∧ FrameEnd UU oo UU' Lr room_1.cells room_1.slots) := by
  refine MetFree.of_bodySF (plainFor_of_name pn_QuantityOfPinLaw) hisR ?_
  intro p e s m args below meth c s₁ Bd hml0 hP hK
  obtain ⟨rfl, hZ, hh⟩ := hP
  have hx := Bd.exec
  have hby := Bd.bytes
  have hml : c.maxLocals = 11 := hml0
  have hown : s.vm.findClass "com/example/libtier/libtier/QuantityOfPinLaw" = some m.cls := findClass_of_methodNamed Bd.named
  have hnm := (name_of_methodNamed Bd.named Bd.method).1
  have hlk := Bd.notSynchronized
  have X0 : Stand p l e room_1 s m #[(.long p0), (.long p1), (.int p2)] below meth c s₁ [] 0 0 := Stand.of_body Bd
  have e0 : s₁.heap = h0 := by rw [← hh, Bd.state]; rfl
  have N0 := Fr.nil n0
  show Owes p e below s (QL n0) room_1.cells room_1.slots s₁ (entryFrame m #[(.long p0), (.long p1), (.int p2)] maxLocals)
  rw [ef_rm0 m p0 p1 p2]
  show Owes p e below s (QL n0) room_1.cells room_1.slots s₁ (mkF m 0 #[(.val (.long p0)), .second, (.val (.long p1)), .second, (.val (.int p2)), .unset, .unset, .unset, .unset, .unset, .unset] [])
  refine Owes.by (fun _ k => XT.lloadN X0.here hx rfl (hb hby at_0) rfl k) ?_
  show Owes p e below s (QL n0) room_1.cells room_1.slots s₁ (mkF m 1 #[(.val (.long p0)), .second, (.val (.long p1)), .second, (.val (.int p2)), .unset, .unset, .unset, .unset, .unset, .unset] [(.long p0)])
  refine Owes.by (fun t k => X0.ldc2Long hx hown (mvT hZ (hw _ (List.mem_of_getElem? (i := 0) rfl))) (g := (mkF m 1 #[(.val (.long p0)), .second, (.val (.long p1)), .second, (.val (.int p2)), .unset, .unset, .unset, .unset, .unset, .unset] [(.long p0)])) rfl (hb hby at_1) t k) ?_
  show Owes p e below s (QL n0) room_1.cells room_1.slots s₁ (mkF m 4 #[(.val (.long p0)), .second, (.val (.long p1)), .second, (.val (.int p2)), .unset, .unset, .unset, .unset, .unset, .unset] [(.long (9223372036854775807 : Int64)), (.long p0)])
  refine Owes.by (fun _ k => XT.land X0.here hx rfl (hb hby at_4) rfl k) ?_
  show Owes p e below s (QL n0) room_1.cells room_1.slots s₁ (mkF m 5 #[(.val (.long p0)), .second, (.val (.long p1)), .second, (.val (.int p2)), .unset, .unset, .unset, .unset, .unset, .unset] [(.long (p0 &&& (9223372036854775807 : Int64)))])
  have hu : ¬ (p0 &&& (9223372036854775807 : Int64)) < 0 := own_andL p0
  generalize (p0 &&& (9223372036854775807 : Int64)) = u at *
  show Owes p e below s (QL n0) room_1.cells room_1.slots s₁ (mkF m 5 #[(.val (.long p0)), .second, (.val (.long p1)), .second, (.val (.int p2)), .unset, .unset, .unset, .unset, .unset, .unset] [(.long u)])
  refine Owes.by (fun _ k => XT.lstore X0.here hx rfl (hb hby at_5) rfl (l' := #[(.val (.long p0)), .second, (.val (.long p1)), .second, (.val (.int p2)), (.val (.long u)), .second, .unset, .unset, .unset, .unset]) rfl k) ?_
  show Owes p e below s (QL n0) room_1.cells room_1.slots s₁ (mkF m 7 #[(.val (.long p0)), .second, (.val (.long p1)), .second, (.val (.int p2)), (.val (.long u)), .second, .unset, .unset, .unset, .unset] [])
  refine Owes.by (fun _ k => XS.iload X0.here hx rfl (hb hby at_7) rfl k) ?_
  show Owes p e below s (QL n0) room_1.cells room_1.slots s₁ (mkF m 9 #[(.val (.long p0)), .second, (.val (.long p1)), .second, (.val (.int p2)), (.val (.long u)), .second, .unset, .unset, .unset, .unset] [(.int p2)])
  refine Owes.by (fun _ k => XS.iconst X0.here hx rfl (hb hby at_9) k) ?_
  show Owes p e below s (QL n0) room_1.cells room_1.slots s₁ (mkF m 10 #[(.val (.long p0)), .second, (.val (.long p1)), .second, (.val (.int p2)), (.val (.long u)), .second, .unset, .unset, .unset, .unset] [(.int (1 : Int32)), (.int p2)])
  refine Owes.by (fun _ k => XS.iand X0.here hx rfl (hb hby at_10) rfl k) ?_
  show Owes p e below s (QL n0) room_1.cells room_1.slots s₁ (mkF m 11 #[(.val (.long p0)), .second, (.val (.long p1)), .second, (.val (.int p2)), (.val (.long u)), .second, .unset, .unset, .unset, .unset] [(.int (p2 &&& (1 : Int32)))])
  refine own_join X0 (h := h0) (G := fun T' => ∀ (v : Int64), (¬ v < 0) → Owes p e below s (QL n0) room_1.cells room_1.slots T' (mkF m 24 #[(.val (.long p0)), .second, (.val (.long p1)), .second, (.val (.int p2)), (.val (.long u)), .second, .unset, .unset, .unset, .unset] [(.long v)])) (fun T1 X1 e1 v hv => ?_) (fun J1 => ?_)
  · skip
    show Owes p e below s (QL n0) room_1.cells room_1.slots T1 (mkF m 24 #[(.val (.long p0)), .second, (.val (.long p1)), .second, (.val (.int p2)), (.val (.long u)), .second, .unset, .unset, .unset, .unset] [(.long v)])
    refine Owes.by (fun _ k => XT.lstore X1.here hx rfl (hb hby at_24) rfl (l' := #[(.val (.long p0)), .second, (.val (.long p1)), .second, (.val (.int p2)), (.val (.long u)), .second, (.val (.long v)), .second, .unset, .unset]) rfl k) ?_
    show Owes p e below s (QL n0) room_1.cells room_1.slots T1 (mkF m 26 #[(.val (.long p0)), .second, (.val (.long p1)), .second, (.val (.int p2)), (.val (.long u)), .second, (.val (.long v)), .second, .unset, .unset] [])
    refine Owes.by (fun _ k => XT.lload X1.here hx rfl (hb hby at_26) rfl k) ?_
    show Owes p e below s (QL n0) room_1.cells room_1.slots T1 (mkF m 28 #[(.val (.long p0)), .second, (.val (.long p1)), .second, (.val (.int p2)), (.val (.long u)), .second, (.val (.long v)), .second, .unset, .unset] [(.long u)])
    obtain ⟨_, _, ⟨T2, L2, k2, n2⟩, -, X2, ⟨Lc2, hQ2, l2, y2, z2⟩, st2⟩ := Jvm.LawKit.callS X1 hx (y := (⟨"com/example/libtier/libtier/Quantity", "of", "(J)Lcom/example/libtier/libtier/Quantity;"⟩ : MethodName)) hown (mvT hZ (hw _ (List.mem_of_getElem? (i := 1) rfl))) (mvT hZ (hw _ (List.mem_of_getElem? (i := 2) rfl))) (mvT hZ (hw _ (List.mem_of_getElem? (i := 3) rfl))) (mvT hZ (hw _ (List.mem_of_getElem? (i := 4) rfl))) (by decide) (backOf (W := 0) (rmO l Z a0 hw [] u h0 n0 Z0 hu) hZ (hw _ (List.mem_of_getElem? (i := 4) rfl)) (hw _ (List.mem_of_getElem? (i := 3) rfl)) (by decide) (by decide)) (g := (mkF m 28 #[(.val (.long p0)), .second, (.val (.long p1)), .second, (.val (.int p2)), (.val (.long u)), .second, (.val (.long v)), .second, .unset, .unset] [(.long u)])) rfl (by rw [hml]; rfl) (argsL := [(.long u)]) (rest := []) (lenOf pd_J_Lcom_example_libtier_libtier_Quantity rfl) rfl (by show 2 * 0 + _ ≤ _; exact Nat.le_of_eq rfl) (hb hby at_28) (fun _ _ => ⟨rfl, e1, (by decide : 0 + 1 ≤ _), (by decide : 0 + 1 ≤ _)⟩)
    dsimp only [Pt.U, Pt.locs, Pt.cells, Pt.slots] at X2 l2 y2 z2 st2 hQ2
    subst l2 y2 z2
    obtain ⟨q, rfl, N2, X2a, A2, F2⟩ := hQ2
    refine Owes.by st2 ?_
    show Owes p e below s (QL n0) room_1.cells room_1.slots T2 (mkF m 31 #[(.val (.long p0)), .second, (.val (.long p1)), .second, (.val (.int p2)), (.val (.long u)), .second, (.val (.long v)), .second, .unset, .unset] [(.ref q)])
    refine Owes.by (fun _ k => XS.astore X2.here hx rfl (hb hby at_31) rfl rfl (l' := #[(.val (.long p0)), .second, (.val (.long p1)), .second, (.val (.int p2)), (.val (.long u)), .second, (.val (.long v)), .second, (.val (.ref q)), .unset]) rfl k) ?_
    show Owes p e below s (QL n0) room_1.cells room_1.slots T2 (mkF m 33 #[(.val (.long p0)), .second, (.val (.long p1)), .second, (.val (.int p2)), (.val (.long u)), .second, (.val (.long v)), .second, (.val (.ref q)), .unset] [])
    refine Owes.by (fun _ k => XT.lload X2.here hx rfl (hb hby at_33) rfl k) ?_
    show Owes p e below s (QL n0) room_1.cells room_1.slots T2 (mkF m 35 #[(.val (.long p0)), .second, (.val (.long p1)), .second, (.val (.int p2)), (.val (.long u)), .second, (.val (.long v)), .second, (.val (.ref q)), .unset] [(.long v)])
    have Z1 := Nat.le_trans Z0 X2a.1
    obtain ⟨_, _, ⟨T3, L3, k3, n3⟩, -, X3, ⟨Lc3, hQ3, l3, y3, z3⟩, st3⟩ := Jvm.LawKit.callS X2 hx (y := (⟨"com/example/libtier/libtier/Quantity", "of", "(J)Lcom/example/libtier/libtier/Quantity;"⟩ : MethodName)) hown (mvT hZ (hw _ (List.mem_of_getElem? (i := 1) rfl))) (mvT hZ (hw _ (List.mem_of_getElem? (i := 2) rfl))) (mvT hZ (hw _ (List.mem_of_getElem? (i := 3) rfl))) (mvT hZ (hw _ (List.mem_of_getElem? (i := 4) rfl))) (by decide) (backOf (W := 0) (rmO l Z a0 hw [] v T2.heap n0 Z1 hv) hZ (hw _ (List.mem_of_getElem? (i := 4) rfl)) (hw _ (List.mem_of_getElem? (i := 3) rfl)) (by decide) (by decide)) (g := (mkF m 35 #[(.val (.long p0)), .second, (.val (.long p1)), .second, (.val (.int p2)), (.val (.long u)), .second, (.val (.long v)), .second, (.val (.ref q)), .unset] [(.long v)])) rfl (by rw [hml]; rfl) (argsL := [(.long v)]) (rest := []) (lenOf pd_J_Lcom_example_libtier_libtier_Quantity rfl) rfl (by show 2 * 0 + _ ≤ _; exact Nat.le_of_eq rfl) (hb hby at_35) (fun _ _ => ⟨rfl, (rfl : T2.heap = T2.heap), (by decide : 1 + 1 ≤ _), (by decide : 1 + 1 ≤ _)⟩)
    dsimp only [Pt.U, Pt.locs, Pt.cells, Pt.slots] at X3 l3 y3 z3 st3 hQ3
    subst l3 y3 z3
    obtain ⟨r, rfl, N3, X3a, A3, F3⟩ := hQ3
    refine Owes.by st3 ?_
    show Owes p e below s (QL n0) room_1.cells room_1.slots T3 (mkF m 38 #[(.val (.long p0)), .second, (.val (.long p1)), .second, (.val (.int p2)), (.val (.long u)), .second, (.val (.long v)), .second, (.val (.ref q)), .unset] [(.ref r)])
    have Z2 := Nat.le_trans Z1 X3a.1
    have Fq := F2.ext X3a
    have Aq := A2.ext X3a
    have S2 := (S.ext X2a).ext X3a
    have Ew := (E_w.ext X2a).ext X3a
    have Fw := (F_w.ext X2a).ext X3a
    refine Owes.by (fun _ k => XS.astore X3.here hx rfl (hb hby at_38) rfl rfl (l' := #[(.val (.long p0)), .second, (.val (.long p1)), .second, (.val (.int p2)), (.val (.long u)), .second, (.val (.long v)), .second, (.val (.ref q)), (.val (.ref r))]) rfl k) ?_
    show Owes p e below s (QL n0) room_1.cells room_1.slots T3 (mkF m 40 #[(.val (.long p0)), .second, (.val (.long p1)), .second, (.val (.int p2)), (.val (.long u)), .second, (.val (.long v)), .second, (.val (.ref q)), (.val (.ref r))] [])
    refine Owes.by (fun _ k => XS.aload X3.here hx rfl (hb hby at_40) rfl rfl k) ?_
    show Owes p e below s (QL n0) room_1.cells room_1.slots T3 (mkF m 42 #[(.val (.long p0)), .second, (.val (.long p1)), .second, (.val (.int p2)), (.val (.long u)), .second, (.val (.long v)), .second, (.val (.ref q)), (.val (.ref r))] [(.ref q)])
    refine Owes.by (fun _ k => XS.ifnullNo X3.here hx rfl (hb hby at_42) rfl k) ?_
    show Owes p e below s (QL n0) room_1.cells room_1.slots T3 (mkF m 45 #[(.val (.long p0)), .second, (.val (.long p1)), .second, (.val (.int p2)), (.val (.long u)), .second, (.val (.long v)), .second, (.val (.ref q)), (.val (.ref r))] [])
    refine Owes.by (fun _ k => XS.aload X3.here hx rfl (hb hby at_45) rfl rfl k) ?_
    show Owes p e below s (QL n0) room_1.cells room_1.slots T3 (mkF m 47 #[(.val (.long p0)), .second, (.val (.long p1)), .second, (.val (.int p2)), (.val (.long u)), .second, (.val (.long v)), .second, (.val (.ref q)), (.val (.ref r))] [(.ref r)])
    refine Owes.by (fun _ k => XT.ifnonnullYes X3.here hx rfl (pc0 := 47) (pc' := 52) rfl (hb hby at_47) rfl (by decide) (by decide) k) ?_
    show Owes p e below s (QL n0) room_1.cells room_1.slots T3 (mkF m 52 #[(.val (.long p0)), .second, (.val (.long p1)), .second, (.val (.int p2)), (.val (.long u)), .second, (.val (.long v)), .second, (.val (.ref q)), (.val (.ref r))] [])
    refine Owes.by (fun _ k => XS.aload X3.here hx rfl (hb hby at_52) rfl rfl k) ?_
    show Owes p e below s (QL n0) room_1.cells room_1.slots T3 (mkF m 54 #[(.val (.long p0)), .second, (.val (.long p1)), .second, (.val (.int p2)), (.val (.long u)), .second, (.val (.long v)), .second, (.val (.ref q)), (.val (.ref r))] [(.ref q)])
    obtain ⟨cq4, kq4, qa4, qb4, qc4⟩ := isOf hZ (rfl : T3.heap = T3.heap) Aq
    obtain ⟨_, _, ⟨T4, L4, k4, n4⟩, -, X4, ⟨Lc4, hQ4, l4, y4, z4⟩, st4⟩ := X3.virtualBack hx (y := (⟨"com/example/libtier/libtier/Quantity", "isUnlimited", "()Z"⟩ : MethodName)) (z := (⟨"com/example/libtier/libtier/Quantity", "isUnlimited", "()Z"⟩ : MethodName)) hown (mvT hZ (hw _ (List.mem_of_getElem? (i := 15) rfl))) (mvT hZ (hw _ (List.mem_of_getElem? (i := 16) rfl))) (notFace_of_selects (args := #[]) (mvT hZ (hw _ (List.mem_of_getElem? (i := 18) rfl)))) (mvT hZ (hw _ (List.mem_of_getElem? (i := 18) rfl))) (mvT hZ (hw _ (List.mem_of_getElem? (i := 17) rfl))) (by decide) (backOf (W := 0) (rmL l Z a0 hw [] q u T3.heap n0 Z2 Fq hu) hZ (hw _ (List.mem_of_getElem? (i := 19) rfl)) (hw _ (List.mem_of_getElem? (i := 3) rfl)) (by decide) (by decide)) qa4 qc4 (g := (mkF m 54 #[(.val (.long p0)), .second, (.val (.long p1)), .second, (.val (.int p2)), (.val (.long u)), .second, (.val (.long v)), .second, (.val (.ref q)), (.val (.ref r))] [(.ref q)])) rfl (by rw [hml]; rfl) (Steps.refl _) (argsL := []) (rest := []) (lenOf pd_Z rfl) rfl (by show 2 * 0 + _ ≤ _; exact Nat.le_of_eq rfl) (hb hby at_54) (fun _ _ => ⟨rfl, (rfl : T3.heap = T3.heap), (by decide : 2 + 0 ≤ _), (by decide : 2 + 0 ≤ _)⟩)
    dsimp only [Pt.U, Pt.locs, Pt.cells, Pt.slots] at X4 l4 y4 z4 st4 hQ4
    subst l4 y4 z4
    obtain ⟨rfl, rfl, e4⟩ := hQ4
    try rw [List.append_nil] at X4
    refine Owes.by (fun _ k => st4.trans k) ?_
    show Owes p e below s (QL n0) room_1.cells room_1.slots T4 (mkF m 57 #[(.val (.long p0)), .second, (.val (.long p1)), .second, (.val (.int p2)), (.val (.long u)), .second, (.val (.long v)), .second, (.val (.ref q)), (.val (.ref r))] [(.int (0 : Int32))])
    refine Owes.by (fun _ k => XS.ifNo X4.here hx rfl (hb hby at_57) rfl (XT.i0_ne_f (by decide)) k) ?_
    show Owes p e below s (QL n0) room_1.cells room_1.slots T4 (mkF m 60 #[(.val (.long p0)), .second, (.val (.long p1)), .second, (.val (.int p2)), (.val (.long u)), .second, (.val (.long v)), .second, (.val (.ref q)), (.val (.ref r))] [])
    refine Owes.by (fun _ k => XS.aload X4.here hx rfl (hb hby at_60) rfl rfl k) ?_
    show Owes p e below s (QL n0) room_1.cells room_1.slots T4 (mkF m 62 #[(.val (.long p0)), .second, (.val (.long p1)), .second, (.val (.int p2)), (.val (.long u)), .second, (.val (.long v)), .second, (.val (.ref q)), (.val (.ref r))] [(.ref r)])
    obtain ⟨cq5, kq5, qa5, qb5, qc5⟩ := isOf hZ e4 A3
    obtain ⟨_, _, ⟨T5, L5, k5, n5⟩, -, X5, ⟨Lc5, hQ5, l5, y5, z5⟩, st5⟩ := X4.virtualBack hx (y := (⟨"com/example/libtier/libtier/Quantity", "isUnlimited", "()Z"⟩ : MethodName)) (z := (⟨"com/example/libtier/libtier/Quantity", "isUnlimited", "()Z"⟩ : MethodName)) hown (mvT hZ (hw _ (List.mem_of_getElem? (i := 15) rfl))) (mvT hZ (hw _ (List.mem_of_getElem? (i := 16) rfl))) (notFace_of_selects (args := #[]) (mvT hZ (hw _ (List.mem_of_getElem? (i := 18) rfl)))) (mvT hZ (hw _ (List.mem_of_getElem? (i := 18) rfl))) (mvT hZ (hw _ (List.mem_of_getElem? (i := 17) rfl))) (by decide) (backOf (W := 0) (rmL l Z a0 hw [] r v T3.heap n0 Z2 F3 hv) hZ (hw _ (List.mem_of_getElem? (i := 19) rfl)) (hw _ (List.mem_of_getElem? (i := 3) rfl)) (by decide) (by decide)) qa5 qc5 (g := (mkF m 62 #[(.val (.long p0)), .second, (.val (.long p1)), .second, (.val (.int p2)), (.val (.long u)), .second, (.val (.long v)), .second, (.val (.ref q)), (.val (.ref r))] [(.ref r)])) rfl (by rw [hml]; rfl) (Steps.refl _) (argsL := []) (rest := []) (lenOf pd_Z rfl) rfl (by show 2 * 0 + _ ≤ _; exact Nat.le_of_eq rfl) (hb hby at_62) (fun _ _ => ⟨rfl, e4, (by decide : 2 + 0 ≤ _), (by decide : 2 + 0 ≤ _)⟩)
    dsimp only [Pt.U, Pt.locs, Pt.cells, Pt.slots] at X5 l5 y5 z5 st5 hQ5
    subst l5 y5 z5
    obtain ⟨rfl, rfl, e5⟩ := hQ5
    try rw [List.append_nil] at X5
    refine Owes.by (fun _ k => st5.trans k) ?_
    show Owes p e below s (QL n0) room_1.cells room_1.slots T5 (mkF m 65 #[(.val (.long p0)), .second, (.val (.long p1)), .second, (.val (.int p2)), (.val (.long u)), .second, (.val (.long v)), .second, (.val (.ref q)), (.val (.ref r))] [(.int (0 : Int32))])
    refine Owes.by (fun _ k => XS.ifYes X5.here hx rfl (pc0 := 65) (pc' := 70) rfl (hb hby at_65) rfl (XT.i0_eq_t (by decide)) (by decide) (by decide) k) ?_
    show Owes p e below s (QL n0) room_1.cells room_1.slots T5 (mkF m 70 #[(.val (.long p0)), .second, (.val (.long p1)), .second, (.val (.int p2)), (.val (.long u)), .second, (.val (.long v)), .second, (.val (.ref q)), (.val (.ref r))] [])
    refine Owes.by (fun _ k => XS.aload X5.here hx rfl (hb hby at_70) rfl rfl k) ?_
    show Owes p e below s (QL n0) room_1.cells room_1.slots T5 (mkF m 72 #[(.val (.long p0)), .second, (.val (.long p1)), .second, (.val (.int p2)), (.val (.long u)), .second, (.val (.long v)), .second, (.val (.ref q)), (.val (.ref r))] [(.ref q)])
    obtain ⟨cq6, kq6, qa6, qb6, qc6⟩ := isOf hZ e5 Aq
    obtain ⟨_, _, ⟨T6, L6, k6, n6⟩, -, X6, ⟨Lc6, hQ6, l6, y6, z6⟩, st6⟩ := X5.virtualBack hx (y := (⟨"com/example/libtier/libtier/Quantity", "units", "()J"⟩ : MethodName)) (z := (⟨"com/example/libtier/libtier/Quantity", "units", "()J"⟩ : MethodName)) hown (mvT hZ (hw _ (List.mem_of_getElem? (i := 20) rfl))) (mvT hZ (hw _ (List.mem_of_getElem? (i := 21) rfl))) (notFace_of_selects (args := #[]) (mvT hZ (hw _ (List.mem_of_getElem? (i := 23) rfl)))) (mvT hZ (hw _ (List.mem_of_getElem? (i := 23) rfl))) (mvT hZ (hw _ (List.mem_of_getElem? (i := 22) rfl))) (by decide) (backOf (W := 0) (rmU l Z a0 hw [] q u T3.heap n0 Z2 Fq Aq hu) hZ (hw _ (List.mem_of_getElem? (i := 24) rfl)) (hw _ (List.mem_of_getElem? (i := 3) rfl)) (by decide) (by decide)) qa6 qc6 (g := (mkF m 72 #[(.val (.long p0)), .second, (.val (.long p1)), .second, (.val (.int p2)), (.val (.long u)), .second, (.val (.long v)), .second, (.val (.ref q)), (.val (.ref r))] [(.ref q)])) rfl (by rw [hml]; rfl) (Steps.refl _) (argsL := []) (rest := []) (lenOf pd_J rfl) rfl (by show 2 * 0 + _ ≤ _; exact Nat.le_of_eq rfl) (hb hby at_72) (fun _ _ => ⟨rfl, e5, (by decide : 2 + 0 ≤ _), (by decide : 2 + 0 ≤ _)⟩)
    dsimp only [Pt.U, Pt.locs, Pt.cells, Pt.slots] at X6 l6 y6 z6 st6 hQ6
    subst l6 y6 z6
    obtain ⟨rfl, rfl, e6⟩ := hQ6
    try rw [List.append_nil] at X6
    refine Owes.by (fun _ k => st6.trans k) ?_
    show Owes p e below s (QL n0) room_1.cells room_1.slots T6 (mkF m 75 #[(.val (.long p0)), .second, (.val (.long p1)), .second, (.val (.int p2)), (.val (.long u)), .second, (.val (.long v)), .second, (.val (.ref q)), (.val (.ref r))] [(.long u)])
    refine Owes.by (fun _ k => XT.lload X6.here hx rfl (hb hby at_75) rfl k) ?_
    show Owes p e below s (QL n0) room_1.cells room_1.slots T6 (mkF m 77 #[(.val (.long p0)), .second, (.val (.long p1)), .second, (.val (.int p2)), (.val (.long u)), .second, (.val (.long v)), .second, (.val (.ref q)), (.val (.ref r))] [(.long u), (.long u)])
    refine Owes.by (fun _ k => XT.lcmp X6.here hx rfl (hb hby at_77) rfl k) ?_
    show Owes p e below s (QL n0) room_1.cells room_1.slots T6 (mkF m 78 #[(.val (.long p0)), .second, (.val (.long p1)), .second, (.val (.int p2)), (.val (.long u)), .second, (.val (.long v)), .second, (.val (.ref q)), (.val (.ref r))] [(.int (XT.cmpL u u))])
    refine Owes.by (fun _ k => XS.ifYes X6.here hx rfl (pc0 := 78) (pc' := 83) rfl (hb hby at_78) rfl (XT.ll_eq_t rfl) (by decide) (by decide) k) ?_
    show Owes p e below s (QL n0) room_1.cells room_1.slots T6 (mkF m 83 #[(.val (.long p0)), .second, (.val (.long p1)), .second, (.val (.int p2)), (.val (.long u)), .second, (.val (.long v)), .second, (.val (.ref q)), (.val (.ref r))] [])
    refine Owes.by (fun _ k => XS.aload X6.here hx rfl (hb hby at_83) rfl rfl k) ?_
    show Owes p e below s (QL n0) room_1.cells room_1.slots T6 (mkF m 85 #[(.val (.long p0)), .second, (.val (.long p1)), .second, (.val (.int p2)), (.val (.long u)), .second, (.val (.long v)), .second, (.val (.ref q)), (.val (.ref r))] [(.ref r)])
    obtain ⟨cq7, kq7, qa7, qb7, qc7⟩ := isOf hZ e6 A3
    obtain ⟨_, _, ⟨T7, L7, k7, n7⟩, -, X7, ⟨Lc7, hQ7, l7, y7, z7⟩, st7⟩ := X6.virtualBack hx (y := (⟨"com/example/libtier/libtier/Quantity", "units", "()J"⟩ : MethodName)) (z := (⟨"com/example/libtier/libtier/Quantity", "units", "()J"⟩ : MethodName)) hown (mvT hZ (hw _ (List.mem_of_getElem? (i := 20) rfl))) (mvT hZ (hw _ (List.mem_of_getElem? (i := 21) rfl))) (notFace_of_selects (args := #[]) (mvT hZ (hw _ (List.mem_of_getElem? (i := 23) rfl)))) (mvT hZ (hw _ (List.mem_of_getElem? (i := 23) rfl))) (mvT hZ (hw _ (List.mem_of_getElem? (i := 22) rfl))) (by decide) (backOf (W := 0) (rmU l Z a0 hw [] r v T3.heap n0 Z2 F3 A3 hv) hZ (hw _ (List.mem_of_getElem? (i := 24) rfl)) (hw _ (List.mem_of_getElem? (i := 3) rfl)) (by decide) (by decide)) qa7 qc7 (g := (mkF m 85 #[(.val (.long p0)), .second, (.val (.long p1)), .second, (.val (.int p2)), (.val (.long u)), .second, (.val (.long v)), .second, (.val (.ref q)), (.val (.ref r))] [(.ref r)])) rfl (by rw [hml]; rfl) (Steps.refl _) (argsL := []) (rest := []) (lenOf pd_J rfl) rfl (by show 2 * 0 + _ ≤ _; exact Nat.le_of_eq rfl) (hb hby at_85) (fun _ _ => ⟨rfl, e6, (by decide : 2 + 0 ≤ _), (by decide : 2 + 0 ≤ _)⟩)
    dsimp only [Pt.U, Pt.locs, Pt.cells, Pt.slots] at X7 l7 y7 z7 st7 hQ7
    subst l7 y7 z7
    obtain ⟨rfl, rfl, e7⟩ := hQ7
    try rw [List.append_nil] at X7
    refine Owes.by (fun _ k => st7.trans k) ?_
    show Owes p e below s (QL n0) room_1.cells room_1.slots T7 (mkF m 88 #[(.val (.long p0)), .second, (.val (.long p1)), .second, (.val (.int p2)), (.val (.long u)), .second, (.val (.long v)), .second, (.val (.ref q)), (.val (.ref r))] [(.long v)])
    refine Owes.by (fun _ k => XT.lload X7.here hx rfl (hb hby at_88) rfl k) ?_
    show Owes p e below s (QL n0) room_1.cells room_1.slots T7 (mkF m 90 #[(.val (.long p0)), .second, (.val (.long p1)), .second, (.val (.int p2)), (.val (.long u)), .second, (.val (.long v)), .second, (.val (.ref q)), (.val (.ref r))] [(.long v), (.long v)])
    refine Owes.by (fun _ k => XT.lcmp X7.here hx rfl (hb hby at_90) rfl k) ?_
    show Owes p e below s (QL n0) room_1.cells room_1.slots T7 (mkF m 91 #[(.val (.long p0)), .second, (.val (.long p1)), .second, (.val (.int p2)), (.val (.long u)), .second, (.val (.long v)), .second, (.val (.ref q)), (.val (.ref r))] [(.int (XT.cmpL v v))])
    refine Owes.by (fun _ k => XS.ifYes X7.here hx rfl (pc0 := 91) (pc' := 96) rfl (hb hby at_91) rfl (XT.ll_eq_t rfl) (by decide) (by decide) k) ?_
    show Owes p e below s (QL n0) room_1.cells room_1.slots T7 (mkF m 96 #[(.val (.long p0)), .second, (.val (.long p1)), .second, (.val (.int p2)), (.val (.long u)), .second, (.val (.long v)), .second, (.val (.ref q)), (.val (.ref r))] [])
    refine Owes.by (fun _ k => XS.aload X7.here hx rfl (hb hby at_96) rfl rfl k) ?_
    show Owes p e below s (QL n0) room_1.cells room_1.slots T7 (mkF m 98 #[(.val (.long p0)), .second, (.val (.long p1)), .second, (.val (.int p2)), (.val (.long u)), .second, (.val (.long v)), .second, (.val (.ref q)), (.val (.ref r))] [(.ref q)])
    obtain ⟨_, _, ⟨T8, L8, k8, n8⟩, -, X8, ⟨Lc8, hQ8, l8, y8, z8⟩, st8⟩ := Jvm.LawKit.callS X7 hx (y := (⟨"com/example/libtier/libtier/Quantity", "unlimited", "()Lcom/example/libtier/libtier/Quantity;"⟩ : MethodName)) hown (mvT hZ (hw _ (List.mem_of_getElem? (i := 26) rfl))) (mvT hZ (hw _ (List.mem_of_getElem? (i := 27) rfl))) (mvT hZ (hw _ (List.mem_of_getElem? (i := 3) rfl))) (mvT hZ (hw _ (List.mem_of_getElem? (i := 28) rfl))) (by decide) (backOf (W := 1) (rmN l Z a0 hw [] w T3.heap n0 Z2 S2) hZ (hw _ (List.mem_of_getElem? (i := 28) rfl)) (hw _ (List.mem_of_getElem? (i := 3) rfl)) (by decide) (by decide)) (g := (mkF m 98 #[(.val (.long p0)), .second, (.val (.long p1)), .second, (.val (.int p2)), (.val (.long u)), .second, (.val (.long v)), .second, (.val (.ref q)), (.val (.ref r))] [(.ref q)])) rfl (by rw [hml]; rfl) (argsL := []) (rest := [(.ref q)]) (lenOf pd_Lcom_example_libtier_libtier_Quantity rfl) rfl (by show 2 * 0 + _ ≤ _; exact Nat.le_of_eq rfl) (hb hby at_98) (fun _ _ => ⟨rfl, e7, (by decide : 2 + 0 ≤ _), (by decide : 2 + 0 ≤ _)⟩)
    dsimp only [Pt.U, Pt.locs, Pt.cells, Pt.slots] at X8 l8 y8 z8 st8 hQ8
    subst l8 y8 z8
    obtain ⟨rfl, rfl, e8⟩ := hQ8
    try rw [List.append_nil] at X8
    refine Owes.by st8 ?_
    show Owes p e below s (QL n0) room_1.cells room_1.slots T8 (mkF m 101 #[(.val (.long p0)), .second, (.val (.long p1)), .second, (.val (.int p2)), (.val (.long u)), .second, (.val (.long v)), .second, (.val (.ref q)), (.val (.ref r))] [(.ref w), (.ref q)])
    obtain ⟨cq9, kq9, qa9, qb9, qc9⟩ := isOf hZ e8 Aq
    obtain ⟨_, _, ⟨T9, L9, k9, n9⟩, -, X9, ⟨Lc9, hQ9, l9, y9, z9⟩, st9⟩ := X8.virtualBack hx (y := (⟨"com/example/libtier/libtier/Quantity", "equals", "(Ljava/lang/Object;)Z"⟩ : MethodName)) (z := (⟨"com/example/libtier/libtier/Quantity", "equals", "(Ljava/lang/Object;)Z"⟩ : MethodName)) hown (mvT hZ (hw _ (List.mem_of_getElem? (i := 31) rfl))) (mvT hZ (hw _ (List.mem_of_getElem? (i := 32) rfl))) (notFace_of_selects (args := #[]) (mvT hZ (hw _ (List.mem_of_getElem? (i := 34) rfl)))) (mvT hZ (hw _ (List.mem_of_getElem? (i := 34) rfl))) (mvT hZ (hw _ (List.mem_of_getElem? (i := 33) rfl))) (by decide) (backOf (W := 0) (rmE l Z a0 hw [] q w u (-1) 0 T3.heap n0 Z2 Fq Fw Ew (if_neg (own_m1 hu))) hZ (hw _ (List.mem_of_getElem? (i := 35) rfl)) (hw _ (List.mem_of_getElem? (i := 3) rfl)) (by decide) (by decide)) qa9 qc9 (g := (mkF m 101 #[(.val (.long p0)), .second, (.val (.long p1)), .second, (.val (.int p2)), (.val (.long u)), .second, (.val (.long v)), .second, (.val (.ref q)), (.val (.ref r))] [(.ref w), (.ref q)])) rfl (by rw [hml]; rfl) (Steps.refl _) (argsL := [(.ref w)]) (rest := []) (lenOf pd_Ljava_lang_Object_Z rfl) rfl (by show 2 * 0 + _ ≤ _; exact Nat.le_of_eq rfl) (hb hby at_101) (fun _ _ => ⟨rfl, e8, (by decide : 2 + 0 ≤ _), (by decide : 2 + 0 ≤ _)⟩)
    dsimp only [Pt.U, Pt.locs, Pt.cells, Pt.slots] at X9 l9 y9 z9 st9 hQ9
    subst l9 y9 z9
    obtain ⟨rfl, rfl, e9⟩ := hQ9
    try rw [List.append_nil] at X9
    refine Owes.by (fun _ k => st9.trans k) ?_
    show Owes p e below s (QL n0) room_1.cells room_1.slots T9 (mkF m 104 #[(.val (.long p0)), .second, (.val (.long p1)), .second, (.val (.int p2)), (.val (.long u)), .second, (.val (.long v)), .second, (.val (.ref q)), (.val (.ref r))] [(.int (0 : Int32))])
    refine Owes.by (fun _ k => XS.ifYes X9.here hx rfl (pc0 := 104) (pc' := 109) rfl (hb hby at_104) rfl (XT.i0_eq_t (by decide)) (by decide) (by decide) k) ?_
    show Owes p e below s (QL n0) room_1.cells room_1.slots T9 (mkF m 109 #[(.val (.long p0)), .second, (.val (.long p1)), .second, (.val (.int p2)), (.val (.long u)), .second, (.val (.long v)), .second, (.val (.ref q)), (.val (.ref r))] [])
    refine Owes.by (fun _ k => XS.aload X9.here hx rfl (hb hby at_109) rfl rfl k) ?_
    show Owes p e below s (QL n0) room_1.cells room_1.slots T9 (mkF m 111 #[(.val (.long p0)), .second, (.val (.long p1)), .second, (.val (.int p2)), (.val (.long u)), .second, (.val (.long v)), .second, (.val (.ref q)), (.val (.ref r))] [(.ref q)])
    refine Owes.by (fun _ k => XS.aload X9.here hx rfl (hb hby at_111) rfl rfl k) ?_
    show Owes p e below s (QL n0) room_1.cells room_1.slots T9 (mkF m 113 #[(.val (.long p0)), .second, (.val (.long p1)), .second, (.val (.int p2)), (.val (.long u)), .second, (.val (.long v)), .second, (.val (.ref q)), (.val (.ref r))] [(.ref r), (.ref q)])
    by_cases huv : u = v
    · skip
      obtain ⟨cq10, kq10, qa10, qb10, qc10⟩ := isOf hZ e9 Aq
      obtain ⟨_, _, ⟨T10, L10, k10, n10⟩, -, X10, ⟨Lc10, hQ10, l10, y10, z10⟩, st10⟩ := X9.virtualBack hx (y := (⟨"com/example/libtier/libtier/Quantity", "equals", "(Ljava/lang/Object;)Z"⟩ : MethodName)) (z := (⟨"com/example/libtier/libtier/Quantity", "equals", "(Ljava/lang/Object;)Z"⟩ : MethodName)) hown (mvT hZ (hw _ (List.mem_of_getElem? (i := 31) rfl))) (mvT hZ (hw _ (List.mem_of_getElem? (i := 32) rfl))) (notFace_of_selects (args := #[]) (mvT hZ (hw _ (List.mem_of_getElem? (i := 34) rfl)))) (mvT hZ (hw _ (List.mem_of_getElem? (i := 34) rfl))) (mvT hZ (hw _ (List.mem_of_getElem? (i := 33) rfl))) (by decide) (backOf (W := 0) (rmE l Z a0 hw [] q r u v 1 T3.heap n0 Z2 Fq F3 A3 (if_pos huv.symm)) hZ (hw _ (List.mem_of_getElem? (i := 35) rfl)) (hw _ (List.mem_of_getElem? (i := 3) rfl)) (by decide) (by decide)) qa10 qc10 (g := (mkF m 113 #[(.val (.long p0)), .second, (.val (.long p1)), .second, (.val (.int p2)), (.val (.long u)), .second, (.val (.long v)), .second, (.val (.ref q)), (.val (.ref r))] [(.ref r), (.ref q)])) rfl (by rw [hml]; rfl) (Steps.refl _) (argsL := [(.ref r)]) (rest := []) (lenOf pd_Ljava_lang_Object_Z rfl) rfl (by show 2 * 0 + _ ≤ _; exact Nat.le_of_eq rfl) (hb hby at_113) (fun _ _ => ⟨rfl, e9, (by decide : 2 + 0 ≤ _), (by decide : 2 + 0 ≤ _)⟩)
      dsimp only [Pt.U, Pt.locs, Pt.cells, Pt.slots] at X10 l10 y10 z10 st10 hQ10
      subst l10 y10 z10
      obtain ⟨rfl, rfl, e10⟩ := hQ10
      try rw [List.append_nil] at X10
      refine Owes.by (fun _ k => st10.trans k) ?_
      show Owes p e below s (QL n0) room_1.cells room_1.slots T10 (mkF m 116 #[(.val (.long p0)), .second, (.val (.long p1)), .second, (.val (.int p2)), (.val (.long u)), .second, (.val (.long v)), .second, (.val (.ref q)), (.val (.ref r))] [(.int (1 : Int32))])
      refine Owes.by (fun _ k => XT.lload X10.here hx rfl (hb hby at_116) rfl k) ?_
      show Owes p e below s (QL n0) room_1.cells room_1.slots T10 (mkF m 118 #[(.val (.long p0)), .second, (.val (.long p1)), .second, (.val (.int p2)), (.val (.long u)), .second, (.val (.long v)), .second, (.val (.ref q)), (.val (.ref r))] [(.long u), (.int (1 : Int32))])
      refine Owes.by (fun _ k => XT.lload X10.here hx rfl (hb hby at_118) rfl k) ?_
      show Owes p e below s (QL n0) room_1.cells room_1.slots T10 (mkF m 120 #[(.val (.long p0)), .second, (.val (.long p1)), .second, (.val (.int p2)), (.val (.long u)), .second, (.val (.long v)), .second, (.val (.ref q)), (.val (.ref r))] [(.long v), (.long u), (.int (1 : Int32))])
      refine Owes.by (fun _ k => XT.lcmp X10.here hx rfl (hb hby at_120) rfl k) ?_
      show Owes p e below s (QL n0) room_1.cells room_1.slots T10 (mkF m 121 #[(.val (.long p0)), .second, (.val (.long p1)), .second, (.val (.int p2)), (.val (.long u)), .second, (.val (.long v)), .second, (.val (.ref q)), (.val (.ref r))] [(.int (XT.cmpL u v)), (.int (1 : Int32))])
      refine Owes.by (fun _ k => XS.ifNo X10.here hx rfl (hb hby at_121) rfl (XT.ll_ne_f huv) k) ?_
      show Owes p e below s (QL n0) room_1.cells room_1.slots T10 (mkF m 124 #[(.val (.long p0)), .second, (.val (.long p1)), .second, (.val (.int p2)), (.val (.long u)), .second, (.val (.long v)), .second, (.val (.ref q)), (.val (.ref r))] [(.int (1 : Int32))])
      refine Owes.by (fun _ k => XS.iconst X10.here hx rfl (hb hby at_124) k) ?_
      show Owes p e below s (QL n0) room_1.cells room_1.slots T10 (mkF m 125 #[(.val (.long p0)), .second, (.val (.long p1)), .second, (.val (.int p2)), (.val (.long u)), .second, (.val (.long v)), .second, (.val (.ref q)), (.val (.ref r))] [(.int (1 : Int32)), (.int (1 : Int32))])
      refine Owes.by (fun _ k => XS.goto X10.here hx rfl (pc0 := 125) (pc' := 129) rfl (hb hby at_125) (by decide) (by decide) k) ?_
      show Owes p e below s (QL n0) room_1.cells room_1.slots T10 (mkF m 129 #[(.val (.long p0)), .second, (.val (.long p1)), .second, (.val (.int p2)), (.val (.long u)), .second, (.val (.long v)), .second, (.val (.ref q)), (.val (.ref r))] [(.int (1 : Int32)), (.int (1 : Int32))])
      refine Owes.by (fun _ k => XS.icmpNo X10.here hx rfl (hb hby at_129) rfl (XT.ii_ne_f (by decide)) k) ?_
      show Owes p e below s (QL n0) room_1.cells room_1.slots T10 (mkF m 132 #[(.val (.long p0)), .second, (.val (.long p1)), .second, (.val (.int p2)), (.val (.long u)), .second, (.val (.long v)), .second, (.val (.ref q)), (.val (.ref r))] [])
      refine Owes.by (fun _ k => XS.iconst X10.here hx rfl (hb hby at_132) k) ?_
      show Owes p e below s (QL n0) room_1.cells room_1.slots T10 (mkF m 133 #[(.val (.long p0)), .second, (.val (.long p1)), .second, (.val (.int p2)), (.val (.long u)), .second, (.val (.long v)), .second, (.val (.ref q)), (.val (.ref r))] [(.int (1 : Int32))])
      refine Owes.by (fun _ k => XS.goto X10.here hx rfl (pc0 := 133) (pc' := 137) rfl (hb hby at_133) (by decide) (by decide) k) ?_
      show Owes p e below s (QL n0) room_1.cells room_1.slots T10 (mkF m 137 #[(.val (.long p0)), .second, (.val (.long p1)), .second, (.val (.int p2)), (.val (.long u)), .second, (.val (.long v)), .second, (.val (.ref q)), (.val (.ref r))] [(.int (1 : Int32))])
      refine Owes.ret X10 (v := some (.int (1 : Int32))) (fun h => by rw [Bd.returns] at h; cases h) hlk ?_ (by decide) (by decide) (fun fs hr => retN X10 hx (t := .boolean) Bd.returns (by simp) (hb hby at_137) hr)
      rw [e10]
      exact ⟨rfl, (Fr.app (Fr.app N0 N2) N3)⟩
    · skip
      obtain ⟨cq11, kq11, qa11, qb11, qc11⟩ := isOf hZ e9 Aq
      obtain ⟨_, _, ⟨T11, L11, k11, n11⟩, -, X11, ⟨Lc11, hQ11, l11, y11, z11⟩, st11⟩ := X9.virtualBack hx (y := (⟨"com/example/libtier/libtier/Quantity", "equals", "(Ljava/lang/Object;)Z"⟩ : MethodName)) (z := (⟨"com/example/libtier/libtier/Quantity", "equals", "(Ljava/lang/Object;)Z"⟩ : MethodName)) hown (mvT hZ (hw _ (List.mem_of_getElem? (i := 31) rfl))) (mvT hZ (hw _ (List.mem_of_getElem? (i := 32) rfl))) (notFace_of_selects (args := #[]) (mvT hZ (hw _ (List.mem_of_getElem? (i := 34) rfl)))) (mvT hZ (hw _ (List.mem_of_getElem? (i := 34) rfl))) (mvT hZ (hw _ (List.mem_of_getElem? (i := 33) rfl))) (by decide) (backOf (W := 0) (rmE l Z a0 hw [] q r u v 0 T3.heap n0 Z2 Fq F3 A3 (if_neg (Ne.symm huv))) hZ (hw _ (List.mem_of_getElem? (i := 35) rfl)) (hw _ (List.mem_of_getElem? (i := 3) rfl)) (by decide) (by decide)) qa11 qc11 (g := (mkF m 113 #[(.val (.long p0)), .second, (.val (.long p1)), .second, (.val (.int p2)), (.val (.long u)), .second, (.val (.long v)), .second, (.val (.ref q)), (.val (.ref r))] [(.ref r), (.ref q)])) rfl (by rw [hml]; rfl) (Steps.refl _) (argsL := [(.ref r)]) (rest := []) (lenOf pd_Ljava_lang_Object_Z rfl) rfl (by show 2 * 0 + _ ≤ _; exact Nat.le_of_eq rfl) (hb hby at_113) (fun _ _ => ⟨rfl, e9, (by decide : 2 + 0 ≤ _), (by decide : 2 + 0 ≤ _)⟩)
      dsimp only [Pt.U, Pt.locs, Pt.cells, Pt.slots] at X11 l11 y11 z11 st11 hQ11
      subst l11 y11 z11
      obtain ⟨rfl, rfl, e11⟩ := hQ11
      try rw [List.append_nil] at X11
      refine Owes.by (fun _ k => st11.trans k) ?_
      show Owes p e below s (QL n0) room_1.cells room_1.slots T11 (mkF m 116 #[(.val (.long p0)), .second, (.val (.long p1)), .second, (.val (.int p2)), (.val (.long u)), .second, (.val (.long v)), .second, (.val (.ref q)), (.val (.ref r))] [(.int (0 : Int32))])
      refine Owes.by (fun _ k => XT.lload X11.here hx rfl (hb hby at_116) rfl k) ?_
      show Owes p e below s (QL n0) room_1.cells room_1.slots T11 (mkF m 118 #[(.val (.long p0)), .second, (.val (.long p1)), .second, (.val (.int p2)), (.val (.long u)), .second, (.val (.long v)), .second, (.val (.ref q)), (.val (.ref r))] [(.long u), (.int (0 : Int32))])
      refine Owes.by (fun _ k => XT.lload X11.here hx rfl (hb hby at_118) rfl k) ?_
      show Owes p e below s (QL n0) room_1.cells room_1.slots T11 (mkF m 120 #[(.val (.long p0)), .second, (.val (.long p1)), .second, (.val (.int p2)), (.val (.long u)), .second, (.val (.long v)), .second, (.val (.ref q)), (.val (.ref r))] [(.long v), (.long u), (.int (0 : Int32))])
      refine Owes.by (fun _ k => XT.lcmp X11.here hx rfl (hb hby at_120) rfl k) ?_
      show Owes p e below s (QL n0) room_1.cells room_1.slots T11 (mkF m 121 #[(.val (.long p0)), .second, (.val (.long p1)), .second, (.val (.int p2)), (.val (.long u)), .second, (.val (.long v)), .second, (.val (.ref q)), (.val (.ref r))] [(.int (XT.cmpL u v)), (.int (0 : Int32))])
      refine Owes.by (fun _ k => XS.ifYes X11.here hx rfl (pc0 := 121) (pc' := 128) rfl (hb hby at_121) rfl (XT.ll_ne_t huv) (by decide) (by decide) k) ?_
      show Owes p e below s (QL n0) room_1.cells room_1.slots T11 (mkF m 128 #[(.val (.long p0)), .second, (.val (.long p1)), .second, (.val (.int p2)), (.val (.long u)), .second, (.val (.long v)), .second, (.val (.ref q)), (.val (.ref r))] [(.int (0 : Int32))])
      refine Owes.by (fun _ k => XS.iconst X11.here hx rfl (hb hby at_128) k) ?_
      show Owes p e below s (QL n0) room_1.cells room_1.slots T11 (mkF m 129 #[(.val (.long p0)), .second, (.val (.long p1)), .second, (.val (.int p2)), (.val (.long u)), .second, (.val (.long v)), .second, (.val (.ref q)), (.val (.ref r))] [(.int (0 : Int32)), (.int (0 : Int32))])
      refine Owes.by (fun _ k => XS.icmpNo X11.here hx rfl (hb hby at_129) rfl (XT.ii_ne_f (by decide)) k) ?_
      show Owes p e below s (QL n0) room_1.cells room_1.slots T11 (mkF m 132 #[(.val (.long p0)), .second, (.val (.long p1)), .second, (.val (.int p2)), (.val (.long u)), .second, (.val (.long v)), .second, (.val (.ref q)), (.val (.ref r))] [])
      refine Owes.by (fun _ k => XS.iconst X11.here hx rfl (hb hby at_132) k) ?_
      show Owes p e below s (QL n0) room_1.cells room_1.slots T11 (mkF m 133 #[(.val (.long p0)), .second, (.val (.long p1)), .second, (.val (.int p2)), (.val (.long u)), .second, (.val (.long v)), .second, (.val (.ref q)), (.val (.ref r))] [(.int (1 : Int32))])
      refine Owes.by (fun _ k => XS.goto X11.here hx rfl (pc0 := 133) (pc' := 137) rfl (hb hby at_133) (by decide) (by decide) k) ?_
      show Owes p e below s (QL n0) room_1.cells room_1.slots T11 (mkF m 137 #[(.val (.long p0)), .second, (.val (.long p1)), .second, (.val (.int p2)), (.val (.long u)), .second, (.val (.long v)), .second, (.val (.ref q)), (.val (.ref r))] [(.int (1 : Int32))])
      refine Owes.ret X11 (v := some (.int (1 : Int32))) (fun h => by rw [Bd.returns] at h; cases h) hlk ?_ (by decide) (by decide) (fun fs hr => retN X11 hx (t := .boolean) Bd.returns (by simp) (hb hby at_137) hr)
      rw [e11]
      exact ⟨rfl, (Fr.app (Fr.app N0 N2) N3)⟩
  by_cases qf : (p2 &&& (1 : Int32)) = 0
  · skip
    refine Owes.by (fun _ k => XS.ifYes X0.here hx rfl (pc0 := 11) (pc' := 19) rfl (hb hby at_11) rfl (XT.i0_eq_t qf) (by decide) (by decide) k) ?_
    show Owes p e below s (QL n0) room_1.cells room_1.slots s₁ (mkF m 19 #[(.val (.long p0)), .second, (.val (.long p1)), .second, (.val (.int p2)), (.val (.long u)), .second, .unset, .unset, .unset, .unset] [])
    refine Owes.by (fun _ k => XT.lloadN X0.here hx rfl (hb hby at_19) rfl k) ?_
    show Owes p e below s (QL n0) room_1.cells room_1.slots s₁ (mkF m 20 #[(.val (.long p0)), .second, (.val (.long p1)), .second, (.val (.int p2)), (.val (.long u)), .second, .unset, .unset, .unset, .unset] [(.long p1)])
    refine Owes.by (fun t k => X0.ldc2Long hx hown (mvT hZ (hw _ (List.mem_of_getElem? (i := 0) rfl))) (g := (mkF m 20 #[(.val (.long p0)), .second, (.val (.long p1)), .second, (.val (.int p2)), (.val (.long u)), .second, .unset, .unset, .unset, .unset] [(.long p1)])) rfl (hb hby at_20) t k) ?_
    show Owes p e below s (QL n0) room_1.cells room_1.slots s₁ (mkF m 23 #[(.val (.long p0)), .second, (.val (.long p1)), .second, (.val (.int p2)), (.val (.long u)), .second, .unset, .unset, .unset, .unset] [(.long (9223372036854775807 : Int64)), (.long p1)])
    refine Owes.by (fun _ k => XT.land X0.here hx rfl (hb hby at_23) rfl k) ?_
    show Owes p e below s (QL n0) room_1.cells room_1.slots s₁ (mkF m 24 #[(.val (.long p0)), .second, (.val (.long p1)), .second, (.val (.int p2)), (.val (.long u)), .second, .unset, .unset, .unset, .unset] [(.long (p1 &&& (9223372036854775807 : Int64)))])
    exact J1 s₁ X0 e0 (p1 &&& (9223372036854775807 : Int64)) (own_andL p1)
  · skip
    refine Owes.by (fun _ k => XS.ifNo X0.here hx rfl (hb hby at_11) rfl (XT.i0_eq_f qf) k) ?_
    show Owes p e below s (QL n0) room_1.cells room_1.slots s₁ (mkF m 14 #[(.val (.long p0)), .second, (.val (.long p1)), .second, (.val (.int p2)), (.val (.long u)), .second, .unset, .unset, .unset, .unset] [])
    refine Owes.by (fun _ k => XT.lload X0.here hx rfl (hb hby at_14) rfl k) ?_
    show Owes p e below s (QL n0) room_1.cells room_1.slots s₁ (mkF m 16 #[(.val (.long p0)), .second, (.val (.long p1)), .second, (.val (.int p2)), (.val (.long u)), .second, .unset, .unset, .unset, .unset] [(.long u)])
    refine Owes.by (fun _ k => XS.goto X0.here hx rfl (pc0 := 16) (pc' := 24) rfl (hb hby at_16) (by decide) (by decide) k) ?_
    show Owes p e below s (QL n0) room_1.cells room_1.slots s₁ (mkF m 24 #[(.val (.long p0)), .second, (.val (.long p1)), .second, (.val (.int p2)), (.val (.long u)), .second, .unset, .unset, .unset, .unset] [(.long u)])
    exact J1 s₁ X0 e0 u (hu)
set_option maxRecDepth 65536 in
set_option maxHeartbeats 40000000 in
theorem comes_1 {Post : Tables → Env → Array Value → State → Outcome → State → Prop} (hpost : ∀ tb e args s v u, (limb_1_1.after args s (.returned v) u = true ∧ limb_1_2.after args s (.returned v) u = true ∧ True) → FrameEnd s (.returned v) u (Jvm.fieldLocs frame_1_writes args s ++ Jvm.arrayLocs frame_1_arrays args s ++ Jvm.staticLocs frame_1_statics s) 16 128 → Post tb e args s (.returned v) u) :
    ArmFor flags0 classFile x code maxLocals ret World_1 tables_1 room_1 Calls_1 rest_1 Pre_1 Post := by
  intro l hfl _ _ p e ha hc hk s m args below hf hA hF happ hP
  obtain ⟨hcalls, hrest, hpre⟩ := hP
  obtain ⟨-, -, -, hnamed, -, -, -, hat⟩ := (Spec.applies_iff hf).mp happ
  obtain ⟨hg, hn⟩ := and_e (Cond.before_iff.mp (show (Jvm.Cond.and given_1 narrow_1).before args s = true from hpre))
  obtain ⟨hgl, hgr⟩ := and_e hg
  obtain ⟨hgrl, hgrr⟩ := and_e hgr
  obtain ⟨hgrrl, hgrrr⟩ := and_e hgrr
  obtain ⟨w0, w1, w2, rfl⟩ : ∃ w0 w1 w2 : Value, args = #[w0, w1, w2] := by
    have hs : args.size = 3 := by simpa [Cond.value, given_1] using hgl
    obtain ⟨L⟩ := args
    match L, hs with
    | [w0, w1, w2], _ => exact ⟨w0, w1, w2, rfl⟩
  have hw := fun d (hd : d ∈ tables_1) => atoms_spec (ws := Jvm.Cond.code x code maxLocals ret :: tables_1) hat d (List.mem_cons_of_mem _ hd)
  have hfit : Fit s := fun {y c} hc i hi => by
    obtain ⟨ha, rfl⟩ := Array.getElem?_eq_some_iff.mp hc
    have q := List.all_eq_true.mp ((Array.all_eq_true_iff_forall_mem.mp hF) _ (Array.getElem_mem ha)) i (List.mem_range.mpr hi)
    simpa [Array.getElem?_eq_getElem hi] using q
  obtain ⟨i0, ei0⟩ := isL_v hgrl
  obtain rfl : w0 = (.long i0) := Option.some.inj ei0
  obtain ⟨i1, ei1⟩ := isL_v hgrrl
  obtain rfl : w1 = (.long i1) := Option.some.inj ei1
  obtain ⟨i2, ei2⟩ := is_v hgrrr
  obtain rfl : w2 = (.int i2) := Option.some.inj ei2
  obtain ⟨hnl, hnr⟩ := and_e hn
  obtain ⟨w_UNLIMITED, v_UNLIMITED⟩ := exa_v hnl
  have E_UNLIMITED := Exa.start v_UNLIMITED hnl
  have S_UNLIMITED := Sta.start v_UNLIMITED (Or.inr ⟨(hw _ (List.mem_of_getElem? (i := 3) rfl)), (hw _ (List.mem_of_getElem? (i := 30) rfl))⟩)
  have F_UNLIMITED_units := own_fldL v_UNLIMITED hnr
  obtain ⟨n, o, h1, h2, h3, _, L, rfl, ⟨rfl, N⟩, hq⟩ := rm0 l s _ hw tables_1 i0 i1 i2 w_UNLIMITED s.heap s.heap.size (Nat.le_refl _) S_UNLIMITED E_UNLIMITED F_UNLIMITED_units p e ha hc hk s m _ below hf ((Spec.applies_iff_loose hf).mp happ).1 ⟨rfl, State.Warmed39.refl s, rfl⟩ trivial
  refine ⟨n, _, h1, h2, h3, hpost _ _ _ _ _ _ ⟨Cond.after_iff.mpr rfl, Cond.after_iff.mpr (eq_i res_at (Term.int_eval (1)) rfl), trivial⟩ ⟨hq.1, hq.2.1, (hq.2.2.sift fun y hy => Or.inr (N y hy)).mono (by decide) (by decide)⟩⟩
theorem main_1_1 : Claimed_1_1 := comes_1 fun _ _ _ _ _ _ h hF => ⟨h.1, hF⟩
theorem main_1_2 : Claimed_1_2 := comes_1 fun _ _ _ _ _ _ h hF => ⟨h.2.1, hF⟩
end Jvm.Pilot.@@N@@
namespace Jvm.Pilot.@@N@@
open Jvm Jvm.ClassFile Sem Op Lib Jvm.Free Jvm.Stand Jvm.Pilot.@@N@@.Jvm.D
/-! MADE BY PROGRAM (witnessworld.py) out of the Statement's table words and the real class files: 9 classes; the members and pool entries that the words name. The judged class is class 1, her method 1. -/
namespace start1
open Jvm.ClassFile
def u (s : String) : CpInfo := .utf8 (stringToUtf16 s)
/-- a pool by its gaps: so many unusable entries, then the entry; so many at the end -/
def gap : Nat → List CpInfo → List CpInfo
  | 0, r => r
  | n + 1, r => .unusable :: gap n r
def poolList (es : List (Nat × CpInfo)) (last : Nat) : List CpInfo := es.foldr (fun e r => gap e.1 (e.2 :: r)) (gap last [])
def pool (es : List (Nat × CpInfo)) (last : Nat) : Array CpInfo := ⟨poolList es last⟩
def fileOf (pool : Array CpInfo) (this : Nat) (attrs : Array Attribute := #[]) (ms : Array MethodInfo := #[]) (fl : Nat := 33) (sup : Nat := 0) (ifs : Array Nat := #[]) (fds : Array FieldInfo := #[]) : ClassFile where
  minorVersion := 0
  majorVersion := 65
  constantPool := pool
  accessFlags := fl
  thisClass := this
  superClass := sup
  interfaces := ifs
  fields := fds
  methods := ms
  attributes := attrs
def plain (name : String) (sup : Option ClassId) : Class where
  name := name
  kind := .ordinary
  loader := none
  accessFlags := 33
  super := sup
  interfaces := #[]
  cf := none
  fields := #[]
  methods := #[]
  instanceTypes := #[]
  staticTypes := #[]
  resolved := #[]
  callSites := []
  init := .initialized
  statics := none
  mirror := none

def pool0 : Array CpInfo := pool [(5, u "<init>"), (0, u "()V"), (1, .class_ 10), (1, u "java/lang/Object")] 113

def k0c0 : Code := { maxStack := 0, maxLocals := 1, code := object_method_1_code, exceptionTable := #[], attributes := #[] }
def k0m0 : Method := { name := "<init>", desc := "()V", sig := { parameters := [], returnType := none }, accessFlags := 1, code := some k0c0 }
/-- java/lang/Object -/
def k0 : Class := { plain "java/lang/Object" none with
  accessFlags := 33
  interfaces := #[]
  cf := some (fileOf pool0 8 #[] #[{ accessFlags := 1, nameIndex := 5, descriptorIndex := 6, attributes := #[] }] 33 0 #[] #[])
  fields := #[]
  methods := #[k0m0]
  instanceTypes := #[]
  staticTypes := #[]
  resolved := Array.replicate 124 none
  statics := none }

def pool1 : Array CpInfo := pool [(2, .class_ 4), (1, u "java/lang/Object"), (0, u "<init>"), (0, u "()V"), (2, .long 9223372036854775807), (1, .methodref 12 13), (0, .class_ 14), (0, .nameAndType 15 16), (0, u "com/example/libtier/libtier/Quantity"), (0, u "of"), (0, u "(J)Lcom/example/libtier/libtier/Quantity;"), (0, .methodref 12 18), (0, .nameAndType 19 20), (0, u "isUnlimited"), (0, u "()Z"), (0, .methodref 12 22), (0, .nameAndType 23 24), (0, u "units"), (0, u "()J"), (0, .methodref 12 26), (0, .nameAndType 27 28), (0, u "unlimited"), (0, u "()Lcom/example/libtier/libtier/Quantity;"), (0, .methodref 12 30), (0, .nameAndType 31 32), (0, u "equals"), (0, u "(Ljava/lang/Object;)Z"), (0, .class_ 34), (0, u "com/example/libtier/libtier/QuantityOfPinLaw"), (2, u "law"), (0, u "(JJI)Z")] 3

def k1m0 : Method := { name := "<init>", desc := "()V", sig := { parameters := [], returnType := none }, accessFlags := 1, code := none }
def k1c1 : Code := { maxStack := 5, maxLocals := 11, code := code, exceptionTable := #[], attributes := #[] }
def k1m1 : Method := { name := "law", desc := "(JJI)Z", sig := { parameters := [.long, .long, .int], returnType := some .boolean }, accessFlags := 9, code := some k1c1 }
/-- com/example/libtier/libtier/QuantityOfPinLaw -/
def k1 : Class := { plain "com/example/libtier/libtier/QuantityOfPinLaw" (some 0) with
  accessFlags := 49
  interfaces := #[]
  cf := some (fileOf pool1 33 #[] #[{ accessFlags := 1, nameIndex := 5, descriptorIndex := 6, attributes := #[] }, { accessFlags := 9, nameIndex := 37, descriptorIndex := 38, attributes := #[] }] 49 2 #[] #[])
  fields := #[]
  methods := #[k1m0, k1m1]
  instanceTypes := #[]
  staticTypes := #[]
  resolved := Array.replicate 42 none
  statics := none }

def pool2 : Array CpInfo := pool [(1, .methodref 2 3), (0, .class_ 4), (0, .nameAndType 5 6), (0, u "java/lang/Object"), (0, u "<init>"), (0, u "()V"), (0, .fieldref 8 9), (0, .class_ 10), (0, .nameAndType 11 12), (0, u "com/example/libtier/libtier/Quantity"), (0, u "units"), (0, u "J"), (9, .methodref 8 23), (0, .nameAndType 5 24), (0, u "(J)V"), (0, .fieldref 8 26), (0, .nameAndType 27 28), (0, u "UNLIMITED"), (0, u "Lcom/example/libtier/libtier/Quantity;"), (0, .methodref 8 30), (0, .nameAndType 31 32), (0, u "isUnlimited"), (0, u "()Z"), (12, u "unlimited"), (7, u "of"), (0, u "(J)Lcom/example/libtier/libtier/Quantity;"), (1, u "()Lcom/example/libtier/libtier/Quantity;"), (0, u "()J"), (0, u "equals"), (0, u "(Ljava/lang/Object;)Z")] 22

def k2c0 : Code := { maxStack := 3, maxLocals := 3, code := prog_75_method_1_code, exceptionTable := #[], attributes := #[] }
def k2m0 : Method := { name := "<init>", desc := "(J)V", sig := { parameters := [.long], returnType := none }, accessFlags := 2, code := some k2c0 }
def k2c1 : Code := { maxStack := 4, maxLocals := 2, code := prog_75_method_2_code, exceptionTable := #[], attributes := #[] }
def k2m1 : Method := { name := "of", desc := "(J)Lcom/example/libtier/libtier/Quantity;", sig := { parameters := [.long], returnType := some (.object "com/example/libtier/libtier/Quantity") }, accessFlags := 9, code := some k2c1 }
def k2c2 : Code := { maxStack := 1, maxLocals := 0, code := prog_75_method_3_code, exceptionTable := #[], attributes := #[] }
def k2m2 : Method := { name := "unlimited", desc := "()Lcom/example/libtier/libtier/Quantity;", sig := { parameters := [], returnType := some (.object "com/example/libtier/libtier/Quantity") }, accessFlags := 9, code := some k2c2 }
def k2c3 : Code := { maxStack := 4, maxLocals := 1, code := prog_75_method_4_code, exceptionTable := #[], attributes := #[] }
def k2m3 : Method := { name := "isUnlimited", desc := "()Z", sig := { parameters := [], returnType := some .boolean }, accessFlags := 1, code := some k2c3 }
def k2c4 : Code := { maxStack := 3, maxLocals := 1, code := prog_75_method_5_code, exceptionTable := #[], attributes := #[] }
def k2m4 : Method := { name := "units", desc := "()J", sig := { parameters := [], returnType := some .long }, accessFlags := 1, code := some k2c4 }
def k2c5 : Code := { maxStack := 4, maxLocals := 2, code := prog_75_method_6_code, exceptionTable := #[], attributes := #[] }
def k2m5 : Method := { name := "equals", desc := "(Ljava/lang/Object;)Z", sig := { parameters := [(.object "java/lang/Object")], returnType := some .boolean }, accessFlags := 1, code := some k2c5 }
/-- com/example/libtier/libtier/Quantity -/
def k2 : Class := { plain "com/example/libtier/libtier/Quantity" (some 0) with
  accessFlags := 33
  interfaces := #[]
  cf := some (fileOf pool2 8 #[] #[{ accessFlags := 2, nameIndex := 5, descriptorIndex := 24, attributes := #[] }, { accessFlags := 9, nameIndex := 53, descriptorIndex := 54, attributes := #[] }, { accessFlags := 9, nameIndex := 45, descriptorIndex := 56, attributes := #[] }, { accessFlags := 1, nameIndex := 31, descriptorIndex := 32, attributes := #[] }, { accessFlags := 1, nameIndex := 11, descriptorIndex := 57, attributes := #[] }, { accessFlags := 1, nameIndex := 58, descriptorIndex := 59, attributes := #[] }] 33 2 #[] #[{ accessFlags := 26, nameIndex := 27, descriptorIndex := 28, attributes := #[] }, { accessFlags := 18, nameIndex := 11, descriptorIndex := 12, attributes := #[] }])
  fields := #[{ name := "UNLIMITED", type := (.object "com/example/libtier/libtier/Quantity"), accessFlags := 26, slot := 0, constantValue := 0 }, { name := "units", type := .long, accessFlags := 18, slot := 0, constantValue := 0 }]
  methods := #[k2m0, k2m1, k2m2, k2m3, k2m4, k2m5]
  instanceTypes := #[.long]
  staticTypes := #[(.object "com/example/libtier/libtier/Quantity")]
  resolved := Array.replicate 82 none
  statics := some 0 }

def pool3 : Array CpInfo := pool [(1, u "java/lang/Cloneable"), (0, .class_ 1), (0, u "java/lang/Object"), (0, .class_ 3)] 3

/-- java/lang/Cloneable -/
def k3 : Class := { plain "java/lang/Cloneable" (some 0) with
  accessFlags := 1537
  interfaces := #[]
  cf := some (fileOf pool3 2 #[] #[] 1537 4 #[] #[])
  fields := #[]
  methods := #[]
  instanceTypes := #[]
  staticTypes := #[]
  resolved := Array.replicate 8 none
  statics := none }

def pool4 : Array CpInfo := pool [(1, u "java/io/Serializable"), (0, .class_ 1), (0, u "java/lang/Object"), (0, .class_ 3)] 3

/-- java/io/Serializable -/
def k4 : Class := { plain "java/io/Serializable" (some 0) with
  accessFlags := 1537
  interfaces := #[]
  cf := some (fileOf pool4 2 #[] #[] 1537 4 #[] #[])
  fields := #[]
  methods := #[]
  instanceTypes := #[]
  staticTypes := #[]
  resolved := Array.replicate 8 none
  statics := none }

/-- the primitive byte -/
def k5 : Class := { plain "byte" none with kind := .primitive 'B', accessFlags := 0x411 }
/-- [B -/
def k6 : Class := { plain "[B" (some 0) with kind := .array 5 .byte, interfaces := #[3, 4], accessFlags := 1041 }

/-- the primitive int -/
def k7 : Class := { plain "int" none with kind := .primitive 'I', accessFlags := 0x411 }
/-- [I -/
def k8 : Class := { plain "[I" (some 0) with kind := .array 7 .int, interfaces := #[3, 4], accessFlags := 1041 }

def heap : Heap := #[{ cls := 2, slots := #[.ref 1], vm := .statics 2 },
  { cls := 2, slots := #[.long (-1)], vm := .none }]
def classes : Array Class := #[k0, k1, k2, k3, k4, k5, k6, k7, k8]
def interned : List (Array UInt16 × Addr) := []
def slotsUsed : Nat := 2
def theMethod : MethodId := ⟨1, 1⟩
def args0 : Array Value := #[.long 7, .long 9, .int 2]
def aboutOver (below : List Frame) : State where
  vm := { classes := classes, interned := interned.toArray }
  heap := heap
  slotsUsed := slotsUsed
  threads := #[{ frames := .invoking theMethod args0 :: below }]
def below0 : List Frame := [.native { method := ⟨0, 0⟩, args := #[] }]
def about1 : State := aboutOver below0
def p0 : Program := .bare "" "" ""
def e0 : Env := launch0.env 0 0 0
theorem w_frames : about1.frames = Frame.invoking theMethod args0 :: below0 := rfl
set_option maxRecDepth 65536 in
theorem w_args : argsFit about1.vm theMethod args0 = true := by decide +kernel
set_option maxRecDepth 65536 in
theorem w_heap : heapFits about1 = true := by decide +kernel
set_option maxRecDepth 65536 in
theorem w_runnable : about1.curStatus? = some .runnable := by decide +kernel
set_option maxRecDepth 65536 in
theorem w_alone : about1.alone = true := by decide +kernel
set_option maxRecDepth 65536 in
theorem w_named : about1.methodNamed? x = some theMethod := by decide +kernel
set_option maxRecDepth 65536 in
theorem w_hears : about1.hears theMethod below0 = true := by decide +kernel
set_option maxRecDepth 65536 in
theorem w_ripe : about1.ripe theMethod args0 below0 = true := by decide +kernel
theorem w_running : about1.status = .running := rfl
set_option maxRecDepth 65536 in
theorem w_room : about1.hasRoom e0.platform room_1 = true :=
  launch0.hasRoom_least _ room_1 (by decide +kernel) (by decide +kernel) (by decide +kernel) (by decide +kernel) (by decide +kernel) (by decide +kernel)
theorem allAtoms_all (ts : List Jvm.Cond) (a : Array Jvm.Value) (st : Jvm.State) : (allAtoms ts).before a st = ts.all (fun c => c.before a st) := by
  induction ts with
  | nil => rfl
  | cons c t ih =>
    show (Jvm.Cond.and c (allAtoms t)).before a st = _
    rw [Jvm.Cond.before_and, ih, List.all_cons]
def words1 : List Jvm.Cond := Jvm.Cond.code x code maxLocals ret :: tables_1
/-- a 'code' word, met by the world's own term for the bytes: nothing is compared byte by byte -/
theorem code_word {y : MethodName} {bytes : ByteArray} {mx : Nat} {rt : Option FieldType} {a : Array Value} {s : State} {m : MethodId} {meth : Method} {c : Code} (h1 : s.methodNamed? y = some m) (h2 : s.vm.method? m = some meth) (h3 : meth.code = some c) (h4 : c.code = bytes)
    (h5 : (c.maxLocals == mx && c.exceptionTable.isEmpty && decide (c.maxStack ≤ mostOperands) && decide (meth.sig.returnType = rt) && !meth.locks && decide (parseMethodDescriptor y.desc = some meth.sig)) = true) : (Jvm.Cond.code y bytes mx rt).before a s = true := by
  simp only [Bool.and_eq_true, beq_iff_eq, Bool.not_eq_true', decide_eq_true_eq] at h5
  obtain ⟨⟨⟨⟨⟨g1, g2⟩, g3⟩, g4⟩, g5⟩, g6⟩ := h5
  simp [Cond.before, Cond.holds, Cond.value, h1, h2, h3, h4, g1, g2, g3, g4, g5, g6]
def isCode : Jvm.Cond → Bool
  | .code _ _ _ _ => true
  | _ => false
theorem all_split {L : List Jvm.Cond} {P : Jvm.Cond → Bool} (h1 : L.all (fun c => isCode c || P c) = true) (h2 : ∀ c ∈ L.filter isCode, P c = true) : L.all P = true := by
  refine List.all_eq_true.mpr fun c hc => ?_
  have h := List.all_eq_true.mp h1 c hc
  rcases Bool.eq_false_or_eq_true (isCode c) with hi | hi
  · exact h2 c (List.mem_filter.mpr ⟨hc, hi⟩)
  · simpa [hi] using h
set_option maxRecDepth 65536 in
theorem w_c0 : (Jvm.Cond.code x code maxLocals ret).before args0 about1 = true := code_word (m := ⟨1, 1⟩) (meth := k1m1) (c := k1c1) (by decide +kernel) rfl rfl rfl (by decide +kernel)
set_option maxRecDepth 65536 in
theorem w_c1 : (Jvm.Cond.code ({ cls := "com/example/libtier/libtier/Quantity", name := "of", desc := "(J)Lcom/example/libtier/libtier/Quantity;" } : Jvm.MethodName) prog_75_method_2_code (2 : Nat) (Option.some (Jvm.ClassFile.FieldType.object "com/example/libtier/libtier/Quantity"))).before args0 about1 = true := code_word (m := ⟨2, 1⟩) (meth := k2m1) (c := k2c1) (by decide +kernel) rfl rfl rfl (by decide +kernel)
set_option maxRecDepth 65536 in
theorem w_c2 : (Jvm.Cond.code ({ cls := "com/example/libtier/libtier/Quantity", name := "<init>", desc := "(J)V" } : Jvm.MethodName) prog_75_method_1_code (3 : Nat) (Option.none : Option Jvm.ClassFile.FieldType)).before args0 about1 = true := code_word (m := ⟨2, 0⟩) (meth := k2m0) (c := k2c0) (by decide +kernel) rfl rfl rfl (by decide +kernel)
set_option maxRecDepth 65536 in
theorem w_c3 : (Jvm.Cond.code ({ cls := "java/lang/Object", name := "<init>", desc := "()V" } : Jvm.MethodName) object_method_1_code (1 : Nat) (Option.none : Option Jvm.ClassFile.FieldType)).before args0 about1 = true := code_word (m := ⟨0, 0⟩) (meth := k0m0) (c := k0c0) (by decide +kernel) rfl rfl rfl (by decide +kernel)
set_option maxRecDepth 65536 in
theorem w_c4 : (Jvm.Cond.code ({ cls := "com/example/libtier/libtier/Quantity", name := "isUnlimited", desc := "()Z" } : Jvm.MethodName) prog_75_method_4_code (1 : Nat) (Option.some Jvm.ClassFile.FieldType.boolean)).before args0 about1 = true := code_word (m := ⟨2, 3⟩) (meth := k2m3) (c := k2c3) (by decide +kernel) rfl rfl rfl (by decide +kernel)
set_option maxRecDepth 65536 in
theorem w_c5 : (Jvm.Cond.code ({ cls := "com/example/libtier/libtier/Quantity", name := "units", desc := "()J" } : Jvm.MethodName) prog_75_method_5_code (1 : Nat) (Option.some Jvm.ClassFile.FieldType.long)).before args0 about1 = true := code_word (m := ⟨2, 4⟩) (meth := k2m4) (c := k2c4) (by decide +kernel) rfl rfl rfl (by decide +kernel)
set_option maxRecDepth 65536 in
theorem w_c6 : (Jvm.Cond.code ({ cls := "com/example/libtier/libtier/Quantity", name := "unlimited", desc := "()Lcom/example/libtier/libtier/Quantity;" } : Jvm.MethodName) prog_75_method_3_code (0 : Nat) (Option.some (Jvm.ClassFile.FieldType.object "com/example/libtier/libtier/Quantity"))).before args0 about1 = true := code_word (m := ⟨2, 2⟩) (meth := k2m2) (c := k2c2) (by decide +kernel) rfl rfl rfl (by decide +kernel)
set_option maxRecDepth 65536 in
theorem w_c7 : (Jvm.Cond.code ({ cls := "com/example/libtier/libtier/Quantity", name := "equals", desc := "(Ljava/lang/Object;)Z" } : Jvm.MethodName) prog_75_method_6_code (2 : Nat) (Option.some Jvm.ClassFile.FieldType.boolean)).before args0 about1 = true := code_word (m := ⟨2, 5⟩) (meth := k2m5) (c := k2c5) (by decide +kernel) rfl rfl rfl (by decide +kernel)
def codes1 : List Jvm.Cond := [Jvm.Cond.code x code maxLocals ret, Jvm.Cond.code ({ cls := "com/example/libtier/libtier/Quantity", name := "of", desc := "(J)Lcom/example/libtier/libtier/Quantity;" } : Jvm.MethodName) prog_75_method_2_code (2 : Nat) (Option.some (Jvm.ClassFile.FieldType.object "com/example/libtier/libtier/Quantity")), Jvm.Cond.code ({ cls := "com/example/libtier/libtier/Quantity", name := "<init>", desc := "(J)V" } : Jvm.MethodName) prog_75_method_1_code (3 : Nat) (Option.none : Option Jvm.ClassFile.FieldType), Jvm.Cond.code ({ cls := "java/lang/Object", name := "<init>", desc := "()V" } : Jvm.MethodName) object_method_1_code (1 : Nat) (Option.none : Option Jvm.ClassFile.FieldType), Jvm.Cond.code ({ cls := "com/example/libtier/libtier/Quantity", name := "isUnlimited", desc := "()Z" } : Jvm.MethodName) prog_75_method_4_code (1 : Nat) (Option.some Jvm.ClassFile.FieldType.boolean), Jvm.Cond.code ({ cls := "com/example/libtier/libtier/Quantity", name := "units", desc := "()J" } : Jvm.MethodName) prog_75_method_5_code (1 : Nat) (Option.some Jvm.ClassFile.FieldType.long), Jvm.Cond.code ({ cls := "com/example/libtier/libtier/Quantity", name := "unlimited", desc := "()Lcom/example/libtier/libtier/Quantity;" } : Jvm.MethodName) prog_75_method_3_code (0 : Nat) (Option.some (Jvm.ClassFile.FieldType.object "com/example/libtier/libtier/Quantity")), Jvm.Cond.code ({ cls := "com/example/libtier/libtier/Quantity", name := "equals", desc := "(Ljava/lang/Object;)Z" } : Jvm.MethodName) prog_75_method_6_code (2 : Nat) (Option.some Jvm.ClassFile.FieldType.boolean)]
set_option maxRecDepth 65536 in
theorem codes_eq : words1.filter isCode = codes1 := rfl
theorem w_codes : ∀ c ∈ words1.filter isCode, c.before args0 about1 = true := by
  rw [codes_eq]
  intro c hc
  simp only [codes1, List.mem_cons, List.not_mem_nil, or_false] at hc
  rcases hc with rfl | rfl | rfl | rfl | rfl | rfl | rfl | rfl
  · exact w_c0
  · exact w_c1
  · exact w_c2
  · exact w_c3
  · exact w_c4
  · exact w_c5
  · exact w_c6
  · exact w_c7
set_option maxRecDepth 65536 in
theorem w_t1 : (words1.take 24).all (fun c => isCode c || c.before args0 about1) = true := by decide +kernel
set_option maxRecDepth 65536 in
theorem w_t2 : (words1.drop 24).all (fun c => isCode c || c.before args0 about1) = true := by decide +kernel
theorem w_tables : (allAtoms (Jvm.Cond.code x code maxLocals ret :: tables_1)).before args0 about1 = true := by
  rw [allAtoms_all]
  show words1.all (fun c => c.before args0 about1) = true
  refine all_split ?_ w_codes
  rw [← List.take_append_drop 24 words1, List.all_append, w_t1, w_t2]
  rfl
set_option maxRecDepth 65536 in
theorem w_case : (Jvm.Cond.and given_1 narrow_1).before args0 about1 = true := by decide +kernel
theorem w_applies : (headSpec (Jvm.Cond.code x code maxLocals ret :: tables_1) room_1).applies x e0.platform about1 = true :=
  (Spec.applies_iff w_frames).mpr ⟨w_running, w_runnable, w_alone, w_named, w_hears, w_ripe, w_room, w_tables⟩
theorem atStart : AtStart classFile x code maxLocals ret World_1 tables_1 room_1 Calls_1 rest_1 Pre_1 launch0 p0 e0 about1 theMethod args0 below0 :=
  ⟨lists_1, trivial, launch0.admits_env _ _ _, launch0.least_env, fairChoices_fair.cas, fairChoices_fair.clock, w_frames, w_args, w_heap, w_applies, trivial, trivial, w_case⟩
end start1
theorem witness_1 : WitnessClaimed_1 := ⟨start1.p0, start1.e0, start1.about1, start1.theMethod, start1.args0, start1.below0, start1.atStart⟩
end Jvm.Pilot.@@N@@
