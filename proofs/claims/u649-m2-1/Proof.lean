import JvmDerived
import JvmDerived.Pilot.@@N@@Statement
import JvmDerived.Pilot.@@N@@Code
set_option linter.unusedVariables false
set_option linter.unusedSimpArgs false
namespace Jvm.Pilot.@@N@@
open Jvm Jvm.ClassFile Sem Op Lib Jvm.Free Jvm.Stand Jvm.LawKit Jvm.RoadKit Bundle Jvm.Pilot.@@N@@.Jvm.D
section Own
variable {p : Program} {l : Launch} {e : Env} {R : Room} {s : State} {m : MethodId} {args : Array Value} {below : List Frame} {meth : Method} {c : Code} {T T' : State} {locs : List Loc} {cells slots : Nat}
/-- what a walk owes from where it stands: it comes back, with what Q says -/
def Owes (p : Program) (e : Env) (below : List Frame) (s : State) (Q : Option Value → Heap → List Loc → Prop) (k n : Nat) (T : State) (f : JFrame) : Prop :=
  ∃ s₂ o, Steps p.tables e below (T.setTop f) s₂ ∧ s₂.status = .running ∧ Ended s₂ below o ∧ ∃ v L, o = .returned v ∧ Q v s₂.heap L ∧ FrameEnd s o s₂ L k n
theorem Owes.by {Q : Option Value → Heap → List Loc → Prop} {k n : Nat} {f f' : JFrame} (st : ∀ t, Steps p.tables e below (T'.setTop f') t → Steps p.tables e below (T.setTop f) t) (h : Owes p e below s Q k n T' f') : Owes p e below s Q k n T f := by
  obtain ⟨s₂, o, h1, h2⟩ := h
  exact ⟨s₂, o, st _ h1, h2⟩
theorem Owes.ret {Q : Option Value → Heap → List Loc → Prop} {k n : Nat} {f : JFrame} (X : Stand p l e R s m args below meth c T locs cells slots) {v : Option Value} (hv : meth.sig.returnType = none → v = none) (hlk : meth.locks = false)
    (hQ : Q v T.heap locs) (hk : cells ≤ k) (hn : slots ≤ n) (st : ∀ fs, (∀ (f : JFrame) (acts : List Action), f.method = m → f.locked = none → f.entered = [] → (doReturn e (T.setTop f) acts v).1 = T.setFrames fs) → Steps p.tables e below (T.setTop f) (T.setFrames fs)) : Owes p e below s Q k n T f := by
  obtain ⟨fs, hr, hrun, hended, hW, hsame⟩ := X.leave (v := v) hv hlk
  exact ⟨_, _, st fs hr, hrun, hended, _, _, rfl, hQ, ⟨_, rfl⟩, hW, hsame.mono hk hn⟩
/-- a join point: what holds wherever the walk stands again with the same heap -/
theorem own_join {h : Heap} {G : State → Prop} {P : Prop} (X : Stand p l e R s m args below meth c T locs cells slots) (J : ∀ T', Stand p l e R s m args below meth c T' locs cells slots → T'.heap = h → G T')
    (k : (∀ T', Stand p l e R s m args below meth c T' locs cells slots → T'.heap = h → G T') → P) : P := k J
end Own
/-- it writes nothing, makes nothing, and hands back w -/
def Qv (w : Option Value) (h0 : Heap) (n0 : Nat) (v : Option Value) (h : Heap) (L : List Loc) : Prop := v = w ∧ L = [] ∧ h = h0
def QL (n0 : Nat) (v : Option Value) (h : Heap) (L : List Loc) : Prop := v = some (.int (1 : Int32)) ∧ Fr n0 L
section Words
variable {Z : State} {args : Array Value} {t : Term} {C n d : String} {a : Addr}
theorem own_fld {k : Int32} (ht : t.eval args Z none [] Z = some (.ref a)) (h : (Cond.eq (Term.field t C n d) (Term.int k)).value args Z none Z [] = some true) : Fld Z Z.heap a C n d (.int k) := by
  obtain ⟨x, y, hx, hy, h1, -⟩ := cmp_v (Or.inl h)
  obtain rfl : y = .int k := (Option.some.inj ((Term.int_eval k).symm.trans hy)).symm
  have hx' : Z.fieldOf? a C n d = some x := (fld_at ht).symm.trans hx
  cases x <;> simp [Kin, Value.isRef] at h1
  rename_i z
  have e : z = k := by simpa [Cond.value, hx, hy] using h
  subst e
  exact Fld.start hx'
theorem own_fldL {k : Int64} (ht : t.eval args Z none [] Z = some (.ref a)) (h : (Cond.eq (Term.field t C n d) (Term.long k)).value args Z none Z [] = some true) : Fld Z Z.heap a C n d (.long k) := by
  obtain ⟨x, y, hx, hy, h1, -⟩ := cmp_v (Or.inl h)
  obtain rfl : y = .long k := (Option.some.inj ((long_at k).symm.trans hy)).symm
  have hx' : Z.fieldOf? a C n d = some x := (fld_at ht).symm.trans hx
  cases x <;> simp [Kin, Value.isRef] at h1
  rename_i z
  have e : z = k := by simpa [Cond.value, hx, hy] using h
  subst e
  exact Fld.start hx'
theorem own_len {k : Int32} {cl : Cell} {ty : FieldType} (ht : t.eval args Z none [] Z = some (.ref a)) (A : Arr Z Z.heap a cl ty) (h : (Cond.eq (Term.length t) (Term.int k)).value args Z none Z [] = some true) : cl.slots.size.toInt32 = k := by
  obtain ⟨x, y, hx, hy, -, -⟩ := cmp_v (Or.inl h)
  obtain ⟨a', cell, e1, e2, rfl⟩ := Term.length_spec hx
  cases ht.symm.trans e1
  obtain rfl : y = .int k := (Option.some.inj ((Term.int_eval k).symm.trans hy)).symm
  cases A.1.symm.trans (State.arrayAt?_spec e2).1
  simpa [Cond.value, hx, hy] using h
theorem own_elem {k : Int32} {cl : Cell} {ty : FieldType} {u : Term} {w : Addr} (ht : t.eval args Z none [] Z = some (.ref a)) (A : Arr Z Z.heap a cl ty) (hu : u.eval args Z none [] Z = some (.ref w)) (h : (Cond.eq (Term.elem t (Term.int k)) u).value args Z none Z [] = some true) :
    ¬ (k < 0 ∨ cl.slots.size ≤ k.toNatClampNeg) ∧ cl.slots[k.toNatClampNeg]? = some (.ref w) := by
  obtain ⟨x, y, hx, hy, h1, -⟩ := cmp_v (Or.inl h)
  obtain rfl : y = .ref w := (Option.some.inj (hu.symm.trans hy)).symm
  obtain ⟨cell, e1, e2, e3⟩ := Jvm.Lib.elem_at hx ht (Term.int_eval k)
  cases A.1.symm.trans e1
  refine ⟨e2, ?_⟩
  cases x <;> simp [Kin, Value.isRef] at h1
  · simp [Cond.value, hx, hy] at h
  · rename_i z
    have e : z = w := by simpa [Cond.value, hx, hy] using h
    rw [e3, e]
end Words
theorem pn_EntryType : plainName "com/example/tranche/tranche/EntryType" = true := by first | (simp [plainName, overriddenIn]; done) | decide +kernel
theorem d1_0 : decode prog_12_method_7_code 0 = .ok (.getstatic 50, 3) := by decide +kernel
theorem d1_3 : decode prog_12_method_7_code 3 = .ok (.astore_n 1, 1) := by decide +kernel
theorem d1_4 : decode prog_12_method_7_code 4 = .ok (.aload_n 1, 1) := by decide +kernel
theorem d1_5 : decode prog_12_method_7_code 5 = .ok (.arraylength, 1) := by decide +kernel
theorem d1_6 : decode prog_12_method_7_code 6 = .ok (.istore_n 2, 1) := by decide +kernel
theorem d1_7 : decode prog_12_method_7_code 7 = .ok (.iconst 0, 1) := by decide +kernel
theorem d1_8 : decode prog_12_method_7_code 8 = .ok (.istore_n 3, 1) := by decide +kernel
theorem d1_9 : decode prog_12_method_7_code 9 = .ok (.iload_n 3, 1) := by decide +kernel
theorem d1_10 : decode prog_12_method_7_code 10 = .ok (.iload_n 2, 1) := by decide +kernel
theorem d1_11 : decode prog_12_method_7_code 11 = .ok (.if_icmp .ge 26, 3) := by decide +kernel
theorem d1_14 : decode prog_12_method_7_code 14 = .ok (.aload_n 1, 1) := by decide +kernel
theorem d1_15 : decode prog_12_method_7_code 15 = .ok (.iload_n 3, 1) := by decide +kernel
theorem d1_16 : decode prog_12_method_7_code 16 = .ok (.aaload, 1) := by decide +kernel
theorem d1_17 : decode prog_12_method_7_code 17 = .ok (.astore 4, 2) := by decide +kernel
theorem d1_19 : decode prog_12_method_7_code 19 = .ok (.aload 4, 2) := by decide +kernel
theorem d1_21 : decode prog_12_method_7_code 21 = .ok (.getfield 36, 3) := by decide +kernel
theorem d1_24 : decode prog_12_method_7_code 24 = .ok (.iload_n 0, 1) := by decide +kernel
theorem d1_25 : decode prog_12_method_7_code 25 = .ok (.if_icmp .ne 6, 3) := by decide +kernel
theorem d1_28 : decode prog_12_method_7_code 28 = .ok (.aload 4, 2) := by decide +kernel
theorem d1_30 : decode prog_12_method_7_code 30 = .ok (.areturn, 1) := by decide +kernel
theorem d1_31 : decode prog_12_method_7_code 31 = .ok (.iinc 3 1, 3) := by decide +kernel
theorem d1_34 : decode prog_12_method_7_code 34 = .ok (.goto (-25), 3) := by decide +kernel
theorem d1_37 : decode prog_12_method_7_code 37 = .ok (.aconst_null, 1) := by decide +kernel
theorem d1_38 : decode prog_12_method_7_code 38 = .ok (.areturn, 1) := by decide +kernel
theorem d2_0 : decode prog_12_method_6_code 0 = .ok (.aload_n 0, 1) := by decide +kernel
theorem d2_1 : decode prog_12_method_6_code 1 = .ok (.getfield 36, 3) := by decide +kernel
theorem d2_4 : decode prog_12_method_6_code 4 = .ok (.ireturn, 1) := by decide +kernel
theorem pn_EntryTypeForCodePinLaw : plainName "com/example/tranche/tranche/EntryTypeForCodePinLaw" = true := by first | (simp [plainName, overriddenIn]; done) | decide +kernel
theorem pd_B_Lcom_example_tranche_tranche_EntryType : parseMethodDescriptor "(B)Lcom/example/tranche/tranche/EntryType;" = some ⟨[.byte], some (.object "com/example/tranche/tranche/EntryType")⟩ := by decide +kernel
theorem pd_B : parseMethodDescriptor "()B" = some ⟨[], some .byte⟩ := by decide +kernel
theorem ef_rmF (m : MethodId) (x0 : Int32) : entryFrame m #[(.int x0)] 5 = mkF m 0 #[(.val (.int x0)), .unset, .unset, .unset, .unset] [] := by first | (simp [entryFrame, mkF, argsToLocals, Value.category]; done) | rfl
set_option maxRecDepth 65536 in
set_option maxHeartbeats 40000000 in
theorem rmF (l : Launch) (Z : State) (a0 : Array Value) (hw : ∀ d ∈ tables_1, d.before a0 Z = true) (ws : List Jvm.Cond) (b : Int32) (ty : Addr) (cl : Cell) (w_DATA w_CONFIG w_NOOP : Addr) (r : Value) (h0 : Heap) (n0 : Nat) (Z0 : n0 ≤ h0.size) (S_TYPES : Sta Z h0 "com/example/tranche/tranche/EntryType" "TYPES" "[Lcom/example/tranche/tranche/EntryType;" (.ref ty)) (Ar : Arr Z h0 ty cl (.object "com/example/tranche/tranche/EntryType")) (hlen : cl.slots.size.toInt32 = 3) (at0 : ¬ ((0 : Int32) < 0 ∨ cl.slots.size ≤ (0 : Int32).toNatClampNeg) ∧ cl.slots[(0 : Int32).toNatClampNeg]? = some (.ref w_DATA)) (at1 : ¬ ((1 : Int32) < 0 ∨ cl.slots.size ≤ (1 : Int32).toNatClampNeg) ∧ cl.slots[(1 : Int32).toNatClampNeg]? = some (.ref w_CONFIG)) (at2 : ¬ ((2 : Int32) < 0 ∨ cl.slots.size ≤ (2 : Int32).toNatClampNeg) ∧ cl.slots[(2 : Int32).toNatClampNeg]? = some (.ref w_NOOP)) (F_DATA_code : Fld Z h0 w_DATA "com/example/tranche/tranche/EntryType" "code" "B" (.int 1)) (F_CONFIG_code : Fld Z h0 w_CONFIG "com/example/tranche/tranche/EntryType" "code" "B" (.int 2)) (F_NOOP_code : Fld Z h0 w_NOOP "com/example/tranche/tranche/EntryType" "code" "B" (.int 3)) (hr : (if b = 1 then Value.ref w_DATA else if b = 2 then .ref w_CONFIG else if b = 3 then .ref w_NOOP else .null) = r) :
    MetFree l (⟨"com/example/tranche/tranche/EntryType", "forCode", "(B)Lcom/example/tranche/tranche/EntryType;"⟩ : MethodName) (head1 (Jvm.Cond.code (⟨"com/example/tranche/tranche/EntryType", "forCode", "(B)Lcom/example/tranche/tranche/EntryType;"⟩ : MethodName) prog_12_method_7_code 5 (some (.object "com/example/tranche/tranche/EntryType")) :: ws) ({ frames := 0, cells := 0, slots := 0, locals := 0 } : Room)) (fun aa UU => aa = #[(.int b)] ∧ Z.Warmed39 UU.vm ∧ UU.heap = h0) (fun _ _ _ _ _ => True) (fun _ UU oo UU' => ∃ vr Lr, oo = .returned vr ∧ (Qv (some r) h0 n0) vr UU'.heap Lr ∧ FrameEnd UU oo UU' Lr ({ frames := 0, cells := 0, slots := 0, locals := 0 } : Room).cells ({ frames := 0, cells := 0, slots := 0, locals := 0 } : Room).slots) := by
  refine MetFree.of_bodySF (plainFor_of_name pn_EntryType) hisR ?_
  intro p e s m args below meth c s₁ Bd hml0 hP hK
  obtain ⟨rfl, hZ, hh⟩ := hP
  have hx := Bd.exec
  have hby := Bd.bytes
  have hml : c.maxLocals = 5 := hml0
  have hown : s.vm.findClass "com/example/tranche/tranche/EntryType" = some m.cls := findClass_of_methodNamed Bd.named
  have hnm := (name_of_methodNamed Bd.named Bd.method).1
  have hlk := Bd.notSynchronized
  have X0 : Stand p l e ({ frames := 0, cells := 0, slots := 0, locals := 0 } : Room) s m #[(.int b)] below meth c s₁ [] 0 0 := Stand.of_body Bd
  have e0 : s₁.heap = h0 := by rw [← hh, Bd.state]; rfl
  have N0 := Fr.nil n0
  show Owes p e below s (Qv (some r) h0 n0) ({ frames := 0, cells := 0, slots := 0, locals := 0 } : Room).cells ({ frames := 0, cells := 0, slots := 0, locals := 0 } : Room).slots s₁ (entryFrame m #[(.int b)] 5)
  rw [ef_rmF m b]
  show Owes p e below s (Qv (some r) h0 n0) ({ frames := 0, cells := 0, slots := 0, locals := 0 } : Room).cells ({ frames := 0, cells := 0, slots := 0, locals := 0 } : Room).slots s₁ (mkF m 0 #[(.val (.int b)), .unset, .unset, .unset, .unset] [])
  obtain ⟨T1, X1, e1, st1⟩ := getS2 X0 hx hZ hown (host := "") (Or.inl (hw _ (List.mem_of_getElem? (i := 4) rfl))) Via.refl e0 S_TYPES (g := (mkF m 0 #[(.val (.int b)), .unset, .unset, .unset, .unset] [])) rfl (hb hby d1_0)
  refine Owes.by st1 ?_
  show Owes p e below s (Qv (some r) h0 n0) ({ frames := 0, cells := 0, slots := 0, locals := 0 } : Room).cells ({ frames := 0, cells := 0, slots := 0, locals := 0 } : Room).slots T1 (mkF m 3 #[(.val (.int b)), .unset, .unset, .unset, .unset] [(.ref ty)])
  refine Owes.by (fun _ k => XS.astoreN X1.here hx rfl (hb hby d1_3) rfl rfl (l' := #[(.val (.int b)), (.val (.ref ty)), .unset, .unset, .unset]) rfl k) ?_
  show Owes p e below s (Qv (some r) h0 n0) ({ frames := 0, cells := 0, slots := 0, locals := 0 } : Room).cells ({ frames := 0, cells := 0, slots := 0, locals := 0 } : Room).slots T1 (mkF m 4 #[(.val (.int b)), (.val (.ref ty)), .unset, .unset, .unset] [])
  refine Owes.by (fun _ k => XS.aloadN X1.here hx rfl (hb hby d1_4) rfl rfl k) ?_
  show Owes p e below s (Qv (some r) h0 n0) ({ frames := 0, cells := 0, slots := 0, locals := 0 } : Room).cells ({ frames := 0, cells := 0, slots := 0, locals := 0 } : Room).slots T1 (mkF m 5 #[(.val (.int b)), (.val (.ref ty)), .unset, .unset, .unset] [(.ref ty)])
  refine Owes.by (fun t k => X1.arraylength hx (by rw [e1]; exact Ar.1) (State.isArrayOf_alike hZ.alike Ar.2.1) (g := (mkF m 5 #[(.val (.int b)), (.val (.ref ty)), .unset, .unset, .unset] [(.ref ty)])) rfl rfl (hb hby d1_5) t (by rw [hlen]; exact k)) ?_
  show Owes p e below s (Qv (some r) h0 n0) ({ frames := 0, cells := 0, slots := 0, locals := 0 } : Room).cells ({ frames := 0, cells := 0, slots := 0, locals := 0 } : Room).slots T1 (mkF m 6 #[(.val (.int b)), (.val (.ref ty)), .unset, .unset, .unset] [(.int (3 : Int32))])
  refine Owes.by (fun _ k => XS.istoreN X1.here hx rfl (hb hby d1_6) rfl (l' := #[(.val (.int b)), (.val (.ref ty)), (.val (.int (3 : Int32))), .unset, .unset]) rfl k) ?_
  show Owes p e below s (Qv (some r) h0 n0) ({ frames := 0, cells := 0, slots := 0, locals := 0 } : Room).cells ({ frames := 0, cells := 0, slots := 0, locals := 0 } : Room).slots T1 (mkF m 7 #[(.val (.int b)), (.val (.ref ty)), (.val (.int (3 : Int32))), .unset, .unset] [])
  refine Owes.by (fun _ k => XS.iconst X1.here hx rfl (hb hby d1_7) k) ?_
  show Owes p e below s (Qv (some r) h0 n0) ({ frames := 0, cells := 0, slots := 0, locals := 0 } : Room).cells ({ frames := 0, cells := 0, slots := 0, locals := 0 } : Room).slots T1 (mkF m 8 #[(.val (.int b)), (.val (.ref ty)), (.val (.int (3 : Int32))), .unset, .unset] [(.int (0 : Int32))])
  refine Owes.by (fun _ k => XS.istoreN X1.here hx rfl (hb hby d1_8) rfl (l' := #[(.val (.int b)), (.val (.ref ty)), (.val (.int (3 : Int32))), (.val (.int (0 : Int32))), .unset]) rfl k) ?_
  show Owes p e below s (Qv (some r) h0 n0) ({ frames := 0, cells := 0, slots := 0, locals := 0 } : Room).cells ({ frames := 0, cells := 0, slots := 0, locals := 0 } : Room).slots T1 (mkF m 9 #[(.val (.int b)), (.val (.ref ty)), (.val (.int (3 : Int32))), (.val (.int (0 : Int32))), .unset] [])
  refine Owes.by (fun _ k => XS.iloadN X1.here hx rfl (hb hby d1_9) rfl k) ?_
  show Owes p e below s (Qv (some r) h0 n0) ({ frames := 0, cells := 0, slots := 0, locals := 0 } : Room).cells ({ frames := 0, cells := 0, slots := 0, locals := 0 } : Room).slots T1 (mkF m 10 #[(.val (.int b)), (.val (.ref ty)), (.val (.int (3 : Int32))), (.val (.int (0 : Int32))), .unset] [(.int (0 : Int32))])
  refine Owes.by (fun _ k => XS.iloadN X1.here hx rfl (hb hby d1_10) rfl k) ?_
  show Owes p e below s (Qv (some r) h0 n0) ({ frames := 0, cells := 0, slots := 0, locals := 0 } : Room).cells ({ frames := 0, cells := 0, slots := 0, locals := 0 } : Room).slots T1 (mkF m 11 #[(.val (.int b)), (.val (.ref ty)), (.val (.int (3 : Int32))), (.val (.int (0 : Int32))), .unset] [(.int (3 : Int32)), (.int (0 : Int32))])
  refine Owes.by (fun _ k => XS.icmpNo X1.here hx rfl (hb hby d1_11) rfl (XT.ii_ge_f (by decide)) k) ?_
  show Owes p e below s (Qv (some r) h0 n0) ({ frames := 0, cells := 0, slots := 0, locals := 0 } : Room).cells ({ frames := 0, cells := 0, slots := 0, locals := 0 } : Room).slots T1 (mkF m 14 #[(.val (.int b)), (.val (.ref ty)), (.val (.int (3 : Int32))), (.val (.int (0 : Int32))), .unset] [])
  refine Owes.by (fun _ k => XS.aloadN X1.here hx rfl (hb hby d1_14) rfl rfl k) ?_
  show Owes p e below s (Qv (some r) h0 n0) ({ frames := 0, cells := 0, slots := 0, locals := 0 } : Room).cells ({ frames := 0, cells := 0, slots := 0, locals := 0 } : Room).slots T1 (mkF m 15 #[(.val (.int b)), (.val (.ref ty)), (.val (.int (3 : Int32))), (.val (.int (0 : Int32))), .unset] [(.ref ty)])
  refine Owes.by (fun _ k => XS.iloadN X1.here hx rfl (hb hby d1_15) rfl k) ?_
  show Owes p e below s (Qv (some r) h0 n0) ({ frames := 0, cells := 0, slots := 0, locals := 0 } : Room).cells ({ frames := 0, cells := 0, slots := 0, locals := 0 } : Room).slots T1 (mkF m 16 #[(.val (.int b)), (.val (.ref ty)), (.val (.int (3 : Int32))), (.val (.int (0 : Int32))), .unset] [(.int (0 : Int32)), (.ref ty)])
  refine Owes.by (fun t k => X1.aaload hx (j := (0 : Int32)) (v := (.ref w_DATA)) (by rw [e1]; exact Ar.1) (State.isArrayOf_alike hZ.alike Ar.2.1) rfl Ar.2.2 at0.1 at0.2 (g := (mkF m 16 #[(.val (.int b)), (.val (.ref ty)), (.val (.int (3 : Int32))), (.val (.int (0 : Int32))), .unset] [(.int (0 : Int32)), (.ref ty)])) rfl rfl (hb hby d1_16) t k) ?_
  show Owes p e below s (Qv (some r) h0 n0) ({ frames := 0, cells := 0, slots := 0, locals := 0 } : Room).cells ({ frames := 0, cells := 0, slots := 0, locals := 0 } : Room).slots T1 (mkF m 17 #[(.val (.int b)), (.val (.ref ty)), (.val (.int (3 : Int32))), (.val (.int (0 : Int32))), .unset] [(.ref w_DATA)])
  refine Owes.by (fun _ k => XS.astore X1.here hx rfl (hb hby d1_17) rfl rfl (l' := #[(.val (.int b)), (.val (.ref ty)), (.val (.int (3 : Int32))), (.val (.int (0 : Int32))), (.val (.ref w_DATA))]) rfl k) ?_
  show Owes p e below s (Qv (some r) h0 n0) ({ frames := 0, cells := 0, slots := 0, locals := 0 } : Room).cells ({ frames := 0, cells := 0, slots := 0, locals := 0 } : Room).slots T1 (mkF m 19 #[(.val (.int b)), (.val (.ref ty)), (.val (.int (3 : Int32))), (.val (.int (0 : Int32))), (.val (.ref w_DATA))] [])
  refine Owes.by (fun _ k => XS.aload X1.here hx rfl (hb hby d1_19) rfl rfl k) ?_
  show Owes p e below s (Qv (some r) h0 n0) ({ frames := 0, cells := 0, slots := 0, locals := 0 } : Room).cells ({ frames := 0, cells := 0, slots := 0, locals := 0 } : Room).slots T1 (mkF m 21 #[(.val (.int b)), (.val (.ref ty)), (.val (.int (3 : Int32))), (.val (.int (0 : Int32))), (.val (.ref w_DATA))] [(.ref w_DATA)])
  obtain ⟨T2, X2, e2, st2⟩ := getF X1 hx hZ hown (host := "") (Or.inl (hw _ (List.mem_of_getElem? (i := 7) rfl))) Via.refl e1 F_DATA_code (g := (mkF m 21 #[(.val (.int b)), (.val (.ref ty)), (.val (.int (3 : Int32))), (.val (.int (0 : Int32))), (.val (.ref w_DATA))] [(.ref w_DATA)])) rfl rfl (hb hby d1_21)
  refine Owes.by st2 ?_
  show Owes p e below s (Qv (some r) h0 n0) ({ frames := 0, cells := 0, slots := 0, locals := 0 } : Room).cells ({ frames := 0, cells := 0, slots := 0, locals := 0 } : Room).slots T2 (mkF m 24 #[(.val (.int b)), (.val (.ref ty)), (.val (.int (3 : Int32))), (.val (.int (0 : Int32))), (.val (.ref w_DATA))] [(.int (1 : Int32))])
  refine Owes.by (fun _ k => XS.iloadN X2.here hx rfl (hb hby d1_24) rfl k) ?_
  show Owes p e below s (Qv (some r) h0 n0) ({ frames := 0, cells := 0, slots := 0, locals := 0 } : Room).cells ({ frames := 0, cells := 0, slots := 0, locals := 0 } : Room).slots T2 (mkF m 25 #[(.val (.int b)), (.val (.ref ty)), (.val (.int (3 : Int32))), (.val (.int (0 : Int32))), (.val (.ref w_DATA))] [(.int b), (.int (1 : Int32))])
  by_cases q0 : (1 : Int32) = b
  · skip
    refine Owes.by (fun _ k => XS.icmpNo X2.here hx rfl (hb hby d1_25) rfl (XT.ii_ne_f q0) k) ?_
    show Owes p e below s (Qv (some r) h0 n0) ({ frames := 0, cells := 0, slots := 0, locals := 0 } : Room).cells ({ frames := 0, cells := 0, slots := 0, locals := 0 } : Room).slots T2 (mkF m 28 #[(.val (.int b)), (.val (.ref ty)), (.val (.int (3 : Int32))), (.val (.int (0 : Int32))), (.val (.ref w_DATA))] [])
    refine Owes.by (fun _ k => XS.aload X2.here hx rfl (hb hby d1_28) rfl rfl k) ?_
    show Owes p e below s (Qv (some r) h0 n0) ({ frames := 0, cells := 0, slots := 0, locals := 0 } : Room).cells ({ frames := 0, cells := 0, slots := 0, locals := 0 } : Room).slots T2 (mkF m 30 #[(.val (.int b)), (.val (.ref ty)), (.val (.int (3 : Int32))), (.val (.int (0 : Int32))), (.val (.ref w_DATA))] [(.ref w_DATA)])
    refine Owes.ret X2 (v := some (.ref w_DATA)) (fun h => by rw [Bd.returns] at h; cases h) hlk ?_ (by decide) (by decide) (fun fs hr => retOut X2 hx Bd.returns rfl (Or.inr (Or.inr (Or.inr (Or.inr ⟨rfl, rfl, rfl⟩)))) (hb hby d1_30) hr)
    rw [e2]
    exact ⟨by rw [← hr, if_pos q0.symm], rfl, rfl⟩
  · skip
    refine Owes.by (fun _ k => XS.icmpYes X2.here hx rfl (pc0 := 25) (pc' := 31) rfl (hb hby d1_25) rfl (XT.ii_ne_t q0) (by decide) (by decide) k) ?_
    show Owes p e below s (Qv (some r) h0 n0) ({ frames := 0, cells := 0, slots := 0, locals := 0 } : Room).cells ({ frames := 0, cells := 0, slots := 0, locals := 0 } : Room).slots T2 (mkF m 31 #[(.val (.int b)), (.val (.ref ty)), (.val (.int (3 : Int32))), (.val (.int (0 : Int32))), (.val (.ref w_DATA))] [])
    refine Owes.by (fun _ k => XS.iinc X2.here hx rfl (hb hby d1_31) rfl (l' := #[(.val (.int b)), (.val (.ref ty)), (.val (.int (3 : Int32))), (.val (.int (1 : Int32))), (.val (.ref w_DATA))]) rfl k) ?_
    show Owes p e below s (Qv (some r) h0 n0) ({ frames := 0, cells := 0, slots := 0, locals := 0 } : Room).cells ({ frames := 0, cells := 0, slots := 0, locals := 0 } : Room).slots T2 (mkF m 34 #[(.val (.int b)), (.val (.ref ty)), (.val (.int (3 : Int32))), (.val (.int (1 : Int32))), (.val (.ref w_DATA))] [])
    refine Owes.by (fun _ k => XS.goto X2.here hx rfl (pc0 := 34) (pc' := 9) rfl (hb hby d1_34) (by decide) (by decide) k) ?_
    show Owes p e below s (Qv (some r) h0 n0) ({ frames := 0, cells := 0, slots := 0, locals := 0 } : Room).cells ({ frames := 0, cells := 0, slots := 0, locals := 0 } : Room).slots T2 (mkF m 9 #[(.val (.int b)), (.val (.ref ty)), (.val (.int (3 : Int32))), (.val (.int (1 : Int32))), (.val (.ref w_DATA))] [])
    refine Owes.by (fun _ k => XS.iloadN X2.here hx rfl (hb hby d1_9) rfl k) ?_
    show Owes p e below s (Qv (some r) h0 n0) ({ frames := 0, cells := 0, slots := 0, locals := 0 } : Room).cells ({ frames := 0, cells := 0, slots := 0, locals := 0 } : Room).slots T2 (mkF m 10 #[(.val (.int b)), (.val (.ref ty)), (.val (.int (3 : Int32))), (.val (.int (1 : Int32))), (.val (.ref w_DATA))] [(.int (1 : Int32))])
    refine Owes.by (fun _ k => XS.iloadN X2.here hx rfl (hb hby d1_10) rfl k) ?_
    show Owes p e below s (Qv (some r) h0 n0) ({ frames := 0, cells := 0, slots := 0, locals := 0 } : Room).cells ({ frames := 0, cells := 0, slots := 0, locals := 0 } : Room).slots T2 (mkF m 11 #[(.val (.int b)), (.val (.ref ty)), (.val (.int (3 : Int32))), (.val (.int (1 : Int32))), (.val (.ref w_DATA))] [(.int (3 : Int32)), (.int (1 : Int32))])
    refine Owes.by (fun _ k => XS.icmpNo X2.here hx rfl (hb hby d1_11) rfl (XT.ii_ge_f (by decide)) k) ?_
    show Owes p e below s (Qv (some r) h0 n0) ({ frames := 0, cells := 0, slots := 0, locals := 0 } : Room).cells ({ frames := 0, cells := 0, slots := 0, locals := 0 } : Room).slots T2 (mkF m 14 #[(.val (.int b)), (.val (.ref ty)), (.val (.int (3 : Int32))), (.val (.int (1 : Int32))), (.val (.ref w_DATA))] [])
    refine Owes.by (fun _ k => XS.aloadN X2.here hx rfl (hb hby d1_14) rfl rfl k) ?_
    show Owes p e below s (Qv (some r) h0 n0) ({ frames := 0, cells := 0, slots := 0, locals := 0 } : Room).cells ({ frames := 0, cells := 0, slots := 0, locals := 0 } : Room).slots T2 (mkF m 15 #[(.val (.int b)), (.val (.ref ty)), (.val (.int (3 : Int32))), (.val (.int (1 : Int32))), (.val (.ref w_DATA))] [(.ref ty)])
    refine Owes.by (fun _ k => XS.iloadN X2.here hx rfl (hb hby d1_15) rfl k) ?_
    show Owes p e below s (Qv (some r) h0 n0) ({ frames := 0, cells := 0, slots := 0, locals := 0 } : Room).cells ({ frames := 0, cells := 0, slots := 0, locals := 0 } : Room).slots T2 (mkF m 16 #[(.val (.int b)), (.val (.ref ty)), (.val (.int (3 : Int32))), (.val (.int (1 : Int32))), (.val (.ref w_DATA))] [(.int (1 : Int32)), (.ref ty)])
    refine Owes.by (fun t k => X2.aaload hx (j := (1 : Int32)) (v := (.ref w_CONFIG)) (by rw [e2]; exact Ar.1) (State.isArrayOf_alike hZ.alike Ar.2.1) rfl Ar.2.2 at1.1 at1.2 (g := (mkF m 16 #[(.val (.int b)), (.val (.ref ty)), (.val (.int (3 : Int32))), (.val (.int (1 : Int32))), (.val (.ref w_DATA))] [(.int (1 : Int32)), (.ref ty)])) rfl rfl (hb hby d1_16) t k) ?_
    show Owes p e below s (Qv (some r) h0 n0) ({ frames := 0, cells := 0, slots := 0, locals := 0 } : Room).cells ({ frames := 0, cells := 0, slots := 0, locals := 0 } : Room).slots T2 (mkF m 17 #[(.val (.int b)), (.val (.ref ty)), (.val (.int (3 : Int32))), (.val (.int (1 : Int32))), (.val (.ref w_DATA))] [(.ref w_CONFIG)])
    refine Owes.by (fun _ k => XS.astore X2.here hx rfl (hb hby d1_17) rfl rfl (l' := #[(.val (.int b)), (.val (.ref ty)), (.val (.int (3 : Int32))), (.val (.int (1 : Int32))), (.val (.ref w_CONFIG))]) rfl k) ?_
    show Owes p e below s (Qv (some r) h0 n0) ({ frames := 0, cells := 0, slots := 0, locals := 0 } : Room).cells ({ frames := 0, cells := 0, slots := 0, locals := 0 } : Room).slots T2 (mkF m 19 #[(.val (.int b)), (.val (.ref ty)), (.val (.int (3 : Int32))), (.val (.int (1 : Int32))), (.val (.ref w_CONFIG))] [])
    refine Owes.by (fun _ k => XS.aload X2.here hx rfl (hb hby d1_19) rfl rfl k) ?_
    show Owes p e below s (Qv (some r) h0 n0) ({ frames := 0, cells := 0, slots := 0, locals := 0 } : Room).cells ({ frames := 0, cells := 0, slots := 0, locals := 0 } : Room).slots T2 (mkF m 21 #[(.val (.int b)), (.val (.ref ty)), (.val (.int (3 : Int32))), (.val (.int (1 : Int32))), (.val (.ref w_CONFIG))] [(.ref w_CONFIG)])
    obtain ⟨T3, X3, e3, st3⟩ := getF X2 hx hZ hown (host := "") (Or.inl (hw _ (List.mem_of_getElem? (i := 7) rfl))) Via.refl e2 F_CONFIG_code (g := (mkF m 21 #[(.val (.int b)), (.val (.ref ty)), (.val (.int (3 : Int32))), (.val (.int (1 : Int32))), (.val (.ref w_CONFIG))] [(.ref w_CONFIG)])) rfl rfl (hb hby d1_21)
    refine Owes.by st3 ?_
    show Owes p e below s (Qv (some r) h0 n0) ({ frames := 0, cells := 0, slots := 0, locals := 0 } : Room).cells ({ frames := 0, cells := 0, slots := 0, locals := 0 } : Room).slots T3 (mkF m 24 #[(.val (.int b)), (.val (.ref ty)), (.val (.int (3 : Int32))), (.val (.int (1 : Int32))), (.val (.ref w_CONFIG))] [(.int (2 : Int32))])
    refine Owes.by (fun _ k => XS.iloadN X3.here hx rfl (hb hby d1_24) rfl k) ?_
    show Owes p e below s (Qv (some r) h0 n0) ({ frames := 0, cells := 0, slots := 0, locals := 0 } : Room).cells ({ frames := 0, cells := 0, slots := 0, locals := 0 } : Room).slots T3 (mkF m 25 #[(.val (.int b)), (.val (.ref ty)), (.val (.int (3 : Int32))), (.val (.int (1 : Int32))), (.val (.ref w_CONFIG))] [(.int b), (.int (2 : Int32))])
    by_cases q1 : (2 : Int32) = b
    · skip
      refine Owes.by (fun _ k => XS.icmpNo X3.here hx rfl (hb hby d1_25) rfl (XT.ii_ne_f q1) k) ?_
      show Owes p e below s (Qv (some r) h0 n0) ({ frames := 0, cells := 0, slots := 0, locals := 0 } : Room).cells ({ frames := 0, cells := 0, slots := 0, locals := 0 } : Room).slots T3 (mkF m 28 #[(.val (.int b)), (.val (.ref ty)), (.val (.int (3 : Int32))), (.val (.int (1 : Int32))), (.val (.ref w_CONFIG))] [])
      refine Owes.by (fun _ k => XS.aload X3.here hx rfl (hb hby d1_28) rfl rfl k) ?_
      show Owes p e below s (Qv (some r) h0 n0) ({ frames := 0, cells := 0, slots := 0, locals := 0 } : Room).cells ({ frames := 0, cells := 0, slots := 0, locals := 0 } : Room).slots T3 (mkF m 30 #[(.val (.int b)), (.val (.ref ty)), (.val (.int (3 : Int32))), (.val (.int (1 : Int32))), (.val (.ref w_CONFIG))] [(.ref w_CONFIG)])
      refine Owes.ret X3 (v := some (.ref w_CONFIG)) (fun h => by rw [Bd.returns] at h; cases h) hlk ?_ (by decide) (by decide) (fun fs hr => retOut X3 hx Bd.returns rfl (Or.inr (Or.inr (Or.inr (Or.inr ⟨rfl, rfl, rfl⟩)))) (hb hby d1_30) hr)
      rw [e3]
      exact ⟨by rw [← hr, if_neg (Ne.symm q0), if_pos q1.symm], rfl, rfl⟩
    · skip
      refine Owes.by (fun _ k => XS.icmpYes X3.here hx rfl (pc0 := 25) (pc' := 31) rfl (hb hby d1_25) rfl (XT.ii_ne_t q1) (by decide) (by decide) k) ?_
      show Owes p e below s (Qv (some r) h0 n0) ({ frames := 0, cells := 0, slots := 0, locals := 0 } : Room).cells ({ frames := 0, cells := 0, slots := 0, locals := 0 } : Room).slots T3 (mkF m 31 #[(.val (.int b)), (.val (.ref ty)), (.val (.int (3 : Int32))), (.val (.int (1 : Int32))), (.val (.ref w_CONFIG))] [])
      refine Owes.by (fun _ k => XS.iinc X3.here hx rfl (hb hby d1_31) rfl (l' := #[(.val (.int b)), (.val (.ref ty)), (.val (.int (3 : Int32))), (.val (.int (2 : Int32))), (.val (.ref w_CONFIG))]) rfl k) ?_
      show Owes p e below s (Qv (some r) h0 n0) ({ frames := 0, cells := 0, slots := 0, locals := 0 } : Room).cells ({ frames := 0, cells := 0, slots := 0, locals := 0 } : Room).slots T3 (mkF m 34 #[(.val (.int b)), (.val (.ref ty)), (.val (.int (3 : Int32))), (.val (.int (2 : Int32))), (.val (.ref w_CONFIG))] [])
      refine Owes.by (fun _ k => XS.goto X3.here hx rfl (pc0 := 34) (pc' := 9) rfl (hb hby d1_34) (by decide) (by decide) k) ?_
      show Owes p e below s (Qv (some r) h0 n0) ({ frames := 0, cells := 0, slots := 0, locals := 0 } : Room).cells ({ frames := 0, cells := 0, slots := 0, locals := 0 } : Room).slots T3 (mkF m 9 #[(.val (.int b)), (.val (.ref ty)), (.val (.int (3 : Int32))), (.val (.int (2 : Int32))), (.val (.ref w_CONFIG))] [])
      refine Owes.by (fun _ k => XS.iloadN X3.here hx rfl (hb hby d1_9) rfl k) ?_
      show Owes p e below s (Qv (some r) h0 n0) ({ frames := 0, cells := 0, slots := 0, locals := 0 } : Room).cells ({ frames := 0, cells := 0, slots := 0, locals := 0 } : Room).slots T3 (mkF m 10 #[(.val (.int b)), (.val (.ref ty)), (.val (.int (3 : Int32))), (.val (.int (2 : Int32))), (.val (.ref w_CONFIG))] [(.int (2 : Int32))])
      refine Owes.by (fun _ k => XS.iloadN X3.here hx rfl (hb hby d1_10) rfl k) ?_
      show Owes p e below s (Qv (some r) h0 n0) ({ frames := 0, cells := 0, slots := 0, locals := 0 } : Room).cells ({ frames := 0, cells := 0, slots := 0, locals := 0 } : Room).slots T3 (mkF m 11 #[(.val (.int b)), (.val (.ref ty)), (.val (.int (3 : Int32))), (.val (.int (2 : Int32))), (.val (.ref w_CONFIG))] [(.int (3 : Int32)), (.int (2 : Int32))])
      refine Owes.by (fun _ k => XS.icmpNo X3.here hx rfl (hb hby d1_11) rfl (XT.ii_ge_f (by decide)) k) ?_
      show Owes p e below s (Qv (some r) h0 n0) ({ frames := 0, cells := 0, slots := 0, locals := 0 } : Room).cells ({ frames := 0, cells := 0, slots := 0, locals := 0 } : Room).slots T3 (mkF m 14 #[(.val (.int b)), (.val (.ref ty)), (.val (.int (3 : Int32))), (.val (.int (2 : Int32))), (.val (.ref w_CONFIG))] [])
      refine Owes.by (fun _ k => XS.aloadN X3.here hx rfl (hb hby d1_14) rfl rfl k) ?_
      show Owes p e below s (Qv (some r) h0 n0) ({ frames := 0, cells := 0, slots := 0, locals := 0 } : Room).cells ({ frames := 0, cells := 0, slots := 0, locals := 0 } : Room).slots T3 (mkF m 15 #[(.val (.int b)), (.val (.ref ty)), (.val (.int (3 : Int32))), (.val (.int (2 : Int32))), (.val (.ref w_CONFIG))] [(.ref ty)])
      refine Owes.by (fun _ k => XS.iloadN X3.here hx rfl (hb hby d1_15) rfl k) ?_
      show Owes p e below s (Qv (some r) h0 n0) ({ frames := 0, cells := 0, slots := 0, locals := 0 } : Room).cells ({ frames := 0, cells := 0, slots := 0, locals := 0 } : Room).slots T3 (mkF m 16 #[(.val (.int b)), (.val (.ref ty)), (.val (.int (3 : Int32))), (.val (.int (2 : Int32))), (.val (.ref w_CONFIG))] [(.int (2 : Int32)), (.ref ty)])
      refine Owes.by (fun t k => X3.aaload hx (j := (2 : Int32)) (v := (.ref w_NOOP)) (by rw [e3]; exact Ar.1) (State.isArrayOf_alike hZ.alike Ar.2.1) rfl Ar.2.2 at2.1 at2.2 (g := (mkF m 16 #[(.val (.int b)), (.val (.ref ty)), (.val (.int (3 : Int32))), (.val (.int (2 : Int32))), (.val (.ref w_CONFIG))] [(.int (2 : Int32)), (.ref ty)])) rfl rfl (hb hby d1_16) t k) ?_
      show Owes p e below s (Qv (some r) h0 n0) ({ frames := 0, cells := 0, slots := 0, locals := 0 } : Room).cells ({ frames := 0, cells := 0, slots := 0, locals := 0 } : Room).slots T3 (mkF m 17 #[(.val (.int b)), (.val (.ref ty)), (.val (.int (3 : Int32))), (.val (.int (2 : Int32))), (.val (.ref w_CONFIG))] [(.ref w_NOOP)])
      refine Owes.by (fun _ k => XS.astore X3.here hx rfl (hb hby d1_17) rfl rfl (l' := #[(.val (.int b)), (.val (.ref ty)), (.val (.int (3 : Int32))), (.val (.int (2 : Int32))), (.val (.ref w_NOOP))]) rfl k) ?_
      show Owes p e below s (Qv (some r) h0 n0) ({ frames := 0, cells := 0, slots := 0, locals := 0 } : Room).cells ({ frames := 0, cells := 0, slots := 0, locals := 0 } : Room).slots T3 (mkF m 19 #[(.val (.int b)), (.val (.ref ty)), (.val (.int (3 : Int32))), (.val (.int (2 : Int32))), (.val (.ref w_NOOP))] [])
      refine Owes.by (fun _ k => XS.aload X3.here hx rfl (hb hby d1_19) rfl rfl k) ?_
      show Owes p e below s (Qv (some r) h0 n0) ({ frames := 0, cells := 0, slots := 0, locals := 0 } : Room).cells ({ frames := 0, cells := 0, slots := 0, locals := 0 } : Room).slots T3 (mkF m 21 #[(.val (.int b)), (.val (.ref ty)), (.val (.int (3 : Int32))), (.val (.int (2 : Int32))), (.val (.ref w_NOOP))] [(.ref w_NOOP)])
      obtain ⟨T4, X4, e4, st4⟩ := getF X3 hx hZ hown (host := "") (Or.inl (hw _ (List.mem_of_getElem? (i := 7) rfl))) Via.refl e3 F_NOOP_code (g := (mkF m 21 #[(.val (.int b)), (.val (.ref ty)), (.val (.int (3 : Int32))), (.val (.int (2 : Int32))), (.val (.ref w_NOOP))] [(.ref w_NOOP)])) rfl rfl (hb hby d1_21)
      refine Owes.by st4 ?_
      show Owes p e below s (Qv (some r) h0 n0) ({ frames := 0, cells := 0, slots := 0, locals := 0 } : Room).cells ({ frames := 0, cells := 0, slots := 0, locals := 0 } : Room).slots T4 (mkF m 24 #[(.val (.int b)), (.val (.ref ty)), (.val (.int (3 : Int32))), (.val (.int (2 : Int32))), (.val (.ref w_NOOP))] [(.int (3 : Int32))])
      refine Owes.by (fun _ k => XS.iloadN X4.here hx rfl (hb hby d1_24) rfl k) ?_
      show Owes p e below s (Qv (some r) h0 n0) ({ frames := 0, cells := 0, slots := 0, locals := 0 } : Room).cells ({ frames := 0, cells := 0, slots := 0, locals := 0 } : Room).slots T4 (mkF m 25 #[(.val (.int b)), (.val (.ref ty)), (.val (.int (3 : Int32))), (.val (.int (2 : Int32))), (.val (.ref w_NOOP))] [(.int b), (.int (3 : Int32))])
      by_cases q2 : (3 : Int32) = b
      · skip
        refine Owes.by (fun _ k => XS.icmpNo X4.here hx rfl (hb hby d1_25) rfl (XT.ii_ne_f q2) k) ?_
        show Owes p e below s (Qv (some r) h0 n0) ({ frames := 0, cells := 0, slots := 0, locals := 0 } : Room).cells ({ frames := 0, cells := 0, slots := 0, locals := 0 } : Room).slots T4 (mkF m 28 #[(.val (.int b)), (.val (.ref ty)), (.val (.int (3 : Int32))), (.val (.int (2 : Int32))), (.val (.ref w_NOOP))] [])
        refine Owes.by (fun _ k => XS.aload X4.here hx rfl (hb hby d1_28) rfl rfl k) ?_
        show Owes p e below s (Qv (some r) h0 n0) ({ frames := 0, cells := 0, slots := 0, locals := 0 } : Room).cells ({ frames := 0, cells := 0, slots := 0, locals := 0 } : Room).slots T4 (mkF m 30 #[(.val (.int b)), (.val (.ref ty)), (.val (.int (3 : Int32))), (.val (.int (2 : Int32))), (.val (.ref w_NOOP))] [(.ref w_NOOP)])
        refine Owes.ret X4 (v := some (.ref w_NOOP)) (fun h => by rw [Bd.returns] at h; cases h) hlk ?_ (by decide) (by decide) (fun fs hr => retOut X4 hx Bd.returns rfl (Or.inr (Or.inr (Or.inr (Or.inr ⟨rfl, rfl, rfl⟩)))) (hb hby d1_30) hr)
        rw [e4]
        exact ⟨by rw [← hr, if_neg (Ne.symm q0), if_neg (Ne.symm q1), if_pos q2.symm], rfl, rfl⟩
      · skip
        refine Owes.by (fun _ k => XS.icmpYes X4.here hx rfl (pc0 := 25) (pc' := 31) rfl (hb hby d1_25) rfl (XT.ii_ne_t q2) (by decide) (by decide) k) ?_
        show Owes p e below s (Qv (some r) h0 n0) ({ frames := 0, cells := 0, slots := 0, locals := 0 } : Room).cells ({ frames := 0, cells := 0, slots := 0, locals := 0 } : Room).slots T4 (mkF m 31 #[(.val (.int b)), (.val (.ref ty)), (.val (.int (3 : Int32))), (.val (.int (2 : Int32))), (.val (.ref w_NOOP))] [])
        refine Owes.by (fun _ k => XS.iinc X4.here hx rfl (hb hby d1_31) rfl (l' := #[(.val (.int b)), (.val (.ref ty)), (.val (.int (3 : Int32))), (.val (.int (3 : Int32))), (.val (.ref w_NOOP))]) rfl k) ?_
        show Owes p e below s (Qv (some r) h0 n0) ({ frames := 0, cells := 0, slots := 0, locals := 0 } : Room).cells ({ frames := 0, cells := 0, slots := 0, locals := 0 } : Room).slots T4 (mkF m 34 #[(.val (.int b)), (.val (.ref ty)), (.val (.int (3 : Int32))), (.val (.int (3 : Int32))), (.val (.ref w_NOOP))] [])
        refine Owes.by (fun _ k => XS.goto X4.here hx rfl (pc0 := 34) (pc' := 9) rfl (hb hby d1_34) (by decide) (by decide) k) ?_
        show Owes p e below s (Qv (some r) h0 n0) ({ frames := 0, cells := 0, slots := 0, locals := 0 } : Room).cells ({ frames := 0, cells := 0, slots := 0, locals := 0 } : Room).slots T4 (mkF m 9 #[(.val (.int b)), (.val (.ref ty)), (.val (.int (3 : Int32))), (.val (.int (3 : Int32))), (.val (.ref w_NOOP))] [])
        refine Owes.by (fun _ k => XS.iloadN X4.here hx rfl (hb hby d1_9) rfl k) ?_
        show Owes p e below s (Qv (some r) h0 n0) ({ frames := 0, cells := 0, slots := 0, locals := 0 } : Room).cells ({ frames := 0, cells := 0, slots := 0, locals := 0 } : Room).slots T4 (mkF m 10 #[(.val (.int b)), (.val (.ref ty)), (.val (.int (3 : Int32))), (.val (.int (3 : Int32))), (.val (.ref w_NOOP))] [(.int (3 : Int32))])
        refine Owes.by (fun _ k => XS.iloadN X4.here hx rfl (hb hby d1_10) rfl k) ?_
        show Owes p e below s (Qv (some r) h0 n0) ({ frames := 0, cells := 0, slots := 0, locals := 0 } : Room).cells ({ frames := 0, cells := 0, slots := 0, locals := 0 } : Room).slots T4 (mkF m 11 #[(.val (.int b)), (.val (.ref ty)), (.val (.int (3 : Int32))), (.val (.int (3 : Int32))), (.val (.ref w_NOOP))] [(.int (3 : Int32)), (.int (3 : Int32))])
        refine Owes.by (fun _ k => XS.icmpYes X4.here hx rfl (pc0 := 11) (pc' := 37) rfl (hb hby d1_11) rfl (XT.ii_ge_t (by decide)) (by decide) (by decide) k) ?_
        show Owes p e below s (Qv (some r) h0 n0) ({ frames := 0, cells := 0, slots := 0, locals := 0 } : Room).cells ({ frames := 0, cells := 0, slots := 0, locals := 0 } : Room).slots T4 (mkF m 37 #[(.val (.int b)), (.val (.ref ty)), (.val (.int (3 : Int32))), (.val (.int (3 : Int32))), (.val (.ref w_NOOP))] [])
        refine Owes.by (fun _ k => XS.aconstNull X4.here hx rfl (hb hby d1_37) k) ?_
        show Owes p e below s (Qv (some r) h0 n0) ({ frames := 0, cells := 0, slots := 0, locals := 0 } : Room).cells ({ frames := 0, cells := 0, slots := 0, locals := 0 } : Room).slots T4 (mkF m 38 #[(.val (.int b)), (.val (.ref ty)), (.val (.int (3 : Int32))), (.val (.int (3 : Int32))), (.val (.ref w_NOOP))] [.null])
        refine Owes.ret X4 (v := some .null) (fun h => by rw [Bd.returns] at h; cases h) hlk ?_ (by decide) (by decide) (fun fs hr => retOut X4 hx Bd.returns rfl (Or.inr (Or.inr (Or.inr (Or.inr ⟨rfl, rfl, rfl⟩)))) (hb hby d1_38) hr)
        rw [e4]
        exact ⟨by rw [← hr, if_neg (Ne.symm q0), if_neg (Ne.symm q1), if_neg (Ne.symm q2)], rfl, rfl⟩
theorem ef_rmG (m : MethodId) (x0 : Addr) : entryFrame m #[(.ref x0)] 1 = mkF m 0 #[(.val (.ref x0))] [] := by first | (simp [entryFrame, mkF, argsToLocals, Value.category]; done) | rfl
set_option maxRecDepth 65536 in
set_option maxHeartbeats 40000000 in
theorem rmG (l : Launch) (Z : State) (a0 : Array Value) (hw : ∀ d ∈ tables_1, d.before a0 Z = true) (ws : List Jvm.Cond) (a1 : Addr) (o : Int32) (h0 : Heap) (n0 : Nat) (Z0 : n0 ≤ h0.size) (F : Fld Z h0 a1 "com/example/tranche/tranche/EntryType" "code" "B" (.int o)) (hb1 : nar .byte o = o) :
    MetFree l (⟨"com/example/tranche/tranche/EntryType", "code", "()B"⟩ : MethodName) (head1 (Jvm.Cond.code (⟨"com/example/tranche/tranche/EntryType", "code", "()B"⟩ : MethodName) prog_12_method_6_code 1 (some .byte) :: ws) ({ frames := 0, cells := 0, slots := 0, locals := 0 } : Room)) (fun aa UU => aa = #[(.ref a1)] ∧ Z.Warmed39 UU.vm ∧ UU.heap = h0) (fun _ _ _ _ _ => True) (fun _ UU oo UU' => ∃ vr Lr, oo = .returned vr ∧ (Qv (some (.int o)) h0 n0) vr UU'.heap Lr ∧ FrameEnd UU oo UU' Lr ({ frames := 0, cells := 0, slots := 0, locals := 0 } : Room).cells ({ frames := 0, cells := 0, slots := 0, locals := 0 } : Room).slots) := by
  refine MetFree.of_bodySF (plainFor_of_name pn_EntryType) hisR ?_
  intro p e s m args below meth c s₁ Bd hml0 hP hK
  obtain ⟨rfl, hZ, hh⟩ := hP
  have hx := Bd.exec
  have hby := Bd.bytes
  have hml : c.maxLocals = 1 := hml0
  have hown : s.vm.findClass "com/example/tranche/tranche/EntryType" = some m.cls := findClass_of_methodNamed Bd.named
  have hnm := (name_of_methodNamed Bd.named Bd.method).1
  have hlk := Bd.notSynchronized
  have X0 : Stand p l e ({ frames := 0, cells := 0, slots := 0, locals := 0 } : Room) s m #[(.ref a1)] below meth c s₁ [] 0 0 := Stand.of_body Bd
  have e0 : s₁.heap = h0 := by rw [← hh, Bd.state]; rfl
  have N0 := Fr.nil n0
  show Owes p e below s (Qv (some (.int o)) h0 n0) ({ frames := 0, cells := 0, slots := 0, locals := 0 } : Room).cells ({ frames := 0, cells := 0, slots := 0, locals := 0 } : Room).slots s₁ (entryFrame m #[(.ref a1)] 1)
  rw [ef_rmG m a1]
  show Owes p e below s (Qv (some (.int o)) h0 n0) ({ frames := 0, cells := 0, slots := 0, locals := 0 } : Room).cells ({ frames := 0, cells := 0, slots := 0, locals := 0 } : Room).slots s₁ (mkF m 0 #[(.val (.ref a1))] [])
  refine Owes.by (fun _ k => XS.aloadN X0.here hx rfl (hb hby d2_0) rfl rfl k) ?_
  show Owes p e below s (Qv (some (.int o)) h0 n0) ({ frames := 0, cells := 0, slots := 0, locals := 0 } : Room).cells ({ frames := 0, cells := 0, slots := 0, locals := 0 } : Room).slots s₁ (mkF m 1 #[(.val (.ref a1))] [(.ref a1)])
  obtain ⟨T1, X1, e1, st1⟩ := getF X0 hx hZ hown (host := "") (Or.inl (hw _ (List.mem_of_getElem? (i := 7) rfl))) Via.refl e0 F (g := (mkF m 1 #[(.val (.ref a1))] [(.ref a1)])) rfl rfl (hb hby d2_1)
  refine Owes.by st1 ?_
  show Owes p e below s (Qv (some (.int o)) h0 n0) ({ frames := 0, cells := 0, slots := 0, locals := 0 } : Room).cells ({ frames := 0, cells := 0, slots := 0, locals := 0 } : Room).slots T1 (mkF m 4 #[(.val (.ref a1))] [(.int o)])
  refine Owes.ret X1 (v := some (.int (nar .byte o))) (fun h => by rw [Bd.returns] at h; cases h) hlk ?_ (by decide) (by decide) (fun fs hr => retN X1 hx (t := .byte) Bd.returns (by simp) (hb hby d2_4) hr)
  rw [e1]
  exact ⟨by rw [hb1], rfl, rfl⟩
theorem ef_rm0 (m : MethodId) (x0 : Int32) : entryFrame m #[(.int x0)] maxLocals = mkF m 0 #[(.val (.int x0)), .unset, .unset, .unset] [] := by first | (simp [entryFrame, mkF, argsToLocals, Value.category, maxLocals]; done) | rfl
set_option maxRecDepth 65536 in
set_option maxHeartbeats 40000000 in
theorem rm0 (l : Launch) (Z : State) (a0 : Array Value) (hw : ∀ d ∈ tables_1, d.before a0 Z = true) (ws : List Jvm.Cond) (p0 : Int32) (ty : Addr) (cl : Cell) (w_DATA w_CONFIG w_NOOP : Addr) (h0 : Heap) (n0 : Nat) (Z0 : n0 ≤ h0.size) (S_TYPES : Sta Z h0 "com/example/tranche/tranche/EntryType" "TYPES" "[Lcom/example/tranche/tranche/EntryType;" (.ref ty)) (Ar : Arr Z h0 ty cl (.object "com/example/tranche/tranche/EntryType")) (hlen : cl.slots.size.toInt32 = 3) (at0 : ¬ ((0 : Int32) < 0 ∨ cl.slots.size ≤ (0 : Int32).toNatClampNeg) ∧ cl.slots[(0 : Int32).toNatClampNeg]? = some (.ref w_DATA)) (at1 : ¬ ((1 : Int32) < 0 ∨ cl.slots.size ≤ (1 : Int32).toNatClampNeg) ∧ cl.slots[(1 : Int32).toNatClampNeg]? = some (.ref w_CONFIG)) (at2 : ¬ ((2 : Int32) < 0 ∨ cl.slots.size ≤ (2 : Int32).toNatClampNeg) ∧ cl.slots[(2 : Int32).toNatClampNeg]? = some (.ref w_NOOP)) (S_DATA : Sta Z h0 "com/example/tranche/tranche/EntryType" "DATA" "Lcom/example/tranche/tranche/EntryType;" (.ref w_DATA)) (S_CONFIG : Sta Z h0 "com/example/tranche/tranche/EntryType" "CONFIG" "Lcom/example/tranche/tranche/EntryType;" (.ref w_CONFIG)) (S_NOOP : Sta Z h0 "com/example/tranche/tranche/EntryType" "NOOP" "Lcom/example/tranche/tranche/EntryType;" (.ref w_NOOP)) (F_DATA_code : Fld Z h0 w_DATA "com/example/tranche/tranche/EntryType" "code" "B" (.int 1)) (F_CONFIG_code : Fld Z h0 w_CONFIG "com/example/tranche/tranche/EntryType" "code" "B" (.int 2)) (F_NOOP_code : Fld Z h0 w_NOOP "com/example/tranche/tranche/EntryType" "code" "B" (.int 3)) (E_DATA : Exa Z h0 w_DATA "com/example/tranche/tranche/EntryType") (E_CONFIG : Exa Z h0 w_CONFIG "com/example/tranche/tranche/EntryType") (E_NOOP : Exa Z h0 w_NOOP "com/example/tranche/tranche/EntryType") :
    MetFree l x (head1 (Jvm.Cond.code x code maxLocals ret :: ws) room_1) (fun aa UU => aa = #[(.int p0)] ∧ Z.Warmed39 UU.vm ∧ UU.heap = h0) (fun _ _ _ _ _ => True) (fun _ UU oo UU' => ∃ vr Lr, oo = .returned vr ∧ (QL n0) vr UU'.heap Lr ∧ FrameEnd UU oo UU' Lr room_1.cells room_1.slots) := by
  refine MetFree.of_bodySF (plainFor_of_name pn_EntryTypeForCodePinLaw) hisR ?_
  intro p e s m args below meth c s₁ Bd hml0 hP hK
  obtain ⟨rfl, hZ, hh⟩ := hP
  have hx := Bd.exec
  have hby := Bd.bytes
  have hml : c.maxLocals = 4 := hml0
  have hown : s.vm.findClass "com/example/tranche/tranche/EntryTypeForCodePinLaw" = some m.cls := findClass_of_methodNamed Bd.named
  have hnm := (name_of_methodNamed Bd.named Bd.method).1
  have hlk := Bd.notSynchronized
  have X0 : Stand p l e room_1 s m #[(.int p0)] below meth c s₁ [] 0 0 := Stand.of_body Bd
  have e0 : s₁.heap = h0 := by rw [← hh, Bd.state]; rfl
  have N0 := Fr.nil n0
  show Owes p e below s (QL n0) room_1.cells room_1.slots s₁ (entryFrame m #[(.int p0)] maxLocals)
  rw [ef_rm0 m p0]
  show Owes p e below s (QL n0) room_1.cells room_1.slots s₁ (mkF m 0 #[(.val (.int p0)), .unset, .unset, .unset] [])
  refine Owes.by (fun _ k => XS.iloadN X0.here hx rfl (hb hby at_0) rfl k) ?_
  show Owes p e below s (QL n0) room_1.cells room_1.slots s₁ (mkF m 1 #[(.val (.int p0)), .unset, .unset, .unset] [(.int p0)])
  refine Owes.by (fun _ k => XT.i2b X0.here hx rfl (hb hby at_1) rfl k) ?_
  show Owes p e below s (QL n0) room_1.cells room_1.slots s₁ (mkF m 2 #[(.val (.int p0)), .unset, .unset, .unset] [(.int (p0.toInt8.toInt32))])
  by_cases q0 : (p0.toInt8.toInt32) = 1
  · rw [q0]
    show Owes p e below s (QL n0) room_1.cells room_1.slots s₁ (mkF m 2 #[(.val (.int p0)), .unset, .unset, .unset] [(.int (1 : Int32))])
    refine Owes.by (fun _ k => XS.istoreN X0.here hx rfl (hb hby at_2) rfl (l' := #[(.val (.int p0)), (.val (.int (1 : Int32))), .unset, .unset]) rfl k) ?_
    show Owes p e below s (QL n0) room_1.cells room_1.slots s₁ (mkF m 3 #[(.val (.int p0)), (.val (.int (1 : Int32))), .unset, .unset] [])
    refine Owes.by (fun _ k => XS.iloadN X0.here hx rfl (hb hby at_3) rfl k) ?_
    show Owes p e below s (QL n0) room_1.cells room_1.slots s₁ (mkF m 4 #[(.val (.int p0)), (.val (.int (1 : Int32))), .unset, .unset] [(.int (1 : Int32))])
    obtain ⟨_, _, ⟨T1, L1, k1, n1⟩, -, X1, ⟨Lc1, hQ1, l1, y1, z1⟩, st1⟩ := Jvm.LawKit.callS X0 hx (y := (⟨"com/example/tranche/tranche/EntryType", "forCode", "(B)Lcom/example/tranche/tranche/EntryType;"⟩ : MethodName)) hown (mvT hZ (hw _ (List.mem_of_getElem? (i := 0) rfl))) (mvT hZ (hw _ (List.mem_of_getElem? (i := 1) rfl))) (mvT hZ (hw _ (List.mem_of_getElem? (i := 2) rfl))) (mvT hZ (hw _ (List.mem_of_getElem? (i := 3) rfl))) (by decide) (backOf (W := 0) (rmF l Z a0 hw [] (1 : Int32) ty cl w_DATA w_CONFIG w_NOOP (.ref w_DATA) h0 n0 Z0 S_TYPES Ar hlen at0 at1 at2 F_DATA_code F_CONFIG_code F_NOOP_code (by simp +decide)) hZ (hw _ (List.mem_of_getElem? (i := 3) rfl)) (hw _ (List.mem_of_getElem? (i := 2) rfl)) (by decide) (by decide)) (g := (mkF m 4 #[(.val (.int p0)), (.val (.int (1 : Int32))), .unset, .unset] [(.int (1 : Int32))])) rfl (by rw [hml]; rfl) (argsL := [(.int (1 : Int32))]) (rest := []) (lenOf pd_B_Lcom_example_tranche_tranche_EntryType rfl) rfl (by show 2 * 0 + _ ≤ _; exact Nat.le_of_eq rfl) (hb hby at_4) (fun _ _ => ⟨rfl, e0, (by decide : 0 + 0 ≤ _), (by decide : 0 + 0 ≤ _)⟩)
    dsimp only [Pt.U, Pt.locs, Pt.cells, Pt.slots] at X1 l1 y1 z1 st1 hQ1
    subst l1 y1 z1
    obtain ⟨rfl, rfl, e1⟩ := hQ1
    try rw [List.append_nil] at X1
    refine Owes.by st1 ?_
    show Owes p e below s (QL n0) room_1.cells room_1.slots T1 (mkF m 7 #[(.val (.int p0)), (.val (.int (1 : Int32))), .unset, .unset] [(.ref w_DATA)])
    refine Owes.by (fun _ k => XS.astoreN X1.here hx rfl (hb hby at_7) rfl rfl (l' := #[(.val (.int p0)), (.val (.int (1 : Int32))), (.val (.ref w_DATA)), .unset]) rfl k) ?_
    show Owes p e below s (QL n0) room_1.cells room_1.slots T1 (mkF m 8 #[(.val (.int p0)), (.val (.int (1 : Int32))), (.val (.ref w_DATA)), .unset] [])
    refine Owes.by (fun _ k => XS.iloadN X1.here hx rfl (hb hby at_8) rfl k) ?_
    show Owes p e below s (QL n0) room_1.cells room_1.slots T1 (mkF m 9 #[(.val (.int p0)), (.val (.int (1 : Int32))), (.val (.ref w_DATA)), .unset] [(.int (1 : Int32))])
    refine Owes.by (fun _ k => XS.iconst X1.here hx rfl (hb hby at_9) k) ?_
    show Owes p e below s (QL n0) room_1.cells room_1.slots T1 (mkF m 10 #[(.val (.int p0)), (.val (.int (1 : Int32))), (.val (.ref w_DATA)), .unset] [(.int (1 : Int32)), (.int (1 : Int32))])
    refine Owes.by (fun _ k => XS.icmpNo X1.here hx rfl (hb hby at_10) rfl (XT.ii_ne_f (by decide)) k) ?_
    show Owes p e below s (QL n0) room_1.cells room_1.slots T1 (mkF m 13 #[(.val (.int p0)), (.val (.int (1 : Int32))), (.val (.ref w_DATA)), .unset] [])
    obtain ⟨T2, X2, e2, st2⟩ := getS2 X1 hx hZ hown (host := "") (Or.inl (hw _ (List.mem_of_getElem? (i := 18) rfl))) Via.refl e1 S_DATA (g := (mkF m 13 #[(.val (.int p0)), (.val (.int (1 : Int32))), (.val (.ref w_DATA)), .unset] [])) rfl (hb hby at_13)
    refine Owes.by st2 ?_
    show Owes p e below s (QL n0) room_1.cells room_1.slots T2 (mkF m 16 #[(.val (.int p0)), (.val (.int (1 : Int32))), (.val (.ref w_DATA)), .unset] [(.ref w_DATA)])
    refine Owes.by (fun _ k => XS.astoreN X2.here hx rfl (hb hby at_16) rfl rfl (l' := #[(.val (.int p0)), (.val (.int (1 : Int32))), (.val (.ref w_DATA)), (.val (.ref w_DATA))]) rfl k) ?_
    show Owes p e below s (QL n0) room_1.cells room_1.slots T2 (mkF m 17 #[(.val (.int p0)), (.val (.int (1 : Int32))), (.val (.ref w_DATA)), (.val (.ref w_DATA))] [])
    refine Owes.by (fun _ k => XS.goto X2.here hx rfl (pc0 := 17) (pc' := 46) rfl (hb hby at_17) (by decide) (by decide) k) ?_
    show Owes p e below s (QL n0) room_1.cells room_1.slots T2 (mkF m 46 #[(.val (.int p0)), (.val (.int (1 : Int32))), (.val (.ref w_DATA)), (.val (.ref w_DATA))] [])
    refine Owes.by (fun _ k => XS.aloadN X2.here hx rfl (hb hby at_46) rfl rfl k) ?_
    show Owes p e below s (QL n0) room_1.cells room_1.slots T2 (mkF m 47 #[(.val (.int p0)), (.val (.int (1 : Int32))), (.val (.ref w_DATA)), (.val (.ref w_DATA))] [(.ref w_DATA)])
    refine Owes.by (fun _ k => XS.aloadN X2.here hx rfl (hb hby at_47) rfl rfl k) ?_
    show Owes p e below s (QL n0) room_1.cells room_1.slots T2 (mkF m 48 #[(.val (.int p0)), (.val (.int (1 : Int32))), (.val (.ref w_DATA)), (.val (.ref w_DATA))] [(.ref w_DATA), (.ref w_DATA)])
    refine Owes.by (fun _ k => Jvm.RoadKit.acmp (g := (mkF m 48 #[(.val (.int p0)), (.val (.int (1 : Int32))), (.val (.ref w_DATA)), (.val (.ref w_DATA))] [(.ref w_DATA), (.ref w_DATA)])) X2 hx rfl rfl rfl (pc0 := 48) (pc' := 53) (same := true) rfl (hb hby at_48) rfl (decide_eq_true rfl) (by decide) (by decide) k) ?_
    show Owes p e below s (QL n0) room_1.cells room_1.slots T2 (mkF m 53 #[(.val (.int p0)), (.val (.int (1 : Int32))), (.val (.ref w_DATA)), (.val (.ref w_DATA))] [])
    refine Owes.by (fun _ k => XS.aloadN X2.here hx rfl (hb hby at_53) rfl rfl k) ?_
    show Owes p e below s (QL n0) room_1.cells room_1.slots T2 (mkF m 54 #[(.val (.int p0)), (.val (.int (1 : Int32))), (.val (.ref w_DATA)), (.val (.ref w_DATA))] [(.ref w_DATA)])
    refine Owes.by (fun _ k => XS.ifnullNo X2.here hx rfl (hb hby at_54) rfl k) ?_
    show Owes p e below s (QL n0) room_1.cells room_1.slots T2 (mkF m 57 #[(.val (.int p0)), (.val (.int (1 : Int32))), (.val (.ref w_DATA)), (.val (.ref w_DATA))] [])
    refine Owes.by (fun _ k => XS.aloadN X2.here hx rfl (hb hby at_57) rfl rfl k) ?_
    show Owes p e below s (QL n0) room_1.cells room_1.slots T2 (mkF m 58 #[(.val (.int p0)), (.val (.int (1 : Int32))), (.val (.ref w_DATA)), (.val (.ref w_DATA))] [(.ref w_DATA)])
    obtain ⟨cq3, kq3, qa3, qb3, qc3⟩ := isOf hZ e2 E_DATA
    obtain ⟨_, _, ⟨T3, L3, k3, n3⟩, -, X3, ⟨Lc3, hQ3, l3, y3, z3⟩, st3⟩ := X2.virtualBack hx (y := (⟨"com/example/tranche/tranche/EntryType", "code", "()B"⟩ : MethodName)) (z := (⟨"com/example/tranche/tranche/EntryType", "code", "()B"⟩ : MethodName)) hown (mvT hZ (hw _ (List.mem_of_getElem? (i := 12) rfl))) (mvT hZ (hw _ (List.mem_of_getElem? (i := 13) rfl))) (notFace_of_selects (args := #[]) (mvT hZ (hw _ (List.mem_of_getElem? (i := 15) rfl)))) (mvT hZ (hw _ (List.mem_of_getElem? (i := 15) rfl))) (mvT hZ (hw _ (List.mem_of_getElem? (i := 14) rfl))) (by decide) (backOf (W := 0) (rmG l Z a0 hw [] w_DATA 1 h0 n0 Z0 F_DATA_code (by decide)) hZ (hw _ (List.mem_of_getElem? (i := 16) rfl)) (hw _ (List.mem_of_getElem? (i := 2) rfl)) (by decide) (by decide)) qa3 qc3 (g := (mkF m 58 #[(.val (.int p0)), (.val (.int (1 : Int32))), (.val (.ref w_DATA)), (.val (.ref w_DATA))] [(.ref w_DATA)])) rfl (by rw [hml]; rfl) (Steps.refl _) (argsL := []) (rest := []) (lenOf pd_B rfl) rfl (by show 2 * 0 + _ ≤ _; exact Nat.le_of_eq rfl) (hb hby at_58) (fun _ _ => ⟨rfl, e2, (by decide : 0 + 0 ≤ _), (by decide : 0 + 0 ≤ _)⟩)
    dsimp only [Pt.U, Pt.locs, Pt.cells, Pt.slots] at X3 l3 y3 z3 st3 hQ3
    subst l3 y3 z3
    obtain ⟨rfl, rfl, e3⟩ := hQ3
    try rw [List.append_nil] at X3
    refine Owes.by (fun _ k => st3.trans k) ?_
    show Owes p e below s (QL n0) room_1.cells room_1.slots T3 (mkF m 61 #[(.val (.int p0)), (.val (.int (1 : Int32))), (.val (.ref w_DATA)), (.val (.ref w_DATA))] [(.int (1 : Int32))])
    refine Owes.by (fun _ k => XS.iloadN X3.here hx rfl (hb hby at_61) rfl k) ?_
    show Owes p e below s (QL n0) room_1.cells room_1.slots T3 (mkF m 62 #[(.val (.int p0)), (.val (.int (1 : Int32))), (.val (.ref w_DATA)), (.val (.ref w_DATA))] [(.int (1 : Int32)), (.int (1 : Int32))])
    refine Owes.by (fun _ k => XS.icmpYes X3.here hx rfl (pc0 := 62) (pc' := 67) rfl (hb hby at_62) rfl (XT.ii_eq_t (by decide)) (by decide) (by decide) k) ?_
    show Owes p e below s (QL n0) room_1.cells room_1.slots T3 (mkF m 67 #[(.val (.int p0)), (.val (.int (1 : Int32))), (.val (.ref w_DATA)), (.val (.ref w_DATA))] [])
    refine Owes.by (fun _ k => XS.iconst X3.here hx rfl (hb hby at_67) k) ?_
    show Owes p e below s (QL n0) room_1.cells room_1.slots T3 (mkF m 68 #[(.val (.int p0)), (.val (.int (1 : Int32))), (.val (.ref w_DATA)), (.val (.ref w_DATA))] [(.int (1 : Int32))])
    refine Owes.ret X3 (v := some (.int (1 : Int32))) (fun h => by rw [Bd.returns] at h; cases h) hlk ?_ (by decide) (by decide) (fun fs hr => retN X3 hx (t := .boolean) Bd.returns (by simp) (hb hby at_68) hr)
    rw [e3]
    exact ⟨rfl, N0⟩
  · skip
    by_cases q1 : (p0.toInt8.toInt32) = 2
    · rw [q1]
      show Owes p e below s (QL n0) room_1.cells room_1.slots s₁ (mkF m 2 #[(.val (.int p0)), .unset, .unset, .unset] [(.int (2 : Int32))])
      refine Owes.by (fun _ k => XS.istoreN X0.here hx rfl (hb hby at_2) rfl (l' := #[(.val (.int p0)), (.val (.int (2 : Int32))), .unset, .unset]) rfl k) ?_
      show Owes p e below s (QL n0) room_1.cells room_1.slots s₁ (mkF m 3 #[(.val (.int p0)), (.val (.int (2 : Int32))), .unset, .unset] [])
      refine Owes.by (fun _ k => XS.iloadN X0.here hx rfl (hb hby at_3) rfl k) ?_
      show Owes p e below s (QL n0) room_1.cells room_1.slots s₁ (mkF m 4 #[(.val (.int p0)), (.val (.int (2 : Int32))), .unset, .unset] [(.int (2 : Int32))])
      obtain ⟨_, _, ⟨T4, L4, k4, n4⟩, -, X4, ⟨Lc4, hQ4, l4, y4, z4⟩, st4⟩ := Jvm.LawKit.callS X0 hx (y := (⟨"com/example/tranche/tranche/EntryType", "forCode", "(B)Lcom/example/tranche/tranche/EntryType;"⟩ : MethodName)) hown (mvT hZ (hw _ (List.mem_of_getElem? (i := 0) rfl))) (mvT hZ (hw _ (List.mem_of_getElem? (i := 1) rfl))) (mvT hZ (hw _ (List.mem_of_getElem? (i := 2) rfl))) (mvT hZ (hw _ (List.mem_of_getElem? (i := 3) rfl))) (by decide) (backOf (W := 0) (rmF l Z a0 hw [] (2 : Int32) ty cl w_DATA w_CONFIG w_NOOP (.ref w_CONFIG) h0 n0 Z0 S_TYPES Ar hlen at0 at1 at2 F_DATA_code F_CONFIG_code F_NOOP_code (by simp +decide)) hZ (hw _ (List.mem_of_getElem? (i := 3) rfl)) (hw _ (List.mem_of_getElem? (i := 2) rfl)) (by decide) (by decide)) (g := (mkF m 4 #[(.val (.int p0)), (.val (.int (2 : Int32))), .unset, .unset] [(.int (2 : Int32))])) rfl (by rw [hml]; rfl) (argsL := [(.int (2 : Int32))]) (rest := []) (lenOf pd_B_Lcom_example_tranche_tranche_EntryType rfl) rfl (by show 2 * 0 + _ ≤ _; exact Nat.le_of_eq rfl) (hb hby at_4) (fun _ _ => ⟨rfl, e0, (by decide : 0 + 0 ≤ _), (by decide : 0 + 0 ≤ _)⟩)
      dsimp only [Pt.U, Pt.locs, Pt.cells, Pt.slots] at X4 l4 y4 z4 st4 hQ4
      subst l4 y4 z4
      obtain ⟨rfl, rfl, e4⟩ := hQ4
      try rw [List.append_nil] at X4
      refine Owes.by st4 ?_
      show Owes p e below s (QL n0) room_1.cells room_1.slots T4 (mkF m 7 #[(.val (.int p0)), (.val (.int (2 : Int32))), .unset, .unset] [(.ref w_CONFIG)])
      refine Owes.by (fun _ k => XS.astoreN X4.here hx rfl (hb hby at_7) rfl rfl (l' := #[(.val (.int p0)), (.val (.int (2 : Int32))), (.val (.ref w_CONFIG)), .unset]) rfl k) ?_
      show Owes p e below s (QL n0) room_1.cells room_1.slots T4 (mkF m 8 #[(.val (.int p0)), (.val (.int (2 : Int32))), (.val (.ref w_CONFIG)), .unset] [])
      refine Owes.by (fun _ k => XS.iloadN X4.here hx rfl (hb hby at_8) rfl k) ?_
      show Owes p e below s (QL n0) room_1.cells room_1.slots T4 (mkF m 9 #[(.val (.int p0)), (.val (.int (2 : Int32))), (.val (.ref w_CONFIG)), .unset] [(.int (2 : Int32))])
      refine Owes.by (fun _ k => XS.iconst X4.here hx rfl (hb hby at_9) k) ?_
      show Owes p e below s (QL n0) room_1.cells room_1.slots T4 (mkF m 10 #[(.val (.int p0)), (.val (.int (2 : Int32))), (.val (.ref w_CONFIG)), .unset] [(.int (1 : Int32)), (.int (2 : Int32))])
      refine Owes.by (fun _ k => XS.icmpYes X4.here hx rfl (pc0 := 10) (pc' := 20) rfl (hb hby at_10) rfl (XT.ii_ne_t (by decide)) (by decide) (by decide) k) ?_
      show Owes p e below s (QL n0) room_1.cells room_1.slots T4 (mkF m 20 #[(.val (.int p0)), (.val (.int (2 : Int32))), (.val (.ref w_CONFIG)), .unset] [])
      refine Owes.by (fun _ k => XS.iloadN X4.here hx rfl (hb hby at_20) rfl k) ?_
      show Owes p e below s (QL n0) room_1.cells room_1.slots T4 (mkF m 21 #[(.val (.int p0)), (.val (.int (2 : Int32))), (.val (.ref w_CONFIG)), .unset] [(.int (2 : Int32))])
      refine Owes.by (fun _ k => XS.iconst X4.here hx rfl (hb hby at_21) k) ?_
      show Owes p e below s (QL n0) room_1.cells room_1.slots T4 (mkF m 22 #[(.val (.int p0)), (.val (.int (2 : Int32))), (.val (.ref w_CONFIG)), .unset] [(.int (2 : Int32)), (.int (2 : Int32))])
      refine Owes.by (fun _ k => XS.icmpNo X4.here hx rfl (hb hby at_22) rfl (XT.ii_ne_f (by decide)) k) ?_
      show Owes p e below s (QL n0) room_1.cells room_1.slots T4 (mkF m 25 #[(.val (.int p0)), (.val (.int (2 : Int32))), (.val (.ref w_CONFIG)), .unset] [])
      obtain ⟨T5, X5, e5, st5⟩ := getS2 X4 hx hZ hown (host := "") (Or.inl (hw _ (List.mem_of_getElem? (i := 17) rfl))) Via.refl e4 S_CONFIG (g := (mkF m 25 #[(.val (.int p0)), (.val (.int (2 : Int32))), (.val (.ref w_CONFIG)), .unset] [])) rfl (hb hby at_25)
      refine Owes.by st5 ?_
      show Owes p e below s (QL n0) room_1.cells room_1.slots T5 (mkF m 28 #[(.val (.int p0)), (.val (.int (2 : Int32))), (.val (.ref w_CONFIG)), .unset] [(.ref w_CONFIG)])
      refine Owes.by (fun _ k => XS.astoreN X5.here hx rfl (hb hby at_28) rfl rfl (l' := #[(.val (.int p0)), (.val (.int (2 : Int32))), (.val (.ref w_CONFIG)), (.val (.ref w_CONFIG))]) rfl k) ?_
      show Owes p e below s (QL n0) room_1.cells room_1.slots T5 (mkF m 29 #[(.val (.int p0)), (.val (.int (2 : Int32))), (.val (.ref w_CONFIG)), (.val (.ref w_CONFIG))] [])
      refine Owes.by (fun _ k => XS.goto X5.here hx rfl (pc0 := 29) (pc' := 46) rfl (hb hby at_29) (by decide) (by decide) k) ?_
      show Owes p e below s (QL n0) room_1.cells room_1.slots T5 (mkF m 46 #[(.val (.int p0)), (.val (.int (2 : Int32))), (.val (.ref w_CONFIG)), (.val (.ref w_CONFIG))] [])
      refine Owes.by (fun _ k => XS.aloadN X5.here hx rfl (hb hby at_46) rfl rfl k) ?_
      show Owes p e below s (QL n0) room_1.cells room_1.slots T5 (mkF m 47 #[(.val (.int p0)), (.val (.int (2 : Int32))), (.val (.ref w_CONFIG)), (.val (.ref w_CONFIG))] [(.ref w_CONFIG)])
      refine Owes.by (fun _ k => XS.aloadN X5.here hx rfl (hb hby at_47) rfl rfl k) ?_
      show Owes p e below s (QL n0) room_1.cells room_1.slots T5 (mkF m 48 #[(.val (.int p0)), (.val (.int (2 : Int32))), (.val (.ref w_CONFIG)), (.val (.ref w_CONFIG))] [(.ref w_CONFIG), (.ref w_CONFIG)])
      refine Owes.by (fun _ k => Jvm.RoadKit.acmp (g := (mkF m 48 #[(.val (.int p0)), (.val (.int (2 : Int32))), (.val (.ref w_CONFIG)), (.val (.ref w_CONFIG))] [(.ref w_CONFIG), (.ref w_CONFIG)])) X5 hx rfl rfl rfl (pc0 := 48) (pc' := 53) (same := true) rfl (hb hby at_48) rfl (decide_eq_true rfl) (by decide) (by decide) k) ?_
      show Owes p e below s (QL n0) room_1.cells room_1.slots T5 (mkF m 53 #[(.val (.int p0)), (.val (.int (2 : Int32))), (.val (.ref w_CONFIG)), (.val (.ref w_CONFIG))] [])
      refine Owes.by (fun _ k => XS.aloadN X5.here hx rfl (hb hby at_53) rfl rfl k) ?_
      show Owes p e below s (QL n0) room_1.cells room_1.slots T5 (mkF m 54 #[(.val (.int p0)), (.val (.int (2 : Int32))), (.val (.ref w_CONFIG)), (.val (.ref w_CONFIG))] [(.ref w_CONFIG)])
      refine Owes.by (fun _ k => XS.ifnullNo X5.here hx rfl (hb hby at_54) rfl k) ?_
      show Owes p e below s (QL n0) room_1.cells room_1.slots T5 (mkF m 57 #[(.val (.int p0)), (.val (.int (2 : Int32))), (.val (.ref w_CONFIG)), (.val (.ref w_CONFIG))] [])
      refine Owes.by (fun _ k => XS.aloadN X5.here hx rfl (hb hby at_57) rfl rfl k) ?_
      show Owes p e below s (QL n0) room_1.cells room_1.slots T5 (mkF m 58 #[(.val (.int p0)), (.val (.int (2 : Int32))), (.val (.ref w_CONFIG)), (.val (.ref w_CONFIG))] [(.ref w_CONFIG)])
      obtain ⟨cq6, kq6, qa6, qb6, qc6⟩ := isOf hZ e5 E_CONFIG
      obtain ⟨_, _, ⟨T6, L6, k6, n6⟩, -, X6, ⟨Lc6, hQ6, l6, y6, z6⟩, st6⟩ := X5.virtualBack hx (y := (⟨"com/example/tranche/tranche/EntryType", "code", "()B"⟩ : MethodName)) (z := (⟨"com/example/tranche/tranche/EntryType", "code", "()B"⟩ : MethodName)) hown (mvT hZ (hw _ (List.mem_of_getElem? (i := 12) rfl))) (mvT hZ (hw _ (List.mem_of_getElem? (i := 13) rfl))) (notFace_of_selects (args := #[]) (mvT hZ (hw _ (List.mem_of_getElem? (i := 15) rfl)))) (mvT hZ (hw _ (List.mem_of_getElem? (i := 15) rfl))) (mvT hZ (hw _ (List.mem_of_getElem? (i := 14) rfl))) (by decide) (backOf (W := 0) (rmG l Z a0 hw [] w_CONFIG 2 h0 n0 Z0 F_CONFIG_code (by decide)) hZ (hw _ (List.mem_of_getElem? (i := 16) rfl)) (hw _ (List.mem_of_getElem? (i := 2) rfl)) (by decide) (by decide)) qa6 qc6 (g := (mkF m 58 #[(.val (.int p0)), (.val (.int (2 : Int32))), (.val (.ref w_CONFIG)), (.val (.ref w_CONFIG))] [(.ref w_CONFIG)])) rfl (by rw [hml]; rfl) (Steps.refl _) (argsL := []) (rest := []) (lenOf pd_B rfl) rfl (by show 2 * 0 + _ ≤ _; exact Nat.le_of_eq rfl) (hb hby at_58) (fun _ _ => ⟨rfl, e5, (by decide : 0 + 0 ≤ _), (by decide : 0 + 0 ≤ _)⟩)
      dsimp only [Pt.U, Pt.locs, Pt.cells, Pt.slots] at X6 l6 y6 z6 st6 hQ6
      subst l6 y6 z6
      obtain ⟨rfl, rfl, e6⟩ := hQ6
      try rw [List.append_nil] at X6
      refine Owes.by (fun _ k => st6.trans k) ?_
      show Owes p e below s (QL n0) room_1.cells room_1.slots T6 (mkF m 61 #[(.val (.int p0)), (.val (.int (2 : Int32))), (.val (.ref w_CONFIG)), (.val (.ref w_CONFIG))] [(.int (2 : Int32))])
      refine Owes.by (fun _ k => XS.iloadN X6.here hx rfl (hb hby at_61) rfl k) ?_
      show Owes p e below s (QL n0) room_1.cells room_1.slots T6 (mkF m 62 #[(.val (.int p0)), (.val (.int (2 : Int32))), (.val (.ref w_CONFIG)), (.val (.ref w_CONFIG))] [(.int (2 : Int32)), (.int (2 : Int32))])
      refine Owes.by (fun _ k => XS.icmpYes X6.here hx rfl (pc0 := 62) (pc' := 67) rfl (hb hby at_62) rfl (XT.ii_eq_t (by decide)) (by decide) (by decide) k) ?_
      show Owes p e below s (QL n0) room_1.cells room_1.slots T6 (mkF m 67 #[(.val (.int p0)), (.val (.int (2 : Int32))), (.val (.ref w_CONFIG)), (.val (.ref w_CONFIG))] [])
      refine Owes.by (fun _ k => XS.iconst X6.here hx rfl (hb hby at_67) k) ?_
      show Owes p e below s (QL n0) room_1.cells room_1.slots T6 (mkF m 68 #[(.val (.int p0)), (.val (.int (2 : Int32))), (.val (.ref w_CONFIG)), (.val (.ref w_CONFIG))] [(.int (1 : Int32))])
      refine Owes.ret X6 (v := some (.int (1 : Int32))) (fun h => by rw [Bd.returns] at h; cases h) hlk ?_ (by decide) (by decide) (fun fs hr => retN X6 hx (t := .boolean) Bd.returns (by simp) (hb hby at_68) hr)
      rw [e6]
      exact ⟨rfl, N0⟩
    · skip
      by_cases q2 : (p0.toInt8.toInt32) = 3
      · rw [q2]
        show Owes p e below s (QL n0) room_1.cells room_1.slots s₁ (mkF m 2 #[(.val (.int p0)), .unset, .unset, .unset] [(.int (3 : Int32))])
        refine Owes.by (fun _ k => XS.istoreN X0.here hx rfl (hb hby at_2) rfl (l' := #[(.val (.int p0)), (.val (.int (3 : Int32))), .unset, .unset]) rfl k) ?_
        show Owes p e below s (QL n0) room_1.cells room_1.slots s₁ (mkF m 3 #[(.val (.int p0)), (.val (.int (3 : Int32))), .unset, .unset] [])
        refine Owes.by (fun _ k => XS.iloadN X0.here hx rfl (hb hby at_3) rfl k) ?_
        show Owes p e below s (QL n0) room_1.cells room_1.slots s₁ (mkF m 4 #[(.val (.int p0)), (.val (.int (3 : Int32))), .unset, .unset] [(.int (3 : Int32))])
        obtain ⟨_, _, ⟨T7, L7, k7, n7⟩, -, X7, ⟨Lc7, hQ7, l7, y7, z7⟩, st7⟩ := Jvm.LawKit.callS X0 hx (y := (⟨"com/example/tranche/tranche/EntryType", "forCode", "(B)Lcom/example/tranche/tranche/EntryType;"⟩ : MethodName)) hown (mvT hZ (hw _ (List.mem_of_getElem? (i := 0) rfl))) (mvT hZ (hw _ (List.mem_of_getElem? (i := 1) rfl))) (mvT hZ (hw _ (List.mem_of_getElem? (i := 2) rfl))) (mvT hZ (hw _ (List.mem_of_getElem? (i := 3) rfl))) (by decide) (backOf (W := 0) (rmF l Z a0 hw [] (3 : Int32) ty cl w_DATA w_CONFIG w_NOOP (.ref w_NOOP) h0 n0 Z0 S_TYPES Ar hlen at0 at1 at2 F_DATA_code F_CONFIG_code F_NOOP_code (by simp +decide)) hZ (hw _ (List.mem_of_getElem? (i := 3) rfl)) (hw _ (List.mem_of_getElem? (i := 2) rfl)) (by decide) (by decide)) (g := (mkF m 4 #[(.val (.int p0)), (.val (.int (3 : Int32))), .unset, .unset] [(.int (3 : Int32))])) rfl (by rw [hml]; rfl) (argsL := [(.int (3 : Int32))]) (rest := []) (lenOf pd_B_Lcom_example_tranche_tranche_EntryType rfl) rfl (by show 2 * 0 + _ ≤ _; exact Nat.le_of_eq rfl) (hb hby at_4) (fun _ _ => ⟨rfl, e0, (by decide : 0 + 0 ≤ _), (by decide : 0 + 0 ≤ _)⟩)
        dsimp only [Pt.U, Pt.locs, Pt.cells, Pt.slots] at X7 l7 y7 z7 st7 hQ7
        subst l7 y7 z7
        obtain ⟨rfl, rfl, e7⟩ := hQ7
        try rw [List.append_nil] at X7
        refine Owes.by st7 ?_
        show Owes p e below s (QL n0) room_1.cells room_1.slots T7 (mkF m 7 #[(.val (.int p0)), (.val (.int (3 : Int32))), .unset, .unset] [(.ref w_NOOP)])
        refine Owes.by (fun _ k => XS.astoreN X7.here hx rfl (hb hby at_7) rfl rfl (l' := #[(.val (.int p0)), (.val (.int (3 : Int32))), (.val (.ref w_NOOP)), .unset]) rfl k) ?_
        show Owes p e below s (QL n0) room_1.cells room_1.slots T7 (mkF m 8 #[(.val (.int p0)), (.val (.int (3 : Int32))), (.val (.ref w_NOOP)), .unset] [])
        refine Owes.by (fun _ k => XS.iloadN X7.here hx rfl (hb hby at_8) rfl k) ?_
        show Owes p e below s (QL n0) room_1.cells room_1.slots T7 (mkF m 9 #[(.val (.int p0)), (.val (.int (3 : Int32))), (.val (.ref w_NOOP)), .unset] [(.int (3 : Int32))])
        refine Owes.by (fun _ k => XS.iconst X7.here hx rfl (hb hby at_9) k) ?_
        show Owes p e below s (QL n0) room_1.cells room_1.slots T7 (mkF m 10 #[(.val (.int p0)), (.val (.int (3 : Int32))), (.val (.ref w_NOOP)), .unset] [(.int (1 : Int32)), (.int (3 : Int32))])
        refine Owes.by (fun _ k => XS.icmpYes X7.here hx rfl (pc0 := 10) (pc' := 20) rfl (hb hby at_10) rfl (XT.ii_ne_t (by decide)) (by decide) (by decide) k) ?_
        show Owes p e below s (QL n0) room_1.cells room_1.slots T7 (mkF m 20 #[(.val (.int p0)), (.val (.int (3 : Int32))), (.val (.ref w_NOOP)), .unset] [])
        refine Owes.by (fun _ k => XS.iloadN X7.here hx rfl (hb hby at_20) rfl k) ?_
        show Owes p e below s (QL n0) room_1.cells room_1.slots T7 (mkF m 21 #[(.val (.int p0)), (.val (.int (3 : Int32))), (.val (.ref w_NOOP)), .unset] [(.int (3 : Int32))])
        refine Owes.by (fun _ k => XS.iconst X7.here hx rfl (hb hby at_21) k) ?_
        show Owes p e below s (QL n0) room_1.cells room_1.slots T7 (mkF m 22 #[(.val (.int p0)), (.val (.int (3 : Int32))), (.val (.ref w_NOOP)), .unset] [(.int (2 : Int32)), (.int (3 : Int32))])
        refine Owes.by (fun _ k => XS.icmpYes X7.here hx rfl (pc0 := 22) (pc' := 32) rfl (hb hby at_22) rfl (XT.ii_ne_t (by decide)) (by decide) (by decide) k) ?_
        show Owes p e below s (QL n0) room_1.cells room_1.slots T7 (mkF m 32 #[(.val (.int p0)), (.val (.int (3 : Int32))), (.val (.ref w_NOOP)), .unset] [])
        refine Owes.by (fun _ k => XS.iloadN X7.here hx rfl (hb hby at_32) rfl k) ?_
        show Owes p e below s (QL n0) room_1.cells room_1.slots T7 (mkF m 33 #[(.val (.int p0)), (.val (.int (3 : Int32))), (.val (.ref w_NOOP)), .unset] [(.int (3 : Int32))])
        refine Owes.by (fun _ k => XS.iconst X7.here hx rfl (hb hby at_33) k) ?_
        show Owes p e below s (QL n0) room_1.cells room_1.slots T7 (mkF m 34 #[(.val (.int p0)), (.val (.int (3 : Int32))), (.val (.ref w_NOOP)), .unset] [(.int (3 : Int32)), (.int (3 : Int32))])
        refine Owes.by (fun _ k => XS.icmpNo X7.here hx rfl (hb hby at_34) rfl (XT.ii_ne_f (by decide)) k) ?_
        show Owes p e below s (QL n0) room_1.cells room_1.slots T7 (mkF m 37 #[(.val (.int p0)), (.val (.int (3 : Int32))), (.val (.ref w_NOOP)), .unset] [])
        obtain ⟨T8, X8, e8, st8⟩ := getS2 X7 hx hZ hown (host := "") (Or.inl (hw _ (List.mem_of_getElem? (i := 11) rfl))) Via.refl e7 S_NOOP (g := (mkF m 37 #[(.val (.int p0)), (.val (.int (3 : Int32))), (.val (.ref w_NOOP)), .unset] [])) rfl (hb hby at_37)
        refine Owes.by st8 ?_
        show Owes p e below s (QL n0) room_1.cells room_1.slots T8 (mkF m 40 #[(.val (.int p0)), (.val (.int (3 : Int32))), (.val (.ref w_NOOP)), .unset] [(.ref w_NOOP)])
        refine Owes.by (fun _ k => XS.astoreN X8.here hx rfl (hb hby at_40) rfl rfl (l' := #[(.val (.int p0)), (.val (.int (3 : Int32))), (.val (.ref w_NOOP)), (.val (.ref w_NOOP))]) rfl k) ?_
        show Owes p e below s (QL n0) room_1.cells room_1.slots T8 (mkF m 41 #[(.val (.int p0)), (.val (.int (3 : Int32))), (.val (.ref w_NOOP)), (.val (.ref w_NOOP))] [])
        refine Owes.by (fun _ k => XS.goto X8.here hx rfl (pc0 := 41) (pc' := 46) rfl (hb hby at_41) (by decide) (by decide) k) ?_
        show Owes p e below s (QL n0) room_1.cells room_1.slots T8 (mkF m 46 #[(.val (.int p0)), (.val (.int (3 : Int32))), (.val (.ref w_NOOP)), (.val (.ref w_NOOP))] [])
        refine Owes.by (fun _ k => XS.aloadN X8.here hx rfl (hb hby at_46) rfl rfl k) ?_
        show Owes p e below s (QL n0) room_1.cells room_1.slots T8 (mkF m 47 #[(.val (.int p0)), (.val (.int (3 : Int32))), (.val (.ref w_NOOP)), (.val (.ref w_NOOP))] [(.ref w_NOOP)])
        refine Owes.by (fun _ k => XS.aloadN X8.here hx rfl (hb hby at_47) rfl rfl k) ?_
        show Owes p e below s (QL n0) room_1.cells room_1.slots T8 (mkF m 48 #[(.val (.int p0)), (.val (.int (3 : Int32))), (.val (.ref w_NOOP)), (.val (.ref w_NOOP))] [(.ref w_NOOP), (.ref w_NOOP)])
        refine Owes.by (fun _ k => Jvm.RoadKit.acmp (g := (mkF m 48 #[(.val (.int p0)), (.val (.int (3 : Int32))), (.val (.ref w_NOOP)), (.val (.ref w_NOOP))] [(.ref w_NOOP), (.ref w_NOOP)])) X8 hx rfl rfl rfl (pc0 := 48) (pc' := 53) (same := true) rfl (hb hby at_48) rfl (decide_eq_true rfl) (by decide) (by decide) k) ?_
        show Owes p e below s (QL n0) room_1.cells room_1.slots T8 (mkF m 53 #[(.val (.int p0)), (.val (.int (3 : Int32))), (.val (.ref w_NOOP)), (.val (.ref w_NOOP))] [])
        refine Owes.by (fun _ k => XS.aloadN X8.here hx rfl (hb hby at_53) rfl rfl k) ?_
        show Owes p e below s (QL n0) room_1.cells room_1.slots T8 (mkF m 54 #[(.val (.int p0)), (.val (.int (3 : Int32))), (.val (.ref w_NOOP)), (.val (.ref w_NOOP))] [(.ref w_NOOP)])
        refine Owes.by (fun _ k => XS.ifnullNo X8.here hx rfl (hb hby at_54) rfl k) ?_
        show Owes p e below s (QL n0) room_1.cells room_1.slots T8 (mkF m 57 #[(.val (.int p0)), (.val (.int (3 : Int32))), (.val (.ref w_NOOP)), (.val (.ref w_NOOP))] [])
        refine Owes.by (fun _ k => XS.aloadN X8.here hx rfl (hb hby at_57) rfl rfl k) ?_
        show Owes p e below s (QL n0) room_1.cells room_1.slots T8 (mkF m 58 #[(.val (.int p0)), (.val (.int (3 : Int32))), (.val (.ref w_NOOP)), (.val (.ref w_NOOP))] [(.ref w_NOOP)])
        obtain ⟨cq9, kq9, qa9, qb9, qc9⟩ := isOf hZ e8 E_NOOP
        obtain ⟨_, _, ⟨T9, L9, k9, n9⟩, -, X9, ⟨Lc9, hQ9, l9, y9, z9⟩, st9⟩ := X8.virtualBack hx (y := (⟨"com/example/tranche/tranche/EntryType", "code", "()B"⟩ : MethodName)) (z := (⟨"com/example/tranche/tranche/EntryType", "code", "()B"⟩ : MethodName)) hown (mvT hZ (hw _ (List.mem_of_getElem? (i := 12) rfl))) (mvT hZ (hw _ (List.mem_of_getElem? (i := 13) rfl))) (notFace_of_selects (args := #[]) (mvT hZ (hw _ (List.mem_of_getElem? (i := 15) rfl)))) (mvT hZ (hw _ (List.mem_of_getElem? (i := 15) rfl))) (mvT hZ (hw _ (List.mem_of_getElem? (i := 14) rfl))) (by decide) (backOf (W := 0) (rmG l Z a0 hw [] w_NOOP 3 h0 n0 Z0 F_NOOP_code (by decide)) hZ (hw _ (List.mem_of_getElem? (i := 16) rfl)) (hw _ (List.mem_of_getElem? (i := 2) rfl)) (by decide) (by decide)) qa9 qc9 (g := (mkF m 58 #[(.val (.int p0)), (.val (.int (3 : Int32))), (.val (.ref w_NOOP)), (.val (.ref w_NOOP))] [(.ref w_NOOP)])) rfl (by rw [hml]; rfl) (Steps.refl _) (argsL := []) (rest := []) (lenOf pd_B rfl) rfl (by show 2 * 0 + _ ≤ _; exact Nat.le_of_eq rfl) (hb hby at_58) (fun _ _ => ⟨rfl, e8, (by decide : 0 + 0 ≤ _), (by decide : 0 + 0 ≤ _)⟩)
        dsimp only [Pt.U, Pt.locs, Pt.cells, Pt.slots] at X9 l9 y9 z9 st9 hQ9
        subst l9 y9 z9
        obtain ⟨rfl, rfl, e9⟩ := hQ9
        try rw [List.append_nil] at X9
        refine Owes.by (fun _ k => st9.trans k) ?_
        show Owes p e below s (QL n0) room_1.cells room_1.slots T9 (mkF m 61 #[(.val (.int p0)), (.val (.int (3 : Int32))), (.val (.ref w_NOOP)), (.val (.ref w_NOOP))] [(.int (3 : Int32))])
        refine Owes.by (fun _ k => XS.iloadN X9.here hx rfl (hb hby at_61) rfl k) ?_
        show Owes p e below s (QL n0) room_1.cells room_1.slots T9 (mkF m 62 #[(.val (.int p0)), (.val (.int (3 : Int32))), (.val (.ref w_NOOP)), (.val (.ref w_NOOP))] [(.int (3 : Int32)), (.int (3 : Int32))])
        refine Owes.by (fun _ k => XS.icmpYes X9.here hx rfl (pc0 := 62) (pc' := 67) rfl (hb hby at_62) rfl (XT.ii_eq_t (by decide)) (by decide) (by decide) k) ?_
        show Owes p e below s (QL n0) room_1.cells room_1.slots T9 (mkF m 67 #[(.val (.int p0)), (.val (.int (3 : Int32))), (.val (.ref w_NOOP)), (.val (.ref w_NOOP))] [])
        refine Owes.by (fun _ k => XS.iconst X9.here hx rfl (hb hby at_67) k) ?_
        show Owes p e below s (QL n0) room_1.cells room_1.slots T9 (mkF m 68 #[(.val (.int p0)), (.val (.int (3 : Int32))), (.val (.ref w_NOOP)), (.val (.ref w_NOOP))] [(.int (1 : Int32))])
        refine Owes.ret X9 (v := some (.int (1 : Int32))) (fun h => by rw [Bd.returns] at h; cases h) hlk ?_ (by decide) (by decide) (fun fs hr => retN X9 hx (t := .boolean) Bd.returns (by simp) (hb hby at_68) hr)
        rw [e9]
        exact ⟨rfl, N0⟩
      · skip
        refine Owes.by (fun _ k => XS.istoreN X0.here hx rfl (hb hby at_2) rfl (l' := #[(.val (.int p0)), (.val (.int (p0.toInt8.toInt32))), .unset, .unset]) rfl k) ?_
        show Owes p e below s (QL n0) room_1.cells room_1.slots s₁ (mkF m 3 #[(.val (.int p0)), (.val (.int (p0.toInt8.toInt32))), .unset, .unset] [])
        refine Owes.by (fun _ k => XS.iloadN X0.here hx rfl (hb hby at_3) rfl k) ?_
        show Owes p e below s (QL n0) room_1.cells room_1.slots s₁ (mkF m 4 #[(.val (.int p0)), (.val (.int (p0.toInt8.toInt32))), .unset, .unset] [(.int (p0.toInt8.toInt32))])
        obtain ⟨_, _, ⟨T10, L10, k10, n10⟩, -, X10, ⟨Lc10, hQ10, l10, y10, z10⟩, st10⟩ := Jvm.LawKit.callS X0 hx (y := (⟨"com/example/tranche/tranche/EntryType", "forCode", "(B)Lcom/example/tranche/tranche/EntryType;"⟩ : MethodName)) hown (mvT hZ (hw _ (List.mem_of_getElem? (i := 0) rfl))) (mvT hZ (hw _ (List.mem_of_getElem? (i := 1) rfl))) (mvT hZ (hw _ (List.mem_of_getElem? (i := 2) rfl))) (mvT hZ (hw _ (List.mem_of_getElem? (i := 3) rfl))) (by decide) (backOf (W := 0) (rmF l Z a0 hw [] (p0.toInt8.toInt32) ty cl w_DATA w_CONFIG w_NOOP .null h0 n0 Z0 S_TYPES Ar hlen at0 at1 at2 F_DATA_code F_CONFIG_code F_NOOP_code (by rw [if_neg q0, if_neg q1, if_neg q2])) hZ (hw _ (List.mem_of_getElem? (i := 3) rfl)) (hw _ (List.mem_of_getElem? (i := 2) rfl)) (by decide) (by decide)) (g := (mkF m 4 #[(.val (.int p0)), (.val (.int (p0.toInt8.toInt32))), .unset, .unset] [(.int (p0.toInt8.toInt32))])) rfl (by rw [hml]; rfl) (argsL := [(.int (p0.toInt8.toInt32))]) (rest := []) (lenOf pd_B_Lcom_example_tranche_tranche_EntryType rfl) rfl (by show 2 * 0 + _ ≤ _; exact Nat.le_of_eq rfl) (hb hby at_4) (fun _ _ => ⟨rfl, e0, (by decide : 0 + 0 ≤ _), (by decide : 0 + 0 ≤ _)⟩)
        dsimp only [Pt.U, Pt.locs, Pt.cells, Pt.slots] at X10 l10 y10 z10 st10 hQ10
        subst l10 y10 z10
        obtain ⟨rfl, rfl, e10⟩ := hQ10
        try rw [List.append_nil] at X10
        refine Owes.by st10 ?_
        show Owes p e below s (QL n0) room_1.cells room_1.slots T10 (mkF m 7 #[(.val (.int p0)), (.val (.int (p0.toInt8.toInt32))), .unset, .unset] [.null])
        refine Owes.by (fun _ k => XS.astoreN X10.here hx rfl (hb hby at_7) rfl rfl (l' := #[(.val (.int p0)), (.val (.int (p0.toInt8.toInt32))), (.val .null), .unset]) rfl k) ?_
        show Owes p e below s (QL n0) room_1.cells room_1.slots T10 (mkF m 8 #[(.val (.int p0)), (.val (.int (p0.toInt8.toInt32))), (.val .null), .unset] [])
        refine Owes.by (fun _ k => XS.iloadN X10.here hx rfl (hb hby at_8) rfl k) ?_
        show Owes p e below s (QL n0) room_1.cells room_1.slots T10 (mkF m 9 #[(.val (.int p0)), (.val (.int (p0.toInt8.toInt32))), (.val .null), .unset] [(.int (p0.toInt8.toInt32))])
        refine Owes.by (fun _ k => XS.iconst X10.here hx rfl (hb hby at_9) k) ?_
        show Owes p e below s (QL n0) room_1.cells room_1.slots T10 (mkF m 10 #[(.val (.int p0)), (.val (.int (p0.toInt8.toInt32))), (.val .null), .unset] [(.int (1 : Int32)), (.int (p0.toInt8.toInt32))])
        refine Owes.by (fun _ k => XS.icmpYes X10.here hx rfl (pc0 := 10) (pc' := 20) rfl (hb hby at_10) rfl (XT.ii_ne_t q0) (by decide) (by decide) k) ?_
        show Owes p e below s (QL n0) room_1.cells room_1.slots T10 (mkF m 20 #[(.val (.int p0)), (.val (.int (p0.toInt8.toInt32))), (.val .null), .unset] [])
        refine Owes.by (fun _ k => XS.iloadN X10.here hx rfl (hb hby at_20) rfl k) ?_
        show Owes p e below s (QL n0) room_1.cells room_1.slots T10 (mkF m 21 #[(.val (.int p0)), (.val (.int (p0.toInt8.toInt32))), (.val .null), .unset] [(.int (p0.toInt8.toInt32))])
        refine Owes.by (fun _ k => XS.iconst X10.here hx rfl (hb hby at_21) k) ?_
        show Owes p e below s (QL n0) room_1.cells room_1.slots T10 (mkF m 22 #[(.val (.int p0)), (.val (.int (p0.toInt8.toInt32))), (.val .null), .unset] [(.int (2 : Int32)), (.int (p0.toInt8.toInt32))])
        refine Owes.by (fun _ k => XS.icmpYes X10.here hx rfl (pc0 := 22) (pc' := 32) rfl (hb hby at_22) rfl (XT.ii_ne_t q1) (by decide) (by decide) k) ?_
        show Owes p e below s (QL n0) room_1.cells room_1.slots T10 (mkF m 32 #[(.val (.int p0)), (.val (.int (p0.toInt8.toInt32))), (.val .null), .unset] [])
        refine Owes.by (fun _ k => XS.iloadN X10.here hx rfl (hb hby at_32) rfl k) ?_
        show Owes p e below s (QL n0) room_1.cells room_1.slots T10 (mkF m 33 #[(.val (.int p0)), (.val (.int (p0.toInt8.toInt32))), (.val .null), .unset] [(.int (p0.toInt8.toInt32))])
        refine Owes.by (fun _ k => XS.iconst X10.here hx rfl (hb hby at_33) k) ?_
        show Owes p e below s (QL n0) room_1.cells room_1.slots T10 (mkF m 34 #[(.val (.int p0)), (.val (.int (p0.toInt8.toInt32))), (.val .null), .unset] [(.int (3 : Int32)), (.int (p0.toInt8.toInt32))])
        refine Owes.by (fun _ k => XS.icmpYes X10.here hx rfl (pc0 := 34) (pc' := 44) rfl (hb hby at_34) rfl (XT.ii_ne_t q2) (by decide) (by decide) k) ?_
        show Owes p e below s (QL n0) room_1.cells room_1.slots T10 (mkF m 44 #[(.val (.int p0)), (.val (.int (p0.toInt8.toInt32))), (.val .null), .unset] [])
        refine Owes.by (fun _ k => XS.aconstNull X10.here hx rfl (hb hby at_44) k) ?_
        show Owes p e below s (QL n0) room_1.cells room_1.slots T10 (mkF m 45 #[(.val (.int p0)), (.val (.int (p0.toInt8.toInt32))), (.val .null), .unset] [.null])
        refine Owes.by (fun _ k => XS.astoreN X10.here hx rfl (hb hby at_45) rfl rfl (l' := #[(.val (.int p0)), (.val (.int (p0.toInt8.toInt32))), (.val .null), (.val .null)]) rfl k) ?_
        show Owes p e below s (QL n0) room_1.cells room_1.slots T10 (mkF m 46 #[(.val (.int p0)), (.val (.int (p0.toInt8.toInt32))), (.val .null), (.val .null)] [])
        refine Owes.by (fun _ k => XS.aloadN X10.here hx rfl (hb hby at_46) rfl rfl k) ?_
        show Owes p e below s (QL n0) room_1.cells room_1.slots T10 (mkF m 47 #[(.val (.int p0)), (.val (.int (p0.toInt8.toInt32))), (.val .null), (.val .null)] [.null])
        refine Owes.by (fun _ k => XS.aloadN X10.here hx rfl (hb hby at_47) rfl rfl k) ?_
        show Owes p e below s (QL n0) room_1.cells room_1.slots T10 (mkF m 48 #[(.val (.int p0)), (.val (.int (p0.toInt8.toInt32))), (.val .null), (.val .null)] [.null, .null])
        refine Owes.by (fun _ k => Jvm.RoadKit.acmp (g := (mkF m 48 #[(.val (.int p0)), (.val (.int (p0.toInt8.toInt32))), (.val .null), (.val .null)] [.null, .null])) X10 hx rfl rfl rfl (pc0 := 48) (pc' := 53) (same := true) rfl (hb hby at_48) rfl (decide_eq_true rfl) (by decide) (by decide) k) ?_
        show Owes p e below s (QL n0) room_1.cells room_1.slots T10 (mkF m 53 #[(.val (.int p0)), (.val (.int (p0.toInt8.toInt32))), (.val .null), (.val .null)] [])
        refine Owes.by (fun _ k => XS.aloadN X10.here hx rfl (hb hby at_53) rfl rfl k) ?_
        show Owes p e below s (QL n0) room_1.cells room_1.slots T10 (mkF m 54 #[(.val (.int p0)), (.val (.int (p0.toInt8.toInt32))), (.val .null), (.val .null)] [.null])
        refine Owes.by (fun _ k => XS.ifnullYes X10.here hx rfl (pc0 := 54) (pc' := 67) rfl (hb hby at_54) rfl (by decide) (by decide) k) ?_
        show Owes p e below s (QL n0) room_1.cells room_1.slots T10 (mkF m 67 #[(.val (.int p0)), (.val (.int (p0.toInt8.toInt32))), (.val .null), (.val .null)] [])
        refine Owes.by (fun _ k => XS.iconst X10.here hx rfl (hb hby at_67) k) ?_
        show Owes p e below s (QL n0) room_1.cells room_1.slots T10 (mkF m 68 #[(.val (.int p0)), (.val (.int (p0.toInt8.toInt32))), (.val .null), (.val .null)] [(.int (1 : Int32))])
        refine Owes.ret X10 (v := some (.int (1 : Int32))) (fun h => by rw [Bd.returns] at h; cases h) hlk ?_ (by decide) (by decide) (fun fs hr => retN X10 hx (t := .boolean) Bd.returns (by simp) (hb hby at_68) hr)
        rw [e10]
        exact ⟨rfl, N0⟩
set_option maxRecDepth 65536 in
set_option maxHeartbeats 40000000 in
theorem comes_1 {Post : Tables → Env → Array Value → State → Outcome → State → Prop} (hpost : ∀ tb e args s v u, (limb_1_1.after args s (.returned v) u = true ∧ limb_1_2.after args s (.returned v) u = true ∧ True) → FrameEnd s (.returned v) u (Jvm.fieldLocs frame_1_writes args s ++ Jvm.arrayLocs frame_1_arrays args s ++ Jvm.staticLocs frame_1_statics s) 0 0 → Post tb e args s (.returned v) u) :
    ArmFor flags0 classFile x code maxLocals ret World_1 tables_1 room_1 Calls_1 rest_1 Pre_1 Post := by
  intro l hfl _ _ p e ha hc hk s m args below hf hA hF happ hP
  obtain ⟨hcalls, hrest, hpre⟩ := hP
  obtain ⟨-, -, -, hnamed, -, -, -, hat⟩ := (Spec.applies_iff hf).mp happ
  obtain ⟨hg, hn⟩ := and_e (Cond.before_iff.mp (show (Jvm.Cond.and given_1 narrow_1).before args s = true from hpre))
  obtain ⟨hgl, hgr⟩ := and_e hg
  obtain ⟨w0, rfl⟩ : ∃ w0 : Value, args = #[w0] := by
    have hs : args.size = 1 := by simpa [Cond.value, given_1] using hgl
    obtain ⟨L⟩ := args
    match L, hs with
    | [w0], _ => exact ⟨w0, rfl⟩
  have hw := fun d (hd : d ∈ tables_1) => atoms_spec (ws := Jvm.Cond.code x code maxLocals ret :: tables_1) hat d (List.mem_cons_of_mem _ hd)
  have hfit : Fit s := fun {y c} hc i hi => by
    obtain ⟨ha, rfl⟩ := Array.getElem?_eq_some_iff.mp hc
    have q := List.all_eq_true.mp ((Array.all_eq_true_iff_forall_mem.mp hF) _ (Array.getElem_mem ha)) i (List.mem_range.mpr hi)
    simpa [Array.getElem?_eq_getElem hi] using q
  obtain ⟨i0, ei0⟩ := is_v hgr
  obtain rfl : w0 = (.int i0) := Option.some.inj ei0
  obtain ⟨hnl, hnr⟩ := and_e hn
  obtain ⟨hnrl, hnrr⟩ := and_e hnr
  obtain ⟨hnrrl, hnrrr⟩ := and_e hnrr
  obtain ⟨hnrrrl, hnrrrr⟩ := and_e hnrrr
  obtain ⟨hnrrrrl, hnrrrrr⟩ := and_e hnrrrr
  obtain ⟨hnrrrrrl, hnrrrrrr⟩ := and_e hnrrrrr
  obtain ⟨hnrrrrrrl, hnrrrrrrr⟩ := and_e hnrrrrrr
  obtain ⟨hnrrrrrrrl, hnrrrrrrrr⟩ := and_e hnrrrrrrr
  obtain ⟨hnrrrrrrrrl, hnrrrrrrrrr⟩ := and_e hnrrrrrrrr
  obtain ⟨hnrrrrrrrrrl, hnrrrrrrrrrr⟩ := and_e hnrrrrrrrrr
  obtain ⟨w_DATA, v_DATA⟩ := exa_v hnrrl
  have E_DATA := Exa.start v_DATA hnrrl
  have S_DATA := Sta.start v_DATA (Or.inr ⟨(hw _ (List.mem_of_getElem? (i := 2) rfl)), (hw _ (List.mem_of_getElem? (i := 6) rfl))⟩)
  obtain ⟨w_CONFIG, v_CONFIG⟩ := exa_v hnrrrrrl
  have E_CONFIG := Exa.start v_CONFIG hnrrrrrl
  have S_CONFIG := Sta.start v_CONFIG (Or.inr ⟨(hw _ (List.mem_of_getElem? (i := 2) rfl)), (hw _ (List.mem_of_getElem? (i := 9) rfl))⟩)
  obtain ⟨w_NOOP, v_NOOP⟩ := exa_v hnrrrrrrrrl
  have E_NOOP := Exa.start v_NOOP hnrrrrrrrrl
  have S_NOOP := Sta.start v_NOOP (Or.inr ⟨(hw _ (List.mem_of_getElem? (i := 2) rfl)), (hw _ (List.mem_of_getElem? (i := 10) rfl))⟩)
  -- hnl says: ["arrayOf", ["static", "@cf:com/example/tranche/tranche/EntryType.TYPES"], ["object", "@c:com/example/tranche/tranche/EntryType"]]
  -- hnrl says: ["eq", ["length", ["static", "@cf:com/example/tranche/tranche/EntryType.TYPES"]], ["int", 3]]
  -- hnrrrl says: ["eq", ["elem", ["static", "@cf:com/example/tranche/tranche/EntryType.TYPES"], ["int", 0]], ["static", "@cf:com/example/tranche/tranche/EntryType.DATA"]]
  have F_DATA_code := own_fld v_DATA hnrrrrl
  -- hnrrrrrrl says: ["eq", ["elem", ["static", "@cf:com/example/tranche/tranche/EntryType.TYPES"], ["int", 1]], ["static", "@cf:com/example/tranche/tranche/EntryType.CONFIG"]]
  have F_CONFIG_code := own_fld v_CONFIG hnrrrrrrrl
  -- hnrrrrrrrrrl says: ["eq", ["elem", ["static", "@cf:com/example/tranche/tranche/EntryType.TYPES"], ["int", 2]], ["static", "@cf:com/example/tranche/tranche/EntryType.NOOP"]]
  have F_NOOP_code := own_fld v_NOOP hnrrrrrrrrrr
  obtain ⟨ty, v_TYPES⟩ := arr_v hnl
  obtain ⟨cl, Ar⟩ := Arr.start v_TYPES hnl
  have S_TYPES := Sta.start v_TYPES (Or.inr ⟨(hw _ (List.mem_of_getElem? (i := 2) rfl)), (hw _ (List.mem_of_getElem? (i := 5) rfl))⟩)
  have hlen := own_len v_TYPES Ar hnrl
  have at0 := own_elem v_TYPES Ar v_DATA hnrrrl
  have at1 := own_elem v_TYPES Ar v_CONFIG hnrrrrrrl
  have at2 := own_elem v_TYPES Ar v_NOOP hnrrrrrrrrrl
  obtain ⟨n, o, h1, h2, h3, _, L, rfl, ⟨rfl, N⟩, hq⟩ := rm0 l s _ hw tables_1 i0 ty cl w_DATA w_CONFIG w_NOOP s.heap s.heap.size (Nat.le_refl _) S_TYPES Ar hlen at0 at1 at2 S_DATA S_CONFIG S_NOOP F_DATA_code F_CONFIG_code F_NOOP_code E_DATA E_CONFIG E_NOOP p e ha hc hk s m _ below hf ((Spec.applies_iff_loose hf).mp happ).1 ⟨rfl, State.Warmed39.refl s, rfl⟩ trivial
  refine ⟨n, _, h1, h2, h3, hpost _ _ _ _ _ _ ⟨Cond.after_iff.mpr rfl, Cond.after_iff.mpr (eq_i res_at (Term.int_eval (1)) rfl), trivial⟩ ⟨hq.1, hq.2.1, (hq.2.2.sift fun y hy => Or.inr (N y hy)).mono (by decide) (by decide)⟩⟩
theorem main_1_1 : Claimed_1_1 := comes_1 fun _ _ _ _ _ _ h hF => ⟨h.1, hF⟩
theorem main_1_2 : Claimed_1_2 := comes_1 fun _ _ _ _ _ _ h hF => ⟨h.2.1, hF⟩
end Jvm.Pilot.@@N@@
namespace Jvm.Pilot.@@N@@
open Jvm Jvm.ClassFile Sem Op Lib Jvm.Free Jvm.Stand Jvm.Pilot.@@N@@.Jvm.D
/-! MADE BY PROGRAM (witnessworld.py) out of the Statement's table words and the real class files: 13 classes; the members and pool entries that the words name. The judged class is class 1, her method 1. -/
namespace start1
open Jvm.ClassFile
def u (s : String) : CpInfo := .utf8 (stringToUtf16 s)
/-- a pool by its gaps: so many unusable entries, then the entry; so many at the end -/
def gap : Nat → List CpInfo → List CpInfo
  | 0, r => r
  | n + 1, r => .unusable :: gap n r
def poolList (es : List (Nat × CpInfo)) (last : Nat) : List CpInfo := es.foldr (fun e r => gap e.1 (e.2 :: r)) (gap last [])
def pool (es : List (Nat × CpInfo)) (last : Nat) : Array CpInfo := ⟨poolList es last⟩
def fileOf (pool : Array CpInfo) (this : Nat) (attrs : Array Attribute := #[]) (ms : Array MethodInfo := #[]) (fl : Nat := 33) (sup : Nat := 0) (ifs : Array Nat := #[]) (fds : Array FieldInfo := #[]) : ClassFile where
  minorVersion := 0
  majorVersion := 65
  constantPool := pool
  accessFlags := fl
  thisClass := this
  superClass := sup
  interfaces := ifs
  fields := fds
  methods := ms
  attributes := attrs
def plain (name : String) (sup : Option ClassId) : Class where
  name := name
  kind := .ordinary
  loader := none
  accessFlags := 33
  super := sup
  interfaces := #[]
  cf := none
  fields := #[]
  methods := #[]
  instanceTypes := #[]
  staticTypes := #[]
  resolved := #[]
  callSites := []
  init := .initialized
  statics := none
  mirror := none

def pool0 : Array CpInfo := pool [(5, u "<init>"), (0, u "()V"), (1, .class_ 10), (1, u "java/lang/Object")] 113

def k0m0 : Method := { name := "<init>", desc := "()V", sig := { parameters := [], returnType := none }, accessFlags := 1, code := none }
/-- java/lang/Object -/
def k0 : Class := { plain "java/lang/Object" none with
  accessFlags := 33
  interfaces := #[]
  cf := some (fileOf pool0 8 #[] #[{ accessFlags := 1, nameIndex := 5, descriptorIndex := 6, attributes := #[] }] 33 0 #[] #[])
  fields := #[]
  methods := #[k0m0]
  instanceTypes := #[]
  staticTypes := #[]
  resolved := Array.replicate 124 none
  statics := none }

def pool1 : Array CpInfo := pool [(2, .class_ 4), (1, u "java/lang/Object"), (0, u "<init>"), (0, u "()V"), (0, .methodref 8 9), (0, .class_ 10), (0, .nameAndType 11 12), (0, u "com/example/tranche/tranche/EntryType"), (0, u "forCode"), (0, u "(B)Lcom/example/tranche/tranche/EntryType;"), (0, .fieldref 8 14), (0, .nameAndType 15 16), (0, u "DATA"), (0, u "Lcom/example/tranche/tranche/EntryType;"), (0, .fieldref 8 18), (0, .nameAndType 19 16), (0, u "CONFIG"), (0, .fieldref 8 21), (0, .nameAndType 22 16), (0, u "NOOP"), (0, .methodref 8 24), (0, .nameAndType 25 26), (0, u "code"), (0, u "()B"), (0, .class_ 28), (0, u "com/example/tranche/tranche/EntryTypeForCodePinLaw"), (2, u "law"), (0, u "(I)Z")] 3

def k1m0 : Method := { name := "<init>", desc := "()V", sig := { parameters := [], returnType := none }, accessFlags := 1, code := none }
def k1c1 : Code := { maxStack := 2, maxLocals := 4, code := code, exceptionTable := #[], attributes := #[] }
def k1m1 : Method := { name := "law", desc := "(I)Z", sig := { parameters := [.int], returnType := some .boolean }, accessFlags := 9, code := some k1c1 }
/-- com/example/tranche/tranche/EntryTypeForCodePinLaw -/
def k1 : Class := { plain "com/example/tranche/tranche/EntryTypeForCodePinLaw" (some 0) with
  accessFlags := 49
  interfaces := #[]
  cf := some (fileOf pool1 27 #[] #[{ accessFlags := 1, nameIndex := 5, descriptorIndex := 6, attributes := #[] }, { accessFlags := 9, nameIndex := 31, descriptorIndex := 32, attributes := #[] }] 49 2 #[] #[])
  fields := #[]
  methods := #[k1m0, k1m1]
  instanceTypes := #[]
  staticTypes := #[]
  resolved := Array.replicate 36 none
  statics := none }

def pool2 : Array CpInfo := pool [(1, .class_ 2), (0, u "java/lang/constant/Constable"), (0, .class_ 4), (0, u "java/lang/Object")] 6

/-- java/lang/constant/Constable -/
def k2 : Class := { plain "java/lang/constant/Constable" (some 0) with
  accessFlags := 1537
  interfaces := #[]
  cf := some (fileOf pool2 1 #[] #[] 1537 3 #[] #[])
  fields := #[]
  methods := #[]
  instanceTypes := #[]
  staticTypes := #[]
  resolved := Array.replicate 11 none
  statics := none }

def pool3 : Array CpInfo := pool [(1, .class_ 2), (0, u "java/lang/Comparable"), (0, .class_ 4), (0, u "java/lang/Object")] 7

/-- java/lang/Comparable -/
def k3 : Class := { plain "java/lang/Comparable" (some 0) with
  accessFlags := 1537
  interfaces := #[]
  cf := some (fileOf pool3 1 #[] #[] 1537 3 #[] #[])
  fields := #[]
  methods := #[]
  instanceTypes := #[]
  staticTypes := #[]
  resolved := Array.replicate 12 none
  statics := none }

def pool4 : Array CpInfo := pool [(1, .class_ 2), (0, u "java/io/Serializable"), (0, .class_ 4), (0, u "java/lang/Object")] 2

/-- java/io/Serializable -/
def k4 : Class := { plain "java/io/Serializable" (some 0) with
  accessFlags := 1537
  interfaces := #[]
  cf := some (fileOf pool4 1 #[] #[] 1537 3 #[] #[])
  fields := #[]
  methods := #[]
  instanceTypes := #[]
  staticTypes := #[]
  resolved := Array.replicate 7 none
  statics := none }

def pool5 : Array CpInfo := pool [(2, .class_ 4), (1, u "java/lang/Enum"), (0, u "name"), (0, u "Ljava/lang/String;"), (2, u "ordinal"), (0, u "I"), (1, .class_ 14), (1, u "java/lang/Object"), (4, u "hash"), (86, .class_ 108), (1, u "java/lang/Enum$EnumDesc"), (2, .class_ 112), (0, u "java/lang/constant/Constable"), (0, .class_ 114), (0, u "java/lang/Comparable"), (0, .class_ 116), (0, u "java/io/Serializable")] 87

/-- java/lang/Enum -/
def k5 : Class := { plain "java/lang/Enum" (some 0) with
  accessFlags := 1057
  interfaces := #[2, 3, 4]
  cf := some (fileOf pool5 2 #[.nestMembers #[106]] #[] 1057 12 #[111, 113, 115] #[{ accessFlags := 18, nameIndex := 5, descriptorIndex := 6, attributes := #[] }, { accessFlags := 18, nameIndex := 9, descriptorIndex := 10, attributes := #[] }, { accessFlags := 2, nameIndex := 19, descriptorIndex := 10, attributes := #[] }])
  fields := #[{ name := "name", type := (.object "java/lang/String"), accessFlags := 18, slot := 0, constantValue := 0 }, { name := "ordinal", type := .int, accessFlags := 18, slot := 1, constantValue := 0 }, { name := "hash", type := .int, accessFlags := 2, slot := 2, constantValue := 0 }]
  methods := #[]
  instanceTypes := #[(.object "java/lang/String"), .int, .int]
  staticTypes := #[]
  resolved := Array.replicate 204 none
  statics := none }

def pool6 : Array CpInfo := pool [(1, .class_ 2), (0, u "com/example/tranche/tranche/EntryType"), (2, u "DATA"), (0, u "Lcom/example/tranche/tranche/EntryType;"), (2, u "CONFIG"), (2, u "NOOP"), (2, u "$VALUES"), (0, u "[Lcom/example/tranche/tranche/EntryType;"), (6, .class_ 25), (1, u "java/lang/Enum"), (8, u "streamName"), (0, u "Ljava/lang/String;"), (0, .fieldref 1 37), (0, .nameAndType 38 39), (0, u "code"), (0, u "B"), (10, .fieldref 1 51), (0, .nameAndType 52 16), (0, u "TYPES"), (23, u "()B"), (0, u "forCode"), (0, u "(B)Lcom/example/tranche/tranche/EntryType;")] 5

def k6c0 : Code := { maxStack := 1, maxLocals := 1, code := prog_12_method_6_code, exceptionTable := #[], attributes := #[] }
def k6m0 : Method := { name := "code", desc := "()B", sig := { parameters := [], returnType := some .byte }, accessFlags := 0, code := some k6c0 }
def k6c1 : Code := { maxStack := 2, maxLocals := 5, code := prog_12_method_7_code, exceptionTable := #[], attributes := #[] }
def k6m1 : Method := { name := "forCode", desc := "(B)Lcom/example/tranche/tranche/EntryType;", sig := { parameters := [.byte], returnType := some (.object "com/example/tranche/tranche/EntryType") }, accessFlags := 8, code := some k6c1 }
/-- com/example/tranche/tranche/EntryType -/
def k6 : Class := { plain "com/example/tranche/tranche/EntryType" (some 5) with
  accessFlags := 16433
  interfaces := #[]
  cf := some (fileOf pool6 1 #[] #[{ accessFlags := 0, nameIndex := 38, descriptorIndex := 76, attributes := #[] }, { accessFlags := 8, nameIndex := 77, descriptorIndex := 78, attributes := #[] }] 16433 23 #[] #[{ accessFlags := 16409, nameIndex := 5, descriptorIndex := 6, attributes := #[] }, { accessFlags := 16409, nameIndex := 9, descriptorIndex := 6, attributes := #[] }, { accessFlags := 16409, nameIndex := 12, descriptorIndex := 6, attributes := #[] }, { accessFlags := 26, nameIndex := 52, descriptorIndex := 16, attributes := #[] }, { accessFlags := 18, nameIndex := 34, descriptorIndex := 35, attributes := #[] }, { accessFlags := 18, nameIndex := 38, descriptorIndex := 39, attributes := #[] }, { accessFlags := 4122, nameIndex := 15, descriptorIndex := 16, attributes := #[] }])
  fields := #[{ name := "DATA", type := (.object "com/example/tranche/tranche/EntryType"), accessFlags := 16409, slot := 0, constantValue := 0 }, { name := "CONFIG", type := (.object "com/example/tranche/tranche/EntryType"), accessFlags := 16409, slot := 1, constantValue := 0 }, { name := "NOOP", type := (.object "com/example/tranche/tranche/EntryType"), accessFlags := 16409, slot := 2, constantValue := 0 }, { name := "TYPES", type := (.array (.object "com/example/tranche/tranche/EntryType")), accessFlags := 26, slot := 3, constantValue := 0 }, { name := "streamName", type := (.object "java/lang/String"), accessFlags := 18, slot := 3, constantValue := 0 }, { name := "code", type := .byte, accessFlags := 18, slot := 4, constantValue := 0 }, { name := "$VALUES", type := (.array (.object "com/example/tranche/tranche/EntryType")), accessFlags := 4122, slot := 4, constantValue := 0 }]
  methods := #[k6m0, k6m1]
  instanceTypes := #[(.object "java/lang/String"), .int, .int, (.object "java/lang/String"), .byte]
  staticTypes := #[(.object "com/example/tranche/tranche/EntryType"), (.object "com/example/tranche/tranche/EntryType"), (.object "com/example/tranche/tranche/EntryType"), (.array (.object "com/example/tranche/tranche/EntryType")), (.array (.object "com/example/tranche/tranche/EntryType"))]
  resolved := Array.replicate 84 none
  statics := some 0 }

def pool7 : Array CpInfo := pool [(1, u "java/lang/Cloneable"), (0, .class_ 1), (0, u "java/lang/Object"), (0, .class_ 3)] 3

/-- java/lang/Cloneable -/
def k7 : Class := { plain "java/lang/Cloneable" (some 0) with
  accessFlags := 1537
  interfaces := #[]
  cf := some (fileOf pool7 2 #[] #[] 1537 4 #[] #[])
  fields := #[]
  methods := #[]
  instanceTypes := #[]
  staticTypes := #[]
  resolved := Array.replicate 8 none
  statics := none }

/-- the primitive byte -/
def k8 : Class := { plain "byte" none with kind := .primitive 'B', accessFlags := 0x411 }
/-- [B -/
def k9 : Class := { plain "[B" (some 0) with kind := .array 8 .byte, interfaces := #[7, 4], accessFlags := 1041 }

/-- the primitive int -/
def k10 : Class := { plain "int" none with kind := .primitive 'I', accessFlags := 0x411 }
/-- [I -/
def k11 : Class := { plain "[I" (some 0) with kind := .array 10 .int, interfaces := #[7, 4], accessFlags := 1041 }

/-- [Lcom/example/tranche/tranche/EntryType; -/
def k12 : Class := { plain "[Lcom/example/tranche/tranche/EntryType;" (some 0) with kind := .array 6 (.object "com/example/tranche/tranche/EntryType"), interfaces := #[7, 4], accessFlags := 1041 }

def heap : Heap := #[{ cls := 6, slots := #[.ref 2, .ref 3, .ref 4, .ref 1, .null], vm := .statics 6 },
  { cls := 12, slots := #[.ref 2, .ref 3, .ref 4], vm := .none },
  { cls := 6, slots := #[.null, .int 0, .int 0, .null, .int 1], vm := .none },
  { cls := 6, slots := #[.null, .int 1, .int 0, .null, .int 2], vm := .none },
  { cls := 6, slots := #[.null, .int 2, .int 0, .null, .int 3], vm := .none }]
def classes : Array Class := #[k0, k1, k2, k3, k4, k5, k6, k7, k8, k9, k10, k11, k12]
def interned : List (Array UInt16 × Addr) := []
def slotsUsed : Nat := 23
def theMethod : MethodId := ⟨1, 1⟩
def args0 : Array Value := #[.int 2]
def aboutOver (below : List Frame) : State where
  vm := { classes := classes, interned := interned.toArray }
  heap := heap
  slotsUsed := slotsUsed
  threads := #[{ frames := .invoking theMethod args0 :: below }]
def below0 : List Frame := [.native { method := ⟨0, 0⟩, args := #[] }]
def about1 : State := aboutOver below0
def p0 : Program := .bare "" "" ""
def e0 : Env := launch0.env 0 0 0
theorem w_frames : about1.frames = Frame.invoking theMethod args0 :: below0 := rfl
set_option maxRecDepth 65536 in
theorem w_args : argsFit about1.vm theMethod args0 = true := by decide +kernel
set_option maxRecDepth 65536 in
theorem w_heap : heapFits about1 = true := by decide +kernel
set_option maxRecDepth 65536 in
theorem w_runnable : about1.curStatus? = some .runnable := by decide +kernel
set_option maxRecDepth 65536 in
theorem w_alone : about1.alone = true := by decide +kernel
set_option maxRecDepth 65536 in
theorem w_named : about1.methodNamed? x = some theMethod := by decide +kernel
set_option maxRecDepth 65536 in
theorem w_hears : about1.hears theMethod below0 = true := by decide +kernel
set_option maxRecDepth 65536 in
theorem w_ripe : about1.ripe theMethod args0 below0 = true := by decide +kernel
theorem w_running : about1.status = .running := rfl
set_option maxRecDepth 65536 in
theorem w_room : about1.hasRoom e0.platform room_1 = true :=
  launch0.hasRoom_least _ room_1 (by decide +kernel) (by decide +kernel) (by decide +kernel) (by decide +kernel) (by decide +kernel) (by decide +kernel)
theorem allAtoms_all (ts : List Jvm.Cond) (a : Array Jvm.Value) (st : Jvm.State) : (allAtoms ts).before a st = ts.all (fun c => c.before a st) := by
  induction ts with
  | nil => rfl
  | cons c t ih =>
    show (Jvm.Cond.and c (allAtoms t)).before a st = _
    rw [Jvm.Cond.before_and, ih, List.all_cons]
def words1 : List Jvm.Cond := Jvm.Cond.code x code maxLocals ret :: tables_1
/-- a 'code' word, met by the world's own term for the bytes: nothing is compared byte by byte -/
theorem code_word {y : MethodName} {bytes : ByteArray} {mx : Nat} {rt : Option FieldType} {a : Array Value} {s : State} {m : MethodId} {meth : Method} {c : Code} (h1 : s.methodNamed? y = some m) (h2 : s.vm.method? m = some meth) (h3 : meth.code = some c) (h4 : c.code = bytes)
    (h5 : (c.maxLocals == mx && c.exceptionTable.isEmpty && decide (c.maxStack ≤ mostOperands) && decide (meth.sig.returnType = rt) && !meth.locks && decide (parseMethodDescriptor y.desc = some meth.sig)) = true) : (Jvm.Cond.code y bytes mx rt).before a s = true := by
  simp only [Bool.and_eq_true, beq_iff_eq, Bool.not_eq_true', decide_eq_true_eq] at h5
  obtain ⟨⟨⟨⟨⟨g1, g2⟩, g3⟩, g4⟩, g5⟩, g6⟩ := h5
  simp [Cond.before, Cond.holds, Cond.value, h1, h2, h3, h4, g1, g2, g3, g4, g5, g6]
def isCode : Jvm.Cond → Bool
  | .code _ _ _ _ => true
  | _ => false
theorem all_split {L : List Jvm.Cond} {P : Jvm.Cond → Bool} (h1 : L.all (fun c => isCode c || P c) = true) (h2 : ∀ c ∈ L.filter isCode, P c = true) : L.all P = true := by
  refine List.all_eq_true.mpr fun c hc => ?_
  have h := List.all_eq_true.mp h1 c hc
  rcases Bool.eq_false_or_eq_true (isCode c) with hi | hi
  · exact h2 c (List.mem_filter.mpr ⟨hc, hi⟩)
  · simpa [hi] using h
set_option maxRecDepth 65536 in
theorem w_c0 : (Jvm.Cond.code x code maxLocals ret).before args0 about1 = true := code_word (m := ⟨1, 1⟩) (meth := k1m1) (c := k1c1) (by decide +kernel) rfl rfl rfl (by decide +kernel)
set_option maxRecDepth 65536 in
theorem w_c1 : (Jvm.Cond.code ({ cls := "com/example/tranche/tranche/EntryType", name := "forCode", desc := "(B)Lcom/example/tranche/tranche/EntryType;" } : Jvm.MethodName) prog_12_method_7_code (5 : Nat) (Option.some (Jvm.ClassFile.FieldType.object "com/example/tranche/tranche/EntryType"))).before args0 about1 = true := code_word (m := ⟨6, 1⟩) (meth := k6m1) (c := k6c1) (by decide +kernel) rfl rfl rfl (by decide +kernel)
set_option maxRecDepth 65536 in
theorem w_c2 : (Jvm.Cond.code ({ cls := "com/example/tranche/tranche/EntryType", name := "code", desc := "()B" } : Jvm.MethodName) prog_12_method_6_code (1 : Nat) (Option.some Jvm.ClassFile.FieldType.byte)).before args0 about1 = true := code_word (m := ⟨6, 0⟩) (meth := k6m0) (c := k6c0) (by decide +kernel) rfl rfl rfl (by decide +kernel)
def codes1 : List Jvm.Cond := [Jvm.Cond.code x code maxLocals ret, Jvm.Cond.code ({ cls := "com/example/tranche/tranche/EntryType", name := "forCode", desc := "(B)Lcom/example/tranche/tranche/EntryType;" } : Jvm.MethodName) prog_12_method_7_code (5 : Nat) (Option.some (Jvm.ClassFile.FieldType.object "com/example/tranche/tranche/EntryType")), Jvm.Cond.code ({ cls := "com/example/tranche/tranche/EntryType", name := "code", desc := "()B" } : Jvm.MethodName) prog_12_method_6_code (1 : Nat) (Option.some Jvm.ClassFile.FieldType.byte)]
set_option maxRecDepth 65536 in
theorem codes_eq : words1.filter isCode = codes1 := rfl
theorem w_codes : ∀ c ∈ words1.filter isCode, c.before args0 about1 = true := by
  rw [codes_eq]
  intro c hc
  simp only [codes1, List.mem_cons, List.not_mem_nil, or_false] at hc
  rcases hc with rfl | rfl | rfl
  · exact w_c0
  · exact w_c1
  · exact w_c2
set_option maxRecDepth 65536 in
theorem w_t1 : words1.all (fun c => isCode c || c.before args0 about1) = true := by decide +kernel
theorem w_tables : (allAtoms (Jvm.Cond.code x code maxLocals ret :: tables_1)).before args0 about1 = true := by
  rw [allAtoms_all]
  show words1.all (fun c => c.before args0 about1) = true
  refine all_split ?_ w_codes
  rw [w_t1]
set_option maxRecDepth 65536 in
theorem w_case : (Jvm.Cond.and given_1 narrow_1).before args0 about1 = true := by decide +kernel
theorem w_applies : (headSpec (Jvm.Cond.code x code maxLocals ret :: tables_1) room_1).applies x e0.platform about1 = true :=
  (Spec.applies_iff w_frames).mpr ⟨w_running, w_runnable, w_alone, w_named, w_hears, w_ripe, w_room, w_tables⟩
theorem atStart : AtStart classFile x code maxLocals ret World_1 tables_1 room_1 Calls_1 rest_1 Pre_1 launch0 p0 e0 about1 theMethod args0 below0 :=
  ⟨lists_1, trivial, launch0.admits_env _ _ _, launch0.least_env, fairChoices_fair.cas, fairChoices_fair.clock, w_frames, w_args, w_heap, w_applies, trivial, trivial, w_case⟩
end start1
theorem witness_1 : WitnessClaimed_1 := ⟨start1.p0, start1.e0, start1.about1, start1.theMethod, start1.args0, start1.below0, start1.atStart⟩
end Jvm.Pilot.@@N@@
