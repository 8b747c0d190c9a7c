import JvmDerived
import JvmDerived.Pilot.@@N@@Statement
import JvmDerived.Pilot.@@N@@Code
set_option linter.unusedVariables false
set_option linter.unusedSimpArgs false
namespace Jvm.Pilot.@@N@@
open Jvm Jvm.ClassFile Sem Op Lib Jvm.Free Jvm.Stand Jvm.LawKit Jvm.RoadKit Bundle Jvm.Pilot.@@N@@.Jvm.D
section Own
variable {p : Program} {l : Launch} {e : Env} {R : Room} {s : State} {m : MethodId} {args : Array Value} {below : List Frame} {meth : Method} {c : Code} {T T' : State} {locs : List Loc} {cells slots : Nat}
/-- what a walk owes from where it stands: it comes back, with what Q says -/
def Owes (p : Program) (e : Env) (below : List Frame) (s : State) (Q : Option Value → Heap → List Loc → Prop) (k n : Nat) (T : State) (f : JFrame) : Prop :=
  ∃ s₂ o, Steps p.tables e below (T.setTop f) s₂ ∧ s₂.status = .running ∧ Ended s₂ below o ∧ ∃ v L, o = .returned v ∧ Q v s₂.heap L ∧ FrameEnd s o s₂ L k n
theorem Owes.by {Q : Option Value → Heap → List Loc → Prop} {k n : Nat} {f f' : JFrame} (st : ∀ t, Steps p.tables e below (T'.setTop f') t → Steps p.tables e below (T.setTop f) t) (h : Owes p e below s Q k n T' f') : Owes p e below s Q k n T f := by
  obtain ⟨s₂, o, h1, h2⟩ := h
  exact ⟨s₂, o, st _ h1, h2⟩
theorem Owes.ret {Q : Option Value → Heap → List Loc → Prop} {k n : Nat} {f : JFrame} (X : Stand p l e R s m args below meth c T locs cells slots) {v : Option Value} (hv : meth.sig.returnType = none → v = none) (hlk : meth.locks = false)
    (hQ : Q v T.heap locs) (hk : cells ≤ k) (hn : slots ≤ n) (st : ∀ fs, (∀ (f : JFrame) (acts : List Action), f.method = m → f.locked = none → f.entered = [] → (doReturn e (T.setTop f) acts v).1 = T.setFrames fs) → Steps p.tables e below (T.setTop f) (T.setFrames fs)) : Owes p e below s Q k n T f := by
  obtain ⟨fs, hr, hrun, hended, hW, hsame⟩ := X.leave (v := v) hv hlk
  exact ⟨_, _, st fs hr, hrun, hended, _, _, rfl, hQ, ⟨_, rfl⟩, hW, hsame.mono hk hn⟩
/-- a join point: what holds wherever the walk stands again with the same heap -/
theorem own_join {h : Heap} {G : State → Prop} {P : Prop} (X : Stand p l e R s m args below meth c T locs cells slots) (J : ∀ T', Stand p l e R s m args below meth c T' locs cells slots → T'.heap = h → G T')
    (k : (∀ T', Stand p l e R s m args below meth c T' locs cells slots → T'.heap = h → G T') → P) : P := k J
end Own
/-- it writes nothing, makes nothing, and hands back w -/
def Qv (w : Option Value) (h0 : Heap) (n0 : Nat) (v : Option Value) (h : Heap) (L : List Loc) : Prop := v = w ∧ L = [] ∧ h = h0
def QL (n0 : Nat) (v : Option Value) (h : Heap) (L : List Loc) : Prop := v = some (.int (1 : Int32)) ∧ Fr n0 L
section Words
variable {Z : State} {args : Array Value} {t : Term} {C n d : String} {a : Addr}
theorem own_fld {k : Int32} (ht : t.eval args Z none [] Z = some (.ref a)) (h : (Cond.eq (Term.field t C n d) (Term.int k)).value args Z none Z [] = some true) : Fld Z Z.heap a C n d (.int k) := by
  obtain ⟨x, y, hx, hy, h1, -⟩ := cmp_v (Or.inl h)
  obtain rfl : y = .int k := (Option.some.inj ((Term.int_eval k).symm.trans hy)).symm
  have hx' : Z.fieldOf? a C n d = some x := (fld_at ht).symm.trans hx
  cases x <;> simp [Kin, Value.isRef] at h1
  rename_i z
  have e : z = k := by simpa [Cond.value, hx, hy] using h
  subst e
  exact Fld.start hx'
theorem own_fldL {k : Int64} (ht : t.eval args Z none [] Z = some (.ref a)) (h : (Cond.eq (Term.field t C n d) (Term.long k)).value args Z none Z [] = some true) : Fld Z Z.heap a C n d (.long k) := by
  obtain ⟨x, y, hx, hy, h1, -⟩ := cmp_v (Or.inl h)
  obtain rfl : y = .long k := (Option.some.inj ((long_at k).symm.trans hy)).symm
  have hx' : Z.fieldOf? a C n d = some x := (fld_at ht).symm.trans hx
  cases x <;> simp [Kin, Value.isRef] at h1
  rename_i z
  have e : z = k := by simpa [Cond.value, hx, hy] using h
  subst e
  exact Fld.start hx'
theorem own_len {k : Int32} {cl : Cell} {ty : FieldType} (ht : t.eval args Z none [] Z = some (.ref a)) (A : Arr Z Z.heap a cl ty) (h : (Cond.eq (Term.length t) (Term.int k)).value args Z none Z [] = some true) : cl.slots.size.toInt32 = k := by
  obtain ⟨x, y, hx, hy, -, -⟩ := cmp_v (Or.inl h)
  obtain ⟨a', cell, e1, e2, rfl⟩ := Term.length_spec hx
  cases ht.symm.trans e1
  obtain rfl : y = .int k := (Option.some.inj ((Term.int_eval k).symm.trans hy)).symm
  cases A.1.symm.trans (State.arrayAt?_spec e2).1
  simpa [Cond.value, hx, hy] using h
theorem own_elem {k : Int32} {cl : Cell} {ty : FieldType} {u : Term} {w : Addr} (ht : t.eval args Z none [] Z = some (.ref a)) (A : Arr Z Z.heap a cl ty) (hu : u.eval args Z none [] Z = some (.ref w)) (h : (Cond.eq (Term.elem t (Term.int k)) u).value args Z none Z [] = some true) :
    ¬ (k < 0 ∨ cl.slots.size ≤ k.toNatClampNeg) ∧ cl.slots[k.toNatClampNeg]? = some (.ref w) := by
  obtain ⟨x, y, hx, hy, h1, -⟩ := cmp_v (Or.inl h)
  obtain rfl : y = .ref w := (Option.some.inj (hu.symm.trans hy)).symm
  obtain ⟨cell, e1, e2, e3⟩ := Jvm.Lib.elem_at hx ht (Term.int_eval k)
  cases A.1.symm.trans e1
  refine ⟨e2, ?_⟩
  cases x <;> simp [Kin, Value.isRef] at h1
  · simp [Cond.value, hx, hy] at h
  · rename_i z
    have e : z = w := by simpa [Cond.value, hx, hy] using h
    rw [e3, e]
end Words
theorem pn_ApiKey : plainName "com/example/kittiwake/kittiwake/wire/ApiKey" = true := by first | (simp [plainName, overriddenIn]; done) | decide +kernel
theorem d1_0 : decode prog_101_method_8_code 0 = .ok (.iload_n 1, 1) := by decide +kernel
theorem d1_1 : decode prog_101_method_8_code 1 = .ok (.aload_n 0, 1) := by decide +kernel
theorem d1_2 : decode prog_101_method_8_code 2 = .ok (.getfield 72, 3) := by decide +kernel
theorem d1_5 : decode prog_101_method_8_code 5 = .ok (.if_icmp .lt 15, 3) := by decide +kernel
theorem d1_20 : decode prog_101_method_8_code 20 = .ok (.iconst 0, 1) := by decide +kernel
theorem d1_21 : decode prog_101_method_8_code 21 = .ok (.ireturn, 1) := by decide +kernel
theorem d1_8 : decode prog_101_method_8_code 8 = .ok (.iload_n 1, 1) := by decide +kernel
theorem d1_9 : decode prog_101_method_8_code 9 = .ok (.aload_n 0, 1) := by decide +kernel
theorem d1_10 : decode prog_101_method_8_code 10 = .ok (.getfield 75, 3) := by decide +kernel
theorem d1_13 : decode prog_101_method_8_code 13 = .ok (.if_icmp .gt 7, 3) := by decide +kernel
theorem d1_16 : decode prog_101_method_8_code 16 = .ok (.iconst 1, 1) := by decide +kernel
theorem d1_17 : decode prog_101_method_8_code 17 = .ok (.goto 4, 3) := by decide +kernel
theorem pn_ApiKeyServesPinLaw : plainName "com/example/kittiwake/kittiwake/wire/ApiKeyServesPinLaw" = true := by first | (simp [plainName, overriddenIn]; done) | decide +kernel
theorem pd_S_Z : parseMethodDescriptor "(S)Z" = some ⟨[.short], some .boolean⟩ := by decide +kernel
theorem own_tn0 : (0 : Int32).toNatClampNeg = 0 := by decide
theorem own_tn1 : (1 : Int32).toNatClampNeg = 1 := by decide
theorem own_tn2 : (2 : Int32).toNatClampNeg = 2 := by decide
theorem own_tn3 : (3 : Int32).toNatClampNeg = 3 := by decide
theorem own_tn4 : (4 : Int32).toNatClampNeg = 4 := by decide
theorem own_tn5 : (5 : Int32).toNatClampNeg = 5 := by decide
theorem own_tn6 : (6 : Int32).toNatClampNeg = 6 := by decide
theorem own_tn7 : (7 : Int32).toNatClampNeg = 7 := by decide
theorem own_tn8 : (8 : Int32).toNatClampNeg = 8 := by decide
theorem own_tn9 : (9 : Int32).toNatClampNeg = 9 := by decide
theorem own_tn10 : (10 : Int32).toNatClampNeg = 10 := by decide
theorem own_tn11 : (11 : Int32).toNatClampNeg = 11 := by decide
theorem own_tn12 : (12 : Int32).toNatClampNeg = 12 := by decide
theorem own_tn13 : (13 : Int32).toNatClampNeg = 13 := by decide
theorem own_tn14 : (14 : Int32).toNatClampNeg = 14 := by decide
theorem own_and_nn (x : Int32) : 0 ≤ (x &&& (2147483647 : Int32)).toInt := by
  have h : (x &&& (2147483647 : Int32)).toBitVec.msb = false := by
    rw [Int32.toBitVec_and, BitVec.msb_and]; simp; intro; decide
  rw [← Int32.toInt_toBitVec]
  exact BitVec.toInt_nonneg_of_msb_false h
theorem own_mod_b (x n : Int32) (hn : 0 < n.toInt) : 0 ≤ ((x &&& (2147483647 : Int32)) % n).toInt ∧ ((x &&& (2147483647 : Int32)) % n).toInt < n.toInt := by
  rw [Int32.toInt_mod]
  exact ⟨Int.tmod_nonneg _ (own_and_nn x), Int.tmod_lt_of_pos _ hn⟩
theorem own_mod15 (x : Int32) : (x &&& (2147483647 : Int32)) % (15 : Int32) = 0 ∨ (x &&& (2147483647 : Int32)) % (15 : Int32) = 1 ∨ (x &&& (2147483647 : Int32)) % (15 : Int32) = 2 ∨ (x &&& (2147483647 : Int32)) % (15 : Int32) = 3 ∨ (x &&& (2147483647 : Int32)) % (15 : Int32) = 4 ∨ (x &&& (2147483647 : Int32)) % (15 : Int32) = 5 ∨ (x &&& (2147483647 : Int32)) % (15 : Int32) = 6 ∨ (x &&& (2147483647 : Int32)) % (15 : Int32) = 7 ∨ (x &&& (2147483647 : Int32)) % (15 : Int32) = 8 ∨ (x &&& (2147483647 : Int32)) % (15 : Int32) = 9 ∨ (x &&& (2147483647 : Int32)) % (15 : Int32) = 10 ∨ (x &&& (2147483647 : Int32)) % (15 : Int32) = 11 ∨ (x &&& (2147483647 : Int32)) % (15 : Int32) = 12 ∨ (x &&& (2147483647 : Int32)) % (15 : Int32) = 13 ∨ (x &&& (2147483647 : Int32)) % (15 : Int32) = 14 := by
  obtain ⟨h1, h2⟩ := own_mod_b x 15 (by decide)
  generalize (x &&& (2147483647 : Int32)) % (15 : Int32) = k at *
  have h3 : (15 : Int32).toInt = 15 := by decide
  rw [h3] at h2
  simp only [← Int32.toInt_inj]
  simp +decide
  omega
theorem own_ext {h h' : Heap} (K : Keep h h' []) : Ext h h' := ⟨K.1, fun x c q => K.2.1 x c q nin0⟩
theorem own_extT {h0 h h' : Heap} (E : Ext h0 h) (E' : Ext h h') : Ext h0 h' := ⟨Nat.le_trans E.1 E'.1, fun x c q => E'.2 x c (E.2 x c q)⟩
theorem own_extWr {h0 h h' : Heap} {a : Addr} {sl : Nat} {v : Value} (E : Ext h0 h) (W : Wr h h' a sl v) (q : h0.size ≤ a) : Ext h0 h' := own_ext (((Keep.refl h0 []).ext E).wr W (Or.inr q))
theorem own_gen {p : Program} {l : Launch} {e : Env} {R : Room} {s : State} {m : MethodId} {args : Array Value} {below : List Frame} {meth : Method} {c : Code} {T : State} {locs : List Loc} {cells slots n0 : Nat} {P : Prop} (X : Stand p l e R s m args below meth c T locs cells slots) (N : Fr n0 locs)
    (k : ∀ LL, Stand p l e R s m args below meth c T LL cells slots → Fr n0 LL → P) : P := k locs X N

theorem ef_rmS (m : MethodId) (x0 : Addr) (x1 : Int32) : entryFrame m #[(.ref x0), (.int x1)] 2 = mkF m 0 #[(.val (.ref x0)), (.val (.int x1))] [] := by first | (simp [entryFrame, mkF, argsToLocals, Value.category]; done) | rfl
set_option maxRecDepth 65536 in
set_option maxHeartbeats 40000000 in
theorem rmS (l : Launch) (Z : State) (a0 : Array Value) (hw : ∀ d ∈ tables_1, d.before a0 Z = true) (ws : List Jvm.Cond) (a : Addr) (x lo hi r : Int32) (h0 : Heap) (n0 : Nat) (Z0 : n0 ≤ h0.size) (F : Fld Z h0 a "com/example/kittiwake/kittiwake/wire/ApiKey" "minVersion" "S" (.int lo)) (G : Fld Z h0 a "com/example/kittiwake/kittiwake/wire/ApiKey" "maxVersion" "S" (.int hi)) (hr : (if x < lo then (0 : Int32) else if hi < x then 0 else 1) = r) :
    MetFree l (⟨"com/example/kittiwake/kittiwake/wire/ApiKey", "serves", "(S)Z"⟩ : MethodName) (head1 (Jvm.Cond.code (⟨"com/example/kittiwake/kittiwake/wire/ApiKey", "serves", "(S)Z"⟩ : MethodName) prog_101_method_8_code 2 (some .boolean) :: ws) ({ frames := 0, cells := 0, slots := 0, locals := 0 } : Room)) (fun aa UU => aa = #[(.ref a), (.int x)] ∧ Z.Warmed39 UU.vm ∧ UU.heap = h0) (fun _ _ _ _ _ => True) (fun _ UU oo UU' => ∃ vr Lr, oo = .returned vr ∧ (Qv (some (.int r)) h0 n0) vr UU'.heap Lr ∧ FrameEnd UU oo UU' Lr ({ frames := 0, cells := 0, slots := 0, locals := 0 } : Room).cells ({ frames := 0, cells := 0, slots := 0, locals := 0 } : Room).slots) := by
  refine MetFree.of_bodySF (plainFor_of_name pn_ApiKey) hisR ?_
  intro p e s m args below meth c s₁ Bd hml0 hP hK
  obtain ⟨rfl, hZ, hh⟩ := hP
  have hx := Bd.exec
  have hby := Bd.bytes
  have hml : c.maxLocals = 2 := hml0
  have hown : s.vm.findClass "com/example/kittiwake/kittiwake/wire/ApiKey" = some m.cls := findClass_of_methodNamed Bd.named
  have hnm := (name_of_methodNamed Bd.named Bd.method).1
  have hlk := Bd.notSynchronized
  have X0 : Stand p l e ({ frames := 0, cells := 0, slots := 0, locals := 0 } : Room) s m #[(.ref a), (.int x)] below meth c s₁ [] 0 0 := Stand.of_body Bd
  have e0 : s₁.heap = h0 := by rw [← hh, Bd.state]; rfl
  have N0 := Fr.nil n0
  show Owes p e below s (Qv (some (.int r)) h0 n0) ({ frames := 0, cells := 0, slots := 0, locals := 0 } : Room).cells ({ frames := 0, cells := 0, slots := 0, locals := 0 } : Room).slots s₁ (entryFrame m #[(.ref a), (.int x)] 2)
  rw [ef_rmS m a x]
  show Owes p e below s (Qv (some (.int r)) h0 n0) ({ frames := 0, cells := 0, slots := 0, locals := 0 } : Room).cells ({ frames := 0, cells := 0, slots := 0, locals := 0 } : Room).slots s₁ (mkF m 0 #[(.val (.ref a)), (.val (.int x))] [])
  refine Owes.by (fun _ kq => XS.iloadN X0.here hx rfl (hb hby d1_0) rfl kq) ?_
  show Owes p e below s (Qv (some (.int r)) h0 n0) ({ frames := 0, cells := 0, slots := 0, locals := 0 } : Room).cells ({ frames := 0, cells := 0, slots := 0, locals := 0 } : Room).slots s₁ (mkF m 1 #[(.val (.ref a)), (.val (.int x))] [(.int x)])
  refine Owes.by (fun _ kq => XS.aloadN X0.here hx rfl (hb hby d1_1) rfl rfl kq) ?_
  show Owes p e below s (Qv (some (.int r)) h0 n0) ({ frames := 0, cells := 0, slots := 0, locals := 0 } : Room).cells ({ frames := 0, cells := 0, slots := 0, locals := 0 } : Room).slots s₁ (mkF m 2 #[(.val (.ref a)), (.val (.int x))] [(.ref a), (.int x)])
  obtain ⟨T1, X1, e1, st1⟩ := getF X0 hx hZ hown (host := "") (Or.inl (hw _ (List.mem_of_getElem? (i := 41) rfl))) Via.refl e0 F (g := (mkF m 2 #[(.val (.ref a)), (.val (.int x))] [(.ref a), (.int x)])) rfl rfl (hb hby d1_2)
  refine Owes.by st1 ?_
  show Owes p e below s (Qv (some (.int r)) h0 n0) ({ frames := 0, cells := 0, slots := 0, locals := 0 } : Room).cells ({ frames := 0, cells := 0, slots := 0, locals := 0 } : Room).slots T1 (mkF m 5 #[(.val (.ref a)), (.val (.int x))] [(.int lo), (.int x)])
  by_cases q0 : x < lo
  · skip
    refine Owes.by (fun _ kq => XS.icmpYes X1.here hx rfl (pc0 := 5) (pc' := 20) rfl (hb hby d1_5) rfl (XT.ii_lt_t q0) (by decide) (by decide) kq) ?_
    show Owes p e below s (Qv (some (.int r)) h0 n0) ({ frames := 0, cells := 0, slots := 0, locals := 0 } : Room).cells ({ frames := 0, cells := 0, slots := 0, locals := 0 } : Room).slots T1 (mkF m 20 #[(.val (.ref a)), (.val (.int x))] [])
    refine Owes.by (fun _ kq => XS.iconst X1.here hx rfl (hb hby d1_20) kq) ?_
    show Owes p e below s (Qv (some (.int r)) h0 n0) ({ frames := 0, cells := 0, slots := 0, locals := 0 } : Room).cells ({ frames := 0, cells := 0, slots := 0, locals := 0 } : Room).slots T1 (mkF m 21 #[(.val (.ref a)), (.val (.int x))] [(.int (0 : Int32))])
    refine Owes.ret X1 (v := some (.int (0 : Int32))) (fun h => by rw [Bd.returns] at h; cases h) hlk ?_ (by decide) (by decide) (fun fs hr => retN X1 hx (t := .boolean) Bd.returns (by simp) (hb hby d1_21) hr)
    rw [e1]
    exact ⟨by rw [← hr, if_pos q0], rfl, rfl⟩
  · skip
    refine Owes.by (fun _ kq => XS.icmpNo X1.here hx rfl (hb hby d1_5) rfl (XT.ii_lt_f q0) kq) ?_
    show Owes p e below s (Qv (some (.int r)) h0 n0) ({ frames := 0, cells := 0, slots := 0, locals := 0 } : Room).cells ({ frames := 0, cells := 0, slots := 0, locals := 0 } : Room).slots T1 (mkF m 8 #[(.val (.ref a)), (.val (.int x))] [])
    refine Owes.by (fun _ kq => XS.iloadN X1.here hx rfl (hb hby d1_8) rfl kq) ?_
    show Owes p e below s (Qv (some (.int r)) h0 n0) ({ frames := 0, cells := 0, slots := 0, locals := 0 } : Room).cells ({ frames := 0, cells := 0, slots := 0, locals := 0 } : Room).slots T1 (mkF m 9 #[(.val (.ref a)), (.val (.int x))] [(.int x)])
    refine Owes.by (fun _ kq => XS.aloadN X1.here hx rfl (hb hby d1_9) rfl rfl kq) ?_
    show Owes p e below s (Qv (some (.int r)) h0 n0) ({ frames := 0, cells := 0, slots := 0, locals := 0 } : Room).cells ({ frames := 0, cells := 0, slots := 0, locals := 0 } : Room).slots T1 (mkF m 10 #[(.val (.ref a)), (.val (.int x))] [(.ref a), (.int x)])
    obtain ⟨T2, X2, e2, st2⟩ := getF X1 hx hZ hown (host := "") (Or.inl (hw _ (List.mem_of_getElem? (i := 43) rfl))) Via.refl e1 G (g := (mkF m 10 #[(.val (.ref a)), (.val (.int x))] [(.ref a), (.int x)])) rfl rfl (hb hby d1_10)
    refine Owes.by st2 ?_
    show Owes p e below s (Qv (some (.int r)) h0 n0) ({ frames := 0, cells := 0, slots := 0, locals := 0 } : Room).cells ({ frames := 0, cells := 0, slots := 0, locals := 0 } : Room).slots T2 (mkF m 13 #[(.val (.ref a)), (.val (.int x))] [(.int hi), (.int x)])
    by_cases q1 : hi < x
    · skip
      refine Owes.by (fun _ kq => XS.icmpYes X2.here hx rfl (pc0 := 13) (pc' := 20) rfl (hb hby d1_13) rfl (XT.ii_gt_t q1) (by decide) (by decide) kq) ?_
      show Owes p e below s (Qv (some (.int r)) h0 n0) ({ frames := 0, cells := 0, slots := 0, locals := 0 } : Room).cells ({ frames := 0, cells := 0, slots := 0, locals := 0 } : Room).slots T2 (mkF m 20 #[(.val (.ref a)), (.val (.int x))] [])
      refine Owes.by (fun _ kq => XS.iconst X2.here hx rfl (hb hby d1_20) kq) ?_
      show Owes p e below s (Qv (some (.int r)) h0 n0) ({ frames := 0, cells := 0, slots := 0, locals := 0 } : Room).cells ({ frames := 0, cells := 0, slots := 0, locals := 0 } : Room).slots T2 (mkF m 21 #[(.val (.ref a)), (.val (.int x))] [(.int (0 : Int32))])
      refine Owes.ret X2 (v := some (.int (0 : Int32))) (fun h => by rw [Bd.returns] at h; cases h) hlk ?_ (by decide) (by decide) (fun fs hr => retN X2 hx (t := .boolean) Bd.returns (by simp) (hb hby d1_21) hr)
      rw [e2]
      exact ⟨by rw [← hr, if_neg q0, if_pos q1], rfl, rfl⟩
    · skip
      refine Owes.by (fun _ kq => XS.icmpNo X2.here hx rfl (hb hby d1_13) rfl (XT.ii_gt_f q1) kq) ?_
      show Owes p e below s (Qv (some (.int r)) h0 n0) ({ frames := 0, cells := 0, slots := 0, locals := 0 } : Room).cells ({ frames := 0, cells := 0, slots := 0, locals := 0 } : Room).slots T2 (mkF m 16 #[(.val (.ref a)), (.val (.int x))] [])
      refine Owes.by (fun _ kq => XS.iconst X2.here hx rfl (hb hby d1_16) kq) ?_
      show Owes p e below s (Qv (some (.int r)) h0 n0) ({ frames := 0, cells := 0, slots := 0, locals := 0 } : Room).cells ({ frames := 0, cells := 0, slots := 0, locals := 0 } : Room).slots T2 (mkF m 17 #[(.val (.ref a)), (.val (.int x))] [(.int (1 : Int32))])
      refine Owes.by (fun _ kq => XS.goto X2.here hx rfl (pc0 := 17) (pc' := 21) rfl (hb hby d1_17) (by decide) (by decide) kq) ?_
      show Owes p e below s (Qv (some (.int r)) h0 n0) ({ frames := 0, cells := 0, slots := 0, locals := 0 } : Room).cells ({ frames := 0, cells := 0, slots := 0, locals := 0 } : Room).slots T2 (mkF m 21 #[(.val (.ref a)), (.val (.int x))] [(.int (1 : Int32))])
      refine Owes.ret X2 (v := some (.int (1 : Int32))) (fun h => by rw [Bd.returns] at h; cases h) hlk ?_ (by decide) (by decide) (fun fs hr => retN X2 hx (t := .boolean) Bd.returns (by simp) (hb hby d1_21) hr)
      rw [e2]
      exact ⟨by rw [← hr, if_neg q0, if_neg q1], rfl, rfl⟩
theorem ef_rm0 (m : MethodId) (x0 : Int32) (x1 : Int32) (x2 : Int32) : entryFrame m #[(.int x0), (.int x1), (.int x2)] maxLocals = mkF m 0 #[(.val (.int x0)), (.val (.int x1)), (.val (.int x2)), .unset, .unset, .unset, .unset, .unset, .unset, .unset] [] := by first | (simp [entryFrame, mkF, argsToLocals, Value.category, maxLocals]; done) | rfl
set_option maxRecDepth 65536 in
set_option maxHeartbeats 40000000 in
theorem rm0 (l : Launch) (Z : State) (a0 : Array Value) (hw : ∀ d ∈ tables_1, d.before a0 Z = true) (ws : List Jvm.Cond) (p0 p1 p2 : Int32) (w_PRODUCE w_FETCH w_LIST_OFFSETS w_METADATA w_OFFSET_COMMIT w_OFFSET_FETCH w_FIND_COORDINATOR w_JOIN_GROUP w_HEARTBEAT w_LEAVE_GROUP w_SYNC_GROUP w_API_VERSIONS w_CREATE_TOPICS w_DELETE_TOPICS w_INIT_PRODUCER_ID : Addr) (h0 : Heap) (n0 : Nat) (Z0 : n0 ≤ h0.size) (S_PRODUCE : Sta Z h0 "com/example/kittiwake/kittiwake/wire/ApiKey" "PRODUCE" "Lcom/example/kittiwake/kittiwake/wire/ApiKey;" (.ref w_PRODUCE)) (S_FETCH : Sta Z h0 "com/example/kittiwake/kittiwake/wire/ApiKey" "FETCH" "Lcom/example/kittiwake/kittiwake/wire/ApiKey;" (.ref w_FETCH)) (S_LIST_OFFSETS : Sta Z h0 "com/example/kittiwake/kittiwake/wire/ApiKey" "LIST_OFFSETS" "Lcom/example/kittiwake/kittiwake/wire/ApiKey;" (.ref w_LIST_OFFSETS)) (S_METADATA : Sta Z h0 "com/example/kittiwake/kittiwake/wire/ApiKey" "METADATA" "Lcom/example/kittiwake/kittiwake/wire/ApiKey;" (.ref w_METADATA)) (S_OFFSET_COMMIT : Sta Z h0 "com/example/kittiwake/kittiwake/wire/ApiKey" "OFFSET_COMMIT" "Lcom/example/kittiwake/kittiwake/wire/ApiKey;" (.ref w_OFFSET_COMMIT)) (S_OFFSET_FETCH : Sta Z h0 "com/example/kittiwake/kittiwake/wire/ApiKey" "OFFSET_FETCH" "Lcom/example/kittiwake/kittiwake/wire/ApiKey;" (.ref w_OFFSET_FETCH)) (S_FIND_COORDINATOR : Sta Z h0 "com/example/kittiwake/kittiwake/wire/ApiKey" "FIND_COORDINATOR" "Lcom/example/kittiwake/kittiwake/wire/ApiKey;" (.ref w_FIND_COORDINATOR)) (S_JOIN_GROUP : Sta Z h0 "com/example/kittiwake/kittiwake/wire/ApiKey" "JOIN_GROUP" "Lcom/example/kittiwake/kittiwake/wire/ApiKey;" (.ref w_JOIN_GROUP)) (S_HEARTBEAT : Sta Z h0 "com/example/kittiwake/kittiwake/wire/ApiKey" "HEARTBEAT" "Lcom/example/kittiwake/kittiwake/wire/ApiKey;" (.ref w_HEARTBEAT)) (S_LEAVE_GROUP : Sta Z h0 "com/example/kittiwake/kittiwake/wire/ApiKey" "LEAVE_GROUP" "Lcom/example/kittiwake/kittiwake/wire/ApiKey;" (.ref w_LEAVE_GROUP)) (S_SYNC_GROUP : Sta Z h0 "com/example/kittiwake/kittiwake/wire/ApiKey" "SYNC_GROUP" "Lcom/example/kittiwake/kittiwake/wire/ApiKey;" (.ref w_SYNC_GROUP)) (S_API_VERSIONS : Sta Z h0 "com/example/kittiwake/kittiwake/wire/ApiKey" "API_VERSIONS" "Lcom/example/kittiwake/kittiwake/wire/ApiKey;" (.ref w_API_VERSIONS)) (S_CREATE_TOPICS : Sta Z h0 "com/example/kittiwake/kittiwake/wire/ApiKey" "CREATE_TOPICS" "Lcom/example/kittiwake/kittiwake/wire/ApiKey;" (.ref w_CREATE_TOPICS)) (S_DELETE_TOPICS : Sta Z h0 "com/example/kittiwake/kittiwake/wire/ApiKey" "DELETE_TOPICS" "Lcom/example/kittiwake/kittiwake/wire/ApiKey;" (.ref w_DELETE_TOPICS)) (S_INIT_PRODUCER_ID : Sta Z h0 "com/example/kittiwake/kittiwake/wire/ApiKey" "INIT_PRODUCER_ID" "Lcom/example/kittiwake/kittiwake/wire/ApiKey;" (.ref w_INIT_PRODUCER_ID)) (E_PRODUCE : Exa Z h0 w_PRODUCE "com/example/kittiwake/kittiwake/wire/ApiKey") (E_FETCH : Exa Z h0 w_FETCH "com/example/kittiwake/kittiwake/wire/ApiKey") (E_LIST_OFFSETS : Exa Z h0 w_LIST_OFFSETS "com/example/kittiwake/kittiwake/wire/ApiKey") (E_METADATA : Exa Z h0 w_METADATA "com/example/kittiwake/kittiwake/wire/ApiKey") (E_OFFSET_COMMIT : Exa Z h0 w_OFFSET_COMMIT "com/example/kittiwake/kittiwake/wire/ApiKey") (E_OFFSET_FETCH : Exa Z h0 w_OFFSET_FETCH "com/example/kittiwake/kittiwake/wire/ApiKey") (E_FIND_COORDINATOR : Exa Z h0 w_FIND_COORDINATOR "com/example/kittiwake/kittiwake/wire/ApiKey") (E_JOIN_GROUP : Exa Z h0 w_JOIN_GROUP "com/example/kittiwake/kittiwake/wire/ApiKey") (E_HEARTBEAT : Exa Z h0 w_HEARTBEAT "com/example/kittiwake/kittiwake/wire/ApiKey") (E_LEAVE_GROUP : Exa Z h0 w_LEAVE_GROUP "com/example/kittiwake/kittiwake/wire/ApiKey") (E_SYNC_GROUP : Exa Z h0 w_SYNC_GROUP "com/example/kittiwake/kittiwake/wire/ApiKey") (E_API_VERSIONS : Exa Z h0 w_API_VERSIONS "com/example/kittiwake/kittiwake/wire/ApiKey") (E_CREATE_TOPICS : Exa Z h0 w_CREATE_TOPICS "com/example/kittiwake/kittiwake/wire/ApiKey") (E_DELETE_TOPICS : Exa Z h0 w_DELETE_TOPICS "com/example/kittiwake/kittiwake/wire/ApiKey") (E_INIT_PRODUCER_ID : Exa Z h0 w_INIT_PRODUCER_ID "com/example/kittiwake/kittiwake/wire/ApiKey") (F_PRODUCE_minVersion : Fld Z h0 w_PRODUCE "com/example/kittiwake/kittiwake/wire/ApiKey" "minVersion" "S" (.int 0)) (F_FETCH_minVersion : Fld Z h0 w_FETCH "com/example/kittiwake/kittiwake/wire/ApiKey" "minVersion" "S" (.int 4)) (F_LIST_OFFSETS_minVersion : Fld Z h0 w_LIST_OFFSETS "com/example/kittiwake/kittiwake/wire/ApiKey" "minVersion" "S" (.int 1)) (F_METADATA_minVersion : Fld Z h0 w_METADATA "com/example/kittiwake/kittiwake/wire/ApiKey" "minVersion" "S" (.int 0)) (F_OFFSET_COMMIT_minVersion : Fld Z h0 w_OFFSET_COMMIT "com/example/kittiwake/kittiwake/wire/ApiKey" "minVersion" "S" (.int 0)) (F_OFFSET_FETCH_minVersion : Fld Z h0 w_OFFSET_FETCH "com/example/kittiwake/kittiwake/wire/ApiKey" "minVersion" "S" (.int 0)) (F_FIND_COORDINATOR_minVersion : Fld Z h0 w_FIND_COORDINATOR "com/example/kittiwake/kittiwake/wire/ApiKey" "minVersion" "S" (.int 0)) (F_JOIN_GROUP_minVersion : Fld Z h0 w_JOIN_GROUP "com/example/kittiwake/kittiwake/wire/ApiKey" "minVersion" "S" (.int 0)) (F_HEARTBEAT_minVersion : Fld Z h0 w_HEARTBEAT "com/example/kittiwake/kittiwake/wire/ApiKey" "minVersion" "S" (.int 0)) (F_LEAVE_GROUP_minVersion : Fld Z h0 w_LEAVE_GROUP "com/example/kittiwake/kittiwake/wire/ApiKey" "minVersion" "S" (.int 0)) (F_SYNC_GROUP_minVersion : Fld Z h0 w_SYNC_GROUP "com/example/kittiwake/kittiwake/wire/ApiKey" "minVersion" "S" (.int 0)) (F_API_VERSIONS_minVersion : Fld Z h0 w_API_VERSIONS "com/example/kittiwake/kittiwake/wire/ApiKey" "minVersion" "S" (.int 0)) (F_CREATE_TOPICS_minVersion : Fld Z h0 w_CREATE_TOPICS "com/example/kittiwake/kittiwake/wire/ApiKey" "minVersion" "S" (.int 0)) (F_DELETE_TOPICS_minVersion : Fld Z h0 w_DELETE_TOPICS "com/example/kittiwake/kittiwake/wire/ApiKey" "minVersion" "S" (.int 0)) (F_INIT_PRODUCER_ID_minVersion : Fld Z h0 w_INIT_PRODUCER_ID "com/example/kittiwake/kittiwake/wire/ApiKey" "minVersion" "S" (.int 0)) (F_PRODUCE_maxVersion : Fld Z h0 w_PRODUCE "com/example/kittiwake/kittiwake/wire/ApiKey" "maxVersion" "S" (.int 7)) (F_FETCH_maxVersion : Fld Z h0 w_FETCH "com/example/kittiwake/kittiwake/wire/ApiKey" "maxVersion" "S" (.int 11)) (F_LIST_OFFSETS_maxVersion : Fld Z h0 w_LIST_OFFSETS "com/example/kittiwake/kittiwake/wire/ApiKey" "maxVersion" "S" (.int 2)) (F_METADATA_maxVersion : Fld Z h0 w_METADATA "com/example/kittiwake/kittiwake/wire/ApiKey" "maxVersion" "S" (.int 4)) (F_OFFSET_COMMIT_maxVersion : Fld Z h0 w_OFFSET_COMMIT "com/example/kittiwake/kittiwake/wire/ApiKey" "maxVersion" "S" (.int 3)) (F_OFFSET_FETCH_maxVersion : Fld Z h0 w_OFFSET_FETCH "com/example/kittiwake/kittiwake/wire/ApiKey" "maxVersion" "S" (.int 3)) (F_FIND_COORDINATOR_maxVersion : Fld Z h0 w_FIND_COORDINATOR "com/example/kittiwake/kittiwake/wire/ApiKey" "maxVersion" "S" (.int 2)) (F_JOIN_GROUP_maxVersion : Fld Z h0 w_JOIN_GROUP "com/example/kittiwake/kittiwake/wire/ApiKey" "maxVersion" "S" (.int 4)) (F_HEARTBEAT_maxVersion : Fld Z h0 w_HEARTBEAT "com/example/kittiwake/kittiwake/wire/ApiKey" "maxVersion" "S" (.int 2)) (F_LEAVE_GROUP_maxVersion : Fld Z h0 w_LEAVE_GROUP "com/example/kittiwake/kittiwake/wire/ApiKey" "maxVersion" "S" (.int 1)) (F_SYNC_GROUP_maxVersion : Fld Z h0 w_SYNC_GROUP "com/example/kittiwake/kittiwake/wire/ApiKey" "maxVersion" "S" (.int 2)) (F_API_VERSIONS_maxVersion : Fld Z h0 w_API_VERSIONS "com/example/kittiwake/kittiwake/wire/ApiKey" "maxVersion" "S" (.int 3)) (F_CREATE_TOPICS_maxVersion : Fld Z h0 w_CREATE_TOPICS "com/example/kittiwake/kittiwake/wire/ApiKey" "maxVersion" "S" (.int 3)) (F_DELETE_TOPICS_maxVersion : Fld Z h0 w_DELETE_TOPICS "com/example/kittiwake/kittiwake/wire/ApiKey" "maxVersion" "S" (.int 3)) (F_INIT_PRODUCER_ID_maxVersion : Fld Z h0 w_INIT_PRODUCER_ID "com/example/kittiwake/kittiwake/wire/ApiKey" "maxVersion" "S" (.int 1)) :
    MetFree l x (head1 (Jvm.Cond.code x code maxLocals ret :: ws) room_1) (fun aa UU => aa = #[(.int p0), (.int p1), (.int p2)] ∧ Z.Warmed39 UU.vm ∧ UU.heap = h0) (fun _ _ _ _ _ => True) (fun _ UU oo UU' => ∃ vr Lr, oo = .returned vr ∧ (QL n0) vr UU'.heap Lr ∧ FrameEnd UU oo UU' Lr room_1.cells room_1.slots) := by
  refine MetFree.of_bodySF (plainFor_of_name pn_ApiKeyServesPinLaw) hisR ?_
  intro p e s m args below meth c s₁ Bd hml0 hP hK
  obtain ⟨rfl, hZ, hh⟩ := hP
  have hx := Bd.exec
  have hby := Bd.bytes
  have hml : c.maxLocals = 10 := hml0
  have hown : s.vm.findClass "com/example/kittiwake/kittiwake/wire/ApiKeyServesPinLaw" = some m.cls := findClass_of_methodNamed Bd.named
  have hnm := (name_of_methodNamed Bd.named Bd.method).1
  have hlk := Bd.notSynchronized
  have X0 : Stand p l e room_1 s m #[(.int p0), (.int p1), (.int p2)] below meth c s₁ [] 0 0 := Stand.of_body Bd
  have e0 : s₁.heap = h0 := by rw [← hh, Bd.state]; rfl
  have N0 := Fr.nil n0
  show Owes p e below s (QL n0) room_1.cells room_1.slots s₁ (entryFrame m #[(.int p0), (.int p1), (.int p2)] maxLocals)
  rw [ef_rm0 m p0 p1 p2]
  show Owes p e below s (QL n0) room_1.cells room_1.slots s₁ (mkF m 0 #[(.val (.int p0)), (.val (.int p1)), (.val (.int p2)), .unset, .unset, .unset, .unset, .unset, .unset, .unset] [])
  have C_h0_0 : Ext h0 h0 := ⟨Nat.le_refl _, fun _ _ q => q⟩
  refine Owes.by (fun _ kq => XS.bipush X0.here hx rfl (hb hby at_0) kq) ?_
  show Owes p e below s (QL n0) room_1.cells room_1.slots s₁ (mkF m 2 #[(.val (.int p0)), (.val (.int p1)), (.val (.int p2)), .unset, .unset, .unset, .unset, .unset, .unset, .unset] [(.int (15 : Int32))])
  obtain ⟨T1, h1, k1, X1, e1, E1, A1, O1, st1⟩ := newR X0 hx hZ hown (hw _ (List.mem_of_getElem? (i := 0) rfl)) (hw _ (List.mem_of_getElem? (i := 1) rfl)) e0 (g := (mkF m 2 #[(.val (.int p0)), (.val (.int p1)), (.val (.int p2)), .unset, .unset, .unset, .unset, .unset, .unset, .unset] [(.int (15 : Int32))])) rfl (hb hby at_2) rfl (by decide) (cap := 15) (by decide) (by decide) (by decide) (by decide)
  obtain ⟨b1, g1⟩ : ∃ z, z = h0.size := ⟨_, rfl⟩
  rw [← g1] at A1 st1
  have V1 : Arv Z h1 b1 k1 (.object "com/example/kittiwake/kittiwake/wire/ApiKey") 15 [.null, .null, .null, .null, .null, .null, .null, .null, .null, .null, .null, .null, .null, .null, .null] .null := (Arv.new A1 (by decide)).pad (pad_rep [] .null 15)
  refine Owes.by st1 ?_
  show Owes p e below s (QL n0) room_1.cells room_1.slots T1 (mkF m 5 #[(.val (.int p0)), (.val (.int p1)), (.val (.int p2)), .unset, .unset, .unset, .unset, .unset, .unset, .unset] [(.ref b1)])
  have G_h0_1 : h0.size ≤ b1 := Nat.le_trans C_h0_0.1 (Nat.le_of_eq g1.symm)
  have C_h0_1 : Ext h0 h1 := own_extT C_h0_0 E1
  have gn1 : n0 ≤ b1 := Nat.le_trans Z0 G_h0_1
  refine Owes.by (fun _ kq => XS.dup X1.here hx rfl (hb hby at_5) rfl rfl kq) ?_
  show Owes p e below s (QL n0) room_1.cells room_1.slots T1 (mkF m 6 #[(.val (.int p0)), (.val (.int p1)), (.val (.int p2)), .unset, .unset, .unset, .unset, .unset, .unset, .unset] [(.ref b1), (.ref b1)])
  refine Owes.by (fun _ kq => XS.iconst X1.here hx rfl (hb hby at_6) kq) ?_
  show Owes p e below s (QL n0) room_1.cells room_1.slots T1 (mkF m 7 #[(.val (.int p0)), (.val (.int p1)), (.val (.int p2)), .unset, .unset, .unset, .unset, .unset, .unset, .unset] [(.int (0 : Int32)), (.ref b1), (.ref b1)])
  obtain ⟨T2, X2, e2, st2⟩ := getS2 X1 hx hZ hown (host := "") (Or.inl (hw _ (List.mem_of_getElem? (i := 2) rfl))) Via.refl e1 (S_PRODUCE.ext C_h0_1) (g := (mkF m 7 #[(.val (.int p0)), (.val (.int p1)), (.val (.int p2)), .unset, .unset, .unset, .unset, .unset, .unset, .unset] [(.int (0 : Int32)), (.ref b1), (.ref b1)])) rfl (hb hby at_7)
  refine Owes.by st2 ?_
  show Owes p e below s (QL n0) room_1.cells room_1.slots T2 (mkF m 10 #[(.val (.int p0)), (.val (.int p1)), (.val (.int p2)), .unset, .unset, .unset, .unset, .unset, .unset, .unset] [(.ref w_PRODUCE), (.int (0 : Int32)), (.ref b1), (.ref b1)])
  obtain ⟨cl3, Ar3, qq3, sz3, nn3, hh3, gg3⟩ := V1
  have hin3 : ¬ ((0 : Int32) < 0 ∨ cl3.slots.size ≤ ((0 : Int32)).toNatClampNeg) := inb_of sz3 ⟨by decide, by decide⟩
  obtain ⟨T3, h3, X3, e3, W3, st3⟩ := stR X2 hx hZ e2 Ar3 (j := (0 : Int32)) hin3 rfl (Sto.ofV Ar3 qq3 O1 (Ins.self (E_PRODUCE.ext C_h0_1))) (g := (mkF m 10 #[(.val (.int p0)), (.val (.int p1)), (.val (.int p2)), .unset, .unset, .unset, .unset, .unset, .unset, .unset] [(.ref w_PRODUCE), (.int (0 : Int32)), (.ref b1), (.ref b1)])) rfl rfl (hb hby at_10)
  have V3 : Arv Z h3 b1 k1 (.object "com/example/kittiwake/kittiwake/wire/ApiKey") 15 [(.ref w_PRODUCE), .null, .null, .null, .null, .null, .null, .null, .null, .null, .null, .null, .null, .null, .null] .null := Arv.set Ar3 qq3 sz3 nn3 hh3 gg3 rfl W3 0 rfl (Nat.le_of_ble_eq_true rfl)
  refine Owes.by st3 ?_
  show Owes p e below s (QL n0) room_1.cells room_1.slots T3 (mkF m 11 #[(.val (.int p0)), (.val (.int p1)), (.val (.int p2)), .unset, .unset, .unset, .unset, .unset, .unset, .unset] [(.ref b1)])
  have C_h0_3 : Ext h0 h3 := own_extWr C_h0_1 W3 G_h0_1
  have N3 := Fr.snoc X3 N0 gn1
  refine Owes.by (fun _ kq => XS.dup X3.here hx rfl (hb hby at_11) rfl rfl kq) ?_
  show Owes p e below s (QL n0) room_1.cells room_1.slots T3 (mkF m 12 #[(.val (.int p0)), (.val (.int p1)), (.val (.int p2)), .unset, .unset, .unset, .unset, .unset, .unset, .unset] [(.ref b1), (.ref b1)])
  refine Owes.by (fun _ kq => XS.iconst X3.here hx rfl (hb hby at_12) kq) ?_
  show Owes p e below s (QL n0) room_1.cells room_1.slots T3 (mkF m 13 #[(.val (.int p0)), (.val (.int p1)), (.val (.int p2)), .unset, .unset, .unset, .unset, .unset, .unset, .unset] [(.int (1 : Int32)), (.ref b1), (.ref b1)])
  obtain ⟨T4, X4, e4, st4⟩ := getS2 X3 hx hZ hown (host := "") (Or.inl (hw _ (List.mem_of_getElem? (i := 6) rfl))) Via.refl e3 (S_FETCH.ext C_h0_3) (g := (mkF m 13 #[(.val (.int p0)), (.val (.int p1)), (.val (.int p2)), .unset, .unset, .unset, .unset, .unset, .unset, .unset] [(.int (1 : Int32)), (.ref b1), (.ref b1)])) rfl (hb hby at_13)
  refine Owes.by st4 ?_
  show Owes p e below s (QL n0) room_1.cells room_1.slots T4 (mkF m 16 #[(.val (.int p0)), (.val (.int p1)), (.val (.int p2)), .unset, .unset, .unset, .unset, .unset, .unset, .unset] [(.ref w_FETCH), (.int (1 : Int32)), (.ref b1), (.ref b1)])
  obtain ⟨cl5, Ar5, qq5, sz5, nn5, hh5, gg5⟩ := V3
  have hin5 : ¬ ((1 : Int32) < 0 ∨ cl5.slots.size ≤ ((1 : Int32)).toNatClampNeg) := inb_of sz5 ⟨by decide, by decide⟩
  obtain ⟨T5, h5, X5, e5, W5, st5⟩ := stR X4 hx hZ e4 Ar5 (j := (1 : Int32)) hin5 rfl (Sto.ofV Ar5 qq5 O1 (Ins.self (E_FETCH.ext C_h0_3))) (g := (mkF m 16 #[(.val (.int p0)), (.val (.int p1)), (.val (.int p2)), .unset, .unset, .unset, .unset, .unset, .unset, .unset] [(.ref w_FETCH), (.int (1 : Int32)), (.ref b1), (.ref b1)])) rfl rfl (hb hby at_16)
  have V5 : Arv Z h5 b1 k1 (.object "com/example/kittiwake/kittiwake/wire/ApiKey") 15 [(.ref w_PRODUCE), (.ref w_FETCH), .null, .null, .null, .null, .null, .null, .null, .null, .null, .null, .null, .null, .null] .null := Arv.set Ar5 qq5 sz5 nn5 hh5 gg5 rfl W5 1 rfl (Nat.le_of_ble_eq_true rfl)
  refine Owes.by st5 ?_
  show Owes p e below s (QL n0) room_1.cells room_1.slots T5 (mkF m 17 #[(.val (.int p0)), (.val (.int p1)), (.val (.int p2)), .unset, .unset, .unset, .unset, .unset, .unset, .unset] [(.ref b1)])
  have C_h0_5 : Ext h0 h5 := own_extWr C_h0_3 W5 G_h0_1
  have N5 := Fr.snoc X5 N3 gn1
  refine Owes.by (fun _ kq => XS.dup X5.here hx rfl (hb hby at_17) rfl rfl kq) ?_
  show Owes p e below s (QL n0) room_1.cells room_1.slots T5 (mkF m 18 #[(.val (.int p0)), (.val (.int p1)), (.val (.int p2)), .unset, .unset, .unset, .unset, .unset, .unset, .unset] [(.ref b1), (.ref b1)])
  refine Owes.by (fun _ kq => XS.iconst X5.here hx rfl (hb hby at_18) kq) ?_
  show Owes p e below s (QL n0) room_1.cells room_1.slots T5 (mkF m 19 #[(.val (.int p0)), (.val (.int p1)), (.val (.int p2)), .unset, .unset, .unset, .unset, .unset, .unset, .unset] [(.int (2 : Int32)), (.ref b1), (.ref b1)])
  obtain ⟨T6, X6, e6, st6⟩ := getS2 X5 hx hZ hown (host := "") (Or.inl (hw _ (List.mem_of_getElem? (i := 8) rfl))) Via.refl e5 (S_LIST_OFFSETS.ext C_h0_5) (g := (mkF m 19 #[(.val (.int p0)), (.val (.int p1)), (.val (.int p2)), .unset, .unset, .unset, .unset, .unset, .unset, .unset] [(.int (2 : Int32)), (.ref b1), (.ref b1)])) rfl (hb hby at_19)
  refine Owes.by st6 ?_
  show Owes p e below s (QL n0) room_1.cells room_1.slots T6 (mkF m 22 #[(.val (.int p0)), (.val (.int p1)), (.val (.int p2)), .unset, .unset, .unset, .unset, .unset, .unset, .unset] [(.ref w_LIST_OFFSETS), (.int (2 : Int32)), (.ref b1), (.ref b1)])
  obtain ⟨cl7, Ar7, qq7, sz7, nn7, hh7, gg7⟩ := V5
  have hin7 : ¬ ((2 : Int32) < 0 ∨ cl7.slots.size ≤ ((2 : Int32)).toNatClampNeg) := inb_of sz7 ⟨by decide, by decide⟩
  obtain ⟨T7, h7, X7, e7, W7, st7⟩ := stR X6 hx hZ e6 Ar7 (j := (2 : Int32)) hin7 rfl (Sto.ofV Ar7 qq7 O1 (Ins.self (E_LIST_OFFSETS.ext C_h0_5))) (g := (mkF m 22 #[(.val (.int p0)), (.val (.int p1)), (.val (.int p2)), .unset, .unset, .unset, .unset, .unset, .unset, .unset] [(.ref w_LIST_OFFSETS), (.int (2 : Int32)), (.ref b1), (.ref b1)])) rfl rfl (hb hby at_22)
  have V7 : Arv Z h7 b1 k1 (.object "com/example/kittiwake/kittiwake/wire/ApiKey") 15 [(.ref w_PRODUCE), (.ref w_FETCH), (.ref w_LIST_OFFSETS), .null, .null, .null, .null, .null, .null, .null, .null, .null, .null, .null, .null] .null := Arv.set Ar7 qq7 sz7 nn7 hh7 gg7 rfl W7 2 rfl (Nat.le_of_ble_eq_true rfl)
  refine Owes.by st7 ?_
  show Owes p e below s (QL n0) room_1.cells room_1.slots T7 (mkF m 23 #[(.val (.int p0)), (.val (.int p1)), (.val (.int p2)), .unset, .unset, .unset, .unset, .unset, .unset, .unset] [(.ref b1)])
  have C_h0_7 : Ext h0 h7 := own_extWr C_h0_5 W7 G_h0_1
  have N7 := Fr.snoc X7 N5 gn1
  refine Owes.by (fun _ kq => XS.dup X7.here hx rfl (hb hby at_23) rfl rfl kq) ?_
  show Owes p e below s (QL n0) room_1.cells room_1.slots T7 (mkF m 24 #[(.val (.int p0)), (.val (.int p1)), (.val (.int p2)), .unset, .unset, .unset, .unset, .unset, .unset, .unset] [(.ref b1), (.ref b1)])
  refine Owes.by (fun _ kq => XS.iconst X7.here hx rfl (hb hby at_24) kq) ?_
  show Owes p e below s (QL n0) room_1.cells room_1.slots T7 (mkF m 25 #[(.val (.int p0)), (.val (.int p1)), (.val (.int p2)), .unset, .unset, .unset, .unset, .unset, .unset, .unset] [(.int (3 : Int32)), (.ref b1), (.ref b1)])
  obtain ⟨T8, X8, e8, st8⟩ := getS2 X7 hx hZ hown (host := "") (Or.inl (hw _ (List.mem_of_getElem? (i := 10) rfl))) Via.refl e7 (S_METADATA.ext C_h0_7) (g := (mkF m 25 #[(.val (.int p0)), (.val (.int p1)), (.val (.int p2)), .unset, .unset, .unset, .unset, .unset, .unset, .unset] [(.int (3 : Int32)), (.ref b1), (.ref b1)])) rfl (hb hby at_25)
  refine Owes.by st8 ?_
  show Owes p e below s (QL n0) room_1.cells room_1.slots T8 (mkF m 28 #[(.val (.int p0)), (.val (.int p1)), (.val (.int p2)), .unset, .unset, .unset, .unset, .unset, .unset, .unset] [(.ref w_METADATA), (.int (3 : Int32)), (.ref b1), (.ref b1)])
  obtain ⟨cl9, Ar9, qq9, sz9, nn9, hh9, gg9⟩ := V7
  have hin9 : ¬ ((3 : Int32) < 0 ∨ cl9.slots.size ≤ ((3 : Int32)).toNatClampNeg) := inb_of sz9 ⟨by decide, by decide⟩
  obtain ⟨T9, h9, X9, e9, W9, st9⟩ := stR X8 hx hZ e8 Ar9 (j := (3 : Int32)) hin9 rfl (Sto.ofV Ar9 qq9 O1 (Ins.self (E_METADATA.ext C_h0_7))) (g := (mkF m 28 #[(.val (.int p0)), (.val (.int p1)), (.val (.int p2)), .unset, .unset, .unset, .unset, .unset, .unset, .unset] [(.ref w_METADATA), (.int (3 : Int32)), (.ref b1), (.ref b1)])) rfl rfl (hb hby at_28)
  have V9 : Arv Z h9 b1 k1 (.object "com/example/kittiwake/kittiwake/wire/ApiKey") 15 [(.ref w_PRODUCE), (.ref w_FETCH), (.ref w_LIST_OFFSETS), (.ref w_METADATA), .null, .null, .null, .null, .null, .null, .null, .null, .null, .null, .null] .null := Arv.set Ar9 qq9 sz9 nn9 hh9 gg9 rfl W9 3 rfl (Nat.le_of_ble_eq_true rfl)
  refine Owes.by st9 ?_
  show Owes p e below s (QL n0) room_1.cells room_1.slots T9 (mkF m 29 #[(.val (.int p0)), (.val (.int p1)), (.val (.int p2)), .unset, .unset, .unset, .unset, .unset, .unset, .unset] [(.ref b1)])
  have C_h0_9 : Ext h0 h9 := own_extWr C_h0_7 W9 G_h0_1
  have N9 := Fr.snoc X9 N7 gn1
  refine Owes.by (fun _ kq => XS.dup X9.here hx rfl (hb hby at_29) rfl rfl kq) ?_
  show Owes p e below s (QL n0) room_1.cells room_1.slots T9 (mkF m 30 #[(.val (.int p0)), (.val (.int p1)), (.val (.int p2)), .unset, .unset, .unset, .unset, .unset, .unset, .unset] [(.ref b1), (.ref b1)])
  refine Owes.by (fun _ kq => XS.iconst X9.here hx rfl (hb hby at_30) kq) ?_
  show Owes p e below s (QL n0) room_1.cells room_1.slots T9 (mkF m 31 #[(.val (.int p0)), (.val (.int p1)), (.val (.int p2)), .unset, .unset, .unset, .unset, .unset, .unset, .unset] [(.int (4 : Int32)), (.ref b1), (.ref b1)])
  obtain ⟨T10, X10, e10, st10⟩ := getS2 X9 hx hZ hown (host := "") (Or.inl (hw _ (List.mem_of_getElem? (i := 12) rfl))) Via.refl e9 (S_OFFSET_COMMIT.ext C_h0_9) (g := (mkF m 31 #[(.val (.int p0)), (.val (.int p1)), (.val (.int p2)), .unset, .unset, .unset, .unset, .unset, .unset, .unset] [(.int (4 : Int32)), (.ref b1), (.ref b1)])) rfl (hb hby at_31)
  refine Owes.by st10 ?_
  show Owes p e below s (QL n0) room_1.cells room_1.slots T10 (mkF m 34 #[(.val (.int p0)), (.val (.int p1)), (.val (.int p2)), .unset, .unset, .unset, .unset, .unset, .unset, .unset] [(.ref w_OFFSET_COMMIT), (.int (4 : Int32)), (.ref b1), (.ref b1)])
  obtain ⟨cl11, Ar11, qq11, sz11, nn11, hh11, gg11⟩ := V9
  have hin11 : ¬ ((4 : Int32) < 0 ∨ cl11.slots.size ≤ ((4 : Int32)).toNatClampNeg) := inb_of sz11 ⟨by decide, by decide⟩
  obtain ⟨T11, h11, X11, e11, W11, st11⟩ := stR X10 hx hZ e10 Ar11 (j := (4 : Int32)) hin11 rfl (Sto.ofV Ar11 qq11 O1 (Ins.self (E_OFFSET_COMMIT.ext C_h0_9))) (g := (mkF m 34 #[(.val (.int p0)), (.val (.int p1)), (.val (.int p2)), .unset, .unset, .unset, .unset, .unset, .unset, .unset] [(.ref w_OFFSET_COMMIT), (.int (4 : Int32)), (.ref b1), (.ref b1)])) rfl rfl (hb hby at_34)
  have V11 : Arv Z h11 b1 k1 (.object "com/example/kittiwake/kittiwake/wire/ApiKey") 15 [(.ref w_PRODUCE), (.ref w_FETCH), (.ref w_LIST_OFFSETS), (.ref w_METADATA), (.ref w_OFFSET_COMMIT), .null, .null, .null, .null, .null, .null, .null, .null, .null, .null] .null := Arv.set Ar11 qq11 sz11 nn11 hh11 gg11 rfl W11 4 rfl (Nat.le_of_ble_eq_true rfl)
  refine Owes.by st11 ?_
  show Owes p e below s (QL n0) room_1.cells room_1.slots T11 (mkF m 35 #[(.val (.int p0)), (.val (.int p1)), (.val (.int p2)), .unset, .unset, .unset, .unset, .unset, .unset, .unset] [(.ref b1)])
  have C_h0_11 : Ext h0 h11 := own_extWr C_h0_9 W11 G_h0_1
  have N11 := Fr.snoc X11 N9 gn1
  refine Owes.by (fun _ kq => XS.dup X11.here hx rfl (hb hby at_35) rfl rfl kq) ?_
  show Owes p e below s (QL n0) room_1.cells room_1.slots T11 (mkF m 36 #[(.val (.int p0)), (.val (.int p1)), (.val (.int p2)), .unset, .unset, .unset, .unset, .unset, .unset, .unset] [(.ref b1), (.ref b1)])
  refine Owes.by (fun _ kq => XS.iconst X11.here hx rfl (hb hby at_36) kq) ?_
  show Owes p e below s (QL n0) room_1.cells room_1.slots T11 (mkF m 37 #[(.val (.int p0)), (.val (.int p1)), (.val (.int p2)), .unset, .unset, .unset, .unset, .unset, .unset, .unset] [(.int (5 : Int32)), (.ref b1), (.ref b1)])
  obtain ⟨T12, X12, e12, st12⟩ := getS2 X11 hx hZ hown (host := "") (Or.inl (hw _ (List.mem_of_getElem? (i := 14) rfl))) Via.refl e11 (S_OFFSET_FETCH.ext C_h0_11) (g := (mkF m 37 #[(.val (.int p0)), (.val (.int p1)), (.val (.int p2)), .unset, .unset, .unset, .unset, .unset, .unset, .unset] [(.int (5 : Int32)), (.ref b1), (.ref b1)])) rfl (hb hby at_37)
  refine Owes.by st12 ?_
  show Owes p e below s (QL n0) room_1.cells room_1.slots T12 (mkF m 40 #[(.val (.int p0)), (.val (.int p1)), (.val (.int p2)), .unset, .unset, .unset, .unset, .unset, .unset, .unset] [(.ref w_OFFSET_FETCH), (.int (5 : Int32)), (.ref b1), (.ref b1)])
  obtain ⟨cl13, Ar13, qq13, sz13, nn13, hh13, gg13⟩ := V11
  have hin13 : ¬ ((5 : Int32) < 0 ∨ cl13.slots.size ≤ ((5 : Int32)).toNatClampNeg) := inb_of sz13 ⟨by decide, by decide⟩
  obtain ⟨T13, h13, X13, e13, W13, st13⟩ := stR X12 hx hZ e12 Ar13 (j := (5 : Int32)) hin13 rfl (Sto.ofV Ar13 qq13 O1 (Ins.self (E_OFFSET_FETCH.ext C_h0_11))) (g := (mkF m 40 #[(.val (.int p0)), (.val (.int p1)), (.val (.int p2)), .unset, .unset, .unset, .unset, .unset, .unset, .unset] [(.ref w_OFFSET_FETCH), (.int (5 : Int32)), (.ref b1), (.ref b1)])) rfl rfl (hb hby at_40)
  have V13 : Arv Z h13 b1 k1 (.object "com/example/kittiwake/kittiwake/wire/ApiKey") 15 [(.ref w_PRODUCE), (.ref w_FETCH), (.ref w_LIST_OFFSETS), (.ref w_METADATA), (.ref w_OFFSET_COMMIT), (.ref w_OFFSET_FETCH), .null, .null, .null, .null, .null, .null, .null, .null, .null] .null := Arv.set Ar13 qq13 sz13 nn13 hh13 gg13 rfl W13 5 rfl (Nat.le_of_ble_eq_true rfl)
  refine Owes.by st13 ?_
  show Owes p e below s (QL n0) room_1.cells room_1.slots T13 (mkF m 41 #[(.val (.int p0)), (.val (.int p1)), (.val (.int p2)), .unset, .unset, .unset, .unset, .unset, .unset, .unset] [(.ref b1)])
  have C_h0_13 : Ext h0 h13 := own_extWr C_h0_11 W13 G_h0_1
  have N13 := Fr.snoc X13 N11 gn1
  refine Owes.by (fun _ kq => XS.dup X13.here hx rfl (hb hby at_41) rfl rfl kq) ?_
  show Owes p e below s (QL n0) room_1.cells room_1.slots T13 (mkF m 42 #[(.val (.int p0)), (.val (.int p1)), (.val (.int p2)), .unset, .unset, .unset, .unset, .unset, .unset, .unset] [(.ref b1), (.ref b1)])
  refine Owes.by (fun _ kq => XS.bipush X13.here hx rfl (hb hby at_42) kq) ?_
  show Owes p e below s (QL n0) room_1.cells room_1.slots T13 (mkF m 44 #[(.val (.int p0)), (.val (.int p1)), (.val (.int p2)), .unset, .unset, .unset, .unset, .unset, .unset, .unset] [(.int (6 : Int32)), (.ref b1), (.ref b1)])
  obtain ⟨T14, X14, e14, st14⟩ := getS2 X13 hx hZ hown (host := "") (Or.inl (hw _ (List.mem_of_getElem? (i := 16) rfl))) Via.refl e13 (S_FIND_COORDINATOR.ext C_h0_13) (g := (mkF m 44 #[(.val (.int p0)), (.val (.int p1)), (.val (.int p2)), .unset, .unset, .unset, .unset, .unset, .unset, .unset] [(.int (6 : Int32)), (.ref b1), (.ref b1)])) rfl (hb hby at_44)
  refine Owes.by st14 ?_
  show Owes p e below s (QL n0) room_1.cells room_1.slots T14 (mkF m 47 #[(.val (.int p0)), (.val (.int p1)), (.val (.int p2)), .unset, .unset, .unset, .unset, .unset, .unset, .unset] [(.ref w_FIND_COORDINATOR), (.int (6 : Int32)), (.ref b1), (.ref b1)])
  obtain ⟨cl15, Ar15, qq15, sz15, nn15, hh15, gg15⟩ := V13
  have hin15 : ¬ ((6 : Int32) < 0 ∨ cl15.slots.size ≤ ((6 : Int32)).toNatClampNeg) := inb_of sz15 ⟨by decide, by decide⟩
  obtain ⟨T15, h15, X15, e15, W15, st15⟩ := stR X14 hx hZ e14 Ar15 (j := (6 : Int32)) hin15 rfl (Sto.ofV Ar15 qq15 O1 (Ins.self (E_FIND_COORDINATOR.ext C_h0_13))) (g := (mkF m 47 #[(.val (.int p0)), (.val (.int p1)), (.val (.int p2)), .unset, .unset, .unset, .unset, .unset, .unset, .unset] [(.ref w_FIND_COORDINATOR), (.int (6 : Int32)), (.ref b1), (.ref b1)])) rfl rfl (hb hby at_47)
  have V15 : Arv Z h15 b1 k1 (.object "com/example/kittiwake/kittiwake/wire/ApiKey") 15 [(.ref w_PRODUCE), (.ref w_FETCH), (.ref w_LIST_OFFSETS), (.ref w_METADATA), (.ref w_OFFSET_COMMIT), (.ref w_OFFSET_FETCH), (.ref w_FIND_COORDINATOR), .null, .null, .null, .null, .null, .null, .null, .null] .null := Arv.set Ar15 qq15 sz15 nn15 hh15 gg15 rfl W15 6 rfl (Nat.le_of_ble_eq_true rfl)
  refine Owes.by st15 ?_
  show Owes p e below s (QL n0) room_1.cells room_1.slots T15 (mkF m 48 #[(.val (.int p0)), (.val (.int p1)), (.val (.int p2)), .unset, .unset, .unset, .unset, .unset, .unset, .unset] [(.ref b1)])
  have C_h0_15 : Ext h0 h15 := own_extWr C_h0_13 W15 G_h0_1
  have N15 := Fr.snoc X15 N13 gn1
  refine Owes.by (fun _ kq => XS.dup X15.here hx rfl (hb hby at_48) rfl rfl kq) ?_
  show Owes p e below s (QL n0) room_1.cells room_1.slots T15 (mkF m 49 #[(.val (.int p0)), (.val (.int p1)), (.val (.int p2)), .unset, .unset, .unset, .unset, .unset, .unset, .unset] [(.ref b1), (.ref b1)])
  refine Owes.by (fun _ kq => XS.bipush X15.here hx rfl (hb hby at_49) kq) ?_
  show Owes p e below s (QL n0) room_1.cells room_1.slots T15 (mkF m 51 #[(.val (.int p0)), (.val (.int p1)), (.val (.int p2)), .unset, .unset, .unset, .unset, .unset, .unset, .unset] [(.int (7 : Int32)), (.ref b1), (.ref b1)])
  obtain ⟨T16, X16, e16, st16⟩ := getS2 X15 hx hZ hown (host := "") (Or.inl (hw _ (List.mem_of_getElem? (i := 18) rfl))) Via.refl e15 (S_JOIN_GROUP.ext C_h0_15) (g := (mkF m 51 #[(.val (.int p0)), (.val (.int p1)), (.val (.int p2)), .unset, .unset, .unset, .unset, .unset, .unset, .unset] [(.int (7 : Int32)), (.ref b1), (.ref b1)])) rfl (hb hby at_51)
  refine Owes.by st16 ?_
  show Owes p e below s (QL n0) room_1.cells room_1.slots T16 (mkF m 54 #[(.val (.int p0)), (.val (.int p1)), (.val (.int p2)), .unset, .unset, .unset, .unset, .unset, .unset, .unset] [(.ref w_JOIN_GROUP), (.int (7 : Int32)), (.ref b1), (.ref b1)])
  obtain ⟨cl17, Ar17, qq17, sz17, nn17, hh17, gg17⟩ := V15
  have hin17 : ¬ ((7 : Int32) < 0 ∨ cl17.slots.size ≤ ((7 : Int32)).toNatClampNeg) := inb_of sz17 ⟨by decide, by decide⟩
  obtain ⟨T17, h17, X17, e17, W17, st17⟩ := stR X16 hx hZ e16 Ar17 (j := (7 : Int32)) hin17 rfl (Sto.ofV Ar17 qq17 O1 (Ins.self (E_JOIN_GROUP.ext C_h0_15))) (g := (mkF m 54 #[(.val (.int p0)), (.val (.int p1)), (.val (.int p2)), .unset, .unset, .unset, .unset, .unset, .unset, .unset] [(.ref w_JOIN_GROUP), (.int (7 : Int32)), (.ref b1), (.ref b1)])) rfl rfl (hb hby at_54)
  have V17 : Arv Z h17 b1 k1 (.object "com/example/kittiwake/kittiwake/wire/ApiKey") 15 [(.ref w_PRODUCE), (.ref w_FETCH), (.ref w_LIST_OFFSETS), (.ref w_METADATA), (.ref w_OFFSET_COMMIT), (.ref w_OFFSET_FETCH), (.ref w_FIND_COORDINATOR), (.ref w_JOIN_GROUP), .null, .null, .null, .null, .null, .null, .null] .null := Arv.set Ar17 qq17 sz17 nn17 hh17 gg17 rfl W17 7 rfl (Nat.le_of_ble_eq_true rfl)
  refine Owes.by st17 ?_
  show Owes p e below s (QL n0) room_1.cells room_1.slots T17 (mkF m 55 #[(.val (.int p0)), (.val (.int p1)), (.val (.int p2)), .unset, .unset, .unset, .unset, .unset, .unset, .unset] [(.ref b1)])
  have C_h0_17 : Ext h0 h17 := own_extWr C_h0_15 W17 G_h0_1
  have N17 := Fr.snoc X17 N15 gn1
  refine Owes.by (fun _ kq => XS.dup X17.here hx rfl (hb hby at_55) rfl rfl kq) ?_
  show Owes p e below s (QL n0) room_1.cells room_1.slots T17 (mkF m 56 #[(.val (.int p0)), (.val (.int p1)), (.val (.int p2)), .unset, .unset, .unset, .unset, .unset, .unset, .unset] [(.ref b1), (.ref b1)])
  refine Owes.by (fun _ kq => XS.bipush X17.here hx rfl (hb hby at_56) kq) ?_
  show Owes p e below s (QL n0) room_1.cells room_1.slots T17 (mkF m 58 #[(.val (.int p0)), (.val (.int p1)), (.val (.int p2)), .unset, .unset, .unset, .unset, .unset, .unset, .unset] [(.int (8 : Int32)), (.ref b1), (.ref b1)])
  obtain ⟨T18, X18, e18, st18⟩ := getS2 X17 hx hZ hown (host := "") (Or.inl (hw _ (List.mem_of_getElem? (i := 20) rfl))) Via.refl e17 (S_HEARTBEAT.ext C_h0_17) (g := (mkF m 58 #[(.val (.int p0)), (.val (.int p1)), (.val (.int p2)), .unset, .unset, .unset, .unset, .unset, .unset, .unset] [(.int (8 : Int32)), (.ref b1), (.ref b1)])) rfl (hb hby at_58)
  refine Owes.by st18 ?_
  show Owes p e below s (QL n0) room_1.cells room_1.slots T18 (mkF m 61 #[(.val (.int p0)), (.val (.int p1)), (.val (.int p2)), .unset, .unset, .unset, .unset, .unset, .unset, .unset] [(.ref w_HEARTBEAT), (.int (8 : Int32)), (.ref b1), (.ref b1)])
  obtain ⟨cl19, Ar19, qq19, sz19, nn19, hh19, gg19⟩ := V17
  have hin19 : ¬ ((8 : Int32) < 0 ∨ cl19.slots.size ≤ ((8 : Int32)).toNatClampNeg) := inb_of sz19 ⟨by decide, by decide⟩
  obtain ⟨T19, h19, X19, e19, W19, st19⟩ := stR X18 hx hZ e18 Ar19 (j := (8 : Int32)) hin19 rfl (Sto.ofV Ar19 qq19 O1 (Ins.self (E_HEARTBEAT.ext C_h0_17))) (g := (mkF m 61 #[(.val (.int p0)), (.val (.int p1)), (.val (.int p2)), .unset, .unset, .unset, .unset, .unset, .unset, .unset] [(.ref w_HEARTBEAT), (.int (8 : Int32)), (.ref b1), (.ref b1)])) rfl rfl (hb hby at_61)
  have V19 : Arv Z h19 b1 k1 (.object "com/example/kittiwake/kittiwake/wire/ApiKey") 15 [(.ref w_PRODUCE), (.ref w_FETCH), (.ref w_LIST_OFFSETS), (.ref w_METADATA), (.ref w_OFFSET_COMMIT), (.ref w_OFFSET_FETCH), (.ref w_FIND_COORDINATOR), (.ref w_JOIN_GROUP), (.ref w_HEARTBEAT), .null, .null, .null, .null, .null, .null] .null := Arv.set Ar19 qq19 sz19 nn19 hh19 gg19 rfl W19 8 rfl (Nat.le_of_ble_eq_true rfl)
  refine Owes.by st19 ?_
  show Owes p e below s (QL n0) room_1.cells room_1.slots T19 (mkF m 62 #[(.val (.int p0)), (.val (.int p1)), (.val (.int p2)), .unset, .unset, .unset, .unset, .unset, .unset, .unset] [(.ref b1)])
  have C_h0_19 : Ext h0 h19 := own_extWr C_h0_17 W19 G_h0_1
  have N19 := Fr.snoc X19 N17 gn1
  refine Owes.by (fun _ kq => XS.dup X19.here hx rfl (hb hby at_62) rfl rfl kq) ?_
  show Owes p e below s (QL n0) room_1.cells room_1.slots T19 (mkF m 63 #[(.val (.int p0)), (.val (.int p1)), (.val (.int p2)), .unset, .unset, .unset, .unset, .unset, .unset, .unset] [(.ref b1), (.ref b1)])
  refine Owes.by (fun _ kq => XS.bipush X19.here hx rfl (hb hby at_63) kq) ?_
  show Owes p e below s (QL n0) room_1.cells room_1.slots T19 (mkF m 65 #[(.val (.int p0)), (.val (.int p1)), (.val (.int p2)), .unset, .unset, .unset, .unset, .unset, .unset, .unset] [(.int (9 : Int32)), (.ref b1), (.ref b1)])
  obtain ⟨T20, X20, e20, st20⟩ := getS2 X19 hx hZ hown (host := "") (Or.inl (hw _ (List.mem_of_getElem? (i := 22) rfl))) Via.refl e19 (S_LEAVE_GROUP.ext C_h0_19) (g := (mkF m 65 #[(.val (.int p0)), (.val (.int p1)), (.val (.int p2)), .unset, .unset, .unset, .unset, .unset, .unset, .unset] [(.int (9 : Int32)), (.ref b1), (.ref b1)])) rfl (hb hby at_65)
  refine Owes.by st20 ?_
  show Owes p e below s (QL n0) room_1.cells room_1.slots T20 (mkF m 68 #[(.val (.int p0)), (.val (.int p1)), (.val (.int p2)), .unset, .unset, .unset, .unset, .unset, .unset, .unset] [(.ref w_LEAVE_GROUP), (.int (9 : Int32)), (.ref b1), (.ref b1)])
  obtain ⟨cl21, Ar21, qq21, sz21, nn21, hh21, gg21⟩ := V19
  have hin21 : ¬ ((9 : Int32) < 0 ∨ cl21.slots.size ≤ ((9 : Int32)).toNatClampNeg) := inb_of sz21 ⟨by decide, by decide⟩
  obtain ⟨T21, h21, X21, e21, W21, st21⟩ := stR X20 hx hZ e20 Ar21 (j := (9 : Int32)) hin21 rfl (Sto.ofV Ar21 qq21 O1 (Ins.self (E_LEAVE_GROUP.ext C_h0_19))) (g := (mkF m 68 #[(.val (.int p0)), (.val (.int p1)), (.val (.int p2)), .unset, .unset, .unset, .unset, .unset, .unset, .unset] [(.ref w_LEAVE_GROUP), (.int (9 : Int32)), (.ref b1), (.ref b1)])) rfl rfl (hb hby at_68)
  have V21 : Arv Z h21 b1 k1 (.object "com/example/kittiwake/kittiwake/wire/ApiKey") 15 [(.ref w_PRODUCE), (.ref w_FETCH), (.ref w_LIST_OFFSETS), (.ref w_METADATA), (.ref w_OFFSET_COMMIT), (.ref w_OFFSET_FETCH), (.ref w_FIND_COORDINATOR), (.ref w_JOIN_GROUP), (.ref w_HEARTBEAT), (.ref w_LEAVE_GROUP), .null, .null, .null, .null, .null] .null := Arv.set Ar21 qq21 sz21 nn21 hh21 gg21 rfl W21 9 rfl (Nat.le_of_ble_eq_true rfl)
  refine Owes.by st21 ?_
  show Owes p e below s (QL n0) room_1.cells room_1.slots T21 (mkF m 69 #[(.val (.int p0)), (.val (.int p1)), (.val (.int p2)), .unset, .unset, .unset, .unset, .unset, .unset, .unset] [(.ref b1)])
  have C_h0_21 : Ext h0 h21 := own_extWr C_h0_19 W21 G_h0_1
  have N21 := Fr.snoc X21 N19 gn1
  refine Owes.by (fun _ kq => XS.dup X21.here hx rfl (hb hby at_69) rfl rfl kq) ?_
  show Owes p e below s (QL n0) room_1.cells room_1.slots T21 (mkF m 70 #[(.val (.int p0)), (.val (.int p1)), (.val (.int p2)), .unset, .unset, .unset, .unset, .unset, .unset, .unset] [(.ref b1), (.ref b1)])
  refine Owes.by (fun _ kq => XS.bipush X21.here hx rfl (hb hby at_70) kq) ?_
  show Owes p e below s (QL n0) room_1.cells room_1.slots T21 (mkF m 72 #[(.val (.int p0)), (.val (.int p1)), (.val (.int p2)), .unset, .unset, .unset, .unset, .unset, .unset, .unset] [(.int (10 : Int32)), (.ref b1), (.ref b1)])
  obtain ⟨T22, X22, e22, st22⟩ := getS2 X21 hx hZ hown (host := "") (Or.inl (hw _ (List.mem_of_getElem? (i := 24) rfl))) Via.refl e21 (S_SYNC_GROUP.ext C_h0_21) (g := (mkF m 72 #[(.val (.int p0)), (.val (.int p1)), (.val (.int p2)), .unset, .unset, .unset, .unset, .unset, .unset, .unset] [(.int (10 : Int32)), (.ref b1), (.ref b1)])) rfl (hb hby at_72)
  refine Owes.by st22 ?_
  show Owes p e below s (QL n0) room_1.cells room_1.slots T22 (mkF m 75 #[(.val (.int p0)), (.val (.int p1)), (.val (.int p2)), .unset, .unset, .unset, .unset, .unset, .unset, .unset] [(.ref w_SYNC_GROUP), (.int (10 : Int32)), (.ref b1), (.ref b1)])
  obtain ⟨cl23, Ar23, qq23, sz23, nn23, hh23, gg23⟩ := V21
  have hin23 : ¬ ((10 : Int32) < 0 ∨ cl23.slots.size ≤ ((10 : Int32)).toNatClampNeg) := inb_of sz23 ⟨by decide, by decide⟩
  obtain ⟨T23, h23, X23, e23, W23, st23⟩ := stR X22 hx hZ e22 Ar23 (j := (10 : Int32)) hin23 rfl (Sto.ofV Ar23 qq23 O1 (Ins.self (E_SYNC_GROUP.ext C_h0_21))) (g := (mkF m 75 #[(.val (.int p0)), (.val (.int p1)), (.val (.int p2)), .unset, .unset, .unset, .unset, .unset, .unset, .unset] [(.ref w_SYNC_GROUP), (.int (10 : Int32)), (.ref b1), (.ref b1)])) rfl rfl (hb hby at_75)
  have V23 : Arv Z h23 b1 k1 (.object "com/example/kittiwake/kittiwake/wire/ApiKey") 15 [(.ref w_PRODUCE), (.ref w_FETCH), (.ref w_LIST_OFFSETS), (.ref w_METADATA), (.ref w_OFFSET_COMMIT), (.ref w_OFFSET_FETCH), (.ref w_FIND_COORDINATOR), (.ref w_JOIN_GROUP), (.ref w_HEARTBEAT), (.ref w_LEAVE_GROUP), (.ref w_SYNC_GROUP), .null, .null, .null, .null] .null := Arv.set Ar23 qq23 sz23 nn23 hh23 gg23 rfl W23 10 rfl (Nat.le_of_ble_eq_true rfl)
  refine Owes.by st23 ?_
  show Owes p e below s (QL n0) room_1.cells room_1.slots T23 (mkF m 76 #[(.val (.int p0)), (.val (.int p1)), (.val (.int p2)), .unset, .unset, .unset, .unset, .unset, .unset, .unset] [(.ref b1)])
  have C_h0_23 : Ext h0 h23 := own_extWr C_h0_21 W23 G_h0_1
  have N23 := Fr.snoc X23 N21 gn1
  refine Owes.by (fun _ kq => XS.dup X23.here hx rfl (hb hby at_76) rfl rfl kq) ?_
  show Owes p e below s (QL n0) room_1.cells room_1.slots T23 (mkF m 77 #[(.val (.int p0)), (.val (.int p1)), (.val (.int p2)), .unset, .unset, .unset, .unset, .unset, .unset, .unset] [(.ref b1), (.ref b1)])
  refine Owes.by (fun _ kq => XS.bipush X23.here hx rfl (hb hby at_77) kq) ?_
  show Owes p e below s (QL n0) room_1.cells room_1.slots T23 (mkF m 79 #[(.val (.int p0)), (.val (.int p1)), (.val (.int p2)), .unset, .unset, .unset, .unset, .unset, .unset, .unset] [(.int (11 : Int32)), (.ref b1), (.ref b1)])
  obtain ⟨T24, X24, e24, st24⟩ := getS2 X23 hx hZ hown (host := "") (Or.inl (hw _ (List.mem_of_getElem? (i := 26) rfl))) Via.refl e23 (S_API_VERSIONS.ext C_h0_23) (g := (mkF m 79 #[(.val (.int p0)), (.val (.int p1)), (.val (.int p2)), .unset, .unset, .unset, .unset, .unset, .unset, .unset] [(.int (11 : Int32)), (.ref b1), (.ref b1)])) rfl (hb hby at_79)
  refine Owes.by st24 ?_
  show Owes p e below s (QL n0) room_1.cells room_1.slots T24 (mkF m 82 #[(.val (.int p0)), (.val (.int p1)), (.val (.int p2)), .unset, .unset, .unset, .unset, .unset, .unset, .unset] [(.ref w_API_VERSIONS), (.int (11 : Int32)), (.ref b1), (.ref b1)])
  obtain ⟨cl25, Ar25, qq25, sz25, nn25, hh25, gg25⟩ := V23
  have hin25 : ¬ ((11 : Int32) < 0 ∨ cl25.slots.size ≤ ((11 : Int32)).toNatClampNeg) := inb_of sz25 ⟨by decide, by decide⟩
  obtain ⟨T25, h25, X25, e25, W25, st25⟩ := stR X24 hx hZ e24 Ar25 (j := (11 : Int32)) hin25 rfl (Sto.ofV Ar25 qq25 O1 (Ins.self (E_API_VERSIONS.ext C_h0_23))) (g := (mkF m 82 #[(.val (.int p0)), (.val (.int p1)), (.val (.int p2)), .unset, .unset, .unset, .unset, .unset, .unset, .unset] [(.ref w_API_VERSIONS), (.int (11 : Int32)), (.ref b1), (.ref b1)])) rfl rfl (hb hby at_82)
  have V25 : Arv Z h25 b1 k1 (.object "com/example/kittiwake/kittiwake/wire/ApiKey") 15 [(.ref w_PRODUCE), (.ref w_FETCH), (.ref w_LIST_OFFSETS), (.ref w_METADATA), (.ref w_OFFSET_COMMIT), (.ref w_OFFSET_FETCH), (.ref w_FIND_COORDINATOR), (.ref w_JOIN_GROUP), (.ref w_HEARTBEAT), (.ref w_LEAVE_GROUP), (.ref w_SYNC_GROUP), (.ref w_API_VERSIONS), .null, .null, .null] .null := Arv.set Ar25 qq25 sz25 nn25 hh25 gg25 rfl W25 11 rfl (Nat.le_of_ble_eq_true rfl)
  refine Owes.by st25 ?_
  show Owes p e below s (QL n0) room_1.cells room_1.slots T25 (mkF m 83 #[(.val (.int p0)), (.val (.int p1)), (.val (.int p2)), .unset, .unset, .unset, .unset, .unset, .unset, .unset] [(.ref b1)])
  have C_h0_25 : Ext h0 h25 := own_extWr C_h0_23 W25 G_h0_1
  have N25 := Fr.snoc X25 N23 gn1
  refine Owes.by (fun _ kq => XS.dup X25.here hx rfl (hb hby at_83) rfl rfl kq) ?_
  show Owes p e below s (QL n0) room_1.cells room_1.slots T25 (mkF m 84 #[(.val (.int p0)), (.val (.int p1)), (.val (.int p2)), .unset, .unset, .unset, .unset, .unset, .unset, .unset] [(.ref b1), (.ref b1)])
  refine Owes.by (fun _ kq => XS.bipush X25.here hx rfl (hb hby at_84) kq) ?_
  show Owes p e below s (QL n0) room_1.cells room_1.slots T25 (mkF m 86 #[(.val (.int p0)), (.val (.int p1)), (.val (.int p2)), .unset, .unset, .unset, .unset, .unset, .unset, .unset] [(.int (12 : Int32)), (.ref b1), (.ref b1)])
  obtain ⟨T26, X26, e26, st26⟩ := getS2 X25 hx hZ hown (host := "") (Or.inl (hw _ (List.mem_of_getElem? (i := 28) rfl))) Via.refl e25 (S_CREATE_TOPICS.ext C_h0_25) (g := (mkF m 86 #[(.val (.int p0)), (.val (.int p1)), (.val (.int p2)), .unset, .unset, .unset, .unset, .unset, .unset, .unset] [(.int (12 : Int32)), (.ref b1), (.ref b1)])) rfl (hb hby at_86)
  refine Owes.by st26 ?_
  show Owes p e below s (QL n0) room_1.cells room_1.slots T26 (mkF m 89 #[(.val (.int p0)), (.val (.int p1)), (.val (.int p2)), .unset, .unset, .unset, .unset, .unset, .unset, .unset] [(.ref w_CREATE_TOPICS), (.int (12 : Int32)), (.ref b1), (.ref b1)])
  obtain ⟨cl27, Ar27, qq27, sz27, nn27, hh27, gg27⟩ := V25
  have hin27 : ¬ ((12 : Int32) < 0 ∨ cl27.slots.size ≤ ((12 : Int32)).toNatClampNeg) := inb_of sz27 ⟨by decide, by decide⟩
  obtain ⟨T27, h27, X27, e27, W27, st27⟩ := stR X26 hx hZ e26 Ar27 (j := (12 : Int32)) hin27 rfl (Sto.ofV Ar27 qq27 O1 (Ins.self (E_CREATE_TOPICS.ext C_h0_25))) (g := (mkF m 89 #[(.val (.int p0)), (.val (.int p1)), (.val (.int p2)), .unset, .unset, .unset, .unset, .unset, .unset, .unset] [(.ref w_CREATE_TOPICS), (.int (12 : Int32)), (.ref b1), (.ref b1)])) rfl rfl (hb hby at_89)
  have V27 : Arv Z h27 b1 k1 (.object "com/example/kittiwake/kittiwake/wire/ApiKey") 15 [(.ref w_PRODUCE), (.ref w_FETCH), (.ref w_LIST_OFFSETS), (.ref w_METADATA), (.ref w_OFFSET_COMMIT), (.ref w_OFFSET_FETCH), (.ref w_FIND_COORDINATOR), (.ref w_JOIN_GROUP), (.ref w_HEARTBEAT), (.ref w_LEAVE_GROUP), (.ref w_SYNC_GROUP), (.ref w_API_VERSIONS), (.ref w_CREATE_TOPICS), .null, .null] .null := Arv.set Ar27 qq27 sz27 nn27 hh27 gg27 rfl W27 12 rfl (Nat.le_of_ble_eq_true rfl)
  refine Owes.by st27 ?_
  show Owes p e below s (QL n0) room_1.cells room_1.slots T27 (mkF m 90 #[(.val (.int p0)), (.val (.int p1)), (.val (.int p2)), .unset, .unset, .unset, .unset, .unset, .unset, .unset] [(.ref b1)])
  have C_h0_27 : Ext h0 h27 := own_extWr C_h0_25 W27 G_h0_1
  have N27 := Fr.snoc X27 N25 gn1
  refine Owes.by (fun _ kq => XS.dup X27.here hx rfl (hb hby at_90) rfl rfl kq) ?_
  show Owes p e below s (QL n0) room_1.cells room_1.slots T27 (mkF m 91 #[(.val (.int p0)), (.val (.int p1)), (.val (.int p2)), .unset, .unset, .unset, .unset, .unset, .unset, .unset] [(.ref b1), (.ref b1)])
  refine Owes.by (fun _ kq => XS.bipush X27.here hx rfl (hb hby at_91) kq) ?_
  show Owes p e below s (QL n0) room_1.cells room_1.slots T27 (mkF m 93 #[(.val (.int p0)), (.val (.int p1)), (.val (.int p2)), .unset, .unset, .unset, .unset, .unset, .unset, .unset] [(.int (13 : Int32)), (.ref b1), (.ref b1)])
  obtain ⟨T28, X28, e28, st28⟩ := getS2 X27 hx hZ hown (host := "") (Or.inl (hw _ (List.mem_of_getElem? (i := 30) rfl))) Via.refl e27 (S_DELETE_TOPICS.ext C_h0_27) (g := (mkF m 93 #[(.val (.int p0)), (.val (.int p1)), (.val (.int p2)), .unset, .unset, .unset, .unset, .unset, .unset, .unset] [(.int (13 : Int32)), (.ref b1), (.ref b1)])) rfl (hb hby at_93)
  refine Owes.by st28 ?_
  show Owes p e below s (QL n0) room_1.cells room_1.slots T28 (mkF m 96 #[(.val (.int p0)), (.val (.int p1)), (.val (.int p2)), .unset, .unset, .unset, .unset, .unset, .unset, .unset] [(.ref w_DELETE_TOPICS), (.int (13 : Int32)), (.ref b1), (.ref b1)])
  obtain ⟨cl29, Ar29, qq29, sz29, nn29, hh29, gg29⟩ := V27
  have hin29 : ¬ ((13 : Int32) < 0 ∨ cl29.slots.size ≤ ((13 : Int32)).toNatClampNeg) := inb_of sz29 ⟨by decide, by decide⟩
  obtain ⟨T29, h29, X29, e29, W29, st29⟩ := stR X28 hx hZ e28 Ar29 (j := (13 : Int32)) hin29 rfl (Sto.ofV Ar29 qq29 O1 (Ins.self (E_DELETE_TOPICS.ext C_h0_27))) (g := (mkF m 96 #[(.val (.int p0)), (.val (.int p1)), (.val (.int p2)), .unset, .unset, .unset, .unset, .unset, .unset, .unset] [(.ref w_DELETE_TOPICS), (.int (13 : Int32)), (.ref b1), (.ref b1)])) rfl rfl (hb hby at_96)
  have V29 : Arv Z h29 b1 k1 (.object "com/example/kittiwake/kittiwake/wire/ApiKey") 15 [(.ref w_PRODUCE), (.ref w_FETCH), (.ref w_LIST_OFFSETS), (.ref w_METADATA), (.ref w_OFFSET_COMMIT), (.ref w_OFFSET_FETCH), (.ref w_FIND_COORDINATOR), (.ref w_JOIN_GROUP), (.ref w_HEARTBEAT), (.ref w_LEAVE_GROUP), (.ref w_SYNC_GROUP), (.ref w_API_VERSIONS), (.ref w_CREATE_TOPICS), (.ref w_DELETE_TOPICS), .null] .null := Arv.set Ar29 qq29 sz29 nn29 hh29 gg29 rfl W29 13 rfl (Nat.le_of_ble_eq_true rfl)
  refine Owes.by st29 ?_
  show Owes p e below s (QL n0) room_1.cells room_1.slots T29 (mkF m 97 #[(.val (.int p0)), (.val (.int p1)), (.val (.int p2)), .unset, .unset, .unset, .unset, .unset, .unset, .unset] [(.ref b1)])
  have C_h0_29 : Ext h0 h29 := own_extWr C_h0_27 W29 G_h0_1
  have N29 := Fr.snoc X29 N27 gn1
  refine Owes.by (fun _ kq => XS.dup X29.here hx rfl (hb hby at_97) rfl rfl kq) ?_
  show Owes p e below s (QL n0) room_1.cells room_1.slots T29 (mkF m 98 #[(.val (.int p0)), (.val (.int p1)), (.val (.int p2)), .unset, .unset, .unset, .unset, .unset, .unset, .unset] [(.ref b1), (.ref b1)])
  refine Owes.by (fun _ kq => XS.bipush X29.here hx rfl (hb hby at_98) kq) ?_
  show Owes p e below s (QL n0) room_1.cells room_1.slots T29 (mkF m 100 #[(.val (.int p0)), (.val (.int p1)), (.val (.int p2)), .unset, .unset, .unset, .unset, .unset, .unset, .unset] [(.int (14 : Int32)), (.ref b1), (.ref b1)])
  obtain ⟨T30, X30, e30, st30⟩ := getS2 X29 hx hZ hown (host := "") (Or.inl (hw _ (List.mem_of_getElem? (i := 32) rfl))) Via.refl e29 (S_INIT_PRODUCER_ID.ext C_h0_29) (g := (mkF m 100 #[(.val (.int p0)), (.val (.int p1)), (.val (.int p2)), .unset, .unset, .unset, .unset, .unset, .unset, .unset] [(.int (14 : Int32)), (.ref b1), (.ref b1)])) rfl (hb hby at_100)
  refine Owes.by st30 ?_
  show Owes p e below s (QL n0) room_1.cells room_1.slots T30 (mkF m 103 #[(.val (.int p0)), (.val (.int p1)), (.val (.int p2)), .unset, .unset, .unset, .unset, .unset, .unset, .unset] [(.ref w_INIT_PRODUCER_ID), (.int (14 : Int32)), (.ref b1), (.ref b1)])
  obtain ⟨cl31, Ar31, qq31, sz31, nn31, hh31, gg31⟩ := V29
  have hin31 : ¬ ((14 : Int32) < 0 ∨ cl31.slots.size ≤ ((14 : Int32)).toNatClampNeg) := inb_of sz31 ⟨by decide, by decide⟩
  obtain ⟨T31, h31, X31, e31, W31, st31⟩ := stR X30 hx hZ e30 Ar31 (j := (14 : Int32)) hin31 rfl (Sto.ofV Ar31 qq31 O1 (Ins.self (E_INIT_PRODUCER_ID.ext C_h0_29))) (g := (mkF m 103 #[(.val (.int p0)), (.val (.int p1)), (.val (.int p2)), .unset, .unset, .unset, .unset, .unset, .unset, .unset] [(.ref w_INIT_PRODUCER_ID), (.int (14 : Int32)), (.ref b1), (.ref b1)])) rfl rfl (hb hby at_103)
  have V31 : Arv Z h31 b1 k1 (.object "com/example/kittiwake/kittiwake/wire/ApiKey") 15 [(.ref w_PRODUCE), (.ref w_FETCH), (.ref w_LIST_OFFSETS), (.ref w_METADATA), (.ref w_OFFSET_COMMIT), (.ref w_OFFSET_FETCH), (.ref w_FIND_COORDINATOR), (.ref w_JOIN_GROUP), (.ref w_HEARTBEAT), (.ref w_LEAVE_GROUP), (.ref w_SYNC_GROUP), (.ref w_API_VERSIONS), (.ref w_CREATE_TOPICS), (.ref w_DELETE_TOPICS), (.ref w_INIT_PRODUCER_ID)] .null := Arv.set Ar31 qq31 sz31 nn31 hh31 gg31 rfl W31 14 rfl (Nat.le_of_ble_eq_true rfl)
  refine Owes.by st31 ?_
  show Owes p e below s (QL n0) room_1.cells room_1.slots T31 (mkF m 104 #[(.val (.int p0)), (.val (.int p1)), (.val (.int p2)), .unset, .unset, .unset, .unset, .unset, .unset, .unset] [(.ref b1)])
  have C_h0_31 : Ext h0 h31 := own_extWr C_h0_29 W31 G_h0_1
  have N31 := Fr.snoc X31 N29 gn1
  refine Owes.by (fun _ kq => XS.astoreN X31.here hx rfl (hb hby at_104) rfl rfl (l' := #[(.val (.int p0)), (.val (.int p1)), (.val (.int p2)), (.val (.ref b1)), .unset, .unset, .unset, .unset, .unset, .unset]) rfl kq) ?_
  show Owes p e below s (QL n0) room_1.cells room_1.slots T31 (mkF m 105 #[(.val (.int p0)), (.val (.int p1)), (.val (.int p2)), (.val (.ref b1)), .unset, .unset, .unset, .unset, .unset, .unset] [])
  refine Owes.by (fun _ kq => XS.bipush X31.here hx rfl (hb hby at_105) kq) ?_
  show Owes p e below s (QL n0) room_1.cells room_1.slots T31 (mkF m 107 #[(.val (.int p0)), (.val (.int p1)), (.val (.int p2)), (.val (.ref b1)), .unset, .unset, .unset, .unset, .unset, .unset] [(.int (15 : Int32))])
  have C_h31_0 : Ext h31 h31 := ⟨Nat.le_refl _, fun _ _ q => q⟩
  obtain ⟨T32, h32, k32, X32, e32, E32, A32, st32⟩ := newP X31 hx hZ (hw _ (List.mem_of_getElem? (i := 34) rfl)) e31 (g := (mkF m 107 #[(.val (.int p0)), (.val (.int p1)), (.val (.int p2)), (.val (.ref b1)), .unset, .unset, .unset, .unset, .unset, .unset] [(.int (15 : Int32))])) rfl (hb hby at_107) rfl (by decide) (cap := 15) (by decide) (by decide) (by decide) (by decide)
  obtain ⟨b32, g32⟩ : ∃ z, z = h31.size := ⟨_, rfl⟩
  rw [← g32] at A32 st32
  have V32 : Arv Z h32 b32 k32 .int 15 [(.int (0 : Int32)), (.int (0 : Int32)), (.int (0 : Int32)), (.int (0 : Int32)), (.int (0 : Int32)), (.int (0 : Int32)), (.int (0 : Int32)), (.int (0 : Int32)), (.int (0 : Int32)), (.int (0 : Int32)), (.int (0 : Int32)), (.int (0 : Int32)), (.int (0 : Int32)), (.int (0 : Int32)), (.int (0 : Int32))] (.int (0 : Int32)) := (Arv.new A32 (by decide)).pad (pad_rep [] (.int (0 : Int32)) 15)
  refine Owes.by st32 ?_
  show Owes p e below s (QL n0) room_1.cells room_1.slots T32 (mkF m 109 #[(.val (.int p0)), (.val (.int p1)), (.val (.int p2)), (.val (.ref b1)), .unset, .unset, .unset, .unset, .unset, .unset] [(.ref b32)])
  have G_h0_32 : h0.size ≤ b32 := Nat.le_trans C_h0_31.1 (Nat.le_of_eq g32.symm)
  have C_h0_32 : Ext h0 h32 := own_extT C_h0_31 E32
  have G_h31_32 : h31.size ≤ b32 := Nat.le_trans C_h31_0.1 (Nat.le_of_eq g32.symm)
  have C_h31_32 : Ext h31 h32 := own_extT C_h31_0 E32
  have gn32 : n0 ≤ b32 := Nat.le_trans Z0 G_h0_32
  refine Owes.by (fun _ kq => XS.dup X32.here hx rfl (hb hby at_109) rfl rfl kq) ?_
  show Owes p e below s (QL n0) room_1.cells room_1.slots T32 (mkF m 110 #[(.val (.int p0)), (.val (.int p1)), (.val (.int p2)), (.val (.ref b1)), .unset, .unset, .unset, .unset, .unset, .unset] [(.ref b32), (.ref b32)])
  refine Owes.by (fun _ kq => XS.iconst X32.here hx rfl (hb hby at_110) kq) ?_
  show Owes p e below s (QL n0) room_1.cells room_1.slots T32 (mkF m 111 #[(.val (.int p0)), (.val (.int p1)), (.val (.int p2)), (.val (.ref b1)), .unset, .unset, .unset, .unset, .unset, .unset] [(.int (0 : Int32)), (.ref b32), (.ref b32)])
  refine Owes.by (fun _ kq => XS.iconst X32.here hx rfl (hb hby at_111) kq) ?_
  show Owes p e below s (QL n0) room_1.cells room_1.slots T32 (mkF m 112 #[(.val (.int p0)), (.val (.int p1)), (.val (.int p2)), (.val (.ref b1)), .unset, .unset, .unset, .unset, .unset, .unset] [(.int (0 : Int32)), (.int (0 : Int32)), (.ref b32), (.ref b32)])
  obtain ⟨cl33, Ar33, qq33, sz33, nn33, hh33, gg33⟩ := V32
  have hin33 : ¬ ((0 : Int32) < 0 ∨ cl33.slots.size ≤ ((0 : Int32)).toNatClampNeg) := inb_of sz33 ⟨by decide, by decide⟩
  obtain ⟨T33, h33, X33, e33, W33, st33⟩ := stI X32 hx hZ e32 Ar33 (j := (0 : Int32)) hin33 (g := (mkF m 112 #[(.val (.int p0)), (.val (.int p1)), (.val (.int p2)), (.val (.ref b1)), .unset, .unset, .unset, .unset, .unset, .unset] [(.int (0 : Int32)), (.int (0 : Int32)), (.ref b32), (.ref b32)])) rfl rfl (hb hby at_112)
  have V33 : Arv Z h33 b32 k32 .int 15 [(.int (0 : Int32)), (.int (0 : Int32)), (.int (0 : Int32)), (.int (0 : Int32)), (.int (0 : Int32)), (.int (0 : Int32)), (.int (0 : Int32)), (.int (0 : Int32)), (.int (0 : Int32)), (.int (0 : Int32)), (.int (0 : Int32)), (.int (0 : Int32)), (.int (0 : Int32)), (.int (0 : Int32)), (.int (0 : Int32))] (.int (0 : Int32)) := Arv.set Ar33 qq33 sz33 nn33 hh33 gg33 rfl W33 0 rfl (Nat.le_of_ble_eq_true rfl)
  refine Owes.by st33 ?_
  show Owes p e below s (QL n0) room_1.cells room_1.slots T33 (mkF m 113 #[(.val (.int p0)), (.val (.int p1)), (.val (.int p2)), (.val (.ref b1)), .unset, .unset, .unset, .unset, .unset, .unset] [(.ref b32)])
  have C_h0_33 : Ext h0 h33 := own_extWr C_h0_32 W33 G_h0_32
  have C_h31_33 : Ext h31 h33 := own_extWr C_h31_32 W33 G_h31_32
  have N33 := Fr.snoc X33 N31 gn32
  refine Owes.by (fun _ kq => XS.dup X33.here hx rfl (hb hby at_113) rfl rfl kq) ?_
  show Owes p e below s (QL n0) room_1.cells room_1.slots T33 (mkF m 114 #[(.val (.int p0)), (.val (.int p1)), (.val (.int p2)), (.val (.ref b1)), .unset, .unset, .unset, .unset, .unset, .unset] [(.ref b32), (.ref b32)])
  refine Owes.by (fun _ kq => XS.iconst X33.here hx rfl (hb hby at_114) kq) ?_
  show Owes p e below s (QL n0) room_1.cells room_1.slots T33 (mkF m 115 #[(.val (.int p0)), (.val (.int p1)), (.val (.int p2)), (.val (.ref b1)), .unset, .unset, .unset, .unset, .unset, .unset] [(.int (1 : Int32)), (.ref b32), (.ref b32)])
  refine Owes.by (fun _ kq => XS.iconst X33.here hx rfl (hb hby at_115) kq) ?_
  show Owes p e below s (QL n0) room_1.cells room_1.slots T33 (mkF m 116 #[(.val (.int p0)), (.val (.int p1)), (.val (.int p2)), (.val (.ref b1)), .unset, .unset, .unset, .unset, .unset, .unset] [(.int (4 : Int32)), (.int (1 : Int32)), (.ref b32), (.ref b32)])
  obtain ⟨cl34, Ar34, qq34, sz34, nn34, hh34, gg34⟩ := V33
  have hin34 : ¬ ((1 : Int32) < 0 ∨ cl34.slots.size ≤ ((1 : Int32)).toNatClampNeg) := inb_of sz34 ⟨by decide, by decide⟩
  obtain ⟨T34, h34, X34, e34, W34, st34⟩ := stI X33 hx hZ e33 Ar34 (j := (1 : Int32)) hin34 (g := (mkF m 116 #[(.val (.int p0)), (.val (.int p1)), (.val (.int p2)), (.val (.ref b1)), .unset, .unset, .unset, .unset, .unset, .unset] [(.int (4 : Int32)), (.int (1 : Int32)), (.ref b32), (.ref b32)])) rfl rfl (hb hby at_116)
  have V34 : Arv Z h34 b32 k32 .int 15 [(.int (0 : Int32)), (.int (4 : Int32)), (.int (0 : Int32)), (.int (0 : Int32)), (.int (0 : Int32)), (.int (0 : Int32)), (.int (0 : Int32)), (.int (0 : Int32)), (.int (0 : Int32)), (.int (0 : Int32)), (.int (0 : Int32)), (.int (0 : Int32)), (.int (0 : Int32)), (.int (0 : Int32)), (.int (0 : Int32))] (.int (0 : Int32)) := Arv.set Ar34 qq34 sz34 nn34 hh34 gg34 rfl W34 1 rfl (Nat.le_of_ble_eq_true rfl)
  refine Owes.by st34 ?_
  show Owes p e below s (QL n0) room_1.cells room_1.slots T34 (mkF m 117 #[(.val (.int p0)), (.val (.int p1)), (.val (.int p2)), (.val (.ref b1)), .unset, .unset, .unset, .unset, .unset, .unset] [(.ref b32)])
  have C_h0_34 : Ext h0 h34 := own_extWr C_h0_33 W34 G_h0_32
  have C_h31_34 : Ext h31 h34 := own_extWr C_h31_33 W34 G_h31_32
  have N34 := Fr.snoc X34 N33 gn32
  refine Owes.by (fun _ kq => XS.dup X34.here hx rfl (hb hby at_117) rfl rfl kq) ?_
  show Owes p e below s (QL n0) room_1.cells room_1.slots T34 (mkF m 118 #[(.val (.int p0)), (.val (.int p1)), (.val (.int p2)), (.val (.ref b1)), .unset, .unset, .unset, .unset, .unset, .unset] [(.ref b32), (.ref b32)])
  refine Owes.by (fun _ kq => XS.iconst X34.here hx rfl (hb hby at_118) kq) ?_
  show Owes p e below s (QL n0) room_1.cells room_1.slots T34 (mkF m 119 #[(.val (.int p0)), (.val (.int p1)), (.val (.int p2)), (.val (.ref b1)), .unset, .unset, .unset, .unset, .unset, .unset] [(.int (2 : Int32)), (.ref b32), (.ref b32)])
  refine Owes.by (fun _ kq => XS.iconst X34.here hx rfl (hb hby at_119) kq) ?_
  show Owes p e below s (QL n0) room_1.cells room_1.slots T34 (mkF m 120 #[(.val (.int p0)), (.val (.int p1)), (.val (.int p2)), (.val (.ref b1)), .unset, .unset, .unset, .unset, .unset, .unset] [(.int (1 : Int32)), (.int (2 : Int32)), (.ref b32), (.ref b32)])
  obtain ⟨cl35, Ar35, qq35, sz35, nn35, hh35, gg35⟩ := V34
  have hin35 : ¬ ((2 : Int32) < 0 ∨ cl35.slots.size ≤ ((2 : Int32)).toNatClampNeg) := inb_of sz35 ⟨by decide, by decide⟩
  obtain ⟨T35, h35, X35, e35, W35, st35⟩ := stI X34 hx hZ e34 Ar35 (j := (2 : Int32)) hin35 (g := (mkF m 120 #[(.val (.int p0)), (.val (.int p1)), (.val (.int p2)), (.val (.ref b1)), .unset, .unset, .unset, .unset, .unset, .unset] [(.int (1 : Int32)), (.int (2 : Int32)), (.ref b32), (.ref b32)])) rfl rfl (hb hby at_120)
  have V35 : Arv Z h35 b32 k32 .int 15 [(.int (0 : Int32)), (.int (4 : Int32)), (.int (1 : Int32)), (.int (0 : Int32)), (.int (0 : Int32)), (.int (0 : Int32)), (.int (0 : Int32)), (.int (0 : Int32)), (.int (0 : Int32)), (.int (0 : Int32)), (.int (0 : Int32)), (.int (0 : Int32)), (.int (0 : Int32)), (.int (0 : Int32)), (.int (0 : Int32))] (.int (0 : Int32)) := Arv.set Ar35 qq35 sz35 nn35 hh35 gg35 rfl W35 2 rfl (Nat.le_of_ble_eq_true rfl)
  refine Owes.by st35 ?_
  show Owes p e below s (QL n0) room_1.cells room_1.slots T35 (mkF m 121 #[(.val (.int p0)), (.val (.int p1)), (.val (.int p2)), (.val (.ref b1)), .unset, .unset, .unset, .unset, .unset, .unset] [(.ref b32)])
  have C_h0_35 : Ext h0 h35 := own_extWr C_h0_34 W35 G_h0_32
  have C_h31_35 : Ext h31 h35 := own_extWr C_h31_34 W35 G_h31_32
  have N35 := Fr.snoc X35 N34 gn32
  refine Owes.by (fun _ kq => XS.dup X35.here hx rfl (hb hby at_121) rfl rfl kq) ?_
  show Owes p e below s (QL n0) room_1.cells room_1.slots T35 (mkF m 122 #[(.val (.int p0)), (.val (.int p1)), (.val (.int p2)), (.val (.ref b1)), .unset, .unset, .unset, .unset, .unset, .unset] [(.ref b32), (.ref b32)])
  refine Owes.by (fun _ kq => XS.iconst X35.here hx rfl (hb hby at_122) kq) ?_
  show Owes p e below s (QL n0) room_1.cells room_1.slots T35 (mkF m 123 #[(.val (.int p0)), (.val (.int p1)), (.val (.int p2)), (.val (.ref b1)), .unset, .unset, .unset, .unset, .unset, .unset] [(.int (3 : Int32)), (.ref b32), (.ref b32)])
  refine Owes.by (fun _ kq => XS.iconst X35.here hx rfl (hb hby at_123) kq) ?_
  show Owes p e below s (QL n0) room_1.cells room_1.slots T35 (mkF m 124 #[(.val (.int p0)), (.val (.int p1)), (.val (.int p2)), (.val (.ref b1)), .unset, .unset, .unset, .unset, .unset, .unset] [(.int (0 : Int32)), (.int (3 : Int32)), (.ref b32), (.ref b32)])
  obtain ⟨cl36, Ar36, qq36, sz36, nn36, hh36, gg36⟩ := V35
  have hin36 : ¬ ((3 : Int32) < 0 ∨ cl36.slots.size ≤ ((3 : Int32)).toNatClampNeg) := inb_of sz36 ⟨by decide, by decide⟩
  obtain ⟨T36, h36, X36, e36, W36, st36⟩ := stI X35 hx hZ e35 Ar36 (j := (3 : Int32)) hin36 (g := (mkF m 124 #[(.val (.int p0)), (.val (.int p1)), (.val (.int p2)), (.val (.ref b1)), .unset, .unset, .unset, .unset, .unset, .unset] [(.int (0 : Int32)), (.int (3 : Int32)), (.ref b32), (.ref b32)])) rfl rfl (hb hby at_124)
  have V36 : Arv Z h36 b32 k32 .int 15 [(.int (0 : Int32)), (.int (4 : Int32)), (.int (1 : Int32)), (.int (0 : Int32)), (.int (0 : Int32)), (.int (0 : Int32)), (.int (0 : Int32)), (.int (0 : Int32)), (.int (0 : Int32)), (.int (0 : Int32)), (.int (0 : Int32)), (.int (0 : Int32)), (.int (0 : Int32)), (.int (0 : Int32)), (.int (0 : Int32))] (.int (0 : Int32)) := Arv.set Ar36 qq36 sz36 nn36 hh36 gg36 rfl W36 3 rfl (Nat.le_of_ble_eq_true rfl)
  refine Owes.by st36 ?_
  show Owes p e below s (QL n0) room_1.cells room_1.slots T36 (mkF m 125 #[(.val (.int p0)), (.val (.int p1)), (.val (.int p2)), (.val (.ref b1)), .unset, .unset, .unset, .unset, .unset, .unset] [(.ref b32)])
  have C_h0_36 : Ext h0 h36 := own_extWr C_h0_35 W36 G_h0_32
  have C_h31_36 : Ext h31 h36 := own_extWr C_h31_35 W36 G_h31_32
  have N36 := Fr.snoc X36 N35 gn32
  refine Owes.by (fun _ kq => XS.dup X36.here hx rfl (hb hby at_125) rfl rfl kq) ?_
  show Owes p e below s (QL n0) room_1.cells room_1.slots T36 (mkF m 126 #[(.val (.int p0)), (.val (.int p1)), (.val (.int p2)), (.val (.ref b1)), .unset, .unset, .unset, .unset, .unset, .unset] [(.ref b32), (.ref b32)])
  refine Owes.by (fun _ kq => XS.iconst X36.here hx rfl (hb hby at_126) kq) ?_
  show Owes p e below s (QL n0) room_1.cells room_1.slots T36 (mkF m 127 #[(.val (.int p0)), (.val (.int p1)), (.val (.int p2)), (.val (.ref b1)), .unset, .unset, .unset, .unset, .unset, .unset] [(.int (4 : Int32)), (.ref b32), (.ref b32)])
  refine Owes.by (fun _ kq => XS.iconst X36.here hx rfl (hb hby at_127) kq) ?_
  show Owes p e below s (QL n0) room_1.cells room_1.slots T36 (mkF m 128 #[(.val (.int p0)), (.val (.int p1)), (.val (.int p2)), (.val (.ref b1)), .unset, .unset, .unset, .unset, .unset, .unset] [(.int (0 : Int32)), (.int (4 : Int32)), (.ref b32), (.ref b32)])
  obtain ⟨cl37, Ar37, qq37, sz37, nn37, hh37, gg37⟩ := V36
  have hin37 : ¬ ((4 : Int32) < 0 ∨ cl37.slots.size ≤ ((4 : Int32)).toNatClampNeg) := inb_of sz37 ⟨by decide, by decide⟩
  obtain ⟨T37, h37, X37, e37, W37, st37⟩ := stI X36 hx hZ e36 Ar37 (j := (4 : Int32)) hin37 (g := (mkF m 128 #[(.val (.int p0)), (.val (.int p1)), (.val (.int p2)), (.val (.ref b1)), .unset, .unset, .unset, .unset, .unset, .unset] [(.int (0 : Int32)), (.int (4 : Int32)), (.ref b32), (.ref b32)])) rfl rfl (hb hby at_128)
  have V37 : Arv Z h37 b32 k32 .int 15 [(.int (0 : Int32)), (.int (4 : Int32)), (.int (1 : Int32)), (.int (0 : Int32)), (.int (0 : Int32)), (.int (0 : Int32)), (.int (0 : Int32)), (.int (0 : Int32)), (.int (0 : Int32)), (.int (0 : Int32)), (.int (0 : Int32)), (.int (0 : Int32)), (.int (0 : Int32)), (.int (0 : Int32)), (.int (0 : Int32))] (.int (0 : Int32)) := Arv.set Ar37 qq37 sz37 nn37 hh37 gg37 rfl W37 4 rfl (Nat.le_of_ble_eq_true rfl)
  refine Owes.by st37 ?_
  show Owes p e below s (QL n0) room_1.cells room_1.slots T37 (mkF m 129 #[(.val (.int p0)), (.val (.int p1)), (.val (.int p2)), (.val (.ref b1)), .unset, .unset, .unset, .unset, .unset, .unset] [(.ref b32)])
  have C_h0_37 : Ext h0 h37 := own_extWr C_h0_36 W37 G_h0_32
  have C_h31_37 : Ext h31 h37 := own_extWr C_h31_36 W37 G_h31_32
  have N37 := Fr.snoc X37 N36 gn32
  refine Owes.by (fun _ kq => XS.dup X37.here hx rfl (hb hby at_129) rfl rfl kq) ?_
  show Owes p e below s (QL n0) room_1.cells room_1.slots T37 (mkF m 130 #[(.val (.int p0)), (.val (.int p1)), (.val (.int p2)), (.val (.ref b1)), .unset, .unset, .unset, .unset, .unset, .unset] [(.ref b32), (.ref b32)])
  refine Owes.by (fun _ kq => XS.iconst X37.here hx rfl (hb hby at_130) kq) ?_
  show Owes p e below s (QL n0) room_1.cells room_1.slots T37 (mkF m 131 #[(.val (.int p0)), (.val (.int p1)), (.val (.int p2)), (.val (.ref b1)), .unset, .unset, .unset, .unset, .unset, .unset] [(.int (5 : Int32)), (.ref b32), (.ref b32)])
  refine Owes.by (fun _ kq => XS.iconst X37.here hx rfl (hb hby at_131) kq) ?_
  show Owes p e below s (QL n0) room_1.cells room_1.slots T37 (mkF m 132 #[(.val (.int p0)), (.val (.int p1)), (.val (.int p2)), (.val (.ref b1)), .unset, .unset, .unset, .unset, .unset, .unset] [(.int (0 : Int32)), (.int (5 : Int32)), (.ref b32), (.ref b32)])
  obtain ⟨cl38, Ar38, qq38, sz38, nn38, hh38, gg38⟩ := V37
  have hin38 : ¬ ((5 : Int32) < 0 ∨ cl38.slots.size ≤ ((5 : Int32)).toNatClampNeg) := inb_of sz38 ⟨by decide, by decide⟩
  obtain ⟨T38, h38, X38, e38, W38, st38⟩ := stI X37 hx hZ e37 Ar38 (j := (5 : Int32)) hin38 (g := (mkF m 132 #[(.val (.int p0)), (.val (.int p1)), (.val (.int p2)), (.val (.ref b1)), .unset, .unset, .unset, .unset, .unset, .unset] [(.int (0 : Int32)), (.int (5 : Int32)), (.ref b32), (.ref b32)])) rfl rfl (hb hby at_132)
  have V38 : Arv Z h38 b32 k32 .int 15 [(.int (0 : Int32)), (.int (4 : Int32)), (.int (1 : Int32)), (.int (0 : Int32)), (.int (0 : Int32)), (.int (0 : Int32)), (.int (0 : Int32)), (.int (0 : Int32)), (.int (0 : Int32)), (.int (0 : Int32)), (.int (0 : Int32)), (.int (0 : Int32)), (.int (0 : Int32)), (.int (0 : Int32)), (.int (0 : Int32))] (.int (0 : Int32)) := Arv.set Ar38 qq38 sz38 nn38 hh38 gg38 rfl W38 5 rfl (Nat.le_of_ble_eq_true rfl)
  refine Owes.by st38 ?_
  show Owes p e below s (QL n0) room_1.cells room_1.slots T38 (mkF m 133 #[(.val (.int p0)), (.val (.int p1)), (.val (.int p2)), (.val (.ref b1)), .unset, .unset, .unset, .unset, .unset, .unset] [(.ref b32)])
  have C_h0_38 : Ext h0 h38 := own_extWr C_h0_37 W38 G_h0_32
  have C_h31_38 : Ext h31 h38 := own_extWr C_h31_37 W38 G_h31_32
  have N38 := Fr.snoc X38 N37 gn32
  refine Owes.by (fun _ kq => XS.dup X38.here hx rfl (hb hby at_133) rfl rfl kq) ?_
  show Owes p e below s (QL n0) room_1.cells room_1.slots T38 (mkF m 134 #[(.val (.int p0)), (.val (.int p1)), (.val (.int p2)), (.val (.ref b1)), .unset, .unset, .unset, .unset, .unset, .unset] [(.ref b32), (.ref b32)])
  refine Owes.by (fun _ kq => XS.bipush X38.here hx rfl (hb hby at_134) kq) ?_
  show Owes p e below s (QL n0) room_1.cells room_1.slots T38 (mkF m 136 #[(.val (.int p0)), (.val (.int p1)), (.val (.int p2)), (.val (.ref b1)), .unset, .unset, .unset, .unset, .unset, .unset] [(.int (6 : Int32)), (.ref b32), (.ref b32)])
  refine Owes.by (fun _ kq => XS.iconst X38.here hx rfl (hb hby at_136) kq) ?_
  show Owes p e below s (QL n0) room_1.cells room_1.slots T38 (mkF m 137 #[(.val (.int p0)), (.val (.int p1)), (.val (.int p2)), (.val (.ref b1)), .unset, .unset, .unset, .unset, .unset, .unset] [(.int (0 : Int32)), (.int (6 : Int32)), (.ref b32), (.ref b32)])
  obtain ⟨cl39, Ar39, qq39, sz39, nn39, hh39, gg39⟩ := V38
  have hin39 : ¬ ((6 : Int32) < 0 ∨ cl39.slots.size ≤ ((6 : Int32)).toNatClampNeg) := inb_of sz39 ⟨by decide, by decide⟩
  obtain ⟨T39, h39, X39, e39, W39, st39⟩ := stI X38 hx hZ e38 Ar39 (j := (6 : Int32)) hin39 (g := (mkF m 137 #[(.val (.int p0)), (.val (.int p1)), (.val (.int p2)), (.val (.ref b1)), .unset, .unset, .unset, .unset, .unset, .unset] [(.int (0 : Int32)), (.int (6 : Int32)), (.ref b32), (.ref b32)])) rfl rfl (hb hby at_137)
  have V39 : Arv Z h39 b32 k32 .int 15 [(.int (0 : Int32)), (.int (4 : Int32)), (.int (1 : Int32)), (.int (0 : Int32)), (.int (0 : Int32)), (.int (0 : Int32)), (.int (0 : Int32)), (.int (0 : Int32)), (.int (0 : Int32)), (.int (0 : Int32)), (.int (0 : Int32)), (.int (0 : Int32)), (.int (0 : Int32)), (.int (0 : Int32)), (.int (0 : Int32))] (.int (0 : Int32)) := Arv.set Ar39 qq39 sz39 nn39 hh39 gg39 rfl W39 6 rfl (Nat.le_of_ble_eq_true rfl)
  refine Owes.by st39 ?_
  show Owes p e below s (QL n0) room_1.cells room_1.slots T39 (mkF m 138 #[(.val (.int p0)), (.val (.int p1)), (.val (.int p2)), (.val (.ref b1)), .unset, .unset, .unset, .unset, .unset, .unset] [(.ref b32)])
  have C_h0_39 : Ext h0 h39 := own_extWr C_h0_38 W39 G_h0_32
  have C_h31_39 : Ext h31 h39 := own_extWr C_h31_38 W39 G_h31_32
  have N39 := Fr.snoc X39 N38 gn32
  refine Owes.by (fun _ kq => XS.dup X39.here hx rfl (hb hby at_138) rfl rfl kq) ?_
  show Owes p e below s (QL n0) room_1.cells room_1.slots T39 (mkF m 139 #[(.val (.int p0)), (.val (.int p1)), (.val (.int p2)), (.val (.ref b1)), .unset, .unset, .unset, .unset, .unset, .unset] [(.ref b32), (.ref b32)])
  refine Owes.by (fun _ kq => XS.bipush X39.here hx rfl (hb hby at_139) kq) ?_
  show Owes p e below s (QL n0) room_1.cells room_1.slots T39 (mkF m 141 #[(.val (.int p0)), (.val (.int p1)), (.val (.int p2)), (.val (.ref b1)), .unset, .unset, .unset, .unset, .unset, .unset] [(.int (7 : Int32)), (.ref b32), (.ref b32)])
  refine Owes.by (fun _ kq => XS.iconst X39.here hx rfl (hb hby at_141) kq) ?_
  show Owes p e below s (QL n0) room_1.cells room_1.slots T39 (mkF m 142 #[(.val (.int p0)), (.val (.int p1)), (.val (.int p2)), (.val (.ref b1)), .unset, .unset, .unset, .unset, .unset, .unset] [(.int (0 : Int32)), (.int (7 : Int32)), (.ref b32), (.ref b32)])
  obtain ⟨cl40, Ar40, qq40, sz40, nn40, hh40, gg40⟩ := V39
  have hin40 : ¬ ((7 : Int32) < 0 ∨ cl40.slots.size ≤ ((7 : Int32)).toNatClampNeg) := inb_of sz40 ⟨by decide, by decide⟩
  obtain ⟨T40, h40, X40, e40, W40, st40⟩ := stI X39 hx hZ e39 Ar40 (j := (7 : Int32)) hin40 (g := (mkF m 142 #[(.val (.int p0)), (.val (.int p1)), (.val (.int p2)), (.val (.ref b1)), .unset, .unset, .unset, .unset, .unset, .unset] [(.int (0 : Int32)), (.int (7 : Int32)), (.ref b32), (.ref b32)])) rfl rfl (hb hby at_142)
  have V40 : Arv Z h40 b32 k32 .int 15 [(.int (0 : Int32)), (.int (4 : Int32)), (.int (1 : Int32)), (.int (0 : Int32)), (.int (0 : Int32)), (.int (0 : Int32)), (.int (0 : Int32)), (.int (0 : Int32)), (.int (0 : Int32)), (.int (0 : Int32)), (.int (0 : Int32)), (.int (0 : Int32)), (.int (0 : Int32)), (.int (0 : Int32)), (.int (0 : Int32))] (.int (0 : Int32)) := Arv.set Ar40 qq40 sz40 nn40 hh40 gg40 rfl W40 7 rfl (Nat.le_of_ble_eq_true rfl)
  refine Owes.by st40 ?_
  show Owes p e below s (QL n0) room_1.cells room_1.slots T40 (mkF m 143 #[(.val (.int p0)), (.val (.int p1)), (.val (.int p2)), (.val (.ref b1)), .unset, .unset, .unset, .unset, .unset, .unset] [(.ref b32)])
  have C_h0_40 : Ext h0 h40 := own_extWr C_h0_39 W40 G_h0_32
  have C_h31_40 : Ext h31 h40 := own_extWr C_h31_39 W40 G_h31_32
  have N40 := Fr.snoc X40 N39 gn32
  refine Owes.by (fun _ kq => XS.dup X40.here hx rfl (hb hby at_143) rfl rfl kq) ?_
  show Owes p e below s (QL n0) room_1.cells room_1.slots T40 (mkF m 144 #[(.val (.int p0)), (.val (.int p1)), (.val (.int p2)), (.val (.ref b1)), .unset, .unset, .unset, .unset, .unset, .unset] [(.ref b32), (.ref b32)])
  refine Owes.by (fun _ kq => XS.bipush X40.here hx rfl (hb hby at_144) kq) ?_
  show Owes p e below s (QL n0) room_1.cells room_1.slots T40 (mkF m 146 #[(.val (.int p0)), (.val (.int p1)), (.val (.int p2)), (.val (.ref b1)), .unset, .unset, .unset, .unset, .unset, .unset] [(.int (8 : Int32)), (.ref b32), (.ref b32)])
  refine Owes.by (fun _ kq => XS.iconst X40.here hx rfl (hb hby at_146) kq) ?_
  show Owes p e below s (QL n0) room_1.cells room_1.slots T40 (mkF m 147 #[(.val (.int p0)), (.val (.int p1)), (.val (.int p2)), (.val (.ref b1)), .unset, .unset, .unset, .unset, .unset, .unset] [(.int (0 : Int32)), (.int (8 : Int32)), (.ref b32), (.ref b32)])
  obtain ⟨cl41, Ar41, qq41, sz41, nn41, hh41, gg41⟩ := V40
  have hin41 : ¬ ((8 : Int32) < 0 ∨ cl41.slots.size ≤ ((8 : Int32)).toNatClampNeg) := inb_of sz41 ⟨by decide, by decide⟩
  obtain ⟨T41, h41, X41, e41, W41, st41⟩ := stI X40 hx hZ e40 Ar41 (j := (8 : Int32)) hin41 (g := (mkF m 147 #[(.val (.int p0)), (.val (.int p1)), (.val (.int p2)), (.val (.ref b1)), .unset, .unset, .unset, .unset, .unset, .unset] [(.int (0 : Int32)), (.int (8 : Int32)), (.ref b32), (.ref b32)])) rfl rfl (hb hby at_147)
  have V41 : Arv Z h41 b32 k32 .int 15 [(.int (0 : Int32)), (.int (4 : Int32)), (.int (1 : Int32)), (.int (0 : Int32)), (.int (0 : Int32)), (.int (0 : Int32)), (.int (0 : Int32)), (.int (0 : Int32)), (.int (0 : Int32)), (.int (0 : Int32)), (.int (0 : Int32)), (.int (0 : Int32)), (.int (0 : Int32)), (.int (0 : Int32)), (.int (0 : Int32))] (.int (0 : Int32)) := Arv.set Ar41 qq41 sz41 nn41 hh41 gg41 rfl W41 8 rfl (Nat.le_of_ble_eq_true rfl)
  refine Owes.by st41 ?_
  show Owes p e below s (QL n0) room_1.cells room_1.slots T41 (mkF m 148 #[(.val (.int p0)), (.val (.int p1)), (.val (.int p2)), (.val (.ref b1)), .unset, .unset, .unset, .unset, .unset, .unset] [(.ref b32)])
  have C_h0_41 : Ext h0 h41 := own_extWr C_h0_40 W41 G_h0_32
  have C_h31_41 : Ext h31 h41 := own_extWr C_h31_40 W41 G_h31_32
  have N41 := Fr.snoc X41 N40 gn32
  refine Owes.by (fun _ kq => XS.dup X41.here hx rfl (hb hby at_148) rfl rfl kq) ?_
  show Owes p e below s (QL n0) room_1.cells room_1.slots T41 (mkF m 149 #[(.val (.int p0)), (.val (.int p1)), (.val (.int p2)), (.val (.ref b1)), .unset, .unset, .unset, .unset, .unset, .unset] [(.ref b32), (.ref b32)])
  refine Owes.by (fun _ kq => XS.bipush X41.here hx rfl (hb hby at_149) kq) ?_
  show Owes p e below s (QL n0) room_1.cells room_1.slots T41 (mkF m 151 #[(.val (.int p0)), (.val (.int p1)), (.val (.int p2)), (.val (.ref b1)), .unset, .unset, .unset, .unset, .unset, .unset] [(.int (9 : Int32)), (.ref b32), (.ref b32)])
  refine Owes.by (fun _ kq => XS.iconst X41.here hx rfl (hb hby at_151) kq) ?_
  show Owes p e below s (QL n0) room_1.cells room_1.slots T41 (mkF m 152 #[(.val (.int p0)), (.val (.int p1)), (.val (.int p2)), (.val (.ref b1)), .unset, .unset, .unset, .unset, .unset, .unset] [(.int (0 : Int32)), (.int (9 : Int32)), (.ref b32), (.ref b32)])
  obtain ⟨cl42, Ar42, qq42, sz42, nn42, hh42, gg42⟩ := V41
  have hin42 : ¬ ((9 : Int32) < 0 ∨ cl42.slots.size ≤ ((9 : Int32)).toNatClampNeg) := inb_of sz42 ⟨by decide, by decide⟩
  obtain ⟨T42, h42, X42, e42, W42, st42⟩ := stI X41 hx hZ e41 Ar42 (j := (9 : Int32)) hin42 (g := (mkF m 152 #[(.val (.int p0)), (.val (.int p1)), (.val (.int p2)), (.val (.ref b1)), .unset, .unset, .unset, .unset, .unset, .unset] [(.int (0 : Int32)), (.int (9 : Int32)), (.ref b32), (.ref b32)])) rfl rfl (hb hby at_152)
  have V42 : Arv Z h42 b32 k32 .int 15 [(.int (0 : Int32)), (.int (4 : Int32)), (.int (1 : Int32)), (.int (0 : Int32)), (.int (0 : Int32)), (.int (0 : Int32)), (.int (0 : Int32)), (.int (0 : Int32)), (.int (0 : Int32)), (.int (0 : Int32)), (.int (0 : Int32)), (.int (0 : Int32)), (.int (0 : Int32)), (.int (0 : Int32)), (.int (0 : Int32))] (.int (0 : Int32)) := Arv.set Ar42 qq42 sz42 nn42 hh42 gg42 rfl W42 9 rfl (Nat.le_of_ble_eq_true rfl)
  refine Owes.by st42 ?_
  show Owes p e below s (QL n0) room_1.cells room_1.slots T42 (mkF m 153 #[(.val (.int p0)), (.val (.int p1)), (.val (.int p2)), (.val (.ref b1)), .unset, .unset, .unset, .unset, .unset, .unset] [(.ref b32)])
  have C_h0_42 : Ext h0 h42 := own_extWr C_h0_41 W42 G_h0_32
  have C_h31_42 : Ext h31 h42 := own_extWr C_h31_41 W42 G_h31_32
  have N42 := Fr.snoc X42 N41 gn32
  refine Owes.by (fun _ kq => XS.dup X42.here hx rfl (hb hby at_153) rfl rfl kq) ?_
  show Owes p e below s (QL n0) room_1.cells room_1.slots T42 (mkF m 154 #[(.val (.int p0)), (.val (.int p1)), (.val (.int p2)), (.val (.ref b1)), .unset, .unset, .unset, .unset, .unset, .unset] [(.ref b32), (.ref b32)])
  refine Owes.by (fun _ kq => XS.bipush X42.here hx rfl (hb hby at_154) kq) ?_
  show Owes p e below s (QL n0) room_1.cells room_1.slots T42 (mkF m 156 #[(.val (.int p0)), (.val (.int p1)), (.val (.int p2)), (.val (.ref b1)), .unset, .unset, .unset, .unset, .unset, .unset] [(.int (10 : Int32)), (.ref b32), (.ref b32)])
  refine Owes.by (fun _ kq => XS.iconst X42.here hx rfl (hb hby at_156) kq) ?_
  show Owes p e below s (QL n0) room_1.cells room_1.slots T42 (mkF m 157 #[(.val (.int p0)), (.val (.int p1)), (.val (.int p2)), (.val (.ref b1)), .unset, .unset, .unset, .unset, .unset, .unset] [(.int (0 : Int32)), (.int (10 : Int32)), (.ref b32), (.ref b32)])
  obtain ⟨cl43, Ar43, qq43, sz43, nn43, hh43, gg43⟩ := V42
  have hin43 : ¬ ((10 : Int32) < 0 ∨ cl43.slots.size ≤ ((10 : Int32)).toNatClampNeg) := inb_of sz43 ⟨by decide, by decide⟩
  obtain ⟨T43, h43, X43, e43, W43, st43⟩ := stI X42 hx hZ e42 Ar43 (j := (10 : Int32)) hin43 (g := (mkF m 157 #[(.val (.int p0)), (.val (.int p1)), (.val (.int p2)), (.val (.ref b1)), .unset, .unset, .unset, .unset, .unset, .unset] [(.int (0 : Int32)), (.int (10 : Int32)), (.ref b32), (.ref b32)])) rfl rfl (hb hby at_157)
  have V43 : Arv Z h43 b32 k32 .int 15 [(.int (0 : Int32)), (.int (4 : Int32)), (.int (1 : Int32)), (.int (0 : Int32)), (.int (0 : Int32)), (.int (0 : Int32)), (.int (0 : Int32)), (.int (0 : Int32)), (.int (0 : Int32)), (.int (0 : Int32)), (.int (0 : Int32)), (.int (0 : Int32)), (.int (0 : Int32)), (.int (0 : Int32)), (.int (0 : Int32))] (.int (0 : Int32)) := Arv.set Ar43 qq43 sz43 nn43 hh43 gg43 rfl W43 10 rfl (Nat.le_of_ble_eq_true rfl)
  refine Owes.by st43 ?_
  show Owes p e below s (QL n0) room_1.cells room_1.slots T43 (mkF m 158 #[(.val (.int p0)), (.val (.int p1)), (.val (.int p2)), (.val (.ref b1)), .unset, .unset, .unset, .unset, .unset, .unset] [(.ref b32)])
  have C_h0_43 : Ext h0 h43 := own_extWr C_h0_42 W43 G_h0_32
  have C_h31_43 : Ext h31 h43 := own_extWr C_h31_42 W43 G_h31_32
  have N43 := Fr.snoc X43 N42 gn32
  refine Owes.by (fun _ kq => XS.dup X43.here hx rfl (hb hby at_158) rfl rfl kq) ?_
  show Owes p e below s (QL n0) room_1.cells room_1.slots T43 (mkF m 159 #[(.val (.int p0)), (.val (.int p1)), (.val (.int p2)), (.val (.ref b1)), .unset, .unset, .unset, .unset, .unset, .unset] [(.ref b32), (.ref b32)])
  refine Owes.by (fun _ kq => XS.bipush X43.here hx rfl (hb hby at_159) kq) ?_
  show Owes p e below s (QL n0) room_1.cells room_1.slots T43 (mkF m 161 #[(.val (.int p0)), (.val (.int p1)), (.val (.int p2)), (.val (.ref b1)), .unset, .unset, .unset, .unset, .unset, .unset] [(.int (11 : Int32)), (.ref b32), (.ref b32)])
  refine Owes.by (fun _ kq => XS.iconst X43.here hx rfl (hb hby at_161) kq) ?_
  show Owes p e below s (QL n0) room_1.cells room_1.slots T43 (mkF m 162 #[(.val (.int p0)), (.val (.int p1)), (.val (.int p2)), (.val (.ref b1)), .unset, .unset, .unset, .unset, .unset, .unset] [(.int (0 : Int32)), (.int (11 : Int32)), (.ref b32), (.ref b32)])
  obtain ⟨cl44, Ar44, qq44, sz44, nn44, hh44, gg44⟩ := V43
  have hin44 : ¬ ((11 : Int32) < 0 ∨ cl44.slots.size ≤ ((11 : Int32)).toNatClampNeg) := inb_of sz44 ⟨by decide, by decide⟩
  obtain ⟨T44, h44, X44, e44, W44, st44⟩ := stI X43 hx hZ e43 Ar44 (j := (11 : Int32)) hin44 (g := (mkF m 162 #[(.val (.int p0)), (.val (.int p1)), (.val (.int p2)), (.val (.ref b1)), .unset, .unset, .unset, .unset, .unset, .unset] [(.int (0 : Int32)), (.int (11 : Int32)), (.ref b32), (.ref b32)])) rfl rfl (hb hby at_162)
  have V44 : Arv Z h44 b32 k32 .int 15 [(.int (0 : Int32)), (.int (4 : Int32)), (.int (1 : Int32)), (.int (0 : Int32)), (.int (0 : Int32)), (.int (0 : Int32)), (.int (0 : Int32)), (.int (0 : Int32)), (.int (0 : Int32)), (.int (0 : Int32)), (.int (0 : Int32)), (.int (0 : Int32)), (.int (0 : Int32)), (.int (0 : Int32)), (.int (0 : Int32))] (.int (0 : Int32)) := Arv.set Ar44 qq44 sz44 nn44 hh44 gg44 rfl W44 11 rfl (Nat.le_of_ble_eq_true rfl)
  refine Owes.by st44 ?_
  show Owes p e below s (QL n0) room_1.cells room_1.slots T44 (mkF m 163 #[(.val (.int p0)), (.val (.int p1)), (.val (.int p2)), (.val (.ref b1)), .unset, .unset, .unset, .unset, .unset, .unset] [(.ref b32)])
  have C_h0_44 : Ext h0 h44 := own_extWr C_h0_43 W44 G_h0_32
  have C_h31_44 : Ext h31 h44 := own_extWr C_h31_43 W44 G_h31_32
  have N44 := Fr.snoc X44 N43 gn32
  refine Owes.by (fun _ kq => XS.dup X44.here hx rfl (hb hby at_163) rfl rfl kq) ?_
  show Owes p e below s (QL n0) room_1.cells room_1.slots T44 (mkF m 164 #[(.val (.int p0)), (.val (.int p1)), (.val (.int p2)), (.val (.ref b1)), .unset, .unset, .unset, .unset, .unset, .unset] [(.ref b32), (.ref b32)])
  refine Owes.by (fun _ kq => XS.bipush X44.here hx rfl (hb hby at_164) kq) ?_
  show Owes p e below s (QL n0) room_1.cells room_1.slots T44 (mkF m 166 #[(.val (.int p0)), (.val (.int p1)), (.val (.int p2)), (.val (.ref b1)), .unset, .unset, .unset, .unset, .unset, .unset] [(.int (12 : Int32)), (.ref b32), (.ref b32)])
  refine Owes.by (fun _ kq => XS.iconst X44.here hx rfl (hb hby at_166) kq) ?_
  show Owes p e below s (QL n0) room_1.cells room_1.slots T44 (mkF m 167 #[(.val (.int p0)), (.val (.int p1)), (.val (.int p2)), (.val (.ref b1)), .unset, .unset, .unset, .unset, .unset, .unset] [(.int (0 : Int32)), (.int (12 : Int32)), (.ref b32), (.ref b32)])
  obtain ⟨cl45, Ar45, qq45, sz45, nn45, hh45, gg45⟩ := V44
  have hin45 : ¬ ((12 : Int32) < 0 ∨ cl45.slots.size ≤ ((12 : Int32)).toNatClampNeg) := inb_of sz45 ⟨by decide, by decide⟩
  obtain ⟨T45, h45, X45, e45, W45, st45⟩ := stI X44 hx hZ e44 Ar45 (j := (12 : Int32)) hin45 (g := (mkF m 167 #[(.val (.int p0)), (.val (.int p1)), (.val (.int p2)), (.val (.ref b1)), .unset, .unset, .unset, .unset, .unset, .unset] [(.int (0 : Int32)), (.int (12 : Int32)), (.ref b32), (.ref b32)])) rfl rfl (hb hby at_167)
  have V45 : Arv Z h45 b32 k32 .int 15 [(.int (0 : Int32)), (.int (4 : Int32)), (.int (1 : Int32)), (.int (0 : Int32)), (.int (0 : Int32)), (.int (0 : Int32)), (.int (0 : Int32)), (.int (0 : Int32)), (.int (0 : Int32)), (.int (0 : Int32)), (.int (0 : Int32)), (.int (0 : Int32)), (.int (0 : Int32)), (.int (0 : Int32)), (.int (0 : Int32))] (.int (0 : Int32)) := Arv.set Ar45 qq45 sz45 nn45 hh45 gg45 rfl W45 12 rfl (Nat.le_of_ble_eq_true rfl)
  refine Owes.by st45 ?_
  show Owes p e below s (QL n0) room_1.cells room_1.slots T45 (mkF m 168 #[(.val (.int p0)), (.val (.int p1)), (.val (.int p2)), (.val (.ref b1)), .unset, .unset, .unset, .unset, .unset, .unset] [(.ref b32)])
  have C_h0_45 : Ext h0 h45 := own_extWr C_h0_44 W45 G_h0_32
  have C_h31_45 : Ext h31 h45 := own_extWr C_h31_44 W45 G_h31_32
  have N45 := Fr.snoc X45 N44 gn32
  refine Owes.by (fun _ kq => XS.dup X45.here hx rfl (hb hby at_168) rfl rfl kq) ?_
  show Owes p e below s (QL n0) room_1.cells room_1.slots T45 (mkF m 169 #[(.val (.int p0)), (.val (.int p1)), (.val (.int p2)), (.val (.ref b1)), .unset, .unset, .unset, .unset, .unset, .unset] [(.ref b32), (.ref b32)])
  refine Owes.by (fun _ kq => XS.bipush X45.here hx rfl (hb hby at_169) kq) ?_
  show Owes p e below s (QL n0) room_1.cells room_1.slots T45 (mkF m 171 #[(.val (.int p0)), (.val (.int p1)), (.val (.int p2)), (.val (.ref b1)), .unset, .unset, .unset, .unset, .unset, .unset] [(.int (13 : Int32)), (.ref b32), (.ref b32)])
  refine Owes.by (fun _ kq => XS.iconst X45.here hx rfl (hb hby at_171) kq) ?_
  show Owes p e below s (QL n0) room_1.cells room_1.slots T45 (mkF m 172 #[(.val (.int p0)), (.val (.int p1)), (.val (.int p2)), (.val (.ref b1)), .unset, .unset, .unset, .unset, .unset, .unset] [(.int (0 : Int32)), (.int (13 : Int32)), (.ref b32), (.ref b32)])
  obtain ⟨cl46, Ar46, qq46, sz46, nn46, hh46, gg46⟩ := V45
  have hin46 : ¬ ((13 : Int32) < 0 ∨ cl46.slots.size ≤ ((13 : Int32)).toNatClampNeg) := inb_of sz46 ⟨by decide, by decide⟩
  obtain ⟨T46, h46, X46, e46, W46, st46⟩ := stI X45 hx hZ e45 Ar46 (j := (13 : Int32)) hin46 (g := (mkF m 172 #[(.val (.int p0)), (.val (.int p1)), (.val (.int p2)), (.val (.ref b1)), .unset, .unset, .unset, .unset, .unset, .unset] [(.int (0 : Int32)), (.int (13 : Int32)), (.ref b32), (.ref b32)])) rfl rfl (hb hby at_172)
  have V46 : Arv Z h46 b32 k32 .int 15 [(.int (0 : Int32)), (.int (4 : Int32)), (.int (1 : Int32)), (.int (0 : Int32)), (.int (0 : Int32)), (.int (0 : Int32)), (.int (0 : Int32)), (.int (0 : Int32)), (.int (0 : Int32)), (.int (0 : Int32)), (.int (0 : Int32)), (.int (0 : Int32)), (.int (0 : Int32)), (.int (0 : Int32)), (.int (0 : Int32))] (.int (0 : Int32)) := Arv.set Ar46 qq46 sz46 nn46 hh46 gg46 rfl W46 13 rfl (Nat.le_of_ble_eq_true rfl)
  refine Owes.by st46 ?_
  show Owes p e below s (QL n0) room_1.cells room_1.slots T46 (mkF m 173 #[(.val (.int p0)), (.val (.int p1)), (.val (.int p2)), (.val (.ref b1)), .unset, .unset, .unset, .unset, .unset, .unset] [(.ref b32)])
  have C_h0_46 : Ext h0 h46 := own_extWr C_h0_45 W46 G_h0_32
  have C_h31_46 : Ext h31 h46 := own_extWr C_h31_45 W46 G_h31_32
  have N46 := Fr.snoc X46 N45 gn32
  refine Owes.by (fun _ kq => XS.dup X46.here hx rfl (hb hby at_173) rfl rfl kq) ?_
  show Owes p e below s (QL n0) room_1.cells room_1.slots T46 (mkF m 174 #[(.val (.int p0)), (.val (.int p1)), (.val (.int p2)), (.val (.ref b1)), .unset, .unset, .unset, .unset, .unset, .unset] [(.ref b32), (.ref b32)])
  refine Owes.by (fun _ kq => XS.bipush X46.here hx rfl (hb hby at_174) kq) ?_
  show Owes p e below s (QL n0) room_1.cells room_1.slots T46 (mkF m 176 #[(.val (.int p0)), (.val (.int p1)), (.val (.int p2)), (.val (.ref b1)), .unset, .unset, .unset, .unset, .unset, .unset] [(.int (14 : Int32)), (.ref b32), (.ref b32)])
  refine Owes.by (fun _ kq => XS.iconst X46.here hx rfl (hb hby at_176) kq) ?_
  show Owes p e below s (QL n0) room_1.cells room_1.slots T46 (mkF m 177 #[(.val (.int p0)), (.val (.int p1)), (.val (.int p2)), (.val (.ref b1)), .unset, .unset, .unset, .unset, .unset, .unset] [(.int (0 : Int32)), (.int (14 : Int32)), (.ref b32), (.ref b32)])
  obtain ⟨cl47, Ar47, qq47, sz47, nn47, hh47, gg47⟩ := V46
  have hin47 : ¬ ((14 : Int32) < 0 ∨ cl47.slots.size ≤ ((14 : Int32)).toNatClampNeg) := inb_of sz47 ⟨by decide, by decide⟩
  obtain ⟨T47, h47, X47, e47, W47, st47⟩ := stI X46 hx hZ e46 Ar47 (j := (14 : Int32)) hin47 (g := (mkF m 177 #[(.val (.int p0)), (.val (.int p1)), (.val (.int p2)), (.val (.ref b1)), .unset, .unset, .unset, .unset, .unset, .unset] [(.int (0 : Int32)), (.int (14 : Int32)), (.ref b32), (.ref b32)])) rfl rfl (hb hby at_177)
  have V47 : Arv Z h47 b32 k32 .int 15 [(.int (0 : Int32)), (.int (4 : Int32)), (.int (1 : Int32)), (.int (0 : Int32)), (.int (0 : Int32)), (.int (0 : Int32)), (.int (0 : Int32)), (.int (0 : Int32)), (.int (0 : Int32)), (.int (0 : Int32)), (.int (0 : Int32)), (.int (0 : Int32)), (.int (0 : Int32)), (.int (0 : Int32)), (.int (0 : Int32))] (.int (0 : Int32)) := Arv.set Ar47 qq47 sz47 nn47 hh47 gg47 rfl W47 14 rfl (Nat.le_of_ble_eq_true rfl)
  refine Owes.by st47 ?_
  show Owes p e below s (QL n0) room_1.cells room_1.slots T47 (mkF m 178 #[(.val (.int p0)), (.val (.int p1)), (.val (.int p2)), (.val (.ref b1)), .unset, .unset, .unset, .unset, .unset, .unset] [(.ref b32)])
  have C_h0_47 : Ext h0 h47 := own_extWr C_h0_46 W47 G_h0_32
  have C_h31_47 : Ext h31 h47 := own_extWr C_h31_46 W47 G_h31_32
  have N47 := Fr.snoc X47 N46 gn32
  refine Owes.by (fun _ kq => XS.astore X47.here hx rfl (hb hby at_178) rfl rfl (l' := #[(.val (.int p0)), (.val (.int p1)), (.val (.int p2)), (.val (.ref b1)), (.val (.ref b32)), .unset, .unset, .unset, .unset, .unset]) rfl kq) ?_
  show Owes p e below s (QL n0) room_1.cells room_1.slots T47 (mkF m 180 #[(.val (.int p0)), (.val (.int p1)), (.val (.int p2)), (.val (.ref b1)), (.val (.ref b32)), .unset, .unset, .unset, .unset, .unset] [])
  refine Owes.by (fun _ kq => XS.bipush X47.here hx rfl (hb hby at_180) kq) ?_
  show Owes p e below s (QL n0) room_1.cells room_1.slots T47 (mkF m 182 #[(.val (.int p0)), (.val (.int p1)), (.val (.int p2)), (.val (.ref b1)), (.val (.ref b32)), .unset, .unset, .unset, .unset, .unset] [(.int (15 : Int32))])
  have C_h47_0 : Ext h47 h47 := ⟨Nat.le_refl _, fun _ _ q => q⟩
  obtain ⟨T48, h48, k48, X48, e48, E48, A48, st48⟩ := newP X47 hx hZ (hw _ (List.mem_of_getElem? (i := 34) rfl)) e47 (g := (mkF m 182 #[(.val (.int p0)), (.val (.int p1)), (.val (.int p2)), (.val (.ref b1)), (.val (.ref b32)), .unset, .unset, .unset, .unset, .unset] [(.int (15 : Int32))])) rfl (hb hby at_182) rfl (by decide) (cap := 15) (by decide) (by decide) (by decide) (by decide)
  obtain ⟨b48, g48⟩ : ∃ z, z = h47.size := ⟨_, rfl⟩
  rw [← g48] at A48 st48
  have V48 : Arv Z h48 b48 k48 .int 15 [(.int (0 : Int32)), (.int (0 : Int32)), (.int (0 : Int32)), (.int (0 : Int32)), (.int (0 : Int32)), (.int (0 : Int32)), (.int (0 : Int32)), (.int (0 : Int32)), (.int (0 : Int32)), (.int (0 : Int32)), (.int (0 : Int32)), (.int (0 : Int32)), (.int (0 : Int32)), (.int (0 : Int32)), (.int (0 : Int32))] (.int (0 : Int32)) := (Arv.new A48 (by decide)).pad (pad_rep [] (.int (0 : Int32)) 15)
  refine Owes.by st48 ?_
  show Owes p e below s (QL n0) room_1.cells room_1.slots T48 (mkF m 184 #[(.val (.int p0)), (.val (.int p1)), (.val (.int p2)), (.val (.ref b1)), (.val (.ref b32)), .unset, .unset, .unset, .unset, .unset] [(.ref b48)])
  have G_h0_48 : h0.size ≤ b48 := Nat.le_trans C_h0_47.1 (Nat.le_of_eq g48.symm)
  have C_h0_48 : Ext h0 h48 := own_extT C_h0_47 E48
  have G_h31_48 : h31.size ≤ b48 := Nat.le_trans C_h31_47.1 (Nat.le_of_eq g48.symm)
  have C_h31_48 : Ext h31 h48 := own_extT C_h31_47 E48
  have G_h47_48 : h47.size ≤ b48 := Nat.le_trans C_h47_0.1 (Nat.le_of_eq g48.symm)
  have C_h47_48 : Ext h47 h48 := own_extT C_h47_0 E48
  have gn48 : n0 ≤ b48 := Nat.le_trans Z0 G_h0_48
  refine Owes.by (fun _ kq => XS.dup X48.here hx rfl (hb hby at_184) rfl rfl kq) ?_
  show Owes p e below s (QL n0) room_1.cells room_1.slots T48 (mkF m 185 #[(.val (.int p0)), (.val (.int p1)), (.val (.int p2)), (.val (.ref b1)), (.val (.ref b32)), .unset, .unset, .unset, .unset, .unset] [(.ref b48), (.ref b48)])
  refine Owes.by (fun _ kq => XS.iconst X48.here hx rfl (hb hby at_185) kq) ?_
  show Owes p e below s (QL n0) room_1.cells room_1.slots T48 (mkF m 186 #[(.val (.int p0)), (.val (.int p1)), (.val (.int p2)), (.val (.ref b1)), (.val (.ref b32)), .unset, .unset, .unset, .unset, .unset] [(.int (0 : Int32)), (.ref b48), (.ref b48)])
  refine Owes.by (fun _ kq => XS.bipush X48.here hx rfl (hb hby at_186) kq) ?_
  show Owes p e below s (QL n0) room_1.cells room_1.slots T48 (mkF m 188 #[(.val (.int p0)), (.val (.int p1)), (.val (.int p2)), (.val (.ref b1)), (.val (.ref b32)), .unset, .unset, .unset, .unset, .unset] [(.int (7 : Int32)), (.int (0 : Int32)), (.ref b48), (.ref b48)])
  obtain ⟨cl49, Ar49, qq49, sz49, nn49, hh49, gg49⟩ := V48
  have hin49 : ¬ ((0 : Int32) < 0 ∨ cl49.slots.size ≤ ((0 : Int32)).toNatClampNeg) := inb_of sz49 ⟨by decide, by decide⟩
  obtain ⟨T49, h49, X49, e49, W49, st49⟩ := stI X48 hx hZ e48 Ar49 (j := (0 : Int32)) hin49 (g := (mkF m 188 #[(.val (.int p0)), (.val (.int p1)), (.val (.int p2)), (.val (.ref b1)), (.val (.ref b32)), .unset, .unset, .unset, .unset, .unset] [(.int (7 : Int32)), (.int (0 : Int32)), (.ref b48), (.ref b48)])) rfl rfl (hb hby at_188)
  have V49 : Arv Z h49 b48 k48 .int 15 [(.int (7 : Int32)), (.int (0 : Int32)), (.int (0 : Int32)), (.int (0 : Int32)), (.int (0 : Int32)), (.int (0 : Int32)), (.int (0 : Int32)), (.int (0 : Int32)), (.int (0 : Int32)), (.int (0 : Int32)), (.int (0 : Int32)), (.int (0 : Int32)), (.int (0 : Int32)), (.int (0 : Int32)), (.int (0 : Int32))] (.int (0 : Int32)) := Arv.set Ar49 qq49 sz49 nn49 hh49 gg49 rfl W49 0 rfl (Nat.le_of_ble_eq_true rfl)
  refine Owes.by st49 ?_
  show Owes p e below s (QL n0) room_1.cells room_1.slots T49 (mkF m 189 #[(.val (.int p0)), (.val (.int p1)), (.val (.int p2)), (.val (.ref b1)), (.val (.ref b32)), .unset, .unset, .unset, .unset, .unset] [(.ref b48)])
  have C_h0_49 : Ext h0 h49 := own_extWr C_h0_48 W49 G_h0_48
  have C_h31_49 : Ext h31 h49 := own_extWr C_h31_48 W49 G_h31_48
  have C_h47_49 : Ext h47 h49 := own_extWr C_h47_48 W49 G_h47_48
  have N49 := Fr.snoc X49 N47 gn48
  refine Owes.by (fun _ kq => XS.dup X49.here hx rfl (hb hby at_189) rfl rfl kq) ?_
  show Owes p e below s (QL n0) room_1.cells room_1.slots T49 (mkF m 190 #[(.val (.int p0)), (.val (.int p1)), (.val (.int p2)), (.val (.ref b1)), (.val (.ref b32)), .unset, .unset, .unset, .unset, .unset] [(.ref b48), (.ref b48)])
  refine Owes.by (fun _ kq => XS.iconst X49.here hx rfl (hb hby at_190) kq) ?_
  show Owes p e below s (QL n0) room_1.cells room_1.slots T49 (mkF m 191 #[(.val (.int p0)), (.val (.int p1)), (.val (.int p2)), (.val (.ref b1)), (.val (.ref b32)), .unset, .unset, .unset, .unset, .unset] [(.int (1 : Int32)), (.ref b48), (.ref b48)])
  refine Owes.by (fun _ kq => XS.bipush X49.here hx rfl (hb hby at_191) kq) ?_
  show Owes p e below s (QL n0) room_1.cells room_1.slots T49 (mkF m 193 #[(.val (.int p0)), (.val (.int p1)), (.val (.int p2)), (.val (.ref b1)), (.val (.ref b32)), .unset, .unset, .unset, .unset, .unset] [(.int (11 : Int32)), (.int (1 : Int32)), (.ref b48), (.ref b48)])
  obtain ⟨cl50, Ar50, qq50, sz50, nn50, hh50, gg50⟩ := V49
  have hin50 : ¬ ((1 : Int32) < 0 ∨ cl50.slots.size ≤ ((1 : Int32)).toNatClampNeg) := inb_of sz50 ⟨by decide, by decide⟩
  obtain ⟨T50, h50, X50, e50, W50, st50⟩ := stI X49 hx hZ e49 Ar50 (j := (1 : Int32)) hin50 (g := (mkF m 193 #[(.val (.int p0)), (.val (.int p1)), (.val (.int p2)), (.val (.ref b1)), (.val (.ref b32)), .unset, .unset, .unset, .unset, .unset] [(.int (11 : Int32)), (.int (1 : Int32)), (.ref b48), (.ref b48)])) rfl rfl (hb hby at_193)
  have V50 : Arv Z h50 b48 k48 .int 15 [(.int (7 : Int32)), (.int (11 : Int32)), (.int (0 : Int32)), (.int (0 : Int32)), (.int (0 : Int32)), (.int (0 : Int32)), (.int (0 : Int32)), (.int (0 : Int32)), (.int (0 : Int32)), (.int (0 : Int32)), (.int (0 : Int32)), (.int (0 : Int32)), (.int (0 : Int32)), (.int (0 : Int32)), (.int (0 : Int32))] (.int (0 : Int32)) := Arv.set Ar50 qq50 sz50 nn50 hh50 gg50 rfl W50 1 rfl (Nat.le_of_ble_eq_true rfl)
  refine Owes.by st50 ?_
  show Owes p e below s (QL n0) room_1.cells room_1.slots T50 (mkF m 194 #[(.val (.int p0)), (.val (.int p1)), (.val (.int p2)), (.val (.ref b1)), (.val (.ref b32)), .unset, .unset, .unset, .unset, .unset] [(.ref b48)])
  have C_h0_50 : Ext h0 h50 := own_extWr C_h0_49 W50 G_h0_48
  have C_h31_50 : Ext h31 h50 := own_extWr C_h31_49 W50 G_h31_48
  have C_h47_50 : Ext h47 h50 := own_extWr C_h47_49 W50 G_h47_48
  have N50 := Fr.snoc X50 N49 gn48
  refine Owes.by (fun _ kq => XS.dup X50.here hx rfl (hb hby at_194) rfl rfl kq) ?_
  show Owes p e below s (QL n0) room_1.cells room_1.slots T50 (mkF m 195 #[(.val (.int p0)), (.val (.int p1)), (.val (.int p2)), (.val (.ref b1)), (.val (.ref b32)), .unset, .unset, .unset, .unset, .unset] [(.ref b48), (.ref b48)])
  refine Owes.by (fun _ kq => XS.iconst X50.here hx rfl (hb hby at_195) kq) ?_
  show Owes p e below s (QL n0) room_1.cells room_1.slots T50 (mkF m 196 #[(.val (.int p0)), (.val (.int p1)), (.val (.int p2)), (.val (.ref b1)), (.val (.ref b32)), .unset, .unset, .unset, .unset, .unset] [(.int (2 : Int32)), (.ref b48), (.ref b48)])
  refine Owes.by (fun _ kq => XS.iconst X50.here hx rfl (hb hby at_196) kq) ?_
  show Owes p e below s (QL n0) room_1.cells room_1.slots T50 (mkF m 197 #[(.val (.int p0)), (.val (.int p1)), (.val (.int p2)), (.val (.ref b1)), (.val (.ref b32)), .unset, .unset, .unset, .unset, .unset] [(.int (2 : Int32)), (.int (2 : Int32)), (.ref b48), (.ref b48)])
  obtain ⟨cl51, Ar51, qq51, sz51, nn51, hh51, gg51⟩ := V50
  have hin51 : ¬ ((2 : Int32) < 0 ∨ cl51.slots.size ≤ ((2 : Int32)).toNatClampNeg) := inb_of sz51 ⟨by decide, by decide⟩
  obtain ⟨T51, h51, X51, e51, W51, st51⟩ := stI X50 hx hZ e50 Ar51 (j := (2 : Int32)) hin51 (g := (mkF m 197 #[(.val (.int p0)), (.val (.int p1)), (.val (.int p2)), (.val (.ref b1)), (.val (.ref b32)), .unset, .unset, .unset, .unset, .unset] [(.int (2 : Int32)), (.int (2 : Int32)), (.ref b48), (.ref b48)])) rfl rfl (hb hby at_197)
  have V51 : Arv Z h51 b48 k48 .int 15 [(.int (7 : Int32)), (.int (11 : Int32)), (.int (2 : Int32)), (.int (0 : Int32)), (.int (0 : Int32)), (.int (0 : Int32)), (.int (0 : Int32)), (.int (0 : Int32)), (.int (0 : Int32)), (.int (0 : Int32)), (.int (0 : Int32)), (.int (0 : Int32)), (.int (0 : Int32)), (.int (0 : Int32)), (.int (0 : Int32))] (.int (0 : Int32)) := Arv.set Ar51 qq51 sz51 nn51 hh51 gg51 rfl W51 2 rfl (Nat.le_of_ble_eq_true rfl)
  refine Owes.by st51 ?_
  show Owes p e below s (QL n0) room_1.cells room_1.slots T51 (mkF m 198 #[(.val (.int p0)), (.val (.int p1)), (.val (.int p2)), (.val (.ref b1)), (.val (.ref b32)), .unset, .unset, .unset, .unset, .unset] [(.ref b48)])
  have C_h0_51 : Ext h0 h51 := own_extWr C_h0_50 W51 G_h0_48
  have C_h31_51 : Ext h31 h51 := own_extWr C_h31_50 W51 G_h31_48
  have C_h47_51 : Ext h47 h51 := own_extWr C_h47_50 W51 G_h47_48
  have N51 := Fr.snoc X51 N50 gn48
  refine Owes.by (fun _ kq => XS.dup X51.here hx rfl (hb hby at_198) rfl rfl kq) ?_
  show Owes p e below s (QL n0) room_1.cells room_1.slots T51 (mkF m 199 #[(.val (.int p0)), (.val (.int p1)), (.val (.int p2)), (.val (.ref b1)), (.val (.ref b32)), .unset, .unset, .unset, .unset, .unset] [(.ref b48), (.ref b48)])
  refine Owes.by (fun _ kq => XS.iconst X51.here hx rfl (hb hby at_199) kq) ?_
  show Owes p e below s (QL n0) room_1.cells room_1.slots T51 (mkF m 200 #[(.val (.int p0)), (.val (.int p1)), (.val (.int p2)), (.val (.ref b1)), (.val (.ref b32)), .unset, .unset, .unset, .unset, .unset] [(.int (3 : Int32)), (.ref b48), (.ref b48)])
  refine Owes.by (fun _ kq => XS.iconst X51.here hx rfl (hb hby at_200) kq) ?_
  show Owes p e below s (QL n0) room_1.cells room_1.slots T51 (mkF m 201 #[(.val (.int p0)), (.val (.int p1)), (.val (.int p2)), (.val (.ref b1)), (.val (.ref b32)), .unset, .unset, .unset, .unset, .unset] [(.int (4 : Int32)), (.int (3 : Int32)), (.ref b48), (.ref b48)])
  obtain ⟨cl52, Ar52, qq52, sz52, nn52, hh52, gg52⟩ := V51
  have hin52 : ¬ ((3 : Int32) < 0 ∨ cl52.slots.size ≤ ((3 : Int32)).toNatClampNeg) := inb_of sz52 ⟨by decide, by decide⟩
  obtain ⟨T52, h52, X52, e52, W52, st52⟩ := stI X51 hx hZ e51 Ar52 (j := (3 : Int32)) hin52 (g := (mkF m 201 #[(.val (.int p0)), (.val (.int p1)), (.val (.int p2)), (.val (.ref b1)), (.val (.ref b32)), .unset, .unset, .unset, .unset, .unset] [(.int (4 : Int32)), (.int (3 : Int32)), (.ref b48), (.ref b48)])) rfl rfl (hb hby at_201)
  have V52 : Arv Z h52 b48 k48 .int 15 [(.int (7 : Int32)), (.int (11 : Int32)), (.int (2 : Int32)), (.int (4 : Int32)), (.int (0 : Int32)), (.int (0 : Int32)), (.int (0 : Int32)), (.int (0 : Int32)), (.int (0 : Int32)), (.int (0 : Int32)), (.int (0 : Int32)), (.int (0 : Int32)), (.int (0 : Int32)), (.int (0 : Int32)), (.int (0 : Int32))] (.int (0 : Int32)) := Arv.set Ar52 qq52 sz52 nn52 hh52 gg52 rfl W52 3 rfl (Nat.le_of_ble_eq_true rfl)
  refine Owes.by st52 ?_
  show Owes p e below s (QL n0) room_1.cells room_1.slots T52 (mkF m 202 #[(.val (.int p0)), (.val (.int p1)), (.val (.int p2)), (.val (.ref b1)), (.val (.ref b32)), .unset, .unset, .unset, .unset, .unset] [(.ref b48)])
  have C_h0_52 : Ext h0 h52 := own_extWr C_h0_51 W52 G_h0_48
  have C_h31_52 : Ext h31 h52 := own_extWr C_h31_51 W52 G_h31_48
  have C_h47_52 : Ext h47 h52 := own_extWr C_h47_51 W52 G_h47_48
  have N52 := Fr.snoc X52 N51 gn48
  refine Owes.by (fun _ kq => XS.dup X52.here hx rfl (hb hby at_202) rfl rfl kq) ?_
  show Owes p e below s (QL n0) room_1.cells room_1.slots T52 (mkF m 203 #[(.val (.int p0)), (.val (.int p1)), (.val (.int p2)), (.val (.ref b1)), (.val (.ref b32)), .unset, .unset, .unset, .unset, .unset] [(.ref b48), (.ref b48)])
  refine Owes.by (fun _ kq => XS.iconst X52.here hx rfl (hb hby at_203) kq) ?_
  show Owes p e below s (QL n0) room_1.cells room_1.slots T52 (mkF m 204 #[(.val (.int p0)), (.val (.int p1)), (.val (.int p2)), (.val (.ref b1)), (.val (.ref b32)), .unset, .unset, .unset, .unset, .unset] [(.int (4 : Int32)), (.ref b48), (.ref b48)])
  refine Owes.by (fun _ kq => XS.iconst X52.here hx rfl (hb hby at_204) kq) ?_
  show Owes p e below s (QL n0) room_1.cells room_1.slots T52 (mkF m 205 #[(.val (.int p0)), (.val (.int p1)), (.val (.int p2)), (.val (.ref b1)), (.val (.ref b32)), .unset, .unset, .unset, .unset, .unset] [(.int (3 : Int32)), (.int (4 : Int32)), (.ref b48), (.ref b48)])
  obtain ⟨cl53, Ar53, qq53, sz53, nn53, hh53, gg53⟩ := V52
  have hin53 : ¬ ((4 : Int32) < 0 ∨ cl53.slots.size ≤ ((4 : Int32)).toNatClampNeg) := inb_of sz53 ⟨by decide, by decide⟩
  obtain ⟨T53, h53, X53, e53, W53, st53⟩ := stI X52 hx hZ e52 Ar53 (j := (4 : Int32)) hin53 (g := (mkF m 205 #[(.val (.int p0)), (.val (.int p1)), (.val (.int p2)), (.val (.ref b1)), (.val (.ref b32)), .unset, .unset, .unset, .unset, .unset] [(.int (3 : Int32)), (.int (4 : Int32)), (.ref b48), (.ref b48)])) rfl rfl (hb hby at_205)
  have V53 : Arv Z h53 b48 k48 .int 15 [(.int (7 : Int32)), (.int (11 : Int32)), (.int (2 : Int32)), (.int (4 : Int32)), (.int (3 : Int32)), (.int (0 : Int32)), (.int (0 : Int32)), (.int (0 : Int32)), (.int (0 : Int32)), (.int (0 : Int32)), (.int (0 : Int32)), (.int (0 : Int32)), (.int (0 : Int32)), (.int (0 : Int32)), (.int (0 : Int32))] (.int (0 : Int32)) := Arv.set Ar53 qq53 sz53 nn53 hh53 gg53 rfl W53 4 rfl (Nat.le_of_ble_eq_true rfl)
  refine Owes.by st53 ?_
  show Owes p e below s (QL n0) room_1.cells room_1.slots T53 (mkF m 206 #[(.val (.int p0)), (.val (.int p1)), (.val (.int p2)), (.val (.ref b1)), (.val (.ref b32)), .unset, .unset, .unset, .unset, .unset] [(.ref b48)])
  have C_h0_53 : Ext h0 h53 := own_extWr C_h0_52 W53 G_h0_48
  have C_h31_53 : Ext h31 h53 := own_extWr C_h31_52 W53 G_h31_48
  have C_h47_53 : Ext h47 h53 := own_extWr C_h47_52 W53 G_h47_48
  have N53 := Fr.snoc X53 N52 gn48
  refine Owes.by (fun _ kq => XS.dup X53.here hx rfl (hb hby at_206) rfl rfl kq) ?_
  show Owes p e below s (QL n0) room_1.cells room_1.slots T53 (mkF m 207 #[(.val (.int p0)), (.val (.int p1)), (.val (.int p2)), (.val (.ref b1)), (.val (.ref b32)), .unset, .unset, .unset, .unset, .unset] [(.ref b48), (.ref b48)])
  refine Owes.by (fun _ kq => XS.iconst X53.here hx rfl (hb hby at_207) kq) ?_
  show Owes p e below s (QL n0) room_1.cells room_1.slots T53 (mkF m 208 #[(.val (.int p0)), (.val (.int p1)), (.val (.int p2)), (.val (.ref b1)), (.val (.ref b32)), .unset, .unset, .unset, .unset, .unset] [(.int (5 : Int32)), (.ref b48), (.ref b48)])
  refine Owes.by (fun _ kq => XS.iconst X53.here hx rfl (hb hby at_208) kq) ?_
  show Owes p e below s (QL n0) room_1.cells room_1.slots T53 (mkF m 209 #[(.val (.int p0)), (.val (.int p1)), (.val (.int p2)), (.val (.ref b1)), (.val (.ref b32)), .unset, .unset, .unset, .unset, .unset] [(.int (3 : Int32)), (.int (5 : Int32)), (.ref b48), (.ref b48)])
  obtain ⟨cl54, Ar54, qq54, sz54, nn54, hh54, gg54⟩ := V53
  have hin54 : ¬ ((5 : Int32) < 0 ∨ cl54.slots.size ≤ ((5 : Int32)).toNatClampNeg) := inb_of sz54 ⟨by decide, by decide⟩
  obtain ⟨T54, h54, X54, e54, W54, st54⟩ := stI X53 hx hZ e53 Ar54 (j := (5 : Int32)) hin54 (g := (mkF m 209 #[(.val (.int p0)), (.val (.int p1)), (.val (.int p2)), (.val (.ref b1)), (.val (.ref b32)), .unset, .unset, .unset, .unset, .unset] [(.int (3 : Int32)), (.int (5 : Int32)), (.ref b48), (.ref b48)])) rfl rfl (hb hby at_209)
  have V54 : Arv Z h54 b48 k48 .int 15 [(.int (7 : Int32)), (.int (11 : Int32)), (.int (2 : Int32)), (.int (4 : Int32)), (.int (3 : Int32)), (.int (3 : Int32)), (.int (0 : Int32)), (.int (0 : Int32)), (.int (0 : Int32)), (.int (0 : Int32)), (.int (0 : Int32)), (.int (0 : Int32)), (.int (0 : Int32)), (.int (0 : Int32)), (.int (0 : Int32))] (.int (0 : Int32)) := Arv.set Ar54 qq54 sz54 nn54 hh54 gg54 rfl W54 5 rfl (Nat.le_of_ble_eq_true rfl)
  refine Owes.by st54 ?_
  show Owes p e below s (QL n0) room_1.cells room_1.slots T54 (mkF m 210 #[(.val (.int p0)), (.val (.int p1)), (.val (.int p2)), (.val (.ref b1)), (.val (.ref b32)), .unset, .unset, .unset, .unset, .unset] [(.ref b48)])
  have C_h0_54 : Ext h0 h54 := own_extWr C_h0_53 W54 G_h0_48
  have C_h31_54 : Ext h31 h54 := own_extWr C_h31_53 W54 G_h31_48
  have C_h47_54 : Ext h47 h54 := own_extWr C_h47_53 W54 G_h47_48
  have N54 := Fr.snoc X54 N53 gn48
  refine Owes.by (fun _ kq => XS.dup X54.here hx rfl (hb hby at_210) rfl rfl kq) ?_
  show Owes p e below s (QL n0) room_1.cells room_1.slots T54 (mkF m 211 #[(.val (.int p0)), (.val (.int p1)), (.val (.int p2)), (.val (.ref b1)), (.val (.ref b32)), .unset, .unset, .unset, .unset, .unset] [(.ref b48), (.ref b48)])
  refine Owes.by (fun _ kq => XS.bipush X54.here hx rfl (hb hby at_211) kq) ?_
  show Owes p e below s (QL n0) room_1.cells room_1.slots T54 (mkF m 213 #[(.val (.int p0)), (.val (.int p1)), (.val (.int p2)), (.val (.ref b1)), (.val (.ref b32)), .unset, .unset, .unset, .unset, .unset] [(.int (6 : Int32)), (.ref b48), (.ref b48)])
  refine Owes.by (fun _ kq => XS.iconst X54.here hx rfl (hb hby at_213) kq) ?_
  show Owes p e below s (QL n0) room_1.cells room_1.slots T54 (mkF m 214 #[(.val (.int p0)), (.val (.int p1)), (.val (.int p2)), (.val (.ref b1)), (.val (.ref b32)), .unset, .unset, .unset, .unset, .unset] [(.int (2 : Int32)), (.int (6 : Int32)), (.ref b48), (.ref b48)])
  obtain ⟨cl55, Ar55, qq55, sz55, nn55, hh55, gg55⟩ := V54
  have hin55 : ¬ ((6 : Int32) < 0 ∨ cl55.slots.size ≤ ((6 : Int32)).toNatClampNeg) := inb_of sz55 ⟨by decide, by decide⟩
  obtain ⟨T55, h55, X55, e55, W55, st55⟩ := stI X54 hx hZ e54 Ar55 (j := (6 : Int32)) hin55 (g := (mkF m 214 #[(.val (.int p0)), (.val (.int p1)), (.val (.int p2)), (.val (.ref b1)), (.val (.ref b32)), .unset, .unset, .unset, .unset, .unset] [(.int (2 : Int32)), (.int (6 : Int32)), (.ref b48), (.ref b48)])) rfl rfl (hb hby at_214)
  have V55 : Arv Z h55 b48 k48 .int 15 [(.int (7 : Int32)), (.int (11 : Int32)), (.int (2 : Int32)), (.int (4 : Int32)), (.int (3 : Int32)), (.int (3 : Int32)), (.int (2 : Int32)), (.int (0 : Int32)), (.int (0 : Int32)), (.int (0 : Int32)), (.int (0 : Int32)), (.int (0 : Int32)), (.int (0 : Int32)), (.int (0 : Int32)), (.int (0 : Int32))] (.int (0 : Int32)) := Arv.set Ar55 qq55 sz55 nn55 hh55 gg55 rfl W55 6 rfl (Nat.le_of_ble_eq_true rfl)
  refine Owes.by st55 ?_
  show Owes p e below s (QL n0) room_1.cells room_1.slots T55 (mkF m 215 #[(.val (.int p0)), (.val (.int p1)), (.val (.int p2)), (.val (.ref b1)), (.val (.ref b32)), .unset, .unset, .unset, .unset, .unset] [(.ref b48)])
  have C_h0_55 : Ext h0 h55 := own_extWr C_h0_54 W55 G_h0_48
  have C_h31_55 : Ext h31 h55 := own_extWr C_h31_54 W55 G_h31_48
  have C_h47_55 : Ext h47 h55 := own_extWr C_h47_54 W55 G_h47_48
  have N55 := Fr.snoc X55 N54 gn48
  refine Owes.by (fun _ kq => XS.dup X55.here hx rfl (hb hby at_215) rfl rfl kq) ?_
  show Owes p e below s (QL n0) room_1.cells room_1.slots T55 (mkF m 216 #[(.val (.int p0)), (.val (.int p1)), (.val (.int p2)), (.val (.ref b1)), (.val (.ref b32)), .unset, .unset, .unset, .unset, .unset] [(.ref b48), (.ref b48)])
  refine Owes.by (fun _ kq => XS.bipush X55.here hx rfl (hb hby at_216) kq) ?_
  show Owes p e below s (QL n0) room_1.cells room_1.slots T55 (mkF m 218 #[(.val (.int p0)), (.val (.int p1)), (.val (.int p2)), (.val (.ref b1)), (.val (.ref b32)), .unset, .unset, .unset, .unset, .unset] [(.int (7 : Int32)), (.ref b48), (.ref b48)])
  refine Owes.by (fun _ kq => XS.iconst X55.here hx rfl (hb hby at_218) kq) ?_
  show Owes p e below s (QL n0) room_1.cells room_1.slots T55 (mkF m 219 #[(.val (.int p0)), (.val (.int p1)), (.val (.int p2)), (.val (.ref b1)), (.val (.ref b32)), .unset, .unset, .unset, .unset, .unset] [(.int (4 : Int32)), (.int (7 : Int32)), (.ref b48), (.ref b48)])
  obtain ⟨cl56, Ar56, qq56, sz56, nn56, hh56, gg56⟩ := V55
  have hin56 : ¬ ((7 : Int32) < 0 ∨ cl56.slots.size ≤ ((7 : Int32)).toNatClampNeg) := inb_of sz56 ⟨by decide, by decide⟩
  obtain ⟨T56, h56, X56, e56, W56, st56⟩ := stI X55 hx hZ e55 Ar56 (j := (7 : Int32)) hin56 (g := (mkF m 219 #[(.val (.int p0)), (.val (.int p1)), (.val (.int p2)), (.val (.ref b1)), (.val (.ref b32)), .unset, .unset, .unset, .unset, .unset] [(.int (4 : Int32)), (.int (7 : Int32)), (.ref b48), (.ref b48)])) rfl rfl (hb hby at_219)
  have V56 : Arv Z h56 b48 k48 .int 15 [(.int (7 : Int32)), (.int (11 : Int32)), (.int (2 : Int32)), (.int (4 : Int32)), (.int (3 : Int32)), (.int (3 : Int32)), (.int (2 : Int32)), (.int (4 : Int32)), (.int (0 : Int32)), (.int (0 : Int32)), (.int (0 : Int32)), (.int (0 : Int32)), (.int (0 : Int32)), (.int (0 : Int32)), (.int (0 : Int32))] (.int (0 : Int32)) := Arv.set Ar56 qq56 sz56 nn56 hh56 gg56 rfl W56 7 rfl (Nat.le_of_ble_eq_true rfl)
  refine Owes.by st56 ?_
  show Owes p e below s (QL n0) room_1.cells room_1.slots T56 (mkF m 220 #[(.val (.int p0)), (.val (.int p1)), (.val (.int p2)), (.val (.ref b1)), (.val (.ref b32)), .unset, .unset, .unset, .unset, .unset] [(.ref b48)])
  have C_h0_56 : Ext h0 h56 := own_extWr C_h0_55 W56 G_h0_48
  have C_h31_56 : Ext h31 h56 := own_extWr C_h31_55 W56 G_h31_48
  have C_h47_56 : Ext h47 h56 := own_extWr C_h47_55 W56 G_h47_48
  have N56 := Fr.snoc X56 N55 gn48
  refine Owes.by (fun _ kq => XS.dup X56.here hx rfl (hb hby at_220) rfl rfl kq) ?_
  show Owes p e below s (QL n0) room_1.cells room_1.slots T56 (mkF m 221 #[(.val (.int p0)), (.val (.int p1)), (.val (.int p2)), (.val (.ref b1)), (.val (.ref b32)), .unset, .unset, .unset, .unset, .unset] [(.ref b48), (.ref b48)])
  refine Owes.by (fun _ kq => XS.bipush X56.here hx rfl (hb hby at_221) kq) ?_
  show Owes p e below s (QL n0) room_1.cells room_1.slots T56 (mkF m 223 #[(.val (.int p0)), (.val (.int p1)), (.val (.int p2)), (.val (.ref b1)), (.val (.ref b32)), .unset, .unset, .unset, .unset, .unset] [(.int (8 : Int32)), (.ref b48), (.ref b48)])
  refine Owes.by (fun _ kq => XS.iconst X56.here hx rfl (hb hby at_223) kq) ?_
  show Owes p e below s (QL n0) room_1.cells room_1.slots T56 (mkF m 224 #[(.val (.int p0)), (.val (.int p1)), (.val (.int p2)), (.val (.ref b1)), (.val (.ref b32)), .unset, .unset, .unset, .unset, .unset] [(.int (2 : Int32)), (.int (8 : Int32)), (.ref b48), (.ref b48)])
  obtain ⟨cl57, Ar57, qq57, sz57, nn57, hh57, gg57⟩ := V56
  have hin57 : ¬ ((8 : Int32) < 0 ∨ cl57.slots.size ≤ ((8 : Int32)).toNatClampNeg) := inb_of sz57 ⟨by decide, by decide⟩
  obtain ⟨T57, h57, X57, e57, W57, st57⟩ := stI X56 hx hZ e56 Ar57 (j := (8 : Int32)) hin57 (g := (mkF m 224 #[(.val (.int p0)), (.val (.int p1)), (.val (.int p2)), (.val (.ref b1)), (.val (.ref b32)), .unset, .unset, .unset, .unset, .unset] [(.int (2 : Int32)), (.int (8 : Int32)), (.ref b48), (.ref b48)])) rfl rfl (hb hby at_224)
  have V57 : Arv Z h57 b48 k48 .int 15 [(.int (7 : Int32)), (.int (11 : Int32)), (.int (2 : Int32)), (.int (4 : Int32)), (.int (3 : Int32)), (.int (3 : Int32)), (.int (2 : Int32)), (.int (4 : Int32)), (.int (2 : Int32)), (.int (0 : Int32)), (.int (0 : Int32)), (.int (0 : Int32)), (.int (0 : Int32)), (.int (0 : Int32)), (.int (0 : Int32))] (.int (0 : Int32)) := Arv.set Ar57 qq57 sz57 nn57 hh57 gg57 rfl W57 8 rfl (Nat.le_of_ble_eq_true rfl)
  refine Owes.by st57 ?_
  show Owes p e below s (QL n0) room_1.cells room_1.slots T57 (mkF m 225 #[(.val (.int p0)), (.val (.int p1)), (.val (.int p2)), (.val (.ref b1)), (.val (.ref b32)), .unset, .unset, .unset, .unset, .unset] [(.ref b48)])
  have C_h0_57 : Ext h0 h57 := own_extWr C_h0_56 W57 G_h0_48
  have C_h31_57 : Ext h31 h57 := own_extWr C_h31_56 W57 G_h31_48
  have C_h47_57 : Ext h47 h57 := own_extWr C_h47_56 W57 G_h47_48
  have N57 := Fr.snoc X57 N56 gn48
  refine Owes.by (fun _ kq => XS.dup X57.here hx rfl (hb hby at_225) rfl rfl kq) ?_
  show Owes p e below s (QL n0) room_1.cells room_1.slots T57 (mkF m 226 #[(.val (.int p0)), (.val (.int p1)), (.val (.int p2)), (.val (.ref b1)), (.val (.ref b32)), .unset, .unset, .unset, .unset, .unset] [(.ref b48), (.ref b48)])
  refine Owes.by (fun _ kq => XS.bipush X57.here hx rfl (hb hby at_226) kq) ?_
  show Owes p e below s (QL n0) room_1.cells room_1.slots T57 (mkF m 228 #[(.val (.int p0)), (.val (.int p1)), (.val (.int p2)), (.val (.ref b1)), (.val (.ref b32)), .unset, .unset, .unset, .unset, .unset] [(.int (9 : Int32)), (.ref b48), (.ref b48)])
  refine Owes.by (fun _ kq => XS.iconst X57.here hx rfl (hb hby at_228) kq) ?_
  show Owes p e below s (QL n0) room_1.cells room_1.slots T57 (mkF m 229 #[(.val (.int p0)), (.val (.int p1)), (.val (.int p2)), (.val (.ref b1)), (.val (.ref b32)), .unset, .unset, .unset, .unset, .unset] [(.int (1 : Int32)), (.int (9 : Int32)), (.ref b48), (.ref b48)])
  obtain ⟨cl58, Ar58, qq58, sz58, nn58, hh58, gg58⟩ := V57
  have hin58 : ¬ ((9 : Int32) < 0 ∨ cl58.slots.size ≤ ((9 : Int32)).toNatClampNeg) := inb_of sz58 ⟨by decide, by decide⟩
  obtain ⟨T58, h58, X58, e58, W58, st58⟩ := stI X57 hx hZ e57 Ar58 (j := (9 : Int32)) hin58 (g := (mkF m 229 #[(.val (.int p0)), (.val (.int p1)), (.val (.int p2)), (.val (.ref b1)), (.val (.ref b32)), .unset, .unset, .unset, .unset, .unset] [(.int (1 : Int32)), (.int (9 : Int32)), (.ref b48), (.ref b48)])) rfl rfl (hb hby at_229)
  have V58 : Arv Z h58 b48 k48 .int 15 [(.int (7 : Int32)), (.int (11 : Int32)), (.int (2 : Int32)), (.int (4 : Int32)), (.int (3 : Int32)), (.int (3 : Int32)), (.int (2 : Int32)), (.int (4 : Int32)), (.int (2 : Int32)), (.int (1 : Int32)), (.int (0 : Int32)), (.int (0 : Int32)), (.int (0 : Int32)), (.int (0 : Int32)), (.int (0 : Int32))] (.int (0 : Int32)) := Arv.set Ar58 qq58 sz58 nn58 hh58 gg58 rfl W58 9 rfl (Nat.le_of_ble_eq_true rfl)
  refine Owes.by st58 ?_
  show Owes p e below s (QL n0) room_1.cells room_1.slots T58 (mkF m 230 #[(.val (.int p0)), (.val (.int p1)), (.val (.int p2)), (.val (.ref b1)), (.val (.ref b32)), .unset, .unset, .unset, .unset, .unset] [(.ref b48)])
  have C_h0_58 : Ext h0 h58 := own_extWr C_h0_57 W58 G_h0_48
  have C_h31_58 : Ext h31 h58 := own_extWr C_h31_57 W58 G_h31_48
  have C_h47_58 : Ext h47 h58 := own_extWr C_h47_57 W58 G_h47_48
  have N58 := Fr.snoc X58 N57 gn48
  refine Owes.by (fun _ kq => XS.dup X58.here hx rfl (hb hby at_230) rfl rfl kq) ?_
  show Owes p e below s (QL n0) room_1.cells room_1.slots T58 (mkF m 231 #[(.val (.int p0)), (.val (.int p1)), (.val (.int p2)), (.val (.ref b1)), (.val (.ref b32)), .unset, .unset, .unset, .unset, .unset] [(.ref b48), (.ref b48)])
  refine Owes.by (fun _ kq => XS.bipush X58.here hx rfl (hb hby at_231) kq) ?_
  show Owes p e below s (QL n0) room_1.cells room_1.slots T58 (mkF m 233 #[(.val (.int p0)), (.val (.int p1)), (.val (.int p2)), (.val (.ref b1)), (.val (.ref b32)), .unset, .unset, .unset, .unset, .unset] [(.int (10 : Int32)), (.ref b48), (.ref b48)])
  refine Owes.by (fun _ kq => XS.iconst X58.here hx rfl (hb hby at_233) kq) ?_
  show Owes p e below s (QL n0) room_1.cells room_1.slots T58 (mkF m 234 #[(.val (.int p0)), (.val (.int p1)), (.val (.int p2)), (.val (.ref b1)), (.val (.ref b32)), .unset, .unset, .unset, .unset, .unset] [(.int (2 : Int32)), (.int (10 : Int32)), (.ref b48), (.ref b48)])
  obtain ⟨cl59, Ar59, qq59, sz59, nn59, hh59, gg59⟩ := V58
  have hin59 : ¬ ((10 : Int32) < 0 ∨ cl59.slots.size ≤ ((10 : Int32)).toNatClampNeg) := inb_of sz59 ⟨by decide, by decide⟩
  obtain ⟨T59, h59, X59, e59, W59, st59⟩ := stI X58 hx hZ e58 Ar59 (j := (10 : Int32)) hin59 (g := (mkF m 234 #[(.val (.int p0)), (.val (.int p1)), (.val (.int p2)), (.val (.ref b1)), (.val (.ref b32)), .unset, .unset, .unset, .unset, .unset] [(.int (2 : Int32)), (.int (10 : Int32)), (.ref b48), (.ref b48)])) rfl rfl (hb hby at_234)
  have V59 : Arv Z h59 b48 k48 .int 15 [(.int (7 : Int32)), (.int (11 : Int32)), (.int (2 : Int32)), (.int (4 : Int32)), (.int (3 : Int32)), (.int (3 : Int32)), (.int (2 : Int32)), (.int (4 : Int32)), (.int (2 : Int32)), (.int (1 : Int32)), (.int (2 : Int32)), (.int (0 : Int32)), (.int (0 : Int32)), (.int (0 : Int32)), (.int (0 : Int32))] (.int (0 : Int32)) := Arv.set Ar59 qq59 sz59 nn59 hh59 gg59 rfl W59 10 rfl (Nat.le_of_ble_eq_true rfl)
  refine Owes.by st59 ?_
  show Owes p e below s (QL n0) room_1.cells room_1.slots T59 (mkF m 235 #[(.val (.int p0)), (.val (.int p1)), (.val (.int p2)), (.val (.ref b1)), (.val (.ref b32)), .unset, .unset, .unset, .unset, .unset] [(.ref b48)])
  have C_h0_59 : Ext h0 h59 := own_extWr C_h0_58 W59 G_h0_48
  have C_h31_59 : Ext h31 h59 := own_extWr C_h31_58 W59 G_h31_48
  have C_h47_59 : Ext h47 h59 := own_extWr C_h47_58 W59 G_h47_48
  have N59 := Fr.snoc X59 N58 gn48
  refine Owes.by (fun _ kq => XS.dup X59.here hx rfl (hb hby at_235) rfl rfl kq) ?_
  show Owes p e below s (QL n0) room_1.cells room_1.slots T59 (mkF m 236 #[(.val (.int p0)), (.val (.int p1)), (.val (.int p2)), (.val (.ref b1)), (.val (.ref b32)), .unset, .unset, .unset, .unset, .unset] [(.ref b48), (.ref b48)])
  refine Owes.by (fun _ kq => XS.bipush X59.here hx rfl (hb hby at_236) kq) ?_
  show Owes p e below s (QL n0) room_1.cells room_1.slots T59 (mkF m 238 #[(.val (.int p0)), (.val (.int p1)), (.val (.int p2)), (.val (.ref b1)), (.val (.ref b32)), .unset, .unset, .unset, .unset, .unset] [(.int (11 : Int32)), (.ref b48), (.ref b48)])
  refine Owes.by (fun _ kq => XS.iconst X59.here hx rfl (hb hby at_238) kq) ?_
  show Owes p e below s (QL n0) room_1.cells room_1.slots T59 (mkF m 239 #[(.val (.int p0)), (.val (.int p1)), (.val (.int p2)), (.val (.ref b1)), (.val (.ref b32)), .unset, .unset, .unset, .unset, .unset] [(.int (3 : Int32)), (.int (11 : Int32)), (.ref b48), (.ref b48)])
  obtain ⟨cl60, Ar60, qq60, sz60, nn60, hh60, gg60⟩ := V59
  have hin60 : ¬ ((11 : Int32) < 0 ∨ cl60.slots.size ≤ ((11 : Int32)).toNatClampNeg) := inb_of sz60 ⟨by decide, by decide⟩
  obtain ⟨T60, h60, X60, e60, W60, st60⟩ := stI X59 hx hZ e59 Ar60 (j := (11 : Int32)) hin60 (g := (mkF m 239 #[(.val (.int p0)), (.val (.int p1)), (.val (.int p2)), (.val (.ref b1)), (.val (.ref b32)), .unset, .unset, .unset, .unset, .unset] [(.int (3 : Int32)), (.int (11 : Int32)), (.ref b48), (.ref b48)])) rfl rfl (hb hby at_239)
  have V60 : Arv Z h60 b48 k48 .int 15 [(.int (7 : Int32)), (.int (11 : Int32)), (.int (2 : Int32)), (.int (4 : Int32)), (.int (3 : Int32)), (.int (3 : Int32)), (.int (2 : Int32)), (.int (4 : Int32)), (.int (2 : Int32)), (.int (1 : Int32)), (.int (2 : Int32)), (.int (3 : Int32)), (.int (0 : Int32)), (.int (0 : Int32)), (.int (0 : Int32))] (.int (0 : Int32)) := Arv.set Ar60 qq60 sz60 nn60 hh60 gg60 rfl W60 11 rfl (Nat.le_of_ble_eq_true rfl)
  refine Owes.by st60 ?_
  show Owes p e below s (QL n0) room_1.cells room_1.slots T60 (mkF m 240 #[(.val (.int p0)), (.val (.int p1)), (.val (.int p2)), (.val (.ref b1)), (.val (.ref b32)), .unset, .unset, .unset, .unset, .unset] [(.ref b48)])
  have C_h0_60 : Ext h0 h60 := own_extWr C_h0_59 W60 G_h0_48
  have C_h31_60 : Ext h31 h60 := own_extWr C_h31_59 W60 G_h31_48
  have C_h47_60 : Ext h47 h60 := own_extWr C_h47_59 W60 G_h47_48
  have N60 := Fr.snoc X60 N59 gn48
  refine Owes.by (fun _ kq => XS.dup X60.here hx rfl (hb hby at_240) rfl rfl kq) ?_
  show Owes p e below s (QL n0) room_1.cells room_1.slots T60 (mkF m 241 #[(.val (.int p0)), (.val (.int p1)), (.val (.int p2)), (.val (.ref b1)), (.val (.ref b32)), .unset, .unset, .unset, .unset, .unset] [(.ref b48), (.ref b48)])
  refine Owes.by (fun _ kq => XS.bipush X60.here hx rfl (hb hby at_241) kq) ?_
  show Owes p e below s (QL n0) room_1.cells room_1.slots T60 (mkF m 243 #[(.val (.int p0)), (.val (.int p1)), (.val (.int p2)), (.val (.ref b1)), (.val (.ref b32)), .unset, .unset, .unset, .unset, .unset] [(.int (12 : Int32)), (.ref b48), (.ref b48)])
  refine Owes.by (fun _ kq => XS.iconst X60.here hx rfl (hb hby at_243) kq) ?_
  show Owes p e below s (QL n0) room_1.cells room_1.slots T60 (mkF m 244 #[(.val (.int p0)), (.val (.int p1)), (.val (.int p2)), (.val (.ref b1)), (.val (.ref b32)), .unset, .unset, .unset, .unset, .unset] [(.int (3 : Int32)), (.int (12 : Int32)), (.ref b48), (.ref b48)])
  obtain ⟨cl61, Ar61, qq61, sz61, nn61, hh61, gg61⟩ := V60
  have hin61 : ¬ ((12 : Int32) < 0 ∨ cl61.slots.size ≤ ((12 : Int32)).toNatClampNeg) := inb_of sz61 ⟨by decide, by decide⟩
  obtain ⟨T61, h61, X61, e61, W61, st61⟩ := stI X60 hx hZ e60 Ar61 (j := (12 : Int32)) hin61 (g := (mkF m 244 #[(.val (.int p0)), (.val (.int p1)), (.val (.int p2)), (.val (.ref b1)), (.val (.ref b32)), .unset, .unset, .unset, .unset, .unset] [(.int (3 : Int32)), (.int (12 : Int32)), (.ref b48), (.ref b48)])) rfl rfl (hb hby at_244)
  have V61 : Arv Z h61 b48 k48 .int 15 [(.int (7 : Int32)), (.int (11 : Int32)), (.int (2 : Int32)), (.int (4 : Int32)), (.int (3 : Int32)), (.int (3 : Int32)), (.int (2 : Int32)), (.int (4 : Int32)), (.int (2 : Int32)), (.int (1 : Int32)), (.int (2 : Int32)), (.int (3 : Int32)), (.int (3 : Int32)), (.int (0 : Int32)), (.int (0 : Int32))] (.int (0 : Int32)) := Arv.set Ar61 qq61 sz61 nn61 hh61 gg61 rfl W61 12 rfl (Nat.le_of_ble_eq_true rfl)
  refine Owes.by st61 ?_
  show Owes p e below s (QL n0) room_1.cells room_1.slots T61 (mkF m 245 #[(.val (.int p0)), (.val (.int p1)), (.val (.int p2)), (.val (.ref b1)), (.val (.ref b32)), .unset, .unset, .unset, .unset, .unset] [(.ref b48)])
  have C_h0_61 : Ext h0 h61 := own_extWr C_h0_60 W61 G_h0_48
  have C_h31_61 : Ext h31 h61 := own_extWr C_h31_60 W61 G_h31_48
  have C_h47_61 : Ext h47 h61 := own_extWr C_h47_60 W61 G_h47_48
  have N61 := Fr.snoc X61 N60 gn48
  refine Owes.by (fun _ kq => XS.dup X61.here hx rfl (hb hby at_245) rfl rfl kq) ?_
  show Owes p e below s (QL n0) room_1.cells room_1.slots T61 (mkF m 246 #[(.val (.int p0)), (.val (.int p1)), (.val (.int p2)), (.val (.ref b1)), (.val (.ref b32)), .unset, .unset, .unset, .unset, .unset] [(.ref b48), (.ref b48)])
  refine Owes.by (fun _ kq => XS.bipush X61.here hx rfl (hb hby at_246) kq) ?_
  show Owes p e below s (QL n0) room_1.cells room_1.slots T61 (mkF m 248 #[(.val (.int p0)), (.val (.int p1)), (.val (.int p2)), (.val (.ref b1)), (.val (.ref b32)), .unset, .unset, .unset, .unset, .unset] [(.int (13 : Int32)), (.ref b48), (.ref b48)])
  refine Owes.by (fun _ kq => XS.iconst X61.here hx rfl (hb hby at_248) kq) ?_
  show Owes p e below s (QL n0) room_1.cells room_1.slots T61 (mkF m 249 #[(.val (.int p0)), (.val (.int p1)), (.val (.int p2)), (.val (.ref b1)), (.val (.ref b32)), .unset, .unset, .unset, .unset, .unset] [(.int (3 : Int32)), (.int (13 : Int32)), (.ref b48), (.ref b48)])
  obtain ⟨cl62, Ar62, qq62, sz62, nn62, hh62, gg62⟩ := V61
  have hin62 : ¬ ((13 : Int32) < 0 ∨ cl62.slots.size ≤ ((13 : Int32)).toNatClampNeg) := inb_of sz62 ⟨by decide, by decide⟩
  obtain ⟨T62, h62, X62, e62, W62, st62⟩ := stI X61 hx hZ e61 Ar62 (j := (13 : Int32)) hin62 (g := (mkF m 249 #[(.val (.int p0)), (.val (.int p1)), (.val (.int p2)), (.val (.ref b1)), (.val (.ref b32)), .unset, .unset, .unset, .unset, .unset] [(.int (3 : Int32)), (.int (13 : Int32)), (.ref b48), (.ref b48)])) rfl rfl (hb hby at_249)
  have V62 : Arv Z h62 b48 k48 .int 15 [(.int (7 : Int32)), (.int (11 : Int32)), (.int (2 : Int32)), (.int (4 : Int32)), (.int (3 : Int32)), (.int (3 : Int32)), (.int (2 : Int32)), (.int (4 : Int32)), (.int (2 : Int32)), (.int (1 : Int32)), (.int (2 : Int32)), (.int (3 : Int32)), (.int (3 : Int32)), (.int (3 : Int32)), (.int (0 : Int32))] (.int (0 : Int32)) := Arv.set Ar62 qq62 sz62 nn62 hh62 gg62 rfl W62 13 rfl (Nat.le_of_ble_eq_true rfl)
  refine Owes.by st62 ?_
  show Owes p e below s (QL n0) room_1.cells room_1.slots T62 (mkF m 250 #[(.val (.int p0)), (.val (.int p1)), (.val (.int p2)), (.val (.ref b1)), (.val (.ref b32)), .unset, .unset, .unset, .unset, .unset] [(.ref b48)])
  have C_h0_62 : Ext h0 h62 := own_extWr C_h0_61 W62 G_h0_48
  have C_h31_62 : Ext h31 h62 := own_extWr C_h31_61 W62 G_h31_48
  have C_h47_62 : Ext h47 h62 := own_extWr C_h47_61 W62 G_h47_48
  have N62 := Fr.snoc X62 N61 gn48
  refine Owes.by (fun _ kq => XS.dup X62.here hx rfl (hb hby at_250) rfl rfl kq) ?_
  show Owes p e below s (QL n0) room_1.cells room_1.slots T62 (mkF m 251 #[(.val (.int p0)), (.val (.int p1)), (.val (.int p2)), (.val (.ref b1)), (.val (.ref b32)), .unset, .unset, .unset, .unset, .unset] [(.ref b48), (.ref b48)])
  refine Owes.by (fun _ kq => XS.bipush X62.here hx rfl (hb hby at_251) kq) ?_
  show Owes p e below s (QL n0) room_1.cells room_1.slots T62 (mkF m 253 #[(.val (.int p0)), (.val (.int p1)), (.val (.int p2)), (.val (.ref b1)), (.val (.ref b32)), .unset, .unset, .unset, .unset, .unset] [(.int (14 : Int32)), (.ref b48), (.ref b48)])
  refine Owes.by (fun _ kq => XS.iconst X62.here hx rfl (hb hby at_253) kq) ?_
  show Owes p e below s (QL n0) room_1.cells room_1.slots T62 (mkF m 254 #[(.val (.int p0)), (.val (.int p1)), (.val (.int p2)), (.val (.ref b1)), (.val (.ref b32)), .unset, .unset, .unset, .unset, .unset] [(.int (1 : Int32)), (.int (14 : Int32)), (.ref b48), (.ref b48)])
  obtain ⟨cl63, Ar63, qq63, sz63, nn63, hh63, gg63⟩ := V62
  have hin63 : ¬ ((14 : Int32) < 0 ∨ cl63.slots.size ≤ ((14 : Int32)).toNatClampNeg) := inb_of sz63 ⟨by decide, by decide⟩
  obtain ⟨T63, h63, X63, e63, W63, st63⟩ := stI X62 hx hZ e62 Ar63 (j := (14 : Int32)) hin63 (g := (mkF m 254 #[(.val (.int p0)), (.val (.int p1)), (.val (.int p2)), (.val (.ref b1)), (.val (.ref b32)), .unset, .unset, .unset, .unset, .unset] [(.int (1 : Int32)), (.int (14 : Int32)), (.ref b48), (.ref b48)])) rfl rfl (hb hby at_254)
  have V63 : Arv Z h63 b48 k48 .int 15 [(.int (7 : Int32)), (.int (11 : Int32)), (.int (2 : Int32)), (.int (4 : Int32)), (.int (3 : Int32)), (.int (3 : Int32)), (.int (2 : Int32)), (.int (4 : Int32)), (.int (2 : Int32)), (.int (1 : Int32)), (.int (2 : Int32)), (.int (3 : Int32)), (.int (3 : Int32)), (.int (3 : Int32)), (.int (1 : Int32))] (.int (0 : Int32)) := Arv.set Ar63 qq63 sz63 nn63 hh63 gg63 rfl W63 14 rfl (Nat.le_of_ble_eq_true rfl)
  refine Owes.by st63 ?_
  show Owes p e below s (QL n0) room_1.cells room_1.slots T63 (mkF m 255 #[(.val (.int p0)), (.val (.int p1)), (.val (.int p2)), (.val (.ref b1)), (.val (.ref b32)), .unset, .unset, .unset, .unset, .unset] [(.ref b48)])
  have C_h0_63 : Ext h0 h63 := own_extWr C_h0_62 W63 G_h0_48
  have C_h31_63 : Ext h31 h63 := own_extWr C_h31_62 W63 G_h31_48
  have C_h47_63 : Ext h47 h63 := own_extWr C_h47_62 W63 G_h47_48
  have N63 := Fr.snoc X63 N62 gn48
  refine Owes.by (fun _ kq => XS.astore X63.here hx rfl (hb hby at_255) rfl rfl (l' := #[(.val (.int p0)), (.val (.int p1)), (.val (.int p2)), (.val (.ref b1)), (.val (.ref b32)), (.val (.ref b48)), .unset, .unset, .unset, .unset]) rfl kq) ?_
  show Owes p e below s (QL n0) room_1.cells room_1.slots T63 (mkF m 257 #[(.val (.int p0)), (.val (.int p1)), (.val (.int p2)), (.val (.ref b1)), (.val (.ref b32)), (.val (.ref b48)), .unset, .unset, .unset, .unset] [])
  refine Owes.by (fun _ kq => XS.iloadN X63.here hx rfl (hb hby at_257) rfl kq) ?_
  show Owes p e below s (QL n0) room_1.cells room_1.slots T63 (mkF m 258 #[(.val (.int p0)), (.val (.int p1)), (.val (.int p2)), (.val (.ref b1)), (.val (.ref b32)), (.val (.ref b48)), .unset, .unset, .unset, .unset] [(.int p0)])
  refine Owes.by (fun tq kq => X63.ldcInt hx hown (mvT hZ (hw _ (List.mem_of_getElem? (i := 35) rfl))) (g := (mkF m 258 #[(.val (.int p0)), (.val (.int p1)), (.val (.int p2)), (.val (.ref b1)), (.val (.ref b32)), (.val (.ref b48)), .unset, .unset, .unset, .unset] [(.int p0)])) rfl (hb hby at_258) tq kq) ?_
  show Owes p e below s (QL n0) room_1.cells room_1.slots T63 (mkF m 260 #[(.val (.int p0)), (.val (.int p1)), (.val (.int p2)), (.val (.ref b1)), (.val (.ref b32)), (.val (.ref b48)), .unset, .unset, .unset, .unset] [(.int (2147483647 : Int32)), (.int p0)])
  refine Owes.by (fun _ kq => XS.iand X63.here hx rfl (hb hby at_260) rfl kq) ?_
  show Owes p e below s (QL n0) room_1.cells room_1.slots T63 (mkF m 261 #[(.val (.int p0)), (.val (.int p1)), (.val (.int p2)), (.val (.ref b1)), (.val (.ref b32)), (.val (.ref b48)), .unset, .unset, .unset, .unset] [(.int (p0 &&& (2147483647 : Int32)))])
  refine Owes.by (fun _ kq => XS.bipush X63.here hx rfl (hb hby at_261) kq) ?_
  show Owes p e below s (QL n0) room_1.cells room_1.slots T63 (mkF m 263 #[(.val (.int p0)), (.val (.int p1)), (.val (.int p2)), (.val (.ref b1)), (.val (.ref b32)), (.val (.ref b48)), .unset, .unset, .unset, .unset] [(.int (15 : Int32)), (.int (p0 &&& (2147483647 : Int32)))])
  refine Owes.by (fun _ kq => iremM X63 hx rfl (hb hby at_263) rfl (by decide) kq) ?_
  show Owes p e below s (QL n0) room_1.cells room_1.slots T63 (mkF m 264 #[(.val (.int p0)), (.val (.int p1)), (.val (.int p2)), (.val (.ref b1)), (.val (.ref b32)), (.val (.ref b48)), .unset, .unset, .unset, .unset] [(.int ((p0 &&& (2147483647 : Int32)) % (15 : Int32)))])
  refine own_gen X63 N63 (fun LL XG NG => ?_)
  obtain ⟨clK, ArK, qqK, szK, nnK, hhK, ggK⟩ := V31.ext C_h31_63
  obtain ⟨clL, ArL, qqL, szL, nnL, hhL, ggL⟩ := V47.ext C_h47_63
  obtain ⟨clU, ArU, qqU, szU, nnU, hhU, ggU⟩ := V63
  obtain ⟨i, hi⟩ : ∃ i, i = ((p0 &&& (2147483647 : Int32)) % (15 : Int32)) := ⟨_, rfl⟩
  obtain ⟨lo, up, w, iK, iL, iU, aK, aL, aU, Fl, Fu, Ew⟩ : ∃ (lo up : Int32) (w : Addr), ¬ (i < 0 ∨ clK.slots.size ≤ i.toNatClampNeg) ∧ ¬ (i < 0 ∨ clL.slots.size ≤ i.toNatClampNeg) ∧ ¬ (i < 0 ∨ clU.slots.size ≤ i.toNatClampNeg) ∧ clK.slots[i.toNatClampNeg]? = some (.ref w) ∧ clL.slots[i.toNatClampNeg]? = some (.int lo) ∧ clU.slots[i.toNatClampNeg]? = some (.int up) ∧ Fld Z h63 w "com/example/kittiwake/kittiwake/wire/ApiKey" "minVersion" "S" (.int lo) ∧ Fld Z h63 w "com/example/kittiwake/kittiwake/wire/ApiKey" "maxVersion" "S" (.int up) ∧ Exa Z h63 w "com/example/kittiwake/kittiwake/wire/ApiKey" := by
    rw [hi]
    rcases own_mod15 p0 with q | q | q | q | q | q | q | q | q | q | q | q | q | q | q
    · rw [q]
      exact ⟨0, 7, w_PRODUCE, (inb_of szK ⟨by decide, by decide⟩), (inb_of szL ⟨by decide, by decide⟩), (inb_of szU ⟨by decide, by decide⟩), hhK.at (inb_of szK ⟨by decide, by decide⟩) (by rw [own_tn0]; rfl), hhL.at (inb_of szL ⟨by decide, by decide⟩) (by rw [own_tn0]; rfl), hhU.at (inb_of szU ⟨by decide, by decide⟩) (by rw [own_tn0]; rfl), F_PRODUCE_minVersion.ext C_h0_63, F_PRODUCE_maxVersion.ext C_h0_63, E_PRODUCE.ext C_h0_63⟩
    · rw [q]
      exact ⟨4, 11, w_FETCH, (inb_of szK ⟨by decide, by decide⟩), (inb_of szL ⟨by decide, by decide⟩), (inb_of szU ⟨by decide, by decide⟩), hhK.at (inb_of szK ⟨by decide, by decide⟩) (by rw [own_tn1]; rfl), hhL.at (inb_of szL ⟨by decide, by decide⟩) (by rw [own_tn1]; rfl), hhU.at (inb_of szU ⟨by decide, by decide⟩) (by rw [own_tn1]; rfl), F_FETCH_minVersion.ext C_h0_63, F_FETCH_maxVersion.ext C_h0_63, E_FETCH.ext C_h0_63⟩
    · rw [q]
      exact ⟨1, 2, w_LIST_OFFSETS, (inb_of szK ⟨by decide, by decide⟩), (inb_of szL ⟨by decide, by decide⟩), (inb_of szU ⟨by decide, by decide⟩), hhK.at (inb_of szK ⟨by decide, by decide⟩) (by rw [own_tn2]; rfl), hhL.at (inb_of szL ⟨by decide, by decide⟩) (by rw [own_tn2]; rfl), hhU.at (inb_of szU ⟨by decide, by decide⟩) (by rw [own_tn2]; rfl), F_LIST_OFFSETS_minVersion.ext C_h0_63, F_LIST_OFFSETS_maxVersion.ext C_h0_63, E_LIST_OFFSETS.ext C_h0_63⟩
    · rw [q]
      exact ⟨0, 4, w_METADATA, (inb_of szK ⟨by decide, by decide⟩), (inb_of szL ⟨by decide, by decide⟩), (inb_of szU ⟨by decide, by decide⟩), hhK.at (inb_of szK ⟨by decide, by decide⟩) (by rw [own_tn3]; rfl), hhL.at (inb_of szL ⟨by decide, by decide⟩) (by rw [own_tn3]; rfl), hhU.at (inb_of szU ⟨by decide, by decide⟩) (by rw [own_tn3]; rfl), F_METADATA_minVersion.ext C_h0_63, F_METADATA_maxVersion.ext C_h0_63, E_METADATA.ext C_h0_63⟩
    · rw [q]
      exact ⟨0, 3, w_OFFSET_COMMIT, (inb_of szK ⟨by decide, by decide⟩), (inb_of szL ⟨by decide, by decide⟩), (inb_of szU ⟨by decide, by decide⟩), hhK.at (inb_of szK ⟨by decide, by decide⟩) (by rw [own_tn4]; rfl), hhL.at (inb_of szL ⟨by decide, by decide⟩) (by rw [own_tn4]; rfl), hhU.at (inb_of szU ⟨by decide, by decide⟩) (by rw [own_tn4]; rfl), F_OFFSET_COMMIT_minVersion.ext C_h0_63, F_OFFSET_COMMIT_maxVersion.ext C_h0_63, E_OFFSET_COMMIT.ext C_h0_63⟩
    · rw [q]
      exact ⟨0, 3, w_OFFSET_FETCH, (inb_of szK ⟨by decide, by decide⟩), (inb_of szL ⟨by decide, by decide⟩), (inb_of szU ⟨by decide, by decide⟩), hhK.at (inb_of szK ⟨by decide, by decide⟩) (by rw [own_tn5]; rfl), hhL.at (inb_of szL ⟨by decide, by decide⟩) (by rw [own_tn5]; rfl), hhU.at (inb_of szU ⟨by decide, by decide⟩) (by rw [own_tn5]; rfl), F_OFFSET_FETCH_minVersion.ext C_h0_63, F_OFFSET_FETCH_maxVersion.ext C_h0_63, E_OFFSET_FETCH.ext C_h0_63⟩
    · rw [q]
      exact ⟨0, 2, w_FIND_COORDINATOR, (inb_of szK ⟨by decide, by decide⟩), (inb_of szL ⟨by decide, by decide⟩), (inb_of szU ⟨by decide, by decide⟩), hhK.at (inb_of szK ⟨by decide, by decide⟩) (by rw [own_tn6]; rfl), hhL.at (inb_of szL ⟨by decide, by decide⟩) (by rw [own_tn6]; rfl), hhU.at (inb_of szU ⟨by decide, by decide⟩) (by rw [own_tn6]; rfl), F_FIND_COORDINATOR_minVersion.ext C_h0_63, F_FIND_COORDINATOR_maxVersion.ext C_h0_63, E_FIND_COORDINATOR.ext C_h0_63⟩
    · rw [q]
      exact ⟨0, 4, w_JOIN_GROUP, (inb_of szK ⟨by decide, by decide⟩), (inb_of szL ⟨by decide, by decide⟩), (inb_of szU ⟨by decide, by decide⟩), hhK.at (inb_of szK ⟨by decide, by decide⟩) (by rw [own_tn7]; rfl), hhL.at (inb_of szL ⟨by decide, by decide⟩) (by rw [own_tn7]; rfl), hhU.at (inb_of szU ⟨by decide, by decide⟩) (by rw [own_tn7]; rfl), F_JOIN_GROUP_minVersion.ext C_h0_63, F_JOIN_GROUP_maxVersion.ext C_h0_63, E_JOIN_GROUP.ext C_h0_63⟩
    · rw [q]
      exact ⟨0, 2, w_HEARTBEAT, (inb_of szK ⟨by decide, by decide⟩), (inb_of szL ⟨by decide, by decide⟩), (inb_of szU ⟨by decide, by decide⟩), hhK.at (inb_of szK ⟨by decide, by decide⟩) (by rw [own_tn8]; rfl), hhL.at (inb_of szL ⟨by decide, by decide⟩) (by rw [own_tn8]; rfl), hhU.at (inb_of szU ⟨by decide, by decide⟩) (by rw [own_tn8]; rfl), F_HEARTBEAT_minVersion.ext C_h0_63, F_HEARTBEAT_maxVersion.ext C_h0_63, E_HEARTBEAT.ext C_h0_63⟩
    · rw [q]
      exact ⟨0, 1, w_LEAVE_GROUP, (inb_of szK ⟨by decide, by decide⟩), (inb_of szL ⟨by decide, by decide⟩), (inb_of szU ⟨by decide, by decide⟩), hhK.at (inb_of szK ⟨by decide, by decide⟩) (by rw [own_tn9]; rfl), hhL.at (inb_of szL ⟨by decide, by decide⟩) (by rw [own_tn9]; rfl), hhU.at (inb_of szU ⟨by decide, by decide⟩) (by rw [own_tn9]; rfl), F_LEAVE_GROUP_minVersion.ext C_h0_63, F_LEAVE_GROUP_maxVersion.ext C_h0_63, E_LEAVE_GROUP.ext C_h0_63⟩
    · rw [q]
      exact ⟨0, 2, w_SYNC_GROUP, (inb_of szK ⟨by decide, by decide⟩), (inb_of szL ⟨by decide, by decide⟩), (inb_of szU ⟨by decide, by decide⟩), hhK.at (inb_of szK ⟨by decide, by decide⟩) (by rw [own_tn10]; rfl), hhL.at (inb_of szL ⟨by decide, by decide⟩) (by rw [own_tn10]; rfl), hhU.at (inb_of szU ⟨by decide, by decide⟩) (by rw [own_tn10]; rfl), F_SYNC_GROUP_minVersion.ext C_h0_63, F_SYNC_GROUP_maxVersion.ext C_h0_63, E_SYNC_GROUP.ext C_h0_63⟩
    · rw [q]
      exact ⟨0, 3, w_API_VERSIONS, (inb_of szK ⟨by decide, by decide⟩), (inb_of szL ⟨by decide, by decide⟩), (inb_of szU ⟨by decide, by decide⟩), hhK.at (inb_of szK ⟨by decide, by decide⟩) (by rw [own_tn11]; rfl), hhL.at (inb_of szL ⟨by decide, by decide⟩) (by rw [own_tn11]; rfl), hhU.at (inb_of szU ⟨by decide, by decide⟩) (by rw [own_tn11]; rfl), F_API_VERSIONS_minVersion.ext C_h0_63, F_API_VERSIONS_maxVersion.ext C_h0_63, E_API_VERSIONS.ext C_h0_63⟩
    · rw [q]
      exact ⟨0, 3, w_CREATE_TOPICS, (inb_of szK ⟨by decide, by decide⟩), (inb_of szL ⟨by decide, by decide⟩), (inb_of szU ⟨by decide, by decide⟩), hhK.at (inb_of szK ⟨by decide, by decide⟩) (by rw [own_tn12]; rfl), hhL.at (inb_of szL ⟨by decide, by decide⟩) (by rw [own_tn12]; rfl), hhU.at (inb_of szU ⟨by decide, by decide⟩) (by rw [own_tn12]; rfl), F_CREATE_TOPICS_minVersion.ext C_h0_63, F_CREATE_TOPICS_maxVersion.ext C_h0_63, E_CREATE_TOPICS.ext C_h0_63⟩
    · rw [q]
      exact ⟨0, 3, w_DELETE_TOPICS, (inb_of szK ⟨by decide, by decide⟩), (inb_of szL ⟨by decide, by decide⟩), (inb_of szU ⟨by decide, by decide⟩), hhK.at (inb_of szK ⟨by decide, by decide⟩) (by rw [own_tn13]; rfl), hhL.at (inb_of szL ⟨by decide, by decide⟩) (by rw [own_tn13]; rfl), hhU.at (inb_of szU ⟨by decide, by decide⟩) (by rw [own_tn13]; rfl), F_DELETE_TOPICS_minVersion.ext C_h0_63, F_DELETE_TOPICS_maxVersion.ext C_h0_63, E_DELETE_TOPICS.ext C_h0_63⟩
    · rw [q]
      exact ⟨0, 1, w_INIT_PRODUCER_ID, (inb_of szK ⟨by decide, by decide⟩), (inb_of szL ⟨by decide, by decide⟩), (inb_of szU ⟨by decide, by decide⟩), hhK.at (inb_of szK ⟨by decide, by decide⟩) (by rw [own_tn14]; rfl), hhL.at (inb_of szL ⟨by decide, by decide⟩) (by rw [own_tn14]; rfl), hhU.at (inb_of szU ⟨by decide, by decide⟩) (by rw [own_tn14]; rfl), F_INIT_PRODUCER_ID_minVersion.ext C_h0_63, F_INIT_PRODUCER_ID_maxVersion.ext C_h0_63, E_INIT_PRODUCER_ID.ext C_h0_63⟩
  rw [← hi]
  show Owes p e below s (QL n0) room_1.cells room_1.slots T63 (mkF m 264 #[(.val (.int p0)), (.val (.int p1)), (.val (.int p2)), (.val (.ref b1)), (.val (.ref b32)), (.val (.ref b48)), .unset, .unset, .unset, .unset] [(.int i)])
  have Zn : n0 ≤ h63.size := Nat.le_trans Z0 C_h0_63.1
  refine Owes.by (fun _ kq => XS.istore XG.here hx rfl (hb hby at_264) rfl (l' := #[(.val (.int p0)), (.val (.int p1)), (.val (.int p2)), (.val (.ref b1)), (.val (.ref b32)), (.val (.ref b48)), (.val (.int i)), .unset, .unset, .unset]) rfl kq) ?_
  show Owes p e below s (QL n0) room_1.cells room_1.slots T63 (mkF m 266 #[(.val (.int p0)), (.val (.int p1)), (.val (.int p2)), (.val (.ref b1)), (.val (.ref b32)), (.val (.ref b48)), (.val (.int i)), .unset, .unset, .unset] [])
  refine Owes.by (fun _ kq => XS.iloadN XG.here hx rfl (hb hby at_266) rfl kq) ?_
  show Owes p e below s (QL n0) room_1.cells room_1.slots T63 (mkF m 267 #[(.val (.int p0)), (.val (.int p1)), (.val (.int p2)), (.val (.ref b1)), (.val (.ref b32)), (.val (.ref b48)), (.val (.int i)), .unset, .unset, .unset] [(.int p2)])
  refine Owes.by (fun _ kq => XS.iconst XG.here hx rfl (hb hby at_267) kq) ?_
  show Owes p e below s (QL n0) room_1.cells room_1.slots T63 (mkF m 268 #[(.val (.int p0)), (.val (.int p1)), (.val (.int p2)), (.val (.ref b1)), (.val (.ref b32)), (.val (.ref b48)), (.val (.int i)), .unset, .unset, .unset] [(.int (1 : Int32)), (.int p2)])
  refine Owes.by (fun _ kq => XS.iand XG.here hx rfl (hb hby at_268) rfl kq) ?_
  show Owes p e below s (QL n0) room_1.cells room_1.slots T63 (mkF m 269 #[(.val (.int p0)), (.val (.int p1)), (.val (.int p2)), (.val (.ref b1)), (.val (.ref b32)), (.val (.ref b48)), (.val (.int i)), .unset, .unset, .unset] [(.int (p2 &&& (1 : Int32)))])
  refine own_join XG (h := h63) (G := fun T' => ∀ (f7 x : Int32), Owes p e below s (QL n0) room_1.cells room_1.slots T' (mkF m 306 #[(.val (.int p0)), (.val (.int p1)), (.val (.int p2)), (.val (.ref b1)), (.val (.ref b32)), (.val (.ref b48)), (.val (.int i)), (.val (.int f7)), (.val (.int x)), .unset] [])) (fun T64 X64 e64 f7 x  => ?_) (fun J64 => ?_)
  · skip
    show Owes p e below s (QL n0) room_1.cells room_1.slots T64 (mkF m 306 #[(.val (.int p0)), (.val (.int p1)), (.val (.int p2)), (.val (.ref b1)), (.val (.ref b32)), (.val (.ref b48)), (.val (.int i)), (.val (.int f7)), (.val (.int x)), .unset] [])
    refine Owes.by (fun _ kq => XS.iload X64.here hx rfl (hb hby at_306) rfl kq) ?_
    show Owes p e below s (QL n0) room_1.cells room_1.slots T64 (mkF m 308 #[(.val (.int p0)), (.val (.int p1)), (.val (.int p2)), (.val (.ref b1)), (.val (.ref b32)), (.val (.ref b48)), (.val (.int i)), (.val (.int f7)), (.val (.int x)), .unset] [(.int x)])
    refine Owes.by (fun _ kq => XS.aload X64.here hx rfl (hb hby at_308) rfl rfl kq) ?_
    show Owes p e below s (QL n0) room_1.cells room_1.slots T64 (mkF m 310 #[(.val (.int p0)), (.val (.int p1)), (.val (.int p2)), (.val (.ref b1)), (.val (.ref b32)), (.val (.ref b48)), (.val (.int i)), (.val (.int f7)), (.val (.int x)), .unset] [(.ref b32), (.int x)])
    refine Owes.by (fun _ kq => XS.iload X64.here hx rfl (hb hby at_310) rfl kq) ?_
    show Owes p e below s (QL n0) room_1.cells room_1.slots T64 (mkF m 312 #[(.val (.int p0)), (.val (.int p1)), (.val (.int p2)), (.val (.ref b1)), (.val (.ref b32)), (.val (.ref b48)), (.val (.int i)), (.val (.int f7)), (.val (.int x)), .unset] [(.int i), (.ref b32), (.int x)])
    refine Owes.by (fun tq kq => X64.iaload hx (j := i) (v := (.int lo)) (by rw [e64]; exact ArL.1) (State.isArrayOf_alike hZ.alike ArL.2.1) ArL.2.2 iL aL (g := (mkF m 312 #[(.val (.int p0)), (.val (.int p1)), (.val (.int p2)), (.val (.ref b1)), (.val (.ref b32)), (.val (.ref b48)), (.val (.int i)), (.val (.int f7)), (.val (.int x)), .unset] [(.int i), (.ref b32), (.int x)])) rfl rfl (hb hby at_312) tq kq) ?_
    show Owes p e below s (QL n0) room_1.cells room_1.slots T64 (mkF m 313 #[(.val (.int p0)), (.val (.int p1)), (.val (.int p2)), (.val (.ref b1)), (.val (.ref b32)), (.val (.ref b48)), (.val (.int i)), (.val (.int f7)), (.val (.int x)), .unset] [(.int lo), (.int x)])
    by_cases q0 : x < lo
    · skip
      refine Owes.by (fun _ kq => XS.icmpYes X64.here hx rfl (pc0 := 313) (pc' := 330) rfl (hb hby at_313) rfl (XT.ii_lt_t q0) (by decide) (by decide) kq) ?_
      show Owes p e below s (QL n0) room_1.cells room_1.slots T64 (mkF m 330 #[(.val (.int p0)), (.val (.int p1)), (.val (.int p2)), (.val (.ref b1)), (.val (.ref b32)), (.val (.ref b48)), (.val (.int i)), (.val (.int f7)), (.val (.int x)), .unset] [])
      refine Owes.by (fun _ kq => XS.iconst X64.here hx rfl (hb hby at_330) kq) ?_
      show Owes p e below s (QL n0) room_1.cells room_1.slots T64 (mkF m 331 #[(.val (.int p0)), (.val (.int p1)), (.val (.int p2)), (.val (.ref b1)), (.val (.ref b32)), (.val (.ref b48)), (.val (.int i)), (.val (.int f7)), (.val (.int x)), .unset] [(.int (0 : Int32))])
      refine Owes.by (fun _ kq => XS.istore X64.here hx rfl (hb hby at_331) rfl (l' := #[(.val (.int p0)), (.val (.int p1)), (.val (.int p2)), (.val (.ref b1)), (.val (.ref b32)), (.val (.ref b48)), (.val (.int i)), (.val (.int f7)), (.val (.int x)), (.val (.int (0 : Int32)))]) rfl kq) ?_
      show Owes p e below s (QL n0) room_1.cells room_1.slots T64 (mkF m 333 #[(.val (.int p0)), (.val (.int p1)), (.val (.int p2)), (.val (.ref b1)), (.val (.ref b32)), (.val (.ref b48)), (.val (.int i)), (.val (.int f7)), (.val (.int x)), (.val (.int (0 : Int32)))] [])
      refine Owes.by (fun _ kq => XS.aloadN X64.here hx rfl (hb hby at_333) rfl rfl kq) ?_
      show Owes p e below s (QL n0) room_1.cells room_1.slots T64 (mkF m 334 #[(.val (.int p0)), (.val (.int p1)), (.val (.int p2)), (.val (.ref b1)), (.val (.ref b32)), (.val (.ref b48)), (.val (.int i)), (.val (.int f7)), (.val (.int x)), (.val (.int (0 : Int32)))] [(.ref b1)])
      refine Owes.by (fun _ kq => XS.iload X64.here hx rfl (hb hby at_334) rfl kq) ?_
      show Owes p e below s (QL n0) room_1.cells room_1.slots T64 (mkF m 336 #[(.val (.int p0)), (.val (.int p1)), (.val (.int p2)), (.val (.ref b1)), (.val (.ref b32)), (.val (.ref b48)), (.val (.int i)), (.val (.int f7)), (.val (.int x)), (.val (.int (0 : Int32)))] [(.int i), (.ref b1)])
      refine Owes.by (fun tq kq => X64.aaload hx (j := i) (v := (.ref w)) (by rw [e64]; exact ArK.1) (State.isArrayOf_alike hZ.alike ArK.2.1) rfl ArK.2.2 iK aK (g := (mkF m 336 #[(.val (.int p0)), (.val (.int p1)), (.val (.int p2)), (.val (.ref b1)), (.val (.ref b32)), (.val (.ref b48)), (.val (.int i)), (.val (.int f7)), (.val (.int x)), (.val (.int (0 : Int32)))] [(.int i), (.ref b1)])) rfl rfl (hb hby at_336) tq kq) ?_
      show Owes p e below s (QL n0) room_1.cells room_1.slots T64 (mkF m 337 #[(.val (.int p0)), (.val (.int p1)), (.val (.int p2)), (.val (.ref b1)), (.val (.ref b32)), (.val (.ref b48)), (.val (.int i)), (.val (.int f7)), (.val (.int x)), (.val (.int (0 : Int32)))] [(.ref w)])
      refine Owes.by (fun _ kq => XS.iload X64.here hx rfl (hb hby at_337) rfl kq) ?_
      show Owes p e below s (QL n0) room_1.cells room_1.slots T64 (mkF m 339 #[(.val (.int p0)), (.val (.int p1)), (.val (.int p2)), (.val (.ref b1)), (.val (.ref b32)), (.val (.ref b48)), (.val (.int i)), (.val (.int f7)), (.val (.int x)), (.val (.int (0 : Int32)))] [(.int x), (.ref w)])
      obtain ⟨cq65, kq65, qa65, qb65, qc65⟩ := isOf hZ e64 Ew
      obtain ⟨_, _, ⟨T65, L65, k65, n65⟩, -, X65, ⟨Lc65, hQ65, l65, y65, z65⟩, st65⟩ := X64.virtualBack hx (y := (⟨"com/example/kittiwake/kittiwake/wire/ApiKey", "serves", "(S)Z"⟩ : MethodName)) (z := (⟨"com/example/kittiwake/kittiwake/wire/ApiKey", "serves", "(S)Z"⟩ : MethodName)) hown (mvT hZ (hw _ (List.mem_of_getElem? (i := 36) rfl))) (mvT hZ (hw _ (List.mem_of_getElem? (i := 37) rfl))) (notFace_of_selects (args := #[]) (mvT hZ (hw _ (List.mem_of_getElem? (i := 39) rfl)))) (mvT hZ (hw _ (List.mem_of_getElem? (i := 39) rfl))) (mvT hZ (hw _ (List.mem_of_getElem? (i := 38) rfl))) (by decide) (backOf (W := 0) (rmS l Z a0 hw [] w x lo up 0 h63 n0 Zn Fl Fu (by rw [if_pos q0])) hZ (hw _ (List.mem_of_getElem? (i := 40) rfl)) (hw _ (List.mem_of_getElem? (i := 3) rfl)) (by decide) (by decide)) qa65 qc65 (g := (mkF m 339 #[(.val (.int p0)), (.val (.int p1)), (.val (.int p2)), (.val (.ref b1)), (.val (.ref b32)), (.val (.ref b48)), (.val (.int i)), (.val (.int f7)), (.val (.int x)), (.val (.int (0 : Int32)))] [(.int x), (.ref w)])) rfl (by rw [hml]; rfl) (Steps.refl _) (argsL := [(.int x)]) (rest := []) (lenOf pd_S_Z rfl) rfl (by show 2 * 0 + _ ≤ _; exact Nat.le_of_eq rfl) (hb hby at_339) (fun _ _ => ⟨rfl, e64, (by decide : 3 + 0 ≤ _), (by decide : 45 + 0 ≤ _)⟩)
      dsimp only [Pt.U, Pt.locs, Pt.cells, Pt.slots] at X65 l65 y65 z65 st65 hQ65
      subst l65 y65 z65
      obtain ⟨rfl, rfl, e65⟩ := hQ65
      try rw [List.append_nil] at X65
      refine Owes.by (fun _ kq => st65.trans kq) ?_
      show Owes p e below s (QL n0) room_1.cells room_1.slots T65 (mkF m 342 #[(.val (.int p0)), (.val (.int p1)), (.val (.int p2)), (.val (.ref b1)), (.val (.ref b32)), (.val (.ref b48)), (.val (.int i)), (.val (.int f7)), (.val (.int x)), (.val (.int (0 : Int32)))] [(.int (0 : Int32))])
      refine Owes.by (fun _ kq => XS.iload X65.here hx rfl (hb hby at_342) rfl kq) ?_
      show Owes p e below s (QL n0) room_1.cells room_1.slots T65 (mkF m 344 #[(.val (.int p0)), (.val (.int p1)), (.val (.int p2)), (.val (.ref b1)), (.val (.ref b32)), (.val (.ref b48)), (.val (.int i)), (.val (.int f7)), (.val (.int x)), (.val (.int (0 : Int32)))] [(.int (0 : Int32)), (.int (0 : Int32))])
      refine Owes.by (fun _ kq => XS.icmpNo X65.here hx rfl (hb hby at_344) rfl (XT.ii_ne_f (by decide)) kq) ?_
      show Owes p e below s (QL n0) room_1.cells room_1.slots T65 (mkF m 347 #[(.val (.int p0)), (.val (.int p1)), (.val (.int p2)), (.val (.ref b1)), (.val (.ref b32)), (.val (.ref b48)), (.val (.int i)), (.val (.int f7)), (.val (.int x)), (.val (.int (0 : Int32)))] [])
      refine Owes.by (fun _ kq => XS.iconst X65.here hx rfl (hb hby at_347) kq) ?_
      show Owes p e below s (QL n0) room_1.cells room_1.slots T65 (mkF m 348 #[(.val (.int p0)), (.val (.int p1)), (.val (.int p2)), (.val (.ref b1)), (.val (.ref b32)), (.val (.ref b48)), (.val (.int i)), (.val (.int f7)), (.val (.int x)), (.val (.int (0 : Int32)))] [(.int (1 : Int32))])
      refine Owes.by (fun _ kq => XS.goto X65.here hx rfl (pc0 := 348) (pc' := 352) rfl (hb hby at_348) (by decide) (by decide) kq) ?_
      show Owes p e below s (QL n0) room_1.cells room_1.slots T65 (mkF m 352 #[(.val (.int p0)), (.val (.int p1)), (.val (.int p2)), (.val (.ref b1)), (.val (.ref b32)), (.val (.ref b48)), (.val (.int i)), (.val (.int f7)), (.val (.int x)), (.val (.int (0 : Int32)))] [(.int (1 : Int32))])
      refine Owes.ret X65 (v := some (.int (1 : Int32))) (fun h => by rw [Bd.returns] at h; cases h) hlk ?_ (by decide) (by decide) (fun fs hr => retN X65 hx (t := .boolean) Bd.returns (by simp) (hb hby at_352) hr)
      rw [e65]
      exact ⟨rfl, NG⟩
    · skip
      refine Owes.by (fun _ kq => XS.icmpNo X64.here hx rfl (hb hby at_313) rfl (XT.ii_lt_f q0) kq) ?_
      show Owes p e below s (QL n0) room_1.cells room_1.slots T64 (mkF m 316 #[(.val (.int p0)), (.val (.int p1)), (.val (.int p2)), (.val (.ref b1)), (.val (.ref b32)), (.val (.ref b48)), (.val (.int i)), (.val (.int f7)), (.val (.int x)), .unset] [])
      refine Owes.by (fun _ kq => XS.iload X64.here hx rfl (hb hby at_316) rfl kq) ?_
      show Owes p e below s (QL n0) room_1.cells room_1.slots T64 (mkF m 318 #[(.val (.int p0)), (.val (.int p1)), (.val (.int p2)), (.val (.ref b1)), (.val (.ref b32)), (.val (.ref b48)), (.val (.int i)), (.val (.int f7)), (.val (.int x)), .unset] [(.int x)])
      refine Owes.by (fun _ kq => XS.aload X64.here hx rfl (hb hby at_318) rfl rfl kq) ?_
      show Owes p e below s (QL n0) room_1.cells room_1.slots T64 (mkF m 320 #[(.val (.int p0)), (.val (.int p1)), (.val (.int p2)), (.val (.ref b1)), (.val (.ref b32)), (.val (.ref b48)), (.val (.int i)), (.val (.int f7)), (.val (.int x)), .unset] [(.ref b48), (.int x)])
      refine Owes.by (fun _ kq => XS.iload X64.here hx rfl (hb hby at_320) rfl kq) ?_
      show Owes p e below s (QL n0) room_1.cells room_1.slots T64 (mkF m 322 #[(.val (.int p0)), (.val (.int p1)), (.val (.int p2)), (.val (.ref b1)), (.val (.ref b32)), (.val (.ref b48)), (.val (.int i)), (.val (.int f7)), (.val (.int x)), .unset] [(.int i), (.ref b48), (.int x)])
      refine Owes.by (fun tq kq => X64.iaload hx (j := i) (v := (.int up)) (by rw [e64]; exact ArU.1) (State.isArrayOf_alike hZ.alike ArU.2.1) ArU.2.2 iU aU (g := (mkF m 322 #[(.val (.int p0)), (.val (.int p1)), (.val (.int p2)), (.val (.ref b1)), (.val (.ref b32)), (.val (.ref b48)), (.val (.int i)), (.val (.int f7)), (.val (.int x)), .unset] [(.int i), (.ref b48), (.int x)])) rfl rfl (hb hby at_322) tq kq) ?_
      show Owes p e below s (QL n0) room_1.cells room_1.slots T64 (mkF m 323 #[(.val (.int p0)), (.val (.int p1)), (.val (.int p2)), (.val (.ref b1)), (.val (.ref b32)), (.val (.ref b48)), (.val (.int i)), (.val (.int f7)), (.val (.int x)), .unset] [(.int up), (.int x)])
      by_cases q1 : up < x
      · skip
        refine Owes.by (fun _ kq => XS.icmpYes X64.here hx rfl (pc0 := 323) (pc' := 330) rfl (hb hby at_323) rfl (XT.ii_gt_t q1) (by decide) (by decide) kq) ?_
        show Owes p e below s (QL n0) room_1.cells room_1.slots T64 (mkF m 330 #[(.val (.int p0)), (.val (.int p1)), (.val (.int p2)), (.val (.ref b1)), (.val (.ref b32)), (.val (.ref b48)), (.val (.int i)), (.val (.int f7)), (.val (.int x)), .unset] [])
        refine Owes.by (fun _ kq => XS.iconst X64.here hx rfl (hb hby at_330) kq) ?_
        show Owes p e below s (QL n0) room_1.cells room_1.slots T64 (mkF m 331 #[(.val (.int p0)), (.val (.int p1)), (.val (.int p2)), (.val (.ref b1)), (.val (.ref b32)), (.val (.ref b48)), (.val (.int i)), (.val (.int f7)), (.val (.int x)), .unset] [(.int (0 : Int32))])
        refine Owes.by (fun _ kq => XS.istore X64.here hx rfl (hb hby at_331) rfl (l' := #[(.val (.int p0)), (.val (.int p1)), (.val (.int p2)), (.val (.ref b1)), (.val (.ref b32)), (.val (.ref b48)), (.val (.int i)), (.val (.int f7)), (.val (.int x)), (.val (.int (0 : Int32)))]) rfl kq) ?_
        show Owes p e below s (QL n0) room_1.cells room_1.slots T64 (mkF m 333 #[(.val (.int p0)), (.val (.int p1)), (.val (.int p2)), (.val (.ref b1)), (.val (.ref b32)), (.val (.ref b48)), (.val (.int i)), (.val (.int f7)), (.val (.int x)), (.val (.int (0 : Int32)))] [])
        refine Owes.by (fun _ kq => XS.aloadN X64.here hx rfl (hb hby at_333) rfl rfl kq) ?_
        show Owes p e below s (QL n0) room_1.cells room_1.slots T64 (mkF m 334 #[(.val (.int p0)), (.val (.int p1)), (.val (.int p2)), (.val (.ref b1)), (.val (.ref b32)), (.val (.ref b48)), (.val (.int i)), (.val (.int f7)), (.val (.int x)), (.val (.int (0 : Int32)))] [(.ref b1)])
        refine Owes.by (fun _ kq => XS.iload X64.here hx rfl (hb hby at_334) rfl kq) ?_
        show Owes p e below s (QL n0) room_1.cells room_1.slots T64 (mkF m 336 #[(.val (.int p0)), (.val (.int p1)), (.val (.int p2)), (.val (.ref b1)), (.val (.ref b32)), (.val (.ref b48)), (.val (.int i)), (.val (.int f7)), (.val (.int x)), (.val (.int (0 : Int32)))] [(.int i), (.ref b1)])
        refine Owes.by (fun tq kq => X64.aaload hx (j := i) (v := (.ref w)) (by rw [e64]; exact ArK.1) (State.isArrayOf_alike hZ.alike ArK.2.1) rfl ArK.2.2 iK aK (g := (mkF m 336 #[(.val (.int p0)), (.val (.int p1)), (.val (.int p2)), (.val (.ref b1)), (.val (.ref b32)), (.val (.ref b48)), (.val (.int i)), (.val (.int f7)), (.val (.int x)), (.val (.int (0 : Int32)))] [(.int i), (.ref b1)])) rfl rfl (hb hby at_336) tq kq) ?_
        show Owes p e below s (QL n0) room_1.cells room_1.slots T64 (mkF m 337 #[(.val (.int p0)), (.val (.int p1)), (.val (.int p2)), (.val (.ref b1)), (.val (.ref b32)), (.val (.ref b48)), (.val (.int i)), (.val (.int f7)), (.val (.int x)), (.val (.int (0 : Int32)))] [(.ref w)])
        refine Owes.by (fun _ kq => XS.iload X64.here hx rfl (hb hby at_337) rfl kq) ?_
        show Owes p e below s (QL n0) room_1.cells room_1.slots T64 (mkF m 339 #[(.val (.int p0)), (.val (.int p1)), (.val (.int p2)), (.val (.ref b1)), (.val (.ref b32)), (.val (.ref b48)), (.val (.int i)), (.val (.int f7)), (.val (.int x)), (.val (.int (0 : Int32)))] [(.int x), (.ref w)])
        obtain ⟨cq66, kq66, qa66, qb66, qc66⟩ := isOf hZ e64 Ew
        obtain ⟨_, _, ⟨T66, L66, k66, n66⟩, -, X66, ⟨Lc66, hQ66, l66, y66, z66⟩, st66⟩ := X64.virtualBack hx (y := (⟨"com/example/kittiwake/kittiwake/wire/ApiKey", "serves", "(S)Z"⟩ : MethodName)) (z := (⟨"com/example/kittiwake/kittiwake/wire/ApiKey", "serves", "(S)Z"⟩ : MethodName)) hown (mvT hZ (hw _ (List.mem_of_getElem? (i := 36) rfl))) (mvT hZ (hw _ (List.mem_of_getElem? (i := 37) rfl))) (notFace_of_selects (args := #[]) (mvT hZ (hw _ (List.mem_of_getElem? (i := 39) rfl)))) (mvT hZ (hw _ (List.mem_of_getElem? (i := 39) rfl))) (mvT hZ (hw _ (List.mem_of_getElem? (i := 38) rfl))) (by decide) (backOf (W := 0) (rmS l Z a0 hw [] w x lo up 0 h63 n0 Zn Fl Fu (by rw [if_neg q0, if_pos q1])) hZ (hw _ (List.mem_of_getElem? (i := 40) rfl)) (hw _ (List.mem_of_getElem? (i := 3) rfl)) (by decide) (by decide)) qa66 qc66 (g := (mkF m 339 #[(.val (.int p0)), (.val (.int p1)), (.val (.int p2)), (.val (.ref b1)), (.val (.ref b32)), (.val (.ref b48)), (.val (.int i)), (.val (.int f7)), (.val (.int x)), (.val (.int (0 : Int32)))] [(.int x), (.ref w)])) rfl (by rw [hml]; rfl) (Steps.refl _) (argsL := [(.int x)]) (rest := []) (lenOf pd_S_Z rfl) rfl (by show 2 * 0 + _ ≤ _; exact Nat.le_of_eq rfl) (hb hby at_339) (fun _ _ => ⟨rfl, e64, (by decide : 3 + 0 ≤ _), (by decide : 45 + 0 ≤ _)⟩)
        dsimp only [Pt.U, Pt.locs, Pt.cells, Pt.slots] at X66 l66 y66 z66 st66 hQ66
        subst l66 y66 z66
        obtain ⟨rfl, rfl, e66⟩ := hQ66
        try rw [List.append_nil] at X66
        refine Owes.by (fun _ kq => st66.trans kq) ?_
        show Owes p e below s (QL n0) room_1.cells room_1.slots T66 (mkF m 342 #[(.val (.int p0)), (.val (.int p1)), (.val (.int p2)), (.val (.ref b1)), (.val (.ref b32)), (.val (.ref b48)), (.val (.int i)), (.val (.int f7)), (.val (.int x)), (.val (.int (0 : Int32)))] [(.int (0 : Int32))])
        refine Owes.by (fun _ kq => XS.iload X66.here hx rfl (hb hby at_342) rfl kq) ?_
        show Owes p e below s (QL n0) room_1.cells room_1.slots T66 (mkF m 344 #[(.val (.int p0)), (.val (.int p1)), (.val (.int p2)), (.val (.ref b1)), (.val (.ref b32)), (.val (.ref b48)), (.val (.int i)), (.val (.int f7)), (.val (.int x)), (.val (.int (0 : Int32)))] [(.int (0 : Int32)), (.int (0 : Int32))])
        refine Owes.by (fun _ kq => XS.icmpNo X66.here hx rfl (hb hby at_344) rfl (XT.ii_ne_f (by decide)) kq) ?_
        show Owes p e below s (QL n0) room_1.cells room_1.slots T66 (mkF m 347 #[(.val (.int p0)), (.val (.int p1)), (.val (.int p2)), (.val (.ref b1)), (.val (.ref b32)), (.val (.ref b48)), (.val (.int i)), (.val (.int f7)), (.val (.int x)), (.val (.int (0 : Int32)))] [])
        refine Owes.by (fun _ kq => XS.iconst X66.here hx rfl (hb hby at_347) kq) ?_
        show Owes p e below s (QL n0) room_1.cells room_1.slots T66 (mkF m 348 #[(.val (.int p0)), (.val (.int p1)), (.val (.int p2)), (.val (.ref b1)), (.val (.ref b32)), (.val (.ref b48)), (.val (.int i)), (.val (.int f7)), (.val (.int x)), (.val (.int (0 : Int32)))] [(.int (1 : Int32))])
        refine Owes.by (fun _ kq => XS.goto X66.here hx rfl (pc0 := 348) (pc' := 352) rfl (hb hby at_348) (by decide) (by decide) kq) ?_
        show Owes p e below s (QL n0) room_1.cells room_1.slots T66 (mkF m 352 #[(.val (.int p0)), (.val (.int p1)), (.val (.int p2)), (.val (.ref b1)), (.val (.ref b32)), (.val (.ref b48)), (.val (.int i)), (.val (.int f7)), (.val (.int x)), (.val (.int (0 : Int32)))] [(.int (1 : Int32))])
        refine Owes.ret X66 (v := some (.int (1 : Int32))) (fun h => by rw [Bd.returns] at h; cases h) hlk ?_ (by decide) (by decide) (fun fs hr => retN X66 hx (t := .boolean) Bd.returns (by simp) (hb hby at_352) hr)
        rw [e66]
        exact ⟨rfl, NG⟩
      · skip
        refine Owes.by (fun _ kq => XS.icmpNo X64.here hx rfl (hb hby at_323) rfl (XT.ii_gt_f q1) kq) ?_
        show Owes p e below s (QL n0) room_1.cells room_1.slots T64 (mkF m 326 #[(.val (.int p0)), (.val (.int p1)), (.val (.int p2)), (.val (.ref b1)), (.val (.ref b32)), (.val (.ref b48)), (.val (.int i)), (.val (.int f7)), (.val (.int x)), .unset] [])
        refine Owes.by (fun _ kq => XS.iconst X64.here hx rfl (hb hby at_326) kq) ?_
        show Owes p e below s (QL n0) room_1.cells room_1.slots T64 (mkF m 327 #[(.val (.int p0)), (.val (.int p1)), (.val (.int p2)), (.val (.ref b1)), (.val (.ref b32)), (.val (.ref b48)), (.val (.int i)), (.val (.int f7)), (.val (.int x)), .unset] [(.int (1 : Int32))])
        refine Owes.by (fun _ kq => XS.goto X64.here hx rfl (pc0 := 327) (pc' := 331) rfl (hb hby at_327) (by decide) (by decide) kq) ?_
        show Owes p e below s (QL n0) room_1.cells room_1.slots T64 (mkF m 331 #[(.val (.int p0)), (.val (.int p1)), (.val (.int p2)), (.val (.ref b1)), (.val (.ref b32)), (.val (.ref b48)), (.val (.int i)), (.val (.int f7)), (.val (.int x)), .unset] [(.int (1 : Int32))])
        refine Owes.by (fun _ kq => XS.istore X64.here hx rfl (hb hby at_331) rfl (l' := #[(.val (.int p0)), (.val (.int p1)), (.val (.int p2)), (.val (.ref b1)), (.val (.ref b32)), (.val (.ref b48)), (.val (.int i)), (.val (.int f7)), (.val (.int x)), (.val (.int (1 : Int32)))]) rfl kq) ?_
        show Owes p e below s (QL n0) room_1.cells room_1.slots T64 (mkF m 333 #[(.val (.int p0)), (.val (.int p1)), (.val (.int p2)), (.val (.ref b1)), (.val (.ref b32)), (.val (.ref b48)), (.val (.int i)), (.val (.int f7)), (.val (.int x)), (.val (.int (1 : Int32)))] [])
        refine Owes.by (fun _ kq => XS.aloadN X64.here hx rfl (hb hby at_333) rfl rfl kq) ?_
        show Owes p e below s (QL n0) room_1.cells room_1.slots T64 (mkF m 334 #[(.val (.int p0)), (.val (.int p1)), (.val (.int p2)), (.val (.ref b1)), (.val (.ref b32)), (.val (.ref b48)), (.val (.int i)), (.val (.int f7)), (.val (.int x)), (.val (.int (1 : Int32)))] [(.ref b1)])
        refine Owes.by (fun _ kq => XS.iload X64.here hx rfl (hb hby at_334) rfl kq) ?_
        show Owes p e below s (QL n0) room_1.cells room_1.slots T64 (mkF m 336 #[(.val (.int p0)), (.val (.int p1)), (.val (.int p2)), (.val (.ref b1)), (.val (.ref b32)), (.val (.ref b48)), (.val (.int i)), (.val (.int f7)), (.val (.int x)), (.val (.int (1 : Int32)))] [(.int i), (.ref b1)])
        refine Owes.by (fun tq kq => X64.aaload hx (j := i) (v := (.ref w)) (by rw [e64]; exact ArK.1) (State.isArrayOf_alike hZ.alike ArK.2.1) rfl ArK.2.2 iK aK (g := (mkF m 336 #[(.val (.int p0)), (.val (.int p1)), (.val (.int p2)), (.val (.ref b1)), (.val (.ref b32)), (.val (.ref b48)), (.val (.int i)), (.val (.int f7)), (.val (.int x)), (.val (.int (1 : Int32)))] [(.int i), (.ref b1)])) rfl rfl (hb hby at_336) tq kq) ?_
        show Owes p e below s (QL n0) room_1.cells room_1.slots T64 (mkF m 337 #[(.val (.int p0)), (.val (.int p1)), (.val (.int p2)), (.val (.ref b1)), (.val (.ref b32)), (.val (.ref b48)), (.val (.int i)), (.val (.int f7)), (.val (.int x)), (.val (.int (1 : Int32)))] [(.ref w)])
        refine Owes.by (fun _ kq => XS.iload X64.here hx rfl (hb hby at_337) rfl kq) ?_
        show Owes p e below s (QL n0) room_1.cells room_1.slots T64 (mkF m 339 #[(.val (.int p0)), (.val (.int p1)), (.val (.int p2)), (.val (.ref b1)), (.val (.ref b32)), (.val (.ref b48)), (.val (.int i)), (.val (.int f7)), (.val (.int x)), (.val (.int (1 : Int32)))] [(.int x), (.ref w)])
        obtain ⟨cq67, kq67, qa67, qb67, qc67⟩ := isOf hZ e64 Ew
        obtain ⟨_, _, ⟨T67, L67, k67, n67⟩, -, X67, ⟨Lc67, hQ67, l67, y67, z67⟩, st67⟩ := X64.virtualBack hx (y := (⟨"com/example/kittiwake/kittiwake/wire/ApiKey", "serves", "(S)Z"⟩ : MethodName)) (z := (⟨"com/example/kittiwake/kittiwake/wire/ApiKey", "serves", "(S)Z"⟩ : MethodName)) hown (mvT hZ (hw _ (List.mem_of_getElem? (i := 36) rfl))) (mvT hZ (hw _ (List.mem_of_getElem? (i := 37) rfl))) (notFace_of_selects (args := #[]) (mvT hZ (hw _ (List.mem_of_getElem? (i := 39) rfl)))) (mvT hZ (hw _ (List.mem_of_getElem? (i := 39) rfl))) (mvT hZ (hw _ (List.mem_of_getElem? (i := 38) rfl))) (by decide) (backOf (W := 0) (rmS l Z a0 hw [] w x lo up 1 h63 n0 Zn Fl Fu (by rw [if_neg q0, if_neg q1])) hZ (hw _ (List.mem_of_getElem? (i := 40) rfl)) (hw _ (List.mem_of_getElem? (i := 3) rfl)) (by decide) (by decide)) qa67 qc67 (g := (mkF m 339 #[(.val (.int p0)), (.val (.int p1)), (.val (.int p2)), (.val (.ref b1)), (.val (.ref b32)), (.val (.ref b48)), (.val (.int i)), (.val (.int f7)), (.val (.int x)), (.val (.int (1 : Int32)))] [(.int x), (.ref w)])) rfl (by rw [hml]; rfl) (Steps.refl _) (argsL := [(.int x)]) (rest := []) (lenOf pd_S_Z rfl) rfl (by show 2 * 0 + _ ≤ _; exact Nat.le_of_eq rfl) (hb hby at_339) (fun _ _ => ⟨rfl, e64, (by decide : 3 + 0 ≤ _), (by decide : 45 + 0 ≤ _)⟩)
        dsimp only [Pt.U, Pt.locs, Pt.cells, Pt.slots] at X67 l67 y67 z67 st67 hQ67
        subst l67 y67 z67
        obtain ⟨rfl, rfl, e67⟩ := hQ67
        try rw [List.append_nil] at X67
        refine Owes.by (fun _ kq => st67.trans kq) ?_
        show Owes p e below s (QL n0) room_1.cells room_1.slots T67 (mkF m 342 #[(.val (.int p0)), (.val (.int p1)), (.val (.int p2)), (.val (.ref b1)), (.val (.ref b32)), (.val (.ref b48)), (.val (.int i)), (.val (.int f7)), (.val (.int x)), (.val (.int (1 : Int32)))] [(.int (1 : Int32))])
        refine Owes.by (fun _ kq => XS.iload X67.here hx rfl (hb hby at_342) rfl kq) ?_
        show Owes p e below s (QL n0) room_1.cells room_1.slots T67 (mkF m 344 #[(.val (.int p0)), (.val (.int p1)), (.val (.int p2)), (.val (.ref b1)), (.val (.ref b32)), (.val (.ref b48)), (.val (.int i)), (.val (.int f7)), (.val (.int x)), (.val (.int (1 : Int32)))] [(.int (1 : Int32)), (.int (1 : Int32))])
        refine Owes.by (fun _ kq => XS.icmpNo X67.here hx rfl (hb hby at_344) rfl (XT.ii_ne_f (by decide)) kq) ?_
        show Owes p e below s (QL n0) room_1.cells room_1.slots T67 (mkF m 347 #[(.val (.int p0)), (.val (.int p1)), (.val (.int p2)), (.val (.ref b1)), (.val (.ref b32)), (.val (.ref b48)), (.val (.int i)), (.val (.int f7)), (.val (.int x)), (.val (.int (1 : Int32)))] [])
        refine Owes.by (fun _ kq => XS.iconst X67.here hx rfl (hb hby at_347) kq) ?_
        show Owes p e below s (QL n0) room_1.cells room_1.slots T67 (mkF m 348 #[(.val (.int p0)), (.val (.int p1)), (.val (.int p2)), (.val (.ref b1)), (.val (.ref b32)), (.val (.ref b48)), (.val (.int i)), (.val (.int f7)), (.val (.int x)), (.val (.int (1 : Int32)))] [(.int (1 : Int32))])
        refine Owes.by (fun _ kq => XS.goto X67.here hx rfl (pc0 := 348) (pc' := 352) rfl (hb hby at_348) (by decide) (by decide) kq) ?_
        show Owes p e below s (QL n0) room_1.cells room_1.slots T67 (mkF m 352 #[(.val (.int p0)), (.val (.int p1)), (.val (.int p2)), (.val (.ref b1)), (.val (.ref b32)), (.val (.ref b48)), (.val (.int i)), (.val (.int f7)), (.val (.int x)), (.val (.int (1 : Int32)))] [(.int (1 : Int32))])
        refine Owes.ret X67 (v := some (.int (1 : Int32))) (fun h => by rw [Bd.returns] at h; cases h) hlk ?_ (by decide) (by decide) (fun fs hr => retN X67 hx (t := .boolean) Bd.returns (by simp) (hb hby at_352) hr)
        rw [e67]
        exact ⟨rfl, NG⟩
  by_cases qf : (p2 &&& (1 : Int32)) = 0
  · skip
    refine Owes.by (fun _ kq => XS.ifYes XG.here hx rfl (pc0 := 269) (pc' := 276) rfl (hb hby at_269) rfl (XT.i0_eq_t qf) (by decide) (by decide) kq) ?_
    show Owes p e below s (QL n0) room_1.cells room_1.slots T63 (mkF m 276 #[(.val (.int p0)), (.val (.int p1)), (.val (.int p2)), (.val (.ref b1)), (.val (.ref b32)), (.val (.ref b48)), (.val (.int i)), .unset, .unset, .unset] [])
    refine Owes.by (fun _ kq => XS.iconst XG.here hx rfl (hb hby at_276) kq) ?_
    show Owes p e below s (QL n0) room_1.cells room_1.slots T63 (mkF m 277 #[(.val (.int p0)), (.val (.int p1)), (.val (.int p2)), (.val (.ref b1)), (.val (.ref b32)), (.val (.ref b48)), (.val (.int i)), .unset, .unset, .unset] [(.int (0 : Int32))])
    refine Owes.by (fun _ kq => XS.istore XG.here hx rfl (hb hby at_277) rfl (l' := #[(.val (.int p0)), (.val (.int p1)), (.val (.int p2)), (.val (.ref b1)), (.val (.ref b32)), (.val (.ref b48)), (.val (.int i)), (.val (.int (0 : Int32))), .unset, .unset]) rfl kq) ?_
    show Owes p e below s (QL n0) room_1.cells room_1.slots T63 (mkF m 279 #[(.val (.int p0)), (.val (.int p1)), (.val (.int p2)), (.val (.ref b1)), (.val (.ref b32)), (.val (.ref b48)), (.val (.int i)), (.val (.int (0 : Int32))), .unset, .unset] [])
    refine Owes.by (fun _ kq => XS.iload XG.here hx rfl (hb hby at_279) rfl kq) ?_
    show Owes p e below s (QL n0) room_1.cells room_1.slots T63 (mkF m 281 #[(.val (.int p0)), (.val (.int p1)), (.val (.int p2)), (.val (.ref b1)), (.val (.ref b32)), (.val (.ref b48)), (.val (.int i)), (.val (.int (0 : Int32))), .unset, .unset] [(.int (0 : Int32))])
    refine Owes.by (fun _ kq => XS.ifYes XG.here hx rfl (pc0 := 281) (pc' := 302) rfl (hb hby at_281) rfl (XT.i0_eq_t (by decide)) (by decide) (by decide) kq) ?_
    show Owes p e below s (QL n0) room_1.cells room_1.slots T63 (mkF m 302 #[(.val (.int p0)), (.val (.int p1)), (.val (.int p2)), (.val (.ref b1)), (.val (.ref b32)), (.val (.ref b48)), (.val (.int i)), (.val (.int (0 : Int32))), .unset, .unset] [])
    refine Owes.by (fun _ kq => XS.iloadN XG.here hx rfl (hb hby at_302) rfl kq) ?_
    show Owes p e below s (QL n0) room_1.cells room_1.slots T63 (mkF m 303 #[(.val (.int p0)), (.val (.int p1)), (.val (.int p2)), (.val (.ref b1)), (.val (.ref b32)), (.val (.ref b48)), (.val (.int i)), (.val (.int (0 : Int32))), .unset, .unset] [(.int p1)])
    refine Owes.by (fun _ kq => XT.i2s XG.here hx rfl (hb hby at_303) rfl kq) ?_
    show Owes p e below s (QL n0) room_1.cells room_1.slots T63 (mkF m 304 #[(.val (.int p0)), (.val (.int p1)), (.val (.int p2)), (.val (.ref b1)), (.val (.ref b32)), (.val (.ref b48)), (.val (.int i)), (.val (.int (0 : Int32))), .unset, .unset] [(.int (p1.toInt16.toInt32))])
    refine Owes.by (fun _ kq => XS.istore XG.here hx rfl (hb hby at_304) rfl (l' := #[(.val (.int p0)), (.val (.int p1)), (.val (.int p2)), (.val (.ref b1)), (.val (.ref b32)), (.val (.ref b48)), (.val (.int i)), (.val (.int (0 : Int32))), (.val (.int (p1.toInt16.toInt32))), .unset]) rfl kq) ?_
    show Owes p e below s (QL n0) room_1.cells room_1.slots T63 (mkF m 306 #[(.val (.int p0)), (.val (.int p1)), (.val (.int p2)), (.val (.ref b1)), (.val (.ref b32)), (.val (.ref b48)), (.val (.int i)), (.val (.int (0 : Int32))), (.val (.int (p1.toInt16.toInt32))), .unset] [])
    exact J64 T63 XG e63 (0 : Int32) (p1.toInt16.toInt32)
  · skip
    refine Owes.by (fun _ kq => XS.ifNo XG.here hx rfl (hb hby at_269) rfl (XT.i0_eq_f qf) kq) ?_
    show Owes p e below s (QL n0) room_1.cells room_1.slots T63 (mkF m 272 #[(.val (.int p0)), (.val (.int p1)), (.val (.int p2)), (.val (.ref b1)), (.val (.ref b32)), (.val (.ref b48)), (.val (.int i)), .unset, .unset, .unset] [])
    refine Owes.by (fun _ kq => XS.iconst XG.here hx rfl (hb hby at_272) kq) ?_
    show Owes p e below s (QL n0) room_1.cells room_1.slots T63 (mkF m 273 #[(.val (.int p0)), (.val (.int p1)), (.val (.int p2)), (.val (.ref b1)), (.val (.ref b32)), (.val (.ref b48)), (.val (.int i)), .unset, .unset, .unset] [(.int (1 : Int32))])
    refine Owes.by (fun _ kq => XS.goto XG.here hx rfl (pc0 := 273) (pc' := 277) rfl (hb hby at_273) (by decide) (by decide) kq) ?_
    show Owes p e below s (QL n0) room_1.cells room_1.slots T63 (mkF m 277 #[(.val (.int p0)), (.val (.int p1)), (.val (.int p2)), (.val (.ref b1)), (.val (.ref b32)), (.val (.ref b48)), (.val (.int i)), .unset, .unset, .unset] [(.int (1 : Int32))])
    refine Owes.by (fun _ kq => XS.istore XG.here hx rfl (hb hby at_277) rfl (l' := #[(.val (.int p0)), (.val (.int p1)), (.val (.int p2)), (.val (.ref b1)), (.val (.ref b32)), (.val (.ref b48)), (.val (.int i)), (.val (.int (1 : Int32))), .unset, .unset]) rfl kq) ?_
    show Owes p e below s (QL n0) room_1.cells room_1.slots T63 (mkF m 279 #[(.val (.int p0)), (.val (.int p1)), (.val (.int p2)), (.val (.ref b1)), (.val (.ref b32)), (.val (.ref b48)), (.val (.int i)), (.val (.int (1 : Int32))), .unset, .unset] [])
    refine Owes.by (fun _ kq => XS.iload XG.here hx rfl (hb hby at_279) rfl kq) ?_
    show Owes p e below s (QL n0) room_1.cells room_1.slots T63 (mkF m 281 #[(.val (.int p0)), (.val (.int p1)), (.val (.int p2)), (.val (.ref b1)), (.val (.ref b32)), (.val (.ref b48)), (.val (.int i)), (.val (.int (1 : Int32))), .unset, .unset] [(.int (1 : Int32))])
    refine Owes.by (fun _ kq => XS.ifNo XG.here hx rfl (hb hby at_281) rfl (XT.i0_eq_f (by decide)) kq) ?_
    show Owes p e below s (QL n0) room_1.cells room_1.slots T63 (mkF m 284 #[(.val (.int p0)), (.val (.int p1)), (.val (.int p2)), (.val (.ref b1)), (.val (.ref b32)), (.val (.ref b48)), (.val (.int i)), (.val (.int (1 : Int32))), .unset, .unset] [])
    refine Owes.by (fun _ kq => XS.aload XG.here hx rfl (hb hby at_284) rfl rfl kq) ?_
    show Owes p e below s (QL n0) room_1.cells room_1.slots T63 (mkF m 286 #[(.val (.int p0)), (.val (.int p1)), (.val (.int p2)), (.val (.ref b1)), (.val (.ref b32)), (.val (.ref b48)), (.val (.int i)), (.val (.int (1 : Int32))), .unset, .unset] [(.ref b32)])
    refine Owes.by (fun _ kq => XS.iload XG.here hx rfl (hb hby at_286) rfl kq) ?_
    show Owes p e below s (QL n0) room_1.cells room_1.slots T63 (mkF m 288 #[(.val (.int p0)), (.val (.int p1)), (.val (.int p2)), (.val (.ref b1)), (.val (.ref b32)), (.val (.ref b48)), (.val (.int i)), (.val (.int (1 : Int32))), .unset, .unset] [(.int i), (.ref b32)])
    refine Owes.by (fun tq kq => XG.iaload hx (j := i) (v := (.int lo)) (by rw [e63]; exact ArL.1) (State.isArrayOf_alike hZ.alike ArL.2.1) ArL.2.2 iL aL (g := (mkF m 288 #[(.val (.int p0)), (.val (.int p1)), (.val (.int p2)), (.val (.ref b1)), (.val (.ref b32)), (.val (.ref b48)), (.val (.int i)), (.val (.int (1 : Int32))), .unset, .unset] [(.int i), (.ref b32)])) rfl rfl (hb hby at_288) tq kq) ?_
    show Owes p e below s (QL n0) room_1.cells room_1.slots T63 (mkF m 289 #[(.val (.int p0)), (.val (.int p1)), (.val (.int p2)), (.val (.ref b1)), (.val (.ref b32)), (.val (.ref b48)), (.val (.int i)), (.val (.int (1 : Int32))), .unset, .unset] [(.int lo)])
    refine Owes.by (fun _ kq => XS.iconst XG.here hx rfl (hb hby at_289) kq) ?_
    show Owes p e below s (QL n0) room_1.cells room_1.slots T63 (mkF m 290 #[(.val (.int p0)), (.val (.int p1)), (.val (.int p2)), (.val (.ref b1)), (.val (.ref b32)), (.val (.ref b48)), (.val (.int i)), (.val (.int (1 : Int32))), .unset, .unset] [(.int (3 : Int32)), (.int lo)])
    refine Owes.by (fun _ kq => XS.isub XG.here hx rfl (hb hby at_290) rfl kq) ?_
    show Owes p e below s (QL n0) room_1.cells room_1.slots T63 (mkF m 291 #[(.val (.int p0)), (.val (.int p1)), (.val (.int p2)), (.val (.ref b1)), (.val (.ref b32)), (.val (.ref b48)), (.val (.int i)), (.val (.int (1 : Int32))), .unset, .unset] [(.int (lo - (3 : Int32)))])
    refine Owes.by (fun _ kq => XS.iloadN XG.here hx rfl (hb hby at_291) rfl kq) ?_
    show Owes p e below s (QL n0) room_1.cells room_1.slots T63 (mkF m 292 #[(.val (.int p0)), (.val (.int p1)), (.val (.int p2)), (.val (.ref b1)), (.val (.ref b32)), (.val (.ref b48)), (.val (.int i)), (.val (.int (1 : Int32))), .unset, .unset] [(.int p1), (.int (lo - (3 : Int32)))])
    refine Owes.by (fun _ kq => XS.bipush XG.here hx rfl (hb hby at_292) kq) ?_
    show Owes p e below s (QL n0) room_1.cells room_1.slots T63 (mkF m 294 #[(.val (.int p0)), (.val (.int p1)), (.val (.int p2)), (.val (.ref b1)), (.val (.ref b32)), (.val (.ref b48)), (.val (.int i)), (.val (.int (1 : Int32))), .unset, .unset] [(.int (15 : Int32)), (.int p1), (.int (lo - (3 : Int32)))])
    refine Owes.by (fun _ kq => XS.iand XG.here hx rfl (hb hby at_294) rfl kq) ?_
    show Owes p e below s (QL n0) room_1.cells room_1.slots T63 (mkF m 295 #[(.val (.int p0)), (.val (.int p1)), (.val (.int p2)), (.val (.ref b1)), (.val (.ref b32)), (.val (.ref b48)), (.val (.int i)), (.val (.int (1 : Int32))), .unset, .unset] [(.int (p1 &&& (15 : Int32))), (.int (lo - (3 : Int32)))])
    refine Owes.by (fun _ kq => XS.iadd XG.here hx rfl (hb hby at_295) rfl kq) ?_
    show Owes p e below s (QL n0) room_1.cells room_1.slots T63 (mkF m 296 #[(.val (.int p0)), (.val (.int p1)), (.val (.int p2)), (.val (.ref b1)), (.val (.ref b32)), (.val (.ref b48)), (.val (.int i)), (.val (.int (1 : Int32))), .unset, .unset] [(.int ((lo - (3 : Int32)) + (p1 &&& (15 : Int32))))])
    refine Owes.by (fun _ kq => XT.i2s XG.here hx rfl (hb hby at_296) rfl kq) ?_
    show Owes p e below s (QL n0) room_1.cells room_1.slots T63 (mkF m 297 #[(.val (.int p0)), (.val (.int p1)), (.val (.int p2)), (.val (.ref b1)), (.val (.ref b32)), (.val (.ref b48)), (.val (.int i)), (.val (.int (1 : Int32))), .unset, .unset] [(.int (((lo - (3 : Int32)) + (p1 &&& (15 : Int32))).toInt16.toInt32))])
    refine Owes.by (fun _ kq => XS.istore XG.here hx rfl (hb hby at_297) rfl (l' := #[(.val (.int p0)), (.val (.int p1)), (.val (.int p2)), (.val (.ref b1)), (.val (.ref b32)), (.val (.ref b48)), (.val (.int i)), (.val (.int (1 : Int32))), (.val (.int (((lo - (3 : Int32)) + (p1 &&& (15 : Int32))).toInt16.toInt32))), .unset]) rfl kq) ?_
    show Owes p e below s (QL n0) room_1.cells room_1.slots T63 (mkF m 299 #[(.val (.int p0)), (.val (.int p1)), (.val (.int p2)), (.val (.ref b1)), (.val (.ref b32)), (.val (.ref b48)), (.val (.int i)), (.val (.int (1 : Int32))), (.val (.int (((lo - (3 : Int32)) + (p1 &&& (15 : Int32))).toInt16.toInt32))), .unset] [])
    refine Owes.by (fun _ kq => XS.goto XG.here hx rfl (pc0 := 299) (pc' := 306) rfl (hb hby at_299) (by decide) (by decide) kq) ?_
    show Owes p e below s (QL n0) room_1.cells room_1.slots T63 (mkF m 306 #[(.val (.int p0)), (.val (.int p1)), (.val (.int p2)), (.val (.ref b1)), (.val (.ref b32)), (.val (.ref b48)), (.val (.int i)), (.val (.int (1 : Int32))), (.val (.int (((lo - (3 : Int32)) + (p1 &&& (15 : Int32))).toInt16.toInt32))), .unset] [])
    exact J64 T63 XG e63 (1 : Int32) (((lo - (3 : Int32)) + (p1 &&& (15 : Int32))).toInt16.toInt32)
set_option maxRecDepth 65536 in
set_option maxHeartbeats 40000000 in
theorem comes_1 {Post : Tables → Env → Array Value → State → Outcome → State → Prop} (hpost : ∀ tb e args s v u, (limb_1_1.after args s (.returned v) u = true ∧ limb_1_2.after args s (.returned v) u = true ∧ True) → FrameEnd s (.returned v) u (Jvm.fieldLocs frame_1_writes args s ++ Jvm.arrayLocs frame_1_arrays args s ++ Jvm.staticLocs frame_1_statics s) 16 192 → Post tb e args s (.returned v) u) :
    ArmFor flags0 classFile x code maxLocals ret World_1 tables_1 room_1 Calls_1 rest_1 Pre_1 Post := by
  intro l hfl _ _ p e ha hc hk s m args below hf hA hF happ hP
  obtain ⟨hcalls, hrest, hpre⟩ := hP
  obtain ⟨-, -, -, hnamed, -, -, -, hat⟩ := (Spec.applies_iff hf).mp happ
  obtain ⟨hg, hn⟩ := and_e (Cond.before_iff.mp (show (Jvm.Cond.and given_1 narrow_1).before args s = true from hpre))
  obtain ⟨hgl, hgr⟩ := and_e hg
  obtain ⟨hgrl, hgrr⟩ := and_e hgr
  obtain ⟨hgrrl, hgrrr⟩ := and_e hgrr
  obtain ⟨w0, w1, w2, rfl⟩ : ∃ w0 w1 w2 : Value, args = #[w0, w1, w2] := by
    have hs : args.size = 3 := by simpa [Cond.value, given_1] using hgl
    obtain ⟨L⟩ := args
    match L, hs with
    | [w0, w1, w2], _ => exact ⟨w0, w1, w2, rfl⟩
  have hw := fun d (hd : d ∈ tables_1) => atoms_spec (ws := Jvm.Cond.code x code maxLocals ret :: tables_1) hat d (List.mem_cons_of_mem _ hd)
  have hfit : Fit s := fun {y c} hc i hi => by
    obtain ⟨ha, rfl⟩ := Array.getElem?_eq_some_iff.mp hc
    have q := List.all_eq_true.mp ((Array.all_eq_true_iff_forall_mem.mp hF) _ (Array.getElem_mem ha)) i (List.mem_range.mpr hi)
    simpa [Array.getElem?_eq_getElem hi] using q
  obtain ⟨i0, ei0⟩ := is_v hgrl
  obtain rfl : w0 = (.int i0) := Option.some.inj ei0
  obtain ⟨i1, ei1⟩ := is_v hgrrl
  obtain rfl : w1 = (.int i1) := Option.some.inj ei1
  obtain ⟨i2, ei2⟩ := is_v hgrrr
  obtain rfl : w2 = (.int i2) := Option.some.inj ei2
  obtain ⟨hnl, hnr⟩ := and_e hn
  obtain ⟨hnrl, hnrr⟩ := and_e hnr
  obtain ⟨hnrrl, hnrrr⟩ := and_e hnrr
  obtain ⟨hnrrrl, hnrrrr⟩ := and_e hnrrr
  obtain ⟨hnrrrrl, hnrrrrr⟩ := and_e hnrrrr
  obtain ⟨hnrrrrrl, hnrrrrrr⟩ := and_e hnrrrrr
  obtain ⟨hnrrrrrrl, hnrrrrrrr⟩ := and_e hnrrrrrr
  obtain ⟨hnrrrrrrrl, hnrrrrrrrr⟩ := and_e hnrrrrrrr
  obtain ⟨hnrrrrrrrrl, hnrrrrrrrrr⟩ := and_e hnrrrrrrrr
  obtain ⟨hnrrrrrrrrrl, hnrrrrrrrrrr⟩ := and_e hnrrrrrrrrr
  obtain ⟨hnrrrrrrrrrrl, hnrrrrrrrrrrr⟩ := and_e hnrrrrrrrrrr
  obtain ⟨hnrrrrrrrrrrrl, hnrrrrrrrrrrrr⟩ := and_e hnrrrrrrrrrrr
  obtain ⟨hnrrrrrrrrrrrrl, hnrrrrrrrrrrrrr⟩ := and_e hnrrrrrrrrrrrr
  obtain ⟨hnrrrrrrrrrrrrrl, hnrrrrrrrrrrrrrr⟩ := and_e hnrrrrrrrrrrrrr
  obtain ⟨hnrrrrrrrrrrrrrrl, hnrrrrrrrrrrrrrrr⟩ := and_e hnrrrrrrrrrrrrrr
  obtain ⟨hnrrrrrrrrrrrrrrrl, hnrrrrrrrrrrrrrrrr⟩ := and_e hnrrrrrrrrrrrrrrr
  obtain ⟨hnrrrrrrrrrrrrrrrrl, hnrrrrrrrrrrrrrrrrr⟩ := and_e hnrrrrrrrrrrrrrrrr
  obtain ⟨hnrrrrrrrrrrrrrrrrrl, hnrrrrrrrrrrrrrrrrrr⟩ := and_e hnrrrrrrrrrrrrrrrrr
  obtain ⟨hnrrrrrrrrrrrrrrrrrrl, hnrrrrrrrrrrrrrrrrrrr⟩ := and_e hnrrrrrrrrrrrrrrrrrr
  obtain ⟨hnrrrrrrrrrrrrrrrrrrrl, hnrrrrrrrrrrrrrrrrrrrr⟩ := and_e hnrrrrrrrrrrrrrrrrrrr
  obtain ⟨hnrrrrrrrrrrrrrrrrrrrrl, hnrrrrrrrrrrrrrrrrrrrrr⟩ := and_e hnrrrrrrrrrrrrrrrrrrrr
  obtain ⟨hnrrrrrrrrrrrrrrrrrrrrrl, hnrrrrrrrrrrrrrrrrrrrrrr⟩ := and_e hnrrrrrrrrrrrrrrrrrrrrr
  obtain ⟨hnrrrrrrrrrrrrrrrrrrrrrrl, hnrrrrrrrrrrrrrrrrrrrrrrr⟩ := and_e hnrrrrrrrrrrrrrrrrrrrrrr
  obtain ⟨hnrrrrrrrrrrrrrrrrrrrrrrrl, hnrrrrrrrrrrrrrrrrrrrrrrrr⟩ := and_e hnrrrrrrrrrrrrrrrrrrrrrrr
  obtain ⟨hnrrrrrrrrrrrrrrrrrrrrrrrrl, hnrrrrrrrrrrrrrrrrrrrrrrrrr⟩ := and_e hnrrrrrrrrrrrrrrrrrrrrrrrr
  obtain ⟨hnrrrrrrrrrrrrrrrrrrrrrrrrrl, hnrrrrrrrrrrrrrrrrrrrrrrrrrr⟩ := and_e hnrrrrrrrrrrrrrrrrrrrrrrrrr
  obtain ⟨hnrrrrrrrrrrrrrrrrrrrrrrrrrrl, hnrrrrrrrrrrrrrrrrrrrrrrrrrrr⟩ := and_e hnrrrrrrrrrrrrrrrrrrrrrrrrrr
  obtain ⟨hnrrrrrrrrrrrrrrrrrrrrrrrrrrrl, hnrrrrrrrrrrrrrrrrrrrrrrrrrrrr⟩ := and_e hnrrrrrrrrrrrrrrrrrrrrrrrrrrr
  obtain ⟨hnrrrrrrrrrrrrrrrrrrrrrrrrrrrrl, hnrrrrrrrrrrrrrrrrrrrrrrrrrrrrr⟩ := and_e hnrrrrrrrrrrrrrrrrrrrrrrrrrrrr
  obtain ⟨hnrrrrrrrrrrrrrrrrrrrrrrrrrrrrrl, hnrrrrrrrrrrrrrrrrrrrrrrrrrrrrrr⟩ := and_e hnrrrrrrrrrrrrrrrrrrrrrrrrrrrrr
  obtain ⟨hnrrrrrrrrrrrrrrrrrrrrrrrrrrrrrrl, hnrrrrrrrrrrrrrrrrrrrrrrrrrrrrrrr⟩ := and_e hnrrrrrrrrrrrrrrrrrrrrrrrrrrrrrr
  obtain ⟨hnrrrrrrrrrrrrrrrrrrrrrrrrrrrrrrrl, hnrrrrrrrrrrrrrrrrrrrrrrrrrrrrrrrr⟩ := and_e hnrrrrrrrrrrrrrrrrrrrrrrrrrrrrrrr
  obtain ⟨hnrrrrrrrrrrrrrrrrrrrrrrrrrrrrrrrrl, hnrrrrrrrrrrrrrrrrrrrrrrrrrrrrrrrrr⟩ := and_e hnrrrrrrrrrrrrrrrrrrrrrrrrrrrrrrrr
  obtain ⟨hnrrrrrrrrrrrrrrrrrrrrrrrrrrrrrrrrrl, hnrrrrrrrrrrrrrrrrrrrrrrrrrrrrrrrrrr⟩ := and_e hnrrrrrrrrrrrrrrrrrrrrrrrrrrrrrrrrr
  obtain ⟨hnrrrrrrrrrrrrrrrrrrrrrrrrrrrrrrrrrrl, hnrrrrrrrrrrrrrrrrrrrrrrrrrrrrrrrrrrr⟩ := and_e hnrrrrrrrrrrrrrrrrrrrrrrrrrrrrrrrrrr
  obtain ⟨hnrrrrrrrrrrrrrrrrrrrrrrrrrrrrrrrrrrrl, hnrrrrrrrrrrrrrrrrrrrrrrrrrrrrrrrrrrrr⟩ := and_e hnrrrrrrrrrrrrrrrrrrrrrrrrrrrrrrrrrrr
  obtain ⟨hnrrrrrrrrrrrrrrrrrrrrrrrrrrrrrrrrrrrrl, hnrrrrrrrrrrrrrrrrrrrrrrrrrrrrrrrrrrrrr⟩ := and_e hnrrrrrrrrrrrrrrrrrrrrrrrrrrrrrrrrrrrr
  obtain ⟨hnrrrrrrrrrrrrrrrrrrrrrrrrrrrrrrrrrrrrrl, hnrrrrrrrrrrrrrrrrrrrrrrrrrrrrrrrrrrrrrr⟩ := and_e hnrrrrrrrrrrrrrrrrrrrrrrrrrrrrrrrrrrrrr
  obtain ⟨hnrrrrrrrrrrrrrrrrrrrrrrrrrrrrrrrrrrrrrrl, hnrrrrrrrrrrrrrrrrrrrrrrrrrrrrrrrrrrrrrrr⟩ := and_e hnrrrrrrrrrrrrrrrrrrrrrrrrrrrrrrrrrrrrrr
  obtain ⟨hnrrrrrrrrrrrrrrrrrrrrrrrrrrrrrrrrrrrrrrrl, hnrrrrrrrrrrrrrrrrrrrrrrrrrrrrrrrrrrrrrrrr⟩ := and_e hnrrrrrrrrrrrrrrrrrrrrrrrrrrrrrrrrrrrrrrr
  obtain ⟨hnrrrrrrrrrrrrrrrrrrrrrrrrrrrrrrrrrrrrrrrrl, hnrrrrrrrrrrrrrrrrrrrrrrrrrrrrrrrrrrrrrrrrr⟩ := and_e hnrrrrrrrrrrrrrrrrrrrrrrrrrrrrrrrrrrrrrrrr
  obtain ⟨hnrrrrrrrrrrrrrrrrrrrrrrrrrrrrrrrrrrrrrrrrrl, hnrrrrrrrrrrrrrrrrrrrrrrrrrrrrrrrrrrrrrrrrrr⟩ := and_e hnrrrrrrrrrrrrrrrrrrrrrrrrrrrrrrrrrrrrrrrrr
  obtain ⟨hnrrrrrrrrrrrrrrrrrrrrrrrrrrrrrrrrrrrrrrrrrrl, hnrrrrrrrrrrrrrrrrrrrrrrrrrrrrrrrrrrrrrrrrrrr⟩ := and_e hnrrrrrrrrrrrrrrrrrrrrrrrrrrrrrrrrrrrrrrrrrr
  obtain ⟨hnrrrrrrrrrrrrrrrrrrrrrrrrrrrrrrrrrrrrrrrrrrrl, hnrrrrrrrrrrrrrrrrrrrrrrrrrrrrrrrrrrrrrrrrrrrr⟩ := and_e hnrrrrrrrrrrrrrrrrrrrrrrrrrrrrrrrrrrrrrrrrrrr
  obtain ⟨w_PRODUCE, v_PRODUCE⟩ := exa_v hnl
  have E_PRODUCE := Exa.start v_PRODUCE hnl
  have S_PRODUCE := Sta.start v_PRODUCE (Or.inr ⟨(hw _ (List.mem_of_getElem? (i := 3) rfl)), (hw _ (List.mem_of_getElem? (i := 4) rfl))⟩)
  obtain ⟨w_FETCH, v_FETCH⟩ := exa_v hnrl
  have E_FETCH := Exa.start v_FETCH hnrl
  have S_FETCH := Sta.start v_FETCH (Or.inr ⟨(hw _ (List.mem_of_getElem? (i := 3) rfl)), (hw _ (List.mem_of_getElem? (i := 7) rfl))⟩)
  obtain ⟨w_LIST_OFFSETS, v_LIST_OFFSETS⟩ := exa_v hnrrl
  have E_LIST_OFFSETS := Exa.start v_LIST_OFFSETS hnrrl
  have S_LIST_OFFSETS := Sta.start v_LIST_OFFSETS (Or.inr ⟨(hw _ (List.mem_of_getElem? (i := 3) rfl)), (hw _ (List.mem_of_getElem? (i := 9) rfl))⟩)
  obtain ⟨w_METADATA, v_METADATA⟩ := exa_v hnrrrl
  have E_METADATA := Exa.start v_METADATA hnrrrl
  have S_METADATA := Sta.start v_METADATA (Or.inr ⟨(hw _ (List.mem_of_getElem? (i := 3) rfl)), (hw _ (List.mem_of_getElem? (i := 11) rfl))⟩)
  obtain ⟨w_OFFSET_COMMIT, v_OFFSET_COMMIT⟩ := exa_v hnrrrrl
  have E_OFFSET_COMMIT := Exa.start v_OFFSET_COMMIT hnrrrrl
  have S_OFFSET_COMMIT := Sta.start v_OFFSET_COMMIT (Or.inr ⟨(hw _ (List.mem_of_getElem? (i := 3) rfl)), (hw _ (List.mem_of_getElem? (i := 13) rfl))⟩)
  obtain ⟨w_OFFSET_FETCH, v_OFFSET_FETCH⟩ := exa_v hnrrrrrl
  have E_OFFSET_FETCH := Exa.start v_OFFSET_FETCH hnrrrrrl
  have S_OFFSET_FETCH := Sta.start v_OFFSET_FETCH (Or.inr ⟨(hw _ (List.mem_of_getElem? (i := 3) rfl)), (hw _ (List.mem_of_getElem? (i := 15) rfl))⟩)
  obtain ⟨w_FIND_COORDINATOR, v_FIND_COORDINATOR⟩ := exa_v hnrrrrrrl
  have E_FIND_COORDINATOR := Exa.start v_FIND_COORDINATOR hnrrrrrrl
  have S_FIND_COORDINATOR := Sta.start v_FIND_COORDINATOR (Or.inr ⟨(hw _ (List.mem_of_getElem? (i := 3) rfl)), (hw _ (List.mem_of_getElem? (i := 17) rfl))⟩)
  obtain ⟨w_JOIN_GROUP, v_JOIN_GROUP⟩ := exa_v hnrrrrrrrl
  have E_JOIN_GROUP := Exa.start v_JOIN_GROUP hnrrrrrrrl
  have S_JOIN_GROUP := Sta.start v_JOIN_GROUP (Or.inr ⟨(hw _ (List.mem_of_getElem? (i := 3) rfl)), (hw _ (List.mem_of_getElem? (i := 19) rfl))⟩)
  obtain ⟨w_HEARTBEAT, v_HEARTBEAT⟩ := exa_v hnrrrrrrrrl
  have E_HEARTBEAT := Exa.start v_HEARTBEAT hnrrrrrrrrl
  have S_HEARTBEAT := Sta.start v_HEARTBEAT (Or.inr ⟨(hw _ (List.mem_of_getElem? (i := 3) rfl)), (hw _ (List.mem_of_getElem? (i := 21) rfl))⟩)
  obtain ⟨w_LEAVE_GROUP, v_LEAVE_GROUP⟩ := exa_v hnrrrrrrrrrl
  have E_LEAVE_GROUP := Exa.start v_LEAVE_GROUP hnrrrrrrrrrl
  have S_LEAVE_GROUP := Sta.start v_LEAVE_GROUP (Or.inr ⟨(hw _ (List.mem_of_getElem? (i := 3) rfl)), (hw _ (List.mem_of_getElem? (i := 23) rfl))⟩)
  obtain ⟨w_SYNC_GROUP, v_SYNC_GROUP⟩ := exa_v hnrrrrrrrrrrl
  have E_SYNC_GROUP := Exa.start v_SYNC_GROUP hnrrrrrrrrrrl
  have S_SYNC_GROUP := Sta.start v_SYNC_GROUP (Or.inr ⟨(hw _ (List.mem_of_getElem? (i := 3) rfl)), (hw _ (List.mem_of_getElem? (i := 25) rfl))⟩)
  obtain ⟨w_API_VERSIONS, v_API_VERSIONS⟩ := exa_v hnrrrrrrrrrrrl
  have E_API_VERSIONS := Exa.start v_API_VERSIONS hnrrrrrrrrrrrl
  have S_API_VERSIONS := Sta.start v_API_VERSIONS (Or.inr ⟨(hw _ (List.mem_of_getElem? (i := 3) rfl)), (hw _ (List.mem_of_getElem? (i := 27) rfl))⟩)
  obtain ⟨w_CREATE_TOPICS, v_CREATE_TOPICS⟩ := exa_v hnrrrrrrrrrrrrl
  have E_CREATE_TOPICS := Exa.start v_CREATE_TOPICS hnrrrrrrrrrrrrl
  have S_CREATE_TOPICS := Sta.start v_CREATE_TOPICS (Or.inr ⟨(hw _ (List.mem_of_getElem? (i := 3) rfl)), (hw _ (List.mem_of_getElem? (i := 29) rfl))⟩)
  obtain ⟨w_DELETE_TOPICS, v_DELETE_TOPICS⟩ := exa_v hnrrrrrrrrrrrrrl
  have E_DELETE_TOPICS := Exa.start v_DELETE_TOPICS hnrrrrrrrrrrrrrl
  have S_DELETE_TOPICS := Sta.start v_DELETE_TOPICS (Or.inr ⟨(hw _ (List.mem_of_getElem? (i := 3) rfl)), (hw _ (List.mem_of_getElem? (i := 31) rfl))⟩)
  obtain ⟨w_INIT_PRODUCER_ID, v_INIT_PRODUCER_ID⟩ := exa_v hnrrrrrrrrrrrrrrl
  have E_INIT_PRODUCER_ID := Exa.start v_INIT_PRODUCER_ID hnrrrrrrrrrrrrrrl
  have S_INIT_PRODUCER_ID := Sta.start v_INIT_PRODUCER_ID (Or.inr ⟨(hw _ (List.mem_of_getElem? (i := 3) rfl)), (hw _ (List.mem_of_getElem? (i := 33) rfl))⟩)
  have F_PRODUCE_minVersion := own_fld v_PRODUCE hnrrrrrrrrrrrrrrrl
  have F_PRODUCE_maxVersion := own_fld v_PRODUCE hnrrrrrrrrrrrrrrrrl
  have F_FETCH_minVersion := own_fld v_FETCH hnrrrrrrrrrrrrrrrrrl
  have F_FETCH_maxVersion := own_fld v_FETCH hnrrrrrrrrrrrrrrrrrrl
  have F_INIT_PRODUCER_ID_minVersion := own_fld v_INIT_PRODUCER_ID hnrrrrrrrrrrrrrrrrrrrl
  have F_INIT_PRODUCER_ID_maxVersion := own_fld v_INIT_PRODUCER_ID hnrrrrrrrrrrrrrrrrrrrrl
  have F_OFFSET_FETCH_minVersion := own_fld v_OFFSET_FETCH hnrrrrrrrrrrrrrrrrrrrrrl
  have F_HEARTBEAT_minVersion := own_fld v_HEARTBEAT hnrrrrrrrrrrrrrrrrrrrrrrl
  have F_LEAVE_GROUP_minVersion := own_fld v_LEAVE_GROUP hnrrrrrrrrrrrrrrrrrrrrrrrl
  have F_LEAVE_GROUP_maxVersion := own_fld v_LEAVE_GROUP hnrrrrrrrrrrrrrrrrrrrrrrrrl
  have F_HEARTBEAT_maxVersion := own_fld v_HEARTBEAT hnrrrrrrrrrrrrrrrrrrrrrrrrrl
  have F_SYNC_GROUP_minVersion := own_fld v_SYNC_GROUP hnrrrrrrrrrrrrrrrrrrrrrrrrrrl
  have F_SYNC_GROUP_maxVersion := own_fld v_SYNC_GROUP hnrrrrrrrrrrrrrrrrrrrrrrrrrrrl
  have F_METADATA_minVersion := own_fld v_METADATA hnrrrrrrrrrrrrrrrrrrrrrrrrrrrrl
  have F_METADATA_maxVersion := own_fld v_METADATA hnrrrrrrrrrrrrrrrrrrrrrrrrrrrrrl
  have F_API_VERSIONS_minVersion := own_fld v_API_VERSIONS hnrrrrrrrrrrrrrrrrrrrrrrrrrrrrrrl
  have F_API_VERSIONS_maxVersion := own_fld v_API_VERSIONS hnrrrrrrrrrrrrrrrrrrrrrrrrrrrrrrrl
  have F_LIST_OFFSETS_minVersion := own_fld v_LIST_OFFSETS hnrrrrrrrrrrrrrrrrrrrrrrrrrrrrrrrrl
  have F_LIST_OFFSETS_maxVersion := own_fld v_LIST_OFFSETS hnrrrrrrrrrrrrrrrrrrrrrrrrrrrrrrrrrl
  have F_OFFSET_COMMIT_minVersion := own_fld v_OFFSET_COMMIT hnrrrrrrrrrrrrrrrrrrrrrrrrrrrrrrrrrrl
  have F_OFFSET_COMMIT_maxVersion := own_fld v_OFFSET_COMMIT hnrrrrrrrrrrrrrrrrrrrrrrrrrrrrrrrrrrrl
  have F_JOIN_GROUP_minVersion := own_fld v_JOIN_GROUP hnrrrrrrrrrrrrrrrrrrrrrrrrrrrrrrrrrrrrl
  have F_JOIN_GROUP_maxVersion := own_fld v_JOIN_GROUP hnrrrrrrrrrrrrrrrrrrrrrrrrrrrrrrrrrrrrrl
  have F_FIND_COORDINATOR_minVersion := own_fld v_FIND_COORDINATOR hnrrrrrrrrrrrrrrrrrrrrrrrrrrrrrrrrrrrrrrl
  have F_FIND_COORDINATOR_maxVersion := own_fld v_FIND_COORDINATOR hnrrrrrrrrrrrrrrrrrrrrrrrrrrrrrrrrrrrrrrrl
  have F_DELETE_TOPICS_minVersion := own_fld v_DELETE_TOPICS hnrrrrrrrrrrrrrrrrrrrrrrrrrrrrrrrrrrrrrrrrl
  have F_DELETE_TOPICS_maxVersion := own_fld v_DELETE_TOPICS hnrrrrrrrrrrrrrrrrrrrrrrrrrrrrrrrrrrrrrrrrrl
  have F_OFFSET_FETCH_maxVersion := own_fld v_OFFSET_FETCH hnrrrrrrrrrrrrrrrrrrrrrrrrrrrrrrrrrrrrrrrrrrl
  have F_CREATE_TOPICS_minVersion := own_fld v_CREATE_TOPICS hnrrrrrrrrrrrrrrrrrrrrrrrrrrrrrrrrrrrrrrrrrrrl
  have F_CREATE_TOPICS_maxVersion := own_fld v_CREATE_TOPICS hnrrrrrrrrrrrrrrrrrrrrrrrrrrrrrrrrrrrrrrrrrrrr
  obtain ⟨n, o, h1, h2, h3, _, L, rfl, ⟨rfl, N⟩, hq⟩ := rm0 l s _ hw tables_1 i0 i1 i2 w_PRODUCE w_FETCH w_LIST_OFFSETS w_METADATA w_OFFSET_COMMIT w_OFFSET_FETCH w_FIND_COORDINATOR w_JOIN_GROUP w_HEARTBEAT w_LEAVE_GROUP w_SYNC_GROUP w_API_VERSIONS w_CREATE_TOPICS w_DELETE_TOPICS w_INIT_PRODUCER_ID s.heap s.heap.size (Nat.le_refl _) S_PRODUCE S_FETCH S_LIST_OFFSETS S_METADATA S_OFFSET_COMMIT S_OFFSET_FETCH S_FIND_COORDINATOR S_JOIN_GROUP S_HEARTBEAT S_LEAVE_GROUP S_SYNC_GROUP S_API_VERSIONS S_CREATE_TOPICS S_DELETE_TOPICS S_INIT_PRODUCER_ID E_PRODUCE E_FETCH E_LIST_OFFSETS E_METADATA E_OFFSET_COMMIT E_OFFSET_FETCH E_FIND_COORDINATOR E_JOIN_GROUP E_HEARTBEAT E_LEAVE_GROUP E_SYNC_GROUP E_API_VERSIONS E_CREATE_TOPICS E_DELETE_TOPICS E_INIT_PRODUCER_ID F_PRODUCE_minVersion F_FETCH_minVersion F_LIST_OFFSETS_minVersion F_METADATA_minVersion F_OFFSET_COMMIT_minVersion F_OFFSET_FETCH_minVersion F_FIND_COORDINATOR_minVersion F_JOIN_GROUP_minVersion F_HEARTBEAT_minVersion F_LEAVE_GROUP_minVersion F_SYNC_GROUP_minVersion F_API_VERSIONS_minVersion F_CREATE_TOPICS_minVersion F_DELETE_TOPICS_minVersion F_INIT_PRODUCER_ID_minVersion F_PRODUCE_maxVersion F_FETCH_maxVersion F_LIST_OFFSETS_maxVersion F_METADATA_maxVersion F_OFFSET_COMMIT_maxVersion F_OFFSET_FETCH_maxVersion F_FIND_COORDINATOR_maxVersion F_JOIN_GROUP_maxVersion F_HEARTBEAT_maxVersion F_LEAVE_GROUP_maxVersion F_SYNC_GROUP_maxVersion F_API_VERSIONS_maxVersion F_CREATE_TOPICS_maxVersion F_DELETE_TOPICS_maxVersion F_INIT_PRODUCER_ID_maxVersion p e ha hc hk s m _ below hf ((Spec.applies_iff_loose hf).mp happ).1 ⟨rfl, State.Warmed39.refl s, rfl⟩ trivial
  refine ⟨n, _, h1, h2, h3, hpost _ _ _ _ _ _ ⟨Cond.after_iff.mpr rfl, Cond.after_iff.mpr (eq_i res_at (Term.int_eval (1)) rfl), trivial⟩ ⟨hq.1, hq.2.1, (hq.2.2.sift fun y hy => Or.inr (N y hy)).mono (by decide) (by decide)⟩⟩
theorem main_1_1 : Claimed_1_1 := comes_1 fun _ _ _ _ _ _ h hF => ⟨h.1, hF⟩
theorem main_1_2 : Claimed_1_2 := comes_1 fun _ _ _ _ _ _ h hF => ⟨h.2.1, hF⟩
end Jvm.Pilot.@@N@@
namespace Jvm.Pilot.@@N@@
open Jvm Jvm.ClassFile Sem Op Lib Jvm.Free Jvm.Stand Jvm.Pilot.@@N@@.Jvm.D
/-! MADE BY PROGRAM (witnessworld.py) out of the Statement's table words and the real class files: 13 classes; the members and pool entries that the words name. The judged class is class 1, her method 1. -/
namespace start1
open Jvm.ClassFile
def u (s : String) : CpInfo := .utf8 (stringToUtf16 s)
/-- a pool by its gaps: so many unusable entries, then the entry; so many at the end -/
def gap : Nat → List CpInfo → List CpInfo
  | 0, r => r
  | n + 1, r => .unusable :: gap n r
def poolList (es : List (Nat × CpInfo)) (last : Nat) : List CpInfo := es.foldr (fun e r => gap e.1 (e.2 :: r)) (gap last [])
def pool (es : List (Nat × CpInfo)) (last : Nat) : Array CpInfo := ⟨poolList es last⟩
def fileOf (pool : Array CpInfo) (this : Nat) (attrs : Array Attribute := #[]) (ms : Array MethodInfo := #[]) (fl : Nat := 33) (sup : Nat := 0) (ifs : Array Nat := #[]) (fds : Array FieldInfo := #[]) : ClassFile where
  minorVersion := 0
  majorVersion := 65
  constantPool := pool
  accessFlags := fl
  thisClass := this
  superClass := sup
  interfaces := ifs
  fields := fds
  methods := ms
  attributes := attrs
def plain (name : String) (sup : Option ClassId) : Class where
  name := name
  kind := .ordinary
  loader := none
  accessFlags := 33
  super := sup
  interfaces := #[]
  cf := none
  fields := #[]
  methods := #[]
  instanceTypes := #[]
  staticTypes := #[]
  resolved := #[]
  callSites := []
  init := .initialized
  statics := none
  mirror := none

def pool0 : Array CpInfo := pool [(5, u "<init>"), (0, u "()V"), (1, .class_ 10), (1, u "java/lang/Object")] 113

def k0m0 : Method := { name := "<init>", desc := "()V", sig := { parameters := [], returnType := none }, accessFlags := 1, code := none }
/-- java/lang/Object -/
def k0 : Class := { plain "java/lang/Object" none with
  accessFlags := 33
  interfaces := #[]
  cf := some (fileOf pool0 8 #[] #[{ accessFlags := 1, nameIndex := 5, descriptorIndex := 6, attributes := #[] }] 33 0 #[] #[])
  fields := #[]
  methods := #[k0m0]
  instanceTypes := #[]
  staticTypes := #[]
  resolved := Array.replicate 124 none
  statics := none }

def pool1 : Array CpInfo := pool [(2, .class_ 4), (1, u "java/lang/Object"), (0, u "<init>"), (0, u "()V"), (0, .class_ 8), (0, u "com/example/kittiwake/kittiwake/wire/ApiKey"), (0, .fieldref 7 10), (0, .nameAndType 11 12), (0, u "PRODUCE"), (0, u "Lcom/example/kittiwake/kittiwake/wire/ApiKey;"), (0, .fieldref 7 14), (0, .nameAndType 15 12), (0, u "FETCH"), (0, .fieldref 7 17), (0, .nameAndType 18 12), (0, u "LIST_OFFSETS"), (0, .fieldref 7 20), (0, .nameAndType 21 12), (0, u "METADATA"), (0, .fieldref 7 23), (0, .nameAndType 24 12), (0, u "OFFSET_COMMIT"), (0, .fieldref 7 26), (0, .nameAndType 27 12), (0, u "OFFSET_FETCH"), (0, .fieldref 7 29), (0, .nameAndType 30 12), (0, u "FIND_COORDINATOR"), (0, .fieldref 7 32), (0, .nameAndType 33 12), (0, u "JOIN_GROUP"), (0, .fieldref 7 35), (0, .nameAndType 36 12), (0, u "HEARTBEAT"), (0, .fieldref 7 38), (0, .nameAndType 39 12), (0, u "LEAVE_GROUP"), (0, .fieldref 7 41), (0, .nameAndType 42 12), (0, u "SYNC_GROUP"), (0, .fieldref 7 44), (0, .nameAndType 45 12), (0, u "API_VERSIONS"), (0, .fieldref 7 47), (0, .nameAndType 48 12), (0, u "CREATE_TOPICS"), (0, .fieldref 7 50), (0, .nameAndType 51 12), (0, u "DELETE_TOPICS"), (0, .fieldref 7 53), (0, .nameAndType 54 12), (0, u "INIT_PRODUCER_ID"), (0, .integer 2147483647), (0, .methodref 7 57), (0, .nameAndType 58 59), (0, u "serves"), (0, u "(S)Z"), (0, .class_ 61), (0, u "com/example/kittiwake/kittiwake/wire/ApiKeyServesPinLaw"), (2, u "law"), (0, u "(III)Z")] 7

def k1m0 : Method := { name := "<init>", desc := "()V", sig := { parameters := [], returnType := none }, accessFlags := 2, code := none }
def k1c1 : Code := { maxStack := 4, maxLocals := 10, code := code, exceptionTable := #[], attributes := #[] }
def k1m1 : Method := { name := "law", desc := "(III)Z", sig := { parameters := [.int, .int, .int], returnType := some .boolean }, accessFlags := 9, code := some k1c1 }
/-- com/example/kittiwake/kittiwake/wire/ApiKeyServesPinLaw -/
def k1 : Class := { plain "com/example/kittiwake/kittiwake/wire/ApiKeyServesPinLaw" (some 0) with
  accessFlags := 49
  interfaces := #[]
  cf := some (fileOf pool1 60 #[] #[{ accessFlags := 2, nameIndex := 5, descriptorIndex := 6, attributes := #[] }, { accessFlags := 9, nameIndex := 64, descriptorIndex := 65, attributes := #[] }] 49 2 #[] #[])
  fields := #[]
  methods := #[k1m0, k1m1]
  instanceTypes := #[]
  staticTypes := #[]
  resolved := Array.replicate 73 none
  statics := none }

def pool2 : Array CpInfo := pool [(1, .class_ 2), (0, u "java/lang/constant/Constable"), (0, .class_ 4), (0, u "java/lang/Object")] 6

/-- java/lang/constant/Constable -/
def k2 : Class := { plain "java/lang/constant/Constable" (some 0) with
  accessFlags := 1537
  interfaces := #[]
  cf := some (fileOf pool2 1 #[] #[] 1537 3 #[] #[])
  fields := #[]
  methods := #[]
  instanceTypes := #[]
  staticTypes := #[]
  resolved := Array.replicate 11 none
  statics := none }

def pool3 : Array CpInfo := pool [(1, .class_ 2), (0, u "java/lang/Comparable"), (0, .class_ 4), (0, u "java/lang/Object")] 7

/-- java/lang/Comparable -/
def k3 : Class := { plain "java/lang/Comparable" (some 0) with
  accessFlags := 1537
  interfaces := #[]
  cf := some (fileOf pool3 1 #[] #[] 1537 3 #[] #[])
  fields := #[]
  methods := #[]
  instanceTypes := #[]
  staticTypes := #[]
  resolved := Array.replicate 12 none
  statics := none }

def pool4 : Array CpInfo := pool [(1, .class_ 2), (0, u "java/io/Serializable"), (0, .class_ 4), (0, u "java/lang/Object")] 2

/-- java/io/Serializable -/
def k4 : Class := { plain "java/io/Serializable" (some 0) with
  accessFlags := 1537
  interfaces := #[]
  cf := some (fileOf pool4 1 #[] #[] 1537 3 #[] #[])
  fields := #[]
  methods := #[]
  instanceTypes := #[]
  staticTypes := #[]
  resolved := Array.replicate 7 none
  statics := none }

def pool5 : Array CpInfo := pool [(2, .class_ 4), (1, u "java/lang/Enum"), (0, u "name"), (0, u "Ljava/lang/String;"), (2, u "ordinal"), (0, u "I"), (1, .class_ 14), (1, u "java/lang/Object"), (4, u "hash"), (86, .class_ 108), (1, u "java/lang/Enum$EnumDesc"), (2, .class_ 112), (0, u "java/lang/constant/Constable"), (0, .class_ 114), (0, u "java/lang/Comparable"), (0, .class_ 116), (0, u "java/io/Serializable")] 87

/-- java/lang/Enum -/
def k5 : Class := { plain "java/lang/Enum" (some 0) with
  accessFlags := 1057
  interfaces := #[2, 3, 4]
  cf := some (fileOf pool5 2 #[.nestMembers #[106]] #[] 1057 12 #[111, 113, 115] #[{ accessFlags := 18, nameIndex := 5, descriptorIndex := 6, attributes := #[] }, { accessFlags := 18, nameIndex := 9, descriptorIndex := 10, attributes := #[] }, { accessFlags := 2, nameIndex := 19, descriptorIndex := 10, attributes := #[] }])
  fields := #[{ name := "name", type := (.object "java/lang/String"), accessFlags := 18, slot := 0, constantValue := 0 }, { name := "ordinal", type := .int, accessFlags := 18, slot := 1, constantValue := 0 }, { name := "hash", type := .int, accessFlags := 2, slot := 2, constantValue := 0 }]
  methods := #[]
  instanceTypes := #[(.object "java/lang/String"), .int, .int]
  staticTypes := #[]
  resolved := Array.replicate 204 none
  statics := none }

def pool6 : Array CpInfo := pool [(1, .class_ 2), (0, u "com/example/kittiwake/kittiwake/wire/ApiKey"), (2, u "PRODUCE"), (0, u "Lcom/example/kittiwake/kittiwake/wire/ApiKey;"), (2, u "FETCH"), (2, u "LIST_OFFSETS"), (2, u "METADATA"), (2, u "OFFSET_COMMIT"), (2, u "OFFSET_FETCH"), (2, u "FIND_COORDINATOR"), (2, u "JOIN_GROUP"), (2, u "HEARTBEAT"), (2, u "LEAVE_GROUP"), (2, u "SYNC_GROUP"), (2, u "API_VERSIONS"), (2, u "CREATE_TOPICS"), (2, u "DELETE_TOPICS"), (2, u "INIT_PRODUCER_ID"), (2, u "$VALUES"), (0, u "[Lcom/example/kittiwake/kittiwake/wire/ApiKey;"), (6, .class_ 61), (1, u "java/lang/Enum"), (8, u "id"), (0, u "S"), (0, .fieldref 1 73), (0, .nameAndType 74 71), (0, u "minVersion"), (0, .fieldref 1 76), (0, .nameAndType 77 71), (0, u "maxVersion"), (2, u "firstFlexibleVersion"), (45, u "serves"), (0, u "(S)Z")] 21

def k6c0 : Code := { maxStack := 2, maxLocals := 2, code := prog_101_method_8_code, exceptionTable := #[], attributes := #[] }
def k6m0 : Method := { name := "serves", desc := "(S)Z", sig := { parameters := [.short], returnType := some .boolean }, accessFlags := 1, code := some k6c0 }
/-- com/example/kittiwake/kittiwake/wire/ApiKey -/
def k6 : Class := { plain "com/example/kittiwake/kittiwake/wire/ApiKey" (some 5) with
  accessFlags := 16433
  interfaces := #[]
  cf := some (fileOf pool6 1 #[] #[{ accessFlags := 1, nameIndex := 126, descriptorIndex := 127, attributes := #[] }] 16433 59 #[] #[{ accessFlags := 16409, nameIndex := 5, descriptorIndex := 6, attributes := #[] }, { accessFlags := 16409, nameIndex := 9, descriptorIndex := 6, attributes := #[] }, { accessFlags := 16409, nameIndex := 12, descriptorIndex := 6, attributes := #[] }, { accessFlags := 16409, nameIndex := 15, descriptorIndex := 6, attributes := #[] }, { accessFlags := 16409, nameIndex := 18, descriptorIndex := 6, attributes := #[] }, { accessFlags := 16409, nameIndex := 21, descriptorIndex := 6, attributes := #[] }, { accessFlags := 16409, nameIndex := 24, descriptorIndex := 6, attributes := #[] }, { accessFlags := 16409, nameIndex := 27, descriptorIndex := 6, attributes := #[] }, { accessFlags := 16409, nameIndex := 30, descriptorIndex := 6, attributes := #[] }, { accessFlags := 16409, nameIndex := 33, descriptorIndex := 6, attributes := #[] }, { accessFlags := 16409, nameIndex := 36, descriptorIndex := 6, attributes := #[] }, { accessFlags := 16409, nameIndex := 39, descriptorIndex := 6, attributes := #[] }, { accessFlags := 16409, nameIndex := 42, descriptorIndex := 6, attributes := #[] }, { accessFlags := 16409, nameIndex := 45, descriptorIndex := 6, attributes := #[] }, { accessFlags := 16409, nameIndex := 48, descriptorIndex := 6, attributes := #[] }, { accessFlags := 18, nameIndex := 70, descriptorIndex := 71, attributes := #[] }, { accessFlags := 18, nameIndex := 74, descriptorIndex := 71, attributes := #[] }, { accessFlags := 18, nameIndex := 77, descriptorIndex := 71, attributes := #[] }, { accessFlags := 18, nameIndex := 80, descriptorIndex := 71, attributes := #[] }, { accessFlags := 4122, nameIndex := 51, descriptorIndex := 52, attributes := #[] }])
  fields := #[{ name := "PRODUCE", type := (.object "com/example/kittiwake/kittiwake/wire/ApiKey"), accessFlags := 16409, slot := 0, constantValue := 0 }, { name := "FETCH", type := (.object "com/example/kittiwake/kittiwake/wire/ApiKey"), accessFlags := 16409, slot := 1, constantValue := 0 }, { name := "LIST_OFFSETS", type := (.object "com/example/kittiwake/kittiwake/wire/ApiKey"), accessFlags := 16409, slot := 2, constantValue := 0 }, { name := "METADATA", type := (.object "com/example/kittiwake/kittiwake/wire/ApiKey"), accessFlags := 16409, slot := 3, constantValue := 0 }, { name := "OFFSET_COMMIT", type := (.object "com/example/kittiwake/kittiwake/wire/ApiKey"), accessFlags := 16409, slot := 4, constantValue := 0 }, { name := "OFFSET_FETCH", type := (.object "com/example/kittiwake/kittiwake/wire/ApiKey"), accessFlags := 16409, slot := 5, constantValue := 0 }, { name := "FIND_COORDINATOR", type := (.object "com/example/kittiwake/kittiwake/wire/ApiKey"), accessFlags := 16409, slot := 6, constantValue := 0 }, { name := "JOIN_GROUP", type := (.object "com/example/kittiwake/kittiwake/wire/ApiKey"), accessFlags := 16409, slot := 7, constantValue := 0 }, { name := "HEARTBEAT", type := (.object "com/example/kittiwake/kittiwake/wire/ApiKey"), accessFlags := 16409, slot := 8, constantValue := 0 }, { name := "LEAVE_GROUP", type := (.object "com/example/kittiwake/kittiwake/wire/ApiKey"), accessFlags := 16409, slot := 9, constantValue := 0 }, { name := "SYNC_GROUP", type := (.object "com/example/kittiwake/kittiwake/wire/ApiKey"), accessFlags := 16409, slot := 10, constantValue := 0 }, { name := "API_VERSIONS", type := (.object "com/example/kittiwake/kittiwake/wire/ApiKey"), accessFlags := 16409, slot := 11, constantValue := 0 }, { name := "CREATE_TOPICS", type := (.object "com/example/kittiwake/kittiwake/wire/ApiKey"), accessFlags := 16409, slot := 12, constantValue := 0 }, { name := "DELETE_TOPICS", type := (.object "com/example/kittiwake/kittiwake/wire/ApiKey"), accessFlags := 16409, slot := 13, constantValue := 0 }, { name := "INIT_PRODUCER_ID", type := (.object "com/example/kittiwake/kittiwake/wire/ApiKey"), accessFlags := 16409, slot := 14, constantValue := 0 }, { name := "id", type := .short, accessFlags := 18, slot := 3, constantValue := 0 }, { name := "minVersion", type := .short, accessFlags := 18, slot := 4, constantValue := 0 }, { name := "maxVersion", type := .short, accessFlags := 18, slot := 5, constantValue := 0 }, { name := "firstFlexibleVersion", type := .short, accessFlags := 18, slot := 6, constantValue := 0 }, { name := "$VALUES", type := (.array (.object "com/example/kittiwake/kittiwake/wire/ApiKey")), accessFlags := 4122, slot := 15, constantValue := 0 }]
  methods := #[k6m0]
  instanceTypes := #[(.object "java/lang/String"), .int, .int, .short, .short, .short, .short]
  staticTypes := #[(.object "com/example/kittiwake/kittiwake/wire/ApiKey"), (.object "com/example/kittiwake/kittiwake/wire/ApiKey"), (.object "com/example/kittiwake/kittiwake/wire/ApiKey"), (.object "com/example/kittiwake/kittiwake/wire/ApiKey"), (.object "com/example/kittiwake/kittiwake/wire/ApiKey"), (.object "com/example/kittiwake/kittiwake/wire/ApiKey"), (.object "com/example/kittiwake/kittiwake/wire/ApiKey"), (.object "com/example/kittiwake/kittiwake/wire/ApiKey"), (.object "com/example/kittiwake/kittiwake/wire/ApiKey"), (.object "com/example/kittiwake/kittiwake/wire/ApiKey"), (.object "com/example/kittiwake/kittiwake/wire/ApiKey"), (.object "com/example/kittiwake/kittiwake/wire/ApiKey"), (.object "com/example/kittiwake/kittiwake/wire/ApiKey"), (.object "com/example/kittiwake/kittiwake/wire/ApiKey"), (.object "com/example/kittiwake/kittiwake/wire/ApiKey"), (.array (.object "com/example/kittiwake/kittiwake/wire/ApiKey"))]
  resolved := Array.replicate 149 none
  statics := some 0 }

def pool7 : Array CpInfo := pool [(1, u "java/lang/Cloneable"), (0, .class_ 1), (0, u "java/lang/Object"), (0, .class_ 3)] 3

/-- java/lang/Cloneable -/
def k7 : Class := { plain "java/lang/Cloneable" (some 0) with
  accessFlags := 1537
  interfaces := #[]
  cf := some (fileOf pool7 2 #[] #[] 1537 4 #[] #[])
  fields := #[]
  methods := #[]
  instanceTypes := #[]
  staticTypes := #[]
  resolved := Array.replicate 8 none
  statics := none }

/-- the primitive byte -/
def k8 : Class := { plain "byte" none with kind := .primitive 'B', accessFlags := 0x411 }
/-- [B -/
def k9 : Class := { plain "[B" (some 0) with kind := .array 8 .byte, interfaces := #[7, 4], accessFlags := 1041 }

/-- the primitive int -/
def k10 : Class := { plain "int" none with kind := .primitive 'I', accessFlags := 0x411 }
/-- [I -/
def k11 : Class := { plain "[I" (some 0) with kind := .array 10 .int, interfaces := #[7, 4], accessFlags := 1041 }

/-- [Lcom/example/kittiwake/kittiwake/wire/ApiKey; -/
def k12 : Class := { plain "[Lcom/example/kittiwake/kittiwake/wire/ApiKey;" (some 0) with kind := .array 6 (.object "com/example/kittiwake/kittiwake/wire/ApiKey"), interfaces := #[7, 4], accessFlags := 1041 }

def heap : Heap := #[{ cls := 6, slots := #[.ref 1, .ref 2, .ref 3, .ref 4, .ref 5, .ref 6, .ref 7, .ref 8, .ref 9, .ref 10, .ref 11, .ref 12, .ref 13, .ref 14, .ref 15, .null], vm := .statics 6 },
  { cls := 6, slots := #[.null, .int 0, .int 0, .int 0, .int 0, .int 7, .int 0], vm := .none },
  { cls := 6, slots := #[.null, .int 1, .int 0, .int 0, .int 4, .int 11, .int 0], vm := .none },
  { cls := 6, slots := #[.null, .int 2, .int 0, .int 0, .int 1, .int 2, .int 0], vm := .none },
  { cls := 6, slots := #[.null, .int 3, .int 0, .int 0, .int 0, .int 4, .int 0], vm := .none },
  { cls := 6, slots := #[.null, .int 4, .int 0, .int 0, .int 0, .int 3, .int 0], vm := .none },
  { cls := 6, slots := #[.null, .int 5, .int 0, .int 0, .int 0, .int 3, .int 0], vm := .none },
  { cls := 6, slots := #[.null, .int 6, .int 0, .int 0, .int 0, .int 2, .int 0], vm := .none },
  { cls := 6, slots := #[.null, .int 7, .int 0, .int 0, .int 0, .int 4, .int 0], vm := .none },
  { cls := 6, slots := #[.null, .int 8, .int 0, .int 0, .int 0, .int 2, .int 0], vm := .none },
  { cls := 6, slots := #[.null, .int 9, .int 0, .int 0, .int 0, .int 1, .int 0], vm := .none },
  { cls := 6, slots := #[.null, .int 10, .int 0, .int 0, .int 0, .int 2, .int 0], vm := .none },
  { cls := 6, slots := #[.null, .int 11, .int 0, .int 0, .int 0, .int 3, .int 0], vm := .none },
  { cls := 6, slots := #[.null, .int 12, .int 0, .int 0, .int 0, .int 3, .int 0], vm := .none },
  { cls := 6, slots := #[.null, .int 13, .int 0, .int 0, .int 0, .int 3, .int 0], vm := .none },
  { cls := 6, slots := #[.null, .int 14, .int 0, .int 0, .int 0, .int 1, .int 0], vm := .none }]
def classes : Array Class := #[k0, k1, k2, k3, k4, k5, k6, k7, k8, k9, k10, k11, k12]
def interned : List (Array UInt16 × Addr) := []
def slotsUsed : Nat := 121
def theMethod : MethodId := ⟨1, 1⟩
def args0 : Array Value := #[.int 16, .int 5, .int 1]
def aboutOver (below : List Frame) : State where
  vm := { classes := classes, interned := interned.toArray }
  heap := heap
  slotsUsed := slotsUsed
  threads := #[{ frames := .invoking theMethod args0 :: below }]
def below0 : List Frame := [.native { method := ⟨0, 0⟩, args := #[] }]
def about1 : State := aboutOver below0
def p0 : Program := .bare "" "" ""
def e0 : Env := launch0.env 0 0 0
theorem w_frames : about1.frames = Frame.invoking theMethod args0 :: below0 := rfl
set_option maxRecDepth 65536 in
theorem w_args : argsFit about1.vm theMethod args0 = true := by decide +kernel
set_option maxRecDepth 65536 in
theorem w_heap : heapFits about1 = true := by decide +kernel
set_option maxRecDepth 65536 in
theorem w_runnable : about1.curStatus? = some .runnable := by decide +kernel
set_option maxRecDepth 65536 in
theorem w_alone : about1.alone = true := by decide +kernel
set_option maxRecDepth 65536 in
theorem w_named : about1.methodNamed? x = some theMethod := by decide +kernel
set_option maxRecDepth 65536 in
theorem w_hears : about1.hears theMethod below0 = true := by decide +kernel
set_option maxRecDepth 65536 in
theorem w_ripe : about1.ripe theMethod args0 below0 = true := by decide +kernel
theorem w_running : about1.status = .running := rfl
set_option maxRecDepth 65536 in
theorem w_room : about1.hasRoom e0.platform room_1 = true :=
  launch0.hasRoom_least _ room_1 (by decide +kernel) (by decide +kernel) (by decide +kernel) (by decide +kernel) (by decide +kernel) (by decide +kernel)
theorem allAtoms_all (ts : List Jvm.Cond) (a : Array Jvm.Value) (st : Jvm.State) : (allAtoms ts).before a st = ts.all (fun c => c.before a st) := by
  induction ts with
  | nil => rfl
  | cons c t ih =>
    show (Jvm.Cond.and c (allAtoms t)).before a st = _
    rw [Jvm.Cond.before_and, ih, List.all_cons]
def words1 : List Jvm.Cond := Jvm.Cond.code x code maxLocals ret :: tables_1
/-- a 'code' word, met by the world's own term for the bytes: nothing is compared byte by byte -/
theorem code_word {y : MethodName} {bytes : ByteArray} {mx : Nat} {rt : Option FieldType} {a : Array Value} {s : State} {m : MethodId} {meth : Method} {c : Code} (h1 : s.methodNamed? y = some m) (h2 : s.vm.method? m = some meth) (h3 : meth.code = some c) (h4 : c.code = bytes)
    (h5 : (c.maxLocals == mx && c.exceptionTable.isEmpty && decide (c.maxStack ≤ mostOperands) && decide (meth.sig.returnType = rt) && !meth.locks && decide (parseMethodDescriptor y.desc = some meth.sig)) = true) : (Jvm.Cond.code y bytes mx rt).before a s = true := by
  simp only [Bool.and_eq_true, beq_iff_eq, Bool.not_eq_true', decide_eq_true_eq] at h5
  obtain ⟨⟨⟨⟨⟨g1, g2⟩, g3⟩, g4⟩, g5⟩, g6⟩ := h5
  simp [Cond.before, Cond.holds, Cond.value, h1, h2, h3, h4, g1, g2, g3, g4, g5, g6]
def isCode : Jvm.Cond → Bool
  | .code _ _ _ _ => true
  | _ => false
theorem all_split {L : List Jvm.Cond} {P : Jvm.Cond → Bool} (h1 : L.all (fun c => isCode c || P c) = true) (h2 : ∀ c ∈ L.filter isCode, P c = true) : L.all P = true := by
  refine List.all_eq_true.mpr fun c hc => ?_
  have h := List.all_eq_true.mp h1 c hc
  rcases Bool.eq_false_or_eq_true (isCode c) with hi | hi
  · exact h2 c (List.mem_filter.mpr ⟨hc, hi⟩)
  · simpa [hi] using h
set_option maxRecDepth 65536 in
theorem w_c0 : (Jvm.Cond.code x code maxLocals ret).before args0 about1 = true := code_word (m := ⟨1, 1⟩) (meth := k1m1) (c := k1c1) (by decide +kernel) rfl rfl rfl (by decide +kernel)
set_option maxRecDepth 65536 in
theorem w_c1 : (Jvm.Cond.code ({ cls := "com/example/kittiwake/kittiwake/wire/ApiKey", name := "serves", desc := "(S)Z" } : Jvm.MethodName) prog_101_method_8_code (2 : Nat) (Option.some Jvm.ClassFile.FieldType.boolean)).before args0 about1 = true := code_word (m := ⟨6, 0⟩) (meth := k6m0) (c := k6c0) (by decide +kernel) rfl rfl rfl (by decide +kernel)
def codes1 : List Jvm.Cond := [Jvm.Cond.code x code maxLocals ret, Jvm.Cond.code ({ cls := "com/example/kittiwake/kittiwake/wire/ApiKey", name := "serves", desc := "(S)Z" } : Jvm.MethodName) prog_101_method_8_code (2 : Nat) (Option.some Jvm.ClassFile.FieldType.boolean)]
set_option maxRecDepth 65536 in
theorem codes_eq : words1.filter isCode = codes1 := rfl
theorem w_codes : ∀ c ∈ words1.filter isCode, c.before args0 about1 = true := by
  rw [codes_eq]
  intro c hc
  simp only [codes1, List.mem_cons, List.not_mem_nil, or_false] at hc
  rcases hc with rfl | rfl
  · exact w_c0
  · exact w_c1
set_option maxRecDepth 65536 in
theorem w_t1 : (words1.take 24).all (fun c => isCode c || c.before args0 about1) = true := by decide +kernel
set_option maxRecDepth 65536 in
theorem w_t2 : (words1.drop 24).all (fun c => isCode c || c.before args0 about1) = true := by decide +kernel
theorem w_tables : (allAtoms (Jvm.Cond.code x code maxLocals ret :: tables_1)).before args0 about1 = true := by
  rw [allAtoms_all]
  show words1.all (fun c => c.before args0 about1) = true
  refine all_split ?_ w_codes
  rw [← List.take_append_drop 24 words1, List.all_append, w_t1, w_t2]
  rfl
set_option maxRecDepth 65536 in
theorem w_case : (Jvm.Cond.and given_1 narrow_1).before args0 about1 = true := by decide +kernel
theorem w_applies : (headSpec (Jvm.Cond.code x code maxLocals ret :: tables_1) room_1).applies x e0.platform about1 = true :=
  (Spec.applies_iff w_frames).mpr ⟨w_running, w_runnable, w_alone, w_named, w_hears, w_ripe, w_room, w_tables⟩
theorem atStart : AtStart classFile x code maxLocals ret World_1 tables_1 room_1 Calls_1 rest_1 Pre_1 launch0 p0 e0 about1 theMethod args0 below0 :=
  ⟨lists_1, trivial, launch0.admits_env _ _ _, launch0.least_env, fairChoices_fair.cas, fairChoices_fair.clock, w_frames, w_args, w_heap, w_applies, trivial, trivial, w_case⟩
end start1
theorem witness_1 : WitnessClaimed_1 := ⟨start1.p0, start1.e0, start1.about1, start1.theMethod, start1.args0, start1.below0, start1.atStart⟩
end Jvm.Pilot.@@N@@
