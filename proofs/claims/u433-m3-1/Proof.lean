import JvmDerived
import JvmDerived.Pilot.@@N@@Statement
import JvmDerived.Pilot.@@N@@Code
set_option linter.unusedVariables false
set_option linter.unusedSimpArgs false
namespace Jvm.Pilot.@@N@@
open Jvm Jvm.ClassFile Sem Op Lib Jvm.Free Jvm.Stand Jvm.LawKit Jvm.RoadKit Bundle Jvm.Pilot.@@N@@.Jvm.D
/-! The plain law: the doubles of two longs below 2^53 compare as the longs do. -/
theorem own_b53_i (x : Int32) : B53 x.toInt64 := by
  have h := rng32 x
  unfold B53
  rw [c_i2l]
  omega
theorem own_b53_one : B53 (1 : Int64) := by
  unfold B53
  decide
theorem own_b53_add (x : Int32) : B53 (x.toInt64 + 1) := by
  have h := rng32 x
  have e := add64 (own_b53_i x) own_b53_one
  have e1 : (1 : Int64).toInt = 1 := by decide
  rw [c_i2l, e1] at e
  unfold B53
  omega
theorem own_b53_sub (x : Int32) : B53 (x.toInt64 - 1) := by
  have h := rng32 x
  have e := sub64 (own_b53_i x) own_b53_one
  have e1 : (1 : Int64).toInt = 1 := by decide
  rw [c_i2l, e1] at e
  unfold B53
  omega
/-- what 'x <= y' of two longs is worth as an int -/
def ownLe (x y : Int64) : Int32 := if y < x then 0 else 1
theorem own_le_bit (x y : Int64) : nar .boolean (ownLe x y) = ownLe x y := by
  unfold ownLe
  split <;> decide
theorem own_gt_iff (z : Int32) : ifCond.holds .gt z = true ↔ 0 < z := by simp [ifCond.holds]
theorem own_lcmp_t {x y : Int64} (h : y < x) : ifCond.holds .gt (lcmpW x y) = true := (own_gt_iff _).mpr ((lw_gt x y).mpr h)
theorem own_lcmp_f {x y : Int64} (h : ¬ y < x) : ifCond.holds .gt (lcmpW x y) = false := by
  cases hc : ifCond.holds .gt (lcmpW x y) with
  | false => rfl
  | true => exact absurd ((lw_gt x y).mp ((own_gt_iff _).mp hc)) h
theorem own_dcmp (x : Int32) {y : Int64} (hy : B53 y) : cmpValue (FP.dcmp (FP.i2d x) (FP.l2d y)) .g = lcmpW x.toInt64 y := by
  rw [i2d_w]
  exact dcmpV_w (own_b53_i x) hy .g
/-- what met() answers on the two doubles -/
def ownMet (d2 d4 : UInt64) : Int32 := if ifCond.holds .gt (cmpValue (FP.dcmp d2 d4) .g) = true then 0 else 1
theorem own_met (x : Int32) {y : Int64} (hy : B53 y) : ownMet (FP.i2d x) (FP.l2d y) = ownLe x.toInt64 y := by
  unfold ownMet ownLe
  rw [own_dcmp x hy]
  by_cases h : y < x.toInt64
  · rw [if_pos h, if_pos ((own_gt_iff _).mpr ((lw_gt _ _).mpr h))]
  · rw [if_neg h, if_neg (fun q => h ((lw_gt _ _).mp ((own_gt_iff _).mp q)))]
theorem d2_0 : decode jdk_30_method_1_code 0 = .ok (.aload_n 0, 1) := by decide +kernel
theorem d2_1 : decode jdk_30_method_1_code 1 = .ok (.invokespecial 1, 3) := by decide +kernel
theorem d2_4 : decode jdk_30_method_1_code 4 = .ok (.return_, 1) := by decide +kernel
theorem pn_2 : plainName "java/lang/Record" = true := by first | (simp [plainName, overriddenIn]; done) | decide +kernel
theorem ef_2 (m : MethodId) (x0 : Addr) : entryFrame m #[(.ref x0)] 1 = mkF m 0 #[.val (.ref x0)] [] := by first | (simp [entryFrame, mkF, argsToLocals, Value.category]; done) | rfl
theorem pd_2 : parseMethodDescriptor "()V" = some ⟨[], none⟩ := by decide +kernel
def Q2 (Z : State) (a1 : Addr) (h0 : Heap) (n0 : Nat) (v : Option Value) (h : Heap) (L : List Loc) : Prop := v = none ∧ Fr n0 L ∧ h = h0
set_option maxRecDepth 65536 in
set_option maxHeartbeats 40000000 in
theorem rm2 (l : Launch) (Z : State) (a0 : Array Value) (hw : ∀ d ∈ tables_1, d.before a0 Z = true) (ws : List Jvm.Cond) (a1 : Addr) (h0 : Heap) (n0 : Nat) (Z0 : n0 ≤ h0.size) :
    MetFree l (⟨"java/lang/Record", "<init>", "()V"⟩ : MethodName) (head1 (Jvm.Cond.code (⟨"java/lang/Record", "<init>", "()V"⟩ : MethodName) jdk_30_method_1_code 1 none :: ws) ({ frames := 1, cells := 0, slots := 0, locals := 12 } : Room)) (fun a U => a = #[(.ref a1)] ∧ Z.Warmed39 U.vm ∧ U.heap = h0) (fun _ _ _ _ _ => True) (fun _ U o U' => ∃ v L, o = .returned v ∧ Q2 Z a1 h0 n0 v U'.heap L ∧ FrameEnd U o U' L ({ frames := 1, cells := 0, slots := 0, locals := 12 } : Room).cells ({ frames := 1, cells := 0, slots := 0, locals := 12 } : Room).slots) := by
  refine MetFree.of_bodySF (plainFor_of_name pn_2) hisR ?_
  intro p e s m args below meth c s₁ Bd hml0 hP hK
  obtain ⟨rfl, hZ, hh⟩ := hP
  have hx := Bd.exec
  have hby := Bd.bytes
  have hml : c.maxLocals = 1 := hml0
  have hown : s.vm.findClass "java/lang/Record" = some m.cls := findClass_of_methodNamed Bd.named
  have hnm := (name_of_methodNamed Bd.named Bd.method).1
  have X0 : Stand p l e ({ frames := 1, cells := 0, slots := 0, locals := 12 } : Room) s m #[(.ref a1)] below meth c s₁ [] 0 0 := Stand.of_body Bd
  have e0 : s₁.heap = h0 := by rw [← hh, Bd.state]; rfl
  have N0 := Fr.nil n0
  have pre0 : ∀ t, Steps p.tables e below (s₁.setTop (mkF m 0 #[.val (.ref a1)] [])) t → Steps p.tables e below (s₁.setTop (entryFrame m #[(.ref a1)] 1)) t := fun t k => castTop (ef_2 m a1) k
  obtain ⟨T2, X2, e2, st2⟩ := initO X0 hx hZ hown (hw _ (List.mem_of_getElem? (i := 21) rfl)) (hw _ (List.mem_of_getElem? (i := 22) rfl)) (hw _ (List.mem_of_getElem? (i := 23) rfl)) e0 (g := (mkF m 1 #[.val (.ref a1)] [(.ref a1)])) rfl (by rw [hml]; rfl) rfl (hb hby d2_1) (by decide) (W := 0) (by show 2 * 0 + _ ≤ _; exact Nat.le_of_eq rfl) (by decide)
  obtain ⟨fs, hr, hrun, hended, hW, hsame⟩ := X2.leave (v := none) (fun _ => rfl)
  refine ⟨_, _, pre0 _ ?_, hrun, hended, _, _, rfl, ?_, ⟨_, rfl⟩, hW, hsame.mono (by decide) (by decide)⟩
  · show Steps p.tables e below (s₁.setTop (mkF m 0 #[.val (.ref a1)] [])) _
    refine XS.aloadN X0.here hx rfl (hb hby d2_0) rfl rfl ?_
    show Steps p.tables e below (s₁.setTop (mkF m 1 #[.val (.ref a1)] [(.ref a1)])) _
    refine st2 _ ?_
    show Steps p.tables e below (T2.setTop (mkF m 4 #[.val (.ref a1)] [])) _
    exact X2.returnOut hx Bd.returns (hb hby d2_4) hr
  · show Q2 Z a1 h0 n0 _ T2.heap _
    rw [e2]
    exact ⟨rfl, N0, rfl⟩
theorem d1_0 : decode prog_30_method_1_code 0 = .ok (.aload_n 0, 1) := by decide +kernel
theorem d1_1 : decode prog_30_method_1_code 1 = .ok (.invokespecial 1, 3) := by decide +kernel
theorem d1_4 : decode prog_30_method_1_code 4 = .ok (.aload_n 0, 1) := by decide +kernel
theorem d1_5 : decode prog_30_method_1_code 5 = .ok (.aload_n 1, 1) := by decide +kernel
theorem d1_6 : decode prog_30_method_1_code 6 = .ok (.putfield 7, 3) := by decide +kernel
theorem d1_9 : decode prog_30_method_1_code 9 = .ok (.aload_n 0, 1) := by decide +kernel
theorem d1_10 : decode prog_30_method_1_code 10 = .ok (.aload_n 2, 1) := by decide +kernel
theorem d1_11 : decode prog_30_method_1_code 11 = .ok (.putfield 13, 3) := by decide +kernel
theorem d1_14 : decode prog_30_method_1_code 14 = .ok (.aload_n 0, 1) := by decide +kernel
theorem d1_15 : decode prog_30_method_1_code 15 = .ok (.aload_n 3, 1) := by decide +kernel
theorem d1_16 : decode prog_30_method_1_code 16 = .ok (.putfield 16, 3) := by decide +kernel
theorem d1_19 : decode prog_30_method_1_code 19 = .ok (.aload_n 0, 1) := by decide +kernel
theorem d1_20 : decode prog_30_method_1_code 20 = .ok (.dload 4, 2) := by decide +kernel
theorem d1_22 : decode prog_30_method_1_code 22 = .ok (.putfield 19, 3) := by decide +kernel
theorem d1_25 : decode prog_30_method_1_code 25 = .ok (.aload_n 0, 1) := by decide +kernel
theorem d1_26 : decode prog_30_method_1_code 26 = .ok (.dload 6, 2) := by decide +kernel
theorem d1_28 : decode prog_30_method_1_code 28 = .ok (.putfield 23, 3) := by decide +kernel
theorem d1_31 : decode prog_30_method_1_code 31 = .ok (.aload_n 0, 1) := by decide +kernel
theorem d1_32 : decode prog_30_method_1_code 32 = .ok (.dload 8, 2) := by decide +kernel
theorem d1_34 : decode prog_30_method_1_code 34 = .ok (.putfield 26, 3) := by decide +kernel
theorem d1_37 : decode prog_30_method_1_code 37 = .ok (.aload_n 0, 1) := by decide +kernel
theorem d1_38 : decode prog_30_method_1_code 38 = .ok (.dload 10, 2) := by decide +kernel
theorem d1_40 : decode prog_30_method_1_code 40 = .ok (.putfield 29, 3) := by decide +kernel
theorem d1_43 : decode prog_30_method_1_code 43 = .ok (.return_, 1) := by decide +kernel
theorem pn_1 : plainName "com/example/xylem/xylem/bench/Comparison" = true := by first | (simp [plainName, overriddenIn]; done) | decide +kernel
theorem pd_1 : parseMethodDescriptor "(Ljava/lang/String;Ljava/lang/String;Ljava/lang/String;DDDD)V" = some ⟨[.object "java/lang/String", .object "java/lang/String", .object "java/lang/String", .double, .double, .double, .double], none⟩ := by decide +kernel
theorem ef_1 (m : MethodId) (a1 r2 r3 r4 : Addr) (d5 d6 d7 d8 : UInt64) : entryFrame m #[(.ref a1), (.ref r2), (.ref r3), (.ref r4), (.double d5), (.double d6), (.double d7), (.double d8)] 12 = mkF m 0 #[.val (.ref a1), .val (.ref r2), .val (.ref r3), .val (.ref r4), .val (.double d5), .second, .val (.double d6), .second, .val (.double d7), .second, .val (.double d8), .second] [] := by first | (simp [entryFrame, mkF, argsToLocals, Value.category]; done) | rfl
def Q1 (Z : State) (a1 : Addr) (d7 d8 : UInt64) (h0 : Heap) (n0 : Nat) (v : Option Value) (h : Heap) (L : List Loc) : Prop := v = none ∧ Fr n0 L ∧ Keep h0 h [a1] ∧ Exa Z h a1 "com/example/xylem/xylem/bench/Comparison" ∧ (Fld Z h a1 "com/example/xylem/xylem/bench/Comparison" "figure" "D" (.double d7)) ∧ (Fld Z h a1 "com/example/xylem/xylem/bench/Comparison" "target" "D" (.double d8))
set_option maxRecDepth 65536 in
set_option maxHeartbeats 40000000 in
theorem rm1 (l : Launch) (Z : State) (a0 : Array Value) (hw : ∀ d ∈ tables_1, d.before a0 Z = true) (ws : List Jvm.Cond) (a1 r2 r3 r4 : Addr) (d5 d6 d7 d8 : UInt64) (h0 : Heap) (n0 : Nat) (Z0 : n0 ≤ h0.size) (F0_label : Fld Z h0 a1 "com/example/xylem/xylem/bench/Comparison" "label" "Ljava/lang/String;" .null) (F0_first : Fld Z h0 a1 "com/example/xylem/xylem/bench/Comparison" "first" "Ljava/lang/String;" .null) (F0_second : Fld Z h0 a1 "com/example/xylem/xylem/bench/Comparison" "second" "Ljava/lang/String;" .null) (F0_firstMs : Fld Z h0 a1 "com/example/xylem/xylem/bench/Comparison" "firstMs" "D" (.double 0)) (F0_secondMs : Fld Z h0 a1 "com/example/xylem/xylem/bench/Comparison" "secondMs" "D" (.double 0)) (F0_figure : Fld Z h0 a1 "com/example/xylem/xylem/bench/Comparison" "figure" "D" (.double 0)) (F0_target : Fld Z h0 a1 "com/example/xylem/xylem/bench/Comparison" "target" "D" (.double 0)) (E0 : Exa Z h0 a1 "com/example/xylem/xylem/bench/Comparison") (g1 : n0 ≤ a1) :
    MetFree l (⟨"com/example/xylem/xylem/bench/Comparison", "<init>", "(Ljava/lang/String;Ljava/lang/String;Ljava/lang/String;DDDD)V"⟩ : MethodName) (head1 (Jvm.Cond.code (⟨"com/example/xylem/xylem/bench/Comparison", "<init>", "(Ljava/lang/String;Ljava/lang/String;Ljava/lang/String;DDDD)V"⟩ : MethodName) prog_30_method_1_code 12 none :: ws) ({ frames := 2, cells := 0, slots := 0, locals := 24 } : Room)) (fun a U => a = #[(.ref a1), (.ref r2), (.ref r3), (.ref r4), (.double d5), (.double d6), (.double d7), (.double d8)] ∧ Z.Warmed39 U.vm ∧ U.heap = h0) (fun _ _ _ _ _ => True) (fun _ U o U' => ∃ v L, o = .returned v ∧ Q1 Z a1 d7 d8 h0 n0 v U'.heap L ∧ FrameEnd U o U' L ({ frames := 2, cells := 0, slots := 0, locals := 24 } : Room).cells ({ frames := 2, cells := 0, slots := 0, locals := 24 } : Room).slots) := by
  refine MetFree.of_bodySF (plainFor_of_name pn_1) hisR ?_
  intro p e s m args below meth c s₁ Bd hml0 hP hK
  obtain ⟨rfl, hZ, hh⟩ := hP
  have hx := Bd.exec
  have hby := Bd.bytes
  have hml : c.maxLocals = 12 := hml0
  have hown : s.vm.findClass "com/example/xylem/xylem/bench/Comparison" = some m.cls := findClass_of_methodNamed Bd.named
  have hnm := (name_of_methodNamed Bd.named Bd.method).1
  have X0 : Stand p l e ({ frames := 2, cells := 0, slots := 0, locals := 24 } : Room) s m #[(.ref a1), (.ref r2), (.ref r3), (.ref r4), (.double d5), (.double d6), (.double d7), (.double d8)] below meth c s₁ [] 0 0 := Stand.of_body Bd
  have e0 : s₁.heap = h0 := by rw [← hh, Bd.state]; rfl
  have N0 := Fr.nil n0
  have pre0 : ∀ t, Steps p.tables e below (s₁.setTop (mkF m 0 #[.val (.ref a1), .val (.ref r2), .val (.ref r3), .val (.ref r4), .val (.double d5), .second, .val (.double d6), .second, .val (.double d7), .second, .val (.double d8), .second] [])) t → Steps p.tables e below (s₁.setTop (entryFrame m #[(.ref a1), (.ref r2), (.ref r3), (.ref r4), (.double d5), (.double d6), (.double d7), (.double d8)] 12)) t := fun t k => castTop (ef_1 m a1 r2 r3 r4 d5 d6 d7 d8) k
  obtain ⟨_, _, ⟨Tc, Lc, kc, nc⟩, -, Xc, ⟨Lq, hQc, lc, yc, zc⟩, stc⟩ := X0.specialBack hx (y := (⟨"java/lang/Record", "<init>", "()V"⟩ : MethodName)) rfl hown (mvT hZ (hw _ (List.mem_of_getElem? (i := 16) rfl))) (mvT hZ (hw _ (List.mem_of_getElem? (i := 17) rfl))) (mvT hZ (hw _ (List.mem_of_getElem? (i := 20) rfl))) (by decide) (backOf (W := 0) (rm2 l Z a0 hw [] a1 h0 n0 Z0) hZ (hw _ (List.mem_of_getElem? (i := 20) rfl)) (hw _ (List.mem_of_getElem? (i := 19) rfl)) (by decide) (by decide)) (g := (mkF m 1 #[.val (.ref a1), .val (.ref r2), .val (.ref r3), .val (.ref r4), .val (.double d5), .second, .val (.double d6), .second, .val (.double d7), .second, .val (.double d8), .second] [(.ref a1)])) rfl (by rw [hml]; rfl) (Steps.refl _) (a := a1) (argsL := []) (rest := []) (lenOf pd_2 rfl) rfl (by show 2 * 0 + _ ≤ _; exact Nat.le_of_eq rfl) (hb hby d1_1) (fun _ _ => ⟨rfl, e0, (by decide : 0 + 0 ≤ _), (by decide : 0 + 0 ≤ _)⟩)
  dsimp only [Pt.U, Pt.locs, Pt.cells, Pt.slots] at Xc lc yc zc stc hQc
  subst lc yc zc
  obtain ⟨rfl, Nc, ec⟩ := hQc
  have M0 := Fr.app N0 Nc
  have K0 : Keep h0 h0 [a1] := Keep.refl _ _
  obtain ⟨T1, h1, X1, e1, W1, st1⟩ := putF Xc hx hZ hown (host := "") (Or.inl (hw _ (List.mem_of_getElem? (i := 24) rfl))) Via.refl ec F0_label E0 (Or.inr ⟨(hw _ (List.mem_of_getElem? (i := 25) rfl)), rfl, hnm⟩) (hw _ (List.mem_of_getElem? (i := 1) rfl)) (ty := (.object "java/lang/String")) (by decide) rfl rfl (g := (mkF m 6 #[.val (.ref a1), .val (.ref r2), .val (.ref r3), .val (.ref r4), .val (.double d5), .second, .val (.double d6), .second, .val (.double d7), .second, .val (.double d8), .second] [(.ref r2), (.ref a1)])) rfl rfl (hb hby d1_6)
  have M1 := Fr.snoc X1 M0 g1
  have K1 : Keep h0 h1 [a1] := K0.wr W1 (Or.inl (List.mem_of_getElem? (i := 0) rfl))
  have E1 : Exa Z h1 a1 "com/example/xylem/xylem/bench/Comparison" := E0.wr W1
  have F1_first : Fld Z h1 a1 "com/example/xylem/xylem/bench/Comparison" "first" "Ljava/lang/String;" .null := F0_first.other W1 (Or.inr (slot_ne (C := "com/example/xylem/xylem/bench/Comparison") (Or.inr (hw _ (List.mem_of_getElem? (i := 27) rfl))) (Or.inr (hw _ (List.mem_of_getElem? (i := 25) rfl))) (by decide) (t := (.object "java/lang/String")) (t' := (.object "java/lang/String")) (by decide) (by decide)))
  have F1_second : Fld Z h1 a1 "com/example/xylem/xylem/bench/Comparison" "second" "Ljava/lang/String;" .null := F0_second.other W1 (Or.inr (slot_ne (C := "com/example/xylem/xylem/bench/Comparison") (Or.inr (hw _ (List.mem_of_getElem? (i := 29) rfl))) (Or.inr (hw _ (List.mem_of_getElem? (i := 25) rfl))) (by decide) (t := (.object "java/lang/String")) (t' := (.object "java/lang/String")) (by decide) (by decide)))
  have F1_firstMs : Fld Z h1 a1 "com/example/xylem/xylem/bench/Comparison" "firstMs" "D" (.double 0) := F0_firstMs.other W1 (Or.inr (slot_ne (C := "com/example/xylem/xylem/bench/Comparison") (Or.inr (hw _ (List.mem_of_getElem? (i := 31) rfl))) (Or.inr (hw _ (List.mem_of_getElem? (i := 25) rfl))) (by decide) (t := .double) (t' := (.object "java/lang/String")) (by decide) (by decide)))
  have F1_secondMs : Fld Z h1 a1 "com/example/xylem/xylem/bench/Comparison" "secondMs" "D" (.double 0) := F0_secondMs.other W1 (Or.inr (slot_ne (C := "com/example/xylem/xylem/bench/Comparison") (Or.inr (hw _ (List.mem_of_getElem? (i := 33) rfl))) (Or.inr (hw _ (List.mem_of_getElem? (i := 25) rfl))) (by decide) (t := .double) (t' := (.object "java/lang/String")) (by decide) (by decide)))
  have F1_figure : Fld Z h1 a1 "com/example/xylem/xylem/bench/Comparison" "figure" "D" (.double 0) := F0_figure.other W1 (Or.inr (slot_ne (C := "com/example/xylem/xylem/bench/Comparison") (Or.inr (hw _ (List.mem_of_getElem? (i := 35) rfl))) (Or.inr (hw _ (List.mem_of_getElem? (i := 25) rfl))) (by decide) (t := .double) (t' := (.object "java/lang/String")) (by decide) (by decide)))
  have F1_target : Fld Z h1 a1 "com/example/xylem/xylem/bench/Comparison" "target" "D" (.double 0) := F0_target.other W1 (Or.inr (slot_ne (C := "com/example/xylem/xylem/bench/Comparison") (Or.inr (hw _ (List.mem_of_getElem? (i := 37) rfl))) (Or.inr (hw _ (List.mem_of_getElem? (i := 25) rfl))) (by decide) (t := .double) (t' := (.object "java/lang/String")) (by decide) (by decide)))
  obtain ⟨T2, h2, X2, e2, W2, st2⟩ := putF X1 hx hZ hown (host := "") (Or.inl (hw _ (List.mem_of_getElem? (i := 26) rfl))) Via.refl e1 F1_first E1 (Or.inr ⟨(hw _ (List.mem_of_getElem? (i := 27) rfl)), rfl, hnm⟩) (hw _ (List.mem_of_getElem? (i := 1) rfl)) (ty := (.object "java/lang/String")) (by decide) rfl rfl (g := (mkF m 11 #[.val (.ref a1), .val (.ref r2), .val (.ref r3), .val (.ref r4), .val (.double d5), .second, .val (.double d6), .second, .val (.double d7), .second, .val (.double d8), .second] [(.ref r3), (.ref a1)])) rfl rfl (hb hby d1_11)
  have M2 := Fr.snoc X2 M1 g1
  have K2 : Keep h0 h2 [a1] := K1.wr W2 (Or.inl (List.mem_of_getElem? (i := 0) rfl))
  have E2 : Exa Z h2 a1 "com/example/xylem/xylem/bench/Comparison" := E1.wr W2
  have F2_second : Fld Z h2 a1 "com/example/xylem/xylem/bench/Comparison" "second" "Ljava/lang/String;" .null := F1_second.other W2 (Or.inr (slot_ne (C := "com/example/xylem/xylem/bench/Comparison") (Or.inr (hw _ (List.mem_of_getElem? (i := 29) rfl))) (Or.inr (hw _ (List.mem_of_getElem? (i := 27) rfl))) (by decide) (t := (.object "java/lang/String")) (t' := (.object "java/lang/String")) (by decide) (by decide)))
  have F2_firstMs : Fld Z h2 a1 "com/example/xylem/xylem/bench/Comparison" "firstMs" "D" (.double 0) := F1_firstMs.other W2 (Or.inr (slot_ne (C := "com/example/xylem/xylem/bench/Comparison") (Or.inr (hw _ (List.mem_of_getElem? (i := 31) rfl))) (Or.inr (hw _ (List.mem_of_getElem? (i := 27) rfl))) (by decide) (t := .double) (t' := (.object "java/lang/String")) (by decide) (by decide)))
  have F2_secondMs : Fld Z h2 a1 "com/example/xylem/xylem/bench/Comparison" "secondMs" "D" (.double 0) := F1_secondMs.other W2 (Or.inr (slot_ne (C := "com/example/xylem/xylem/bench/Comparison") (Or.inr (hw _ (List.mem_of_getElem? (i := 33) rfl))) (Or.inr (hw _ (List.mem_of_getElem? (i := 27) rfl))) (by decide) (t := .double) (t' := (.object "java/lang/String")) (by decide) (by decide)))
  have F2_figure : Fld Z h2 a1 "com/example/xylem/xylem/bench/Comparison" "figure" "D" (.double 0) := F1_figure.other W2 (Or.inr (slot_ne (C := "com/example/xylem/xylem/bench/Comparison") (Or.inr (hw _ (List.mem_of_getElem? (i := 35) rfl))) (Or.inr (hw _ (List.mem_of_getElem? (i := 27) rfl))) (by decide) (t := .double) (t' := (.object "java/lang/String")) (by decide) (by decide)))
  have F2_target : Fld Z h2 a1 "com/example/xylem/xylem/bench/Comparison" "target" "D" (.double 0) := F1_target.other W2 (Or.inr (slot_ne (C := "com/example/xylem/xylem/bench/Comparison") (Or.inr (hw _ (List.mem_of_getElem? (i := 37) rfl))) (Or.inr (hw _ (List.mem_of_getElem? (i := 27) rfl))) (by decide) (t := .double) (t' := (.object "java/lang/String")) (by decide) (by decide)))
  obtain ⟨T3, h3, X3, e3, W3, st3⟩ := putF X2 hx hZ hown (host := "") (Or.inl (hw _ (List.mem_of_getElem? (i := 28) rfl))) Via.refl e2 F2_second E2 (Or.inr ⟨(hw _ (List.mem_of_getElem? (i := 29) rfl)), rfl, hnm⟩) (hw _ (List.mem_of_getElem? (i := 1) rfl)) (ty := (.object "java/lang/String")) (by decide) rfl rfl (g := (mkF m 16 #[.val (.ref a1), .val (.ref r2), .val (.ref r3), .val (.ref r4), .val (.double d5), .second, .val (.double d6), .second, .val (.double d7), .second, .val (.double d8), .second] [(.ref r4), (.ref a1)])) rfl rfl (hb hby d1_16)
  have M3 := Fr.snoc X3 M2 g1
  have K3 : Keep h0 h3 [a1] := K2.wr W3 (Or.inl (List.mem_of_getElem? (i := 0) rfl))
  have E3 : Exa Z h3 a1 "com/example/xylem/xylem/bench/Comparison" := E2.wr W3
  have F3_firstMs : Fld Z h3 a1 "com/example/xylem/xylem/bench/Comparison" "firstMs" "D" (.double 0) := F2_firstMs.other W3 (Or.inr (slot_ne (C := "com/example/xylem/xylem/bench/Comparison") (Or.inr (hw _ (List.mem_of_getElem? (i := 31) rfl))) (Or.inr (hw _ (List.mem_of_getElem? (i := 29) rfl))) (by decide) (t := .double) (t' := (.object "java/lang/String")) (by decide) (by decide)))
  have F3_secondMs : Fld Z h3 a1 "com/example/xylem/xylem/bench/Comparison" "secondMs" "D" (.double 0) := F2_secondMs.other W3 (Or.inr (slot_ne (C := "com/example/xylem/xylem/bench/Comparison") (Or.inr (hw _ (List.mem_of_getElem? (i := 33) rfl))) (Or.inr (hw _ (List.mem_of_getElem? (i := 29) rfl))) (by decide) (t := .double) (t' := (.object "java/lang/String")) (by decide) (by decide)))
  have F3_figure : Fld Z h3 a1 "com/example/xylem/xylem/bench/Comparison" "figure" "D" (.double 0) := F2_figure.other W3 (Or.inr (slot_ne (C := "com/example/xylem/xylem/bench/Comparison") (Or.inr (hw _ (List.mem_of_getElem? (i := 35) rfl))) (Or.inr (hw _ (List.mem_of_getElem? (i := 29) rfl))) (by decide) (t := .double) (t' := (.object "java/lang/String")) (by decide) (by decide)))
  have F3_target : Fld Z h3 a1 "com/example/xylem/xylem/bench/Comparison" "target" "D" (.double 0) := F2_target.other W3 (Or.inr (slot_ne (C := "com/example/xylem/xylem/bench/Comparison") (Or.inr (hw _ (List.mem_of_getElem? (i := 37) rfl))) (Or.inr (hw _ (List.mem_of_getElem? (i := 29) rfl))) (by decide) (t := .double) (t' := (.object "java/lang/String")) (by decide) (by decide)))
  obtain ⟨T4, h4, X4, e4, W4, st4⟩ := putF X3 hx hZ hown (host := "") (Or.inl (hw _ (List.mem_of_getElem? (i := 30) rfl))) Via.refl e3 F3_firstMs E3 (Or.inr ⟨(hw _ (List.mem_of_getElem? (i := 31) rfl)), rfl, hnm⟩) (hw _ (List.mem_of_getElem? (i := 1) rfl)) (ty := .double) (by decide) rfl rfl (g := (mkF m 22 #[.val (.ref a1), .val (.ref r2), .val (.ref r3), .val (.ref r4), .val (.double d5), .second, .val (.double d6), .second, .val (.double d7), .second, .val (.double d8), .second] [(.double d5), (.ref a1)])) rfl rfl (hb hby d1_22)
  have M4 := Fr.snoc X4 M3 g1
  have K4 : Keep h0 h4 [a1] := K3.wr W4 (Or.inl (List.mem_of_getElem? (i := 0) rfl))
  have E4 : Exa Z h4 a1 "com/example/xylem/xylem/bench/Comparison" := E3.wr W4
  have F4_secondMs : Fld Z h4 a1 "com/example/xylem/xylem/bench/Comparison" "secondMs" "D" (.double 0) := F3_secondMs.other W4 (Or.inr (slot_ne (C := "com/example/xylem/xylem/bench/Comparison") (Or.inr (hw _ (List.mem_of_getElem? (i := 33) rfl))) (Or.inr (hw _ (List.mem_of_getElem? (i := 31) rfl))) (by decide) (t := .double) (t' := .double) (by decide) (by decide)))
  have F4_figure : Fld Z h4 a1 "com/example/xylem/xylem/bench/Comparison" "figure" "D" (.double 0) := F3_figure.other W4 (Or.inr (slot_ne (C := "com/example/xylem/xylem/bench/Comparison") (Or.inr (hw _ (List.mem_of_getElem? (i := 35) rfl))) (Or.inr (hw _ (List.mem_of_getElem? (i := 31) rfl))) (by decide) (t := .double) (t' := .double) (by decide) (by decide)))
  have F4_target : Fld Z h4 a1 "com/example/xylem/xylem/bench/Comparison" "target" "D" (.double 0) := F3_target.other W4 (Or.inr (slot_ne (C := "com/example/xylem/xylem/bench/Comparison") (Or.inr (hw _ (List.mem_of_getElem? (i := 37) rfl))) (Or.inr (hw _ (List.mem_of_getElem? (i := 31) rfl))) (by decide) (t := .double) (t' := .double) (by decide) (by decide)))
  obtain ⟨T5, h5, X5, e5, W5, st5⟩ := putF X4 hx hZ hown (host := "") (Or.inl (hw _ (List.mem_of_getElem? (i := 32) rfl))) Via.refl e4 F4_secondMs E4 (Or.inr ⟨(hw _ (List.mem_of_getElem? (i := 33) rfl)), rfl, hnm⟩) (hw _ (List.mem_of_getElem? (i := 1) rfl)) (ty := .double) (by decide) rfl rfl (g := (mkF m 28 #[.val (.ref a1), .val (.ref r2), .val (.ref r3), .val (.ref r4), .val (.double d5), .second, .val (.double d6), .second, .val (.double d7), .second, .val (.double d8), .second] [(.double d6), (.ref a1)])) rfl rfl (hb hby d1_28)
  have M5 := Fr.snoc X5 M4 g1
  have K5 : Keep h0 h5 [a1] := K4.wr W5 (Or.inl (List.mem_of_getElem? (i := 0) rfl))
  have E5 : Exa Z h5 a1 "com/example/xylem/xylem/bench/Comparison" := E4.wr W5
  have F5_figure : Fld Z h5 a1 "com/example/xylem/xylem/bench/Comparison" "figure" "D" (.double 0) := F4_figure.other W5 (Or.inr (slot_ne (C := "com/example/xylem/xylem/bench/Comparison") (Or.inr (hw _ (List.mem_of_getElem? (i := 35) rfl))) (Or.inr (hw _ (List.mem_of_getElem? (i := 33) rfl))) (by decide) (t := .double) (t' := .double) (by decide) (by decide)))
  have F5_target : Fld Z h5 a1 "com/example/xylem/xylem/bench/Comparison" "target" "D" (.double 0) := F4_target.other W5 (Or.inr (slot_ne (C := "com/example/xylem/xylem/bench/Comparison") (Or.inr (hw _ (List.mem_of_getElem? (i := 37) rfl))) (Or.inr (hw _ (List.mem_of_getElem? (i := 33) rfl))) (by decide) (t := .double) (t' := .double) (by decide) (by decide)))
  obtain ⟨T6, h6, X6, e6, W6, st6⟩ := putF X5 hx hZ hown (host := "") (Or.inl (hw _ (List.mem_of_getElem? (i := 34) rfl))) Via.refl e5 F5_figure E5 (Or.inr ⟨(hw _ (List.mem_of_getElem? (i := 35) rfl)), rfl, hnm⟩) (hw _ (List.mem_of_getElem? (i := 1) rfl)) (ty := .double) (by decide) rfl rfl (g := (mkF m 34 #[.val (.ref a1), .val (.ref r2), .val (.ref r3), .val (.ref r4), .val (.double d5), .second, .val (.double d6), .second, .val (.double d7), .second, .val (.double d8), .second] [(.double d7), (.ref a1)])) rfl rfl (hb hby d1_34)
  have M6 := Fr.snoc X6 M5 g1
  have K6 : Keep h0 h6 [a1] := K5.wr W6 (Or.inl (List.mem_of_getElem? (i := 0) rfl))
  have E6 : Exa Z h6 a1 "com/example/xylem/xylem/bench/Comparison" := E5.wr W6
  have F6_figure : Fld Z h6 a1 "com/example/xylem/xylem/bench/Comparison" "figure" "D" (.double d7) := F5_figure.same W6
  have F6_target : Fld Z h6 a1 "com/example/xylem/xylem/bench/Comparison" "target" "D" (.double 0) := F5_target.other W6 (Or.inr (slot_ne (C := "com/example/xylem/xylem/bench/Comparison") (Or.inr (hw _ (List.mem_of_getElem? (i := 37) rfl))) (Or.inr (hw _ (List.mem_of_getElem? (i := 35) rfl))) (by decide) (t := .double) (t' := .double) (by decide) (by decide)))
  obtain ⟨T7, h7, X7, e7, W7, st7⟩ := putF X6 hx hZ hown (host := "") (Or.inl (hw _ (List.mem_of_getElem? (i := 36) rfl))) Via.refl e6 F6_target E6 (Or.inr ⟨(hw _ (List.mem_of_getElem? (i := 37) rfl)), rfl, hnm⟩) (hw _ (List.mem_of_getElem? (i := 1) rfl)) (ty := .double) (by decide) rfl rfl (g := (mkF m 40 #[.val (.ref a1), .val (.ref r2), .val (.ref r3), .val (.ref r4), .val (.double d5), .second, .val (.double d6), .second, .val (.double d7), .second, .val (.double d8), .second] [(.double d8), (.ref a1)])) rfl rfl (hb hby d1_40)
  have M7 := Fr.snoc X7 M6 g1
  have K7 : Keep h0 h7 [a1] := K6.wr W7 (Or.inl (List.mem_of_getElem? (i := 0) rfl))
  have E7 : Exa Z h7 a1 "com/example/xylem/xylem/bench/Comparison" := E6.wr W7
  have F7_figure : Fld Z h7 a1 "com/example/xylem/xylem/bench/Comparison" "figure" "D" (.double d7) := F6_figure.other W7 (Or.inr (slot_ne (C := "com/example/xylem/xylem/bench/Comparison") (Or.inr (hw _ (List.mem_of_getElem? (i := 35) rfl))) (Or.inr (hw _ (List.mem_of_getElem? (i := 37) rfl))) (by decide) (t := .double) (t' := .double) (by decide) (by decide)))
  have F7_target : Fld Z h7 a1 "com/example/xylem/xylem/bench/Comparison" "target" "D" (.double d8) := F6_target.same W7
  obtain ⟨fs, hr, hrun, hended, hW, hsame⟩ := X7.leave (v := none) (fun _ => rfl)
  refine ⟨_, _, pre0 _ ?_, hrun, hended, _, _, rfl, ?_, ⟨_, rfl⟩, hW, hsame.mono (by decide) (by decide)⟩
  · show Steps p.tables e below (s₁.setTop (mkF m 0 #[.val (.ref a1), .val (.ref r2), .val (.ref r3), .val (.ref r4), .val (.double d5), .second, .val (.double d6), .second, .val (.double d7), .second, .val (.double d8), .second] [])) _
    refine XS.aloadN X0.here hx rfl (hb hby d1_0) rfl rfl ?_
    show Steps p.tables e below (s₁.setTop (mkF m 1 #[.val (.ref a1), .val (.ref r2), .val (.ref r3), .val (.ref r4), .val (.double d5), .second, .val (.double d6), .second, .val (.double d7), .second, .val (.double d8), .second] [(.ref a1)])) _
    refine stc.trans ?_
    show Steps p.tables e below (Tc.setTop (mkF m 4 #[.val (.ref a1), .val (.ref r2), .val (.ref r3), .val (.ref r4), .val (.double d5), .second, .val (.double d6), .second, .val (.double d7), .second, .val (.double d8), .second] [])) _
    refine XS.aloadN Xc.here hx rfl (hb hby d1_4) rfl rfl ?_
    show Steps p.tables e below (Tc.setTop (mkF m 5 #[.val (.ref a1), .val (.ref r2), .val (.ref r3), .val (.ref r4), .val (.double d5), .second, .val (.double d6), .second, .val (.double d7), .second, .val (.double d8), .second] [(.ref a1)])) _
    refine XS.aloadN Xc.here hx rfl (hb hby d1_5) rfl rfl ?_
    show Steps p.tables e below (Tc.setTop (mkF m 6 #[.val (.ref a1), .val (.ref r2), .val (.ref r3), .val (.ref r4), .val (.double d5), .second, .val (.double d6), .second, .val (.double d7), .second, .val (.double d8), .second] [(.ref r2), (.ref a1)])) _
    refine st1 _ ?_
    show Steps p.tables e below (T1.setTop (mkF m 9 #[.val (.ref a1), .val (.ref r2), .val (.ref r3), .val (.ref r4), .val (.double d5), .second, .val (.double d6), .second, .val (.double d7), .second, .val (.double d8), .second] [])) _
    refine XS.aloadN X1.here hx rfl (hb hby d1_9) rfl rfl ?_
    show Steps p.tables e below (T1.setTop (mkF m 10 #[.val (.ref a1), .val (.ref r2), .val (.ref r3), .val (.ref r4), .val (.double d5), .second, .val (.double d6), .second, .val (.double d7), .second, .val (.double d8), .second] [(.ref a1)])) _
    refine XS.aloadN X1.here hx rfl (hb hby d1_10) rfl rfl ?_
    show Steps p.tables e below (T1.setTop (mkF m 11 #[.val (.ref a1), .val (.ref r2), .val (.ref r3), .val (.ref r4), .val (.double d5), .second, .val (.double d6), .second, .val (.double d7), .second, .val (.double d8), .second] [(.ref r3), (.ref a1)])) _
    refine st2 _ ?_
    show Steps p.tables e below (T2.setTop (mkF m 14 #[.val (.ref a1), .val (.ref r2), .val (.ref r3), .val (.ref r4), .val (.double d5), .second, .val (.double d6), .second, .val (.double d7), .second, .val (.double d8), .second] [])) _
    refine XS.aloadN X2.here hx rfl (hb hby d1_14) rfl rfl ?_
    show Steps p.tables e below (T2.setTop (mkF m 15 #[.val (.ref a1), .val (.ref r2), .val (.ref r3), .val (.ref r4), .val (.double d5), .second, .val (.double d6), .second, .val (.double d7), .second, .val (.double d8), .second] [(.ref a1)])) _
    refine XS.aloadN X2.here hx rfl (hb hby d1_15) rfl rfl ?_
    show Steps p.tables e below (T2.setTop (mkF m 16 #[.val (.ref a1), .val (.ref r2), .val (.ref r3), .val (.ref r4), .val (.double d5), .second, .val (.double d6), .second, .val (.double d7), .second, .val (.double d8), .second] [(.ref r4), (.ref a1)])) _
    refine st3 _ ?_
    show Steps p.tables e below (T3.setTop (mkF m 19 #[.val (.ref a1), .val (.ref r2), .val (.ref r3), .val (.ref r4), .val (.double d5), .second, .val (.double d6), .second, .val (.double d7), .second, .val (.double d8), .second] [])) _
    refine XS.aloadN X3.here hx rfl (hb hby d1_19) rfl rfl ?_
    show Steps p.tables e below (T3.setTop (mkF m 20 #[.val (.ref a1), .val (.ref r2), .val (.ref r3), .val (.ref r4), .val (.double d5), .second, .val (.double d6), .second, .val (.double d7), .second, .val (.double d8), .second] [(.ref a1)])) _
    refine XS.dload X3.here hx rfl (hb hby d1_20) rfl ?_
    show Steps p.tables e below (T3.setTop (mkF m 22 #[.val (.ref a1), .val (.ref r2), .val (.ref r3), .val (.ref r4), .val (.double d5), .second, .val (.double d6), .second, .val (.double d7), .second, .val (.double d8), .second] [(.double d5), (.ref a1)])) _
    refine st4 _ ?_
    show Steps p.tables e below (T4.setTop (mkF m 25 #[.val (.ref a1), .val (.ref r2), .val (.ref r3), .val (.ref r4), .val (.double d5), .second, .val (.double d6), .second, .val (.double d7), .second, .val (.double d8), .second] [])) _
    refine XS.aloadN X4.here hx rfl (hb hby d1_25) rfl rfl ?_
    show Steps p.tables e below (T4.setTop (mkF m 26 #[.val (.ref a1), .val (.ref r2), .val (.ref r3), .val (.ref r4), .val (.double d5), .second, .val (.double d6), .second, .val (.double d7), .second, .val (.double d8), .second] [(.ref a1)])) _
    refine XS.dload X4.here hx rfl (hb hby d1_26) rfl ?_
    show Steps p.tables e below (T4.setTop (mkF m 28 #[.val (.ref a1), .val (.ref r2), .val (.ref r3), .val (.ref r4), .val (.double d5), .second, .val (.double d6), .second, .val (.double d7), .second, .val (.double d8), .second] [(.double d6), (.ref a1)])) _
    refine st5 _ ?_
    show Steps p.tables e below (T5.setTop (mkF m 31 #[.val (.ref a1), .val (.ref r2), .val (.ref r3), .val (.ref r4), .val (.double d5), .second, .val (.double d6), .second, .val (.double d7), .second, .val (.double d8), .second] [])) _
    refine XS.aloadN X5.here hx rfl (hb hby d1_31) rfl rfl ?_
    show Steps p.tables e below (T5.setTop (mkF m 32 #[.val (.ref a1), .val (.ref r2), .val (.ref r3), .val (.ref r4), .val (.double d5), .second, .val (.double d6), .second, .val (.double d7), .second, .val (.double d8), .second] [(.ref a1)])) _
    refine XS.dload X5.here hx rfl (hb hby d1_32) rfl ?_
    show Steps p.tables e below (T5.setTop (mkF m 34 #[.val (.ref a1), .val (.ref r2), .val (.ref r3), .val (.ref r4), .val (.double d5), .second, .val (.double d6), .second, .val (.double d7), .second, .val (.double d8), .second] [(.double d7), (.ref a1)])) _
    refine st6 _ ?_
    show Steps p.tables e below (T6.setTop (mkF m 37 #[.val (.ref a1), .val (.ref r2), .val (.ref r3), .val (.ref r4), .val (.double d5), .second, .val (.double d6), .second, .val (.double d7), .second, .val (.double d8), .second] [])) _
    refine XS.aloadN X6.here hx rfl (hb hby d1_37) rfl rfl ?_
    show Steps p.tables e below (T6.setTop (mkF m 38 #[.val (.ref a1), .val (.ref r2), .val (.ref r3), .val (.ref r4), .val (.double d5), .second, .val (.double d6), .second, .val (.double d7), .second, .val (.double d8), .second] [(.ref a1)])) _
    refine XS.dload X6.here hx rfl (hb hby d1_38) rfl ?_
    show Steps p.tables e below (T6.setTop (mkF m 40 #[.val (.ref a1), .val (.ref r2), .val (.ref r3), .val (.ref r4), .val (.double d5), .second, .val (.double d6), .second, .val (.double d7), .second, .val (.double d8), .second] [(.double d8), (.ref a1)])) _
    refine st7 _ ?_
    show Steps p.tables e below (T7.setTop (mkF m 43 #[.val (.ref a1), .val (.ref r2), .val (.ref r3), .val (.ref r4), .val (.double d5), .second, .val (.double d6), .second, .val (.double d7), .second, .val (.double d8), .second] [])) _
    exact X7.returnOut hx Bd.returns (hb hby d1_43) hr
  · show Q1 Z a1 d7 d8 h0 n0 _ T7.heap _
    rw [e7]
    exact ⟨rfl, M7, K7, E7, F7_figure, F7_target⟩
theorem d4_0 : decode prog_30_method_4_code 0 = .ok (.aload_n 0, 1) := by decide +kernel
theorem d4_1 : decode prog_30_method_4_code 1 = .ok (.getfield 26, 3) := by decide +kernel
theorem d4_4 : decode prog_30_method_4_code 4 = .ok (.aload_n 0, 1) := by decide +kernel
theorem d4_5 : decode prog_30_method_4_code 5 = .ok (.getfield 29, 3) := by decide +kernel
theorem d4_8 : decode prog_30_method_4_code 8 = .ok (.dcmp .g, 1) := by decide +kernel
theorem d4_9 : decode prog_30_method_4_code 9 = .ok (.ifCond .gt 7, 3) := by decide +kernel
theorem d4_12 : decode prog_30_method_4_code 12 = .ok (.iconst 1, 1) := by decide +kernel
theorem d4_13 : decode prog_30_method_4_code 13 = .ok (.goto 4, 3) := by decide +kernel
theorem d4_16 : decode prog_30_method_4_code 16 = .ok (.iconst 0, 1) := by decide +kernel
theorem d4_17 : decode prog_30_method_4_code 17 = .ok (.ireturn, 1) := by decide +kernel
theorem pd_4 : parseMethodDescriptor "()Z" = some ⟨[], some .boolean⟩ := by decide +kernel
def Q4 (Z : State) (a1 : Addr) (d2 d4 : UInt64) (h0 : Heap) (n0 : Nat) (v : Option Value) (h : Heap) (L : List Loc) : Prop := v = some (.int (ownMet d2 d4)) ∧ Fr n0 L ∧ h = h0
set_option maxRecDepth 65536 in
set_option maxHeartbeats 40000000 in
theorem rm4 (l : Launch) (Z : State) (a0 : Array Value) (hw : ∀ d ∈ tables_1, d.before a0 Z = true) (ws : List Jvm.Cond) (a1 : Addr) (d2 d4 : UInt64) (h0 : Heap) (n0 : Nat) (Z0 : n0 ≤ h0.size) (F_f : Fld Z h0 a1 "com/example/xylem/xylem/bench/Comparison" "figure" "D" (.double d2)) (F_t : Fld Z h0 a1 "com/example/xylem/xylem/bench/Comparison" "target" "D" (.double d4)) :
    MetFree l (⟨"com/example/xylem/xylem/bench/Comparison", "met", "()Z"⟩ : MethodName) (head1 (Jvm.Cond.code (⟨"com/example/xylem/xylem/bench/Comparison", "met", "()Z"⟩ : MethodName) prog_30_method_4_code 1 (some .boolean) :: ws) ({ frames := 0, cells := 0, slots := 0, locals := 0 } : Room)) (fun a U => a = #[(.ref a1)] ∧ Z.Warmed39 U.vm ∧ U.heap = h0) (fun _ _ _ _ _ => True) (fun _ U o U' => ∃ v L, o = .returned v ∧ Q4 Z a1 d2 d4 h0 n0 v U'.heap L ∧ FrameEnd U o U' L ({ frames := 0, cells := 0, slots := 0, locals := 0 } : Room).cells ({ frames := 0, cells := 0, slots := 0, locals := 0 } : Room).slots) := by
  refine MetFree.of_bodySF (plainFor_of_name pn_1) hisR ?_
  intro p e s m args below meth c s₁ Bd hml0 hP hK
  obtain ⟨rfl, hZ, hh⟩ := hP
  have hx := Bd.exec
  have hby := Bd.bytes
  have hml : c.maxLocals = 1 := hml0
  have hown : s.vm.findClass "com/example/xylem/xylem/bench/Comparison" = some m.cls := findClass_of_methodNamed Bd.named
  have hnm := (name_of_methodNamed Bd.named Bd.method).1
  have X0 : Stand p l e ({ frames := 0, cells := 0, slots := 0, locals := 0 } : Room) s m #[(.ref a1)] below meth c s₁ [] 0 0 := Stand.of_body Bd
  have e0 : s₁.heap = h0 := by rw [← hh, Bd.state]; rfl
  have N0 := Fr.nil n0
  have pre0 : ∀ t, Steps p.tables e below (s₁.setTop (mkF m 0 #[.val (.ref a1)] [])) t → Steps p.tables e below (s₁.setTop (entryFrame m #[(.ref a1)] 1)) t := fun t k => castTop (ef_2 m a1) k
  obtain ⟨T3, X3, e3, st3⟩ := getF X0 hx hZ hown (host := "") (Or.inl (hw _ (List.mem_of_getElem? (i := 34) rfl))) Via.refl e0 F_f (g := (mkF m 1 #[.val (.ref a1)] [(.ref a1)])) rfl rfl (hb hby d4_1)
  obtain ⟨T5, X5, e5, st5⟩ := getF X3 hx hZ hown (host := "") (Or.inl (hw _ (List.mem_of_getElem? (i := 36) rfl))) Via.refl e3 F_t (g := (mkF m 5 #[.val (.ref a1)] [(.ref a1), (.double d2)])) rfl rfl (hb hby d4_5)
  have come : ∀ t, Steps p.tables e below (T5.setTop (mkF m 9 #[.val (.ref a1)] [(.int (cmpValue (FP.dcmp d2 d4) .g))])) t → Steps p.tables e below (s₁.setTop (mkF m 0 #[.val (.ref a1)] [])) t := by
    intro t k
    refine XS.aloadN X0.here hx rfl (hb hby d4_0) rfl rfl ?_
    show Steps p.tables e below (s₁.setTop (mkF m 1 #[.val (.ref a1)] [(.ref a1)])) _
    refine st3 _ ?_
    show Steps p.tables e below (T3.setTop (mkF m 4 #[.val (.ref a1)] [(.double d2)])) _
    refine XS.aloadN X3.here hx rfl (hb hby d4_4) rfl rfl ?_
    show Steps p.tables e below (T3.setTop (mkF m 5 #[.val (.ref a1)] [(.ref a1), (.double d2)])) _
    refine st5 _ ?_
    show Steps p.tables e below (T5.setTop (mkF m 8 #[.val (.ref a1)] [(.double d4), (.double d2)])) _
    refine XS.dcmpS X5.here hx rfl (hb hby d4_8) rfl rfl ?_
    exact k
  cases hc : ifCond.holds .gt (cmpValue (FP.dcmp d2 d4) .g) with
  | true =>
    have hv : ownMet d2 d4 = 0 := by unfold ownMet; rw [hc]; rfl
    obtain ⟨fs, hr, hrun, hended, hW, hsame⟩ := X5.leave (v := some (.int (0 : Int32))) (fun h => by rw [Bd.returns] at h; cases h)
    refine ⟨_, _, pre0 _ (come _ ?_), hrun, hended, _, _, rfl, ?_, ⟨_, rfl⟩, hW, hsame.mono (by decide) (by decide)⟩
    · show Steps p.tables e below (T5.setTop (mkF m 9 #[.val (.ref a1)] [(.int (cmpValue (FP.dcmp d2 d4) .g))])) _
      refine XS.ifYes X5.here hx rfl (pc0 := 9) (pc' := 16) rfl (hb hby d4_9) rfl hc (by decide) (by decide) ?_
      show Steps p.tables e below (T5.setTop (mkF m 16 #[.val (.ref a1)] [])) _
      refine XS.iconst X5.here hx rfl (hb hby d4_16) ?_
      show Steps p.tables e below (T5.setTop (mkF m 17 #[.val (.ref a1)] [(.int (0 : Int32))])) _
      exact retN X5 hx (t := .boolean) Bd.returns (by simp) (hb hby d4_17) hr
    · show Q4 Z a1 d2 d4 h0 n0 _ T5.heap _
      rw [e5]
      exact ⟨by rw [hv], N0, rfl⟩
  | false =>
    have hv : ownMet d2 d4 = 1 := by unfold ownMet; rw [hc]; rfl
    obtain ⟨fs, hr, hrun, hended, hW, hsame⟩ := X5.leave (v := some (.int (1 : Int32))) (fun h => by rw [Bd.returns] at h; cases h)
    refine ⟨_, _, pre0 _ (come _ ?_), hrun, hended, _, _, rfl, ?_, ⟨_, rfl⟩, hW, hsame.mono (by decide) (by decide)⟩
    · show Steps p.tables e below (T5.setTop (mkF m 9 #[.val (.ref a1)] [(.int (cmpValue (FP.dcmp d2 d4) .g))])) _
      refine XS.ifNo X5.here hx rfl (hb hby d4_9) rfl hc ?_
      show Steps p.tables e below (T5.setTop (mkF m 12 #[.val (.ref a1)] [])) _
      refine XS.iconst X5.here hx rfl (hb hby d4_12) ?_
      show Steps p.tables e below (T5.setTop (mkF m 13 #[.val (.ref a1)] [(.int (1 : Int32))])) _
      refine XS.goto X5.here hx rfl (pc0 := 13) (pc' := 17) rfl (hb hby d4_13) (by decide) (by decide) ?_
      show Steps p.tables e below (T5.setTop (mkF m 17 #[.val (.ref a1)] [(.int (1 : Int32))])) _
      exact retN X5 hx (t := .boolean) Bd.returns (by simp) (hb hby d4_17) hr
    · show Q4 Z a1 d2 d4 h0 n0 _ T5.heap _
      rw [e5]
      exact ⟨by rw [hv], N0, rfl⟩
theorem pn_0 : plainName "com/example/xylem/xylem/bench/ComparisonMetPinLaw" = true := by first | (simp [plainName, overriddenIn]; done) | decide +kernel
theorem ef_0 (m : MethodId) (p1 p2 p3 p4 : Int32) : entryFrame m #[(.int p1), (.int p2), (.int p3), (.int p4)] maxLocals = mkF m 0 #[.val (.int p1), .val (.int p2), .val (.int p3), .val (.int p4), .unset, .unset, .unset, .unset, .unset] [] := by first | (simp [entryFrame, mkF, argsToLocals, Value.category, maxLocals]; done) | rfl
def Q0 (Z : State) (n0 : Nat) (v : Option Value) (L : List Loc) : Prop := v = some (.int 1) ∧ Fr n0 L
theorem own_string {Z : State} {a0 : Array Value} (hw : ∀ d ∈ tables_1, d.before a0 Z = true) : ∀ a ∈ Bundle.stringAtoms, a.before a0 Z = true := fun d hd => by
  simp only [Bundle.stringAtoms, List.mem_cons, List.not_mem_nil, or_false] at hd
  rcases hd with rfl | rfl | rfl | rfl | rfl | rfl | rfl
  · exact hw _ (List.mem_of_getElem? (i := 4) rfl)
  · exact hw _ (List.mem_of_getElem? (i := 5) rfl)
  · exact hw _ (List.mem_of_getElem? (i := 6) rfl)
  · exact hw _ (List.mem_of_getElem? (i := 7) rfl)
  · exact hw _ (List.mem_of_getElem? (i := 8) rfl)
  · exact hw _ (List.mem_of_getElem? (i := 9) rfl)
  · exact hw _ (List.mem_of_getElem? (i := 10) rfl)
set_option maxRecDepth 65536 in
set_option maxHeartbeats 40000000 in
theorem rm0 (l : Launch) (Z : State) (a0 : Array Value) (hw : ∀ d ∈ tables_1, d.before a0 Z = true) (ws : List Jvm.Cond) (p1 p2 p3 p4 : Int32) (h0 : Heap) (n0 : Nat) (Z0 : n0 ≤ h0.size) :
    MetFree l x (head1 (Jvm.Cond.code x code maxLocals ret :: ws) room_1) (fun a U => a = #[(.int p1), (.int p2), (.int p3), (.int p4)] ∧ Z.Warmed39 U.vm ∧ U.heap = h0) (fun _ _ _ _ _ => True) (fun _ U o U' => ∃ v L, o = .returned v ∧ Q0 Z n0 v L ∧ ReturnedEndW U o U' L room_1.cells room_1.slots) := by
  refine MetFree.of_bodySF (plainFor_of_name pn_0) hisR ?_
  intro p e s m args below meth c s₁ Bd hml0 hP hK
  obtain ⟨rfl, hZ, hh⟩ := hP
  have hx := Bd.exec
  have hby := Bd.bytes
  have hml : c.maxLocals = 9 := hml0
  have hown : s.vm.findClass "com/example/xylem/xylem/bench/ComparisonMetPinLaw" = some m.cls := findClass_of_methodNamed Bd.named
  have hnm := (name_of_methodNamed Bd.named Bd.method).1
  have X0 : Stand p l e room_1 s m #[(.int p1), (.int p2), (.int p3), (.int p4)] below meth c s₁ [] 0 0 := Stand.of_body Bd
  have e0 : s₁.heap = h0 := by rw [← hh, Bd.state]; rfl
  have N0 := Fr.nil n0
  have wS := own_string hw
  have pre0 : ∀ t, Steps p.tables e below (s₁.setTop (mkF m 0 #[.val (.int p1), .val (.int p2), .val (.int p3), .val (.int p4), .unset, .unset, .unset, .unset, .unset] [])) t → Steps p.tables e below (s₁.setTop (entryFrame m #[(.int p1), (.int p2), (.int p3), (.int p4)] maxLocals)) t := fun t k => castTop (ef_0 m p1 p2 p3 p4) k
  have tail : ∀ t : Int64, B53 t → ∃ s₂ o, Steps p.tables e below (s₁.setTop (mkF m 51 #[.val (.int p1), .val (.int p2), .val (.int p3), .val (.int p4), .val (.long t), .second, .val (.int (p3 &&& (3 : Int32))), .unset, .unset] [])) s₂ ∧ s₂.status = .running ∧ Ended s₂ below o ∧ ∃ v L, o = .returned v ∧ Q0 Z n0 v L ∧ ReturnedEndW s o s₂ L room_1.cells room_1.slots := by
    intro t ht
    obtain ⟨T5, h5, X5, e5, E5, A5, D5, -, st5⟩ := newO X0 hx hZ hown (hw _ (List.mem_of_getElem? (i := 0) rfl)) (hw _ (List.mem_of_getElem? (i := 1) rfl)) (hw _ (List.mem_of_getElem? (i := 2) rfl)) e0 (g := (mkF m 51 #[.val (.int p1), .val (.int p2), .val (.int p3), .val (.int p4), .val (.long t), .second, .val (.int (p3 &&& (3 : Int32))), .unset, .unset] [])) rfl (hb hby at_51) (by decide) (by decide)
    obtain ⟨b5, g5⟩ : ∃ z, z = h0.size := ⟨_, rfl⟩
    rw [← g5] at A5 D5 st5
    have F5_label : Fld Z h5 b5 "com/example/xylem/xylem/bench/Comparison" "label" "Ljava/lang/String;" .null := D5 (Or.inr (hw _ (List.mem_of_getElem? (i := 25) rfl))) (ty := (.object "java/lang/String")) (by decide)
    have F5_first : Fld Z h5 b5 "com/example/xylem/xylem/bench/Comparison" "first" "Ljava/lang/String;" .null := D5 (Or.inr (hw _ (List.mem_of_getElem? (i := 27) rfl))) (ty := (.object "java/lang/String")) (by decide)
    have F5_second : Fld Z h5 b5 "com/example/xylem/xylem/bench/Comparison" "second" "Ljava/lang/String;" .null := D5 (Or.inr (hw _ (List.mem_of_getElem? (i := 29) rfl))) (ty := (.object "java/lang/String")) (by decide)
    have F5_firstMs : Fld Z h5 b5 "com/example/xylem/xylem/bench/Comparison" "firstMs" "D" (.double 0) := D5 (Or.inr (hw _ (List.mem_of_getElem? (i := 31) rfl))) (ty := .double) (by decide)
    have F5_secondMs : Fld Z h5 b5 "com/example/xylem/xylem/bench/Comparison" "secondMs" "D" (.double 0) := D5 (Or.inr (hw _ (List.mem_of_getElem? (i := 33) rfl))) (ty := .double) (by decide)
    have F5_figure : Fld Z h5 b5 "com/example/xylem/xylem/bench/Comparison" "figure" "D" (.double 0) := D5 (Or.inr (hw _ (List.mem_of_getElem? (i := 35) rfl))) (ty := .double) (by decide)
    have F5_target : Fld Z h5 b5 "com/example/xylem/xylem/bench/Comparison" "target" "D" (.double 0) := D5 (Or.inr (hw _ (List.mem_of_getElem? (i := 37) rfl))) (ty := .double) (by decide)
    have g_b5 : n0 ≤ b5 := Nat.le_trans Z0 (Nat.le_of_eq g5.symm)
    obtain ⟨q6, T6, h6, k6, X6, e6, E6, S6, j6, Z6, o6, st6⟩ := ldcS (s := s) (vm0 := s.vm) X5 hx hZ hown (hw _ (List.mem_of_getElem? (i := 3) rfl)) wS e5 ((State.WarmedH.refl s).since h5.size) (Nat.le_refl _) (g := (mkF m 55 #[.val (.int p1), .val (.int p2), .val (.int p3), .val (.int p4), .val (.long t), .second, .val (.int (p3 &&& (3 : Int32))), .unset, .unset] [(.ref b5), (.ref b5)])) rfl (hb hby at_55) (n := 4) (by decide +kernel) (by decide) (by decide) (by decide)
    obtain ⟨q7, T7, h7, k7, X7, e7, E7, S7, j7, Z7, o7, st7⟩ := ldcS (s := s) (vm0 := T6.vm) X6 hx Z6 o6 (hw _ (List.mem_of_getElem? (i := 11) rfl)) wS e6 S6 j6 (g := (mkF m 57 #[.val (.int p1), .val (.int p2), .val (.int p3), .val (.int p4), .val (.long t), .second, .val (.int (p3 &&& (3 : Int32))), .unset, .unset] [(.ref q6), (.ref b5), (.ref b5)])) rfl (hb hby at_57) (n := 4) (by decide +kernel) (by decide) (by decide) (by decide)
    obtain ⟨q8, T8, h8, k8, X8, e8, E8, S8, j8, Z8, o8, st8⟩ := ldcS (s := s) (vm0 := T7.vm) X7 hx Z7 o7 (hw _ (List.mem_of_getElem? (i := 12) rfl)) wS e7 S7 j7 (g := (mkF m 59 #[.val (.int p1), .val (.int p2), .val (.int p3), .val (.int p4), .val (.long t), .second, .val (.int (p3 &&& (3 : Int32))), .unset, .unset] [(.ref q7), (.ref q6), (.ref b5), (.ref b5)])) rfl (hb hby at_59) (n := 4) (by decide +kernel) (by decide) (by decide) (by decide)
    have E58 : Ext h5 h8 := ⟨Nat.le_trans E6.1 (Nat.le_trans E7.1 E8.1), fun x c q => E8.2 x c (E7.2 x c (E6.2 x c q))⟩
    have F8_label : Fld Z h8 b5 "com/example/xylem/xylem/bench/Comparison" "label" "Ljava/lang/String;" .null := F5_label.ext E58
    have F8_first : Fld Z h8 b5 "com/example/xylem/xylem/bench/Comparison" "first" "Ljava/lang/String;" .null := F5_first.ext E58
    have F8_second : Fld Z h8 b5 "com/example/xylem/xylem/bench/Comparison" "second" "Ljava/lang/String;" .null := F5_second.ext E58
    have F8_firstMs : Fld Z h8 b5 "com/example/xylem/xylem/bench/Comparison" "firstMs" "D" (.double 0) := F5_firstMs.ext E58
    have F8_secondMs : Fld Z h8 b5 "com/example/xylem/xylem/bench/Comparison" "secondMs" "D" (.double 0) := F5_secondMs.ext E58
    have F8_figure : Fld Z h8 b5 "com/example/xylem/xylem/bench/Comparison" "figure" "D" (.double 0) := F5_figure.ext E58
    have F8_target : Fld Z h8 b5 "com/example/xylem/xylem/bench/Comparison" "target" "D" (.double 0) := F5_target.ext E58
    have A8 : Exa Z h8 b5 "com/example/xylem/xylem/bench/Comparison" := A5.ext E58
    have Z08 : n0 ≤ h8.size := Nat.le_trans Z0 (Nat.le_trans E5.1 E58.1)
    obtain ⟨_, _, ⟨T9, L9, k9, n9⟩, -, X9, ⟨Lc9, hQ9, l9, y9, z9⟩, st9⟩ := X8.specialBack hx (y := (⟨"com/example/xylem/xylem/bench/Comparison", "<init>", "(Ljava/lang/String;Ljava/lang/String;Ljava/lang/String;DDDD)V"⟩ : MethodName)) rfl o8 (mvT Z8 (hw _ (List.mem_of_getElem? (i := 13) rfl))) (mvT Z8 (hw _ (List.mem_of_getElem? (i := 14) rfl))) (mvT Z8 (hw _ (List.mem_of_getElem? (i := 15) rfl))) (by decide) (backOf (W := 1) (rm1 l Z a0 hw [] b5 q6 q7 q8 (FP.i2d p4) (FP.i2d p2) (FP.i2d p1) (FP.l2d t) h8 n0 Z08 F8_label F8_first F8_second F8_firstMs F8_secondMs F8_figure F8_target A8 g_b5) Z8 (hw _ (List.mem_of_getElem? (i := 15) rfl)) (hw _ (List.mem_of_getElem? (i := 2) rfl)) (by decide) (by decide)) (g := (mkF m 70 #[.val (.int p1), .val (.int p2), .val (.int p3), .val (.int p4), .val (.long t), .second, .val (.int (p3 &&& (3 : Int32))), .unset, .unset] [(.double (FP.l2d t)), (.double (FP.i2d p1)), (.double (FP.i2d p2)), (.double (FP.i2d p4)), (.ref q8), (.ref q7), (.ref q6), (.ref b5), (.ref b5)])) rfl (by rw [hml]; rfl) (Steps.refl _) (a := b5) (argsL := [(.ref q6), (.ref q7), (.ref q8), (.double (FP.i2d p4)), (.double (FP.i2d p2)), (.double (FP.i2d p1)), (.double (FP.l2d t))]) (rest := [(.ref b5)]) (lenOf pd_1 rfl) rfl (by show 2 * 0 + _ ≤ _; exact Nat.le_of_eq rfl) (hb hby at_70) (fun _ _ => ⟨rfl, e8, (by decide : 7 + 0 ≤ _), (by decide : 31 + 0 ≤ _)⟩)
    dsimp only [Pt.U, Pt.locs, Pt.cells, Pt.slots] at X9 l9 y9 z9 st9 hQ9
    subst l9 y9 z9
    obtain ⟨rfl, N9, K9, E9, F9_f, F9_t⟩ := hQ9
    have M9 := Fr.app N0 N9
    have Z09 : n0 ≤ T9.heap.size := Nat.le_trans Z08 K9.1
    obtain ⟨cq, kq, qa, qb, qc⟩ := isOf (T := T9) Z8 rfl E9
    obtain ⟨_, _, ⟨T10, L10, k10, n10⟩, -, X10, ⟨Lc10, hQ10, l10, y10, z10⟩, st10⟩ := X9.virtualBack hx (y := (⟨"com/example/xylem/xylem/bench/Comparison", "met", "()Z"⟩ : MethodName)) (z := (⟨"com/example/xylem/xylem/bench/Comparison", "met", "()Z"⟩ : MethodName)) o8 (mvT Z8 (hw _ (List.mem_of_getElem? (i := 38) rfl))) (mvT Z8 (hw _ (List.mem_of_getElem? (i := 39) rfl))) (notFace_of_selects (args := #[]) (mvT Z8 (hw _ (List.mem_of_getElem? (i := 41) rfl)))) (mvT Z8 (hw _ (List.mem_of_getElem? (i := 41) rfl))) (mvT Z8 (hw _ (List.mem_of_getElem? (i := 40) rfl))) (by decide) (backOf (W := 0) (rm4 l Z a0 hw [] b5 (FP.i2d p1) (FP.l2d t) T9.heap n0 Z09 F9_f F9_t) Z8 (hw _ (List.mem_of_getElem? (i := 42) rfl)) (hw _ (List.mem_of_getElem? (i := 2) rfl)) (by decide) (by decide)) qa qc (g := (mkF m 92 #[.val (.int p1), .val (.int p2), .val (.int p3), .val (.int p4), .val (.long t), .second, .val (.int (p3 &&& (3 : Int32))), .val (.ref b5), .val (.int (ownLe p1.toInt64 t))] [(.ref b5)])) rfl (by rw [hml]; rfl) (Steps.refl _) (argsL := []) (rest := []) (lenOf pd_4 rfl) rfl (by show 2 * 0 + _ ≤ _; exact Nat.le_of_eq rfl) (hb hby at_92) (fun _ _ => ⟨rfl, rfl, (by decide : 7 + 0 ≤ _), (by decide : 31 + 0 ≤ _)⟩)
    dsimp only [Pt.U, Pt.locs, Pt.cells, Pt.slots] at X10 l10 y10 z10 st10 hQ10
    subst l10 y10 z10
    obtain ⟨rfl, N10, e10⟩ := hQ10
    have M10 := Fr.app M9 N10
    have hz : T8.heap.size ≤ T10.heap.size := by rw [e10, e8]; exact K9.1
    obtain ⟨fs, hr, hrun, hended, hend⟩ := X10.leaveW S8 (Nat.le_trans (by rw [← e8] at j8; exact j8) hz) (v := some (.int (1 : Int32))) (fun h => by rw [Bd.returns] at h; cases h)
    refine ⟨_, _, ?_, hrun, hended, _, _, rfl, ⟨rfl, M10⟩, hend.1, hend.2.1, hend.2.2.1, hend.2.2.2.mono (by decide) (by decide)⟩
    show Steps p.tables e below (s₁.setTop (mkF m 51 #[.val (.int p1), .val (.int p2), .val (.int p3), .val (.int p4), .val (.long t), .second, .val (.int (p3 &&& (3 : Int32))), .unset, .unset] [])) _
    refine st5 _ ?_
    show Steps p.tables e below (T5.setTop (mkF m 54 #[.val (.int p1), .val (.int p2), .val (.int p3), .val (.int p4), .val (.long t), .second, .val (.int (p3 &&& (3 : Int32))), .unset, .unset] [(.ref b5)])) _
    refine XS.dup X5.here hx rfl (hb hby at_54) rfl rfl ?_
    show Steps p.tables e below (T5.setTop (mkF m 55 #[.val (.int p1), .val (.int p2), .val (.int p3), .val (.int p4), .val (.long t), .second, .val (.int (p3 &&& (3 : Int32))), .unset, .unset] [(.ref b5), (.ref b5)])) _
    refine st6 _ ?_
    show Steps p.tables e below (T6.setTop (mkF m 57 #[.val (.int p1), .val (.int p2), .val (.int p3), .val (.int p4), .val (.long t), .second, .val (.int (p3 &&& (3 : Int32))), .unset, .unset] [(.ref q6), (.ref b5), (.ref b5)])) _
    refine st7 _ ?_
    show Steps p.tables e below (T7.setTop (mkF m 59 #[.val (.int p1), .val (.int p2), .val (.int p3), .val (.int p4), .val (.long t), .second, .val (.int (p3 &&& (3 : Int32))), .unset, .unset] [(.ref q7), (.ref q6), (.ref b5), (.ref b5)])) _
    refine st8 _ ?_
    show Steps p.tables e below (T8.setTop (mkF m 61 #[.val (.int p1), .val (.int p2), .val (.int p3), .val (.int p4), .val (.long t), .second, .val (.int (p3 &&& (3 : Int32))), .unset, .unset] [(.ref q8), (.ref q7), (.ref q6), (.ref b5), (.ref b5)])) _
    refine XS.iloadN X8.here hx rfl (hb hby at_61) rfl ?_
    show Steps p.tables e below (T8.setTop (mkF m 62 #[.val (.int p1), .val (.int p2), .val (.int p3), .val (.int p4), .val (.long t), .second, .val (.int (p3 &&& (3 : Int32))), .unset, .unset] [(.int p4), (.ref q8), (.ref q7), (.ref q6), (.ref b5), (.ref b5)])) _
    refine XS.i2dS X8.here hx rfl (hb hby at_62) rfl rfl ?_
    show Steps p.tables e below (T8.setTop (mkF m 63 #[.val (.int p1), .val (.int p2), .val (.int p3), .val (.int p4), .val (.long t), .second, .val (.int (p3 &&& (3 : Int32))), .unset, .unset] [(.double (FP.i2d p4)), (.ref q8), (.ref q7), (.ref q6), (.ref b5), (.ref b5)])) _
    refine XS.iloadN X8.here hx rfl (hb hby at_63) rfl ?_
    show Steps p.tables e below (T8.setTop (mkF m 64 #[.val (.int p1), .val (.int p2), .val (.int p3), .val (.int p4), .val (.long t), .second, .val (.int (p3 &&& (3 : Int32))), .unset, .unset] [(.int p2), (.double (FP.i2d p4)), (.ref q8), (.ref q7), (.ref q6), (.ref b5), (.ref b5)])) _
    refine XS.i2dS X8.here hx rfl (hb hby at_64) rfl rfl ?_
    show Steps p.tables e below (T8.setTop (mkF m 65 #[.val (.int p1), .val (.int p2), .val (.int p3), .val (.int p4), .val (.long t), .second, .val (.int (p3 &&& (3 : Int32))), .unset, .unset] [(.double (FP.i2d p2)), (.double (FP.i2d p4)), (.ref q8), (.ref q7), (.ref q6), (.ref b5), (.ref b5)])) _
    refine XS.iloadN X8.here hx rfl (hb hby at_65) rfl ?_
    show Steps p.tables e below (T8.setTop (mkF m 66 #[.val (.int p1), .val (.int p2), .val (.int p3), .val (.int p4), .val (.long t), .second, .val (.int (p3 &&& (3 : Int32))), .unset, .unset] [(.int p1), (.double (FP.i2d p2)), (.double (FP.i2d p4)), (.ref q8), (.ref q7), (.ref q6), (.ref b5), (.ref b5)])) _
    refine XS.i2dS X8.here hx rfl (hb hby at_66) rfl rfl ?_
    show Steps p.tables e below (T8.setTop (mkF m 67 #[.val (.int p1), .val (.int p2), .val (.int p3), .val (.int p4), .val (.long t), .second, .val (.int (p3 &&& (3 : Int32))), .unset, .unset] [(.double (FP.i2d p1)), (.double (FP.i2d p2)), (.double (FP.i2d p4)), (.ref q8), (.ref q7), (.ref q6), (.ref b5), (.ref b5)])) _
    refine XS.lload X8.here hx rfl (hb hby at_67) rfl ?_
    show Steps p.tables e below (T8.setTop (mkF m 69 #[.val (.int p1), .val (.int p2), .val (.int p3), .val (.int p4), .val (.long t), .second, .val (.int (p3 &&& (3 : Int32))), .unset, .unset] [(.long t), (.double (FP.i2d p1)), (.double (FP.i2d p2)), (.double (FP.i2d p4)), (.ref q8), (.ref q7), (.ref q6), (.ref b5), (.ref b5)])) _
    refine XS.l2dS X8.here hx rfl (hb hby at_69) rfl rfl ?_
    show Steps p.tables e below (T8.setTop (mkF m 70 #[.val (.int p1), .val (.int p2), .val (.int p3), .val (.int p4), .val (.long t), .second, .val (.int (p3 &&& (3 : Int32))), .unset, .unset] [(.double (FP.l2d t)), (.double (FP.i2d p1)), (.double (FP.i2d p2)), (.double (FP.i2d p4)), (.ref q8), (.ref q7), (.ref q6), (.ref b5), (.ref b5)])) _
    refine st9.trans ?_
    show Steps p.tables e below (T9.setTop (mkF m 73 #[.val (.int p1), .val (.int p2), .val (.int p3), .val (.int p4), .val (.long t), .second, .val (.int (p3 &&& (3 : Int32))), .unset, .unset] [(.ref b5)])) _
    refine XS.astore X9.here hx rfl (hb hby at_73) rfl rfl (l' := #[.val (.int p1), .val (.int p2), .val (.int p3), .val (.int p4), .val (.long t), .second, .val (.int (p3 &&& (3 : Int32))), .val (.ref b5), .unset]) rfl ?_
    show Steps p.tables e below (T9.setTop (mkF m 75 #[.val (.int p1), .val (.int p2), .val (.int p3), .val (.int p4), .val (.long t), .second, .val (.int (p3 &&& (3 : Int32))), .val (.ref b5), .unset] [])) _
    refine XS.iloadN X9.here hx rfl (hb hby at_75) rfl ?_
    show Steps p.tables e below (T9.setTop (mkF m 76 #[.val (.int p1), .val (.int p2), .val (.int p3), .val (.int p4), .val (.long t), .second, .val (.int (p3 &&& (3 : Int32))), .val (.ref b5), .unset] [(.int p1)])) _
    refine XS.i2l X9.here hx rfl (hb hby at_76) rfl ?_
    show Steps p.tables e below (T9.setTop (mkF m 77 #[.val (.int p1), .val (.int p2), .val (.int p3), .val (.int p4), .val (.long t), .second, .val (.int (p3 &&& (3 : Int32))), .val (.ref b5), .unset] [(.long p1.toInt64)])) _
    refine XS.lload X9.here hx rfl (hb hby at_77) rfl ?_
    show Steps p.tables e below (T9.setTop (mkF m 79 #[.val (.int p1), .val (.int p2), .val (.int p3), .val (.int p4), .val (.long t), .second, .val (.int (p3 &&& (3 : Int32))), .val (.ref b5), .unset] [(.long t), (.long p1.toInt64)])) _
    refine XS.lcmp X9.here hx rfl (hb hby at_79) rfl ?_
    show Steps p.tables e below (T9.setTop (mkF m 80 #[.val (.int p1), .val (.int p2), .val (.int p3), .val (.int p4), .val (.long t), .second, .val (.int (p3 &&& (3 : Int32))), .val (.ref b5), .unset] [(.int (lcmpW p1.toInt64 t))])) _
    have sel : ∀ u, Steps p.tables e below (T9.setTop (mkF m 88 #[.val (.int p1), .val (.int p2), .val (.int p3), .val (.int p4), .val (.long t), .second, .val (.int (p3 &&& (3 : Int32))), .val (.ref b5), .unset] [(.int (ownLe p1.toInt64 t))])) u → Steps p.tables e below (T9.setTop (mkF m 80 #[.val (.int p1), .val (.int p2), .val (.int p3), .val (.int p4), .val (.long t), .second, .val (.int (p3 &&& (3 : Int32))), .val (.ref b5), .unset] [(.int (lcmpW p1.toInt64 t))])) u := by
      intro u k
      by_cases hc : t < p1.toInt64
      · have hv : ownLe p1.toInt64 t = 0 := by unfold ownLe; rw [if_pos hc]
        rw [hv] at k
        refine XS.ifYes X9.here hx rfl (pc0 := 80) (pc' := 87) rfl (hb hby at_80) rfl (own_lcmp_t hc) (by decide) (by decide) ?_
        show Steps p.tables e below (T9.setTop (mkF m 87 #[.val (.int p1), .val (.int p2), .val (.int p3), .val (.int p4), .val (.long t), .second, .val (.int (p3 &&& (3 : Int32))), .val (.ref b5), .unset] [])) _
        refine XS.iconst X9.here hx rfl (hb hby at_87) ?_
        exact k
      · have hv : ownLe p1.toInt64 t = 1 := by unfold ownLe; rw [if_neg hc]
        rw [hv] at k
        refine XS.ifNo X9.here hx rfl (hb hby at_80) rfl (own_lcmp_f hc) ?_
        show Steps p.tables e below (T9.setTop (mkF m 83 #[.val (.int p1), .val (.int p2), .val (.int p3), .val (.int p4), .val (.long t), .second, .val (.int (p3 &&& (3 : Int32))), .val (.ref b5), .unset] [])) _
        refine XS.iconst X9.here hx rfl (hb hby at_83) ?_
        show Steps p.tables e below (T9.setTop (mkF m 84 #[.val (.int p1), .val (.int p2), .val (.int p3), .val (.int p4), .val (.long t), .second, .val (.int (p3 &&& (3 : Int32))), .val (.ref b5), .unset] [(.int (1 : Int32))])) _
        refine XS.goto X9.here hx rfl (pc0 := 84) (pc' := 88) rfl (hb hby at_84) (by decide) (by decide) ?_
        exact k
    refine sel _ ?_
    show Steps p.tables e below (T9.setTop (mkF m 88 #[.val (.int p1), .val (.int p2), .val (.int p3), .val (.int p4), .val (.long t), .second, .val (.int (p3 &&& (3 : Int32))), .val (.ref b5), .unset] [(.int (ownLe p1.toInt64 t))])) _
    refine XS.istore X9.here hx rfl (hb hby at_88) rfl (l' := #[.val (.int p1), .val (.int p2), .val (.int p3), .val (.int p4), .val (.long t), .second, .val (.int (p3 &&& (3 : Int32))), .val (.ref b5), .val (.int (ownLe p1.toInt64 t))]) rfl ?_
    show Steps p.tables e below (T9.setTop (mkF m 90 #[.val (.int p1), .val (.int p2), .val (.int p3), .val (.int p4), .val (.long t), .second, .val (.int (p3 &&& (3 : Int32))), .val (.ref b5), .val (.int (ownLe p1.toInt64 t))] [])) _
    refine XS.aload X9.here hx rfl (hb hby at_90) rfl rfl ?_
    show Steps p.tables e below (T9.setTop (mkF m 92 #[.val (.int p1), .val (.int p2), .val (.int p3), .val (.int p4), .val (.long t), .second, .val (.int (p3 &&& (3 : Int32))), .val (.ref b5), .val (.int (ownLe p1.toInt64 t))] [(.ref b5)])) _
    refine st10.trans ?_
    show Steps p.tables e below (T10.setTop (mkF m 95 #[.val (.int p1), .val (.int p2), .val (.int p3), .val (.int p4), .val (.long t), .second, .val (.int (p3 &&& (3 : Int32))), .val (.ref b5), .val (.int (ownLe p1.toInt64 t))] [(.int (ownMet (FP.i2d p1) (FP.l2d t)))])) _
    refine XS.iload X10.here hx rfl (hb hby at_95) rfl ?_
    show Steps p.tables e below (T10.setTop (mkF m 97 #[.val (.int p1), .val (.int p2), .val (.int p3), .val (.int p4), .val (.long t), .second, .val (.int (p3 &&& (3 : Int32))), .val (.ref b5), .val (.int (ownLe p1.toInt64 t))] [(.int (ownLe p1.toInt64 t)), (.int (ownMet (FP.i2d p1) (FP.l2d t)))])) _
    refine XS.icmpNo X10.here hx rfl (hb hby at_97) rfl (teq (own_met p1 ht)).2 ?_
    show Steps p.tables e below (T10.setTop (mkF m 100 #[.val (.int p1), .val (.int p2), .val (.int p3), .val (.int p4), .val (.long t), .second, .val (.int (p3 &&& (3 : Int32))), .val (.ref b5), .val (.int (ownLe p1.toInt64 t))] [])) _
    refine XS.iconst X10.here hx rfl (hb hby at_100) ?_
    show Steps p.tables e below (T10.setTop (mkF m 101 #[.val (.int p1), .val (.int p2), .val (.int p3), .val (.int p4), .val (.long t), .second, .val (.int (p3 &&& (3 : Int32))), .val (.ref b5), .val (.int (ownLe p1.toInt64 t))] [(.int (1 : Int32))])) _
    refine XS.goto X10.here hx rfl (pc0 := 101) (pc' := 105) rfl (hb hby at_101) (by decide) (by decide) ?_
    show Steps p.tables e below (T10.setTop (mkF m 105 #[.val (.int p1), .val (.int p2), .val (.int p3), .val (.int p4), .val (.long t), .second, .val (.int (p3 &&& (3 : Int32))), .val (.ref b5), .val (.int (ownLe p1.toInt64 t))] [(.int (1 : Int32))])) _
    exact retN X10 hx (t := .boolean) Bd.returns (by simp) (hb hby at_105) hr
  have go : ∀ (t : Int64) (ht : B53 t), (∀ u, Steps p.tables e below (s₁.setTop (mkF m 51 #[.val (.int p1), .val (.int p2), .val (.int p3), .val (.int p4), .val (.long t), .second, .val (.int (p3 &&& (3 : Int32))), .unset, .unset] [])) u → Steps p.tables e below (s₁.setTop (mkF m 7 #[.val (.int p1), .val (.int p2), .val (.int p3), .val (.int p4), .unset, .unset, .val (.int (p3 &&& (3 : Int32))), .unset, .unset] [(.int (p3 &&& (3 : Int32)))])) u) → ∃ s₂ o, Steps p.tables e below (s₁.setTop (entryFrame m #[(.int p1), (.int p2), (.int p3), (.int p4)] maxLocals)) s₂ ∧ s₂.status = .running ∧ Ended s₂ below o ∧ ∃ v L, o = .returned v ∧ Q0 Z n0 v L ∧ ReturnedEndW s o s₂ L room_1.cells room_1.slots := by
    intro t ht k
    obtain ⟨s₂, o, h1, h2⟩ := tail t ht
    refine ⟨s₂, o, pre0 _ ?_, h2⟩
    show Steps p.tables e below (s₁.setTop (mkF m 0 #[.val (.int p1), .val (.int p2), .val (.int p3), .val (.int p4), .unset, .unset, .unset, .unset, .unset] [])) _
    refine XS.iloadN X0.here hx rfl (hb hby at_0) rfl ?_
    show Steps p.tables e below (s₁.setTop (mkF m 1 #[.val (.int p1), .val (.int p2), .val (.int p3), .val (.int p4), .unset, .unset, .unset, .unset, .unset] [(.int p3)])) _
    refine XS.iconst X0.here hx rfl (hb hby at_1) ?_
    show Steps p.tables e below (s₁.setTop (mkF m 2 #[.val (.int p1), .val (.int p2), .val (.int p3), .val (.int p4), .unset, .unset, .unset, .unset, .unset] [(.int (3 : Int32)), (.int p3)])) _
    refine XS.iand X0.here hx rfl (hb hby at_2) rfl ?_
    show Steps p.tables e below (s₁.setTop (mkF m 3 #[.val (.int p1), .val (.int p2), .val (.int p3), .val (.int p4), .unset, .unset, .unset, .unset, .unset] [(.int (p3 &&& (3 : Int32)))])) _
    refine XS.istore X0.here hx rfl (hb hby at_3) rfl (l' := #[.val (.int p1), .val (.int p2), .val (.int p3), .val (.int p4), .unset, .unset, .val (.int (p3 &&& (3 : Int32))), .unset, .unset]) rfl ?_
    show Steps p.tables e below (s₁.setTop (mkF m 5 #[.val (.int p1), .val (.int p2), .val (.int p3), .val (.int p4), .unset, .unset, .val (.int (p3 &&& (3 : Int32))), .unset, .unset] [])) _
    refine XS.iload X0.here hx rfl (hb hby at_5) rfl ?_
    exact k _ h1
  by_cases hc7 : (p3 &&& (3 : Int32)) = (0 : Int32)
  · refine go p2.toInt64 (own_b53_i p2) fun u k => ?_
    refine XS.ifNo X0.here hx rfl (hb hby at_7) rfl ((if0 _ _).trans (teq hc7).2) ?_
    show Steps p.tables e below (s₁.setTop (mkF m 10 #[.val (.int p1), .val (.int p2), .val (.int p3), .val (.int p4), .unset, .unset, .val (.int (p3 &&& (3 : Int32))), .unset, .unset] [])) _
    refine XS.iloadN X0.here hx rfl (hb hby at_10) rfl ?_
    show Steps p.tables e below (s₁.setTop (mkF m 11 #[.val (.int p1), .val (.int p2), .val (.int p3), .val (.int p4), .unset, .unset, .val (.int (p3 &&& (3 : Int32))), .unset, .unset] [(.int p2)])) _
    refine XS.i2l X0.here hx rfl (hb hby at_11) rfl ?_
    show Steps p.tables e below (s₁.setTop (mkF m 12 #[.val (.int p1), .val (.int p2), .val (.int p3), .val (.int p4), .unset, .unset, .val (.int (p3 &&& (3 : Int32))), .unset, .unset] [(.long p2.toInt64)])) _
    refine XS.lstore X0.here hx rfl (hb hby at_12) rfl (l' := #[.val (.int p1), .val (.int p2), .val (.int p3), .val (.int p4), .val (.long p2.toInt64), .second, .val (.int (p3 &&& (3 : Int32))), .unset, .unset]) rfl ?_
    show Steps p.tables e below (s₁.setTop (mkF m 14 #[.val (.int p1), .val (.int p2), .val (.int p3), .val (.int p4), .val (.long p2.toInt64), .second, .val (.int (p3 &&& (3 : Int32))), .unset, .unset] [])) _
    refine XS.goto X0.here hx rfl (pc0 := 14) (pc' := 51) rfl (hb hby at_14) (by decide) (by decide) ?_
    exact k
  have at17 : ∀ u, Steps p.tables e below (s₁.setTop (mkF m 20 #[.val (.int p1), .val (.int p2), .val (.int p3), .val (.int p4), .unset, .unset, .val (.int (p3 &&& (3 : Int32))), .unset, .unset] [(.int (1 : Int32)), (.int (p3 &&& (3 : Int32)))])) u → Steps p.tables e below (s₁.setTop (mkF m 7 #[.val (.int p1), .val (.int p2), .val (.int p3), .val (.int p4), .unset, .unset, .val (.int (p3 &&& (3 : Int32))), .unset, .unset] [(.int (p3 &&& (3 : Int32)))])) u := by
    intro u k
    refine XS.ifYes X0.here hx rfl (pc0 := 7) (pc' := 17) rfl (hb hby at_7) rfl ((if0 _ _).trans (feq hc7).2) (by decide) (by decide) ?_
    show Steps p.tables e below (s₁.setTop (mkF m 17 #[.val (.int p1), .val (.int p2), .val (.int p3), .val (.int p4), .unset, .unset, .val (.int (p3 &&& (3 : Int32))), .unset, .unset] [])) _
    refine XS.iload X0.here hx rfl (hb hby at_17) rfl ?_
    show Steps p.tables e below (s₁.setTop (mkF m 19 #[.val (.int p1), .val (.int p2), .val (.int p3), .val (.int p4), .unset, .unset, .val (.int (p3 &&& (3 : Int32))), .unset, .unset] [(.int (p3 &&& (3 : Int32)))])) _
    refine XS.iconst X0.here hx rfl (hb hby at_19) ?_
    exact k
  by_cases hc20 : (p3 &&& (3 : Int32)) = (1 : Int32)
  · refine go p1.toInt64 (own_b53_i p1) fun u k => at17 _ ?_
    refine XS.icmpNo X0.here hx rfl (hb hby at_20) rfl (teq hc20).2 ?_
    show Steps p.tables e below (s₁.setTop (mkF m 23 #[.val (.int p1), .val (.int p2), .val (.int p3), .val (.int p4), .unset, .unset, .val (.int (p3 &&& (3 : Int32))), .unset, .unset] [])) _
    refine XS.iloadN X0.here hx rfl (hb hby at_23) rfl ?_
    show Steps p.tables e below (s₁.setTop (mkF m 24 #[.val (.int p1), .val (.int p2), .val (.int p3), .val (.int p4), .unset, .unset, .val (.int (p3 &&& (3 : Int32))), .unset, .unset] [(.int p1)])) _
    refine XS.i2l X0.here hx rfl (hb hby at_24) rfl ?_
    show Steps p.tables e below (s₁.setTop (mkF m 25 #[.val (.int p1), .val (.int p2), .val (.int p3), .val (.int p4), .unset, .unset, .val (.int (p3 &&& (3 : Int32))), .unset, .unset] [(.long p1.toInt64)])) _
    refine XS.lstore X0.here hx rfl (hb hby at_25) rfl (l' := #[.val (.int p1), .val (.int p2), .val (.int p3), .val (.int p4), .val (.long p1.toInt64), .second, .val (.int (p3 &&& (3 : Int32))), .unset, .unset]) rfl ?_
    show Steps p.tables e below (s₁.setTop (mkF m 27 #[.val (.int p1), .val (.int p2), .val (.int p3), .val (.int p4), .val (.long p1.toInt64), .second, .val (.int (p3 &&& (3 : Int32))), .unset, .unset] [])) _
    refine XS.goto X0.here hx rfl (pc0 := 27) (pc' := 51) rfl (hb hby at_27) (by decide) (by decide) ?_
    exact k
  have at30 : ∀ u, Steps p.tables e below (s₁.setTop (mkF m 33 #[.val (.int p1), .val (.int p2), .val (.int p3), .val (.int p4), .unset, .unset, .val (.int (p3 &&& (3 : Int32))), .unset, .unset] [(.int (2 : Int32)), (.int (p3 &&& (3 : Int32)))])) u → Steps p.tables e below (s₁.setTop (mkF m 7 #[.val (.int p1), .val (.int p2), .val (.int p3), .val (.int p4), .unset, .unset, .val (.int (p3 &&& (3 : Int32))), .unset, .unset] [(.int (p3 &&& (3 : Int32)))])) u := by
    intro u k
    refine at17 _ ?_
    refine XS.icmpYes X0.here hx rfl (pc0 := 20) (pc' := 30) rfl (hb hby at_20) rfl (feq hc20).2 (by decide) (by decide) ?_
    show Steps p.tables e below (s₁.setTop (mkF m 30 #[.val (.int p1), .val (.int p2), .val (.int p3), .val (.int p4), .unset, .unset, .val (.int (p3 &&& (3 : Int32))), .unset, .unset] [])) _
    refine XS.iload X0.here hx rfl (hb hby at_30) rfl ?_
    show Steps p.tables e below (s₁.setTop (mkF m 32 #[.val (.int p1), .val (.int p2), .val (.int p3), .val (.int p4), .unset, .unset, .val (.int (p3 &&& (3 : Int32))), .unset, .unset] [(.int (p3 &&& (3 : Int32)))])) _
    refine XS.iconst X0.here hx rfl (hb hby at_32) ?_
    exact k
  by_cases hc33 : (p3 &&& (3 : Int32)) = (2 : Int32)
  · refine go (p1.toInt64 + (1 : Int64)) (own_b53_add p1) fun u k => at30 _ ?_
    refine XS.icmpNo X0.here hx rfl (hb hby at_33) rfl (teq hc33).2 ?_
    show Steps p.tables e below (s₁.setTop (mkF m 36 #[.val (.int p1), .val (.int p2), .val (.int p3), .val (.int p4), .unset, .unset, .val (.int (p3 &&& (3 : Int32))), .unset, .unset] [])) _
    refine XS.iloadN X0.here hx rfl (hb hby at_36) rfl ?_
    show Steps p.tables e below (s₁.setTop (mkF m 37 #[.val (.int p1), .val (.int p2), .val (.int p3), .val (.int p4), .unset, .unset, .val (.int (p3 &&& (3 : Int32))), .unset, .unset] [(.int p1)])) _
    refine XS.i2l X0.here hx rfl (hb hby at_37) rfl ?_
    show Steps p.tables e below (s₁.setTop (mkF m 38 #[.val (.int p1), .val (.int p2), .val (.int p3), .val (.int p4), .unset, .unset, .val (.int (p3 &&& (3 : Int32))), .unset, .unset] [(.long p1.toInt64)])) _
    refine XS.lconst X0.here hx rfl (hb hby at_38) ?_
    show Steps p.tables e below (s₁.setTop (mkF m 39 #[.val (.int p1), .val (.int p2), .val (.int p3), .val (.int p4), .unset, .unset, .val (.int (p3 &&& (3 : Int32))), .unset, .unset] [(.long (1 : Int64)), (.long p1.toInt64)])) _
    refine XS.ladd X0.here hx rfl (hb hby at_39) rfl ?_
    show Steps p.tables e below (s₁.setTop (mkF m 40 #[.val (.int p1), .val (.int p2), .val (.int p3), .val (.int p4), .unset, .unset, .val (.int (p3 &&& (3 : Int32))), .unset, .unset] [(.long (p1.toInt64 + (1 : Int64)))])) _
    refine XS.lstore X0.here hx rfl (hb hby at_40) rfl (l' := #[.val (.int p1), .val (.int p2), .val (.int p3), .val (.int p4), .val (.long (p1.toInt64 + (1 : Int64))), .second, .val (.int (p3 &&& (3 : Int32))), .unset, .unset]) rfl ?_
    show Steps p.tables e below (s₁.setTop (mkF m 42 #[.val (.int p1), .val (.int p2), .val (.int p3), .val (.int p4), .val (.long (p1.toInt64 + (1 : Int64))), .second, .val (.int (p3 &&& (3 : Int32))), .unset, .unset] [])) _
    refine XS.goto X0.here hx rfl (pc0 := 42) (pc' := 51) rfl (hb hby at_42) (by decide) (by decide) ?_
    exact k
  · refine go (p1.toInt64 - (1 : Int64)) (own_b53_sub p1) fun u k => at30 _ ?_
    refine XS.icmpYes X0.here hx rfl (pc0 := 33) (pc' := 45) rfl (hb hby at_33) rfl (feq hc33).2 (by decide) (by decide) ?_
    show Steps p.tables e below (s₁.setTop (mkF m 45 #[.val (.int p1), .val (.int p2), .val (.int p3), .val (.int p4), .unset, .unset, .val (.int (p3 &&& (3 : Int32))), .unset, .unset] [])) _
    refine XS.iloadN X0.here hx rfl (hb hby at_45) rfl ?_
    show Steps p.tables e below (s₁.setTop (mkF m 46 #[.val (.int p1), .val (.int p2), .val (.int p3), .val (.int p4), .unset, .unset, .val (.int (p3 &&& (3 : Int32))), .unset, .unset] [(.int p1)])) _
    refine XS.i2l X0.here hx rfl (hb hby at_46) rfl ?_
    show Steps p.tables e below (s₁.setTop (mkF m 47 #[.val (.int p1), .val (.int p2), .val (.int p3), .val (.int p4), .unset, .unset, .val (.int (p3 &&& (3 : Int32))), .unset, .unset] [(.long p1.toInt64)])) _
    refine XS.lconst X0.here hx rfl (hb hby at_47) ?_
    show Steps p.tables e below (s₁.setTop (mkF m 48 #[.val (.int p1), .val (.int p2), .val (.int p3), .val (.int p4), .unset, .unset, .val (.int (p3 &&& (3 : Int32))), .unset, .unset] [(.long (1 : Int64)), (.long p1.toInt64)])) _
    refine XS.lsub X0.here hx rfl (hb hby at_48) rfl ?_
    show Steps p.tables e below (s₁.setTop (mkF m 49 #[.val (.int p1), .val (.int p2), .val (.int p3), .val (.int p4), .unset, .unset, .val (.int (p3 &&& (3 : Int32))), .unset, .unset] [(.long (p1.toInt64 - (1 : Int64)))])) _
    refine XS.lstore X0.here hx rfl (hb hby at_49) rfl (l' := #[.val (.int p1), .val (.int p2), .val (.int p3), .val (.int p4), .val (.long (p1.toInt64 - (1 : Int64))), .second, .val (.int (p3 &&& (3 : Int32))), .unset, .unset]) rfl ?_
    show Steps p.tables e below (s₁.setTop (mkF m 51 #[.val (.int p1), .val (.int p2), .val (.int p3), .val (.int p4), .val (.long (p1.toInt64 - (1 : Int64))), .second, .val (.int (p3 &&& (3 : Int32))), .unset, .unset] [])) _
    exact k
set_option maxRecDepth 65536 in
set_option maxHeartbeats 40000000 in
theorem comes_1 {Post : Tables → Env → Array Value → State → Outcome → State → Prop} (hpost : ∀ tb e args s v u, (limb_1_1.after args s (.returned v) u = true ∧ limb_1_2.after args s (.returned v) u = true ∧ True) → ReturnedEndW s (.returned v) u (Jvm.fieldLocs frame_1_writes args s ++ Jvm.arrayLocs frame_1_arrays args s ++ Jvm.staticLocs frame_1_statics s) 16 3200 → Post tb e args s (.returned v) u) :
    ArmFor flags0 classFile x code maxLocals ret World_1 tables_1 room_1 Calls_1 rest_1 Pre_1 Post := by
  intro l hfl _ _ p e ha hc hk s m args below hf hA hF happ hP
  obtain ⟨hcalls, hrest, hpre⟩ := hP
  obtain ⟨-, -, -, hnamed, -, -, -, hat⟩ := (Spec.applies_iff hf).mp happ
  obtain ⟨hg, hn⟩ := and_e (Cond.before_iff.mp (show (Jvm.Cond.and given_1 narrow_1).before args s = true from hpre))
  obtain ⟨h1, h2⟩ := and_e hg
  obtain ⟨h3, h4⟩ := and_e h2
  obtain ⟨h5, h6⟩ := and_e h4
  obtain ⟨h7, h8⟩ := and_e h6
  obtain ⟨w0, w1, w2, w3, rfl⟩ : ∃ w0 w1 w2 w3 : Value, args = #[w0, w1, w2, w3] := by
    have hs : args.size = 4 := by simpa [Cond.value, given_1] using h1
    obtain ⟨L⟩ := args
    match L, hs with
    | [w0, w1, w2, w3], _ => exact ⟨w0, w1, w2, w3, rfl⟩
  have hw := fun d (hd : d ∈ tables_1) => atoms_spec (ws := Jvm.Cond.code x code maxLocals ret :: tables_1) hat d (List.mem_cons_of_mem _ hd)
  obtain ⟨i0, e0⟩ := is_v h3
  obtain rfl : w0 = (.int i0) := Option.some.inj e0
  obtain ⟨i1, e1⟩ := is_v h5
  obtain rfl : w1 = (.int i1) := Option.some.inj e1
  obtain ⟨i2, e2⟩ := is_v h7
  obtain rfl : w2 = (.int i2) := Option.some.inj e2
  obtain ⟨i3, e3⟩ := is_v h8
  obtain rfl : w3 = (.int i3) := Option.some.inj e3
  obtain ⟨n, o, k1, k2, k3, _, L, rfl, ⟨rfl, N⟩, hq⟩ := rm0 l s _ hw tables_1 i0 i1 i2 i3 s.heap s.heap.size (Nat.le_refl _) p e ha hc hk s m _ below hf ((Spec.applies_iff_loose hf).mp happ).1 ⟨rfl, State.Warmed39.refl s, rfl⟩ trivial
  refine ⟨n, _, k1, k2, k3, hpost _ _ _ _ _ _ ⟨Cond.after_iff.mpr rfl, Cond.after_iff.mpr (eq_i res_at (Term.int_eval (1)) rfl), trivial⟩ ⟨hq.1, hq.2.1, hq.2.2.1, (hq.2.2.2.sift fun y hy => Or.inr (N y hy)).mono (by decide) (by decide)⟩⟩
theorem main_1_1 : Claimed_1_1 := comes_1 fun _ _ _ _ _ _ h hF => ⟨h.1, hF⟩
theorem main_1_2 : Claimed_1_2 := comes_1 fun _ _ _ _ _ _ h hF => ⟨h.2.1, hF⟩
end Jvm.Pilot.@@N@@
namespace Jvm.Pilot.@@N@@
open Jvm Jvm.ClassFile Sem Op Lib Jvm.Free Jvm.Stand Jvm.Pilot.@@N@@.Jvm.D
/-! MADE BY PROGRAM (witnessworld.py) out of the Statement's table words and the real class files: 15 classes; the members and pool entries that the words name. The judged class is class 1, her method 1. -/
namespace start1
open Jvm.ClassFile
def u (s : String) : CpInfo := .utf8 (stringToUtf16 s)
/-- a pool by its gaps: so many unusable entries, then the entry; so many at the end -/
def gap : Nat → List CpInfo → List CpInfo
  | 0, r => r
  | n + 1, r => .unusable :: gap n r
def poolList (es : List (Nat × CpInfo)) (last : Nat) : List CpInfo := es.foldr (fun e r => gap e.1 (e.2 :: r)) (gap last [])
def pool (es : List (Nat × CpInfo)) (last : Nat) : Array CpInfo := ⟨poolList es last⟩
def fileOf (pool : Array CpInfo) (this : Nat) (attrs : Array Attribute := #[]) (ms : Array MethodInfo := #[]) (fl : Nat := 33) (sup : Nat := 0) (ifs : Array Nat := #[]) (fds : Array FieldInfo := #[]) : ClassFile where
  minorVersion := 0
  majorVersion := 65
  constantPool := pool
  accessFlags := fl
  thisClass := this
  superClass := sup
  interfaces := ifs
  fields := fds
  methods := ms
  attributes := attrs
def plain (name : String) (sup : Option ClassId) : Class where
  name := name
  kind := .ordinary
  loader := none
  accessFlags := 33
  super := sup
  interfaces := #[]
  cf := none
  fields := #[]
  methods := #[]
  instanceTypes := #[]
  staticTypes := #[]
  resolved := #[]
  callSites := []
  init := .initialized
  statics := none
  mirror := none

def pool0 : Array CpInfo := pool [(5, u "<init>"), (0, u "()V"), (1, .class_ 10), (1, u "java/lang/Object")] 113

def k0c0 : Code := { maxStack := 0, maxLocals := 1, code := object_method_1_code, exceptionTable := #[], attributes := #[] }
def k0m0 : Method := { name := "<init>", desc := "()V", sig := { parameters := [], returnType := none }, accessFlags := 1, code := some k0c0 }
/-- java/lang/Object -/
def k0 : Class := { plain "java/lang/Object" none with
  accessFlags := 33
  interfaces := #[]
  cf := some (fileOf pool0 8 #[] #[{ accessFlags := 1, nameIndex := 5, descriptorIndex := 6, attributes := #[] }] 33 0 #[] #[])
  fields := #[]
  methods := #[k0m0]
  instanceTypes := #[]
  staticTypes := #[]
  resolved := Array.replicate 124 none
  statics := none }

def pool1 : Array CpInfo := pool [(2, .class_ 4), (1, u "java/lang/Object"), (0, u "<init>"), (0, u "()V"), (0, .class_ 8), (0, u "com/example/xylem/xylem/bench/Comparison"), (0, .string 10), (0, u "l"), (0, .string 12), (0, u "f"), (0, .string 14), (0, u "s"), (0, .methodref 7 16), (0, .nameAndType 5 17), (0, u "(Ljava/lang/String;Ljava/lang/String;Ljava/lang/String;DDDD)V"), (0, .methodref 7 19), (0, .nameAndType 20 21), (0, u "met"), (0, u "()Z"), (0, .class_ 23), (0, u "com/example/xylem/xylem/bench/ComparisonMetPinLaw"), (2, u "law"), (0, u "(IIII)Z")] 3

def k1m0 : Method := { name := "<init>", desc := "()V", sig := { parameters := [], returnType := none }, accessFlags := 1, code := none }
def k1c1 : Code := { maxStack := 13, maxLocals := 9, code := code, exceptionTable := #[], attributes := #[] }
def k1m1 : Method := { name := "law", desc := "(IIII)Z", sig := { parameters := [.int, .int, .int, .int], returnType := some .boolean }, accessFlags := 9, code := some k1c1 }
/-- com/example/xylem/xylem/bench/ComparisonMetPinLaw -/
def k1 : Class := { plain "com/example/xylem/xylem/bench/ComparisonMetPinLaw" (some 0) with
  accessFlags := 49
  interfaces := #[]
  cf := some (fileOf pool1 22 #[] #[{ accessFlags := 1, nameIndex := 5, descriptorIndex := 6, attributes := #[] }, { accessFlags := 9, nameIndex := 26, descriptorIndex := 27, attributes := #[] }] 49 2 #[] #[])
  fields := #[]
  methods := #[k1m0, k1m1]
  instanceTypes := #[]
  staticTypes := #[]
  resolved := Array.replicate 31 none
  statics := none }

def pool2 : Array CpInfo := pool [(1, .methodref 2 3), (0, .class_ 4), (0, .nameAndType 5 6), (0, u "java/lang/Object"), (0, u "<init>"), (0, u "()V"), (0, .class_ 8), (0, u "java/lang/Record")] 13

def k2c0 : Code := { maxStack := 1, maxLocals := 1, code := jdk_30_method_1_code, exceptionTable := #[], attributes := #[] }
def k2m0 : Method := { name := "<init>", desc := "()V", sig := { parameters := [], returnType := none }, accessFlags := 4, code := some k2c0 }
/-- java/lang/Record -/
def k2 : Class := { plain "java/lang/Record" (some 0) with
  accessFlags := 1057
  interfaces := #[]
  cf := some (fileOf pool2 7 #[] #[{ accessFlags := 4, nameIndex := 5, descriptorIndex := 6, attributes := #[] }] 1057 2 #[] #[])
  fields := #[]
  methods := #[k2m0]
  instanceTypes := #[]
  staticTypes := #[]
  resolved := Array.replicate 22 none
  statics := none }

def pool3 : Array CpInfo := pool [(1, .methodref 2 3), (0, .class_ 4), (0, .nameAndType 5 6), (0, u "java/lang/Record"), (0, u "<init>"), (0, u "()V"), (0, .fieldref 8 9), (0, .class_ 10), (0, .nameAndType 11 12), (0, u "com/example/xylem/xylem/bench/Comparison"), (0, u "label"), (0, u "Ljava/lang/String;"), (0, .fieldref 8 14), (0, .nameAndType 15 12), (0, u "first"), (0, .fieldref 8 17), (0, .nameAndType 18 12), (0, u "second"), (0, .fieldref 8 20), (0, .nameAndType 21 22), (0, u "firstMs"), (0, u "D"), (0, .fieldref 8 24), (0, .nameAndType 25 22), (0, u "secondMs"), (0, .fieldref 8 27), (0, .nameAndType 28 22), (0, u "figure"), (0, .fieldref 8 30), (0, .nameAndType 31 22), (0, u "target"), (2, u "(Ljava/lang/String;Ljava/lang/String;Ljava/lang/String;DDDD)V"), (40, u "met"), (0, u "()Z")] 32

def k3c0 : Code := { maxStack := 3, maxLocals := 12, code := prog_30_method_1_code, exceptionTable := #[], attributes := #[] }
def k3m0 : Method := { name := "<init>", desc := "(Ljava/lang/String;Ljava/lang/String;Ljava/lang/String;DDDD)V", sig := { parameters := [(.object "java/lang/String"), (.object "java/lang/String"), (.object "java/lang/String"), .double, .double, .double, .double], returnType := none }, accessFlags := 0, code := some k3c0 }
def k3c1 : Code := { maxStack := 4, maxLocals := 1, code := prog_30_method_4_code, exceptionTable := #[], attributes := #[] }
def k3m1 : Method := { name := "met", desc := "()Z", sig := { parameters := [], returnType := some .boolean }, accessFlags := 0, code := some k3c1 }
/-- com/example/xylem/xylem/bench/Comparison -/
def k3 : Class := { plain "com/example/xylem/xylem/bench/Comparison" (some 2) with
  accessFlags := 48
  interfaces := #[]
  cf := some (fileOf pool3 8 #[] #[{ accessFlags := 0, nameIndex := 5, descriptorIndex := 34, attributes := #[] }, { accessFlags := 0, nameIndex := 75, descriptorIndex := 76, attributes := #[] }] 48 2 #[] #[{ accessFlags := 18, nameIndex := 11, descriptorIndex := 12, attributes := #[] }, { accessFlags := 18, nameIndex := 15, descriptorIndex := 12, attributes := #[] }, { accessFlags := 18, nameIndex := 18, descriptorIndex := 12, attributes := #[] }, { accessFlags := 18, nameIndex := 21, descriptorIndex := 22, attributes := #[] }, { accessFlags := 18, nameIndex := 25, descriptorIndex := 22, attributes := #[] }, { accessFlags := 18, nameIndex := 28, descriptorIndex := 22, attributes := #[] }, { accessFlags := 18, nameIndex := 31, descriptorIndex := 22, attributes := #[] }])
  fields := #[{ name := "label", type := (.object "java/lang/String"), accessFlags := 18, slot := 0, constantValue := 0 }, { name := "first", type := (.object "java/lang/String"), accessFlags := 18, slot := 1, constantValue := 0 }, { name := "second", type := (.object "java/lang/String"), accessFlags := 18, slot := 2, constantValue := 0 }, { name := "firstMs", type := .double, accessFlags := 18, slot := 3, constantValue := 0 }, { name := "secondMs", type := .double, accessFlags := 18, slot := 4, constantValue := 0 }, { name := "figure", type := .double, accessFlags := 18, slot := 5, constantValue := 0 }, { name := "target", type := .double, accessFlags := 18, slot := 6, constantValue := 0 }]
  methods := #[k3m0, k3m1]
  instanceTypes := #[(.object "java/lang/String"), (.object "java/lang/String"), (.object "java/lang/String"), .double, .double, .double, .double]
  staticTypes := #[]
  resolved := Array.replicate 109 none
  statics := none }

def pool4 : Array CpInfo := pool [(1, .class_ 2), (0, u "java/io/Serializable"), (0, .class_ 4), (0, u "java/lang/Object")] 2

/-- java/io/Serializable -/
def k4 : Class := { plain "java/io/Serializable" (some 0) with
  accessFlags := 1537
  interfaces := #[]
  cf := some (fileOf pool4 1 #[] #[] 1537 3 #[] #[])
  fields := #[]
  methods := #[]
  instanceTypes := #[]
  staticTypes := #[]
  resolved := Array.replicate 7 none
  statics := none }

def pool5 : Array CpInfo := pool [(1, .class_ 2), (0, u "java/lang/Comparable"), (0, .class_ 4), (0, u "java/lang/Object")] 7

/-- java/lang/Comparable -/
def k5 : Class := { plain "java/lang/Comparable" (some 0) with
  accessFlags := 1537
  interfaces := #[]
  cf := some (fileOf pool5 1 #[] #[] 1537 3 #[] #[])
  fields := #[]
  methods := #[]
  instanceTypes := #[]
  staticTypes := #[]
  resolved := Array.replicate 12 none
  statics := none }

def pool6 : Array CpInfo := pool [(2, .class_ 4), (1, u "java/lang/CharSequence"), (42, .class_ 48), (0, u "java/lang/CharSequence$1CodePointIterator"), (10, .class_ 60), (0, u "java/lang/CharSequence$1CharIterator"), (5, .class_ 67), (0, u "java/lang/Object")] 63

/-- java/lang/CharSequence -/
def k6 : Class := { plain "java/lang/CharSequence" (some 0) with
  accessFlags := 1537
  interfaces := #[]
  cf := some (fileOf pool6 2 #[.nestMembers #[47, 59]] #[] 1537 66 #[] #[])
  fields := #[]
  methods := #[]
  instanceTypes := #[]
  staticTypes := #[]
  resolved := Array.replicate 131 none
  statics := none }

def pool7 : Array CpInfo := pool [(1, .class_ 2), (0, u "java/lang/constant/Constable"), (0, .class_ 4), (0, u "java/lang/Object")] 6

/-- java/lang/constant/Constable -/
def k7 : Class := { plain "java/lang/constant/Constable" (some 0) with
  accessFlags := 1537
  interfaces := #[]
  cf := some (fileOf pool7 1 #[] #[] 1537 3 #[] #[])
  fields := #[]
  methods := #[]
  instanceTypes := #[]
  staticTypes := #[]
  resolved := Array.replicate 11 none
  statics := none }

def pool8 : Array CpInfo := pool [(1, .class_ 2), (0, u "java/lang/constant/ConstantDesc"), (0, .class_ 4), (0, u "java/lang/Object")] 32

/-- java/lang/constant/ConstantDesc -/
def k8 : Class := { plain "java/lang/constant/ConstantDesc" (some 0) with
  accessFlags := 1537
  interfaces := #[]
  cf := some (fileOf pool8 1 #[] #[] 1537 3 #[] #[])
  fields := #[]
  methods := #[]
  instanceTypes := #[]
  staticTypes := #[]
  resolved := Array.replicate 37 none
  statics := none }

def pool9 : Array CpInfo := pool [(2, .class_ 4), (1, u "java/lang/Object"), (0, u "<init>"), (0, u "()V"), (3, .class_ 12), (1, u "java/lang/String"), (0, u "value"), (0, u "[B"), (2, u "coder"), (0, u "B"), (2, u "hash"), (0, u "I"), (2, u "hashIsZero"), (0, u "Z"), (13, u "COMPACT_STRINGS"), (534, .class_ 576), (0, u "java/lang/CharSequence"), (22, u "CASE_INSENSITIVE_ORDER"), (0, u "Ljava/util/Comparator;"), (500, u "serialPersistentFields"), (0, u "[Ljava/io/ObjectStreamField;"), (0, .class_ 1104), (0, u "java/lang/String$CaseInsensitiveComparator"), (1, .class_ 1107), (0, u "java/io/Serializable"), (0, .class_ 1109), (0, u "java/lang/Comparable"), (0, .class_ 1111), (0, u "java/lang/constant/Constable"), (0, .class_ 1113), (0, u "java/lang/constant/ConstantDesc"), (2, u "serialVersionUID"), (0, u "J"), (3, u "REPL"), (0, u "C"), (2, u "LATIN1"), (1, u "UTF16")] 323

def k9m0 : Method := { name := "<init>", desc := "()V", sig := { parameters := [], returnType := none }, accessFlags := 1, code := none }
/-- java/lang/String -/
def k9 : Class := { plain "java/lang/String" (some 0) with
  accessFlags := 49
  interfaces := #[4, 5, 6, 7, 8]
  cf := some (fileOf pool9 10 #[.nestMembers #[1103]] #[{ accessFlags := 1, nameIndex := 5, descriptorIndex := 6, attributes := #[] }] 49 2 #[1106, 1108, 575, 1110, 1112] #[{ accessFlags := 18, nameIndex := 13, descriptorIndex := 14, attributes := #[] }, { accessFlags := 18, nameIndex := 17, descriptorIndex := 18, attributes := #[] }, { accessFlags := 2, nameIndex := 21, descriptorIndex := 22, attributes := #[] }, { accessFlags := 2, nameIndex := 25, descriptorIndex := 26, attributes := #[] }, { accessFlags := 26, nameIndex := 1116, descriptorIndex := 1117, attributes := #[] }, { accessFlags := 24, nameIndex := 40, descriptorIndex := 26, attributes := #[] }, { accessFlags := 26, nameIndex := 1101, descriptorIndex := 1102, attributes := #[] }, { accessFlags := 26, nameIndex := 1121, descriptorIndex := 1122, attributes := #[] }, { accessFlags := 25, nameIndex := 599, descriptorIndex := 600, attributes := #[] }, { accessFlags := 24, nameIndex := 1125, descriptorIndex := 18, attributes := #[] }, { accessFlags := 24, nameIndex := 1127, descriptorIndex := 18, attributes := #[] }])
  fields := #[{ name := "value", type := (.array .byte), accessFlags := 18, slot := 0, constantValue := 0 }, { name := "coder", type := .byte, accessFlags := 18, slot := 1, constantValue := 0 }, { name := "hash", type := .int, accessFlags := 2, slot := 2, constantValue := 0 }, { name := "hashIsZero", type := .boolean, accessFlags := 2, slot := 3, constantValue := 0 }, { name := "serialVersionUID", type := .long, accessFlags := 26, slot := 0, constantValue := 0 }, { name := "COMPACT_STRINGS", type := .boolean, accessFlags := 24, slot := 1, constantValue := 0 }, { name := "serialPersistentFields", type := (.array (.object "java/io/ObjectStreamField")), accessFlags := 26, slot := 2, constantValue := 0 }, { name := "REPL", type := .char, accessFlags := 26, slot := 3, constantValue := 0 }, { name := "CASE_INSENSITIVE_ORDER", type := (.object "java/util/Comparator"), accessFlags := 25, slot := 4, constantValue := 0 }, { name := "LATIN1", type := .byte, accessFlags := 24, slot := 5, constantValue := 0 }, { name := "UTF16", type := .byte, accessFlags := 24, slot := 6, constantValue := 0 }]
  methods := #[k9m0]
  instanceTypes := #[(.array .byte), .byte, .int, .boolean]
  staticTypes := #[.long, .boolean, (.array (.object "java/io/ObjectStreamField")), .char, (.object "java/util/Comparator"), .byte, .byte]
  resolved := Array.replicate 1451 none
  statics := none }

def pool10 : Array CpInfo := pool [(1, u "java/lang/Cloneable"), (0, .class_ 1), (0, u "java/lang/Object"), (0, .class_ 3)] 3

/-- java/lang/Cloneable -/
def k10 : Class := { plain "java/lang/Cloneable" (some 0) with
  accessFlags := 1537
  interfaces := #[]
  cf := some (fileOf pool10 2 #[] #[] 1537 4 #[] #[])
  fields := #[]
  methods := #[]
  instanceTypes := #[]
  staticTypes := #[]
  resolved := Array.replicate 8 none
  statics := none }

/-- the primitive byte -/
def k11 : Class := { plain "byte" none with kind := .primitive 'B', accessFlags := 0x411 }
/-- [B -/
def k12 : Class := { plain "[B" (some 0) with kind := .array 11 .byte, interfaces := #[10, 4], accessFlags := 1041 }

/-- the primitive int -/
def k13 : Class := { plain "int" none with kind := .primitive 'I', accessFlags := 0x411 }
/-- [I -/
def k14 : Class := { plain "[I" (some 0) with kind := .array 13 .int, interfaces := #[10, 4], accessFlags := 1041 }

def heap : Heap := #[]
def classes : Array Class := #[k0, k1, k2, k3, k4, k5, k6, k7, k8, k9, k10, k11, k12, k13, k14]
def interned : List (Array UInt16 × Addr) := []
def slotsUsed : Nat := 0
def theMethod : MethodId := ⟨1, 1⟩
def args0 : Array Value := #[.int 5, .int 7, .int 2, .int 3]
def aboutOver (below : List Frame) : State where
  vm := { classes := classes, interned := interned.toArray }
  heap := heap
  slotsUsed := slotsUsed
  threads := #[{ frames := .invoking theMethod args0 :: below }]
def below0 : List Frame := [.native { method := ⟨0, 0⟩, args := #[] }]
def about1 : State := aboutOver below0
def p0 : Program := .bare "" "" ""
def e0 : Env := launch0.env 0 0 0
theorem w_frames : about1.frames = Frame.invoking theMethod args0 :: below0 := rfl
set_option maxRecDepth 65536 in
theorem w_args : argsFit about1.vm theMethod args0 = true := by decide +kernel
set_option maxRecDepth 65536 in
theorem w_heap : heapFits about1 = true := by decide +kernel
set_option maxRecDepth 65536 in
theorem w_runnable : about1.curStatus? = some .runnable := by decide +kernel
set_option maxRecDepth 65536 in
theorem w_alone : about1.alone = true := by decide +kernel
set_option maxRecDepth 65536 in
theorem w_named : about1.methodNamed? x = some theMethod := by decide +kernel
set_option maxRecDepth 65536 in
theorem w_hears : about1.hears theMethod below0 = true := by decide +kernel
set_option maxRecDepth 65536 in
theorem w_ripe : about1.ripe theMethod args0 below0 = true := by decide +kernel
theorem w_running : about1.status = .running := rfl
set_option maxRecDepth 65536 in
theorem w_room : about1.hasRoom e0.platform room_1 = true :=
  launch0.hasRoom_least _ room_1 (by decide +kernel) (by decide +kernel) (by decide +kernel) (by decide +kernel) (by decide +kernel) (by decide +kernel)
theorem allAtoms_all (ts : List Jvm.Cond) (a : Array Jvm.Value) (st : Jvm.State) : (allAtoms ts).before a st = ts.all (fun c => c.before a st) := by
  induction ts with
  | nil => rfl
  | cons c t ih =>
    show (Jvm.Cond.and c (allAtoms t)).before a st = _
    rw [Jvm.Cond.before_and, ih, List.all_cons]
def words1 : List Jvm.Cond := Jvm.Cond.code x code maxLocals ret :: tables_1
/-- a 'code' word, met by the world's own term for the bytes: nothing is compared byte by byte -/
theorem code_word {y : MethodName} {bytes : ByteArray} {mx : Nat} {rt : Option FieldType} {a : Array Value} {s : State} {m : MethodId} {meth : Method} {c : Code} (h1 : s.methodNamed? y = some m) (h2 : s.vm.method? m = some meth) (h3 : meth.code = some c) (h4 : c.code = bytes)
    (h5 : (c.maxLocals == mx && c.exceptionTable.isEmpty && decide (c.maxStack ≤ mostOperands) && decide (meth.sig.returnType = rt) && !meth.locks && decide (parseMethodDescriptor y.desc = some meth.sig)) = true) : (Jvm.Cond.code y bytes mx rt).before a s = true := by
  simp only [Bool.and_eq_true, beq_iff_eq, Bool.not_eq_true', decide_eq_true_eq] at h5
  obtain ⟨⟨⟨⟨⟨g1, g2⟩, g3⟩, g4⟩, g5⟩, g6⟩ := h5
  simp [Cond.before, Cond.holds, Cond.value, h1, h2, h3, h4, g1, g2, g3, g4, g5, g6]
def isCode : Jvm.Cond → Bool
  | .code _ _ _ _ => true
  | _ => false
theorem all_split {L : List Jvm.Cond} {P : Jvm.Cond → Bool} (h1 : L.all (fun c => isCode c || P c) = true) (h2 : ∀ c ∈ L.filter isCode, P c = true) : L.all P = true := by
  refine List.all_eq_true.mpr fun c hc => ?_
  have h := List.all_eq_true.mp h1 c hc
  rcases Bool.eq_false_or_eq_true (isCode c) with hi | hi
  · exact h2 c (List.mem_filter.mpr ⟨hc, hi⟩)
  · simpa [hi] using h
set_option maxRecDepth 65536 in
theorem w_c0 : (Jvm.Cond.code x code maxLocals ret).before args0 about1 = true := code_word (m := ⟨1, 1⟩) (meth := k1m1) (c := k1c1) (by decide +kernel) rfl rfl rfl (by decide +kernel)
set_option maxRecDepth 65536 in
theorem w_c1 : (Jvm.Cond.code ({ cls := "com/example/xylem/xylem/bench/Comparison", name := "<init>", desc := "(Ljava/lang/String;Ljava/lang/String;Ljava/lang/String;DDDD)V" } : Jvm.MethodName) prog_30_method_1_code (12 : Nat) (Option.none : Option Jvm.ClassFile.FieldType)).before args0 about1 = true := code_word (m := ⟨3, 0⟩) (meth := k3m0) (c := k3c0) (by decide +kernel) rfl rfl rfl (by decide +kernel)
set_option maxRecDepth 65536 in
theorem w_c2 : (Jvm.Cond.code ({ cls := "java/lang/Record", name := "<init>", desc := "()V" } : Jvm.MethodName) jdk_30_method_1_code (1 : Nat) (Option.none : Option Jvm.ClassFile.FieldType)).before args0 about1 = true := code_word (m := ⟨2, 0⟩) (meth := k2m0) (c := k2c0) (by decide +kernel) rfl rfl rfl (by decide +kernel)
set_option maxRecDepth 65536 in
theorem w_c3 : (Jvm.Cond.code ({ cls := "java/lang/Object", name := "<init>", desc := "()V" } : Jvm.MethodName) object_method_1_code (1 : Nat) (Option.none : Option Jvm.ClassFile.FieldType)).before args0 about1 = true := code_word (m := ⟨0, 0⟩) (meth := k0m0) (c := k0c0) (by decide +kernel) rfl rfl rfl (by decide +kernel)
set_option maxRecDepth 65536 in
theorem w_c4 : (Jvm.Cond.code ({ cls := "com/example/xylem/xylem/bench/Comparison", name := "met", desc := "()Z" } : Jvm.MethodName) prog_30_method_4_code (1 : Nat) (Option.some Jvm.ClassFile.FieldType.boolean)).before args0 about1 = true := code_word (m := ⟨3, 1⟩) (meth := k3m1) (c := k3c1) (by decide +kernel) rfl rfl rfl (by decide +kernel)
def codes1 : List Jvm.Cond := [Jvm.Cond.code x code maxLocals ret, Jvm.Cond.code ({ cls := "com/example/xylem/xylem/bench/Comparison", name := "<init>", desc := "(Ljava/lang/String;Ljava/lang/String;Ljava/lang/String;DDDD)V" } : Jvm.MethodName) prog_30_method_1_code (12 : Nat) (Option.none : Option Jvm.ClassFile.FieldType), Jvm.Cond.code ({ cls := "java/lang/Record", name := "<init>", desc := "()V" } : Jvm.MethodName) jdk_30_method_1_code (1 : Nat) (Option.none : Option Jvm.ClassFile.FieldType), Jvm.Cond.code ({ cls := "java/lang/Object", name := "<init>", desc := "()V" } : Jvm.MethodName) object_method_1_code (1 : Nat) (Option.none : Option Jvm.ClassFile.FieldType), Jvm.Cond.code ({ cls := "com/example/xylem/xylem/bench/Comparison", name := "met", desc := "()Z" } : Jvm.MethodName) prog_30_method_4_code (1 : Nat) (Option.some Jvm.ClassFile.FieldType.boolean)]
set_option maxRecDepth 65536 in
theorem codes_eq : words1.filter isCode = codes1 := rfl
theorem w_codes : ∀ c ∈ words1.filter isCode, c.before args0 about1 = true := by
  rw [codes_eq]
  intro c hc
  simp only [codes1, List.mem_cons, List.not_mem_nil, or_false] at hc
  rcases hc with rfl | rfl | rfl | rfl | rfl
  · exact w_c0
  · exact w_c1
  · exact w_c2
  · exact w_c3
  · exact w_c4
set_option maxRecDepth 65536 in
theorem w_t1 : (words1.take 24).all (fun c => isCode c || c.before args0 about1) = true := by decide +kernel
set_option maxRecDepth 65536 in
theorem w_t2 : (words1.drop 24).all (fun c => isCode c || c.before args0 about1) = true := by decide +kernel
theorem w_tables : (allAtoms (Jvm.Cond.code x code maxLocals ret :: tables_1)).before args0 about1 = true := by
  rw [allAtoms_all]
  show words1.all (fun c => c.before args0 about1) = true
  refine all_split ?_ w_codes
  rw [← List.take_append_drop 24 words1, List.all_append, w_t1, w_t2]
  rfl
set_option maxRecDepth 65536 in
theorem w_case : (Jvm.Cond.and given_1 narrow_1).before args0 about1 = true := by decide +kernel
theorem w_applies : (headSpec (Jvm.Cond.code x code maxLocals ret :: tables_1) room_1).applies x e0.platform about1 = true :=
  (Spec.applies_iff w_frames).mpr ⟨w_running, w_runnable, w_alone, w_named, w_hears, w_ripe, w_room, w_tables⟩
theorem atStart : AtStart classFile x code maxLocals ret World_1 tables_1 room_1 Calls_1 rest_1 Pre_1 launch0 p0 e0 about1 theMethod args0 below0 :=
  ⟨lists_1, trivial, launch0.admits_env _ _ _, launch0.least_env, fairChoices_fair.cas, fairChoices_fair.clock, w_frames, w_args, w_heap, w_applies, trivial, trivial, w_case⟩
end start1
theorem witness_1 : WitnessClaimed_1 := ⟨start1.p0, start1.e0, start1.about1, start1.theMethod, start1.args0, start1.below0, start1.atStart⟩
end Jvm.Pilot.@@N@@
