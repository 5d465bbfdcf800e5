import Derived.Test.YbulkanhyMin
namespace Go.Proofs.Ybulkanhy
open Go.RowKit

set_option maxHeartbeats 2000000 in
theorem sym_fst (x y v1 e1 v2 e2 : Int)
    (HX : Hid (∀ W, Calls Yba.prog 5 #[.int .i64 x] W fun e w' => e = .returned (.agg #[.int .u64 v1, .int .i64 e1, .pointer none]) ∧ Below W.heap.size W w'))
    (HY : Hid (∀ W, Calls Yba.prog 5 #[.int .i64 y] W fun e w' => e = .returned (.agg #[.int .u64 v2, .int .i64 e2, .pointer none]) ∧ Below W.heap.size W w'))
    (HR : Hid (∀ W, Calls Yba.prog 6 #[.agg #[.int .u64 v1, .int .i64 e1, .pointer none], .agg #[.int .u64 v2, .int .i64 e2, .pointer none]] W fun e w' => e = .returned (.agg #[.int .u64 v1, .int .i64 e1, .pointer none]) ∧ Below W.heap.size W w'))
    (HS : Hid (∀ W, Calls Yba.prog 6 #[.agg #[.int .u64 v2, .int .i64 e2, .pointer none], .agg #[.int .u64 v1, .int .i64 e1, .pointer none]] W fun e w' => e = .returned (.agg #[.int .u64 v1, .int .i64 e1, .pointer none]) ∧ Below W.heap.size W w'))
    (HA : Hid (∀ W, Calls Yba.prog 7 #[.agg #[.int .u64 v1, .int .i64 e1, .pointer none], .agg #[.int .u64 v1, .int .i64 e1, .pointer none]] W fun e w' => e = .returned (.bool false) ∧ Below W.heap.size W w'))
    (HB : Hid (∀ W, Calls Yba.prog 7 #[.agg #[.int .u64 v1, .int .i64 e1, .pointer none], .agg #[.int .u64 v2, .int .i64 e2, .pointer none]] W fun e w' => e = .returned (.bool false) ∧ Below W.heap.size W w'))
    (HE : Hid (∀ W, Calls Yba.prog 8 #[.agg #[.int .u64 v1, .int .i64 e1, .pointer none], .agg #[.int .u64 v1, .int .i64 e1, .pointer none]] W fun e w' => e = .returned (.bool true) ∧ Below W.heap.size W w')) (w : World) :
    Calls Yba.prog 4 #[.int .i64 x, .int .i64 y] w fun e w' => e = .returned (.bool true) ∧ Below w.heap.size w w' := by
  have ne := nil_eq
  go_enter Yba.func4, Yba.ntmps4
  go_wp2_with fail
  refine Calls.mono (HX.out _) ?_
  rintro e w1 ⟨rfl, hb1⟩
  have B1 := hide_it hb1
  clear hb1 HX
  go_wp2_with fail
  refine Calls.mono (HY.out _) ?_
  rintro e w2 ⟨rfl, hb2⟩
  have XA := hide_it ((box_new w1 _ _ _ _).keep hb2 (by simp))
  have B2 := hide_it (below_step B1.out hb2)
  clear hb2 B1 HY
  obtain ⟨a0, a1, a2, a3, _, _, _⟩ := XA.out
  go_wp2_with fail
  refine Calls.mono (HR.out _) ?_
  rintro e w3 ⟨rfl, hb3⟩
  have ZA := hide_it ((XA.out.alloc _).keep hb3 (by simp; omega))
  have ZB := hide_it ((box_new w2 _ _ _ _).keep hb3 (by simp))
  have B3 := hide_it (below_step B2.out hb3)
  clear hb3 B2 a0 a1 a2 a3 HR XA
  obtain ⟨a0, a1, a2, a3, _, _, _⟩ := ZA.out
  obtain ⟨b0, b1, b2, b3, _, _, _⟩ := ZB.out
  go_wp2_with fail
  refine Calls.mono (HS.out _) ?_
  rintro e w4 ⟨rfl, hb4⟩
  have YA := hide_it ((ZA.out.alloc _).keep hb4 (by simp; omega))
  have YB := hide_it ((ZB.out.alloc _).keep hb4 (by simp; omega))
  have YR := hide_it ((box_new w3 _ _ _ _).keep hb4 (by simp))
  have B4 := hide_it (below_step B3.out hb4)
  clear hb4 B3 a0 a1 a2 a3 b0 b1 b2 b3 HS ZA ZB
  obtain ⟨a0, a1, a2, a3, _, _, _⟩ := YA.out
  obtain ⟨b0, b1, b2, b3, _, _, _⟩ := YB.out
  obtain ⟨r0, r1, r2, r3, _, _, _⟩ := YR.out
  go_wp2_with fail
  refine Calls.mono (HA.out _) ?_
  rintro e w5 ⟨rfl, hb5⟩
  have XB := hide_it ((YB.out.alloc _).keep hb5 (by simp; omega))
  have XR := hide_it ((YR.out.alloc _).keep hb5 (by simp; omega))
  have XS := hide_it ((box_new w4 _ _ _ _).keep hb5 (by simp))
  have B5 := hide_it (below_step B4.out hb5)
  clear hb5 B4 a0 a1 a2 a3 b0 b1 b2 b3 r0 r1 r2 r3 HA YA YB YR
  obtain ⟨b0, b1, b2, b3, _, _, _⟩ := XB.out
  obtain ⟨r0, r1, r2, r3, _, _, _⟩ := XR.out
  go_wp2_with fail
  refine Calls.mono (HB.out _) ?_
  rintro e w6 ⟨rfl, hb6⟩
  have ZR := hide_it (XR.out.keep hb6 r0)
  have ZS := hide_it (XS.out.keep hb6 XS.out.1)
  have B6 := hide_it (B5.out.trans (hb6.mono B5.out.size))
  clear hb6 B5 b0 b1 b2 b3 r0 r1 r2 r3 HB XB XR XS
  obtain ⟨r0, r1, r2, r3, _, _, _⟩ := ZR.out
  obtain ⟨s0, s1, s2, s3, _, _, _⟩ := ZS.out
  go_wp2_with fail
  refine Calls.mono (HE.out _) ?_
  rintro e w7 ⟨rfl, hb7⟩
  have B7 := hide_it (B6.out.trans (hb7.mono B6.out.size))
  clear hb7 B6
  go_wp2
  go_ret
  exact ⟨rfl, B7.out⟩

set_option maxHeartbeats 2000000 in
theorem sym_snd1 (x y v1 e1 v2 e2 : Int) (hv : (v2 == v1) = false)
    (HX : Hid (∀ W, Calls Yba.prog 5 #[.int .i64 x] W fun e w' => e = .returned (.agg #[.int .u64 v1, .int .i64 e1, .pointer none]) ∧ Below W.heap.size W w'))
    (HY : Hid (∀ W, Calls Yba.prog 5 #[.int .i64 y] W fun e w' => e = .returned (.agg #[.int .u64 v2, .int .i64 e2, .pointer none]) ∧ Below W.heap.size W w'))
    (HR : Hid (∀ W, Calls Yba.prog 6 #[.agg #[.int .u64 v1, .int .i64 e1, .pointer none], .agg #[.int .u64 v2, .int .i64 e2, .pointer none]] W fun e w' => e = .returned (.agg #[.int .u64 v2, .int .i64 e2, .pointer none]) ∧ Below W.heap.size W w'))
    (HS : Hid (∀ W, Calls Yba.prog 6 #[.agg #[.int .u64 v2, .int .i64 e2, .pointer none], .agg #[.int .u64 v1, .int .i64 e1, .pointer none]] W fun e w' => e = .returned (.agg #[.int .u64 v2, .int .i64 e2, .pointer none]) ∧ Below W.heap.size W w'))
    (HA : Hid (∀ W, Calls Yba.prog 7 #[.agg #[.int .u64 v2, .int .i64 e2, .pointer none], .agg #[.int .u64 v1, .int .i64 e1, .pointer none]] W fun e w' => e = .returned (.bool false) ∧ Below W.heap.size W w'))
    (HB : Hid (∀ W, Calls Yba.prog 7 #[.agg #[.int .u64 v2, .int .i64 e2, .pointer none], .agg #[.int .u64 v2, .int .i64 e2, .pointer none]] W fun e w' => e = .returned (.bool false) ∧ Below W.heap.size W w'))
    (HE : Hid (∀ W, Calls Yba.prog 8 #[.agg #[.int .u64 v2, .int .i64 e2, .pointer none], .agg #[.int .u64 v2, .int .i64 e2, .pointer none]] W fun e w' => e = .returned (.bool true) ∧ Below W.heap.size W w')) (w : World) :
    Calls Yba.prog 4 #[.int .i64 x, .int .i64 y] w fun e w' => e = .returned (.bool true) ∧ Below w.heap.size w w' := by
  have ne := nil_eq
  go_enter Yba.func4, Yba.ntmps4
  go_wp2_with fail
  refine Calls.mono (HX.out _) ?_
  rintro e w1 ⟨rfl, hb1⟩
  have B1 := hide_it hb1
  clear hb1 HX
  go_wp2_with fail
  refine Calls.mono (HY.out _) ?_
  rintro e w2 ⟨rfl, hb2⟩
  have XA := hide_it ((box_new w1 _ _ _ _).keep hb2 (by simp))
  have B2 := hide_it (below_step B1.out hb2)
  clear hb2 B1 HY
  obtain ⟨a0, a1, a2, a3, _, _, _⟩ := XA.out
  go_wp2_with fail
  refine Calls.mono (HR.out _) ?_
  rintro e w3 ⟨rfl, hb3⟩
  have ZA := hide_it ((XA.out.alloc _).keep hb3 (by simp; omega))
  have ZB := hide_it ((box_new w2 _ _ _ _).keep hb3 (by simp))
  have B3 := hide_it (below_step B2.out hb3)
  clear hb3 B2 a0 a1 a2 a3 HR XA
  obtain ⟨a0, a1, a2, a3, _, _, _⟩ := ZA.out
  obtain ⟨b0, b1, b2, b3, _, _, _⟩ := ZB.out
  go_wp2_with fail
  refine Calls.mono (HS.out _) ?_
  rintro e w4 ⟨rfl, hb4⟩
  have YA := hide_it ((ZA.out.alloc _).keep hb4 (by simp; omega))
  have YB := hide_it ((ZB.out.alloc _).keep hb4 (by simp; omega))
  have YR := hide_it ((box_new w3 _ _ _ _).keep hb4 (by simp))
  have B4 := hide_it (below_step B3.out hb4)
  clear hb4 B3 a0 a1 a2 a3 b0 b1 b2 b3 HS ZA ZB
  obtain ⟨a0, a1, a2, a3, _, _, _⟩ := YA.out
  obtain ⟨b0, b1, b2, b3, _, _, _⟩ := YB.out
  obtain ⟨r0, r1, r2, r3, _, _, _⟩ := YR.out
  go_wp2_with fail
  refine Calls.mono (HA.out _) ?_
  rintro e w5 ⟨rfl, hb5⟩
  have XB := hide_it ((YB.out.alloc _).keep hb5 (by simp; omega))
  have XR := hide_it ((YR.out.alloc _).keep hb5 (by simp; omega))
  have XS := hide_it ((box_new w4 _ _ _ _).keep hb5 (by simp))
  have B5 := hide_it (below_step B4.out hb5)
  clear hb5 B4 a0 a1 a2 a3 b0 b1 b2 b3 r0 r1 r2 r3 HA YA YB YR
  obtain ⟨b0, b1, b2, b3, _, _, _⟩ := XB.out
  obtain ⟨r0, r1, r2, r3, _, _, _⟩ := XR.out
  go_wp2_with fail
  refine Calls.mono (HB.out _) ?_
  rintro e w6 ⟨rfl, hb6⟩
  have ZR := hide_it (XR.out.keep hb6 r0)
  have ZS := hide_it (XS.out.keep hb6 XS.out.1)
  have B6 := hide_it (B5.out.trans (hb6.mono B5.out.size))
  clear hb6 B5 b0 b1 b2 b3 r0 r1 r2 r3 HB XB XR XS
  obtain ⟨r0, r1, r2, r3, _, _, _⟩ := ZR.out
  obtain ⟨s0, s1, s2, s3, _, _, _⟩ := ZS.out
  go_wp2_with fail
  refine Calls.mono (HE.out _) ?_
  rintro e w7 ⟨rfl, hb7⟩
  have B7 := hide_it (B6.out.trans (hb7.mono B6.out.size))
  clear hb7 B6
  go_wp2
  go_ret
  exact ⟨rfl, B7.out⟩

set_option maxHeartbeats 2000000 in
theorem sym_snd2 (x y v1 e1 e2 : Int) (he : (e2 == e1) = false)
    (HX : Hid (∀ W, Calls Yba.prog 5 #[.int .i64 x] W fun e w' => e = .returned (.agg #[.int .u64 v1, .int .i64 e1, .pointer none]) ∧ Below W.heap.size W w'))
    (HY : Hid (∀ W, Calls Yba.prog 5 #[.int .i64 y] W fun e w' => e = .returned (.agg #[.int .u64 v1, .int .i64 e2, .pointer none]) ∧ Below W.heap.size W w'))
    (HR : Hid (∀ W, Calls Yba.prog 6 #[.agg #[.int .u64 v1, .int .i64 e1, .pointer none], .agg #[.int .u64 v1, .int .i64 e2, .pointer none]] W fun e w' => e = .returned (.agg #[.int .u64 v1, .int .i64 e2, .pointer none]) ∧ Below W.heap.size W w'))
    (HS : Hid (∀ W, Calls Yba.prog 6 #[.agg #[.int .u64 v1, .int .i64 e2, .pointer none], .agg #[.int .u64 v1, .int .i64 e1, .pointer none]] W fun e w' => e = .returned (.agg #[.int .u64 v1, .int .i64 e2, .pointer none]) ∧ Below W.heap.size W w'))
    (HA : Hid (∀ W, Calls Yba.prog 7 #[.agg #[.int .u64 v1, .int .i64 e2, .pointer none], .agg #[.int .u64 v1, .int .i64 e1, .pointer none]] W fun e w' => e = .returned (.bool false) ∧ Below W.heap.size W w'))
    (HB : Hid (∀ W, Calls Yba.prog 7 #[.agg #[.int .u64 v1, .int .i64 e2, .pointer none], .agg #[.int .u64 v1, .int .i64 e2, .pointer none]] W fun e w' => e = .returned (.bool false) ∧ Below W.heap.size W w'))
    (HE : Hid (∀ W, Calls Yba.prog 8 #[.agg #[.int .u64 v1, .int .i64 e2, .pointer none], .agg #[.int .u64 v1, .int .i64 e2, .pointer none]] W fun e w' => e = .returned (.bool true) ∧ Below W.heap.size W w')) (w : World) :
    Calls Yba.prog 4 #[.int .i64 x, .int .i64 y] w fun e w' => e = .returned (.bool true) ∧ Below w.heap.size w w' := by
  have ne := nil_eq
  go_enter Yba.func4, Yba.ntmps4
  go_wp2_with fail
  refine Calls.mono (HX.out _) ?_
  rintro e w1 ⟨rfl, hb1⟩
  have B1 := hide_it hb1
  clear hb1 HX
  go_wp2_with fail
  refine Calls.mono (HY.out _) ?_
  rintro e w2 ⟨rfl, hb2⟩
  have XA := hide_it ((box_new w1 _ _ _ _).keep hb2 (by simp))
  have B2 := hide_it (below_step B1.out hb2)
  clear hb2 B1 HY
  obtain ⟨a0, a1, a2, a3, _, _, _⟩ := XA.out
  go_wp2_with fail
  refine Calls.mono (HR.out _) ?_
  rintro e w3 ⟨rfl, hb3⟩
  have ZA := hide_it ((XA.out.alloc _).keep hb3 (by simp; omega))
  have ZB := hide_it ((box_new w2 _ _ _ _).keep hb3 (by simp))
  have B3 := hide_it (below_step B2.out hb3)
  clear hb3 B2 a0 a1 a2 a3 HR XA
  obtain ⟨a0, a1, a2, a3, _, _, _⟩ := ZA.out
  obtain ⟨b0, b1, b2, b3, _, _, _⟩ := ZB.out
  go_wp2_with fail
  refine Calls.mono (HS.out _) ?_
  rintro e w4 ⟨rfl, hb4⟩
  have YA := hide_it ((ZA.out.alloc _).keep hb4 (by simp; omega))
  have YB := hide_it ((ZB.out.alloc _).keep hb4 (by simp; omega))
  have YR := hide_it ((box_new w3 _ _ _ _).keep hb4 (by simp))
  have B4 := hide_it (below_step B3.out hb4)
  clear hb4 B3 a0 a1 a2 a3 b0 b1 b2 b3 HS ZA ZB
  obtain ⟨a0, a1, a2, a3, _, _, _⟩ := YA.out
  obtain ⟨b0, b1, b2, b3, _, _, _⟩ := YB.out
  obtain ⟨r0, r1, r2, r3, _, _, _⟩ := YR.out
  go_wp2_with fail
  refine Calls.mono (HA.out _) ?_
  rintro e w5 ⟨rfl, hb5⟩
  have XB := hide_it ((YB.out.alloc _).keep hb5 (by simp; omega))
  have XR := hide_it ((YR.out.alloc _).keep hb5 (by simp; omega))
  have XS := hide_it ((box_new w4 _ _ _ _).keep hb5 (by simp))
  have B5 := hide_it (below_step B4.out hb5)
  clear hb5 B4 a0 a1 a2 a3 b0 b1 b2 b3 r0 r1 r2 r3 HA YA YB YR
  obtain ⟨b0, b1, b2, b3, _, _, _⟩ := XB.out
  obtain ⟨r0, r1, r2, r3, _, _, _⟩ := XR.out
  go_wp2_with fail
  refine Calls.mono (HB.out _) ?_
  rintro e w6 ⟨rfl, hb6⟩
  have ZR := hide_it (XR.out.keep hb6 r0)
  have ZS := hide_it (XS.out.keep hb6 XS.out.1)
  have B6 := hide_it (B5.out.trans (hb6.mono B5.out.size))
  clear hb6 B5 b0 b1 b2 b3 r0 r1 r2 r3 HB XB XR XS
  obtain ⟨r0, r1, r2, r3, _, _, _⟩ := ZR.out
  obtain ⟨s0, s1, s2, s3, _, _, _⟩ := ZS.out
  go_wp2_with fail
  refine Calls.mono (HE.out _) ?_
  rintro e w7 ⟨rfl, hb7⟩
  have B7 := hide_it (B6.out.trans (hb7.mono B6.out.size))
  clear hb7 B6
  go_wp2
  go_ret
  exact ⟨rfl, B7.out⟩

set_option maxHeartbeats 2000000 in
theorem sym_one (x y v1 e1 : Int)
    (HX : Hid (∀ W, Calls Yba.prog 5 #[.int .i64 x] W fun e w' => e = .returned (.agg #[.int .u64 v1, .int .i64 e1, .pointer none]) ∧ Below W.heap.size W w'))
    (HY : Hid (∀ W, Calls Yba.prog 5 #[.int .i64 y] W fun e w' => e = .returned (.agg #[.int .u64 v1, .int .i64 e1, .pointer none]) ∧ Below W.heap.size W w'))
    (HR : Hid (∀ W, Calls Yba.prog 6 #[.agg #[.int .u64 v1, .int .i64 e1, .pointer none], .agg #[.int .u64 v1, .int .i64 e1, .pointer none]] W fun e w' => e = .returned (.agg #[.int .u64 v1, .int .i64 e1, .pointer none]) ∧ Below W.heap.size W w'))
    (HS : Hid (∀ W, Calls Yba.prog 6 #[.agg #[.int .u64 v1, .int .i64 e1, .pointer none], .agg #[.int .u64 v1, .int .i64 e1, .pointer none]] W fun e w' => e = .returned (.agg #[.int .u64 v1, .int .i64 e1, .pointer none]) ∧ Below W.heap.size W w'))
    (HA : Hid (∀ W, Calls Yba.prog 7 #[.agg #[.int .u64 v1, .int .i64 e1, .pointer none], .agg #[.int .u64 v1, .int .i64 e1, .pointer none]] W fun e w' => e = .returned (.bool false) ∧ Below W.heap.size W w'))
    (HB : Hid (∀ W, Calls Yba.prog 7 #[.agg #[.int .u64 v1, .int .i64 e1, .pointer none], .agg #[.int .u64 v1, .int .i64 e1, .pointer none]] W fun e w' => e = .returned (.bool false) ∧ Below W.heap.size W w'))
    (HE : Hid (∀ W, Calls Yba.prog 8 #[.agg #[.int .u64 v1, .int .i64 e1, .pointer none], .agg #[.int .u64 v1, .int .i64 e1, .pointer none]] W fun e w' => e = .returned (.bool true) ∧ Below W.heap.size W w')) (w : World) :
    Calls Yba.prog 4 #[.int .i64 x, .int .i64 y] w fun e w' => e = .returned (.bool true) ∧ Below w.heap.size w w' := by
  have ne := nil_eq
  go_enter Yba.func4, Yba.ntmps4
  go_wp2_with fail
  refine Calls.mono (HX.out _) ?_
  rintro e w1 ⟨rfl, hb1⟩
  have B1 := hide_it hb1
  clear hb1 HX
  go_wp2_with fail
  refine Calls.mono (HY.out _) ?_
  rintro e w2 ⟨rfl, hb2⟩
  have XA := hide_it ((box_new w1 _ _ _ _).keep hb2 (by simp))
  have B2 := hide_it (below_step B1.out hb2)
  clear hb2 B1 HY
  obtain ⟨a0, a1, a2, a3, _, _, _⟩ := XA.out
  go_wp2_with fail
  refine Calls.mono (HR.out _) ?_
  rintro e w3 ⟨rfl, hb3⟩
  have ZA := hide_it ((XA.out.alloc _).keep hb3 (by simp; omega))
  have ZB := hide_it ((box_new w2 _ _ _ _).keep hb3 (by simp))
  have B3 := hide_it (below_step B2.out hb3)
  clear hb3 B2 a0 a1 a2 a3 HR XA
  obtain ⟨a0, a1, a2, a3, _, _, _⟩ := ZA.out
  obtain ⟨b0, b1, b2, b3, _, _, _⟩ := ZB.out
  go_wp2_with fail
  refine Calls.mono (HS.out _) ?_
  rintro e w4 ⟨rfl, hb4⟩
  have YA := hide_it ((ZA.out.alloc _).keep hb4 (by simp; omega))
  have YB := hide_it ((ZB.out.alloc _).keep hb4 (by simp; omega))
  have YR := hide_it ((box_new w3 _ _ _ _).keep hb4 (by simp))
  have B4 := hide_it (below_step B3.out hb4)
  clear hb4 B3 a0 a1 a2 a3 b0 b1 b2 b3 HS ZA ZB
  obtain ⟨a0, a1, a2, a3, _, _, _⟩ := YA.out
  obtain ⟨b0, b1, b2, b3, _, _, _⟩ := YB.out
  obtain ⟨r0, r1, r2, r3, _, _, _⟩ := YR.out
  go_wp2_with fail
  refine Calls.mono (HA.out _) ?_
  rintro e w5 ⟨rfl, hb5⟩
  have XB := hide_it ((YB.out.alloc _).keep hb5 (by simp; omega))
  have XR := hide_it ((YR.out.alloc _).keep hb5 (by simp; omega))
  have XS := hide_it ((box_new w4 _ _ _ _).keep hb5 (by simp))
  have B5 := hide_it (below_step B4.out hb5)
  clear hb5 B4 a0 a1 a2 a3 b0 b1 b2 b3 r0 r1 r2 r3 HA YA YB YR
  obtain ⟨b0, b1, b2, b3, _, _, _⟩ := XB.out
  obtain ⟨r0, r1, r2, r3, _, _, _⟩ := XR.out
  go_wp2_with fail
  refine Calls.mono (HB.out _) ?_
  rintro e w6 ⟨rfl, hb6⟩
  have ZR := hide_it (XR.out.keep hb6 r0)
  have ZS := hide_it (XS.out.keep hb6 XS.out.1)
  have B6 := hide_it (B5.out.trans (hb6.mono B5.out.size))
  clear hb6 B5 b0 b1 b2 b3 r0 r1 r2 r3 HB XB XR XS
  obtain ⟨r0, r1, r2, r3, _, _, _⟩ := ZR.out
  obtain ⟨s0, s1, s2, s3, _, _, _⟩ := ZS.out
  go_wp2_with fail
  refine Calls.mono (HE.out _) ?_
  rintro e w7 ⟨rfl, hb7⟩
  have B7 := hide_it (B6.out.trans (hb7.mono B6.out.size))
  clear hb7 B6
  go_wp2
  go_ret
  exact ⟨rfl, B7.out⟩

theorem sym_walk (x y : Int) (x0 : -9223372036854775808 ≤ x) (x1 : x ≤ 9223372036854775807) (y0 : -9223372036854775808 ≤ y) (y1 : y ≤ 9223372036854775807) (w : World) :
    Calls Yba.prog 4 #[.int .i64 x, .int .i64 y] w fun e w' => e = .returned (.bool true) ∧ Below w.heap.size w w' := by
  by_cases h : x < y
  · exact sym_fst x y _ _ _ _ (fun W => at_any x x0 x1 W) (fun W => at_any y y0 y1 W) (fun W => earliest_lt x y h W) (fun W => earliest_ge y x (by omega) W) (fun W => after_no x x (Int.le_refl _) W) (fun W => after_no x y (by omega) W) (fun W => equal_yes x W) w
  by_cases h2 : y < x
  · have HX := fun W => at_any x x0 x1 W
    have HY := fun W => at_any y y0 y1 W
    have HR := fun W => earliest_ge x y (by omega) W
    have HS := fun W => earliest_lt y x h2 W
    have HA := fun W => after_no y x (by omega) W
    have HB := fun W => after_no y y (Int.le_refl _) W
    have HE := fun W => equal_yes y W
    unfold tm at HR HS HA HB HE
    by_cases c : y % 1000000000 = x % 1000000000
    · have he : (y / 1000000000 == x / 1000000000) = false := by
        rw [beq_eq_false_iff_ne]
        omega
      rw [c] at HY HR HS HA HB HE
      exact sym_snd2 x y _ _ _ he HX HY HR HS HA HB HE w
    · exact sym_snd1 x y _ _ _ _ (beq_eq_false_iff_ne.2 c) HX HY HR HS HA HB HE w
  · obtain rfl : x = y := by omega
    exact sym_one x x _ _ (fun W => at_any x x0 x1 W) (fun W => at_any x x0 x1 W) (fun W => earliest_ge x x (Int.le_refl _) W) (fun W => earliest_ge x x (Int.le_refl _) W) (fun W => after_no x x (Int.le_refl _) W) (fun W => after_no x x (Int.le_refl _) W) (fun W => equal_yes x W) w
end Go.Proofs.Ybulkanhy
