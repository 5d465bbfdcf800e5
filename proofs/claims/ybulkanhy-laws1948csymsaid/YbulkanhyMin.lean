import Derived.Test.YbulkanhyEarliest
namespace Go.Proofs.Ybulkanhy
open Go.RowKit

theorem below_step {w w1 w2 : World} {o : Obj} (h : Below w.heap.size w w1) (hb : Below (w1.alloc o).heap.size (w1.alloc o) w2) : Below w.heap.size w w2 :=
  (h.alloc h.size o).trans (hb.mono (by have := h.size; simp; omega))

theorem below_drewstep {w w1 w2 : World} {o : Obj} (h : Below w.heap.size w w1) (hb : Below (w1.alloc o).drew.heap.size (w1.alloc o).drew w2) : Below w.heap.size w w2 :=
  ((h.alloc h.size o).drew).trans (hb.mono (by have := h.size; show w.heap.size ≤ (w1.alloc o).heap.size; simp; omega))

/-- '==' of two nil pointers to a Location. -/
theorem nil_eq (w : World) : Sem.run Yba.prog (Op.equalIn 9999 23 (.pointer none) (.pointer none)) w = .ok true w := by kernel_rfl

set_option maxHeartbeats 1000000 in
theorem min_lt (x y v1 e1 v2 e2 : Int) (hlt : x < y)
    (HX : Hid (∀ W, Calls Yba.prog 5 #[.int .i64 x] W fun e w' => e = .returned (.agg #[.int .u64 v1, .int .i64 e1, .pointer none]) ∧ Below W.heap.size W w'))
    (HY : Hid (∀ W, Calls Yba.prog 5 #[.int .i64 y] W fun e w' => e = .returned (.agg #[.int .u64 v2, .int .i64 e2, .pointer none]) ∧ Below W.heap.size W w'))
    (HE : Hid (∀ W, Calls Yba.prog 6 #[.agg #[.int .u64 v1, .int .i64 e1, .pointer none], .agg #[.int .u64 v2, .int .i64 e2, .pointer none]] W fun e w' => e = .returned (.agg #[.int .u64 v1, .int .i64 e1, .pointer none]) ∧ Below W.heap.size W w')) (w : World) :
    Calls Yba.prog 3 #[.int .i64 x, .int .i64 y] w fun e w' => e = .returned (.bool true) ∧ Below w.heap.size w w' := by
  have ne := nil_eq
  go_enter Yba.func3, Yba.ntmps3
  go_wp2_with fail
  refine Calls.mono (HX.out _) ?_
  rintro e w1 ⟨rfl, hb1⟩
  have B1 := hide_it hb1
  clear hb1
  go_wp2_with fail
  refine Calls.mono (HY.out _) ?_
  rintro e w2 ⟨rfl, hb2⟩
  obtain ⟨a0, a1, a2, a3, _, _, _⟩ := (box_new w1 _ _ _ _).keep hb2 (by simp)
  have B2 := hide_it (below_step B1.out hb2)
  clear hb2 B1
  go_wp2_with fail
  refine Calls.mono (HE.out _) ?_
  rintro e w3 ⟨rfl, hb3⟩
  have B3 := hide_it (below_step B2.out hb3)
  clear hb3 B2 a0 a1 a2 a3
  go_wp2
  go_region_with (go_at_call 5; refine Calls.mono (HX.out _) ?_; rintro e w4 ⟨rfl, hb4⟩; obtain ⟨c0, c1, c2, c3, _, _, _⟩ := (box_new w3 _ _ _ _).drew.keep hb4 (by simp); have B4 := hide_it (below_drewstep B3.out hb4); clear hb4)
  all_goals go_wp2
  all_goals go_ret
  all_goals exact ⟨rfl, B4.out⟩
set_option maxHeartbeats 1000000 in
theorem min_ge (x y v1 e1 v2 e2 : Int) (hge : ¬ x < y)
    (HX : Hid (∀ W, Calls Yba.prog 5 #[.int .i64 x] W fun e w' => e = .returned (.agg #[.int .u64 v1, .int .i64 e1, .pointer none]) ∧ Below W.heap.size W w'))
    (HY : Hid (∀ W, Calls Yba.prog 5 #[.int .i64 y] W fun e w' => e = .returned (.agg #[.int .u64 v2, .int .i64 e2, .pointer none]) ∧ Below W.heap.size W w'))
    (HE : Hid (∀ W, Calls Yba.prog 6 #[.agg #[.int .u64 v1, .int .i64 e1, .pointer none], .agg #[.int .u64 v2, .int .i64 e2, .pointer none]] W fun e w' => e = .returned (.agg #[.int .u64 v2, .int .i64 e2, .pointer none]) ∧ Below W.heap.size W w')) (w : World) :
    Calls Yba.prog 3 #[.int .i64 x, .int .i64 y] w fun e w' => e = .returned (.bool true) ∧ Below w.heap.size w w' := by
  have ne := nil_eq
  go_enter Yba.func3, Yba.ntmps3
  go_wp2_with fail
  refine Calls.mono (HX.out _) ?_
  rintro e w1 ⟨rfl, hb1⟩
  have B1 := hide_it hb1
  clear hb1
  go_wp2_with fail
  refine Calls.mono (HY.out _) ?_
  rintro e w2 ⟨rfl, hb2⟩
  obtain ⟨a0, a1, a2, a3, _, _, _⟩ := (box_new w1 _ _ _ _).keep hb2 (by simp)
  have B2 := hide_it (below_step B1.out hb2)
  clear hb2 B1
  go_wp2_with fail
  refine Calls.mono (HE.out _) ?_
  rintro e w3 ⟨rfl, hb3⟩
  have B3 := hide_it (below_step B2.out hb3)
  clear hb3 B2 a0 a1 a2 a3
  go_wp2
  go_region_with (go_at_call 5; refine Calls.mono (HY.out _) ?_; rintro e w4 ⟨rfl, hb4⟩; obtain ⟨c0, c1, c2, c3, _, _, _⟩ := (box_new w3 _ _ _ _).drew.keep hb4 (by simp); have B4 := hide_it (below_drewstep B3.out hb4); clear hb4)
  all_goals go_wp2
  all_goals go_ret
  all_goals exact ⟨rfl, B4.out⟩

theorem min_walk (x y : Int) (x0 : -9223372036854775808 ≤ x) (x1 : x ≤ 9223372036854775807) (y0 : -9223372036854775808 ≤ y) (y1 : y ≤ 9223372036854775807) (w : World) :
    Calls Yba.prog 3 #[.int .i64 x, .int .i64 y] w fun e w' => e = .returned (.bool true) ∧ Below w.heap.size w w' := by
  by_cases h : x < y
  · exact min_lt x y _ _ _ _ h (fun W => at_any x x0 x1 W) (fun W => at_any y y0 y1 W) (fun W => earliest_lt x y h W) w
  · exact min_ge x y _ _ _ _ h (fun W => at_any x x0 x1 W) (fun W => at_any y y0 y1 W) (fun W => earliest_ge x y (by omega) W) w
end Go.Proofs.Ybulkanhy
