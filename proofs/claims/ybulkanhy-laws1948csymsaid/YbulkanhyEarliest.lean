import Derived.Test.YbulkanhyOrder
namespace Go.Proofs.Ybulkanhy
open Go.RowKit

/-- The three blocks that 'earliest' makes, in the world behind 'Before'. -/
theorem three_boxes {w w1 : World} {x1 y1 z1 x2 y2 z2 x3 y3 z3 : Value} {t1 t2 t3 : TypeId}
    (hb : Below (((w.alloc (.cells #[x1, y1, z1] t1)).alloc (.cells #[x2, y2, z2] t2)).alloc (.cells #[x3, y3, z3] t3)).heap.size (((w.alloc (.cells #[x1, y1, z1] t1)).alloc (.cells #[x2, y2, z2] t2)).alloc (.cells #[x3, y3, z3] t3)) w1) :
    Box w1 w.heap.size x1 y1 z1 ∧ Box w1 (w.heap.size + 1) x2 y2 z2 ∧ Box w1 (w.heap.size + 2) x3 y3 z3 ∧ Below w.heap.size w w1 := by
  have s1 : (w.alloc (.cells #[x1, y1, z1] t1)).heap.size = w.heap.size + 1 := by simp
  have s2 : ((w.alloc (.cells #[x1, y1, z1] t1)).alloc (.cells #[x2, y2, z2] t2)).heap.size = w.heap.size + 2 := by simp
  refine ⟨(((box_new w x1 y1 z1 t1).alloc _).alloc _).keep hb (by simp <;> omega), ?_, ?_, ?_⟩
  · have h := ((box_new (w.alloc (.cells #[x1, y1, z1] t1)) x2 y2 z2 t2).alloc (.cells #[x3, y3, z3] t3)).keep hb (by simp <;> omega)
    rw [s1] at h
    exact h
  · have h := (box_new ((w.alloc (.cells #[x1, y1, z1] t1)).alloc (.cells #[x2, y2, z2] t2)) x3 y3 z3 t3).keep hb (by simp)
    rw [s2] at h
    exact h
  · exact ((((Below.refl _ w).alloc (Nat.le_refl _) _).alloc (by simp) _).alloc (by simp <;> omega) _).trans (hb.mono (by simp <;> omega))

set_option maxHeartbeats 1000000 in
theorem earliest_fst (v1 e1 v2 e2 : Int) (HC : Hid (∀ W, Calls Yba.prog 10 #[.agg #[.int .u64 v1, .int .i64 e1, .pointer none], .agg #[.int .u64 v2, .int .i64 e2, .pointer none]] W fun e w' => e = .returned (.bool true) ∧ Below W.heap.size W w')) (w : World) :
    Calls Yba.prog 6 #[.agg #[.int .u64 v1, .int .i64 e1, .pointer none], .agg #[.int .u64 v2, .int .i64 e2, .pointer none]] w fun e w' => e = .returned (.agg #[.int .u64 v1, .int .i64 e1, .pointer none]) ∧ Below w.heap.size w w' := by
  go_enter Yba.func6, Yba.ntmps6
  go_wp2_with fail
  refine Calls.mono (HC.out _) ?_
  rintro e w1 ⟨rfl, hb⟩
  obtain ⟨⟨_, a1, a2, a3, _, _, _⟩, ⟨_, b1, b2, b3, _, _, _⟩, ⟨c0, c1, c2, c3, c4, c5, c6⟩, bel⟩ := three_boxes hb
  have HB := hide_it bel
  clear hb bel HC
  go_wp2
  refine bodyPost_ret (v := .agg #[.int .u64 v1, .int .i64 e1, .pointer none]) (by simp [results, Yba.results6, go_sem, c1, c2, c3]) rfl ⟨rfl, ?_⟩
  exact ((HB.out.setCell (by simp <;> omega) _).setCell (by simp <;> omega) _).setCell (by simp <;> omega) _

set_option maxHeartbeats 1000000 in
theorem earliest_snd (v1 e1 v2 e2 : Int) (HC : Hid (∀ W, Calls Yba.prog 10 #[.agg #[.int .u64 v1, .int .i64 e1, .pointer none], .agg #[.int .u64 v2, .int .i64 e2, .pointer none]] W fun e w' => e = .returned (.bool false) ∧ Below W.heap.size W w')) (w : World) :
    Calls Yba.prog 6 #[.agg #[.int .u64 v1, .int .i64 e1, .pointer none], .agg #[.int .u64 v2, .int .i64 e2, .pointer none]] w fun e w' => e = .returned (.agg #[.int .u64 v2, .int .i64 e2, .pointer none]) ∧ Below w.heap.size w w' := by
  go_enter Yba.func6, Yba.ntmps6
  go_wp2_with fail
  refine Calls.mono (HC.out _) ?_
  rintro e w1 ⟨rfl, hb⟩
  obtain ⟨⟨_, a1, a2, a3, _, _, _⟩, ⟨_, b1, b2, b3, _, _, _⟩, ⟨c0, c1, c2, c3, c4, c5, c6⟩, bel⟩ := three_boxes hb
  have HB := hide_it bel
  clear hb bel HC
  go_wp2
  refine bodyPost_ret (v := .agg #[.int .u64 v2, .int .i64 e2, .pointer none]) (by simp [results, Yba.results6, go_sem, c1, c2, c3]) rfl ⟨rfl, ?_⟩
  exact ((HB.out.setCell (by simp <;> omega) _).setCell (by simp <;> omega) _).setCell (by simp <;> omega) _

/-! ### The same, over offsets -/
theorem rem_bd (n : Int) : 0 ≤ n % 1000000000 ∧ n % 1000000000 < 1073741824 := by omega

/-- The time at offset n. -/
def tm (n : Int) : Value := .agg #[.int .u64 (n % 1000000000), .int .i64 (n / 1000000000), .pointer none]

theorem before_yes (x y : Int) (h : x < y) (W : World) : Calls Yba.prog 10 #[tm x, tm y] W fun e w' => e = .returned (.bool true) ∧ Below W.heap.size W w' := by
  unfold tm
  by_cases c : x / 1000000000 < y / 1000000000
  · exact before_lt _ _ _ _ (rem_bd x).1 (rem_bd x).2 (rem_bd y).1 (rem_bd y).2 c W
  · have e : x / 1000000000 = y / 1000000000 := by omega
    have b := before_eq (x % 1000000000) (y / 1000000000) (y % 1000000000) (rem_bd x).1 (rem_bd x).2 (rem_bd y).1 (rem_bd y).2 W
    rw [show decide (x % 1000000000 < y % 1000000000) = true from decide_eq_true (by omega)] at b
    rw [e]
    exact b

theorem before_no (x y : Int) (h : y ≤ x) (W : World) : Calls Yba.prog 10 #[tm x, tm y] W fun e w' => e = .returned (.bool false) ∧ Below W.heap.size W w' := by
  unfold tm
  by_cases c : y / 1000000000 < x / 1000000000
  · exact before_gt _ _ _ _ (rem_bd x).1 (rem_bd x).2 (rem_bd y).1 (rem_bd y).2 c W
  · have e : x / 1000000000 = y / 1000000000 := by omega
    have b := before_eq (x % 1000000000) (y / 1000000000) (y % 1000000000) (rem_bd x).1 (rem_bd x).2 (rem_bd y).1 (rem_bd y).2 W
    rw [show decide (x % 1000000000 < y % 1000000000) = false from decide_eq_false (by omega)] at b
    rw [e]
    exact b

theorem after_no (x y : Int) (h : x ≤ y) (W : World) : Calls Yba.prog 7 #[tm x, tm y] W fun e w' => e = .returned (.bool false) ∧ Below W.heap.size W w' := by
  unfold tm
  by_cases c : x / 1000000000 < y / 1000000000
  · exact after_lt _ _ _ _ (rem_bd x).1 (rem_bd x).2 (rem_bd y).1 (rem_bd y).2 c W
  · have e : x / 1000000000 = y / 1000000000 := by omega
    have b := after_eq (x % 1000000000) (y / 1000000000) (y % 1000000000) (rem_bd x).1 (rem_bd x).2 (rem_bd y).1 (rem_bd y).2 (by omega) W
    rw [e]
    exact b

theorem equal_yes (x : Int) (W : World) : Calls Yba.prog 8 #[tm x, tm x] W fun e w' => e = .returned (.bool true) ∧ Below W.heap.size W w' :=
  equal_same _ _ (rem_bd x).1 (rem_bd x).2 W

theorem earliest_lt (x y : Int) (h : x < y) (W : World) : Calls Yba.prog 6 #[tm x, tm y] W fun e w' => e = .returned (tm x) ∧ Below W.heap.size W w' :=
  earliest_fst _ _ _ _ (fun W => before_yes x y h W) W

theorem earliest_ge (x y : Int) (h : y ≤ x) (W : World) : Calls Yba.prog 6 #[tm x, tm y] W fun e w' => e = .returned (tm y) ∧ Below W.heap.size W w' :=
  earliest_snd _ _ _ _ (fun W => before_no x y h W) W
end Go.Proofs.Ybulkanhy
