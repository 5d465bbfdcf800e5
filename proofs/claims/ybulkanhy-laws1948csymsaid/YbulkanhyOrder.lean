import Derived.Test.YbulkanhyAdd
namespace Go.Proofs.Ybulkanhy
open Go.RowKit

theorem ret_bool {a b : Bool} (h : a = b) : Ending.returned (.bool a) = .returned (.bool b) := by rw [h]

set_option maxHeartbeats 1000000 in
theorem before_lt (v1 e1 v2 e2 : Int) (a0 : 0 ≤ v1) (a1 : v1 < 1073741824) (b0 : 0 ≤ v2) (b1 : v2 < 1073741824) (he : e1 < e2) (w : World) :
    Calls Yba.prog 10 #[.agg #[.int .u64 v1, .int .i64 e1, .pointer none], .agg #[.int .u64 v2, .int .i64 e2, .pointer none]] w fun e w' => e = .returned (.bool true) ∧ Below w.heap.size w w' := by
  have k := and_two v1 v2 a0 a1 b0 b1
  go_enter Yba.func10, Yba.ntmps10
  go_wp2_with fail
  refine (sec_any w.heap.size v1 e1 a0 a1 _ ?_ ?_).mono ?_
  · go_simp
  · go_simp
  rintro e w1 ⟨rfl, rfl⟩
  go_wp2_with fail
  refine (sec_any (w.heap.size + 1) v2 e2 b0 b1 _ ?_ ?_).mono ?_
  · go_simp
  · go_simp
  rintro e w1 ⟨rfl, rfl⟩
  go_wp2
  go_ret
  exact ⟨rfl, ((Below.refl _ _).alloc (Nat.le_refl _) _).alloc (by simp) _⟩

set_option maxHeartbeats 1000000 in
theorem before_gt (v1 e1 v2 e2 : Int) (a0 : 0 ≤ v1) (a1 : v1 < 1073741824) (b0 : 0 ≤ v2) (b1 : v2 < 1073741824) (he : e2 < e1) (w : World) :
    Calls Yba.prog 10 #[.agg #[.int .u64 v1, .int .i64 e1, .pointer none], .agg #[.int .u64 v2, .int .i64 e2, .pointer none]] w fun e w' => e = .returned (.bool false) ∧ Below w.heap.size w w' := by
  have k := and_two v1 v2 a0 a1 b0 b1
  have k1 : (e1 == e2) = false := by simp; omega
  go_enter Yba.func10, Yba.ntmps10
  go_wp2_with fail
  refine (sec_any w.heap.size v1 e1 a0 a1 _ ?_ ?_).mono ?_
  · go_simp
  · go_simp
  rintro e w1 ⟨rfl, rfl⟩
  go_wp2_with fail
  refine (sec_any (w.heap.size + 1) v2 e2 b0 b1 _ ?_ ?_).mono ?_
  · go_simp
  · go_simp
  rintro e w1 ⟨rfl, rfl⟩
  go_wp2
  go_ret
  exact ⟨ret_bool (decide_eq_false (by omega)), ((Below.refl _ _).alloc (Nat.le_refl _) _).alloc (by simp) _⟩

set_option maxHeartbeats 1000000 in
theorem before_eq (v1 e1 v2 : Int) (a0 : 0 ≤ v1) (a1 : v1 < 1073741824) (b0 : 0 ≤ v2) (b1 : v2 < 1073741824) (w : World) :
    Calls Yba.prog 10 #[.agg #[.int .u64 v1, .int .i64 e1, .pointer none], .agg #[.int .u64 v2, .int .i64 e1, .pointer none]] w fun e w' => e = .returned (.bool (decide (v1 < v2))) ∧ Below w.heap.size w w' := by
  have k := and_two v1 v2 a0 a1 b0 b1
  go_enter Yba.func10, Yba.ntmps10
  go_wp2_with fail
  refine (sec_any w.heap.size v1 e1 a0 a1 _ ?_ ?_).mono ?_
  · go_simp
  · go_simp
  rintro e w1 ⟨rfl, rfl⟩
  go_wp2_with fail
  refine (sec_any (w.heap.size + 1) v2 e1 b0 b1 _ ?_ ?_).mono ?_
  · go_simp
  · go_simp
  rintro e w1 ⟨rfl, rfl⟩
  go_wp2_with fail
  refine (nsec_any w.heap.size v1 a0 a1 _ ?_).mono ?_
  · go_simp
  rintro e w1 ⟨rfl, rfl⟩
  go_wp2_with fail
  refine (nsec_any (w.heap.size + 1) v2 b0 b1 _ ?_).mono ?_
  · go_simp
  rintro e w1 ⟨rfl, rfl⟩
  go_wp2
  go_ret
  exact ⟨rfl, ((Below.refl _ _).alloc (Nat.le_refl _) _).alloc (by simp) _⟩

set_option maxHeartbeats 1000000 in
theorem after_lt (v1 e1 v2 e2 : Int) (a0 : 0 ≤ v1) (a1 : v1 < 1073741824) (b0 : 0 ≤ v2) (b1 : v2 < 1073741824) (he : e1 < e2) (w : World) :
    Calls Yba.prog 7 #[.agg #[.int .u64 v1, .int .i64 e1, .pointer none], .agg #[.int .u64 v2, .int .i64 e2, .pointer none]] w fun e w' => e = .returned (.bool false) ∧ Below w.heap.size w w' := by
  have k := and_two v1 v2 a0 a1 b0 b1
  have k1 : (e1 == e2) = false := by simp; omega
  go_enter Yba.func7, Yba.ntmps7
  go_wp2_with fail
  refine (sec_any w.heap.size v1 e1 a0 a1 _ ?_ ?_).mono ?_
  · go_simp
  · go_simp
  rintro e w1 ⟨rfl, rfl⟩
  go_wp2_with fail
  refine (sec_any (w.heap.size + 1) v2 e2 b0 b1 _ ?_ ?_).mono ?_
  · go_simp
  · go_simp
  rintro e w1 ⟨rfl, rfl⟩
  go_wp2
  go_ret
  exact ⟨ret_bool (decide_eq_false (by omega)), ((Below.refl _ _).alloc (Nat.le_refl _) _).alloc (by simp) _⟩

set_option maxHeartbeats 1000000 in
theorem after_eq (v1 e1 v2 : Int) (a0 : 0 ≤ v1) (a1 : v1 < 1073741824) (b0 : 0 ≤ v2) (b1 : v2 < 1073741824) (hv : v1 ≤ v2) (w : World) :
    Calls Yba.prog 7 #[.agg #[.int .u64 v1, .int .i64 e1, .pointer none], .agg #[.int .u64 v2, .int .i64 e1, .pointer none]] w fun e w' => e = .returned (.bool false) ∧ Below w.heap.size w w' := by
  have k := and_two v1 v2 a0 a1 b0 b1
  go_enter Yba.func7, Yba.ntmps7
  go_wp2_with fail
  refine (sec_any w.heap.size v1 e1 a0 a1 _ ?_ ?_).mono ?_
  · go_simp
  · go_simp
  rintro e w1 ⟨rfl, rfl⟩
  go_wp2_with fail
  refine (sec_any (w.heap.size + 1) v2 e1 b0 b1 _ ?_ ?_).mono ?_
  · go_simp
  · go_simp
  rintro e w1 ⟨rfl, rfl⟩
  go_wp2_with fail
  refine (nsec_any w.heap.size v1 a0 a1 _ ?_).mono ?_
  · go_simp
  rintro e w1 ⟨rfl, rfl⟩
  go_wp2_with fail
  refine (nsec_any (w.heap.size + 1) v2 b0 b1 _ ?_).mono ?_
  · go_simp
  rintro e w1 ⟨rfl, rfl⟩
  go_wp2
  go_ret
  exact ⟨ret_bool (decide_eq_false (by omega)), ((Below.refl _ _).alloc (Nat.le_refl _) _).alloc (by simp) _⟩

set_option maxHeartbeats 1000000 in
theorem equal_same (v1 e1 : Int) (a0 : 0 ≤ v1) (a1 : v1 < 1073741824) (w : World) :
    Calls Yba.prog 8 #[.agg #[.int .u64 v1, .int .i64 e1, .pointer none], .agg #[.int .u64 v1, .int .i64 e1, .pointer none]] w fun e w' => e = .returned (.bool true) ∧ Below w.heap.size w w' := by
  have k := and_two v1 v1 a0 a1 a0 a1
  go_enter Yba.func8, Yba.ntmps8
  go_wp2_with fail
  refine (sec_any w.heap.size v1 e1 a0 a1 _ ?_ ?_).mono ?_
  · go_simp
  · go_simp
  rintro e w1 ⟨rfl, rfl⟩
  go_wp2_with fail
  refine (sec_any (w.heap.size + 1) v1 e1 a0 a1 _ ?_ ?_).mono ?_
  · go_simp
  · go_simp
  rintro e w1 ⟨rfl, rfl⟩
  go_wp2_with fail
  refine (nsec_any w.heap.size v1 a0 a1 _ ?_).mono ?_
  · go_simp
  rintro e w1 ⟨rfl, rfl⟩
  go_wp2_with fail
  refine (nsec_any (w.heap.size + 1) v1 a0 a1 _ ?_).mono ?_
  · go_simp
  rintro e w1 ⟨rfl, rfl⟩
  go_wp2
  go_ret
  exact ⟨rfl, ((Below.refl _ _).alloc (Nat.le_refl _) _).alloc (by simp) _⟩
end Go.Proofs.Ybulkanhy
