import Derived.Test.YbulkanhkParts
import Derived.Deep.RegionWith
namespace Go.Proofs.Ybulkanhk
open Go.RowKit

set_option maxHeartbeats 400000 in
theorem of_pos (s n : Int) (w : World) :
    Calls Yba.prog 7 #[.bool false, .int .i64 s, .int .i32 n] w fun e w' => e = .returned (.agg #[.int .i64 s, .int .i32 n]) ∧ Below w.heap.size w w' := by
  go_enter Yba.func7, Yba.ntmps7
  go_wp2
  exact bodyPost_ret (v := .agg #[.int .i64 s, .int .i32 n]) (by simp [results, Yba.results7, go_sem]) rfl ⟨rfl, (Below.refl _ _).alloc (Nat.le_refl _) _⟩

set_option maxHeartbeats 400000 in
theorem of_neg (s n : Int) (hs : 0 ≤ s) (hl : s ≤ 315537897600) (hn : 0 < n) (hn1 : n < 1000000000) (w : World) :
    Calls Yba.prog 7 #[.bool true, .int .i64 s, .int .i32 n] w fun e w' => e = .returned (.agg #[.int .i64 (-s - 1), .int .i32 (1000000000 - n)]) ∧ Below w.heap.size w w' := by
  go_enter Yba.func7, Yba.ntmps7
  go_wp2
  exact bodyPost_ret (v := .agg #[.int .i64 (-s - 1), .int .i32 (1000000000 - n)]) (by simp [results, Yba.results7, go_sem]) rfl ⟨rfl, (Below.refl _ _).alloc (Nat.le_refl _) _⟩

set_option maxHeartbeats 400000 in
theorem of_neg0 (s : Int) (hs : 0 ≤ s) (hl : s ≤ 315537897600) (w : World) :
    Calls Yba.prog 7 #[.bool true, .int .i64 s, .int .i32 0] w fun e w' => e = .returned (.agg #[.int .i64 (-s), .int .i32 0]) ∧ Below w.heap.size w w' := by
  go_enter Yba.func7, Yba.ntmps7
  go_wp2
  exact bodyPost_ret (v := .agg #[.int .i64 (-s), .int .i32 0]) (by simp [results, Yba.results7, go_sem]) rfl ⟨rfl, (Below.refl _ _).alloc (Nat.le_refl _) _⟩

theorem back_neg (s n : Int) (hs : s < 0) (hl : -315537897600 ≤ s) (hn : 0 < n) (hn1 : n < 1000000000) (w : World) :
    Calls Yba.prog 7 #[.bool true, .int .i64 (-s - 1), .int .i32 (1000000000 - n)] w fun e w' => e = .returned (.agg #[.int .i64 s, .int .i32 n]) ∧ Below w.heap.size w w' := by
  have h := of_neg (-s - 1) (1000000000 - n) (by omega) (by omega) (by omega) (by omega) w
  rw [show -(-s - 1) - 1 = s by omega, show 1000000000 - (1000000000 - n) = n by omega] at h
  exact h

theorem back_neg0 (s : Int) (hs : s < 0) (hl : -315537897600 ≤ s) (w : World) :
    Calls Yba.prog 7 #[.bool true, .int .i64 (-s), .int .i32 0] w fun e w' => e = .returned (.agg #[.int .i64 s, .int .i32 0]) ∧ Below w.heap.size w w' := by
  have h := of_neg0 (-s) (by omega) (by omega) w
  rw [show -(-s) = s by omega] at h
  exact h

theorem below_three {w w1 w2 w3 : World} {o : Obj} (h : Below w.heap.size w w1) (hb : Below (w1.alloc o).heap.size (w1.alloc o) w2) (hc : Below w2.drew.heap.size w2.drew w3) : Below w.heap.size w w3 := by
  have h2 := below_two h hb
  have hs : w2.drew.heap.size = w2.heap.size := rfl
  exact h2.drew.trans (hc.mono (by have := h2.size; omega))

theorem dkeep {W w3 : World} {b : Nat} {x y : Value} (hb : Below W.heap.size W w3) (hz : b < W.heap.size) (d0 : W.cell? ⟨b, 0, none⟩ = some x) (d1 : W.cell? ⟨b, 1, none⟩ = some y) :
    w3.cell? ⟨b, 0, none⟩ = some x ∧ w3.cell? ⟨b, 1, none⟩ = some y := by
  rw [hb.cell (p := ⟨b, 0, none⟩) hz, hb.cell (p := ⟨b, 1, none⟩) hz]
  exact ⟨d0, d1⟩

set_option maxHeartbeats 1000000 in
theorem round_walk (s ns : Int) (h0 : 0 ≤ ns) (h1 : ns ≤ 4294967295) (w : World) :
    Calls Yba.prog 4 #[.int .i64 s, .int .u32 ns] w fun e w' => e = .returned (.bool true) ∧ Below w.heap.size w w' := by
  by_cases c1 : s < -315537897600
  · go_enter Yba.func4, Yba.ntmps4
    go_wp2
    go_ret
    exact ⟨rfl, Below.refl _ _⟩
  by_cases c2 : 315537897599 < s
  · go_enter Yba.func4, Yba.ntmps4
    go_wp2
    go_ret
    exact ⟨rfl, Below.refl _ _⟩
  have CM := cmk_any s ns h0 h1 w
  obtain ⟨n, hn⟩ : ∃ n, n = ns % 1000000000 := ⟨_, rfl⟩
  have n0 : 0 ≤ n := by omega
  have n1 : n < 1000000000 := by omega
  rw [← hn] at CM
  have HC := hide_it CM
  clear CM hn
  by_cases c3 : 0 ≤ s
  · go_enter Yba.func4, Yba.ntmps4
    go_wp2_with fail
    refine Calls.mono HC.out ?_
    rintro e w1 ⟨rfl, hb⟩
    clear HC
    have HB := hide_it hb
    clear hb
    go_wp2_with fail
    refine (abs_pos s n c3 _).mono ?_
    rintro e w2 ⟨rfl, hb2⟩
    obtain ⟨d0, d1⟩ := dcells hb2
    have hz : w1.heap.size < w2.heap.size := by have := hb2.size; simp at this; omega
    have HB2 := hide_it hb2
    clear hb2
    go_wp2
    go_region_with (go_at_call 7; refine (of_pos s n _).mono ?_; rintro e w3 ⟨rfl, hb3⟩; have HB3 := hide_it hb3; obtain ⟨e0, e1⟩ := dkeep hb3 (b := w1.heap.size) (by simpa using hz) (by simpa using d0) (by simpa using d1); clear hb3)
    all_goals go_wp2
    all_goals go_ret
    all_goals exact ⟨rfl, below_three HB.out HB2.out HB3.out⟩
  by_cases c4 : 0 < n
  · have l1 : s < 0 := by omega
    have l2 : -315537897600 ≤ s := by omega
    go_enter Yba.func4, Yba.ntmps4
    go_wp2_with fail
    refine Calls.mono HC.out ?_
    rintro e w1 ⟨rfl, hb⟩
    clear HC
    have HB := hide_it hb
    clear hb
    go_wp2_with fail
    refine (abs_neg s n l1 l2 c4 n1 _).mono ?_
    rintro e w2 ⟨rfl, hb2⟩
    obtain ⟨d0, d1⟩ := dcells hb2
    have hz : w1.heap.size < w2.heap.size := by have := hb2.size; simp at this; omega
    have HB2 := hide_it hb2
    clear hb2
    go_wp2
    go_region_with (go_at_call 7; refine (back_neg s n l1 l2 c4 n1 _).mono ?_; rintro e w3 ⟨rfl, hb3⟩; have HB3 := hide_it hb3; obtain ⟨e0, e1⟩ := dkeep hb3 (b := w1.heap.size) (by simpa using hz) (by simpa using d0) (by simpa using d1); clear hb3)
    all_goals go_wp2
    all_goals go_ret
    all_goals exact ⟨rfl, below_three HB.out HB2.out HB3.out⟩
  · obtain rfl : n = 0 := by omega
    have l1 : s < 0 := by omega
    have l2 : -315537897600 ≤ s := by omega
    go_enter Yba.func4, Yba.ntmps4
    go_wp2_with fail
    refine Calls.mono HC.out ?_
    rintro e w1 ⟨rfl, hb⟩
    clear HC
    have HB := hide_it hb
    clear hb
    go_wp2_with fail
    refine (abs_neg0 s l1 l2 _).mono ?_
    rintro e w2 ⟨rfl, hb2⟩
    obtain ⟨d0, d1⟩ := dcells hb2
    have hz : w1.heap.size < w2.heap.size := by have := hb2.size; simp at this; omega
    have HB2 := hide_it hb2
    clear hb2
    go_wp2
    go_region_with (go_at_call 7; refine (back_neg0 s l1 l2 _).mono ?_; rintro e w3 ⟨rfl, hb3⟩; have HB3 := hide_it hb3; obtain ⟨e0, e1⟩ := dkeep hb3 (b := w1.heap.size) (by simpa using hz) (by simpa using d0) (by simpa using d1); clear hb3)
    all_goals go_wp2
    all_goals go_ret
    all_goals exact ⟨rfl, below_three HB.out HB2.out HB3.out⟩
end Go.Proofs.Ybulkanhk
