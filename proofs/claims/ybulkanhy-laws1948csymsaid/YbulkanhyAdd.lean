import Derived.Test.YbulkanhyLeaf
namespace Go.Proofs.Ybulkanhy
open Go.RowKit

theorem parts_of (n : Int) (h0 : -9223372036854775808 ≤ n) (h1 : n ≤ 9223372036854775807) :
    ∃ q r : Int, n.tdiv 1000000000 = q ∧ n.tmod 1000000000 = r ∧ -9223372037 ≤ q ∧ q ≤ 9223372037 ∧ -1000000000 < r ∧ r < 1000000000 ∧
      (0 ≤ r → n / 1000000000 = q ∧ n % 1000000000 = r) ∧ (r < 0 → n / 1000000000 = q - 1 ∧ n % 1000000000 = r + 1000000000) := by
  refine ⟨n.tdiv 1000000000, n.tmod 1000000000, rfl, rfl, ?_⟩
  have e := Int.tdiv_mul_add_tmod n 1000000000
  by_cases hn : 0 ≤ n
  · have a := Int.tdiv_eq_ediv_of_nonneg (b := 1000000000) hn
    have b := Int.tmod_eq_emod_of_nonneg (b := 1000000000) hn
    rw [a, b]
    omega
  · have hl := Int.tmod_lt_of_pos n (b := 1000000000) (by omega)
    have hg : -1000000000 < n.tmod 1000000000 := by
      have := Int.neg_tmod (a := n) (b := 1000000000)
      have k := Int.tmod_lt_of_pos (-n) (b := 1000000000) (by omega)
      omega
    have hs : n.tmod 1000000000 ≤ 0 := by
      have := Int.neg_tmod (a := n) (b := 1000000000)
      have k := Int.tmod_nonneg (a := -n) 1000000000 (by omega)
      omega
    omega

set_option maxHeartbeats 1000000 in
/-- 'Time{}.Add(n)'. -/
theorem add_any (n : Int) (h0 : -9223372036854775808 ≤ n) (h1 : n ≤ 9223372036854775807) (w : World) :
    Calls Yba.prog 9 #[.agg #[.int .u64 0, .int .i64 0, .pointer none], .int .i64 n] w fun e w' => e = .returned (.agg #[.int .u64 (n % 1000000000), .int .i64 (n / 1000000000), .pointer none]) ∧ Below w.heap.size w w' := by
  obtain ⟨q, r, hq, hr, q0, q1, r0, r1, hpos, hneg⟩ := parts_of n h0 h1
  have k0 := andNot_zero
  by_cases hs : 0 ≤ r
  · obtain ⟨ea, eb⟩ := hpos hs
    rw [ea, eb]
    clear ea eb hpos hneg h0 h1
    have k1 := or_zero r hs (by omega)
    have k2 := and_mono r hs (by omega)
    go_enter Yba.func9, Yba.ntmps9
    go_wp2_with fail
    refine (nsec_any w.heap.size 0 (by omega) (by omega) _ ?_).mono ?_
    · go_simp
    rintro e w1 ⟨rfl, rfl⟩
    go_wp2_with fail
    refine (addSec_any w.heap.size r q hs (by omega) (by omega) (by omega) _ ?_ ?_ ?_).mono ?_
    · go_simp
    · go_simp
    · go_simp
    rintro e w1 ⟨rfl, rfl⟩
    go_wp2
    exact bodyPost_ret (v := .agg #[.int .u64 r, .int .i64 q, .pointer none]) (by simp [results, Yba.results9, go_sem]) rfl ⟨rfl, ((Below.refl _ _).alloc (Nat.le_refl _) _).alloc (by simp) _⟩
  · obtain ⟨ea, eb⟩ := hneg (by omega)
    rw [ea, eb]
    clear ea eb hpos hneg h0 h1
    have k1 := or_zero (r + 1000000000) (by omega) (by omega)
    have k2 := and_mono (r + 1000000000) (by omega) (by omega)
    go_enter Yba.func9, Yba.ntmps9
    go_wp2_with fail
    refine (nsec_any w.heap.size 0 (by omega) (by omega) _ ?_).mono ?_
    · go_simp
    rintro e w1 ⟨rfl, rfl⟩
    go_wp2_with fail
    refine (addSec_any w.heap.size (r + 1000000000) (q - 1) (by omega) (by omega) (by omega) (by omega) _ ?_ ?_ ?_).mono ?_
    · go_simp
    · go_simp
    · go_simp
    rintro e w1 ⟨rfl, rfl⟩
    go_wp2
    exact bodyPost_ret (v := .agg #[.int .u64 (r + 1000000000), .int .i64 (q - 1), .pointer none]) (by simp [results, Yba.results9, go_sem]) rfl ⟨rfl, ((Below.refl _ _).alloc (Nat.le_refl _) _).alloc (by simp) _⟩

set_option maxHeartbeats 400000 in
/-- 'zzs1948cat'. -/
theorem at_any (n : Int) (h0 : -9223372036854775808 ≤ n) (h1 : n ≤ 9223372036854775807) (w : World) :
    Calls Yba.prog 5 #[.int .i64 n] w fun e w' => e = .returned (.agg #[.int .u64 (n % 1000000000), .int .i64 (n / 1000000000), .pointer none]) ∧ Below w.heap.size w w' := by
  have CM := fun W => add_any n h0 h1 W
  obtain ⟨r, hr⟩ : ∃ r, r = n % 1000000000 := ⟨_, rfl⟩
  obtain ⟨q, hq⟩ : ∃ q, q = n / 1000000000 := ⟨_, rfl⟩
  rw [← hr, ← hq]
  simp only [← hr, ← hq] at CM
  have HC := hide_it CM
  clear CM hr hq h0 h1
  go_enter Yba.func5, Yba.ntmps5
  go_wp2_with fail
  refine Calls.mono (HC.out _) ?_
  rintro e w1 ⟨rfl, hb⟩
  obtain ⟨b0, b1, b2, b3, b4, b5, b6⟩ := (box_new w _ _ _ _).keep hb (by simp)
  have HB := hide_it hb
  clear hb
  go_wp2
  refine bodyPost_ret (v := .agg #[.int .u64 r, .int .i64 q, .pointer none]) (by simp [results, Yba.results5, go_sem, b1, b2, b3]) rfl ⟨rfl, ?_⟩
  exact (((((Below.refl _ w).alloc (Nat.le_refl _) _).trans (HB.out.mono (by simp))).setCell (Nat.le_refl _) _).setCell (Nat.le_refl _) _).setCell (Nat.le_refl _) _
end Go.Proofs.Ybulkanhy
