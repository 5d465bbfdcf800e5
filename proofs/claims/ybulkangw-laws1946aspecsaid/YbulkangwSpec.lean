import Derived.Test.YbulkangwSym
namespace Go.Proofs.Ybulkangw
open Go.RowKit

theorem ans_apart {T : Nat → Int} {S : Nat → Bool} {a b ka kb : Nat} {r : Bool} (h : Ans T S a b r) (ha : Nx S a ka) (hb : Nx S b kb) (hne : ka ≠ kb) : r = false := by
  cases r
  · rfl
  · exact absurd ((h ka kb ha hb).1 rfl).1 hne

theorem ans_differ {T : Nat → Int} {S : Nat → Bool} {a b k i : Nat} {r : Bool} (h : Ans T S a b r) (ha : Nx S a k) (hb : Nx S b k) (hi : i ≤ k + 1) (hne : ¬ T (a + i) = T (b + i)) : r = false := by
  cases r
  · rfl
  · exact absurd (((h k k ha hb).1 rfl).2 i hi) hne

theorem ans_all {T : Nat → Int} {S : Nat → Bool} {a b k : Nat} {r : Bool} (h : Ans T S a b r) (ha : Nx S a k) (hb : Nx S b k) (hT : ∀ i, i < k + 2 → T (a + i) = T (b + i)) : r = true :=
  (h k k ha hb).2 ⟨rfl, fun i hi => hT i (by omega)⟩

theorem eq_more {T : Nat → Int} {a b i : Nat} (h : ∀ j, j < i → T (a + j) = T (b + j)) (he : T (a + i) = T (b + i)) : ∀ j, j < i + 1 → T (a + j) = T (b + j) := fun j hj => by
  by_cases e : j = i
  · subst e; exact he
  · exact h j (by omega)

set_option maxHeartbeats 1600000 in
theorem spec_walk (ta : Option Addr) (tb to m tc : Nat) (Z : Nat → Int) (sa : Option Addr) (sb so ls sc : Nat) (B : Nat → Bool) (a b : Int) (w : World)
    (hta : 0 < m → ta = some ⟨tb, to, none⟩) (hZ : ∀ j, j < m → w.cell? ⟨tb, to + j, none⟩ = some (.int .u8 (Z j))) (hZ0 : ∀ j, j < m → 0 ≤ Z j) (hZ1 : ∀ j, j < m → Z j ≤ 255)
    (hsa : 0 < ls → sa = some ⟨sb, so, none⟩) (hB : ∀ j, j < ls → w.cell? ⟨sb, so + j, none⟩ = some (.bool (B j)))
    (a0 : 0 ≤ a) (a1 : a ≤ 18446744073709551615) (b0 : 0 ≤ b) (b1 : b ≤ 18446744073709551615) (hml : m ≤ maxLen) (hll : ls ≤ maxLen) :
    Calls Yba.prog 3 #[.slice ta m tc, .slice sa ls sc, .int .u64 a, .int .u64 b] w fun e w' => e = .returned (.bool true) ∧ Below w.heap.size w w' := by
  unfold maxLen at hml hll
  by_cases h1 : 1024 < m
  · clear hta hZ hZ0 hZ1 hsa hB
    go_enter Yba.func3, Yba.ntmps3
    go_wp2
    go_ret
    exact ⟨rfl, Below.refl _ _⟩
  by_cases h2 : 1024 < ls
  · clear hta hZ hZ0 hZ1 hsa hB
    go_enter Yba.func3, Yba.ntmps3
    go_wp2
    go_ret
    exact ⟨rfl, Below.refl _ _⟩
  by_cases h3 : m < 1
  · clear hta hZ hZ0 hZ1 hsa hB
    go_enter Yba.func3, Yba.ntmps3
    go_wp2
    go_ret
    exact ⟨rfl, Below.refl _ _⟩
  obtain rfl := hta (by omega)
  obtain ⟨pa, hpa, la⟩ := rem_nat a m (by omega)
  obtain ⟨pb, hpb, lb⟩ := rem_nat b m (by omega)
  have CB := build_any tb to m tc Z sa sb so ls sc B w (by omega) (by omega) (by omega) hZ hZ0 hZ1 hsa hB
  clear hZ hZ0 hZ1 hsa hB hta
  have HC := hide_same CB
  clear CB
  go_enter Yba.func3, Yba.ntmps3
  go_wp2_with fail
  refine Calls.mono HC.out ?_
  rintro e w1 ⟨rfl, T, S, hBt⟩
  clear HC
  have wf := hBt.wf
  have hT : ∀ (q j : Nat), j ≤ m → (w1.drewN q).cell? ⟨w.heap.size, j, none⟩ = some (.int .i32 (T j)) := fun q j hj => by simpa using hBt.text.cell (i := j) (by omega)
  have hS : ∀ (q j : Nat), j ≤ m → (w1.drewN q).cell? ⟨w.heap.size + 1, j, none⟩ = some (.bool (S j)) := fun q j hj => by simpa using hBt.sm.cell (i := j) (by omega)
  have HB : Hid (Below w.heap.size w w1) := below_of_since hBt.since
  have C1 := hide_same (same_any w.heap.size (w.heap.size + 1) m T S wf pa pb la lb (by omega) w1 (hT 0) (hS 0))
  have C2 := hide_same (fun q => alen_any (w.heap.size + 1) m T S wf pa la (by omega) (w1.drewN q) (hS q))
  have C3 := hide_same (fun q => alen_any (w.heap.size + 1) m T S wf pb lb (by omega) (w1.drewN q) (hS q))
  have HT : Hid (∀ j, j ≤ m → w1.cell? ⟨w.heap.size, j, none⟩ = some (.int .i32 (T j))) := hT 0
  clear hBt hT hS
  go_wp2_with fail
  refine Calls.mono C1.out ?_
  rintro e w2 ⟨r, q, rfl, hA, rfl⟩
  have HA := hide_same hA
  clear hA C1
  go_wp2_with fail
  refine Calls.mono (C2.out q) ?_
  rintro e w2 ⟨ka, rfl, na, ga, rfl⟩
  have NA := hide_same na
  clear na C2
  go_wp2_with fail
  refine Calls.mono (C3.out q) ?_
  rintro e w2 ⟨kb, rfl, nb, gb, rfl⟩
  have NB := hide_same nb
  clear nb C3
  by_cases hk : ka = kb
  · subst hk
    have hb1 : ((ka : Int) + 1 == (ka : Int) + 1) = true := by simp
    go_wp2
    clear hb1
    go_loopw [17, 18] (fun t i wr => ∃ (k n : Nat), t = .bool true ∧ i = .int .i64 k ∧ k ≤ ka + 2 ∧ Hid (∀ j, j < k → T (pa + j) = T (pb + j)) ∧ wr = w1.drewN n) (fun _ i _ => (1100 - intOf i).toNat)
    case atStart => exact ⟨0, q, rfl, rfl, by omega, fun j hj => absurd hj (Nat.not_lt_zero _), rfl⟩
    case round =>
      obtain ⟨k, n, rfl, rfl, hk2, HE, rfl⟩ := hrel
      by_cases hlt : k ≤ ka + 1
      · have t1 : w1.cell? ⟨w.heap.size, pa + k, none⟩ = some (.int .i32 (T (pa + k))) := HT.out _ (by omega)
        have t2 : w1.cell? ⟨w.heap.size, pb + k, none⟩ = some (.int .i32 (T (pb + k))) := HT.out _ (by omega)
        have i1 : (pa : Int) + (k : Int) < (m : Int) + 1 := by omega
        have i2 : (pb : Int) + (k : Int) < (m : Int) + 1 := by omega
        go_wp2
        by_cases hne : T (pa + k) = T (pb + k)
        · have hb1 : (T (pa + k) != T (pb + k)) = false := by simp [hne]
          have HN := hide_same (eq_more HE.out hne)
          clear hne
          go_quiet (fail)
          go_wp2
          go_roundw
          case rel => exact ⟨k + 1, n + nq, rfl, by go_num, by omega, HN, rfl⟩
          case measure => simp [intOf]; omega
        · have hb1 : (T (pa + k) != T (pb + k)) = true := by simp [hne]
          obtain rfl := ans_differ HA.out NA.out NB.out hlt hne
          clear hne
          go_quiet (fail)
          go_wp2
          go_ret
          exact ⟨rfl, below_drewN HB.out _⟩
      · obtain rfl : k = ka + 2 := by omega
        obtain rfl := ans_all HA.out NA.out NB.out HE.out
        go_wp2
        go_ret
        exact ⟨rfl, below_drewN HB.out _⟩
  · have hb1 : ((ka : Int) + 1 == (kb : Int) + 1) = false := by simp; omega
    obtain rfl := ans_apart HA.out NA.out NB.out hk
    clear hk
    go_wp2
    go_ret
    exact ⟨rfl, below_drewN HB.out _⟩
end Go.Proofs.Ybulkangw
