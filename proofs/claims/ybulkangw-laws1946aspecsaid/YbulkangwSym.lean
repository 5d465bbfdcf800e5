import Derived.Test.YbulkangwBuild
namespace Go.Proofs.Ybulkangw
open Go.RowKit

theorem below_of_since {w w' : World} (h : w.Since w.heap.size w') : Below w.heap.size w w' := ⟨h.os, h.tape, h.output, h.size, h.block⟩
theorem below_drewN {B : Nat} {w w' : World} (h : Below B w w') (q : Nat) : Below B w (w'.drewN q) := ⟨h.os, h.tape, h.output, h.size, h.block⟩

theorem hide_same {p : Prop} (h : p) : Hid p := h

theorem rem_nat (a : Int) (m : Nat) (hm : 1 ≤ m) : ∃ p : Nat, a % (m : Int) = (p : Int) ∧ p < m := by
  have h0 : 0 ≤ a % (m : Int) := Int.emod_nonneg _ (by omega)
  have h1 : a % (m : Int) < m := Int.emod_lt_of_pos _ (by omega)
  exact ⟨(a % (m : Int)).toNat, by omega, by omega⟩

set_option maxHeartbeats 1000000 in
theorem sym_walk (ta : Option Addr) (tb to m tc : Nat) (Z : Nat → Int) (sa : Option Addr) (sb so ls sc : Nat) (B : Nat → Bool) (a b : Int) (w : World)
    (hta : 0 < m → ta = some ⟨tb, to, none⟩) (hZ : ∀ j, j < m → w.cell? ⟨tb, to + j, none⟩ = some (.int .u8 (Z j))) (hZ0 : ∀ j, j < m → 0 ≤ Z j) (hZ1 : ∀ j, j < m → Z j ≤ 255)
    (hsa : 0 < ls → sa = some ⟨sb, so, none⟩) (hB : ∀ j, j < ls → w.cell? ⟨sb, so + j, none⟩ = some (.bool (B j)))
    (a0 : 0 ≤ a) (a1 : a ≤ 18446744073709551615) (b0 : 0 ≤ b) (b1 : b ≤ 18446744073709551615) (hml : m ≤ maxLen) (hll : ls ≤ maxLen) :
    Calls Yba.prog 4 #[.slice ta m tc, .slice sa ls sc, .int .u64 a, .int .u64 b] w fun e w' => e = .returned (.bool true) ∧ Below w.heap.size w w' := by
  unfold maxLen at hml hll
  by_cases h1 : 1024 < m
  · clear hta hZ hZ0 hZ1 hsa hB
    go_enter Yba.func4, Yba.ntmps4
    go_wp2
    go_ret
    exact ⟨rfl, Below.refl _ _⟩
  by_cases h2 : 1024 < ls
  · clear hta hZ hZ0 hZ1 hsa hB
    go_enter Yba.func4, Yba.ntmps4
    go_wp2
    go_ret
    exact ⟨rfl, Below.refl _ _⟩
  by_cases h3 : m < 1
  · clear hta hZ hZ0 hZ1 hsa hB
    go_enter Yba.func4, Yba.ntmps4
    go_wp2
    go_ret
    exact ⟨rfl, Below.refl _ _⟩
  obtain rfl := hta (by omega)
  obtain ⟨pa, hpa, la⟩ := rem_nat a m (by omega)
  obtain ⟨pb, hpb, lb⟩ := rem_nat b m (by omega)
  have CB := build_any tb to m tc Z sa sb so ls sc B w (by omega) (by omega) (by omega) hZ hZ0 hZ1 hsa hB
  clear hZ hZ0 hZ1 hsa hB hta
  have HC := (show Hid _ from CB)
  clear CB
  go_enter Yba.func4, Yba.ntmps4
  go_wp2_with fail
  refine Calls.mono HC.out ?_
  rintro e w1 ⟨rfl, T, S, hBt⟩
  clear HC
  have wf := hBt.wf
  have hT : ∀ (q j : Nat), j ≤ m → (w1.drewN q).cell? ⟨w.heap.size, j, none⟩ = some (.int .i32 (T j)) := fun q j hj => by simpa using hBt.text.cell (i := j) (by omega)
  have hS : ∀ (q j : Nat), j ≤ m → (w1.drewN q).cell? ⟨w.heap.size + 1, j, none⟩ = some (.bool (S j)) := fun q j hj => by simpa using hBt.sm.cell (i := j) (by omega)
  have HB : Hid (Below w.heap.size w w1) := below_of_since hBt.since
  have C1 := hide_same (same_any w.heap.size (w.heap.size + 1) m T S wf pa pa la la (by omega) w1 (hT 0) (hS 0))
  have C2 := fun q => same_any w.heap.size (w.heap.size + 1) m T S wf pa pb la lb (by omega) (w1.drewN q) (hT q) (hS q)
  have C3 := fun q => same_any w.heap.size (w.heap.size + 1) m T S wf pb pa lb la (by omega) (w1.drewN q) (hT q) (hS q)
  have H2 := hide_same C2
  have H3 := hide_same C3
  clear hBt hT hS C2 C3
  go_wp2_with fail
  refine Calls.mono C1.out ?_
  rintro e w2 ⟨r, q, rfl, hA, rfl⟩
  obtain rfl := ans_self wf la hA
  clear hA
  go_wp2_with fail
  refine Calls.mono (H2.out q) ?_
  rintro e w2 ⟨r, q2, rfl, hA, rfl⟩
  have HA := hide_same hA
  clear hA
  go_wp2_with fail
  refine Calls.mono (H3.out _) ?_
  rintro e w2 ⟨s, q3, rfl, hA2, rfl⟩
  obtain rfl := ans_sym wf la lb HA.out hA2
  clear hA2
  go_wp2
  go_ret
  exact ⟨rfl, below_drewN HB.out _⟩
end Go.Proofs.Ybulkangw
