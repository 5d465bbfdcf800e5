import Derived.Test.YbulkanhkLeaf
namespace Go.Proofs.Ybulkanhk
open Go.RowKit

theorem ret_bool {a b : Bool} (h : a = b) : Ending.returned (.bool a) = .returned (.bool b) := by rw [h]

theorem bcell {W w1 : World} (hb : Below W.heap.size W w1) : (∀ b o, b < W.heap.size → w1.cell? ⟨b, o, none⟩ = W.cell? ⟨b, o, none⟩) ∧ (∀ b o, b < W.heap.size → w1.frozen? ⟨b, o, none⟩ = W.frozen? ⟨b, o, none⟩) :=
  ⟨fun b o h => hb.cell (p := ⟨b, o, none⟩) h, fun b o h => hb.frozen (p := ⟨b, o, none⟩) h⟩

/-- The variable 'd' in the world behind 'abs'. -/
theorem dcells {w1 w2 : World} {x y : Value} {t : TypeId} (hb : Below (w1.alloc (.cells #[x, y] t)).heap.size (w1.alloc (.cells #[x, y] t)) w2) :
    w2.cell? ⟨w1.heap.size, 0, none⟩ = some x ∧ w2.cell? ⟨w1.heap.size, 1, none⟩ = some y := by
  have h0 := hb.cell (p := ⟨w1.heap.size, 0, none⟩) (by simp)
  have h1 := hb.cell (p := ⟨w1.heap.size, 1, none⟩) (by simp)
  rw [h0, h1, World.cell?_alloc_new, World.cell?_alloc_new]
  simp

theorem below_two {w w1 w2 : World} {o : Obj} (h : Below w.heap.size w w1) (hb : Below (w1.alloc o).heap.size (w1.alloc o) w2) : Below w.heap.size w w2 :=
  (h.alloc h.size o).trans (hb.mono (by have := h.size; simp; omega))

set_option maxHeartbeats 1000000 in
theorem parts_walk (s ns : Int) (h0 : 0 ≤ ns) (h1 : ns ≤ 4294967295) (w : World) :
    Calls Yba.prog 3 #[.int .i64 s, .int .u32 ns] w fun e w' => e = .returned (.bool true) ∧ Below w.heap.size w w' := by
  by_cases c1 : s < -315537897600
  · go_enter Yba.func3, Yba.ntmps3
    go_wp2
    go_ret
    exact ⟨rfl, Below.refl _ _⟩
  by_cases c2 : 315537897599 < s
  · go_enter Yba.func3, Yba.ntmps3
    go_wp2
    go_ret
    exact ⟨rfl, Below.refl _ _⟩
  have CM := cmk_any s ns h0 h1 w
  obtain ⟨n, hn⟩ : ∃ n, n = ns % 1000000000 := ⟨_, rfl⟩
  have n0 : 0 ≤ n := by omega
  have n1 : n < 1000000000 := by omega
  rw [← hn] at CM
  have HC := hide_it CM
  clear CM hn
  by_cases c3 : 0 ≤ s
  · go_enter Yba.func3, Yba.ntmps3
    go_wp2_with fail
    refine Calls.mono HC.out ?_
    rintro e w1 ⟨rfl, hb⟩
    clear HC
    have HB := hide_it hb
    clear hb
    go_wp2_with fail
    refine (abs_pos s n c3 _).mono ?_
    rintro e w2 ⟨rfl, hb2⟩
    obtain ⟨d0, d1⟩ := dcells hb2
    have HB2 := hide_it hb2
    clear hb2
    go_wp2
    go_ret
    exact ⟨rfl, below_two HB.out HB2.out⟩
  by_cases c4 : 0 < n
  · go_enter Yba.func3, Yba.ntmps3
    go_wp2_with fail
    refine Calls.mono HC.out ?_
    rintro e w1 ⟨rfl, hb⟩
    clear HC
    have HB := hide_it hb
    clear hb
    go_wp2_with fail
    refine (abs_neg s n (by omega) (by omega) c4 n1 _).mono ?_
    rintro e w2 ⟨rfl, hb2⟩
    obtain ⟨d0, d1⟩ := dcells hb2
    have HB2 := hide_it hb2
    clear hb2
    go_wp2
    go_ret
    exact ⟨ret_bool (beq_iff_eq.2 (by omega)), below_two HB.out HB2.out⟩
  · obtain rfl : n = 0 := by omega
    go_enter Yba.func3, Yba.ntmps3
    go_wp2_with fail
    refine Calls.mono HC.out ?_
    rintro e w1 ⟨rfl, hb⟩
    clear HC
    have HB := hide_it hb
    clear hb
    go_wp2_with fail
    refine (abs_neg0 s (by omega) (by omega) _).mono ?_
    rintro e w2 ⟨rfl, hb2⟩
    obtain ⟨d0, d1⟩ := dcells hb2
    have HB2 := hide_it hb2
    clear hb2
    go_wp2
    go_ret
    exact ⟨ret_bool (beq_iff_eq.2 (by omega)), below_two HB.out HB2.out⟩
end Go.Proofs.Ybulkanhk
