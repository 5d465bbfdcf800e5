import Derived.Test.YbulkanhkRows
import Derived.WalkKit
import Derived.WalkSpells
import Derived.WalkLawsBesides
import Derived.Deep.QuietTactic
import Derived.BigQuiet
import Derived.RegionTactic
namespace Go.Proofs.Ybulkanhk
open Go.RowKit

theorem below_one (w : World) (o : Obj) (q : Nat) : Below w.heap.size w ((w.alloc o).drewN q) := ⟨rfl, rfl, rfl, ((Below.refl _ w).alloc (Nat.le_refl _) o).size, ((Below.refl _ w).alloc (Nat.le_refl _) o).block⟩

theorem hide_it {p : Prop} (h : p) : Hid p := h

set_option maxHeartbeats 400000 in
/-- 'zzs1947cmk'. -/
theorem cmk_any (s ns : Int) (h0 : 0 ≤ ns) (h1 : ns ≤ 4294967295) (w : World) :
    Calls Yba.prog 5 #[.int .i64 s, .int .u32 ns] w fun e w' => e = .returned (.agg #[.int .i64 s, .int .i32 (ns % 1000000000)]) ∧ Below w.heap.size w w' := by
  go_enter Yba.func5, Yba.ntmps5
  go_wp2
  exact bodyPost_ret (v := .agg #[.int .i64 s, .int .i32 (ns % 1000000000)]) (by simp [results, Yba.results5, go_sem]) rfl ⟨rfl, (Below.refl _ _).alloc (Nat.le_refl _) _⟩

set_option maxHeartbeats 400000 in
theorem abs_pos (s n : Int) (hs : 0 ≤ s) (w : World) :
    Calls Yba.prog 6 #[.agg #[.int .i64 s, .int .i32 n]] w fun e w' => e = .returned (.tuple #[.bool false, .int .i64 s, .int .i32 n]) ∧ Below w.heap.size w w' := by
  go_enter Yba.func6, Yba.ntmps6
  go_wp2
  go_quiet (fail)
  go_wp2
  go_ret3
  exact ⟨rfl, below_one _ _ _⟩

set_option maxHeartbeats 400000 in
theorem abs_neg (s n : Int) (hs : s < 0) (hl : -315537897600 ≤ s) (hn : 0 < n) (hn1 : n < 1000000000) (w : World) :
    Calls Yba.prog 6 #[.agg #[.int .i64 s, .int .i32 n]] w fun e w' => e = .returned (.tuple #[.bool true, .int .i64 (-s - 1), .int .i32 (1000000000 - n)]) ∧ Below w.heap.size w w' := by
  go_enter Yba.func6, Yba.ntmps6
  go_wp2
  go_quiet (fail)
  go_wp2
  go_ret3
  exact ⟨rfl, below_one _ _ _⟩

set_option maxHeartbeats 400000 in
theorem abs_neg0 (s : Int) (hs : s < 0) (hl : -315537897600 ≤ s) (w : World) :
    Calls Yba.prog 6 #[.agg #[.int .i64 s, .int .i32 0]] w fun e w' => e = .returned (.tuple #[.bool true, .int .i64 (-s), .int .i32 0]) ∧ Below w.heap.size w w' := by
  go_enter Yba.func6, Yba.ntmps6
  go_wp2
  go_quiet (fail)
  go_wp2
  go_ret3
  exact ⟨rfl, below_one _ _ _⟩
end Go.Proofs.Ybulkanhk
