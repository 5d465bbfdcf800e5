import Derived.Test.YbulkanhyRows
import Derived.Test.YbulkanhyBits
import Derived.WalkKit
import Derived.WalkSpells
import Derived.WalkLawsBesides
import Derived.Deep.RegionWith
namespace Go.Proofs.Ybulkanhy
open Go.RowKit

theorem hide_it {p : Prop} (h : p) : Hid p := h

/-- A variable that holds a time: a block of three cells, none frozen. -/
def Box (w : World) (b : Nat) (x y z : Value) : Prop :=
  b < w.heap.size ∧ w.cell? ⟨b, 0, none⟩ = some x ∧ w.cell? ⟨b, 1, none⟩ = some y ∧ w.cell? ⟨b, 2, none⟩ = some z ∧
    w.frozen? ⟨b, 0, none⟩ = false ∧ w.frozen? ⟨b, 1, none⟩ = false ∧ w.frozen? ⟨b, 2, none⟩ = false

theorem box_new (w : World) (x y z : Value) (t : TypeId) : Box (w.alloc (.cells #[x, y, z] t)) w.heap.size x y z := by
  refine ⟨by simp, ?_, ?_, ?_, World.frozen?_alloc_new _ _ _ _, World.frozen?_alloc_new _ _ _ _, World.frozen?_alloc_new _ _ _ _⟩ <;> (rw [World.cell?_alloc_new]; simp)

theorem Box.keep {B : Nat} {w w' : World} {b : Nat} {x y z : Value} (h : Box w b x y z) (hb : Below B w w') (hB : b < B) : Box w' b x y z := by
  obtain ⟨h0, h1, h2, h3, h4, h5, h6⟩ := h
  exact ⟨Nat.lt_of_lt_of_le h0 hb.size, (hb.cell (p := ⟨b, 0, none⟩) hB).trans h1, (hb.cell (p := ⟨b, 1, none⟩) hB).trans h2, (hb.cell (p := ⟨b, 2, none⟩) hB).trans h3,
    (hb.frozen (p := ⟨b, 0, none⟩) hB).trans h4, (hb.frozen (p := ⟨b, 1, none⟩) hB).trans h5, (hb.frozen (p := ⟨b, 2, none⟩) hB).trans h6⟩

theorem Box.alloc {w : World} {b : Nat} {x y z : Value} (h : Box w b x y z) (o : Obj) : Box (w.alloc o) b x y z :=
  h.keep ((Below.refl w.heap.size w).alloc (Nat.le_refl _) o) h.1

theorem Box.drew {w : World} {b : Nat} {x y z : Value} (h : Box w b x y z) : Box w.drew b x y z := h

set_option maxHeartbeats 400000 in
/-- '(*Time).nsec' of a time without a monotonic reading. -/
theorem nsec_any (b : Nat) (v : Int) (h0 : 0 ≤ v) (h1 : v < 1073741824) (w : World) (c0 : w.cell? ⟨b, 0, none⟩ = some (.int .u64 v)) :
    Calls Yba.prog 13 #[.pointer (some ⟨b, 0, none⟩)] w fun e w' => e = .returned (.int .i32 v) ∧ w' = w := by
  have k := and_mask v h0 h1
  go_enter Yba.func13, Yba.ntmps13
  go_wp2
  go_ret
  exact ⟨rfl, rfl⟩

set_option maxHeartbeats 400000 in
/-- '(*Time).sec' of a time without a monotonic reading. -/
theorem sec_any (b : Nat) (v e : Int) (h0 : 0 ≤ v) (h1 : v < 1073741824) (w : World) (c0 : w.cell? ⟨b, 0, none⟩ = some (.int .u64 v)) (c1 : w.cell? ⟨b, 1, none⟩ = some (.int .i64 e)) :
    Calls Yba.prog 12 #[.pointer (some ⟨b, 0, none⟩)] w fun r w' => r = .returned (.int .i64 e) ∧ w' = w := by
  have k := and_mono v h0 h1
  go_enter Yba.func12, Yba.ntmps12
  go_wp2
  go_ret
  exact ⟨rfl, rfl⟩

set_option maxHeartbeats 400000 in
/-- '(*Time).addSec' at the zero second. -/
theorem addSec_any (b : Nat) (v d : Int) (h0 : 0 ≤ v) (h1 : v < 1073741824) (d0 : -9300000000 ≤ d) (d1 : d ≤ 9300000000) (w : World) (c0 : w.cell? ⟨b, 0, none⟩ = some (.int .u64 v)) (c1 : w.cell? ⟨b, 1, none⟩ = some (.int .i64 0)) (f1 : w.frozen? ⟨b, 1, none⟩ = false) :
    Calls Yba.prog 14 #[.pointer (some ⟨b, 0, none⟩), .int .i64 d] w fun r w' => r = .returned (.tuple #[]) ∧ w' = w.setCell ⟨b, 1, none⟩ (.int .i64 d) := by
  have k := and_mono v h0 h1
  go_enter Yba.func14, Yba.ntmps14
  go_wp2
  go_end0
  exact ⟨rfl, rfl⟩
end Go.Proofs.Ybulkanhy
