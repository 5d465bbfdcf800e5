import Derived.Test.YbulkangwRows
import Derived.WalkKit
import Derived.ProofKit
import Derived.OpenShut
import Derived.ShutString
import Derived.ChangeOld
import Derived.Below
import Derived.Deep.Grids
namespace Go.Proofs.Ybulkangw
open Go.ChangeShapes Go.WideShapes Go.ChangeAt Go.RowKit

theorem own : ownKnob Yba.prog.godebug = none := by kernel_rfl
theorem laidOut : laidOutB Yba.prog = true := by kernel_rfl
theorem Yba.cells5 : Yba.prog.cellsOf 5 = 1 := by kernel_rfl
theorem Yba.cells4 : Yba.prog.cellsOf 4 = 1 := by kernel_rfl

/-- An address of which one cell is known is a plain one. -/
theorem plain_of {W : World} {a : Addr} {v : Value} (h : W.cell? (a.add 0) = some v) : a = ⟨a.block, a.off, none⟩ := by
  obtain ⟨b, off, spot⟩ := a
  have hspot : spot = none := by simpa [Addr.add] using World.cell?_spot h
  subst hspot
  rfl

/-- What the walk is told of the bytes that came in. -/
theorem view_bytes {H : Type} {enc : TypeId × Value → H} {W : World} {a0 : Option Addr} {len cap fuel : Nat} {x : DataW H × List MemPlace}
    (hf : DataW.trod enc Yba.prog W 0 (fun _ => true) true fuel 22 (Value.slice a0 len cap).cells.toList = some x) :
    ∃ (tb to : Nat) (Z : Nat → Int), (0 < len → a0 = some ⟨tb, to, none⟩) ∧ (∀ j, j < len → W.cell? ⟨tb, to + j, none⟩ = some (.int .u8 (Z j))) ∧ (∀ j, j < len → 0 ≤ Z j) ∧ (∀ j, j < len → Z j ≤ 255) ∧ len ≤ maxLen := by
  rcases open_ints Yba.underlying22 Yba.underlying5 Yba.cells5 hf with ⟨hcs, _⟩ | ⟨a, l, c, zs, hcs, _, hl, hm, hz, _, hcell, hwz⟩
  · simp [Value.cells] at hcs
    obtain ⟨rfl, rfl, rfl⟩ := hcs
    exact ⟨0, 0, fun _ => 0, fun h => absurd h (Nat.not_lt_zero _), fun _ h => absurd h (Nat.not_lt_zero _), fun _ _ => by omega, fun _ _ => by omega, by unfold maxLen; omega⟩
  · simp [Value.cells] at hcs
    obtain ⟨rfl, rfl, rfl⟩ := hcs
    simp only [if_true] at hz
    refine ⟨a.block, a.off, fun j => zs[j]?.getD 0, fun h => ?_, fun j hj => ?_, fun j _ => (range_u8 hwz j).1, fun j _ => (range_u8 hwz j).2, Nat.le_trans hl hm⟩
    · rw [← plain_of (hcell 0 (by omega))]
    · have h1 := hcell j (by omega)
      have h0 := plain_of (hcell 0 (by omega))
      rw [h0, add_plain] at h1
      simpa using h1

/-- What the walk is told of the bools that came in. -/
theorem view_bools {H : Type} {enc : TypeId × Value → H} {W : World} {a0 : Option Addr} {len cap fuel : Nat} {x : DataW H × List MemPlace}
    (hf : DataW.trod enc Yba.prog W 0 (fun _ => true) true fuel 23 (Value.slice a0 len cap).cells.toList = some x) :
    ∃ (tb to : Nat) (B : Nat → Bool), (0 < len → a0 = some ⟨tb, to, none⟩) ∧ (∀ j, j < len → W.cell? ⟨tb, to + j, none⟩ = some (.bool (B j))) ∧ len ≤ maxLen := by
  rcases Go.Deep.open_bools Yba.underlying23 Yba.underlying4 Yba.cells4 hf with ⟨hcs, _⟩ | ⟨a, l, c, B, hcs, _, hl, hm, _, hcell⟩
  · simp [Value.cells] at hcs
    obtain ⟨rfl, rfl, rfl⟩ := hcs
    exact ⟨0, 0, fun _ => false, fun h => absurd h (Nat.not_lt_zero _), fun _ h => absurd h (Nat.not_lt_zero _), by unfold maxLen; omega⟩
  · simp [Value.cells] at hcs
    obtain ⟨rfl, rfl, rfl⟩ := hcs
    refine ⟨a.block, a.off, B, fun h => ?_, fun j hj => ?_, Nat.le_trans hl hm⟩
    · rw [← plain_of (hcell 0 (by omega))]
    · have h1 := hcell j (by omega)
      have h0 := plain_of (hcell 0 (by omega))
      rw [h0, add_plain] at h1
      exact h1
end Go.Proofs.Ybulkangw
