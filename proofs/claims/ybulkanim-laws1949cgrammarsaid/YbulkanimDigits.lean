import Derived.Test.YbulkanimRows
import Derived.Test.YbulkanimPlain
import Derived.WalkKit
import Derived.WalkSpells
import Derived.WalkLawsBesides
import Derived.Deep.OwnRows
import Derived.Deep.LoopGhost
namespace Go.Proofs.Ybulkanim
open Go.RowKit

theorem hide_it {p : Prop} (h : p) : Hid p := h

/-- Only block b may have turned. -/
structure But (b : Nat) (w w' : World) : Prop where
  os : w'.os = w.os
  tape : w'.tape = w.tape
  output : w'.output = w.output
  size : w'.heap.size = w.heap.size
  block : ∀ k, k ≠ b → w'.heap[k]? = w.heap[k]?

theorem But.refl (b : Nat) (w : World) : But b w w := ⟨rfl, rfl, rfl, rfl, fun _ _ => rfl⟩
theorem But.setCell {b : Nat} {w w' : World} (h : But b w w') (o : Nat) (v : Value) : But b w (w'.setCell ⟨b, o, none⟩ v) :=
  ⟨h.os, h.tape, h.output, by simp [World.setCell, h.size], fun k hk => by rw [Below.heap_setCell _ _ _ _ hk]; exact h.block k hk⟩
theorem But.cell {b : Nat} {w w' : World} (h : But b w w') {p : Addr} (hp : p.block ≠ b) : w'.cell? p = w.cell? p := World.cell?_of_block (w := w) (h.block p.block hp)
theorem But.frozen {b : Nat} {w w' : World} (h : But b w w') {p : Addr} (hp : p.block ≠ b) : w'.frozen? p = w.frozen? p := World.frozen?_of_block (w := w) (h.block p.block hp)

theorem de_step {D : Nat → Int} {i k : Nat} (h : ∀ j, i ≤ j → j < k → dig (D j)) (hd : dig (D k)) : ∀ j, i ≤ j → j < k + 1 → dig (D j) := fun j h1 h2 => by
  by_cases e : j = k
  · subst e; exact hd
  · exact h j h1 (by omega)

set_option maxHeartbeats 1000000 in
theorem digits_any (Bi Bv Bd : Nat) (D : Nat → Int) (n i c : Nat) (hn : n ≤ 1024) (hi : i ≤ n) (w : World) (h1 : Bv ≠ Bi) (h2 : Bd ≠ Bi)
    (hI : w.heap[Bi]? = some (.cells #[.int .i64 i] 3 (0, 0))) (hV : w.cell? ⟨Bv, 0, none⟩ = some (.slice (some ⟨Bd, 0, none⟩) n c)) (hD : ∀ j, j < n → w.cell? ⟨Bd, j, none⟩ = some (.int .u8 (D j))) :
    Calls Yba.prog 6 #[.pointer (some ⟨Bi, 0, none⟩), .pointer (some ⟨Bv, 0, none⟩)] w fun e w' => ∃ k : Nat, e = .returned (.bool (decide (i < k))) ∧ DE D n i k ∧ But Bi w w' ∧ w'.heap[Bi]? = some (.cells #[.int .i64 k] 3 (0, 0)) := by
  have ci := cell_of_one hI
  go_enter Yba.func6, Yba.ntmps6
  go_wp2
  clear ci
  go_loopg [5] (n - i) (fun g _ wr => ∃ k : Nat, k ≤ n ∧ i ≤ k ∧ g = n - k ∧ Hid (∀ j, i ≤ j → j < k → dig (D j)) ∧ Hid (But Bi w wr) ∧ Hid (wr.heap[Bi]? = some (.cells #[.int .i64 k] 3 (0, 0))))
  case atStart => exact ⟨i, hi, Nat.le_refl _, rfl, fun j h1 h2 => absurd h2 (by omega), But.refl _ _, hI⟩
  case round =>
    obtain ⟨k, hk, hik, rfl, HD, HB, HK⟩ := hrel
    have ck := cell_of_one HK.out
    have fk := free_of_one HK.out
    have cv : wr.cell? ⟨Bv, 0, none⟩ = some (.slice (some ⟨Bd, 0, none⟩) n c) := (HB.out.cell (p := ⟨Bv, 0, none⟩) h1).trans hV
    by_cases hlt : k < n
    · have cd : wr.cell? ⟨Bd, k, none⟩ = some (.int .u8 (D k)) := (HB.out.cell (p := ⟨Bd, k, none⟩) h2).trans (hD k hlt)
      by_cases hdg : dig (D k)
      · obtain ⟨g1, g2⟩ := hdg
        have HN := hide_it (de_step HD.out ⟨g1, g2⟩)
        go_wp2
        go_roundg (n - (k + 1))
        case measure => omega
        case rel => exact ⟨k + 1, by omega, by omega, rfl, HN, HB.out.setCell 0 _, one_setCell HK.out⟩
      · have HE : Hid (¬ dig (D k)) := hdg
        by_cases g1 : 48 ≤ D k
        · have g2 : ¬ D k ≤ 57 := fun g2 => hdg ⟨g1, g2⟩
          clear hdg
          go_wp2
          go_ret
          exact ⟨k, rfl, ⟨hik, hk, HD.out, fun _ => HE.out⟩, HB.out, HK.out⟩
        · clear hdg
          go_wp2
          go_ret
          exact ⟨k, rfl, ⟨hik, hk, HD.out, fun _ => HE.out⟩, HB.out, HK.out⟩
    · go_wp2
      go_ret
      exact ⟨k, rfl, ⟨hik, hk, HD.out, fun h => absurd h hlt⟩, HB.out, HK.out⟩
end Go.Proofs.Ybulkanim
