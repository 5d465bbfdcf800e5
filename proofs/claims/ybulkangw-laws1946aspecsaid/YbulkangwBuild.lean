import Derived.Test.YbulkangwLeaf
namespace Go.Proofs.Ybulkangw
open Go.RowKit

theorem Yba.info21 : (Yba.prog.info? 21).map (fun i => (i.zero, i.size, i.bytes)) = some (some (.int .i32 0), 1, 4) := by kernel_rfl
theorem Yba.info4 : (Yba.prog.info? 4).map (fun i => (i.zero, i.size, i.bytes)) = some (some (.bool false), 1, 1) := by kernel_rfl

/-- The first loop's world: one new row, whose first k symbols are not negative. -/
structure R1 (w wr : World) (m k : Nat) : Prop where
  since : w.Since w.heap.size wr
  size : wr.heap.size = w.heap.size + 1
  row : ∃ T : Nat → Int, (∀ j, j < k → 0 ≤ T j) ∧ wr.rowIs w.heap.size 21 (m + 1) (fun j => .int .i32 (T j))

/-- The second loop's world: two new rows; the text is whole. -/
structure R2 (w wr : World) (m : Nat) (T : Nat → Int) : Prop where
  since : w.Since w.heap.size wr
  size : wr.heap.size = w.heap.size + 2
  text : wr.rowIs w.heap.size 21 (m + 1) (fun j => .int .i32 (T j))
  row : ∃ S : Nat → Bool, wr.rowIs (w.heap.size + 1) 4 (m + 1) (fun j => .bool (S j))

theorem r1_start (w : World) (m : Nat) : R1 w (w.alloc (.cells (madeCells #[.int .i32 0] (m + 1)) 21)) m 0 :=
  ⟨(World.Since.refl _ _).alloc (Nat.le_refl _) _, by simp, fun _ => 0, fun _ h => absurd h (Nat.not_lt_zero _), World.rowIs_made w _ (m + 1) 21⟩

theorem r1_step {w wr : World} {m k : Nat} (h : R1 w wr m k) (v : Int) (hv : 0 ≤ v) : R1 w (wr.setCell ⟨w.heap.size, k, none⟩ (.int .i32 v)) m (k + 1) := by
  obtain ⟨T, hT, hr⟩ := h.row
  refine ⟨h.since.setCell (Nat.le_refl _) _, by simp [h.size], fun j => if j = k then v else T j, fun j hj => ?_, (hr.set k _).congr fun j _ => ?_⟩
  · by_cases e : j = k
    · simp [e, hv]
    · simp [e]; exact hT j (by omega)
  · by_cases e : j = k <;> simp [e]

theorem r2_start {w wr : World} {m : Nat} (h : R1 w wr m m) :
    ∃ T : Nat → Int, T m = -1 ∧ (∀ i, i < m → 0 ≤ T i) ∧ R2 w ((wr.setCell ⟨w.heap.size, m, none⟩ (.int .i32 (-1))).alloc (.cells (madeCells #[.bool false] (m + 1)) 4)) m T := by
  obtain ⟨T, hT, hr⟩ := h.row
  refine ⟨fun j => if j = m then -1 else T j, by simp, fun i hi => ?_, (h.since.setCell (Nat.le_refl _) _).alloc (by simp [h.size]) _, by simp [h.size], ((hr.set m _).congr fun j _ => ?_).alloc _, fun _ => false, ?_⟩
  · simp [show i ≠ m by omega]; exact hT i hi
  · by_cases e : j = m <;> simp [e]
  · have := World.rowIs_made (wr.setCell ⟨w.heap.size, m, none⟩ (.int .i32 (-1))) (.bool false) (m + 1) 4
    simpa [h.size] using this

theorem r2_step {w wr : World} {m : Nat} {T : Nat → Int} (h : R2 w wr m T) (k : Nat) (v : Bool) : R2 w (wr.setCell ⟨w.heap.size + 1, k, none⟩ (.bool v)) m T := by
  obtain ⟨S, hr⟩ := h.row
  refine ⟨h.since.setCell (Nat.le_succ _) _, by simp [h.size], h.text.setOther (by show w.heap.size ≠ w.heap.size + 1; omega) _, fun j => if j = k then v else S j, (hr.set k _).congr fun j _ => ?_⟩
  by_cases e : j = k <;> simp [e]

/-- What 'zzs1946abuild' leaves. -/
structure Built (w wr : World) (m : Nat) (T : Nat → Int) (S : Nat → Bool) : Prop where
  since : w.Since w.heap.size wr
  size : wr.heap.size = w.heap.size + 2
  wf : Wf m T S
  text : wr.rowIs w.heap.size 21 (m + 1) (fun j => .int .i32 (T j))
  sm : wr.rowIs (w.heap.size + 1) 4 (m + 1) (fun j => .bool (S j))

theorem built {w wr : World} {m : Nat} {T : Nat → Int} (hm : 1 ≤ m) (hl : T m = -1) (hT : ∀ i, i < m → 0 ≤ T i) (h : R2 w wr m T) :
    ∃ S : Nat → Bool, Built w ((wr.setCell ⟨w.heap.size + 1, m, none⟩ (.bool true)).setCell ⟨w.heap.size + 1, m - 1, none⟩ (.bool false)) m T S := by
  obtain ⟨S, hr⟩ := h.row
  have h1 := (r2_step (r2_step h m true) (m - 1) false)
  refine ⟨fun j => if j = m - 1 then false else if j = m then true else S j, h1.since, h1.size, ⟨hm, hl, hT, ?_, ?_⟩, h1.text, ((hr.set m _).set (m - 1) _).congr fun j _ => ?_⟩
  · simp [show m ≠ m - 1 by omega]
  · simp
  · by_cases e : j = m - 1
    · simp [e]
    · by_cases e2 : j = m <;> simp [e, e2]

set_option maxHeartbeats 1000000 in
theorem build_any (tb to m tc : Nat) (Z : Nat → Int) (sa : Option Addr) (sb so ls sc : Nat) (B : Nat → Bool) (w : World) (hm1 : 1 ≤ m) (hm : m ≤ 1024) (hls : ls ≤ 1024)
    (hZ : ∀ j, j < m → w.cell? ⟨tb, to + j, none⟩ = some (.int .u8 (Z j))) (hZ0 : ∀ j, j < m → 0 ≤ Z j) (hZ1 : ∀ j, j < m → Z j ≤ 255)
    (hsa : 0 < ls → sa = some ⟨sb, so, none⟩) (hB : ∀ j, j < ls → w.cell? ⟨sb, so + j, none⟩ = some (.bool (B j))) :
    Calls Yba.prog 5 #[.slice (some ⟨tb, to, none⟩) m tc, .slice sa ls sc] w fun e w' => e = .returned (.tuple #[.slice (some ⟨w.heap.size, 0, none⟩) (m + 1) (m + 1), .slice (some ⟨w.heap.size + 1, 0, none⟩) (m + 1) (m + 1)]) ∧ ∃ T S, Built w w' m T S := by
  have hmk := run_make_row' (P := Yba.prog) 25 21 (.int .i32 0) 4 Yba.underlying25 Yba.info21 rfl .i64 .i64 (m + 1) (by omega) (by omega)
  have ec : ((m + 1 : Nat) : Int) = (m : Int) + 1 := by omega
  rw [ec] at hmk
  have hmk2 := run_make_row' (P := Yba.prog) 23 4 (.bool false) 1 Yba.underlying23 Yba.info4 rfl .i64 .i64 (m + 1) (by omega) (by omega)
  rw [ec] at hmk2
  clear ec
  go_enter Yba.func5, Yba.ntmps5
  go_wp2
  clear hmk
  go_loopw [8] (fun t wr => ∃ k : Nat, k ≤ m ∧ t = .int .i64 k ∧ R1 w wr m k) (fun t _ => (1100 - intOf t).toNat)
  case atStart => exact ⟨0, by omega, rfl, r1_start w m⟩
  case round =>
    obtain ⟨k, hk, rfl, hR⟩ := hrel
    have hsize := hR.size
    by_cases hlt : k < m
    · have htb : tb < w.heap.size := World.block_lt_of_cell? _ _ (hZ k hlt)
      have g0 : wr.cell? ⟨tb, to + k, none⟩ = some (.int .u8 (Z k)) := by rw [hR.since.cell (a := ⟨tb, to + k, none⟩) htb]; exact hZ k hlt
      obtain ⟨T0, _, hr0⟩ := hR.row
      have g1 : wr.cell? ⟨w.heap.size, k, none⟩ = some (.int .i32 (T0 k)) := hr0.cell (by omega)
      have g2 : wr.frozen? ⟨w.heap.size, k, none⟩ = false := hr0.frozen k
      have z0 := hZ0 k hlt
      have z1 := hZ1 k hlt
      go_wp2
      go_roundw
      case rel => exact ⟨k + 1, by omega, by go_num, r1_step hR _ (by omega)⟩
      case measure => simp [intOf]; omega
    · obtain rfl : k = m := by omega
      obtain ⟨T0, _, hr0⟩ := hR.row
      have g1 : wr.cell? ⟨w.heap.size, k, none⟩ = some (.int .i32 (T0 k)) := hr0.cell (by omega)
      have g2 : wr.frozen? ⟨w.heap.size, k, none⟩ = false := hr0.frozen k
      obtain ⟨T, hTl, hT0, hR2⟩ := r2_start hR
      have HT : Hid (T k = -1) := hTl
      clear hTl hr0 hR hZ hZ0 hZ1
      go_wp2
      clear hmk2 g1 g2
      go_loopw [10] (fun t wr => ∃ i : Nat, i ≤ k + 1 ∧ t = .int .i64 i ∧ R2 w wr k T) (fun t _ => (1100 - intOf t).toNat)
      case atStart => exact ⟨0, by omega, rfl, hR2⟩
      case round =>
        clear hR2
        obtain ⟨i, hi, rfl, hR⟩ := hrel
        clear hsize
        have hsize := hR.size
        obtain ⟨S0, hr0⟩ := hR.row
        by_cases hlt : i < k + 1 ∧ i < ls
        · obtain ⟨h1, h2⟩ := hlt
          obtain rfl := hsa (by omega)
          have hsb : sb < w.heap.size := World.block_lt_of_cell? _ _ (hB i h2)
          have g0 : wr.cell? ⟨sb, so + i, none⟩ = some (.bool (B i)) := by rw [hR.since.cell (a := ⟨sb, so + i, none⟩) hsb]; exact hB i h2
          have g1 : wr.cell? ⟨w.heap.size + 1, i, none⟩ = some (.bool (S0 i)) := hr0.cell (by omega)
          have g2 : wr.frozen? ⟨w.heap.size + 1, i, none⟩ = false := hr0.frozen i
          clear hr0 hB
          go_wp2
          go_roundw
          case rel => exact ⟨i + 1, by omega, by go_num, r2_step hR i _⟩
          case measure => simp [intOf]; omega
        · have g1 : wr.cell? ⟨w.heap.size + 1, k, none⟩ = some (.bool (S0 k)) := hr0.cell (by omega)
          have g2 : wr.frozen? ⟨w.heap.size + 1, k, none⟩ = false := hr0.frozen k
          have g3 : wr.cell? ⟨w.heap.size + 1, k - 1, none⟩ = some (.bool (S0 (k - 1))) := hr0.cell (by omega)
          have g4 : wr.frozen? ⟨w.heap.size + 1, k - 1, none⟩ = false := hr0.frozen (k - 1)
          by_cases h1 : i < k + 1
          · have h2 : ¬ i < ls := fun h => hlt ⟨h1, h⟩
            clear hlt hr0 hB hsa
            go_wp2
            go_ret2
            exact ⟨rfl, T, built hm1 HT.out hT0 hR⟩
          · clear hlt hr0 hB hsa
            go_wp2
            go_ret2
            exact ⟨rfl, T, built hm1 HT.out hT0 hR⟩
end Go.Proofs.Ybulkangw
