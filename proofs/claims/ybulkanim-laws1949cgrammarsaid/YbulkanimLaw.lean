import Derived.Test.YbulkanimModel
import Derived.Test.YbulkanimScan
namespace Go.Proofs.Ybulkanim
open Go.RowKit

theorem Yba.info5 : (Yba.prog.info? 5).map (fun i => (i.zero, i.size, i.bytes)) = some (some (.int .u8 0), 1, 1) := by kernel_rfl

/-- The loop's world: one new row of bytes. -/
structure RowW (w wr : World) (m : Nat) : Prop where
  since : w.Since w.heap.size wr
  size : wr.heap.size = w.heap.size + 1
  row : ∃ F : Nat → Int, (∀ j, 0 ≤ F j ∧ F j ≤ 255) ∧ wr.rowIs w.heap.size 5 m (fun j => .int .u8 (F j))

theorem row_start (w : World) (m : Nat) : RowW w (w.alloc (.cells (madeCells #[.int .u8 0] m) 5)) m :=
  ⟨(World.Since.refl _ _).alloc (Nat.le_refl _) _, by simp, fun _ => 0, fun _ => by simp, World.rowIs_made w _ m 5⟩

theorem row_step {w wr : World} {m : Nat} (h : RowW w wr m) (k : Nat) (v : Int) (hv : 0 ≤ v ∧ v ≤ 255) : RowW w (wr.setCell ⟨w.heap.size, k, none⟩ (.int .u8 v)) m := by
  obtain ⟨F, hF, hr⟩ := h.row
  refine ⟨h.since.setCell (Nat.le_refl _) _, by simp [h.size], fun j => if j = k then v else F j, fun j => ?_, (hr.set k _).congr fun j _ => ?_⟩
  · by_cases e : j = k
    · simp [e]; exact hv
    · simp [e]; exact hF j
  · by_cases e : j = k <;> simp [e]

theorem u8_bd (u : UInt8) : 0 ≤ ((u.toNat : Nat) : Int) ∧ ((u.toNat : Nat) : Int) ≤ 255 := by
  have := u.toNat_lt
  omega

theorem rem_nat (a : Int) (m : Nat) (_ : 0 ≤ a) : ∃ p : Nat, a % ((m : Int) + 1) = (p : Int) ∧ p ≤ m := by
  have h0 : 0 ≤ a % ((m : Int) + 1) := Int.emod_nonneg _ (by omega)
  have h1 : a % ((m : Int) + 1) < (m : Int) + 1 := Int.emod_lt_of_pos _ (by omega)
  exact ⟨(a % ((m : Int) + 1)).toNat, by omega, by omega⟩

/-- What the law reads behind 'scanNumber'. -/
structure Seen (w w2 : World) (m pos : Nat) (dep : Int) (bad : Bool) (F : Nat → Int) : Prop where
  bel : Below w.heap.size w w2
  c0 : w2.cell? ⟨w.heap.size + 1, 0, none⟩ = some (.slice (some ⟨w.heap.size, 0, none⟩) m m)
  c1 : w2.cell? ⟨w.heap.size + 1, 1, none⟩ = some (.int .i64 pos)
  c2 : w2.cell? ⟨w.heap.size + 1, 2, none⟩ = some (.int .i64 dep)
  c3 : w2.cell? ⟨w.heap.size + 1, 3, none⟩ = some (.bool bad)
  row : ∀ j, j < m → w2.cell? ⟨w.heap.size, j, none⟩ = some (.int .u8 (F j))

theorem scan_law (w wr : World) (m q : Nat) (dep : Int) (F : Nat → Int) (hm : m ≤ 1024) (hq : q ≤ m) (hR : RowW w wr m) (hr : wr.rowIs w.heap.size 5 m (fun j => .int .u8 (F j))) :
    Calls Yba.prog 4 #[.pointer (some ⟨w.heap.size + 1, 0, none⟩)] (wr.alloc (.cells #[.slice (some ⟨w.heap.size, 0, none⟩) m m, .int .i64 q, .int .i64 dep, .bool false] 26))
      fun e w2 => e = .returned (.tuple #[]) ∧ ((Bad F m q ∧ Seen w w2 m q dep true F) ∨ ∃ pos : Nat, Good F m q pos ∧ Seen w w2 m pos dep false F) := by
  have hs := hR.size
  obtain ⟨W, hW⟩ : ∃ W, W = wr.alloc (.cells #[.slice (some ⟨w.heap.size, 0, none⟩) m m, .int .i64 q, .int .i64 dep, .bool false] 26) := ⟨_, rfl⟩
  have hc : ∀ j, W.cell? ⟨w.heap.size + 1, j, none⟩ = (#[Value.slice (some ⟨w.heap.size, 0, none⟩) m m, .int .i64 q, .int .i64 dep, .bool false] : Array Value)[j]? := fun j => by
    have := World.cell?_alloc_new wr #[Value.slice (some ⟨w.heap.size, 0, none⟩) m m, .int .i64 q, .int .i64 dep, .bool false] 26 j
    rw [hs] at this
    rw [hW]; exact this
  have hf : ∀ j, W.frozen? ⟨w.heap.size + 1, j, none⟩ = false := fun j => by
    have := World.frozen?_alloc_new wr #[Value.slice (some ⟨w.heap.size, 0, none⟩) m m, .int .i64 q, .int .i64 dep, .bool false] 26 j
    rw [hs] at this
    rw [hW]; exact this
  have hrow : ∀ j, j < m → W.cell? ⟨w.heap.size, j, none⟩ = some (.int .u8 (F j)) := fun j hj => by
    rw [hW]; exact (hr.alloc _).cell hj
  have hsz : W.heap.size = w.heap.size + 2 := by rw [hW]; simp [hs]
  have hbel : Below w.heap.size w W := by
    rw [hW]
    exact (show Below w.heap.size w wr from ⟨hR.since.os, hR.since.tape, hR.since.output, hR.since.size, hR.since.block⟩).alloc (by rw [hs]; omega) _
  rw [← hW]
  refine (scan_any (w.heap.size + 1) w.heap.size m m q F hm hq W (by rw [hc]; rfl) (by rw [hc]; rfl) (by rw [hc]; rfl) (hf 1) (hf 3) (by omega) (by omega) hrow).mono ?_
  rintro e w2 ⟨rfl, wx, i, hE, h⟩
  refine ⟨rfl, ?_⟩
  have xc : ∀ j, wx.cell? ⟨w.heap.size + 1, j, none⟩ = (#[Value.slice (some ⟨w.heap.size, 0, none⟩) m m, .int .i64 q, .int .i64 dep, .bool false] : Array Value)[j]? := fun j => by
    rw [hE.cell (p := ⟨w.heap.size + 1, j, none⟩) (by show w.heap.size + 1 < W.heap.size; omega)]; exact hc j
  have xrow : ∀ j, j < m → wx.cell? ⟨w.heap.size, j, none⟩ = some (.int .u8 (F j)) := fun j hj => by
    rw [hE.cell (p := ⟨w.heap.size, j, none⟩) (by show w.heap.size < W.heap.size; omega)]; exact hrow j hj
  have xbel : Below w.heap.size w wx := hbel.trans ⟨hE.os, hE.tape, hE.output, by rw [hE.size]; omega, fun k hk => hE.old k (by omega)⟩
  have other : ∀ (o j : Nat) (v : Value), o ≠ j → (wx.setCell ⟨w.heap.size + 1, o, none⟩ v).cell? ⟨w.heap.size + 1, j, none⟩ = wx.cell? ⟨w.heap.size + 1, j, none⟩ := fun o j v h =>
    World.cell?_setCell_other _ _ _ _ (fun e => h (by injection e))
  have otherR : ∀ (o j : Nat) (v : Value), (wx.setCell ⟨w.heap.size + 1, o, none⟩ v).cell? ⟨w.heap.size, j, none⟩ = wx.cell? ⟨w.heap.size, j, none⟩ := fun o j v =>
    World.cell?_setCell_other _ _ _ _ (fun e => by have := congrArg Addr.block e; simp at this)
  have same : ∀ (o : Nat) (u v : Value), wx.cell? ⟨w.heap.size + 1, o, none⟩ = some u → (wx.setCell ⟨w.heap.size + 1, o, none⟩ v).cell? ⟨w.heap.size + 1, o, none⟩ = some v := fun o u v h =>
    World.cell?_setCell_same _ _ _ h
  rcases h with ⟨hb, rfl⟩ | ⟨pos, hg, rfl⟩
  · refine .inl ⟨hb, xbel.setCell (by show w.heap.size ≤ w.heap.size + 1; omega) _, ?_, ?_, ?_, ?_, fun j hj => by rw [otherR]; exact xrow j hj⟩
    · rw [other _ _ _ (by omega), xc]; rfl
    · rw [other _ _ _ (by omega), xc]; rfl
    · rw [other _ _ _ (by omega), xc]; rfl
    · exact same 3 _ _ (by rw [xc]; rfl)
  · refine .inr ⟨pos, hg, xbel.setCell (by show w.heap.size ≤ w.heap.size + 1; omega) _, ?_, ?_, ?_, ?_, fun j hj => by rw [otherR]; exact xrow j hj⟩
    · rw [other _ _ _ (by omega), xc]; rfl
    · exact same 1 _ _ (by rw [xc]; rfl)
    · rw [other _ _ _ (by omega), xc]; rfl
    · rw [other _ _ _ (by omega), xc]; rfl

set_option maxRecDepth 1000000 in
set_option maxHeartbeats 4000000 in
theorem law_walk (ta : Option Addr) (tb tf m tc : Nat) (Z : Nat → Int) (p : Int) (raw : Bool) (dep : Int) (w : World)
    (hta : 0 < m → ta = some ⟨tb, tf, none⟩) (hZ : ∀ j, j < m → w.cell? ⟨tb, tf + j, none⟩ = some (.int .u8 (Z j))) (hZ0 : ∀ j, j < m → 0 ≤ Z j) (hZ1 : ∀ j, j < m → Z j ≤ 255)
    (p0 : 0 ≤ p) (p1 : p ≤ 65535) (hml : m ≤ maxLen) :
    Calls Yba.prog 3 #[.slice ta m tc, .int .u16 p, .bool raw, .int .i64 dep] w fun e w' => e = .returned (.bool true) ∧ Below w.heap.size w w' := by
  unfold maxLen at hml
  by_cases h1 : 1024 < m
  · clear hta hZ hZ0 hZ1
    go_enter Yba.func3, Yba.ntmps3
    go_wp2
    go_ret
    exact ⟨rfl, Below.refl _ _⟩
  have hmk := run_make_row' (P := Yba.prog) 22 5 (.int .u8 0) 1 Yba.underlying22 Yba.info5 rfl .i64 .i64 m (by omega) (by omega)
  go_enter Yba.func3, Yba.ntmps3
  go_wp2
  clear hmk
  go_loopw [10] (fun t wr => ∃ k : Nat, k ≤ m ∧ t = .int .i64 k ∧ Hid (RowW w wr m)) (fun t _ => (1100 - intOf t).toNat)
  case atStart => exact ⟨0, by omega, rfl, row_start w m⟩
  case round =>
    obtain ⟨k, hk, rfl, HR⟩ := hrel
    by_cases hlt : k < m
    · obtain rfl := hta (by omega)
      have htb : tb < w.heap.size := World.block_lt_of_cell? _ _ (hZ k hlt)
      have g0 : wr.cell? ⟨tb, tf + k, none⟩ = some (.int .u8 (Z k)) := by rw [HR.out.since.cell (a := ⟨tb, tf + k, none⟩) htb]; exact hZ k hlt
      obtain ⟨F0, hF0, hr0⟩ := HR.out.row
      have g1 : wr.cell? ⟨w.heap.size, k, none⟩ = some (.int .u8 (F0 k)) := hr0.cell hlt
      have g2 : wr.frozen? ⟨w.heap.size, k, none⟩ = false := hr0.frozen k
      have z0 := hZ0 k hlt
      have z1 := hZ1 k hlt
      clear hZ hZ0 hZ1 hta hr0 hF0
      cases raw
      · go_wp2
        go_roundw
        case rel => exact ⟨k + 1, by omega, by go_num, row_step HR.out k _ (u8_bd _)⟩
        case measure => simp [intOf]; omega
      · go_wp2
        go_roundw
        case rel => exact ⟨k + 1, by omega, by go_num, row_step HR.out k _ ⟨z0, z1⟩⟩
        case measure => simp [intOf]; omega
    · clear hZ hZ0 hZ1 hta
      obtain ⟨F, hF, hr⟩ := HR.out.row
      obtain ⟨q, hq, ql⟩ := rem_nat p m p0
      have hsz := HR.out.size
      have CS := hide_it (scan_law w wr m q dep F (by omega) ql HR.out hr)
      clear hr
      go_wp2_with fail
      refine Calls.mono CS.out ?_
      rintro e w2 ⟨rfl, h⟩
      clear CS HR hsz
      rcases h with ⟨hb, hS⟩ | ⟨pos, hg, hS⟩
      · have CM := hide_it (model_any w.heap.size m m q F (by omega) ql w2 hS.row (fun j _ => (hF j).1) (fun j _ => (hF j).2))
        have c0 := hS.c0
        have c1 := hS.c1
        have c2 := hS.c2
        have c3 := hS.c3
        have HB := hide_it hS.bel
        have HX := hide_it hb
        clear hS hb hF
        go_wp2_with fail
        refine Calls.mono CM.out ?_
        rintro e w3 ⟨ht, rfl⟩
        obtain rfl := ht.2 HX.out
        clear ht CM
        go_wp2
        go_ret
        exact ⟨rfl, HB.out⟩
      · have CM := hide_it (model_any w.heap.size m m q F (by omega) ql w2 hS.row (fun j _ => (hF j).1) (fun j _ => (hF j).2))
        have c0 := hS.c0
        have c1 := hS.c1
        have c2 := hS.c2
        have c3 := hS.c3
        have HB := hide_it hS.bel
        have HX := hide_it hg
        clear hS hg hF
        go_wp2_with fail
        refine Calls.mono CM.out ?_
        rintro e w3 ⟨ht, rfl⟩
        have he := ht.1 HX.out.1
        rw [HX.out.2] at he
        subst he
        clear ht CM
        go_wp2
        go_ret
        exact ⟨rfl, HB.out⟩
end Go.Proofs.Ybulkanim
