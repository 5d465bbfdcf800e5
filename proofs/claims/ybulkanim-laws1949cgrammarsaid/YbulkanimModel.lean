import Derived.Test.YbulkanimDigits
namespace Go.Proofs.Ybulkanim
open Go.RowKit

/-- What 'zzs1949cmodel' answers. -/
def Told (D : Nat → Int) (n p : Nat) (e : Ending) : Prop :=
  (acc (R D n 0 p).1 = true → e = .returned (.tuple #[.int .i64 (R D n 0 p).2, .bool true])) ∧ (acc (R D n 0 p).1 = false → e = .returned (.tuple #[.int .i64 p, .bool false]))

theorem told_yes {D : Nat → Int} {n p s k : Nat} (hR : R D n s k = R D n 0 p) (hs : R D n s k = (s, k)) (ha : acc s = true) : Told D n p (.returned (.tuple #[.int .i64 k, .bool true])) := by
  unfold Told
  rw [← hR, hs]
  exact ⟨fun _ => rfl, fun h => absurd (ha.symm.trans h) (by decide)⟩

theorem told_no {D : Nat → Int} {n p s k : Nat} (hR : R D n s k = R D n 0 p) (hs : R D n s k = (s, k)) (ha : acc s = false) : Told D n p (.returned (.tuple #[.int .i64 p, .bool false])) := by
  unfold Told
  rw [← hR, hs]
  exact ⟨fun h => absurd (ha.symm.trans h) (by decide), fun _ => rfl⟩

theorem goes {D : Nat → Int} {n p s t k : Nat} (hR : R D n s k = R D n 0 p) (hk : k < n) (h : nx s (D k) = some t) : Hid (R D n t (k + 1) = R D n 0 p) := by
  rw [← hR]
  exact (R_some hk h).symm

theorem nx0_0 {c : Int} (h1 : 0 ≤ c) (h2 : c ≤ 44) : nx 0 c = none := by simp only [nx]; repeat (first | rfl | rw [if_pos (by omega)] | rw [if_neg (by omega)])
theorem nx0_45 {c : Int} (h1 : 45 ≤ c) (h2 : c ≤ 45) : nx 0 c = some 1 := by simp only [nx]; repeat (first | rfl | rw [if_pos (by omega)] | rw [if_neg (by omega)])
theorem nx0_46 {c : Int} (h1 : 46 ≤ c) (h2 : c ≤ 47) : nx 0 c = none := by simp only [nx]; repeat (first | rfl | rw [if_pos (by omega)] | rw [if_neg (by omega)])
theorem nx0_48 {c : Int} (h1 : 48 ≤ c) (h2 : c ≤ 48) : nx 0 c = some 2 := by simp only [nx]; repeat (first | rfl | rw [if_pos (by omega)] | rw [if_neg (by omega)])
theorem nx0_49 {c : Int} (h1 : 49 ≤ c) (h2 : c ≤ 57) : nx 0 c = some 3 := by simp only [nx]; repeat (first | rfl | rw [if_pos (by omega)] | rw [if_neg (by omega)])
theorem nx0_58 {c : Int} (h1 : 58 ≤ c) (h2 : c ≤ 255) : nx 0 c = none := by simp only [nx]; repeat (first | rfl | rw [if_pos (by omega)] | rw [if_neg (by omega)])
theorem nx1_0 {c : Int} (h1 : 0 ≤ c) (h2 : c ≤ 47) : nx 1 c = none := by simp only [nx]; repeat (first | rfl | rw [if_pos (by omega)] | rw [if_neg (by omega)])
theorem nx1_48 {c : Int} (h1 : 48 ≤ c) (h2 : c ≤ 48) : nx 1 c = some 2 := by simp only [nx]; repeat (first | rfl | rw [if_pos (by omega)] | rw [if_neg (by omega)])
theorem nx1_49 {c : Int} (h1 : 49 ≤ c) (h2 : c ≤ 57) : nx 1 c = some 3 := by simp only [nx]; repeat (first | rfl | rw [if_pos (by omega)] | rw [if_neg (by omega)])
theorem nx1_58 {c : Int} (h1 : 58 ≤ c) (h2 : c ≤ 255) : nx 1 c = none := by simp only [nx]; repeat (first | rfl | rw [if_pos (by omega)] | rw [if_neg (by omega)])
theorem nx2_0 {c : Int} (h1 : 0 ≤ c) (h2 : c ≤ 45) : nx 2 c = none := by simp only [nx]; repeat (first | rfl | rw [if_pos (by omega)] | rw [if_neg (by omega)])
theorem nx2_46 {c : Int} (h1 : 46 ≤ c) (h2 : c ≤ 46) : nx 2 c = some 4 := by simp only [nx]; repeat (first | rfl | rw [if_pos (by omega)] | rw [if_neg (by omega)])
theorem nx2_47 {c : Int} (h1 : 47 ≤ c) (h2 : c ≤ 47) : nx 2 c = none := by simp only [nx]; repeat (first | rfl | rw [if_pos (by omega)] | rw [if_neg (by omega)])
theorem nx2_48 {c : Int} (h1 : 48 ≤ c) (h2 : c ≤ 57) : nx 2 c = none := by simp only [nx]; repeat (first | rfl | rw [if_pos (by omega)] | rw [if_neg (by omega)])
theorem nx2_58 {c : Int} (h1 : 58 ≤ c) (h2 : c ≤ 68) : nx 2 c = none := by simp only [nx]; repeat (first | rfl | rw [if_pos (by omega)] | rw [if_neg (by omega)])
theorem nx2_69 {c : Int} (h1 : 69 ≤ c) (h2 : c ≤ 69) : nx 2 c = some 6 := by simp only [nx]; repeat (first | rfl | rw [if_pos (by omega)] | rw [if_neg (by omega)])
theorem nx2_70 {c : Int} (h1 : 70 ≤ c) (h2 : c ≤ 100) : nx 2 c = none := by simp only [nx]; repeat (first | rfl | rw [if_pos (by omega)] | rw [if_neg (by omega)])
theorem nx2_101 {c : Int} (h1 : 101 ≤ c) (h2 : c ≤ 101) : nx 2 c = some 6 := by simp only [nx]; repeat (first | rfl | rw [if_pos (by omega)] | rw [if_neg (by omega)])
theorem nx2_102 {c : Int} (h1 : 102 ≤ c) (h2 : c ≤ 255) : nx 2 c = none := by simp only [nx]; repeat (first | rfl | rw [if_pos (by omega)] | rw [if_neg (by omega)])
theorem nx3_0 {c : Int} (h1 : 0 ≤ c) (h2 : c ≤ 45) : nx 3 c = none := by simp only [nx]; repeat (first | rfl | rw [if_pos (by omega)] | rw [if_neg (by omega)])
theorem nx3_46 {c : Int} (h1 : 46 ≤ c) (h2 : c ≤ 46) : nx 3 c = some 4 := by simp only [nx]; repeat (first | rfl | rw [if_pos (by omega)] | rw [if_neg (by omega)])
theorem nx3_47 {c : Int} (h1 : 47 ≤ c) (h2 : c ≤ 47) : nx 3 c = none := by simp only [nx]; repeat (first | rfl | rw [if_pos (by omega)] | rw [if_neg (by omega)])
theorem nx3_48 {c : Int} (h1 : 48 ≤ c) (h2 : c ≤ 57) : nx 3 c = some 3 := by simp only [nx]; repeat (first | rfl | rw [if_pos (by omega)] | rw [if_neg (by omega)])
theorem nx3_58 {c : Int} (h1 : 58 ≤ c) (h2 : c ≤ 68) : nx 3 c = none := by simp only [nx]; repeat (first | rfl | rw [if_pos (by omega)] | rw [if_neg (by omega)])
theorem nx3_69 {c : Int} (h1 : 69 ≤ c) (h2 : c ≤ 69) : nx 3 c = some 6 := by simp only [nx]; repeat (first | rfl | rw [if_pos (by omega)] | rw [if_neg (by omega)])
theorem nx3_70 {c : Int} (h1 : 70 ≤ c) (h2 : c ≤ 100) : nx 3 c = none := by simp only [nx]; repeat (first | rfl | rw [if_pos (by omega)] | rw [if_neg (by omega)])
theorem nx3_101 {c : Int} (h1 : 101 ≤ c) (h2 : c ≤ 101) : nx 3 c = some 6 := by simp only [nx]; repeat (first | rfl | rw [if_pos (by omega)] | rw [if_neg (by omega)])
theorem nx3_102 {c : Int} (h1 : 102 ≤ c) (h2 : c ≤ 255) : nx 3 c = none := by simp only [nx]; repeat (first | rfl | rw [if_pos (by omega)] | rw [if_neg (by omega)])
theorem nx4_0 {c : Int} (h1 : 0 ≤ c) (h2 : c ≤ 47) : nx 4 c = none := by simp only [nx]; repeat (first | rfl | rw [if_pos (by omega)] | rw [if_neg (by omega)])
theorem nx4_48 {c : Int} (h1 : 48 ≤ c) (h2 : c ≤ 57) : nx 4 c = some 5 := by simp only [nx]; repeat (first | rfl | rw [if_pos (by omega)] | rw [if_neg (by omega)])
theorem nx4_58 {c : Int} (h1 : 58 ≤ c) (h2 : c ≤ 255) : nx 4 c = none := by simp only [nx]; repeat (first | rfl | rw [if_pos (by omega)] | rw [if_neg (by omega)])
theorem nx5_0 {c : Int} (h1 : 0 ≤ c) (h2 : c ≤ 47) : nx 5 c = none := by simp only [nx]; repeat (first | rfl | rw [if_pos (by omega)] | rw [if_neg (by omega)])
theorem nx5_48 {c : Int} (h1 : 48 ≤ c) (h2 : c ≤ 57) : nx 5 c = some 5 := by simp only [nx]; repeat (first | rfl | rw [if_pos (by omega)] | rw [if_neg (by omega)])
theorem nx5_58 {c : Int} (h1 : 58 ≤ c) (h2 : c ≤ 68) : nx 5 c = none := by simp only [nx]; repeat (first | rfl | rw [if_pos (by omega)] | rw [if_neg (by omega)])
theorem nx5_69 {c : Int} (h1 : 69 ≤ c) (h2 : c ≤ 69) : nx 5 c = some 6 := by simp only [nx]; repeat (first | rfl | rw [if_pos (by omega)] | rw [if_neg (by omega)])
theorem nx5_70 {c : Int} (h1 : 70 ≤ c) (h2 : c ≤ 100) : nx 5 c = none := by simp only [nx]; repeat (first | rfl | rw [if_pos (by omega)] | rw [if_neg (by omega)])
theorem nx5_101 {c : Int} (h1 : 101 ≤ c) (h2 : c ≤ 101) : nx 5 c = some 6 := by simp only [nx]; repeat (first | rfl | rw [if_pos (by omega)] | rw [if_neg (by omega)])
theorem nx5_102 {c : Int} (h1 : 102 ≤ c) (h2 : c ≤ 255) : nx 5 c = none := by simp only [nx]; repeat (first | rfl | rw [if_pos (by omega)] | rw [if_neg (by omega)])
theorem nx6_0 {c : Int} (h1 : 0 ≤ c) (h2 : c ≤ 42) : nx 6 c = none := by simp only [nx]; repeat (first | rfl | rw [if_pos (by omega)] | rw [if_neg (by omega)])
theorem nx6_43 {c : Int} (h1 : 43 ≤ c) (h2 : c ≤ 43) : nx 6 c = some 7 := by simp only [nx]; repeat (first | rfl | rw [if_pos (by omega)] | rw [if_neg (by omega)])
theorem nx6_44 {c : Int} (h1 : 44 ≤ c) (h2 : c ≤ 44) : nx 6 c = none := by simp only [nx]; repeat (first | rfl | rw [if_pos (by omega)] | rw [if_neg (by omega)])
theorem nx6_45 {c : Int} (h1 : 45 ≤ c) (h2 : c ≤ 45) : nx 6 c = some 7 := by simp only [nx]; repeat (first | rfl | rw [if_pos (by omega)] | rw [if_neg (by omega)])
theorem nx6_46 {c : Int} (h1 : 46 ≤ c) (h2 : c ≤ 47) : nx 6 c = none := by simp only [nx]; repeat (first | rfl | rw [if_pos (by omega)] | rw [if_neg (by omega)])
theorem nx6_48 {c : Int} (h1 : 48 ≤ c) (h2 : c ≤ 57) : nx 6 c = some 8 := by simp only [nx]; repeat (first | rfl | rw [if_pos (by omega)] | rw [if_neg (by omega)])
theorem nx6_58 {c : Int} (h1 : 58 ≤ c) (h2 : c ≤ 255) : nx 6 c = none := by simp only [nx]; repeat (first | rfl | rw [if_pos (by omega)] | rw [if_neg (by omega)])
theorem nx7_0 {c : Int} (h1 : 0 ≤ c) (h2 : c ≤ 47) : nx 7 c = none := by simp only [nx]; repeat (first | rfl | rw [if_pos (by omega)] | rw [if_neg (by omega)])
theorem nx7_48 {c : Int} (h1 : 48 ≤ c) (h2 : c ≤ 57) : nx 7 c = some 8 := by simp only [nx]; repeat (first | rfl | rw [if_pos (by omega)] | rw [if_neg (by omega)])
theorem nx7_58 {c : Int} (h1 : 58 ≤ c) (h2 : c ≤ 255) : nx 7 c = none := by simp only [nx]; repeat (first | rfl | rw [if_pos (by omega)] | rw [if_neg (by omega)])
theorem nx8_0 {c : Int} (h1 : 0 ≤ c) (h2 : c ≤ 47) : nx 8 c = none := by simp only [nx]; repeat (first | rfl | rw [if_pos (by omega)] | rw [if_neg (by omega)])
theorem nx8_48 {c : Int} (h1 : 48 ≤ c) (h2 : c ≤ 57) : nx 8 c = some 8 := by simp only [nx]; repeat (first | rfl | rw [if_pos (by omega)] | rw [if_neg (by omega)])
theorem nx8_58 {c : Int} (h1 : 58 ≤ c) (h2 : c ≤ 255) : nx 8 c = none := by simp only [nx]; repeat (first | rfl | rw [if_pos (by omega)] | rw [if_neg (by omega)])

theorem nine {s : Nat} {z : Int} (h : s ≤ 8) (hz : z = s) : (s = 0 ∧ z = 0) ∨ (s = 1 ∧ z = 1) ∨ (s = 2 ∧ z = 2) ∨ (s = 3 ∧ z = 3) ∨ (s = 4 ∧ z = 4) ∨ (s = 5 ∧ z = 5) ∨ (s = 6 ∧ z = 6) ∨ (s = 7 ∧ z = 7) ∨ (s = 8 ∧ z = 8) := by omega

set_option maxRecDepth 100000 in
set_option maxHeartbeats 4000000 in
theorem model_any (Bd n c p : Nat) (D : Nat → Int) (hn : n ≤ 1024) (hp : p ≤ n) (w : World) (hD : ∀ j, j < n → w.cell? ⟨Bd, j, none⟩ = some (.int .u8 (D j))) (hD0 : ∀ j, j < n → 0 ≤ D j) (hD1 : ∀ j, j < n → D j ≤ 255) :
    Calls Yba.prog 5 #[.slice (some ⟨Bd, 0, none⟩) n c, .int .i64 p] w fun e w' => Told D n p e ∧ w' = w := by
  go_enter Yba.func5, Yba.ntmps5
  go_wp2
  go_loop [6, 7, 8, 9, 10] (fun st i _ _ _ => ∃ (s k : Nat) (z : Int), st = .int .i64 z ∧ i = .int .i64 k ∧ s ≤ 8 ∧ z = s ∧ k ≤ n ∧ Hid (R D n s k = R D n 0 p)) (fun _ i _ _ _ => (1100 - intOf i).toNat)
  case atStart => exact ⟨0, p, 0, rfl, rfl, by omega, rfl, hp, rfl⟩
  case round =>
    obtain ⟨s, k, z, rfl, rfl, hs, hz, hk, HR⟩ := hrel
    by_cases hlt : k < n
    · have cd := hD k hlt
      have d0 := hD0 k hlt
      have d1 := hD1 k hlt
      clear hD hD0 hD1
      have h9 := nine hs hz
      clear hs hz
      rcases h9 with ⟨rfl, rfl⟩ | ⟨rfl, rfl⟩ | ⟨rfl, rfl⟩ | ⟨rfl, rfl⟩ | ⟨rfl, rfl⟩ | ⟨rfl, rfl⟩ | ⟨rfl, rfl⟩ | ⟨rfl, rfl⟩ | ⟨rfl, rfl⟩
      · rcases (show (0 ≤ D k ∧ D k ≤ 44) ∨ (45 ≤ D k ∧ D k ≤ 45) ∨ (46 ≤ D k ∧ D k ≤ 47) ∨ (48 ≤ D k ∧ D k ≤ 48) ∨ (49 ≤ D k ∧ D k ≤ 57) ∨ (58 ≤ D k ∧ D k ≤ 255) from by omega) with ⟨h1, h2⟩ | ⟨h1, h2⟩ | ⟨h1, h2⟩ | ⟨h1, h2⟩ | ⟨h1, h2⟩ | ⟨h1, h2⟩
        · have HX := hide_it (told_no HR.out (R_none hlt (nx0_0 h1 h2)) rfl)
          go_wp2
          go_ret2
          exact ⟨HX.out, rfl⟩
        · have HX := goes HR.out hlt (nx0_45 h1 h2)
          go_wp2
          go_round
          case rel => exact ⟨1, k + 1, 1, rfl, by go_num, by omega, rfl, by omega, HX⟩
          case measure => simp [intOf]; omega
        · have HX := hide_it (told_no HR.out (R_none hlt (nx0_46 h1 h2)) rfl)
          go_wp2
          go_ret2
          exact ⟨HX.out, rfl⟩
        · have HX := goes HR.out hlt (nx0_48 h1 h2)
          go_wp2
          go_round
          case rel => exact ⟨2, k + 1, 2, rfl, by go_num, by omega, rfl, by omega, HX⟩
          case measure => simp [intOf]; omega
        · have HX := goes HR.out hlt (nx0_49 h1 h2)
          go_wp2
          go_round
          case rel => exact ⟨3, k + 1, 3, rfl, by go_num, by omega, rfl, by omega, HX⟩
          case measure => simp [intOf]; omega
        · have HX := hide_it (told_no HR.out (R_none hlt (nx0_58 h1 h2)) rfl)
          go_wp2
          go_ret2
          exact ⟨HX.out, rfl⟩
      · rcases (show (0 ≤ D k ∧ D k ≤ 47) ∨ (48 ≤ D k ∧ D k ≤ 48) ∨ (49 ≤ D k ∧ D k ≤ 57) ∨ (58 ≤ D k ∧ D k ≤ 255) from by omega) with ⟨h1, h2⟩ | ⟨h1, h2⟩ | ⟨h1, h2⟩ | ⟨h1, h2⟩
        · have HX := hide_it (told_no HR.out (R_none hlt (nx1_0 h1 h2)) rfl)
          go_wp2
          go_ret2
          exact ⟨HX.out, rfl⟩
        · have HX := goes HR.out hlt (nx1_48 h1 h2)
          go_wp2
          go_round
          case rel => exact ⟨2, k + 1, 2, rfl, by go_num, by omega, rfl, by omega, HX⟩
          case measure => simp [intOf]; omega
        · have HX := goes HR.out hlt (nx1_49 h1 h2)
          go_wp2
          go_round
          case rel => exact ⟨3, k + 1, 3, rfl, by go_num, by omega, rfl, by omega, HX⟩
          case measure => simp [intOf]; omega
        · have HX := hide_it (told_no HR.out (R_none hlt (nx1_58 h1 h2)) rfl)
          go_wp2
          go_ret2
          exact ⟨HX.out, rfl⟩
      · rcases (show (0 ≤ D k ∧ D k ≤ 45) ∨ (46 ≤ D k ∧ D k ≤ 46) ∨ (47 ≤ D k ∧ D k ≤ 47) ∨ (48 ≤ D k ∧ D k ≤ 57) ∨ (58 ≤ D k ∧ D k ≤ 68) ∨ (69 ≤ D k ∧ D k ≤ 69) ∨ (70 ≤ D k ∧ D k ≤ 100) ∨ (101 ≤ D k ∧ D k ≤ 101) ∨ (102 ≤ D k ∧ D k ≤ 255) from by omega) with ⟨h1, h2⟩ | ⟨h1, h2⟩ | ⟨h1, h2⟩ | ⟨h1, h2⟩ | ⟨h1, h2⟩ | ⟨h1, h2⟩ | ⟨h1, h2⟩ | ⟨h1, h2⟩ | ⟨h1, h2⟩
        · have HX := hide_it (told_yes HR.out (R_none hlt (nx2_0 h1 h2)) rfl)
          have q101 : (D k == 101) = false := by simp; omega
          have q69 : (D k == 69) = false := by simp; omega
          go_wp2
          go_ret2
          exact ⟨HX.out, rfl⟩
        · have HX := goes HR.out hlt (nx2_46 h1 h2)
          have q101 : (D k == 101) = false := by simp; omega
          have q69 : (D k == 69) = false := by simp; omega
          go_wp2
          go_round
          case rel => exact ⟨4, k + 1, 4, rfl, by go_num, by omega, rfl, by omega, HX⟩
          case measure => simp [intOf]; omega
        · have HX := hide_it (told_yes HR.out (R_none hlt (nx2_47 h1 h2)) rfl)
          have q101 : (D k == 101) = false := by simp; omega
          have q69 : (D k == 69) = false := by simp; omega
          go_wp2
          go_ret2
          exact ⟨HX.out, rfl⟩
        · have HX := hide_it (told_yes HR.out (R_none hlt (nx2_48 h1 h2)) rfl)
          have q101 : (D k == 101) = false := by simp; omega
          have q69 : (D k == 69) = false := by simp; omega
          go_wp2
          go_ret2
          exact ⟨HX.out, rfl⟩
        · have HX := hide_it (told_yes HR.out (R_none hlt (nx2_58 h1 h2)) rfl)
          have q101 : (D k == 101) = false := by simp; omega
          have q69 : (D k == 69) = false := by simp; omega
          go_wp2
          go_ret2
          exact ⟨HX.out, rfl⟩
        · have HX := goes HR.out hlt (nx2_69 h1 h2)
          have q101 : (D k == 101) = false := by simp; omega
          have q69 : (D k == 69) = true := by simp; omega
          go_wp2
          go_round
          case rel => exact ⟨6, k + 1, 6, rfl, by go_num, by omega, rfl, by omega, HX⟩
          case measure => simp [intOf]; omega
        · have HX := hide_it (told_yes HR.out (R_none hlt (nx2_70 h1 h2)) rfl)
          have q101 : (D k == 101) = false := by simp; omega
          have q69 : (D k == 69) = false := by simp; omega
          go_wp2
          go_ret2
          exact ⟨HX.out, rfl⟩
        · have HX := goes HR.out hlt (nx2_101 h1 h2)
          have q101 : (D k == 101) = true := by simp; omega
          have q69 : (D k == 69) = false := by simp; omega
          go_wp2
          go_round
          case rel => exact ⟨6, k + 1, 6, rfl, by go_num, by omega, rfl, by omega, HX⟩
          case measure => simp [intOf]; omega
        · have HX := hide_it (told_yes HR.out (R_none hlt (nx2_102 h1 h2)) rfl)
          have q101 : (D k == 101) = false := by simp; omega
          have q69 : (D k == 69) = false := by simp; omega
          go_wp2
          go_ret2
          exact ⟨HX.out, rfl⟩
      · rcases (show (0 ≤ D k ∧ D k ≤ 45) ∨ (46 ≤ D k ∧ D k ≤ 46) ∨ (47 ≤ D k ∧ D k ≤ 47) ∨ (48 ≤ D k ∧ D k ≤ 57) ∨ (58 ≤ D k ∧ D k ≤ 68) ∨ (69 ≤ D k ∧ D k ≤ 69) ∨ (70 ≤ D k ∧ D k ≤ 100) ∨ (101 ≤ D k ∧ D k ≤ 101) ∨ (102 ≤ D k ∧ D k ≤ 255) from by omega) with ⟨h1, h2⟩ | ⟨h1, h2⟩ | ⟨h1, h2⟩ | ⟨h1, h2⟩ | ⟨h1, h2⟩ | ⟨h1, h2⟩ | ⟨h1, h2⟩ | ⟨h1, h2⟩ | ⟨h1, h2⟩
        · have HX := hide_it (told_yes HR.out (R_none hlt (nx3_0 h1 h2)) rfl)
          have q101 : (D k == 101) = false := by simp; omega
          have q69 : (D k == 69) = false := by simp; omega
          go_wp2
          go_ret2
          exact ⟨HX.out, rfl⟩
        · have HX := goes HR.out hlt (nx3_46 h1 h2)
          have q101 : (D k == 101) = false := by simp; omega
          have q69 : (D k == 69) = false := by simp; omega
          go_wp2
          go_round
          case rel => exact ⟨4, k + 1, 4, rfl, by go_num, by omega, rfl, by omega, HX⟩
          case measure => simp [intOf]; omega
        · have HX := hide_it (told_yes HR.out (R_none hlt (nx3_47 h1 h2)) rfl)
          have q101 : (D k == 101) = false := by simp; omega
          have q69 : (D k == 69) = false := by simp; omega
          go_wp2
          go_ret2
          exact ⟨HX.out, rfl⟩
        · have HX := goes HR.out hlt (nx3_48 h1 h2)
          have q101 : (D k == 101) = false := by simp; omega
          have q69 : (D k == 69) = false := by simp; omega
          go_wp2
          go_round
          case rel => exact ⟨3, k + 1, 3, rfl, by go_num, by omega, rfl, by omega, HX⟩
          case measure => simp [intOf]; omega
        · have HX := hide_it (told_yes HR.out (R_none hlt (nx3_58 h1 h2)) rfl)
          have q101 : (D k == 101) = false := by simp; omega
          have q69 : (D k == 69) = false := by simp; omega
          go_wp2
          go_ret2
          exact ⟨HX.out, rfl⟩
        · have HX := goes HR.out hlt (nx3_69 h1 h2)
          have q101 : (D k == 101) = false := by simp; omega
          have q69 : (D k == 69) = true := by simp; omega
          go_wp2
          go_round
          case rel => exact ⟨6, k + 1, 6, rfl, by go_num, by omega, rfl, by omega, HX⟩
          case measure => simp [intOf]; omega
        · have HX := hide_it (told_yes HR.out (R_none hlt (nx3_70 h1 h2)) rfl)
          have q101 : (D k == 101) = false := by simp; omega
          have q69 : (D k == 69) = false := by simp; omega
          go_wp2
          go_ret2
          exact ⟨HX.out, rfl⟩
        · have HX := goes HR.out hlt (nx3_101 h1 h2)
          have q101 : (D k == 101) = true := by simp; omega
          have q69 : (D k == 69) = false := by simp; omega
          go_wp2
          go_round
          case rel => exact ⟨6, k + 1, 6, rfl, by go_num, by omega, rfl, by omega, HX⟩
          case measure => simp [intOf]; omega
        · have HX := hide_it (told_yes HR.out (R_none hlt (nx3_102 h1 h2)) rfl)
          have q101 : (D k == 101) = false := by simp; omega
          have q69 : (D k == 69) = false := by simp; omega
          go_wp2
          go_ret2
          exact ⟨HX.out, rfl⟩
      · rcases (show (0 ≤ D k ∧ D k ≤ 47) ∨ (48 ≤ D k ∧ D k ≤ 57) ∨ (58 ≤ D k ∧ D k ≤ 255) from by omega) with ⟨h1, h2⟩ | ⟨h1, h2⟩ | ⟨h1, h2⟩
        · have HX := hide_it (told_no HR.out (R_none hlt (nx4_0 h1 h2)) rfl)
          go_wp2
          go_ret2
          exact ⟨HX.out, rfl⟩
        · have HX := goes HR.out hlt (nx4_48 h1 h2)
          go_wp2
          go_round
          case rel => exact ⟨5, k + 1, 5, rfl, by go_num, by omega, rfl, by omega, HX⟩
          case measure => simp [intOf]; omega
        · have HX := hide_it (told_no HR.out (R_none hlt (nx4_58 h1 h2)) rfl)
          go_wp2
          go_ret2
          exact ⟨HX.out, rfl⟩
      · rcases (show (0 ≤ D k ∧ D k ≤ 47) ∨ (48 ≤ D k ∧ D k ≤ 57) ∨ (58 ≤ D k ∧ D k ≤ 68) ∨ (69 ≤ D k ∧ D k ≤ 69) ∨ (70 ≤ D k ∧ D k ≤ 100) ∨ (101 ≤ D k ∧ D k ≤ 101) ∨ (102 ≤ D k ∧ D k ≤ 255) from by omega) with ⟨h1, h2⟩ | ⟨h1, h2⟩ | ⟨h1, h2⟩ | ⟨h1, h2⟩ | ⟨h1, h2⟩ | ⟨h1, h2⟩ | ⟨h1, h2⟩
        · have HX := hide_it (told_yes HR.out (R_none hlt (nx5_0 h1 h2)) rfl)
          have q101 : (D k == 101) = false := by simp; omega
          have q69 : (D k == 69) = false := by simp; omega
          go_wp2
          go_ret2
          exact ⟨HX.out, rfl⟩
        · have HX := goes HR.out hlt (nx5_48 h1 h2)
          have q101 : (D k == 101) = false := by simp; omega
          have q69 : (D k == 69) = false := by simp; omega
          go_wp2
          go_round
          case rel => exact ⟨5, k + 1, 5, rfl, by go_num, by omega, rfl, by omega, HX⟩
          case measure => simp [intOf]; omega
        · have HX := hide_it (told_yes HR.out (R_none hlt (nx5_58 h1 h2)) rfl)
          have q101 : (D k == 101) = false := by simp; omega
          have q69 : (D k == 69) = false := by simp; omega
          go_wp2
          go_ret2
          exact ⟨HX.out, rfl⟩
        · have HX := goes HR.out hlt (nx5_69 h1 h2)
          have q101 : (D k == 101) = false := by simp; omega
          have q69 : (D k == 69) = true := by simp; omega
          go_wp2
          go_round
          case rel => exact ⟨6, k + 1, 6, rfl, by go_num, by omega, rfl, by omega, HX⟩
          case measure => simp [intOf]; omega
        · have HX := hide_it (told_yes HR.out (R_none hlt (nx5_70 h1 h2)) rfl)
          have q101 : (D k == 101) = false := by simp; omega
          have q69 : (D k == 69) = false := by simp; omega
          go_wp2
          go_ret2
          exact ⟨HX.out, rfl⟩
        · have HX := goes HR.out hlt (nx5_101 h1 h2)
          have q101 : (D k == 101) = true := by simp; omega
          have q69 : (D k == 69) = false := by simp; omega
          go_wp2
          go_round
          case rel => exact ⟨6, k + 1, 6, rfl, by go_num, by omega, rfl, by omega, HX⟩
          case measure => simp [intOf]; omega
        · have HX := hide_it (told_yes HR.out (R_none hlt (nx5_102 h1 h2)) rfl)
          have q101 : (D k == 101) = false := by simp; omega
          have q69 : (D k == 69) = false := by simp; omega
          go_wp2
          go_ret2
          exact ⟨HX.out, rfl⟩
      · rcases (show (0 ≤ D k ∧ D k ≤ 42) ∨ (43 ≤ D k ∧ D k ≤ 43) ∨ (44 ≤ D k ∧ D k ≤ 44) ∨ (45 ≤ D k ∧ D k ≤ 45) ∨ (46 ≤ D k ∧ D k ≤ 47) ∨ (48 ≤ D k ∧ D k ≤ 57) ∨ (58 ≤ D k ∧ D k ≤ 255) from by omega) with ⟨h1, h2⟩ | ⟨h1, h2⟩ | ⟨h1, h2⟩ | ⟨h1, h2⟩ | ⟨h1, h2⟩ | ⟨h1, h2⟩ | ⟨h1, h2⟩
        · have HX := hide_it (told_no HR.out (R_none hlt (nx6_0 h1 h2)) rfl)
          have q43 : (D k == 43) = false := by simp; omega
          have q45 : (D k == 45) = false := by simp; omega
          go_wp2
          go_ret2
          exact ⟨HX.out, rfl⟩
        · have HX := goes HR.out hlt (nx6_43 h1 h2)
          have q43 : (D k == 43) = true := by simp; omega
          have q45 : (D k == 45) = false := by simp; omega
          go_wp2
          go_round
          case rel => exact ⟨7, k + 1, 7, rfl, by go_num, by omega, rfl, by omega, HX⟩
          case measure => simp [intOf]; omega
        · have HX := hide_it (told_no HR.out (R_none hlt (nx6_44 h1 h2)) rfl)
          have q43 : (D k == 43) = false := by simp; omega
          have q45 : (D k == 45) = false := by simp; omega
          go_wp2
          go_ret2
          exact ⟨HX.out, rfl⟩
        · have HX := goes HR.out hlt (nx6_45 h1 h2)
          have q43 : (D k == 43) = false := by simp; omega
          have q45 : (D k == 45) = true := by simp; omega
          go_wp2
          go_round
          case rel => exact ⟨7, k + 1, 7, rfl, by go_num, by omega, rfl, by omega, HX⟩
          case measure => simp [intOf]; omega
        · have HX := hide_it (told_no HR.out (R_none hlt (nx6_46 h1 h2)) rfl)
          have q43 : (D k == 43) = false := by simp; omega
          have q45 : (D k == 45) = false := by simp; omega
          go_wp2
          go_ret2
          exact ⟨HX.out, rfl⟩
        · have HX := goes HR.out hlt (nx6_48 h1 h2)
          have q43 : (D k == 43) = false := by simp; omega
          have q45 : (D k == 45) = false := by simp; omega
          go_wp2
          go_round
          case rel => exact ⟨8, k + 1, 8, rfl, by go_num, by omega, rfl, by omega, HX⟩
          case measure => simp [intOf]; omega
        · have HX := hide_it (told_no HR.out (R_none hlt (nx6_58 h1 h2)) rfl)
          have q43 : (D k == 43) = false := by simp; omega
          have q45 : (D k == 45) = false := by simp; omega
          go_wp2
          go_ret2
          exact ⟨HX.out, rfl⟩
      · rcases (show (0 ≤ D k ∧ D k ≤ 47) ∨ (48 ≤ D k ∧ D k ≤ 57) ∨ (58 ≤ D k ∧ D k ≤ 255) from by omega) with ⟨h1, h2⟩ | ⟨h1, h2⟩ | ⟨h1, h2⟩
        · have HX := hide_it (told_no HR.out (R_none hlt (nx7_0 h1 h2)) rfl)
          go_wp2
          go_ret2
          exact ⟨HX.out, rfl⟩
        · have HX := goes HR.out hlt (nx7_48 h1 h2)
          go_wp2
          go_round
          case rel => exact ⟨8, k + 1, 8, rfl, by go_num, by omega, rfl, by omega, HX⟩
          case measure => simp [intOf]; omega
        · have HX := hide_it (told_no HR.out (R_none hlt (nx7_58 h1 h2)) rfl)
          go_wp2
          go_ret2
          exact ⟨HX.out, rfl⟩
      · rcases (show (0 ≤ D k ∧ D k ≤ 47) ∨ (48 ≤ D k ∧ D k ≤ 57) ∨ (58 ≤ D k ∧ D k ≤ 255) from by omega) with ⟨h1, h2⟩ | ⟨h1, h2⟩ | ⟨h1, h2⟩
        · have HX := hide_it (told_yes HR.out (R_none hlt (nx8_0 h1 h2)) rfl)
          go_wp2
          go_ret2
          exact ⟨HX.out, rfl⟩
        · have HX := goes HR.out hlt (nx8_48 h1 h2)
          go_wp2
          go_round
          case rel => exact ⟨8, k + 1, 8, rfl, by go_num, by omega, rfl, by omega, HX⟩
          case measure => simp [intOf]; omega
        · have HX := hide_it (told_yes HR.out (R_none hlt (nx8_58 h1 h2)) rfl)
          go_wp2
          go_ret2
          exact ⟨HX.out, rfl⟩
    · have h9 := nine hs hz
      clear hs hz hD hD0 hD1
      rcases h9 with ⟨rfl, rfl⟩ | ⟨rfl, rfl⟩ | ⟨rfl, rfl⟩ | ⟨rfl, rfl⟩ | ⟨rfl, rfl⟩ | ⟨rfl, rfl⟩ | ⟨rfl, rfl⟩ | ⟨rfl, rfl⟩ | ⟨rfl, rfl⟩
      · have HX := hide_it (told_no HR.out (R_end (by omega)) rfl)
        go_wp2
        go_ret2
        exact ⟨HX.out, rfl⟩
      · have HX := hide_it (told_no HR.out (R_end (by omega)) rfl)
        go_wp2
        go_ret2
        exact ⟨HX.out, rfl⟩
      · have HX := hide_it (told_yes HR.out (R_end (by omega)) rfl)
        go_wp2
        go_ret2
        exact ⟨HX.out, rfl⟩
      · have HX := hide_it (told_yes HR.out (R_end (by omega)) rfl)
        go_wp2
        go_ret2
        exact ⟨HX.out, rfl⟩
      · have HX := hide_it (told_no HR.out (R_end (by omega)) rfl)
        go_wp2
        go_ret2
        exact ⟨HX.out, rfl⟩
      · have HX := hide_it (told_yes HR.out (R_end (by omega)) rfl)
        go_wp2
        go_ret2
        exact ⟨HX.out, rfl⟩
      · have HX := hide_it (told_no HR.out (R_end (by omega)) rfl)
        go_wp2
        go_ret2
        exact ⟨HX.out, rfl⟩
      · have HX := hide_it (told_no HR.out (R_end (by omega)) rfl)
        go_wp2
        go_ret2
        exact ⟨HX.out, rfl⟩
      · have HX := hide_it (told_yes HR.out (R_end (by omega)) rfl)
        go_wp2
        go_ret2
        exact ⟨HX.out, rfl⟩
end Go.Proofs.Ybulkanim
