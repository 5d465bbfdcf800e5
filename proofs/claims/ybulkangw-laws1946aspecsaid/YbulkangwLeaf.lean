import Derived.Test.YbulkangwRows
import Derived.Test.YbulkangwPlain
import Derived.WalkKit
import Derived.WalkSpells
import Derived.WalkLawsBesides
import Derived.Deep.OwnRows
import Derived.Deep.QuietTactic
import Derived.BigQuiet
namespace Go.Proofs.Ybulkangw
open Go.RowKit


set_option maxHeartbeats 400000 in
theorem isLMS_any (b n : Nat) (S : Nat → Bool) (k : Nat) (x : Int) (hx : x = (k : Int) + 1) (hk : k + 1 < n) (hn : n ≤ 1025) (w : World) (hc : ∀ j, j < n → w.cell? ⟨b, j, none⟩ = some (.bool (S j))) :
    Calls Yba.prog 8 #[.slice (some ⟨b, 0, none⟩) n n, .int .i64 x] w fun e w' => e = .returned (.bool (isL S k)) ∧ w' = w := by
  subst hx
  have h0 : w.cell? ⟨b, k, none⟩ = some (.bool (S k)) := hc k (by omega)
  have h1 : w.cell? ⟨b, k + 1, none⟩ = some (.bool (S (k + 1))) := hc (k + 1) hk
  clear hc
  cases hs1 : S (k + 1)
  · rw [hs1] at h1
    have hr : isL S k = false := by simp [isL, hs1]
    rw [hr]
    clear hs1
    go_enter Yba.func8, Yba.ntmps8
    go_wp2
    go_ret
    exact ⟨rfl, rfl⟩
  · rw [hs1] at h1
    have hr : isL S k = !S k := by simp [isL, hs1]
    rw [hr]
    clear hs1
    go_enter Yba.func8, Yba.ntmps8
    go_wp2
    go_ret
    exact ⟨rfl, rfl⟩

/-- 'zzs1946alen': the distance to the next LMS position. -/
theorem alen_any (b m : Nat) (T : Nat → Int) (S : Nat → Bool) (wf : Wf m T S) (p : Nat) (hp : p < m) (hm : m ≤ 1024) (w : World) (hc : ∀ j, j ≤ m → w.cell? ⟨b, j, none⟩ = some (.bool (S j))) :
    Calls Yba.prog 7 #[.slice (some ⟨b, 0, none⟩) (m + 1) (m + 1), .int .i64 p] w fun e w' => ∃ k : Nat, e = .returned (.int .i64 ((k : Int) + 1)) ∧ Nx S p k ∧ p + k + 1 ≤ m ∧ w' = w := by
  go_enter Yba.func7, Yba.ntmps7
  go_wp2
  go_loop [5, 6] (fun t _ => ∃ k : Nat, p + k + 1 ≤ m ∧ t = .int .i64 (k + 1) ∧ Hid (∀ j, j < k → isL S (p + j) = false)) (fun t _ => (1100 - intOf t).toNat)
  case atStart => exact ⟨0, by omega, rfl, fun j hj => absurd hj (Nat.not_lt_zero _)⟩
  case round =>
    obtain ⟨k, hk, rfl, HN⟩ := hrel
    have h0 : w.cell? ⟨b, p + k, none⟩ = some (.bool (S (p + k))) := hc _ (by omega)
    have h1 : w.cell? ⟨b, p + (k + 1), none⟩ = some (.bool (S (p + k + 1))) := hc _ (by omega)
    clear hc
    cases hs1 : S (p + k + 1)
    · rw [hs1] at h1
      obtain ⟨g1, g2⟩ := nx_step wf hk (isL_no1 hs1) HN.out
      have G2 : Hid (∀ j, j < k + 1 → isL S (p + j) = false) := g2
      clear g2 hs1
      go_wp2
      go_round
      case rel => exact ⟨k + 1, g1, by go_num, G2⟩
      case measure => simp [intOf]; omega
    · rw [hs1] at h1
      cases hs0 : S (p + k)
      · rw [hs0] at h0
        have HY : Hid (isL S (p + k) = true) := isL_yes hs1 hs0
        clear hs1 hs0
        go_wp2
        go_ret
        exact ⟨k, rfl, ⟨HY.out, HN.out⟩, hk, rfl⟩
      · rw [hs0] at h0
        obtain ⟨g1, g2⟩ := nx_step wf hk (isL_no0 hs0) HN.out
        have G2 : Hid (∀ j, j < k + 1 → isL S (p + j) = false) := g2
        clear g2 hs1 hs0
        go_wp2
        go_round
        case rel => exact ⟨k + 1, g1, by go_num, G2⟩
        case measure => simp [intOf]; omega

set_option maxHeartbeats 1000000 in
/-- 'sameLMS'. -/
theorem same_any (bt bs m : Nat) (T : Nat → Int) (S : Nat → Bool) (wf : Wf m T S) (a b : Nat) (ha : a < m) (hb : b < m) (hm : m ≤ 1024) (w : World)
    (hT : ∀ j, j ≤ m → w.cell? ⟨bt, j, none⟩ = some (.int .i32 (T j))) (hS : ∀ j, j ≤ m → w.cell? ⟨bs, j, none⟩ = some (.bool (S j))) :
    Calls Yba.prog 6 #[.slice (some ⟨bt, 0, none⟩) (m + 1) (m + 1), .slice (some ⟨bs, 0, none⟩) (m + 1) (m + 1), .int .i64 a, .int .i64 b] w fun e w' => ∃ (r : Bool) (q : Nat), e = .returned (.bool r) ∧ Ans T S a b r ∧ w' = w.drewN q := by
  go_enter Yba.func6, Yba.ntmps6
  go_wp2
  go_loopw [9, 10, 11] (fun t _ _ wr => ∃ (d q : Nat), t = .int .i64 d ∧ Hid (Inv m T S a b d) ∧ a + d ≤ m ∧ b + d ≤ m ∧ wr = w.drewN q) (fun t _ _ _ => (1100 - intOf t).toNat)
  case atStart => exact ⟨0, 0, rfl, Inv.start ha hb, by omega, by omega, rfl⟩
  case round =>
    obtain ⟨d, q, rfl, HI, la, lb, rfl⟩ := hrel
    have t1 : w.cell? ⟨bt, a + d, none⟩ = some (.int .i32 (T (a + d))) := hT _ la
    have t2 : w.cell? ⟨bt, b + d, none⟩ = some (.int .i32 (T (b + d))) := hT _ lb
    have i1 : (a : Int) + (d : Int) < (m : Int) + 1 := by omega
    have i2 : (b : Int) + (d : Int) < (m : Int) + 1 := by omega
    go_wp2
    by_cases hne : T (a + d) = T (b + d)
    · have hb1 : (T (a + d) != T (b + d)) = false := by simp [hne]
      have HE : Hid (T (a + d) = T (b + d)) := hne
      clear hne
      go_quiet (fail)
      cases d with
      | zero =>
        have HN : Hid (Inv m T S a b 1) := Inv.next0 ha hb HE.out
        go_wp2
        go_round
        case rel => exact ⟨1, q + nq, by go_num, HN, by omega, by omega, rfl⟩
        case measure => simp [intOf]
      | succ e =>
        go_wp2_with fail
        refine (isLMS_any bs (m + 1) S (a + e) _ (by omega) (by omega) (by omega) _ (fun j hj => by simpa using hS j (by omega))).mono ?_
        rintro e1 w1 ⟨rfl, rfl⟩
        go_wp2_with fail
        refine (isLMS_any bs (m + 1) S (b + e) _ (by omega) (by omega) (by omega) _ (fun j hj => by simpa using hS j (by omega))).mono ?_
        rintro e1 w1 ⟨rfl, rfl⟩
        cases ea : isL S (a + e) <;> cases eb : isL S (b + e)
        · have HN : Hid (Inv m T S a b (e + 2)) := HI.out.next wf HE.out ea eb
          have l1 := HN.out.la
          have l2 := HN.out.lb
          clear ea eb
          go_wp2
          go_round
          case rel => exact ⟨e + 2, q + nq, by go_num, HN, by omega, by omega, rfl⟩
          case measure => simp [intOf]; omega
        all_goals
          have HA := HI.out.ended HE.out (by simp [ea, eb])
          rw [ea, eb] at HA
          have HB := HA
          clear HA
          have HA : Hid (Ans T S a b _) := HB
          clear HB ea eb
          go_wp2
          go_ret
          exact ⟨_, q + nq, rfl, HA.out, rfl⟩
    · have hb1 : (T (a + d) != T (b + d)) = true := by simp [hne]
      have HE : Hid (Ans T S a b false) := HI.out.differ hne
      clear hne
      go_quiet (fail)
      go_wp2
      go_ret
      exact ⟨false, q + nq, rfl, HE.out, by simp⟩
end Go.Proofs.Ybulkangw
