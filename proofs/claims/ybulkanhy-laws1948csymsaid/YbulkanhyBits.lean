import Derived.Laws.BitsAllLaws
namespace Go.Proofs.Ybulkanhy

theorem nat_and_63 (v : Nat) (h : v < 1073741824) : v &&& 9223372036854775808 = 0 := by
  have := nat_bit 63 v
  have e : (2 : Nat) ^ 63 = 9223372036854775808 := by decide
  rw [e] at this
  rw [this]
  have : v / 9223372036854775808 = 0 := by omega
  rw [this]

theorem nat_and_30 (v : Nat) (h : v < 1073741824) : v &&& 1073741823 = v := by
  have := Nat.and_two_pow_sub_one_eq_mod v 30
  have e : (2 : Nat) ^ 30 - 1 = 1073741823 := by decide
  have e2 : (2 : Nat) ^ 30 = 1073741824 := by decide
  rw [e, e2] at this
  rw [this]
  omega

theorem and_mono (v : Int) (h0 : 0 ≤ v) (h1 : v < 1073741824) : bits .and .u64 v 9223372036854775808 = 0 := by
  rw [u64_and v 9223372036854775808 h0 (by omega) (by omega) (by omega)]
  have : (9223372036854775808 : Int).toNat = 9223372036854775808 := by decide
  rw [this, nat_and_63 _ (by omega)]
  rfl

theorem and_mask (v : Int) (h0 : 0 ≤ v) (h1 : v < 1073741824) : bits .and .u64 v 1073741823 = v := by
  rw [u64_and v 1073741823 h0 (by omega) (by omega) (by omega)]
  have : (1073741823 : Int).toNat = 1073741823 := by decide
  rw [this, nat_and_30 _ (by omega)]
  omega

theorem or_zero (v : Int) (h0 : 0 ≤ v) (h1 : v < 1073741824) : bits .or .u64 0 v = v := by
  rw [u64_or 0 v (by omega) (by omega) h0 (by omega)]
  simp
  omega

theorem andNot_zero : bits .andNot .u64 0 1073741823 = 0 := by decide

theorem and_two (v u : Int) (h0 : 0 ≤ v) (h1 : v < 1073741824) (k0 : 0 ≤ u) (k1 : u < 1073741824) : bits .and .u64 (bits .and .u64 v u) 9223372036854775808 = 0 := by
  rw [u64_and v u h0 (by omega) k0 (by omega)]
  have : v.toNat &&& u.toNat ≤ v.toNat := Nat.and_le_left
  exact and_mono _ (by omega) (by omega)

/-! ### The order of two moments -/
theorem before_iff (x y : Int) : x < y ↔ x / 1000000000 < y / 1000000000 ∨ (x / 1000000000 = y / 1000000000 ∧ x % 1000000000 < y % 1000000000) := by omega

end Go.Proofs.Ybulkanhy
