import Derived.Laws.BitsAllLaws
namespace Go.Proofs.Ybulkdwxc

/-! Plain facts on the bits of a time.Time's first word, all without its top bit. -/
theorem and_low (ns : Int) (h0 : 0 ≤ ns) (h1 : ns < 1073741824) : bits .and .u64 ns 1073741823 = ns := by
  rw [u64_and ns 1073741823 h0 (by omega) (by omega) (by omega)]
  have : ns.toNat &&& (1073741823 : Int).toNat = ns.toNat := by
    show ns.toNat &&& 1073741823 = ns.toNat
    rw [show (1073741823 : Nat) = 2 ^ 30 - 1 by decide, Nat.and_two_pow_sub_one_eq_mod, Nat.mod_eq_of_lt (by omega)]
  rw [this]; omega

theorem and_top (ns : Int) (h0 : 0 ≤ ns) (h1 : ns < 1073741824) : bits .and .u64 ns 9223372036854775808 = 0 := by
  rw [u64_and ns 9223372036854775808 h0 (by omega) (by omega) (by omega)]
  have : ns.toNat &&& (9223372036854775808 : Int).toNat = 0 := by
    show ns.toNat &&& 9223372036854775808 = 0
    rw [show (9223372036854775808 : Nat) = 2 ^ 63 by decide, nat_bit, Nat.div_eq_of_lt (by omega)]
  rw [this]; rfl

theorem and_both (a b : Int) (h0 : 0 ≤ a) (h1 : a < 1073741824) (h2 : 0 ≤ b) (h3 : b < 1073741824) : bits .and .u64 (bits .and .u64 a b) 9223372036854775808 = 0 := by
  rw [u64_and a b h0 (by omega) h2 (by omega)]
  have := Nat.and_le_left (n := a.toNat) (m := b.toNat)
  exact and_top _ (by omega) (by omega)

theorem not_low (ns : Int) (h0 : 0 ≤ ns) (h1 : ns < 1073741824) : bits .andNot .u64 ns 1073741823 = 0 := by
  rw [u64_andNot ns 1073741823 h0 (by omega) (by omega) (by omega)]
  have : ns.toNat &&& (18446744073709551615 - (1073741823 : Int).toNat) = 0 := by
    show ns.toNat &&& 18446744072635809792 = 0
    have e : ns.toNat = ns.toNat &&& (2 ^ 30 - 1) := by rw [Nat.and_two_pow_sub_one_eq_mod, Nat.mod_eq_of_lt (by omega)]
    rw [e, Nat.and_assoc, show ((2 ^ 30 - 1) &&& 18446744072635809792 : Nat) = 0 by decide]
    simp
  rw [this]; rfl

theorem or_none (x : Int) (h0 : 0 ≤ x) (h1 : x < 1073741824) : bits .or .u64 0 x = x := by
  rw [u64_or 0 x (by omega) (by omega) h0 (by omega)]
  simp; omega

/-! Cutting towards nought, and down. -/
theorem cut_down (d q r : Int) (hq : d.tdiv 1000000000 = q) (hr : d.tmod 1000000000 = r) : d = q * 1000000000 + r ∧ -1000000000 < r ∧ r < 1000000000 ∧ (0 ≤ d → 0 ≤ r) ∧ (d ≤ 0 → r ≤ 0) := by
  have h1 := Int.mul_tdiv_add_tmod d 1000000000
  have h2 := Int.tmod_lt_of_pos d (show (0 : Int) < 1000000000 by omega)
  have h3 := Int.tmod_lt_of_pos (-d) (show (0 : Int) < 1000000000 by omega)
  rw [Int.neg_tmod] at h3
  rw [hq, hr] at h1
  rw [hr] at h2 h3
  refine ⟨by omega, by omega, h2, fun h => ?_, fun h => ?_⟩
  · rw [← hr]; exact Int.tmod_nonneg _ h
  · have := Int.tmod_nonneg (1000000000 : Int) (show 0 ≤ -d by omega)
    rw [Int.neg_tmod, hr] at this
    omega
end Go.Proofs.Ybulkdwxc
