import Derived.WalkKit
namespace Go.Proofs.Qxb6616745a

theorem and_low {x : Int} (h0 : 0 ≤ x) (h1 : x < 1000000000) : bits .and .u64 x 1073741823 = x := by
  rw [u64_and x 1073741823 h0 (by omega) (by decide) (by decide)]
  have e : (1073741823 : Int).toNat = 2 ^ 30 - 1 := by decide
  rw [e, Nat.and_two_pow_sub_one_eq_mod]
  omega
theorem and_top {x : Int} (h0 : 0 ≤ x) (h1 : x < 1000000000) : bits .and .u64 x 9223372036854775808 = 0 := by
  rw [u64_and x 9223372036854775808 h0 (by omega) (by decide) (by decide)]
  have e : (9223372036854775808 : Int).toNat = 2 ^ 63 := by decide
  rw [e, nat_bit]
  have : x.toNat / 2 ^ 63 = 0 := Nat.div_eq_of_lt (by have : (2 : Nat) ^ 63 = 9223372036854775808 := by decide
                                                      omega)
  rw [this]; simp
theorem top_ne {x : Int} (h0 : 0 ≤ x) (h1 : x < 1000000000) : (bits .and .u64 x 9223372036854775808 != 0) = false := by rw [and_top h0 h1]; decide
theorem or_zero {x : Int} (h0 : 0 ≤ x) (h1 : x < 1000000000) : bits .or .u64 0 x = x := by
  rw [u64_or 0 x (by decide) (by decide) h0 (by omega)]
  simp; omega
theorem and_and_top {x y : Int} (h0 : 0 ≤ x) (h1 : x < 1000000000) (g0 : 0 ≤ y) (g1 : y < 1000000000) : (bits .and .u64 (bits .and .u64 x y) 9223372036854775808 != 0) = false := by
  have e := u64_and x y h0 (by omega) g0 (by omega)
  rw [e]
  refine top_ne (by omega) ?_
  have := Nat.and_le_left (n := x.toNat) (m := y.toNat)
  omega

/-- Seconds and nanoseconds of a count of nanoseconds, as Go's truncating division has them. -/
theorem quo_pos {l : Int} (h : 0 ≤ l) : l.tdiv 1000000000 = l / 1000000000 ∧ l.tmod 1000000000 = l % 1000000000 := by
  constructor
  · exact Int.tdiv_eq_ediv_of_nonneg h
  · exact Int.tmod_eq_emod_of_nonneg h
theorem quo_neg {l : Int} (h : l < 0) : l.tdiv 1000000000 = -((-l) / 1000000000) ∧ l.tmod 1000000000 = -((-l) % 1000000000) := by
  have h1 := Int.neg_tdiv (-l) 1000000000
  have h2 := Int.neg_tmod (-l) 1000000000
  rw [Int.neg_neg] at h1 h2
  rw [h1, h2, Int.tdiv_eq_ediv_of_nonneg (by omega), Int.tmod_eq_emod_of_nonneg (by omega)]
  exact ⟨rfl, rfl⟩
end Go.Proofs.Qxb6616745a
