import Derived.Laws.BitsAllLaws
namespace Go.Proofs.Ybulkfhvs

theorem and30 (n : Int) (h0 : 0 ≤ n) (h1 : n < 1000000000) : bits .and .u64 n 1073741823 = n := by
  rw [u64_and n _ h0 (by omega) (by decide) (by decide)]
  have e : (n.toNat &&& (1073741823 : Int).toNat) = n.toNat := by
    show n.toNat &&& 1073741823 = _
    have := Nat.and_two_pow_sub_one_eq_mod n.toNat 30
    rw [show (2 ^ 30 - 1 : Nat) = 1073741823 from rfl] at this
    rw [this]; omega
  rw [e]; omega
theorem and63 (n : Int) (h0 : 0 ≤ n) (h1 : n < 1000000000) : bits .and .u64 n 9223372036854775808 = 0 := by
  rw [u64_and n _ h0 (by omega) (by decide) (by decide)]
  have e : (n.toNat &&& (9223372036854775808 : Int).toNat) = 0 := by
    show n.toNat &&& 9223372036854775808 = _
    have := nat_bit 63 n.toNat
    rw [show (2 ^ 63 : Nat) = 9223372036854775808 from rfl] at this
    rw [this]; omega
  rw [e]; rfl
theorem andNot30 (n : Int) (h0 : 0 ≤ n) (h1 : n < 1000000000) : bits .andNot .u64 n 1073741823 = 0 := by
  rw [u64_andNot n _ h0 (by omega) (by decide) (by decide)]
  have e : (n.toNat &&& (18446744073709551615 - (1073741823 : Int).toNat)) = 0 := by
    show n.toNat &&& 18446744072635809792 = _
    apply Nat.eq_of_testBit_eq
    intro i
    rw [Nat.testBit_and, Nat.zero_testBit]
    by_cases hi : i < 30
    · have : Nat.testBit 18446744072635809792 i = false := by
        rw [show (18446744072635809792 : Nat) = 2 ^ 30 * 17179869183 from rfl, Nat.testBit_two_pow_mul]
        simp; intro h; omega
      simp [this]
    · have : Nat.testBit n.toNat i = false := Nat.testBit_lt_two_pow (Nat.lt_of_lt_of_le (by omega : n.toNat < 2 ^ 30) (Nat.pow_le_pow_right (by omega) (by omega)))
      simp [this]
  rw [e]; rfl
theorem or0 (n : Int) (h0 : 0 ≤ n) (h1 : n < 1000000000) : bits .or .u64 0 n = n := by
  rw [u64_or _ n (by decide) (by decide) h0 (by omega)]
  have e : ((0 : Int).toNat ||| n.toNat) = n.toNat := by show 0 ||| n.toNat = _; simp
  rw [e]; omega
theorem floor_neg (x : Int) (h : x.tmod 1000000000 < 0) : x.tdiv 1000000000 - 1 = x / 1000000000 ∧ x.tmod 1000000000 + 1000000000 = x % 1000000000 := by
  have h1 := Int.mul_tdiv_add_tmod x 1000000000
  have h2 := Int.lt_tmod_of_pos x (show (0 : Int) < 1000000000 by decide)
  omega
theorem floor_pos (x : Int) (h : 0 ≤ x.tmod 1000000000) : x.tdiv 1000000000 = x / 1000000000 ∧ x.tmod 1000000000 = x % 1000000000 := by
  have h1 := Int.mul_tdiv_add_tmod x 1000000000
  have h2 := Int.tmod_lt_of_pos x (show (0 : Int) < 1000000000 by decide)
  omega
theorem parts (x : Int) : ∃ q r : Int, x.tdiv 1000000000 = q ∧ x.tmod 1000000000 = r ∧ 1000000000 * q + r = x ∧ -1000000000 < r ∧ r < 1000000000 := by
  have h1 := Int.mul_tdiv_add_tmod x 1000000000
  have h2 := Int.lt_tmod_of_pos x (show (0 : Int) < 1000000000 by decide)
  have h3 := Int.tmod_lt_of_pos x (show (0 : Int) < 1000000000 by decide)
  exact ⟨_, _, rfl, rfl, by omega, by omega, by omega⟩
end Go.Proofs.Ybulkfhvs
