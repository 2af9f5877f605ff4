/-
  PLAIN: the bit words of time.Time at a wall below 10^9. No Go in sight.
-/
import Derived.Laws.BitsAllLaws
namespace Go.Proofs.Ybulkblnk

theorem nat_mask (n : Nat) (h : n < 1000000000) : n &&& 1073741823 = n := by
  have e : (1073741823 : Nat) = 2 ^ 30 - 1 := by decide
  rw [e, Nat.and_two_pow_sub_one_eq_mod, Nat.mod_eq_of_lt (by omega)]
theorem low_high (n k : Nat) (h : n < 1000000000) : n &&& (2 ^ 30 * k) = 0 := by
  apply Nat.eq_of_testBit_eq
  intro i
  rw [Nat.testBit_and, Nat.zero_testBit, Nat.testBit_two_pow_mul]
  by_cases hi : i < 30
  · simp [show ¬ 30 ≤ i by omega]
  · rw [Nat.testBit_lt_two_pow (Nat.lt_of_lt_of_le (show n < 2 ^ 30 by omega) (Nat.pow_le_pow_right (by decide) (by omega)))]
    simp
theorem nat_top (n : Nat) (h : n < 1000000000) : n &&& 9223372036854775808 = 0 := by
  have e : (9223372036854775808 : Nat) = 2 ^ 30 * 8589934592 := by decide
  rw [e, low_high _ _ h]
theorem nat_high (n : Nat) (h : n < 1000000000) : n &&& (18446744073709551615 - 1073741823) = 0 := by
  have e : (18446744073709551615 - 1073741823 : Nat) = 2 ^ 30 * 17179869183 := by decide
  rw [e, low_high _ _ h]
theorem and_mask (x : Int) (h0 : 0 ≤ x) (h1 : x < 1000000000) : bits BinOp.and IntKind.u64 x 1073741823 = x := by
  rw [u64_and x 1073741823 h0 (by omega) (by omega) (by omega), show (1073741823 : Int).toNat = 1073741823 from rfl, nat_mask _ (by omega)]
  omega
theorem and_top (x : Int) (h0 : 0 ≤ x) (h1 : x < 1000000000) : bits BinOp.and IntKind.u64 x 9223372036854775808 = 0 := by
  rw [u64_and x 9223372036854775808 h0 (by omega) (by omega) (by omega), show (9223372036854775808 : Int).toNat = 9223372036854775808 from rfl, nat_top _ (by omega)]
  rfl
theorem andNot_mask (x : Int) (h0 : 0 ≤ x) (h1 : x < 1000000000) : bits BinOp.andNot IntKind.u64 x 1073741823 = 0 := by
  rw [u64_andNot x 1073741823 h0 (by omega) (by omega) (by omega), show (1073741823 : Int).toNat = 1073741823 from rfl, nat_high _ (by omega)]
  rfl
theorem or_zero (x : Int) (h0 : 0 ≤ x) (h1 : x < 1000000000) : bits BinOp.or IntKind.u64 0 x = x := by
  rw [u64_or 0 x (by omega) (by omega) h0 (by omega), show (0 : Int).toNat = 0 from rfl, Nat.zero_or]
  omega
theorem and2_top (x y : Int) (h0 : 0 ≤ x) (h1 : x < 1000000000) (g0 : 0 ≤ y) (g1 : y < 1000000000) : bits BinOp.and IntKind.u64 (bits BinOp.and IntKind.u64 x y) 9223372036854775808 = 0 := by
  have h : (x.toNat &&& y.toNat) ≤ x.toNat := Nat.and_le_left
  rw [u64_and x y h0 (by omega) g0 (by omega)]
  exact and_top _ (by omega) (by omega)
/-- Go's quotient and remainder by 10^9. -/
theorem parts (d : Int) : 1000000000 * d.tdiv 1000000000 + d.tmod 1000000000 = d ∧ -1000000000 < d.tmod 1000000000 ∧ d.tmod 1000000000 < 1000000000 := by
  refine ⟨Int.mul_tdiv_add_tmod d 1000000000, ?_⟩
  rcases Int.le_total 0 d with h | h
  · rw [Int.tmod_eq_emod_of_nonneg h]; omega
  · obtain ⟨m, rfl⟩ : ∃ m, d = -m := ⟨-d, by omega⟩
    rw [Int.neg_tmod, Int.tmod_eq_emod_of_nonneg (by omega)]; omega
end Go.Proofs.Ybulkblnk
