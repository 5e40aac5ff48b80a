/-
  The bits of a time's wall word.
-/
import Derived.Laws.Bits64
import Derived.Laws.Bits64b
namespace Go.Proofs.Ybulkfhta.B

theorem and_high {x : Nat} (h : x < 2 ^ 30) (y : Nat) : x &&& (y * 2 ^ 30) = 0 := by
  apply Nat.eq_of_testBit_eq
  intro i
  rw [Nat.testBit_and, Nat.zero_testBit, Nat.testBit_mul_two_pow]
  by_cases hi : 30 ≤ i
  · rw [Nat.testBit_lt_two_pow (Nat.lt_of_lt_of_le h (Nat.pow_le_pow_right (by omega) hi))]
    simp
  · simp [hi]

theorem mask_low {x : Int} (h0 : 0 ≤ x) (h1 : x < 1000000000) : bits .and .u64 x 1073741823 = x := by
  obtain ⟨n, rfl⟩ : ∃ n : Nat, x = (n : Int) := ⟨x.toNat, by omega⟩
  have := bits_and_u64_nat n 1073741823 (by omega) (by omega)
  rw [show ((1073741823 : Nat) : Int) = 1073741823 from rfl] at this
  rw [this, show (1073741823 : Nat) = 2 ^ 30 - 1 from rfl, Nat.and_two_pow_sub_one_eq_mod, Nat.mod_eq_of_lt (by omega)]

theorem mask_mono {x : Int} (h0 : 0 ≤ x) (h1 : x < 1000000000) : bits .and .u64 x 9223372036854775808 = 0 := by
  obtain ⟨n, rfl⟩ : ∃ n : Nat, x = (n : Int) := ⟨x.toNat, by omega⟩
  have := bits_and_u64_nat n 9223372036854775808 (by omega) (by omega)
  rw [show ((9223372036854775808 : Nat) : Int) = 9223372036854775808 from rfl] at this
  rw [this, show (9223372036854775808 : Nat) = 2 ^ 33 * 2 ^ 30 from rfl, and_high (by omega)]
  rfl

theorem and_small {x y : Int} (h0 : 0 ≤ x) (h1 : x < 1000000000) (h2 : 0 ≤ y) (h3 : y < 1000000000) : 0 ≤ bits .and .u64 x y ∧ bits .and .u64 x y < 1000000000 := by
  obtain ⟨n, rfl⟩ : ∃ n : Nat, x = (n : Int) := ⟨x.toNat, by omega⟩
  obtain ⟨m, rfl⟩ : ∃ n : Nat, y = (n : Int) := ⟨y.toNat, by omega⟩
  rw [bits_and_u64_nat n m (by omega) (by omega)]
  have := Nat.and_le_left (n := n) (m := m)
  omega

theorem mask_both {x y : Int} (h0 : 0 ≤ x) (h1 : x < 1000000000) (h2 : 0 ≤ y) (h3 : y < 1000000000) : bits .and .u64 (bits .and .u64 x y) 9223372036854775808 = 0 :=
  mask_mono (and_small h0 h1 h2 h3).1 (and_small h0 h1 h2 h3).2

theorem clear_low {x : Int} (h0 : 0 ≤ x) (h1 : x < 1000000000) : bits .andNot .u64 x 1073741823 = 0 := by
  obtain ⟨n, rfl⟩ : ∃ n : Nat, x = (n : Int) := ⟨x.toNat, by omega⟩
  have e1 : (BitVec.ofInt 64 (n : Int)).toNat = n := by
    rw [BitVec.ofInt_natCast, BitVec.toNat_ofNat]; exact Nat.mod_eq_of_lt (by omega)
  have e2 : (~~~ BitVec.ofInt 64 1073741823).toNat = 17179869183 * 2 ^ 30 := by decide
  show IntKind.u64.wrap ((BitVec.ofInt 64 (n : Int) &&& ~~~ BitVec.ofInt 64 1073741823).toNat : Int) = 0
  rw [BitVec.toNat_and, e1, e2, and_high (by omega)]
  rfl

theorem or_zero {x : Int} (h0 : 0 ≤ x) (h1 : x < 1000000000) : bits .or .u64 0 x = x := by
  obtain ⟨n, rfl⟩ : ∃ n : Nat, x = (n : Int) := ⟨x.toNat, by omega⟩
  have := bits_or_u64_nat 0 n (by omega) (by omega)
  rw [show ((0 : Nat) : Int) = 0 from rfl] at this
  rw [this, Nat.zero_or]
end Go.Proofs.Ybulkfhta.B
