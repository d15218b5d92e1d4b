import Derived.Test.YbulkcpmoRows
import Derived.WalkKit
import Derived.WalkLawsBesides
import Derived.WalkSpells
import Derived.Laws.LoneSync
import Derived.Laws.Bits64
namespace Go.Proofs.Ybulkcpmo
open Go.RowKit

/-! ### Plain: masks on a uint64 -/
theorem ofInt_nat64 (a : Nat) (ha : a < 18446744073709551616) : (BitVec.ofInt 64 (a : Int)).toNat = a := by
  rw [BitVec.ofInt_natCast, BitVec.toNat_ofNat]; exact Nat.mod_eq_of_lt (by omega)
theorem bits_and_u64_nat (a b : Nat) (ha : a < 18446744073709551616) (hb : b < 18446744073709551616) : bits .and .u64 (a : Int) (b : Int) = ((a &&& b : Nat) : Int) := by
  have hx : a &&& b ≤ a := Nat.and_le_left
  show IntKind.u64.wrap ((BitVec.ofInt 64 (a : Int) &&& BitVec.ofInt 64 (b : Int)).toNat : Int) = _
  rw [BitVec.toNat_and, ofInt_nat64 a ha, ofInt_nat64 b hb, IntKind.wrap_u64]
  omega
theorem bits_or_u64_nat (a b : Nat) (ha : a < 18446744073709551616) (hb : b < 18446744073709551616) : bits .or .u64 (a : Int) (b : Int) = ((a ||| b : Nat) : Int) := by
  have hx : a ||| b < 2 ^ 64 := Nat.or_lt_two_pow (by omega) (by omega)
  show IntKind.u64.wrap ((BitVec.ofInt 64 (a : Int) ||| BitVec.ofInt 64 (b : Int)).toNat : Int) = _
  rw [BitVec.toNat_or, ofInt_nat64 a ha, ofInt_nat64 b hb, IntKind.wrap_u64]
  omega
theorem and_mask30 (n : Int) (h0 : 0 ≤ n) (h1 : n < 1073741824) : bits .and .u64 n 1073741823 = n := by
  obtain ⟨a, rfl⟩ := Int.eq_ofNat_of_zero_le h0
  have e := bits_and_u64_nat a 1073741823 (by omega) (by omega)
  have e2 : a &&& 1073741823 = a % 2 ^ 30 := Nat.and_two_pow_sub_one_eq_mod a 30
  rw [e2] at e
  refine e.trans ?_
  omega
theorem and_high (n : Int) (h0 : 0 ≤ n) (h1 : n < 1073741824) : bits .and .u64 n 9223372036854775808 = 0 := by
  obtain ⟨a, rfl⟩ := Int.eq_ofNat_of_zero_le h0
  have e := bits_and_u64_nat a 9223372036854775808 (by omega) (by omega)
  refine e.trans ?_
  have : a &&& 2 ^ 63 = 0 := by
    refine Nat.eq_of_testBit_eq fun i => ?_
    rw [Nat.testBit_and, Nat.testBit_two_pow, Nat.zero_testBit]
    by_cases hi : 63 = i
    · subst hi
      rw [Nat.testBit_lt_two_pow (by omega)]
      rfl
    · simp [hi]
  rw [show (9223372036854775808 : Nat) = 2 ^ 63 from rfl, this]
  rfl
theorem or_zero_left (n : Int) (h0 : 0 ≤ n) (h1 : n < 18446744073709551616) : bits .or .u64 0 n = n := by
  obtain ⟨a, rfl⟩ := Int.eq_ofNat_of_zero_le h0
  have e := bits_or_u64_nat 0 a (by omega) (by omega)
  rw [Nat.zero_or] at e
  exact e
theorem andNot_mask30 (n : Int) (h0 : 0 ≤ n) (h1 : n < 1073741824) : bits .andNot .u64 n 1073741823 = 0 := by
  obtain ⟨a, rfl⟩ := Int.eq_ofNat_of_zero_le h0
  show IntKind.u64.wrap ((BitVec.ofInt 64 (a : Int) &&& ~~~ BitVec.ofInt 64 (1073741823 : Int)).toNat : Int) = _
  have : BitVec.ofInt 64 (a : Int) &&& ~~~ BitVec.ofInt 64 (1073741823 : Int) = 0#64 := by
    refine BitVec.eq_of_toNat_eq ?_
    rw [BitVec.toNat_and, ofInt_nat64 a (by omega)]
    have e2 : (~~~ BitVec.ofInt 64 (1073741823 : Int)).toNat = 18446744072635809792 := by decide
    rw [e2]
    refine Nat.eq_of_testBit_eq fun i => ?_
    rw [Nat.testBit_and]
    simp only [BitVec.toNat_ofNat, Nat.zero_mod, Nat.zero_testBit]
    by_cases hi : i < 30
    · have : Nat.testBit 18446744072635809792 i = false := by
        have hmul : 18446744072635809792 = 2 ^ 30 * 17179869183 := by decide
        rw [hmul, Nat.testBit_two_pow_mul]
        simp [show ¬ 30 ≤ i by omega]
      rw [this, Bool.and_false]
    · rw [Nat.testBit_lt_two_pow (Nat.lt_of_lt_of_le (show a < 2 ^ 30 by omega) (Nat.pow_le_pow_right (by omega) (by omega)))]
      rfl
  rw [this]
  rfl
/-- A status: a claim above two state bits. -/
theorem state_of (hi st : Int) (h0 : 0 ≤ hi) (s0 : 0 ≤ st) (s1 : st < 4) : bits .and .u64 (bits .or .u64 (hi * 4 % 18446744073709551616) st) 3 = st := by
  obtain ⟨s, rfl⟩ := Int.eq_ofNat_of_zero_le s0
  obtain ⟨h, rfl⟩ := Int.eq_ofNat_of_zero_le h0
  have e0 : ((h : Int) * 4 % 18446744073709551616) = ((h * 4 % 18446744073709551616 : Nat) : Int) := by omega
  have hlt : h * 4 % 18446744073709551616 < 18446744073709551616 := Nat.mod_lt _ (by omega)
  have hor : (h * 4 % 18446744073709551616) ||| s < 2 ^ 64 := Nat.or_lt_two_pow (by omega) (by omega)
  rw [e0, bits_or_u64_nat _ s hlt (by omega)]
  have e := bits_and_u64_nat ((h * 4 % 18446744073709551616) ||| s) 3 (by omega) (by omega)
  refine e.trans ?_
  have e2 : ((h * 4 % 18446744073709551616) ||| s) &&& 3 = ((h * 4 % 18446744073709551616) ||| s) % 2 ^ 2 := Nat.and_two_pow_sub_one_eq_mod _ 2
  rw [e2, Nat.or_mod_two_pow]
  have e3 : h * 4 % 18446744073709551616 % 2 ^ 2 = 0 := by omega
  have e4 : s % 2 ^ 2 = s := by omega
  rw [e3, e4, Nat.zero_or]
end Go.Proofs.Ybulkcpmo
