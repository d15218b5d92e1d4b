import Derived.Test.YbulkcpmoDoorAtom
namespace Go.Proofs.YbulkcpmoDoor
open Go.RowKit

theorem ofInt_nat64 (a : Nat) (ha : a < 18446744073709551616) : (BitVec.ofInt 64 (a : Int)).toNat = a := by
  rw [BitVec.ofInt_natCast, BitVec.toNat_ofNat]; exact Nat.mod_eq_of_lt (by omega)
theorem bits_and_u64_nat (a b : Nat) (ha : a < 18446744073709551616) (hb : b < 18446744073709551616) : bits .and .u64 (a : Int) (b : Int) = ((a &&& b : Nat) : Int) := by
  have hx : a &&& b ≤ a := Nat.and_le_left
  show IntKind.u64.wrap ((BitVec.ofInt 64 (a : Int) &&& BitVec.ofInt 64 (b : Int)).toNat : Int) = _
  rw [BitVec.toNat_and, ofInt_nat64 a ha, ofInt_nat64 b hb, IntKind.wrap_u64]
  omega
theorem bits_or_u64_nat (a b : Nat) (ha : a < 18446744073709551616) (hb : b < 18446744073709551616) : bits .or .u64 (a : Int) (b : Int) = ((a ||| b : Nat) : Int) := by
  have hx : a ||| b < 2 ^ 64 := Nat.or_lt_two_pow (by omega) (by omega)
  show IntKind.u64.wrap ((BitVec.ofInt 64 (a : Int) ||| BitVec.ofInt 64 (b : Int)).toNat : Int) = _
  rw [BitVec.toNat_or, ofInt_nat64 a ha, ofInt_nat64 b hb, IntKind.wrap_u64]
  omega
theorem bits_some (op : BinOp) (x y : Int) : ∃ m : Nat, m < 18446744073709551616 ∧ bits op .u64 x y = (m : Int) := by
  have h : ∃ z : Int, bits op .u64 x y = IntKind.u64.wrap z := by
    cases op <;> exact ⟨_, rfl⟩
  obtain ⟨z, hz⟩ := h
  rw [hz, IntKind.wrap_u64]
  exact ⟨(z % 18446744073709551616).toNat, by omega, by omega⟩

/-- The thirty bits above the lowest two. -/
theorem and_mid (x : Nat) : x &&& 4294967292 = (x / 4 % 1073741824) * 4 := by
  refine Nat.eq_of_testBit_eq fun i => ?_
  have hm : (4294967292 : Nat) = 2 ^ 2 * (2 ^ 30 - 1) := by decide
  have hr : x / 4 % 1073741824 * 4 = 2 ^ 2 * ((x / 2 ^ 2) % 2 ^ 30) := by rw [show (2 : Nat) ^ 2 = 4 from rfl, show (2 : Nat) ^ 30 = 1073741824 from rfl]; omega
  rw [hr, Nat.testBit_and, hm, Nat.testBit_two_pow_mul, Nat.testBit_two_pow_mul, Nat.testBit_two_pow_sub_one, Nat.testBit_mod_two_pow, Nat.testBit_div_two_pow]
  by_cases hi : 2 ≤ i
  · simp only [hi, decide_true, Bool.true_and]
    rw [show i - 2 + 2 = i by omega, Bool.and_comm]
  · simp [hi]

/-- What the law writes for 'renewed' is 'renewed'. -/
theorem renew_eq (x : Int) (h0 : 0 ≤ x) (h1 : x < 18446744073709551616) :
    bits .or .u64 (bits .or .u64 (bits .andNot .u64 x 4294967295) (bits .and .u64 (IntKind.u64.wrap (x + 4)) 4294967292)) 0 = bits .or .u64 (bits .andNot .u64 x 4294967295) (IntKind.u64.wrap (bits .and .u64 (IntKind.u64.wrap (x / 4 + 1)) 1073741823 * 4)) := by
  obtain ⟨a, rfl⟩ := Int.eq_ofNat_of_zero_le h0
  have e1 : bits .and .u64 (IntKind.u64.wrap ((a : Int) + 4)) 4294967292 = ((((a + 4) % 18446744073709551616) / 4 % 1073741824 * 4 : Nat) : Int) := by
    have := bits_and_u64_nat ((a + 4) % 18446744073709551616) 4294967292 (by omega) (by omega)
    rw [and_mid] at this
    rw [IntKind.wrap_u64]
    refine Eq.trans ?_ this
    congr 1
  have e2 : bits .and .u64 (IntKind.u64.wrap ((a : Int) / 4 + 1)) 1073741823 = (((a / 4 + 1) % 1073741824 : Nat) : Int) := by
    have := bits_and_u64_nat (a / 4 + 1) 1073741823 (by omega) (by omega)
    rw [show a / 4 + 1 &&& 1073741823 = (a / 4 + 1) % 2 ^ 30 from Nat.and_two_pow_sub_one_eq_mod _ 30] at this
    rw [IntKind.wrap_u64]
    refine Eq.trans ?_ this
    congr 1
    omega
  rw [e1, e2, IntKind.wrap_u64]
  have e3 : ((((a / 4 + 1) % 1073741824 : Nat) : Int) * 4) % 18446744073709551616 = ((((a + 4) % 18446744073709551616) / 4 % 1073741824 * 4 : Nat) : Int) := by omega
  rw [e3]
  obtain ⟨m, hm, hb⟩ := bits_some .or (bits .andNot .u64 (a : Int) 4294967295) ((((a + 4) % 18446744073709551616) / 4 % 1073741824 * 4 : Nat) : Int)
  rw [hb]
  have := bits_or_u64_nat m 0 hm (by omega)
  rw [Nat.or_zero] at this
  exact this
end Go.Proofs.YbulkcpmoDoor
