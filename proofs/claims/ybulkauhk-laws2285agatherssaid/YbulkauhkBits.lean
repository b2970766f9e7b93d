import Derived.Test.YbulkauhkRows
import Derived.Laws.Bits64
namespace Go.Proofs.Ybulkauhk
theorem ofInt_nat (a : Nat) (ha : a < 18446744073709551616) : (BitVec.ofInt 64 (a : Int)).toNat = a := by
  rw [BitVec.ofInt_natCast, BitVec.toNat_ofNat]; exact Nat.mod_eq_of_lt (by omega)
theorem bits_and_nat (a b : Nat) (ha : a < 18446744073709551616) (hb : b < 18446744073709551616) : bits .and .u64 (a : Int) (b : Int) = ((a &&& b : Nat) : Int) := by
  have hx : a &&& b < 2 ^ 64 := Nat.and_lt_two_pow a (by omega)
  show IntKind.u64.wrap ((BitVec.ofInt 64 (a : Int) &&& BitVec.ofInt 64 (b : Int)).toNat : Int) = _
  rw [BitVec.toNat_and, ofInt_nat a ha, ofInt_nat b hb, IntKind.wrap_u64]
  omega
theorem or_lt (a b : Nat) (ha : a < 18446744073709551616) (hb : b < 18446744073709551616) : a ||| b < 18446744073709551616 := by
  have : a ||| b < 2 ^ 64 := Nat.or_lt_two_pow (by omega) (by omega)
  omega
theorem bits_or_nat (a b : Nat) (ha : a < 18446744073709551616) (hb : b < 18446744073709551616) : bits .or .u64 (a : Int) (b : Int) = ((a ||| b : Nat) : Int) := by
  have hx := or_lt a b ha hb
  show IntKind.u64.wrap ((BitVec.ofInt 64 (a : Int) ||| BitVec.ofInt 64 (b : Int)).toNat : Int) = _
  rw [BitVec.toNat_or, ofInt_nat a ha, ofInt_nat b hb, IntKind.wrap_u64]
  omega
theorem pow_lt (s : Nat) (h : s < 64) : 2 ^ s < 18446744073709551616 := by
  have : 2 ^ s < 2 ^ 64 := Nat.pow_lt_pow_right (by omega) h
  omega
theorem wrap_pow (s : Nat) (h : s < 64) : IntKind.u64.wrap ((2 : Int) ^ s) = ((2 ^ s : Nat) : Int) := by
  have h1 := pow_lt s h
  have e : ((2 : Int) ^ s) = ((2 ^ s : Nat) : Int) := by simp
  rw [e, IntKind.wrap_u64]
  generalize 2 ^ s = z at h1
  omega
theorem and_pow (m s : Nat) : (m &&& 2 ^ s != 0) = m.testBit s := by
  have h : ∀ i, (m &&& 2 ^ s).testBit i = (m.testBit i && decide (s = i)) := fun i => by rw [Nat.testBit_and, Nat.testBit_two_pow]
  cases hb : m.testBit s
  · have e : m &&& 2 ^ s = 0 := Nat.eq_of_testBit_eq fun i => by
      rw [h i, Nat.zero_testBit]
      by_cases hi : s = i
      · subst hi; rw [hb]; rfl
      · simp [hi]
    rw [e]; rfl
  · have hs := h s
    rw [hb] at hs
    rw [bne_iff_ne]
    intro e
    rw [e, Nat.zero_testBit] at hs
    simp at hs
theorem has_bit (m s : Nat) (hm : m < 18446744073709551616) (h : s < 64) : (bits .and .u64 (m : Int) (IntKind.u64.wrap ((2 : Int) ^ s)) != 0) = m.testBit s := by
  rw [wrap_pow s h, bits_and_nat m _ hm (pow_lt s h), ← and_pow]
  rw [Bool.eq_iff_iff]; simp [bne_iff_ne]
theorem set_bit (m s : Nat) (hm : m < 18446744073709551616) (h : s < 64) : bits .or .u64 (m : Int) (IntKind.u64.wrap ((2 : Int) ^ s)) = ((m ||| 2 ^ s : Nat) : Int) := by
  rw [wrap_pow s h, bits_or_nat m _ hm (pow_lt s h)]
theorem test_or (m s t : Nat) : (m ||| 2 ^ s).testBit t = (m.testBit t || decide (s = t)) := by
  rw [Nat.testBit_or, Nat.testBit_two_pow]
end Go.Proofs.Ybulkauhk
