/- Eight bytes at a time, as the program tells them: a word whose test is zero has none of the two bytes that are sought; no condition beside those that each theorem states. -/
import Derived.Test.YtmneeighbkcadaaDoorSWFnJpLength
import Derived.Laws.BitsLemmas
namespace Go.Proofs.YtmneeighbkcadaaDoor.Swar
open Go
theorem wu64 (n : Int) : IntKind.u64.wrap n = n % 18446744073709551616 := by simp [IntKind.wrap, IntKind.bits, IntKind.signed]
theorem wraps_u64 (n : Int) (h₀ : 0 ≤ n) (h₁ : n < 2 ^ 64) : IntKind.u64.wrap n = n := by rw [wu64]; omega
theorem bitsN_or (a b : Nat) (ha : a < 18446744073709551616) (hb : b < 18446744073709551616) : Go.bits .or .u64 (a : Int) (b : Int) = ((a ||| b : Nat) : Int) := (bits_nat .u64 64 (by decide) wraps_u64 a b ha hb).2
theorem bitsN_and (a b : Nat) (ha : a < 18446744073709551616) (hb : b < 18446744073709551616) : Go.bits .and .u64 (a : Int) (b : Int) = ((a &&& b : Nat) : Int) := (bits_nat .u64 64 (by decide) wraps_u64 a b ha hb).1
theorem bitsN_xor (a b : Nat) (ha : a < 18446744073709551616) (hb : b < 18446744073709551616) : Go.bits .xor .u64 (a : Int) (b : Int) = ((a ^^^ b : Nat) : Int) := by
  have ha' : a % 2 ^ IntKind.u64.bits = a := Nat.mod_eq_of_lt ha
  have hb' : b % 2 ^ IntKind.u64.bits = b := Nat.mod_eq_of_lt hb
  have h : a ^^^ b < 2 ^ 64 := Nat.xor_lt_two_pow (n := 64) ha hb
  simp only [Go.bits, BitVec.ofInt_natCast, BitVec.toNat_xor, BitVec.toNat_ofNat, ha', hb']
  exact wraps_u64 _ (Int.natCast_nonneg _) (by exact_mod_cast h)
theorem and_lt (a b : Nat) (hb : b < 18446744073709551616) : a &&& b < 18446744073709551616 := Nat.and_lt_two_pow (n := 64) _ hb
theorem xor_lt (a b : Nat) (ha : a < 18446744073709551616) (hb : b < 18446744073709551616) : a ^^^ b < 18446744073709551616 := Nat.xor_lt_two_pow (n := 64) ha hb
theorem not_is (x : Nat) (h : x < 18446744073709551616) : 18446744073709551615 ^^^ x = 18446744073709551615 - x := by
  apply Nat.eq_of_testBit_eq
  intro i
  rw [Nat.testBit_xor, show (18446744073709551615 : Nat) - x = 2 ^ 64 - (x + 1) by omega, Nat.testBit_two_pow_sub_succ (by simpa using h), show (18446744073709551615 : Nat) = 2 ^ 64 - 1 from rfl, Nat.testBit_two_pow_sub_one]
  by_cases hi : i < 64
  · simp [hi]
  · have : x.testBit i = false := Nat.testBit_lt_two_pow (Nat.lt_of_lt_of_le h (Nat.pow_le_pow_right (n := 2) (by decide) (by omega : 64 ≤ i)))
    simp [hi, this]
/-- One half of the test. -/
theorem half (x : Nat) (h : x < 18446744073709551616) :
    Go.bits .and .u64 (Go.bits .and .u64 (IntKind.u64.wrap ((x : Int) - 72340172838076673)) (Go.bits .xor .u64 IntKind.u64.max (x : Int))) 9259542123273814144 =
      (((x + 18446744073709551616 - 72340172838076673) % 18446744073709551616 &&& (18446744073709551615 - x) &&& 9259542123273814144 : Nat) : Int) := by
  have e1 : IntKind.u64.wrap ((x : Int) - 72340172838076673) = ((x + 18446744073709551616 - 72340172838076673) % 18446744073709551616 : Nat) := by
    rw [wu64]; omega
  have e2 : (IntKind.u64.max : Int) = ((18446744073709551615 : Nat) : Int) := by decide
  rw [e1, e2, bitsN_xor _ _ (by omega) h, not_is x h, bitsN_and _ _ (by omega) (by omega)]
  exact bitsN_and _ 9259542123273814144 (and_lt _ _ (by omega)) (by omega)
/-- The whole test. -/
theorem test_zero (W q : Nat) (hW : W < 18446744073709551616) (hq : q < 256)
    (h : Go.bits .or .u64 (Go.bits .and .u64 (Go.bits .and .u64 (IntKind.u64.wrap ((Go.bits .xor .u64 (W : Int) (IntKind.u64.wrap ((IntKind.u64.wrap (q : Int)) * 72340172838076673))) - 72340172838076673)) (Go.bits .xor .u64 IntKind.u64.max (Go.bits .xor .u64 (W : Int) (IntKind.u64.wrap ((IntKind.u64.wrap (q : Int)) * 72340172838076673))))) 9259542123273814144) (Go.bits .and .u64 (Go.bits .and .u64 (IntKind.u64.wrap ((Go.bits .xor .u64 (W : Int) 6655295901103053916) - 72340172838076673)) (Go.bits .xor .u64 IntKind.u64.max (Go.bits .xor .u64 (W : Int) 6655295901103053916))) 9259542123273814144) = 0) :
    (W % 256 ≠ q ∧ W / 256 % 256 ≠ q ∧ W / 65536 % 256 ≠ q ∧ W / 16777216 % 256 ≠ q ∧ W / 4294967296 % 256 ≠ q ∧ W / 1099511627776 % 256 ≠ q ∧ W / 281474976710656 % 256 ≠ q ∧ W / 72057594037927936 % 256 ≠ q) ∧
    (W % 256 ≠ 92 ∧ W / 256 % 256 ≠ 92 ∧ W / 65536 % 256 ≠ 92 ∧ W / 16777216 % 256 ≠ 92 ∧ W / 4294967296 % 256 ≠ 92 ∧ W / 1099511627776 % 256 ≠ 92 ∧ W / 281474976710656 % 256 ≠ 92 ∧ W / 72057594037927936 % 256 ≠ 92) := by
  have e1 : IntKind.u64.wrap ((IntKind.u64.wrap (q : Int)) * 72340172838076673) = ((q * 72340172838076673 : Nat) : Int) := by
    rw [wu64, wu64]; omega
  have b1 : q * 72340172838076673 < 18446744073709551616 := by omega
  have e2 : (6655295901103053916 : Int) = ((92 * 72340172838076673 : Nat) : Int) := by decide
  rw [e1, e2, bitsN_xor _ _ hW b1, bitsN_xor _ _ hW (by decide), half _ (xor_lt _ _ hW b1), half _ (xor_lt _ _ hW (by decide)), bitsN_or _ _ (and_lt _ _ (by omega)) (and_lt _ _ (by omega))] at h
  have h0 := Int.ofNat.inj h
  have h1 := (Nat.or_eq_zero_iff.1 h0)
  exact ⟨none_is W q hW hq h1.1, none_is W 92 hW (by decide) h1.2⟩
/-- A byte put on top. -/
theorem join (n : Nat) (a b : Nat) (ha : a < 2 ^ n) (hb : b < 256) (hn : n ≤ 56) : Go.bits .or .u64 (a : Int) (IntKind.u64.wrap ((IntKind.u64.wrap (b : Int)) * ((2 ^ n : Nat) : Int))) = ((a + b * 2 ^ n : Nat) : Int) := by
  have hp : (2 : Nat) ^ n ≤ 2 ^ 56 := Nat.pow_le_pow_right (by decide) hn
  have hb2 : b * 2 ^ n < 18446744073709551616 := by
    have : b * 2 ^ n ≤ 255 * 2 ^ 56 := Nat.mul_le_mul (by omega) hp
    omega
  have e : IntKind.u64.wrap ((IntKind.u64.wrap (b : Int)) * ((2 ^ n : Nat) : Int)) = ((b * 2 ^ n : Nat) : Int) := by
    rw [show IntKind.u64.wrap (b : Int) = (b : Int) by rw [wu64]; omega, ← Int.natCast_mul, wu64]
    exact Int.emod_eq_of_lt (Int.natCast_nonneg _) (by omega)
  rw [e, bitsN_or _ _ (by omega) hb2, Nat.or_comm, Nat.mul_comm b, ← Nat.two_pow_add_eq_or_of_lt ha]
  congr 1
  omega
end Go.Proofs.YtmneeighbkcadaaDoor.Swar