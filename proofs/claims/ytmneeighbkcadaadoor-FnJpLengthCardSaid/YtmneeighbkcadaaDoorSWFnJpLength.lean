/- Eight bytes at a time: where no high bit is left, none of the eight is the byte that is sought; no condition beside those that each theorem states. -/

namespace Go.Proofs.YtmneeighbkcadaaDoor.Swar
/-- Bit 8 i + 7 of (x - 0x0101..) and not x is there, if byte i is the lowest one that is zero. -/
theorem bit_of {y z m : Nat} (n : Nat) (h : y &&& z &&& m = 0) (hm : m / 2 ^ n % 2 = 1) (hy : y / 2 ^ n % 2 = 1) (hz : z / 2 ^ n % 2 = 1) : False := by
  have t : (y &&& z &&& m).testBit n = true := by
    rw [Nat.testBit_and, Nat.testBit_and, Nat.testBit_eq_decide_div_mod_eq, Nat.testBit_eq_decide_div_mod_eq, Nat.testBit_eq_decide_div_mod_eq, hm, hy, hz]
    rfl
  rw [h, Nat.zero_testBit] at t
  cases t
theorem no_zero (x : Nat) (hx : x < 18446744073709551616) (h : ((x + 18446744073709551616 - 72340172838076673) % 18446744073709551616) &&& (18446744073709551615 - x) &&& 9259542123273814144 = 0) :
    x % 256 ≠ 0 ∧ x / 256 % 256 ≠ 0 ∧ x / 65536 % 256 ≠ 0 ∧ x / 16777216 % 256 ≠ 0 ∧ x / 4294967296 % 256 ≠ 0 ∧ x / 1099511627776 % 256 ≠ 0 ∧ x / 281474976710656 % 256 ≠ 0 ∧ x / 72057594037927936 % 256 ≠ 0 := by
  have b0 : x % 256 ≠ 0 := fun z => bit_of 7 h (by decide) (by omega) (by omega)
  have b1 : x / 256 % 256 ≠ 0 := fun z => bit_of 15 h (by decide) (by omega) (by omega)
  have b2 : x / 65536 % 256 ≠ 0 := fun z => bit_of 23 h (by decide) (by omega) (by omega)
  have b3 : x / 16777216 % 256 ≠ 0 := fun z => bit_of 31 h (by decide) (by omega) (by omega)
  have b4 : x / 4294967296 % 256 ≠ 0 := fun z => bit_of 39 h (by decide) (by omega) (by omega)
  have b5 : x / 1099511627776 % 256 ≠ 0 := fun z => bit_of 47 h (by decide) (by omega) (by omega)
  have b6 : x / 281474976710656 % 256 ≠ 0 := fun z => bit_of 55 h (by decide) (by omega) (by omega)
  have b7 : x / 72057594037927936 % 256 ≠ 0 := fun z => bit_of 63 h (by decide) (by omega) (by omega)
  exact ⟨b0, b1, b2, b3, b4, b5, b6, b7⟩
/-- The byte at place n of a number, held against q. -/
theorem xor_byte (w b n q : Nat) (hb : b / 2 ^ n % 256 = q) (h : (w ^^^ b) / 2 ^ n % 256 ≠ 0) : w / 2 ^ n % 256 ≠ q := by
  intro e
  apply h
  rw [← Nat.shiftRight_eq_div_pow, Nat.shiftRight_xor_distrib, show (256 : Nat) = 2 ^ 8 from rfl, Nat.xor_mod_two_pow, Nat.shiftRight_eq_div_pow, Nat.shiftRight_eq_div_pow, show (2 : Nat) ^ 8 = 256 from rfl, e, hb, Nat.xor_self]
theorem bc1 (q : Nat) (hq : q < 256) : q * 72340172838076673 / 2 ^ 8 % 256 = q := by
  rw [show (2 : Nat) ^ 8 = 256 from rfl, show q * 72340172838076673 / 256 = q * 282578800148737 by omega]
  omega
theorem bc2 (q : Nat) (hq : q < 256) : q * 72340172838076673 / 2 ^ 16 % 256 = q := by
  rw [show (2 : Nat) ^ 16 = 65536 from rfl, show q * 72340172838076673 / 65536 = q * 1103823438081 by omega]
  omega
theorem bc3 (q : Nat) (hq : q < 256) : q * 72340172838076673 / 2 ^ 24 % 256 = q := by
  rw [show (2 : Nat) ^ 24 = 16777216 from rfl, show q * 72340172838076673 / 16777216 = q * 4311810305 by omega]
  omega
theorem bc4 (q : Nat) (hq : q < 256) : q * 72340172838076673 / 2 ^ 32 % 256 = q := by
  rw [show (2 : Nat) ^ 32 = 4294967296 from rfl, show q * 72340172838076673 / 4294967296 = q * 16843009 by omega]
  omega
theorem bc5 (q : Nat) (hq : q < 256) : q * 72340172838076673 / 2 ^ 40 % 256 = q := by
  rw [show (2 : Nat) ^ 40 = 1099511627776 from rfl, show q * 72340172838076673 / 1099511627776 = q * 65793 by omega]
  omega
theorem bc6 (q : Nat) (hq : q < 256) : q * 72340172838076673 / 2 ^ 48 % 256 = q := by
  rw [show (2 : Nat) ^ 48 = 281474976710656 from rfl, show q * 72340172838076673 / 281474976710656 = q * 257 by omega]
  omega
theorem bc7 (q : Nat) (hq : q < 256) : q * 72340172838076673 / 2 ^ 56 % 256 = q := by
  rw [show (2 : Nat) ^ 56 = 72057594037927936 from rfl, show q * 72340172838076673 / 72057594037927936 = q * 1 by omega]
  omega
theorem bc0 (q : Nat) (hq : q < 256) : q * 72340172838076673 % 256 = q := by omega
/-- None of a word's eight bytes is q (q < 256). -/
theorem none_is (w q : Nat) (hw : w < 18446744073709551616) (hq : q < 256)
    (h : (((w ^^^ (q * 72340172838076673)) + 18446744073709551616 - 72340172838076673) % 18446744073709551616) &&& (18446744073709551615 - (w ^^^ (q * 72340172838076673))) &&& 9259542123273814144 = 0) :
    w % 256 ≠ q ∧ w / 256 % 256 ≠ q ∧ w / 65536 % 256 ≠ q ∧ w / 16777216 % 256 ≠ q ∧ w / 4294967296 % 256 ≠ q ∧ w / 1099511627776 % 256 ≠ q ∧ w / 281474976710656 % 256 ≠ q ∧ w / 72057594037927936 % 256 ≠ q := by
  have hx : w ^^^ (q * 72340172838076673) < 18446744073709551616 := Nat.xor_lt_two_pow (n := 64) hw (by show q * 72340172838076673 < 18446744073709551616; omega)
  obtain ⟨b0, b1, b2, b3, b4, b5, b6, b7⟩ := no_zero _ hx h
  refine ⟨?_, xor_byte w _ 8 q (bc1 q hq) b1, xor_byte w _ 16 q (bc2 q hq) b2, xor_byte w _ 24 q (bc3 q hq) b3, xor_byte w _ 32 q (bc4 q hq) b4, xor_byte w _ 40 q (bc5 q hq) b5, xor_byte w _ 48 q (bc6 q hq) b6, xor_byte w _ 56 q (bc7 q hq) b7⟩
  have := xor_byte w (q * 72340172838076673) 0 q (by rw [Nat.pow_zero, Nat.div_one]; exact bc0 q hq) (by rw [Nat.pow_zero, Nat.div_one]; exact b0)
  rwa [Nat.pow_zero, Nat.div_one] at this
end Go.Proofs.YtmneeighbkcadaaDoor.Swar