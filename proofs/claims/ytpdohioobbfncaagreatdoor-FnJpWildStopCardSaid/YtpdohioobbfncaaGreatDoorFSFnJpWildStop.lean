/- Eight bytes at a time: where no high bit is left, none of the eight is the byte that is sought; no condition beside those that each theorem states. -/
import Derived.Laws.BitsLemmas
import Derived.Test.YtpdohioobbfncaaGreatDoorJAFnJpWildStop

namespace Go.Proofs.YtpdohioobbfncaaGreatDoor.Swar
/-- Bit 8 i + 7 of (x - 0x0101..) and not x is there, if byte i is the lowest one that is zero. -/
theorem bit_of {y z m : Nat} (n : Nat) (h : y &&& z &&& m = 0) (hm : m / 2 ^ n % 2 = 1) (hy : y / 2 ^ n % 2 = 1) (hz : z / 2 ^ n % 2 = 1) : False := by
  have t : (y &&& z &&& m).testBit n = true := by
    rw [Nat.testBit_and, Nat.testBit_and, Nat.testBit_eq_decide_div_mod_eq, Nat.testBit_eq_decide_div_mod_eq, Nat.testBit_eq_decide_div_mod_eq, hm, hy, hz]
    rfl
  rw [h, Nat.zero_testBit] at t
  cases t
theorem no_zero (x : Nat) (hx : x < 18446744073709551616) (h : ((x + 18446744073709551616 - 72340172838076673) % 18446744073709551616) &&& (18446744073709551615 - x) &&& 9259542123273814144 = 0) :
    x % 256 ≠ 0 ∧ x / 256 % 256 ≠ 0 ∧ x / 65536 % 256 ≠ 0 ∧ x / 16777216 % 256 ≠ 0 ∧ x / 4294967296 % 256 ≠ 0 ∧ x / 1099511627776 % 256 ≠ 0 ∧ x / 281474976710656 % 256 ≠ 0 ∧ x / 72057594037927936 % 256 ≠ 0 := by
  have b0 : x % 256 ≠ 0 := fun z => bit_of 7 h (by decide) (by omega) (by omega)
  have b1 : x / 256 % 256 ≠ 0 := fun z => bit_of 15 h (by decide) (by omega) (by omega)
  have b2 : x / 65536 % 256 ≠ 0 := fun z => bit_of 23 h (by decide) (by omega) (by omega)
  have b3 : x / 16777216 % 256 ≠ 0 := fun z => bit_of 31 h (by decide) (by omega) (by omega)
  have b4 : x / 4294967296 % 256 ≠ 0 := fun z => bit_of 39 h (by decide) (by omega) (by omega)
  have b5 : x / 1099511627776 % 256 ≠ 0 := fun z => bit_of 47 h (by decide) (by omega) (by omega)
  have b6 : x / 281474976710656 % 256 ≠ 0 := fun z => bit_of 55 h (by decide) (by omega) (by omega)
  have b7 : x / 72057594037927936 % 256 ≠ 0 := fun z => bit_of 63 h (by decide) (by omega) (by omega)
  exact ⟨b0, b1, b2, b3, b4, b5, b6, b7⟩
/-- The byte at place n of a number, held against q. -/
theorem xor_byte (w b n q : Nat) (hb : b / 2 ^ n % 256 = q) (h : (w ^^^ b) / 2 ^ n % 256 ≠ 0) : w / 2 ^ n % 256 ≠ q := by
  intro e
  apply h
  rw [← Nat.shiftRight_eq_div_pow, Nat.shiftRight_xor_distrib, show (256 : Nat) = 2 ^ 8 from rfl, Nat.xor_mod_two_pow, Nat.shiftRight_eq_div_pow, Nat.shiftRight_eq_div_pow, show (2 : Nat) ^ 8 = 256 from rfl, e, hb, Nat.xor_self]
theorem bc1 (q : Nat) (hq : q < 256) : q * 72340172838076673 / 2 ^ 8 % 256 = q := by
  rw [show (2 : Nat) ^ 8 = 256 from rfl, show q * 72340172838076673 / 256 = q * 282578800148737 by omega]
  omega
theorem bc2 (q : Nat) (hq : q < 256) : q * 72340172838076673 / 2 ^ 16 % 256 = q := by
  rw [show (2 : Nat) ^ 16 = 65536 from rfl, show q * 72340172838076673 / 65536 = q * 1103823438081 by omega]
  omega
theorem bc3 (q : Nat) (hq : q < 256) : q * 72340172838076673 / 2 ^ 24 % 256 = q := by
  rw [show (2 : Nat) ^ 24 = 16777216 from rfl, show q * 72340172838076673 / 16777216 = q * 4311810305 by omega]
  omega
theorem bc4 (q : Nat) (hq : q < 256) : q * 72340172838076673 / 2 ^ 32 % 256 = q := by
  rw [show (2 : Nat) ^ 32 = 4294967296 from rfl, show q * 72340172838076673 / 4294967296 = q * 16843009 by omega]
  omega
theorem bc5 (q : Nat) (hq : q < 256) : q * 72340172838076673 / 2 ^ 40 % 256 = q := by
  rw [show (2 : Nat) ^ 40 = 1099511627776 from rfl, show q * 72340172838076673 / 1099511627776 = q * 65793 by omega]
  omega
theorem bc6 (q : Nat) (hq : q < 256) : q * 72340172838076673 / 2 ^ 48 % 256 = q := by
  rw [show (2 : Nat) ^ 48 = 281474976710656 from rfl, show q * 72340172838076673 / 281474976710656 = q * 257 by omega]
  omega
theorem bc7 (q : Nat) (hq : q < 256) : q * 72340172838076673 / 2 ^ 56 % 256 = q := by
  rw [show (2 : Nat) ^ 56 = 72057594037927936 from rfl, show q * 72340172838076673 / 72057594037927936 = q * 1 by omega]
  omega
theorem bc0 (q : Nat) (hq : q < 256) : q * 72340172838076673 % 256 = q := by omega
/-- None of a word's eight bytes is q (q < 256). -/
theorem none_is (w q : Nat) (hw : w < 18446744073709551616) (hq : q < 256)
    (h : (((w ^^^ (q * 72340172838076673)) + 18446744073709551616 - 72340172838076673) % 18446744073709551616) &&& (18446744073709551615 - (w ^^^ (q * 72340172838076673))) &&& 9259542123273814144 = 0) :
    w % 256 ≠ q ∧ w / 256 % 256 ≠ q ∧ w / 65536 % 256 ≠ q ∧ w / 16777216 % 256 ≠ q ∧ w / 4294967296 % 256 ≠ q ∧ w / 1099511627776 % 256 ≠ q ∧ w / 281474976710656 % 256 ≠ q ∧ w / 72057594037927936 % 256 ≠ q := by
  have hx : w ^^^ (q * 72340172838076673) < 18446744073709551616 := Nat.xor_lt_two_pow (n := 64) hw (by show q * 72340172838076673 < 18446744073709551616; omega)
  obtain ⟨b0, b1, b2, b3, b4, b5, b6, b7⟩ := no_zero _ hx h
  refine ⟨?_, xor_byte w _ 8 q (bc1 q hq) b1, xor_byte w _ 16 q (bc2 q hq) b2, xor_byte w _ 24 q (bc3 q hq) b3, xor_byte w _ 32 q (bc4 q hq) b4, xor_byte w _ 40 q (bc5 q hq) b5, xor_byte w _ 48 q (bc6 q hq) b6, xor_byte w _ 56 q (bc7 q hq) b7⟩
  have := xor_byte w (q * 72340172838076673) 0 q (by rw [Nat.pow_zero, Nat.div_one]; exact bc0 q hq) (by rw [Nat.pow_zero, Nat.div_one]; exact b0)
  rwa [Nat.pow_zero, Nat.div_one] at this
end Go.Proofs.YtpdohioobbfncaaGreatDoor.Swar/- Eight bytes at a time, as the program tells them: a word whose test is zero has none of the two bytes that are sought; no condition beside those that each theorem states. -/
namespace Go.Proofs.YtpdohioobbfncaaGreatDoor.Swar
open Go
theorem wu64 (n : Int) : IntKind.u64.wrap n = n % 18446744073709551616 := by simp [IntKind.wrap, IntKind.bits, IntKind.signed]
theorem wraps_u64 (n : Int) (h₀ : 0 ≤ n) (h₁ : n < 2 ^ 64) : IntKind.u64.wrap n = n := by rw [wu64]; omega
theorem bitsN_or (a b : Nat) (ha : a < 18446744073709551616) (hb : b < 18446744073709551616) : Go.bits .or .u64 (a : Int) (b : Int) = ((a ||| b : Nat) : Int) := (bits_nat .u64 64 (by decide) wraps_u64 a b ha hb).2
theorem bitsN_and (a b : Nat) (ha : a < 18446744073709551616) (hb : b < 18446744073709551616) : Go.bits .and .u64 (a : Int) (b : Int) = ((a &&& b : Nat) : Int) := (bits_nat .u64 64 (by decide) wraps_u64 a b ha hb).1
theorem bitsN_xor (a b : Nat) (ha : a < 18446744073709551616) (hb : b < 18446744073709551616) : Go.bits .xor .u64 (a : Int) (b : Int) = ((a ^^^ b : Nat) : Int) := by
  have ha' : a % 2 ^ IntKind.u64.bits = a := Nat.mod_eq_of_lt ha
  have hb' : b % 2 ^ IntKind.u64.bits = b := Nat.mod_eq_of_lt hb
  have h : a ^^^ b < 2 ^ 64 := Nat.xor_lt_two_pow (n := 64) ha hb
  simp only [Go.bits, BitVec.ofInt_natCast, BitVec.toNat_xor, BitVec.toNat_ofNat, ha', hb']
  exact wraps_u64 _ (Int.natCast_nonneg _) (by exact_mod_cast h)
theorem and_lt (a b : Nat) (hb : b < 18446744073709551616) : a &&& b < 18446744073709551616 := Nat.and_lt_two_pow (n := 64) _ hb
theorem xor_lt (a b : Nat) (ha : a < 18446744073709551616) (hb : b < 18446744073709551616) : a ^^^ b < 18446744073709551616 := Nat.xor_lt_two_pow (n := 64) ha hb
theorem not_is (x : Nat) (h : x < 18446744073709551616) : 18446744073709551615 ^^^ x = 18446744073709551615 - x := by
  apply Nat.eq_of_testBit_eq
  intro i
  rw [Nat.testBit_xor, show (18446744073709551615 : Nat) - x = 2 ^ 64 - (x + 1) by omega, Nat.testBit_two_pow_sub_succ (by simpa using h), show (18446744073709551615 : Nat) = 2 ^ 64 - 1 from rfl, Nat.testBit_two_pow_sub_one]
  by_cases hi : i < 64
  · simp [hi]
  · have : x.testBit i = false := Nat.testBit_lt_two_pow (Nat.lt_of_lt_of_le h (Nat.pow_le_pow_right (n := 2) (by decide) (by omega : 64 ≤ i)))
    simp [hi, this]
/-- One half of the test. -/
theorem half (x : Nat) (h : x < 18446744073709551616) :
    Go.bits .and .u64 (Go.bits .and .u64 (IntKind.u64.wrap ((x : Int) - 72340172838076673)) (Go.bits .xor .u64 IntKind.u64.max (x : Int))) 9259542123273814144 =
      (((x + 18446744073709551616 - 72340172838076673) % 18446744073709551616 &&& (18446744073709551615 - x) &&& 9259542123273814144 : Nat) : Int) := by
  have e1 : IntKind.u64.wrap ((x : Int) - 72340172838076673) = ((x + 18446744073709551616 - 72340172838076673) % 18446744073709551616 : Nat) := by
    rw [wu64]; omega
  have e2 : (IntKind.u64.max : Int) = ((18446744073709551615 : Nat) : Int) := by decide
  rw [e1, e2, bitsN_xor _ _ (by omega) h, not_is x h, bitsN_and _ _ (by omega) (by omega)]
  exact bitsN_and _ 9259542123273814144 (and_lt _ _ (by omega)) (by omega)
/-- The whole test. -/
theorem test_zero (W q : Nat) (hW : W < 18446744073709551616) (hq : q < 256)
    (h : Go.bits .or .u64 (Go.bits .and .u64 (Go.bits .and .u64 (IntKind.u64.wrap ((Go.bits .xor .u64 (W : Int) (IntKind.u64.wrap ((IntKind.u64.wrap (q : Int)) * 72340172838076673))) - 72340172838076673)) (Go.bits .xor .u64 IntKind.u64.max (Go.bits .xor .u64 (W : Int) (IntKind.u64.wrap ((IntKind.u64.wrap (q : Int)) * 72340172838076673))))) 9259542123273814144) (Go.bits .and .u64 (Go.bits .and .u64 (IntKind.u64.wrap ((Go.bits .xor .u64 (W : Int) 6655295901103053916) - 72340172838076673)) (Go.bits .xor .u64 IntKind.u64.max (Go.bits .xor .u64 (W : Int) 6655295901103053916))) 9259542123273814144) = 0) :
    (W % 256 ≠ q ∧ W / 256 % 256 ≠ q ∧ W / 65536 % 256 ≠ q ∧ W / 16777216 % 256 ≠ q ∧ W / 4294967296 % 256 ≠ q ∧ W / 1099511627776 % 256 ≠ q ∧ W / 281474976710656 % 256 ≠ q ∧ W / 72057594037927936 % 256 ≠ q) ∧
    (W % 256 ≠ 92 ∧ W / 256 % 256 ≠ 92 ∧ W / 65536 % 256 ≠ 92 ∧ W / 16777216 % 256 ≠ 92 ∧ W / 4294967296 % 256 ≠ 92 ∧ W / 1099511627776 % 256 ≠ 92 ∧ W / 281474976710656 % 256 ≠ 92 ∧ W / 72057594037927936 % 256 ≠ 92) := by
  have e1 : IntKind.u64.wrap ((IntKind.u64.wrap (q : Int)) * 72340172838076673) = ((q * 72340172838076673 : Nat) : Int) := by
    rw [wu64, wu64]; omega
  have b1 : q * 72340172838076673 < 18446744073709551616 := by omega
  have e2 : (6655295901103053916 : Int) = ((92 * 72340172838076673 : Nat) : Int) := by decide
  rw [e1, e2, bitsN_xor _ _ hW b1, bitsN_xor _ _ hW (by decide), half _ (xor_lt _ _ hW b1), half _ (xor_lt _ _ hW (by decide)), bitsN_or _ _ (and_lt _ _ (by omega)) (and_lt _ _ (by omega))] at h
  have h0 := Int.ofNat.inj h
  have h1 := (Nat.or_eq_zero_iff.1 h0)
  exact ⟨none_is W q hW hq h1.1, none_is W 92 hW (by decide) h1.2⟩
/-- A byte put on top. -/
theorem join (n : Nat) (a b : Nat) (ha : a < 2 ^ n) (hb : b < 256) (hn : n ≤ 56) : Go.bits .or .u64 (a : Int) (IntKind.u64.wrap ((IntKind.u64.wrap (b : Int)) * ((2 ^ n : Nat) : Int))) = ((a + b * 2 ^ n : Nat) : Int) := by
  have hp : (2 : Nat) ^ n ≤ 2 ^ 56 := Nat.pow_le_pow_right (by decide) hn
  have hb2 : b * 2 ^ n < 18446744073709551616 := by
    have : b * 2 ^ n ≤ 255 * 2 ^ 56 := Nat.mul_le_mul (by omega) hp
    omega
  have e : IntKind.u64.wrap ((IntKind.u64.wrap (b : Int)) * ((2 ^ n : Nat) : Int)) = ((b * 2 ^ n : Nat) : Int) := by
    rw [show IntKind.u64.wrap (b : Int) = (b : Int) by rw [wu64]; omega, ← Int.natCast_mul, wu64]
    exact Int.emod_eq_of_lt (Int.natCast_nonneg _) (by omega)
  rw [e, bitsN_or _ _ (by omega) hb2, Nat.or_comm, Nat.mul_comm b, ← Nat.two_pow_add_eq_or_of_lt ha]
  congr 1
  omega
end Go.Proofs.YtpdohioobbfncaaGreatDoor.Swar/- (As ST, over JA.) Where stringEndConfig ends: at the first quotation mark ahead of which an even number of backslashes stands; no condition beside those that each theorem states. -/
namespace Go.Proofs.YtpdohioobbfncaaGreatDoor.JFnJpWildStop
open Go.RowKit Go.Proofs.YtpdohioobbfncaaGreatDoor.PFnJpWildStop Go.Proofs.YtpdohioobbfncaaGreatDoorW.PrintWords Go.Proofs.YtpdohioobbfncaaGreatDoorW.PrintLast Go.Proofs.YtpdohioobbfncaaGreatDoorW.PrintMore
set_option linter.unusedSimpArgs false
set_option linter.unusedVariables false
theorem u64 {x : Int} (h0 : 0 ≤ x) (h1 : x < 18446744073709551616) : IntKind.u64.wrap x = x := by
  rw [IntKind.wrap_u64]; omega
/-- How many backslashes stand one beside the other ahead of a place. -/
def bsl (l : List Int) : Nat → Nat
  | 0 => 0
  | i + 1 => if rd l (i : Int) = 92 then bsl l i + 1 else 0
theorem l2_even (l : List Int) (hz : l.length ≤ 4611686018427387904) (q i x11 : Int) (fl : Bool) (n : Nat) : ∀ m : Nat, m ≤ n → ∀ j : Nat, j ≤ l.length → bsl l j = m → m % 2 = 0 →
    Ev (fun k => sEC_.l2 k l q i x11 fl ((j : Int) - 1)) (wrap64 (i + 1), true) := by
  induction n with
  | zero =>
    intro m hm j hj hb he
    obtain rfl : m = 0 := by omega
    refine Ev.step (fun k => by rw [sEC_.l2]) ?_
    cases j with
    | zero => exact Ev.pos (by omega) (Ev.step (fun k => by rw [sEC_.j4]) (Ev.pos rfl (Ev.now _)))
    | succ j =>
      have e : ((j + 1 : Nat) : Int) - 1 = (j : Int) := by omega
      have h92 : rd l (j : Int) ≠ 92 := fun h => by rw [bsl, if_pos h] at hb; omega
      refine Ev.neg (by omega) (Ev.pos (by omega) (Ev.pos (by omega) ?_))
      rw [e]
      exact Ev.step (fun k => by rw [sEC_.j4]) (Ev.pos (bne_iff_ne.2 h92) (Ev.now _))
  | succ n ih =>
    intro m hm j hj hb he
    by_cases h0 : m = 0
    · exact ih m (by omega) j hj hb he
    · cases j with
      | zero => rw [bsl] at hb; omega
      | succ j =>
        have e : ((j + 1 : Nat) : Int) - 1 = (j : Int) := by omega
        have h92 : rd l (j : Int) = 92 := Decidable.byContradiction fun h => by rw [bsl, if_neg h] at hb; omega
        rw [bsl, if_pos h92] at hb
        cases j with
        | zero => rw [bsl] at hb; omega
        | succ j =>
          have h92' : rd l (j : Int) = 92 := Decidable.byContradiction fun h => by rw [bsl, if_neg h] at hb; omega
          rw [bsl, if_pos h92'] at hb
          refine Ev.step (fun k => by rw [sEC_.l2]) (Ev.neg (by omega) (Ev.pos (by omega) (Ev.pos (by omega) ?_)))
          rw [e]
          have e3 : wrap64 (((j + 1 : Nat) : Int) - 1) = (j : Int) := by rw [w64] <;> omega
          have e4 : wrap64 ((j : Int) - 1) = (j : Int) - 1 := by rw [w64] <;> omega
          refine Ev.step (fun k => by rw [sEC_.j4]) ?_
          rw [e3]
          refine Ev.neg (by rw [h92]; decide) (Ev.neg (by omega) (Ev.pos (by omega) (Ev.pos (by omega) (Ev.pos h92' ?_))))
          rw [e4]
          exact ih (m - 2) (by omega) j (by omega) (by omega) (by omega)
theorem l2_odd (l : List Int) (hz : l.length ≤ 4611686018427387904) (q i x11 : Int) (fl : Bool) {r : Int × Bool} (hr : Ev (fun k => sEC_.l1 k l q (wrap64 (i + 1)) x11 fl) r) (n : Nat) : ∀ m : Nat, m ≤ n → ∀ j : Nat, j ≤ l.length → bsl l j = m → m % 2 = 1 →
    Ev (fun k => sEC_.l2 k l q i x11 fl ((j : Int) - 1)) r := by
  induction n with
  | zero => intro m hm j hj hb he; omega
  | succ n ih =>
    intro m hm j hj hb he
    cases j with
    | zero => rw [bsl] at hb; omega
    | succ j =>
      have e : ((j + 1 : Nat) : Int) - 1 = (j : Int) := by omega
      have h92 : rd l (j : Int) = 92 := Decidable.byContradiction fun h => by rw [bsl, if_neg h] at hb; omega
      rw [bsl, if_pos h92] at hb
      have e3 : wrap64 ((j : Int) - 1) = (j : Int) - 1 := by rw [w64] <;> omega
      refine Ev.step (fun k => by rw [sEC_.l2]) (Ev.neg (by omega) (Ev.pos (by omega) (Ev.pos (by omega) ?_)))
      rw [e]
      refine Ev.step (fun k => by rw [sEC_.j4]) ?_
      rw [e3]
      refine Ev.neg (by rw [h92]; decide) ?_
      cases j with
      | zero => exact Ev.pos (by omega) hr
      | succ j =>
        have e5 : ((j + 1 : Nat) : Int) - 1 = (j : Int) := by omega
        rw [e5]
        refine Ev.neg (by omega) (Ev.pos (by omega) (Ev.pos (by omega) ?_))
        by_cases h92' : rd l (j : Int) = 92
        · refine Ev.pos h92' ?_
          rw [bsl, if_pos h92'] at hb
          have e4 : wrap64 ((j : Int) - 1) = (j : Int) - 1 := by rw [w64] <;> omega
          rw [e4]
          exact ih (m - 2) (by omega) j (by omega) (by omega) (by omega)
        · exact Ev.neg h92' hr
/-- The end of a string: the first quotation mark that is not escaped. -/
structure Ends (l : List Int) (q : Int) (e : Nat) : Prop where
  lt : e < l.length
  is : rd l (e : Int) = q
  even : bsl l e % 2 = 0
  none : ∀ i : Nat, i < e → rd l (i : Int) = q → bsl l i % 2 = 1
/-- A backslash stands ahead of a place. -/
def Esc (l : List Int) (e : Nat) : Prop := ∃ i : Nat, i < e ∧ rd l (i : Int) = 92
theorem Esc.of_bsl {l : List Int} {i : Nat} (h : bsl l i ≠ 0) : Esc l i := by
  cases i with
  | zero => exact absurd rfl h
  | succ i =>
    rw [bsl] at h
    split at h
    · exact ⟨i, by omega, by assumption⟩
    · exact absurd rfl h
theorem Esc.more {l : List Int} {i j : Nat} (h : Esc l i) (hij : i ≤ j) : Esc l j := by
  obtain ⟨x, hx, h92⟩ := h
  exact ⟨x, by omega, h92⟩
open Classical in
theorem l1_ev (l : List Int) (hz : l.length ≤ 4611686018427387904) (q : Int) (hq : q ≤ 92) (hq2 : q ≠ 92) (e : Nat) (h : Ends l q e) (d : Nat) : ∀ i : Nat, e - i = d → i ≤ e →
    Ev (fun k => sEC_.l1 k l q (i : Int) (l.length : Int) (decide (Esc l i))) ((e : Int) + 1, decide (Esc l e)) := by
  have hlt := h.lt
  induction d with
  | zero =>
    intro i hd hi
    obtain rfl : i = e := by omega
    refine Ev.step (fun k => by rw [sEC_.l1]) (Ev.pos (by omega) (Ev.pos (by omega) (Ev.pos (by omega) (Ev.neg (by rw [h.is]; omega) (Ev.pos h.is ?_)))))
    have e1 : wrap64 ((i : Int) + 1) = (i : Int) + 1 := by rw [w64] <;> omega
    have e2 : wrap64 ((i : Int) - 1) = (i : Int) - 1 := by rw [w64] <;> omega
    by_cases hE : Esc l i
    · refine Ev.pos (decide_eq_true hE) ?_
      rw [e2, decide_eq_true hE, ← e1]
      exact l2_even l hz q i l.length true _ _ (Nat.le_refl _) i (by omega) rfl h.even
    · refine Ev.neg (by rw [decide_eq_false hE]; exact Bool.false_ne_true) ?_
      rw [e1, decide_eq_false hE]
      exact Ev.now _
  | succ d ih =>
    intro i hd hi
    have e1 : wrap64 ((i : Int) + 1) = ((i + 1 : Nat) : Int) := by rw [w64] <;> omega
    have e2 : wrap64 ((i : Int) - 1) = (i : Int) - 1 := by rw [w64] <;> omega
    have hn := ih (i + 1) (by omega) (by omega)
    refine Ev.step (fun k => by rw [sEC_.l1]) (Ev.pos (by omega) (Ev.pos (by omega) (Ev.pos (by omega) ?_)))
    have hE2 : rd l (i : Int) ≠ 92 → decide (Esc l (i + 1)) = decide (Esc l i) := fun hne => by
      apply decide_eq_decide.2
      exact ⟨fun ⟨x, hx, h92⟩ => ⟨x, by rcases Nat.lt_or_eq_of_le (Nat.le_of_lt_succ hx) with hh | hh; exact hh; exact absurd (hh ▸ h92) hne, h92⟩, fun hh => hh.more (by omega)⟩
    by_cases h1 : rd l (i : Int) > 92
    · refine Ev.pos h1 ?_
      rw [e1, ← hE2 (by omega)]
      exact hn
    · refine Ev.neg h1 ?_
      by_cases h2 : rd l (i : Int) = q
      · have ho := h.none i (by omega) h2
        have hE : Esc l i := Esc.of_bsl (by omega)
        refine Ev.pos h2 (Ev.pos (decide_eq_true hE) ?_)
        rw [e2]
        refine l2_odd l hz q i l.length _ ?_ _ _ (Nat.le_refl _) i (by omega) rfl ho
        rw [e1, ← hE2 (by rw [h2]; exact hq2)]
        exact hn
      · refine Ev.neg h2 ?_
        by_cases h3 : rd l (i : Int) = 92
        · refine Ev.pos h3 ?_
          rw [e1]
          rw [show decide (Esc l (i + 1)) = true from decide_eq_true ⟨i, by omega, h3⟩] at hn
          exact hn
        · refine Ev.neg h3 ?_
          rw [e1, ← hE2 h3]
          exact hn
theorem word_ev (l : List Int) (hb : ∀ i : Int, 0 ≤ rd l i ∧ rd l i < 256) (h : 7 < l.length) : ∃ W : Nat, UU_.f () l = some (W : Int) ∧ W < 18446744073709551616 ∧
    ((W % 256 : Nat) : Int) = rd l 0 ∧ ((W / 256 % 256 : Nat) : Int) = rd l 1 ∧ ((W / 65536 % 256 : Nat) : Int) = rd l 2 ∧ ((W / 16777216 % 256 : Nat) : Int) = rd l 3 ∧ ((W / 4294967296 % 256 : Nat) : Int) = rd l 4 ∧ ((W / 1099511627776 % 256 : Nat) : Int) = rd l 5 ∧ ((W / 281474976710656 % 256 : Nat) : Int) = rd l 6 ∧ ((W / 72057594037927936 % 256 : Nat) : Int) = rd l 7 := by
  have mk : ∀ i : Int, ∃ b : Nat, rd l i = (b : Int) ∧ b < 256 := fun i => ⟨(rd l i).toNat, by have := hb i; omega, by have := hb i; omega⟩
  obtain ⟨b0, h0, z0⟩ := mk 0
  obtain ⟨b1, h1, z1⟩ := mk 1
  obtain ⟨b2, h2, z2⟩ := mk 2
  obtain ⟨b3, h3, z3⟩ := mk 3
  obtain ⟨b4, h4, z4⟩ := mk 4
  obtain ⟨b5, h5, z5⟩ := mk 5
  obtain ⟨b6, h6, z6⟩ := mk 6
  obtain ⟨b7, h7, z7⟩ := mk 7
  have hl : (7 : Int) < (l.length : Int) := by omega
  refine ⟨b0 + b1 * 2 ^ 8 + b2 * 2 ^ 16 + b3 * 2 ^ 24 + b4 * 2 ^ 32 + b5 * 2 ^ 40 + b6 * 2 ^ 48 + b7 * 2 ^ 56, ?_, by omega, by omega, by omega, by omega, by omega, by omega, by omega, by omega, by omega⟩
  unfold UU_.f
  rw [if_pos hl, if_pos (by omega), if_pos (by omega), if_pos (by omega), if_pos (by omega), if_pos (by omega), if_pos (by omega), if_pos (by omega)]
  rw [h0, h1, h2, h3, h4, h5, h6, h7, u64 (x := (b0 : Int)) (by omega) (by omega)]
  have j1 := Swar.join 8 b0 b1 (by omega) z1 (by omega)
  have j2 := Swar.join 16 (b0 + b1 * 2 ^ 8) b2 (by omega) z2 (by omega)
  have j3 := Swar.join 24 (b0 + b1 * 2 ^ 8 + b2 * 2 ^ 16) b3 (by omega) z3 (by omega)
  have j4 := Swar.join 32 (b0 + b1 * 2 ^ 8 + b2 * 2 ^ 16 + b3 * 2 ^ 24) b4 (by omega) z4 (by omega)
  have j5 := Swar.join 40 (b0 + b1 * 2 ^ 8 + b2 * 2 ^ 16 + b3 * 2 ^ 24 + b4 * 2 ^ 32) b5 (by omega) z5 (by omega)
  have j6 := Swar.join 48 (b0 + b1 * 2 ^ 8 + b2 * 2 ^ 16 + b3 * 2 ^ 24 + b4 * 2 ^ 32 + b5 * 2 ^ 40) b6 (by omega) z6 (by omega)
  have j7 := Swar.join 56 (b0 + b1 * 2 ^ 8 + b2 * 2 ^ 16 + b3 * 2 ^ 24 + b4 * 2 ^ 32 + b5 * 2 ^ 40 + b6 * 2 ^ 48) b7 (by omega) z7 (by omega)
  rw [show (256 : Int) = ((2 ^ 8 : Nat) : Int) from rfl, j1, show (65536 : Int) = ((2 ^ 16 : Nat) : Int) from rfl, j2, show (16777216 : Int) = ((2 ^ 24 : Nat) : Int) from rfl, j3, show (4294967296 : Int) = ((2 ^ 32 : Nat) : Int) from rfl, j4,
    show (1099511627776 : Int) = ((2 ^ 40 : Nat) : Int) from rfl, j5, show (281474976710656 : Int) = ((2 ^ 48 : Nat) : Int) from rfl, j6, show (72057594037927936 : Int) = ((2 ^ 56 : Nat) : Int) from rfl, j7]
theorem rd_drop (l : List Int) (i : Nat) (j : Nat) : rd (l.drop i) (j : Int) = rd l ((i + j : Nat) : Int) := by
  have e : ((i : Int) + (j : Int)).toNat = i + j := by omega
  simp [rd, List.getD_eq_getElem?_getD, List.getElem?_drop, e]
theorem ne_of {x n : Nat} {v : Int} (c : (x : Int) = v) (a : x ≠ n) : v ≠ (n : Int) := fun h => a (by omega)
theorem rd_drop_rng (l : List Int) (hb : ∀ i : Int, 0 ≤ rd l i ∧ rd l i < 256) (i : Nat) : ∀ j : Int, 0 ≤ rd (l.drop i) j ∧ rd (l.drop i) j < 256 := by
  intro j
  have := hb ((i + j.toNat : Nat) : Int)
  rw [← rd_drop] at this
  unfold rd at this ⊢
  rwa [Int.toNat_natCast] at this
open Classical in
theorem l0_ev (l : List Int) (hz : l.length ≤ 4611686018427387904) (hb : ∀ i : Int, 0 ≤ rd l i ∧ rd l i < 256) (q : Int) (hq0 : 0 ≤ q) (hq : q ≤ 92) (hq2 : q ≠ 92) (e : Nat) (h : Ends l q e) (d : Nat) : ∀ i : Nat, e - i ≤ d → i ≤ e → (∀ j : Nat, j < i → rd l (j : Int) ≠ 92) →
    Ev (fun k => sEC_.l0 k l q (IntKind.u64.wrap ((IntKind.u64.wrap q) * 72340172838076673)) 6655295901103053916 (i : Int) (l.length : Int)) ((e : Int) + 1, decide (Esc l e)) := by
  have hlt := h.lt
  have tail : ∀ i : Nat, i ≤ e → (∀ j : Nat, j < i → rd l (j : Int) ≠ 92) → Ev (fun k => sEC_.j1 k l q (i : Int) (l.length : Int)) ((e : Int) + 1, decide (Esc l e)) := by
    intro i hi hn
    refine Ev.step (fun k => by rw [sEC_.j1]) ?_
    have hE : decide (Esc l i) = false := decide_eq_false (fun ⟨x, hx, h92⟩ => hn x hx h92)
    have := l1_ev l hz q hq hq2 e h _ i rfl hi
    rwa [hE] at this
  induction d with
  | zero =>
    intro i hd hi hn
    obtain rfl : i = e := by omega
    refine Ev.step (fun k => by rw [sEC_.l0]) ?_
    rw [show wrap64 ((i : Int) + 8) = (i : Int) + 8 by rw [w64] <;> omega]
    by_cases h8 : (i : Int) + 8 ≤ (l.length : Int)
    · refine Ev.pos h8 (Ev.pos (by omega) (Ev.pos (by omega) ?_))
      obtain ⟨W, hW, hWz, c0, c1, c2, c3, c4, c5, c6, c7⟩ := word_ev (l.drop i) (rd_drop_rng l hb i) (by rw [List.length_drop]; omega)
      rw [Int.toNat_natCast]
      refine Ev.bd hW (Ev.neg (fun ht => ?_) (tail i (Nat.le_refl _) hn))
      obtain ⟨qn, rfl⟩ := Int.eq_ofNat_of_zero_le hq0
      have hqn : qn < 256 := by clear ht; omega
      have t := (Swar.test_zero W qn hWz hqn ht).1.1
      clear ht hW tail
      have c0' := rd_drop l i 0
      rw [Nat.add_zero, h.is] at c0'
      have c0'' : rd (l.drop i) 0 = (qn : Int) := c0'
      omega
    · exact Ev.neg h8 (tail i (Nat.le_refl _) hn)
  | succ d ih =>
    intro i hd hi hn
    refine Ev.step (fun k => by rw [sEC_.l0]) ?_
    rw [show wrap64 ((i : Int) + 8) = ((i + 8 : Nat) : Int) by rw [w64] <;> omega]
    by_cases h8 : ((i + 8 : Nat) : Int) ≤ (l.length : Int)
    · refine Ev.pos h8 (Ev.pos (by omega) (Ev.pos (by omega) ?_))
      obtain ⟨W, hW, hWz, c0, c1, c2, c3, c4, c5, c6, c7⟩ := word_ev (l.drop i) (rd_drop_rng l hb i) (by rw [List.length_drop]; omega)
      rw [Int.toNat_natCast]
      refine Ev.bd hW ?_
      split
      · rename_i ht
        obtain ⟨qn, rfl⟩ := Int.eq_ofNat_of_zero_le hq0
        have hqn : qn < 256 := by clear ht; omega
        have t := Swar.test_zero W qn hWz hqn ht
        clear ht hW tail
        have e0 : rd (l.drop i) 0 = rd l ((i + 0 : Nat) : Int) := rd_drop l i 0
        have e1 : rd (l.drop i) 1 = rd l ((i + 1 : Nat) : Int) := rd_drop l i 1
        have e2 : rd (l.drop i) 2 = rd l ((i + 2 : Nat) : Int) := rd_drop l i 2
        have e3 : rd (l.drop i) 3 = rd l ((i + 3 : Nat) : Int) := rd_drop l i 3
        have e4 : rd (l.drop i) 4 = rd l ((i + 4 : Nat) : Int) := rd_drop l i 4
        have e5 : rd (l.drop i) 5 = rd l ((i + 5 : Nat) : Int) := rd_drop l i 5
        have e6 : rd (l.drop i) 6 = rd l ((i + 6 : Nat) : Int) := rd_drop l i 6
        have e7 : rd (l.drop i) 7 = rd l ((i + 7 : Nat) : Int) := rd_drop l i 7
        obtain ⟨⟨a0, a1, a2, a3, a4, a5, a6, a7⟩, ⟨b0, b1, b2, b3, b4, b5, b6, b7⟩⟩ := t
        have key : ∀ j : Nat, i ≤ j → j < i + 8 → rd l (j : Int) ≠ (qn : Int) ∧ rd l (j : Int) ≠ 92 := by
          intro j hj1 hj2
          have hj : j = i + 0 ∨ j = i + 1 ∨ j = i + 2 ∨ j = i + 3 ∨ j = i + 4 ∨ j = i + 5 ∨ j = i + 6 ∨ j = i + 7 := by
            clear a0 a1 a2 a3 a4 a5 a6 a7 b0 b1 b2 b3 b4 b5 b6 b7 c0 c1 c2 c3 c4 c5 c6 c7
            omega
          rcases hj with rfl | rfl | rfl | rfl | rfl | rfl | rfl | rfl
          · exact ⟨fun hh => ne_of c0 a0 (e0.trans hh), fun hh => ne_of c0 b0 (e0.trans hh)⟩
          · exact ⟨fun hh => ne_of c1 a1 (e1.trans hh), fun hh => ne_of c1 b1 (e1.trans hh)⟩
          · exact ⟨fun hh => ne_of c2 a2 (e2.trans hh), fun hh => ne_of c2 b2 (e2.trans hh)⟩
          · exact ⟨fun hh => ne_of c3 a3 (e3.trans hh), fun hh => ne_of c3 b3 (e3.trans hh)⟩
          · exact ⟨fun hh => ne_of c4 a4 (e4.trans hh), fun hh => ne_of c4 b4 (e4.trans hh)⟩
          · exact ⟨fun hh => ne_of c5 a5 (e5.trans hh), fun hh => ne_of c5 b5 (e5.trans hh)⟩
          · exact ⟨fun hh => ne_of c6 a6 (e6.trans hh), fun hh => ne_of c6 b6 (e6.trans hh)⟩
          · exact ⟨fun hh => ne_of c7 a7 (e7.trans hh), fun hh => ne_of c7 b7 (e7.trans hh)⟩
        clear a0 a1 a2 a3 a4 a5 a6 a7 b0 b1 b2 b3 b4 b5 b6 b7 c0 c1 c2 c3 c4 c5 c6 c7 e0 e1 e2 e3 e4 e5 e6 e7
        have he8 : i + 8 ≤ e := by
          apply Decidable.byContradiction
          intro hc
          exact (key e hi (by omega)).1 h.is
        exact ih (i + 8) (by omega) he8 (fun j hj => by
          by_cases hji : j < i
          · exact hn j hji
          · exact (key j (by omega) hj).2)
      · exact tail i hi hn
    · exact Ev.neg h8 (tail i hi hn)
open Classical in
/-- What stringEndConfig tells of a string that ends. -/
theorem end_ev (c1 c2 : Bool) (c3 : Int) (l : List Int) (hz : l.length ≤ 4611686018427387904) (hb : ∀ i : Int, 0 ≤ rd l i ∧ rd l i < 256) (q : Int) (hq0 : 0 ≤ q) (hq : q ≤ 92) (hq2 : q ≠ 92) (e : Nat) (h : Ends l q e) :
    Ev (fun k => sEC_.f k c1 c2 c3 l q) ((e : Int) + 1, decide (Esc l e)) := by
  refine Ev.congr (fun k => by rw [sEC_.f]) ?_
  exact l0_ev l hz hb q hq0 hq hq2 e h _ 0 (Nat.le_refl _) (by omega) (fun j hj => by omega)
end Go.Proofs.YtpdohioobbfncaaGreatDoor.JFnJpWildStop