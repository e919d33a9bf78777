/- A character written by its number, or by the two of its surrogate pair, is read as that character; conditions: none beside the statement's own. -/
import Derived.Test.YtifdgmiebibccaaDoorPFnJpParseStringRunex
import Derived.Laws.BitsLemmas
namespace Go.Proofs.YtifdgmiebibccaaDoor.Pure
open Go.RowKit Go.Proofs.YtifdgmiebibccaaDoor.PFnJpParseStringRune Go.Proofs.YtifdgmiebibccaaDoorW.PrintWords Go.Proofs.YtifdgmiebibccaaDoorW.PrintLast Go.Proofs.YtifdgmiebibccaaDoorW.PrintMore
set_option linter.unusedSimpArgs false
set_option linter.unusedVariables false
theorem and15 (x : Int) (h0 : 0 ≤ x) (h1 : x < 9223372036854775808) : bits .and .i64 x 15 = x % 16 := by
  have h127 : (BitVec.ofInt 64 15).toNat = 2 ^ 4 - 1 := by decide
  have key : (BitVec.ofInt 64 x &&& BitVec.ofInt 64 15).toNat = (x % ((2 ^ 64 : Nat) : Int)).toNat % 2 ^ 4 := by
    rw [BitVec.toNat_and, BitVec.toNat_ofInt, h127, Nat.and_two_pow_sub_one_eq_mod]
  show IntKind.i64.wrap ((BitVec.ofInt 64 x &&& BitVec.ofInt 64 15).toNat : Nat) = x % 16
  rw [key, IntKind.wrap_i64]
  omega
/-! ### digits -/
def digs (g : Bool) : ByteArray := if g = true then ⟨#[48, 49, 50, 51, 52, 53, 54, 55, 56, 57, 65, 66, 67, 68, 69, 70]⟩ else ⟨#[48, 49, 50, 51, 52, 53, 54, 55, 56, 57, 97, 98, 99, 100, 101, 102]⟩
def dg (g : Bool) (v : Int) : Int := bt (digs g) v
theorem dg_hex9 : ∀ (g : Bool) (v : Fin 16), jsonparser_h2I.f 9 (dg g (v.val : Nat)) = some ((v.val : Nat) : Int) := by decide +kernel
theorem dg_hex8 : ∀ (g : Bool) (v : Fin 16), jsonparser_h2I.f 8 (dg g (v.val : Nat)) = some ((v.val : Nat) : Int) := by decide +kernel
theorem dg_byte : ∀ (g : Bool) (v : Fin 16), 0 ≤ dg g (v.val : Nat) ∧ dg g (v.val : Nat) < 256 := by decide +kernel
theorem hex9 (g : Bool) (x : Int) : jsonparser_h2I.f 9 (dg g (x % 16)) = some (x % 16) := by
  have h := dg_hex9 g ⟨(x % 16).toNat, by omega⟩
  dsimp only at h
  rwa [show ((x % 16).toNat : Int) = x % 16 from by omega] at h
theorem hex8 (g : Bool) (x : Int) : jsonparser_h2I.f 8 (dg g (x % 16)) = some (x % 16) := by
  have h := dg_hex8 g ⟨(x % 16).toNat, by omega⟩
  dsimp only at h
  rwa [show ((x % 16).toNat : Int) = x % 16 from by omega] at h
theorem byte_ (g : Bool) (x : Int) : 0 ≤ dg g (x % 16) ∧ dg g (x % 16) < 256 := by
  have h := dg_byte g ⟨(x % 16).toNat, by omega⟩
  dsimp only at h
  rwa [show ((x % 16).toNat : Int) = x % 16 from by omega] at h
/-- The letters of one unit. -/
def unit (n : Int) (g : Bool) : List Int := [92, 117, dg g (n / 4096 % 16), dg g (n / 256 % 16), dg g (n / 16 % 16), dg g (n % 16)]
theorem bytesOf_strOfNums (l : List Int) (h : ∀ x ∈ l, 0 ≤ x ∧ x < 256) : bytesOf (strOfNums l) = l := by
  unfold bytesOf strOfNums
  rw [List.map_map]
  conv => rhs; rw [← List.map_id l]
  apply List.map_congr_left
  intro x hx
  obtain ⟨h0, h1⟩ := h x hx
  show ((x.toNat.toUInt8.toNat : Nat) : Int) = x
  rw [show x.toNat.toUInt8.toNat = x.toNat % 256 from UInt8.toNat_ofNat']
  omega
theorem unit_bytes (n : Int) (g : Bool) : ∀ x ∈ unit n g, 0 ≤ x ∧ x < 256 := by
  intro x hx
  simp only [unit, List.mem_cons, List.not_mem_nil, or_false] at hx
  rcases hx with rfl | rfl | rfl | rfl | rfl | rfl
  · omega
  · omega
  · exact byte_ _ _
  · exact byte_ _ _
  · exact byte_ _ _
  · exact byte_ _ _
theorem app_str (a b : List Int) : strOfNums a ++ strOfNums b = strOfNums (a ++ b) := by
  apply ByteArray.ext
  simp [strOfNums]
theorem size_str (a : List Int) : (strOfNums a).size = a.length := by
  show (strOfNums a).data.size = _
  simp [strOfNums]
theorem unit_f (n : Int) (g : Bool) (h0 : 0 ≤ n) (h1 : n ≤ 1114111) : laws_jpUnit.f n g = some (strOfNums (unit n g)) := by
  unfold laws_jpUnit.f
  rw [and15 (n / 4096) (by omega) (by omega), and15 (n / 256) (by omega) (by omega), and15 (n / 16) (by omega) (by omega), and15 n (by omega) (by omega)]
  cases g
  · rw [if_neg Bool.false_ne_true, if_pos (by omega), if_pos (by omega), if_pos (by omega), if_pos (by omega), if_pos (by omega), if_pos (by omega), if_pos (by omega), if_pos (by omega), Option.bind_some, if_pos (by rw [size_str]; simp)]
    exact congrArg some (app_str [92, 117] _)
  · rw [if_pos rfl, if_pos (by omega), if_pos (by omega), if_pos (by omega), if_pos (by omega), if_pos (by omega), if_pos (by omega), if_pos (by omega), if_pos (by omega), Option.bind_some, if_pos (by rw [size_str]; simp)]
    exact congrArg some (app_str [92, 117] _)
theorem w32 {x : Int} (h0 : -2147483648 ≤ x) (h1 : x ≤ 2147483647) : wrap32 x = x := by unfold wrap32; omega
theorem w64 {x : Int} (h0 : -9223372036854775808 ≤ x) (h1 : x ≤ 9223372036854775807) : wrap64 x = x := by unfold wrap64; omega
theorem single (k : Nat) (l : List Int) (a b c d : Int) (hl : 6 ≤ l.length) (ha : jsonparser_h2I.f k (rd l 2) = some a) (hb : jsonparser_h2I.f k (rd l 3) = some b) (hc : jsonparser_h2I.f k (rd l 4) = some c) (hd : jsonparser_h2I.f k (rd l 5) = some d)
    (a0 : 0 ≤ a) (a1 : a < 16) (b0 : 0 ≤ b) (b1 : b < 16) (c0 : 0 ≤ c) (c1 : c < 16) (d0 : 0 ≤ d) (d1 : d < 16) : jsonparser_decodeSingleUnicodeEscape.f k l = some (a * 4096 + b * 256 + c * 16 + d, true) := by
  unfold jsonparser_decodeSingleUnicodeEscape.f
  rw [if_neg (by omega), if_pos (by omega), ha, Option.bind_some, if_pos (by omega), hb, Option.bind_some, if_pos (by omega), hc, Option.bind_some, if_pos (by omega), hd, Option.bind_some,
    if_neg (by omega), if_neg (by omega), if_neg (by omega), if_neg (by omega), w64 (x := a * 4096) (by omega) (by omega), w64 (x := b * 256) (by omega) (by omega), w64 (x := c * 16) (by omega) (by omega),
    w64 (x := a * 4096 + b * 256) (by omega) (by omega), w64 (x := a * 4096 + b * 256 + c * 16) (by omega) (by omega), w64 (by omega) (by omega), w32 (by omega) (by omega)]
theorem single9 (n : Int) (g : Bool) (h0 : 0 ≤ n) (h1 : n < 65536) (t : List Int) : jsonparser_decodeSingleUnicodeEscape.f 9 (unit n g ++ t) = some (n, true) := by
  rw [single 9 (unit n g ++ t) (n / 4096 % 16) (n / 256 % 16) (n / 16 % 16) (n % 16) (by simp [unit]) (hex9 g _) (hex9 g _) (hex9 g _) (hex9 g _) (by omega) (by omega) (by omega) (by omega) (by omega) (by omega) (by omega) (by omega)]
  congr 2
  omega
theorem single8 (n : Int) (g : Bool) (h0 : 0 ≤ n) (h1 : n < 65536) : jsonparser_decodeSingleUnicodeEscape.f 8 (unit n g) = some (n, true) := by
  rw [single 8 (unit n g) (n / 4096 % 16) (n / 256 % 16) (n / 16 % 16) (n % 16) (by simp [unit]) (hex8 g _) (hex8 g _) (hex8 g _) (hex8 g _) (by omega) (by omega) (by omega) (by omega) (by omega) (by omega) (by omega) (by omega)]
  congr 2
  omega
theorem decode1 (n : Int) (g : Bool) (h0 : 0 ≤ n) (h1 : n < 65536) (h2 : n < 55296 ∨ 57343 < n) : jsonparser_decodeUnicodeEscape.f 9 (unit n g) = some (n, 6) := by
  have hs := single9 n g h0 h1 []
  rw [List.append_nil] at hs
  unfold jsonparser_decodeUnicodeEscape.f
  rw [hs, Option.bind_some, if_pos rfl]
  unfold jsonparser_isUTF16EncodedRune.f
  dsimp only
  rcases h2 with h2 | h2
  · rw [if_neg (by omega)]
    rfl
  · rw [if_pos (by omega), decide_eq_false (by omega)]
    rfl
theorem decode2 (a b : Int) (g g2 : Bool) (a0 : 55296 ≤ a) (a1 : a < 56320) (b0 : 56320 ≤ b) (b1 : b ≤ 57343) : jsonparser_decodeUnicodeEscape.f 9 (unit a g ++ unit b g2) = some (65536 + (a - 55296) * 1024 + (b - 56320), 12) := by
  unfold jsonparser_decodeUnicodeEscape.f
  rw [single9 a g (by omega) (by omega) _, Option.bind_some, if_pos rfl]
  unfold jsonparser_isUTF16EncodedRune.f
  dsimp only
  have hl : (unit a g ++ unit b g2).length = 12 := by simp [unit]
  rw [if_pos a0, decide_eq_true (by omega), Option.bind_some, if_pos rfl, if_neg (by omega), if_neg (by rw [hl]; omega), if_pos (by rw [hl]; omega), if_pos (show rd (unit a g ++ unit b g2) 6 = 92 from rfl), if_pos (by rw [hl]; omega)]
  rw [show (rd (unit a g ++ unit b g2) 7 != 117) = false from rfl]
  rw [jsonparser_decodeUnicodeEscape.j0, if_neg Bool.false_ne_true, if_pos (by rw [hl]; omega), show (unit a g ++ unit b g2).drop 6 = unit b g2 from rfl, single8 b g2 (by omega) (by omega), Option.bind_some, if_pos rfl]
  dsimp only
  rw [if_neg (by omega), if_neg (by omega)]
  unfold jsonparser_combineUTF16Surrogates.f
  rw [Option.bind_some, w32 (x := a - 55296) (by omega) (by omega), w32 (x := (a - 55296) * 1024) (by omega) (by omega), w32 (x := 65536 + _) (by omega) (by omega), w32 (x := b - 56320) (by omega) (by omega), w32 (by omega) (by omega)]
theorem enc_f (c : Int) (h0 : 0 ≤ c) (h1 : c ≤ 1114111) (h2 : c < 55296 ∨ 57343 < c) : spec_Encode.f 8 c = some (strOfNums (encN c)) := by
  unfold spec_Encode.f spec_appendUTF8.f encN
  have t1 : Int.tdiv c 64 = c / 64 := Int.tdiv_eq_ediv_of_nonneg h0
  have t2 : Int.tdiv c 4096 = c / 4096 := Int.tdiv_eq_ediv_of_nonneg h0
  have t3 : Int.tdiv c 262144 = c / 262144 := Int.tdiv_eq_ediv_of_nonneg h0
  have m1 : Int.tmod c 64 = c % 64 := Int.tmod_eq_emod_of_nonneg h0
  have m2 : Int.tmod (c / 64) 64 = c / 64 % 64 := Int.tmod_eq_emod_of_nonneg (by omega)
  have m3 : Int.tmod (c / 4096) 64 = c / 4096 % 64 := Int.tmod_eq_emod_of_nonneg (by omega)
  have hlow : ∃ t, spec_high.f c = some false ∧ spec_low.f c = some t ∧ t = false := by
    unfold spec_high.f spec_low.f
    rcases h2 with h2 | h2
    · rw [if_neg (by omega), if_neg (by omega)]
      exact ⟨false, rfl, rfl, rfl⟩
    · rw [if_pos (by omega), if_pos (by omega), decide_eq_false (by omega), decide_eq_false (by omega)]
      exact ⟨false, rfl, rfl, rfl⟩
  obtain ⟨t, hh, hl, rfl⟩ := hlow
  by_cases c1 : c ≤ 127
  · rw [if_pos (by omega), if_pos (by simp), if_pos c1, Option.bind_some, List.nil_append, show c % 256 = c from by omega]
  · rw [if_neg (by omega), if_neg c1]
    by_cases c2 : c ≤ 2047
    · rw [if_pos (by omega), if_pos c2, Option.bind_some, if_pos (by simp), Option.bind_some, t1, m1, w64 (x := c / 64) (by omega) (by omega), w64 (by omega) (by omega), w64 (by omega) (by omega), List.nil_append,
        show (192 + c / 64) % 256 = 192 + c / 64 from by omega, show (128 + c % 64) % 256 = 128 + c % 64 from by omega]
    · rw [if_neg (by omega), if_neg c2, hh, Option.bind_some, if_neg Bool.false_ne_true, hl, Option.bind_some, spec_appendUTF8.j0, if_neg Bool.false_ne_true]
      by_cases c3 : c ≤ 65535
      · rw [if_pos (by omega), if_pos c3, Option.bind_some, if_pos (by simp), Option.bind_some, t1, t2, m1, w64 (x := c / 64) (by omega) (by omega), m2, w64 (x := c / 4096) (by omega) (by omega), w64 (by omega) (by omega), w64 (by omega) (by omega), w64 (by omega) (by omega), List.nil_append,
          show (224 + c / 4096) % 256 = 224 + c / 4096 from by omega, show (128 + c / 64 % 64) % 256 = 128 + c / 64 % 64 from by omega, show (128 + c % 64) % 256 = 128 + c % 64 from by omega]
      · rw [if_neg (by omega), if_neg c3, Option.bind_some, if_pos (by simp), Option.bind_some, t1, t2, t3, m1, w64 (x := c / 64) (by omega) (by omega), m2, w64 (x := c / 4096) (by omega) (by omega), m3, w64 (x := c / 262144) (by omega) (by omega), w64 (by omega) (by omega), w64 (by omega) (by omega), w64 (by omega) (by omega), w64 (by omega) (by omega), List.nil_append,
          show (240 + c / 262144) % 256 = 240 + c / 262144 from by omega, show (128 + c / 4096 % 64) % 256 = 128 + c / 4096 % 64 from by omega, show (128 + c / 64 % 64) % 256 = 128 + c / 64 % 64 from by omega, show (128 + c % 64) % 256 = 128 + c % 64 from by omega]
theorem parse_f (l : List Int) (hb : ∀ x ∈ l, 0 ≤ x ∧ x < 256) (r m : Int) (hd : jsonparser_decodeUnicodeEscape.f 9 l = some (r, m)) (hm : m = (l.length : Int)) (hm2 : m = 6 ∨ m = 12) (x0 : rd l 0 = 92) (x1 : rd l 1 = 117) (h0 : 0 ≤ r) (h1 : r ≤ 1114111) (h2 : r < 55296 ∨ 57343 < r) : impl_JpParseString.f (strOfNums l) = some (strOfNums (encN r), true) := by
  unfold impl_JpParseString.f
  rw [bytesOf_strOfNums l hb, hd]
  dsimp only
  rw [if_pos ⟨by rw [size_str]; exact hm, hm2, x0, x1, h0, h1, h2⟩]
theorem FnJpParseStringRune : laws_FnJpParseStringRune.Pure := by
  intro c g hw
  refine ⟨9, ?_⟩
  have key : 0 ≤ c → c ≤ 1114111 → (c < 55296 ∨ 57343 < c) → laws_FnJpParseStringRune.j0 9 c g false = some true := by
    intro h0 h1 h2
    rw [laws_FnJpParseStringRune.j0, if_neg Bool.false_ne_true, unit_f c g h0 h1, Option.bind_some]
    by_cases h3 : c ≥ 65536
    · have t1 : Int.tdiv (c - 65536) 1024 = (c - 65536) / 1024 := Int.tdiv_eq_ediv_of_nonneg (by omega)
      have m1 : Int.tmod (c - 65536) 1024 = (c - 65536) % 1024 := Int.tmod_eq_emod_of_nonneg (by omega)
      rw [if_pos h3, w64 (x := c - 65536) (by omega) (by omega), t1, m1, w64 (x := (c - 65536) / 1024) (by omega) (by omega), w64 (x := 55296 + _) (by omega) (by omega), w64 (x := 56320 + _) (by omega) (by omega),
        unit_f _ g (by omega) (by omega), Option.bind_some, unit_f _ (!g) (by omega) (by omega), Option.bind_some, if_pos (by rw [size_str, size_str]; simp [unit]), app_str,
        parse_f _ (by
          intro x hx
          rcases List.mem_append.1 hx with h | h
          · exact unit_bytes _ _ x h
          · exact unit_bytes _ _ x h) c 12 (by
          rw [decode2 _ _ g (!g) (by omega) (by omega) (by omega) (by omega)]
          congr 2
          omega) (by simp [unit]) (.inr rfl) rfl rfl h0 h1 h2, Option.bind_some, if_pos rfl, enc_f c h0 h1 h2, Option.bind_some]
      simp
    · rw [if_neg h3, parse_f _ (unit_bytes c g) c 6 (decode1 c g h0 (by omega) h2) (by simp [unit]) (.inl rfl) rfl rfl h0 h1 h2, Option.bind_some, if_pos rfl, enc_f c h0 h1 h2, Option.bind_some]
      simp
  have out : laws_FnJpParseStringRune.j0 9 c g true = some true := by
    rw [laws_FnJpParseStringRune.j0, if_pos rfl]
  unfold laws_FnJpParseStringRune.f
  by_cases h0 : c < 0
  · rw [if_pos h0]; exact out
  · rw [if_neg h0]
    by_cases h1 : c > 1114111
    · rw [if_pos h1]; exact out
    · rw [if_neg h1]
      by_cases h2 : 55296 ≤ c
      · rw [if_pos h2]
        by_cases h3 : c ≤ 57343
        · rw [decide_eq_true h3]; exact out
        · rw [decide_eq_false h3]; exact key (by omega) (by omega) (.inr (by omega))
      · rw [if_neg h2]; exact key (by omega) (by omega) (.inl (by omega))
end Go.Proofs.YtifdgmiebibccaaDoor.Pure
