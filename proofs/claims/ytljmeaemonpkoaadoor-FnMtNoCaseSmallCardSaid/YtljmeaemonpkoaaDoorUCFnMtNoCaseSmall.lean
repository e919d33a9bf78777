/- The reference's reader of UTF-8: what it reads is what was written; no condition beside those that each theorem states. -/
import Derived.Test.YtljmeaemonpkoaaDoorUBFnMtNoCaseSmall
namespace Go.Proofs.YtljmeaemonpkoaaDoor.UFnMtNoCaseSmall
open Go.RowKit Go.Proofs.YtljmeaemonpkoaaDoor.PFnMtNoCaseSmall Go.Proofs.YtljmeaemonpkoaaDoorW.PrintWords Go.Proofs.YtljmeaemonpkoaaDoorW.PrintLast Go.Proofs.YtljmeaemonpkoaaDoorW.PrintMore
set_option linter.unusedSimpArgs false
set_option linter.unusedVariables false

theorem ext_zero (s : ByteArray) : s.extract 0 0 = ByteArray.empty := by
  apply ByteArray.ext
  simp
theorem ext_next (s : ByteArray) (i W : Nat) (h : i + W ≤ s.size) : (s.extract i s.size).extract W (s.extract i s.size).size = s.extract (i + W) s.size := by
  rw [ByteArray.extract_extract, ByteArray.size_extract]
  congr 1
  omega
/-- A piece, byte for byte. -/
theorem ext_bytes (s : ByteArray) (i n : Nat) (h : i + n ≤ s.size) : s.extract i (i + n) = strOfNums ((List.range n).map fun (j : Nat) => bt s ((i : Int) + (j : Int))) := by
  apply ByteArray.ext
  apply Array.ext
  · have h1 : (s.extract i (i + n)).data.size = n := by
      show (s.extract i (i + n)).size = n
      rw [ByteArray.size_extract]; omega
    rw [h1]
    simp [strOfNums]
  · intro j h1 h2
    have hj : j < n := by
      have h3 : (s.extract i (i + n)).data.size = n := by
        show (s.extract i (i + n)).size = n
        rw [ByteArray.size_extract]; omega
      omega
    have hb := bt_x s i (i + n) j (by omega) (by omega) (by omega)
    unfold bt at hb
    rw [dif_pos (by simpa using h1), dif_pos (by omega)] at hb
    have e1 : (s.extract i (i + n)).data[j] = s[((i : Int) + (j : Int)).toNat]'(by omega) := by
      apply UInt8.toNat_inj.1
      have : ((s.extract i (i + n))[((j : Nat) : Int).toNat]'(by simpa using h1)).toNat = (s[((i : Int) + (j : Int)).toNat]'(by omega)).toNat := by exact_mod_cast hb
      exact this
    rw [e1]
    have e2 : (strOfNums ((List.range n).map fun (j : Nat) => bt s ((i : Int) + (j : Int)))).data[j] = UInt8.ofNat (bt s ((i : Int) + (j : Int))).toNat := by
      simp [strOfNums]
    rw [e2]
    unfold bt
    rw [dif_pos (by omega)]
    simp
theorem ext_split (s : ByteArray) (i n : Nat) (h : i + n ≤ s.size) : s.extract i s.size = s.extract i (i + n) ++ s.extract (i + n) s.size := by
  rw [ByteArray.extract_append_extract, Nat.min_eq_left (by omega), Nat.max_eq_right h]
theorem ext_of_size (s : ByteArray) (i : Nat) (h : s.size ≤ i) : s.extract i s.size = ByteArray.empty := by
  apply ByteArray.ext
  simp only [ByteArray.data_extract]
  apply Array.ext'
  rw [Array.toList_extract, List.extract_eq_take_drop, show s.size - i = 0 by omega]
  rfl

/-! ### one character -/
/-- What the reference's reader says of place i. -/
structure Chr (s : ByteArray) (i : Nat) (c n : Int) (ok : Bool) : Prop where
  n1 : 1 ≤ n
  n4 : n ≤ 4
  vd : ok = true → Vd c
  wd : ok = true → n = (en c).length
  le : ok = true → i + n ≤ s.size
  ex : ok = true → s.extract i (i + n.toNat) = strOfNums (en c)
theorem Chr.bad (s : ByteArray) (i : Nat) : Chr s i 65533 1 false := ⟨by omega, by omega, nofun, nofun, nofun, nofun⟩
section
variable (s : ByteArray) (hs : (s.size : Int) ≤ 100000) (i : Nat)
include hs
theorem l0_cont (x7 x8 x9 j : Int) (hj : 1 ≤ j) (h8 : x8 ≤ 3) (hl : j ≤ x8) (hi : i + x8 < s.size) (h7 : 0 ≤ x7 ∧ x7 ≤ 100000000) {r : Int × Int × Bool}
    (no : ¬ (128 ≤ bt s (i + j) ∧ bt s (i + j) ≤ 191) → r = (65533, 1, false))
    (yes : 128 ≤ bt s (i + j) ∧ bt s (i + j) ≤ 191 → Ev (fun k => spec_Character.l0 k s i (x7 * 64 + bt s (i + j) - 128) x8 x9 (j + 1)) r) : Ev (fun k => spec_Character.l0 k s i x7 x8 x9 j) r := by
  have br := bt_range s (i + j)
  have st := fun k => (show spec_Character.l0 (k + 1) s i x7 x8 x9 j = _ by rw [spec_Character.l0])
  have e1 : wrap64 ((i : Int) + j) = i + j := w64 (by omega) (by omega)
  have e2 : wrap64 (j + 1) = j + 1 := w64 (by omega) (by omega)
  have e3 : wrap64 (bt s (i + j)) = bt s (i + j) := w64 (by omega) (by omega)
  have e4 : wrap64 (x7 * 64) = x7 * 64 := w64 (by omega) (by omega)
  have e5 : wrap64 (x7 * 64 + bt s (i + j)) = x7 * 64 + bt s (i + j) := w64 (by omega) (by omega)
  have e6 : wrap64 (x7 * 64 + bt s (i + j) - 128) = x7 * 64 + bt s (i + j) - 128 := w64 (by omega) (by omega)
  rw [e1, e2, e3, e4, e5, e6] at st
  refine Ev.step st (Ev.pos hl (Ev.pos (by omega) (Ev.pos (by omega) ?_)))
  by_cases c1 : bt s (i + j) < 128
  · rw [no (by omega)]; exact Ev.pos c1 (Ev.now _)
  refine Ev.neg c1 ?_
  by_cases c2 : bt s (i + j) > 191
  · rw [no (by omega)]; exact Ev.pos c2 (Ev.now _)
  exact Ev.neg c2 (yes (by omega))
theorem l0_end (x7 x8 x9 : Int) (h8 : 0 ≤ x8 ∧ x8 ≤ 3) (h7 : 0 ≤ x7 ∧ x7 ≤ 100000000) : ∃ c n b, Ev (fun k => spec_Character.l0 k s i x7 x8 x9 (x8 + 1)) (c, n, b) ∧ ((b = true ∧ c = x7 ∧ n = x8 + 1 ∧ x9 ≤ x7 ∧ Vd x7) ∨ (b = false ∧ c = 65533 ∧ n = 1)) := by
  have _h := hs
  have st := fun k => (show spec_Character.l0 (k + 1) s i x7 x8 x9 (x8 + 1) = _ by rw [spec_Character.l0])
  have e8 : wrap64 (x8 + 1) = x8 + 1 := w64 (by omega) (by omega)
  rw [e8] at st
  by_cases c1 : x7 < x9
  · exact ⟨_, _, _, Ev.step st (Ev.neg (by omega) (Ev.pos c1 (Ev.now _))), .inr ⟨rfl, rfl, rfl⟩⟩
  by_cases c2 : x7 > 1114111
  · exact ⟨_, _, _, Ev.step st (Ev.neg (by omega) (Ev.neg c1 (Ev.pos c2 (Ev.now _)))), .inr ⟨rfl, rfl, rfl⟩⟩
  have hh : spec_high.f x7 = some (decide (55296 ≤ x7 ∧ x7 ≤ 56319)) := by
    unfold spec_high.f
    by_cases h : 55296 ≤ x7
    · rw [if_pos h]; simp [h]
    · rw [if_neg h]; simp [h]
  have hl : spec_low.f x7 = some (decide (56320 ≤ x7 ∧ x7 ≤ 57343)) := by
    unfold spec_low.f
    by_cases h : 56320 ≤ x7
    · rw [if_pos h]; simp [h]
    · rw [if_neg h]; simp [h]
  by_cases c3 : 55296 ≤ x7 ∧ x7 ≤ 56319
  · rw [decide_eq_true c3] at hh
    exact ⟨_, _, _, Ev.step st (Ev.neg (by omega) (Ev.neg c1 (Ev.neg c2 (Ev.bd hh (Ev.pos rfl (Ev.now _)))))), .inr ⟨rfl, rfl, rfl⟩⟩
  rw [decide_eq_false c3] at hh
  by_cases c4 : 56320 ≤ x7 ∧ x7 ≤ 57343
  · rw [decide_eq_true c4] at hl
    exact ⟨_, _, _, Ev.step st (Ev.neg (by omega) (Ev.neg c1 (Ev.neg c2 (Ev.bd hh (Ev.neg Bool.false_ne_true (Ev.bd hl (Ev.pos rfl (Ev.now _)))))))), .inr ⟨rfl, rfl, rfl⟩⟩
  rw [decide_eq_false c4] at hl
  refine ⟨_, _, _, Ev.step st (Ev.neg (by omega) (Ev.neg c1 (Ev.neg c2 (Ev.bd hh (Ev.neg Bool.false_ne_true (Ev.bd hl (Ev.neg Bool.false_ne_true (Ev.now _)))))))), .inl ⟨rfl, rfl, rfl, by omega, ?_⟩⟩
  unfold Vd
  omega
theorem nums1 (b0 b1 : Int) (h0 : bt s i = b0) (h1 : bt s (i + 1) = b1) (hi : i + 2 ≤ s.size) : s.extract i (i + 2) = strOfNums [b0, b1] := by
  have _h := hs
  rw [ext_bytes s i 2 hi]
  congr 1
  show [bt s ((i : Int) + ((0 : Nat) : Int)), bt s ((i : Int) + ((1 : Nat) : Int))] = _
  rw [show (i : Int) + ((0 : Nat) : Int) = i by omega, h0, show (i : Int) + ((1 : Nat) : Int) = i + 1 by omega, h1]
theorem nums2 (b0 b1 b2 : Int) (h0 : bt s i = b0) (h1 : bt s (i + 1) = b1) (h2 : bt s (i + 2) = b2) (hi : i + 3 ≤ s.size) : s.extract i (i + 3) = strOfNums [b0, b1, b2] := by
  have _h := hs
  rw [ext_bytes s i 3 hi]
  congr 1
  show [bt s ((i : Int) + ((0 : Nat) : Int)), bt s ((i : Int) + ((1 : Nat) : Int)), bt s ((i : Int) + ((2 : Nat) : Int))] = _
  rw [show (i : Int) + ((0 : Nat) : Int) = i by omega, h0, show (i : Int) + ((1 : Nat) : Int) = i + 1 by omega, h1, show (i : Int) + ((2 : Nat) : Int) = i + 2 by omega, h2]
theorem nums3 (b0 b1 b2 b3 : Int) (h0 : bt s i = b0) (h1 : bt s (i + 1) = b1) (h2 : bt s (i + 2) = b2) (h3 : bt s (i + 3) = b3) (hi : i + 4 ≤ s.size) : s.extract i (i + 4) = strOfNums [b0, b1, b2, b3] := by
  have _h := hs
  rw [ext_bytes s i 4 hi]
  congr 1
  show [bt s ((i : Int) + ((0 : Nat) : Int)), bt s ((i : Int) + ((1 : Nat) : Int)), bt s ((i : Int) + ((2 : Nat) : Int)), bt s ((i : Int) + ((3 : Nat) : Int))] = _
  rw [show (i : Int) + ((0 : Nat) : Int) = i by omega, h0, show (i : Int) + ((1 : Nat) : Int) = i + 1 by omega, h1, show (i : Int) + ((2 : Nat) : Int) = i + 2 by omega, h2, show (i : Int) + ((3 : Nat) : Int) = i + 3 by omega, h3]
theorem two_ev (b0 : Int) (h0 : bt s i = b0) (hb : 194 ≤ b0 ∧ b0 ≤ 223) (hi : i < s.size) : ∃ c n b, Ev (fun k => spec_Character.j2 k s i (b0 - 192) 1 128) (c, n, b) ∧ Chr s i c n b := by
  have st := fun k => (show spec_Character.j2 (k + 1) s i (b0 - 192) 1 128 = _ by rw [spec_Character.j2])
  rw [w64 (x := (s.size : Int) - i) (by omega) (by omega)] at st
  by_cases c0 : (s.size : Int) - i ≤ 1
  · exact ⟨_, _, _, Ev.step st (Ev.pos c0 (Ev.now _)), Chr.bad s i⟩
  by_cases c1 : 128 ≤ bt s (i + 1) ∧ bt s (i + 1) ≤ 191
  · obtain ⟨c, n, b, e, h⟩ := l0_end s hs i ((b0 - 192) * 64 + bt s (i + 1) - 128) 1 128 (by omega) (by omega)
    refine ⟨c, n, b, Ev.step st (Ev.neg c0 (l0_cont s hs i _ 1 128 1 (by omega) (by omega) (by omega) (by omega) (by omega) (fun h => absurd c1 h) (fun _ => e))), ?_⟩
    rcases h with ⟨rfl, rfl, rfl, h3, hv⟩ | ⟨rfl, rfl, rfl⟩
    · have hen : en ((b0 - 192) * 64 + bt s (i + 1) - 128) = [b0, bt s (i + 1)] := by
        unfold en
        rw [if_neg (by omega), if_pos (by omega)]
        congr 1
        · omega
        · congr 1
          omega
      exact ⟨by omega, by omega, fun _ => hv, fun _ => by rw [hen]; rfl, fun _ => by omega, fun _ => by rw [hen]; exact nums1 s hs i _ _ h0 rfl (by omega)⟩
    · exact Chr.bad s i
  · exact ⟨_, _, _, Ev.step st (Ev.neg c0 (l0_cont s hs i _ 1 128 1 (by omega) (by omega) (by omega) (by omega) (by omega) (fun _ => rfl) (fun h => absurd h c1))), Chr.bad s i⟩
theorem three_ev (b0 : Int) (h0 : bt s i = b0) (hb : 224 ≤ b0 ∧ b0 ≤ 239) (hi : i < s.size) : ∃ c n b, Ev (fun k => spec_Character.j2 k s i (b0 - 224) 2 2048) (c, n, b) ∧ Chr s i c n b := by
  have st := fun k => (show spec_Character.j2 (k + 1) s i (b0 - 224) 2 2048 = _ by rw [spec_Character.j2])
  rw [w64 (x := (s.size : Int) - i) (by omega) (by omega)] at st
  by_cases c0 : (s.size : Int) - i ≤ 2
  · exact ⟨_, _, _, Ev.step st (Ev.pos c0 (Ev.now _)), Chr.bad s i⟩
  by_cases c1 : 128 ≤ bt s (i + 1) ∧ bt s (i + 1) ≤ 191
  · by_cases c2 : 128 ≤ bt s (i + (1 + 1)) ∧ bt s (i + (1 + 1)) ≤ 191
    · obtain ⟨c, n, b, e, h⟩ := l0_end s hs i (((b0 - 224) * 64 + bt s (i + 1) - 128) * 64 + bt s (i + (1 + 1)) - 128) 2 2048 (by omega) (by omega)
      refine ⟨c, n, b, Ev.step st (Ev.neg c0 (l0_cont s hs i _ 2 2048 1 (by omega) (by omega) (by omega) (by omega) (by omega) (fun h => absurd c1 h) (fun _ => l0_cont s hs i _ 2 2048 (1 + 1) (by omega) (by omega) (by omega) (by omega) (by omega) (fun h => absurd c2 h) (fun _ => e)))), ?_⟩
      rcases h with ⟨rfl, rfl, rfl, h3, hv⟩ | ⟨rfl, rfl, rfl⟩
      · have hen : en (((b0 - 224) * 64 + bt s (i + 1) - 128) * 64 + bt s (i + (1 + 1)) - 128) = [b0, bt s (i + 1), bt s (i + (1 + 1))] := by
          unfold en
          rw [if_neg (by omega), if_neg (by omega), if_pos (by omega)]
          congr 1
          · omega
          · congr 1
            · omega
            · congr 1
              omega
        exact ⟨by omega, by omega, fun _ => hv, fun _ => by rw [hen]; rfl, fun _ => by omega, fun _ => by rw [hen]; exact nums2 s hs i _ _ _ h0 rfl rfl (by omega)⟩
      · exact Chr.bad s i
    · exact ⟨_, _, _, Ev.step st (Ev.neg c0 (l0_cont s hs i _ 2 2048 1 (by omega) (by omega) (by omega) (by omega) (by omega) (fun h => absurd c1 h) (fun _ => l0_cont s hs i _ 2 2048 (1 + 1) (by omega) (by omega) (by omega) (by omega) (by omega) (fun _ => rfl) (fun h => absurd h c2)))), Chr.bad s i⟩
  · exact ⟨_, _, _, Ev.step st (Ev.neg c0 (l0_cont s hs i _ 2 2048 1 (by omega) (by omega) (by omega) (by omega) (by omega) (fun _ => rfl) (fun h => absurd h c1))), Chr.bad s i⟩
theorem four_ev (b0 : Int) (h0 : bt s i = b0) (hb : 240 ≤ b0 ∧ b0 ≤ 244) (hi : i < s.size) : ∃ c n b, Ev (fun k => spec_Character.j2 k s i (b0 - 240) 3 65536) (c, n, b) ∧ Chr s i c n b := by
  have st := fun k => (show spec_Character.j2 (k + 1) s i (b0 - 240) 3 65536 = _ by rw [spec_Character.j2])
  rw [w64 (x := (s.size : Int) - i) (by omega) (by omega)] at st
  by_cases c0 : (s.size : Int) - i ≤ 3
  · exact ⟨_, _, _, Ev.step st (Ev.pos c0 (Ev.now _)), Chr.bad s i⟩
  by_cases c1 : 128 ≤ bt s (i + 1) ∧ bt s (i + 1) ≤ 191
  · by_cases c2 : 128 ≤ bt s (i + (1 + 1)) ∧ bt s (i + (1 + 1)) ≤ 191
    · by_cases c3 : 128 ≤ bt s (i + (1 + 1 + 1)) ∧ bt s (i + (1 + 1 + 1)) ≤ 191
      · obtain ⟨c, n, b, e, h⟩ := l0_end s hs i ((((b0 - 240) * 64 + bt s (i + 1) - 128) * 64 + bt s (i + (1 + 1)) - 128) * 64 + bt s (i + (1 + 1 + 1)) - 128) 3 65536 (by omega) (by omega)
        refine ⟨c, n, b, Ev.step st (Ev.neg c0 (l0_cont s hs i _ 3 65536 1 (by omega) (by omega) (by omega) (by omega) (by omega) (fun h => absurd c1 h) (fun _ => l0_cont s hs i _ 3 65536 (1 + 1) (by omega) (by omega) (by omega) (by omega) (by omega) (fun h => absurd c2 h) (fun _ => l0_cont s hs i _ 3 65536 (1 + 1 + 1) (by omega) (by omega) (by omega) (by omega) (by omega) (fun h => absurd c3 h) (fun _ => e))))), ?_⟩
        rcases h with ⟨rfl, rfl, rfl, h3, hv⟩ | ⟨rfl, rfl, rfl⟩
        · have hen : en ((((b0 - 240) * 64 + bt s (i + 1) - 128) * 64 + bt s (i + (1 + 1)) - 128) * 64 + bt s (i + (1 + 1 + 1)) - 128) = [b0, bt s (i + 1), bt s (i + (1 + 1)), bt s (i + (1 + 1 + 1))] := by
            unfold en
            rw [if_neg (by omega), if_neg (by omega), if_neg (by omega)]
            congr 1
            · omega
            · congr 1
              · omega
              · congr 1
                · omega
                · congr 1
                  omega
          exact ⟨by omega, by omega, fun _ => hv, fun _ => by rw [hen]; rfl, fun _ => by omega, fun _ => by rw [hen]; exact nums3 s hs i _ _ _ _ h0 rfl rfl rfl (by omega)⟩
        · exact Chr.bad s i
      · exact ⟨_, _, _, Ev.step st (Ev.neg c0 (l0_cont s hs i _ 3 65536 1 (by omega) (by omega) (by omega) (by omega) (by omega) (fun h => absurd c1 h) (fun _ => l0_cont s hs i _ 3 65536 (1 + 1) (by omega) (by omega) (by omega) (by omega) (by omega) (fun h => absurd c2 h) (fun _ => l0_cont s hs i _ 3 65536 (1 + 1 + 1) (by omega) (by omega) (by omega) (by omega) (by omega) (fun _ => rfl) (fun h => absurd h c3))))), Chr.bad s i⟩
    · exact ⟨_, _, _, Ev.step st (Ev.neg c0 (l0_cont s hs i _ 3 65536 1 (by omega) (by omega) (by omega) (by omega) (by omega) (fun h => absurd c1 h) (fun _ => l0_cont s hs i _ 3 65536 (1 + 1) (by omega) (by omega) (by omega) (by omega) (by omega) (fun _ => rfl) (fun h => absurd h c2)))), Chr.bad s i⟩
  · exact ⟨_, _, _, Ev.step st (Ev.neg c0 (l0_cont s hs i _ 3 65536 1 (by omega) (by omega) (by omega) (by omega) (by omega) (fun _ => rfl) (fun h => absurd h c1))), Chr.bad s i⟩
/-- The reference's reader at a place of a text. -/
theorem char_ev (hi : i < s.size) : ∃ c n b, Ev (fun k => spec_Character.f k s i) (c, n, b) ∧ Chr s i c n b := by
  obtain ⟨b0, h0⟩ : ∃ b0, bt s i = b0 := ⟨_, rfl⟩
  have br := bt_range s i
  unfold spec_Character.f
  rw [w64 (x := bt s i) (by omega) (by omega), h0]
  rw [h0] at br
  by_cases c1 : b0 < 128
  · refine ⟨_, _, _, Ev.pos (by omega) (Ev.pos (by omega) (Ev.pos c1 (Ev.now _))), ⟨by omega, by omega, fun _ => by unfold Vd; omega, fun _ => by rw [en_ascii c1]; rfl, fun _ => by omega, fun _ => ?_⟩⟩
    rw [en_ascii c1]
    have := ext_bytes s i 1 (by omega)
    rw [show (1 : Int).toNat = 1 by rfl, this]
    congr 1
    show [bt s ((i : Int) + ((0 : Nat) : Int))] = _
    rw [show (i : Int) + ((0 : Nat) : Int) = i by omega, h0]
  have fin : ∀ {b : Bool} {r : Int × Int × Bool}, Ev (fun k => spec_Character.j0 k s i b0 b) r → (194 ≤ b0 → b = decide (b0 ≤ 223)) → (¬ 194 ≤ b0 → b = false) → Ev (fun k => if (0 : Int) ≤ i then (if (i : Int) < (s.size : Int) then (if b0 < 128 then (some (b0, 1, true)) else (if 194 ≤ b0 then (spec_Character.j0 k s i b0 (decide (b0 ≤ 223))) else (spec_Character.j0 k s i b0 false))) else (none)) else (none)) r := by
    intro b r e h1 h2
    refine Ev.pos (by omega) (Ev.pos (by omega) (Ev.neg c1 ?_))
    by_cases c2 : 194 ≤ b0
    · refine Ev.pos c2 ?_; rw [← h1 c2]; exact e
    · refine Ev.neg c2 ?_; rw [← h2 c2]; exact e
  by_cases c2 : 194 ≤ b0 ∧ b0 ≤ 223
  · obtain ⟨c, n, b, e, h⟩ := two_ev s hs i b0 h0 c2 hi
    refine ⟨c, n, b, fin (b := true) (Ev.step (fun k => by rw [spec_Character.j0]) ?_) (fun _ => by simp [c2.2]) (fun h => absurd c2.1 h), h⟩
    rw [w64 (by omega) (by omega)]
    exact Ev.pos rfl e
  have f0 : ∀ {b : Bool} {r : Int × Int × Bool}, Ev (fun k => spec_Character.j1 k s i b0 b) r → (224 ≤ b0 → b = decide (b0 ≤ 239)) → (¬ 224 ≤ b0 → b = false) → Ev (fun k => if (0 : Int) ≤ i then (if (i : Int) < (s.size : Int) then (if b0 < 128 then (some (b0, 1, true)) else (if 194 ≤ b0 then (spec_Character.j0 k s i b0 (decide (b0 ≤ 223))) else (spec_Character.j0 k s i b0 false))) else (none)) else (none)) r := by
    intro b r e h1 h2
    refine fin (b := false) (Ev.step (fun k => by rw [spec_Character.j0]) ?_) (fun h => by simp; omega) (fun _ => rfl)
    refine Ev.neg Bool.false_ne_true ?_
    by_cases c3 : 224 ≤ b0
    · refine Ev.pos c3 ?_; rw [← h1 c3]; exact e
    · refine Ev.neg c3 ?_; rw [← h2 c3]; exact e
  by_cases c3 : 224 ≤ b0 ∧ b0 ≤ 239
  · obtain ⟨c, n, b, e, h⟩ := three_ev s hs i b0 h0 c3 hi
    refine ⟨c, n, b, f0 (b := true) (Ev.step (fun k => by rw [spec_Character.j1]) ?_) (fun _ => by simp [c3.2]) (fun h => absurd c3.1 h), h⟩
    rw [w64 (by omega) (by omega)]
    exact Ev.pos rfl e
  by_cases c4 : 240 ≤ b0 ∧ b0 ≤ 244
  · obtain ⟨c, n, b, e, h⟩ := four_ev s hs i b0 h0 c4 hi
    refine ⟨c, n, b, f0 (b := false) (Ev.step (fun k => by rw [spec_Character.j1]) ?_) (fun h => by simp; omega) (fun _ => rfl), h⟩
    rw [w64 (x := b0 - 240) (by omega) (by omega)]
    exact Ev.neg Bool.false_ne_true (Ev.pos c4.1 (Ev.pos c4.2 e))
  refine ⟨_, _, _, f0 (b := false) (Ev.step (fun k => by rw [spec_Character.j1]) ?_) (fun h => by simp; omega) (fun _ => rfl), Chr.bad s i⟩
  refine Ev.neg Bool.false_ne_true ?_
  by_cases c5 : 240 ≤ b0
  · exact Ev.pos c5 (Ev.neg (by omega) (Ev.now _))
  · exact Ev.neg c5 (Ev.now _)
end
/-- A character that was read: the text from there on is it and what is behind it. -/
theorem Chr.tail {s : ByteArray} {i : Nat} {c n : Int} (h : Chr s i c n true) {cs : List Int} (e : s.extract (i + n.toNat) s.size = bs cs) : s.extract i s.size = bs (c :: cs) := by
  have h1 := h.le rfl
  have h2 := h.n1
  rw [ext_split s i n.toNat (by omega), h.ex rfl, e, bs_cons]
end Go.Proofs.YtljmeaemonpkoaaDoor.UFnMtNoCaseSmall
