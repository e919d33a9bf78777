/- The inner checks of one value of a container: its blanks, its strings' ends, its numbers and words; no condition beside those that each theorem states. -/
import Derived.Test.YtmneeighbkcadaaDoorFSFnJpLength
import Derived.Test.YtmneeighbkcadaaDoorJDFnJpLength
namespace Go.Proofs.YtmneeighbkcadaaDoor.JFnJpLength
open Go.RowKit Go.Proofs.YtmneeighbkcadaaDoor.PFnJpLength Go.Proofs.YtmneeighbkcadaaDoorW.PrintWords Go.Proofs.YtmneeighbkcadaaDoorW.PrintLast Go.Proofs.YtmneeighbkcadaaDoorW.PrintMore
set_option linter.unusedSimpArgs false

theorem ws_f (c : Int) : iCW_.f c = some (decide (IsBl c)) := by
  unfold iCW_.f IsBl
  by_cases h1 : c = 32
  · rw [if_pos h1]; simp [h1]
  by_cases h2 : c = 10
  · rw [if_neg h1, if_pos h2]; simp [h2]
  by_cases h3 : c = 13
  · rw [if_neg h1, if_neg h2, if_pos h3]; simp [h3]
  rw [if_neg h1, if_neg h2, if_neg h3]
  by_cases h4 : c = 9
  · simp [h4]
  · have hn : ¬ (c = 32 ∨ c = 9 ∨ c = 10 ∨ c = 13) := by omega
    simp [h1, h2, h3, h4]
theorem bt_rng (s : ByteArray) (i : Int) : 0 ≤ bt s i ∧ bt s i < 256 := by
  unfold bt
  by_cases h : i.toNat < s.size
  · rw [dif_pos h]
    exact ⟨by omega, by have := (s[i.toNat]).toNat_lt; omega⟩
  · rw [dif_neg h]
    decide
/-! ### strings -/
theorem rdD (s : ByteArray) (a m : Nat) : rd ((bytesOf s).drop a) (m : Int) = bt s ((a : Int) + m) := by
  rw [rd_drop, rd_bytesOf, Int.natCast_add]
theorem bsl0 {l : List Int} {m : Nat} (h : rd l (m : Int) ≠ 92) : bsl l (m + 1) = 0 := by rw [bsl, if_neg h]
theorem bsl1 {l : List Int} {m : Nat} (h : rd l (m : Int) = 92) : bsl l (m + 1) = bsl l m + 1 := by rw [bsl, if_pos h]
theorem hex_ne {c : Int} (h : IsHex c) : c ≠ 34 ∧ c ≠ 92 := by unfold IsHex at h; omega
theorem str_ends (s : ByteArray) (a : Nat) {p j : Int} (h : StrT s p j) : ∀ m : Nat, p = (a : Int) + m → bsl ((bytesOf s).drop a) m % 2 = 0 →
    (∀ i : Nat, i < m → rd ((bytesOf s).drop a) (i : Int) = 34 → bsl ((bytesOf s).drop a) i % 2 = 1) → Ends ((bytesOf s).drop a) 34 (j - 1 - a).toNat := by
  induction h with
  | done h c =>
    rename_i i
    intro m hp hb hn
    have e : (i + 1 - 1 - (a : Int)).toNat = m := by omega
    rw [e]
    exact ⟨by rw [List.length_drop, bytesOf_length]; omega, by rw [rdD, ← hp]; exact c, hb, hn⟩
  | char h c1 c2 c3 t ih =>
    intro m hp hb hn
    have r0 : rd ((bytesOf s).drop a) (m : Int) ≠ 92 := by rw [rdD, ← hp]; exact c2
    have r1 : rd ((bytesOf s).drop a) (m : Int) ≠ 34 := by rw [rdD, ← hp]; exact c1
    refine ih (m + 1) (by omega) (by rw [bsl0 r0]) (fun i hi h34 => ?_)
    by_cases e : i = m
    · exact absurd h34 (e ▸ r1)
    · exact hn i (by omega) h34
  | esc h c c2 t ih =>
    intro m hp hb hn
    have r0 : rd ((bytesOf s).drop a) (m : Int) = 92 := by rw [rdD, ← hp]; exact c
    have b1 := bsl1 r0
    refine ih (m + 2) (by omega) ?_ (fun i hi h34 => ?_)
    · by_cases c9 : rd ((bytesOf s).drop a) ((m + 1 : Nat) : Int) = 92
      · rw [bsl1 c9, b1]; omega
      · rw [bsl0 c9]
    · by_cases e : i = m
      · rw [e, r0] at h34; omega
      · by_cases e2 : i = m + 1
        · rw [e2, b1]; omega
        · exact hn i (by omega) h34
  | uni h c c2 c3 t ih =>
    rename_i i0 j0
    intro m hp hb hn
    have r0 : rd ((bytesOf s).drop a) (m : Int) = 92 := by rw [rdD, ← hp]; exact c
    have r1 : rd ((bytesOf s).drop a) ((m + 1 : Nat) : Int) = 117 := by rw [rdD, show (a : Int) + ((m + 1 : Nat) : Int) = i0 + 1 by omega]; exact c2
    have rx : ∀ q : Nat, m + 2 ≤ q → q < m + 6 → rd ((bytesOf s).drop a) (q : Int) ≠ 34 ∧ rd ((bytesOf s).drop a) (q : Int) ≠ 92 := fun q h1 h2 => by
      rw [rdD]
      exact hex_ne (c3 _ (by omega) (by omega))
    refine ih (m + 6) (by omega) (by rw [bsl0 (rx (m + 5) (by omega) (by omega)).2]) (fun i hi h34 => ?_)
    by_cases e : i < m
    · exact hn i e h34
    by_cases e0 : i = m
    · rw [e0, r0] at h34; omega
    by_cases e1 : i = m + 1
    · rw [e1, r1] at h34; omega
    exact absurd h34 (rx i (by omega) hi).1
open Classical in
theorem strEnd_ev (s : ByteArray) (hs : (s.size : Int) ≤ 2147483647) (i j : Int) (h0 : 0 ≤ i) (h : StrT s (i + 1) j) : ∃ b, Ev (fun k => sE_.f k ((bytesOf s).drop (i + 1).toNat)) (j - (i + 1), b) := by
  have h1 := h.lt
  have h2 := h.hi
  have he := str_ends s (i + 1).toNat h 0 (by omega) rfl (fun i hi => by omega)
  have e := end_ev false false 0 ((bytesOf s).drop (i + 1).toNat) (by rw [List.length_drop, bytesOf_length]; omega) (fun q => by
    by_cases hq : 0 ≤ q
    · rw [show q = ((q.toNat : Nat) : Int) by omega, rdD]; exact bt_rng _ _
    · rw [show rd ((bytesOf s).drop (i + 1).toNat) q = rd ((bytesOf s).drop (i + 1).toNat) ((0 : Nat) : Int) by unfold rd; rw [show q.toNat = ((0 : Nat) : Int).toNat by omega], rdD]; exact bt_rng _ _) 34 (by omega) (by omega) (by omega) _ he
  refine ⟨decide (Esc ((bytesOf s).drop (i + 1).toNat) (j - 1 - (((i + 1).toNat : Nat) : Int)).toNat), ?_⟩
  unfold sE_.f
  refine Ev.bind e ?_
  refine Ev.eq ?_ (Ev.now _)
  rw [Prod.mk.injEq]
  exact ⟨by omega, rfl⟩
/-! ### numbers -/
/-- A piece of a text, as bytes. -/
structure Cut (s : ByteArray) (i j : Int) (v : List Int) : Prop where
  lo : 0 ≤ i
  lt : i < j
  hi : j ≤ s.size
  small : (s.size : Int) ≤ 2147483647
  len : (v.length : Int) = j - i
  at_ : ∀ p : Int, i ≤ p → p < j → rd v (p - i) = bt s p
section
variable {s : ByteArray} {i j : Int} {v : List Int}
theorem vn_l2 (h : Cut s i j v) (x : Int) (hx : x ≠ j - i) (d : Nat) : ∀ p : Int, i ≤ p → p ≤ j → j - p ≤ d → (∀ q, p ≤ q → q < j → 48 ≤ bt s q ∧ bt s q ≤ 57) → Ev (fun k => vJSONN_.l2 k v (p - i) x) true := by
  obtain ⟨a1, a2, a3, a4, a5, a6⟩ := h
  have stop : Ev (fun k => vJSONN_.l2 k v (j - i) x) true :=
    Ev.step (fun k => by rw [vJSONN_.l2]) (Ev.neg (by omega) (Ev.neg (by omega) (Ev.eq (beq_iff_eq.2 a5.symm) (Ev.now _))))
  induction d with
  | zero =>
    intro p h0 h1 hd _
    obtain rfl : p = j := by omega
    exact stop
  | succ d ih =>
    intro p h0 h1 hd hq
    by_cases c : p = j
    · exact c ▸ stop
    · have := hq p (Int.le_refl _) (by omega)
      refine Ev.step (fun k => by rw [vJSONN_.l2]) (Ev.pos (by omega) (Ev.pos (by omega) (Ev.pos (by rw [a6 p h0 (by omega)]; omega) (Ev.pos (by rw [a6 p h0 (by omega)]; omega) ?_))))
      rw [w64 (by omega) (by omega), show p - i + 1 = p + 1 - i by omega]
      exact ih (p + 1) (by omega) (by omega) (by omega) (fun q h2 h3 => hq q (by omega) h3)
theorem vn_l1 (h : Cut s i j v) (x c : Int) (hc : c ≤ j) (hx : x ≠ c - i) (hs : c = j ∨ ¬ (48 ≤ bt s c ∧ bt s c ≤ 57)) (hr : Ev (fun k => vJSONN_.j6 k v (c - i)) true) (d : Nat) : ∀ p : Int, i ≤ p → p ≤ c → c - p ≤ d → (∀ q, p ≤ q → q < c → 48 ≤ bt s q ∧ bt s q ≤ 57) → Ev (fun k => vJSONN_.l1 k v (p - i) x) true := by
  obtain ⟨a1, a2, a3, a4, a5, a6⟩ := h
  have stop : i ≤ c → Ev (fun k => vJSONN_.l1 k v (c - i) x) true := by
    intro hi
    have fin : Ev (fun k => if c - i = x then some false else vJSONN_.j6 k v (c - i)) true := Ev.neg (by omega) hr
    by_cases e : c = j
    · exact Ev.step (fun k => by rw [vJSONN_.l1]) (Ev.neg (by omega) fin)
    · have hn := hs.resolve_left e
      have e1 := a6 c hi (by omega)
      by_cases e2 : bt s c ≥ 48
      · exact Ev.step (fun k => by rw [vJSONN_.l1]) (Ev.pos (by omega) (Ev.pos (by omega) (Ev.pos (by rw [e1]; exact e2) (Ev.neg (by rw [e1]; omega) fin))))
      · exact Ev.step (fun k => by rw [vJSONN_.l1]) (Ev.pos (by omega) (Ev.pos (by omega) (Ev.neg (by rw [e1]; exact e2) fin)))
  induction d with
  | zero =>
    intro p h0 h1 hd _
    obtain rfl : p = c := by omega
    exact stop h0
  | succ d ih =>
    intro p h0 h1 hd hq
    by_cases e : p = c
    · rw [e]; exact stop (by omega)
    · have := hq p (Int.le_refl _) (by omega)
      refine Ev.step (fun k => by rw [vJSONN_.l1]) (Ev.pos (by omega) (Ev.pos (by omega) (Ev.pos (by rw [a6 p h0 (by omega)]; omega) (Ev.pos (by rw [a6 p h0 (by omega)]; omega) ?_))))
      rw [w64 (by omega) (by omega), show p - i + 1 = p + 1 - i by omega]
      exact ih (p + 1) (by omega) (by omega) (by omega) (fun q h2 h3 => hq q (by omega) h3)
theorem vn_l0 (h : Cut s i j v) (c : Int) (hc : c ≤ j) (hs : c = j ∨ ¬ (48 ≤ bt s c ∧ bt s c ≤ 57)) (hr : Ev (fun k => vJSONN_.j3 k v (c - i)) true) (d : Nat) : ∀ p : Int, i ≤ p → p ≤ c → c - p ≤ d → (∀ q, p ≤ q → q < c → 48 ≤ bt s q ∧ bt s q ≤ 57) → Ev (fun k => vJSONN_.l0 k v (p - i)) true := by
  obtain ⟨a1, a2, a3, a4, a5, a6⟩ := h
  have stop : i ≤ c → Ev (fun k => vJSONN_.l0 k v (c - i)) true := by
    intro hi
    by_cases e : c = j
    · exact Ev.step (fun k => by rw [vJSONN_.l0]) (Ev.neg (by omega) hr)
    · have hn := hs.resolve_left e
      have e1 := a6 c hi (by omega)
      by_cases e2 : bt s c ≥ 48
      · exact Ev.step (fun k => by rw [vJSONN_.l0]) (Ev.pos (by omega) (Ev.pos (by omega) (Ev.pos (by rw [e1]; exact e2) (Ev.neg (by rw [e1]; omega) hr))))
      · exact Ev.step (fun k => by rw [vJSONN_.l0]) (Ev.pos (by omega) (Ev.pos (by omega) (Ev.neg (by rw [e1]; exact e2) hr)))
  induction d with
  | zero =>
    intro p h0 h1 hd _
    obtain rfl : p = c := by omega
    exact stop h0
  | succ d ih =>
    intro p h0 h1 hd hq
    by_cases e : p = c
    · rw [e]; exact stop (by omega)
    · have := hq p (Int.le_refl _) (by omega)
      refine Ev.step (fun k => by rw [vJSONN_.l0]) (Ev.pos (by omega) (Ev.pos (by omega) (Ev.pos (by rw [a6 p h0 (by omega)]; omega) (Ev.pos (by rw [a6 p h0 (by omega)]; omega) ?_))))
      rw [w64 (by omega) (by omega), show p - i + 1 = p + 1 - i by omega]
      exact ih (p + 1) (by omega) (by omega) (by omega) (fun q h2 h3 => hq q (by omega) h3)
/-- Behind a number's fraction. -/
theorem vn_j6 (h : Cut s i j v) (c : Int) (h0 : i ≤ c) (hc : c ≤ j) (hj : (j = c ∧ hr s c ≠ 101 ∧ hr s c ≠ 69) ∨ ((bt s c = 101 ∨ bt s c = 69) ∧ ((hr s (c + 1) ≠ 43 ∧ hr s (c + 1) ≠ 45 ∧ Digs s (c + 1) j) ∨ ((bt s (c + 1) = 43 ∨ bt s (c + 1) = 45) ∧ Digs s (c + 2) j)))) :
    Ev (fun k => vJSONN_.j6 k v (c - i)) true := by
  have h' := h
  obtain ⟨a1, a2, a3, a4, a5, a6⟩ := h
  rcases hj with ⟨rfl, _⟩ | ⟨he, hd⟩
  · exact Ev.step (fun k => by rw [vJSONN_.j6]) (Ev.neg (by omega) (Ev.step (fun k => by rw [vJSONN_.j7]) (Ev.neg Bool.false_ne_true (Ev.eq (beq_iff_eq.2 a5.symm) (Ev.now _)))))
  · have hl : c + 1 < j := by rcases hd with ⟨_, _, hd⟩ | ⟨_, hd⟩ <;> have := hd.lt <;> omega
    have e0 := a6 c h0 (by omega)
    have e1 := a6 (c + 1) (by omega) hl
    have fin : ∀ p, i ≤ p → Digs s p j → Ev (fun k => vJSONN_.j9 k v (p - i)) true := fun p hp hd => by
      have := hd.lt
      exact Ev.step (fun k => by rw [vJSONN_.j9]) (vn_l2 h' (p - i) (by omega) (j - p).toNat p hp (by omega) (by omega) hd.all)
    have pw : Ev (fun k => vJSONN_.j7 k v (c - i) true) true := by
      refine Ev.step (fun k => by rw [vJSONN_.j7]) (Ev.pos rfl ?_)
      rw [w64 (by omega) (by omega), show c - i + 1 = c + 1 - i by omega]
      refine Ev.pos (by omega) (Ev.pos (by omega) ?_)
      rw [e1]
      have yes : bt s (c + 1) = 43 ∨ bt s (c + 1) = 45 → Digs s (c + 2) j → Ev (fun k => vJSONN_.j8 k v (c + 1 - i) true) true := fun _ hd => by
        refine Ev.step (fun k => by rw [vJSONN_.j8]) (Ev.pos rfl ?_)
        rw [w64 (by omega) (by omega), show c + 1 - i + 1 = c + 2 - i by omega]
        exact fin _ (by omega) hd
      rcases hd with ⟨n1, n2, hd⟩ | ⟨n1, hd⟩
      · rw [hr_lt (by omega)] at n1 n2
        refine Ev.neg n1 ?_
        rw [show (bt s (c + 1) == 45) = false by simp [n2]]
        exact Ev.step (fun k => by rw [vJSONN_.j8]) (Ev.neg Bool.false_ne_true (fin _ (by omega) hd))
      · by_cases c9 : bt s (c + 1) = 43
        · exact Ev.pos c9 (yes n1 hd)
        · refine Ev.neg c9 ?_
          rw [show (bt s (c + 1) == 45) = true by simp; omega]
          exact yes n1 hd
    by_cases c8 : bt s c = 101
    · exact Ev.step (fun k => by rw [vJSONN_.j6]) (Ev.pos (by omega) (Ev.pos (by omega) (Ev.pos (by rw [e0]; exact c8) pw)))
    · refine Ev.step (fun k => by rw [vJSONN_.j6]) (Ev.pos (by omega) (Ev.pos (by omega) (Ev.neg (by rw [e0]; exact c8) ?_)))
      rw [e0, show (bt s c == 69) = true by simp; omega]
      exact pw
/-- Every number of a JSON text is taken. -/
theorem vn_ev (h : Cut s i j v) (hn : Num s i j) : Ev (fun k => vJSONN_.f k v) true := by
  have h' := h
  obtain ⟨a1, a2, a3, a4, a5, a6⟩ := h
  obtain ⟨a, b, c, ha, hb, hc, hj⟩ := hn.out
  have hcj : c ≤ j := by
    rcases hj with ⟨h1, _⟩ | ⟨_, ⟨_, _, h1⟩ | ⟨_, h1⟩⟩
    · omega
    · have := h1.lt; omega
    · have := h1.lt; omega
  have hbc : b ≤ c := by
    rcases hc with ⟨h1, _⟩ | ⟨_, h1⟩
    · omega
    · have := h1.lt; omega
  have hab : a < b := by
    rcases hb with ⟨_, _, h1⟩ | ⟨_, h1⟩
    · omega
    · exact h1.lt
  have hia : i ≤ a := by omega
  have j6 := vn_j6 h' c (by omega) hcj hj
  have ndig : b < j → ¬ (48 ≤ bt s b ∧ bt s b ≤ 57) := by
    intro hbj
    rcases hc with ⟨h1, _⟩ | ⟨h1, _⟩
    · rcases hj with ⟨h2, _⟩ | ⟨h2, _⟩
      · omega
      · rw [h1] at h2; omega
    · omega
  have j3 : Ev (fun k => vJSONN_.j3 k v (b - i)) true := by
    rcases hc with ⟨rfl, h1⟩ | ⟨h1, h2⟩
    · have no : Ev (fun k => vJSONN_.j4 k v (c - i) false) true := Ev.step (fun k => by rw [vJSONN_.j4]) (Ev.neg Bool.false_ne_true j6)
      by_cases e : c = j
      · exact Ev.step (fun k => by rw [vJSONN_.j3]) (Ev.neg (by omega) no)
      · refine Ev.step (fun k => by rw [vJSONN_.j3]) (Ev.pos (by omega) (Ev.pos (by omega) ?_))
        rw [a6 c (by omega) (by omega), show (bt s c == 46) = false by rw [hr_lt (by omega)] at h1; simp [h1]]
        exact no
    · have hlt := h2.lt
      refine Ev.step (fun k => by rw [vJSONN_.j3]) (Ev.pos (by omega) (Ev.pos (by omega) ?_))
      rw [a6 b (by omega) (by omega), show (bt s b == 46) = true by simp [h1]]
      refine Ev.step (fun k => by rw [vJSONN_.j4]) (Ev.pos rfl ?_)
      rw [w64 (by omega) (by omega), show b - i + 1 = b + 1 - i by omega]
      refine vn_l1 h' (b + 1 - i) c hcj (by omega) ?_ j6 (c - (b + 1)).toNat (b + 1) (by omega) (by omega) (by omega) h2.all
      rcases h2.stop with h3 | h3
      · exact .inl (by omega)
      · exact .inr h3
  have j0 : Ev (fun k => vJSONN_.j0 k v (a - i)) true := by
    have e0 := a6 a hia (by omega)
    rcases hb with ⟨_, h1, rfl⟩ | ⟨h1, h2⟩
    · refine Ev.step (fun k => by rw [vJSONN_.j0]) (Ev.pos (by omega) (Ev.pos (by omega) (Ev.pos (by rw [e0]; exact h1) ?_)))
      rw [w64 (by omega) (by omega), show a - i + 1 = a + 1 - i by omega]
      by_cases e : a + 1 = j
      · exact Ev.neg (by omega) j3
      · have nd := ndig (by omega)
        have e1 := a6 (a + 1) (by omega) (by omega)
        refine Ev.pos (by omega) (Ev.pos (by omega) ?_)
        rw [e1]
        by_cases e2 : bt s (a + 1) ≥ 48
        · exact Ev.pos e2 (Ev.neg (by omega) j3)
        · exact Ev.neg e2 j3
    · have hlt := h2.lt
      have hd := h2.all a (Int.le_refl _) hlt
      rw [hr_lt (by omega)] at h1
      refine Ev.step (fun k => by rw [vJSONN_.j0]) (Ev.pos (by omega) (Ev.pos (by omega) (Ev.neg (by rw [e0]; exact h1) (Ev.neg (by rw [e0]; omega) ?_))))
      rw [e0, decide_eq_false (by omega)]
      refine Ev.step (fun k => by rw [vJSONN_.j1]) (Ev.neg Bool.false_ne_true ?_)
      refine vn_l0 h' b (by omega) ?_ j3 (b - a).toNat a hia (by omega) (by omega) h2.all
      by_cases e : b = j
      · exact .inl e
      · exact .inr (ndig (by omega))
  have e0 := a6 i (Int.le_refl _) a2
  rw [show i - i = (0 : Int) by omega] at e0
  unfold vJSONN_.f
  refine Ev.pos (by omega) ?_
  rw [e0]
  rcases ha with ⟨rfl, h1⟩ | ⟨h1, rfl⟩
  · rw [hr_lt (by omega)] at h1
    refine Ev.neg h1 ?_
    rw [show (0 : Int) = a - a by omega]
    exact j0
  · refine Ev.pos h1 (Ev.neg (by omega) ?_)
    rw [show (1 : Int) = i + 1 - i by omega]
    exact j0
end
/-! ### a value that is no string, array or object -/
def pc (s : ByteArray) (i j : Int) : List Int := ((bytesOf s).take j.toNat).drop i.toNat
theorem pc_len (s : ByteArray) (i j : Int) (h0 : 0 ≤ i) (h1 : i ≤ j) (h2 : j ≤ s.size) : ((pc s i j).length : Int) = j - i := by
  unfold pc
  rw [List.length_drop, List.length_take, bytesOf_length]
  omega
theorem pc_rd (s : ByteArray) (i j p : Int) (h0 : 0 ≤ i) (h1 : i ≤ p) (h2 : p < j) : rd (pc s i j) (p - i) = bt s p := by
  rw [← rd_bytesOf]
  unfold pc rd
  simp only [List.getD_eq_getElem?_getD]
  rw [List.getElem?_drop, List.getElem?_take_of_lt (by omega)]
  congr 2
  omega
theorem pc_take (s : ByteArray) (i j : Int) (h0 : 0 ≤ i) (h1 : i < j) : (pc s i j).take (j - i - 1).toNat = pc s i (j - 1) := by
  unfold pc
  rw [List.drop_take, List.drop_take, List.take_take]
  congr 1
  omega
theorem pc_cut (s : ByteArray) (hs : (s.size : Int) ≤ 2147483647) (i j : Int) (h0 : 0 ≤ i) (h1 : i < j) (h2 : j ≤ s.size) : Cut s i j (pc s i j) :=
  ⟨h0, h1, h2, hs, pc_len s i j h0 (by omega) h2, fun p h3 h4 => pc_rd s i j p h0 h3 h4⟩
theorem four {l : List Int} {a b c d : Int} (hl : (l.length : Int) = 4) (h0 : rd l 0 = a) (h1 : rd l 1 = b) (h2 : rd l 2 = c) (h3 : rd l 3 = d) : l = [a, b, c, d] := by
  match l, hl with
  | [x, y, z, w], _ =>
    have e0 : x = a := h0
    have e1 : y = b := h1
    have e2 : z = c := h2
    have e3 : w = d := h3
    subst e0 e1 e2 e3
    rfl
  | [], hl => simp at hl
  | [_], hl => simp at hl
  | [_, _], hl => simp at hl
  | [_, _, _], hl => simp at hl
  | _ :: _ :: _ :: _ :: _ :: _, hl => simp at hl; omega
theorem five {l : List Int} {a b c d e : Int} (hl : (l.length : Int) = 5) (h0 : rd l 0 = a) (h1 : rd l 1 = b) (h2 : rd l 2 = c) (h3 : rd l 3 = d) (h4 : rd l 4 = e) : l = [a, b, c, d, e] := by
  match l, hl with
  | [x, y, z, w, v], _ =>
    have e0 : x = a := h0
    have e1 : y = b := h1
    have e2 : z = c := h2
    have e3 : w = d := h3
    have e4 : v = e := h4
    subst e0 e1 e2 e3 e4
    rfl
  | [], hl => simp at hl
  | [_], hl => simp at hl
  | [_, _], hl => simp at hl
  | [_, _, _], hl => simp at hl
  | [_, _, _, _], hl => simp at hl
  | _ :: _ :: _ :: _ :: _ :: _ :: _, hl => simp at hl; omega
theorem prim_j1 (s : ByteArray) (hs : (s.size : Int) ≤ 2147483647) {kd i j : Int} {ns : List Sp} {ks : List Pl} (h : JV s kd i j ns ks) (hk : kd < 4) (h0 : 0 ≤ i) (h1 : i < j) (h2 : j ≤ s.size) : Ev (fun k => vCP_.j1 k (pc s i j)) true := by
  have hl := pc_len s i j h0 (by omega) h2
  have hc := pc_cut s hs i j h0 h1 h2
  have all : (¬ (strOfNums (pc s i j)).toList = ([116, 114, 117, 101] : List UInt8) → ¬ (strOfNums (pc s i j)).toList = ([102, 97, 108, 115, 101] : List UInt8) → ¬ (strOfNums (pc s i j)).toList = ([110, 117, 108, 108] : List UInt8) → Num s i j) → Ev (fun k => vCP_.j1 k (pc s i j)) true := by
    intro hn
    refine Ev.step (fun k => by rw [vCP_.j1]) (Ev.neg (by omega) ?_)
    by_cases c1 : (strOfNums (pc s i j)).toList = ([116, 114, 117, 101] : List UInt8)
    · exact Ev.pos c1 (Ev.now _)
    by_cases c2 : (strOfNums (pc s i j)).toList = ([102, 97, 108, 115, 101] : List UInt8)
    · exact Ev.neg c1 (Ev.pos c2 (Ev.now _))
    by_cases c3 : (strOfNums (pc s i j)).toList = ([110, 117, 108, 108] : List UInt8)
    · exact Ev.neg c1 (Ev.neg c2 (Ev.pos c3 (Ev.now _)))
    · exact Ev.neg c1 (Ev.neg c2 (Ev.neg c3 (Ev.bind (vn_ev hc (hn c1 c2 c3)) (Ev.now _))))
  have w4 : ∀ w : ByteArray, w.size = 4 → j = i + 4 → Word s i w → pc s i j = [bt w 0, bt w 1, bt w 2, bt w 3] := by
    intro w hw hj hwd
    have g : ∀ q : Nat, q < 4 → rd (pc s i j) (q : Int) = bt w q := fun q hq => by
      have := hc.at_ (i + q) (by omega) (by omega)
      rw [show i + (q : Int) - i = q by omega] at this
      rw [this]
      exact hwd.at_ h0 q (by omega)
    exact four (by omega) (g 0 (by omega)) (g 1 (by omega)) (g 2 (by omega)) (g 3 (by omega))
  have w5 : ∀ w : ByteArray, w.size = 5 → j = i + 5 → Word s i w → pc s i j = [bt w 0, bt w 1, bt w 2, bt w 3, bt w 4] := by
    intro w hw hj hwd
    have g : ∀ q : Nat, q < 5 → rd (pc s i j) (q : Int) = bt w q := fun q hq => by
      have := hc.at_ (i + q) (by omega) (by omega)
      rw [show i + (q : Int) - i = q by omega] at this
      rw [this]
      exact hwd.at_ h0 q (by omega)
    exact five (by omega) (g 0 (by omega)) (g 1 (by omega)) (g 2 (by omega)) (g 3 (by omega)) (g 4 (by omega))
  cases h with
  | null h => exact all fun _ _ c3 => absurd (by rw [w4 wNull rfl rfl h, ByteArray.toList_eq]; rfl) c3
  | fals h => exact all fun _ c2 _ => absurd (by rw [w5 wFalse rfl rfl h, ByteArray.toList_eq]; rfl) c2
  | tru h => exact all fun c1 _ _ => absurd (by rw [w4 wTrue rfl rfl h, ByteArray.toList_eq]; rfl) c1
  | num h _ => exact all fun _ _ _ => h
  | str _ _ => omega
  | arr0 _ _ _ _ => omega
  | arr _ _ _ => omega
  | obj0 _ _ _ _ => omega
  | obj _ _ _ => omega
theorem prim_last {s : ByteArray} {kd i j : Int} {ns : List Sp} {ks : List Pl} (h : JV s kd i j ns ks) (hk : kd < 4) (h0 : 0 ≤ i) (q : Int) (h1 : i ≤ q) (h2 : q < j) : (97 ≤ bt s q ∧ bt s q ≤ 122) ∨ NumCh (bt s q) := by
  by_cases c : kd < 3
  · exact .inl (lit_ch h c h0 q h1 h2)
  · exact .inr (num_ch (jv_num h (by have : kd = 3 := by omega
                                     exact this)) q h1 h2)
theorem prim_ev (s : ByteArray) (hs : (s.size : Int) ≤ 2147483647) {kd i j : Int} {ns : List Sp} {ks : List Pl} (h : JV s kd i j ns ks) (hk : kd < 4) (h0 : 0 ≤ i) (h1 : i < j) (h2 : j ≤ s.size) (d : Nat) : ∀ e : Int, j ≤ e → e ≤ s.size → e - j = d → (∀ q, j ≤ q → q < e → IsBl (bt s q)) →
    Ev (fun k => vCP_.f k (pc s i e)) true := by
  unfold vCP_.f
  induction d with
  | zero =>
    intro e g0 g1 gd _
    obtain rfl : e = j := by omega
    have hl := pc_len s i e h0 (by omega) g1
    have w : wrap64 (((pc s i e).length : Int) - 1) = e - 1 - i := by rw [w64 (by omega) (by omega)]; omega
    have nb : ¬ IsBl (bt s (e - 1)) := by
      have := prim_last h hk h0 (e - 1) (by omega) (by omega)
      unfold NumCh at this
      unfold IsBl
      omega
    refine Ev.step (fun k => by rw [vCP_.l0]) (Ev.pos (by omega) ?_)
    rw [w, pc_rd s i e (e - 1) h0 (by omega) (by omega)]
    refine Ev.pos (by omega) (Ev.pos (by omega) (Ev.bd (ws_f _) ?_))
    rw [decide_eq_false nb]
    exact Ev.neg Bool.false_ne_true (prim_j1 s hs h hk h0 h1 g1)
  | succ d ih =>
    intro e g0 g1 gd hq
    have hl := pc_len s i e h0 (by omega) g1
    have w : wrap64 (((pc s i e).length : Int) - 1) = e - 1 - i := by rw [w64 (by omega) (by omega)]; omega
    refine Ev.step (fun k => by rw [vCP_.l0]) (Ev.pos (by omega) ?_)
    rw [w, pc_rd s i e (e - 1) h0 (by omega) (by omega)]
    refine Ev.pos (by omega) (Ev.pos (by omega) (Ev.bd (ws_f _) ?_))
    rw [decide_eq_true (hq (e - 1) (by omega) (by omega))]
    refine Ev.pos rfl (Ev.pos (by omega) ?_)
    rw [show e - 1 - i = e - i - 1 by omega, pc_take s i e h0 (by omega)]
    exact ih (e - 1) (by omega) (by omega) (by omega) (fun q h3 h4 => hq q h3 (by omega))
end Go.Proofs.YtmneeighbkcadaaDoor.JFnJpLength
