/- blockEndConfig at an array or an object of a JSON text: it ends behind its closing byte; no condition beside those that each theorem states. -/
import Derived.Test.YtpdohioobbfncaaGreatDoorFSFnJpWildStop
import Derived.Test.YtpdohioobbfncaaGreatDoorJAFnJpWildStop
namespace Go.Proofs.YtpdohioobbfncaaGreatDoor.JFnJpWildStop
open Go.RowKit Go.Proofs.YtpdohioobbfncaaGreatDoor.PFnJpWildStop Go.Proofs.YtpdohioobbfncaaGreatDoorW.PrintWords Go.Proofs.YtpdohioobbfncaaGreatDoorW.PrintLast Go.Proofs.YtpdohioobbfncaaGreatDoorW.PrintMore
set_option linter.unusedSimpArgs false
set_option linter.unusedVariables false
/-- A piece of a text, as bytes, from a place on. -/
structure Win (s : ByteArray) (i b : Int) (u : List Int) : Prop where
  lo : 0 ≤ i
  le : i ≤ b
  hi : b ≤ s.size
  small : (s.size : Int) ≤ 2147483647
  len : (u.length : Int) = b - i
  at_ : ∀ p : Int, i ≤ p → p < b → rd u (p - i) = bt s p
theorem Win.drop {s : ByteArray} {i b : Int} {u : List Int} (h : Win s i b u) (p : Int) (h0 : i ≤ p) (h1 : p ≤ b) : Win s p b (u.drop (p - i).toNat) := by
  obtain ⟨a1, a2, a3, a4, a5, a6⟩ := h
  refine ⟨by omega, h1, a3, a4, by rw [List.length_drop]; omega, fun q h2 h3 => ?_⟩
  rw [← a6 q (by omega) h3]
  have := rd_drop u (p - i).toNat (q - p).toNat
  rw [show (((q - p).toNat : Nat) : Int) = q - p by omega] at this
  rw [this]
  congr 1
  omega
theorem rng_bt (s : ByteArray) (i : Int) : 0 ≤ bt s i ∧ bt s i < 256 := by
  unfold bt
  by_cases h : i.toNat < s.size
  · rw [dif_pos h]
    exact ⟨by omega, by have := (s[i.toNat]).toNat_lt; omega⟩
  · rw [dif_neg h]
    decide
theorem Win.rng {s : ByteArray} {i b : Int} {u : List Int} (h : Win s i b u) : ∀ q : Int, 0 ≤ rd u q ∧ rd u q < 256 := by
  intro q
  by_cases hq : q.toNat < u.length
  · have := h.at_ (i + q.toNat) (by omega) (by have := h.len; omega)
    rw [show i + ((q.toNat : Nat) : Int) - i = (q.toNat : Int) by omega] at this
    have e : rd u q = rd u (q.toNat : Int) := by unfold rd; rw [show ((q.toNat : Nat) : Int).toNat = q.toNat by omega]
    rw [e, this]
    exact rng_bt _ _
  · unfold rd
    rw [List.getD_eq_getElem?_getD, List.getElem?_eq_none (by omega)]
    decide
theorem bsl0 {l : List Int} {m : Nat} (h : rd l (m : Int) ≠ 92) : bsl l (m + 1) = 0 := by rw [bsl, if_neg h]
theorem bsl1 {l : List Int} {m : Nat} (h : rd l (m : Int) = 92) : bsl l (m + 1) = bsl l m + 1 := by rw [bsl, if_pos h]
theorem hex_ne {c : Int} (h : IsHex c) : c ≠ 34 ∧ c ≠ 92 := by unfold IsHex at h; omega
theorem str_ends {s : ByteArray} {a b : Int} {D : List Int} (hw : Win s a b D) {p j : Int} (h : StrT s p j) : ∀ m : Nat, j ≤ b → p = a + m → bsl D m % 2 = 0 →
    (∀ i : Nat, i < m → rd D (i : Int) = 34 → bsl D i % 2 = 1) → Ends D 34 (j - 1 - a).toNat := by
  have r : ∀ (m : Nat) (q : Int), q = a + m → q < b → rd D (m : Int) = bt s q := fun m q h1 h2 => by
    have := hw.at_ q (by omega) h2
    rwa [show q - a = (m : Int) by omega] at this
  have hlen := hw.len
  induction h with
  | done h c =>
    rename_i i
    intro m hj hp hb hn
    have e : (i + 1 - 1 - a).toNat = m := by omega
    rw [e]
    exact ⟨by omega, by rw [r m _ hp (by omega)]; exact c, hb, hn⟩
  | char h c1 c2 c3 t ih =>
    intro m hj hp hb hn
    have := t.lt
    have r0 : rd D (m : Int) ≠ 92 := by rw [r m _ hp (by omega)]; exact c2
    have r1 : rd D (m : Int) ≠ 34 := by rw [r m _ hp (by omega)]; exact c1
    refine ih (m + 1) hj (by omega) (by rw [bsl0 r0]) (fun i hi h34 => ?_)
    by_cases e : i = m
    · exact absurd h34 (e ▸ r1)
    · exact hn i (by omega) h34
  | esc h c c2 t ih =>
    intro m hj hp hb hn
    have := t.lt
    have r0 : rd D (m : Int) = 92 := by rw [r m _ hp (by omega)]; exact c
    have b1 := bsl1 r0
    refine ih (m + 2) hj (by omega) ?_ (fun i hi h34 => ?_)
    · by_cases c9 : rd D ((m + 1 : Nat) : Int) = 92
      · rw [bsl1 c9, b1]; omega
      · rw [bsl0 c9]
    · by_cases e : i = m
      · rw [e, r0] at h34; omega
      · by_cases e2 : i = m + 1
        · rw [e2, b1]; omega
        · exact hn i (by omega) h34
  | uni h c c2 c3 t ih =>
    rename_i i0 j0
    intro m hj hp hb hn
    have := t.lt
    have r0 : rd D (m : Int) = 92 := by rw [r m _ hp (by omega)]; exact c
    have r1 : rd D ((m + 1 : Nat) : Int) = 117 := by rw [r (m + 1) (i0 + 1) (by omega) (by omega)]; exact c2
    have rx : ∀ q : Nat, m + 2 ≤ q → q < m + 6 → rd D (q : Int) ≠ 34 ∧ rd D (q : Int) ≠ 92 := fun q h1 h2 => by
      rw [r q (a + q) rfl (by omega)]
      exact hex_ne (c3 _ (by omega) (by omega))
    refine ih (m + 6) hj (by omega) (by rw [bsl0 (rx (m + 5) (by omega) (by omega)).2]) (fun i hi h34 => ?_)
    by_cases e : i < m
    · exact hn i e h34
    by_cases e0 : i = m
    · rw [e0, r0] at h34; omega
    by_cases e1 : i = m + 1
    · rw [e1, r1] at h34; omega
    exact absurd h34 (rx i (by omega) hi).1
open Classical in
/-- A string's end, and whether a backslash stands in it. -/
theorem str_end {s : ByteArray} {a b : Int} {D : List Int} (hw : Win s a b D) {j : Int} (h : StrT s a j) (hj : j ≤ b) (c1 c2 : Bool) (c3 : Int) : Ev (fun k => sEC_.f k c1 c2 c3 D 34) (j - a, decide (Esc D (j - 1 - a).toNat)) := by
  have h1 := h.lt
  have he := str_ends hw h 0 hj (by omega) rfl (fun i hi => by omega)
  have e := end_ev c1 c2 c3 D (by have := hw.len; have := hw.hi; have := hw.small; have := hw.lo; omega) hw.rng 34 (by omega) (by omega) (by omega) _ he
  refine Ev.eq ?_ e
  rw [Prod.mk.injEq]
  exact ⟨by omega, rfl⟩
/-- Where the search for a block's end stands: its two bytes, the level, the place; and what it tells at last. -/
def BAt (i : Int) (u : List Int) (o c lev p : Int) (r : Int) : Prop := Ev (fun k => bEC_.l1 k u o c lev (p - i) (u.length : Int) false false 0) r
section
variable {s : ByteArray} {i b : Int} {u : List Int} (hw : Win s i b u) {o c : Int} (hoc : o = 91 ∧ c = 93 ∨ o = 123 ∧ c = 125) {lev p r : Int}
include hw hoc
theorem b_l0 (h0 : i ≤ p) (h1 : p < b) (h : BAt i u o c lev p r) : Ev (fun k => bEC_.l0 k u o c lev (p - i) (u.length : Int) false false 0) r := by
  have _h := hoc
  have := hw.len
  exact Ev.step (fun k => by rw [bEC_.l0]) (Ev.pos (by omega) h)
theorem b_j2 (h0 : i ≤ p) (h1 : p < b) (hc : 32 < bt s p ∧ (bt s p ≤ 92 ∨ bt s p = o ∨ bt s p = c)) (h : Ev (fun k => bEC_.j2 k u o c lev (p - i) (u.length : Int) false false 0) r) : BAt i u o c lev p r := by
  have _h := hoc
  have := hw.len
  have hr := hw.at_ p h0 h1
  obtain ⟨e1, e2⟩ := hc
  by_cases c1 : bt s p > 92
  · by_cases c2 : bt s p = o
    · exact Ev.step (fun k => by rw [bEC_.l1]) (Ev.pos (by omega) (Ev.pos (by omega) (Ev.pos (by omega) (Ev.neg (by omega) (Ev.pos (by omega) (Ev.pos (by omega) h))))))
    · exact Ev.step (fun k => by rw [bEC_.l1]) (Ev.pos (by omega) (Ev.pos (by omega) (Ev.pos (by omega) (Ev.neg (by omega) (Ev.pos (by omega) (Ev.neg (by omega) (Ev.pos (by omega) h)))))))
  · exact Ev.step (fun k => by rw [bEC_.l1]) (Ev.pos (by omega) (Ev.pos (by omega) (Ev.pos (by omega) (Ev.neg (by omega) (Ev.neg (by omega) h)))))
theorem b_j3 (h0 : i ≤ p) (h1 : p < b) (hc : bt s p ≠ 34 ∧ bt s p ≠ 39) (h : Ev (fun k => bEC_.j3 k u o c lev (p - i) (u.length : Int) (rd u (p - i)) false false false 0) r) : Ev (fun k => bEC_.j2 k u o c lev (p - i) (u.length : Int) false false 0) r := by
  have _h := hoc
  have := hw.len
  have hr := hw.at_ p h0 h1
  obtain ⟨e1, e2⟩ := hc
  refine Ev.step (fun k => by rw [bEC_.j2]) (Ev.neg (by omega) (Ev.pos (by omega) (Ev.pos (by omega) (Ev.neg (by omega) ?_))))
  rw [show (rd u (p - i) == 39) = false by rw [hr]; simp [e2]]
  exact h
theorem b_other (h0 : i ≤ p) (h1 : p + 1 < b) (hc : bt s p ≠ 34 ∧ bt s p ≠ 39 ∧ bt s p ≠ o ∧ bt s p ≠ c) (h : BAt i u o c lev (p + 1) r) : BAt i u o c lev p r := by
  have hl := hw.len
  have hr := hw.at_ p h0 (by omega)
  have hs := hw.small
  have hh := hw.hi
  have hlo := hw.lo
  have hwr : wrap64 (p - i + 1) = p + 1 - i := by rw [w64 (by omega) (by omega)]; omega
  obtain ⟨e1, e2, e3, e4⟩ := hc
  by_cases c1 : bt s p ≤ 32
  · refine Ev.step (fun k => by rw [bEC_.l1]) (Ev.pos (by omega) (Ev.pos (by omega) (Ev.pos (by omega) (Ev.pos (by omega) ?_))))
    rw [hwr]; exact h
  by_cases c2 : bt s p > 92
  · refine Ev.step (fun k => by rw [bEC_.l1]) (Ev.pos (by omega) (Ev.pos (by omega) (Ev.pos (by omega) (Ev.neg (by omega) (Ev.pos (by omega) (Ev.neg (by omega) (Ev.neg (by omega) ?_)))))))
    rw [hwr]; exact h
  · refine b_j2 hw hoc h0 (by omega) ⟨by omega, .inl (by omega)⟩ (b_j3 hw hoc h0 (by omega) ⟨e1, e2⟩ ?_)
    refine Ev.step (fun k => by rw [bEC_.j3]) (Ev.neg Bool.false_ne_true (Ev.neg (by omega) (Ev.neg (by omega) ?_)))
    rw [hwr]
    exact b_l0 hw hoc (by omega) (by omega) h
theorem b_open (h0 : i ≤ p) (h1 : p + 1 < b) (hv : 0 ≤ lev ∧ lev ≤ 2147483647) (hc : bt s p = o) (h : BAt i u o c (lev + 1) (p + 1) r) : BAt i u o c lev p r := by
  have hl := hw.len
  have hr := hw.at_ p h0 (by omega)
  have hs := hw.small
  have hh := hw.hi
  have hlo := hw.lo
  have hwr : wrap64 (p - i + 1) = p + 1 - i := by rw [w64 (by omega) (by omega)]; omega
  refine b_j2 hw hoc h0 (by omega) ⟨by omega, .inr (.inl hc)⟩ (b_j3 hw hoc h0 (by omega) ⟨by omega, by omega⟩ ?_)
  refine Ev.step (fun k => by rw [bEC_.j3]) (Ev.neg Bool.false_ne_true (Ev.pos (by omega) ?_))
  rw [hwr, w64 (x := lev + 1) (by omega) (by omega)]
  exact b_l0 hw hoc (by omega) (by omega) h
theorem b_close (h0 : i ≤ p) (h1 : p + 1 < b) (hv : 2 ≤ lev ∧ lev ≤ 2147483647) (hc : bt s p = c) (h : BAt i u o c (lev - 1) (p + 1) r) : BAt i u o c lev p r := by
  have hl := hw.len
  have hr := hw.at_ p h0 (by omega)
  have hs := hw.small
  have hh := hw.hi
  have hlo := hw.lo
  have hwr : wrap64 (p - i + 1) = p + 1 - i := by rw [w64 (by omega) (by omega)]; omega
  have hwl : wrap64 (lev - 1) = lev - 1 := w64 (by omega) (by omega)
  refine b_j2 hw hoc h0 (by omega) ⟨by omega, .inr (.inr hc)⟩ (b_j3 hw hoc h0 (by omega) ⟨by omega, by omega⟩ ?_)
  refine Ev.step (fun k => by rw [bEC_.j3]) (Ev.neg Bool.false_ne_true (Ev.neg (by omega) (Ev.pos (by omega) (Ev.neg (by omega) ?_))))
  rw [hwr, hwl]
  exact b_l0 hw hoc (by omega) (by omega) h
theorem b_end (h0 : i ≤ p) (h1 : p < b) (hc : bt s p = c) : BAt i u o c 1 p (p + 1 - i) := by
  have hl := hw.len
  have hr := hw.at_ p h0 (by omega)
  have hs := hw.small
  have hh := hw.hi
  have hlo := hw.lo
  have hwr : wrap64 (p - i + 1) = p + 1 - i := by rw [w64 (by omega) (by omega)]; omega
  refine b_j2 hw hoc h0 (by omega) ⟨by omega, .inr (.inr hc)⟩ (b_j3 hw hoc h0 (by omega) ⟨by omega, by omega⟩ ?_)
  refine Ev.step (fun k => by rw [bEC_.j3]) (Ev.neg Bool.false_ne_true (Ev.neg (by omega) (Ev.pos (by omega) (Ev.pos (by rw [w64 (by omega) (by omega)]; rfl) ?_))))
  rw [hwr]
  exact Ev.now _
theorem b_str {q : Int} (h0 : i ≤ p) (h1 : q < b) (hc : bt s p = 34) (t : StrT s (p + 1) q) (h : BAt i u o c lev q r) : BAt i u o c lev p r := by
  have t1 := t.lt
  have hl := hw.len
  have hr := hw.at_ p h0 (by omega)
  have hs := hw.small
  have hh := hw.hi
  have hlo := hw.lo
  have hwr : wrap64 (p - i + 1) = p + 1 - i := by rw [w64 (by omega) (by omega)]; omega
  have e := str_end (hw.drop (p + 1) (by omega) (by omega)) t (by omega) false false 0
  refine b_j2 hw hoc h0 (by omega) ⟨by omega, .inl (by omega)⟩ ?_
  refine Ev.step (fun k => by rw [bEC_.j2]) (Ev.neg (by omega) (Ev.pos (by omega) (Ev.pos (by omega) (Ev.pos (by omega) ?_))))
  rw [show (rd u (p - i) == 34) = true from beq_iff_eq.2 (by omega)]
  refine Ev.step (fun k => by rw [bEC_.j3]) (Ev.pos rfl (Ev.pos (by omega) (Ev.pos (by omega) (Ev.neg (by omega) ?_))))
  refine Ev.step (fun k => by rw [bEC_.j4]) (Ev.neg Bool.false_ne_true ?_)
  rw [hwr, show rd u (p - i) = 34 by omega]
  refine Ev.pos (by omega) (Ev.pos (by omega) ?_)
  refine Ev.bind e ?_
  refine Ev.neg (by show ¬ (q - (p + 1) = -1); omega) ?_
  show Ev (fun k => bEC_.l0 k u o c lev (wrap64 (wrap64 (p - i + (q - (p + 1))) + 1)) (u.length : Int) false false 0) r
  rw [show p - i + (q - (p + 1)) = q - 1 - i by omega, w64 (x := q - 1 - i) (by omega) (by omega), w64 (by omega) (by omega), show q - 1 - i + 1 = q - i by omega]
  exact b_l0 hw hoc (by omega) h1 h
end
theorem glide {P : Int → Prop} {a b : Int} (hab : a ≤ b) (h : ∀ p, a ≤ p → p < b → P (p + 1) → P p) (hb : P b) : P a := by
  have go : ∀ (d : Nat) (p : Int), a ≤ p → p ≤ b → b - p ≤ d → P p := by
    intro d
    induction d with
    | zero =>
      intro p h0 h1 hd
      obtain rfl : p = b := by omega
      exact hb
    | succ d ih =>
      intro p h0 h1 hd
      by_cases c : p = b
      · exact c ▸ hb
      · exact h p h0 (by omega) (ih (p + 1) (by omega) (by omega) (by omega))
  exact go (b - a).toNat a (Int.le_refl _) hab (by omega)
section
variable {s : ByteArray} {i b : Int} {u : List Int} (hw : Win s i b u) {o c : Int} (hoc : o = 91 ∧ c = 93 ∨ o = 123 ∧ c = 125) {r : Int}
include hw hoc
theorem b_blk {lev x y : Int} (h0 : i ≤ x) (hy : y < b) (hb : Blk s x y) (h : BAt i u o c lev y r) : BAt i u o c lev x r := by
  refine glide (P := fun p => BAt i u o c lev p r) hb.le (fun p h1 h2 h3 => b_other hw hoc (by omega) (by omega) ?_ h3) h
  have := hb.all p h1 h2
  unfold IsBl at this
  omega
/-- A byte that may be a bracket of the other kind. -/
theorem b_skip {lev p : Int} (h0 : i ≤ p) (h1 : p + 1 < b) (hc : bt s p = 91 ∨ bt s p = 93 ∨ bt s p = 123 ∨ bt s p = 125) (hn : bt s p ≠ o ∧ bt s p ≠ c) (h : BAt i u o c lev (p + 1) r) : BAt i u o c lev p r :=
  b_other hw hoc h0 h1 ⟨by omega, by omega, hn.1, hn.2⟩ h
/-- A value within a block is passed, at the level at which it stands. -/
theorem b_val {kd x y : Int} {ns : List Sp} {ks : List Pl} (h : JV s kd x y ns ks) : i ≤ x → x < y → y < b → ∀ lev : Int, 1 ≤ lev → lev ≤ x → BAt i u o c lev y r → BAt i u o c lev x r := by
  have opn : ∀ lev p : Int, i ≤ p → p + 1 < b → 1 ≤ lev → lev ≤ 2147483646 → (bt s p = 91 ∨ bt s p = 123) → ∃ l2, (l2 = lev ∨ l2 = lev + 1) ∧ (BAt i u o c l2 (p + 1) r → BAt i u o c lev p r) ∧ (∀ q : Int, i ≤ q → q + 1 < b → bt s q = bt s p + 2 → BAt i u o c lev (q + 1) r → BAt i u o c l2 q r) := by
    intro lev p h0 h1 h2 h3 hc
    by_cases e : bt s p = o
    · exact ⟨lev + 1, .inr rfl, fun h => b_open hw hoc h0 h1 ⟨by omega, by omega⟩ e h, fun q g0 g1 g2 g => b_close hw hoc g0 g1 ⟨by omega, by omega⟩ (by omega) (by rwa [show lev + 1 - 1 = lev by omega])⟩
    · exact ⟨lev, .inl rfl, fun h => b_skip hw hoc h0 h1 (by omega) ⟨e, by omega⟩ h, fun q g0 g1 g2 g => b_skip hw hoc g0 g1 (by omega) ⟨by omega, by omega⟩ g⟩
  have small := hw.small
  have hbi := hw.hi
  have hlo := hw.lo
  refine jv_ind (P := fun kd x y ns ks => i ≤ x → x < y → y < b → ∀ lev : Int, 1 ≤ lev → lev ≤ x → BAt i u o c lev y r → BAt i u o c lev x r)
    (Q := fun x y ks => x < y ∧ bt s (y - 1) = 93 ∧ (i ≤ x → y ≤ b → ∀ l2 : Int, 1 ≤ l2 → l2 ≤ x → BAt i u o c l2 (y - 1) r → BAt i u o c l2 x r))
    (R := fun x y ns ks => x < y ∧ bt s (y - 1) = 125 ∧ (i ≤ x → y ≤ b → ∀ l2 : Int, 1 ≤ l2 → l2 ≤ x → BAt i u o c l2 (y - 1) r → BAt i u o c l2 x r)) ?_ ?_ ?_ ?_ ?_ ?_ ?_ h
  · intro kd x y h h0 h1 h2 lev g1 g2 ha
    by_cases ck : kd < 4
    · refine glide (P := fun p => BAt i u o c lev p r) (Int.le_of_lt h1) (fun p h3 h4 h5 => b_other hw hoc (by omega) (by omega) ?_ h5) ha
      have : (97 ≤ bt s p ∧ bt s p ≤ 122) ∨ NumCh (bt s p) := by
        by_cases c3 : kd < 3
        · exact .inl (lit_ch h c3 (by omega) p h3 h4)
        · exact .inr (num_ch (jv_num h (by omega)) p h3 h4)
      unfold NumCh at this
      omega
    · cases h with
      | null _ => omega
      | fals _ => omega
      | tru _ => omega
      | num _ _ => omega
      | str hc t => exact b_str hw hoc h0 h2 hc t ha
      | arr0 hc hb h3 h4 =>
        have := hb.le
        obtain ⟨l2, hl2, e1, e2⟩ := opn lev x h0 (by omega) g1 (by omega) (.inl hc)
        exact e1 (b_blk hw hoc (by omega) (by omega) hb (e2 _ (by omega) (by omega) (by omega) ha))
      | obj0 hc hb h3 h4 =>
        have := hb.le
        obtain ⟨l2, hl2, e1, e2⟩ := opn lev x h0 (by omega) g1 (by omega) (.inr hc)
        exact e1 (b_blk hw hoc (by omega) (by omega) hb (e2 _ (by omega) (by omega) (by omega) ha))
      | arr _ _ h2 => nomatch h2
      | obj _ _ h2 => nomatch h2
  · intro x z y ks h hb hje ih h0 h1 h2 lev g1 g2 ha
    have := hb.le
    have := ih.1
    have hc : bt s x = 91 := by cases h <;> assumption
    obtain ⟨l2, hl2, e1, e2⟩ := opn lev x h0 (by omega) g1 (by omega) (.inl hc)
    exact e1 (b_blk hw hoc (by omega) (by omega) hb (ih.2.2 (by omega) (by omega) l2 (by omega) (by omega) (e2 (y - 1) (by omega) (by omega) (by rw [ih.2.1]; omega) (by rwa [show y - 1 + 1 = y by omega]))))
  · intro x z y ns ks h hb hjm ih h0 h1 h2 lev g1 g2 ha
    have := hb.le
    have := ih.1
    have hc : bt s x = 123 := by cases h <;> assumption
    obtain ⟨l2, hl2, e1, e2⟩ := opn lev x h0 (by omega) g1 (by omega) (.inr hc)
    exact e1 (b_blk hw hoc (by omega) (by omega) hb (ih.2.2 (by omega) (by omega) l2 (by omega) (by omega) (e2 (y - 1) (by omega) (by omega) (by rw [ih.2.1]; omega) (by rwa [show y - 1 + 1 = y by omega]))))
  · intro x a z kd ns ks hl h ih hb h3 h4
    have := hb.le
    refine ⟨by omega, by rwa [show z + 1 - 1 = z by omega], fun h0 h2 l2 g2 g3 ha => ?_⟩
    rw [show z + 1 - 1 = z by omega] at ha
    exact ih h0 hl.1 (by omega) l2 g2 g3 (b_blk hw hoc (by omega) (by omega) hb ha)
  · intro x a z c2 y kd ns ks rr hl h ih hb h3 h4 hb2 _ ih2
    have := hb.le
    have := hb2.le
    have := ih2.1
    refine ⟨by omega, ih2.2.1, fun h0 h2 l2 g2 g3 ha => ?_⟩
    exact ih h0 hl.1 (by omega) l2 g2 g3 (b_blk hw hoc (by omega) (by omega) hb (b_other hw hoc (by omega) (by omega) (by omega) (b_blk hw hoc (by omega) (by omega) hb2 (ih2.2.2 (by omega) h2 l2 g2 (by omega) ha))))
  · intro x a z c2 d e kd ns ks g t k1 h3 h4 k2 hl h ih k3 h5 h6
    have := t.lt
    have := k1.le
    have := k2.le
    have := k3.le
    refine ⟨by omega, by rwa [show e + 1 - 1 = e by omega], fun h0 h2 l2 g2 g3 ha => ?_⟩
    rw [show e + 1 - 1 = e by omega] at ha
    exact b_str hw hoc h0 (by omega) g.2 t (b_blk hw hoc (by omega) (by omega) k1 (b_other hw hoc (by omega) (by omega) (by omega) (b_blk hw hoc (by omega) (by omega) k2
      (ih (by omega) hl.1 (by omega) l2 g2 (by omega) (b_blk hw hoc (by omega) (by omega) k3 ha)))))
  · intro x a z c2 d e f y kd ns ns2 ks ks2 g t k1 h3 h4 k2 hl h ih k3 h5 h6 k4 _ ih2
    have := t.lt
    have := k1.le
    have := k2.le
    have := k3.le
    have := k4.le
    have := ih2.1
    refine ⟨by omega, ih2.2.1, fun h0 h2 l2 g2 g3 ha => ?_⟩
    exact b_str hw hoc h0 (by omega) g.2 t (b_blk hw hoc (by omega) (by omega) k1 (b_other hw hoc (by omega) (by omega) (by omega) (b_blk hw hoc (by omega) (by omega) k2
      (ih (by omega) hl.1 (by omega) l2 g2 (by omega) (b_blk hw hoc (by omega) (by omega) k3 (b_other hw hoc (by omega) (by omega) (by omega) (b_blk hw hoc (by omega) (by omega) k4 (ih2.2.2 (by omega) h2 l2 g2 (by omega) ha))))))))
/-- The members or elements of a container, up to its closing byte. -/
theorem b_in {kd x y : Int} {ns : List Sp} {ks : List Pl} (h : JV s kd x y ns ks) (hk : kd = 5 ∨ kd = 6) (hx : i ≤ x) (hxy : x < y) (hy : y ≤ b) : bt s (y - 1) = (if kd = 5 then 93 else 125) ∧ ∀ l2 : Int, 1 ≤ l2 → l2 ≤ x + 1 → BAt i u o c l2 (y - 1) r → BAt i u o c l2 (x + 1) r := by
  have P : ∀ {kd x y : Int} {ns : List Sp} {ks : List Pl}, JV s kd x y ns ks → i ≤ x → x < y → y < b → ∀ lev : Int, 1 ≤ lev → lev ≤ x → BAt i u o c lev y r → BAt i u o c lev x r := fun h => b_val hw hoc h
  have small := hw.small
  have hbi := hw.hi
  have hlo := hw.lo
  refine jv_ind (P := fun kd x y ns ks => (kd = 5 ∨ kd = 6) → i ≤ x → x < y → y ≤ b → bt s (y - 1) = (if kd = 5 then 93 else 125) ∧ ∀ l2 : Int, 1 ≤ l2 → l2 ≤ x + 1 → BAt i u o c l2 (y - 1) r → BAt i u o c l2 (x + 1) r)
    (Q := fun x y ks => x < y ∧ bt s (y - 1) = 93 ∧ (i ≤ x → y ≤ b → ∀ l2 : Int, 1 ≤ l2 → l2 ≤ x → BAt i u o c l2 (y - 1) r → BAt i u o c l2 x r))
    (R := fun x y ns ks => x < y ∧ bt s (y - 1) = 125 ∧ (i ≤ x → y ≤ b → ∀ l2 : Int, 1 ≤ l2 → l2 ≤ x → BAt i u o c l2 (y - 1) r → BAt i u o c l2 x r)) ?_ ?_ ?_ ?_ ?_ ?_ ?_ h hk hx hxy hy
  · intro kd x y h hk h0 h1 h2
    cases h with
    | null _ => omega
    | fals _ => omega
    | tru _ => omega
    | num _ _ => omega
    | str _ _ => omega
    | arr0 hc hb h3 h4 =>
      have := hb.le
      rename_i z
      refine ⟨by rw [show z + 1 - 1 = z by omega]; exact h4, fun l2 g1 g2 ha => ?_⟩
      rw [show z + 1 - 1 = z by omega] at ha
      exact b_blk hw hoc (by omega) (by omega) hb ha
    | obj0 hc hb h3 h4 =>
      have := hb.le
      rename_i z
      refine ⟨by rw [show z + 1 - 1 = z by omega]; exact h4, fun l2 g1 g2 ha => ?_⟩
      rw [show z + 1 - 1 = z by omega] at ha
      exact b_blk hw hoc (by omega) (by omega) hb ha
    | arr _ _ h2 => nomatch h2
    | obj _ _ h2 => nomatch h2
  · intro x z y ks h hb _ ih _ h0 h1 h2
    have := hb.le
    have := ih.1
    exact ⟨ih.2.1, fun l2 g1 g2 ha => b_blk hw hoc (by omega) (by omega) hb (ih.2.2 (by omega) h2 l2 g1 (by omega) ha)⟩
  · intro x z y ns ks h hb _ ih _ h0 h1 h2
    have := hb.le
    have := ih.1
    exact ⟨ih.2.1, fun l2 g1 g2 ha => b_blk hw hoc (by omega) (by omega) hb (ih.2.2 (by omega) h2 l2 g1 (by omega) ha)⟩
  · intro x a z kd ns ks hl h _ hb h3 h4
    have := hb.le
    refine ⟨by omega, by rwa [show z + 1 - 1 = z by omega], fun h0 h2 l2 g2 g3 ha => ?_⟩
    rw [show z + 1 - 1 = z by omega] at ha
    exact P h h0 hl.1 (by omega) l2 g2 g3 (b_blk hw hoc (by omega) (by omega) hb ha)
  · intro x a z c2 y kd ns ks rr hl h _ hb h3 h4 hb2 _ ih2
    have := hb.le
    have := hb2.le
    have := ih2.1
    refine ⟨by omega, ih2.2.1, fun h0 h2 l2 g2 g3 ha => ?_⟩
    exact P h h0 hl.1 (by omega) l2 g2 g3 (b_blk hw hoc (by omega) (by omega) hb (b_other hw hoc (by omega) (by omega) (by omega) (b_blk hw hoc (by omega) (by omega) hb2 (ih2.2.2 (by omega) h2 l2 g2 (by omega) ha))))
  · intro x a z c2 d e kd ns ks g t k1 h3 h4 k2 hl h _ k3 h5 h6
    have := t.lt
    have := k1.le
    have := k2.le
    have := k3.le
    refine ⟨by omega, by rwa [show e + 1 - 1 = e by omega], fun h0 h2 l2 g2 g3 ha => ?_⟩
    rw [show e + 1 - 1 = e by omega] at ha
    exact b_str hw hoc h0 (by omega) g.2 t (b_blk hw hoc (by omega) (by omega) k1 (b_other hw hoc (by omega) (by omega) (by omega) (b_blk hw hoc (by omega) (by omega) k2
      (P h (by omega) hl.1 (by omega) l2 g2 (by omega) (b_blk hw hoc (by omega) (by omega) k3 ha)))))
  · intro x a z c2 d e f y kd ns ns2 ks ks2 g t k1 h3 h4 k2 hl h _ k3 h5 h6 k4 _ ih2
    have := t.lt
    have := k1.le
    have := k2.le
    have := k3.le
    have := k4.le
    have := ih2.1
    refine ⟨by omega, ih2.2.1, fun h0 h2 l2 g2 g3 ha => ?_⟩
    exact b_str hw hoc h0 (by omega) g.2 t (b_blk hw hoc (by omega) (by omega) k1 (b_other hw hoc (by omega) (by omega) (by omega) (b_blk hw hoc (by omega) (by omega) k2
      (P h (by omega) hl.1 (by omega) l2 g2 (by omega) (b_blk hw hoc (by omega) (by omega) k3 (b_other hw hoc (by omega) (by omega) (by omega) (b_blk hw hoc (by omega) (by omega) k4 (ih2.2.2 (by omega) h2 l2 g2 (by omega) ha))))))))
end
/-- The end of an array's or an object's block, from its opening byte on. -/
theorem block_ev {s : ByteArray} {i b : Int} {u : List Int} (hw : Win s i b u) {kd j : Int} {ns : List Sp} {ks : List Pl} (h : JV s kd i j ns ks) (hij : i + 1 < j) (hj : j ≤ b) :
    (kd = 5 → Ev (fun k => bEC_.f k false false 0 u 91 93) (j - i)) ∧ (kd = 6 → Ev (fun k => bEC_.f k false false 0 u 123 125) (j - i)) := by
  have all : ∀ o c : Int, (hoc : o = 91 ∧ c = 93 ∨ o = 123 ∧ c = 125) → (hk : kd = 5 ∨ kd = 6) → bt s i = o → (if kd = 5 then (93 : Int) else 125) = c → Ev (fun k => bEC_.f k false false 0 u o c) (j - i) := by
    intro o c hoc hk ho hc
    obtain ⟨e1, e2⟩ := b_in hw hoc (r := j - i) h hk (Int.le_refl _) (by omega) hj
    unfold bEC_.f
    have st := b_l0 hw hoc (lev := 0) (p := i) (r := j - i) (Int.le_refl _) (by omega) (b_open hw hoc (Int.le_refl _) (by omega) ⟨by omega, by omega⟩ ho (e2 1 (by omega) (by have := hw.lo; omega) (by
      have := b_end hw hoc (p := j - 1) (by omega) (by omega) (by rw [e1]; exact hc)
      rwa [show j - 1 + 1 - i = j - i by omega] at this)))
    rwa [show i - i = (0 : Int) by omega] at st
  refine ⟨fun hk => ?_, fun hk => ?_⟩
  · subst hk
    exact all 91 93 (.inl ⟨rfl, rfl⟩) (.inl rfl) (by cases h <;> assumption) rfl
  · subst hk
    exact all 123 125 (.inr ⟨rfl, rfl⟩) (.inr rfl) (by cases h <;> assumption) rfl
end Go.Proofs.YtpdohioobbfncaaGreatDoor.JFnJpWildStop/- nextTokenConfig and tokenEnd at a value of a JSON text; no condition beside those that each theorem states. -/
namespace Go.Proofs.YtpdohioobbfncaaGreatDoor.JFnJpWildStop
open Go.RowKit Go.Proofs.YtpdohioobbfncaaGreatDoor.PFnJpWildStop Go.Proofs.YtpdohioobbfncaaGreatDoorW.PrintWords Go.Proofs.YtpdohioobbfncaaGreatDoorW.PrintLast Go.Proofs.YtpdohioobbfncaaGreatDoorW.PrintMore
set_option linter.unusedSimpArgs false
set_option linter.unusedVariables false
/-- The next byte that is no blank. -/
theorem next_ev {s : ByteArray} {i b : Int} {u : List Int} (hw : Win s i b u) {y : Int} (hb : Blk s i y) (hy : y < b) (hn : ¬ IsBl (bt s y)) (c1 c2 : Bool) (c3 : Int) : Ev (fun k => nTC_.f k c1 c2 c3 u) (y - i) := by
  obtain ⟨a1, a2, a3, a4, a5, a6⟩ := hw
  have h0 := hb.le
  unfold nTC_.f
  have go : Ev (fun k => nTC_.l0 k u (u.length : Int) (i - i)) (y - i) := by
    refine glide (P := fun p => i ≤ p → Ev (fun k => nTC_.l0 k u (u.length : Int) (p - i)) (y - i)) h0 (fun p h1 h2 h3 _ => ?_) (fun _ => ?_) (Int.le_refl _)
    · have hr := a6 p h1 (by omega)
      have hbl := hb.all p h1 h2
      have h4 := h3 (by omega)
      rw [show p + 1 - i = p - i + 1 by omega] at h4
      have hwr : wrap64 (p - i + 1) = p - i + 1 := w64 (by omega) (by omega)
      refine Ev.step (fun k => by rw [nTC_.l0]) (Ev.pos (by omega) (Ev.pos (by omega) (Ev.pos (by omega) ?_)))
      rw [hwr, hr]
      unfold IsBl at hbl
      by_cases c1 : bt s p = 32
      · exact Ev.pos c1 h4
      by_cases c2 : bt s p = 10
      · exact Ev.neg c1 (Ev.pos c2 h4)
      by_cases c3 : bt s p = 13
      · exact Ev.neg c1 (Ev.neg c2 (Ev.pos c3 h4))
      · exact Ev.neg c1 (Ev.neg c2 (Ev.neg c3 (Ev.pos (by omega) h4)))
    · have hr := a6 y h0 hy
      unfold IsBl at hn
      refine Ev.step (fun k => by rw [nTC_.l0]) (Ev.pos (by omega) (Ev.pos (by omega) (Ev.pos (by omega) ?_)))
      rw [hr]
      exact Ev.neg (by omega) (Ev.neg (by omega) (Ev.neg (by omega) (Ev.neg (by omega) (Ev.now _))))
  rwa [show i - i = (0 : Int) by omega] at go
theorem prim_ch {s : ByteArray} {kd i j : Int} {ns : List Sp} {ks : List Pl} (h : JV s kd i j ns ks) (hk : kd < 4) (h0 : 0 ≤ i) (q : Int) (h1 : i ≤ q) (h2 : q < j) : (97 ≤ bt s q ∧ bt s q ≤ 122) ∨ NumCh (bt s q) := by
  by_cases c : kd < 3
  · exact .inl (lit_ch h c h0 q h1 h2)
  · exact .inr (num_ch (jv_num h (by omega)) q h1 h2)
/-- The end of a number or a word. -/
theorem token_ev {s : ByteArray} {i b : Int} {u : List Int} (hw : Win s i b u) {kd j : Int} {ns : List Sp} {ks : List Pl} (h : JV s kd i j ns ks) (hk : kd < 4) (hij : i ≤ j) (hj : j ≤ b) (hf : j = b ∨ (j < b ∧ (IsBl (bt s j) ∨ bt s j = 44 ∨ bt s j = 93 ∨ bt s j = 125))) : Ev (fun k => tE_.f k u) (j - i) := by
  obtain ⟨a1, a2, a3, a4, a5, a6⟩ := hw
  unfold tE_.f
  have go : Ev (fun k => tE_.l0 k u u (u.length : Int) (i - i)) (j - i) := by
    refine glide (P := fun p => i ≤ p → Ev (fun k => tE_.l0 k u u (u.length : Int) (p - i)) (j - i)) hij (fun p h1 h2 h3 _ => ?_) (fun _ => ?_) (Int.le_refl _)
    · have hr := a6 p h1 (by omega)
      have hch := prim_ch h hk a1 p h1 h2
      have h4 := h3 (by omega)
      rw [show p + 1 - i = p - i + 1 by omega] at h4
      have hwr : wrap64 (p - i + 1) = p - i + 1 := w64 (by omega) (by omega)
      unfold NumCh at hch
      refine Ev.step (fun k => by rw [tE_.l0]) (Ev.pos (by omega) (Ev.pos (by omega) (Ev.pos (by omega) ?_)))
      rw [hwr, hr]
      exact Ev.neg (by omega) (Ev.neg (by omega) (Ev.neg (by omega) (Ev.neg (by omega) (Ev.neg (by omega) (Ev.neg (by omega) (Ev.neg (by omega) h4))))))
    · rcases hf with hf | ⟨hf, hc⟩
      · refine Ev.step (fun k => by rw [tE_.l0]) (Ev.neg (by omega) (Ev.eq (by omega) (Ev.now _)))
      · have hr := a6 j hij hf
        unfold IsBl at hc
        refine Ev.step (fun k => by rw [tE_.l0]) (Ev.pos (by omega) (Ev.pos (by omega) (Ev.pos (by omega) ?_)))
        rw [hr]
        have hi : ∀ {d : Prop} [Decidable d] {f : Nat → Option Int}, (¬ d → Ev f (j - i)) → Ev (fun k => if d then some (j - i) else f k) (j - i) := fun {d} _ {f} g => by
          by_cases hd : d
          · exact Ev.pos hd (Ev.now _)
          · exact Ev.neg hd (g hd)
        exact hi fun n1 => hi fun n2 => hi fun n3 => hi fun n4 => hi fun n5 => hi fun n6 => Ev.pos (by omega) (Ev.now _)
  rwa [show i - i = (0 : Int) by omega] at go
end Go.Proofs.YtpdohioobbfncaaGreatDoor.JFnJpWildStop