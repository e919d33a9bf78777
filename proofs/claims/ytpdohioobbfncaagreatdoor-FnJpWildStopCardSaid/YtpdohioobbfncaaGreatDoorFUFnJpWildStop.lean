/- What the escapes of a JSON text's string stand for is what the reference reads; no condition beside those that each theorem states. -/
import Derived.Test.YtpdohioobbfncaaGreatDoorJAFnJpWildStop
import Derived.Test.YtpdohioobbfncaaGreatDoorHECFnJpWildStop
import Derived.Test.YtpdohioobbfncaaGreatDoorHSAFnJpWildStop
import Derived.Lib.Bytes
namespace Go.Proofs.YtpdohioobbfncaaGreatDoor.JFnJpWildStop
open Go.RowKit Go.Proofs.YtpdohioobbfncaaGreatDoor.PFnJpWildStop Go.Proofs.YtpdohioobbfncaaGreatDoorW.PrintWords Go.Proofs.YtpdohioobbfncaaGreatDoorW.PrintLast Go.Proofs.YtpdohioobbfncaaGreatDoorW.PrintMore
set_option linter.unusedSimpArgs false
set_option linter.unusedVariables false
def hexv (c : Int) : Int := if c ≤ 57 then c - 48 else if c ≤ 70 then c - 55 else c - 87
theorem hexv_rng {c : Int} (h : IsHex c) : 0 ≤ hexv c ∧ hexv c < 16 := by
  unfold IsHex at h
  unfold hexv
  split
  · omega
  · split <;> omega
theorem hex_val {c : Int} (h : IsHex c) : Ev (fun k => hD_.f k c) (hexv c, true) := by
  unfold IsHex at h
  unfold hD_.f hexv
  by_cases c1 : c ≤ 57
  · rw [if_pos c1]
    refine Ev.pos (by omega) ?_
    rw [decide_eq_true c1]
    exact Ev.step (fun k => by rw [hD_.j0]) (Ev.pos rfl (Ev.eq (by rw [Prod.mk.injEq]; exact ⟨by omega, rfl⟩) (Ev.now _)))
  · rw [if_neg c1]
    refine Ev.pos (by omega) ?_
    rw [decide_eq_false c1]
    refine Ev.step (fun k => by rw [hD_.j0]) (Ev.neg Bool.false_ne_true ?_)
    by_cases c2 : c ≤ 70
    · rw [if_pos c2]
      exact Ev.neg (by omega) (Ev.step (fun k => by rw [hD_.j1]) (Ev.neg Bool.false_ne_true (Ev.pos (by omega) (Ev.pos c2 (Ev.eq (by rw [Prod.mk.injEq]; exact ⟨by omega, rfl⟩) (Ev.now _))))))
    · rw [if_neg c2]
      refine Ev.pos (by omega) ?_
      rw [decide_eq_true (show c ≤ 102 by omega)]
      exact Ev.step (fun k => by rw [hD_.j1]) (Ev.pos rfl (Ev.eq (by rw [Prod.mk.injEq]; exact ⟨by omega, rfl⟩) (Ev.now _)))
theorem h2I_val {c : Int} (h : IsHex c) : Ev (fun k => hI_.f k c) (hexv c) := by
  unfold IsHex at h
  unfold hI_.f hexv
  refine Ev.pos (by omega) ?_
  by_cases c1 : c ≤ 57
  · rw [if_pos c1, decide_eq_true c1]
    exact Ev.step (fun k => by rw [hI_.j0]) (Ev.pos rfl (Ev.eq (by omega) (Ev.now _)))
  · rw [if_neg c1, decide_eq_false c1]
    refine Ev.step (fun k => by rw [hI_.j0]) (Ev.neg Bool.false_ne_true (Ev.pos (by omega) ?_))
    by_cases c2 : c ≤ 70
    · rw [if_pos c2, decide_eq_true c2]
      exact Ev.step (fun k => by rw [hI_.j1]) (Ev.pos rfl (Ev.eq (by omega) (Ev.now _)))
    · rw [if_neg c2, decide_eq_false c2]
      exact Ev.step (fun k => by rw [hI_.j1]) (Ev.neg Bool.false_ne_true (Ev.pos (by omega) (Ev.pos (by omega) (Ev.eq (by omega) (Ev.now _)))))
/-- Four digits' number. -/
def num4 (a b c d : Int) : Int := hexv a * 4096 + hexv b * 256 + hexv c * 16 + hexv d
theorem num4_rng {a b c d : Int} (ha : IsHex a) (hb : IsHex b) (hc : IsHex c) (hd : IsHex d) : 0 ≤ num4 a b c d ∧ num4 a b c d ≤ 65535 := by
  have := hexv_rng ha; have := hexv_rng hb; have := hexv_rng hc; have := hexv_rng hd
  unfold num4
  omega
def uv (t : ByteArray) (p : Int) : Int := num4 (bt t (p + 2)) (bt t (p + 3)) (bt t (p + 4)) (bt t (p + 5))
theorem unit_val (t : ByteArray) (ht : (t.size : Int) ≤ 140737488351232) (p : Int) (h0 : 0 ≤ p) (h6 : p + 6 ≤ t.size) (c0 : bt t p = 92) (c1 : bt t (p + 1) = 117) (hx : ∀ q, p + 2 ≤ q → q < p + 6 → IsHex (bt t q)) : Ev (fun k => u_.f k t p) (uv t p, true) := by
  have x2 := hx (p + 2) (by omega) (by omega)
  have x3 := hx (p + 3) (by omega) (by omega)
  have x4 := hx (p + 4) (by omega) (by omega)
  have x5 := hx (p + 5) (by omega) (by omega)
  have r2 := hexv_rng x2; have r3 := hexv_rng x3; have r4 := hexv_rng x4; have r5 := hexv_rng x5
  have hw : wrap64 (p + 6) = p + 6 := w64 (by omega) (by omega)
  have one : ∀ (v m : Int) (r : Int × Bool), p + 2 ≤ m → m < p + 6 → 0 ≤ v → v ≤ 65536 → Ev (fun k => u_.l0 k t p (v * 16 + hexv (bt t m)) (m + 1)) r → Ev (fun k => u_.l0 k t p v m) r := by
    intro v m r h1 h2 h3 h4 h
    have hh := hexv_rng (hx m h1 h2)
    refine Ev.step (fun k => by rw [u_.l0]) (Ev.pos (by rw [hw]; omega) (Ev.pos (by omega) (Ev.pos (by omega) ?_)))
    refine Ev.bind (hex_val (hx m h1 h2)) ?_
    refine Ev.pos rfl ?_
    show Ev (fun k => u_.l0 k t p (wrap64 (wrap64 (v * 16) + hexv (bt t m))) (wrap64 (m + 1))) r
    rw [w64 (x := v * 16) (by omega) (by omega), w64 (by omega) (by omega), w64 (x := m + 1) (by omega) (by omega)]
    exact h
  unfold u_.f
  rw [w64 (x := (t.size : Int) - p) (by omega) (by omega), w64 (x := p + 1) (by omega) (by omega)]
  refine Ev.neg (by omega) (Ev.pos h0 (Ev.pos (by omega) (Ev.pos c0 (Ev.pos (by omega) (Ev.pos (by omega) ?_)))))
  rw [show (bt t (p + 1) != 117) = false by simp [c1]]
  refine Ev.step (fun k => by rw [u_.j0]) (Ev.neg Bool.false_ne_true ?_)
  rw [w64 (x := p + 2) (by omega) (by omega)]
  refine one _ _ _ (by omega) (by omega) (by omega) (by omega) (one _ _ _ (by omega) (by omega) (by omega) (by omega) ?_)
  rw [show p + 2 + 1 = p + 3 by omega, show p + 3 + 1 = p + 4 by omega]
  refine one _ _ _ (by omega) (by omega) (by omega) (by omega) (one _ _ _ (by omega) (by omega) (by omega) (by omega) ?_)
  rw [show p + 4 + 1 = p + 5 by omega]
  refine Ev.step (fun k => by rw [u_.l0]) (Ev.neg (by rw [hw]; omega) (Ev.eq ?_ (Ev.now _)))
  unfold uv num4
  rw [Prod.mk.injEq]
  exact ⟨by omega, rfl⟩
theorem w32_ {x : Int} (h0 : -2147483648 ≤ x) (h1 : x ≤ 2147483647) : wrap32 x = x := by unfold wrap32; omega
theorem single_val (l : List Int) (hl : 6 ≤ l.length) (h2 : IsHex (rd l 2)) (h3 : IsHex (rd l 3)) (h4 : IsHex (rd l 4)) (h5 : IsHex (rd l 5)) : Ev (fun k => dSUE_.f k l) (num4 (rd l 2) (rd l 3) (rd l 4) (rd l 5), true) := by
  have r2 := hexv_rng h2; have r3 := hexv_rng h3; have r4 := hexv_rng h4; have r5 := hexv_rng h5
  unfold dSUE_.f
  refine Ev.neg (by omega) (Ev.pos (by omega) (Ev.bind (h2I_val h2) (Ev.pos (by omega) (Ev.bind (h2I_val h3) (Ev.pos (by omega) (Ev.bind (h2I_val h4) (Ev.pos (by omega) (Ev.bind (h2I_val h5) ?_))))))))
  refine Ev.neg (by omega) (Ev.neg (by omega) (Ev.neg (by omega) (Ev.neg (by omega) (Ev.eq ?_ (Ev.now _)))))
  unfold num4
  rw [w64 (x := hexv (rd l 2) * 4096) (by omega) (by omega), w64 (x := hexv (rd l 3) * 256) (by omega) (by omega), w64 (x := hexv (rd l 4) * 16) (by omega) (by omega),
    w64 (x := hexv (rd l 2) * 4096 + hexv (rd l 3) * 256) (by omega) (by omega), w64 (x := hexv (rd l 2) * 4096 + hexv (rd l 3) * 256 + hexv (rd l 4) * 16) (by omega) (by omega), w64 (by omega) (by omega), w32_ (by omega) (by omega)]
def chr1 (v : Int) : Int := if 55296 ≤ v ∧ v ≤ 57343 then 65533 else v
theorem chr1_rng {v : Int} (h0 : 0 ≤ v) (h1 : v ≤ 65535) : okR (chr1 v) 6 := by
  unfold okR chr1
  split <;> omega
/-- An escape that stands alone. -/
theorem dec_one (l : List Int) (v : Int) (h0 : 0 ≤ v) (h1 : v ≤ 65535) (hs : Ev (fun k => dSUE_.f k l) (v, true)) (h6 : 6 ≤ l.length)
    (hn : 55296 ≤ v → v ≤ 56319 → (l.length < 8 ∨ rd l 6 ≠ 92 ∨ rd l 7 ≠ 117) ∨ ∃ u, Ev (fun k => dSUE_.f k (l.drop 6)) (u, true) ∧ ¬ (56320 ≤ u ∧ u ≤ 57343)) :
    Ev (fun k => dUE_.f k l) (chr1 v, 6) := by
  unfold dUE_.f
  refine Ev.bind hs (Ev.pos rfl ?_)
  unfold iUTFER_.f
  dsimp only
  by_cases c1 : 55296 ≤ v
  · by_cases c2 : v ≤ 57343
    · have hc : chr1 v = 65533 := if_pos ⟨c1, c2⟩
      rw [hc]
      refine Ev.bd (if_pos c1) ?_
      refine Ev.pos (decide_eq_true c2) ?_
      by_cases c3 : v ≥ 56320
      · exact Ev.pos c3 (Ev.now _)
      · refine Ev.neg c3 ?_
        have jt : Ev (fun k => dUE_.j0 k l v true) (65533, 6) := Ev.step (fun k => by rw [dUE_.j0]) (Ev.pos rfl (Ev.now _))
        have jf : (∃ u, Ev (fun k => dSUE_.f k (l.drop 6)) (u, true) ∧ ¬ (56320 ≤ u ∧ u ≤ 57343)) → Ev (fun k => dUE_.j0 k l v false) (65533, 6) := by
          rintro ⟨u, hu, hu2⟩
          refine Ev.step (fun k => by rw [dUE_.j0]) (Ev.neg Bool.false_ne_true (Ev.pos (by omega) (Ev.bind hu (Ev.pos rfl ?_))))
          by_cases c4 : u < 56320
          · exact Ev.pos c4 (Ev.now _)
          · exact Ev.neg c4 (Ev.pos (by show u > 57343; omega) (Ev.now _))
        by_cases c5 : (l.length : Int) < 8
        · exact Ev.pos c5 jt
        · refine Ev.neg c5 (Ev.pos (by omega) ?_)
          by_cases c6 : rd l 6 = 92
          · refine Ev.pos c6 (Ev.pos (by omega) ?_)
            by_cases c7 : rd l 7 = 117
            · rw [show (rd l 7 != 117) = false by simp [c7]]
              rcases hn c1 (by omega) with h | h
              · exact absurd c7 (by omega)
              · exact jf h
            · rw [show (rd l 7 != 117) = true by simp [c7]]
              exact jt
          · exact Ev.neg c6 jt
    · have hc : chr1 v = v := if_neg (by omega)
      rw [hc]
      refine Ev.bd (if_pos c1) ?_
      exact Ev.neg (by simp [c2]) (Ev.now _)
  · have hc : chr1 v = v := if_neg (by omega)
    rw [hc]
    refine Ev.bd (if_neg c1) ?_
    exact Ev.neg Bool.false_ne_true (Ev.now _)
/-- A pair. -/
theorem dec_two (l : List Int) (v u : Int) (h0 : 55296 ≤ v) (h1 : v ≤ 56319) (h2 : 56320 ≤ u) (h3 : u ≤ 57343) (hs : Ev (fun k => dSUE_.f k l) (v, true)) (h12 : 12 ≤ l.length)
    (c6 : rd l 6 = 92) (c7 : rd l 7 = 117) (hu : Ev (fun k => dSUE_.f k (l.drop 6)) (u, true)) :
    Ev (fun k => dUE_.f k l) (65536 + (v - 55296) * 1024 + (u - 56320), 12) := by
  unfold dUE_.f
  refine Ev.bind hs (Ev.pos rfl ?_)
  unfold iUTFER_.f
  dsimp only
  refine Ev.bd (if_pos h0) ?_
  refine Ev.pos (decide_eq_true (by omega)) (Ev.neg (by omega) (Ev.neg (by omega) (Ev.pos (by omega) (Ev.pos c6 (Ev.pos (by omega) ?_)))))
  rw [show (rd l 7 != 117) = false by simp [c7]]
  refine Ev.step (fun k => by rw [dUE_.j0]) (Ev.neg Bool.false_ne_true (Ev.pos (by omega) (Ev.bind hu (Ev.pos rfl (Ev.neg (by show ¬ u < 56320; omega) (Ev.neg (by show ¬ u > 57343; omega) ?_))))))
  unfold cUTFS_.f
  refine Ev.bd rfl (Ev.eq ?_ (Ev.now _))
  rw [Prod.mk.injEq]
  refine ⟨?_, rfl⟩
  rw [w32_ (x := v - 55296) (by omega) (by omega), w32_ (x := (v - 55296) * 1024) (by omega) (by omega), w32_ (x := 65536 + (v - 55296) * 1024) (by omega) (by omega), w32_ (x := u - 56320) (by omega) (by omega), w32_ (by omega) (by omega)]
/-- A character's bytes, as the reference writes them. -/
theorem utf_val (xs : List Int) (hx : (xs.length : Int) ≤ 140737488351232) (v : Int) (h0 : 0 ≤ v) (h1 : v ≤ 1114111) : Ev (fun k => aUTF_.f k xs v) (xs ++ encN (chr1 v)) := by
  have put : ∀ l m : List Int, l.length ≤ 4 → l = m → Ev (fun _ => (some (l : List Int)).bind fun y => if xs.length + y.length < 140737488355328 then some (xs ++ y) else none) (xs ++ m) := fun l m hl hm => by
    subst hm
    exact Ev.bd rfl (Ev.pos (by omega) (Ev.now _))
  have dm : ∀ a b : Int, 0 ≤ a → 0 < b → Int.tdiv a b = a / b ∧ Int.tmod a b = a % b := fun a b ha hb => ⟨Int.tdiv_eq_ediv_of_nonneg ha, Int.tmod_eq_emod_of_nonneg ha⟩
  unfold aUTF_.f
  by_cases c1 : v < 128
  · refine Ev.pos c1 (Ev.pos (by omega) (Ev.eq ?_ (Ev.now _)))
    rw [show chr1 v = v from if_neg (by omega)]
    unfold encN
    rw [if_pos (by omega), show v % 256 = v by omega]
  by_cases c2 : v < 2048
  · refine Ev.neg c1 (Ev.pos c2 (put _ _ (by simp) ?_))
    rw [show chr1 v = v from if_neg (by omega), (dm v 64 h0 (by omega)).1, (dm v 64 h0 (by omega)).2, w64 (x := v / 64) (by omega) (by omega), w64 (x := 192 + v / 64) (by omega) (by omega), w64 (x := 128 + v % 64) (by omega) (by omega)]
    unfold encN
    rw [if_neg (by omega), if_pos (by omega)]
    congr 1
    · omega
    · congr 1
      omega
  have fin : ∀ b, (b = true ↔ 55296 ≤ v ∧ v ≤ 57343) → Ev (fun k => aUTF_.j0 k xs v b) (xs ++ encN (chr1 v)) := by
    intro b hb
    cases b with
    | true =>
      rw [show chr1 v = 65533 from if_pos (hb.1 rfl)]
      exact Ev.step (fun k => by rw [aUTF_.j0]) (Ev.pos rfl (put _ _ (by decide) (by decide)))
    | false =>
      rw [show chr1 v = v from if_neg (fun h => absurd (hb.2 h) Bool.false_ne_true)]
      have q1 : 0 ≤ v / 64 := by omega
      have q2 : 0 ≤ v / 4096 := by omega
      by_cases c : v < 65536
      · refine Ev.step (fun k => by rw [aUTF_.j0]) (Ev.neg Bool.false_ne_true (Ev.pos c (put _ _ (by simp) ?_)))
        rw [(dm v 64 h0 (by omega)).1, (dm v 64 h0 (by omega)).2, (dm v 4096 h0 (by omega)).1, w64 (x := v / 64) (by omega) (by omega), (dm (v / 64) 64 q1 (by omega)).2, w64 (x := v / 4096) (by omega) (by omega), w64 (x := 224 + v / 4096) (by omega) (by omega), w64 (x := 128 + v / 64 % 64) (by omega) (by omega), w64 (x := 128 + v % 64) (by omega) (by omega)]
        unfold encN
        rw [if_neg (by omega), if_neg (by omega), if_pos (by omega)]
        congr 1
        · omega
        · congr 1
          · omega
          · congr 1
            omega
      · refine Ev.step (fun k => by rw [aUTF_.j0]) (Ev.neg Bool.false_ne_true (Ev.neg c (put _ _ (by simp) ?_)))
        rw [(dm v 64 h0 (by omega)).1, (dm v 64 h0 (by omega)).2, (dm v 4096 h0 (by omega)).1, (dm v 262144 h0 (by omega)).1, w64 (x := v / 64) (by omega) (by omega), (dm (v / 64) 64 q1 (by omega)).2, w64 (x := v / 4096) (by omega) (by omega), (dm (v / 4096) 64 q2 (by omega)).2, w64 (x := v / 262144) (by omega) (by omega), w64 (x := 240 + v / 262144) (by omega) (by omega), w64 (x := 128 + v / 4096 % 64) (by omega) (by omega), w64 (x := 128 + v / 64 % 64) (by omega) (by omega), w64 (x := 128 + v % 64) (by omega) (by omega)]
        unfold encN
        rw [if_neg (by omega), if_neg (by omega), if_neg (by omega)]
        congr 1
        · omega
        · congr 1
          · omega
          · congr 1
            · omega
            · congr 1
              omega
  refine Ev.neg c1 (Ev.neg c2 ?_)
  unfold hig_.f spec_low.f
  by_cases c3 : 55296 ≤ v
  · by_cases c4 : v ≤ 56319
    · exact Ev.bd (if_pos c3) (Ev.pos (decide_eq_true c4) (fin true (by simp; omega)))
    · refine Ev.bd (if_pos c3) (Ev.neg (by simp [c4]) ?_)
      exact Ev.bd (if_pos (show 56320 ≤ v by omega)) (fin _ (by simp; omega))
  · refine Ev.bd (if_neg c3) (Ev.neg Bool.false_ne_true ?_)
    exact Ev.bd (if_neg (show ¬ 56320 ≤ v by omega)) (fin _ (by simp; omega))
end Go.Proofs.YtpdohioobbfncaaGreatDoor.JFnJpWildStop/- The reference's characters of a string are what its escapes stand for; no condition beside those that each theorem states. -/
namespace Go.Proofs.YtpdohioobbfncaaGreatDoor.JFnJpWildStop
open Go.RowKit Go.Proofs.YtpdohioobbfncaaGreatDoor.PFnJpWildStop Go.Proofs.YtpdohioobbfncaaGreatDoorW.PrintWords Go.Proofs.YtpdohioobbfncaaGreatDoorW.PrintLast Go.Proofs.YtpdohioobbfncaaGreatDoorW.PrintMore
set_option linter.unusedSimpArgs false
set_option linter.unusedVariables false
theorem win_cons (t : ByteArray) (p e : Nat) (h : p < e) : win t p e = bt t (p : Int) :: win t (p + 1) e := by
  have h1 : win t p e ≠ [] := fun hh => by have := win_len t p e; rw [hh] at this; simp at this; omega
  obtain ⟨x, l, hl⟩ := List.exists_cons_of_ne_nil h1
  have h2 := win_drop t p e 1
  rw [hl, List.drop_one, List.tail_cons] at h2
  have h3 := win_rd t p e 0 (by omega)
  rw [hl, Nat.add_zero] at h3
  rw [hl, h2, ← h3]
  rfl
theorem win_nil (t : ByteArray) (p : Nat) : win t p p = [] := by unfold win; rw [Nat.sub_self]; rfl
theorem short_val {c : Int} (h : IsEsc c) : s_.f c = some (escT.getD c.toNat 0) ∧ simpleE c = true := by
  unfold IsEsc at h
  rcases h with rfl | rfl | rfl | rfl | rfl | rfl | rfl | rfl <;> exact ⟨rfl, rfl⟩
set_option maxHeartbeats 4000000 in
theorem unq_un_l (s t : ByteArray) (ht : (t.size : Int) ≤ 140737488351000) (i j : Int) (hb : ∀ q : Int, 0 ≤ q → q < t.size → bt t q = bt s (i + 1 + q)) (hj : j = i + t.size + 2) (d : Nat) :
    ∀ (xs : List Int) (p : Nat), p ≤ t.size → t.size - p ≤ d → StrT s (i + 1 + (p : Int)) j → xs.length ≤ p → ∃ rest, Ev (fun k => Unq_.l0 k xs t (p : Int)) (strOfNums (xs ++ rest)) ∧ Un (win t p t.size) rest := by
  have nil : ∀ (xs : List Int), ∃ rest, Ev (fun k => Unq_.l0 k xs t (t.size : Int)) (strOfNums (xs ++ rest)) ∧ Un (win t t.size t.size) rest := fun xs =>
    ⟨[], Ev.step (fun k => by rw [Unq_.l0]) (Ev.neg (by omega) (Ev.eq (by rw [List.append_nil]) (Ev.now _))), by rw [win_nil]; exact Un.nil⟩
  induction d with
  | zero =>
    intro xs p h1 hd _ _
    obtain rfl : p = t.size := by omega
    exact nil xs
  | succ d ih =>
    intro xs p h1 hd hs hx
    by_cases hl : p < t.size
    · have W1 := Aside0.mk (show wrap64 ((p : Int) + 1) = ((p + 1 : Nat) : Int) from by rw [w64 (by omega) (by omega)]; omega)
      have W2 := Aside0.mk (show wrap64 ((p : Int) + 2) = ((p + 2 : Nat) : Int) from by rw [w64 (by omega) (by omega)]; omega)
      have W6 := Aside0.mk (show wrap64 ((p : Int) + 6) = ((p + 6 : Nat) : Int) from by rw [w64 (by omega) (by omega)]; omega)
      have W12 := Aside0.mk (show wrap64 (((p + 6 : Nat) : Int) + 6) = ((p + 12 : Nat) : Int) from by rw [w64 (by omega) (by omega)]; omega)
      have r : ∀ q : Nat, q < t.size - p → rd (win t p t.size) (q : Int) = bt t ((p + q : Nat) : Int) := fun q hq => win_rd t p t.size q hq
      have hlen := win_len t p t.size
      by_cases c : bt t (p : Int) = 92
      · have c0 : bt s (i + 1 + p) = 92 := by rw [← hb p (by omega) (by omega)]; exact c
        have r0 : rd (win t p t.size) 0 = 92 := by have := r 0 (by omega); rw [Nat.add_zero] at this; exact this.trans c
        cases hs with
        | done _ h34 => omega
        | char _ _ h92 _ _ => exact absurd c0 h92
        | esc h3 _ h4 hr =>
          have hr' := hr.lt
          have hbt : bt t ((p : Int) + 1) = bt s (i + 1 + p + 1) := by rw [hb _ (by omega) (by omega)]; congr 1; omega
          rw [← hbt] at h4
          obtain ⟨v, b, eu, hu⟩ := unit_ev t (by omega) (p : Int) (by omega) (by omega)
          have hf : b = false := by
            cases b with
            | false => rfl
            | true =>
              have := (hu.1 rfl).2.2.1
              rw [this] at h4
              unfold IsEsc at h4
              omega
          subst hf
          obtain ⟨h2, h5⟩ := short_val h4
          obtain ⟨rest, e, hun⟩ := ih (xs ++ [escT.getD (bt t ((p : Int) + 1)).toNat 0]) (p + 2) (by omega) (by omega) (by rwa [show i + 1 + ((p + 2 : Nat) : Int) = i + 1 + p + 2 by omega]) (by simp; omega)
          refine ⟨[escT.getD (bt t ((p : Int) + 1)).toNat 0] ++ rest, Ev.step (fun k => by rw [Unq_.l0]) (Ev.pos (by omega) (Ev.pos (by omega) (Ev.pos c ?_))), ?_⟩
          · refine Ev.bind eu ?_
            rw [W1.out]
            refine Ev.neg Bool.false_ne_true (Ev.pos (by omega) (Ev.pos (by omega) (Ev.bd (by rw [show ((p + 1 : Nat) : Int) = (p : Int) + 1 by omega]; exact h2) (Ev.pos (by omega) ?_))))
            rw [W2.out, ← List.append_assoc]
            exact e
          · refine Un.es (m := 2) (Es.sh (bt t ((p : Int) + 1)) r0 ?_ h5 (by omega)) (by rw [win_drop]; exact hun)
            have := r 1 (by omega)
            rw [show ((p + 1 : Nat) : Int) = (p : Int) + 1 by omega] at this
            exact this
        | uni h3 _ h4 h5 hr =>
          have hr' := hr.lt
          have hbt : ∀ q : Nat, p + q < t.size → bt t ((p : Int) + q) = bt s (i + 1 + p + q) := fun q hq => by rw [hb _ (by omega) (by omega)]; congr 1; omega
          have k1 : bt t ((p : Int) + 1) = 117 := (hbt 1 (by omega)).trans h4
          have kx : ∀ q, (p : Int) + 2 ≤ q → q < (p : Int) + 6 → IsHex (bt t q) := fun q h6 h7 => by
            rw [hb q (by omega) (by omega)]
            exact h5 (i + 1 + q) (by omega) (by omega)
          have eu := unit_val t (by omega) (p : Int) (by omega) (by omega) c k1 kx
          have rr : ∀ q : Nat, q < t.size - p → rd (win t p t.size) (q : Int) = bt t ((p : Int) + q) := fun q hq => by rw [r q hq]; congr 1
          have r1 : rd (win t p t.size) 1 = 117 := (rr 1 (by omega)).trans k1
          have es := single_val (win t p t.size) (by omega) (by rw [show (2 : Int) = ((2 : Nat) : Int) from rfl, rr 2 (by omega)]; exact kx _ (by omega) (by omega)) (by rw [show (3 : Int) = ((3 : Nat) : Int) from rfl, rr 3 (by omega)]; exact kx _ (by omega) (by omega)) (by rw [show (4 : Int) = ((4 : Nat) : Int) from rfl, rr 4 (by omega)]; exact kx _ (by omega) (by omega)) (by rw [show (5 : Int) = ((5 : Nat) : Int) from rfl, rr 5 (by omega)]; exact kx _ (by omega) (by omega))
          have ev : num4 (rd (win t p t.size) 2) (rd (win t p t.size) 3) (rd (win t p t.size) 4) (rd (win t p t.size) 5) = uv t (p : Int) := by
            unfold uv
            rw [show (2 : Int) = ((2 : Nat) : Int) from rfl, show (3 : Int) = ((3 : Nat) : Int) from rfl, show (4 : Int) = ((4 : Nat) : Int) from rfl, show (5 : Int) = ((5 : Nat) : Int) from rfl, rr 2 (by omega), rr 3 (by omega), rr 4 (by omega), rr 5 (by omega)]
          rw [ev] at es
          have vr : 0 ≤ uv t (p : Int) ∧ uv t (p : Int) ≤ 65535 := num4_rng (kx _ (by omega) (by omega)) (kx _ (by omega) (by omega)) (kx _ (by omega) (by omega)) (kx _ (by omega) (by omega))
          obtain ⟨v, hv⟩ : ∃ v, uv t (p : Int) = v := ⟨_, rfl⟩
          rw [hv] at eu es vr
          clear ev hv
          have enl := encN_len (chr1 v)
          -- one character of six bytes
          have one : (55296 ≤ v → v ≤ 56319 → ((win t p t.size).length < 8 ∨ rd (win t p t.size) 6 ≠ 92 ∨ rd (win t p t.size) 7 ≠ 117) ∨ ∃ u, Ev (fun k => dSUE_.f k ((win t p t.size).drop 6)) (u, true) ∧ ¬ (56320 ≤ u ∧ u ≤ 57343)) →
              (∀ {res : ByteArray}, Ev (fun k => Unq_.l0 k (xs ++ encN (chr1 v)) t ((p + 6 : Nat) : Int)) res → Ev (fun k => Unq_.l0 k xs t (p : Int)) res) → ∃ rest, Ev (fun k => Unq_.l0 k xs t (p : Int)) (strOfNums (xs ++ rest)) ∧ Un (win t p t.size) rest := by
            intro hn hgo
            obtain ⟨rest, e, hun⟩ := ih (xs ++ encN (chr1 v)) (p + 6) (by omega) (by omega) (by rwa [show i + 1 + ((p + 6 : Nat) : Int) = i + 1 + p + 6 by omega]) (by rw [List.length_append]; omega)
            obtain ⟨K, hK⟩ := dec_one (win t p t.size) v vr.1 vr.2 es (by omega) hn
            refine ⟨encN (chr1 v) ++ rest, hgo (by rw [← List.append_assoc]; exact e), Un.es (m := 6) (Es.un K (chr1 v) 6 r0 r1 (hK K (Nat.le_refl _)) (chr1_rng vr.1 vr.2) (by omega)) (by rw [win_drop]; exact hun)⟩
          have ent : ∀ {res : ByteArray}, Ev (fun k => (u_.f k t ((p + 6 : Nat) : Int)).bind fun bt336 => (if bt336.2 = true then ((hig_.f v).bind fun t338 => (if t338 = true then ((spec_low.f bt336.1).bind fun t339 => (if t339 = true then ((aUTF_.f k xs (wrap64 ((wrap64 (65536 + (wrap64 ((wrap64 (v - 55296)) * 1024)))) + (wrap64 (bt336.1 - 56320))))).bind fun t340 => (Unq_.l0 k t340 t (wrap64 (((p + 6 : Nat) : Int) + 6)))) else ((aUTF_.f k xs v).bind fun t343 => (Unq_.l0 k t343 t ((p + 6 : Nat) : Int))))) else ((aUTF_.f k xs v).bind fun t346 => (Unq_.l0 k t346 t ((p + 6 : Nat) : Int))))) else ((aUTF_.f k xs v).bind fun t349 => (Unq_.l0 k t349 t ((p + 6 : Nat) : Int))))) res → Ev (fun k => Unq_.l0 k xs t (p : Int)) res := by
            intro res e
            refine Ev.step (fun k => by rw [Unq_.l0]) (Ev.pos (by omega) (Ev.pos (by omega) (Ev.pos c ?_)))
            refine Ev.bind eu ?_
            rw [← W6.out] at e
            exact Ev.pos rfl e
          have utf := utf_val xs (by omega) v vr.1 (by omega)
          by_cases C : p + 12 ≤ t.size ∧ bt t ((p + 6 : Nat) : Int) = 92 ∧ bt t (((p + 6 : Nat) : Int) + 1) = 117 ∧ ∀ q, ((p + 6 : Nat) : Int) + 2 ≤ q → q < ((p + 6 : Nat) : Int) + 6 → IsHex (bt t q)
          · obtain ⟨C1, C2, C3, C4⟩ := C
            have eu2 := unit_val t (by omega) ((p + 6 : Nat) : Int) (by omega) (by omega) C2 C3 C4
            have rs : ∀ q : Nat, q < 6 → rd ((win t p t.size).drop 6) (q : Int) = bt t (((p + 6 : Nat) : Int) + q) := fun q hq => by rw [win_drop, win_rd _ _ _ _ (by omega)]; congr 1
            have es2 := single_val ((win t p t.size).drop 6) (by rw [List.length_drop]; omega) (by rw [show (2 : Int) = ((2 : Nat) : Int) from rfl, rs 2 (by omega)]; exact C4 _ (by omega) (by omega)) (by rw [show (3 : Int) = ((3 : Nat) : Int) from rfl, rs 3 (by omega)]; exact C4 _ (by omega) (by omega)) (by rw [show (4 : Int) = ((4 : Nat) : Int) from rfl, rs 4 (by omega)]; exact C4 _ (by omega) (by omega)) (by rw [show (5 : Int) = ((5 : Nat) : Int) from rfl, rs 5 (by omega)]; exact C4 _ (by omega) (by omega))
            have ev2 : num4 (rd ((win t p t.size).drop 6) 2) (rd ((win t p t.size).drop 6) 3) (rd ((win t p t.size).drop 6) 4) (rd ((win t p t.size).drop 6) 5) = uv t ((p + 6 : Nat) : Int) := by
              unfold uv
              rw [show (2 : Int) = ((2 : Nat) : Int) from rfl, show (3 : Int) = ((3 : Nat) : Int) from rfl, show (4 : Int) = ((4 : Nat) : Int) from rfl, show (5 : Int) = ((5 : Nat) : Int) from rfl, rs 2 (by omega), rs 3 (by omega), rs 4 (by omega), rs 5 (by omega)]
            rw [ev2] at es2
            have vr2 : 0 ≤ uv t ((p + 6 : Nat) : Int) ∧ uv t ((p + 6 : Nat) : Int) ≤ 65535 := num4_rng (C4 _ (by omega) (by omega)) (C4 _ (by omega) (by omega)) (C4 _ (by omega) (by omega)) (C4 _ (by omega) (by omega))
            obtain ⟨u, hv2⟩ : ∃ u, uv t ((p + 6 : Nat) : Int) = u := ⟨_, rfl⟩
            rw [hv2] at eu2 es2 vr2
            clear ev2 hv2
            by_cases hp : (55296 ≤ v ∧ v ≤ 56319) ∧ 56320 ≤ u ∧ u ≤ 57343
            · obtain ⟨⟨p1, p2⟩, p3, p4⟩ := hp
              have hx2 : wrap64 ((wrap64 (65536 + (wrap64 ((wrap64 (v - 55296)) * 1024)))) + (wrap64 (u - 56320))) = 65536 + (v - 55296) * 1024 + (u - 56320) := by
                rw [w64 (x := v - 55296) (by omega) (by omega), w64 (x := (v - 55296) * 1024) (by omega) (by omega), w64 (x := 65536 + (v - 55296) * 1024) (by omega) (by omega), w64 (x := u - 56320) (by omega) (by omega), w64 (by omega) (by omega)]
              have hc : chr1 (65536 + (v - 55296) * 1024 + (u - 56320)) = 65536 + (v - 55296) * 1024 + (u - 56320) := if_neg (by omega)
              have utf2 := utf_val xs (by omega) (65536 + (v - 55296) * 1024 + (u - 56320)) (by omega) (by omega)
              rw [hc] at utf2
              have enl2 := encN_len (65536 + (v - 55296) * 1024 + (u - 56320))
              have hs2 : StrT s (i + 1 + ((p + 12 : Nat) : Int)) j := by
                have d1 : bt s (i + 1 + p + 6) = 92 := by rw [show i + 1 + (p : Int) + 6 = i + 1 + ((p + 6 : Nat) : Int) by omega, ← hb _ (by omega) (by omega)]; exact C2
                have d2 : bt s (i + 1 + p + 6 + 1) = 117 := by rw [show i + 1 + (p : Int) + 6 + 1 = i + 1 + (((p + 6 : Nat) : Int) + 1) by omega, ← hb _ (by omega) (by omega)]; exact C3
                cases hr with
                | done _ h34 => omega
                | char _ _ h92 _ _ => exact absurd d1 h92
                | esc _ _ h10 _ => rw [d2] at h10; unfold IsEsc at h10; omega
                | uni _ _ _ _ hr2 => rwa [show i + 1 + ((p + 12 : Nat) : Int) = i + 1 + p + 6 + 6 by omega]
              obtain ⟨rest, e, hun⟩ := ih (xs ++ encN (65536 + (v - 55296) * 1024 + (u - 56320))) (p + 12) (by omega) (by omega) hs2 (by rw [List.length_append]; omega)
              obtain ⟨K, hK⟩ := dec_two (win t p t.size) v u p1 p2 p3 p4 es (by omega) ((rr 6 (by omega)).trans (by rw [show (p : Int) + ((6 : Nat) : Int) = ((p + 6 : Nat) : Int) by omega]; exact C2)) ((rr 7 (by omega)).trans (by rw [show (p : Int) + ((7 : Nat) : Int) = ((p + 6 : Nat) : Int) + 1 by omega]; exact C3)) es2
              refine ⟨encN (65536 + (v - 55296) * 1024 + (u - 56320)) ++ rest, ent ?_, Un.es (m := 12) (Es.un K _ 12 r0 r1 (hK K (Nat.le_refl _)) (by unfold okR; omega) (by omega)) (by rw [win_drop]; exact hun)⟩
              unfold hig_.f spec_low.f
              refine Ev.bind eu2 (Ev.pos rfl (Ev.bd (if_pos p1) (Ev.pos (decide_eq_true p2) (Ev.bd (if_pos p3) (Ev.pos (decide_eq_true p4) ?_)))))
              dsimp only
              rw [hx2, W12.out]
              refine Ev.bind utf2 ?_
              rw [← List.append_assoc]
              exact e
            · refine one (fun _ _ => .inr ⟨u, es2, fun h => hp ⟨⟨by assumption, by assumption⟩, h⟩⟩) (fun {res} e => ent ?_)
              refine Ev.bind eu2 (Ev.pos rfl ?_)
              obtain ⟨b3, h8⟩ := high_t v
              cases b3 with
              | false => exact Ev.bd h8 (Ev.neg Bool.false_ne_true (Ev.bind utf e))
              | true =>
                obtain ⟨b4, h9⟩ := low_t u
                cases b4 with
                | false => exact Ev.bd h8 (Ev.pos rfl (Ev.bd h9 (Ev.neg Bool.false_ne_true (Ev.bind utf e))))
                | true =>
                  refine absurd ?_ hp
                  unfold hig_.f at h8
                  unfold spec_low.f at h9
                  split at h8
                  · split at h9
                    · have a1 := of_decide_eq_true (Option.some.inj h8)
                      have a2 := of_decide_eq_true (Option.some.inj h9)
                      omega
                    · cases h9
                  · cases h8
          · refine one (fun _ _ => .inl ?_) (fun {res} e => ent ?_)
            · by_cases d0 : (win t p t.size).length < 8
              · exact .inl d0
              · refine .inr ?_
                by_cases d1 : rd (win t p t.size) 6 = 92
                · refine .inr (fun d2 => C ?_)
                  have e1 : bt t ((p + 6 : Nat) : Int) = 92 := by rw [← d1, show (6 : Int) = ((6 : Nat) : Int) from rfl, rr 6 (by omega)]; congr 1
                  have e2 : bt t (((p + 6 : Nat) : Int) + 1) = 117 := by rw [← d2, show (7 : Int) = ((7 : Nat) : Int) from rfl, rr 7 (by omega)]; congr 1
                  have f1 : bt s (i + 1 + p + 6) = 92 := by rw [show i + 1 + (p : Int) + 6 = i + 1 + ((p + 6 : Nat) : Int) by omega, ← hb _ (by omega) (by omega)]; exact e1
                  have f2 : bt s (i + 1 + p + 6 + 1) = 117 := by rw [show i + 1 + (p : Int) + 6 + 1 = i + 1 + (((p + 6 : Nat) : Int) + 1) by omega, ← hb _ (by omega) (by omega)]; exact e2
                  cases hr with
                  | done _ h34 => omega
                  | char _ _ h92 _ _ => exact absurd f1 h92
                  | esc _ _ h10 _ => rw [f2] at h10; unfold IsEsc at h10; omega
                  | uni _ _ _ h10 hr2 =>
                    have := hr2.lt
                    refine ⟨by omega, e1, e2, fun q g1 g2 => ?_⟩
                    rw [hb q (by omega) (by omega)]
                    exact h10 (i + 1 + q) (by omega) (by omega)
                · exact .inl d1
            · obtain ⟨v2, b2, eu2, hu2⟩ := unit_ev t (by omega) ((p + 6 : Nat) : Int) (by omega) (by omega)
              cases b2 with
              | false => exact Ev.bind eu2 (Ev.neg Bool.false_ne_true (Ev.bind utf e))
              | true => exact absurd ⟨by have := (hu2.1 rfl).1; omega, (hu2.1 rfl).2⟩ C
      · have c0 : bt s (i + 1 + p) ≠ 92 := by rw [← hb p (by omega) (by omega)]; exact c
        have hr : StrT s (i + 1 + ((p + 1 : Nat) : Int)) j := by
          cases hs with
          | done _ h34 => omega
          | char _ _ _ _ hr => rwa [show i + 1 + ((p + 1 : Nat) : Int) = i + 1 + p + 1 by omega]
          | esc _ h _ _ => exact absurd h c0
          | uni _ h _ _ _ => exact absurd h c0
        obtain ⟨rest, e, hun⟩ := ih (xs ++ [bt t (p : Int)]) (p + 1) (by omega) (by omega) hr (by simp; omega)
        refine ⟨bt t (p : Int) :: rest, Ev.step (fun k => by rw [Unq_.l0]) (Ev.pos (by omega) (Ev.pos (by omega) (Ev.neg c (Ev.pos (by omega) ?_)))), ?_⟩
        · rw [W1.out]
          rw [show xs ++ bt t (p : Int) :: rest = xs ++ [bt t (p : Int)] ++ rest by simp]
          exact e
        · rw [win_cons t p t.size hl]
          exact Un.ch c hun
    · obtain rfl : p = t.size := by omega
      exact nil xs
/-- Of every string of a JSON text: what the reference reads is what its escapes stand for. -/
theorem unq_un (s : ByteArray) (hs : (s.size : Int) ≤ 2147483647) (i j : Int) (h0 : 0 ≤ i) (h : StrT s (i + 1) j) : ∃ nm, Ev (fun k => Unq_.f k (s.extract i.toNat j.toNat)) (strOfNums nm) ∧ Un (win s (i.toNat + 1) (j.toNat - 1)) nm := by
  have h1 := h.lt
  have h2 := h.hi
  have hz : ((s.extract i.toNat j.toNat).size : Int) = j - i := by rw [ByteArray.size_extract]; omega
  have hw : wrap64 (((s.extract i.toNat j.toNat).size : Int) - 1) = j - i - 1 := by rw [w64 (by omega) (by omega)]; omega
  generalize ht : (s.extract i.toNat j.toNat).extract 1 (j - i - 1).toNat = t
  have hn : (t.size : Int) = j - i - 2 := by rw [← ht, ByteArray.size_extract]; omega
  have hbt : ∀ q : Int, 0 ≤ q → q < t.size → bt t q = bt s (i + 1 + q) := fun q h3 h4 => by
    rw [← ht, bt_x _ _ _ q h3 (by omega) (by omega), bt_x _ _ _ _ (by omega) (by omega) (by omega)]
    congr 1
    omega
  obtain ⟨nm, e, hun⟩ := unq_un_l s t (by omega) i j hbt (by omega) t.size [] 0 (by omega) (by omega) (by rwa [show i + 1 + ((0 : Nat) : Int) = i + 1 by omega]) (by simp)
  refine ⟨nm, ?_, ?_⟩
  · unfold Unq_.f
    rw [hw, ht]
    exact Ev.pos (by omega) (Ev.pos (by omega) e)
  · have : win t 0 t.size = win s (i.toNat + 1) (j.toNat - 1) := by
      apply List.ext_getElem
      · rw [win_len, win_len]; omega
      · intro q h3 h4
        have h5 := win_rd t 0 t.size q (by rwa [win_len] at h3)
        have h6 := win_rd s (i.toNat + 1) (j.toNat - 1) q (by rwa [win_len] at h4)
        unfold rd at h5 h6
        rw [Int.toNat_natCast, List.getD_eq_getElem?_getD, List.getElem?_eq_getElem h3] at h5
        rw [Int.toNat_natCast, List.getD_eq_getElem?_getD, List.getElem?_eq_getElem h4] at h6
        rw [win_len] at h3
        refine h5.trans (Eq.trans ?_ h6.symm)
        rw [hbt _ (by omega) (by omega)]
        congr 1
        omega
    rwa [← this]
end Go.Proofs.YtpdohioobbfncaaGreatDoor.JFnJpWildStop