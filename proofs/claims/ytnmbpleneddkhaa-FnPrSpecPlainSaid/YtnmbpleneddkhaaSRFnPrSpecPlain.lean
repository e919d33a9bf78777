/- pretty's spec leaves a text as it is that has no slash outside of strings and no comma ahead of a closing bracket. -/
import Derived.Test.YtnmbpleneddkhaaSQFnPrSpecPlain
namespace Go.Proofs.Ytnmbpleneddkhaa.JFnPrSpecPlain
open Go.RowKit Go.Proofs.Ytnmbpleneddkhaa.PFnPrSpecPlain Go.Proofs.YtnmbpleneddkhaaW.PrintWords Go.Proofs.YtnmbpleneddkhaaW.PrintLast Go.Proofs.YtnmbpleneddkhaaW.PrintMore
set_option linter.unusedVariables false
theorem wn (n : Nat) (h : n ≤ 1000000) : wrap64 ((n : Int) + 1) = ((n + 1 : Nat) : Int) := by rw [w64 (by omega) (by omega)]; omega
theorem wm (n : Nat) (h : n ≤ 1000000) : wrap64 ((n : Int) - 1) = (n : Int) - 1 := w64 (by omega) (by omega)
theorem tk (s : ByteArray) (i : Nat) (h : i < s.size) : (bytesOf s).take i ++ [rd (bytesOf s) (i : Int)] = (bytesOf s).take (i + 1) := by
  have hl : i < (bytesOf s).length := by rw [bytesOf_length]; exact h
  rw [List.take_add_one, List.getElem?_eq_getElem hl]
  unfold rd
  rw [Int.toNat_natCast, List.getD_eq_getElem?_getD, List.getElem?_eq_getElem hl]
  rfl
theorem tk_len (s : ByteArray) (i : Nat) (h : i ≤ s.size) : ((bytesOf s).take i).length = i := by
  rw [List.length_take, bytesOf_length]; omega
theorem rd_tk (s : ByteArray) (i q : Nat) (h : q < i) : rd ((bytesOf s).take i) (q : Int) = bt s q := by
  rw [← rd_bytesOf]
  unfold rd
  rw [Int.toNat_natCast, List.getD_eq_getElem?_getD, List.getD_eq_getElem?_getD, List.getElem?_take, if_pos h]
theorem par (q b : Nat) (h : b < q) (hq : q ≤ 1000000) : Int.tmod (wrap64 (((q - 1 - b : Nat) : Int) - (q : Int))) 2 = -(((b + 1) % 2 : Nat) : Int) := by
  have e : ((q - 1 - b : Nat) : Int) - (q : Int) = -((b + 1 : Nat) : Int) := by omega
  rw [e, w64 (by omega) (by omega), Int.neg_tmod, Int.tmod_eq_emod_of_nonneg (by omega)]
  omega
theorem l4_ev (s : ByteArray) (hs : s.size ≤ 100000) (x1 : List Int) (q : Nat) (hq : q < s.size) (hb : bsl (gs s) q < q) (r : List Int)
    (ho : bsl (gs s) q % 2 = 1 → Ev (fun k => pretty_spec.l3 k (bytesOf s) x1 ((q + 1 : Nat) : Int)) r) (he : bsl (gs s) q % 2 = 0 → Ev (fun k => pretty_spec.l0 k (bytesOf s) x1 ((q + 1 : Nat) : Int)) r) :
    Ev (fun k => pretty_spec.l4 k (bytesOf s) x1 (q : Int) ((q : Int) - 1)) r := by
  have hl : (bytesOf s).length = s.size := bytesOf_length s
  have go : ∀ d j : Nat, q - 1 - bsl (gs s) q + d = j → j ≤ q - 1 → Ev (fun k => pretty_spec.l4 k (bytesOf s) x1 (q : Int) (j : Int)) r := by
    intro d
    induction d with
    | zero =>
      intro j hj hj2
      obtain rfl : j = q - 1 - bsl (gs s) q := by omega
      have h92 : ¬ rd (bytesOf s) ((q - 1 - bsl (gs s) q : Nat) : Int) = 92 := by rw [rd_bytesOf]; exact bsl_end q hb
      refine Ev.step (fun k => by rw [pretty_spec.l4]) (Ev.pos (by omega) (Ev.pos (by omega) (Ev.neg h92 ?_)))
      rw [par q _ hb (by omega), wn q (by omega)]
      by_cases hp : bsl (gs s) q % 2 = 1
      · exact Ev.pos (by omega) (ho hp)
      · exact Ev.neg (by omega) (he (by omega))
    | succ d ih =>
      intro j hj hj2
      have h92 : rd (bytesOf s) (j : Int) = 92 := by
        have := (bsl_at (g := gs s) q (q - 1 - j) (by omega)).2
        rw [show q - 1 - (q - 1 - j) = j by omega] at this
        rw [rd_bytesOf]; exact this
      have e := ih (j - 1) (by omega) (by omega)
      rw [show ((j - 1 : Nat) : Int) = (j : Int) - 1 by omega] at e
      refine Ev.step (fun k => by rw [pretty_spec.l4]) (Ev.pos (by omega) (Ev.pos (by omega) (Ev.pos h92 ?_)))
      rw [wm j (by omega)]
      exact e
  have := go (bsl (gs s) q) (q - 1) (by omega) (by omega)
  rwa [show ((q - 1 : Nat) : Int) = (q : Int) - 1 by omega] at this
theorem l3_ev (s : ByteArray) (hs : s.size ≤ 100000) (i p : Nat) (hp : p < s.size) (c : gs s i = 34) (e : gs s p = 34) (ev : bsl (gs s) p % 2 = 0) (od : ∀ q, i < q → q < p → gs s q = 34 → bsl (gs s) q % 2 = 1) (r : List Int)
    (h0 : Ev (fun k => pretty_spec.l0 k (bytesOf s) ((bytesOf s).take (p + 1)) ((p + 1 : Nat) : Int)) r) : ∀ d q : Nat, p - q = d → i < q → q ≤ p → Ev (fun k => pretty_spec.l3 k (bytesOf s) ((bytesOf s).take q) (q : Int)) r := by
  have hl : (bytesOf s).length = s.size := bytesOf_length s
  have bl : ∀ q, i < q → bsl (gs s) q < q := fun q hq => by
    have := bsl_le (g := gs s) (i := i) (by omega) q hq
    omega
  intro d
  induction d with
  | zero =>
    intro q hd hq1 hq2
    obtain rfl : q = p := by omega
    have tl := tk_len s q (by omega)
    refine Ev.step (fun k => by rw [pretty_spec.l3]) (Ev.pos (by omega) (Ev.pos (by omega) (Ev.pos (by omega) (Ev.bd rfl ?_))))
    rw [tk s q (by omega), wm q (by omega)]
    refine Ev.pos (by rw [rd_bytesOf]; exact e) ?_
    exact l4_ev s hs _ q hp (bl q hq1) r (fun h => by omega) (fun _ => h0)
  | succ d ih =>
    intro q hd hq1 hq2
    have tl := tk_len s q (by omega)
    have nx := ih (q + 1) (by omega) (by omega) (by omega)
    refine Ev.step (fun k => by rw [pretty_spec.l3]) (Ev.pos (by omega) (Ev.pos (by omega) (Ev.pos (by omega) (Ev.bd rfl ?_))))
    rw [tk s q (by omega), wm q (by omega), wn q (by omega)]
    by_cases h34 : gs s q = 34
    · refine Ev.pos (by rw [rd_bytesOf]; exact h34) ?_
      have := od q hq1 (by omega) h34
      exact l4_ev s hs _ q (by omega) (bl q hq1) r (fun _ => nx) (fun h => by omega)
    · exact Ev.neg (by rw [rd_bytesOf]; exact h34) nx
theorem l5_ev (s : ByteArray) (hs : s.size ≤ 100000) (i : Nat) (hi : i < s.size) (r : List Int) (h0 : Ev (fun k => pretty_spec.l0 k (bytesOf s) ((bytesOf s).take (i + 1)) ((i + 1 : Nat) : Int)) r) :
    ∀ j : Nat, j ≤ i → nc (gs s) j = true → Ev (fun k => pretty_spec.l5 k (bytesOf s) ((bytesOf s).take (i + 1)) (i : Int) ((j : Int) - 1)) r := by
  have tl := tk_len s (i + 1) (by omega)
  intro j
  induction j with
  | zero =>
    intro _ _
    refine Ev.step (fun k => by rw [pretty_spec.l5]) (Ev.neg (by omega) ?_)
    rw [wn i (by omega)]
    exact h0
  | succ j ih =>
    intro hj hn
    unfold nc at hn
    rw [show ((j + 1 : Nat) : Int) - 1 = (j : Int) by omega]
    have hr := rd_tk s (i + 1) j (by omega)
    have hg : gs s j = bt s j := rfl
    refine Ev.step (fun k => by rw [pretty_spec.l5]) (Ev.pos (by omega) (Ev.pos (by omega) (Ev.pos (by omega) ?_)))
    by_cases c : gs s j ≤ 32
    · rw [if_pos c] at hn
      refine Ev.pos (by omega) ?_
      rw [wm j (by omega)]
      exact ih (by omega) hn
    · rw [if_neg c] at hn
      have := of_decide_eq_true hn
      refine Ev.neg (by omega) (Ev.neg (by omega) ?_)
      rw [wn i (by omega)]
      exact h0
theorem run_ev (s : ByteArray) (hs : s.size ≤ 100000) {i : Nat} (h : Run (gs s) s.size i) : Ev (fun k => pretty_spec.l0 k (bytesOf s) ((bytesOf s).take i) (i : Int)) (bytesOf s) := by
  have hl : (bytesOf s).length = s.size := bytesOf_length s
  have j4 : ∀ i : Nat, i < s.size → gs s i ≠ 47 → ∀ r, Ev (fun k => if rd (bytesOf s) (i : Int) = 34 then (pretty_spec.l3 k (bytesOf s) ((bytesOf s).take (i + 1)) ((i + 1 : Nat) : Int)) else (if rd (bytesOf s) (i : Int) = 125 then (pretty_spec.j7 k (bytesOf s) ((bytesOf s).take (i + 1)) (i : Int) true) else (pretty_spec.j7 k (bytesOf s) ((bytesOf s).take (i + 1)) (i : Int) (rd (bytesOf s) (i : Int) == 93)))) r →
      Ev (fun k => pretty_spec.l0 k (bytesOf s) ((bytesOf s).take i) (i : Int)) r := by
    intro i hi h47 r e
    have tl := tk_len s i (by omega)
    refine Ev.step (fun k => by rw [pretty_spec.l0]) (Ev.pos (by omega) (Ev.pos (by omega) (Ev.neg (by rw [rd_bytesOf]; exact h47) ?_)))
    refine Ev.step (fun k => by rw [pretty_spec.j4]) (Ev.pos (by omega) (Ev.pos (by omega) (Ev.pos (by omega) (Ev.bd rfl ?_))))
    rw [tk s i hi, wn i (by omega)]
    exact e
  induction h with
  | done =>
    refine Ev.step (fun k => by rw [pretty_spec.l0]) (Ev.neg (by omega) (Ev.eq ?_ (Ev.now _)))
    rw [← hl, List.take_length]
  | @str i p h hp c e ev od t ih =>
    refine j4 i (by omega) (by omega) _ (Ev.pos (by rw [rd_bytesOf]; exact c) ?_)
    exact l3_ev s hs i p hp c e ev od _ ih _ (i + 1) rfl (by omega) (by omega)
  | @close i h c n t ih =>
    have j7 : Ev (fun k => pretty_spec.j7 k (bytesOf s) ((bytesOf s).take (i + 1)) (i : Int) true) (bytesOf s) := by
      have tl := tk_len s (i + 1) (by omega)
      refine Ev.step (fun k => by rw [pretty_spec.j7]) (Ev.pos rfl ?_)
      have := l5_ev s hs i h _ ih i (Nat.le_refl _) n
      rw [tl, w64 (by omega) (by omega), show ((i + 1 : Nat) : Int) - 2 = (i : Int) - 1 by omega]
      exact this
    have h34 : ¬ rd (bytesOf s) (i : Int) = 34 := by rw [rd_bytesOf]; show ¬ gs s i = 34; omega
    refine j4 i h (by omega) _ (Ev.neg h34 ?_)
    by_cases c1 : rd (bytesOf s) (i : Int) = 125
    · exact Ev.pos c1 j7
    · refine Ev.neg c1 ?_
      have : (rd (bytesOf s) (i : Int) == 93) = true := by
        rw [beq_iff_eq]
        rw [rd_bytesOf] at c1 ⊢
        exact c.resolve_left c1
      rw [this]
      exact j7
  | @other i h c1 c2 c3 c4 t ih =>
    have h34 : ¬ rd (bytesOf s) (i : Int) = 34 := by rw [rd_bytesOf]; exact c1
    have h125 : ¬ rd (bytesOf s) (i : Int) = 125 := by rw [rd_bytesOf]; exact c2
    have h93 : (rd (bytesOf s) (i : Int) == 93) = false := by
      rw [beq_eq_false_iff_ne, rd_bytesOf]; exact c3
    refine j4 i h c4 _ (Ev.neg h34 (Ev.neg h125 ?_))
    rw [h93]
    refine Ev.step (fun k => by rw [pretty_spec.j7]) (Ev.neg Bool.false_ne_true ?_)
    rw [wn i (by omega)]
    exact ih
end Go.Proofs.Ytnmbpleneddkhaa.JFnPrSpecPlain