/- With a limit from 2 to 10^6 MatchLimit is not stopped at a pattern with one star, and reports whether the text is made of what the pattern's terms say; conditions: none beside the statement's own. -/
import Derived.Test.YtljmeaemonpkoaaDoorUHFnMtLimitOne
namespace Go.Proofs.YtljmeaemonpkoaaDoor.Pure
open Go.RowKit Go.Proofs.YtljmeaemonpkoaaDoor.PFnMtLimitOne Go.Proofs.YtljmeaemonpkoaaDoor.UFnMtLimitOne Go.Proofs.YtljmeaemonpkoaaDoorW.PrintWords Go.Proofs.YtljmeaemonpkoaaDoorW.PrintLast Go.Proofs.YtljmeaemonpkoaaDoorW.PrintMore
theorem en_count {c : Int} (h : Vd c) : (en c).count 42 = if c = 42 then 1 else 0 := by
  unfold Vd at h
  unfold en
  by_cases h1 : c < 128
  · rw [if_pos h1]
    by_cases h2 : c = 42
    · subst h2; rfl
    · rw [if_neg h2, List.count_cons_of_ne h2]; rfl
  rw [if_neg h1, if_neg (show ¬ c = 42 by omega)]
  split
  · rw [List.count_cons_of_ne (by omega), List.count_cons_of_ne (by omega)]; rfl
  · split
    · rw [List.count_cons_of_ne (by omega), List.count_cons_of_ne (by omega), List.count_cons_of_ne (by omega)]; rfl
    · rw [List.count_cons_of_ne (by omega), List.count_cons_of_ne (by omega), List.count_cons_of_ne (by omega), List.count_cons_of_ne (by omega)]; rfl
theorem bytes_count {P : List Int} (h : ∀ c ∈ P, Vd c) : (P.flatMap en).count 42 = P.count 42 := by
  induction P with
  | nil => rfl
  | cons c r ih =>
    rw [List.flatMap_cons, List.count_append, en_count (h c (by simp)), ih (fun x hx => h x (by simp [hx])), List.count_cons]
    by_cases hc : c = 42
    · subst hc; simp; omega
    · simp [hc]
theorem stars_ev (s : ByteArray) (P : List Int) (hv : ∀ c ∈ P, Vd c) (hs : (bs P).size ≤ 4096) (lim : Int) (x7 x8 : Bool) {r : Bool}
    (e : Ev (fun k => laws_FnMtLimitOne.l0 k s (bs P) lim x7 x8 (P.count 42 : Int) ((bs P).size : Int)) r) (d : Nat) :
    ∀ i : Nat, (bs P).size - i = d → i ≤ (bs P).size → Ev (fun k => laws_FnMtLimitOne.l0 k s (bs P) lim x7 x8 (((P.flatMap en).take i).count 42 : Int) (i : Int)) r := by
  have sz : (bs P).size = (P.flatMap en).length := by unfold bs; rw [strOfNums_size]
  induction d with
  | zero =>
    intro i hd hi
    obtain rfl : i = (bs P).size := by omega
    rw [sz, List.take_length, bytes_count hv, ← sz]
    exact e
  | succ d ih =>
    intro i hd hi
    have hlt : i < (P.flatMap en).length := by omega
    have hb : bt (bs P) i = (P.flatMap en)[i] := bt_nums _ (bs_by hv) i hlt
    have ht : (P.flatMap en).take (i + 1) = (P.flatMap en).take i ++ [(P.flatMap en)[i]] := by rw [List.take_add_one, List.getElem?_eq_getElem hlt]; rfl
    have hc : ((P.flatMap en).take i).count 42 ≤ i := Nat.le_trans List.count_le_length (by rw [List.length_take]; omega)
    have e2 := ih (i + 1) (by omega) (by omega)
    rw [ht, List.count_append] at e2
    refine Ev.step (fun k => by rw [laws_FnMtLimitOne.l0]) (Ev.pos (by omega) (Ev.pos (by omega) ?_))
    have ew : wrap64 ((i : Int) + 1) = ((i + 1 : Nat) : Int) := by rw [w64 (by omega) (by omega)]; omega
    rw [ew]
    by_cases h42 : bt (bs P) i = 42
    · refine Ev.pos h42 ?_
      rw [hb] at h42
      rw [h42] at e2
      rw [w64 (by omega) (by omega)]
      have : ((((P.flatMap en).take i).count 42 + [(42 : Int)].count 42 : Nat) : Int) = (((P.flatMap en).take i).count 42 : Int) + 1 := by
        rw [show [(42 : Int)].count 42 = 1 from rfl]; omega
      rw [this] at e2
      exact e2
    · refine Ev.neg h42 ?_
      rw [hb] at h42
      rw [List.count_cons_of_ne h42] at e2
      exact e2
theorem FnMtLimitOne : laws_FnMtLimitOne.Pure := by
  intro s p lim _ _ _
  refine Ev.rounds (r := true) (g := fun k => laws_FnMtLimitOne.f k s p lim) ?_
  have yes : Ev (fun k => laws_FnMtLimitOne.j0 k s p lim true) true := Ev.step (fun k => by rw [laws_FnMtLimitOne.j0]) (Ev.pos rfl (Ev.now _))
  unfold laws_FnMtLimitOne.f
  by_cases c1 : (s.size : Int) > 2147483647
  · exact Ev.pos c1 yes
  refine Ev.neg c1 ?_
  by_cases c2 : (p.size : Int) > 2147483647
  · rw [decide_eq_true c2]; exact yes
  rw [decide_eq_false c2]
  refine Ev.step (fun k => by rw [laws_FnMtLimitOne.j0]) ?_
  obtain ⟨b, g, e, h⟩ := told_ev s p
  refine Ev.neg Bool.false_ne_true (Ev.bind e ?_)
  cases g with
  | false =>
    -- the count goes over the pattern, whatever it is
    have go : ∀ (d : Nat) (i : Nat) (x9 : Int), p.size - i = d → i ≤ p.size → Ev (fun k => laws_FnMtLimitOne.l0 k s p lim b false x9 (i : Int)) true := by
      intro d
      induction d with
      | zero =>
        intro i x9 hd hi
        exact Ev.step (fun k => by rw [laws_FnMtLimitOne.l0]) (Ev.neg (by omega) (Ev.neg Bool.false_ne_true (Ev.now _)))
      | succ d ih =>
        intro i x9 hd hi
        refine Ev.step (fun k => by rw [laws_FnMtLimitOne.l0]) (Ev.pos (by omega) (Ev.pos (by omega) ?_))
        have ew : wrap64 ((i : Int) + 1) = ((i + 1 : Nat) : Int) := by rw [w64 (by omega) (by omega)]; omega
        rw [ew]
        by_cases h42 : bt p i = 42
        · exact Ev.pos h42 (ih (i + 1) _ (by omega) (by omega))
        · exact Ev.neg h42 (ih (i + 1) _ (by omega) (by omega))
    exact go p.size 0 0 (by omega) (by omega)
  | true =>
    obtain ⟨h1, h2, S, Q, gs, es, ep, hv, hq, hg, hb⟩ := h rfl
    obtain ⟨m, st, e2, h3, h4⟩ := limit_ev S Q gs lim hv hq (by rw [← es]; omega) (by rw [← ep]; omega) hg
    rw [ep]
    have main : Ev (fun k => laws_FnMtLimitOne.l0 k s (bs Q) lim b true (Q.count 42 : Int) ((bs Q).size : Int)) true := by
      refine Ev.step (fun k => by rw [laws_FnMtLimitOne.l0]) (Ev.neg (by omega) (Ev.pos rfl ?_))
      by_cases k1 : s.toList = ([] : List UInt8)
      · exact Ev.pos k1 (Ev.now _)
      refine Ev.neg k1 ?_
      by_cases k2 : (Q.count 42 : Int) > 1
      · exact Ev.pos k2 (Ev.now _)
      refine Ev.neg k2 ?_
      by_cases k3 : lim < 2
      · exact Ev.pos k3 (Ev.now _)
      refine Ev.neg k3 ?_
      by_cases k4 : lim > 1000000
      · exact Ev.pos k4 (Ev.now _)
      refine Ev.neg k4 ?_
      have hne : S ≠ [] := by
        rintro rfl
        apply k1
        rw [es, ByteArray.toList_eq]
        rfl
      obtain rfl := h4 (by omega) (by omega) (by omega) hne
      rw [← es] at e2
      refine Ev.bind e2 (Ev.neg Bool.false_ne_true (Ev.eq ?_ (Ev.now _)))
      have hm := h3 rfl
      rw [beq_iff_eq]
      show m = b
      cases m with
      | true => exact (hb.2 (hm.1 rfl)).symm
      | false =>
        cases b with
        | false => rfl
        | true => exact absurd (hm.2 (hb.1 rfl)) Bool.false_ne_true
    exact stars_ev s Q hq (by rw [← ep]; omega) lim b true main (bs Q).size 0 (by omega) (by omega)
end Go.Proofs.YtljmeaemonpkoaaDoor.Pure
