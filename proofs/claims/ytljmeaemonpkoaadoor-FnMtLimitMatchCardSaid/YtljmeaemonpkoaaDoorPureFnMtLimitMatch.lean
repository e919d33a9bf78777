/- MatchLimit, where it is not stopped, reports whether the text is made of what the pattern's terms say; conditions: none beside the statement's own. -/
import Derived.Test.YtljmeaemonpkoaaDoorUHFnMtLimitMatch
namespace Go.Proofs.YtljmeaemonpkoaaDoor.Pure
open Go.RowKit Go.Proofs.YtljmeaemonpkoaaDoor.PFnMtLimitMatch Go.Proofs.YtljmeaemonpkoaaDoor.UFnMtLimitMatch Go.Proofs.YtljmeaemonpkoaaDoorW.PrintWords Go.Proofs.YtljmeaemonpkoaaDoorW.PrintLast Go.Proofs.YtljmeaemonpkoaaDoorW.PrintMore
theorem FnMtLimitMatch : laws_FnMtLimitMatch.Pure := by
  intro s p lim _ _ _
  refine Ev.rounds (r := true) (g := fun k => laws_FnMtLimitMatch.f k s p lim) ?_
  have yes : Ev (fun k => laws_FnMtLimitMatch.j0 k s p lim true) true := Ev.step (fun k => by rw [laws_FnMtLimitMatch.j0]) (Ev.pos rfl (Ev.now _))
  unfold laws_FnMtLimitMatch.f
  by_cases c1 : (s.size : Int) > 2147483647
  · exact Ev.pos c1 yes
  refine Ev.neg c1 ?_
  by_cases c2 : (p.size : Int) > 2147483647
  · rw [decide_eq_true c2]; exact yes
  rw [decide_eq_false c2]
  refine Ev.step (fun k => by rw [laws_FnMtLimitMatch.j0]) ?_
  obtain ⟨b, g, e, h⟩ := told_ev s p
  refine Ev.neg Bool.false_ne_true (Ev.bind e ?_)
  cases g with
  | false => exact Ev.neg Bool.false_ne_true (Ev.now _)
  | true =>
    obtain ⟨h1, h2, S, Q, gs, es, ep, hv, hq, hg, hb⟩ := h rfl
    obtain ⟨m, st, e2, h3, _⟩ := limit_ev S Q gs lim hv hq (by rw [← es]; omega) (by rw [← ep]; omega) hg
    rw [← es, ← ep] at e2
    refine Ev.pos rfl (Ev.bind e2 ?_)
    cases st with
    | true => exact Ev.pos rfl (Ev.now _)
    | false =>
      refine Ev.neg Bool.false_ne_true (Ev.eq ?_ (Ev.now _))
      have hm := h3 rfl
      rw [beq_iff_eq]
      show m = b
      cases m with
      | true => exact (hb.2 (hm.1 rfl)).symm
      | false =>
        cases b with
        | false => rfl
        | true => exact absurd (hm.2 (hb.1 rfl)) Bool.false_ne_true
end Go.Proofs.YtljmeaemonpkoaaDoor.Pure
