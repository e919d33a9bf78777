/- Spec and SpecInPlace leave every JSON text as it is; conditions: none beside the statement's own. -/
import Derived.Test.YtnmbpleneddkhaaSRFnPrSpecPlain
namespace Go.Proofs.Ytnmbpleneddkhaa.Pure
open Go.RowKit Go.Proofs.Ytnmbpleneddkhaa.JFnPrSpecPlain Go.Proofs.Ytnmbpleneddkhaa.PFnPrSpecPlain Go.Proofs.YtnmbpleneddkhaaW.PrintWords Go.Proofs.YtnmbpleneddkhaaW.PrintLast Go.Proofs.YtnmbpleneddkhaaW.PrintMore
theorem str_bytes (s : ByteArray) : strOfNums (bytesOf s) = s := by
  apply ByteArray.ext
  apply Array.ext'
  simp only [strOfNums, bytesOf, List.map_map]
  rw [List.toList_toArray]
  conv => rhs; rw [← List.map_id s.data.toList]
  apply List.map_congr_left
  intro x _
  simp
theorem FnPrSpecPlain : laws_FnPrSpecPlain.Pure := by
  intro s _
  refine Ev.rounds (r := true) (g := fun k => laws_FnPrSpecPlain.f k s) ?_
  unfold laws_FnPrSpecPlain.f
  by_cases c1 : (s.size : Int) > 2147483647
  · exact Ev.pos c1 (Ev.now _)
  refine Ev.neg c1 ?_
  by_cases c2 : (s.size : Int) > 4096
  · have e : Ev (fun k => laws_prPlaces.f k s) (0, 0, 0, [], [], false) := by
      unfold laws_prPlaces.f
      exact Ev.pos c2 (Ev.now _)
    refine Ev.bind e ?_
    exact Ev.neg Bool.false_ne_true (Ev.now _)
  obtain ⟨kd, b, e, ns, ks, ok, ev, h⟩ := places_ev s (by omega)
  have e1 : Ev (fun k => laws_prPlaces.f k s) (kd, b, e, ns, ks, ok) := by
    unfold laws_prPlaces.f
    exact Ev.neg c2 (Ev.bind ev (Ev.now _))
  refine Ev.bind e1 ?_
  cases ok with
  | false => exact Ev.neg Bool.false_ne_true (Ev.now _)
  | true =>
    have hr := jt_run (h rfl)
    have e2 : Ev (fun k => impl_PrSpec.f k s) s := by
      unfold impl_PrSpec.f
      refine Ev.pos (by omega) ?_
      have e3 : Ev (fun k => pretty_Spec.f k (bytesOf s)) (bytesOf s) := by
        unfold pretty_Spec.f
        refine Ev.bind (a := bytesOf s) ?_ (Ev.now _)
        unfold pretty_spec.f
        refine Ev.pos (by simp) ?_
        exact run_ev s (by omega) hr
      refine Ev.bind e3 (Ev.eq ?_ (Ev.now _))
      rw [str_bytes]
    have e4 : impl_PrSpecInPlace.f s = some s := by
      unfold impl_PrSpecInPlace.f
      rw [if_pos ⟨by omega, hr.run _ (by omega)⟩]
    refine Ev.pos rfl (Ev.bind e2 ?_)
    refine Ev.pos rfl (Ev.bd e4 (Ev.eq ?_ (Ev.now _)))
    exact beq_self_eq_true _
end Go.Proofs.Ytnmbpleneddkhaa.Pure
