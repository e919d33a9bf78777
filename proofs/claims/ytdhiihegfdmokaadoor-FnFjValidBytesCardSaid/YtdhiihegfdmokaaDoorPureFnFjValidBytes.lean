/- Validate and ValidateBytes say the same of every text, and of [] that it is a JSON text; conditions: none beside the statement's own. -/
import Derived.Test.YtdhiihegfdmokaaDoorVWFnFjValidBytes
namespace Go.Proofs.YtdhiihegfdmokaaDoor.Pure
open Go.RowKit Go.Proofs.YtdhiihegfdmokaaDoor.JFnFjValidBytes Go.Proofs.YtdhiihegfdmokaaDoor.PFnFjValidBytes Go.Proofs.YtdhiihegfdmokaaDoorW.PrintWords Go.Proofs.YtdhiihegfdmokaaDoorW.PrintLast Go.Proofs.YtdhiihegfdmokaaDoorW.PrintMore
theorem str_bytes (s : ByteArray) : strOfNums (bytesOf s) = s := by
  apply ByteArray.ext
  apply Array.ext'
  simp only [strOfNums, bytesOf, List.map_map]
  rw [List.toList_toArray]
  conv => rhs; rw [← List.map_id s.data.toList]
  apply List.map_congr_left
  intro x _
  simp
theorem valid_ev (s : ByteArray) (hs : s.size ≤ 100000) : ∃ r, Ev (fun k => fastjson_Validate.f k s) r := by
  obtain ⟨n, hn, e, hb⟩ := skip_at s hs 0 (by omega)
  rw [sx_zero] at e
  obtain ⟨r, e2, h⟩ := (t_all s hs (s.size + 1)).1 n hn (by omega)
  unfold fastjson_Validate.f
  by_cases hr : r.2 = none
  · obtain ⟨j, h1, h2, h3⟩ := h hr
    obtain ⟨m, hm, e3, _⟩ := skip_at s hs j h2
    rw [← h3] at e3
    by_cases h0 : ((sx s m).size : Int) > 0
    · exact ⟨some 0, Ev.bind e (Ev.bind e2 (Ev.pos (by rw [hr]; rfl) (Ev.bind e3 (Ev.pos h0 (Ev.bd (err_new _) (Ev.now _))))))⟩
    · exact ⟨none, Ev.bind e (Ev.bind e2 (Ev.pos (by rw [hr]; rfl) (Ev.bind e3 (Ev.neg h0 (Ev.now _)))))⟩
  · exact ⟨some 0, Ev.bind e (Ev.bind e2 (Ev.neg (isNone_of hr) (Ev.bd (err_new _) (Ev.now _))))⟩
theorem bytes_ev (s : ByteArray) (hs : s.size ≤ 100000) (r : Option Int) (e : Ev (fun k => fastjson_Validate.f k s) r) : Ev (fun k => impl_FjValidBytes.f k s) r.isNone := by
  have e2 : Ev (fun k => fastjson_ValidateBytes.f k (bytesOf s)) r := by
    unfold fastjson_ValidateBytes.f
    refine Ev.bd (a := s) ?_ (Ev.bind e (Ev.now _))
    unfold fastjson_b2s.f
    rw [str_bytes]
  unfold impl_FjValidBytes.f
  refine Ev.pos (by omega) (Ev.bind e2 ?_)
  cases r with
  | none => exact Ev.pos rfl (Ev.now _)
  | some _ => exact Ev.neg Bool.false_ne_true (Ev.now _)
theorem text_ev (s : ByteArray) (r : Option Int) (e : Ev (fun k => fastjson_Validate.f k s) r) : Ev (fun k => impl_FjValid.f k s) r.isNone := by
  unfold impl_FjValid.f
  refine Ev.bind e ?_
  cases r with
  | none => exact Ev.pos rfl (Ev.now _)
  | some _ => exact Ev.neg Bool.false_ne_true (Ev.now _)
theorem empty_ev : Ev (fun k => fastjson_Validate.f k (⟨#[91, 93]⟩ : ByteArray)) none := by
  have sk : ∀ s : ByteArray, ¬ (s.size : Int) = 0 → 0 < (s.size : Int) → bt s 0 > 32 → Ev (fun k => fastjson_skipWS.f k s) s := fun s h0 h1 h2 => by
    unfold fastjson_skipWS.f
    exact Ev.neg h0 (Ev.pos h1 (Ev.pos h2 (Ev.now _)))
  have e0 := sk (⟨#[91, 93]⟩ : ByteArray) (by decide) (by decide) (by decide)
  have x1 : (⟨#[91, 93]⟩ : ByteArray).extract 1 (⟨#[91, 93]⟩ : ByteArray).size = (⟨#[93]⟩ : ByteArray) := by decide
  have x2 : (⟨#[93]⟩ : ByteArray).extract 1 (⟨#[93]⟩ : ByteArray).size = (⟨#[]⟩ : ByteArray) := by decide
  have e1 := sk (⟨#[93]⟩ : ByteArray) (by decide) (by decide) (by decide)
  have ea : Ev (fun k => fastjson_validateArray.f k (⟨#[93]⟩ : ByteArray)) (⟨#[]⟩, none) := by
    refine Ev.step (fun k => by rw [fastjson_validateArray.f]) ?_
    refine Ev.bind e1 ?_
    rw [x2]
    exact Ev.neg (by decide) (Ev.pos (by decide) (Ev.pos (by decide) (Ev.pos (by decide) (Ev.now _))))
  have ev : Ev (fun k => fastjson_validateValue.f k (⟨#[91, 93]⟩ : ByteArray)) (⟨#[]⟩, none) := by
    refine Ev.step (fun k => by rw [fastjson_validateValue.f]) ?_
    rw [x1]
    refine Ev.neg (by decide) (Ev.pos (by decide) (Ev.neg (by decide) (Ev.pos (by decide) (Ev.pos (by decide) (Ev.bind ea ?_)))))
    exact Ev.pos rfl (Ev.now _)
  have ez : Ev (fun k => fastjson_skipWS.f k (⟨#[]⟩ : ByteArray)) (⟨#[]⟩ : ByteArray) := by
    unfold fastjson_skipWS.f
    exact Ev.pos (by decide) (Ev.now _)
  unfold fastjson_Validate.f
  refine Ev.bind e0 (Ev.bind ev ?_)
  refine Ev.pos rfl (Ev.bind ez ?_)
  exact Ev.neg (by decide) (Ev.now _)
theorem FnFjValidBytes : laws_FnFjValidBytes.Pure := by
  intro s _
  refine Ev.rounds (r := true) (g := fun k => laws_FnFjValidBytes.f k s) ?_
  unfold laws_FnFjValidBytes.f
  by_cases c1 : (s.size : Int) > 2147483647
  · exact Ev.pos c1 (Ev.now _)
  refine Ev.neg c1 ?_
  by_cases c2 : (s.size : Int) > 4000
  · exact Ev.pos c2 (Ev.now _)
  refine Ev.neg c2 ?_
  obtain ⟨r, e⟩ := valid_ev s (by omega)
  refine Ev.bind (text_ev s r e) (Ev.bind (bytes_ev s (by omega) r e) ?_)
  refine Ev.pos (by simp) ?_
  exact Ev.bind (bytes_ev _ (by decide) none empty_ev) (Ev.now _)
end Go.Proofs.YtdhiihegfdmokaaDoor.Pure
