/- What stands behind the brace that opens an object is checked up to its end, as the grammar says; conditions: none beside the statement's own. -/
import Derived.Test.YtdhiihegfdmokaaDoorVLFnFjCheckObject
namespace Go.Proofs.YtdhiihegfdmokaaDoor.Pure
open Go.RowKit Go.Proofs.YtdhiihegfdmokaaDoor.JFnFjCheckObject Go.Proofs.YtdhiihegfdmokaaDoor.PFnFjCheckObject Go.Proofs.YtdhiihegfdmokaaDoorW.PrintWords Go.Proofs.YtdhiihegfdmokaaDoorW.PrintLast Go.Proofs.YtdhiihegfdmokaaDoorW.PrintMore
set_option linter.unusedVariables false
theorem steady_l (s : ByteArray) (hs : s.size ≤ 100000) (d : Nat) : ∀ (i : Nat) (low : Bool), s.size - i = d → i ≤ s.size → ∃ b, Ev (fun k => laws_fjSteady.l0 k s low (i : Int)) b ∧ (b = true →
    (low = true → ∀ e : Nat, i ≤ e → e < s.size → bt s e = 92 → ∃ x : Nat, i ≤ x ∧ x < e ∧ bt s x = 34) ∧ (∀ q e : Nat, i ≤ q → q < e → e < s.size → bt s q < 32 → bt s e = 92 → ∃ x : Nat, q < x ∧ x < e ∧ bt s x = 34)) := by
  induction d with
  | zero =>
    intro i low hd hi
    exact ⟨true, Ev.step (fun k => by rw [laws_fjSteady.l0]) (Ev.neg (by omega) (Ev.now _)), fun _ => ⟨fun _ e h1 h2 => by omega, fun q e h1 h2 h3 => by omega⟩⟩
  | succ d ih =>
    intro i low hd hi
    have st : ∀ (l2 : Bool) (b : Bool), Ev (fun k => laws_fjSteady.l0 k s l2 ((i + 1 : Nat) : Int)) b → Ev (fun k => laws_fjSteady.l0 k s l2 (wrap64 ((i : Int) + 1))) b := fun l2 b e => by
      rw [w1 i (by omega)]; exact e
    by_cases c1 : bt s i = 34
    · obtain ⟨b, e, h⟩ := ih (i + 1) false (by omega) (by omega)
      refine ⟨b, Ev.step (fun k => by rw [laws_fjSteady.l0]) (Ev.pos (by omega) (Ev.pos (by omega) (Ev.pos c1 (st _ _ e)))), fun hb => ⟨fun _ e h1 h2 h3 => ?_, fun q e h1 h2 h3 h4 h5 => ?_⟩⟩
      · have : e ≠ i := fun h => by rw [h] at h3; omega
        exact ⟨i, by omega, by omega, c1⟩
      · have : q ≠ i := fun h => by rw [h] at h4; omega
        exact (h hb).2 q e (by omega) h2 h3 h4 h5
    by_cases c2 : bt s i = 92
    · cases low with
      | true =>
        refine ⟨false, Ev.step (fun k => by rw [laws_fjSteady.l0]) (Ev.pos (by omega) (Ev.pos (by omega) (Ev.neg c1 (Ev.pos c2 ?_)))), fun h => by cases h⟩
        exact Ev.step (fun k => by rw [laws_fjSteady.j1]) (Ev.pos rfl (Ev.now _))
      | false =>
        obtain ⟨b, e, h⟩ := ih (i + 1) false (by omega) (by omega)
        refine ⟨b, Ev.step (fun k => by rw [laws_fjSteady.l0]) (Ev.pos (by omega) (Ev.pos (by omega) (Ev.neg c1 (Ev.pos c2 ?_)))), fun hb => ⟨fun h => (by cases h), fun q e h1 h2 h3 h4 h5 => ?_⟩⟩
        · exact Ev.step (fun k => by rw [laws_fjSteady.j1]) (Ev.neg Bool.false_ne_true (Ev.pos (by omega) (Ev.pos (by omega) (Ev.neg (by omega) (st _ _ e)))))
        · have : q ≠ i := fun h => by rw [h] at h4; omega
          exact (h hb).2 q e (by omega) h2 h3 h4 h5
    by_cases c3 : bt s i < 32
    · obtain ⟨b, e, h⟩ := ih (i + 1) true (by omega) (by omega)
      refine ⟨b, Ev.step (fun k => by rw [laws_fjSteady.l0]) (Ev.pos (by omega) (Ev.pos (by omega) (Ev.neg c1 (Ev.neg c2 ?_)))), fun hb => ⟨fun _ e h1 h2 h3 => ?_, fun q e h1 h2 h3 h4 h5 => ?_⟩⟩
      · exact Ev.step (fun k => by rw [laws_fjSteady.j1]) (Ev.neg Bool.false_ne_true (Ev.pos (by omega) (Ev.pos (by omega) (Ev.pos c3 (st _ _ e)))))
      · have : e ≠ i := fun h => by rw [h] at h3; omega
        obtain ⟨x, h4, h5⟩ := (h hb).1 rfl e (by omega) h2 h3
        exact ⟨x, by omega, h5⟩
      · by_cases hq : q = i
        · obtain ⟨x, h6, h7⟩ := (h hb).1 rfl e (by omega) h3 h5
          exact ⟨x, by omega, h7⟩
        · exact (h hb).2 q e (by omega) h2 h3 h4 h5
    · obtain ⟨b, e, h⟩ := ih (i + 1) low (by omega) (by omega)
      refine ⟨b, Ev.step (fun k => by rw [laws_fjSteady.l0]) (Ev.pos (by omega) (Ev.pos (by omega) (Ev.neg c1 (Ev.neg c2 ?_)))), fun hb => ⟨fun hl e h1 h2 h3 => ?_, fun q e h1 h2 h3 h4 h5 => ?_⟩⟩
      · exact Ev.step (fun k => by rw [laws_fjSteady.j1]) (Ev.neg Bool.false_ne_true (Ev.pos (by omega) (Ev.pos (by omega) (Ev.neg c3 (st _ _ e)))))
      · have : e ≠ i := fun h => by rw [h] at h3; omega
        obtain ⟨x, h4, h5⟩ := (h hb).1 hl e (by omega) h2 h3
        exact ⟨x, by omega, h5⟩
      · have : q ≠ i := fun h => by rw [h] at h4; omega
        exact (h hb).2 q e (by omega) h2 h3 h4 h5
theorem steady_ev (s : ByteArray) (hs : s.size ≤ 100000) : ∃ b, Ev (fun k => laws_fjSteady.f k s) b ∧ (b = true → CtlOk s) := by
  obtain ⟨b, e, h⟩ := steady_l s hs s.size 0 false (by omega) (by omega)
  exact ⟨b, e, fun hb q e h1 h2 h3 h4 => (h hb).2 q e (by omega) h1 h2 h3 h4⟩
abbrev braced (s : ByteArray) : ByteArray := (⟨#[123]⟩ : ByteArray) ++ s
theorem braced_size (s : ByteArray) : (braced s).size = s.size + 1 := by
  rw [ByteArray.size_append]
  show 1 + s.size = _
  omega
theorem braced_cut (s : ByteArray) : sx (braced s) 1 = s :=
  ByteArray.extract_append_eq_right (by rfl) (by rw [braced_size]; show s.size + 1 = 1 + s.size; omega)
theorem braced_at (s : ByteArray) (q : Nat) : bt (braced s) ((1 + q : Nat) : Int) = bt s q := by
  rw [← sx_nat, braced_cut]
theorem braced_0 (s : ByteArray) : bt (braced s) 0 = 123 := by
  unfold bt
  have h : (0 : Int).toNat < (braced s).size := by rw [braced_size]; show 0 < _; omega
  rw [dif_pos h]
  have : (braced s)[(0 : Int).toNat]'h = 123 := by
    rw [ByteArray.getElem_append_left (by decide)]
    rfl
  rw [this]
  rfl
theorem braced_calm (s : ByteArray) (h : CtlOk s) : CtlOk (braced s) := by
  intro q e h1 h2 h3 h4
  rw [braced_size] at h2
  by_cases hq : q = 0
  · subst hq
    have := braced_0 s
    rw [show ((0 : Nat) : Int) = 0 by rfl, this] at h3
    omega
  · have e1 : q = 1 + (q - 1) := by omega
    have e2 : e = 1 + (e - 1) := by omega
    rw [e1, braced_at] at h3
    rw [e2, braced_at] at h4
    obtain ⟨x, h5, h6, h7⟩ := h (q - 1) (e - 1) (by omega) (by omega) h3 h4
    exact ⟨1 + x, by omega, by omega, by rw [braced_at]; exact h7⟩
theorem code_ev (s : ByteArray) (r : R2) (e : Ev (fun k => fastjson_validateObject.f k s) r) : Ev (fun k => impl_FjCheckObject.f k s) (if r.2.isNone = true then (r.1, true) else ((⟨#[]⟩ : ByteArray), false)) := by
  have e2 : Ev (fun k => fastjson_DoorCheckObject.f k s) r := by
    unfold fastjson_DoorCheckObject.f
    exact Ev.bind e (Ev.now _)
  unfold impl_FjCheckObject.f
  refine Ev.bind e2 ?_
  by_cases h : r.2.isNone = true
  · exact Ev.eq (if_pos h).symm (Ev.pos h (Ev.now _))
  · exact Ev.eq (if_neg h).symm (Ev.neg h (Ev.now _))
theorem one_ev : Ev (fun k => fastjson_validateObject.f k (⟨#[125]⟩ : ByteArray)) (⟨#[]⟩, none) := by
  have e0 : Ev (fun k => fastjson_skipWS.f k (⟨#[125]⟩ : ByteArray)) (⟨#[125]⟩ : ByteArray) := by
    unfold fastjson_skipWS.f
    exact Ev.neg (by decide) (Ev.pos (by decide) (Ev.pos (by decide) (Ev.now _)))
  have x2 : (⟨#[125]⟩ : ByteArray).extract 1 (⟨#[125]⟩ : ByteArray).size = (⟨#[]⟩ : ByteArray) := by decide
  refine Ev.step (fun k => by rw [fastjson_validateObject.f]) ?_
  refine Ev.bind e0 ?_
  rw [x2]
  exact Ev.neg (by decide) (Ev.pos (by decide) (Ev.pos (by decide) (Ev.pos (by decide) (Ev.now _))))
theorem both_ev (s : ByteArray) (hs : s.size ≤ 4000) (hc : CtlOk s) : ∃ x y : ByteArray × Bool, Ev (fun k => laws_behind.f k (braced s)) x ∧ Ev (fun k => impl_FjCheckObject.f k s) y ∧ y.2 = x.2 ∧ (x.2 = true → y.1 = x.1) := by
  have hz := braced_size s
  have h0 : bt (braced s) ((0 : Nat) : Int) = 123 := braced_0 s
  have hh : hr (braced s) ((0 : Nat) : Int) = bt (braced s) ((0 : Nat) : Int) := hr_lt (by omega)
  obtain ⟨ns, ks, ok, j, r, e1, e2, h1, h2, h3⟩ := q_obj (braced s) (by omega) _ (q_all (braced s) (by omega) (braced_calm s hc) ((braced s).size + 1)).2.2 0 (by omega) (by omega)
  have e2' : Ev (fun k => fastjson_validateObject.f k s) r := by
    have e3 := e2
    rw [Nat.zero_add, braced_cut] at e3
    exact e3
  have sr := fun k => (show spec_reader_value.f (k + 1) (braced s) ((0 : Nat) : Int) = _ by rw [spec_reader_value.f])
  have rd0 : Ev (fun k => spec_reader_value.f k (braced s) ((0 : Nat) : Int)) (6, ((0 : Nat) : Int), j, ns, ks, ok, braced s, j) := by
    refine Ev.step sr (Ev.bd (here_f (braced s) _ (by omega)) ?_)
    refine Ev.pos (show hr (braced s) ((0 : Nat) : Int) = 123 by omega) ?_
    exact Ev.bind e1 (Ev.now _)
  have rd : Ev (fun k => spec_reader_value.f k (braced s) 0) (6, 0, j, ns, ks, ok, braced s, j) := rd0
  have ec := code_ev s r e2'
  rcases h3 with ⟨rfl, n, rfl, _, h4, rfl⟩ | ⟨rfl, h4⟩
  · have eb : Ev (fun k => spec_Begins.f k (braced s)) (6, 0, (n : Int), ns, ks, true) := by
      unfold spec_Begins.f
      refine Ev.bind rd ?_
      exact Ev.pos rfl (Ev.neg (show ¬ (6 : Int) = 3 by decide) (Ev.now _))
    refine ⟨(sx (braced s) n, true), (sx (braced s) n, true), ?_, ec, rfl, fun _ => rfl⟩
    unfold laws_behind.f
    refine Ev.bind eb ?_
    refine Ev.pos rfl (Ev.pos (by omega) (Ev.pos (by omega) (Ev.eq ?_ (Ev.now _))))
    rw [Int.toNat_natCast]
  · have eb : Ev (fun k => spec_Begins.f k (braced s)) (0, 0, 0, [], [], false) := by
      unfold spec_Begins.f
      refine Ev.bind rd ?_
      exact Ev.neg Bool.false_ne_true (Ev.now _)
    rw [if_neg (isNone_some h4)] at ec
    refine ⟨(⟨#[]⟩, false), (⟨#[]⟩, false), ?_, ec, rfl, fun _ => rfl⟩
    unfold laws_behind.f
    refine Ev.bind eb ?_
    exact Ev.neg Bool.false_ne_true (Ev.now _)
theorem FnFjCheckObject : laws_FnFjCheckObject.Pure := by
  intro s _
  refine Ev.rounds (r := true) (g := fun k => laws_FnFjCheckObject.f k s) ?_
  have j0 : Ev (fun k => laws_FnFjCheckObject.j0 k s true) true := Ev.step (fun k => by rw [laws_FnFjCheckObject.j0]) (Ev.pos rfl (Ev.now _))
  unfold laws_FnFjCheckObject.f
  by_cases c1 : (s.size : Int) > 2147483647
  · exact Ev.pos c1 (Ev.now _)
  refine Ev.neg c1 ?_
  by_cases c2 : (s.size : Int) > 4000
  · exact Ev.pos c2 j0
  refine Ev.neg c2 ?_
  obtain ⟨b, e, hb⟩ := steady_ev s (by omega)
  refine Ev.bind e ?_
  cases b with
  | false => exact j0
  | true =>
    obtain ⟨x, y, ex, ey, h1, h2⟩ := both_ev s (by omega) (hb rfl)
    have eo := code_ev _ _ one_ev
    refine Ev.step (fun k => by rw [laws_FnFjCheckObject.j0]) ?_
    refine Ev.neg Bool.false_ne_true (Ev.pos (by omega) (Ev.bind ex (Ev.bind ey (Ev.bind eo ?_))))
    refine Ev.pos rfl (Ev.pos (by rw [h1]; exact beq_self_eq_true _) ?_)
    by_cases h3 : x.2 = true
    · refine Ev.pos h3 (Ev.eq ?_ (Ev.now _))
      rw [h2 h3]
      exact beq_self_eq_true _
    · exact Ev.neg h3 (Ev.now _)
end Go.Proofs.YtdhiihegfdmokaaDoor.Pure
