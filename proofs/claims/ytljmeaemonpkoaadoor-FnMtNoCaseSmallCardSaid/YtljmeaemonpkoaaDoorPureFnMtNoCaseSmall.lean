/- MatchNoCase is Match of the two with small letters in the place of the capital ones of ASCII, and matches wherever the text is made of what the pattern's terms say; conditions: none beside the statement's own. -/
import Derived.Test.YtljmeaemonpkoaaDoorUNFnMtNoCaseSmall
namespace Go.Proofs.YtljmeaemonpkoaaDoor.Pure
open Go.RowKit Go.Proofs.YtljmeaemonpkoaaDoor.PFnMtNoCaseSmall Go.Proofs.YtljmeaemonpkoaaDoor.UFnMtNoCaseSmall Go.Proofs.YtljmeaemonpkoaaDoorW.PrintWords Go.Proofs.YtljmeaemonpkoaaDoorW.PrintLast Go.Proofs.YtljmeaemonpkoaaDoorW.PrintMore
set_option linter.unusedSimpArgs false
set_option linter.unusedVariables false
/-! ### small letters -/
theorem bytesOf_nums {xs : List Int} (h : By xs) : bytesOf (strOfNums xs) = xs := by
  unfold bytesOf
  rw [strOfNums_data, List.map_map]
  have : ∀ x ∈ xs, ((fun b : UInt8 => (b.toNat : Int)) ∘ fun n : Int => UInt8.ofNat n.toNat) x = x := fun x hx => by
    have := h x hx
    show ((UInt8.ofNat x.toNat).toNat : Int) = x
    rw [UInt8.toNat_ofNat']
    omega
  rw [List.map_congr_left this, List.map_id']
theorem en_high {c : Int} (h : Vd c) (hc : ¬ c < 128) : ∀ z ∈ en c, 128 ≤ z := by
  unfold Vd at h
  unfold en
  rw [if_neg hc]
  repeat' split
  all_goals
    intro z hz
    simp only [List.mem_cons, List.not_mem_nil, or_false] at hz
    rcases hz with hz | hz | hz | hz <;> omega
theorem vd_tl {c : Int} (h : Vd c) : Vd (tl c) := by
  unfold Vd tl at *
  split <;> omega
theorem en_tl {c : Int} (h : Vd c) : (en c).map sm = en (tl c) := by
  by_cases hc : c < 128
  · have h2 : tl c < 128 := by unfold tl; split <;> omega
    rw [en_ascii hc, en_ascii h2]
    rfl
  · have h2 : tl c = c := by unfold tl; rw [if_neg (by omega)]
    rw [h2]
    have : ∀ z ∈ en c, sm z = z := fun z hz => by
      have := en_high h hc z hz
      unfold sm
      rw [if_neg (by omega)]
    rw [List.map_congr_left this, List.map_id']
theorem small_chars (S : List Int) (hv : ∀ c ∈ S, Vd c) : (S.flatMap en).map sm = (S.map tl).flatMap en := by
  induction S with
  | nil => rfl
  | cons c S ih =>
    rw [List.flatMap_cons, List.map_append, List.map_cons, List.flatMap_cons, en_tl (hv c (by simp)), ih (fun x hx => hv x (by simp [hx]))]
theorem small_f (S : List Int) (hv : ∀ c ∈ S, Vd c) (hs : (bs S).size ≤ 4096) : spec_Small.f (bs S) = some (bs (S.map tl)) := by
  unfold spec_Small.f
  rw [if_pos (by omega)]
  congr 1
  unfold bs
  rw [bytesOf_nums (bs_by hv), small_chars S hv]
theorem small_size (S : List Int) (hv : ∀ c ∈ S, Vd c) : (bs (S.map tl)).size = (bs S).size := by
  unfold bs
  rw [← small_chars S hv, strOfNums_size, strOfNums_size, List.length_map]
theorem small_vd (S : List Int) (hv : ∀ c ∈ S, Vd c) : ∀ c ∈ S.map tl, Vd c := fun c hc => by
  obtain ⟨x, hx, rfl⟩ := List.mem_map.1 hc
  exact vd_tl (hv x hx)
theorem small_gl {Q : List Int} {gs : List G} (h : Gl Q gs) : ∃ gs', Gl (Q.map tl) gs' ∧ ∀ S : List Int, M id (S.map tl) gs' ↔ M tl S gs := by
  induction h with
  | nil => exact ⟨[], .nil, fun S => by rw [M.nil_iff, M.nil_iff, List.map_eq_nil_iff]⟩
  | star h ih =>
    obtain ⟨g', h1, h2⟩ := ih
    refine ⟨star :: g', .star h1, fun S => ?_⟩
    rw [M.star_iff, M.star_iff]
    constructor
    · rintro ⟨a, t, e, h⟩
      obtain ⟨a', t', rfl, rfl, rfl⟩ := List.map_eq_append_iff.1 e
      exact ⟨a', t', rfl, (h2 _).1 h⟩
    · rintro ⟨a, t, rfl, h⟩
      exact ⟨a.map tl, t.map tl, List.map_append, (h2 t).2 h⟩
  | one h ih =>
    obtain ⟨g', h1, h2⟩ := ih
    refine ⟨one :: g', .one h1, fun S => ?_⟩
    rw [M.one_iff, M.one_iff]
    constructor
    · rintro ⟨c, t, e, h⟩
      obtain ⟨c', t', rfl, rfl, rfl⟩ := List.map_eq_cons_iff.1 e
      exact ⟨c', t', rfl, (h2 _).1 h⟩
    · rintro ⟨c, t, rfl, h⟩
      exact ⟨tl c, t.map tl, rfl, (h2 t).2 h⟩
  | @esc d r g h ih =>
    obtain ⟨g', h1, h2⟩ := ih
    refine ⟨lit (tl d) :: g', .esc h1, fun S => ?_⟩
    rw [M.lit_iff, M.lit_iff]
    constructor
    · rintro ⟨c, t, e, he, h⟩
      obtain ⟨c', t', rfl, rfl, rfl⟩ := List.map_eq_cons_iff.1 e
      exact ⟨c', t', rfl, he, (h2 _).1 h⟩
    · rintro ⟨c, t, rfl, he, h⟩
      exact ⟨tl c, t.map tl, rfl, he, (h2 t).2 h⟩
  | @lit d r g k1 k2 k3 h ih =>
    obtain ⟨g', h1, h2⟩ := ih
    refine ⟨lit (tl d) :: g', .lit ?_ ?_ ?_ h1, fun S => ?_⟩
    · unfold tl; split <;> omega
    · unfold tl; split <;> omega
    · unfold tl; split <;> omega
    rw [M.lit_iff, M.lit_iff]
    constructor
    · rintro ⟨c, t, e, he, h⟩
      obtain ⟨c', t', rfl, rfl, rfl⟩ := List.map_eq_cons_iff.1 e
      exact ⟨c', t', rfl, he, (h2 _).1 h⟩
    · rintro ⟨c, t, rfl, he, h⟩
      exact ⟨tl c, t.map tl, rfl, he, (h2 t).2 h⟩
theorem fits_tl {S : List Int} {gs : List G} (h : M id S gs) : M tl S gs := by
  induction h with
  | nil => exact .nil
  | star _ ih => exact .star ih
  | one _ ih => exact .one ih
  | lit e _ ih => exact .lit (congrArg tl e) ih
/-! ### the code -/
theorem star_alone {P : List Int} (hv : ∀ x ∈ P, Vd x) (h : (bs P).toList = ([42] : List UInt8)) : P = [42] := by
  have hz : (bs P).size = 1 := by
    have := congrArg List.length h
    rw [ByteArray.toList_eq] at this
    simpa using this
  cases P with
  | nil => rw [bs_size_nil] at hz; cases hz
  | cons c r =>
    have sz := bs_size_cons c r
    have lc := en_len c
    have hr : r = [] := by
      apply Decidable.byContradiction
      intro hne
      have := bs_pos.2 hne
      omega
    subst hr
    have hvc := hv c (by simp)
    have ha : c < 128 := by
      apply Decidable.byContradiction
      intro hna
      have h1 : (en c).length ≠ 1 := by
        unfold en
        rw [if_neg hna]
        repeat' split
        all_goals simp
      rw [bs_size_nil] at sz
      omega
    have hb := head_ascii hvc [] ha
    have he : bs [c] = ⟨#[42]⟩ := by
      apply ByteArray.ext
      apply Array.ext'
      rw [ByteArray.toList_eq] at h
      exact h
    rw [he] at hb
    have : c = 42 := hb.symm
    rw [this]
theorem match0_ev (nb : Bool) (S Q : List Int) (gs : List G) (hvS : ∀ c ∈ S, Vd c) (hvQ : ∀ c ∈ Q, Vd c) (sS : (bs S).size ≤ 50000) (sQ : (bs Q).size ≤ 50000) (hg : Gl Q gs) :
    ∃ b, Ev (fun k => match_match0.f k (bs S) (bs Q) nb) b ∧ (b = true ↔ M (fo nb) S gs) := by
  unfold match_match0.f
  by_cases hs : (bs Q).toList = ([42] : List UInt8)
  · obtain rfl := star_alone hvQ hs
    obtain ⟨g0, rfl, hg0⟩ := gl_star hg
    obtain rfl : g0 = [] := by cases hg0; rfl
    exact ⟨true, Ev.pos hs (Ev.now _), ⟨fun _ => M.star_all, fun _ => rfl⟩⟩
  · obtain ⟨r, e, A⟩ := call_ev nb 0 (-1) (by decide) (find_ev nb 0 (-1) (by decide) (S.length + Q.length) S Q gs (Nat.le_refl _) hvS hvQ sS sQ hg)
    refine ⟨(r == 1), Ev.neg hs (Ev.bind e (Ev.now _)), ?_⟩
    rw [beq_iff_eq]
    refine ⟨A.yes, fun h => ?_⟩
    rcases A.ty with h3 | h3
    · exact absurd h (A.no h3)
    · exact h3
theorem FnMtNoCaseSmall : laws_FnMtNoCaseSmall.Pure := by
  intro s p _ _
  refine Ev.rounds (r := true) (g := fun k => laws_FnMtNoCaseSmall.f k s p) ?_
  have yes : Ev (fun k => laws_FnMtNoCaseSmall.j0 k s p true) true := by
    refine Ev.step (fun k => by rw [laws_FnMtNoCaseSmall.j0]) ?_
    exact Ev.pos rfl (Ev.now _)
  unfold laws_FnMtNoCaseSmall.f
  by_cases c1 : (s.size : Int) > 2147483647
  · exact Ev.pos c1 yes
  refine Ev.neg c1 ?_
  by_cases c2 : (p.size : Int) > 2147483647
  · rw [decide_eq_true c2]; exact yes
  rw [decide_eq_false c2]
  refine Ev.step (fun k => by rw [laws_FnMtNoCaseSmall.j0]) ?_
  obtain ⟨b, g, e, h⟩ := told_ev s p
  refine Ev.neg Bool.false_ne_true (Ev.bind e ?_)
  cases g with
  | false => exact Ev.neg Bool.false_ne_true (Ev.now _)
  | true =>
    obtain ⟨h1, h2, S, Q, gs, es, ep, hv, hq, hg, hb⟩ := h rfl
    subst es ep
    obtain ⟨gs', hg', hM⟩ := small_gl hg
    obtain ⟨m1, e1, k1⟩ := match0_ev true S Q gs hv hq (by omega) (by omega) hg
    obtain ⟨m2, e2, k2⟩ := match0_ev false (S.map tl) (Q.map tl) gs' (small_vd S hv) (small_vd Q hq) (by rw [small_size S hv]; omega) (by rw [small_size Q hq]; omega) hg'
    have same : m1 = m2 := by
      rw [Bool.eq_iff_iff, k1, k2]
      exact (hM S).symm
    have i1 : Ev (fun k => impl_MtNoCase.f k (bs S) (bs Q)) m1 := by
      unfold impl_MtNoCase.f match_MatchNoCase.f
      exact Ev.bind (Ev.bind e1 (Ev.now _)) (Ev.now _)
    have i2 : Ev (fun k => impl_MtMatch.f k (bs (S.map tl)) (bs (Q.map tl))) m2 := by
      unfold impl_MtMatch.f match_Match.f
      exact Ev.bind (Ev.bind e2 (Ev.now _)) (Ev.now _)
    refine Ev.pos rfl (Ev.bind i1 (Ev.bd (small_f S hv h1) (Ev.bd (small_f Q hq h2) (Ev.bind i2 ?_))))
    rw [same]
    refine Ev.pos (beq_self_eq_true m2) ?_
    cases hm : m2 with
    | true => exact Ev.pos rfl (Ev.now _)
    | false =>
      refine Ev.neg Bool.false_ne_true (Ev.eq ?_ (Ev.now _))
      cases b with
      | false => rfl
      | true =>
        have := k1.2 (fits_tl (hb.1 rfl))
        rw [same, hm] at this
        cases this
end Go.Proofs.YtljmeaemonpkoaaDoor.Pure
