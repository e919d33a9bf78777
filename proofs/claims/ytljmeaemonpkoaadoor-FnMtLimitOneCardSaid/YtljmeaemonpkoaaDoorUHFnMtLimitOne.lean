/- MatchLimit's answer; no condition beside those that each theorem states. -/
import Derived.Test.YtljmeaemonpkoaaDoorUGFnMtLimitOne
namespace Go.Proofs.YtljmeaemonpkoaaDoor.UFnMtLimitOne
open Go.RowKit Go.Proofs.YtljmeaemonpkoaaDoor.PFnMtLimitOne Go.Proofs.YtljmeaemonpkoaaDoorW.PrintWords Go.Proofs.YtljmeaemonpkoaaDoorW.PrintLast Go.Proofs.YtljmeaemonpkoaaDoorW.PrintMore
set_option linter.unusedSimpArgs false
set_option linter.unusedVariables false
theorem star_alone {P : List Int} (hv : ∀ x ∈ P, Vd x) (h : (bs P).toList = ([42] : List UInt8)) : P = [42] := by
  have hz : (bs P).size = 1 := by
    have := congrArg List.length h
    rw [ByteArray.toList_eq] at this
    simpa using this
  cases P with
  | nil => rw [bs_size_nil] at hz; cases hz
  | cons c r =>
    have sz := bs_size_cons c r
    have lc := en_len c
    have hr : r = [] := by
      apply Decidable.byContradiction
      intro hne
      have := bs_pos.2 hne
      omega
    subst hr
    have hvc := hv c (by simp)
    have ha : c < 128 := by
      apply Decidable.byContradiction
      intro hna
      have h1 : (en c).length ≠ 1 := by
        unfold en
        rw [if_neg hna]
        repeat' split
        all_goals simp
      rw [bs_size_nil] at sz
      omega
    have hb := head_ascii hvc [] ha
    have he : bs [c] = ⟨#[42]⟩ := by
      apply ByteArray.ext
      apply Array.ext'
      rw [ByteArray.toList_eq] at h
      exact h
    rw [he] at hb
    have : c = 42 := hb.symm
    rw [this]
theorem limit_ev (S P : List Int) (g : List G) (lim : Int) (hvS : ∀ x ∈ S, Vd x) (hvP : ∀ x ∈ P, Vd x) (sS : (bs S).size ≤ 4096) (sP : (bs P).size ≤ 4096) (hg : Gl P g) :
    ∃ m st, Ev (fun k => impl_MtLimit.f k (bs S) (bs P) lim) (m, st) ∧ (st = false → (m = true ↔ M id S g)) ∧ (P.count 42 ≤ 1 → 2 ≤ lim → lim ≤ 1000000 → S ≠ [] → st = false) := by
  have up : ∀ {m st : Bool}, Ev (fun k => match_matchLimit0.f k (bs S) (bs P) lim false) (m, st) → Ev (fun k => impl_MtLimit.f k (bs S) (bs P) lim) (m, st) := by
    intro m st e
    unfold impl_MtLimit.f match_MatchLimit.f
    exact Ev.bind (Ev.bind e (Ev.now _)) (Ev.now _)
  by_cases hs : (bs P).toList = ([42] : List UInt8)
  · obtain rfl := star_alone hvP hs
    obtain ⟨g0, rfl, hg0⟩ := gl_star hg
    obtain rfl : g0 = [] := by cases hg0; rfl
    refine ⟨true, false, up ?_, fun _ => ⟨fun _ => M.star_all, fun _ => rfl⟩, fun _ _ _ _ => rfl⟩
    unfold match_matchLimit0.f
    exact Ev.pos hs (Ev.now _)
  have hf : fo false = id := rfl
  have done : ∀ {r c : Int}, Ev (fun k => match_match.f k (bs S) (bs P) ((bs S).size : Int) 0 lim false) (r, c) → (r = 0 ∨ r = 1 ∨ r = 2) → (r = 1 → M id S g) → (r = 0 → ¬ M id S g) → (P.count 42 ≤ 1 → 2 ≤ lim → lim ≤ 1000000 → S ≠ [] → r ≠ 2) →
      ∃ m st, Ev (fun k => impl_MtLimit.f k (bs S) (bs P) lim) (m, st) ∧ (st = false → (m = true ↔ M id S g)) ∧ (P.count 42 ≤ 1 → 2 ≤ lim → lim ≤ 1000000 → S ≠ [] → st = false) := by
    intro r c e hr h1 h0 h2
    by_cases r2 : r = 2
    · refine ⟨false, true, up ?_, nofun, fun a b c d => absurd r2 (h2 a b c d)⟩
      unfold match_matchLimit0.f
      exact Ev.neg hs (Ev.bind e (Ev.pos r2 (Ev.now _)))
    · refine ⟨(r == 1), false, up ?_, fun _ => ?_, fun _ _ _ _ => rfl⟩
      · unfold match_matchLimit0.f
        exact Ev.neg hs (Ev.bind e (Ev.neg r2 (Ev.now _)))
      · rw [beq_iff_eq]
        refine ⟨h1, fun h => ?_⟩
        rcases hr with h3 | h3 | h3
        · exact absurd h (h0 h3)
        · exact h3
        · exact absurd h3 r2
  have sl := bs_len S
  have st := fun k => (show match_match.f (k + 1) (bs S) (bs P) ((bs S).size : Int) 0 lim false = _ by rw [match_match.f])
  have H := fun c1 => find_ev false ((bs S).size : Int) lim (S.length + P.length) S P g c1 (Nat.le_refl _) hvS hvP (by omega) (by omega) hg
  by_cases h1 : lim > (-1)
  · by_cases h2 : 0 > wrap64 (((bs S).size : Int) * lim)
    · refine done (r := 2) (c := 0) (Ev.step st (Ev.pos h1 (Ev.pos h2 (Ev.now _)))) (.inr (.inr rfl)) (fun h => by cases h) (fun h => by cases h) (fun _ a b d => ?_)
      exfalso
      have hm : 0 ≤ ((bs S).size : Int) * lim := Int.mul_nonneg (by omega) (by omega)
      have hm2 : ((bs S).size : Int) * lim ≤ 4096 * 1000000 := Int.mul_le_mul (by omega) b (by omega) (by omega)
      rw [w64 (by omega) (by omega)] at h2
      omega
    · obtain ⟨r, c, e, A⟩ := H (wrap64 (0 + 1))
      have w1 : wrap64 (0 + 1) = 1 := by unfold wrap64; omega
      refine done (Ev.step st (Ev.pos h1 (Ev.neg h2 (Ev.step (fun k => by rw [match_match.j0]) e)))) A.ty A.yes A.no (fun a b d hne => ?_)
      refine A.one a (by rw [w1]; decide) ?_
      have hp := bs_pos.2 hne
      have hm : ((bs S).size : Int) * 2 ≤ ((bs S).size : Int) * lim := Int.mul_le_mul_of_nonneg_left b (by omega)
      have hm2 : ((bs S).size : Int) * lim ≤ 4096 * 1000000 := Int.mul_le_mul (by omega) d (by omega) (by omega)
      rw [w1, w64 (by omega) (by omega)]
      omega
  · obtain ⟨r, c, e, A⟩ := H 0
    exact done (Ev.step st (Ev.neg h1 (Ev.step (fun k => by rw [match_match.j0]) e))) A.ty A.yes A.no (fun _ b _ _ => by omega)
end Go.Proofs.YtljmeaemonpkoaaDoor.UFnMtLimitOne
