/- The reference's table of what fits: it says what the terms say; no condition beside those that each theorem states. -/
import Derived.Test.YtljmeaemonpkoaaDoorUDFnMtNoCaseSmall
namespace Go.Proofs.YtljmeaemonpkoaaDoor.UFnMtNoCaseSmall
open Go.RowKit Go.Proofs.YtljmeaemonpkoaaDoor.PFnMtNoCaseSmall Go.Proofs.YtljmeaemonpkoaaDoorW.PrintWords Go.Proofs.YtljmeaemonpkoaaDoorW.PrintLast Go.Proofs.YtljmeaemonpkoaaDoorW.PrintMore
set_option linter.unusedSimpArgs false
set_option linter.unusedVariables false

theorem rdB_set (xs : List Bool) (j : Nat) (v : Bool) (hj : j < xs.length) (q : Nat) : rdOf false (xs.set j v) (q : Int) = if q = j then v else rdOf false xs (q : Int) := by
  unfold rdOf
  simp only [Int.toNat_natCast]
  by_cases h : q = j
  · subst h
    rw [if_pos rfl, List.getD_eq_getElem?_getD, List.getElem?_set_self hj]
    rfl
  · rw [if_neg h, List.getD_eq_getElem?_getD, List.getElem?_set_ne (fun e => h e.symm), ← List.getD_eq_getElem?_getD]
structure Row (S : List Int) (g : List G) (row : List Bool) : Prop where
  len : row.length = S.length + 1
  val : ∀ j : Nat, j ≤ S.length → (rdOf false row (j : Int) = true ↔ M id (S.take j) g)
structure Nxt (S : List Int) (g : List G) (j : Nat) (row : List Bool) : Prop where
  len : row.length = S.length + 1
  val : ∀ q : Nat, q < j → q ≤ S.length → (rdOf false row (q : Int) = true ↔ M id (S.take q) g)
  rest : ∀ q : Nat, j ≤ q → rdOf false row (q : Int) = false
theorem Nxt.set {S : List Int} {g : List G} {j : Nat} {row : List Bool} (h : Nxt S g j row) (hj : j ≤ S.length) {v : Bool} (hv : v = true ↔ M id (S.take j) g) : Nxt S g (j + 1) (row.set j v) := by
  have hl : j < row.length := by rw [h.len]; omega
  refine ⟨by rw [List.length_set]; exact h.len, fun q h1 h2 => ?_, fun q h1 => ?_⟩
  · rw [rdB_set row j v hl q]
    by_cases e : q = j
    · rw [if_pos e, e]; exact hv
    · rw [if_neg e]; exact h.val q (by omega) h2
  · rw [rdB_set row j v hl q, if_neg (by omega)]; exact h.rest q (by omega)
theorem Nxt.skip {S : List Int} {g : List G} {j : Nat} {row : List Bool} (h : Nxt S g j row) (hj : j ≤ S.length) (hv : ¬ M id (S.take j) g) : Nxt S g (j + 1) row := by
  refine ⟨h.len, fun q h1 h2 => ?_, fun q h1 => h.rest q (by omega)⟩
  by_cases e : q = j
  · rw [e, h.rest j (Nat.le_refl _)]
    constructor
    · intro k; cases k
    · intro k; exact absurd k hv
  · exact h.val q (by omega) h2
theorem take_succ' (S : List Int) (j : Nat) (h : j < S.length) : S.take (j + 1) = S.take j ++ [rd S (j : Int)] := by
  rw [List.take_add_one, List.getElem?_eq_getElem h]
  unfold rd
  simp only [Int.toNat_natCast]
  rw [List.getD_eq_getElem?_getD, List.getElem?_eq_getElem h]
  rfl
theorem star_snoc {s : List Int} {c : Int} {g : List G} : M id (s ++ [c]) (g ++ [star]) ↔ M id (s ++ [c]) g ∨ M id s (g ++ [star]) := by
  rw [M.snoc_star, M.snoc_star]
  constructor
  · rintro ⟨a, b, e, h⟩
    rcases List.eq_nil_or_concat b with hb | ⟨b', x, hb⟩
    · rw [hb, List.append_nil] at e
      exact .inl (e ▸ h)
    · rw [hb, List.concat_eq_append, ← List.append_assoc] at e
      have e2 := List.append_inj' e rfl
      exact .inr ⟨a, b', e2.1, h⟩
  · rintro (h | ⟨a, b, e, h⟩)
    · exact ⟨s ++ [c], [], by simp, h⟩
    · exact ⟨a, b ++ [c], by rw [e, List.append_assoc], h⟩
theorem star_nil {g : List G} : M id [] (g ++ [star]) ↔ M id [] g := by
  rw [M.snoc_star]
  constructor
  · rintro ⟨a, b, e, h⟩
    have e2 := List.append_eq_nil_iff.1 e.symm
    rw [e2.1] at h; exact h
  · intro h; exact ⟨[], [], rfl, h⟩
def Tm (t : G) : Prop := t = star ∨ t = one ∨ ∃ c, t = lit c
theorem Gl.tm {p : List Int} {g : List G} (h : Gl p g) : ∀ t ∈ g, Tm t := by
  induction h with
  | nil => intro t ht; cases ht
  | star _ ih => intro t ht; rcases List.mem_cons.1 ht with rfl | ht; exact .inl rfl; exact ih t ht
  | one _ ih => intro t ht; rcases List.mem_cons.1 ht with rfl | ht; exact .inr (.inl rfl); exact ih t ht
  | esc _ ih => intro t ht; rcases List.mem_cons.1 ht with rfl | ht; exact .inr (.inr ⟨_, rfl⟩); exact ih t ht
  | lit _ _ _ _ ih => intro t ht; rcases List.mem_cons.1 ht with rfl | ht; exact .inr (.inr ⟨_, rfl⟩); exact ih t ht
section
variable (S : List Int) (hS : S.length ≤ 100000)
include hS
theorem fits_l1 (g gs : List G) (t : G) (ht : Tm t) (row : List Bool) (hr : Row S g row) (x17 x18 : Int) (P : Bool → Prop)
    (hrest : ∀ row', Row S (g ++ [t]) row' → ∃ b, Ev (fun k => spec_Fits.l0 k S row' gs x17 (wrap64 (x18 + 1))) b ∧ P b) (d : Nat) :
    ∀ (j : Nat) (x8 : List Bool), S.length + 1 - j = d → j ≤ S.length + 1 → Nxt S (g ++ [t]) j x8 → ∃ b, Ev (fun k => spec_Fits.l1 k S row x8 (j : Int) gs x17 x18 t.f0 t.f1 t.f2) b ∧ P b := by
  induction d with
  | zero =>
    intro j x8 hd hj hn
    obtain ⟨b, e, hp⟩ := hrest x8 ⟨hn.len, fun q hq => hn.val q (by omega) hq⟩
    exact ⟨b, Ev.step (fun k => by rw [spec_Fits.l1]) (Ev.neg (by omega) e), hp⟩
  | succ d ih =>
    intro j x8 hd hj hn
    have hjs : j ≤ S.length := by omega
    have st := fun k => (show spec_Fits.l1 (k + 1) S row x8 (j : Int) gs x17 x18 t.f0 t.f1 t.f2 = _ by rw [spec_Fits.l1])
    have ew : wrap64 ((j : Int) + 1) = ((j + 1 : Nat) : Int) := by rw [w64 (by omega) (by omega)]; omega
    rw [ew, Int.toNat_natCast] at st
    have hl := hn.len
    have hrl := hr.len
    have put : ∀ v : Bool, (v = true ↔ M id (S.take j) (g ++ [t])) → ∃ b, Ev (fun k => spec_Fits.l1 k S row (x8.set j v) ((j + 1 : Nat) : Int) gs x17 x18 t.f0 t.f1 t.f2) b ∧ P b := fun v hv =>
      ih (j + 1) _ (by omega) (by omega) (hn.set hjs hv)
    rcases ht with rfl | ht
    · -- a star
      by_cases c1 : rdOf false row (j : Int) = true
      · obtain ⟨b, e, hp⟩ := put true (by
          have := (hr.val j hjs).1 c1
          exact ⟨fun _ => M.snoc_star.2 ⟨_, [], (List.append_nil _).symm, this⟩, fun _ => rfl⟩)
        exact ⟨b, Ev.step st (Ev.pos (by omega) (Ev.pos rfl (Ev.pos (by omega) (Ev.pos (by omega) (Ev.pos c1 (Ev.pos (by omega) e)))))), hp⟩
      have n1 : ¬ M id (S.take j) g := fun h => c1 ((hr.val j hjs).2 h)
      by_cases c2 : (j : Int) > 0
      · obtain ⟨m, rfl⟩ : ∃ m, j = m + 1 := ⟨j - 1, by omega⟩
        have em : wrap64 (((m + 1 : Nat) : Int) - 1) = (m : Int) := by rw [w64 (by omega) (by omega)]; omega
        obtain ⟨b, e, hp⟩ := put (rdOf false x8 (m : Int)) (by
          rw [hn.val m (by omega) (by omega), take_succ' S m (by omega), star_snoc]
          rw [take_succ' S m (by omega)] at n1
          exact ⟨.inr, fun h => h.resolve_left n1⟩)
        refine ⟨b, Ev.step st (Ev.pos (by omega) (Ev.pos rfl (Ev.pos (by omega) (Ev.pos (by omega) (Ev.neg c1 (Ev.pos c2 (Ev.pos (by rw [em]; omega) (Ev.pos (by rw [em]; omega) (Ev.pos (by omega) ?_))))))))), hp⟩
        rw [em]; exact e
      · obtain rfl : j = 0 := by omega
        obtain ⟨b, e, hp⟩ := put false (by
          rw [List.take_zero, star_nil]
          rw [List.take_zero] at n1
          exact ⟨fun h => (by cases h), fun h => absurd h n1⟩)
        exact ⟨b, Ev.step st (Ev.pos (by omega) (Ev.pos rfl (Ev.pos (by omega) (Ev.pos (by omega) (Ev.neg c1 (Ev.neg c2 (Ev.pos (by omega) e))))))), hp⟩
    · have hf0 : t.f0 = false := by rcases ht with rfl | ⟨c, rfl⟩ <;> rfl
      have n0 : ¬ M id [] (g ++ [t]) := by
        rcases ht with rfl | ⟨c, rfl⟩
        · exact M.nil_snoc_one
        · exact M.nil_snoc_lit
      have hc0 : ¬ t.f0 = true := by rw [hf0]; decide
      by_cases c2 : (j : Int) > 0
      · obtain ⟨m, rfl⟩ : ∃ m, j = m + 1 := ⟨j - 1, by omega⟩
        have em : wrap64 (((m + 1 : Nat) : Int) - 1) = (m : Int) := by rw [w64 (by omega) (by omega)]; omega
        rw [em] at st
        by_cases c3 : rdOf false row (m : Int) = true
        · have hm := (hr.val m (by omega)).1 c3
          rcases ht with rfl | ⟨c, rfl⟩
          · obtain ⟨b, e, hp⟩ := put true (by rw [take_succ' S m (by omega), M.snoc_one]; exact ⟨fun _ => hm, fun _ => rfl⟩)
            exact ⟨b, Ev.step st (Ev.pos (by omega) (Ev.neg hc0 (Ev.pos c2 (Ev.pos (by omega) (Ev.pos (by omega) (Ev.pos c3 (Ev.pos rfl (Ev.pos (by omega) (Ev.pos (by omega) e))))))))), hp⟩
          · obtain ⟨b, e, hp⟩ := put (c == rd S (m : Int)) (by
              rw [take_succ' S m (by omega), M.snoc_lit, beq_iff_eq]
              exact ⟨fun h => ⟨h.symm, hm⟩, fun h => h.1.symm⟩)
            exact ⟨b, Ev.step st (Ev.pos (by omega) (Ev.neg hc0 (Ev.pos c2 (Ev.pos (by omega) (Ev.pos (by omega) (Ev.pos c3 (Ev.neg Bool.false_ne_true (Ev.pos (by omega) (Ev.pos (by omega) (Ev.pos (by omega) e)))))))))), hp⟩
        · have hm : ¬ M id (S.take m) g := fun h => c3 ((hr.val m (by omega)).2 h)
          obtain ⟨b, e, hp⟩ := ih (m + 1 + 1) x8 (by omega) (by omega) (hn.skip hjs (by
            rw [take_succ' S m (by omega)]
            rcases ht with rfl | ⟨c, rfl⟩
            · rw [M.snoc_one]; exact hm
            · rw [M.snoc_lit]; exact fun h => hm h.2))
          exact ⟨b, Ev.step st (Ev.pos (by omega) (Ev.neg hc0 (Ev.pos c2 (Ev.pos (by omega) (Ev.pos (by omega) (Ev.neg c3 e)))))), hp⟩
      · obtain rfl : j = 0 := by omega
        obtain ⟨b, e, hp⟩ := ih (0 + 1) x8 (by omega) (by omega) (hn.skip hjs (by rw [List.take_zero]; exact n0))
        exact ⟨b, Ev.step st (Ev.pos (by omega) (Ev.neg hc0 (Ev.neg c2 e))), hp⟩
theorem fits_l0 (gs : List G) (hg : gs.length ≤ 100000) (ht : ∀ t ∈ gs, Tm t) (d : Nat) : ∀ (m : Nat) (row : List Bool), gs.length - m = d → m ≤ gs.length → Row S (gs.take m) row →
    ∃ b, Ev (fun k => spec_Fits.l0 k S row gs (gs.length : Int) (m : Int)) b ∧ (b = true ↔ M id S gs) := by
  induction d with
  | zero =>
    intro m row hd hm hr
    have hl := hr.len
    refine ⟨_, Ev.step (fun k => by rw [spec_Fits.l0]) (Ev.neg (by omega) (Ev.pos (by omega) (Ev.pos (by omega) (Ev.now _)))), ?_⟩
    have := hr.val S.length (Nat.le_refl _)
    rw [List.take_length, show m = gs.length by omega, List.take_length] at this
    exact this
  | succ d ih =>
    intro m row hd hm hr
    have hlt : m < gs.length := by omega
    have ew : wrap64 ((S.length : Int) + 1) = ((S.length + 1 : Nat) : Int) := by rw [w64 (by omega) (by omega)]; omega
    have et : rd_T70 gs (m : Int) = gs[m] := by
      unfold rd_T70
      simp only [Int.toNat_natCast]
      rw [List.getD_eq_getElem?_getD, List.getElem?_eq_getElem hlt]
      rfl
    have etk : gs.take (m + 1) = gs.take m ++ [gs[m]] := by rw [List.take_add_one, List.getElem?_eq_getElem hlt]; rfl
    obtain ⟨b, e, hp⟩ := fits_l1 S hS (gs.take m) gs gs[m] (ht _ (List.getElem_mem hlt)) row hr (gs.length : Int) (m : Int) (fun b => (b = true ↔ M id S gs)) (by
      intro row' hr'
      rw [← etk] at hr'
      obtain ⟨b, e, h⟩ := ih (m + 1) row' (by omega) (by omega) hr'
      refine ⟨b, ?_, h⟩
      rw [w64 (by omega) (by omega)]
      exact e) (S.length + 1) 0 (List.replicate (S.length + 1) false) (by omega) (by omega) ⟨by simp, fun q h => by omega, fun q _ => by
        unfold rdOf
        rw [List.getD_eq_getElem?_getD, List.getElem?_replicate]
        split <;> rfl⟩
    refine ⟨b, Ev.step (fun k => by rw [spec_Fits.l0]) ?_, hp⟩
    rw [ew, Int.toNat_natCast, et]
    exact Ev.pos (by omega) (Ev.pos (by omega) (Ev.pos (by omega) (Ev.pos (by omega) (Ev.pos (by omega) e))))
theorem fits_ev (gs : List G) (hg : gs.length ≤ 100000) (ht : ∀ t ∈ gs, Tm t) : ∃ b, Ev (fun k => spec_Fits.f k S gs) b ∧ (b = true ↔ M id S gs) := by
  have ew : wrap64 ((S.length : Int) + 1) = ((S.length + 1 : Nat) : Int) := by rw [w64 (by omega) (by omega)]; omega
  obtain ⟨b, e, h⟩ := fits_l0 S hS gs hg ht gs.length 0 ((List.replicate (S.length + 1) false).set 0 true) (by omega) (by omega) ⟨by simp, fun j hj => by
    rw [rdB_set _ 0 true (by simp) j, List.take_zero, M.nil_iff]
    by_cases h0 : j = 0
    · rw [if_pos h0, h0, List.take_zero]; simp
    · rw [if_neg h0]
      have e1 : rdOf false (List.replicate (S.length + 1) false) (j : Int) = false := by
        unfold rdOf
        rw [List.getD_eq_getElem?_getD, List.getElem?_replicate]
        split <;> rfl
      rw [e1]
      constructor
      · intro h; cases h
      · intro h
        have := congrArg List.length h
        rw [List.length_take] at this
        simp only [List.length_nil] at this
        omega⟩
  refine ⟨b, ?_, h⟩
  unfold spec_Fits.f
  rw [ew, Int.toNat_natCast]
  simp only [Option.bind_some, List.length_replicate]
  exact Ev.pos (by omega) (Ev.pos (by omega) (Ev.pos (by omega) e))
end
/-- What the reference says of a text and a pattern. -/
theorem told_ev (s p : ByteArray) : ∃ b g, Ev (fun k => laws_mtTold.f k s p) (b, g) ∧ (g = true → s.size ≤ 4096 ∧ p.size ≤ 4096 ∧ ∃ S Q gs, s = bs S ∧ p = bs Q ∧ (∀ c ∈ S, Vd c) ∧ (∀ c ∈ Q, Vd c) ∧ Gl Q gs ∧ (b = true ↔ M id S gs)) := by
  unfold laws_mtTold.f
  by_cases c1 : (s.size : Int) > 4096
  · exact ⟨_, _, Ev.pos c1 (Ev.now _), nofun⟩
  by_cases c2 : (p.size : Int) > 4096
  · exact ⟨_, _, Ev.neg c1 (Ev.pos c2 (Ev.now _)), nofun⟩
  obtain ⟨S, b1, e1, h1⟩ := chars_ev s (by omega)
  obtain ⟨gs, b2, e2, h2⟩ := globs_ev p (by omega)
  cases b1 with
  | false => exact ⟨_, _, Ev.neg c1 (Ev.neg c2 (Ev.bind (show Ev (fun k => spec_Matches.f k s p) (false, false) from by unfold spec_Matches.f; exact Ev.bind e1 (Ev.bind e2 (Ev.neg Bool.false_ne_true (Ev.now _)))) (Ev.now _))), nofun⟩
  | true =>
    cases b2 with
    | false => exact ⟨_, _, Ev.neg c1 (Ev.neg c2 (Ev.bind (show Ev (fun k => spec_Matches.f k s p) (false, false) from by unfold spec_Matches.f; exact Ev.bind e1 (Ev.bind e2 (Ev.pos rfl (Ev.neg Bool.false_ne_true (Ev.now _))))) (Ev.now _))), nofun⟩
    | true =>
      obtain ⟨es, hv⟩ := h1 rfl
      obtain ⟨Q, ep, hg, hq⟩ := h2 rfl
      have l1 := bs_len S
      have l2 := bs_len Q
      rw [← es] at l1
      rw [← ep] at l2
      have lg : gs.length ≤ Q.length := by
        clear ep hq h2 e2 l2
        induction hg with
        | nil => exact Nat.le_refl _
        | star _ ih => simpa using ih
        | one _ ih => simpa using ih
        | esc _ ih => simp; omega
        | lit _ _ _ _ ih => simpa using ih
      obtain ⟨b, e, h⟩ := fits_ev S (by omega) gs (by omega) hg.tm
      exact ⟨b, true, Ev.neg c1 (Ev.neg c2 (Ev.bind (show Ev (fun k => spec_Matches.f k s p) (b, true) from by unfold spec_Matches.f; exact Ev.bind e1 (Ev.bind e2 (Ev.pos rfl (Ev.pos rfl (Ev.bind e (Ev.now _)))))) (Ev.now _))), fun _ => ⟨by omega, by omega, S, Q, gs, es, ep, hv, hq, hg, h⟩⟩
end Go.Proofs.YtljmeaemonpkoaaDoor.UFnMtNoCaseSmall
