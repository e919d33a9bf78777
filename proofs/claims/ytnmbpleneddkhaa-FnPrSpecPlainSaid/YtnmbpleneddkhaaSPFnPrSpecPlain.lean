/- What a text must be for Spec to leave it as it is: no slash outside of strings, no comma ahead of a closing bracket. -/
import Derived.Test.YtnmbpleneddkhaaPFnPrSpecPlainx0
namespace Go.Proofs.Ytnmbpleneddkhaa.PFnPrSpecPlain
open Go.RowKit Go.Proofs.YtnmbpleneddkhaaW.PrintWords Go.Proofs.YtnmbpleneddkhaaW.PrintLast Go.Proofs.YtnmbpleneddkhaaW.PrintMore
/-- No comma is the last byte above the blanks ahead of a place. -/
def nc (g : Nat → Int) : Nat → Bool
  | 0 => true
  | j + 1 => if g j ≤ 32 then nc g j else decide (g j ≠ 44)
/-- How many backslashes stand right ahead of a place. -/
def bsl (g : Nat → Int) : Nat → Nat
  | 0 => 0
  | j + 1 => if g j = 92 then bsl g j + 1 else 0
/-- The string whose first mark stands at i ends with the mark at p. -/
def strP (g : Nat → Int) (i p : Nat) : Bool := decide (i < p) && decide (g p = 34) && decide (bsl g p % 2 = 0) && (List.range p).all fun q => decide (q ≤ i) || decide (g q ≠ 34) || decide (bsl g q % 2 = 1)
def run (g : Nat → Int) (N : Nat) : Nat → Nat → Bool
  | 0, _ => false
  | k + 1, i => if N ≤ i then true else if g i = 34 then (List.range N).any fun p => strP g i p && run g N k (p + 1)
    else if g i = 125 ∨ g i = 93 then nc g i && run g N k (i + 1) else decide (g i ≠ 47) && run g N k (i + 1)
inductive Run (g : Nat → Int) (N : Nat) : Nat → Prop
  | done : Run g N N
  | str {i p : Nat} (h : i < p) (hp : p < N) (c : g i = 34) (e : g p = 34) (ev : bsl g p % 2 = 0) (od : ∀ q, i < q → q < p → g q = 34 → bsl g q % 2 = 1) (t : Run g N (p + 1)) : Run g N i
  | close {i : Nat} (h : i < N) (c : g i = 125 ∨ g i = 93) (n : nc g i = true) (t : Run g N (i + 1)) : Run g N i
  | other {i : Nat} (h : i < N) (c1 : g i ≠ 34) (c2 : g i ≠ 125) (c3 : g i ≠ 93) (c4 : g i ≠ 47) (t : Run g N (i + 1)) : Run g N i
theorem Run.hi {g : Nat → Int} {N i : Nat} (h : Run g N i) : i ≤ N := by
  induction h <;> omega
theorem strP_iff {g : Nat → Int} {i p : Nat} : strP g i p = true ↔ i < p ∧ g p = 34 ∧ bsl g p % 2 = 0 ∧ ∀ q, i < q → q < p → g q = 34 → bsl g q % 2 = 1 := by
  unfold strP
  simp only [Bool.and_eq_true, decide_eq_true_eq, List.all_eq_true, List.mem_range, Bool.or_eq_true]
  constructor
  · rintro ⟨⟨⟨h1, h2⟩, h3⟩, h4⟩
    refine ⟨h1, h2, h3, fun q a b c => ?_⟩
    rcases h4 q b with (h | h) | h
    · omega
    · exact absurd c h
    · exact h
  · rintro ⟨h1, h2, h3, h4⟩
    refine ⟨⟨⟨h1, h2⟩, h3⟩, fun q b => ?_⟩
    by_cases a : q ≤ i
    · exact .inl (.inl a)
    · by_cases c : g q = 34
      · exact .inr (h4 q (by omega) b c)
      · exact .inl (.inr c)
theorem run_of {g : Nat → Int} {N : Nat} (k : Nat) : ∀ i, i ≤ N → run g N k i = true → Run g N i := by
  induction k with
  | zero => intro i _ h; cases h
  | succ k ih =>
    intro i hi h
    unfold run at h
    by_cases c0 : N ≤ i
    · obtain rfl : i = N := by omega
      exact .done
    rw [if_neg c0] at h
    by_cases c1 : g i = 34
    · rw [if_pos c1] at h
      simp only [List.any_eq_true, List.mem_range, Bool.and_eq_true, strP_iff] at h
      obtain ⟨p, h1, ⟨h2, h3, h4, h5⟩, h6⟩ := h
      exact .str h2 h1 c1 h3 h4 h5 (ih _ (by omega) h6)
    rw [if_neg c1] at h
    by_cases c2 : g i = 125 ∨ g i = 93
    · rw [if_pos c2, Bool.and_eq_true] at h
      exact .close (by omega) c2 h.1 (ih _ (by omega) h.2)
    · rw [if_neg c2, Bool.and_eq_true, decide_eq_true_iff] at h
      exact .other (by omega) c1 (by omega) (by omega) h.1 (ih _ (by omega) h.2)
theorem Run.run {g : Nat → Int} {N i : Nat} (h : Run g N i) : ∀ k, N - i < k → run g N k i = true := by
  induction h with
  | done =>
    intro k hk
    obtain ⟨k, rfl⟩ : ∃ m, k = m + 1 := ⟨k - 1, by omega⟩
    unfold PFnPrSpecPlain.run
    rw [if_pos (Nat.le_refl _)]
  | @str i p h hp c e ev od t ih =>
    intro k hk
    obtain ⟨k, rfl⟩ : ∃ m, k = m + 1 := ⟨k - 1, by omega⟩
    unfold PFnPrSpecPlain.run
    rw [if_neg (by omega), if_pos c]
    simp only [List.any_eq_true, List.mem_range, Bool.and_eq_true, strP_iff]
    exact ⟨p, hp, ⟨h, e, ev, od⟩, ih k (by omega)⟩
  | @close i h c n t ih =>
    intro k hk
    obtain ⟨k, rfl⟩ : ∃ m, k = m + 1 := ⟨k - 1, by omega⟩
    unfold PFnPrSpecPlain.run
    rw [if_neg (by omega), if_neg (by omega), if_pos c, n, ih k (by omega)]
    rfl
  | @other i h c1 c2 c3 c4 t ih =>
    intro k hk
    obtain ⟨k, rfl⟩ : ∃ m, k = m + 1 := ⟨k - 1, by omega⟩
    unfold PFnPrSpecPlain.run
    rw [if_neg (by omega), if_neg c1, if_neg (by omega), ih k (by omega), decide_eq_true c4]
    rfl
theorem bsl_le {g : Nat → Int} {i : Nat} (c : g i ≠ 92) : ∀ p, i < p → bsl g p + i < p := by
  intro p
  induction p with
  | zero => intro h; omega
  | succ p ih =>
    intro h
    unfold bsl
    by_cases e : g p = 92
    · rw [if_pos e]
      have : p ≠ i := fun h => c (h ▸ e)
      have := ih (by omega)
      omega
    · rw [if_neg e]; omega
theorem bsl_at {g : Nat → Int} : ∀ p d, d < bsl g p → d < p ∧ g (p - 1 - d) = 92 := by
  intro p
  induction p with
  | zero => intro d h; cases h
  | succ p ih =>
    intro d h
    unfold bsl at h
    by_cases e : g p = 92
    · rw [if_pos e] at h
      cases d with
      | zero => exact ⟨by omega, by simpa using e⟩
      | succ d =>
        have := ih d (by omega)
        exact ⟨by omega, by rw [show p + 1 - 1 - (d + 1) = p - 1 - d by omega]; exact this.2⟩
    · rw [if_neg e] at h; omega
theorem bsl_end {g : Nat → Int} : ∀ p, bsl g p < p → g (p - 1 - bsl g p) ≠ 92 := by
  intro p
  induction p with
  | zero => intro h; omega
  | succ p ih =>
    unfold bsl
    by_cases e : g p = 92
    · rw [if_pos e]
      intro h
      have := ih (by omega)
      rwa [show p + 1 - 1 - (bsl g p + 1) = p - 1 - bsl g p by omega]
    · rw [if_neg e]
      intro _
      simpa using e
end Go.Proofs.Ytnmbpleneddkhaa.PFnPrSpecPlain