/- A string's inside as fastjson checks it: up to the first quotation mark that is not escaped, its escapes, its control characters. -/
import Derived.Test.YtnmbpleneddkhaaJAFnPrSpecPlain
namespace Go.Proofs.Ytnmbpleneddkhaa.JFnPrSpecPlain
open Go.RowKit Go.Proofs.Ytnmbpleneddkhaa.PFnPrSpecPlain Go.Proofs.YtnmbpleneddkhaaW.PrintWords Go.Proofs.YtnmbpleneddkhaaW.PrintLast Go.Proofs.YtnmbpleneddkhaaW.PrintMore

/-- From a to the first quotation mark p that no backslash escapes. -/
inductive Bd (g : Nat → Int) (N : Nat) : Nat → Nat → Prop
  | done {p : Nat} (h : p < N) (c : g p = 34) : Bd g N p p
  | char {i p : Nat} (h : i < N) (c1 : g i ≠ 34) (c2 : g i ≠ 92) (t : Bd g N (i + 1) p) : Bd g N i p
  | esc {i p : Nat} (h : i + 1 < N) (c : g i = 92) (t : Bd g N (i + 2) p) : Bd g N i p
/-- From m to the end n each backslash begins an escape. -/
inductive EL (g : Nat → Int) (n : Nat) : Nat → Prop
  | done : EL g n n
  | char {i : Nat} (h : i < n) (c : g i ≠ 92) (t : EL g n (i + 1)) : EL g n i
  | esc {i : Nat} (h : i + 1 < n) (c : g i = 92) (c2 : IsEsc (g (i + 1))) (t : EL g n (i + 2)) : EL g n i
  | uni {i : Nat} (h : i + 5 < n) (c : g i = 92) (c2 : g (i + 1) = 117) (c3 : ∀ q, i + 2 ≤ q → q < i + 6 → IsHex (g q)) (t : EL g n (i + 6)) : EL g n i
theorem Bd.le {g : Nat → Int} {N a p : Nat} (h : Bd g N a p) : a ≤ p := by induction h <;> omega
theorem Bd.hi {g : Nat → Int} {N a p : Nat} (h : Bd g N a p) : p < N := by induction h <;> assumption
theorem Bd.at {g : Nat → Int} {N a p : Nat} (h : Bd g N a p) : g p = 34 := by induction h <;> assumption
theorem Bd.lt {g : Nat → Int} {N a p : Nat} (h : Bd g N a p) : a < N := Nat.lt_of_le_of_lt h.le h.hi
theorem Bd.char_iff {g : Nat → Int} {N a p : Nat} (h : a < N) (c1 : g a ≠ 34) (c2 : g a ≠ 92) : Bd g N a p ↔ Bd g N (a + 1) p := by
  constructor
  · intro b
    cases b with
    | done _ c => exact absurd c c1
    | char _ _ _ t => exact t
    | esc _ c _ => exact absurd c c2
  · exact fun t => .char h c1 c2 t
theorem Bd.esc_iff {g : Nat → Int} {N a p : Nat} (c : g a = 92) : Bd g N a p ↔ Bd g N (a + 2) p := by
  constructor
  · intro b
    cases b with
    | done _ c1 => omega
    | char _ _ c2 _ => exact absurd c c2
    | esc _ _ t => exact t
  · exact fun t => .esc (by have := t.lt; omega) c t
theorem Bd.quote {g : Nat → Int} {N a p : Nat} (b : Bd g N a p) (c : g a = 34) : p = a := by
  cases b with
  | done _ _ => rfl
  | char _ c1 _ _ => exact absurd c c1
  | esc _ c1 _ => omega
theorem Bd.det {g : Nat → Int} {N a p p2 : Nat} (b : Bd g N a p) (b2 : Bd g N a p2) : p = p2 := by
  induction b with
  | done _ c => exact (b2.quote c).symm
  | char h c1 c2 _ ih => exact ih ((Bd.char_iff h c1 c2).1 b2)
  | esc _ c _ ih => exact ih ((Bd.esc_iff c).1 b2)
/-- A mark ahead of the end has a backslash right ahead of it. -/
theorem Bd.mark {g : Nat → Int} {N a p : Nat} (b : Bd g N a p) : ∀ x, a ≤ x → x < p → g x = 34 → a < x ∧ g (x - 1) = 92 := by
  induction b with
  | done _ _ => intro x h1 h2; omega
  | @char i p h c1 c2 t ih =>
    intro x h1 h2 h3
    by_cases e : x = i
    · subst e; exact absurd h3 c1
    · have := ih x (by omega) h2 h3; exact ⟨by omega, this.2⟩
  | @esc i p h c t ih =>
    intro x h1 h2 h3
    by_cases e : x = i
    · subst e; omega
    · by_cases e1 : x = i + 1
      · subst e1; exact ⟨by omega, by simpa using c⟩
      · have := ih x (by omega) h2 h3; exact ⟨by omega, this.2⟩
theorem EL.le {g : Nat → Int} {n a : Nat} (h : EL g n a) : a ≤ n := by induction h <;> omega
theorem EL.char_iff {g : Nat → Int} {n a : Nat} (h : a < n) (c : g a ≠ 92) : EL g n a ↔ EL g n (a + 1) := by
  constructor
  · intro b
    cases b with
    | done => omega
    | char _ _ t => exact t
    | esc _ c1 _ _ => exact absurd c1 c
    | uni _ c1 _ _ _ => exact absurd c1 c
  · exact fun t => .char h c t
theorem EL.skip {g : Nat → Int} {n a : Nat} : ∀ d, a + d ≤ n → (∀ q, a ≤ q → q < a + d → g q ≠ 92) → (EL g n a ↔ EL g n (a + d)) := by
  intro d
  induction d with
  | zero => intro _ _; exact Iff.rfl
  | succ d ih =>
    intro h c
    rw [ih (by omega) (fun q h1 h2 => c q h1 (by omega)), EL.char_iff (by omega) (c _ (by omega) (by omega))]
    exact Iff.rfl
theorem EL.all {g : Nat → Int} {n a : Nat} (h : a ≤ n) (c : ∀ q, a ≤ q → q < n → g q ≠ 92) : EL g n a := by
  rw [EL.skip (n - a) (by omega) (fun q h1 h2 => c q h1 (by omega)), show a + (n - a) = n by omega]
  exact .done
theorem EL.esc_inv {g : Nat → Int} {n a : Nat} (c : g a = 92) (h : a < n) (b : EL g n a) : a + 1 < n ∧ ((IsEsc (g (a + 1)) ∧ EL g n (a + 2)) ∨ (g (a + 1) = 117 ∧ a + 5 < n ∧ (∀ q, a + 2 ≤ q → q < a + 6 → IsHex (g q)) ∧ EL g n (a + 6))) := by
  cases b with
  | done => omega
  | char _ c1 _ => exact absurd c c1
  | esc h _ c2 t => exact ⟨h, .inl ⟨c2, t⟩⟩
  | uni h _ c2 c3 t => exact ⟨by omega, .inr ⟨c2, h, c3, t⟩⟩
theorem EL.congr {f g : Nat → Int} {n a : Nat} (e : ∀ q, q < n → f q = g q) (b : EL f n a) : EL g n a := by
  induction b with
  | done => exact .done
  | char h c _ ih => exact .char h (by rw [← e _ h]; exact c) ih
  | esc h c c2 _ ih => exact .esc h (by rw [← e _ (by omega)]; exact c) (by rw [← e _ h]; exact c2) ih
  | uni h c c2 c3 _ ih => exact .uni h (by rw [← e _ (by omega)]; exact c) (by rw [← e _ (by omega)]; exact c2) (fun q h1 h2 => by rw [← e _ (by omega)]; exact c3 q h1 h2) ih
/-- c backslashes stand right ahead of place p, reckoned from off on. -/
structure Tr (g : Nat → Int) (off p c : Nat) : Prop where
  le : off + c ≤ p
  all : ∀ q : Nat, p - c ≤ q → q < p → g q = 92
  stop : off + c = p ∨ g (p - c - 1) ≠ 92
theorem Tr.ex (g : Nat → Int) (N off : Nat) : ∀ n, off + n ≤ N → (∀ q, off ≤ q → q < off + n → g q ≠ 34) →
    ∃ c, Tr g off (off + n) c ∧ (c % 2 = 0 → ∀ p, Bd g N off p ↔ Bd g N (off + n) p) ∧ (c % 2 = 1 → ∀ p, Bd g N off p ↔ Bd g N (off + n + 1) p) := by
  intro n
  induction n with
  | zero => intro _ _; exact ⟨0, ⟨by omega, fun q h1 h2 => by omega, .inl (by omega)⟩, fun _ _ => Iff.rfl, fun h => by omega⟩
  | succ n ih =>
    intro h hq
    obtain ⟨c, ht, h0, h1⟩ := ih (by omega) (fun q a b => hq q a (by omega))
    have hle := ht.le
    by_cases hb : g (off + n) = 92
    · refine ⟨c + 1, ⟨by omega, fun q a b => ?_, ?_⟩, fun he p => ?_, fun ho p => ?_⟩
      · by_cases e : q = off + n
        · rw [e]; exact hb
        · exact ht.all q (by omega) (by omega)
      · rcases ht.stop with e | e
        · left; omega
        · right; rw [show off + (n + 1) - (c + 1) - 1 = off + n - c - 1 by omega]; exact e
      · exact h1 (by omega) p
      · rw [h0 (by omega) p, Bd.esc_iff hb]; exact Iff.rfl
    · refine ⟨0, ⟨by omega, fun q a b => by omega, .inr (by rw [show off + (n + 1) - 0 - 1 = off + n by omega]; exact hb)⟩, fun _ p => ?_, fun h => by omega⟩
      by_cases he : c % 2 = 0
      · rw [h0 he p, Bd.char_iff (by omega) (hq _ (by omega) (by omega)) hb]; exact Iff.rfl
      · exact h1 (by omega) p
theorem Bd.none {g : Nat → Int} {N off : Nat} (c : ∀ q, off ≤ q → q < N → g q ≠ 34) (p : Nat) : ¬ Bd g N off p := fun b => c p b.le b.hi b.at
/-- A control character of which every later backslash comes behind a quotation mark stands behind the last escape. -/
theorem Bd.calm {g : Nat → Int} {N p : Nat} (b : Bd g N 0 p) (st : ∀ q e, q < e → e < N → g q < 32 → g e = 92 → ∃ x, q < x ∧ x < e ∧ g x = 34) {q : Nat} (hq : g q < 32) : ∀ e, q < e → e < p → g e = 92 → False := by
  intro e
  induction e using Nat.strongRecOn with
  | _ e ih =>
    intro h1 h2 h3
    have := b.hi
    obtain ⟨x, h4, h5, h6⟩ := st q e h1 (by omega) hq h3
    obtain ⟨h7, h8⟩ := b.mark x (by omega) (by omega) h6
    by_cases e1 : x - 1 = q
    · rw [e1] at h8; omega
    · exact ih (x - 1) (by omega) (by omega) (by omega) h8
end Go.Proofs.Ytnmbpleneddkhaa.JFnPrSpecPlain
