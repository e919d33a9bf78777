/- The reference's strings are those that fastjson's check takes, where no control character stands. -/
import Derived.Test.YtdhiihegfdmokaaDoorVGFnFjCheckObject
namespace Go.Proofs.YtdhiihegfdmokaaDoor.JFnFjCheckObject
open Go.RowKit Go.Proofs.YtdhiihegfdmokaaDoor.PFnFjCheckObject Go.Proofs.YtdhiihegfdmokaaDoorW.PrintWords Go.Proofs.YtdhiihegfdmokaaDoorW.PrintLast Go.Proofs.YtdhiihegfdmokaaDoorW.PrintMore

theorem strT_to {T : ByteArray} {i N : Nat} {g : Nat → Int} (hg : ∀ q : Nat, g q = bt T ((i + q : Nat) : Int)) (hN : i + N = T.size) {I j : Int} (h : StrT T I j) : ∀ a : Nat, I = ((i + a : Nat) : Int) →
    ∃ p : Nat, j = ((i + p + 1 : Nat) : Int) ∧ Bd g N a p ∧ EL g p a ∧ ∀ q, a ≤ q → q < p → 32 ≤ g q := by
  induction h with
  | @done I h c =>
    intro a e
    subst e
    exact ⟨a, by omega, .done (by omega) (by rw [hg]; exact c), .done, fun q h1 h2 => by omega⟩
  | @char I j h c1 c2 c3 _ ih =>
    intro a e
    subst e
    obtain ⟨p, e, b, l, n⟩ := ih (a + 1) (by omega)
    have := b.le
    refine ⟨p, e, .char (by omega) (by rw [hg]; exact c1) (by rw [hg]; exact c2) b, .char (by omega) (by rw [hg]; exact c2) l, fun q h1 h2 => ?_⟩
    by_cases e : q = a
    · rw [e, hg]; exact c3
    · exact n q (by omega) h2
  | @esc I j h c c2 _ ih =>
    intro a e
    subst e
    obtain ⟨p, e, b, l, n⟩ := ih (a + 2) (by omega)
    have := b.le
    have g0 : g a = 92 := by rw [hg]; exact c
    have g1 : IsEsc (g (a + 1)) := by rw [hg, show ((i + (a + 1) : Nat) : Int) = ((i + a : Nat) : Int) + 1 by omega]; exact c2
    refine ⟨p, e, .esc (by omega) g0 b, .esc (by omega) g0 g1 l, fun q h1 h2 => ?_⟩
    by_cases e : q = a
    · rw [e, g0]; omega
    · by_cases e : q = a + 1
      · rw [e]; unfold IsEsc at g1; omega
      · exact n q (by omega) h2
  | @uni I j h c c2 c3 _ ih =>
    intro a e
    subst e
    obtain ⟨p, e, b, l, n⟩ := ih (a + 6) (by omega)
    have := b.le
    have g0 : g a = 92 := by rw [hg]; exact c
    have g1 : g (a + 1) = 117 := by rw [hg, show ((i + (a + 1) : Nat) : Int) = ((i + a : Nat) : Int) + 1 by omega]; exact c2
    have g2 : ∀ q, a + 2 ≤ q → q < a + 6 → IsHex (g q) := fun q h1 h2 => by rw [hg]; exact c3 _ (by omega) (by omega)
    have hx : ∀ q, a + 2 ≤ q → q < a + 6 → g q ≠ 34 ∧ g q ≠ 92 ∧ 32 ≤ g q := fun q h1 h2 => by have := g2 q h1 h2; unfold IsHex at this; omega
    have s : ∀ q, a + 2 ≤ q → q < a + 6 → Bd g N (q + 1) p → Bd g N q p := fun q h1 h2 b => .char (by omega) (hx q h1 h2).1 (hx q h1 h2).2.1 b
    refine ⟨p, e, .esc (by omega) g0 (s _ (by omega) (by omega) (s _ (by omega) (by omega) (s _ (by omega) (by omega) (s _ (by omega) (by omega) b)))), .uni (by omega) g0 g1 g2 l, fun q h1 h2 => ?_⟩
    by_cases e : q = a
    · rw [e, g0]; omega
    · by_cases e : q = a + 1
      · rw [e, g1]; omega
      · by_cases e : q < a + 6
        · exact (hx q (by omega) e).2.2
        · exact n q (by omega) h2
theorem strT_of {T : ByteArray} {i N p : Nat} {g : Nat → Int} (hg : ∀ q : Nat, g q = bt T ((i + q : Nat) : Int)) (hN : i + N = T.size) {a : Nat} (l : EL g p a) : Bd g N a p → (∀ q, a ≤ q → q < p → 32 ≤ g q) → StrT T ((i + a : Nat) : Int) ((i + p + 1 : Nat) : Int) := by
  induction l with
  | done =>
    intro b _
    have e : ((i + p + 1 : Nat) : Int) = ((i + p : Nat) : Int) + 1 := by omega
    rw [e]
    exact .done (by have := b.hi; omega) (by rw [← hg]; exact b.at)
  | @char a h c _ ih =>
    intro b n
    have c1 : g a ≠ 34 := fun e => by have := b.quote e; omega
    have := b.hi
    refine .char (by omega) (by rw [← hg]; exact c1) (by rw [← hg]; exact c) (by rw [← hg]; exact n a (by omega) h) ?_
    rw [show ((i + a : Nat) : Int) + 1 = ((i + (a + 1) : Nat) : Int) by omega]
    exact ih ((Bd.char_iff (by omega) c1 c).1 b) (fun q h1 h2 => n q (by omega) h2)
  | @esc a h c c2 _ ih =>
    intro b n
    have := b.hi
    refine .esc (by omega) (by rw [← hg]; exact c) (by rw [show ((i + a : Nat) : Int) + 1 = ((i + (a + 1) : Nat) : Int) by omega, ← hg]; exact c2) ?_
    rw [show ((i + a : Nat) : Int) + 2 = ((i + (a + 2) : Nat) : Int) by omega]
    exact ih ((Bd.esc_iff c).1 b) (fun q h1 h2 => n q (by omega) h2)
  | @uni a h c c2 c3 _ ih =>
    intro b n
    have := b.hi
    have hx : ∀ q, a + 2 ≤ q → q < a + 6 → g q ≠ 34 ∧ g q ≠ 92 := fun q h1 h2 => by have := c3 q h1 h2; unfold IsHex at this; omega
    have s : ∀ q, a + 2 ≤ q → q < a + 6 → Bd g N q p → Bd g N (q + 1) p := fun q h1 h2 b => (Bd.char_iff (by omega) (hx q h1 h2).1 (hx q h1 h2).2).1 b
    refine .uni (by omega) (by rw [← hg]; exact c) (by rw [show ((i + a : Nat) : Int) + 1 = ((i + (a + 1) : Nat) : Int) by omega, ← hg]; exact c2) (fun q h1 h2 => ?_) ?_
    · have := c3 (q - i).toNat (by omega) (by omega)
      rw [hg, show ((i + (q - i).toNat : Nat) : Int) = q by omega] at this
      exact this
    rw [show ((i + a : Nat) : Int) + 6 = ((i + (a + 6) : Nat) : Int) by omega]
    exact ih (s _ (by omega) (by omega) (s _ (by omega) (by omega) (s _ (by omega) (by omega) (s _ (by omega) (by omega) ((Bd.esc_iff c).1 b))))) (fun q h1 h2 => n q (by omega) h2)
end Go.Proofs.YtdhiihegfdmokaaDoor.JFnFjCheckObject
