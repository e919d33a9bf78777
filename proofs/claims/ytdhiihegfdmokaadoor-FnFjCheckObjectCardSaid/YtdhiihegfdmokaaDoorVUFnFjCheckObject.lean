/- What fastjson's checks of a string and of a name answer. -/
import Derived.Test.YtdhiihegfdmokaaDoorVTFnFjCheckObject
namespace Go.Proofs.YtdhiihegfdmokaaDoor.JFnFjCheckObject
open Go.RowKit Go.Proofs.YtdhiihegfdmokaaDoor.PFnFjCheckObject Go.Proofs.YtdhiihegfdmokaaDoorW.PrintWords Go.Proofs.YtdhiihegfdmokaaDoorW.PrintLast Go.Proofs.YtdhiihegfdmokaaDoorW.PrintMore
set_option linter.unusedSimpArgs false
set_option linter.unusedVariables false

/-- What the check of a string or a name answers: s is the text behind its first quotation mark. -/
def StrOut (s : ByteArray) (r : R3) : Prop := (r.2.2.isSome = true ∧ ∀ p, ¬ (Bd (fun q => bt s q) s.size 0 p ∧ EL (fun q => bt s q) p 0)) ∨
  ∃ m p : Nat, m ≤ p ∧ p < s.size ∧ r = (s.extract m p, s.extract (p + 1) s.size, none) ∧ Bd (fun q => bt s q) s.size 0 p ∧ EL (fun q => bt s q) p 0 ∧ ∀ q : Nat, q < m → bt s q < 32 → ∃ e : Nat, q < e ∧ e < m ∧ bt s e = 92
theorem plain_out (s : ByteArray) (n : Nat) (hn : n < s.size) (h34 : bt s n = 34) (hq : ∀ q : Nat, q < n → bt s q ≠ 34 ∧ bt s q ≠ 92) : StrOut s (s.extract 0 n, s.extract (n + 1) s.size, none) := by
  have b : ∀ d a : Nat, a + d = n → Bd (fun q => bt s q) s.size a n := by
    intro d
    induction d with
    | zero => intro a ha; obtain rfl : a = n := by omega
              exact .done hn h34
    | succ d ih => intro a ha; exact .char (by omega) (hq a (by omega)).1 (hq a (by omega)).2 (ih (a + 1) (by omega))
  exact .inr ⟨0, n, by omega, hn, rfl, b n 0 (by omega), EL.all (by omega) (fun q _ h => (hq q h).2), fun q h => by omega⟩
theorem str_out (s : ByteArray) (hs : s.size ≤ 100000) : ∃ r, Ev (fun k => fastjson_validateString.f k s) r ∧ StrOut s r := by
  have slow : ∀ t : Int, ∃ r, Ev (fun k => fastjson_validateString.j0 k s t false) r ∧ StrOut s r := by
    intro t
    obtain ⟨r1, e1, h1⟩ := raw_ev s hs
    rcases h1 with ⟨h1, h2⟩ | ⟨n, h1, rfl, h2⟩
    · obtain ⟨a, b, c⟩ := r1
      dsimp only at h1
      subst h1
      refine ⟨(a, b, some 0), ?_, .inl ⟨rfl, fun p h => h2 p h.1⟩⟩
      refine Ev.step (fun k => by rw [fastjson_validateString.j0]) ?_
      exact Ev.neg Bool.false_ne_true (Ev.bind e1 (Ev.neg Bool.false_ne_true (Ev.now _)))
    · have zR : (s.extract 0 n).size = n := by rw [ByteArray.size_extract]; omega
      obtain ⟨r, e, ho⟩ := esc_loop (s.extract 0 n) (s.extract (n + 1) s.size) (by omega) n 0 (by omega) (by omega)
      rw [sx_zero] at e
      refine ⟨r, Ev.step (fun k => by rw [fastjson_validateString.j0]) (Ev.neg Bool.false_ne_true (Ev.bind e1 (Ev.pos rfl e))), ?_⟩
      have gb : ∀ q : Nat, q < n → bt (s.extract 0 n) q = bt s q := fun q hq => by
        rw [bt_x s 0 n q (by omega) (by omega) (by omega)]
        congr 1; omega
      unfold EscOut at ho
      rw [zR] at ho
      rcases ho with ⟨h3, h4⟩ | ⟨m, _, h3, rfl, h4, h5⟩
      · refine .inl ⟨h3, fun p h => h4 ?_⟩
        obtain rfl := h2.det h.1
        exact h.2.congr (fun q hq => (gb q hq).symm)
      · refine .inr ⟨m, n, h3, h1, ?_, h2, h4.congr (fun q hq => gb q hq), fun q hq hc => ?_⟩
        · have : sx (s.extract 0 n) m = s.extract m n := by
            unfold sx
            rw [ByteArray.extract_extract, zR]
            congr 1 <;> omega
          rw [this]
        · obtain ⟨e, h6, h7, h8⟩ := h5 q (by omega) hq (by rw [gb q (by omega)]; exact hc)
          exact ⟨e, h6, h7, by rw [← gb e (by omega)]; exact h8⟩
  unfold fastjson_validateString.f
  rcases ix_bt 34 s with ⟨h1, h2⟩ | ⟨n, hn, h1, h3, h4⟩
  · obtain ⟨r, e, ho⟩ := slow (-1)
    exact ⟨r, Ev.bd (a := -1) (ib _ 34 _ h1) (Ev.neg (by decide) e), ho⟩
  · have zR : (s.extract 0 n).size = n := by rw [ByteArray.size_extract]; omega
    have gb : ∀ q : Nat, q < n → bt (s.extract 0 n) q = bt s q := fun q hq => by
      rw [bt_x s 0 n q (by omega) (by omega) (by omega)]
      congr 1; omega
    rcases ix_bt 92 (s.extract 0 n) with ⟨h5, h6⟩ | ⟨n2, hn2, h5, h7, h8⟩
    · refine ⟨_, Ev.bd (a := (n : Int)) (ib _ 34 _ h1) (Ev.pos (by omega) (Ev.pos (by omega) (Ev.pos (by omega) (Ev.bd (a := -1) (ib _ 92 (-1) (by rw [Int.toNat_natCast]; exact h5)) ?_)))), plain_out s n hn h3 (fun q hq => ⟨h4 q hq, ?_⟩)⟩
      · refine Ev.step (fun k => by rw [fastjson_validateString.j0]) ?_
        rw [w1 n (by omega)]
        refine Ev.pos (by decide) (Ev.pos (by omega) (Ev.pos (by omega) (Ev.pos (by omega) (Ev.pos (by omega) (Ev.eq ?_ (Ev.now _))))))
        rw [Int.toNat_natCast, Int.toNat_natCast]
      · have := h6 q (by omega)
        rw [gb q hq] at this
        exact this
    · obtain ⟨r, e, ho⟩ := slow (n : Int)
      refine ⟨r, Ev.bd (a := (n : Int)) (ib _ 34 _ h1) (Ev.pos (by omega) (Ev.pos (by omega) (Ev.pos (by omega) (Ev.bd (a := (n2 : Int)) (ib _ 92 (n2 : Int) (by rw [Int.toNat_natCast]; exact h5)) ?_)))), ho⟩
      rw [decide_eq_false (by omega)]
      exact e
theorem key_out (s : ByteArray) (hs : s.size ≤ 100000) : ∃ r, Ev (fun k => fastjson_validateKey.f k s) r ∧ StrOut s r := by
  have go : ∀ d i : Nat, s.size - i = d → i ≤ s.size → (∀ q : Nat, q < i → bt s q ≠ 34 ∧ bt s q ≠ 92) → ∃ r, Ev (fun k => fastjson_validateKey.l0 k s (s.size : Int) (i : Int)) r ∧ StrOut s r := by
    intro d
    induction d with
    | zero =>
      intro i hd hi hq
      refine ⟨_, Ev.step (fun k => by rw [fastjson_validateKey.l0]) (Ev.neg (by omega) (Ev.bd (err_new _) (Ev.now _))), .inl ⟨rfl, fun p h => Bd.none (fun q _ b => (hq q (by omega)).1) p h.1⟩⟩
    | succ d ih =>
      intro i hd hi hq
      by_cases c1 : bt s i = 34
      · refine ⟨_, Ev.step (fun k => by rw [fastjson_validateKey.l0]) ?_, plain_out s i (by omega) c1 hq⟩
        rw [w1 i (by omega)]
        refine Ev.pos (by omega) (Ev.pos (by omega) (Ev.pos (by omega) (Ev.pos c1 (Ev.pos (by omega) (Ev.pos (by omega) (Ev.pos (by omega) (Ev.eq ?_ (Ev.now _))))))))
        rw [Int.toNat_natCast, Int.toNat_natCast]
      · by_cases c2 : bt s i = 92
        · obtain ⟨r, e, ho⟩ := str_out s hs
          exact ⟨r, Ev.step (fun k => by rw [fastjson_validateKey.l0]) (Ev.pos (by omega) (Ev.pos (by omega) (Ev.pos (by omega) (Ev.neg c1 (Ev.pos c2 (Ev.bind e (Ev.now _))))))), ho⟩
        · obtain ⟨r, e, ho⟩ := ih (i + 1) (by omega) (by omega) (fun q h => by
            by_cases e : q = i
            · rw [e]; exact ⟨c1, c2⟩
            · exact hq q (by omega))
          refine ⟨r, Ev.step (fun k => by rw [fastjson_validateKey.l0]) (Ev.pos (by omega) (Ev.pos (by omega) (Ev.pos (by omega) (Ev.neg c1 (Ev.neg c2 ?_))))), ho⟩
          rw [w1 i (by omega)]
          exact e
  exact go s.size 0 (by omega) (by omega) (fun q h => by omega)
end Go.Proofs.YtdhiihegfdmokaaDoor.JFnFjCheckObject
