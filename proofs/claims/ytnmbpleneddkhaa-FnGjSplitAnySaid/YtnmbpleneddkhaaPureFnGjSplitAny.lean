/- Where gjson splits a path at a pipe, the two parts with the pipe between them are the path; a path without a pipe is not split, and "a|b" is; conditions: none beside the statement's own. -/
import Derived.Test.YtnmbpleneddkhaaPFnGjSplitAnyx
import Derived.Lib.Strings
namespace Go.Proofs.Ytnmbpleneddkhaa.Pure
open Go.RowKit Go.Proofs.Ytnmbpleneddkhaa.PFnGjSplitAny Go.Proofs.YtnmbpleneddkhaaW.PrintWords Go.Proofs.YtnmbpleneddkhaaW.PrintLast Go.Proofs.YtnmbpleneddkhaaW.PrintMore

theorem w64 {x : Int} (h0 : -9223372036854775808 ≤ x) (h1 : x ≤ 9223372036854775807) : wrap64 x = x := by
  unfold wrap64; omega
theorem Ev.pos {α : Type} {c : Prop} [Decidable c] {f g : Nat → Option α} {r : α} (h : c) (e : Ev f r) : Ev (fun k => if c then f k else g k) r :=
  Ev.congr (fun _ => if_pos h) e
theorem Ev.neg {α : Type} {c : Prop} [Decidable c] {f g : Nat → Option α} {r : α} (h : ¬ c) (e : Ev g r) : Ev (fun k => if c then f k else g k) r :=
  Ev.congr (fun _ => if_neg h) e
theorem Ev.eq {α : Type} {f : Nat → Option α} {a b : α} (h : a = b) (e : Ev f a) : Ev f b := h ▸ e

/-! ### the squash ends -/
theorem sq_l2 (s : ByteArray) (hs : (s.size : Int) ≤ 2147483647) (i x4 s0 : Int) (hs0 : 1 ≤ s0) (hsi : s0 ≤ i) (hi : i < s.size) (h1 : ∃ r, Ev (fun k => gjson_squash.l1 k s (wrap64 (i + 1)) x4 s0) r) (h2 : ∃ r, Ev (fun k => gjson_squash.j5 k s i x4) r) (d : Nat) :
    ∀ n j : Int, j < i → j ≥ -2 → j + 2 ≤ d → ∃ r, Ev (fun k => gjson_squash.l2 k s i x4 s0 n j) r := by
  obtain ⟨r1, e1⟩ := h1
  obtain ⟨r2, e2⟩ := h2
  have fin : ∀ n : Int, ∃ r, Ev (fun k => if Int.tmod n 2 = 0 then gjson_squash.l1 k s (wrap64 (i + 1)) x4 s0 else gjson_squash.j5 k s i x4) r := by
    intro n
    by_cases c : Int.tmod n 2 = 0
    · exact ⟨r1, Ev.pos c e1⟩
    · exact ⟨r2, Ev.neg c e2⟩
  have hw : wrap64 (s0 - 1) = s0 - 1 := w64 (by omega) (by omega)
  induction d with
  | zero =>
    intro n j hj h3 hd
    obtain ⟨r, e⟩ := fin n
    exact ⟨r, Ev.step (fun k => by rw [gjson_squash.l2]) (Ev.neg (by rw [hw]; omega) e)⟩
  | succ d ih =>
    intro n j hj h3 hd
    obtain ⟨r, e⟩ := fin n
    by_cases c : j > wrap64 (s0 - 1)
    · by_cases c0 : 0 ≤ j
      · by_cases c1 : bt s j = 92
        · obtain ⟨r', e'⟩ := ih (wrap64 (n + 1)) (j - 1) (by omega) (by omega) (by omega)
          refine ⟨r', Ev.step (fun k => by rw [gjson_squash.l2]) (Ev.pos c (Ev.pos c0 (Ev.pos (by omega) (Ev.pos c1 ?_))))⟩
          rw [w64 (x := j - 1) (by omega) (by omega)]
          exact e'
        · exact ⟨r, Ev.step (fun k => by rw [gjson_squash.l2]) (Ev.pos c (Ev.pos c0 (Ev.pos (by omega) (Ev.neg c1 e))))⟩
      · exfalso
        rw [hw] at c; omega
    · exact ⟨r, Ev.step (fun k => by rw [gjson_squash.l2]) (Ev.neg c e)⟩
def SqEnds (s : ByteArray) (d : Nat) : Prop := ∀ i x4 : Int, 0 ≤ i → i ≤ s.size + 2 → s.size - i < d → (∃ r, Ev (fun k => gjson_squash.l0 k s i x4) r) ∧ ∀ s0 : Int, 1 ≤ s0 → s0 ≤ i → ∃ r, Ev (fun k => gjson_squash.l1 k s i x4 s0) r
theorem sq_out (s : ByteArray) (i x4 : Int) (h : (s.size : Int) ≤ i) : ∃ r, Ev (fun k => gjson_squash.l0 k s i x4) r :=
  ⟨s, Ev.step (fun k => by rw [gjson_squash.l0]) (Ev.neg (by omega) (Ev.now _))⟩
theorem sq_j5 (s : ByteArray) (hs : (s.size : Int) ≤ 2147483647) (i x4 : Int) (h0 : 0 ≤ i) (hi : i ≤ s.size + 2) (h : ∃ r, Ev (fun k => gjson_squash.l0 k s (i + 1) x4) r) : ∃ r, Ev (fun k => gjson_squash.j5 k s i x4) r := by
  have hw : wrap64 (i + 1) = i + 1 := w64 (by omega) (by omega)
  obtain ⟨r, e⟩ := h
  by_cases c : x4 = 0
  · by_cases c1 : i ≥ s.size
    · exact ⟨s, Ev.step (fun k => by rw [gjson_squash.j5]) (Ev.pos c (Ev.pos c1 (Ev.now _)))⟩
    · exact ⟨_, Ev.step (fun k => by rw [gjson_squash.j5]) (Ev.pos c (Ev.neg c1 (Ev.pos (by omega) (Ev.pos (by omega) (Ev.now _)))))⟩
  · exact ⟨r, Ev.step (fun k => by rw [gjson_squash.j5]) (Ev.neg c (by rw [hw]; exact e))⟩
theorem sq_ends (s : ByteArray) (hs : (s.size : Int) ≤ 2147483647) (d : Nat) : SqEnds s d := by
  induction d with
  | zero =>
    intro i x4 h0 h1 hd
    refine ⟨sq_out s i x4 (by omega), fun s0 h2 h3 => ?_⟩
    obtain ⟨r, e⟩ := sq_j5 s hs i x4 h0 h1 (sq_out s (i + 1) x4 (by omega))
    exact ⟨r, Ev.step (fun k => by rw [gjson_squash.l1]) (Ev.neg (by omega) e)⟩
  | succ d ih =>
    intro i x4 h0 h1 hd
    by_cases hi : i < s.size
    · have hw : wrap64 (i + 1) = i + 1 := w64 (by omega) (by omega)
      have nx := fun x => ih (i + 1) x (by omega) (by omega) (by omega)
      have nx0 : ∀ x, ∃ r, Ev (fun k => gjson_squash.l0 k s (wrap64 (i + 1)) x) r := fun x => by rw [hw]; exact (nx x).1
      have nx1 : ∀ x s0, 1 ≤ s0 → s0 ≤ i + 1 → ∃ r, Ev (fun k => gjson_squash.l1 k s (wrap64 (i + 1)) x s0) r := fun x s0 a b => by rw [hw]; exact (nx x).2 s0 a b
      constructor
      · have j7 : ∀ b, ∃ r, Ev (fun k => gjson_squash.j7 k s i x4 b) r := by
          intro b
          cases b with
          | false =>
            obtain ⟨r, e⟩ := nx0 x4
            exact ⟨r, Ev.step (fun k => by rw [gjson_squash.j7]) (Ev.neg Bool.false_ne_true e)⟩
          | true =>
            obtain ⟨r, e⟩ := nx0 (wrap64 (x4 - 1))
            by_cases c : wrap64 (x4 - 1) = 0
            · exact ⟨_, Ev.step (fun k => by rw [gjson_squash.j7]) (Ev.pos rfl (Ev.pos c (Ev.pos (by omega) (Ev.pos (by omega) (Ev.now _)))))⟩
            · exact ⟨r, Ev.step (fun k => by rw [gjson_squash.j7]) (Ev.pos rfl (Ev.neg c e))⟩
        have j6 : ∀ c b, ∃ r, Ev (fun k => gjson_squash.j6 k s i x4 c b) r := by
          intro c b
          cases b with
          | true =>
            obtain ⟨r, e⟩ := nx0 (wrap64 (x4 + 1))
            exact ⟨r, Ev.step (fun k => by rw [gjson_squash.j6]) (Ev.pos rfl e)⟩
          | false =>
            by_cases c1 : c = 125
            · obtain ⟨r, e⟩ := j7 (c == 125)
              exact ⟨r, Ev.step (fun k => by rw [gjson_squash.j6]) (Ev.neg Bool.false_ne_true (Ev.pos c1 e))⟩
            by_cases c2 : c = 93
            · obtain ⟨r, e⟩ := j7 (c == 93)
              exact ⟨r, Ev.step (fun k => by rw [gjson_squash.j6]) (Ev.neg Bool.false_ne_true (Ev.neg c1 (Ev.pos c2 e)))⟩
            · obtain ⟨r, e⟩ := j7 (c == 41)
              exact ⟨r, Ev.step (fun k => by rw [gjson_squash.j6]) (Ev.neg Bool.false_ne_true (Ev.neg c1 (Ev.neg c2 e)))⟩
        have j2 : ∀ b, ∃ r, Ev (fun k => gjson_squash.j2 k s i x4 b) r := by
          intro b
          cases b with
          | false =>
            obtain ⟨r, e⟩ := nx0 x4
            exact ⟨r, Ev.step (fun k => by rw [gjson_squash.j2]) (Ev.neg Bool.false_ne_true e)⟩
          | true =>
            by_cases c1 : bt s i = 34
            · obtain ⟨r, e⟩ := nx1 x4 (i + 1) (by omega) (by omega)
              exact ⟨r, Ev.step (fun k => by rw [gjson_squash.j2]) (Ev.pos rfl (Ev.pos h0 (Ev.pos hi (Ev.pos c1 (by rw [hw] at e ⊢; exact e)))))⟩
            by_cases c2 : bt s i = 123
            · obtain ⟨r, e⟩ := j6 (bt s i) (bt s i == 123)
              exact ⟨r, Ev.step (fun k => by rw [gjson_squash.j2]) (Ev.pos rfl (Ev.pos h0 (Ev.pos hi (Ev.neg c1 (Ev.pos c2 e)))))⟩
            by_cases c3 : bt s i = 91
            · obtain ⟨r, e⟩ := j6 (bt s i) (bt s i == 91)
              exact ⟨r, Ev.step (fun k => by rw [gjson_squash.j2]) (Ev.pos rfl (Ev.pos h0 (Ev.pos hi (Ev.neg c1 (Ev.neg c2 (Ev.pos c3 e))))))⟩
            · obtain ⟨r, e⟩ := j6 (bt s i) (bt s i == 40)
              exact ⟨r, Ev.step (fun k => by rw [gjson_squash.j2]) (Ev.pos rfl (Ev.pos h0 (Ev.pos hi (Ev.neg c1 (Ev.neg c2 (Ev.neg c3 e))))))⟩
        by_cases c : bt s i ≥ 34
        · obtain ⟨r, e⟩ := j2 (decide (bt s i ≤ 125))
          exact ⟨r, Ev.step (fun k => by rw [gjson_squash.l0]) (Ev.pos hi (Ev.pos h0 (Ev.pos c e)))⟩
        · obtain ⟨r, e⟩ := j2 false
          exact ⟨r, Ev.step (fun k => by rw [gjson_squash.l0]) (Ev.pos hi (Ev.pos h0 (Ev.neg c e)))⟩
      · intro s0 h2 h3
        have ej5 := sq_j5 s hs i x4 h0 (by omega) (nx x4).1
        have el1 := nx1 x4 s0 h2 (by omega)
        by_cases c1 : bt s i > 92
        · obtain ⟨r, e⟩ := el1
          exact ⟨r, Ev.step (fun k => by rw [gjson_squash.l1]) (Ev.pos hi (Ev.pos h0 (Ev.pos c1 e)))⟩
        by_cases c2 : bt s i = 34
        · have hw2 : wrap64 (i - 1) = i - 1 := w64 (by omega) (by omega)
          have hw3 : wrap64 (i - 2) = i - 2 := w64 (by omega) (by omega)
          by_cases c3 : bt s (i - 1) = 92
          · obtain ⟨r, e⟩ := sq_l2 s hs i x4 s0 h2 h3 hi el1 ej5 (i.toNat + 2) 0 (i - 2) (by omega) (by omega) (by omega)
            refine ⟨r, Ev.step (fun k => by rw [gjson_squash.l1]) (Ev.pos hi (Ev.pos h0 (Ev.neg c1 (Ev.pos c2 ?_))))⟩
            rw [hw2, hw3]
            exact Ev.pos (by omega) (Ev.pos (by omega) (Ev.pos c3 e))
          · obtain ⟨r, e⟩ := ej5
            refine ⟨r, Ev.step (fun k => by rw [gjson_squash.l1]) (Ev.pos hi (Ev.pos h0 (Ev.neg c1 (Ev.pos c2 ?_))))⟩
            rw [hw2]
            exact Ev.pos (by omega) (Ev.pos (by omega) (Ev.neg c3 e))
        · obtain ⟨r, e⟩ := el1
          exact ⟨r, Ev.step (fun k => by rw [gjson_squash.l1]) (Ev.pos hi (Ev.pos h0 (Ev.neg c1 (Ev.neg c2 e))))⟩
    · refine ⟨sq_out s i x4 (by omega), fun s0 h2 h3 => ?_⟩
      obtain ⟨r, e⟩ := sq_j5 s hs i x4 h0 h1 (sq_out s (i + 1) x4 (by omega))
      exact ⟨r, Ev.step (fun k => by rw [gjson_squash.l1]) (Ev.neg (by omega) e)⟩
theorem sq_f (s : ByteArray) (hs : (s.size : Int) ≤ 2147483647) (h0 : 0 < (s.size : Int)) : ∃ r, Ev (fun k => gjson_squash.f k s) r := by
  have g : ∀ i x4 : Int, 0 ≤ i → i ≤ 1 → ∃ r, Ev (fun k => gjson_squash.j0 k s i x4) r := by
    intro i x4 h1 h2
    obtain ⟨r, e⟩ := (sq_ends s hs (s.size + 1) i x4 h1 (by omega) (by omega)).1
    exact ⟨r, Ev.step (fun k => by rw [gjson_squash.j0]) e⟩
  unfold gjson_squash.f
  by_cases c : bt s 0 = 34
  · obtain ⟨r, e⟩ := g 0 0 (by omega) (by omega)
    exact ⟨r, Ev.pos h0 (Ev.pos c e)⟩
  · obtain ⟨r, e⟩ := g 1 1 (by omega) (by omega)
    exact ⟨r, Ev.pos h0 (Ev.neg c e)⟩

/-! ### the split -/
abbrev R3 := ByteArray × ByteArray × Bool
def eb : ByteArray := ⟨#[]⟩
def Split (s : ByteArray) (r : R3) : Prop := r = (eb, eb, false) ∨ ∃ j : Int, 0 ≤ j ∧ j < s.size ∧ bt s j = 124 ∧ r = (s.extract 0 j.toNat, s.extract (j + 1).toNat s.size, true)
theorem l1_out (s : ByteArray) (i : Int) (h : (s.size : Int) ≤ i) : Ev (fun k => gjson_splitPossiblePipe.l1 k s eb eb false i) (eb, eb, false) :=
  Ev.step (fun k => by rw [gjson_splitPossiblePipe.l1]) (Ev.neg (by omega) (Ev.now _))
theorem l2_out (s : ByteArray) (hs : (s.size : Int) ≤ 2147483647) (i a b n : Int) (h : (s.size : Int) ≤ i) (h2 : i ≤ s.size + 6) : Ev (fun k => gjson_splitPossiblePipe.l2 k s eb eb false i a b n) (eb, eb, false) := by
  refine Ev.step (fun k => by rw [gjson_splitPossiblePipe.l2]) (Ev.neg (by omega) ?_)
  rw [w64 (by omega) (by omega)]
  exact l1_out s _ (by omega)
theorem l3_out (s : ByteArray) (hs : (s.size : Int) ≤ 2147483647) (i a b n : Int) (h : (s.size : Int) ≤ i) (h2 : i ≤ s.size + 5) : Ev (fun k => gjson_splitPossiblePipe.l3 k s eb eb false i a b n) (eb, eb, false) := by
  refine Ev.step (fun k => by rw [gjson_splitPossiblePipe.l3]) (Ev.neg (by omega) ?_)
  rw [w64 (by omega) (by omega)]
  exact l2_out s hs _ a b n (by omega) (by omega)
def SpEnds (s : ByteArray) (d : Nat) : Prop := ∀ i : Int, 0 ≤ i → i ≤ s.size + 4 → s.size - i ≤ d → (∃ r, Ev (fun k => gjson_splitPossiblePipe.l1 k s eb eb false i) r ∧ Split s r) ∧
  (∀ a b n : Int, ∃ r, Ev (fun k => gjson_splitPossiblePipe.l2 k s eb eb false i a b n) r ∧ Split s r) ∧ (∀ a b n : Int, ∃ r, Ev (fun k => gjson_splitPossiblePipe.l3 k s eb eb false i a b n) r ∧ Split s r)
theorem sp_ends (s : ByteArray) (hs : (s.size : Int) ≤ 2147483647) (d : Nat) : SpEnds s d := by
  have out : ∀ i : Int, s.size ≤ i → i ≤ s.size + 4 → (∃ r, Ev (fun k => gjson_splitPossiblePipe.l1 k s eb eb false i) r ∧ Split s r) ∧
      (∀ a b n : Int, ∃ r, Ev (fun k => gjson_splitPossiblePipe.l2 k s eb eb false i a b n) r ∧ Split s r) ∧ (∀ a b n : Int, ∃ r, Ev (fun k => gjson_splitPossiblePipe.l3 k s eb eb false i a b n) r ∧ Split s r) := fun i h1 h2 =>
    ⟨⟨_, l1_out s i h1, .inl rfl⟩, fun a b n => ⟨_, l2_out s hs i a b n h1 (by omega), .inl rfl⟩, fun a b n => ⟨_, l3_out s hs i a b n h1 (by omega), .inl rfl⟩⟩
  induction d with
  | zero => intro i h0 h1 hd; exact out i (by omega) h1
  | succ d ih =>
    intro i h0 h1 hd
    by_cases hi : i < s.size
    · have hw : wrap64 (i + 1) = i + 1 := w64 (by omega) (by omega)
      have hw2 : wrap64 (i + 2) = i + 2 := w64 (by omega) (by omega)
      have hw11 : wrap64 (i + 1 + 1) = i + 1 + 1 := w64 (by omega) (by omega)
      have n1 := ih (i + 1) (by omega) (by omega) (by omega)
      have n2 := ih (i + 1 + 1) (by omega) (by omega) (by omega)
      have n3 := ih (i + 2 + 1) (by omega) (by omega) (by omega)
      refine ⟨?_, ?_, ?_⟩
      · by_cases c1 : bt s i = 92
        · obtain ⟨r, e, p⟩ := n2.1
          refine ⟨r, Ev.step (fun k => by rw [gjson_splitPossiblePipe.l1]) (Ev.pos hi (Ev.pos h0 (Ev.pos c1 ?_))), p⟩
          rw [hw, hw11]; exact e
        by_cases c2 : bt s i = 46
        · by_cases c3 : i = s.size - 1
          · refine ⟨_, Ev.step (fun k => by rw [gjson_splitPossiblePipe.l1]) (Ev.pos hi (Ev.pos h0 (Ev.neg c1 (Ev.pos c2 (Ev.pos ?_ (Ev.now _)))))), .inl rfl⟩
            rw [w64 (by omega) (by omega)]; exact c3
          have hn : ¬ i = wrap64 (s.size - 1) := by rw [w64 (by omega) (by omega)]; exact c3
          by_cases c4 : bt s (i + 1) = 35
          · by_cases c5 : i + 2 = s.size
            · refine ⟨_, Ev.step (fun k => by rw [gjson_splitPossiblePipe.l1]) (Ev.pos hi (Ev.pos h0 (Ev.neg c1 (Ev.pos c2 (Ev.neg hn ?_))))), .inl rfl⟩
              rw [hw, hw2]
              exact Ev.pos (by omega) (Ev.pos (by omega) (Ev.pos c4 (Ev.pos c5 (Ev.now _))))
            · have j4 : ∀ b, ∃ r, Ev (fun k => gjson_splitPossiblePipe.j4 k s eb eb false (i + 2) b) r ∧ Split s r := by
                intro b
                have hw3 : wrap64 (i + 2 + 1) = i + 2 + 1 := w64 (by omega) (by omega)
                have j5 : ∀ a b, ∃ r, Ev (fun k => gjson_splitPossiblePipe.j5 k s eb eb false (i + 2) a b) r ∧ Split s r := by
                  intro a b
                  obtain ⟨r, e, p⟩ := n3.2.1 a b 1
                  exact ⟨r, Ev.step (fun k => by rw [gjson_splitPossiblePipe.j5]) (by rw [hw3]; exact e), p⟩
                cases b with
                | false =>
                  obtain ⟨r, e, p⟩ := n3.1
                  exact ⟨r, Ev.step (fun k => by rw [gjson_splitPossiblePipe.j4]) (Ev.neg Bool.false_ne_true (by rw [hw3]; exact e)), p⟩
                | true =>
                  by_cases c : bt s (i + 2) = 91
                  · obtain ⟨r, e, p⟩ := j5 91 93
                    exact ⟨r, Ev.step (fun k => by rw [gjson_splitPossiblePipe.j4]) (Ev.pos rfl (Ev.pos (by omega) (Ev.pos (by omega) (Ev.pos c e)))), p⟩
                  · obtain ⟨r, e, p⟩ := j5 40 41
                    exact ⟨r, Ev.step (fun k => by rw [gjson_splitPossiblePipe.j4]) (Ev.pos rfl (Ev.pos (by omega) (Ev.pos (by omega) (Ev.neg c e)))), p⟩
              by_cases c6 : bt s (i + 2) = 91
              · obtain ⟨r, e, p⟩ := j4 true
                refine ⟨r, Ev.step (fun k => by rw [gjson_splitPossiblePipe.l1]) (Ev.pos hi (Ev.pos h0 (Ev.neg c1 (Ev.pos c2 (Ev.neg hn ?_))))), p⟩
                rw [hw, hw2]
                exact Ev.pos (by omega) (Ev.pos (by omega) (Ev.pos c4 (Ev.neg c5 (Ev.pos (by omega) (Ev.pos (by omega) (Ev.pos c6 e))))))
              · obtain ⟨r, e, p⟩ := j4 (bt s (i + 2) == 40)
                refine ⟨r, Ev.step (fun k => by rw [gjson_splitPossiblePipe.l1]) (Ev.pos hi (Ev.pos h0 (Ev.neg c1 (Ev.pos c2 (Ev.neg hn ?_))))), p⟩
                rw [hw, hw2]
                exact Ev.pos (by omega) (Ev.pos (by omega) (Ev.pos c4 (Ev.neg c5 (Ev.pos (by omega) (Ev.pos (by omega) (Ev.neg c6 e))))))
          · obtain ⟨r, e, p⟩ := n1.1
            refine ⟨r, Ev.step (fun k => by rw [gjson_splitPossiblePipe.l1]) (Ev.pos hi (Ev.pos h0 (Ev.neg c1 (Ev.pos c2 (Ev.neg hn ?_))))), p⟩
            rw [hw]
            exact Ev.pos (by omega) (Ev.pos (by omega) (Ev.neg c4 e))
        by_cases c3 : bt s i = 124
        · refine ⟨_, Ev.step (fun k => by rw [gjson_splitPossiblePipe.l1]) (Ev.pos hi (Ev.pos h0 (Ev.neg c1 (Ev.neg c2 (Ev.pos c3 ?_))))), .inr ⟨i, h0, hi, c3, rfl⟩⟩
          rw [hw]
          exact Ev.pos (by omega) (Ev.pos (by omega) (Ev.pos (by omega) (Ev.now _)))
        · obtain ⟨r, e, p⟩ := n1.1
          refine ⟨r, Ev.step (fun k => by rw [gjson_splitPossiblePipe.l1]) (Ev.pos hi (Ev.pos h0 (Ev.neg c1 (Ev.neg c2 (Ev.neg c3 ?_))))), p⟩
          rw [hw]; exact e
      · intro a b n
        by_cases c1 : bt s i = 92
        · obtain ⟨r, e, p⟩ := n2.2.1 a b n
          refine ⟨r, Ev.step (fun k => by rw [gjson_splitPossiblePipe.l2]) (Ev.pos hi (Ev.pos h0 (Ev.pos c1 ?_))), p⟩
          rw [hw, hw11]; exact e
        by_cases c2 : bt s i = a
        · obtain ⟨r, e, p⟩ := n1.2.1 a b (wrap64 (n + 1))
          refine ⟨r, Ev.step (fun k => by rw [gjson_splitPossiblePipe.l2]) (Ev.pos hi (Ev.pos h0 (Ev.neg c1 (Ev.pos c2 ?_)))), p⟩
          rw [hw]; exact e
        by_cases c3 : bt s i = b
        · by_cases c4 : wrap64 (n - 1) = 0
          · obtain ⟨r, e, p⟩ := n1.1
            refine ⟨r, Ev.step (fun k => by rw [gjson_splitPossiblePipe.l2]) (Ev.pos hi (Ev.pos h0 (Ev.neg c1 (Ev.neg c2 (Ev.pos c3 (Ev.pos c4 ?_)))))), p⟩
            rw [hw]; exact e
          · obtain ⟨r, e, p⟩ := n1.2.1 a b (wrap64 (n - 1))
            refine ⟨r, Ev.step (fun k => by rw [gjson_splitPossiblePipe.l2]) (Ev.pos hi (Ev.pos h0 (Ev.neg c1 (Ev.neg c2 (Ev.pos c3 (Ev.neg c4 ?_)))))), p⟩
            rw [hw]; exact e
        by_cases c4 : bt s i = 34
        · obtain ⟨r, e, p⟩ := n1.2.2 a b n
          refine ⟨r, Ev.step (fun k => by rw [gjson_splitPossiblePipe.l2]) (Ev.pos hi (Ev.pos h0 (Ev.neg c1 (Ev.neg c2 (Ev.neg c3 (Ev.pos c4 ?_)))))), p⟩
          rw [hw]; exact e
        · obtain ⟨r, e, p⟩ := n1.2.1 a b n
          refine ⟨r, Ev.step (fun k => by rw [gjson_splitPossiblePipe.l2]) (Ev.pos hi (Ev.pos h0 (Ev.neg c1 (Ev.neg c2 (Ev.neg c3 (Ev.neg c4 ?_)))))), p⟩
          rw [hw]; exact e
      · intro a b n
        by_cases c1 : bt s i = 92
        · obtain ⟨r, e, p⟩ := n2.2.2 a b n
          refine ⟨r, Ev.step (fun k => by rw [gjson_splitPossiblePipe.l3]) (Ev.pos hi (Ev.pos h0 (Ev.pos c1 ?_))), p⟩
          rw [hw, hw11]; exact e
        by_cases c2 : bt s i = 34
        · obtain ⟨r, e, p⟩ := n1.2.1 a b n
          refine ⟨r, Ev.step (fun k => by rw [gjson_splitPossiblePipe.l3]) (Ev.pos hi (Ev.pos h0 (Ev.neg c1 (Ev.pos c2 ?_)))), p⟩
          rw [hw]; exact e
        · obtain ⟨r, e, p⟩ := n1.2.2 a b n
          refine ⟨r, Ev.step (fun k => by rw [gjson_splitPossiblePipe.l3]) (Ev.pos hi (Ev.pos h0 (Ev.neg c1 (Ev.neg c2 ?_)))), p⟩
          rw [hw]; exact e
    · exact out i (by omega) h1
theorem ext_size (s : ByteArray) (a b : Nat) (h : a ≤ b) (hb : b ≤ s.size) : (s.extract a b).size = b - a := by
  rw [ByteArray.size_extract]; omega
theorem bt_ext (s : ByteArray) (a : Nat) (h : a < s.size) : bt (s.extract a s.size) 0 = bt s a := by
  unfold bt
  have h2 : (0 : Int).toNat < (s.extract a s.size).size := by rw [ext_size s a s.size (by omega) (by omega)]; simp; omega
  rw [dif_pos h2, dif_pos (by simpa using h)]
  simp [ByteArray.getElem_extract]
theorem j2_ev (s : ByteArray) (hs : (s.size : Int) ≤ 2147483647) (hp : ∃ j : Int, 0 ≤ j ∧ j < s.size ∧ bt s j = 124) (b : Bool) (hb : b = true → bt s 0 = 123) : ∃ r, Ev (fun k => gjson_splitPossiblePipe.j2 k s eb eb false b) r ∧ Split s r := by
  obtain ⟨j, hj0, hj1, hj2⟩ := hp
  cases b with
  | false =>
    obtain ⟨r, e, p⟩ := (sp_ends s hs s.size 0 (by omega) (by omega) (by omega)).1
    exact ⟨r, Ev.step (fun k => by rw [gjson_splitPossiblePipe.j2]) (Ev.neg Bool.false_ne_true e), p⟩
  | true =>
    have hj : j ≠ 0 := by rintro rfl; have := hb rfl; omega
    have hz : (s.extract 1 s.size).size = s.size - 1 := ext_size s 1 s.size (by omega) (by omega)
    obtain ⟨t, e⟩ := sq_f (s.extract 1 s.size) (by omega) (by omega)
    have hw : wrap64 ((s.size : Int) - 1) = s.size - 1 := w64 (by omega) (by omega)
    have one : ((1 : Int) ≤ (s.size : Int)) := by omega
    by_cases c : (t.size : Int) < s.size - 1
    · have hw2 : wrap64 ((t.size : Int) + 1) = t.size + 1 := w64 (by omega) (by omega)
      have z1 : (s.extract 0 ((t.size : Int) + 1).toNat).size = t.size + 1 := by rw [ext_size s _ _ (by omega) (by omega)]; omega
      have z2 : (s.extract (t.size + 1) s.size).size = s.size - (t.size + 1) := ext_size s _ _ (by omega) (by omega)
      have hbt : bt (s.extract (t.size + 1) s.size) 0 = bt s (t.size + 1 : Nat) := bt_ext s (t.size + 1) (by omega)
      by_cases c2 : bt s (t.size + 1 : Nat) = 124
      · refine ⟨(s.extract 0 ((t.size : Int) + 1).toNat, (s.extract (t.size + 1) s.size).extract 1 (s.extract (t.size + 1) s.size).size, true), Ev.step (fun k => by rw [gjson_splitPossiblePipe.j2]) (Ev.pos rfl (Ev.pos one (Ev.bind e ?_))), .inr ⟨(t.size + 1 : Nat), by omega, by omega, c2, ?_⟩⟩
        · rw [hw, hw2, z1]
          exact Ev.pos c (Ev.pos (by omega) (Ev.pos (by omega) (Ev.pos (by omega) (Ev.pos (by omega) (Ev.pos (by omega) (Ev.pos (by rw [hbt]; exact c2) (Ev.pos (by omega) (Ev.now _))))))))
        · have x1 : ((t.size : Int) + 1).toNat = t.size + 1 := by omega
          have x2 : (((t.size + 1 : Nat) : Int) + 1).toNat = t.size + 1 + 1 := by omega
          rw [x1, x2, Int.toNat_natCast]
          refine Prod.ext rfl (Prod.ext ?_ rfl)
          show (s.extract (t.size + 1) s.size).extract 1 (s.extract (t.size + 1) s.size).size = s.extract (t.size + 1 + 1) s.size
          rw [z2, ByteArray.extract_extract]
          congr 1
          omega
      · refine ⟨_, Ev.step (fun k => by rw [gjson_splitPossiblePipe.j2]) (Ev.pos rfl (Ev.pos one (Ev.bind e ?_))), .inl rfl⟩
        rw [hw, hw2, z1]
        exact Ev.pos c (Ev.pos (by omega) (Ev.pos (by omega) (Ev.pos (by omega) (Ev.pos (by omega) (Ev.pos (by omega) (Ev.neg (by rw [hbt]; exact c2) (Ev.now _)))))))
    · refine ⟨_, Ev.step (fun k => by rw [gjson_splitPossiblePipe.j2]) (Ev.pos rfl (Ev.pos one (Ev.bind e ?_))), .inl rfl⟩
      rw [hw]
      exact Ev.neg c (Ev.now _)
theorem l0_ev (s : ByteArray) (hs : (s.size : Int) ≤ 2147483647) (d : Nat) : ∀ i : Int, 0 ≤ i → i ≤ s.size → s.size - i ≤ d → ∃ r, Ev (fun k => gjson_splitPossiblePipe.l0 k s eb eb false false i) r ∧ Split s r := by
  have no : Ev (fun k => gjson_splitPossiblePipe.j1 k s eb eb false false) (eb, eb, false) := Ev.step (fun k => by rw [gjson_splitPossiblePipe.j1]) (Ev.neg Bool.false_ne_true (Ev.now _))
  induction d with
  | zero =>
    intro i h0 h1 hd
    exact ⟨_, Ev.step (fun k => by rw [gjson_splitPossiblePipe.l0]) (Ev.neg (by omega) no), .inl rfl⟩
  | succ d ih =>
    intro i h0 h1 hd
    by_cases hi : i < s.size
    · by_cases c : bt s i = 124
      · have hp : ∃ j : Int, 0 ≤ j ∧ j < s.size ∧ bt s j = 124 := ⟨i, h0, hi, c⟩
        obtain ⟨r, e, p⟩ := j2_ev s hs hp (bt s 0 == 123) (fun h => by simpa using h)
        have : (s.size : Int) > 0 := by omega
        exact ⟨r, Ev.step (fun k => by rw [gjson_splitPossiblePipe.l0]) (Ev.pos hi (Ev.pos h0 (Ev.pos c (Ev.step (fun k => by rw [gjson_splitPossiblePipe.j1]) (Ev.pos rfl (Ev.pos this (Ev.pos this e))))))), p⟩
      · obtain ⟨r, e, p⟩ := ih (i + 1) (by omega) (by omega) (by omega)
        refine ⟨r, Ev.step (fun k => by rw [gjson_splitPossiblePipe.l0]) (Ev.pos hi (Ev.pos h0 (Ev.neg c ?_))), p⟩
        rw [w64 (by omega) (by omega)]; exact e
    · exact ⟨_, Ev.step (fun k => by rw [gjson_splitPossiblePipe.l0]) (Ev.neg hi no), .inl rfl⟩
theorem split_ev (s : ByteArray) (hs : (s.size : Int) ≤ 2147483647) : ∃ r, Ev (fun k => impl_GjSplitPipe.f k s) r ∧ Split s r := by
  obtain ⟨r, e, p⟩ := l0_ev s hs s.size 0 (by omega) (by omega) (by omega)
  refine ⟨r, ?_, p⟩
  unfold impl_GjSplitPipe.f gjson_DoorPipe.f gjson_splitPossiblePipe.f
  exact Ev.bind (Ev.bind e (Ev.now _)) (Ev.now _)
/-! ### the example "a|b", and the law -/
theorem ab : ∃ k, impl_GjSplitPipe.f k ⟨#[97, 124, 98]⟩ = some (⟨#[97]⟩, ⟨#[98]⟩, true) := ⟨20, by decide +kernel⟩
theorem ab_ev : Ev (fun k => impl_GjSplitPipe.f k ⟨#[97, 124, 98]⟩) (⟨#[97]⟩, ⟨#[98]⟩, true) := by
  obtain ⟨k, h⟩ := ab
  exact Ev.of (fun k => impl_GjSplitPipe.mono _ k) h
theorem glue (s : ByteArray) (j : Nat) (h : j < s.size) (hb : bt s j = 124) : ((s.extract 0 j ++ (⟨#[124]⟩ : ByteArray)) ++ s.extract (j + 1) s.size).toList = s.toList := by
  have h1 : (s.extract 0 j ++ (⟨#[124]⟩ : ByteArray)) ++ s.extract (j + 1) s.size = s := by
    have hc : (⟨#[124]⟩ : ByteArray) = s.extract j (j + 1) := by
      apply ByteArray.ext_getElem
      · rw [ext_size s j (j + 1) (by omega) (by omega)]; simp [ByteArray.size]
      · intro i h1 h2
        have hi : i = 0 := by simp [ByteArray.size] at h1; omega
        subst hi
        rw [ByteArray.getElem_extract]
        unfold bt at hb
        rw [dif_pos (by simpa using h)] at hb
        simp only [Int.toNat_natCast] at hb
        have : s[j] = 124 := by
          apply UInt8.toNat.inj
          show s[j].toNat = 124
          omega
        simp [this]
        rfl
    have e1 : min 0 j = 0 := by omega
    have e2 : max j (j + 1) = j + 1 := by omega
    have e3 : min 0 (j + 1) = 0 := by omega
    have e4 : max (j + 1) s.size = s.size := by omega
    rw [hc, ByteArray.extract_append_extract, e1, e2, ByteArray.extract_append_extract, e3, e4]
    simp
  rw [h1]
theorem law_l0 (s l r : ByteArray) (ok : Bool) (hs : (s.size : Int) ≤ 4096) (hp : Split s (l, r, ok)) (d : Nat) : ∀ (i : Int) (has : Bool), 0 ≤ i → i ≤ s.size → s.size - i ≤ d → (has = false → ∀ q : Int, 0 ≤ q → q < i → bt s q ≠ 124) →
    Ev (fun k => laws_FnGjSplitAny.l0 k s l r ok has i) true := by
  have two : Ev (fun k => (impl_GjSplitPipe.f k (⟨#[97, 124, 98]⟩ : ByteArray)).bind fun bt111 => (if bt111.2.2 = true then (if bt111.1.toList = ([97] : List UInt8) then (some (bt111.2.1.toList == ([98] : List UInt8))) else (some false)) else (some false))) true := by
    refine Ev.bind ab_ev (Ev.pos rfl (Ev.pos ?_ ?_))
    · show (⟨#[97]⟩ : ByteArray).toList = _
      rw [ByteArray.toList_eq]
    · have : ((⟨#[98]⟩ : ByteArray).toList == ([98] : List UInt8)) = true := by rw [ByteArray.toList_eq]; rfl
      exact Ev.eq this (Ev.now _)
  have fin : ∀ (has : Bool), (has = false → ∀ q : Int, 0 ≤ q → q < s.size → bt s q ≠ 124) → ∀ i : Int, s.size ≤ i → Ev (fun k => laws_FnGjSplitAny.l0 k s l r ok has i) true := by
    intro has hh i hi
    refine Ev.step (fun k => by rw [laws_FnGjSplitAny.l0]) (Ev.neg (by omega) ?_)
    rcases hp with hp | ⟨j, h0, h1, h2, hp⟩
    · injection hp with _ hp
      injection hp with _ hp
      subst hp
      exact Ev.neg Bool.false_ne_true two
    · injection hp with hl hp
      injection hp with hr hp
      subst hp hl hr
      cases has with
      | false => exact absurd h2 (hh rfl j h0 h1)
      | true =>
        have z1 : (s.extract 0 j.toNat).size = j.toNat := by rw [ext_size s _ _ (by omega) (by omega)]; omega
        have z2 : (s.extract (j + 1).toNat s.size).size = s.size - (j + 1).toNat := ext_size s _ _ (by omega) (by omega)
        refine Ev.pos rfl (Ev.pos rfl (Ev.pos (by omega) (Ev.pos ?_ (Ev.pos ?_ two))))
        · rw [ByteArray.size_append, z1, z2]
          show j.toNat + 1 + _ ≤ _
          omega
        · have := glue s j.toNat (by omega) (by rw [show ((j.toNat : Nat) : Int) = j by omega]; exact h2)
          rw [show (j + 1).toNat = j.toNat + 1 by omega]
          exact this
  induction d with
  | zero =>
    intro i has h0 h1 hd hh
    exact fin has (fun h q a b => hh h q a (by omega)) i (by omega)
  | succ d ih =>
    intro i has h0 h1 hd hh
    by_cases hi : i < s.size
    · refine Ev.step (fun k => by rw [laws_FnGjSplitAny.l0]) (Ev.pos hi ?_)
      have hw : wrap64 (i + 1) = i + 1 := w64 (by omega) (by omega)
      rw [hw]
      cases has with
      | true => exact Ev.pos rfl (ih (i + 1) true (by omega) (by omega) (by omega) (fun h => by cases h))
      | false =>
        refine Ev.neg Bool.false_ne_true (Ev.pos h0 (ih (i + 1) _ (by omega) (by omega) (by omega) (fun h q a b => ?_)))
        by_cases e : q = i
        · subst e; simpa using h
        · exact hh rfl q a (by omega)
    · exact fin has (fun h q a b => hh h q a (by omega)) i (by omega)
theorem FnGjSplitAny : laws_FnGjSplitAny.Pure := by
  intro s _
  refine Ev.rounds (r := true) (g := fun k => laws_FnGjSplitAny.f k s) ?_
  unfold laws_FnGjSplitAny.f
  by_cases c1 : (s.size : Int) > 2147483647
  · exact Ev.pos c1 (Ev.now _)
  by_cases c2 : (s.size : Int) > 4096
  · exact Ev.neg c1 (Ev.pos c2 (Ev.now _))
  obtain ⟨⟨l, r, ok⟩, e, p⟩ := split_ev s (by omega)
  exact Ev.neg c1 (Ev.neg c2 (Ev.bind e (law_l0 s l r ok (by omega) p s.size 0 false (by omega) (by omega) (by omega) (fun _ q _ _ => by omega))))
end Go.Proofs.Ytnmbpleneddkhaa.Pure
