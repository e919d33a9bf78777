/- The reference's reader of JSON texts, as plain lists and numbers: what its parts go over. -/
import Derived.Test.YtmneeighbkcadaaDoorPFnJpLengthx
namespace Go.Proofs.YtmneeighbkcadaaDoor.JFnJpLength
open Go.RowKit Go.Proofs.YtmneeighbkcadaaDoor.PFnJpLength Go.Proofs.YtmneeighbkcadaaDoorW.PrintWords Go.Proofs.YtmneeighbkcadaaDoorW.PrintLast Go.Proofs.YtmneeighbkcadaaDoorW.PrintMore

theorem w64 {x : Int} (h0 : -9223372036854775808 ≤ x) (h1 : x ≤ 9223372036854775807) : wrap64 x = x := by
  unfold wrap64; omega
theorem Ev.pos {α : Type} {c : Prop} [Decidable c] {f g : Nat → Option α} {r : α} (h : c) (e : Ev f r) : Ev (fun k => if c then f k else g k) r :=
  Ev.congr (fun _ => if_pos h) e
theorem Ev.neg {α : Type} {c : Prop} [Decidable c] {f g : Nat → Option α} {r : α} (h : ¬ c) (e : Ev g r) : Ev (fun k => if c then f k else g k) r :=
  Ev.congr (fun _ => if_neg h) e
theorem Ev.bd {α β : Type} {g : Option α} {f : Nat → α → Option β} {a : α} {r : β} (h : g = some a) (k : Ev (fun n => f n a) r) : Ev (fun n => g.bind (f n)) r :=
  Ev.congr (fun n => by rw [h]; rfl) k
theorem Ev.eq {α : Type} {f : Nat → Option α} {a b : α} (h : a = b) (e : Ev f a) : Ev f b := h ▸ e

/-! ### blanks -/
def IsBl (c : Int) : Prop := c = 32 ∨ c = 9 ∨ c = 10 ∨ c = 13
instance (c : Int) : Decidable (IsBl c) := by unfold IsBl; infer_instance
theorem blank_f (c : Int) : BB_.f c = some (decide (IsBl c)) := by
  unfold BB_.f IsBl
  by_cases h1 : c = 32
  · simp [h1]
  · by_cases h2 : c = 9
    · simp [h2]
    · by_cases h3 : c = 10
      · simp [h3]
      · rw [if_neg h1, if_neg h2, if_neg h3]
        by_cases h4 : c = 13 <;> simp [h1, h2, h3, h4]
structure Blk (s : ByteArray) (i j : Int) : Prop where
  le : i ≤ j
  hi : j ≤ s.size
  all : ∀ q, i ≤ q → q < j → IsBl (bt s q)
  stop : j = s.size ∨ ¬ IsBl (bt s j)
theorem blanks_ev (s : ByteArray) (hs : (s.size : Int) ≤ 140737488351232) (d : Nat) : ∀ i : Int, 0 ≤ i → i ≤ s.size → (s.size : Int) - i = d →
    ∃ j, Ev (fun k => b_.l0 k s i) (s, j) ∧ Blk s i j := by
  induction d with
  | zero =>
    intro i h0 h1 hd
    refine ⟨i, ?_, ⟨by omega, by omega, fun q _ _ => by omega, .inl (by omega)⟩⟩
    refine Ev.step (fun k => by rw [b_.l0]) ?_
    exact Ev.neg (by omega) (Ev.now _)
  | succ d ih =>
    intro i h0 h1 hd
    by_cases hb : IsBl (bt s i)
    · obtain ⟨j, e, b⟩ := ih (i + 1) (by omega) (by omega) (by omega)
      refine ⟨j, ?_, ⟨by have := b.le; omega, b.hi, fun q h2 h3 => ?_, b.stop⟩⟩
      · refine Ev.step (fun k => by rw [b_.l0]) ?_
        refine Ev.pos (by omega) (Ev.pos h0 (Ev.bd (blank_f _) ?_))
        refine Ev.pos (decide_eq_true hb) ?_
        rw [w64 (by omega) (by omega)]
        exact e
      · by_cases hq : q = i
        · rw [hq]; exact hb
        · exact b.all q (by omega) h3
    · refine ⟨i, ?_, ⟨by omega, by omega, fun q _ _ => by omega, .inr hb⟩⟩
      refine Ev.step (fun k => by rw [b_.l0]) ?_
      refine Ev.pos (by omega) (Ev.pos h0 (Ev.bd (blank_f _) ?_))
      exact Ev.neg (by simpa using hb) (Ev.now _)
theorem blanks_f_ev (s : ByteArray) (hs : (s.size : Int) ≤ 140737488351232) (i : Int) (h0 : 0 ≤ i) (h1 : i ≤ s.size) :
    ∃ j, Ev (fun k => b_.f k s i) (s, j) ∧ Blk s i j := by
  obtain ⟨j, e, b⟩ := blanks_ev s hs ((s.size : Int) - i).toNat i h0 h1 (by omega)
  exact ⟨j, e, b⟩

/-! ### one byte -/
def hr (s : ByteArray) (i : Int) : Int := if i < (s.size : Int) then bt s i else 0
theorem here_f (s : ByteArray) (i : Int) (h0 : 0 ≤ i) : her_.f s i = some (hr s i, s, i) := by
  unfold her_.f hr
  by_cases h : i < (s.size : Int)
  · rw [if_pos h, if_pos h0, if_pos h]
  · rw [if_neg h, if_neg h]
theorem hr_lt {s : ByteArray} {i : Int} (h : i < (s.size : Int)) : hr s i = bt s i := if_pos h
theorem hr_ge {s : ByteArray} {i : Int} (h : (s.size : Int) ≤ i) : hr s i = 0 := if_neg (by omega)
theorem hr_ne {s : ByteArray} {i : Int} (h : hr s i ≠ 0) : i < (s.size : Int) ∧ hr s i = bt s i := by
  by_cases hh : i < (s.size : Int)
  · exact ⟨hh, hr_lt hh⟩
  · exact absurd (hr_ge (by omega)) h
theorem take_f (s : ByteArray) (hs : (s.size : Int) ≤ 140737488351232) (i c : Int) (h0 : 0 ≤ i) (hc : c ≠ 0) :
    t_.f s i c = if hr s i = c then some (true, s, i + 1) else some (false, s, i) := by
  unfold t_.f hr
  by_cases h : i < (s.size : Int)
  · rw [if_pos h, if_pos h0, if_pos h, w64 (by omega) (by omega)]
  · rw [if_neg h, if_neg h, if_neg (fun h => hc h.symm)]
theorem take_yes {s : ByteArray} (hs : (s.size : Int) ≤ 140737488351232) {i c : Int} (h0 : 0 ≤ i) (hc : c ≠ 0) (h : hr s i = c) : t_.f s i c = some (true, s, i + 1) := by
  rw [take_f s hs i c h0 hc, if_pos h]
theorem take_no {s : ByteArray} (hs : (s.size : Int) ≤ 140737488351232) {i c : Int} (h0 : 0 ≤ i) (hc : c ≠ 0) (h : hr s i ≠ c) : t_.f s i c = some (false, s, i) := by
  rw [take_f s hs i c h0 hc, if_neg h]

/-! ### strings -/
def IsHex (c : Int) : Prop := (48 ≤ c ∧ c ≤ 57) ∨ (97 ≤ c ∧ c ≤ 102) ∨ (65 ≤ c ∧ c ≤ 70)
instance (c : Int) : Decidable (IsHex c) := by unfold IsHex; infer_instance
theorem hex_ev (c : Int) : ∃ v b, Ev (fun k => hD_.f k c) (v, b) ∧ (b = true ↔ IsHex c) := by
  unfold hD_.f IsHex
  by_cases h1 : 48 ≤ c ∧ c ≤ 57
  · refine ⟨_, true, Ev.pos h1.1 (Ev.step (fun k => by rw [hD_.j0]) (Ev.pos (decide_eq_true h1.2) (Ev.now _))), by simp [h1]⟩
  · have key : ∃ v b, Ev (fun k => hD_.j0 k c false) (v, b) ∧ (b = true ↔ (97 ≤ c ∧ c ≤ 102) ∨ (65 ≤ c ∧ c ≤ 70)) := by
      by_cases h2 : 97 ≤ c ∧ c ≤ 102
      · exact ⟨_, true, Ev.step (fun k => by rw [hD_.j0]) (Ev.neg Bool.false_ne_true (Ev.pos h2.1 (Ev.step (fun k => by rw [hD_.j1]) (Ev.pos (decide_eq_true h2.2) (Ev.now _))))), by simp [h2]⟩
      · have key2 : ∃ v b, Ev (fun k => hD_.j1 k c false) (v, b) ∧ (b = true ↔ (65 ≤ c ∧ c ≤ 70)) := by
          by_cases h3 : 65 ≤ c
          · by_cases h4 : c ≤ 70
            · exact ⟨_, true, Ev.step (fun k => by rw [hD_.j1]) (Ev.neg Bool.false_ne_true (Ev.pos h3 (Ev.pos h4 (Ev.now _)))), by simp [h3, h4]⟩
            · exact ⟨_, false, Ev.step (fun k => by rw [hD_.j1]) (Ev.neg Bool.false_ne_true (Ev.pos h3 (Ev.neg h4 (Ev.now _)))), by simp [h4]⟩
          · exact ⟨_, false, Ev.step (fun k => by rw [hD_.j1]) (Ev.neg Bool.false_ne_true (Ev.neg h3 (Ev.now _))), by simp [h3]⟩
        obtain ⟨v, b, e, hb⟩ := key2
        refine ⟨v, b, Ev.step (fun k => by rw [hD_.j0]) (Ev.neg Bool.false_ne_true ?_), by rw [hb]; constructor <;> intro h <;> omega⟩
        by_cases h3 : 97 ≤ c
        · refine Ev.pos h3 ?_
          rw [decide_eq_false (show ¬ c ≤ 102 by omega)]
          exact e
        · exact Ev.neg h3 e
    obtain ⟨v, b, e, hb⟩ := key
    refine ⟨v, b, ?_, by rw [hb]; constructor <;> intro h <;> omega⟩
    by_cases h2 : 48 ≤ c
    · refine Ev.pos h2 ?_
      rw [decide_eq_false (show ¬ c ≤ 57 by omega)]
      exact e
    · exact Ev.neg h2 e
def IsEsc (c : Int) : Prop := c = 34 ∨ c = 92 ∨ c = 47 ∨ c = 98 ∨ c = 102 ∨ c = 110 ∨ c = 114 ∨ c = 116
instance (c : Int) : Decidable (IsEsc c) := by unfold IsEsc; infer_instance
theorem esc_hex_ev (s : ByteArray) (hs : (s.size : Int) ≤ 140737488351232) (d : Nat) : ∀ m i : Int, 0 ≤ m → 4 - m = d → 0 ≤ i → i ≤ s.size →
    ∃ b j, Ev (fun k => esc_.l0 k m s i) (b, s, j) ∧ i ≤ j ∧ j ≤ s.size ∧ (b = true → j = i + d ∧ ∀ q, i ≤ q → q < j → IsHex (bt s q)) := by
  induction d with
  | zero =>
    intro m i hm hd h0 h1
    exact ⟨true, i, Ev.step (fun k => by rw [esc_.l0]) (Ev.neg (by omega) (Ev.now _)), by omega, h1, fun _ => ⟨by omega, fun q _ _ => by omega⟩⟩
  | succ d ih =>
    intro m i hm hd h0 h1
    obtain ⟨v, b, e, hb⟩ := hex_ev (hr s i)
    cases b with
    | false =>
      refine ⟨false, i, ?_, by omega, h1, fun h => by cases h⟩
      refine Ev.step (fun k => by rw [esc_.l0]) (Ev.pos (by omega) (Ev.bd (here_f s i h0) (Ev.bind e ?_)))
      exact Ev.neg Bool.false_ne_true (Ev.now _)
    | true =>
      have hx := hb.1 rfl
      obtain ⟨hl, hbt⟩ := hr_ne (s := s) (i := i) (by unfold IsHex at hx; omega)
      obtain ⟨b2, j, e2, h2, h3, h4⟩ := ih (m + 1) (i + 1) (by omega) (by omega) (by omega) (by omega)
      refine ⟨b2, j, ?_, by omega, h3, fun hb2 => ⟨by have := (h4 hb2).1; omega, fun q h5 h6 => ?_⟩⟩
      · refine Ev.step (fun k => by rw [esc_.l0]) (Ev.pos (by omega) (Ev.bd (here_f s i h0) (Ev.bind e ?_)))
        refine Ev.pos rfl ?_
        dsimp only
        rw [w64 (by omega) (by omega), w64 (by omega) (by omega)]
        exact e2
      · by_cases hq : q = i
        · rw [hq, ← hbt]; exact hx
        · exact (h4 hb2).2 q (by omega) h6
theorem esc_ev (s : ByteArray) (hs : (s.size : Int) ≤ 140737488351232) (i : Int) (h0 : 0 ≤ i) (h1 : i ≤ s.size) :
    ∃ b j, Ev (fun k => esc_.f k s i) (b, s, j) ∧ i ≤ j ∧ j ≤ s.size ∧
      (b = true → i < s.size ∧ ((IsEsc (bt s i) ∧ j = i + 1) ∨ (bt s i = 117 ∧ j = i + 5 ∧ ∀ q, i + 1 ≤ q → q < j → IsHex (bt s q)))) := by
  have hj0 : ∀ b : Bool, (b = true ↔ IsEsc (hr s i)) → ∃ b' j, Ev (fun k => esc_.j0 k (hr s i) b s i) (b', s, j) ∧ i ≤ j ∧ j ≤ s.size ∧
      (b' = true → i < s.size ∧ ((IsEsc (bt s i) ∧ j = i + 1) ∨ (bt s i = 117 ∧ j = i + 5 ∧ ∀ q, i + 1 ≤ q → q < j → IsHex (bt s q)))) := by
    intro b hb
    cases b with
    | true =>
      have hx := hb.1 rfl
      obtain ⟨hl, hbt⟩ := hr_ne (s := s) (i := i) (by unfold IsEsc at hx; omega)
      refine ⟨true, i + 1, ?_, by omega, by omega, fun _ => ⟨hl, .inl ⟨hbt ▸ hx, rfl⟩⟩⟩
      refine Ev.step (fun k => by rw [esc_.j0]) (Ev.pos rfl ?_)
      rw [w64 (by omega) (by omega)]
      exact Ev.now _
    | false =>
      by_cases hu : hr s i = 117
      · obtain ⟨hl, hbt⟩ := hr_ne (s := s) (i := i) (by omega)
        obtain ⟨b2, j, e2, h2, h3, h4⟩ := esc_hex_ev s hs 4 0 (i + 1) (by omega) (by omega) (by omega) (by omega)
        refine ⟨b2, j, ?_, by omega, h3, fun hb2 => ⟨hl, .inr ⟨by omega, by have := (h4 hb2).1; omega, (h4 hb2).2⟩⟩⟩
        refine Ev.step (fun k => by rw [esc_.j0]) (Ev.neg Bool.false_ne_true (Ev.pos hu ?_))
        rw [w64 (by omega) (by omega)]
        exact e2
      · exact ⟨false, i, Ev.step (fun k => by rw [esc_.j0]) (Ev.neg Bool.false_ne_true (Ev.neg hu (Ev.now _))), by omega, h1, fun h => by cases h⟩
  have sh : ∀ {c : Int}, hr s i = c → IsEsc c → ((hr s i == c) = true ↔ IsEsc (hr s i)) := fun h hc => by rw [h]; simp [hc]
  unfold esc_.f
  by_cases c1 : hr s i = 34
  · obtain ⟨b, j, e, h⟩ := hj0 _ (sh c1 (by unfold IsEsc; omega))
    exact ⟨b, j, Ev.bd (here_f s i h0) (Ev.pos c1 e), h⟩
  by_cases c2 : hr s i = 92
  · obtain ⟨b, j, e, h⟩ := hj0 _ (sh c2 (by unfold IsEsc; omega))
    exact ⟨b, j, Ev.bd (here_f s i h0) (Ev.neg c1 (Ev.pos c2 e)), h⟩
  by_cases c3 : hr s i = 47
  · obtain ⟨b, j, e, h⟩ := hj0 _ (sh c3 (by unfold IsEsc; omega))
    exact ⟨b, j, Ev.bd (here_f s i h0) (Ev.neg c1 (Ev.neg c2 (Ev.pos c3 e))), h⟩
  by_cases c4 : hr s i = 98
  · obtain ⟨b, j, e, h⟩ := hj0 _ (sh c4 (by unfold IsEsc; omega))
    exact ⟨b, j, Ev.bd (here_f s i h0) (Ev.neg c1 (Ev.neg c2 (Ev.neg c3 (Ev.pos c4 e)))), h⟩
  by_cases c5 : hr s i = 102
  · obtain ⟨b, j, e, h⟩ := hj0 _ (sh c5 (by unfold IsEsc; omega))
    exact ⟨b, j, Ev.bd (here_f s i h0) (Ev.neg c1 (Ev.neg c2 (Ev.neg c3 (Ev.neg c4 (Ev.pos c5 e))))), h⟩
  by_cases c6 : hr s i = 110
  · obtain ⟨b, j, e, h⟩ := hj0 _ (sh c6 (by unfold IsEsc; omega))
    exact ⟨b, j, Ev.bd (here_f s i h0) (Ev.neg c1 (Ev.neg c2 (Ev.neg c3 (Ev.neg c4 (Ev.neg c5 (Ev.pos c6 e)))))), h⟩
  by_cases c7 : hr s i = 114
  · obtain ⟨b, j, e, h⟩ := hj0 _ (sh c7 (by unfold IsEsc; omega))
    exact ⟨b, j, Ev.bd (here_f s i h0) (Ev.neg c1 (Ev.neg c2 (Ev.neg c3 (Ev.neg c4 (Ev.neg c5 (Ev.neg c6 (Ev.pos c7 e))))))), h⟩
  obtain ⟨b, j, e, h⟩ := hj0 (hr s i == 116) (by unfold IsEsc; rw [beq_iff_eq]; omega)
  exact ⟨b, j, Ev.bd (here_f s i h0) (Ev.neg c1 (Ev.neg c2 (Ev.neg c3 (Ev.neg c4 (Ev.neg c5 (Ev.neg c6 (Ev.neg c7 e))))))), h⟩
/-- From inside a string to behind its closing quotation mark. -/
inductive StrT (s : ByteArray) : Int → Int → Prop
  | done {i : Int} (h : i < s.size) (c : bt s i = 34) : StrT s i (i + 1)
  | char {i j : Int} (h : i < s.size) (c1 : bt s i ≠ 34) (c2 : bt s i ≠ 92) (c3 : 32 ≤ bt s i) (t : StrT s (i + 1) j) : StrT s i j
  | esc {i j : Int} (h : i + 1 < s.size) (c : bt s i = 92) (c2 : IsEsc (bt s (i + 1))) (t : StrT s (i + 2) j) : StrT s i j
  | uni {i j : Int} (h : i + 5 < s.size) (c : bt s i = 92) (c2 : bt s (i + 1) = 117) (c3 : ∀ q, i + 2 ≤ q → q < i + 6 → IsHex (bt s q)) (t : StrT s (i + 6) j) : StrT s i j
theorem str_ev (s : ByteArray) (hs : (s.size : Int) ≤ 140737488351232) (d : Nat) : ∀ i : Int, 0 ≤ i → i ≤ s.size → (s.size : Int) - i ≤ d →
    ∃ b j, Ev (fun k => q_.l0 k s i) (b, s, j) ∧ i ≤ j ∧ j ≤ s.size ∧ (b = true → i < j ∧ StrT s i j) := by
  induction d with
  | zero =>
    intro i h0 h1 hd
    exact ⟨false, i, Ev.step (fun k => by rw [q_.l0]) (Ev.neg (by omega) (Ev.now _)), by omega, h1, fun h => by cases h⟩
  | succ d ih =>
    intro i h0 h1 hd
    by_cases hl : i < (s.size : Int)
    · have hw : wrap64 (i + 1) = i + 1 := w64 (by omega) (by omega)
      by_cases c1 : bt s i = 34
      · refine ⟨true, i + 1, ?_, by omega, by omega, fun _ => ⟨by omega, .done hl c1⟩⟩
        refine Ev.step (fun k => by rw [q_.l0]) (Ev.pos hl (Ev.pos h0 (Ev.pos c1 ?_)))
        rw [hw]; exact Ev.now _
      · by_cases c2 : bt s i < 32
        · refine ⟨false, i + 1, ?_, by omega, by omega, fun h => by cases h⟩
          refine Ev.step (fun k => by rw [q_.l0]) (Ev.pos hl (Ev.pos h0 (Ev.neg c1 (Ev.pos c2 ?_))))
          rw [hw]; exact Ev.now _
        · by_cases c3 : bt s i = 92
          · obtain ⟨b, j, e, h2, h3, h4⟩ := esc_ev s hs (i + 1) (by omega) (by omega)
            cases b with
            | false =>
              refine ⟨false, j, ?_, by omega, h3, fun h => by cases h⟩
              refine Ev.step (fun k => by rw [q_.l0]) (Ev.pos hl (Ev.pos h0 (Ev.neg c1 (Ev.neg c2 (Ev.pos c3 ?_)))))
              rw [hw]
              exact Ev.bind e (Ev.neg Bool.false_ne_true (Ev.now _))
            | true =>
              obtain ⟨h5, h6⟩ := h4 rfl
              obtain ⟨b2, j2, e2, h7, h8, h9⟩ := ih j (by omega) h3 (by omega)
              refine ⟨b2, j2, ?_, by omega, h8, fun hb => ⟨by have := (h9 hb).1; omega, ?_⟩⟩
              · refine Ev.step (fun k => by rw [q_.l0]) (Ev.pos hl (Ev.pos h0 (Ev.neg c1 (Ev.neg c2 (Ev.pos c3 ?_)))))
                rw [hw]
                exact Ev.bind e (Ev.pos rfl e2)
              · rcases h6 with ⟨h6, rfl⟩ | ⟨h6, rfl, h10⟩
                · exact .esc h5 c3 h6 (by have := (h9 hb).2; rwa [show i + 1 + 1 = i + 2 by omega] at this)
                · exact .uni (by omega) c3 h6 (fun q h11 h12 => h10 q (by omega) (by omega)) (by have := (h9 hb).2; rwa [show i + 1 + 5 = i + 6 by omega] at this)
          · obtain ⟨b2, j2, e2, h7, h8, h9⟩ := ih (i + 1) (by omega) (by omega) (by omega)
            refine ⟨b2, j2, ?_, by omega, h8, fun hb => ⟨by have := (h9 hb).1; omega, .char hl c1 c3 (by omega) (h9 hb).2⟩⟩
            refine Ev.step (fun k => by rw [q_.l0]) (Ev.pos hl (Ev.pos h0 (Ev.neg c1 (Ev.neg c2 (Ev.neg c3 ?_)))))
            rw [hw]; exact e2
    · exact ⟨false, i, Ev.step (fun k => by rw [q_.l0]) (Ev.neg hl (Ev.now _)), by omega, h1, fun h => by cases h⟩
theorem quoted_ev (s : ByteArray) (hs : (s.size : Int) ≤ 140737488351232) (i : Int) (h0 : 0 ≤ i) (h1 : i < s.size) :
    ∃ b j, Ev (fun k => q_.f k s i) (b, s, j) ∧ i < j ∧ j ≤ s.size ∧ (b = true → i + 1 < j ∧ StrT s (i + 1) j) := by
  obtain ⟨b, j, e, h2, h3, h4⟩ := str_ev s hs ((s.size : Int) - (i + 1)).toNat (i + 1) (by omega) (by omega) (by omega)
  refine ⟨b, j, ?_, by omega, h3, h4⟩
  unfold q_.f
  rw [w64 (by omega) (by omega)]
  exact e

/-! ### numbers -/
structure Digs (s : ByteArray) (a b : Int) : Prop where
  lt : a < b
  hi : b ≤ s.size
  all : ∀ q, a ≤ q → q < b → 48 ≤ bt s q ∧ bt s q ≤ 57
  stop : b = s.size ∨ ¬ (48 ≤ bt s b ∧ bt s b ≤ 57)
theorem digs_l_ev (s : ByteArray) (hs : (s.size : Int) ≤ 140737488351232) (a : Int) (d : Nat) : ∀ i : Int, 0 ≤ i → i ≤ s.size → (s.size : Int) - i ≤ d →
    ∃ j, Ev (fun k => d_.l0 k a (hr s i) s i) (decide (j > a), s, j) ∧ i ≤ j ∧ j ≤ s.size ∧ (∀ q, i ≤ q → q < j → 48 ≤ bt s q ∧ bt s q ≤ 57) ∧ (j = s.size ∨ ¬ (48 ≤ bt s j ∧ bt s j ≤ 57)) := by
  induction d with
  | zero =>
    intro i h0 h1 hd
    refine ⟨i, ?_, by omega, h1, fun q _ _ => by omega, .inl (by omega)⟩
    rw [hr_ge (by omega)]
    exact Ev.step (fun k => by rw [d_.l0]) (Ev.neg (by omega) (Ev.now _))
  | succ d ih =>
    intro i h0 h1 hd
    by_cases hl : i < (s.size : Int)
    · rw [hr_lt hl]
      by_cases c : 48 ≤ bt s i ∧ bt s i ≤ 57
      · obtain ⟨j, e, h2, h3, h4, h5⟩ := ih (i + 1) (by omega) (by omega) (by omega)
        refine ⟨j, ?_, by omega, h3, fun q h6 h7 => ?_, h5⟩
        · refine Ev.step (fun k => by rw [d_.l0]) (Ev.pos c.1 (Ev.pos c.2 ?_))
          rw [w64 (by omega) (by omega)]
          exact Ev.bd (here_f s (i + 1) (by omega)) e
        · by_cases hq : q = i
          · rw [hq]; exact c
          · exact h4 q (by omega) h7
      · refine ⟨i, ?_, by omega, h1, fun q _ _ => by omega, .inr c⟩
        refine Ev.step (fun k => by rw [d_.l0]) ?_
        by_cases c2 : 48 ≤ bt s i
        · exact Ev.pos c2 (Ev.neg (by omega) (Ev.now _))
        · exact Ev.neg c2 (Ev.now _)
    · refine ⟨i, ?_, by omega, h1, fun q _ _ => by omega, .inl (by omega)⟩
      rw [hr_ge (by omega)]
      exact Ev.step (fun k => by rw [d_.l0]) (Ev.neg (by omega) (Ev.now _))
theorem digs_ev (s : ByteArray) (hs : (s.size : Int) ≤ 140737488351232) (i : Int) (h0 : 0 ≤ i) (h1 : i ≤ s.size) :
    ∃ b j, Ev (fun k => d_.f k s i) (b, s, j) ∧ i ≤ j ∧ j ≤ s.size ∧ (b = true → Digs s i j) := by
  obtain ⟨j, e, h2, h3, h4, h5⟩ := digs_l_ev s hs i ((s.size : Int) - i).toNat i h0 h1 (by omega)
  exact ⟨_, j, Ev.bd (here_f s i h0) e, h2, h3, fun hb => ⟨of_decide_eq_true hb, h3, h4, h5⟩⟩
/-- The parts of a number: behind the sign, behind the whole part, behind the fraction, behind the power. -/
structure Num (s : ByteArray) (i j : Int) : Prop where
  out : ∃ a b c : Int, ((a = i ∧ hr s i ≠ 45) ∨ (bt s i = 45 ∧ a = i + 1)) ∧ ((a < s.size ∧ bt s a = 48 ∧ b = a + 1) ∨ (hr s a ≠ 48 ∧ Digs s a b)) ∧ ((c = b ∧ hr s b ≠ 46) ∨ (bt s b = 46 ∧ Digs s (b + 1) c)) ∧
    ((j = c ∧ hr s c ≠ 101 ∧ hr s c ≠ 69) ∨ ((bt s c = 101 ∨ bt s c = 69) ∧ ((hr s (c + 1) ≠ 43 ∧ hr s (c + 1) ≠ 45 ∧ Digs s (c + 1) j) ∨ ((bt s (c + 1) = 43 ∨ bt s (c + 1) = 45) ∧ Digs s (c + 2) j))))
theorem num_j2 (s : ByteArray) (hs : (s.size : Int) ≤ 140737488351232) (c : Int) (h0 : 0 ≤ c) (h1 : c ≤ s.size) :
    ∃ b j, Ev (fun k => n_.j2 k true s c) (b, s, j) ∧ c ≤ j ∧ j ≤ s.size ∧ (b = true → (hr s c ≠ 43 ∧ hr s c ≠ 45 ∧ Digs s c j) ∨ ((bt s c = 43 ∨ bt s c = 45) ∧ Digs s (c + 1) j)) := by
  by_cases c1 : hr s c = 43
  · obtain ⟨hl, hb⟩ := hr_ne (s := s) (i := c) (by omega)
    obtain ⟨b, j, e, h2, h3, h4⟩ := digs_ev s hs (c + 1) (by omega) (by omega)
    exact ⟨b, j, Ev.step (fun k => by rw [n_.j2]) (Ev.pos rfl (Ev.bd (take_yes hs h0 (by omega) c1) (Ev.pos rfl (Ev.bind e (Ev.now _))))), by omega, h3, fun hh => .inr ⟨.inl (by omega), h4 hh⟩⟩
  · by_cases c2 : hr s c = 45
    · obtain ⟨hl, hb⟩ := hr_ne (s := s) (i := c) (by omega)
      obtain ⟨b, j, e, h2, h3, h4⟩ := digs_ev s hs (c + 1) (by omega) (by omega)
      exact ⟨b, j, Ev.step (fun k => by rw [n_.j2]) (Ev.pos rfl (Ev.bd (take_no hs h0 (by omega) c1) (Ev.neg Bool.false_ne_true (Ev.bd (take_yes hs h0 (by omega) c2) (Ev.bind e (Ev.now _)))))), by omega, h3, fun hh => .inr ⟨.inr (by omega), h4 hh⟩⟩
    · obtain ⟨b, j, e, h2, h3, h4⟩ := digs_ev s hs c h0 h1
      exact ⟨b, j, Ev.step (fun k => by rw [n_.j2]) (Ev.pos rfl (Ev.bd (take_no hs h0 (by omega) c1) (Ev.neg Bool.false_ne_true (Ev.bd (take_no hs h0 (by omega) c2) (Ev.bind e (Ev.now _)))))), h2, h3, fun hh => .inl ⟨c1, c2, h4 hh⟩⟩
theorem num_j1 (s : ByteArray) (hs : (s.size : Int) ≤ 140737488351232) (c : Int) (h0 : 0 ≤ c) (h1 : c ≤ s.size) :
    ∃ b j, Ev (fun k => n_.j1 k false s c) (b, s, j) ∧ c ≤ j ∧ j ≤ s.size ∧ (b = true → ((j = c ∧ hr s c ≠ 101 ∧ hr s c ≠ 69) ∨ ((bt s c = 101 ∨ bt s c = 69) ∧ ((hr s (c + 1) ≠ 43 ∧ hr s (c + 1) ≠ 45 ∧ Digs s (c + 1) j) ∨ ((bt s (c + 1) = 43 ∨ bt s (c + 1) = 45) ∧ Digs s (c + 2) j))))) := by
  by_cases c1 : hr s c = 101
  · obtain ⟨hl, hb⟩ := hr_ne (s := s) (i := c) (by omega)
    obtain ⟨b, j, e, h2, h3, h4⟩ := num_j2 s hs (c + 1) (by omega) (by omega)
    exact ⟨b, j, Ev.step (fun k => by rw [n_.j1]) (Ev.neg Bool.false_ne_true (Ev.bd (take_yes hs h0 (by omega) c1) (Ev.pos rfl e))), by omega, h3, fun hh => .inr ⟨.inl (by omega), by rw [show c + 2 = c + 1 + 1 by omega]; exact h4 hh⟩⟩
  · by_cases c2 : hr s c = 69
    · obtain ⟨hl, hb⟩ := hr_ne (s := s) (i := c) (by omega)
      obtain ⟨b, j, e, h2, h3, h4⟩ := num_j2 s hs (c + 1) (by omega) (by omega)
      exact ⟨b, j, Ev.step (fun k => by rw [n_.j1]) (Ev.neg Bool.false_ne_true (Ev.bd (take_no hs h0 (by omega) c1) (Ev.neg Bool.false_ne_true (Ev.bd (take_yes hs h0 (by omega) c2) e)))), by omega, h3, fun hh => .inr ⟨.inr (by omega), by rw [show c + 2 = c + 1 + 1 by omega]; exact h4 hh⟩⟩
    · refine ⟨true, c, Ev.step (fun k => by rw [n_.j1]) (Ev.neg Bool.false_ne_true (Ev.bd (take_no hs h0 (by omega) c1) (Ev.neg Bool.false_ne_true (Ev.bd (take_no hs h0 (by omega) c2) ?_)))), by omega, h1, fun _ => .inl ⟨rfl, c1, c2⟩⟩
      exact Ev.step (fun k => by rw [n_.j2]) (Ev.neg Bool.false_ne_true (Ev.now _))
theorem num_j0 (s : ByteArray) (hs : (s.size : Int) ≤ 140737488351232) (b : Int) (h0 : 0 ≤ b) (h1 : b ≤ s.size) :
    ∃ o j, Ev (fun k => n_.j0 k false s b) (o, s, j) ∧ b ≤ j ∧ j ≤ s.size ∧ (o = true → ∃ c : Int, ((c = b ∧ hr s b ≠ 46) ∨ (bt s b = 46 ∧ Digs s (b + 1) c)) ∧ ((j = c ∧ hr s c ≠ 101 ∧ hr s c ≠ 69) ∨ ((bt s c = 101 ∨ bt s c = 69) ∧ ((hr s (c + 1) ≠ 43 ∧ hr s (c + 1) ≠ 45 ∧ Digs s (c + 1) j) ∨ ((bt s (c + 1) = 43 ∨ bt s (c + 1) = 45) ∧ Digs s (c + 2) j))))) := by
  by_cases c1 : hr s b = 46
  · obtain ⟨hl, hb⟩ := hr_ne (s := s) (i := b) (by omega)
    obtain ⟨o, c, e, h2, h3, h4⟩ := digs_ev s hs (b + 1) (by omega) (by omega)
    cases o with
    | false =>
      refine ⟨false, c, Ev.step (fun k => by rw [n_.j0]) (Ev.neg Bool.false_ne_true (Ev.bd (take_yes hs h0 (by omega) c1) (Ev.pos rfl (Ev.bind e ?_)))), by omega, h3, fun h => by cases h⟩
      refine Ev.step (fun k => by rw [n_.j1]) ?_
      exact Ev.pos rfl (Ev.now _)
    | true =>
      obtain ⟨o2, j, e2, h5, h6, h7⟩ := num_j1 s hs c (by omega) h3
      exact ⟨o2, j, Ev.step (fun k => by rw [n_.j0]) (Ev.neg Bool.false_ne_true (Ev.bd (take_yes hs h0 (by omega) c1) (Ev.pos rfl (Ev.bind e e2)))), by omega, h6, fun hh => ⟨c, .inr ⟨by omega, h4 rfl⟩, h7 hh⟩⟩
  · obtain ⟨o2, j, e2, h5, h6, h7⟩ := num_j1 s hs b h0 h1
    exact ⟨o2, j, Ev.step (fun k => by rw [n_.j0]) (Ev.neg Bool.false_ne_true (Ev.bd (take_no hs h0 (by omega) c1) (Ev.neg Bool.false_ne_true e2))), h5, h6, fun hh => ⟨b, .inl ⟨rfl, c1⟩, h7 hh⟩⟩
theorem num_ev (s : ByteArray) (hs : (s.size : Int) ≤ 140737488351232) (i : Int) (h0 : 0 ≤ i) (h1 : i ≤ s.size) :
    ∃ o j, Ev (fun k => n_.f k s i) (o, s, j) ∧ i ≤ j ∧ j ≤ s.size ∧ (o = true → Num s i j) := by
  have main : ∀ (a : Int), i ≤ a → a ≤ s.size → ((a = i ∧ hr s i ≠ 45) ∨ (bt s i = 45 ∧ a = i + 1)) →
      ∃ o j, Ev (fun k => (t_.f s a 48).bind fun bt122 => (if bt122.1 = true then (n_.j0 k false bt122.2.1 bt122.2.2) else ((d_.f k bt122.2.1 bt122.2.2).bind fun bt125 => (n_.j0 k (!bt125.1) bt125.2.1 bt125.2.2)))) (o, s, j) ∧ i ≤ j ∧ j ≤ s.size ∧ (o = true → Num s i j) := by
    intro a ha1 ha2 ha
    by_cases c1 : hr s a = 48
    · obtain ⟨hl, hb⟩ := hr_ne (s := s) (i := a) (by omega)
      obtain ⟨o, j, e, h2, h3, h4⟩ := num_j0 s hs (a + 1) (by omega) (by omega)
      refine ⟨o, j, Ev.bd (take_yes hs (by omega) (by omega) c1) (Ev.pos rfl e), by omega, h3, fun hh => ?_⟩
      obtain ⟨c, h5, h6⟩ := h4 hh
      exact ⟨a, a + 1, c, ha, .inl ⟨hl, by omega, rfl⟩, h5, h6⟩
    · obtain ⟨o, b, e, h2, h3, h4⟩ := digs_ev s hs a (by omega) ha2
      cases o with
      | false =>
        refine ⟨false, b, Ev.bd (take_no hs (by omega) (by omega) c1) (Ev.neg Bool.false_ne_true (Ev.bind e ?_)), by omega, h3, fun h => by cases h⟩
        refine Ev.step (fun k => by rw [n_.j0]) ?_
        exact Ev.pos rfl (Ev.now _)
      | true =>
        obtain ⟨o, j, e2, h5, h6, h7⟩ := num_j0 s hs b (by omega) h3
        refine ⟨o, j, Ev.bd (take_no hs (by omega) (by omega) c1) (Ev.neg Bool.false_ne_true (Ev.bind e e2)), by omega, h6, fun hh => ?_⟩
        obtain ⟨c, h8, h9⟩ := h7 hh
        exact ⟨a, b, c, ha, .inr ⟨c1, h4 rfl⟩, h8, h9⟩
  unfold n_.f
  by_cases c1 : hr s i = 45
  · obtain ⟨hl, hb⟩ := hr_ne (s := s) (i := i) (by omega)
    obtain ⟨o, j, e, h2⟩ := main (i + 1) (by omega) (by omega) (.inr ⟨by omega, rfl⟩)
    exact ⟨o, j, Ev.bd (take_yes hs h0 (by omega) c1) e, h2⟩
  · obtain ⟨o, j, e, h2⟩ := main i (by omega) h1 (.inl ⟨rfl, c1⟩)
    exact ⟨o, j, Ev.bd (take_no hs h0 (by omega) c1) e, h2⟩
end Go.Proofs.YtmneeighbkcadaaDoor.JFnJpLength
