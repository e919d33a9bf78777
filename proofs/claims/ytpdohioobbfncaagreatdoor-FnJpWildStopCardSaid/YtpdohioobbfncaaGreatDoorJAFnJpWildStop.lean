/- The reference's reader of JSON texts, as plain lists and numbers: what its parts go over. -/
import Derived.Test.YtpdohioobbfncaaGreatDoorPFnJpWildStopx12
import Derived.Test.YtpdohioobbfncaaGreatDoorPFnJpWildStopx14
import Derived.Test.YtpdohioobbfncaaGreatDoorPFnJpWildStopx15
import Derived.Test.YtpdohioobbfncaaGreatDoorPFnJpWildStopx16
import Derived.Lib.Strings
namespace Go.Proofs.YtpdohioobbfncaaGreatDoor.JFnJpWildStop
open Go.RowKit Go.Proofs.YtpdohioobbfncaaGreatDoor.PFnJpWildStop Go.Proofs.YtpdohioobbfncaaGreatDoorW.PrintWords Go.Proofs.YtpdohioobbfncaaGreatDoorW.PrintLast Go.Proofs.YtpdohioobbfncaaGreatDoorW.PrintMore
theorem w64 {x : Int} (h0 : -9223372036854775808 ≤ x) (h1 : x ≤ 9223372036854775807) : wrap64 x = x := by
  unfold wrap64; omega
theorem Ev.pos {α : Type} {c : Prop} [Decidable c] {f g : Nat → Option α} {r : α} (h : c) (e : Ev f r) : Ev (fun k => if c then f k else g k) r :=
  Ev.congr (fun _ => if_pos h) e
theorem Ev.neg {α : Type} {c : Prop} [Decidable c] {f g : Nat → Option α} {r : α} (h : ¬ c) (e : Ev g r) : Ev (fun k => if c then f k else g k) r :=
  Ev.congr (fun _ => if_neg h) e
theorem Ev.bd {α β : Type} {g : Option α} {f : Nat → α → Option β} {a : α} {r : β} (h : g = some a) (k : Ev (fun n => f n a) r) : Ev (fun n => g.bind (f n)) r :=
  Ev.congr (fun n => by rw [h]; rfl) k
theorem Ev.eq {α : Type} {f : Nat → Option α} {a b : α} (h : a = b) (e : Ev f a) : Ev f b := h ▸ e
def IsBl (c : Int) : Prop := c = 32 ∨ c = 9 ∨ c = 10 ∨ c = 13
instance (c : Int) : Decidable (IsBl c) := by unfold IsBl; infer_instance
theorem blank_f (c : Int) : BB_.f c = some (decide (IsBl c)) := by
  unfold BB_.f IsBl
  by_cases h1 : c = 32
  · simp [h1]
  · by_cases h2 : c = 9
    · simp [h2]
    · by_cases h3 : c = 10
      · simp [h3]
      · rw [if_neg h1, if_neg h2, if_neg h3]
        by_cases h4 : c = 13 <;> simp [h1, h2, h3, h4]
structure Blk (s : ByteArray) (i j : Int) : Prop where
  le : i ≤ j
  hi : j ≤ s.size
  all : ∀ q, i ≤ q → q < j → IsBl (bt s q)
  stop : j = s.size ∨ ¬ IsBl (bt s j)
theorem blanks_ev (s : ByteArray) (hs : (s.size : Int) ≤ 140737488351232) (d : Nat) : ∀ i : Int, 0 ≤ i → i ≤ s.size → (s.size : Int) - i = d →
    ∃ j, Ev (fun k => b_.l0 k s i) (s, j) ∧ Blk s i j := by
  induction d with
  | zero =>
    intro i h0 h1 hd
    refine ⟨i, ?_, ⟨by omega, by omega, fun q _ _ => by omega, .inl (by omega)⟩⟩
    refine Ev.step (fun k => by rw [b_.l0]) ?_
    exact Ev.neg (by omega) (Ev.now _)
  | succ d ih =>
    intro i h0 h1 hd
    by_cases hb : IsBl (bt s i)
    · obtain ⟨j, e, b⟩ := ih (i + 1) (by omega) (by omega) (by omega)
      refine ⟨j, ?_, ⟨by have := b.le; omega, b.hi, fun q h2 h3 => ?_, b.stop⟩⟩
      · refine Ev.step (fun k => by rw [b_.l0]) ?_
        refine Ev.pos (by omega) (Ev.pos h0 (Ev.bd (blank_f _) ?_))
        refine Ev.pos (decide_eq_true hb) ?_
        rw [w64 (by omega) (by omega)]
        exact e
      · by_cases hq : q = i
        · rw [hq]; exact hb
        · exact b.all q (by omega) h3
    · refine ⟨i, ?_, ⟨by omega, by omega, fun q _ _ => by omega, .inr hb⟩⟩
      refine Ev.step (fun k => by rw [b_.l0]) ?_
      refine Ev.pos (by omega) (Ev.pos h0 (Ev.bd (blank_f _) ?_))
      exact Ev.neg (by simpa using hb) (Ev.now _)
theorem blanks_f_ev (s : ByteArray) (hs : (s.size : Int) ≤ 140737488351232) (i : Int) (h0 : 0 ≤ i) (h1 : i ≤ s.size) :
    ∃ j, Ev (fun k => b_.f k s i) (s, j) ∧ Blk s i j := by
  obtain ⟨j, e, b⟩ := blanks_ev s hs ((s.size : Int) - i).toNat i h0 h1 (by omega)
  exact ⟨j, e, b⟩
def hr (s : ByteArray) (i : Int) : Int := if i < (s.size : Int) then bt s i else 0
theorem here_f (s : ByteArray) (i : Int) (h0 : 0 ≤ i) : her_.f s i = some (hr s i, s, i) := by
  unfold her_.f hr
  by_cases h : i < (s.size : Int)
  · rw [if_pos h, if_pos h0, if_pos h]
  · rw [if_neg h, if_neg h]
theorem hr_lt {s : ByteArray} {i : Int} (h : i < (s.size : Int)) : hr s i = bt s i := if_pos h
theorem hr_ge {s : ByteArray} {i : Int} (h : (s.size : Int) ≤ i) : hr s i = 0 := if_neg (by omega)
theorem hr_ne {s : ByteArray} {i : Int} (h : hr s i ≠ 0) : i < (s.size : Int) ∧ hr s i = bt s i := by
  by_cases hh : i < (s.size : Int)
  · exact ⟨hh, hr_lt hh⟩
  · exact absurd (hr_ge (by omega)) h
theorem take_f (s : ByteArray) (hs : (s.size : Int) ≤ 140737488351232) (i c : Int) (h0 : 0 ≤ i) (hc : c ≠ 0) :
    t_.f s i c = if hr s i = c then some (true, s, i + 1) else some (false, s, i) := by
  unfold t_.f hr
  by_cases h : i < (s.size : Int)
  · rw [if_pos h, if_pos h0, if_pos h, w64 (by omega) (by omega)]
  · rw [if_neg h, if_neg h, if_neg (fun h => hc h.symm)]
theorem take_yes {s : ByteArray} (hs : (s.size : Int) ≤ 140737488351232) {i c : Int} (h0 : 0 ≤ i) (hc : c ≠ 0) (h : hr s i = c) : t_.f s i c = some (true, s, i + 1) := by
  rw [take_f s hs i c h0 hc, if_pos h]
theorem take_no {s : ByteArray} (hs : (s.size : Int) ≤ 140737488351232) {i c : Int} (h0 : 0 ≤ i) (hc : c ≠ 0) (h : hr s i ≠ c) : t_.f s i c = some (false, s, i) := by
  rw [take_f s hs i c h0 hc, if_neg h]
def IsHex (c : Int) : Prop := (48 ≤ c ∧ c ≤ 57) ∨ (97 ≤ c ∧ c ≤ 102) ∨ (65 ≤ c ∧ c ≤ 70)
instance (c : Int) : Decidable (IsHex c) := by unfold IsHex; infer_instance
theorem hex_ev (c : Int) : ∃ v b, Ev (fun k => hD_.f k c) (v, b) ∧ (b = true ↔ IsHex c) := by
  unfold hD_.f IsHex
  by_cases h1 : 48 ≤ c ∧ c ≤ 57
  · refine ⟨_, true, Ev.pos h1.1 (Ev.step (fun k => by rw [hD_.j0]) (Ev.pos (decide_eq_true h1.2) (Ev.now _))), by simp [h1]⟩
  · have key : ∃ v b, Ev (fun k => hD_.j0 k c false) (v, b) ∧ (b = true ↔ (97 ≤ c ∧ c ≤ 102) ∨ (65 ≤ c ∧ c ≤ 70)) := by
      by_cases h2 : 97 ≤ c ∧ c ≤ 102
      · exact ⟨_, true, Ev.step (fun k => by rw [hD_.j0]) (Ev.neg Bool.false_ne_true (Ev.pos h2.1 (Ev.step (fun k => by rw [hD_.j1]) (Ev.pos (decide_eq_true h2.2) (Ev.now _))))), by simp [h2]⟩
      · have key2 : ∃ v b, Ev (fun k => hD_.j1 k c false) (v, b) ∧ (b = true ↔ (65 ≤ c ∧ c ≤ 70)) := by
          by_cases h3 : 65 ≤ c
          · by_cases h4 : c ≤ 70
            · exact ⟨_, true, Ev.step (fun k => by rw [hD_.j1]) (Ev.neg Bool.false_ne_true (Ev.pos h3 (Ev.pos h4 (Ev.now _)))), by simp [h3, h4]⟩
            · exact ⟨_, false, Ev.step (fun k => by rw [hD_.j1]) (Ev.neg Bool.false_ne_true (Ev.pos h3 (Ev.neg h4 (Ev.now _)))), by simp [h4]⟩
          · exact ⟨_, false, Ev.step (fun k => by rw [hD_.j1]) (Ev.neg Bool.false_ne_true (Ev.neg h3 (Ev.now _))), by simp [h3]⟩
        obtain ⟨v, b, e, hb⟩ := key2
        refine ⟨v, b, Ev.step (fun k => by rw [hD_.j0]) (Ev.neg Bool.false_ne_true ?_), by rw [hb]; constructor <;> intro h <;> omega⟩
        by_cases h3 : 97 ≤ c
        · refine Ev.pos h3 ?_
          rw [decide_eq_false (show ¬ c ≤ 102 by omega)]
          exact e
        · exact Ev.neg h3 e
    obtain ⟨v, b, e, hb⟩ := key
    refine ⟨v, b, ?_, by rw [hb]; constructor <;> intro h <;> omega⟩
    by_cases h2 : 48 ≤ c
    · refine Ev.pos h2 ?_
      rw [decide_eq_false (show ¬ c ≤ 57 by omega)]
      exact e
    · exact Ev.neg h2 e
def IsEsc (c : Int) : Prop := c = 34 ∨ c = 92 ∨ c = 47 ∨ c = 98 ∨ c = 102 ∨ c = 110 ∨ c = 114 ∨ c = 116
instance (c : Int) : Decidable (IsEsc c) := by unfold IsEsc; infer_instance
theorem esc_hex_ev (s : ByteArray) (hs : (s.size : Int) ≤ 140737488351232) (d : Nat) : ∀ m i : Int, 0 ≤ m → 4 - m = d → 0 ≤ i → i ≤ s.size →
    ∃ b j, Ev (fun k => esc_.l0 k m s i) (b, s, j) ∧ i ≤ j ∧ j ≤ s.size ∧ (b = true → j = i + d ∧ ∀ q, i ≤ q → q < j → IsHex (bt s q)) := by
  induction d with
  | zero =>
    intro m i hm hd h0 h1
    exact ⟨true, i, Ev.step (fun k => by rw [esc_.l0]) (Ev.neg (by omega) (Ev.now _)), by omega, h1, fun _ => ⟨by omega, fun q _ _ => by omega⟩⟩
  | succ d ih =>
    intro m i hm hd h0 h1
    obtain ⟨v, b, e, hb⟩ := hex_ev (hr s i)
    cases b with
    | false =>
      refine ⟨false, i, ?_, by omega, h1, fun h => by cases h⟩
      refine Ev.step (fun k => by rw [esc_.l0]) (Ev.pos (by omega) (Ev.bd (here_f s i h0) (Ev.bind e ?_)))
      exact Ev.neg Bool.false_ne_true (Ev.now _)
    | true =>
      have hx := hb.1 rfl
      obtain ⟨hl, hbt⟩ := hr_ne (s := s) (i := i) (by unfold IsHex at hx; omega)
      obtain ⟨b2, j, e2, h2, h3, h4⟩ := ih (m + 1) (i + 1) (by omega) (by omega) (by omega) (by omega)
      refine ⟨b2, j, ?_, by omega, h3, fun hb2 => ⟨by have := (h4 hb2).1; omega, fun q h5 h6 => ?_⟩⟩
      · refine Ev.step (fun k => by rw [esc_.l0]) (Ev.pos (by omega) (Ev.bd (here_f s i h0) (Ev.bind e ?_)))
        refine Ev.pos rfl ?_
        dsimp only
        rw [w64 (by omega) (by omega), w64 (by omega) (by omega)]
        exact e2
      · by_cases hq : q = i
        · rw [hq, ← hbt]; exact hx
        · exact (h4 hb2).2 q (by omega) h6
theorem esc_ev (s : ByteArray) (hs : (s.size : Int) ≤ 140737488351232) (i : Int) (h0 : 0 ≤ i) (h1 : i ≤ s.size) :
    ∃ b j, Ev (fun k => esc_.f k s i) (b, s, j) ∧ i ≤ j ∧ j ≤ s.size ∧
      (b = true → i < s.size ∧ ((IsEsc (bt s i) ∧ j = i + 1) ∨ (bt s i = 117 ∧ j = i + 5 ∧ ∀ q, i + 1 ≤ q → q < j → IsHex (bt s q)))) := by
  have hj0 : ∀ b : Bool, (b = true ↔ IsEsc (hr s i)) → ∃ b' j, Ev (fun k => esc_.j0 k (hr s i) b s i) (b', s, j) ∧ i ≤ j ∧ j ≤ s.size ∧
      (b' = true → i < s.size ∧ ((IsEsc (bt s i) ∧ j = i + 1) ∨ (bt s i = 117 ∧ j = i + 5 ∧ ∀ q, i + 1 ≤ q → q < j → IsHex (bt s q)))) := by
    intro b hb
    cases b with
    | true =>
      have hx := hb.1 rfl
      obtain ⟨hl, hbt⟩ := hr_ne (s := s) (i := i) (by unfold IsEsc at hx; omega)
      refine ⟨true, i + 1, ?_, by omega, by omega, fun _ => ⟨hl, .inl ⟨hbt ▸ hx, rfl⟩⟩⟩
      refine Ev.step (fun k => by rw [esc_.j0]) (Ev.pos rfl ?_)
      rw [w64 (by omega) (by omega)]
      exact Ev.now _
    | false =>
      by_cases hu : hr s i = 117
      · obtain ⟨hl, hbt⟩ := hr_ne (s := s) (i := i) (by omega)
        obtain ⟨b2, j, e2, h2, h3, h4⟩ := esc_hex_ev s hs 4 0 (i + 1) (by omega) (by omega) (by omega) (by omega)
        refine ⟨b2, j, ?_, by omega, h3, fun hb2 => ⟨hl, .inr ⟨by omega, by have := (h4 hb2).1; omega, (h4 hb2).2⟩⟩⟩
        refine Ev.step (fun k => by rw [esc_.j0]) (Ev.neg Bool.false_ne_true (Ev.pos hu ?_))
        rw [w64 (by omega) (by omega)]
        exact e2
      · exact ⟨false, i, Ev.step (fun k => by rw [esc_.j0]) (Ev.neg Bool.false_ne_true (Ev.neg hu (Ev.now _))), by omega, h1, fun h => by cases h⟩
  have sh : ∀ {c : Int}, hr s i = c → IsEsc c → ((hr s i == c) = true ↔ IsEsc (hr s i)) := fun h hc => by rw [h]; simp [hc]
  unfold esc_.f
  by_cases c1 : hr s i = 34
  · obtain ⟨b, j, e, h⟩ := hj0 _ (sh c1 (by unfold IsEsc; omega))
    exact ⟨b, j, Ev.bd (here_f s i h0) (Ev.pos c1 e), h⟩
  by_cases c2 : hr s i = 92
  · obtain ⟨b, j, e, h⟩ := hj0 _ (sh c2 (by unfold IsEsc; omega))
    exact ⟨b, j, Ev.bd (here_f s i h0) (Ev.neg c1 (Ev.pos c2 e)), h⟩
  by_cases c3 : hr s i = 47
  · obtain ⟨b, j, e, h⟩ := hj0 _ (sh c3 (by unfold IsEsc; omega))
    exact ⟨b, j, Ev.bd (here_f s i h0) (Ev.neg c1 (Ev.neg c2 (Ev.pos c3 e))), h⟩
  by_cases c4 : hr s i = 98
  · obtain ⟨b, j, e, h⟩ := hj0 _ (sh c4 (by unfold IsEsc; omega))
    exact ⟨b, j, Ev.bd (here_f s i h0) (Ev.neg c1 (Ev.neg c2 (Ev.neg c3 (Ev.pos c4 e)))), h⟩
  by_cases c5 : hr s i = 102
  · obtain ⟨b, j, e, h⟩ := hj0 _ (sh c5 (by unfold IsEsc; omega))
    exact ⟨b, j, Ev.bd (here_f s i h0) (Ev.neg c1 (Ev.neg c2 (Ev.neg c3 (Ev.neg c4 (Ev.pos c5 e))))), h⟩
  by_cases c6 : hr s i = 110
  · obtain ⟨b, j, e, h⟩ := hj0 _ (sh c6 (by unfold IsEsc; omega))
    exact ⟨b, j, Ev.bd (here_f s i h0) (Ev.neg c1 (Ev.neg c2 (Ev.neg c3 (Ev.neg c4 (Ev.neg c5 (Ev.pos c6 e)))))), h⟩
  by_cases c7 : hr s i = 114
  · obtain ⟨b, j, e, h⟩ := hj0 _ (sh c7 (by unfold IsEsc; omega))
    exact ⟨b, j, Ev.bd (here_f s i h0) (Ev.neg c1 (Ev.neg c2 (Ev.neg c3 (Ev.neg c4 (Ev.neg c5 (Ev.neg c6 (Ev.pos c7 e))))))), h⟩
  obtain ⟨b, j, e, h⟩ := hj0 (hr s i == 116) (by unfold IsEsc; rw [beq_iff_eq]; omega)
  exact ⟨b, j, Ev.bd (here_f s i h0) (Ev.neg c1 (Ev.neg c2 (Ev.neg c3 (Ev.neg c4 (Ev.neg c5 (Ev.neg c6 (Ev.neg c7 e))))))), h⟩
/-- From inside a string to behind its closing quotation mark. -/
inductive StrT (s : ByteArray) : Int → Int → Prop
  | done {i : Int} (h : i < s.size) (c : bt s i = 34) : StrT s i (i + 1)
  | char {i j : Int} (h : i < s.size) (c1 : bt s i ≠ 34) (c2 : bt s i ≠ 92) (c3 : 32 ≤ bt s i) (t : StrT s (i + 1) j) : StrT s i j
  | esc {i j : Int} (h : i + 1 < s.size) (c : bt s i = 92) (c2 : IsEsc (bt s (i + 1))) (t : StrT s (i + 2) j) : StrT s i j
  | uni {i j : Int} (h : i + 5 < s.size) (c : bt s i = 92) (c2 : bt s (i + 1) = 117) (c3 : ∀ q, i + 2 ≤ q → q < i + 6 → IsHex (bt s q)) (t : StrT s (i + 6) j) : StrT s i j
theorem str_ev (s : ByteArray) (hs : (s.size : Int) ≤ 140737488351232) (d : Nat) : ∀ i : Int, 0 ≤ i → i ≤ s.size → (s.size : Int) - i ≤ d →
    ∃ b j, Ev (fun k => q_.l0 k s i) (b, s, j) ∧ i ≤ j ∧ j ≤ s.size ∧ (b = true → i < j ∧ StrT s i j) := by
  induction d with
  | zero =>
    intro i h0 h1 hd
    exact ⟨false, i, Ev.step (fun k => by rw [q_.l0]) (Ev.neg (by omega) (Ev.now _)), by omega, h1, fun h => by cases h⟩
  | succ d ih =>
    intro i h0 h1 hd
    by_cases hl : i < (s.size : Int)
    · have hw : wrap64 (i + 1) = i + 1 := w64 (by omega) (by omega)
      by_cases c1 : bt s i = 34
      · refine ⟨true, i + 1, ?_, by omega, by omega, fun _ => ⟨by omega, .done hl c1⟩⟩
        refine Ev.step (fun k => by rw [q_.l0]) (Ev.pos hl (Ev.pos h0 (Ev.pos c1 ?_)))
        rw [hw]; exact Ev.now _
      · by_cases c2 : bt s i < 32
        · refine ⟨false, i + 1, ?_, by omega, by omega, fun h => by cases h⟩
          refine Ev.step (fun k => by rw [q_.l0]) (Ev.pos hl (Ev.pos h0 (Ev.neg c1 (Ev.pos c2 ?_))))
          rw [hw]; exact Ev.now _
        · by_cases c3 : bt s i = 92
          · obtain ⟨b, j, e, h2, h3, h4⟩ := esc_ev s hs (i + 1) (by omega) (by omega)
            cases b with
            | false =>
              refine ⟨false, j, ?_, by omega, h3, fun h => by cases h⟩
              refine Ev.step (fun k => by rw [q_.l0]) (Ev.pos hl (Ev.pos h0 (Ev.neg c1 (Ev.neg c2 (Ev.pos c3 ?_)))))
              rw [hw]
              exact Ev.bind e (Ev.neg Bool.false_ne_true (Ev.now _))
            | true =>
              obtain ⟨h5, h6⟩ := h4 rfl
              obtain ⟨b2, j2, e2, h7, h8, h9⟩ := ih j (by omega) h3 (by omega)
              refine ⟨b2, j2, ?_, by omega, h8, fun hb => ⟨by have := (h9 hb).1; omega, ?_⟩⟩
              · refine Ev.step (fun k => by rw [q_.l0]) (Ev.pos hl (Ev.pos h0 (Ev.neg c1 (Ev.neg c2 (Ev.pos c3 ?_)))))
                rw [hw]
                exact Ev.bind e (Ev.pos rfl e2)
              · rcases h6 with ⟨h6, rfl⟩ | ⟨h6, rfl, h10⟩
                · exact .esc h5 c3 h6 (by have := (h9 hb).2; rwa [show i + 1 + 1 = i + 2 by omega] at this)
                · exact .uni (by omega) c3 h6 (fun q h11 h12 => h10 q (by omega) (by omega)) (by have := (h9 hb).2; rwa [show i + 1 + 5 = i + 6 by omega] at this)
          · obtain ⟨b2, j2, e2, h7, h8, h9⟩ := ih (i + 1) (by omega) (by omega) (by omega)
            refine ⟨b2, j2, ?_, by omega, h8, fun hb => ⟨by have := (h9 hb).1; omega, .char hl c1 c3 (by omega) (h9 hb).2⟩⟩
            refine Ev.step (fun k => by rw [q_.l0]) (Ev.pos hl (Ev.pos h0 (Ev.neg c1 (Ev.neg c2 (Ev.neg c3 ?_)))))
            rw [hw]; exact e2
    · exact ⟨false, i, Ev.step (fun k => by rw [q_.l0]) (Ev.neg hl (Ev.now _)), by omega, h1, fun h => by cases h⟩
theorem quoted_ev (s : ByteArray) (hs : (s.size : Int) ≤ 140737488351232) (i : Int) (h0 : 0 ≤ i) (h1 : i < s.size) :
    ∃ b j, Ev (fun k => q_.f k s i) (b, s, j) ∧ i < j ∧ j ≤ s.size ∧ (b = true → i + 1 < j ∧ StrT s (i + 1) j) := by
  obtain ⟨b, j, e, h2, h3, h4⟩ := str_ev s hs ((s.size : Int) - (i + 1)).toNat (i + 1) (by omega) (by omega) (by omega)
  refine ⟨b, j, ?_, by omega, h3, h4⟩
  unfold q_.f
  rw [w64 (by omega) (by omega)]
  exact e
structure Digs (s : ByteArray) (a b : Int) : Prop where
  lt : a < b
  hi : b ≤ s.size
  all : ∀ q, a ≤ q → q < b → 48 ≤ bt s q ∧ bt s q ≤ 57
  stop : b = s.size ∨ ¬ (48 ≤ bt s b ∧ bt s b ≤ 57)
theorem digs_l_ev (s : ByteArray) (hs : (s.size : Int) ≤ 140737488351232) (a : Int) (d : Nat) : ∀ i : Int, 0 ≤ i → i ≤ s.size → (s.size : Int) - i ≤ d →
    ∃ j, Ev (fun k => d_.l0 k a (hr s i) s i) (decide (j > a), s, j) ∧ i ≤ j ∧ j ≤ s.size ∧ (∀ q, i ≤ q → q < j → 48 ≤ bt s q ∧ bt s q ≤ 57) ∧ (j = s.size ∨ ¬ (48 ≤ bt s j ∧ bt s j ≤ 57)) := by
  induction d with
  | zero =>
    intro i h0 h1 hd
    refine ⟨i, ?_, by omega, h1, fun q _ _ => by omega, .inl (by omega)⟩
    rw [hr_ge (by omega)]
    exact Ev.step (fun k => by rw [d_.l0]) (Ev.neg (by omega) (Ev.now _))
  | succ d ih =>
    intro i h0 h1 hd
    by_cases hl : i < (s.size : Int)
    · rw [hr_lt hl]
      by_cases c : 48 ≤ bt s i ∧ bt s i ≤ 57
      · obtain ⟨j, e, h2, h3, h4, h5⟩ := ih (i + 1) (by omega) (by omega) (by omega)
        refine ⟨j, ?_, by omega, h3, fun q h6 h7 => ?_, h5⟩
        · refine Ev.step (fun k => by rw [d_.l0]) (Ev.pos c.1 (Ev.pos c.2 ?_))
          rw [w64 (by omega) (by omega)]
          exact Ev.bd (here_f s (i + 1) (by omega)) e
        · by_cases hq : q = i
          · rw [hq]; exact c
          · exact h4 q (by omega) h7
      · refine ⟨i, ?_, by omega, h1, fun q _ _ => by omega, .inr c⟩
        refine Ev.step (fun k => by rw [d_.l0]) ?_
        by_cases c2 : 48 ≤ bt s i
        · exact Ev.pos c2 (Ev.neg (by omega) (Ev.now _))
        · exact Ev.neg c2 (Ev.now _)
    · refine ⟨i, ?_, by omega, h1, fun q _ _ => by omega, .inl (by omega)⟩
      rw [hr_ge (by omega)]
      exact Ev.step (fun k => by rw [d_.l0]) (Ev.neg (by omega) (Ev.now _))
theorem digs_ev (s : ByteArray) (hs : (s.size : Int) ≤ 140737488351232) (i : Int) (h0 : 0 ≤ i) (h1 : i ≤ s.size) :
    ∃ b j, Ev (fun k => d_.f k s i) (b, s, j) ∧ i ≤ j ∧ j ≤ s.size ∧ (b = true → Digs s i j) := by
  obtain ⟨j, e, h2, h3, h4, h5⟩ := digs_l_ev s hs i ((s.size : Int) - i).toNat i h0 h1 (by omega)
  exact ⟨_, j, Ev.bd (here_f s i h0) e, h2, h3, fun hb => ⟨of_decide_eq_true hb, h3, h4, h5⟩⟩
/-- The parts of a number: behind the sign, behind the whole part, behind the fraction, behind the power. -/
structure Num (s : ByteArray) (i j : Int) : Prop where
  out : ∃ a b c : Int, ((a = i ∧ hr s i ≠ 45) ∨ (bt s i = 45 ∧ a = i + 1)) ∧ ((a < s.size ∧ bt s a = 48 ∧ b = a + 1) ∨ (hr s a ≠ 48 ∧ Digs s a b)) ∧ ((c = b ∧ hr s b ≠ 46) ∨ (bt s b = 46 ∧ Digs s (b + 1) c)) ∧
    ((j = c ∧ hr s c ≠ 101 ∧ hr s c ≠ 69) ∨ ((bt s c = 101 ∨ bt s c = 69) ∧ ((hr s (c + 1) ≠ 43 ∧ hr s (c + 1) ≠ 45 ∧ Digs s (c + 1) j) ∨ ((bt s (c + 1) = 43 ∨ bt s (c + 1) = 45) ∧ Digs s (c + 2) j))))
theorem num_j2 (s : ByteArray) (hs : (s.size : Int) ≤ 140737488351232) (c : Int) (h0 : 0 ≤ c) (h1 : c ≤ s.size) :
    ∃ b j, Ev (fun k => n_.j2 k true s c) (b, s, j) ∧ c ≤ j ∧ j ≤ s.size ∧ (b = true → (hr s c ≠ 43 ∧ hr s c ≠ 45 ∧ Digs s c j) ∨ ((bt s c = 43 ∨ bt s c = 45) ∧ Digs s (c + 1) j)) := by
  by_cases c1 : hr s c = 43
  · obtain ⟨hl, hb⟩ := hr_ne (s := s) (i := c) (by omega)
    obtain ⟨b, j, e, h2, h3, h4⟩ := digs_ev s hs (c + 1) (by omega) (by omega)
    exact ⟨b, j, Ev.step (fun k => by rw [n_.j2]) (Ev.pos rfl (Ev.bd (take_yes hs h0 (by omega) c1) (Ev.pos rfl (Ev.bind e (Ev.now _))))), by omega, h3, fun hh => .inr ⟨.inl (by omega), h4 hh⟩⟩
  · by_cases c2 : hr s c = 45
    · obtain ⟨hl, hb⟩ := hr_ne (s := s) (i := c) (by omega)
      obtain ⟨b, j, e, h2, h3, h4⟩ := digs_ev s hs (c + 1) (by omega) (by omega)
      exact ⟨b, j, Ev.step (fun k => by rw [n_.j2]) (Ev.pos rfl (Ev.bd (take_no hs h0 (by omega) c1) (Ev.neg Bool.false_ne_true (Ev.bd (take_yes hs h0 (by omega) c2) (Ev.bind e (Ev.now _)))))), by omega, h3, fun hh => .inr ⟨.inr (by omega), h4 hh⟩⟩
    · obtain ⟨b, j, e, h2, h3, h4⟩ := digs_ev s hs c h0 h1
      exact ⟨b, j, Ev.step (fun k => by rw [n_.j2]) (Ev.pos rfl (Ev.bd (take_no hs h0 (by omega) c1) (Ev.neg Bool.false_ne_true (Ev.bd (take_no hs h0 (by omega) c2) (Ev.bind e (Ev.now _)))))), h2, h3, fun hh => .inl ⟨c1, c2, h4 hh⟩⟩
theorem num_j1 (s : ByteArray) (hs : (s.size : Int) ≤ 140737488351232) (c : Int) (h0 : 0 ≤ c) (h1 : c ≤ s.size) :
    ∃ b j, Ev (fun k => n_.j1 k false s c) (b, s, j) ∧ c ≤ j ∧ j ≤ s.size ∧ (b = true → ((j = c ∧ hr s c ≠ 101 ∧ hr s c ≠ 69) ∨ ((bt s c = 101 ∨ bt s c = 69) ∧ ((hr s (c + 1) ≠ 43 ∧ hr s (c + 1) ≠ 45 ∧ Digs s (c + 1) j) ∨ ((bt s (c + 1) = 43 ∨ bt s (c + 1) = 45) ∧ Digs s (c + 2) j))))) := by
  by_cases c1 : hr s c = 101
  · obtain ⟨hl, hb⟩ := hr_ne (s := s) (i := c) (by omega)
    obtain ⟨b, j, e, h2, h3, h4⟩ := num_j2 s hs (c + 1) (by omega) (by omega)
    exact ⟨b, j, Ev.step (fun k => by rw [n_.j1]) (Ev.neg Bool.false_ne_true (Ev.bd (take_yes hs h0 (by omega) c1) (Ev.pos rfl e))), by omega, h3, fun hh => .inr ⟨.inl (by omega), by rw [show c + 2 = c + 1 + 1 by omega]; exact h4 hh⟩⟩
  · by_cases c2 : hr s c = 69
    · obtain ⟨hl, hb⟩ := hr_ne (s := s) (i := c) (by omega)
      obtain ⟨b, j, e, h2, h3, h4⟩ := num_j2 s hs (c + 1) (by omega) (by omega)
      exact ⟨b, j, Ev.step (fun k => by rw [n_.j1]) (Ev.neg Bool.false_ne_true (Ev.bd (take_no hs h0 (by omega) c1) (Ev.neg Bool.false_ne_true (Ev.bd (take_yes hs h0 (by omega) c2) e)))), by omega, h3, fun hh => .inr ⟨.inr (by omega), by rw [show c + 2 = c + 1 + 1 by omega]; exact h4 hh⟩⟩
    · refine ⟨true, c, Ev.step (fun k => by rw [n_.j1]) (Ev.neg Bool.false_ne_true (Ev.bd (take_no hs h0 (by omega) c1) (Ev.neg Bool.false_ne_true (Ev.bd (take_no hs h0 (by omega) c2) ?_)))), by omega, h1, fun _ => .inl ⟨rfl, c1, c2⟩⟩
      exact Ev.step (fun k => by rw [n_.j2]) (Ev.neg Bool.false_ne_true (Ev.now _))
theorem num_j0 (s : ByteArray) (hs : (s.size : Int) ≤ 140737488351232) (b : Int) (h0 : 0 ≤ b) (h1 : b ≤ s.size) :
    ∃ o j, Ev (fun k => n_.j0 k false s b) (o, s, j) ∧ b ≤ j ∧ j ≤ s.size ∧ (o = true → ∃ c : Int, ((c = b ∧ hr s b ≠ 46) ∨ (bt s b = 46 ∧ Digs s (b + 1) c)) ∧ ((j = c ∧ hr s c ≠ 101 ∧ hr s c ≠ 69) ∨ ((bt s c = 101 ∨ bt s c = 69) ∧ ((hr s (c + 1) ≠ 43 ∧ hr s (c + 1) ≠ 45 ∧ Digs s (c + 1) j) ∨ ((bt s (c + 1) = 43 ∨ bt s (c + 1) = 45) ∧ Digs s (c + 2) j))))) := by
  by_cases c1 : hr s b = 46
  · obtain ⟨hl, hb⟩ := hr_ne (s := s) (i := b) (by omega)
    obtain ⟨o, c, e, h2, h3, h4⟩ := digs_ev s hs (b + 1) (by omega) (by omega)
    cases o with
    | false =>
      refine ⟨false, c, Ev.step (fun k => by rw [n_.j0]) (Ev.neg Bool.false_ne_true (Ev.bd (take_yes hs h0 (by omega) c1) (Ev.pos rfl (Ev.bind e ?_)))), by omega, h3, fun h => by cases h⟩
      refine Ev.step (fun k => by rw [n_.j1]) ?_
      exact Ev.pos rfl (Ev.now _)
    | true =>
      obtain ⟨o2, j, e2, h5, h6, h7⟩ := num_j1 s hs c (by omega) h3
      exact ⟨o2, j, Ev.step (fun k => by rw [n_.j0]) (Ev.neg Bool.false_ne_true (Ev.bd (take_yes hs h0 (by omega) c1) (Ev.pos rfl (Ev.bind e e2)))), by omega, h6, fun hh => ⟨c, .inr ⟨by omega, h4 rfl⟩, h7 hh⟩⟩
  · obtain ⟨o2, j, e2, h5, h6, h7⟩ := num_j1 s hs b h0 h1
    exact ⟨o2, j, Ev.step (fun k => by rw [n_.j0]) (Ev.neg Bool.false_ne_true (Ev.bd (take_no hs h0 (by omega) c1) (Ev.neg Bool.false_ne_true e2))), h5, h6, fun hh => ⟨b, .inl ⟨rfl, c1⟩, h7 hh⟩⟩
theorem num_ev (s : ByteArray) (hs : (s.size : Int) ≤ 140737488351232) (i : Int) (h0 : 0 ≤ i) (h1 : i ≤ s.size) :
    ∃ o j, Ev (fun k => n_.f k s i) (o, s, j) ∧ i ≤ j ∧ j ≤ s.size ∧ (o = true → Num s i j) := by
  have main : ∀ (a : Int), i ≤ a → a ≤ s.size → ((a = i ∧ hr s i ≠ 45) ∨ (bt s i = 45 ∧ a = i + 1)) →
      ∃ o j, Ev (fun k => (t_.f s a 48).bind fun bt122 => (if bt122.1 = true then (n_.j0 k false bt122.2.1 bt122.2.2) else ((d_.f k bt122.2.1 bt122.2.2).bind fun bt125 => (n_.j0 k (!bt125.1) bt125.2.1 bt125.2.2)))) (o, s, j) ∧ i ≤ j ∧ j ≤ s.size ∧ (o = true → Num s i j) := by
    intro a ha1 ha2 ha
    by_cases c1 : hr s a = 48
    · obtain ⟨hl, hb⟩ := hr_ne (s := s) (i := a) (by omega)
      obtain ⟨o, j, e, h2, h3, h4⟩ := num_j0 s hs (a + 1) (by omega) (by omega)
      refine ⟨o, j, Ev.bd (take_yes hs (by omega) (by omega) c1) (Ev.pos rfl e), by omega, h3, fun hh => ?_⟩
      obtain ⟨c, h5, h6⟩ := h4 hh
      exact ⟨a, a + 1, c, ha, .inl ⟨hl, by omega, rfl⟩, h5, h6⟩
    · obtain ⟨o, b, e, h2, h3, h4⟩ := digs_ev s hs a (by omega) ha2
      cases o with
      | false =>
        refine ⟨false, b, Ev.bd (take_no hs (by omega) (by omega) c1) (Ev.neg Bool.false_ne_true (Ev.bind e ?_)), by omega, h3, fun h => by cases h⟩
        refine Ev.step (fun k => by rw [n_.j0]) ?_
        exact Ev.pos rfl (Ev.now _)
      | true =>
        obtain ⟨o, j, e2, h5, h6, h7⟩ := num_j0 s hs b (by omega) h3
        refine ⟨o, j, Ev.bd (take_no hs (by omega) (by omega) c1) (Ev.neg Bool.false_ne_true (Ev.bind e e2)), by omega, h6, fun hh => ?_⟩
        obtain ⟨c, h8, h9⟩ := h7 hh
        exact ⟨a, b, c, ha, .inr ⟨c1, h4 rfl⟩, h8, h9⟩
  unfold n_.f
  by_cases c1 : hr s i = 45
  · obtain ⟨hl, hb⟩ := hr_ne (s := s) (i := i) (by omega)
    obtain ⟨o, j, e, h2⟩ := main (i + 1) (by omega) (by omega) (.inr ⟨by omega, rfl⟩)
    exact ⟨o, j, Ev.bd (take_yes hs h0 (by omega) c1) e, h2⟩
  · obtain ⟨o, j, e, h2⟩ := main i (by omega) h1 (.inl ⟨rfl, c1⟩)
    exact ⟨o, j, Ev.bd (take_no hs h0 (by omega) c1) e, h2⟩
end Go.Proofs.YtpdohioobbfncaaGreatDoor.JFnJpWildStop/- The reference's reader of JSON texts: what a value, an object's members and an array's elements are, and that the reader finds just these. -/
namespace Go.Proofs.YtpdohioobbfncaaGreatDoor.JFnJpWildStop
open Go.RowKit Go.Proofs.YtpdohioobbfncaaGreatDoor.PFnJpWildStop Go.Proofs.YtpdohioobbfncaaGreatDoorW.PrintWords Go.Proofs.YtpdohioobbfncaaGreatDoorW.PrintLast Go.Proofs.YtpdohioobbfncaaGreatDoorW.PrintMore
abbrev Pl := S27
abbrev Sp := S64
theorem bt_getD (s : ByteArray) (i : Int) : bt s i = ((s.data.toList.getD i.toNat 0).toNat : Int) := by
  unfold bt
  by_cases h : i.toNat < s.size
  · rw [dif_pos h, List.getD_eq_getElem?_getD, List.getElem?_eq_getElem (by simpa using h)]
    rfl
  · rw [dif_neg h, List.getD_eq_getElem?_getD, List.getElem?_eq_none (by simpa using h)]
    rfl
theorem tl_get {s : ByteArray} {a b : Nat} {w : ByteArray} (h : (s.extract a b).toList = w.toList) (q : Nat) (hq : q < w.size) : s.data.toList.getD (a + q) 0 = w.data.toList.getD q 0 := by
  rw [Lib.extract_toList, ByteArray.toList_eq] at h
  have h2 : (List.take (b - a) (List.drop a s.data.toList)).getD q 0 = w.data.toList.getD q 0 := congrArg (fun l : List UInt8 => l.getD q 0) h
  rw [← h2]
  have hl := congrArg List.length h
  simp only [List.length_take, List.length_drop, Array.length_toList, ByteArray.size_data] at hl
  simp only [List.getD_eq_getElem?_getD]
  rw [List.getElem?_take_of_lt (by omega), List.getElem?_drop]
structure Word (s : ByteArray) (i : Int) (w : ByteArray) : Prop where
  hi : i + w.size ≤ s.size
  eq : (s.extract i.toNat (i + (w.size : Int)).toNat).toList = w.toList
theorem Word.at_ {s w : ByteArray} {i : Int} (h : Word s i w) (h0 : 0 ≤ i) (q : Nat) (hq : q < w.size) : bt s (i + q) = bt w q := by
  rw [bt_getD, bt_getD, show (i + (q : Int)).toNat = i.toNat + q by omega, tl_get h.eq q hq]
  rfl
theorem word_f (s w : ByteArray) (hs : (s.size : Int) ≤ 140737488351232) (hw : (w.size : Int) ≤ 100) (i : Int) (h0 : 0 ≤ i) (h1 : i ≤ s.size) :
    (Word s i w ∧ w_.f s i w = some (true, s, i + w.size)) ∨ (¬ Word s i w ∧ w_.f s i w = some (false, s, i)) := by
  unfold w_.f
  rw [w64 (x := (s.size : Int) - i) (by omega) (by omega), w64 (x := i + (w.size : Int)) (by omega) (by omega)]
  by_cases c1 : (s.size : Int) - i < w.size
  · right
    rw [if_pos c1]
    exact ⟨fun h => by have := h.hi; omega, rfl⟩
  · rw [if_neg c1, if_pos h0, if_pos (by omega), if_pos (by omega)]
    by_cases c2 : (s.extract i.toNat (i + (w.size : Int)).toNat).toList = w.toList
    · left
      rw [if_pos c2]
      exact ⟨⟨by omega, c2⟩, rfl⟩
    · right
      rw [if_neg c2]
      exact ⟨fun h => c2 h.eq, rfl⟩
abbrev wNull : ByteArray := ⟨#[110, 117, 108, 108]⟩
abbrev wFalse : ByteArray := ⟨#[102, 97, 108, 115, 101]⟩
abbrev wTrue : ByteArray := ⟨#[116, 114, 117, 101]⟩
mutual
inductive JV (s : ByteArray) : Int → Int → Int → List Sp → List Pl → Prop
  | null {i : Int} (h : Word s i wNull) : JV s 0 i (i + 4) [] []
  | fals {i : Int} (h : Word s i wFalse) : JV s 1 i (i + 5) [] []
  | tru {i : Int} (h : Word s i wTrue) : JV s 2 i (i + 4) [] []
  | num {i j : Int} (h : Num s i j) (hd : bt s i = 45 ∨ (48 ≤ bt s i ∧ bt s i ≤ 57)) : JV s 3 i j [] []
  | str {i j : Int} (h : bt s i = 34) (t : StrT s (i + 1) j) : JV s 4 i j [] []
  | arr0 {i b : Int} (h : bt s i = 91) (h1 : Blk s (i + 1) b) (h2 : b < s.size) (h3 : bt s b = 93) : JV s 5 i (b + 1) [] []
  | arr {i b j : Int} {ks : List Pl} (h : bt s i = 91) (h1 : Blk s (i + 1) b) (h2 : JE s b j ks) : JV s 5 i j [] ks
  | obj0 {i b : Int} (h : bt s i = 123) (h1 : Blk s (i + 1) b) (h2 : b < s.size) (h3 : bt s b = 125) : JV s 6 i (b + 1) [] []
  | obj {i b j : Int} {ns : List Sp} {ks : List Pl} (h : bt s i = 123) (h1 : Blk s (i + 1) b) (h2 : JM s b j ns ks) : JV s 6 i j ns ks
inductive JE (s : ByteArray) : Int → Int → List Pl → Prop
  | one {i a b kd : Int} {ns : List Sp} {ks : List Pl} (hl : i < a ∧ i < s.size) (h : JV s kd i a ns ks) (h1 : Blk s a b) (h2 : b < s.size) (h3 : bt s b = 93) : JE s i (b + 1) [⟨kd, i, a, ns, ks⟩]
  | cons {i a b c j kd : Int} {ns : List Sp} {ks r : List Pl} (hl : i < a ∧ i < s.size) (h : JV s kd i a ns ks) (h1 : Blk s a b) (h2 : b < s.size) (h3 : bt s b = 44) (h4 : Blk s (b + 1) c) (h5 : JE s c j r) : JE s i j (⟨kd, i, a, ns, ks⟩ :: r)
inductive JM (s : ByteArray) : Int → Int → List Sp → List Pl → Prop
  | one {i a b c d e kd : Int} {ns : List Sp} {ks : List Pl} (h : i < s.size ∧ bt s i = 34) (t : StrT s (i + 1) a) (h1 : Blk s a b) (h2 : b < s.size) (h3 : bt s b = 58) (h4 : Blk s (b + 1) c) (hl : c < d ∧ c < s.size) (v : JV s kd c d ns ks) (h5 : Blk s d e) (h6 : e < s.size) (h7 : bt s e = 125) : JM s i (e + 1) [⟨i, a⟩] [⟨kd, c, d, ns, ks⟩]
  | cons {i a b c d e f j kd : Int} {ns ns2 : List Sp} {ks ks2 : List Pl} (h : i < s.size ∧ bt s i = 34) (t : StrT s (i + 1) a) (h1 : Blk s a b) (h2 : b < s.size) (h3 : bt s b = 58) (h4 : Blk s (b + 1) c) (hl : c < d ∧ c < s.size) (v : JV s kd c d ns ks) (h5 : Blk s d e) (h6 : e < s.size) (h7 : bt s e = 44) (h8 : Blk s (e + 1) f) (h9 : JM s f j ns2 ks2) : JM s i j (⟨i, a⟩ :: ns2) (⟨kd, c, d, ns, ks⟩ :: ks2)
end
def PV (s : ByteArray) (d : Nat) : Prop := ∀ i : Int, 0 ≤ i → i ≤ s.size → (s.size : Int) - i < d →
  ∃ kd b e ns ks ok j, Ev (fun k => v_.f k s i) (kd, b, e, ns, ks, ok, s, j) ∧ i ≤ j ∧ j ≤ s.size ∧ (ok = true → b = i ∧ e = j ∧ i < j ∧ i < s.size ∧ JV s kd i j ns ks)
def PE (s : ByteArray) (d : Nat) : Prop := ∀ (i : Int) (acc : List Pl), 0 ≤ i → i ≤ s.size → (s.size : Int) - i < d → (acc.length : Int) ≤ i →
  ∃ ks ok j, Ev (fun k => ele_.l0 k acc s i) (ks, ok, s, j) ∧ i ≤ j ∧ j ≤ s.size ∧ (ok = true → i < j ∧ ∃ r, ks = acc ++ r ∧ JE s i j r)
def PM (s : ByteArray) (d : Nat) : Prop := ∀ (i : Int) (an : List Sp) (acc : List Pl), 0 ≤ i → i ≤ s.size → (s.size : Int) - i < d → (acc.length : Int) ≤ i → (an.length : Int) ≤ i →
  ∃ ns ks ok j, Ev (fun k => mem_.l0 k an acc s i) (ns, ks, ok, s, j) ∧ i ≤ j ∧ j ≤ s.size ∧ (ok = true → i < j ∧ ∃ rn r, ns = an ++ rn ∧ ks = acc ++ r ∧ JM s i j rn r)
theorem hr_bl {s : ByteArray} {i c : Int} (h : hr s i = c) (hc : c ≠ 0) : i < s.size ∧ bt s i = c := by
  obtain ⟨h1, h2⟩ := hr_ne (s := s) (i := i) (by omega)
  exact ⟨h1, by omega⟩
theorem elems_f (s : ByteArray) (hs : (s.size : Int) ≤ 2147483647) (d : Nat) (he : PE s d) (i : Int) (h0 : 0 ≤ i) (h1 : i < s.size) (hd : (s.size : Int) - i ≤ d) :
    ∃ ks ok j, Ev (fun k => ele_.f k s i) (ks, ok, s, j) ∧ i < j ∧ j ≤ s.size ∧ (ok = true → (∃ b, Blk s (i + 1) b ∧ b < s.size ∧ bt s b = 93 ∧ j = b + 1 ∧ ks = []) ∨ (∃ b, Blk s (i + 1) b ∧ JE s b j ks)) := by
  obtain ⟨b, eb, hb⟩ := blanks_f_ev s (by omega) (i + 1) (by omega) (by omega)
  have hw : wrap64 (i + 1) = i + 1 := w64 (by omega) (by omega)
  have := hb.le; have := hb.hi
  by_cases c : hr s b = 93
  · obtain ⟨hl, hc⟩ := hr_bl c (by omega)
    refine ⟨[], true, b + 1, ?_, by omega, by omega, fun _ => .inl ⟨b, hb, hl, hc, rfl, rfl⟩⟩
    refine Ev.step (fun k => by rw [ele_.f]) ?_
    rw [hw]
    exact Ev.bind eb (Ev.bd (take_yes (s := s) (i := b) (c := 93) (by omega) (by omega) (by omega) c) (Ev.pos rfl (Ev.now _)))
  · obtain ⟨ks, ok, j, e, h2, h3, h4⟩ := he b [] (by omega) (by omega) (by omega) (by simp; omega)
    refine ⟨ks, ok, j, ?_, by omega, h3, fun hk => ?_⟩
    · refine Ev.step (fun k => by rw [ele_.f]) ?_
      rw [hw]
      exact Ev.bind eb (Ev.bd (take_no (s := s) (i := b) (c := 93) (by omega) (by omega) (by omega) c) (Ev.neg Bool.false_ne_true e))
    · obtain ⟨h5, r, rfl, h6⟩ := h4 hk
      exact .inr ⟨b, hb, by simpa using h6⟩
theorem mems_f (s : ByteArray) (hs : (s.size : Int) ≤ 2147483647) (d : Nat) (he : PM s d) (i : Int) (h0 : 0 ≤ i) (h1 : i < s.size) (hd : (s.size : Int) - i ≤ d) :
    ∃ ns ks ok j, Ev (fun k => mem_.f k s i) (ns, ks, ok, s, j) ∧ i < j ∧ j ≤ s.size ∧ (ok = true → (∃ b, Blk s (i + 1) b ∧ b < s.size ∧ bt s b = 125 ∧ j = b + 1 ∧ ns = [] ∧ ks = []) ∨ (∃ b, Blk s (i + 1) b ∧ JM s b j ns ks)) := by
  obtain ⟨b, eb, hb⟩ := blanks_f_ev s (by omega) (i + 1) (by omega) (by omega)
  have hw : wrap64 (i + 1) = i + 1 := w64 (by omega) (by omega)
  have := hb.le; have := hb.hi
  by_cases c : hr s b = 125
  · obtain ⟨hl, hc⟩ := hr_bl c (by omega)
    refine ⟨[], [], true, b + 1, ?_, by omega, by omega, fun _ => .inl ⟨b, hb, hl, hc, rfl, rfl, rfl⟩⟩
    refine Ev.step (fun k => by rw [mem_.f]) ?_
    rw [hw]
    exact Ev.bind eb (Ev.bd (take_yes (s := s) (i := b) (c := 125) (by omega) (by omega) (by omega) c) (Ev.pos rfl (Ev.now _)))
  · obtain ⟨ns, ks, ok, j, e, h2, h3, h4⟩ := he b [] [] (by omega) (by omega) (by omega) (by simp; omega) (by simp; omega)
    refine ⟨ns, ks, ok, j, ?_, by omega, h3, fun hk => ?_⟩
    · refine Ev.step (fun k => by rw [mem_.f]) ?_
      rw [hw]
      exact Ev.bind eb (Ev.bd (take_no (s := s) (i := b) (c := 125) (by omega) (by omega) (by omega) c) (Ev.neg Bool.false_ne_true e))
    · obtain ⟨h5, rn, r, rfl, rfl, h6⟩ := h4 hk
      exact .inr ⟨b, hb, by simpa using h6⟩
theorem val_j0 (s : ByteArray) (hs : (s.size : Int) ≤ 2147483647) (i : Int) (h0 : 0 ≤ i) (h1 : i ≤ s.size) (nb : Bool) (hnb : nb = true ↔ hr s i = 45 ∨ (48 ≤ hr s i ∧ hr s i ≤ 57)) :
    ∃ kd b e ns ks ok j, Ev (fun k => v_.j0 k true nb s i 0 i 0) (kd, b, e, ns, ks, ok, s, j) ∧ i ≤ j ∧ j ≤ s.size ∧ (ok = true → b = i ∧ e = j ∧ i < j ∧ i < s.size ∧ JV s kd i j ns ks) := by
  cases nb with
  | true =>
    have hh := hnb.1 rfl
    obtain ⟨hl, hb⟩ := hr_ne (s := s) (i := i) (by omega)
    obtain ⟨o, j, e, h2, h3, h4⟩ := num_ev s (by omega) i h0 h1
    refine ⟨3, i, j, [], [], o, j, ?_, h2, h3, fun ho => ⟨rfl, rfl, ?_, hl, .num (h4 ho) (by omega)⟩⟩
    · exact Ev.step (fun k => by rw [v_.j0]) (Ev.pos rfl (Ev.bind e (Ev.now _)))
    · obtain ⟨a, b, c, h5, h6, h7, h8⟩ := (h4 ho).out
      have : i ≤ a := by omega
      have : a < b := by rcases h6 with h6 | h6; omega; exact h6.2.lt
      have : b ≤ c := by rcases h7 with h7 | h7; omega; have := h7.2.lt; omega
      rcases h8 with h8 | ⟨_, h8 | h8⟩
      · omega
      · have := h8.2.2.lt; omega
      · have := h8.2.lt; omega
  | false =>
    rcases word_f s wNull (by omega) (by decide) i h0 h1 with ⟨hw, e1⟩ | ⟨hw, e1⟩
    · have := hw.hi
      refine ⟨0, i, i + 4, [], [], true, i + 4, ?_, by omega, this, fun _ => ⟨rfl, rfl, by omega, by have : ((wNull.size : Nat) : Int) = 4 := rfl; omega, .null hw⟩⟩
      exact Ev.step (fun k => by rw [v_.j0]) (Ev.neg Bool.false_ne_true (Ev.bd e1 (Ev.pos rfl (Ev.now _))))
    rcases word_f s wFalse (by omega) (by decide) i h0 h1 with ⟨hw2, e2⟩ | ⟨hw2, e2⟩
    · have := hw2.hi
      refine ⟨1, i, i + 5, [], [], true, i + 5, ?_, by omega, this, fun _ => ⟨rfl, rfl, by omega, by have : ((wFalse.size : Nat) : Int) = 5 := rfl; omega, .fals hw2⟩⟩
      exact Ev.step (fun k => by rw [v_.j0]) (Ev.neg Bool.false_ne_true (Ev.bd e1 (Ev.neg Bool.false_ne_true (Ev.bd e2 (Ev.pos rfl (Ev.now _))))))
    rcases word_f s wTrue (by omega) (by decide) i h0 h1 with ⟨hw3, e3⟩ | ⟨hw3, e3⟩
    · have := hw3.hi
      refine ⟨2, i, i + 4, [], [], true, i + 4, ?_, by omega, this, fun _ => ⟨rfl, rfl, by omega, by have : ((wTrue.size : Nat) : Int) = 4 := rfl; omega, .tru hw3⟩⟩
      exact Ev.step (fun k => by rw [v_.j0]) (Ev.neg Bool.false_ne_true (Ev.bd e1 (Ev.neg Bool.false_ne_true (Ev.bd e2 (Ev.neg Bool.false_ne_true (Ev.bd e3 (Ev.pos rfl (Ev.now _))))))))
    · refine ⟨0, i, i, [], [], false, i, ?_, by omega, h1, fun h => by cases h⟩
      refine Ev.step (fun k => by rw [v_.j0]) (Ev.neg Bool.false_ne_true (Ev.bd e1 (Ev.neg Bool.false_ne_true (Ev.bd e2 (Ev.neg Bool.false_ne_true (Ev.bd e3 ?_))))))
      exact Ev.neg Bool.false_ne_true (Ev.now _)
theorem pv_step (s : ByteArray) (hs : (s.size : Int) ≤ 2147483647) (d : Nat) (he : PE s d) (hm : PM s d) : PV s (d + 1) := by
  intro i h0 h1 hd
  have st := fun k => (show v_.f (k + 1) s i = _ by rw [v_.f])
  by_cases c1 : hr s i = 123
  · obtain ⟨hl, hb⟩ := hr_bl c1 (by omega)
    obtain ⟨ns, ks, ok, j, e, h2, h3, h4⟩ := mems_f s hs d hm i h0 hl (by omega)
    refine ⟨6, i, j, ns, ks, ok, j, Ev.step st (Ev.bd (here_f s i h0) (Ev.pos c1 (Ev.bind e (Ev.now _)))), by omega, h3, fun hk => ⟨rfl, rfl, h2, hl, ?_⟩⟩
    rcases h4 hk with ⟨b, h5, h6, h7, rfl, rfl, rfl⟩ | ⟨b, h5, h6⟩
    · exact .obj0 hb h5 h6 h7
    · exact .obj hb h5 h6
  by_cases c2 : hr s i = 91
  · obtain ⟨hl, hb⟩ := hr_bl c2 (by omega)
    obtain ⟨ks, ok, j, e, h2, h3, h4⟩ := elems_f s hs d he i h0 hl (by omega)
    refine ⟨5, i, j, [], ks, ok, j, Ev.step st (Ev.bd (here_f s i h0) (Ev.neg c1 (Ev.pos c2 (Ev.bind e (Ev.now _))))), by omega, h3, fun hk => ⟨rfl, rfl, h2, hl, ?_⟩⟩
    rcases h4 hk with ⟨b, h5, h6, h7, rfl, rfl⟩ | ⟨b, h5, h6⟩
    · exact .arr0 hb h5 h6 h7
    · exact .arr hb h5 h6
  by_cases c3 : hr s i = 34
  · obtain ⟨hl, hb⟩ := hr_bl c3 (by omega)
    obtain ⟨o, j, e, h2, h3, h4⟩ := quoted_ev s (by omega) i h0 hl
    exact ⟨4, i, j, [], [], o, j, Ev.step st (Ev.bd (here_f s i h0) (Ev.neg c1 (Ev.neg c2 (Ev.pos c3 (Ev.bind e (Ev.now _)))))), by omega, h3, fun hk => ⟨rfl, rfl, h2, hl, .str hb (h4 hk).2⟩⟩
  by_cases c4 : hr s i = 45
  · obtain ⟨kd, b, e, ns, ks, ok, j, ev, h⟩ := val_j0 s hs i h0 h1 true (by simp [c4])
    exact ⟨kd, b, e, ns, ks, ok, j, Ev.step st (Ev.bd (here_f s i h0) (Ev.neg c1 (Ev.neg c2 (Ev.neg c3 (Ev.pos c4 ev))))), h⟩
  by_cases c5 : 48 ≤ hr s i
  · obtain ⟨kd, b, e, ns, ks, ok, j, ev, h⟩ := val_j0 s hs i h0 h1 (decide (hr s i ≤ 57)) (by rw [decide_eq_true_iff]; omega)
    exact ⟨kd, b, e, ns, ks, ok, j, Ev.step st (Ev.bd (here_f s i h0) (Ev.neg c1 (Ev.neg c2 (Ev.neg c3 (Ev.neg c4 (Ev.pos c5 ev)))))), h⟩
  · obtain ⟨kd, b, e, ns, ks, ok, j, ev, h⟩ := val_j0 s hs i h0 h1 false (by simp; omega)
    exact ⟨kd, b, e, ns, ks, ok, j, Ev.step st (Ev.bd (here_f s i h0) (Ev.neg c1 (Ev.neg c2 (Ev.neg c3 (Ev.neg c4 (Ev.neg c5 ev)))))), h⟩
theorem pe_step (s : ByteArray) (hs : (s.size : Int) ≤ 2147483647) (d : Nat) (hv : PV s (d + 1)) (he : PE s d) : PE s (d + 1) := by
  intro i acc h0 h1 hd hacc
  have st := fun k => (show ele_.l0 (k + 1) acc s i = _ by rw [ele_.l0])
  obtain ⟨kd, b, e, ns, ks, ok, j, ev, h2, h3, h4⟩ := hv i h0 h1 (by omega)
  cases ok with
  | false => exact ⟨[], false, j, Ev.step st (Ev.bind ev (Ev.neg Bool.false_ne_true (Ev.now _))), h2, h3, fun h => by cases h⟩
  | true =>
    obtain ⟨rfl, rfl, h5, hl5, h6⟩ := h4 rfl
    obtain ⟨f, ef, hf⟩ := blanks_f_ev s (by omega) e (by omega) (by omega)
    have := hf.le; have := hf.hi
    by_cases c1 : hr s f = 93
    · obtain ⟨hl, hb⟩ := hr_bl c1 (by omega)
      exact ⟨_, true, f + 1, Ev.step st (Ev.bind ev (Ev.pos rfl (Ev.pos (by omega) (Ev.bd rfl (Ev.bind ef (Ev.bd (take_yes (s := s) (i := f) (c := 93) (by omega) (by omega) (by omega) c1) (Ev.pos rfl (Ev.now _)))))))), by omega, by omega, fun _ => ⟨by omega, _, rfl, .one ⟨h5, hl5⟩ h6 hf hl hb⟩⟩
    by_cases c2 : hr s f = 44
    · obtain ⟨hl, hb⟩ := hr_bl c2 (by omega)
      obtain ⟨g, eg, hg⟩ := blanks_f_ev s (by omega) (f + 1) (by omega) (by omega)
      have := hg.le; have := hg.hi
      obtain ⟨ks2, ok2, j2, e2, h7, h8, h9⟩ := he g (acc ++ [(⟨kd, b, e, ns, ks⟩ : Pl)]) (by omega) (by omega) (by omega) (by simp; omega)
      refine ⟨ks2, ok2, j2, Ev.step st (Ev.bind ev (Ev.pos rfl (Ev.pos (by omega) (Ev.bd rfl (Ev.bind ef (Ev.bd (take_no (s := s) (i := f) (c := 93) (by omega) (by omega) (by omega) c1) (Ev.neg Bool.false_ne_true (Ev.bd (take_yes (s := s) (i := f) (c := 44) (by omega) (by omega) (by omega) c2) (Ev.pos rfl (Ev.bind eg e2)))))))))), by omega, h8, fun hk => ?_⟩
      obtain ⟨h10, r, rfl, h11⟩ := h9 hk
      exact ⟨by omega, _, by simp, .cons ⟨h5, hl5⟩ h6 hf hl hb hg h11⟩
    · exact ⟨_, false, f, Ev.step st (Ev.bind ev (Ev.pos rfl (Ev.pos (by omega) (Ev.bd rfl (Ev.bind ef (Ev.bd (take_no (s := s) (i := f) (c := 93) (by omega) (by omega) (by omega) c1) (Ev.neg Bool.false_ne_true (Ev.bd (take_no (s := s) (i := f) (c := 44) (by omega) (by omega) (by omega) c2) (Ev.neg Bool.false_ne_true (Ev.now _)))))))))), by omega, by omega, fun h => by cases h⟩
theorem pm_step (s : ByteArray) (hs : (s.size : Int) ≤ 2147483647) (d : Nat) (hv : PV s d) (hm : PM s d) : PM s (d + 1) := by
  intro i an acc h0 h1 hd hacc han
  have st := fun k => (show mem_.l0 (k + 1) an acc s i = _ by rw [mem_.l0])
  have fall : ∀ j : Int, Ev (fun k => mem_.j1 k an acc i true s j) ([], [], false, s, j) := fun j =>
    Ev.step (fun k => by rw [mem_.j1]) (Ev.pos rfl (Ev.now _))
  by_cases c0 : hr s i = 34
  · obtain ⟨hl, hb⟩ := hr_bl c0 (by omega)
    obtain ⟨o, a, e, h2, h3, h4⟩ := quoted_ev s (by omega) i h0 hl
    cases o with
    | false => exact ⟨[], [], false, a, Ev.step st (Ev.bd (here_f s i h0) (Ev.pos c0 (Ev.bind e (fall a)))), by omega, h3, fun h => by cases h⟩
    | true =>
      obtain ⟨h5, ht⟩ := h4 rfl
      have st2 := fun k => (show mem_.j1 (k + 1) an acc i false s a = _ by rw [mem_.j1])
      suffices hh : ∃ ns ks ok j, Ev (fun k => mem_.j1 k an acc i false s a) (ns, ks, ok, s, j) ∧ i ≤ j ∧ j ≤ s.size ∧ (ok = true → i < j ∧ ∃ rn r, ns = an ++ rn ∧ ks = acc ++ r ∧ JM s i j rn r) by
        obtain ⟨ns, ks, ok, j, e2, hh⟩ := hh
        exact ⟨ns, ks, ok, j, Ev.step st (Ev.bd (here_f s i h0) (Ev.pos c0 (Ev.bind e e2))), hh⟩
      obtain ⟨b, eb, hbb⟩ := blanks_f_ev s (by omega) a (by omega) (by omega)
      have := hbb.le; have := hbb.hi
      by_cases c1 : hr s b = 58
      · obtain ⟨hlb, hb58⟩ := hr_bl c1 (by omega)
        obtain ⟨c, ec, hc⟩ := blanks_f_ev s (by omega) (b + 1) (by omega) (by omega)
        have := hc.le; have := hc.hi
        obtain ⟨kd, b', e', ns, ks, ok, j, ev, h6, h7, h8⟩ := hv c (by omega) (by omega) (by omega)
        cases ok with
        | false =>
          exact ⟨[], [], false, j, Ev.step st2 (Ev.neg Bool.false_ne_true (Ev.pos (by omega) (Ev.bd rfl (Ev.bind eb (Ev.bd (take_yes (s := s) (i := b) (c := 58) (by omega) (by omega) (by omega) c1) (Ev.pos rfl (Ev.bind ec (Ev.bind ev (Ev.neg Bool.false_ne_true (Ev.now _)))))))))), by omega, h7, fun h => by cases h⟩
        | true =>
          obtain ⟨rfl, rfl, h9, hl9, h10⟩ := h8 rfl
          obtain ⟨f, ef, hf⟩ := blanks_f_ev s (by omega) e' (by omega) (by omega)
          have := hf.le; have := hf.hi
          by_cases c2 : hr s f = 125
          · obtain ⟨hlf, hbf⟩ := hr_bl c2 (by omega)
            exact ⟨_, _, true, f + 1, Ev.step st2 (Ev.neg Bool.false_ne_true (Ev.pos (by omega) (Ev.bd rfl (Ev.bind eb (Ev.bd (take_yes (s := s) (i := b) (c := 58) (by omega) (by omega) (by omega) c1) (Ev.pos rfl (Ev.bind ec (Ev.bind ev (Ev.pos rfl (Ev.pos (by omega) (Ev.bd rfl (Ev.bind ef (Ev.bd (take_yes (s := s) (i := f) (c := 125) (by omega) (by omega) (by omega) c2) (Ev.pos rfl (Ev.now _))))))))))))))), by omega, by omega, fun _ => ⟨by omega, _, _, rfl, rfl, .one ⟨hl, hb⟩ ht hbb hlb hb58 hc ⟨h9, hl9⟩ h10 hf hlf hbf⟩⟩
          by_cases c3 : hr s f = 44
          · obtain ⟨hlf, hbf⟩ := hr_bl c3 (by omega)
            obtain ⟨g, eg, hg⟩ := blanks_f_ev s (by omega) (f + 1) (by omega) (by omega)
            have := hg.le; have := hg.hi
            obtain ⟨ns2, ks2, ok2, j2, e2, h11, h12, h13⟩ := hm g (an ++ [(⟨i, a⟩ : Sp)]) (acc ++ [(⟨kd, b', e', ns, ks⟩ : Pl)]) (by omega) (by omega) (by omega) (by simp; omega) (by simp; omega)
            refine ⟨ns2, ks2, ok2, j2, Ev.step st2 (Ev.neg Bool.false_ne_true (Ev.pos (by omega) (Ev.bd rfl (Ev.bind eb (Ev.bd (take_yes (s := s) (i := b) (c := 58) (by omega) (by omega) (by omega) c1) (Ev.pos rfl (Ev.bind ec (Ev.bind ev (Ev.pos rfl (Ev.pos (by omega) (Ev.bd rfl (Ev.bind ef (Ev.bd (take_no (s := s) (i := f) (c := 125) (by omega) (by omega) (by omega) c2) (Ev.neg Bool.false_ne_true (Ev.bd (take_yes (s := s) (i := f) (c := 44) (by omega) (by omega) (by omega) c3) (Ev.pos rfl (Ev.bind eg e2))))))))))))))))), by omega, h12, fun hk => ?_⟩
            obtain ⟨h14, rn, r, rfl, rfl, h15⟩ := h13 hk
            exact ⟨by omega, _, _, by simp, by simp, .cons ⟨hl, hb⟩ ht hbb hlb hb58 hc ⟨h9, hl9⟩ h10 hf hlf hbf hg h15⟩
          · exact ⟨_, _, false, f, Ev.step st2 (Ev.neg Bool.false_ne_true (Ev.pos (by omega) (Ev.bd rfl (Ev.bind eb (Ev.bd (take_yes (s := s) (i := b) (c := 58) (by omega) (by omega) (by omega) c1) (Ev.pos rfl (Ev.bind ec (Ev.bind ev (Ev.pos rfl (Ev.pos (by omega) (Ev.bd rfl (Ev.bind ef (Ev.bd (take_no (s := s) (i := f) (c := 125) (by omega) (by omega) (by omega) c2) (Ev.neg Bool.false_ne_true (Ev.bd (take_no (s := s) (i := f) (c := 44) (by omega) (by omega) (by omega) c3) (Ev.neg Bool.false_ne_true (Ev.now _))))))))))))))))), by omega, by omega, fun h => by cases h⟩
      · exact ⟨_, _, false, b, Ev.step st2 (Ev.neg Bool.false_ne_true (Ev.pos (by omega) (Ev.bd rfl (Ev.bind eb (Ev.bd (take_no (s := s) (i := b) (c := 58) (by omega) (by omega) (by omega) c1) (Ev.neg Bool.false_ne_true (Ev.now _))))))), by omega, by omega, fun h => by cases h⟩
  · exact ⟨[], [], false, i, Ev.step st (Ev.bd (here_f s i h0) (Ev.neg c0 (fall i))), by omega, h1, fun h => by cases h⟩
theorem reads (s : ByteArray) (hs : (s.size : Int) ≤ 2147483647) (d : Nat) : PV s d ∧ PE s d ∧ PM s d := by
  induction d with
  | zero => exact ⟨fun i h0 h1 hd => by omega, fun i acc h0 h1 hd => by omega, fun i an acc h0 h1 hd => by omega⟩
  | succ d ih =>
    have hv := pv_step s hs d ih.2.1 ih.2.2
    exact ⟨hv, pe_step s hs d hv ih.2.1, pm_step s hs d ih.1 ih.2.2⟩
theorem value_ev (s : ByteArray) (hs : (s.size : Int) ≤ 2147483647) (i : Int) (h0 : 0 ≤ i) (h1 : i ≤ s.size) :
    ∃ kd b e ns ks ok j, Ev (fun k => v_.f k s i) (kd, b, e, ns, ks, ok, s, j) ∧ i ≤ j ∧ j ≤ s.size ∧ (ok = true → b = i ∧ e = j ∧ i < j ∧ i < s.size ∧ JV s kd i j ns ks) :=
  (reads s hs (s.size + 1)).1 i h0 h1 (by omega)
/-- A JSON text: one value with blanks around it. -/
structure JT (s : ByteArray) (kd i j : Int) (ns : List Sp) (ks : List Pl) : Prop where
  front : Blk s 0 i
  lt : i < j
  hi : j ≤ s.size
  val : JV s kd i j ns ks
  back : Blk s j s.size
theorem places_ev (s : ByteArray) (hs : (s.size : Int) ≤ 2147483647) :
    ∃ kd b e ns ks ok, Ev (fun k => PP_.f k s) (kd, b, e, ns, ks, ok) ∧ (ok = true → JT s kd b e ns ks) := by
  obtain ⟨i, ei, hi⟩ := blanks_f_ev s (by omega) 0 (by omega) (by omega)
  have := hi.le; have := hi.hi
  obtain ⟨kd, b, e, ns, ks, ok, j, ev, h2, h3, h4⟩ := value_ev s hs i (by omega) (by omega)
  cases ok with
  | false =>
    refine ⟨_, _, _, _, _, false, Ev.bind ei (Ev.bind ev (Ev.neg Bool.false_ne_true (Ev.now _))), fun h => by cases h⟩
  | true =>
    obtain ⟨rfl, rfl, h5, _, h6⟩ := h4 rfl
    obtain ⟨f, ef, hf⟩ := blanks_f_ev s (by omega) e (by omega) (by omega)
    by_cases c : f = s.size
    · exact ⟨_, _, _, _, _, true, Ev.bind ei (Ev.bind ev (Ev.pos rfl (Ev.bind ef (Ev.pos c (Ev.now _))))), fun _ => ⟨hi, h5, h3, h6, c ▸ hf⟩⟩
    · exact ⟨_, _, _, _, _, false, Ev.bind ei (Ev.bind ev (Ev.pos rfl (Ev.bind ef (Ev.neg c (Ev.now _))))), fun h => by cases h⟩
end Go.Proofs.YtpdohioobbfncaaGreatDoor.JFnJpWildStop/- All places of a JSON text, and what holds of each. -/
namespace Go.Proofs.YtpdohioobbfncaaGreatDoor.JFnJpWildStop
open Go.RowKit Go.Proofs.YtpdohioobbfncaaGreatDoor.PFnJpWildStop Go.Proofs.YtpdohioobbfncaaGreatDoorW.PrintWords Go.Proofs.YtpdohioobbfncaaGreatDoorW.PrintLast Go.Proofs.YtpdohioobbfncaaGreatDoorW.PrintMore
mutual
def pre : Pl → List Pl
  | ⟨a, b, c, d, ks⟩ => ⟨a, b, c, d, ks⟩ :: preL ks
def preL : List Pl → List Pl
  | [] => []
  | k :: r => pre k ++ preL r
end
theorem StrT.lt {s : ByteArray} {i j : Int} (h : StrT s i j) : i < j := by
  induction h <;> omega
theorem StrT.hi {s : ByteArray} {i j : Int} (h : StrT s i j) : j ≤ s.size := by
  induction h <;> omega
theorem pre_pos (p : Pl) : 0 < (pre p).length := by
  obtain ⟨a, b, c, d, ks⟩ := p
  simp [pre]
theorem preL_len : ∀ l : List Pl, l.length ≤ (preL l).length
  | [] => by simp
  | q :: r => by have := preL_len r; have := pre_pos q; simp only [preL, List.length_append, List.length_cons]; omega
/-- What stands behind a value: a blank, a comma, a closing bracket, or nothing. -/
def Follow (s : ByteArray) (j : Int) : Prop := j = s.size ∨ (j < s.size ∧ (IsBl (bt s j) ∨ bt s j = 44 ∨ bt s j = 93 ∨ bt s j = 125))
theorem Follow.of_blk {s : ByteArray} {a b : Int} (h : Blk s a b) (hb : b < s.size) (hc : bt s b = 44 ∨ bt s b = 93 ∨ bt s b = 125) : Follow s a := by
  have := h.le
  by_cases e : a = b
  · subst e; exact .inr ⟨hb, .inr hc⟩
  · exact .inr ⟨by omega, .inl (h.all a (by omega) (by omega))⟩
structure GoodP (s : ByteArray) (q : Pl) : Prop where
  lo : 0 ≤ q.f1
  lt : q.f1 < q.f2
  hi : q.f2 ≤ s.size
  val : JV s q.f0 q.f1 q.f2 q.f3 q.f4
  fol : Follow s q.f2
/-- Induction over a value's places. -/
theorem jv_ind {s : ByteArray} {P : Int → Int → Int → List Sp → List Pl → Prop} {Q : Int → Int → List Pl → Prop} {R : Int → Int → List Sp → List Pl → Prop}
    (leaf : ∀ (kd i j : Int), JV s kd i j [] [] → P kd i j [] [])
    (arr : ∀ (i b j : Int) (ks : List Pl), JV s 5 i j [] ks → Blk s (i + 1) b → JE s b j ks → Q b j ks → P 5 i j [] ks)
    (obj : ∀ (i b j : Int) (ns : List Sp) (ks : List Pl), JV s 6 i j ns ks → Blk s (i + 1) b → JM s b j ns ks → R b j ns ks → P 6 i j ns ks)
    (one : ∀ (i a b kd : Int) (ns : List Sp) (ks : List Pl), i < a ∧ i < s.size → JV s kd i a ns ks → P kd i a ns ks → Blk s a b → b < s.size → bt s b = 93 → Q i (b + 1) [⟨kd, i, a, ns, ks⟩])
    (cons : ∀ (i a b c j kd : Int) (ns : List Sp) (ks r : List Pl), i < a ∧ i < s.size → JV s kd i a ns ks → P kd i a ns ks → Blk s a b → b < s.size → bt s b = 44 → Blk s (b + 1) c → JE s c j r → Q c j r → Q i j (⟨kd, i, a, ns, ks⟩ :: r))
    (mone : ∀ (i a b c d e kd : Int) (ns : List Sp) (ks : List Pl), i < s.size ∧ bt s i = 34 → StrT s (i + 1) a → Blk s a b → b < s.size → bt s b = 58 → Blk s (b + 1) c → c < d ∧ c < s.size → JV s kd c d ns ks → P kd c d ns ks → Blk s d e → e < s.size → bt s e = 125 → R i (e + 1) [⟨i, a⟩] [⟨kd, c, d, ns, ks⟩])
    (mcons : ∀ (i a b c d e f j kd : Int) (ns ns2 : List Sp) (ks ks2 : List Pl), i < s.size ∧ bt s i = 34 → StrT s (i + 1) a → Blk s a b → b < s.size → bt s b = 58 → Blk s (b + 1) c → c < d ∧ c < s.size → JV s kd c d ns ks → P kd c d ns ks → Blk s d e → e < s.size → bt s e = 44 → Blk s (e + 1) f → JM s f j ns2 ks2 → R f j ns2 ks2 → R i j (⟨i, a⟩ :: ns2) (⟨kd, c, d, ns, ks⟩ :: ks2))
    {kd i j : Int} {ns : List Sp} {ks : List Pl} (h : JV s kd i j ns ks) : P kd i j ns ks :=
  @JV.rec s (fun kd i j ns ks _ => P kd i j ns ks) (fun i j ks _ => Q i j ks) (fun i j ns ks _ => R i j ns ks)
    (fun h => leaf _ _ _ (.null h)) (fun h => leaf _ _ _ (.fals h)) (fun h => leaf _ _ _ (.tru h)) (fun h hd => leaf _ _ _ (.num h hd)) (fun h t => leaf _ _ _ (.str h t)) (fun h a b c => leaf _ _ _ (.arr0 h a b c))
    (fun h a b ih => arr _ _ _ _ (.arr h a b) a b ih) (fun h a b c => leaf _ _ _ (.obj0 h a b c)) (fun h a b ih => obj _ _ _ _ _ (.obj h a b) a b ih)
    (fun hl h a b c ih => one _ _ _ _ _ _ hl h ih a b c) (fun hl h a b c d e ih ih2 => cons _ _ _ _ _ _ _ _ _ hl h ih a b c d e ih2)
    (fun h t a b c d hl v e f g ih => mone _ _ _ _ _ _ _ _ _ h t a b c d hl v ih e f g)
    (fun h t a b c d hl v e f g k m ih ih2 => mcons _ _ _ _ _ _ _ _ _ _ _ _ _ h t a b c d hl v ih e f g k m ih2) kd i j ns ks h
theorem jv_all {s : ByteArray} {kd i j : Int} {ns : List Sp} {ks : List Pl} (h : JV s kd i j ns ks) : 0 ≤ i → i < j → j ≤ s.size → Follow s j →
    (∀ q ∈ pre ⟨kd, i, j, ns, ks⟩, GoodP s q) ∧ ((pre ⟨kd, i, j, ns, ks⟩).length : Int) ≤ j - i := by
  have more : ∀ kd i j ns ks b, JV s kd i j ns ks → 0 ≤ i → i < j → j ≤ s.size → Follow s j → i < b → (∀ q ∈ preL ks, GoodP s q) → ((preL ks).length : Int) ≤ j - b → (∀ q ∈ pre ⟨kd, i, j, ns, ks⟩, GoodP s q) ∧ ((pre ⟨kd, i, j, ns, ks⟩).length : Int) ≤ j - i := by
    intro kd i j ns ks b h h0 h1 h2 hf hb hq hl
    refine ⟨fun q hq2 => ?_, by simp [pre]; omega⟩
    simp only [pre, List.mem_cons] at hq2
    rcases hq2 with rfl | hq2
    · exact ⟨h0, h1, h2, h, hf⟩
    · exact hq q hq2
  refine jv_ind (P := fun kd i j ns ks => 0 ≤ i → i < j → j ≤ s.size → Follow s j → (∀ q ∈ pre ⟨kd, i, j, ns, ks⟩, GoodP s q) ∧ ((pre ⟨kd, i, j, ns, ks⟩).length : Int) ≤ j - i)
    (Q := fun i j ks => 0 ≤ i → j ≤ s.size → (∀ q ∈ preL ks, GoodP s q) ∧ ((preL ks).length : Int) ≤ j - i)
    (R := fun i j ns ks => 0 ≤ i → j ≤ s.size → (∀ q ∈ preL ks, GoodP s q) ∧ ((preL ks).length : Int) ≤ j - i) ?_ ?_ ?_ ?_ ?_ ?_ ?_ h
  · intro kd i j h h0 h1 h2 hf
    exact more _ _ _ _ _ (i + 1) h h0 h1 h2 hf (by omega) (by simp [preL]) (by simp [preL]; omega)
  · intro i b j ks h a _ ih h0 h1 h2 hf
    have := a.le
    have z := ih (by omega) h2
    exact more _ _ _ _ _ b h h0 h1 h2 hf (by omega) z.1 z.2
  · intro i b j ns ks h a _ ih h0 h1 h2 hf
    have := a.le
    have z := ih (by omega) h2
    exact more _ _ _ _ _ b h h0 h1 h2 hf (by omega) z.1 z.2
  · intro i a b kd ns ks hl h ih e f g h0 h2
    have := e.le; have := e.hi
    have z := ih h0 hl.1 (by omega) (.of_blk e f (.inr (.inl g)))
    exact ⟨fun q hq => z.1 q (by simpa [preL] using hq), by simp only [preL, List.append_nil]; omega⟩
  · intro i a b c j kd ns ks r hl h ih e f g k _ ih2 h0 h2
    have := e.le; have := e.hi; have := k.le
    have z := ih h0 hl.1 (by omega) (.of_blk e f (.inl g))
    have y := ih2 (by omega) h2
    refine ⟨fun q hq => ?_, by simp only [preL, List.length_append]; omega⟩
    simp only [preL, List.mem_append] at hq
    rcases hq with hq | hq
    · exact z.1 q hq
    · exact y.1 q hq
  · intro i a b c d e kd ns ks g t k l m n hl h ih o p q h0 h2
    have := t.lt; have := k.le; have := n.le; have := o.le; have := o.hi
    have z := ih (by omega) hl.1 (by omega) (.of_blk o p (.inr (.inr q)))
    exact ⟨fun q hq => z.1 q (by simpa [preL] using hq), by simp only [preL, List.append_nil]; omega⟩
  · intro i a b c d e f j kd ns ns2 ks ks2 g t k l m n hl h ih o p q r _ ih2 h0 h2
    have := t.lt; have := k.le; have := n.le; have := o.le; have := o.hi; have := r.le
    have z := ih (by omega) hl.1 (by omega) (.of_blk o p (.inl q))
    have y := ih2 (by omega) h2
    refine ⟨fun q hq => ?_, by simp only [preL, List.length_append]; omega⟩
    simp only [preL, List.mem_append] at hq
    rcases hq with hq | hq
    · exact z.1 q hq
    · exact y.1 q hq
end Go.Proofs.YtpdohioobbfncaaGreatDoor.JFnJpWildStop/- What bytes a number, a word and a string of a JSON text are made of. -/
namespace Go.Proofs.YtpdohioobbfncaaGreatDoor.JFnJpWildStop
open Go.RowKit Go.Proofs.YtpdohioobbfncaaGreatDoor.PFnJpWildStop Go.Proofs.YtpdohioobbfncaaGreatDoorW.PrintWords Go.Proofs.YtpdohioobbfncaaGreatDoorW.PrintLast Go.Proofs.YtpdohioobbfncaaGreatDoorW.PrintMore
def NumCh (c : Int) : Prop := (48 ≤ c ∧ c ≤ 57) ∨ c = 45 ∨ c = 43 ∨ c = 46 ∨ c = 101 ∨ c = 69
theorem num_ch {s : ByteArray} {i j : Int} (h : Num s i j) (q : Int) (h0 : i ≤ q) (h1 : q < j) : NumCh (bt s q) := by
  obtain ⟨a, b, c, ha, hb, hc, hj⟩ := h.out
  have d : ∀ {x y : Int}, Digs s x y → x ≤ q → q < y → NumCh (bt s q) := fun h h2 h3 => .inl (h.all q h2 h3)
  have cs : ∀ x : Int, q = x → NumCh (bt s x) → NumCh (bt s q) := fun x e h => e ▸ h
  by_cases q1 : q < a
  · exact cs i (by omega) (by unfold NumCh; omega)
  by_cases q2 : q < b
  · rcases hb with ⟨_, h2, h3⟩ | ⟨_, h2⟩
    · exact cs a (by omega) (by unfold NumCh; omega)
    · exact d h2 (by omega) q2
  by_cases q3 : q < c
  · rcases hc with ⟨h2, _⟩ | ⟨h2, h3⟩
    · omega
    · by_cases e : q = b
      · exact cs b e (by unfold NumCh; omega)
      · exact d h3 (by omega) q3
  rcases hj with ⟨h2, _⟩ | ⟨h2, h3⟩
  · omega
  by_cases e : q = c
  · exact cs c e (by unfold NumCh; omega)
  rcases h3 with ⟨_, _, h4⟩ | ⟨h3, h4⟩
  · exact d h4 (by omega) h1
  · by_cases e : q = c + 1
    · exact cs (c + 1) e (by unfold NumCh; omega)
    · exact d h4 (by omega) h1
theorem word_ch {s w : ByteArray} {i : Int} (h : Word s i w) (h0 : 0 ≤ i) (hw : ∀ q : Nat, q < w.size → 97 ≤ bt w q ∧ bt w q ≤ 122) (q : Int) (h1 : i ≤ q) (h2 : q < i + w.size) : 97 ≤ bt s q ∧ bt s q ≤ 122 := by
  have := h.at_ h0 (q - i).toNat (by omega)
  rw [show i + (((q - i).toNat : Nat) : Int) = q by omega] at this
  rw [this]
  exact hw _ (by omega)
theorem lit_ch {s : ByteArray} {kd i j : Int} {ns : List Sp} {ks : List Pl} (h : JV s kd i j ns ks) (hk : kd < 3) (h0 : 0 ≤ i) (q : Int) (h1 : i ≤ q) (h2 : q < j) : 97 ≤ bt s q ∧ bt s q ≤ 122 := by
  cases h with
  | null h => exact word_ch h h0 (fun q hq => by have : q < 4 := hq; match q, this with | 0, _ => decide | 1, _ => decide | 2, _ => decide | 3, _ => decide) q h1 h2
  | fals h => exact word_ch h h0 (fun q hq => by have : q < 5 := hq; match q, this with | 0, _ => decide | 1, _ => decide | 2, _ => decide | 3, _ => decide | 4, _ => decide) q h1 h2
  | tru h => exact word_ch h h0 (fun q hq => by have : q < 4 := hq; match q, this with | 0, _ => decide | 1, _ => decide | 2, _ => decide | 3, _ => decide) q h1 h2
  | num _ _ => omega
  | str _ _ => omega
  | arr0 _ _ _ _ => omega
  | arr _ _ _ => omega
  | obj0 _ _ _ _ => omega
  | obj _ _ _ => omega
theorem jv_num {s : ByteArray} {kd i j : Int} {ns : List Sp} {ks : List Pl} (h : JV s kd i j ns ks) (hk : kd = 3) : Num s i j := by
  cases h with
  | num h _ => exact h
  | null _ => omega
  | fals _ => omega
  | tru _ => omega
  | str _ _ => omega
  | arr0 _ _ _ _ => omega
  | arr _ _ _ => omega
  | obj0 _ _ _ _ => omega
  | obj _ _ _ => omega
end Go.Proofs.YtpdohioobbfncaaGreatDoor.JFnJpWildStop/- An object's names, a value's parts; no condition beside those that each theorem states. -/
namespace Go.Proofs.YtpdohioobbfncaaGreatDoor.JFnJpWildStop
open Go.RowKit Go.Proofs.YtpdohioobbfncaaGreatDoor.PFnJpWildStop Go.Proofs.YtpdohioobbfncaaGreatDoorW.PrintWords Go.Proofs.YtpdohioobbfncaaGreatDoorW.PrintLast Go.Proofs.YtpdohioobbfncaaGreatDoorW.PrintMore
structure Nm (s : ByteArray) (n : Sp) : Prop where
  lo : 0 ≤ n.f0
  str : StrT s (n.f0 + 1) n.f1
theorem jv_names {s : ByteArray} {kd i j : Int} {ns : List Sp} {ks : List Pl} (h : JV s kd i j ns ks) : 0 ≤ i → (∀ n ∈ ns, Nm s n) ∧ (kd = 6 → ns.length = ks.length) := by
  refine jv_ind (P := fun kd i j ns ks => 0 ≤ i → (∀ n ∈ ns, Nm s n) ∧ (kd = 6 → ns.length = ks.length)) (Q := fun _ _ _ => True) (R := fun i j ns ks => 0 ≤ i → (∀ n ∈ ns, Nm s n) ∧ ns.length = ks.length) ?_ ?_ ?_ ?_ ?_ ?_ ?_ h
  · intro _ _ _ _ _
    exact ⟨fun n hn => (by cases hn), fun _ => rfl⟩
  · intro _ _ _ _ _ _ _ _ _
    exact ⟨fun n hn => (by cases hn), fun h => by omega⟩
  · intro i b j ns ks _ a _ ih h0
    have := a.le
    have z := ih (by omega)
    exact ⟨z.1, fun _ => z.2⟩
  · intros; trivial
  · intros; trivial
  · intro i a b c d e kd ns ks _ t _ _ _ _ _ _ _ _ _ _ h0
    refine ⟨fun n hn => ?_, rfl⟩
    rcases List.mem_singleton.1 hn with rfl
    exact ⟨h0, t⟩
  · intro i a b c d e f j kd ns ns2 ks ks2 _ t k1 _ _ k2 hl _ _ k3 _ _ k4 _ ih h0
    have := t.lt; have := k1.le; have := k2.le; have := k3.le; have := k4.le
    have z := ih (by omega)
    refine ⟨fun n hn => ?_, by simp [z.2]⟩
    rcases List.mem_cons.1 hn with rfl | hn
    · exact ⟨h0, t⟩
    · exact z.1 n hn
theorem self_pre (q : Pl) : q ∈ pre q := by
  obtain ⟨a, b, c, d, ks⟩ := q
  simp [pre]
theorem kid_pre : ∀ (l : List Pl) (q : Pl), q ∈ l → q ∈ preL l
  | [], q, h => by cases h
  | k :: r, q, h => by
    simp only [preL, List.mem_append]
    rcases List.mem_cons.1 h with rfl | h
    · exact .inl (self_pre q)
    · exact .inr (kid_pre r q h)
theorem GoodP.kid {s : ByteArray} {kd b e : Int} {ns : List Sp} {ks : List Pl} (h : GoodP s ⟨kd, b, e, ns, ks⟩) : ∀ q ∈ ks, GoodP s q := fun q hq =>
  (jv_all h.val h.lo h.lt h.hi h.fol).1 q (by simp only [pre, List.mem_cons]; exact .inr (kid_pre ks q hq))
theorem GoodP.len {s : ByteArray} {kd b e : Int} {ns : List Sp} {ks : List Pl} (h : GoodP s ⟨kd, b, e, ns, ks⟩) : (ks.length : Int) ≤ e - b := by
  have h1 := (jv_all h.val h.lo h.lt h.hi h.fol).2
  have h2 := preL_len ks
  simp only [pre, List.length_cons] at h1
  omega
theorem rdP_mem (ks : List Pl) (i : Int) (h0 : 0 ≤ i) (h : i < (ks.length : Int)) : rd_T27 ks i ∈ ks := by
  unfold rd_T27
  rw [List.getD_eq_getElem?_getD, List.getElem?_eq_getElem (by omega)]
  exact List.getElem_mem _
theorem rdN_mem (ns : List Sp) (i : Int) (h0 : 0 ≤ i) (h : i < (ns.length : Int)) : rd_T64 ns i ∈ ns := by
  unfold rd_T64
  rw [List.getD_eq_getElem?_getD, List.getElem?_eq_getElem (by omega)]
  exact List.getElem_mem _
theorem GoodP.eta {s : ByteArray} {q : Pl} (h : GoodP s q) : GoodP s ⟨q.f0, q.f1, q.f2, q.f3, q.f4⟩ := by
  cases q
  exact h
theorem JT.good {s : ByteArray} {kd i j : Int} {ns : List Sp} {ks : List Pl} (h : JT s kd i j ns ks) : GoodP s ⟨kd, i, j, ns, ks⟩ := by
  refine ⟨h.front.le, h.lt, h.hi, h.val, ?_⟩
  by_cases c : j = s.size
  · exact .inl c
  · have := h.hi
    exact .inr ⟨by show j < _; omega, .inl (h.back.all j (by omega) (by omega))⟩
end Go.Proofs.YtpdohioobbfncaaGreatDoor.JFnJpWildStop/- The reference's reading of a string's characters comes to its end; no condition beside those that each theorem states. -/
namespace Go.Proofs.YtpdohioobbfncaaGreatDoor.JFnJpWildStop
open Go.RowKit Go.Proofs.YtpdohioobbfncaaGreatDoor.PFnJpWildStop Go.Proofs.YtpdohioobbfncaaGreatDoorW.PrintWords Go.Proofs.YtpdohioobbfncaaGreatDoorW.PrintLast Go.Proofs.YtpdohioobbfncaaGreatDoorW.PrintMore
/-- A byte of a piece. -/
theorem bt_x (s : ByteArray) (a b : Nat) (q : Int) (h0 : 0 ≤ q) (h : a + q < b) (hb : b ≤ s.size) : bt (s.extract a b) q = bt s (a + q) := by
  unfold bt
  have h1 : q.toNat < (s.extract a b).size := by rw [ByteArray.size_extract]; omega
  have h2 : ((a : Int) + q).toNat < s.size := by omega
  rw [dif_pos h1, dif_pos h2, ByteArray.getElem_extract]
  congr 3
  omega
theorem unit_l (t : ByteArray) (ht : (t.size : Int) ≤ 140737488351232) (p : Int) (h0 : 0 ≤ p) (h6 : p + 6 ≤ t.size) (d : Nat) : ∀ m v : Int, p + 2 ≤ m → m ≤ p + 6 → p + 6 - m = d →
    ∃ v2 b, Ev (fun k => u_.l0 k t p v m) (v2, b) ∧ (b = true ↔ ∀ q, m ≤ q → q < p + 6 → IsHex (bt t q)) := by
  induction d with
  | zero =>
    intro m v h1 h2 hd
    refine ⟨v, true, Ev.step (fun k => by rw [u_.l0]) (Ev.neg ?_ (Ev.now _)), ?_⟩
    · rw [w64 (by omega) (by omega)]; omega
    · exact ⟨fun _ q h3 h4 => by omega, fun _ => rfl⟩
  | succ d ih =>
    intro m v h1 h2 hd
    have hw : wrap64 (p + 6) = p + 6 := w64 (by omega) (by omega)
    have hw1 : wrap64 (m + 1) = m + 1 := w64 (by omega) (by omega)
    obtain ⟨hv, hb, he, hi⟩ := hex_ev (bt t m)
    cases hb with
    | false =>
      refine ⟨0, false, Ev.step (fun k => by rw [u_.l0]) (Ev.pos (by rw [hw]; omega) (Ev.pos (by omega) (Ev.pos (by omega) ?_))), ?_⟩
      · refine Ev.bind he ?_
        exact Ev.neg Bool.false_ne_true (Ev.now _)
      · refine ⟨fun h => by (cases h), fun h => ?_⟩
        exact hi.2 (h m (Int.le_refl _) (by omega))
    | true =>
      obtain ⟨v2, b, e2, h3⟩ := ih (m + 1) (wrap64 ((wrap64 (v * 16)) + hv)) (by omega) (by omega) (by omega)
      refine ⟨v2, b, Ev.step (fun k => by rw [u_.l0]) (Ev.pos (by rw [hw]; omega) (Ev.pos (by omega) (Ev.pos (by omega) ?_))), ?_⟩
      · refine Ev.bind he ?_
        refine Ev.pos rfl ?_
        rw [hw1]
        exact e2
      · rw [h3]
        refine ⟨fun h q h4 h5 => ?_, fun h q h4 h5 => h q (by omega) h5⟩
        by_cases c : q = m
        · exact c ▸ hi.1 rfl
        · exact h q (by omega) h5
theorem unit_ev (t : ByteArray) (ht : (t.size : Int) ≤ 140737488351232) (p : Int) (h0 : 0 ≤ p) (h1 : p ≤ t.size) :
    ∃ v b, Ev (fun k => u_.f k t p) (v, b) ∧ (b = true ↔ p + 6 ≤ t.size ∧ bt t p = 92 ∧ bt t (p + 1) = 117 ∧ ∀ q, p + 2 ≤ q → q < p + 6 → IsHex (bt t q)) := by
  unfold u_.f
  rw [w64 (x := (t.size : Int) - p) (by omega) (by omega), w64 (x := p + 1) (by omega) (by omega)]
  have no : Ev (fun k => u_.j0 k t p true) (0, false) := Ev.step (fun k => by rw [u_.j0]) (Ev.pos rfl (Ev.now _))
  by_cases c1 : (t.size : Int) - p < 6
  · exact ⟨0, false, Ev.pos c1 no, ⟨fun h => by (cases h), fun h => by omega⟩⟩
  by_cases c2 : bt t p = 92
  · by_cases c3 : bt t (p + 1) = 117
    · obtain ⟨v, b, e, h⟩ := unit_l t ht p h0 (by omega) 4 (p + 2) 0 (by omega) (by omega) (by omega)
      refine ⟨v, b, Ev.neg c1 (Ev.pos h0 (Ev.pos (by omega) (Ev.pos c2 (Ev.pos (by omega) (Ev.pos (by omega) ?_))))), ?_⟩
      · rw [show (bt t (p + 1) != 117) = false by simp [c3]]
        refine Ev.step (fun k => by rw [u_.j0]) (Ev.neg Bool.false_ne_true ?_)
        rw [w64 (x := p + 2) (by omega) (by omega)]
        exact e
      · rw [h]
        exact ⟨fun h => ⟨by omega, c2, c3, h⟩, fun h => h.2.2.2⟩
    · refine ⟨0, false, Ev.neg c1 (Ev.pos h0 (Ev.pos (by omega) (Ev.pos c2 (Ev.pos (by omega) (Ev.pos (by omega) ?_))))), ⟨fun h => by (cases h), fun h => absurd h.2.2.1 c3⟩⟩
      rw [show (bt t (p + 1) != 117) = true by simp [c3]]
      exact no
  · exact ⟨0, false, Ev.neg c1 (Ev.pos h0 (Ev.pos (by omega) (Ev.neg c2 no))), ⟨fun h => by (cases h), fun h => absurd h.2.1 c2⟩⟩
theorem high_t (v : Int) : ∃ b, hig_.f v = some b := by unfold hig_.f; split <;> exact ⟨_, rfl⟩
theorem low_t (v : Int) : ∃ b, spec_low.f v = some b := by unfold spec_low.f; split <;> exact ⟨_, rfl⟩
end Go.Proofs.YtpdohioobbfncaaGreatDoor.JFnJpWildStop