/- The reference's reader goes over every string and every number there is. -/
import Derived.Test.YtdhiihegfdmokaaDoorJPFnFjCheckObject
namespace Go.Proofs.YtdhiihegfdmokaaDoor.JFnFjCheckObject
open Go.RowKit Go.Proofs.YtdhiihegfdmokaaDoor.PFnFjCheckObject Go.Proofs.YtdhiihegfdmokaaDoorW.PrintWords Go.Proofs.YtdhiihegfdmokaaDoorW.PrintLast Go.Proofs.YtdhiihegfdmokaaDoorW.PrintMore

theorem hr_of_bt {s : ByteArray} {i c : Int} (h : bt s i = c) (hc : c ≠ 0) (h0 : 0 ≤ i) : i < s.size ∧ hr s i = c := by
  have hl : i < (s.size : Int) := by
    apply Decidable.byContradiction
    intro hn
    apply hc
    rw [← h]
    unfold bt
    rw [dif_neg (by omega)]
  exact ⟨hl, by rw [hr_lt hl, h]⟩
theorem esc_hex_yes (s : ByteArray) (hs : (s.size : Int) ≤ 140737488351232) (d : Nat) : ∀ m i : Int, 0 ≤ m → 4 - m = d → 0 ≤ i → i + d ≤ s.size → (∀ q, i ≤ q → q < i + d → IsHex (bt s q)) →
    Ev (fun k => spec_reader_escape.l0 k m s i) (true, s, i + d) := by
  induction d with
  | zero =>
    intro m i hm hd h0 h1 _
    refine Ev.step (fun k => by rw [spec_reader_escape.l0]) (Ev.neg (by omega) (Ev.eq ?_ (Ev.now _)))
    simp
  | succ d ih =>
    intro m i hm hd h0 h1 hx
    obtain ⟨v, b, e, hb⟩ := hex_ev (hr s i)
    have h2 := hx i (by omega) (by omega)
    rw [← hr_lt (by omega)] at h2
    obtain rfl := hb.2 h2
    have e2 := ih (m + 1) (i + 1) (by omega) (by omega) (by omega) (by omega) (fun q h3 h4 => hx q (by omega) (by omega))
    refine Ev.step (fun k => by rw [spec_reader_escape.l0]) (Ev.pos (by omega) (Ev.bd (here_f s i h0) (Ev.bind e ?_)))
    refine Ev.pos rfl ?_
    dsimp only
    rw [w64 (by omega) (by omega), w64 (by omega) (by omega)]
    exact Ev.eq (by rw [show i + 1 + (d : Int) = i + ((d + 1 : Nat) : Int) by omega]) e2
theorem esc_yes (s : ByteArray) (hs : (s.size : Int) ≤ 140737488351232) (i : Int) (h0 : 0 ≤ i) (h1 : i < s.size) (h : IsEsc (bt s i)) : Ev (fun k => spec_reader_escape.f k s i) (true, s, i + 1) := by
  obtain ⟨b, j, e, _, _, h4⟩ := esc_ev s hs i h0 (by omega)
  have go : Ev (fun k => spec_reader_escape.j0 k (hr s i) true s i) (true, s, i + 1) := by
    refine Ev.step (fun k => by rw [spec_reader_escape.j0]) (Ev.pos rfl ?_)
    rw [w64 (by omega) (by omega)]
    exact Ev.now _
  refine Ev.congr (fun k => ?_) go
  unfold spec_reader_escape.f
  rw [here_f s i h0, hr_lt h1]
  rcases h with h | h | h | h | h | h | h | h <;> simp [h]
theorem esc_uni (s : ByteArray) (hs : (s.size : Int) ≤ 140737488351232) (i : Int) (h0 : 0 ≤ i) (h1 : i + 4 < s.size) (h : bt s i = 117) (hx : ∀ q, i + 1 ≤ q → q < i + 5 → IsHex (bt s q)) : Ev (fun k => spec_reader_escape.f k s i) (true, s, i + 5) := by
  have e := esc_hex_yes s hs 4 0 (i + 1) (by omega) (by omega) (by omega) (by omega) (fun q h2 h3 => hx q h2 (by omega))
  have go : Ev (fun k => spec_reader_escape.j0 k (hr s i) false s i) (true, s, i + 5) := by
    refine Ev.step (fun k => by rw [spec_reader_escape.j0]) (Ev.neg Bool.false_ne_true (Ev.pos (by rw [hr_lt (by omega), h]) ?_))
    rw [w64 (by omega) (by omega)]
    exact Ev.eq (by rw [show i + 1 + ((4 : Nat) : Int) = i + 5 by omega]) e
  refine Ev.congr (fun k => ?_) go
  unfold spec_reader_escape.f
  rw [here_f s i h0, hr_lt (by omega), h]
  simp
theorem strT_lt {s : ByteArray} {i j : Int} (h : StrT s i j) : i < j ∧ j ≤ s.size := by
  induction h <;> omega
theorem strT_ev (s : ByteArray) (hs : (s.size : Int) ≤ 140737488351232) {i j : Int} (h : StrT s i j) : 0 ≤ i → Ev (fun k => spec_reader_quoted.l0 k s i) (true, s, j) := by
  induction h with
  | @done i hl c =>
    intro h0
    refine Ev.step (fun k => by rw [spec_reader_quoted.l0]) (Ev.pos hl (Ev.pos h0 (Ev.pos c ?_)))
    rw [w64 (by omega) (by omega)]; exact Ev.now _
  | @char i j hl c1 c2 c3 _ ih =>
    intro h0
    refine Ev.step (fun k => by rw [spec_reader_quoted.l0]) (Ev.pos hl (Ev.pos h0 (Ev.neg c1 (Ev.neg (by omega) (Ev.neg c2 ?_)))))
    rw [w64 (by omega) (by omega)]; exact ih (by omega)
  | @esc i j hl c c2 _ ih =>
    intro h0
    have e := esc_yes s hs (i + 1) (by omega) hl c2
    refine Ev.step (fun k => by rw [spec_reader_quoted.l0]) (Ev.pos (by omega) (Ev.pos h0 (Ev.neg (by omega) (Ev.neg (by omega) (Ev.pos c ?_)))))
    rw [w64 (by omega) (by omega)]
    refine Ev.bind e (Ev.pos rfl ?_)
    have := ih (by omega)
    rwa [show i + 2 = i + 1 + 1 by omega] at this
  | @uni i j hl c c2 c3 _ ih =>
    intro h0
    have e := esc_uni s hs (i + 1) (by omega) (by omega) c2 (fun q h1 h2 => c3 q (by omega) (by omega))
    refine Ev.step (fun k => by rw [spec_reader_quoted.l0]) (Ev.pos (by omega) (Ev.pos h0 (Ev.neg (by omega) (Ev.neg (by omega) (Ev.pos c ?_)))))
    rw [w64 (by omega) (by omega)]
    refine Ev.bind e (Ev.pos rfl ?_)
    have := ih (by omega)
    rwa [show i + 6 = i + 1 + 5 by omega] at this
theorem quoted_yes (s : ByteArray) (hs : (s.size : Int) ≤ 140737488351232) {i j : Int} (h0 : 0 ≤ i) (h1 : i < s.size) (h : StrT s (i + 1) j) : Ev (fun k => spec_reader_quoted.f k s i) (true, s, j) := by
  unfold spec_reader_quoted.f
  rw [w64 (by omega) (by omega)]
  exact strT_ev s hs h (by omega)
theorem Digs.uniq {s : ByteArray} {a b c : Int} (h : Digs s a b) (h1 : a ≤ c) (h2 : c ≤ s.size) (h3 : ∀ q, a ≤ q → q < c → 48 ≤ bt s q ∧ bt s q ≤ 57) (h4 : c = s.size ∨ ¬ (48 ≤ bt s c ∧ bt s c ≤ 57)) : c = b := by
  have := h.hi; have := h.lt
  by_cases e : c < b
  · exact absurd (h.all c h1 e) (h4.resolve_left (by omega))
  · by_cases e2 : b < c
    · exact absurd (h3 b (by omega) e2) (h.stop.resolve_left (by omega))
    · omega
theorem digs_yes (s : ByteArray) (hs : (s.size : Int) ≤ 140737488351232) {a b : Int} (h0 : 0 ≤ a) (h : Digs s a b) : Ev (fun k => spec_reader_digits.f k s a) (true, s, b) := by
  have := h.hi; have := h.lt
  obtain ⟨j, e, h2, h3, h4, h5⟩ := digs_l_ev s hs a ((s.size : Int) - a).toNat a h0 (by omega) (by omega)
  obtain rfl := h.uniq h2 h3 h4 h5
  rw [decide_eq_true (show j > a by omega)] at e
  exact Ev.bd (here_f s a h0) e
theorem num_yes (s : ByteArray) (hs : (s.size : Int) ≤ 140737488351232) {i j : Int} (h0 : 0 ≤ i) (h : Num s i j) : Ev (fun k => spec_reader_number.f k s i) (true, s, j) := by
  obtain ⟨a, b, c, ha, hb, hc, hj⟩ := h.out
  have ha0 : i ≤ a := by omega
  have hb0 : a ≤ b := by rcases hb with h | h; omega; have := h.2.lt; omega
  have hc0 : b ≤ c := by rcases hc with h | h; omega; have := h.2.lt; omega
  have e2 : ∀ x, 0 ≤ x → (hr s x ≠ 43 ∧ hr s x ≠ 45 ∧ Digs s x j) ∨ ((bt s x = 43 ∨ bt s x = 45) ∧ Digs s (x + 1) j) → Ev (fun k => spec_reader_number.j2 k true s x) (true, s, j) := by
    intro x hx h
    rcases h with ⟨h1, h2, h3⟩ | ⟨h1 | h1, h3⟩
    · exact Ev.step (fun k => by rw [spec_reader_number.j2]) (Ev.pos rfl (Ev.bd (take_no hs hx (by omega) h1) (Ev.neg Bool.false_ne_true (Ev.bd (take_no hs hx (by omega) h2) (Ev.bind (digs_yes s hs hx h3) (Ev.now _))))))
    · exact Ev.step (fun k => by rw [spec_reader_number.j2]) (Ev.pos rfl (Ev.bd (take_yes hs hx (by omega) (hr_of_bt h1 (by omega) hx).2) (Ev.pos rfl (Ev.bind (digs_yes s hs (by omega) h3) (Ev.now _)))))
    · have h4 := (hr_of_bt h1 (by omega) hx).2
      exact Ev.step (fun k => by rw [spec_reader_number.j2]) (Ev.pos rfl (Ev.bd (take_no (i := x) (c := 43) hs hx (by omega) (by omega)) (Ev.neg Bool.false_ne_true (Ev.bd (take_yes hs hx (by omega) h4) (Ev.bind (digs_yes s hs (by omega) h3) (Ev.now _))))))
  have e1 : Ev (fun k => spec_reader_number.j1 k false s c) (true, s, j) := by
    rcases hj with ⟨rfl, h1, h2⟩ | ⟨h1, h2⟩
    · refine Ev.step (fun k => by rw [spec_reader_number.j1]) (Ev.neg Bool.false_ne_true (Ev.bd (take_no hs (by omega) (by omega) h1) (Ev.neg Bool.false_ne_true (Ev.bd (take_no hs (by omega) (by omega) h2) ?_))))
      exact Ev.step (fun k => by rw [spec_reader_number.j2]) (Ev.neg Bool.false_ne_true (Ev.now _))
    · have h3 := e2 (c + 1) (by omega) (by rw [show c + 1 + 1 = c + 2 by omega]; exact h2)
      rcases h1 with h1 | h1
      · exact Ev.step (fun k => by rw [spec_reader_number.j1]) (Ev.neg Bool.false_ne_true (Ev.bd (take_yes hs (by omega) (by omega) (hr_of_bt h1 (by omega) (by omega)).2) (Ev.pos rfl h3)))
      · have h4 := (hr_of_bt h1 (by omega) (by omega)).2
        exact Ev.step (fun k => by rw [spec_reader_number.j1]) (Ev.neg Bool.false_ne_true (Ev.bd (take_no (i := c) (c := 101) hs (by omega) (by omega) (by omega)) (Ev.neg Bool.false_ne_true (Ev.bd (take_yes hs (by omega) (by omega) h4) h3))))
  have e0 : Ev (fun k => spec_reader_number.j0 k false s b) (true, s, j) := by
    rcases hc with ⟨rfl, h1⟩ | ⟨h1, h2⟩
    · exact Ev.step (fun k => by rw [spec_reader_number.j0]) (Ev.neg Bool.false_ne_true (Ev.bd (take_no hs (by omega) (by omega) h1) (Ev.neg Bool.false_ne_true e1)))
    · exact Ev.step (fun k => by rw [spec_reader_number.j0]) (Ev.neg Bool.false_ne_true (Ev.bd (take_yes hs (by omega) (by omega) (hr_of_bt h1 (by omega) (by omega)).2) (Ev.pos rfl (Ev.bind (digs_yes s hs (by omega) h2) e1))))
  have main : Ev (fun k => (spec_reader_take.f s a 48).bind fun bt122 => (if bt122.1 = true then (spec_reader_number.j0 k false bt122.2.1 bt122.2.2) else ((spec_reader_digits.f k bt122.2.1 bt122.2.2).bind fun bt125 => (spec_reader_number.j0 k (!bt125.1) bt125.2.1 bt125.2.2)))) (true, s, j) := by
    rcases hb with ⟨h1, h2, rfl⟩ | ⟨h1, h2⟩
    · exact Ev.bd (take_yes hs (by omega) (by omega) (by rw [hr_lt h1]; exact h2)) (Ev.pos rfl e0)
    · exact Ev.bd (take_no hs (by omega) (by omega) h1) (Ev.neg Bool.false_ne_true (Ev.bind (digs_yes s hs (show 0 ≤ a by omega) h2) e0))
  unfold spec_reader_number.f
  rcases ha with ⟨rfl, h1⟩ | ⟨h1, rfl⟩
  · exact Ev.bd (take_no hs h0 (by omega) h1) main
  · exact Ev.bd (take_yes hs h0 (by omega) (hr_of_bt h1 (by omega) h0).2) main
end Go.Proofs.YtdhiihegfdmokaaDoor.JFnFjCheckObject
