/- The reference's reading of a string's characters comes to its end; no condition beside those that each theorem states. -/
import Derived.Test.YtmneeighbkcadaaDoorJCFnJpLength
namespace Go.Proofs.YtmneeighbkcadaaDoor.JFnJpLength
open Go.RowKit Go.Proofs.YtmneeighbkcadaaDoor.PFnJpLength Go.Proofs.YtmneeighbkcadaaDoorW.PrintWords Go.Proofs.YtmneeighbkcadaaDoorW.PrintLast Go.Proofs.YtmneeighbkcadaaDoorW.PrintMore

/-- A byte of a piece. -/
theorem bt_x (s : ByteArray) (a b : Nat) (q : Int) (h0 : 0 ≤ q) (h : a + q < b) (hb : b ≤ s.size) : bt (s.extract a b) q = bt s (a + q) := by
  unfold bt
  have h1 : q.toNat < (s.extract a b).size := by rw [ByteArray.size_extract]; omega
  have h2 : ((a : Int) + q).toNat < s.size := by omega
  rw [dif_pos h1, dif_pos h2, ByteArray.getElem_extract]
  congr 3
  omega
/-! ### the number of an escape -/
theorem unit_l (t : ByteArray) (ht : (t.size : Int) ≤ 140737488351232) (p : Int) (h0 : 0 ≤ p) (h6 : p + 6 ≤ t.size) (d : Nat) : ∀ m v : Int, p + 2 ≤ m → m ≤ p + 6 → p + 6 - m = d →
    ∃ v2 b, Ev (fun k => u_.l0 k t p v m) (v2, b) ∧ (b = true ↔ ∀ q, m ≤ q → q < p + 6 → IsHex (bt t q)) := by
  induction d with
  | zero =>
    intro m v h1 h2 hd
    refine ⟨v, true, Ev.step (fun k => by rw [u_.l0]) (Ev.neg ?_ (Ev.now _)), ?_⟩
    · rw [w64 (by omega) (by omega)]; omega
    · exact ⟨fun _ q h3 h4 => by omega, fun _ => rfl⟩
  | succ d ih =>
    intro m v h1 h2 hd
    have hw : wrap64 (p + 6) = p + 6 := w64 (by omega) (by omega)
    have hw1 : wrap64 (m + 1) = m + 1 := w64 (by omega) (by omega)
    obtain ⟨hv, hb, he, hi⟩ := hex_ev (bt t m)
    cases hb with
    | false =>
      refine ⟨0, false, Ev.step (fun k => by rw [u_.l0]) (Ev.pos (by rw [hw]; omega) (Ev.pos (by omega) (Ev.pos (by omega) ?_))), ?_⟩
      · refine Ev.bind he ?_
        exact Ev.neg Bool.false_ne_true (Ev.now _)
      · refine ⟨fun h => by (cases h), fun h => ?_⟩
        exact hi.2 (h m (Int.le_refl _) (by omega))
    | true =>
      obtain ⟨v2, b, e2, h3⟩ := ih (m + 1) (wrap64 ((wrap64 (v * 16)) + hv)) (by omega) (by omega) (by omega)
      refine ⟨v2, b, Ev.step (fun k => by rw [u_.l0]) (Ev.pos (by rw [hw]; omega) (Ev.pos (by omega) (Ev.pos (by omega) ?_))), ?_⟩
      · refine Ev.bind he ?_
        refine Ev.pos rfl ?_
        rw [hw1]
        exact e2
      · rw [h3]
        refine ⟨fun h q h4 h5 => ?_, fun h q h4 h5 => h q (by omega) h5⟩
        by_cases c : q = m
        · exact c ▸ hi.1 rfl
        · exact h q (by omega) h5
theorem unit_ev (t : ByteArray) (ht : (t.size : Int) ≤ 140737488351232) (p : Int) (h0 : 0 ≤ p) (h1 : p ≤ t.size) :
    ∃ v b, Ev (fun k => u_.f k t p) (v, b) ∧ (b = true ↔ p + 6 ≤ t.size ∧ bt t p = 92 ∧ bt t (p + 1) = 117 ∧ ∀ q, p + 2 ≤ q → q < p + 6 → IsHex (bt t q)) := by
  unfold u_.f
  rw [w64 (x := (t.size : Int) - p) (by omega) (by omega), w64 (x := p + 1) (by omega) (by omega)]
  have no : Ev (fun k => u_.j0 k t p true) (0, false) := Ev.step (fun k => by rw [u_.j0]) (Ev.pos rfl (Ev.now _))
  by_cases c1 : (t.size : Int) - p < 6
  · exact ⟨0, false, Ev.pos c1 no, ⟨fun h => by (cases h), fun h => by omega⟩⟩
  by_cases c2 : bt t p = 92
  · by_cases c3 : bt t (p + 1) = 117
    · obtain ⟨v, b, e, h⟩ := unit_l t ht p h0 (by omega) 4 (p + 2) 0 (by omega) (by omega) (by omega)
      refine ⟨v, b, Ev.neg c1 (Ev.pos h0 (Ev.pos (by omega) (Ev.pos c2 (Ev.pos (by omega) (Ev.pos (by omega) ?_))))), ?_⟩
      · rw [show (bt t (p + 1) != 117) = false by simp [c3]]
        refine Ev.step (fun k => by rw [u_.j0]) (Ev.neg Bool.false_ne_true ?_)
        rw [w64 (x := p + 2) (by omega) (by omega)]
        exact e
      · rw [h]
        exact ⟨fun h => ⟨by omega, c2, c3, h⟩, fun h => h.2.2.2⟩
    · refine ⟨0, false, Ev.neg c1 (Ev.pos h0 (Ev.pos (by omega) (Ev.pos c2 (Ev.pos (by omega) (Ev.pos (by omega) ?_))))), ⟨fun h => by (cases h), fun h => absurd h.2.2.1 c3⟩⟩
      rw [show (bt t (p + 1) != 117) = true by simp [c3]]
      exact no
  · exact ⟨0, false, Ev.neg c1 (Ev.pos h0 (Ev.pos (by omega) (Ev.neg c2 no))), ⟨fun h => by (cases h), fun h => absurd h.2.1 c2⟩⟩
theorem high_t (v : Int) : ∃ b, hig_.f v = some b := by unfold hig_.f; split <;> exact ⟨_, rfl⟩
theorem low_t (v : Int) : ∃ b, spec_low.f v = some b := by unfold spec_low.f; split <;> exact ⟨_, rfl⟩
theorem short_t (v : Int) : ∃ b, s_.f v = some b := by unfold s_.f; (repeat' split) <;> exact ⟨_, rfl⟩
/-- A character is written in four bytes at the most. -/
theorem utf_ev (xs : List Int) (hx : (xs.length : Int) ≤ 140737488351232) (v : Int) : ∃ ys, Ev (fun k => aUTF_.f k xs v) ys ∧ ys.length ≤ xs.length + 4 := by
  have put : ∀ l : List Int, l.length ≤ 4 → Ev (fun _ => (some (l : List Int)).bind fun y => if xs.length + y.length < 140737488355328 then some (xs ++ y) else none) (xs ++ l) := fun l hl =>
    Ev.bd rfl (Ev.pos (by omega) (Ev.now _))
  have two : ∀ b, ∃ ys, Ev (fun k => aUTF_.j0 k xs v b) ys ∧ ys.length ≤ xs.length + 4 := by
    intro b
    cases b with
    | true => exact ⟨_, Ev.step (fun k => by rw [aUTF_.j0]) (Ev.pos rfl (put _ (by decide))), by simp⟩
    | false =>
      by_cases c : v < 65536
      · exact ⟨_, Ev.step (fun k => by rw [aUTF_.j0]) (Ev.neg Bool.false_ne_true (Ev.pos c (put _ (by simp)))), by simp⟩
      · exact ⟨_, Ev.step (fun k => by rw [aUTF_.j0]) (Ev.neg Bool.false_ne_true (Ev.neg c (put _ (by simp)))), by simp⟩
  unfold aUTF_.f
  by_cases c1 : v < 128
  · exact ⟨_, Ev.pos c1 (Ev.pos (by omega) (Ev.now _)), by simp⟩
  by_cases c2 : v < 2048
  · exact ⟨_, Ev.neg c1 (Ev.pos c2 (put _ (by simp))), by simp⟩
  obtain ⟨b1, h1⟩ := high_t v
  cases b1 with
  | true =>
    obtain ⟨ys, e, hl⟩ := two true
    exact ⟨ys, Ev.neg c1 (Ev.neg c2 (Ev.bd h1 (Ev.pos rfl e))), hl⟩
  | false =>
    obtain ⟨b2, h2⟩ := low_t v
    obtain ⟨ys, e, hl⟩ := two b2
    exact ⟨ys, Ev.neg c1 (Ev.neg c2 (Ev.bd h1 (Ev.neg Bool.false_ne_true (Ev.bd h2 e)))), hl⟩
/-! ### the characters of a string -/
theorem unq_l (s t : ByteArray) (ht : (t.size : Int) ≤ 140737488351000) (i j : Int) (hb : ∀ q : Int, 0 ≤ q → q < t.size → bt t q = bt s (i + 1 + q)) (hj : j = i + t.size + 2) (d : Nat) :
    ∀ (xs : List Int) (p : Int), 0 ≤ p → p ≤ t.size → (t.size : Int) - p ≤ d → StrT s (i + 1 + p) j → (xs.length : Int) ≤ p → ∃ r, Ev (fun k => Unq_.l0 k xs t p) r := by
  induction d with
  | zero =>
    intro xs p h0 h1 hd _ _
    exact ⟨_, Ev.step (fun k => by rw [Unq_.l0]) (Ev.neg (by omega) (Ev.now _))⟩
  | succ d ih =>
    intro xs p h0 h1 hd hs hx
    by_cases hl : p < (t.size : Int)
    · have w1 : wrap64 (p + 1) = p + 1 := w64 (by omega) (by omega)
      have w2 : wrap64 (p + 2) = p + 2 := w64 (by omega) (by omega)
      have w6 : wrap64 (p + 6) = p + 6 := w64 (by omega) (by omega)
      have w12 : wrap64 (p + 6 + 6) = p + 12 := by rw [w64 (by omega) (by omega)]; omega
      by_cases c : bt t p = 92
      · have c0 : bt s (i + 1 + p) = 92 := by rw [← hb p h0 hl]; exact c
        obtain ⟨v, b, eu, hu⟩ := unit_ev t (by omega) p h0 h1
        cases hs with
        | done _ h34 => omega
        | char _ _ h92 _ _ => exact absurd c0 h92
        | esc h3 _ h4 hr =>
          have hr' := hr.lt
          have hf : b = false := by
            cases b with
            | false => rfl
            | true =>
              have := (hu.1 rfl).2.2.1
              rw [hb (p + 1) (by omega) (by omega), show i + 1 + (p + 1) = i + 1 + p + 1 by omega] at this
              rw [this] at h4
              unfold IsEsc at h4
              omega
          subst hf
          obtain ⟨c2, h2⟩ := short_t (bt t (wrap64 (p + 1)))
          obtain ⟨r, e⟩ := ih (xs ++ [c2]) (p + 2) (by omega) (by omega) (by omega) (by rwa [show i + 1 + (p + 2) = i + 1 + p + 2 by omega]) (by simp; omega)
          refine ⟨r, Ev.step (fun k => by rw [Unq_.l0]) (Ev.pos hl (Ev.pos h0 (Ev.pos c ?_)))⟩
          refine Ev.bind eu ?_
          refine Ev.neg Bool.false_ne_true (Ev.pos (by omega) (Ev.pos (by omega) (Ev.bd h2 (Ev.pos (by omega) ?_))))
          rw [w2]
          exact e
        | uni h3 _ h4 h5 hr =>
          have hr' := hr.lt
          have ht' : b = true := hu.2 ⟨by omega, c, by rw [hb (p + 1) (by omega) (by omega), show i + 1 + (p + 1) = i + 1 + p + 1 by omega]; exact h4, fun q h6 h7 => by
            rw [hb q (by omega) (by omega)]
            exact h5 (i + 1 + q) (by omega) (by omega)⟩
          subst ht'
          have one : ∀ v : Int, ∃ r ys, Ev (fun k => aUTF_.f k xs v) ys ∧ Ev (fun k => Unq_.l0 k ys t (wrap64 (p + 6))) r := by
            intro v
            obtain ⟨ys, ey, hy⟩ := utf_ev xs (by omega) v
            obtain ⟨r, e⟩ := ih ys (p + 6) (by omega) (by omega) (by omega) (by rwa [show i + 1 + (p + 6) = i + 1 + p + 6 by omega]) (by omega)
            exact ⟨r, ys, ey, by rw [w6]; exact e⟩
          have ent : ∀ {r : ByteArray}, Ev (fun k => (u_.f k t (wrap64 (p + 6))).bind fun bt336 => (if bt336.2 = true then ((hig_.f v).bind fun t338 => (if t338 = true then ((spec_low.f bt336.1).bind fun t339 => (if t339 = true then ((aUTF_.f k xs (wrap64 ((wrap64 (65536 + (wrap64 ((wrap64 (v - 55296)) * 1024)))) + (wrap64 (bt336.1 - 56320))))).bind fun t340 => (Unq_.l0 k t340 t (wrap64 ((wrap64 (p + 6)) + 6)))) else ((aUTF_.f k xs v).bind fun t343 => (Unq_.l0 k t343 t (wrap64 (p + 6)))))) else ((aUTF_.f k xs v).bind fun t346 => (Unq_.l0 k t346 t (wrap64 (p + 6)))))) else ((aUTF_.f k xs v).bind fun t349 => (Unq_.l0 k t349 t (wrap64 (p + 6)))))) r → ∃ r, Ev (fun k => Unq_.l0 k xs t p) r := by
            intro r e
            refine ⟨r, Ev.step (fun k => by rw [Unq_.l0]) (Ev.pos hl (Ev.pos h0 (Ev.pos c ?_)))⟩
            refine Ev.bind eu ?_
            exact Ev.pos rfl e
          obtain ⟨v2, b2, eu2, hu2⟩ := unit_ev t (by omega) (p + 6) (by omega) (by omega)
          obtain ⟨r1, ys1, ey1, e1⟩ := one v
          rw [← w6] at eu2
          cases b2 with
          | false => exact ent (Ev.bind eu2 (Ev.neg Bool.false_ne_true (Ev.bind ey1 e1)))
          | true =>
            obtain ⟨b3, h8⟩ := high_t v
            cases b3 with
            | false => exact ent (Ev.bind eu2 (Ev.pos rfl (Ev.bd h8 (Ev.neg Bool.false_ne_true (Ev.bind ey1 e1)))))
            | true =>
              obtain ⟨b4, h9⟩ := low_t v2
              cases b4 with
              | false => exact ent (Ev.bind eu2 (Ev.pos rfl (Ev.bd h8 (Ev.pos rfl (Ev.bd h9 (Ev.neg Bool.false_ne_true (Ev.bind ey1 e1)))))))
              | true =>
                obtain ⟨k1, k2, k3, k4⟩ := hu2.1 rfl
                have d1 : bt s (i + 1 + p + 6) = 92 := by rw [show i + 1 + p + 6 = i + 1 + (p + 6) by omega, ← hb (p + 6) (by omega) (by omega)]; exact k2
                have d2 : bt s (i + 1 + p + 6 + 1) = 117 := by rw [show i + 1 + p + 6 + 1 = i + 1 + (p + 6 + 1) by omega, ← hb (p + 6 + 1) (by omega) (by omega)]; exact k3
                obtain ⟨ys, ey, hy⟩ := utf_ev xs (by omega) (wrap64 ((wrap64 (65536 + (wrap64 ((wrap64 (v - 55296)) * 1024)))) + (wrap64 (v2 - 56320))))
                have hs2 : StrT s (i + 1 + (p + 12)) j := by
                  cases hr with
                  | done _ h34 => omega
                  | char _ _ h92 _ _ => exact absurd d1 h92
                  | esc _ _ h10 _ => rw [d2] at h10; unfold IsEsc at h10; omega
                  | uni _ _ _ _ hr2 => rwa [show i + 1 + (p + 12) = i + 1 + p + 6 + 6 by omega]
                obtain ⟨r, e⟩ := ih ys (p + 12) (by omega) (by omega) (by omega) hs2 (by omega)
                refine ent (r := r) (Ev.bind eu2 (Ev.pos rfl (Ev.bd h8 (Ev.pos rfl (Ev.bd h9 (Ev.pos rfl (Ev.bind ey ?_)))))))
                rw [w6, w12]
                exact e
      · have c0 : bt s (i + 1 + p) ≠ 92 := by rw [← hb p h0 hl]; exact c
        have hr : StrT s (i + 1 + (p + 1)) j := by
          cases hs with
          | done _ h34 => omega
          | char _ _ _ _ hr => rwa [show i + 1 + (p + 1) = i + 1 + p + 1 by omega]
          | esc _ h _ _ => exact absurd h c0
          | uni _ h _ _ _ => exact absurd h c0
        obtain ⟨r, e⟩ := ih (xs ++ [bt t p]) (p + 1) (by omega) (by omega) (by omega) hr (by simp; omega)
        refine ⟨r, Ev.step (fun k => by rw [Unq_.l0]) (Ev.pos hl (Ev.pos h0 (Ev.neg c (Ev.pos (by omega) ?_))))⟩
        rw [w1]
        exact e
    · exact ⟨_, Ev.step (fun k => by rw [Unq_.l0]) (Ev.neg hl (Ev.now _))⟩
/-- Of every string of a JSON text the characters are read. -/
theorem unq_ev (s : ByteArray) (hs : (s.size : Int) ≤ 2147483647) (i j : Int) (h0 : 0 ≤ i) (h : StrT s (i + 1) j) : ∃ r, Ev (fun k => Unq_.f k (s.extract i.toNat j.toNat)) r := by
  have h1 := h.lt
  have h2 := h.hi
  have hz : ((s.extract i.toNat j.toNat).size : Int) = j - i := by rw [ByteArray.size_extract]; omega
  have hw : wrap64 (((s.extract i.toNat j.toNat).size : Int) - 1) = j - i - 1 := by rw [w64 (by omega) (by omega)]; omega
  have hn : ((((s.extract i.toNat j.toNat).extract 1 (j - i - 1).toNat).size : Nat) : Int) = j - i - 2 := by rw [ByteArray.size_extract]; omega
  obtain ⟨r, e⟩ := unq_l s ((s.extract i.toNat j.toNat).extract 1 (j - i - 1).toNat) (by omega) i j (fun q h3 h4 => by
    rw [bt_x _ _ _ q h3 (by omega) (by omega), bt_x _ _ _ _ (by omega) (by omega) (by omega)]
    congr 1
    omega) (by omega) (s.size + 1) [] 0 (by omega) (by omega) (by omega) (by rwa [show i + 1 + 0 = i + 1 by omega]) (by simp)
  refine ⟨r, ?_⟩
  unfold Unq_.f
  rw [hw]
  exact Ev.pos (by omega) (Ev.pos (by omega) e)
end Go.Proofs.YtmneeighbkcadaaDoor.JFnJpLength
