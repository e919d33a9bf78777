/- Of an array, an object or a string that is a JSON text, with anything behind it, gjson's squash is the text of that value; conditions: none beside the statement's own. -/
import Derived.Test.YtnmbpleneddkhaaJDFnGjSquash
namespace Go.Proofs.Ytnmbpleneddkhaa.Pure
open Go.RowKit Go.Proofs.Ytnmbpleneddkhaa.PFnGjSquash Go.Proofs.Ytnmbpleneddkhaa.JFnGjSquash Go.Proofs.YtnmbpleneddkhaaW.PrintWords Go.Proofs.YtnmbpleneddkhaaW.PrintLast Go.Proofs.YtnmbpleneddkhaaW.PrintMore

/-- From place i at depth x the squash comes to place j at depth y. -/
def Goes (t : ByteArray) (i x j y : Int) : Prop := ∀ r, Ev (fun k => gjson_squash.l0 k t j y) r → Ev (fun k => gjson_squash.l0 k t i x) r
theorem Goes.rfl' {t : ByteArray} {i x : Int} : Goes t i x i x := fun _ h => h
theorem Goes.trans {t : ByteArray} {i x j y l z : Int} (h : Goes t i x j y) (h2 : Goes t j y l z) : Goes t i x l z := fun r e => h r (h2 r e)
def Special (c : Int) : Prop := c = 34 ∨ c = 123 ∨ c = 91 ∨ c = 40 ∨ c = 125 ∨ c = 93 ∨ c = 41
set_option linter.unusedSectionVars false
section
variable {t : ByteArray} (hs : (t.size : Int) ≤ 100000)
include hs
theorem j7_no {i x : Int} {r : ByteArray} (h0 : 0 ≤ i) (hi : i < t.size) (e : Ev (fun k => gjson_squash.l0 k t (i + 1) x) r) : Ev (fun k => gjson_squash.j7 k t i x false) r := by
  refine Ev.step (fun k => by rw [gjson_squash.j7]) (Ev.neg Bool.false_ne_true ?_)
  rw [w64 (by omega) (by omega)]; exact e
theorem j6_no {i x c : Int} {r : ByteArray} (h0 : 0 ≤ i) (hi : i < t.size) (hc : ¬ Special c) (e : Ev (fun k => gjson_squash.l0 k t (i + 1) x) r) : Ev (fun k => gjson_squash.j6 k t i x c false) r := by
  unfold Special at hc
  refine Ev.step (fun k => by rw [gjson_squash.j6]) (Ev.neg Bool.false_ne_true (Ev.neg (by omega) (Ev.neg (by omega) ?_)))
  have : (c == 41) = false := by simp; omega
  rw [this]
  exact j7_no hs h0 hi e
theorem goes_plain {i x : Int} (h0 : 0 ≤ i) (hi : i < t.size) (hc : ¬ Special (bt t i)) : Goes t i x (i + 1) x := by
  intro r e
  have hc2 := hc
  unfold Special at hc2
  have fall : Ev (fun k => gjson_squash.j2 k t i x false) r := by
    refine Ev.step (fun k => by rw [gjson_squash.j2]) (Ev.neg Bool.false_ne_true ?_)
    rw [w64 (by omega) (by omega)]; exact e
  by_cases c1 : bt t i ≥ 34
  · refine Ev.step (fun k => by rw [gjson_squash.l0]) (Ev.pos hi (Ev.pos h0 (Ev.pos c1 ?_)))
    by_cases c2 : bt t i ≤ 125
    · rw [decide_eq_true c2]
      refine Ev.step (fun k => by rw [gjson_squash.j2]) (Ev.pos rfl (Ev.pos h0 (Ev.pos hi (Ev.neg (by omega) (Ev.neg (by omega) (Ev.neg (by omega) ?_))))))
      have : (bt t i == 40) = false := by simp; omega
      rw [this]
      exact j6_no hs h0 hi hc e
    · rw [decide_eq_false c2]; exact fall
  · exact Ev.step (fun k => by rw [gjson_squash.l0]) (Ev.pos hi (Ev.pos h0 (Ev.neg c1 fall)))
theorem goes_open {i x : Int} (h0 : 0 ≤ i) (hi : i < t.size) (hx0 : -1000000 ≤ x) (hx : x ≤ 1000000) (hc : bt t i = 123 ∨ bt t i = 91) : Goes t i x (i + 1) (x + 1) := by
  intro r e
  have fall : ∀ c, Ev (fun k => gjson_squash.j6 k t i x c true) r := by
    intro c
    refine Ev.step (fun k => by rw [gjson_squash.j6]) (Ev.pos rfl ?_)
    rw [w64 (by omega) (by omega), w64 (by omega) (by omega)]; exact e
  refine Ev.step (fun k => by rw [gjson_squash.l0]) (Ev.pos hi (Ev.pos h0 (Ev.pos (by omega) ?_)))
  rw [decide_eq_true (show bt t i ≤ 125 by omega)]
  rcases hc with hc | hc
  · refine Ev.step (fun k => by rw [gjson_squash.j2]) (Ev.pos rfl (Ev.pos h0 (Ev.pos hi (Ev.neg (by omega) (Ev.pos hc ?_)))))
    rw [hc]; exact fall _
  · refine Ev.step (fun k => by rw [gjson_squash.j2]) (Ev.pos rfl (Ev.pos h0 (Ev.pos hi (Ev.neg (by omega) (Ev.neg (by omega) (Ev.pos hc ?_))))))
    rw [hc]; exact fall _
theorem close_ev {i x : Int} {r : ByteArray} (h0 : 0 ≤ i) (hi : i < t.size) (hc : bt t i = 125 ∨ bt t i = 93) (e : Ev (fun k => gjson_squash.j7 k t i x true) r) : Ev (fun k => gjson_squash.l0 k t i x) r := by
  refine Ev.step (fun k => by rw [gjson_squash.l0]) (Ev.pos hi (Ev.pos h0 (Ev.pos (by omega) ?_)))
  rw [decide_eq_true (show bt t i ≤ 125 by omega)]
  refine Ev.step (fun k => by rw [gjson_squash.j2]) (Ev.pos rfl (Ev.pos h0 (Ev.pos hi (Ev.neg (by omega) (Ev.neg (by omega) (Ev.neg (by omega) ?_))))))
  have : (bt t i == 40) = false := by simp; omega
  rw [this]
  rcases hc with hc | hc
  · refine Ev.step (fun k => by rw [gjson_squash.j6]) (Ev.neg Bool.false_ne_true (Ev.pos hc ?_))
    rw [hc]; exact e
  · refine Ev.step (fun k => by rw [gjson_squash.j6]) (Ev.neg Bool.false_ne_true (Ev.neg (by omega) (Ev.pos hc ?_)))
    rw [hc]; exact e
theorem goes_close {i x : Int} (h0 : 0 ≤ i) (hi : i < t.size) (hx : 2 ≤ x ∧ x ≤ 1000000) (hc : bt t i = 125 ∨ bt t i = 93) : Goes t i x (i + 1) (x - 1) := by
  intro r e
  refine close_ev hs h0 hi hc ?_
  have hw : wrap64 (x - 1) = x - 1 := w64 (by omega) (by omega)
  refine Ev.step (fun k => by rw [gjson_squash.j7]) (Ev.pos rfl ?_)
  rw [hw]
  refine Ev.neg (by omega) ?_
  rw [w64 (by omega) (by omega)]; exact e
theorem close_last {i : Int} (h0 : 0 ≤ i) (hi : i < t.size) (hc : bt t i = 125 ∨ bt t i = 93) : Ev (fun k => gjson_squash.l0 k t i 1) (t.extract 0 (i + 1).toNat) := by
  refine close_ev hs h0 hi hc ?_
  have hz : wrap64 (1 - 1) = 0 := by unfold wrap64; omega
  refine Ev.step (fun k => by rw [gjson_squash.j7]) ?_
  refine Ev.pos rfl (Ev.pos hz ?_)
  rw [w64 (by omega) (by omega)]
  exact Ev.pos (by omega) (Ev.pos (by omega) (Ev.now _))

/-! ### strings -/
/-- n backslashes stand right ahead of p, and no more of them from s0 on. -/
structure Bs (t : ByteArray) (s0 p n : Int) : Prop where
  n0 : 0 ≤ n
  lo : s0 ≤ p - n
  all : ∀ q, p - n ≤ q → q < p → bt t q = 92
  stop : p - n = s0 ∨ bt t (p - n - 1) ≠ 92
theorem l2_ev {i x s0 : Int} (h1 : 1 ≤ s0) (hi : i < t.size) (d : Nat) : ∀ (m q n : Int) (r : ByteArray), 0 ≤ m → m + n ≤ 1000000 → n = d → q < i → Bs t s0 (q + 1) n → s0 - 1 ≤ q →
    (Int.tmod (m + n) 2 = 0 → Ev (fun k => gjson_squash.l1 k t (wrap64 (i + 1)) x s0) r) → (¬ Int.tmod (m + n) 2 = 0 → Ev (fun k => gjson_squash.j5 k t i x) r) → Ev (fun k => gjson_squash.l2 k t i x s0 m q) r := by
  induction d with
  | zero =>
    intro m q n r hm hmn hn hq hb hq2 ea eb
    obtain rfl : n = 0 := by omega
    rw [show m + 0 = m by omega] at ea eb
    have e : Ev (fun k => if Int.tmod m 2 = 0 then gjson_squash.l1 k t (wrap64 (i + 1)) x s0 else gjson_squash.j5 k t i x) r := by
      by_cases c : Int.tmod m 2 = 0
      · exact Ev.pos c (ea c)
      · exact Ev.neg c (eb c)
    have hw : wrap64 (s0 - 1) = s0 - 1 := w64 (by omega) (by omega)
    refine Ev.step (fun k => by rw [gjson_squash.l2]) ?_
    rw [hw]
    have st := hb.stop
    by_cases c : q > s0 - 1
    · have : bt t q ≠ 92 := by
        rcases st with st | st
        · omega
        · rwa [show q + 1 - 0 - 1 = q by omega] at st
      exact Ev.pos c (Ev.pos (by omega) (Ev.pos (by omega) (Ev.neg this e)))
    · exact Ev.neg c e
  | succ d ih =>
    intro m q n r hm hmn hn hq hb hq2 ea eb
    have hw : wrap64 (s0 - 1) = s0 - 1 := w64 (by omega) (by omega)
    have lo := hb.lo
    refine Ev.step (fun k => by rw [gjson_squash.l2]) ?_
    rw [hw]
    refine Ev.pos (by omega) (Ev.pos (by omega) (Ev.pos (by omega) (Ev.pos (hb.all q (by omega) (by omega)) ?_)))
    rw [w64 (by omega) (by omega), w64 (by omega) (by omega)]
    refine ih (m + 1) (q - 1) (n - 1) r (by omega) (by omega) (by omega) (by omega) ⟨by omega, by omega, fun q2 h2 h3 => hb.all q2 (by omega) (by omega), ?_⟩ (by omega) ?_ ?_
    · have := hb.stop
      rwa [show q - 1 + 1 - (n - 1) = q + 1 - n by omega]
    · rwa [show m + 1 + (n - 1) = m + n by omega]
    · rwa [show m + 1 + (n - 1) = m + n by omega]
theorem l1_plain {i x s0 : Int} {r : ByteArray} (h0 : 0 ≤ i) (hi : i < t.size) (hc : bt t i ≠ 34) (e : Ev (fun k => gjson_squash.l1 k t (i + 1) x s0) r) : Ev (fun k => gjson_squash.l1 k t i x s0) r := by
  have hw : wrap64 (i + 1) = i + 1 := w64 (by omega) (by omega)
  by_cases c : bt t i > 92
  · exact Ev.step (fun k => by rw [gjson_squash.l1]) (Ev.pos hi (Ev.pos h0 (Ev.pos c (by rw [hw]; exact e))))
  · exact Ev.step (fun k => by rw [gjson_squash.l1]) (Ev.pos hi (Ev.pos h0 (Ev.neg c (Ev.neg hc (by rw [hw]; exact e)))))
theorem l1_quote {i x s0 n : Int} {r : ByteArray} (h1 : 1 ≤ s0) (hs1 : s0 ≤ i) (hi : i < t.size) (hc : bt t i = 34) (hq : bt t (s0 - 1) = 34) (hb : Bs t s0 i n)
    (ea : n % 2 = 1 → Ev (fun k => gjson_squash.l1 k t (i + 1) x s0) r) (eb : ¬ n % 2 = 1 → Ev (fun k => gjson_squash.j5 k t i x) r) : Ev (fun k => gjson_squash.l1 k t i x s0) r := by
  have hw : wrap64 (i + 1) = i + 1 := w64 (by omega) (by omega)
  have n0 := hb.n0
  have lo := hb.lo
  refine Ev.step (fun k => by rw [gjson_squash.l1]) (Ev.pos hi (Ev.pos (by omega) (Ev.neg (by omega) (Ev.pos hc ?_))))
  rw [w64 (x := i - 1) (by omega) (by omega), w64 (x := i - 2) (by omega) (by omega)]
  refine Ev.pos (by omega) (Ev.pos (by omega) ?_)
  by_cases c : bt t (i - 1) = 92
  · have hn : 1 ≤ n := by
      by_cases hz : n = 0
      · exfalso
        rcases hb.stop with st | st
        · have : i - 1 = s0 - 1 := by omega
          rw [this] at c; omega
        · apply st; rwa [show i - n - 1 = i - 1 by omega]
      · omega
    refine Ev.pos c (l2_ev hs h1 hi (n - 1).toNat 0 (i - 2) (n - 1) r (by omega) (by omega) (by omega) (by omega) ⟨by omega, by omega, fun q h2 h3 => hb.all q (by omega) (by omega), ?_⟩ (by omega) ?_ ?_)
    · have := hb.stop
      rwa [show i - 2 + 1 - (n - 1) = i - n by omega]
    · have hm : Int.tmod (0 + (n - 1)) 2 = (n - 1) % 2 := by rw [Int.tmod_eq_emod_of_nonneg (by omega)]; congr 1; omega
      rw [hm, hw]
      exact fun h => ea (by omega)
    · have hm : Int.tmod (0 + (n - 1)) 2 = (n - 1) % 2 := by rw [Int.tmod_eq_emod_of_nonneg (by omega)]; congr 1; omega
      rw [hm]
      exact fun h => eb (by omega)
  · have hn : n = 0 := by
      by_cases hz : n = 0
      · exact hz
      · exact absurd (hb.all (i - 1) (by omega) (by omega)) c
    subst hn
    exact Ev.neg c (eb (by omega))
theorem Bs.zero {s0 p : Int} (h : s0 ≤ p) (hp : p = s0 ∨ bt t (p - 1) ≠ 92) : Bs t s0 p 0 :=
  ⟨by omega, by omega, fun q _ _ => by omega, by rcases hp with hp | hp; exact .inl (by omega); exact .inr (by rwa [show p - 0 - 1 = p - 1 by omega])⟩
/-- Inside of a string, from a place that no backslash takes, to its end. -/
theorem str_l1 (s : ByteArray) (b : Int) {p j : Int} (h : StrT s p j) : ∀ {s0 x n : Int} {r : ByteArray}, (∀ q, b ≤ q → q < j → q - b < t.size ∧ bt t (q - b) = bt s q) → b + 1 ≤ p → 1 ≤ s0 → s0 ≤ p - b → bt t (s0 - 1) = 34 → Bs t s0 (p - b) n → n % 2 = 0 →
    Ev (fun k => gjson_squash.j5 k t (j - 1 - b) x) r → Ev (fun k => gjson_squash.l1 k t (p - b) x s0) r := by
  induction h with
  | @done i h c =>
    intro s0 x n r hm hp h1 h2 h3 hbs hn e
    have := hm i (by omega) (by omega)
    refine l1_quote hs h1 h2 this.1 (by rw [this.2]; exact c) h3 hbs (fun h => by omega) (fun _ => ?_)
    rwa [show i + 1 - 1 - b = i - b by omega] at e
  | @char i j h c1 c2 c3 t' ih =>
    intro s0 x n r hm hp h1 h2 h3 hbs hn e
    have lt := t'.lt
    have := hm i (by omega) (by omega)
    refine l1_plain hs (by omega) this.1 (by rw [this.2]; exact c1) ?_
    rw [show i - b + 1 = i + 1 - b by omega]
    exact ih (n := 0) hm (by omega) h1 (by omega) h3 (Bs.zero hs (by omega) (.inr (by rw [show i + 1 - b - 1 = i - b by omega, this.2]; exact c2))) (by omega) e
  | @esc i j h c c2 t' ih =>
    intro s0 x n r hm hp h1 h2 h3 hbs hn e
    have lt := t'.lt
    have z0 := hm i (by omega) (by omega)
    have z1 := hm (i + 1) (by omega) (by omega)
    have e1 : i - b + 1 = i + 1 - b := by omega
    have e2 : i + 1 - b + 1 = i + 2 - b := by omega
    refine l1_plain hs (by omega) z0.1 (by rw [z0.2]; omega) ?_
    rw [e1]
    have bs1 : Bs t s0 (i + 1 - b) (n + 1) := ⟨by have := hbs.n0; omega, by have := hbs.lo; omega, fun q h4 h5 => by
      by_cases hq : q = i - b
      · rw [hq, z0.2]; exact c
      · exact hbs.all q (by omega) (by omega), by have := hbs.stop; rwa [show i + 1 - b - (n + 1) = i - b - n by omega]⟩
    by_cases c3 : bt s (i + 1) = 34
    · refine l1_quote hs h1 (by omega) z1.1 (by rw [z1.2]; exact c3) h3 bs1 (fun _ => ?_) (fun h => by omega)
      rw [e2]
      exact ih (n := 0) hm (by omega) h1 (by omega) h3 (Bs.zero hs (by omega) (.inr (by rw [show i + 2 - b - 1 = i + 1 - b by omega, z1.2]; omega))) (by omega) e
    · refine l1_plain hs (by omega) z1.1 (by rw [z1.2]; exact c3) ?_
      rw [e2]
      by_cases c4 : bt s (i + 1) = 92
      · refine ih (n := n + 2) hm (by omega) h1 (by omega) h3 ⟨by have := hbs.n0; omega, by have := hbs.lo; omega, fun q h4 h5 => ?_, by have := hbs.stop; rwa [show i + 2 - b - (n + 2) = i - b - n by omega]⟩ (by omega) e
        by_cases hq : q = i + 1 - b
        · rw [hq, z1.2]; exact c4
        · exact bs1.all q (by omega) (by omega)
      · exact ih (n := 0) hm (by omega) h1 (by omega) h3 (Bs.zero hs (by omega) (.inr (by rw [show i + 2 - b - 1 = i + 1 - b by omega, z1.2]; exact c4))) (by omega) e
  | @uni i j h c c2 c3 t' ih =>
    intro s0 x n r hm hp h1 h2 h3 hbs hn e
    have lt := t'.lt
    have step : ∀ q, i ≤ q → q < i + 6 → bt s q ≠ 34 → Ev (fun k => gjson_squash.l1 k t (q + 1 - b) x s0) r → Ev (fun k => gjson_squash.l1 k t (q - b) x s0) r := by
      intro q h4 h5 h6 e2
      have z := hm q (by omega) (by omega)
      refine l1_plain hs (by omega) z.1 (by rw [z.2]; exact h6) ?_
      rwa [show q - b + 1 = q + 1 - b by omega]
    have hx : ∀ q, i + 2 ≤ q → q < i + 6 → bt s q ≠ 34 ∧ bt s q ≠ 92 := fun q h4 h5 => by have := c3 q h4 h5; unfold IsHex at this; omega
    have z5 := hm (i + 5) (by omega) (by omega)
    have last := ih (n := 0) hm (by omega) h1 (by omega) h3 (Bs.zero hs (by omega) (.inr (by rw [show i + 6 - b - 1 = i + 5 - b by omega, z5.2]; exact (hx (i + 5) (by omega) (by omega)).2))) (by omega) e
    refine step i (by omega) (by omega) (by omega) (step (i + 1) (by omega) (by omega) (by omega) ?_)
    rw [show i + 1 + 1 - b = i + 2 - b by omega]
    refine step (i + 2) (by omega) (by omega) (hx _ (by omega) (by omega)).1 ?_
    rw [show i + 2 + 1 - b = i + 3 - b by omega]
    refine step (i + 3) (by omega) (by omega) (hx _ (by omega) (by omega)).1 ?_
    rw [show i + 3 + 1 - b = i + 4 - b by omega]
    refine step (i + 4) (by omega) (by omega) (hx _ (by omega) (by omega)).1 ?_
    rw [show i + 4 + 1 - b = i + 5 - b by omega]
    refine step (i + 5) (by omega) (by omega) (hx _ (by omega) (by omega)).1 ?_
    rwa [show i + 5 + 1 - b = i + 6 - b by omega]
theorem str_l0 (s : ByteArray) (b : Int) {i j x : Int} {r : ByteArray} (h : StrT s (i + 1) j) (hq : bt s i = 34) (hm : ∀ q, b ≤ q → q < j → q - b < t.size ∧ bt t (q - b) = bt s q) (hi : b ≤ i) (e : Ev (fun k => gjson_squash.j5 k t (j - 1 - b) x) r) :
    Ev (fun k => gjson_squash.l0 k t (i - b) x) r := by
  have lt := h.lt
  have z := hm i hi (by omega)
  have c : bt t (i - b) = 34 := by rw [z.2]; exact hq
  refine Ev.step (fun k => by rw [gjson_squash.l0]) (Ev.pos z.1 (Ev.pos (by omega) (Ev.pos (by omega) ?_)))
  rw [decide_eq_true (show bt t (i - b) ≤ 125 by omega)]
  refine Ev.step (fun k => by rw [gjson_squash.j2]) (Ev.pos rfl (Ev.pos (by omega) (Ev.pos z.1 (Ev.pos c ?_))))
  rw [w64 (by omega) (by omega), show i - b + 1 = i + 1 - b by omega]
  exact str_l1 hs s b h (n := 0) hm (by omega) (by omega) (by omega) (by rw [show i + 1 - b - 1 = i - b by omega]; exact c) (Bs.zero hs (by omega) (.inl rfl)) (by omega) e
theorem goes_str (s : ByteArray) (b : Int) {i j x : Int} (h : StrT s (i + 1) j) (hq : bt s i = 34) (hm : ∀ q, b ≤ q → q < j → q - b < t.size ∧ bt t (q - b) = bt s q) (hi : b ≤ i) (hx : x ≠ 0) : Goes t (i - b) x (j - b) x := by
  intro r e
  have lt := h.lt
  have z := hm (j - 1) (by omega) (by omega)
  refine str_l0 hs s b h hq hm hi ?_
  refine Ev.step (fun k => by rw [gjson_squash.j5]) (Ev.neg hx ?_)
  rw [w64 (by omega) (by omega), show j - 1 - b + 1 = j - b by omega]
  exact e
/-! ### values -/
theorem goes_all (s : ByteArray) (b : Int) (d : Nat) : ∀ {i j x : Int}, j - i = d → b ≤ i → (∀ q, i ≤ q → q < j → q - b < t.size ∧ bt t (q - b) = bt s q ∧ ¬ Special (bt s q)) → Goes t (i - b) x (j - b) x := by
  induction d with
  | zero => intro i j x hd _ _; obtain rfl : i = j := by omega
            exact Goes.rfl'
  | succ d ih =>
    intro i j x hd hb hq
    have z := hq i (by omega) (by omega)
    have g := goes_plain hs (x := x) (show 0 ≤ i - b by omega) z.1 (by rw [z.2.1]; exact z.2.2)
    rw [show i - b + 1 = i + 1 - b by omega] at g
    exact g.trans (ih (by omega) (by omega) (fun q h1 h2 => hq q (by omega) h2))
theorem goes_blk (s : ByteArray) (b : Int) {i j x : Int} (h : Blk s i j) (hb : b ≤ i) (hm : ∀ q, b ≤ q → q < j → q - b < t.size ∧ bt t (q - b) = bt s q) : Goes t (i - b) x (j - b) x := by
  have := h.le
  refine goes_all hs s b (j - i).toNat (by omega) hb (fun q h1 h2 => ?_)
  have z := hm q (by omega) h2
  have c := h.all q h1 h2
  exact ⟨z.1, z.2, by unfold IsBl at c; unfold Special; omega⟩
/-- What stands between a value's brackets. -/
def Inner (t s : ByteArray) (b i j : Int) : Prop := (bt s i = 123 ∨ bt s i = 91) ∧ (bt s (j - 1) = 125 ∨ bt s (j - 1) = 93) ∧ i + 1 < j ∧ ∀ x : Int, 1 ≤ x → x + (j - i) ≤ 1000000 → Goes t (i + 1 - b) x (j - 1 - b) x
theorem goes_jv (s : ByteArray) (b e : Int) (h0 : 0 ≤ b) (hm : ∀ q, b ≤ q → q < e → q - b < t.size ∧ bt t (q - b) = bt s q) {kd i j : Int} {ns : List Sp} {ks : List Pl} (h : JV s kd i j ns ks) :
    b ≤ i → i < j → j ≤ e → (5 ≤ kd → Inner t s b i j) ∧ ∀ x : Int, 1 ≤ x → x + (j - i) ≤ 999999 → Goes t (i - b) x (j - b) x := by
  have one : ∀ {p x : Int}, b ≤ p → p < e → ¬ Special (bt s p) → Goes t (p - b) x (p + 1 - b) x := by
    intro p x h1 h2 h3
    have z := hm p h1 h2
    have g := goes_plain hs (x := x) (show 0 ≤ p - b by omega) z.1 (by rw [z.2]; exact h3)
    rwa [show p - b + 1 = p + 1 - b by omega] at g
  have blk : ∀ {p q x : Int}, Blk s p q → b ≤ p → q ≤ e → Goes t (p - b) x (q - b) x := fun h h1 h2 => goes_blk hs s b h h1 (fun q h3 h4 => hm q h3 (by omega))
  have both : ∀ {kd i j : Int}, b ≤ i → j ≤ e → Inner t s b i j → (5 ≤ kd → Inner t s b i j) ∧ ∀ x : Int, 1 ≤ x → x + (j - i) ≤ 999999 → Goes t (i - b) x (j - b) x := by
    intro kd i j h1 h2 hI
    refine ⟨fun _ => hI, fun x hx hx2 => ?_⟩
    obtain ⟨c1, c2, h3, g⟩ := hI
    have z := hm i h1 (by omega)
    have z2 := hm (j - 1) (by omega) (by omega)
    have g1 := goes_open hs (x := x) (show 0 ≤ i - b by omega) z.1 (by omega) (by omega) (by rw [z.2]; exact c1)
    rw [show i - b + 1 = i + 1 - b by omega] at g1
    have g3 := goes_close hs (x := x + 1) (show 0 ≤ j - 1 - b by omega) z2.1 (by omega) (by rw [z2.2]; exact c2)
    rw [show j - 1 - b + 1 = j - b by omega, show x + 1 - 1 = x by omega] at g3
    exact (g1.trans (g (x + 1) (by omega) (by omega))).trans g3
  have leafw : ∀ {kd i j : Int}, kd < 5 → b ≤ i → i < j → j ≤ e → (∀ q, i ≤ q → q < j → ¬ Special (bt s q)) → (5 ≤ kd → Inner t s b i j) ∧ ∀ x : Int, 1 ≤ x → x + (j - i) ≤ 999999 → Goes t (i - b) x (j - b) x := by
    intro kd i j hk h1 h2 h3 hw
    exact ⟨fun h => by omega, fun x hx hx2 => goes_all hs s b (j - i).toNat (by omega) h1 (fun q h4 h5 => by have z := hm q (by omega) (by omega); exact ⟨z.1, z.2, hw q h4 h5⟩)⟩
  refine jv_ind (P := fun kd i j ns ks => b ≤ i → i < j → j ≤ e → (5 ≤ kd → Inner t s b i j) ∧ ∀ x : Int, 1 ≤ x → x + (j - i) ≤ 999999 → Goes t (i - b) x (j - b) x)
    (Q := fun i j ks => b ≤ i → j ≤ e → i < j ∧ bt s (j - 1) = 93 ∧ ∀ x : Int, 1 ≤ x → x + (j - i) ≤ 999999 → Goes t (i - b) x (j - 1 - b) x)
    (R := fun i j ns ks => b ≤ i → j ≤ e → i < j ∧ bt s (j - 1) = 125 ∧ ∀ x : Int, 1 ≤ x → x + (j - i) ≤ 999999 → Goes t (i - b) x (j - 1 - b) x) ?_ ?_ ?_ ?_ ?_ ?_ ?_ h
  · intro kd i j h h1 h2 h3
    by_cases hk : kd < 3
    · exact leafw (by omega) h1 h2 h3 (fun q h4 h5 => by have := lit_ch h hk (by omega) q h4 h5; unfold Special; omega)
    cases h with
    | null h => omega
    | fals h => omega
    | tru h => omega
    | num h hd => exact leafw (by omega) h1 h2 h3 (fun q h4 h5 => by have := num_ch h q h4 h5; unfold NumCh at this; unfold Special; omega)
    | str h t' => exact ⟨fun h => by omega, fun x hx hx2 => goes_str hs s b t' h (fun q h4 h5 => hm q h4 (by omega)) h1 (by omega)⟩
    | @arr0 _ c h a c1 c2 =>
      have := a.le
      refine both h1 h3 ⟨.inr h, .inr (by rw [Int.add_sub_cancel]; exact c2), by omega, fun x hx hx2 => ?_⟩
      rw [Int.add_sub_cancel]
      exact blk a (by omega) (by omega)
    | arr h a c1 => cases c1
    | @obj0 _ c h a c1 c2 =>
      have := a.le
      refine both h1 h3 ⟨.inl h, .inl (by rw [Int.add_sub_cancel]; exact c2), by omega, fun x hx hx2 => ?_⟩
      rw [Int.add_sub_cancel]
      exact blk a (by omega) (by omega)
    | obj h a c1 => cases c1
  · intro i c j ks h a _ ih h1 h2 h3
    have := a.le
    have g := ih (by omega) h3
    have hb : bt s i = 91 := by
      cases h with
      | arr h _ _ => exact h
      | arr0 h _ _ _ => exact h
    exact both h1 h3 ⟨.inr hb, .inr g.2.1, by omega, fun x hx hx2 => (blk a (by omega) (by omega)).trans (g.2.2 x hx (by omega))⟩
  · intro i c j ns ks h a _ ih h1 h2 h3
    have := a.le
    have g := ih (by omega) h3
    have hb : bt s i = 123 := by
      cases h with
      | obj h _ _ => exact h
      | obj0 h _ _ _ => exact h
    exact both h1 h3 ⟨.inl hb, .inl g.2.1, by omega, fun x hx hx2 => (blk a (by omega) (by omega)).trans (g.2.2 x hx (by omega))⟩
  · intro i a c kd ns ks hl h ih k m n h1 h3
    have := k.le
    refine ⟨by omega, by rw [Int.add_sub_cancel]; exact n, fun x hx hx2 => ?_⟩
    rw [Int.add_sub_cancel]
    exact ((ih h1 hl.1 (by omega)).2 x hx (by omega)).trans (blk k (by omega) (by omega))
  · intro i a c f j kd ns ks r hl h ih k m n o _ ih2 h1 h3
    have := k.le; have := o.le
    have g := ih2 (by omega) h3
    refine ⟨by omega, g.2.1, fun x hx hx2 => ?_⟩
    exact ((((ih h1 hl.1 (by omega)).2 x hx (by omega)).trans (blk k (by omega) (by omega))).trans ((one (by omega) (by omega) (by rw [n]; unfold Special; omega)).trans (blk o (by omega) (by omega)))).trans (g.2.2 x hx (by omega))
  · intro i a c d f l kd ns ks g t' k m n o hl v ih p q r h1 h3
    have := t'.lt; have := k.le; have := o.le; have := p.le
    refine ⟨by omega, by rw [Int.add_sub_cancel]; exact r, fun x hx hx2 => ?_⟩
    rw [Int.add_sub_cancel]
    exact ((((goes_str hs s b t' g.2 (fun q h4 h5 => hm q h4 (by omega)) h1 (by omega)).trans (blk k (by omega) (by omega))).trans (one (by omega) (by omega) (by rw [n]; unfold Special; omega))).trans (blk o (by omega) (by omega))).trans (((ih (by omega) hl.1 (by omega)).2 x hx (by omega)).trans (blk p (by omega) (by omega)))
  · intro i a c d f l u j kd ns ns2 ks ks2 g t' k m n o hl v ih p q r w _ ih2 h1 h3
    have := t'.lt; have := k.le; have := o.le; have := p.le; have := w.le
    have y := ih2 (by omega) h3
    refine ⟨by omega, y.2.1, fun x hx hx2 => ?_⟩
    exact (((((goes_str hs s b t' g.2 (fun q h4 h5 => hm q h4 (by omega)) h1 (by omega)).trans (blk k (by omega) (by omega))).trans (one (by omega) (by omega) (by rw [n]; unfold Special; omega))).trans (blk o (by omega) (by omega))).trans (((ih (by omega) hl.1 (by omega)).2 x hx (by omega)).trans (blk p (by omega) (by omega)))).trans
      (((one (by omega) (by omega) (by rw [r]; unfold Special; omega)).trans (blk w (by omega) (by omega))).trans (y.2.2 x hx (by omega)))
/-- The squash of a text that begins with a value. -/
theorem squash_ev (s : ByteArray) (kd b e : Int) (ns : List Sp) (ks : List Pl) (h : JV s kd b e ns ks) (h0 : 0 ≤ b) (hk : 4 ≤ kd) (hlt : b < e) (hes : e - b ≤ 100000) (hm : ∀ q, b ≤ q → q < e → q - b < t.size ∧ bt t (q - b) = bt s q) :
    Ev (fun k => gjson_squash.f k t) (t.extract 0 (e - b).toNat) := by
  have z := hm b (by omega) hlt
  have g := (goes_jv hs s b e h0 hm h (by omega) hlt (by omega)).1
  have zz : b - b = 0 := by omega
  have ht : 0 < (t.size : Int) := by omega
  have ze := hm (e - 1) (by omega) (by omega)
  unfold gjson_squash.f
  by_cases h5 : 5 ≤ kd
  · obtain ⟨c1, c2, h3, gi⟩ := g h5
    refine Ev.pos ht (Ev.neg (by rw [← zz, z.2]; omega) (Ev.step (fun k => by rw [gjson_squash.j0]) ?_))
    have gi1 := gi 1 (by omega) (by omega)
    rw [show b + 1 - b = 1 by omega] at gi1
    refine gi1 _ ?_
    have := close_last hs (t := t) (show 0 ≤ e - 1 - b by omega) ze.1 (by rw [ze.2]; exact c2)
    rwa [show e - 1 - b + 1 = e - b by omega] at this
  · obtain rfl : kd = 4 := by omega
    cases h with
    | str h t' =>
      refine Ev.pos ht (Ev.pos (by rw [← zz, z.2]; exact h) (Ev.step (fun k => by rw [gjson_squash.j0]) ?_))
      have := str_l0 hs s b (x := 0) (r := t.extract 0 (e - b).toNat) t' h hm (by omega) ?_
      · rwa [zz] at this
      · refine Ev.step (fun k => by rw [gjson_squash.j5]) (Ev.pos rfl (Ev.neg (by omega) ?_))
        rw [w64 (by omega) (by omega), show e - 1 - b + 1 = e - b by omega]
        exact Ev.pos (by omega) (Ev.pos (by omega) (Ev.now _))
end
theorem bt_app_l (x y : ByteArray) (q : Int) (h0 : 0 ≤ q) (h : q < x.size) : bt (x ++ y) q = bt x q := by
  unfold bt
  have h1 : q.toNat < x.size := by omega
  have h2 : q.toNat < (x ++ y).size := by rw [ByteArray.size_append]; omega
  rw [dif_pos h1, dif_pos h2, ByteArray.getElem_append_left h1]
theorem bt_extract (s : ByteArray) (a b : Nat) (q : Int) (h0 : 0 ≤ q) (h : q.toNat < b - a) (hb : b ≤ s.size) : bt (s.extract a b) q = bt s (a + q) := by
  unfold bt
  have h1 : q.toNat < (s.extract a b).size := by rw [ByteArray.size_extract]; omega
  have h2 : ((a : Int) + q).toNat < s.size := by omega
  rw [dif_pos h1, dif_pos h2, ByteArray.getElem_extract]
  congr 3
  omega
theorem FnGjSquash : laws_FnGjSquash.Pure := by
  intro s m _ _
  refine Ev.rounds (r := true) (g := fun k => laws_FnGjSquash.f k s m) ?_
  unfold laws_FnGjSquash.f
  have fall : Ev (fun k => laws_FnGjSquash.j0 k s m true) true := Ev.step (fun k => by rw [laws_FnGjSquash.j0]) (Ev.pos rfl (Ev.now _))
  by_cases c1 : (s.size : Int) > 2147483647
  · exact Ev.pos c1 fall
  refine Ev.neg c1 ?_
  by_cases c2 : (m.size : Int) > 2147483647
  · rw [decide_eq_true c2]; exact fall
  rw [decide_eq_false c2]
  refine Ev.step (fun k => by rw [laws_FnGjSquash.j0]) (Ev.neg Bool.false_ne_true ?_)
  obtain ⟨kd, b, e, ns, ks, ok, ev, h⟩ := places_ev s (by omega)
  cases ok with
  | false => exact Ev.bind ev (Ev.neg Bool.false_ne_true (Ev.now _))
  | true =>
    refine Ev.bind ev (Ev.pos rfl ?_)
    by_cases c3 : (s.size : Int) > 4096
    · exact Ev.pos c3 (Ev.now _)
    refine Ev.neg c3 ?_
    by_cases c4 : (m.size : Int) > 4096
    · exact Ev.pos c4 (Ev.now _)
    refine Ev.neg c4 ?_
    by_cases c5 : kd < 4
    · exact Ev.pos c5 (Ev.now _)
    refine Ev.neg c5 ?_
    have t := h rfl
    have := t.front.le; have := t.lt; have := t.hi
    have sz : (s.extract b.toNat e.toNat).size = (e - b).toNat := by rw [ByteArray.size_extract]; omega
    dsimp only
    refine Ev.pos (by omega) (Ev.pos (by omega) (Ev.pos (by omega) (Ev.pos (by omega) ?_)))
    have sz2 : (s.extract b.toNat e.toNat ++ m).size = (e - b).toNat + m.size := by rw [ByteArray.size_append, sz]
    have q := squash_ev (t := s.extract b.toNat e.toNat ++ m) (by omega) s kd b e ns ks t.val (by omega) (by omega) (by omega) (by omega) (fun q h1 h2 => ⟨by omega, by
      rw [bt_app_l _ _ _ (by omega) (by omega), bt_extract _ _ _ _ (by omega) (by omega) (by omega)]
      congr 1; omega⟩)
    have q2 : Ev (fun k => impl_GjSquash.f k (s.extract b.toNat e.toNat ++ m)) ((s.extract b.toNat e.toNat ++ m).extract 0 (e - b).toNat) := by
      unfold impl_GjSquash.f gjson_DoorSquash.f
      exact Ev.bind (Ev.bind q (Ev.now _)) (Ev.now _)
    refine Ev.bind q2 (Ev.eq ?_ (Ev.now _))
    have : (s.extract b.toNat e.toNat ++ m).extract 0 (e - b).toNat = s.extract b.toNat e.toNat := by
      rw [← sz]
      exact ByteArray.extract_append_eq_left rfl
    rw [this]
    simp
end Go.Proofs.Ytnmbpleneddkhaa.Pure
