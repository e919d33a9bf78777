/- What searchKeysConfig and Get come to in a JSON text where keys lead to a value; no condition beside those that each theorem states. -/
import Derived.Test.YtpdohioobbfncaaGreatDoorFPFnJpWildStop
import Derived.Test.YtpdohioobbfncaaGreatDoorBEFnJpWildStop
import Derived.Test.YtpdohioobbfncaaGreatDoorHSXFnJpWildStop
namespace Go.Proofs.YtpdohioobbfncaaGreatDoor.JFnJpWildStop
open Go.RowKit Go.Proofs.YtpdohioobbfncaaGreatDoor.PFnJpWildStop Go.Proofs.YtpdohioobbfncaaGreatDoorW.PrintWords Go.Proofs.YtpdohioobbfncaaGreatDoorW.PrintLast Go.Proofs.YtpdohioobbfncaaGreatDoorW.PrintMore
set_option linter.unusedSimpArgs false
set_option linter.unusedVariables false
theorem Ev.ex {α : Type} {f : Nat → Option α} {a : α} (h : Ev f a) : ∃ k, f k = some a := by
  obtain ⟨K, h⟩ := h
  exact ⟨K, h K (Nat.le_refl _)⟩
theorem jv_len {s : ByteArray} {kd i j : Int} {ns : List Sp} {ks : List Pl} (h : JV s kd i j ns ks) : (kd = 5 ∨ kd = 6) → i + 1 < j := by
  refine jv_ind (P := fun kd i j ns ks => (kd = 5 ∨ kd = 6) → i + 1 < j) (Q := fun i j _ => i < j) (R := fun i j _ _ => i < j) ?_ ?_ ?_ ?_ ?_ ?_ ?_ h
  · intro kd i j h hk
    cases h with
    | null _ => omega
    | fals _ => omega
    | tru _ => omega
    | num _ _ => omega
    | str _ _ => omega
    | arr0 _ h1 _ _ => have := h1.le; omega
    | obj0 _ h1 _ _ => have := h1.le; omega
    | arr _ _ h2 => nomatch h2
    | obj _ _ h2 => nomatch h2
  · intro i b j ks h hb hje ih _
    have := hb.le
    omega
  · intro i b j ns ks h hb hjm ih _
    have := hb.le
    omega
  · intro i a b kd ns ks hl h _ hb _ _
    have := hb.le
    omega
  · intro i a b c j kd ns ks r hl h _ hb _ _ hb2 _ ih
    have := hb.le
    have := hb2.le
    omega
  · intro i a b c d e kd ns ks g t k1 _ _ k2 hl h _ k3 _ _
    have := t.lt; have := k1.le; have := k2.le; have := k3.le
    omega
  · intro i a b c d e f j kd ns ns2 ks ks2 g t k1 _ _ k2 hl h _ k3 _ _ k4 _ ih
    have := t.lt; have := k1.le; have := k2.le; have := k3.le; have := k4.le
    omega
theorem jm_len {s : ByteArray} {i j : Int} {ns : List Sp} {ks : List Pl} (h : JM s i j ns ks) : i < j := by
  have go : ∀ {i j : Int} {ns : List Sp} {ks : List Pl} (n : Nat), ns.length = n → JM s i j ns ks → i < j := by
    intro i j ns ks n
    induction n generalizing i j ns ks with
    | zero => intro hn h; cases h <;> simp at hn
    | succ n ih =>
      intro hn h
      cases h with
      | one g t1 k1 _ _ k2 hl _ k3 _ _ => have := t1.lt; have := k1.le; have := k2.le; have := k3.le; omega
      | cons g t1 k1 _ _ k2 hl _ k3 _ _ k4 h9 =>
        have := t1.lt; have := k1.le; have := k2.le; have := k3.le; have := k4.le
        have := ih (by simpa using hn) h9
        omega
  exact go ns.length rfl h
/-- The parts of a value end within it. -/
theorem kid_end {s : ByteArray} {kd i j : Int} {ns : List Sp} {ks : List Pl} (h : JV s kd i j ns ks) : (kd = 5 ∨ kd = 6) → 0 ≤ i → i < j → ∀ q ∈ ks, q.f2 ≤ j := by
  refine jv_ind (P := fun kd i j ns ks => (kd = 5 ∨ kd = 6) → 0 ≤ i → i < j → ∀ q ∈ ks, q.f2 ≤ j) (Q := fun i j ks => i < j ∧ ∀ q ∈ ks, q.f2 ≤ j) (R := fun i j ns ks => i < j ∧ ∀ q ∈ ks, q.f2 ≤ j) ?_ ?_ ?_ ?_ ?_ ?_ ?_ h
  · intro kd i j h _ _ _ q hq
    cases hq
  · intro i b j ks h hb hje ih _ _ _
    exact ih.2
  · intro i b j ns ks h hb hjm ih _ _ _
    exact ih.2
  · intro i a b kd ns ks hl h _ hb _ _
    have := hb.le
    refine ⟨by omega, fun q hq => ?_⟩
    rcases List.mem_singleton.1 hq with rfl
    show a ≤ b + 1
    omega
  · intro i a b c j kd ns ks r hl h _ hb _ _ hb2 _ ih
    have := hb.le
    have := hb2.le
    refine ⟨by omega, fun q hq => ?_⟩
    rcases List.mem_cons.1 hq with rfl | hq
    · show a ≤ j
      omega
    · exact ih.2 q hq
  · intro i a b c d e kd ns ks g t k1 _ _ k2 hl h _ k3 _ _
    have := t.lt; have := k1.le; have := k2.le; have := k3.le
    refine ⟨by omega, fun q hq => ?_⟩
    rcases List.mem_singleton.1 hq with rfl
    show d ≤ e + 1
    omega
  · intro i a b c d e f j kd ns ns2 ks ks2 g t k1 _ _ k2 hl h _ k3 _ _ k4 _ ih
    have := t.lt; have := k1.le; have := k2.le; have := k3.le; have := k4.le
    refine ⟨by omega, fun q hq => ?_⟩
    rcases List.mem_cons.1 hq with rfl | hq
    · show d ≤ j
      omega
    · exact ih.2 q hq
/-- jsonparser's number for a kind of value. -/
def kk (kd : Int) : Int := if kd = 0 then 6 else if kd = 1 then 5 else if kd = 2 then 5 else if kd = 3 then 2 else if kd = 4 then 1 else if kd = 5 then 4 else 3
theorem win_Win (s : ByteArray) (a e : Nat) (h1 : a ≤ e) (h2 : e ≤ s.size) (hs : s.size ≤ 2147483647) : Win s (a : Int) (e : Int) (win s a e) := by
  refine ⟨by omega, by omega, by omega, by omega, by rw [win_len]; omega, fun p h3 h4 => ?_⟩
  have := win_rd s a e (p - a).toNat (by omega)
  rw [show (((p - (a : Int)).toNat : Nat) : Int) = p - a by omega] at this
  rw [this]
  congr 1
  omega
/-- A value's first byte. -/
theorem jv_first {s : ByteArray} {kd i j : Int} {ns : List Sp} {ks : List Pl} (h : JV s kd i j ns ks) (h0 : 0 ≤ i) : bt s i = 110 ∨ bt s i = 102 ∨ bt s i = 116 ∨ bt s i = 45 ∨ (48 ≤ bt s i ∧ bt s i ≤ 57) ∨ bt s i = 34 ∨ bt s i = 91 ∨ bt s i = 123 := by
  have wd : ∀ (w : ByteArray) (c : Int), Word s i w → 0 < w.size → bt w 0 = c → bt s i = c := fun w c h hw hc => by
    have := h.at_ h0 0 hw
    rw [show i + ((0 : Nat) : Int) = i by omega] at this
    rw [this]
    exact hc
  cases h with
  | null h => exact .inl (wd _ _ h (by decide) rfl)
  | fals h => exact .inr (.inl (wd _ _ h (by decide) rfl))
  | tru h => exact .inr (.inr (.inl (wd _ _ h (by decide) rfl)))
  | num h hd => omega
  | str h t => omega
  | arr0 h _ _ _ => omega
  | arr h _ _ => omega
  | obj0 h _ _ _ => omega
  | obj h _ _ => omega
theorem word_win {s : ByteArray} {x : Nat} {w : ByteArray} {l : List Int} (h : Word s (x : Int) w) (hl : l.length = w.size) (hv : ∀ q : Nat, q < w.size → l.getD q 0 = bt w (q : Int)) : win s x (x + w.size) = l := by
  apply List.ext_getElem
  · rw [win_len, hl]; omega
  · intro q h1 h2
    rw [win_len] at h1
    have h3 := win_rd s x (x + w.size) q (by omega)
    unfold rd at h3
    rw [Int.toNat_natCast, List.getD_eq_getElem?_getD, List.getElem?_eq_getElem (by rw [win_len]; omega)] at h3
    have h4 := h.at_ (by omega) q (by omega)
    have h5 := hv q (by omega)
    rw [List.getD_eq_getElem?_getD, List.getElem?_eq_getElem h2] at h5
    refine h3.trans ?_
    rw [show ((x + q : Nat) : Int) = (x : Int) + q by omega, h4, ← h5]
    rfl
theorem jv5 {s : ByteArray} {i j : Int} {ns : List Sp} {ks : List Pl} (h : JV s 5 i j ns ks) : bt s i = 91 := by cases h <;> assumption
theorem jv6 {s : ByteArray} {i j : Int} {ns : List Sp} {ks : List Pl} (h : JV s 6 i j ns ks) : bt s i = 123 := by cases h <;> assumption
section
variable {s : ByteArray} (hs : s.size ≤ 2147483647)
include hs
theorem nt_of {e a y : Nat} (hb : Blk s (a : Int) (y : Int)) (hy : y < e) (he : e ≤ s.size) : NT s e a y := by
  have h0 := hb.le
  have hst : ¬ IsBl (bt s (y : Int)) := hb.stop.resolve_left (by omega)
  exact Ev.ex (Ev.eq (show (y : Int) - (a : Int) = ((y - a : Nat) : Int) by omega) (next_ev (win_Win s a e (by omega) he hs) hb (by omega) hst false false 0))
theorem se_of {e p q : Nat} (h : StrT s ((p : Int) + 1) (q : Int)) (hq : q ≤ e) (he : e ≤ s.size) : p + 2 ≤ q ∧ ∃ es, SE s e (p + 1) q es ∧ (es = true ↔ ∃ i : Nat, i < q - 1 - (p + 1) ∧ rd (win s (p + 1) e) (i : Int) = 92) := by
  have hlt := h.lt
  have hw := win_Win s (p + 1) e (by omega) he hs
  have e1 := str_end hw (j := (q : Int)) (by rwa [show ((p + 1 : Nat) : Int) = (p : Int) + 1 by omega]) (by omega) false false 0
  obtain ⟨es, e2, hes⟩ : ∃ es, Ev (fun k => sEC_.f k false false 0 (win s (p + 1) e) 34) ((q : Int) - ((p + 1 : Nat) : Int), es) ∧ (es = true ↔ Esc (win s (p + 1) e) ((q : Int) - 1 - ((p + 1 : Nat) : Int)).toNat) := ⟨_, e1, @decide_eq_true_iff _ (Classical.propDecidable _)⟩
  refine ⟨by omega, es, Ev.ex (Ev.eq (by rw [Prod.mk.injEq]; exact ⟨by omega, rfl⟩) e2), ?_⟩
  rw [hes]
  unfold Esc
  rw [show ((q : Int) - 1 - ((p + 1 : Nat) : Int)).toNat = q - 1 - (p + 1) by omega]
theorem tv_of {kd : Int} {x y e : Nat} {ns : List Sp} {ks : List Pl} (h : JV s kd (x : Int) (y : Int) ns ks) (hxy : x < y) (hy : y ≤ e) (he : e ≤ s.size) (hf : y = e ∨ (y < e ∧ (IsBl (bt s (y : Int)) ∨ bt s (y : Int) = 44 ∨ bt s (y : Int) = 93 ∨ bt s (y : Int) = 125))) : TV s e x y (kk kd) := by
  have hw := win_Win s x e (by omega) he hs
  have tok : kd < 4 → ∃ k, tE_.f k (win s x e) = some ((y - x : Nat) : Int) := fun hk => by
    exact Ev.ex (Ev.eq (show (y : Int) - (x : Int) = ((y - x : Nat) : Int) by omega) (token_ev hw h hk (by omega) (by omega) (by rcases hf with rfl | ⟨f1, f2⟩; exact .inl rfl; exact .inr ⟨by omega, f2⟩)))
  have blk := jv_len h
  by_cases c5 : kd = 5
  · subst c5
    have hx1 := blk (.inl rfl)
    have h91 : bt s (x : Int) = 91 := by first | exact jv5 h | exact jv6 h
    obtain ⟨K, hK⟩ := Ev.ex (Ev.eq (show (y : Int) - (x : Int) = ((y - x : Nat) : Int) by omega) ((block_ev hw h (by omega) (by omega)).1 rfl))
    exact TV.arr K h91 hK
  by_cases c6 : kd = 6
  · subst c6
    have hx1 := blk (.inr rfl)
    have h91 : bt s (x : Int) = 123 := by first | exact jv5 h | exact jv6 h
    obtain ⟨K, hK⟩ := Ev.ex (Ev.eq (show (y : Int) - (x : Int) = ((y - x : Nat) : Int) by omega) ((block_ev hw h (by omega) (by omega)).2 rfl))
    exact TV.obj K h91 hK
  generalize hY : (y : Int) = Y at h
  cases h with
  | null h =>
    obtain ⟨k, hk⟩ := tok (by omega)
    have hw2 := word_win h (l := [110, 117, 108, 108]) rfl (by decide)
    rw [show x + wNull.size = y from by have : wNull.size = 4 := rfl; omega] at hw2
    exact TV.nul k hw2 hk
  | fals h =>
    obtain ⟨k, hk⟩ := tok (by omega)
    have hw2 := word_win h (l := [102, 97, 108, 115, 101]) rfl (by decide)
    rw [show x + wFalse.size = y from by have : wFalse.size = 5 := rfl; omega] at hw2
    exact TV.fls k hw2 hk
  | tru h =>
    obtain ⟨k, hk⟩ := tok (by omega)
    have hw2 := word_win h (l := [116, 114, 117, 101]) rfl (by decide)
    rw [show x + wTrue.size = y from by have : wTrue.size = 4 := rfl; omega] at hw2
    exact TV.tru k hw2 hk
  | num h hd =>
    obtain ⟨k, hk⟩ := tok (by omega)
    exact TV.num k hd hk
  | str h t =>
    subst hY
    obtain ⟨h2, es, ⟨K, hK⟩, _⟩ := se_of hs t hy he
    exact TV.str K es h h2 (by rw [hK]; congr 2)
  | arr0 _ _ _ _ => omega
  | arr _ _ _ => omega
  | obj0 _ _ _ _ => omega
  | obj _ _ _ => omega
theorem gv_of {kd : Int} {a x y e : Nat} {ns : List Sp} {ks : List Pl} (hb : Blk s (a : Int) (x : Int)) (h : JV s kd (x : Int) (y : Int) ns ks) (hxy : x < y) (hy : y ≤ e) (he : e ≤ s.size) (hf : y = e ∨ (y < e ∧ (IsBl (bt s (y : Int)) ∨ bt s (y : Int) = 44 ∨ bt s (y : Int) = 93 ∨ bt s (y : Int) = 125))) : GV s e a x y (kk kd) := by
  have := hb.le
  exact ⟨nt_of hs hb (by omega) he, by omega, hxy, hy, tv_of hs h hxy hy he hf⟩
end
theorem blk_self {s : ByteArray} {x : Int} (hx : x ≤ s.size) (h : x = s.size ∨ ¬ IsBl (bt s x)) : Blk s x x := ⟨Int.le_refl _, hx, fun q h1 h2 => by omega, h⟩
theorem fol_of {s : ByteArray} {a b : Nat} {e : Nat} (h : Blk s (a : Int) (b : Int)) (hb : b < e) (hc : bt s (b : Int) = 44 ∨ bt s (b : Int) = 93 ∨ bt s (b : Int) = 125) : a = e ∨ (a < e ∧ (IsBl (bt s (a : Int)) ∨ bt s (a : Int) = 44 ∨ bt s (a : Int) = 93 ∨ bt s (a : Int) = 125)) := by
  have := h.le
  by_cases c : a = b
  · subst c
    exact .inr ⟨hb, .inr hc⟩
  · exact .inr ⟨by omega, .inl (h.all a (by omega) (by omega))⟩
/-- An element as the walk tells it. -/
def elN (k : Pl) : Nat × Nat × Int := (k.f1.toNat, k.f2.toNat, kk k.f0)
theorem not_bl {c : Int} (h : c = 110 ∨ c = 102 ∨ c = 116 ∨ c = 45 ∨ (48 ≤ c ∧ c ≤ 57) ∨ c = 34 ∨ c = 91 ∨ c = 123) : ¬ IsBl c := by unfold IsBl; omega
/-- An array's elements. -/
theorem ae_of {s : ByteArray} (hs : s.size ≤ 2147483647) {e : Nat} (he : e ≤ s.size) {kd i j : Int} {ns : List Sp} {ks : List Pl} (h : JV s kd i j ns ks) : kd = 5 → 0 ≤ i → i < j → j ≤ e → AE s e i.toNat (ks.map elN) (j - 1).toNat := by
  have self : ∀ i : Int, 0 ≤ i → i < e → bt s i = 91 → NT s e i.toNat i.toNat := fun i h0 h1 hc => by
    refine nt_of hs (blk_self (by omega) (.inr ?_)) (by omega) he
    rw [show ((i.toNat : Nat) : Int) = i by omega, hc]
    unfold IsBl
    omega
  refine jv_ind (P := fun kd i j ns ks => kd = 5 → 0 ≤ i → i < j → j ≤ e → AE s e i.toNat (ks.map elN) (j - 1).toNat)
    (Q := fun i j ks => 0 ≤ i → j ≤ e → i < j ∧ bt s i ≠ 93 ∧ ∀ a0 : Nat, Blk s (a0 : Int) i → EL s e a0 (ks.map elN) (j - 1).toNat)
    (R := fun i j ns ks => True) ?_ ?_ ?_ ?_ ?_ ?_ ?_ h
  · intro kd i j h hk h0 hij hj
    subst hk
    have h91 := jv5 h
    cases h with
    | @arr0 _ b _ h1 h2 h3 =>
      have := h1.le
      refine ⟨self i h0 (by omega) h91, by omega, by rw [show ((i.toNat : Nat) : Int) = i by omega]; exact h91, b.toNat, ?_, by omega, by omega, .inl ⟨by rw [show ((b.toNat : Nat) : Int) = b by omega]; exact h3, rfl, by rw [show b + 1 - 1 = b by omega]⟩⟩
      exact nt_of hs (by rwa [show ((i.toNat + 1 : Nat) : Int) = i + 1 by omega, show ((b.toNat : Nat) : Int) = b by omega]) (by omega) he
    | arr _ _ h2 => nomatch h2
  · intro i b j ks h hb hje ih hk h0 hij hj
    have h91 := jv5 h
    have := hb.le
    obtain ⟨i1, i2, i3⟩ := ih (by omega) hj
    refine ⟨self i h0 (by omega) h91, by omega, by rw [show ((i.toNat : Nat) : Int) = i by omega]; exact h91, b.toNat, ?_, by omega, by omega, .inr ⟨by rw [show ((b.toNat : Nat) : Int) = b by omega]; exact i2, i3 b.toNat (by rw [show ((b.toNat : Nat) : Int) = b by omega]; exact blk_self (by omega) hb.stop)⟩⟩
    exact nt_of hs (by rwa [show ((i.toNat + 1 : Nat) : Int) = i + 1 by omega, show ((b.toNat : Nat) : Int) = b by omega]) (by omega) he
  · intro i b j ns ks h _ _ _ hk
    omega
  · intro i a b kd ns ks hl h _ hb h2 h3 h0 hj
    have hle := hb.le
    have hf := jv_first h h0
    refine ⟨by omega, by omega, fun a0 hb0 => ?_⟩
    have hle0 := hb0.le
    have eb : ((b.toNat : Nat) : Int) = b := by omega
    have ea : ((a.toNat : Nat) : Int) = a := by omega
    have ei : ((i.toNat : Nat) : Int) = i := by omega
    rw [show b + 1 - 1 = b by omega]
    have hbn : Blk s (a.toNat : Int) (b.toNat : Int) := by rw [ea, eb]; exact hb
    show EL s e a0 [(i.toNat, a.toNat, kk kd)] b.toNat
    exact EL.last (gv_of hs (x := i.toNat) (y := a.toNat) (by rw [ei]; exact hb0) (by rw [ei, ea]; exact h) (by omega) (by omega) he (fol_of hbn (by omega) (by rw [eb]; omega))) (nt_of hs hbn (by omega) he) (by omega) (by omega) (by rw [eb]; exact h3)
  · intro i a b c j kd ns ks r hl h _ hb h2 h3 hb2 _ ih h0 hj
    have hle := hb.le
    have hle2 := hb2.le
    have hf := jv_first h h0
    obtain ⟨i1, i2, i3⟩ := ih (by omega) hj
    refine ⟨by omega, by omega, fun a0 hb0 => ?_⟩
    have hle0 := hb0.le
    have eb : ((b.toNat : Nat) : Int) = b := by omega
    have ea : ((a.toNat : Nat) : Int) = a := by omega
    have ei : ((i.toNat : Nat) : Int) = i := by omega
    have hbn : Blk s (a.toNat : Int) (b.toNat : Int) := by rw [ea, eb]; exact hb
    have hg := gv_of hs (a := a0) (x := i.toNat) (y := a.toNat) (by rw [ei]; exact hb0) (by rw [ei, ea]; exact h) (by omega) (by omega) he (fol_of (e := e) hbn (by omega) (by rw [eb]; omega))
    show EL s e a0 ((i.toNat, a.toNat, kk kd) :: r.map elN) (j - 1).toNat
    exact EL.more hg (nt_of hs hbn (by omega) he) (by omega) (by omega) (by rw [eb]; exact h3) (i3 (b.toNat + 1) (by rwa [show ((b.toNat + 1 : Nat) : Int) = b + 1 by omega]))
  · intros; trivial
  · intros; trivial
theorem un_plain {l nm : List Int} (h : Un l nm) : (∀ x ∈ l, x ≠ 92) → nm = l := by
  induction h with
  | nil => intro _; rfl
  | ch hc h ih => intro hn; rw [ih (fun x hx => hn x (by simp [hx]))]
  | es he h ih =>
    intro hn
    obtain ⟨t, rfl⟩ := he.head
    exact absurd rfl (hn 92 (by simp))
theorem sr_blk {s : ByteArray} {e : Nat} {keys : List ByteArray} {kl lev : Int} {r : Option Nat} {x y : Nat} {lm : Bool} (hb : Blk s (x : Int) (y : Int)) (hy : y ≤ e) (h : SR s e keys kl lev y lm r) : SR s e keys kl lev x lm r := by
  have hle := hb.le
  obtain ⟨d, hd⟩ : ∃ d, y - x = d := ⟨_, rfl⟩
  induction d generalizing x with
  | zero => obtain rfl : x = y := by omega
            exact h
  | succ d ih =>
    have hx := hb.all x (by omega) (by omega)
    unfold IsBl at hx
    refine SR.skip (by omega) (by omega) (ih ⟨by omega, hb.hi, fun q h1 h2 => hb.all q (by omega) h2, hb.stop⟩ (by omega) (by omega))
section
variable {s : ByteArray} (hs : s.size ≤ 2147483647) {e : Nat} (he : e ≤ s.size) {keys : List ByteArray} {kl lev : Int} {r : Option Nat}
include hs he
/-- A string that stands in the text. -/
theorem st_of {p q t : Nat} (hc : bt s (p : Int) = 34) (h : StrT s ((p : Int) + 1) (q : Int)) (hb : Blk s (q : Int) (t : Int)) (ht : t < e) : ∃ es, St s e p q t es ∧ (∀ nm, Un (win s (p + 1) (q - 1)) nm → NMs s (p + 1) (q - 1) es nm) := by
  have hle := hb.le
  obtain ⟨h2, es, hse, hes⟩ := se_of hs h (by omega) he
  refine ⟨es, ⟨hc, hse, h2, nt_of hs hb ht he, by omega, ht⟩, fun nm hun => ?_⟩
  have hwl := win_len s (p + 1) (q - 1)
  have rr : ∀ i : Nat, i < q - 1 - (p + 1) → rd (win s (p + 1) e) (i : Int) = rd (win s (p + 1) (q - 1)) (i : Int) := fun i hi => by rw [win_rd _ _ _ _ (by omega), win_rd _ _ _ _ hi]
  unfold NMs
  cases es with
  | true =>
    rw [if_pos rfl]
    refine ⟨?_, hun⟩
    obtain ⟨i, hi, h92⟩ := hes.1 rfl
    rw [rr i hi] at h92
    unfold rd at h92
    rw [Int.toNat_natCast, List.getD_eq_getElem?_getD, List.getElem?_eq_getElem (by omega)] at h92
    rw [← h92]
    exact List.getElem_mem _
  | false =>
    rw [if_neg Bool.false_ne_true]
    refine un_plain hun (fun x hx h92 => ?_)
    obtain ⟨i, hi, rfl⟩ := List.getElem_of_mem hx
    have := hes.2 ⟨i, by omega, by
      rw [rr i (by omega)]
      unfold rd
      rw [Int.toNat_natCast, List.getD_eq_getElem?_getD, List.getElem?_eq_getElem hi]
      exact h92⟩
    cases this
/-- A value is passed with the blanks behind it. -/
theorem sr_val {kd : Int} {x y t : Nat} {ns : List Sp} {ks : List Pl} (h : JV s kd (x : Int) (y : Int) ns ks) (hxy : x < y) (hb : Blk s (y : Int) (t : Int)) (ht : t < e) (hc : bt s (t : Int) ≠ 58) (hkl : kl ≠ lev) (hr : SR s e keys kl lev t false r) : SR s e keys kl lev x false r := by
  have hle := hb.le
  by_cases c4 : kd < 4
  · have hry : SR s e keys kl lev y false r := sr_blk hb (by omega) hr
    obtain ⟨d, hd⟩ : ∃ d, y - x = d := ⟨_, rfl⟩
    have go : ∀ (d z : Nat), x ≤ z → z ≤ y → y - z = d → SR s e keys kl lev z false r := by
      intro d
      induction d with
      | zero => intro z h1 h2 h3; obtain rfl : z = y := by omega
                exact hry
      | succ d ih =>
        intro z h1 h2 h3
        have hch := prim_ch h c4 (by omega) z (by omega) (by omega)
        unfold NumCh at hch
        exact SR.skip (by omega) (by omega) (ih (z + 1) (by omega) (by omega) (by omega))
    exact go d x (Nat.le_refl _) (by omega) hd
  by_cases c5 : kd = 5
  · subst c5
    have h91 := jv5 h
    have hl := jv_len h (.inl rfl)
    refine SR.arr (q := y) (by omega) h91 (fun hh => absurd hh hkl) ?_ hxy (by omega) (sr_blk hb (by omega) hr)
    exact Ev.ex (Ev.eq (show (y : Int) - (x : Int) = ((y - x : Nat) : Int) by omega) ((block_ev (win_Win s x e (by omega) he hs) h (by omega) (by omega)).1 rfl))
  by_cases c6 : kd = 6
  · subst c6
    have h91 := jv6 h
    have hl := jv_len h (.inr rfl)
    refine SR.past (q := y) (by omega) h91 ?_ hxy (by omega) (sr_blk hb (by omega) hr)
    exact Ev.ex (Ev.eq (show (y : Int) - (x : Int) = ((y - x : Nat) : Int) by omega) ((block_ev (win_Win s x e (by omega) he hs) h (by omega) (by omega)).2 rfl))
  generalize hY : (y : Int) = Y at h
  cases h with
  | str hq t1 =>
    subst hY
    obtain ⟨es, hst, _⟩ := st_of hs he hq t1 hb ht
    exact SR.str hst hc hr
  | null _ => omega
  | fals _ => omega
  | tru _ => omega
  | num _ _ => omega
  | arr0 _ _ _ _ => omega
  | arr _ _ _ => omega
  | obj0 _ _ _ _ => omega
  | obj _ _ _ => omega
/-- Up to the sought member. -/
theorem sr_mem {kd i0 j0 : Int} {ns0 : List Sp} {ks0 : List Pl} (h : JV s kd i0 j0 ns0 ks0) {key : ByteArray} {j : Nat} (hj : j < keys.length) (hk : keys.getD j ByteArray.empty = key) (hkl : kl = (j : Int)) :
    kd = 6 → 0 ≤ i0 → j0 ≤ e → ∀ t : Nat, t < ks0.length → NameIs s (rd_T64 ns0 (t : Int)) key → (∀ q : Nat, q < t → NameNot s (rd_T64 ns0 (q : Int)) key) →
      ∃ p q tt es nm, St s e p q tt es ∧ bt s (tt : Int) = 58 ∧ NMs s (p + 1) (q - 1) es nm ∧ (strOfNums nm).toList = key.toList ∧ Blk s ((tt + 1 : Nat) : Int) (rd_T27 ks0 (t : Int)).f1 ∧ i0 < p ∧
        (∀ (r : Option Nat), (∀ lm, SR s e keys kl ((j : Int) + 1) p lm r) → ∀ a0 : Nat, (a0 : Int) = i0 + 1 → ∀ lm, SR s e keys kl ((j : Int) + 1) a0 lm r) := by
  refine jv_ind (P := fun kd i0 j0 ns0 ks0 => kd = 6 → 0 ≤ i0 → j0 ≤ e → ∀ t : Nat, t < ks0.length → NameIs s (rd_T64 ns0 (t : Int)) key → (∀ q : Nat, q < t → NameNot s (rd_T64 ns0 (q : Int)) key) →
      ∃ p q tt es nm, St s e p q tt es ∧ bt s (tt : Int) = 58 ∧ NMs s (p + 1) (q - 1) es nm ∧ (strOfNums nm).toList = key.toList ∧ Blk s ((tt + 1 : Nat) : Int) (rd_T27 ks0 (t : Int)).f1 ∧ i0 < p ∧
        (∀ (r : Option Nat), (∀ lm, SR s e keys kl ((j : Int) + 1) p lm r) → ∀ a0 : Nat, (a0 : Int) = i0 + 1 → ∀ lm, SR s e keys kl ((j : Int) + 1) a0 lm r))
    (Q := fun _ _ _ => True)
    (R := fun i0 j0 ns0 ks0 => 0 ≤ i0 → j0 ≤ e → ∀ t : Nat, t < ks0.length → NameIs s (rd_T64 ns0 (t : Int)) key → (∀ q : Nat, q < t → NameNot s (rd_T64 ns0 (q : Int)) key) →
      ∃ p q tt es nm, St s e p q tt es ∧ bt s (tt : Int) = 58 ∧ NMs s (p + 1) (q - 1) es nm ∧ (strOfNums nm).toList = key.toList ∧ Blk s ((tt + 1 : Nat) : Int) (rd_T27 ks0 (t : Int)).f1 ∧ i0 ≤ p ∧
        (∀ (r : Option Nat), (∀ lm, SR s e keys kl ((j : Int) + 1) p lm r) → ∀ a0 : Nat, Blk s (a0 : Int) i0 → ∀ lm, SR s e keys kl ((j : Int) + 1) a0 lm r)) ?_ ?_ ?_ ?_ ?_ ?_ ?_ h
  · intro kd i j h hk h0 hj t ht
    exact absurd ht (Nat.not_lt_zero _)
  · intro i b j ks h _ _ _ hk
    omega
  · intro i b j ns ks h hb _ ih _ h0 hj t ht y n
    have := hb.le
    obtain ⟨p, q, tt, es, nm, a1, a2, a3, a4, a5, a6, a7⟩ := ih (by omega) hj t ht y n
    exact ⟨p, q, tt, es, nm, a1, a2, a3, a4, a5, by omega, fun r hr a0 ha lm => a7 r hr a0 (by rw [ha]; exact hb) lm⟩
  · intros; trivial
  · intros; trivial
  · intro i a b c d e1 kd ns ks g t1 k1 h2 h3 k2 hl v _ k3 h5 h6 h0 hj t ht y n
    obtain rfl : t = 0 := by simp at ht; omega
    have t1l := t1.lt; have k1l := k1.le; have k2l := k2.le; have k3l := k3.le
    obtain ⟨nm, hun, hnm⟩ := y
    have ei : ((i.toNat : Nat) : Int) = i := by omega
    have ea : ((a.toNat : Nat) : Int) = a := by omega
    have eb : ((b.toNat : Nat) : Int) = b := by omega
    obtain ⟨es, hst, hnms⟩ := st_of hs he (p := i.toNat) (q := a.toNat) (t := b.toNat) (by rw [ei]; exact g.2) (by rw [ei, ea]; exact t1) (by rw [ea, eb]; exact k1) (by omega)
    refine ⟨i.toNat, a.toNat, b.toNat, es, nm, hst, by rw [eb]; exact h3, hnms nm hun, hnm, ?_, by omega, fun r hr a0 hb0 lm => sr_blk (y := i.toNat) (by rw [ei]; exact hb0) (by omega) (hr lm)⟩
    show Blk s ((b.toNat + 1 : Nat) : Int) c
    rwa [show ((b.toNat + 1 : Nat) : Int) = b + 1 by omega]
  · intro i a b c d e1 f j1 kd ns ns2 ks ks2 g t1 k1 h2 h3 k2 hl v _ k3 h5 h6 k4 hjm ih h0 hj1 t ht y n
    have t1l := t1.lt; have k1l := k1.le; have k2l := k2.le; have k3l := k3.le; have k4l := k4.le
    have hj1l := jm_len hjm
    have ei : ((i.toNat : Nat) : Int) = i := by omega
    have ea : ((a.toNat : Nat) : Int) = a := by omega
    have eb : ((b.toNat : Nat) : Int) = b := by omega
    have ec : ((c.toNat : Nat) : Int) = c := by omega
    have ed : ((d.toNat : Nat) : Int) = d := by omega
    have ee : ((e1.toNat : Nat) : Int) = e1 := by omega
    obtain ⟨es, hst, hnms⟩ := st_of hs he (p := i.toNat) (q := a.toNat) (t := b.toNat) (by rw [ei]; exact g.2) (by rw [ei, ea]; exact t1) (by rw [ea, eb]; exact k1) (by omega)
    cases t with
    | zero =>
      obtain ⟨nm, hun, hnm⟩ := y
      refine ⟨i.toNat, a.toNat, b.toNat, es, nm, hst, by rw [eb]; exact h3, hnms nm hun, hnm, ?_, by omega, fun r hr a0 hb0 lm => sr_blk (y := i.toNat) (by rw [ei]; exact hb0) (by omega) (hr lm)⟩
      show Blk s ((b.toNat + 1 : Nat) : Int) c
      rwa [show ((b.toNat + 1 : Nat) : Int) = b + 1 by omega]
    | succ t =>
      obtain ⟨nm, hun, hnm⟩ := n 0 (Nat.succ_pos _)
      obtain ⟨p, q, tt, es2, nm2, a1, a2, a3, a4, a5, a6, a7⟩ := ih (by omega) hj1 t (by simpa using ht) y (fun q hq => n (q + 1) (by omega))
      refine ⟨p, q, tt, es2, nm2, a1, a2, a3, a4, a5, by omega, fun r hr a0 hb0 lm => sr_blk (y := i.toNat) (by rw [ei]; exact hb0) (by omega) ?_⟩
      refine SR.keyNe hst (by rw [eb]; exact h3) (hnms nm hun) hj (by rw [hk]; exact hnm) ?_
      refine sr_blk (y := c.toNat) (by rw [ec, show ((b.toNat + 1 : Nat) : Int) = b + 1 by omega]; exact k2) (by omega) ?_
      refine sr_val hs he (y := d.toNat) (t := e1.toNat) (by rw [ec, ed]; exact v) (by omega) (by rw [ed, ee]; exact k3) (by omega) (by rw [ee]; omega) (by omega) ?_
      refine SR.skip (by omega) (by rw [ee]; omega) ?_
      exact a7 r hr (e1.toNat + 1) (by rw [show ((e1.toNat + 1 : Nat) : Int) = e1 + 1 by omega]; exact k4) false
end
theorem drop_cons {α : Type} {l r : List α} {x d : α} {j : Nat} (h : l.drop j = x :: r) : j < l.length ∧ l.getD j d = x ∧ l.drop (j + 1) = r := by
  have hj : j < l.length := by
    apply Nat.lt_of_not_le
    intro hle
    rw [List.drop_eq_nil_of_le hle] at h
    cases h
  rw [List.drop_eq_getElem_cons hj] at h
  exact ⟨hj, by rw [List.getD_eq_getElem?_getD, List.getElem?_eq_getElem hj]; exact (List.cons.inj h).1, (List.cons.inj h).2⟩
theorem good_blk {s : ByteArray} {q : Pl} (h : GoodP s q) : Blk s q.f1 q.f1 := by
  have h1 := h.lo; have h2 := h.lt; have h3 := h.hi
  exact blk_self (by omega) (.inr (not_bl (jv_first h.val h1)))
/-- Down the keys. -/
theorem sr_path {s : ByteArray} (hs : s.size ≤ 2147483647) {q t : Pl} {ks : List ByteArray} (h : Path s q ks t) : ∀ (key : ByteArray) (rest : List ByteArray), ks = key :: rest → GoodP s q → ∀ (e : Nat), e ≤ s.size → q.f2 ≤ e → ∀ (keys : List ByteArray) (j : Nat), keys.drop j = key :: rest →
    ∃ r : Nat, SR s e keys (j : Int) (j : Int) q.f1.toNat true (some r) ∧ Blk s (r : Int) t.f1 := by
  induction h with
  | here => intro key rest hk; cases hk
  | @step q q2 t k1 r1 hop g2 p nb ih =>
    intro key rest hk g e he hqe keys j hd
    obtain ⟨rfl, rfl⟩ := List.cons.inj hk
    obtain ⟨hj, hget, hdr⟩ := drop_cons (d := ByteArray.empty) hd
    have hlt := g2.lt
    have hlo := g2.lo
    cases hop with
    | @mem b e0 ns kds _ tn hl ht yes no =>
      have g1 : 0 ≤ b := g.lo
      have g3 : b < e0 := g.lt
      have g4 : e0 ≤ e := hqe
      obtain ⟨pp, qq, tt, es, nm, a1, a2, a3, a4, a5, a6, a7⟩ := sr_mem hs he (kl := (j : Int)) (show JV s 6 b e0 ns kds from g.val) hj hget rfl rfl g1 g4 tn ht yes no
      have hb0 : ((b.toNat : Nat) : Int) = b := by omega
      have h5 : (rd_T27 kds (tn : Int)).f2 ≤ e0 := kid_end g.val (Or.inr rfl) g1 g3 _ (rdP_mem kds tn (by omega) (by omega))
      have opn : ∀ r : Option Nat, (∀ lm, SR s e keys (j : Int) ((j : Int) + 1) pp lm r) → SR s e keys (j : Int) (j : Int) b.toNat true r := fun r hr =>
        SR.opn (by omega) (by rw [hb0]; exact jv6 g.val) (a7 r hr (b.toNat + 1) (by omega) true)
      cases r1 with
      | nil =>
        have hlen : j + 1 = keys.length := by
          have := congrArg List.length hdr
          rw [List.length_drop] at this
          simp at this
          omega
        cases p with
        | here => exact ⟨tt + 1, opn _ (fun lm => SR.keyEnd a1 a2 a3 hj (by rw [hget]; exact a4) rfl hlen), a5⟩
      | cons k2 r2 =>
        obtain ⟨r, hr, hb⟩ := ih k2 r2 rfl g2 e he (Int.le_trans h5 g4) keys (j + 1) hdr
        have hne : j + 1 ≠ keys.length := by
          have := congrArg List.length hdr
          rw [List.length_drop] at this
          simp at this
          omega
        rw [show ((j + 1 : Nat) : Int) = (j : Int) + 1 by omega] at hr
        refine ⟨r, opn _ (fun lm => SR.keyUp a1 a2 a3 hj (by rw [hget]; exact a4) rfl hne (sr_blk (y := (rd_T27 kds (tn : Int)).f1.toNat) (by rw [show (((rd_T27 kds (tn : Int)).f1.toNat : Nat) : Int) = (rd_T27 kds (tn : Int)).f1 by omega]; exact a5) ?_ hr)), hb⟩
        omega
    | @el b e0 ns kds _ tn ht ix =>
      have g1 : 0 ≤ b := g.lo
      have g3 : b < e0 := g.lt
      have g4 : e0 ≤ e := hqe
      have hae := ae_of hs he g.val rfl g1 g3 g4
      have hb0 : ((b.toNat : Nat) : Int) = b := by omega
      have hlen : kds.length ≤ 2147483647 := by
        have := g.len
        have h6 : e0 ≤ s.size := g.hi
        omega
      have hx : (kds.map elN)[tn]? = some (elN (rd_T27 kds (tn : Int))) := by
        rw [List.getElem?_map, List.getElem?_eq_getElem ht]
        unfold rd_T27
        rw [Int.toNat_natCast, List.getD_eq_getElem?_getD, List.getElem?_eq_getElem ht]
        rfl
      have hi2 := g2.hi
      have fin : ∀ r : Option Nat, SR s (rd_T27 kds (tn : Int)).f2.toNat (keys.drop (j + 1)) 0 0 (rd_T27 kds (tn : Int)).f1.toNat true r → (keys.drop (j + 1) = [] → r = some (rd_T27 kds (tn : Int)).f1.toNat) → SR s e keys (j : Int) (j : Int) b.toNat true r := fun r h1 h2 =>
        SR.idx (by omega) (by rw [hb0]; exact jv5 g.val) hj (by rw [hget]; exact ix) hae (by rw [List.length_map]; exact hlen) hx h1 h2
      cases r1 with
      | nil =>
        cases p with
        | here =>
          refine ⟨(rd_T27 kds (tn : Int)).f1.toNat, fin _ (by rw [hdr]; exact SR.nil) (fun _ => rfl), ?_⟩
          rw [show (((rd_T27 kds (tn : Int)).f1.toNat : Nat) : Int) = (rd_T27 kds (tn : Int)).f1 by omega]
          exact good_blk g2
      | cons k2 r2 =>
        obtain ⟨r, hr, hb⟩ := ih k2 r2 rfl g2 (rd_T27 kds (tn : Int)).f2.toNat (by omega) (by omega) (keys.drop (j + 1)) 0 (by rw [List.drop_zero]; exact hdr)
        exact ⟨r, fin _ hr (fun h => by rw [hdr] at h; cases h), hb⟩
/-- What Get comes to where keys lead. -/
theorem get_path {s : ByteArray} (hs : s.size ≤ 2147483647) {keys : List ByteArray} {kd0 b0 e0 kd b e : Int} {ns0 ns : List Sp} {ks0 ks : List Pl} (hj : JT s kd0 b0 e0 ns0 ks0) (hp : Path s ⟨kd0, b0, e0, ns0, ks0⟩ keys ⟨kd, b, e, ns, ks⟩) (hg : GoodP s ⟨kd, b, e, ns, ks⟩) :
    ∃ q : Nat, SR s s.size keys 0 0 0 true (some q) ∧ (keys = [] → q = 0) ∧ GV s s.size q b.toNat e.toNat (kk kd) := by
  have h1 : 0 ≤ b := hg.lo
  have h2 : b < e := hg.lt
  have h3 : e ≤ s.size := hg.hi
  have hf : Follow s e := hg.fol
  have gv : ∀ q : Nat, Blk s (q : Int) b → GV s s.size q b.toNat e.toNat (kk kd) := fun q hb => by
    refine gv_of hs (by rwa [show ((b.toNat : Nat) : Int) = b by omega]) (by rw [show ((b.toNat : Nat) : Int) = b by omega, show ((e.toNat : Nat) : Int) = e by omega]; exact hg.val) (by omega) (by omega) (Nat.le_refl _) ?_
    rw [show ((e.toNat : Nat) : Int) = e by omega]
    unfold Follow at hf
    rcases hf with hf | ⟨hf, hf2⟩
    · exact .inl (by omega)
    · exact .inr ⟨by omega, hf2⟩
  have hb := hj.front.le
  have hgood := hj.good
  cases keys with
  | nil =>
    cases hp with
    | here => exact ⟨0, SR.nil, fun _ => rfl, gv 0 hj.front⟩
  | cons key rest =>
    have h5 := hj.hi
    have h6 := hj.lt
    obtain ⟨r, hr, hbr⟩ := sr_path hs hp key rest rfl hgood s.size (Nat.le_refl _) h5 (key :: rest) 0 rfl
    refine ⟨r, sr_blk (y := b0.toNat) ?_ (by omega) hr, (fun h => by cases h), gv r hbr⟩
    rw [show ((b0.toNat : Nat) : Int) = b0 by omega]
    exact hj.front
end Go.Proofs.YtpdohioobbfncaaGreatDoor.JFnJpWildStop