/- Every JSON text is one that Spec leaves as it is. -/
import Derived.Test.YtnmbpleneddkhaaJDFnPrSpecPlain
import Derived.Test.YtnmbpleneddkhaaVHFnPrSpecPlain
import Derived.Test.YtnmbpleneddkhaaSPFnPrSpecPlain
namespace Go.Proofs.Ytnmbpleneddkhaa.JFnPrSpecPlain
open Go.RowKit Go.Proofs.Ytnmbpleneddkhaa.PFnPrSpecPlain Go.Proofs.YtnmbpleneddkhaaW.PrintWords Go.Proofs.YtnmbpleneddkhaaW.PrintLast Go.Proofs.YtnmbpleneddkhaaW.PrintMore
set_option linter.unusedVariables false
abbrev gs (s : ByteArray) : Nat → Int := fun q => bt s q
theorem gs_at {s : ByteArray} {a : Int} (h0 : 0 ≤ a) : gs s a.toNat = bt s a := by
  show bt s (a.toNat : Int) = _
  rw [Int.toNat_of_nonneg h0]
theorem runs_other (s : ByteArray) (d : Nat) : ∀ a b : Int, 0 ≤ a → a + d = b → b ≤ s.size → (∀ q, a ≤ q → q < b → bt s q ≠ 34 ∧ bt s q ≠ 125 ∧ bt s q ≠ 93 ∧ bt s q ≠ 47) → Run (gs s) s.size b.toNat → Run (gs s) s.size a.toNat := by
  induction d with
  | zero =>
    intro a b h0 hd _ _ r
    obtain rfl : a = b := by omega
    exact r
  | succ d ih =>
    intro a b h0 hd h1 hq r
    have h := hq a (by omega) (by omega)
    refine .other (by omega) ?_ ?_ ?_ ?_ ?_
    · rw [gs_at h0]; exact h.1
    · rw [gs_at h0]; exact h.2.1
    · rw [gs_at h0]; exact h.2.2.1
    · rw [gs_at h0]; exact h.2.2.2
    · have := ih (a + 1) b (by omega) (by omega) h1 (fun q h2 h3 => hq q (by omega) h3) r
      rwa [show (a + 1).toNat = a.toNat + 1 by omega] at this
theorem nc_blk (s : ByteArray) (d : Nat) : ∀ a b : Int, 0 ≤ a → a + d = b → (∀ q, a ≤ q → q < b → bt s q ≤ 32) → nc (gs s) a.toNat = true → nc (gs s) b.toNat = true := by
  induction d with
  | zero =>
    intro a b h0 hd _ r
    obtain rfl : a = b := by omega
    exact r
  | succ d ih =>
    intro a b h0 hd hq r
    refine ih (a + 1) b (by omega) (by omega) (fun q h1 h2 => hq q (by omega) h2) ?_
    rw [show (a + 1).toNat = a.toNat + 1 by omega]
    unfold nc
    rw [gs_at h0, if_pos (hq a (by omega) (by omega))]
    exact r
theorem nc_last {s : ByteArray} {b : Int} (h0 : 0 ≤ b) (h1 : 32 < bt s b) (h2 : bt s b ≠ 44) : nc (gs s) (b + 1).toNat = true := by
  rw [show (b + 1).toNat = b.toNat + 1 by omega]
  unfold nc
  rw [gs_at h0, if_neg (by omega)]
  exact decide_eq_true h2
theorem blk_run {s : ByteArray} {a b : Int} (h : Blk s a b) (h0 : 0 ≤ a) (r : Run (gs s) s.size b.toNat) : Run (gs s) s.size a.toNat :=
  runs_other s (b - a).toNat a b h0 (by have := h.le; omega) h.hi (fun q h1 h2 => by have := h.all q h1 h2; unfold IsBl at this; omega) r
theorem blk_nc {s : ByteArray} {a b : Int} (h : Blk s a b) (h0 : 0 ≤ a) (r : nc (gs s) a.toNat = true) : nc (gs s) b.toNat = true :=
  nc_blk s (b - a).toNat a b h0 (by have := h.le; omega) (fun q h1 h2 => by have := h.all q h1 h2; unfold IsBl at this; omega) r
theorem one_run {s : ByteArray} {a : Int} (h0 : 0 ≤ a) (hl : a < s.size) (h : bt s a ≠ 34 ∧ bt s a ≠ 125 ∧ bt s a ≠ 93 ∧ bt s a ≠ 47) (r : Run (gs s) s.size (a + 1).toNat) : Run (gs s) s.size a.toNat :=
  runs_other s 1 a (a + 1) h0 (by omega) (by omega) (fun q h1 h2 => (show q = a by omega) ▸ h) r
theorem close_run {s : ByteArray} {a : Int} (h0 : 0 ≤ a) (hl : a < s.size) (h : bt s a = 125 ∨ bt s a = 93) (n : nc (gs s) a.toNat = true) (r : Run (gs s) s.size (a + 1).toNat) : Run (gs s) s.size a.toNat :=
  .close (by omega) (by rw [gs_at h0]; exact h) n (by rwa [show (a + 1).toNat = a.toNat + 1 by omega] at r)
theorem bd_bsl {g : Nat → Int} {N a p : Nat} (b : Bd g N a p) : bsl g a % 2 = 0 → bsl g p % 2 = 0 ∧ ∀ q, a ≤ q → q < p → g q = 34 → bsl g q % 2 = 1 := by
  induction b with
  | done _ _ => exact fun h => ⟨h, fun q h1 h2 => by omega⟩
  | @char i p h c1 c2 t ih =>
    intro he
    have := ih (by unfold bsl; rw [if_neg c2])
    refine ⟨this.1, fun q h1 h2 h3 => ?_⟩
    by_cases e : q = i
    · rw [e] at h3; exact absurd h3 c1
    · exact this.2 q (by omega) h2 h3
  | @esc i p h c t ih =>
    intro he
    have h1 : bsl g (i + 1) = bsl g i + 1 := by
      show (if g i = 92 then _ else _) = _
      rw [if_pos c]
    have h2 : bsl g (i + 2) % 2 = 0 := by
      show (if g (i + 1) = 92 then bsl g (i + 1) + 1 else 0) % 2 = 0
      by_cases e : g (i + 1) = 92
      · rw [if_pos e, h1]; omega
      · rw [if_neg e]
    have := ih h2
    refine ⟨this.1, fun q h3 h4 h5 => ?_⟩
    by_cases e : q = i
    · rw [e] at h5; omega
    · by_cases e1 : q = i + 1
      · rw [e1, h1]; omega
      · exact this.2 q (by omega) h4 h5
theorem strT_bd {s : ByteArray} {I j : Int} (h : StrT s I j) : 0 ≤ I → ∃ p : Nat, j = (p : Int) + 1 ∧ Bd (gs s) s.size I.toNat p := by
  have st : ∀ {i : Int} {p : Nat}, 0 ≤ i → i < s.size → bt s i ≠ 34 → bt s i ≠ 92 → Bd (gs s) s.size (i + 1).toNat p → Bd (gs s) s.size i.toNat p := fun {i p} h0 h1 h2 h3 b =>
    .char (by omega) (by rw [gs_at h0]; exact h2) (by rw [gs_at h0]; exact h3) (by rwa [show (i + 1).toNat = i.toNat + 1 by omega] at b)
  induction h with
  | @done i h c => exact fun h0 => ⟨i.toNat, by omega, .done (by omega) (by rw [gs_at h0]; exact c)⟩
  | @char i j h c1 c2 c3 _ ih =>
    intro h0
    obtain ⟨p, e, b⟩ := ih (by omega)
    exact ⟨p, e, st h0 h c1 c2 b⟩
  | @esc i j h c c2 _ ih =>
    intro h0
    obtain ⟨p, e, b⟩ := ih (by omega)
    exact ⟨p, e, .esc (by omega) (by rw [gs_at h0]; exact c) (by rwa [show (i + 2).toNat = i.toNat + 2 by omega] at b)⟩
  | @uni i j h c c2 c3 _ ih =>
    intro h0
    obtain ⟨p, e, b⟩ := ih (by omega)
    have hx : ∀ q, i + 2 ≤ q → q < i + 6 → bt s q ≠ 34 ∧ bt s q ≠ 92 := fun q h1 h2 => by have := c3 q h1 h2; unfold IsHex at this; omega
    have b5 := st (i := i + 5) (by omega) (by omega) (hx _ (by omega) (by omega)).1 (hx _ (by omega) (by omega)).2 (by rwa [show i + 5 + 1 = i + 6 by omega])
    have b4 := st (i := i + 4) (by omega) (by omega) (hx _ (by omega) (by omega)).1 (hx _ (by omega) (by omega)).2 (by rwa [show i + 4 + 1 = i + 5 by omega])
    have b3 := st (i := i + 3) (by omega) (by omega) (hx _ (by omega) (by omega)).1 (hx _ (by omega) (by omega)).2 (by rwa [show i + 3 + 1 = i + 4 by omega])
    have b2 := st (i := i + 2) (by omega) (by omega) (hx _ (by omega) (by omega)).1 (hx _ (by omega) (by omega)).2 (by rwa [show i + 2 + 1 = i + 3 by omega])
    exact ⟨p, e, .esc (by omega) (by rw [gs_at h0]; exact c) (by rwa [show (i + 2).toNat = i.toNat + 2 by omega] at b2)⟩
theorem str_run {s : ByteArray} {i j : Int} (h0 : 0 ≤ i) (hl : i < s.size) (c : bt s i = 34) (h : StrT s (i + 1) j) : (Run (gs s) s.size j.toNat → Run (gs s) s.size i.toNat) ∧ nc (gs s) j.toNat = true := by
  obtain ⟨p, e, b⟩ := strT_bd h (by omega)
  have hp := b.le; have hi := b.hi; have ha := b.at
  have hc : gs s i.toNat = 34 := by rw [gs_at h0]; exact c
  have e1 : (i + 1).toNat = i.toNat + 1 := by omega
  rw [e1] at b hp
  obtain ⟨h1, h2⟩ := bd_bsl b (by unfold bsl; rw [if_neg (by omega)])
  refine ⟨fun r => .str (p := p) (by omega) hi hc ha h1 (fun q h3 h4 h5 => h2 q (by omega) h4 h5) (by rwa [show j.toNat = p + 1 by omega] at r), ?_⟩
  rw [e]
  exact nc_last (by omega) (by show 32 < gs s p; omega) (by show gs s p ≠ 44; omega)
theorem jv_run {s : ByteArray} {kd i j : Int} {ns : List Sp} {ks : List Pl} (h : JV s kd i j ns ks) : 0 ≤ i → i < j → j ≤ s.size → (Run (gs s) s.size j.toNat → Run (gs s) s.size i.toNat) ∧ nc (gs s) j.toNat = true := by
  have flat : ∀ i j : Int, 0 ≤ i → i < j → j ≤ s.size → (∀ q, i ≤ q → q < j → bt s q ≠ 34 ∧ bt s q ≠ 125 ∧ bt s q ≠ 93 ∧ bt s q ≠ 47 ∧ 32 < bt s q ∧ bt s q ≠ 44) → (Run (gs s) s.size j.toNat → Run (gs s) s.size i.toNat) ∧ nc (gs s) j.toNat = true := by
    intro i j h0 h1 h2 hq
    refine ⟨runs_other s (j - i).toNat i j h0 (by omega) h2 (fun q h3 h4 => by have := hq q h3 h4; exact ⟨this.1, this.2.1, this.2.2.1, this.2.2.2.1⟩), ?_⟩
    have := hq (j - 1) (by omega) (by omega)
    rw [show j = j - 1 + 1 by omega]
    exact nc_last (by omega) this.2.2.2.2.1 this.2.2.2.2.2
  have br : ∀ i b : Int, 0 ≤ i → i < s.size → bt s i = 91 ∨ bt s i = 123 → Blk s (i + 1) b → (Run (gs s) s.size b.toNat → Run (gs s) s.size i.toNat) ∧ nc (gs s) b.toNat = true := by
    intro i b h0 hl c h
    exact ⟨fun r => one_run h0 hl (by omega) (blk_run h (by omega) r), blk_nc h (by omega) (nc_last h0 (by omega) (by omega))⟩
  refine jv_ind (P := fun kd i j ns ks => 0 ≤ i → i < j → j ≤ s.size → (Run (gs s) s.size j.toNat → Run (gs s) s.size i.toNat) ∧ nc (gs s) j.toNat = true)
    (Q := fun i j ks => 0 ≤ i → j ≤ s.size → (Run (gs s) s.size j.toNat → Run (gs s) s.size i.toNat) ∧ nc (gs s) j.toNat = true)
    (R := fun i j ns ks => 0 ≤ i → j ≤ s.size → (Run (gs s) s.size j.toNat → Run (gs s) s.size i.toNat) ∧ nc (gs s) j.toNat = true) ?_ ?_ ?_ ?_ ?_ ?_ ?_ h
  · intro kd i j h h0 h1 h2
    have lit : kd < 3 → (Run (gs s) s.size j.toNat → Run (gs s) s.size i.toNat) ∧ nc (gs s) j.toNat = true := fun hk => flat i j h0 h1 h2 (fun q h3 h4 => by have := lit_ch h hk h0 q h3 h4; omega)
    cases h with
    | null _ => exact lit (by omega)
    | fals _ => exact lit (by omega)
    | tru _ => exact lit (by omega)
    | num h _ => exact flat i j h0 h1 h2 (fun q h3 h4 => by have := num_ch h q h3 h4; unfold NumCh at this; omega)
    | str h t => exact str_run h0 (by omega) h t
    | @arr0 _ b h a c d =>
      have := a.le
      have z := br i b h0 (by omega) (.inl h) a
      exact ⟨fun r => z.1 (close_run (by omega) c (.inr d) z.2 r), nc_last (by omega) (by omega) (by omega)⟩
    | @obj0 _ b h a c d =>
      have := a.le
      have z := br i b h0 (by omega) (.inr h) a
      exact ⟨fun r => z.1 (close_run (by omega) c (.inl d) z.2 r), nc_last (by omega) (by omega) (by omega)⟩
    | arr h a b => cases b
    | obj h a b => cases b
  · intro i b j ks h a _ ih h0 h1 h2
    have := a.le
    have z := ih (by omega) h2
    have c : bt s i = 91 := by cases h <;> assumption
    exact ⟨fun r => (br i b h0 (by omega) (.inl c) a).1 (z.1 r), z.2⟩
  · intro i b j ns ks h a _ ih h0 h1 h2
    have := a.le
    have z := ih (by omega) h2
    have c : bt s i = 123 := by cases h <;> assumption
    exact ⟨fun r => (br i b h0 (by omega) (.inr c) a).1 (z.1 r), z.2⟩
  · intro i a b kd ns ks hl h ih e f g h0 h2
    have := e.le
    have z := ih h0 hl.1 (by omega)
    exact ⟨fun r => z.1 (blk_run e (by omega) (close_run (by omega) f (.inr g) (blk_nc e (by omega) z.2) r)), nc_last (by omega) (by omega) (by omega)⟩
  · intro i a b c j kd ns ks r hl h ih e f g k _ ih2 h0 h2
    have := e.le; have := e.hi; have := k.le
    have z := ih h0 hl.1 (by omega)
    have y := ih2 (by omega) h2
    exact ⟨fun r => z.1 (blk_run e (by omega) (one_run (by omega) f (by omega) (blk_run k (by omega) (y.1 r)))), y.2⟩
  · intro i a b c d e kd ns ks g t k l m n hl h ih o p q h0 h2
    have := t.lt; have := k.le; have := n.le; have := o.le; have := o.hi
    have z := ih (by omega) hl.1 (by omega)
    have w := str_run h0 g.1 g.2 t
    exact ⟨fun r => w.1 (blk_run k (by omega) (one_run (by omega) l (by omega) (blk_run n (by omega) (z.1 (blk_run o (by omega) (close_run (by omega) p (.inl q) (blk_nc o (by omega) z.2) r)))))), nc_last (by omega) (by omega) (by omega)⟩
  · intro i a b c d e f j kd ns ns2 ks ks2 g t k l m n hl h ih o p q r _ ih2 h0 h2
    have := t.lt; have := k.le; have := n.le; have := o.le; have := o.hi; have := r.le
    have z := ih (by omega) hl.1 (by omega)
    have y := ih2 (by omega) h2
    have w := str_run h0 g.1 g.2 t
    exact ⟨fun x => w.1 (blk_run k (by omega) (one_run (by omega) l (by omega) (blk_run n (by omega) (z.1 (blk_run o (by omega) (one_run (by omega) p (by omega) (blk_run r (by omega) (y.1 x)))))))), y.2⟩
theorem jt_run {s : ByteArray} {kd i j : Int} {ns : List Sp} {ks : List Pl} (h : JT s kd i j ns ks) : Run (gs s) s.size 0 := by
  have h1 := h.front.le
  have e : Run (gs s) s.size (s.size : Int).toNat := by
    rw [Int.toNat_natCast]
    exact .done
  have := blk_run h.front (by omega) ((jv_run h.val h1 h.lt h.hi).1 (blk_run h.back (by have := h.lt; omega) e))
  exact this
end Go.Proofs.Ytnmbpleneddkhaa.JFnPrSpecPlain