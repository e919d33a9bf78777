/- An object of a JSON text as objectEachConfig goes over it; no condition beside those that each theorem states. -/
import Derived.Test.YtpdohioobbfncaaGreatDoorFKFnJrEach
import Derived.Test.YtpdohioobbfncaaGreatDoorFUFnJrEach
import Derived.Test.YtpdohioobbfncaaGreatDoorHOAFnJrEach
namespace Go.Proofs.YtpdohioobbfncaaGreatDoor.JFnJrEach
open Go.RowKit Go.Proofs.YtpdohioobbfncaaGreatDoor.PFnJrEach Go.Proofs.YtpdohioobbfncaaGreatDoorW.PrintWords Go.Proofs.YtpdohioobbfncaaGreatDoorW.PrintLast Go.Proofs.YtpdohioobbfncaaGreatDoorW.PrintMore
set_option linter.unusedVariables false
set_option linter.unusedSimpArgs false
/-- A member, as the grammar tells it. -/
theorem om_of {s : ByteArray} (hs : s.size ≤ 2147483647) {e : Nat} (he : e ≤ s.size) {i a b c d e1 kd : Int} {ns : List Sp} {ks : List Pl} (h0 : 0 ≤ i) (g : i < s.size ∧ bt s i = 34) (t1 : StrT s (i + 1) a) (k1 : Blk s a b) (h3 : bt s b = 58) (k2 : Blk s (b + 1) c) (hl : c < d) (v : JV s kd c d ns ks) (k3 : Blk s d e1) (h5 : e1 < e) (h6 : bt s e1 = 44 ∨ bt s e1 = 125) :
    ∃ (es : Bool) (nm : List Int), OMs s e ⟨i.toNat, a.toNat, b.toNat, es, nm, c.toNat, d.toNat, kk kd⟩ ∧ NT s e d.toNat e1.toNat := by
  have t1l := t1.lt
  have k1l := k1.le
  have k2l := k2.le
  have k3l := k3.le
  have ei : ((i.toNat : Nat) : Int) = i := by omega
  have ea : ((a.toNat : Nat) : Int) = a := by omega
  have eb : ((b.toNat : Nat) : Int) = b := by omega
  have ec : ((c.toNat : Nat) : Int) = c := by omega
  have ed : ((d.toNat : Nat) : Int) = d := by omega
  have ee : ((e1.toNat : Nat) : Int) = e1 := by omega
  obtain ⟨es, hst, hnms⟩ := st_of hs he (p := i.toNat) (q := a.toNat) (t := b.toNat) (by rw [ei]; exact g.2) (by rw [ei, ea]; exact t1) (by rw [ea, eb]; exact k1) (by omega)
  obtain ⟨nm, _, hun⟩ := unq_un s (by omega) i a h0 t1
  have hbn : Blk s (d.toNat : Int) (e1.toNat : Int) := by rw [ed, ee]; exact k3
  refine ⟨es, nm, ⟨hst, by rw [eb]; exact h3, hnms nm hun, ?_⟩, nt_of hs hbn (by omega) he⟩
  exact gv_of hs (a := b.toNat + 1) (x := c.toNat) (y := d.toNat) (by rw [ec, show ((b.toNat + 1 : Nat) : Int) = b + 1 by omega]; exact k2) (by rw [ec, ed]; exact v) (by omega) (by omega) he (fol_of hbn (by omega) (by rw [ee]; omega))
/-- An object's members. -/
theorem oe_of {s : ByteArray} (hs : s.size ≤ 2147483647) {e : Nat} (he : e ≤ s.size) {kd i j : Int} {ns : List Sp} {ks : List Pl} (h : JV s kd i j ns ks) : kd = 6 → 0 ≤ i → i < j → j ≤ e → ∃ els, OE s e i.toNat els (j - 1).toNat := by
  have self : ∀ i : Int, 0 ≤ i → i < e → bt s i = 123 → NT s e i.toNat i.toNat := fun i h0 h1 hc => by
    refine nt_of hs (blk_self (by omega) (.inr ?_)) (by omega) he
    rw [show ((i.toNat : Nat) : Int) = i by omega, hc]
    unfold IsBl
    omega
  refine jv_ind (P := fun kd i j ns ks => kd = 6 → 0 ≤ i → i < j → j ≤ e → ∃ els, OE s e i.toNat els (j - 1).toNat)
    (Q := fun _ _ _ => True)
    (R := fun i j ns ks => 0 ≤ i → j ≤ e → i < j ∧ ∃ els, OL s e i.toNat els (j - 1).toNat) ?_ ?_ ?_ ?_ ?_ ?_ ?_ h
  · intro kd i j h hk h0 hij hj
    subst hk
    have h123 := jv6 h
    cases h with
    | @obj0 _ b _ h1 h2 h3 =>
      have := h1.le
      refine ⟨[], self i h0 (by omega) h123, by omega, by rw [show ((i.toNat : Nat) : Int) = i by omega]; exact h123, b.toNat, ?_, by omega, by omega, .inl ⟨by rw [show ((b.toNat : Nat) : Int) = b by omega]; exact h3, rfl, by rw [show b + 1 - 1 = b by omega]⟩⟩
      exact nt_of hs (by rwa [show ((i.toNat + 1 : Nat) : Int) = i + 1 by omega, show ((b.toNat : Nat) : Int) = b by omega]) (by omega) he
    | obj _ _ h2 => nomatch h2
  · intro i b j ks h _ _ _ hk
    omega
  · intro i b j ns ks h hb hjm ih hk h0 hij hj
    have h123 := jv6 h
    have := hb.le
    obtain ⟨i1, els, hol⟩ := ih (by omega) hj
    refine ⟨els, self i h0 (by omega) h123, by omega, by rw [show ((i.toNat : Nat) : Int) = i by omega]; exact h123, b.toNat, ?_, by omega, by omega, .inr hol⟩
    exact nt_of hs (by rwa [show ((i.toNat + 1 : Nat) : Int) = i + 1 by omega, show ((b.toNat : Nat) : Int) = b by omega]) (by omega) he
  · intros; trivial
  · intros; trivial
  · intro i a b c d e1 kd ns ks g t1 k1 h2 h3 k2 hl v _ k3 h5 h6 h0 hj
    have t1l := t1.lt; have k1l := k1.le; have k2l := k2.le; have k3l := k3.le
    obtain ⟨es, nm, hm, hnt⟩ := om_of hs he h0 g t1 k1 h3 k2 hl.1 v k3 (by omega) (.inr h6)
    refine ⟨by omega, [⟨i.toNat, a.toNat, b.toNat, es, nm, c.toNat, d.toNat, kk kd⟩], ?_⟩
    rw [show e1 + 1 - 1 = e1 by omega]
    exact OL.last hm hnt (by show d.toNat ≤ e1.toNat; omega) (by omega) (by rw [show ((e1.toNat : Nat) : Int) = e1 by omega]; exact h6)
  · intro i a b c d e1 f j1 kd ns ns2 ks ks2 g t1 k1 h2 h3 k2 hl v _ k3 h5 h6 k4 hjm ih h0 hj1
    have t1l := t1.lt; have k1l := k1.le; have k2l := k2.le; have k3l := k3.le; have k4l := k4.le
    obtain ⟨i1, els, hol⟩ := ih (by omega) hj1
    obtain ⟨es, nm, hm, hnt⟩ := om_of hs he h0 g t1 k1 h3 k2 hl.1 v k3 (by omega) (.inl h6)
    refine ⟨by omega, ⟨i.toNat, a.toNat, b.toNat, es, nm, c.toNat, d.toNat, kk kd⟩ :: els, OL.more hm hnt (by show d.toNat ≤ e1.toNat; omega) (by omega) (by rw [show ((e1.toNat : Nat) : Int) = e1 by omega]; exact h6) ?_ (by omega) hol⟩
    exact nt_of hs (by rwa [show ((e1.toNat + 1 : Nat) : Int) = e1 + 1 by omega, show ((f.toNat : Nat) : Int) = f by omega]) (by omega) he
end Go.Proofs.YtpdohioobbfncaaGreatDoor.JFnJrEach