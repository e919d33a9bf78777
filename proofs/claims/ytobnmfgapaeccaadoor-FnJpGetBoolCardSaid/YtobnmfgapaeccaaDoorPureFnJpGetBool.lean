/- GetBoolean gives true and false where they stand, and an error for every other value; conditions: none beside the statement's own. -/
import Derived.Test.YtobnmfgapaeccaaDoorPFnJpGetBoolx
import Derived.Test.YtobnmfgapaeccaaDoorHGBFnJpGetBool
namespace Go.Proofs.YtobnmfgapaeccaaDoor.Pure
open Go.RowKit Go.Proofs.YtobnmfgapaeccaaDoor.PFnJpGetBool Go.Proofs.YtobnmfgapaeccaaDoor.JFnJpGetBool Go.Proofs.YtobnmfgapaeccaaDoorW.PrintWords Go.Proofs.YtobnmfgapaeccaaDoorW.PrintLast Go.Proofs.YtobnmfgapaeccaaDoorW.PrintMore
set_option linter.unusedSimpArgs false
set_option linter.unusedVariables false
theorem fits_val (l : List ByteArray) (hl : (l.length : Int) ≤ 9223372036854775807) : ∃ t, Ev (fun k => zF_.f k l) t ∧ (t = true → l.length ≤ 2147483647 ∧ ∀ x ∈ l, x.size ≤ 2147483647) := by
  have go : ∀ (d i : Nat), i ≤ l.length → l.length - i ≤ d → ∃ t, Ev (fun k => zF_.l0 k l (l.length : Int) (i : Int)) t ∧ (t = true → ∀ x ∈ l.drop i, x.size ≤ 2147483647) := by
    intro d
    have stop : ∃ t, Ev (fun k => zF_.l0 k l (l.length : Int) (l.length : Int)) t ∧ (t = true → ∀ x ∈ l.drop l.length, x.size ≤ 2147483647) :=
      ⟨_, Ev.step (fun k => by rw [zF_.l0]) (Ev.neg (by omega) (Ev.now _)), fun _ x hx => by rw [List.drop_length] at hx; cases hx⟩
    induction d with
    | zero =>
      intro i h1 hd
      obtain rfl : i = l.length := by omega
      exact stop
    | succ d ih =>
      intro i h1 hd
      by_cases hi : i < l.length
      · by_cases c : ((rdOf ByteArray.empty l (i : Int)).size : Int) > 2147483647
        · exact ⟨_, Ev.step (fun k => by rw [zF_.l0]) (Ev.pos (by omega) (Ev.pos (by omega) (Ev.pos (by omega) (Ev.pos c (Ev.now _))))), fun h => by cases h⟩
        · obtain ⟨t, e, h⟩ := ih (i + 1) (by omega) (by omega)
          refine ⟨t, Ev.step (fun k => by rw [zF_.l0]) (Ev.pos (by omega) (Ev.pos (by omega) (Ev.pos (by omega) (Ev.neg c ?_)))), fun ht x hx => ?_⟩
          · rw [w64 (by omega) (by omega)]
            exact e
          · rw [List.drop_eq_getElem_cons hi] at hx
            rcases List.mem_cons.1 hx with rfl | hx
            · unfold rdOf at c
              rw [Int.toNat_natCast, List.getD_eq_getElem?_getD, List.getElem?_eq_getElem hi] at c
              simp at c
              omega
            · exact h ht x hx
      · obtain rfl : i = l.length := by omega
        exact stop
  unfold zF_.f
  by_cases c : (l.length : Int) > 2147483647
  · exact ⟨_, Ev.pos c (Ev.now _), fun h => by cases h⟩
  · obtain ⟨t, e, h⟩ := go l.length 0 (by omega) (by omega)
    exact ⟨t, Ev.neg c e, fun ht => ⟨by omega, fun x hx => h ht x (by rwa [List.drop_zero])⟩⟩
theorem FnJpGetBool : laws_FnJpGetBool.Pure := by
  intro s l _ hl hx
  have hl2 : (l.length : Int) ≤ 9223372036854775807 := by have : l.length ≤ 9223372036854775807 := hl; omega
  have skip : Ev (fun k => laws_FnJpGetBool.j0 k s l true) true := Ev.step (fun k => by rw [laws_FnJpGetBool.j0]) (Ev.pos rfl (Ev.now _))
  have all : Ev (fun k => laws_FnJpGetBool.f k s l) true := by
    unfold laws_FnJpGetBool.f
    by_cases c : (s.size : Int) > 2147483647
    · exact Ev.pos c skip
    · obtain ⟨t, et, ht⟩ := fits_val l hl2
      cases t with
      | false => exact Ev.neg c (Ev.bind et skip)
      | true =>
        obtain ⟨hln, hsz⟩ := ht rfl
        obtain ⟨kd, b, e, ns, ks, ok, ef, hf⟩ := found_all s l hl2 (fun x h => by have := hsz x h; omega)
        have main : Ev (fun k => laws_FnJpGetBool.j0 k s l false) true := by
          refine Ev.step (fun k => by rw [laws_FnJpGetBool.j0]) (Ev.neg Bool.false_ne_true ?_)
          refine Ev.bind ef ?_
          cases ok with
          | false => exact Ev.neg Bool.false_ne_true (Ev.now _)
          | true =>
            have hi : impl_JpGetBool.f s l = some (kd == 2, kd == 1 || kd == 2) := by
              unfold impl_JpGetBool.f
              rw [if_pos ⟨hsz, hln⟩, lim_of (fun k => jF_.mono s l k) ef]
            refine Ev.pos rfl (Ev.bd hi ?_)
            dsimp only
            by_cases c2 : kd = 2
            · subst c2
              exact Ev.pos rfl (Ev.pos rfl (Ev.pos rfl (Ev.now _)))
            · have e2 : (kd == 2) = false := beq_eq_false_iff_ne.2 c2
              rw [e2, Bool.or_false]
              refine Ev.neg c2 (Ev.pos (beq_iff_eq.2 rfl) ?_)
              cases h1 : (kd == 1) with
              | true => exact Ev.pos rfl (Ev.now _)
              | false => exact Ev.neg Bool.false_ne_true (Ev.now _)
        exact Ev.neg c (Ev.bind et main)
  exact all.imp fun k h => h k (Nat.le_refl _)
end Go.Proofs.YtobnmfgapaeccaaDoor.Pure
