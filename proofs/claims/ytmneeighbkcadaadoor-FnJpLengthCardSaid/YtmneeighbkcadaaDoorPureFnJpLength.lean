/- The inner count gives how many elements or members there are; conditions: none beside the statement's own. -/
import Derived.Test.YtmneeighbkcadaaDoorPFnJpLengthx
import Derived.Test.YtmneeighbkcadaaDoorFXFnJpLength
namespace Go.Proofs.YtmneeighbkcadaaDoor.Pure
open Go.RowKit Go.Proofs.YtmneeighbkcadaaDoor.PFnJpLength Go.Proofs.YtmneeighbkcadaaDoor.JFnJpLength Go.Proofs.YtmneeighbkcadaaDoorW.PrintWords Go.Proofs.YtmneeighbkcadaaDoorW.PrintLast Go.Proofs.YtmneeighbkcadaaDoorW.PrintMore
set_option linter.unusedSimpArgs false
set_option linter.unusedVariables false
theorem fits_ev (l : List ByteArray) (hl : (l.length : Int) ≤ 9223372036854775807) : ∃ t, Ev (fun k => zF_.f k l) t := by
  have go : ∀ (d : Nat) (i : Int), 0 ≤ i → i ≤ l.length → (l.length : Int) - i ≤ d → ∃ t, Ev (fun k => zF_.l0 k l (l.length : Int) i) t := by
    intro d
    induction d with
    | zero =>
      intro i h0 h1 hd
      exact ⟨_, Ev.step (fun k => by rw [zF_.l0]) (Ev.neg (by omega) (Ev.now _))⟩
    | succ d ih =>
      intro i h0 h1 hd
      by_cases hi : i < (l.length : Int)
      · by_cases c : ((rdOf ByteArray.empty l i).size : Int) > 2147483647
        · exact ⟨_, Ev.step (fun k => by rw [zF_.l0]) (Ev.pos hi (Ev.pos h0 (Ev.pos hi (Ev.pos c (Ev.now _)))))⟩
        · obtain ⟨t, e⟩ := ih (i + 1) (by omega) (by omega) (by omega)
          refine ⟨t, Ev.step (fun k => by rw [zF_.l0]) (Ev.pos hi (Ev.pos h0 (Ev.pos hi (Ev.neg c ?_))))⟩
          rw [w64 (by omega) (by omega)]
          exact e
      · exact ⟨_, Ev.step (fun k => by rw [zF_.l0]) (Ev.neg hi (Ev.now _))⟩
  unfold zF_.f
  by_cases c : (l.length : Int) > 2147483647
  · exact ⟨_, Ev.pos c (Ev.now _)⟩
  · obtain ⟨t, e⟩ := go l.length 0 (by omega) (by omega) (by omega)
    exact ⟨t, Ev.neg c e⟩
theorem FnJpLength : laws_FnJpLength.Pure := by
  intro s l _ hl hx
  have hl2 : (l.length : Int) ≤ 9223372036854775807 := by have : l.length ≤ 9223372036854775807 := hl; omega
  have hx2 : ∀ x ∈ l, (x.size : Int) ≤ 9223372036854775807 := fun x h => by have : x.size ≤ 9223372036854775807 := hx x h; omega
  have skip : Ev (fun k => laws_FnJpLength.j0 k s l true) true := Ev.step (fun k => by rw [laws_FnJpLength.j0]) (Ev.pos rfl (Ev.now _))
  have all : Ev (fun k => laws_FnJpLength.f k s l) true := by
    unfold laws_FnJpLength.f
    by_cases c : (s.size : Int) > 2147483647
    · exact Ev.pos c skip
    · obtain ⟨t, et⟩ := fits_ev l hl2
      cases t with
      | false => exact Ev.neg c (Ev.bind et skip)
      | true =>
        obtain ⟨kd, b, e, ns, ks, ok, ef, hf⟩ := found_ev s l hl2 hx2
        have main : Ev (fun k => laws_FnJpLength.j0 k s l false) true := by
          refine Ev.step (fun k => by rw [laws_FnJpLength.j0]) (Ev.neg Bool.false_ne_true ?_)
          refine Ev.bind ef ?_
          cases ok with
          | false => exact Ev.neg Bool.false_ne_true (Ev.now _)
          | true =>
            obtain ⟨h64, hg⟩ := hf rfl
            have g0 : 0 ≤ b := hg.lo
            have g1 : b < e := hg.lt
            have g2 : e ≤ s.size := hg.hi
            refine Ev.pos rfl ?_
            by_cases c5 : kd = 5
            · refine Ev.pos c5 (Ev.pos g0 (Ev.pos (by show b < _; omega) ?_))
              refine Ev.bind (length_ev (by omega) hg (.inl c5)) ?_
              exact Ev.pos rfl (Ev.eq (beq_iff_eq.2 rfl) (Ev.now _))
            by_cases c6 : kd = 6
            · refine Ev.neg c5 (Ev.pos c6 (Ev.pos g0 (Ev.pos (by show b < _; omega) ?_)))
              refine Ev.bind (length_ev (by omega) hg (.inr c6)) ?_
              exact Ev.pos rfl (Ev.eq (beq_iff_eq.2 rfl) (Ev.now _))
            · exact Ev.neg c5 (Ev.neg c6 (Ev.now _))
        exact Ev.neg c (Ev.bind et main)
  exact all.imp fun k h => h k (Nat.le_refl _)
end Go.Proofs.YtmneeighbkcadaaDoor.Pure
