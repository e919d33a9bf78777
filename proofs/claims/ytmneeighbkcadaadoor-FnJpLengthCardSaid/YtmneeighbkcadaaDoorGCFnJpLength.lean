/- A package variable that is a struct of two bools and an int, listed: its cells; no condition beside those that each theorem states. -/
import Derived.Deep.Strs
import Derived.Lib.LaidU8
import Derived.Test.YtmneeighbkcadaaDoorProg
namespace Go.Proofs.YtmneeighbkcadaaDoor.PFnJpLength
open Go.RowKit Go.ChangeShapes Go.Deep
/-- A struct of three scalars: two bools and an int. -/
def cfg_fields (d : Option TypeDesc) (tb ti : TypeId) : Bool := match d with
  | some (.struct fs) => (match fs.toList with
    | [a, b, c] => a.type == tb && a.offset == 0 && b.type == tb && b.offset == 1 && c.type == ti && c.offset == 2
    | _ => false)
  | _ => false
theorem cfg_of_reads {P : Program} {W : World} {n : String} {g t tb ti : Nat} {b0 b1 : Bool} {z : Int} (h : Lib.VarReads P W n (.agg [.lit (.bool b0), .lit (.bool b1), .lit (.int .i64 z)]))
    (hg : P.globalNamed n = some g) (ht : (P.globals[g]?).map (·.type) = some t) (hs : cfg_fields (P.underlying t) tb ti = true) (hb : P.underlying tb = some .bool) (hi : P.underlying ti = some (.int .i64)) (cb : P.cellsOf tb = 1) (ci : P.cellsOf ti = 1) :
    W.cell? ⟨g, 0, none⟩ = some (.bool b0) ∧ W.cell? ⟨g, 1, none⟩ = some (.bool b1) ∧ W.cell? ⟨g, 2, none⟩ = some (.int .i64 z) := by
  obtain ⟨g', t', cs, fuel, p, h1, h2, h3, h4⟩ := h
  obtain rfl := Option.some.inj (hg.symm.trans h1)
  obtain rfl := Option.some.inj (ht.symm.trans h2)
  obtain ⟨fa, fb, fc, hu, a1, a2, a3, a4, a5, a6⟩ : ∃ fa fb fc : Field, P.underlying t = some (.struct #[fa, fb, fc]) ∧ fa.type = tb ∧ fa.offset = 0 ∧ fb.type = tb ∧ fb.offset = 1 ∧ fc.type = ti ∧ fc.offset = 2 := by
    cases hd : P.underlying t with
    | none => rw [hd] at hs; cases hs
    | some d =>
      rw [hd] at hs
      cases d <;> try cases hs
      rename_i fs
      unfold cfg_fields at hs
      dsimp only at hs
      split at hs
      · rename_i a b c hf
        obtain ⟨fs⟩ := fs
        dsimp only at hf
        subst hf
        simp only [Bool.and_eq_true, beq_iff_eq] at hs
        obtain ⟨⟨⟨⟨⟨x1, x2⟩, x3⟩, x4⟩, x5⟩, x6⟩ := hs
        exact ⟨a, b, c, rfl, x1, x2, x3, x4, x5, x6⟩
      · cases hs
  obtain ⟨y0, y1, y2, m, hx, _, k0, k1, k2⟩ := trod_struct3 hu h4
  rw [a1, a2, cb] at k0
  rw [a3, a4, cb] at k1
  rw [a5, a6, ci] at k2
  obtain ⟨v0, e0, rfl⟩ := DataW.trod_bool hb k0
  obtain ⟨v1, e1, rfl⟩ := DataW.trod_bool hb k1
  obtain ⟨v2, e2, rfl, _⟩ := DataW.trod_int hi k2
  simp only [Prod.mk.injEq, DataW.agg.injEq, List.cons.injEq, DataW.lit.injEq, Lit.bool.injEq, Lit.int.injEq, and_true, true_and] at hx
  obtain ⟨⟨rfl, rfl, rfl⟩, _⟩ := hx
  have at_ : ∀ (j : Nat) (v : Value), (cs.toList.drop j).take 1 = [v] → W.cell? ⟨g, j, none⟩ = some v := fun j v e => by
    have h5 := World.var?_cell hg h3 j
    rw [h5]
    have h6 : (cs.toList.drop j)[0]? = some v := by
      have : ((cs.toList.drop j).take 1)[0]? = some v := by rw [e]; rfl
      rwa [List.getElem?_take_of_lt (by omega)] at this
    rw [List.getElem?_drop] at h6
    simpa using h6
  exact ⟨at_ 0 _ e0, at_ 1 _ e1, at_ 2 _ e2⟩
end Go.Proofs.YtmneeighbkcadaaDoor.PFnJpLength
