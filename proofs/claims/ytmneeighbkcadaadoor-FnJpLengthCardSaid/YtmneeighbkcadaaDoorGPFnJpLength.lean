/- What the row lists of strconv's two error variables gives what the walk asks of the world; no condition beside those that each theorem states. -/
import Derived.Test.YtmneeighbkcadaaDoorGXFnJpLength
import Derived.Test.YtmneeighbkcadaaDoorRows
import Derived.Stop.LaidErr
import Derived.Test.YtmneeighbkcadaaDoorGCFnJpLength
namespace Go.Proofs.YtmneeighbkcadaaDoor.PFnJpLength
open Go.RowKit
/-- A struct of one field, of type t, at its beginning. -/
def one_field (d : Option TypeDesc) (t : TypeId) : Bool := match d with
  | some (.struct fs) => (match fs.toList with
    | [f] => f.type == t && f.offset == 0
    | _ => false)
  | _ => false
theorem star_ : "*" ++ "errors.errorString" = "*errors.errorString" := by decide
set_option maxRecDepth 100000 in
theorem row_err (u : TypeId) (h : Tryd.prog.typeName? 3 u = some "*errors.errorString") : u = 75 :=
  typeName_ptr_named (nm := "errors.errorString") (by rw [star_]; kernel_rfl) (by kernel_rfl) (by decide) u (by rw [star_]; exact h)
set_option maxRecDepth 100000 in
theorem sent_ {n : String} {text : List UInt8} {r : List (String × DataW Unit)} {W : World} {g : Nat}
    (h : laidMet Tryd.prog ((n, .iface "*errors.errorString" (.ptr (.agg [.lit (.string text)]))) :: r) W)
    (hg : Tryd.prog.globalNamed n = some g) (ht : (Tryd.prog.globals[g]?).map (·.type) = some 38) : Held g W := by
  have hi : Tryd.prog.underlying 38 = some (.interface #[("Error", 76)]) := by kernel_rfl
  have hp : Tryd.prog.underlying 75 = some (.pointer 94) := by kernel_rfl
  obtain ⟨f, he, hft, hfo⟩ : ∃ f : Field, Tryd.prog.underlying 94 = some (.struct #[f]) ∧ f.type = 9 ∧ f.offset = 0 := by
    have hq : one_field (Tryd.prog.underlying 94) 9 = true := by kernel_rfl
    cases hu : Tryd.prog.underlying 94 with
    | none => rw [hu] at hq; cases hq
    | some d =>
      rw [hu] at hq
      cases d <;> try cases hq
      rename_i fs
      unfold one_field at hq
      dsimp only at hq
      split at hq
      · rename_i f hf
        rw [Bool.and_eq_true, beq_iff_eq, beq_iff_eq] at hq
        obtain ⟨fs⟩ := fs
        dsimp only at hf
        subst hf
        exact ⟨f, rfl, hq.1, hq.2⟩
      · cases hq
  have hs : Tryd.prog.underlying 9 = some .string := by kernel_rfl
  obtain ⟨a, s, hv, _, _, _⟩ := laid_sentinel h hg ht hi row_err hp he hft hfo hs (by kernel_rfl) (by kernel_rfl)
  have h0 := World.var?_cell hg hv 0
  exact ⟨_, _, by simpa using h0⟩
set_option maxRecDepth 100000 in
theorem glob_of_laid {W : World} (h : laidMet Tryd.prog Rows.fnJpLengthRow.laid W) : Glob W := by
  have h1 : laidMet Tryd.prog (_ :: ("pub-tetrapla/pub/jsonparser.MalformedArrayError", .iface "*errors.errorString" (.ptr (.agg [.lit (.string _)]))) :: ("pub-tetrapla/pub/jsonparser.MalformedObjectError", .iface "*errors.errorString" (.ptr (.agg [.lit (.string _)]))) :: []) W := h
  have c2 := cfg_of_reads (g := 2) (t := 69) (tb := 4) (ti := 3) (Lib.laidMet.reads h (.head _)) (by kernel_rfl) (by kernel_rfl) (by kernel_rfl) (by kernel_rfl) (by kernel_rfl) (by kernel_rfl) (by kernel_rfl)
  exact ⟨sent_ h1.tail (by kernel_rfl) (by kernel_rfl), sent_ h1.tail.tail (by kernel_rfl) (by kernel_rfl), c2.1, c2.2.1, c2.2.2⟩
end Go.Proofs.YtmneeighbkcadaaDoor.PFnJpLength