/- gjson's operators by number, told by hand: the row of six texts is made, and one of them read; no condition beside those that each theorem states. -/
import Derived.Test.YtemjfolpndkgpaaDoorPFnGjMatchesTextx0
namespace Go.Proofs.YtemjfolpndkgpaaDoor.PFnGjMatchesText
open Go.RowKit Go.Proofs.YtemjfolpndkgpaaDoorW.PrintWords Go.Proofs.YtemjfolpndkgpaaDoorW.PrintLast Go.Proofs.YtemjfolpndkgpaaDoorW.PrintMore
set_option linter.unusedVariables false
set_option linter.unusedSimpArgs false

def laws_gjOp.f (a0 : Int) : Option (ByteArray) := (some (([(⟨#[61, 61]⟩ : ByteArray), (⟨#[33, 61]⟩ : ByteArray), (⟨#[60]⟩ : ByteArray), (⟨#[62, 61]⟩ : ByteArray), (⟨#[62]⟩ : ByteArray), (⟨#[60, 61]⟩ : ByteArray)] : List ByteArray) : List ByteArray)).bind fun y101 => (if 0 ≤ (Int.tmod (wrap64 ((Int.tmod a0 6) + 6)) 6) then (if (Int.tmod (wrap64 ((Int.tmod a0 6) + 6)) 6) < (y101.length : Int) then (some (rdOf ByteArray.empty y101 (Int.tmod (wrap64 ((Int.tmod a0 6) + 6)) 6))) else (none)) else (none))
theorem laws_gjOp.rd (j : Int) (h : 0 ≤ j ∧ j < 6) (hl : j.toNat < [Value.string ⟨#[61, 61]⟩, Value.string ⟨#[33, 61]⟩, Value.string ⟨#[60]⟩, Value.string ⟨#[62, 61]⟩, Value.string ⟨#[62]⟩, Value.string ⟨#[60, 61]⟩].length) :
    [Value.string ⟨#[61, 61]⟩, Value.string ⟨#[33, 61]⟩, Value.string ⟨#[60]⟩, Value.string ⟨#[62, 61]⟩, Value.string ⟨#[62]⟩, Value.string ⟨#[60, 61]⟩][j.toNat]'hl = .string (rdOf ByteArray.empty [(⟨#[61, 61]⟩ : ByteArray), (⟨#[33, 61]⟩ : ByteArray), (⟨#[60]⟩ : ByteArray), (⟨#[62, 61]⟩ : ByteArray), (⟨#[62]⟩ : ByteArray), (⟨#[60, 61]⟩ : ByteArray)] j) := by
  have hj : j = 0 ∨ j = 1 ∨ j = 2 ∨ j = 3 ∨ j = 4 ∨ j = 5 := by omega
  rcases hj with rfl | rfl | rfl | rfl | rfl | rfl <;> rfl
theorem laws_gjOp.below (w : World) (o : Obj) : Below w.heap.size w (w.alloc o) := by
  repeat (first | exact Below.refl _ _ | apply below_alloc)
set_option maxRecDepth 100000 in
theorem laws_gjOp.calls (a0 : Int) (r : ByteArray) (w : World) (h : laws_gjOp.f a0 = some r) :
    Calls Tryd.prog 9 #[.int .i64 a0] w fun e w' => e = .returned (.string r) ∧ Below w.heap.size w w' := by
  unfold laws_gjOp.f at h
  rw [Option.bind_some] at h
  have hj : 0 ≤ (wrap64 (a0.tmod 6 + 6)).tmod 6 ∧ (wrap64 (a0.tmod 6 + 6)).tmod 6 < 6 := by
    by_cases h0 : 0 ≤ (wrap64 (a0.tmod 6 + 6)).tmod 6
    · rw [if_pos h0] at h
      by_cases h1 : (wrap64 (a0.tmod 6 + 6)).tmod 6 < 6
      · exact ⟨h0, h1⟩
      · rw [if_neg (by simpa using h1)] at h; cases h
    · rw [if_neg h0] at h; cases h
  rw [if_pos hj.1, if_pos (by simpa using hj.2)] at h
  obtain rfl := Option.some.inj h
  clear h
  go_enter Tryd.func9, Tryd.ntmps9
  go_wp2
  all_goals (first | exact absurd hj (by assumption) | skip)
  all_goals (rw [laws_gjOp.rd _ hj]; go_ret; exact ⟨rfl, laws_gjOp.below _ _⟩)
end Go.Proofs.YtemjfolpndkgpaaDoor.PFnGjMatchesText
