/- What is asked of the world: each package variable that is listed as an error holds one that is not nil; no condition beside those that each theorem states. -/
import Derived.Below
import Derived.Laws.Slices
import Derived.Test.YtmneeighbkcadaaDoorProg
namespace Go.Proofs.YtmneeighbkcadaaDoor.PFnJpLength
open Go.RowKit
/-- A package-level variable holds an error that is not nil. -/
def Held (g : Nat) (w : World) : Prop := ∃ te pe, w.cell? ⟨g, 0, none⟩ = some (.iface te pe)
theorem Held.below {g : Nat} {w w' : World} (h : Held g w) (hb : Below w.heap.size w w') : Held g w' := by
  obtain ⟨te, pe, h⟩ := h
  exact ⟨te, pe, (hb.cell (World.block_lt_of_cell? w _ h)).trans h⟩
structure Glob (w : World) : Prop where
  e0 : Held 0 w
  e1 : Held 1 w
  e2_0 : w.cell? ⟨2, 0, none⟩ = some (.bool false)
  e2_1 : w.cell? ⟨2, 1, none⟩ = some (.bool false)
  e2_2 : w.cell? ⟨2, 2, none⟩ = some (.int .i64 0)
theorem Glob.below {w w' : World} (h : Glob w) (hb : Below w.heap.size w w') : Glob w' := ⟨h.e0.below hb, h.e1.below hb, (hb.cell (World.block_lt_of_cell? w _ h.e2_0)).trans h.e2_0, (hb.cell (World.block_lt_of_cell? w _ h.e2_1)).trans h.e2_1, (hb.cell (World.block_lt_of_cell? w _ h.e2_2)).trans h.e2_2⟩
end Go.Proofs.YtmneeighbkcadaaDoor.PFnJpLength