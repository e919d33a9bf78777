/- What is asked of the world: each package variable that is listed as an error holds one that is not nil; no condition beside those that each theorem states. -/
import Derived.Below
import Derived.Laws.Slices
import Derived.Test.YtifdgmiebibccaaDoorProg
namespace Go.Proofs.YtifdgmiebibccaaDoor.PFnJpParseStringRune
open Go.RowKit
/-- A package-level variable holds an error that is not nil. -/
def Held (g : Nat) (w : World) : Prop := ∃ te pe, w.cell? ⟨g, 0, none⟩ = some (.iface te pe)
theorem Held.below {g : Nat} {w w' : World} (h : Held g w) (hb : Below w.heap.size w w') : Held g w' := by
  obtain ⟨te, pe, h⟩ := h
  exact ⟨te, pe, (hb.cell (World.block_lt_of_cell? w _ h)).trans h⟩
structure Glob (w : World) : Prop where
  e0 : Held 0 w
  e2 : Held 2 w
  e1_0 : w.cell? ⟨1, 0, none⟩ = some (.bool false)
  e1_1 : w.cell? ⟨1, 1, none⟩ = some (.bool false)
  e1_2 : w.cell? ⟨1, 2, none⟩ = some (.int .i64 0)
theorem Glob.below {w w' : World} (h : Glob w) (hb : Below w.heap.size w w') : Glob w' := ⟨h.e0.below hb, h.e2.below hb, (hb.cell (World.block_lt_of_cell? w _ h.e1_0)).trans h.e1_0, (hb.cell (World.block_lt_of_cell? w _ h.e1_1)).trans h.e1_1, (hb.cell (World.block_lt_of_cell? w _ h.e1_2)).trans h.e1_2⟩
end Go.Proofs.YtifdgmiebibccaaDoor.PFnJpParseStringRune
