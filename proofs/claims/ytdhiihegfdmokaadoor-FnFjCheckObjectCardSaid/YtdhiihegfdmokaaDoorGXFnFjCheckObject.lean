/- What is asked of the world: each package variable that is listed as an error holds one that is not nil; no condition beside those that each theorem states. -/
import Derived.Below
import Derived.Laws.Slices
import Derived.Test.YtdhiihegfdmokaaDoorProg
namespace Go.Proofs.YtdhiihegfdmokaaDoor.PFnFjCheckObject
open Go.RowKit
/-- A package-level variable holds an error that is not nil. -/
def Held (g : Nat) (w : World) : Prop := ∃ te pe, w.cell? ⟨g, 0, none⟩ = some (.iface te pe)
theorem Held.below {g : Nat} {w w' : World} (h : Held g w) (hb : Below w.heap.size w w') : Held g w' := by
  obtain ⟨te, pe, h⟩ := h
  exact ⟨te, pe, (hb.cell (World.block_lt_of_cell? w _ h)).trans h⟩
structure Glob (w : World) : Prop where
  e2 : Held 2 w
  e1 : Held 1 w
theorem Glob.below {w w' : World} (h : Glob w) (hb : Below w.heap.size w w') : Glob w' := ⟨h.e2.below hb, h.e1.below hb⟩
end Go.Proofs.YtdhiihegfdmokaaDoor.PFnFjCheckObject