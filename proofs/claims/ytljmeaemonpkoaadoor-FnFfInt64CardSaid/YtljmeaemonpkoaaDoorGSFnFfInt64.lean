/- What is asked of the world: strconv's two error variables hold an error that is not nil; no condition beside those that each theorem states. -/
import Derived.Below
import Derived.Laws.Slices
import Derived.Test.YtljmeaemonpkoaaDoorProg
namespace Go.Proofs.YtljmeaemonpkoaaDoor.PFnFfInt64
open Go.RowKit
/-- A package-level variable holds an error that is not nil. -/
def Held (g : Nat) (w : World) : Prop := ∃ te pe, w.cell? ⟨g, 0, none⟩ = some (.iface te pe)
theorem Held.below {g : Nat} {w w' : World} (h : Held g w) (hb : Below w.heap.size w w') : Held g w' := by
  obtain ⟨te, pe, h⟩ := h
  exact ⟨te, pe, (hb.cell (World.block_lt_of_cell? w _ h)).trans h⟩
def Glob (w : World) : Prop := Held 4 w ∧ Held 5 w
theorem Glob.below {w w' : World} (h : Glob w) (hb : Below w.heap.size w w') : Glob w' := ⟨h.1.below hb, h.2.below hb⟩
end Go.Proofs.YtljmeaemonpkoaaDoor.PFnFfInt64
