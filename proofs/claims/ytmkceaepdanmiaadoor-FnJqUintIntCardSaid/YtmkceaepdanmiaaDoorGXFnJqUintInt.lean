/- What is asked of the world: each package variable that is listed as an error holds one that is not nil; no condition beside those that each theorem states. -/
import Derived.Below
import Derived.Laws.Slices
import Derived.Test.YtmkceaepdanmiaaDoorProg
namespace Go.Proofs.YtmkceaepdanmiaaDoor.PFnJqUintInt
open Go.RowKit
/-- A package-level variable holds an error that is not nil. -/
def Held (g : Nat) (w : World) : Prop := ∃ te pe, w.cell? ⟨g, 0, none⟩ = some (.iface te pe)
theorem Held.below {g : Nat} {w w' : World} (h : Held g w) (hb : Below w.heap.size w w') : Held g w' := by
  obtain ⟨te, pe, h⟩ := h
  exact ⟨te, pe, (hb.cell (World.block_lt_of_cell? w _ h)).trans h⟩
structure Glob (w : World) : Prop where
  e2 : Held 2 w
  e11 : Held 11 w
  e5 : Held 5 w
  e10 : Held 10 w
  e6 : Held 6 w
  e7 : Held 7 w
  e8 : Held 8 w
  e9 : Held 9 w
  e1 : Held 1 w
  e3 : Held 3 w
  e13 : Held 13 w
  e0 : Held 0 w
  e4_0 : w.cell? ⟨4, 0, none⟩ = some (.bool false)
  e4_1 : w.cell? ⟨4, 1, none⟩ = some (.bool false)
  e4_2 : w.cell? ⟨4, 2, none⟩ = some (.int .i64 0)
theorem Glob.below {w w' : World} (h : Glob w) (hb : Below w.heap.size w w') : Glob w' := ⟨h.e2.below hb, h.e11.below hb, h.e5.below hb, h.e10.below hb, h.e6.below hb, h.e7.below hb, h.e8.below hb, h.e9.below hb, h.e1.below hb, h.e3.below hb, h.e13.below hb, h.e0.below hb, (hb.cell (World.block_lt_of_cell? w _ h.e4_0)).trans h.e4_0, (hb.cell (World.block_lt_of_cell? w _ h.e4_1)).trans h.e4_1, (hb.cell (World.block_lt_of_cell? w _ h.e4_2)).trans h.e4_2⟩
end Go.Proofs.YtmkceaepdanmiaaDoor.PFnJqUintInt
