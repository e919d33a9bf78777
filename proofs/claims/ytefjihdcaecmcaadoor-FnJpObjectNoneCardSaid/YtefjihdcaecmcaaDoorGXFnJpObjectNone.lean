/- What is asked of the world: each package variable that is listed as an error holds one that is not nil; no condition beside those that each theorem states. -/
import Derived.Below
import Derived.Laws.Slices
import Derived.Test.YtefjihdcaecmcaaDoorProg
namespace Go.Proofs.YtefjihdcaecmcaaDoor.PFnJpObjectNone
open Go.RowKit
/-- A package-level variable holds an error that is not nil. -/
def Held (g : Nat) (w : World) : Prop := ∃ te pe, w.cell? ⟨g, 0, none⟩ = some (.iface te pe)
theorem Held.below {g : Nat} {w w' : World} (h : Held g w) (hb : Below w.heap.size w w') : Held g w' := by
  obtain ⟨te, pe, h⟩ := h
  exact ⟨te, pe, (hb.cell (World.block_lt_of_cell? w _ h)).trans h⟩
def escT : List Int := [0, 0, 0, 0, 0, 0, 0, 0, 0, 0, 0, 0, 0, 0, 0, 0, 0, 0, 0, 0, 0, 0, 0, 0, 0, 0, 0, 0, 0, 0, 0, 0, 0, 0, 34, 0, 0, 0, 0, 0, 0, 0, 0, 0, 0, 0, 0, 47, 0, 0, 0, 0, 0, 0, 0, 0, 0, 0, 0, 0, 0, 0, 0, 0, 0, 0, 0, 0, 0, 0, 0, 0, 0, 0, 0, 0, 0, 0, 0, 0, 0, 0, 0, 0, 0, 0, 0, 0, 0, 0, 0, 0, 92, 0, 0, 0, 0, 0, 8, 0, 0, 0, 12, 0, 0, 0, 0, 0, 0, 0, 10, 0, 0, 0, 13, 0, 9]
structure Glob (w : World) : Prop where
  e12 : Held 12 w
  e11 : Held 11 w
  e1 : Held 1 w
  e10 : Held 10 w
  e3 : Held 3 w
  e9 : Held 9 w
  e5 : Held 5 w
  e2 : Held 2 w
  e4 : Held 4 w
  e0_0 : w.cell? ⟨0, 0, none⟩ = some (.bool false)
  e0_1 : w.cell? ⟨0, 1, none⟩ = some (.bool false)
  e0_2 : w.cell? ⟨0, 2, none⟩ = some (.int .i64 0)
  escTAt : ∀ c : Nat, c < 117 → w.cell? ⟨7, c, none⟩ = some (.int .u8 (escT.getD c 0))
theorem Glob.below {w w' : World} (h : Glob w) (hb : Below w.heap.size w w') : Glob w' := ⟨h.e12.below hb, h.e11.below hb, h.e1.below hb, h.e10.below hb, h.e3.below hb, h.e9.below hb, h.e5.below hb, h.e2.below hb, h.e4.below hb, (hb.cell (World.block_lt_of_cell? w _ h.e0_0)).trans h.e0_0, (hb.cell (World.block_lt_of_cell? w _ h.e0_1)).trans h.e0_1, (hb.cell (World.block_lt_of_cell? w _ h.e0_2)).trans h.e0_2, fun c hc => (hb.cell (World.block_lt_of_cell? w _ (h.escTAt c hc))).trans (h.escTAt c hc)⟩
end Go.Proofs.YtefjihdcaecmcaaDoor.PFnJpObjectNone