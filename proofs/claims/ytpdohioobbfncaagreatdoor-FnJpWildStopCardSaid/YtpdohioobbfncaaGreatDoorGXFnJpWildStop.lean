/- What is asked of the world: each package variable that is listed as an error holds one that is not nil; no condition beside those that each theorem states. -/
import Derived.Below
import Derived.Laws.Slices
import Derived.Test.YtpdohioobbfncaaGreatDoorProg
namespace Go.Proofs.YtpdohioobbfncaaGreatDoor.PFnJpWildStop
open Go.RowKit
/-- A package-level variable holds an error that is not nil. -/
def Held (g : Nat) (w : World) : Prop := ∃ te pe, w.cell? ⟨g, 0, none⟩ = some (.iface te pe)
theorem Held.below {g : Nat} {w w' : World} (h : Held g w) (hb : Below w.heap.size w w') : Held g w' := by
  obtain ⟨te, pe, h⟩ := h
  exact ⟨te, pe, (hb.cell (World.block_lt_of_cell? w _ h)).trans h⟩
/-- A package-level variable holds a pointer of its own to an error of this text. -/
def Sent (g : Nat) (t : List UInt8) (w : World) : Prop := ∃ (a : Addr) (s : ByteArray) (ca : Array Value) (ta : TypeId), w.cell? ⟨g, 0, none⟩ = some (.iface 161 (.pointer (some a))) ∧ w.cell? a = some (.string s) ∧ s.data.toList = t ∧ w.heap[a.block]? = some (.cells ca ta (0, 0))
theorem Sent.below {g : Nat} {t : List UInt8} {w w' : World} (h : Sent g t w) (hb : Below w.heap.size w w') : Sent g t w' := by
  obtain ⟨a, s, ca, ta, h1, h2, h3, h4⟩ := h
  have h5 := World.block_lt_of_cell? w _ h2
  exact ⟨a, s, ca, ta, (hb.cell (World.block_lt_of_cell? w _ h1)).trans h1, (hb.cell h5).trans h2, h3, (hb.block _ h5).trans h4⟩
def escT : List Int := [0, 0, 0, 0, 0, 0, 0, 0, 0, 0, 0, 0, 0, 0, 0, 0, 0, 0, 0, 0, 0, 0, 0, 0, 0, 0, 0, 0, 0, 0, 0, 0, 0, 0, 34, 0, 0, 0, 0, 0, 0, 0, 0, 0, 0, 0, 0, 47, 0, 0, 0, 0, 0, 0, 0, 0, 0, 0, 0, 0, 0, 0, 0, 0, 0, 0, 0, 0, 0, 0, 0, 0, 0, 0, 0, 0, 0, 0, 0, 0, 0, 0, 0, 0, 0, 0, 0, 0, 0, 0, 0, 0, 92, 0, 0, 0, 0, 0, 8, 0, 0, 0, 12, 0, 0, 0, 0, 0, 0, 0, 10, 0, 0, 0, 13, 0, 9]
structure Glob (w : World) : Prop where
  e17 : Held 17 w
  e16 : Held 16 w
  e0 : Held 0 w
  e3 : Held 3 w
  e4 : Held 4 w
  e5 : Held 5 w
  e6 : Held 6 w
  e7 : Held 7 w
  e8 : Held 8 w
  e11 : Held 11 w
  e1 : Held 1 w
  e2_0 : w.cell? ⟨2, 0, none⟩ = some (.bool false)
  e2_1 : w.cell? ⟨2, 1, none⟩ = some (.bool false)
  e2_2 : w.cell? ⟨2, 2, none⟩ = some (.int .i64 0)
  escTAt : ∀ c : Nat, c < 117 → w.cell? ⟨14, c, none⟩ = some (.int .u8 (escT.getD c 0))
  s1 : Sent 1 [115, 116, 111, 112] w
  s0 : Sent 0 [69, 79, 70] w
theorem Glob.below {w w' : World} (h : Glob w) (hb : Below w.heap.size w w') : Glob w' := ⟨h.e17.below hb, h.e16.below hb, h.e0.below hb, h.e3.below hb, h.e4.below hb, h.e5.below hb, h.e6.below hb, h.e7.below hb, h.e8.below hb, h.e11.below hb, h.e1.below hb, (hb.cell (World.block_lt_of_cell? w _ h.e2_0)).trans h.e2_0, (hb.cell (World.block_lt_of_cell? w _ h.e2_1)).trans h.e2_1, (hb.cell (World.block_lt_of_cell? w _ h.e2_2)).trans h.e2_2, fun c hc => (hb.cell (World.block_lt_of_cell? w _ (h.escTAt c hc))).trans (h.escTAt c hc), h.s1.below hb, h.s0.below hb⟩
end Go.Proofs.YtpdohioobbfncaaGreatDoor.PFnJpWildStop