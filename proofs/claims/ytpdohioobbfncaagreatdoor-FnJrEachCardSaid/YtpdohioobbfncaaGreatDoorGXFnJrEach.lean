/- What is asked of the world: each package variable that is listed as an error holds one that is not nil; no condition beside those that each theorem states. -/
import Derived.Below
import Derived.Laws.Slices
import Derived.Test.YtpdohioobbfncaaGreatDoorProg
namespace Go.Proofs.YtpdohioobbfncaaGreatDoor.PFnJrEach
open Go.RowKit
/-- A package-level variable holds an error that is not nil. -/
def Held (g : Nat) (w : World) : Prop := ∃ te pe, w.cell? ⟨g, 0, none⟩ = some (.iface te pe)
theorem Held.below {g : Nat} {w w' : World} (h : Held g w) (hb : Below w.heap.size w w') : Held g w' := by
  obtain ⟨te, pe, h⟩ := h
  exact ⟨te, pe, (hb.cell (World.block_lt_of_cell? w _ h)).trans h⟩
/-- A package-level variable holds a pointer of its own to an error of this text. -/
def Sent (g : Nat) (t : List UInt8) (w : World) : Prop := ∃ (a : Addr) (s : ByteArray) (ca : Array Value) (ta : TypeId), w.cell? ⟨g, 0, none⟩ = some (.iface 161 (.pointer (some a))) ∧ w.cell? a = some (.string s) ∧ s.data.toList = t ∧ w.heap[a.block]? = some (.cells ca ta (0, 0))
theorem Sent.below {g : Nat} {t : List UInt8} {w w' : World} (h : Sent g t w) (hb : Below w.heap.size w w') : Sent g t w' := by
  obtain ⟨a, s, ca, ta, h1, h2, h3, h4⟩ := h
  have h5 := World.block_lt_of_cell? w _ h2
  exact ⟨a, s, ca, ta, (hb.cell (World.block_lt_of_cell? w _ h1)).trans h1, (hb.cell h5).trans h2, h3, (hb.block _ h5).trans h4⟩
def escT : List Int := [0, 0, 0, 0, 0, 0, 0, 0, 0, 0, 0, 0, 0, 0, 0, 0, 0, 0, 0, 0, 0, 0, 0, 0, 0, 0, 0, 0, 0, 0, 0, 0, 0, 0, 34, 0, 0, 0, 0, 0, 0, 0, 0, 0, 0, 0, 0, 47, 0, 0, 0, 0, 0, 0, 0, 0, 0, 0, 0, 0, 0, 0, 0, 0, 0, 0, 0, 0, 0, 0, 0, 0, 0, 0, 0, 0, 0, 0, 0, 0, 0, 0, 0, 0, 0, 0, 0, 0, 0, 0, 0, 0, 92, 0, 0, 0, 0, 0, 8, 0, 0, 0, 12, 0, 0, 0, 0, 0, 0, 0, 10, 0, 0, 0, 13, 0, 9]
structure Glob (w : World) : Prop where
  e17 : Held 17 w
  e16 : Held 16 w
  e3 : Held 3 w
  e4 : Held 4 w
  e5 : Held 5 w
  e6 : Held 6 w
  e7 : Held 7 w
  e8 : Held 8 w
  e9 : Held 9 w
  e10 : Held 10 w
  e11 : Held 11 w
  e12 : Held 12 w
  e2_0 : w.cell? ⟨2, 0, none⟩ = some (.bool false)
  e2_1 : w.cell? ⟨2, 1, none⟩ = some (.bool false)
  e2_2 : w.cell? ⟨2, 2, none⟩ = some (.int .i64 0)
  escTAt : ∀ c : Nat, c < 117 → w.cell? ⟨14, c, none⟩ = some (.int .u8 (escT.getD c 0))
  s3 : Sent 3 [75, 101, 121, 32, 112, 97, 116, 104, 32, 110, 111, 116, 32, 102, 111, 117, 110, 100] w
  s4 : Sent 4 [85, 110, 107, 110, 111, 119, 110, 32, 118, 97, 108, 117, 101, 32, 116, 121, 112, 101] w
  s5 : Sent 5 [77, 97, 108, 102, 111, 114, 109, 101, 100, 32, 74, 83, 79, 78, 32, 101, 114, 114, 111, 114] w
  s6 : Sent 6 [86, 97, 108, 117, 101, 32, 105, 115, 32, 115, 116, 114, 105, 110, 103, 44, 32, 98, 117, 116, 32, 99, 97, 110, 39, 116, 32, 102, 105, 110, 100, 32, 99, 108, 111, 115, 105, 110, 103, 32, 39, 34, 39, 32, 115, 121, 109, 98, 111, 108] w
  s7 : Sent 7 [86, 97, 108, 117, 101, 32, 105, 115, 32, 97, 114, 114, 97, 121, 44, 32, 98, 117, 116, 32, 99, 97, 110, 39, 116, 32, 102, 105, 110, 100, 32, 99, 108, 111, 115, 105, 110, 103, 32, 39, 93, 39, 32, 115, 121, 109, 98, 111, 108] w
  s8 : Sent 8 [86, 97, 108, 117, 101, 32, 108, 111, 111, 107, 115, 32, 108, 105, 107, 101, 32, 111, 98, 106, 101, 99, 116, 44, 32, 98, 117, 116, 32, 99, 97, 110, 39, 116, 32, 102, 105, 110, 100, 32, 99, 108, 111, 115, 105, 110, 103, 32, 39, 125, 39, 32, 115, 121, 109, 98, 111, 108] w
theorem Glob.below {w w' : World} (h : Glob w) (hb : Below w.heap.size w w') : Glob w' := ⟨h.e17.below hb, h.e16.below hb, h.e3.below hb, h.e4.below hb, h.e5.below hb, h.e6.below hb, h.e7.below hb, h.e8.below hb, h.e9.below hb, h.e10.below hb, h.e11.below hb, h.e12.below hb, (hb.cell (World.block_lt_of_cell? w _ h.e2_0)).trans h.e2_0, (hb.cell (World.block_lt_of_cell? w _ h.e2_1)).trans h.e2_1, (hb.cell (World.block_lt_of_cell? w _ h.e2_2)).trans h.e2_2, fun c hc => (hb.cell (World.block_lt_of_cell? w _ (h.escTAt c hc))).trans (h.escTAt c hc), h.s3.below hb, h.s4.below hb, h.s5.below hb, h.s6.below hb, h.s7.below hb, h.s8.below hb⟩
end Go.Proofs.YtpdohioobbfncaaGreatDoor.PFnJrEach