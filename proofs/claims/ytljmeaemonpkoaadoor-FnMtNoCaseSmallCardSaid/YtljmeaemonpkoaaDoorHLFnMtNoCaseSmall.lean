/- utf8.DecodeLastRuneInString by the kit's contract; no condition beside those that each theorem states. -/
import Derived.Test.YtljmeaemonpkoaaDoorGUFnMtNoCaseSmall
import Derived.Test.YtljmeaemonpkoaaDoorSHFnMtNoCaseSmall
namespace Go.Proofs.YtljmeaemonpkoaaDoor.PFnMtNoCaseSmall
open Go.RowKit
def utf8_DecodeLastRuneInString.f (a0 : ByteArray) : Option (Int × Int) := if a0.size ≤ 9223372036854775807 then some (((Lib.decodeLastL a0.data.toList).1 : Int), ((Lib.decodeLastL a0.data.toList).2 : Int)) else none
theorem utf8_DecodeLastRuneInString.calls (a0 : ByteArray) (r1 : Int) (r2 : Int) (w : World) (h : utf8_DecodeLastRuneInString.f a0 = some (r1, r2)) (hG : Glob w) :
    Calls Tryd.prog 62 #[.string a0] w fun e w' => e = .returned (.tuple #[.int .i32 r1, .int .i64 r2]) ∧ Below w.heap.size w w' := by
  unfold utf8_DecodeLastRuneInString.f at h
  by_cases hs : a0.size ≤ 9223372036854775807
  · rw [if_pos hs] at h
    have h2 := Option.some.inj h
    obtain ⟨rfl, rfl⟩ := Prod.mk.inj h2
    exact Tryd.utf8_DecodeLastRuneInString a0 w hs hG
  · rw [if_neg hs] at h; cases h
end Go.Proofs.YtljmeaemonpkoaaDoor.PFnMtNoCaseSmall
