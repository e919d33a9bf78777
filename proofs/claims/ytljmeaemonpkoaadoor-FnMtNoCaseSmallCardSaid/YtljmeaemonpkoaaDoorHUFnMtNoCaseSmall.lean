/- utf8.DecodeRuneInString by the kit's contract; no condition beside those that each theorem states. -/
import Derived.Test.YtljmeaemonpkoaaDoorGUFnMtNoCaseSmall
import Derived.Test.YtljmeaemonpkoaaDoorSHFnMtNoCaseSmall
namespace Go.Proofs.YtljmeaemonpkoaaDoor.PFnMtNoCaseSmall
open Go.RowKit
def utf8_DecodeRuneInString.f (a0 : ByteArray) : Option (Int × Int) := some (((Lib.decodeGo a0).1 : Int), ((Lib.decodeGo a0).2 : Int))
theorem utf8_DecodeRuneInString.calls (a0 : ByteArray) (r1 : Int) (r2 : Int) (w : World) (h : utf8_DecodeRuneInString.f a0 = some (r1, r2)) (hG : Glob w) :
    Calls Tryd.prog 48 #[.string a0] w fun e w' => e = .returned (.tuple #[.int .i32 r1, .int .i64 r2]) ∧ Below w.heap.size w w' := by
  have h2 := Option.some.inj h
  obtain ⟨rfl, rfl⟩ := Prod.mk.inj h2
  exact Tryd.utf8_DecodeRuneInString a0 w hG
end Go.Proofs.YtljmeaemonpkoaaDoor.PFnMtNoCaseSmall
