/- What is asked of the world: unicode/utf8's two tables hold what their initialisers lay; no condition beside those that each theorem states. -/
import Derived.Shelf.Unicode.DecodeAny
import Derived.Test.YtljmeaemonpkoaaDoorProg
namespace Go.Proofs.YtljmeaemonpkoaaDoor.PFnMtNoCaseSmall
open Go.RowKit
def Glob (w : World) : Prop := Lib.Utf8Tabs 6 7 w
theorem Glob.below {w w' : World} (h : Glob w) (hb : Below w.heap.size w w') : Glob w' := Utf8Tabs_below h hb
end Go.Proofs.YtljmeaemonpkoaaDoor.PFnMtNoCaseSmall
