/- what the Go functions that the law FnJpObjectNone reaches compute, each as a plain function, with the proof that the Go code computes just that; no condition beside those that each theorem states. -/
import Derived.Test.YtefjihdcaecmcaaDoorPFnJpObjectNonex0
namespace Go.Proofs.YtefjihdcaecmcaaDoor.PFnJpObjectNone
open Go.RowKit Go.Proofs.YtefjihdcaecmcaaDoorW.PrintWords Go.Proofs.YtefjihdcaecmcaaDoorW.PrintLast Go.Proofs.YtefjihdcaecmcaaDoorW.PrintMore
set_option linter.unusedVariables false
set_option linter.unusedSimpArgs false
end Go.Proofs.YtefjihdcaecmcaaDoor.PFnJpObjectNone