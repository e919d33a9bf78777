/- what the Go functions that the law FnGjSplitAny reaches compute, each as a plain function, with the proof that the Go code computes just that; no condition beside those that each theorem states. -/
import Derived.Test.YtnmbpleneddkhaaPFnGjSplitAnyx0
namespace Go.Proofs.Ytnmbpleneddkhaa.PFnGjSplitAny
open Go.RowKit Go.Proofs.YtnmbpleneddkhaaW.PrintWords Go.Proofs.YtnmbpleneddkhaaW.PrintLast Go.Proofs.YtnmbpleneddkhaaW.PrintMore
set_option linter.unusedVariables false
set_option linter.unusedSimpArgs false
end Go.Proofs.Ytnmbpleneddkhaa.PFnGjSplitAny