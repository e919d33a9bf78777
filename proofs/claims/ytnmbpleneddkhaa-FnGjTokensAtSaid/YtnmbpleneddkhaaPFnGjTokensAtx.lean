/- what the Go functions that the law FnGjTokensAt reaches compute, each as a plain function, with the proof that the Go code computes just that; no condition beside those that each theorem states. -/
import Derived.Test.YtnmbpleneddkhaaPFnGjTokensAtx0
import Derived.Test.YtnmbpleneddkhaaPFnGjTokensAtx1
import Derived.Test.YtnmbpleneddkhaaPFnGjTokensAtx2
import Derived.Test.YtnmbpleneddkhaaPFnGjTokensAtx3
import Derived.Test.YtnmbpleneddkhaaPFnGjTokensAtx4
import Derived.Test.YtnmbpleneddkhaaPFnGjTokensAtx5
import Derived.Test.YtnmbpleneddkhaaPFnGjTokensAtx6
namespace Go.Proofs.Ytnmbpleneddkhaa.PFnGjTokensAt
open Go.RowKit Go.Proofs.YtnmbpleneddkhaaW.PrintWords Go.Proofs.YtnmbpleneddkhaaW.PrintLast Go.Proofs.YtnmbpleneddkhaaW.PrintMore
set_option linter.unusedVariables false
set_option linter.unusedSimpArgs false
end Go.Proofs.Ytnmbpleneddkhaa.PFnGjTokensAt