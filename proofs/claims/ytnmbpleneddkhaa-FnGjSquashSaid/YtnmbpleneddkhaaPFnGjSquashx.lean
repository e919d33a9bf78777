/- what the Go functions that the law FnGjSquash reaches compute, each as a plain function, with the proof that the Go code computes just that; no condition beside those that each theorem states. -/
import Derived.Test.YtnmbpleneddkhaaPFnGjSquashx0
import Derived.Test.YtnmbpleneddkhaaPFnGjSquashx1
import Derived.Test.YtnmbpleneddkhaaPFnGjSquashx2
import Derived.Test.YtnmbpleneddkhaaPFnGjSquashx3
import Derived.Test.YtnmbpleneddkhaaPFnGjSquashx4
import Derived.Test.YtnmbpleneddkhaaPFnGjSquashx5
import Derived.Test.YtnmbpleneddkhaaPFnGjSquashx6
import Derived.Test.YtnmbpleneddkhaaPFnGjSquashx7
namespace Go.Proofs.Ytnmbpleneddkhaa.PFnGjSquash
open Go.RowKit Go.Proofs.YtnmbpleneddkhaaW.PrintWords Go.Proofs.YtnmbpleneddkhaaW.PrintLast Go.Proofs.YtnmbpleneddkhaaW.PrintMore
set_option linter.unusedVariables false
set_option linter.unusedSimpArgs false
end Go.Proofs.Ytnmbpleneddkhaa.PFnGjSquash