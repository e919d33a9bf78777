/- what the Go functions that the law FnPrSpecPlain reaches compute, each as a plain function, with the proof that the Go code computes just that; no condition beside those that each theorem states. -/
import Derived.Test.YtnmbpleneddkhaaPFnPrSpecPlainx0
import Derived.Test.YtnmbpleneddkhaaPFnPrSpecPlainx1
import Derived.Test.YtnmbpleneddkhaaPFnPrSpecPlainx2
import Derived.Test.YtnmbpleneddkhaaPFnPrSpecPlainx3
import Derived.Test.YtnmbpleneddkhaaPFnPrSpecPlainx4
import Derived.Test.YtnmbpleneddkhaaPFnPrSpecPlainx5
import Derived.Test.YtnmbpleneddkhaaPFnPrSpecPlainx6
import Derived.Test.YtnmbpleneddkhaaPFnPrSpecPlainx7
import Derived.Test.YtnmbpleneddkhaaPFnPrSpecPlainx8
namespace Go.Proofs.Ytnmbpleneddkhaa.PFnPrSpecPlain
open Go.RowKit Go.Proofs.YtnmbpleneddkhaaW.PrintWords Go.Proofs.YtnmbpleneddkhaaW.PrintLast Go.Proofs.YtnmbpleneddkhaaW.PrintMore
set_option linter.unusedVariables false
set_option linter.unusedSimpArgs false
end Go.Proofs.Ytnmbpleneddkhaa.PFnPrSpecPlain