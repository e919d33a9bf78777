-- Written by a program of this session (wip/prx) out of the print of the loaded functions.
import Derived.Test.YtnmbpleneddkhaaPFnFjRawStringx0
import Derived.Test.YtnmbpleneddkhaaPFnFjRawStringx1
import Derived.Test.YtnmbpleneddkhaaPFnFjRawStringx2
import Derived.Test.YtnmbpleneddkhaaPFnFjRawStringx3
namespace Go.Proofs.Ytnmbpleneddkhaa.PFnFjRawString
open Go.RowKit Go.Proofs.YtnmbpleneddkhaaW.PrintWords Go.Proofs.YtnmbpleneddkhaaW.PrintLast Go.Proofs.YtnmbpleneddkhaaW.PrintMore
attribute [local go_sem] max2_int min2_int max_two min_two max_three min_three max_four min_four   -- for this text's walks alone
set_option linter.unusedVariables false
set_option linter.unusedSimpArgs false

end Go.Proofs.Ytnmbpleneddkhaa.PFnFjRawString
