-- Written by a program of this session (wip/prx) out of the print of the loaded functions.
import Derived.Test.YtljmeaemonpkoaaDoorPFnMtNoCaseSmallx0
import Derived.Test.YtljmeaemonpkoaaDoorPFnMtNoCaseSmallx1
import Derived.Test.YtljmeaemonpkoaaDoorPFnMtNoCaseSmallx2
import Derived.Test.YtljmeaemonpkoaaDoorPFnMtNoCaseSmallx3
import Derived.Test.YtljmeaemonpkoaaDoorPFnMtNoCaseSmallx4
import Derived.Test.YtljmeaemonpkoaaDoorPFnMtNoCaseSmallx5
import Derived.Test.YtljmeaemonpkoaaDoorPFnMtNoCaseSmallx6
import Derived.Test.YtljmeaemonpkoaaDoorPFnMtNoCaseSmallx7
namespace Go.Proofs.YtljmeaemonpkoaaDoor.PFnMtNoCaseSmall
open Go.RowKit Go.Proofs.YtljmeaemonpkoaaDoorW.PrintWords Go.Proofs.YtljmeaemonpkoaaDoorW.PrintLast Go.Proofs.YtljmeaemonpkoaaDoorW.PrintMore
attribute [local go_sem] max2_int min2_int max_two min_two max_three min_three max_four min_four   -- for this text's walks alone
set_option linter.unusedVariables false
set_option linter.unusedSimpArgs false

end Go.Proofs.YtljmeaemonpkoaaDoor.PFnMtNoCaseSmall
