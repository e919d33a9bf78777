-- Written by a program of this session (wip/prx) out of the print of the loaded functions.
import Derived.Test.YtmkceaepdanmiaaDoorPFnJqUintIntx0
import Derived.Test.YtmkceaepdanmiaaDoorPFnJqUintIntx1
import Derived.Test.YtmkceaepdanmiaaDoorPFnJqUintIntx2
import Derived.Test.YtmkceaepdanmiaaDoorPFnJqUintIntx3
import Derived.Test.YtmkceaepdanmiaaDoorPFnJqUintIntx4
import Derived.Test.YtmkceaepdanmiaaDoorPFnJqUintIntx5
namespace Go.Proofs.YtmkceaepdanmiaaDoor.PFnJqUintInt
open Go.RowKit Go.Proofs.YtmkceaepdanmiaaDoorW.PrintWords Go.Proofs.YtmkceaepdanmiaaDoorW.PrintLast Go.Proofs.YtmkceaepdanmiaaDoorW.PrintMore
attribute [local go_sem] max2_int min2_int max_two min_two max_three min_three max_four min_four   -- for this text's walks alone
set_option linter.unusedVariables false
set_option linter.unusedSimpArgs false

end Go.Proofs.YtmkceaepdanmiaaDoor.PFnJqUintInt
