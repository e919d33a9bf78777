-- Written by a program of this session (wip/prx) out of the print of the loaded functions.
import Derived.Test.YtifdgmiebibccaaDoorPFnJpParseStringRunex0
import Derived.Test.YtifdgmiebibccaaDoorPFnJpParseStringRunex1
import Derived.Test.YtifdgmiebibccaaDoorPFnJpParseStringRunex2
import Derived.Test.YtifdgmiebibccaaDoorPFnJpParseStringRunex3
namespace Go.Proofs.YtifdgmiebibccaaDoor.PFnJpParseStringRune
open Go.RowKit Go.Proofs.YtifdgmiebibccaaDoorW.PrintWords Go.Proofs.YtifdgmiebibccaaDoorW.PrintLast Go.Proofs.YtifdgmiebibccaaDoorW.PrintMore
attribute [local go_sem] max2_int min2_int max_two min_two max_three min_three max_four min_four   -- for this text's walks alone
set_option linter.unusedVariables false
set_option linter.unusedSimpArgs false

end Go.Proofs.YtifdgmiebibccaaDoor.PFnJpParseStringRune
