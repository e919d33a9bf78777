-- Written by a program of this session (wip/prx) out of the print of the loaded functions.
import Derived.Test.YtobmnfbplmefoaaDoorPFnJqPathOfx0
import Derived.Test.YtobmnfbplmefoaaDoorPFnJqPathOfx1
import Derived.Test.YtobmnfbplmefoaaDoorPFnJqPathOfx2
import Derived.Test.YtobmnfbplmefoaaDoorPFnJqPathOfx3
import Derived.Test.YtobmnfbplmefoaaDoorPFnJqPathOfx4
import Derived.Test.YtobmnfbplmefoaaDoorPFnJqPathOfx5
import Derived.Test.YtobmnfbplmefoaaDoorPFnJqPathOfx6
import Derived.Test.YtobmnfbplmefoaaDoorPFnJqPathOfx7
import Derived.Test.YtobmnfbplmefoaaDoorPFnJqPathOfx8
import Derived.Test.YtobmnfbplmefoaaDoorPFnJqPathOfx9
namespace Go.Proofs.YtobmnfbplmefoaaDoor.PFnJqPathOf
open Go.RowKit Go.Proofs.YtobmnfbplmefoaaDoorW.PrintWords Go.Proofs.YtobmnfbplmefoaaDoorW.PrintLast Go.Proofs.YtobmnfbplmefoaaDoorW.PrintMore
attribute [local go_sem] max2_int min2_int max_two min_two max_three min_three max_four min_four   -- for this text's walks alone
set_option linter.unusedVariables false
set_option linter.unusedSimpArgs false

end Go.Proofs.YtobmnfbplmefoaaDoor.PFnJqPathOf
