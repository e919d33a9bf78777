-- Written by a program of this session (wip/prx) out of the print of the loaded functions.
import Derived.Test.YtemjfolpndkgpaaDoorPFnGjMatchesTextx0
import Derived.Test.YtemjfolpndkgpaaDoorPFnGjMatchesTextx1
import Derived.Test.YtemjfolpndkgpaaDoorPFnGjMatchesTextx2
namespace Go.Proofs.YtemjfolpndkgpaaDoor.PFnGjMatchesText
open Go.RowKit Go.Proofs.YtemjfolpndkgpaaDoorW.PrintWords Go.Proofs.YtemjfolpndkgpaaDoorW.PrintLast Go.Proofs.YtemjfolpndkgpaaDoorW.PrintMore
attribute [local go_sem] max2_int min2_int max_two min_two max_three min_three max_four min_four   -- for this text's walks alone
set_option linter.unusedVariables false
set_option linter.unusedSimpArgs false

end Go.Proofs.YtemjfolpndkgpaaDoor.PFnGjMatchesText
