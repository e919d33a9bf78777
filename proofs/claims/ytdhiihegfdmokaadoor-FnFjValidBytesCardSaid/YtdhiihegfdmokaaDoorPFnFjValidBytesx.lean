-- Written by a program of this session (wip/prx) out of the print of the loaded functions.
import Derived.Test.YtdhiihegfdmokaaDoorPFnFjValidBytesx0
import Derived.Test.YtdhiihegfdmokaaDoorPFnFjValidBytesx1
import Derived.Test.YtdhiihegfdmokaaDoorPFnFjValidBytesx2
import Derived.Test.YtdhiihegfdmokaaDoorPFnFjValidBytesx3
import Derived.Test.YtdhiihegfdmokaaDoorPFnFjValidBytesx4
import Derived.Test.YtdhiihegfdmokaaDoorPFnFjValidBytesx5
import Derived.Test.YtdhiihegfdmokaaDoorPFnFjValidBytesx6
import Derived.Test.YtdhiihegfdmokaaDoorPFnFjValidBytesx7
import Derived.Test.YtdhiihegfdmokaaDoorPFnFjValidBytesx8
import Derived.Test.YtdhiihegfdmokaaDoorPFnFjValidBytesx9
namespace Go.Proofs.YtdhiihegfdmokaaDoor.PFnFjValidBytes
open Go.RowKit Go.Proofs.YtdhiihegfdmokaaDoorW.PrintWords Go.Proofs.YtdhiihegfdmokaaDoorW.PrintLast Go.Proofs.YtdhiihegfdmokaaDoorW.PrintMore
attribute [local go_sem] max2_int min2_int max_two min_two max_three min_three max_four min_four   -- for this text's walks alone
set_option linter.unusedVariables false
set_option linter.unusedSimpArgs false

end Go.Proofs.YtdhiihegfdmokaaDoor.PFnFjValidBytes
