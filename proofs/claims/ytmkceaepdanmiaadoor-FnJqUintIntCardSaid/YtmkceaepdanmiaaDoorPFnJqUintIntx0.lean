-- Written by a program of this session (wip/prx) out of the print of the loaded functions.
import Derived.Test.YtmkceaepdanmiaaDoorProg
import Derived.Below
import Derived.Deep.Draws
import Derived.Deep.AppendLies
import Derived.Maps.AppendAt
import Derived.OwnWalk
import Derived.Laws.BytesArg
import Derived.Laws.MakeOwn
import Derived.Laws.OwnMore
import Derived.Deep.OwnRows
import Derived.Tactics
import Derived.Lib.ConvBytes
import Derived.Laws.Slices
import Derived.WalkKit
import Derived.KernelRfl
import Derived.RowKit3
import Derived.Deep.LoopGhost
import Derived.Deep.QuietTactic
import Derived.BigQuiet
import Derived.WideLaws
import Derived.Deep.DeepCutAuto
import Derived.Deep.CutBlock
import Derived.Deep.RegionHeld3
import Derived.Laws.Rows
import Derived.Lib.AppendStr
import Derived.ArgAppend
import Derived.Laws.IdiomCopy
import Derived.OrdersHeld
import Derived.Laws.BitsLemmas
import Derived.RowKit
import Derived.Test.YtmkceaepdanmiaaDoorWWords
import Derived.Test.YtmkceaepdanmiaaDoorWLast
import Derived.Test.YtmkceaepdanmiaaDoorWTab
import Derived.Test.YtmkceaepdanmiaaDoorWFour
import Derived.Test.YtmkceaepdanmiaaDoorWQPut
import Derived.Test.YtmkceaepdanmiaaDoorWApart
import Derived.Test.YtmkceaepdanmiaaDoorWArr
import Derived.Test.YtmkceaepdanmiaaDoorWZeros
import Derived.Test.YtmkceaepdanmiaaDoorWFoot
import Derived.Test.YtmkceaepdanmiaaDoorWKept
import Derived.Test.YtmkceaepdanmiaaDoorWShare
import Derived.Test.YtmkceaepdanmiaaDoorWN
import Derived.Test.YtmkceaepdanmiaaDoorWFootNe
import Derived.Test.YtmkceaepdanmiaaDoorWAt
import Derived.Test.YtmkceaepdanmiaaDoorWEqStruct
import Derived.Test.YtmkceaepdanmiaaDoorWRepsOne
import Derived.Test.YtmkceaepdanmiaaDoorWInv
import Derived.Test.YtmkceaepdanmiaaDoorWInvWords
import Derived.Test.YtmkceaepdanmiaaDoorWGuard
import Derived.Test.YtmkceaepdanmiaaDoorWNEv
import Derived.Test.YtmkceaepdanmiaaDoorWMore
namespace Go.Proofs.YtmkceaepdanmiaaDoor.PFnJqUintInt
open Go.RowKit Go.Proofs.YtmkceaepdanmiaaDoorW.PrintWords Go.Proofs.YtmkceaepdanmiaaDoorW.PrintLast Go.Proofs.YtmkceaepdanmiaaDoorW.PrintMore
attribute [local go_sem] max2_int min2_int max_two min_two max_three min_three max_four min_four   -- for this text's walks alone
set_option linter.unusedVariables false
set_option linter.unusedSimpArgs false



def errW : Option Int → Value
  | none => .nilIface
  | some c => .iface 0 (.int .i64 c)
theorem errW_none : errW none = .nilIface := rfl
theorem errW_some (c : Int) : errW (some c) = .iface 0 (.int .i64 c) := rfl
def errX : Option Int → TypeId × Value → Value
  | none, _ => .nilIface
  | some _, ev => .iface ev.1 ev.2
theorem errX_none (ev : TypeId × Value) : errX none ev = .nilIface := rfl
theorem errX_some (c : Int) (ev : TypeId × Value) : errX (some c) ev = .iface ev.1 ev.2 := rfl
theorem sz_mk (d : Array UInt8) : (⟨d⟩ : ByteArray).size = d.size := rfl
theorem nil_ne_ (l : List UInt8) : (l != []) = !l.isEmpty := by cases l <;> rfl
theorem nil_eq_ (l : List UInt8) : (l == []) = l.isEmpty := by cases l <;> rfl
theorem bt_lit (s : ByteArray) (n : Nat) (z : Int) (hz : z.toNat = n) : ∀ h : n < s.size, ((s[n]'h).toNat : Int) = bt s z := by
  subst hz; exact bt_at s z

theorem info5 : (Tryd.prog.info? 5).map (fun i => (i.zero, i.size, i.bytes)) = some (some (.int .u8 0), 1, 1) := by kernel_rfl
theorem info9 : (Tryd.prog.info? 9).map (fun i => (i.zero, i.size, i.bytes)) = some (some (.string ⟨#[]⟩), 1, 16) := by kernel_rfl
-- the values' own types

end Go.Proofs.YtmkceaepdanmiaaDoor.PFnJqUintInt
