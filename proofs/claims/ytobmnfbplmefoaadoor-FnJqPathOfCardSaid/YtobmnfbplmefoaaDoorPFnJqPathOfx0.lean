-- Written by a program of this session (wip/prx) out of the print of the loaded functions.
import Derived.Test.YtobmnfbplmefoaaDoorProg
import Derived.Below
import Derived.Deep.Draws
import Derived.Deep.AppendLies
import Derived.Maps.AppendAt
import Derived.OwnWalk
import Derived.Laws.BytesArg
import Derived.Laws.MakeOwn
import Derived.Laws.OwnMore
import Derived.Deep.OwnRows
import Derived.Tactics
import Derived.Lib.ConvBytes
import Derived.Laws.Slices
import Derived.WalkKit
import Derived.KernelRfl
import Derived.RowKit3
import Derived.Deep.LoopGhost
import Derived.Deep.QuietTactic
import Derived.BigQuiet
import Derived.WideLaws
import Derived.Deep.DeepCutAuto
import Derived.Deep.CutBlock
import Derived.Deep.RegionHeld3
import Derived.Laws.Rows
import Derived.Lib.AppendStr
import Derived.ArgAppend
import Derived.Laws.IdiomCopy
import Derived.OrdersHeld
import Derived.Laws.BitsLemmas
import Derived.RowKit
import Derived.Test.YtobmnfbplmefoaaDoorWWords
import Derived.Test.YtobmnfbplmefoaaDoorWLast
import Derived.Test.YtobmnfbplmefoaaDoorWTab
import Derived.Test.YtobmnfbplmefoaaDoorWFour
import Derived.Test.YtobmnfbplmefoaaDoorWQPut
import Derived.Test.YtobmnfbplmefoaaDoorWApart
import Derived.Test.YtobmnfbplmefoaaDoorWArr
import Derived.Test.YtobmnfbplmefoaaDoorWZeros
import Derived.Test.YtobmnfbplmefoaaDoorWFoot
import Derived.Test.YtobmnfbplmefoaaDoorWKept
import Derived.Test.YtobmnfbplmefoaaDoorWShare
import Derived.Test.YtobmnfbplmefoaaDoorWN
import Derived.Test.YtobmnfbplmefoaaDoorWFootNe
import Derived.Test.YtobmnfbplmefoaaDoorWAt
import Derived.Test.YtobmnfbplmefoaaDoorWEqStruct
import Derived.Test.YtobmnfbplmefoaaDoorWRepsOne
import Derived.Test.YtobmnfbplmefoaaDoorWInv
import Derived.Test.YtobmnfbplmefoaaDoorWInvWords
import Derived.Test.YtobmnfbplmefoaaDoorWGuard
import Derived.Test.YtobmnfbplmefoaaDoorWNEv
import Derived.Test.YtobmnfbplmefoaaDoorWMore
namespace Go.Proofs.YtobmnfbplmefoaaDoor.PFnJqPathOf
open Go.RowKit Go.Proofs.YtobmnfbplmefoaaDoorW.PrintWords Go.Proofs.YtobmnfbplmefoaaDoorW.PrintLast Go.Proofs.YtobmnfbplmefoaaDoorW.PrintMore
attribute [local go_sem] max2_int min2_int max_two min_two max_three min_three max_four min_four   -- for this text's walks alone
set_option linter.unusedVariables false
set_option linter.unusedSimpArgs false



def errW : Option Int → Value
  | none => .nilIface
  | some c => .iface 0 (.int .i64 c)
theorem errW_none : errW none = .nilIface := rfl
theorem errW_some (c : Int) : errW (some c) = .iface 0 (.int .i64 c) := rfl
def errX : Option Int → TypeId × Value → Value
  | none, _ => .nilIface
  | some _, ev => .iface ev.1 ev.2
theorem errX_none (ev : TypeId × Value) : errX none ev = .nilIface := rfl
theorem errX_some (c : Int) (ev : TypeId × Value) : errX (some c) ev = .iface ev.1 ev.2 := rfl
theorem em256_2 (x : Int) : x % 256 % 2 = x % 2 := by omega
theorem em256_4 (x : Int) : x % 256 % 4 = x % 4 := by omega
theorem em256_8 (x : Int) : x % 256 % 8 = x % 8 := by omega
theorem sz_mk (d : Array UInt8) : (⟨d⟩ : ByteArray).size = d.size := rfl
theorem nil_ne_ (l : List UInt8) : (l != []) = !l.isEmpty := by cases l <;> rfl
theorem nil_eq_ (l : List UInt8) : (l == []) = l.isEmpty := by cases l <;> rfl
theorem bt_lit (s : ByteArray) (n : Nat) (z : Int) (hz : z.toNat = n) : ∀ h : n < s.size, ((s[n]'h).toNat : Int) = bt s z := by
  subst hz; exact bt_at s z

theorem info5 : (Tryd.prog.info? 5).map (fun i => (i.zero, i.size, i.bytes)) = some (some (.int .u8 0), 1, 1) := by kernel_rfl
theorem info9 : (Tryd.prog.info? 9).map (fun i => (i.zero, i.size, i.bytes)) = some (some (.string ⟨#[]⟩), 1, 16) := by kernel_rfl
-- the values' own types

end Go.Proofs.YtobmnfbplmefoaaDoor.PFnJqPathOf
