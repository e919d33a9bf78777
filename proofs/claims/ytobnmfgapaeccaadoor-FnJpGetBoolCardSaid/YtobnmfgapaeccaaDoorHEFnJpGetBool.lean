/- errors.New, told by hand: an error that is not nil, in a block of its own; no condition beside those that each theorem states. -/
import Derived.Test.YtobnmfgapaeccaaDoorPFnJpGetBoolx0
namespace Go.Proofs.YtobnmfgapaeccaaDoor.PFnJpGetBool
open Go.RowKit Go.Proofs.YtobnmfgapaeccaaDoorW.PrintWords Go.Proofs.YtobnmfgapaeccaaDoorW.PrintLast Go.Proofs.YtobnmfgapaeccaaDoorW.PrintMore
set_option linter.unusedVariables false
set_option linter.unusedSimpArgs false
def errors_New.f (a0 : ByteArray) : Option (Option Int) := some (some 0)
set_option maxRecDepth 100000 in
theorem errors_New.calls (a0 : ByteArray) (r : Option Int) (w : World) (h : errors_New.f a0 = some r) :
    Calls Tryd.prog 17 #[.string a0] w fun e w' => ∃ evr : TypeId × Value, e = .returned (errX r evr) ∧ Below w.heap.size w w' := by
  obtain rfl := Option.some.inj h
  clear h
  go_enter Tryd.func17, Tryd.ntmps17
  go_wp2
  go_ret
  exact ⟨(_, _), rfl, by repeat (first | exact Below.refl _ _ | apply below_alloc | apply below_set)⟩
end Go.Proofs.YtobnmfgapaeccaaDoor.PFnJpGetBool