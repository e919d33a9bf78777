/- ObjectEach gives an error just if the value where keys lead is no object, and then calls nothing back; conditions: none beside the statement's own. -/
import Derived.Test.YtefjihdcaecmcaaDoorHZOFnJpObjectNone
namespace Go.Proofs.YtefjihdcaecmcaaDoor.Pure
open Go.Proofs.YtefjihdcaecmcaaDoor.PFnJpObjectNone
theorem FnJpObjectNone : laws_FnJpObjectNone.Pure := True.intro
end Go.Proofs.YtefjihdcaecmcaaDoor.Pure
