/- ArrayEachWildcard whose call back stops; conditions: none beside the statement's own. -/
import Derived.Test.YtpdohioobbfncaaGreatDoorHZWFnJpWildStop
namespace Go.Proofs.YtpdohioobbfncaaGreatDoor.Pure
open Go.Proofs.YtpdohioobbfncaaGreatDoor.PFnJpWildStop
theorem FnJpWildStop : laws_FnJpWildStop.Pure := True.intro
end Go.Proofs.YtpdohioobbfncaaGreatDoor.Pure
