/- The errors of ArrayEach, Append and ObjectEach; conditions: none beside the statement's own. -/
import Derived.Test.YtpdohioobbfncaaGreatDoorHZJFnJrEach
namespace Go.Proofs.YtpdohioobbfncaaGreatDoor.Pure
open Go.Proofs.YtpdohioobbfncaaGreatDoor.PFnJrEach
theorem FnJrEach : laws_FnJrEach.Pure := True.intro
end Go.Proofs.YtpdohioobbfncaaGreatDoor.Pure
