/- The comparison of a query holds for a string and a text just if the string's characters stand to the text as the operator says; conditions: none beside the statement's own. -/
import Derived.Test.YtemjfolpndkgpaaDoorHZFnGjMatchesText
namespace Go.Proofs.YtemjfolpndkgpaaDoor.Pure
open Go.Proofs.YtemjfolpndkgpaaDoor.PFnGjMatchesText
theorem FnGjMatchesText : laws_FnGjMatchesText.Pure := True.intro
end Go.Proofs.YtemjfolpndkgpaaDoor.Pure
