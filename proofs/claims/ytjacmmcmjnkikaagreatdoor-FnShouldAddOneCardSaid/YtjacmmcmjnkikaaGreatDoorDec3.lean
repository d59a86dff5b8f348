/- Walks: Decimal.Set of the package apd. -/
import Derived.Test.YtjacmmcmjnkikaaGreatDoorDec1
set_option linter.unusedVariables false
set_option linter.unusedSimpArgs false
namespace Go.Proofs.YtjacmmcmjnkikaaGreatDoor
open Go.RowKit

end Go.Proofs.YtjacmmcmjnkikaaGreatDoor
