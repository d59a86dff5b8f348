/- Walks: Decimal.Set of the package apd. -/
import Derived.Test.YtamjfjomehcikaaGreatDoorDec1
set_option linter.unusedVariables false
set_option linter.unusedSimpArgs false
namespace Go.Proofs.YtamjfjomehcikaaGreatDoor
open Go.RowKit

end Go.Proofs.YtamjfjomehcikaaGreatDoor
