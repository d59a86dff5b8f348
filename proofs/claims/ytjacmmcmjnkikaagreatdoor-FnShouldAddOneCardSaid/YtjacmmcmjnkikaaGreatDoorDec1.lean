/- Walks: made, told of the thin package. -/
import Derived.Test.YtjacmmcmjnkikaaGreatDoorBig2
set_option linter.unusedVariables false
set_option linter.unusedSimpArgs false
namespace Go.Proofs.YtjacmmcmjnkikaaGreatDoor
open Go.RowKit

/-- The cells of a Decimal. -/
def decC (form : Int) (neg : Bool) (exp : Int) (vneg : Bool) (v : Value) (minus : Bool) : Array Value := #[.int .i8 form, .bool neg, .int .i32 exp, .bool vneg, v, .bool minus]

end Go.Proofs.YtjacmmcmjnkikaaGreatDoor
