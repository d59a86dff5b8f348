/-
  DERIVED. GIVEN WITH THE SEED: THE CARDS: each row of YtfkcobdkgjhfaaaGreatDoorRows.lean that lists a variable, with what it lists TIED to the program's text (the seventh form; the later family's looks); each row that meets fmt, with fmt's text TOLD by the authors' own Lean function (tested against real Go, not proved from fmt's source: count such statements apart). THE CARD IS WHAT COUNTS. Prove the row's statement (the work); the ties are given (YtfkcobdkgjhfaaaGreatDoorTie.lean); close each card by the builder's one call (the guide's Derived/Test/ToyasCard.lean, 'card_holds'). Laid BY PROGRAM, IN A SANDBOX (cutbox-door.mjs). By AI agents, Wed Nov 11 2026. No macro, syntax, notation, axiom, sorry.
-/
import Derived.Test.YtfkcobdkgjhfaaaGreatDoorRows
import GoSem.ClaimSeven
namespace Go.Proofs.YtfkcobdkgjhfaaaGreatDoor
namespace Rows

/-- THE TIED CARD OF 'laws.FnModf'. -/
def fnModfCard : Claim7 := { stood := { row := fnModfRow, standIns := [], harness := (true, "a1be497af6ec0d0c887e099161039d17607edd4faa58d66c8361c65995ec4d34"), looks := false }, kinds := [], alts := [], laidByText := true, laidKinds := [.data, .data, .data, .data, .data, .data, .data], laidTests := true, laidLooks := .later }
def FnModfCardSaid : Prop := Claim7.holds Tryz.pinned (.plain (OpenSpec.ofChange fnModfSpec)) fnModfCard

/-- THE TIED CARD OF 'laws.FnReduced'. -/
def fnReducedCard : Claim7 := { stood := { row := fnReducedRow, standIns := [], harness := (true, "a1be497af6ec0d0c887e099161039d17607edd4faa58d66c8361c65995ec4d34"), looks := false }, kinds := [], alts := [], laidByText := true, laidKinds := [.data, .data, .data, .data, .data, .data, .data], laidTests := true, laidLooks := .later }
def FnReducedCardSaid : Prop := Claim7.holds Tryz.pinned (.plain (OpenSpec.ofChange fnReducedSpec)) fnReducedCard

/-- THE TIED CARD OF 'laws.FnQuoInteger'. -/
def fnQuoIntegerCard : Claim7 := { stood := { row := fnQuoIntegerRow, standIns := [], harness := (true, "a1be497af6ec0d0c887e099161039d17607edd4faa58d66c8361c65995ec4d34"), looks := false }, kinds := [], alts := [], laidByText := true, laidKinds := [.data, .data, .data, .data, .data, .data, .data], laidTests := true, laidLooks := .later }
def FnQuoIntegerCardSaid : Prop := Claim7.holds Tryz.pinned (.plain (OpenSpec.ofChange fnQuoIntegerSpec)) fnQuoIntegerCard

/-- THE TIED CARD OF 'laws.FnInt64'. -/
def fnInt64Card : Claim7 := { stood := { row := fnInt64Row, standIns := [], harness := (true, "a1be497af6ec0d0c887e099161039d17607edd4faa58d66c8361c65995ec4d34"), looks := false }, kinds := [], alts := [], laidByText := true, laidKinds := [.data, .data, .data, .data, .data, .data, .data], laidTests := true, laidLooks := .later }
def FnInt64CardSaid : Prop := Claim7.holds Tryz.pinned (.plain (OpenSpec.ofChange fnInt64Spec)) fnInt64Card

/-- THE TIED CARD OF 'laws.FnRoundNot'. -/
def fnRoundNotCard : Claim7 := { stood := { row := fnRoundNotRow, standIns := [], harness := (true, "a1be497af6ec0d0c887e099161039d17607edd4faa58d66c8361c65995ec4d34"), looks := false }, kinds := [], alts := [], laidByText := true, laidKinds := [.data, .data, .data, .data, .data, .data, .data], laidTests := true, laidLooks := .later }
def FnRoundNotCardSaid : Prop := Claim7.holds Tryz.pinned (.plain (OpenSpec.ofChange fnRoundNotSpec)) fnRoundNotCard

/-- THE SECOND FORM's CARD OF 'laws.FnModf'. -/
def fnModfUptoCard : Claim7 := { stood := { row := fnModfUptoRow, standIns := [], harness := (true, "a1be497af6ec0d0c887e099161039d17607edd4faa58d66c8361c65995ec4d34"), looks := false }, kinds := [], alts := [], laidByText := true, laidKinds := [.data, .data, .data, .data, .data, .data, .data], laidTests := true, laidLooks := .later }
def FnModfUptoCardSaid : Prop := Claim7.holds Tryz.pinned (.plain (OpenSpec.upto fnModfSpec)) fnModfUptoCard

/-- THE SECOND FORM's CARD OF 'laws.FnReduced'. -/
def fnReducedUptoCard : Claim7 := { stood := { row := fnReducedUptoRow, standIns := [], harness := (true, "a1be497af6ec0d0c887e099161039d17607edd4faa58d66c8361c65995ec4d34"), looks := false }, kinds := [], alts := [], laidByText := true, laidKinds := [.data, .data, .data, .data, .data, .data, .data], laidTests := true, laidLooks := .later }
def FnReducedUptoCardSaid : Prop := Claim7.holds Tryz.pinned (.plain (OpenSpec.upto fnReducedSpec)) fnReducedUptoCard

/-- THE SECOND FORM's CARD OF 'laws.FnQuoInteger'. -/
def fnQuoIntegerUptoCard : Claim7 := { stood := { row := fnQuoIntegerUptoRow, standIns := [], harness := (true, "a1be497af6ec0d0c887e099161039d17607edd4faa58d66c8361c65995ec4d34"), looks := false }, kinds := [], alts := [], laidByText := true, laidKinds := [.data, .data, .data, .data, .data, .data, .data], laidTests := true, laidLooks := .later }
def FnQuoIntegerUptoCardSaid : Prop := Claim7.holds Tryz.pinned (.plain (OpenSpec.upto fnQuoIntegerSpec)) fnQuoIntegerUptoCard

/-- THE SECOND FORM's CARD OF 'laws.FnInt64'. -/
def fnInt64UptoCard : Claim7 := { stood := { row := fnInt64UptoRow, standIns := [], harness := (true, "a1be497af6ec0d0c887e099161039d17607edd4faa58d66c8361c65995ec4d34"), looks := false }, kinds := [], alts := [], laidByText := true, laidKinds := [.data, .data, .data, .data, .data, .data, .data], laidTests := true, laidLooks := .later }
def FnInt64UptoCardSaid : Prop := Claim7.holds Tryz.pinned (.plain (OpenSpec.upto fnInt64Spec)) fnInt64UptoCard

/-- THE SECOND FORM's CARD OF 'laws.FnRoundNot'. -/
def fnRoundNotUptoCard : Claim7 := { stood := { row := fnRoundNotUptoRow, standIns := [], harness := (true, "a1be497af6ec0d0c887e099161039d17607edd4faa58d66c8361c65995ec4d34"), looks := false }, kinds := [], alts := [], laidByText := true, laidKinds := [.data, .data, .data, .data, .data, .data, .data], laidTests := true, laidLooks := .later }
def FnRoundNotUptoCardSaid : Prop := Claim7.holds Tryz.pinned (.plain (OpenSpec.upto fnRoundNotSpec)) fnRoundNotUptoCard
end Rows
end Go.Proofs.YtfkcobdkgjhfaaaGreatDoor
