/-
  DERIVED. GIVEN WITH THE SEED: THE CARDS: each row of YtamjfjomehcikaaGreatDoorRows.lean that lists a variable, with what it lists TIED to the program's text (the seventh form; the later family's looks); each row that meets fmt, with fmt's text TOLD by the authors' own Lean function (tested against real Go, not proved from fmt's source: count such statements apart). THE CARD IS WHAT COUNTS. Prove the row's statement (the work); the ties are given (YtamjfjomehcikaaGreatDoorTie.lean); close each card by the builder's one call (the guide's Derived/Test/ToyasCard.lean, 'card_holds'). Laid BY PROGRAM, IN A SANDBOX (cutbox-door.mjs). By AI agents, Wed Nov 11 2026. No macro, syntax, notation, axiom, sorry.
-/
import Derived.Test.YtamjfjomehcikaaGreatDoorRows
import GoSem.ClaimSeven
namespace Go.Proofs.YtamjfjomehcikaaGreatDoor
namespace Rows

/-- THE TIED CARD OF 'laws.FnPower'. -/
def fnPowerCard : Claim7 := { stood := { row := fnPowerRow, standIns := [], harness := (true, "02fa76101b5e18ca4ee5d54f913132fe1122f75667579f9fec2cb685ff627600"), looks := false }, kinds := [], alts := [], laidByText := true, laidKinds := [.data, .data, .data, .data, .data, .data], laidTests := true, laidLooks := .later }
def FnPowerCardSaid : Prop := Claim7.holds Tryz.pinned (.plain (OpenSpec.ofChange fnPowerSpec)) fnPowerCard

/-- THE TIED CARD OF 'laws.FnUpscale'. -/
def fnUpscaleCard : Claim7 := { stood := { row := fnUpscaleRow, standIns := [], harness := (true, "02fa76101b5e18ca4ee5d54f913132fe1122f75667579f9fec2cb685ff627600"), looks := false }, kinds := [], alts := [], laidByText := true, laidKinds := [.data, .data, .data, .data, .data, .data], laidTests := true, laidLooks := .later }
def FnUpscaleCardSaid : Prop := Claim7.holds Tryz.pinned (.plain (OpenSpec.ofChange fnUpscaleSpec)) fnUpscaleCard

/-- THE TIED CARD OF 'laws.FnNumDigits'. -/
def fnNumDigitsCard : Claim7 := { stood := { row := fnNumDigitsRow, standIns := [], harness := (true, "02fa76101b5e18ca4ee5d54f913132fe1122f75667579f9fec2cb685ff627600"), looks := false }, kinds := [], alts := [], laidByText := true, laidKinds := [.data, .data, .data, .data, .data, .data, .data], laidTests := true, laidLooks := .later }
def FnNumDigitsCardSaid : Prop := Claim7.holds Tryz.pinned (.plain (OpenSpec.ofChange fnNumDigitsSpec)) fnNumDigitsCard

/-- THE TIED CARD OF 'laws.FnDigits'. -/
def fnDigitsCard : Claim7 := { stood := { row := fnDigitsRow, standIns := [], harness := (true, "02fa76101b5e18ca4ee5d54f913132fe1122f75667579f9fec2cb685ff627600"), looks := false }, kinds := [], alts := [], laidByText := true, laidKinds := [.data, .data, .data, .data, .data, .data, .data], laidTests := true, laidLooks := .later }
def FnDigitsCardSaid : Prop := Claim7.holds Tryz.pinned (.plain (OpenSpec.ofChange fnDigitsSpec)) fnDigitsCard

/-- THE SECOND FORM's CARD OF 'laws.FnPower'. -/
def fnPowerUptoCard : Claim7 := { stood := { row := fnPowerUptoRow, standIns := [], harness := (true, "02fa76101b5e18ca4ee5d54f913132fe1122f75667579f9fec2cb685ff627600"), looks := false }, kinds := [], alts := [], laidByText := true, laidKinds := [.data, .data, .data, .data, .data, .data], laidTests := true, laidLooks := .later }
def FnPowerUptoCardSaid : Prop := Claim7.holds Tryz.pinned (.plain (OpenSpec.upto fnPowerSpec)) fnPowerUptoCard

/-- THE SECOND FORM's CARD OF 'laws.FnUpscale'. -/
def fnUpscaleUptoCard : Claim7 := { stood := { row := fnUpscaleUptoRow, standIns := [], harness := (true, "02fa76101b5e18ca4ee5d54f913132fe1122f75667579f9fec2cb685ff627600"), looks := false }, kinds := [], alts := [], laidByText := true, laidKinds := [.data, .data, .data, .data, .data, .data], laidTests := true, laidLooks := .later }
def FnUpscaleUptoCardSaid : Prop := Claim7.holds Tryz.pinned (.plain (OpenSpec.upto fnUpscaleSpec)) fnUpscaleUptoCard

/-- THE SECOND FORM's CARD OF 'laws.FnNumDigits'. -/
def fnNumDigitsUptoCard : Claim7 := { stood := { row := fnNumDigitsUptoRow, standIns := [], harness := (true, "02fa76101b5e18ca4ee5d54f913132fe1122f75667579f9fec2cb685ff627600"), looks := false }, kinds := [], alts := [], laidByText := true, laidKinds := [.data, .data, .data, .data, .data, .data, .data], laidTests := true, laidLooks := .later }
def FnNumDigitsUptoCardSaid : Prop := Claim7.holds Tryz.pinned (.plain (OpenSpec.upto fnNumDigitsSpec)) fnNumDigitsUptoCard

/-- THE SECOND FORM's CARD OF 'laws.FnDigits'. -/
def fnDigitsUptoCard : Claim7 := { stood := { row := fnDigitsUptoRow, standIns := [], harness := (true, "02fa76101b5e18ca4ee5d54f913132fe1122f75667579f9fec2cb685ff627600"), looks := false }, kinds := [], alts := [], laidByText := true, laidKinds := [.data, .data, .data, .data, .data, .data, .data], laidTests := true, laidLooks := .later }
def FnDigitsUptoCardSaid : Prop := Claim7.holds Tryz.pinned (.plain (OpenSpec.upto fnDigitsSpec)) fnDigitsUptoCard
end Rows
end Go.Proofs.YtamjfjomehcikaaGreatDoor
