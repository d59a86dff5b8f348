/-
  DERIVED. GIVEN WITH THE SEED: THE CARDS: each row of YtlepebogjpcfoaaGreatDoorRows.lean that lists a variable, with what it lists TIED to the program's text (the seventh form; the later family's looks); each row that meets fmt, with fmt's text TOLD by the authors' own Lean function (tested against real Go, not proved from fmt's source: count such statements apart). THE CARD IS WHAT COUNTS. Prove the row's statement (the work); the ties are given (YtlepebogjpcfoaaGreatDoorTie.lean); close each card by the builder's one call (the guide's Derived/Test/ToyasCard.lean, 'card_holds'). Laid BY PROGRAM, IN A SANDBOX (cutbox-door.mjs). By AI agents, Wed Nov 11 2026. No macro, syntax, notation, axiom, sorry.
-/
import Derived.Test.YtlepebogjpcfoaaGreatDoorRows
import GoSem.ClaimSeven
namespace Go.Proofs.YtlepebogjpcfoaaGreatDoor
namespace Rows

/-- THE TIED CARD OF 'laws.FnText'. -/
def fnTextCard : Claim7 := { stood := { row := fnTextRow, standIns := [], harness := (true, "643d01916f5bb89b0ed4b1dd7c322f0460fea78780b1f0480112c32cbbbf1ff4"), looks := false }, kinds := [], alts := [], laidByText := true, laidKinds := [.data, .data, .data, .data, .data, .data, .data, .data], laidTests := true, laidLooks := .later }
def FnTextCardSaid : Prop := Claim7.holds Tryz.pinned (.plain (OpenSpec.ofChange fnTextSpec)) fnTextCard

/-- THE TIED CARD OF 'laws.FnTextOther'. -/
def fnTextOtherCard : Claim7 := { stood := { row := fnTextOtherRow, standIns := [], harness := (true, "643d01916f5bb89b0ed4b1dd7c322f0460fea78780b1f0480112c32cbbbf1ff4"), looks := false }, kinds := [], alts := [], laidByText := true, laidKinds := [.data, .data, .data, .data, .data, .data, .data, .data], laidTests := true, laidLooks := .later }
def FnTextOtherCardSaid : Prop := Claim7.holds Tryz.pinned (.plain (OpenSpec.ofChange fnTextOtherSpec)) fnTextOtherCard

/-- THE TIED CARD OF 'laws.FnString'. -/
def fnStringCard : Claim7 := { stood := { row := fnStringRow, standIns := [], harness := (true, "643d01916f5bb89b0ed4b1dd7c322f0460fea78780b1f0480112c32cbbbf1ff4"), looks := false }, kinds := [], alts := [], laidByText := true, laidKinds := [.data, .data, .data, .data, .data, .data, .data, .data], laidTests := true, laidLooks := .later }
def FnStringCardSaid : Prop := Claim7.holds Tryz.pinned (.plain (OpenSpec.ofChange fnStringSpec)) fnStringCard

/-- THE TIED CARD OF 'laws.FnTotal'. -/
def fnTotalCard : Claim7 := { stood := { row := fnTotalRow, standIns := [], harness := (true, "643d01916f5bb89b0ed4b1dd7c322f0460fea78780b1f0480112c32cbbbf1ff4"), looks := false }, kinds := [], alts := [], laidByText := true, laidKinds := [.data, .data, .data, .data, .data, .data, .data], laidTests := true, laidLooks := .later }
def FnTotalCardSaid : Prop := Claim7.holds Tryz.pinned (.plain (OpenSpec.ofChange fnTotalSpec)) fnTotalCard

/-- THE TIED CARD OF 'laws.FnReduced'. -/
def fnReducedCard : Claim7 := { stood := { row := fnReducedRow, standIns := [], harness := (true, "643d01916f5bb89b0ed4b1dd7c322f0460fea78780b1f0480112c32cbbbf1ff4"), looks := false }, kinds := [], alts := [], laidByText := true, laidKinds := [.data, .data, .data, .data, .data, .data, .data], laidTests := true, laidLooks := .later }
def FnReducedCardSaid : Prop := Claim7.holds Tryz.pinned (.plain (OpenSpec.ofChange fnReducedSpec)) fnReducedCard

/-- THE TIED CARD OF 'laws.FnTotalOrder'. -/
def fnTotalOrderCard : Claim7 := { stood := { row := fnTotalOrderRow, standIns := [], harness := (true, "643d01916f5bb89b0ed4b1dd7c322f0460fea78780b1f0480112c32cbbbf1ff4"), looks := false }, kinds := [], alts := [], laidByText := true, laidKinds := [.data, .data, .data, .data, .data, .data, .data], laidTests := true, laidLooks := .later }
def FnTotalOrderCardSaid : Prop := Claim7.holds Tryz.pinned (.plain (OpenSpec.ofChange fnTotalOrderSpec)) fnTotalOrderCard

/-- THE TIED CARD OF 'laws.FnCmp'. -/
def fnCmpCard : Claim7 := { stood := { row := fnCmpRow, standIns := [], harness := (true, "643d01916f5bb89b0ed4b1dd7c322f0460fea78780b1f0480112c32cbbbf1ff4"), looks := false }, kinds := [], alts := [], laidByText := true, laidKinds := [.data, .data, .data, .data, .data, .data, .data], laidTests := true, laidLooks := .later }
def FnCmpCardSaid : Prop := Claim7.holds Tryz.pinned (.plain (OpenSpec.ofChange fnCmpSpec)) fnCmpCard

/-- THE SECOND FORM's CARD OF 'laws.FnText'. -/
def fnTextUptoCard : Claim7 := { stood := { row := fnTextUptoRow, standIns := [], harness := (true, "643d01916f5bb89b0ed4b1dd7c322f0460fea78780b1f0480112c32cbbbf1ff4"), looks := false }, kinds := [], alts := [], laidByText := true, laidKinds := [.data, .data, .data, .data, .data, .data, .data, .data], laidTests := true, laidLooks := .later }
def FnTextUptoCardSaid : Prop := Claim7.holds Tryz.pinned (.plain (OpenSpec.upto fnTextSpec)) fnTextUptoCard

/-- THE SECOND FORM's CARD OF 'laws.FnTextOther'. -/
def fnTextOtherUptoCard : Claim7 := { stood := { row := fnTextOtherUptoRow, standIns := [], harness := (true, "643d01916f5bb89b0ed4b1dd7c322f0460fea78780b1f0480112c32cbbbf1ff4"), looks := false }, kinds := [], alts := [], laidByText := true, laidKinds := [.data, .data, .data, .data, .data, .data, .data, .data], laidTests := true, laidLooks := .later }
def FnTextOtherUptoCardSaid : Prop := Claim7.holds Tryz.pinned (.plain (OpenSpec.upto fnTextOtherSpec)) fnTextOtherUptoCard

/-- THE SECOND FORM's CARD OF 'laws.FnString'. -/
def fnStringUptoCard : Claim7 := { stood := { row := fnStringUptoRow, standIns := [], harness := (true, "643d01916f5bb89b0ed4b1dd7c322f0460fea78780b1f0480112c32cbbbf1ff4"), looks := false }, kinds := [], alts := [], laidByText := true, laidKinds := [.data, .data, .data, .data, .data, .data, .data, .data], laidTests := true, laidLooks := .later }
def FnStringUptoCardSaid : Prop := Claim7.holds Tryz.pinned (.plain (OpenSpec.upto fnStringSpec)) fnStringUptoCard

/-- THE SECOND FORM's CARD OF 'laws.FnTotal'. -/
def fnTotalUptoCard : Claim7 := { stood := { row := fnTotalUptoRow, standIns := [], harness := (true, "643d01916f5bb89b0ed4b1dd7c322f0460fea78780b1f0480112c32cbbbf1ff4"), looks := false }, kinds := [], alts := [], laidByText := true, laidKinds := [.data, .data, .data, .data, .data, .data, .data], laidTests := true, laidLooks := .later }
def FnTotalUptoCardSaid : Prop := Claim7.holds Tryz.pinned (.plain (OpenSpec.upto fnTotalSpec)) fnTotalUptoCard

/-- THE SECOND FORM's CARD OF 'laws.FnReduced'. -/
def fnReducedUptoCard : Claim7 := { stood := { row := fnReducedUptoRow, standIns := [], harness := (true, "643d01916f5bb89b0ed4b1dd7c322f0460fea78780b1f0480112c32cbbbf1ff4"), looks := false }, kinds := [], alts := [], laidByText := true, laidKinds := [.data, .data, .data, .data, .data, .data, .data], laidTests := true, laidLooks := .later }
def FnReducedUptoCardSaid : Prop := Claim7.holds Tryz.pinned (.plain (OpenSpec.upto fnReducedSpec)) fnReducedUptoCard

/-- THE SECOND FORM's CARD OF 'laws.FnTotalOrder'. -/
def fnTotalOrderUptoCard : Claim7 := { stood := { row := fnTotalOrderUptoRow, standIns := [], harness := (true, "643d01916f5bb89b0ed4b1dd7c322f0460fea78780b1f0480112c32cbbbf1ff4"), looks := false }, kinds := [], alts := [], laidByText := true, laidKinds := [.data, .data, .data, .data, .data, .data, .data], laidTests := true, laidLooks := .later }
def FnTotalOrderUptoCardSaid : Prop := Claim7.holds Tryz.pinned (.plain (OpenSpec.upto fnTotalOrderSpec)) fnTotalOrderUptoCard

/-- THE SECOND FORM's CARD OF 'laws.FnCmp'. -/
def fnCmpUptoCard : Claim7 := { stood := { row := fnCmpUptoRow, standIns := [], harness := (true, "643d01916f5bb89b0ed4b1dd7c322f0460fea78780b1f0480112c32cbbbf1ff4"), looks := false }, kinds := [], alts := [], laidByText := true, laidKinds := [.data, .data, .data, .data, .data, .data, .data], laidTests := true, laidLooks := .later }
def FnCmpUptoCardSaid : Prop := Claim7.holds Tryz.pinned (.plain (OpenSpec.upto fnCmpSpec)) fnCmpUptoCard
end Rows
end Go.Proofs.YtlepebogjpcfoaaGreatDoor
