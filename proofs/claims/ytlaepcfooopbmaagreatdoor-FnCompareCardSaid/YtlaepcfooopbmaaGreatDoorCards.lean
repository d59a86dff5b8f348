/-
  DERIVED. GIVEN WITH THE SEED: THE CARDS: each row of YtlaepcfooopbmaaGreatDoorRows.lean that lists a variable, with what it lists TIED to the program's text (the seventh form; the later family's looks); each row that meets fmt, with fmt's text TOLD by the authors' own Lean function (tested against real Go, not proved from fmt's source: count such statements apart). THE CARD IS WHAT COUNTS. Prove the row's statement (the work); the ties are given (YtlaepcfooopbmaaGreatDoorTie.lean); close each card by the builder's one call (the guide's Derived/Test/ToyasCard.lean, 'card_holds'). Laid BY PROGRAM, IN A SANDBOX (cutbox-door.mjs). By AI agents, Wed Nov 11 2026. No macro, syntax, notation, axiom, sorry.
-/
import Derived.Test.YtlaepcfooopbmaaGreatDoorRows
import GoSem.ClaimSeven
namespace Go.Proofs.YtlaepcfooopbmaaGreatDoor
namespace Rows

/-- THE TIED CARD OF 'laws.FnNumDigits'. -/
def fnNumDigitsCard : Claim7 := { stood := { row := fnNumDigitsRow, standIns := [], harness := (true, "a3e4cc4486a8716d7772214c194014d1f0037116b24dfafad4f067bbb46c36b0"), looks := false }, kinds := [], alts := [], laidByText := true, laidKinds := [.data, .data, .data, .data, .data, .data, .data], laidTests := true, laidLooks := .later }
def FnNumDigitsCardSaid : Prop := Claim7.holds Tryz.pinned (.plain (OpenSpec.ofChange fnNumDigitsSpec)) fnNumDigitsCard

/-- THE TIED CARD OF 'laws.FnDigits'. -/
def fnDigitsCard : Claim7 := { stood := { row := fnDigitsRow, standIns := [], harness := (true, "a3e4cc4486a8716d7772214c194014d1f0037116b24dfafad4f067bbb46c36b0"), looks := false }, kinds := [], alts := [], laidByText := true, laidKinds := [.data, .data, .data, .data, .data, .data, .data], laidTests := true, laidLooks := .later }
def FnDigitsCardSaid : Prop := Claim7.holds Tryz.pinned (.plain (OpenSpec.ofChange fnDigitsSpec)) fnDigitsCard

/-- THE TIED CARD OF 'laws.FnText'. -/
def fnTextCard : Claim7 := { stood := { row := fnTextRow, standIns := [], harness := (true, "a3e4cc4486a8716d7772214c194014d1f0037116b24dfafad4f067bbb46c36b0"), looks := false }, kinds := [], alts := [], laidByText := true, laidKinds := [.data, .data, .data, .data, .data, .data, .data, .data], laidTests := true, laidLooks := .later }
def FnTextCardSaid : Prop := Claim7.holds Tryz.pinned (.plain (OpenSpec.ofChange fnTextSpec)) fnTextCard

/-- THE TIED CARD OF 'laws.FnTextOther'. -/
def fnTextOtherCard : Claim7 := { stood := { row := fnTextOtherRow, standIns := [], harness := (true, "a3e4cc4486a8716d7772214c194014d1f0037116b24dfafad4f067bbb46c36b0"), looks := false }, kinds := [], alts := [], laidByText := true, laidKinds := [.data, .data, .data, .data, .data, .data, .data, .data], laidTests := true, laidLooks := .later }
def FnTextOtherCardSaid : Prop := Claim7.holds Tryz.pinned (.plain (OpenSpec.ofChange fnTextOtherSpec)) fnTextOtherCard

/-- THE TIED CARD OF 'laws.FnString'. -/
def fnStringCard : Claim7 := { stood := { row := fnStringRow, standIns := [], harness := (true, "a3e4cc4486a8716d7772214c194014d1f0037116b24dfafad4f067bbb46c36b0"), looks := false }, kinds := [], alts := [], laidByText := true, laidKinds := [.data, .data, .data, .data, .data, .data, .data, .data], laidTests := true, laidLooks := .later }
def FnStringCardSaid : Prop := Claim7.holds Tryz.pinned (.plain (OpenSpec.ofChange fnStringSpec)) fnStringCard

/-- THE TIED CARD OF 'laws.FnCompare'. -/
def fnCompareCard : Claim7 := { stood := { row := fnCompareRow, standIns := [], harness := (true, "a3e4cc4486a8716d7772214c194014d1f0037116b24dfafad4f067bbb46c36b0"), looks := false }, kinds := [], alts := [], laidByText := true, laidKinds := [.data, .data, .data, .data, .data, .data, .data], laidTests := true, laidLooks := .later }
def FnCompareCardSaid : Prop := Claim7.holds Tryz.pinned (.plain (OpenSpec.ofChange fnCompareSpec)) fnCompareCard

/-- THE SECOND FORM's CARD OF 'laws.FnNumDigits'. -/
def fnNumDigitsUptoCard : Claim7 := { stood := { row := fnNumDigitsUptoRow, standIns := [], harness := (true, "a3e4cc4486a8716d7772214c194014d1f0037116b24dfafad4f067bbb46c36b0"), looks := false }, kinds := [], alts := [], laidByText := true, laidKinds := [.data, .data, .data, .data, .data, .data, .data], laidTests := true, laidLooks := .later }
def FnNumDigitsUptoCardSaid : Prop := Claim7.holds Tryz.pinned (.plain (OpenSpec.upto fnNumDigitsSpec)) fnNumDigitsUptoCard

/-- THE SECOND FORM's CARD OF 'laws.FnDigits'. -/
def fnDigitsUptoCard : Claim7 := { stood := { row := fnDigitsUptoRow, standIns := [], harness := (true, "a3e4cc4486a8716d7772214c194014d1f0037116b24dfafad4f067bbb46c36b0"), looks := false }, kinds := [], alts := [], laidByText := true, laidKinds := [.data, .data, .data, .data, .data, .data, .data], laidTests := true, laidLooks := .later }
def FnDigitsUptoCardSaid : Prop := Claim7.holds Tryz.pinned (.plain (OpenSpec.upto fnDigitsSpec)) fnDigitsUptoCard

/-- THE SECOND FORM's CARD OF 'laws.FnText'. -/
def fnTextUptoCard : Claim7 := { stood := { row := fnTextUptoRow, standIns := [], harness := (true, "a3e4cc4486a8716d7772214c194014d1f0037116b24dfafad4f067bbb46c36b0"), looks := false }, kinds := [], alts := [], laidByText := true, laidKinds := [.data, .data, .data, .data, .data, .data, .data, .data], laidTests := true, laidLooks := .later }
def FnTextUptoCardSaid : Prop := Claim7.holds Tryz.pinned (.plain (OpenSpec.upto fnTextSpec)) fnTextUptoCard

/-- THE SECOND FORM's CARD OF 'laws.FnTextOther'. -/
def fnTextOtherUptoCard : Claim7 := { stood := { row := fnTextOtherUptoRow, standIns := [], harness := (true, "a3e4cc4486a8716d7772214c194014d1f0037116b24dfafad4f067bbb46c36b0"), looks := false }, kinds := [], alts := [], laidByText := true, laidKinds := [.data, .data, .data, .data, .data, .data, .data, .data], laidTests := true, laidLooks := .later }
def FnTextOtherUptoCardSaid : Prop := Claim7.holds Tryz.pinned (.plain (OpenSpec.upto fnTextOtherSpec)) fnTextOtherUptoCard

/-- THE SECOND FORM's CARD OF 'laws.FnString'. -/
def fnStringUptoCard : Claim7 := { stood := { row := fnStringUptoRow, standIns := [], harness := (true, "a3e4cc4486a8716d7772214c194014d1f0037116b24dfafad4f067bbb46c36b0"), looks := false }, kinds := [], alts := [], laidByText := true, laidKinds := [.data, .data, .data, .data, .data, .data, .data, .data], laidTests := true, laidLooks := .later }
def FnStringUptoCardSaid : Prop := Claim7.holds Tryz.pinned (.plain (OpenSpec.upto fnStringSpec)) fnStringUptoCard

/-- THE SECOND FORM's CARD OF 'laws.FnCompare'. -/
def fnCompareUptoCard : Claim7 := { stood := { row := fnCompareUptoRow, standIns := [], harness := (true, "a3e4cc4486a8716d7772214c194014d1f0037116b24dfafad4f067bbb46c36b0"), looks := false }, kinds := [], alts := [], laidByText := true, laidKinds := [.data, .data, .data, .data, .data, .data, .data], laidTests := true, laidLooks := .later }
def FnCompareUptoCardSaid : Prop := Claim7.holds Tryz.pinned (.plain (OpenSpec.upto fnCompareSpec)) fnCompareUptoCard
end Rows
end Go.Proofs.YtlaepcfooopbmaaGreatDoor
