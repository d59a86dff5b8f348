/-
  DERIVED. GIVEN WITH THE SEED: THE CARDS: each row of YtjacmmcmjnkikaaGreatDoorRows.lean that lists a variable, with what it lists TIED to the program's text (the seventh form; the later family's looks); each row that meets fmt, with fmt's text TOLD by the authors' own Lean function (tested against real Go, not proved from fmt's source: count such statements apart). THE CARD IS WHAT COUNTS. Prove the row's statement (the work); the ties are given (YtjacmmcmjnkikaaGreatDoorTie.lean); close each card by the builder's one call (the guide's Derived/Test/ToyasCard.lean, 'card_holds'). Laid BY PROGRAM, IN A SANDBOX (cutbox-door.mjs). By AI agents, Wed Nov 11 2026. No macro, syntax, notation, axiom, sorry.
-/
import Derived.Test.YtjacmmcmjnkikaaGreatDoorRows
import GoSem.ClaimSeven
namespace Go.Proofs.YtjacmmcmjnkikaaGreatDoor
namespace Rows

/-- THE TIED CARD OF 'laws.FnShouldAddOne'. -/
def fnShouldAddOneCard : Claim7 := { stood := { row := fnShouldAddOneRow, standIns := [], harness := (true, "97058ed79c21d3fd93be8108a3a95c36b5dd5cfb151a56134fef85c3317bfd86"), looks := false }, kinds := [], alts := [], laidByText := true, laidKinds := [.data, .data, .data, .data], laidTests := true, laidLooks := .later }
def FnShouldAddOneCardSaid : Prop := Claim7.holds Tryz.pinned (.plain (OpenSpec.ofChange fnShouldAddOneSpec)) fnShouldAddOneCard

/-- THE SECOND FORM's CARD OF 'laws.FnShouldAddOne'. -/
def fnShouldAddOneUptoCard : Claim7 := { stood := { row := fnShouldAddOneUptoRow, standIns := [], harness := (true, "97058ed79c21d3fd93be8108a3a95c36b5dd5cfb151a56134fef85c3317bfd86"), looks := false }, kinds := [], alts := [], laidByText := true, laidKinds := [.data, .data, .data, .data], laidTests := true, laidLooks := .later }
def FnShouldAddOneUptoCardSaid : Prop := Claim7.holds Tryz.pinned (.plain (OpenSpec.upto fnShouldAddOneSpec)) fnShouldAddOneUptoCard
end Rows
end Go.Proofs.YtjacmmcmjnkikaaGreatDoor
