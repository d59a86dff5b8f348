/-
  No cell of these rows narrows 'for every input' (looked for: loops, veiled, ifaces, maps, wideKeys, modest, calm, conditions, laid).
  DERIVED. THE GIVEN ROWS OF THIS SEAT. 5 by the template 'for every input the law returns true; each argument reads behind the call as it read before'; 0 by the template 'total and deterministic' (their statements: YtmomgnogncpglaaTotals.lean).
  GIVEN WITH THE SEED: the statements are not yours to turn. If you find one false, say at which input.
  Laid BY PROGRAM, IN A SANDBOX (cutbox-rows.mjs): the forced cells as the released guide's own fill.sh prints them over the translation 1be4a216ee0f4238… (all of the seat's roots in one cut). By AI agents, Wed Nov 11 2026. No macro, syntax, notation, axiom, sorry.
-/
import Derived.Test.YtmomgnogncpglaaChecked
import GoSem.Claim
import GoSem.ClaimJoined
import GoSem.ClaimMapViews
import Derived.JoinedTies
import Derived.KernelRfl
namespace Go.Proofs.Ytmomgnogncpglaa
/- THE CELL 'sum', in the pinned program and in every row, IS THE sha256 OF THE DUMP (.gsa) THAT YtmomgnogncpglaaProg.lean LOADS. Nothing in Lean hashes anything: it is a label: what it is worth is what the hold of that sum in a sandbox is worth. -/
noncomputable def Try.pinned : Pinned := { name := "ytmomgnogncpglaa", sum := "1be4a216ee0f423806a136f8c277182f81a202334295a63609b2d3c6908c6340", checked := Try.checked }
namespace Rows
def none {H : Type} : Left H := { results := [], args := [] }

/-- 'laws.FnSame': WHATEVER THE INPUT: true; the input reads as it did. -/
def fnSameSpec : ChangeSpec := { name := "fnSame", fn := fun _ => fun
  | [d] => { results := [.lit (.bool true)], args := [d] }
  | _ => none }
def fnSameRow : OpenClaim := { program := "ytmomgnogncpglaa", sum := "1be4a216ee0f423806a136f8c277182f81a202334295a63609b2d3c6908c6340", func := "loop.example/pub-g03241/laws.FnSame", spec := "fnSame", apart := false }
def FnSameSaid : Prop := fnSameRow.holds Try.pinned (OpenSpec.ofChange fnSameSpec)

/-- ITS FALSE NEIGHBOUR: 'it returns false'. Refute it at one input. -/
def fnSameWrong : ChangeSpec := { name := "fnSame", fn := fun _ => fun
  | [d] => { results := [.lit (.bool false)], args := [d] }
  | _ => none }
def FnSameWrongFalsely : Prop := fnSameRow.holds Try.pinned (OpenSpec.ofChange fnSameWrong)

/-- 'laws.FnSign': WHATEVER THE INPUT: true; the input reads as it did. -/
def fnSignSpec : ChangeSpec := { name := "fnSign", fn := fun _ => fun
  | [d1, d2] => { results := [.lit (.bool true)], args := [d1, d2] }
  | _ => none }
def fnSignRow : OpenClaim := { program := "ytmomgnogncpglaa", sum := "1be4a216ee0f423806a136f8c277182f81a202334295a63609b2d3c6908c6340", func := "loop.example/pub-g03241/laws.FnSign", spec := "fnSign", apart := false }
def FnSignSaid : Prop := fnSignRow.holds Try.pinned (OpenSpec.ofChange fnSignSpec)

/-- ITS FALSE NEIGHBOUR: 'it returns false'. Refute it at one input. -/
def fnSignWrong : ChangeSpec := { name := "fnSign", fn := fun _ => fun
  | [d1, d2] => { results := [.lit (.bool false)], args := [d1, d2] }
  | _ => none }
def FnSignWrongFalsely : Prop := fnSignRow.holds Try.pinned (OpenSpec.ofChange fnSignWrong)

/-- 'laws.FnFromInt64': WHATEVER THE INPUT: true; the input reads as it did. -/
def fnFromInt64Spec : ChangeSpec := { name := "fnFromInt64", fn := fun _ => fun
  | [d1, d2] => { results := [.lit (.bool true)], args := [d1, d2] }
  | _ => none }
def fnFromInt64Row : OpenClaim := { program := "ytmomgnogncpglaa", sum := "1be4a216ee0f423806a136f8c277182f81a202334295a63609b2d3c6908c6340", func := "loop.example/pub-g03241/laws.FnFromInt64", spec := "fnFromInt64", apart := false }
def FnFromInt64Said : Prop := fnFromInt64Row.holds Try.pinned (OpenSpec.ofChange fnFromInt64Spec)

/-- ITS FALSE NEIGHBOUR: 'it returns false'. Refute it at one input. -/
def fnFromInt64Wrong : ChangeSpec := { name := "fnFromInt64", fn := fun _ => fun
  | [d1, d2] => { results := [.lit (.bool false)], args := [d1, d2] }
  | _ => none }
def FnFromInt64WrongFalsely : Prop := fnFromInt64Row.holds Try.pinned (OpenSpec.ofChange fnFromInt64Wrong)

/-- 'laws.FnDecAbs': WHATEVER THE INPUT: true; the input reads as it did. -/
def fnDecAbsSpec : ChangeSpec := { name := "fnDecAbs", fn := fun _ => fun
  | [d] => { results := [.lit (.bool true)], args := [d] }
  | _ => none }
def fnDecAbsRow : OpenClaim := { program := "ytmomgnogncpglaa", sum := "1be4a216ee0f423806a136f8c277182f81a202334295a63609b2d3c6908c6340", func := "loop.example/pub-g03241/laws.FnDecAbs", spec := "fnDecAbs", apart := false }
def FnDecAbsSaid : Prop := fnDecAbsRow.holds Try.pinned (OpenSpec.ofChange fnDecAbsSpec)

/-- ITS FALSE NEIGHBOUR: 'it returns false'. Refute it at one input. -/
def fnDecAbsWrong : ChangeSpec := { name := "fnDecAbs", fn := fun _ => fun
  | [d] => { results := [.lit (.bool false)], args := [d] }
  | _ => none }
def FnDecAbsWrongFalsely : Prop := fnDecAbsRow.holds Try.pinned (OpenSpec.ofChange fnDecAbsWrong)

/-- 'laws.FnDecNeg': WHATEVER THE INPUT: true; the input reads as it did. -/
def fnDecNegSpec : ChangeSpec := { name := "fnDecNeg", fn := fun _ => fun
  | [d] => { results := [.lit (.bool true)], args := [d] }
  | _ => none }
def fnDecNegRow : OpenClaim := { program := "ytmomgnogncpglaa", sum := "1be4a216ee0f423806a136f8c277182f81a202334295a63609b2d3c6908c6340", func := "loop.example/pub-g03241/laws.FnDecNeg", spec := "fnDecNeg", apart := false }
def FnDecNegSaid : Prop := fnDecNegRow.holds Try.pinned (OpenSpec.ofChange fnDecNegSpec)

/-- ITS FALSE NEIGHBOUR: 'it returns false'. Refute it at one input. -/
def fnDecNegWrong : ChangeSpec := { name := "fnDecNeg", fn := fun _ => fun
  | [d] => { results := [.lit (.bool false)], args := [d] }
  | _ => none }
def FnDecNegWrongFalsely : Prop := fnDecNegRow.holds Try.pinned (OpenSpec.ofChange fnDecNegWrong)

/- THE SECOND FORM. 'bulk': how many values and letters a reading holds, each counted each time it is reached (what is shared counts as often as it is met; a slice's spare places count too). A statement '..UptoSaid' is the law's where the arguments, and the package variables that the reading takes, are together of bulk at most 1048576: NARROWER than '..Said'. Prove '..Said' where nothing that the law and all that it calls make is longer than what came in: it says more and counts as full. Else prove '..UptoSaid'. A law counts once. -/
mutual
def uptoBulk {H : Type} : DataW H → Nat
  | .lit (.string bytes) => bytes.length + 1
  | .lit _ => 1
  | .nil => 1
  | .ptr d => uptoBulk d + 1
  | .slice elems spare => uptoBulkAll elems + uptoBulkAll spare + 1
  | .agg parts => uptoBulkAll parts + 1
  | .iface _ d => uptoBulk d + 1
  | .map entries => uptoBulkEntries entries + 1
  | .held _ => 1
def uptoBulkAll {H : Type} : List (DataW H) → Nat
  | [] => 0
  | d :: r => uptoBulk d + uptoBulkAll r
def uptoBulkEntries {H : Type} : List (Lit × DataW H) → Nat
  | [] => 0
  | x :: r => uptoBulkEntry x + uptoBulkEntries r
def uptoBulkEntry {H : Type} : Lit × DataW H → Nat
  | (.string bytes, d) => bytes.length + uptoBulk d + 1
  | (_, d) => uptoBulk d + 1
 end
def uptoSmall : (H : Type) → List (DataW H) → Bool := fun _ ds => decide (uptoBulkAll ds ≤ 1048576)
def OpenSpec.upto (s : _root_.Go.ChangeSpec) : _root_.Go.OpenSpec := { _root_.Go.OpenSpec.ofChange s with cond := some uptoSmall }

/-- 'laws.FnSame', WHERE WHAT IT READS IS OF BULK AT MOST 1048576: true; the input reads as it did. -/
def fnSameUptoRow : OpenClaim := { program := "ytmomgnogncpglaa", sum := "1be4a216ee0f423806a136f8c277182f81a202334295a63609b2d3c6908c6340", func := "loop.example/pub-g03241/laws.FnSame", spec := "fnSame", apart := false, narrowed := true }
def FnSameUptoSaid : Prop := fnSameUptoRow.holds Try.pinned (OpenSpec.upto fnSameSpec)

/-- 'laws.FnSign', WHERE WHAT IT READS IS OF BULK AT MOST 1048576: true; the input reads as it did. -/
def fnSignUptoRow : OpenClaim := { program := "ytmomgnogncpglaa", sum := "1be4a216ee0f423806a136f8c277182f81a202334295a63609b2d3c6908c6340", func := "loop.example/pub-g03241/laws.FnSign", spec := "fnSign", apart := false, narrowed := true }
def FnSignUptoSaid : Prop := fnSignUptoRow.holds Try.pinned (OpenSpec.upto fnSignSpec)

/-- 'laws.FnFromInt64', WHERE WHAT IT READS IS OF BULK AT MOST 1048576: true; the input reads as it did. -/
def fnFromInt64UptoRow : OpenClaim := { program := "ytmomgnogncpglaa", sum := "1be4a216ee0f423806a136f8c277182f81a202334295a63609b2d3c6908c6340", func := "loop.example/pub-g03241/laws.FnFromInt64", spec := "fnFromInt64", apart := false, narrowed := true }
def FnFromInt64UptoSaid : Prop := fnFromInt64UptoRow.holds Try.pinned (OpenSpec.upto fnFromInt64Spec)

/-- 'laws.FnDecAbs', WHERE WHAT IT READS IS OF BULK AT MOST 1048576: true; the input reads as it did. -/
def fnDecAbsUptoRow : OpenClaim := { program := "ytmomgnogncpglaa", sum := "1be4a216ee0f423806a136f8c277182f81a202334295a63609b2d3c6908c6340", func := "loop.example/pub-g03241/laws.FnDecAbs", spec := "fnDecAbs", apart := false, narrowed := true }
def FnDecAbsUptoSaid : Prop := fnDecAbsUptoRow.holds Try.pinned (OpenSpec.upto fnDecAbsSpec)

/-- 'laws.FnDecNeg', WHERE WHAT IT READS IS OF BULK AT MOST 1048576: true; the input reads as it did. -/
def fnDecNegUptoRow : OpenClaim := { program := "ytmomgnogncpglaa", sum := "1be4a216ee0f423806a136f8c277182f81a202334295a63609b2d3c6908c6340", func := "loop.example/pub-g03241/laws.FnDecNeg", spec := "fnDecNeg", apart := false, narrowed := true }
def FnDecNegUptoSaid : Prop := fnDecNegUptoRow.holds Try.pinned (OpenSpec.upto fnDecNegSpec)

end Rows
end Go.Proofs.Ytmomgnogncpglaa
