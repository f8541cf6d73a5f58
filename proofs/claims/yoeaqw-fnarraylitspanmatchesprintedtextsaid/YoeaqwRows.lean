/-
  No cell of these rows narrows 'for every input' (looked for: loops, veiled, ifaces, maps, wideKeys, modest, calm, conditions, laid).
  DERIVED. THE GIVEN ROWS OF THIS SEAT. 3 by the template 'for every input the law returns true; each argument reads behind the call as it read before'; 0 by the template 'total and deterministic' (their statements: YoeaqwTotals.lean).
  GIVEN WITH THE SEED: the statements are not yours to turn. If you find one false, say at which input.
  Laid BY PROGRAM, IN A SANDBOX (cutbox-rows.mjs): the forced cells as the released guide's own fill.sh prints them over the translation 0478f2dee6216698… (all of the seat's roots in one cut). By AI agents, Wed Nov 11 2026. No macro, syntax, notation, axiom, sorry.
-/
import Derived.Test.YoeaqwChecked
import GoSem.Claim
import GoSem.ClaimJoined
import GoSem.ClaimMapViews
import Derived.JoinedTies
import Derived.KernelRfl
namespace Go.Proofs.Yoeaqw
/- THE CELL 'sum', in the pinned program and in every row, IS THE sha256 OF THE DUMP (.gsa) THAT YoeaqwProg.lean LOADS. Nothing in Lean hashes anything: it is a label: what it is worth is what the hold of that sum in a sandbox is worth. -/
noncomputable def Eaqg.pinned : Pinned := { name := "yoeaqw", sum := "0478f2dee6216698c7cf7630073d07585e633af6a6ecdb359658e2df85a9f367", checked := Eaqg.checked }
namespace Rows
def none {H : Type} : Left H := { results := [], args := [] }

/-- 'zzlaws_parser_b2.FnArrayLitStringSplitsBack': WHATEVER THE INPUT: true; the input reads as it did. -/
def fnArrayLitStringSplitsBackSpec : ChangeSpec := { name := "fnArrayLitStringSplitsBack", fn := fun _ => fun
  | [d] => { results := [.lit (.bool true)], args := [d] }
  | _ => none }
def fnArrayLitStringSplitsBackRow : OpenClaim := { program := "yoeaqw", sum := "0478f2dee6216698c7cf7630073d07585e633af6a6ecdb359658e2df85a9f367", func := "github.com/d5/tengo/v2/zzlaws_parser_b2.FnArrayLitStringSplitsBack", spec := "fnArrayLitStringSplitsBack", inPlace := ["internal/abi.NoEscape", "internal/bytealg.MakeNoZero"], unfollowed := true, recurses := true, apart := false }
def FnArrayLitStringSplitsBackSaid : Prop := fnArrayLitStringSplitsBackRow.holds Eaqg.pinned (OpenSpec.ofChange fnArrayLitStringSplitsBackSpec)

/-- ITS FALSE NEIGHBOUR: 'it returns false'. Refute it at one input. -/
def fnArrayLitStringSplitsBackWrong : ChangeSpec := { name := "fnArrayLitStringSplitsBack", fn := fun _ => fun
  | [d] => { results := [.lit (.bool false)], args := [d] }
  | _ => none }
def FnArrayLitStringSplitsBackWrongFalsely : Prop := fnArrayLitStringSplitsBackRow.holds Eaqg.pinned (OpenSpec.ofChange fnArrayLitStringSplitsBackWrong)

/-- 'zzlaws_parser_b2.FnArrayLitSpanMatchesPrintedText': WHATEVER THE INPUT: true; the input reads as it did. -/
def fnArrayLitSpanMatchesPrintedTextSpec : ChangeSpec := { name := "fnArrayLitSpanMatchesPrintedText", fn := fun _ => fun
  | [d1, d2] => { results := [.lit (.bool true)], args := [d1, d2] }
  | _ => none }
def fnArrayLitSpanMatchesPrintedTextRow : OpenClaim := { program := "yoeaqw", sum := "0478f2dee6216698c7cf7630073d07585e633af6a6ecdb359658e2df85a9f367", func := "github.com/d5/tengo/v2/zzlaws_parser_b2.FnArrayLitSpanMatchesPrintedText", spec := "fnArrayLitSpanMatchesPrintedText", inPlace := ["internal/abi.NoEscape", "internal/bytealg.MakeNoZero"], unfollowed := true, recurses := true, apart := false }
def FnArrayLitSpanMatchesPrintedTextSaid : Prop := fnArrayLitSpanMatchesPrintedTextRow.holds Eaqg.pinned (OpenSpec.ofChange fnArrayLitSpanMatchesPrintedTextSpec)

/-- ITS FALSE NEIGHBOUR: 'it returns false'. Refute it at one input. -/
def fnArrayLitSpanMatchesPrintedTextWrong : ChangeSpec := { name := "fnArrayLitSpanMatchesPrintedText", fn := fun _ => fun
  | [d1, d2] => { results := [.lit (.bool false)], args := [d1, d2] }
  | _ => none }
def FnArrayLitSpanMatchesPrintedTextWrongFalsely : Prop := fnArrayLitSpanMatchesPrintedTextRow.holds Eaqg.pinned (OpenSpec.ofChange fnArrayLitSpanMatchesPrintedTextWrong)

/-- 'zzlaws_parser_b2.FnArrayLitShiftMovesSpan': WHATEVER THE INPUT: true; the input reads as it did. -/
def fnArrayLitShiftMovesSpanSpec : ChangeSpec := { name := "fnArrayLitShiftMovesSpan", fn := fun _ => fun
  | [d1, d2, d3, d4] => { results := [.lit (.bool true)], args := [d1, d2, d3, d4] }
  | _ => none }
def fnArrayLitShiftMovesSpanRow : OpenClaim := { program := "yoeaqw", sum := "0478f2dee6216698c7cf7630073d07585e633af6a6ecdb359658e2df85a9f367", func := "github.com/d5/tengo/v2/zzlaws_parser_b2.FnArrayLitShiftMovesSpan", spec := "fnArrayLitShiftMovesSpan", inPlace := ["internal/abi.NoEscape", "internal/bytealg.MakeNoZero"], unfollowed := true, recurses := true, apart := false }
def FnArrayLitShiftMovesSpanSaid : Prop := fnArrayLitShiftMovesSpanRow.holds Eaqg.pinned (OpenSpec.ofChange fnArrayLitShiftMovesSpanSpec)

/-- ITS FALSE NEIGHBOUR: 'it returns false'. Refute it at one input. -/
def fnArrayLitShiftMovesSpanWrong : ChangeSpec := { name := "fnArrayLitShiftMovesSpan", fn := fun _ => fun
  | [d1, d2, d3, d4] => { results := [.lit (.bool false)], args := [d1, d2, d3, d4] }
  | _ => none }
def FnArrayLitShiftMovesSpanWrongFalsely : Prop := fnArrayLitShiftMovesSpanRow.holds Eaqg.pinned (OpenSpec.ofChange fnArrayLitShiftMovesSpanWrong)

end Rows
end Go.Proofs.Yoeaqw
