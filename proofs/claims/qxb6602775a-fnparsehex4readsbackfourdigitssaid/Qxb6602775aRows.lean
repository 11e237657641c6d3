/-
  No cell of these rows narrows 'for every input' (looked for: loops, veiled, ifaces, maps, wideKeys, modest, calm, conditions, laid).
  DERIVED. THE GIVEN ROWS OF THIS SEAT. 4 by the template 'for every input the law returns true; each argument reads behind the call as it read before'; 0 by the template 'total and deterministic' (their statements: Qxb6602775aTotals.lean).
  GIVEN WITH THE SEED: the statements are not yours to turn. If you find one false, say at which input.
  Laid BY PROGRAM, IN A SANDBOX (cutbox-rows.mjs): the forced cells as the released guide's own fill.sh prints them over the translation 21948fea48b08192… (all of the seat's roots in one cut). By AI agents, Wed Nov 11 2026. No macro, syntax, notation, axiom, sorry.
-/
import Derived.Test.Qxb6602775aChecked
import GoSem.Claim
import GoSem.ClaimJoined
import GoSem.ClaimMapViews
import Derived.JoinedTies
import Derived.KernelRfl
namespace Go.Proofs.Qxb6602775a
/- THE CELL 'sum', in the pinned program and in every row, IS THE sha256 OF THE DUMP (.gsa) THAT Qxb6602775aProg.lean LOADS. Nothing in Lean hashes anything: it is a label: what it is worth is what the hold of that sum in a sandbox is worth. -/
noncomputable def Try.pinned : Pinned := { name := "qxb6602775a", sum := "21948fea48b08192f40a9fd9afcd91dbe1b15a706af7303f4d0f9053d1c9c0a9", checked := Try.checked }
namespace Rows
def none {H : Type} : Left H := { results := [], args := [] }

/-- 'zzlaws_api_b1.FnParseHex4ReadsBackFourDigits': WHATEVER THE INPUT: true; the input reads as it did. -/
def fnParseHex4ReadsBackFourDigitsSpec : ChangeSpec := { name := "fnParseHex4ReadsBackFourDigits", fn := fun _ => fun
  | [d1, d2, d3] => { results := [.lit (.bool true)], args := [d1, d2, d3] }
  | _ => none }
def fnParseHex4ReadsBackFourDigitsRow : OpenClaim := { program := "qxb6602775a", sum := "21948fea48b08192f40a9fd9afcd91dbe1b15a706af7303f4d0f9053d1c9c0a9", func := "example.com/bid-to-run/bid-to-run/zzlaws_api_b1.FnParseHex4ReadsBackFourDigits", spec := "fnParseHex4ReadsBackFourDigits", apart := false }
def FnParseHex4ReadsBackFourDigitsSaid : Prop := fnParseHex4ReadsBackFourDigitsRow.holds Try.pinned (OpenSpec.ofChange fnParseHex4ReadsBackFourDigitsSpec)

/-- ITS FALSE NEIGHBOUR: 'it returns false'. Refute it at one input. -/
def fnParseHex4ReadsBackFourDigitsWrong : ChangeSpec := { name := "fnParseHex4ReadsBackFourDigits", fn := fun _ => fun
  | [d1, d2, d3] => { results := [.lit (.bool false)], args := [d1, d2, d3] }
  | _ => none }
def FnParseHex4ReadsBackFourDigitsWrongFalsely : Prop := fnParseHex4ReadsBackFourDigitsRow.holds Try.pinned (OpenSpec.ofChange fnParseHex4ReadsBackFourDigitsWrong)

/-- 'zzlaws_api_b1.FnParseHex4ReadsOnlyFirstFour': WHATEVER THE INPUT: true; the input reads as it did. -/
def fnParseHex4ReadsOnlyFirstFourSpec : ChangeSpec := { name := "fnParseHex4ReadsOnlyFirstFour", fn := fun _ => fun
  | [d1, d2] => { results := [.lit (.bool true)], args := [d1, d2] }
  | _ => none }
def fnParseHex4ReadsOnlyFirstFourRow : OpenClaim := { program := "qxb6602775a", sum := "21948fea48b08192f40a9fd9afcd91dbe1b15a706af7303f4d0f9053d1c9c0a9", func := "example.com/bid-to-run/bid-to-run/zzlaws_api_b1.FnParseHex4ReadsOnlyFirstFour", spec := "fnParseHex4ReadsOnlyFirstFour", apart := false }
def FnParseHex4ReadsOnlyFirstFourSaid : Prop := fnParseHex4ReadsOnlyFirstFourRow.holds Try.pinned (OpenSpec.ofChange fnParseHex4ReadsOnlyFirstFourSpec)

/-- ITS FALSE NEIGHBOUR: 'it returns false'. Refute it at one input. -/
def fnParseHex4ReadsOnlyFirstFourWrong : ChangeSpec := { name := "fnParseHex4ReadsOnlyFirstFour", fn := fun _ => fun
  | [d1, d2] => { results := [.lit (.bool false)], args := [d1, d2] }
  | _ => none }
def FnParseHex4ReadsOnlyFirstFourWrongFalsely : Prop := fnParseHex4ReadsOnlyFirstFourRow.holds Try.pinned (OpenSpec.ofChange fnParseHex4ReadsOnlyFirstFourWrong)

/-- 'zzlaws_api_b1.FnEscapedAsHexTable': WHATEVER THE INPUT: true; the input reads as it did. -/
def fnEscapedAsHexTableSpec : ChangeSpec := { name := "fnEscapedAsHexTable", fn := fun _ => fun
  | [d] => { results := [.lit (.bool true)], args := [d] }
  | _ => none }
def fnEscapedAsHexTableRow : OpenClaim := { program := "qxb6602775a", sum := "21948fea48b08192f40a9fd9afcd91dbe1b15a706af7303f4d0f9053d1c9c0a9", func := "example.com/bid-to-run/bid-to-run/zzlaws_api_b1.FnEscapedAsHexTable", spec := "fnEscapedAsHexTable", apart := false }
def FnEscapedAsHexTableSaid : Prop := fnEscapedAsHexTableRow.holds Try.pinned (OpenSpec.ofChange fnEscapedAsHexTableSpec)

/-- ITS FALSE NEIGHBOUR: 'it returns false'. Refute it at one input. -/
def fnEscapedAsHexTableWrong : ChangeSpec := { name := "fnEscapedAsHexTable", fn := fun _ => fun
  | [d] => { results := [.lit (.bool false)], args := [d] }
  | _ => none }
def FnEscapedAsHexTableWrongFalsely : Prop := fnEscapedAsHexTableRow.holds Try.pinned (OpenSpec.ofChange fnEscapedAsHexTableWrong)

/-- 'zzlaws_api_b1.FnEscapedAsHexFitsFourDigits': WHATEVER THE INPUT: true; the input reads as it did. -/
def fnEscapedAsHexFitsFourDigitsSpec : ChangeSpec := { name := "fnEscapedAsHexFitsFourDigits", fn := fun _ => fun
  | [d] => { results := [.lit (.bool true)], args := [d] }
  | _ => none }
def fnEscapedAsHexFitsFourDigitsRow : OpenClaim := { program := "qxb6602775a", sum := "21948fea48b08192f40a9fd9afcd91dbe1b15a706af7303f4d0f9053d1c9c0a9", func := "example.com/bid-to-run/bid-to-run/zzlaws_api_b1.FnEscapedAsHexFitsFourDigits", spec := "fnEscapedAsHexFitsFourDigits", apart := false }
def FnEscapedAsHexFitsFourDigitsSaid : Prop := fnEscapedAsHexFitsFourDigitsRow.holds Try.pinned (OpenSpec.ofChange fnEscapedAsHexFitsFourDigitsSpec)

/-- ITS FALSE NEIGHBOUR: 'it returns false'. Refute it at one input. -/
def fnEscapedAsHexFitsFourDigitsWrong : ChangeSpec := { name := "fnEscapedAsHexFitsFourDigits", fn := fun _ => fun
  | [d] => { results := [.lit (.bool false)], args := [d] }
  | _ => none }
def FnEscapedAsHexFitsFourDigitsWrongFalsely : Prop := fnEscapedAsHexFitsFourDigitsRow.holds Try.pinned (OpenSpec.ofChange fnEscapedAsHexFitsFourDigitsWrong)

end Rows
end Go.Proofs.Qxb6602775a
