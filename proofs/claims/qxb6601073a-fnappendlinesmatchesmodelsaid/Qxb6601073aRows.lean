/-
  No cell of these rows narrows 'for every input' (looked for: loops, veiled, ifaces, maps, wideKeys, modest, calm, conditions, laid).
  DERIVED. THE GIVEN ROWS OF THIS SEAT. 4 by the template 'for every input the law returns true; each argument reads behind the call as it read before'; 0 by the template 'total and deterministic' (their statements: Qxb6601073aTotals.lean).
  GIVEN WITH THE SEED: the statements are not yours to turn. If you find one false, say at which input.
  Laid BY PROGRAM, IN A SANDBOX (cutbox-rows.mjs): the forced cells as the released guide's own fill.sh prints them over the translation 6d4de48bffa7fcc1… (all of the seat's roots in one cut). By AI agents, Wed Nov 11 2026. No macro, syntax, notation, axiom, sorry.
-/
import Derived.Test.Qxb6601073aChecked
import GoSem.Claim
import GoSem.ClaimJoined
import GoSem.ClaimMapViews
import Derived.JoinedTies
import Derived.KernelRfl
namespace Go.Proofs.Qxb6601073a
/- THE CELL 'sum', in the pinned program and in every row, IS THE sha256 OF THE DUMP (.gsa) THAT Qxb6601073aProg.lean LOADS. Nothing in Lean hashes anything: it is a label: what it is worth is what the hold of that sum in a sandbox is worth. -/
noncomputable def Try.pinned : Pinned := { name := "qxb6601073a", sum := "6d4de48bffa7fcc1c5eae446f30a83271f364b985e15525adaca647a9cf9164d", checked := Try.checked }
namespace Rows
def none {H : Type} : Left H := { results := [], args := [] }

/-- 'zzlaws_internal_report_b1.FnAppendLinesMatchesModel': WHATEVER THE INPUT: true; the input reads as it did. -/
def fnAppendLinesMatchesModelSpec : ChangeSpec := { name := "fnAppendLinesMatchesModel", fn := fun _ => fun
  | [d] => { results := [.lit (.bool true)], args := [d] }
  | _ => none }
def fnAppendLinesMatchesModelRow : OpenClaim := { program := "qxb6601073a", sum := "6d4de48bffa7fcc1c5eae446f30a83271f364b985e15525adaca647a9cf9164d", func := "example.com/vestline/vestline/zzlaws_internal_report_b1.FnAppendLinesMatchesModel", spec := "fnAppendLinesMatchesModel", apart := false }
def FnAppendLinesMatchesModelSaid : Prop := fnAppendLinesMatchesModelRow.holds Try.pinned (OpenSpec.ofChange fnAppendLinesMatchesModelSpec)

/-- ITS FALSE NEIGHBOUR: 'it returns false'. Refute it at one input. -/
def fnAppendLinesMatchesModelWrong : ChangeSpec := { name := "fnAppendLinesMatchesModel", fn := fun _ => fun
  | [d] => { results := [.lit (.bool false)], args := [d] }
  | _ => none }
def FnAppendLinesMatchesModelWrongFalsely : Prop := fnAppendLinesMatchesModelRow.holds Try.pinned (OpenSpec.ofChange fnAppendLinesMatchesModelWrong)

/-- 'zzlaws_internal_report_b1.FnAppendLinesKeepsPrefix': WHATEVER THE INPUT: true; the input reads as it did. -/
def fnAppendLinesKeepsPrefixSpec : ChangeSpec := { name := "fnAppendLinesKeepsPrefix", fn := fun _ => fun
  | [d1, d2] => { results := [.lit (.bool true)], args := [d1, d2] }
  | _ => none }
def fnAppendLinesKeepsPrefixRow : OpenClaim := { program := "qxb6601073a", sum := "6d4de48bffa7fcc1c5eae446f30a83271f364b985e15525adaca647a9cf9164d", func := "example.com/vestline/vestline/zzlaws_internal_report_b1.FnAppendLinesKeepsPrefix", spec := "fnAppendLinesKeepsPrefix", apart := false }
def FnAppendLinesKeepsPrefixSaid : Prop := fnAppendLinesKeepsPrefixRow.holds Try.pinned (OpenSpec.ofChange fnAppendLinesKeepsPrefixSpec)

/-- ITS FALSE NEIGHBOUR: 'it returns false'. Refute it at one input. -/
def fnAppendLinesKeepsPrefixWrong : ChangeSpec := { name := "fnAppendLinesKeepsPrefix", fn := fun _ => fun
  | [d1, d2] => { results := [.lit (.bool false)], args := [d1, d2] }
  | _ => none }
def FnAppendLinesKeepsPrefixWrongFalsely : Prop := fnAppendLinesKeepsPrefixRow.holds Try.pinned (OpenSpec.ofChange fnAppendLinesKeepsPrefixWrong)

/-- 'zzlaws_internal_report_b1.FnLinesSizeAgreesWithWidenedLines': WHATEVER THE INPUT: true; the input reads as it did. -/
def fnLinesSizeAgreesWithWidenedLinesSpec : ChangeSpec := { name := "fnLinesSizeAgreesWithWidenedLines", fn := fun _ => fun
  | [d] => { results := [.lit (.bool true)], args := [d] }
  | _ => none }
def fnLinesSizeAgreesWithWidenedLinesRow : OpenClaim := { program := "qxb6601073a", sum := "6d4de48bffa7fcc1c5eae446f30a83271f364b985e15525adaca647a9cf9164d", func := "example.com/vestline/vestline/zzlaws_internal_report_b1.FnLinesSizeAgreesWithWidenedLines", spec := "fnLinesSizeAgreesWithWidenedLines", apart := false }
def FnLinesSizeAgreesWithWidenedLinesSaid : Prop := fnLinesSizeAgreesWithWidenedLinesRow.holds Try.pinned (OpenSpec.ofChange fnLinesSizeAgreesWithWidenedLinesSpec)

/-- ITS FALSE NEIGHBOUR: 'it returns false'. Refute it at one input. -/
def fnLinesSizeAgreesWithWidenedLinesWrong : ChangeSpec := { name := "fnLinesSizeAgreesWithWidenedLines", fn := fun _ => fun
  | [d] => { results := [.lit (.bool false)], args := [d] }
  | _ => none }
def FnLinesSizeAgreesWithWidenedLinesWrongFalsely : Prop := fnLinesSizeAgreesWithWidenedLinesRow.holds Try.pinned (OpenSpec.ofChange fnLinesSizeAgreesWithWidenedLinesWrong)

/-- 'zzlaws_internal_report_b1.FnLinesSizeBoundsLines': WHATEVER THE INPUT: true; the input reads as it did. -/
def fnLinesSizeBoundsLinesSpec : ChangeSpec := { name := "fnLinesSizeBoundsLines", fn := fun _ => fun
  | [d] => { results := [.lit (.bool true)], args := [d] }
  | _ => none }
def fnLinesSizeBoundsLinesRow : OpenClaim := { program := "qxb6601073a", sum := "6d4de48bffa7fcc1c5eae446f30a83271f364b985e15525adaca647a9cf9164d", func := "example.com/vestline/vestline/zzlaws_internal_report_b1.FnLinesSizeBoundsLines", spec := "fnLinesSizeBoundsLines", apart := false }
def FnLinesSizeBoundsLinesSaid : Prop := fnLinesSizeBoundsLinesRow.holds Try.pinned (OpenSpec.ofChange fnLinesSizeBoundsLinesSpec)

/-- ITS FALSE NEIGHBOUR: 'it returns false'. Refute it at one input. -/
def fnLinesSizeBoundsLinesWrong : ChangeSpec := { name := "fnLinesSizeBoundsLines", fn := fun _ => fun
  | [d] => { results := [.lit (.bool false)], args := [d] }
  | _ => none }
def FnLinesSizeBoundsLinesWrongFalsely : Prop := fnLinesSizeBoundsLinesRow.holds Try.pinned (OpenSpec.ofChange fnLinesSizeBoundsLinesWrong)

end Rows
end Go.Proofs.Qxb6601073a
