/-
  No cell of these rows narrows 'for every input' (looked for: loops, veiled, ifaces, maps, wideKeys, modest, calm, conditions, laid).
  DERIVED. THE GIVEN ROWS OF THIS SEAT. 2 by the template 'for every input the law returns true; each argument reads behind the call as it read before'; 0 by the template 'total and deterministic' (their statements: Qxb6602926aTotals.lean).
  GIVEN WITH THE SEED: the statements are not yours to turn. If you find one false, say at which input.
  Laid BY PROGRAM, IN A SANDBOX (cutbox-rows.mjs): the forced cells as the released guide's own fill.sh prints them over the translation 94a821de33a16c2f… (all of the seat's roots in one cut). By AI agents, Wed Nov 11 2026. No macro, syntax, notation, axiom, sorry.
-/
import Derived.Test.Qxb6602926aChecked
import GoSem.Claim
import GoSem.ClaimJoined
import GoSem.ClaimMapViews
import Derived.JoinedTies
import Derived.KernelRfl
namespace Go.Proofs.Qxb6602926a
/- THE CELL 'sum', in the pinned program and in every row, IS THE sha256 OF THE DUMP (.gsa) THAT Qxb6602926aProg.lean LOADS. Nothing in Lean hashes anything: it is a label: what it is worth is what the hold of that sum in a sandbox is worth. -/
noncomputable def Try.pinned : Pinned := { name := "qxb6602926a", sum := "94a821de33a16c2fa21be9e206bb8ea93bf2f3a2060af48d7d4cac385b1222d9", checked := Try.checked }
namespace Rows
def none {H : Type} : Left H := { results := [], args := [] }

/-- 'zzlaws_internal_human_b1.FnDisplayForMonotone': WHATEVER THE INPUT: true; the input reads as it did. -/
def fnDisplayForMonotoneSpec : ChangeSpec := { name := "fnDisplayForMonotone", fn := fun _ => fun
  | [d1, d2] => { results := [.lit (.bool true)], args := [d1, d2] }
  | _ => none }
def fnDisplayForMonotoneRow : OpenClaim := { program := "qxb6602926a", sum := "94a821de33a16c2fa21be9e206bb8ea93bf2f3a2060af48d7d4cac385b1222d9", func := "example.com/vigilant-threshold/vigilant-threshold/zzlaws_internal_human_b1.FnDisplayForMonotone", spec := "fnDisplayForMonotone", apart := false }
def FnDisplayForMonotoneSaid : Prop := fnDisplayForMonotoneRow.holds Try.pinned (OpenSpec.ofChange fnDisplayForMonotoneSpec)

/-- ITS FALSE NEIGHBOUR: 'it returns false'. Refute it at one input. -/
def fnDisplayForMonotoneWrong : ChangeSpec := { name := "fnDisplayForMonotone", fn := fun _ => fun
  | [d1, d2] => { results := [.lit (.bool false)], args := [d1, d2] }
  | _ => none }
def FnDisplayForMonotoneWrongFalsely : Prop := fnDisplayForMonotoneRow.holds Try.pinned (OpenSpec.ofChange fnDisplayForMonotoneWrong)

/-- 'zzlaws_internal_human_b1.FnDisplayForCoversBackground': WHATEVER THE INPUT: true; the input reads as it did. -/
def fnDisplayForCoversBackgroundSpec : ChangeSpec := { name := "fnDisplayForCoversBackground", fn := fun _ => fun
  | [d] => { results := [.lit (.bool true)], args := [d] }
  | _ => none }
def fnDisplayForCoversBackgroundRow : OpenClaim := { program := "qxb6602926a", sum := "94a821de33a16c2fa21be9e206bb8ea93bf2f3a2060af48d7d4cac385b1222d9", func := "example.com/vigilant-threshold/vigilant-threshold/zzlaws_internal_human_b1.FnDisplayForCoversBackground", spec := "fnDisplayForCoversBackground", apart := false }
def FnDisplayForCoversBackgroundSaid : Prop := fnDisplayForCoversBackgroundRow.holds Try.pinned (OpenSpec.ofChange fnDisplayForCoversBackgroundSpec)

/-- ITS FALSE NEIGHBOUR: 'it returns false'. Refute it at one input. -/
def fnDisplayForCoversBackgroundWrong : ChangeSpec := { name := "fnDisplayForCoversBackground", fn := fun _ => fun
  | [d] => { results := [.lit (.bool false)], args := [d] }
  | _ => none }
def FnDisplayForCoversBackgroundWrongFalsely : Prop := fnDisplayForCoversBackgroundRow.holds Try.pinned (OpenSpec.ofChange fnDisplayForCoversBackgroundWrong)

end Rows
end Go.Proofs.Qxb6602926a
