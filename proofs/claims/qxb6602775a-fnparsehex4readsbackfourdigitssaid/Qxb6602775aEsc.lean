import Derived.Test.Qxb6602775aProg
import Derived.WalkKit
import Derived.WalkSpells
import Derived.WalkLawsBesides
namespace Go.Proofs.Qxb6602775a
open Go.RowKit
set_option linter.unusedVariables false

def escB (r : Int) : Bool := if (r == 8 || r == 12 || r == 10 || r == 13 || r == 9) = true then false else if (r == 60 || r == 62 || r == 38 || r == 8232 || r == 8233) = true then true else decide (r < 32)

set_option maxHeartbeats 800000 in
theorem esc_any (r : Int) (w : World) : Calls Try.prog 13 #[.int .i32 r] w fun e w' => e = .returned (.bool (escB r)) ∧ w' = w := by
  go_enter Try.func13, Try.ntmps13
  go_wp2
  all_goals
    go_ret
    refine ⟨?_, rfl⟩
    simp only [Array.getD_eq_getD_getElem?]
    simp [escB, *]

set_option maxHeartbeats 400000 in
theorem zzEsc_any (r : Int) (w : World) : Calls Try.prog 11 #[.int .i32 r] w fun e w' => e = .returned (.bool (escB r)) ∧ w' = w := by
  go_enter Try.func11, Try.ntmps11
  go_wp2_with (go_at_call 13; refine (esc_any _ _).mono ?_; rintro e w' ⟨rfl, rfl⟩)
  go_ret
  exact ⟨rfl, rfl⟩
end Go.Proofs.Qxb6602775a
