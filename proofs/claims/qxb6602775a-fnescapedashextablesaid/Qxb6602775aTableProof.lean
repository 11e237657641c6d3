/-
  THE SHELL OF A PROOF OF 'Rows.FnEscapedAsHexTableSaid' ('example.com/bid-to-run/bid-to-run/zzlaws_api_b1.FnEscapedAsHexTable'), WRITTEN BY PROGRAM (proof-skeleton.mjs) off the guide's own print for that function. Not trusted: Lean checks it.
  The walk is typed by the prover. ALL ELSE IS THE GUIDE's TEMPLATE (howto/template/XProofs.lean) at this function's number and types: leave it.
-/
import Derived.Test.Qxb6602775aRows
import Derived.Test.Qxb6602775aEsc
import Derived.WalkKit
import Derived.ProofKit
import Derived.OpenShut
import Derived.ShutString
namespace Go.Proofs.Qxb6602775a.fnEscapedAsHexTable
open Go.ChangeShapes Go.WideShapes Go.ChangeAt Go.RowKit
open Go.ChangeMaps (open_string shut_string)
set_option linter.unusedVariables false      -- a walk need not use every 'w<i>' (that an integer argument fits its kind)

theorem own : ownKnob Try.prog.godebug = none := by kernel_rfl

/-! ### STEP 1: THE WALK: the Go text returns true. 'Grown w w'': the world has at most new blocks (Derived/RowKit3.lean). Part the cases AHEAD of 'go_enter' where a test parts the walk; take each callee by a contract of your own. -/
set_option maxHeartbeats 400000 in
theorem walk_neg (a0 : Int) (h : a0 < 0) (w : World) : Calls Try.prog 5 #[.int .i32 a0] w fun e w' => e = .returned (.bool true) ∧ Grown w w' := by
  have he : escB a0 = true := by
    unfold escB
    rw [if_neg (by simp; omega), if_neg (by simp; omega)]
    simpa using (by omega : a0 < 32)
  go_enter Try.func5, Try.ntmps5
  go_wp2_with (go_at_call 11; refine (zzEsc_any _ _).mono ?_; rintro e w' ⟨rfl, rfl⟩)
  go_ret
  exact ⟨rfl, Grown.refl _⟩

set_option maxHeartbeats 400000 in
theorem walk_8232 (w : World) : Calls Try.prog 5 #[.int .i32 8232] w fun e w' => e = .returned (.bool true) ∧ Grown w w' := by
  have he : escB 8232 = true := by decide
  go_enter Try.func5, Try.ntmps5
  go_wp2_with (go_at_call 11; refine (zzEsc_any _ _).mono ?_; rintro e w' ⟨rfl, rfl⟩)
  go_ret
  exact ⟨rfl, Grown.refl _⟩

set_option maxHeartbeats 400000 in
theorem walk_8233 (w : World) : Calls Try.prog 5 #[.int .i32 8233] w fun e w' => e = .returned (.bool true) ∧ Grown w w' := by
  have he : escB 8233 = true := by decide
  go_enter Try.func5, Try.ntmps5
  go_wp2_with (go_at_call 11; refine (zzEsc_any _ _).mono ?_; rintro e w' ⟨rfl, rfl⟩)
  go_ret
  exact ⟨rfl, Grown.refl _⟩

set_option maxHeartbeats 400000 in
theorem walk_big (a0 : Int) (h : 64 ≤ a0) (h1 : ¬ a0 = 8232) (h2 : ¬ a0 = 8233) (w : World) : Calls Try.prog 5 #[.int .i32 a0] w fun e w' => e = .returned (.bool true) ∧ Grown w w' := by
  have he : escB a0 = false := by
    unfold escB
    rw [if_neg (by simp; omega), if_neg (by simp; omega)]
    simpa using (by omega : 32 ≤ a0)
  have g1 : (a0 == 8232) = false := by simpa using h1
  have g2 : (a0 == 8233) = false := by simpa using h2
  go_enter Try.func5, Try.ntmps5
  go_wp2_with (go_at_call 11; refine (zzEsc_any _ _).mono ?_; rintro e w' ⟨rfl, rfl⟩)
  go_ret
  exact ⟨rfl, Grown.refl _⟩

set_option maxHeartbeats 16000000 in
theorem walk_small (a0 : Int) (h : 0 ≤ a0) (h1 : a0 < 64) (w : World) : Calls Try.prog 5 #[.int .i32 a0] w fun e w' => e = .returned (.bool true) ∧ Grown w w' := by
  obtain ⟨b, hb⟩ : ∃ b, b = escB a0 := ⟨_, rfl⟩
  have hc : a0 = 0 ∨ a0 = 1 ∨ a0 = 2 ∨ a0 = 3 ∨ a0 = 4 ∨ a0 = 5 ∨ a0 = 6 ∨ a0 = 7 ∨ a0 = 8 ∨ a0 = 9 ∨ a0 = 10 ∨ a0 = 11 ∨ a0 = 12 ∨ a0 = 13 ∨ a0 = 14 ∨ a0 = 15 ∨ a0 = 16 ∨ a0 = 17 ∨ a0 = 18 ∨ a0 = 19 ∨ a0 = 20 ∨ a0 = 21 ∨ a0 = 22 ∨ a0 = 23 ∨ a0 = 24 ∨ a0 = 25 ∨ a0 = 26 ∨ a0 = 27 ∨ a0 = 28 ∨ a0 = 29 ∨ a0 = 30 ∨ a0 = 31 ∨ a0 = 32 ∨ a0 = 33 ∨ a0 = 34 ∨ a0 = 35 ∨ a0 = 36 ∨ a0 = 37 ∨ a0 = 38 ∨ a0 = 39 ∨ a0 = 40 ∨ a0 = 41 ∨ a0 = 42 ∨ a0 = 43 ∨ a0 = 44 ∨ a0 = 45 ∨ a0 = 46 ∨ a0 = 47 ∨ a0 = 48 ∨ a0 = 49 ∨ a0 = 50 ∨ a0 = 51 ∨ a0 = 52 ∨ a0 = 53 ∨ a0 = 54 ∨ a0 = 55 ∨ a0 = 56 ∨ a0 = 57 ∨ a0 = 58 ∨ a0 = 59 ∨ a0 = 60 ∨ a0 = 61 ∨ a0 = 62 ∨ a0 = 63 := by omega
  rcases hc with rfl | rfl | rfl | rfl | rfl | rfl | rfl | rfl | rfl | rfl | rfl | rfl | rfl | rfl | rfl | rfl | rfl | rfl | rfl | rfl | rfl | rfl | rfl | rfl | rfl | rfl | rfl | rfl | rfl | rfl | rfl | rfl | rfl | rfl | rfl | rfl | rfl | rfl | rfl | rfl | rfl | rfl | rfl | rfl | rfl | rfl | rfl | rfl | rfl | rfl | rfl | rfl | rfl | rfl | rfl | rfl | rfl | rfl | rfl | rfl | rfl | rfl | rfl | rfl
  all_goals
    simp [escB] at hb
    subst hb
    go_enter Try.func5, Try.ntmps5
    go_wp2_with (go_at_call 11; refine (zzEsc_any _ _).mono ?_; rintro e w' ⟨rfl, rfl⟩)
    go_ret
    exact ⟨rfl, Grown.refl _⟩

theorem walk (a0 : Int) (w0 : (Lit.int .i32 a0).wf = true) (w : World) :
    Calls Try.prog 5 #[.int .i32 a0] w fun e w' => e = .returned (.bool true) ∧ Grown w w' := by
  by_cases h : a0 < 0
  · exact walk_neg a0 h w
  by_cases h1 : a0 < 64
  · exact walk_small a0 (by omega) h1 w
  by_cases h2 : a0 = 8232
  · subst h2; exact walk_8232 w
  by_cases h3 : a0 = 8233
  · subst h3; exact walk_8233 w
  exact walk_big a0 (by omega) h2 h3 w

/-! ### THE ROW's STEP: WRITTEN OUT: LEAVE IT -/
set_option maxRecDepth 100000 in
theorem lifted (os : Os) (started : os.Started) (H : Type) (enc : TypeId × Value → H) :
    ReturnsInHanded {} Try.checked os 5 .any (Rows.fnEscapedAsHexTableSpec.pre6 enc Try.prog Try.f5 Rows.fnEscapedAsHexTableRow.domain false) (Rows.fnEscapedAsHexTableSpec.post enc Try.prog Try.f5 false true false false) := by
  refine returnsInHanded_of_change (C := Try.checked) own started (by kernel_rfl) Try.func5
    (ChangeSpec.witness6 (enc := enc) (C := Try.checked) false ⟨#[], #[.int .i32 0], []⟩ 8 (by kernel_rfl) (by kernel_rfl) (by kernel_rfl) (by kernel_rfl)) ?_
  intro W base args ds gs before hval0 hW hcnd _
  have hval : ∀ (j : Nat) t v, Try.f5.params[j]? = some t → args[j]? = some v → Value.okWide Try.prog W .any base t v := hval0
  have hW' := hW
  obtain ⟨p, q, hA0, hV, rfl, hfz, hnd⟩ := hW
  have hA : DataW.TrodAll enc Try.prog W 0 (fun _ => true) true Try.f5.params.toList args.toList ds p := hA0
  rw [Try.params5] at hA hval
  obtain ⟨v0, vs0, d0, ds0, p0, q0, hargs, rfl, rfl, h0, r0⟩ := trodAll_cons hA
  obtain ⟨rfl, rfl, rfl⟩ := trodAll_nil r0
  obtain rfl : args = #[v0] := by cases args; simp_all
  obtain ⟨rfl, rfl⟩ := trodVars_none hV
  obtain ⟨a0, rfl, rfl, rfl, w0⟩ := open_int Try.underlying21 (hval 0 21 v0 rfl rfl) h0
  clear hA0 hval0
  simp only [List.append_nil] at hW'
  refine (walk a0 w0 W).mono fun e W' ⟨he, hg⟩ => ?_
  subst he
  exact ⟨_, rfl, post_of_same (pa := []) (pv := []) hW' (fun _ _ _ => (trodAll_cons_mk (shut_bool Try.underlying4 _) trodAll_mk0)) (fun sp _ => (trodAll_cons_mk (shut_int Try.underlying21 w0) trodAll_mk0)) (fun _ _ => rfl) rfl
    (hg.frame _) hg.2.1 (ok_one (by kernel_rfl) rfl (okWide_bool_mk Try.underlying4 _))⟩

theorem over : Rows.fnEscapedAsHexTableRow.holds Try.pinned (OpenSpec.ofChange Rows.fnEscapedAsHexTableSpec) :=
  OpenClaim.holds_of_wide 5 Try.f5 rfl rfl rfl rfl rfl rfl rfl ⟨rfl, rfl, rfl, rfl, rfl⟩ rfl rfl rfl rfl rfl (by kernel_rfl) Try.func5 (by kernel_rfl)
    (of_decide_eq_true (by kernel_rfl)) (by unfold Func.isWrapper; first | (rw [if_pos (by decide +kernel)]; kernel_rfl) | (rw [if_neg (by decide +kernel)]; exact ⟨rfl, rfl⟩))
    (fun os started H enc _ => lifted os started H enc)

/-- ████ THE STATEMENT ████ -/
theorem proved : Rows.FnEscapedAsHexTableSaid :=
  over
#print axioms proved
end Go.Proofs.Qxb6602775a.fnEscapedAsHexTable
