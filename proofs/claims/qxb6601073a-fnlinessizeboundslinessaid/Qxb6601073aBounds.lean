import Derived.Test.Qxb6601073aSizes
import Derived.Test.Qxb6601073aBytes18
namespace Go.Proofs.Qxb6601073a
open Go.RowKit
set_option linter.unusedVariables false

set_option maxRecDepth 100000 in
set_option maxHeartbeats 1600000 in
theorem bounds_walk (a : Option Addr) (c : Nat) (rs : List Rec) (w : World) (h : RecsAt w 0 (.slice a rs.length c) rs) (hwf : ∀ r ∈ rs, RecWf r) (hl : rs.length ≤ maxLen) :
    Calls Try.prog 6 #[.slice a rs.length c] w fun e w' => e = .returned (.bool true) ∧ Below w.heap.size w w' := by
  go_enter Try.func6, Try.ntmps6
  go_wp2_with fail
  refine (zzBytes18_any rs a c w h hwf hl).mono ?_
  rintro e w' ⟨he, hq⟩
  subst w'
  rcases he with rfl | rfl
  · go_wp2
    go_ret
    exact ⟨rfl, Below.refl _ _⟩
  go_wp2_with fail
  refine (recsWithin_any 1048576 rs a c w h hwf hl (by omega) (by omega)).mono ?_
  rintro e w' ⟨he, hq⟩
  subst w'
  rcases he with rfl | ⟨rfl, hwt⟩
  · go_wp2
    go_ret
    exact ⟨rfl, Below.refl _ _⟩
  have hw : wt rs ≤ 1048576 := by omega
  obtain ⟨b1, b2, b3⟩ := bounds_of_wt hw
  go_wp2_with fail
  refine (cloneRecs_any a c rs _ h b1 b2).mono ?_
  rintro e w2 ⟨a2, c2, rfl, hrec2, hbel2⟩
  go_wp2_with fail
  refine (built_any false a2 c2 rs _ hrec2 hwf hw).mono ?_
  rintro e w3 ⟨rfl, hbt3, hbel3⟩
  go_wp2_with fail
  refine (zzSize_any _ _ false rs _ hbt3 hw).mono ?_
  rintro e w4 ⟨rfl, hbel4⟩
  have s2 := hbel2.size
  have s3 := hbel3.size
  have s4 := hbel4.size
  go_wp2_with fail
  refine (zzAppend_any _ w4.heap.size _ 0 false rs none 0 [] _ (hbt3.fr5 (Fr5.ofBelow hbel4)) hw (World.ownsRow_nil _ _ _ _) (Nat.le_refl _) (Nat.zero_le _)).mono ?_
  rintro e w6 ⟨a6, N6, c6, rfl, ho6⟩
  have hbel56 : Below w4.heap.size w4 w6 := ⟨ho6.grew.grown.os, ho6.grew.grown.tape, ho6.grew.grown.output, ho6.grew.grown.size, fun k hk => ho6.grew.grown.block k hk (by simp [Value.ownBlock])⟩
  have hbw6 : Below w.heap.size w w6 := ((hbel2.trans (hbel3.mono (by omega))).trans (hbel4.mono (by omega))).trans (hbel56.mono (by omega))
  have hN : N6 ≤ sizeR false rs := by have := ho6.len; rw [Nat.zero_add] at this; rw [this]; exact bound_all rs
  clear ho6 hbel2 hbel3 hbel4 hbel56 hbt3 hrec2 h hwt
  obtain ⟨S, hS⟩ : ∃ S, S = sizeR false rs := ⟨_, rfl⟩
  rw [← hS] at hN ⊢
  clear hS
  have hN' : (N6 : Int) ≤ (S : Int) := by omega
  go_wp2
  go_ret
  exact ⟨rfl, hbw6⟩
end Go.Proofs.Qxb6601073a
