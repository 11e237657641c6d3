import Derived.Test.Qxb6601073aModel
import Derived.Test.Qxb6601073aBytes7
namespace Go.Proofs.Qxb6601073a
open Go.RowKit
set_option linter.unusedVariables false

set_option maxRecDepth 100000 in
set_option maxHeartbeats 1600000 in
theorem matches_walk (a : Option Addr) (c : Nat) (rs : List Rec) (w : World) (h : RecsAt w 0 (.slice a rs.length c) rs) (hwf : ∀ r ∈ rs, RecWf r) (hl : rs.length ≤ maxLen) :
    Calls Try.prog 3 #[.slice a rs.length c] w fun e w' => e = .returned (.bool true) ∧ Below w.heap.size w w' := by
  go_enter Try.func3, Try.ntmps3
  go_wp2_with fail
  refine (zzBytes7_any rs a c w h hwf hl).mono ?_
  rintro e w' ⟨he, hq⟩
  subst w'
  rcases he with rfl | rfl
  · go_wp2
    go_ret
    exact ⟨rfl, Below.refl _ _⟩
  go_wp2_with fail
  refine (recsWithin_any 1048576 rs a c w h hwf hl (by omega) (by omega)).mono ?_
  rintro e w' ⟨he, hq⟩
  subst w'
  rcases he with rfl | ⟨rfl, hwt⟩
  · go_wp2
    go_ret
    exact ⟨rfl, Below.refl _ _⟩
  have hw : wt rs ≤ 1048576 := by omega
  obtain ⟨b1, b2, b3⟩ := bounds_of_wt hw
  go_wp2_with fail
  refine (cloneRecs_any a c rs _ h b1 b2).mono ?_
  rintro e w2 ⟨a2, c2, rfl, hrec2, hbel2⟩
  go_wp2_with fail
  refine (built_any false a2 c2 rs _ hrec2 hwf hw).mono ?_
  rintro e w3 ⟨rfl, hbt3, hbel3⟩
  have s2 := hbel2.size
  have s3 := hbel3.size
  go_wp2_with fail
  refine (zzAppend_any _ w3.heap.size _ 0 false rs none 0 [] _ hbt3 hw (World.ownsRow_nil _ _ _ _) (Nat.le_refl _) (Nat.zero_le _)).mono ?_
  rintro e w4 ⟨a4, N4, c4, rfl, ho4⟩
  have hbel34 : Below w3.heap.size w3 w4 := ⟨ho4.grew.grown.os, ho4.grew.grown.tape, ho4.grew.grown.output, ho4.grew.grown.size, fun k hk => ho4.grew.grown.block k hk (by simp [Value.ownBlock])⟩
  have s4 := hbel34.size
  go_wp2_with fail
  refine (model_any a2 c2 rs _ ((hrec2.up (Up.ofBelow hbel3)).up (Up.ofBelow hbel34)) hwf hw).mono ?_
  rintro e w5 ⟨a5, N5, c5, rfl, hown5, hbel5⟩
  have hL : (linesR false rs).length ≤ 1048576 := by
    have h1 := linesR_wt false rs
    unfold wt at hw
    omega
  obtain ⟨ys, hys⟩ : ∃ ys : List Int, ys = (linesR false rs).map fun b => (b.toNat : Int) := ⟨_, rfl⟩
  have hyl : ys.length = (linesR false rs).length := by rw [hys]; simp
  have hyb : bcs (linesR false rs) = intCells ys := by rw [hys]; simp [bcs, intCells]
  rw [model_lines, hyb] at hown5
  have hN4 : N4 = ys.length := by rw [ho4.len, hyl]; simp
  have hN5 : N5 = ys.length := by have := hown5.1; rw [length_intCells] at this; omega
  subst hN4 hN5
  have hG := ho4.own
  rw [hyb, List.nil_append] at hG
  have hG5 := ((RowAt.ofOwns hG (by unfold maxLen; omega)).up ((Up.ofBelow hbel5).mono (Nat.zero_le _))).lower (Nat.zero_le _)
  have hM5 := (RowAt.ofOwns hown5 (by unfold maxLen; omega)).lower (Nat.zero_le _)
  have hbw5 : Below w.heap.size w w5 := ((hbel2.trans (hbel3.mono (by omega))).trans (hbel34.mono (by omega))).trans (hbel5.mono (by omega))
  clear ho4 hown5 hG hbel2 hbel3 hbel34 hbel5 hbt3 hrec2 h hwt hys hyb hyl hwf b2 b3
  go_wp2_with fail
  refine (sameBytes_any a4 a5 c4 c5 ys _ hG5 hM5).mono ?_
  rintro e w6 ⟨rfl, hbel6⟩
  go_wp2
  go_ret
  exact ⟨rfl, hbw5.trans (hbel6.mono (by have := hbw5.size; omega))⟩
end Go.Proofs.Qxb6601073a
