import Derived.Test.Qxb6601073aSizes
import Derived.Test.Qxb6601073aBytes16
namespace Go.Proofs.Qxb6601073a
open Go.RowKit
set_option linter.unusedVariables false

theorem word_nil (s : ByteArray) : s.toList = [] ↔ s.size = 0 := by
  rw [ByteArray.toList_eq, ← size_list]
  exact List.length_eq_zero_iff.symm

set_option maxRecDepth 100000 in
set_option maxHeartbeats 1600000 in
theorem agrees_walk (a : Option Addr) (c : Nat) (rs : List Rec) (w : World) (h : RecsAt w 0 (.slice a rs.length c) rs) (hwf : ∀ r ∈ rs, RecWf r) (hl : rs.length ≤ maxLen) :
    Calls Try.prog 5 #[.slice a rs.length c] w fun e w' => e = .returned (.bool true) ∧ Below w.heap.size w w' := by
  go_enter Try.func5, Try.ntmps5
  go_wp2_with fail
  refine (zzBytes16_any rs a c w h hwf hl).mono ?_
  rintro e w' ⟨he, hq⟩
  subst w'
  rcases he with rfl | rfl
  · go_wp2
    go_ret
    exact ⟨rfl, Below.refl _ _⟩
  go_wp2_with fail
  refine (recsWithin_any 1048576 rs a c w h hwf hl (by omega) (by omega)).mono ?_
  rintro e w' ⟨he, hq⟩
  subst w'
  rcases he with rfl | ⟨rfl, hwt⟩
  · go_wp2
    go_ret
    exact ⟨rfl, Below.refl _ _⟩
  have hw : wt rs ≤ 1048576 := by omega
  obtain ⟨b1, b2, b3⟩ := bounds_of_wt hw
  go_wp2_with fail
  refine (cloneRecs_any a c rs _ h b1 b2).mono ?_
  rintro e w2 ⟨a2, c2, rfl, hrec2, hbel2⟩
  go_wp2_with fail
  refine (built_any false a2 c2 rs _ hrec2 hwf hw).mono ?_
  rintro e w3 ⟨rfl, hbt3, hbel3⟩
  go_wp2_with fail
  refine (zzSize_any _ _ false rs _ hbt3 hw).mono ?_
  rintro e w4 ⟨rfl, hbel4⟩
  have s2 := hbel2.size
  have s3 := hbel3.size
  have s4 := hbel4.size
  have hrec4 := (hrec2.up (Up.ofBelow hbel3)).up (Up.ofBelow hbel4)
  go_wp2_with fail
  refine (built_any true a2 c2 rs _ hrec4 hwf hw).mono ?_
  rintro e w5 ⟨rfl, hbt5, hbel5⟩
  have s5 := hbel5.size
  go_wp2_with fail
  refine (zzAppend_any _ w5.heap.size _ 0 true rs none 0 [] _ hbt5 hw (World.ownsRow_nil _ _ _ _) (Nat.le_refl _) (Nat.zero_le _)).mono ?_
  rintro e w6 ⟨a6, N6, c6, rfl, ho6⟩
  have hbel56 : Below w5.heap.size w5 w6 := ⟨ho6.grew.grown.os, ho6.grew.grown.tape, ho6.grew.grown.output, ho6.grew.grown.size, fun k hk => ho6.grew.grown.block k hk (by simp [Value.ownBlock])⟩
  have hrec6 := (hrec4.up (Up.ofBelow hbel5)).up (Up.ofBelow hbel56)
  have hbw6 : Below w.heap.size w w6 := (((hbel2.trans (hbel3.mono (by omega))).trans (hbel4.mono (by omega))).trans (hbel5.mono (by omega))).trans (hbel56.mono (by omega))
  have HW := hid (wide_all rs)
  have HN : Hid (N6 = (linesR true rs).length) := by have := ho6.len; rw [Nat.zero_add] at this; exact this
  have hN6 : N6 ≤ 2097152 := by
    have := linesR_wt true rs
    rw [HN.out]; unfold wt at hw; omega
  clear ho6 hbel2 hbel3 hbel4 hbel5 hbel56 hbt3 hbt5 hrec2 hrec4 h hwt
  obtain ⟨S, hS⟩ : ∃ S, S = sizeR false rs := ⟨_, rfl⟩
  rw [← hS] at HW ⊢
  have HS := hid hS
  clear hS
  go_wp2
  go_loop [5, 6] (fun ex i => ∃ (k y : Nat), k ≤ rs.length ∧ i = .int .i64 k ∧ ex = .int .i64 y ∧ Hid (y = extras (rs.take k)) ∧ y ≤ k) (fun _ i => rs.length - (intOf i).toNat)
  case atStart => exact ⟨0, 0, Nat.zero_le _, rfl, rfl, by show _ = _; simp [extras], Nat.le_refl _⟩
  case round =>
    obtain ⟨k, y, hk, rfl, rfl, HY, hyk⟩ := hrel
    by_cases hlt : k < rs.length
    · obtain ⟨b, o, rfl, hx⟩ := hrec6.pos hlt
      have hr := hx k rs[k] (List.getElem?_eq_getElem hlt)
      have HTS : Hid (extras (rs.take (k + 1)) = extras (rs.take k) + extraOf rs[k]) := by
        show _ = _
        rw [List.take_succ_eq_append_getElem hlt, extras_snoc]
      obtain ⟨r, hrr⟩ : ∃ r, r = rs[k] := ⟨_, rfl⟩
      rw [← hrr] at hr HTS
      clear hx hrr
      obtain ⟨ka, kc, ta, tc, ca, cc, _, h0, h1, h2, h3, h4, hrk, hrt, hrc⟩ := hr
      clear h1 h3 h4 hrk hrt hrc
      go_wp2
      · have hw0 : r.word.size = 0 := (word_nil _).1 (by assumption)
        have hk0 : 0 < r.keys.length := by assumption
        go_round
        case rel => exact ⟨k + 1, y + 1, by omega, by go_num, by go_num, by show _ = _; rw [HTS.out, ← HY.out, extraOf, if_pos ⟨hw0, hk0⟩], by omega⟩
        case measure => simp [intOf]; omega
      · have hk0 : ¬ 0 < r.keys.length := by assumption
        go_round
        case rel => exact ⟨k + 1, y, by omega, by go_num, rfl, by show _ = _; rw [HTS.out, ← HY.out, extraOf, if_neg (fun q => hk0 q.2)]; rfl, by omega⟩
        case measure => simp [intOf]; omega
      · have hw0 : ¬ r.word.size = 0 := fun q => absurd ((word_nil _).2 q) (by assumption)
        go_round
        case rel => exact ⟨k + 1, y, by omega, by go_num, rfl, by show _ = _; rw [HTS.out, ← HY.out, extraOf, if_neg (fun q => hw0 q.1)]; rfl, by omega⟩
        case measure => simp [intOf]; omega
    · go_wp2
      go_ret
      obtain rfl : k = rs.length := by omega
      have e1 := HY.out
      rw [List.take_length] at e1
      have e2 := HW.out
      rw [← HN.out, ← e1] at e2
      exact ⟨by show Ending.returned (Value.bool ((S : Int) == (N6 : Int) + (y : Int))) = _; rw [e2]; simp, hbw6⟩
end Go.Proofs.Qxb6601073a
