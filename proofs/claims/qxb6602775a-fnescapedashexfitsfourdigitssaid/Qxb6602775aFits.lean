import Derived.Test.Qxb6602775aDig
namespace Go.Proofs.Qxb6602775a
open Go.RowKit
set_option linter.unusedVariables false

set_option maxHeartbeats 400000 in
theorem fits_neg (r : Int) (h : r < 0) (w : World) : Calls Try.prog 6 #[.int .i32 r] w fun e w' => e = .returned (.bool true) ∧ Below w.heap.size w w' := by
  go_enter Try.func6, Try.ntmps6
  go_wp2
  go_ret
  exact ⟨rfl, Below.refl _ _⟩

set_option maxHeartbeats 400000 in
theorem fits_no (r : Int) (h : 0 ≤ r) (he : escB r = false) (w : World) : Calls Try.prog 6 #[.int .i32 r] w fun e w' => e = .returned (.bool true) ∧ Below w.heap.size w w' := by
  go_enter Try.func6, Try.ntmps6
  go_wp2_with (go_at_call 11; refine (zzEsc_any _ _).mono ?_; rintro e w' ⟨rfl, rfl⟩)
  go_ret
  exact ⟨rfl, Below.refl _ _⟩

theorem esc_small {r : Int} (h : escB r = true) (h0 : 0 ≤ r) : r < 65536 := by
  unfold escB at h
  split at h
  · cases h
  · split at h
    · rename_i h1; simp at h1; omega
    · simp at h; omega

set_option maxHeartbeats 1600000 in
theorem fits_yes (r : Int) (h : 0 ≤ r) (he : escB r = true) (w : World) : Calls Try.prog 6 #[.int .i32 r] w fun e w' => e = .returned (.bool true) ∧ Below w.heap.size w w' := by
  have hr := esc_small he h
  have hmk : ∀ w, (Instr.makeSlice 23 (.int .i64 4) (.int .i64 4)).run Try.prog w = .ok (.slice (some ⟨w.heap.size, 0, none⟩) 4 4) (w.alloc (.cells #[.int .u8 0, .int .u8 0, .int .u8 0, .int .u8 0] 5)) := fun _ => by kernel_rfl
  go_enter Try.func6, Try.ntmps6
  go_wp2_with (go_at_call 11; refine (zzEsc_any _ _).mono ?_; rintro e w' ⟨rfl, hq⟩; subst w')
  go_loopw [4, 5] (fun x i wr => ∃ k : Nat, k ≤ 4 ∧ i = .int .i64 (3 - (k : Int)) ∧ x = .int .i32 (sh r k) ∧ DigB wr w.heap.size 4 false r k ∧ Below w.heap.size w wr) (fun _ i _ => (intOf i + 1).toNat)
  case atStart => exact ⟨0, by omega, rfl, rfl, ⟨_, heap_alloc_new w _, rfl, fun j hj => absurd hj (Nat.not_lt_zero _)⟩, (Below.refl _ _).alloc (Nat.le_refl _) _⟩
  case round =>
    obtain ⟨k, hk, rfl, rfl, hd, hbel⟩ := hrel
    clear hmk
    by_cases hlt : k < 4
    · obtain ⟨s0, s1⟩ := sh_bd h hr k
      have hand := i32_and15 (sh r k) s0 s1
      have hidx := idx_low (sh r k % 16) (by omega) (by omega)
      obtain ⟨u, hc, hf⟩ := hd.cell (o := 3 - k) (by omega)
      have hst := hd.step hlt (Nat.le_refl _)
      have HST := hid hst
      have i1 : (0 : Int) ≤ 3 - (k : Int) := by omega
      have i2 : (3 : Int) - (k : Int) < 4 := by omega
      have i3 : ((3 : Int) - (k : Int)).toNat = 3 - k := by omega
      obtain ⟨x, hx⟩ : ∃ x, x = sh r k := ⟨_, rfl⟩
      rw [← hx] at hand hidx s0 s1 HST ⊢
      have HX := hid hx
      clear hx hst hd
      go_wp2
      go_roundw
      case rel =>
        refine ⟨k + 1, by omega, by congr 1; omega, ?_, ?_, hbel.setCell (Nat.le_refl _) _⟩
        · rw [HX.out]; rfl
        · have := HST.out
          rw [HX.out] at this ⊢
          exact this
      case measure => simp [intOf]; omega
    · obtain rfl : k = 4 := by omega
      have HP := hid (zzParse_any hd.done h hr (Nat.le_refl 4) (Nat.le_refl 4) (by omega))
      simp only [Bool.false_and, Bool.not_false] at HP
      clear hd
      have hi : (3 : Int) - ((4 : Nat) : Int) = -1 := by omega
      rw [hi]
      clear hi
      go_wp2_with (go_at_call 9; refine HP.out.mono ?_; rintro e w' ⟨rfl, hq⟩; subst w')
      go_ret
      exact ⟨rfl, hbel⟩
end Go.Proofs.Qxb6602775a
