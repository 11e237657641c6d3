import Derived.Test.Qxb6602775aTail
namespace Go.Proofs.Qxb6602775a
open Go.RowKit
set_option linter.unusedVariables false

theorem make_buf (n : Nat) (hn : n ≤ 1048576) (w : World) : (Instr.makeSlice 23 (.int .i64 4) (.int .i64 (4 + (n : Int)))).run Try.prog w = .ok (.slice (some ⟨w.heap.size, 0, none⟩) 4 (4 + n)) (w.alloc (.cells (madeCells #[.int .u8 0] (4 + n)) 5)) := by
  obtain ⟨i0, hi, hz0, hz1, hz2⟩ := info_parts Try.info5
  have := run_make (P := Try.prog) w 23 5 i0 (.int .u8 0) Try.underlying23 hi hz0 .i64 .i64 4 (4 + (n : Int)) (by omega) (by omega) (by rw [hz2]; omega) (by omega)
  rw [hz1] at this
  have e1 : (4 + (n : Int)).toNat = 4 + n := by omega
  rw [e1] at this
  simpa [Value.cells] using this

theorem dig_owns {w : World} {g n : Nat} {up : Bool} {r : Int} {B : Nat} (h : DigB w g (4 + n) up r 4) (hB : B ≤ g) (hm : 4 + n ≤ maxLen) :
    w.ownsRow B 5 1 (.slice (some ⟨g, 0, none⟩) 4 (4 + n)) 4 ((List.range 4).map fun k => .int .u8 (dch up (sh r (3 - k) % 16))) := by
  obtain ⟨cur, h1, h2, h3⟩ := h
  refine ⟨rfl, .inr ⟨g, 4 + n, cur, rfl, hB, h1, by omega, hm, by omega, ?_⟩⟩
  apply List.ext_getElem?
  intro i
  by_cases hi : i < 4
  · have := h3 (3 - i) (by omega)
    rw [show 3 - (3 - i) = i by omega] at this
    rw [List.getElem?_take, if_pos (by omega)]
    simp [hi, this]
  · rw [List.getElem?_take, if_neg (by omega)]
    simp [hi]

theorem owns_cells {w : World} {B e n c : Nat} {a : Option Addr} {xs : List Value} (h : w.ownsRow B e 1 (.slice a n c) n xs) (hn : 0 < n) :
    ∃ g, a = some ⟨g, 0, none⟩ ∧ n ≤ c ∧ ∀ j u, xs[j]? = some u → w.cell? ⟨g, 0 + j, none⟩ = some u := by
  rcases h.2 with ⟨hv, h0⟩ | ⟨g, cap, cur, hv, hb, hh, hnc, r⟩
  · omega
  · injection hv with h1 h2 h3
    subst h1 h3
    refine ⟨g, rfl, hnc, fun j u hj => ?_⟩
    have := h.cells (g := g) rfl j u hj
    rwa [Addr.add_lit] at this

set_option maxHeartbeats 400000 in
theorem back_big (v : Int) (up : Bool) (a : Option Addr) (n c : Nat) (w : World) (h : (1048576 : Int) < (n : Int)) : Calls Try.prog 3 #[.int .u16 v, .bool up, .slice a n c] w fun e w' => e = .returned (.bool true) ∧ Below w.heap.size w w' := by
  go_enter Try.func3, Try.ntmps3
  go_wp2_with (go_at_call 7; refine (zz7_big _ _ _ _ _ _ h).mono ?_; rintro e w' ⟨rfl, hq⟩; subst w')
  go_ret
  exact ⟨rfl, Below.refl _ _⟩

set_option maxRecDepth 100000 in
set_option maxHeartbeats 3200000 in
theorem back_small (v : Int) (up : Bool) (a : Option Addr) (c : Nat) (zs : List Int) (w : World) (hv0 : 0 ≤ v) (hv1 : v < 65536) (h : RowAt w 0 (.slice a zs.length c) (intCells zs)) (hn : zs.length ≤ 1048576) :
    Calls Try.prog 3 #[.int .u16 v, .bool up, .slice a zs.length c] w fun e w' => e = .returned (.bool true) ∧ Below w.heap.size w w' := by
  have hn' : (zs.length : Int) ≤ 1048576 := by omega
  have hmk := make_buf zs.length hn
  obtain ⟨i0, hi, hz0, hz1, hz2⟩ := info_parts Try.info5
  go_enter Try.func3, Try.ntmps3
  go_wp2_with (first
    | (go_at_call 7; refine (zz7_small _ _ _ _ _ _ hn').mono ?_; rintro e w' ⟨rfl, hq⟩; subst w')
    | (go_at_call 8; refine (clone_any a c zs _ h hn).mono ?_; rintro e w1 ⟨a1, c1, rfl, hrow1, hbel1⟩))
  clear hmk h
  go_loopw [8, 9, 10] (fun x hl i wr => ∃ k : Nat, k ≤ 4 ∧ i = .int .i64 (3 - (k : Int)) ∧ x = .int .i32 (sh v k) ∧ hl = .bool (anyL v k) ∧ DigB wr w1.heap.size (4 + zs.length) up v k ∧ Below w1.heap.size w1 wr) (fun _ _ i _ => (intOf i + 1).toNat)
  case atStart => exact ⟨0, by omega, rfl, rfl, rfl, ⟨_, heap_alloc_new w1 _, by rw [size_madeCells], fun j hj => absurd hj (Nat.not_lt_zero _)⟩, (Below.refl _ _).alloc (Nat.le_refl _) _⟩
  case round =>
    obtain ⟨k, hk, rfl, rfl, rfl, hd, hbel⟩ := hrel
    by_cases hlt : k < 4
    · obtain ⟨s0, s1⟩ := sh_bd hv0 hv1 k
      have hand := i32_and15 (sh v k) s0 s1
      have hidxL := idx_low (sh v k % 16) (by omega) (by omega)
      have hidxU := idx_up (sh v k % 16) (by omega) (by omega)
      obtain ⟨u, hc, hf⟩ := hd.cell (o := 3 - k) (by omega)
      have HST := hid (hd.step hlt (by omega))
      have i1 : (0 : Int) ≤ 3 - (k : Int) := by omega
      have i2 : (3 : Int) - (k : Int) < 4 := by omega
      have i3 : ((3 : Int) - (k : Int)).toNat = 3 - k := by omega
      have HAL : Hid (anyL v (k + 1) = (anyL v k || decide (10 ≤ sh v k % 16))) := rfl
      obtain ⟨x, hx⟩ : ∃ x, x = sh v k := ⟨_, rfl⟩
      obtain ⟨al, hal⟩ : ∃ al, al = anyL v k := ⟨_, rfl⟩
      rw [← hx] at hand hidxL hidxU s0 s1 HST HAL ⊢
      rw [← hal] at HAL ⊢
      have HX := hid hx
      clear hx hal hd
      by_cases h10 : 10 ≤ x % 16
      all_goals
        cases up
        all_goals
          go_wp2
          go_roundw
          case rel =>
            refine ⟨k + 1, by omega, by congr 1; omega, ?_, ?_, ?_, hbel.setCell (Nat.le_refl _) _⟩
            · rw [HX.out]; rfl
            · rw [HAL.out]; simp [h10]
            · have := HST.out
              rw [HX.out] at this ⊢
              exact this
          case measure => simp [intOf]; omega
    · obtain rfl : k = 4 := by omega
      have hown := dig_owns hd (Nat.le_refl _) (by unfold maxLen; omega)
      have hrow := hrow1.up (Up.ofBelow hbel)
      have hsrc := src_of_row (P := Try.prog) Try.underlying23 hrow (intCells_one _)
      rw [length_intCells] at hsrc
      have HA : Hid (anyL v 4 = anyL v 4) := rfl
      have hi' : (3 : Int) - ((4 : Nat) : Int) = -1 := by omega
      rw [hi']
      clear hi' hd
      obtain ⟨al, hal⟩ : ∃ al, al = anyL v 4 := ⟨_, rfl⟩
      rw [← hal]
      have HAL := hid hal
      clear hal
      have hm : 4 + zs.length ≤ maxLen := by unfold maxLen; omega
      go_wp2_with (at_builtin; refine wpList_append_src _ rfl (.tmp 52) (.tmp 53) 23 23 rfl w1.heap.size 5 i0 (.int .u8 0) 1 1 Try.underlying23 hi hz0 hz1 hz2 rfl (by decide) _ 4 _ rfl hown _ zs.length (intCells zs) rfl hsrc hm (by omega) hbel.size ?_; intro a2 c2 w2 hown2 hg2)
      obtain ⟨g2, rfl, hcap, hcells⟩ := owns_cells hown2 (by omega)
      have hP := zzParse_any (w := w2) (g := g2) (cap := c2) (n := 4 + zs.length) (up := up) (r := v) (fun k hk => hcells k _ (by rw [List.getElem?_append_left (by simpa using hk)]; simp [hk])) hv0 hv1 (by omega) hcap (by omega)
      rw [← HAL.out] at hP
      have HP := hid hP
      have hbel2 : Below w.heap.size w w2 := hg2.below (hbel1.trans (hbel.mono hbel1.size)) (by have := hbel1.size; have := hbel.size; omega) (fun k hk => by have := (hown.lt k hk).1; have := hbel1.size; omega)
      clear hP hcells hcap hown2 hg2 hown hrow hsrc hrow1 hbel1 hbel
      cases up <;> cases al
      all_goals
        go_wp2_with (go_at_call 9; refine HP.out.mono ?_; rintro e w' ⟨rfl, hq⟩; subst w')
        go_ret
        exact ⟨rfl, hbel2⟩
end Go.Proofs.Qxb6602775a
