import Derived.Test.Qxb6602775aDig
import Derived.Test.Qxb6602775aMem
namespace Go.Proofs.Qxb6602775a
open Go.RowKit
set_option linter.unusedVariables false

theorem Try.info5 : (Try.prog.info? 5).map (fun i => (i.zero, i.size, i.bytes)) = some (some (.int .u8 0), 1, 1) := by kernel_rfl

def intCells (zs : List Int) : List Value := zs.map (Value.int .u8)
theorem intCells_at {zs : List Int} {j : Nat} (h : j < zs.length) : (intCells zs)[j]? = some (.int .u8 (zs.getD j 0)) := by
  simp [intCells, List.getD, List.getElem?_eq_getElem h]
theorem intCells_one (zs : List Int) : ∀ u ∈ intCells zs, u.oneCell' = true := by
  intro u hu; obtain ⟨s, _, rfl⟩ := List.mem_map.1 hu; rfl
theorem length_intCells (zs : List Int) : (intCells zs).length = zs.length := by simp [intCells]

theorem src_of_row {P : Program} {w : World} {B tx e : Nat} {v : Value} {xs : List Value} (hk : P.underlying tx = some (.slice e)) (h : RowAt w B v xs) (h1 : ∀ u ∈ xs, u.oneCell' = true) : Src P 1 tx v xs.length xs w := by
  rcases h.2 with ⟨rfl, rfl⟩ | ⟨x, c, rfl, hx⟩
  · exact Src.ofNil _ hk 0
  · exact Src.ofSlice _ hk x xs.length c xs (by simp) (fun j u hj => (hx j u hj).1) h1

/-- the copy, its first k cells laid -/
def CopB (w : World) (g : Nat) (zs : List Int) (k : Nat) : Prop :=
  ∃ cur, w.heap[g]? = some (.cells cur 5 (0, 0)) ∧ cur.size = zs.length ∧ ∀ j, j < k → cur[j]? = some (.int .u8 (zs.getD j 0))
theorem CopB.step {w : World} {g k : Nat} {zs : List Int} (h : CopB w g zs k) (hk : k < zs.length) : CopB (w.setCell ⟨g, k, none⟩ (.int .u8 (zs.getD k 0))) g zs (k + 1) := by
  obtain ⟨cur, h1, h2, h3⟩ := h
  refine ⟨_, block_setCell h1 _, by simp [h2], fun j hj => ?_⟩
  rw [Array.getElem?_setIfInBounds]
  by_cases hjk : j = k
  · subst hjk
    rw [if_pos rfl, if_pos (by omega)]
  · rw [if_neg (by omega)]
    exact h3 j (by omega)
theorem CopB.cell {w : World} {g k : Nat} {zs : List Int} (h : CopB w g zs k) {o : Nat} (ho : o < zs.length) : ∃ u, w.cell? ⟨g, o, none⟩ = some u ∧ w.frozen? ⟨g, o, none⟩ = false := by
  obtain ⟨cur, h1, h2, _⟩ := h
  exact ⟨cur[o]'(by omega), by simp [World.cell?, h1, h2, ho], by simp [World.frozen?, h1]⟩
theorem CopB.row {w : World} {g : Nat} {zs : List Int} (h : CopB w g zs zs.length) (hm : zs.length ≤ maxLen) : RowAt w 0 (.slice (some ⟨g, 0, none⟩) zs.length zs.length) (intCells zs) := by
  obtain ⟨cur, h1, h2, h3⟩ := h
  refine ⟨by rw [length_intCells]; exact hm, .inr ⟨⟨g, 0, none⟩, _, by rw [length_intCells], fun i u hi => ⟨?_, Nat.zero_le _⟩⟩⟩
  have hil : i < zs.length := by have := (List.getElem?_eq_some_iff.1 hi).1; rwa [length_intCells] at this
  rw [intCells_at hil] at hi
  injection hi with hi
  rw [Addr.add_lit, Nat.zero_add, ← hi]
  simp [World.cell?, h1, h3 i hil]

theorem clone_nil (w : World) : Calls Try.prog 8 #[.slice none 0 0] w fun e w' => e = .returned (.slice none 0 0) ∧ w' = w := by
  have hn := Lib.run_eql_slice_nil (P := Try.prog) w 23 5 none 0 0 0 0 Try.underlying23
  simp at hn
  go_enter Try.func8, Try.ntmps8
  go_wp2
  go_ret
  exact ⟨rfl, rfl⟩

theorem made1 {w1 : World} {g e n : Nat} {L : List Value} (h : w1.ownsRow g e 1 (.slice (some ⟨g, 0, none⟩) n n) n L) :
    ∃ cur, w1.heap[g]? = some (.cells cur e (0, 0)) ∧ cur.size = n := by
  rcases h.2 with ⟨h0, _⟩ | ⟨g', cap, cur, hv, hb, hh, hnc, hcm, hcs, ht⟩
  · cases h0
  · injection hv with h1 h2 h3
    injection h1 with h1
    injection h1 with h1
    subst h1
    subst h3
    exact ⟨cur, hh, by omega⟩

set_option maxHeartbeats 800000 in
theorem clone_some (x : Addr) (c : Nat) (zs : List Int) (w : World) (h : RowAt w 0 (.slice (some x) zs.length c) (intCells zs)) (hn : zs.length ≤ 1048576) :
    Calls Try.prog 8 #[.slice (some x) zs.length c] w fun e w' => e = .returned (.slice (some ⟨w.heap.size, 0, none⟩) zs.length zs.length) ∧ RowAt w' 0 (.slice (some ⟨w.heap.size, 0, none⟩) zs.length zs.length) (intCells zs) ∧ Below w.heap.size w w' := by
  have hnil := Lib.run_eql_slice_nil (P := Try.prog) w 23 5 (some x) zs.length c 0 0 Try.underlying23
  simp at hnil
  obtain ⟨i0, hi, hz0, hz1, hz2⟩ := info_parts Try.info5
  have hby : i0.bytes * zs.length ≤ 281474976710656 := by rw [hz2]; omega
  have hm : zs.length ≤ maxLen := by unfold maxLen; omega
  go_enter Try.func8, Try.ntmps8
  go_wp2_with (at_make; refine wpList_make_full _ rfl _ _ 23 rfl w.heap.size 5 i0 (.int .u8 0) 1 Try.underlying23 hi hz0 hz1 _ _ _ _ zs.length rfl rfl rfl rfl hby hm (Nat.le_refl _) ?_; intro w1 hown1 hg1)
  have hst : CopB w1 w.heap.size zs 0 := by
    obtain ⟨cur, h1, h2⟩ := made1 hown1
    exact ⟨cur, h1, h2, fun j hj => absurd hj (Nat.not_lt_zero _)⟩
  have hbel1 : Below w.heap.size w w1 := ⟨hg1.os, hg1.tape, hg1.output, hg1.size, fun k hk => hg1.block k hk (by simp)⟩
  clear hown1 hg1
  go_loopw [4] (fun i wr => ∃ k : Nat, k ≤ zs.length ∧ i = .int .i64 k ∧ CopB wr w.heap.size zs k ∧ Below w.heap.size w wr) (fun i _ => zs.length - (intOf i).toNat)
  case atStart => exact ⟨0, Nat.zero_le _, rfl, hst, hbel1⟩
  case round =>
    obtain ⟨k, hk, rfl, hinv, hbel⟩ := hrel
    clear hst hbel1 hnil hz0 hz1 hz2 hi hby
    by_cases hlt : k < zs.length
    · obtain ⟨b, o, hxe, _, hx⟩ := (h.up (Up.ofBelow hbel)).pos (i := k) (by rw [length_intCells]; exact hlt)
      injection hxe with hxe
      subst hxe
      have hcell := hx k _ (intCells_at hlt)
      obtain ⟨u, hc, hf⟩ := hinv.cell hlt
      have HST := hid (hinv.step hlt)
      obtain ⟨z, hz⟩ : ∃ z, z = zs.getD k 0 := ⟨_, rfl⟩
      rw [← hz] at hcell HST
      clear hx hz h hinv
      go_wp2
      go_roundw
      case rel => exact ⟨k + 1, by omega, by go_num, HST.out, hbel.setCell (Nat.le_refl _) _⟩
      case measure => simp [intOf]; omega
    · go_wp2
      go_ret
      obtain rfl : k = zs.length := by omega
      exact ⟨rfl, hinv.row hm, hbel⟩

theorem clone_any (a : Option Addr) (c : Nat) (zs : List Int) (w : World) (h : RowAt w 0 (.slice a zs.length c) (intCells zs)) (hn : zs.length ≤ 1048576) :
    Calls Try.prog 8 #[.slice a zs.length c] w fun e w' => ∃ a' c', e = .returned (.slice a' zs.length c') ∧ RowAt w' 0 (.slice a' zs.length c') (intCells zs) ∧ Below w.heap.size w w' := by
  cases a with
  | some x =>
    refine (clone_some x c zs w h hn).mono ?_
    rintro e w' ⟨rfl, h1, h2⟩
    exact ⟨_, _, rfl, h1, h2⟩
  | none =>
    rcases h.2 with ⟨hv, h0⟩ | ⟨x, c', hv, hx⟩
    · have hz : zs = [] := by
        have := congrArg List.length h0
        rw [length_intCells] at this
        exact List.eq_nil_of_length_eq_zero this
      subst hz
      simp only [List.length_nil] at hv ⊢
      injection hv with _ _ hv
      subst hv
      refine (clone_nil w).mono ?_
      rintro e w' ⟨rfl, rfl⟩
      exact ⟨none, 0, rfl, ⟨by simp [intCells], .inl ⟨rfl, rfl⟩⟩, Below.refl _ _⟩
    · injection hv with hv; cases hv

set_option maxHeartbeats 400000 in
theorem zz7_big (v : Int) (up : Bool) (a : Option Addr) (n c : Nat) (w : World) (h : (1048576 : Int) < (n : Int)) : Calls Try.prog 7 #[.int .u16 v, .bool up, .slice a n c] w fun e w' => e = .returned (.bool false) ∧ w' = w := by
  go_enter Try.func7, Try.ntmps7
  go_wp2
  go_ret
  exact ⟨rfl, rfl⟩
set_option maxHeartbeats 400000 in
theorem zz7_small (v : Int) (up : Bool) (a : Option Addr) (n c : Nat) (w : World) (h : (n : Int) ≤ 1048576) : Calls Try.prog 7 #[.int .u16 v, .bool up, .slice a n c] w fun e w' => e = .returned (.bool true) ∧ w' = w := by
  go_enter Try.func7, Try.ntmps7
  go_wp2
  go_ret
  exact ⟨rfl, rfl⟩
end Go.Proofs.Qxb6602775a
