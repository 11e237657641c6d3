import Derived.Test.Qxb6601073aZZ
import Derived.Test.Qxb6601073aBytes14
namespace Go.Proofs.Qxb6601073a
open Go.RowKit
set_option linter.unusedVariables false

theorem owns_cap {w : World} {B e size n N c : Nat} {a : Option Addr} {xs : List Value} (h : w.ownsRow B e size (.slice a n c) N xs) : n ≤ c := by
  rcases h.2 with ⟨h0, _⟩ | ⟨g, cap, cur, hv, _, _, hnc, _⟩
  · injection h0 with _ h1 h2; omega
  · injection hv with _ h1 h2; omega

theorem row_prefix {w : World} {B e n m c : Nat} {a : Option Addr} {xs ys : List Value} (h : w.ownsRow B e 1 (.slice a (n + m) c) (n + m) (xs ++ ys)) (hx : xs.length = n) (hm : n ≤ maxLen) : RowAt w 0 (.slice a n c) xs := by
  refine ⟨by omega, ?_⟩
  rcases h.2 with ⟨h0, h1⟩ | ⟨g, cap, cur, hv, hb, hh, _⟩
  · injection h0 with h2 h3 h4
    have : n = 0 := by omega
    subst this h2 h4
    exact .inl ⟨rfl, List.eq_nil_of_length_eq_zero hx⟩
  · injection hv with h2 h3 h4
    subst h2 h4
    refine .inr ⟨⟨g, 0, none⟩, _, by rw [hx], fun i u hi => ⟨?_, Nat.zero_le _⟩⟩
    have hil := (List.getElem?_eq_some_iff.1 hi).1
    exact h.cells (g := g) rfl i u (by rw [List.getElem?_append_left hil]; exact hi)

theorem row_tail {w : World} {B e n m c : Nat} {a : Option Addr} {xs ys : List Value} (h : w.ownsRow B e 1 (.slice a (n + m) c) (n + m) (xs ++ ys)) (hx : xs.length = n) (hm : m ≤ maxLen) : RowAt w 0 (.slice (Option.map (fun x => x.add n) a) m (c - n)) ys := by
  have hy : ys.length = m := by have := h.1; rw [List.length_append] at this; omega
  refine ⟨by omega, ?_⟩
  rcases h.2 with ⟨h0, h1⟩ | ⟨g, cap, cur, hv, hb, hh, _⟩
  · injection h0 with h2 h3 h4
    have : n = 0 := by omega
    have : m = 0 := by omega
    subst h2 h4
    refine .inl ⟨?_, List.eq_nil_of_length_eq_zero (by omega)⟩
    rw [show m = 0 by omega]; simp
  · injection hv with h2 h3 h4
    subst h2 h4
    refine .inr ⟨⟨g, n, none⟩, c - n, by rw [hy]; simp [Addr.add_lit], fun i u hi => ⟨?_, Nat.zero_le _⟩⟩
    have := h.cells (g := g) rfl (n + i) u (by rw [List.getElem?_append_right (by omega), hx, Nat.add_sub_cancel_left]; exact hi)
    rw [Addr.add_lit] at this ⊢
    rwa [Nat.zero_add] at this

set_option maxRecDepth 100000 in
set_option maxHeartbeats 1600000 in
theorem keeps_walk (oa : Option Addr) (oc : Nat) (zs : List Int) (a : Option Addr) (c : Nat) (rs : List Rec) (w : World) (ho : RowAt w 0 (.slice oa zs.length oc) (intCells zs)) (h : RecsAt w 0 (.slice a rs.length c) rs) (hwf : ∀ r ∈ rs, RecWf r) (hl : rs.length ≤ maxLen) :
    Calls Try.prog 4 #[.slice oa zs.length oc, .slice a rs.length c] w fun e w' => e = .returned (.bool true) ∧ Below w.heap.size w w' := by
  have hzl : zs.length ≤ maxLen := by have := ho.1; rwa [length_intCells] at this
  have hzl' := hzl
  unfold maxLen at hzl'
  go_enter Try.func4, Try.ntmps4
  go_wp2_with fail
  refine (zzBytes14_any oa zs.length oc hzl rs a c w h hwf hl).mono ?_
  rintro e w' ⟨he, hq⟩
  subst w'
  rcases he with rfl | rfl
  · go_wp2
    go_ret
    exact ⟨rfl, Below.refl _ _⟩
  by_cases hbig : (1048576 : Int) < (zs.length : Int)
  · go_wp2
    go_ret
    exact ⟨rfl, Below.refl _ _⟩
  go_wp2_with fail
  refine (recsWithin_any (1048576 - (zs.length : Int)) rs a c w h hwf hl (by omega) (by omega)).mono ?_
  rintro e w' ⟨he, hq⟩
  subst w'
  rcases he with rfl | ⟨rfl, hwt⟩
  · go_wp2
    go_ret
    exact ⟨rfl, Below.refl _ _⟩
  have hw : wt rs ≤ 1048576 := by omega
  obtain ⟨b1, b2, b3⟩ := bounds_of_wt hw
  have hn : zs.length ≤ 1048576 := by omega
  go_wp2_with fail
  refine (cloneBytes_ints oa oc zs _ ho hn).mono ?_
  rintro e w1 ⟨a1, c1, rfl, hown1, hbel1⟩
  go_wp2_with fail
  refine (cloneRecs_any a c rs _ (h.up (Up.ofBelow hbel1)) b1 b2).mono ?_
  rintro e w2 ⟨a2, c2, rfl, hrec2, hbel2⟩
  have hown1' := owns_later hown1 hbel2
  go_wp2_with fail
  refine (cloneBytes_ints a1 c1 zs _ ((RowAt.ofOwns hown1' (by unfold maxLen; omega)).lower (Nat.zero_le _)) hn).mono ?_
  rintro e w3 ⟨a3, c3, rfl, hown3, hbel3⟩
  go_wp2_with fail
  refine (built_any false a2 c2 rs _ (hrec2.up (Up.ofBelow hbel3)) hwf hw).mono ?_
  rintro e w4 ⟨rfl, hbt4, hbel4⟩
  go_wp2_with fail
  refine (zzAppend_any _ w4.heap.size _ 0 false rs none 0 [] _ hbt4 hw (World.ownsRow_nil _ _ _ _) (Nat.le_refl _) (Nat.zero_le _)).mono ?_
  rintro e w5 ⟨a5, N5, c5, rfl, ho5⟩
  go_wp2_with fail
  have s1 := hbel1.size
  have s2 := hbel2.size
  have s3 := hbel3.size
  have s4 := hbel4.size
  have s5 := ho5.size
  have hbel45 : Below w4.heap.size w4 w5 := ⟨ho5.grew.grown.os, ho5.grew.grown.tape, ho5.grew.grown.output, ho5.grew.grown.size, fun k hk => ho5.grew.grown.block k hk (by simp [Value.ownBlock])⟩
  have hown5 := owns_later (owns_later (owns_later hown1' hbel3) hbel4) hbel45
  refine (zzAppend_any _ w.heap.size _ zs.length false rs a1 c1 _ _ (hbt4.fr5 ho5.fr5) hw hown5 (by omega) hn).mono ?_
  rintro e w6 ⟨a6, N6, c6, rfl, ho6⟩
  have hL : (linesR false rs).length ≤ 1048576 := by
    have h1 := linesR_wt false rs
    unfold wt at hw
    omega
  obtain ⟨ys, hys⟩ : ∃ ys : List Int, ys = (linesR false rs).map fun b => (b.toNat : Int) := ⟨_, rfl⟩
  have hyl : ys.length = (linesR false rs).length := by rw [hys]; simp
  have hyb : bcs (linesR false rs) = intCells ys := by rw [hys]; simp [bcs, intCells]
  have hN5 : N5 = ys.length := by rw [ho5.len, hyl]; simp
  have hN6 : N6 = zs.length + ys.length := by rw [ho6.len, hyl]
  subst hN5 hN6
  have hG := ho6.own
  have hT := ho5.own
  rw [hyb] at hG hT
  rw [List.nil_append] at hT
  have hT5 : RowAt w5 w1.heap.size (.slice a5 ys.length c5) (intCells ys) := (RowAt.ofOwns hT (by unfold maxLen; omega)).lower (by omega)
  have hW5 : RowAt w5 w1.heap.size (.slice a3 zs.length c3) (intCells zs) := (RowAt.ofOwns (owns_later (owns_later hown3 hbel4) hbel45) (by unfold maxLen; omega)).lower (by omega)
  have hup : Up w1.heap.size w5 w6 := ho6.grew.up (fun k hk => (hown1.lt k hk).2)
  have hT6 := (hT5.up hup).lower (Nat.zero_le _)
  have hW6 := (hW5.up hup).lower (Nat.zero_le _)
  have hbw6 : Below w.heap.size w w6 := ho6.grew.below ((((hbel1.trans (hbel2.mono (by omega))).trans (hbel3.mono (by omega))).trans (hbel4.mono (by omega))).trans (hbel45.mono (by omega))) (by omega) (fun k hk => (hown1.lt k hk).1)
  have hcap := (owns_cap hG)
  rw [hyl.symm] at hL
  clear ho5 ho6 hT hT5 hW5 hup hown1 hown1' hown3 hown5 hbel1 hbel2 hbel3 hbel4 hbel45 hbt4 hrec2 hys hyb hyl h ho hwf b2 b3 hwt
  go_wp2_with fail
  refine (sameBytes_any a6 a3 c6 c3 zs _ (row_prefix hG (length_intCells _) (by unfold maxLen; omega)) hW6).mono ?_
  rintro e w7 ⟨rfl, hbel7⟩
  have hT7 := hT6.up (Up.ofBelow hbel7)
  have hA7 := (row_tail hG (length_intCells _) (by unfold maxLen; omega)).up (Up.ofBelow hbel7)
  have hbw7 := hbw6.trans (hbel7.mono (by have := hbw6.size; omega))
  have hA8 : ys.length = 0 → RowAt w7 0 (.slice a6 ys.length 0) (intCells ys) := fun h0 => by
    have : ys = [] := List.eq_nil_of_length_eq_zero h0
    subst this
    refine ⟨by simp [intCells], ?_⟩
    cases a6 with
    | none => exact .inl ⟨rfl, rfl⟩
    | some x => exact .inr ⟨x, 0, rfl, fun i u hi => by simp [intCells] at hi⟩
  by_cases hc6 : c6 = zs.length
  · have h0 : ys.length = 0 := by omega
    have hc := sameBytes_any a6 a5 0 c5 ys w7 (hA8 h0) hT7
    rw [h0] at hc
    have HC := hid hc
    clear hA8 hA7 hc hT7
    have hc7 : ¬ zs.length < c6 := by omega
    go_wp2_with (go_at_call 12; refine HC.out.mono ?_; rintro e w8 ⟨rfl, hbel8⟩)
    go_ret
    exact ⟨rfl, hbw7.trans (hbel8.mono (by have := hbw7.size; omega))⟩
  · have hc7 : zs.length < c6 := by omega
    have HC := hid (sameBytes_any _ a5 _ c5 ys w7 hA7 hT7)
    clear hA8 hA7 hT7
    go_wp2_with (go_at_call 12; refine HC.out.mono ?_; rintro e w8 ⟨rfl, hbel8⟩)
    go_ret
    exact ⟨rfl, hbw7.trans (hbel8.mono (by have := hbw7.size; omega))⟩
end Go.Proofs.Qxb6601073a
