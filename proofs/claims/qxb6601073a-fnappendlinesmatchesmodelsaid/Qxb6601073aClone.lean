import Derived.Test.Qxb6601073aProg
import Derived.Test.Qxb6601073aMem
namespace Go.Proofs.Qxb6601073a
open Go.RowKit
set_option linter.unusedVariables false

theorem Try.info9 : (Try.prog.info? 9).map (fun i => (i.zero, i.size, i.bytes)) = some (some (.string ⟨#[]⟩), 1, 16) := by kernel_rfl
theorem Try.info5 : (Try.prog.info? 5).map (fun i => (i.zero, i.size, i.bytes)) = some (some (.int .u8 0), 1, 1) := by kernel_rfl
theorem Try.size9 : (Try.prog.info? 9).map (·.size) = some 1 := by kernel_rfl
theorem Try.size5 : (Try.prog.info? 5).map (·.size) = some 1 := by kernel_rfl

/-- the row behind make: its block -/
theorem made_block {w1 : World} {g e n : Nat} {L : List Value} (h : w1.ownsRow g e 1 (.slice (some ⟨g, 0, none⟩) n n) n L) :
    w1.heap[g]? = some (.cells L.toArray e (0, 0)) := by
  rcases h.2 with ⟨h0, _⟩ | ⟨g', cap, cur, hv, hb, hh, hnc, hcm, hcs, ht⟩
  · cases h0
  · injection hv with h1 h2 h3
    injection h1 with h1
    injection h1 with h1
    subst h1
    rw [hh]
    have : cur.toList.take (n * 1) = cur.toList := List.take_of_length_le (by simp; omega)
    rw [this] at ht
    subst ht
    rfl

theorem owns_of_block {w : World} {g e n : Nat} {xs : List Value} (h : w.heap[g]? = some (.cells xs.toArray e (0, 0))) (hn : xs.length = n) (hm : n ≤ maxLen) :
    w.ownsRow g e 1 (.slice (some ⟨g, 0, none⟩) n n) n xs :=
  ⟨by omega, .inr ⟨g, n, xs.toArray, rfl, Nat.le_refl _, h, Nat.le_refl _, hm, by simp; omega, by simp; exact List.take_of_length_le (by omega)⟩⟩

/-- copy(c, s) behind c := make([]T, len(s)): its run, what it leaves -/
theorem copy_made {P : Program} {w w1 : World} {dT elem ty n c : Nat} {xs L : List Value} {x : Addr} (hu : P.underlying dT = some (.slice elem)) (hs : (P.info? elem).map (·.size) = some 1)
    (hown : w1.ownsRow w.heap.size elem 1 (.slice (some ⟨w.heap.size, 0, none⟩) n n) n L) (hg : w.grownBy w1 none) (hn : n = xs.length)
    (hx : ∀ i u, xs[i]? = some u → w.cell? (x.add i) = some u) (h1 : ∀ u ∈ xs, u.oneCell' = true) (hm : n ≤ maxLen) :
    Sem.run P (Builtin.copy_ #[dT, dT] ty #[.slice (some ⟨w.heap.size, 0, none⟩) n n, .slice (some x) n c]) w1 = .ok (goInt xs.length) (w1.setRow w.heap.size xs.toArray) ∧
    (w1.setRow w.heap.size xs.toArray).ownsRow w.heap.size elem 1 (.slice (some ⟨w.heap.size, 0, none⟩) n n) n xs ∧ Below w.heap.size w (w1.setRow w.heap.size xs.toArray) := by
  have hb := made_block hown
  have hL : L.length = n := by have := hown.1; omega
  have hr := run_copy_row (P := P) w1 dT dT ty elem w.heap.size 0 n n x n c L.toArray elem xs hu hs hb (by simp [hn])
    (fun j v hv => hg.cell (hx j v hv) (by simp)) (by simp; omega) h1
  have e : ([] ++ xs ++ List.drop (0 + xs.length) L) = xs := by rw [List.drop_of_length_le (by omega)]; simp
  simp only [List.take_zero, e] at hr
  refine ⟨hr, owns_of_block (setRow_heap _ _ _ _ _ _ hb) hn.symm hm, ?_⟩
  exact below_setRow ⟨hg.os, hg.tape, hg.output, hg.size, fun k hk => hg.block k hk (by simp)⟩ (Nat.le_refl _) _

set_option maxHeartbeats 400000 in
theorem cloneStrs_some (x : Addr) (c : Nat) (xs : List Value) (w : World) (hx : ∀ i u, xs[i]? = some u → w.cell? (x.add i) = some u) (h1 : ∀ u ∈ xs, u.oneCell' = true) (hlen : xs.length ≤ 1048576) :
    Calls Try.prog 21 #[.slice (some x) xs.length c] w fun e w' => ∃ v', e = .returned v' ∧ w'.ownsRow w.heap.size 9 1 v' xs.length xs ∧ Below w.heap.size w w' := by
  have hn := Lib.run_eql_slice_nil (P := Try.prog) w 35 9 (some x) xs.length c 0 0 Try.underlying35
  simp at hn
  obtain ⟨i0, hi, hz0, hz1, hz2⟩ := info_parts Try.info9
  have hby : i0.bytes * xs.length ≤ 281474976710656 := by rw [hz2]; omega
  obtain ⟨n, hnn⟩ : ∃ n, n = xs.length := ⟨_, rfl⟩
  rw [← hnn] at hn hby ⊢
  have hm : n ≤ maxLen := by unfold maxLen; omega
  have HN : Hid (n = xs.length) := hnn
  clear hnn
  go_enter Try.func21, Try.ntmps21
  go_wp2_with (at_make; refine wpList_make_full _ rfl _ _ 35 rfl w.heap.size 9 i0 (.string ⟨#[]⟩) 1 Try.underlying35 hi hz0 hz1 _ _ _ _ n rfl rfl rfl rfl hby hm (Nat.le_refl _) ?_; intro w1 hown1 hg1; obtain ⟨hcp, hown2, hbel⟩ := copy_made (ty := 3) (c := c) Try.underlying35 Try.size9 hown1 hg1 HN.out hx h1 hm)
  go_ret
  exact ⟨_, rfl, by assumption, by assumption⟩

set_option maxHeartbeats 400000 in
theorem cloneBytes_some (x : Addr) (c : Nat) (xs : List Value) (w : World) (hx : ∀ i u, xs[i]? = some u → w.cell? (x.add i) = some u) (h1 : ∀ u ∈ xs, u.oneCell' = true) (hlen : xs.length ≤ 1048576) :
    Calls Try.prog 15 #[.slice (some x) xs.length c] w fun e w' => ∃ v', e = .returned v' ∧ w'.ownsRow w.heap.size 5 1 v' xs.length xs ∧ Below w.heap.size w w' := by
  have hn := Lib.run_eql_slice_nil (P := Try.prog) w 26 5 (some x) xs.length c 0 0 Try.underlying26
  simp at hn
  obtain ⟨i0, hi, hz0, hz1, hz2⟩ := info_parts Try.info5
  have hby : i0.bytes * xs.length ≤ 281474976710656 := by rw [hz2]; omega
  obtain ⟨n, hnn⟩ : ∃ n, n = xs.length := ⟨_, rfl⟩
  rw [← hnn] at hn hby ⊢
  have hm : n ≤ maxLen := by unfold maxLen; omega
  have HN : Hid (n = xs.length) := hnn
  clear hnn
  go_enter Try.func15, Try.ntmps15
  go_wp2_with (at_make; refine wpList_make_full _ rfl _ _ 26 rfl w.heap.size 5 i0 (.int .u8 0) 1 Try.underlying26 hi hz0 hz1 _ _ _ _ n rfl rfl rfl rfl hby hm (Nat.le_refl _) ?_; intro w1 hown1 hg1; obtain ⟨hcp, hown2, hbel⟩ := copy_made (ty := 3) (c := c) Try.underlying26 Try.size5 hown1 hg1 HN.out hx h1 hm)
  go_ret
  exact ⟨_, rfl, by assumption, by assumption⟩

theorem cloneStrs_nil (w : World) : Calls Try.prog 21 #[.slice none 0 0] w fun e w' => ∃ v', e = .returned v' ∧ w'.ownsRow w.heap.size 9 1 v' 0 [] ∧ Below w.heap.size w w' := by
  have hn := Lib.run_eql_slice_nil (P := Try.prog) w 35 9 none 0 0 0 0 Try.underlying35
  simp at hn
  go_enter Try.func21, Try.ntmps21
  go_wp2
  go_ret
  exact ⟨_, rfl, World.ownsRow_nil _ _ _ _, Below.refl _ _⟩
theorem cloneBytes_nil (w : World) : Calls Try.prog 15 #[.slice none 0 0] w fun e w' => ∃ v', e = .returned v' ∧ w'.ownsRow w.heap.size 5 1 v' 0 [] ∧ Below w.heap.size w w' := by
  have hn := Lib.run_eql_slice_nil (P := Try.prog) w 26 5 none 0 0 0 0 Try.underlying26
  simp at hn
  go_enter Try.func15, Try.ntmps15
  go_wp2
  go_ret
  exact ⟨_, rfl, World.ownsRow_nil _ _ _ _, Below.refl _ _⟩

theorem cloneStrs_any {B : Nat} (v : Value) (xs : List Value) (w : World) (h : RowAt w B v xs) (h1 : ∀ u ∈ xs, u.oneCell' = true) (hlen : xs.length ≤ 1048576) :
    Calls Try.prog 21 #[v] w fun e w' => ∃ v', e = .returned v' ∧ w'.ownsRow w.heap.size 9 1 v' xs.length xs ∧ Below w.heap.size w w' := by
  rcases h.2 with ⟨rfl, rfl⟩ | ⟨x, c, rfl, hx⟩
  · exact cloneStrs_nil w
  · exact cloneStrs_some x c xs w (fun i u hi => (hx i u hi).1) h1 hlen
theorem cloneBytes_any {B : Nat} (v : Value) (xs : List Value) (w : World) (h : RowAt w B v xs) (h1 : ∀ u ∈ xs, u.oneCell' = true) (hlen : xs.length ≤ 1048576) :
    Calls Try.prog 15 #[v] w fun e w' => ∃ v', e = .returned v' ∧ w'.ownsRow w.heap.size 5 1 v' xs.length xs ∧ Below w.heap.size w w' := by
  rcases h.2 with ⟨rfl, rfl⟩ | ⟨x, c, rfl, hx⟩
  · exact cloneBytes_nil w
  · exact cloneBytes_some x c xs w (fun i u hi => (hx i u hi).1) h1 hlen

end Go.Proofs.Qxb6601073a
