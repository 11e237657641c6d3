import Derived.Test.Qxb6601073aData
import Derived.LoopTactic
import Derived.Deep.QuietTactic
import Derived.BigQuiet
namespace Go.Proofs.Qxb6601073a
open Go.RowKit
set_option linter.unusedVariables false

def sumS (ss : List ByteArray) : Nat := (ss.map (·.size)).sum
theorem sumS_take_succ (ss : List ByteArray) {j : Nat} (h : j < ss.length) : sumS (ss.take (j + 1)) = sumS (ss.take j) + (ss.getD j ⟨#[]⟩).size := by
  unfold sumS
  rw [List.take_succ_eq_append_getElem h, List.map_append, List.sum_append]
  simp [List.getD, List.getElem?_eq_getElem h]
def strsWt (ss : List ByteArray) : Nat := 16 * ss.length + sumS ss
def recWt (r : Rec) : Nat := r.word.size + strsWt r.keys + strsWt r.texts + r.classes.length
def sumR (rs : List Rec) : Nat := (rs.map recWt).sum
def wt (rs : List Rec) : Nat := 96 * rs.length + sumR rs
theorem sumR_snoc (rs : List Rec) (r : Rec) : sumR (rs ++ [r]) = sumR rs + recWt r := by simp [sumR]

set_option maxHeartbeats 800000 in
theorem strsWithin_any (t bud : Int) (ss : List ByteArray) (a : Option Addr) (c : Nat) (w : World) (h : RowAt w 0 (.slice a ss.length c) (strCells ss)) (ht : 0 ≤ t) (htb : t ≤ bud) (hb : bud ≤ 1048576) (hs : ∀ s ∈ ss, s.size ≤ maxLen) :
    Calls Try.prog 20 #[.int .i64 t, .slice a ss.length c, .int .i64 bud] w fun e w' => ((∃ t', e = .returned (.tuple #[.int .i64 t', .bool false])) ∨ (∃ t', e = .returned (.tuple #[.int .i64 t', .bool true]) ∧ t' = t + strsWt ss ∧ t' ≤ bud)) ∧ w' = w := by
  have hl : ss.length ≤ maxLen := by have := h.1; rwa [length_strCells] at this
  unfold maxLen at hl
  by_cases hq : (bud - t) / 16 < (ss.length : Int)
  · go_enter Try.func20, Try.ntmps20
    go_wp2
    go_ret2
    exact ⟨.inl ⟨_, rfl⟩, rfl⟩
  · have hq' : 16 * (ss.length : Int) ≤ bud - t := by omega
    go_enter Try.func20, Try.ntmps20
    go_wp2
    go_loop [0, 8, 9] (fun tt ok i => ∃ (k : Nat) (x : Int), k ≤ ss.length ∧ i = .int .i64 k ∧ tt = .int .i64 x ∧ ok = .bool true ∧ Hid (x = t + 16 * ss.length + sumS (ss.take k)) ∧ 0 ≤ x ∧ x ≤ bud) (fun _ _ i => ss.length - (intOf i).toNat)
    case atStart => exact ⟨0, _, Nat.zero_le _, rfl, rfl, rfl, by show _ = _; simp [sumS], by omega, by omega⟩
    case round =>
      obtain ⟨k, x, hk, rfl, rfl, rfl, HX, hx0, hxb⟩ := hrel
      by_cases hlt : k < ss.length
      · obtain ⟨b, o, rfl, hB, hc⟩ := h.pos (i := k) (by rw [length_strCells]; exact hlt)
        have hcell := hc k _ (strCells_at hlt)
        have hsz : (ss.getD k ⟨#[]⟩).size ≤ 9223372036854775807 := by
          have : ss.getD k ⟨#[]⟩ ∈ ss := by simp [List.getD, List.getElem?_eq_getElem hlt]
          have := hs _ this
          unfold maxLen at this; omega
        have HS := hid (sumS_take_succ ss hlt)
        obtain ⟨s, hse⟩ : ∃ s, s = ss.getD k ⟨#[]⟩ := ⟨_, rfl⟩
        rw [← hse] at hcell hsz HS
        clear hse hc h hs
        go_wp2_with (go_at_call 19; refine (within_any x s.size bud _ hx0 hxb hb (by omega) (by omega)).mono ?_; rintro e w' ⟨he, rfl⟩; rcases he with rfl | ⟨rfl, hle⟩)
        · go_ret2
          exact ⟨.inl ⟨_, rfl⟩, rfl⟩
        · go_round
          case rel => exact ⟨k + 1, x + s.size, by omega, by go_num, rfl, rfl, by show _ = _; rw [HX.out, HS.out]; omega, by omega, hle⟩
          case measure => simp [intOf]; omega
      · go_wp2
        go_ret2
        obtain rfl : k = ss.length := by omega
        refine ⟨.inr ⟨x, rfl, ?_, hxb⟩, rfl⟩
        rw [HX.out, List.take_length]; unfold strsWt; omega

theorem sumR_take_succ (rs : List Rec) {k : Nat} (h : k < rs.length) : sumR (rs.take (k + 1)) = sumR (rs.take k) + recWt rs[k] := by
  rw [List.take_succ_eq_append_getElem h, sumR_snoc]

set_option maxHeartbeats 1600000 in
theorem recsWithin_any (bud : Int) (rs : List Rec) (a : Option Addr) (c : Nat) (w : World) (h : RecsAt w 0 (.slice a rs.length c) rs) (hwf : ∀ r ∈ rs, RecWf r) (hl : rs.length ≤ maxLen) (hb0 : 0 ≤ bud) (hb : bud ≤ 1048576) :
    Calls Try.prog 8 #[.slice a rs.length c, .int .i64 bud] w fun e w' => (e = .returned (.bool false) ∨ (e = .returned (.bool true) ∧ (wt rs : Int) ≤ bud)) ∧ w' = w := by
  unfold maxLen at hl
  by_cases hq : bud / 96 < (rs.length : Int)
  · go_enter Try.func8, Try.ntmps8
    go_wp2
    go_ret
    exact ⟨.inl rfl, rfl⟩
  · have hq' : 96 * (rs.length : Int) ≤ bud := by omega
    go_enter Try.func8, Try.ntmps8
    go_wp2
    go_loop [5, 6, 7] (fun tt ok i => ∃ (k : Nat) (x : Int), k ≤ rs.length ∧ i = .int .i64 k ∧ tt = .int .i64 x ∧ ok = .bool true ∧ Hid (x = 96 * rs.length + sumR (rs.take k)) ∧ 0 ≤ x ∧ x ≤ bud) (fun _ _ i => rs.length - (intOf i).toNat)
    case atStart => exact ⟨0, _, Nat.zero_le _, rfl, rfl, rfl, by show _ = _; simp [sumR], by omega, by omega⟩
    case round =>
      obtain ⟨k, x, hk, rfl, rfl, rfl, HX, hx0, hxb⟩ := hrel
      by_cases hlt : k < rs.length
      · obtain ⟨b, o, rfl, hx⟩ := h.pos hlt
        have hr := hx k rs[k] (List.getElem?_eq_getElem hlt)
        have hmem : rs[k] ∈ rs := List.getElem_mem hlt
        have hrwf := hwf _ hmem
        have HS := hid (sumR_take_succ rs hlt)
        obtain ⟨r, hrr⟩ : ∃ r, r = rs[k] := ⟨_, rfl⟩
        rw [← hrr] at hr hrwf HS
        clear hx hmem hwf hrr h
        obtain ⟨ka, kc, ta, tc, ca, cc, _, h0, h1, h2, h3, h4, hrk, hrt, hrc⟩ := hr
        obtain ⟨hw1, hw2, hw3, hw4⟩ := hrwf
        have hcl := hrc.1
        rw [length_intCells] at hcl
        unfold maxLen at hw2 hcl
        clear hq
        go_wp2_with fail
        refine (within_any x r.word.size bud _ hx0 hxb hb (by omega) (by omega)).mono ?_
        rintro e w' ⟨he, rfl⟩
        rcases he with rfl | ⟨rfl, hle1⟩
        · go_wp2
          go_ret
          exact ⟨.inl rfl, rfl⟩
        go_wp2_with fail
        refine (strsWithin_any (x + r.word.size) bud r.keys ka kc _ hrk (by omega) hle1 hb hw3).mono ?_
        rintro e w' ⟨he, rfl⟩
        rcases he with ⟨t', rfl⟩ | ⟨x2, rfl, hx2, hle2⟩
        · go_wp2
          go_ret
          exact ⟨.inl rfl, rfl⟩
        have HX2 := hid hx2
        have hx20 : 0 ≤ x2 := by omega
        clear hx2
        go_wp2_with fail
        refine (strsWithin_any x2 bud r.texts ta tc _ hrt hx20 hle2 hb hw4).mono ?_
        rintro e w' ⟨he, rfl⟩
        rcases he with ⟨t', rfl⟩ | ⟨x3, rfl, hx3, hle3⟩
        · go_wp2
          go_ret
          exact ⟨.inl rfl, rfl⟩
        have HX3 := hid hx3
        have hx30 : 0 ≤ x3 := by omega
        clear hx3
        go_wp2_with fail
        refine (within_any x3 r.classes.length bud _ hx30 hle3 hb (by omega) (by omega)).mono ?_
        rintro e w' ⟨he, rfl⟩
        rcases he with rfl | ⟨rfl, hle4⟩
        · go_wp2
          go_ret
          exact ⟨.inl rfl, rfl⟩
        go_wp2
        go_round
        case rel => exact ⟨k + 1, x3 + r.classes.length, by omega, by go_num, rfl, rfl, by show _ = _; rw [HS.out, HX3.out, HX2.out, HX.out]; unfold recWt; omega, by omega, hle4⟩
        case measure => simp [intOf]; omega
      · go_wp2
        go_ret
        obtain rfl : k = rs.length := by omega
        refine ⟨.inr ⟨rfl, ?_⟩, rfl⟩
        have := HX.out
        rw [List.take_length] at this
        unfold wt; omega

/-- two rows of the same bytes -/
theorem getD_at {l : List Value} {k : Nat} (h : k < l.length) : l[k]? = some (l.getD k undef) := by simp [List.getD, List.getElem?_eq_getElem h]

set_option maxHeartbeats 800000 in
theorem sameBytes_any (aa ab : Option Addr) (ca cb : Nat) (zs : List Int) (w : World) (h1 : RowAt w 0 (.slice aa zs.length ca) (intCells zs)) (h2 : RowAt w 0 (.slice ab zs.length cb) (intCells zs)) :
    Calls Try.prog 12 #[.slice aa zs.length ca, .slice ab zs.length cb] w fun e w' => e = .returned (.bool true) ∧ Below w.heap.size w w' := by
  have hl : zs.length ≤ maxLen := by have := h1.1; rwa [length_intCells] at this
  unfold maxLen at hl
  go_enter Try.func12, Try.ntmps12
  go_wp2
  go_loopw [5] (fun i wr => ∃ k : Nat, k ≤ zs.length ∧ i = .int .i64 k ∧ Below w.heap.size w wr) (fun i _ => zs.length - (intOf i).toNat)
  case atStart => exact ⟨0, Nat.zero_le _, rfl, Below.refl _ _⟩
  case round =>
    obtain ⟨k, hk, rfl, hbel⟩ := hrel
    by_cases hlt : k < zs.length
    · obtain ⟨b, o, rfl, _, hc⟩ := (h1.up (Up.ofBelow hbel)).pos (i := k) (by rw [length_intCells]; exact hlt)
      obtain ⟨b', o', rfl, _, hc'⟩ := (h2.up (Up.ofBelow hbel)).pos (i := k) (by rw [length_intCells]; exact hlt)
      have e1 := hc k _ (intCells_at hlt)
      have e2 := hc' k _ (intCells_at hlt)
      obtain ⟨z, hz⟩ : ∃ z, z = zs.getD k 0 := ⟨_, rfl⟩
      rw [← hz] at e1 e2
      have i1 : (0 : Int) ≤ (k : Int) := by omega
      have i2 : (k : Int) < (zs.length : Int) := by omega
      clear hz hc hc' h1 h2
      go_wp2
      go_quiet (fail)
      go_wp2
      go_roundw
      case rel => exact ⟨k + 1, by omega, by go_num, below_drewN hbel _⟩
      case measure => simp [intOf]; omega
    · go_wp2
      go_ret
      exact ⟨rfl, hbel⟩
end Go.Proofs.Qxb6601073a
