import Derived.Test.Qxb6601073aData
import Derived.LoopTactic
namespace Go.Proofs.Qxb6601073a
open Go.RowKit
set_option linter.unusedVariables false

set_option maxRecDepth 100000 in
set_option maxHeartbeats 3200000 in
theorem zzBytes7_any (rs : List Rec) (a : Option Addr) (c : Nat) (w : World) (h : RecsAt w 0 (.slice a rs.length c) rs) (hwf : ∀ r ∈ rs, RecWf r) (hl : rs.length ≤ maxLen) :
    Calls Try.prog 7 #[.slice a rs.length c] w fun e w' => (e = .returned (.bool false) ∨ e = .returned (.bool true)) ∧ w' = w := by
  unfold maxLen at hl
  go_enter Try.func7, Try.ntmps7
  go_wp2
  all_goals first
    | (go_ret; exact ⟨.inl rfl, rfl⟩)
    | skip
  go_loop [3, 4] (fun zz i => ∃ (k : Nat) (x : Int), k ≤ rs.length ∧ i = .int .i64 k ∧ zz = .int .i64 x ∧ 0 ≤ x ∧ x ≤ 1048576) (fun _ i => rs.length - (intOf i).toNat)
  case atStart => exact ⟨0, _, Nat.zero_le _, rfl, rfl, by omega, by omega⟩
  case round =>
    obtain ⟨k, x, hk, rfl, rfl, hx0, hxb⟩ := hrel
    by_cases hlt : k < rs.length
    · obtain ⟨b, o, rfl, hx⟩ := h.pos hlt
      have hr := hx k rs[k] (List.getElem?_eq_getElem hlt)
      have hmem : rs[k] ∈ rs := List.getElem_mem hlt
      have hrwf := hwf _ hmem
      obtain ⟨r, hrr⟩ : ∃ r, r = rs[k] := ⟨_, rfl⟩
      rw [← hrr] at hr hrwf
      clear hx hmem hwf hrr h
      obtain ⟨ka, kc, ta, tc, ca, cc, _, h0, h1, h2, h3, h4, hrk, hrt, hrc⟩ := hr
      obtain ⟨hw1, hw2, hw3, hw4⟩ := hrwf
      have hl1 := hrk.1
      have hl2 := hrt.1
      have hl3 := hrc.1
      rw [length_strCells] at hl1 hl2
      rw [length_intCells] at hl3
      unfold maxLen at hw2 hl1 hl2 hl3
      clear hw1 hrc h1
      go_wp2
      all_goals first
        | (go_ret; exact ⟨.inl rfl, rfl⟩)
        | skip
      go_loop [3, 5] (fun zz i => ∃ (j : Nat) (y : Int), j ≤ r.keys.length ∧ i = .int .i64 j ∧ zz = .int .i64 y ∧ 0 ≤ y ∧ y ≤ 1048576) (fun _ i => r.keys.length - (intOf i).toNat)
      case atStart => exact ⟨0, _, Nat.zero_le _, rfl, rfl, by omega, by omega⟩
      case round =>
        obtain ⟨j, y, hj, rfl, rfl, hy0, hyb⟩ := hrel
        by_cases hjl : j < r.keys.length
        · obtain ⟨b1, o1, rfl, _, hc⟩ := hrk.pos (i := j) (by rw [length_strCells]; exact hjl)
          have hcell := hc j _ (strCells_at hjl)
          have hsz : (r.keys.getD j ⟨#[]⟩).size ≤ 9223372036854775807 := by
            have : r.keys.getD j ⟨#[]⟩ ∈ r.keys := by simp [List.getD, List.getElem?_eq_getElem hjl]
            have := hw3 _ this
            unfold maxLen at this; omega
          obtain ⟨s, hse⟩ : ∃ s, s = r.keys.getD j ⟨#[]⟩ := ⟨_, rfl⟩
          rw [← hse] at hcell hsz
          clear hse hc hrk hw3
          go_wp2
          all_goals first
            | (go_ret; exact ⟨.inl rfl, rfl⟩)
            | skip
          go_round
          case rel => exact ⟨j + 1, y + s.size, by omega, by go_num, rfl, by omega, by omega⟩
          case measure => simp [intOf]; omega
        · go_wp2
          all_goals first
            | (go_ret; exact ⟨.inl rfl, rfl⟩)
            | skip
          go_loop [3, 6] (fun zz i => ∃ (m : Nat) (v : Int), m ≤ r.texts.length ∧ i = .int .i64 m ∧ zz = .int .i64 v ∧ 0 ≤ v ∧ v ≤ 1048576) (fun _ i => r.texts.length - (intOf i).toNat)
          case atStart => exact ⟨0, _, Nat.zero_le _, rfl, rfl, by omega, by omega⟩
          case round =>
            obtain ⟨m, v, hm, rfl, rfl, hv0, hvb⟩ := hrel
            by_cases hml : m < r.texts.length
            · obtain ⟨b1, o1, rfl, _, hc⟩ := hrt.pos (i := m) (by rw [length_strCells]; exact hml)
              have hcell := hc m _ (strCells_at hml)
              have hsz : (r.texts.getD m ⟨#[]⟩).size ≤ 9223372036854775807 := by
                have : r.texts.getD m ⟨#[]⟩ ∈ r.texts := by simp [List.getD, List.getElem?_eq_getElem hml]
                have := hw4 _ this
                unfold maxLen at this; omega
              obtain ⟨s, hse⟩ : ∃ s, s = r.texts.getD m ⟨#[]⟩ := ⟨_, rfl⟩
              rw [← hse] at hcell hsz
              clear hse hc hrt hw4
              go_wp2
              all_goals first
                | (go_ret; exact ⟨.inl rfl, rfl⟩)
                | skip
              go_round
              case rel => exact ⟨m + 1, v + s.size, by omega, by go_num, rfl, by omega, by omega⟩
              case measure => simp [intOf]; omega
            · go_wp2
              all_goals first
                | (go_ret; exact ⟨.inl rfl, rfl⟩)
                | skip
              go_round
              case rel => exact ⟨k + 1, v + r.classes.length, by omega, by go_num, rfl, by omega, by omega⟩
              case measure => simp [intOf]; omega
    · go_wp2
      go_ret
      exact ⟨.inr rfl, rfl⟩
end Go.Proofs.Qxb6601073a
