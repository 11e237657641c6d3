import Derived.Test.Qxb6601073aSizes
namespace Go.Proofs.Qxb6601073a
open Go.RowKit
set_option linter.unusedVariables false

theorem take_snoc (s : ByteArray) (k : Nat) (h : k < s.size) : s.data.toList.take (k + 1) = s.data.toList.take k ++ [s[k]] := by
  rw [List.take_succ_eq_append_getElem (by simpa using h)]; rfl

set_option maxHeartbeats 800000 in
theorem appendStr_any {w : World} {Bo n : Nat} {v0 : Value} {xs : List Value} (wj : World) (a : Option Addr) (N c : Nat) (l : List UInt8) (s : ByteArray) (h : OutAt w Bo n v0 xs wj a N c l) (hb : N + s.size ≤ 1099511627776) :
    Calls Try.prog 30 #[.slice a N c, .string s] wj fun e w' => ∃ a' c', e = .returned (.slice a' (N + s.size) c') ∧ OutAt w Bo n v0 xs w' a' (N + s.size) c' (l ++ s.data.toList) ∧ Fr5 wj w' := by
  obtain ⟨i5, hi5, hz0, hz1, hz2⟩ := info_parts Try.info5
  go_enter Try.func30, Try.ntmps30
  go_wp2
  go_loopw [0, 5] (fun out i wr => ∃ (k : Nat) (a1 : Option Addr) (N1 c1 : Nat), k ≤ s.size ∧ i = .int .i64 k ∧ out = .slice a1 N1 c1 ∧ Hid (N1 = N + k) ∧ OutAt w Bo n v0 xs wr a1 N1 c1 (l ++ s.data.toList.take k) ∧ Fr5 wj wr)
    (fun _ i _ => s.size - (intOf i).toNat)
  case atStart => exact ⟨0, a, N, c, Nat.zero_le _, rfl, rfl, rfl, by simpa using h, Fr5.refl _⟩
  case round =>
    obtain ⟨k, a1, N1, c1, hk, rfl, rfl, HN, ho, hf⟩ := hrel
    clear h
    by_cases hlt : k < s.size
    · have hb1 : N1 + 1 ≤ 1099511627776 := by rw [HN.out]; omega
      go_wp2_with (at_builtin; refine wpList_out_byte s[k] (ho.alloc _) rfl (.tmp 12) (.tmp 16) 26 rfl i5 Try.underlying26 hi5 hz0 hz1 hz2 rfl rfl (heap_alloc_new _ _) hb1 ?_; intro a2 c2 w2 ho2 hf2)
      go_roundw
      case rel =>
        refine ⟨k + 1, a2, _, c2, by omega, by go_num, rfl, by show _ = _; rw [HN.out]; omega, ?_, hf.trans ((Fr5.alloc _ _).trans hf2)⟩
        rw [take_snoc s k hlt, ← List.append_assoc]
        exact ho2
      case measure => simp [intOf]; omega
    · go_wp2
      go_ret
      obtain rfl : k = s.size := by omega
      rw [List.take_of_length_le (by rw [size_list]; exact Nat.le_refl _)] at ho
      have e := HN.out
      subst e
      exact ⟨a1, c1, rfl, ho, hf⟩
end Go.Proofs.Qxb6601073a
