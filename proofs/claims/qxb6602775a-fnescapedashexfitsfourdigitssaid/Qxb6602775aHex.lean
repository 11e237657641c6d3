import Derived.Test.Qxb6602775aProg
import Derived.WalkKit
import Derived.WalkSpells
import Derived.WalkLawsBesides
import Derived.LoopTactic
namespace Go.Proofs.Qxb6602775a
open Go.RowKit
set_option linter.unusedVariables false

/-- a hexadecimal digit's value -/
def hv (c : Int) : Int := if c ≤ 57 then c - 48 else if 97 ≤ c then c - 87 else c - 55
def isHex (c : Int) : Prop := (48 ≤ c ∧ c ≤ 57) ∨ (97 ≤ c ∧ c ≤ 102) ∨ (65 ≤ c ∧ c ≤ 70)
def isUp (c : Int) : Bool := decide (65 ≤ c ∧ c ≤ 70)
def accH (cs : Nat → Int) : Nat → Int
  | 0 => 0
  | k + 1 => accH cs k * 16 + hv (cs k)
def lowH (cs : Nat → Int) : Nat → Bool
  | 0 => true
  | k + 1 => lowH cs k && !isUp (cs k)

theorem hv_bd {c : Int} (h : isHex c) : 0 ≤ hv c ∧ hv c ≤ 15 := by
  unfold isHex at h; unfold hv; split
  · omega
  · split <;> omega

theorem hid {p : Prop} (h : p) : Hid p := h
theorem ofInt32 (a : Nat) (h : a < 4294967296) : (BitVec.ofInt 32 (a : Int)).toNat = a := by
  rw [BitVec.toNat_ofInt]; omega
theorem i32_or16 (x d : Int) (hx : 0 ≤ x) (hx1 : x < 65536) (hd : 0 ≤ d) (hd1 : d ≤ 15) : bits .or .i32 (x * 16) d = x * 16 + d := by
  obtain ⟨X, rfl⟩ := Int.eq_ofNat_of_zero_le hx
  obtain ⟨D, rfl⟩ := Int.eq_ofNat_of_zero_le hd
  have e : ((X : Int) * 16) = ((X * 16 : Nat) : Int) := by omega
  show IntKind.i32.wrap ((BitVec.ofInt 32 ((X : Int) * 16) ||| BitVec.ofInt 32 (D : Int)).toNat : Int) = _
  rw [BitVec.toNat_or, e, ofInt32 (X * 16) (by omega), ofInt32 D (by omega)]
  have e2 : X * 16 ||| D = X * 16 + D := by
    have := Nat.shiftLeft_add_eq_or_of_lt (a := X) (b := D) (i := 4) (by omega)
    rw [Nat.shiftLeft_eq] at this
    exact this.symm
  rw [e2, IntKind.wrap_i32]
  omega

theorem step_bd {x d : Int} {k : Nat} (hk : k < 4) (h : x < 16 ^ k) (hd : d ≤ 15) : x * 16 + d < 16 ^ (k + 1) := by
  rw [Int.pow_succ]; omega

set_option maxHeartbeats 1600000 in
theorem parse_any (b o n c : Nat) (cs : Nat → Int) (w : World) (hn : 4 ≤ n) (hnc : n ≤ c) (hm : n ≤ 9223372036854775807) (hc : ∀ k, k < 4 → w.cell? ⟨b, o + k, none⟩ = some (.int .u8 (cs k))) (hx : ∀ k, k < 4 → isHex (cs k)) :
    Calls Try.prog 12 #[.slice (some ⟨b, o, none⟩) n c] w fun e w' => e = .returned (.tuple #[.int .i32 (accH cs 4), .bool (lowH cs 4), .bool true]) ∧ w' = w := by
  have hn' : ¬ (n : Int) < 4 := by omega
  have h4c : 4 ≤ c := by omega
  go_enter Try.func12, Try.ntmps12
  go_wp2
  go_loop [13, 2, 3] (fun i r lo => ∃ (k : Nat) (x : Int) (l : Bool), k ≤ 4 ∧ i = .int .i64 k ∧ r = .int .i32 x ∧ lo = .bool l ∧ Hid (x = accH cs k) ∧ Hid (l = lowH cs k) ∧ 0 ≤ x ∧ Hid (x < 16 ^ k)) (fun i _ _ => 4 - (intOf i).toNat)
  case atStart => exact ⟨0, 0, true, by omega, rfl, rfl, rfl, rfl, rfl, by omega, by show _ < _; decide⟩
  case round =>
    obtain ⟨k, x, l, hk, rfl, rfl, rfl, HX, HL, hx0, HB⟩ := hrel
    by_cases hlt : k < 4
    · have hcell := hc k hlt
      have hh := hx k hlt
      have hx1 : x < 65536 := by
        have := HB.out
        have h2 : k = 0 ∨ k = 1 ∨ k = 2 ∨ k = 3 := by omega
        rcases h2 with rfl | rfl | rfl | rfl <;> simp at this <;> omega
      obtain ⟨ch, hch⟩ : ∃ ch, ch = cs k := ⟨_, rfl⟩
      rw [← hch] at hcell hh
      clear hc hx
      unfold isHex at hh
      rcases hh with ⟨h1, h2⟩ | ⟨h1, h2⟩ | ⟨h1, h2⟩
      · have hvE : hv ch = ch - 48 := by unfold hv; rw [if_pos h2]
        have hup : isUp ch = false := by unfold isUp; simp; omega
        have HO := hid (i32_or16 x (ch - 48) hx0 hx1 (by omega) (by omega))
        have HA : Hid (accH cs (k + 1) = x * 16 + (ch - 48)) := by show _ = _; rw [← hvE, hch, HX.out]; rfl
        have HLO : Hid (lowH cs (k + 1) = l) := by show (lowH cs k && !isUp (cs k)) = _; rw [← hch, hup, HL.out]; simp
        clear hvE hup hch
        go_wp2
        go_round
        case rel => exact ⟨k + 1, _, l, by omega, by go_num, by rw [HO.out], rfl, HA.out.symm, HLO.out.symm, by omega, step_bd hlt HB.out (by omega)⟩
        case measure => simp [intOf]; omega
      · have hvE : hv ch = ch - 97 + 10 := by unfold hv; rw [if_neg (by omega), if_pos h1]; omega
        have hup : isUp ch = false := by unfold isUp; simp; omega
        have HO := hid (i32_or16 x (ch - 97 + 10) hx0 hx1 (by omega) (by omega))
        have HA : Hid (accH cs (k + 1) = x * 16 + (ch - 97 + 10)) := by show _ = _; rw [← hvE, hch, HX.out]; rfl
        have HLO : Hid (lowH cs (k + 1) = l) := by show (lowH cs k && !isUp (cs k)) = _; rw [← hch, hup, HL.out]; simp
        clear hvE hup hch
        go_wp2
        go_round
        case rel => exact ⟨k + 1, _, l, by omega, by go_num, by rw [HO.out], rfl, HA.out.symm, HLO.out.symm, by omega, step_bd hlt HB.out (by omega)⟩
        case measure => simp [intOf]; omega
      · have hvE : hv ch = ch - 65 + 10 := by unfold hv; rw [if_neg (by omega), if_neg (by omega)]; omega
        have hup : isUp ch = true := by unfold isUp; simp; omega
        have HO := hid (i32_or16 x (ch - 65 + 10) hx0 hx1 (by omega) (by omega))
        have HA : Hid (accH cs (k + 1) = x * 16 + (ch - 65 + 10)) := by show _ = _; rw [← hvE, hch, HX.out]; rfl
        have HLO : Hid (lowH cs (k + 1) = false) := by show (lowH cs k && !isUp (cs k)) = _; rw [← hch, hup]; simp
        clear hvE hup hch
        go_wp2
        go_round
        case rel => exact ⟨k + 1, _, false, by omega, by go_num, by rw [HO.out], rfl, HA.out.symm, HLO.out.symm, by omega, step_bd hlt HB.out (by omega)⟩
        case measure => simp [intOf]; omega
    · go_wp2
      go_ret3
      obtain rfl : k = 4 := by omega
      exact ⟨by rw [← HX.out, ← HL.out]; rfl, rfl⟩
end Go.Proofs.Qxb6602775a
