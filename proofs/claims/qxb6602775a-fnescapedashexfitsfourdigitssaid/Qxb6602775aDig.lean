import Derived.Test.Qxb6602775aHex
import Derived.Test.Qxb6602775aEsc
namespace Go.Proofs.Qxb6602775a
open Go.RowKit
set_option linter.unusedVariables false

def dch (up : Bool) (d : Int) : Int := if d < 10 then 48 + d else if up then 55 + d else 87 + d
def sh (r : Int) : Nat → Int
  | 0 => r
  | k + 1 => sh r k / 16

theorem sh_bd {r : Int} (h0 : 0 ≤ r) (h1 : r < 65536) : ∀ k, 0 ≤ sh r k ∧ sh r k < 65536
  | 0 => ⟨h0, h1⟩
  | k + 1 => by have := sh_bd h0 h1 k; unfold sh; omega

theorem i32_and15 (x : Int) (hx : 0 ≤ x) (hx1 : x < 65536) : bits .and .i32 x 15 = x % 16 := by
  obtain ⟨X, rfl⟩ := Int.eq_ofNat_of_zero_le hx
  show IntKind.i32.wrap ((BitVec.ofInt 32 (X : Int) &&& BitVec.ofInt 32 ((15 : Nat) : Int)).toNat : Int) = _
  rw [BitVec.toNat_and, ofInt32 X (by omega), ofInt32 15 (by omega)]
  have e2 : X &&& 15 = X % 16 := Nat.and_two_pow_sub_one_eq_mod X 4
  rw [e2, IntKind.wrap_i32]
  omega

theorem idx_low (d : Int) (h0 : 0 ≤ d) (h1 : d < 16) (w : World) : (Instr.index 9 (.string ⟨#[48, 49, 50, 51, 52, 53, 54, 55, 56, 57, 97, 98, 99, 100, 101, 102]⟩) (.int .i32 d)).run Try.prog w = .ok (.int .u8 (dch false d)) w := by
  have h : d = 0 ∨ d = 1 ∨ d = 2 ∨ d = 3 ∨ d = 4 ∨ d = 5 ∨ d = 6 ∨ d = 7 ∨ d = 8 ∨ d = 9 ∨ d = 10 ∨ d = 11 ∨ d = 12 ∨ d = 13 ∨ d = 14 ∨ d = 15 := by omega
  rcases h with rfl | rfl | rfl | rfl | rfl | rfl | rfl | rfl | rfl | rfl | rfl | rfl | rfl | rfl | rfl | rfl <;> (show _ = _; kernel_rfl)
theorem idx_up (d : Int) (h0 : 0 ≤ d) (h1 : d < 16) (w : World) : (Instr.index 9 (.string ⟨#[48, 49, 50, 51, 52, 53, 54, 55, 56, 57, 65, 66, 67, 68, 69, 70]⟩) (.int .i32 d)).run Try.prog w = .ok (.int .u8 (dch true d)) w := by
  have h : d = 0 ∨ d = 1 ∨ d = 2 ∨ d = 3 ∨ d = 4 ∨ d = 5 ∨ d = 6 ∨ d = 7 ∨ d = 8 ∨ d = 9 ∨ d = 10 ∨ d = 11 ∨ d = 12 ∨ d = 13 ∨ d = 14 ∨ d = 15 := by omega
  rcases h with rfl | rfl | rfl | rfl | rfl | rfl | rfl | rfl | rfl | rfl | rfl | rfl | rfl | rfl | rfl | rfl <;> (show _ = _; kernel_rfl)

theorem dch_hex (up : Bool) {d : Int} (h0 : 0 ≤ d) (h1 : d < 16) : isHex (dch up d) ∧ hv (dch up d) = d ∧ isUp (dch up d) = (up && decide (10 ≤ d)) := by
  have h : d = 0 ∨ d = 1 ∨ d = 2 ∨ d = 3 ∨ d = 4 ∨ d = 5 ∨ d = 6 ∨ d = 7 ∨ d = 8 ∨ d = 9 ∨ d = 10 ∨ d = 11 ∨ d = 12 ∨ d = 13 ∨ d = 14 ∨ d = 15 := by omega
  rcases h with rfl | rfl | rfl | rfl | rfl | rfl | rfl | rfl | rfl | rfl | rfl | rfl | rfl | rfl | rfl | rfl <;> cases up <;> simp [dch, isHex, hv, isUp]

/-- the buffer: its last k of four digits are written -/
def DigB (w : World) (g cap : Nat) (up : Bool) (r : Int) (k : Nat) : Prop :=
  ∃ cur, w.heap[g]? = some (.cells cur 5 (0, 0)) ∧ cur.size = cap ∧ ∀ j, j < k → cur[3 - j]? = some (.int .u8 (dch up (sh r j % 16)))

theorem block_setCell {w : World} {b o : Nat} {c : Array Value} {e : TypeId} {f : Nat × Nat} (h : w.heap[b]? = some (.cells c e f)) (u : Value) :
    (w.setCell ⟨b, o, none⟩ u).heap[b]? = some (.cells (c.setIfInBounds o u) e f) := by
  have hlt := lt_of_block h
  have h' : w.heap[b] = .cells c e f := by simpa [Array.getElem?_eq_getElem hlt] using h
  show (w.heap.modify b _)[b]? = _
  rw [Array.getElem?_eq_getElem (by simpa using hlt), Array.getElem_modify_self, h']
  rfl

theorem DigB.step {w : World} {g cap k : Nat} {up : Bool} {r : Int} (h : DigB w g cap up r k) (hk : k < 4) (hc : 4 ≤ cap) : DigB (w.setCell ⟨g, 3 - k, none⟩ (.int .u8 (dch up (sh r k % 16)))) g cap up r (k + 1) := by
  obtain ⟨cur, h1, h2, h3⟩ := h
  refine ⟨_, block_setCell h1 _, by simp [h2], fun j hj => ?_⟩
  rw [Array.getElem?_setIfInBounds]
  by_cases hjk : j = k
  · subst hjk
    rw [if_pos rfl, if_pos (by omega)]
  · rw [if_neg (by omega)]
    exact h3 j (by omega)
theorem DigB.cell {w : World} {g cap k : Nat} {up : Bool} {r : Int} (h : DigB w g cap up r k) {o : Nat} (ho : o < cap) : ∃ u, w.cell? ⟨g, o, none⟩ = some u ∧ w.frozen? ⟨g, o, none⟩ = false := by
  obtain ⟨cur, h1, h2, _⟩ := h
  exact ⟨cur[o], by simp [World.cell?, h1, h2, ho], by simp [World.frozen?, h1]⟩
theorem DigB.done {w : World} {g cap : Nat} {up : Bool} {r : Int} (h : DigB w g cap up r 4) : ∀ k, k < 4 → w.cell? ⟨g, 0 + k, none⟩ = some (.int .u8 (dch up (sh r (3 - k) % 16))) := by
  obtain ⟨cur, h1, h2, h3⟩ := h
  intro k hk
  have := h3 (3 - k) (by omega)
  rw [show 3 - (3 - k) = k by omega] at this
  simp [World.cell?, h1, this]

/-- the digits as the parser reads them -/
def csOf (up : Bool) (r : Int) (k : Nat) : Int := dch up (sh r (3 - k) % 16)
def anyL (r : Int) : Nat → Bool
  | 0 => false
  | k + 1 => anyL r k || decide (10 ≤ sh r k % 16)
theorem csOf_acc (up : Bool) (r : Int) (h0 : 0 ≤ r) (h1 : r < 65536) : accH (csOf up r) 4 = r := by
  have d : ∀ j, hv (dch up (sh r j % 16)) = sh r j % 16 := fun j => (dch_hex up (by omega) (by omega)).2.1
  simp only [accH, csOf, d]
  simp only [Nat.sub_self, Nat.reduceSub, Nat.sub_zero, sh]
  omega
theorem csOf_low (up : Bool) (r : Int) : lowH (csOf up r) 4 = !(up && anyL r 4) := by
  have d : ∀ j, isUp (dch up (sh r j % 16)) = (up && decide (10 ≤ sh r j % 16)) := fun j => (dch_hex up (by omega) (by omega)).2.2
  simp only [lowH, csOf, d, anyL]
  simp only [Nat.sub_zero, Nat.reduceSub]
  cases up <;> simp [Bool.and_comm, Bool.and_assoc]

theorem parse_dig {w : World} {g cap n : Nat} {up : Bool} {r : Int} (h : ∀ k, k < 4 → w.cell? ⟨g, 0 + k, none⟩ = some (.int .u8 (dch up (sh r (3 - k) % 16)))) (h0 : 0 ≤ r) (h1 : r < 65536) (hn : 4 ≤ n) (hnc : n ≤ cap) (hm : n ≤ 9223372036854775807) :
    Calls Try.prog 12 #[.slice (some ⟨g, 0, none⟩) n cap] w fun e w' => e = .returned (.tuple #[.int .i32 r, .bool (!(up && anyL r 4)), .bool true]) ∧ w' = w := by
  have := parse_any g 0 n cap (csOf up r) w hn hnc hm h (fun k hk => (dch_hex up (by omega) (by omega)).1)
  rw [csOf_acc up r h0 h1, csOf_low] at this
  exact this

set_option maxHeartbeats 400000 in
theorem zzParse_any {w : World} {g cap n : Nat} {up : Bool} {r : Int} (h : ∀ k, k < 4 → w.cell? ⟨g, 0 + k, none⟩ = some (.int .u8 (dch up (sh r (3 - k) % 16)))) (h0 : 0 ≤ r) (h1 : r < 65536) (hn : 4 ≤ n) (hnc : n ≤ cap) (hm : n ≤ 9223372036854775807) :
    Calls Try.prog 9 #[.slice (some ⟨g, 0, none⟩) n cap] w fun e w' => e = .returned (.tuple #[.int .i32 r, .bool (!(up && anyL r 4)), .bool true]) ∧ w' = w := by
  have HC := hid (parse_dig h h0 h1 hn hnc hm)
  clear h
  obtain ⟨B, hB⟩ : ∃ B, B = !(up && anyL r 4) := ⟨_, rfl⟩
  rw [← hB] at HC ⊢
  clear hB
  go_enter Try.func9, Try.ntmps9
  go_wp2_with (go_at_call 12; refine HC.out.mono ?_; rintro e w' ⟨rfl, rfl⟩)
  go_ret3
  exact ⟨rfl, rfl⟩
end Go.Proofs.Qxb6602775a
