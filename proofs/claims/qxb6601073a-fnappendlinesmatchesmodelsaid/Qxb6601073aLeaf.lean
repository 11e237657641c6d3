import Derived.Test.Qxb6601073aProg
import Derived.WalkKit
import Derived.WalkSpells
import Derived.WalkLawsBesides
namespace Go.Proofs.Qxb6601073a
open Go.RowKit
set_option linter.unusedVariables false

/-- what a line prints for a value -/
def shownB (t : ByteArray) (c : Int) : ByteArray := if c = 3 then ⟨#[117, 110, 107, 110, 111, 119, 110]⟩ else t

set_option maxHeartbeats 400000 in
theorem lineText_any (t : ByteArray) (c : Int) (w : World) :
    Calls Try.prog 32 #[.agg #[.string t, .int .u8 c]] w fun e w' => e = .returned (.string (shownB t c)) ∧ w' = w.alloc (.cells #[.string t, .int .u8 c] 63) := by
  by_cases h : c = 3
  · subst h
    go_enter Try.func32, Try.ntmps32
    go_wp2
    go_ret
    exact ⟨rfl, rfl⟩
  · have h' : (c == 3) = false := by simpa using h
    go_enter Try.func32, Try.ntmps32
    go_wp2
    go_ret
    exact ⟨by simp [shownB, h], rfl⟩

set_option maxHeartbeats 400000 in
theorem shown_any (t : ByteArray) (c : Int) (w : World) :
    Calls Try.prog 29 #[.string t, .int .u8 c] w fun e w' => e = .returned (.string (shownB t c)) ∧ w' = w := by
  by_cases h : c = 3
  · subst h
    go_enter Try.func29, Try.ntmps29
    go_wp2
    go_ret
    exact ⟨rfl, rfl⟩
  · have h' : (c == 3) = false := by simpa using h
    go_enter Try.func29, Try.ntmps29
    go_wp2
    go_ret
    exact ⟨by simp [shownB, h], rfl⟩

set_option maxHeartbeats 400000 in
theorem within_any (t n b : Int) (w : World) (ht : 0 ≤ t) (htb : t ≤ b) (hb : b ≤ 1048576) (hn : 0 ≤ n) (hn' : n ≤ 9223372036854775807) :
    Calls Try.prog 19 #[.int .i64 t, .int .i64 n, .int .i64 b] w fun e w' => (e = .returned (.tuple #[.int .i64 t, .bool false]) ∨ (e = .returned (.tuple #[.int .i64 (t + n), .bool true]) ∧ t + n ≤ b)) ∧ w' = w := by
  by_cases h : b - t < n
  · go_enter Try.func19, Try.ntmps19
    go_wp2
    go_ret2
    exact ⟨.inl rfl, rfl⟩
  · go_enter Try.func19, Try.ntmps19
    go_wp2
    go_ret2
    exact ⟨.inr ⟨rfl, by omega⟩, rfl⟩
end Go.Proofs.Qxb6601073a
