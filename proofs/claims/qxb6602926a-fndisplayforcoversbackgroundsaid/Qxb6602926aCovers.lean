import Derived.Test.Qxb6602926aProg
import Derived.WalkKit
import Derived.WalkSpells
import Derived.WalkLawsBesides
namespace Go.Proofs.Qxb6602926a
open Go.RowKit
set_option linter.unusedVariables false

/-! ### how two floats stand to each other -/
theorem cmpInt_swap (a b : Int) : compare b a = (compare a b).swap := by
  simp only [compare, compareOfLessAndEq]
  by_cases h1 : a < b
  · have h2 : ¬ b < a := by omega
    have h3 : ¬ b = a := by omega
    simp [h1, h2, h3]
  · by_cases h2 : a = b
    · subst h2; simp
    · have h3 : b < a := by omega
      simp [h1, h2, h3]
theorem datum_swap (d e : Ieee.Datum) : e.order d = (d.order e).map Ordering.swap := by
  cases d <;> cases e <;> simp only [Ieee.Datum.order, Option.map_none, Option.map_some]
  · rename_i s m i t n j
    rw [Int.min_comm j i, cmpInt_swap]
  · rename_i t; cases t <;> rfl
  · rename_i s m i t; cases s <;> rfl
  · rename_i s t; cases s <;> cases t <;> rfl
theorem order_swap (f : Ieee.Format) (x y : Nat) : f.order y x = (f.order x y).map Ordering.swap := datum_swap _ _
theorem datum_some {d e g : Ieee.Datum} (h : (d.order e).isSome = true) (hg : ∃ g', (g.order g').isSome = true) : (d.order g).isSome = true := by
  obtain ⟨g', hg⟩ := hg
  cases d <;> cases g <;> simp_all [Ieee.Datum.order]

theorem order_gt {f : Ieee.Format} {x y : Nat} (h : (f.order x y == some .gt) = true) : f.order y x = some .lt := by
  have h' : f.order x y = some .gt := by simpa using h
  rw [order_swap f x y, h']; rfl
theorem order_eq {f : Ieee.Format} {x y : Nat} (h : (f.order x y == some .eq) = true) : f.order y x = some .eq := by
  have h' : f.order x y = some .eq := by simpa using h
  rw [order_swap f x y, h']; rfl

/-- the walk's law for a store, for a float (the kit has it for the other kinds of one cell) -/
theorem run_store_float {P : Program} {w : World} {a : Addr} {m : Mode} (k : FloatKind) (b : Nat) : (store a (.float k b) m).run P w = stored P w a (.float k b) m := run_store P w a _ m rfl
attribute [local go_sem] run_store_float

/-! ### the display -/
set_option maxHeartbeats 400000 in
theorem display_hi (x : Nat) (w : World) (h : (FloatKind.f64.format.order x 4636737291354636288 == some .gt) = true) :
    Calls Try.prog 5 #[.float .f64 x] w fun e w' => e = .returned (.agg #[.float .f64 4645744490609377280, .float .f64 4591870180066957722]) ∧ Below w.heap.size w w' := by
  go_enter Try.func5, Try.ntmps5
  go_wp2
  exact bodyPost_ret (v := .agg #[.float .f64 4645744490609377280, .float .f64 4591870180066957722]) (by simp [results, Try.results5, go_sem]) rfl ⟨rfl, (Below.refl _ _).alloc (Nat.le_refl _) _⟩

set_option maxHeartbeats 400000 in
theorem display_lo (x : Nat) (w : World) (h : (FloatKind.f64.format.order x 4636737291354636288 == some .gt) = false) :
    Calls Try.prog 5 #[.float .f64 x] w fun e w' => e = .returned (.agg #[.float .f64 4636737291354636288, .float .f64 4591870180066957722]) ∧ Below w.heap.size w w' := by
  go_enter Try.func5, Try.ntmps5
  go_wp2
  exact bodyPost_ret (v := .agg #[.float .f64 4636737291354636288, .float .f64 4591870180066957722]) (by simp [results, Try.results5, go_sem]) rfl ⟨rfl, (Below.refl _ _).alloc (Nat.le_refl _) _⟩

set_option maxHeartbeats 400000 in
theorem covers_low (x : Nat) (w : World) (h : (FloatKind.f64.format.order x 4591870180066957722 == some .gt || FloatKind.f64.format.order x 4591870180066957722 == some .eq) = false) :
    Calls Try.prog 4 #[.float .f64 x] w fun e w' => e = .returned (.bool true) ∧ Below w.heap.size w w' := by
  have h1 : (FloatKind.f64.format.order x 4591870180066957722 == some .gt) = false := (Bool.or_eq_false_iff.1 h).1
  have h2 : (FloatKind.f64.format.order x 4591870180066957722 == some .eq) = false := (Bool.or_eq_false_iff.1 h).2
  clear h
  go_enter Try.func4, Try.ntmps4
  go_wp2
  go_ret
  exact ⟨rfl, Below.refl _ _⟩

set_option maxHeartbeats 400000 in
theorem covers_high (x : Nat) (w : World) (h : (FloatKind.f64.format.order x 4645744490609377280 == some .lt || FloatKind.f64.format.order x 4645744490609377280 == some .eq) = false) :
    Calls Try.prog 4 #[.float .f64 x] w fun e w' => e = .returned (.bool true) ∧ Below w.heap.size w w' := by
  have h1 : (FloatKind.f64.format.order x 4645744490609377280 == some .lt) = false := (Bool.or_eq_false_iff.1 h).1
  have h2 : (FloatKind.f64.format.order x 4645744490609377280 == some .eq) = false := (Bool.or_eq_false_iff.1 h).2
  clear h
  by_cases g : (FloatKind.f64.format.order x 4591870180066957722 == some .gt || FloatKind.f64.format.order x 4591870180066957722 == some .eq) = true
  · rcases (Bool.or_eq_true _ _ ▸ g : _ ∨ _) with g1 | g1
    all_goals
      clear g
      go_enter Try.func4, Try.ntmps4
      go_wp2
      go_ret
      exact ⟨rfl, Below.refl _ _⟩
  · exact covers_low x w (by simpa using g)

theorem not_gt {f : Ieee.Format} {x y z : Nat} (h : (f.order x z == some .lt || f.order x z == some .eq) = true) (hy : ∃ y', (f.order y y').isSome = true) (hn : (f.order x y == some .gt) = false) : (f.order x y == some .lt || f.order x y == some .eq) = true := by
  have h1 : (f.order x z).isSome = true := by
    simp only [Bool.or_eq_true, beq_iff_eq] at h
    rcases h with h | h <;> rw [h] <;> rfl
  have h2 : (f.order x y).isSome = true := datum_some h1 (by obtain ⟨y', q⟩ := hy; exact ⟨_, q⟩)
  cases ho : f.order x y with
  | none => rw [ho] at h2; cases h2
  | some o =>
    rw [ho] at hn
    cases o with
    | lt => rfl
    | eq => rfl
    | gt => simp at hn

set_option maxHeartbeats 800000 in
theorem covers_in (x : Nat) (w : World) (h1 : (FloatKind.f64.format.order x 4591870180066957722 == some .gt || FloatKind.f64.format.order x 4591870180066957722 == some .eq) = true)
    (h2 : (FloatKind.f64.format.order x 4645744490609377280 == some .lt || FloatKind.f64.format.order x 4645744490609377280 == some .eq) = true) :
    Calls Try.prog 4 #[.float .f64 x] w fun e w' => e = .returned (.bool true) ∧ Below w.heap.size w w' := by
  have h3 : (FloatKind.f64.format.order 4591870180066957722 x == some .lt || FloatKind.f64.format.order 4591870180066957722 x == some .eq) = true := by
    rcases (Bool.or_eq_true _ _ ▸ h1 : _ ∨ _) with g | g
    · rw [order_gt g]; rfl
    · rw [order_eq g]; rfl
  by_cases h4 : (FloatKind.f64.format.order x 4636737291354636288 == some .gt) = true
  · go_enter Try.func4, Try.ntmps4
    go_wp2_with (go_at_call 5; refine (display_hi x _ h4).mono ?_; rintro e w1 ⟨rfl, hb1⟩)
    go_ret
    exact ⟨rfl, hb1.alloc hb1.size _⟩
  · have h4' : (FloatKind.f64.format.order x 4636737291354636288 == some .gt) = false := by simpa using h4
    have h5 := not_gt (y := 4636737291354636288) h2 ⟨4636737291354636288, by decide +kernel⟩ h4'
    clear h4
    go_enter Try.func4, Try.ntmps4
    go_wp2_with (go_at_call 5; refine (display_lo x _ h4').mono ?_; rintro e w1 ⟨rfl, hb1⟩)
    go_ret
    exact ⟨rfl, hb1.alloc hb1.size _⟩

theorem covers_walk (x : Nat) (w : World) : Calls Try.prog 4 #[.float .f64 x] w fun e w' => e = .returned (.bool true) ∧ Below w.heap.size w w' := by
  by_cases h1 : (FloatKind.f64.format.order x 4591870180066957722 == some .gt || FloatKind.f64.format.order x 4591870180066957722 == some .eq) = true
  · by_cases h2 : (FloatKind.f64.format.order x 4645744490609377280 == some .lt || FloatKind.f64.format.order x 4645744490609377280 == some .eq) = true
    · exact covers_in x w h1 h2
    · exact covers_high x w (by simpa using h2)
  · exact covers_low x w (by simpa using h1)

end Go.Proofs.Qxb6602926a
