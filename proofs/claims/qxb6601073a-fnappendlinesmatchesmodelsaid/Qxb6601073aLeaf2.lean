import Derived.Test.Qxb6601073aClone
import Derived.Test.Qxb6601073aLeaf
namespace Go.Proofs.Qxb6601073a
open Go.RowKit
set_option linter.unusedVariables false

def intCells (zs : List Int) : List Value := zs.map (Value.int .u8)
def strCells (ss : List ByteArray) : List Value := ss.map Value.string

def clsOf (zs : List Int) (j : Nat) : Int := zs.getD j 0 % 4
def textOf (ss : List ByteArray) (j : Nat) : ByteArray := ss.getD j ⟨#[]⟩

theorem intCells_at {zs : List Int} {j : Nat} (h : j < zs.length) : (intCells zs)[j]? = some (.int .u8 (zs.getD j 0)) := by
  simp [intCells, List.getD, List.getElem?_eq_getElem h]
theorem strCells_at {ss : List ByteArray} {j : Nat} (h : j < ss.length) : (strCells ss)[j]? = some (.string (ss.getD j ⟨#[]⟩)) := by
  simp [strCells, List.getD, List.getElem?_eq_getElem h]

set_option maxHeartbeats 400000 in
theorem classAt_any {B : Nat} (wd : ByteArray) (ba : Bool) (ka ta : Option Addr) (kn kc tn tc : Nat) (cv : Value) (zs : List Int) (j : Nat) (w : World) (h : RowAt w B cv (intCells zs)) (hz : ∀ z ∈ zs, 0 ≤ z ∧ z ≤ 255) (hlen : zs.length ≤ 1048576) (hj : j ≤ 1048576) :
    Calls Try.prog 26 #[.agg #[.string wd, .bool ba, .slice ka kn kc, .slice ta tn tc, cv], .int .i64 j] w fun e w' => e = .returned (.int .u8 (clsOf zs j)) ∧ Below w.heap.size w w' := by
  obtain ⟨a, c, rfl⟩ := h.form
  have hl : (intCells zs).length = zs.length := by simp [intCells]
  by_cases hlt : j < zs.length
  · obtain ⟨b, o, rfl, hB, hc⟩ := h.pos (i := j) (by omega)
    have hcell := hc j _ (intCells_at hlt)
    have hzj : 0 ≤ zs.getD j 0 ∧ zs.getD j 0 ≤ 255 := by
      have : zs.getD j 0 ∈ zs := by simp [List.getD, List.getElem?_eq_getElem hlt]
      exact hz _ this
    obtain ⟨z, hzz⟩ : ∃ z, z = zs.getD j 0 := ⟨_, rfl⟩
    unfold clsOf
    rw [← hzz] at hcell hzj ⊢
    obtain ⟨h0, h255⟩ := hzj
    rw [hl]
    have hw := World.block_lt_of_cell? w _ hcell
    clear hc h hl hz hzz
    go_enter Try.func26, Try.ntmps26
    go_wp2
    go_ret
    exact ⟨rfl, (Below.refl _ _).alloc (Nat.le_refl _) _⟩
  · have hcl : clsOf zs j = 0 := by unfold clsOf; rw [List.getD, List.getElem?_eq_none (by omega)]; rfl
    rw [hl, hcl]
    clear h hl hz hcl
    go_enter Try.func26, Try.ntmps26
    go_wp2
    go_ret
    exact ⟨rfl, (Below.refl _ _).alloc (Nat.le_refl _) _⟩

set_option maxHeartbeats 400000 in
theorem textAt_any {B : Nat} (wd : ByteArray) (ba : Bool) (ka ca : Option Addr) (kn kc cn cc : Nat) (tv : Value) (ss : List ByteArray) (j : Nat) (w : World) (h : RowAt w B tv (strCells ss)) (hlen : ss.length ≤ 1048576) (hj : j ≤ 1048576) :
    Calls Try.prog 28 #[.agg #[.string wd, .bool ba, .slice ka kn kc, tv, .slice ca cn cc], .int .i64 j] w fun e w' => e = .returned (.string (textOf ss j)) ∧ Below w.heap.size w w' := by
  obtain ⟨a, c, rfl⟩ := h.form
  have hl : (strCells ss).length = ss.length := by simp [strCells]
  by_cases hlt : j < ss.length
  · obtain ⟨b, o, rfl, hB, hc⟩ := h.pos (i := j) (by omega)
    have hcell := hc j _ (strCells_at hlt)
    obtain ⟨z, hzz⟩ : ∃ z, z = ss.getD j ⟨#[]⟩ := ⟨_, rfl⟩
    unfold textOf
    rw [← hzz] at hcell ⊢
    rw [hl]
    have hw := World.block_lt_of_cell? w _ hcell
    clear hc h hl hzz
    go_enter Try.func28, Try.ntmps28
    go_wp2
    go_ret
    exact ⟨rfl, (Below.refl _ _).alloc (Nat.le_refl _) _⟩
  · have hcl : textOf ss j = ⟨#[]⟩ := by unfold textOf; rw [List.getD, List.getElem?_eq_none (by omega)]; rfl
    rw [hl, hcl]
    clear h hl hcl
    go_enter Try.func28, Try.ntmps28
    go_wp2
    go_ret
    exact ⟨rfl, (Below.refl _ _).alloc (Nat.le_refl _) _⟩
end Go.Proofs.Qxb6601073a
