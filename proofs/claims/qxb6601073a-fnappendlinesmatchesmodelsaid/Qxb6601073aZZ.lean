import Derived.Test.Qxb6601073aPlain
import Derived.Test.Qxb6601073aCloneRecs
namespace Go.Proofs.Qxb6601073a
open Go.RowKit
set_option linter.unusedVariables false

/-- a report that was built from the records rs -/
def Built (w : World) (B : Nat) (wi : Bool) (rs : List Rec) (rb : Nat) : Prop :=
  ∃ kps, kps.map (·.2) = psOf wi 0 rs ∧ RepB w B rb rs.length (recCells kps) rs.length (valCells (vsOf wi rs)) (vsOf wi rs).length ∧ (∀ kp ∈ kps, KindAt w B rb kp)
theorem Built.fr5 {w w' : World} {B : Nat} {wi : Bool} {rs : List Rec} {rb : Nat} (h : Built w B wi rs rb) (hf : Fr5 w w') : Built w' B wi rs rb := by
  obtain ⟨kps, h1, h2, h3⟩ := h
  exact ⟨kps, h1, h2.fr5 hf, fun kp hkp => (h3 kp hkp).fr5 hf⟩

theorem built_any (wi : Bool) (a : Option Addr) (c : Nat) (rs : List Rec) (w : World) (h : RecsAt w 0 (.slice a rs.length c) rs) (hwf : ∀ r ∈ rs, RecWf r) (hw : wt rs ≤ 1048576) :
    Calls Try.prog 11 #[.slice a rs.length c, .bool wi] w fun e w' => e = .returned (.pointer (some ⟨w.heap.size, 0, none⟩)) ∧ Built w' w.heap.size wi rs w.heap.size ∧ Below w.heap.size w w' := by
  obtain ⟨b1, b2, b3⟩ := bounds_of_wt hw
  refine (build_any wi a c rs w h hwf b1 b2 (b3 wi)).mono ?_
  rintro e w' ⟨kps, rfl, h1, h2, h3, h4⟩
  exact ⟨rfl, ⟨kps, h1, h2, h3⟩, h4⟩

set_option maxHeartbeats 400000 in
theorem zzAppend_any (B Bo rb n : Nat) (wi : Bool) (rs : List Rec) (oa : Option Addr) (oc : Nat) (xs : List Value) (w : World) (hb : Built w B wi rs rb) (hw : wt rs ≤ 1048576) (hown : w.ownsRow Bo 5 1 (.slice oa n oc) n xs) (hBo : Bo ≤ w.heap.size) (hn : n ≤ 1048576) :
    Calls Try.prog 10 #[.pointer (some ⟨rb, 0, none⟩), .slice oa n oc] w fun e w' => ∃ a N c, e = .returned (.slice a N c) ∧ OutAt w Bo n (.slice oa n oc) xs w' a N c (linesR wi rs) := by
  obtain ⟨kps, h1, h2, h3⟩ := hb
  obtain ⟨hl, hv, hf, hbd, he⟩ := lines_pre hw h1
  rw [← hl] at h2
  have hc := appendLines_any B Bo rb n oa oc xs kps (vsOf wi rs) w h2 h3 hown hBo (by rw [hl]; exact (bounds_of_wt hw).1) hv hf (hbd n hn)
  rw [he] at hc
  clear hbd hf hv h2 h3 h1 he hl hown
  have HC := hid hc
  clear hc
  go_enter Try.func10, Try.ntmps10
  go_wp2_with (go_at_call 22; refine HC.out.mono ?_; rintro e w' ⟨a, N, c, rfl, ho⟩)
  go_ret
  exact ⟨a, N, c, rfl, ho⟩
end Go.Proofs.Qxb6601073a
