import Derived.Test.Qxb6601073aLines
import Derived.Test.Qxb6601073aWithin
namespace Go.Proofs.Qxb6601073a
open Go.RowKit
set_option linter.unusedVariables false

/-! ### the lines of a built report, record by record -/
def lineRTo (wi : Bool) (r : Rec) : Nat → List UInt8
  | 0 => r.word.data.toList
  | j + 1 => stepL (r.bare && !wi) (lineRTo wi r j) (r.keys.getD j ⟨#[]⟩) (valAt wi r j)
def lineR (wi : Bool) (r : Rec) : List UInt8 := lineRTo wi r r.keys.length ++ [10]
def linesR (wi : Bool) (rs : List Rec) : List UInt8 := rs.flatMap (lineR wi)

theorem lineTo_eq (vs : List (ByteArray × Int)) (wi : Bool) (r : Rec) (f : Nat) (h : ∀ i, i < r.keys.length → vs.getD (f + i) (⟨#[]⟩, 0) = valAt wi r i) :
    ∀ j, j ≤ r.keys.length → lineTo vs ⟨r.word, r.bare && !wi, r.keys, f⟩ j = lineRTo wi r j
  | 0, _ => rfl
  | j + 1, hj => by
    unfold lineTo lineRTo
    rw [lineTo_eq vs wi r f h j (by omega)]
    simp only
    rw [h j (by omega)]

theorem vs_at (wi : Bool) (pre post : List Rec) (r : Rec) (i : Nat) (hi : i < r.keys.length) : (vsOf wi (pre ++ (r :: post))).getD ((vsOf wi pre).length + i) (⟨#[]⟩, 0) = valAt wi r i := by
  have e : vsOf wi (pre ++ (r :: post)) = vsOf wi pre ++ (vals wi r ++ vsOf wi post) := by simp [vsOf]
  rw [e, List.getD, List.getElem?_append_right (by omega), Nat.add_sub_cancel_left, List.getElem?_append_left (by rw [length_vals]; exact hi)]
  simp [vals, hi]

theorem linesP_build (wi : Bool) : ∀ (rs pre post : List Rec), linesP (vsOf wi (pre ++ (rs ++ post))) (psOf wi (vsOf wi pre).length rs) = linesR wi rs
  | [], _, _ => rfl
  | r :: rs, pre, post => by
    have h1 : (vsOf wi pre).length + r.keys.length = (vsOf wi (pre ++ [r])).length := by rw [vsOf_snoc, List.length_append, length_vals]
    have ih := linesP_build wi rs (pre ++ [r]) post
    have e : pre ++ [r] ++ (rs ++ post) = pre ++ (r :: rs ++ post) := by simp
    rw [e] at ih
    unfold psOf linesP linesR
    rw [List.flatMap_cons, List.flatMap_cons, h1]
    unfold linesP linesR at ih
    rw [ih]
    congr 1
    unfold lineP lineR
    rw [lineTo_eq _ wi r _ (fun i hi => by rw [List.cons_append]; exact vs_at wi pre (rs ++ post) r i hi) _ (Nat.le_refl _)]

theorem psOf_take (wi : Bool) : ∀ (rs : List Rec) (f k : Nat), (psOf wi f rs).take k = psOf wi f (rs.take k)
  | [], f, k => by simp [psOf]
  | r :: rs, f, 0 => by simp [psOf]
  | r :: rs, f, k + 1 => by simp [psOf, psOf_take wi rs]

theorem psOf_at (wi : Bool) : ∀ (rs : List Rec) (f k : Nat) (r : Rec), rs[k]? = some r → (psOf wi f rs)[k]? = some ⟨r.word, r.bare && !wi, r.keys, f + (vsOf wi (rs.take k)).length⟩
  | [], f, k, r, h => by simp at h
  | a :: rs, f, 0, r, h => by simp at h; subst h; simp [psOf, vsOf]
  | a :: rs, f, k + 1, r, h => by
    have := psOf_at wi rs (f + a.keys.length) k r (by simpa using h)
    simp only [psOf, List.getElem?_cons_succ, this, List.take_succ_cons, vsOf, List.flatMap_cons, List.length_append, length_vals, Nat.add_assoc]

/-! ### sizes -/
theorem sumS_cons (s : ByteArray) (ss : List ByteArray) : sumS (s :: ss) = s.size + sumS ss := by simp [sumS]
theorem sumS_take_le (ss : List ByteArray) (j : Nat) : sumS (ss.take j) ≤ sumS ss := by
  induction ss generalizing j with
  | nil => simp [sumS]
  | cons s ss ih =>
    cases j with
    | zero => simp [sumS]
    | succ j => rw [List.take_succ_cons, sumS_cons, sumS_cons]; have := ih j; omega
theorem sumS_take_text (ss : List ByteArray) (j : Nat) : sumS (ss.take j) + (textOf ss j).size ≤ sumS (ss.take (j + 1)) := by
  by_cases h : j < ss.length
  · rw [sumS_take_succ ss h]; exact Nat.le_refl _
  · unfold textOf
    rw [List.getD, List.getElem?_eq_none (by omega), List.take_of_length_le (by omega), List.take_of_length_le (by omega)]
    exact Nat.le_refl _
theorem shown_le (t : ByteArray) (c : Int) : (shownB t c).size ≤ t.size + 7 := by
  unfold shownB; split
  · show 7 ≤ _; omega
  · omega
theorem size_list (s : ByteArray) : s.data.toList.length = s.size := by rw [Array.length_toList]; rfl
theorem stepL_le (bare : Bool) (acc : List UInt8) (key : ByteArray) (v : ByteArray × Int) : (stepL bare acc key v).length ≤ acc.length + key.size + (shownB v.1 v.2).size + 2 := by
  unfold stepL
  split
  · omega
  · rw [List.length_append, List.length_append, List.length_append, size_list]
    have h1 : (if acc = [] then ([] : List UInt8) else [32]).length ≤ 1 := by split <;> simp
    have h2 : (if bare = true then ([] : List UInt8) else key.data.toList ++ [61]).length ≤ key.size + 1 := by
      split
      · simp
      · rw [List.length_append, size_list]; simp
    omega
theorem lineRTo_le (wi : Bool) (r : Rec) : ∀ j, j ≤ r.keys.length → (lineRTo wi r j).length ≤ r.word.size + sumS (r.keys.take j) + sumS (r.texts.take j) + 9 * j
  | 0, _ => by simp only [lineRTo, size_list]; omega
  | j + 1, hj => by
    have ih := lineRTo_le wi r j (by omega)
    have h1 := stepL_le (r.bare && !wi) (lineRTo wi r j) (r.keys.getD j ⟨#[]⟩) (valAt wi r j)
    have h2 := sumS_take_succ r.keys (j := j) (by omega)
    have h3 := sumS_take_text r.texts j
    have h4 := shown_le (valAt wi r j).1 (valAt wi r j).2
    unfold lineRTo
    simp only [valAt] at h4 h1 ⊢
    omega
theorem lineRTo_wt (wi : Bool) (r : Rec) (j : Nat) (hj : j ≤ r.keys.length) : (lineRTo wi r j).length ≤ recWt r := by
  have h := lineRTo_le wi r j hj
  have h1 := sumS_take_le r.keys j
  have h2 := sumS_take_le r.texts j
  unfold recWt strsWt
  omega
theorem linesR_wt (wi : Bool) : ∀ rs : List Rec, (linesR wi rs).length ≤ sumR rs + rs.length
  | [] => by simp [linesR, sumR]
  | r :: rs => by
    have ih := linesR_wt wi rs
    have h := lineRTo_wt wi r r.keys.length (Nat.le_refl _)
    have h1 : (lineR wi r).length = (lineRTo wi r r.keys.length).length + 1 := by simp [lineR]
    unfold linesR at ih ⊢
    rw [List.flatMap_cons, List.length_append, h1]
    simp only [List.length_cons, sumR, List.map_cons, List.sum_cons] at ih ⊢
    omega
theorem sumR_take_le (rs : List Rec) (k : Nat) : sumR (rs.take k) ≤ sumR rs := by
  induction rs generalizing k with
  | nil => simp [sumR]
  | cons s ss ih =>
    cases k with
    | zero => simp [sumR]
    | succ j =>
      have := ih j
      simp only [List.take_succ_cons, sumR, List.map_cons, List.sum_cons] at this ⊢
      omega
theorem recWt_le {rs : List Rec} {r : Rec} (h : r ∈ rs) : recWt r ≤ sumR rs := by
  induction rs with
  | nil => simp at h
  | cons a rs ih =>
    simp only [sumR, List.map_cons, List.sum_cons]
    rcases List.mem_cons.1 h with rfl | h
    · omega
    · have := ih h; unfold sumR at this; omega
theorem vsOf_wt (wi : Bool) : ∀ rs : List Rec, (vsOf wi rs).length ≤ sumR rs
  | [] => by simp [vsOf, sumR]
  | r :: rs => by
    have ih := vsOf_wt wi rs
    unfold vsOf at ih ⊢
    rw [List.flatMap_cons, List.length_append, length_vals]
    simp only [sumR, List.map_cons, List.sum_cons, recWt, strsWt] at ih ⊢
    omega
theorem bounds_of_wt {rs : List Rec} (h : wt rs ≤ 1048576) : rs.length ≤ 1048576 ∧ (∀ r ∈ rs, r.keys.length ≤ 1048576 ∧ r.texts.length ≤ 1048576 ∧ r.classes.length ≤ 1048576) ∧ (∀ wi k, (vsOf wi (rs.take k)).length ≤ 1048576) := by
  unfold wt at h
  refine ⟨by omega, fun r hr => ?_, fun wi k => ?_⟩
  · have := recWt_le hr
    unfold recWt strsWt at this
    omega
  · have h1 := vsOf_wt wi (rs.take k)
    have h2 := sumR_take_le rs k
    omega

/-- what 'appendLines' asks of a report that was built from records within the bound -/
theorem lines_pre {rs : List Rec} {wi : Bool} {kps : List (Nat × PRec)} (h : wt rs ≤ 1048576) (hk : kps.map (·.2) = psOf wi 0 rs) :
    kps.length = rs.length ∧ (vsOf wi rs).length ≤ 1048576 ∧ (∀ kp ∈ kps, kp.2.keys.length ≤ 1048576 ∧ Fits (vsOf wi rs) kp.2) ∧
    (∀ n, n ≤ 1048576 → ∀ k kp, kps[k]? = some kp → ∀ j, j ≤ kp.2.keys.length → n + (linesP (vsOf wi rs) ((kps.map (·.2)).take k)).length + (lineTo (vsOf wi rs) kp.2 j).length < 1099511627776) ∧
    linesP (vsOf wi rs) (kps.map (·.2)) = linesR wi rs := by
  obtain ⟨b1, b2, b3⟩ := bounds_of_wt h
  have hlen : kps.length = rs.length := by
    have := congrArg List.length hk
    rwa [List.length_map, length_psOf] at this
  have hp : ∀ (k : Nat) (kp : Nat × PRec), kps[k]? = some kp → ∃ r : Rec, rs[k]? = some r ∧ kp.2 = (⟨r.word, r.bare && !wi, r.keys, (vsOf wi (rs.take k)).length⟩ : PRec) := by
    intro k kp hkp
    have hkl : k < rs.length := by rw [← hlen]; exact (List.getElem?_eq_some_iff.1 hkp).1
    refine ⟨rs[k], List.getElem?_eq_getElem hkl, ?_⟩
    have h1 := psOf_at wi rs 0 k rs[k] (List.getElem?_eq_getElem hkl)
    rw [← hk, List.getElem?_map, hkp] at h1
    simpa using h1
  have hsplit : ∀ (k : Nat) (r : Rec), rs[k]? = some r → rs = rs.take k ++ (r :: rs.drop (k + 1)) := by
    intro k r hr
    obtain ⟨hkl, he⟩ := List.getElem?_eq_some_iff.1 hr
    rw [← he, List.getElem_cons_drop, List.take_append_drop]
  refine ⟨hlen, ?_, fun kp hmem => ?_, fun n hn k kp hkp j hj => ?_, ?_⟩
  · have := b3 wi rs.length; rwa [List.take_length] at this
  · obtain ⟨k, hkl, he⟩ := List.mem_iff_getElem.1 hmem
    have hkp : kps[k]? = some kp := by rw [List.getElem?_eq_getElem hkl, he]
    obtain ⟨r, hr, e⟩ := hp k kp hkp
    have hmr : r ∈ rs := List.mem_of_getElem? hr
    rw [e]
    refine ⟨(b2 r hmr).1, ?_⟩
    unfold Fits
    simp only
    have e2 : (vsOf wi rs).length = (vsOf wi (rs.take k)).length + (r.keys.length + (vsOf wi (rs.drop (k + 1))).length) := by
      conv => lhs; rw [hsplit k r hr]
      simp [vsOf, length_vals]
    omega
  · obtain ⟨r, hr, e⟩ := hp k kp hkp
    have hmr : r ∈ rs := List.mem_of_getElem? hr
    have e1 : (kps.map (·.2)).take k = psOf wi (vsOf wi []).length (rs.take k) := by rw [hk, psOf_take]; rfl
    have e2 : linesP (vsOf wi rs) ((kps.map (·.2)).take k) = linesR wi (rs.take k) := by
      rw [e1]
      have := linesP_build wi (rs.take k) [] (rs.drop k)
      rwa [List.nil_append, List.take_append_drop] at this
    rw [e] at hj
    have e3 : lineTo (vsOf wi rs) kp.2 j = lineRTo wi r j := by
      rw [e]
      refine lineTo_eq _ wi r _ (fun i hi => ?_) j hj
      conv => lhs; rw [hsplit k r hr]
      have := vs_at wi (rs.take k) (rs.drop (k + 1)) r i hi
      have e4 : (rs.take k ++ r :: rs.drop (k + 1)).take k = rs.take k := by rw [← hsplit k r hr]
      rw [e4]
      exact this
    rw [e2, e3]
    have h1 := linesR_wt wi (rs.take k)
    have h2 := lineRTo_wt wi r j hj
    have h3 := sumR_take_le rs k
    have h4 := recWt_le hmr
    have h5 : (rs.take k).length ≤ rs.length := List.length_take_le' _ _
    unfold wt at h
    omega
  · rw [hk]
    have := linesP_build wi rs [] []
    simpa [vsOf] using this
end Go.Proofs.Qxb6601073a
