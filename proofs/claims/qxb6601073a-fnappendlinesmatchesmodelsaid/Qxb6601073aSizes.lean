import Derived.Test.Qxb6601073aSize
namespace Go.Proofs.Qxb6601073a
open Go.RowKit
set_option linter.unusedVariables false

def sizeRTo (wi : Bool) (r : Rec) : Nat → Nat
  | 0 => r.word.size + 1
  | j + 1 => sizeRTo wi r j + ((r.keys.getD j ⟨#[]⟩).size + (shownB (valAt wi r j).1 (valAt wi r j).2).size + 2)
def sizeR (wi : Bool) (rs : List Rec) : Nat := (rs.map fun r => sizeRTo wi r r.keys.length).sum

theorem sizeTo_eq (vs : List (ByteArray × Int)) (wi : Bool) (r : Rec) (f : Nat) (h : ∀ i, i < r.keys.length → vs.getD (f + i) (⟨#[]⟩, 0) = valAt wi r i) :
    ∀ j, j ≤ r.keys.length → sizeTo vs ⟨r.word, r.bare && !wi, r.keys, f⟩ j = sizeRTo wi r j
  | 0, _ => rfl
  | j + 1, hj => by
    unfold sizeTo sizeRTo
    rw [sizeTo_eq vs wi r f h j (by omega)]
    simp only
    rw [h j (by omega)]

theorem sizeP_build (wi : Bool) : ∀ (rs pre post : List Rec), sizeP (vsOf wi (pre ++ (rs ++ post))) (psOf wi (vsOf wi pre).length rs) = sizeR wi rs
  | [], _, _ => rfl
  | r :: rs, pre, post => by
    have h1 : (vsOf wi pre).length + r.keys.length = (vsOf wi (pre ++ [r])).length := by rw [vsOf_snoc, List.length_append, length_vals]
    have ih := sizeP_build wi rs (pre ++ [r]) post
    have e : pre ++ [r] ++ (rs ++ post) = pre ++ (r :: rs ++ post) := by simp
    rw [e] at ih
    unfold psOf sizeP sizeR
    rw [List.map_cons, List.map_cons, h1, List.sum_cons, List.sum_cons]
    unfold sizeP sizeR at ih
    rw [ih]
    congr 1
    exact sizeTo_eq _ wi r _ (fun i hi => by rw [List.cons_append]; exact vs_at wi pre (rs ++ post) r i hi) _ (Nat.le_refl _)

theorem sizeRTo_le (wi : Bool) (r : Rec) : ∀ j, j ≤ r.keys.length → sizeRTo wi r j ≤ r.word.size + 1 + sumS (r.keys.take j) + sumS (r.texts.take j) + 9 * j
  | 0, _ => by simp only [sizeRTo]; omega
  | j + 1, hj => by
    have ih := sizeRTo_le wi r j (by omega)
    have h2 := sumS_take_succ r.keys (j := j) (by omega)
    have h3 := sumS_take_text r.texts j
    have h4 := shown_le (valAt wi r j).1 (valAt wi r j).2
    unfold sizeRTo
    simp only [valAt] at h4 ⊢
    omega
theorem sizeRTo_wt (wi : Bool) (r : Rec) (j : Nat) (hj : j ≤ r.keys.length) : sizeRTo wi r j ≤ recWt r + 1 := by
  have h := sizeRTo_le wi r j hj
  have h1 := sumS_take_le r.keys j
  have h2 := sumS_take_le r.texts j
  unfold recWt strsWt
  omega
theorem sizeR_wt (wi : Bool) : ∀ rs : List Rec, sizeR wi rs ≤ sumR rs + rs.length
  | [] => by simp [sizeR, sumR]
  | r :: rs => by
    have ih := sizeR_wt wi rs
    have h := sizeRTo_wt wi r r.keys.length (Nat.le_refl _)
    simp only [sizeR, sumR, List.map_cons, List.sum_cons, List.length_cons] at ih ⊢
    omega

/-- what 'linesSize' asks of a report that was built from records within the bound -/
theorem size_pre {rs : List Rec} {wi : Bool} {kps : List (Nat × PRec)} (h : wt rs ≤ 1048576) (hk : kps.map (·.2) = psOf wi 0 rs) :
    (∀ k kp, kps[k]? = some kp → ∀ j, j ≤ kp.2.keys.length → sizeP (vsOf wi rs) ((kps.map (·.2)).take k) + sizeTo (vsOf wi rs) kp.2 j < 1099511627776) ∧
    sizeP (vsOf wi rs) (kps.map (·.2)) = sizeR wi rs := by
  have hlen : kps.length = rs.length := by
    have := congrArg List.length hk
    rwa [List.length_map, length_psOf] at this
  refine ⟨fun k kp hkp j hj => ?_, ?_⟩
  · have hkl : k < rs.length := by rw [← hlen]; exact (List.getElem?_eq_some_iff.1 hkp).1
    obtain ⟨r, hrr⟩ : ∃ r, r = rs[k] := ⟨_, rfl⟩
    have hr : rs[k]? = some r := by rw [hrr]; exact List.getElem?_eq_getElem hkl
    have e : kp.2 = (⟨r.word, r.bare && !wi, r.keys, (vsOf wi (rs.take k)).length⟩ : PRec) := by
      have h1 := psOf_at wi rs 0 k r hr
      rw [← hk, List.getElem?_map, hkp] at h1
      simpa using h1
    have hmr : r ∈ rs := List.mem_of_getElem? hr
    have hsplit : rs = rs.take k ++ (r :: rs.drop (k + 1)) := by rw [hrr, List.getElem_cons_drop, List.take_append_drop]
    have e1 : (kps.map (·.2)).take k = psOf wi (vsOf wi []).length (rs.take k) := by rw [hk, psOf_take]; rfl
    have e2 : sizeP (vsOf wi rs) ((kps.map (·.2)).take k) = sizeR wi (rs.take k) := by
      rw [e1]
      have := sizeP_build wi (rs.take k) [] (rs.drop k)
      rwa [List.nil_append, List.take_append_drop] at this
    rw [e] at hj
    have e3 : sizeTo (vsOf wi rs) kp.2 j = sizeRTo wi r j := by
      rw [e]
      refine sizeTo_eq _ wi r _ (fun i hi => ?_) j hj
      conv => lhs; rw [hsplit]
      have := vs_at wi (rs.take k) (rs.drop (k + 1)) r i hi
      have e4 : (rs.take k ++ r :: rs.drop (k + 1)).take k = rs.take k := by rw [← hsplit]
      rw [e4]
      exact this
    rw [e2, e3]
    have h1 := sizeR_wt wi (rs.take k)
    have h2 := sizeRTo_wt wi r j hj
    have h3 := sumR_take_le rs k
    have h4 := recWt_le hmr
    have h5 : (rs.take k).length ≤ rs.length := List.length_take_le' _ _
    unfold wt at h
    omega
  · rw [hk]
    have := sizeP_build wi rs [] []
    simpa [vsOf] using this

set_option maxHeartbeats 400000 in
theorem zzSize_any (B rb : Nat) (wi : Bool) (rs : List Rec) (w : World) (hb : Built w B wi rs rb) (hw : wt rs ≤ 1048576) :
    Calls Try.prog 17 #[.pointer (some ⟨rb, 0, none⟩)] w fun e w' => e = .returned (.int .i64 (sizeR wi rs)) ∧ Below w.heap.size w w' := by
  obtain ⟨kps, h1, h2, h3⟩ := hb
  obtain ⟨hl, hv, hf, _, _⟩ := lines_pre hw h1
  obtain ⟨hbd, he⟩ := size_pre hw h1
  rw [← hl] at h2
  have hc := linesSize_any B rb kps (vsOf wi rs) w h2 h3 (by rw [hl]; exact (bounds_of_wt hw).1) hv hf hbd
  rw [he] at hc
  clear hbd hf hv h2 h3 h1 he hl
  have HC := hid hc
  clear hc
  go_enter Try.func17, Try.ntmps17
  go_wp2_with (go_at_call 31; refine HC.out.mono ?_; rintro e w' ⟨rfl, ho⟩)
  go_ret
  exact ⟨rfl, ho⟩

/-! ### the plain laws -/
theorem bound_rec (r : Rec) : ∀ j, j ≤ r.keys.length → (lineRTo false r j).length + 1 ≤ sizeRTo false r j
  | 0, _ => by simp only [lineRTo, sizeRTo, size_list]; omega
  | j + 1, hj => by
    have ih := bound_rec r j (by omega)
    have h1 := stepL_le (r.bare && !false) (lineRTo false r j) (r.keys.getD j ⟨#[]⟩) (valAt false r j)
    unfold lineRTo sizeRTo
    omega
theorem bound_all : ∀ rs : List Rec, (linesR false rs).length ≤ sizeR false rs
  | [] => by simp [linesR, sizeR]
  | r :: rs => by
    have ih := bound_all rs
    have h := bound_rec r r.keys.length (Nat.le_refl _)
    have h1 : (lineR false r).length = (lineRTo false r r.keys.length).length + 1 := by simp [lineR]
    unfold linesR at ih ⊢
    rw [List.flatMap_cons, List.length_append, h1]
    simp only [sizeR, List.map_cons, List.sum_cons] at ih ⊢
    omega

theorem shown_clsW (wi : Bool) (t : ByteArray) (c : Int) : shownB t (clsW wi c) = shownB t c := by
  unfold clsW shownB
  split
  · rename_i h; rw [h.2]; simp
  · rfl
theorem step_wide (acc : List UInt8) (key t : ByteArray) (c : Int) : (stepL false acc key (t, clsW true c)).length = acc.length + (if acc = [] then 0 else 1) + key.size + 1 + (shownB t c).size ∧ stepL false acc key (t, clsW true c) ≠ [] := by
  have hc : clsW true c ≠ 0 := by unfold clsW; split <;> simp_all
  have e : stepL false acc key (t, clsW true c) = acc ++ (if acc = [] then [] else [32]) ++ (key.data.toList ++ [61]) ++ (shownB t c).data.toList := by
    unfold stepL
    rw [if_neg hc, shown_clsW]; rfl
  rw [e]
  constructor
  · rw [List.length_append, List.length_append, List.length_append, List.length_append, size_list, size_list]
    split <;> simp <;> omega
  · simp
def extraOf (r : Rec) : Nat := if r.word.size = 0 ∧ 0 < r.keys.length then 1 else 0
theorem wide_rec (r : Rec) : ∀ j, j ≤ r.keys.length → (lineRTo true r j).length + 1 + (if r.word.size = 0 ∧ 0 < j then 1 else 0) = sizeRTo false r j ∧ (0 < j → lineRTo true r j ≠ [])
  | 0, _ => by simp only [lineRTo, sizeRTo, size_list]; simp
  | j + 1, hj => by
    obtain ⟨ih, ih2⟩ := wide_rec r j (by omega)
    have hb : (r.bare && !true) = false := by simp
    obtain ⟨h1, h2⟩ := step_wide (lineRTo true r j) (r.keys.getD j ⟨#[]⟩) (textOf r.texts j) (clsOf r.classes j)
    have e : lineRTo true r (j + 1) = stepL false (lineRTo true r j) (r.keys.getD j ⟨#[]⟩) (textOf r.texts j, clsW true (clsOf r.classes j)) := by
      show stepL (r.bare && !true) _ _ _ = _
      rw [hb]; rfl
    have e2 : sizeRTo false r (j + 1) = sizeRTo false r j + ((r.keys.getD j ⟨#[]⟩).size + (shownB (textOf r.texts j) (clsOf r.classes j)).size + 2) := by
      show _ + (_ + (shownB (textOf r.texts j) (clsW false (clsOf r.classes j))).size + 2) = _
      rw [shown_clsW]
    refine ⟨?_, fun _ => by rw [e]; exact h2⟩
    rw [e, h1, e2, ← ih]
    by_cases hj0 : 0 < j
    · rw [if_neg (ih2 hj0)]
      by_cases hw : r.word.size = 0
      · rw [if_pos ⟨hw, by omega⟩, if_pos ⟨hw, hj0⟩]; omega
      · rw [if_neg (fun h => hw h.1), if_neg (fun h => hw h.1)]; omega
    · have : j = 0 := by omega
      subst this
      by_cases hw : r.word.size = 0
      · have : lineRTo true r 0 = [] := List.eq_nil_of_length_eq_zero (by rw [lineRTo, size_list]; exact hw)
        rw [if_pos this, if_pos ⟨hw, by omega⟩, if_neg (by omega)]; omega
      · have : lineRTo true r 0 ≠ [] := fun h => hw (by rw [← size_list]; show (lineRTo true r 0).length = 0; rw [h]; rfl)
        rw [if_neg this, if_neg (fun h => hw h.1), if_neg (by omega)]; omega
def extras (rs : List Rec) : Nat := (rs.map extraOf).sum
theorem extras_snoc (rs : List Rec) (r : Rec) : extras (rs ++ [r]) = extras rs + extraOf r := by simp [extras]
theorem extras_le : ∀ rs : List Rec, extras rs ≤ rs.length
  | [] => by simp [extras]
  | r :: rs => by
    have ih := extras_le rs
    have h : extraOf r ≤ 1 := by unfold extraOf; split <;> omega
    simp only [extras, List.map_cons, List.sum_cons, List.length_cons] at ih ⊢
    omega
theorem wide_all : ∀ rs : List Rec, sizeR false rs = (linesR true rs).length + extras rs
  | [] => by simp [linesR, sizeR, extras]
  | r :: rs => by
    have ih := wide_all rs
    have h := (wide_rec r r.keys.length (Nat.le_refl _)).1
    have h1 : (lineR true r).length = (lineRTo true r r.keys.length).length + 1 := by simp [lineR]
    unfold linesR at ih ⊢
    rw [List.flatMap_cons, List.length_append, h1]
    simp only [sizeR, extras, extraOf, List.map_cons, List.sum_cons] at ih ⊢
    omega
end Go.Proofs.Qxb6601073a
