import Derived.Test.Qxb6601073aStr
namespace Go.Proofs.Qxb6601073a
open Go.RowKit
set_option linter.unusedVariables false

/-- the piece of key j -/
def pieceOf (r : Rec) (j : Nat) : ByteArray :=
  if r.bare = true then shownB (textOf r.texts j) (clsOf r.classes j) else r.keys.getD j ⟨#[]⟩ ++ ⟨#[61]⟩ ++ shownB (textOf r.texts j) (clsOf r.classes j)
def piecesTo (r : Rec) : Nat → List ByteArray
  | 0 => [r.word]
  | j + 1 => if clsOf r.classes j = 0 then piecesTo r j else piecesTo r j ++ [pieceOf r j]
def bytesOf (s : ByteArray) : List UInt8 := s.data.toList
def joinS : List ByteArray → List UInt8
  | [] => []
  | p :: ps => bytesOf p ++ ps.flatMap fun q => 32 :: bytesOf q
def joinD (ps : List ByteArray) : List UInt8 := joinS (ps.dropWhile fun p => p.size == 0)
def modelLine (r : Rec) : List UInt8 := joinD (piecesTo r r.keys.length) ++ [10]
def modelR (rs : List Rec) : List UInt8 := rs.flatMap modelLine
theorem modelR_snoc (rs : List Rec) (r : Rec) : modelR (rs ++ [r]) = modelR rs ++ modelLine r := by simp [modelR]

theorem joinS_snoc (ps : List ByteArray) (p : ByteArray) : joinS (ps ++ [p]) = joinS ps ++ (if ps = [] then [] else [32]) ++ bytesOf p := by
  cases ps with
  | nil => simp [joinS]
  | cons q ps => simp [joinS, List.flatMap_append]
theorem bytesOf_nil {p : ByteArray} : bytesOf p = [] ↔ p.size = 0 := by
  unfold bytesOf; rw [← size_list]; exact List.length_eq_zero_iff.symm
theorem dropWhile_head {ps : List ByteArray} {q : ByteArray} {l : List ByteArray} (h : ps.dropWhile (fun p => p.size == 0) = q :: l) : q.size ≠ 0 := by
  induction ps with
  | nil => simp at h
  | cons a ps ih =>
    rw [List.dropWhile_cons] at h
    split at h
    · exact ih h
    · rename_i h1
      injection h with h2 h3
      subst h2
      simpa using h1
theorem joinD_nil {ps : List ByteArray} : joinD ps = [] ↔ ps.dropWhile (fun p => p.size == 0) = [] := by
  unfold joinD
  cases h : ps.dropWhile (fun p => p.size == 0) with
  | nil => simp [joinS]
  | cons q l =>
    have := dropWhile_head h
    simp only [joinS, List.append_eq_nil_iff, bytesOf_nil]
    constructor
    · intro h; exact absurd h.1 this
    · intro h; cases h
theorem dropWhile_snoc (ps : List ByteArray) (p : ByteArray) : (ps ++ [p]).dropWhile (fun p => p.size == 0) = if ps.dropWhile (fun p => p.size == 0) = [] then [p].dropWhile (fun p => p.size == 0) else ps.dropWhile (fun p => p.size == 0) ++ [p] := by
  induction ps with
  | nil => simp
  | cons a ps ih =>
    rw [List.cons_append, List.dropWhile_cons, List.dropWhile_cons]
    split
    · rw [ih]
    · simp
theorem joinD_snoc (ps : List ByteArray) (p : ByteArray) : joinD (ps ++ [p]) = joinD ps ++ (if joinD ps = [] then [] else [32]) ++ bytesOf p := by
  by_cases h : ps.dropWhile (fun p => p.size == 0) = []
  · have h1 : joinD ps = [] := joinD_nil.2 h
    rw [h1, if_pos rfl]
    unfold joinD
    rw [dropWhile_snoc, if_pos h]
    by_cases hp : p.size = 0
    · have : bytesOf p = [] := bytesOf_nil.2 hp
      simp [hp, joinS, this]
    · simp [hp, joinS]
  · have h1 : joinD ps ≠ [] := fun q => h (joinD_nil.1 q)
    rw [if_neg h1]
    unfold joinD
    rw [dropWhile_snoc, if_neg h, joinS_snoc, if_neg h]

theorem bytes_append (a b : ByteArray) : bytesOf (a ++ b) = bytesOf a ++ bytesOf b := by
  unfold bytesOf; simp [ByteArray.data_append]

theorem join_line (r : Rec) : ∀ j, joinD (piecesTo r j) = lineRTo false r j
  | 0 => by
    show joinD ([] ++ [r.word]) = _
    rw [joinD_snoc]; rfl
  | j + 1 => by
    have ih := join_line r j
    have hb : (r.bare && !false) = r.bare := by simp
    have hv : valAt false r j = (textOf r.texts j, clsOf r.classes j) := by simp [valAt, clsW]
    unfold piecesTo
    show _ = stepL (r.bare && !false) (lineRTo false r j) (r.keys.getD j ⟨#[]⟩) (valAt false r j)
    rw [hb, hv]
    unfold stepL
    by_cases hc : clsOf r.classes j = 0
    · rw [if_pos hc, if_pos hc]; exact ih
    · have e : bytesOf (pieceOf r j) = (if r.bare = true then [] else (r.keys.getD j ⟨#[]⟩).data.toList ++ [61]) ++ (shownB (textOf r.texts j) (clsOf r.classes j)).data.toList := by
        unfold pieceOf
        by_cases hbare : r.bare = true
        · rw [if_pos hbare, if_pos hbare]; rfl
        · rw [if_neg hbare, if_neg hbare, bytes_append, bytes_append]
          simp [bytesOf]
      rw [if_neg hc, if_neg hc, joinD_snoc, ih, e]
      simp only [List.append_assoc]
theorem model_lines (rs : List Rec) : modelR rs = linesR false rs := by
  unfold modelR linesR
  congr 1
  funext r
  unfold modelLine lineR
  rw [join_line]

/-! ### sizes -/
def lenJ (ps : List ByteArray) : Nat := (ps.map (·.size)).sum + ps.length
theorem lenJ_snoc (ps : List ByteArray) (p : ByteArray) : lenJ (ps ++ [p]) = lenJ ps + p.size + 1 := by simp [lenJ]; omega
theorem joinS_le (ps : List ByteArray) : (joinS ps).length ≤ lenJ ps := by
  cases ps with
  | nil => simp [joinS, lenJ]
  | cons p ps =>
    unfold joinS
    rw [List.length_append]
    have h1 : (bytesOf p).length = p.size := size_list p
    have h2 : ∀ l : List ByteArray, (l.flatMap fun q => 32 :: bytesOf q).length = lenJ l := by
      intro l
      induction l with
      | nil => simp [lenJ]
      | cons q l ih =>
        rw [List.flatMap_cons, List.length_append, ih]
        simp only [lenJ, List.map_cons, List.sum_cons, List.length_cons]
        have : (bytesOf q).length = q.size := size_list q
        omega
    rw [h1, h2]
    simp only [lenJ, List.map_cons, List.sum_cons, List.length_cons]
    omega
theorem lenJ_take (ps : List ByteArray) (m : Nat) : lenJ (ps.take m) ≤ lenJ ps := by
  induction ps generalizing m with
  | nil => simp [lenJ]
  | cons p ps ih =>
    cases m with
    | zero => simp [lenJ]
    | succ m =>
      have := ih m
      simp only [lenJ, List.take_succ_cons, List.map_cons, List.sum_cons, List.length_cons] at this ⊢
      omega
theorem lenJ_drop (ps : List ByteArray) (m : Nat) : lenJ (ps.drop m) ≤ lenJ ps := by
  induction ps generalizing m with
  | nil => simp [lenJ]
  | cons p ps ih =>
    cases m with
    | zero => simp
    | succ m =>
      have := ih m
      simp only [lenJ, List.drop_succ_cons, List.map_cons, List.sum_cons, List.length_cons] at this ⊢
      omega
theorem size_piece (r : Rec) (j : Nat) : (pieceOf r j).size ≤ (r.keys.getD j ⟨#[]⟩).size + (shownB (textOf r.texts j) (clsOf r.classes j)).size + 1 := by
  unfold pieceOf
  split
  · omega
  · rw [ByteArray.size_append, ByteArray.size_append]
    show _ + 1 + _ ≤ _
    omega
theorem lenJ_pieces (r : Rec) : ∀ j, j ≤ r.keys.length → lenJ (piecesTo r j) ≤ sizeRTo false r j
  | 0, _ => by simp [piecesTo, lenJ, sizeRTo]
  | j + 1, hj => by
    have ih := lenJ_pieces r j (by omega)
    have h1 := size_piece r j
    have hv : valAt false r j = (textOf r.texts j, clsOf r.classes j) := by simp [valAt, clsW]
    unfold piecesTo sizeRTo
    rw [hv]
    simp only
    split
    · omega
    · rw [lenJ_snoc]; omega
theorem length_pieces (r : Rec) : ∀ j, 1 ≤ (piecesTo r j).length ∧ (piecesTo r j).length ≤ j + 1
  | 0 => by simp [piecesTo]
  | j + 1 => by
    have ih := length_pieces r j
    unfold piecesTo
    split
    · omega
    · rw [List.length_append]; simp; omega

/-- where the first piece that is not empty stands -/
theorem drop_first {ps : List ByteArray} {f : Nat} (h1 : ∀ i, i < f → (ps.getD i ⟨#[]⟩).size = 0) (hf : f ≤ ps.length) (h2 : f < ps.length → (ps.getD f ⟨#[]⟩).size ≠ 0) : ps.dropWhile (fun p => p.size == 0) = ps.drop f := by
  induction ps generalizing f with
  | nil => simp
  | cons a ps ih =>
    cases f with
    | zero =>
      have := h2 (by simp)
      simp only [List.getD_cons_zero] at this
      rw [List.dropWhile_cons, if_neg (by simpa using this)]; simp
    | succ f =>
      have h0 := h1 0 (by omega)
      simp only [List.getD_cons_zero] at h0
      rw [List.dropWhile_cons, if_pos (by simpa using h0), List.drop_succ_cons]
      exact ih (fun i hi => by have := h1 (i + 1) (by omega); simpa using this) (by simpa using hf) (fun h => by have := h2 (by simpa using h); simpa using this)
end Go.Proofs.Qxb6601073a
