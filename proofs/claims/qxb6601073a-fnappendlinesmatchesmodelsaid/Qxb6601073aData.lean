import Derived.Test.Qxb6601073aRec
namespace Go.Proofs.Qxb6601073a
open Go.RowKit
set_option linter.unusedVariables false

/-- a record of the input, as plain data -/
structure Rec where
  word : ByteArray
  bare : Bool
  keys : List ByteArray
  texts : List ByteArray
  classes : List Int

/-- a record of a report: its kind, and where its values start -/
structure PRec where
  word : ByteArray
  bare : Bool
  keys : List ByteArray
  first : Nat

def clsW (wi : Bool) (c : Int) : Int := if wi = true ∧ c = 0 then 1 else c
def valAt (wi : Bool) (r : Rec) (j : Nat) : ByteArray × Int := (textOf r.texts j, clsW wi (clsOf r.classes j))
def vals (wi : Bool) (r : Rec) : List (ByteArray × Int) := (List.range r.keys.length).map (valAt wi r)
def vsOf (wi : Bool) (rs : List Rec) : List (ByteArray × Int) := rs.flatMap (vals wi)
def psOf (wi : Bool) : Nat → List Rec → List PRec
  | _, [] => []
  | f, r :: rs => ⟨r.word, r.bare && !wi, r.keys, f⟩ :: psOf wi (f + r.keys.length) rs

theorem length_vals (wi : Bool) (r : Rec) : (vals wi r).length = r.keys.length := by simp [vals]
theorem psOf_snoc (wi : Bool) (r : Rec) : ∀ (rs : List Rec) (f : Nat), psOf wi f (rs ++ [r]) = psOf wi f rs ++ [⟨r.word, r.bare && !wi, r.keys, f + (vsOf wi rs).length⟩]
  | [], f => by simp [psOf, vsOf]
  | a :: rs, f => by
    simp only [List.cons_append, psOf, psOf_snoc wi r rs, vsOf, List.flatMap_cons, List.length_append, length_vals, Nat.add_assoc]
theorem vsOf_snoc (wi : Bool) (rs : List Rec) (r : Rec) : vsOf wi (rs ++ [r]) = vsOf wi rs ++ vals wi r := by simp [vsOf]
theorem vals_take_succ (wi : Bool) (r : Rec) {j : Nat} (h : j < r.keys.length) : (vals wi r).take (j + 1) = (vals wi r).take j ++ [valAt wi r j] := by
  rw [List.take_succ_eq_append_getElem (by simpa [vals] using h)]
  simp [vals]
theorem length_psOf (wi : Bool) : ∀ (rs : List Rec) (f : Nat), (psOf wi f rs).length = rs.length
  | [], _ => rfl
  | a :: rs, f => by simp [psOf, length_psOf wi rs]

/-! ### as cells -/
def recCells (l : List (Nat × PRec)) : List Value := l.flatMap fun kp => [.pointer (some ⟨kp.1, 0, none⟩), .int .i64 kp.2.first]
def valCells (l : List (ByteArray × Int)) : List Value := l.flatMap fun tc => [.string tc.1, .int .u8 tc.2]
theorem recCells_snoc (l : List (Nat × PRec)) (kp : Nat × PRec) : recCells (l ++ [kp]) = recCells l ++ [.pointer (some ⟨kp.1, 0, none⟩), .int .i64 kp.2.first] := by simp [recCells]
theorem valCells_snoc (l : List (ByteArray × Int)) (tc : ByteArray × Int) : valCells (l ++ [tc]) = valCells l ++ [.string tc.1, .int .u8 tc.2] := by simp [valCells]
theorem valCells_append (l k : List (ByteArray × Int)) : valCells (l ++ k) = valCells l ++ valCells k := by simp [valCells]

theorem pair_at {α : Type} (f g : α → Value) : ∀ (l : List α) (i : Nat) (x : α), l[i]? = some x → (l.flatMap fun x => [f x, g x])[i * 2]? = some (f x) ∧ (l.flatMap fun x => [f x, g x])[i * 2 + 1]? = some (g x)
  | [], i, x, h => by simp at h
  | a :: l, 0, x, h => by simp at h; subst h; simp
  | a :: l, i + 1, x, h => by
    have := pair_at f g l i x (by simpa using h)
    rw [List.flatMap_cons, show (i + 1) * 2 = (i * 2) + 1 + 1 by omega]
    simpa using this

/-- one kind of the report -/
def KindAt (w : World) (B rb : Nat) (kp : Nat × PRec) : Prop :=
  ∃ (sa : Option Addr) (sc : Nat), B ≤ kp.1 ∧ w.heap[kp.1]? = some (.cells #[.pointer (some ⟨rb, 0, none⟩), .string ⟨#[]⟩, .string kp.2.word, .slice sa kp.2.keys.length sc, .bool kp.2.bare] 60 (0, 0)) ∧
    w.ownsRow B 9 1 (.slice sa kp.2.keys.length sc) kp.2.keys.length (strCells kp.2.keys)
theorem KindAt.frT {w w' : World} {B rb : Nat} {kp : Nat × PRec} (h : KindAt w B rb kp) (hf : FrT w w') : KindAt w' B rb kp := by
  obtain ⟨sa, sc, hB, hb, ho⟩ := h
  exact ⟨sa, sc, hB, hf _ _ _ _ hb (by decide) (by decide) (by decide) (by decide), owns_frT ho hf (by decide) (by decide) (by decide) (by decide)⟩

/-- one record of the input, at a place of memory -/
def RecAt (w : World) (B b o : Nat) (r : Rec) : Prop :=
  ∃ (ka : Option Addr) (kc : Nat) (ta : Option Addr) (tc : Nat) (ca : Option Addr) (cc : Nat), B ≤ b ∧
    w.cell? ⟨b, o, none⟩ = some (.string r.word) ∧ w.cell? ⟨b, o + 1, none⟩ = some (.bool r.bare) ∧ w.cell? ⟨b, o + 2, none⟩ = some (.slice ka r.keys.length kc) ∧
    w.cell? ⟨b, o + 3, none⟩ = some (.slice ta r.texts.length tc) ∧ w.cell? ⟨b, o + 4, none⟩ = some (.slice ca r.classes.length cc) ∧
    RowAt w B (.slice ka r.keys.length kc) (strCells r.keys) ∧ RowAt w B (.slice ta r.texts.length tc) (strCells r.texts) ∧ RowAt w B (.slice ca r.classes.length cc) (intCells r.classes)
theorem RecAt.up {w w' : World} {B b o : Nat} {r : Rec} (h : RecAt w B b o r) (hu : Up B w w') : RecAt w' B b o r := by
  obtain ⟨ka, kc, ta, tc, ca, cc, hB, h0, h1, h2, h3, h4, hk, ht, hc⟩ := h
  exact ⟨ka, kc, ta, tc, ca, cc, hB, hu _ _ hB h0, hu _ _ hB h1, hu _ _ hB h2, hu _ _ hB h3, hu _ _ hB h4, hk.up hu, ht.up hu, hc.up hu⟩

/-- a slice of records -/
def RecsAt (w : World) (B : Nat) (v : Value) (rs : List Rec) : Prop :=
  (v = .slice none 0 0 ∧ rs = []) ∨ ∃ x c, v = .slice (some x) rs.length c ∧ ∀ i r, rs[i]? = some r → RecAt w B x.block (x.off + i * 5) r ∧ x.spot = none
theorem RecsAt.up {w w' : World} {B : Nat} {v : Value} {rs : List Rec} (h : RecsAt w B v rs) (hu : Up B w w') : RecsAt w' B v rs := by
  rcases h with h | ⟨x, c, hv, hx⟩
  · exact .inl h
  · exact .inr ⟨x, c, hv, fun i r hi => ⟨(hx i r hi).1.up hu, (hx i r hi).2⟩⟩
theorem RecsAt.form {w : World} {B : Nat} {v : Value} {rs : List Rec} (h : RecsAt w B v rs) : ∃ a c, v = .slice a rs.length c := by
  rcases h with ⟨hv, rfl⟩ | ⟨x, c, hv, hx⟩
  · exact ⟨none, 0, hv⟩
  · exact ⟨some x, c, hv⟩
theorem RecsAt.pos {w : World} {B : Nat} {a : Option Addr} {n c : Nat} {rs : List Rec} (h : RecsAt w B (.slice a n c) rs) {i : Nat} (hi : i < rs.length) :
    ∃ b o, a = some ⟨b, o, none⟩ ∧ ∀ j r, rs[j]? = some r → RecAt w B b (o + j * 5) r := by
  rcases h with ⟨h, rfl⟩ | ⟨x, c, hv, hx⟩
  · simp at hi
  · obtain ⟨b, o, s⟩ := x
    have h0 := (hx 0 rs[0] (List.getElem?_eq_getElem (by omega))).2
    simp only at h0
    subst h0
    injection hv with h1 h2 h3
    exact ⟨b, o, h1, fun j r hj => (hx j r hj).1⟩

/-- what is known of a record's numbers -/
def RecWf (r : Rec) : Prop := (∀ z ∈ r.classes, 0 ≤ z ∧ z ≤ 255) ∧ r.word.size ≤ maxLen ∧ (∀ s ∈ r.keys, s.size ≤ maxLen) ∧ (∀ s ∈ r.texts, s.size ≤ maxLen)

theorem strCells_one (ss : List ByteArray) : ∀ u ∈ strCells ss, u.oneCell' = true := by
  intro u hu; obtain ⟨s, _, rfl⟩ := List.mem_map.1 hu; rfl
theorem intCells_one (zs : List Int) : ∀ u ∈ intCells zs, u.oneCell' = true := by
  intro u hu; obtain ⟨s, _, rfl⟩ := List.mem_map.1 hu; rfl
theorem length_strCells (ss : List ByteArray) : (strCells ss).length = ss.length := by simp [strCells]
theorem length_intCells (zs : List Int) : (intCells zs).length = zs.length := by simp [intCells]

/-- from an owned row to a row that is read -/
theorem RowAt.ofOwns {w : World} {B e n : Nat} {v : Value} {xs : List Value} (h : w.ownsRow B e 1 v n xs) (hm : n ≤ maxLen) : RowAt w B v xs := by
  have hl : xs.length = n := by have := h.1; omega
  refine ⟨by omega, ?_⟩
  rcases h.2 with ⟨rfl, rfl⟩ | ⟨g, cap, cur, hv, hb, hh, _⟩
  · exact .inl ⟨rfl, List.eq_nil_of_length_eq_zero hl⟩
  · subst hv
    exact .inr ⟨⟨g, 0, none⟩, cap, by rw [hl], fun i u hi => ⟨h.cells (g := g) rfl i u hi, hb⟩⟩
end Go.Proofs.Qxb6601073a
