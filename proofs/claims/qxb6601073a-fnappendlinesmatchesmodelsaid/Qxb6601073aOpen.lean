import Derived.Test.Qxb6601073aData
import Derived.ProofKit
import Derived.Deep.Strs
namespace Go.Proofs.Qxb6601073a
open Go.RowKit Go.Deep Go.ChangeShapes Go.WideShapes
set_option linter.unusedVariables false

theorem Try.cells37 : Try.prog.cellsOf 37 = 5 := by kernel_rfl
theorem Try.cells9 : Try.prog.cellsOf 9 = 1 := by kernel_rfl
theorem Try.cells4 : Try.prog.cellsOf 4 = 1 := by kernel_rfl
theorem Try.cells5 : Try.prog.cellsOf 5 = 1 := by kernel_rfl
theorem Try.cells35 : Try.prog.cellsOf 35 = 1 := by kernel_rfl
theorem Try.cells26 : Try.prog.cellsOf 26 = 1 := by kernel_rfl

section
variable {H : Type} {enc : TypeId × Value → H} {w : World} {held : Bool}

/-- a []string that came in -/
theorem row_strs {fuel : Nat} {v : Value} {x : DataW H × List MemPlace} (h : DataW.trod enc Try.prog w 0 (fun _ => true) held fuel 35 [v] = some x) :
    ∃ (ss : List ByteArray) (a : Option Addr) (c : Nat), v = .slice a ss.length c ∧ RowAt w 0 (.slice a ss.length c) (strCells ss) ∧ ∀ s ∈ ss, s.size ≤ maxLen := by
  rcases open_strs Try.underlying35 Try.underlying9 Try.cells9 h with ⟨hcs, _⟩ | ⟨a, len, cap, m, Sx, hcs, _, hl, hm, hmm, _, hc⟩
  · simp only [List.cons.injEq, and_true] at hcs
    subst hcs
    exact ⟨[], none, 0, rfl, ⟨by simp [strCells], .inl ⟨rfl, rfl⟩⟩, by simp⟩
  · simp only [List.cons.injEq, and_true] at hcs
    subst hcs
    simp only [if_true] at hmm
    have hll : ((List.range len).map Sx).length = len := by simp
    refine ⟨(List.range len).map Sx, some a, cap, by rw [hll], ⟨by rw [length_strCells, hll]; omega, .inr ⟨a, cap, by rw [length_strCells], fun i u hi => ⟨?_, Nat.zero_le _⟩⟩⟩, ?_⟩
    · have hi' : i < len := by
        have := (List.getElem?_eq_some_iff.1 hi).1
        simpa [strCells] using this
      have : u = .string (Sx i) := by
        simp [strCells, hi'] at hi
        exact hi.symm
      rw [this]
      exact (hc i (by omega)).1
    · intro s hs
      obtain ⟨i, hi, rfl⟩ := List.mem_map.1 hs
      exact (hc i (by have := List.mem_range.1 hi; omega)).2

/-- a []byte that came in -/
theorem row_ints {fuel : Nat} {v : Value} {x : DataW H × List MemPlace} (h : DataW.trod enc Try.prog w 0 (fun _ => true) held fuel 26 [v] = some x) :
    ∃ (zs : List Int) (a : Option Addr) (c : Nat), v = .slice a zs.length c ∧ RowAt w 0 (.slice a zs.length c) (intCells zs) ∧ ∀ z ∈ zs, 0 ≤ z ∧ z ≤ 255 := by
  rcases open_ints Try.underlying26 Try.underlying5 Try.cells5 h with ⟨hcs, _⟩ | ⟨a, len, cap, zs, hcs, _, hl, hm, hz, _, hc, hwf⟩
  · simp only [List.cons.injEq, and_true] at hcs
    subst hcs
    exact ⟨[], none, 0, rfl, ⟨by simp [intCells], .inl ⟨rfl, rfl⟩⟩, by simp⟩
  · simp only [List.cons.injEq, and_true] at hcs
    subst hcs
    simp only [if_true] at hz
    have hll : (zs.take len).length = len := by simp; omega
    refine ⟨zs.take len, some a, cap, by rw [hll], ⟨by rw [length_intCells, hll]; omega, .inr ⟨a, cap, by rw [length_intCells], fun i u hi => ⟨?_, Nat.zero_le _⟩⟩⟩, ?_⟩
    · have hi' : i < len := by
        have := (List.getElem?_eq_some_iff.1 hi).1
        rw [length_intCells, hll] at this; exact this
      have hu := intCells_at (zs := zs.take len) (j := i) (by omega)
      rw [hu] at hi
      injection hi with hi
      rw [← hi, hc i (by omega)]
      simp [List.getD, hi']
    · intro z hz'
      have := hwf z (List.mem_of_mem_take hz')
      simp [Lit.wf, IntKind.min, IntKind.max, IntKind.signed, IntKind.bits] at this
      omega

/-- one record that came in -/
theorem rec_at {fuel : Nat} {b o : Nat} {cs : List Value} {x : DataW H × List MemPlace} (hcs : w.cells? 0 ⟨b, o, none⟩ 5 = some cs) (h : DataW.trod enc Try.prog w 0 (fun _ => true) held fuel 37 cs = some x) :
    ∃ r : Rec, RecAt w 0 b o r ∧ RecWf r := by
  obtain ⟨_, hlen, hcell⟩ := World.cells?_some hcs
  obtain ⟨xs, n, _, _, _, hxl, hf⟩ := DataW.trod_struct Try.underlying37 h
  match cs, hlen with
  | [c0, c1, c2, c3, c4], _ =>
    have hxl' : xs.length = 5 := by simpa using hxl
    match xs, hxl' with
    | [y0, y1, y2, y3, y4], _ =>
      have f0 := hf 0 _ rfl
      have f1 := hf 1 _ rfl
      have f2 := hf 2 _ rfl
      have f3 := hf 3 _ rfl
      have f4 := hf 4 _ rfl
      simp [Try.cells9, Try.cells4, Try.cells35, Try.cells26] at f0 f1 f2 f3 f4
      obtain ⟨s, e0, _, hs⟩ := DataW.trod_string Try.underlying9 f0
      obtain ⟨ba, e1, _⟩ := DataW.trod_bool Try.underlying4 f1
      obtain ⟨ks, ka, kc, rfl, rk, hks⟩ := row_strs f2
      obtain ⟨ts, ta, tc, rfl, rt, hts⟩ := row_strs f3
      obtain ⟨zs, ca, cc, rfl, rc, hzs⟩ := row_ints f4
      simp at e0 e1
      subst e0 e1
      have g : ∀ i, i < 5 → w.cell? ⟨b, o + i, none⟩ = [Value.string s, Value.bool ba, Value.slice ka ks.length kc, Value.slice ta ts.length tc, Value.slice ca zs.length cc][i]? := by
        intro i hi
        have := hcell i hi
        rwa [Addr.add_lit] at this
      exact ⟨⟨s, ba, ks, ts, zs⟩, ⟨ka, kc, ta, tc, ca, cc, Nat.zero_le _, g 0 (by omega), g 1 (by omega), g 2 (by omega), g 3 (by omega), g 4 (by omega), rk, rt, rc⟩, hzs, hs, hks, hts⟩

/-- a []ZRecordReportB1 that came in -/
theorem open_recs {fuel : Nat} {v : Value} {x : DataW H × List MemPlace} (h : DataW.trod enc Try.prog w 0 (fun _ => true) held fuel 22 [v] = some x) :
    ∃ (rs : List Rec) (a : Option Addr) (c : Nat), v = .slice a rs.length c ∧ RecsAt w 0 (.slice a rs.length c) rs ∧ (∀ r ∈ rs, RecWf r) ∧ rs.length ≤ maxLen := by
  rcases open_slice Try.underlying22 h with ⟨hcs, _⟩ | ⟨a, len, cap, m, n, D, Pl, hcs, _, hl, hm, hmm, _, hx⟩
  · simp only [List.cons.injEq, and_true] at hcs
    subst hcs
    exact ⟨[], none, 0, rfl, .inl ⟨rfl, rfl⟩, by simp, by simp⟩
  · simp only [List.cons.injEq, and_true] at hcs
    subst hcs
    simp only [if_true] at hmm
    rw [Try.cells37] at hx
    have hspot : 0 < len → a.spot = none := fun h0 => by
      obtain ⟨cs', h1, _⟩ := hx 0 (by omega)
      have h2 := (World.cells?_some h1).2
      have h3 := h2.2 0 (by omega)
      have h4 : cs'[0]? = some cs'[0] := List.getElem?_eq_getElem (by omega)
      rw [h4] at h3
      simpa [Addr.add] using World.cell?_spot h3
    haveI : Inhabited Rec := ⟨⟨⟨#[]⟩, false, [], [], []⟩⟩
    obtain ⟨R, hR⟩ := choose_lt (α := Rec) (p := fun i r => RecAt w 0 a.block (a.off + i * 5) r ∧ RecWf r) (n := len) (fun i hi => by
      obtain ⟨cs', h1, h2⟩ := hx i (by omega)
      have hs := hspot (by omega)
      obtain ⟨b, o, s⟩ := a
      simp only at hs
      subst hs
      rw [Addr.add_lit] at h1
      exact rec_at h1 h2)
    have hll : ((List.range len).map R).length = len := by simp
    refine ⟨(List.range len).map R, some a, cap, by rw [hll], .inr ⟨a, cap, rfl, fun i r hi => ?_⟩, ?_, by rw [hll]; omega⟩
    · have hi' : i < len := by
        have := (List.getElem?_eq_some_iff.1 hi).1
        rwa [hll] at this
      have : R i = r := by simpa [hi'] using hi
      rw [← this]
      exact ⟨(hR i hi').1, hspot (by omega)⟩
    · intro r hr
      obtain ⟨i, hi, rfl⟩ := List.mem_map.1 hr
      exact (hR i (List.mem_range.1 hi)).2
end
end Go.Proofs.Qxb6601073a
