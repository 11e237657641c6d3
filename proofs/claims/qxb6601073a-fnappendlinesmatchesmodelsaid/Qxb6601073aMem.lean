import Derived.WalkKit
import Derived.WalkSpells
import Derived.WalkLawsBesides
import Derived.Deep.AppendSrc
import Derived.Maps.AppendAt
import Derived.Laws.CopyOwn
namespace Go.Proofs.Qxb6601073a
open Go.RowKit
set_option linter.unusedVariables false

/-- every cell from block B on is as it was -/
def Up (B : Nat) (w w' : World) : Prop := ∀ a u, B ≤ a.block → w.cell? a = some u → w'.cell? a = some u

theorem Up.refl (B : Nat) (w : World) : Up B w w := fun _ _ _ h => h
theorem Up.trans {B : Nat} {a b c : World} (h : Up B a b) (k : Up B b c) : Up B a c := fun x u hb hx => k x u hb (h x u hb hx)
theorem Up.mono {B B' : Nat} {w w' : World} (h : Up B w w') (hb : B ≤ B') : Up B' w w' := fun a u hB hx => h a u (Nat.le_trans hb hB) hx
theorem Up.ofBelow {w w' : World} (h : Below w.heap.size w w') : Up 0 w w' := fun a _ _ hx => (h.cell (World.block_lt_of_cell? w a hx)).trans hx
theorem Up.alloc (B : Nat) (w : World) (o : Obj) : Up B w (w.alloc o) := (Up.ofBelow ((Below.refl _ w).alloc (Nat.le_refl _) o)).mono (Nat.zero_le _)

/-- v is a slice whose elements (one cell each) are xs; it lies from block B on -/
def RowAt (w : World) (B : Nat) (v : Value) (xs : List Value) : Prop :=
  xs.length ≤ maxLen ∧ ((v = .slice none 0 0 ∧ xs = []) ∨ ∃ x c, v = .slice (some x) xs.length c ∧ ∀ i u, xs[i]? = some u → w.cell? (x.add i) = some u ∧ B ≤ x.block)

theorem RowAt.up {w w' : World} {B : Nat} {v : Value} {xs : List Value} (h : RowAt w B v xs) (hu : Up B w w') : RowAt w' B v xs := by
  refine ⟨h.1, ?_⟩
  rcases h.2 with h | ⟨x, c, hv, hx⟩
  · exact .inl h
  · refine .inr ⟨x, c, hv, fun i u hi => ⟨hu _ _ ?_ (hx i u hi).1, (hx i u hi).2⟩⟩
    have := (hx i u hi).2
    unfold Addr.add; split <;> exact this

theorem RowAt.lower {w : World} {B B' : Nat} {v : Value} {xs : List Value} (h : RowAt w B v xs) (hb : B' ≤ B) : RowAt w B' v xs := by
  refine ⟨h.1, ?_⟩
  rcases h.2 with h | ⟨x, c, hv, hx⟩
  · exact .inl h
  · exact .inr ⟨x, c, hv, fun i u hi => ⟨(hx i u hi).1, Nat.le_trans hb (hx i u hi).2⟩⟩

/-- for a walk: its form, and each cell at a plain address -/
theorem RowAt.form {w : World} {B : Nat} {v : Value} {xs : List Value} (h : RowAt w B v xs) :
    ∃ a c, v = .slice a xs.length c := by
  rcases h.2 with ⟨hv, rfl⟩ | ⟨x, c, hv, hx⟩
  · exact ⟨none, 0, hv⟩
  · exact ⟨some x, c, hv⟩

theorem RowAt.pos {w : World} {B : Nat} {a : Option Addr} {n c : Nat} {xs : List Value} (h : RowAt w B (.slice a n c) xs) {i : Nat} (hi : i < xs.length) :
    ∃ b o, a = some ⟨b, o, none⟩ ∧ B ≤ b ∧ ∀ j u, xs[j]? = some u → w.cell? ⟨b, o + j, none⟩ = some u := by
  rcases h.2 with ⟨h, rfl⟩ | ⟨x, c, hv, hx⟩
  · simp at hi
  · obtain ⟨b, o, s⟩ := x
    have h0 := (hx 0 xs[0] (List.getElem?_eq_getElem (by omega)))
    have hs : s = none := by simpa [Addr.add] using World.cell?_spot h0.1
    subst hs
    injection hv with h1 h2 h3
    refine ⟨b, o, h1, h0.2, fun j u hj => ?_⟩
    have := (hx j u hj).1
    rwa [Addr.add_lit] at this

/-- WHAT AN append OR A CALLEE LEAVES: all old blocks but v's own are as they were; v' lies in v's own block or in a new one -/
structure Grew (w w' : World) (v v' : Value) : Prop where
  grown : w.grownBy w' v.ownBlock
  place : v'.ownBlock = v.ownBlock ∨ ∃ g, v'.ownBlock = some g ∧ w.heap.size ≤ g

theorem Grew.refl (w : World) (v : Value) : Grew w w v v := ⟨⟨rfl, rfl, rfl, Nat.le_refl _, fun _ _ _ => rfl⟩, .inl rfl⟩
theorem Grew.trans {a b c : World} {u v x : Value} (h : Grew a b u v) (k : Grew b c v x) : Grew a c u x := by
  refine ⟨⟨k.grown.os.trans h.grown.os, k.grown.tape.trans h.grown.tape, k.grown.output.trans h.grown.output, Nat.le_trans h.grown.size k.grown.size, fun i hi hne => ?_⟩, ?_⟩
  · refine (k.grown.block i (Nat.lt_of_lt_of_le hi h.grown.size) ?_).trans (h.grown.block i hi hne)
    rcases h.place with e | ⟨g, e, hg⟩
    · rw [e]; exact hne
    · rw [e]; intro e'; injection e' with e'; omega
  · rcases k.place with e | ⟨g, e, hg⟩
    · rcases h.place with e' | ⟨g, e', hg⟩
      · exact .inl (e.trans e')
      · exact .inr ⟨g, e.trans e', hg⟩
    · exact .inr ⟨g, e, Nat.le_trans h.grown.size hg⟩
theorem Grew.ofBelow {w w' : World} (h : Below w.heap.size w w') (v : Value) : Grew w w' v v := ⟨⟨h.os, h.tape, h.output, h.size, fun k hk _ => h.block k hk⟩, .inl rfl⟩
theorem Grew.alloc (w : World) (o : Obj) (v : Value) : Grew w (w.alloc o) v v := Grew.ofBelow ((Below.refl _ w).alloc (Nat.le_refl _) o) v
theorem Grew.drew (w : World) (v : Value) : Grew w w.drew v v := Grew.ofBelow ((Below.refl _ w).drew) v
theorem Grew.below {B : Nat} {w0 w w' : World} {v v' : Value} (h : Grew w w' v v') (hb : Below B w0 w) (hB : B ≤ w.heap.size) (hv : ∀ k, v.ownBlock = some k → B ≤ k) : Below B w0 w' :=
  hb.grown h.grown hB hv
theorem Grew.up {B : Nat} {w w' : World} {v v' : Value} (h : Grew w w' v v') (hv : ∀ k, v.ownBlock = some k → k < B) : Up B w w' := fun a u hb hx =>
  h.grown.cell hx (fun e => by have := hv _ e.symm; omega)

section
variable {P : Program} (w : World)

/-- append ONTO A ROW OF THE CALL's OWN, FROM WHATEVER SOURCE -/
theorem run_append_src_own (base : Nat) (t tx ty e : TypeId) (i : TypeInfo) (z : Value) (size bytes : Nat) (ht : P.underlying t = some (.slice e)) (hi : P.info? e = some i) (hz : i.zero = some z)
    (hsize : i.size = size) (hby : i.bytes = bytes) (hzs : z.cells.size = size) (hsz : 0 < size)
    (v : Value) (n : Nat) (xs : List Value) (hown : w.ownsRow base e size v n xs)
    (x : Value) (m : Nat) (news : List Value) (hs : Src P size tx x m news w)
    (h63 : n + m ≤ maxLen) (hbytes : (n + m) * bytes ≤ 140737488355328) (hbase : base ≤ w.heap.size) :
    ∃ a' c' w', (Builtin.append_ #[t, tx] ty #[v, x]).run P w = .ok (.slice a' (n + m) c') w' ∧ w'.ownsRow base e size (.slice a' (n + m) c') (n + m) (xs ++ news) ∧ Grew w w' v (.slice a' (n + m) c') := by
  subst hsize
  subst hby
  have hsmall : n + m ≤ 9223372036854775807 := by simp only [maxLen] at h63; omega
  have hl := hs.newsLen
  have hlen : (xs ++ news).length = (n + m) * i.size := by rw [List.length_append, hown.1, hl, Nat.add_mul]
  have grown : ∀ (old : Nat), old < n + m → ∀ (row : Option Nat),
      (w.drew.alloc (.cells ((xs ++ news).toArray ++ Builtin.zeroCells z.cells (grownCap w (n + m) old e - (n + m))) e)).ownsRow base e i.size
        (.slice (some ⟨w.heap.size, 0, none⟩) (n + m) (grownCap w (n + m) old e)) (n + m) (xs ++ news) ∧
      w.grownBy (w.drew.alloc (.cells ((xs ++ news).toArray ++ Builtin.zeroCells z.cells (grownCap w (n + m) old e - (n + m))) e)) row := by
    intro old ho row
    have hge := grownCap_ge w (n + m) old e
    have hcm : grownCap w (n + m) old e ≤ maxLen := grownCap_le_maxLen w (n + m) old e h63
    refine ⟨⟨hlen, .inr ⟨w.heap.size, _, _, rfl, hbase, heap_alloc_new w.drew _, hge, hcm, ?_, ?_⟩⟩, ⟨rfl, rfl, rfl, by simp, fun k hk _ => Below.heap_alloc w.drew _ k hk⟩⟩
    · rw [Array.size_append, List.size_toArray, hlen, size_zeroCells, hzs, ← Nat.add_mul]
      congr 1
      omega
    · rw [Array.toList_append, ← hlen]
      exact List.take_left
  rcases hown.2 with ⟨rfl, rfl⟩ | ⟨g, cap, cur, rfl, hbg, hg, hnc, hcm, hcs, htake⟩
  · have hx : xs = [] := List.eq_nil_of_length_eq_zero (by simpa using hown.1)
    subst hx
    by_cases hm : m = 0
    · subst hm
      have hn : news = [] := List.eq_nil_of_length_eq_zero (by simpa using hl)
      subst hn
      refine ⟨none, 0, w, ?_, World.ownsRow_nil w base e i.size, Grew.refl _ _⟩
      rcases hs.kind with ⟨e', hk⟩ | hk <;> simp [Builtin.append_, run_underlying ht, run_underlying hk, sizeOf, typeInfo, hi, hs.len, hs.cells]
    · have hr := run_append_grow_src (P := P) w t tx ty e i z ht hi hz none 0 0 [] (by simp [Builtin.firstCells]) x m news hs (by omega) (by omega) (growslice_fits (by omega) hbytes)
      have hgr := grown 0 (by omega) (Value.ownBlock (.slice none 0 0))
      exact ⟨_, _, _, hr, hgr.1, hgr.2, .inr ⟨_, rfl, Nat.le_refl _⟩⟩
  · by_cases hroom : n + m ≤ cap
    · have hfit : n * i.size + news.length ≤ cur.size := by rw [hl, hcs, ← Nat.add_mul]; exact Nat.mul_le_mul_right _ hroom
      have hst := run_storeCells_at P g (n * i.size) e news 0 cur w hg (by simpa using hfit) hs.one
      simp only [Nat.add_zero] at hst
      have hr : (Builtin.append_ #[t, tx] ty #[.slice (some ⟨g, 0, none⟩) n cap, x]).run P w =
          .ok (.slice (some ⟨g, 0, none⟩) (n + m) cap) (w.setRow g (cur.toList.take (n * i.size) ++ news ++ cur.toList.drop (n * i.size + news.length)).toArray) := by
        rcases hs.kind with ⟨e', hk⟩ | hk <;> simp [Builtin.append_, run_underlying ht, run_underlying hk, sizeOf, typeInfo, hi, hs.len, hroom, hs.cells, Addr.add_lit, hst]
      refine ⟨_, _, _, hr, ⟨hlen, .inr ⟨g, cap, _, rfl, hbg, setRow_heap w g cur _ e _ hg, hroom, hcm, ?_, ?_⟩⟩, ⟨rfl, rfl, rfl, by simp, fun k _ hk => setRow_other w g k _ (fun e => hk (by simp [Value.ownBlock, e]))⟩, Or.inl rfl⟩
      · simp only [List.size_toArray, List.length_append, List.length_take, List.length_drop, Array.length_toList]
        omega
      · rw [htake, ← hlen]
        exact List.take_left
    · have holds : ∀ j u, xs[j]? = some u → w.drew.cell? ((⟨g, 0, none⟩ : Addr).add j) = some u := by simpa using hown.cells (g := g) rfl
      have hr := run_append_grow_src (P := P) w t tx ty e i z ht hi hz (some ⟨g, 0, none⟩) n cap xs (run_firstCells_some w.drew i.size n ⟨g, 0, none⟩ n cap xs hown.1 holds) x m news hs (by omega) (by omega) (growslice_fits (by omega) hbytes)
      have hgr := grown cap (by omega) (Value.ownBlock (.slice (some ⟨g, 0, none⟩) n cap))
      exact ⟨_, _, _, hr, hgr.1, hgr.2, .inr ⟨_, rfl, Nat.le_refl _⟩⟩

theorem wpList_append_src {ops : Array Oper} {rest : List Oper} {o : Oper} {a : Act} {Q : Exit → Act → World → Prop} (hgd : o.guard = none) (s xo : Operand) (t tx : TypeId)
    (ho : o.op = .call { callee := .builtin .append, args := #[s, xo], argTypes := #[t, tx] })
    (base : Nat) (e : TypeId) (i : TypeInfo) (z : Value) (size bytes : Nat) (ht : P.underlying t = some (.slice e)) (hi : P.info? e = some i) (hz : i.zero = some z)
    (hsize : i.size = size) (hby : i.bytes = bytes) (hzs : z.cells.size = size) (hsz : 0 < size)
    (v : Value) (n : Nat) (xs : List Value) (hv : a.eval s = v) (hown : w.ownsRow base e size v n xs)
    (x : Value) (m : Nat) (news : List Value) (hx : a.eval xo = x) (hs : Src P size tx x m news w)
    (h63 : n + m ≤ maxLen) (hbytes : (n + m) * bytes ≤ 140737488355328) (hbase : base ≤ w.heap.size)
    (h : ∀ a' c' w', w'.ownsRow base e size (.slice a' (n + m) c') (n + m) (xs ++ news) → Grew w w' v (.slice a' (n + m) c') → wpList P ops Q rest (a.put o.dst (.slice a' (n + m) c')) w') :
    wpList P ops Q (o :: rest) a w := by
  refine wpList_plain hgd fun K hK => ?_
  obtain ⟨a', c', w', hr, h2, h3⟩ := run_append_src_own (P := P) w base t tx o.type e i z size bytes ht hi hz hsize hby hzs hsz v n xs hown x m news hs h63 hbytes hbase
  unfold Oper.wp execOp
  simp only [ho, resolve, invoke, builtin, Sem.run_bind, Sem.run_pure, Result.andThen_ok, List.map_toArray, List.map_cons, List.map_nil, hv, hx, hr]
  exact hK _ _ (h a' c' w' h2 h3)
end

end Go.Proofs.Qxb6601073a
