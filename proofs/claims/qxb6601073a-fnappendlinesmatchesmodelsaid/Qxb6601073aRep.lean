import Derived.Test.Qxb6601073aLeaf2
namespace Go.Proofs.Qxb6601073a
open Go.RowKit
set_option linter.unusedVariables false

theorem Try.info43 : (Try.prog.info? 43).map (fun i => (i.zero, i.size, i.bytes)) = some (some (.pointer none), 1, 8) := by kernel_rfl
theorem Try.info58 : (Try.prog.info? 58).map (fun i => (i.zero, i.size, i.bytes)) = some (some (.agg #[.pointer none, .int .i64 0]), 2, 16) := by kernel_rfl
theorem Try.info63 : (Try.prog.info? 63).map (fun i => (i.zero, i.size, i.bytes)) = some (some (.agg #[.string ⟨#[]⟩, .int .u8 0]), 2, 24) := by kernel_rfl

theorem hid {p : Prop} (h : p) : Hid p := h

theorem block_setCell {w : World} {b o : Nat} {c : Array Value} {e : TypeId} {f : Nat × Nat} (h : w.heap[b]? = some (.cells c e f)) (u : Value) :
    (w.setCell ⟨b, o, none⟩ u).heap[b]? = some (.cells (c.setIfInBounds o u) e f) := by
  have hlt := lt_of_block h
  have h' : w.heap[b] = .cells c e f := by simpa [Array.getElem?_eq_getElem hlt] using h
  show (w.heap.modify b _)[b]? = _
  rw [Array.getElem?_eq_getElem (by simpa using hlt), Array.getElem_modify_self, h']
  rfl

/-- nothing but blocks of the report's own make (its struct, its three rows) has turned -/
def FrT (w w' : World) : Prop := ∀ (k : Nat) (c : Array Value) (e : TypeId) (f : Nat × Nat), w.heap[k]? = some (Obj.cells c e f) → e ≠ 56 → e ≠ 43 → e ≠ 58 → e ≠ 63 → w'.heap[k]? = some (Obj.cells c e f)
theorem FrT.refl (w : World) : FrT w w := fun _ _ _ _ h _ _ _ _ => h
theorem FrT.trans {a b c : World} (h : FrT a b) (k : FrT b c) : FrT a c := fun i x e f hx h1 h2 h3 h4 => k i x e f (h i x e f hx h1 h2 h3 h4) h1 h2 h3 h4
theorem FrT.ofBelow {w w' : World} (h : Below w.heap.size w w') : FrT w w' := fun k _ _ _ hx _ _ _ _ => (h.block k (lt_of_block hx)).trans hx

theorem owns_type {w : World} {B e size n : Nat} {v : Value} {xs : List Value} (h : w.ownsRow B e size v n xs) {k : Nat} (hk : v.ownBlock = some k) : ∃ c, w.heap[k]? = some (.cells c e (0, 0)) := by
  rcases h.2 with ⟨rfl, _⟩ | ⟨g, cap, cur, rfl, hb, hh, _⟩
  · simp [Value.ownBlock] at hk
  · simp [Value.ownBlock] at hk
    subst hk
    exact ⟨_, hh⟩

theorem owns_frT {w w' : World} {B e size n : Nat} {v : Value} {xs : List Value} (h : w.ownsRow B e size v n xs) (hf : FrT w w') (h1 : e ≠ 56) (h2 : e ≠ 43) (h3 : e ≠ 58) (h4 : e ≠ 63) : w'.ownsRow B e size v n xs := by
  refine ⟨h.1, ?_⟩
  rcases h.2 with h | ⟨g, cap, cur, hv, hb, hh, r⟩
  · exact .inl h
  · exact .inr ⟨g, cap, cur, hv, hb, hf _ _ _ _ hh h1 h2 h3 h4, r⟩

/-- the report that is being built -/
def RepB (w : World) (B rb kn : Nat) (rc : List Value) (rn : Nat) (vc : List Value) (vn : Nat) : Prop :=
  ∃ (ka : Option Addr) (kcap : Nat) (kc : List Value) (ra : Option Addr) (rcap : Nat) (va : Option Addr) (vcap : Nat),
    B ≤ rb ∧ w.heap[rb]? = some (.cells #[.slice ka kn kcap, .slice none 0 0, .slice ra rn rcap, .slice va vn vcap] 56 (0, 0)) ∧
    w.ownsRow B 43 1 (.slice ka kn kcap) kn kc ∧ w.ownsRow B 58 2 (.slice ra rn rcap) rn rc ∧ w.ownsRow B 63 2 (.slice va vn vcap) vn vc

theorem owns_grew {w w1 : World} {B B' e e' size size' n n' : Nat} {v v1 u : Value} {xs ys : List Value} (h : w.ownsRow B e size v n xs) (k : w.ownsRow B' e' size' u n' ys) (hg : Grew w w1 v v1) (hne : e ≠ e') : w1.ownsRow B' e' size' u n' ys := by
  refine k.kept hg.grown ?_
  cases hu : u.ownBlock with
  | none => exact .inl rfl
  | some g =>
    right
    intro e2
    obtain ⟨c1, h1⟩ := owns_type k hu
    obtain ⟨c2, h2⟩ := owns_type h e2.symm
    rw [h1] at h2; injection h2 with h2; injection h2 with _ h2 _; exact hne h2.symm

theorem owns_ne {w : World} {B e size n rb : Nat} {v : Value} {xs : List Value} {c : Array Value} (h : w.ownsRow B e size v n xs) (hr : w.heap[rb]? = some (.cells c 56 (0, 0))) (he : e ≠ 56) : v.ownBlock ≠ some rb := by
  intro e2
  obtain ⟨c1, h1⟩ := owns_type h e2
  rw [hr] at h1; injection h1 with h1; injection h1 with _ h1 _; exact he h1.symm

/-- the report's block in the world behind an append onto one of its rows -/
theorem rep_block {w w1 : World} {B e size n rb : Nat} {v v1 : Value} {xs : List Value} {c : Array Value} (h : w.ownsRow B e size v n xs) (hg : Grew w w1 v v1) (hr : w.heap[rb]? = some (.cells c 56 (0, 0))) (he : e ≠ 56) :
    w1.heap[rb]? = some (.cells c 56 (0, 0)) :=
  (hg.grown.block rb (lt_of_block hr) (fun e2 => owns_ne h hr he e2.symm)).trans hr

theorem rep_cells {w : World} {rb : Nat} {a b c d : Value} (hr : w.heap[rb]? = some (.cells #[a, b, c, d] 56 (0, 0))) :
    w.cell? ⟨rb, 0, none⟩ = some a ∧ w.cell? ⟨rb, 1, none⟩ = some b ∧ w.cell? ⟨rb, 2, none⟩ = some c ∧ w.cell? ⟨rb, 3, none⟩ = some d ∧
    (∀ o, w.frozen? ⟨rb, o, none⟩ = false) := by
  refine ⟨by simp [World.cell?, hr], by simp [World.cell?, hr], by simp [World.cell?, hr], by simp [World.cell?, hr], fun o => by simp [World.frozen?, hr]⟩

theorem RepB.frozen {w : World} {B rb kn rn vn : Nat} {rc vc : List Value} (h : RepB w B rb kn rc rn vc vn) : rb < w.heap.size ∧ B ≤ rb := by
  obtain ⟨ka, kcap, kc, ra, rcap, va, vcap, hB, hr, hk, hrr, hv⟩ := h
  exact ⟨lt_of_block hr, hB⟩

set_option maxHeartbeats 400000 in
theorem new_any (w : World) : Calls Try.prog 23 #[] w fun e w' => e = .returned (.pointer (some ⟨w.heap.size, 0, none⟩)) ∧ RepB w' w.heap.size w.heap.size 0 [] 0 [] 0 ∧ Below w.heap.size w w' := by
  go_enter Try.func23, Try.ntmps23
  go_wp2
  go_ret
  refine ⟨rfl, ⟨none, 0, [], none, 0, none, 0, Nat.le_refl _, ?_, World.ownsRow_nil _ _ _ _, World.ownsRow_nil _ _ _ _, World.ownsRow_nil _ _ _ _⟩, (Below.refl _ _).alloc (Nat.le_refl _) _⟩
  exact heap_alloc_new w _

/-- the one-element slice that 'append(xs, x)' lays first: what it yields -/
theorem src_one {P : Program} {w : World} {tx e t H : Nat} (hk : P.underlying tx = some (.slice e)) (x : Value) (hx : x.oneCell' = true) (hH : w.heap.size = H) :
    Src P 1 tx (.slice (some ⟨H, 0, none⟩) 1 1) 1 [x] (w.alloc (.cells #[x] t)) := by
  subst hH
  exact Src.ofSlice _ hk _ 1 1 [x] rfl (cell_one_new _ _ _) (by simpa using hx)

theorem src_two {P : Program} {w : World} {tx e t H : Nat} (hk : P.underlying tx = some (.slice e)) (x y : Value) (hx : x.oneCell' = true) (hy : y.oneCell' = true) (hH : w.heap.size = H) :
    Src P 2 tx (.slice (some ⟨H, 0, none⟩) 1 1) 1 [x, y] (w.alloc (.cells #[x, y] t)) := by
  subst hH
  refine Src.ofSlice _ hk _ 1 1 [x, y] rfl (fun j u hj => ?_) (by simp [hx, hy])
  match j, hj with
  | 0, hj => simp at hj; subst hj; simp [Addr.add]
  | 1, hj => simp at hj; subst hj; simp [Addr.add]

/-- ONE APPEND ONTO A ROW OF THE REPORT, AND THE STORE OF THE NEW VALUE INTO ITS STRUCT: what they leave -/
structure Step (w wf : World) (B rb o e : Nat) (c : Array Value) (v1 : Value) : Prop where
  rep : wf.heap[rb]? = some (.cells (c.setIfInBounds o v1) 56 (0, 0))
  below : Below B w wf
  frT : FrT w wf
  other : ∀ {B' e' size n : Nat} {u : Value} {xs : List Value}, w.ownsRow B' e' size u n xs → e' ≠ e → e' ≠ 56 → wf.ownsRow B' e' size u n xs

theorem step_mk {w W1 w1 : World} {B rb o e size n : Nat} {v v1 : Value} {xs : List Value} {c : Array Value} (hr : w.heap[rb]? = some (.cells c 56 (0, 0))) (hown : w.ownsRow B e size v n xs)
    (hW : Below w.heap.size w W1) (hg : Grew W1 w1 v v1) (he : e = 43 ∨ e = 58 ∨ e = 63) (hB : B ≤ rb) (hBw : B ≤ w.heap.size) : Step w (w1.setCell ⟨rb, o, none⟩ v1) B rb o e c v1 ∧ w1.heap[rb]? = some (.cells c 56 (0, 0)) := by
  have G : Grew w w1 v v1 := (Grew.ofBelow hW v).trans hg
  have he56 : e ≠ 56 := by omega
  have hb := rep_block hown G hr he56
  refine ⟨⟨block_setCell hb _, ?_, ?_, ?_⟩, hb⟩
  · exact (G.below (Below.refl B w) hBw (fun k hk => (hown.lt k hk).1)).setCell hB _
  · intro k x t f hx h1 h2 h3 h4
    have hk : k ≠ rb := by
      rintro rfl; rw [hr] at hx; injection hx with hx; injection hx with _ hx _; exact h1 hx.symm
    rw [Below.heap_setCell _ _ _ _ hk, G.grown.block k (lt_of_block hx) ?_]
    · exact hx
    · intro e'
      obtain ⟨c', hc'⟩ := owns_type hown e'.symm
      rw [hc'] at hx; injection hx with hx; injection hx with _ hx _
      rcases he with he | he | he
      · exact h2 (hx.symm.trans he)
      · exact h3 (hx.symm.trans he)
      · exact h4 (hx.symm.trans he)
  · intro B' e' size n u ys hu hne h56
    exact ownsRow_setCell_other (owns_grew hown hu G (Ne.symm hne)) (owns_ne (owns_grew hown hu G (Ne.symm hne)) hb h56) _

theorem owns_set {w : World} {B e size n rb o : Nat} {v u : Value} {xs : List Value} {c : Array Value} (h : w.ownsRow B e size v n xs) (hr : w.heap[rb]? = some (.cells c 56 (0, 0))) (he : e ≠ 56) : (w.setCell ⟨rb, o, none⟩ u).ownsRow B e size v n xs :=
  ownsRow_setCell_other h (owns_ne h hr he) _

set_option maxHeartbeats 400000 in
theorem addKind_any (B rb kn rn vn : Nat) (rc vc : List Value) (wd : ByteArray) (sa : Option Addr) (sn sc : Nat) (ba : Bool) (w : World) (h : RepB w B rb kn rc rn vc vn) (hkn : kn ≤ 1048576) (hBw : B ≤ w.heap.size) :
    Calls Try.prog 24 #[.pointer (some ⟨rb, 0, none⟩), .string wd, .slice sa sn sc, .bool ba] w fun e w' => e = .returned (.pointer (some ⟨w.heap.size, 0, none⟩)) ∧
      w'.heap[w.heap.size]? = some (.cells #[.pointer (some ⟨rb, 0, none⟩), .string ⟨#[]⟩, .string wd, .slice sa sn sc, .bool ba] 60 (0, 0)) ∧ RepB w' B rb (kn + 1) rc rn vc vn ∧ Below B w w' ∧ FrT w w' := by
  obtain ⟨ka, kcap, kc, ra, rcap, va, vcap, hB, hr, hk, hrr, hv⟩ := h
  obtain ⟨c0, c1, c2, c3, hf⟩ := rep_cells hr
  have hlt := lt_of_block hr
  obtain ⟨i0, hi, hz0, hz1, hz2⟩ := info_parts Try.info43
  clear hf c1 c2 c3
  have hm : kn + 1 ≤ maxLen := by unfold maxLen; omega
  have HR : Hid (w.heap[rb]? = some (.cells #[.slice ka kn kcap, .slice none 0 0, .slice ra rn rcap, .slice va vn vcap] 56 (0, 0))) := hr
  clear hr
  go_enter Try.func24, Try.ntmps24
  go_wp2_with (at_builtin; refine wpList_append_src _ rfl (.tmp 20) (.tmp 22) 52 52 rfl B 43 i0 (.pointer none) 1 8 Try.underlying52 hi hz0 hz1 hz2 rfl (by decide) (.slice ka kn kcap) kn kc rfl ((hk.alloc _).alloc _) _ 1 [.pointer (some ⟨w.heap.size, 0, none⟩)] rfl (src_one Try.underlying52 _ rfl (by simp)) hm (by omega) (by simp; omega) ?_; intro a1 cap1 w1 hown1 hg1; obtain ⟨hst, hb1⟩ := step_mk (o := 0) HR.out hk (((Below.refl _ _).alloc (Nat.le_refl _) _).alloc (by simp) _) hg1 (.inl rfl) hB hBw; have HB1 := hid hb1; obtain ⟨d0, _, _, _, df⟩ := rep_cells hb1; clear hb1; have df0 := df 0; clear df)
  go_ret
  have hb1 := HB1.out
  refine ⟨rfl, ?_, ⟨a1, cap1, _, ra, rcap, va, vcap, hB, by simpa using hst.rep, owns_set hown1 hb1 (by decide), hst.other hrr (by decide) (by decide), hst.other hv (by decide) (by decide)⟩, hst.below, hst.frT⟩
  rw [Below.heap_setCell _ _ _ _ (by simp; omega), hg1.grown.block _ (by simp; omega) (fun e => by have := hk.lt _ e.symm; omega), Below.heap_alloc _ _ _ (by simp)]
  exact heap_alloc_new w _

set_option maxHeartbeats 400000 in
theorem addValue_any (B rb kn rn vn : Nat) (rc vc : List Value) (t : ByteArray) (cl : Int) (w : World) (h : RepB w B rb kn rc rn vc vn) (hvn : vn ≤ 1048576) (hBw : B ≤ w.heap.size) :
    Calls Try.prog 27 #[.pointer (some ⟨rb, 0, none⟩), .string t, .int .u8 cl] w fun e w' => e = .returned (.tuple #[]) ∧
      RepB w' B rb kn rc rn (vc ++ [.string t, .int .u8 cl]) (vn + 1) ∧ Below B w w' ∧ FrT w w' := by
  obtain ⟨ka, kcap, kc, ra, rcap, va, vcap, hB, hr, hk, hrr, hv⟩ := h
  obtain ⟨c0, c1, c2, c3, hf⟩ := rep_cells hr
  have hlt := lt_of_block hr
  obtain ⟨i0, hi, hz0, hz1, hz2⟩ := info_parts Try.info63
  clear hf c1 c2 c0
  have hm : vn + 1 ≤ maxLen := by unfold maxLen; omega
  have HR : Hid (w.heap[rb]? = some (.cells #[.slice ka kn kcap, .slice none 0 0, .slice ra rn rcap, .slice va vn vcap] 56 (0, 0))) := hr
  clear hr
  go_enter Try.func27, Try.ntmps27
  go_wp2_with (at_builtin; refine wpList_append_src _ rfl (.tmp 10) (.tmp 14) 54 54 rfl B 63 i0 (.agg #[.string ⟨#[]⟩, .int .u8 0]) 2 24 Try.underlying54 hi hz0 hz1 hz2 rfl (by decide) (.slice va vn vcap) vn vc rfl (hv.alloc _) _ 1 [.string t, .int .u8 cl] rfl (src_two Try.underlying54 _ _ rfl rfl rfl) hm (by omega) (by simp; omega) ?_; intro a1 cap1 w1 hown1 hg1; obtain ⟨hst, hb1⟩ := step_mk (o := 3) HR.out hv ((Below.refl _ _).alloc (Nat.le_refl _) _) hg1 (.inr (.inr rfl)) hB hBw; have HB1 := hid hb1; obtain ⟨_, _, _, d3, df⟩ := rep_cells hb1; clear hb1; have df3 := df 3; clear df)
  go_end0
  have hb1 := HB1.out
  exact ⟨rfl, ⟨ka, kcap, kc, ra, rcap, a1, cap1, hB, by simpa using hst.rep, hst.other hk (by decide) (by decide), hst.other hrr (by decide) (by decide), owns_set hown1 hb1 (by decide)⟩, hst.below, hst.frT⟩
end Go.Proofs.Qxb6601073a
