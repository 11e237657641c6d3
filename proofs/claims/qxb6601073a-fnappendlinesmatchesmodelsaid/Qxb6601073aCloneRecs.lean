import Derived.Test.Qxb6601073aLines
namespace Go.Proofs.Qxb6601073a
open Go.RowKit
set_option linter.unusedVariables false
attribute [local go_sem ↓] Go.wp_at_zero Go.wp_at_succ

theorem Try.info37 : (Try.prog.info? 37).map (fun i => (i.zero, i.size, i.bytes)) = some (some (.agg #[.string ⟨#[]⟩, .bool false, .slice none 0 0, .slice none 0 0, .slice none 0 0]), 5, 96) := by kernel_rfl

/-- nothing but blocks of records has turned -/
def FrR (w w' : World) : Prop := ∀ (k : Nat) (c : Array Value) (e : TypeId) (f : Nat × Nat), w.heap[k]? = some (Obj.cells c e f) → e ≠ 37 → w'.heap[k]? = some (Obj.cells c e f)
theorem FrR.ofBelow {w w' : World} (h : Below w.heap.size w w') : FrR w w' := fun k _ _ _ hx _ => (h.block k (lt_of_block hx)).trans hx
theorem FrR.trans {a b c : World} (h : FrR a b) (k : FrR b c) : FrR a c := fun i x e f hx h1 => k i x e f (h i x e f hx h1) h1
theorem FrR.setCell {w w' : World} {H o : Nat} {c : Array Value} {f : Nat × Nat} (h : FrR w w') (hH : w'.heap[H]? = some (.cells c 37 f)) (u : Value) : FrR w (w'.setCell ⟨H, o, none⟩ u) := by
  intro k x e f' hx h1
  have := h k x e f' hx h1
  have hk : k ≠ H := by
    rintro rfl; rw [hH] at this; injection this with this; injection this with _ this _; exact h1 this.symm
  rw [Below.heap_setCell _ _ _ _ hk]; exact this
theorem owns_frR {w w' : World} {B e size n : Nat} {v : Value} {xs : List Value} (h : w.ownsRow B e size v n xs) (hf : FrR w w') (h1 : e ≠ 37) : w'.ownsRow B e size v n xs := by
  refine ⟨h.1, ?_⟩
  rcases h.2 with h | ⟨g, cap, cur, hv, hb, hh, r⟩
  · exact .inl h
  · exact .inr ⟨g, cap, cur, hv, hb, hf _ _ _ _ hh h1, r⟩

/-- element i of the new row is a clone of r -/
def ClonedAt (w : World) (cur : Array Value) (i : Nat) (r : Rec) : Prop :=
  ∃ (ka : Option Addr) (kc : Nat) (ta : Option Addr) (tc : Nat) (ca : Option Addr) (cc : Nat),
    cur[i * 5]? = some (.string r.word) ∧ cur[i * 5 + 1]? = some (.bool r.bare) ∧ cur[i * 5 + 2]? = some (.slice ka r.keys.length kc) ∧ cur[i * 5 + 3]? = some (.slice ta r.texts.length tc) ∧ cur[i * 5 + 4]? = some (.slice ca r.classes.length cc) ∧
    w.ownsRow 0 9 1 (.slice ka r.keys.length kc) r.keys.length (strCells r.keys) ∧ w.ownsRow 0 9 1 (.slice ta r.texts.length tc) r.texts.length (strCells r.texts) ∧ w.ownsRow 0 5 1 (.slice ca r.classes.length cc) r.classes.length (intCells r.classes)

/-- the first k elements of the new row are clones -/
def CInv (w : World) (H : Nat) (rs : List Rec) (k : Nat) : Prop :=
  ∃ cur, w.heap[H]? = some (.cells cur 37 (0, 0)) ∧ cur.size = rs.length * 5 ∧ ∀ i r, i < k → rs[i]? = some r → ClonedAt w cur i r

theorem set5 (cur : Array Value) (q : Nat) (v0 v1 v2 v3 v4 : Value) (hq : q + 5 ≤ cur.size) :
    let c := ((((cur.setIfInBounds q v0).setIfInBounds (q + 1) v1).setIfInBounds (q + 2) v2).setIfInBounds (q + 3) v3).setIfInBounds (q + 4) v4
    c[q]? = some v0 ∧ c[q + 1]? = some v1 ∧ c[q + 2]? = some v2 ∧ c[q + 3]? = some v3 ∧ c[q + 4]? = some v4 ∧ c.size = cur.size ∧ ∀ m, (m < q ∨ q + 5 ≤ m) → c[m]? = cur[m]? := by
  intro c
  refine ⟨?_, ?_, ?_, ?_, ?_, ?_, ?_⟩
  · simp [c, Array.getElem?_setIfInBounds]; omega
  · simp [c, Array.getElem?_setIfInBounds]; omega
  · simp [c, Array.getElem?_setIfInBounds]; omega
  · simp [c, Array.getElem?_setIfInBounds]; omega
  · simp [c, Array.getElem?_setIfInBounds]; omega
  · simp [c]
  · intro m hm
    simp only [c, Array.getElem?_setIfInBounds]
    rw [if_neg (by omega), if_neg (by omega), if_neg (by omega), if_neg (by omega), if_neg (by omega)]

/-- ONE ROUND -/
theorem clone_round {w w1 : World} {H k : Nat} {rs : List Rec} {r : Rec} {ka : Option Addr} {kc : Nat} {ta : Option Addr} {tc : Nat} {ca : Option Addr} {cc : Nat} (h : CInv w H rs k) (hb : Below w.heap.size w w1) (hk : k < rs.length) (hr : rs[k]? = some r)
    (h1 : w1.ownsRow 0 9 1 (.slice ka r.keys.length kc) r.keys.length (strCells r.keys)) (h2 : w1.ownsRow 0 9 1 (.slice ta r.texts.length tc) r.texts.length (strCells r.texts)) (h3 : w1.ownsRow 0 5 1 (.slice ca r.classes.length cc) r.classes.length (intCells r.classes)) :
    CInv (((((w1.setCell ⟨H, k * 5, none⟩ (.string r.word)).setCell ⟨H, k * 5 + 1, none⟩ (.bool r.bare)).setCell ⟨H, k * 5 + 2, none⟩ (.slice ka r.keys.length kc)).setCell ⟨H, k * 5 + 3, none⟩ (.slice ta r.texts.length tc)).setCell ⟨H, k * 5 + 4, none⟩ (.slice ca r.classes.length cc)) H rs (k + 1) := by
  obtain ⟨cur, hH, hsz, hcl⟩ := h
  have hH1 : w1.heap[H]? = some (.cells cur 37 (0, 0)) := (hb.block _ (lt_of_block hH)).trans hH
  have b1 := block_setCell (o := k * 5) hH1 (.string r.word)
  have b2 := block_setCell (o := k * 5 + 1) b1 (.bool r.bare)
  have b3 := block_setCell (o := k * 5 + 2) b2 (.slice ka r.keys.length kc)
  have b4 := block_setCell (o := k * 5 + 3) b3 (.slice ta r.texts.length tc)
  have b5 := block_setCell (o := k * 5 + 4) b4 (.slice ca r.classes.length cc)
  obtain ⟨s0, s1, s2, s3, s4, s5, s6⟩ := set5 cur (k * 5) (.string r.word) (.bool r.bare) (.slice ka r.keys.length kc) (.slice ta r.texts.length tc) (.slice ca r.classes.length cc) (by omega)
  have f1 : FrR w1 (((((w1.setCell ⟨H, k * 5, none⟩ (.string r.word)).setCell ⟨H, k * 5 + 1, none⟩ (.bool r.bare)).setCell ⟨H, k * 5 + 2, none⟩ (.slice ka r.keys.length kc)).setCell ⟨H, k * 5 + 3, none⟩ (.slice ta r.texts.length tc)).setCell ⟨H, k * 5 + 4, none⟩ (.slice ca r.classes.length cc)) :=
    ((((((FrR.ofBelow (Below.refl _ w1)).setCell hH1 _).setCell b1 _).setCell b2 _).setCell b3 _).setCell b4 _)
  have f0 := (FrR.ofBelow hb).trans f1
  refine ⟨_, b5, s5.trans hsz, fun i r' hi hr' => ?_⟩
  by_cases hik : i = k
  · subst hik
    rw [hr] at hr'
    injection hr' with hr'
    subst hr'
    exact ⟨ka, kc, ta, tc, ca, cc, s0, s1, s2, s3, s4, owns_frR h1 f1 (by decide), owns_frR h2 f1 (by decide), owns_frR h3 f1 (by decide)⟩
  · obtain ⟨ka', kc', ta', tc', ca', cc', q0, q1, q2, q3, q4, o1, o2, o3⟩ := hcl i r' (by omega) hr'
    exact ⟨ka', kc', ta', tc', ca', cc', (s6 _ (by omega)).trans q0, (s6 _ (by omega)).trans q1, (s6 _ (by omega)).trans q2, (s6 _ (by omega)).trans q3, (s6 _ (by omega)).trans q4, owns_frR o1 f0 (by decide), owns_frR o2 f0 (by decide), owns_frR o3 f0 (by decide)⟩

theorem clone_done {w : World} {H : Nat} {rs : List Rec} (h : CInv w H rs rs.length) (hb : ∀ r ∈ rs, r.keys.length ≤ 1048576 ∧ r.texts.length ≤ 1048576 ∧ r.classes.length ≤ 1048576) :
    RecsAt w 0 (.slice (some ⟨H, 0, none⟩) rs.length rs.length) rs := by
  obtain ⟨cur, hH, hsz, hcl⟩ := h
  refine .inr ⟨⟨H, 0, none⟩, _, rfl, fun i r hi => ⟨?_, rfl⟩⟩
  have hil := (List.getElem?_eq_some_iff.1 hi).1
  obtain ⟨ka, kc, ta, tc, ca, cc, q0, q1, q2, q3, q4, o1, o2, o3⟩ := hcl i r hil hi
  obtain ⟨n1, n2, n3⟩ := hb r (List.mem_of_getElem? hi)
  have cell : ∀ m u, cur[m]? = some u → w.cell? ⟨H, m, none⟩ = some u := fun m u hm => by simp [World.cell?, hH, hm]
  simp only [Nat.zero_add]
  exact ⟨ka, kc, ta, tc, ca, cc, Nat.zero_le _, cell _ _ q0, cell _ _ q1, cell _ _ q2, cell _ _ q3, cell _ _ q4, RowAt.ofOwns o1 (by unfold maxLen; omega), RowAt.ofOwns o2 (by unfold maxLen; omega), RowAt.ofOwns o3 (by unfold maxLen; omega)⟩

theorem cloneBytes_ints (ka : Option Addr) (kc : Nat) (zs : List Int) (w : World) (h : RowAt w 0 (.slice ka zs.length kc) (intCells zs)) (hlen : zs.length ≤ 1048576) :
    Calls Try.prog 15 #[.slice ka zs.length kc] w fun e w' => ∃ sa sc, e = .returned (.slice sa zs.length sc) ∧ w'.ownsRow w.heap.size 5 1 (.slice sa zs.length sc) zs.length (intCells zs) ∧ Below w.heap.size w w' := by
  refine (cloneBytes_any _ (intCells zs) w h (intCells_one _) (by rw [length_intCells]; exact hlen)).mono ?_
  rintro e w' ⟨v', rfl, ho, hb⟩
  rw [length_intCells] at ho
  obtain ⟨sa, sc, rfl⟩ := owns_form ho
  exact ⟨sa, sc, rfl, ho, hb⟩

theorem CInv.cells {w w1 : World} {H k : Nat} {rs : List Rec} (h : CInv w H rs k) (hb : Below w.heap.size w w1) (hk : k < rs.length) :
    ∃ u0 u1 u2 u3 u4, w1.cell? ⟨H, k * 5, none⟩ = some u0 ∧ w1.cell? ⟨H, k * 5 + 1, none⟩ = some u1 ∧ w1.cell? ⟨H, k * 5 + 2, none⟩ = some u2 ∧ w1.cell? ⟨H, k * 5 + 3, none⟩ = some u3 ∧ w1.cell? ⟨H, k * 5 + 4, none⟩ = some u4 ∧
      w1.frozen? ⟨H, k * 5, none⟩ = false ∧ w1.frozen? ⟨H, k * 5 + 1, none⟩ = false ∧ w1.frozen? ⟨H, k * 5 + 2, none⟩ = false ∧ w1.frozen? ⟨H, k * 5 + 3, none⟩ = false ∧ w1.frozen? ⟨H, k * 5 + 4, none⟩ = false ∧ H < w1.heap.size := by
  obtain ⟨cur, hH, hsz, hcl⟩ := h
  have hH1 : w1.heap[H]? = some (.cells cur 37 (0, 0)) := (hb.block _ (lt_of_block hH)).trans hH
  have c : ∀ m, m < cur.size → ∃ u, w1.cell? ⟨H, m, none⟩ = some u := fun m hm => ⟨cur[m], by simp [World.cell?, hH1, hm]⟩
  obtain ⟨u0, e0⟩ := c (k * 5) (by omega)
  obtain ⟨u1, e1⟩ := c (k * 5 + 1) (by omega)
  obtain ⟨u2, e2⟩ := c (k * 5 + 2) (by omega)
  obtain ⟨u3, e3⟩ := c (k * 5 + 3) (by omega)
  obtain ⟨u4, e4⟩ := c (k * 5 + 4) (by omega)
  have fz : ∀ m, w1.frozen? ⟨H, m, none⟩ = false := fun m => by simp [World.frozen?, hH1]
  exact ⟨u0, u1, u2, u3, u4, e0, e1, e2, e3, e4, fz _, fz _, fz _, fz _, fz _, lt_of_block hH1⟩

theorem cell5_far {w : World} {H o0 o1 o2 o3 o4 b o : Nat} {v0 v1 v2 v3 v4 : Value} (h : ¬ b = H) :
    (((((w.setCell ⟨H, o0, none⟩ v0).setCell ⟨H, o1, none⟩ v1).setCell ⟨H, o2, none⟩ v2).setCell ⟨H, o3, none⟩ v3).setCell ⟨H, o4, none⟩ v4).cell? ⟨b, o, none⟩ = w.cell? ⟨b, o, none⟩ :=
  World.cell?_of_block (by rw [Below.heap_setCell _ _ _ _ h, Below.heap_setCell _ _ _ _ h, Below.heap_setCell _ _ _ _ h, Below.heap_setCell _ _ _ _ h, Below.heap_setCell _ _ _ _ h])

theorem owns_later {w w' : World} {B e size n : Nat} {v : Value} {xs : List Value} (h : w.ownsRow B e size v n xs) (hb : Below w.heap.size w w') : w'.ownsRow B e size v n xs :=
  h.kept (row := none) ⟨hb.os, hb.tape, hb.output, hb.size, fun k hk _ => hb.block k hk⟩ (by cases v.ownBlock <;> simp)

theorem made5 {w1 : World} {g e n : Nat} {L : List Value} (h : w1.ownsRow g e 5 (.slice (some ⟨g, 0, none⟩) n n) n L) :
    ∃ cur, w1.heap[g]? = some (.cells cur e (0, 0)) ∧ cur.size = n * 5 := by
  rcases h.2 with ⟨h0, _⟩ | ⟨g', cap, cur, hv, hb, hh, hnc, hcm, hcs, ht⟩
  · cases h0
  · injection hv with h1 h2 h3
    injection h1 with h1
    injection h1 with h1
    subst h1
    subst h3
    exact ⟨cur, hh, hcs⟩

theorem cloneRecs_nil (w : World) : Calls Try.prog 9 #[.slice none 0 0] w fun e w' => e = .returned (.slice none 0 0) ∧ w' = w := by
  have hn := Lib.run_eql_slice_nil (P := Try.prog) w 22 37 none 0 0 0 0 Try.underlying22
  simp at hn
  go_enter Try.func9, Try.ntmps9
  go_wp2
  go_ret
  exact ⟨rfl, rfl⟩

set_option maxRecDepth 100000 in
set_option maxHeartbeats 3200000 in
theorem cloneRecs_some (x : Addr) (c : Nat) (rs : List Rec) (w : World) (h : RecsAt w 0 (.slice (some x) rs.length c) rs) (hn : rs.length ≤ 1048576)
    (hbk : ∀ r ∈ rs, r.keys.length ≤ 1048576 ∧ r.texts.length ≤ 1048576 ∧ r.classes.length ≤ 1048576) :
    Calls Try.prog 9 #[.slice (some x) rs.length c] w fun e w' => ∃ a' c', e = .returned (.slice a' rs.length c') ∧ RecsAt w' 0 (.slice a' rs.length c') rs ∧ Below w.heap.size w w' := by
  have hnil := Lib.run_eql_slice_nil (P := Try.prog) w 22 37 (some x) rs.length c 0 0 Try.underlying22
  simp at hnil
  obtain ⟨i0, hi, hz0, hz1, hz2⟩ := info_parts Try.info37
  have hby : i0.bytes * rs.length ≤ 281474976710656 := by rw [hz2]; omega
  have hm : rs.length ≤ maxLen := by unfold maxLen; omega
  go_enter Try.func9, Try.ntmps9
  go_wp2_with (at_make; refine wpList_make_full _ rfl _ _ 22 rfl w.heap.size 37 i0 _ 5 Try.underlying22 hi hz0 hz1 _ _ _ _ rs.length rfl rfl rfl rfl hby hm (Nat.le_refl _) ?_; intro w1 hown1 hg1)
  obtain ⟨H, hH⟩ : ∃ H, H = w.heap.size := ⟨_, rfl⟩
  have hst : CInv w1 w.heap.size rs 0 := by
    obtain ⟨cur, h1, h2⟩ := made5 hown1
    exact ⟨cur, h1, h2, fun i r hi => absurd hi (Nat.not_lt_zero _)⟩
  have hbel1 : Below w.heap.size w w1 := ⟨hg1.os, hg1.tape, hg1.output, hg1.size, fun k hk => hg1.block k hk (by simp)⟩
  clear hown1 hg1
  go_loopw [4] (fun i wr => ∃ k : Nat, k ≤ rs.length ∧ i = .int .i64 k ∧ CInv wr w.heap.size rs k ∧ Below w.heap.size w wr) (fun i _ => rs.length - (intOf i).toNat)
  case atStart => exact ⟨0, Nat.zero_le _, rfl, hst, hbel1⟩
  case round =>
    obtain ⟨k, hk, rfl, hinv, hbel⟩ := hrel
    clear hst hbel1 hnil hz0 hz1 hz2 hi hby hm
    by_cases hlt : k < rs.length
    · obtain ⟨b, o, hxe, hx⟩ := h.pos hlt
      injection hxe with hxe
      subst hxe
      have hr? : rs[k]? = some rs[k] := List.getElem?_eq_getElem hlt
      have hr := hx k rs[k] hr?
      obtain ⟨hb1, hb2, hb3⟩ := hbk _ (List.getElem_mem hlt)
      obtain ⟨r, hrr⟩ : ∃ r, r = rs[k] := ⟨_, rfl⟩
      rw [← hrr] at hr hr? hb1 hb2 hb3
      have HRK := hid hr?
      clear hx hrr h hr?
      obtain ⟨ka, kc, ta, tc, ca, cc, _, h0, h1, h2, h3, h4, hrk, hrt, hrc⟩ := hr
      have hblt : b < w.heap.size := World.block_lt_of_cell? w _ h0
      replace h0 := (hbel.cell (World.block_lt_of_cell? w _ h0)).trans h0
      replace h1 := (hbel.cell (World.block_lt_of_cell? w _ h1)).trans h1
      replace h2 := (hbel.cell (World.block_lt_of_cell? w _ h2)).trans h2
      replace h3 := (hbel.cell (World.block_lt_of_cell? w _ h3)).trans h3
      replace h4 := (hbel.cell (World.block_lt_of_cell? w _ h4)).trans h4
      have hrow : ∀ W, Below w.heap.size w W → RowAt W 0 (.slice ka r.keys.length kc) (strCells r.keys) := fun W hW => hrk.up (Up.ofBelow hW)
      have hrowT : ∀ W, Below w.heap.size w W → RowAt W 0 (.slice ta r.texts.length tc) (strCells r.texts) := fun W hW => hrt.up (Up.ofBelow hW)
      have hrowC : ∀ W, Below w.heap.size w W → RowAt W 0 (.slice ca r.classes.length cc) (intCells r.classes) := fun W hW => hrc.up (Up.ofBelow hW)
      clear hrk hrt hrc
      have hsz := hbel.size
      have hbne : ¬ b = w.heap.size := by omega
      have i1 : (0 : Int) ≤ (k : Int) := by omega
      have i2 : (k : Int) < (rs.length : Int) := by omega
      go_wp2
      go_region_held3 (fun w' => w'.cell? ⟨b, o + k * 5, none⟩ = some (.string r.word) ∧ w'.cell? ⟨b, o + k * 5 + 1, none⟩ = some (.bool r.bare) ∧ w'.cell? ⟨b, o + k * 5 + 2, none⟩ = some (.slice ka r.keys.length kc) ∧ w'.cell? ⟨b, o + k * 5 + 3, none⟩ = some (.slice ta r.texts.length tc) ∧ w'.cell? ⟨b, o + k * 5 + 4, none⟩ = some (.slice ca r.classes.length cc))
        (first
          | exact ⟨h0, h1, h2, h3, h4⟩
          | with_reducible exact ⟨d0, d1, d2, d3, d4⟩
          | with_reducible exact ⟨e0, e1, e2, e3, e4⟩
          | with_reducible exact ⟨f0, f1, f2, f3, f4⟩
          | (go_split_ands; refine ⟨?_, ?_, ?_, ?_, ?_⟩ <;> (rw [cell5_far hbne]; assumption)))
        (first
          | (go_at_call_of 21 (Value.slice ka r.keys.length kc); refine (cloneStrs_keys ka kc r.keys _ (hrow _ hbel.drew) hb1).mono ?_; rintro e w2 ⟨sa, sc, rfl, hown2, hbel2⟩; have hbw2 := hbel.drew.trans (hbel2.mono hsz); have d0 := (hbel2.cell (World.block_lt_of_cell? wr _ h0)).trans h0; have d1 := (hbel2.cell (World.block_lt_of_cell? wr _ h1)).trans h1; have d2 := (hbel2.cell (World.block_lt_of_cell? wr _ h2)).trans h2; have d3 := (hbel2.cell (World.block_lt_of_cell? wr _ h3)).trans h3; have d4 := (hbel2.cell (World.block_lt_of_cell? wr _ h4)).trans h4; clear h0 h1 h2 h3 h4 hrow)
          | (go_at_call_of 21 (Value.slice ta r.texts.length tc); refine (cloneStrs_keys ta tc r.texts _ (hrowT _ hbw2) hb2).mono ?_; rintro e w3 ⟨sa3, sc3, rfl, hown3, hbel3⟩; have hbw3 := hbw2.trans (hbel3.mono hbw2.size); have e0 := (hbel3.cell (World.block_lt_of_cell? w2 _ d0)).trans d0; have e1 := (hbel3.cell (World.block_lt_of_cell? w2 _ d1)).trans d1; have e2 := (hbel3.cell (World.block_lt_of_cell? w2 _ d2)).trans d2; have e3 := (hbel3.cell (World.block_lt_of_cell? w2 _ d3)).trans d3; have e4 := (hbel3.cell (World.block_lt_of_cell? w2 _ d4)).trans d4; clear d0 d1 d2 d3 d4 hrowT)
          | (go_at_call 15; refine (cloneBytes_ints ca cc r.classes _ (hrowC _ hbw3) hb3).mono ?_; rintro e w4 ⟨sa4, sc4, rfl, hown4, hbel4⟩; have f0 := (hbel4.cell (World.block_lt_of_cell? w3 _ e0)).trans e0; have f1 := (hbel4.cell (World.block_lt_of_cell? w3 _ e1)).trans e1; have f2 := (hbel4.cell (World.block_lt_of_cell? w3 _ e2)).trans e2; have f3 := (hbel4.cell (World.block_lt_of_cell? w3 _ e3)).trans e3; have f4 := (hbel4.cell (World.block_lt_of_cell? w3 _ e4)).trans e4; have hb14 : Below wr.heap.size wr w4 := ((((Below.refl _ wr).drew).trans hbel2).trans (hbel3.mono hbel2.size)).trans (hbel4.mono (Nat.le_trans hbel2.size hbel3.size)); obtain ⟨u0, u1, u2, u3, u4, g0, g1, g2, g3, g4, z0, z1, z2, z3, z4, hHlt⟩ := hinv.cells hb14 hlt; clear e0 e1 e2 e3 e4 hrowC))
      have R := clone_round hinv hb14 hlt HRK.out (owns_lower (owns_later (owns_later hown2 hbel3) hbel4) (Nat.zero_le _)) (owns_lower (owns_later hown3 hbel4) (Nat.zero_le _)) (owns_lower hown4 (Nat.zero_le _))
      have R2 := ((((((hbel.trans (hb14.mono hsz)).setCell (p := ⟨w.heap.size, k * 5, none⟩) (Nat.le_refl _) (.string r.word)).setCell (p := ⟨w.heap.size, k * 5 + 1, none⟩) (Nat.le_refl _) (.bool r.bare)).setCell (p := ⟨w.heap.size, k * 5 + 2, none⟩) (Nat.le_refl _) (.slice sa r.keys.length sc)).setCell (p := ⟨w.heap.size, k * 5 + 3, none⟩) (Nat.le_refl _) (.slice sa3 r.texts.length sc3)).setCell (p := ⟨w.heap.size, k * 5 + 4, none⟩) (Nat.le_refl _) (.slice sa4 r.classes.length sc4))
      clear hown2 hown3 hown4 hbel2 hbel3 hbel4 hb14 g0 g1 g2 g3 g4 z0 z1 z2 z3 z4 f0 f1 f2 f3 f4 hbw2 hbw3 hinv HRK hb1 hb2 hb3 hbk
      go_wp2
      go_roundw
      case rel => exact ⟨k + 1, by omega, by go_num, R, R2⟩
      case measure => simp [intOf]; omega
    · go_wp2
      go_ret
      obtain rfl : k = rs.length := by omega
      exact ⟨_, _, rfl, clone_done hinv hbk, hbel⟩

theorem cloneRecs_any (a : Option Addr) (c : Nat) (rs : List Rec) (w : World) (h : RecsAt w 0 (.slice a rs.length c) rs) (hn : rs.length ≤ 1048576)
    (hbk : ∀ r ∈ rs, r.keys.length ≤ 1048576 ∧ r.texts.length ≤ 1048576 ∧ r.classes.length ≤ 1048576) :
    Calls Try.prog 9 #[.slice a rs.length c] w fun e w' => ∃ a' c', e = .returned (.slice a' rs.length c') ∧ RecsAt w' 0 (.slice a' rs.length c') rs ∧ Below w.heap.size w w' := by
  cases a with
  | some x => exact cloneRecs_some x c rs w h hn hbk
  | none =>
    rcases h with ⟨h, rfl⟩ | ⟨x, c', hv, hx⟩
    · simp only [List.length_nil] at h ⊢
      injection h with _ _ h
      subst h
      refine (cloneRecs_nil w).mono ?_
      rintro e w' ⟨rfl, rfl⟩
      exact ⟨none, 0, rfl, .inl ⟨rfl, rfl⟩, Below.refl _ _⟩
    · injection hv with hv; cases hv
end Go.Proofs.Qxb6601073a
