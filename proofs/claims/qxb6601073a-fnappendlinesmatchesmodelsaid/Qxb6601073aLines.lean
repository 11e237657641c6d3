import Derived.Test.Qxb6601073aBuild
namespace Go.Proofs.Qxb6601073a
open Go.RowKit
set_option linter.unusedVariables false
attribute [local go_sem ↓] Go.wp_at_zero Go.wp_at_succ

/-! ### the plain functions -/
def stepL (bare : Bool) (acc : List UInt8) (key : ByteArray) (v : ByteArray × Int) : List UInt8 :=
  if v.2 = 0 then acc else acc ++ (if acc = [] then [] else [32]) ++ (if bare then [] else key.data.toList ++ [61]) ++ (shownB v.1 v.2).data.toList
def lineTo (vs : List (ByteArray × Int)) (p : PRec) : Nat → List UInt8
  | 0 => p.word.data.toList
  | j + 1 => stepL p.bare (lineTo vs p j) (p.keys.getD j ⟨#[]⟩) (vs.getD (p.first + j) (⟨#[]⟩, 0))
def lineP (vs : List (ByteArray × Int)) (p : PRec) : List UInt8 := lineTo vs p p.keys.length ++ [10]
def linesP (vs : List (ByteArray × Int)) (ps : List PRec) : List UInt8 := ps.flatMap (lineP vs)
theorem linesP_snoc (vs : List (ByteArray × Int)) (ps : List PRec) (p : PRec) : linesP vs (ps ++ [p]) = linesP vs ps ++ lineP vs p := by simp [linesP]

/-- bytes as cells -/
def bcs (l : List UInt8) : List Value := l.map fun b => Value.int .u8 b.toNat
theorem bcs_append (l k : List UInt8) : bcs (l ++ k) = bcs l ++ bcs k := by simp [bcs]
theorem length_bcs (l : List UInt8) : (bcs l).length = l.length := by simp [bcs]

/-! ### blocks that are no rows of bytes -/
def Fr5 (w w' : World) : Prop := ∀ (k : Nat) (c : Array Value) (e : TypeId) (f : Nat × Nat), w.heap[k]? = some (Obj.cells c e f) → e ≠ 5 → w'.heap[k]? = some (Obj.cells c e f)
theorem Fr5.refl (w : World) : Fr5 w w := fun _ _ _ _ h _ => h
theorem Fr5.trans {a b c : World} (h : Fr5 a b) (k : Fr5 b c) : Fr5 a c := fun i x e f hx h1 => k i x e f (h i x e f hx h1) h1
theorem Fr5.ofBelow {w w' : World} (h : Below w.heap.size w w') : Fr5 w w' := fun k _ _ _ hx _ => (h.block k (lt_of_block hx)).trans hx
theorem Fr5.ofGrew {w w' : World} {B n : Nat} {v v' : Value} {xs : List Value} (ho : w.ownsRow B 5 1 v n xs) (h : Grew w w' v v') : Fr5 w w' := by
  intro k c e f hx h5
  refine (h.grown.block k (lt_of_block hx) ?_).trans hx
  intro e2
  obtain ⟨c1, h1⟩ := owns_type ho e2.symm
  rw [hx] at h1; injection h1 with h1; injection h1 with _ h1 _; exact h5 h1
theorem owns_fr5 {w w' : World} {B e size n : Nat} {v : Value} {xs : List Value} (h : w.ownsRow B e size v n xs) (hf : Fr5 w w') (h1 : e ≠ 5) : w'.ownsRow B e size v n xs := by
  refine ⟨h.1, ?_⟩
  rcases h.2 with h | ⟨g, cap, cur, hv, hb, hh, r⟩
  · exact .inl h
  · exact .inr ⟨g, cap, cur, hv, hb, hf _ _ _ _ hh h1, r⟩
theorem owns_cells {w : World} {B e size n c : Nat} {a : Option Addr} {xs : List Value} (h : w.ownsRow B e size (.slice a n c) n xs) (hn : 0 < n) :
    ∃ g, a = some ⟨g, 0, none⟩ ∧ ∀ j u, xs[j]? = some u → w.cell? ⟨g, j, none⟩ = some u := by
  rcases h.2 with ⟨hv, h0⟩ | ⟨g, cap, cur, hv, hb, hh, r⟩
  · omega
  · injection hv with h1 h2 h3
    subst h1
    refine ⟨g, rfl, fun j u hj => ?_⟩
    have := h.cells (g := g) rfl j u hj
    rwa [Addr.add_lit, Nat.zero_add] at this
theorem RepB.fr5 {w w' : World} {B rb kn rn vn : Nat} {rc vc : List Value} (h : RepB w B rb kn rc rn vc vn) (hf : Fr5 w w') : RepB w' B rb kn rc rn vc vn := by
  obtain ⟨ka, kcap, kc, ra, rcap, va, vcap, hB, hr, hk, hrr, hv⟩ := h
  exact ⟨ka, kcap, kc, ra, rcap, va, vcap, hB, hf _ _ _ _ hr (by decide), owns_fr5 hk hf (by decide), owns_fr5 hrr hf (by decide), owns_fr5 hv hf (by decide)⟩
theorem KindAt.fr5 {w w' : World} {B rb : Nat} {kp : Nat × PRec} (h : KindAt w B rb kp) (hf : Fr5 w w') : KindAt w' B rb kp := by
  obtain ⟨sa, sc, hB, hb, ho⟩ := h
  exact ⟨sa, sc, hB, hf _ _ _ _ hb (by decide), owns_fr5 ho hf (by decide)⟩

/-! ### the slice of bytes that is appended to: 'l' has been appended to 'xs' since the world w -/
structure OutAt (w : World) (Bo n : Nat) (v0 : Value) (xs : List Value) (wj : World) (a : Option Addr) (N c : Nat) (l : List UInt8) : Prop where
  own : wj.ownsRow Bo 5 1 (.slice a N c) N (xs ++ bcs l)
  grew : Grew w wj v0 (.slice a N c)
  len : N = n + l.length
  base : Bo ≤ wj.heap.size
  fr5 : Fr5 w wj
section
variable {w : World} {Bo n : Nat} {v0 : Value} {xs : List Value} {wj wk : World} {a : Option Addr} {N c : Nat} {l : List UInt8}
theorem OutAt.later (h : OutAt w Bo n v0 xs wj a N c l) (hb : Below wj.heap.size wj wk) : OutAt w Bo n v0 xs wk a N c l :=
  ⟨h.own.kept ⟨hb.os, hb.tape, hb.output, hb.size, fun k hk _ => hb.block k hk⟩ (row := none) (by cases (Value.slice a N c).ownBlock <;> simp), h.grew.trans (Grew.ofBelow hb _), h.len, Nat.le_trans h.base hb.size, h.fr5.trans (Fr5.ofBelow hb)⟩
theorem OutAt.alloc (h : OutAt w Bo n v0 xs wj a N c l) (o : Obj) : OutAt w Bo n v0 xs (wj.alloc o) a N c l := h.later ((Below.refl _ _).alloc (Nat.le_refl _) o)
theorem OutAt.drew (h : OutAt w Bo n v0 xs wj a N c l) : OutAt w Bo n v0 xs wj.drew a N c l := h.later ((Below.refl _ _).drew)
theorem OutAt.start {oa : Option Addr} {oc : Nat} (hown : w.ownsRow Bo 5 1 (.slice oa n oc) n xs) (hB : Bo ≤ w.heap.size) : OutAt w Bo n (.slice oa n oc) xs w oa n oc [] :=
  ⟨by simpa [bcs] using hown, Grew.refl _ _, by simp, hB, Fr5.refl _⟩
theorem OutAt.size (h : OutAt w Bo n v0 xs wj a N c l) : w.heap.size ≤ wj.heap.size := h.grew.grown.size

theorem wpList_out_str {P : Program} {ops : Array Oper} {rest : List Oper} {o : Oper} {ac : Act} {Q : Exit → Act → World → Prop} (h : OutAt w Bo n v0 xs wj a N c l) (hgd : o.guard = none) (so xo : Operand) (t tx : TypeId)
    (ho : o.op = .call { callee := .builtin .append, args := #[so, xo], argTypes := #[t, tx] })
    (i : TypeInfo) (ht : P.underlying t = some (.slice 5)) (htx : P.underlying tx = some .string) (hi : P.info? 5 = some i) (hz : i.zero = some (.int .u8 0)) (hsize : i.size = 1) (hby : i.bytes = 1)
    (s : ByteArray) (hv : ac.eval so = .slice a N c) (hx : ac.eval xo = .string s) (hbd : N + s.size ≤ 1099511627776)
    (hK : ∀ a' c' w', OutAt w Bo n v0 xs w' a' (N + s.size) c' (l ++ s.data.toList) → Fr5 wj w' → wpList P ops Q rest (ac.put o.dst (.slice a' (N + s.size) c')) w') :
    wpList P ops Q (o :: rest) ac wj := by
  refine wpList_append_src wj hgd so xo t tx ho Bo 5 i (.int .u8 0) 1 1 ht hi hz hsize hby rfl (by decide) (.slice a N c) N (xs ++ bcs l) hv h.own (.string s) s.size (byteCells s) hx (Src.ofString _ htx s) (by unfold maxLen; omega) (by omega) h.base ?_
  intro a' c' w' hown' hg'
  have hf := Fr5.ofGrew h.own hg'
  refine hK a' c' w' ⟨?_, h.grew.trans hg', ?_, Nat.le_trans h.base hg'.grown.size, h.fr5.trans hf⟩ hf
  · rw [bcs_append, ← List.append_assoc]; exact hown'
  · rw [List.length_append, Array.length_toList, h.len, Nat.add_assoc]; rfl

theorem wpList_out_byte {P : Program} {ops : Array Oper} {rest : List Oper} {o : Oper} {ac : Act} {Q : Exit → Act → World → Prop} {H : Nat} (b : UInt8) (h : OutAt w Bo n v0 xs wj a N c l) (hgd : o.guard = none) (so xo : Operand) (t : TypeId)
    (ho : o.op = .call { callee := .builtin .append, args := #[so, xo], argTypes := #[t, t] })
    (i : TypeInfo) (ht : P.underlying t = some (.slice 5)) (hi : P.info? 5 = some i) (hz : i.zero = some (.int .u8 0)) (hsize : i.size = 1) (hby : i.bytes = 1)
    (hv : ac.eval so = .slice a N c) (hx : ac.eval xo = .slice (some ⟨H, 0, none⟩) 1 1) (hH : wj.heap[H]? = some (.cells #[.int .u8 b.toNat] 5 (0, 0))) (hbd : N + 1 ≤ 1099511627776)
    (hK : ∀ a' c' w', OutAt w Bo n v0 xs w' a' (N + 1) c' (l ++ [b]) → Fr5 wj w' → wpList P ops Q rest (ac.put o.dst (.slice a' (N + 1) c')) w') :
    wpList P ops Q (o :: rest) ac wj := by
  have hsrc : Src P 1 t (.slice (some ⟨H, 0, none⟩) 1 1) 1 [.int .u8 b.toNat] wj := by
    refine Src.ofSlice _ ht _ 1 1 _ rfl (fun j u hj => ?_) (by simp [Value.oneCell'])
    match j, hj with
    | 0, hj => simp at hj; subst hj; simp [Addr.add, World.cell?, hH]
  refine wpList_append_src wj hgd so xo t t ho Bo 5 i (.int .u8 0) 1 1 ht hi hz hsize hby rfl (by decide) (.slice a N c) N (xs ++ bcs l) hv h.own _ 1 _ hx hsrc (by unfold maxLen; omega) (by omega) h.base ?_
  intro a' c' w' hown' hg'
  have hf := Fr5.ofGrew h.own hg'
  refine hK a' c' w' ⟨?_, h.grew.trans hg', ?_, Nat.le_trans h.base hg'.grown.size, h.fr5.trans hf⟩ hf
  · rw [bcs_append, ← List.append_assoc]; exact hown'
  · rw [List.length_append, h.len, Nat.add_assoc]; rfl
end

theorem Fr5.alloc (w : World) (o : Obj) : Fr5 w (w.alloc o) := Fr5.ofBelow ((Below.refl _ _).alloc (Nat.le_refl _) o)
theorem two_cells {w : World} {b t : Nat} {x y : Value} (h : w.heap[b]? = some (.cells #[x, y] t (0, 0))) : w.cell? ⟨b, 0, none⟩ = some x ∧ w.cell? ⟨b, 1, none⟩ = some y := by
  refine ⟨by simp [World.cell?, h], by simp [World.cell?, h]⟩

/-- a record's values are there -/
def Fits (vs : List (ByteArray × Int)) (p : PRec) : Prop := p.first + p.keys.length ≤ vs.length

set_option maxRecDepth 100000 in
set_option maxHeartbeats 3200000 in
theorem appendLines_any (B Bo rb n : Nat) (oa : Option Addr) (oc : Nat) (xs : List Value) (kps : List (Nat × PRec)) (vs : List (ByteArray × Int)) (w : World)
    (hrep : RepB w B rb kps.length (recCells kps) kps.length (valCells vs) vs.length) (hkind : ∀ kp ∈ kps, KindAt w B rb kp) (hown : w.ownsRow Bo 5 1 (.slice oa n oc) n xs) (hBo : Bo ≤ w.heap.size)
    (hn : kps.length ≤ 1048576) (hvn : vs.length ≤ 1048576) (hkn : ∀ kp ∈ kps, kp.2.keys.length ≤ 1048576 ∧ Fits vs kp.2)
    (hbd : ∀ k kp, kps[k]? = some kp → ∀ j, j ≤ kp.2.keys.length → n + (linesP vs ((kps.map (·.2)).take k)).length + (lineTo vs kp.2 j).length < 1099511627776) :
    Calls Try.prog 22 #[.pointer (some ⟨rb, 0, none⟩), .slice oa n oc] w fun e w' => ∃ a N c, e = .returned (.slice a N c) ∧ OutAt w Bo n (.slice oa n oc) xs w' a N c (linesP vs (kps.map (·.2))) := by
  obtain ⟨ka, kcap, kc, ra, rcap, va, vcap, hB, hr, hk, hrr, hv⟩ := hrep
  obtain ⟨c0, c1, c2, c3, hf⟩ := rep_cells hr
  have hlt := lt_of_block hr
  have HR := hid hr
  obtain ⟨i5, hi5, hz0, hz1, hz2⟩ := info_parts Try.info5
  have HO := OutAt.start hown hBo
  clear hr hown hf c0 c1 c3 hk
  go_enter Try.func22, Try.ntmps22
  go_wp2
  go_loopw [1, 17] (fun out i wr => ∃ (k : Nat) (a1 : Option Addr) (N1 c1 : Nat), k ≤ kps.length ∧ i = .int .i64 k ∧ out = .slice a1 N1 c1 ∧ OutAt w Bo n (.slice oa n oc) xs wr a1 N1 c1 (linesP vs ((kps.map (·.2)).take k)))
    (fun _ i _ => kps.length - (intOf i).toNat)
  case atStart => exact ⟨0, oa, n, oc, Nat.zero_le _, rfl, rfl, by simpa [linesP] using HO⟩
  case round =>
    obtain ⟨k, a1, N1, c1, hk, rfl, rfl, ho1⟩ := hrel
    obtain ⟨w0, hw0⟩ : ∃ x, x = wr := ⟨_, rfl⟩
    subst hw0
    clear HO c2
    by_cases hkl : k < kps.length
    · have hfr := ho1.fr5
      obtain ⟨g, rfl, hcr⟩ := owns_cells (owns_fr5 hrr hfr (by decide)) (by omega)
      obtain ⟨kp, hkp⟩ : ∃ kp, kp = kps[k] := ⟨_, rfl⟩
      have hkp? : kps[k]? = some kp := by rw [hkp]; exact List.getElem?_eq_getElem hkl
      have hmem : kp ∈ kps := by rw [hkp]; exact List.getElem_mem hkl
      have hbdk := hbd k kp hkp?
      have hk2 := hkind kp hmem
      obtain ⟨hkl1, hfits⟩ := hkn kp hmem
      obtain ⟨q0, q1⟩ := pair_at (fun kp : Nat × PRec => Value.pointer (some ⟨kp.1, 0, none⟩)) (fun kp => Value.int .i64 kp.2.first) kps k kp hkp?
      replace q0 := hcr _ _ q0
      replace q1 := hcr _ _ q1
      have HT : Hid ((kps.map (·.2)).take (k + 1) = (kps.map (·.2)).take k ++ [kp.2]) := by
        show _ = _
        rw [List.take_succ_eq_append_getElem (by simpa using hkl), hkp]; simp
      obtain ⟨kb, p⟩ := kp
      simp only at hkl1 hfits q0 q1 hbdk
      obtain ⟨L1, hL1⟩ : ∃ L1, L1 = linesP vs ((kps.map (·.2)).take k) := ⟨_, rfl⟩
      rw [← hL1] at ho1 hbdk
      have HL1 := hid hL1
      have hbdk' : ∀ j, j ≤ p.keys.length → N1 + (lineTo vs p j).length < 1099511627776 := by
        intro j hj
        have := hbdk j hj
        rw [ho1.len]; exact this
      have HN1 : Hid (N1 = n + L1.length) := ho1.len
      clear hL1 hkp hkp? hmem hbd hkind hkn hcr hbdk
      obtain ⟨sa, sc, hBk, hkbw, hksw⟩ := hk2
      simp only at hkbw hksw
      have HKB := hid hkbw
      obtain ⟨_, _, e2, e3, e4⟩ := local_cells (hfr _ _ _ _ hkbw (by decide))
      have hkblt := lt_of_block (hfr _ _ _ _ hkbw (by decide))
      clear hkbw
      have hb0 := hbdk' 0 (Nat.zero_le _)
      simp only [lineTo, Array.length_toList] at hb0
      have hb0' : N1 + p.word.size ≤ 1099511627776 := Nat.le_of_lt hb0
      clear hb0
      go_wp2_with (at_builtin; refine wpList_out_str (ho1.alloc _) rfl (.tmp 25) (.tmp 29) 26 9 rfl i5 Try.underlying26 Try.underlying9 hi5 hz0 hz1 hz2 p.word rfl rfl hb0' ?_; intro a2 c2 w2 ho2 hf2; have HLB := hid (hf2 _ _ _ _ (heap_alloc_new w0 _) (by decide)); obtain ⟨_, _, f2, f3, f4⟩ := local_cells (ho2.fr5 _ _ _ _ HKB.out (by decide)))
      clear e2 e3 e4 hfr q0 q1 ho1 hf2
      go_loopw [1, 36] (fun out j wj => ∃ (jn : Nat) (a3 : Option Addr) (N3 c3 : Nat), jn ≤ p.keys.length ∧ j = .int .i64 jn ∧ out = .slice a3 N3 c3 ∧ OutAt w Bo n (.slice oa n oc) xs wj a3 N3 c3 (L1 ++ lineTo vs p jn) ∧
          Hid (wj.heap[w0.heap.size]? = some (.cells #[.pointer (some ⟨kb, 0, none⟩), .int .i64 p.first] 58 (0, 0))))
        (fun _ j _ => p.keys.length - (intOf j).toNat)
      case atStart => exact ⟨0, a2, _, c2, Nat.zero_le _, rfl, rfl, ho2, HLB⟩
      case round =>
        clear HLB f2 f3 f4 ho2
        obtain ⟨jn, a3, N3, c3, hjn, rfl, rfl, ho3, HLB⟩ := hrel
        have hf3 := ho3.fr5
        have hs3 := ho3.size
        have hN3 : N3 = N1 + (lineTo vs p jn).length := by rw [ho3.len, HN1.out, List.length_append, Nat.add_assoc]
        have hb3 : N3 + 1 ≤ 1099511627776 := by have := hbdk' jn hjn; omega
        by_cases hjl : jn < p.keys.length
        · obtain ⟨kg, rfl, hkc⟩ := owns_cells (owns_fr5 hksw hf3 (by decide)) (by omega)
          have hkey := hkc jn _ (strCells_at hjl)
          have hvl : p.first + jn < vs.length := by unfold Fits at hfits; omega
          obtain ⟨vg, rfl, hvc⟩ := owns_cells (owns_fr5 hv hf3 (by decide)) (by omega)
          obtain ⟨tc, htc⟩ : ∃ tc, tc = vs.getD (p.first + jn) (⟨#[]⟩, 0) := ⟨_, rfl⟩
          obtain ⟨key, hkeyE⟩ : ∃ key, key = p.keys.getD jn ⟨#[]⟩ := ⟨_, rfl⟩
          have hvs? : vs[p.first + jn]? = some tc := by rw [htc, List.getD, List.getElem?_eq_getElem hvl]; rfl
          obtain ⟨y0, y1⟩ := pair_at (fun tc : ByteArray × Int => Value.string tc.1) (fun tc => Value.int .u8 tc.2) vs (p.first + jn) tc hvs?
          replace y0 := hvc _ _ y0
          replace y1 := hvc _ _ y1
          rw [← hkeyE] at hkey
          have HST : Hid (lineTo vs p (jn + 1) = stepL p.bare (lineTo vs p jn) key tc) := by
            show _ = _
            rw [hkeyE, htc]; rfl
          obtain ⟨t, cl⟩ := tc
          simp only at y0 y1
          have hbl := hbdk' (jn + 1) (by omega)
          rw [HST.out] at hbl
          obtain ⟨l, hl⟩ : ∃ l, l = lineTo vs p jn := ⟨_, rfl⟩
          rw [← hl] at ho3 hbl HST
          obtain ⟨_, _, _, z3, _⟩ := rep_cells (hf3 _ _ _ _ HR.out (by decide))
          obtain ⟨_, _, _, _, z4⟩ := local_cells (hf3 _ _ _ _ HKB.out (by decide))
          have z5 : wr.cell? ⟨w0.heap.size, 1, none⟩ = some (.int .i64 p.first) := by simp [World.cell?, HLB.out]
          rw [← hl] at hN3
          have HN3 : Hid (N3 = N1 + l.length) := hN3
          clear hkc hvc hvs? htc hkeyE hl hksw hv hN3 hbdk' hfits
          have e1 : rb < wr.heap.size := by omega
          have e2 : vg < wr.heap.size := World.block_lt_of_cell? wr _ y0
          have e3 : w0.heap.size < wr.heap.size := World.block_lt_of_cell? wr _ z5
          have e4 : kb < wr.heap.size := World.block_lt_of_cell? wr _ z4
          have i1 : (0 : Int) ≤ (p.first : Int) + (jn : Int) := by omega
          have i2 : (p.first : Int) + (jn : Int) < (vs.length : Int) := by omega
          have i3 : IntKind.i64.wrap ((p.first : Int) + (jn : Int)) = (p.first : Int) + (jn : Int) := wrap_small _ i1 (by omega)
          have i4 : ((p.first : Int) + (jn : Int)).toNat = p.first + jn := by omega
          go_wp2
          go_region_held3 (fun w' => w'.cell? ⟨rb, 3, none⟩ = some (.slice (some ⟨vg, 0, none⟩) vs.length vcap) ∧ w'.cell? ⟨w0.heap.size, 1, none⟩ = some (.int .i64 p.first) ∧ w'.cell? ⟨vg, (p.first + jn) * 2, none⟩ = some (.string t) ∧ w'.cell? ⟨vg, (p.first + jn) * 2 + 1, none⟩ = some (.int .u8 cl)) (go_keep) (fail)
          clear i1 i2 i3 i4
          have ho5 := (ho3.alloc (.cells #[.string t, .int .u8 cl] 63)).drew
          have HLB5 := hid ((((Fr5.alloc wr (.cells #[.string t, .int .u8 cl] 63)).trans (Fr5.ofBelow (Below.refl _ _).drew)) : Fr5 wr _) _ _ _ _ HLB.out (by decide))
          have HVB5 := hid (show (wr.alloc (.cells #[.string t, .int .u8 cl] 63)).drew.heap[wr.heap.size]? = _ from heap_alloc_new wr _)
          have HK5 := hid (ho5.fr5 _ _ _ _ HKB.out (by decide))
          obtain ⟨bare, hbare⟩ : ∃ b, b = p.bare := ⟨_, rfl⟩
          rw [← hbare] at HK5 HST hbl
          clear hbare z3 z4 z5 y0 y1 hkey ho3 HLB hf3
          generalize (wr.alloc (.cells #[.string t, .int .u8 cl] 63)).drew = w5 at ho5 HLB5 HVB5 HK5 ⊢
          obtain ⟨v50, v51⟩ := two_cells HVB5.out
          obtain ⟨_, _, _, _, k54⟩ := local_cells HK5.out
          by_cases hc0 : (cl == 0) = true
          · go_wp2
            go_roundw
            case rel =>
              refine ⟨jn + 1, a3, N3, c3, by omega, by go_num, rfl, ?_, HLB5⟩
              rw [HST.out]
              have hcl : cl = 0 := by simpa using hc0
              simpa [stepL, hcl] using ho5
            case measure => simp [intOf]; omega
          · have hc1 : (cl == 0) = false := by simpa using hc0
            have hcl : cl ≠ 0 := by simpa using hc1
            clear hc0
            by_cases hle : l = []
            · have hlen : N3 ≤ N1 := by have := HN3.out; rw [hle] at this; simp at this; omega
              have hlen' : N1 ≤ N3 := by have := HN3.out; omega
              rw [hle] at hbl HST ho5
              cases bare
              · have hb1 : N3 + key.size + 1 + (shownB t cl).size < 1099511627776 := by simp [stepL, hcl] at hbl; omega
                clear hbl HN3
                go_wp2_with (first
                  | (at_builtin; refine wpList_out_str ho5 rfl (.tmp 66) (.tmp 67) 26 9 rfl i5 Try.underlying26 Try.underlying9 hi5 hz0 hz1 hz2 key rfl rfl (by omega) ?_; intro aK cK wK hoK hfK; have HVBK := hid (hfK _ _ _ _ HVB5.out (by decide)); have HKK := hid (hfK _ _ _ _ HK5.out (by decide)); obtain ⟨vK0, vK1⟩ := two_cells HVBK.out; obtain ⟨_, _, _, _, kK4⟩ := local_cells HKK.out; have svK := lt_of_block HVBK.out; have skK := lt_of_block HKK.out)
                  | (at_builtin; refine wpList_out_byte 61 (hoK.alloc _) rfl (.tmp 68) (.tmp 69) 26 rfl i5 Try.underlying26 hi5 hz0 hz1 hz2 rfl rfl (heap_alloc_new _ _) (by omega) ?_; intro aE cE wE hoE hfE; have HVBE := hid (((Fr5.alloc _ _).trans hfE) _ _ _ _ HVBK.out (by decide)); have HKE := hid (((Fr5.alloc _ _).trans hfE) _ _ _ _ HKK.out (by decide)); obtain ⟨vE0, vE1⟩ := two_cells HVBE.out; obtain ⟨_, _, _, _, kE4⟩ := local_cells HKE.out; have svE := lt_of_block HVBE.out; have skE := lt_of_block HKE.out)
                  | (go_at_call 32; refine (lineText_any t cl _).mono ?_; rintro e wl ⟨rfl, rfl⟩)
                  | (at_builtin; refine wpList_out_str (hoE.alloc _) rfl (.tmp 71) (.tmp 73) 26 9 rfl i5 Try.underlying26 Try.underlying9 hi5 hz0 hz1 hz2 (shownB t cl) rfl rfl (by omega) ?_; intro aT cT wT hoT hfT))
                go_roundw
                case rel =>
                  refine ⟨jn + 1, aT, _, cT, by omega, by go_num, rfl, ?_, hid (((hfK.trans ((Fr5.alloc _ _).trans hfE)).trans ((Fr5.alloc _ _).trans hfT)) _ _ _ _ HLB5.out (by decide))⟩
                  rw [HST.out]
                  have hh := hoT
                  simp only [List.append_assoc] at hh
                  simpa [stepL, hcl, hle] using hh
                case measure => simp [intOf]; omega
              · have hb1 : N3 + (shownB t cl).size < 1099511627776 := by simp [stepL, hcl] at hbl; omega
                clear hbl HN3
                go_wp2_with (first
                  | (go_at_call 32; refine (lineText_any t cl _).mono ?_; rintro e wl ⟨rfl, rfl⟩)
                  | (at_builtin; refine wpList_out_str (ho5.alloc _) rfl (.tmp 71) (.tmp 73) 26 9 rfl i5 Try.underlying26 Try.underlying9 hi5 hz0 hz1 hz2 (shownB t cl) rfl rfl (by omega) ?_; intro aT cT wT hoT hfT))
                go_roundw
                case rel =>
                  refine ⟨jn + 1, aT, _, cT, by omega, by go_num, rfl, ?_, hid (((Fr5.alloc _ _).trans hfT) _ _ _ _ HLB5.out (by decide))⟩
                  rw [HST.out]
                  have hh := hoT
                  simp only [List.append_assoc] at hh
                  simpa [stepL, hcl, hle] using hh
                case measure => simp [intOf]; omega
            · have hlen : N1 < N3 := by
                have := HN3.out
                have h1 : l.length ≠ 0 := fun h => hle (List.eq_nil_of_length_eq_zero h)
                omega
              cases bare
              · have hb1 : N3 + 1 + key.size + 1 + (shownB t cl).size < 1099511627776 := by have := HN3.out; simp [stepL, hcl, hle] at hbl; omega
                clear hbl HN3
                go_wp2_with (first
                  | (at_builtin; refine wpList_out_byte 32 (ho5.alloc _) rfl (.tmp 58) (.tmp 59) 26 rfl i5 Try.underlying26 hi5 hz0 hz1 hz2 rfl rfl (heap_alloc_new _ _) (by omega) ?_; intro aS cS wS hoS hfS; have HVBS := hid (((Fr5.alloc _ _).trans hfS) _ _ _ _ HVB5.out (by decide)); have HKS := hid (((Fr5.alloc _ _).trans hfS) _ _ _ _ HK5.out (by decide)); obtain ⟨vS0, vS1⟩ := two_cells HVBS.out; obtain ⟨_, _, _, _, kS4⟩ := local_cells HKS.out; have svS := lt_of_block HVBS.out; have skS := lt_of_block HKS.out)
                  | (at_builtin; refine wpList_out_str hoS rfl (.tmp 66) (.tmp 67) 26 9 rfl i5 Try.underlying26 Try.underlying9 hi5 hz0 hz1 hz2 key rfl rfl (by omega) ?_; intro aK cK wK hoK hfK; have HVBK := hid (hfK _ _ _ _ HVBS.out (by decide)); have HKK := hid (hfK _ _ _ _ HKS.out (by decide)); obtain ⟨vK0, vK1⟩ := two_cells HVBK.out; obtain ⟨_, _, _, _, kK4⟩ := local_cells HKK.out; have svK := lt_of_block HVBK.out; have skK := lt_of_block HKK.out)
                  | (at_builtin; refine wpList_out_byte 61 (hoK.alloc _) rfl (.tmp 68) (.tmp 69) 26 rfl i5 Try.underlying26 hi5 hz0 hz1 hz2 rfl rfl (heap_alloc_new _ _) (by omega) ?_; intro aE cE wE hoE hfE; have HVBE := hid (((Fr5.alloc _ _).trans hfE) _ _ _ _ HVBK.out (by decide)); have HKE := hid (((Fr5.alloc _ _).trans hfE) _ _ _ _ HKK.out (by decide)); obtain ⟨vE0, vE1⟩ := two_cells HVBE.out; obtain ⟨_, _, _, _, kE4⟩ := local_cells HKE.out; have svE := lt_of_block HVBE.out; have skE := lt_of_block HKE.out)
                  | (go_at_call 32; refine (lineText_any t cl _).mono ?_; rintro e wl ⟨rfl, rfl⟩)
                  | (at_builtin; refine wpList_out_str (hoE.alloc _) rfl (.tmp 71) (.tmp 73) 26 9 rfl i5 Try.underlying26 Try.underlying9 hi5 hz0 hz1 hz2 (shownB t cl) rfl rfl (by omega) ?_; intro aT cT wT hoT hfT))
                go_roundw
                case rel =>
                  refine ⟨jn + 1, aT, _, cT, by omega, by go_num, rfl, ?_, hid ((((((Fr5.alloc _ _).trans hfS).trans hfK).trans ((Fr5.alloc _ _).trans hfE)).trans ((Fr5.alloc _ _).trans hfT)) _ _ _ _ HLB5.out (by decide))⟩
                  rw [HST.out]
                  have hh := hoT
                  simp only [List.append_assoc] at hh
                  simpa [stepL, hcl, hle] using hh
                case measure => simp [intOf]; omega
              · have hb1 : N3 + 1 + (shownB t cl).size < 1099511627776 := by have := HN3.out; simp [stepL, hcl, hle] at hbl; omega
                clear hbl HN3
                go_wp2_with (first
                  | (at_builtin; refine wpList_out_byte 32 (ho5.alloc _) rfl (.tmp 58) (.tmp 59) 26 rfl i5 Try.underlying26 hi5 hz0 hz1 hz2 rfl rfl (heap_alloc_new _ _) (by omega) ?_; intro aS cS wS hoS hfS; have HVBS := hid (((Fr5.alloc _ _).trans hfS) _ _ _ _ HVB5.out (by decide)); have HKS := hid (((Fr5.alloc _ _).trans hfS) _ _ _ _ HK5.out (by decide)); obtain ⟨vS0, vS1⟩ := two_cells HVBS.out; obtain ⟨_, _, _, _, kS4⟩ := local_cells HKS.out; have svS := lt_of_block HVBS.out; have skS := lt_of_block HKS.out)
                  | (go_at_call 32; refine (lineText_any t cl _).mono ?_; rintro e wl ⟨rfl, rfl⟩)
                  | (at_builtin; refine wpList_out_str (hoS.alloc _) rfl (.tmp 71) (.tmp 73) 26 9 rfl i5 Try.underlying26 Try.underlying9 hi5 hz0 hz1 hz2 (shownB t cl) rfl rfl (by omega) ?_; intro aT cT wT hoT hfT))
                go_roundw
                case rel =>
                  refine ⟨jn + 1, aT, _, cT, by omega, by go_num, rfl, ?_, hid ((((Fr5.alloc _ _).trans hfS).trans ((Fr5.alloc _ _).trans hfT)) _ _ _ _ HLB5.out (by decide))⟩
                  rw [HST.out]
                  have hh := hoT
                  simp only [List.append_assoc] at hh
                  simpa [stepL, hcl, hle] using hh
                case measure => simp [intOf]; omega
        · clear hN3
          go_wp2_with (at_builtin; refine wpList_out_byte 10 (ho3.alloc _) rfl (.tmp 76) (.tmp 77) 26 rfl i5 Try.underlying26 hi5 hz0 hz1 hz2 rfl rfl (heap_alloc_new _ _) hb3 ?_; intro a4 c4 w4 ho4 hf4)
          go_roundw
          case rel =>
            obtain rfl : jn = p.keys.length := by omega
            refine ⟨k + 1, a4, _, c4, by omega, by go_num, rfl, ?_⟩
            rw [HT.out, linesP_snoc, ← HL1.out]
            have := ho4
            rwa [List.append_assoc] at this
          case measure => simp [intOf]; omega
    · go_wp2
      go_ret
      obtain rfl : k = kps.length := by omega
      rw [List.take_of_length_le (by simp)] at ho1
      exact ⟨a1, N1, c1, rfl, ho1⟩
end Go.Proofs.Qxb6601073a
