import Derived.Test.Qxb6601073aData
import Derived.LoopTactic
namespace Go.Proofs.Qxb6601073a
open Go.RowKit
set_option linter.unusedVariables false
attribute [local go_sem ↓] Go.wp_at_zero Go.wp_at_succ

theorem owns_form {w : World} {B e size n : Nat} {v : Value} {xs : List Value} (h : w.ownsRow B e size v n xs) : ∃ sa sc, v = .slice sa n sc := by
  rcases h.2 with ⟨rfl, rfl⟩ | ⟨g, cap, cur, rfl, _⟩
  · exact ⟨_, _, rfl⟩
  · exact ⟨_, _, rfl⟩

theorem cloneStrs_keys (ka : Option Addr) (kc : Nat) (ss : List ByteArray) (w : World) (h : RowAt w 0 (.slice ka ss.length kc) (strCells ss)) (hlen : ss.length ≤ 1048576) :
    Calls Try.prog 21 #[.slice ka ss.length kc] w fun e w' => ∃ sa sc, e = .returned (.slice sa ss.length sc) ∧ w'.ownsRow w.heap.size 9 1 (.slice sa ss.length sc) ss.length (strCells ss) ∧ Below w.heap.size w w' := by
  refine (cloneStrs_any _ (strCells ss) w h (strCells_one _) (by rw [length_strCells]; exact hlen)).mono ?_
  rintro e w' ⟨v', rfl, ho, hb⟩
  rw [length_strCells] at ho
  obtain ⟨sa, sc, rfl⟩ := owns_form ho
  exact ⟨sa, sc, rfl, ho, hb⟩

theorem RepB.later {w w' : World} {B rb kn rn vn : Nat} {rc vc : List Value} (h : RepB w B rb kn rc rn vc vn) (hb : Below w.heap.size w w') : RepB w' B rb kn rc rn vc vn := by
  obtain ⟨ka, kcap, kc, ra, rcap, va, vcap, hB, hr, hk, hrr, hv⟩ := h
  have hg : w.grownBy w' none := ⟨hb.os, hb.tape, hb.output, hb.size, fun k hk _ => hb.block k hk⟩
  exact ⟨ka, kcap, kc, ra, rcap, va, vcap, hB, (hb.block _ (lt_of_block hr)).trans hr, hk.kept hg (by cases (Value.slice ka kn kcap).ownBlock <;> simp), hrr.kept hg (by cases (Value.slice ra rn rcap).ownBlock <;> simp), hv.kept hg (by cases (Value.slice va vn vcap).ownBlock <;> simp)⟩

theorem local_cells {w : World} {lb t : Nat} {a b c d e : Value} (hr : w.heap[lb]? = some (.cells #[a, b, c, d, e] t (0, 0))) :
    w.cell? ⟨lb, 0, none⟩ = some a ∧ w.cell? ⟨lb, 1, none⟩ = some b ∧ w.cell? ⟨lb, 2, none⟩ = some c ∧ w.cell? ⟨lb, 3, none⟩ = some d ∧ w.cell? ⟨lb, 4, none⟩ = some e := by
  refine ⟨by simp [World.cell?, hr], by simp [World.cell?, hr], by simp [World.cell?, hr], by simp [World.cell?, hr], by simp [World.cell?, hr]⟩

theorem owns_lower {w : World} {B B' e size n : Nat} {v : Value} {xs : List Value} (h : w.ownsRow B e size v n xs) (hb : B' ≤ B) : w.ownsRow B' e size v n xs := by
  refine ⟨h.1, ?_⟩
  rcases h.2 with h | ⟨g, cap, cur, hv, hb', r⟩
  · exact .inl h
  · exact .inr ⟨g, cap, cur, hv, Nat.le_trans hb hb', r⟩

theorem mid_facts {w wr W w2 w3 : World} {B rb sc f : Nat} {sa : Option Addr} {kps : List (Nat × PRec)} {word : ByteArray} {bare : Bool} {keys : List ByteArray}
    (hbel : Below B w wr) (hB : B ≤ wr.heap.size) (hW : Below wr.heap.size wr W) (hbel2 : Below W.heap.size W w2) (hown2 : w2.ownsRow W.heap.size 9 1 (.slice sa keys.length sc) keys.length (strCells keys))
    (hkb3 : w3.heap[w2.heap.size]? = some (.cells #[.pointer (some ⟨rb, 0, none⟩), .string ⟨#[]⟩, .string word, .slice sa keys.length sc, .bool bare] 60 (0, 0)))
    (hbel3 : Below B w2 w3) (hfr3 : FrT w2 w3) (hkind : ∀ kp ∈ kps, KindAt wr B rb kp) :
    (∀ kp ∈ kps ++ [(w2.heap.size, (⟨word, bare, keys, f⟩ : PRec))], KindAt w3 B rb kp) ∧ Below B w w3 := by
  have s1 := hW.size
  have s2 := hbel2.size
  refine ⟨fun kp hkp => ?_, ((hbel.trans (hW.mono hB)).trans (hbel2.mono (by omega))).trans hbel3⟩
  rcases List.mem_append.1 hkp with h | h
  · exact (((hkind kp h).frT (FrT.ofBelow hW)).frT (FrT.ofBelow hbel2)).frT hfr3
  · have : kp = (w2.heap.size, (⟨word, bare, keys, f⟩ : PRec)) := by simpa using h
    subst this
    exact ⟨sa, sc, by simp only; omega, hkb3, owns_lower (owns_frT hown2 hfr3 (by decide) (by decide) (by decide) (by decide)) (by omega)⟩

/-- the local copy 'rec' of a record -/
def Local (w : World) (lb : Nat) (r : Rec) (ka : Option Addr) (kc : Nat) (ta : Option Addr) (tc : Nat) (ca : Option Addr) (cc : Nat) : Prop :=
  w.heap[lb]? = some (.cells #[.string r.word, .bool r.bare, .slice ka r.keys.length kc, .slice ta r.texts.length tc, .slice ca r.classes.length cc] 37 (0, 0))
theorem Local.frT {w w' : World} {lb : Nat} {r : Rec} {ka : Option Addr} {kc : Nat} {ta : Option Addr} {tc : Nat} {ca : Option Addr} {cc : Nat} (h : Local w lb r ka kc ta tc ca cc) (hf : FrT w w') : Local w' lb r ka kc ta tc ca cc :=
  hf _ _ _ _ h (by decide) (by decide) (by decide) (by decide)
theorem Local.later {w w' : World} {lb : Nat} {r : Rec} {ka : Option Addr} {kc : Nat} {ta : Option Addr} {tc : Nat} {ca : Option Addr} {cc : Nat} (h : Local w lb r ka kc ta tc ca cc) (hf : Below w.heap.size w w') : Local w' lb r ka kc ta tc ca cc :=
  h.frT (FrT.ofBelow hf)

/-- what one round of the inner loop leaves -/
theorem inner_step {w w0 w1 w2 w3 : World} {B rb kn lb : Nat} {rc : List Value} {vs : List (ByteArray × Int)} {j : Nat} {kps : List (Nat × PRec)} {r : Rec} {ka : Option Addr} {kc : Nat} {ta : Option Addr} {tc : Nat} {ca : Option Addr} {cc : Nat} {wi : Bool} {t : ByteArray} {c : Int}
    (hB : B ≤ w0.heap.size) (hbel : Below B w w0) (h1 : Below w0.heap.size w0 w1) (h2 : Below w1.heap.size w1 w2) (h3 : Below B w2 w3) (hf : FrT w2 w3) (hkind : ∀ kp ∈ kps, KindAt w0 B rb kp) (hl : Local w0 lb r ka kc ta tc ca cc)
    (hj : j < r.keys.length) (ht : t = textOf r.texts j) (hc : c = clsW wi (clsOf r.classes j))
    (hrep : RepB w3 B rb kn rc kn (valCells (vs ++ (vals wi r).take j) ++ [.string t, .int .u8 c]) (vs.length + j + 1)) :
    RepB w3 B rb kn rc kn (valCells (vs ++ (vals wi r).take (j + 1))) (vs.length + (j + 1)) ∧ (∀ kp ∈ kps, KindAt w3 B rb kp) ∧ Below B w w3 ∧ Local w3 lb r ka kc ta tc ca cc := by
  have s1 := h1.size
  refine ⟨?_, fun kp hkp => (((hkind kp hkp).frT (FrT.ofBelow h1)).frT (FrT.ofBelow h2)).frT hf, ((hbel.trans (h1.mono hB)).trans (h2.mono (by omega))).trans h3, ((hl.later h1).later h2).frT hf⟩
  rw [vals_take_succ wi r hj, ← List.append_assoc, valCells_snoc]
  subst ht hc
  exact hrep

set_option maxRecDepth 100000 in
set_option maxHeartbeats 3200000 in
theorem build_any (wi : Bool) (a : Option Addr) (c : Nat) (rs : List Rec) (w : World) (h : RecsAt w 0 (.slice a rs.length c) rs) (hwf : ∀ r ∈ rs, RecWf r)
    (hn : rs.length ≤ 1048576) (hbk : ∀ r ∈ rs, r.keys.length ≤ 1048576 ∧ r.texts.length ≤ 1048576 ∧ r.classes.length ≤ 1048576) (hbv : ∀ k, (vsOf wi (rs.take k)).length ≤ 1048576) :
    Calls Try.prog 11 #[.slice a rs.length c, .bool wi] w fun e w' => ∃ kps, e = .returned (.pointer (some ⟨w.heap.size, 0, none⟩)) ∧ kps.map (·.2) = psOf wi 0 rs ∧
      RepB w' w.heap.size w.heap.size rs.length (recCells kps) rs.length (valCells (vsOf wi rs)) (vsOf wi rs).length ∧ (∀ kp ∈ kps, KindAt w' w.heap.size w.heap.size kp) ∧ Below w.heap.size w w' := by
  go_enter Try.func11, Try.ntmps11
  go_wp2_with (go_at_call 23; refine (new_any _).mono ?_; rintro e w1 ⟨rfl, hrep1, hbel1⟩)
  go_loopw [6] (fun i wr => ∃ (k : Nat) (kps : List (Nat × PRec)), k ≤ rs.length ∧ i = .int .i64 k ∧ kps.map (·.2) = psOf wi 0 (rs.take k) ∧
      RepB wr w.heap.size w.heap.size k (recCells kps) k (valCells (vsOf wi (rs.take k))) (vsOf wi (rs.take k)).length ∧ (∀ kp ∈ kps, KindAt wr w.heap.size w.heap.size kp) ∧ Below w.heap.size w wr)
    (fun i _ => rs.length - (intOf i).toNat)
  case atStart => exact ⟨0, [], Nat.zero_le _, rfl, by simp [psOf], by simpa [recCells, valCells, vsOf] using hrep1, by simp, hbel1⟩
  case round =>
    obtain ⟨k, kps, hk, rfl, hps, hrep, hkind, hbel⟩ := hrel
    clear hrep1 hbel1
    by_cases hlt : k < rs.length
    · obtain ⟨b, o, rfl, hx⟩ := h.pos hlt
      have hr := hx k rs[k] (List.getElem?_eq_getElem hlt)
      have hmem : rs[k] ∈ rs := List.getElem_mem hlt
      have hrwf := hwf _ hmem
      have hrb := hbk _ hmem
      have hbv1 := hbv (k + 1)
      have hbv0 := hbv k
      rw [List.take_succ_eq_append_getElem hlt] at hbv1
      have hts : Hid (rs.take (k + 1) = rs.take k ++ [rs[k]]) := List.take_succ_eq_append_getElem hlt
      obtain ⟨r, hrr⟩ : ∃ r, r = rs[k] := ⟨_, rfl⟩
      rw [← hrr] at hr hrwf hrb hbv1 hts
      rw [vsOf_snoc, List.length_append, length_vals] at hbv1
      obtain ⟨vs, hvs⟩ : ∃ vs, vs = vsOf wi (rs.take k) := ⟨_, rfl⟩
      rw [← hvs] at hrep hbv0 hbv1
      have HVS := hid hvs
      have HPS := hid hps
      clear hx hmem hwf hbk hbv hrr h hps hvs
      obtain ⟨ka, kc, ta, tc, ca, cc, _, h0, h1, h2, h3, h4, hrk, hrt, hrc⟩ := hr
      replace h0 := (hbel.cell (World.block_lt_of_cell? w _ h0)).trans h0
      replace h1 := (hbel.cell (World.block_lt_of_cell? w _ h1)).trans h1
      replace h2 := (hbel.cell (World.block_lt_of_cell? w _ h2)).trans h2
      replace h3 := (hbel.cell (World.block_lt_of_cell? w _ h3)).trans h3
      replace h4 := (hbel.cell (World.block_lt_of_cell? w _ h4)).trans h4
      obtain ⟨hb1, hb2, hb3⟩ := hrb
      have hrow : ∀ W, Below w.heap.size w W → RowAt W 0 (.slice ka r.keys.length kc) (strCells r.keys) := fun W hW => hrk.up (Up.ofBelow hW)
      have hrowT : ∀ W, Below w.heap.size w W → RowAt W 0 (.slice ta r.texts.length tc) (strCells r.texts) := fun W hW => hrt.up (Up.ofBelow hW)
      have hrowC : ∀ W, Below w.heap.size w W → RowAt W 0 (.slice ca r.classes.length cc) (intCells r.classes) := fun W hW => hrc.up (Up.ofBelow hW)
      clear hrk hrt hrc
      have hbase := hbel.size
      obtain ⟨wi0, hwi0⟩ : ∃ x, x = wi := ⟨_, rfl⟩
      rw [← hwi0] at HVS HPS
      have HWI := hid hwi0
      clear hwi0
      cases wi
      all_goals
        go_wp2
        go_region_held3 (fun w' => w'.cell? ⟨wr.heap.size, 0, none⟩ = some (.string r.word) ∧ w'.cell? ⟨wr.heap.size, 2, none⟩ = some (.slice ka r.keys.length kc))
          (first
            | go_keep
            | exact ⟨d0, d2⟩
            | exact ⟨g0, g2⟩)
          (first
            | (go_at_call 21; refine (cloneStrs_keys _ _ _ _ (hrow _ ((hbel.alloc hbase _).drew)) hb1).mono ?_; rintro e w2 ⟨sa, sc, rfl, hown2, hbel2⟩; have hlb2 := (hbel2.block wr.heap.size (by simp)).trans (heap_alloc_new wr _); obtain ⟨d0, _, d2, _, _⟩ := local_cells hlb2; have HL2 : Local w2 wr.heap.size r ka kc ta tc ca cc := hlb2; clear hlb2; have hrep2 := hrep.later ((((Below.refl _ _).alloc (Nat.le_refl _) _).drew).trans (hbel2.mono (by simp))))
            | (go_at_call 24; refine (addKind_any _ _ _ _ _ _ _ _ _ _ _ _ _ hrep2 (by omega) (by have := hbel2.size; simp at this; omega)).mono ?_; rintro e w3 ⟨rfl, hkb3, hrep3, hbel3, hfr3⟩; have HL3 := HL2.frT hfr3; obtain ⟨g0, _, g2, _, _⟩ := local_cells HL3))
        obtain ⟨hkind3, hbel03⟩ := mid_facts (f := vs.length) hbel hbase (((Below.refl _ _).alloc (Nat.le_refl _) _).drew) hbel2 hown2 hkb3 hbel3 hfr3 hkind
        obtain ⟨kb, hkb⟩ : ∃ kb, kb = w2.heap.size := ⟨_, rfl⟩
        rw [← hkb] at hkind3 ⊢
        clear hkb hkb3 hown2 hrep2 hbel2 hbel3 hfr3 d0 d2 HL2 hrep hkind h0 h1 h2 h3 h4 hrow
        have hbase3 := hbel03.size
        go_wp2_with (first
          | (go_at_call 25; refine (addRecord_any _ _ _ _ _ kb _ _ _ hrep3 (by omega) hbase3).mono ?_; rintro e w4 ⟨rfl, hrep4, hbel4, hfr4⟩))
        have hkind4 : ∀ kp ∈ kps ++ [(kb, (⟨r.word, r.bare && !wi0, r.keys, vs.length⟩ : PRec))], KindAt w4 w.heap.size w.heap.size kp := by
          obtain rfl := HWI.out
          intro kp hkp
          exact (hkind3 kp (by simpa using hkp)).frT hfr4
        have hrep4' : RepB w4 w.heap.size w.heap.size (k + 1) (recCells (kps ++ [(kb, (⟨r.word, r.bare && !wi0, r.keys, vs.length⟩ : PRec))])) (k + 1) (valCells (vs ++ (vals wi0 r).take 0)) (vs.length + 0) := by
          rw [recCells_snoc]; simpa using hrep4
        have hbel04 := hbel03.trans hbel4
        have HL4 := HL3.frT hfr4
        obtain ⟨kps1, hkps1⟩ : ∃ x, x = kps ++ [(kb, (⟨r.word, r.bare && !wi0, r.keys, vs.length⟩ : PRec))] := ⟨_, rfl⟩
        rw [← hkps1] at hkind4 hrep4'
        have HKPS := hid hkps1
        clear hkps1 hkind3 hrep4 hbel03 hbel4 hfr4 HL3 hrep3 g0 g2
        go_loopw [10] (fun j wj => ∃ jn : Nat, jn ≤ r.keys.length ∧ j = .int .i64 jn ∧ RepB wj w.heap.size w.heap.size (k + 1) (recCells kps1) (k + 1) (valCells (vs ++ (vals wi0 r).take jn)) (vs.length + jn) ∧
            (∀ kp ∈ kps1, KindAt wj w.heap.size w.heap.size kp) ∧ Below w.heap.size w wj ∧ Local wj wr.heap.size r ka kc ta tc ca cc)
          (fun j _ => r.keys.length - (intOf j).toNat)
        case atStart => exact ⟨0, Nat.zero_le _, rfl, hrep4', hkind4, hbel04, HL4⟩
        case round =>
          clear hrep4' hkind4 hbel04 HL4
          obtain ⟨jn, hjn, rfl, hrepj, hkindj, hbelj, hlj⟩ := hrel
          obtain ⟨l0, l1, l2, l3, l4⟩ := local_cells hlj
          have hbasej := hbelj.size
          by_cases hjl : jn < r.keys.length
          · by_cases hc0 : (clsOf r.classes jn == 0) = true
            all_goals
              go_wp2_with (first
                | (go_at_call 26; refine (classAt_any (B := 0) _ _ _ _ _ _ _ _ _ r.classes jn _ (hrowC _ hbelj) hrwf.1 hb3 (by omega)).mono ?_; rintro e w5 ⟨rfl, hb5⟩; have HL5 := hlj.later hb5; obtain ⟨m0, m1, m2, m3, m4⟩ := local_cells HL5; have hs5 := hb5.size)
                | (go_at_call 28; refine (textAt_any (B := 0) _ _ _ _ _ _ _ _ _ r.texts jn _ (hrowT _ (hbelj.trans (hb5.mono hbasej))) hb2 (by omega)).mono ?_; rintro e w6 ⟨rfl, hb6⟩; have hs6 := hb6.size)
                | (go_at_call 27; refine (addValue_any _ _ _ _ _ _ _ _ _ _ ((hrepj.later hb5).later hb6) (by omega) (by omega)).mono ?_; rintro e w7 ⟨rfl, hrep7, hbel7, hfr7⟩))
              go_roundw
              case rel =>
                obtain ⟨q1, q2, q3, q4⟩ := inner_step (wi := wi0) hbasej hbelj hb5 hb6 hbel7 hfr7 hkindj hlj hjl rfl (by obtain rfl := HWI.out; simp at hc0; simp [clsW, hc0]) hrep7
                exact ⟨jn + 1, by omega, by go_num, q1, q2, q3, q4⟩
              case measure => simp [intOf]; omega
          · go_wp2
            go_roundw
            case rel =>
              obtain rfl : jn = r.keys.length := by omega
              have e1 : vsOf wi0 (rs.take (k + 1)) = vs ++ vals wi0 r := by rw [hts.out, vsOf_snoc, ← HVS.out]
              obtain rfl := HWI.out
              refine ⟨k + 1, kps1, by omega, by go_num, ?_, ?_, hkindj, hbelj⟩
              · rw [HKPS.out, hts.out, psOf_snoc, List.map_append, HPS.out, ← HVS.out]; simp
              · rw [e1]
                rw [List.take_of_length_le (by simp [vals])] at hrepj
                rw [List.length_append, length_vals]
                exact hrepj
            case measure => simp [intOf]; omega
    · go_wp2
      go_ret
      have hkn : k = rs.length := by omega
      subst hkn
      rw [List.take_length] at hps hrep
      exact ⟨kps, rfl, hps, hrep, hkind, hbel⟩
end Go.Proofs.Qxb6601073a
