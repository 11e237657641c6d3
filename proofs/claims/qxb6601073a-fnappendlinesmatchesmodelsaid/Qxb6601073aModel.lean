import Derived.Test.Qxb6601073aModelP
namespace Go.Proofs.Qxb6601073a
open Go.RowKit
set_option linter.unusedVariables false

/-- what is appended to a row of strings of the call's own leaves the bytes as they were -/
theorem OutAt.other {w : World} {Bo n : Nat} {v0 : Value} {xs : List Value} {wj wk : World} {a : Option Addr} {N c : Nat} {l : List UInt8} {B pn : Nat} {pv pv' : Value} {pxs : List Value}
    (h : OutAt w Bo n v0 xs wj a N c l) (hp : wj.ownsRow B 9 1 pv pn pxs) (hB : w.heap.size ≤ B) (hg : Grew wj wk pv pv') : OutAt w Bo n v0 xs wk a N c l := by
  have hlow : ∀ k, k < w.heap.size → wk.heap[k]? = wj.heap[k]? := fun k hk => hg.grown.block k (Nat.lt_of_lt_of_le hk h.grew.grown.size) (fun e => by have := (hp.lt k e.symm).1; omega)
  refine ⟨owns_grew hp h.own hg (by decide), ⟨⟨hg.grown.os.trans h.grew.grown.os, hg.grown.tape.trans h.grew.grown.tape, hg.grown.output.trans h.grew.grown.output, Nat.le_trans h.grew.grown.size hg.grown.size, fun k hk hne => (hlow k hk).trans (h.grew.grown.block k hk hne)⟩, h.grew.place⟩, h.len, Nat.le_trans h.base hg.grown.size, fun k x e f hx h5 => (hlow k (lt_of_block hx)).trans (h.fr5 k x e f hx h5)⟩

/-- blocks of other types than strings stand behind an append onto a row of strings -/
theorem keep9 {wj wk : World} {B pn t k : Nat} {pv pv' : Value} {pxs : List Value} {c : Array Value} {f : Nat × Nat} (hp : wj.ownsRow B 9 1 pv pn pxs) (hg : Grew wj wk pv pv') (h : wj.heap[k]? = some (.cells c t f)) (ht : t ≠ 9) : wk.heap[k]? = some (.cells c t f) := by
  refine (hg.grown.block k (lt_of_block h) (fun e => ?_)).trans h
  obtain ⟨c1, h1⟩ := owns_type hp e.symm
  rw [h] at h1; injection h1 with h1; injection h1 with _ h1 _; exact ht h1

theorem RowAt.cellAt {w : World} {B b o n c j : Nat} {xs : List Value} {u : Value} (h : RowAt w B (.slice (some ⟨b, o, none⟩) n c) xs) (hj : xs[j]? = some u) : w.cell? ⟨b, o + j, none⟩ = some u := by
  rcases h.2 with ⟨hv, _⟩ | ⟨x, c', hv, hx⟩
  · cases hv
  · injection hv with h1 h2 h3
    injection h1 with h1
    subst h1
    have := (hx j u hj).1
    rwa [Addr.add_lit] at this

theorem word_nil (s : ByteArray) : s.toList = [] ↔ s.size = 0 := by
  rw [ByteArray.toList_eq, ← size_list]
  exact List.length_eq_zero_iff.symm

theorem size_le_lenJ (ps : List ByteArray) {m : Nat} (h : m < ps.length) : (ps.getD m ⟨#[]⟩).size ≤ lenJ ps := by
  induction ps generalizing m with
  | nil => simp at h
  | cons p ps ih =>
    cases m with
    | zero => simp only [List.getD_cons_zero, lenJ, List.map_cons, List.sum_cons, List.length_cons]; omega
    | succ m =>
      have := ih (m := m) (by simpa using h)
      simp only [List.getD_cons_succ, lenJ, List.map_cons, List.sum_cons, List.length_cons] at this ⊢
      omega
theorem join_step {ps : List ByteArray} {fn m : Nat} (h1 : fn ≤ m) (h2 : m < ps.length) :
    joinS ((ps.drop fn).take (m + 1 - fn)) = joinS ((ps.drop fn).take (m - fn)) ++ (if m = fn then [] else [32]) ++ (ps.getD m ⟨#[]⟩).data.toList := by
  have e : (ps.drop fn).take (m + 1 - fn) = (ps.drop fn).take (m - fn) ++ [ps.getD m ⟨#[]⟩] := by
    rw [show m + 1 - fn = (m - fn) + 1 by omega, List.take_succ_eq_append_getElem (by rw [List.length_drop]; omega), List.getElem_drop]
    congr 2
    rw [List.getD, List.getElem?_eq_getElem h2]
    simp only [Option.getD_some]
    congr 1
    omega
  rw [e, joinS_snoc]
  have e3 : ((ps.drop fn).take (m - fn) = []) ↔ m = fn := by
    rw [List.eq_nil_iff_length_eq_zero, List.length_take, List.length_drop]; omega
  by_cases hm : m = fn
  · rw [if_pos (e3.2 hm), if_pos hm]; rfl
  · rw [if_neg (fun q => hm (e3.1 q)), if_neg hm]; rfl

theorem made_facts {w0 w1 : World} {o : Obj} (hg : (w0.alloc o).grownBy w1 none) : Below (w0.alloc o).heap.size (w0.alloc o) w1 := ⟨hg.os, hg.tape, hg.output, hg.size, fun k hk => hg.block k hk (by simp)⟩

/-- one piece more -/
theorem piece_step {W0 wj w5 w6 w8 : World} {Bo : Nat} {v0 : Value} {a1 : Option Addr} {N1 c1 : Nat} {L1 : List UInt8} {r : Rec} {jn lb pn pcap c8 : Nat} {pa a8 ka : Option Addr} {kc : Nat} {ta : Option Addr} {tc : Nat} {ca : Option Addr} {cc : Nat} {P : ByteArray} {o : Obj}
    (hpj : wj.ownsRow W0.heap.size 9 1 (.slice pa pn pcap) pn (strCells (piecesTo r jn))) (hb5 : Below wj.heap.size wj w5) (hb6 : Below w5.heap.size w5 w6) (hoj : OutAt W0 Bo 0 v0 [] wj a1 N1 c1 L1) (hlj : Local wj lb r ka kc ta tc ca cc)
    (hc : ¬ clsOf r.classes jn = 0) (hpn : pn = (piecesTo r jn).length) (hP : pieceOf r jn = P) (hown8 : w8.ownsRow W0.heap.size 9 1 (.slice a8 (pn + 1) c8) (pn + 1) (strCells (piecesTo r jn) ++ [.string P])) (hg8 : Grew (w6.alloc o) w8 (.slice pa pn pcap) (.slice a8 (pn + 1) c8)) :
    Hid (pn + 1 = (piecesTo r (jn + 1)).length) ∧ w8.ownsRow W0.heap.size 9 1 (.slice a8 (pn + 1) c8) (pn + 1) (strCells (piecesTo r (jn + 1))) ∧ OutAt W0 Bo 0 v0 [] w8 a1 N1 c1 L1 ∧ Local w8 lb r ka kc ta tc ca cc := by
  have e : piecesTo r (jn + 1) = piecesTo r jn ++ [P] := by
    rw [← hP]
    show (if clsOf r.classes jn = 0 then piecesTo r jn else piecesTo r jn ++ [pieceOf r jn]) = _
    rw [if_neg hc]
  have hown := (owns_later (owns_later hpj hb5) hb6).alloc o
  refine ⟨?_, ?_, (((hoj.later hb5).later hb6).alloc o).other hown (Nat.le_refl _) hg8, keep9 hown hg8 (((hlj.later hb5).later hb6).later ((Below.refl _ _).alloc (Nat.le_refl _) o)) (by decide)⟩
  · show _ = _
    rw [e, List.length_append, ← hpn]; rfl
  · rw [e]
    simpa [strCells] using hown8

set_option maxRecDepth 100000 in
set_option maxHeartbeats 3200000 in
theorem model_any (a : Option Addr) (c : Nat) (rs : List Rec) (w : World) (h : RecsAt w 0 (.slice a rs.length c) rs) (hwf : ∀ r ∈ rs, RecWf r) (hw : wt rs ≤ 1048576) :
    Calls Try.prog 13 #[.slice a rs.length c] w fun e w' => ∃ a' N c', e = .returned (.slice a' N c') ∧ w'.ownsRow w.heap.size 5 1 (.slice a' N c') N (bcs (modelR rs)) ∧ Below w.heap.size w w' := by
  obtain ⟨b1, b2, b3⟩ := bounds_of_wt hw
  obtain ⟨i5, hi5, hz50, hz51, hz52⟩ := info_parts Try.info5
  obtain ⟨i9, hi9, hz90, hz91, hz92⟩ := info_parts Try.info9
  go_enter Try.func13, Try.ntmps13
  go_wp2
  have HO : OutAt (w.alloc (.cells #[] 5)) w.heap.size 0 (.slice (some ⟨w.heap.size, 0, none⟩) 0 0) [] (w.alloc (.cells #[] 5)) (some ⟨w.heap.size, 0, none⟩) 0 0 [] :=
    OutAt.start (World.ownsRow_made w #[] 0 (Nat.le_refl _) (Nat.zero_le _) rfl) (by simp)
  have hB0 : Below w.heap.size w (w.alloc (.cells #[] 5)) := (Below.refl _ _).alloc (Nat.le_refl _) _
  generalize w.alloc (.cells #[] 5) = W0 at HO hB0 ⊢
  have hBel : ∀ {wj : World} {a1 : Option Addr} {N1 c1 : Nat} {l : List UInt8}, OutAt W0 w.heap.size 0 (.slice (some ⟨w.heap.size, 0, none⟩) 0 0) [] wj a1 N1 c1 l → Below w.heap.size w wj := fun ho =>
    ho.grew.below hB0 hB0.size (fun k hk => by simp [Value.ownBlock] at hk; omega)
  go_loopw [3, 4] (fun out i wr => ∃ (k : Nat) (a1 : Option Addr) (N1 c1 : Nat), k ≤ rs.length ∧ i = .int .i64 k ∧ out = .slice a1 N1 c1 ∧ OutAt W0 w.heap.size 0 (.slice (some ⟨w.heap.size, 0, none⟩) 0 0) [] wr a1 N1 c1 (modelR (rs.take k)))
    (fun _ i _ => rs.length - (intOf i).toNat)
  case atStart => exact ⟨0, _, _, _, Nat.zero_le _, rfl, rfl, by simpa [modelR] using HO⟩
  case round =>
    obtain ⟨k, a1, N1, c1, hk, rfl, rfl, ho1⟩ := hrel
    obtain ⟨w0, hw0⟩ : ∃ x, x = wr := ⟨_, rfl⟩
    subst hw0
    clear HO
    by_cases hlt : k < rs.length
    · obtain ⟨b, o, rfl, hx⟩ := h.pos hlt
      have hr := hx k rs[k] (List.getElem?_eq_getElem hlt)
      have hmem : rs[k] ∈ rs := List.getElem_mem hlt
      have hrwf := hwf _ hmem
      have hrb := b2 _ hmem
      have hts : Hid (rs.take (k + 1) = rs.take k ++ [rs[k]]) := List.take_succ_eq_append_getElem hlt
      have hpre : (modelR (rs.take k)).length ≤ 1048576 := by
        rw [model_lines]
        have q1 := linesR_wt false (rs.take k)
        have q2 := sumR_take_le rs k
        have q3 : (rs.take k).length ≤ rs.length := List.length_take_le' _ _
        unfold wt at hw; omega
      have hrw : recWt rs[k] ≤ 1048576 := by have := recWt_le hmem; unfold wt at hw; omega
      obtain ⟨r, hrr⟩ : ∃ r, r = rs[k] := ⟨_, rfl⟩
      rw [← hrr] at hr hrwf hrb hts hrw
      obtain ⟨L1, hL1⟩ : ∃ L1, L1 = modelR (rs.take k) := ⟨_, rfl⟩
      rw [← hL1] at ho1 hpre
      have HL1 := hid hL1
      have HN1 : Hid (N1 = L1.length) := by have := ho1.len; rw [Nat.zero_add] at this; exact this
      have hbel := hBel ho1
      clear hx hmem hwf hrr h hL1 b2 b3
      obtain ⟨ka, kc, ta, tc, ca, cc, _, h0, h1, h2, h3, h4, hrk, hrt, hrc⟩ := hr
      replace h0 := (hbel.cell (World.block_lt_of_cell? w _ h0)).trans h0
      replace h1 := (hbel.cell (World.block_lt_of_cell? w _ h1)).trans h1
      replace h2 := (hbel.cell (World.block_lt_of_cell? w _ h2)).trans h2
      replace h3 := (hbel.cell (World.block_lt_of_cell? w _ h3)).trans h3
      replace h4 := (hbel.cell (World.block_lt_of_cell? w _ h4)).trans h4
      obtain ⟨hb1, hb2, hb3⟩ := hrb
      have hrow : ∀ W, Below w.heap.size w W → RowAt W 0 (.slice ka r.keys.length kc) (strCells r.keys) := fun W hW => hrk.up (Up.ofBelow hW)
      have hrowT : ∀ W, Below w.heap.size w W → RowAt W 0 (.slice ta r.texts.length tc) (strCells r.texts) := fun W hW => hrt.up (Up.ofBelow hW)
      have hrowC : ∀ W, Below w.heap.size w W → RowAt W 0 (.slice ca r.classes.length cc) (intCells r.classes) := fun W hW => hrc.up (Up.ofBelow hW)
      clear hrk hrt hrc
      have hs0 := ho1.size
      have hby : i9.bytes * (r.keys.length + 1) ≤ 281474976710656 := by rw [hz92]; omega
      have hm1 : r.keys.length + 1 ≤ maxLen := by unfold maxLen; omega
      rcases Bool.eq_false_or_eq_true r.bare with hbare | hbare
      all_goals
        go_wp2_with (first
          | (at_make; refine wpList_make_own _ rfl _ _ 35 rfl W0.heap.size 9 i9 (.string ⟨#[]⟩) 1 Try.underlying35 hi9 hz90 hz91 _ _ _ (r.keys.length + 1) rfl rfl (by omega) hby hm1 (by simp; omega) ?_; intro w1 hown1 hg1; have hbA := made_facts hg1; have hoA := (ho1.alloc _).later hbA; have HLA : Local w1 w0.heap.size r ka kc ta tc ca cc := (by unfold Local; rw [hbare]; exact (hbA.block w0.heap.size (by simp)).trans (heap_alloc_new w0 _)); obtain ⟨l0, l1, l2, l3, l4⟩ := local_cells HLA; have hsA := hbA.size; simp at hsA; have hownA : w1.ownsRow W0.heap.size 9 1 (.slice (some ⟨w0.heap.size + 1, 0, none⟩) 0 (r.keys.length + 1)) 0 [] := (by simpa using hown1); clear hown1)
          | (at_builtin; refine wpList_append_src _ rfl (.tmp 28) (.tmp 31) 35 35 rfl W0.heap.size 9 i9 (.string ⟨#[]⟩) 1 16 Try.underlying35 hi9 hz90 hz91 hz92 rfl (by decide) (.slice (some ⟨w0.heap.size + 1, 0, none⟩) 0 (r.keys.length + 1)) 0 [] rfl (hownA.alloc _) _ 1 [.string r.word] rfl (src_one Try.underlying35 _ rfl rfl) (by unfold maxLen; omega) (by omega) (by simp; omega) ?_; intro a2 c2 w2 hown2 hg2; have ho2 := (hoA.alloc _).other (hownA.alloc _) (Nat.le_refl _) hg2; have HL2 : Local w2 w0.heap.size r ka kc ta tc ca cc := keep9 (hownA.alloc _) hg2 (HLA.later ((Below.refl _ _).alloc (Nat.le_refl _) _)) (by decide)))
        clear h0 h1 h2 h3 h4 l0 l1 l2 l3 l4 hoA HLA hownA hg1 hg2 hbA ho1
        go_loopw [6, 7] (fun pc j wj => ∃ (jn : Nat) (pa : Option Addr) (pn pcap : Nat), jn ≤ r.keys.length ∧ j = .int .i64 jn ∧ pc = .slice pa pn pcap ∧ Hid (pn = (piecesTo r jn).length) ∧ wj.ownsRow W0.heap.size 9 1 (.slice pa pn pcap) pn (strCells (piecesTo r jn)) ∧
            OutAt W0 w.heap.size 0 (.slice (some ⟨w.heap.size, 0, none⟩) 0 0) [] wj a1 N1 c1 L1 ∧ Local wj w0.heap.size r ka kc ta tc ca cc)
          (fun _ j _ => r.keys.length - (intOf j).toNat)
        case atStart => exact ⟨0, a2, 1, c2, Nat.zero_le _, rfl, rfl, rfl, by simpa [strCells, piecesTo] using hown2, ho2, HL2⟩
        case round =>
          clear hown2 ho2 HL2
          obtain ⟨jn, pa, pn, pcap, hjn, rfl, rfl, HPN, hpj, hoj, hlj⟩ := hrel
          obtain ⟨l0, l1, l2, l3, l4⟩ := local_cells hlj
          have hbelj := hBel hoj
          have hsj := hoj.size
          have hpl := length_pieces r jn
          rw [← HPN.out] at hpl
          obtain ⟨hpl1, hpl2⟩ := hpl
          by_cases hjl : jn < r.keys.length
          · by_cases hc0 : (clsOf r.classes jn == 0) = true
            · go_wp2_with (go_at_call 26; refine (classAt_any (B := 0) _ _ _ _ _ _ _ _ _ r.classes jn _ (hrowC _ hbelj) hrwf.1 hb3 (by omega)).mono ?_; rintro e w5 ⟨rfl, hb5⟩)
              go_roundw
              case rel =>
                have hcz : clsOf r.classes jn = 0 := by simpa using hc0
                have e : piecesTo r (jn + 1) = piecesTo r jn := by unfold piecesTo; rw [if_pos hcz]; cases jn <;> rfl
                exact ⟨jn + 1, pa, pn, pcap, by omega, by go_num, rfl, by show _ = _; rw [e]; exact HPN.out, by rw [e]; exact owns_later hpj hb5, hoj.later hb5, hlj.later hb5⟩
              case measure => simp [intOf]; omega
            · have hc1 : (clsOf r.classes jn == 0) = false := by simpa using hc0
              have hcz : ¬ clsOf r.classes jn = 0 := by simpa using hc1
              have HCZ := hid hcz
              clear hc0 hcz
              have hm2 : pn + 1 ≤ maxLen := by unfold maxLen; omega
              obtain ⟨kb, ko, rfl, _, _⟩ := (hrow _ hbelj).pos (i := jn) (by rw [length_strCells]; exact hjl)
              have hks : (r.keys.getD jn ⟨#[]⟩).size ≤ 1048576 := by
                have q1 := sumS_take_succ r.keys hjl
                have q2 := sumS_take_le r.keys (jn + 1)
                unfold recWt strsWt at hrw; omega
              have hss : (shownB (textOf r.texts jn) (clsOf r.classes jn)).size ≤ 1048583 := by
                have q1 := shown_le (textOf r.texts jn) (clsOf r.classes jn)
                have q2 := sumS_take_text r.texts jn
                have q3 := sumS_take_le r.texts (jn + 1)
                unfold recWt strsWt at hrw; omega
              obtain ⟨key, hkeyE⟩ : ∃ key, key = r.keys.getD jn ⟨#[]⟩ := ⟨_, rfl⟩
              obtain ⟨shw, hshE⟩ : ∃ x, x = shownB (textOf r.texts jn) (clsOf r.classes jn) := ⟨_, rfl⟩
              rw [← hkeyE] at hks
              rw [← hshE] at hss
              have HKE := hid hkeyE
              have HSE := hid hshE
              clear hkeyE hshE
              go_wp2_with (first
                  | (go_at_call 26; refine (classAt_any (B := 0) _ _ _ _ _ _ _ _ _ r.classes jn _ (hrowC _ hbelj) hrwf.1 hb3 (by omega)).mono ?_; rintro e w5 ⟨rfl, hb5⟩; have HL5 := hlj.later hb5; obtain ⟨m0, m1, m2, m3, m4⟩ := local_cells HL5; have hs5 := hb5.size; have hbw5 := hbelj.trans (hb5.mono hbelj.size))
                  | (go_at_call 28; refine (textAt_any (B := 0) _ _ _ _ _ _ _ _ _ r.texts jn _ (hrowT _ hbw5) hb2 (by omega)).mono ?_; rintro e w6 ⟨rfl, hb6⟩; have HL6 := HL5.later hb6; obtain ⟨q0, q1, q2, q3, q4⟩ := local_cells HL6; have hs6 := hb6.size; have hkey := (hrow _ (hbw5.trans (hb6.mono hbw5.size))).cellAt (strCells_at hjl); rw [← HKE.out] at hkey)
                  | (go_at_call 29; refine (shown_any _ _ _).mono ?_; rintro e w7 ⟨rfl, hq⟩; subst w7; rw [← HSE.out])
                  | (at_builtin; refine wpList_append_src _ rfl (.tmp 61) (.tmp 63) 35 35 rfl W0.heap.size 9 i9 (.string ⟨#[]⟩) 1 16 Try.underlying35 hi9 hz90 hz91 hz92 rfl (by decide) (.slice pa pn pcap) pn (strCells (piecesTo r jn)) rfl ((owns_later (owns_later hpj hb5) hb6).alloc _) _ 1 _ rfl (src_one Try.underlying35 _ rfl rfl) hm2 (by omega) (by simp; omega) ?_; intro a8 c8 w8 hown8 hg8))
              go_roundw
              case rel =>
                obtain ⟨t1, t2, t3, t4⟩ := piece_step hpj hb5 hb6 hoj hlj HCZ.out HPN.out (by unfold pieceOf; first | (rw [if_pos hbare, HSE.out]; done) | (rw [if_neg (by rw [hbare]; decide), HKE.out, HSE.out])) hown8 hg8
                exact ⟨jn + 1, a8, pn + 1, c8, by omega, by go_num, rfl, t1, t2, t3, t4⟩
              case measure => simp [intOf]; omega
          · have hjE : jn = r.keys.length := by omega
            obtain ⟨ps, hpsE⟩ : ∃ ps, ps = piecesTo r jn := ⟨_, rfl⟩
            have hlenJ : lenJ ps ≤ 1048577 := by
              have q1 := lenJ_pieces r jn hjn
              have q2 := sizeRTo_wt false r jn hjn
              rw [hpsE]; omega
            have HPS : Hid (ps = piecesTo r r.keys.length) := by rw [← hjE]; exact hpsE
            rw [← hpsE] at hpj HPN
            have HPL : Hid (pn = ps.length) := HPN
            clear hpsE HPN hjE l0 l1 l3 l4 hlj
            obtain ⟨pg, rfl, hpc⟩ := owns_cells hpj (by omega)
            obtain ⟨wp, hwp⟩ : ∃ x, x = wr := ⟨_, rfl⟩
            subst hwp
            go_wp2
            clear l2
            go_loop [10] (fun f => ∃ fn : Nat, fn ≤ pn ∧ f = .int .i64 fn ∧ Hid (∀ i, i < fn → (ps.getD i ⟨#[]⟩).size = 0)) (fun f => pn - (intOf f).toNat)
            case atStart => exact ⟨0, Nat.zero_le _, rfl, fun i hi => absurd hi (Nat.not_lt_zero _)⟩
            case round =>
              obtain ⟨fn, hfn, rfl, HF⟩ := hrel
              by_cases hfl : fn < pn
              · have hcell := hpc fn _ (strCells_at (by rw [← HPL.out]; exact hfl))
                obtain ⟨st, hst⟩ : ∃ x, x = ps.getD fn ⟨#[]⟩ := ⟨_, rfl⟩
                rw [← hst] at hcell
                have HSTE := hid hst
                clear hst
                by_cases hz : st.size = 0
                · have hz' : st.toList = [] := (word_nil st).2 hz
                  go_wp2
                  go_round
                  case rel =>
                    refine ⟨fn + 1, by omega, by go_num, fun i hi => ?_⟩
                    by_cases hif : i = fn
                    · subst hif; rw [← HSTE.out]; exact hz
                    · exact HF.out i (by omega)
                  case measure => simp [intOf]; omega
                · have hz' : st.toList.isEmpty = false := by
                    cases he : st.toList with
                    | nil => exact absurd ((word_nil st).1 he) hz
                    | cons x xs => rfl
                  have HD : Hid (ps.dropWhile (fun p => p.size == 0) = ps.drop fn) := drop_first HF.out (by rw [← HPL.out]; exact hfn) (fun _ => by rw [← HSTE.out]; exact hz)
                  go_wp2
                  go_loopw [3, 11] (fun out mm wj => ∃ (m : Nat) (a3 : Option Addr) (N3 c3 : Nat), fn ≤ m ∧ m ≤ pn ∧ mm = .int .i64 m ∧ out = .slice a3 N3 c3 ∧ OutAt W0 w.heap.size 0 (.slice (some ⟨w.heap.size, 0, none⟩) 0 0) [] wj a3 N3 c3 (L1 ++ joinS ((ps.drop fn).take (m - fn))) ∧
                      wj.ownsRow W0.heap.size 9 1 (.slice (some ⟨pg, 0, none⟩) pn pcap) pn (strCells ps))
                    (fun _ mm _ => pn - (intOf mm).toNat)
                  case atStart => exact ⟨fn, a1, N1, c1, Nat.le_refl _, hfn, rfl, rfl, by simpa [joinS] using hoj, hpj⟩
                  case round =>
                    obtain ⟨m, a3, N3, c3, hm3, hm4, rfl, rfl, ho3, hp3⟩ := hrel
                    have hN3 : N3 + 1048578 ≤ 1099511627776 := by
                      have q1 := ho3.len
                      rw [Nat.zero_add, List.length_append] at q1
                      have q2 := joinS_le ((ps.drop fn).take (m - fn))
                      have q3 := lenJ_take (ps.drop fn) (m - fn)
                      have q4 := lenJ_drop ps fn
                      omega
                    by_cases hml : m < pn
                    · have hmp : m < ps.length := by rw [← HPL.out]; exact hml
                      obtain ⟨g3, hge, hpc3⟩ := owns_cells hp3 (by omega)
                      have hge' : pg = g3 := by injection hge with hge; injection hge
                      subst hge'
                      have hcell3 := hpc3 m _ (strCells_at hmp)
                      obtain ⟨sm, hsm⟩ : ∃ x, x = ps.getD m ⟨#[]⟩ := ⟨_, rfl⟩
                      rw [← hsm] at hcell3
                      have hsz : sm.size ≤ 1048577 := by rw [hsm]; exact Nat.le_trans (size_le_lenJ ps hmp) hlenJ
                      have HJ : Hid (joinS ((ps.drop fn).take (m + 1 - fn)) = joinS ((ps.drop fn).take (m - fn)) ++ (if m = fn then [] else [32]) ++ sm.data.toList) := by
                        show _ = _
                        rw [hsm]; exact join_step hm3 hmp
                      have HSM := hid hsm
                      clear hpc3 hge hsm
                      by_cases hmf : fn < m
                      · have HNE : Hid (¬ m = fn) := (by show ¬ m = fn; omega)
                        go_wp2_with (first
                          | (at_builtin; refine wpList_out_byte 32 (ho3.alloc _) rfl (.tmp 88) (.tmp 89) 26 rfl i5 Try.underlying26 hi5 hz50 hz51 hz52 rfl rfl (heap_alloc_new _ _) (by omega) ?_; intro a4 c4 w4 ho4 hf4; have hp4 := owns_fr5 (hp3.alloc _) hf4 (by decide); obtain ⟨g4, hge4, hpc4⟩ := owns_cells hp4 (by omega); have hcell4 := hpc4 m _ (strCells_at hmp); have hge5 : pg = g4 := (by injection hge4 with hge4; injection hge4); rw [← hge5, ← HSM.out] at hcell4; clear hpc4 hge4 hge5)
                          | (go_at_call 30; refine (appendStr_any _ _ _ _ _ _ ho4 (by omega)).mono ?_; rintro e w5 ⟨a5, c5, rfl, ho5, hf5⟩))
                        go_roundw
                        case rel =>
                          refine ⟨m + 1, a5, _, c5, by omega, by omega, by go_num, rfl, ?_, owns_fr5 (owns_fr5 (hp3.alloc _) hf4 (by decide)) hf5 (by decide)⟩
                          rw [HJ.out, if_neg HNE.out]
                          simpa using ho5
                        case measure => simp [intOf]; omega
                      · have HNE : Hid (m = fn) := (by show m = fn; omega)
                        go_wp2_with (first
                          | (go_at_call 30; refine (appendStr_any _ _ _ _ _ _ ho3 (by omega)).mono ?_; rintro e w5 ⟨a5, c5, rfl, ho5, hf5⟩))
                        go_roundw
                        case rel =>
                          refine ⟨m + 1, a5, _, c5, by omega, by omega, by go_num, rfl, ?_, owns_fr5 hp3 hf5 (by decide)⟩
                          rw [HJ.out, if_pos HNE.out]
                          simpa using ho5
                        case measure => simp [intOf]; omega
                    · go_wp2_with (at_builtin; refine wpList_out_byte 10 (ho3.alloc _) rfl (.tmp 97) (.tmp 98) 26 rfl i5 Try.underlying26 hi5 hz50 hz51 hz52 rfl rfl (heap_alloc_new _ _) (by omega) ?_; intro a6 c6 w6 ho6 hf6)
                      go_roundw
                      case rel =>
                        refine ⟨k + 1, a6, _, c6, by omega, by go_num, rfl, ?_⟩
                        have hmE : m = pn := by omega
                        have e1 : (ps.drop fn).take (m - fn) = ps.drop fn := List.take_of_length_le (by rw [List.length_drop, ← HPL.out]; omega)
                        rw [hts.out, modelR_snoc, ← HL1.out]
                        have e2 : modelLine r = joinS (ps.drop fn) ++ [10] := by unfold modelLine joinD; rw [← HPS.out, HD.out]
                        rw [e2]
                        have hh := ho6
                        rw [e1, List.append_assoc] at hh
                        exact hh
                      case measure => simp [intOf]; omega
              · have HD : Hid (ps.dropWhile (fun p => p.size == 0) = ps.drop fn) := drop_first HF.out (by rw [← HPL.out]; exact hfn) (fun q => absurd q (by rw [← HPL.out]; exact hfl))
                go_wp2
                go_loopw [3, 11] (fun out mm wj => ∃ (m : Nat) (a3 : Option Addr) (N3 c3 : Nat), fn ≤ m ∧ m ≤ pn ∧ mm = .int .i64 m ∧ out = .slice a3 N3 c3 ∧ OutAt W0 w.heap.size 0 (.slice (some ⟨w.heap.size, 0, none⟩) 0 0) [] wj a3 N3 c3 (L1 ++ joinS ((ps.drop fn).take (m - fn))) ∧
                    wj.ownsRow W0.heap.size 9 1 (.slice (some ⟨pg, 0, none⟩) pn pcap) pn (strCells ps))
                  (fun _ mm _ => pn - (intOf mm).toNat)
                case atStart => exact ⟨fn, a1, N1, c1, Nat.le_refl _, hfn, rfl, rfl, by simpa [joinS] using hoj, hpj⟩
                case round =>
                  obtain ⟨m, a3, N3, c3, hm3, hm4, rfl, rfl, ho3, hp3⟩ := hrel
                  have hN3 : N3 + 1048578 ≤ 1099511627776 := by
                    have q1 := ho3.len
                    rw [Nat.zero_add, List.length_append] at q1
                    have q2 := joinS_le ((ps.drop fn).take (m - fn))
                    have q3 := lenJ_take (ps.drop fn) (m - fn)
                    have q4 := lenJ_drop ps fn
                    omega
                  by_cases hml : m < pn
                  · exact absurd (Nat.lt_of_le_of_lt hm3 hml) hfl
                  · go_wp2_with (at_builtin; refine wpList_out_byte 10 (ho3.alloc _) rfl (.tmp 97) (.tmp 98) 26 rfl i5 Try.underlying26 hi5 hz50 hz51 hz52 rfl rfl (heap_alloc_new _ _) (by omega) ?_; intro a6 c6 w6 ho6 hf6)
                    go_roundw
                    case rel =>
                      refine ⟨k + 1, a6, _, c6, by omega, by go_num, rfl, ?_⟩
                      have hmE : m = pn := by omega
                      have e1 : (ps.drop fn).take (m - fn) = ps.drop fn := List.take_of_length_le (by rw [List.length_drop, ← HPL.out]; omega)
                      rw [hts.out, modelR_snoc, ← HL1.out]
                      have e2 : modelLine r = joinS (ps.drop fn) ++ [10] := by unfold modelLine joinD; rw [← HPS.out, HD.out]
                      rw [e2]
                      have hh := ho6
                      rw [e1, List.append_assoc] at hh
                      exact hh
                    case measure => simp [intOf]; omega
    · go_wp2
      go_ret
      obtain rfl : k = rs.length := by omega
      rw [List.take_length] at ho1
      exact ⟨a1, N1, c1, rfl, by simpa using ho1.own, hBel ho1⟩
end Go.Proofs.Qxb6601073a
