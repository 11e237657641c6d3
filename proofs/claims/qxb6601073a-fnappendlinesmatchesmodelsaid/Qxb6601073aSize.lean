import Derived.Test.Qxb6601073aZZ
namespace Go.Proofs.Qxb6601073a
open Go.RowKit
set_option linter.unusedVariables false
attribute [local go_sem ↓] Go.wp_at_zero Go.wp_at_succ

def sizeTo (vs : List (ByteArray × Int)) (p : PRec) : Nat → Nat
  | 0 => p.word.size + 1
  | j + 1 => sizeTo vs p j + ((p.keys.getD j ⟨#[]⟩).size + (shownB (vs.getD (p.first + j) (⟨#[]⟩, 0)).1 (vs.getD (p.first + j) (⟨#[]⟩, 0)).2).size + 2)
def sizeP (vs : List (ByteArray × Int)) (ps : List PRec) : Nat := (ps.map fun p => sizeTo vs p p.keys.length).sum
theorem sizeP_snoc (vs : List (ByteArray × Int)) (ps : List PRec) (p : PRec) : sizeP vs (ps ++ [p]) = sizeP vs ps + sizeTo vs p p.keys.length := by simp [sizeP]

theorem Below.lb {w w' : World} {b : Nat} {o : Obj} (h : w.heap[b]? = some o) (hb : Below w.heap.size w w') : w'.heap[b]? = some o := (hb.block b (lt_of_block h)).trans h

set_option maxRecDepth 100000 in
set_option maxHeartbeats 3200000 in
theorem linesSize_any (B rb : Nat) (kps : List (Nat × PRec)) (vs : List (ByteArray × Int)) (w : World)
    (hrep : RepB w B rb kps.length (recCells kps) kps.length (valCells vs) vs.length) (hkind : ∀ kp ∈ kps, KindAt w B rb kp)
    (hn : kps.length ≤ 1048576) (hvn : vs.length ≤ 1048576) (hkn : ∀ kp ∈ kps, kp.2.keys.length ≤ 1048576 ∧ Fits vs kp.2)
    (hbd : ∀ k kp, kps[k]? = some kp → ∀ j, j ≤ kp.2.keys.length → sizeP vs ((kps.map (·.2)).take k) + sizeTo vs kp.2 j < 1099511627776) :
    Calls Try.prog 31 #[.pointer (some ⟨rb, 0, none⟩)] w fun e w' => e = .returned (.int .i64 (sizeP vs (kps.map (·.2)))) ∧ Below w.heap.size w w' := by
  obtain ⟨ka, kcap, kc, ra, rcap, va, vcap, hB, hr, hk, hrr, hv⟩ := hrep
  obtain ⟨c0, c1, c2, c3, hf⟩ := rep_cells hr
  have hlt := lt_of_block hr
  have HR := hid hr
  clear hr hf c0 c1 c3 hk
  go_enter Try.func31, Try.ntmps31
  go_wp2
  go_loopw [3, 13] (fun sz i wr => ∃ (k : Nat) (x : Nat), k ≤ kps.length ∧ i = .int .i64 k ∧ sz = .int .i64 x ∧ Hid (x = sizeP vs ((kps.map (·.2)).take k)) ∧ Below w.heap.size w wr)
    (fun _ i _ => kps.length - (intOf i).toNat)
  case atStart => exact ⟨0, 0, Nat.zero_le _, rfl, rfl, by show _ = _; simp [sizeP], Below.refl _ _⟩
  case round =>
    obtain ⟨k, x, hk, rfl, rfl, HX, hbel⟩ := hrel
    obtain ⟨w0, hw0⟩ : ∃ y, y = wr := ⟨_, rfl⟩
    subst hw0
    clear c2
    by_cases hkl : k < kps.length
    · obtain ⟨g, rfl, hcr⟩ := owns_cells hrr (by omega)
      obtain ⟨kp, hkp⟩ : ∃ kp, kp = kps[k] := ⟨_, rfl⟩
      have hkp? : kps[k]? = some kp := by rw [hkp]; exact List.getElem?_eq_getElem hkl
      have hmem : kp ∈ kps := by rw [hkp]; exact List.getElem_mem hkl
      have hbdk := hbd k kp hkp?
      have hk2 := hkind kp hmem
      obtain ⟨hkl1, hfits⟩ := hkn kp hmem
      obtain ⟨q0, q1⟩ := pair_at (fun kp : Nat × PRec => Value.pointer (some ⟨kp.1, 0, none⟩)) (fun kp => Value.int .i64 kp.2.first) kps k kp hkp?
      replace q0 := hcr _ _ q0
      replace q1 := hcr _ _ q1
      replace q0 := (hbel.cell (World.block_lt_of_cell? w _ q0)).trans q0
      replace q1 := (hbel.cell (World.block_lt_of_cell? w _ q1)).trans q1
      have HT : Hid ((kps.map (·.2)).take (k + 1) = (kps.map (·.2)).take k ++ [kp.2]) := by
        show _ = _
        rw [List.take_succ_eq_append_getElem (by simpa using hkl), hkp]; simp
      obtain ⟨kb, p⟩ := kp
      simp only at hkl1 hfits q0 q1 hbdk
      rw [← HX.out] at hbdk
      clear hkp hkp? hmem hbd hkind hkn hcr
      obtain ⟨sa, sc, hBk, hkbw, hksw⟩ := hk2
      simp only at hkbw hksw
      have HKB := hid hkbw
      have hkb0 := (hbel.block kb (lt_of_block hkbw)).trans hkbw
      obtain ⟨_, _, e2, e3, e4⟩ := local_cells hkb0
      have hkblt := lt_of_block hkb0
      clear hkbw hkb0
      have hb0 := hbdk 0 (Nat.zero_le _)
      have hb0' : x + (p.word.size + 1) < 1099511627776 := hb0
      clear hb0
      have hs0 := hbel.size
      go_wp2
      have hbelA : Below w.heap.size w (w0.alloc (.cells #[.pointer (some ⟨kb, 0, none⟩), .int .i64 p.first] 58)) := hbel.alloc hs0 _
      have HLA := hid (heap_alloc_new w0 (.cells #[.pointer (some ⟨kb, 0, none⟩), .int .i64 p.first] 58))
      clear e2 e3 e4 q0 q1
      go_loopw [3, 32] (fun sz j wj => ∃ (jn y : Nat), jn ≤ p.keys.length ∧ j = .int .i64 jn ∧ sz = .int .i64 y ∧ Hid (y = x + sizeTo vs p jn) ∧ Below w.heap.size w wj ∧
          Hid (wj.heap[w0.heap.size]? = some (.cells #[.pointer (some ⟨kb, 0, none⟩), .int .i64 p.first] 58 (0, 0))))
        (fun _ j _ => p.keys.length - (intOf j).toNat)
      case atStart => exact ⟨0, x + (p.word.size + 1), Nat.zero_le _, rfl, by go_num, rfl, hbelA, HLA⟩
      case round =>
        clear HLA hbelA
        obtain ⟨jn, y, hjn, rfl, rfl, HY, hbel3, HLB⟩ := hrel
        have hs3 := hbel3.size
        by_cases hjl : jn < p.keys.length
        · obtain ⟨kg, rfl, hkc⟩ := owns_cells hksw (by omega)
          have hkey := hkc jn _ (strCells_at hjl)
          replace hkey := (hbel3.cell (World.block_lt_of_cell? w _ hkey)).trans hkey
          have hvl : p.first + jn < vs.length := by unfold Fits at hfits; omega
          obtain ⟨vg, rfl, hvc⟩ := owns_cells hv (by omega)
          obtain ⟨tc, htc⟩ : ∃ tc, tc = vs.getD (p.first + jn) (⟨#[]⟩, 0) := ⟨_, rfl⟩
          obtain ⟨key, hkeyE⟩ : ∃ key, key = p.keys.getD jn ⟨#[]⟩ := ⟨_, rfl⟩
          have hvs? : vs[p.first + jn]? = some tc := by rw [htc, List.getD, List.getElem?_eq_getElem hvl]; rfl
          obtain ⟨y0, y1⟩ := pair_at (fun tc : ByteArray × Int => Value.string tc.1) (fun tc => Value.int .u8 tc.2) vs (p.first + jn) tc hvs?
          replace y0 := hvc _ _ y0
          replace y1 := hvc _ _ y1
          replace y0 := (hbel3.cell (World.block_lt_of_cell? w _ y0)).trans y0
          replace y1 := (hbel3.cell (World.block_lt_of_cell? w _ y1)).trans y1
          rw [← hkeyE] at hkey
          have HST : Hid (sizeTo vs p (jn + 1) = sizeTo vs p jn + (key.size + (shownB tc.1 tc.2).size + 2)) := by
            show _ = _
            rw [hkeyE, htc]; rfl
          obtain ⟨t, cl⟩ := tc
          simp only at y0 y1 HST
          have hbl := hbdk (jn + 1) (by omega)
          rw [HST.out, ← Nat.add_assoc, ← HY.out] at hbl
          obtain ⟨_, _, _, z3, _⟩ := rep_cells ((hbel3.block rb hlt).trans HR.out)
          have z5 : wr.cell? ⟨w0.heap.size, 1, none⟩ = some (.int .i64 p.first) := by simp [World.cell?, HLB.out]
          clear hkc hvc hvs? htc hkeyE hfits
          have e1 : rb < wr.heap.size := by omega
          have e2 : vg < wr.heap.size := World.block_lt_of_cell? wr _ y0
          have e3 : w0.heap.size < wr.heap.size := World.block_lt_of_cell? wr _ z5
          have i1 : (0 : Int) ≤ (p.first : Int) + (jn : Int) := by omega
          have i2 : (p.first : Int) + (jn : Int) < (vs.length : Int) := by omega
          have i3 : IntKind.i64.wrap ((p.first : Int) + (jn : Int)) = (p.first : Int) + (jn : Int) := wrap_small _ i1 (by omega)
          have i4 : ((p.first : Int) + (jn : Int)).toNat = p.first + jn := by omega
          have i5 : IntKind.i64.wrap ((key.size : Int) + ((shownB t cl).size : Int)) = (key.size : Int) + ((shownB t cl).size : Int) := wrap_small _ (by omega) (by omega)
          have i6 : IntKind.i64.wrap ((key.size : Int) + ((shownB t cl).size : Int) + 2) = (key.size : Int) + ((shownB t cl).size : Int) + 2 := wrap_small _ (by omega) (by omega)
          have i7 : IntKind.i64.wrap ((y : Int) + ((key.size : Int) + ((shownB t cl).size : Int) + 2)) = (y : Int) + ((key.size : Int) + ((shownB t cl).size : Int) + 2) := wrap_small _ (by omega) (by omega)
          go_wp2
          go_region_held3 (fun w' => w'.cell? ⟨rb, 3, none⟩ = some (.slice (some ⟨vg, 0, none⟩) vs.length vcap) ∧ w'.cell? ⟨w0.heap.size, 1, none⟩ = some (.int .i64 p.first) ∧ w'.cell? ⟨vg, (p.first + jn) * 2, none⟩ = some (.string t) ∧ w'.cell? ⟨vg, (p.first + jn) * 2 + 1, none⟩ = some (.int .u8 cl)) (go_keep)
            ((go_at_call 32; refine (lineText_any t cl _).mono ?_; rintro e wl ⟨rfl, rfl⟩))
          clear i1 i2 i3 i4 i5 i6 i7
          go_wp2
          go_roundw
          case rel =>
            refine ⟨jn + 1, y + (key.size + (shownB t cl).size + 2), by omega, by go_num, by go_num, ?_, (hbel3.alloc hs3 _).drew, hid (Below.lb HLB.out (((Below.refl _ _).alloc (Nat.le_refl _) _).drew))⟩
            show _ = _
            rw [HST.out, HY.out]; omega
          case measure => simp [intOf]; omega
        · go_wp2
          go_roundw
          case rel =>
            obtain rfl : jn = p.keys.length := by omega
            refine ⟨k + 1, y, by omega, by go_num, rfl, ?_, hbel3⟩
            show _ = _
            rw [HT.out, sizeP_snoc, ← HX.out]; exact HY.out
          case measure => simp [intOf]; omega
    · go_wp2
      go_ret
      obtain rfl : k = kps.length := by omega
      refine ⟨?_, hbel⟩
      have := HX.out
      rw [List.take_of_length_le (by simp)] at this
      rw [← this]; rfl
end Go.Proofs.Qxb6601073a
