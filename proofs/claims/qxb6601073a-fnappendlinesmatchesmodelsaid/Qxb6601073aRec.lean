import Derived.Test.Qxb6601073aRep
import Derived.Deep.RegionHeld3
import Derived.Deep.RegionLaw
import Derived.Deep.DrawnRows
namespace Go.Proofs.Qxb6601073a
open Go.RowKit
set_option linter.unusedVariables false
attribute [local go_sem ↓] Go.wp_at_zero Go.wp_at_succ

/-- append from whatever source onto a row of the call's own, as a step of a region that draws its order -/
theorem step_append_src {P : Program} (w : World) {ops : Array Oper} {o : Oper} {a : Act} {K : Act → World → Prop} {Q : Exit → Act → World → Prop} {E : Prop} (hgd : o.guard = none) (s xo : Operand) (t tx : TypeId)
    (ho : o.op = .call { callee := .builtin .append, args := #[s, xo], argTypes := #[t, tx] })
    (base : Nat) (e : TypeId) (i : TypeInfo) (z : Value) (size bytes : Nat) (ht : P.underlying t = some (.slice e)) (hi : P.info? e = some i) (hz : i.zero = some z)
    (hsize : i.size = size) (hby : i.bytes = bytes) (hzs : z.cells.size = size) (hsz : 0 < size)
    (v : Value) (n : Nat) (xs : List Value) (hv : a.eval s = v) (hown : w.ownsRow base e size v n xs)
    (x : Value) (m : Nat) (news : List Value) (hx : a.eval xo = x) (hs : Src P size tx x m news w)
    (h63 : n + m ≤ maxLen) (hbytes : (n + m) * bytes ≤ 140737488355328) (hbase : base ≤ w.heap.size)
    (h : ∀ a' c' w', w'.ownsRow base e size (.slice a' (n + m) c') (n + m) (xs ++ news) → Grew w w' v (.slice a' (n + m) c') → K (a.put o.dst (.slice a' (n + m) c')) w') :
    if Region.wanted o (yielded ops a.tmps) = true then Oper.wp P o a w K Q else E := by
  have hw : Region.wanted o (yielded ops a.tmps) = true := by simp [Region.wanted, hgd]
  rw [if_pos hw]
  obtain ⟨a', c', w', hr, h2, h3⟩ := run_append_src_own (P := P) w base t tx o.type e i z size bytes ht hi hz hsize hby hzs hsz v n xs hown x m news hs h63 hbytes hbase
  unfold Oper.wp execOp
  simp only [ho, resolve, invoke, builtin, Sem.run_bind, Sem.run_pure, Result.andThen_ok, List.map_toArray, List.map_cons, List.map_nil, hv, hx, hr]
  exact h a' c' w' h2 h3

theorem src_two_at {P : Program} {W : World} {tx e t H : Nat} (hk : P.underlying tx = some (.slice e)) (x y : Value) (hx : x.oneCell' = true) (hy : y.oneCell' = true) (hH : W.heap[H]? = some (.cells #[x, y] t (0, 0))) :
    Src P 2 tx (.slice (some ⟨H, 0, none⟩) 1 1) 1 [x, y] W := by
  refine Src.ofSlice _ hk _ 1 1 [x, y] rfl (fun j u hj => ?_) (by simp [hx, hy])
  match j, hj with
  | 0, hj => simp at hj; subst hj; simp [Addr.add, World.cell?, hH]
  | 1, hj => simp at hj; subst hj; simp [Addr.add, World.cell?, hH]

set_option maxRecDepth 100000 in
set_option maxHeartbeats 800000 in
theorem addRecord_any (B rb kn rn vn kb : Nat) (rc vc : List Value) (w : World) (h : RepB w B rb kn rc rn vc vn) (hrn : rn ≤ 1048576) (hBw : B ≤ w.heap.size) :
    Calls Try.prog 25 #[.pointer (some ⟨rb, 0, none⟩), .pointer (some ⟨kb, 0, none⟩)] w fun e w' => e = .returned (.tuple #[]) ∧
      RepB w' B rb kn (rc ++ [.pointer (some ⟨kb, 0, none⟩), .int .i64 vn]) (rn + 1) vc vn ∧ Below B w w' ∧ FrT w w' := by
  obtain ⟨ka, kcap, kc, ra, rcap, va, vcap, hB, hr, hk, hrr, hv⟩ := h
  obtain ⟨c0, c1, c2, c3, hf⟩ := rep_cells hr
  have hlt := lt_of_block hr
  obtain ⟨i0, hi, hz0, hz1, hz2⟩ := info_parts Try.info58
  clear hf c1 c0
  have hm : rn + 1 ≤ maxLen := by unfold maxLen; omega
  have HR : Hid (w.heap[rb]? = some (.cells #[.slice ka kn kcap, .slice none 0 0, .slice ra rn rcap, .slice va vn vcap] 56 (0, 0))) := hr
  clear hr
  go_enter Try.func25, Try.ntmps25
  go_wp2_with fail
  go_region_law
    ((refine step_append_src _ (by rfl) _ _ _ _ (by rfl) B 58 i0 _ 2 16 Try.underlying53 hi hz0 hz1 hz2 rfl (by decide) (.slice ra rn rcap) rn rc (by rfl) ((hrr.alloc _).drew) _ 1 [.pointer (some ⟨kb, 0, none⟩), .int .i64 vn] (by rfl) (src_two_at Try.underlying53 _ _ rfl rfl (heap_alloc_new w _)) hm (by omega) (by simp; omega) ?_; intro a1 cap1 w1 hown1 hg1; obtain ⟨hst, hb1⟩ := step_mk (o := 2) HR.out hrr (((Below.refl _ _).alloc (Nat.le_refl _) _).drew) hg1 (.inr (.inl rfl)) hB hBw; have HB1 := hid hb1; obtain ⟨_, _, d2, d3, df⟩ := rep_cells hb1; clear hb1; have df2 := df 2; clear df))
  all_goals
    go_wp2
    go_end0
    exact ⟨rfl, ⟨ka, kcap, kc, a1, cap1, va, vcap, hB, by simpa using hst.rep, hst.other hk (by decide) (by decide), owns_set hown1 HB1.out (by decide), hst.other hv (by decide) (by decide)⟩, hst.below, hst.frT⟩
end Go.Proofs.Qxb6601073a
