import Derived.Test.Qxb6612266aTradeWalk
import Derived.Deep.AppendLies
import Derived.Deep.RegionLaw
namespace Go.Proofs.Qxb6612266a
open Go.RowKit
attribute [local go_sem ↓] Go.wp_at_zero Go.wp_at_succ

theorem Try.info57 : (Try.prog.info? 57).map (fun i => (i.zero, i.size, i.bytes)) = some (some (.agg #[.int .i64 0, .pointer none, .int .i64 0, .int .i64 0]), 4, 32) := by kernel_rfl

theorem grown_old {w w1 : World} {n : Nat} {o : Obj} (h : ((w.drewN n).alloc o).grownBy w1 (Value.slice none 0 0).ownBlock) : ∀ k, k < w.heap.size → w1.heap[k]? = w.heap[k]? := fun k hk =>
  (h.block k (by simp; omega) (by simp [Value.ownBlock])).trans (blk_alloc_lt hk)

theorem own4 {w : World} {base g cap : Nat} {a b c d : Value} (h : w.ownsRow base 57 4 (.slice (some ⟨g, 0, none⟩) (0 + 1) cap) (0 + 1) ([] ++ [a, b, c, d])) :
    base ≤ g ∧ ∃ cur, w.heap[g]? = some (.cells cur 57 (0, 0)) ∧ cur[3]? = some d := by
  obtain ⟨_, h2⟩ := h
  rcases h2 with ⟨h2, _⟩ | ⟨g', cap', cur, hv, hg, hh, _, _, _, ht⟩
  · cases h2
  · have : g = g' := by simpa [Value.ownBlock] using congrArg Value.ownBlock hv
    subst this
    refine ⟨hg, cur, hh, ?_⟩
    have e := congrArg (fun l : List Value => l[3]?) ht
    simpa [List.getElem?_take] using e

set_option maxRecDepth 100000 in
set_option maxHeartbeats 1600000 in
theorem trade_any (bk bt bm bq : Nat) (x0 x1 x2 x3 x5 x6 st x12 x13 ut pv nx : Value) (y0 y1 y2 y3 y5 y6 yt y12 y13 yu yp yn : Value) (k0 k1 k2 k3 k5 : Value) (m1 : Value) (q e hi lo p hi2 lo2 : Int) (w : World)
    (ht : w.heap[bt]? = some (.cells #[x0, x1, x2, x3, .int .i64 q, x5, x6, .int .i64 e, .int .u64 hi, .int .u64 lo, .int .i64 p, st, x12, x13, ut, pv, nx] 47 (0, 0)))
    (hm : w.heap[bm]? = some (.cells #[y0, y1, y2, y3, .int .i64 9223372036854775807, y5, y6, .int .i64 0, .int .u64 hi2, .int .u64 lo2, .int .i64 0, yt, y12, y13, yu, yp, yn] 47 (0, 0)))
    (hk : w.heap[bk]? = some (.cells #[k0, k1, k2, k3, .int .i64 0, k5] 72 (0, 0)))
    (hq : w.heap[bq]? = some (.cells #[.slice none 0 0, m1] 54 (0, 0)))
    (htm : bt ≠ bm) (htk : bt ≠ bk) (htq : bt ≠ bq) (hmk : bm ≠ bk) (hmq : bm ≠ bq) (hkq : bk ≠ bq)
    (h0 : 0 ≤ p) (h1 : 0 ≤ e) (h2 : e ≤ q) (h3 : p ≤ q - e) (h5 : q ≤ 9223372036854775807) :
    Calls Try.prog 29 #[.pointer (some ⟨bk, 0, none⟩), .pointer (some ⟨bt, 0, none⟩), .pointer (some ⟨bm, 0, none⟩), .int .i64 1, .int .i64 0, .pointer (some ⟨bq, 0, none⟩)] w fun r w' => r = .returned (.tuple #[]) ∧
      (∃ (gg cap : Nat) (cur : Array Value) (hi' lo' hi2' lo2' st2 : Int), w.heap.size ≤ gg ∧
        w'.heap[bt]? = some (.cells #[x0, x1, x2, x3, .int .i64 q, x5, x6, .int .i64 (e + (q - e - p)), .int .u64 hi', .int .u64 lo', .int .i64 p, .int .u8 2, x12, x13, .int .i64 0, pv, nx] 47 (0, 0)) ∧
        w'.heap[bm]? = some (.cells #[y0, y1, y2, y3, .int .i64 9223372036854775807, y5, y6, .int .i64 (0 + (q - e - p)), .int .u64 hi2', .int .u64 lo2', .int .i64 0, .int .u8 st2, y12, y13, .int .i64 0, yp, yn] 47 (0, 0)) ∧
        w'.heap[bq]? = some (.cells #[.slice (some ⟨gg, 0, none⟩) 1 cap, m1] 54 (0, 0)) ∧
        w'.heap[gg]? = some (.cells cur 57 (0, 0)) ∧ cur[3]? = some (.int .i64 (q - e - p))) ∧
      Kp (fun k => k = bt ∨ k = bm ∨ k = bk ∨ k = bq) w w' := by
  obtain ⟨tc, tf, tl⟩ := cells_of ht
  obtain ⟨mc, mf, ml⟩ := cells_of hm
  obtain ⟨kc, kf, kl⟩ := cells_of hk
  obtain ⟨qc, qf, ql⟩ := cells_of hq
  have t4 : w.cell? ⟨bt, 4, none⟩ = some (.int .i64 q) := tc 4
  have t7 : w.cell? ⟨bt, 7, none⟩ = some (.int .i64 e) := tc 7
  have t10 : w.cell? ⟨bt, 10, none⟩ = some (.int .i64 p) := tc 10
  have m4 : w.cell? ⟨bm, 4, none⟩ = some (.int .i64 9223372036854775807) := mc 4
  have m7 : w.cell? ⟨bm, 7, none⟩ = some (.int .i64 0) := mc 7
  have m10 : w.cell? ⟨bm, 10, none⟩ = some (.int .i64 0) := mc 10
  have k4 : w.cell? ⟨bk, 4, none⟩ = some (.int .i64 0) := kc 4
  have q0 : w.cell? ⟨bq, 0, none⟩ = some (.slice none 0 0) := qc 0
  obtain ⟨i0, hi0, hz0, hz1, hz2⟩ := info_parts Try.info57
  have qa : ∀ n o, ((w.drewN n).alloc o).cell? ⟨bq, 0, none⟩ = some (.slice none 0 0) := fun n o => (World.cell?_alloc_lt (w := w.drewN n) _ (a := ⟨bq, 0, none⟩) ql).trans q0
  have ka : ∀ n o, ((w.drewN n).alloc o).cell? ⟨bk, 4, none⟩ = some (.int .i64 0) := fun n o => (World.cell?_alloc_lt (w := w.drewN n) _ (a := ⟨bk, 4, none⟩) kl).trans k4
  clear tc mc kc qc
  have HT : Hid _ := ht
  have HM : Hid _ := hm
  have HK : Hid _ := hk
  have HQ : Hid _ := hq
  clear ht hm hk hq
  go_enter Try.func29, Try.ntmps29
  go_wp2_with (first | (go_at_call_of 15 bt; refine (remaining_any bt q e p _ h0 h1 h2 h3 h5 (by simp [*]) (by simp [*]) (by simp [*])).mono ?_; rintro e w' ⟨rfl, nd, rfl⟩) | (go_at_call_of 15 bm; refine (remaining_any bm 9223372036854775807 0 0 _ (by decide) (by decide) (by decide) (by decide) (by decide) (by simp [*]) (by simp [*]) (by simp [*])).mono ?_; rintro e w' ⟨rfl, nd2, rfl⟩))
  generalize nd + nd2 = nn
  go_region_law ((refine step_append_lies _ (by rfl) (.tmp 22) (.tmp 31) _ (by rfl) w.heap.size 57 i0 _ 4 32 Try.underlying51 hi0 hz0 hz1 hz2 rfl (by omega) (.slice none 0 0) 0 [] (by simp [Act.eval]) (World.ownsRow_nil _ _ _ _) ⟨w.heap.size, 0, none⟩ 1 1 [.int .i64 0, .pointer (some ⟨bm, 0, none⟩), .int .i64 1, .int .i64 (q - e - p)] (by simp [Act.eval]) (by rfl) (World.news_of_block (cs := #[.int .i64 0, .pointer (some ⟨bm, 0, none⟩), .int .i64 1, .int .i64 (q - e - p)]) (t := 57) (fr := (0, 0)) (by exact heap_alloc_new _ _)) (by simp [Value.oneCell']) (by omega) (by decide) (by decide) (by simp) (w.heap.size + 1) (by simp) ?_; intro gg cap w1 hown1 hgrow hat hlt; have HW1 : Hid (∀ k, k < w.heap.size → w1.heap[k]? = w.heap[k]?) := grown_old hgrow; have q1 : w1.cell? ⟨bq, 0, none⟩ = some (.slice none 0 0) := (World.cell?_of_block (HW1.out bq ql)).trans q0; have qf1 : ∀ i, w1.frozen? ⟨bq, i, none⟩ = false := fun i => (World.frozen?_of_block (HW1.out bq ql)).trans (qf i); have k14 : w1.cell? ⟨bk, 4, none⟩ = some (.int .i64 0) := (World.cell?_of_block (HW1.out bk kl)).trans k4; have kf1 : ∀ i, w1.frozen? ⟨bk, i, none⟩ = false := fun i => (World.frozen?_of_block (HW1.out bk kl)).trans (kf i)))
  all_goals
    go_wp2_with fail
    refine (fill_any bt x0 x1 x2 x3 x5 x6 st x12 x13 ut pv nx q e hi lo p 1 (q - e - p) 0 _ ?_ h0 h1 (by omega) (by omega) (by omega) h5).mono ?_
    · rw [blk_set_ne (by exact htk), blk_set_ne (by exact htq), HW1.out bt tl]; exact HT.out
    rintro r w2 ⟨rfl, ⟨hi', lo', st', hbt, hst⟩, K2⟩
    obtain rfl := hst (by omega)
    have HBT : Hid _ := hbt
    clear hbt hst
    go_wp2_with fail
    refine (fill_any bm y0 y1 y2 y3 y5 y6 yt y12 y13 yu yp yn 9223372036854775807 0 hi2 lo2 0 1 (q - e - p) 0 _ ?_ (by decide) (by decide) (by omega) (by omega) (by omega) (by decide)).mono ?_
    · rw [K2.block bm (by simp; have := HW1.out; have := hgrow.size; simp at this; omega) (fun h => htm h.symm), blk_set_ne (by exact hmk), blk_set_ne (by exact hmq), HW1.out bm ml]; exact HM.out
    rintro r w3 ⟨rfl, ⟨hi2', lo2', st2, hbm, _⟩, K3⟩
    have HBM : Hid _ := hbm
    clear hbm
    go_wp2_with fail
    go_end0
    obtain ⟨hg0, cur, hcur, hc3⟩ := own4 hown1
    have sz1 : w.heap.size + 1 ≤ w1.heap.size := by have := hgrow.size; simpa using this
    have sz2 : w1.heap.size ≤ w2.heap.size := by have := K2.size; simpa using this
    refine ⟨rfl, ⟨gg, cap, cur, hi', lo', hi2', lo2', st2, hg0, ?_, HBM.out, ?_, ?_, hc3⟩, ?_⟩
    · rw [K3.block bt (by omega) htm]; exact HBT.out
    · rw [K3.block bq (by omega) (Ne.symm hmq), K2.block bq (by simp; omega) (Ne.symm htq), blk_set_ne (by exact Ne.symm hkq), hs_same, HW1.out bq ql, HQ.out]; rfl
    · rw [K3.block gg (by omega) (by omega), K2.block gg (by simp; omega) (by omega), blk_set_ne (by show gg ≠ bk; omega), blk_set_ne (by show gg ≠ bq; omega)]; exact hcur
    · have K0 : Kp (fun k => k = bt ∨ k = bm ∨ k = bk ∨ k = bq) w w1 := ⟨hgrow.os, hgrow.tape, hgrow.output, by omega, fun k hk _ => HW1.out k hk⟩
      exact (((K0.setCell _ (by simp)).setCell _ (by simp)).trans (K2.mono (fun k _ h => .inl h))).trans (K3.mono (fun k _ h => .inr (.inl h)))
end Go.Proofs.Qxb6612266a
