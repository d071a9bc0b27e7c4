import Derived.Test.Qxb6612266aTradeAny
namespace Go.Proofs.Qxb6612266a
open Go.RowKit

/-- ZZtrade hands on to trade. -/
theorem zztrade_of {bk bt bm bq : Nat} {w : World} {Q : Ending → World → Prop}
    (h : Calls Try.prog 29 #[.pointer (some ⟨bk, 0, none⟩), .pointer (some ⟨bt, 0, none⟩), .pointer (some ⟨bm, 0, none⟩), .int .i64 1, .int .i64 0, .pointer (some ⟨bq, 0, none⟩)] w fun r w' => r = .returned (.tuple #[]) ∧ Q r w') :
    Calls Try.prog 17 #[.pointer (some ⟨bk, 0, none⟩), .pointer (some ⟨bt, 0, none⟩), .pointer (some ⟨bm, 0, none⟩), .int .i64 1, .int .i64 0, .pointer (some ⟨bq, 0, none⟩)] w fun r w' => r = .returned (.tuple #[]) ∧ Q r w' := by
  have H : Hid _ := h
  clear h
  go_enter Try.func17, Try.ntmps17
  go_wp2_with fail
  refine Calls.mono H.out ?_
  rintro r w' ⟨rfl, hq⟩
  have HQ : Hid _ := hq
  clear hq
  go_wp2_with fail
  go_end0
  exact ⟨rfl, HQ.out⟩

theorem law_heap (w : World) (nd : Nat) (o1 o2 o3 o4 : Obj) :
    (((((w.alloc o1).drewN nd).alloc o2).alloc o3).alloc o4).heap[w.heap.size]? = some o1 ∧ (((((w.alloc o1).drewN nd).alloc o2).alloc o3).alloc o4).heap[w.heap.size + 1]? = some o2 ∧
    (((((w.alloc o1).drewN nd).alloc o2).alloc o3).alloc o4).heap[w.heap.size + 1 + 1]? = some o3 ∧ (((((w.alloc o1).drewN nd).alloc o2).alloc o3).alloc o4).heap[w.heap.size + 1 + 1 + 1]? = some o4 ∧
    (((((w.alloc o1).drewN nd).alloc o2).alloc o3).alloc o4).heap.size = w.heap.size + 1 + 1 + 1 + 1 ∧ Below w.heap.size w (((((w.alloc o1).drewN nd).alloc o2).alloc o3).alloc o4) := by
  refine ⟨?_, ?_, ?_, ?_, by simp, ?_⟩
  · rw [blk_alloc_lt (by simp; omega), blk_alloc_lt (by simp; omega), blk_alloc_lt (by simp)]; exact blk_alloc_new
  · rw [blk_alloc_lt (by simp), blk_alloc_lt (by simp)]; exact (by simpa using (blk_alloc_new (w := (w.alloc o1).drewN nd) (o := o2)))
  · rw [blk_alloc_lt (by simp)]; exact (by simpa using (blk_alloc_new (w := ((w.alloc o1).drewN nd).alloc o2) (o := o3)))
  · exact (by simpa using (blk_alloc_new (w := (((w.alloc o1).drewN nd).alloc o2).alloc o3) (o := o4)))
  · exact ((((((Kp.refl (fun _ => False) w).alloc o1).drewN nd).alloc o2).alloc o3).alloc o4).below (Nat.le_refl _) (fun _ _ h => h)

set_option maxHeartbeats 800000 in
theorem law_walk (q e p : Int) (w : World) (b0 : -9223372036854775808 ≤ q) (b1 : q ≤ 9223372036854775807) (b2 : -9223372036854775808 ≤ e) (b3 : e ≤ 9223372036854775807) (b4 : -9223372036854775808 ≤ p) (b5 : p ≤ 9223372036854775807) :
    Calls Try.prog 4 #[.int .i64 q, .int .i64 e, .int .i64 p] w fun r w' => r = .returned (.bool true) ∧ Below w.heap.size w w' := by
  by_cases h1 : 0 ≤ e
  · by_cases h2 : 0 ≤ p
    · by_cases h3 : e ≤ q
      · by_cases h4 : p ≤ q - e
        · have hne : (q - e - p + e + p != q) = false := by simp; omega
          have hd1 : decide (q - e - p < 0) = false := by simp; omega
          have hd2 : decide (q < q - e - p) = false := by simp; omega
          go_enter Try.func4, Try.ntmps4
          go_wp2_with (first | (go_at_call 15; refine (remaining_any w.heap.size q e p _ h2 h1 h3 h4 b1 (by simp [go_sem]) (by simp [go_sem]) (by simp [go_sem])).mono ?_; rintro e w' ⟨rfl, nd, rfl⟩) | (go_at_call 14; go_in) | (go_at_call 16; go_in))
          obtain ⟨a1, a2, a3, a4, asz, abel⟩ := law_heap w nd _ _ _ _
          refine (zztrade_of (trade_any _ _ _ _ _ _ _ _ _ _ _ _ _ _ _ _ _ _ _ _ _ _ _ _ _ _ _ _ _ _ _ _ _ _ q e _ _ p _ _ _ a1 a2 a3 a4 (by omega) (by omega) (by omega) (by omega) (by omega) (by omega) h2 h1 h3 h4 b1)).mono ?_
          rintro r w5 ⟨rfl, ⟨gg, cap, cur, hi', lo', hi2', lo2', st2, hg0, c1, c2, c3, c4, hc3⟩, K5⟩
          obtain ⟨d1, _, _⟩ := cells_of c1
          obtain ⟨d2, _, _⟩ := cells_of c2
          obtain ⟨d3, _, _⟩ := cells_of c3
          obtain ⟨d4, _, _⟩ := cells_of c4
          have e4 : w5.cell? ⟨w.heap.size, 4, none⟩ = some (.int .i64 q) := d1 4
          have e7 : w5.cell? ⟨w.heap.size, 7, none⟩ = some (.int .i64 (e + (q - e - p))) := d1 7
          have e10 : w5.cell? ⟨w.heap.size, 10, none⟩ = some (.int .i64 p) := d1 10
          have e11 : w5.cell? ⟨w.heap.size, 11, none⟩ = some (.int .u8 2) := d1 11
          have f7 : w5.cell? ⟨w.heap.size + 1, 7, none⟩ = some (.int .i64 (q - e - p)) := by simpa using d2 7
          have g0 : w5.cell? ⟨w.heap.size + 1 + 1 + 1, 0, none⟩ = some (.slice (some ⟨gg, 0, none⟩) 1 cap) := d3 0
          have g3 : w5.cell? ⟨gg, 3, none⟩ = some (.int .i64 (q - e - p)) := (d4 3).trans hc3
          have B5 : Below w.heap.size w w5 := abel.trans (K5.below (by omega) (by omega))
          have HB5 : Hid _ := B5
          clear d1 d2 d3 d4 c1 c2 c3 c4 hc3 K5 a1 a2 a3 a4 abel asz B5 hg0
          go_wp2_with (go_at_call 15; refine (remaining_any w.heap.size q (e + (q - e - p)) p _ h2 (by omega) (by omega) (by omega) b1 e4 e7 e10).mono ?_; rintro e w' ⟨rfl, nd, rfl⟩)
          go_ret
          exact ⟨rfl, HB5.out.trans ⟨rfl, rfl, rfl, Nat.le_refl _, fun _ _ => rfl⟩⟩
        · go_enter Try.func4, Try.ntmps4
          go_wp2
          all_goals (go_ret; exact ⟨rfl, Below.refl _ _⟩)
      · go_enter Try.func4, Try.ntmps4
        go_wp2
        all_goals (go_ret; exact ⟨rfl, Below.refl _ _⟩)
    · go_enter Try.func4, Try.ntmps4
      go_wp2
      all_goals (go_ret; exact ⟨rfl, Below.refl _ _⟩)
  · go_enter Try.func4, Try.ntmps4
    go_wp2
    all_goals (go_ret; exact ⟨rfl, Below.refl _ _⟩)
end Go.Proofs.Qxb6612266a
