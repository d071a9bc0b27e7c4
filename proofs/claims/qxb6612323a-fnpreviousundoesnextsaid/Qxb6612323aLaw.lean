/- The law walked: FnPreviousUndoesNext. -/
import Derived.Test.Qxb6612323aZPrev
import Derived.WalkKit
import Derived.WalkLawsBesides
import Derived.WalkSpells
import Derived.Deep.MidRow
import Derived.Laws.Rows
import Derived.Below
namespace Go.Proofs.Qxb6612323a
open Go.RowKit

theorem Try.info22 : (Try.prog.info? 22).map (·.size) = some 16 := by kernel_rfl

theorem zz_any (x0 x1 x2 x3 x4 x5 x6 x7 x8 x9 x10 x11 x12 x13 x14 x15 s t : Int) (b : Bool) (w : World) (ht : IntKind.u64.wrap (s - 1) = t) (hb : decide (1 < s) = b) :
    Calls Try.prog 4 #[.agg #[.int .u8 x0, .int .u8 x1, .int .u8 x2, .int .u8 x3, .int .u8 x4, .int .u8 x5, .int .u8 x6, .int .u8 x7, .int .u8 x8, .int .u8 x9, .int .u8 x10, .int .u8 x11, .int .u8 x12, .int .u8 x13, .int .u8 x14, .int .u8 x15, .int .u64 s]] w fun e w' => e = .returned (.tuple #[.agg #[.int .u8 x0, .int .u8 x1, .int .u8 x2, .int .u8 x3, .int .u8 x4, .int .u8 x5, .int .u8 x6, .int .u8 x7, .int .u8 x8, .int .u8 x9, .int .u8 x10, .int .u8 x11, .int .u8 x12, .int .u8 x13, .int .u8 x14, .int .u8 x15, .int .u64 t], .bool b]) ∧ Below w.heap.size w w' := by
  refine zzprevious_of _ _ b w rfl rfl (by simp [Value.oneCell']) (fun w => ?_)
  refine (previous_any x0 x1 x2 x3 x4 x5 x6 x7 x8 x9 x10 x11 x12 x13 x14 x15 s t b w ht hb).mono ?_
  rintro e w' ⟨rfl, c1, c2, rfl⟩
  exact ⟨rfl, (((Below.refl _ _).alloc (Nat.le_refl _) _).alloc (by simp) _).drew⟩

theorem there_new (w : World) (c : Array Value) (t : TypeId) (n : Nat) (hn : c.size = n) : (w.alloc (.cells c t)).there w.heap.size 0 n := fun j hj => by
  rw [World.cell?_alloc_new, World.frozen?_alloc_new]
  exact ⟨by simp; omega, rfl⟩

set_option maxHeartbeats 1600000 in
theorem law_of (x0 x1 x2 x3 x4 x5 x6 x7 x8 x9 x10 x11 x12 x13 x14 x15 q s : Int) (b c0 c1 : Bool) (w : World) (hs : IntKind.u64.wrap (q + 1) = s) (ht : IntKind.u64.wrap (s - 1) = q) (hb : decide (1 < s) = b) (h0 : (q != 0) = c0) (hm : (q != 18446744073709551615) = c1) (hw : (c0 && c1) = b) :
    Calls Try.prog 3 #[.agg #[.int .u8 x0, .int .u8 x1, .int .u8 x2, .int .u8 x3, .int .u8 x4, .int .u8 x5, .int .u8 x6, .int .u8 x7, .int .u8 x8, .int .u8 x9, .int .u8 x10, .int .u8 x11, .int .u8 x12, .int .u8 x13, .int .u8 x14, .int .u8 x15], .int .u64 q] w fun e w' => e = .returned (.bool true) ∧ Below w.heap.size w w' := by
  have HC : Hid (∀ w, Calls Try.prog 4 #[.agg #[.int .u8 x0, .int .u8 x1, .int .u8 x2, .int .u8 x3, .int .u8 x4, .int .u8 x5, .int .u8 x6, .int .u8 x7, .int .u8 x8, .int .u8 x9, .int .u8 x10, .int .u8 x11, .int .u8 x12, .int .u8 x13, .int .u8 x14, .int .u8 x15, .int .u64 s]] w fun e w' => e = .returned (.tuple #[.agg #[.int .u8 x0, .int .u8 x1, .int .u8 x2, .int .u8 x3, .int .u8 x4, .int .u8 x5, .int .u8 x6, .int .u8 x7, .int .u8 x8, .int .u8 x9, .int .u8 x10, .int .u8 x11, .int .u8 x12, .int .u8 x13, .int .u8 x14, .int .u8 x15, .int .u64 q], .bool b]) ∧ Below w.heap.size w w') := fun w => zz_any x0 x1 x2 x3 x4 x5 x6 x7 x8 x9 x10 x11 x12 x13 x14 x15 s q b w ht hb
  have hg : Hid ((w.alloc (.cells #[.int .u8 x0, .int .u8 x1, .int .u8 x2, .int .u8 x3, .int .u8 x4, .int .u8 x5, .int .u8 x6, .int .u8 x7, .int .u8 x8, .int .u8 x9, .int .u8 x10, .int .u8 x11, .int .u8 x12, .int .u8 x13, .int .u8 x14, .int .u8 x15] 22)).heap[w.heap.size]? = some (.cells #[.int .u8 x0, .int .u8 x1, .int .u8 x2, .int .u8 x3, .int .u8 x4, .int .u8 x5, .int .u8 x6, .int .u8 x7, .int .u8 x8, .int .u8 x9, .int .u8 x10, .int .u8 x11, .int .u8 x12, .int .u8 x13, .int .u8 x14, .int .u8 x15] 22 (0, 0))) := heap_alloc_new w _
  have hra : Hid ((w.alloc (.cells #[.int .u8 x0, .int .u8 x1, .int .u8 x2, .int .u8 x3, .int .u8 x4, .int .u8 x5, .int .u8 x6, .int .u8 x7, .int .u8 x8, .int .u8 x9, .int .u8 x10, .int .u8 x11, .int .u8 x12, .int .u8 x13, .int .u8 x14, .int .u8 x15] 22)).rangeAt w.heap.size 0 [.int .u8 x0, .int .u8 x1, .int .u8 x2, .int .u8 x3, .int .u8 x4, .int .u8 x5, .int .u8 x6, .int .u8 x7, .int .u8 x8, .int .u8 x9, .int .u8 x10, .int .u8 x11, .int .u8 x12, .int .u8 x13, .int .u8 x14, .int .u8 x15]) := by have := World.rangeAt_of_block hg.out 0 16; unfold Hid; simpa using this
  have harr := fun w => arr_same #[.int .u8 x0, .int .u8 x1, .int .u8 x2, .int .u8 x3, .int .u8 x4, .int .u8 x5, .int .u8 x6, .int .u8 x7, .int .u8 x8, .int .u8 x9, .int .u8 x10, .int .u8 x11, .int .u8 x12, .int .u8 x13, .int .u8 x14, .int .u8 x15] (bytes16 x0 x1 x2 x3 x4 x5 x6 x7 x8 x9 x10 x11 x12 x13 x14 x15) w
  clear ht hb
  go_enter Try.func3, Try.ntmps3
  go_wp2_with (first
    | (refine wpList_load_row rfl 22 (.tmp 2) rfl w.heap.size rfl 22 _ (0, 0) _ hg.out Try.underlying22 rfl Try.info22 ?_))
  refine (HC.out _).mono ?_
  rintro e w1 ⟨rfl, hb⟩
  have hz : w.heap.size < w1.heap.size := by have := hb.size; simp at this; omega
  have HB : Hid _ := hb
  have HR : Hid (w1.rangeAt w.heap.size 0 [.int .u8 x0, .int .u8 x1, .int .u8 x2, .int .u8 x3, .int .u8 x4, .int .u8 x5, .int .u8 x6, .int .u8 x7, .int .u8 x8, .int .u8 x9, .int .u8 x10, .int .u8 x11, .int .u8 x12, .int .u8 x13, .int .u8 x14, .int .u8 x15]) := fun j v hv => (hb.cell (p := ⟨w.heap.size, 0 + j, none⟩) (by simp)).trans (hra.out j v hv)
  have HT : Hid ((w1.alloc (.cells #[.int .u8 0, .int .u8 0, .int .u8 0, .int .u8 0, .int .u8 0, .int .u8 0, .int .u8 0, .int .u8 0, .int .u8 0, .int .u8 0, .int .u8 0, .int .u8 0, .int .u8 0, .int .u8 0, .int .u8 0, .int .u8 0, .int .u64 0] 26)).there w1.heap.size 0 17) := there_new w1 _ _ _ rfl
  have HR1 : Hid (((w1.alloc (.cells #[.int .u8 0, .int .u8 0, .int .u8 0, .int .u8 0, .int .u8 0, .int .u8 0, .int .u8 0, .int .u8 0, .int .u8 0, .int .u8 0, .int .u8 0, .int .u8 0, .int .u8 0, .int .u8 0, .int .u8 0, .int .u8 0, .int .u64 0] 26)).setCells w1.heap.size 0 [.int .u8 x0, .int .u8 x1, .int .u8 x2, .int .u8 x3, .int .u8 x4, .int .u8 x5, .int .u8 x6, .int .u8 x7, .int .u8 x8, .int .u8 x9, .int .u8 x10, .int .u8 x11, .int .u8 x12, .int .u8 x13, .int .u8 x14, .int .u8 x15, .int .u64 q]).rangeAt w1.heap.size 0 [.int .u8 x0, .int .u8 x1, .int .u8 x2, .int .u8 x3, .int .u8 x4, .int .u8 x5, .int .u8 x6, .int .u8 x7, .int .u8 x8, .int .u8 x9, .int .u8 x10, .int .u8 x11, .int .u8 x12, .int .u8 x13, .int .u8 x14, .int .u8 x15, .int .u64 q]) := World.rangeAt_setCells_same _ _ _ _ HT.out
  have HR2 : Hid (((w1.alloc (.cells #[.int .u8 0, .int .u8 0, .int .u8 0, .int .u8 0, .int .u8 0, .int .u8 0, .int .u8 0, .int .u8 0, .int .u8 0, .int .u8 0, .int .u8 0, .int .u8 0, .int .u8 0, .int .u8 0, .int .u8 0, .int .u8 0, .int .u64 0] 26)).setCells w1.heap.size 0 [.int .u8 x0, .int .u8 x1, .int .u8 x2, .int .u8 x3, .int .u8 x4, .int .u8 x5, .int .u8 x6, .int .u8 x7, .int .u8 x8, .int .u8 x9, .int .u8 x10, .int .u8 x11, .int .u8 x12, .int .u8 x13, .int .u8 x14, .int .u8 x15, .int .u64 q]).rangeAt w.heap.size 0 [.int .u8 x0, .int .u8 x1, .int .u8 x2, .int .u8 x3, .int .u8 x4, .int .u8 x5, .int .u8 x6, .int .u8 x7, .int .u8 x8, .int .u8 x9, .int .u8 x10, .int .u8 x11, .int .u8 x12, .int .u8 x13, .int .u8 x14, .int .u8 x15]) := World.rangeAt_setCells_apart (World.rangeAt_alloc HR.out _) _ _ _ (.inl (by omega))
  have HO : Hid ((#[.int .u8 x0, .int .u8 x1, .int .u8 x2, .int .u8 x3, .int .u8 x4, .int .u8 x5, .int .u8 x6, .int .u8 x7, .int .u8 x8, .int .u8 x9, .int .u8 x10, .int .u8 x11, .int .u8 x12, .int .u8 x13, .int .u8 x14, .int .u8 x15, .int .u64 q] : Array Value).all (·.oneCell') = true) := by unfold Hid; simp [Value.oneCell']
  clear hb hra hg
  cases c0 <;> cases c1 <;> simp at hw <;> subst hw
  all_goals
    go_wp2_with (first
      | ((with_reducible refine wpList_store_mid ?_ 26 (.tmp 5) (.tmp 14) ?_ w1.heap.size 0 #[.int .u8 x0, .int .u8 x1, .int .u8 x2, .int .u8 x3, .int .u8 x4, .int .u8 x5, .int .u8 x6, .int .u8 x7, .int .u8 x8, .int .u8 x9, .int .u8 x10, .int .u8 x11, .int .u8 x12, .int .u8 x13, .int .u8 x14, .int .u8 x15, .int .u64 q] ?_ ?_ ?_ ?_ ?_ ?_); rfl; rfl; rfl; rfl; exact HT.out; exact Try.info26; exact HO.out)
      | ((with_reducible refine wpList_load_mid ?_ 26 (.tmp 5) ?_ w1.heap.size 0 ?_ [.int .u8 x0, .int .u8 x1, .int .u8 x2, .int .u8 x3, .int .u8 x4, .int .u8 x5, .int .u8 x6, .int .u8 x7, .int .u8 x8, .int .u8 x9, .int .u8 x10, .int .u8 x11, .int .u8 x12, .int .u8 x13, .int .u8 x14, .int .u8 x15, .int .u64 q] _ ?_ Try.underlying26 ?_ ?_ ?_); rfl; rfl; rfl; exact HR1.out; rfl; exact Try.info26)
      | ((with_reducible refine wpList_load_mid ?_ 22 (.tmp 2) ?_ w.heap.size 0 ?_ [.int .u8 x0, .int .u8 x1, .int .u8 x2, .int .u8 x3, .int .u8 x4, .int .u8 x5, .int .u8 x6, .int .u8 x7, .int .u8 x8, .int .u8 x9, .int .u8 x10, .int .u8 x11, .int .u8 x12, .int .u8 x13, .int .u8 x14, .int .u8 x15] _ ?_ Try.underlying22 ?_ ?_ ?_); rfl; rfl; rfl; exact HR2.out; rfl; exact Try.info22))
    go_ret
    exact ⟨rfl, below_setCells _ (by omega) _ _ _ ((((Below.refl w.heap.size w).alloc (Nat.le_refl _) _).trans (HB.out.mono (by simp))).alloc (by omega) _)⟩

/-- The law, at whatever site and number. -/
theorem law_any (x0 x1 x2 x3 x4 x5 x6 x7 x8 x9 x10 x11 x12 x13 x14 x15 q : Int) (w : World) (hq0 : 0 ≤ q) (hq1 : q ≤ 18446744073709551615) :
    Calls Try.prog 3 #[.agg #[.int .u8 x0, .int .u8 x1, .int .u8 x2, .int .u8 x3, .int .u8 x4, .int .u8 x5, .int .u8 x6, .int .u8 x7, .int .u8 x8, .int .u8 x9, .int .u8 x10, .int .u8 x11, .int .u8 x12, .int .u8 x13, .int .u8 x14, .int .u8 x15], .int .u64 q] w fun e w' => e = .returned (.bool true) ∧ Below w.heap.size w w' := by
  by_cases h1 : q = 18446744073709551615
  · exact law_of x0 x1 x2 x3 x4 x5 x6 x7 x8 x9 x10 x11 x12 x13 x14 x15 q 0 false true false w (by rw [h1]; rfl) (by rw [h1]; rfl) rfl (by rw [h1]; rfl) (by rw [h1]; rfl) rfl
  · by_cases h2 : q = 0
    · exact law_of x0 x1 x2 x3 x4 x5 x6 x7 x8 x9 x10 x11 x12 x13 x14 x15 q 1 false false true w (by rw [h2]; rfl) (by rw [h2]; rfl) rfl (by rw [h2]; rfl) (by rw [h2]; rfl) rfl
    · exact law_of x0 x1 x2 x3 x4 x5 x6 x7 x8 x9 x10 x11 x12 x13 x14 x15 q (q + 1) true true true w (by rw [IntKind.wrap_u64]; omega) (by rw [IntKind.wrap_u64]; omega) (by simp; omega) (by simp; omega) (by simp; omega) rfl
end Go.Proofs.Qxb6612323a
