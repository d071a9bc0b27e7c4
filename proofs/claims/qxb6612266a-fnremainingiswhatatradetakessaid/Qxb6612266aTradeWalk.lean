import Derived.Test.Qxb6612266aBase
import Derived.WalkKit
import Derived.WalkLawsBesides
import Derived.WalkSpells
import Derived.Laws.Externs
import Derived.BigQuiet
import Derived.Deep.QuietTactic
import Derived.Deep.RegionWith
import Derived.Deep.RegionHeld3
import Derived.Deep.DrawnRows
import Derived.Outline
import Derived.Below
namespace Go.Proofs.Qxb6612266a
open Go.RowKit
attribute [local go_sem ↓] Go.wp_at_zero Go.wp_at_succ

set_option maxHeartbeats 400000 in
theorem mul64_any (x y : Int) (w : World) :
    Calls Try.prog 40 #[.int .u64 x, .int .u64 y] w fun e w' => (∃ hi lo : Int, e = .returned (.tuple #[.int .u64 hi, .int .u64 lo])) ∧ w' = w := by
  go_enter Try.func40, Try.ntmps40
  go_wp2
  go_ret2
  exact ⟨⟨_, _, rfl⟩, rfl⟩

set_option maxHeartbeats 400000 in
theorem mul_any (x y : Int) (w : World) :
    Calls Try.prog 38 #[.int .i64 x, .int .i64 y] w fun e w' => (∃ hi lo : Int, e = .returned (.agg #[.int .u64 hi, .int .u64 lo])) ∧ ∃ c, w' = w.alloc (.cells c 45) := by
  go_enter Try.func38, Try.ntmps38
  go_wp2_with (go_at_call 40; refine (mul64_any _ _ _).mono ?_; rintro e w' ⟨⟨hi, lo, rfl⟩, rfl⟩)
  simp [bodyPost, results, Try.results38, go_sem]
  exact ⟨_, rfl⟩

def sLo (x y : Int) : Int := Int.ofNat ((x.toNat + y.toNat + 0) % Extern.MathBitsCarry.m64)
def sHi (x y : Int) : Int := Int.ofNat ((x.toNat + y.toNat + 0) / Extern.MathBitsCarry.m64)
theorem add64_0 (x y : Int) (w : World) : (callFunc 39 #[.int .u64 x, .int .u64 y, .int .u64 0]).run Try.prog w = .ok (.value (.tuple #[.int .u64 (sLo x y), .int .u64 (sHi x y)])) w := by
  rw [run_callFunc_extern Try.func39 (by kernel_rfl) (by kernel_rfl) (by kernel_rfl) (e := add64Entry) (by kernel_rfl)]
  rfl

set_option maxHeartbeats 400000 in
theorem add_any (a b c d : Int) (w : World) :
    Calls Try.prog 37 #[.agg #[.int .u64 a, .int .u64 b], .agg #[.int .u64 c, .int .u64 d]] w fun e w' => (∃ hi lo : Int, e = .returned (.agg #[.int .u64 hi, .int .u64 lo])) ∧ ∃ c1 c2 c3, w' = ((w.alloc (.cells c1 45)).alloc (.cells c2 45)).alloc (.cells c3 45) := by
  go_enter Try.func37, Try.ntmps37
  go_wp2_with (simp only [add64_0])
  simp [bodyPost, results, Try.results37, go_sem]
  exact ⟨_, _, _, rfl⟩

/-- (*Order).Remaining: it reads three cells. -/
theorem remaining_any (b : Nat) (q e p : Int) (w : World) (h0 : 0 ≤ p) (h1 : 0 ≤ e) (h2 : e ≤ q) (h3 : p ≤ q - e) (h4 : q ≤ 9223372036854775807)
    (c4 : w.cell? ⟨b, 4, none⟩ = some (.int .i64 q)) (c7 : w.cell? ⟨b, 7, none⟩ = some (.int .i64 e)) (c10 : w.cell? ⟨b, 10, none⟩ = some (.int .i64 p)) :
    Calls Try.prog 15 #[.pointer (some ⟨b, 0, none⟩)] w fun r w' => r = .returned (.int .i64 (q - e - p)) ∧ ∃ n, w' = w.drewN n := by
  go_enter Try.func15, Try.ntmps15
  go_wp2
  go_quiet (fail)
  go_wp2
  go_ret
  exact ⟨rfl, _, rfl⟩

set_option maxHeartbeats 800000 in
/-- (*Order).fill: the order's executed quantity grows, its quote turns, its update time is now; where nothing remains it is Filled. -/
theorem fill_any (b : Nat) (x0 x1 x2 x3 x5 x6 st x12 x13 ut pv nx : Value) (q e hi lo p price qty now : Int) (w : World)
    (hb : w.heap[b]? = some (.cells #[x0, x1, x2, x3, .int .i64 q, x5, x6, .int .i64 e, .int .u64 hi, .int .u64 lo, .int .i64 p, st, x12, x13, ut, pv, nx] 47 (0, 0)))
    (h0 : 0 ≤ p) (h1 : 0 ≤ e) (h2 : 0 ≤ qty) (h3 : e + qty ≤ q) (h4 : p ≤ q - (e + qty)) (h5 : q ≤ 9223372036854775807) :
    Calls Try.prog 33 #[.pointer (some ⟨b, 0, none⟩), .int .i64 price, .int .i64 qty, .int .i64 now] w fun r w' => r = .returned (.tuple #[]) ∧
      (∃ hi' lo' st' : Int, w'.heap[b]? = some (.cells #[x0, x1, x2, x3, .int .i64 q, x5, x6, .int .i64 (e + qty), .int .u64 hi', .int .u64 lo', .int .i64 p, .int .u8 st', x12, x13, .int .i64 now, pv, nx] 47 (0, 0)) ∧ (q - (e + qty) - p = 0 → st' = 2)) ∧ Kp (· = b) w w' := by
  obtain ⟨hc, hf, hlt⟩ := cells_of hb
  have c4 : w.cell? ⟨b, 4, none⟩ = some (.int .i64 q) := hc 4
  have c7 : w.cell? ⟨b, 7, none⟩ = some (.int .i64 e) := hc 7
  have c8 : w.cell? ⟨b, 8, none⟩ = some (.int .u64 hi) := hc 8
  have c9 : w.cell? ⟨b, 9, none⟩ = some (.int .u64 lo) := hc 9
  have c10 : w.cell? ⟨b, 10, none⟩ = some (.int .i64 p) := hc 10
  have c11 : w.cell? ⟨b, 11, none⟩ = some st := hc 11
  have c14 : w.cell? ⟨b, 14, none⟩ = some ut := hc 14
  have l1 : b < w.heap.size + 1 := by omega
  have l2 : b < w.heap.size + 1 + 1 := by omega
  have l3 : b < w.heap.size + 1 + 1 + 1 := by omega
  have l4 : b < w.heap.size + 1 + 1 + 1 + 1 := by omega
  have HB : Hid _ := hb
  clear hc hb
  by_cases h6 : q - (e + qty) - p = 0
  · go_enter Try.func33, Try.ntmps33
    go_wp2_with fail
    go_region_with (first
        | (go_at_call 38; refine (mul_any _ _ _).mono ?_; rintro e w' ⟨⟨mh, ml, rfl⟩, mc, rfl⟩)
        | (go_at_call 37; refine (add_any _ _ _ _ _).mono ?_; rintro e w' ⟨⟨ah, al, rfl⟩, ac1, ac2, ac3, rfl⟩))
    all_goals
      go_wp2_with (go_at_call 15; refine (remaining_any b q (e + qty) p _ h0 (by omega) h3 h4 h5 (by simp [go_sem, *]) (by simp [go_sem, *]) (by simp [go_sem, *])).mono ?_; rintro e w' ⟨rfl, nd, rfl⟩)
      go_end0
      refine ⟨rfl, ⟨ah, al, 2, ?_, fun _ => rfl⟩, ?_⟩
      · simp (disch := (simp; omega)) only [hs_same, World.heap_drewN, blk_alloc_lt, HB.out, Option.map_some, objSet]
        rfl
      · repeat' (first | with_reducible exact Kp.refl _ _ | with_reducible refine Kp.drewN ?_ _ | with_reducible refine Kp.drew ?_ | with_reducible refine Kp.alloc ?_ _ | with_reducible refine Kp.setCell ?_ _ ?_ | rfl)
  · go_enter Try.func33, Try.ntmps33
    go_wp2_with fail
    go_region_with (first
        | (go_at_call 38; refine (mul_any _ _ _).mono ?_; rintro e w' ⟨⟨mh, ml, rfl⟩, mc, rfl⟩)
        | (go_at_call 37; refine (add_any _ _ _ _ _).mono ?_; rintro e w' ⟨⟨ah, al, rfl⟩, ac1, ac2, ac3, rfl⟩))
    all_goals
      go_wp2_with (go_at_call 15; refine (remaining_any b q (e + qty) p _ h0 (by omega) h3 h4 h5 (by simp [go_sem, *]) (by simp [go_sem, *]) (by simp [go_sem, *])).mono ?_; rintro e w' ⟨rfl, nd, rfl⟩)
      go_end0
      refine ⟨rfl, ⟨ah, al, 1, ?_, fun h => absurd h (by omega)⟩, ?_⟩
      · simp (disch := (simp; omega)) only [hs_same, World.heap_drewN, blk_alloc_lt, HB.out, Option.map_some, objSet]
        rfl
      · repeat' (first | with_reducible exact Kp.refl _ _ | with_reducible refine Kp.drewN ?_ _ | with_reducible refine Kp.drew ?_ | with_reducible refine Kp.alloc ?_ _ | with_reducible refine Kp.setCell ?_ _ ?_ | rfl)
end Go.Proofs.Qxb6612266a
