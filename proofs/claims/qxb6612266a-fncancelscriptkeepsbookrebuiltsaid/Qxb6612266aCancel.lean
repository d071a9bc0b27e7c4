/-
  (*Book).Cancel walked.
-/
import Derived.Test.Qxb6612266aLadRem
namespace Go.Proofs.Qxb6612266a
open Go.RowKit
set_option linter.unusedSimpArgs false

variable {k : Cfg} {ord : List Nat} {gone sf : Nat → Bool} {pv nx : Nat → Option Nat} {gs : List (List Nat)} {lbs : List Nat} {lv : Value} {w : World}

theorem ord_cancel (k : Cfg) (g : Bool) (pv nx : Option Nat) (i : Nat) : ((ordC k g pv nx i).setIfInBounds 11 (.int .u8 3)).setIfInBounds 14 (.int .i64 k.now) = ordC k true pv nx i := rfl

/-- The order is marked: Canceled at now. -/
theorem Inv.mark (h : Inv k ord gone sf pv nx gs lbs lv w) {i0 : Nat} (hi : i0 < k.n) :
    Inv k ord gone (fun i => if i = i0 then true else sf i) pv nx gs lbs lv ((w.setCell ⟨k.c + i0, 11, none⟩ (.int .u8 3)).setCell ⟨k.c + i0, 14, none⟩ (.int .i64 k.now)) ∧
    Fr k.B0 w ((w.setCell ⟨k.c + i0, 11, none⟩ (.int .u8 3)).setCell ⟨k.c + i0, 14, none⟩ (.int .i64 k.now)) := by
  have ho := h.ords i0 hi
  have keep : ∀ (b : Nat) (cs : Array Value) (t : TypeId), w.heap[b]? = some (Obj.cells cs t (0, 0)) → t ≠ 47 → ((w.setCell ⟨k.c + i0, 11, none⟩ (.int .u8 3)).setCell ⟨k.c + i0, 14, none⟩ (.int .i64 k.now)).heap[b]? = some (Obj.cells cs t (0, 0)) := by
    intro b cs t hb ht
    have hne : b ≠ k.c + i0 := ne_of_type hb ho ht
    rw [blk_set_ne (by exact hne), blk_set_ne (by exact hne)]
    exact hb
  refine ⟨⟨h.base1, h.base2, keep _ _ _ h.book (by decide), ?_, h.len, fun j hj => keep _ _ _ (h.lvl j hj) (by decide), h.baseL, h.nodL, fun i hi' => ?_, h.pure⟩, ?_⟩
  · rcases h.lev with l | ⟨lb, cap, f, h1, h2, h3, h4, h5, h6⟩
    · exact .inl l
    · refine .inr ⟨lb, cap, f, h1, h2, h3, h4, ?_, h6⟩
      have hne : lb ≠ k.c + i0 := by
        obtain ⟨c, hc, _⟩ := h5
        exact ne_of_type hc ho (by decide)
      exact (h5.setOther (by exact hne) _).setOther (by exact hne) _
  · by_cases e : i = i0
    · subst e
      rw [hs_same, hs_same, ho]
      simp only [Option.map_some, objSet, ord_cancel, if_true]
    · rw [blk_set_ne (by show k.c + i ≠ k.c + i0; omega), blk_set_ne (by show k.c + i ≠ k.c + i0; omega), h.ords i hi']
      simp [e]
  · refine Fr.of_kp (((Kp.refl (· = k.c + i0) w).setCell _ rfl).setCell _ rfl) ?_
    rintro b _ rfl
    exact ⟨by have := h.base2; omega, _, 47, ho, by simp⟩

set_option maxHeartbeats 400000 in
theorem cancel_any (i0 : Nat) (h : Inv k ord gone gone pv nx gs lbs lv w) (hi : i0 ∈ gs.flatten) (hord : ord.length ≤ 4096) :
    Calls Try.prog 9 #[.pointer (some ⟨k.kb, 0, none⟩), .pointer (some ⟨k.c + i0, 0, none⟩), .int .i64 k.now] w fun e w' => e = .returned (.tuple #[]) ∧
      (∃ pv' nx' gs' lbs' lv', Inv k ord (fun i => if i = i0 then true else gone i) (fun i => if i = i0 then true else gone i) pv' nx' gs' lbs' lv' w') ∧ Fr k.B0 w w' := by
  have hlt : i0 < k.n := h.pure.lt i0 hi
  have o1 : w.cell? ⟨k.c + i0, 1, none⟩ = some (.int .u8 k.s) := (cf (h.ords i0 hlt)).1
  have HR := hid (remove23 i0 h hi hord)
  have HOFF := hid (show offOf k.s = k.off from rfl)
  clear h hi
  go_enter Try.func9, Try.ntmps9
  go_wp2_with (go_at_call 22; refine (ladder_any k.kb k.s _).mono ?_; rintro e w' ⟨rfl, rfl⟩; rw [HOFF.out])
  refine Calls.mono HR.out ?_
  rintro e w1 ⟨rfl, ⟨gs', lbs', lv', h1⟩, hfr⟩
  have o11 := cf (i := 11) (h1.ords i0 hlt)
  have o14 := cf (i := 14) (h1.ords i0 hlt)
  obtain ⟨c11, f11⟩ := o11
  obtain ⟨c14, f14⟩ := o14
  have d11 : ∃ v, w1.cell? ⟨k.c + i0, 11, none⟩ = some v := ⟨_, c11⟩
  have d14 : ∃ v, w1.cell? ⟨k.c + i0, 14, none⟩ = some v := ⟨_, c14⟩
  obtain ⟨v11, e11⟩ := d11
  obtain ⟨v14, e14⟩ := d14
  have HM := hid (h1.mark hlt)
  have HFR := hid hfr
  clear c11 c14 h1 hfr
  go_wp2_with fail
  go_end0
  exact ⟨rfl, ⟨_, _, _, _, _, HM.out.1⟩, HFR.out.trans HM.out.2⟩
end Go.Proofs.Qxb6612266a
