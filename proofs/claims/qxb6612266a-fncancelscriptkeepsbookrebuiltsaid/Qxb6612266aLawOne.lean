/-
  FnCancelLeavesBookRebuiltWithoutIt walked.
-/
import Derived.Test.Qxb6612266aState
import Derived.Outline
namespace Go.Proofs.Qxb6612266a
open Go.RowKit
set_option linter.unusedSimpArgs false

/-- The three calls of the laws' last line, the slice 'gone' being new. -/
theorem law_calls {B n : Nat} {s now : Int} {P : Nat → Int} {ord : List Nat} {gone : Nat → Bool} {op oi oa og : Option Addr} {W : World} (h : St (cfgAt B n s now P) ord gone op oi oa W) (hg : GoR gone W og n) (m : Nat) :
    (∀ ca cp ci cg, Calls Try.prog 10 #[.pointer (some ⟨B, 0, none⟩), .int .u8 s, .slice op n cp, .slice oa n ca, .slice oi n ci, .slice og n cg] (W.drewN m) fun e w' => e = .returned (.bool true) ∧ ∃ n, w' = (W.drewN m).drewN n) ∧
    (Calls Try.prog 11 #[.pointer (some ⟨B, 0, none⟩), .int .u8 (if s = 0 then 1 else 0)] (W.drewN m) fun e w' => e = .returned (.int .i64 0) ∧ w' = W.drewN m) ∧
    (∀ ca cp cg, Calls Try.prog 13 #[.slice oa n ca, .int .u8 s, .slice op n cp, .slice og n cg, .int .i64 now] (W.drewN m) fun e w' => e = .returned (.bool true) ∧ ∃ n, w' = (W.drewN m).drewN n) := by
  have hb : Below W.heap.size W (W.drewN m) := below_drewN (Below.refl _ _) m
  have h' := h.below hb
  have hg' := hg.fr (Fr.of_below (B0 := B) hb)
  exact ⟨fun ca cp ci cg => h'.ladder ca cp ci cg hg', h'.count, fun ca cp cg => h'.orders ca cp cg hg'⟩

theorem row_made_set (w : World) (n i0 : Nat) : (w.alloc (.cells ((madeCells #[.bool false] n).setIfInBounds i0 (.bool true)) 4)).rowIs w.heap.size 4 n (fun i => .bool (if i = i0 then true else false)) := by
  obtain ⟨c, hc, hs, hf⟩ := World.rowIs_made w (.bool false) n 4
  rw [blk_alloc_new] at hc
  simp at hc
  subst hc
  refine ⟨_, blk_alloc_new, by simp [hs], fun i hi => ?_⟩
  rw [Array.getElem?_setIfInBounds]
  by_cases e : i0 = i
  · subst e; simp [hs, hi]
  · have e' : ¬ i = i0 := fun h => e h.symm
    simp [e, e', hf i hi]

set_option maxHeartbeats 800000 in
set_option maxRecDepth 100000 in
theorem law3 (s : Int) (op : Option Addr) (n cp : Nat) (zs : List Int) (kk now : Int) (w : World) (hr : IsRow .i64 w op n cp zs) :
    Calls Try.prog 3 #[.int .u8 s, .slice op n cp, .int .i64 kk, .int .i64 now] w fun e w' => e = .returned (.bool true) ∧ Below w.heap.size w w' := by
  have hm := hr.lenle
  by_cases h1 : n ≤ 4096
  · by_cases h2 : 0 ≤ kk
    · by_cases h3 : kk < (n : Int)
      · have h1' : (n : Int) ≤ 4096 := by omega
        obtain ⟨i0, rfl⟩ : ∃ i0 : Nat, kk = (i0 : Int) := ⟨kk.toNat, by omega⟩
        have hin : i0 < n := by omega
        have HP := hid hr.pr
        have hmk := run_make_row' (P := Try.prog) 33 4 (.bool false) 1 Try.underlying33 Try.info4 rfl .i64 .i64 n (by omega) (by omega)
        have HARR := hid (arrange_any (s == 0) (fun i => zs.getD i 0) n cp op w h1 hr.pr)
        have HMADE := hid (fun oi ord w1 ci hb h1' h2 h3 h4 h5 => St.made s now (fun i => zs.getD i 0) n cp ci op oi ord w w1 h1 hr.pr hb h1' h2 h3 h4 h5)
        clear hr
        go_enter Try.func3, Try.ntmps3
        go_wp2_with (first | (go_at_call 6; go_in))
        refine Calls.mono HARR.out ?_
        rintro e w1 ⟨⟨ord, oi, rfl, o1, o2, o3, o4, o5⟩, hb1⟩
        have hsz01 : w.heap.size ≤ w1.heap.size := hb1.size
        have HB := hid (HMADE.out oi ord w1 n hb1 o1 o2 o3 o4 o5)
        clear o1 o2 o3 o4 o5 hb1
        go_wp2_with fail
        refine Calls.mono HB.out ?_
        rintro e w2 ⟨rfl, hst, hb2⟩
        obtain ⟨do1, e, co1⟩ := hst.orr.at hin
        cases e
        have co1' : w2.cell? ⟨w1.heap.size + 1, i0, none⟩ = some (.pointer (some ⟨w1.heap.size + 2 + i0, 0, none⟩)) := co1
        have HC : Hid (Calls Try.prog 9 #[.pointer (some ⟨w1.heap.size, 0, none⟩), .pointer (some ⟨w1.heap.size + 2 + i0, 0, none⟩), .int .i64 now] w2 fun e w' => e = .returned (.tuple #[]) ∧ St (cfgAt w1.heap.size n s now (fun i => zs.getD i 0)) ord (fun i => if i = i0 then true else false) op oi (some ⟨w1.heap.size + 1, 0, none⟩) w' ∧ Fr w1.heap.size w2 w') := hid (hst.cancel (i0 := i0) hin rfl)
        have hsz12 : w1.heap.size ≤ w2.heap.size := hst.sz
        have HB2 := hid hb2
        clear co1 hst hb2 HB HMADE
        go_wp2_with fail
        refine Calls.mono HC.out ?_
        rintro e w3 ⟨rfl, hst3, hf3⟩
        have hb3 : Below w.heap.size w w3 := HB2.out.trans ((hf3.below hsz12).mono hsz01)
        have hrow : (w3.alloc (.cells (madeCells #[.bool false] n) 4)).rowIs w3.heap.size 4 n (fun _ => .bool false) := World.rowIs_made w3 (.bool false) n 4
        have c4 := hrow.cell hin
        have f4 := hrow.frozen i0
        have HEND : Hid (∀ m, _) := hid (law_calls (W := w3.alloc (.cells ((madeCells #[.bool false] n).setIfInBounds i0 (.bool true)) 4)) (og := some ⟨w3.heap.size, 0, none⟩) (hst3.below ((Below.refl _ _).alloc (Nat.le_refl _) _)) (.inr ⟨_, rfl, row_made_set w3 n i0⟩))
        have HB3 : Hid (Below w.heap.size w (w3.alloc (.cells ((madeCells #[.bool false] n).setIfInBounds i0 (.bool true)) 4))) := hid (hb3.alloc hb3.size _)
        have HOTH := hid (fun W => other_any s W)
        generalize (if s = 0 then (1 : Int) else 0) = so at HOTH HEND
        clear hst3 hf3 hb3 hrow HC HB2
        go_wp2_with fail
        refine Calls.mono ((HEND.out 0).1 _ _ _ _) ?_
        rintro e w5 ⟨rfl, m5, rfl⟩
        generalize w3.alloc (.cells ((madeCells #[.bool false] n).setIfInBounds i0 (.bool true)) 4) = W at *
        go_wp2_with fail
        refine Calls.mono (HOTH.out _) ?_
        rintro e w6 ⟨rfl, rfl⟩
        go_wp2_with fail
        refine Calls.mono (HEND.out m5).2.1 ?_
        rintro e w7 ⟨rfl, rfl⟩
        go_wp2_with fail
        refine Calls.mono ((HEND.out m5).2.2 _ _ _) ?_
        rintro e w8 ⟨rfl, m8, rfl⟩
        go_wp2_with fail
        go_ret
        exact ⟨rfl, below_drewN HB3.out _⟩
      · have h1' : (n : Int) ≤ 4096 := by omega
        go_enter Try.func3, Try.ntmps3
        go_wp2_with (first | (go_at_call 6; go_in))
        go_ret
        exact ⟨rfl, Below.refl _ _⟩
    · have h1' : (n : Int) ≤ 4096 := by omega
      go_enter Try.func3, Try.ntmps3
      go_wp2_with (first | (go_at_call 6; go_in))
      go_ret
      exact ⟨rfl, Below.refl _ _⟩
  · by_cases h2 : n ≤ 1048576
    · go_enter Try.func3, Try.ntmps3
      go_wp2_with (first | (go_at_call 6; go_in))
      all_goals go_ret
      all_goals exact ⟨rfl, Below.refl _ _⟩
    · go_enter Try.func3, Try.ntmps3
      go_wp2_with (first | (go_at_call 6; go_in))
      all_goals go_ret
      all_goals exact ⟨rfl, Below.refl _ _⟩
end Go.Proofs.Qxb6612266a
