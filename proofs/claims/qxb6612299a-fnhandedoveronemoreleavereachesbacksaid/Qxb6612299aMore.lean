import Derived.Test.Qxb6612299aSince
namespace Go.Proofs.Qxb6612299a
open Go.RowKit

theorem rows_start (w : World) (n : Nat) (F : Nat → Value) :
    ((w.alloc (.cells (madeCells #[.int .i64 0] (n + 1)) 2)).alloc (.cells (madeCells #[.int .i64 0] (n + 1)) 2)).rowIs w.heap.size 2 (n + 1) (fun j => if j < 0 then F j else .int .i64 0) ∧
    ((w.alloc (.cells (madeCells #[.int .i64 0] (n + 1)) 2)).alloc (.cells (madeCells #[.int .i64 0] (n + 1)) 2)).rowIs (w.heap.size + 1) 2 (n + 1) (fun j => if j < 0 then F j else .int .i64 0) := by
  refine ⟨((World.rowIs_made w (.int .i64 0) (n + 1) 2).alloc _).congr (fun i hi => by simp), ?_⟩
  have h := World.rowIs_made (w.alloc (.cells (madeCells #[.int .i64 0] (n + 1)) 2)) (.int .i64 0) (n + 1) 2
  rw [World.size_alloc] at h
  exact h.congr (fun i hi => by simp)

/-- The row filled, its last cell stored: the grown list. -/
theorem rows_end {w : World} {b n : Nat} {xs : List Int} (hx : xs.length = n) (x : Int) (h : w.rowIs b 2 (n + 1) (fun j => if j < n then .int .i64 (xs.getD j 0) else .int .i64 0)) :
    (w.setCell ⟨b, n, none⟩ (.int .i64 x)).rowIs b 2 (xs ++ [x]).length (fun i => .int .i64 ((xs ++ [x]).getD i 0)) := by
  have e : (xs ++ [x]).length = n + 1 := by simp [hx]
  rw [e]
  refine (h.set n (.int .i64 x)).congr (fun i hi => ?_)
  by_cases h1 : i = n
  · subst h1
    simp [← hx]
  · have h2 : i < n := by omega
    simp [h1, h2, List.getElem?_append_left (show i < xs.length by omega)]

theorem ret_true {b : Bool} (h : b = true) : Ending.returned (.bool b) = .returned (.bool true) := by rw [h]

set_option maxRecDepth 100000 in
set_option maxHeartbeats 3200000 in
theorem more_walk (a0 : Int) (a1 : Int) (a2 : Option Addr) (len2 cap2 : Nat) (z2 : List Int) (a3 : Option Addr) (len3 cap3 : Nat) (z3 : List Int) (x y : Int) (w : World) (w2 : IsRow .i64 w a2 len2 cap2 z2) (w3 : IsRow .i64 w a3 len3 cap3 z3) (m2 : len2 ≤ 9223372036854775807) (m3 : len3 ≤ 9223372036854775807) :
    Calls Try.prog 4 #[.int .i64 a0, .int .i64 a1, .slice a2 len2 cap2, .slice a3 len3 cap3, .int .i64 x, .int .i64 y] w fun e w' => e = .returned (.bool true) ∧ Below w.heap.size w w' := by
  by_cases hA : len2 ≤ 1024
  · by_cases hB : len3 ≤ 1024
    · by_cases hE : len2 = len3
      · subst hE
        have hx := w2.len
        have hy := w3.len
        have HC2 := hid (clone_any a2 len2 cap2 (z2.take len2) w hx (by omega) w2.nil (w2.cells (Below.refl _ _)))
        have HC3 := hid (fun w' hb => clone_any a3 len2 cap3 (z3.take len2) w' hy (by omega) w3.nil (w3.cells (w' := w') hb))
        generalize z2.take len2 = xs at hx HC2
        generalize z3.take len2 = ys at hy HC3
        have HX := hid hx
        have HY := hid hy
        clear hx hy w2 w3
        have hmk := run_make_row' (P := Try.prog) 22 2 (.int .i64 0) 8 Try.underlying22 Try.info2 rfl .i64 .i64 (len2 + 1) (by omega) (by omega)
        have ec : ((len2 + 1 : Nat) : Int) = (len2 : Int) + 1 := by omega
        rw [ec] at hmk
        clear ec
        go_enter Try.func4, Try.ntmps4
        go_wp2_with (first | (go_at_call 9; go_in))
        refine Calls.mono HC2.out ?_
        rintro e w4 ⟨⟨oa, rfl, hrx⟩, hb4⟩
        have RX4 := hid hrx
        have B4 := hid hb4
        clear hrx hb4
        go_wp2_with fail
        refine Calls.mono (HC3.out _ B4.out) ?_
        rintro e w5 ⟨⟨ob, rfl, hry⟩, hb5⟩
        have RX5 := hid (RX4.out.below hb5)
        have RY5 := hid hry
        have B5 := hid (B4.out.trans (hb5.mono B4.out.size))
        clear hry hb5
        go_wp2_with fail
        refine Calls.mono (zzho_len a0 a1 oa ob _ _ len2 xs ys _ HX.out HY.out (by omega) RX5.out RY5.out) ?_
        rintro e w6 ⟨⟨s0, rfl, hs⟩, hb6⟩
        have RX6 := hid (RX5.out.below hb6)
        have RY6 := hid (RY5.out.below hb6)
        have B6 := hid (B5.out.trans (hb6.mono B5.out.size))
        have HS0 := hid hs
        clear hs hb6
        go_wp2_with fail
        go_loopw [19] (fun i wr => ∃ k : Nat, k ≤ len2 ∧ i = .int .i64 k ∧ wr.rowIs w6.heap.size 2 (len2 + 1) (fun j => if j < k then .int .i64 (xs.getD j 0) else .int .i64 0) ∧ wr.rowIs (w6.heap.size + 1) 2 (len2 + 1) (fun j => if j < k then .int .i64 (ys.getD j 0) else .int .i64 0) ∧ Below w6.heap.size w6 wr) (fun i _ => len2 - (intOf i).toNat)
        case atStart => exact ⟨0, Nat.zero_le _, rfl, (rows_start w6 len2 _).1, (rows_start w6 len2 _).2, ((Below.refl _ _).alloc (Nat.le_refl _) _).alloc (by simp) _⟩
        case round =>
          obtain ⟨k, hk, rfl, r1, r2, hbel⟩ := hrel
          by_cases hlt : k < len2
          · obtain ⟨b, rfl, lb, cb⟩ := RX6.out.cell (show k < xs.length by rw [HX.out]; exact hlt)
            obtain ⟨d, rfl, ld, cd⟩ := RY6.out.cell (show k < ys.length by rw [HY.out]; exact hlt)
            have e1 : xs[k]'(by rw [HX.out]; exact hlt) = xs.getD k 0 := by simp [show k < xs.length by rw [HX.out]; exact hlt]
            have e2 : ys[k]'(by rw [HY.out]; exact hlt) = ys.getD k 0 := by simp [show k < ys.length by rw [HY.out]; exact hlt]
            rw [e1] at cb
            rw [e2] at cd
            clear e1 e2
            have R1 := hid (row_step (F := fun j => .int .i64 (xs.getD j 0)) r1)
            have R2 := hid (row_step (F := fun j => .int .i64 (ys.getD j 0)) r2)
            generalize hX : xs.getD k 0 = X at cb R1
            generalize hY : ys.getD k 0 = Y at cd R2
            have c1 : wr.cell? ⟨b, k, none⟩ = some (.int .i64 X) := (hbel.cell (p := ⟨b, k, none⟩) lb).trans cb
            have c2 : wr.cell? ⟨d, k, none⟩ = some (.int .i64 Y) := (hbel.cell (p := ⟨d, k, none⟩) ld).trans cd
            have c3 : wr.cell? ⟨w6.heap.size, k, none⟩ = some (.int .i64 0) := by rw [r1.cell (by omega)]; simp
            have c4 : wr.cell? ⟨w6.heap.size + 1, k, none⟩ = some (.int .i64 0) := by rw [r2.cell (by omega)]; simp
            have f3 := r1.frozen k
            have f4 := r2.frozen k
            have c5 : ∀ v, (wr.setCell ⟨w6.heap.size, k, none⟩ v).cell? ⟨d, k, none⟩ = some (.int .i64 Y) := fun v => (World.cell?_setCell_other wr ⟨w6.heap.size, k, none⟩ ⟨d, k, none⟩ v (by intro e; have := congrArg Addr.block e; simp at this; omega)).trans c2
            have RR1 := hid (show (((wr.setCell ⟨w6.heap.size, k, none⟩ (.int .i64 X)).setCell ⟨w6.heap.size + 1, k, none⟩ (.int .i64 Y)).rowIs w6.heap.size 2 (len2 + 1) (fun j => if j < k + 1 then .int .i64 (xs.getD j 0) else .int .i64 0)) by
              have h := R1.out
              exact h.setOther (by show w6.heap.size ≠ w6.heap.size + 1; omega) _)
            have RR2 := hid (show (((wr.setCell ⟨w6.heap.size, k, none⟩ (.int .i64 X)).setCell ⟨w6.heap.size + 1, k, none⟩ (.int .i64 Y)).rowIs (w6.heap.size + 1) 2 (len2 + 1) (fun j => if j < k + 1 then .int .i64 (ys.getD j 0) else .int .i64 0)) by
              have h := row_step (F := fun j => .int .i64 (ys.getD j 0)) (r2.setOther (a := ⟨w6.heap.size, k, none⟩) (by show w6.heap.size + 1 ≠ w6.heap.size; omega) (.int .i64 X))
              simp only [hY] at h
              exact h)
            have BB := hid ((hbel.setCell (p := ⟨w6.heap.size, k, none⟩) (Nat.le_refl _) (.int .i64 X)).setCell (p := ⟨w6.heap.size + 1, k, none⟩) (by show w6.heap.size ≤ w6.heap.size + 1; omega) (.int .i64 Y))
            have L1 := HX.out
            have L2 := HY.out
            have i1 : (k : Int) < (len2 : Int) := by omega
            clear hX hY R1 R2 r1 r2 hbel cb cd L1 L2
            go_wp2_with fail
            go_roundw
            case rel => exact ⟨k + 1, by omega, by go_num, RR1.out, RR2.out, BB.out⟩
            case measure => simp [intOf]; omega
          · obtain rfl : k = len2 := by omega
            have c3 : wr.cell? ⟨w6.heap.size, k, none⟩ = some (.int .i64 0) := by rw [r1.cell (by omega)]; simp
            have c4 : wr.cell? ⟨w6.heap.size + 1, k, none⟩ = some (.int .i64 0) := by rw [r2.cell (by omega)]; simp
            have f3 := r1.frozen k
            have f4 := r2.frozen k
            have RR1 := hid (show (((wr.setCell ⟨w6.heap.size, k, none⟩ (.int .i64 x)).setCell ⟨w6.heap.size + 1, k, none⟩ (.int .i64 y)).rowIs w6.heap.size 2 (xs ++ [x]).length (fun i => .int .i64 ((xs ++ [x]).getD i 0))) from (rows_end HX.out x r1).setOther (by show w6.heap.size ≠ w6.heap.size + 1; omega) _)
            have RR2 := hid (show (((wr.setCell ⟨w6.heap.size, k, none⟩ (.int .i64 x)).setCell ⟨w6.heap.size + 1, k, none⟩ (.int .i64 y)).rowIs (w6.heap.size + 1) 2 (ys ++ [y]).length (fun i => .int .i64 ((ys ++ [y]).getD i 0))) from rows_end HY.out y (r2.setOther (a := ⟨w6.heap.size, k, none⟩) (by show w6.heap.size + 1 ≠ w6.heap.size; omega) (.int .i64 x)))
            have BB := hid ((hbel.setCell (p := ⟨w6.heap.size, k, none⟩) (Nat.le_refl _) (.int .i64 x)).setCell (p := ⟨w6.heap.size + 1, k, none⟩) (by show w6.heap.size ≤ w6.heap.size + 1; omega) (.int .i64 y))
            clear r1 r2 hbel
            go_wp2_with fail
            refine Calls.mono (zzho_len a0 a1 (some ⟨w6.heap.size, 0, none⟩) (some ⟨w6.heap.size + 1, 0, none⟩) _ _ (k + 1) (xs ++ [x]) (ys ++ [y]) _ (by simp [HX.out]) (by simp [HY.out]) (by omega) (.inr ⟨_, rfl, RR1.out⟩) (.inr ⟨_, rfl, RR2.out⟩)) ?_
            rintro e w8 ⟨⟨s1, rfl, hs1⟩, hb8⟩
            have B7 := hid (BB.out.trans (hb8.mono BB.out.size))
            have hone := Plain.one_more (by rw [HX.out, HY.out]) HS0.out hs1
            have hcov := Plain.covered_eq HS0.out
            have RX8 := hid (RX6.out.below B7.out)
            have RY8 := hid (RY6.out.below B7.out)
            have B8 := hid (B6.out.trans (B7.out.mono B6.out.size))
            obtain ⟨o1, o2⟩ := hone
            clear hs1 hb8
            by_cases hc1 : x < s0
            · by_cases hc2 : s0 ≤ y
              · have o3 := o1 ⟨hc1, hc2⟩
                clear o1 o2
                go_wp2_with (go_at_call 8; refine (covered_len a1 oa ob _ _ k xs ys _ HX.out HY.out (by omega) RX8.out RY8.out).mono ?_; rintro e w7 ⟨rfl, rfl⟩)
                go_ret
                exact ⟨ret_true (by simp), B8.out⟩
              · have o3 : s1 = s0 := o2 (by omega)
                clear o1 o2
                subst o3
                go_wp2_with (go_at_call 8; refine (covered_len a1 oa ob _ _ k xs ys _ HX.out HY.out (by omega) RX8.out RY8.out).mono ?_; rintro e w7 ⟨rfl, rfl⟩)
                go_ret
                exact ⟨ret_true (by simp), B8.out⟩
            · have o3 : s1 = s0 := o2 (by omega)
              clear o1 o2
              subst o3
              go_wp2_with (go_at_call 8; refine (covered_len a1 oa ob _ _ k xs ys _ HX.out HY.out (by omega) RX8.out RY8.out).mono ?_; rintro e w7 ⟨rfl, rfl⟩)
              go_ret
              exact ⟨ret_true (by simp), B8.out⟩
      · go_enter Try.func4, Try.ntmps4
        go_wp2_with (first | (go_at_call 9; go_in))
        all_goals (go_ret; exact ⟨rfl, Below.refl _ _⟩)
    · go_enter Try.func4, Try.ntmps4
      go_wp2_with (first | (go_at_call 9; go_in))
      all_goals (go_ret; exact ⟨rfl, Below.refl _ _⟩)
  · go_enter Try.func4, Try.ntmps4
    go_wp2_with (first | (go_at_call 9; go_in))
    all_goals (go_ret; exact ⟨rfl, Below.refl _ _⟩)
end Go.Proofs.Qxb6612299a
