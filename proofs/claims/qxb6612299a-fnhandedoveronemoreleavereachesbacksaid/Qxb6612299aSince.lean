import Derived.Test.Qxb6612299aZHo
import Derived.OpenShut
namespace Go.Proofs.Qxb6612299a
open Go.RowKit

/-- WHAT THE WALK IS TOLD OF A SLICE OF INTEGERS THAT CAME IN (the shell's own words). -/
def IsRow (k : IntKind) (w : World) (a : Option Addr) (len cap : Nat) (zs : List Int) : Prop :=
  (a = none ∧ len = 0 ∧ cap = 0 ∧ zs = []) ∨
  ∃ x, a = some x ∧ len ≤ cap ∧ cap ≤ maxLen ∧ zs.length = cap ∧ (∀ i, i < zs.length → w.cell? (x.add i) = some (.int k (zs.getD i 0))) ∧ ∀ n ∈ zs, (Lit.int k n).wf = true

theorem IsRow.len {w : World} {a : Option Addr} {len cap : Nat} {zs : List Int} (h : IsRow .i64 w a len cap zs) : (zs.take len).length = len := by
  rcases h with ⟨_, rfl, _, rfl⟩ | ⟨x, _, h1, _, h2, _⟩
  · rfl
  · rw [List.length_take]; omega

theorem IsRow.nil {w : World} {a : Option Addr} {len cap : Nat} {zs : List Int} (h : IsRow .i64 w a len cap zs) : a = none → len = 0 ∧ cap = 0 := by
  rcases h with ⟨_, rfl, rfl, _⟩ | ⟨x, rfl, _⟩
  · intro _; exact ⟨rfl, rfl⟩
  · intro h; cases h

/-- Its cells, in whatever later world that is as the first one was below its size. -/
theorem IsRow.cells {w w' : World} {a : Option Addr} {len cap : Nat} {zs : List Int} (h : IsRow .i64 w a len cap zs) (hb : Below w.heap.size w w') :
    0 < len → ∃ b off, a = some ⟨b, off, none⟩ ∧ ∀ i, i < len → w'.cell? ⟨b, off + i, none⟩ = some (.int .i64 ((zs.take len).getD i 0)) := by
  intro hl
  rcases h with ⟨_, rfl, _, _⟩ | ⟨x, rfl, h1, _, h2, hc, _⟩
  · omega
  · obtain ⟨b, off, rfl, hc'⟩ := ints_at hc (by omega)
    refine ⟨b, off, rfl, fun i hi => ?_⟩
    have h3 := hc' i (by omega)
    rw [hb.cell (p := ⟨b, off + i, none⟩) (World.block_lt_of_cell? w _ h3), h3]
    simp [hi]

theorem zzho_len (nd m : Int) (oa ob : Option Addr) (cx cy n : Nat) (xs ys : List Int) (w : World) (hx : xs.length = n) (hy : ys.length = n) (hn : n ≤ 1025) (rx : Rd w oa xs) (ry : Rd w ob ys) :
    Calls Try.prog 7 #[.int .i64 nd, .int .i64 m, .slice oa n cx, .slice ob n cy] w fun e w' => (∃ s, e = .returned (.tuple #[.int .i64 s, .bool true, .int .i64 0]) ∧ Plain.Great m xs ys s) ∧ Below w.heap.size w w' := by
  have h := zzho_any nd m oa ob cx cy xs ys w (by omega) (by omega) rx ry
  rw [hx, hy] at h
  exact h
theorem covered_len (m : Int) (oa ob : Option Addr) (cx cy n : Nat) (xs ys : List Int) (w : World) (hx : xs.length = n) (hy : ys.length = n) (hn : n ≤ 1025) (rx : Rd w oa xs) (ry : Rd w ob ys) :
    Calls Try.prog 8 #[.int .i64 m, .slice oa n cx, .slice ob n cy] w fun e w' => e = .returned (.int .i64 (Plain.covered m xs ys)) ∧ w' = w := by
  have h := covered_any m oa ob cx cy xs ys w (by omega) (by omega) rx ry
  rw [hx, hy] at h
  exact h

set_option maxRecDepth 100000 in
set_option maxHeartbeats 1600000 in
theorem since_walk (a0 : Int) (a1 : Int) (a2 : Option Addr) (len2 cap2 : Nat) (z2 : List Int) (a3 : Option Addr) (len3 cap3 : Nat) (z3 : List Int) (w : World) (w2 : IsRow .i64 w a2 len2 cap2 z2) (w3 : IsRow .i64 w a3 len3 cap3 z3) (m2 : len2 ≤ 9223372036854775807) (m3 : len3 ≤ 9223372036854775807) :
    Calls Try.prog 3 #[.int .i64 a0, .int .i64 a1, .slice a2 len2 cap2, .slice a3 len3 cap3] w fun e w' => e = .returned (.bool true) ∧ Below w.heap.size w w' := by
  by_cases hA : len2 ≤ 1024
  · by_cases hB : len3 ≤ 1024
    · by_cases hE : len2 = len3
      · subst hE
        have hx := w2.len
        have hy := w3.len
        have HC2 := hid (clone_any a2 len2 cap2 (z2.take len2) w hx (by omega) w2.nil (w2.cells (Below.refl _ _)))
        have HC3 := hid (fun w' hb => clone_any a3 len2 cap3 (z3.take len2) w' hy (by omega) w3.nil (w3.cells (w' := w') hb))
        generalize z2.take len2 = xs at hx HC2
        generalize z3.take len2 = ys at hy HC3
        have HX := hid hx
        have HY := hid hy
        clear hx hy w2 w3
        go_enter Try.func3, Try.ntmps3
        go_wp2_with (first | (go_at_call 5; go_in))
        refine Calls.mono HC2.out ?_
        rintro e w4 ⟨⟨oa, rfl, hrx⟩, hb4⟩
        have RX4 := hid hrx
        have B4 := hid hb4
        clear hrx hb4
        go_wp2_with fail
        refine Calls.mono (HC3.out _ B4.out) ?_
        rintro e w5 ⟨⟨ob, rfl, hry⟩, hb5⟩
        have RX5 := hid (RX4.out.below hb5)
        have RY5 := hid hry
        have B5 := hid (B4.out.trans (hb5.mono B4.out.size))
        clear hry hb5
        go_wp2_with fail
        refine Calls.mono (zzho_len a0 a1 oa ob _ _ len2 xs ys _ HX.out HY.out (by omega) RX5.out RY5.out) ?_
        rintro e w6 ⟨⟨s, rfl, hs⟩, hb6⟩
        have RX6 := hid (RX5.out.below hb6)
        have RY6 := hid (RY5.out.below hb6)
        have B6 := hid (B5.out.trans (hb6.mono B5.out.size))
        have hcov := Plain.covered_eq hs
        clear hs hb6
        go_wp2_with (go_at_call 8; refine (covered_len a1 oa ob _ _ len2 xs ys _ HX.out HY.out (by omega) RX6.out RY6.out).mono ?_; rintro e w7 ⟨rfl, rfl⟩)
        go_ret
        exact ⟨rfl, B6.out⟩
      · go_enter Try.func3, Try.ntmps3
        go_wp2_with (first | (go_at_call 5; go_in))
        all_goals (go_ret; exact ⟨rfl, Below.refl _ _⟩)
    · go_enter Try.func3, Try.ntmps3
      go_wp2_with (first | (go_at_call 5; go_in))
      all_goals (go_ret; exact ⟨rfl, Below.refl _ _⟩)
  · go_enter Try.func3, Try.ntmps3
    go_wp2_with (first | (go_at_call 5; go_in))
    all_goals (go_ret; exact ⟨rfl, Below.refl _ _⟩)
end Go.Proofs.Qxb6612299a
