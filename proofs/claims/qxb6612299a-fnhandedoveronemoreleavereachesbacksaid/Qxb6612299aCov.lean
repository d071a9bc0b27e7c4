import Derived.Test.Qxb6612299aRows
import Derived.Test.Qxb6612299aPlain
import Derived.WalkKit
import Derived.WalkLawsBesides
import Derived.WalkSpells
import Derived.BigQuiet
import Derived.Deep.QuietTactic
import Derived.Deep.LoopGhost
import Derived.Below
import Derived.Deep.OwnRows
namespace Go.Proofs.Qxb6612299a
open Go.RowKit

/-- A slice of int64 of the call's own, its numbers xs: nothing is asked of an empty one. -/
def Rd (w : World) (oa : Option Addr) (xs : List Int) : Prop :=
  xs = [] ∨ ∃ b, oa = some ⟨b, 0, none⟩ ∧ w.rowIs b 2 xs.length (fun i => .int .i64 (xs.getD i 0))

theorem Rd.cell {w : World} {oa : Option Addr} {xs : List Int} (h : Rd w oa xs) {k : Nat} (hk : k < xs.length) :
    ∃ b, oa = some ⟨b, 0, none⟩ ∧ b < w.heap.size ∧ w.cell? ⟨b, k, none⟩ = some (.int .i64 xs[k]) := by
  rcases h with h | ⟨b, h1, h2⟩
  · subst h; simp at hk
  · refine ⟨b, h1, h2.lt, ?_⟩
    rw [h2.cell hk]
    simp [hk]

theorem Rd.below {w w' : World} {oa : Option Addr} {xs : List Int} (h : Rd w oa xs) (hb : Below w.heap.size w w') : Rd w' oa xs := by
  rcases h with h | ⟨b, h1, h2⟩
  · exact .inl h
  · exact .inr ⟨b, h1, h2.of_block (hb.block b h2.lt)⟩

theorem closed_take (c : Int) (xs ys : List Int) (k : Nat) (hx : k < xs.length) (hy : k < ys.length) :
    Plain.closedB c (xs.take (k + 1)) (ys.take (k + 1)) = (Plain.closedB c (xs.take k) (ys.take k) && !(decide (c ≤ ys[k]) && decide (xs[k] < c))) := by
  rw [List.take_succ_eq_append_getElem hx, List.take_succ_eq_append_getElem hy]
  exact Plain.closedB_snoc (by simp; omega)

/-- A leave that bridges c is among the first k: then c is not closed. -/
theorem closed_not {c : Int} {xs ys : List Int} {k : Nat} (hx : k < xs.length) (hy : k < ys.length) (h1 : c ≤ ys[k]) (h2 : xs[k] < c) : Plain.closedB c xs ys = false := by
  rw [← Bool.not_eq_true, Plain.closedB_iff]
  intro h
  refine h (xs[k], ys[k]) ?_ ⟨h1, h2⟩
  have : (xs.zip ys)[k]'(by simp; omega) = (xs[k], ys[k]) := by simp
  rw [← this]
  exact List.getElem_mem _

set_option maxHeartbeats 400000 in
/-- zzClosedAt. -/
theorem closedAt_any (c : Int) (oa ob : Option Addr) (cx cy : Nat) (xs ys : List Int) (w : World) (hl : xs.length = ys.length) (hn : xs.length ≤ 1025) (hx : Rd w oa xs) (hy : Rd w ob ys) :
    Calls Try.prog 11 #[.int .i64 c, .slice oa xs.length cx, .slice ob ys.length cy] w fun e w' => e = .returned (.bool (Plain.closedB c xs ys)) ∧ w' = w := by
  have HL : Hid _ := hl
  have hl1 : xs.length ≤ ys.length := by omega
  have hl2 : ys.length ≤ xs.length := by omega
  clear hl
  go_enter Try.func11, Try.ntmps11
  go_wp2
  go_loop [7] (fun i => ∃ k : Nat, k ≤ xs.length ∧ i = .int .i64 k ∧ Plain.closedB c (xs.take k) (ys.take k) = true) (fun i => xs.length - (intOf i).toNat)
  case atStart => exact ⟨0, Nat.zero_le _, rfl, rfl⟩
  case round =>
    obtain ⟨k, hk, rfl, hcl⟩ := hrel
    by_cases hlt : k < xs.length
    · obtain ⟨b, rfl, _, cb⟩ := hx.cell hlt
      obtain ⟨d, rfl, _, cd⟩ := hy.cell (show k < ys.length by omega)
      have HC := closed_take c xs ys k hlt (by omega)
      have HN := @closed_not c xs ys k hlt (by omega)
      have HC' : Hid _ := HC
      have HN' : Hid _ := HN
      have Hcl : Hid _ := hcl
      clear HC HN hcl
      by_cases h1 : c ≤ ys[k]
      · by_cases h2 : xs[k] < c
        · go_wp2
          go_ret
          exact ⟨by rw [HN'.out h1 h2]; rfl, rfl⟩
        · go_wp2
          go_round
          case rel => exact ⟨k + 1, by omega, by go_num, by rw [HC'.out, Hcl.out]; simp; omega⟩
          case measure => simp [intOf]; omega
      · go_wp2
        go_round
        case rel => exact ⟨k + 1, by omega, by go_num, by rw [HC'.out, Hcl.out]; simp; omega⟩
        case measure => simp [intOf]; omega
    · obtain rfl : k = xs.length := by omega
      have Hcl : Hid _ := hcl
      clear hcl
      go_wp2
      go_ret
      refine ⟨?_, rfl⟩
      have h := Hcl.out
      rw [List.take_length, HL.out, List.take_length] at h
      rw [h]
      rfl

theorem covStep_yes {m c : Int} {xs ys : List Int} {st : Int × Bool} (h1 : c ≤ m) (h2 : st.2 = false ∨ st.1 < c) (h3 : Plain.closedB c xs ys = true) : Plain.covStep m xs ys st c = (c, true) := by
  unfold Plain.covStep; rw [if_pos ⟨h1, h2, h3⟩]
theorem covStep_no {m c : Int} {xs ys : List Int} {st : Int × Bool} (h : ¬ (c ≤ m ∧ (st.2 = false ∨ st.1 < c) ∧ Plain.closedB c xs ys = true)) : Plain.covStep m xs ys st c = st := by
  unfold Plain.covStep; rw [if_neg h]

set_option maxHeartbeats 800000 in
/-- zzCoveredSince. -/
theorem covered_any (m : Int) (oa ob : Option Addr) (cx cy : Nat) (xs ys : List Int) (w : World) (hl : xs.length = ys.length) (hn : xs.length ≤ 1025) (hx : Rd w oa xs) (hy : Rd w ob ys) :
    Calls Try.prog 8 #[.int .i64 m, .slice oa xs.length cx, .slice ob ys.length cy] w fun e w' => e = .returned (.int .i64 (Plain.covered m xs ys)) ∧ w' = w := by
  have HA : Hid (∀ c w', w' = w → Calls Try.prog 11 #[.int .i64 c, .slice oa xs.length cx, .slice ob ys.length cy] w' fun e w'' => e = .returned (.bool (Plain.closedB c xs ys)) ∧ w'' = w') := fun c w' e => by subst e; exact closedAt_any c oa ob cx cy xs ys _ hl hn hx hy
  have HL : Hid _ := hl
  have hl1 : xs.length ≤ ys.length := by omega
  have hl2 : ys.length ≤ xs.length := by omega
  clear hl
  cases hm : Plain.closedB m xs ys with
  | true =>
    have e : Plain.covered m xs ys = m := by simp [Plain.covered, hm]
    rw [e]
    clear e
    go_enter Try.func8, Try.ntmps8
    go_wp2_with (go_at_call 11; refine (HA.out _ _ rfl).mono ?_; rintro e w' ⟨rfl, rfl⟩)
    go_ret
    exact ⟨rfl, rfl⟩
  | false =>
    have e : Plain.covered m xs ys = (Plain.covTo m xs ys xs.length).1 := by simp [Plain.covered, hm]
    rw [e]
    clear e
    go_enter Try.func8, Try.ntmps8
    go_wp2_with (go_at_call 11; refine (HA.out _ _ rfl).mono ?_; rintro e w' ⟨rfl, rfl⟩)
    go_loop [7, 8, 9] (fun b h i => ∃ k : Nat, k ≤ xs.length ∧ i = .int .i64 k ∧ b = .int .i64 (Plain.covTo m xs ys k).1 ∧ h = .bool (Plain.covTo m xs ys k).2) (fun _ _ i => xs.length - (intOf i).toNat)
    case atStart => exact ⟨0, Nat.zero_le _, rfl, rfl, rfl⟩
    case round =>
      obtain ⟨k, hk, rfl, rfl, rfl⟩ := hrel
      by_cases hlt : k < xs.length
      · obtain ⟨b, rfl, _, cb⟩ := hx.cell hlt
        have HS : Hid _ := Plain.covTo_succ m xs ys k hlt
        generalize hst : Plain.covTo m xs ys k = st at *
        obtain ⟨bb, hv⟩ := st
        clear hst
        by_cases h1 : xs[k] ≤ m
        · cases hv with
          | false =>
            cases h3 : Plain.closedB xs[k] xs ys with
            | true =>
              have HS' : Hid (Plain.covTo m xs ys (k + 1) = (xs[k], true)) := HS.out.trans (covStep_yes h1 (.inl rfl) h3)
              clear HS
              go_wp2_with (go_at_call 11; refine (HA.out _ _ rfl).mono ?_; rintro e w' ⟨rfl, rfl⟩)
              go_round
              case rel => exact ⟨k + 1, by omega, by go_num, by rw [HS'.out], by rw [HS'.out]⟩
              case measure => simp [intOf]; omega
            | false =>
              have HS' : Hid (Plain.covTo m xs ys (k + 1) = (bb, false)) := HS.out.trans (covStep_no (by rw [h3]; simp))
              clear HS
              go_wp2_with (go_at_call 11; refine (HA.out _ _ rfl).mono ?_; rintro e w' ⟨rfl, rfl⟩)
              go_round
              case rel => exact ⟨k + 1, by omega, by go_num, by rw [HS'.out], by rw [HS'.out]⟩
              case measure => simp [intOf]; omega
          | true =>
            by_cases h2 : bb < xs[k]
            · cases h3 : Plain.closedB xs[k] xs ys with
              | true =>
                have HS' : Hid (Plain.covTo m xs ys (k + 1) = (xs[k], true)) := HS.out.trans (covStep_yes h1 (.inr h2) h3)
                clear HS
                go_wp2_with (go_at_call 11; refine (HA.out _ _ rfl).mono ?_; rintro e w' ⟨rfl, rfl⟩)
                go_round
                case rel => exact ⟨k + 1, by omega, by go_num, by rw [HS'.out], by rw [HS'.out]⟩
                case measure => simp [intOf]; omega
              | false =>
                have HS' : Hid (Plain.covTo m xs ys (k + 1) = (bb, true)) := HS.out.trans (covStep_no (by rw [h3]; simp))
                clear HS
                go_wp2_with (go_at_call 11; refine (HA.out _ _ rfl).mono ?_; rintro e w' ⟨rfl, rfl⟩)
                go_round
                case rel => exact ⟨k + 1, by omega, by go_num, by rw [HS'.out], by rw [HS'.out]⟩
                case measure => simp [intOf]; omega
            · have HS' : Hid (Plain.covTo m xs ys (k + 1) = (bb, true)) := HS.out.trans (covStep_no (by simp [h2]))
              clear HS
              go_wp2_with fail
              go_round
              case rel => exact ⟨k + 1, by omega, by go_num, by rw [HS'.out], by rw [HS'.out]⟩
              case measure => simp [intOf]; omega
        · have HS' : Hid (Plain.covTo m xs ys (k + 1) = (bb, hv)) := HS.out.trans (covStep_no (by simp [h1]))
          clear HS
          go_wp2_with fail
          go_round
          case rel => exact ⟨k + 1, by omega, by go_num, by rw [HS'.out], by rw [HS'.out]⟩
          case measure => simp [intOf]; omega
      · obtain rfl : k = xs.length := by omega
        go_wp2_with fail
        go_ret
        exact ⟨rfl, rfl⟩
end Go.Proofs.Qxb6612299a
