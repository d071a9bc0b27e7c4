/-
  zzArrange walked.
-/
import Derived.Test.Qxb6612266aOrdersAre
import Derived.Test.Qxb6612266aSort
import Derived.Outline
namespace Go.Proofs.Qxb6612266a
open Go.RowKit
set_option linter.unusedSimpArgs false

theorem Try.info3 : (Try.prog.info? 3).map (fun i => (i.zero, i.size, i.bytes)) = some (some (.int .i64 0), 1, 8) := by kernel_rfl

theorem Int64_wrap_small {x : Int} (h1 : -9223372036854775808 ≤ x) (h2 : x < 9223372036854775808) : IntKind.i64.wrap x = x := by
  unfold IntKind.wrap
  simp [IntKind.signed, IntKind.bits] 
  omega

theorem worse_any (bids : Bool) (p q : Int) (w : World) : Calls Try.prog 19 #[.bool bids, .int .i64 p, .int .i64 q] w fun e w' => e = .returned (.bool (Book.wrB bids p q)) ∧ w' = w := by
  unfold Book.wrB
  cases bids
  · go_enter Try.func19, Try.ntmps19
    go_wp2
    go_ret
    exact ⟨rfl, rfl⟩
  · go_enter Try.func19, Try.ntmps19
    go_wp2
    go_ret
    exact ⟨rfl, rfl⟩

/-- A number as an index's cell. -/
def vi (x : Nat) : Value := .int .i64 ((x : Nat) : Int)

/-- The row while the hole stands at j. -/
def holeF (os : List Nat) (i j : Nat) (x : Value) (t : Nat) : Value := if t < j then vi (os.getD t 0) else if t = j then x else if t ≤ i then vi (os.getD (t - 1) 0) else .int .i64 0
/-- The row ahead of round i. -/
def doneF (os : List Nat) (i : Nat) (t : Nat) : Value := if t < i then vi (os.getD t 0) else .int .i64 0

theorem hole_start (os : List Nat) (i t : Nat) : doneF os i t = holeF os i i (.int .i64 0) t := by
  unfold doneF holeF
  by_cases h1 : t < i
  · simp [h1]
  · by_cases h2 : t = i
    · simp [h2]
    · simp [h1, h2, show ¬ t ≤ i by omega]
theorem hole_step {os : List Nat} {i j : Nat} {x : Value} (hj : 0 < j) (hji : j ≤ i) (t : Nat) : (if t = j then vi (os.getD (j - 1) 0) else holeF os i j x t) = holeF os i (j - 1) (vi (os.getD (j - 1) 0)) t := by
  unfold holeF
  by_cases h1 : t = j
  · subst h1
    simp [show ¬ t < t - 1 by omega, show ¬ t = t - 1 by omega, hji]
  · rw [if_neg h1]
    by_cases h2 : t < j
    · rw [if_pos h2]
      by_cases h3 : t = j - 1
      · subst h3; simp
      · rw [if_pos (by omega)]
    · rw [if_neg h2, if_neg h1, if_neg (show ¬ t < j - 1 by omega), if_neg (show ¬ t = j - 1 by omega)]
theorem hole_end {os : List Nat} {i j : Nat} {x : Value} (hl : os.length = i) (hji : j ≤ i) (t : Nat) : (if t = j then vi i else holeF os i j x t) = doneF (Book.insAt os j i) (i + 1) t := by
  unfold holeF doneF
  rw [Book.insAt_getD (by omega)]
  by_cases h1 : t = j
  · subst h1
    simp [show t < i + 1 by omega]
  · rw [if_neg h1]
    by_cases h2 : t < j
    · simp [h2, show t < i + 1 by omega]
    · by_cases h3 : t ≤ i
      · simp [h2, h1, h3, show t < i + 1 by omega]
      · simp [h2, h1, h3, show ¬ t < i + 1 by omega]

theorem drop_back {bids : Bool} {p : Int} {P : Nat → Int} {os : List Nat} {j m y : Nat} (hm : m = j - 1) (hj : 0 < j) (hl : j ≤ os.length) (hy : y = os.getD m 0) (hw : Book.wrB bids p (P y) = true) (h : ∀ z, z ∈ os.drop j → Book.wrB bids p (P z) = true) :
    ∀ z, z ∈ os.drop m → Book.wrB bids p (P z) = true := by
  intro z hz
  rw [List.drop_eq_getElem_cons (show m < os.length by omega), show m + 1 = j by omega] at hz
  rcases List.mem_cons.1 hz with e | e
  · rw [e, ← show os.getD m 0 = os[m] by simp [show m < os.length by omega], ← hy]; exact hw
  · exact h z e

set_option maxHeartbeats 1600000 in
set_option maxRecDepth 100000 in
theorem arrange_any (bids : Bool) (P : Nat → Int) (n cp : Nat) (op : Option Addr) (w : World) (hn : n ≤ 4096) (hp : PrR w.heap.size P w op n) :
    Calls Try.prog 7 #[.bool bids, .slice op n cp] w fun e w' => (∃ ord oi, e = .returned (.slice oi n n) ∧ ord.length = n ∧ ord.Nodup ∧ (∀ x, x ∈ ord → x < n) ∧ Book.SortedO bids P ord ∧ IdR ord w' oi) ∧ Below w.heap.size w w' := by
  have hmk := run_make_row' (P := Try.prog) 25 3 (.int .i64 0) 8 Try.underlying25 Try.info3 rfl .i64 .i64 n (by omega) (by omega)
  have HP := hid hp
  clear hp
  go_enter Try.func7, Try.ntmps7
  go_wp2_with fail
  go_loopw [6] (fun iv wr => ∃ (i : Nat) (os : List Nat), i ≤ n ∧ iv = .int .i64 i ∧ Hid (os.length = i ∧ os.Nodup ∧ (∀ x, x ∈ os → x < i) ∧ Book.SortedO bids P os) ∧ wr.rowIs w.heap.size 3 n (doneF os i) ∧ Below w.heap.size w wr) (fun iv _ => n - (intOf iv).toNat)
  case atStart => exact ⟨0, [], Nat.zero_le _, rfl, ⟨rfl, List.nodup_nil, by simp, List.Pairwise.nil⟩, (World.rowIs_made w (.int .i64 0) n 3).congr (fun t _ => by simp [doneF]), (Below.refl _ _).alloc (Nat.le_refl _) _⟩
  case round =>
    obtain ⟨i, os, hi, rfl, HS, hrow, hbel⟩ := hrel
    by_cases hlt : i < n
    · obtain ⟨bp, off, rfl, cbp⟩ := (HP.out.fr hbel).at hlt
      have i1 : (0 : Int) ≤ (i : Int) := Int.natCast_nonneg _
      have i2 : (i : Int) < (n : Int) := by omega
      have HROW := hid hrow
      have HBEL := hid hbel
      clear hrow hbel
      go_wp2_with fail
      go_loopw [7] (fun jv wq => ∃ (j : Nat) (x : Value), j ≤ i ∧ jv = .int .i64 j ∧ Hid (∀ y, y ∈ os.drop j → Book.wrB bids (P i) (P y) = true) ∧ x.oneCell' = true ∧ wq.rowIs w.heap.size 3 n (holeF os i j x) ∧ Below w.heap.size w wq) (fun jv _ => (intOf jv).toNat)
      case atStart => exact ⟨i, .int .i64 0, Nat.le_refl _, rfl, fun y hy => (by rw [List.drop_eq_nil_of_le (by rw [HS.out.1]; exact Nat.le_refl _)] at hy; simp at hy), rfl, HROW.out.congr (fun t _ => hole_start os i t), HBEL.out⟩
      case round =>
        obtain ⟨j, x, hj, rfl, HD, hx, hrow, hbel⟩ := hrel
        have hjn : j < n := by omega
        have cj := hrow.cell hjn
        have fj := hrow.frozen j
        have e1 : holeF os i j x j = x := by unfold holeF; simp
        rw [e1] at cj
        have j1 : (0 : Int) ≤ (j : Int) := Int.natCast_nonneg _
        have j2 : (j : Int) < (n : Int) := by omega
        have HROW' := hid hrow
        have HBEL' := hid hbel
        clear hrow hbel e1
        by_cases hj0 : j = 0
        · subst hj0
          have g0 : decide ((0 : Int) < ((0 : Nat) : Int)) = false := by decide
          have hins := Book.insAt_sorted (i := i) HS.out.2.2.2 (Nat.zero_le _) HD.out (.inl rfl)
          have HINS := hid hins
          clear hins
          go_wp2_with fail
          go_quiet (fail)
          go_wp2_with fail
          go_roundw
          case rel => exact ⟨i + 1, Book.insAt os 0 i, by omega, by go_num, ⟨by rw [Book.insAt_length (Nat.zero_le _), HS.out.1], Book.insAt_nodup HS.out.2.1 (fun h => absurd (HS.out.2.2.1 _ h) (by omega)), fun x hx => (by rcases Book.insAt_mem.1 hx with h | h; { omega }; { have := HS.out.2.2.1 _ h; omega }), HINS.out⟩, (HROW'.out.set 0 (vi i)).congr (fun t _ => hole_end HS.out.1 hj t), Below.setCell (p := ⟨w.heap.size, 0, none⟩) (below_drewN HBEL'.out _) (Nat.le_refl _) _⟩
          case measure => simp [intOf]; omega
        · have hj1 : 0 < j := by omega
          have m1 : j - 1 < n := by omega
          have hlen := HS.out.1
          have hy : os.getD (j - 1) 0 ∈ os := by
            rw [show os.getD (j - 1) 0 = os[j - 1]'(by omega) by simp [show j - 1 < os.length by omega]]; exact List.getElem_mem _
          have hyi := HS.out.2.2.1 _ hy
          have cm := HROW'.out.cell m1
          rw [show holeF os i j x (j - 1) = vi (os.getD (j - 1) 0) by unfold holeF; simp [show j - 1 < j by omega]] at cm
          have ev : vi (os.getD (j - 1) 0) = .int .i64 ((os.getD (j - 1) 0 : Nat) : Int) := rfl
          have hrow2 := fun v => HROW'.out.set j v
          obtain ⟨m, hm⟩ : ∃ m, m = j - 1 := ⟨_, rfl⟩
          have HM : Hid (m = j - 1) := hid hm
          rw [← hm] at hy hyi cm ev
          have k0 : IntKind.i64.wrap ((j : Int) - 1) = (m : Int) := by rw [show (j : Int) - 1 = (m : Int) by omega]; exact Int64_wrap_small (by omega) (by omega)
          have k1 : (0 : Int) ≤ (m : Int) := by omega
          have k2 : (m : Int) < (n : Int) := by omega
          obtain ⟨y, hyE⟩ : ∃ y, y = os.getD m 0 := ⟨_, rfl⟩
          have HY : Hid (y = os.getD m 0) := hid hyE
          rw [← hyE] at hy hyi cm ev
          have l1 : (0 : Int) ≤ (y : Int) := Int.natCast_nonneg _
          have l2 : (y : Int) < (n : Int) := by omega
          obtain ⟨bp', off', eq, cbq⟩ := (HP.out.fr HBEL'.out).at (show y < n by omega)
          cases eq
          obtain ⟨bp', off', eq, cbi⟩ := (HP.out.fr HBEL'.out).at hlt
          cases eq
          rw [ev] at cm
          have g1 : decide ((0 : Int) < (j : Int)) = true := by simp; omega
          clear ev hm hyE hy
          cases hw : Book.wrB bids (P i) (P y) with
          | true =>
            go_wp2_with fail
            go_quiet ((go_at_call 19; exact Calls.quiet_of_same (worse_any _ _ _ _)))
            rw [hw]
            go_wp2_with fail
            go_roundw
            case rel => exact ⟨m, vi y, by have := HM.out; omega, rfl, drop_back HM.out hj1 (by omega) HY.out hw HD.out, rfl, (HROW'.out.set j (vi y)).congr (fun t _ => by rw [HY.out, HM.out]; exact hole_step hj1 hj t), Below.setCell (p := ⟨w.heap.size, j, none⟩) (below_drewN HBEL'.out _) (Nat.le_refl _) _⟩
            case measure => have := HM.out; simp [intOf]; omega
          | false =>
            go_wp2_with fail
            go_quiet ((go_at_call 19; exact Calls.quiet_of_same (worse_any _ _ _ _)))
            rw [hw]
            go_wp2_with fail
            go_roundw
            case rel => exact ⟨i + 1, Book.insAt os j i, by omega, by go_num, ⟨by rw [Book.insAt_length (by omega), HS.out.1], Book.insAt_nodup HS.out.2.1 (fun h => absurd (HS.out.2.2.1 _ h) (by omega)), fun x hx => (by rcases Book.insAt_mem.1 hx with h | h; { omega }; { have := HS.out.2.2.1 _ h; omega }), Book.insAt_sorted HS.out.2.2.2 (by omega) HD.out (.inr (by rw [← HM.out, ← HY.out]; exact hw))⟩, (HROW'.out.set j (vi i)).congr (fun t _ => hole_end HS.out.1 hj t), Below.setCell (p := ⟨w.heap.size, j, none⟩) (below_drewN HBEL'.out _) (Nat.le_refl _) _⟩
            case measure => simp [intOf]; omega
    · obtain rfl : i = n := by omega
      go_wp2_with fail
      go_ret
      refine ⟨⟨os, _, rfl, HS.out.1, HS.out.2.1, HS.out.2.2.1, HS.out.2.2.2, .inr ⟨_, rfl, ?_⟩⟩, hbel⟩
      rw [HS.out.1]
      exact hrow.congr (fun t ht => by simp [doneF, ht, vi])
end Go.Proofs.Qxb6612266a
