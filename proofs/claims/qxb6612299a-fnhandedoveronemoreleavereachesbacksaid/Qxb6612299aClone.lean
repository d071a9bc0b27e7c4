import Derived.Test.Qxb6612299aCov
import Derived.Lib.SliceRun
namespace Go.Proofs.Qxb6612299a
open Go.RowKit

theorem Try.info2 : (Try.prog.info? 2).map (fun i => (i.zero, i.size, i.bytes)) = some (some (.int .i64 0), 1, 8) := by kernel_rfl

theorem hid {p : Prop} (h : p) : Hid p := h

theorem row_step {w : World} {b t n k : Nat} {F : Nat → Value} {z : Value} (h : w.rowIs b t n (fun j => if j < k then F j else z)) :
    (w.setCell ⟨b, k, none⟩ (F k)).rowIs b t n (fun j => if j < k + 1 then F j else z) :=
  (h.set k (F k)).congr (fun i _ => by
    by_cases h1 : i = k
    · subst h1; simp
    · by_cases h2 : i < k
      · simp [h1, h2, show i < k + 1 from by omega]
      · simp [h1, h2, show ¬ i < k + 1 from by omega])

set_option maxHeartbeats 400000 in
/-- zzCloneInt64s at a slice that is not nil. -/
theorem clone_some (x : Addr) (len cap : Nat) (zs : List Int) (w : World) (hzl : zs.length = len) (hn : len ≤ 1048576)
    (hc : 0 < len → ∃ b off, x = ⟨b, off, none⟩ ∧ ∀ i, i < len → w.cell? ⟨b, off + i, none⟩ = some (.int .i64 (zs.getD i 0))) :
    Calls Try.prog 6 #[.slice (some x) len cap] w fun e w' => (∃ oa, e = .returned (.slice oa len len) ∧ Rd w' oa zs) ∧ Below w.heap.size w w' := by
  have hmk := run_make_row' (P := Try.prog) 22 2 (.int .i64 0) 8 Try.underlying22 Try.info2 rfl .i64 .i64 len (by omega) (by omega)
  have heq := fun w => Lib.run_eql_slice_nil (P := Try.prog) w 22 2 (some x) len cap 0 0 Try.underlying22
  have HZ := hid hzl
  clear hzl
  go_enter Try.func6, Try.ntmps6
  go_wp2
  go_loopw [4] (fun i wr => ∃ k : Nat, k ≤ len ∧ i = .int .i64 k ∧ wr.rowIs w.heap.size 2 len (fun j => if j < k then .int .i64 (zs.getD j 0) else .int .i64 0) ∧ Below w.heap.size w wr) (fun i _ => len - (intOf i).toNat)
  case atStart => exact ⟨0, Nat.zero_le _, rfl, (World.rowIs_made w (.int .i64 0) len 2).congr (fun i hi => by simp), (Below.refl _ _).alloc (Nat.le_refl _) _⟩
  case round =>
    obtain ⟨k, hk, rfl, hrow, hbel⟩ := hrel
    by_cases hlt : k < len
    · obtain ⟨b, off, rfl, hcell⟩ := hc (by omega)
      have hc1 : wr.cell? ⟨b, off + k, none⟩ = some (.int .i64 (zs.getD k 0)) := (hbel.cell (p := ⟨b, off + k, none⟩) (World.block_lt_of_cell? w _ (hcell k hlt))).trans (hcell k hlt)
      have hc2 : wr.cell? ⟨w.heap.size, k, none⟩ = some (.int .i64 0) := by rw [hrow.cell hlt]; simp
      have hf2 := hrow.frozen k
      have HR := hid (row_step (F := fun j => .int .i64 (zs.getD j 0)) hrow)
      have HB := hid (hbel.setCell (p := ⟨w.heap.size, k, none⟩) (Nat.le_refl _) (.int .i64 (zs.getD k 0)))
      clear hrow hbel hcell hc
      go_wp2
      go_roundw
      case rel =>
        exact ⟨k + 1, by omega, by go_num, HR.out, HB.out⟩
      case measure => simp [intOf]; omega
    · obtain rfl : k = len := by omega
      have HR := hid hrow
      have HB := hid hbel
      clear hrow hbel
      go_wp2
      go_ret
      exact ⟨⟨some ⟨w.heap.size, 0, none⟩, rfl, .inr ⟨_, rfl, by rw [HZ.out]; exact HR.out.congr (fun i hi => by simp [hi])⟩⟩, HB.out⟩

/-- zzCloneInt64s at nil. -/
theorem clone_nil (w : World) : Calls Try.prog 6 #[.slice none 0 0] w fun e w' => e = .returned (.slice none 0 0) ∧ w' = w := by
  have heq := fun w => Lib.run_eql_slice_nil (P := Try.prog) w 22 2 none 0 0 0 0 Try.underlying22
  go_enter Try.func6, Try.ntmps6
  go_wp2
  go_ret
  exact ⟨rfl, rfl⟩

/-- zzCloneInt64s, at whatever slice came in: what is read behind it is a slice of the call's own. -/
theorem clone_any (oa : Option Addr) (len cap : Nat) (zs : List Int) (w : World) (hzl : zs.length = len) (hn : len ≤ 1048576) (hnil : oa = none → len = 0 ∧ cap = 0)
    (hc : 0 < len → ∃ b off, oa = some ⟨b, off, none⟩ ∧ ∀ i, i < len → w.cell? ⟨b, off + i, none⟩ = some (.int .i64 (zs.getD i 0))) :
    Calls Try.prog 6 #[.slice oa len cap] w fun e w' => (∃ ob, e = .returned (.slice ob len len) ∧ Rd w' ob zs) ∧ Below w.heap.size w w' := by
  cases oa with
  | none =>
    obtain ⟨rfl, rfl⟩ := hnil rfl
    refine (clone_nil w).mono ?_
    rintro e w' ⟨rfl, rfl⟩
    exact ⟨⟨none, rfl, .inl (List.length_eq_zero_iff.1 hzl)⟩, Below.refl _ _⟩
  | some x =>
    exact clone_some x len cap zs w hzl hn (fun h => by
      obtain ⟨b, off, e, h'⟩ := hc h
      exact ⟨b, off, by simpa using e, h'⟩)
end Go.Proofs.Qxb6612299a
