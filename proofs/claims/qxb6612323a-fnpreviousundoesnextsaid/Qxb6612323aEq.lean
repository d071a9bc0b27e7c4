/-
  '==' between an array of sixteen bytes and itself: true.
-/
import Derived.Test.Qxb6612323aRows
import Derived.WalkKit
import Derived.Laws.StructEq
namespace Go.Proofs.Qxb6612323a
open Go.RowKit

theorem forIn_all {P : Program} {w : World} (f : Nat → (Option Bool × PUnit) → Sem (ForInStep (Option Bool × PUnit))) : ∀ (l : List Nat), (∀ i, i ∈ l → ∀ s, (f i s).run P w = .ok (.yield (none, ())) w) →
    (forIn l (none, ()) f).run P w = .ok (none, ()) w
  | [], _ => by simp
  | i :: l, h => by
    rw [List.forIn_cons, Sem.run_bind, h i (by simp)]
    simp only [Result.andThen_ok]
    exact forIn_all f l (fun j hj => h j (by simp [hj]))

theorem part5 {A : Array Value} {i : Nat} {z : Int} (h : A[i]? = some (.int .u8 z)) (w : World) : (part 5 A i).run Try.prog w = .ok (.int .u8 z) w := by
  have e : (isAgg 5).run Try.prog w = .ok false w := by kernel_rfl
  simp [part, e, h]

theorem arr_same (A : Array Value) (hA : ∀ i, i < 16 → ∃ z, A[i]? = some (.int .u8 z)) (w : World) :
    (Op.equalIn 9999 24 (.agg A) (.agg A)).run Try.prog w = .ok true w := by
  unfold Op.equalIn
  have e : (sizeOf 5).run Try.prog w = .ok 1 w := by kernel_rfl
  simp only [Sem.run_bind, run_underlying Try.underlying24, Result.andThen_ok, e, Std.Legacy.Range.forIn_eq_forIn_range']
  rw [forIn_all]
  · simp
  · intro i hi s
    have hi' : i < 16 := by simp [Std.Legacy.Range.size, List.mem_range'] at hi; omega
    obtain ⟨z, hz⟩ := hA i hi'
    have e2 := run_equalIn_int (P := Try.prog) w 9997 5 .u8 .u8 z z Try.underlying5
    simp [part5 hz, e2]

/-- The sixteen bytes, as cells. -/
theorem bytes16 (x0 x1 x2 x3 x4 x5 x6 x7 x8 x9 x10 x11 x12 x13 x14 x15 : Int) : ∀ i, i < 16 → ∃ z, (#[Value.int .u8 x0, .int .u8 x1, .int .u8 x2, .int .u8 x3, .int .u8 x4, .int .u8 x5, .int .u8 x6, .int .u8 x7, .int .u8 x8, .int .u8 x9, .int .u8 x10, .int .u8 x11, .int .u8 x12, .int .u8 x13, .int .u8 x14, .int .u8 x15] : Array Value)[i]? = some (.int .u8 z)
  | 0, _ => ⟨x0, rfl⟩ | 1, _ => ⟨x1, rfl⟩ | 2, _ => ⟨x2, rfl⟩ | 3, _ => ⟨x3, rfl⟩ | 4, _ => ⟨x4, rfl⟩ | 5, _ => ⟨x5, rfl⟩ | 6, _ => ⟨x6, rfl⟩ | 7, _ => ⟨x7, rfl⟩
  | 8, _ => ⟨x8, rfl⟩ | 9, _ => ⟨x9, rfl⟩ | 10, _ => ⟨x10, rfl⟩ | 11, _ => ⟨x11, rfl⟩ | 12, _ => ⟨x12, rfl⟩ | 13, _ => ⟨x13, rfl⟩ | 14, _ => ⟨x14, rfl⟩ | 15, _ => ⟨x15, rfl⟩
  | i + 16, h => absurd h (by omega)
end Go.Proofs.Qxb6612323a
