/- text.previous walked. -/
import Derived.Test.Qxb6612323aEq
import Derived.WalkKit
import Derived.WalkLawsBesides
import Derived.WalkSpells
import Derived.RegionTactic
import Derived.BigRegion
import Derived.Below
namespace Go.Proofs.Qxb6612323a
open Go.RowKit

set_option maxHeartbeats 800000 in
/-- text.previous: the same site, the number before; and whether there is one. -/
theorem previous_any (x0 x1 x2 x3 x4 x5 x6 x7 x8 x9 x10 x11 x12 x13 x14 x15 s t : Int) (b : Bool) (w : World) (ht : IntKind.u64.wrap (s - 1) = t) (hb : decide (1 < s) = b) :
    Calls Try.prog 5 #[.agg #[.int .u8 x0, .int .u8 x1, .int .u8 x2, .int .u8 x3, .int .u8 x4, .int .u8 x5, .int .u8 x6, .int .u8 x7, .int .u8 x8, .int .u8 x9, .int .u8 x10, .int .u8 x11, .int .u8 x12, .int .u8 x13, .int .u8 x14, .int .u8 x15, .int .u64 s]] w fun e w' => e = .returned (.tuple #[.agg #[.int .u8 x0, .int .u8 x1, .int .u8 x2, .int .u8 x3, .int .u8 x4, .int .u8 x5, .int .u8 x6, .int .u8 x7, .int .u8 x8, .int .u8 x9, .int .u8 x10, .int .u8 x11, .int .u8 x12, .int .u8 x13, .int .u8 x14, .int .u8 x15, .int .u64 t], .bool b]) ∧ ∃ c1 c2 : Array Value, w' = ((w.alloc (.cells c1 26)).alloc (.cells c2 26)).drew := by
  subst ht hb
  go_enter Try.func5, Try.ntmps5
  go_wp2
  go_region
  all_goals
    go_wp2
    refine bodyPost_ret (v := .tuple #[.agg #[.int .u8 x0, .int .u8 x1, .int .u8 x2, .int .u8 x3, .int .u8 x4, .int .u8 x5, .int .u8 x6, .int .u8 x7, .int .u8 x8, .int .u8 x9, .int .u8 x10, .int .u8 x11, .int .u8 x12, .int .u8 x13, .int .u8 x14, .int .u8 x15, .int .u64 (IntKind.u64.wrap (s - 1))], .bool (decide (1 < s))]) (by simp [results, Try.results5, go_sem]) rfl ⟨rfl, ?_⟩
    exact ⟨_, _, rfl⟩
end Go.Proofs.Qxb6612323a
