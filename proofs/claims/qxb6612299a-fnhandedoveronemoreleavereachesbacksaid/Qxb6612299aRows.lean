/-
  No cell of these rows narrows 'for every input' (looked for: loops, veiled, ifaces, maps, wideKeys, modest, calm, conditions, laid).
  DERIVED. THE GIVEN ROWS OF THIS SEAT. 2 by the template 'for every input the law returns true; each argument reads behind the call as it read before'; 0 by the template 'total and deterministic' (their statements: Qxb6612299aTotals.lean).
  GIVEN WITH THE SEED: the statements are not yours to turn. If you find one false, say at which input.
  Laid BY PROGRAM, IN A SANDBOX (cutbox-rows.mjs): the forced cells as the released guide's own fill.sh prints them over the translation 86818ffdebd34d38… (all of the seat's roots in one cut). By AI agents, Wed Nov 11 2026. No macro, syntax, notation, axiom, sorry.
-/
import Derived.Test.Qxb6612299aChecked
import GoSem.Claim
import GoSem.ClaimJoined
import GoSem.ClaimMapViews
import Derived.JoinedTies
import Derived.KernelRfl
namespace Go.Proofs.Qxb6612299a
/- THE CELL 'sum', in the pinned program and in every row, IS THE sha256 OF THE DUMP (.gsa) THAT Qxb6612299aProg.lean LOADS. Nothing in Lean hashes anything: it is a label: what it is worth is what the hold of that sum in a sandbox is worth. -/
noncomputable def Try.pinned : Pinned := { name := "qxb6612299a", sum := "86818ffdebd34d3822d6bb3a03f35a3295027893a158f7d0d64efd55907efcfb", checked := Try.checked }
namespace Rows
def none {H : Type} : Left H := { results := [], args := [] }

/-- 'zzlaws_protocol_b1.FnHandedOverSinceIsGreatestClosedInstant': WHATEVER THE INPUT: true; the input reads as it did. -/
def fnHandedOverSinceIsGreatestClosedInstantSpec : ChangeSpec := { name := "fnHandedOverSinceIsGreatestClosedInstant", fn := fun _ => fun
  | [d1, d2, d3, d4] => { results := [.lit (.bool true)], args := [d1, d2, d3, d4] }
  | _ => none }
def fnHandedOverSinceIsGreatestClosedInstantRow : OpenClaim := { program := "qxb6612299a", sum := "86818ffdebd34d3822d6bb3a03f35a3295027893a158f7d0d64efd55907efcfb", func := "example.com/cairn/cairn/zzlaws_protocol_b1.FnHandedOverSinceIsGreatestClosedInstant", spec := "fnHandedOverSinceIsGreatestClosedInstant", unfollowed := true, recurses := true, plainKeys := false, apart := false }
def FnHandedOverSinceIsGreatestClosedInstantSaid : Prop := fnHandedOverSinceIsGreatestClosedInstantRow.holds Try.pinned (OpenSpec.ofChange fnHandedOverSinceIsGreatestClosedInstantSpec)

/-- ITS FALSE NEIGHBOUR: 'it returns false'. Refute it at one input. -/
def fnHandedOverSinceIsGreatestClosedInstantWrong : ChangeSpec := { name := "fnHandedOverSinceIsGreatestClosedInstant", fn := fun _ => fun
  | [d1, d2, d3, d4] => { results := [.lit (.bool false)], args := [d1, d2, d3, d4] }
  | _ => none }
def FnHandedOverSinceIsGreatestClosedInstantWrongFalsely : Prop := fnHandedOverSinceIsGreatestClosedInstantRow.holds Try.pinned (OpenSpec.ofChange fnHandedOverSinceIsGreatestClosedInstantWrong)

/-- 'zzlaws_protocol_b1.FnHandedOverOneMoreLeaveReachesBack': WHATEVER THE INPUT: true; the input reads as it did. -/
def fnHandedOverOneMoreLeaveReachesBackSpec : ChangeSpec := { name := "fnHandedOverOneMoreLeaveReachesBack", fn := fun _ => fun
  | [d1, d2, d3, d4, d5, d6] => { results := [.lit (.bool true)], args := [d1, d2, d3, d4, d5, d6] }
  | _ => none }
def fnHandedOverOneMoreLeaveReachesBackRow : OpenClaim := { program := "qxb6612299a", sum := "86818ffdebd34d3822d6bb3a03f35a3295027893a158f7d0d64efd55907efcfb", func := "example.com/cairn/cairn/zzlaws_protocol_b1.FnHandedOverOneMoreLeaveReachesBack", spec := "fnHandedOverOneMoreLeaveReachesBack", unfollowed := true, recurses := true, plainKeys := false, apart := false }
def FnHandedOverOneMoreLeaveReachesBackSaid : Prop := fnHandedOverOneMoreLeaveReachesBackRow.holds Try.pinned (OpenSpec.ofChange fnHandedOverOneMoreLeaveReachesBackSpec)

/-- ITS FALSE NEIGHBOUR: 'it returns false'. Refute it at one input. -/
def fnHandedOverOneMoreLeaveReachesBackWrong : ChangeSpec := { name := "fnHandedOverOneMoreLeaveReachesBack", fn := fun _ => fun
  | [d1, d2, d3, d4, d5, d6] => { results := [.lit (.bool false)], args := [d1, d2, d3, d4, d5, d6] }
  | _ => none }
def FnHandedOverOneMoreLeaveReachesBackWrongFalsely : Prop := fnHandedOverOneMoreLeaveReachesBackRow.holds Try.pinned (OpenSpec.ofChange fnHandedOverOneMoreLeaveReachesBackWrong)

end Rows
end Go.Proofs.Qxb6612299a
