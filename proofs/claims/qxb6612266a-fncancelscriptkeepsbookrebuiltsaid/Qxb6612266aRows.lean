/-
  No cell of these rows narrows 'for every input' (looked for: loops, veiled, ifaces, maps, wideKeys, modest, calm, conditions, laid).
  DERIVED. THE GIVEN ROWS OF THIS SEAT. 3 by the template 'for every input the law returns true; each argument reads behind the call as it read before'; 0 by the template 'total and deterministic' (their statements: Qxb6612266aTotals.lean).
  GIVEN WITH THE SEED: the statements are not yours to turn. If you find one false, say at which input.
  Laid BY PROGRAM, IN A SANDBOX (cutbox-rows.mjs): the forced cells as the released guide's own fill.sh prints them over the translation 8f89315764a1255f… (all of the seat's roots in one cut). By AI agents, Wed Nov 11 2026. No macro, syntax, notation, axiom, sorry.
-/
import Derived.Test.Qxb6612266aChecked
import GoSem.Claim
import GoSem.ClaimJoined
import GoSem.ClaimMapViews
import Derived.JoinedTies
import Derived.KernelRfl
namespace Go.Proofs.Qxb6612266a
/- THE CELL 'sum', in the pinned program and in every row, IS THE sha256 OF THE DUMP (.gsa) THAT Qxb6612266aProg.lean LOADS. Nothing in Lean hashes anything: it is a label: what it is worth is what the hold of that sum in a sandbox is worth. -/
noncomputable def Try.pinned : Pinned := { name := "qxb6612266a", sum := "8f89315764a1255fb7bf2600da3b14c88f899d7be20f34a3b797eee1ad245230", checked := Try.checked }
namespace Rows
def none {H : Type} : Left H := { results := [], args := [] }

/-- 'zzlaws_pkg_engine_b1.FnCancelLeavesBookRebuiltWithoutIt': WHATEVER THE INPUT: true; the input reads as it did. -/
def fnCancelLeavesBookRebuiltWithoutItSpec : ChangeSpec := { name := "fnCancelLeavesBookRebuiltWithoutIt", fn := fun _ => fun
  | [d1, d2, d3, d4] => { results := [.lit (.bool true)], args := [d1, d2, d3, d4] }
  | _ => none }
def fnCancelLeavesBookRebuiltWithoutItRow : OpenClaim := { program := "qxb6612266a", sum := "8f89315764a1255fb7bf2600da3b14c88f899d7be20f34a3b797eee1ad245230", func := "example.com/sidestep/sidestep/zzlaws_pkg_engine_b1.FnCancelLeavesBookRebuiltWithoutIt", spec := "fnCancelLeavesBookRebuiltWithoutIt", unfollowed := true, recurses := true, apart := false }
def FnCancelLeavesBookRebuiltWithoutItSaid : Prop := fnCancelLeavesBookRebuiltWithoutItRow.holds Try.pinned (OpenSpec.ofChange fnCancelLeavesBookRebuiltWithoutItSpec)

/-- ITS FALSE NEIGHBOUR: 'it returns false'. Refute it at one input. -/
def fnCancelLeavesBookRebuiltWithoutItWrong : ChangeSpec := { name := "fnCancelLeavesBookRebuiltWithoutIt", fn := fun _ => fun
  | [d1, d2, d3, d4] => { results := [.lit (.bool false)], args := [d1, d2, d3, d4] }
  | _ => none }
def FnCancelLeavesBookRebuiltWithoutItWrongFalsely : Prop := fnCancelLeavesBookRebuiltWithoutItRow.holds Try.pinned (OpenSpec.ofChange fnCancelLeavesBookRebuiltWithoutItWrong)

/-- 'zzlaws_pkg_engine_b1.FnRemainingIsWhatATradeTakes': WHATEVER THE INPUT: true; the input reads as it did. -/
def fnRemainingIsWhatATradeTakesSpec : ChangeSpec := { name := "fnRemainingIsWhatATradeTakes", fn := fun _ => fun
  | [d1, d2, d3] => { results := [.lit (.bool true)], args := [d1, d2, d3] }
  | _ => none }
def fnRemainingIsWhatATradeTakesRow : OpenClaim := { program := "qxb6612266a", sum := "8f89315764a1255fb7bf2600da3b14c88f899d7be20f34a3b797eee1ad245230", func := "example.com/sidestep/sidestep/zzlaws_pkg_engine_b1.FnRemainingIsWhatATradeTakes", spec := "fnRemainingIsWhatATradeTakes", inPlace := ["math/bits.Add64"], apart := false }
def FnRemainingIsWhatATradeTakesSaid : Prop := fnRemainingIsWhatATradeTakesRow.holds Try.pinned (OpenSpec.ofChange fnRemainingIsWhatATradeTakesSpec)

/-- ITS FALSE NEIGHBOUR: 'it returns false'. Refute it at one input. -/
def fnRemainingIsWhatATradeTakesWrong : ChangeSpec := { name := "fnRemainingIsWhatATradeTakes", fn := fun _ => fun
  | [d1, d2, d3] => { results := [.lit (.bool false)], args := [d1, d2, d3] }
  | _ => none }
def FnRemainingIsWhatATradeTakesWrongFalsely : Prop := fnRemainingIsWhatATradeTakesRow.holds Try.pinned (OpenSpec.ofChange fnRemainingIsWhatATradeTakesWrong)

/-- 'zzlaws_pkg_engine_b1.FnCancelScriptKeepsBookRebuilt': WHATEVER THE INPUT: true; the input reads as it did. -/
def fnCancelScriptKeepsBookRebuiltSpec : ChangeSpec := { name := "fnCancelScriptKeepsBookRebuilt", fn := fun _ => fun
  | [d1, d2, d3, d4] => { results := [.lit (.bool true)], args := [d1, d2, d3, d4] }
  | _ => none }
def fnCancelScriptKeepsBookRebuiltRow : OpenClaim := { program := "qxb6612266a", sum := "8f89315764a1255fb7bf2600da3b14c88f899d7be20f34a3b797eee1ad245230", func := "example.com/sidestep/sidestep/zzlaws_pkg_engine_b1.FnCancelScriptKeepsBookRebuilt", spec := "fnCancelScriptKeepsBookRebuilt", unfollowed := true, recurses := true, apart := false }
def FnCancelScriptKeepsBookRebuiltSaid : Prop := fnCancelScriptKeepsBookRebuiltRow.holds Try.pinned (OpenSpec.ofChange fnCancelScriptKeepsBookRebuiltSpec)

/-- ITS FALSE NEIGHBOUR: 'it returns false'. Refute it at one input. -/
def fnCancelScriptKeepsBookRebuiltWrong : ChangeSpec := { name := "fnCancelScriptKeepsBookRebuilt", fn := fun _ => fun
  | [d1, d2, d3, d4] => { results := [.lit (.bool false)], args := [d1, d2, d3, d4] }
  | _ => none }
def FnCancelScriptKeepsBookRebuiltWrongFalsely : Prop := fnCancelScriptKeepsBookRebuiltRow.holds Try.pinned (OpenSpec.ofChange fnCancelScriptKeepsBookRebuiltWrong)

end Rows
end Go.Proofs.Qxb6612266a
