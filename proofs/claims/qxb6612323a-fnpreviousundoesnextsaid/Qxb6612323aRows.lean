/-
  No cell of these rows narrows 'for every input' (looked for: loops, veiled, ifaces, maps, wideKeys, modest, calm, conditions, laid).
  DERIVED. THE GIVEN ROWS OF THIS SEAT. 1 by the template 'for every input the law returns true; each argument reads behind the call as it read before'; 0 by the template 'total and deterministic' (their statements: Qxb6612323aTotals.lean).
  GIVEN WITH THE SEED: the statements are not yours to turn. If you find one false, say at which input.
  Laid BY PROGRAM, IN A SANDBOX (cutbox-rows.mjs): the forced cells as the released guide's own fill.sh prints them over the translation f8d754f661a64e3b… (all of the seat's roots in one cut). By AI agents, Wed Nov 11 2026. No macro, syntax, notation, axiom, sorry.
-/
import Derived.Test.Qxb6612323aChecked
import GoSem.Claim
import GoSem.ClaimJoined
import GoSem.ClaimMapViews
import Derived.JoinedTies
import Derived.KernelRfl
namespace Go.Proofs.Qxb6612323a
/- THE CELL 'sum', in the pinned program and in every row, IS THE sha256 OF THE DUMP (.gsa) THAT Qxb6612323aProg.lean LOADS. Nothing in Lean hashes anything: it is a label: what it is worth is what the hold of that sum in a sandbox is worth. -/
noncomputable def Try.pinned : Pinned := { name := "qxb6612323a", sum := "f8d754f661a64e3b099ad0edd1bc1428652dfca0c243a42cd10d96a42d599a7c", checked := Try.checked }
namespace Rows
def none {H : Type} : Left H := { results := [], args := [] }

/-- 'zzlaws_text_b1.FnPreviousUndoesNext': WHATEVER THE INPUT: true; the input reads as it did. -/
def fnPreviousUndoesNextSpec : ChangeSpec := { name := "fnPreviousUndoesNext", fn := fun _ => fun
  | [d1, d2] => { results := [.lit (.bool true)], args := [d1, d2] }
  | _ => none }
def fnPreviousUndoesNextRow : OpenClaim := { program := "qxb6612323a", sum := "f8d754f661a64e3b099ad0edd1bc1428652dfca0c243a42cd10d96a42d599a7c", func := "example.com/vectrim/vectrim/zzlaws_text_b1.FnPreviousUndoesNext", spec := "fnPreviousUndoesNext", apart := false }
def FnPreviousUndoesNextSaid : Prop := fnPreviousUndoesNextRow.holds Try.pinned (OpenSpec.ofChange fnPreviousUndoesNextSpec)

/-- ITS FALSE NEIGHBOUR: 'it returns false'. Refute it at one input. -/
def fnPreviousUndoesNextWrong : ChangeSpec := { name := "fnPreviousUndoesNext", fn := fun _ => fun
  | [d1, d2] => { results := [.lit (.bool false)], args := [d1, d2] }
  | _ => none }
def FnPreviousUndoesNextWrongFalsely : Prop := fnPreviousUndoesNextRow.holds Try.pinned (OpenSpec.ofChange fnPreviousUndoesNextWrong)

end Rows
end Go.Proofs.Qxb6612323a
