/-
  No cell of these rows narrows 'for every input' (looked for: loops, veiled, ifaces, maps, wideKeys, modest, calm, conditions, laid).
  DERIVED. THE GIVEN ROWS OF THIS SEAT. 2 by the template 'for every input the law returns true; each argument reads behind the call as it read before'; 0 by the template 'total and deterministic' (their statements: Qxb6612271aTotals.lean).
  GIVEN WITH THE SEED: the statements are not yours to turn. If you find one false, say at which input.
  Laid BY PROGRAM, IN A SANDBOX (cutbox-rows.mjs): the forced cells as the released guide's own fill.sh prints them over the translation 0bdfff2432a40b4c… (all of the seat's roots in one cut). By AI agents, Wed Nov 11 2026. No macro, syntax, notation, axiom, sorry.
-/
import Derived.Test.Qxb6612271aChecked
import GoSem.Claim
import GoSem.ClaimJoined
import GoSem.ClaimMapViews
import Derived.JoinedTies
import Derived.KernelRfl
namespace Go.Proofs.Qxb6612271a
/- THE CELL 'sum', in the pinned program and in every row, IS THE sha256 OF THE DUMP (.gsa) THAT Qxb6612271aProg.lean LOADS. Nothing in Lean hashes anything: it is a label: what it is worth is what the hold of that sum in a sandbox is worth. -/
noncomputable def Try.pinned : Pinned := { name := "qxb6612271a", sum := "0bdfff2432a40b4ce9ef5a055a91b812fcbbb4c49de06a1419c5c767a837cfbd", checked := Try.checked }
namespace Rows
def none {H : Type} : Left H := { results := [], args := [] }

/-- 'zzlaws_store_b1.FnReturningTemplate': WHATEVER THE INPUT: true; the input reads as it did. -/
def fnReturningTemplateSpec : ChangeSpec := { name := "fnReturningTemplate", fn := fun _ => fun
  | [d1, d2] => { results := [.lit (.bool true)], args := [d1, d2] }
  | _ => none }
def fnReturningTemplateRow : OpenClaim := { program := "qxb6612271a", sum := "0bdfff2432a40b4ce9ef5a055a91b812fcbbb4c49de06a1419c5c767a837cfbd", func := "example.com/reelstate/reelstate/zzlaws_store_b1.FnReturningTemplate", spec := "fnReturningTemplate", apart := false }
def FnReturningTemplateSaid : Prop := fnReturningTemplateRow.holds Try.pinned (OpenSpec.ofChange fnReturningTemplateSpec)

/-- ITS FALSE NEIGHBOUR: 'it returns false'. Refute it at one input. -/
def fnReturningTemplateWrong : ChangeSpec := { name := "fnReturningTemplate", fn := fun _ => fun
  | [d1, d2] => { results := [.lit (.bool false)], args := [d1, d2] }
  | _ => none }
def FnReturningTemplateWrongFalsely : Prop := fnReturningTemplateRow.holds Try.pinned (OpenSpec.ofChange fnReturningTemplateWrong)

/-- 'zzlaws_store_b1.FnReturningOpenedVariant': WHATEVER THE INPUT: true; the input reads as it did. -/
def fnReturningOpenedVariantSpec : ChangeSpec := { name := "fnReturningOpenedVariant", fn := fun _ => fun
  | [d1, d2] => { results := [.lit (.bool true)], args := [d1, d2] }
  | _ => none }
def fnReturningOpenedVariantRow : OpenClaim := { program := "qxb6612271a", sum := "0bdfff2432a40b4ce9ef5a055a91b812fcbbb4c49de06a1419c5c767a837cfbd", func := "example.com/reelstate/reelstate/zzlaws_store_b1.FnReturningOpenedVariant", spec := "fnReturningOpenedVariant", apart := false }
def FnReturningOpenedVariantSaid : Prop := fnReturningOpenedVariantRow.holds Try.pinned (OpenSpec.ofChange fnReturningOpenedVariantSpec)

/-- ITS FALSE NEIGHBOUR: 'it returns false'. Refute it at one input. -/
def fnReturningOpenedVariantWrong : ChangeSpec := { name := "fnReturningOpenedVariant", fn := fun _ => fun
  | [d1, d2] => { results := [.lit (.bool false)], args := [d1, d2] }
  | _ => none }
def FnReturningOpenedVariantWrongFalsely : Prop := fnReturningOpenedVariantRow.holds Try.pinned (OpenSpec.ofChange fnReturningOpenedVariantWrong)

end Rows
end Go.Proofs.Qxb6612271a
