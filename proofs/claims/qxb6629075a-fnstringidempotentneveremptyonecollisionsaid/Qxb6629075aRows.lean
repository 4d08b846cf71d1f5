/-
  No cell of these rows narrows 'for every input' (looked for: loops, veiled, ifaces, maps, wideKeys, modest, calm, conditions, laid).
  DERIVED. THE GIVEN ROWS OF THIS SEAT. 2 by the template 'for every input the law returns true; each argument reads behind the call as it read before'; 0 by the template 'total and deterministic' (their statements: Qxb6629075aTotals.lean).
  GIVEN WITH THE SEED: the statements are not yours to turn. If you find one false, say at which input.
  Laid BY PROGRAM, IN A SANDBOX (cutbox-rows.mjs): the forced cells as the released guide's own fill.sh prints them over the translation bbbf28ccadb0b936… (all of the seat's roots in one cut). By AI agents, Wed Nov 11 2026. No macro, syntax, notation, axiom, sorry.
-/
import Derived.Test.Qxb6629075aChecked
import GoSem.Claim
import GoSem.ClaimJoined
import GoSem.ClaimMapViews
import Derived.JoinedTies
import Derived.KernelRfl
namespace Go.Proofs.Qxb6629075a
/- THE CELL 'sum', in the pinned program and in every row, IS THE sha256 OF THE DUMP (.gsa) THAT Qxb6629075aProg.lean LOADS. Nothing in Lean hashes anything: it is a label: what it is worth is what the hold of that sum in a sandbox is worth. -/
noncomputable def Try.pinned : Pinned := { name := "qxb6629075a", sum := "bbbf28ccadb0b9369f92ef57d9dbea469b1dd355690c695f8ec935e1a06bc36a", checked := Try.checked }
namespace Rows
def none {H : Type} : Left H := { results := [], args := [] }

/-- 'zzlaws_internal_barrierrule_b1.FnStringCutSplitsExactlyAtInteriorCuts': WHATEVER THE INPUT: true; the input reads as it did. -/
def fnStringCutSplitsExactlyAtInteriorCutsSpec : ChangeSpec := { name := "fnStringCutSplitsExactlyAtInteriorCuts", fn := fun _ => fun
  | [d1, d2] => { results := [.lit (.bool true)], args := [d1, d2] }
  | _ => none }
def fnStringCutSplitsExactlyAtInteriorCutsRow : OpenClaim := { program := "qxb6629075a", sum := "bbbf28ccadb0b9369f92ef57d9dbea469b1dd355690c695f8ec935e1a06bc36a", func := "example.com/triptych/triptych/zzlaws_internal_barrierrule_b1.FnStringCutSplitsExactlyAtInteriorCuts", spec := "fnStringCutSplitsExactlyAtInteriorCuts", apart := false }
def FnStringCutSplitsExactlyAtInteriorCutsSaid : Prop := fnStringCutSplitsExactlyAtInteriorCutsRow.holds Try.pinned (OpenSpec.ofChange fnStringCutSplitsExactlyAtInteriorCutsSpec)

/-- ITS FALSE NEIGHBOUR: 'it returns false'. Refute it at one input. -/
def fnStringCutSplitsExactlyAtInteriorCutsWrong : ChangeSpec := { name := "fnStringCutSplitsExactlyAtInteriorCuts", fn := fun _ => fun
  | [d1, d2] => { results := [.lit (.bool false)], args := [d1, d2] }
  | _ => none }
def FnStringCutSplitsExactlyAtInteriorCutsWrongFalsely : Prop := fnStringCutSplitsExactlyAtInteriorCutsRow.holds Try.pinned (OpenSpec.ofChange fnStringCutSplitsExactlyAtInteriorCutsWrong)

/-- 'zzlaws_internal_barrierrule_b1.FnStringIdempotentNeverEmptyOneCollision': WHATEVER THE INPUT: true; the input reads as it did. -/
def fnStringIdempotentNeverEmptyOneCollisionSpec : ChangeSpec := { name := "fnStringIdempotentNeverEmptyOneCollision", fn := fun _ => fun
  | [d1, d2] => { results := [.lit (.bool true)], args := [d1, d2] }
  | _ => none }
def fnStringIdempotentNeverEmptyOneCollisionRow : OpenClaim := { program := "qxb6629075a", sum := "bbbf28ccadb0b9369f92ef57d9dbea469b1dd355690c695f8ec935e1a06bc36a", func := "example.com/triptych/triptych/zzlaws_internal_barrierrule_b1.FnStringIdempotentNeverEmptyOneCollision", spec := "fnStringIdempotentNeverEmptyOneCollision", apart := false }
def FnStringIdempotentNeverEmptyOneCollisionSaid : Prop := fnStringIdempotentNeverEmptyOneCollisionRow.holds Try.pinned (OpenSpec.ofChange fnStringIdempotentNeverEmptyOneCollisionSpec)

/-- ITS FALSE NEIGHBOUR: 'it returns false'. Refute it at one input. -/
def fnStringIdempotentNeverEmptyOneCollisionWrong : ChangeSpec := { name := "fnStringIdempotentNeverEmptyOneCollision", fn := fun _ => fun
  | [d1, d2] => { results := [.lit (.bool false)], args := [d1, d2] }
  | _ => none }
def FnStringIdempotentNeverEmptyOneCollisionWrongFalsely : Prop := fnStringIdempotentNeverEmptyOneCollisionRow.holds Try.pinned (OpenSpec.ofChange fnStringIdempotentNeverEmptyOneCollisionWrong)

end Rows
end Go.Proofs.Qxb6629075a
