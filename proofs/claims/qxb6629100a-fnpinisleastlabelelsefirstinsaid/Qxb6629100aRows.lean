/-
  No cell of these rows narrows 'for every input' (looked for: loops, veiled, ifaces, maps, wideKeys, modest, calm, conditions, laid).
  DERIVED. THE GIVEN ROWS OF THIS SEAT. 2 by the template 'for every input the law returns true; each argument reads behind the call as it read before'; 0 by the template 'total and deterministic' (their statements: Qxb6629100aTotals.lean).
  GIVEN WITH THE SEED: the statements are not yours to turn. If you find one false, say at which input.
  Laid BY PROGRAM, IN A SANDBOX (cutbox-rows.mjs): the forced cells as the released guide's own fill.sh prints them over the translation c5316a78658118d7… (all of the seat's roots in one cut). By AI agents, Wed Nov 11 2026. No macro, syntax, notation, axiom, sorry.
-/
import Derived.Test.Qxb6629100aChecked
import GoSem.Claim
import GoSem.ClaimJoined
import GoSem.ClaimMapViews
import Derived.JoinedTies
import Derived.KernelRfl
namespace Go.Proofs.Qxb6629100a
/- THE CELL 'sum', in the pinned program and in every row, IS THE sha256 OF THE DUMP (.gsa) THAT Qxb6629100aProg.lean LOADS. Nothing in Lean hashes anything: it is a label: what it is worth is what the hold of that sum in a sandbox is worth. -/
noncomputable def Try.pinned : Pinned := { name := "qxb6629100a", sum := "c5316a78658118d7bca19c4e8ab711c426d11c037614bbc82c88a21ab4e7f565", checked := Try.checked }
namespace Rows
def none {H : Type} : Left H := { results := [], args := [] }

/-- 'zzlaws_snapshot_b1.FnPinIsLeastLabelElseFirstIn': WHATEVER THE INPUT: true; the input reads as it did. -/
def fnPinIsLeastLabelElseFirstInSpec : ChangeSpec := { name := "fnPinIsLeastLabelElseFirstIn", fn := fun _ => fun
  | [d1, d2, d3, d4, d5, d6] => { results := [.lit (.bool true)], args := [d1, d2, d3, d4, d5, d6] }
  | _ => none }
def fnPinIsLeastLabelElseFirstInRow : OpenClaim := { program := "qxb6629100a", sum := "c5316a78658118d7bca19c4e8ab711c426d11c037614bbc82c88a21ab4e7f565", func := "example.com/tidescale/tidescale/zzlaws_snapshot_b1.FnPinIsLeastLabelElseFirstIn", spec := "fnPinIsLeastLabelElseFirstIn", apart := false }
def FnPinIsLeastLabelElseFirstInSaid : Prop := fnPinIsLeastLabelElseFirstInRow.holds Try.pinned (OpenSpec.ofChange fnPinIsLeastLabelElseFirstInSpec)

/-- ITS FALSE NEIGHBOUR: 'it returns false'. Refute it at one input. -/
def fnPinIsLeastLabelElseFirstInWrong : ChangeSpec := { name := "fnPinIsLeastLabelElseFirstIn", fn := fun _ => fun
  | [d1, d2, d3, d4, d5, d6] => { results := [.lit (.bool false)], args := [d1, d2, d3, d4, d5, d6] }
  | _ => none }
def FnPinIsLeastLabelElseFirstInWrongFalsely : Prop := fnPinIsLeastLabelElseFirstInRow.holds Try.pinned (OpenSpec.ofChange fnPinIsLeastLabelElseFirstInWrong)

/-- 'zzlaws_snapshot_b1.FnPinAfterAddingALabel': WHATEVER THE INPUT: true; the input reads as it did. -/
def fnPinAfterAddingALabelSpec : ChangeSpec := { name := "fnPinAfterAddingALabel", fn := fun _ => fun
  | [d1, d2, d3, d4, d5, d6, d7] => { results := [.lit (.bool true)], args := [d1, d2, d3, d4, d5, d6, d7] }
  | _ => none }
def fnPinAfterAddingALabelRow : OpenClaim := { program := "qxb6629100a", sum := "c5316a78658118d7bca19c4e8ab711c426d11c037614bbc82c88a21ab4e7f565", func := "example.com/tidescale/tidescale/zzlaws_snapshot_b1.FnPinAfterAddingALabel", spec := "fnPinAfterAddingALabel", apart := false }
def FnPinAfterAddingALabelSaid : Prop := fnPinAfterAddingALabelRow.holds Try.pinned (OpenSpec.ofChange fnPinAfterAddingALabelSpec)

/-- ITS FALSE NEIGHBOUR: 'it returns false'. Refute it at one input. -/
def fnPinAfterAddingALabelWrong : ChangeSpec := { name := "fnPinAfterAddingALabel", fn := fun _ => fun
  | [d1, d2, d3, d4, d5, d6, d7] => { results := [.lit (.bool false)], args := [d1, d2, d3, d4, d5, d6, d7] }
  | _ => none }
def FnPinAfterAddingALabelWrongFalsely : Prop := fnPinAfterAddingALabelRow.holds Try.pinned (OpenSpec.ofChange fnPinAfterAddingALabelWrong)

end Rows
end Go.Proofs.Qxb6629100a
