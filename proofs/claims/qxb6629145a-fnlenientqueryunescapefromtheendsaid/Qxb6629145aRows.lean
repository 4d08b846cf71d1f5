/-
  No cell of these rows narrows 'for every input' (looked for: loops, veiled, ifaces, maps, wideKeys, modest, calm, conditions, laid).
  DERIVED. THE GIVEN ROWS OF THIS SEAT. 2 by the template 'for every input the law returns true; each argument reads behind the call as it read before'; 0 by the template 'total and deterministic' (their statements: Qxb6629145aTotals.lean).
  GIVEN WITH THE SEED: the statements are not yours to turn. If you find one false, say at which input.
  Laid BY PROGRAM, IN A SANDBOX (cutbox-rows.mjs): the forced cells as the released guide's own fill.sh prints them over the translation 5091a8f39746bf3b… (all of the seat's roots in one cut). By AI agents, Wed Nov 11 2026. No macro, syntax, notation, axiom, sorry.
-/
import Derived.Test.Qxb6629145aChecked
import GoSem.Claim
import GoSem.ClaimJoined
import GoSem.ClaimMapViews
import Derived.JoinedTies
import Derived.KernelRfl
namespace Go.Proofs.Qxb6629145a
/- THE CELL 'sum', in the pinned program and in every row, IS THE sha256 OF THE DUMP (.gsa) THAT Qxb6629145aProg.lean LOADS. Nothing in Lean hashes anything: it is a label: what it is worth is what the hold of that sum in a sandbox is worth. -/
noncomputable def Try.pinned : Pinned := { name := "qxb6629145a", sum := "5091a8f39746bf3b9c2dabc9b185b41388f45a7e01eaa780fbc3f27e0cd36f3f", checked := Try.checked }
namespace Rows
def none {H : Type} : Left H := { results := [], args := [] }

/-- 'zzlaws_internal_requrl_b1.FnLenientQueryUnescapeFromTheEnd': WHATEVER THE INPUT: true; the input reads as it did. -/
def fnLenientQueryUnescapeFromTheEndSpec : ChangeSpec := { name := "fnLenientQueryUnescapeFromTheEnd", fn := fun _ => fun
  | [d] => { results := [.lit (.bool true)], args := [d] }
  | _ => none }
def fnLenientQueryUnescapeFromTheEndRow : OpenClaim := { program := "qxb6629145a", sum := "5091a8f39746bf3b9c2dabc9b185b41388f45a7e01eaa780fbc3f27e0cd36f3f", func := "example.com/portcullis/portcullis/zzlaws_internal_requrl_b1.FnLenientQueryUnescapeFromTheEnd", spec := "fnLenientQueryUnescapeFromTheEnd", inPlace := ["internal/abi.NoEscape", "internal/bytealg.MakeNoZero"], apart := false }
def FnLenientQueryUnescapeFromTheEndSaid : Prop := fnLenientQueryUnescapeFromTheEndRow.holds Try.pinned (OpenSpec.ofChange fnLenientQueryUnescapeFromTheEndSpec)

/-- ITS FALSE NEIGHBOUR: 'it returns false'. Refute it at one input. -/
def fnLenientQueryUnescapeFromTheEndWrong : ChangeSpec := { name := "fnLenientQueryUnescapeFromTheEnd", fn := fun _ => fun
  | [d] => { results := [.lit (.bool false)], args := [d] }
  | _ => none }
def FnLenientQueryUnescapeFromTheEndWrongFalsely : Prop := fnLenientQueryUnescapeFromTheEndRow.holds Try.pinned (OpenSpec.ofChange fnLenientQueryUnescapeFromTheEndWrong)

/-- 'zzlaws_internal_requrl_b1.FnLenientQueryUnescapeEscapeSplits': WHATEVER THE INPUT: true; the input reads as it did. -/
def fnLenientQueryUnescapeEscapeSplitsSpec : ChangeSpec := { name := "fnLenientQueryUnescapeEscapeSplits", fn := fun _ => fun
  | [d1, d2, d3, d4, d5] => { results := [.lit (.bool true)], args := [d1, d2, d3, d4, d5] }
  | _ => none }
def fnLenientQueryUnescapeEscapeSplitsRow : OpenClaim := { program := "qxb6629145a", sum := "5091a8f39746bf3b9c2dabc9b185b41388f45a7e01eaa780fbc3f27e0cd36f3f", func := "example.com/portcullis/portcullis/zzlaws_internal_requrl_b1.FnLenientQueryUnescapeEscapeSplits", spec := "fnLenientQueryUnescapeEscapeSplits", inPlace := ["internal/abi.NoEscape", "internal/bytealg.MakeNoZero"], apart := false }
def FnLenientQueryUnescapeEscapeSplitsSaid : Prop := fnLenientQueryUnescapeEscapeSplitsRow.holds Try.pinned (OpenSpec.ofChange fnLenientQueryUnescapeEscapeSplitsSpec)

/-- ITS FALSE NEIGHBOUR: 'it returns false'. Refute it at one input. -/
def fnLenientQueryUnescapeEscapeSplitsWrong : ChangeSpec := { name := "fnLenientQueryUnescapeEscapeSplits", fn := fun _ => fun
  | [d1, d2, d3, d4, d5] => { results := [.lit (.bool false)], args := [d1, d2, d3, d4, d5] }
  | _ => none }
def FnLenientQueryUnescapeEscapeSplitsWrongFalsely : Prop := fnLenientQueryUnescapeEscapeSplitsRow.holds Try.pinned (OpenSpec.ofChange fnLenientQueryUnescapeEscapeSplitsWrong)

end Rows
end Go.Proofs.Qxb6629145a
