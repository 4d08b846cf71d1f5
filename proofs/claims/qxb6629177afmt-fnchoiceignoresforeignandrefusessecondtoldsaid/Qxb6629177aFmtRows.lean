/-
  No cell of these rows narrows 'for every input' (looked for: loops, veiled, ifaces, maps, wideKeys, modest, calm, conditions, laid).
  DERIVED. THE GIVEN ROWS OF THIS SEAT. 2 by the template 'for every input the law returns true; each argument reads behind the call as it read before'; 0 by the template 'total and deterministic' (their statements: Qxb6629177aFmtTotals.lean).
  GIVEN WITH THE SEED: the statements are not yours to turn. If you find one false, say at which input.
  Laid BY PROGRAM, IN A SANDBOX (cutbox-rows.mjs): the forced cells as the released guide's own fill.sh prints them over the translation dadbd3c9c2918510… (all of the seat's roots in one cut). By AI agents, Wed Nov 11 2026. No macro, syntax, notation, axiom, sorry.
-/
import Derived.Test.Qxb6629177aFmtChecked
import GoSem.Claim
import GoSem.ClaimJoined
import GoSem.ClaimMapViews
import Derived.JoinedTies
import Derived.KernelRfl
namespace Go.Proofs.Qxb6629177aFmt
/- THE CELL 'sum', in the pinned program and in every row, IS THE sha256 OF THE DUMP (.gsa) THAT Qxb6629177aFmtProg.lean LOADS. Nothing in Lean hashes anything: it is a label: what it is worth is what the hold of that sum in a sandbox is worth. -/
noncomputable def Tryf.pinned : Pinned := { name := "qxb6629177afmt", sum := "dadbd3c9c2918510d67f3416f7f27b55018fe4239ba3dda5235f9c0ebd78b799", checked := Tryf.checked }
namespace Rows
def none {H : Type} : Left H := { results := [], args := [] }

/-- 'zzlaws_internal_xmlfile_b1.FnChoiceIsTheOneChildInItsNamespace': WHATEVER THE INPUT: true; the input reads as it did. -/
def fnChoiceIsTheOneChildInItsNamespaceSpec : ChangeSpec := { name := "fnChoiceIsTheOneChildInItsNamespace", fn := fun _ => fun
  | [d1, d2, d3, d4] => { results := [.lit (.bool true)], args := [d1, d2, d3, d4] }
  | _ => none }
def fnChoiceIsTheOneChildInItsNamespaceRow : OpenClaim := { program := "qxb6629177afmt", sum := "dadbd3c9c2918510d67f3416f7f27b55018fe4239ba3dda5235f9c0ebd78b799", func := "example.com/pai/pai/zzlaws_internal_xmlfile_b1.FnChoiceIsTheOneChildInItsNamespace", spec := "fnChoiceIsTheOneChildInItsNamespace", stops := ["fmt.Sprintf", "fmt.errorf"], inPlace := ["fmt.Sprintf", "fmt.errorf"], recurses := true, apart := false }
/-- NO THEOREM (fmt's text is open here; it may be false): for the released tool's asking of the row's closed facts alone. THE STATEMENT IS 'FnChoiceIsTheOneChildInItsNamespaceToldSaid' (Qxb6629177aFmtCards.lean). -/
def FnChoiceIsTheOneChildInItsNamespaceFormAsk : Prop := fnChoiceIsTheOneChildInItsNamespaceRow.holds Tryf.pinned (OpenSpec.ofChange fnChoiceIsTheOneChildInItsNamespaceSpec)

/-- ITS FALSE NEIGHBOUR: 'it returns false'. Refute it at one input. -/
def fnChoiceIsTheOneChildInItsNamespaceWrong : ChangeSpec := { name := "fnChoiceIsTheOneChildInItsNamespace", fn := fun _ => fun
  | [d1, d2, d3, d4] => { results := [.lit (.bool false)], args := [d1, d2, d3, d4] }
  | _ => none }
def FnChoiceIsTheOneChildInItsNamespaceWrongFormAsk : Prop := fnChoiceIsTheOneChildInItsNamespaceRow.holds Tryf.pinned (OpenSpec.ofChange fnChoiceIsTheOneChildInItsNamespaceWrong)

/-- 'zzlaws_internal_xmlfile_b1.FnChoiceIgnoresForeignAndRefusesSecond': WHATEVER THE INPUT: true; the input reads as it did. -/
def fnChoiceIgnoresForeignAndRefusesSecondSpec : ChangeSpec := { name := "fnChoiceIgnoresForeignAndRefusesSecond", fn := fun _ => fun
  | [d1, d2, d3, d4, d5, d6] => { results := [.lit (.bool true)], args := [d1, d2, d3, d4, d5, d6] }
  | _ => none }
def fnChoiceIgnoresForeignAndRefusesSecondRow : OpenClaim := { program := "qxb6629177afmt", sum := "dadbd3c9c2918510d67f3416f7f27b55018fe4239ba3dda5235f9c0ebd78b799", func := "example.com/pai/pai/zzlaws_internal_xmlfile_b1.FnChoiceIgnoresForeignAndRefusesSecond", spec := "fnChoiceIgnoresForeignAndRefusesSecond", stops := ["fmt.Sprintf", "fmt.errorf"], inPlace := ["fmt.Sprintf", "fmt.errorf"], recurses := true, apart := false }
/-- NO THEOREM (fmt's text is open here; it may be false): for the released tool's asking of the row's closed facts alone. THE STATEMENT IS 'FnChoiceIgnoresForeignAndRefusesSecondToldSaid' (Qxb6629177aFmtCards.lean). -/
def FnChoiceIgnoresForeignAndRefusesSecondFormAsk : Prop := fnChoiceIgnoresForeignAndRefusesSecondRow.holds Tryf.pinned (OpenSpec.ofChange fnChoiceIgnoresForeignAndRefusesSecondSpec)

/-- ITS FALSE NEIGHBOUR: 'it returns false'. Refute it at one input. -/
def fnChoiceIgnoresForeignAndRefusesSecondWrong : ChangeSpec := { name := "fnChoiceIgnoresForeignAndRefusesSecond", fn := fun _ => fun
  | [d1, d2, d3, d4, d5, d6] => { results := [.lit (.bool false)], args := [d1, d2, d3, d4, d5, d6] }
  | _ => none }
def FnChoiceIgnoresForeignAndRefusesSecondWrongFormAsk : Prop := fnChoiceIgnoresForeignAndRefusesSecondRow.holds Tryf.pinned (OpenSpec.ofChange fnChoiceIgnoresForeignAndRefusesSecondWrong)

end Rows
end Go.Proofs.Qxb6629177aFmt
