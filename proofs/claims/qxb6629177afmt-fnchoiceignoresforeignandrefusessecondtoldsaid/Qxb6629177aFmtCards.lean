/-
  DERIVED. GIVEN WITH THE SEED: THE CARDS: each row of Qxb6629177aFmtRows.lean that lists a variable, with what it lists TIED to the program's text (the seventh form; the later family's looks); each row that meets fmt, with fmt's text TOLD by the authors' own Lean function (tested against real Go, not proved from fmt's source: count such statements apart). THE CARD IS WHAT COUNTS. Prove the row's statement (the work); the ties are given (Qxb6629177aFmtTie.lean); close each card by the builder's one call (the guide's Derived/Test/ToyasCard.lean, 'card_holds'). Laid BY PROGRAM, IN A SANDBOX (cutbox-door.mjs). By AI agents, Wed Nov 11 2026. No macro, syntax, notation, axiom, sorry.
-/
import Derived.Test.Qxb6629177aFmtRows
import GoSem.ClaimSeven
namespace Go.Proofs.Qxb6629177aFmt
namespace Rows

/-- THE TOLD CARD OF 'zzlaws_internal_xmlfile_b1.FnChoiceIsTheOneChildInItsNamespace'. -/
def fnChoiceIsTheOneChildInItsNamespaceCard : Claim7 := { stood := { row := fnChoiceIsTheOneChildInItsNamespaceRow, standIns := [], harness := (true, "86d758131d3dbeb65e460753e9e78abf7639b6ff11f362d0f2a3dbf448408ddc"), looks := false }, told := true, goes := false }
def FnChoiceIsTheOneChildInItsNamespaceToldSaid : Prop := Claim7.holds Tryf.pinned (.plain (OpenSpec.ofChange fnChoiceIsTheOneChildInItsNamespaceSpec)) fnChoiceIsTheOneChildInItsNamespaceCard
/-- ITS FALSE NEIGHBOUR. Refute it at one input. -/
def FnChoiceIsTheOneChildInItsNamespaceToldWrongFalsely : Prop := Claim7.holds Tryf.pinned (.plain (OpenSpec.ofChange fnChoiceIsTheOneChildInItsNamespaceWrong)) fnChoiceIsTheOneChildInItsNamespaceCard

/-- THE TOLD CARD OF 'zzlaws_internal_xmlfile_b1.FnChoiceIgnoresForeignAndRefusesSecond'. -/
def fnChoiceIgnoresForeignAndRefusesSecondCard : Claim7 := { stood := { row := fnChoiceIgnoresForeignAndRefusesSecondRow, standIns := [], harness := (true, "86d758131d3dbeb65e460753e9e78abf7639b6ff11f362d0f2a3dbf448408ddc"), looks := false }, told := true, goes := false }
def FnChoiceIgnoresForeignAndRefusesSecondToldSaid : Prop := Claim7.holds Tryf.pinned (.plain (OpenSpec.ofChange fnChoiceIgnoresForeignAndRefusesSecondSpec)) fnChoiceIgnoresForeignAndRefusesSecondCard
/-- ITS FALSE NEIGHBOUR. Refute it at one input. -/
def FnChoiceIgnoresForeignAndRefusesSecondToldWrongFalsely : Prop := Claim7.holds Tryf.pinned (.plain (OpenSpec.ofChange fnChoiceIgnoresForeignAndRefusesSecondWrong)) fnChoiceIgnoresForeignAndRefusesSecondCard
end Rows
end Go.Proofs.Qxb6629177aFmt
