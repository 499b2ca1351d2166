/-
  DERIVED. GIVEN WITH THE SEED: THE CARDS: each row of Qxb6617780aFmtRows.lean that lists a variable, with what it lists TIED to the program's text (the seventh form; the later family's looks); each row that meets fmt, with fmt's text TOLD by the authors' own Lean function (tested against real Go, not proved from fmt's source: count such statements apart). THE CARD IS WHAT COUNTS. Prove the row's statement (the work); the ties are given (Qxb6617780aFmtTie.lean); close each card by the builder's one call (the guide's Derived/Test/ToyasCard.lean, 'card_holds'). Laid BY PROGRAM, IN A SANDBOX (cutbox-door.mjs). By AI agents, Wed Nov 11 2026. No macro, syntax, notation, axiom, sorry.
-/
import Derived.Test.Qxb6617780aFmtRows
import GoSem.ClaimSeven
namespace Go.Proofs.Qxb6617780aFmt
namespace Rows

/-- THE TOLD CARD OF 'zzlaws_h2field_e1.FnConnectionSpecificValueMattersOnlyForTe'. -/
def fnConnectionSpecificValueMattersOnlyForTeCard : Claim7 := { stood := { row := fnConnectionSpecificValueMattersOnlyForTeRow, standIns := [], harness := (true, "562a9efcf9d1bec64767df3795b16010cd901ccc9063309c9224fafc9a4a1644"), looks := false }, told := true, goes := false }
def FnConnectionSpecificValueMattersOnlyForTeToldSaid : Prop := Claim7.holds Tryf.pinned (.plain (OpenSpec.ofChange fnConnectionSpecificValueMattersOnlyForTeSpec)) fnConnectionSpecificValueMattersOnlyForTeCard
/-- ITS FALSE NEIGHBOUR. Refute it at one input. -/
def FnConnectionSpecificValueMattersOnlyForTeToldWrongFalsely : Prop := Claim7.holds Tryf.pinned (.plain (OpenSpec.ofChange fnConnectionSpecificValueMattersOnlyForTeWrong)) fnConnectionSpecificValueMattersOnlyForTeCard

/-- THE TOLD CARD OF 'zzlaws_h2field_e1.FnValueAgreesWithEndsWhereNoControlButTab'. -/
def fnValueAgreesWithEndsWhereNoControlButTabCard : Claim7 := { stood := { row := fnValueAgreesWithEndsWhereNoControlButTabRow, standIns := [], harness := (true, "562a9efcf9d1bec64767df3795b16010cd901ccc9063309c9224fafc9a4a1644"), looks := false }, told := true, goes := false }
def FnValueAgreesWithEndsWhereNoControlButTabToldSaid : Prop := Claim7.holds Tryf.pinned (.plain (OpenSpec.ofChange fnValueAgreesWithEndsWhereNoControlButTabSpec)) fnValueAgreesWithEndsWhereNoControlButTabCard
/-- ITS FALSE NEIGHBOUR. Refute it at one input. -/
def FnValueAgreesWithEndsWhereNoControlButTabToldWrongFalsely : Prop := Claim7.holds Tryf.pinned (.plain (OpenSpec.ofChange fnValueAgreesWithEndsWhereNoControlButTabWrong)) fnValueAgreesWithEndsWhereNoControlButTabCard
end Rows
end Go.Proofs.Qxb6617780aFmt
