/-
  DERIVED. GIVEN WITH THE SEED: THE CARDS: each row of Qxb6616880aDoorRows.lean that lists a variable, with what it lists TIED to the program's text (the seventh form; the later family's looks); each row that meets fmt, with fmt's text TOLD by the authors' own Lean function (tested against real Go, not proved from fmt's source: count such statements apart). THE CARD IS WHAT COUNTS. Prove the row's statement (the work); the ties are given (Qxb6616880aDoorTie.lean); close each card by the builder's one call (the guide's Derived/Test/ToyasCard.lean, 'card_holds'). Laid BY PROGRAM, IN A SANDBOX (cutbox-door.mjs). By AI agents, Wed Nov 11 2026. No macro, syntax, notation, axiom, sorry.
-/
import Derived.Test.Qxb6616880aDoorRows
import GoSem.ClaimSeven
namespace Go.Proofs.Qxb6616880aDoor
namespace Rows

/-- THE TIED CARD OF 'zzlaws_internal_resp_b1.FnCommandSplitsAtAnyCut'. -/
def fnCommandSplitsAtAnyCutCard : Claim7 := { stood := { row := fnCommandSplitsAtAnyCutRow, standIns := [], harness := (true, "9bb53433eebbc27491dd3411934189421cbfd6d91c003b315ddeb693495cba8a"), looks := true }, kinds := [], alts := [], laidByText := true, laidKinds := [.data, .data, .data, .sentinel], laidTests := true, laidLooks := .later }
def FnCommandSplitsAtAnyCutCardSaid : Prop := Claim7.holds Tryd.pinned (.plain (OpenSpec.ofChange fnCommandSplitsAtAnyCutSpec)) fnCommandSplitsAtAnyCutCard
end Rows
end Go.Proofs.Qxb6616880aDoor
