/-
  No cell of these rows narrows 'for every input' (looked for: loops, veiled, ifaces, maps, wideKeys, modest, calm, conditions, laid).
  DERIVED. THE GIVEN ROWS OF THIS SEAT. 2 by the template 'for every input the law returns true; each argument reads behind the call as it read before'; 0 by the template 'total and deterministic' (their statements: Qxb6617780aFmtTotals.lean).
  GIVEN WITH THE SEED: the statements are not yours to turn. If you find one false, say at which input.
  Laid BY PROGRAM, IN A SANDBOX (cutbox-rows.mjs): the forced cells as the released guide's own fill.sh prints them over the translation e86a12b6a32d79ac… (all of the seat's roots in one cut). By AI agents, Wed Nov 11 2026. No macro, syntax, notation, axiom, sorry.
-/
import Derived.Test.Qxb6617780aFmtChecked
import GoSem.Claim
import GoSem.ClaimJoined
import GoSem.ClaimMapViews
import Derived.JoinedTies
import Derived.KernelRfl
namespace Go.Proofs.Qxb6617780aFmt
/- THE CELL 'sum', in the pinned program and in every row, IS THE sha256 OF THE DUMP (.gsa) THAT Qxb6617780aFmtProg.lean LOADS. Nothing in Lean hashes anything: it is a label: what it is worth is what the hold of that sum in a sandbox is worth. -/
noncomputable def Tryf.pinned : Pinned := { name := "qxb6617780afmt", sum := "e86a12b6a32d79ac5a987d598c26d66efb56018325ff1493fa0830350dc7f194", checked := Tryf.checked }
namespace Rows
def none {H : Type} : Left H := { results := [], args := [] }

/-- 'zzlaws_h2field_e1.FnConnectionSpecificValueMattersOnlyForTe': WHATEVER THE INPUT: true; the input reads as it did. -/
def fnConnectionSpecificValueMattersOnlyForTeSpec : ChangeSpec := { name := "fnConnectionSpecificValueMattersOnlyForTe", fn := fun _ => fun
  | [d1, d2, d3] => { results := [.lit (.bool true)], args := [d1, d2, d3] }
  | _ => none }
def fnConnectionSpecificValueMattersOnlyForTeRow : OpenClaim := { program := "qxb6617780afmt", sum := "e86a12b6a32d79ac5a987d598c26d66efb56018325ff1493fa0830350dc7f194", func := "example.com/methodical/methodical/zzlaws_h2field_e1.FnConnectionSpecificValueMattersOnlyForTe", spec := "fnConnectionSpecificValueMattersOnlyForTe", stops := ["fmt.errorf"], inPlace := ["fmt.errorf"], apart := false }
/-- NO THEOREM (fmt's text is open here; it may be false): for the released tool's asking of the row's closed facts alone. THE STATEMENT IS 'FnConnectionSpecificValueMattersOnlyForTeToldSaid' (Qxb6617780aFmtCards.lean). -/
def FnConnectionSpecificValueMattersOnlyForTeFormAsk : Prop := fnConnectionSpecificValueMattersOnlyForTeRow.holds Tryf.pinned (OpenSpec.ofChange fnConnectionSpecificValueMattersOnlyForTeSpec)

/-- ITS FALSE NEIGHBOUR: 'it returns false'. Refute it at one input. -/
def fnConnectionSpecificValueMattersOnlyForTeWrong : ChangeSpec := { name := "fnConnectionSpecificValueMattersOnlyForTe", fn := fun _ => fun
  | [d1, d2, d3] => { results := [.lit (.bool false)], args := [d1, d2, d3] }
  | _ => none }
def FnConnectionSpecificValueMattersOnlyForTeWrongFormAsk : Prop := fnConnectionSpecificValueMattersOnlyForTeRow.holds Tryf.pinned (OpenSpec.ofChange fnConnectionSpecificValueMattersOnlyForTeWrong)

/-- 'zzlaws_h2field_e1.FnValueAgreesWithEndsWhereNoControlButTab': WHATEVER THE INPUT: true; the input reads as it did. -/
def fnValueAgreesWithEndsWhereNoControlButTabSpec : ChangeSpec := { name := "fnValueAgreesWithEndsWhereNoControlButTab", fn := fun _ => fun
  | [d] => { results := [.lit (.bool true)], args := [d] }
  | _ => none }
def fnValueAgreesWithEndsWhereNoControlButTabRow : OpenClaim := { program := "qxb6617780afmt", sum := "e86a12b6a32d79ac5a987d598c26d66efb56018325ff1493fa0830350dc7f194", func := "example.com/methodical/methodical/zzlaws_h2field_e1.FnValueAgreesWithEndsWhereNoControlButTab", spec := "fnValueAgreesWithEndsWhereNoControlButTab", stops := ["fmt.errorf"], inPlace := ["fmt.errorf"], apart := false }
/-- NO THEOREM (fmt's text is open here; it may be false): for the released tool's asking of the row's closed facts alone. THE STATEMENT IS 'FnValueAgreesWithEndsWhereNoControlButTabToldSaid' (Qxb6617780aFmtCards.lean). -/
def FnValueAgreesWithEndsWhereNoControlButTabFormAsk : Prop := fnValueAgreesWithEndsWhereNoControlButTabRow.holds Tryf.pinned (OpenSpec.ofChange fnValueAgreesWithEndsWhereNoControlButTabSpec)

/-- ITS FALSE NEIGHBOUR: 'it returns false'. Refute it at one input. -/
def fnValueAgreesWithEndsWhereNoControlButTabWrong : ChangeSpec := { name := "fnValueAgreesWithEndsWhereNoControlButTab", fn := fun _ => fun
  | [d] => { results := [.lit (.bool false)], args := [d] }
  | _ => none }
def FnValueAgreesWithEndsWhereNoControlButTabWrongFormAsk : Prop := fnValueAgreesWithEndsWhereNoControlButTabRow.holds Tryf.pinned (OpenSpec.ofChange fnValueAgreesWithEndsWhereNoControlButTabWrong)

end Rows
end Go.Proofs.Qxb6617780aFmt
