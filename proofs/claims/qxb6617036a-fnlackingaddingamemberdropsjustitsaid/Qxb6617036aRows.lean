/-
  No cell of these rows narrows 'for every input' (looked for: loops, veiled, ifaces, maps, wideKeys, modest, calm, conditions, laid).
  DERIVED. THE GIVEN ROWS OF THIS SEAT. 2 by the template 'for every input the law returns true; each argument reads behind the call as it read before'; 0 by the template 'total and deterministic' (their statements: Qxb6617036aTotals.lean).
  GIVEN WITH THE SEED: the statements are not yours to turn. If you find one false, say at which input.
  Laid BY PROGRAM, IN A SANDBOX (cutbox-rows.mjs): the forced cells as the released guide's own fill.sh prints them over the translation aebd2392cf18052f… (all of the seat's roots in one cut). By AI agents, Wed Nov 11 2026. No macro, syntax, notation, axiom, sorry.
-/
import Derived.Test.Qxb6617036aChecked
import GoSem.Claim
import GoSem.ClaimJoined
import GoSem.ClaimMapViews
import Derived.JoinedTies
import Derived.KernelRfl
namespace Go.Proofs.Qxb6617036a
/- THE CELL 'sum', in the pinned program and in every row, IS THE sha256 OF THE DUMP (.gsa) THAT Qxb6617036aProg.lean LOADS. Nothing in Lean hashes anything: it is a label: what it is worth is what the hold of that sum in a sandbox is worth. -/
noncomputable def Try.pinned : Pinned := { name := "qxb6617036a", sum := "aebd2392cf18052f69928095717eaddabe39e71fd15816ac5351e5538d810915", checked := Try.checked }
namespace Rows
def none {H : Type} : Left H := { results := [], args := [] }

/-- 'zzlaws_internal_jsonschema_b1.FnLackingKeepsTheAbsentNamesInOrderAtAnyCut': WHATEVER THE INPUT: true; the input reads as it did. -/
def fnLackingKeepsTheAbsentNamesInOrderAtAnyCutSpec : ChangeSpec := { name := "fnLackingKeepsTheAbsentNamesInOrderAtAnyCut", fn := fun _ => fun
  | [d1, d2, d3] => { results := [.lit (.bool true)], args := [d1, d2, d3] }
  | _ => none }
def fnLackingKeepsTheAbsentNamesInOrderAtAnyCutRow : OpenClaim := { program := "qxb6617036a", sum := "aebd2392cf18052f69928095717eaddabe39e71fd15816ac5351e5538d810915", func := "example.com/quiver/quiver/zzlaws_internal_jsonschema_b1.FnLackingKeepsTheAbsentNamesInOrderAtAnyCut", spec := "fnLackingKeepsTheAbsentNamesInOrderAtAnyCut", apart := false }
def FnLackingKeepsTheAbsentNamesInOrderAtAnyCutSaid : Prop := fnLackingKeepsTheAbsentNamesInOrderAtAnyCutRow.holds Try.pinned (OpenSpec.ofChange fnLackingKeepsTheAbsentNamesInOrderAtAnyCutSpec)

/-- ITS FALSE NEIGHBOUR: 'it returns false'. Refute it at one input. -/
def fnLackingKeepsTheAbsentNamesInOrderAtAnyCutWrong : ChangeSpec := { name := "fnLackingKeepsTheAbsentNamesInOrderAtAnyCut", fn := fun _ => fun
  | [d1, d2, d3] => { results := [.lit (.bool false)], args := [d1, d2, d3] }
  | _ => none }
def FnLackingKeepsTheAbsentNamesInOrderAtAnyCutWrongFalsely : Prop := fnLackingKeepsTheAbsentNamesInOrderAtAnyCutRow.holds Try.pinned (OpenSpec.ofChange fnLackingKeepsTheAbsentNamesInOrderAtAnyCutWrong)

/-- 'zzlaws_internal_jsonschema_b1.FnLackingAddingAMemberDropsJustIt': WHATEVER THE INPUT: true; the input reads as it did. -/
def fnLackingAddingAMemberDropsJustItSpec : ChangeSpec := { name := "fnLackingAddingAMemberDropsJustIt", fn := fun _ => fun
  | [d1, d2, d3] => { results := [.lit (.bool true)], args := [d1, d2, d3] }
  | _ => none }
def fnLackingAddingAMemberDropsJustItRow : OpenClaim := { program := "qxb6617036a", sum := "aebd2392cf18052f69928095717eaddabe39e71fd15816ac5351e5538d810915", func := "example.com/quiver/quiver/zzlaws_internal_jsonschema_b1.FnLackingAddingAMemberDropsJustIt", spec := "fnLackingAddingAMemberDropsJustIt", apart := false }
def FnLackingAddingAMemberDropsJustItSaid : Prop := fnLackingAddingAMemberDropsJustItRow.holds Try.pinned (OpenSpec.ofChange fnLackingAddingAMemberDropsJustItSpec)

/-- ITS FALSE NEIGHBOUR: 'it returns false'. Refute it at one input. -/
def fnLackingAddingAMemberDropsJustItWrong : ChangeSpec := { name := "fnLackingAddingAMemberDropsJustIt", fn := fun _ => fun
  | [d1, d2, d3] => { results := [.lit (.bool false)], args := [d1, d2, d3] }
  | _ => none }
def FnLackingAddingAMemberDropsJustItWrongFalsely : Prop := fnLackingAddingAMemberDropsJustItRow.holds Try.pinned (OpenSpec.ofChange fnLackingAddingAMemberDropsJustItWrong)

end Rows
end Go.Proofs.Qxb6617036a
