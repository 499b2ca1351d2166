/-
  No cell of these rows narrows 'for every input' (looked for: loops, veiled, ifaces, maps, wideKeys, modest, calm, conditions, laid).
  DERIVED. THE GIVEN ROWS OF THIS SEAT. 1 by the template 'for every input the law returns true; each argument reads behind the call as it read before'; 0 by the template 'total and deterministic' (their statements: Qxb6617780aTotals.lean).
  GIVEN WITH THE SEED: the statements are not yours to turn. If you find one false, say at which input.
  Laid BY PROGRAM, IN A SANDBOX (cutbox-rows.mjs): the forced cells as the released guide's own fill.sh prints them over the translation 51c437f97f30c23f… (all of the seat's roots in one cut). By AI agents, Wed Nov 11 2026. No macro, syntax, notation, axiom, sorry.
-/
import Derived.Test.Qxb6617780aChecked
import GoSem.Claim
import GoSem.ClaimJoined
import GoSem.ClaimMapViews
import Derived.JoinedTies
import Derived.KernelRfl
namespace Go.Proofs.Qxb6617780a
/- THE CELL 'sum', in the pinned program and in every row, IS THE sha256 OF THE DUMP (.gsa) THAT Qxb6617780aProg.lean LOADS. Nothing in Lean hashes anything: it is a label: what it is worth is what the hold of that sum in a sandbox is worth. -/
noncomputable def Try.pinned : Pinned := { name := "qxb6617780a", sum := "51c437f97f30c23ffc25cfce6202a22b4e4631e4f1d45d01158c776411f0a247", checked := Try.checked }
namespace Rows
def none {H : Type} : Left H := { results := [], args := [] }

/-- 'zzlaws_h2field_e1.FnValueEndsLooksAtTheEndsAlone': WHATEVER THE INPUT: true; the input reads as it did. -/
def fnValueEndsLooksAtTheEndsAloneSpec : ChangeSpec := { name := "fnValueEndsLooksAtTheEndsAlone", fn := fun _ => fun
  | [d1, d2] => { results := [.lit (.bool true)], args := [d1, d2] }
  | _ => none }
def fnValueEndsLooksAtTheEndsAloneRow : OpenClaim := { program := "qxb6617780a", sum := "51c437f97f30c23ffc25cfce6202a22b4e4631e4f1d45d01158c776411f0a247", func := "example.com/methodical/methodical/zzlaws_h2field_e1.FnValueEndsLooksAtTheEndsAlone", spec := "fnValueEndsLooksAtTheEndsAlone", apart := false }
def FnValueEndsLooksAtTheEndsAloneSaid : Prop := fnValueEndsLooksAtTheEndsAloneRow.holds Try.pinned (OpenSpec.ofChange fnValueEndsLooksAtTheEndsAloneSpec)

/-- ITS FALSE NEIGHBOUR: 'it returns false'. Refute it at one input. -/
def fnValueEndsLooksAtTheEndsAloneWrong : ChangeSpec := { name := "fnValueEndsLooksAtTheEndsAlone", fn := fun _ => fun
  | [d1, d2] => { results := [.lit (.bool false)], args := [d1, d2] }
  | _ => none }
def FnValueEndsLooksAtTheEndsAloneWrongFalsely : Prop := fnValueEndsLooksAtTheEndsAloneRow.holds Try.pinned (OpenSpec.ofChange fnValueEndsLooksAtTheEndsAloneWrong)

end Rows
end Go.Proofs.Qxb6617780a
