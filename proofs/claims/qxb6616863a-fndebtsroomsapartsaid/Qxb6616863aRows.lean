/-
  No cell of these rows narrows 'for every input' (looked for: loops, veiled, ifaces, maps, wideKeys, modest, calm, conditions, laid).
  DERIVED. THE GIVEN ROWS OF THIS SEAT. 4 by the template 'for every input the law returns true; each argument reads behind the call as it read before'; 0 by the template 'total and deterministic' (their statements: Qxb6616863aTotals.lean).
  GIVEN WITH THE SEED: the statements are not yours to turn. If you find one false, say at which input.
  Laid BY PROGRAM, IN A SANDBOX (cutbox-rows.mjs): the forced cells as the released guide's own fill.sh prints them over the translation 47786c78bbf81f42… (all of the seat's roots in one cut). By AI agents, Wed Nov 11 2026. No macro, syntax, notation, axiom, sorry.
-/
import Derived.Test.Qxb6616863aChecked
import GoSem.Claim
import GoSem.ClaimJoined
import GoSem.ClaimMapViews
import Derived.JoinedTies
import Derived.KernelRfl
namespace Go.Proofs.Qxb6616863a
/- THE CELL 'sum', in the pinned program and in every row, IS THE sha256 OF THE DUMP (.gsa) THAT Qxb6616863aProg.lean LOADS. Nothing in Lean hashes anything: it is a label: what it is worth is what the hold of that sum in a sandbox is worth. -/
noncomputable def Try.pinned : Pinned := { name := "qxb6616863a", sum := "47786c78bbf81f429cd0aa640ab34306bc7aa0b9ea86af49d70bca097d2f0cd2", checked := Try.checked }
namespace Rows
def none {H : Type} : Left H := { results := [], args := [] }

/-- 'zzlaws_root_b1.FnDebtsShapeAfterAnyTake': WHATEVER THE INPUT: true; the input reads as it did. -/
def fnDebtsShapeAfterAnyTakeSpec : ChangeSpec := { name := "fnDebtsShapeAfterAnyTake", fn := fun _ => fun
  | [d1, d2, d3] => { results := [.lit (.bool true)], args := [d1, d2, d3] }
  | _ => none }
def fnDebtsShapeAfterAnyTakeRow : OpenClaim := { program := "qxb6616863a", sum := "47786c78bbf81f429cd0aa640ab34306bc7aa0b9ea86af49d70bca097d2f0cd2", func := "example.com/bailiff/bailiff/zzlaws_root_b1.FnDebtsShapeAfterAnyTake", spec := "fnDebtsShapeAfterAnyTake", plainKeys := false, apart := false }
def FnDebtsShapeAfterAnyTakeSaid : Prop := fnDebtsShapeAfterAnyTakeRow.holds Try.pinned (OpenSpec.ofChange fnDebtsShapeAfterAnyTakeSpec)

/-- ITS FALSE NEIGHBOUR: 'it returns false'. Refute it at one input. -/
def fnDebtsShapeAfterAnyTakeWrong : ChangeSpec := { name := "fnDebtsShapeAfterAnyTake", fn := fun _ => fun
  | [d1, d2, d3] => { results := [.lit (.bool false)], args := [d1, d2, d3] }
  | _ => none }
def FnDebtsShapeAfterAnyTakeWrongFalsely : Prop := fnDebtsShapeAfterAnyTakeRow.holds Try.pinned (OpenSpec.ofChange fnDebtsShapeAfterAnyTakeWrong)

/-- 'zzlaws_root_b1.FnDebtsRoomsApart': WHATEVER THE INPUT: true; the input reads as it did. -/
def fnDebtsRoomsApartSpec : ChangeSpec := { name := "fnDebtsRoomsApart", fn := fun _ => fun
  | [d1, d2, d3] => { results := [.lit (.bool true)], args := [d1, d2, d3] }
  | _ => none }
def fnDebtsRoomsApartRow : OpenClaim := { program := "qxb6616863a", sum := "47786c78bbf81f429cd0aa640ab34306bc7aa0b9ea86af49d70bca097d2f0cd2", func := "example.com/bailiff/bailiff/zzlaws_root_b1.FnDebtsRoomsApart", spec := "fnDebtsRoomsApart", plainKeys := false, apart := false }
def FnDebtsRoomsApartSaid : Prop := fnDebtsRoomsApartRow.holds Try.pinned (OpenSpec.ofChange fnDebtsRoomsApartSpec)

/-- ITS FALSE NEIGHBOUR: 'it returns false'. Refute it at one input. -/
def fnDebtsRoomsApartWrong : ChangeSpec := { name := "fnDebtsRoomsApart", fn := fun _ => fun
  | [d1, d2, d3] => { results := [.lit (.bool false)], args := [d1, d2, d3] }
  | _ => none }
def FnDebtsRoomsApartWrongFalsely : Prop := fnDebtsRoomsApartRow.holds Try.pinned (OpenSpec.ofChange fnDebtsRoomsApartWrong)

/-- 'zzlaws_root_b1.FnTidyCompactsMany': WHATEVER THE INPUT: true; the input reads as it did. -/
def fnTidyCompactsManySpec : ChangeSpec := { name := "fnTidyCompactsMany", fn := fun _ => fun
  | [d1, d2, d3, d4] => { results := [.lit (.bool true)], args := [d1, d2, d3, d4] }
  | _ => none }
def fnTidyCompactsManyRow : OpenClaim := { program := "qxb6616863a", sum := "47786c78bbf81f429cd0aa640ab34306bc7aa0b9ea86af49d70bca097d2f0cd2", func := "example.com/bailiff/bailiff/zzlaws_root_b1.FnTidyCompactsMany", spec := "fnTidyCompactsMany", inPlace := ["(*sync.WaitGroup).Go", "(*sync.WaitGroup).Add", "internal/race.ReleaseMerge", "internal/race.Disable", "internal/race.Enable", "internal/synctest.IsInBubble", "internal/synctest.Associate[sync.WaitGroup]", "sync.fatal", "sync/atomic.OrUint64", "sync/atomic.AddUint64", "internal/race.Read", "sync/atomic.LoadUint64", "sync/atomic.StoreUint64", "internal/synctest.Disassociate[sync.WaitGroup]", "sync.runtime_Semrelease", "(*sync.WaitGroup).Go$1", "(*sync.WaitGroup).Go$1$1", "(*sync.WaitGroup).Done", "(*sync.WaitGroup).Wait", "internal/race.Acquire", "internal/synctest.IsAssociated[sync.WaitGroup]", "sync/atomic.CompareAndSwapUint64", "internal/race.Write", "sync.runtime_SemacquireWaitGroup"], unfollowed := true, recurses := true, plainKeys := false, apart := false }
def FnTidyCompactsManySaid : Prop := fnTidyCompactsManyRow.holds Try.pinned (OpenSpec.ofChange fnTidyCompactsManySpec)

/-- ITS FALSE NEIGHBOUR: 'it returns false'. Refute it at one input. -/
def fnTidyCompactsManyWrong : ChangeSpec := { name := "fnTidyCompactsMany", fn := fun _ => fun
  | [d1, d2, d3, d4] => { results := [.lit (.bool false)], args := [d1, d2, d3, d4] }
  | _ => none }
def FnTidyCompactsManyWrongFalsely : Prop := fnTidyCompactsManyRow.holds Try.pinned (OpenSpec.ofChange fnTidyCompactsManyWrong)

/-- 'zzlaws_root_b1.FnTidySettled': WHATEVER THE INPUT: true; the input reads as it did. -/
def fnTidySettledSpec : ChangeSpec := { name := "fnTidySettled", fn := fun _ => fun
  | [d1, d2, d3, d4] => { results := [.lit (.bool true)], args := [d1, d2, d3, d4] }
  | _ => none }
def fnTidySettledRow : OpenClaim := { program := "qxb6616863a", sum := "47786c78bbf81f429cd0aa640ab34306bc7aa0b9ea86af49d70bca097d2f0cd2", func := "example.com/bailiff/bailiff/zzlaws_root_b1.FnTidySettled", spec := "fnTidySettled", inPlace := ["(*sync.WaitGroup).Go", "(*sync.WaitGroup).Add", "internal/race.ReleaseMerge", "internal/race.Disable", "internal/race.Enable", "internal/synctest.IsInBubble", "internal/synctest.Associate[sync.WaitGroup]", "sync.fatal", "sync/atomic.OrUint64", "sync/atomic.AddUint64", "internal/race.Read", "sync/atomic.LoadUint64", "sync/atomic.StoreUint64", "internal/synctest.Disassociate[sync.WaitGroup]", "sync.runtime_Semrelease", "(*sync.WaitGroup).Go$1", "(*sync.WaitGroup).Go$1$1", "(*sync.WaitGroup).Done", "(*sync.WaitGroup).Wait", "internal/race.Acquire", "internal/synctest.IsAssociated[sync.WaitGroup]", "sync/atomic.CompareAndSwapUint64", "internal/race.Write", "sync.runtime_SemacquireWaitGroup"], unfollowed := true, recurses := true, plainKeys := false, apart := false }
def FnTidySettledSaid : Prop := fnTidySettledRow.holds Try.pinned (OpenSpec.ofChange fnTidySettledSpec)

/-- ITS FALSE NEIGHBOUR: 'it returns false'. Refute it at one input. -/
def fnTidySettledWrong : ChangeSpec := { name := "fnTidySettled", fn := fun _ => fun
  | [d1, d2, d3, d4] => { results := [.lit (.bool false)], args := [d1, d2, d3, d4] }
  | _ => none }
def FnTidySettledWrongFalsely : Prop := fnTidySettledRow.holds Try.pinned (OpenSpec.ofChange fnTidySettledWrong)

end Rows
end Go.Proofs.Qxb6616863a
