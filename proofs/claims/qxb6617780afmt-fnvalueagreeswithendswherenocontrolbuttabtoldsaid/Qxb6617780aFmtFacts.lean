/- The closed facts for a walk over fmt's stopped front in this program. -/
import Derived.Test.Qxb6617780aFmtProg
import Derived.Stop.CallBack
import Derived.Stop.IfaceNil
import Derived.WalkKit
import Derived.WalkSpells
import Derived.WalkLawsBesides
import Derived.Deep.QuietTactic
import Derived.BigQuiet
namespace Go.Proofs.Qxb6617780aFmt
open Go.RowKit Go.Extern.Stop Go.Stop Go.Extern
set_option linter.unusedVariables false
set_option linter.unusedSimpArgs false

theorem call15 (args : Array Value) (w : World) : (callFunc 15 args).run Tryf.prog w = ((FmtStop.errorf #[9, 30] #[24] args).run Tryf.prog w).andThen fun v w' => .ok (.value v) w' :=
  run_callFunc_extern Tryf.func15 (by kernel_rfl) (by kernel_rfl) (by kernel_rfl) (by kernel_rfl) args w
theorem guard_any (name : String) (w : World) : (FmtStop.guard name).run Tryf.prog w = .ok () w := by kernel_rfl
theorem fmt0 : FmtStop.printed? ⟨#[116, 104, 101, 32, 102, 105, 101, 108, 100, 32, 37, 115, 32, 105, 115, 32, 110, 111, 116, 32, 97, 108, 108, 111, 119, 101, 100, 32, 105, 110, 32, 72, 84, 84, 80, 47, 50]⟩ 1 = some [(0, 115, false)] := by kernel_rfl
theorem fmt0r (w : World) : (FmtDoors.printed ⟨#[116, 104, 101, 32, 102, 105, 101, 108, 100, 32, 37, 115, 32, 105, 115, 32, 110, 111, 116, 32, 97, 108, 108, 111, 119, 101, 100, 32, 105, 110, 32, 72, 84, 84, 80, 47, 50]⟩ 1).run Tryf.prog w = .ok [(0, 115, false)] w := by kernel_rfl
theorem fmt1 : FmtStop.printed? ⟨#[97, 32, 102, 105, 101, 108, 100, 32, 118, 97, 108, 117, 101, 32, 109, 97, 121, 32, 110, 111, 116, 32, 104, 111, 108, 100, 32, 37, 113, 32, 105, 110, 32, 72, 84, 84, 80, 47, 50]⟩ 1 = some [(0, 113, false)] := by kernel_rfl
theorem fmt1r (w : World) : (FmtDoors.printed ⟨#[97, 32, 102, 105, 101, 108, 100, 32, 118, 97, 108, 117, 101, 32, 109, 97, 121, 32, 110, 111, 116, 32, 104, 111, 108, 100, 32, 37, 113, 32, 105, 110, 32, 72, 84, 84, 80, 47, 50]⟩ 1).run Tryf.prog w = .ok [(0, 113, false)] w := by kernel_rfl
def shape9 : List UInt8 := [12, 6, 0, 0, 0, 0, 0, 0, 0, 115, 116, 114, 105, 110, 103]
def shape5 : List UInt8 := [6, 5, 0, 0, 0, 0, 0, 0, 0, 117, 105, 110, 116, 56]
theorem op9 (name : String) (x : ByteArray) (w : World) : (FmtStop.operand name false 115 false (.iface 9 (.string x))).run Tryf.prog w = .ok (shape9, FmtStop.pack x.data.toList) w := by kernel_rfl
theorem op9w (name : String) (x : ByteArray) (w : World) : (FmtStop.operand name true 115 false (.iface 9 (.string x))).run Tryf.prog w = .ok (shape9, FmtStop.pack x.data.toList) w := by kernel_rfl
theorem op5 (name : String) (x : Int) (w : World) : (FmtStop.operand name false 113 false (.iface 5 (.int .u8 x))).run Tryf.prog w = .ok (shape5, Go.Extern.Stop.digits 8 (x % 2 ^ 64).toNat) w := by kernel_rfl
theorem op5w (name : String) (x : Int) (w : World) : (FmtStop.operand name true 113 false (.iface 5 (.int .u8 x))).run Tryf.prog w = .ok (shape5, Go.Extern.Stop.digits 8 (x % 2 ^ 64).toNat) w := by kernel_rfl
theorem ptr32 (w : World) : (FmtStop.ptrTo "errors.errorString").run Tryf.prog w = .ok 32 w := by kernel_rfl
theorem elem32 (w : World) : (elemOf 32).run Tryf.prog w = .ok 34 w := by kernel_rfl
theorem isError32 (w : World) : (FmtDoors.textMethod 32 "Error").run Tryf.prog w = .ok true w := by kernel_rfl

attribute [local go_sem] call15 guard_any fmt0 fmt0r fmt1 fmt1r op9 op9w op5 op5w ptr32 elem32 isError32

/-- An error of errors.New's make. -/
def isErr (e : Ending) : Prop := ∃ a, e = .returned (.iface 32 (.pointer (some a)))

/-- New blocks alone, and the tape as it was. -/
def Fine (W w : World) : Prop := Grown W w ∧ w.tape = W.tape
theorem Fine.refl (W : World) : Fine W W := ⟨Grown.refl _, rfl⟩

set_option maxHeartbeats 800000 in
theorem errorf_s (F : Interp) (nm : ByteArray) (b : Nat) (w : World) (hF : F.answers w.tape) (hc : w.cell? ⟨b, 0, none⟩ = some (.iface 9 (.string nm))) :
    Calls Tryf.prog 12 #[.string ⟨#[116, 104, 101, 32, 102, 105, 101, 108, 100, 32, 37, 115, 32, 105, 115, 32, 110, 111, 116, 32, 97, 108, 108, 111, 119, 101, 100, 32, 105, 110, 32, 72, 84, 84, 80, 47, 50]⟩, .slice (some ⟨b, 0, none⟩) 1 1] w fun e w' => isErr e ∧ ∀ W, Fine W w → Fine W w' := by
  have hF' := answers_open hF
  go_enter Tryf.func12, Tryf.ntmps12
  go_wp2
  go_ret
  exact ⟨⟨_, rfl⟩, fun W h => ⟨(h.1.alloc _ _).drew, h.2⟩⟩

set_option maxHeartbeats 800000 in
theorem errorf_q (F : Interp) (c : Int) (b : Nat) (w : World) (hF : F.answers w.tape) (hc : w.cell? ⟨b, 0, none⟩ = some (.iface 5 (.int .u8 c))) :
    Calls Tryf.prog 12 #[.string ⟨#[97, 32, 102, 105, 101, 108, 100, 32, 118, 97, 108, 117, 101, 32, 109, 97, 121, 32, 110, 111, 116, 32, 104, 111, 108, 100, 32, 37, 113, 32, 105, 110, 32, 72, 84, 84, 80, 47, 50]⟩, .slice (some ⟨b, 0, none⟩) 1 1] w fun e w' => isErr e ∧ ∀ W, Fine W w → Fine W w' := by
  have hF' := answers_open hF
  go_enter Tryf.func12, Tryf.ntmps12
  go_wp2
  go_ret
  exact ⟨⟨_, rfl⟩, fun W h => ⟨(h.1.alloc _ _).drew, h.2⟩⟩

set_option maxHeartbeats 400000 in
theorem new_any (s : ByteArray) (w : World) : Calls Tryf.prog 13 #[.string s] w fun e w' => isErr e ∧ ∀ W, Fine W w → Fine W w' := by
  go_enter Tryf.func13, Tryf.ntmps13
  go_wp2
  go_ret
  exact ⟨⟨_, rfl⟩, fun W h => ⟨h.1.alloc _ _, h.2⟩⟩

end Go.Proofs.Qxb6617780aFmt
