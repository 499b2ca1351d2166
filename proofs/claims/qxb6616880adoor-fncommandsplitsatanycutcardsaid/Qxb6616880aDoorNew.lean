/- NewWriterSize (26), NewWriter (20), resp.NewWriter (13), ZZnewBufWriter (6). -/
import Derived.Test.Qxb6616880aDoorWrt
import Derived.Test.Qxb6616880aDoorShelf
namespace Go.Proofs.Qxb6616880aDoor
open Go.RowKit Go.Lib
set_option linter.unusedVariables false
set_option linter.unusedSimpArgs false

def row4096 : Obj := .cells (madeCells #[.int .u8 0] 4096) 5

theorem make_row (w : World) :
    (Instr.makeSlice 24 (.int .i64 4096) (.int .i64 4096)).run Tryd.prog w = .ok (.slice (some ⟨w.heap.size, 0, none⟩) 4096 4096) (w.alloc row4096) := by
  obtain ⟨i, hi, hz0, hz1, hz2⟩ := info_parts Tryd.info5
  have h := run_make (P := Tryd.prog) w 24 5 i _ Tryd.underlying24 hi hz0 .i64 .i64 4096 4096 (by omega) (by omega) (by rw [hz2]; omega) (by omega)
  rw [h, hz1]
  rfl

theorem assert45 (bb : Nat) (w : World) : (Instr.typeAssert (.iface 27 (.pointer (some ⟨bb, 0, none⟩))) 51 45 true).run Tryd.prog w = .ok (.tuple #[.pointer none, .bool false]) w := by kernel_rfl
theorem build58 (bb br : Nat) (w : World) : (Instr.build 58 #[(1, .slice (some ⟨br, 0, none⟩) 4096 4096), (3, .iface 27 (.pointer (some ⟨bb, 0, none⟩)))]).run Tryd.prog w = .ok (.agg (wcells bb br 0)) w := run_build w 58 _ _ (by kernel_rfl)

set_option maxHeartbeats 2000000 in
set_option maxRecDepth 100000 in
theorem newsize_any (bb : Nat) (w : World) :
    Calls Tryd.prog 26 #[.iface 27 (.pointer (some ⟨bb, 0, none⟩)), .int .i64 4096] w fun e w' => e = .returned (.pointer (some ⟨w.heap.size + 1, 0, none⟩)) ∧ w' = (w.alloc row4096).alloc (.cells (wcells bb w.heap.size 0) 58) := by
  have hm := make_row
  have ha := assert45
  have hb := build58
  go_enter Tryd.func26, Tryd.ntmps26
  go_wp2_with fail
  go_ret
  exact ⟨rfl, rfl⟩

set_option maxHeartbeats 2000000 in
set_option maxRecDepth 100000 in
theorem newwriter_any (bb : Nat) (w : World) :
    Calls Tryd.prog 20 #[.iface 27 (.pointer (some ⟨bb, 0, none⟩))] w fun e w' => e = .returned (.pointer (some ⟨w.heap.size + 1, 0, none⟩)) ∧ w' = (w.alloc row4096).alloc (.cells (wcells bb w.heap.size 0) 58) := by
  go_enter Tryd.func20, Tryd.ntmps20
  go_wp2_with fail
  refine (newsize_any bb w).mono ?_
  rintro e w' ⟨rfl, rfl⟩
  go_wp2_with fail
  go_ret
  exact ⟨rfl, rfl⟩

theorem build47 (bw : Nat) (w : World) : (Instr.build 47 #[(0, .pointer (some ⟨bw, 0, none⟩))]).run Tryd.prog w = .ok (.agg #[.pointer (some ⟨bw, 0, none⟩)]) w := run_build w 47 _ _ (by kernel_rfl)

/-- The world behind ZZnewBufWriter. -/
def fresh (w : World) : World := (((w.alloc (.cells #[.slice none 0 0, .int .i64 0, .int .i8 0] 38)).alloc row4096).alloc (.cells (wcells w.heap.size (w.heap.size + 1) 0) 58)).alloc (.cells #[.pointer (some ⟨w.heap.size + 2, 0, none⟩)] 47)

set_option maxHeartbeats 2000000 in
set_option maxRecDepth 100000 in
theorem respnew_any (bb : Nat) (w : World) :
    Calls Tryd.prog 13 #[.iface 27 (.pointer (some ⟨bb, 0, none⟩))] w fun e w' => e = .returned (.pointer (some ⟨w.heap.size + 2, 0, none⟩)) ∧ w' = ((w.alloc row4096).alloc (.cells (wcells bb w.heap.size 0) 58)).alloc (.cells #[.pointer (some ⟨w.heap.size + 1, 0, none⟩)] 47) := by
  have hb := build47
  go_enter Tryd.func13, Tryd.ntmps13
  go_wp2_with fail
  refine (newwriter_any bb w).mono ?_
  rintro e w' ⟨rfl, rfl⟩
  go_wp2_with fail
  go_ret
  exact ⟨rfl, rfl⟩

set_option maxHeartbeats 2000000 in
set_option maxRecDepth 100000 in
theorem newbuf_any (w : World) :
    Calls Tryd.prog 6 #[] w fun e w' => e = .returned (.tuple #[.pointer (some ⟨w.heap.size + 3, 0, none⟩), .pointer (some ⟨w.heap.size, 0, none⟩)]) ∧ fresh w = w' := by
  go_enter Tryd.func6, Tryd.ntmps6
  go_wp2_with fail
  refine (respnew_any w.heap.size _).mono ?_
  rintro e w' ⟨rfl, rfl⟩
  go_wp2_with fail
  go_ret2
  exact ⟨rfl, rfl⟩

/-- A resp.Writer over a bytes.Buffer of the call's own, in the blocks from s on, that has been handed 'all'. -/
structure St (w : World) (s : Nat) (all : List Value) : Prop where
  wa : Wa w s (s + 1) (s + 2) (s + 4) all
  hd : w.heap[s + 3]? = some (.cells #[.pointer (some ⟨s + 2, 0, none⟩)] 47 (0, 0))

theorem madeList (z : Value) (m : Nat) : (madeCells #[z] m).toList.length = m := by simp [size_madeCells]

theorem fresh_heap (w : World) : (fresh w).heap = (((w.heap.push (.cells #[.slice none 0 0, .int .i64 0, .int .i8 0] 38)).push row4096).push (.cells (wcells w.heap.size (w.heap.size + 1) 0) 58)).push (.cells #[.pointer (some ⟨w.heap.size + 2, 0, none⟩)] 47) := rfl

theorem push4 (h : Array Obj) (a b c d : Obj) : ((((h.push a).push b).push c).push d)[h.size]? = some a ∧ ((((h.push a).push b).push c).push d)[h.size + 1]? = some b ∧
    ((((h.push a).push b).push c).push d)[h.size + 2]? = some c ∧ ((((h.push a).push b).push c).push d)[h.size + 3]? = some d := by
  simp only [Array.getElem?_push, Array.size_push]
  refine ⟨?_, ?_, ?_, ?_⟩
  · rw [if_neg (by omega), if_neg (by omega), if_neg (by omega), if_pos trivial]
  · rw [if_neg (by omega), if_neg (by omega), if_pos trivial]
  · rw [if_neg (by omega), if_pos trivial]
  · rw [if_pos trivial]

theorem fresh_st (w : World) : St (fresh w) w.heap.size [] ∧ Below w.heap.size w (fresh w) ∧ (fresh w).heap.size = w.heap.size + 4 := by
  refine ⟨⟨⟨[], [], rfl, ⟨⟨_, 0, ?_, .inl ⟨rfl, rfl⟩⟩, ?_, ⟨madeCells #[.int .u8 0] 4096, ?_, size_madeCells _ _, rfl⟩, by simp, by omega, by omega, by omega, by omega, by omega, by omega, ?_, by simp⟩⟩, ?_⟩, ?_, ?_⟩
  · unfold Head; rw [fresh_heap]; exact (push4 _ _ _ _ _).1
  · rw [fresh_heap]; exact (push4 _ _ _ _ _).2.2.1
  · rw [fresh_heap]; exact (push4 _ _ _ _ _).2.1
  · rw [fresh_heap]; simp
  · rw [fresh_heap]; exact (push4 _ _ _ _ _).2.2.2
  · exact ((((Below.refl _ w).alloc (Nat.le_refl _) _).alloc (by simp) _).alloc (by simp; omega) _).alloc (by simp; omega) _
  · rw [fresh_heap]; simp

end Go.Proofs.Qxb6616880aDoor
