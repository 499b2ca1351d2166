/- bytes.Buffer at this dump, with the exact frame: tryGrowByReslice (60), Len (62). -/
import Derived.Test.Qxb6616880aDoorProg
import Derived.WalkKit
import Derived.WalkSpells
import Derived.WalkLawsBesides
import Derived.Deep.QuietTactic
import Derived.BigQuiet
import Derived.Lib.Buffer
import Derived.Lib.BufferWrite
import Derived.Laws.CopyOwn
namespace Go.Proofs.Qxb6616880aDoor
open Go.RowKit
set_option linter.unusedVariables false
set_option linter.unusedSimpArgs false

theorem Tryd.info5 : (Tryd.prog.info? 5).map (fun i => (i.zero, i.size, i.bytes)) = some (some (.int .u8 0), 1, 1) := by kernel_rfl

/-- The three cells of a bytes.Buffer that has only been written. -/
def Head (w : World) (b : Nat) (v : Value) (lr : Int) : Prop := w.heap[b]? = some (.cells #[v, .int .i64 0, .int .i8 lr] 38 (0, 0))

theorem Head.cells {w : World} {b : Nat} {v : Value} {lr : Int} (h : Head w b v lr) :
    w.cell? ⟨b, 0, none⟩ = some v ∧ w.cell? ⟨b, 1, none⟩ = some (.int .i64 0) ∧ w.cell? ⟨b, 2, none⟩ = some (.int .i8 lr) ∧ ∀ i, w.frozen? ⟨b, i, none⟩ = false := by
  unfold Head at h
  refine ⟨by simp [World.cell?, h], by simp [World.cell?, h], by simp [World.cell?, h], fun i => by simp [World.frozen?, h]⟩

set_option maxHeartbeats 400000 in
theorem tryGrow_room (b : Nat) (ao : Option Addr) (l cap n : Nat) (lr : Int) (w : World) (h : Head w b (.slice ao l cap) lr) (hlc : l + n ≤ cap) (hcm : cap ≤ maxLen) :
    Calls Tryd.prog 60 #[.pointer (some ⟨b, 0, none⟩), .int .i64 n] w fun e w' => e = .returned (.tuple #[.int .i64 l, .bool true]) ∧ w' = w.setCell ⟨b, 0, none⟩ (.slice ao (l + n) cap) := by
  obtain ⟨c0, c1, c2, hf⟩ := h.cells
  unfold maxLen at hcm
  have i1 : (l : Int) + (n : Int) ≤ (cap : Int) := by omega
  have i2 : (cap : Int) ≤ 9223372036854775807 := by omega
  have i3 : (n : Int) ≤ (cap : Int) - (l : Int) := by omega
  have f0 := hf 0
  clear hf h
  go_enter Tryd.func60, Tryd.ntmps60
  go_wp2
  go_ret2
  exact ⟨rfl, rfl⟩

set_option maxHeartbeats 400000 in
theorem tryGrow_none (b : Nat) (ao : Option Addr) (l cap n : Nat) (lr : Int) (w : World) (h : Head w b (.slice ao l cap) lr) (hl : l ≤ cap) (hlc : cap < l + n) (hn : n ≤ 140737488355328) (hcm : cap ≤ maxLen) :
    Calls Tryd.prog 60 #[.pointer (some ⟨b, 0, none⟩), .int .i64 n] w fun e w' => e = .returned (.tuple #[.int .i64 0, .bool false]) ∧ w = w' := by
  obtain ⟨c0, c1, c2, hf⟩ := h.cells
  unfold maxLen at hcm
  have i2 : (cap : Int) ≤ 9223372036854775807 := by omega
  have i1 : (l : Int) ≤ (cap : Int) := by omega
  have i3 : ¬ (n : Int) ≤ (cap : Int) - (l : Int) := by omega
  clear hf h
  go_enter Tryd.func60, Tryd.ntmps60
  go_wp2
  go_ret2
  exact ⟨rfl, rfl⟩

set_option maxHeartbeats 400000 in
theorem len_any (b : Nat) (ao : Option Addr) (l cap : Nat) (lr : Int) (w : World) (h : Head w b (.slice ao l cap) lr) (hl : l ≤ maxLen) :
    Calls Tryd.prog 62 #[.pointer (some ⟨b, 0, none⟩)] w fun e w' => e = .returned (.int .i64 l) ∧ ∃ q, w' = w.drewN q := by
  obtain ⟨c0, c1, c2, hf⟩ := h.cells
  unfold maxLen at hl
  clear hf h
  go_enter Tryd.func62, Tryd.ntmps62
  go_wp2
  go_quiet (fail)
  go_wp2
  go_ret
  exact ⟨rfl, _, rfl⟩

/-- bytes.growSlice (63), at the nil slice and at a row: the shelf's contracts, laid at this dump elsewhere. -/
def GrowNil : Prop := ∀ (n : Nat) (w : World), 1 ≤ n → n ≤ 140737488355328 →
  Calls Tryd.prog 63 #[.slice none 0 0, .int .i64 n] w fun e w' => ∃ cap2 cells, e = .returned (.slice (some ⟨w.heap.size, 0, none⟩) 0 cap2) ∧ w'.heap[w.heap.size]? = some (.cells cells 5 (0, 0)) ∧
      cells.size = cap2 ∧ n ≤ cap2 ∧ cap2 ≤ maxLen ∧ Below w.heap.size w w'
def GrowRow : Prop := ∀ (g l c n : Nat) (cur : Array Value) (w : World), w.heap[g]? = some (.cells cur 5 (0, 0)) → cur.size = c → l ≤ c → 1 ≤ n → l + n ≤ 140737488355328 → c ≤ 140737488355328 → (∀ v ∈ cur.toList.take l, v.oneCell' = true) →
  Calls Tryd.prog 63 #[.slice (some ⟨g, 0, none⟩) l c, .int .i64 n] w fun e w' => ∃ cap2 cells, e = .returned (.slice (some ⟨w.heap.size, 0, none⟩) l cap2) ∧ w'.heap[w.heap.size]? = some (.cells cells 5 (0, 0)) ∧
      cells.size = cap2 ∧ cells.toList.take l = cur.toList.take l ∧ l + n ≤ cap2 ∧ cap2 ≤ maxLen ∧ Below w.heap.size w w'

/-- What grow leaves: the buffer's slice lies in a new row; of the old blocks none but b has turned. -/
def Grew (w : World) (b l n : Nat) (olds : List Value) (lr : Int) (w' : World) : Prop :=
  ∃ g cap cells, w.heap.size ≤ g ∧ Head w' b (.slice (some ⟨g, 0, none⟩) (l + n) cap) lr ∧ w'.heap[g]? = some (.cells cells 5 (0, 0)) ∧ cells.size = cap ∧ cells.toList.take l = olds ∧ l + n ≤ cap ∧ cap ≤ maxLen ∧ w.grownBy w' (some b)

def small64 (n : Nat) : Obj := .cells (madeCells #[.int .u8 0] 64) 5

theorem make_small (n : Nat) (hn : n ≤ 64) (w : World) :
    (Instr.makeSlice 24 (.int .i64 (n : Int)) (.int .i64 64)).run Tryd.prog w = .ok (.slice (some ⟨w.heap.size, 0, none⟩) n 64) (w.alloc (small64 n)) := by
  obtain ⟨i, hi, hz0, hz1, hz2⟩ := info_parts Tryd.info5
  have h := run_make (P := Tryd.prog) w 24 5 i _ Tryd.underlying24 hi hz0 .i64 .i64 n 64 (by omega) (by omega) (by rw [hz2]; omega) (by omega)
  rw [h, hz1, Int.toNat_natCast]
  rfl

theorem eql_nil (w : World) (a : Option Addr) (n c : Nat) : (binOp .eql 24 (.slice a n c) (.slice none 0 0)).run Tryd.prog w = .ok (.bool a.isNone) w := Lib.run_eql_slice_nil w 24 5 a n c 0 0 Tryd.underlying24

theorem Head.drewN {w : World} {b : Nat} {v : Value} {lr : Int} (h : Head w b v lr) (q : Nat) : Head (w.drewN q) b v lr := h
theorem Head.alloc {w : World} {b : Nat} {v : Value} {lr : Int} (h : Head w b v lr) (o : Obj) : Head (w.alloc o) b v lr := by
  unfold Head at h ⊢
  rw [Below.heap_alloc _ _ _ (Array.getElem?_eq_some_iff.1 h).1]
  exact h
theorem Head.lt {w : World} {b : Nat} {v : Value} {lr : Int} (h : Head w b v lr) : b < w.heap.size := (Array.getElem?_eq_some_iff.1 h).1
theorem Head.set {w : World} {b : Nat} {v : Value} {lr : Int} (h : Head w b v lr) (v' : Value) : Head (w.setCell ⟨b, 0, none⟩ v') b v' lr := by
  unfold Head at h ⊢
  simp [World.setCell, Array.getElem?_modify, h]

theorem grown_set {w w' : World} {b : Nat} (h : w.grownBy w' (some b)) (o : Nat) (v : Value) : w.grownBy (w'.setCell ⟨b, o, none⟩ v) (some b) :=
  ⟨h.os, h.tape, h.output, by simpa [World.setCell] using h.size, fun k hk hne => by
    rw [Below.heap_setCell _ _ _ _ (fun e => hne (by rw [e]))]
    exact h.block k hk hne⟩

set_option maxHeartbeats 1000000 in
theorem grow_small (b n : Nat) (lr : Int) (w : World) (h : Head w b (.slice none 0 0) lr) (hn : 1 ≤ n) (hn2 : n ≤ 64) :
    Calls Tryd.prog 61 #[.pointer (some ⟨b, 0, none⟩), .int .i64 n] w fun e w' => e = .returned (.int .i64 0) ∧ Grew w b 0 n [] lr w' := by
  have hm := make_small n hn2
  have he := eql_nil
  have i1 : (n : Int) ≤ 64 := by omega
  have hlt := h.lt
  have hc3 : ∀ q, ((w.drewN q).alloc (small64 n)).cell? ⟨b, 0, none⟩ = some (.slice none 0 0) := fun q => ((h.drewN q).alloc _).cells.1
  have hf3 : ∀ q, ((w.drewN q).alloc (small64 n)).frozen? ⟨b, 0, none⟩ = false := fun q => ((h.drewN q).alloc _).cells.2.2.2 0
  go_enter Tryd.func61, Tryd.ntmps61
  go_wp2_with fail
  refine (len_any b none 0 0 lr w h (Nat.zero_le _)).mono ?_
  rintro e w' ⟨rfl, q, rfl⟩
  obtain ⟨c0, c1, c2, hf⟩ := (h.drewN q).cells
  go_wp2_with fail
  refine (tryGrow_none b none 0 0 n lr _ (h.drewN q) (Nat.le_refl _) (by omega) (by omega) (Nat.zero_le _)).mono ?_
  rintro e w' ⟨rfl, rfl⟩
  go_wp2_with fail
  go_ret
  refine ⟨rfl, w.heap.size, 64, madeCells #[.int .u8 0] 64, Nat.le_refl _, ?_, ?_, size_madeCells _ _, rfl, by omega, by unfold maxLen; omega, ?_⟩
  · rw [Nat.zero_add]; exact ((h.drewN q).alloc _).set _
  · rw [Below.heap_setCell _ _ _ _ (by show w.heap.size ≠ b; omega)]
    exact heap_alloc_new (w.drewN q) _
  · have hg := World.grownBy_alloc (w.drewN q) (small64 n) (some b)
    exact grown_set (w := w) ⟨hg.os, hg.tape, hg.output, hg.size, hg.block⟩ 0 _

theorem grown_drewN {w w' : World} {row : Option Nat} (h : w.grownBy w' row) (q : Nat) : w.grownBy (w'.drewN q) row := ⟨h.os, h.tape, h.output, h.size, h.block⟩

theorem grown_below {w w1 w2 : World} {q : Nat} {row : Option Nat} (hw : w1 = w.drewN q) (h : Below w1.heap.size w1 w2) : w.grownBy w2 row := by
  subst hw
  exact ⟨h.os, h.tape, h.output, h.size, fun k hk _ => h.block k hk⟩

theorem Head.set1 {w : World} {b : Nat} {v : Value} {lr : Int} (h : Head w b v lr) : Head (w.setCell ⟨b, 1, none⟩ (.int .i64 0)) b v lr := by
  unfold Head at h ⊢
  simp [World.setCell, Array.getElem?_modify, h]
theorem Head.set2 {w : World} {b : Nat} {v : Value} {lr : Int} (h : Head w b v lr) (lr' : Int) : Head (w.setCell ⟨b, 2, none⟩ (.int .i8 lr')) b v lr' := by
  unfold Head at h ⊢
  simp [World.setCell, Array.getElem?_modify, h]

theorem grew_end {w w0 w2 : World} {b l n cap2 : Nat} {v v1 : Value} {lr : Int} {cells : Array Value} {olds : List Value} (hq : ∃ q, w0 = w.drewN q) (hlt : b < w.heap.size) (hb : Head w2 b v lr) (hN : w2.heap[w0.heap.size]? = some (.cells cells 5 (0, 0)))
    (hcs : cells.size = cap2) (htk : cells.toList.take l = olds) (hc : l + n ≤ cap2) (hm : cap2 ≤ maxLen) (hbel : Below w0.heap.size w0 w2) :
    Grew w b l n olds lr (((w2.setCell ⟨b, 0, none⟩ v1).setCell ⟨b, 1, none⟩ (.int .i64 0)).setCell ⟨b, 0, none⟩ (.slice (some ⟨w0.heap.size, 0, none⟩) (l + n) cap2)) := by
  obtain ⟨q, rfl⟩ := hq
  refine ⟨w.heap.size, cap2, cells, Nat.le_refl _, ((hb.set v1).set1).set _, ?_, hcs, htk, hc, hm, ?_⟩
  · rw [Below.heap_setCell _ _ _ _ (by show w.heap.size ≠ b; omega), Below.heap_setCell _ _ _ _ (by show w.heap.size ≠ b; omega), Below.heap_setCell _ _ _ _ (by show w.heap.size ≠ b; omega)]
    exact hN
  · exact grown_set (grown_set (grown_set (grown_below rfl hbel) 0 _) 1 _) 0 _

set_option maxHeartbeats 4000000 in
set_option maxRecDepth 100000 in
theorem grow_big (hGN : GrowNil) (b n : Nat) (lr : Int) (w : World) (h : Head w b (.slice none 0 0) lr) (hn : 64 < n) (hn2 : n ≤ 140737488355328) :
    Calls Tryd.prog 61 #[.pointer (some ⟨b, 0, none⟩), .int .i64 n] w fun e w' => e = .returned (.int .i64 0) ∧ Grew w b 0 n [] lr w' := by
  have he := eql_nil
  have i1 : ¬ (n : Int) ≤ 64 := by omega
  have i2 : (n : Int) ≤ 140737488355328 := by omega
  have hlt := h.lt
  have hwn : IntKind.i64.wrap (n : Int) = n := by rw [IntKind.wrap_i64]; omega
  go_enter Tryd.func61, Tryd.ntmps61
  go_wp2_with fail
  refine (len_any b none 0 0 lr w h (Nat.zero_le _)).mono ?_
  rintro e w0 ⟨rfl, hq⟩
  have hbk : Head w0 b (.slice none 0 0) lr := by obtain ⟨q, rfl⟩ := hq; exact h
  have hsz : w0.heap.size = w.heap.size := by obtain ⟨q, rfl⟩ := hq; rfl
  have HQ : Hid (∃ q, w0 = w.drewN q) := hq
  have hlt0 : b < w0.heap.size := hbk.lt
  have HZ : Hid (w0.heap.size = w.heap.size) := hsz
  clear hq hsz
  obtain ⟨c0, c1, c2, hf⟩ := hbk.cells
  have f0 := hf 0
  have f1 := hf 1
  clear hf
  go_wp2_with fail
  refine (tryGrow_none b none 0 0 n lr _ hbk (Nat.le_refl _) (by omega) (by omega) (Nat.zero_le _)).mono ?_
  rintro e w' ⟨rfl, rfl⟩
  go_wp2_with fail
  go_region_with (
    go_at_call 63
    refine (hGN n _ (by omega) hn2).mono ?_
    rintro e w2 ⟨cap2, cells, rfl, hN, hcsz, hcap2, hcm2, hbel⟩
    have hbk2 : Head w2 b (.slice none 0 0) lr := (hbel.block b hlt0).trans hbk
    obtain ⟨d0, d1, d2, hff⟩ := hbk2.cells
    have e0 := hff 0
    have e1 := hff 1
    clear hff)
  all_goals
    go_wp2
    go_ret
    exact ⟨rfl, by have := grew_end (l := 0) (n := n) (v1 := .slice (some ⟨w0.heap.size, 0, none⟩) 0 cap2) HQ.out hlt hbk2 hN hcsz rfl (by omega) hcm2 ⟨hbel.os, hbel.tape, hbel.output, hbel.size, hbel.block⟩; rw [Nat.zero_add] at this; exact this⟩

set_option maxHeartbeats 8000000 in
set_option maxRecDepth 100000 in
theorem grow_row (hGR : GrowRow) (b g l cap n : Nat) (lr : Int) (cur : Array Value) (w : World) (h : Head w b (.slice (some ⟨g, 0, none⟩) l cap) lr) (hg : w.heap[g]? = some (.cells cur 5 (0, 0)))
    (hl : 1 ≤ l) (hlc : l ≤ cap) (hcs : cur.size = cap) (h1 : ∀ v ∈ cur.toList.take l, v.oneCell' = true) (hn : 1 ≤ n) (hroom : cap < l + n) (hlim : l + n ≤ 140737488355328) :
    Calls Tryd.prog 61 #[.pointer (some ⟨b, 0, none⟩), .int .i64 n] w fun e w' => e = .returned (.int .i64 l) ∧ Grew w b l n (cur.toList.take l) lr w' := by
  have he := eql_nil
  have hlt := h.lt
  have hwn : IntKind.i64.wrap (n : Int) = n := by rw [IntKind.wrap_i64]; omega
  have i1 : (n : Int) ≤ 140737488355328 := by omega
  have i2 : (l : Int) ≤ (cap : Int) := by omega
  have i3 : (cap : Int) < (l : Int) + (n : Int) := by omega
  have i4 : (1 : Int) ≤ (l : Int) := by omega
  have i5 : (cap : Int) ≤ 140737488355328 := by omega
  have i6 : ((l : Int) == 0) = false := by rw [beq_eq_false_iff_ne]; omega
  have hln : l ≤ maxLen := by unfold maxLen; omega
  have hcm : cap ≤ maxLen := by unfold maxLen; omega
  go_enter Tryd.func61, Tryd.ntmps61
  go_wp2_with fail
  refine (len_any b _ l cap lr w h hln).mono ?_
  rintro e w0 ⟨rfl, hq⟩
  have hbk : Head w0 b (.slice (some ⟨g, 0, none⟩) l cap) lr := by obtain ⟨q, rfl⟩ := hq; exact h
  have hg0 : w0.heap[g]? = some (.cells cur 5 (0, 0)) := by obtain ⟨q, rfl⟩ := hq; exact hg
  have HQ : Hid (∃ q, w0 = w.drewN q) := hq
  have hlt0 : b < w0.heap.size := hbk.lt
  clear hq
  obtain ⟨c0, c1, c2, hf⟩ := hbk.cells
  have f0 := hf 0
  have f1 := hf 1
  clear hf
  go_wp2_with fail
  refine (tryGrow_none b _ l cap n lr _ hbk hlc (by omega) (by omega) hcm).mono ?_
  rintro e w' ⟨rfl, rfl⟩
  go_wp2_with fail
  go_region_with (
    go_at_call 63
    refine (hGR g l cap n cur _ ?_ hcs hlc hn hlim (by omega) h1).mono ?_
    exact hg0
    rintro e w2 ⟨cap2, cells, rfl, hN, hcsz, htk, hcap2, hcm2, hbel⟩
    have hbk2 : Head w2 b (.slice (some ⟨g, 0, none⟩) l cap) lr := (hbel.block b hlt0).trans hbk
    obtain ⟨d0, d1, d2, hff⟩ := hbk2.cells
    have e0 := hff 0
    have e1 := hff 1
    clear hff)
  all_goals
    go_wp2
    go_ret
    exact ⟨rfl, grew_end (l := l) (n := n) (v1 := .slice (some ⟨w0.heap.size, 0, none⟩) l cap2) HQ.out hlt hbk2 hN hcsz htk hcap2 hcm2 ⟨hbel.os, hbel.tape, hbel.output, hbel.size, hbel.block⟩⟩

end Go.Proofs.Qxb6616880aDoor
