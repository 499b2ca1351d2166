/- The contracts of the room's functions: newRoom (7), take (21), debts (19), ZZdebts (8). -/
import Derived.Test.Qxb6616863aProg
import Derived.WalkKit
import Derived.WalkSpells
import Derived.WalkLawsBesides
import Derived.ArgAppend
import Derived.Deep.QuietTactic
import Derived.BigQuiet
namespace Go.Proofs.Qxb6616863a
open Go.RowKit

theorem Try.info32 : (Try.prog.info? 32).map (fun i => (i.zero, i.size, i.bytes)) = some (some (.agg #[.string ⟨#[]⟩, .int .u64 0, .pointer none, .int .i64 0]), 4, 40) := by kernel_rfl

def zc : Array Value := #[.string ⟨#[]⟩, .int .u64 0, .pointer none, .int .i64 0]
def row (n : Nat) : Obj := .cells (madeCells zc (n * 4)) 32

theorem make_debts (n : Nat) (hn : n ≤ 65536) (w : World) :
    (Instr.makeSlice 24 (.int .i64 0) (.int .i64 (n : Int))).run Try.prog w = .ok (.slice (some ⟨w.heap.size, 0, none⟩) 0 n) (w.alloc (row n)) := by
  obtain ⟨i, hi, hz0, hz1, hz2⟩ := info_parts Try.info32
  have h := run_make (P := Try.prog) w 24 32 i _ Try.underlying24 hi hz0 .i64 .i64 0 n (by omega) (by omega) (by rw [hz2]; omega) (by omega)
  rw [h, hz1]
  rfl

set_option maxHeartbeats 400000 in
theorem debts_nil (n : Nat) (hn : n ≤ 65536) (w : World) :
    Calls Try.prog 8 #[.pointer none, .int .i64 n] w fun e w' => e = .returned (.slice (some ⟨w.heap.size, 0, none⟩) 0 n) ∧ w' = w.alloc (row n) := by
  have hm := make_debts n hn
  go_enter Try.func8, Try.ntmps8
  go_wp2
  go_ret
  exact ⟨rfl, rfl⟩

set_option maxHeartbeats 400000 in
theorem room_any (w : World) :
    Calls Try.prog 7 #[] w fun e w' => e = .returned (.pointer (some ⟨w.heap.size, 0, none⟩)) ∧ w' = w.alloc (.cells #[.slice none 0 0, .slice none 0 0, .slice none 0 0] 54) := by
  go_enter Try.func7, Try.ntmps7
  go_wp2
  go_ret
  exact ⟨rfl, rfl⟩

set_option maxHeartbeats 400000 in
theorem take_zero (b off len cap : Nat) (ao : Option Addr) (w : World) (hc : w.cell? ⟨b, off, none⟩ = some (.slice ao len cap)) (hf : w.frozen? ⟨b, off, none⟩ = false)
    (hfit : len ≤ cap) (hcap : cap ≤ 65536) :
    Calls Try.prog 21 #[.pointer (some ⟨b, off, none⟩), .int .i64 0] w fun e w' => e = .returned (.slice ao 0 0) ∧ ∃ nq, w' = (w.drewN nq).setCell ⟨b, off, none⟩ (.slice ao len cap) := by
  have h1 : (len : Int) ≤ (cap : Int) := by omega
  have h2 : (cap : Int) ≤ 65536 := by omega
  have h3 : decide ((cap : Int) < (len : Int)) = false := by simp; omega
  go_enter Try.func21, Try.ntmps21
  go_wp2
  go_quiet (fail)
  go_wp2
  go_ret
  exact ⟨rfl, _, rfl⟩

set_option maxHeartbeats 400000 in
theorem take_fits (b off len n cap : Nat) (ao : Option Addr) (w : World) (hc : w.cell? ⟨b, off, none⟩ = some (.slice ao len cap)) (hf : w.frozen? ⟨b, off, none⟩ = false)
    (hn : 0 < n) (hfit : len + n ≤ cap) (hcap : cap ≤ 65536) :
    Calls Try.prog 21 #[.pointer (some ⟨b, off, none⟩), .int .i64 n] w fun e w' => e = .returned (.slice (ao.map (fun x => x.add (len * 4))) 0 n) ∧ ∃ nq, w' = (w.drewN nq).setCell ⟨b, off, none⟩ (.slice ao (len + n) cap) := by
  have h1 : ((len : Int) + (n : Int)) ≤ (cap : Int) := by omega
  have h2 : (cap : Int) ≤ 65536 := by omega
  have h3 : decide ((cap : Int) < (len : Int) + (n : Int)) = false := by simp; omega
  have h4 : ¬ len + n = len := by omega
  have h5 : ¬ n = 0 := by omega
  go_enter Try.func21, Try.ntmps21
  go_wp2
  go_quiet (fail)
  go_wp2
  go_ret
  exact ⟨congrArg (fun k => Ending.returned (.slice _ 0 k)) (Nat.add_sub_cancel_left ..), _, rfl⟩

theorem make_block (w : World) :
    (Instr.makeSlice 24 (.int .i64 0) (.int .i64 4096)).run Try.prog w = .ok (.slice (some ⟨w.heap.size, 0, none⟩) 0 4096) (w.alloc (row 4096)) :=
  make_debts 4096 (by omega) w

theorem cell_row (w : World) (nq m b off : Nat) (hb : b < w.heap.size) : ((w.drewN nq).alloc (row m)).cell? ⟨b, off, none⟩ = w.cell? ⟨b, off, none⟩ := by
  rw [World.cell?_alloc_past _ _ _ (by simpa using hb)]
  rfl

theorem frozen_row (w : World) (nq m b off : Nat) (_hb : b < w.heap.size) : ((w.drewN nq).alloc (row m)).frozen? ⟨b, off, none⟩ = w.frozen? ⟨b, off, none⟩ := by
  rw [row, frozen?_alloc_cells]
  rfl

set_option maxHeartbeats 400000 in
theorem take_block (b off len n cap : Nat) (ao : Option Addr) (w : World) (hc : w.cell? ⟨b, off, none⟩ = some (.slice ao len cap)) (hf : w.frozen? ⟨b, off, none⟩ = false)
    (hn : 0 < n) (hn2 : n < 4096) (hfit : cap < len + n) (hlen : len ≤ 65536) (hb : b < w.heap.size) :
    Calls Try.prog 21 #[.pointer (some ⟨b, off, none⟩), .int .i64 n] w fun e w' => e = .returned (.slice (some ⟨w.heap.size, 0, none⟩) 0 n) ∧
      ∃ nq v0, w' = (((w.drewN nq).alloc (row 4096)).setCell ⟨b, off, none⟩ v0).setCell ⟨b, off, none⟩ (.slice (some ⟨w.heap.size, 0, none⟩) n 4096) := by
  have h1 : (cap : Int) < ((len : Int) + (n : Int)) := by omega
  have h2 : (len : Int) ≤ 65536 := by omega
  have h5 : ¬ n = 0 := by omega
  have h6 : (n : Int) < 4096 := by omega
  have hm := make_block
  have hc2 := fun nq => (cell_row w nq 4096 b off hb).trans hc
  have hf2 := fun nq => (frozen_row w nq 4096 b off hb).trans hf
  go_enter Try.func21, Try.ntmps21
  go_wp2
  go_quiet (fail)
  go_wp2
  go_ret
  exact ⟨rfl, _, _, rfl⟩

set_option maxHeartbeats 400000 in
theorem take_big (b off len n cap : Nat) (ao : Option Addr) (w : World) (hc : w.cell? ⟨b, off, none⟩ = some (.slice ao len cap)) (hf : w.frozen? ⟨b, off, none⟩ = false)
    (hn : 4096 ≤ n) (hn2 : n ≤ 65536) (hfit : cap < len + n) (hlen : len ≤ 65536) (hb : b < w.heap.size) :
    Calls Try.prog 21 #[.pointer (some ⟨b, off, none⟩), .int .i64 n] w fun e w' => e = .returned (.slice (some ⟨w.heap.size, 0, none⟩) 0 n) ∧
      ∃ nq v0, w' = (((w.drewN nq).alloc (row n)).setCell ⟨b, off, none⟩ v0).setCell ⟨b, off, none⟩ (.slice (some ⟨w.heap.size, 0, none⟩) n n) := by
  have h1 : (cap : Int) < ((len : Int) + (n : Int)) := by omega
  have h2 : (len : Int) ≤ 65536 := by omega
  have h5 : ¬ n = 0 := by omega
  have h6 : ¬ (n : Int) < 4096 := by omega
  have hm := make_debts n hn2
  have hc2 := fun nq => (cell_row w nq n b off hb).trans hc
  have hf2 := fun nq => (frozen_row w nq n b off hb).trans hf
  go_enter Try.func21, Try.ntmps21
  go_wp2
  go_quiet (fail)
  go_wp2
  go_ret
  exact ⟨rfl, _, _, rfl⟩

theorem other_cell {w : World} {a b : Addr} {v : Value} (h : a ≠ b) : (w.setCell a v).cell? b = w.cell? b := World.cell?_setCell_other (h := h) ..

theorem lt_of_some {w : World} {a : Addr} (h : (w.cell? a).isSome = true) : a.block < w.heap.size := by
  cases hh : w.heap[a.block]? with
  | none => simp [World.cell?, hh] at h
  | some o => exact (Array.getElem?_eq_some_iff.1 hh).1

/-- Of what was there nothing has turned but block b. -/
structure Kept (b : Nat) (w w' : World) : Prop where
  cell : ∀ a : Addr, a.block ≠ b → (w.cell? a).isSome = true → w'.cell? a = w.cell? a
  grown : ∀ W, Grown W w → W.heap.size ≤ b → Grown W w'
  size : w.heap.size ≤ w'.heap.size

theorem Kept.refl (b : Nat) (w : World) : Kept b w w := ⟨fun _ _ _ => rfl, fun _ h _ => h, Nat.le_refl _⟩
theorem Kept.setCell {b : Nat} {w w' : World} (h : Kept b w w') (o : Nat) (v : Value) : Kept b w (w'.setCell ⟨b, o, none⟩ v) :=
  ⟨fun a ha hs => (other_cell (fun e => ha (by rw [← e]))).trans (h.cell a ha hs), fun W hW hb => (h.grown W hW hb).setCell hb v, by simpa [World.setCell] using h.size⟩
theorem Kept.drewN {b : Nat} {w w' : World} (h : Kept b w w') (n : Nat) : Kept b w (w'.drewN n) :=
  ⟨fun a ha hs => h.cell a ha hs, fun W hW hb => h.grown W hW hb, h.size⟩
theorem Kept.row {b : Nat} {w w' : World} (h : Kept b w w') (n : Nat) : Kept b w (w'.alloc (row n)) :=
  ⟨fun a ha hs => (World.cell?_alloc_lt w' _ a (by have := lt_of_some hs; have := h.size; omega)).trans (h.cell a ha hs), fun W hW hb => (h.grown W hW hb).alloc _ _, by have := h.size; simp; omega⟩

/-- The room at block b: its list of debts is the slice (ao, len, cap), over memory of the call's own. -/
structure Room (w : World) (b : Nat) (ao : Option Addr) (len cap : Nat) : Prop where
  cell : w.cell? ⟨b, 1, none⟩ = some (.slice ao len cap)
  free : w.frozen? ⟨b, 1, none⟩ = false
  fits : len ≤ cap
  small : cap ≤ 65536
  own : 0 < cap → ∃ g, ao = some ⟨g, 0, none⟩ ∧ b < g ∧ ∀ i, i < 4 * cap → (w.cell? ⟨g, i, none⟩).isSome = true

/-- A slice's room for n debts: n runs of four cells above block b. -/
def Cells (w : World) (b : Nat) (ro : Option Addr) (n : Nat) : Prop :=
  0 < n → ∃ g o, ro = some ⟨g, o, none⟩ ∧ b < g ∧ ∀ i, i < 4 * n → (w.cell? ⟨g, o + i, none⟩).isSome = true

/-- Where a slice that was taken at size 's' of the heap, with the room at (ao, len), lies. -/
def Lies (s : Nat) (ao : Option Addr) (len : Nat) (ro : Option Addr) (n : Nat) : Prop :=
  0 < n → ∃ g o, ro = some ⟨g, o, none⟩ ∧ (g = s ∨ (ao = some ⟨g, 0, none⟩ ∧ o = 4 * len))

/-- The room's mark lies past the slice. -/
def Past (ao : Option Addr) (len : Nat) (ro : Option Addr) (n : Nat) : Prop :=
  0 < n → ∃ g o, ro = some ⟨g, o, none⟩ ∧ ao = some ⟨g, 0, none⟩ ∧ o + 4 * n ≤ 4 * len

/-- What a take leaves. -/
def Took (w : World) (b : Nat) (ao : Option Addr) (len n : Nat) (ro : Option Addr) (w' : World) : Prop :=
  Kept b w w' ∧ Cells w' b ro n ∧ Lies w.heap.size ao len ro n ∧ ∃ ao' len' cap', Room w' b ao' len' cap' ∧ Past ao' len' ro n

theorem cell_new_row (w : World) (nq m i b : Nat) (v0 v : Value) (hb : b < w.heap.size) (hi : i < 4 * m) :
    (((((w.drewN nq).alloc (row m)).setCell ⟨b, 1, none⟩ v0).setCell ⟨b, 1, none⟩ v).cell? ⟨w.heap.size, i, none⟩).isSome = true := by
  have hne : ∀ o, (⟨b, 1, none⟩ : Addr) ≠ ⟨w.heap.size, o, none⟩ := fun o e => by simp at e
  rw [other_cell (hne _), other_cell (hne _), row]
  refine (congrArg Option.isSome (World.cell?_alloc_new (w.drewN nq) (madeCells zc (m * 4)) 32 i)).trans ?_
  rw [Array.getElem?_eq_getElem (by rw [size_madeCells]; omega)]
  rfl

theorem took_grows (w : World) (b len n cap m nq : Nat) (ao : Option Addr) (v0 : Value) (h : Room w b ao len cap) (hnm : n ≤ m) (hm : m ≤ 65536) :
    Took w b ao len n (some ⟨w.heap.size, 0, none⟩) ((((w.drewN nq).alloc (row m)).setCell ⟨b, 1, none⟩ v0).setCell ⟨b, 1, none⟩ (.slice (some ⟨w.heap.size, 0, none⟩) n m)) := by
  have hb : b < w.heap.size := lt_of_some (a := ⟨b, 1, none⟩) (by rw [h.cell]; rfl)
  refine ⟨(((Kept.refl b w).drewN nq).row m).setCell 1 v0 |>.setCell 1 _, fun _ => ⟨_, _, rfl, hb, fun i hi => ?_⟩, fun _ => ⟨_, _, rfl, .inl rfl⟩, _, n, m, ⟨?_, ?_, hnm, hm, fun _ => ⟨_, rfl, hb, fun i hi => cell_new_row w nq m i b v0 _ hb hi⟩⟩, fun _ => ⟨_, _, rfl, rfl, by omega⟩⟩
  · rw [Nat.zero_add]; exact cell_new_row w nq m i b v0 _ hb (by omega)
  · refine World.cell?_setCell_same' _ _ _ ?_
    rw [World.cell?_setCell_same' _ _ _ (by rw [cell_row w nq m b 1 hb, h.cell]; rfl)]
    rfl
  · rw [World.frozen?_setCell, World.frozen?_setCell, frozen_row w nq m b 1 hb, h.free]

theorem Room.set {w : World} {b len cap nq : Nat} {ao : Option Addr} (h : Room w b ao len cap) (len' : Nat) (h' : len' ≤ cap) : Room ((w.drewN nq).setCell ⟨b, 1, none⟩ (.slice ao len' cap)) b ao len' cap :=
  ⟨World.cell?_setCell_same' _ _ _ (by show (w.cell? _).isSome = true; rw [h.cell]; rfl), by rw [World.frozen?_setCell]; exact h.free, h', h.small, fun hc => by
    obtain ⟨g, hg, hb, hs⟩ := h.own hc
    refine ⟨g, hg, hb, fun i hi => ?_⟩
    rw [other_cell (fun e => by simp at e)]
    exact hs i hi⟩

theorem took_zero (w : World) (b len cap nq : Nat) (ao : Option Addr) (h : Room w b ao len cap) :
    ∃ ro, Ending.returned (.slice ao 0 0) = .returned (.slice ro 0 0) ∧ Took w b ao len 0 ro ((w.drewN nq).setCell ⟨b, 1, none⟩ (.slice ao len cap)) :=
  ⟨ao, rfl, ((Kept.refl b w).drewN nq).setCell 1 _, fun h => absurd h (by omega), fun h => absurd h (by omega), ao, len, cap, h.set len h.fits, fun h => absurd h (by omega)⟩

theorem took_fits (w : World) (b len n cap nq : Nat) (ao : Option Addr) (h : Room w b ao len cap) (h1 : len + n ≤ cap) (hn : 0 < n) :
    ∃ ro, Ending.returned (.slice (ao.map (fun x => x.add (len * 4))) 0 n) = .returned (.slice ro 0 n) ∧ Took w b ao len n ro ((w.drewN nq).setCell ⟨b, 1, none⟩ (.slice ao (len + n) cap)) := by
  obtain ⟨g, rfl, hb, hs⟩ := h.own (by omega)
  have e : (Option.map (fun x : Addr => x.add (len * 4)) (some ⟨g, 0, none⟩)) = some ⟨g, 4 * len, none⟩ := by
    simp [Addr.add_lit, Nat.mul_comm]
  rw [e]
  have hR := h.set (nq := nq) (len + n) h1
  obtain ⟨g', hg', _, hs'⟩ := hR.own (by omega)
  simp at hg'
  subst hg'
  refine ⟨_, rfl, ((Kept.refl b w).drewN nq).setCell 1 _, fun _ => ⟨g, 4 * len, rfl, hb, fun i hi => ?_⟩, fun _ => ⟨g, 4 * len, rfl, .inr ⟨rfl, rfl⟩⟩, _, len + n, cap, hR, fun _ => ⟨g, 4 * len, rfl, rfl, by omega⟩⟩
  exact hs' _ (by omega)

set_option maxHeartbeats 400000 in
theorem debts_room (b len n cap : Nat) (ao : Option Addr) (w : World) (h : Room w b ao len cap) (hn : n ≤ 65536) :
    Calls Try.prog 8 #[.pointer (some ⟨b, 0, none⟩), .int .i64 n] w fun e w' => ∃ ro, e = .returned (.slice ro 0 n) ∧ Took w b ao len n ro w' := by
  have H := h
  obtain ⟨hc, hf, hfit, hcap, hown⟩ := h
  have hb : b < w.heap.size := lt_of_some (a := ⟨b, 1, none⟩) (by rw [hc]; rfl)
  by_cases h0 : n = 0
  · subst h0
    clear hown
    go_enter Try.func8, Try.ntmps8
    go_wp2_with (first | (go_at_call 21; refine (take_zero b 1 len cap ao w hc hf hfit hcap).mono ?_; rintro e w' ⟨rfl, nq, rfl⟩) | go_in)
    go_ret
    exact took_zero w b len cap nq ao H
  · by_cases h1 : len + n ≤ cap
    · clear hown
      go_enter Try.func8, Try.ntmps8
      go_wp2_with (first | (go_at_call 21; refine (take_fits b 1 len n cap ao w hc hf (by omega) h1 hcap).mono ?_; rintro e w' ⟨rfl, nq, rfl⟩) | go_in)
      go_ret
      exact took_fits w b len n cap nq ao H h1 (by omega)
    · by_cases h2 : n < 4096
      · clear hown
        go_enter Try.func8, Try.ntmps8
        go_wp2_with (first | (go_at_call 21; refine (take_block b 1 len n cap ao w hc hf (by omega) h2 (by omega) (by omega) hb).mono ?_; rintro e w' ⟨rfl, nq, v0, rfl⟩) | go_in)
        go_ret
        exact ⟨_, rfl, took_grows w b len n cap 4096 nq ao v0 H (by omega) (by omega)⟩
      · clear hown
        go_enter Try.func8, Try.ntmps8
        go_wp2_with (first | (go_at_call 21; refine (take_big b 1 len n cap ao w hc hf (by omega) hn (by omega) (by omega) hb).mono ?_; rintro e w' ⟨rfl, nq, v0, rfl⟩) | go_in)
        go_ret
        exact ⟨_, rfl, took_grows w b len n cap n nq ao v0 H (by omega) hn⟩

end Go.Proofs.Qxb6616863a
