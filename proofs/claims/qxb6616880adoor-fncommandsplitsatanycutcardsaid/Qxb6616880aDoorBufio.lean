/- bufio.Writer over a bytes.Buffer: the state, Available (27), Buffered (28), Flush (17). -/
import Derived.Test.Qxb6616880aDoorWrite
import Derived.Deep.RegionWith
import Derived.BigRegion
namespace Go.Proofs.Qxb6616880aDoor
open Go.RowKit
set_option linter.unusedVariables false
set_option linter.unusedSimpArgs false

/-- The four cells of the bufio.Writer. -/
def wcells (bb br n : Nat) : Array Value := #[.nilIface, .slice (some ⟨br, 0, none⟩) 4096 4096, .int .i64 n, .iface 27 (.pointer (some ⟨bb, 0, none⟩))]

/-- The bufio.Writer in block bw, its row in br, over the bytes.Buffer in block bb, which holds 'out'; 'pend' waits in the row. -/
structure Wr (w : World) (bb br bw lo : Nat) (out pend : List Value) : Prop where
  buf : Buf w bb lo out
  hd : w.heap[bw]? = some (.cells (wcells bb br pend.length) 58 (0, 0))
  row : ∃ cur, w.heap[br]? = some (.cells cur 5 (0, 0)) ∧ cur.size = 4096 ∧ cur.toList.take pend.length = pend
  le : pend.length ≤ 4096
  bblo : bb < lo
  brlo : br < lo
  bwlo : bw < lo
  n1 : bb ≠ br
  n2 : bb ≠ bw
  n3 : br ≠ bw
  losz : lo ≤ w.heap.size
  one : ∀ v ∈ out ++ pend, v.oneCell' = true

/-- Below 'lo' nothing has turned but the three blocks. -/
structure Kw (bb br bw lo : Nat) (w w' : World) : Prop where
  os : w'.os = w.os
  tape : w'.tape = w.tape
  output : w'.output = w.output
  size : w.heap.size ≤ w'.heap.size
  block : ∀ k, k < lo → k ≠ bb → k ≠ br → k ≠ bw → w'.heap[k]? = w.heap[k]?

theorem Kw.refl (bb br bw lo : Nat) (w : World) : Kw bb br bw lo w w := ⟨rfl, rfl, rfl, Nat.le_refl _, fun _ _ _ _ _ => rfl⟩
theorem Kw.trans {bb br bw lo : Nat} {w w1 w2 : World} (h : Kw bb br bw lo w w1) (k : Kw bb br bw lo w1 w2) : Kw bb br bw lo w w2 :=
  ⟨k.os.trans h.os, k.tape.trans h.tape, k.output.trans h.output, Nat.le_trans h.size k.size, fun i hi a b c => (k.block i hi a b c).trans (h.block i hi a b c)⟩
theorem Kw.kb {bb br bw lo : Nat} {w w1 w2 : World} (h : Kw bb br bw lo w w1) (k : Kb bb lo w1 w2) : Kw bb br bw lo w w2 :=
  h.trans ⟨k.os, k.tape, k.output, k.size, fun i hi a _ _ => k.block i hi a⟩
theorem Kw.set {bb br bw lo : Nat} {w w1 : World} (h : Kw bb br bw lo w w1) (o : Nat) (v : Value) : Kw bb br bw lo w (w1.setCell ⟨bw, o, none⟩ v) :=
  h.trans ⟨rfl, rfl, rfl, by simp [World.setCell], fun k _ _ _ hb => Below.heap_setCell _ _ _ _ hb⟩
theorem Kw.setRow {bb br bw lo : Nat} {w w1 : World} (h : Kw bb br bw lo w w1) (cs : Array Value) : Kw bb br bw lo w (w1.setRow br cs) :=
  h.trans ⟨rfl, rfl, rfl, by simp, fun k _ _ hb _ => setRow_other w1 br k cs hb⟩
theorem Kw.drewN {bb br bw lo : Nat} {w w1 : World} (h : Kw bb br bw lo w w1) (q : Nat) : Kw bb br bw lo w (w1.drewN q) := ⟨h.os, h.tape, h.output, h.size, h.block⟩

theorem Wr.cells {w : World} {bb br bw lo : Nat} {out pend : List Value} (h : Wr w bb br bw lo out pend) :
    w.cell? ⟨bw, 0, none⟩ = some .nilIface ∧ w.cell? ⟨bw, 1, none⟩ = some (.slice (some ⟨br, 0, none⟩) 4096 4096) ∧ w.cell? ⟨bw, 2, none⟩ = some (.int .i64 pend.length) ∧
    w.cell? ⟨bw, 3, none⟩ = some (.iface 27 (.pointer (some ⟨bb, 0, none⟩))) ∧ ∀ i, w.frozen? ⟨bw, i, none⟩ = false := by
  have := h.hd
  refine ⟨by simp [World.cell?, this, wcells], by simp [World.cell?, this, wcells], by simp [World.cell?, this, wcells], by simp [World.cell?, this, wcells], fun i => by simp [World.frozen?, this]⟩

theorem Wr.drewN {w : World} {bb br bw lo : Nat} {out pend : List Value} (h : Wr w bb br bw lo out pend) (q : Nat) : Wr (w.drewN q) bb br bw lo out pend :=
  ⟨h.buf, h.hd, h.row, h.le, h.bblo, h.brlo, h.bwlo, h.n1, h.n2, h.n3, h.losz, h.one⟩

theorem nil_ahead_write (a : Addr) (w : World) : (nilAhead 213 27 (.pointer (some a)) "Write").run Tryd.prog w = .ok (some false) w := by kernel_rfl
theorem method_write (a : Addr) (w : World) : (method 213 27 (.pointer (some a)) "Write").run Tryd.prog w = .ok (58, .pointer (some a)) w := by kernel_rfl

set_option maxHeartbeats 400000 in
theorem avail_any (bw br n : Nat) (w : World) (c1 : w.cell? ⟨bw, 1, none⟩ = some (.slice (some ⟨br, 0, none⟩) 4096 4096)) (c2 : w.cell? ⟨bw, 2, none⟩ = some (.int .i64 n)) (hn : n ≤ 4096) :
    Calls Tryd.prog 27 #[.pointer (some ⟨bw, 0, none⟩)] w fun e w' => e = .returned (.int .i64 ((4096 - n : Nat) : Int)) ∧ ∃ q, w' = w.drewN q := by
  have e : ((4096 - n : Nat) : Int) = 4096 - (n : Int) := by omega
  rw [e]
  clear e
  have i1 : (n : Int) ≤ 4096 := by omega
  go_enter Tryd.func27, Tryd.ntmps27
  go_wp2
  go_quiet (fail)
  go_wp2
  go_ret
  exact ⟨rfl, _, rfl⟩

set_option maxHeartbeats 400000 in
theorem buffered_any (bw n : Nat) (w : World) (c2 : w.cell? ⟨bw, 2, none⟩ = some (.int .i64 n)) :
    Calls Tryd.prog 28 #[.pointer (some ⟨bw, 0, none⟩)] w fun e w' => e = .returned (.int .i64 n) ∧ w = w' := by
  go_enter Tryd.func28, Tryd.ntmps28
  go_wp2
  go_ret
  exact ⟨rfl, rfl⟩

/-- What a Flush leaves. -/
theorem flush_end {w w1 : World} {bb br bw lo : Nat} {out pend : List Value} (h : Wr w bb br bw lo out pend) (hb : Buf w1 bb lo (out ++ pend)) (hk : Kb bb lo w w1) :
    Wr (w1.setCell ⟨bw, 2, none⟩ (.int .i64 0)) bb br bw lo (out ++ pend) [] ∧ Kw bb br bw lo w (w1.setCell ⟨bw, 2, none⟩ (.int .i64 0)) := by
  obtain ⟨cur, hr, hs, _⟩ := h.row
  have n2 := h.n2
  have n3 := h.n3
  have hd1 : w1.heap[bw]? = _ := (hk.block bw h.bwlo (fun e => n2 e.symm)).trans h.hd
  have hr1 : w1.heap[br]? = _ := (hk.block br h.brlo (fun e => h.n1 e.symm)).trans hr
  refine ⟨⟨?_, ?_, ⟨cur, ?_, hs, rfl⟩, Nat.zero_le _, h.bblo, h.brlo, h.bwlo, h.n1, h.n2, h.n3, ?_, by rw [List.append_nil]; exact h.one⟩, ((Kw.refl bb br bw lo w).kb hk).set 2 _⟩
  · obtain ⟨v, lr, h1, h2⟩ := hb
    refine ⟨v, lr, (Below.heap_setCell _ _ _ _ n2).trans h1, ?_⟩
    rcases h2 with h2 | ⟨g, cap, c, a1, a2, a3, a4, a5⟩
    · exact .inl h2
    · exact .inr ⟨g, cap, c, a1, a2, a3, (Below.heap_setCell _ _ _ _ (by have := h.bwlo; show g ≠ bw; omega)).trans a4, a5⟩
  · simp [World.setCell, Array.getElem?_modify, hd1, wcells]
  · exact (Below.heap_setCell _ _ _ _ n3).trans hr1
  · have := h.losz; have := hk.size; simp [World.setCell]; omega

/-- What the Write of a Flush leaves. -/
structure Flushed (bb br bw lo : Nat) (out pend : List Value) (w w1 : World) : Prop where
  fin : Wr (w1.setCell ⟨bw, 2, none⟩ (.int .i64 0)) bb br bw lo (out ++ pend) [] ∧ Kw bb br bw lo w (w1.setCell ⟨bw, 2, none⟩ (.int .i64 0))
  d0 : w1.cell? ⟨bw, 0, none⟩ = some .nilIface
  d2 : w1.cell? ⟨bw, 2, none⟩ = some (.int .i64 pend.length)
  e2 : w1.frozen? ⟨bw, 2, none⟩ = false

theorem Wr.src {w : World} {bb br bw lo : Nat} {out pend : List Value} (h : Wr w bb br bw lo out pend) : ∀ j v, pend[j]? = some v → w.cell? ((⟨br, 0, none⟩ : Addr).add j) = some v := by
  obtain ⟨cur, hr, hs, ht⟩ := h.row
  intro j v hj
  have hjl : j < pend.length := (List.getElem?_eq_some_iff.1 hj).1
  rw [Addr.add_lit, Nat.zero_add]
  simp only [World.cell?, hr]
  rw [← ht, List.getElem?_take_of_lt hjl] at hj
  simpa using hj

theorem flush_write (hGN : GrowNil) (hGR : GrowRow) (bb br bw lo : Nat) (out pend : List Value) (n : Nat) (hn : pend.length = n) (w : World) (h : Wr w bb br bw lo out pend) (h0 : n ≠ 0) (hlim : out.length + n ≤ 140737488355328) :
    Calls Tryd.prog 58 #[.pointer (some ⟨bb, 0, none⟩), .slice (some ⟨br, 0, none⟩) n 4096] w fun e w' => e = .returned (.tuple #[.int .i64 n, .nilIface]) ∧ Flushed bb br bw lo out pend w w' := by
  refine (write_any hGN hGR bb lo out pend ⟨br, 0, none⟩ n 4096 w h.buf h.losz h.bblo (fun v hv => h.one v (List.mem_append_left _ hv)) hn (by omega) h.brlo (fun e => h.n1 e.symm) h.src (fun v hv => h.one v (List.mem_append_right _ hv)) hlim).mono ?_
  rintro e w1 ⟨rfl, hb1, hk1⟩
  obtain ⟨c0, c1, c2, c3, hf⟩ := h.cells
  have hbl : w1.heap[bw]? = w.heap[bw]? := hk1.block bw h.bwlo (fun e => h.n2 e.symm)
  refine ⟨rfl, flush_end h hb1 hk1, (World.cell?_of_block (w := w) hbl).trans c0, (World.cell?_of_block (w := w) hbl).trans c2, ?_⟩
  have := hf 2
  simp only [World.frozen?, hbl] at this ⊢
  exact this

set_option maxHeartbeats 4000000 in
set_option maxRecDepth 100000 in
theorem flush_any (hGN : GrowNil) (hGR : GrowRow) (bb br bw lo : Nat) (out pend : List Value) (w : World) (h : Wr w bb br bw lo out pend) (hlim : out.length + pend.length ≤ 140737488355328) :
    Calls Tryd.prog 17 #[.pointer (some ⟨bw, 0, none⟩)] w fun e w' => e = .returned .nilIface ∧ Wr w' bb br bw lo (out ++ pend) [] ∧ Kw bb br bw lo w w' := by
  obtain ⟨c0, c1, c2, c3, hf⟩ := h.cells
  have f2 := hf 2
  clear hf
  by_cases h0 : pend.length = 0
  · have hp : pend = [] := List.eq_nil_of_length_eq_zero h0
    subst hp
    have HH : Hid _ := h
    clear h
    go_enter Tryd.func17, Tryd.ntmps17
    go_wp2
    go_ret
    exact ⟨rfl, by rw [List.append_nil]; exact HH.out, Kw.refl _ _ _ _ _⟩
  · have hna := nil_ahead_write
    have hme := method_write
    obtain ⟨n, hn⟩ : ∃ n, n = pend.length := ⟨_, rfl⟩
    have hle := h.le
    have hlen := h.losz
    rw [← hn] at c2 h0 hle
    have i1 : (n : Int) ≤ 4096 := by omega
    have i2 : ((n : Int) == 0) = false := by rw [beq_eq_false_iff_ne]; omega
    have HN : Hid (n = pend.length) := hn
    have hl2 : out.length + n ≤ 140737488355328 := by omega
    clear hn hlim
    have HH : Hid _ := h
    clear h
    go_enter Tryd.func17, Tryd.ntmps17
    go_wp2
    go_region_with (
      go_at_call 58
      refine (flush_write hGN hGR bb br bw lo out pend n HN.out.symm _ (HH.out.drewN 1) h0 hl2).mono ?_
      rintro e w1 ⟨rfl, ⟨E1, E2⟩, d0, d2, e2⟩
      have EE : Hid _ := And.intro E1 E2
      rw [← HN.out] at d2
      clear E1 E2)
    all_goals
      go_wp2
      go_ret
      exact ⟨rfl, EE.out.1, EE.out.2.os, EE.out.2.tape, EE.out.2.output, EE.out.2.size, EE.out.2.block⟩

end Go.Proofs.Qxb6616880aDoor
