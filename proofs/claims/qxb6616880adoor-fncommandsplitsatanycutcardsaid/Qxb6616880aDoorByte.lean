/- bufio.Writer: WriteByte (21). -/
import Derived.Test.Qxb6616880aDoorBufio
namespace Go.Proofs.Qxb6616880aDoor
open Go.RowKit
set_option linter.unusedVariables false
set_option linter.unusedSimpArgs false

/-- The Writer has been handed 'all' so far. -/
def Wa (w : World) (bb br bw lo : Nat) (all : List Value) : Prop := ∃ out pend, out ++ pend = all ∧ Wr w bb br bw lo out pend

theorem Wa.cells0 {w : World} {bb br bw lo : Nat} {all : List Value} (h : Wa w bb br bw lo all) : bw < lo ∧ lo ≤ w.heap.size := by
  obtain ⟨_, _, _, h⟩ := h
  exact ⟨h.bwlo, h.losz⟩

/-- The buffer's part does not turn where another low block does. -/
theorem Buf.other {w w' : World} {bb lo : Nat} {out : List Value} (h : Buf w bb lo out) (hb : w'.heap[bb]? = w.heap[bb]?) (hlo : ∀ g, lo ≤ g → w'.heap[g]? = w.heap[g]?) : Buf w' bb lo out := by
  obtain ⟨v, lr, h1, h2⟩ := h
  refine ⟨v, lr, hb.trans h1, ?_⟩
  rcases h2 with h2 | ⟨g, cap, c, a1, a2, a3, a4, a5⟩
  · exact .inl h2
  · exact .inr ⟨g, cap, c, a1, a2, a3, (hlo g a3).trans a4, a5⟩

theorem byte_end {w : World} {bb br bw lo : Nat} {out pend : List Value} (h : Wr w bb br bw lo out pend) (hlt : pend.length < 4096) (c : Value) (hc : c.oneCell' = true) (m : Int) (hm : m = (pend.length : Int) + 1) :
    Wr ((w.setCell ⟨br, pend.length, none⟩ c).setCell ⟨bw, 2, none⟩ (.int .i64 m)) bb br bw lo out (pend ++ [c]) ∧ Kw bb br bw lo w ((w.setCell ⟨br, pend.length, none⟩ c).setCell ⟨bw, 2, none⟩ (.int .i64 m)) := by
  subst hm
  obtain ⟨cur, hr, hs, ht⟩ := h.row
  have n1 := h.n1
  have n2 := h.n2
  have n3 := h.n3
  have b1 := h.brlo
  have b2 := h.bwlo
  have hoth : ∀ k, k ≠ br → k ≠ bw → ((w.setCell ⟨br, pend.length, none⟩ c).setCell ⟨bw, 2, none⟩ (.int .i64 ((pend.length : Int) + 1))).heap[k]? = w.heap[k]? := fun k h1 h2 => by
    rw [Below.heap_setCell _ _ _ _ h2, Below.heap_setCell _ _ _ _ h1]
  refine ⟨⟨h.buf.other (hoth bb n1 n2) (fun g hg => hoth g (by omega) (by omega)), ?_, ⟨cur.setIfInBounds pend.length c, ?_, by simpa using hs, ?_⟩, by simp; omega, h.bblo, h.brlo, h.bwlo, h.n1, h.n2, h.n3, ?_, ?_⟩, ⟨rfl, rfl, rfl, by simp [World.setCell], fun k _ _ h1 h2 => hoth k h1 h2⟩⟩
  · have hd1 : (w.setCell ⟨br, pend.length, none⟩ c).heap[bw]? = _ := (Below.heap_setCell _ _ _ _ (fun e => n3 e.symm)).trans h.hd
    simp [World.setCell, Array.getElem?_modify] at hd1
    simp [World.setCell, Array.getElem?_modify, hd1, wcells]
  · rw [Below.heap_setCell _ _ _ _ n3]
    simp [World.setCell, Array.getElem?_modify, hr]
  · have hl4 : cur.toList.length = 4096 := by rw [Array.length_toList]; exact hs
    have hl : pend.length < cur.toList.length := by omega
    rw [List.length_append, List.length_singleton, Array.toList_setIfInBounds, List.take_succ_eq_append_getElem (by simpa using hl), List.getElem_set_self, List.take_set_of_le (Nat.le_refl _), ht]
  · have := h.losz; simp [World.setCell]; omega
  · intro v hv
    rw [← List.append_assoc] at hv
    rcases List.mem_append.1 hv with hv | hv
    · exact h.one v hv
    · rw [List.mem_singleton.1 hv]; exact hc

theorem Wr.spot {w : World} {bb br bw lo : Nat} {out pend : List Value} (h : Wr w bb br bw lo out pend) (hlt : pend.length < 4096) : (∃ x, w.cell? ⟨br, pend.length, none⟩ = some x) ∧ w.frozen? ⟨br, pend.length, none⟩ = false := by
  obtain ⟨cur, hr, hs, ht⟩ := h.row
  have hl : pend.length < cur.size := by rw [hs]; exact hlt
  exact ⟨⟨cur[pend.length], by simp [World.cell?, hr, hl]⟩, by simp [World.frozen?, hr]⟩

theorem wa_byte {w w1 : World} {bb br bw lo : Nat} {out pend : List Value} (hk : Kw bb br bw lo w w1) (h : Wr w1 bb br bw lo out pend) {n : Nat} (hn : n = pend.length) (hlt : n < 4096) (c : Int) (m : Int) (hm : m = (n : Int) + 1) :
    Wa ((w1.setCell ⟨br, n, none⟩ (.int .u8 c)).setCell ⟨bw, 2, none⟩ (.int .i64 m)) bb br bw lo (out ++ pend ++ [.int .u8 c]) ∧ Kw bb br bw lo w ((w1.setCell ⟨br, n, none⟩ (.int .u8 c)).setCell ⟨bw, 2, none⟩ (.int .i64 m)) := by
  subst hn
  obtain ⟨e1, e2⟩ := byte_end h hlt (.int .u8 c) rfl m hm
  exact ⟨⟨out, pend ++ [.int .u8 c], by rw [List.append_assoc], e1⟩, hk.trans e2⟩

set_option maxHeartbeats 4000000 in
set_option maxRecDepth 100000 in
theorem wbyte_any (hGN : GrowNil) (hGR : GrowRow) (bb br bw lo : Nat) (all : List Value) (c : Int) (w : World) (h : Wa w bb br bw lo all) (hlim : all.length ≤ 140737488355328) :
    Calls Tryd.prog 21 #[.pointer (some ⟨bw, 0, none⟩), .int .u8 c] w fun e w' => e = .returned .nilIface ∧ Wa w' bb br bw lo (all ++ [.int .u8 c]) ∧ Kw bb br bw lo w w' := by
  obtain ⟨out, pend, rfl, h⟩ := h
  rw [List.length_append] at hlim
  obtain ⟨c0, c1, c2, c3, hf⟩ := h.cells
  have hle := h.le
  have f2 := hf 2
  have n3 := h.n3
  have n3' : ¬ bw = br := fun e => n3 e.symm
  clear hf
  by_cases hlt : pend.length < 4096
  · obtain ⟨⟨x, hx⟩, hfx⟩ := h.spot hlt
    obtain ⟨n, hn⟩ : ∃ n, n = pend.length := ⟨_, rfl⟩
    rw [← hn] at c2 hx hfx hle hlt
    have HN : Hid (n = pend.length) := hn
    have HH : Hid _ := h
    clear hn h
    have i1 : (n : Int) < 4096 := by omega
    have i3 : ¬ (((4096 - n : Nat) : Int) ≤ 0) := by omega
    go_enter Tryd.func21, Tryd.ntmps21
    go_wp2_with fail
    refine (avail_any bw br n w c1 c2 hle).mono ?_
    rintro e w' ⟨rfl, q, rfl⟩
    go_wp2_with fail
    go_region
    all_goals
      go_wp2
      go_ret
      exact ⟨rfl, wa_byte (((Kw.refl bb br bw lo w).drewN q).drewN 1) ((HH.out.drewN q).drewN 1) HN.out hlt c _ rfl⟩
  · have hf4 : pend.length = 4096 := by omega
    rw [hf4] at c2
    have HH : Hid _ := h
    clear h
    go_enter Tryd.func21, Tryd.ntmps21
    go_wp2_with fail
    refine (avail_any bw br 4096 w c1 c2 (Nat.le_refl _)).mono ?_
    rintro e w' ⟨rfl, q, rfl⟩
    go_wp2_with fail
    refine (flush_any hGN hGR bb br bw lo out pend _ (HH.out.drewN q) hlim).mono ?_
    rintro e w1 ⟨rfl, h1, hk1⟩
    obtain ⟨⟨x, hx⟩, hfx⟩ := h1.spot (by decide)
    obtain ⟨d0, d1, d2, d3, hf⟩ := h1.cells
    have e2 := hf 2
    clear hf
    simp only [List.length_nil] at d2 hx hfx
    have HK : Hid _ := hk1
    have H1 : Hid _ := h1
    clear hk1 h1 HH c0 c1 c2 c3 f2
    go_wp2_with fail
    go_region
    all_goals
      go_wp2
      go_ret
      refine ⟨rfl, ?_⟩
      have := wa_byte (w := w) (n := 0) ((((Kw.refl bb br bw lo w).drewN q).trans HK.out).drewN 1) (H1.out.drewN 1) rfl (by decide) c 1 rfl
      rw [List.append_nil] at this
      exact this

end Go.Proofs.Qxb6616880aDoor
