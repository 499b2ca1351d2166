/- bufio.Writer: Write (24). -/
import Derived.Test.Qxb6616880aDoorStr
import Derived.Laws.IdiomCopy
namespace Go.Proofs.Qxb6616880aDoor
open Go.RowKit Go.Lib
set_option linter.unusedVariables false
set_option linter.unusedSimpArgs false

/-- The slice at 'ao' holds cs, in a block below lo that is none of the Writer's. -/
def Srcs (w : World) (bb br bw lo : Nat) (ao : Option Addr) (cs : List Value) : Prop :=
  cs = [] ∨ ∃ b off, ao = some ⟨b, off, none⟩ ∧ b < lo ∧ b ≠ bb ∧ b ≠ br ∧ b ≠ bw ∧ ∀ j v, cs[j]? = some v → w.cell? ⟨b, off + j, none⟩ = some v

theorem Srcs.mono {w w' : World} {bb br bw lo : Nat} {ao : Option Addr} {cs : List Value} (h : Srcs w bb br bw lo ao cs) (hk : Kw bb br bw lo w w') : Srcs w' bb br bw lo ao cs := by
  rcases h with h | ⟨b, off, h1, h2, h3, h4, h5, h6⟩
  · exact .inl h
  · exact .inr ⟨b, off, h1, h2, h3, h4, h5, fun j v hj => (World.cell?_of_block (w := w) (hk.block b h2 h3 h4 h5)).trans (h6 j v hj)⟩

theorem Wr.recount {w w0 : World} {bb br bw lo : Nat} {out pend : List Value} (hk : Kw bb br bw lo w0 w) (h : Wr w bb br bw lo out pend) (m : Int) (hm : m = (pend.length : Int)) :
    Wr (w.setCell ⟨bw, 2, none⟩ (.int .i64 m)) bb br bw lo out pend ∧ Kw bb br bw lo w0 (w.setCell ⟨bw, 2, none⟩ (.int .i64 m)) := by
  subst hm
  have n2 := h.n2
  have n3 := h.n3
  have hoth : ∀ k, k ≠ bw → (w.setCell ⟨bw, 2, none⟩ (.int .i64 (pend.length : Int))).heap[k]? = w.heap[k]? := fun k hk => Below.heap_setCell _ _ _ _ hk
  obtain ⟨cur, hr, hs, ht⟩ := h.row
  refine ⟨⟨h.buf.other (hoth bb n2) (fun g hg => hoth g (by have := h.bwlo; omega)), ?_, ⟨cur, (hoth br n3).trans hr, hs, ht⟩, h.le, h.bblo, h.brlo, h.bwlo, h.n1, h.n2, h.n3, ?_, h.one⟩, hk.set 2 _⟩
  · simp [World.setCell, Array.getElem?_modify, h.hd, wcells]
  · have := h.losz; simp [World.setCell]; omega

theorem Wr.noerr {w w0 : World} {bb br bw lo : Nat} {out pend : List Value} (hk : Kw bb br bw lo w0 w) (h : Wr w bb br bw lo out pend) :
    Wr (w.setCell ⟨bw, 0, none⟩ .nilIface) bb br bw lo out pend ∧ Kw bb br bw lo w0 (w.setCell ⟨bw, 0, none⟩ .nilIface) := by
  have n2 := h.n2
  have n3 := h.n3
  have hoth : ∀ k, k ≠ bw → (w.setCell ⟨bw, 0, none⟩ .nilIface).heap[k]? = w.heap[k]? := fun k hk => Below.heap_setCell _ _ _ _ hk
  obtain ⟨cur, hr, hs, ht⟩ := h.row
  refine ⟨⟨h.buf.other (hoth bb n2) (fun g hg => hoth g (by have := h.bwlo; omega)), ?_, ⟨cur, (hoth br n3).trans hr, hs, ht⟩, h.le, h.bblo, h.brlo, h.bwlo, h.n1, h.n2, h.n3, ?_, h.one⟩, hk.set 0 _⟩
  · simp [World.setCell, Array.getElem?_modify, h.hd, wcells]
  · have := h.losz; simp [World.setCell]; omega

theorem copy_row_laid {w w0 : World} {bb br bw lo : Nat} {out pend : List Value} (hk : Kw bb br bw lo w0 w) (h : Wr w bb br bw lo out pend) (ao : Option Addr) (m c : Nat) (cs : List Value) (hm : cs.length = m) (hs : Srcs w bb br bw lo ao cs) (h1c : ∀ v ∈ cs, v.oneCell' = true)
    {n k : Nat} (hn : n = pend.length) (hkm : k = Nat.min m (4096 - n)) :
    ∃ u, (Builtin.copy_ #[24, 24] 3 #[.slice (if 4096 = n then some ⟨br, 0, none⟩ else some ⟨br, n, none⟩) (4096 - n) (4096 - n), .slice ao m c]).run Tryd.prog w = .ok (.int .i64 k) u ∧
      Laid bb br bw lo out pend (cs.take k) n k w0 u := by
  obtain ⟨cur, hr, hcs, _⟩ := h.row
  have hle := h.le
  have h1 : k ≤ m := by rw [hkm]; exact Nat.min_le_left _ _
  have h2 : k ≤ 4096 - n := by rw [hkm]; exact Nat.min_le_right _ _
  by_cases h0 : k = 0
  · subst h0
    refine ⟨w, run_copy_none (P := Tryd.prog) w 24 24 3 5 _ ao _ _ m c Tryd.underlying24 info5size hkm.symm, ?_⟩
    obtain ⟨c0, c1, c2, c3, hf⟩ := h.cells
    refine ⟨c0, by rw [hn]; exact c2, hf 2, fun x hx => ?_⟩
    rw [List.take_zero, List.append_nil]
    exact h.recount hk x (by omega)
  · rcases hs with rfl | ⟨b, off, rfl, b1, b2, b3, b4, hsrc⟩
    · simp at hm; omega
    · have hl : (cs.take k).length = k := by rw [List.length_take]; omega
      refine ⟨_, ?_, laid_of hk h hr (cs.take k) hn hl (by omega) (fun v hv => h1c v (List.mem_of_mem_take hv))⟩
      rw [if_neg (by omega)]
      have := run_copy_row (P := Tryd.prog) w 24 24 3 5 br n (4096 - n) (4096 - n) ⟨b, off, none⟩ m c cur 5 (cs.take k) Tryd.underlying24 info5size hr (by rw [hl]; exact hkm) (fun j v hj => by
        rw [Addr.add_lit]
        have hjl : j < k := by have := (List.getElem?_eq_some_iff.1 hj).1; omega
        rw [List.getElem?_take_of_lt hjl] at hj
        exact hsrc j v hj) (by rw [hl, hcs]; omega) (fun v hv => h1c v (List.mem_of_mem_take hv))
      rw [hl, List.append_assoc] at this
      exact this

theorem direct_end {w w0 w1 : World} {bb br bw lo : Nat} {out cs : List Value} (hk : Kw bb br bw lo w0 w) (h : Wr w bb br bw lo out []) (hb : Buf w1 bb lo (out ++ cs)) (hkb : Kb bb lo w w1) (h1 : ∀ v ∈ cs, v.oneCell' = true) :
    Wr w1 bb br bw lo (out ++ cs) [] ∧ Kw bb br bw lo w0 w1 := by
  obtain ⟨cur, hr, hs, ht⟩ := h.row
  refine ⟨⟨hb, (hkb.block bw h.bwlo (fun e => h.n2 e.symm)).trans h.hd, ⟨cur, (hkb.block br h.brlo (fun e => h.n1 e.symm)).trans hr, hs, ht⟩, h.le, h.bblo, h.brlo, h.bwlo, h.n1, h.n2, h.n3, Nat.le_trans h.losz hkb.size, ?_⟩, hk.kb hkb⟩
  intro v hv
  rw [List.append_nil] at hv
  rcases List.mem_append.1 hv with hv | hv
  · exact h.one v (by rw [List.append_nil]; exact hv)
  · exact h1 v hv

def lenV : Value → Nat
  | .slice _ n _ => n
  | _ => 0

def WrtRel (bb br bw lo : Nat) (w : World) (tot : List Value) (sz : Nat) (pv nv : Value) (wr : World) : Prop :=
  ∃ (ao : Option Addr) (m c k : Nat) (cs out pend : List Value), pv = .slice ao m c ∧ nv = .int .i64 k ∧ cs.length = m ∧ m ≤ c ∧ c ≤ maxLen ∧ k + m = sz ∧ Srcs wr bb br bw lo ao cs ∧ (∀ v ∈ cs, v.oneCell' = true) ∧ Wr wr bb br bw lo out pend ∧ out ++ pend ++ cs = tot ∧ Kw bb br bw lo w wr

set_option maxHeartbeats 8000000 in
set_option maxRecDepth 100000 in
theorem wrt_any (hGN : GrowNil) (hGR : GrowRow) (bb br bw lo : Nat) (all cs : List Value) (ao : Option Addr) (m0 c0 : Nat) (w : World) (h : Wa w bb br bw lo all) (hlim : all.length ≤ 70368744177664) (hm0 : cs.length = m0) (hc0 : m0 ≤ c0) (hcm : c0 ≤ maxLen) (hm1 : m0 ≤ 1048576) (hs : Srcs w bb br bw lo ao cs) (h1 : ∀ v ∈ cs, v.oneCell' = true) :
    Calls Tryd.prog 24 #[.pointer (some ⟨bw, 0, none⟩), .slice ao m0 c0] w fun e w' => (∃ m, e = .returned (.tuple #[.int .i64 m, .nilIface])) ∧ Wa w' bb br bw lo (all ++ cs) ∧ Kw bb br bw lo w w' := by
  have hrel0 : WrtRel bb br bw lo w (all ++ cs) m0 (.slice ao m0 c0) (.int .i64 0) w := by
    obtain ⟨out, pend, rfl, h⟩ := h
    exact ⟨ao, m0, c0, 0, cs, out, pend, rfl, rfl, hm0, hc0, hcm, by omega, hs, h1, h, rfl, Kw.refl _ _ _ _ _⟩
  clear h
  have H0 : Hid _ := hrel0
  clear hrel0
  have htl : (all ++ cs).length ≤ 140737488355328 := by rw [List.length_append]; omega
  obtain ⟨tot, htot⟩ : ∃ tot, tot = all ++ cs := ⟨_, rfl⟩
  rw [← htot] at H0 htl ⊢
  clear htot hlim hs h1 hm0 hc0 hcm
  obtain ⟨sz, hsz⟩ : ∃ sz, sz = m0 := ⟨_, rfl⟩
  rw [← hsz] at hm1
  have H0' : Hid (WrtRel bb br bw lo w tot sz (.slice ao m0 c0) (.int .i64 0) w) := by rw [hsz]; exact H0.out
  clear H0 hsz
  have hna := nil_ahead_write
  have hme := method_write
  go_enter Tryd.func24, Tryd.ntmps24
  go_wp2_with fail
  go_loopw [1, 4] (fun pv nv wr => WrtRel bb br bw lo w tot sz pv nv wr) (fun pv _ wr => nOf wr bw + lenV pv)
  case atStart => exact H0'.out
  case round =>
    clear H0'
    obtain ⟨ao, m, c, k, cs, out, pend, rfl, rfl, hcl, hmc, hcm, hk, hsr, h1, hw, htt, hkw⟩ := hrel
    have hmeas := hw.nOf
    obtain ⟨c0, c1, c2, c3, hf⟩ := hw.cells
    have hle := hw.le
    have f2 := hf 2
    have f0 := hf 0
    have n3 := hw.n3
    have n3' : ¬ bw = br := fun e => n3 e.symm
    clear hf
    obtain ⟨n, hn⟩ : ∃ n, n = pend.length := ⟨_, rfl⟩
    rw [← hn] at c2 hle hmeas
    have HN : Hid _ := hn
    have HW : Hid _ := hw
    have HT : Hid _ := htt
    have HM : Hid _ := hmeas
    have HK : Hid _ := hkw
    have HS : Hid _ := hsr
    have HC : Hid _ := hcl
    have H1 : Hid _ := h1
    clear hn hw htt hmeas hkw hsr h1 hcl
    unfold maxLen at hcm
    have i1 : (n : Int) ≤ 4096 := by omega
    have i4 : (m : Int) ≤ (c : Int) := by omega
    have i5 : (c : Int) ≤ 9223372036854775807 := by omega
    by_cases hfits : m ≤ 4096 - n
    · have i2 : (m : Int) ≤ ((4096 - n : Nat) : Int) := by omega
      go_wp2_with fail
      refine (avail_any bw br n wr c1 c2 hle).mono ?_
      rintro e w' ⟨rfl, q, rfl⟩
      obtain ⟨u, hcp, d0, d2, e2, E1⟩ := copy_row_laid (HK.out.drewN (q + 1)) (HW.out.drewN (q + 1)) ao m c cs HC.out HS.out H1.out HN.out (Nat.min_eq_left hfits).symm
      have EE : Hid _ := E1
      clear E1
      have htk : Hid (out ++ (pend ++ List.take m cs) = tot) := by
        show _ = _
        rw [List.take_of_length_le (by rw [HC.out]; exact Nat.le_refl _), ← List.append_assoc]
        exact HT.out
      go_wp2_with fail
      go_region
      go_wp2
      all_goals
        go_ret2
        exact ⟨⟨_, rfl⟩, ⟨out, _, htk.out, (EE.out _ (by omega)).1⟩, (EE.out _ (by omega)).2⟩
    · have i2 : ((4096 - n : Nat) : Int) < (m : Int) := by omega
      obtain ⟨b, off, rfl, b1, b2, b3, b4, hsrc⟩ : ∃ b off, ao = some ⟨b, off, none⟩ ∧ b < lo ∧ b ≠ bb ∧ b ≠ br ∧ b ≠ bw ∧ ∀ j v, cs[j]? = some v → wr.cell? ⟨b, off + j, none⟩ = some v := by
        rcases HS.out with h | h
        · have := HC.out; rw [h] at this; simp at this; omega
        · exact h
      have HSS : Hid _ := hsrc
      clear hsrc
      by_cases h0 : n = 0
      · have hp : pend = [] := List.eq_nil_of_length_eq_zero (by rw [← HN.out]; exact h0)
        have HL : Hid (out.length + m ≤ 140737488355328) := by
          have := congrArg List.length HT.out
          have := HC.out
          show _ ≤ _
          simp only [List.length_append] at *
          omega
        subst h0
        go_wp2_with fail
        refine (avail_any bw br 0 wr c1 c2 hle).mono ?_
        rintro e w' ⟨rfl, q, rfl⟩
        go_wp2_with fail
        refine (buffered_any bw 0 (wr.drewN q) c2).mono ?_
        rintro e w' ⟨rfl, rfl⟩
        go_wp2_with fail
        refine (write_any hGN hGR bb lo out cs ⟨b, off, none⟩ m c (wr.drewN q) HW.out.buf HW.out.losz HW.out.bblo (fun v hv => HW.out.one v (List.mem_append_left _ hv)) HC.out (by omega) b1 b2 (fun j v hj => by rw [Addr.add_lit]; exact HSS.out j v hj) H1.out HL.out).mono ?_
        rintro e w1 ⟨rfl, hb1, hk1⟩
        have HW0 : Hid (Wr wr bb br bw lo out []) := by rw [← hp]; exact HW.out
        have HTT : Hid (out ++ cs = tot) := by
          have := HT.out
          rw [hp, List.append_nil] at this
          exact this
        obtain ⟨g1, g2⟩ := direct_end (HK.out.drewN q) (HW0.out.drewN q) hb1 hk1 H1.out
        obtain ⟨d0, d1, d2, d3, hff⟩ := g1.cells
        have e0 := hff 0
        have HE : Hid _ := g1.noerr g2
        clear hb1 hk1 g1 g2 hff hp
        go_wp2
        go_roundw
        case rel =>
          refine ⟨_, _, _, k + m, [], out ++ cs, [], rfl, ?_, ?_, ?_, ?_, ?_, .inl rfl, fun v hv => absurd hv (List.not_mem_nil), HE.out.1, ?_, HE.out.2⟩
          · first | rfl | (congr 1; omega)
          · simp
          · omega
          · unfold maxLen; omega
          · omega
          · rw [List.append_nil, List.append_nil]; exact HTT.out
        case measure => rw [HE.out.1.nOf, HM.out]; simp [lenV]; omega
      · have i3 : ((n : Int) == 0) = false := by rw [beq_eq_false_iff_ne]; omega
        go_wp2_with fail
        refine (avail_any bw br n wr c1 c2 hle).mono ?_
        rintro e w' ⟨rfl, q, rfl⟩
        go_wp2_with fail
        refine (buffered_any bw n (wr.drewN q) c2).mono ?_
        rintro e w' ⟨rfl, rfl⟩
        obtain ⟨u, hcp, d0, d2, e2, E1⟩ := copy_row_laid (k := 4096 - n) (HK.out.drewN (q + 1)) (HW.out.drewN (q + 1)) (some ⟨b, off, none⟩) m c cs HC.out HS.out H1.out HN.out (Nat.min_eq_right (by omega)).symm
        have EE : Hid _ := E1
        clear E1
        have HL : Hid (out.length + (pend ++ List.take (4096 - n) cs).length ≤ 140737488355328) := by
          have := congrArg List.length HT.out
          show _ ≤ _
          simp only [List.length_append, List.length_take] at this ⊢
          omega
        go_wp2_with fail
        go_region
        go_wp2_with fail
        all_goals
          refine (flush_any hGN hGR bb br bw lo out _ _ (EE.out _ (by omega)).1 HL.out).mono ?_
          rintro e w1 ⟨rfl, h1, hk1⟩
          have HF : Hid _ := h1
          have HK1 : Hid _ := (EE.out _ (by omega)).2.trans hk1
          clear h1 hk1
          go_wp2
          go_roundw
          case rel =>
            refine ⟨_, _, _, k + (4096 - n), cs.drop (4096 - n), _, [], rfl, ?_, ?_, ?_, ?_, ?_, .inr ⟨b, off + (4096 - n), ?_, b1, b2, b3, b4, ?_⟩, fun v hv => H1.out v (List.mem_of_mem_drop hv), HF.out, ?_, HK1.out⟩
            · first | rfl | (congr 1; omega)
            · rw [List.length_drop, HC.out]; first | done | omega
            · omega
            · unfold maxLen; omega
            · omega
            · first | rfl | (rw [if_neg (by omega)]) | (rw [show 4096 - n = 0 by omega, Nat.add_zero])
            · intro j v hj
              rw [List.getElem?_drop] at hj
              rw [Nat.add_assoc]
              exact (World.cell?_of_block (w := w) (HK1.out.block b b1 b2 b3 b4)).trans ((World.cell?_of_block (w := w) (HK.out.block b b1 b2 b3 b4)).symm.trans (HSS.out _ v hj))
            · rw [← HT.out]
              simp only [List.append_nil, List.append_assoc, List.take_append_drop]
          case measure => rw [HF.out.nOf, HM.out]; simp [lenV]; omega

end Go.Proofs.Qxb6616880aDoor
