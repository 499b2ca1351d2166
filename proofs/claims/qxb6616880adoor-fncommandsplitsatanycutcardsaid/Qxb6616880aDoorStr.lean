/- bufio.Writer: WriteString (22) of a short string. -/
import Derived.Test.Qxb6616880aDoorByte
import Derived.Lib.IndexBytes
namespace Go.Proofs.Qxb6616880aDoor
open Go.RowKit Go.Lib
set_option linter.unusedVariables false
set_option linter.unusedSimpArgs false

/-- Cells laid behind the pending ones, and the count. -/
theorem row_end {w w0 : World} {bb br bw lo : Nat} {out pend : List Value} (hk : Kw bb br bw lo w0 w) (h : Wr w bb br bw lo out pend) {cur : Array Value} (hr : w.heap[br]? = some (.cells cur 5 (0, 0))) (cs : List Value) {n k : Nat} (hn : n = pend.length) (hkl : cs.length = k) (hfit : n + k ≤ 4096) (h1 : ∀ v ∈ cs, v.oneCell' = true) (m : Int) (hm : m = (n : Int) + (k : Int)) :
    Wr ((w.setRow br (cur.toList.take n ++ (cs ++ cur.toList.drop (n + k))).toArray).setCell ⟨bw, 2, none⟩ (.int .i64 m)) bb br bw lo out (pend ++ cs) ∧
    Kw bb br bw lo w0 ((w.setRow br (cur.toList.take n ++ (cs ++ cur.toList.drop (n + k))).toArray).setCell ⟨bw, 2, none⟩ (.int .i64 m)) := by
  subst hm hn hkl
  obtain ⟨cur', hr', hs, ht⟩ := h.row
  have : cur' = cur := by rw [hr] at hr'; simpa using hr'.symm
  subst this
  have n1 := h.n1
  have n2 := h.n2
  have n3 := h.n3
  have b1 := h.brlo
  have b2 := h.bwlo
  have hl4 : cur'.toList.length = 4096 := by rw [Array.length_toList]; exact hs
  generalize hR : (cur'.toList.take pend.length ++ (cs ++ cur'.toList.drop (pend.length + cs.length))).toArray = R
  have hoth : ∀ k, k ≠ br → k ≠ bw → ((w.setRow br R).setCell ⟨bw, 2, none⟩ (.int .i64 ((pend.length : Int) + (cs.length : Int)))).heap[k]? = w.heap[k]? := fun k h1 h2 => by
    rw [Below.heap_setCell _ _ _ _ h2, setRow_other w br k R h1]
  have hRs : R.size = 4096 := by rw [← hR]; simp; omega
  refine ⟨⟨h.buf.other (hoth bb n1 n2) (fun g hg => hoth g (by omega) (by omega)), ?_, ⟨R, ?_, hRs, ?_⟩, by simp; omega, h.bblo, h.brlo, h.bwlo, h.n1, h.n2, h.n3, ?_, ?_⟩, hk.trans ⟨rfl, rfl, rfl, by simp [World.setCell], fun k _ _ h1 h2 => hoth k h1 h2⟩⟩
  · have hd1 : (w.setRow br R).heap[bw]? = _ := (setRow_other w br bw R (fun e => n3 e.symm)).trans h.hd
    simp only [World.setCell, Array.getElem?_modify, if_pos, hd1]
    simp [wcells]
  · rw [Below.heap_setCell _ _ _ _ n3]
    exact setRow_heap w br cur' _ 5 (0, 0) hr
  · rw [← hR, List.toList_toArray, ht, ← List.append_assoc, List.take_append_of_le_length (Nat.le_refl _), List.take_length]
  · have := h.losz; simp [World.setCell]; omega
  · intro v hv
    rw [← List.append_assoc] at hv
    rcases List.mem_append.1 hv with hv | hv
    · exact h.one v hv
    · exact h1 v hv

/-- 'copy(row[o:], s)', s a string: as many bytes as there is room for. -/
theorem copy_str (w : World) (g o dLen dCap : Nat) (s : ByteArray) (cur : Array Value) (n : Nat) (hg : w.heap[g]? = some (.cells cur 5 (0, 0))) (hn : n = Nat.min s.size dLen) (hfit : o + n ≤ cur.size) :
    (Builtin.copy_ #[24, 9] 3 #[.slice (some ⟨g, o, none⟩) dLen dCap, .string s]).run Tryd.prog w =
      .ok (.int .i64 n) (w.setRow g (cur.toList.take o ++ (byteCells (s.data.toList.take n) ++ cur.toList.drop (o + n))).toArray) := by
  have hns : n ≤ s.size := by rw [hn]; exact Nat.min_le_left _ _
  have hlen : (byteCells (s.data.toList.take n)).length = n := by
    rw [byteCells_length, List.length_take]
    have := size_eq s
    omega
  have hst := run_storeCells_at Tryd.prog g o 5 (byteCells (s.data.toList.take n)) 0 cur w hg (by rw [hlen]; simpa using hfit) (byteCells_one _)
  have htk : List.take n (List.map (fun b : UInt8 => Value.int IntKind.u8 (b.toNat : Int)) s.data.toList) = byteCells (s.data.toList.take n) := by
    rw [← List.map_take]
    rfl
  rw [hlen] at hst
  simp only [Nat.add_zero] at hst
  obtain ⟨i, hi, hz0, hz1, hz2⟩ := info_parts Tryd.info5
  simp [Builtin.copy_, run_underlying Tryd.underlying24, Builtin.lenOf, Builtin.firstCells, sizeOf, typeInfo, hi, ← hn]
  rw [htk, hst]
  simp [Result.andThen, List.append_assoc]
  rfl

/-- The row's rest, from n on. -/
def rest (br n : Nat) : Option Addr := if 4096 = n then some ⟨br, 0, none⟩ else some ⟨br, n, none⟩

theorem copy_str_at (w : World) (br n : Nat) (s : ByteArray) (cur : Array Value) (k : Nat) (hg : w.heap[br]? = some (.cells cur 5 (0, 0))) (hc : cur.size = 4096) (hn : n ≤ 4096) (hk : k = Nat.min s.size (4096 - n)) :
    (Builtin.copy_ #[24, 9] 3 #[.slice (if 4096 = n then some ⟨br, 0, none⟩ else some ⟨br, n, none⟩) (4096 - n) (4096 - n), .string s]).run Tryd.prog w =
      .ok (.int .i64 k) (w.setRow br (cur.toList.take n ++ (byteCells (s.data.toList.take k) ++ cur.toList.drop (n + k))).toArray) := by
  have hkl : k ≤ 4096 - n := by rw [hk]; exact Nat.min_le_right _ _
  by_cases h : 4096 = n
  · have h0 : k = 0 := by omega
    have := copy_str w br 0 (4096 - n) (4096 - n) s cur k hg hk (by omega)
    rw [if_pos h, this]
    subst h0
    simp [byteCells]
  · rw [if_neg h]
    exact copy_str w br n (4096 - n) (4096 - n) s cur k hg hk (by omega)

/-- What a copy into the row leaves: the count still to be laid. -/
structure Laid (bb br bw lo : Nat) (out pend cs : List Value) (n k : Nat) (w0 u : World) : Prop where
  d0 : u.cell? ⟨bw, 0, none⟩ = some .nilIface
  d2 : u.cell? ⟨bw, 2, none⟩ = some (.int .i64 n)
  e2 : u.frozen? ⟨bw, 2, none⟩ = false
  fin : ∀ m : Int, m = (n : Int) + (k : Int) → Wr (u.setCell ⟨bw, 2, none⟩ (.int .i64 m)) bb br bw lo out (pend ++ cs) ∧ Kw bb br bw lo w0 (u.setCell ⟨bw, 2, none⟩ (.int .i64 m))

theorem byteCells_append (a b : List UInt8) : byteCells (a ++ b) = byteCells a ++ byteCells b := by simp [byteCells]

theorem laid_of {w w0 : World} {bb br bw lo : Nat} {out pend : List Value} (hk : Kw bb br bw lo w0 w) (h : Wr w bb br bw lo out pend) {cur : Array Value} (hr : w.heap[br]? = some (.cells cur 5 (0, 0))) (cs : List Value) {n k : Nat} (hn : n = pend.length) (hkl : cs.length = k) (hfit : n + k ≤ 4096) (h1 : ∀ v ∈ cs, v.oneCell' = true) :
    Laid bb br bw lo out pend cs n k w0 (w.setRow br (cur.toList.take n ++ (cs ++ cur.toList.drop (n + k))).toArray) := by
  have hb : (w.setRow br (cur.toList.take n ++ (cs ++ cur.toList.drop (n + k))).toArray).heap[bw]? = w.heap[bw]? := setRow_other w br bw _ (fun e => h.n3 e.symm)
  obtain ⟨c0, c1, c2, c3, hf⟩ := h.cells
  refine ⟨(World.cell?_of_block (w := w) hb).trans c0, (World.cell?_of_block (w := w) hb).trans (by rw [hn]; exact c2), ?_, fun m hm => row_end hk h hr cs hn hkl hfit h1 m hm⟩
  have := hf 2
  simp only [World.frozen?, hb] at this ⊢
  exact this

theorem copy_str_laid {w w0 : World} {bb br bw lo : Nat} {out pend : List Value} (hk : Kw bb br bw lo w0 w) (h : Wr w bb br bw lo out pend) (s : ByteArray) {n k : Nat} (hn : n = pend.length) (hkm : k = Nat.min s.size (4096 - n)) :
    ∃ u, (Builtin.copy_ #[24, 9] 3 #[.slice (if 4096 = n then some ⟨br, 0, none⟩ else some ⟨br, n, none⟩) (4096 - n) (4096 - n), .string s]).run Tryd.prog w = .ok (.int .i64 k) u ∧
      Laid bb br bw lo out pend (byteCells (s.data.toList.take k)) n k w0 u := by
  obtain ⟨cur, hr, hcs, _⟩ := h.row
  have hle := h.le
  have h1 : k ≤ s.size := by rw [hkm]; exact Nat.min_le_left _ _
  have h2 : k ≤ 4096 - n := by rw [hkm]; exact Nat.min_le_right _ _
  refine ⟨_, copy_str_at w br n s cur k hr hcs (by omega) hkm, laid_of hk h hr _ hn ?_ (by omega) (byteCells_one _)⟩
  rw [byteCells_length, List.length_take]
  have := size_eq s
  omega

/-- The count of pending bytes, off the world. -/
def nOf (w : World) (bw : Nat) : Nat := match w.cell? ⟨bw, 2, none⟩ with
  | some (.int _ n) => n.toNat
  | _ => 0

theorem Wr.nOf {w : World} {bb br bw lo : Nat} {out pend : List Value} (h : Wr w bb br bw lo out pend) : nOf w bw = pend.length := by
  unfold Qxb6616880aDoor.nOf
  rw [h.cells.2.2.1]
  simp

def StrRel (bb br bw lo : Nat) (w : World) (tot : List Value) (sz : Nat) (sv nv : Value) (wr : World) : Prop :=
  ∃ (s' : ByteArray) (k : Nat) (out pend : List Value), sv = .string s' ∧ nv = .int .i64 k ∧ k + s'.size = sz ∧ Wr wr bb br bw lo out pend ∧ out ++ pend ++ byteCells s'.data.toList = tot ∧ Kw bb br bw lo w wr

set_option maxHeartbeats 8000000 in
set_option maxRecDepth 100000 in
theorem wstr_any (hGN : GrowNil) (hGR : GrowRow) (bb br bw lo : Nat) (all : List Value) (s : ByteArray) (w : World) (h : Wa w bb br bw lo all) (hlim : all.length ≤ 70368744177664) (hs : s.size ≤ 100) :
    Calls Tryd.prog 22 #[.pointer (some ⟨bw, 0, none⟩), .string s] w fun e w' => (∃ m, e = .returned (.tuple #[.int .i64 m, .nilIface])) ∧ Wa w' bb br bw lo (all ++ byteCells s.data.toList) ∧ Kw bb br bw lo w w' := by
  have hrel0 : StrRel bb br bw lo w (all ++ byteCells s.data.toList) s.size (.string s) (.int .i64 0) w := by
    obtain ⟨out, pend, rfl, h⟩ := h
    exact ⟨s, 0, out, pend, rfl, rfl, by omega, h, rfl, Kw.refl _ _ _ _ _⟩
  clear h
  have H0 : Hid _ := hrel0
  clear hrel0
  have htl : (all ++ byteCells s.data.toList).length ≤ 140737488355328 := by rw [List.length_append, byteCells_length, ← size_eq]; omega
  obtain ⟨tot, htot⟩ : ∃ tot, tot = all ++ byteCells s.data.toList := ⟨_, rfl⟩
  rw [← htot] at H0 htl ⊢
  clear htot hlim
  obtain ⟨sz, hsz⟩ : ∃ sz, sz = s.size := ⟨_, rfl⟩
  rw [← hsz] at H0 hs
  clear hsz
  go_enter Tryd.func22, Tryd.ntmps22
  go_wp2_with fail
  go_loopw [1, 8] (fun sv nv wr => StrRel bb br bw lo w tot sz sv nv wr) (fun _ _ wr => nOf wr bw)
  case atStart => exact H0.out
  case round =>
    clear H0
    obtain ⟨s', k, out, pend, rfl, rfl, hk, hw, htt, hkw⟩ := hrel
    have hmeas := hw.nOf
    obtain ⟨c0, c1, c2, c3, hf⟩ := hw.cells
    have hle := hw.le
    have f2 := hf 2
    have n3 := hw.n3
    have n3' : ¬ bw = br := fun e => n3 e.symm
    clear hf
    obtain ⟨n, hn⟩ : ∃ n, n = pend.length := ⟨_, rfl⟩
    rw [← hn] at c2 hle hmeas
    have HN : Hid _ := hn
    have HW : Hid _ := hw
    have HT : Hid _ := htt
    have HM : Hid _ := hmeas
    have HK : Hid _ := hkw
    clear hn hw htt hmeas hkw
    have i1 : (n : Int) ≤ 4096 := by omega
    by_cases hfits : s'.size ≤ 4096 - n
    · have i2 : (s'.size : Int) ≤ ((4096 - n : Nat) : Int) := by omega
      go_wp2_with fail
      refine (avail_any bw br n wr c1 c2 hle).mono ?_
      rintro e w' ⟨rfl, q, rfl⟩
      obtain ⟨u, hcp, d0, d2, e2, E1⟩ := copy_str_laid (HK.out.drewN (q + 1)) (HW.out.drewN (q + 1)) s' HN.out (Nat.min_eq_left hfits).symm
      have EE : Hid _ := E1
      clear E1
      go_wp2_with fail
      have htk : Hid (out ++ (pend ++ byteCells (List.take s'.size s'.data.toList)) = tot) := by
        show _ = _
        rw [List.take_of_length_le (by rw [← size_eq]; exact Nat.le_refl _), ← List.append_assoc]
        exact HT.out
      go_region
      go_wp2
      all_goals
        go_ret2
        exact ⟨⟨_, rfl⟩, ⟨out, _, htk.out, (EE.out _ (by omega)).1⟩, (EE.out _ (by omega)).2⟩
    · have i2 : ((4096 - n : Nat) : Int) < (s'.size : Int) := by omega
      have i3 : ((n : Int) == 0) = false := by rw [beq_eq_false_iff_ne]; omega
      go_wp2_with fail
      refine (avail_any bw br n wr c1 c2 hle).mono ?_
      rintro e w' ⟨rfl, q, rfl⟩
      go_wp2_with fail
      refine (buffered_any bw n (wr.drewN q) c2).mono ?_
      rintro e w' ⟨rfl, rfl⟩
      go_wp2_with fail
      refine (buffered_any bw n (wr.drewN q) c2).mono ?_
      rintro e w' ⟨rfl, rfl⟩
      obtain ⟨u, hcp, d0, d2, e2, E1⟩ := copy_str_laid (k := 4096 - n) (HK.out.drewN (q + 1)) (HW.out.drewN (q + 1)) s' HN.out (Nat.min_eq_right (by omega)).symm
      have EE : Hid _ := E1
      clear E1
      go_wp2_with fail
      have HL : Hid (out.length + (pend ++ byteCells (List.take (4096 - n) s'.data.toList)).length ≤ 140737488355328) := by
        have := congrArg List.length HT.out
        show _ ≤ _
        simp only [List.length_append, byteCells_length, List.length_take] at this ⊢
        omega
      go_region
      go_wp2_with fail
      all_goals
        refine (flush_any hGN hGR bb br bw lo out _ _ (EE.out _ (by omega)).1 HL.out).mono ?_
        rintro e w1 ⟨rfl, h1, hk1⟩
        have H1 : Hid _ := h1
        have HK1 : Hid _ := (EE.out _ (by omega)).2.trans hk1
        clear h1 hk1
        go_wp2
        go_roundw
        case rel =>
          refine ⟨_, k + (4096 - n), _, [], rfl, ?_, ?_, H1.out, ?_, HK1.out⟩
          · first | rfl | (congr 1; omega)
          · first | (rw [ByteArray.size_extract]; omega) | omega
          · rw [← HT.out]
            simp only [List.append_nil, List.append_assoc]
            first
              | rw [extract_to_end, ← byteCells_append, List.take_append_drop]
              | (rw [show 4096 - n = 0 by omega]; rfl)
        case measure => rw [H1.out.nOf, HM.out]; simp; omega

end Go.Proofs.Qxb6616880aDoor
