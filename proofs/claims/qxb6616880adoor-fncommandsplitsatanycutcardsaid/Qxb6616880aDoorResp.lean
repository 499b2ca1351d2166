/- resp.Writer: line (14), bulk (16). -/
import Derived.Test.Qxb6616880aDoorNew
import Derived.Lib.AppendIntMem
namespace Go.Proofs.Qxb6616880aDoor
open Go.RowKit Go.Lib
set_option linter.unusedVariables false
set_option linter.unusedSimpArgs false

theorem hGN : GrowNil := fun n w h1 h2 => Tryd.bytes_growSlice_nil n w h1 h2
theorem hGR : GrowRow := fun g l c n cur w a b c' d e f h => Tryd.bytes_growSlice_row g l c n cur w a b c' d e f h

/-- The table of powers reads as the text lays it, whatever happens from block s on. -/
def Tab (s : Nat) (w : World) : Prop := TabBelow Tryd.prog s w Tryd.powName .u64 pow10Tab

theorem itoa_any (n : Nat) (hn : n ≤ 9223372036854775807) (s : Nat) (w : World) (hT : Tab s w) :
    Calls Tryd.prog 15 #[.int .i64 n] w fun e w' => e = .returned (.string ⟨(Lib.itoa n).toArray⟩) ∧ Below w.heap.size w w' := by
  refine (Tryd.strconv_Itoa n (by omega) (by omega) w hT.here).mono ?_
  rintro e w' ⟨rfl, k, os, rfl⟩
  exact ⟨rfl, rfl, rfl, rfl, size_grow w k os, fun j hj => heap_grow_old w k os j hj⟩

theorem Kw.below {s : Nat} {w w' : World} (h : Kw s (s + 1) (s + 2) (s + 4) w w') : Below s w w' :=
  ⟨h.os, h.tape, h.output, h.size, fun k hk => h.block k (by omega) (by omega) (by omega) (by omega)⟩

theorem St.of {s : Nat} {w w' : World} {all all' : List Value} (h : St w s all) (hk : Kw s (s + 1) (s + 2) (s + 4) w w') (ha : Wa w' s (s + 1) (s + 2) (s + 4) all') : St w' s all' :=
  ⟨ha, (hk.block (s + 3) (by omega) (by omega) (by omega) (by omega)).trans h.hd⟩

theorem Wr.up {w w' : World} {bb br bw lo : Nat} {out pend : List Value} (h : Wr w bb br bw lo out pend) (hb : Below w.heap.size w w') : Wr w' bb br bw lo out pend := by
  have l := h.losz
  have b1 := h.bblo
  have b2 := h.brlo
  have b3 := h.bwlo
  obtain ⟨cur, hr, hs, ht⟩ := h.row
  refine ⟨?_, (hb.block bw (by omega)).trans h.hd, ⟨cur, (hb.block br (by omega)).trans hr, hs, ht⟩, h.le, h.bblo, h.brlo, h.bwlo, h.n1, h.n2, h.n3, Nat.le_trans l hb.size, h.one⟩
  obtain ⟨v, lr, h1, h2⟩ := h.buf
  refine ⟨v, lr, (hb.block bb (by omega)).trans h1, ?_⟩
  rcases h2 with h2 | ⟨g, cap, c, a1, a2, a3, a4, a5⟩
  · exact .inl h2
  · exact .inr ⟨g, cap, c, a1, a2, a3, (hb.block g (Array.getElem?_eq_some_iff.1 a4).1).trans a4, a5⟩

theorem St.sz {s : Nat} {w : World} {all : List Value} (h : St w s all) : s + 4 ≤ w.heap.size := h.wa.cells0.2

theorem St.up {s : Nat} {w w' : World} {all : List Value} (h : St w s all) (hb : Below w.heap.size w w') : St w' s all := by
  obtain ⟨out, pend, he, hw⟩ := h.wa
  exact ⟨⟨out, pend, he, hw.up hb⟩, (hb.block _ (by have := h.sz; omega)).trans h.hd⟩

theorem Below.of_le {B C : Nat} {w w' : World} (h : Below C w w') (hl : B ≤ C) : Below B w w' := ⟨h.os, h.tape, h.output, h.size, fun k hk => h.block k (by omega)⟩

theorem St.cell {s : Nat} {w : World} {all : List Value} (h : St w s all) : w.cell? ⟨s + 3, 0, none⟩ = some (.pointer (some ⟨s + 2, 0, none⟩)) := by
  simp [World.cell?, h.hd]

theorem st_byte (s : Nat) (all : List Value) (c : Int) (w : World) (h : St w s all) (hlim : all.length ≤ 70368744177664) :
    Calls Tryd.prog 21 #[.pointer (some ⟨s + 2, 0, none⟩), .int .u8 c] w fun e w' => e = .returned .nilIface ∧ St w' s (all ++ [.int .u8 c]) ∧ Below s w w' := by
  refine (wbyte_any hGN hGR s (s + 1) (s + 2) (s + 4) all c w h.wa (by omega)).mono ?_
  rintro e w' ⟨rfl, ha, hk⟩
  exact ⟨rfl, h.of hk ha, hk.below⟩

theorem st_str (s : Nat) (all : List Value) (t : ByteArray) (w : World) (h : St w s all) (hlim : all.length ≤ 70368744177664) (ht : t.size ≤ 100) :
    Calls Tryd.prog 22 #[.pointer (some ⟨s + 2, 0, none⟩), .string t] w fun e w' => (∃ m, e = .returned (.tuple #[.int .i64 m, .nilIface])) ∧ St w' s (all ++ byteCells t.data.toList) ∧ Below s w w' := by
  refine (wstr_any hGN hGR s (s + 1) (s + 2) (s + 4) all t w h.wa hlim ht).mono ?_
  rintro e w' ⟨he, ha, hk⟩
  exact ⟨he, h.of hk ha, hk.below⟩

def crlf : List Value := byteCells [13, 10]
/-- What line writes. -/
def lineB (c : Int) (t : List UInt8) : List Value := .int .u8 c :: (byteCells t ++ crlf)

set_option maxHeartbeats 2000000 in
theorem line_any (s : Nat) (all : List Value) (c : Int) (t : ByteArray) (w : World) (h : St w s all) (hlim : all.length ≤ 35184372088832) (ht : t.size ≤ 100) :
    Calls Tryd.prog 14 #[.pointer (some ⟨s + 3, 0, none⟩), .int .u8 c, .string t] w fun e w' => e = .returned (.tuple #[]) ∧ St w' s (all ++ lineB c t.data.toList) ∧ Below s w w' := by
  have c0 := h.cell
  have HH : Hid _ := h
  clear h
  go_enter Tryd.func14, Tryd.ntmps14
  go_wp2_with fail
  refine (st_byte s all c w HH.out (by omega)).mono ?_
  rintro e w1 ⟨rfl, h1, k1⟩
  have c1 := h1.cell
  have H1 : Hid _ := h1
  have K1 : Hid _ := k1
  clear h1 k1
  go_wp2_with fail
  refine (st_str s _ t w1 H1.out (by simp; omega) ht).mono ?_
  rintro e w2 ⟨⟨m, rfl⟩, h2, k2⟩
  have c2 := h2.cell
  have H2 : Hid _ := h2
  have K2 : Hid _ := k2
  clear h2 k2
  go_wp2_with fail
  have hz := size_eq t
  refine (st_str s _ ⟨#[13, 10]⟩ w2 H2.out (by simp [byteCells_length, ← hz]; omega) (by decide)).mono ?_
  rintro e w3 ⟨⟨m, rfl⟩, h3, k3⟩
  have H3 : Hid _ := h3
  have K3 : Hid _ := k3
  clear h3 k3
  go_wp2_with fail
  go_end0
  refine ⟨rfl, ?_, (K1.out.trans K2.out).trans K3.out⟩
  have := H3.out
  rw [List.append_assoc, List.append_assoc] at this
  exact this

/-- A header: its kind, a number, CRLF. -/
def hdr (c : Int) (n : Nat) : List Value := lineB c (Lib.itoa n)
def bv (l : List Int) : List Value := l.map (.int .u8)
/-- What bulk writes. -/
def bulkB (r : List Int) : List Value := hdr 36 r.length ++ (bv r ++ crlf)

theorem itoa_len (n : Nat) (hn : n ≤ 1048576) : (Lib.itoa n).length ≤ 20 := by
  have e : Lib.itoa (n : Int) = decDigits n := by rw [itoa_nonneg]
  rw [e, decDigits_length]
  by_cases h0 : n = 0
  · rw [h0, nDigits_small (by omega)]; omega
  · have := numDigits_eq n (by omega) (by omega)
    split at this <;> omega

/-- The slice value v holds the bytes r, in a block below s. -/
def Arg (w : World) (s : Nat) (v : Value) (r : List Int) : Prop :=
  ∃ ao c, v = .slice ao r.length c ∧ r.length ≤ c ∧ c ≤ maxLen ∧ (r = [] ∨ ∃ b off, ao = some ⟨b, off, none⟩ ∧ b < s ∧ ∀ j z, r[j]? = some z → w.cell? ⟨b, off + j, none⟩ = some (.int .u8 z))

theorem Arg.mono {w w' : World} {s : Nat} {v : Value} {r : List Int} (h : Arg w s v r) (hb : Below s w w') : Arg w' s v r := by
  obtain ⟨ao, c, h1, h2, h3, h4⟩ := h
  refine ⟨ao, c, h1, h2, h3, ?_⟩
  rcases h4 with h4 | ⟨b, off, a1, a2, a3⟩
  · exact .inl h4
  · exact .inr ⟨b, off, a1, a2, fun j z hj => (World.cell?_of_block (w := w) (hb.block b a2)).trans (a3 j z hj)⟩

theorem bv_one (r : List Int) : ∀ v ∈ bv r, v.oneCell' = true := by
  intro v hv
  obtain ⟨z, _, rfl⟩ := List.mem_map.1 hv
  rfl

theorem st_wrt (s : Nat) (all : List Value) (ao : Option Addr) (c : Nat) (r : List Int) (w : World) (h : St w s all) (hlim : all.length ≤ 70368744177664) (hr : r.length ≤ 1048576) (ha : Arg w s (.slice ao r.length c) r) :
    Calls Tryd.prog 24 #[.pointer (some ⟨s + 2, 0, none⟩), .slice ao r.length c] w fun e w' => (∃ m, e = .returned (.tuple #[.int .i64 m, .nilIface])) ∧ St w' s (all ++ bv r) ∧ Below s w w' := by
  obtain ⟨ao', c', hv, h2, h3, h4⟩ := ha
  simp only [Value.slice.injEq, true_and] at hv
  obtain ⟨rfl, rfl⟩ := hv
  refine (wrt_any hGN hGR s (s + 1) (s + 2) (s + 4) all (bv r) ao r.length c w h.wa hlim (by simp [bv]) h2 h3 hr ?_ (bv_one r)).mono ?_
  · rcases h4 with rfl | ⟨b, off, a1, a2, a3⟩
    · exact .inl rfl
    · refine .inr ⟨b, off, a1, by omega, by omega, by omega, by omega, fun j v hj => ?_⟩
      rw [bv, List.getElem?_map] at hj
      obtain ⟨z, hz, rfl⟩ := Option.map_eq_some_iff.1 hj
      exact a3 j z hz
  rintro e w' ⟨he, hwa, hk⟩
  exact ⟨he, h.of hk hwa, hk.below⟩

set_option maxHeartbeats 2000000 in
theorem bulk_any (s : Nat) (all : List Value) (ao : Option Addr) (m c : Nat) (r : List Int) (hm : Hid (r.length = m)) (w : World) (h : St w s all) (hT : Tab s w) (hlim : all.length ≤ 8796093022208) (hr : m ≤ 1048576) (ha : Arg w s (.slice ao m c) r) :
    Calls Tryd.prog 16 #[.pointer (some ⟨s + 3, 0, none⟩), .slice ao m c] w fun e w' => e = .returned (.tuple #[]) ∧ St w' s (all ++ bulkB r) ∧ Below s w w' := by
  have HH : Hid _ := h
  have HT : Hid _ := hT
  have HA : Hid (Arg w s (.slice ao m c) r) := ha
  have hl := itoa_len m hr
  clear h hT ha
  go_enter Tryd.func16, Tryd.ntmps16
  go_wp2_with fail
  refine (itoa_any m (by omega) s w HT.out).mono ?_
  rintro e w1 ⟨rfl, hb1⟩
  have K1 : Hid (Below s w w1) := Below.of_le hb1 (by have := HH.out.sz; omega)
  have H1 : Hid (St w1 s all) := HH.out.up hb1
  clear hb1
  go_wp2_with fail
  refine (line_any s all 36 ⟨(Lib.itoa m).toArray⟩ w1 H1.out (by omega) (by simpa [ByteArray.size] using Nat.le_trans hl (by decide))).mono ?_
  rintro e w2 ⟨rfl, h2, k2⟩
  have c2 := h2.cell
  have H2 : Hid _ := h2
  have K2 : Hid _ := k2
  clear h2 k2
  have hll : (lineB 36 (Lib.itoa m)).length ≤ 30 := by simp [lineB, crlf, byteCells_length]; omega
  go_wp2_with fail
  have HA2 : Arg w2 s (.slice ao r.length c) r := by rw [hm.out]; exact Arg.mono HA.out (K1.out.trans K2.out)
  have hw := st_wrt s _ ao c r w2 H2.out (by simp only [List.length_append]; have := hll; omega) (by rw [hm.out]; exact hr) HA2
  rw [hm.out] at hw
  refine hw.mono ?_
  rintro e w3 ⟨⟨x, rfl⟩, h3, k3⟩
  have c3 := h3.cell
  have H3 : Hid _ := h3
  have K3 : Hid _ := k3
  clear h3 k3 hw HA2
  go_wp2_with fail
  refine (st_str s _ ⟨#[13, 10]⟩ w3 H3.out (by have := hm.out; simp only [List.length_append, bv, List.length_map]; have := hll; omega) (by decide)).mono ?_
  rintro e w4 ⟨⟨x, rfl⟩, h4, k4⟩
  have H4 : Hid _ := h4
  have K4 : Hid _ := k4
  clear h4 k4
  go_wp2_with fail
  go_end0
  refine ⟨rfl, ?_, ((K1.out.trans K2.out).trans K3.out).trans K4.out⟩
  have := H4.out
  rw [List.append_assoc, List.append_assoc] at this
  rw [bulkB, hdr, hm.out]
  exact this

end Go.Proofs.Qxb6616880aDoor
