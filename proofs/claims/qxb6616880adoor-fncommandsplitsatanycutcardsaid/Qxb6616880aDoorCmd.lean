/- resp.Writer: Command (7), ZZflushed (8), zzCommandBytes (5). -/
import Derived.Test.Qxb6616880aDoorResp
namespace Go.Proofs.Qxb6616880aDoor
open Go.RowKit Go.Lib
set_option linter.unusedVariables false
set_option linter.unusedSimpArgs false

def iB (t : List UInt8) : List Int := t.map fun b => (b.toNat : Int)
def hdrI (c : Int) (n : Nat) : List Int := c :: (iB (Lib.itoa n) ++ [13, 10])
def bulkI (r : List Int) : List Int := hdrI 36 r.length ++ (r ++ [13, 10])
def bodyI (rs : List (List Int)) : List Int := (rs.map bulkI).flatten
/-- What Command writes. -/
def cmdI (rs : List (List Int)) : List Int := hdrI 42 rs.length ++ bodyI rs
def tot (rs : List (List Int)) : Nat := (rs.map fun r => 24 + r.length).sum

theorem bv_append (a b : List Int) : bv (a ++ b) = bv a ++ bv b := by simp [bv]
theorem bv_iB (t : List UInt8) : bv (iB t) = byteCells t := by simp [bv, iB, byteCells]
theorem bv_crlf : bv [13, 10] = crlf := rfl
theorem bv_hdr (c : Int) (n : Nat) : bv (hdrI c n) = hdr c n := by
  unfold hdrI hdr lineB
  rw [← bv_crlf, ← bv_iB, ← bv_append]
  rfl
theorem bv_bulk (r : List Int) : bv (bulkI r) = bulkB r := by rw [bulkI, bulkB, bv_append, bv_append, bv_hdr, bv_crlf]
theorem bv_len (l : List Int) : (bv l).length = l.length := by simp [bv]

theorem hdrI_len (c : Int) (n : Nat) (hn : n ≤ 1048576) : (hdrI c n).length ≤ 23 := by
  have := itoa_len n hn
  simp [hdrI, iB]; omega

theorem body_len : ∀ rs : List (List Int), (∀ r ∈ rs, r.length ≤ 1048576) → (bodyI rs).length ≤ 2 * tot rs
  | [], _ => by simp [bodyI, tot]
  | r :: rs, h => by
    have h1 := body_len rs (fun x hx => h x (List.mem_cons_of_mem _ hx))
    have h2 := hdrI_len 36 r.length (h r List.mem_cons_self)
    simp [bodyI, tot, bulkI] at h1 ⊢
    omega

theorem body_snoc (rs : List (List Int)) (r : List Int) : bodyI (rs ++ [r]) = bodyI rs ++ bulkI r := by simp [bodyI]
theorem body_append (a b : List (List Int)) : bodyI (a ++ b) = bodyI a ++ bodyI b := by simp [bodyI]

theorem tot_take (rs : List (List Int)) (j : Nat) : tot (rs.take j) ≤ tot rs := by
  have h : tot rs = tot (rs.take j) + tot (rs.drop j) := by
    unfold tot
    rw [← List.sum_append, ← List.map_append, List.take_append_drop]
  omega

theorem tot_drop (rs : List (List Int)) (j : Nat) : tot (rs.drop j) ≤ tot rs := by
  have h : tot rs = tot (rs.take j) + tot (rs.drop j) := by
    unfold tot
    rw [← List.sum_append, ← List.map_append, List.take_append_drop]
  omega

theorem len_tot : ∀ (rs : List (List Int)), ∀ r ∈ rs, r.length ≤ tot rs
  | [], r, h => absurd h List.not_mem_nil
  | x :: rs, r, h => by
    rcases List.mem_cons.1 h with rfl | h
    · simp [tot]; omega
    · have := len_tot rs r h
      simp [tot] at this ⊢
      omega

theorem count_tot : ∀ (rs : List (List Int)), rs.length ≤ tot rs
  | [] => by simp
  | x :: rs => by
    have := count_tot rs
    simp [tot] at this ⊢
    omega

/-- The slice of slices at 'ao' holds the rows rs, all below block s. -/
def Args (w : World) (s : Nat) (ao : Option Addr) (rs : List (List Int)) : Prop :=
  rs = [] ∨ ∃ b off, ao = some ⟨b, off, none⟩ ∧ b < s ∧ ∀ i r, rs[i]? = some r → ∃ v, w.cell? ⟨b, off + i, none⟩ = some v ∧ Arg w s v r

theorem Args.mono {w w' : World} {s : Nat} {ao : Option Addr} {rs : List (List Int)} (h : Args w s ao rs) (hb : Below s w w') : Args w' s ao rs := by
  rcases h with h | ⟨b, off, h1, h2, h3⟩
  · exact .inl h
  · exact .inr ⟨b, off, h1, h2, fun i r hi => by
      obtain ⟨v, a1, a2⟩ := h3 i r hi
      exact ⟨v, (World.cell?_of_block (w := w) (hb.block b h2)).trans a1, Arg.mono a2 hb⟩⟩

theorem Arg.widen {w : World} {s s' : Nat} {v : Value} {r : List Int} (h : Arg w s v r) (hs : s ≤ s') : Arg w s' v r := by
  obtain ⟨ao, c, h1, h2, h3, h4⟩ := h
  refine ⟨ao, c, h1, h2, h3, ?_⟩
  rcases h4 with h4 | ⟨b, off, a1, a2, a3⟩
  · exact .inl h4
  · exact .inr ⟨b, off, a1, by omega, a3⟩

theorem Args.widen {w : World} {s s' : Nat} {ao : Option Addr} {rs : List (List Int)} (h : Args w s ao rs) (hs : s ≤ s') : Args w s' ao rs := by
  rcases h with h | ⟨b, off, h1, h2, h3⟩
  · exact .inl h
  · exact .inr ⟨b, off, h1, by omega, fun i r hi => by
      obtain ⟨v, a1, a2⟩ := h3 i r hi
      exact ⟨v, a1, a2.widen hs⟩⟩

set_option maxHeartbeats 2000000 in
theorem command_any (s : Nat) (all : List Int) (ao : Option Addr) (m c : Nat) (rs : List (List Int)) (hm : Hid (rs.length = m)) (w : World) (h : St w s (bv all)) (hT : Tab s w) (hlim : all.length ≤ 1099511627776) (hm1 : m ≤ 65536) (htot : tot rs ≤ 1048576) (ha : Args w s ao rs) :
    Calls Tryd.prog 7 #[.pointer (some ⟨s + 3, 0, none⟩), .slice ao m c] w fun e w' => e = .returned (.tuple #[]) ∧ St w' s (bv (all ++ cmdI rs)) ∧ Below s w w' := by
  have HH : Hid (St w s (bv all)) := h
  have HT : Hid (Tab s w) := hT
  have HA : Hid (Args w s ao rs) := ha
  have hl := itoa_len m (by omega)
  clear h hT ha
  have hrl : ∀ r ∈ rs, r.length ≤ 1048576 := fun r hr => Nat.le_trans (len_tot rs r hr) htot
  have HR : Hid _ := hrl
  clear hrl
  have hhl : (hdrI 42 m).length ≤ 23 := hdrI_len 42 m (by omega)
  go_enter Tryd.func7, Tryd.ntmps7
  go_wp2_with fail
  refine (itoa_any m (by omega) s w HT.out).mono ?_
  rintro e w1 ⟨rfl, hb1⟩
  have K1 : Hid (Below s w w1) := Below.of_le hb1 (by have := HH.out.sz; omega)
  have H1 : Hid (St w1 s (bv all)) := HH.out.up hb1
  clear hb1
  go_wp2_with fail
  refine (line_any s (bv all) 42 ⟨(Lib.itoa m).toArray⟩ w1 H1.out (by rw [bv_len]; omega) (by simpa [ByteArray.size] using Nat.le_trans hl (by decide))).mono ?_
  rintro e w2 ⟨rfl, h2, k2⟩
  have H2 : Hid (St w2 s (bv (all ++ hdrI 42 m))) := by
    show St _ _ _
    rw [bv_append, bv_hdr]
    exact h2
  have K2 : Hid (Below s w w2) := K1.out.trans k2
  clear h2 k2 K1 H1
  go_wp2_with fail
  go_loopw [13] (fun i wr => ∃ j : Nat, j ≤ m ∧ i = .int .i64 j ∧ Hid (St wr s (bv (all ++ hdrI 42 m ++ bodyI (rs.take j)))) ∧ Hid (Below s w wr)) (fun i _ => m - (RowKit.intOf i).toNat)
  case atStart => exact ⟨0, Nat.zero_le _, rfl, by show St _ _ _; rw [List.take_zero]; simpa [bodyI] using H2.out, K2⟩
  case round =>
    obtain ⟨j, hj, rfl, hst, hbel⟩ := hrel
    by_cases hlt : j < m
    · have hjl : j < rs.length := by rw [hm.out]; exact hlt
      have hlt' : (j : Int) < (m : Int) := by omega
      obtain ⟨r, hr⟩ : ∃ r, rs[j]? = some r := ⟨_, List.getElem?_eq_getElem hjl⟩
      obtain ⟨b, off, rfl, hbs, hat⟩ : ∃ b off, ao = some ⟨b, off, none⟩ ∧ b < s ∧ ∀ i r, rs[i]? = some r → ∃ v, wr.cell? ⟨b, off + i, none⟩ = some v ∧ Arg wr s v r := by
        rcases (Args.mono HA.out hbel.out) with h0 | h0
        · rw [h0] at hjl; simp at hjl
        · exact h0
      obtain ⟨v, hc, harg⟩ := hat j r hr
      obtain ⟨ar, cr, rfl, g1, g2, g3⟩ := harg
      have HAr : Hid (Arg wr s (.slice ar r.length cr) r) := ⟨ar, cr, rfl, g1, g2, g3⟩
      have hrlen : r.length ≤ 1048576 := HR.out r (List.mem_of_getElem? hr)
      have hnext : Hid (rs.take (j + 1) = rs.take j ++ [r]) := by
        show _ = _
        rw [List.take_succ_eq_append_getElem hjl]
        rw [List.getElem?_eq_getElem hjl] at hr
        rw [Option.some.inj hr]
      have hbl : (bodyI (rs.take j)).length ≤ 2097152 := Nat.le_trans (body_len _ (fun x hx => HR.out x (List.mem_of_mem_take hx))) (by have := tot_take rs j; omega)
      obtain ⟨mr, hmr⟩ : ∃ mr, r.length = mr := ⟨_, rfl⟩
      rw [hmr] at hc hrlen HAr
      have HMr : Hid (r.length = mr) := hmr
      clear hmr hat hr g1 g2 g3
      go_wp2_with fail
      refine (bulk_any s _ ar mr cr r HMr wr hst.out (HT.out.on hbel.out) (by rw [bv_len]; simp only [List.length_append]; omega) hrlen HAr.out).mono ?_
      rintro e w3 ⟨rfl, h3, k3⟩
      have H3 : Hid (St w3 s (bv (all ++ hdrI 42 m ++ bodyI (rs.take (j + 1))))) := by
        show St _ _ _
        rw [hnext.out, body_snoc, ← List.append_assoc, bv_append, bv_bulk]
        exact h3
      have K3 : Hid (Below s w w3) := hbel.out.trans k3
      clear h3 k3
      go_wp2
      go_roundw
      case rel => exact ⟨j + 1, by omega, by go_num, H3, K3⟩
      case measure => simp [RowKit.intOf]; omega
    · have hnl : ¬ (j : Int) < (m : Int) := by omega
      go_wp2
      go_end0
      refine ⟨rfl, ?_, hbel.out⟩
      have := hst.out
      rw [List.take_of_length_le (by have := hm.out; omega), List.append_assoc] at this
      rw [cmdI, hm.out]
      exact this

set_option maxHeartbeats 2000000 in
theorem flushed_any (s : Nat) (all : List Int) (w : World) (h : St w s (bv all)) (hlim : all.length ≤ 1099511627776) (h0 : all ≠ []) :
    Calls Tryd.prog 8 #[.pointer (some ⟨s + 3, 0, none⟩), .pointer (some ⟨s, 0, none⟩)] w fun e w' => ∃ v, e = .returned v ∧ Arg w' w'.heap.size v all ∧ Below s w w' := by
  have c0 := h.cell
  have HH : Hid (St w s (bv all)) := h
  clear h
  obtain ⟨out, pend, he, hw⟩ := HH.out.wa
  have HE : Hid _ := he
  have HW : Hid _ := hw
  clear he hw
  go_enter Tryd.func8, Tryd.ntmps8
  go_wp2_with fail
  refine (flush_any hGN hGR s (s + 1) (s + 2) (s + 4) out pend w HW.out (by have := congrArg List.length HE.out; rw [List.length_append, bv_len] at this; omega)).mono ?_
  rintro e w1 ⟨rfl, h1, k1⟩
  have K1 : Hid (Below s w w1) := k1.below
  have h2 := h1.buf
  rw [HE.out] at h2
  obtain ⟨v, lr, hh, hv⟩ := h2
  rcases hv with ⟨_, hv⟩ | ⟨g, cap, cur, rfl, hl1, hlo, hg, hle, hcm, hcs, htk⟩
  · exact absurd (by simpa [bv] using hv) h0
  have HG : Hid _ := hg
  have HTk : Hid _ := htk
  have HHd : Hid (Head w1 s (.slice (some ⟨g, 0, none⟩) (bv all).length cap) lr) := hh
  clear h1 k1 htk hg hh
  go_wp2_with fail
  refine (bytes_any s _ (bv all).length cap lr w1 HHd.out hle hcm).mono ?_
  rintro e w2 ⟨rfl, q, rfl⟩
  go_wp2_with fail
  go_ret
  refine ⟨_, rfl, ⟨some ⟨g, 0, none⟩, cap, by rw [bv_len]; rfl, by rw [← bv_len all]; exact hle, hcm, .inr ⟨g, 0, rfl, (Array.getElem?_eq_some_iff.1 HG.out).1, fun j z hj => ?_⟩⟩, K1.out.os, K1.out.tape, K1.out.output, K1.out.size, K1.out.block⟩
  have hjl : j < all.length := (List.getElem?_eq_some_iff.1 hj).1
  have hbj : (bv all)[j]? = some (.int .u8 z) := by rw [bv, List.getElem?_map, hj]; rfl
  rw [← HTk.out, List.getElem?_take_of_lt (by rw [bv_len]; exact hjl)] at hbj
  have hg1 : w1.heap[g]? = some (.cells cur 5 (0, 0)) := HG.out
  simp only [World.cell?, World.drewN, hg1, Nat.zero_add]
  simpa using hbj

set_option maxHeartbeats 2000000 in
theorem cmdbytes_any (ao : Option Addr) (m c : Nat) (rs : List (List Int)) (hm : Hid (rs.length = m)) (w : World) (hT : Tab w.heap.size w) (hm1 : m ≤ 65536) (htot : tot rs ≤ 1048576) (ha : Args w w.heap.size ao rs) :
    Calls Tryd.prog 5 #[.slice ao m c] w fun e w' => ∃ v, e = .returned v ∧ Arg w' w'.heap.size v (cmdI rs) ∧ Below w.heap.size w w' := by
  have HT : Hid (Tab w.heap.size w) := hT
  have HA : Hid (Args w w.heap.size ao rs) := ha
  clear hT ha
  obtain ⟨s, hs⟩ : ∃ s, s = w.heap.size := ⟨_, rfl⟩
  obtain ⟨f1, f2, f3⟩ := fresh_st w
  have F1 : Hid _ := f1
  have F2 : Hid _ := f2
  clear f1 f2 f3
  have hnew := newbuf_any w
  rw [← hs] at HT HA F1 F2 hnew ⊢
  have HS : Hid _ := hs
  clear hs
  go_enter Tryd.func5, Tryd.ntmps5
  go_wp2_with fail
  refine hnew.mono ?_
  rintro e w1 ⟨rfl, hw1⟩
  rw [hw1] at F1 F2
  clear hnew hw1
  go_wp2_with fail
  refine (command_any s [] ao m c rs hm w1 F1.out (HT.out.on F2.out) (by simp) hm1 htot (Args.mono HA.out F2.out)).mono ?_
  rintro e w2 ⟨rfl, h2, k2⟩
  have H2 : Hid (St w2 s (bv (cmdI rs))) := h2
  have K2 : Hid (Below s w w2) := F2.out.trans k2
  clear h2 k2
  have hlen : (cmdI rs).length ≤ 4194304 := by
    rw [cmdI, List.length_append]
    have h1 := hdrI_len 42 rs.length (by have := hm.out; omega)
    have h2 := body_len rs (fun r hr => Nat.le_trans (len_tot rs r hr) htot)
    omega
  go_wp2_with fail
  refine (flushed_any s (cmdI rs) w2 H2.out (by omega) (by simp [cmdI, hdrI])).mono ?_
  rintro e w3 ⟨v, rfl, h3, k3⟩
  have H3 : Hid _ := h3
  have K3 : Hid (Below s w w3) := K2.out.trans k3
  clear h3 k3
  go_wp2_with fail
  go_ret
  exact ⟨_, rfl, H3.out, K3.out⟩

end Go.Proofs.Qxb6616880aDoor
