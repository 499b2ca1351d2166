/- The law (3). -/
import Derived.Test.Qxb6616880aDoorExt
import Derived.Deep.CutRange
namespace Go.Proofs.Qxb6616880aDoor
open Go.RowKit
set_option linter.unusedVariables false
set_option linter.unusedSimpArgs false

theorem tot_next {rs : List (List Int)} {j : Nat} {r : List Int} (h : rs[j]? = some r) : tot (rs.take (j + 1)) = tot (rs.take j) + (24 + r.length) := by
  obtain ⟨hj, he⟩ := List.getElem?_eq_some_iff.1 h
  rw [List.take_succ_eq_append_getElem hj, he]
  simp [tot]

/-- The offset of 'x[k:]'. -/
def dropO (c k off : Nat) : Nat := if c = k then off else off + k

theorem Sl.dropIf {w : World} {s b off n c : Nat} {r : List Int} (h : Sl w s b off n c r) {k : Nat} (hk : k ≤ n) : Sl w s b (dropO c k off) (n - k) (c - k) (r.drop k) := by
  unfold dropO
  split
  · have h1 := h.nc
    have h2 := h.len
    refine ⟨by rw [List.length_drop, h.len], by omega, by have := h.cm; omega, h.bs, fun j z hj => ?_⟩
    rw [List.drop_eq_nil_of_le (by omega)] at hj
    simp at hj
  · exact h.drop hk

set_option maxHeartbeats 8000000 in
set_option maxRecDepth 100000 in
theorem law_any (ao : Option Addr) (m c : Nat) (k : Int) (rs : List (List Int)) (hm : Hid (rs.length = m)) (hmc : m ≤ c) (hcx : c ≤ 9223372036854775807) (w : World) (ha : Hid (Args w w.heap.size ao rs)) (hT : Hid (Tab w.heap.size w)) :
    Calls Tryd.prog 3 #[.slice ao m c, .int .i64 k] w fun e w' => e = .returned (.bool true) ∧ Below w.heap.size w w' := by
  have i0 : (m : Int) ≤ (c : Int) := by omega
  have i1 : (c : Int) ≤ 9223372036854775807 := by omega
  go_enter Tryd.func3, Tryd.ntmps3
  go_wp2_with fail
  refine (bytes_bound ao m c w.heap.size k rs hm (by omega) w ha.out).mono ?_
  rintro e w' ⟨⟨b, rfl, hb⟩, rfl⟩
  cases b
  · clear hb
    go_wp2_with fail
    go_ret
    exact ⟨rfl, Below.refl _ _⟩
  have HL : Hid (∀ r ∈ rs, r.length ≤ 1048576) := hb rfl
  clear hb
  by_cases hbig0 : 65536 < m
  · have i2 : ¬ (m : Int) ≤ 65536 := by omega
    go_wp2_with fail
    go_ret
    exact ⟨rfl, Below.refl _ _⟩
  have hbig : m ≤ 65536 := by omega
  clear hbig0
  have i2 : (m : Int) ≤ 65536 := by omega
  go_wp2_with fail
  go_loopw [5, 6] (fun t i wr => ∃ j z : Nat, j ≤ m ∧ z ≤ 1048576 ∧ t = .int .i64 z ∧ i = .int .i64 j ∧ w = wr ∧ Hid (z = tot (rs.take j))) (fun _ i _ => m - (intOf i).toNat)
  case atStart => exact ⟨0, 0, Nat.zero_le _, by omega, rfl, rfl, rfl, by show _ = _; simp [tot]⟩
  case round =>
    obtain ⟨j, z, hj, hz, rfl, rfl, rfl, hzt⟩ := hrel
    have i4 : (z : Int) ≤ 1048576 := by omega
    by_cases hlt : j < m
    · have hjl : j < rs.length := by rw [hm.out]; exact hlt
      have hlt' : (j : Int) < (m : Int) := by omega
      obtain ⟨b, off, ar, mr, cr, r, rfl, hr, hc, hmr, hmx2⟩ := Args.get ha.out hjl
      have hr1 : mr ≤ 1048576 := by rw [← hmr.out]; exact HL.out r (List.mem_of_getElem? hr)
      have i3 : (mr : Int) ≤ 1048576 := by omega
      have hnext : Hid (z + (24 + mr) = tot (rs.take (j + 1))) := by
        show _ = _
        rw [tot_next hr, hmr.out, hzt.out]
      clear hr
      by_cases h2 : z + (24 + mr) ≤ 1048576
      · have i5 : (z : Int) + (24 + (mr : Int)) ≤ 1048576 := by omega
        go_wp2_with fail
        go_roundw
        case rel => exact ⟨j + 1, z + (24 + mr), by omega, h2, by go_num, by go_num, by trivial, hnext⟩
        case measure => simp [intOf]; omega
      · have i5 : ¬ (z : Int) + (24 + (mr : Int)) ≤ 1048576 := by omega
        go_wp2_with fail
        go_ret
        exact ⟨rfl, Below.refl _ _⟩
    · have hnl : ¬ (j : Int) < (m : Int) := by omega
      have htot : Hid (tot rs ≤ 1048576) := by
        have := hzt.out
        rw [List.take_of_length_le (by have := hm.out; omega)] at this
        show _ ≤ _
        omega
      clear hzt
      by_cases hk0 : k < 0
      · go_wp2_with fail
        go_ret
        exact ⟨rfl, Below.refl _ _⟩
      by_cases hk2 : (m : Int) < k
      · go_wp2_with fail
        go_ret
        exact ⟨rfl, Below.refl _ _⟩
      have hk1 : k ≤ (m : Int) := by omega
      clear hk2
      obtain ⟨kn, rfl⟩ : ∃ kn : Nat, k = kn := ⟨k.toNat, by omega⟩
      have hkm : kn ≤ m := by omega
      clear hk0
      -- all
      go_wp2_with fail
      refine (cmdbytes_sl ao m c rs hm w hT.out hbig htot.out ha.out).mono ?_
      rintro e w1 ⟨ba, fa, na, ca, rfl, Sa, hna, E1⟩
      have E1' : Hid (Ext w w1) := E1
      -- left
      have hlk : Hid ((rs.take kn).length = kn) := by
        show _ = _
        rw [List.length_take]
        have := hm.out
        omega
      have hld : Hid ((rs.drop kn).length = m - kn) := by
        show _ = _
        rw [List.length_drop, hm.out]
      have htk : Hid (tot (rs.take kn) ≤ 1048576) := Nat.le_trans (tot_take rs kn) htot.out
      have htd : Hid (tot (rs.drop kn) ≤ 1048576) := Nat.le_trans (tot_drop rs kn) htot.out
      have hdc : rs.length ≤ c := by rw [hm.out]; exact hmc
      have HDC : Hid (rs.length ≤ c) := hdc
      clear hdc
      have hdA : (if c = kn then ao else Option.map (fun x => x.add kn) ao) = dropA ao c kn := rfl
      go_wp2_with fail
      refine (cmdbytes_sl ao kn c (rs.take kn) hlk w1 (Tab.ext hT.out E1.out) (by omega) htk.out ((Args.ext ha.out E1.out).take kn)).mono ?_
      rintro e w2 ⟨bl, fl, nl, cl, rfl, Sl2, hnl2, E2⟩
      have E02 : Hid (Ext w w2) := E1.out.trans E2.out
      -- right
      go_wp2_with fail
      refine (cmdbytes_sl (dropA ao c kn) (m - kn) (c - kn) (rs.drop kn) hld w2 (Tab.ext hT.out E02.out) (by omega) htd.out ((Args.ext ha.out E02.out).drop HDC.out)).mono ?_
      rintro e w3 ⟨b3, f3, n3, c3, rfl, Sr, hn3, E3⟩
      have E03 : Hid (Ext w w3) := E02.out.trans E3.out
      have SL3 : Hid (Sl w3 w3.heap.size bl fl nl cl (cmdI (rs.take kn))) := Sl2.out.ext E3.out
      have SA3 : Hid (Sl w3 w3.heap.size ba fa na ca (cmdI rs)) := Sa.out.ext (E2.out.trans E3.out)
      have A3 : Hid (Args w3 w3.heap.size ao rs) := Args.ext ha.out E03.out
      have T3 : Hid (Tab w3.heap.size w3) := Tab.ext hT.out E03.out
      clear Sa Sl2 E1 E1' E2 E02 E3
      -- both
      have hnew := newbuf_any w3
      obtain ⟨g1, g2, _⟩ := fresh_st w3
      have F1 : Hid (St (fresh w3) w3.heap.size []) := g1
      have F2 : Hid (Below w3.heap.size w3 (fresh w3)) := g2
      clear g1 g2
      obtain ⟨s, hs⟩ : ∃ s, s = w3.heap.size := ⟨_, rfl⟩
      have HS : Hid (s = w3.heap.size) := hs
      rw [← hs] at hnew F1 F2 A3 T3
      clear hs
      go_wp2_with fail
      refine hnew.mono ?_
      rintro e w4 ⟨rfl, hw4⟩
      rw [hw4] at F1 F2
      clear hnew hw4
      go_wp2_with fail
      refine (command_any s [] ao kn c (rs.take kn) hlk w4 F1.out (T3.out.on F2.out) (by simp) (by omega) htk.out ((Args.mono A3.out F2.out).take kn)).mono ?_
      rintro e w5 ⟨rfl, h5, k5⟩
      have H5 : Hid (St w5 s (bv (cmdI (rs.take kn)))) := h5
      have K5 : Hid (Below s w3 w5) := F2.out.trans k5
      clear h5 k5 F1 F2
      have hlenk := cmd_len (rs.take kn) htk.out
      have hlend := cmd_len (rs.drop kn) htd.out
      go_wp2_with fail
      refine (command_any s (cmdI (rs.take kn)) (dropA ao c kn) (m - kn) (c - kn) (rs.drop kn) hld w5 H5.out (T3.out.on K5.out) (by omega) (by omega) htd.out ((Args.mono A3.out K5.out).drop HDC.out)).mono ?_
      rintro e w6 ⟨rfl, h6, k6⟩
      have H6 : Hid (St w6 s (bv (cmdI (rs.take kn) ++ cmdI (rs.drop kn)))) := h6
      have K6 : Hid (Below s w3 w6) := K5.out.trans k6
      clear h6 k6 H5 K5
      go_wp2_with fail
      refine (flushed_any s (cmdI (rs.take kn) ++ cmdI (rs.drop kn)) w6 H6.out (by rw [List.length_append]; omega) (by intro h; exact cmd_ne _ (List.append_eq_nil_iff.1 h).1)).mono ?_
      rintro e w7 ⟨v7, rfl, h7, k7⟩
      obtain ⟨b7, f7, n7, c7, rfl, hsl7⟩ := h7.sl (by intro h; exact cmd_ne _ (List.append_eq_nil_iff.1 h).1)
      have S7 : Hid (Sl w7 w7.heap.size b7 f7 n7 c7 (cmdI (rs.take kn) ++ cmdI (rs.drop kn))) := hsl7
      have E37 : Hid (Ext w3 w7) := by
        show Below _ _ _
        rw [← HS.out]
        exact K6.out.trans k7
      clear h7 k7 hsl7 H6 K6 A3 T3 HS
      have E07 : Hid (Ext w w7) := E03.out.trans E37.out
      have SA7 : Hid (Sl w7 w7.heap.size ba fa na ca (cmdI rs)) := SA3.out.ext E37.out
      have SL7 : Hid (Sl w7 w7.heap.size bl fl nl cl (cmdI (rs.take kn))) := SL3.out.ext E37.out
      have SR7 : Hid (Sl w7 w7.heap.size b3 f3 n3 c3 (cmdI (rs.drop kn))) := Sr.out.ext E37.out
      clear SA3 SL3 Sr E37 E03 ha hT
      -- the headers
      have hsub : (m : Int) - (kn : Int) = ((m - kn : Nat) : Int) := by omega
      go_wp2_with fail
      refine (headercrlf_sl m (by omega) w7).mono ?_
      rintro e w8 ⟨gn, cn, ln, rfl, Sn, hln, E78⟩
      go_wp2_with fail
      refine (headercrlf_sl kn (by omega) w8).mono ?_
      rintro e w9 ⟨gk, ck, lk, rfl, Sk, hlk9, E89⟩
      go_wp2_with fail
      refine (headercrlf_sl (m - kn) (by omega) w9).mono ?_
      rintro e w10 ⟨gm, cm, lm, rfl, Sm, hlm, E910⟩
      have E710 : Hid (Ext w7 w10) := (E78.out.trans E89.out).trans E910.out
      have E010 : Hid (Ext w w10) := E07.out.trans E710.out
      have SA : Hid (Sl w10 w10.heap.size ba fa na ca (cmdI rs)) := SA7.out.ext E710.out
      have SL : Hid (Sl w10 w10.heap.size bl fl nl cl (cmdI (rs.take kn))) := SL7.out.ext E710.out
      have SR : Hid (Sl w10 w10.heap.size b3 f3 n3 c3 (cmdI (rs.drop kn))) := SR7.out.ext E710.out
      have SB : Hid (Sl w10 w10.heap.size b7 f7 n7 c7 (cmdI (rs.take kn) ++ cmdI (rs.drop kn))) := S7.out.ext E710.out
      have SN : Hid (Sl w10 w10.heap.size gn 0 ln cn (hdrI 42 m)) := Sn.out.ext (E89.out.trans E910.out)
      have SK : Hid (Sl w10 w10.heap.size gk 0 lk ck (hdrI 42 kn)) := Sk.out.ext E910.out
      have SM : Hid (Sl w10 w10.heap.size gm 0 lm cm (hdrI 42 (m - kn))) := Sm
      clear SA7 SL7 SR7 S7 Sn Sk Sm E78 E89 E910 E710 E07
      -- the prefixes
      go_wp2_with fail
      refine (prefix_any bl fl nl cl gk 0 lk ck w10.heap.size _ _ w10 SL.out SK.out ⟨bodyI (rs.take kn), by rw [cmdI, hlk.out]⟩ (by omega)).mono ?_
      rintro e w11 ⟨rfl, q11, hq11⟩
      have E11 : Hid (Ext w10 w11) := by rw [hq11]; exact (Ext.refl w10).drewN q11
      have SR11 : Hid (Sl w11 w11.heap.size b3 f3 n3 c3 (cmdI (rs.drop kn))) := SR.out.ext E11.out
      have SM11 : Hid (Sl w11 w11.heap.size gm 0 lm cm (hdrI 42 (m - kn))) := SM.out.ext E11.out
      clear hq11
      go_wp2_with fail
      refine (prefix_any b3 f3 n3 c3 gm 0 lm cm w11.heap.size _ _ w11 SR11.out SM11.out ⟨bodyI (rs.drop kn), by rw [cmdI, hld.out]⟩ (by omega)).mono ?_
      rintro e w12 ⟨rfl, q12, hq12⟩
      have E12 : Hid (Ext w10 w12) := by rw [hq12]; exact E11.out.drewN q12
      clear hq12 SR11 SM11 E11
      have E012 : Hid (Ext w w12) := E010.out.trans E12.out
      have TA : Hid (Sl w12 w12.heap.size ba fa na ca (cmdI rs)) := SA.out.ext E12.out
      have TL : Hid (Sl w12 w12.heap.size bl fl nl cl (cmdI (rs.take kn))) := SL.out.ext E12.out
      have TR : Hid (Sl w12 w12.heap.size b3 f3 n3 c3 (cmdI (rs.drop kn))) := SR.out.ext E12.out
      have TB : Hid (Sl w12 w12.heap.size b7 f7 n7 c7 (cmdI (rs.take kn) ++ cmdI (rs.drop kn))) := SB.out.ext E12.out
      have TN : Hid (Sl w12 w12.heap.size gn 0 ln cn (hdrI 42 m)) := SN.out.ext E12.out
      -- the lengths
      have hl1 : lk ≤ nl := by
        rw [← SK.out.len, ← SL.out.len, cmdI, hlk.out, List.length_append]
        omega
      have hl2 : lm ≤ n3 := by
        rw [← SM.out.len, ← SR.out.len, cmdI, hld.out, List.length_append]
        omega
      have hc1 : nl ≤ cl := SL.out.nc
      have hc2 : n3 ≤ c3 := SR.out.nc
      have hc3 : cl ≤ 9223372036854775807 := SL.out.cm
      have hc4 : c3 ≤ 9223372036854775807 := SR.out.cm
      have UL : Hid (Sl w12 w12.heap.size bl (dropO cl lk fl) (nl - lk) (cl - lk) ((cmdI (rs.take kn)).drop lk)) := TL.out.dropIf hl1
      have UR : Hid (Sl w12 w12.heap.size b3 (dropO c3 lm f3) (n3 - lm) (c3 - lm) ((cmdI (rs.drop kn)).drop lm)) := TR.out.dropIf hl2
      have HW : Hid (cmdI rs = hdrI 42 m ++ ((cmdI (rs.take kn)).drop lk ++ (cmdI (rs.drop kn)).drop lm)) := by
        show _ = _
        have := cmd_split rs kn (by rw [hm.out]; exact hkm)
        rw [hm.out, SK.out.len, SM.out.len] at this
        exact this
      have HLA : Hid (ln + (nl - lk + (n3 - lm)) = na) := by
        show _ = _
        have h1 := congrArg List.length HW.out
        rw [List.length_append, List.length_append, List.length_drop, List.length_drop, SA.out.len, SN.out.len, SL.out.len, SR.out.len] at h1
        omega
      have HLB : Hid (nl + n3 = n7) := by
        show _ = _
        rw [← SB.out.len, List.length_append, SL.out.len, SR.out.len]
      clear SA SL SR SB SN SK SM E12 E010
      have r1 : (if cl = lk then some (⟨bl, fl, none⟩ : Addr) else some ⟨bl, fl + lk, none⟩) = some ⟨bl, dropO cl lk fl, none⟩ := by unfold dropO; split <;> rfl
      have r2 : (if c3 = lm then some (⟨b3, f3, none⟩ : Addr) else some ⟨b3, f3 + lm, none⟩) = some ⟨b3, dropO c3 lm f3, none⟩ := by unfold dropO; split <;> rfl
      have j1 : (lk : Int) ≤ (nl : Int) := by omega
      have j2 : (lm : Int) ≤ (n3 : Int) := by omega
      have j3 : (nl : Int) ≤ (cl : Int) := by omega
      have j4 : (n3 : Int) ≤ (c3 : Int) := by omega
      have hna2 := HLA.out
      subst hna2
      have hn72 := HLB.out
      subst hn72
      have hcat1 := concat_sl bl (dropO cl lk fl) (nl - lk) (cl - lk) b3 (dropO c3 lm f3) (n3 - lm) (c3 - lm) _ _ w12.drew (UL.out.drewN 1) (UR.out.drewN 1) (by omega) (by omega)
      have hcat2 : ∀ (w13 : World) (g13 c13 : Nat) (r : List Int), Hid (Sl w13 w13.heap.size g13 0 (nl - lk + (n3 - lm)) c13 r) → Hid (Ext w12.drew w13) → Calls Tryd.prog 11 #[.slice (some ⟨gn, 0, none⟩) ln cn, .slice (some ⟨g13, 0, none⟩) (nl - lk + (n3 - lm)) c13] w13 fun e w' => ∃ g c, e = .returned (.slice (some ⟨g, 0, none⟩) (ln + (nl - lk + (n3 - lm))) c) ∧ Hid (Sl w' w'.heap.size g 0 (ln + (nl - lk + (n3 - lm))) c (hdrI 42 m ++ r)) ∧ Hid (Ext w13 w') :=
        fun w13 g13 c13 r h e => concat_sl gn 0 ln cn g13 0 (nl - lk + (n3 - lm)) c13 _ _ w13 ((TN.out.drewN 1).ext e.out) h.out (by omega) (by omega)
      have C1 := Lib.hid hcat1
      have C2 := Lib.hid hcat2
      clear hcat1 hcat2
      go_upto_region 27 with fail
      go_cut [17] from 96 to 106 (fun s17 wx => ∃ g c, s17 = .slice (some ⟨g, 0, none⟩) (ln + (nl - lk + (n3 - lm))) c ∧ Hid (Sl wx wx.heap.size g 0 (ln + (nl - lk + (n3 - lm))) c (hdrI 42 m ++ ((cmdI (rs.take kn)).drop lk ++ (cmdI (rs.drop kn)).drop lm))) ∧ Hid (Ext w12 wx))
      case first =>
        clear hm hlk hld htk htd htot HDC hdA HL i4 hsub hlenk hlend E012 HW TA TB TL TR TN UL UR
        go_region_with (
          go_at_call 11
          first
          | (with_reducible refine C1.out.mono ?_
             rintro e w13 ⟨g13, c13, rfl, S13, E13⟩)
          | (with_reducible refine (C2.out w13 g13 c13 _ S13 E13).mono ?_
             rintro e w14 ⟨g14, c14, rfl, S14, E14⟩))
        all_goals
          go_wp2_with fail
          go_meet
          exact ⟨g14, c14, rfl, S14, ((Ext.refl w12).drewN 1).trans (E13.out.trans E14.out)⟩
      case rest =>
        obtain ⟨g, cw, rfl, SW, EW⟩ := hcut
        have SW' : Hid (Sl wc wc.heap.size g 0 (ln + (nl - lk + (n3 - lm))) cw (cmdI rs)) := by
          show Sl _ _ _ _ _ _ _
          rw [HW.out]
          exact SW.out
        have VA : Hid (Sl wc wc.heap.size ba fa (ln + (nl - lk + (n3 - lm))) ca (cmdI rs)) := TA.out.ext EW.out
        clear SW C1 C2 UL UR TN HW r1 r2
        go_wp2_with fail
        refine (equal_any ba fa ca g 0 cw (ln + (nl - lk + (n3 - lm))) wc.heap.size (cmdI rs) wc VA.out SW'.out (by omega)).mono ?_
        rintro e w15 ⟨rfl, q15, hq15⟩
        have E15 : Hid (Ext w12 w15) := by rw [hq15]; exact EW.out.drewN q15
        have VL : Hid (Sl w15 w15.heap.size bl fl nl cl (cmdI (rs.take kn))) := TL.out.ext E15.out
        have VR : Hid (Sl w15 w15.heap.size b3 f3 n3 c3 (cmdI (rs.drop kn))) := TR.out.ext E15.out
        clear hq15 VA SW' EW
        go_wp2_with fail
        refine (concat_sl bl fl nl cl b3 f3 n3 c3 _ _ w15 VL.out VR.out (by omega) (by omega)).mono ?_
        rintro e w16 ⟨g16, c16, rfl, S16, E16⟩
        have VB : Hid (Sl w16 w16.heap.size b7 f7 (nl + n3) c7 (cmdI (rs.take kn) ++ cmdI (rs.drop kn))) := TB.out.ext (E15.out.trans E16.out)
        go_wp2_with fail
        refine (equal_any b7 f7 c7 g16 0 c16 (nl + n3) w16.heap.size _ w16 VB.out S16.out (by omega)).mono ?_
        rintro e w17 ⟨rfl, q17, hq17⟩
        have E17 : Hid (Ext w w17) := by rw [hq17]; exact (E012.out.trans (E15.out.trans E16.out)).drewN q17
        clear hq17
        go_wp2_with fail
        go_ret
        exact ⟨rfl, E17.out⟩

end Go.Proofs.Qxb6616880aDoor
