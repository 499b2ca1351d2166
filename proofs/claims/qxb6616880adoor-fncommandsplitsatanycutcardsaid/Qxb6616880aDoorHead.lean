/- zzHeader (19), zzHeaderCRLF (9). -/
import Derived.Test.Qxb6616880aDoorItoa
namespace Go.Proofs.Qxb6616880aDoor
open Go.RowKit
set_option linter.unusedVariables false
set_option linter.unusedSimpArgs false

theorem new_byte (w : World) (cs : List Int) : ∀ j u, (bv cs)[j]? = some u → (w.alloc (.cells (bv cs).toArray 5)).cell? ((⟨w.heap.size, 0, none⟩ : Addr).add j) = some u := by
  intro j u h
  rw [Addr.add_lit, World.cell?_alloc_new, Nat.zero_add, ← h, List.getElem?_toArray]

theorem owns_below {w w' : World} {B n : Nat} {v : Value} {xs : List Value} (h : w.ownsRow B 5 1 v n xs) (hb : Below w.heap.size w w') : w'.ownsRow B 5 1 v n xs := by
  obtain ⟨hl, h0 | ⟨g, cap, cur, hv, hg, hh, r⟩⟩ := h
  · exact ⟨hl, .inl h0⟩
  · exact ⟨hl, .inr ⟨g, cap, cur, hv, hg, (hb.block g (Array.getElem?_eq_some_iff.1 hh).1).trans hh, r⟩⟩

set_option maxHeartbeats 2000000 in
set_option maxRecDepth 100000 in
theorem header_any (c : Int) (n : Nat) (hn : n ≤ 1048576) (w : World) :
    Calls Tryd.prog 19 #[.int .u8 c, .int .i64 n] w fun e w' => ∃ v k, e = .returned v ∧ w'.ownsRow w.heap.size 5 1 v k (bv (c :: iB (Lib.itoa n))) ∧ v ≠ .slice none 0 0 ∧ k ≤ 40 ∧ Below w.heap.size w w' := by
  obtain ⟨i0, hi, hz0, hz1, hz2⟩ := info_parts Tryd.info5
  have hm := make8 0 24 (by omega) (by omega) w
  have hown0 := owns_made w w.heap.size 24 (Nat.le_refl _) (by unfold maxLen; omega)
  have HO : Hid ((w.alloc (blank8 24)).ownsRow w.heap.size 5 1 (.slice (some ⟨w.heap.size, 0, none⟩) 0 24) 0 []) := hown0
  have HB : Hid (Below w.heap.size w (w.alloc (blank8 24))) := (Below.refl _ _).alloc (Nat.le_refl _) _
  have hil : (iB (Lib.itoa n)).length ≤ 20 := by have := itoa_len n hn; simpa [iB] using this
  clear hown0
  simp only [Int.cast_ofNat_Int] at hm
  go_enter Tryd.func19, Tryd.ntmps19
  go_wp2_with (at_builtin; refine wpList_append_own _ rfl _ _ 24 rfl w.heap.size 5 i0 (.int .u8 0) 1 1 Tryd.underlying24 hi hz0 hz1 hz2 rfl (by decide) _ _ _ rfl (World.ownsRow.alloc HO.out _) ⟨w.heap.size + 1, 0, none⟩ 1 1 (bv [c]) rfl rfl ?c1 (bv_one _) (by unfold maxLen; omega) (by omega) (by simp; omega) ?_)
  case c1 =>
    have t := new_byte (w.alloc (blank8 24)) [c]
    rw [show (w.alloc (blank8 24)).heap.size = w.heap.size + 1 by simp] at t
    exact t
  intro v1 w1 hown1 hgrow1 hnil1
  have HB1 : Hid (Below w.heap.size w w1) := (HB.out.alloc HB.out.size _).grown hgrow1 (by simp; omega) (ownB HO.out)
  have hv1 : v1 ≠ .slice none 0 0 := hnil1
  have HO1 : Hid (w1.ownsRow w.heap.size 5 1 v1 1 (bv [c])) := hown1
  have HV1 : Hid (v1 ≠ .slice none 0 0) := hv1
  clear hown1 hgrow1 hnil1 hv1 HO HB hm
  go_wp2_with fail
  refine (zzitoa_any n hn w1).mono ?_
  rintro e w2 ⟨g, c2, k, rfl, hsl, hb2⟩
  have HS : Hid (Sl w2 w2.heap.size g 0 k c2 (iB (Lib.itoa n))) := hsl
  have hk : k ≤ 20 := by rw [← hsl.len]; exact hil
  have HO2 : Hid (w2.ownsRow w.heap.size 5 1 v1 1 (bv [c])) := owns_below HO1.out hb2
  have HB2 : Hid (Below w.heap.size w w2) := HB1.out.trans (Below.of_le hb2 HB1.out.size)
  clear hsl hb2 HO1 HB1
  go_wp2_with (at_builtin; refine wpList_append_own _ rfl _ _ 24 rfl w.heap.size 5 i0 (.int .u8 0) 1 1 Tryd.underlying24 hi hz0 hz1 hz2 rfl (by decide) _ _ _ rfl HO2.out ⟨g, 0, none⟩ k c2 (bv (iB (Lib.itoa n))) rfl (by rw [bv_len, HS.out.len, Nat.mul_one]) (HS.out.news (Below.refl _ _)) (bv_one _) (by unfold maxLen; omega) (by omega) HB2.out.size ?_)
  intro v3 w3 hown3 hgrow3 hnil3
  have HB3 : Hid (Below w.heap.size w w3) := HB2.out.grown hgrow3 HB2.out.size (ownB HO2.out)
  have HV3 : Hid (v3 ≠ .slice none 0 0) := fun e => HV1.out (by first | exact (hnil3.1 e).1 | exact absurd e hnil3)
  have HO3 : Hid (w3.ownsRow w.heap.size 5 1 v3 (1 + k) (bv (c :: iB (Lib.itoa n)))) := hown3
  clear hown3 hgrow3 hnil3
  go_wp2
  go_ret
  exact ⟨v3, 1 + k, rfl, HO3.out, HV3.out, by omega, HB3.out⟩

theorem pair_new (w : World) : ∀ j u, (bv [13, 10])[j]? = some u → (w.alloc (.cells #[.int .u8 13, .int .u8 10] 5)).cell? ((⟨w.heap.size, 0, none⟩ : Addr).add j) = some u := new_byte w [13, 10]

set_option maxHeartbeats 2000000 in
set_option maxRecDepth 100000 in
theorem headercrlf_any (c : Int) (n : Nat) (hn : n ≤ 1048576) (w : World) :
    Calls Tryd.prog 9 #[.int .u8 c, .int .i64 n] w fun e w' => ∃ g cp k, e = .returned (.slice (some ⟨g, 0, none⟩) k cp) ∧ Sl w' w'.heap.size g 0 k cp (hdrI c n) ∧ Below w.heap.size w w' := by
  obtain ⟨i0, hi, hz0, hz1, hz2⟩ := info_parts Tryd.info5
  go_enter Tryd.func9, Tryd.ntmps9
  go_wp2_with fail
  refine (header_any c n hn w).mono ?_
  rintro e w1 ⟨v, k, rfl, hown, hv, hk, hbel⟩
  have HO : Hid (w1.ownsRow w.heap.size 5 1 v k (bv (c :: iB (Lib.itoa n)))) := hown
  have HV : Hid (v ≠ .slice none 0 0) := hv
  have HB : Hid (Below w.heap.size w w1) := hbel
  clear hown hv hbel
  go_wp2_with (at_builtin; refine wpList_append_own _ rfl _ _ 24 rfl w.heap.size 5 i0 (.int .u8 0) 1 1 Tryd.underlying24 hi hz0 hz1 hz2 rfl (by decide) _ _ _ rfl (World.ownsRow.alloc HO.out _) ⟨w1.heap.size, 0, none⟩ 2 2 (bv [13, 10]) rfl rfl (pair_new w1) (bv_one _) (by unfold maxLen; omega) (by omega) (by have := HB.out.size; simp; omega) ?_)
  intro v3 w3 hown3 hgrow3 hnil3
  have HB3 : Hid (Below w.heap.size w w3) := (HB.out.alloc HB.out.size _).grown hgrow3 (by have := HB.out.size; simp; omega) (ownB HO.out)
  have hv3 : v3 ≠ .slice none 0 0 := fun e => HV.out (by first | exact (hnil3.1 e).1 | exact absurd e hnil3)
  rw [← bv_append] at hown3
  obtain ⟨g, cp, rfl, hsl⟩ := own_sl hown3 hv3
  have HS : Hid (Sl w3 w3.heap.size g 0 (k + 2) cp (hdrI c n)) := hsl
  clear hown3 hgrow3 hnil3 hv3 hsl
  go_wp2
  go_ret
  exact ⟨g, cp, k + 2, rfl, HS.out, HB3.out⟩

end Go.Proofs.Qxb6616880aDoor
