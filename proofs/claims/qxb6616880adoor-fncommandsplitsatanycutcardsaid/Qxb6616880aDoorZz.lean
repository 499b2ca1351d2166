/- zzEqualBytes (12) at equal bytes, zzHasPrefix (10) at a prefix, zzConcat (11). -/
import Derived.Test.Qxb6616880aDoorCmd
namespace Go.Proofs.Qxb6616880aDoor
open Go.RowKit
set_option linter.unusedVariables false
set_option linter.unusedSimpArgs false

/-- The n cells from ⟨b, off⟩ on are the bytes r; the block lies below s. -/
structure Sl (w : World) (s b off n c : Nat) (r : List Int) : Prop where
  len : r.length = n
  nc : n ≤ c
  cm : c ≤ maxLen
  bs : b < s
  at_ : ∀ j z, r[j]? = some z → w.cell? ⟨b, off + j, none⟩ = some (.int .u8 z)

theorem Sl.mono {w w' : World} {s b off n c : Nat} {r : List Int} (h : Sl w s b off n c r) (hb : Below s w w') : Sl w' s b off n c r :=
  ⟨h.len, h.nc, h.cm, h.bs, fun j z hj => (World.cell?_of_block (w := w) (hb.block b h.bs)).trans (h.at_ j z hj)⟩
theorem Sl.widen {w : World} {s s' b off n c : Nat} {r : List Int} (h : Sl w s b off n c r) (hs : s ≤ s') : Sl w s' b off n c r := ⟨h.len, h.nc, h.cm, by have := h.bs; omega, h.at_⟩
theorem Sl.drewN {w : World} {s b off n c : Nat} {r : List Int} (h : Sl w s b off n c r) (q : Nat) : Sl (w.drewN q) s b off n c r := ⟨h.len, h.nc, h.cm, h.bs, h.at_⟩
theorem Sl.get {w : World} {s b off n c : Nat} {r : List Int} (h : Sl w s b off n c r) {j : Nat} (hj : j < n) : ∃ z, r[j]? = some z ∧ w.cell? ⟨b, off + j, none⟩ = some (.int .u8 z) := by
  have hl : j < r.length := by rw [h.len]; exact hj
  exact ⟨r[j], List.getElem?_eq_getElem hl, h.at_ j _ (List.getElem?_eq_getElem hl)⟩
theorem Sl.drop {w : World} {s b off n c : Nat} {r : List Int} (h : Sl w s b off n c r) {k : Nat} (hk : k ≤ n) : Sl w s b (off + k) (n - k) (c - k) (r.drop k) :=
  ⟨by rw [List.length_drop, h.len], by have := h.nc; omega, by have := h.cm; omega, h.bs, fun j z hj => by
    rw [List.getElem?_drop] at hj
    rw [Nat.add_assoc]
    exact h.at_ _ z hj⟩

theorem Arg.sl {w : World} {s : Nat} {v : Value} {r : List Int} (h : Arg w s v r) (h0 : r ≠ []) : ∃ b off n c, v = .slice (some ⟨b, off, none⟩) n c ∧ Sl w s b off n c r := by
  obtain ⟨ao, c, h1, h2, h3, h4⟩ := h
  rcases h4 with h4 | ⟨b, off, rfl, a2, a3⟩
  · exact absurd h4 h0
  · exact ⟨b, off, _, c, h1, rfl, h2, h3, a2, a3⟩

set_option maxHeartbeats 2000000 in
theorem equal_any (b1 o1 c1 b2 o2 c2 n s : Nat) (r : List Int) (w : World) (h1 : Sl w s b1 o1 n c1 r) (h2 : Sl w s b2 o2 n c2 r) (hn : n ≤ 1073741824) :
    Calls Tryd.prog 12 #[.slice (some ⟨b1, o1, none⟩) n c1, .slice (some ⟨b2, o2, none⟩) n c2] w fun e w' => e = .returned (.bool true) ∧ ∃ q, w' = w.drewN q := by
  have H1 : Hid _ := h1
  have H2 : Hid _ := h2
  clear h1 h2
  go_enter Tryd.func12, Tryd.ntmps12
  go_wp2
  go_loopw [5] (fun i wr => ∃ j : Nat, j ≤ n ∧ i = .int .i64 j ∧ ∃ q, wr = w.drewN q) (fun i _ => n - (intOf i).toNat)
  case atStart => exact ⟨0, Nat.zero_le _, rfl, 0, rfl⟩
  case round =>
    obtain ⟨j, hj, rfl, q, rfl⟩ := hrel
    by_cases hlt : j < n
    · have hlt' : (j : Int) < (n : Int) := by omega
      obtain ⟨z, hz, e1⟩ := H1.out.get hlt
      have e2 := H2.out.at_ j z hz
      clear hz
      go_wp2
      go_quiet (fail)
      go_wp2
      go_roundw
      case rel => exact ⟨j + 1, by omega, by go_num, _, rfl⟩
      case measure => simp [intOf]; omega
    · have hnl : ¬ (j : Int) < (n : Int) := by omega
      go_wp2
      go_ret
      exact ⟨rfl, _, rfl⟩

set_option maxHeartbeats 2000000 in
theorem prefix_any (b1 o1 n1 c1 b2 o2 n2 c2 s : Nat) (r1 r2 : List Int) (w : World) (h1 : Sl w s b1 o1 n1 c1 r1) (h2 : Sl w s b2 o2 n2 c2 r2) (hp : ∃ t, r1 = r2 ++ t) (hn : n1 ≤ 1073741824) :
    Calls Tryd.prog 10 #[.slice (some ⟨b1, o1, none⟩) n1 c1, .slice (some ⟨b2, o2, none⟩) n2 c2] w fun e w' => e = .returned (.bool true) ∧ ∃ q, w' = w.drewN q := by
  have hle : n2 ≤ n1 := by
    obtain ⟨t, rfl⟩ := hp
    have := h1.len
    have := h2.len
    simp at *
    omega
  have H1 : Hid _ := h1
  have H2 : Hid _ := h2
  have HP : Hid _ := hp
  clear h1 h2 hp
  have i1 : ¬ (n1 : Int) < (n2 : Int) := by omega
  go_enter Tryd.func10, Tryd.ntmps10
  go_wp2
  go_loopw [5] (fun i wr => ∃ j : Nat, j ≤ n2 ∧ i = .int .i64 j ∧ ∃ q, wr = w.drewN q) (fun i _ => n2 - (intOf i).toNat)
  case atStart => exact ⟨0, Nat.zero_le _, rfl, 0, rfl⟩
  case round =>
    obtain ⟨j, hj, rfl, q, rfl⟩ := hrel
    by_cases hlt : j < n2
    · have hlt' : (j : Int) < (n2 : Int) := by omega
      have hlt2 : (j : Int) < (n1 : Int) := by omega
      obtain ⟨z, hz, e2⟩ := H2.out.get hlt
      have e1 := H1.out.at_ j z (by
        obtain ⟨t, ht⟩ := HP.out
        rw [ht, List.getElem?_append_left (by have := H2.out.len; omega)]
        exact hz)
      clear hz
      go_wp2
      go_quiet (fail)
      go_wp2
      go_roundw
      case rel => exact ⟨j + 1, by omega, by go_num, _, rfl⟩
      case measure => simp [intOf]; omega
    · have hnl : ¬ (j : Int) < (n2 : Int) := by omega
      go_wp2
      go_ret
      exact ⟨rfl, _, rfl⟩

def blank8 (m : Nat) : Obj := .cells (madeCells #[.int .u8 0] m) 5

theorem make8 (k m : Nat) (hk : k ≤ m) (hm : m ≤ 1073741824) (w : World) :
    (Instr.makeSlice 24 (.int .i64 (k : Int)) (.int .i64 (m : Int))).run Tryd.prog w = .ok (.slice (some ⟨w.heap.size, 0, none⟩) k m) (w.alloc (blank8 m)) := by
  obtain ⟨i, hi, hz0, hz1, hz2⟩ := info_parts Tryd.info5
  have h := run_make (P := Tryd.prog) w 24 5 i _ Tryd.underlying24 hi hz0 .i64 .i64 k m (by omega) (by omega) (by rw [hz2]; omega) (by omega)
  rw [h, hz1, Int.toNat_natCast, Nat.mul_one]
  rfl

/-- A slice made with no element, and room. -/
theorem owns_made (w : World) (B m : Nat) (hB : B ≤ w.heap.size) (hm : m ≤ maxLen) : (w.alloc (blank8 m)).ownsRow B 5 1 (.slice (some ⟨w.heap.size, 0, none⟩) 0 m) 0 [] :=
  ⟨rfl, .inr ⟨w.heap.size, m, madeCells #[.int .u8 0] m, rfl, hB, heap_alloc_new w _, Nat.zero_le _, hm, by rw [size_madeCells, Nat.mul_one], rfl⟩⟩

theorem own_sl {w : World} {B n : Nat} {v : Value} {r : List Int} (h : w.ownsRow B 5 1 v n (bv r)) (h0 : v ≠ .slice none 0 0) : ∃ g c, v = .slice (some ⟨g, 0, none⟩) n c ∧ Sl w w.heap.size g 0 n c r := by
  obtain ⟨hl, ⟨hv, _⟩ | ⟨g, cap, cur, rfl, hg, hh, h1, h2, h3, h4⟩⟩ := h
  · exact absurd hv h0
  · rw [bv_len, Nat.mul_one] at hl
    refine ⟨g, cap, rfl, hl, h1, h2, (Array.getElem?_eq_some_iff.1 hh).1, fun j z hj => ?_⟩
    have hjl : j < r.length := (List.getElem?_eq_some_iff.1 hj).1
    have hbj : (bv r)[j]? = some (.int .u8 z) := by rw [bv, List.getElem?_map, hj]; rfl
    rw [← h4, List.getElem?_take_of_lt (by omega)] at hbj
    simp only [World.cell?, hh, Nat.zero_add]
    simpa using hbj

theorem Sl.news {w w' : World} {s b off n c : Nat} {r : List Int} (h : Sl w s b off n c r) (hb : Below s w w') : ∀ j u, (bv r)[j]? = some u → w'.cell? ((⟨b, off, none⟩ : Addr).add j) = some u := by
  intro j u hj
  rw [bv, List.getElem?_map] at hj
  obtain ⟨z, hz, rfl⟩ := Option.map_eq_some_iff.1 hj
  rw [Addr.add_lit]
  exact (h.mono hb).at_ j z hz

theorem ownB {B : Nat} {w : World} {v : Value} {n : Nat} {xs : List Value} (h : w.ownsRow B 5 1 v n xs) : ∀ k, v.ownBlock = some k → B ≤ k := by
  intro k hk
  obtain ⟨_, ⟨rfl, _⟩ | ⟨g, cap, cur, rfl, hg, _⟩⟩ := h
  · simp [Value.ownBlock] at hk
  · simp [Value.ownBlock] at hk
    omega

set_option maxHeartbeats 2000000 in
theorem concat_any (b1 o1 n1 c1 b2 o2 n2 c2 : Nat) (r1 r2 : List Int) (w : World) (h1 : Sl w w.heap.size b1 o1 n1 c1 r1) (h2 : Sl w w.heap.size b2 o2 n2 c2 r2) (hn1 : n1 ≤ 16777216) (hn2 : n2 ≤ 16777216) :
    Calls Tryd.prog 11 #[.slice (some ⟨b1, o1, none⟩) n1 c1, .slice (some ⟨b2, o2, none⟩) n2 c2] w fun e w' => ∃ g c, e = .returned (.slice (some ⟨g, 0, none⟩) (n1 + n2) c) ∧ Sl w' w'.heap.size g 0 (n1 + n2) c (r1 ++ r2) ∧ Below w.heap.size w w' := by
  obtain ⟨i0, hi, hz0, hz1, hz2⟩ := info_parts Tryd.info5
  have hm := make8 0 (n1 + n2) (Nat.zero_le _) (by omega) w
  have l1 := h1.len
  have l2 := h2.len
  have HL : Hid _ := And.intro l1 l2
  clear l1 l2
  have H1 : Hid _ := h1
  have H2 : Hid _ := h2
  clear h1 h2
  have hown0 := owns_made w w.heap.size (n1 + n2) (Nat.le_refl _) (by unfold maxLen; omega)
  have hbel0 : Below w.heap.size w (w.alloc (blank8 (n1 + n2))) := (Below.refl _ _).alloc (Nat.le_refl _) _
  have HO : Hid ((w.alloc (blank8 (n1 + n2))).ownsRow w.heap.size 5 1 (.slice (some ⟨w.heap.size, 0, none⟩) 0 (n1 + n2)) 0 []) := hown0
  have HB : Hid _ := hbel0
  clear hown0 hbel0
  simp only [Int.natCast_add, Int.cast_ofNat_Int] at hm
  go_enter Tryd.func11, Tryd.ntmps11
  go_wp2_with (at_builtin; refine wpList_append_own _ rfl _ _ 24 rfl w.heap.size 5 i0 (.int .u8 0) 1 1 Tryd.underlying24 hi hz0 hz1 hz2 rfl (by decide) _ _ _ rfl HO.out ⟨b1, o1, none⟩ n1 c1 (bv r1) rfl (by rw [bv_len, HL.out.1, Nat.mul_one]) (H1.out.news HB.out) (bv_one r1) (by unfold maxLen; omega) (by omega) HB.out.size ?_)
  intro v1 w1 hown1 hgrow1 hnil1
  have hB1 : Below w.heap.size w w1 := HB.out.grown hgrow1 (by simp) (ownB HO.out)
  have hv1 : v1 ≠ .slice none 0 0 := hnil1
  have HO1 : Hid (w1.ownsRow w.heap.size 5 1 v1 n1 (bv r1)) := hown1
  have HB1 : Hid _ := hB1
  have HV1 : Hid (v1 ≠ .slice none 0 0) := hv1
  clear hown1 hgrow1 hnil1 hB1 hv1 HO HB hm
  go_wp2_with (at_builtin; refine wpList_append_own _ rfl _ _ 24 rfl w.heap.size 5 i0 (.int .u8 0) 1 1 Tryd.underlying24 hi hz0 hz1 hz2 rfl (by decide) _ _ _ rfl HO1.out ⟨b2, o2, none⟩ n2 c2 (bv r2) rfl (by rw [bv_len, HL.out.2, Nat.mul_one]) (H2.out.news HB1.out) (bv_one r2) (by unfold maxLen; omega) (by omega) HB1.out.size ?_)
  intro v2 w2 hown2 hgrow2 hnil2
  have hB2 : Below w.heap.size w w2 := HB1.out.grown hgrow2 HB1.out.size (ownB HO1.out)
  have hv2 : v2 ≠ .slice none 0 0 := fun e => HV1.out (by first | exact (hnil2.1 e).1 | exact absurd e hnil2)
  rw [← bv_append] at hown2
  obtain ⟨g, c, rfl, hsl⟩ := own_sl hown2 hv2
  have HS : Hid _ := hsl
  have HB2 : Hid _ := hB2
  clear hown2 hgrow2 hnil2 hB2 hv2 hsl
  go_wp2
  go_ret
  exact ⟨g, c, rfl, HS.out, HB2.out⟩

end Go.Proofs.Qxb6616880aDoor
