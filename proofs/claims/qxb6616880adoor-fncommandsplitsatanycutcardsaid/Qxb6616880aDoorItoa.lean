/- zzItoa (25). -/
import Derived.Test.Qxb6616880aDoorZz
namespace Go.Proofs.Qxb6616880aDoor
open Go.RowKit
set_option linter.unusedVariables false
set_option linter.unusedSimpArgs false

/-- m's digits; none for 0. -/
def dd (m : Nat) : List Int := if m = 0 then [] else iB (Lib.decDigits m)

theorem dig (k : Nat) (h : k < 10) : ((UInt8.ofNat (48 + k)).toNat : Int) = 48 + (k : Int) := by
  have : (UInt8.ofNat (48 + k)).toNat = 48 + k := by
    rw [UInt8.toNat_ofNat']
    omega
  rw [this]; omega

theorem dd_step (m : Nat) (h : m ≠ 0) : dd m = dd (m / 10) ++ [48 + ((m % 10 : Nat) : Int)] := by
  unfold dd
  rw [if_neg h]
  by_cases h1 : m < 10
  · rw [if_pos (by omega), Lib.decDigits, dif_pos h1]
    simp only [iB, List.map_cons, List.map_nil, List.nil_append]
    rw [dig m h1, Nat.mod_eq_of_lt h1]
  · rw [if_neg (by omega), Lib.decDigits, dif_neg h1]
    simp only [iB, List.map_append, List.map_cons, List.map_nil]
    rw [dig (m % 10) (Nat.mod_lt _ (by decide))]

theorem own_pos {w : World} {B n : Nat} {v : Value} {r : List Int} (h : w.ownsRow B 5 1 v n (bv r)) (h0 : 0 < n) : ∃ g c, v = .slice (some ⟨g, 0, none⟩) n c ∧ Sl w w.heap.size g 0 n c r :=
  own_sl h (fun e => by
    obtain ⟨_, ⟨_, h1⟩ | ⟨g, cap, cur, hv, _⟩⟩ := h
    · omega
    · rw [hv] at e; simp at e)

/-- The row being filled: j of the k bytes of D stand. -/
def rowAt (D : List Int) (k j : Nat) : Array Value := (bv (D.take j) ++ List.replicate (k - j) (Value.int .u8 0)).toArray

theorem row_zero (w : World) (D : List Int) (k : Nat) : (w.alloc (blank8 k)).heap[w.heap.size]? = some (.cells (rowAt D k 0) 5 (0, 0)) := by
  show (w.heap.push (blank8 k))[w.heap.size]? = _
  rw [Array.getElem?_push, if_pos rfl, blank8]
  congr 2
  apply Array.toList_inj.mp
  unfold rowAt
  rw [List.toList_toArray]
  apply List.ext_getElem
  · simp [size_madeCells, bv]
  · intro i h1 h2
    simp [madeCells, Nat.mod_one, bv]

theorem row_next {w : World} {D : List Int} {g k j : Nat} {z : Int} (h : w.heap[g]? = some (.cells (rowAt D k j) 5 (0, 0))) (hj : j < k) (hz : D[j]? = some z) :
    (∃ x, w.cell? ⟨g, j, none⟩ = some x) ∧ w.frozen? ⟨g, j, none⟩ = false ∧ (w.setCell ⟨g, j, none⟩ (.int .u8 z)).heap[g]? = some (.cells (rowAt D k (j + 1)) 5 (0, 0)) := by
  have hjl : j < D.length := (List.getElem?_eq_some_iff.1 hz).1
  have hl : (bv (D.take j)).length = j := by rw [bv_len, List.length_take]; omega
  refine ⟨⟨_, by simp only [World.cell?, h]; exact Array.getElem?_eq_getElem (by simp [rowAt, hl]; omega)⟩, by simp [World.frozen?, h], ?_⟩
  simp only [World.setCell, Array.getElem?_modify, if_pos, h]
  simp only [Option.map_some]
  congr 2
  apply Array.toList_inj.mp
  rw [if_neg (by decide), Array.toList_setIfInBounds]
  unfold rowAt
  rw [List.toList_toArray, List.toList_toArray, List.set_append, if_neg (by omega), hl, Nat.sub_self, List.take_succ_eq_append_getElem hjl, bv_append, List.append_assoc]
  congr 1
  obtain ⟨p, hp⟩ : ∃ p, k - j = p + 1 := ⟨k - j - 1, by omega⟩
  rw [hp, List.replicate_succ, List.set_cons_zero, show k - (j + 1) = p by omega]
  rw [List.getElem?_eq_getElem hjl] at hz
  rw [Option.some.inj hz]
  rfl

set_option maxHeartbeats 4000000 in
set_option maxRecDepth 100000 in
theorem zzitoa_pos (n : Nat) (hn : n ≤ 1048576) (h0 : 0 < n) (w : World) :
    Calls Tryd.prog 25 #[.int .i64 n] w fun e w' => ∃ g c k, e = .returned (.slice (some ⟨g, 0, none⟩) k c) ∧ Sl w' w'.heap.size g 0 k c (iB (Lib.itoa n)) ∧ Below w.heap.size w w' := by
  obtain ⟨i0, hi, hz0, hz1, hz2⟩ := info_parts Tryd.info5
  have hdn : dd n = iB (Lib.itoa n) := by
    unfold dd
    rw [if_neg (by omega), Lib.itoa_nonneg]
  have hlen : (dd n).length ≤ 20 := by
    rw [hdn]
    have := itoa_len n hn
    simpa [iB] using this
  rw [← hdn]
  clear hdn
  have i1 : (n : Int) ≤ 1048576 := by omega
  have i2 : ¬ (n : Int) ≤ 0 := by omega
  go_enter Tryd.func25, Tryd.ntmps25
  go_wp2
  go_loopw [3, 4] (fun v mv wr => ∃ (L : List Int) (m : Nat), mv = .int .i64 m ∧ m ≤ n ∧ Hid (wr.ownsRow w.heap.size 5 1 v L.length (bv L)) ∧ Hid (Below w.heap.size w wr) ∧ Hid (dd n = dd m ++ L.reverse)) (fun _ mv _ => (intOf mv).toNat)
  case atStart => exact ⟨[], n, rfl, Nat.le_refl _, World.ownsRow_nil _ _ _ _, Below.refl _ _, by show _ = _; simp⟩
  case round =>
    obtain ⟨L, m, rfl, hm, hown, hbel, hdd⟩ := hrel
    obtain ⟨wo, hwo⟩ : ∃ wo, wo = wr := ⟨_, rfl⟩
    subst hwo
    by_cases hm0 : m = 0
    · have hz : ¬ (0 : Int) < (m : Int) := by omega
      have hD : dd n = L.reverse := by have := hdd.out; rw [hm0] at this; simpa [dd] using this
      have hpos : 0 < L.length := by
        have := congrArg List.length hD
        rw [dd_step n (by omega)] at this
        simp at this
        omega
      have hk20 : L.length ≤ 20 := by
        have := congrArg List.length hD
        simp at this
        omega
      obtain ⟨g, c, rfl, hsl⟩ := own_pos hown.out hpos
      obtain ⟨k, hk⟩ : ∃ k, k = L.length := ⟨_, rfl⟩
      rw [← hk] at hsl hpos hk20 ⊢
      have hmk := make8 k k (Nat.le_refl _) (by omega) wo
      have HK : Hid (k = L.length) := hk
      have HD : Hid (dd n = L.reverse) := hD
      have HSL : Hid (Sl wo wo.heap.size g 0 k c L) := hsl
      clear hk hD hsl hown hdd
      go_wp2
      go_loopw [6] (fun i w1 => ∃ j : Nat, j ≤ k ∧ i = .int .i64 j ∧ w1.heap[wo.heap.size]? = some (.cells (rowAt (dd n) k j) 5 (0, 0)) ∧ Hid (Below wo.heap.size wo w1)) (fun i _ => k - (intOf i).toNat)
      case atStart => exact ⟨0, Nat.zero_le _, rfl, row_zero wo _ k, (Below.refl _ _).alloc (Nat.le_refl _) _⟩
      case round =>
        obtain ⟨j, hj, rfl, hrow, hb1⟩ := hrel
        by_cases hlt : j < k
        · have hlt' : (j : Int) < (k : Int) := by omega
          obtain ⟨t, ht⟩ : ∃ t : Nat, t + 1 + j = k := ⟨k - 1 - j, by omega⟩
          have hidx : (k : Int) - 1 - (j : Int) = (t : Int) := by omega
          obtain ⟨z, hq1, hq2⟩ := (HSL.out.mono hb1.out).get (j := t) (by omega)
          rw [Nat.zero_add] at hq2
          have hDj : Hid ((dd n)[j]? = some z) := by
            show _ = _
            rw [HD.out, List.getElem?_reverse (by have := HK.out; omega), ← hq1]
            congr 1
            have := HK.out
            omega
          obtain ⟨⟨x, hcell⟩, hfrz, hset⟩ := row_next hrow hlt hDj.out
          have HST : Hid _ := hset
          clear hset hq1
          have HB2 : Hid (Below wo.heap.size wo (wr.setCell ⟨wo.heap.size, j, none⟩ (.int .u8 z))) :=
            hb1.out.trans ⟨rfl, rfl, rfl, by simp [World.setCell], fun i hi => Below.heap_setCell _ _ _ _ (by show i ≠ wo.heap.size; omega)⟩
          go_wp2
          go_roundw
          case rel => exact ⟨j + 1, by omega, by go_num, HST.out, HB2⟩
          case measure => simp [intOf]; omega
        · have hnl : ¬ (j : Int) < (k : Int) := by omega
          have hjk : j = k := by omega
          rw [hjk] at hrow
          have HR : Hid (wr.heap[wo.heap.size]? = some (.cells (rowAt (dd n) k k) 5 (0, 0))) := hrow
          clear hrow
          go_wp2
          go_ret
          refine ⟨wo.heap.size, k, k, rfl, ⟨?_, Nat.le_refl _, by unfold maxLen; omega, (Array.getElem?_eq_some_iff.1 HR.out).1, fun i z hi => ?_⟩, hbel.out.trans (Below.of_le hb1.out hbel.out.size)⟩
          · rw [HD.out, List.length_reverse, ← HK.out]
          · have hil : i < k := by
              have := (List.getElem?_eq_some_iff.1 hi).1
              rw [HD.out, List.length_reverse, ← HK.out] at this
              exact this
            have hr : wr.heap[wo.heap.size]? = some (.cells (rowAt (dd n) k k) 5 (0, 0)) := HR.out
            simp only [World.cell?, hr, Nat.zero_add]
            have hbi : (bv ((dd n).take k))[i]? = some (.int .u8 z) := by rw [bv, List.getElem?_map, List.getElem?_take_of_lt hil, hi]; rfl
            simpa [rowAt] using hbi
    · have hz : (0 : Int) < (m : Int) := by omega
      have hL : L.length ≤ 20 := by
        have := congrArg List.length hdd.out
        simp at this
        omega
      have j1 : (m : Int) ≤ 1048576 := by omega
      have hdiv : Hid (dd n = dd (m / 10) ++ (L ++ [48 + (m : Int) % 10]).reverse) := by
        show _ = _
        rw [hdd.out, dd_step m hm0, List.append_assoc, List.reverse_append]
        simp
      go_wp2_with (at_builtin; refine wpList_append_own _ rfl _ _ 24 rfl w.heap.size 5 i0 (.int .u8 0) 1 1 Tryd.underlying24 hi hz0 hz1 hz2 rfl (by decide) _ _ _ rfl (World.ownsRow.alloc hown.out _) ⟨wo.heap.size, 0, none⟩ 1 1 (bv [48 + (m : Int) % 10]) rfl rfl ?c1 (bv_one _) (by unfold maxLen; omega) (by omega) (by have := hbel.out.size; simp; omega) ?_)
      case c1 =>
        intro t u ht
        match t, ht with
        | 0, ht => simp [bv] at ht; subst ht; simp [Addr.add]
      intro v1 w1 hown1 hgrow1 hnil1
      have HB1 : Hid (Below w.heap.size w w1) := (hbel.out.alloc hbel.out.size _).grown hgrow1 (by have := hbel.out.size; simp; omega) (ownB hown.out)
      have HO1 : Hid (w1.ownsRow w.heap.size 5 1 v1 (L ++ [48 + (m : Int) % 10]).length (bv (L ++ [48 + (m : Int) % 10]))) := by
        show World.ownsRow _ _ _ _ _ _ _
        rw [List.length_append, bv_append]
        exact hown1
      clear hown1 hgrow1 hnil1
      go_wp2
      go_roundw
      case rel => exact ⟨L ++ [48 + (m : Int) % 10], m / 10, by go_num, by omega, HO1, HB1, hdiv⟩
      case measure => simp [intOf]; omega

set_option maxHeartbeats 2000000 in
theorem zzitoa_any (n : Nat) (hn : n ≤ 1048576) (w : World) :
    Calls Tryd.prog 25 #[.int .i64 n] w fun e w' => ∃ g c k, e = .returned (.slice (some ⟨g, 0, none⟩) k c) ∧ Sl w' w'.heap.size g 0 k c (iB (Lib.itoa n)) ∧ Below w.heap.size w w' := by
  by_cases h0 : n = 0
  · subst h0
    have e : iB (Lib.itoa ((0 : Nat) : Int)) = [48] := by rw [Lib.itoa_nonneg, Lib.decDigits_one (by omega)]; rfl
    have E : Hid (iB (Lib.itoa ((0 : Nat) : Int)) = [48]) := e
    clear e
    go_enter Tryd.func25, Tryd.ntmps25
    go_wp2
    go_ret
    refine ⟨w.heap.size, 1, 1, rfl, ⟨by rw [E.out]; rfl, Nat.le_refl _, by unfold maxLen; omega, by simp, fun j z hj => ?_⟩, (Below.refl _ _).alloc (Nat.le_refl _) _⟩
    rw [E.out] at hj
    match j, hj with
    | 0, hj => simp at hj; subst hj; simp
  · exact zzitoa_pos n hn (by omega) w

end Go.Proofs.Qxb6616880aDoor
