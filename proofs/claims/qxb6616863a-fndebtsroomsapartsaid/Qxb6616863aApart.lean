/- The walk of FnDebtsRoomsApart (function 4). -/
import Derived.Test.Qxb6616863aFill
namespace Go.Proofs.Qxb6616863a
open Go.RowKit

/-- The room, or none: what a take starts from. -/
def St (w : World) (b : Nat) (rp ao : Option Addr) (len : Nat) : Prop :=
  b < w.heap.size ∧ ((rp = none ∧ ao = none) ∨ (rp = some ⟨b, 0, none⟩ ∧ ∃ cap, Room w b ao len cap))

/-- The room's mark does not lie inside the slice. -/
def Sep (ao : Option Addr) (len : Nat) (ro : Option Addr) (n : Nat) : Prop :=
  0 < n → ∃ g o, ro = some ⟨g, o, none⟩ ∧ (ao = none ∨ (ao = some ⟨g, 0, none⟩ ∧ o + 4 * n ≤ 4 * len))

def Taken (w : World) (b : Nat) (rp ao : Option Addr) (len n : Nat) (ro : Option Addr) (w' : World) : Prop :=
  Kept b w w' ∧ Cells w' b ro n ∧ Lies w.heap.size ao len ro n ∧ ∃ ao' len', St w' b rp ao' len' ∧ Sep ao' len' ro n

theorem taken_nil (w : World) (b len n : Nat) (hb : b < w.heap.size) : Taken w b none none len n (some ⟨w.heap.size, 0, none⟩) (w.alloc (row n)) := by
  refine ⟨(Kept.refl b w).row n, fun _ => ⟨_, _, rfl, hb, fun i hi => ?_⟩, fun _ => ⟨_, _, rfl, .inl rfl⟩, none, len, ⟨by simp; omega, .inl ⟨rfl, rfl⟩⟩, fun _ => ⟨_, _, rfl, .inl rfl⟩⟩
  rw [row, World.cell?_alloc_new, Array.getElem?_eq_getElem (by rw [size_madeCells]; omega)]
  rfl

theorem debts_any (b len n : Nat) (rp ao : Option Addr) (w : World) (h : St w b rp ao len) (hn : n ≤ 65536) :
    Calls Try.prog 8 #[.pointer rp, .int .i64 n] w fun e w' => ∃ ro, e = .returned (.slice ro 0 n) ∧ Taken w b rp ao len n ro w' := by
  obtain ⟨hb, ⟨rfl, rfl⟩ | ⟨rfl, cap, hR⟩⟩ := h
  · refine (debts_nil n hn w).mono ?_
    rintro e w' ⟨rfl, rfl⟩
    exact ⟨_, rfl, taken_nil w b len n hb⟩
  · refine (debts_room b len n cap ao w hR hn).mono ?_
    rintro e w' ⟨ro, rfl, hk, hc, hl, ao', len', cap', hR', hp⟩
    refine ⟨ro, rfl, hk, hc, hl, ao', len', ⟨by have := hk.size; omega, .inr ⟨rfl, cap', hR'⟩⟩, fun h0 => ?_⟩
    obtain ⟨g, o, h1, h2, h3⟩ := hp h0
    exact ⟨g, o, h1, .inr ⟨h2, h3⟩⟩

theorem St.filled {W w1 wr : World} {b len n j : Nat} {rp ao ro : Option Addr} {s : ByteArray} (h : St w1 b rp ao len) (hW : W.heap.size ≤ b) (hc : Cells w1 b ro n) (hf : Filled W w1 ro n j s wr) : St wr b rp ao len := by
  obtain ⟨hb, h⟩ := h
  refine ⟨by have := hf.size; omega, ?_⟩
  rcases h with h | ⟨h, cap, hR⟩
  · exact .inl h
  · refine .inr ⟨h, cap, ⟨?_, frozen_grown hf.grown hW, hR.fits, hR.small, fun h0 => ?_⟩⟩
    · rw [hf.out ⟨b, 1, none⟩ (by rw [hR.cell]; rfl) ?_]
      · exact hR.cell
      · intro g o he hg
        by_cases h0 : 0 < n
        · obtain ⟨g', o', he', hlt, _⟩ := hc h0
          rw [he'] at he
          simp at he hg
          omega
        · simp; omega
    · obtain ⟨g, hg, hlt, hs⟩ := hR.own h0
      exact ⟨g, hg, hlt, fun i hi => hf.stay _ (hs i hi)⟩

/-- All of the first slice reads as it was filled. -/
def Reads (w : World) (ro : Option Addr) (n : Nat) (s : ByteArray) : Prop := 0 < n → ∃ g o, ro = some ⟨g, o, none⟩ ∧ ∀ i, i < n → w.cell? ⟨g, o + 4 * i, none⟩ = some (.string s)

theorem Filled.reads {W w1 wr : World} {b n : Nat} {ro : Option Addr} {s : ByteArray} (hc : Cells w1 b ro n) (hf : Filled W w1 ro n n s wr) : Reads wr ro n s := fun h0 => by
  obtain ⟨g, o, h, _, _⟩ := hc h0
  exact ⟨g, o, h, fun i hi => hf.strs g o h i hi⟩

theorem Reads.later {W w1 wr w2 wz : World} {b len n m j : Nat} {rp ao ro ro' : Option Addr} {s s' : ByteArray} (hc : Cells w1 b ro n) (hf : Filled W w1 ro n n s wr) (hsep : Sep ao len ro n) (ht : Taken wr b rp ao len m ro' w2) (hf2 : Filled W w2 ro' m j s' wz) : Reads wz ro n s := fun h0 => by
  obtain ⟨g, o, h, hlt, hs⟩ := hc h0
  refine ⟨g, o, h, fun i hi => ?_⟩
  have h1 := hf.strs g o h i hi
  have h2 := ht.1.cell ⟨g, o + 4 * i, none⟩ (by simp; omega) (by rw [h1]; rfl)
  rw [hf2.out _ (by rw [h2, h1]; rfl) ?_, h2, h1]
  intro g' o' he hg
  by_cases hm : 0 < m
  · obtain ⟨g2, o2, e2, hl⟩ := ht.2.2.1 hm
    rw [e2] at he
    simp at he
    obtain ⟨rfl, rfl⟩ := he
    rcases hl with hl | ⟨hl1, hl2⟩
    · have : g < wr.heap.size := lt_of_some (a := ⟨g, o + 4 * i, none⟩) (by rw [h1]; rfl)
      simp at hg
      omega
    · obtain ⟨g3, o3, e3, hp⟩ := hsep h0
      rw [h] at e3
      simp at e3
      obtain ⟨rfl, rfl⟩ := e3
      rcases hp with hp | ⟨_, hp⟩
      · rw [hp] at hl1; exact absurd hl1 (by simp)
      · left; simp; omega
  · simp; omega

def sA : ByteArray := ⟨#[97]⟩
def sB : ByteArray := ⟨#[98]⟩

set_option maxHeartbeats 1000000 in
set_option maxRecDepth 10000 in
theorem apart_in (a0 : Bool) (n m : Nat) (w : World) (hn : n ≤ 65536) (hm : m ≤ 65536) :
    Calls Try.prog 4 #[.bool a0, .int .i64 n, .int .i64 m] w fun e w' => e = .returned (.bool true) ∧ Grown w w' := by
  have h1 : (n : Int) ≤ 65536 := by omega
  have h2 : (m : Int) ≤ 65536 := by omega
  have b1 : decide ((n : Int) < 0) = false := by simp
  have b2 : decide ((65536 : Int) < (n : Int)) = false := by simp; omega
  have b3 : decide ((m : Int) < 0) = false := by simp
  have b4 : decide ((65536 : Int) < (m : Int)) = false := by simp; omega
  have hS0 : St (w.alloc roomBlock) w.heap.size none none 0 := ⟨by simp, .inl ⟨rfl, rfl⟩⟩
  have hS1 : St (w.alloc roomBlock) w.heap.size (some ⟨w.heap.size, 0, none⟩) none 0 := ⟨by simp, .inr ⟨rfl, 0, room_new w⟩⟩
  obtain ⟨i0, hi, hz0, hz1, hz2⟩ := info_parts Try.info32
  have hgr : Grown w (w.alloc roomBlock) := grown_room (Grown.refl _)
  cases a0
  all_goals
    go_enter Try.func4, Try.ntmps4
    go_wp2_with fail
    refine (room_any' _).mono ?_
    rintro e w' ⟨rfl, rfl⟩
    go_wp2_with fail
    refine (debts_any w.heap.size 0 n _ none _ (by first | exact hS0 | exact hS1) hn).mono ?_
    rintro e w1 ⟨ro, rfl, hk, hc, hl, ao', len', hst, hsep⟩
    have hg1 : Hid (Grown w w1) := hk.grown w hgr (Nat.le_refl _)
    clear hk hl hgr hS0 hS1
    go_wp2_with fail
    go_loopw [8, 10] (fun a k wr => ∃ j : Nat, j ≤ n ∧ k = .int .i64 j ∧ a = .slice ro j n ∧ Filled w w1 ro n j sA wr) (fun _ k _ => n - (intOf k).toNat)
    case atStart => exact ⟨0, Nat.zero_le _, rfl, rfl, Filled.start hg1 ro n sA⟩
    case round =>
      obtain ⟨j, hj, rfl, rfl, hf⟩ := hrel
      by_cases hlt : j < n
      · obtain ⟨g, o, rfl, hbg, hs⟩ := hc (by omega)
        have hlt' : (j : Int) < (n : Int) := by omega
        have hlo : w.heap.size ≤ g := by omega
        have hN := news_at sA wr
        have hO := news_one sA
        have hP := spare_at (s' := sA) hf hlt hlo hs
        have hR : Hid (Filled w w1 (some ⟨g, o, none⟩) n (j + 1) sA ((wr.alloc (oneBlock sA)).setCells g (o + j * 4) (one sA))) := hf.round hlt hlo hs
        clear hf
        have HN := show Hid _ from hN
        have HO := show Hid _ from hO
        have HP := show Hid _ from hP
        clear hN hO hP
        go_wp2_with (at_builtin; refine wpList_append_room _ rfl _ _ 24 rfl 32 i0 4 Try.underlying24 hi hz1 g o j n rfl ⟨wr.heap.size, 0, none⟩ 1 1 (one sA) rfl rfl HN.out HO.out (by omega) HP.out ?_)
        go_roundw
        case rel => exact ⟨j + 1, by omega, by go_num, rfl, hR⟩
        case measure => simp [intOf]; omega
      · have hjn : j = n := by omega
        subst hjn
        have hst2 := hst.filled (Nat.le_refl _) hc hf
        go_wp2_with fail
        refine (debts_any w.heap.size len' m _ ao' _ hst2 hm).mono ?_
        rintro e w2 ⟨ro2, rfl, ht⟩
        have hc2 : Cells w2 w.heap.size ro2 m := ht.2.1
        have hg2 : Hid (Grown w w2) := ht.1.grown w hf.grown (Nat.le_refl _)
        have HT : Hid (∀ wz, Filled w w2 ro2 m m sB wz → Reads wz ro j sA ∧ Reads wz ro2 m sB) := fun wz hz => ⟨Reads.later hc hf hsep ht hz, Filled.reads hc2 hz⟩
        clear hst hst2 hsep hf ht hc hg1
        go_wp2_with fail
        go_loopw [11, 13] (fun a k wr => ∃ i : Nat, i ≤ m ∧ k = .int .i64 i ∧ a = .slice ro2 i m ∧ Filled w w2 ro2 m i sB wr) (fun _ k _ => m - (intOf k).toNat)
        case atStart => exact ⟨0, Nat.zero_le _, rfl, rfl, Filled.start hg2 ro2 m sB⟩
        case round =>
          obtain ⟨i, hi2, rfl, rfl, hf⟩ := hrel
          by_cases hlt : i < m
          · obtain ⟨g, o, rfl, hbg, hs⟩ := hc2 (by omega)
            have hlt' : (i : Int) < (m : Int) := by omega
            have hlo : w.heap.size ≤ g := by omega
            have HN : Hid _ := news_at sB wr
            have HO : Hid _ := news_one sB
            have HP : Hid _ := spare_at (s' := sB) hf hlt hlo hs
            have hR : Hid (Filled w w2 (some ⟨g, o, none⟩) m (i + 1) sB ((wr.alloc (oneBlock sB)).setCells g (o + i * 4) (one sB))) := hf.round hlt hlo hs
            clear hf
            go_wp2_with (at_builtin; refine wpList_append_room _ rfl _ _ 24 rfl 32 i0 4 Try.underlying24 hi hz1 g o i m rfl ⟨wr.heap.size, 0, none⟩ 1 1 (one sB) rfl rfl HN.out HO.out (by omega) HP.out ?_)
            go_roundw
            case rel => exact ⟨i + 1, by omega, by go_num, rfl, hR⟩
            case measure => simp [intOf]; omega
          · have him : i = m := by omega
            subst him
            obtain ⟨hra, hrb⟩ := HT.out wr hf
            have hgz : Hid (Grown w wr) := hf.grown
            clear hf HT hc2 hg2
            go_wp2_with fail
            go_loop [14] (fun k => ∃ t : Nat, t ≤ j ∧ k = .int .i64 t) (fun k => j - (intOf k).toNat)
            case atStart => exact ⟨0, Nat.zero_le _, rfl⟩
            case round =>
              obtain ⟨t, ht, rfl⟩ := hrel
              by_cases hlt : t < j
              · obtain ⟨g, o, rfl, hs⟩ := hra (by omega)
                have hcell : wr.cell? ⟨g, o + t * 4, none⟩ = some (.string ⟨#[97]⟩) := by rw [Nat.mul_comm]; exact hs t hlt
                have hlt' : (t : Int) < (j : Int) := by omega
                clear hra hs
                go_wp2_with fail
                go_round
                case rel => exact ⟨t + 1, by omega, by go_num⟩
                case measure => simp [intOf]; omega
              · have htj : ¬ (t : Int) < (j : Int) := by omega
                clear hra
                go_wp2_with fail
                go_loop [15] (fun k => ∃ u : Nat, u ≤ i ∧ k = .int .i64 u) (fun k => i - (intOf k).toNat)
                case atStart => exact ⟨0, Nat.zero_le _, rfl⟩
                case round =>
                  obtain ⟨u, hu, rfl⟩ := hrel
                  by_cases hlt : u < i
                  · obtain ⟨g, o, rfl, hs⟩ := hrb (by omega)
                    have hcell : wr.cell? ⟨g, o + u * 4, none⟩ = some (.string ⟨#[98]⟩) := by rw [Nat.mul_comm]; exact hs u hlt
                    have hlt' : (u : Int) < (i : Int) := by omega
                    clear hrb hs
                    go_wp2_with fail
                    go_round
                    case rel => exact ⟨u + 1, by omega, by go_num⟩
                    case measure => simp [intOf]; omega
                  · have hui : ¬ (u : Int) < (i : Int) := by omega
                    clear hrb
                    go_wp2_with fail
                    go_ret
                    exact ⟨rfl, hgz⟩

set_option maxHeartbeats 400000 in
theorem apart_out1 (a0 : Bool) (p n : Int) (w : World) (h : p < 0 ∨ 65536 < p) :
    Calls Try.prog 4 #[.bool a0, .int .i64 p, .int .i64 n] w fun e w' => e = .returned (.bool true) ∧ Grown w w' := by
  rcases h with h | h
  · go_enter Try.func4, Try.ntmps4
    go_wp2
    go_ret
    exact ⟨rfl, Grown.refl _⟩
  · have h' : ¬ p < 0 := by omega
    go_enter Try.func4, Try.ntmps4
    go_wp2
    go_ret
    exact ⟨rfl, Grown.refl _⟩

set_option maxHeartbeats 400000 in
theorem apart_out2 (a0 : Bool) (p n : Int) (w : World) (_h0 : 0 ≤ p) (_h1 : p ≤ 65536) (h : n < 0 ∨ 65536 < n) :
    Calls Try.prog 4 #[.bool a0, .int .i64 p, .int .i64 n] w fun e w' => e = .returned (.bool true) ∧ Grown w w' := by
  rcases h with h | h
  · go_enter Try.func4, Try.ntmps4
    go_wp2
    go_ret
    exact ⟨rfl, Grown.refl _⟩
  · have h' : ¬ n < 0 := by omega
    go_enter Try.func4, Try.ntmps4
    go_wp2
    go_ret
    exact ⟨rfl, Grown.refl _⟩

theorem apart_any (a0 : Bool) (p n : Int) (w : World) :
    Calls Try.prog 4 #[.bool a0, .int .i64 p, .int .i64 n] w fun e w' => e = .returned (.bool true) ∧ Grown w w' := by
  by_cases h1 : p < 0 ∨ 65536 < p
  · exact apart_out1 a0 p n w h1
  · by_cases h2 : n < 0 ∨ 65536 < n
    · exact apart_out2 a0 p n w (by omega) (by omega) h2
    · obtain ⟨p', rfl⟩ := Int.eq_ofNat_of_zero_le (a := p) (by omega)
      obtain ⟨n', rfl⟩ := Int.eq_ofNat_of_zero_le (a := n) (by omega)
      exact apart_in a0 p' n' w (by omega) (by omega)

end Go.Proofs.Qxb6616863a
