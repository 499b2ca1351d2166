/- The walk of FnDebtsShapeAfterAnyTake (function 3). -/
import Derived.Test.Qxb6616863aTake
namespace Go.Proofs.Qxb6616863a
open Go.RowKit

def roomBlock : Obj := .cells #[.slice none 0 0, .slice none 0 0, .slice none 0 0] 54

theorem room_new (w : World) : Room (w.alloc roomBlock) w.heap.size none 0 0 :=
  ⟨by rw [roomBlock, World.cell?_alloc_new]; rfl, by rw [roomBlock]; exact World.frozen?_alloc_new .., by omega, by omega, fun h => absurd h (by omega)⟩

theorem room_any' (w : World) : Calls Try.prog 7 #[] w fun e w' => e = .returned (.pointer (some ⟨w.heap.size, 0, none⟩)) ∧ w' = w.alloc roomBlock := room_any w

theorem grown_row {W w : World} (h : Grown W w) (n : Nat) : Grown W (w.alloc (row n)) := h.alloc _ _
theorem grown_room {W w : World} (h : Grown W w) : Grown W (w.alloc roomBlock) := h.alloc _ _

set_option maxHeartbeats 400000 in
theorem shape_out1 (a0 : Bool) (p n : Int) (w : World) (h : p < 0 ∨ 65536 < p) :
    Calls Try.prog 3 #[.bool a0, .int .i64 p, .int .i64 n] w fun e w' => e = .returned (.bool true) ∧ Grown w w' := by
  rcases h with h | h
  · go_enter Try.func3, Try.ntmps3
    go_wp2
    go_ret
    exact ⟨rfl, Grown.refl _⟩
  · have h' : ¬ p < 0 := by omega
    go_enter Try.func3, Try.ntmps3
    go_wp2
    go_ret
    exact ⟨rfl, Grown.refl _⟩

set_option maxHeartbeats 400000 in
theorem shape_out2 (a0 : Bool) (p n : Int) (w : World) (h0 : 0 ≤ p) (h1 : p ≤ 65536) (h : n < 0 ∨ 65536 < n) :
    Calls Try.prog 3 #[.bool a0, .int .i64 p, .int .i64 n] w fun e w' => e = .returned (.bool true) ∧ Grown w w' := by
  rcases h with h | h
  · go_enter Try.func3, Try.ntmps3
    go_wp2
    go_ret
    exact ⟨rfl, Grown.refl _⟩
  · have h' : ¬ n < 0 := by omega
    go_enter Try.func3, Try.ntmps3
    go_wp2
    go_ret
    exact ⟨rfl, Grown.refl _⟩

set_option maxHeartbeats 400000 in
theorem shape_nil (p n : Nat) (w : World) (hp : p ≤ 65536) (hn : n ≤ 65536) :
    Calls Try.prog 3 #[.bool false, .int .i64 p, .int .i64 n] w fun e w' => e = .returned (.bool true) ∧ Grown w w' := by
  have h1 : (p : Int) ≤ 65536 := by omega
  have h2 : (n : Int) ≤ 65536 := by omega
  go_enter Try.func3, Try.ntmps3
  go_wp2_with fail
  refine (room_any' _).mono ?_
  rintro e w' ⟨rfl, rfl⟩
  go_wp2_with fail
  refine (debts_nil p hp _).mono ?_
  rintro e w' ⟨rfl, rfl⟩
  go_wp2_with fail
  refine (debts_nil n hn _).mono ?_
  rintro e w' ⟨rfl, rfl⟩
  go_wp2
  go_ret
  exact ⟨rfl, grown_row (grown_row (grown_room (Grown.refl _)) _) _⟩

set_option maxHeartbeats 400000 in
theorem shape_room (p n : Nat) (w : World) (hp : p ≤ 65536) (hn : n ≤ 65536) :
    Calls Try.prog 3 #[.bool true, .int .i64 p, .int .i64 n] w fun e w' => e = .returned (.bool true) ∧ Grown w w' := by
  have h1 : (p : Int) ≤ 65536 := by omega
  have h2 : (n : Int) ≤ 65536 := by omega
  go_enter Try.func3, Try.ntmps3
  go_wp2_with fail
  refine (room_any' _).mono ?_
  rintro e w' ⟨rfl, rfl⟩
  go_wp2_with fail
  refine (debts_room w.heap.size 0 p 0 none _ (room_new w) hp).mono ?_
  rintro e w1 ⟨ro, rfl, hk, _, _, ao', len', cap', hR', _⟩
  go_wp2_with fail
  refine (debts_room w.heap.size len' n cap' ao' _ hR' hn).mono ?_
  rintro e w2 ⟨ro2, rfl, hk2, _, _, _⟩
  have hg : Hid (Grown w w2) := hk2.grown w (hk.grown w (grown_room (Grown.refl _)) (Nat.le_refl _)) (Nat.le_refl _)
  clear hk hk2 hR'
  go_wp2
  go_ret
  exact ⟨rfl, hg⟩

theorem shape_any (a0 : Bool) (p n : Int) (w : World) :
    Calls Try.prog 3 #[.bool a0, .int .i64 p, .int .i64 n] w fun e w' => e = .returned (.bool true) ∧ Grown w w' := by
  by_cases h1 : p < 0 ∨ 65536 < p
  · exact shape_out1 a0 p n w h1
  · by_cases h2 : n < 0 ∨ 65536 < n
    · exact shape_out2 a0 p n w (by omega) (by omega) h2
    · obtain ⟨p', rfl⟩ := Int.eq_ofNat_of_zero_le (a := p) (by omega)
      obtain ⟨n', rfl⟩ := Int.eq_ofNat_of_zero_le (a := n) (by omega)
      cases a0
      · exact shape_nil p' n' w (by omega) (by omega)
      · exact shape_room p' n' w (by omega) (by omega)

end Go.Proofs.Qxb6616863a
