/- zzBytes (4). -/
import Derived.Test.Qxb6616880aDoorHead
namespace Go.Proofs.Qxb6616880aDoor
open Go.RowKit
set_option linter.unusedVariables false
set_option linter.unusedSimpArgs false

/-- The bound's answer: where it is yes, no row is long. -/
def BytesEnd (rs : List (List Int)) (e : Ending) : Prop := ∃ b, e = .returned (.bool b) ∧ (b = true → ∀ r ∈ rs, r.length ≤ 1048576)

theorem Args.get {w : World} {s : Nat} {ao : Option Addr} {rs : List (List Int)} (h : Args w s ao rs) {j : Nat} (hj : j < rs.length) :
    ∃ b off ar mr cr r, ao = some ⟨b, off, none⟩ ∧ rs[j]? = some r ∧ w.cell? ⟨b, off + j, none⟩ = some (.slice ar mr cr) ∧ Hid (r.length = mr) ∧ mr ≤ 9223372036854775807 := by
  rcases h with h | ⟨b, off, h1, h2, h3⟩
  · rw [h] at hj; simp at hj
  · obtain ⟨v, hc, ar, cr, rfl, g1, g2, g3⟩ := h3 j rs[j] (List.getElem?_eq_getElem hj)
    exact ⟨b, off, ar, _, cr, rs[j], h1, List.getElem?_eq_getElem hj, hc, rfl, by unfold maxLen at g2; omega⟩

set_option maxHeartbeats 2000000 in
set_option maxRecDepth 100000 in
theorem bytes_bound (ao : Option Addr) (m c s : Nat) (k : Int) (rs : List (List Int)) (hm : Hid (rs.length = m)) (hmx : m ≤ 9223372036854775807) (w : World) (ha : Args w s ao rs) :
    Calls Tryd.prog 4 #[.slice ao m c, .int .i64 k] w fun e w' => BytesEnd rs e ∧ w = w' := by
  have HA : Hid (Args w s ao rs) := ha
  clear ha
  have i0 : (m : Int) ≤ 9223372036854775807 := by omega
  by_cases hbig : m ≤ 1048576
  · have i1 : (m : Int) ≤ 1048576 := by omega
    go_enter Tryd.func4, Tryd.ntmps4
    go_wp2
    go_loopw [5, 6] (fun t i wr => ∃ j z : Nat, j ≤ m ∧ z ≤ 1048576 ∧ t = .int .i64 z ∧ i = .int .i64 j ∧ w = wr ∧ Hid (∀ r ∈ rs.take j, r.length ≤ 1048576)) (fun _ i _ => m - (intOf i).toNat)
    case atStart => exact ⟨0, m, Nat.zero_le _, hbig, rfl, rfl, rfl, by intro r hr; simp at hr⟩
    case round =>
      obtain ⟨j, z, hj, hz, rfl, rfl, rfl, hall⟩ := hrel
      by_cases hlt : j < m
      · have hjl : j < rs.length := by rw [hm.out]; exact hlt
        have hlt' : (j : Int) < (m : Int) := by omega
        obtain ⟨b, off, ar, mr, cr, r, rfl, hr, hc, hmr, hmx2⟩ := Args.get HA.out hjl
        have i2 : (mr : Int) ≤ 9223372036854775807 := by omega
        by_cases h1 : mr ≤ 1048576
        · have i3 : (mr : Int) ≤ 1048576 := by omega
          have i4 : (z : Int) ≤ 1048576 := by omega
          have hnext : Hid (∀ x ∈ rs.take (j + 1), x.length ≤ 1048576) := by
            intro x hx
            rw [List.take_succ_eq_append_getElem hjl] at hx
            rw [List.getElem?_eq_getElem hjl] at hr
            rcases List.mem_append.1 hx with hx | hx
            · exact hall.out x hx
            · rw [List.mem_singleton.1 hx, Option.some.inj hr, hmr.out]; exact h1
          clear hr
          by_cases h2 : z + mr ≤ 1048576
          · have i5 : (z : Int) + (mr : Int) ≤ 1048576 := by omega
            go_wp2
            go_roundw
            case rel => exact ⟨j + 1, z + mr, by omega, h2, by go_num, by go_num, by trivial, hnext⟩
            case measure => simp [intOf]; omega
          · have i5 : ¬ (z : Int) + (mr : Int) ≤ 1048576 := by omega
            go_wp2
            go_ret
            exact ⟨⟨false, rfl, fun h => by cases h⟩, rfl⟩
        · have i3 : ¬ (mr : Int) ≤ 1048576 := by omega
          clear hr
          go_wp2
          go_ret
          exact ⟨⟨false, rfl, fun h => by cases h⟩, rfl⟩
      · have hnl : ¬ (j : Int) < (m : Int) := by omega
        go_wp2
        go_ret
        refine ⟨⟨true, rfl, fun _ => ?_⟩, rfl⟩
        have := hall.out
        rw [List.take_of_length_le (by have := hm.out; omega)] at this
        exact this
  · have i1 : ¬ (m : Int) ≤ 1048576 := by omega
    go_enter Tryd.func4, Tryd.ntmps4
    go_wp2
    go_ret
    exact ⟨⟨false, rfl, fun h => by cases h⟩, rfl⟩

end Go.Proofs.Qxb6616880aDoor
