/- zzMember (8) and zzSameNames (10). -/
import Derived.Test.Qxb6617036aFit
namespace Go.Proofs.Qxb6617036a
open Go.RowKit
set_option linter.unusedVariables false
set_option linter.unusedSimpArgs false

theorem same_iff (s x : ByteArray) : (s.toList == x.toList) = true ↔ s = x := by
  rw [beq_iff_eq, ByteArray.toList_eq, ByteArray.toList_eq]
  exact ⟨fun h => ByteArray.ext (Array.toList_inj.mp h), fun h => by rw [h]⟩

theorem same_no (s x : ByteArray) : (s.toList == x.toList) = false ↔ s ≠ x := by
  rw [← Bool.not_eq_true, same_iff]

theorem getD_at {ss : List ByteArray} {j : Nat} (hj : j < ss.length) : ss.getD j ByteArray.empty = ss[j] := by
  simp [List.getD, hj]

def mem (ss : List ByteArray) (x : ByteArray) : Bool := ss.any (fun s => decide (s = x))

theorem mem_yes {ss : List ByteArray} {x s : ByteArray} {j : Nat} (hj : j < ss.length) (hs : s = ss.getD j ByteArray.empty) (h : s = x) : mem ss x = true := by
  unfold mem
  rw [List.any_eq_true]
  refine ⟨ss[j], List.getElem_mem _, ?_⟩
  rw [getD_at hj] at hs
  rw [← hs, h]
  simp

theorem mem_no {ss : List ByteArray} {x : ByteArray} (h : ∀ c, c < ss.length → ss.getD c ByteArray.empty ≠ x) : mem ss x = false := by
  unfold mem
  rw [List.any_eq_false]
  intro s hs
  obtain ⟨j, hj, rfl⟩ := List.getElem_of_mem hs
  have := h j hj
  rw [getD_at hj] at this
  simpa using this

theorem ret_bool {a b : Bool} (h : a = b) : Ending.returned (.bool a) = .returned (.bool b) := by rw [h]

set_option maxHeartbeats 400000 in
theorem member_any (a1 : Option Addr) (n1 c1 : Nat) (ks : List ByteArray) (x : ByteArray) (w : World) (h1 : Row w a1 ks) (e1 : Hid (ks.length = n1)) (b1 : n1 ≤ maxLen) :
    Calls Try.prog 8 #[.slice a1 n1 c1, .string x] w fun e w' => e = .returned (.bool (mem ks x)) ∧ w = w' := by
  unfold maxLen at b1
  go_enter Try.func8, Try.ntmps8
  go_wp2
  go_loop [5] (fun i => ∃ (j : Nat), j ≤ n1 ∧ i = .int .i64 j ∧ Hid (∀ c, c < j → ks.getD c ByteArray.empty ≠ x)) (fun i => n1 - (intOf i).toNat)
  case atStart => exact ⟨0, Nat.zero_le _, rfl, fun c hc => absurd hc (by omega)⟩
  case round =>
    obtain ⟨j, hj, rfl, hno⟩ := hrel
    by_cases hlt : j < n1
    · obtain ⟨b, off, s, rfl, hc, hs⟩ := h1.at (i := j) (by rw [e1.out]; exact hlt)
      have hlt' : (j : Int) < (n1 : Int) := by omega
      clear h1
      cases hsx : (s.toList == x.toList)
      · go_wp2
        go_round
        case rel =>
          refine ⟨j + 1, by omega, by go_num, fun c hc => ?_⟩
          by_cases h : c < j
          · exact hno.out c h
          · obtain rfl : c = j := by omega
            rw [← hs.out]
            exact (same_no s x).1 hsx
        case measure => simp [intOf]; omega
      · go_wp2
        go_ret
        exact ⟨ret_bool (mem_yes (by rw [e1.out]; exact hlt) hs.out ((same_iff s x).1 hsx)).symm, rfl⟩
    · have hnl : ¬ (j : Int) < (n1 : Int) := by omega
      clear h1
      go_wp2
      go_ret
      exact ⟨ret_bool (mem_no (fun c hc => hno.out c (by have := e1.out; omega))).symm, rfl⟩

theorem sames_no {xs ys : List ByteArray} {s t : ByteArray} {j : Nat} (ha : j < xs.length) (hb : j < ys.length) (hs : s = xs.getD j ByteArray.empty) (ht : t = ys.getD j ByteArray.empty) (h : s ≠ t) : decide (xs = ys) = false := by
  rw [decide_eq_false_iff_not]
  intro e
  subst e
  exact h (hs.trans ht.symm)

theorem sames_yes {xs ys : List ByteArray} (hl : xs.length = ys.length) (h : ∀ c, c < xs.length → xs.getD c ByteArray.empty = ys.getD c ByteArray.empty) : decide (xs = ys) = true := by
  rw [decide_eq_true_iff]
  refine List.ext_getElem hl fun i h1 h2 => ?_
  have := h i h1
  rwa [getD_at h1, getD_at h2] at this

set_option maxHeartbeats 400000 in
theorem sames_any (a1 a2 : Option Addr) (n1 c1 n2 c2 : Nat) (xs ys : List ByteArray) (w : World) (h1 : Row w a1 xs) (h2 : Row w a2 ys) (e1 : Hid (xs.length = n1)) (e2 : Hid (ys.length = n2)) (b1 : n1 ≤ maxLen) (b2 : n2 ≤ maxLen) :
    Calls Try.prog 10 #[.slice a1 n1 c1, .slice a2 n2 c2] w fun e w' => e = .returned (.bool (decide (xs = ys))) ∧ Below w.heap.size w w' := by
  unfold maxLen at b1 b2
  by_cases hn : n1 = n2
  · subst hn
    go_enter Try.func10, Try.ntmps10
    go_wp2
    go_loopw [5] (fun i wr => ∃ (j : Nat), j ≤ n1 ∧ i = .int .i64 j ∧ Hid (∀ c, c < j → xs.getD c ByteArray.empty = ys.getD c ByteArray.empty) ∧ Hid (∃ q, wr = w.drewN q)) (fun i _ => n1 - (intOf i).toNat)
    case atStart => exact ⟨0, Nat.zero_le _, rfl, fun c hc => absurd hc (by omega), 0, rfl⟩
    case round =>
      obtain ⟨j, hj, rfl, hno, q, rfl⟩ := hrel
      by_cases hlt : j < n1
      · obtain ⟨b, off, s, rfl, hc, hs⟩ := h1.at (i := j) (by rw [e1.out]; exact hlt)
        obtain ⟨b', off', t, rfl, hc', ht⟩ := h2.at (i := j) (by rw [e2.out]; exact hlt)
        have hlt' : (j : Int) < (n1 : Int) := by omega
        clear h1 h2
        cases hsx : (s.toList == t.toList)
        · go_wp2
          go_quiet (fail)
          go_wp2
          go_ret
          exact ⟨ret_bool (sames_no (by rw [e1.out]; exact hlt) (by rw [e2.out]; exact hlt) hs.out ht.out ((same_no s t).1 hsx)).symm, below_drewN (below_drewN (Below.refl _ _) _) _⟩
        · go_wp2
          go_quiet (fail)
          go_wp2
          go_roundw
          case rel =>
            refine ⟨j + 1, by omega, by go_num, fun c hc => ?_, _, rfl⟩
            by_cases h : c < j
            · exact hno.out c h
            · obtain rfl : c = j := by omega
              rw [← hs.out, ← ht.out]
              exact (same_iff s t).1 hsx
          case measure => simp [intOf]; omega
      · have hnl : ¬ (j : Int) < (n1 : Int) := by omega
        clear h1 h2
        go_wp2
        go_ret
        exact ⟨ret_bool (sames_yes (by rw [e1.out, e2.out]) (fun c hc => hno.out c (by have := e1.out; omega))).symm, (below_drewN (Below.refl _ _) _)⟩
  · have hne : ((n1 : Int) == (n2 : Int)) = false := by simp; omega
    go_enter Try.func10, Try.ntmps10
    go_wp2
    go_ret
    refine ⟨ret_bool (Eq.symm ?_), Below.refl _ _⟩
    rw [decide_eq_false_iff_not]
    intro e
    subst e
    exact hn (e1.out.symm.trans e2.out)

end Go.Proofs.Qxb6617036a
