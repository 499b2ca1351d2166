/- The three bounds-checkers (functions 5, 6, 9): each returns some bool and writes nothing. -/
import Derived.Test.Qxb6617036aProg
import Derived.WalkKit
import Derived.WalkSpells
import Derived.WalkLawsBesides
import Derived.Deep.QuietTactic
import Derived.BigQuiet
namespace Go.Proofs.Qxb6617036a
open Go.RowKit
set_option linter.unusedVariables false
set_option linter.unusedSimpArgs false

/-- The cells of a slice of strings. -/
def Row (w : World) (ao : Option Addr) (ss : List ByteArray) : Prop :=
  ss = [] ∨ ∃ b off, ao = some ⟨b, off, none⟩ ∧ ∀ i, i < ss.length → w.cell? ⟨b, off + i, none⟩ = some (.string (ss.getD i ByteArray.empty))

/-- Some bool is returned. -/
def BoolEnd (e : Ending) : Prop := ∃ b, e = .returned (.bool b)

theorem Row.at {w : World} {ao : Option Addr} {ss : List ByteArray} (h : Row w ao ss) {i : Nat} (hi : i < ss.length) : ∃ b off s, ao = some ⟨b, off, none⟩ ∧ w.cell? ⟨b, off + i, none⟩ = some (.string s) ∧ Hid (s = ss.getD i ByteArray.empty) := by
  rcases h with rfl | ⟨b, off, h1, h2⟩
  · exact absurd hi (by simp)
  · exact ⟨b, off, _, h1, h2 i hi, rfl⟩

set_option maxHeartbeats 1000000 in
theorem bytes5_any (a1 a2 : Option Addr) (n1 c1 n2 c2 : Nat) (ks ns : List ByteArray) (i : Int) (w : World) (h1 : Row w a1 ks) (h2 : Row w a2 ns) (e1 : Hid (ks.length = n1)) (e2 : Hid (ns.length = n2)) (b1 : n1 ≤ maxLen) (b2 : n2 ≤ maxLen) :
    Calls Try.prog 5 #[.slice a1 n1 c1, .slice a2 n2 c2, .int .i64 i] w fun e w' => BoolEnd e ∧ w = w' := by
  unfold maxLen at b1 b2
  go_enter Try.func5, Try.ntmps5
  go_wp2
  all_goals first | (go_ret; exact ⟨⟨_, rfl⟩, rfl⟩) | skip
  go_loop [7, 8] (fun t i => ∃ (T : Int) (j : Nat), j ≤ n1 ∧ i = .int .i64 j ∧ t = .int .i64 T) (fun _ i => n1 - (intOf i).toNat)
  case atStart => exact ⟨_, 0, Nat.zero_le _, rfl, rfl⟩
  case round =>
    obtain ⟨T, j, hj, rfl, rfl⟩ := hrel
    by_cases hlt : j < n1
    · obtain ⟨b, off, s, rfl, hc, _⟩ := h1.at (i := j) (by rw [e1.out]; exact hlt)
      have hlt' : (j : Int) < (n1 : Int) := by omega
      clear h1 h2
      go_wp2
      all_goals first | (go_ret; exact ⟨⟨_, rfl⟩, rfl⟩) | skip
      go_round
      case rel => exact ⟨_, j + 1, by omega, by go_num, rfl⟩
      case measure => simp [intOf]; omega
    · have hnl : ¬ (j : Int) < (n1 : Int) := by omega
      clear h1
      go_wp2
      all_goals first | (go_ret; exact ⟨⟨_, rfl⟩, rfl⟩) | skip
      go_loop [7, 9] (fun t i => ∃ (T : Int) (j : Nat), j ≤ n2 ∧ i = .int .i64 j ∧ t = .int .i64 T) (fun _ i => n2 - (intOf i).toNat)
      case atStart => exact ⟨_, 0, Nat.zero_le _, rfl, rfl⟩
      case round =>
        obtain ⟨T2, j2, hj2, rfl, rfl⟩ := hrel
        by_cases hlt2 : j2 < n2
        · obtain ⟨b, off, s, rfl, hc, _⟩ := h2.at (i := j2) (by rw [e2.out]; exact hlt2)
          have hlt2' : (j2 : Int) < (n2 : Int) := by omega
          clear h2
          go_wp2
          all_goals first | (go_ret; exact ⟨⟨_, rfl⟩, rfl⟩) | skip
          go_round
          case rel => exact ⟨_, j2 + 1, by omega, by go_num, rfl⟩
          case measure => simp [intOf]; omega
        · have hnl2 : ¬ (j2 : Int) < (n2 : Int) := by omega
          clear h2
          go_wp2
          all_goals (go_ret; exact ⟨⟨_, rfl⟩, rfl⟩)

set_option maxHeartbeats 1000000 in
theorem fit_any (a1 a2 : Option Addr) (n1 c1 n2 c2 : Nat) (ks ns : List ByteArray) (i : Int) (w : World) (h1 : Row w a1 ks) (h2 : Row w a2 ns) (e1 : Hid (ks.length = n1)) (e2 : Hid (ns.length = n2)) (b1 : n1 ≤ maxLen) (b2 : n2 ≤ maxLen) :
    Calls Try.prog 6 #[.slice a1 n1 c1, .slice a2 n2 c2, .int .i64 i] w fun e w' => BoolEnd e ∧ w = w' := by
  unfold maxLen at b1 b2
  go_enter Try.func6, Try.ntmps6
  go_wp2
  all_goals first | (go_ret; exact ⟨⟨_, rfl⟩, rfl⟩) | skip
  go_loop [7, 8] (fun t i => ∃ (T : Int) (j : Nat), j ≤ n1 ∧ i = .int .i64 j ∧ t = .int .i64 T) (fun _ i => n1 - (intOf i).toNat)
  case atStart => exact ⟨_, 0, Nat.zero_le _, rfl, rfl⟩
  case round =>
    obtain ⟨T, j, hj, rfl, rfl⟩ := hrel
    by_cases hlt : j < n1
    · obtain ⟨b, off, s, rfl, hc, _⟩ := h1.at (i := j) (by rw [e1.out]; exact hlt)
      have hlt' : (j : Int) < (n1 : Int) := by omega
      clear h1 h2
      go_wp2
      all_goals first | (go_ret; exact ⟨⟨_, rfl⟩, rfl⟩) | skip
      go_round
      case rel => exact ⟨_, j + 1, by omega, by go_num, rfl⟩
      case measure => simp [intOf]; omega
    · have hnl : ¬ (j : Int) < (n1 : Int) := by omega
      clear h1
      go_wp2
      all_goals first | (go_ret; exact ⟨⟨_, rfl⟩, rfl⟩) | skip
      go_loop [7, 9] (fun t i => ∃ (T : Int) (j : Nat), j ≤ n2 ∧ i = .int .i64 j ∧ t = .int .i64 T) (fun _ i => n2 - (intOf i).toNat)
      case atStart => exact ⟨_, 0, Nat.zero_le _, rfl, rfl⟩
      case round =>
        obtain ⟨T2, j2, hj2, rfl, rfl⟩ := hrel
        by_cases hlt2 : j2 < n2
        · obtain ⟨b, off, s, rfl, hc, _⟩ := h2.at (i := j2) (by rw [e2.out]; exact hlt2)
          have hlt2' : (j2 : Int) < (n2 : Int) := by omega
          clear h2
          go_wp2
          all_goals first | (go_ret; exact ⟨⟨_, rfl⟩, rfl⟩) | skip
          go_round
          case rel => exact ⟨_, j2 + 1, by omega, by go_num, rfl⟩
          case measure => simp [intOf]; omega
        · have hnl2 : ¬ (j2 : Int) < (n2 : Int) := by omega
          clear h2
          go_wp2
          all_goals (go_ret; exact ⟨⟨_, rfl⟩, rfl⟩)

set_option maxHeartbeats 1000000 in
theorem bytes9_any (a1 a2 : Option Addr) (n1 c1 n2 c2 : Nat) (ks ns : List ByteArray) (x : ByteArray) (w : World) (h1 : Row w a1 ks) (h2 : Row w a2 ns) (e1 : Hid (ks.length = n1)) (e2 : Hid (ns.length = n2)) (b1 : n1 ≤ maxLen) (b2 : n2 ≤ maxLen) :
    Calls Try.prog 9 #[.slice a1 n1 c1, .slice a2 n2 c2, .string x] w fun e w' => BoolEnd e ∧ w = w' := by
  unfold maxLen at b1 b2
  go_enter Try.func9, Try.ntmps9
  go_wp2
  all_goals first | (go_ret; exact ⟨⟨_, rfl⟩, rfl⟩) | skip
  go_loop [7, 8] (fun t i => ∃ (T : Int) (j : Nat), j ≤ n1 ∧ i = .int .i64 j ∧ t = .int .i64 T) (fun _ i => n1 - (intOf i).toNat)
  case atStart => exact ⟨_, 0, Nat.zero_le _, rfl, rfl⟩
  case round =>
    obtain ⟨T, j, hj, rfl, rfl⟩ := hrel
    by_cases hlt : j < n1
    · obtain ⟨b, off, s, rfl, hc, _⟩ := h1.at (i := j) (by rw [e1.out]; exact hlt)
      have hlt' : (j : Int) < (n1 : Int) := by omega
      clear h1 h2
      go_wp2
      all_goals first | (go_ret; exact ⟨⟨_, rfl⟩, rfl⟩) | skip
      go_round
      case rel => exact ⟨_, j + 1, by omega, by go_num, rfl⟩
      case measure => simp [intOf]; omega
    · have hnl : ¬ (j : Int) < (n1 : Int) := by omega
      clear h1
      go_wp2
      all_goals first | (go_ret; exact ⟨⟨_, rfl⟩, rfl⟩) | skip
      go_loop [7, 9] (fun t i => ∃ (T : Int) (j : Nat), j ≤ n2 ∧ i = .int .i64 j ∧ t = .int .i64 T) (fun _ i => n2 - (intOf i).toNat)
      case atStart => exact ⟨_, 0, Nat.zero_le _, rfl, rfl⟩
      case round =>
        obtain ⟨T2, j2, hj2, rfl, rfl⟩ := hrel
        by_cases hlt2 : j2 < n2
        · obtain ⟨b, off, s, rfl, hc, _⟩ := h2.at (i := j2) (by rw [e2.out]; exact hlt2)
          have hlt2' : (j2 : Int) < (n2 : Int) := by omega
          clear h2
          go_wp2
          all_goals first | (go_ret; exact ⟨⟨_, rfl⟩, rfl⟩) | skip
          go_round
          case rel => exact ⟨_, j2 + 1, by omega, by go_num, rfl⟩
          case measure => simp [intOf]; omega
        · have hnl2 : ¬ (j2 : Int) < (n2 : Int) := by omega
          clear h2
          go_wp2
          all_goals (go_ret; exact ⟨⟨_, rfl⟩, rfl⟩)

end Go.Proofs.Qxb6617036a
