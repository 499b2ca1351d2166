/- isBlank (6), CheckValueEnds (5). -/
import Derived.Test.Qxb6617780aProg
import Derived.WalkKit
import Derived.WalkSpells
import Derived.WalkLawsBesides
import Derived.Deep.QuietTactic
import Derived.BigQuiet
namespace Go.Proofs.Qxb6617780a
open Go.RowKit
set_option linter.unusedVariables false
set_option linter.unusedSimpArgs false

def blk (c : Int) : Bool := c == 32 || c == 9

set_option maxHeartbeats 400000 in
theorem blank_any (c : Int) (w : World) : Calls Try.prog 6 #[.int .u8 c] w fun e w' => e = .returned (.bool (blk c)) ∧ w = w' := by
  by_cases h : c = 32
  · subst h
    go_enter Try.func6, Try.ntmps6
    go_wp2
    go_ret
    exact ⟨rfl, rfl⟩
  · have h1 : (c == 32) = false := by simpa using h
    go_enter Try.func6, Try.ntmps6
    go_wp2
    go_ret
    refine ⟨?_, rfl⟩
    simp [blk, h1]

/-- Does a value start or end with a blank? -/
def bad (l : List UInt8) : Bool :=
  match l.head?, l.getLast? with
  | some a, some b => blk a.toNat || blk b.toNat
  | _, _ => false

theorem size_list (s : ByteArray) : s.data.toList.length = s.size := Array.length_toList

theorem bad_at (s : ByteArray) (hs : 0 < s.size) : bad s.data.toList = (blk s[0].toNat || blk s[s.size - 1].toNat) := by
  have hl := size_list s
  have e1 : s.data.toList.head? = some s[0] := by
    rw [List.head?_eq_getElem?, List.getElem?_eq_getElem (by omega)]
    rfl
  have e2 : s.data.toList.getLast? = some s[s.size - 1] := by
    rw [List.getLast?_eq_getElem?, List.getElem?_eq_getElem (by omega)]
    congr 1
  simp only [bad, e1, e2]

theorem bad_empty (s : ByteArray) (hs : s.size = 0) : bad s.data.toList = false := by
  have : s.data.toList = [] := List.eq_nil_of_length_eq_zero (by rw [size_list]; exact hs)
  rw [this]
  rfl

theorem empty_iff (s : ByteArray) : s.toList.isEmpty = decide (s.size = 0) := by
  rw [ByteArray.toList_eq, ← size_list s]
  cases s.data.toList <;> simp

def isErr (e : Ending) : Prop := ∃ a, e = .returned (.iface 27 (.pointer (some a)))

set_option maxHeartbeats 400000 in
theorem ends_bad (s : ByteArray) (w : World) (h : bad s.data.toList = true) (hm : s.size ≤ maxLen) :
    Calls Try.prog 5 #[.string s] w fun e w' => isErr e ∧ ∀ W, Grown W w → Grown W w' := by
  have hs : 0 < s.size := by
    rcases Nat.eq_zero_or_pos s.size with h0 | h0
    · rw [bad_empty s h0] at h; cases h
    · exact h0
  rw [bad_at s hs] at h
  unfold maxLen at hm
  have h0 : s.toList.isEmpty = false := by rw [empty_iff, decide_eq_false_iff_not]; omega
  cases h1 : blk s[0].toNat
  · have h2 : blk s[s.size - 1].toNat = true := by rw [h1] at h; simpa using h
    clear h
    go_enter Try.func5, Try.ntmps5
    go_wp2_with fail
    refine (blank_any _ _).mono ?_
    rintro e w' ⟨rfl, rfl⟩
    go_wp2_with fail
    refine (blank_any _ _).mono ?_
    rintro e w' ⟨rfl, rfl⟩
    go_wp2
    go_ret
    exact ⟨⟨_, rfl⟩, fun W h => h.alloc _ _⟩
  · clear h
    go_enter Try.func5, Try.ntmps5
    go_wp2_with fail
    refine (blank_any _ _).mono ?_
    rintro e w' ⟨rfl, rfl⟩
    go_wp2
    go_ret
    exact ⟨⟨_, rfl⟩, fun W h => h.alloc _ _⟩

set_option maxHeartbeats 400000 in
theorem ends_ok (s : ByteArray) (w : World) (h : bad s.data.toList = false) (hm : s.size ≤ maxLen) :
    Calls Try.prog 5 #[.string s] w fun e w' => e = .returned .nilIface ∧ w = w' := by
  unfold maxLen at hm
  by_cases hs : s.size = 0
  · have h0 : s.toList.isEmpty = true := by rw [empty_iff, decide_eq_true_iff]; exact hs
    go_enter Try.func5, Try.ntmps5
    go_wp2
    go_ret
    exact ⟨rfl, rfl⟩
  · have hs : 0 < s.size := by omega
    rw [bad_at s hs] at h
    have h0 : s.toList.isEmpty = false := by rw [empty_iff, decide_eq_false_iff_not]; omega
    have h1 : blk s[0].toNat = false := by cases e : blk s[0].toNat <;> simp [e] at h ⊢
    have h2 : blk s[s.size - 1].toNat = false := by cases e : blk s[s.size - 1].toNat <;> simp [e] at h ⊢
    clear h
    go_enter Try.func5, Try.ntmps5
    go_wp2_with fail
    refine (blank_any _ _).mono ?_
    rintro e w' ⟨rfl, rfl⟩
    go_wp2_with fail
    refine (blank_any _ _).mono ?_
    rintro e w' ⟨rfl, rfl⟩
    go_wp2
    go_ret
    exact ⟨rfl, rfl⟩

end Go.Proofs.Qxb6617780a
