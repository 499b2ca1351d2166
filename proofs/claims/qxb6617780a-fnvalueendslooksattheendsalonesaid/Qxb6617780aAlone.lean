/- The walk of FnValueEndsLooksAtTheEndsAlone (function 3). -/
import Derived.Test.Qxb6617780aEnds
namespace Go.Proofs.Qxb6617780a
open Go.RowKit
set_option linter.unusedVariables false
set_option linter.unusedSimpArgs false

/-- Some bool is returned. -/
def BoolEnd (e : Ending) : Prop := ∃ b, e = .returned (.bool b)

set_option maxHeartbeats 400000 in
theorem bytes_any (v m : ByteArray) (w : World) : Calls Try.prog 4 #[.string v, .string m] w fun e w' => BoolEnd e ∧ w = w' := by
  go_enter Try.func4, Try.ntmps4
  go_wp2
  all_goals (go_ret; exact ⟨⟨_, rfl⟩, rfl⟩)

set_option maxHeartbeats 400000 in
theorem alone_out (v m : ByteArray) (w : World) (h : 524288 < v.size ∨ 524288 < m.size) :
    Calls Try.prog 3 #[.string v, .string m] w fun e w' => e = .returned (.bool true) ∧ Grown w w' := by
  by_cases h1 : 524288 < v.size
  · have h1' : (524288 : Int) < (v.size : Int) := by omega
    go_enter Try.func3, Try.ntmps3
    go_wp2_with fail
    refine (bytes_any v m w).mono ?_
    rintro e w' ⟨⟨r, rfl⟩, rfl⟩
    cases r
    all_goals
      go_wp2_with fail
      go_ret
      exact ⟨rfl, Grown.refl _⟩
  · have h1' : ¬ (524288 : Int) < (v.size : Int) := by omega
    have h2' : (524288 : Int) < (m.size : Int) := by omega
    go_enter Try.func3, Try.ntmps3
    go_wp2_with fail
    refine (bytes_any v m w).mono ?_
    rintro e w' ⟨⟨r, rfl⟩, rfl⟩
    cases r
    all_goals
      go_wp2_with fail
      go_ret
      exact ⟨rfl, Grown.refl _⟩

theorem list_append (a b : ByteArray) : (a ++ b).data.toList = a.data.toList ++ b.data.toList := by
  rw [ByteArray.data_append, Array.toList_append]

theorem bad_of {l : List UInt8} {a b : UInt8} (h1 : l.head? = some a) (h2 : l.getLast? = some b) : bad l = (blk a.toNat || blk b.toNat) := by
  simp only [bad, h1, h2]

theorem bad_after (v : ByteArray) : bad (v ++ ⟨#[32]⟩).data.toList = true := by
  rw [list_append]
  show bad (v.data.toList ++ [32]) = true
  cases h : v.data.toList with
  | nil => rfl
  | cons a r => rw [bad_of (a := a) (b := 32) rfl List.getLast?_concat]; simp [blk]

theorem bad_before (v : ByteArray) : bad (⟨#[9]⟩ ++ v : ByteArray).data.toList = true := by
  rw [list_append]
  show bad (9 :: v.data.toList) = true
  obtain ⟨b, hb⟩ : ∃ b, (9 :: v.data.toList).getLast? = some b := ⟨_, List.getLast?_eq_some_getLast (by simp)⟩
  rw [bad_of (a := 9) (b := b) rfl hb]
  rfl

theorem ok_framed (v : ByteArray) : bad (⟨#[97]⟩ ++ v ++ ⟨#[97]⟩ : ByteArray).data.toList = false := by
  rw [list_append, list_append]
  show bad (97 :: v.data.toList ++ [97]) = false
  rw [bad_of (a := 97) (b := 97) rfl List.getLast?_concat]
  rfl

theorem bad_middle (v m : ByteArray) (h : 0 < v.size) : bad (v.extract 0 1 ++ m ++ v.extract (v.size - 1) v.size).data.toList = bad v.data.toList := by
  have hl := size_list v
  rw [list_append, list_append]
  have e1 : (v.extract 0 1).data.toList = v.data.toList.take 1 := by
    rw [ByteArray.data_extract, Array.toList_extract]; simp [List.extract]
  have e2 : (v.extract (v.size - 1) v.size).data.toList = v.data.toList.drop (v.size - 1) := by
    rw [ByteArray.data_extract, Array.toList_extract]
    simp only [List.extract]
    rw [List.take_of_length_le (by simp)]
  rw [e1, e2, ← hl]
  cases h1 : v.data.toList with
  | nil => rw [h1] at hl; simp at hl; omega
  | cons a r =>
    obtain ⟨b, hb⟩ : ∃ b, (a :: r).getLast? = some b := ⟨_, List.getLast?_eq_some_getLast (by simp)⟩
    rw [bad_of (l := a :: r) rfl hb]
    refine bad_of rfl ?_
    rw [List.getLast?_append, List.getLast?_drop]
    simp [hb]

set_option maxHeartbeats 1000000 in
theorem alone_in (v m : ByteArray) (w : World) (h1 : v.size ≤ 524288) (h2 : m.size ≤ 524288) :
    Calls Try.prog 3 #[.string v, .string m] w fun e w' => e = .returned (.bool true) ∧ Grown w w' := by
  have h1' : (v.size : Int) ≤ 524288 := by omega
  have h2' : (m.size : Int) ≤ 524288 := by omega
  have hsz : (v.extract 0 1 ++ m ++ v.extract (v.size - 1) v.size).size ≤ maxLen := by
    rw [ByteArray.size_append, ByteArray.size_append, ByteArray.size_extract, ByteArray.size_extract]; unfold maxLen; omega
  cases hb : bad v.data.toList
  · go_enter Try.func3, Try.ntmps3
    go_wp2_with fail
    refine (bytes_any v m w).mono ?_
    rintro e w' ⟨⟨r, rfl⟩, rfl⟩
    cases r
    · go_wp2_with fail
      go_ret
      exact ⟨rfl, Grown.refl _⟩
    go_wp2_with fail
    refine (ends_ok v w hb (by unfold maxLen; omega)).mono ?_
    rintro e w' ⟨rfl, rfl⟩
    by_cases hz : v.size = 0
    · have h0 : v.toList.isEmpty = true := by rw [empty_iff, decide_eq_true_iff]; exact hz
      have HG : Hid (Grown w w) := Grown.refl _
      clear hsz
      go_wp2_with fail
      refine (ends_bad _ _ (bad_after v) (by rw [ByteArray.size_append]; show v.size + 1 ≤ maxLen; unfold maxLen; omega)).mono ?_
      rintro e w2 ⟨⟨r2, rfl⟩, hg2⟩
      have HG2 : Hid (Grown w w2) := hg2 _ HG.out
      clear hg2 HG
      go_wp2_with fail
      refine (ends_bad _ _ (bad_before v) (by rw [ByteArray.size_append]; show 1 + v.size ≤ maxLen; unfold maxLen; omega)).mono ?_
      rintro e w3 ⟨⟨r3, rfl⟩, hg3⟩
      have HG3 : Hid (Grown w w3) := hg3 _ HG2.out
      clear hg3 HG2
      go_wp2_with fail
      refine (ends_ok _ _ (ok_framed v) (by rw [ByteArray.size_append, ByteArray.size_append]; show 1 + v.size + 1 ≤ maxLen; unfold maxLen; omega)).mono ?_
      rintro e w' ⟨rfl, rfl⟩
      go_wp2_with fail
      go_ret
      exact ⟨rfl, HG3⟩
    · have h0 : v.toList.isEmpty = false := by rw [empty_iff, decide_eq_false_iff_not]; exact hz
      have hz' : 0 < v.size := by omega
      have Hs : Hid _ := hsz
      clear hsz
      go_wp2_with fail
      go_quiet (fail)
      go_wp2_with fail
      refine (ends_ok _ _ ((bad_middle v m hz').trans hb) Hs.out).mono ?_
      rintro e w' ⟨rfl, rfl⟩
      have HG : Hid (Grown w (w.drewN nq)) := (Grown.refl w : Grown w w)
      go_wp2_with fail
      refine (ends_bad _ _ (bad_after v) (by rw [ByteArray.size_append]; show v.size + 1 ≤ maxLen; unfold maxLen; omega)).mono ?_
      rintro e w2 ⟨⟨r2, rfl⟩, hg2⟩
      have HG2 : Hid (Grown w w2) := hg2 _ HG.out
      clear hg2 HG
      go_wp2_with fail
      refine (ends_bad _ _ (bad_before v) (by rw [ByteArray.size_append]; show 1 + v.size ≤ maxLen; unfold maxLen; omega)).mono ?_
      rintro e w3 ⟨⟨r3, rfl⟩, hg3⟩
      have HG3 : Hid (Grown w w3) := hg3 _ HG2.out
      clear hg3 HG2
      go_wp2_with fail
      refine (ends_ok _ _ (ok_framed v) (by rw [ByteArray.size_append, ByteArray.size_append]; show 1 + v.size + 1 ≤ maxLen; unfold maxLen; omega)).mono ?_
      rintro e w' ⟨rfl, rfl⟩
      go_wp2_with fail
      go_ret
      exact ⟨rfl, HG3⟩
  · have hz : ¬ v.size = 0 := fun h => by rw [bad_empty v h] at hb; cases hb
    have h0 : v.toList.isEmpty = false := by rw [empty_iff, decide_eq_false_iff_not]; exact hz
    have hz' : 0 < v.size := by omega
    have Hs : Hid _ := hsz
    clear hsz
    go_enter Try.func3, Try.ntmps3
    go_wp2_with fail
    refine (bytes_any v m w).mono ?_
    rintro e w' ⟨⟨r, rfl⟩, rfl⟩
    cases r
    · go_wp2_with fail
      go_ret
      exact ⟨rfl, Grown.refl _⟩
    go_wp2_with fail
    refine (ends_bad v w hb (by unfold maxLen; omega)).mono ?_
    rintro e w0 ⟨⟨r0, rfl⟩, hg0⟩
    have HG0 : Hid (Grown w w0) := hg0 _ (Grown.refl _)
    clear hg0
    go_wp2_with fail
    go_quiet (fail)
    go_wp2_with fail
    refine (ends_bad _ _ ((bad_middle v m hz').trans hb) Hs.out).mono ?_
    rintro e w1 ⟨⟨r1, rfl⟩, hg1⟩
    have HG : Hid (Grown w w1) := hg1 _ (show Grown w (w0.drewN nq) from HG0.out)
    clear hg1 HG0
    go_wp2_with fail
    refine (ends_bad _ _ (bad_after v) (by rw [ByteArray.size_append]; show v.size + 1 ≤ maxLen; unfold maxLen; omega)).mono ?_
    rintro e w2 ⟨⟨r2, rfl⟩, hg2⟩
    have HG2 : Hid (Grown w w2) := hg2 _ HG.out
    clear hg2 HG
    go_wp2_with fail
    refine (ends_bad _ _ (bad_before v) (by rw [ByteArray.size_append]; show 1 + v.size ≤ maxLen; unfold maxLen; omega)).mono ?_
    rintro e w3 ⟨⟨r3, rfl⟩, hg3⟩
    have HG3 : Hid (Grown w w3) := hg3 _ HG2.out
    clear hg3 HG2
    go_wp2_with fail
    refine (ends_ok _ _ (ok_framed v) (by rw [ByteArray.size_append, ByteArray.size_append]; show 1 + v.size + 1 ≤ maxLen; unfold maxLen; omega)).mono ?_
    rintro e w' ⟨rfl, rfl⟩
    go_wp2_with fail
    go_ret
    exact ⟨rfl, HG3⟩

theorem alone_any (v m : ByteArray) (w : World) :
    Calls Try.prog 3 #[.string v, .string m] w fun e w' => e = .returned (.bool true) ∧ Grown w w' := by
  by_cases h : 524288 < v.size ∨ 524288 < m.size
  · exact alone_out v m w h
  · exact alone_in v m w (by omega) (by omega)

end Go.Proofs.Qxb6617780a
