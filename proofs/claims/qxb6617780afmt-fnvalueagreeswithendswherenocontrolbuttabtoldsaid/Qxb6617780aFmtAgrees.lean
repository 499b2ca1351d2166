/- The walk of FnValueAgreesWithEndsWhereNoControlButTab (function 4). -/
import Derived.Test.Qxb6617780aFmtValue
namespace Go.Proofs.Qxb6617780aFmt
open Go.RowKit Go.Extern.Stop Go.Stop Go.Extern
set_option linter.unusedVariables false
set_option linter.unusedSimpArgs false

theorem value_ok (F : Interp) (s : ByteArray) (w : World) (hF : F.answers w.tape) (hm : s.size ≤ maxLen) (hc : clean s.data.toList = true) (hb : bad s.data.toList = false) :
    Calls Tryf.prog 9 #[.string s] w fun e w' => e = .returned .nilIface ∧ w = w' :=
  (value_any F s w hF hm).mono fun e w' h => by
    rcases h with ⟨_, h1, h2⟩ | ⟨h, _⟩
    · exact ⟨h1, h2⟩
    · rw [hc, hb] at h; cases h

theorem value_bad (F : Interp) (s : ByteArray) (w : World) (hF : F.answers w.tape) (hm : s.size ≤ maxLen) (h : (clean s.data.toList && !bad s.data.toList) = false) :
    Calls Tryf.prog 9 #[.string s] w fun e w' => isErr e ∧ ∀ W, Fine W w → Fine W w' :=
  (value_any F s w hF hm).mono fun e w' h' => by
    rcases h' with ⟨h1, _⟩ | ⟨_, h1, h2⟩
    · rw [h] at h1; cases h1
    · exact ⟨h1, h2⟩

theorem list_append (a b : ByteArray) : (a ++ b).data.toList = a.data.toList ++ b.data.toList := by
  rw [ByteArray.data_append, Array.toList_append]

theorem bad_of {l : List UInt8} {a b : UInt8} (h1 : l.head? = some a) (h2 : l.getLast? = some b) : bad l = (blk a.toNat || blk b.toNat) := by
  simp only [bad, h1, h2]

theorem bad_after (v : ByteArray) : bad (v ++ ⟨#[9]⟩).data.toList = true := by
  rw [list_append]
  show bad (v.data.toList ++ [9]) = true
  cases h : v.data.toList with
  | nil => rfl
  | cons a r => rw [bad_of (a := a) (b := 9) rfl List.getLast?_concat]; simp [blk]

theorem bad_before (v : ByteArray) : bad (⟨#[32]⟩ ++ v : ByteArray).data.toList = true := by
  rw [list_append]
  show bad (32 :: v.data.toList) = true
  obtain ⟨b, hb⟩ : ∃ b, (32 :: v.data.toList).getLast? = some b := ⟨_, List.getLast?_eq_some_getLast (by simp)⟩
  rw [bad_of (a := 32) (b := b) rfl hb]
  rfl

theorem refused {l : List UInt8} (h : bad l = true) : (clean l && !bad l) = false := by rw [h]; simp

theorem size_before (v : ByteArray) (h : v.size ≤ 1048576) : (⟨#[32]⟩ ++ v : ByteArray).size ≤ maxLen := by
  rw [ByteArray.size_append]; show 1 + v.size ≤ maxLen; unfold maxLen; omega
theorem size_after (v : ByteArray) (h : v.size ≤ 1048576) : (v ++ ⟨#[9]⟩ : ByteArray).size ≤ maxLen := by
  rw [ByteArray.size_append]; show v.size + 1 ≤ maxLen; unfold maxLen; omega

set_option maxHeartbeats 1600000 in
theorem law4_nn (F : Interp) (v : ByteArray) (w : World) (hF : F.answers w.tape) (h0 : v.size ≤ 1048576) (hc : clean v.data.toList = false) (hb : bad v.data.toList = false) :
    Calls Tryf.prog 4 #[.string v] w fun e w' => e = .returned (.bool true) ∧ Fine w w' := by
  have y1 : ¬ (1048576 : Int) < (v.size : Int) := by omega
  have hm : Hid (v.size ≤ maxLen) := by show v.size ≤ maxLen; unfold maxLen; omega
  go_enter Tryf.func4, Tryf.ntmps4
  go_wp2_with fail
  refine (bytes8_any v w).mono ?_
  rintro e w' ⟨⟨r, rfl⟩, rfl⟩
  cases r
  · go_wp2_with fail
    go_ret
    exact ⟨rfl, Fine.refl _⟩
  go_wp2_with fail
  refine (value_bad F v w hF hm.out (by rw [hc, hb]; rfl)).mono ?_
  rintro e w1 ⟨⟨r1, rfl⟩, hg1⟩
  have HG1 : Hid (Fine w w1) := hg1 _ (Fine.refl _)
  clear hg1
  go_wp2_with fail
  refine (ends_ok v w1 hb hm.out).mono ?_
  rintro e w2 ⟨rfl, rfl⟩
  have HG2 : Hid (Fine w w1) := HG1
  go_wp2_with fail
  refine (clean_any v w1 hm.out).mono ?_
  rintro e w3 ⟨rfl, rfl⟩
  go_wp2_with fail
  refine (value_bad F _ w1 (by rw [HG2.out.2]; exact hF) (size_before v h0) (refused (bad_before v))).mono ?_
  rintro e w4 ⟨⟨r4, rfl⟩, hg4⟩
  have HG4 : Hid (Fine w w4) := hg4 _ HG2.out
  clear hg4
  go_wp2_with fail
  refine (value_bad F _ w4 (by rw [HG4.out.2]; exact hF) (size_after v h0) (refused (bad_after v))).mono ?_
  rintro e w5 ⟨⟨r5, rfl⟩, hg5⟩
  have HG5 : Hid (Fine w w5) := hg5 _ HG4.out
  clear hg5
  go_wp2_with fail
  go_ret
  exact ⟨rfl, HG5⟩

set_option maxHeartbeats 1600000 in
theorem law4_ny (F : Interp) (v : ByteArray) (w : World) (hF : F.answers w.tape) (h0 : v.size ≤ 1048576) (hc : clean v.data.toList = false) (hb : bad v.data.toList = true) :
    Calls Tryf.prog 4 #[.string v] w fun e w' => e = .returned (.bool true) ∧ Fine w w' := by
  have y1 : ¬ (1048576 : Int) < (v.size : Int) := by omega
  have hm : Hid (v.size ≤ maxLen) := by show v.size ≤ maxLen; unfold maxLen; omega
  go_enter Tryf.func4, Tryf.ntmps4
  go_wp2_with fail
  refine (bytes8_any v w).mono ?_
  rintro e w' ⟨⟨r, rfl⟩, rfl⟩
  cases r
  · go_wp2_with fail
    go_ret
    exact ⟨rfl, Fine.refl _⟩
  go_wp2_with fail
  refine (value_bad F v w hF hm.out (by rw [hc, hb]; rfl)).mono ?_
  rintro e w1 ⟨⟨r1, rfl⟩, hg1⟩
  have HG1 : Hid (Fine w w1) := hg1 _ (Fine.refl _)
  clear hg1
  go_wp2_with fail
  refine (ends_bad v w1 hb hm.out).mono ?_
  rintro e w2 ⟨⟨r2, rfl⟩, hg2⟩
  have HG2 : Hid (Fine w w2) := hg2 _ HG1.out
  clear hg2
  go_wp2_with fail
  refine (clean_any v w2 hm.out).mono ?_
  rintro e w3 ⟨rfl, rfl⟩
  go_wp2_with fail
  refine (value_bad F _ w2 (by rw [HG2.out.2]; exact hF) (size_before v h0) (refused (bad_before v))).mono ?_
  rintro e w4 ⟨⟨r4, rfl⟩, hg4⟩
  have HG4 : Hid (Fine w w4) := hg4 _ HG2.out
  clear hg4
  go_wp2_with fail
  refine (value_bad F _ w4 (by rw [HG4.out.2]; exact hF) (size_after v h0) (refused (bad_after v))).mono ?_
  rintro e w5 ⟨⟨r5, rfl⟩, hg5⟩
  have HG5 : Hid (Fine w w5) := hg5 _ HG4.out
  clear hg5
  go_wp2_with fail
  go_ret
  exact ⟨rfl, HG5⟩

set_option maxHeartbeats 1600000 in
theorem law4_yn (F : Interp) (v : ByteArray) (w : World) (hF : F.answers w.tape) (h0 : v.size ≤ 1048576) (hc : clean v.data.toList = true) (hb : bad v.data.toList = false) :
    Calls Tryf.prog 4 #[.string v] w fun e w' => e = .returned (.bool true) ∧ Fine w w' := by
  have y1 : ¬ (1048576 : Int) < (v.size : Int) := by omega
  have hm : Hid (v.size ≤ maxLen) := by show v.size ≤ maxLen; unfold maxLen; omega
  go_enter Tryf.func4, Tryf.ntmps4
  go_wp2_with fail
  refine (bytes8_any v w).mono ?_
  rintro e w' ⟨⟨r, rfl⟩, rfl⟩
  cases r
  · go_wp2_with fail
    go_ret
    exact ⟨rfl, Fine.refl _⟩
  go_wp2_with fail
  refine (value_ok F v w hF hm.out hc hb).mono ?_
  rintro e w1 ⟨rfl, rfl⟩
  have HG1 : Hid (Fine w w) := Fine.refl _
  go_wp2_with fail
  refine (ends_ok v w hb hm.out).mono ?_
  rintro e w2 ⟨rfl, rfl⟩
  have HG2 : Hid (Fine w w) := HG1
  go_wp2_with fail
  refine (clean_any v w hm.out).mono ?_
  rintro e w3 ⟨rfl, rfl⟩
  go_wp2_with fail
  refine (value_bad F _ w (by rw [HG2.out.2]; exact hF) (size_before v h0) (refused (bad_before v))).mono ?_
  rintro e w4 ⟨⟨r4, rfl⟩, hg4⟩
  have HG4 : Hid (Fine w w4) := hg4 _ HG2.out
  clear hg4
  go_wp2_with fail
  refine (value_bad F _ w4 (by rw [HG4.out.2]; exact hF) (size_after v h0) (refused (bad_after v))).mono ?_
  rintro e w5 ⟨⟨r5, rfl⟩, hg5⟩
  have HG5 : Hid (Fine w w5) := hg5 _ HG4.out
  clear hg5
  go_wp2_with fail
  go_ret
  exact ⟨rfl, HG5⟩

set_option maxHeartbeats 1600000 in
theorem law4_yy (F : Interp) (v : ByteArray) (w : World) (hF : F.answers w.tape) (h0 : v.size ≤ 1048576) (hc : clean v.data.toList = true) (hb : bad v.data.toList = true) :
    Calls Tryf.prog 4 #[.string v] w fun e w' => e = .returned (.bool true) ∧ Fine w w' := by
  have y1 : ¬ (1048576 : Int) < (v.size : Int) := by omega
  have hm : Hid (v.size ≤ maxLen) := by show v.size ≤ maxLen; unfold maxLen; omega
  go_enter Tryf.func4, Tryf.ntmps4
  go_wp2_with fail
  refine (bytes8_any v w).mono ?_
  rintro e w' ⟨⟨r, rfl⟩, rfl⟩
  cases r
  · go_wp2_with fail
    go_ret
    exact ⟨rfl, Fine.refl _⟩
  go_wp2_with fail
  refine (value_bad F v w hF hm.out (by rw [hc, hb]; rfl)).mono ?_
  rintro e w1 ⟨⟨r1, rfl⟩, hg1⟩
  have HG1 : Hid (Fine w w1) := hg1 _ (Fine.refl _)
  clear hg1
  go_wp2_with fail
  refine (ends_bad v w1 hb hm.out).mono ?_
  rintro e w2 ⟨⟨r2, rfl⟩, hg2⟩
  have HG2 : Hid (Fine w w2) := hg2 _ HG1.out
  clear hg2
  go_wp2_with fail
  refine (clean_any v w2 hm.out).mono ?_
  rintro e w3 ⟨rfl, rfl⟩
  go_wp2_with fail
  refine (value_bad F _ w2 (by rw [HG2.out.2]; exact hF) (size_before v h0) (refused (bad_before v))).mono ?_
  rintro e w4 ⟨⟨r4, rfl⟩, hg4⟩
  have HG4 : Hid (Fine w w4) := hg4 _ HG2.out
  clear hg4
  go_wp2_with fail
  refine (value_bad F _ w4 (by rw [HG4.out.2]; exact hF) (size_after v h0) (refused (bad_after v))).mono ?_
  rintro e w5 ⟨⟨r5, rfl⟩, hg5⟩
  have HG5 : Hid (Fine w w5) := hg5 _ HG4.out
  clear hg5
  go_wp2_with fail
  go_ret
  exact ⟨rfl, HG5⟩

set_option maxHeartbeats 400000 in
theorem law4_out (v : ByteArray) (w : World) (h0 : 1048576 < v.size) :
    Calls Tryf.prog 4 #[.string v] w fun e w' => e = .returned (.bool true) ∧ Fine w w' := by
  have y1 : (1048576 : Int) < (v.size : Int) := by omega
  go_enter Tryf.func4, Tryf.ntmps4
  go_wp2_with fail
  refine (bytes8_any v w).mono ?_
  rintro e w' ⟨⟨r, rfl⟩, rfl⟩
  cases r
  all_goals
    go_wp2_with fail
    go_ret
    exact ⟨rfl, Fine.refl _⟩

theorem law4_any (F : Interp) (v : ByteArray) (w : World) (hF : F.answers w.tape) :
    Calls Tryf.prog 4 #[.string v] w fun e w' => e = .returned (.bool true) ∧ Fine w w' := by
  by_cases h : 1048576 < v.size
  · exact law4_out v w h
  · have h0 : v.size ≤ 1048576 := by omega
    cases hc : clean v.data.toList <;> cases hb : bad v.data.toList
    · exact law4_nn F v w hF h0 hc hb
    · exact law4_ny F v w hF h0 hc hb
    · exact law4_yn F v w hF h0 hc hb
    · exact law4_yy F v w hF h0 hc hb

end Go.Proofs.Qxb6617780aFmt
