/- zzLowerToken (7), zzBytes (5). -/
import Derived.Test.Qxb6617780aFmtConn
namespace Go.Proofs.Qxb6617780aFmt
open Go.RowKit Go.Extern.Stop Go.Stop Go.Extern
set_option linter.unusedVariables false
set_option linter.unusedSimpArgs false

def okc (c : UInt8) : Bool := decide (97 ≤ c.toNat ∧ c.toNat ≤ 122) || decide (c.toNat = 45)
def lower (l : List UInt8) : Bool := l.all okc

theorem size_list (s : ByteArray) : s.data.toList.length = s.size := Array.length_toList

theorem lower_no {s : ByteArray} {k : Nat} (hk : k < s.size) (h : okc s[k] = false) : lower s.data.toList = false := by
  rw [lower, List.all_eq_false]
  refine ⟨s[k], ?_, by rw [h]; simp⟩
  have : s.data.toList[k]'(by rw [size_list]; exact hk) = s[k] := rfl
  rw [← this]
  exact List.getElem_mem _

theorem lower_yes {s : ByteArray} (h : ∀ c (hc : c < s.size), okc s[c] = true) : lower s.data.toList = true := by
  rw [lower, List.all_eq_true]
  intro x hx
  obtain ⟨j, hj, rfl⟩ := List.getElem_of_mem hx
  exact h j (by rw [size_list] at hj; exact hj)

theorem all_next {s : ByteArray} {k : Nat} (h : ∀ c (hc : c < s.size), c < k → okc s[c] = true) (hk : k < s.size) (h1 : okc s[k] = true) : ∀ c (hc : c < s.size), c < k + 1 → okc s[c] = true := by
  intro c hc hck
  by_cases e : c = k
  · subst e; exact h1
  · exact h c hc (by omega)

theorem ret_bool {a b : Bool} (h : a = b) : Ending.returned (.bool a) = .returned (.bool b) := by rw [h]

/-- Some bool is returned. -/
def BoolEnd (e : Ending) : Prop := ∃ b, e = .returned (.bool b)

set_option maxHeartbeats 800000 in
theorem lower_any (s : ByteArray) (w : World) (hs : s.size ≤ maxLen) :
    Calls Tryf.prog 7 #[.string s] w fun e w' => e = .returned (.bool (lower s.data.toList)) ∧ w = w' := by
  unfold maxLen at hs
  go_enter Tryf.func7, Tryf.ntmps7
  go_wp2
  go_loop [3] (fun i => ∃ k : Nat, k ≤ s.size ∧ i = .int .i64 k ∧ Hid (∀ c (hc : c < s.size), c < k → okc s[c] = true)) (fun i => s.size - (intOf i).toNat)
  case atStart => exact ⟨0, Nat.zero_le _, rfl, fun c _ hc => absurd hc (by omega)⟩
  case round =>
    obtain ⟨k, hk, rfl, hall⟩ := hrel
    by_cases hlt : k < s.size
    · have hlt' : (k : Int) < (s.size : Int) := by omega
      by_cases c1 : (97 : Int) ≤ (s[k].toNat : Int)
      · by_cases c2 : (s[k].toNat : Int) ≤ 122
        · have hok : Hid (okc s[k] = true) := by show okc s[k] = true; simp [okc]; omega
          go_wp2
          go_round
          case rel => exact ⟨k + 1, by omega, by go_num, all_next hall.out hlt hok.out⟩
          case measure => simp [intOf]; omega
        · have hno : Hid (okc s[k] = false) := by show okc s[k] = false; simp [okc]; omega
          have c3 : ((s[k].toNat : Int) != 45) = true := by rw [bne_iff_ne]; omega
          have c4 : decide ((s[k].toNat : Int) ≤ 122) = false := by simpa using c2
          go_wp2
          go_ret
          exact ⟨ret_bool (lower_no hlt hno.out).symm, rfl⟩
      · by_cases c2 : (s[k].toNat : Int) = 45
        · have hok : Hid (okc s[k] = true) := by show okc s[k] = true; simp [okc]; omega
          have c3 : ((s[k].toNat : Int) != 45) = false := by rw [c2]; rfl
          clear c2
          go_wp2
          go_round
          case rel => exact ⟨k + 1, by omega, by go_num, all_next hall.out hlt hok.out⟩
          case measure => simp [intOf]; omega
        · have hno : Hid (okc s[k] = false) := by show okc s[k] = false; simp [okc]; omega
          have c3 : ((s[k].toNat : Int) != 45) = true := by rw [bne_iff_ne]; exact c2
          go_wp2
          go_ret
          exact ⟨ret_bool (lower_no hlt hno.out).symm, rfl⟩
    · have hge : ¬ (k : Int) < (s.size : Int) := by omega
      go_wp2
      go_ret
      exact ⟨ret_bool (lower_yes fun c hc => hall.out c hc (by omega)).symm, rfl⟩

set_option maxHeartbeats 400000 in
theorem bytes5_any (a b c : ByteArray) (w : World) : Calls Tryf.prog 5 #[.string a, .string b, .string c] w fun e w' => BoolEnd e ∧ w = w' := by
  go_enter Tryf.func5, Tryf.ntmps5
  go_wp2
  all_goals (go_ret; exact ⟨⟨_, rfl⟩, rfl⟩)

theorem conn_lower {s : ByteArray} (h : conn s.toList = true) : lower s.data.toList = true := by
  rw [ByteArray.toList_eq] at h
  simp only [conn, Bool.or_eq_true, beq_iff_eq] at h
  rcases h with (((h | h) | h) | h) | h <;> rw [h] <;> decide

theorem te_conn {s : ByteArray} (h : (s.toList == [116, 101]) = true) : conn s.toList = false := by
  rw [beq_iff_eq] at h
  rw [h]
  decide

def head0 (nm v1 v2 : ByteArray) : Prop := nm.size ≤ 262144 ∧ v1.size ≤ 262144 ∧ v2.size ≤ 262144

set_option maxHeartbeats 1600000 in
theorem law_te (nm v1 v2 : ByteArray) (w : World) (h0 : head0 nm v1 v2) (ht : (nm.toList == [116, 101]) = true) :
    Calls Tryf.prog 3 #[.string nm, .string v1, .string v2] w fun e w' => e = .returned (.bool true) ∧ Fine w w' := by
  obtain ⟨z1, z2, z3⟩ := h0
  have y1 : ¬ (262144 : Int) < (nm.size : Int) := by omega
  have y2 : ¬ (262144 : Int) < (v1.size : Int) := by omega
  have y3 : ¬ (262144 : Int) < (v2.size : Int) := by omega
  have hcn := te_conn ht
  cases c1 : (v1.toList == [116, 114, 97, 105, 108, 101, 114, 115]) <;> cases c2 : (v2.toList == [116, 114, 97, 105, 108, 101, 114, 115])
  · go_enter Tryf.func3, Tryf.ntmps3
    go_wp2_with fail
    refine (bytes5_any nm v1 v2 w).mono ?_
    rintro e w' ⟨⟨r, rfl⟩, rfl⟩
    cases r
    · go_wp2_with fail
      go_ret
      exact ⟨rfl, Fine.refl _⟩
    go_wp2_with fail
    refine (te_bad nm v1 w hcn ht c1).mono ?_
    rintro e w1 ⟨⟨r1, rfl⟩, hg1⟩
    have HG1 : Hid (Fine w w1) := hg1 _ (Fine.refl _)
    clear hg1
    go_wp2_with fail
    refine (te_bad nm v2 w1 hcn ht c2).mono ?_
    rintro e w2 ⟨⟨r2, rfl⟩, hg2⟩
    have HG2 : Hid (Fine w w2) := hg2 _ HG1.out
    clear hg2 HG1
    go_wp2_with fail
    go_ret
    exact ⟨rfl, HG2⟩
  · go_enter Tryf.func3, Tryf.ntmps3
    go_wp2_with fail
    refine (bytes5_any nm v1 v2 w).mono ?_
    rintro e w' ⟨⟨r, rfl⟩, rfl⟩
    cases r
    · go_wp2_with fail
      go_ret
      exact ⟨rfl, Fine.refl _⟩
    go_wp2_with fail
    refine (te_bad nm v1 w hcn ht c1).mono ?_
    rintro e w1 ⟨⟨r1, rfl⟩, hg1⟩
    have HG1 : Hid (Fine w w1) := hg1 _ (Fine.refl _)
    clear hg1
    go_wp2_with fail
    refine (te_ok nm v2 w1 hcn ht c2).mono ?_
    rintro e w2 ⟨rfl, rfl⟩
    go_wp2_with fail
    go_ret
    exact ⟨rfl, HG1⟩
  · go_enter Tryf.func3, Tryf.ntmps3
    go_wp2_with fail
    refine (bytes5_any nm v1 v2 w).mono ?_
    rintro e w' ⟨⟨r, rfl⟩, rfl⟩
    cases r
    · go_wp2_with fail
      go_ret
      exact ⟨rfl, Fine.refl _⟩
    go_wp2_with fail
    refine (te_ok nm v1 w hcn ht c1).mono ?_
    rintro e w1 ⟨rfl, rfl⟩
    go_wp2_with fail
    refine (te_bad nm v2 w hcn ht c2).mono ?_
    rintro e w2 ⟨⟨r2, rfl⟩, hg2⟩
    have HG2 : Hid (Fine w w2) := hg2 _ (Fine.refl _)
    clear hg2
    go_wp2_with fail
    go_ret
    exact ⟨rfl, HG2⟩
  · go_enter Tryf.func3, Tryf.ntmps3
    go_wp2_with fail
    refine (bytes5_any nm v1 v2 w).mono ?_
    rintro e w' ⟨⟨r, rfl⟩, rfl⟩
    cases r
    · go_wp2_with fail
      go_ret
      exact ⟨rfl, Fine.refl _⟩
    go_wp2_with fail
    refine (te_ok nm v1 w hcn ht c1).mono ?_
    rintro e w1 ⟨rfl, rfl⟩
    go_wp2_with fail
    refine (te_ok nm v2 w hcn ht c2).mono ?_
    rintro e w2 ⟨rfl, rfl⟩
    go_wp2_with fail
    go_ret
    exact ⟨rfl, Fine.refl _⟩

set_option maxHeartbeats 1600000 in
theorem law_conn (F : Interp) (nm v1 v2 : ByteArray) (w : World) (hF : F.answers w.tape) (h0 : head0 nm v1 v2) (ht : (nm.toList == [116, 101]) = false) (hcn : conn nm.toList = true) :
    Calls Tryf.prog 3 #[.string nm, .string v1, .string v2] w fun e w' => e = .returned (.bool true) ∧ Fine w w' := by
  obtain ⟨z1, z2, z3⟩ := h0
  have y1 : ¬ (262144 : Int) < (nm.size : Int) := by omega
  have y2 : ¬ (262144 : Int) < (v1.size : Int) := by omega
  have y3 : ¬ (262144 : Int) < (v2.size : Int) := by omega
  have hlow := conn_lower hcn
  go_enter Tryf.func3, Tryf.ntmps3
  go_wp2_with fail
  refine (bytes5_any nm v1 v2 w).mono ?_
  rintro e w' ⟨⟨r, rfl⟩, rfl⟩
  cases r
  · go_wp2_with fail
    go_ret
    exact ⟨rfl, Fine.refl _⟩
  go_wp2_with fail
  refine (conn_bad F nm v1 w hF hcn).mono ?_
  rintro e w1 ⟨⟨r1, rfl⟩, hg1⟩
  have HG1 : Hid (Fine w w1) := hg1 _ (Fine.refl _)
  clear hg1
  go_wp2_with fail
  refine (conn_bad F nm v2 w1 (by rw [HG1.out.2]; exact hF) hcn).mono ?_
  rintro e w2 ⟨⟨r2, rfl⟩, hg2⟩
  have HG2 : Hid (Fine w w2) := hg2 _ HG1.out
  clear hg2 HG1
  go_wp2_with fail
  refine (lower_any nm w2 (by unfold maxLen; omega)).mono ?_
  rintro e w3 ⟨rfl, rfl⟩
  go_wp2_with fail
  go_ret
  exact ⟨rfl, HG2⟩

set_option maxHeartbeats 1600000 in
theorem law_else (nm v1 v2 : ByteArray) (w : World) (h0 : head0 nm v1 v2) (ht : (nm.toList == [116, 101]) = false) (hcn : conn nm.toList = false) :
    Calls Tryf.prog 3 #[.string nm, .string v1, .string v2] w fun e w' => e = .returned (.bool true) ∧ Fine w w' := by
  obtain ⟨z1, z2, z3⟩ := h0
  have y1 : ¬ (262144 : Int) < (nm.size : Int) := by omega
  have y2 : ¬ (262144 : Int) < (v1.size : Int) := by omega
  have y3 : ¬ (262144 : Int) < (v2.size : Int) := by omega
  cases hlow : lower nm.data.toList
  all_goals
    go_enter Tryf.func3, Tryf.ntmps3
    go_wp2_with fail
    refine (bytes5_any nm v1 v2 w).mono ?_
    rintro e w' ⟨⟨r, rfl⟩, rfl⟩
    cases r
    · go_wp2_with fail
      go_ret
      exact ⟨rfl, Fine.refl _⟩
    go_wp2_with fail
    refine (else_ok nm v1 w hcn ht).mono ?_
    rintro e w1 ⟨rfl, rfl⟩
    go_wp2_with fail
    refine (else_ok nm v2 w hcn ht).mono ?_
    rintro e w2 ⟨rfl, rfl⟩
    go_wp2_with fail
    refine (lower_any nm w (by unfold maxLen; omega)).mono ?_
    rintro e w3 ⟨rfl, rfl⟩
    go_wp2_with fail
    go_ret
    exact ⟨rfl, Fine.refl _⟩

set_option maxHeartbeats 1600000 in
theorem law_out (nm v1 v2 : ByteArray) (w : World) (h0 : 262144 < nm.size ∨ 262144 < v1.size ∨ 262144 < v2.size) :
    Calls Tryf.prog 3 #[.string nm, .string v1, .string v2] w fun e w' => e = .returned (.bool true) ∧ Fine w w' := by
  by_cases k1 : 262144 < nm.size
  · have y1 : (262144 : Int) < (nm.size : Int) := by omega
    go_enter Tryf.func3, Tryf.ntmps3
    go_wp2_with fail
    refine (bytes5_any nm v1 v2 w).mono ?_
    rintro e w' ⟨⟨r, rfl⟩, rfl⟩
    cases r
    all_goals
      go_wp2_with fail
      go_ret
      exact ⟨rfl, Fine.refl _⟩
  · have y1 : ¬ (262144 : Int) < (nm.size : Int) := by omega
    by_cases k2 : 262144 < v1.size
    · have y2 : (262144 : Int) < (v1.size : Int) := by omega
      go_enter Tryf.func3, Tryf.ntmps3
      go_wp2_with fail
      refine (bytes5_any nm v1 v2 w).mono ?_
      rintro e w' ⟨⟨r, rfl⟩, rfl⟩
      cases r
      all_goals
        go_wp2_with fail
        go_ret
        exact ⟨rfl, Fine.refl _⟩
    · have y2 : ¬ (262144 : Int) < (v1.size : Int) := by omega
      have y3 : (262144 : Int) < (v2.size : Int) := by omega
      go_enter Tryf.func3, Tryf.ntmps3
      go_wp2_with fail
      refine (bytes5_any nm v1 v2 w).mono ?_
      rintro e w' ⟨⟨r, rfl⟩, rfl⟩
      cases r
      all_goals
        go_wp2_with fail
        go_ret
        exact ⟨rfl, Fine.refl _⟩

theorem law3_any (F : Interp) (nm v1 v2 : ByteArray) (w : World) (hF : F.answers w.tape) :
    Calls Tryf.prog 3 #[.string nm, .string v1, .string v2] w fun e w' => e = .returned (.bool true) ∧ Fine w w' := by
  by_cases h : 262144 < nm.size ∨ 262144 < v1.size ∨ 262144 < v2.size
  · exact law_out nm v1 v2 w h
  · have h0 : head0 nm v1 v2 := ⟨by omega, by omega, by omega⟩
    cases ht : (nm.toList == [116, 101])
    · cases hcn : conn nm.toList
      · exact law_else nm v1 v2 w h0 ht hcn
      · exact law_conn F nm v1 v2 w hF h0 ht hcn
    · exact law_te nm v1 v2 w h0 ht

end Go.Proofs.Qxb6617780aFmt
