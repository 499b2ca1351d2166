/- isBlank (14), CheckValueEnds (10), CheckValue (9), zzNoControlButTab (11), zzBytes (8). -/
import Derived.Test.Qxb6617780aFmtLower
namespace Go.Proofs.Qxb6617780aFmt
open Go.RowKit Go.Extern.Stop Go.Stop Go.Extern
set_option linter.unusedVariables false
set_option linter.unusedSimpArgs false

def blk (c : Int) : Bool := c == 32 || c == 9

set_option maxHeartbeats 400000 in
theorem blank_any (c : Int) (w : World) : Calls Tryf.prog 14 #[.int .u8 c] w fun e w' => e = .returned (.bool (blk c)) ∧ w = w' := by
  by_cases h : c = 32
  · subst h
    go_enter Tryf.func14, Tryf.ntmps14
    go_wp2
    go_ret
    exact ⟨rfl, rfl⟩
  · have h1 : (c == 32) = false := by simpa using h
    go_enter Tryf.func14, Tryf.ntmps14
    go_wp2
    go_ret
    refine ⟨?_, rfl⟩
    simp [blk, h1]

/-- Does a value start or end with a blank? -/
def bad (l : List UInt8) : Bool :=
  match l.head?, l.getLast? with
  | some a, some b => blk a.toNat || blk b.toNat
  | _, _ => false

theorem bad_at (s : ByteArray) (hs : 0 < s.size) : bad s.data.toList = (blk s[0].toNat || blk s[s.size - 1].toNat) := by
  have hl := size_list s
  have e1 : s.data.toList.head? = some s[0] := by
    rw [List.head?_eq_getElem?, List.getElem?_eq_getElem (by omega)]
    rfl
  have e2 : s.data.toList.getLast? = some s[s.size - 1] := by
    rw [List.getLast?_eq_getElem?, List.getElem?_eq_getElem (by omega)]
    congr 1
  simp only [bad, e1, e2]

theorem bad_empty (s : ByteArray) (hs : s.size = 0) : bad s.data.toList = false := by
  have : s.data.toList = [] := List.eq_nil_of_length_eq_zero (by rw [size_list]; exact hs)
  rw [this]
  rfl

theorem empty_iff (s : ByteArray) : s.toList.isEmpty = decide (s.size = 0) := by
  rw [ByteArray.toList_eq, ← size_list s]
  cases s.data.toList <;> simp

set_option maxHeartbeats 400000 in
theorem ends_bad (s : ByteArray) (w : World) (h : bad s.data.toList = true) (hm : s.size ≤ maxLen) :
    Calls Tryf.prog 10 #[.string s] w fun e w' => isErr e ∧ ∀ W, Fine W w → Fine W w' := by
  have hs : 0 < s.size := by
    rcases Nat.eq_zero_or_pos s.size with h0 | h0
    · rw [bad_empty s h0] at h; cases h
    · exact h0
  rw [bad_at s hs] at h
  unfold maxLen at hm
  have h0 : s.toList.isEmpty = false := by rw [empty_iff, decide_eq_false_iff_not]; omega
  cases h1 : blk s[0].toNat
  · have h2 : blk s[s.size - 1].toNat = true := by rw [h1] at h; simpa using h
    clear h
    go_enter Tryf.func10, Tryf.ntmps10
    go_wp2_with fail
    refine (blank_any _ _).mono ?_
    rintro e w' ⟨rfl, rfl⟩
    go_wp2_with fail
    refine (blank_any _ _).mono ?_
    rintro e w' ⟨rfl, rfl⟩
    go_wp2
    go_ret
    exact ⟨⟨_, rfl⟩, fun W h => ⟨h.1.alloc _ _, h.2⟩⟩
  · clear h
    go_enter Tryf.func10, Tryf.ntmps10
    go_wp2_with fail
    refine (blank_any _ _).mono ?_
    rintro e w' ⟨rfl, rfl⟩
    go_wp2
    go_ret
    exact ⟨⟨_, rfl⟩, fun W h => ⟨h.1.alloc _ _, h.2⟩⟩

set_option maxHeartbeats 400000 in
theorem ends_ok (s : ByteArray) (w : World) (h : bad s.data.toList = false) (hm : s.size ≤ maxLen) :
    Calls Tryf.prog 10 #[.string s] w fun e w' => e = .returned .nilIface ∧ w = w' := by
  unfold maxLen at hm
  by_cases hs : s.size = 0
  · have h0 : s.toList.isEmpty = true := by rw [empty_iff, decide_eq_true_iff]; exact hs
    go_enter Tryf.func10, Tryf.ntmps10
    go_wp2
    go_ret
    exact ⟨rfl, rfl⟩
  · have hs : 0 < s.size := by omega
    rw [bad_at s hs] at h
    have h0 : s.toList.isEmpty = false := by rw [empty_iff, decide_eq_false_iff_not]; omega
    have h1 : blk s[0].toNat = false := by cases e : blk s[0].toNat <;> simp [e] at h ⊢
    have h2 : blk s[s.size - 1].toNat = false := by cases e : blk s[s.size - 1].toNat <;> simp [e] at h ⊢
    clear h
    go_enter Tryf.func10, Tryf.ntmps10
    go_wp2_with fail
    refine (blank_any _ _).mono ?_
    rintro e w' ⟨rfl, rfl⟩
    go_wp2_with fail
    refine (blank_any _ _).mono ?_
    rintro e w' ⟨rfl, rfl⟩
    go_wp2
    go_ret
    exact ⟨rfl, rfl⟩

/-- A control character other than a tab. -/
def ctl (c : UInt8) : Bool := decide (c.toNat < 32 ∧ c.toNat ≠ 9) || decide (c.toNat = 127)
def clean (l : List UInt8) : Bool := !l.any ctl

theorem clean_no {s : ByteArray} {k : Nat} (hk : k < s.size) (h : ctl s[k] = true) : clean s.data.toList = false := by
  rw [clean, Bool.not_eq_false', List.any_eq_true]
  refine ⟨s[k], ?_, h⟩
  have : s.data.toList[k]'(by rw [size_list]; exact hk) = s[k] := rfl
  rw [← this]
  exact List.getElem_mem _

theorem clean_yes {s : ByteArray} (h : ∀ c (hc : c < s.size), ctl s[c] = false) : clean s.data.toList = true := by
  rw [clean, Bool.not_eq_true', List.any_eq_false]
  intro x hx
  obtain ⟨j, hj, rfl⟩ := List.getElem_of_mem hx
  have := h j (by rw [size_list] at hj; exact hj)
  show ¬ ctl (s[j]'(by rw [size_list] at hj; exact hj)) = true
  rw [this]
  simp

theorem ctl_next {s : ByteArray} {k : Nat} (h : ∀ c (hc : c < s.size), c < k → ctl s[c] = false) (hk : k < s.size) (h1 : ctl s[k] = false) : ∀ c (hc : c < s.size), c < k + 1 → ctl s[c] = false := by
  intro c hc hck
  by_cases e : c = k
  · subst e; exact h1
  · exact h c hc (by omega)

theorem cell_byte (w : World) (c : Int) : (w.alloc (.cells #[.iface 5 (.int .u8 c)] 20)).cell? ⟨w.heap.size, 0, none⟩ = some (.iface 5 (.int .u8 c)) := by
  rw [World.cell?_alloc_new]
  rfl

/-- What CheckValue and its kin answer: refused, or accepted. -/
def Verdict (ok : Bool) (w : World) (e : Ending) (w' : World) : Prop := (ok = true ∧ e = .returned .nilIface ∧ w = w') ∨ (ok = false ∧ isErr e ∧ ∀ W, Fine W w → Fine W w')

theorem ends_any (s : ByteArray) (w : World) (hm : s.size ≤ maxLen) : Calls Tryf.prog 10 #[.string s] w (Verdict (!bad s.data.toList) w) := by
  cases h : bad s.data.toList
  · exact (ends_ok s w h hm).mono fun e w' ⟨h1, h2⟩ => .inl ⟨rfl, h1, h2⟩
  · exact (ends_bad s w h hm).mono fun e w' ⟨h1, h2⟩ => .inr ⟨rfl, h1, h2⟩

set_option maxHeartbeats 1600000 in
theorem value_any (F : Interp) (s : ByteArray) (w : World) (hF : F.answers w.tape) (hm : s.size ≤ maxLen) :
    Calls Tryf.prog 9 #[.string s] w (Verdict (clean s.data.toList && !bad s.data.toList) w) := by
  have hm0 := hm
  unfold maxLen at hm
  go_enter Tryf.func9, Tryf.ntmps9
  go_wp2
  go_loop [7] (fun i => ∃ k : Nat, k ≤ s.size ∧ i = .int .i64 k ∧ Hid (∀ c (hc : c < s.size), c < k → ctl s[c] = false)) (fun i => s.size - (intOf i).toNat)
  case atStart => exact ⟨0, Nat.zero_le _, rfl, fun c _ hc => absurd hc (by omega)⟩
  case round =>
    obtain ⟨k, hk, rfl, hall⟩ := hrel
    by_cases hlt : k < s.size
    · have hlt' : (k : Int) < (s.size : Int) := by omega
      by_cases c1 : (s[k].toNat : Int) < 32
      · by_cases c2 : (s[k].toNat : Int) = 9
        · have hok : Hid (ctl s[k] = false) := by show ctl s[k] = false; simp [ctl]; omega
          have c3 : ((s[k].toNat : Int) != 9) = false := by rw [c2]; rfl
          have c4 : ((s[k].toNat : Int) == 127) = false := by rw [c2]; rfl
          clear c2
          go_wp2
          go_round
          case rel => exact ⟨k + 1, by omega, by go_num, ctl_next hall.out hlt hok.out⟩
          case measure => simp [intOf]; omega
        · have hno : Hid (ctl s[k] = true) := by show ctl s[k] = true; simp [ctl]; omega
          have c3 : ((s[k].toNat : Int) != 9) = true := by rw [bne_iff_ne]; exact c2
          go_wp2_with fail
          refine (errorf_q F _ _ _ (by exact hF) (cell_byte w _)).mono ?_
          rintro e w' ⟨⟨a, rfl⟩, hg⟩
          have HG : Hid _ := hg
          clear hg
          go_wp2_with fail
          go_ret
          exact .inr ⟨by rw [clean_no hlt hno.out]; rfl, ⟨_, rfl⟩, fun W h => HG.out W ⟨h.1.alloc _ _, h.2⟩⟩
      · by_cases c2 : (s[k].toNat : Int) = 127
        · have hno : Hid (ctl s[k] = true) := by show ctl s[k] = true; simp [ctl]; omega
          have c3 : ((s[k].toNat : Int) == 127) = true := by rw [c2]; rfl
          clear c2
          go_wp2_with fail
          refine (errorf_q F _ _ _ (by exact hF) (cell_byte w _)).mono ?_
          rintro e w' ⟨⟨a, rfl⟩, hg⟩
          have HG : Hid _ := hg
          clear hg
          go_wp2_with fail
          go_ret
          exact .inr ⟨by rw [clean_no hlt hno.out]; rfl, ⟨_, rfl⟩, fun W h => HG.out W ⟨h.1.alloc _ _, h.2⟩⟩
        · have hok : Hid (ctl s[k] = false) := by show ctl s[k] = false; simp [ctl]; omega
          have c3 : ((s[k].toNat : Int) == 127) = false := beq_eq_false_iff_ne.2 c2
          go_wp2
          go_round
          case rel => exact ⟨k + 1, by omega, by go_num, ctl_next hall.out hlt hok.out⟩
          case measure => simp [intOf]; omega
    · have hge : ¬ (k : Int) < (s.size : Int) := by omega
      have hcl : Hid (clean s.data.toList = true) := clean_yes fun c hc => hall.out c hc (by omega)
      clear hall
      go_wp2_with fail
      refine (ends_any s w hm0).mono ?_
      rintro e w' (⟨h1, rfl, rfl⟩ | ⟨h1, ⟨a, rfl⟩, hg⟩)
      · have H1 : Hid _ := h1
        clear h1
        go_wp2_with fail
        go_ret
        exact .inl ⟨by rw [hcl.out, H1.out]; rfl, rfl, rfl⟩
      · have H1 : Hid _ := h1
        have HG : Hid _ := hg
        clear h1 hg
        go_wp2_with fail
        go_ret
        exact .inr ⟨by rw [hcl.out, H1.out]; rfl, ⟨_, rfl⟩, HG⟩

set_option maxHeartbeats 800000 in
theorem clean_any (s : ByteArray) (w : World) (hs : s.size ≤ maxLen) :
    Calls Tryf.prog 11 #[.string s] w fun e w' => e = .returned (.bool (clean s.data.toList)) ∧ w = w' := by
  unfold maxLen at hs
  go_enter Tryf.func11, Tryf.ntmps11
  go_wp2
  go_loop [3] (fun i => ∃ k : Nat, k ≤ s.size ∧ i = .int .i64 k ∧ Hid (∀ c (hc : c < s.size), c < k → ctl s[c] = false)) (fun i => s.size - (intOf i).toNat)
  case atStart => exact ⟨0, Nat.zero_le _, rfl, fun c _ hc => absurd hc (by omega)⟩
  case round =>
    obtain ⟨k, hk, rfl, hall⟩ := hrel
    by_cases hlt : k < s.size
    · have hlt' : (k : Int) < (s.size : Int) := by omega
      by_cases c2 : (s[k].toNat : Int) = 127
      · have hno : Hid (ctl s[k] = true) := by show ctl s[k] = true; simp [ctl]; omega
        have c3 : ((s[k].toNat : Int) == 127) = true := by rw [c2]; rfl
        clear c2
        go_wp2
        go_ret
        exact ⟨ret_bool (clean_no hlt hno.out).symm, rfl⟩
      · have c3 : ((s[k].toNat : Int) == 127) = false := beq_eq_false_iff_ne.2 c2
        by_cases c1 : (s[k].toNat : Int) < 32
        · by_cases c5 : (s[k].toNat : Int) = 9
          · have hok : Hid (ctl s[k] = false) := by show ctl s[k] = false; simp [ctl]; omega
            have c6 : ((s[k].toNat : Int) != 9) = false := by rw [c5]; rfl
            clear c5
            go_wp2
            go_round
            case rel => exact ⟨k + 1, by omega, by go_num, ctl_next hall.out hlt hok.out⟩
            case measure => simp [intOf]; omega
          · have hno : Hid (ctl s[k] = true) := by show ctl s[k] = true; simp [ctl]; omega
            have c6 : ((s[k].toNat : Int) != 9) = true := by rw [bne_iff_ne]; exact c5
            go_wp2
            go_ret
            exact ⟨ret_bool (clean_no hlt hno.out).symm, rfl⟩
        · have hok : Hid (ctl s[k] = false) := by show ctl s[k] = false; simp [ctl]; omega
          go_wp2
          go_round
          case rel => exact ⟨k + 1, by omega, by go_num, ctl_next hall.out hlt hok.out⟩
          case measure => simp [intOf]; omega
    · have hge : ¬ (k : Int) < (s.size : Int) := by omega
      go_wp2
      go_ret
      exact ⟨ret_bool (clean_yes fun c hc => hall.out c hc (by omega)).symm, rfl⟩

set_option maxHeartbeats 400000 in
theorem bytes8_any (a : ByteArray) (w : World) : Calls Tryf.prog 8 #[.string a] w fun e w' => BoolEnd e ∧ w = w' := by
  go_enter Tryf.func8, Tryf.ntmps8
  go_wp2
  all_goals (go_ret; exact ⟨⟨_, rfl⟩, rfl⟩)

end Go.Proofs.Qxb6617780aFmt
