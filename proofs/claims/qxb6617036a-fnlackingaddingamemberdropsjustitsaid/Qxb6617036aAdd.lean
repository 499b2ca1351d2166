/- The walk of FnLackingAddingAMemberDropsJustIt (function 4). -/
import Derived.Test.Qxb6617036aCut
namespace Go.Proofs.Qxb6617036a
open Go.RowKit
set_option linter.unusedVariables false
set_option linter.unusedSimpArgs false

theorem make_more (n : Nat) (hn : n ≤ 65535) (w : World) :
    (Instr.makeSlice 22 (.int .i64 ((n : Int) + 1)) (.int .i64 ((n : Int) + 1))).run Try.prog w = .ok (.slice (some ⟨w.heap.size, 0, none⟩) (n + 1) (n + 1)) (w.alloc (blank (n + 1))) := by
  have h := make_strs (n + 1) (by omega) w
  rwa [Int.natCast_add] at h

/-- 'more := make([]string, len(keys)+1); copy(more, keys)'. -/
theorem copy_more (w : World) (a : Option Addr) (n c : Nat) (ks : List ByteArray) (ha : NilOr a n c) (hk : ks.length = n) (hrow : Row w a ks) :
    ∃ u v, (Builtin.copy_ #[22, 22] 3 #[.slice (some ⟨w.heap.size, 0, none⟩) (n + 1) (n + 1), .slice a n c]).run Try.prog (w.alloc (blank (n + 1))) = .ok v u ∧
      Made u w.heap.size (ks ++ [⟨#[]⟩]) ∧ Below w.heap.size w u := by
  rcases ha with ⟨rfl, rfl, rfl⟩ | ⟨x, rfl⟩
  · obtain rfl : ks = [] := List.eq_nil_of_length_eq_zero hk
    exact ⟨_, _, copy_none _ _ _, made_blank w 1, (Below.refl _ _).alloc (Nat.le_refl _) _⟩
  · obtain ⟨u, h1, h2, h3, _⟩ := copy_run w (n + 1) n c x ks hk (by omega) hrow
    rw [Nat.add_sub_cancel_left] at h2
    exact ⟨u, _, h1, h2, h3⟩

theorem Made.cell {w : World} {g n : Nat} {ks : List ByteArray} (h : Made w g (ks ++ [⟨#[]⟩])) (hn : ks.length = n) : w.cell? ⟨g, n, none⟩ = some (.string ⟨#[]⟩) ∧ w.frozen? ⟨g, n, none⟩ = false := by
  subst hn
  refine ⟨?_, ?_⟩
  · simp [World.cell?, show w.heap[g]? = _ from h]
  · simp [World.frozen?, show w.heap[g]? = _ from h]

theorem Made.put {w : World} {g n : Nat} {ks : List ByteArray} (h : Made w g (ks ++ [⟨#[]⟩])) (hn : ks.length = n) (k : ByteArray) : Row (w.setCell ⟨g, n, none⟩ (.string k)) (some ⟨g, 0, none⟩) (ks ++ [k]) := by
  have hc := (h.cell hn).1
  refine .inr ⟨g, 0, rfl, fun i hi => ?_⟩
  by_cases e : i = n
  · subst e
    rw [Nat.zero_add, World.cell?_setCell_same' _ _ _ (by rw [hc]; rfl), getD_at hi]
    simp [hn]
  · have hi' : i < ks.length := by simp at hi; omega
    rw [World.cell?_setCell_other (h := fun h => e (by simp only [Addr.mk.injEq] at h; omega))]
    have hr := h.row
    rcases hr with h0 | ⟨b, off, h1, h2⟩
    · simp at h0
    · simp at h1
      obtain ⟨rfl, rfl⟩ := h1
      rw [h2 i (by simp; omega), getD_left hi', getD_left hi']

def cnt (k : ByteArray) (l : List ByteArray) : Nat := (l.filter (fun s => decide (s = k))).length

theorem cnt_yes {k s : ByteArray} {l : List ByteArray} {j : Nat} (hj : j < l.length) (hs : s = l.getD j ByteArray.empty) (h : s = k) : cnt k (l.take (j + 1)) = cnt k (l.take j) + 1 := by
  have := (filter_at (p := fun s => decide (s = k)) hj hs (by simpa using h)).2.2
  simp only [cnt]
  rw [this]
  simp

theorem cnt_no {k s : ByteArray} {l : List ByteArray} {j : Nat} (hj : j < l.length) (hs : s = l.getD j ByteArray.empty) (h : s ≠ k) : cnt k (l.take (j + 1)) = cnt k (l.take j) := by
  have := filter_skip (p := fun s => decide (s = k)) hj hs (by simpa using h)
  simp only [cnt]
  rw [this]

theorem cnt_le (k : ByteArray) (l : List ByteArray) : cnt k l ≤ l.length := List.length_filter_le _ _

theorem mem_iff (ks : List ByteArray) (x : ByteArray) : mem ks x = true ↔ x ∈ ks := by
  simp [mem, List.any_eq_true]

theorem cnt_in {ks ns : List ByteArray} {k : ByteArray} (h : mem ks k = true) : cnt k (ns.filter (fun x => !mem ks x)) = 0 := by
  rw [cnt, List.length_eq_zero_iff, List.filter_eq_nil_iff]
  intro s hs
  have := (List.mem_filter.1 hs).2
  simp at this ⊢
  rintro rfl
  rw [h] at this
  cases this

theorem cnt_out {ks ns : List ByteArray} {k : ByteArray} (h : mem ks k = false) : cnt k (ns.filter (fun x => !mem ks x)) = cnt k ns := by
  rw [cnt, cnt, List.filter_filter]
  congr 2
  funext s
  by_cases e : s = k
  · subst e; simp [h]
  · simp [e]

theorem after_is {ks ns : List ByteArray} {k : ByteArray} : ns.filter (fun x => !mem (ks ++ [k]) x) = (ns.filter (fun x => !mem ks x)).filter (fun x => !decide (x = k)) := by
  rw [List.filter_filter]
  congr 1
  funext s
  simp only [mem, List.any_append, List.any_cons, List.any_nil, Bool.or_false, Bool.not_or]
  rw [Bool.and_comm]
  congr 2
  by_cases e : s = k
  · subst e; simp
  · have : k ≠ s := fun h => e h.symm
    simp [e, this]

theorem again_is {ks ns : List ByteArray} : (ns.filter (fun x => !mem ks x)).filter (fun x => !mem ks x) = ns.filter (fun x => !mem ks x) := by
  rw [List.filter_filter]
  congr 1
  funext s
  cases mem ks s <;> rfl

set_option maxHeartbeats 4000000 in
set_option maxRecDepth 20000 in
theorem add_ss (x1 : Addr) (x2 : Addr) (n1 c1 n2 c2 : Nat) (ks ns : List ByteArray) (k : ByteArray) (w : World)
    (h1 : Row w (some x1) ks) (e1 : Hid (ks.length = n1)) (b1 : n1 ≤ 4096) (s1 : ∀ s ∈ ks, s.size ≤ maxLen) (h2 : Row w (some x2) ns) (e2 : Hid (ns.length = n2)) (b2 : n2 ≤ 4096) (s2 : ∀ s ∈ ns, s.size ≤ maxLen) (hk : k.size ≤ 1048576)
    (F A : List ByteArray) (hF : Hid (ns.filter (fun x => !mem ks x) = F)) (hA : Hid (ns.filter (fun x => !mem (ks ++ [k]) x) = A)) :
    Calls Try.prog 4 #[.slice (some x1) n1 c1, .slice (some x2) n2 c2, .string k] w fun e w' => e = .returned (.bool true) ∧ Below w.heap.size w w' := by
  have hneq : ∀ (w : World) (a : Option Addr) (n c : Nat), (binOp .neq 22 (.slice a n c) (.slice none 0 0)).run Try.prog w = .ok (.bool (!a.isNone)) w := fun w a n c => run_neq_slice_nil_any w 22 9 a n c 0 0 Try.underlying22
  have hm1 := make_strs n1 (by omega)
  have hm2 := make_strs n2 (by omega)
  have hm3 := make_more n1 (by omega)
  have i1 : (n1 : Int) ≤ 4096 := by omega
  have i2 : (n2 : Int) ≤ 4096 := by omega
  have i3 : (k.size : Int) ≤ 1048576 := by omega
  have d1 : decide ((4096 : Int) < (n1 : Int)) = false := by simp; omega
  have d2 : decide ((4096 : Int) < (n2 : Int)) = false := by simp; omega
  have d3 : decide ((1048576 : Int) < (k.size : Int)) = false := by simp; omega
  have hFn : F.length ≤ 4096 := by rw [← hF.out]; have h1 := List.length_filter_le (fun x => !mem ks x) ns; have := e2.out; omega
  have hAn : A.length ≤ 4096 := by rw [← hA.out]; have h1 := List.length_filter_le (fun x => !mem (ks ++ [k]) x) ns; have := e2.out; omega
  have sF : ∀ s ∈ F, s.size ≤ maxLen := by rw [← hF.out]; exact fun s hs => s2 s ((List.mem_filter.1 hs).1)
  have sM : ∀ s ∈ ks ++ [k], s.size ≤ maxLen := by
    intro s hs
    rcases List.mem_append.1 hs with h | h
    · exact s1 s h
    · simp at h; subst h; unfold maxLen; omega
  have eM : Hid ((ks ++ [k]).length = n1 + 1) := by have := e1.out; show (ks ++ [k]).length = n1 + 1; simp; omega
  have hG : Hid (F.filter (fun x => !mem ks x) = F) := by show F.filter (fun x => !mem ks x) = F; rw [← hF.out]; exact again_is
  have hA2 : Hid (F.filter (fun x => !decide (x = k)) = A) := by show F.filter (fun x => !decide (x = k)) = A; rw [← hF.out, ← hA.out]; exact after_is.symm
  obtain ⟨u1, hc1, hr1, hB1⟩ := copy_same w n1 c1 x1 ks e1.out h1
  have oK : Hid (NilOr (some (⟨w.heap.size, 0, none⟩ : Addr)) n1 n1) := .inr ⟨_, rfl⟩
  obtain ⟨u2, hc2, hr2, hB2⟩ := copy_same u1 n2 c2 x2 ns e2.out (h2.below hB1)
  have hrk := hr1.below hB2
  have HB : Hid (Below w.heap.size w u2) := hB1.trans (hB2.mono hB1.size)
  clear hr1 hB1 hB2
  go_enter Try.func4, Try.ntmps4
  go_wp2_with fail
  refine (bytes9_any _ _ n1 c1 n2 c2 ks ns k w h1 h2 e1 e2 (by unfold maxLen; omega) (by unfold maxLen; omega)).mono ?_
  rintro e w' ⟨⟨r, rfl⟩, rfl⟩
  cases r
  · go_wp2_with fail
    go_ret
    exact ⟨rfl, Below.refl _ _⟩
  go_wp2_with fail
  refine (fit_any _ _ n1 c1 n2 c2 ks ns _ w h1 h2 e1 e2 (by unfold maxLen; omega) (by unfold maxLen; omega)).mono ?_
  rintro e w' ⟨⟨r, rfl⟩, rfl⟩
  cases r
  · go_wp2_with fail
    go_ret
    exact ⟨rfl, Below.refl _ _⟩
  clear h1 h2
  go_wp2_with fail
  refine (zzlacking_row _ _ n1 _ n2 _ ks ns F _ hrk e1 (by omega) s1 hr2 e2 b2 s2 hF).mono ?_
  rintro e w1 ⟨af, cf, rfl, hrf, hnf, hBa⟩
  have hrk1 := hrk.below hBa
  have hrn1 := hr2.below hBa
  have HB1 : Hid (Below w.heap.size w w1) := HB.out.trans (hBa.mono HB.out.size)
  clear hrk hr2 HB hBa hnf
  obtain ⟨u3, v3, hc3, hM3, hB3⟩ := copy_more w1 _ n1 _ ks oK.out e1.out hrk1
  obtain ⟨hce, hfe⟩ := hM3.cell e1.out
  have hrm := hM3.put e1.out k
  have hB4 : Below w1.heap.size w1 (u3.setCell ⟨w1.heap.size, n1, none⟩ (.string k)) := hB3.setCell (Nat.le_refl _) _
  have hrk2 := hrk1.below hB4
  have hrn2 := hrn1.below hB4
  have hrf2 := hrf.below hB4
  have HB2 : Hid (Below w.heap.size w (u3.setCell ⟨w1.heap.size, n1, none⟩ (.string k))) := HB1.out.trans (hB4.mono HB1.out.size)
  clear hrk1 hrn1 hrf HB1 hB3 hB4 hM3
  go_wp2_with fail
  refine (zzlacking_row _ _ (n1 + 1) _ n2 _ (ks ++ [k]) ns A _ hrm eM (by omega) sM hrn2 e2 b2 s2 hA).mono ?_
  rintro e w3 ⟨aa, ca, rfl, hra, hna, hBc⟩
  have hrk3 := hrk2.below hBc
  have hrn3 := hrn2.below hBc
  have hrf3 := hrf2.below hBc
  have HB3 : Hid (Below w.heap.size w w3) := HB2.out.trans (hBc.mono HB2.out.size)
  clear hrm hrk2 hrn2 hrf2 HB2 hBc hna hce hfe hc3
  go_wp2_with fail
  refine (zzlacking_row _ _ n1 _ F.length _ ks F F _ hrk3 e1 (by omega) s1 hrf3 rfl hFn sF hG).mono ?_
  rintro e w4 ⟨ag, cg, rfl, hrg, hng, hBd⟩
  have hrk4 := hrk3.below hBd
  have hrn4 := hrn3.below hBd
  have hrf4 := hrf3.below hBd
  have hra4 := hra.below hBd
  have HB4 : Hid (Below w.heap.size w w4) := HB3.out.trans (hBd.mono HB3.out.size)
  clear hrk3 hrn3 hrf3 hra HB3 hBd hng s1 s2 sF sM
  go_wp2_with fail
  refine (member_any _ n1 _ ks k _ hrk4 e1 (by unfold maxLen; omega)).mono ?_
  rintro e w' ⟨rfl, rfl⟩
  cases hmk : mem ks k
  · have hWant : Hid (cnt k F = cnt k ns) := by show cnt k F = cnt k ns; rw [← hF.out]; exact cnt_out hmk
    clear hrk4
    go_wp2_with fail
    go_loop [13, 14] (fun nv jv => ∃ t m : Nat, t ≤ n2 ∧ jv = .int .i64 t ∧ nv = .int .i64 m ∧ m ≤ t ∧ Hid (m = cnt k (ns.take t))) (fun _ jv => n2 - (intOf jv).toNat)
    case atStart => exact ⟨0, 0, Nat.zero_le _, rfl, rfl, Nat.le_refl _, rfl⟩
    case round =>
      obtain ⟨t, m, ht, rfl, rfl, hmt, hm⟩ := hrel
      by_cases hlt : t < n2
      · have hjl : t < ns.length := by rw [e2.out]; exact hlt
        obtain ⟨b, off, s, hA2', hc, hs⟩ := hrn4.at (i := t) hjl
        simp at hA2'
        obtain ⟨rfl, rfl⟩ := hA2'
        rw [Nat.zero_add] at hc
        have hlt' : (t : Int) < (n2 : Int) := by omega
        clear hrn4 hrf4 hra4 hrg
        cases hsk : (s.toList == k.toList)
        · have hm2 : Hid (m = cnt k (ns.take (t + 1))) := by show m = _; rw [cnt_no hjl hs.out ((same_no s k).1 hsk)]; exact hm.out
          go_wp2_with fail
          go_round
          case rel => exact ⟨t + 1, m, by omega, by go_num, rfl, by omega, hm2⟩
          case measure => simp [intOf]; omega
        · have hm2 : Hid (m + 1 = cnt k (ns.take (t + 1))) := by show m + 1 = _; rw [cnt_yes hjl hs.out ((same_iff s k).1 hsk), ← hm.out]
          go_wp2_with fail
          go_round
          case rel => exact ⟨t + 1, m + 1, by omega, by go_num, by go_num, by omega, hm2⟩
          case measure => simp [intOf]; omega
      · have hge : ¬ (t : Int) < (n2 : Int) := by omega
        have HM : Hid (m = cnt k F) := by show m = cnt k F; rw [hWant.out, hm.out, List.take_of_length_le (by have := e2.out; omega)]
        clear hm hWant hrn4
        go_wp2_with fail
        go_loop [15, 16] (fun nv jv => ∃ t m2 : Nat, t ≤ F.length ∧ jv = .int .i64 t ∧ nv = .int .i64 m2 ∧ m2 ≤ t ∧ Hid (m2 = cnt k (F.take t))) (fun _ jv => F.length - (intOf jv).toNat)
        case atStart => exact ⟨0, 0, Nat.zero_le _, rfl, rfl, Nat.le_refl _, rfl⟩
        case round =>
          obtain ⟨t2, m2, ht2, rfl, rfl, hmt2, hm2⟩ := hrel
          by_cases hlt2 : t2 < F.length
          · obtain ⟨b, off, s, rfl, hc, hs⟩ := hrf4.at (i := t2) hlt2
            have hlt' : (t2 : Int) < (F.length : Int) := by omega
            clear hrf4 hra4 hrg
            cases hsk : (s.toList == k.toList)
            · have hm3 : Hid (m2 = cnt k (F.take (t2 + 1))) := by show m2 = _; rw [cnt_no hlt2 hs.out ((same_no s k).1 hsk)]; exact hm2.out
              go_wp2_with fail
              go_round
              case rel => exact ⟨t2 + 1, m2, by omega, by go_num, rfl, by omega, hm3⟩
              case measure => simp [intOf]; omega
            · have hm3 : Hid (m2 + 1 = cnt k (F.take (t2 + 1))) := by show m2 + 1 = _; rw [cnt_yes hlt2 hs.out ((same_iff s k).1 hsk), ← hm2.out]
              go_wp2_with fail
              go_round
              case rel => exact ⟨t2 + 1, m2 + 1, by omega, by go_num, by go_num, by omega, hm3⟩
              case measure => simp [intOf]; omega
          · have hge2 : ¬ (t2 : Int) < (F.length : Int) := by omega
            have hmm : m2 = m := by rw [HM.out, hm2.out, List.take_of_length_le (by omega)]
            have hgw : ((m2 : Int) != (m : Int)) = false := by rw [hmm]; simp
            clear hmm hm2 HM
            go_wp2_with fail
            go_loopw [17, 18] (fun nv jv wr => ∃ t q m3 : Nat, t ≤ F.length ∧ jv = .int .i64 t ∧ nv = .int .i64 m3 ∧ m3 ≤ t ∧ Hid (m3 = ((F.take t).filter (fun x => !decide (x = k))).length) ∧ wr = w4.drewN q) (fun _ jv _ => F.length - (intOf jv).toNat)
            case atStart => exact ⟨0, 0, 0, Nat.zero_le _, rfl, rfl, Nat.le_refl _, rfl, rfl⟩
            case round =>
              obtain ⟨t3, q3, m3, ht3, rfl, rfl, hmt3, hm3, rfl⟩ := hrel
              by_cases hlt3 : t3 < F.length
              · obtain ⟨b, off, s, rfl, hc, hs⟩ := hrf4.at (i := t3) hlt3
                have hlt' : (t3 : Int) < (F.length : Int) := by omega
                cases hsk : (s.toList == k.toList)
                · have hp : (!decide (s = k)) = true := by simpa using (same_no s k).1 hsk
                  obtain ⟨f1, f2, f3⟩ := filter_at (p := fun x => !decide (x = k)) hlt3 hs.out hp
                  rw [← hm3.out, hA2.out] at f1 f2
                  obtain ⟨b', off', s', rfl, hcw, hs'⟩ := hra4.at f1
                  have : s' = s := by rw [hs'.out, f2]
                  subst this
                  have hd : decide (A.length ≤ m3) = false := by simp; omega
                  have hmw : (m3 : Int) < (A.length : Int) := by omega
                  have hm4 : Hid (m3 + 1 = ((F.take (t3 + 1)).filter (fun x => !decide (x = k))).length) := by show m3 + 1 = _; rw [f3, List.length_append, ← hm3.out]; rfl
                  clear hra4 hrf4 hrg f1 f2 f3
                  go_wp2_with fail
                  go_quiet (fail)
                  go_wp2_with fail
                  go_roundw
                  case rel => exact ⟨t3 + 1, _, m3 + 1, by omega, by go_num, by go_num, by omega, hm4, rfl⟩
                  case measure => simp [intOf]; omega
                · have hp : (!decide (s = k)) = false := by simpa using (same_iff s k).1 hsk
                  have f3 := filter_skip (p := fun x => !decide (x = k)) hlt3 hs.out hp
                  have hm4 : Hid (m3 = ((F.take (t3 + 1)).filter (fun x => !decide (x = k))).length) := by show m3 = _; rw [f3]; exact hm3.out
                  clear hra4 hrf4 hrg f3
                  go_wp2_with fail
                  go_roundw
                  case rel => exact ⟨t3 + 1, _, m3, by omega, by go_num, rfl, by omega, hm4, rfl⟩
                  case measure => simp [intOf]; omega
              · have hge3 : ¬ (t3 : Int) < (F.length : Int) := by omega
                have hmA : m3 = A.length := by
                  rw [hm3.out, List.take_of_length_le (by omega), hA2.out]
                have hmb : ((m3 : Int) != (A.length : Int)) = false := by rw [hmA]; simp
                clear hmA hra4
                go_wp2_with fail
                refine (sames_any _ _ F.length _ F.length _ F F _ (hrg.drewN q3) (hrf4.drewN q3) rfl rfl (by unfold maxLen; omega) (by unfold maxLen; omega)).mono ?_
                rintro e w5 ⟨rfl, hB5⟩
                have HB5 : Hid (Below w.heap.size w w5) := (below_drewN HB4.out q3).trans (hB5.mono HB4.out.size)
                clear hB5 hrg hrf4
                go_wp2_with fail
                go_ret
                exact ⟨ret_bool (by simp), HB5⟩
  · have HM : Hid (0 = cnt k F) := by show 0 = cnt k F; rw [← hF.out]; exact (cnt_in hmk).symm
    clear hrk4 hrn4
    go_wp2_with fail
    go_loop [15, 16] (fun nv jv => ∃ t m2 : Nat, t ≤ F.length ∧ jv = .int .i64 t ∧ nv = .int .i64 m2 ∧ m2 ≤ t ∧ Hid (m2 = cnt k (F.take t))) (fun _ jv => F.length - (intOf jv).toNat)
    case atStart => exact ⟨0, 0, Nat.zero_le _, rfl, rfl, Nat.le_refl _, rfl⟩
    case round =>
      obtain ⟨t2, m2, ht2, rfl, rfl, hmt2, hm2⟩ := hrel
      by_cases hlt2 : t2 < F.length
      · obtain ⟨b, off, s, rfl, hc, hs⟩ := hrf4.at (i := t2) hlt2
        have hlt' : (t2 : Int) < (F.length : Int) := by omega
        clear hrf4 hra4 hrg
        cases hsk : (s.toList == k.toList)
        · have hm3 : Hid (m2 = cnt k (F.take (t2 + 1))) := by show m2 = _; rw [cnt_no hlt2 hs.out ((same_no s k).1 hsk)]; exact hm2.out
          go_wp2_with fail
          go_round
          case rel => exact ⟨t2 + 1, m2, by omega, by go_num, rfl, by omega, hm3⟩
          case measure => simp [intOf]; omega
        · have hm3 : Hid (m2 + 1 = cnt k (F.take (t2 + 1))) := by show m2 + 1 = _; rw [cnt_yes hlt2 hs.out ((same_iff s k).1 hsk), ← hm2.out]
          go_wp2_with fail
          go_round
          case rel => exact ⟨t2 + 1, m2 + 1, by omega, by go_num, by go_num, by omega, hm3⟩
          case measure => simp [intOf]; omega
      · have hge2 : ¬ (t2 : Int) < (F.length : Int) := by omega
        have hmm : m2 = 0 := by rw [HM.out, hm2.out, List.take_of_length_le (by omega)]
        have hgw : ((m2 : Int) != 0) = false := by rw [hmm]; simp
        clear hmm hm2 HM
        go_wp2_with fail
        go_loopw [17, 18] (fun nv jv wr => ∃ t q m3 : Nat, t ≤ F.length ∧ jv = .int .i64 t ∧ nv = .int .i64 m3 ∧ m3 ≤ t ∧ Hid (m3 = ((F.take t).filter (fun x => !decide (x = k))).length) ∧ wr = w4.drewN q) (fun _ jv _ => F.length - (intOf jv).toNat)
        case atStart => exact ⟨0, 0, 0, Nat.zero_le _, rfl, rfl, Nat.le_refl _, rfl, rfl⟩
        case round =>
          obtain ⟨t3, q3, m3, ht3, rfl, rfl, hmt3, hm3, rfl⟩ := hrel
          by_cases hlt3 : t3 < F.length
          · obtain ⟨b, off, s, rfl, hc, hs⟩ := hrf4.at (i := t3) hlt3
            have hlt' : (t3 : Int) < (F.length : Int) := by omega
            cases hsk : (s.toList == k.toList)
            · have hp : (!decide (s = k)) = true := by simpa using (same_no s k).1 hsk
              obtain ⟨f1, f2, f3⟩ := filter_at (p := fun x => !decide (x = k)) hlt3 hs.out hp
              rw [← hm3.out, hA2.out] at f1 f2
              obtain ⟨b', off', s', rfl, hcw, hs'⟩ := hra4.at f1
              have : s' = s := by rw [hs'.out, f2]
              subst this
              have hd : decide (A.length ≤ m3) = false := by simp; omega
              have hmw : (m3 : Int) < (A.length : Int) := by omega
              have hm4 : Hid (m3 + 1 = ((F.take (t3 + 1)).filter (fun x => !decide (x = k))).length) := by show m3 + 1 = _; rw [f3, List.length_append, ← hm3.out]; rfl
              clear hra4 hrf4 hrg f1 f2 f3
              go_wp2_with fail
              go_quiet (fail)
              go_wp2_with fail
              go_roundw
              case rel => exact ⟨t3 + 1, _, m3 + 1, by omega, by go_num, by go_num, by omega, hm4, rfl⟩
              case measure => simp [intOf]; omega
            · have hp : (!decide (s = k)) = false := by simpa using (same_iff s k).1 hsk
              have f3 := filter_skip (p := fun x => !decide (x = k)) hlt3 hs.out hp
              have hm4 : Hid (m3 = ((F.take (t3 + 1)).filter (fun x => !decide (x = k))).length) := by show m3 = _; rw [f3]; exact hm3.out
              clear hra4 hrf4 hrg f3
              go_wp2_with fail
              go_roundw
              case rel => exact ⟨t3 + 1, _, m3, by omega, by go_num, rfl, by omega, hm4, rfl⟩
              case measure => simp [intOf]; omega
          · have hge3 : ¬ (t3 : Int) < (F.length : Int) := by omega
            have hmA : m3 = A.length := by
              rw [hm3.out, List.take_of_length_le (by omega), hA2.out]
            have hmb : ((m3 : Int) != (A.length : Int)) = false := by rw [hmA]; simp
            clear hmA hra4
            go_wp2_with fail
            refine (sames_any _ _ F.length _ F.length _ F F _ (hrg.drewN q3) (hrf4.drewN q3) rfl rfl (by unfold maxLen; omega) (by unfold maxLen; omega)).mono ?_
            rintro e w5 ⟨rfl, hB5⟩
            have HB5 : Hid (Below w.heap.size w w5) := (below_drewN HB4.out q3).trans (hB5.mono HB4.out.size)
            clear hB5 hrg hrf4
            go_wp2_with fail
            go_ret
            exact ⟨ret_bool (by simp), HB5⟩

set_option maxHeartbeats 4000000 in
set_option maxRecDepth 20000 in
theorem add_ns (a1 : Option Addr) (x2 : Addr) (n1 c1 n2 c2 : Nat) (ks ns : List ByteArray) (k : ByteArray) (w : World) (p1 : a1 = none ∧ n1 = 0 ∧ c1 = 0)
    (h1 : Row w a1 ks) (e1 : Hid (ks.length = n1)) (b1 : n1 ≤ 4096) (s1 : ∀ s ∈ ks, s.size ≤ maxLen) (h2 : Row w (some x2) ns) (e2 : Hid (ns.length = n2)) (b2 : n2 ≤ 4096) (s2 : ∀ s ∈ ns, s.size ≤ maxLen) (hk : k.size ≤ 1048576)
    (F A : List ByteArray) (hF : Hid (ns.filter (fun x => !mem ks x) = F)) (hA : Hid (ns.filter (fun x => !mem (ks ++ [k]) x) = A)) :
    Calls Try.prog 4 #[.slice a1 n1 c1, .slice (some x2) n2 c2, .string k] w fun e w' => e = .returned (.bool true) ∧ Below w.heap.size w w' := by
  have hneq : ∀ (w : World) (a : Option Addr) (n c : Nat), (binOp .neq 22 (.slice a n c) (.slice none 0 0)).run Try.prog w = .ok (.bool (!a.isNone)) w := fun w a n c => run_neq_slice_nil_any w 22 9 a n c 0 0 Try.underlying22
  have hm2 := make_strs n2 (by omega)
  have hm3 := make_more n1 (by omega)
  have i1 : (n1 : Int) ≤ 4096 := by omega
  have i2 : (n2 : Int) ≤ 4096 := by omega
  have i3 : (k.size : Int) ≤ 1048576 := by omega
  have d1 : decide ((4096 : Int) < (n1 : Int)) = false := by simp; omega
  have d2 : decide ((4096 : Int) < (n2 : Int)) = false := by simp; omega
  have d3 : decide ((1048576 : Int) < (k.size : Int)) = false := by simp; omega
  have hFn : F.length ≤ 4096 := by rw [← hF.out]; have h1 := List.length_filter_le (fun x => !mem ks x) ns; have := e2.out; omega
  have hAn : A.length ≤ 4096 := by rw [← hA.out]; have h1 := List.length_filter_le (fun x => !mem (ks ++ [k]) x) ns; have := e2.out; omega
  have sF : ∀ s ∈ F, s.size ≤ maxLen := by rw [← hF.out]; exact fun s hs => s2 s ((List.mem_filter.1 hs).1)
  have sM : ∀ s ∈ ks ++ [k], s.size ≤ maxLen := by
    intro s hs
    rcases List.mem_append.1 hs with h | h
    · exact s1 s h
    · simp at h; subst h; unfold maxLen; omega
  have eM : Hid ((ks ++ [k]).length = n1 + 1) := by have := e1.out; show (ks ++ [k]).length = n1 + 1; simp; omega
  have hG : Hid (F.filter (fun x => !mem ks x) = F) := by show F.filter (fun x => !mem ks x) = F; rw [← hF.out]; exact again_is
  have hA2 : Hid (F.filter (fun x => !decide (x = k)) = A) := by show F.filter (fun x => !decide (x = k)) = A; rw [← hF.out, ← hA.out]; exact after_is.symm
  have q1 : a1.isNone = true := by rw [p1.1]; rfl
  have oK : Hid (NilOr a1 n1 c1) := .inl p1
  clear p1
  obtain ⟨u2, hc2, hr2, hB2⟩ := copy_same w n2 c2 x2 ns e2.out h2
  have hrk := h1.below hB2
  have HB : Hid (Below w.heap.size w u2) := hB2
  clear hB2
  go_enter Try.func4, Try.ntmps4
  go_wp2_with fail
  refine (bytes9_any _ _ n1 c1 n2 c2 ks ns k w h1 h2 e1 e2 (by unfold maxLen; omega) (by unfold maxLen; omega)).mono ?_
  rintro e w' ⟨⟨r, rfl⟩, rfl⟩
  cases r
  · go_wp2_with fail
    go_ret
    exact ⟨rfl, Below.refl _ _⟩
  go_wp2_with fail
  refine (fit_any _ _ n1 c1 n2 c2 ks ns _ w h1 h2 e1 e2 (by unfold maxLen; omega) (by unfold maxLen; omega)).mono ?_
  rintro e w' ⟨⟨r, rfl⟩, rfl⟩
  cases r
  · go_wp2_with fail
    go_ret
    exact ⟨rfl, Below.refl _ _⟩
  clear h1 h2
  go_wp2_with fail
  refine (zzlacking_row _ _ n1 _ n2 _ ks ns F _ hrk e1 (by omega) s1 hr2 e2 b2 s2 hF).mono ?_
  rintro e w1 ⟨af, cf, rfl, hrf, hnf, hBa⟩
  have hrk1 := hrk.below hBa
  have hrn1 := hr2.below hBa
  have HB1 : Hid (Below w.heap.size w w1) := HB.out.trans (hBa.mono HB.out.size)
  clear hrk hr2 HB hBa hnf
  obtain ⟨u3, v3, hc3, hM3, hB3⟩ := copy_more w1 _ n1 _ ks oK.out e1.out hrk1
  obtain ⟨hce, hfe⟩ := hM3.cell e1.out
  have hrm := hM3.put e1.out k
  have hB4 : Below w1.heap.size w1 (u3.setCell ⟨w1.heap.size, n1, none⟩ (.string k)) := hB3.setCell (Nat.le_refl _) _
  have hrk2 := hrk1.below hB4
  have hrn2 := hrn1.below hB4
  have hrf2 := hrf.below hB4
  have HB2 : Hid (Below w.heap.size w (u3.setCell ⟨w1.heap.size, n1, none⟩ (.string k))) := HB1.out.trans (hB4.mono HB1.out.size)
  clear hrk1 hrn1 hrf HB1 hB3 hB4 hM3
  go_wp2_with fail
  refine (zzlacking_row _ _ (n1 + 1) _ n2 _ (ks ++ [k]) ns A _ hrm eM (by omega) sM hrn2 e2 b2 s2 hA).mono ?_
  rintro e w3 ⟨aa, ca, rfl, hra, hna, hBc⟩
  have hrk3 := hrk2.below hBc
  have hrn3 := hrn2.below hBc
  have hrf3 := hrf2.below hBc
  have HB3 : Hid (Below w.heap.size w w3) := HB2.out.trans (hBc.mono HB2.out.size)
  clear hrm hrk2 hrn2 hrf2 HB2 hBc hna hce hfe hc3
  go_wp2_with fail
  refine (zzlacking_row _ _ n1 _ F.length _ ks F F _ hrk3 e1 (by omega) s1 hrf3 rfl hFn sF hG).mono ?_
  rintro e w4 ⟨ag, cg, rfl, hrg, hng, hBd⟩
  have hrk4 := hrk3.below hBd
  have hrn4 := hrn3.below hBd
  have hrf4 := hrf3.below hBd
  have hra4 := hra.below hBd
  have HB4 : Hid (Below w.heap.size w w4) := HB3.out.trans (hBd.mono HB3.out.size)
  clear hrk3 hrn3 hrf3 hra HB3 hBd hng s1 s2 sF sM
  go_wp2_with fail
  refine (member_any _ n1 _ ks k _ hrk4 e1 (by unfold maxLen; omega)).mono ?_
  rintro e w' ⟨rfl, rfl⟩
  cases hmk : mem ks k
  · have hWant : Hid (cnt k F = cnt k ns) := by show cnt k F = cnt k ns; rw [← hF.out]; exact cnt_out hmk
    clear hrk4
    go_wp2_with fail
    go_loop [13, 14] (fun nv jv => ∃ t m : Nat, t ≤ n2 ∧ jv = .int .i64 t ∧ nv = .int .i64 m ∧ m ≤ t ∧ Hid (m = cnt k (ns.take t))) (fun _ jv => n2 - (intOf jv).toNat)
    case atStart => exact ⟨0, 0, Nat.zero_le _, rfl, rfl, Nat.le_refl _, rfl⟩
    case round =>
      obtain ⟨t, m, ht, rfl, rfl, hmt, hm⟩ := hrel
      by_cases hlt : t < n2
      · have hjl : t < ns.length := by rw [e2.out]; exact hlt
        obtain ⟨b, off, s, hA2', hc, hs⟩ := hrn4.at (i := t) hjl
        simp at hA2'
        obtain ⟨rfl, rfl⟩ := hA2'
        rw [Nat.zero_add] at hc
        have hlt' : (t : Int) < (n2 : Int) := by omega
        clear hrn4 hrf4 hra4 hrg
        cases hsk : (s.toList == k.toList)
        · have hm2 : Hid (m = cnt k (ns.take (t + 1))) := by show m = _; rw [cnt_no hjl hs.out ((same_no s k).1 hsk)]; exact hm.out
          go_wp2_with fail
          go_round
          case rel => exact ⟨t + 1, m, by omega, by go_num, rfl, by omega, hm2⟩
          case measure => simp [intOf]; omega
        · have hm2 : Hid (m + 1 = cnt k (ns.take (t + 1))) := by show m + 1 = _; rw [cnt_yes hjl hs.out ((same_iff s k).1 hsk), ← hm.out]
          go_wp2_with fail
          go_round
          case rel => exact ⟨t + 1, m + 1, by omega, by go_num, by go_num, by omega, hm2⟩
          case measure => simp [intOf]; omega
      · have hge : ¬ (t : Int) < (n2 : Int) := by omega
        have HM : Hid (m = cnt k F) := by show m = cnt k F; rw [hWant.out, hm.out, List.take_of_length_le (by have := e2.out; omega)]
        clear hm hWant hrn4
        go_wp2_with fail
        go_loop [15, 16] (fun nv jv => ∃ t m2 : Nat, t ≤ F.length ∧ jv = .int .i64 t ∧ nv = .int .i64 m2 ∧ m2 ≤ t ∧ Hid (m2 = cnt k (F.take t))) (fun _ jv => F.length - (intOf jv).toNat)
        case atStart => exact ⟨0, 0, Nat.zero_le _, rfl, rfl, Nat.le_refl _, rfl⟩
        case round =>
          obtain ⟨t2, m2, ht2, rfl, rfl, hmt2, hm2⟩ := hrel
          by_cases hlt2 : t2 < F.length
          · obtain ⟨b, off, s, rfl, hc, hs⟩ := hrf4.at (i := t2) hlt2
            have hlt' : (t2 : Int) < (F.length : Int) := by omega
            clear hrf4 hra4 hrg
            cases hsk : (s.toList == k.toList)
            · have hm3 : Hid (m2 = cnt k (F.take (t2 + 1))) := by show m2 = _; rw [cnt_no hlt2 hs.out ((same_no s k).1 hsk)]; exact hm2.out
              go_wp2_with fail
              go_round
              case rel => exact ⟨t2 + 1, m2, by omega, by go_num, rfl, by omega, hm3⟩
              case measure => simp [intOf]; omega
            · have hm3 : Hid (m2 + 1 = cnt k (F.take (t2 + 1))) := by show m2 + 1 = _; rw [cnt_yes hlt2 hs.out ((same_iff s k).1 hsk), ← hm2.out]
              go_wp2_with fail
              go_round
              case rel => exact ⟨t2 + 1, m2 + 1, by omega, by go_num, by go_num, by omega, hm3⟩
              case measure => simp [intOf]; omega
          · have hge2 : ¬ (t2 : Int) < (F.length : Int) := by omega
            have hmm : m2 = m := by rw [HM.out, hm2.out, List.take_of_length_le (by omega)]
            have hgw : ((m2 : Int) != (m : Int)) = false := by rw [hmm]; simp
            clear hmm hm2 HM
            go_wp2_with fail
            go_loopw [17, 18] (fun nv jv wr => ∃ t q m3 : Nat, t ≤ F.length ∧ jv = .int .i64 t ∧ nv = .int .i64 m3 ∧ m3 ≤ t ∧ Hid (m3 = ((F.take t).filter (fun x => !decide (x = k))).length) ∧ wr = w4.drewN q) (fun _ jv _ => F.length - (intOf jv).toNat)
            case atStart => exact ⟨0, 0, 0, Nat.zero_le _, rfl, rfl, Nat.le_refl _, rfl, rfl⟩
            case round =>
              obtain ⟨t3, q3, m3, ht3, rfl, rfl, hmt3, hm3, rfl⟩ := hrel
              by_cases hlt3 : t3 < F.length
              · obtain ⟨b, off, s, rfl, hc, hs⟩ := hrf4.at (i := t3) hlt3
                have hlt' : (t3 : Int) < (F.length : Int) := by omega
                cases hsk : (s.toList == k.toList)
                · have hp : (!decide (s = k)) = true := by simpa using (same_no s k).1 hsk
                  obtain ⟨f1, f2, f3⟩ := filter_at (p := fun x => !decide (x = k)) hlt3 hs.out hp
                  rw [← hm3.out, hA2.out] at f1 f2
                  obtain ⟨b', off', s', rfl, hcw, hs'⟩ := hra4.at f1
                  have : s' = s := by rw [hs'.out, f2]
                  subst this
                  have hd : decide (A.length ≤ m3) = false := by simp; omega
                  have hmw : (m3 : Int) < (A.length : Int) := by omega
                  have hm4 : Hid (m3 + 1 = ((F.take (t3 + 1)).filter (fun x => !decide (x = k))).length) := by show m3 + 1 = _; rw [f3, List.length_append, ← hm3.out]; rfl
                  clear hra4 hrf4 hrg f1 f2 f3
                  go_wp2_with fail
                  go_quiet (fail)
                  go_wp2_with fail
                  go_roundw
                  case rel => exact ⟨t3 + 1, _, m3 + 1, by omega, by go_num, by go_num, by omega, hm4, rfl⟩
                  case measure => simp [intOf]; omega
                · have hp : (!decide (s = k)) = false := by simpa using (same_iff s k).1 hsk
                  have f3 := filter_skip (p := fun x => !decide (x = k)) hlt3 hs.out hp
                  have hm4 : Hid (m3 = ((F.take (t3 + 1)).filter (fun x => !decide (x = k))).length) := by show m3 = _; rw [f3]; exact hm3.out
                  clear hra4 hrf4 hrg f3
                  go_wp2_with fail
                  go_roundw
                  case rel => exact ⟨t3 + 1, _, m3, by omega, by go_num, rfl, by omega, hm4, rfl⟩
                  case measure => simp [intOf]; omega
              · have hge3 : ¬ (t3 : Int) < (F.length : Int) := by omega
                have hmA : m3 = A.length := by
                  rw [hm3.out, List.take_of_length_le (by omega), hA2.out]
                have hmb : ((m3 : Int) != (A.length : Int)) = false := by rw [hmA]; simp
                clear hmA hra4
                go_wp2_with fail
                refine (sames_any _ _ F.length _ F.length _ F F _ (hrg.drewN q3) (hrf4.drewN q3) rfl rfl (by unfold maxLen; omega) (by unfold maxLen; omega)).mono ?_
                rintro e w5 ⟨rfl, hB5⟩
                have HB5 : Hid (Below w.heap.size w w5) := (below_drewN HB4.out q3).trans (hB5.mono HB4.out.size)
                clear hB5 hrg hrf4
                go_wp2_with fail
                go_ret
                exact ⟨ret_bool (by simp), HB5⟩
  · have HM : Hid (0 = cnt k F) := by show 0 = cnt k F; rw [← hF.out]; exact (cnt_in hmk).symm
    clear hrk4 hrn4
    go_wp2_with fail
    go_loop [15, 16] (fun nv jv => ∃ t m2 : Nat, t ≤ F.length ∧ jv = .int .i64 t ∧ nv = .int .i64 m2 ∧ m2 ≤ t ∧ Hid (m2 = cnt k (F.take t))) (fun _ jv => F.length - (intOf jv).toNat)
    case atStart => exact ⟨0, 0, Nat.zero_le _, rfl, rfl, Nat.le_refl _, rfl⟩
    case round =>
      obtain ⟨t2, m2, ht2, rfl, rfl, hmt2, hm2⟩ := hrel
      by_cases hlt2 : t2 < F.length
      · obtain ⟨b, off, s, rfl, hc, hs⟩ := hrf4.at (i := t2) hlt2
        have hlt' : (t2 : Int) < (F.length : Int) := by omega
        clear hrf4 hra4 hrg
        cases hsk : (s.toList == k.toList)
        · have hm3 : Hid (m2 = cnt k (F.take (t2 + 1))) := by show m2 = _; rw [cnt_no hlt2 hs.out ((same_no s k).1 hsk)]; exact hm2.out
          go_wp2_with fail
          go_round
          case rel => exact ⟨t2 + 1, m2, by omega, by go_num, rfl, by omega, hm3⟩
          case measure => simp [intOf]; omega
        · have hm3 : Hid (m2 + 1 = cnt k (F.take (t2 + 1))) := by show m2 + 1 = _; rw [cnt_yes hlt2 hs.out ((same_iff s k).1 hsk), ← hm2.out]
          go_wp2_with fail
          go_round
          case rel => exact ⟨t2 + 1, m2 + 1, by omega, by go_num, by go_num, by omega, hm3⟩
          case measure => simp [intOf]; omega
      · have hge2 : ¬ (t2 : Int) < (F.length : Int) := by omega
        have hmm : m2 = 0 := by rw [HM.out, hm2.out, List.take_of_length_le (by omega)]
        have hgw : ((m2 : Int) != 0) = false := by rw [hmm]; simp
        clear hmm hm2 HM
        go_wp2_with fail
        go_loopw [17, 18] (fun nv jv wr => ∃ t q m3 : Nat, t ≤ F.length ∧ jv = .int .i64 t ∧ nv = .int .i64 m3 ∧ m3 ≤ t ∧ Hid (m3 = ((F.take t).filter (fun x => !decide (x = k))).length) ∧ wr = w4.drewN q) (fun _ jv _ => F.length - (intOf jv).toNat)
        case atStart => exact ⟨0, 0, 0, Nat.zero_le _, rfl, rfl, Nat.le_refl _, rfl, rfl⟩
        case round =>
          obtain ⟨t3, q3, m3, ht3, rfl, rfl, hmt3, hm3, rfl⟩ := hrel
          by_cases hlt3 : t3 < F.length
          · obtain ⟨b, off, s, rfl, hc, hs⟩ := hrf4.at (i := t3) hlt3
            have hlt' : (t3 : Int) < (F.length : Int) := by omega
            cases hsk : (s.toList == k.toList)
            · have hp : (!decide (s = k)) = true := by simpa using (same_no s k).1 hsk
              obtain ⟨f1, f2, f3⟩ := filter_at (p := fun x => !decide (x = k)) hlt3 hs.out hp
              rw [← hm3.out, hA2.out] at f1 f2
              obtain ⟨b', off', s', rfl, hcw, hs'⟩ := hra4.at f1
              have : s' = s := by rw [hs'.out, f2]
              subst this
              have hd : decide (A.length ≤ m3) = false := by simp; omega
              have hmw : (m3 : Int) < (A.length : Int) := by omega
              have hm4 : Hid (m3 + 1 = ((F.take (t3 + 1)).filter (fun x => !decide (x = k))).length) := by show m3 + 1 = _; rw [f3, List.length_append, ← hm3.out]; rfl
              clear hra4 hrf4 hrg f1 f2 f3
              go_wp2_with fail
              go_quiet (fail)
              go_wp2_with fail
              go_roundw
              case rel => exact ⟨t3 + 1, _, m3 + 1, by omega, by go_num, by go_num, by omega, hm4, rfl⟩
              case measure => simp [intOf]; omega
            · have hp : (!decide (s = k)) = false := by simpa using (same_iff s k).1 hsk
              have f3 := filter_skip (p := fun x => !decide (x = k)) hlt3 hs.out hp
              have hm4 : Hid (m3 = ((F.take (t3 + 1)).filter (fun x => !decide (x = k))).length) := by show m3 = _; rw [f3]; exact hm3.out
              clear hra4 hrf4 hrg f3
              go_wp2_with fail
              go_roundw
              case rel => exact ⟨t3 + 1, _, m3, by omega, by go_num, rfl, by omega, hm4, rfl⟩
              case measure => simp [intOf]; omega
          · have hge3 : ¬ (t3 : Int) < (F.length : Int) := by omega
            have hmA : m3 = A.length := by
              rw [hm3.out, List.take_of_length_le (by omega), hA2.out]
            have hmb : ((m3 : Int) != (A.length : Int)) = false := by rw [hmA]; simp
            clear hmA hra4
            go_wp2_with fail
            refine (sames_any _ _ F.length _ F.length _ F F _ (hrg.drewN q3) (hrf4.drewN q3) rfl rfl (by unfold maxLen; omega) (by unfold maxLen; omega)).mono ?_
            rintro e w5 ⟨rfl, hB5⟩
            have HB5 : Hid (Below w.heap.size w w5) := (below_drewN HB4.out q3).trans (hB5.mono HB4.out.size)
            clear hB5 hrg hrf4
            go_wp2_with fail
            go_ret
            exact ⟨ret_bool (by simp), HB5⟩

set_option maxHeartbeats 4000000 in
set_option maxRecDepth 20000 in
theorem add_sn (x1 : Addr) (a2 : Option Addr) (n1 c1 n2 c2 : Nat) (ks ns : List ByteArray) (k : ByteArray) (w : World) (p2 : Hid (a2 = none ∧ n2 = 0 ∧ c2 = 0))
    (h1 : Row w (some x1) ks) (e1 : Hid (ks.length = n1)) (b1 : n1 ≤ 4096) (s1 : ∀ s ∈ ks, s.size ≤ maxLen) (h2 : Row w a2 ns) (e2 : Hid (ns.length = n2)) (b2 : n2 ≤ 4096) (s2 : ∀ s ∈ ns, s.size ≤ maxLen) (hk : k.size ≤ 1048576)
    (F A : List ByteArray) (hF : Hid (ns.filter (fun x => !mem ks x) = F)) (hA : Hid (ns.filter (fun x => !mem (ks ++ [k]) x) = A)) :
    Calls Try.prog 4 #[.slice (some x1) n1 c1, .slice a2 n2 c2, .string k] w fun e w' => e = .returned (.bool true) ∧ Below w.heap.size w w' := by
  have hneq : ∀ (w : World) (a : Option Addr) (n c : Nat), (binOp .neq 22 (.slice a n c) (.slice none 0 0)).run Try.prog w = .ok (.bool (!a.isNone)) w := fun w a n c => run_neq_slice_nil_any w 22 9 a n c 0 0 Try.underlying22
  have hm1 := make_strs n1 (by omega)
  have hm3 := make_more n1 (by omega)
  have i1 : (n1 : Int) ≤ 4096 := by omega
  have i2 : (n2 : Int) ≤ 4096 := by omega
  have i3 : (k.size : Int) ≤ 1048576 := by omega
  have d1 : decide ((4096 : Int) < (n1 : Int)) = false := by simp; omega
  have d2 : decide ((4096 : Int) < (n2 : Int)) = false := by simp; omega
  have d3 : decide ((1048576 : Int) < (k.size : Int)) = false := by simp; omega
  have hFn : F.length ≤ 4096 := by rw [← hF.out]; have h1 := List.length_filter_le (fun x => !mem ks x) ns; have := e2.out; omega
  have hAn : A.length ≤ 4096 := by rw [← hA.out]; have h1 := List.length_filter_le (fun x => !mem (ks ++ [k]) x) ns; have := e2.out; omega
  have sF : ∀ s ∈ F, s.size ≤ maxLen := by rw [← hF.out]; exact fun s hs => s2 s ((List.mem_filter.1 hs).1)
  have sM : ∀ s ∈ ks ++ [k], s.size ≤ maxLen := by
    intro s hs
    rcases List.mem_append.1 hs with h | h
    · exact s1 s h
    · simp at h; subst h; unfold maxLen; omega
  have eM : Hid ((ks ++ [k]).length = n1 + 1) := by have := e1.out; show (ks ++ [k]).length = n1 + 1; simp; omega
  have hG : Hid (F.filter (fun x => !mem ks x) = F) := by show F.filter (fun x => !mem ks x) = F; rw [← hF.out]; exact again_is
  have hA2 : Hid (F.filter (fun x => !decide (x = k)) = A) := by show F.filter (fun x => !decide (x = k)) = A; rw [← hF.out, ← hA.out]; exact after_is.symm
  have q2 : a2.isNone = true := by rw [p2.out.1]; rfl
  obtain ⟨u1, hc1, hr1, hB1⟩ := copy_same w n1 c1 x1 ks e1.out h1
  have oK : Hid (NilOr (some (⟨w.heap.size, 0, none⟩ : Addr)) n1 n1) := .inr ⟨_, rfl⟩
  have hrk := hr1
  have hr2 := h2.below hB1
  have HB : Hid (Below w.heap.size w u1) := hB1
  clear hr1 hB1
  go_enter Try.func4, Try.ntmps4
  go_wp2_with fail
  refine (bytes9_any _ _ n1 c1 n2 c2 ks ns k w h1 h2 e1 e2 (by unfold maxLen; omega) (by unfold maxLen; omega)).mono ?_
  rintro e w' ⟨⟨r, rfl⟩, rfl⟩
  cases r
  · go_wp2_with fail
    go_ret
    exact ⟨rfl, Below.refl _ _⟩
  go_wp2_with fail
  refine (fit_any _ _ n1 c1 n2 c2 ks ns _ w h1 h2 e1 e2 (by unfold maxLen; omega) (by unfold maxLen; omega)).mono ?_
  rintro e w' ⟨⟨r, rfl⟩, rfl⟩
  cases r
  · go_wp2_with fail
    go_ret
    exact ⟨rfl, Below.refl _ _⟩
  clear h1 h2
  go_wp2_with fail
  refine (zzlacking_row _ _ n1 _ n2 _ ks ns F _ hrk e1 (by omega) s1 hr2 e2 b2 s2 hF).mono ?_
  rintro e w1 ⟨af, cf, rfl, hrf, hnf, hBa⟩
  have hrk1 := hrk.below hBa
  have hrn1 := hr2.below hBa
  have HB1 : Hid (Below w.heap.size w w1) := HB.out.trans (hBa.mono HB.out.size)
  clear hrk hr2 HB hBa hnf
  obtain ⟨u3, v3, hc3, hM3, hB3⟩ := copy_more w1 _ n1 _ ks oK.out e1.out hrk1
  obtain ⟨hce, hfe⟩ := hM3.cell e1.out
  have hrm := hM3.put e1.out k
  have hB4 : Below w1.heap.size w1 (u3.setCell ⟨w1.heap.size, n1, none⟩ (.string k)) := hB3.setCell (Nat.le_refl _) _
  have hrk2 := hrk1.below hB4
  have hrn2 := hrn1.below hB4
  have hrf2 := hrf.below hB4
  have HB2 : Hid (Below w.heap.size w (u3.setCell ⟨w1.heap.size, n1, none⟩ (.string k))) := HB1.out.trans (hB4.mono HB1.out.size)
  clear hrk1 hrn1 hrf HB1 hB3 hB4 hM3
  go_wp2_with fail
  refine (zzlacking_row _ _ (n1 + 1) _ n2 _ (ks ++ [k]) ns A _ hrm eM (by omega) sM hrn2 e2 b2 s2 hA).mono ?_
  rintro e w3 ⟨aa, ca, rfl, hra, hna, hBc⟩
  have hrk3 := hrk2.below hBc
  have hrn3 := hrn2.below hBc
  have hrf3 := hrf2.below hBc
  have HB3 : Hid (Below w.heap.size w w3) := HB2.out.trans (hBc.mono HB2.out.size)
  clear hrm hrk2 hrn2 hrf2 HB2 hBc hna hce hfe hc3
  go_wp2_with fail
  refine (zzlacking_row _ _ n1 _ F.length _ ks F F _ hrk3 e1 (by omega) s1 hrf3 rfl hFn sF hG).mono ?_
  rintro e w4 ⟨ag, cg, rfl, hrg, hng, hBd⟩
  have hrk4 := hrk3.below hBd
  have hrn4 := hrn3.below hBd
  have hrf4 := hrf3.below hBd
  have hra4 := hra.below hBd
  have HB4 : Hid (Below w.heap.size w w4) := HB3.out.trans (hBd.mono HB3.out.size)
  clear hrk3 hrn3 hrf3 hra HB3 hBd hng s1 s2 sF sM
  go_wp2_with fail
  refine (member_any _ n1 _ ks k _ hrk4 e1 (by unfold maxLen; omega)).mono ?_
  rintro e w' ⟨rfl, rfl⟩
  cases hmk : mem ks k
  · have hWant : Hid (cnt k F = cnt k ns) := by show cnt k F = cnt k ns; rw [← hF.out]; exact cnt_out hmk
    clear hrk4
    go_wp2_with fail
    go_loop [13, 14] (fun nv jv => ∃ t m : Nat, t ≤ n2 ∧ jv = .int .i64 t ∧ nv = .int .i64 m ∧ m ≤ t ∧ Hid (m = cnt k (ns.take t))) (fun _ jv => n2 - (intOf jv).toNat)
    case atStart => exact ⟨0, 0, Nat.zero_le _, rfl, rfl, Nat.le_refl _, rfl⟩
    case round =>
      obtain ⟨t, m, ht, rfl, rfl, hmt, hm⟩ := hrel
      by_cases hlt : t < n2
      · exact absurd hlt (by have := p2.out.2.1; omega)
      · have hge : ¬ (t : Int) < (n2 : Int) := by omega
        have HM : Hid (m = cnt k F) := by show m = cnt k F; rw [hWant.out, hm.out, List.take_of_length_le (by have := e2.out; omega)]
        clear hm hWant hrn4
        go_wp2_with fail
        go_loop [15, 16] (fun nv jv => ∃ t m2 : Nat, t ≤ F.length ∧ jv = .int .i64 t ∧ nv = .int .i64 m2 ∧ m2 ≤ t ∧ Hid (m2 = cnt k (F.take t))) (fun _ jv => F.length - (intOf jv).toNat)
        case atStart => exact ⟨0, 0, Nat.zero_le _, rfl, rfl, Nat.le_refl _, rfl⟩
        case round =>
          obtain ⟨t2, m2, ht2, rfl, rfl, hmt2, hm2⟩ := hrel
          by_cases hlt2 : t2 < F.length
          · obtain ⟨b, off, s, rfl, hc, hs⟩ := hrf4.at (i := t2) hlt2
            have hlt' : (t2 : Int) < (F.length : Int) := by omega
            clear hrf4 hra4 hrg
            cases hsk : (s.toList == k.toList)
            · have hm3 : Hid (m2 = cnt k (F.take (t2 + 1))) := by show m2 = _; rw [cnt_no hlt2 hs.out ((same_no s k).1 hsk)]; exact hm2.out
              go_wp2_with fail
              go_round
              case rel => exact ⟨t2 + 1, m2, by omega, by go_num, rfl, by omega, hm3⟩
              case measure => simp [intOf]; omega
            · have hm3 : Hid (m2 + 1 = cnt k (F.take (t2 + 1))) := by show m2 + 1 = _; rw [cnt_yes hlt2 hs.out ((same_iff s k).1 hsk), ← hm2.out]
              go_wp2_with fail
              go_round
              case rel => exact ⟨t2 + 1, m2 + 1, by omega, by go_num, by go_num, by omega, hm3⟩
              case measure => simp [intOf]; omega
          · have hge2 : ¬ (t2 : Int) < (F.length : Int) := by omega
            have hmm : m2 = m := by rw [HM.out, hm2.out, List.take_of_length_le (by omega)]
            have hgw : ((m2 : Int) != (m : Int)) = false := by rw [hmm]; simp
            clear hmm hm2 HM
            go_wp2_with fail
            go_loopw [17, 18] (fun nv jv wr => ∃ t q m3 : Nat, t ≤ F.length ∧ jv = .int .i64 t ∧ nv = .int .i64 m3 ∧ m3 ≤ t ∧ Hid (m3 = ((F.take t).filter (fun x => !decide (x = k))).length) ∧ wr = w4.drewN q) (fun _ jv _ => F.length - (intOf jv).toNat)
            case atStart => exact ⟨0, 0, 0, Nat.zero_le _, rfl, rfl, Nat.le_refl _, rfl, rfl⟩
            case round =>
              obtain ⟨t3, q3, m3, ht3, rfl, rfl, hmt3, hm3, rfl⟩ := hrel
              by_cases hlt3 : t3 < F.length
              · obtain ⟨b, off, s, rfl, hc, hs⟩ := hrf4.at (i := t3) hlt3
                have hlt' : (t3 : Int) < (F.length : Int) := by omega
                cases hsk : (s.toList == k.toList)
                · have hp : (!decide (s = k)) = true := by simpa using (same_no s k).1 hsk
                  obtain ⟨f1, f2, f3⟩ := filter_at (p := fun x => !decide (x = k)) hlt3 hs.out hp
                  rw [← hm3.out, hA2.out] at f1 f2
                  obtain ⟨b', off', s', rfl, hcw, hs'⟩ := hra4.at f1
                  have : s' = s := by rw [hs'.out, f2]
                  subst this
                  have hd : decide (A.length ≤ m3) = false := by simp; omega
                  have hmw : (m3 : Int) < (A.length : Int) := by omega
                  have hm4 : Hid (m3 + 1 = ((F.take (t3 + 1)).filter (fun x => !decide (x = k))).length) := by show m3 + 1 = _; rw [f3, List.length_append, ← hm3.out]; rfl
                  clear hra4 hrf4 hrg f1 f2 f3
                  go_wp2_with fail
                  go_quiet (fail)
                  go_wp2_with fail
                  go_roundw
                  case rel => exact ⟨t3 + 1, _, m3 + 1, by omega, by go_num, by go_num, by omega, hm4, rfl⟩
                  case measure => simp [intOf]; omega
                · have hp : (!decide (s = k)) = false := by simpa using (same_iff s k).1 hsk
                  have f3 := filter_skip (p := fun x => !decide (x = k)) hlt3 hs.out hp
                  have hm4 : Hid (m3 = ((F.take (t3 + 1)).filter (fun x => !decide (x = k))).length) := by show m3 = _; rw [f3]; exact hm3.out
                  clear hra4 hrf4 hrg f3
                  go_wp2_with fail
                  go_roundw
                  case rel => exact ⟨t3 + 1, _, m3, by omega, by go_num, rfl, by omega, hm4, rfl⟩
                  case measure => simp [intOf]; omega
              · have hge3 : ¬ (t3 : Int) < (F.length : Int) := by omega
                have hmA : m3 = A.length := by
                  rw [hm3.out, List.take_of_length_le (by omega), hA2.out]
                have hmb : ((m3 : Int) != (A.length : Int)) = false := by rw [hmA]; simp
                clear hmA hra4
                go_wp2_with fail
                refine (sames_any _ _ F.length _ F.length _ F F _ (hrg.drewN q3) (hrf4.drewN q3) rfl rfl (by unfold maxLen; omega) (by unfold maxLen; omega)).mono ?_
                rintro e w5 ⟨rfl, hB5⟩
                have HB5 : Hid (Below w.heap.size w w5) := (below_drewN HB4.out q3).trans (hB5.mono HB4.out.size)
                clear hB5 hrg hrf4
                go_wp2_with fail
                go_ret
                exact ⟨ret_bool (by simp), HB5⟩
  · have HM : Hid (0 = cnt k F) := by show 0 = cnt k F; rw [← hF.out]; exact (cnt_in hmk).symm
    clear hrk4 hrn4
    go_wp2_with fail
    go_loop [15, 16] (fun nv jv => ∃ t m2 : Nat, t ≤ F.length ∧ jv = .int .i64 t ∧ nv = .int .i64 m2 ∧ m2 ≤ t ∧ Hid (m2 = cnt k (F.take t))) (fun _ jv => F.length - (intOf jv).toNat)
    case atStart => exact ⟨0, 0, Nat.zero_le _, rfl, rfl, Nat.le_refl _, rfl⟩
    case round =>
      obtain ⟨t2, m2, ht2, rfl, rfl, hmt2, hm2⟩ := hrel
      by_cases hlt2 : t2 < F.length
      · obtain ⟨b, off, s, rfl, hc, hs⟩ := hrf4.at (i := t2) hlt2
        have hlt' : (t2 : Int) < (F.length : Int) := by omega
        clear hrf4 hra4 hrg
        cases hsk : (s.toList == k.toList)
        · have hm3 : Hid (m2 = cnt k (F.take (t2 + 1))) := by show m2 = _; rw [cnt_no hlt2 hs.out ((same_no s k).1 hsk)]; exact hm2.out
          go_wp2_with fail
          go_round
          case rel => exact ⟨t2 + 1, m2, by omega, by go_num, rfl, by omega, hm3⟩
          case measure => simp [intOf]; omega
        · have hm3 : Hid (m2 + 1 = cnt k (F.take (t2 + 1))) := by show m2 + 1 = _; rw [cnt_yes hlt2 hs.out ((same_iff s k).1 hsk), ← hm2.out]
          go_wp2_with fail
          go_round
          case rel => exact ⟨t2 + 1, m2 + 1, by omega, by go_num, by go_num, by omega, hm3⟩
          case measure => simp [intOf]; omega
      · have hge2 : ¬ (t2 : Int) < (F.length : Int) := by omega
        have hmm : m2 = 0 := by rw [HM.out, hm2.out, List.take_of_length_le (by omega)]
        have hgw : ((m2 : Int) != 0) = false := by rw [hmm]; simp
        clear hmm hm2 HM
        go_wp2_with fail
        go_loopw [17, 18] (fun nv jv wr => ∃ t q m3 : Nat, t ≤ F.length ∧ jv = .int .i64 t ∧ nv = .int .i64 m3 ∧ m3 ≤ t ∧ Hid (m3 = ((F.take t).filter (fun x => !decide (x = k))).length) ∧ wr = w4.drewN q) (fun _ jv _ => F.length - (intOf jv).toNat)
        case atStart => exact ⟨0, 0, 0, Nat.zero_le _, rfl, rfl, Nat.le_refl _, rfl, rfl⟩
        case round =>
          obtain ⟨t3, q3, m3, ht3, rfl, rfl, hmt3, hm3, rfl⟩ := hrel
          by_cases hlt3 : t3 < F.length
          · obtain ⟨b, off, s, rfl, hc, hs⟩ := hrf4.at (i := t3) hlt3
            have hlt' : (t3 : Int) < (F.length : Int) := by omega
            cases hsk : (s.toList == k.toList)
            · have hp : (!decide (s = k)) = true := by simpa using (same_no s k).1 hsk
              obtain ⟨f1, f2, f3⟩ := filter_at (p := fun x => !decide (x = k)) hlt3 hs.out hp
              rw [← hm3.out, hA2.out] at f1 f2
              obtain ⟨b', off', s', rfl, hcw, hs'⟩ := hra4.at f1
              have : s' = s := by rw [hs'.out, f2]
              subst this
              have hd : decide (A.length ≤ m3) = false := by simp; omega
              have hmw : (m3 : Int) < (A.length : Int) := by omega
              have hm4 : Hid (m3 + 1 = ((F.take (t3 + 1)).filter (fun x => !decide (x = k))).length) := by show m3 + 1 = _; rw [f3, List.length_append, ← hm3.out]; rfl
              clear hra4 hrf4 hrg f1 f2 f3
              go_wp2_with fail
              go_quiet (fail)
              go_wp2_with fail
              go_roundw
              case rel => exact ⟨t3 + 1, _, m3 + 1, by omega, by go_num, by go_num, by omega, hm4, rfl⟩
              case measure => simp [intOf]; omega
            · have hp : (!decide (s = k)) = false := by simpa using (same_iff s k).1 hsk
              have f3 := filter_skip (p := fun x => !decide (x = k)) hlt3 hs.out hp
              have hm4 : Hid (m3 = ((F.take (t3 + 1)).filter (fun x => !decide (x = k))).length) := by show m3 = _; rw [f3]; exact hm3.out
              clear hra4 hrf4 hrg f3
              go_wp2_with fail
              go_roundw
              case rel => exact ⟨t3 + 1, _, m3, by omega, by go_num, rfl, by omega, hm4, rfl⟩
              case measure => simp [intOf]; omega
          · have hge3 : ¬ (t3 : Int) < (F.length : Int) := by omega
            have hmA : m3 = A.length := by
              rw [hm3.out, List.take_of_length_le (by omega), hA2.out]
            have hmb : ((m3 : Int) != (A.length : Int)) = false := by rw [hmA]; simp
            clear hmA hra4
            go_wp2_with fail
            refine (sames_any _ _ F.length _ F.length _ F F _ (hrg.drewN q3) (hrf4.drewN q3) rfl rfl (by unfold maxLen; omega) (by unfold maxLen; omega)).mono ?_
            rintro e w5 ⟨rfl, hB5⟩
            have HB5 : Hid (Below w.heap.size w w5) := (below_drewN HB4.out q3).trans (hB5.mono HB4.out.size)
            clear hB5 hrg hrf4
            go_wp2_with fail
            go_ret
            exact ⟨ret_bool (by simp), HB5⟩

set_option maxHeartbeats 4000000 in
set_option maxRecDepth 20000 in
theorem add_nn (a1 : Option Addr) (a2 : Option Addr) (n1 c1 n2 c2 : Nat) (ks ns : List ByteArray) (k : ByteArray) (w : World) (p1 : a1 = none ∧ n1 = 0 ∧ c1 = 0) (p2 : Hid (a2 = none ∧ n2 = 0 ∧ c2 = 0))
    (h1 : Row w a1 ks) (e1 : Hid (ks.length = n1)) (b1 : n1 ≤ 4096) (s1 : ∀ s ∈ ks, s.size ≤ maxLen) (h2 : Row w a2 ns) (e2 : Hid (ns.length = n2)) (b2 : n2 ≤ 4096) (s2 : ∀ s ∈ ns, s.size ≤ maxLen) (hk : k.size ≤ 1048576)
    (F A : List ByteArray) (hF : Hid (ns.filter (fun x => !mem ks x) = F)) (hA : Hid (ns.filter (fun x => !mem (ks ++ [k]) x) = A)) :
    Calls Try.prog 4 #[.slice a1 n1 c1, .slice a2 n2 c2, .string k] w fun e w' => e = .returned (.bool true) ∧ Below w.heap.size w w' := by
  have hneq : ∀ (w : World) (a : Option Addr) (n c : Nat), (binOp .neq 22 (.slice a n c) (.slice none 0 0)).run Try.prog w = .ok (.bool (!a.isNone)) w := fun w a n c => run_neq_slice_nil_any w 22 9 a n c 0 0 Try.underlying22
  have hm3 := make_more n1 (by omega)
  have i1 : (n1 : Int) ≤ 4096 := by omega
  have i2 : (n2 : Int) ≤ 4096 := by omega
  have i3 : (k.size : Int) ≤ 1048576 := by omega
  have d1 : decide ((4096 : Int) < (n1 : Int)) = false := by simp; omega
  have d2 : decide ((4096 : Int) < (n2 : Int)) = false := by simp; omega
  have d3 : decide ((1048576 : Int) < (k.size : Int)) = false := by simp; omega
  have hFn : F.length ≤ 4096 := by rw [← hF.out]; have h1 := List.length_filter_le (fun x => !mem ks x) ns; have := e2.out; omega
  have hAn : A.length ≤ 4096 := by rw [← hA.out]; have h1 := List.length_filter_le (fun x => !mem (ks ++ [k]) x) ns; have := e2.out; omega
  have sF : ∀ s ∈ F, s.size ≤ maxLen := by rw [← hF.out]; exact fun s hs => s2 s ((List.mem_filter.1 hs).1)
  have sM : ∀ s ∈ ks ++ [k], s.size ≤ maxLen := by
    intro s hs
    rcases List.mem_append.1 hs with h | h
    · exact s1 s h
    · simp at h; subst h; unfold maxLen; omega
  have eM : Hid ((ks ++ [k]).length = n1 + 1) := by have := e1.out; show (ks ++ [k]).length = n1 + 1; simp; omega
  have hG : Hid (F.filter (fun x => !mem ks x) = F) := by show F.filter (fun x => !mem ks x) = F; rw [← hF.out]; exact again_is
  have hA2 : Hid (F.filter (fun x => !decide (x = k)) = A) := by show F.filter (fun x => !decide (x = k)) = A; rw [← hF.out, ← hA.out]; exact after_is.symm
  have q1 : a1.isNone = true := by rw [p1.1]; rfl
  have oK : Hid (NilOr a1 n1 c1) := .inl p1
  clear p1
  have q2 : a2.isNone = true := by rw [p2.out.1]; rfl
  have hrk := h1
  have hr2 := h2
  have HB : Hid (Below w.heap.size w w) := Below.refl _ _
  go_enter Try.func4, Try.ntmps4
  go_wp2_with fail
  refine (bytes9_any _ _ n1 c1 n2 c2 ks ns k w h1 h2 e1 e2 (by unfold maxLen; omega) (by unfold maxLen; omega)).mono ?_
  rintro e w' ⟨⟨r, rfl⟩, rfl⟩
  cases r
  · go_wp2_with fail
    go_ret
    exact ⟨rfl, Below.refl _ _⟩
  go_wp2_with fail
  refine (fit_any _ _ n1 c1 n2 c2 ks ns _ w h1 h2 e1 e2 (by unfold maxLen; omega) (by unfold maxLen; omega)).mono ?_
  rintro e w' ⟨⟨r, rfl⟩, rfl⟩
  cases r
  · go_wp2_with fail
    go_ret
    exact ⟨rfl, Below.refl _ _⟩
  clear h1 h2
  go_wp2_with fail
  refine (zzlacking_row _ _ n1 _ n2 _ ks ns F _ hrk e1 (by omega) s1 hr2 e2 b2 s2 hF).mono ?_
  rintro e w1 ⟨af, cf, rfl, hrf, hnf, hBa⟩
  have hrk1 := hrk.below hBa
  have hrn1 := hr2.below hBa
  have HB1 : Hid (Below w.heap.size w w1) := HB.out.trans (hBa.mono HB.out.size)
  clear hrk hr2 HB hBa hnf
  obtain ⟨u3, v3, hc3, hM3, hB3⟩ := copy_more w1 _ n1 _ ks oK.out e1.out hrk1
  obtain ⟨hce, hfe⟩ := hM3.cell e1.out
  have hrm := hM3.put e1.out k
  have hB4 : Below w1.heap.size w1 (u3.setCell ⟨w1.heap.size, n1, none⟩ (.string k)) := hB3.setCell (Nat.le_refl _) _
  have hrk2 := hrk1.below hB4
  have hrn2 := hrn1.below hB4
  have hrf2 := hrf.below hB4
  have HB2 : Hid (Below w.heap.size w (u3.setCell ⟨w1.heap.size, n1, none⟩ (.string k))) := HB1.out.trans (hB4.mono HB1.out.size)
  clear hrk1 hrn1 hrf HB1 hB3 hB4 hM3
  go_wp2_with fail
  refine (zzlacking_row _ _ (n1 + 1) _ n2 _ (ks ++ [k]) ns A _ hrm eM (by omega) sM hrn2 e2 b2 s2 hA).mono ?_
  rintro e w3 ⟨aa, ca, rfl, hra, hna, hBc⟩
  have hrk3 := hrk2.below hBc
  have hrn3 := hrn2.below hBc
  have hrf3 := hrf2.below hBc
  have HB3 : Hid (Below w.heap.size w w3) := HB2.out.trans (hBc.mono HB2.out.size)
  clear hrm hrk2 hrn2 hrf2 HB2 hBc hna hce hfe hc3
  go_wp2_with fail
  refine (zzlacking_row _ _ n1 _ F.length _ ks F F _ hrk3 e1 (by omega) s1 hrf3 rfl hFn sF hG).mono ?_
  rintro e w4 ⟨ag, cg, rfl, hrg, hng, hBd⟩
  have hrk4 := hrk3.below hBd
  have hrn4 := hrn3.below hBd
  have hrf4 := hrf3.below hBd
  have hra4 := hra.below hBd
  have HB4 : Hid (Below w.heap.size w w4) := HB3.out.trans (hBd.mono HB3.out.size)
  clear hrk3 hrn3 hrf3 hra HB3 hBd hng s1 s2 sF sM
  go_wp2_with fail
  refine (member_any _ n1 _ ks k _ hrk4 e1 (by unfold maxLen; omega)).mono ?_
  rintro e w' ⟨rfl, rfl⟩
  cases hmk : mem ks k
  · have hWant : Hid (cnt k F = cnt k ns) := by show cnt k F = cnt k ns; rw [← hF.out]; exact cnt_out hmk
    clear hrk4
    go_wp2_with fail
    go_loop [13, 14] (fun nv jv => ∃ t m : Nat, t ≤ n2 ∧ jv = .int .i64 t ∧ nv = .int .i64 m ∧ m ≤ t ∧ Hid (m = cnt k (ns.take t))) (fun _ jv => n2 - (intOf jv).toNat)
    case atStart => exact ⟨0, 0, Nat.zero_le _, rfl, rfl, Nat.le_refl _, rfl⟩
    case round =>
      obtain ⟨t, m, ht, rfl, rfl, hmt, hm⟩ := hrel
      by_cases hlt : t < n2
      · exact absurd hlt (by have := p2.out.2.1; omega)
      · have hge : ¬ (t : Int) < (n2 : Int) := by omega
        have HM : Hid (m = cnt k F) := by show m = cnt k F; rw [hWant.out, hm.out, List.take_of_length_le (by have := e2.out; omega)]
        clear hm hWant hrn4
        go_wp2_with fail
        go_loop [15, 16] (fun nv jv => ∃ t m2 : Nat, t ≤ F.length ∧ jv = .int .i64 t ∧ nv = .int .i64 m2 ∧ m2 ≤ t ∧ Hid (m2 = cnt k (F.take t))) (fun _ jv => F.length - (intOf jv).toNat)
        case atStart => exact ⟨0, 0, Nat.zero_le _, rfl, rfl, Nat.le_refl _, rfl⟩
        case round =>
          obtain ⟨t2, m2, ht2, rfl, rfl, hmt2, hm2⟩ := hrel
          by_cases hlt2 : t2 < F.length
          · obtain ⟨b, off, s, rfl, hc, hs⟩ := hrf4.at (i := t2) hlt2
            have hlt' : (t2 : Int) < (F.length : Int) := by omega
            clear hrf4 hra4 hrg
            cases hsk : (s.toList == k.toList)
            · have hm3 : Hid (m2 = cnt k (F.take (t2 + 1))) := by show m2 = _; rw [cnt_no hlt2 hs.out ((same_no s k).1 hsk)]; exact hm2.out
              go_wp2_with fail
              go_round
              case rel => exact ⟨t2 + 1, m2, by omega, by go_num, rfl, by omega, hm3⟩
              case measure => simp [intOf]; omega
            · have hm3 : Hid (m2 + 1 = cnt k (F.take (t2 + 1))) := by show m2 + 1 = _; rw [cnt_yes hlt2 hs.out ((same_iff s k).1 hsk), ← hm2.out]
              go_wp2_with fail
              go_round
              case rel => exact ⟨t2 + 1, m2 + 1, by omega, by go_num, by go_num, by omega, hm3⟩
              case measure => simp [intOf]; omega
          · have hge2 : ¬ (t2 : Int) < (F.length : Int) := by omega
            have hmm : m2 = m := by rw [HM.out, hm2.out, List.take_of_length_le (by omega)]
            have hgw : ((m2 : Int) != (m : Int)) = false := by rw [hmm]; simp
            clear hmm hm2 HM
            go_wp2_with fail
            go_loopw [17, 18] (fun nv jv wr => ∃ t q m3 : Nat, t ≤ F.length ∧ jv = .int .i64 t ∧ nv = .int .i64 m3 ∧ m3 ≤ t ∧ Hid (m3 = ((F.take t).filter (fun x => !decide (x = k))).length) ∧ wr = w4.drewN q) (fun _ jv _ => F.length - (intOf jv).toNat)
            case atStart => exact ⟨0, 0, 0, Nat.zero_le _, rfl, rfl, Nat.le_refl _, rfl, rfl⟩
            case round =>
              obtain ⟨t3, q3, m3, ht3, rfl, rfl, hmt3, hm3, rfl⟩ := hrel
              by_cases hlt3 : t3 < F.length
              · obtain ⟨b, off, s, rfl, hc, hs⟩ := hrf4.at (i := t3) hlt3
                have hlt' : (t3 : Int) < (F.length : Int) := by omega
                cases hsk : (s.toList == k.toList)
                · have hp : (!decide (s = k)) = true := by simpa using (same_no s k).1 hsk
                  obtain ⟨f1, f2, f3⟩ := filter_at (p := fun x => !decide (x = k)) hlt3 hs.out hp
                  rw [← hm3.out, hA2.out] at f1 f2
                  obtain ⟨b', off', s', rfl, hcw, hs'⟩ := hra4.at f1
                  have : s' = s := by rw [hs'.out, f2]
                  subst this
                  have hd : decide (A.length ≤ m3) = false := by simp; omega
                  have hmw : (m3 : Int) < (A.length : Int) := by omega
                  have hm4 : Hid (m3 + 1 = ((F.take (t3 + 1)).filter (fun x => !decide (x = k))).length) := by show m3 + 1 = _; rw [f3, List.length_append, ← hm3.out]; rfl
                  clear hra4 hrf4 hrg f1 f2 f3
                  go_wp2_with fail
                  go_quiet (fail)
                  go_wp2_with fail
                  go_roundw
                  case rel => exact ⟨t3 + 1, _, m3 + 1, by omega, by go_num, by go_num, by omega, hm4, rfl⟩
                  case measure => simp [intOf]; omega
                · have hp : (!decide (s = k)) = false := by simpa using (same_iff s k).1 hsk
                  have f3 := filter_skip (p := fun x => !decide (x = k)) hlt3 hs.out hp
                  have hm4 : Hid (m3 = ((F.take (t3 + 1)).filter (fun x => !decide (x = k))).length) := by show m3 = _; rw [f3]; exact hm3.out
                  clear hra4 hrf4 hrg f3
                  go_wp2_with fail
                  go_roundw
                  case rel => exact ⟨t3 + 1, _, m3, by omega, by go_num, rfl, by omega, hm4, rfl⟩
                  case measure => simp [intOf]; omega
              · have hge3 : ¬ (t3 : Int) < (F.length : Int) := by omega
                have hmA : m3 = A.length := by
                  rw [hm3.out, List.take_of_length_le (by omega), hA2.out]
                have hmb : ((m3 : Int) != (A.length : Int)) = false := by rw [hmA]; simp
                clear hmA hra4
                go_wp2_with fail
                refine (sames_any _ _ F.length _ F.length _ F F _ (hrg.drewN q3) (hrf4.drewN q3) rfl rfl (by unfold maxLen; omega) (by unfold maxLen; omega)).mono ?_
                rintro e w5 ⟨rfl, hB5⟩
                have HB5 : Hid (Below w.heap.size w w5) := (below_drewN HB4.out q3).trans (hB5.mono HB4.out.size)
                clear hB5 hrg hrf4
                go_wp2_with fail
                go_ret
                exact ⟨ret_bool (by simp), HB5⟩
  · have HM : Hid (0 = cnt k F) := by show 0 = cnt k F; rw [← hF.out]; exact (cnt_in hmk).symm
    clear hrk4 hrn4
    go_wp2_with fail
    go_loop [15, 16] (fun nv jv => ∃ t m2 : Nat, t ≤ F.length ∧ jv = .int .i64 t ∧ nv = .int .i64 m2 ∧ m2 ≤ t ∧ Hid (m2 = cnt k (F.take t))) (fun _ jv => F.length - (intOf jv).toNat)
    case atStart => exact ⟨0, 0, Nat.zero_le _, rfl, rfl, Nat.le_refl _, rfl⟩
    case round =>
      obtain ⟨t2, m2, ht2, rfl, rfl, hmt2, hm2⟩ := hrel
      by_cases hlt2 : t2 < F.length
      · obtain ⟨b, off, s, rfl, hc, hs⟩ := hrf4.at (i := t2) hlt2
        have hlt' : (t2 : Int) < (F.length : Int) := by omega
        clear hrf4 hra4 hrg
        cases hsk : (s.toList == k.toList)
        · have hm3 : Hid (m2 = cnt k (F.take (t2 + 1))) := by show m2 = _; rw [cnt_no hlt2 hs.out ((same_no s k).1 hsk)]; exact hm2.out
          go_wp2_with fail
          go_round
          case rel => exact ⟨t2 + 1, m2, by omega, by go_num, rfl, by omega, hm3⟩
          case measure => simp [intOf]; omega
        · have hm3 : Hid (m2 + 1 = cnt k (F.take (t2 + 1))) := by show m2 + 1 = _; rw [cnt_yes hlt2 hs.out ((same_iff s k).1 hsk), ← hm2.out]
          go_wp2_with fail
          go_round
          case rel => exact ⟨t2 + 1, m2 + 1, by omega, by go_num, by go_num, by omega, hm3⟩
          case measure => simp [intOf]; omega
      · have hge2 : ¬ (t2 : Int) < (F.length : Int) := by omega
        have hmm : m2 = 0 := by rw [HM.out, hm2.out, List.take_of_length_le (by omega)]
        have hgw : ((m2 : Int) != 0) = false := by rw [hmm]; simp
        clear hmm hm2 HM
        go_wp2_with fail
        go_loopw [17, 18] (fun nv jv wr => ∃ t q m3 : Nat, t ≤ F.length ∧ jv = .int .i64 t ∧ nv = .int .i64 m3 ∧ m3 ≤ t ∧ Hid (m3 = ((F.take t).filter (fun x => !decide (x = k))).length) ∧ wr = w4.drewN q) (fun _ jv _ => F.length - (intOf jv).toNat)
        case atStart => exact ⟨0, 0, 0, Nat.zero_le _, rfl, rfl, Nat.le_refl _, rfl, rfl⟩
        case round =>
          obtain ⟨t3, q3, m3, ht3, rfl, rfl, hmt3, hm3, rfl⟩ := hrel
          by_cases hlt3 : t3 < F.length
          · obtain ⟨b, off, s, rfl, hc, hs⟩ := hrf4.at (i := t3) hlt3
            have hlt' : (t3 : Int) < (F.length : Int) := by omega
            cases hsk : (s.toList == k.toList)
            · have hp : (!decide (s = k)) = true := by simpa using (same_no s k).1 hsk
              obtain ⟨f1, f2, f3⟩ := filter_at (p := fun x => !decide (x = k)) hlt3 hs.out hp
              rw [← hm3.out, hA2.out] at f1 f2
              obtain ⟨b', off', s', rfl, hcw, hs'⟩ := hra4.at f1
              have : s' = s := by rw [hs'.out, f2]
              subst this
              have hd : decide (A.length ≤ m3) = false := by simp; omega
              have hmw : (m3 : Int) < (A.length : Int) := by omega
              have hm4 : Hid (m3 + 1 = ((F.take (t3 + 1)).filter (fun x => !decide (x = k))).length) := by show m3 + 1 = _; rw [f3, List.length_append, ← hm3.out]; rfl
              clear hra4 hrf4 hrg f1 f2 f3
              go_wp2_with fail
              go_quiet (fail)
              go_wp2_with fail
              go_roundw
              case rel => exact ⟨t3 + 1, _, m3 + 1, by omega, by go_num, by go_num, by omega, hm4, rfl⟩
              case measure => simp [intOf]; omega
            · have hp : (!decide (s = k)) = false := by simpa using (same_iff s k).1 hsk
              have f3 := filter_skip (p := fun x => !decide (x = k)) hlt3 hs.out hp
              have hm4 : Hid (m3 = ((F.take (t3 + 1)).filter (fun x => !decide (x = k))).length) := by show m3 = _; rw [f3]; exact hm3.out
              clear hra4 hrf4 hrg f3
              go_wp2_with fail
              go_roundw
              case rel => exact ⟨t3 + 1, _, m3, by omega, by go_num, rfl, by omega, hm4, rfl⟩
              case measure => simp [intOf]; omega
          · have hge3 : ¬ (t3 : Int) < (F.length : Int) := by omega
            have hmA : m3 = A.length := by
              rw [hm3.out, List.take_of_length_le (by omega), hA2.out]
            have hmb : ((m3 : Int) != (A.length : Int)) = false := by rw [hmA]; simp
            clear hmA hra4
            go_wp2_with fail
            refine (sames_any _ _ F.length _ F.length _ F F _ (hrg.drewN q3) (hrf4.drewN q3) rfl rfl (by unfold maxLen; omega) (by unfold maxLen; omega)).mono ?_
            rintro e w5 ⟨rfl, hB5⟩
            have HB5 : Hid (Below w.heap.size w w5) := (below_drewN HB4.out q3).trans (hB5.mono HB4.out.size)
            clear hB5 hrg hrf4
            go_wp2_with fail
            go_ret
            exact ⟨ret_bool (by simp), HB5⟩

theorem add_in (a1 a2 : Option Addr) (n1 c1 n2 c2 : Nat) (ks ns : List ByteArray) (k : ByteArray) (w : World) (o1 : NilOr a1 n1 c1) (o2 : NilOr a2 n2 c2)
    (h1 : Row w a1 ks) (e1 : Hid (ks.length = n1)) (b1 : n1 ≤ 4096) (s1 : ∀ s ∈ ks, s.size ≤ maxLen) (h2 : Row w a2 ns) (e2 : Hid (ns.length = n2)) (b2 : n2 ≤ 4096) (s2 : ∀ s ∈ ns, s.size ≤ maxLen) (hk : k.size ≤ 1048576) :
    Calls Try.prog 4 #[.slice a1 n1 c1, .slice a2 n2 c2, .string k] w fun e w' => e = .returned (.bool true) ∧ Below w.heap.size w w' := by
  rcases o1 with p1 | ⟨x1, rfl⟩
  · rcases o2 with p2 | ⟨x2, rfl⟩
    · exact add_nn a1 a2 n1 c1 n2 c2 ks ns k w p1 p2 h1 e1 b1 s1 h2 e2 b2 s2 hk _ _ rfl rfl
    · exact add_ns a1 x2 n1 c1 n2 c2 ks ns k w p1 h1 e1 b1 s1 h2 e2 b2 s2 hk _ _ rfl rfl
  · rcases o2 with p2 | ⟨x2, rfl⟩
    · exact add_sn x1 a2 n1 c1 n2 c2 ks ns k w p2 h1 e1 b1 s1 h2 e2 b2 s2 hk _ _ rfl rfl
    · exact add_ss x1 x2 n1 c1 n2 c2 ks ns k w h1 e1 b1 s1 h2 e2 b2 s2 hk _ _ rfl rfl

set_option maxHeartbeats 1000000 in
set_option maxRecDepth 20000 in
theorem add_out (a1 a2 : Option Addr) (n1 c1 n2 c2 : Nat) (ks ns : List ByteArray) (k : ByteArray) (w : World)
    (h1 : Row w a1 ks) (e1 : Hid (ks.length = n1)) (b1 : n1 ≤ maxLen) (h2 : Row w a2 ns) (e2 : Hid (ns.length = n2)) (b2 : n2 ≤ maxLen) (ho : 4096 < n1 ∨ 4096 < n2 ∨ 1048576 < k.size) :
    Calls Try.prog 4 #[.slice a1 n1 c1, .slice a2 n2 c2, .string k] w fun e w' => e = .returned (.bool true) ∧ Below w.heap.size w w' := by
  by_cases k1 : 4096 < n1
  · have d1 : (4096 : Int) < (n1 : Int) := by omega
    go_enter Try.func4, Try.ntmps4
    go_wp2_with fail
    refine (bytes9_any _ _ n1 c1 n2 c2 ks ns k w h1 h2 e1 e2 b1 b2).mono ?_
    rintro e w' ⟨⟨r, rfl⟩, rfl⟩
    cases r
    all_goals
      go_wp2_with fail
      go_ret
      exact ⟨rfl, Below.refl _ _⟩
  by_cases k2 : 4096 < n2
  · have d1 : ¬ (4096 : Int) < (n1 : Int) := by omega
    have d2 : (4096 : Int) < (n2 : Int) := by omega
    go_enter Try.func4, Try.ntmps4
    go_wp2_with fail
    refine (bytes9_any _ _ n1 c1 n2 c2 ks ns k w h1 h2 e1 e2 b1 b2).mono ?_
    rintro e w' ⟨⟨r, rfl⟩, rfl⟩
    cases r
    all_goals
      go_wp2_with fail
      go_ret
      exact ⟨rfl, Below.refl _ _⟩
  have d1 : ¬ (4096 : Int) < (n1 : Int) := by omega
  have d2 : ¬ (4096 : Int) < (n2 : Int) := by omega
  have d3 : (1048576 : Int) < (k.size : Int) := by omega
  clear ho
  go_enter Try.func4, Try.ntmps4
  go_wp2_with fail
  refine (bytes9_any _ _ n1 c1 n2 c2 ks ns k w h1 h2 e1 e2 b1 b2).mono ?_
  rintro e w' ⟨⟨r, rfl⟩, rfl⟩
  cases r
  all_goals
    go_wp2_with fail
    go_ret
    exact ⟨rfl, Below.refl _ _⟩

theorem add_any (a1 a2 : Option Addr) (n1 c1 n2 c2 : Nat) (ks ns : List ByteArray) (k : ByteArray) (w : World) (o1 : NilOr a1 n1 c1) (o2 : NilOr a2 n2 c2)
    (h1 : Row w a1 ks) (e1 : ks.length = n1) (b1 : n1 ≤ maxLen) (s1 : ∀ s ∈ ks, s.size ≤ maxLen) (h2 : Row w a2 ns) (e2 : ns.length = n2) (b2 : n2 ≤ maxLen) (s2 : ∀ s ∈ ns, s.size ≤ maxLen) :
    Calls Try.prog 4 #[.slice a1 n1 c1, .slice a2 n2 c2, .string k] w fun e w' => e = .returned (.bool true) ∧ Below w.heap.size w w' := by
  by_cases ho : 4096 < n1 ∨ 4096 < n2 ∨ 1048576 < k.size
  · exact add_out a1 a2 n1 c1 n2 c2 ks ns k w h1 e1 b1 h2 e2 b2 ho
  · exact add_in a1 a2 n1 c1 n2 c2 ks ns k w o1 o2 h1 e1 (by omega) s1 h2 e2 (by omega) s2 (by omega)

end Go.Proofs.Qxb6617036a
