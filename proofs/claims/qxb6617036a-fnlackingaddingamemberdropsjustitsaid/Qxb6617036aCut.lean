/- The walk of FnLackingKeepsTheAbsentNamesInOrderAtAnyCut (function 3). -/
import Derived.Test.Qxb6617036aCopy
namespace Go.Proofs.Qxb6617036a
open Go.RowKit
set_option linter.unusedVariables false
set_option linter.unusedSimpArgs false

/-- nil, or an address. -/
def NilOr (a : Option Addr) (n c : Nat) : Prop := (a = none ∧ n = 0 ∧ c = 0) ∨ ∃ x, a = some x

theorem nil_to {a : Option Addr} {n c i : Nat} (ha : a = none ∧ n = 0 ∧ c = 0) (hi : i ≤ n) : ∃ ad, (∀ w, (Instr.slice 22 (.slice a n c) none (some (.int .i64 (i : Int))) none).run Try.prog w = .ok (.slice ad i c) w) ∧
    (∀ w ss, ss.length = n → Row w a ss → Row w ad (ss.take i)) := by
  obtain ⟨rfl, rfl, rfl⟩ := ha
  exact slice_nil_to i hi

theorem nil_from {a : Option Addr} {n c i : Nat} (ha : a = none ∧ n = 0 ∧ c = 0) (hi : i ≤ n) : ∃ ad, (∀ w, (Instr.slice 22 (.slice a n c) (some (.int .i64 (i : Int))) none none).run Try.prog w = .ok (.slice ad (n - i) (c - i)) w) ∧
    (∀ w ss, ss.length = n → Row w a ss → Row w ad (ss.drop i)) := by
  obtain ⟨rfl, rfl, rfl⟩ := ha
  exact slice_nil_from i hi

set_option maxHeartbeats 4000000 in
set_option maxRecDepth 20000 in
theorem cut_ss (x1 : Addr) (x2 : Addr) (n1 c1 n2 c2 : Nat) (ks ns : List ByteArray) (i : Nat) (w : World)
    (h1 : Row w (some x1) ks) (e1 : Hid (ks.length = n1)) (b1 : n1 ≤ 4096) (s1 : ∀ s ∈ ks, s.size ≤ maxLen) (h2 : Row w (some x2) ns) (e2 : Hid (ns.length = n2)) (b2 : n2 ≤ 4096) (s2 : ∀ s ∈ ns, s.size ≤ maxLen) (hi : i ≤ n2)
    (W L R : List ByteArray) (hW : Hid (ns.filter (fun x => !mem ks x) = W)) (hL : Hid ((ns.take i).filter (fun x => !mem ks x) = L)) (hR : Hid ((ns.drop i).filter (fun x => !mem ks x) = R)) :
    Calls Try.prog 3 #[.slice (some x1) n1 c1, .slice (some x2) n2 c2, .int .i64 i] w fun e w' => e = .returned (.bool true) ∧ Below w.heap.size w w' := by
  have hneq : ∀ (w : World) (a : Option Addr) (n c : Nat), (binOp .neq 22 (.slice a n c) (.slice none 0 0)).run Try.prog w = .ok (.bool (!a.isNone)) w := fun w a n c => run_neq_slice_nil_any w 22 9 a n c 0 0 Try.underlying22
  have heql : ∀ (w : World) (a : Option Addr) (n c : Nat), (binOp .eql 22 (.slice a n c) (.slice none 0 0)).run Try.prog w = .ok (.bool a.isNone) w := fun w a n c => Lib.run_eql_slice_nil w 22 9 a n c 0 0 Try.underlying22
  have hm1 := make_strs n1 (by omega)
  have hm2 := make_strs n2 (by omega)
  have i1 : (n1 : Int) ≤ 4096 := by omega
  have i2 : (n2 : Int) ≤ 4096 := by omega
  have i3 : (i : Int) ≤ (n2 : Int) := by omega
  have d1 : decide ((4096 : Int) < (n1 : Int)) = false := by simp; omega
  have d2 : decide ((4096 : Int) < (n2 : Int)) = false := by simp; omega
  have d3 : decide ((i : Int) < 0) = false := by simp
  have d4 : decide (n2 < i) = false := by simp; omega
  have e3 : Hid ((ns.take i).length = i) := by have := e2.out; show (ns.take i).length = i; simp; omega
  have e4 : Hid ((ns.drop i).length = n2 - i) := by have := e2.out; show (ns.drop i).length = n2 - i; simp; omega
  have HWLR : Hid (W = L ++ R) := by show W = L ++ R; rw [← hW.out, ← hL.out, ← hR.out, ← List.filter_append, List.take_append_drop]
  have hLn : L.length ≤ 4096 := by rw [← hL.out]; have h1 := List.length_filter_le (fun x => !mem ks x) (ns.take i); have := e3.out; omega
  have hRn : R.length ≤ 4096 := by rw [← hR.out]; have h1 := List.length_filter_le (fun x => !mem ks x) (ns.drop i); have := e4.out; omega
  have hWn : W.length ≤ 4096 := by rw [← hW.out]; have h1 := List.length_filter_le (fun x => !mem ks x) ns; have := e2.out; omega
  have g1 : ((W.length : Int) != (L.length : Int) + (R.length : Int)) = false := by rw [HWLR.out]; simp
  obtain ⟨t, ht⟩ : ∃ t : Bool, t = W.isEmpty := ⟨_, rfl⟩
  have g2 : ((W.length : Int) == 0) = t := by rw [ht]; cases W <;> simp <;> omega
  have HT : Hid (W.isEmpty = t) := ht.symm
  clear ht
  obtain ⟨u1, hc1, hr1, hB1⟩ := copy_same w n1 c1 x1 ks e1.out h1
  obtain ⟨u2, hc2, hr2, hB2⟩ := copy_same u1 n2 c2 x2 ns e2.out (h2.below hB1)
  have hrk := hr1.below hB2
  have HB : Hid (Below w.heap.size w u2) := hB1.trans (hB2.mono hB1.size)
  clear hr1 hB1 hB2
  obtain ⟨adp, hsp, hrowp⟩ := slice_to u1.heap.size n2 i hi
  obtain ⟨ad3, hsl, hrow3⟩ := slice_from u1.heap.size n2 i hi
  go_enter Try.func3, Try.ntmps3
  go_wp2_with fail
  refine (bytes5_any _ _ n1 c1 n2 c2 ks ns i w h1 h2 e1 e2 (by unfold maxLen; omega) (by unfold maxLen; omega)).mono ?_
  rintro e w' ⟨⟨r, rfl⟩, rfl⟩
  cases r
  · go_wp2_with fail
    go_ret
    exact ⟨rfl, Below.refl _ _⟩
  go_wp2_with fail
  refine (fit_any _ _ n1 c1 n2 c2 ks ns 0 w h1 h2 e1 e2 (by unfold maxLen; omega) (by unfold maxLen; omega)).mono ?_
  rintro e w' ⟨⟨r, rfl⟩, rfl⟩
  cases r
  · go_wp2_with fail
    go_ret
    exact ⟨rfl, Below.refl _ _⟩
  clear h1 h2
  go_wp2_with fail
  refine (zzlacking_row _ _ n1 _ n2 _ ks ns W _ hrk e1 (by omega) s1 hr2 e2 b2 s2 hW).mono ?_
  rintro e w1 ⟨aw, cw, rfl, hrw, hnw, hBa⟩
  have hrk1 := hrk.below hBa
  have hrn1 := hr2.below hBa
  have HB1 : Hid (Below w.heap.size w w1) := HB.out.trans (hBa.mono HB.out.size)
  clear hrk hr2 HB hBa
  go_wp2_with fail
  refine (zzlacking_row _ _ n1 _ i _ ks (ns.take i) L _ hrk1 e1 (by omega) s1 (hrowp _ _ e2.out hrn1) e3 (by omega) (fun s hs => s2 s (List.mem_of_mem_take hs)) hL).mono ?_
  rintro e w2 ⟨al, cl, rfl, hrl, _, hBb⟩
  have hrk2 := hrk1.below hBb
  have hrn2 := hrn1.below hBb
  have hrw2 := hrw.below hBb
  have HB2 : Hid (Below w.heap.size w w2) := HB1.out.trans (hBb.mono HB1.out.size)
  clear hrk1 hrn1 hrw HB1 hBb hsp hrowp
  go_wp2_with fail
  refine (zzlacking_row _ _ n1 _ (n2 - i) _ ks (ns.drop i) R _ hrk2 e1 (by omega) s1 (hrow3 _ _ e2.out hrn2) e4 (by omega) (fun s hs => s2 s (List.mem_of_mem_drop hs)) hR).mono ?_
  rintro e w3 ⟨ar, cr, rfl, hrr, _, hBc⟩
  have hrk3 := hrk2.below hBc
  have hrn3 := hrn2.below hBc
  have hrw3 := hrw2.below hBc
  have hrl3 := hrl.below hBc
  have HB3 : Hid (Below w.heap.size w w3) := HB2.out.trans (hBc.mono HB2.out.size)
  have hnw2 : aw.isNone = t := hnw.trans HT.out
  clear hrk2 hrn2 hrw2 hrl HB2 hBc hsl hrow3 hnw HT s1 s2
  go_wp2_with fail
  go_loopw [12] (fun jv wr => ∃ k q : Nat, k ≤ L.length ∧ jv = .int .i64 k ∧ wr = w3.drewN q) (fun jv _ => L.length - (intOf jv).toNat)
  case atStart => exact ⟨0, 0, Nat.zero_le _, rfl, rfl⟩
  case round =>
    obtain ⟨k, q, hk, rfl, rfl⟩ := hrel
    by_cases hlt : k < L.length
    · obtain ⟨b, off, b', off', s, rfl, rfl, hc, hc', _⟩ := hrw3.both hrl3 (i := k) (j := k) (by rw [HWLR.out]; simp; omega) hlt (by rw [HWLR.out]; exact getD_left hlt)
      have hlt' : (k : Int) < (L.length : Int) := by omega
      have hltw : (k : Int) < (W.length : Int) := by rw [HWLR.out]; simp; omega
      clear hrw3 hrl3 hrr hrk3 hrn3
      go_wp2_with fail
      go_quiet (fail)
      go_wp2_with fail
      go_roundw
      case rel => exact ⟨k + 1, _, by omega, by go_num, rfl⟩
      case measure => simp [intOf]; omega
    · have hge : ¬ (k : Int) < (L.length : Int) := by omega
      go_wp2_with fail
      go_loopw [13] (fun jv wr => ∃ k q : Nat, k ≤ R.length ∧ jv = .int .i64 k ∧ wr = w3.drewN q) (fun jv _ => R.length - (intOf jv).toNat)
      case atStart => exact ⟨0, q, Nat.zero_le _, rfl, rfl⟩
      case round =>
        obtain ⟨k2, q2, hk2, rfl, rfl⟩ := hrel
        by_cases hlt2 : k2 < R.length
        · obtain ⟨b, off, b', off', s, rfl, rfl, hc, hc', _⟩ := hrw3.both hrr (i := L.length + k2) (j := k2) (by rw [HWLR.out]; simp; omega) hlt2 (by rw [HWLR.out]; exact getD_right hlt2)
          have hlt2' : (k2 : Int) < (R.length : Int) := by omega
          have hltw : (L.length : Int) + (k2 : Int) < (W.length : Int) := by rw [HWLR.out]; simp; omega
          clear hrw3 hrl3 hrr hrk3 hrn3
          go_wp2_with fail
          go_quiet (fail)
          go_wp2_with fail
          go_roundw
          case rel => exact ⟨k2 + 1, _, by omega, by go_num, rfl⟩
          case measure => simp [intOf]; omega
        · have hge2 : ¬ (k2 : Int) < (R.length : Int) := by omega
          clear hrl3 hrr
          go_wp2_with fail
          go_loopw [14, 15] (fun nv jv wr => ∃ k q m : Nat, k ≤ n2 ∧ jv = .int .i64 k ∧ nv = .int .i64 m ∧ Hid (m = ((ns.take k).filter (fun x => !mem ks x)).length) ∧ wr = w3.drewN q) (fun _ jv _ => n2 - (intOf jv).toNat)
          case atStart => exact ⟨0, q2, 0, Nat.zero_le _, rfl, rfl, rfl, rfl⟩
          case round =>
            obtain ⟨k3, q3, m, hk3, rfl, rfl, hm, rfl⟩ := hrel
            by_cases hlt3 : k3 < n2
            · have hjl : k3 < ns.length := by rw [e2.out]; exact hlt3
              obtain ⟨b, off, s, hA2, hc, hs⟩ := hrn3.at (i := k3) hjl
              simp at hA2
              obtain ⟨rfl, rfl⟩ := hA2
              rw [Nat.zero_add] at hc
              have hlt3' : (k3 : Int) < (n2 : Int) := by omega
              clear hrn3
              cases hmem : mem ks s
              · have hp : (!mem ks s) = true := by rw [hmem]; rfl
                obtain ⟨f1, f2, f3⟩ := filter_at (p := fun x => !mem ks x) hjl hs.out hp
                rw [← hm.out, hW.out] at f1 f2
                obtain ⟨b', off', s', rfl, hcw, hs'⟩ := hrw3.at f1
                have : s' = s := by rw [hs'.out, f2]
                subst this
                have hd : decide (W.length ≤ m) = false := by simp; omega
                have hmw : (m : Int) < (W.length : Int) := by omega
                have hm2 : Hid (m + 1 = ((ns.take (k3 + 1)).filter (fun x => !mem ks x)).length) := by show m + 1 = _; rw [f3, List.length_append, ← hm.out]; rfl
                clear hrw3 f2 f3 f1
                go_wp2_with fail
                refine (member_any _ n1 _ ks s' _ (hrk3.drewN q3) e1 (by unfold maxLen; omega)).mono ?_
                rintro e w' ⟨rfl, rfl⟩
                go_wp2_with fail
                go_quiet (fail)
                go_wp2_with fail
                go_roundw
                case rel => exact ⟨k3 + 1, _, m + 1, by omega, by go_num, by go_num, hm2, rfl⟩
                case measure => simp [intOf]; omega
              · have hp : (!mem ks s) = false := by rw [hmem]; rfl
                have f3 := filter_skip (p := fun x => !mem ks x) hjl hs.out hp
                have hm2 : Hid (m = ((ns.take (k3 + 1)).filter (fun x => !mem ks x)).length) := by show m = _; rw [f3]; exact hm.out
                clear hrw3 f3
                go_wp2_with fail
                refine (member_any _ n1 _ ks s _ (hrk3.drewN q3) e1 (by unfold maxLen; omega)).mono ?_
                rintro e w' ⟨rfl, rfl⟩
                go_wp2_with fail
                go_roundw
                case rel => exact ⟨k3 + 1, _, m, by omega, by go_num, rfl, hm2, rfl⟩
                case measure => simp [intOf]; omega
            · have hge3 : ¬ (k3 : Int) < (n2 : Int) := by omega
              have hmW : m = W.length := by
                rw [hm.out, List.take_of_length_le (by have := e2.out; omega), hW.out]
              have hmb : ((m : Int) == (W.length : Int)) = true := by rw [hmW]; simp
              clear hmW hrn3 hrk3 hrw3
              go_wp2_with fail
              go_ret
              exact ⟨rfl, below_drewN HB3.out _⟩

set_option maxHeartbeats 4000000 in
set_option maxRecDepth 20000 in
theorem cut_ns (a1 : Option Addr) (x2 : Addr) (n1 c1 n2 c2 : Nat) (ks ns : List ByteArray) (i : Nat) (w : World) (p1 : a1 = none ∧ n1 = 0 ∧ c1 = 0)
    (h1 : Row w a1 ks) (e1 : Hid (ks.length = n1)) (b1 : n1 ≤ 4096) (s1 : ∀ s ∈ ks, s.size ≤ maxLen) (h2 : Row w (some x2) ns) (e2 : Hid (ns.length = n2)) (b2 : n2 ≤ 4096) (s2 : ∀ s ∈ ns, s.size ≤ maxLen) (hi : i ≤ n2)
    (W L R : List ByteArray) (hW : Hid (ns.filter (fun x => !mem ks x) = W)) (hL : Hid ((ns.take i).filter (fun x => !mem ks x) = L)) (hR : Hid ((ns.drop i).filter (fun x => !mem ks x) = R)) :
    Calls Try.prog 3 #[.slice a1 n1 c1, .slice (some x2) n2 c2, .int .i64 i] w fun e w' => e = .returned (.bool true) ∧ Below w.heap.size w w' := by
  have hneq : ∀ (w : World) (a : Option Addr) (n c : Nat), (binOp .neq 22 (.slice a n c) (.slice none 0 0)).run Try.prog w = .ok (.bool (!a.isNone)) w := fun w a n c => run_neq_slice_nil_any w 22 9 a n c 0 0 Try.underlying22
  have heql : ∀ (w : World) (a : Option Addr) (n c : Nat), (binOp .eql 22 (.slice a n c) (.slice none 0 0)).run Try.prog w = .ok (.bool a.isNone) w := fun w a n c => Lib.run_eql_slice_nil w 22 9 a n c 0 0 Try.underlying22
  have hm2 := make_strs n2 (by omega)
  have i1 : (n1 : Int) ≤ 4096 := by omega
  have i2 : (n2 : Int) ≤ 4096 := by omega
  have i3 : (i : Int) ≤ (n2 : Int) := by omega
  have d1 : decide ((4096 : Int) < (n1 : Int)) = false := by simp; omega
  have d2 : decide ((4096 : Int) < (n2 : Int)) = false := by simp; omega
  have d3 : decide ((i : Int) < 0) = false := by simp
  have d4 : decide (n2 < i) = false := by simp; omega
  have e3 : Hid ((ns.take i).length = i) := by have := e2.out; show (ns.take i).length = i; simp; omega
  have e4 : Hid ((ns.drop i).length = n2 - i) := by have := e2.out; show (ns.drop i).length = n2 - i; simp; omega
  have HWLR : Hid (W = L ++ R) := by show W = L ++ R; rw [← hW.out, ← hL.out, ← hR.out, ← List.filter_append, List.take_append_drop]
  have hLn : L.length ≤ 4096 := by rw [← hL.out]; have h1 := List.length_filter_le (fun x => !mem ks x) (ns.take i); have := e3.out; omega
  have hRn : R.length ≤ 4096 := by rw [← hR.out]; have h1 := List.length_filter_le (fun x => !mem ks x) (ns.drop i); have := e4.out; omega
  have hWn : W.length ≤ 4096 := by rw [← hW.out]; have h1 := List.length_filter_le (fun x => !mem ks x) ns; have := e2.out; omega
  have g1 : ((W.length : Int) != (L.length : Int) + (R.length : Int)) = false := by rw [HWLR.out]; simp
  obtain ⟨t, ht⟩ : ∃ t : Bool, t = W.isEmpty := ⟨_, rfl⟩
  have g2 : ((W.length : Int) == 0) = t := by rw [ht]; cases W <;> simp <;> omega
  have HT : Hid (W.isEmpty = t) := ht.symm
  clear ht
  have q1 : a1.isNone = true := by rw [p1.1]; rfl
  clear p1
  obtain ⟨u2, hc2, hr2, hB2⟩ := copy_same w n2 c2 x2 ns e2.out h2
  have hrk := h1.below hB2
  have HB : Hid (Below w.heap.size w u2) := hB2
  clear hB2
  obtain ⟨adp, hsp, hrowp⟩ := slice_to w.heap.size n2 i hi
  obtain ⟨ad3, hsl, hrow3⟩ := slice_from w.heap.size n2 i hi
  go_enter Try.func3, Try.ntmps3
  go_wp2_with fail
  refine (bytes5_any _ _ n1 c1 n2 c2 ks ns i w h1 h2 e1 e2 (by unfold maxLen; omega) (by unfold maxLen; omega)).mono ?_
  rintro e w' ⟨⟨r, rfl⟩, rfl⟩
  cases r
  · go_wp2_with fail
    go_ret
    exact ⟨rfl, Below.refl _ _⟩
  go_wp2_with fail
  refine (fit_any _ _ n1 c1 n2 c2 ks ns 0 w h1 h2 e1 e2 (by unfold maxLen; omega) (by unfold maxLen; omega)).mono ?_
  rintro e w' ⟨⟨r, rfl⟩, rfl⟩
  cases r
  · go_wp2_with fail
    go_ret
    exact ⟨rfl, Below.refl _ _⟩
  clear h1 h2
  go_wp2_with fail
  refine (zzlacking_row _ _ n1 _ n2 _ ks ns W _ hrk e1 (by omega) s1 hr2 e2 b2 s2 hW).mono ?_
  rintro e w1 ⟨aw, cw, rfl, hrw, hnw, hBa⟩
  have hrk1 := hrk.below hBa
  have hrn1 := hr2.below hBa
  have HB1 : Hid (Below w.heap.size w w1) := HB.out.trans (hBa.mono HB.out.size)
  clear hrk hr2 HB hBa
  go_wp2_with fail
  refine (zzlacking_row _ _ n1 _ i _ ks (ns.take i) L _ hrk1 e1 (by omega) s1 (hrowp _ _ e2.out hrn1) e3 (by omega) (fun s hs => s2 s (List.mem_of_mem_take hs)) hL).mono ?_
  rintro e w2 ⟨al, cl, rfl, hrl, _, hBb⟩
  have hrk2 := hrk1.below hBb
  have hrn2 := hrn1.below hBb
  have hrw2 := hrw.below hBb
  have HB2 : Hid (Below w.heap.size w w2) := HB1.out.trans (hBb.mono HB1.out.size)
  clear hrk1 hrn1 hrw HB1 hBb hsp hrowp
  go_wp2_with fail
  refine (zzlacking_row _ _ n1 _ (n2 - i) _ ks (ns.drop i) R _ hrk2 e1 (by omega) s1 (hrow3 _ _ e2.out hrn2) e4 (by omega) (fun s hs => s2 s (List.mem_of_mem_drop hs)) hR).mono ?_
  rintro e w3 ⟨ar, cr, rfl, hrr, _, hBc⟩
  have hrk3 := hrk2.below hBc
  have hrn3 := hrn2.below hBc
  have hrw3 := hrw2.below hBc
  have hrl3 := hrl.below hBc
  have HB3 : Hid (Below w.heap.size w w3) := HB2.out.trans (hBc.mono HB2.out.size)
  have hnw2 : aw.isNone = t := hnw.trans HT.out
  clear hrk2 hrn2 hrw2 hrl HB2 hBc hsl hrow3 hnw HT s1 s2
  go_wp2_with fail
  go_loopw [12] (fun jv wr => ∃ k q : Nat, k ≤ L.length ∧ jv = .int .i64 k ∧ wr = w3.drewN q) (fun jv _ => L.length - (intOf jv).toNat)
  case atStart => exact ⟨0, 0, Nat.zero_le _, rfl, rfl⟩
  case round =>
    obtain ⟨k, q, hk, rfl, rfl⟩ := hrel
    by_cases hlt : k < L.length
    · obtain ⟨b, off, b', off', s, rfl, rfl, hc, hc', _⟩ := hrw3.both hrl3 (i := k) (j := k) (by rw [HWLR.out]; simp; omega) hlt (by rw [HWLR.out]; exact getD_left hlt)
      have hlt' : (k : Int) < (L.length : Int) := by omega
      have hltw : (k : Int) < (W.length : Int) := by rw [HWLR.out]; simp; omega
      clear hrw3 hrl3 hrr hrk3 hrn3
      go_wp2_with fail
      go_quiet (fail)
      go_wp2_with fail
      go_roundw
      case rel => exact ⟨k + 1, _, by omega, by go_num, rfl⟩
      case measure => simp [intOf]; omega
    · have hge : ¬ (k : Int) < (L.length : Int) := by omega
      go_wp2_with fail
      go_loopw [13] (fun jv wr => ∃ k q : Nat, k ≤ R.length ∧ jv = .int .i64 k ∧ wr = w3.drewN q) (fun jv _ => R.length - (intOf jv).toNat)
      case atStart => exact ⟨0, q, Nat.zero_le _, rfl, rfl⟩
      case round =>
        obtain ⟨k2, q2, hk2, rfl, rfl⟩ := hrel
        by_cases hlt2 : k2 < R.length
        · obtain ⟨b, off, b', off', s, rfl, rfl, hc, hc', _⟩ := hrw3.both hrr (i := L.length + k2) (j := k2) (by rw [HWLR.out]; simp; omega) hlt2 (by rw [HWLR.out]; exact getD_right hlt2)
          have hlt2' : (k2 : Int) < (R.length : Int) := by omega
          have hltw : (L.length : Int) + (k2 : Int) < (W.length : Int) := by rw [HWLR.out]; simp; omega
          clear hrw3 hrl3 hrr hrk3 hrn3
          go_wp2_with fail
          go_quiet (fail)
          go_wp2_with fail
          go_roundw
          case rel => exact ⟨k2 + 1, _, by omega, by go_num, rfl⟩
          case measure => simp [intOf]; omega
        · have hge2 : ¬ (k2 : Int) < (R.length : Int) := by omega
          clear hrl3 hrr
          go_wp2_with fail
          go_loopw [14, 15] (fun nv jv wr => ∃ k q m : Nat, k ≤ n2 ∧ jv = .int .i64 k ∧ nv = .int .i64 m ∧ Hid (m = ((ns.take k).filter (fun x => !mem ks x)).length) ∧ wr = w3.drewN q) (fun _ jv _ => n2 - (intOf jv).toNat)
          case atStart => exact ⟨0, q2, 0, Nat.zero_le _, rfl, rfl, rfl, rfl⟩
          case round =>
            obtain ⟨k3, q3, m, hk3, rfl, rfl, hm, rfl⟩ := hrel
            by_cases hlt3 : k3 < n2
            · have hjl : k3 < ns.length := by rw [e2.out]; exact hlt3
              obtain ⟨b, off, s, hA2, hc, hs⟩ := hrn3.at (i := k3) hjl
              simp at hA2
              obtain ⟨rfl, rfl⟩ := hA2
              rw [Nat.zero_add] at hc
              have hlt3' : (k3 : Int) < (n2 : Int) := by omega
              clear hrn3
              cases hmem : mem ks s
              · have hp : (!mem ks s) = true := by rw [hmem]; rfl
                obtain ⟨f1, f2, f3⟩ := filter_at (p := fun x => !mem ks x) hjl hs.out hp
                rw [← hm.out, hW.out] at f1 f2
                obtain ⟨b', off', s', rfl, hcw, hs'⟩ := hrw3.at f1
                have : s' = s := by rw [hs'.out, f2]
                subst this
                have hd : decide (W.length ≤ m) = false := by simp; omega
                have hmw : (m : Int) < (W.length : Int) := by omega
                have hm2 : Hid (m + 1 = ((ns.take (k3 + 1)).filter (fun x => !mem ks x)).length) := by show m + 1 = _; rw [f3, List.length_append, ← hm.out]; rfl
                clear hrw3 f2 f3 f1
                go_wp2_with fail
                refine (member_any _ n1 _ ks s' _ (hrk3.drewN q3) e1 (by unfold maxLen; omega)).mono ?_
                rintro e w' ⟨rfl, rfl⟩
                go_wp2_with fail
                go_quiet (fail)
                go_wp2_with fail
                go_roundw
                case rel => exact ⟨k3 + 1, _, m + 1, by omega, by go_num, by go_num, hm2, rfl⟩
                case measure => simp [intOf]; omega
              · have hp : (!mem ks s) = false := by rw [hmem]; rfl
                have f3 := filter_skip (p := fun x => !mem ks x) hjl hs.out hp
                have hm2 : Hid (m = ((ns.take (k3 + 1)).filter (fun x => !mem ks x)).length) := by show m = _; rw [f3]; exact hm.out
                clear hrw3 f3
                go_wp2_with fail
                refine (member_any _ n1 _ ks s _ (hrk3.drewN q3) e1 (by unfold maxLen; omega)).mono ?_
                rintro e w' ⟨rfl, rfl⟩
                go_wp2_with fail
                go_roundw
                case rel => exact ⟨k3 + 1, _, m, by omega, by go_num, rfl, hm2, rfl⟩
                case measure => simp [intOf]; omega
            · have hge3 : ¬ (k3 : Int) < (n2 : Int) := by omega
              have hmW : m = W.length := by
                rw [hm.out, List.take_of_length_le (by have := e2.out; omega), hW.out]
              have hmb : ((m : Int) == (W.length : Int)) = true := by rw [hmW]; simp
              clear hmW hrn3 hrk3 hrw3
              go_wp2_with fail
              go_ret
              exact ⟨rfl, below_drewN HB3.out _⟩

set_option maxHeartbeats 4000000 in
set_option maxRecDepth 20000 in
theorem cut_sn (x1 : Addr) (a2 : Option Addr) (n1 c1 n2 c2 : Nat) (ks ns : List ByteArray) (i : Nat) (w : World) (p2 : Hid (a2 = none ∧ n2 = 0 ∧ c2 = 0))
    (h1 : Row w (some x1) ks) (e1 : Hid (ks.length = n1)) (b1 : n1 ≤ 4096) (s1 : ∀ s ∈ ks, s.size ≤ maxLen) (h2 : Row w a2 ns) (e2 : Hid (ns.length = n2)) (b2 : n2 ≤ 4096) (s2 : ∀ s ∈ ns, s.size ≤ maxLen) (hi : i ≤ n2)
    (W L R : List ByteArray) (hW : Hid (ns.filter (fun x => !mem ks x) = W)) (hL : Hid ((ns.take i).filter (fun x => !mem ks x) = L)) (hR : Hid ((ns.drop i).filter (fun x => !mem ks x) = R)) :
    Calls Try.prog 3 #[.slice (some x1) n1 c1, .slice a2 n2 c2, .int .i64 i] w fun e w' => e = .returned (.bool true) ∧ Below w.heap.size w w' := by
  have hneq : ∀ (w : World) (a : Option Addr) (n c : Nat), (binOp .neq 22 (.slice a n c) (.slice none 0 0)).run Try.prog w = .ok (.bool (!a.isNone)) w := fun w a n c => run_neq_slice_nil_any w 22 9 a n c 0 0 Try.underlying22
  have heql : ∀ (w : World) (a : Option Addr) (n c : Nat), (binOp .eql 22 (.slice a n c) (.slice none 0 0)).run Try.prog w = .ok (.bool a.isNone) w := fun w a n c => Lib.run_eql_slice_nil w 22 9 a n c 0 0 Try.underlying22
  have hm1 := make_strs n1 (by omega)
  have i1 : (n1 : Int) ≤ 4096 := by omega
  have i2 : (n2 : Int) ≤ 4096 := by omega
  have i3 : (i : Int) ≤ (n2 : Int) := by omega
  have d1 : decide ((4096 : Int) < (n1 : Int)) = false := by simp; omega
  have d2 : decide ((4096 : Int) < (n2 : Int)) = false := by simp; omega
  have d3 : decide ((i : Int) < 0) = false := by simp
  have d4 : decide (n2 < i) = false := by simp; omega
  have e3 : Hid ((ns.take i).length = i) := by have := e2.out; show (ns.take i).length = i; simp; omega
  have e4 : Hid ((ns.drop i).length = n2 - i) := by have := e2.out; show (ns.drop i).length = n2 - i; simp; omega
  have HWLR : Hid (W = L ++ R) := by show W = L ++ R; rw [← hW.out, ← hL.out, ← hR.out, ← List.filter_append, List.take_append_drop]
  have hLn : L.length ≤ 4096 := by rw [← hL.out]; have h1 := List.length_filter_le (fun x => !mem ks x) (ns.take i); have := e3.out; omega
  have hRn : R.length ≤ 4096 := by rw [← hR.out]; have h1 := List.length_filter_le (fun x => !mem ks x) (ns.drop i); have := e4.out; omega
  have hWn : W.length ≤ 4096 := by rw [← hW.out]; have h1 := List.length_filter_le (fun x => !mem ks x) ns; have := e2.out; omega
  have g1 : ((W.length : Int) != (L.length : Int) + (R.length : Int)) = false := by rw [HWLR.out]; simp
  obtain ⟨t, ht⟩ : ∃ t : Bool, t = W.isEmpty := ⟨_, rfl⟩
  have g2 : ((W.length : Int) == 0) = t := by rw [ht]; cases W <;> simp <;> omega
  have HT : Hid (W.isEmpty = t) := ht.symm
  clear ht
  have q2 : a2.isNone = true := by rw [p2.out.1]; rfl
  obtain ⟨u1, hc1, hr1, hB1⟩ := copy_same w n1 c1 x1 ks e1.out h1
  have hrk := hr1
  have hr2 := h2.below hB1
  have HB : Hid (Below w.heap.size w u1) := hB1
  clear hr1 hB1
  obtain ⟨adp, hsp, hrowp⟩ := nil_to p2.out hi
  obtain ⟨ad3, hsl, hrow3⟩ := nil_from p2.out hi
  go_enter Try.func3, Try.ntmps3
  go_wp2_with fail
  refine (bytes5_any _ _ n1 c1 n2 c2 ks ns i w h1 h2 e1 e2 (by unfold maxLen; omega) (by unfold maxLen; omega)).mono ?_
  rintro e w' ⟨⟨r, rfl⟩, rfl⟩
  cases r
  · go_wp2_with fail
    go_ret
    exact ⟨rfl, Below.refl _ _⟩
  go_wp2_with fail
  refine (fit_any _ _ n1 c1 n2 c2 ks ns 0 w h1 h2 e1 e2 (by unfold maxLen; omega) (by unfold maxLen; omega)).mono ?_
  rintro e w' ⟨⟨r, rfl⟩, rfl⟩
  cases r
  · go_wp2_with fail
    go_ret
    exact ⟨rfl, Below.refl _ _⟩
  clear h1 h2
  go_wp2_with fail
  refine (zzlacking_row _ _ n1 _ n2 _ ks ns W _ hrk e1 (by omega) s1 hr2 e2 b2 s2 hW).mono ?_
  rintro e w1 ⟨aw, cw, rfl, hrw, hnw, hBa⟩
  have hrk1 := hrk.below hBa
  have hrn1 := hr2.below hBa
  have HB1 : Hid (Below w.heap.size w w1) := HB.out.trans (hBa.mono HB.out.size)
  clear hrk hr2 HB hBa
  go_wp2_with fail
  refine (zzlacking_row _ _ n1 _ i _ ks (ns.take i) L _ hrk1 e1 (by omega) s1 (hrowp _ _ e2.out hrn1) e3 (by omega) (fun s hs => s2 s (List.mem_of_mem_take hs)) hL).mono ?_
  rintro e w2 ⟨al, cl, rfl, hrl, _, hBb⟩
  have hrk2 := hrk1.below hBb
  have hrn2 := hrn1.below hBb
  have hrw2 := hrw.below hBb
  have HB2 : Hid (Below w.heap.size w w2) := HB1.out.trans (hBb.mono HB1.out.size)
  clear hrk1 hrn1 hrw HB1 hBb hsp hrowp
  go_wp2_with fail
  refine (zzlacking_row _ _ n1 _ (n2 - i) _ ks (ns.drop i) R _ hrk2 e1 (by omega) s1 (hrow3 _ _ e2.out hrn2) e4 (by omega) (fun s hs => s2 s (List.mem_of_mem_drop hs)) hR).mono ?_
  rintro e w3 ⟨ar, cr, rfl, hrr, _, hBc⟩
  have hrk3 := hrk2.below hBc
  have hrn3 := hrn2.below hBc
  have hrw3 := hrw2.below hBc
  have hrl3 := hrl.below hBc
  have HB3 : Hid (Below w.heap.size w w3) := HB2.out.trans (hBc.mono HB2.out.size)
  have hnw2 : aw.isNone = t := hnw.trans HT.out
  clear hrk2 hrn2 hrw2 hrl HB2 hBc hsl hrow3 hnw HT s1 s2
  go_wp2_with fail
  go_loopw [12] (fun jv wr => ∃ k q : Nat, k ≤ L.length ∧ jv = .int .i64 k ∧ wr = w3.drewN q) (fun jv _ => L.length - (intOf jv).toNat)
  case atStart => exact ⟨0, 0, Nat.zero_le _, rfl, rfl⟩
  case round =>
    obtain ⟨k, q, hk, rfl, rfl⟩ := hrel
    by_cases hlt : k < L.length
    · obtain ⟨b, off, b', off', s, rfl, rfl, hc, hc', _⟩ := hrw3.both hrl3 (i := k) (j := k) (by rw [HWLR.out]; simp; omega) hlt (by rw [HWLR.out]; exact getD_left hlt)
      have hlt' : (k : Int) < (L.length : Int) := by omega
      have hltw : (k : Int) < (W.length : Int) := by rw [HWLR.out]; simp; omega
      clear hrw3 hrl3 hrr hrk3 hrn3
      go_wp2_with fail
      go_quiet (fail)
      go_wp2_with fail
      go_roundw
      case rel => exact ⟨k + 1, _, by omega, by go_num, rfl⟩
      case measure => simp [intOf]; omega
    · have hge : ¬ (k : Int) < (L.length : Int) := by omega
      go_wp2_with fail
      go_loopw [13] (fun jv wr => ∃ k q : Nat, k ≤ R.length ∧ jv = .int .i64 k ∧ wr = w3.drewN q) (fun jv _ => R.length - (intOf jv).toNat)
      case atStart => exact ⟨0, q, Nat.zero_le _, rfl, rfl⟩
      case round =>
        obtain ⟨k2, q2, hk2, rfl, rfl⟩ := hrel
        by_cases hlt2 : k2 < R.length
        · obtain ⟨b, off, b', off', s, rfl, rfl, hc, hc', _⟩ := hrw3.both hrr (i := L.length + k2) (j := k2) (by rw [HWLR.out]; simp; omega) hlt2 (by rw [HWLR.out]; exact getD_right hlt2)
          have hlt2' : (k2 : Int) < (R.length : Int) := by omega
          have hltw : (L.length : Int) + (k2 : Int) < (W.length : Int) := by rw [HWLR.out]; simp; omega
          clear hrw3 hrl3 hrr hrk3 hrn3
          go_wp2_with fail
          go_quiet (fail)
          go_wp2_with fail
          go_roundw
          case rel => exact ⟨k2 + 1, _, by omega, by go_num, rfl⟩
          case measure => simp [intOf]; omega
        · have hge2 : ¬ (k2 : Int) < (R.length : Int) := by omega
          clear hrl3 hrr
          go_wp2_with fail
          go_loopw [14, 15] (fun nv jv wr => ∃ k q m : Nat, k ≤ n2 ∧ jv = .int .i64 k ∧ nv = .int .i64 m ∧ Hid (m = ((ns.take k).filter (fun x => !mem ks x)).length) ∧ wr = w3.drewN q) (fun _ jv _ => n2 - (intOf jv).toNat)
          case atStart => exact ⟨0, q2, 0, Nat.zero_le _, rfl, rfl, rfl, rfl⟩
          case round =>
            obtain ⟨k3, q3, m, hk3, rfl, rfl, hm, rfl⟩ := hrel
            by_cases hlt3 : k3 < n2
            · exact absurd hlt3 (by have := p2.out.2.1; omega)
            · have hge3 : ¬ (k3 : Int) < (n2 : Int) := by omega
              have hmW : m = W.length := by
                rw [hm.out, List.take_of_length_le (by have := e2.out; omega), hW.out]
              have hmb : ((m : Int) == (W.length : Int)) = true := by rw [hmW]; simp
              clear hmW hrn3 hrk3 hrw3
              go_wp2_with fail
              go_ret
              exact ⟨rfl, below_drewN HB3.out _⟩

set_option maxHeartbeats 4000000 in
set_option maxRecDepth 20000 in
theorem cut_nn (a1 : Option Addr) (a2 : Option Addr) (n1 c1 n2 c2 : Nat) (ks ns : List ByteArray) (i : Nat) (w : World) (p1 : a1 = none ∧ n1 = 0 ∧ c1 = 0) (p2 : Hid (a2 = none ∧ n2 = 0 ∧ c2 = 0))
    (h1 : Row w a1 ks) (e1 : Hid (ks.length = n1)) (b1 : n1 ≤ 4096) (s1 : ∀ s ∈ ks, s.size ≤ maxLen) (h2 : Row w a2 ns) (e2 : Hid (ns.length = n2)) (b2 : n2 ≤ 4096) (s2 : ∀ s ∈ ns, s.size ≤ maxLen) (hi : i ≤ n2)
    (W L R : List ByteArray) (hW : Hid (ns.filter (fun x => !mem ks x) = W)) (hL : Hid ((ns.take i).filter (fun x => !mem ks x) = L)) (hR : Hid ((ns.drop i).filter (fun x => !mem ks x) = R)) :
    Calls Try.prog 3 #[.slice a1 n1 c1, .slice a2 n2 c2, .int .i64 i] w fun e w' => e = .returned (.bool true) ∧ Below w.heap.size w w' := by
  have hneq : ∀ (w : World) (a : Option Addr) (n c : Nat), (binOp .neq 22 (.slice a n c) (.slice none 0 0)).run Try.prog w = .ok (.bool (!a.isNone)) w := fun w a n c => run_neq_slice_nil_any w 22 9 a n c 0 0 Try.underlying22
  have heql : ∀ (w : World) (a : Option Addr) (n c : Nat), (binOp .eql 22 (.slice a n c) (.slice none 0 0)).run Try.prog w = .ok (.bool a.isNone) w := fun w a n c => Lib.run_eql_slice_nil w 22 9 a n c 0 0 Try.underlying22
  have i1 : (n1 : Int) ≤ 4096 := by omega
  have i2 : (n2 : Int) ≤ 4096 := by omega
  have i3 : (i : Int) ≤ (n2 : Int) := by omega
  have d1 : decide ((4096 : Int) < (n1 : Int)) = false := by simp; omega
  have d2 : decide ((4096 : Int) < (n2 : Int)) = false := by simp; omega
  have d3 : decide ((i : Int) < 0) = false := by simp
  have d4 : decide (n2 < i) = false := by simp; omega
  have e3 : Hid ((ns.take i).length = i) := by have := e2.out; show (ns.take i).length = i; simp; omega
  have e4 : Hid ((ns.drop i).length = n2 - i) := by have := e2.out; show (ns.drop i).length = n2 - i; simp; omega
  have HWLR : Hid (W = L ++ R) := by show W = L ++ R; rw [← hW.out, ← hL.out, ← hR.out, ← List.filter_append, List.take_append_drop]
  have hLn : L.length ≤ 4096 := by rw [← hL.out]; have h1 := List.length_filter_le (fun x => !mem ks x) (ns.take i); have := e3.out; omega
  have hRn : R.length ≤ 4096 := by rw [← hR.out]; have h1 := List.length_filter_le (fun x => !mem ks x) (ns.drop i); have := e4.out; omega
  have hWn : W.length ≤ 4096 := by rw [← hW.out]; have h1 := List.length_filter_le (fun x => !mem ks x) ns; have := e2.out; omega
  have g1 : ((W.length : Int) != (L.length : Int) + (R.length : Int)) = false := by rw [HWLR.out]; simp
  obtain ⟨t, ht⟩ : ∃ t : Bool, t = W.isEmpty := ⟨_, rfl⟩
  have g2 : ((W.length : Int) == 0) = t := by rw [ht]; cases W <;> simp <;> omega
  have HT : Hid (W.isEmpty = t) := ht.symm
  clear ht
  have q1 : a1.isNone = true := by rw [p1.1]; rfl
  clear p1
  have q2 : a2.isNone = true := by rw [p2.out.1]; rfl
  have hrk := h1
  have hr2 := h2
  have HB : Hid (Below w.heap.size w w) := Below.refl _ _
  obtain ⟨adp, hsp, hrowp⟩ := nil_to p2.out hi
  obtain ⟨ad3, hsl, hrow3⟩ := nil_from p2.out hi
  go_enter Try.func3, Try.ntmps3
  go_wp2_with fail
  refine (bytes5_any _ _ n1 c1 n2 c2 ks ns i w h1 h2 e1 e2 (by unfold maxLen; omega) (by unfold maxLen; omega)).mono ?_
  rintro e w' ⟨⟨r, rfl⟩, rfl⟩
  cases r
  · go_wp2_with fail
    go_ret
    exact ⟨rfl, Below.refl _ _⟩
  go_wp2_with fail
  refine (fit_any _ _ n1 c1 n2 c2 ks ns 0 w h1 h2 e1 e2 (by unfold maxLen; omega) (by unfold maxLen; omega)).mono ?_
  rintro e w' ⟨⟨r, rfl⟩, rfl⟩
  cases r
  · go_wp2_with fail
    go_ret
    exact ⟨rfl, Below.refl _ _⟩
  clear h1 h2
  go_wp2_with fail
  refine (zzlacking_row _ _ n1 _ n2 _ ks ns W _ hrk e1 (by omega) s1 hr2 e2 b2 s2 hW).mono ?_
  rintro e w1 ⟨aw, cw, rfl, hrw, hnw, hBa⟩
  have hrk1 := hrk.below hBa
  have hrn1 := hr2.below hBa
  have HB1 : Hid (Below w.heap.size w w1) := HB.out.trans (hBa.mono HB.out.size)
  clear hrk hr2 HB hBa
  go_wp2_with fail
  refine (zzlacking_row _ _ n1 _ i _ ks (ns.take i) L _ hrk1 e1 (by omega) s1 (hrowp _ _ e2.out hrn1) e3 (by omega) (fun s hs => s2 s (List.mem_of_mem_take hs)) hL).mono ?_
  rintro e w2 ⟨al, cl, rfl, hrl, _, hBb⟩
  have hrk2 := hrk1.below hBb
  have hrn2 := hrn1.below hBb
  have hrw2 := hrw.below hBb
  have HB2 : Hid (Below w.heap.size w w2) := HB1.out.trans (hBb.mono HB1.out.size)
  clear hrk1 hrn1 hrw HB1 hBb hsp hrowp
  go_wp2_with fail
  refine (zzlacking_row _ _ n1 _ (n2 - i) _ ks (ns.drop i) R _ hrk2 e1 (by omega) s1 (hrow3 _ _ e2.out hrn2) e4 (by omega) (fun s hs => s2 s (List.mem_of_mem_drop hs)) hR).mono ?_
  rintro e w3 ⟨ar, cr, rfl, hrr, _, hBc⟩
  have hrk3 := hrk2.below hBc
  have hrn3 := hrn2.below hBc
  have hrw3 := hrw2.below hBc
  have hrl3 := hrl.below hBc
  have HB3 : Hid (Below w.heap.size w w3) := HB2.out.trans (hBc.mono HB2.out.size)
  have hnw2 : aw.isNone = t := hnw.trans HT.out
  clear hrk2 hrn2 hrw2 hrl HB2 hBc hsl hrow3 hnw HT s1 s2
  go_wp2_with fail
  go_loopw [12] (fun jv wr => ∃ k q : Nat, k ≤ L.length ∧ jv = .int .i64 k ∧ wr = w3.drewN q) (fun jv _ => L.length - (intOf jv).toNat)
  case atStart => exact ⟨0, 0, Nat.zero_le _, rfl, rfl⟩
  case round =>
    obtain ⟨k, q, hk, rfl, rfl⟩ := hrel
    by_cases hlt : k < L.length
    · obtain ⟨b, off, b', off', s, rfl, rfl, hc, hc', _⟩ := hrw3.both hrl3 (i := k) (j := k) (by rw [HWLR.out]; simp; omega) hlt (by rw [HWLR.out]; exact getD_left hlt)
      have hlt' : (k : Int) < (L.length : Int) := by omega
      have hltw : (k : Int) < (W.length : Int) := by rw [HWLR.out]; simp; omega
      clear hrw3 hrl3 hrr hrk3 hrn3
      go_wp2_with fail
      go_quiet (fail)
      go_wp2_with fail
      go_roundw
      case rel => exact ⟨k + 1, _, by omega, by go_num, rfl⟩
      case measure => simp [intOf]; omega
    · have hge : ¬ (k : Int) < (L.length : Int) := by omega
      go_wp2_with fail
      go_loopw [13] (fun jv wr => ∃ k q : Nat, k ≤ R.length ∧ jv = .int .i64 k ∧ wr = w3.drewN q) (fun jv _ => R.length - (intOf jv).toNat)
      case atStart => exact ⟨0, q, Nat.zero_le _, rfl, rfl⟩
      case round =>
        obtain ⟨k2, q2, hk2, rfl, rfl⟩ := hrel
        by_cases hlt2 : k2 < R.length
        · obtain ⟨b, off, b', off', s, rfl, rfl, hc, hc', _⟩ := hrw3.both hrr (i := L.length + k2) (j := k2) (by rw [HWLR.out]; simp; omega) hlt2 (by rw [HWLR.out]; exact getD_right hlt2)
          have hlt2' : (k2 : Int) < (R.length : Int) := by omega
          have hltw : (L.length : Int) + (k2 : Int) < (W.length : Int) := by rw [HWLR.out]; simp; omega
          clear hrw3 hrl3 hrr hrk3 hrn3
          go_wp2_with fail
          go_quiet (fail)
          go_wp2_with fail
          go_roundw
          case rel => exact ⟨k2 + 1, _, by omega, by go_num, rfl⟩
          case measure => simp [intOf]; omega
        · have hge2 : ¬ (k2 : Int) < (R.length : Int) := by omega
          clear hrl3 hrr
          go_wp2_with fail
          go_loopw [14, 15] (fun nv jv wr => ∃ k q m : Nat, k ≤ n2 ∧ jv = .int .i64 k ∧ nv = .int .i64 m ∧ Hid (m = ((ns.take k).filter (fun x => !mem ks x)).length) ∧ wr = w3.drewN q) (fun _ jv _ => n2 - (intOf jv).toNat)
          case atStart => exact ⟨0, q2, 0, Nat.zero_le _, rfl, rfl, rfl, rfl⟩
          case round =>
            obtain ⟨k3, q3, m, hk3, rfl, rfl, hm, rfl⟩ := hrel
            by_cases hlt3 : k3 < n2
            · exact absurd hlt3 (by have := p2.out.2.1; omega)
            · have hge3 : ¬ (k3 : Int) < (n2 : Int) := by omega
              have hmW : m = W.length := by
                rw [hm.out, List.take_of_length_le (by have := e2.out; omega), hW.out]
              have hmb : ((m : Int) == (W.length : Int)) = true := by rw [hmW]; simp
              clear hmW hrn3 hrk3 hrw3
              go_wp2_with fail
              go_ret
              exact ⟨rfl, below_drewN HB3.out _⟩

theorem cut_in (a1 a2 : Option Addr) (n1 c1 n2 c2 : Nat) (ks ns : List ByteArray) (i : Nat) (w : World) (o1 : NilOr a1 n1 c1) (o2 : NilOr a2 n2 c2)
    (h1 : Row w a1 ks) (e1 : Hid (ks.length = n1)) (b1 : n1 ≤ 4096) (s1 : ∀ s ∈ ks, s.size ≤ maxLen) (h2 : Row w a2 ns) (e2 : Hid (ns.length = n2)) (b2 : n2 ≤ 4096) (s2 : ∀ s ∈ ns, s.size ≤ maxLen) (hi : i ≤ n2) :
    Calls Try.prog 3 #[.slice a1 n1 c1, .slice a2 n2 c2, .int .i64 i] w fun e w' => e = .returned (.bool true) ∧ Below w.heap.size w w' := by
  rcases o1 with p1 | ⟨x1, rfl⟩
  · rcases o2 with p2 | ⟨x2, rfl⟩
    · exact cut_nn a1 a2 n1 c1 n2 c2 ks ns i w p1 p2 h1 e1 b1 s1 h2 e2 b2 s2 hi _ _ _ rfl rfl rfl
    · exact cut_ns a1 x2 n1 c1 n2 c2 ks ns i w p1 h1 e1 b1 s1 h2 e2 b2 s2 hi _ _ _ rfl rfl rfl
  · rcases o2 with p2 | ⟨x2, rfl⟩
    · exact cut_sn x1 a2 n1 c1 n2 c2 ks ns i w p2 h1 e1 b1 s1 h2 e2 b2 s2 hi _ _ _ rfl rfl rfl
    · exact cut_ss x1 x2 n1 c1 n2 c2 ks ns i w h1 e1 b1 s1 h2 e2 b2 s2 hi _ _ _ rfl rfl rfl

set_option maxHeartbeats 1000000 in
set_option maxRecDepth 20000 in
theorem cut_out (a1 a2 : Option Addr) (n1 c1 n2 c2 : Nat) (ks ns : List ByteArray) (i : Int) (w : World) 
    (h1 : Row w a1 ks) (e1 : Hid (ks.length = n1)) (b1 : n1 ≤ maxLen) (h2 : Row w a2 ns) (e2 : Hid (ns.length = n2)) (b2 : n2 ≤ maxLen) (ho : 4096 < n1 ∨ 4096 < n2 ∨ i < 0 ∨ (n2 : Int) < i) :
    Calls Try.prog 3 #[.slice a1 n1 c1, .slice a2 n2 c2, .int .i64 i] w fun e w' => e = .returned (.bool true) ∧ Below w.heap.size w w' := by
  by_cases k1 : 4096 < n1
  · have d1 : (4096 : Int) < (n1 : Int) := by omega
    go_enter Try.func3, Try.ntmps3
    go_wp2_with fail
    refine (bytes5_any _ _ n1 c1 n2 c2 ks ns i w h1 h2 e1 e2 b1 b2).mono ?_
    rintro e w' ⟨⟨r, rfl⟩, rfl⟩
    cases r
    all_goals
      go_wp2_with fail
      go_ret
      exact ⟨rfl, Below.refl _ _⟩
  by_cases k2 : 4096 < n2
  · have d1 : ¬ (4096 : Int) < (n1 : Int) := by omega
    have d2 : (4096 : Int) < (n2 : Int) := by omega
    go_enter Try.func3, Try.ntmps3
    go_wp2_with fail
    refine (bytes5_any _ _ n1 c1 n2 c2 ks ns i w h1 h2 e1 e2 b1 b2).mono ?_
    rintro e w' ⟨⟨r, rfl⟩, rfl⟩
    cases r
    all_goals
      go_wp2_with fail
      go_ret
      exact ⟨rfl, Below.refl _ _⟩
  have d1 : ¬ (4096 : Int) < (n1 : Int) := by omega
  have d2 : ¬ (4096 : Int) < (n2 : Int) := by omega
  by_cases k3 : i < 0
  · clear ho
    go_enter Try.func3, Try.ntmps3
    go_wp2_with fail
    refine (bytes5_any _ _ n1 c1 n2 c2 ks ns i w h1 h2 e1 e2 b1 b2).mono ?_
    rintro e w' ⟨⟨r, rfl⟩, rfl⟩
    cases r
    · go_wp2_with fail
      go_ret
      exact ⟨rfl, Below.refl _ _⟩
    go_wp2_with fail
    refine (fit_any _ _ n1 c1 n2 c2 ks ns 0 w h1 h2 e1 e2 b1 b2).mono ?_
    rintro e w' ⟨⟨r, rfl⟩, rfl⟩
    cases r
    all_goals
      go_wp2_with fail
      go_ret
      exact ⟨rfl, Below.refl _ _⟩
  · have k4 : (n2 : Int) < i := by omega
    clear ho
    go_enter Try.func3, Try.ntmps3
    go_wp2_with fail
    refine (bytes5_any _ _ n1 c1 n2 c2 ks ns i w h1 h2 e1 e2 b1 b2).mono ?_
    rintro e w' ⟨⟨r, rfl⟩, rfl⟩
    cases r
    · go_wp2_with fail
      go_ret
      exact ⟨rfl, Below.refl _ _⟩
    go_wp2_with fail
    refine (fit_any _ _ n1 c1 n2 c2 ks ns 0 w h1 h2 e1 e2 b1 b2).mono ?_
    rintro e w' ⟨⟨r, rfl⟩, rfl⟩
    cases r
    all_goals
      go_wp2_with fail
      go_ret
      exact ⟨rfl, Below.refl _ _⟩

theorem cut_any (a1 a2 : Option Addr) (n1 c1 n2 c2 : Nat) (ks ns : List ByteArray) (i : Int) (w : World) (o1 : NilOr a1 n1 c1) (o2 : NilOr a2 n2 c2)
    (h1 : Row w a1 ks) (e1 : ks.length = n1) (b1 : n1 ≤ maxLen) (s1 : ∀ s ∈ ks, s.size ≤ maxLen) (h2 : Row w a2 ns) (e2 : ns.length = n2) (b2 : n2 ≤ maxLen) (s2 : ∀ s ∈ ns, s.size ≤ maxLen) :
    Calls Try.prog 3 #[.slice a1 n1 c1, .slice a2 n2 c2, .int .i64 i] w fun e w' => e = .returned (.bool true) ∧ Below w.heap.size w w' := by
  by_cases ho : 4096 < n1 ∨ 4096 < n2 ∨ i < 0 ∨ (n2 : Int) < i
  · exact cut_out a1 a2 n1 c1 n2 c2 ks ns i w h1 e1 b1 h2 e2 b2 ho
  · obtain ⟨i', rfl⟩ := Int.eq_ofNat_of_zero_le (a := i) (by omega)
    exact cut_in a1 a2 n1 c1 n2 c2 ks ns i' w o1 o2 h1 e1 (by omega) s1 h2 e2 (by omega) s2 (by omega)

end Go.Proofs.Qxb6617036a
