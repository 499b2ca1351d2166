/- A slice of strings copied into a new one; the shape of a result. -/
import Derived.Test.Qxb6617036aLacking
import Derived.Laws.CopyOwn
namespace Go.Proofs.Qxb6617036a
open Go.RowKit
set_option linter.unusedVariables false
set_option linter.unusedSimpArgs false

def blank (m : Nat) : Obj := .cells (madeCells #[.string ⟨#[]⟩] m) 9

theorem make_strs (m : Nat) (hm : m ≤ 65536) (w : World) :
    (Instr.makeSlice 22 (.int .i64 (m : Int)) (.int .i64 (m : Int))).run Try.prog w = .ok (.slice (some ⟨w.heap.size, 0, none⟩) m m) (w.alloc (blank m)) := by
  obtain ⟨i, hi, hz0, hz1, hz2⟩ := info_parts Try.info9
  have h := run_make (P := Try.prog) w 22 9 i _ Try.underlying22 hi hz0 .i64 .i64 m m (by omega) (by omega) (by rw [hz2]; omega) (by omega)
  rw [h, hz1, Int.toNat_natCast, Nat.mul_one]
  rfl

theorem made_list (z : Value) (m : Nat) : (madeCells #[z] m).toList = List.replicate m z := by
  apply List.ext_getElem
  · simp [size_madeCells]
  · intro i h1 h2
    simp [madeCells, Nat.mod_one]

/-- Block g of w is a row of the call's own that holds the strings ss. -/
def Made (w : World) (g : Nat) (ss : List ByteArray) : Prop := w.heap[g]? = some (.cells (ss.map Value.string).toArray 9 (0, 0))

theorem Made.row {w : World} {g : Nat} {ss : List ByteArray} (h : Made w g ss) : Row w (some ⟨g, 0, none⟩) ss := by
  refine .inr ⟨g, 0, rfl, fun i hi => ?_⟩
  simp [World.cell?, show w.heap[g]? = _ from h, hi, List.getD]

theorem made_blank (w : World) (m : Nat) : Made (w.alloc (blank m)) w.heap.size (List.replicate m ⟨#[]⟩) := by
  show (w.heap.push (blank m))[w.heap.size]? = _
  rw [Array.getElem?_push, if_pos rfl, blank]
  congr 2
  apply Array.toList_inj.mp
  rw [made_list, List.toList_toArray, List.map_replicate]

/-- 'copy' of a slice (not nil) into the block that 'make' has just laid. -/
theorem copy_run (w : World) (m n c : Nat) (ad : Addr) (ks : List ByteArray) (hk : ks.length = n) (hnm : n ≤ m) (hrow : Row w (some ad) ks) :
    ∃ u, (Builtin.copy_ #[22, 22] 3 #[.slice (some ⟨w.heap.size, 0, none⟩) m m, .slice (some ad) n c]).run Try.prog (w.alloc (blank m)) = .ok (.int .i64 n) u ∧
      Made u w.heap.size (ks ++ List.replicate (m - n) ⟨#[]⟩) ∧ Below w.heap.size w u ∧ u.heap.size = w.heap.size + 1 := by
  have hmd := made_blank w m
  have hlen : (ks.map Value.string).length = n := by simp [hk]
  have hrun := run_copy_row (P := Try.prog) (w.alloc (blank m)) 22 22 3 9 w.heap.size 0 m m ad n c _ 9 (ks.map Value.string) Try.underlying22 (by kernel_rfl) hmd (by rw [hlen]; exact (Nat.min_eq_left hnm).symm) ?_ ?_ ?_
  · rw [hlen] at hrun
    refine ⟨_, hrun, ?_, below_setRow ((Below.refl _ _).alloc (Nat.le_refl _) _) (Nat.le_refl _) _, by simp⟩
    unfold Made
    rw [setRow_heap _ _ _ _ 9 (0, 0) hmd]
    simp
  · intro j v hj
    rcases hrow with rfl | ⟨b, off, h1, h2⟩
    · simp at hj
    · obtain rfl := Option.some.inj h1
      have hjl : j < ks.length := by have := (List.getElem?_eq_some_iff.1 hj).1; simpa using this
      have hc := h2 j hjl
      rw [Addr.add_lit, World.cell?_alloc_lt (h := lt_of_cell hc), hc, ← hj, getD_at hjl]
      simp [hjl]
  · rw [hlen]; simp; omega
  · intro v hv
    obtain ⟨_, _, rfl⟩ := List.mem_map.1 hv
    rfl

/-- 'copy' of a nil slice. -/
theorem copy_none (w : World) (m : Nat) (ad : Addr) : (Builtin.copy_ #[22, 22] 3 #[.slice (some ad) m m, .slice none 0 0]).run Try.prog w = .ok (.int .i64 0) w :=
  run_copy_nil (P := Try.prog) w 22 22 3 9 ad m m Try.underlying22 (by kernel_rfl)

/-- The copy at its own length. -/
theorem copy_same (w : World) (n c : Nat) (ad : Addr) (ks : List ByteArray) (hk : ks.length = n) (hrow : Row w (some ad) ks) :
    ∃ u, (Builtin.copy_ #[22, 22] 3 #[.slice (some ⟨w.heap.size, 0, none⟩) n n, .slice (some ad) n c]).run Try.prog (w.alloc (blank n)) = .ok (.int .i64 n) u ∧
      Row u (some ⟨w.heap.size, 0, none⟩) ks ∧ Below w.heap.size w u := by
  obtain ⟨u, h1, h2, h3, _⟩ := copy_run w n n c ad ks hk (Nat.le_refl _) hrow
  rw [Nat.sub_self, List.replicate_zero, List.append_nil] at h2
  exact ⟨u, h1, h2.row, h3⟩

theorem Holds.shape {B : Nat} {v : Value} {R : List ByteArray} {w : World} (h : Holds B v R w) : ∃ ao c, v = .slice ao R.length c ∧ Row w ao R ∧ ao.isNone = R.isEmpty := by
  obtain ⟨⟨hl, h⟩, hnil⟩ := h
  rcases h with ⟨rfl, h0⟩ | ⟨g, cap, cur, rfl, hg, hh, _, _, hsz, htk⟩
  · have : R = [] := List.eq_nil_of_length_eq_zero h0
    subst this
    exact ⟨none, 0, rfl, .inl rfl, rfl⟩
  · refine ⟨_, cap, rfl, .inr ⟨g, 0, rfl, fun i hi => ?_⟩, ?_⟩
    · have e : cur.toList[i]? = some (.string (R.getD i ByteArray.empty)) := by
        have : (cur.toList.take (R.length * 1))[i]? = (R.map Value.string)[i]? := by rw [htk]
        rw [List.getElem?_take, if_pos (by omega)] at this
        rw [this, getD_at hi]
        simp [hi]
      simp only [World.cell?, hh, Nat.zero_add]
      simpa using e
    · cases R with
      | nil => have := hnil rfl; simp at this
      | cons x r => rfl

theorem zzlacking_row (a1 a2 : Option Addr) (n1 c1 n2 c2 : Nat) (ks ns R : List ByteArray) (w : World)
    (h1 : Row w a1 ks) (e1 : Hid (ks.length = n1)) (b1 : n1 ≤ 65536) (s1 : ∀ s ∈ ks, s.size ≤ maxLen) (h2 : Row w a2 ns) (e2 : Hid (ns.length = n2)) (b2 : n2 ≤ 4096) (s2 : ∀ s ∈ ns, s.size ≤ maxLen) (hR : Hid (ns.filter (fun x => !mem ks x) = R)) :
    Calls Try.prog 7 #[.slice a1 n1 c1, .slice a2 n2 c2] w fun e w' => ∃ ao c, e = .returned (.slice ao R.length c) ∧ Row w' ao R ∧ ao.isNone = R.isEmpty ∧ Below w.heap.size w w' := by
  refine (zzlacking_any a1 a2 n1 c1 n2 c2 ks ns w h1 e1 b1 s1 h2 e2 b2 s2).mono ?_
  rintro e w' ⟨v, rfl, hv, hB⟩
  rw [lack_obj, hR.out] at hv
  obtain ⟨ao, c, rfl, h3, h4⟩ := hv.shape
  exact ⟨ao, c, rfl, h3, h4, hB⟩

theorem Row.take {w : World} {ao : Option Addr} {ss : List ByteArray} (h : Row w ao ss) (i : Nat) : Row w ao (ss.take i) := by
  rcases h with rfl | ⟨b, off, h1, h2⟩
  · exact .inl (by simp)
  · refine .inr ⟨b, off, h1, fun j hj => ?_⟩
    have hj' : j < ss.length := by have := List.length_take_le i ss; have : (ss.take i).length ≤ ss.length := by simp; omega
                                   omega
    rw [h2 j hj', getD_at hj', getD_at hj]
    simp

theorem Row.drop {w : World} {b off : Nat} {ss : List ByteArray} (h : Row w (some ⟨b, off, none⟩) ss) (i : Nat) : Row w (some ⟨b, off + i, none⟩) (ss.drop i) := by
  rcases h with rfl | ⟨b', off', h1, h2⟩
  · exact .inl (by simp)
  · simp at h1
    obtain ⟨rfl, rfl⟩ := h1
    refine .inr ⟨b, off + i, rfl, fun j hj => ?_⟩
    have hj' : i + j < ss.length := by simp at hj; omega
    rw [Nat.add_assoc, h2 (i + j) hj', getD_at hj', getD_at hj]
    simp

theorem size9 (w : World) : (sizeOf (Try.prog.elem 22)).run Try.prog w = .ok 1 w := by kernel_rfl

theorem slice_from (g n i : Nat) (hi : i ≤ n) : ∃ ad, (∀ w, (Instr.slice 22 (.slice (some ⟨g, 0, none⟩) n n) (some (.int .i64 (i : Int))) none none).run Try.prog w = .ok (.slice ad (n - i) (n - i)) w) ∧
    (∀ w ss, ss.length = n → Row w (some ⟨g, 0, none⟩) ss → Row w ad (ss.drop i)) := by
  have hu : Try.prog.underlying 22 = some (.slice (Try.prog.elem 22)) := by kernel_rfl
  refine ⟨if n = i then some ⟨g, 0, none⟩ else (some ⟨g, 0, none⟩ : Option Addr).map (·.add (i * 1)), fun w => ?_, fun w ss hl h => ?_⟩
  · rw [run_slice_l (ht := hu) (h0 := by omega) (h1 := by omega), size9]
    simp [Result.andThen, sliced]
  · by_cases e : n = i
    · exact .inl (by simp; omega)
    · rw [if_neg e]
      have := h.drop i
      rw [Option.map_some, Addr.add_lit, Nat.mul_one]
      exact this

theorem slice_to (g n i : Nat) (hi : i ≤ n) : ∃ ad, (∀ w, (Instr.slice 22 (.slice (some ⟨g, 0, none⟩) n n) none (some (.int .i64 (i : Int))) none).run Try.prog w = .ok (.slice ad i n) w) ∧
    (∀ w ss, ss.length = n → Row w (some ⟨g, 0, none⟩) ss → Row w ad (ss.take i)) := by
  have hu : Try.prog.underlying 22 = some (.slice (Try.prog.elem 22)) := by kernel_rfl
  refine ⟨if n = 0 then some ⟨g, 0, none⟩ else (some ⟨g, 0, none⟩ : Option Addr).map (·.add (0 * 1)), fun w => ?_, fun w ss hl h => ?_⟩
  · rw [run_slice_h (ht := hu) (h0 := by omega) (h2 := by omega), size9]
    simp [Result.andThen, sliced]
  · by_cases e : n = 0
    · exact .inl (by simp; right; exact List.eq_nil_of_length_eq_zero (by omega))
    · rw [if_neg e, Option.map_some, Addr.add_lit]
      exact h.take i

/-- A nil slice, cut at 0. -/
theorem slice_nil_to (i : Nat) (hi : i ≤ 0) : ∃ ad, (∀ w, (Instr.slice 22 (.slice none 0 0) none (some (.int .i64 (i : Int))) none).run Try.prog w = .ok (.slice ad i 0) w) ∧
    (∀ w ss, ss.length = 0 → Row w none ss → Row w ad (ss.take i)) := by
  have hu : Try.prog.underlying 22 = some (.slice (Try.prog.elem 22)) := by kernel_rfl
  refine ⟨none, fun w => ?_, fun w ss hl h => .inl (by simp; right; exact List.eq_nil_of_length_eq_zero hl)⟩
  rw [run_slice_h (ht := hu) (h0 := by omega) (h2 := by omega), size9]
  simp [Result.andThen, sliced]

theorem slice_nil_from (i : Nat) (hi : i ≤ 0) : ∃ ad, (∀ w, (Instr.slice 22 (.slice none 0 0) (some (.int .i64 (i : Int))) none none).run Try.prog w = .ok (.slice ad (0 - i) (0 - i)) w) ∧
    (∀ w ss, ss.length = 0 → Row w none ss → Row w ad (ss.drop i)) := by
  have hu : Try.prog.underlying 22 = some (.slice (Try.prog.elem 22)) := by kernel_rfl
  refine ⟨none, fun w => ?_, fun w ss hl h => .inl (by simp; omega)⟩
  rw [run_slice_l (ht := hu) (h0 := by omega) (h1 := by omega), size9]
  simp [Result.andThen, sliced]

/-- Two places that hold one string. -/
theorem Row.both {w : World} {a a' : Option Addr} {ss ts : List ByteArray} (h : Row w a ss) (h' : Row w a' ts) {i j : Nat} (hi : i < ss.length) (hj : j < ts.length) (e : ss.getD i ByteArray.empty = ts.getD j ByteArray.empty) :
    ∃ b off b' off' s, a = some ⟨b, off, none⟩ ∧ a' = some ⟨b', off', none⟩ ∧ w.cell? ⟨b, off + i, none⟩ = some (.string s) ∧ w.cell? ⟨b', off' + j, none⟩ = some (.string s) ∧ Hid (s = ss.getD i ByteArray.empty) := by
  obtain ⟨b, off, s, h1, h2, h3⟩ := h.at hi
  obtain ⟨b', off', s', h1', h2', h3'⟩ := h'.at hj
  have : s' = s := by rw [h3.out, h3'.out, e]
  subst this
  exact ⟨b, off, b', off', s', h1, h1', h2, h2', h3⟩

theorem Row.drewN {w : World} {ao : Option Addr} {ss : List ByteArray} (h : Row w ao ss) (q : Nat) : Row (w.drewN q) ao ss := h

/-- A filter, at a place that it keeps. -/
theorem filter_at {p : ByteArray → Bool} {ns : List ByteArray} {j : Nat} {s : ByteArray} (hj : j < ns.length) (hs : s = ns.getD j ByteArray.empty) (hp : p s = true) :
    ((ns.take j).filter p).length < (ns.filter p).length ∧ (ns.filter p).getD ((ns.take j).filter p).length ByteArray.empty = s ∧ (ns.take (j + 1)).filter p = (ns.take j).filter p ++ [s] := by
  have e : ns.filter p = (ns.take j).filter p ++ s :: (ns.drop (j + 1)).filter p := by
    conv => lhs; rw [← List.take_append_drop j ns, List.filter_append, List.drop_eq_getElem_cons hj, List.filter_cons]
    rw [getD_at hj] at hs
    rw [← hs, if_pos hp]
  refine ⟨by rw [e]; simp, by rw [e]; simp [List.getD], ?_⟩
  rw [take_next hj, ← hs, List.filter_append]
  simp [hp]

/-- .. at a place that it drops. -/
theorem filter_skip {p : ByteArray → Bool} {ns : List ByteArray} {j : Nat} {s : ByteArray} (hj : j < ns.length) (hs : s = ns.getD j ByteArray.empty) (hp : p s = false) :
    (ns.take (j + 1)).filter p = (ns.take j).filter p := by
  rw [take_next hj, ← hs, List.filter_append]
  simp [hp]

theorem getD_left {L R : List ByteArray} {j : Nat} (hj : j < L.length) : (L ++ R).getD j ByteArray.empty = L.getD j ByteArray.empty := by
  rw [getD_at hj, getD_at (by simp; omega), List.getElem_append_left hj]

theorem getD_right {L R : List ByteArray} {j : Nat} (hj : j < R.length) : (L ++ R).getD (L.length + j) ByteArray.empty = R.getD j ByteArray.empty := by
  rw [getD_at hj, getD_at (by simp; omega), List.getElem_append_right (by omega)]
  simp

end Go.Proofs.Qxb6617036a
