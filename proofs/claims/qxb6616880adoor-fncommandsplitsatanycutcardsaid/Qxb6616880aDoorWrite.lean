/- (*bytes.Buffer).Write (58) and Bytes (18), with the exact frame. -/
import Derived.Test.Qxb6616880aDoorBuf
namespace Go.Proofs.Qxb6616880aDoor
open Go.RowKit
set_option linter.unusedVariables false
set_option linter.unusedSimpArgs false

/-- A bytes.Buffer in block b that holds the cells bs; its row lies at 'lo' or above. -/
def Buf (w : World) (b lo : Nat) (bs : List Value) : Prop :=
  ∃ v lr, Head w b v lr ∧ ((v = .slice none 0 0 ∧ bs = []) ∨ ∃ g cap cur, v = .slice (some ⟨g, 0, none⟩) bs.length cap ∧ 1 ≤ bs.length ∧ lo ≤ g ∧ w.heap[g]? = some (.cells cur 5 (0, 0)) ∧ bs.length ≤ cap ∧ cap ≤ maxLen ∧ cur.size = cap ∧ cur.toList.take bs.length = bs)

/-- Below 'lo' nothing has turned but block b. -/
structure Kb (b lo : Nat) (w w' : World) : Prop where
  os : w'.os = w.os
  tape : w'.tape = w.tape
  output : w'.output = w.output
  size : w.heap.size ≤ w'.heap.size
  block : ∀ k, k < lo → k ≠ b → w'.heap[k]? = w.heap[k]?

theorem Kb.refl (b lo : Nat) (w : World) : Kb b lo w w := ⟨rfl, rfl, rfl, Nat.le_refl _, fun _ _ _ => rfl⟩
theorem Kb.trans {b lo : Nat} {w w1 w2 : World} (h : Kb b lo w w1) (k : Kb b lo w1 w2) : Kb b lo w w2 :=
  ⟨k.os.trans h.os, k.tape.trans h.tape, k.output.trans h.output, Nat.le_trans h.size k.size, fun i hi hb => (k.block i hi hb).trans (h.block i hi hb)⟩
theorem Kb.set {b lo : Nat} {w w1 : World} (h : Kb b lo w w1) (o : Nat) (v : Value) : Kb b lo w (w1.setCell ⟨b, o, none⟩ v) :=
  h.trans ⟨rfl, rfl, rfl, by simp [World.setCell], fun k _ hb => Below.heap_setCell _ _ _ _ hb⟩
theorem Kb.drewN {b lo : Nat} {w w1 : World} (h : Kb b lo w w1) (q : Nat) : Kb b lo w (w1.drewN q) := ⟨h.os, h.tape, h.output, h.size, h.block⟩
theorem Kb.grown {b lo : Nat} {w w1 w2 : World} (h : Kb b lo w w1) (hlo : lo ≤ w1.heap.size) (g : w1.grownBy w2 (some b)) : Kb b lo w w2 :=
  h.trans ⟨g.os, g.tape, g.output, g.size, fun k hk hb => g.block k (by omega) (fun e => hb (Option.some.inj e))⟩
theorem Kb.setRow {b lo : Nat} {w w1 : World} (h : Kb b lo w w1) {g : Nat} (hg : lo ≤ g) (cs : Array Value) : Kb b lo w (w1.setRow g cs) :=
  h.trans ⟨rfl, rfl, rfl, by simp, fun k hk _ => setRow_other w1 g k cs (by omega)⟩

theorem Kb.src {b lo : Nat} {w w1 : World} (h : Kb b lo w w1) {a : Addr} (ha : a.block < lo) (hb : a.block ≠ b) {cs : List Value} (hs : ∀ j v, cs[j]? = some v → w.cell? (a.add j) = some v) : ∀ j v, cs[j]? = some v → w1.cell? (a.add j) = some v := by
  intro j v hj
  have e : (a.add j).block = a.block := by cases a; simp [Addr.add]; split <;> rfl
  rw [← hs j v hj]
  exact World.cell?_of_block (w := w) (by rw [e]; exact h.block _ ha hb)

theorem grow_nil (hGN : GrowNil) (b n : Nat) (lr : Int) (w : World) (h : Head w b (.slice none 0 0) lr) (hn : 1 ≤ n) (hn2 : n ≤ 140737488355328) :
    Calls Tryd.prog 61 #[.pointer (some ⟨b, 0, none⟩), .int .i64 n] w fun e w' => e = .returned (.int .i64 0) ∧ Grew w b 0 n [] lr w' := by
  by_cases h64 : n ≤ 64
  · exact grow_small b n lr w h hn h64
  · exact grow_big hGN b n lr w h (by omega) hn2

theorem info5size : (Tryd.prog.info? 5).map (·.size) = some 1 := by kernel_rfl

theorem buf_end {w w1 : World} {b lo g cap n : Nat} {lr : Int} {cur : Array Value} {bs cs : List Value} (hk : Kb b lo w w1) (hb : Head w1 b (.slice (some ⟨g, 0, none⟩) (bs.length + n) cap) lr) (hg : w1.heap[g]? = some (.cells cur 5 (0, 0))) (hlo : lo ≤ g) (hblo : b < lo)
    (hcs : cur.size = cap) (htk : cur.toList.take bs.length = bs) (hfit : bs.length + n ≤ cap) (hcm : cap ≤ maxLen) (hn : cs.length = n) (hn1 : 1 ≤ n) :
    Buf (w1.setRow g (cur.toList.take bs.length ++ (cs ++ cur.toList.drop (bs.length + n))).toArray) b lo (bs ++ cs) ∧ Kb b lo w (w1.setRow g (cur.toList.take bs.length ++ (cs ++ cur.toList.drop (bs.length + n))).toArray) := by
  refine ⟨⟨_, lr, (setRow_other w1 g b _ (by omega)).trans hb, .inr ⟨g, cap, _, by rw [List.length_append, hn], by rw [List.length_append, hn]; omega, hlo, setRow_heap w1 g cur _ 5 (0, 0) hg, by rw [List.length_append, hn]; exact hfit, hcm, ?_, ?_⟩⟩, hk.setRow hlo _⟩
  · have : cur.toList.length = cap := by rw [Array.length_toList]; exact hcs
    simp [hn]; omega
  · rw [htk, List.toList_toArray, ← List.append_assoc, List.take_append_of_le_length (Nat.le_refl _), List.take_length]

set_option maxHeartbeats 4000000 in
set_option maxRecDepth 100000 in
theorem write_any (hGN : GrowNil) (hGR : GrowRow) (b lo : Nat) (bs cs : List Value) (a : Addr) (n c : Nat) (w : World) (h : Buf w b lo bs) (hlow : lo ≤ w.heap.size) (hblo : b < lo) (h1 : ∀ v ∈ bs, v.oneCell' = true)
    (hn : cs.length = n) (hn1 : 1 ≤ n) (ha : a.block < lo) (hab : a.block ≠ b) (hsrc : ∀ j v, cs[j]? = some v → w.cell? (a.add j) = some v) (h1c : ∀ v ∈ cs, v.oneCell' = true) (hlim : bs.length + n ≤ 140737488355328) :
    Calls Tryd.prog 58 #[.pointer (some ⟨b, 0, none⟩), .slice (some a) n c] w fun e w' => e = .returned (.tuple #[.int .i64 n, .nilIface]) ∧ Buf w' b lo (bs ++ cs) ∧ Kb b lo w w' := by
  obtain ⟨v, lr, hh, hv⟩ := h
  obtain ⟨c0, c1, c2, hf⟩ := hh.cells
  have f2 := hf 2
  clear hf c0 c1
  have hh2 := hh.set2 0
  have hk2 : Kb b lo w (w.setCell ⟨b, 2, none⟩ (.int .i8 0)) := (Kb.refl b lo w).set 2 _
  -- what the copy asks, in whatever world the buffer has room
  have hcopy : ∀ (w1 : World) (g cap : Nat) (cur : Array Value), Kb b lo w w1 → w1.heap[g]? = some (.cells cur 5 (0, 0)) → cur.size = cap → bs.length + n ≤ cap →
      (Builtin.copy_ #[24, 24] 3 #[.slice (some ⟨g, bs.length, none⟩) n (cap - bs.length), .slice (some a) n c]).run Tryd.prog w1 = .ok (.int .i64 n) (w1.setRow g (cur.toList.take bs.length ++ (cs ++ cur.toList.drop (bs.length + n))).toArray) := by
    intro w1 g cap cur hk hg hcs hfit
    have := run_copy_row (P := Tryd.prog) w1 24 24 3 5 g bs.length n (cap - bs.length) a n c cur 5 cs Tryd.underlying24 info5size hg (by rw [hn]; exact (Nat.min_self n).symm) (hk.src ha hab hsrc) (by rw [hn]; omega) h1c
    rw [hn, List.append_assoc] at this
    exact this
  have i0 : (n : Int) ≤ 140737488355328 := by omega
  have HC : Hid _ := hcopy
  clear hcopy hsrc
  rcases hv with ⟨rfl, rfl⟩ | ⟨g, cap, cur, rfl, hb0, hgl, hg, hfit, hcm, hcs, htk⟩
  · go_enter Tryd.func58, Tryd.ntmps58
    go_wp2_with fail
    refine (tryGrow_none b none 0 0 n 0 _ hh2 (Nat.le_refl _) (by omega) (by omega) (Nat.zero_le _)).mono ?_
    rintro e w' ⟨rfl, rfl⟩
    go_wp2_with fail
    refine (grow_nil hGN b n 0 _ hh2 hn1 (by omega)).mono ?_
    rintro e w1 ⟨rfl, g, cap, cells, hg1, hb1, hrow, hcs, htk, hfit, hcm, hgb⟩
    have hk : Kb b lo w w1 := hk2.grown (by simpa [World.setCell] using hlow) hgb
    have hgl : lo ≤ g := by have : w.heap.size ≤ g := by simpa [World.setCell] using hg1
                            omega
    rw [Nat.zero_add] at hb1 hfit
    have hcp := HC.out w1 g cap cells hk hrow hcs (by simpa using hfit)
    obtain ⟨r1, r2⟩ := buf_end (bs := []) (cs := cs) (n := n) hk (by simpa using hb1) hrow hgl hblo hcs htk (by simpa using hfit) hcm hn hn1
    have R1 : Hid (Buf (w1.setRow g (cs ++ List.drop n cells.toList).toArray) b lo cs) := by show Buf _ _ _ _; simpa using r1
    have R2 : Hid (Kb b lo w (w1.setRow g (cs ++ List.drop n cells.toList).toArray)) := by show Kb _ _ _ _; simpa using r2
    simp only [List.length_nil, Nat.zero_add, Nat.sub_zero, List.take_zero, List.nil_append] at hcp
    obtain ⟨d0, d1, d2, hff⟩ := hb1.cells
    unfold maxLen at hcm
    have j1 : (n : Int) ≤ (cap : Int) := by omega
    have j2 : (cap : Int) ≤ 9223372036854775807 := by omega
    clear hff r1 r2 HC hgb hg1 htk
    go_wp2_with fail
    go_ret2
    exact ⟨rfl, R1, R2⟩
  · by_cases hroom : bs.length + n ≤ cap
    · have hb1 := hh2.set (.slice (some ⟨g, 0, none⟩) (bs.length + n) cap)
      have hk : Kb b lo w ((w.setCell ⟨b, 2, none⟩ (.int .i8 0)).setCell ⟨b, 0, none⟩ (.slice (some ⟨g, 0, none⟩) (bs.length + n) cap)) := hk2.set 0 _
      have hrow : ((w.setCell ⟨b, 2, none⟩ (.int .i8 0)).setCell ⟨b, 0, none⟩ (.slice (some ⟨g, 0, none⟩) (bs.length + n) cap)).heap[g]? = some (.cells cur 5 (0, 0)) := by
        rw [Below.heap_setCell _ _ _ _ (by show g ≠ b; omega), Below.heap_setCell _ _ _ _ (by show g ≠ b; omega)]; exact hg
      go_enter Tryd.func58, Tryd.ntmps58
      go_wp2_with fail
      refine (tryGrow_room b _ bs.length cap n 0 _ hh2 hroom hcm).mono ?_
      rintro e w1 ⟨rfl, hw1⟩
      rw [← hw1] at hb1 hk hrow
      clear hw1
      have hcp := HC.out w1 g cap cur hk hrow hcs hroom
      obtain ⟨r1, r2⟩ := buf_end (bs := bs) (cs := cs) (n := n) hk hb1 hrow hgl hblo hcs htk hroom hcm hn hn1
      have R1 : Hid _ := r1
      have R2 : Hid _ := r2
      obtain ⟨d0, d1, d2, hff⟩ := hb1.cells
      unfold maxLen at hcm
      have j1 : (bs.length : Int) + (n : Int) ≤ (cap : Int) := by omega
      have j2 : (cap : Int) ≤ 9223372036854775807 := by omega
      have j3 : ¬ cap = bs.length := by omega
      clear hff r1 r2 HC htk
      go_wp2_with fail
      go_ret2
      exact ⟨rfl, R1, R2⟩
    · go_enter Tryd.func58, Tryd.ntmps58
      go_wp2_with fail
      refine (tryGrow_none b _ bs.length cap n 0 _ hh2 hfit (by omega) (by omega) hcm).mono ?_
      rintro e w' ⟨rfl, rfl⟩
      go_wp2_with fail
      refine (grow_row hGR b g bs.length cap n 0 cur _ hh2 (by rw [Below.heap_setCell _ _ _ _ (by show g ≠ b; omega)]; exact hg) hb0 hfit hcs (by rw [htk]; exact h1) hn1 (by omega) hlim).mono ?_
      rintro e w1 ⟨rfl, g2, cap2, cells, hg1, hb1, hrow, hcs2, htk2, hfit2, hcm2, hgb⟩
      rw [htk] at htk2
      have hk : Kb b lo w w1 := hk2.grown (by simpa [World.setCell] using hlow) hgb
      have hgl2 : lo ≤ g2 := by have : w.heap.size ≤ g2 := by simpa [World.setCell] using hg1
                                omega
      have hcp := HC.out w1 g2 cap2 cells hk hrow hcs2 hfit2
      obtain ⟨r1, r2⟩ := buf_end (bs := bs) (cs := cs) (n := n) hk hb1 hrow hgl2 hblo hcs2 htk2 hfit2 hcm2 hn hn1
      have R1 : Hid _ := r1
      have R2 : Hid _ := r2
      obtain ⟨d0, d1, d2, hff⟩ := hb1.cells
      unfold maxLen at hcm2
      have j1 : (bs.length : Int) + (n : Int) ≤ (cap2 : Int) := by omega
      have j2 : (cap2 : Int) ≤ 9223372036854775807 := by omega
      have j3 : ¬ cap2 = bs.length := by omega
      clear hff r1 r2 HC htk htk2 hgb hg1
      go_wp2_with fail
      go_ret2
      exact ⟨rfl, R1, R2⟩

set_option maxHeartbeats 400000 in
/-- Bytes: the buffer's own row. -/
theorem bytes_any (b : Nat) (ao : Option Addr) (l cap : Nat) (lr : Int) (w : World) (h : Head w b (.slice ao l cap) lr) (hl : l ≤ cap) (hc : cap ≤ maxLen) :
    Calls Tryd.prog 18 #[.pointer (some ⟨b, 0, none⟩)] w fun e w' => e = .returned (.slice ao l cap) ∧ ∃ q, w' = w.drewN q := by
  obtain ⟨c0, c1, c2, hf⟩ := h.cells
  unfold maxLen at hc
  have i1 : (l : Int) ≤ (cap : Int) := by omega
  clear hf h
  go_enter Tryd.func18, Tryd.ntmps18
  go_wp2
  go_quiet (fail)
  go_wp2
  go_ret
  exact ⟨rfl, _, rfl⟩

end Go.Proofs.Qxb6616880aDoor
