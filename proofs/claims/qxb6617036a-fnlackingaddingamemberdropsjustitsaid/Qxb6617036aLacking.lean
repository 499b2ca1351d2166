/- lacking (11) and ZZlacking (7). -/
import Derived.Test.Qxb6617036aMem
import Derived.Maps.OwnSet
import Derived.Maps.Views
namespace Go.Proofs.Qxb6617036a
open Go.RowKit
set_option linter.unusedVariables false
set_option linter.unusedSimpArgs false

theorem Try.info9 : (Try.prog.info? 9).map (fun i => (i.zero, i.size, i.bytes)) = some (some (.string ⟨#[]⟩), 1, 16) := by kernel_rfl
theorem keyed9 : Maps.Keyed Try.prog 9 := Maps.string_keyed Try.underlying9
theorem make_map (n : Nat) (w : World) : (Instr.makeMap 28 (some (.int .i64 (n : Int)))).run Try.prog w = .ok (.map (some w.heap.size)) (w.alloc (.map #[] 0)) := by
  simp [Instr.makeMap, run_underlying Try.underlying28, asInt]
  rfl
theorem zero_any (w : World) : (zeroValue 20).run Try.prog w = .ok .nilIface w := by kernel_rfl

/-- How an element of the object reads: nil alone. -/
def nilElem : Value → Option (DataW Unit × List MemPlace)
  | .nilIface => some (.agg [], [])
  | _ => none

theorem nilElem_inv {v : Value} {z : DataW Unit × List MemPlace} (h : nilElem v = some z) : v = .nilIface := by
  unfold nilElem at h
  split at h
  · rfl
  · cases h

def kl (s : ByteArray) : Lit := .string s.data.toList

theorem kl_inj {s t : ByteArray} (h : kl s = kl t) : s = t := by
  simp only [kl, Lit.string.injEq] at h
  exact ByteArray.ext (Array.toList_inj.mp h)

theorem key_of {s : ByteArray} (h : s.size ≤ maxLen) : keyOf Try.prog 9 (.string s) = some (kl s) := WideMaps.keyOf_string_mk Try.underlying9 h

theorem isKey (s : ByteArray) : WideAt.IsKeyLit (kl s) := by simp [kl, WideAt.IsKeyLit]

/-- The object of the keys. -/
def obj (ks : List ByteArray) : DataW Unit := ks.foldl (fun D k => D.put (kl k) (.agg [])) (.map [])

theorem obj_snoc (ks : List ByteArray) (k : ByteArray) : obj (ks ++ [k]) = (obj ks).put (kl k) (.agg []) := by simp [obj, List.foldl_append]

theorem put_isMap {D : DataW Unit} (h : Maps.IsMap D) (k : Lit) (d : DataW Unit) : Maps.IsMap (D.put k d) := by
  obtain ⟨es, rfl⟩ := h
  exact ⟨_, rfl⟩

theorem fold_has (x : ByteArray) : ∀ (ks : List ByteArray) (D : DataW Unit), Maps.IsMap D → Maps.has (ks.foldl (fun D k => D.put (kl k) (.agg [])) D) (kl x) = (Maps.has D (kl x) || mem ks x)
  | [], D, _ => by simp [mem]
  | k :: r, D, h => by
    rw [List.foldl_cons, fold_has x r _ (put_isMap h _ _)]
    by_cases e : k = x
    · subst e
      rw [Maps.has_put_same h (isKey k)]
      simp [mem]
    · rw [Maps.has_put_other (fun h => e (kl_inj h).symm)]
      simp [mem, e]

theorem obj_has (ks : List ByteArray) (x : ByteArray) : Maps.has (obj ks) (kl x) = mem ks x := by
  rw [obj, fold_has x ks _ ⟨_, rfl⟩]
  simp [Maps.has]

theorem wpList_lookup_nil {w : World} {ops : Array Oper} {rest : List Oper} {o : Oper} {a : Act} {Q : Exit → Act → World → Prop} (hg : o.guard = none) (m x : Operand) (hop : o.op = Op.lookup 28 m x true)
    (b n : Nat) (D : DataW Unit) (hm : a.eval m = .map (some b)) (hown : w.ownsMap Try.prog 9 nilElem b n D) (s : ByteArray) (hs : s.size ≤ maxLen) (hx : a.eval x = .string s) (c : Bool) (hc : Maps.has D (kl s) = c)
    (hK : wpList Try.prog ops Q rest (a.put o.dst (.tuple #[.nilIface, .bool c])) w) :
    wpList Try.prog ops Q (o :: rest) a w :=
  wpList_lookup_own_ok w hg m x 28 hop 9 20 keyed9 Try.underlying28 nilElem (zero_any w) (.agg []) [] rfl b n D hm hown (.string s) (kl s) hx (key_of hs) (fun v ps hv => by
    obtain rfl := nilElem_inv hv
    rw [hc]
    exact hK)

def lack (D : DataW Unit) (ns : List ByteArray) : List ByteArray := ns.filter (fun x => !Maps.has D (kl x))

theorem take_next {ss : List ByteArray} {j : Nat} (hj : j < ss.length) : ss.take (j + 1) = ss.take j ++ [ss.getD j ByteArray.empty] := by
  rw [List.take_succ_eq_append_getElem hj, getD_at hj]

theorem lack_yes {D : DataW Unit} {ns : List ByteArray} {j : Nat} {s : ByteArray} (hj : j < ns.length) (hs : s = ns.getD j ByteArray.empty) (h : Maps.has D (kl s) = true) : lack D (ns.take (j + 1)) = lack D (ns.take j) := by
  rw [take_next hj, ← hs]
  simp [lack, List.filter_append, h]

theorem lack_no {D : DataW Unit} {ns : List ByteArray} {j : Nat} {s : ByteArray} (hj : j < ns.length) (hs : s = ns.getD j ByteArray.empty) (h : Maps.has D (kl s) = false) : lack D (ns.take (j + 1)) = lack D (ns.take j) ++ [s] := by
  rw [take_next hj, ← hs]
  simp [lack, List.filter_append, h]

theorem lack_le (D : DataW Unit) (ns : List ByteArray) : (lack D ns).length ≤ ns.length := List.length_filter_le _ _

/-- v is a slice of the call's own that holds the strings R; nil where there is none. -/
def Holds (B : Nat) (v : Value) (R : List ByteArray) (w : World) : Prop := w.ownsRow B 9 1 v R.length (R.map Value.string) ∧ (R = [] → v = .slice none 0 0)

theorem lt_of_cell {w : World} {a : Addr} {v : Value} (h : w.cell? a = some v) : a.block < w.heap.size := by
  cases hh : w.heap[a.block]? with
  | none => simp [World.cell?, hh] at h
  | some o => exact (Array.getElem?_eq_some_iff.1 hh).1

theorem ownBlock_of {B : Nat} {v : Value} {R : List ByteArray} {w : World} (h : Holds B v R w) : ∀ k, v.ownBlock = some k → B ≤ k := by
  intro k hk
  obtain ⟨⟨_, ⟨rfl, _⟩ | ⟨g, cap, cur, rfl, hg, _⟩⟩, _⟩ := h
  · simp [Value.ownBlock] at hk
  · simp [Value.ownBlock] at hk
    omega

set_option maxHeartbeats 1000000 in
theorem lacking_any (bm n0 : Nat) (D : DataW Unit) (a2 : Option Addr) (n2 c2 : Nat) (ns : List ByteArray) (w : World) (hm : w.ownsMap Try.prog 9 nilElem bm n0 D)
    (h2 : Row w a2 ns) (e2 : Hid (ns.length = n2)) (b2 : n2 ≤ 4096) (s2 : ∀ s ∈ ns, s.size ≤ maxLen) :
    Calls Try.prog 11 #[.map (some bm), .slice a2 n2 c2] w fun e w' => ∃ v, e = .returned v ∧ Holds w.heap.size v (lack D ns) w' ∧ Below w.heap.size w w' := by
  obtain ⟨i0, hi, hz0, hz1, hz2⟩ := info_parts Try.info9
  go_enter Try.func11, Try.ntmps11
  go_wp2
  go_loopw [5, 12] (fun v i wr => ∃ j : Nat, j ≤ n2 ∧ i = .int .i64 j ∧ Holds w.heap.size v (lack D (ns.take j)) wr ∧ Below w.heap.size w wr) (fun _ i _ => n2 - (intOf i).toNat)
  case atStart => exact ⟨0, Nat.zero_le _, rfl, ⟨World.ownsRow_nil _ _ _ _, fun _ => rfl⟩, Below.refl _ _⟩
  case round =>
    obtain ⟨j, hj, rfl, hown, hbel⟩ := hrel
    by_cases hlt : j < n2
    · have hjl : j < ns.length := by rw [e2.out]; exact hlt
      obtain ⟨b, off, s, rfl, hc, hs⟩ := h2.at (i := j) hjl
      have hb : b < w.heap.size := lt_of_cell hc
      have hcr : wr.cell? ⟨b, off + j, none⟩ = some (.string s) := (hbel.cell hb).trans hc
      have hlt' : (j : Int) < (n2 : Int) := by omega
      have hsz : s.size ≤ maxLen := s2 s (by rw [hs.out, getD_at hjl]; exact List.getElem_mem _)
      have hmr : wr.ownsMap Try.prog 9 nilElem bm n0 D := by
        obtain ⟨es, clock, hh, r⟩ := hm
        exact ⟨es, clock, by rw [hbel.block bm (Array.getElem?_eq_some_iff.1 hh).1]; exact hh, r⟩
      have hle := lack_le D (ns.take j)
      have hle2 : (ns.take j).length ≤ j := List.length_take_le _ _
      clear h2 hm s2 hc
      cases hhas : Maps.has D (kl s)
      · have HF : Hid (lack D (ns.take (j + 1)) = lack D (ns.take j) ++ [s]) := lack_no hjl hs.out hhas
        have HH : Hid (Maps.has D (kl s) = false) := hhas
        clear hhas
        go_wp2_with (first
          | (at_lookup; refine wpList_lookup_nil rfl _ _ rfl bm n0 D rfl hmr s hsz rfl false HH.out ?_)
          | (at_builtin; refine wpList_append_own _ rfl _ _ 22 rfl w.heap.size 9 i0 (.string ⟨#[]⟩) 1 16 Try.underlying22 hi hz0 hz1 hz2 rfl (by decide) _ _ _ rfl (World.ownsRow.alloc hown.1 _) ⟨wr.heap.size, 0, none⟩ 1 1 [.string s] rfl rfl ?c1 ?c2 ?c3 ?c4 ?c5 ?_))
        case c1 =>
          intro t u ht
          match t, ht with
          | 0, ht => simp at ht; subst ht; simp [Addr.add]
        case c2 => intro u hu; simp at hu; subst hu; rfl
        case c3 => unfold maxLen; omega
        case c4 => omega
        case c5 => have := hbel.size; simp; omega
        intro v' w1 hown' hgrow _
        have hB : w.heap.size ≤ wr.heap.size := hbel.size
        have R : Hid (Holds w.heap.size v' (lack D (ns.take (j + 1))) w1) := by
          rw [HF.out]
          unfold Hid Holds
          refine ⟨?_, fun h => absurd h (by simp)⟩
          rw [List.map_append, List.length_append]
          exact hown'
        have R2 : Hid (Below w.heap.size w w1) := ((hbel.alloc hB _).grown hgrow (by simp; omega) (ownBlock_of hown))
        clear hown' hgrow hown hmr hbel
        go_wp2
        go_roundw
        case rel => exact ⟨j + 1, by omega, by go_num, R, R2⟩
        case measure => simp [intOf]; omega
      · have HF : Hid (lack D (ns.take (j + 1)) = lack D (ns.take j)) := lack_yes hjl hs.out hhas
        have HH : Hid (Maps.has D (kl s) = true) := hhas
        clear hhas
        go_wp2_with (first
          | (at_lookup; refine wpList_lookup_nil rfl _ _ rfl bm n0 D rfl hmr s hsz rfl true HH.out ?_))
        go_roundw
        case rel => exact ⟨j + 1, by omega, by go_num, by rw [HF.out]; exact hown, hbel⟩
        case measure => simp [intOf]; omega
    · have hnl : ¬ (j : Int) < (n2 : Int) := by omega
      clear h2 hm s2
      go_wp2
      go_ret
      refine ⟨_, rfl, ?_, hbel⟩
      rw [List.take_of_length_le (by have := e2.out; omega)] at hown
      exact hown

theorem obj_next {ks : List ByteArray} {j : Nat} {s : ByteArray} (hj : j < ks.length) (hs : s = ks.getD j ByteArray.empty) : obj (ks.take (j + 1)) = (obj (ks.take j)).put (kl s) (.agg []) := by
  rw [take_next hj, ← hs, obj_snoc]

theorem Row.below {w w' : World} {ao : Option Addr} {ss : List ByteArray} (h : Row w ao ss) (hb : Below w.heap.size w w') : Row w' ao ss := by
  rcases h with rfl | ⟨b, off, h1, h2⟩
  · exact .inl rfl
  · exact .inr ⟨b, off, h1, fun i hi => by rw [hb.cell (lt_of_cell (h2 i hi))]; exact h2 i hi⟩

theorem lack_obj (ks ns : List ByteArray) : lack (obj ks) ns = ns.filter (fun x => !mem ks x) := by
  unfold lack
  congr 1
  funext x
  rw [obj_has]

set_option maxHeartbeats 1000000 in
theorem zzlacking_any (a1 a2 : Option Addr) (n1 c1 n2 c2 : Nat) (ks ns : List ByteArray) (w : World)
    (h1 : Row w a1 ks) (e1 : Hid (ks.length = n1)) (b1 : n1 ≤ 65536) (s1 : ∀ s ∈ ks, s.size ≤ maxLen) (h2 : Row w a2 ns) (e2 : Hid (ns.length = n2)) (b2 : n2 ≤ 4096) (s2 : ∀ s ∈ ns, s.size ≤ maxLen) :
    Calls Try.prog 7 #[.slice a1 n1 c1, .slice a2 n2 c2] w fun e w' => ∃ v, e = .returned v ∧ Holds w.heap.size v (lack (obj ks) ns) w' ∧ Below w.heap.size w w' := by
  have hmm := make_map n1
  go_enter Try.func7, Try.ntmps7
  go_wp2_with fail
  go_loopw [13] (fun i wr => ∃ j : Nat, j ≤ n1 ∧ i = .int .i64 j ∧ wr.ownsMap Try.prog 9 nilElem w.heap.size j (obj (ks.take j)) ∧ Below w.heap.size w wr) (fun i _ => n1 - (intOf i).toNat)
  case atStart => exact ⟨0, Nat.zero_le _, rfl, World.ownsMap_made _ _ _ _, (Below.refl _ _).alloc (Nat.le_refl _) _⟩
  case round =>
    obtain ⟨j, hj, rfl, hown, hbel⟩ := hrel
    by_cases hlt : j < n1
    · have hjl : j < ks.length := by rw [e1.out]; exact hlt
      obtain ⟨b, off, s, rfl, hc, hs⟩ := h1.at (i := j) hjl
      have hb : b < w.heap.size := lt_of_cell hc
      have hcr : wr.cell? ⟨b, off + j, none⟩ = some (.string s) := (hbel.cell hb).trans hc
      have hlt' : (j : Int) < (n1 : Int) := by omega
      have hsz : s.size ≤ maxLen := s1 s (by rw [hs.out, getD_at hjl]; exact List.getElem_mem _)
      have HF : Hid (obj (ks.take (j + 1)) = (obj (ks.take j)).put (kl s) (.agg [])) := obj_next hjl hs.out
      clear h1 h2 s1 s2 hc
      go_wp2_with (at_mapUpdate; refine wpList_mapUpdate_own _ rfl _ _ _ 28 rfl 9 20 keyed9 Try.underlying28 nilElem w.heap.size j (obj (ks.take j)) rfl hown (by unfold maxLen; omega) _ _ (kl s) rfl rfl (key_of hsz) (.agg []) [] rfl ?_)
      intro w1 hown1 hgrow1
      have R : Hid (w1.ownsMap Try.prog 9 nilElem w.heap.size (j + 1) (obj (ks.take (j + 1)))) := by rw [HF.out]; exact hown1
      have R2 : Hid (Below w.heap.size w w1) := hbel.grown hgrow1 hbel.size (fun k hk => by simp at hk; omega)
      clear hown1 hgrow1 hown hbel
      go_wp2_with fail
      go_roundw
      case rel => exact ⟨j + 1, by omega, by go_num, R, R2⟩
      case measure => simp [intOf]; omega
    · have hnl : ¬ (j : Int) < (n1 : Int) := by omega
      have hown2 : wr.ownsMap Try.prog 9 nilElem w.heap.size j (obj ks) := by rwa [List.take_of_length_le (by have := e1.out; omega)] at hown
      have h2r := h2.below hbel
      clear h1 h2 s1 hown
      go_wp2_with fail
      refine (lacking_any w.heap.size j (obj ks) a2 n2 c2 ns wr hown2 h2r e2 b2 s2).mono ?_
      rintro e w' ⟨v, rfl, hv, hb'⟩
      have R : Hid (Holds w.heap.size v (lack (obj ks) ns) w') := by
        obtain ⟨⟨hl, h⟩, hnil⟩ := hv
        refine ⟨⟨hl, ?_⟩, hnil⟩
        rcases h with h | ⟨g, cap, cur, hv, hg, r⟩
        · exact .inl h
        · exact .inr ⟨g, cap, cur, hv, by have := hbel.size; omega, r⟩
      have R2 : Hid (Below w.heap.size w w') := hbel.trans (hb'.mono hbel.size)
      clear hv hb' hbel hown2 h2r
      go_wp2_with fail
      go_ret
      exact ⟨_, rfl, R, R2⟩

end Go.Proofs.Qxb6617036a
