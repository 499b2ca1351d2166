/- Worlds that only grow; what is carried along them; the plain law. -/
import Derived.Test.Qxb6616880aDoorBound
namespace Go.Proofs.Qxb6616880aDoor
open Go.RowKit
set_option linter.unusedVariables false
set_option linter.unusedSimpArgs false

/-- w' has at most new blocks beyond w's. -/
def Ext (w w' : World) : Prop := Below w.heap.size w w'

theorem Ext.refl (w : World) : Ext w w := Below.refl _ _
theorem Ext.trans {a b c : World} (h : Ext a b) (k : Ext b c) : Ext a c := Below.trans h (Below.of_le k h.size)
theorem Ext.drewN {a b : World} (h : Ext a b) (q : Nat) : Ext a (b.drewN q) := ⟨h.os, h.tape, h.output, h.size, h.block⟩
theorem Sl.ext {w w' : World} {b off n c : Nat} {r : List Int} (h : Sl w w.heap.size b off n c r) (he : Ext w w') : Sl w' w'.heap.size b off n c r := (h.mono he).widen he.size
theorem Args.ext {w w' : World} {ao : Option Addr} {rs : List (List Int)} (h : Args w w.heap.size ao rs) (he : Ext w w') : Args w' w'.heap.size ao rs := (h.mono he).widen he.size
theorem Tab.ext {w w' : World} (h : Tab w.heap.size w) (he : Ext w w') : Tab w'.heap.size w' := fun w2 hb => h w2 (Below.trans he (Below.of_le hb he.size))

theorem Args.take {w : World} {s : Nat} {ao : Option Addr} {rs : List (List Int)} (h : Args w s ao rs) (k : Nat) : Args w s ao (rs.take k) := by
  rcases h with h | ⟨b, off, h1, h2, h3⟩
  · exact .inl (by rw [h]; simp)
  · refine .inr ⟨b, off, h1, h2, fun i r hi => h3 i r ?_⟩
    by_cases hk : i < k
    · rwa [List.getElem?_take_of_lt hk] at hi
    · rw [List.getElem?_take, if_neg hk] at hi; cases hi

/-- The address of 'args[k:]'. -/
def dropA (ao : Option Addr) (c k : Nat) : Option Addr := if c = k then ao else ao.map (·.add k)

theorem Args.drop {w : World} {s : Nat} {ao : Option Addr} {rs : List (List Int)} (h : Args w s ao rs) {k c : Nat} (hc : rs.length ≤ c) : Args w s (dropA ao c k) (rs.drop k) := by
  by_cases hk : rs.length ≤ k
  · exact .inl (List.drop_eq_nil_of_le hk)
  rcases h with h | ⟨b, off, h1, h2, h3⟩
  · exact .inl (by rw [h]; simp)
  · refine .inr ⟨b, off + k, ?_, h2, fun i r hi => ?_⟩
    · rw [dropA, if_neg (by omega), h1, Option.map_some, Addr.add_lit]
    · rw [List.getElem?_drop] at hi
      rw [Nat.add_assoc]
      exact h3 _ r hi

theorem cmd_split (rs : List (List Int)) (k : Nat) (hk : k ≤ rs.length) : cmdI rs = hdrI 42 rs.length ++ ((cmdI (rs.take k)).drop (hdrI 42 k).length ++ (cmdI (rs.drop k)).drop (hdrI 42 (rs.length - k)).length) := by
  have h1 : (rs.take k).length = k := by rw [List.length_take]; omega
  have h2 : (rs.drop k).length = rs.length - k := by rw [List.length_drop]
  rw [cmdI, cmdI, cmdI, h1, h2, List.drop_left, List.drop_left, ← body_append, List.take_append_drop]

theorem cmd_len (rs : List (List Int)) (h : tot rs ≤ 1048576) : (cmdI rs).length ≤ 4194304 := by
  have hc := count_tot rs
  rw [cmdI, List.length_append]
  have h1 := hdrI_len 42 rs.length (by omega)
  have h2 := body_len rs (fun r hr => Nat.le_trans (len_tot rs r hr) h)
  omega

theorem cmd_ne (rs : List (List Int)) : cmdI rs ≠ [] := by simp [cmdI, hdrI]

/-- zzCommandBytes, its slice told. -/
theorem cmdbytes_sl (ao : Option Addr) (m c : Nat) (rs : List (List Int)) (hm : Hid (rs.length = m)) (w : World) (hT : Tab w.heap.size w) (hm1 : m ≤ 65536) (htot : tot rs ≤ 1048576) (ha : Args w w.heap.size ao rs) :
    Calls Tryd.prog 5 #[.slice ao m c] w fun e w' => ∃ b off n cp, e = .returned (.slice (some ⟨b, off, none⟩) n cp) ∧ Hid (Sl w' w'.heap.size b off n cp (cmdI rs)) ∧ n ≤ 4194304 ∧ Hid (Ext w w') := by
  refine (cmdbytes_any ao m c rs hm w hT hm1 htot ha).mono ?_
  rintro e w' ⟨v, rfl, hv, hb⟩
  obtain ⟨b, off, n, cp, rfl, hsl⟩ := hv.sl (cmd_ne rs)
  exact ⟨b, off, n, cp, rfl, hsl, by rw [← hsl.len]; exact cmd_len rs htot, hb⟩

theorem headercrlf_sl (n : Nat) (hn : n ≤ 1048576) (w : World) :
    Calls Tryd.prog 9 #[.int .u8 42, .int .i64 n] w fun e w' => ∃ g cp k, e = .returned (.slice (some ⟨g, 0, none⟩) k cp) ∧ Hid (Sl w' w'.heap.size g 0 k cp (hdrI 42 n)) ∧ k ≤ 23 ∧ Hid (Ext w w') := by
  refine (headercrlf_any 42 n hn w).mono ?_
  rintro e w' ⟨g, cp, k, rfl, hsl, hb⟩
  exact ⟨g, cp, k, rfl, hsl, by rw [← hsl.len]; exact hdrI_len 42 n hn, hb⟩

theorem concat_sl (b1 o1 n1 c1 b2 o2 n2 c2 : Nat) (r1 r2 : List Int) (w : World) (h1 : Sl w w.heap.size b1 o1 n1 c1 r1) (h2 : Sl w w.heap.size b2 o2 n2 c2 r2) (hn1 : n1 ≤ 16777216) (hn2 : n2 ≤ 16777216) :
    Calls Tryd.prog 11 #[.slice (some ⟨b1, o1, none⟩) n1 c1, .slice (some ⟨b2, o2, none⟩) n2 c2] w fun e w' => ∃ g c, e = .returned (.slice (some ⟨g, 0, none⟩) (n1 + n2) c) ∧ Hid (Sl w' w'.heap.size g 0 (n1 + n2) c (r1 ++ r2)) ∧ Hid (Ext w w') := by
  refine (concat_any b1 o1 n1 c1 b2 o2 n2 c2 r1 r2 w h1 h2 hn1 hn2).mono ?_
  rintro e w' ⟨g, c, rfl, hsl, hb⟩
  exact ⟨g, c, rfl, hsl, hb⟩

end Go.Proofs.Qxb6616880aDoor
