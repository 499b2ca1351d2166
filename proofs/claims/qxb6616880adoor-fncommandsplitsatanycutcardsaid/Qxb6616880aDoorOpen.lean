/- A slice of slices of bytes that came in, opened. -/
import Derived.Test.Qxb6616880aDoorLaw
import Derived.Deep.Matrix
import Derived.ProofKit
namespace Go.Proofs.Qxb6616880aDoor
open Go.RowKit Go.WideShapes Go.ChangeShapes
set_option linter.unusedVariables false
set_option linter.unusedSimpArgs false

theorem lt_of_cell {w : World} {a : Addr} {v : Value} (h : w.cell? a = some v) : a.block < w.heap.size := by
  cases hh : w.heap[a.block]? with
  | none => simp [World.cell?, hh] at h
  | some o => exact (Array.getElem?_eq_some_iff.1 hh).1

theorem arg_of {w : World} {ao : Option Addr} {l c : Nat} {zs : List Int} (hl : l ≤ c) (hc : c ≤ maxLen) (hz : zs.length = c) (hn : ao = none → c = 0)
    (hat : ∀ a, ao = some a → ∀ i, i < c → w.cell? (a.add i) = some (.int .u8 (zs.getD i 0))) : Arg w w.heap.size (.slice ao l c) (zs.take l) := by
  have hlen : (zs.take l).length = l := by rw [List.length_take]; omega
  refine ⟨ao, c, by rw [hlen], by rw [hlen]; exact hl, hc, ?_⟩
  by_cases h0 : l = 0
  · exact .inl (by rw [h0, List.take_zero])
  · cases ao with
    | none => have := hn rfl; omega
    | some a =>
      obtain ⟨b, off, spot⟩ := a
      have h00 := hat _ rfl 0 (by omega)
      have hspot : spot = none := by simpa [Addr.add] using World.cell?_spot h00
      subst hspot
      refine .inr ⟨b, off, rfl, by have := lt_of_cell h00; simpa [Addr.add] using this, fun j z hj => ?_⟩
      have hjl : j < l := by have := (List.getElem?_eq_some_iff.1 hj).1; omega
      have := hat _ rfl j (by omega)
      rw [Addr.add_lit] at this
      rw [this]
      rw [List.getElem?_take_of_lt hjl] at hj
      simp [List.getD, hj]

theorem open_args {H : Type} {enc : TypeId × Value → H} {W : World} {a : Option Addr} {n c : Nat} {d : DataW H} {p : List MemPlace}
    (h : DataW.Trod enc Tryd.prog W 0 (fun _ => true) true 22 (.slice a n c) d p) :
    ∃ rs, rs.length = n ∧ n ≤ c ∧ c ≤ maxLen ∧ Args W W.heap.size a rs := by
  obtain ⟨fuel, hf⟩ := h
  rcases Deep.open_int_rows Tryd.underlying22 Tryd.underlying24 Tryd.underlying5 (by kernel_rfl) (by kernel_rfl) hf with ⟨hcs, _⟩ | ⟨x, l, c', A, L, C, Z, hcs, _, hl, hm, _, hat⟩
  · simp [Value.cells] at hcs
    obtain ⟨rfl, rfl, rfl⟩ := hcs
    exact ⟨[], rfl, Nat.le_refl _, Nat.zero_le _, .inl rfl⟩
  · simp [Value.cells] at hcs
    obtain ⟨rfl, rfl, rfl⟩ := hcs
    refine ⟨(List.range n).map fun r => (Z r).take (L r), by simp, hl, hm, ?_⟩
    by_cases h0 : n = 0
    · exact .inl (by rw [h0]; rfl)
    · obtain ⟨b, off, spot⟩ := x
      have h00 := (hat 0 (by omega)).1
      have hspot : spot = none := by simpa [Addr.add] using World.cell?_spot h00
      subst hspot
      refine .inr ⟨b, off, rfl, by have := lt_of_cell h00; simpa [Addr.add] using this, fun i r hi => ?_⟩
      rw [List.getElem?_map] at hi
      obtain ⟨i', hi', rfl⟩ := Option.map_eq_some_iff.1 hi
      have hin : i < n := by have := (List.getElem?_eq_some_iff.1 hi').1; simpa using this
      have : i' = i := by simpa [hin] using hi'.symm
      subst this
      obtain ⟨g1, g2, g3, g4, _, g5, g6⟩ := hat i' (by omega)
      rw [Addr.add_lit] at g1
      exact ⟨_, g1, arg_of g2 g3 g4 g5 (fun a ha => (g6 a ha).2)⟩

end Go.Proofs.Qxb6616880aDoor
