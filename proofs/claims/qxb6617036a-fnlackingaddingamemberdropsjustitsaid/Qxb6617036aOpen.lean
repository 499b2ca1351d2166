/- A slice of strings that came in, opened. -/
import Derived.Test.Qxb6617036aCut
import Derived.SliceStrings
import Derived.ProofKit
namespace Go.Proofs.Qxb6617036a
open Go.RowKit Go.WideShapes Go.ChangeShapes
set_option linter.unusedVariables false
set_option linter.unusedSimpArgs false

theorem row_of {w : World} {x : Addr} {ss : List ByteArray} (h : ∀ i, i < ss.length → w.cell? (x.add i) = some (.string (ss.getD i ByteArray.empty))) : Row w (some x) ss := by
  cases ss with
  | nil => exact .inl rfl
  | cons s r =>
    obtain ⟨b, off, spot⟩ := x
    have h0 := h 0 (by simp)
    have hspot : spot = none := by simpa [Addr.add] using World.cell?_spot h0
    subst hspot
    exact .inr ⟨b, off, rfl, fun i hi => by have := h i hi; rwa [Addr.add_lit] at this⟩

theorem open_names {H : Type} {enc : TypeId × Value → H} {W : World} {a : Option Addr} {n c : Nat} {d : DataW H} {p : List MemPlace}
    (h : DataW.Trod enc Try.prog W 0 (fun _ => true) true 22 (.slice a n c) d p) :
    ∃ ss, NilOr a n c ∧ Row W a ss ∧ ss.length = n ∧ n ≤ maxLen ∧ ∀ s ∈ ss, s.size ≤ maxLen := by
  obtain ⟨fuel, hf⟩ := h
  rcases open_strings Try.underlying22 Try.underlying9 (by kernel_rfl) hf with ⟨hcs, _⟩ | ⟨x, l, c', ss, hcs, _, hl, hm, hz, _, hcell, hws⟩
  · simp [Value.cells] at hcs
    obtain ⟨rfl, rfl, rfl⟩ := hcs
    exact ⟨[], .inl ⟨rfl, rfl, rfl⟩, .inl rfl, rfl, Nat.zero_le _, fun s hs => by simp at hs⟩
  · simp [Value.cells] at hcs
    obtain ⟨rfl, rfl, rfl⟩ := hcs
    have hz' : ss.length = c := by simpa using hz
    exact ⟨ss.take n, .inr ⟨x, rfl⟩, (row_of hcell).take n, by simp; omega, by omega, fun s hs => hws s (List.mem_of_mem_take hs)⟩

end Go.Proofs.Qxb6617036a
