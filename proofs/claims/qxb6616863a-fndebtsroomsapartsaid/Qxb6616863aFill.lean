/- The filling of a slice of debts within its capacity: the law on append for the walk, and what a round leaves. -/
import Derived.Test.Qxb6616863aShape
namespace Go.Proofs.Qxb6616863a
open Go.RowKit

/-- 'append' where there is room, whatever the slice's place in its block. -/
theorem wpList_append_room {P : Program} (w : World) {ops : Array Oper} {rest : List Oper} {o : Oper} {a : Act} {Q : Exit → Act → World → Prop}
    (hg : o.guard = none) (s x : Operand) (t : TypeId) (hop : o.op = Op.call { callee := Callee.builtin Builtin.append, args := #[s, x], argTypes := #[t, t] })
    (e : TypeId) (i : TypeInfo) (size : Nat) (h1 : P.underlying t = some (.slice e)) (h2 : P.info? e = some i) (h4 : i.size = size)
    (b off n cap : Nat) (hs : a.eval s = .slice (some ⟨b, off, none⟩) n cap)
    (ad : Addr) (m c : Nat) (news : List Value) (hx : a.eval x = .slice (some ad) m c) (hn : news.length = m * size) (hc : ∀ j u, news[j]? = some u → w.cell? (ad.add j) = some u) (h1c : ∀ u ∈ news, u.oneCell' = true)
    (hr : n + m ≤ cap) (hsp : ∀ j, j < news.length → (w.cell? ⟨b, off + n * size + j, none⟩).isSome = true ∧ w.frozen? ⟨b, off + n * size + j, none⟩ = false)
    (hroom : wpList P ops Q rest (a.put o.dst (.slice (some ⟨b, off, none⟩) (n + m) cap)) (w.setCells b (off + n * size) news)) :
    wpList P ops Q (o :: rest) a w := by
  refine wpList_plain hg fun K hK' => ?_
  subst h4
  have hrun := run_append_room_cells (P := P) w t o.type e i h1 h2 b off n cap ad m c news hn hc h1c hr (fun j hj => (hsp j hj).1) (fun j hj => (hsp j hj).2)
  unfold Oper.wp
  simp [execOp, hop, resolve, invoke, builtin, hs, hx, hrun, Result.andThen]
  exact hK' _ _ hroom

def one (s : ByteArray) : List Value := [.string s, .int .u64 0, .pointer none, .int .i64 0]
def oneBlock (s : ByteArray) : Obj := .cells #[.string s, .int .u64 0, .pointer none, .int .i64 0] 32

/-- The first j debts of the slice at ro are s; what lies elsewhere is as it was in w1. -/
structure Filled (W w1 : World) (ro : Option Addr) (n j : Nat) (s : ByteArray) (wr : World) : Prop where
  grown : Grown W wr
  size : w1.heap.size ≤ wr.heap.size
  stay : ∀ a, (w1.cell? a).isSome = true → (wr.cell? a).isSome = true
  out : ∀ a : Addr, (w1.cell? a).isSome = true → (∀ g o, ro = some ⟨g, o, none⟩ → a.block = g → a.off < o ∨ o + 4 * n ≤ a.off) → wr.cell? a = w1.cell? a
  strs : ∀ g o, ro = some ⟨g, o, none⟩ → ∀ i, i < j → wr.cell? ⟨g, o + 4 * i, none⟩ = some (.string s)

theorem Filled.start {W w1 : World} (h : Grown W w1) (ro : Option Addr) (n : Nat) (s : ByteArray) : Filled W w1 ro n 0 s w1 :=
  ⟨h, Nat.le_refl _, fun _ h => h, fun _ _ _ => rfl, fun _ _ _ i hi => absurd hi (by omega)⟩

theorem grown_setCells {W : World} (b : Nat) (hb : W.heap.size ≤ b) : ∀ (vs : List Value) (o : Nat) (w : World), Grown W w → Grown W (w.setCells b o vs)
  | [], _, _, h => h
  | v :: r, o, w, h => by rw [World.setCells]; exact grown_setCells b hb r (o + 1) _ (h.setCell hb v)

theorem size_setCells (b : Nat) : ∀ (vs : List Value) (o : Nat) (w : World), (w.setCells b o vs).heap.size = w.heap.size
  | [], _, _ => rfl
  | v :: r, o, w => by rw [World.setCells, size_setCells b r]; simp [World.setCell]

theorem some_alloc {w : World} {a : Addr} (h : (w.cell? a).isSome = true) (o : Obj) : (w.alloc o).cell? a = w.cell? a := World.cell?_alloc_lt w o a (lt_of_some h)

theorem frozen_grown {W w : World} (h : Grown W w) {a : Addr} (ha : W.heap.size ≤ a.block) : w.frozen? a = false := by
  rw [h.2.1 a]
  have : W.heap[a.block]? = none := by simpa using ha
  simp [World.frozen?, this]

theorem setCells_some {w : World} {b : Nat} {vs : List Value} {o : Nat} (hs : ∀ j, j < vs.length → (w.cell? ⟨b, o + j, none⟩).isSome = true) {a : Addr} (ha : (w.cell? a).isSome = true) : ((w.setCells b o vs).cell? a).isSome = true := by
  by_cases h : a.block = b ∧ a.spot = none ∧ o ≤ a.off ∧ a.off < o + vs.length
  · obtain ⟨h1, h2, h3, h4⟩ := h
    have e : a = ⟨b, o + (a.off - o), none⟩ := by cases a; simp_all
    rw [e, World.cell?_setCells_in b vs o w hs (a.off - o) (by omega)]
    rfl
  · rw [World.cell?_setCells_out b vs o w a (fun h1 h2 => by
      by_cases h3 : o ≤ a.off
      · by_cases h4 : a.off < o + vs.length
        · exact absurd ⟨h1, h2, h3, h4⟩ h
        · omega
      · omega)]
    exact ha

theorem Filled.round {W w1 wr : World} {g o n j : Nat} {s : ByteArray} (hf : Filled W w1 (some ⟨g, o, none⟩) n j s wr) (hj : j < n) (hg : W.heap.size ≤ g)
    (hs : ∀ i, i < 4 * n → (w1.cell? ⟨g, o + i, none⟩).isSome = true) : Filled W w1 (some ⟨g, o, none⟩) n (j + 1) s ((wr.alloc (oneBlock s)).setCells g (o + j * 4) (one s)) := by
  have hl : (one s).length = 4 := rfl
  have hin : ∀ i, i < (one s).length → (((wr.alloc (oneBlock s))).cell? ⟨g, o + j * 4 + i, none⟩).isSome = true := fun i hi => by
    have h1 := hf.stay _ (hs (j * 4 + i) (by rw [hl] at hi; omega))
    rw [show o + j * 4 + i = o + (j * 4 + i) by omega, some_alloc h1]
    exact h1
  refine ⟨grown_setCells g hg _ _ _ (hf.grown.alloc _ _), ?_, fun a ha => ?_, fun a ha hout => ?_, fun g' o' he i hi => ?_⟩
  · rw [size_setCells]; have := hf.size; simp; omega
  · refine setCells_some hin ?_
    rw [some_alloc (hf.stay a ha)]
    exact hf.stay a ha
  · rw [World.cell?_setCells_out g _ _ _ a (fun h1 _ => by rw [hl]; have := hout g o rfl h1; omega), some_alloc (hf.stay a ha)]
    exact hf.out a ha hout
  · simp at he
    obtain ⟨rfl, rfl⟩ := he
    by_cases h : i = j
    · subst h
      have h0 := World.cell?_setCells_in g (one s) (o + i * 4) (wr.alloc (oneBlock s)) hin 0 (by rw [hl]; omega)
      rw [Nat.add_zero] at h0
      rw [Nat.mul_comm 4 i, h0]
      rfl
    · have h1 := hf.strs g o rfl i (by omega)
      rw [World.cell?_setCells_out g _ _ _ _ (fun _ _ => by rw [hl]; simp; omega), some_alloc (by rw [h1]; rfl)]
      exact h1

theorem news_at (s : ByteArray) (w : World) : ∀ j u, (one s)[j]? = some u → (w.alloc (oneBlock s)).cell? ((⟨w.heap.size, 0, none⟩ : Addr).add j) = some u := by
  intro j u h
  rw [Addr.add_lit, oneBlock, World.cell?_alloc_new, Nat.zero_add, ← h, List.getElem?_toArray]
  rfl

theorem news_one (s : ByteArray) : ∀ u ∈ one s, u.oneCell' = true := by
  intro u h
  simp [one] at h
  rcases h with rfl | rfl | rfl | rfl <;> rfl

theorem spare_at {W w1 wr : World} {g o n j : Nat} {s s' : ByteArray} (hf : Filled W w1 (some ⟨g, o, none⟩) n j s wr) (hj : j < n) (hg : W.heap.size ≤ g)
    (hs : ∀ i, i < 4 * n → (w1.cell? ⟨g, o + i, none⟩).isSome = true) : ∀ i, i < (one s').length → ((wr.alloc (oneBlock s')).cell? ⟨g, o + j * 4 + i, none⟩).isSome = true ∧ (wr.alloc (oneBlock s')).frozen? ⟨g, o + j * 4 + i, none⟩ = false := by
  intro i hi
  have hi' : i < 4 := hi
  refine ⟨?_, frozen_grown (hf.grown.alloc _ _) hg⟩
  have h1 := hf.stay _ (hs (j * 4 + i) (by omega))
  rw [show o + j * 4 + i = o + (j * 4 + i) by omega, some_alloc h1]
  exact h1

end Go.Proofs.Qxb6616863a
