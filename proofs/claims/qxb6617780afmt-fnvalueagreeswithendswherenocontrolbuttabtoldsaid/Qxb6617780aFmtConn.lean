/- CheckConnectionSpecific (6), zzLowerToken (7), zzBytes (5), and the law (3). -/
import Derived.Test.Qxb6617780aFmtFacts
namespace Go.Proofs.Qxb6617780aFmt
open Go.RowKit Go.Extern.Stop Go.Stop Go.Extern
set_option linter.unusedVariables false
set_option linter.unusedSimpArgs false

/-- The five names that are about the connection. -/
def conn (l : List UInt8) : Bool :=
  l == [99, 111, 110, 110, 101, 99, 116, 105, 111, 110] || l == [107, 101, 101, 112, 45, 97, 108, 105, 118, 101] || l == [112, 114, 111, 120, 121, 45, 99, 111, 110, 110, 101, 99, 116, 105, 111, 110]
    || l == [116, 114, 97, 110, 115, 102, 101, 114, 45, 101, 110, 99, 111, 100, 105, 110, 103] || l == [117, 112, 103, 114, 97, 100, 101]

theorem cell_one (w : World) (nm : ByteArray) : (w.alloc (.cells #[.iface 9 (.string nm)] 20)).cell? ⟨w.heap.size, 0, none⟩ = some (.iface 9 (.string nm)) := by
  rw [World.cell?_alloc_new]
  rfl

set_option maxHeartbeats 1600000 in
theorem conn_bad (F : Interp) (nm v : ByteArray) (w : World) (hF : F.answers w.tape) (h : conn nm.toList = true) :
    Calls Tryf.prog 6 #[.string nm, .string v] w fun e w' => isErr e ∧ ∀ W, Fine W w → Fine W w' := by
  unfold conn at h
  cases h1 : (nm.toList == [99, 111, 110, 110, 101, 99, 116, 105, 111, 110])
  · cases h2 : (nm.toList == [107, 101, 101, 112, 45, 97, 108, 105, 118, 101])
    · cases h3 : (nm.toList == [112, 114, 111, 120, 121, 45, 99, 111, 110, 110, 101, 99, 116, 105, 111, 110])
      · cases h4 : (nm.toList == [116, 114, 97, 110, 115, 102, 101, 114, 45, 101, 110, 99, 111, 100, 105, 110, 103])
        · have h5 : (nm.toList == [117, 112, 103, 114, 97, 100, 101]) = true := by rw [h1, h2, h3, h4] at h; simpa using h
          clear h
          go_enter Tryf.func6, Tryf.ntmps6
          go_wp2_with fail
          refine (errorf_s F nm _ _ (by exact hF) (cell_one w nm)).mono ?_
          rintro e w' ⟨⟨a, rfl⟩, hg⟩
          have HG : Hid _ := hg
          clear hg
          go_wp2_with fail
          go_ret
          exact ⟨⟨_, rfl⟩, fun W h => HG.out W ⟨h.1.alloc _ _, h.2⟩⟩
        · clear h
          go_enter Tryf.func6, Tryf.ntmps6
          go_wp2_with fail
          refine (errorf_s F nm _ _ (by exact hF) (cell_one w nm)).mono ?_
          rintro e w' ⟨⟨a, rfl⟩, hg⟩
          have HG : Hid _ := hg
          clear hg
          go_wp2_with fail
          go_ret
          exact ⟨⟨_, rfl⟩, fun W h => HG.out W ⟨h.1.alloc _ _, h.2⟩⟩
      · clear h
        go_enter Tryf.func6, Tryf.ntmps6
        go_wp2_with fail
        refine (errorf_s F nm _ _ (by exact hF) (cell_one w nm)).mono ?_
        rintro e w' ⟨⟨a, rfl⟩, hg⟩
        have HG : Hid _ := hg
        clear hg
        go_wp2_with fail
        go_ret
        exact ⟨⟨_, rfl⟩, fun W h => HG.out W ⟨h.1.alloc _ _, h.2⟩⟩
    · clear h
      go_enter Tryf.func6, Tryf.ntmps6
      go_wp2_with fail
      refine (errorf_s F nm _ _ (by exact hF) (cell_one w nm)).mono ?_
      rintro e w' ⟨⟨a, rfl⟩, hg⟩
      have HG : Hid _ := hg
      clear hg
      go_wp2_with fail
      go_ret
      exact ⟨⟨_, rfl⟩, fun W h => HG.out W ⟨h.1.alloc _ _, h.2⟩⟩
  · clear h
    go_enter Tryf.func6, Tryf.ntmps6
    go_wp2_with fail
    refine (errorf_s F nm _ _ (by exact hF) (cell_one w nm)).mono ?_
    rintro e w' ⟨⟨a, rfl⟩, hg⟩
    have HG : Hid _ := hg
    clear hg
    go_wp2_with fail
    go_ret
    exact ⟨⟨_, rfl⟩, fun W h => HG.out W ⟨h.1.alloc _ _, h.2⟩⟩

theorem conn_parts {l : List UInt8} (h : conn l = false) : (l == [99, 111, 110, 110, 101, 99, 116, 105, 111, 110]) = false ∧ (l == [107, 101, 101, 112, 45, 97, 108, 105, 118, 101]) = false ∧ (l == [112, 114, 111, 120, 121, 45, 99, 111, 110, 110, 101, 99, 116, 105, 111, 110]) = false
    ∧ (l == [116, 114, 97, 110, 115, 102, 101, 114, 45, 101, 110, 99, 111, 100, 105, 110, 103]) = false ∧ (l == [117, 112, 103, 114, 97, 100, 101]) = false := by
  simp only [conn, Bool.or_eq_false_iff] at h
  exact ⟨h.1.1.1.1, h.1.1.1.2, h.1.1.2, h.1.2, h.2⟩

set_option maxHeartbeats 800000 in
theorem te_bad (nm v : ByteArray) (w : World) (h : conn nm.toList = false) (ht : (nm.toList == [116, 101]) = true) (hv : (v.toList == [116, 114, 97, 105, 108, 101, 114, 115]) = false) :
    Calls Tryf.prog 6 #[.string nm, .string v] w fun e w' => isErr e ∧ ∀ W, Fine W w → Fine W w' := by
  obtain ⟨h1, h2, h3, h4, h5⟩ := conn_parts h
  clear h
  go_enter Tryf.func6, Tryf.ntmps6
  go_wp2_with fail
  refine (new_any _ _).mono ?_
  rintro e w' ⟨⟨a, rfl⟩, hg⟩
  have HG : Hid _ := hg
  clear hg
  go_wp2_with fail
  go_ret
  exact ⟨⟨_, rfl⟩, HG⟩

set_option maxHeartbeats 800000 in
theorem te_ok (nm v : ByteArray) (w : World) (h : conn nm.toList = false) (ht : (nm.toList == [116, 101]) = true) (hv : (v.toList == [116, 114, 97, 105, 108, 101, 114, 115]) = true) :
    Calls Tryf.prog 6 #[.string nm, .string v] w fun e w' => e = .returned .nilIface ∧ w = w' := by
  obtain ⟨h1, h2, h3, h4, h5⟩ := conn_parts h
  clear h
  go_enter Tryf.func6, Tryf.ntmps6
  go_wp2
  go_ret
  exact ⟨rfl, rfl⟩

set_option maxHeartbeats 800000 in
theorem else_ok (nm v : ByteArray) (w : World) (h : conn nm.toList = false) (ht : (nm.toList == [116, 101]) = false) :
    Calls Tryf.prog 6 #[.string nm, .string v] w fun e w' => e = .returned .nilIface ∧ w = w' := by
  obtain ⟨h1, h2, h3, h4, h5⟩ := conn_parts h
  clear h
  go_enter Tryf.func6, Tryf.ntmps6
  go_wp2
  go_ret
  exact ⟨rfl, rfl⟩

end Go.Proofs.Qxb6617780aFmt
