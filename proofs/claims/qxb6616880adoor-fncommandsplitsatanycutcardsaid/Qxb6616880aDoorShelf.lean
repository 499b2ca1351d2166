/- The shelf's contracts for strconv.Itoa and bytes.growSlice at this program, in plain words (laid by the kit's own tool; cut to what is used). -/
import Derived.Shelf.LaysM
import Derived.Shelf.Strconv.Itoa3
import Derived.Shelf.Bytes.GrowSlice
import Derived.Test.Qxb6616880aDoorProg
import Derived.Test.Qxb6616880aDoorRows
namespace Go.Proofs
open Go.Shelf
/-- The name of the table of powers of ten: the third variable that the row lists. -/
def Tryd.powName : String := (Qxb6616880aDoor.Rows.fnCommandSplitsAtAnyCutRow.laid.map (·.1)).getD 2 Qxb6616880aDoor.Rows.fnCommandSplitsAtAnyCutRow.spec
def Tryd.laysM171_ren : Go.Shelf.Ren := ⟨fun | 171 => 15 | 243 => 23 | 246 => 29 | 283 => 30 | 284 => 31 | 285 => 32 | 286 => 33 | 129 => 35 | 317 => 34 | 318 => 36 | 319 => 37 | 320 => 38 | 337 => 39 | 338 => 40 | n => n, fun | 3 => 3 | 9 => 9 | 2 => 2 | 4 => 4 | 171 => 67 | 0 => 0 | 53 => 68 | 37 => 24 | 5 => 5 | 173 => 71 | 212 => 75 | 51 => 76 | 20 => 20 | 213 => 77 | 46 => 79 | 232 => 82 | 233 => 83 | n => n, fun | 17 => 1 | 18 => 2 | 19 => 3 | n => n⟩
theorem Tryd.laysM171 : Go.Proofs.LaysM.n171 Tryd.prog Tryd.laysM171_ren := {
  mixed := by kernel_rfl
  f129 := Tryd.func35.trans (congrArg some (by kernel_rfl))
  f171 := Tryd.func15.trans (congrArg some (by kernel_rfl))
  f243 := Tryd.func23.trans (congrArg some (by kernel_rfl))
  f246 := Tryd.func29.trans (congrArg some (by kernel_rfl))
  f283 := Tryd.func30.trans (congrArg some (by kernel_rfl))
  f284 := Tryd.func31.trans (congrArg some (by kernel_rfl))
  f285 := Tryd.func32.trans (congrArg some (by kernel_rfl))
  f286 := Tryd.func33.trans (congrArg some (by kernel_rfl))
  f317 := Tryd.func34.trans (congrArg some (by kernel_rfl))
  f318 := Tryd.func36.trans (congrArg some (by kernel_rfl))
  f319 := Tryd.func37.trans (congrArg some (by kernel_rfl))
  f320 := Tryd.func38.trans (congrArg some (by kernel_rfl))
  f337 := Tryd.func39.trans (congrArg some (by kernel_rfl))
  f338 := Tryd.func40.trans (congrArg some (by kernel_rfl))
  t0 := Tryd.underlying0
  a0 := Tryd.isAgg0
  z0 := Tryd.sizeOf0
  v0 := Tryd.zeroValue0
  t2 := Tryd.underlying2
  a2 := Tryd.isAgg2
  z2 := Tryd.sizeOf2
  v2 := Tryd.zeroValue2
  t3 := Tryd.underlying3
  a3 := Tryd.isAgg3
  z3 := Tryd.sizeOf3
  v3 := Tryd.zeroValue3
  t4 := Tryd.underlying4
  a4 := Tryd.isAgg4
  z4 := Tryd.sizeOf4
  v4 := Tryd.zeroValue4
  t5 := Tryd.underlying5
  a5 := Tryd.isAgg5
  z5 := Tryd.sizeOf5
  v5 := Tryd.zeroValue5
  t9 := Tryd.underlying9
  a9 := Tryd.isAgg9
  z9 := Tryd.sizeOf9
  v9 := Tryd.zeroValue9
  t20 := Tryd.underlying20
  a20 := Tryd.isAgg20
  z20 := Tryd.sizeOf20
  v20 := Tryd.zeroValue20
  t37 := Tryd.underlying24
  a37 := Tryd.isAgg24
  z37 := Tryd.sizeOf24
  v37 := Tryd.zeroValue24
  t46 := Tryd.underlying79
  a46 := Tryd.isAgg79
  z46 := Tryd.sizeOf79
  v46 := Tryd.zeroValue79
  t51 := Tryd.underlying76
  a51 := Tryd.isAgg76
  z51 := Tryd.sizeOf76
  v51 := Tryd.zeroValue76
  t53 := Tryd.underlying68
  a53 := Tryd.isAgg68
  z53 := Tryd.sizeOf68
  v53 := Tryd.zeroValue68
  t171 := Tryd.underlying67
  a171 := Tryd.isAgg67
  z171 := Tryd.sizeOf67
  v171 := Tryd.zeroValue67
  t173 := Tryd.underlying71
  a173 := Tryd.isAgg71
  z173 := Tryd.sizeOf71
  v173 := Tryd.zeroValue71
  t212 := Tryd.underlying75
  a212 := Tryd.isAgg75
  z212 := Tryd.sizeOf75
  v212 := Tryd.zeroValue75
  t213 := Tryd.underlying77
  a213 := Tryd.isAgg77
  z213 := Tryd.sizeOf77
  t232 := Tryd.underlying82
  a232 := Tryd.isAgg82
  z232 := Tryd.sizeOf82
  v232 := Tryd.zeroValue82
  t233 := Tryd.underlying83
  a233 := Tryd.isAgg83
  z233 := Tryd.sizeOf83
  v233 := Tryd.zeroValue83
  g17 := by kernel_rfl
  g18 := by kernel_rfl
  g19 := by kernel_rfl
  i0 := by kernel_rfl
  i2 := by kernel_rfl
  i3 := by kernel_rfl
  i4 := by kernel_rfl
  i5 := by kernel_rfl
  i9 := by kernel_rfl
  i20 := by kernel_rfl
  i37 := by kernel_rfl
  i46 := by kernel_rfl
  i51 := by kernel_rfl
  i53 := by kernel_rfl
  i171 := by kernel_rfl
  i173 := by kernel_rfl
  i212 := by kernel_rfl
  i232 := by kernel_rfl
  i233 := by kernel_rfl
  m17 := by kernel_rfl
  m18 := by kernel_rfl
  m19 := by kernel_rfl }
open Go.RowKit Go.Sort Go.Lib in
theorem Tryd.strconv_Itoa (n : Int) (h0 : -9223372036854775808 ≤ n) (h1 : n ≤ 9223372036854775807) (w : World) (htab : Lib.TabIs Tryd.prog w Tryd.powName .u64 Lib.pow10Tab) :
    Calls Tryd.prog 15 #[.int .i64 n] w fun e w' => e = .returned (.string ⟨(Lib.itoa n).toArray⟩) ∧ ∃ k os, w' = grow (w.drewN k) os := Any.strconv_Itoa Tryd.laysM171 n h0 h1 w htab
def Tryd.laysM290_ren : Go.Shelf.Ren := ⟨fun | 290 => 63 | 324 => 64 | n => n, fun | 37 => 24 | 3 => 3 | 0 => 0 | 4 => 4 | 20 => 20 | 75 => 44 | 5 => 5 | 80 => 87 | 9 => 9 | n => n, fun | 14 => 4 | n => n⟩
theorem Tryd.laysM290 : Go.Proofs.LaysM.n290 Tryd.prog Tryd.laysM290_ren := {
  mixed := by kernel_rfl
  f290 := Tryd.func63.trans (congrArg some (by kernel_rfl))
  f324 := Tryd.func64.trans (congrArg some (by kernel_rfl))
  t0 := Tryd.underlying0
  a0 := Tryd.isAgg0
  z0 := Tryd.sizeOf0
  v0 := Tryd.zeroValue0
  t3 := Tryd.underlying3
  a3 := Tryd.isAgg3
  z3 := Tryd.sizeOf3
  v3 := Tryd.zeroValue3
  t4 := Tryd.underlying4
  a4 := Tryd.isAgg4
  z4 := Tryd.sizeOf4
  v4 := Tryd.zeroValue4
  t20 := Tryd.underlying20
  a20 := Tryd.isAgg20
  z20 := Tryd.sizeOf20
  v20 := Tryd.zeroValue20
  t37 := Tryd.underlying24
  a37 := Tryd.isAgg24
  z37 := Tryd.sizeOf24
  v37 := Tryd.zeroValue24
  t75 := Tryd.underlying44
  a75 := Tryd.isAgg44
  z75 := Tryd.sizeOf44
  v75 := Tryd.zeroValue44
  g14 := by kernel_rfl
  t5 := Tryd.underlying5
  a5 := Tryd.isAgg5
  z5 := Tryd.sizeOf5
  v5 := Tryd.zeroValue5
  t9 := Tryd.underlying9
  a9 := Tryd.isAgg9
  z9 := Tryd.sizeOf9
  v9 := Tryd.zeroValue9
  t80 := Tryd.underlying87
  a80 := Tryd.isAgg87
  z80 := Tryd.sizeOf87
  v80 := Tryd.zeroValue87
  i0 := by kernel_rfl
  i3 := by kernel_rfl
  i4 := by kernel_rfl
  i5 := by kernel_rfl
  i9 := by kernel_rfl
  i20 := by kernel_rfl
  i37 := by kernel_rfl
  i75 := by kernel_rfl
  i80 := by kernel_rfl
  m14 := by kernel_rfl }
open Go.RowKit in
theorem Tryd.bytes_growSlice_row (g l c n : Nat) (cur : Array Value) (w : World) (hg : w.heap[g]? = some (.cells cur 5 (0, 0))) (hcs : cur.size = c) (hlc : l ≤ c) (hn : 1 ≤ n) (hlim : l + n ≤ 140737488355328) (hc2 : c ≤ 140737488355328) (h1 : ∀ v ∈ cur.toList.take l, v.oneCell' = true) :
    Calls Tryd.prog 63 #[.slice (some ⟨g, 0, none⟩) l c, .int .i64 n] w fun e w' => ∃ cap2 cells, e = .returned (.slice (some ⟨w.heap.size, 0, none⟩) l cap2) ∧ w'.heap[w.heap.size]? = some (.cells cells 5 (0, 0)) ∧
      cells.size = cap2 ∧ cells.toList.take l = cur.toList.take l ∧ l + n ≤ cap2 ∧ cap2 ≤ maxLen ∧ Below w.heap.size w w' := Any.bytes_growSlice_row Tryd.laysM290 g l c n cur w hg hcs hlc hn hlim hc2 h1
open Go.RowKit in
theorem Tryd.bytes_growSlice_nil (n : Nat) (w : World) (hn : 1 ≤ n) (hlim : n ≤ 140737488355328) :
    Calls Tryd.prog 63 #[.slice none 0 0, .int .i64 n] w fun e w' => ∃ cap2 cells, e = .returned (.slice (some ⟨w.heap.size, 0, none⟩) 0 cap2) ∧ w'.heap[w.heap.size]? = some (.cells cells 5 (0, 0)) ∧
      cells.size = cap2 ∧ n ≤ cap2 ∧ cap2 ≤ maxLen ∧ Below w.heap.size w w' := Any.bytes_growSlice_nil Tryd.laysM290 n w hn hlim
end Go.Proofs
