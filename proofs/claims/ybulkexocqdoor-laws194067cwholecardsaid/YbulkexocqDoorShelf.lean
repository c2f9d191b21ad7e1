/-
  strconv.Itoa by the kit's contract (Derived/Shelf/Strconv/Itoa3), laid at this dump in plain words by the kit's own tools (shelf/once/tools/lay-shelf.mjs, lay-plain.mjs). Of what they wrote, this one laying is kept.
-/
import Derived.Shelf.LaysM
import Derived.Shelf.Strconv.Itoa3
import Derived.Test.YbulkexocqDoorRows
namespace Go.Proofs.YbulkexocqDoor
open Go.Shelf Go.Sort
/-- The table's name, as the row lists it. -/
def tabName : String := Rows.lawS194067CWholeRow.named.getD 0 ""
def laysM171_ren : Go.Shelf.Ren := ⟨fun | 171 => 15 | 243 => 19 | 246 => 38 | 283 => 62 | 284 => 63 | 285 => 64 | 286 => 65 | 129 => 69 | 317 => 68 | 318 => 70 | 319 => 71 | 320 => 72 | 337 => 73 | 338 => 74 | n => n, fun | 3 => 3 | 9 => 9 | 2 => 2 | 4 => 4 | 171 => 51 | 0 => 0 | 53 => 50 | 37 => 22 | 5 => 5 | 173 => 93 | 212 => 101 | 51 => 102 | 20 => 20 | 213 => 103 | 46 => 105 | 232 => 108 | 233 => 109 | n => n, fun | 17 => 3 | 18 => 4 | 19 => 5 | n => n⟩
theorem laysM171 : Go.Proofs.LaysM.n171 Ybad.prog laysM171_ren := {
  mixed := by kernel_rfl
  f129 := Ybad.func69.trans (congrArg some (by kernel_rfl))
  f171 := Ybad.func15.trans (congrArg some (by kernel_rfl))
  f243 := Ybad.func19.trans (congrArg some (by kernel_rfl))
  f246 := Ybad.func38.trans (congrArg some (by kernel_rfl))
  f283 := Ybad.func62.trans (congrArg some (by kernel_rfl))
  f284 := Ybad.func63.trans (congrArg some (by kernel_rfl))
  f285 := Ybad.func64.trans (congrArg some (by kernel_rfl))
  f286 := Ybad.func65.trans (congrArg some (by kernel_rfl))
  f317 := Ybad.func68.trans (congrArg some (by kernel_rfl))
  f318 := Ybad.func70.trans (congrArg some (by kernel_rfl))
  f319 := Ybad.func71.trans (congrArg some (by kernel_rfl))
  f320 := Ybad.func72.trans (congrArg some (by kernel_rfl))
  f337 := Ybad.func73.trans (congrArg some (by kernel_rfl))
  f338 := Ybad.func74.trans (congrArg some (by kernel_rfl))
  t0 := Ybad.underlying0
  a0 := Ybad.isAgg0
  z0 := Ybad.sizeOf0
  v0 := Ybad.zeroValue0
  t2 := Ybad.underlying2
  a2 := Ybad.isAgg2
  z2 := Ybad.sizeOf2
  v2 := Ybad.zeroValue2
  t3 := Ybad.underlying3
  a3 := Ybad.isAgg3
  z3 := Ybad.sizeOf3
  v3 := Ybad.zeroValue3
  t4 := Ybad.underlying4
  a4 := Ybad.isAgg4
  z4 := Ybad.sizeOf4
  v4 := Ybad.zeroValue4
  t5 := Ybad.underlying5
  a5 := Ybad.isAgg5
  z5 := Ybad.sizeOf5
  v5 := Ybad.zeroValue5
  t9 := Ybad.underlying9
  a9 := Ybad.isAgg9
  z9 := Ybad.sizeOf9
  v9 := Ybad.zeroValue9
  t20 := Ybad.underlying20
  a20 := Ybad.isAgg20
  z20 := Ybad.sizeOf20
  v20 := Ybad.zeroValue20
  t37 := Ybad.underlying22
  a37 := Ybad.isAgg22
  z37 := Ybad.sizeOf22
  v37 := Ybad.zeroValue22
  t46 := Ybad.underlying105
  a46 := Ybad.isAgg105
  z46 := Ybad.sizeOf105
  v46 := Ybad.zeroValue105
  t51 := Ybad.underlying102
  a51 := Ybad.isAgg102
  z51 := Ybad.sizeOf102
  v51 := Ybad.zeroValue102
  t53 := Ybad.underlying50
  a53 := Ybad.isAgg50
  z53 := Ybad.sizeOf50
  v53 := Ybad.zeroValue50
  t171 := Ybad.underlying51
  a171 := Ybad.isAgg51
  z171 := Ybad.sizeOf51
  v171 := Ybad.zeroValue51
  t173 := Ybad.underlying93
  a173 := Ybad.isAgg93
  z173 := Ybad.sizeOf93
  v173 := Ybad.zeroValue93
  t212 := Ybad.underlying101
  a212 := Ybad.isAgg101
  z212 := Ybad.sizeOf101
  v212 := Ybad.zeroValue101
  t213 := Ybad.underlying103
  a213 := Ybad.isAgg103
  z213 := Ybad.sizeOf103
  t232 := Ybad.underlying108
  a232 := Ybad.isAgg108
  z232 := Ybad.sizeOf108
  v232 := Ybad.zeroValue108
  t233 := Ybad.underlying109
  a233 := Ybad.isAgg109
  z233 := Ybad.sizeOf109
  v233 := Ybad.zeroValue109
  g17 := by kernel_rfl
  g18 := by kernel_rfl
  g19 := by kernel_rfl
  i0 := by kernel_rfl
  i2 := by kernel_rfl
  i3 := by kernel_rfl
  i4 := by kernel_rfl
  i5 := by kernel_rfl
  i9 := by kernel_rfl
  i20 := by kernel_rfl
  i37 := by kernel_rfl
  i46 := by kernel_rfl
  i51 := by kernel_rfl
  i53 := by kernel_rfl
  i171 := by kernel_rfl
  i173 := by kernel_rfl
  i212 := by kernel_rfl
  i232 := by kernel_rfl
  i233 := by kernel_rfl
  m17 := by kernel_rfl
  m18 := by kernel_rfl
  m19 := by kernel_rfl }
open Go.RowKit Go.Sort Go.Lib in
theorem itoa_any (n : Int) (h0 : -9223372036854775808 ≤ n) (h1 : n ≤ 9223372036854775807) (w : World) (htab : Lib.TabIs Ybad.prog w tabName .u64 Lib.pow10Tab) :
    Calls Ybad.prog 15 #[.int .i64 n] w fun e w' => e = .returned (.string ⟨(Lib.itoa n).toArray⟩) ∧ ∃ k os, w' = grow (w.drewN k) os := Any.strconv_Itoa laysM171 n h0 h1 w htab
end Go.Proofs.YbulkexocqDoor
