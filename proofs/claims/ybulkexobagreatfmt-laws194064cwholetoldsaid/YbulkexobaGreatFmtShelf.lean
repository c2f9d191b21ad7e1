/-
  THE SHELF's CONTRACTS AT THIS DUMP (laid by the kit's own tools for this program; those that the road wants).
-/
import Derived.Shelf.Strings.Builder1
import Derived.Shelf.Strconv.Itoa0
import Derived.Shelf.Strconv.Itoa1
import Derived.Shelf.LaysM
import Derived.Shelf.Strconv.Itoa2
import Derived.Shelf.GgClosure.StringsIndexFunc
import Derived.Ground.GgwProg
import Derived.Shelf.GgClosure.StringsIndexFuncTop
import Derived.Shelf.Slices.Equal
import Derived.Ground.Names2Prog
import Derived.Shelf.Slices.Clone
import Derived.Shelf.Slices.Empties2
import Derived.Test.YbulkexobaGreatFmtProg
import Derived.Test.YbulkexobaGreatFmtRows
namespace Go.Proofs
open Go.Shelf

def Ybaz.lays170_ren : Go.Shelf.Ren := ⟨fun | 170 => 58 | n => n, fun | 70 => 133 | 3 => 3 | 0 => 0 | 72 => 135 | 37 => 23 | 5 => 5 | n => n, fun | n => n⟩
theorem Ybaz.lays170 : Go.Proofs.Lays.n170 Ybaz.prog Ybaz.lays170_ren := {
  mixed := by kernel_rfl
  f170 := Ybaz.func58.trans (congrArg some (by kernel_rfl))
  t0 := Ybaz.underlying0
  a0 := Ybaz.isAgg0
  z0 := Ybaz.sizeOf0
  v0 := Ybaz.zeroValue0
  t3 := Ybaz.underlying3
  a3 := Ybaz.isAgg3
  z3 := Ybaz.sizeOf3
  v3 := Ybaz.zeroValue3
  t37 := Ybaz.underlying23
  a37 := Ybaz.isAgg23
  z37 := Ybaz.sizeOf23
  v37 := Ybaz.zeroValue23
  t70 := Ybaz.underlying133
  a70 := Ybaz.isAgg133
  z70 := Ybaz.sizeOf133
  v70 := Ybaz.zeroValue133
  t72 := Ybaz.underlying135
  a72 := Ybaz.isAgg135
  z72 := Ybaz.sizeOf135
  v72 := Ybaz.zeroValue135 }
open Go.RowKit in
theorem Ybaz.Builder_Len (B b : Nat) (bs : List Value) (w : World) (h : Lib.IsBuilder 135 5 B b bs w) :
    Calls Ybaz.prog 58 #[.pointer (some ⟨b, 0, none⟩)] w fun e w' => e = .returned (.int .i64 bs.length) ∧ w' = w := Any.Builder_Len Ybaz.lays170 B b bs w h
def Ybaz.lays169_ren : Go.Shelf.Ren := ⟨fun | 169 => 59 | n => n, fun | 70 => 133 | 9 => 9 | 0 => 0 | 72 => 135 | 37 => 23 | 127 => 192 | 3 => 3 | 5 => 5 | n => n, fun | n => n⟩
theorem Ybaz.lays169 : Go.Proofs.Lays.n169 Ybaz.prog Ybaz.lays169_ren := {
  mixed := by kernel_rfl
  f169 := Ybaz.func59.trans (congrArg some (by kernel_rfl))
  t0 := Ybaz.underlying0
  a0 := Ybaz.isAgg0
  z0 := Ybaz.sizeOf0
  v0 := Ybaz.zeroValue0
  t3 := Ybaz.underlying3
  a3 := Ybaz.isAgg3
  z3 := Ybaz.sizeOf3
  v3 := Ybaz.zeroValue3
  t9 := Ybaz.underlying9
  a9 := Ybaz.isAgg9
  z9 := Ybaz.sizeOf9
  v9 := Ybaz.zeroValue9
  t37 := Ybaz.underlying23
  a37 := Ybaz.isAgg23
  z37 := Ybaz.sizeOf23
  v37 := Ybaz.zeroValue23
  t70 := Ybaz.underlying133
  a70 := Ybaz.isAgg133
  z70 := Ybaz.sizeOf133
  v70 := Ybaz.zeroValue133
  t72 := Ybaz.underlying135
  a72 := Ybaz.isAgg135
  z72 := Ybaz.sizeOf135
  v72 := Ybaz.zeroValue135
  t127 := Ybaz.underlying192
  a127 := Ybaz.isAgg192
  z127 := Ybaz.sizeOf192
  v127 := Ybaz.zeroValue192 }
theorem Ybaz.Builder_Extra_169 : Builder.Extra Ybaz.prog Ybaz.lays169_ren := {
  sizeBuilder := by kernel_rfl
  liesBuilder := by kernel_rfl
  t5 := Ybaz.underlying5
  a5 := Ybaz.isAgg5
  z5 := Ybaz.sizeOf5
  v5 := Ybaz.zeroValue5
  infoByte := by kernel_rfl
  cellsByte := by kernel_rfl
  sizeByte := by kernel_rfl
  neB5 := by decide }
open Go.RowKit in
theorem Ybaz.Builder_String_any (B b : Nat) (l : List UInt8) (w : World) (h : Lib.IsBuilder 135 5 B b (Lib.byteCells l) w) (hBw : B ≤ w.heap.size) :
    Calls Ybaz.prog 59 #[.pointer (some ⟨b, 0, none⟩)] w fun e w' => e = .returned (.string ⟨l.toArray⟩) ∧ Below B w w' := Any.Builder_String_any Ybaz.lays169 Ybaz.Builder_Extra_169 B b l w h hBw
def Ybaz.lays129_ren : Go.Shelf.Ren := ⟨fun | 129 => 51 | n => n, fun | 53 => 24 | 3 => 3 | 4 => 4 | 46 => 26 | 5 => 5 | 9 => 9 | n => n, fun | n => n⟩
theorem Ybaz.lays129 : Go.Proofs.Lays.n129 Ybaz.prog Ybaz.lays129_ren := {
  mixed := by kernel_rfl
  f129 := Ybaz.func51.trans (congrArg some (by kernel_rfl))
  t3 := Ybaz.underlying3
  a3 := Ybaz.isAgg3
  z3 := Ybaz.sizeOf3
  v3 := Ybaz.zeroValue3
  t4 := Ybaz.underlying4
  a4 := Ybaz.isAgg4
  z4 := Ybaz.sizeOf4
  v4 := Ybaz.zeroValue4
  t5 := Ybaz.underlying5
  a5 := Ybaz.isAgg5
  z5 := Ybaz.sizeOf5
  v5 := Ybaz.zeroValue5
  t9 := Ybaz.underlying9
  a9 := Ybaz.isAgg9
  z9 := Ybaz.sizeOf9
  v9 := Ybaz.zeroValue9
  t46 := Ybaz.underlying26
  a46 := Ybaz.isAgg26
  z46 := Ybaz.sizeOf26
  v46 := Ybaz.zeroValue26
  t53 := Ybaz.underlying24
  a53 := Ybaz.isAgg24
  z53 := Ybaz.sizeOf24
  v53 := Ybaz.zeroValue24 }
theorem Ybaz.bits_Len64 (x : Int) (w : World) (h0 : 0 ≤ x) (h1 : x ≤ 18446744073709551615) :
    Calls Ybaz.prog 51 #[.int .u64 x] w fun e w' => e = .returned (.int .i64 (Lib.bitLen x.toNat)) ∧ w' = w := Any.bits_Len64 Ybaz.lays129 x w h0 h1
def Ybaz.lays317_ren : Go.Shelf.Ren := ⟨fun | 317 => 50 | n => n, fun | 3 => 3 | 46 => 26 | n => n, fun | n => n⟩
theorem Ybaz.lays317 : Go.Proofs.Lays.n317 Ybaz.prog Ybaz.lays317_ren := {
  mixed := by kernel_rfl
  f317 := Ybaz.func50.trans (congrArg some (by kernel_rfl))
  t3 := Ybaz.underlying3
  a3 := Ybaz.isAgg3
  z3 := Ybaz.sizeOf3
  v3 := Ybaz.zeroValue3
  t46 := Ybaz.underlying26
  a46 := Ybaz.isAgg26
  z46 := Ybaz.sizeOf26
  v46 := Ybaz.zeroValue26 }
open Go.Lib in
theorem Ybaz.internal_strconv_log10Pow2 (x : Nat) (h : x ≤ 64) (w : World) :
    Calls Ybaz.prog 50 #[.int .i64 x] w fun e w' => e = .returned (.int .i64 (Lib.l10 x)) ∧ w' = w := Any.internal_strconv_log10Pow2 Ybaz.lays317 x h w
def Ybaz.lays318_ren : Go.Shelf.Ren := ⟨fun | 318 => 52 | n => n, fun | 3 => 3 | 4 => 4 | n => n, fun | n => n⟩
theorem Ybaz.lays318 : Go.Proofs.Lays.n318 Ybaz.prog Ybaz.lays318_ren := {
  mixed := by kernel_rfl
  f318 := Ybaz.func52.trans (congrArg some (by kernel_rfl))
  t3 := Ybaz.underlying3
  a3 := Ybaz.isAgg3
  z3 := Ybaz.sizeOf3
  v3 := Ybaz.zeroValue3
  t4 := Ybaz.underlying4
  a4 := Ybaz.isAgg4
  z4 := Ybaz.sizeOf4
  v4 := Ybaz.zeroValue4 }
open Go.Lib in
theorem Ybaz.internal_strconv_bool2_int (b : Bool) (w : World) :
    Calls Ybaz.prog 52 #[.bool b] w fun e w' => e = .returned (.int .i64 (if b then 1 else 0)) ∧ w' = w := Any.internal_strconv_bool2_int Ybaz.lays318 b w
def Ybaz.lays283_ren : Go.Shelf.Ren := ⟨fun | 283 => 19 | n => n, fun | 3 => 3 | 9 => 9 | 4 => 4 | n => n, fun | n => n⟩
theorem Ybaz.lays283 : Go.Proofs.Lays.n283 Ybaz.prog Ybaz.lays283_ren := {
  mixed := by kernel_rfl
  f283 := Ybaz.func19.trans (congrArg some (by kernel_rfl))
  t3 := Ybaz.underlying3
  a3 := Ybaz.isAgg3
  z3 := Ybaz.sizeOf3
  v3 := Ybaz.zeroValue3
  t4 := Ybaz.underlying4
  a4 := Ybaz.isAgg4
  z4 := Ybaz.sizeOf4
  v4 := Ybaz.zeroValue4
  t9 := Ybaz.underlying9
  a9 := Ybaz.isAgg9
  z9 := Ybaz.sizeOf9
  v9 := Ybaz.zeroValue9 }
open Go.Lib in
theorem Ybaz.internal_strconv_small (i : Nat) (h : i < 100) (w : World) :
    Calls Ybaz.prog 19 #[.int .i64 i] w fun e w' => e = .returned (.string ⟨(Lib.decDigits i).toArray⟩) ∧ w' = w := Any.internal_strconv_small Ybaz.lays283 i h w
def Ybaz.laysM284_ren : Go.Shelf.Ren := ⟨fun | 284 => 20 | 129 => 51 | 317 => 50 | 318 => 52 | n => n, fun | 53 => 24 | 3 => 3 | 212 => 126 | 0 => 0 | 4 => 4 | 46 => 26 | 5 => 5 | 9 => 9 | n => n, fun | 17 => 0 | n => n⟩
theorem Ybaz.laysM284 : Go.Proofs.LaysM.n284 Ybaz.prog Ybaz.laysM284_ren := {
  mixed := by kernel_rfl
  f129 := Ybaz.func51.trans (congrArg some (by kernel_rfl))
  f284 := Ybaz.func20.trans (congrArg some (by kernel_rfl))
  f317 := Ybaz.func50.trans (congrArg some (by kernel_rfl))
  f318 := Ybaz.func52.trans (congrArg some (by kernel_rfl))
  t0 := Ybaz.underlying0
  a0 := Ybaz.isAgg0
  z0 := Ybaz.sizeOf0
  v0 := Ybaz.zeroValue0
  t3 := Ybaz.underlying3
  a3 := Ybaz.isAgg3
  z3 := Ybaz.sizeOf3
  v3 := Ybaz.zeroValue3
  t4 := Ybaz.underlying4
  a4 := Ybaz.isAgg4
  z4 := Ybaz.sizeOf4
  v4 := Ybaz.zeroValue4
  t5 := Ybaz.underlying5
  a5 := Ybaz.isAgg5
  z5 := Ybaz.sizeOf5
  v5 := Ybaz.zeroValue5
  t9 := Ybaz.underlying9
  a9 := Ybaz.isAgg9
  z9 := Ybaz.sizeOf9
  v9 := Ybaz.zeroValue9
  t46 := Ybaz.underlying26
  a46 := Ybaz.isAgg26
  z46 := Ybaz.sizeOf26
  v46 := Ybaz.zeroValue26
  t53 := Ybaz.underlying24
  a53 := Ybaz.isAgg24
  z53 := Ybaz.sizeOf24
  v53 := Ybaz.zeroValue24
  t212 := Ybaz.underlying126
  a212 := Ybaz.isAgg126
  z212 := Ybaz.sizeOf126
  v212 := Ybaz.zeroValue126
  g17 := by kernel_rfl
  i0 := by kernel_rfl
  i3 := by kernel_rfl
  i4 := by kernel_rfl
  i5 := by kernel_rfl
  i9 := by kernel_rfl
  i46 := by kernel_rfl
  i53 := by kernel_rfl
  i212 := by kernel_rfl
  m17 := by kernel_rfl }
open Go.Lib in
theorem Ybaz.internal_strconv_numDigits (u : Nat) (h1 : 1 ≤ u) (h2 : u < 18446744073709551616) (w : World) (htab : Lib.TabIs Ybaz.prog w (YbulkexobaGreatFmt.Rows.lawS194064CWholeRow.named.getD 0 "") .u64 Lib.pow10Tab) :
    Calls Ybaz.prog 20 #[.int .u64 u] w fun e w' => e = .returned (.int .i64 (Lib.nDigits u)) ∧ w' = w := Any.internal_strconv_numDigits Ybaz.laysM284 u h1 h2 w htab
def Ybaz.lays285_ren : Go.Shelf.Ren := ⟨fun | 285 => 21 | n => n, fun | 37 => 23 | 53 => 24 | 3 => 3 | 4 => 4 | 51 => 127 | 9 => 9 | 5 => 5 | 0 => 0 | n => n, fun | n => n⟩
theorem Ybaz.lays285 : Go.Proofs.Lays.n285 Ybaz.prog Ybaz.lays285_ren := {
  mixed := by kernel_rfl
  f285 := Ybaz.func21.trans (congrArg some (by kernel_rfl))
  t0 := Ybaz.underlying0
  a0 := Ybaz.isAgg0
  z0 := Ybaz.sizeOf0
  v0 := Ybaz.zeroValue0
  t3 := Ybaz.underlying3
  a3 := Ybaz.isAgg3
  z3 := Ybaz.sizeOf3
  v3 := Ybaz.zeroValue3
  t4 := Ybaz.underlying4
  a4 := Ybaz.isAgg4
  z4 := Ybaz.sizeOf4
  v4 := Ybaz.zeroValue4
  t5 := Ybaz.underlying5
  a5 := Ybaz.isAgg5
  z5 := Ybaz.sizeOf5
  v5 := Ybaz.zeroValue5
  t9 := Ybaz.underlying9
  a9 := Ybaz.isAgg9
  z9 := Ybaz.sizeOf9
  v9 := Ybaz.zeroValue9
  t37 := Ybaz.underlying23
  a37 := Ybaz.isAgg23
  z37 := Ybaz.sizeOf23
  v37 := Ybaz.zeroValue23
  t51 := Ybaz.underlying127
  a51 := Ybaz.isAgg127
  z51 := Ybaz.sizeOf127
  v51 := Ybaz.zeroValue127
  t53 := Ybaz.underlying24
  a53 := Ybaz.isAgg24
  z53 := Ybaz.sizeOf24
  v53 := Ybaz.zeroValue24 }
open Go.RowKit Go.Sort Go.Lib in
theorem Ybaz.internal_strconv_formatBase10 (blk off cap : Nat) (u : Nat) (d : Array UInt8) (w : World) (hH : Holds (fun (b : UInt8) => Value.int .u8 (b.toNat : Int)) w blk off d) (hu : u < 10 ^ d.size) (hu64 : u < 18446744073709551616) (hsz : d.size < 4611686018427387904) :
    Calls Ybaz.prog 21 #[.slice (some ⟨blk, off, none⟩) d.size cap, .int .u64 u] w fun e w' =>
      e = .returned (.tuple #[]) ∧ ∃ (n v' : Nat) (dk : Array UInt8), w' = (putRow (fun (b : UInt8) => Value.int .u8 (b.toNat : Int)) w blk off dk).drewN n ∧ FmtInv d.size u 0 v' dk := Any.internal_strconv_formatBase10 Ybaz.lays285 blk off cap u d w hH hu hu64 hsz
def Ybaz.lays315_ren : Go.Shelf.Ren := ⟨fun | 315 => 92 | n => n, fun | 9 => 9 | 40 => 132 | 4 => 4 | 3 => 3 | 0 => 0 | 21 => 21 | n => n, fun | n => n⟩
theorem Ybaz.lays315 : Go.Proofs.Lays.n315 Ybaz.prog Ybaz.lays315_ren := {
  mixed := by kernel_rfl
  f315 := Ybaz.func92.trans (congrArg some (by kernel_rfl))
  t0 := Ybaz.underlying0
  a0 := Ybaz.isAgg0
  z0 := Ybaz.sizeOf0
  v0 := Ybaz.zeroValue0
  t3 := Ybaz.underlying3
  a3 := Ybaz.isAgg3
  z3 := Ybaz.sizeOf3
  v3 := Ybaz.zeroValue3
  t4 := Ybaz.underlying4
  a4 := Ybaz.isAgg4
  z4 := Ybaz.sizeOf4
  v4 := Ybaz.zeroValue4
  t9 := Ybaz.underlying9
  a9 := Ybaz.isAgg9
  z9 := Ybaz.sizeOf9
  v9 := Ybaz.zeroValue9
  t21 := Ybaz.underlying21
  a21 := Ybaz.isAgg21
  z21 := Ybaz.sizeOf21
  v21 := Ybaz.zeroValue21
  t40 := Ybaz.underlying132
  a40 := Ybaz.isAgg132
  z40 := Ybaz.sizeOf132
  v40 := Ybaz.zeroValue132 }
open Go.RowKit Go.Lib in
theorem Ybaz.strings_indexFunc (g : Nat) (lb : Array Value) (eg : ∀ args w, (callFunc g args).run Ybaz.prog w = .ok (.enter g args) w) (p : Nat → Bool) (truth : Bool) (s : ByteArray) (w : World) (hp : PredAt Ybaz.prog g lb encR p w) :
    Calls Ybaz.prog 92 #[.string s, .func (.func g) #[] lb, .bool truth] w fun e w' => e = .returned (.int .i64 (Lib.idxFunc p truth s)) ∧ Below w.heap.size w w' := Any.strings_indexFunc Ybaz.lays315 g lb eg p truth s w hp
def Ybaz.laysGw15_ren : Go.Shelf.Ren := ⟨fun | 15 => 81 | 20 => 92 | n => n, fun | 9 => 9 | 23 => 132 | 3 => 3 | 4 => 4 | 0 => 0 | 21 => 21 | n => n, fun | n => n⟩
theorem Ybaz.laysGw15 : Go.Proofs.LaysGw.n15 Ybaz.prog Ybaz.laysGw15_ren := {
  mixed := by kernel_rfl
  f15 := Ybaz.func81.trans (congrArg some (by kernel_rfl))
  f20 := Ybaz.func92.trans (congrArg some (by kernel_rfl))
  t0 := Ybaz.underlying0
  a0 := Ybaz.isAgg0
  z0 := Ybaz.sizeOf0
  v0 := Ybaz.zeroValue0
  i0 := by kernel_rfl
  t3 := Ybaz.underlying3
  a3 := Ybaz.isAgg3
  z3 := Ybaz.sizeOf3
  v3 := Ybaz.zeroValue3
  i3 := by kernel_rfl
  t4 := Ybaz.underlying4
  a4 := Ybaz.isAgg4
  z4 := Ybaz.sizeOf4
  v4 := Ybaz.zeroValue4
  i4 := by kernel_rfl
  t9 := Ybaz.underlying9
  a9 := Ybaz.isAgg9
  z9 := Ybaz.sizeOf9
  v9 := Ybaz.zeroValue9
  i9 := by kernel_rfl
  t21 := Ybaz.underlying21
  a21 := Ybaz.isAgg21
  z21 := Ybaz.sizeOf21
  v21 := Ybaz.zeroValue21
  i21 := by kernel_rfl
  t23 := Ybaz.underlying132
  a23 := Ybaz.isAgg132
  z23 := Ybaz.sizeOf132
  v23 := Ybaz.zeroValue132
  i23 := by kernel_rfl }
open Go.RowKit Go.Lib in
theorem Ybaz.strings_IndexFunc (g : Nat) (lb : Array Value) (eg : ∀ args w, (callFunc g args).run Ybaz.prog w = .ok (.enter g args) w) (p : Nat → Bool) (s : ByteArray) (w : World) (hp : PredAt Ybaz.prog g lb encR p w) :
    Calls Ybaz.prog 81 #[.string s, .func (.func g) #[] lb] w fun e w' => e = .returned (.int .i64 (Lib.idxFunc p true s)) ∧ Below w.heap.size w w' := Any.strings_IndexFunc Ybaz.laysGw15 g lb eg p s w hp
def Ybaz.laysGw17_ren : Go.Shelf.Ren := ⟨fun | 17 => 55 | 15 => 81 | 20 => 92 | n => n, fun | 9 => 9 | 23 => 132 | 4 => 4 | 3 => 3 | 0 => 0 | 21 => 21 | n => n, fun | n => n⟩
theorem Ybaz.laysGw17 : Go.Proofs.LaysGw.n17 Ybaz.prog Ybaz.laysGw17_ren := {
  mixed := by kernel_rfl
  f15 := Ybaz.func81.trans (congrArg some (by kernel_rfl))
  f17 := Ybaz.func55.trans (congrArg some (by kernel_rfl))
  f20 := Ybaz.func92.trans (congrArg some (by kernel_rfl))
  t0 := Ybaz.underlying0
  a0 := Ybaz.isAgg0
  z0 := Ybaz.sizeOf0
  v0 := Ybaz.zeroValue0
  i0 := by kernel_rfl
  t3 := Ybaz.underlying3
  a3 := Ybaz.isAgg3
  z3 := Ybaz.sizeOf3
  v3 := Ybaz.zeroValue3
  i3 := by kernel_rfl
  t4 := Ybaz.underlying4
  a4 := Ybaz.isAgg4
  z4 := Ybaz.sizeOf4
  v4 := Ybaz.zeroValue4
  i4 := by kernel_rfl
  t9 := Ybaz.underlying9
  a9 := Ybaz.isAgg9
  z9 := Ybaz.sizeOf9
  v9 := Ybaz.zeroValue9
  i9 := by kernel_rfl
  t21 := Ybaz.underlying21
  a21 := Ybaz.isAgg21
  z21 := Ybaz.sizeOf21
  v21 := Ybaz.zeroValue21
  i21 := by kernel_rfl
  t23 := Ybaz.underlying132
  a23 := Ybaz.isAgg132
  z23 := Ybaz.sizeOf132
  v23 := Ybaz.zeroValue132
  i23 := by kernel_rfl }
open Go.RowKit Go.Lib in
theorem Ybaz.strings_ContainsFunc (g : Nat) (lb : Array Value) (eg : ∀ args w, (callFunc g args).run Ybaz.prog w = .ok (.enter g args) w) (p : Nat → Bool) (s : ByteArray) (w : World) (hp : PredAt Ybaz.prog g lb encR p w) :
    Calls Ybaz.prog 55 #[.string s, .func (.func g) #[] lb] w fun e w' => e = .returned (.bool (decide (0 ≤ Lib.idxFunc p true s))) ∧ Below w.heap.size w w' := Any.strings_ContainsFunc Ybaz.laysGw17 g lb eg p s w hp
open Go.RowKit Go.Lib in
def Ybaz.lays193_ren : Go.Shelf.Ren := ⟨fun | 193 => 18 | n => n, fun | 31 => 22 | 9 => 9 | 4 => 4 | 3 => 3 | 0 => 0 | n => n, fun | n => n⟩
theorem Ybaz.lays193 : Go.Proofs.Lays.n193 Ybaz.prog Ybaz.lays193_ren := {
  mixed := by kernel_rfl
  f193 := Ybaz.func18.trans (congrArg some (by kernel_rfl))
  t0 := Ybaz.underlying0
  a0 := Ybaz.isAgg0
  z0 := Ybaz.sizeOf0
  v0 := Ybaz.zeroValue0
  t3 := Ybaz.underlying3
  a3 := Ybaz.isAgg3
  z3 := Ybaz.sizeOf3
  v3 := Ybaz.zeroValue3
  t4 := Ybaz.underlying4
  a4 := Ybaz.isAgg4
  z4 := Ybaz.sizeOf4
  v4 := Ybaz.zeroValue4
  t9 := Ybaz.underlying9
  a9 := Ybaz.isAgg9
  z9 := Ybaz.sizeOf9
  v9 := Ybaz.zeroValue9
  t31 := Ybaz.underlying22
  a31 := Ybaz.isAgg22
  z31 := Ybaz.sizeOf22
  v31 := Ybaz.zeroValue22 }
open Go.RowKit Go.Lib in
theorem Ybaz.slices_Equal_string (b1 o1 n c b2 o2 m d : Nat) (xs ys : List ByteArray) (w : World) (hx : n ≤ xs.length) (hy : m ≤ ys.length) (hbig : n ≤ 9223372036854775807) (hbig2 : m ≤ 9223372036854775807) (hc1 : ∀ j, j < xs.length → w.cell? ⟨b1, o1 + j, none⟩ = some (.string (xs.getD j ByteArray.empty))) (hc2 : ∀ j, j < ys.length → w.cell? ⟨b2, o2 + j, none⟩ = some (.string (ys.getD j ByteArray.empty))) :
    Calls Ybaz.prog 18 #[.slice (some ⟨b1, o1, none⟩) n c, .slice (some ⟨b2, o2, none⟩) m d] w fun e w' => e = .returned (.bool (decide (xs.take n = ys.take m))) ∧ ∃ q, w' = w.drewN q := Any.slices_Equal_string Ybaz.lays193 b1 o1 n c b2 o2 m d xs ys w hx hy hbig hbig2 hc1 hc2
open Go.RowKit Go.Lib in
theorem Ybaz.slices_Equal_string_empty (a1 a2 : Option Addr) (c m d : Nat) (w : World) (hbig2 : m ≤ 9223372036854775807) :
    Calls Ybaz.prog 18 #[.slice a1 0 c, .slice a2 m d] w fun e w' => e = .returned (.bool (decide (m = 0))) ∧ w' = w := Any.slices_Equal_string_empty Ybaz.lays193 a1 a2 c m d w hbig2
def Ybaz.laysNm216_ren : Go.Shelf.Ren := ⟨fun | 16 => 9 | n => n, fun | 24 => 22 | 9 => 9 | 4 => 4 | n => n, fun | n => n⟩
theorem Ybaz.laysNm216 : Go.Proofs.Lays2.n16 Ybaz.prog Ybaz.laysNm216_ren := {
  mixed := by kernel_rfl
  f16 := Ybaz.func9.trans (congrArg some (by kernel_rfl))
  t4 := Ybaz.underlying4
  a4 := Ybaz.isAgg4
  z4 := Ybaz.sizeOf4
  v4 := Ybaz.zeroValue4
  t9 := Ybaz.underlying9
  a9 := Ybaz.isAgg9
  z9 := Ybaz.sizeOf9
  v9 := Ybaz.zeroValue9
  t24 := Ybaz.underlying22
  a24 := Ybaz.isAgg22
  z24 := Ybaz.sizeOf22
  v24 := Ybaz.zeroValue22
  i9 := by kernel_rfl }
open Go.RowKit Go.Lib in
theorem Ybaz.slices_Clone_string (b off n c : Nat) (zs : List ByteArray) (w : World) (hz : n ≤ zs.length) (hbig : n * 16 ≤ 140737488355328) (hc : ∀ j, j < zs.length → w.cell? ⟨b, off + j, none⟩ = some (.string (zs.getD j ByteArray.empty))) :
    Calls Ybaz.prog 9 #[.slice (some ⟨b, off, none⟩) n c] w fun e w' => ∃ v', e = .returned v' ∧ w'.ownsRow w.heap.size 9 1 v' n ((zs.take n).map (Value.string)) ∧ v' ≠ .slice none 0 0 ∧ Below w.heap.size w w' := Any.slices_Clone_string Ybaz.laysNm216 b off n c zs w hz hbig hc
open Go.RowKit Go.Lib in
theorem Ybaz.slices_Clone_string_nil (n c : Nat) (w : World) :
    Calls Ybaz.prog 9 #[.slice none n c] w fun e w' => e = .returned (.slice none 0 0) ∧ w' = w := Any.slices_Clone_string_nil Ybaz.laysNm216 n c w
open Go.RowKit Go.Lib in
theorem Ybaz.slices_Clone_string_zero (a : Addr) (c : Nat) (w : World) :
    Calls Ybaz.prog 9 #[.slice (some a) 0 c] w fun e w' => ∃ v', e = .returned v' ∧ w'.ownsRow w.heap.size 9 1 v' 0 [] ∧ v' ≠ .slice none 0 0 ∧ Below w.heap.size w w' := Any.slices_Clone_string_zero Ybaz.laysNm216 a c w
open Go.RowKit Go.Lib in
theorem Ybaz.slices_Equal_string_lens (a1 a2 : Option Addr) (n c m d : Nat) (w : World) (hnm : n ≠ m) :
    Calls Ybaz.prog 18 #[.slice a1 n c, .slice a2 m d] w fun e w' => e = .returned (.bool false) ∧ w' = w := Any.slices_Equal_string_lens Ybaz.lays193 a1 a2 n c m d w hnm
end Go.Proofs

