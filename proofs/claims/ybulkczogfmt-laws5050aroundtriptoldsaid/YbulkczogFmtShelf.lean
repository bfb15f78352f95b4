/- The shelf's contracts at this program, in plain words: laid by the kit's tool. -/
import Derived.Ground.MnProg
import Derived.Shelf.Bin.BEAppendUint16
import Derived.Shelf.Bin.BEAppendUint32
import Derived.Shelf.Bytes.SlEqualAll
import Derived.Shelf.Bytes.Small
import Derived.Test.YbulkczogFmtProg
namespace Go.Proofs
open Go.Shelf
def Ybaf.laysBin38_ren : Go.Shelf.Ren := ⟨fun | 38 => 15 | n => n, fun | 37 => 45 | 22 => 22 | 23 => 47 | 0 => 0 | 45 => 50 | 5 => 5 | n => n, fun | n => n⟩
theorem Ybaf.laysBin38 : Go.Proofs.LaysBin.n38 Ybaf.prog Ybaf.laysBin38_ren := {
  mixed := by kernel_rfl
  f38 := Ybaf.func15.trans (congrArg some (by kernel_rfl))
  t0 := Ybaf.underlying0
  a0 := Ybaf.isAgg0
  z0 := Ybaf.sizeOf0
  v0 := Ybaf.zeroValue0
  i0 := by kernel_rfl
  t5 := Ybaf.underlying5
  a5 := Ybaf.isAgg5
  z5 := Ybaf.sizeOf5
  v5 := Ybaf.zeroValue5
  i5 := by kernel_rfl
  t22 := Ybaf.underlying22
  a22 := Ybaf.isAgg22
  z22 := Ybaf.sizeOf22
  v22 := Ybaf.zeroValue22
  i22 := by kernel_rfl
  t23 := Ybaf.underlying47
  a23 := Ybaf.isAgg47
  z23 := Ybaf.sizeOf47
  v23 := Ybaf.zeroValue47
  i23 := by kernel_rfl
  t37 := Ybaf.underlying45
  a37 := Ybaf.isAgg45
  z37 := Ybaf.sizeOf45
  v37 := Ybaf.zeroValue45
  i37 := by kernel_rfl
  t45 := Ybaf.underlying50
  a45 := Ybaf.isAgg50
  z45 := Ybaf.sizeOf50
  v45 := Ybaf.zeroValue50
  i45 := by kernel_rfl }
open Go.RowKit in
theorem Ybaf.binary_BE_AppendUint16 (B n v : Nat) (hv : v < 65536) (sv : Value) (xs : List Value) (w : World) (hown : w.ownsRow B 5 1 sv n xs) (hBw : B ≤ w.heap.size) (hlim : n + 2 ≤ 140737488355328) :
    Calls Ybaf.prog 15 #[.agg #[], sv, .int .u16 v] w fun e w' => ∃ v', e = .returned v' ∧ w'.ownsRow B 5 1 v' (n + 2) (xs ++ Lib.byteCells (Lib.beBytes 2 v)) ∧ Below B w w' := Any.binary_BE_AppendUint16 Ybaf.laysBin38 B n v hv sv xs w hown hBw hlim
def Ybaf.laysBin41_ren : Go.Shelf.Ren := ⟨fun | 41 => 16 | n => n, fun | 37 => 45 | 22 => 22 | 29 => 34 | 0 => 0 | 45 => 50 | 5 => 5 | n => n, fun | n => n⟩
theorem Ybaf.laysBin41 : Go.Proofs.LaysBin.n41 Ybaf.prog Ybaf.laysBin41_ren := {
  mixed := by kernel_rfl
  f41 := Ybaf.func16.trans (congrArg some (by kernel_rfl))
  t0 := Ybaf.underlying0
  a0 := Ybaf.isAgg0
  z0 := Ybaf.sizeOf0
  v0 := Ybaf.zeroValue0
  i0 := by kernel_rfl
  t5 := Ybaf.underlying5
  a5 := Ybaf.isAgg5
  z5 := Ybaf.sizeOf5
  v5 := Ybaf.zeroValue5
  i5 := by kernel_rfl
  t22 := Ybaf.underlying22
  a22 := Ybaf.isAgg22
  z22 := Ybaf.sizeOf22
  v22 := Ybaf.zeroValue22
  i22 := by kernel_rfl
  t29 := Ybaf.underlying34
  a29 := Ybaf.isAgg34
  z29 := Ybaf.sizeOf34
  v29 := Ybaf.zeroValue34
  i29 := by kernel_rfl
  t37 := Ybaf.underlying45
  a37 := Ybaf.isAgg45
  z37 := Ybaf.sizeOf45
  v37 := Ybaf.zeroValue45
  i37 := by kernel_rfl
  t45 := Ybaf.underlying50
  a45 := Ybaf.isAgg50
  z45 := Ybaf.sizeOf50
  v45 := Ybaf.zeroValue50
  i45 := by kernel_rfl }
open Go.RowKit in
theorem Ybaf.binary_BE_AppendUint32 (B n v : Nat) (hv : v < 4294967296) (sv : Value) (xs : List Value) (w : World) (hown : w.ownsRow B 5 1 sv n xs) (hBw : B ≤ w.heap.size) (hlim : n + 4 ≤ 140737488355328) :
    Calls Ybaf.prog 16 #[.agg #[], sv, .int .u32 v] w fun e w' => ∃ v', e = .returned v' ∧ w'.ownsRow B 5 1 v' (n + 4) (xs ++ Lib.byteCells (Lib.beBytes 4 v)) ∧ Below B w w' := Any.binary_BE_AppendUint32 Ybaf.laysBin41 B n v hv sv xs w hown hBw hlim
def Ybaf.laysnb115_ren : Go.Shelf.Ren := ⟨fun | 115 => 11 | n => n, fun | 37 => 22 | 4 => 4 | 9 => 9 | 5 => 5 | n => n, fun | n => n⟩
theorem Ybaf.laysnb115 : Go.Proofs.Lays.nb115 Ybaf.prog Ybaf.laysnb115_ren := {
  mixed := by kernel_rfl
  f115 := Ybaf.func11.trans (congrArg some (by kernel_rfl))
  t4 := Ybaf.underlying4
  a4 := Ybaf.isAgg4
  z4 := Ybaf.sizeOf4
  v4 := Ybaf.zeroValue4
  t9 := Ybaf.underlying9
  a9 := Ybaf.isAgg9
  z9 := Ybaf.sizeOf9
  v9 := Ybaf.zeroValue9
  t37 := Ybaf.underlying22
  a37 := Ybaf.isAgg22
  z37 := Ybaf.sizeOf22
  v37 := Ybaf.zeroValue22
  t5 := Ybaf.underlying5
  a5 := Ybaf.isAgg5
  z5 := Ybaf.sizeOf5
  v5 := Ybaf.zeroValue5 }
theorem Ybaf.bytes_Equal_all (p1 p2 : Option Addr) (n c m d : Nat) (xs ys : List Int) (w : World) (hx : xs.length = n) (hy : ys.length = m) (h1 : Lib.BytesIn w p1 n xs) (h2 : Lib.BytesIn w p2 m ys) :
    Calls Ybaf.prog 11 #[.slice p1 n c, .slice p2 m d] w fun e w' => e = .returned (.bool (Lib.bytesOf xs == Lib.bytesOf ys)) ∧ w' = w := Any.bytes_Equal_all Ybaf.laysnb115 p1 p2 n c m d xs ys w hx hy h1 h2
def Ybaf.lays115_ren : Go.Shelf.Ren := ⟨fun | 115 => 11 | n => n, fun | 37 => 22 | 4 => 4 | 9 => 9 | 5 => 5 | n => n, fun | n => n⟩
theorem Ybaf.lays115 : Go.Proofs.Lays.n115 Ybaf.prog Ybaf.lays115_ren := {
  mixed := by kernel_rfl
  f115 := Ybaf.func11.trans (congrArg some (by kernel_rfl))
  t4 := Ybaf.underlying4
  a4 := Ybaf.isAgg4
  z4 := Ybaf.sizeOf4
  v4 := Ybaf.zeroValue4
  t9 := Ybaf.underlying9
  a9 := Ybaf.isAgg9
  z9 := Ybaf.sizeOf9
  v9 := Ybaf.zeroValue9
  t37 := Ybaf.underlying22
  a37 := Ybaf.isAgg22
  z37 := Ybaf.sizeOf22
  v37 := Ybaf.zeroValue22 }
theorem Ybaf.bytes_Equal (v1 v2 : Value) (xs ys : List Int) (w : World) (h1 : (convert 22 9 v1).run Ybaf.prog w = .ok (.string (strOfNums xs)) w) (h2 : (convert 22 9 v2).run Ybaf.prog w = .ok (.string (strOfNums ys)) w) :
    Calls Ybaf.prog 11 #[v1, v2] w fun e w' => e = .returned (.bool (Lib.bytesOf xs == Lib.bytesOf ys)) ∧ w' = w := Any.bytes_Equal Ybaf.lays115 v1 v2 xs ys w h1 h2
end Go.Proofs
