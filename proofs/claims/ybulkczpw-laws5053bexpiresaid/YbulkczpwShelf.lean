/- The shelf's contracts of bytes.Equal at this program, in plain words: laid by the kit's tool. -/
import Derived.Shelf.Bytes.SlSearch0
import Derived.Shelf.Bytes.SlEqualAll
import Derived.Shelf.Bytes.Small
import Derived.Test.YbulkczpwProg
namespace Go.Proofs
open Go.Shelf
def Yba.lays115_ren : Go.Shelf.Ren := ⟨fun | 115 => 26 | n => n, fun | 37 => 30 | 4 => 4 | 9 => 9 | 5 => 5 | n => n, fun | n => n⟩
theorem Yba.lays115 : Go.Proofs.Lays.n115 Yba.prog Yba.lays115_ren := {
  mixed := by kernel_rfl
  f115 := Yba.func26.trans (congrArg some (by kernel_rfl))
  t4 := Yba.underlying4
  a4 := Yba.isAgg4
  z4 := Yba.sizeOf4
  v4 := Yba.zeroValue4
  t9 := Yba.underlying9
  a9 := Yba.isAgg9
  z9 := Yba.sizeOf9
  v9 := Yba.zeroValue9
  t37 := Yba.underlying30
  a37 := Yba.isAgg30
  z37 := Yba.sizeOf30
  v37 := Yba.zeroValue30 }
open Go.Proofs Go.RowKit Go.Lib in
/-- bytes.Equal, each argument with what 'string(..)' of it gives. (LAID: no walk: one application.) -/
theorem Yba.bytes_Equal_strs (v1 v2 : Value) (t1 t2 : ByteArray) (w : World) (h1 : (convert 30 9 v1).run Yba.prog w = .ok (.string t1) w) (h2 : (convert 30 9 v2).run Yba.prog w = .ok (.string t2) w) :
    Calls Yba.prog 26 #[v1, v2] w fun e w' => e = .returned (.bool (t1.toList == t2.toList)) ∧ w' = w := Any.bytes_Equal_strs Yba.lays115 v1 v2 t1 t2 w h1 h2
def Yba.laysnb115_ren : Go.Shelf.Ren := ⟨fun | 115 => 26 | n => n, fun | 37 => 30 | 4 => 4 | 9 => 9 | 5 => 5 | n => n, fun | n => n⟩
theorem Yba.laysnb115 : Go.Proofs.Lays.nb115 Yba.prog Yba.laysnb115_ren := {
  mixed := by kernel_rfl
  f115 := Yba.func26.trans (congrArg some (by kernel_rfl))
  t4 := Yba.underlying4
  a4 := Yba.isAgg4
  z4 := Yba.sizeOf4
  v4 := Yba.zeroValue4
  t9 := Yba.underlying9
  a9 := Yba.isAgg9
  z9 := Yba.sizeOf9
  v9 := Yba.zeroValue9
  t37 := Yba.underlying30
  a37 := Yba.isAgg30
  z37 := Yba.sizeOf30
  v37 := Yba.zeroValue30
  t5 := Yba.underlying5
  a5 := Yba.isAgg5
  z5 := Yba.sizeOf5
  v5 := Yba.zeroValue5 }
/-- bytes.Equal: WHOLE. (LAID: no walk: one application.) -/
theorem Yba.bytes_Equal_all (p1 p2 : Option Addr) (n c m d : Nat) (xs ys : List Int) (w : World) (hx : xs.length = n) (hy : ys.length = m) (h1 : Lib.BytesIn w p1 n xs) (h2 : Lib.BytesIn w p2 m ys) :
    Calls Yba.prog 26 #[.slice p1 n c, .slice p2 m d] w fun e w' => e = .returned (.bool (Lib.bytesOf xs == Lib.bytesOf ys)) ∧ w' = w := Any.bytes_Equal_all Yba.laysnb115 p1 p2 n c m d xs ys w hx hy h1 h2
/-- bytes.Equal: "Equal reports whether a and b are the same length and contain the same bytes. A nil argument is equivalent to an empty slice.": IT RETURNS 'the bytes of the one == the bytes of the other'; the world is as it was. THE TWO ARGUMENTS COME AS WHATEVER VALUES, each with the one fact that the walk wants of it: what 'string(..)' of it gives: for a slice whose cells you know: 'run_convert_bytes_arg' (Derived/Laws/BytesArg.lean) hands that fact; for a nil one: 'run_convert_bytes_nil' (with xs := []). (LAID: no walk: one application.) -/
theorem Yba.bytes_Equal (v1 v2 : Value) (xs ys : List Int) (w : World) (h1 : (convert 30 9 v1).run Yba.prog w = .ok (.string (strOfNums xs)) w) (h2 : (convert 30 9 v2).run Yba.prog w = .ok (.string (strOfNums ys)) w) :
    Calls Yba.prog 26 #[v1, v2] w fun e w' => e = .returned (.bool (Lib.bytesOf xs == Lib.bytesOf ys)) ∧ w' = w := Any.bytes_Equal Yba.lays115 v1 v2 xs ys w h1 h2
end Go.Proofs
