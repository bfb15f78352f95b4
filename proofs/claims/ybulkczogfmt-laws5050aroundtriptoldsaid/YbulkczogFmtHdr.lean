import Derived.Test.YbulkczogFmtShelf
import Derived.Test.YbulkczogFmtFacts
import Derived.Deep.RegionHeld3
import Derived.Deep.AppendLies
import Derived.Laws.CopyOwn
import Derived.Deep.Light
namespace Go.Proofs.YbulkczogFmt
open Go.RowKit Go.Extern.Stop Go.Stop Go.Extern

/-- The header's bytes, or nothing: what the text of 'zzs5050amodel' says, in plain words -/
def hdr (m fix fixMax c8 c16 c32 : Int) : Option (List Int) :=
  if m ≤ fixMax then some [bits BinOp.or IntKind.u8 fix (m % 256)]
  else if c8 ≠ 0 ∧ m ≤ 255 then some [c8, m % 256]
  else if m ≤ 65535 then some [c16, m / 256 % 256, m % 256]
  else if m ≤ 4294967295 then some [c32, m / 16777216 % 256, m / 65536 % 256, m / 256 % 256, m % 256]
  else none

abbrev forms (kind : ByteArray) (fix fixMax c8 c16 c32 : Int) : Value := .agg #[.string kind, .int .u8 fix, .int .i64 fixMax, .int .u8 c8, .int .u8 c16, .int .u8 c32]
abbrev formsObj (kind : ByteArray) (fix fixMax c8 c16 c32 : Int) : Obj := .cells #[.string kind, .int .u8 fix, .int .i64 fixMax, .int .u8 c8, .int .u8 c16, .int .u8 c32] 25

section
variable (m : Int) (kind : ByteArray) (fix fixMax c8 c16 c32 : Int) (w : World)

set_option maxHeartbeats 400000 in
theorem model_1 (h1 : m ≤ fixMax) :
    Calls Ybaf.prog 10 #[.int .i64 m, forms kind fix fixMax c8 c16 c32] w fun e w' => e = .returned (.tuple #[.slice (some ⟨w.heap.size + 1, 0, none⟩) 1 1, .bool true]) ∧
      w' = (w.alloc (formsObj kind fix fixMax c8 c16 c32)).alloc (.cells #[.int .u8 (bits BinOp.or IntKind.u8 fix (m % 256))] 5) := by
  go_enter Ybaf.func10, Ybaf.ntmps10
  go_wp2
  go_ret2
  exact ⟨rfl, rfl⟩

set_option maxHeartbeats 400000 in
theorem model_2 (h1 : fixMax < m) (h8 : (c8 != 0) = true) (h2 : m ≤ 255) :
    Calls Ybaf.prog 10 #[.int .i64 m, forms kind fix fixMax c8 c16 c32] w fun e w' => e = .returned (.tuple #[.slice (some ⟨w.heap.size + 1, 0, none⟩) 2 2, .bool true]) ∧
      w' = (w.alloc (formsObj kind fix fixMax c8 c16 c32)).alloc (.cells #[.int .u8 c8, .int .u8 (m % 256)] 5) := by
  go_enter Ybaf.func10, Ybaf.ntmps10
  go_wp2
  go_ret2
  exact ⟨rfl, rfl⟩

set_option maxHeartbeats 400000 in
theorem model_3 (h1 : fixMax < m) (h8 : (c8 != 0) = false ∨ 255 < m) (h2 : m ≤ 65535) :
    Calls Ybaf.prog 10 #[.int .i64 m, forms kind fix fixMax c8 c16 c32] w fun e w' => e = .returned (.tuple #[.slice (some ⟨w.heap.size + 1, 0, none⟩) 3 3, .bool true]) ∧
      w' = (w.alloc (formsObj kind fix fixMax c8 c16 c32)).alloc (.cells #[.int .u8 c16, .int .u8 (m / 256 % 256), .int .u8 (m % 256)] 5) := by
  by_cases h8' : (c8 != 0) = true
  · have h9 : 255 < m := by rcases h8 with h | h; · rw [h] at h8'; cases h8'
                            · exact h
    clear h8
    go_enter Ybaf.func10, Ybaf.ntmps10
    go_wp2
    go_ret2
    exact ⟨rfl, by rw [Int.emod_eq_of_lt (a := m / 256) (by omega) (by omega)]⟩
  · have h8' : (c8 != 0) = false := by simpa using h8'
    clear h8
    go_enter Ybaf.func10, Ybaf.ntmps10
    go_wp2
    go_ret2
    exact ⟨rfl, rfl⟩

set_option maxHeartbeats 400000 in
theorem model_4 (h1 : fixMax < m) (h2 : 65535 < m) (h3 : m ≤ 4294967295) :
    Calls Ybaf.prog 10 #[.int .i64 m, forms kind fix fixMax c8 c16 c32] w fun e w' => e = .returned (.tuple #[.slice (some ⟨w.heap.size + 1, 0, none⟩) 5 5, .bool true]) ∧
      w' = (w.alloc (formsObj kind fix fixMax c8 c16 c32)).alloc (.cells #[.int .u8 c32, .int .u8 (m / 16777216 % 256), .int .u8 (m / 65536 % 256), .int .u8 (m / 256 % 256), .int .u8 (m % 256)] 5) := by
  have h8' : (c8 != 0) = true ∨ (c8 != 0) = false := by cases (c8 != 0) <;> simp
  rcases h8' with h8' | h8'
  all_goals
    go_enter Ybaf.func10, Ybaf.ntmps10
    go_wp2
    go_ret2
    exact ⟨rfl, by rw [Int.emod_eq_of_lt (a := m / 16777216) (by omega) (by omega)]⟩

set_option maxHeartbeats 400000 in
theorem model_5 (h1 : fixMax < m) (h2 : 4294967295 < m) :
    Calls Ybaf.prog 10 #[.int .i64 m, forms kind fix fixMax c8 c16 c32] w fun e w' => e = .returned (.tuple #[.slice none 0 0, .bool false]) ∧
      w' = w.alloc (formsObj kind fix fixMax c8 c16 c32) := by
  have h8' : (c8 != 0) = true ∨ (c8 != 0) = false := by cases (c8 != 0) <;> simp
  rcases h8' with h8' | h8'
  all_goals
    go_enter Ybaf.func10, Ybaf.ntmps10
    go_wp2
    go_ret2
    exact ⟨rfl, rfl⟩
end
end Go.Proofs.YbulkczogFmt
