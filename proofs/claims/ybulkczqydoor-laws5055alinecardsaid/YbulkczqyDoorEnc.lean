import Derived.Test.YbulkczqyDoorFit
import Derived.Deep.DrawnRows
import Derived.Deep.RegionLaw
namespace Go.Proofs.YbulkczqyDoor
open Go.RowKit
attribute [local go_sem ↓] Go.wp_at_zero Go.wp_at_succ

abbrev encCells (bW : Nat) (ind : ByteArray) (v : Value) : Array Value := #[.pointer (some ⟨bW, 0, none⟩), .string ind, v, .slice none 0 0, .int .i64 0, .int .i8 0, .nilIface]
/-- The encoder lies whole in a block of its own; it holds no error. -/
def Enc (w : World) (be bW : Nat) (ind : ByteArray) (v : Value) : Prop := w.heap[be]? = some (.cells (encCells bW ind v) 38 (0, 0))

theorem Enc.cells {w : World} {be bW : Nat} {ind : ByteArray} {v : Value} (h : Enc w be bW ind v) : w.cell? ⟨be, 0, none⟩ = some (.pointer (some ⟨bW, 0, none⟩)) ∧ w.cell? ⟨be, 1, none⟩ = some (.string ind) ∧ w.cell? ⟨be, 2, none⟩ = some v ∧
    w.cell? ⟨be, 6, none⟩ = some .nilIface ∧ w.frozen? ⟨be, 2, none⟩ = false := by
  have c := cell_block h
  exact ⟨(c 0).1, (c 1).1, (c 2).1, (c 6).1, (c 2).2⟩

set_option maxHeartbeats 400000 in
theorem put_fit (r : ByteArray) (w : World) (be bw bf bW : Nat) (ind : ByteArray) (v : Value) (hd : List UInt8) (ho : bw < bf ∧ bf < bW) (he : Enc w be bW ind v) (h : Wr0 w bw bf bW hd) (hfit : r.size + hd.length ≤ 4096) :
    Calls Ybad.prog 12 #[.pointer (some ⟨be, 0, none⟩), .string r] w fun e w' => e = .returned (.tuple #[]) ∧ Wr0 w' bw bf bW (hd ++ r.data.toList) ∧ Fr2 bf bW w w' := by
  obtain ⟨c0, c1, c2, c6, f2⟩ := he.cells
  have HW : Hid (Wr0 w bw bf bW hd) := h
  clear h he
  go_enter Ybad.func12, Ybad.ntmps12
  go_wp2_with (go_at_call 14; refine (writestr_fit r _ bw bf bW hd ho HW.out hfit).mono ?_; rintro e w1 ⟨⟨n, rfl⟩, hw1, hf1⟩)
  go_end0
  exact ⟨rfl, hw1, hf1⟩

set_option maxHeartbeats 400000 in
theorem put_any (r : ByteArray) (w : World) (B be bw bf bW : Nat) (ind : ByteArray) (v : Value) (fl hd : List UInt8) (hp : Placed w B bw bf bW) (he : Enc w be bW ind v) (h : Wr w B bw bf bW fl hd) (hlim : fl.length + hd.length + r.size ≤ 1048576) :
    Calls Ybad.prog 12 #[.pointer (some ⟨be, 0, none⟩), .string r] w fun e w' => e = .returned (.tuple #[]) ∧ (∃ fl' hd', fl' ++ hd' = fl ++ hd ++ r.data.toList ∧ Wr w' B bw bf bW fl' hd') ∧ Fr B bw bf bW w w' := by
  obtain ⟨c0, c1, c2, c6, f2⟩ := he.cells
  have HW : Hid (Wr w B bw bf bW fl hd) := h
  have HP : Hid (Placed w B bw bf bW) := hp
  clear h he hp
  go_enter Ybad.func12, Ybad.ntmps12
  go_wp2_with (go_at_call 14; refine (writestr_any r _ B bw bf bW fl hd HP.out HW.out hlim).mono ?_; rintro e w1 ⟨⟨n, rfl⟩, hw1, hf1⟩)
  go_end0
  exact ⟨rfl, hw1, hf1⟩
end Go.Proofs.YbulkczqyDoor
