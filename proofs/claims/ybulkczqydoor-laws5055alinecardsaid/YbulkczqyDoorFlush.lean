import Derived.Test.YbulkczqyDoorWr
namespace Go.Proofs.YbulkczqyDoor
open Go.RowKit

/-- Where the writer's blocks lie. -/
abbrev Placed (w : World) (B bw bf bW : Nat) : Prop := bw < bf ∧ bf < bW ∧ bW < B ∧ B ≤ w.heap.size

theorem Placed.lts {w : World} {B bw bf bW : Nat} (h : Placed w B bw bf bW) : bw < B ∧ bf < B ∧ bW < B ∧ B ≤ w.heap.size := ⟨by omega, by omega, h.2.2.1, h.2.2.2⟩
theorem Placed.nes {w : World} {B bw bf bW : Nat} (h : Placed w B bw bf bW) : bw ≠ bf ∧ bf ≠ bW ∧ bw ≠ bW := ⟨by omega, by omega, by omega⟩

set_option maxHeartbeats 400000 in
theorem write_any (w : World) (B bw bf bW c : Nat) (fl hd : List UInt8) (hp : Placed w B bw bf bW) (h : Wr w B bw bf bW fl hd) (h0 : 0 < hd.length) (hlim : fl.length ≤ 1099511627776) :
    Calls Ybad.prog 45 #[.pointer (some ⟨bw, 0, none⟩), .slice (some ⟨bf, 0, none⟩) hd.length c] w fun e w' => e = .returned (.tuple #[.int .i64 hd.length, .nilIface]) ∧ Wr w' B bw bf bW (fl ++ hd) hd ∧ Fr B bw bf bW w w' := by
  obtain ⟨i0, hi, hz0, hz1, hz2⟩ := info_parts Ybad.info5
  obtain ⟨v, hv, hf, hown⟩ := h.sink
  have HV : Hid (w.cell? ⟨bw, 0, none⟩ = some v) := hv
  have hle := h.le
  have HW : Hid (Wr w B bw bf bW fl hd) := h
  have HP : Hid (Placed w B bw bf bW) := hp
  have hbs := hp.lts.2.2.2
  clear h hp
  go_enter Ybad.func45, Ybad.ntmps45
  go_wp2_with (at_builtin; refine wpList_append_lies _ rfl (.tmp 10) (.tmp 11) 24 rfl B 5 i0 (.int .u8 0) 1 1 Ybad.underlying24 hi hz0 hz1 hz2 rfl (by decide) _ _ _ rfl hown ⟨bf, 0, none⟩ hd.length c (Lib.byteCells hd) rfl ?c1 HW.out.held (Lib.byteCells_one hd) h0 ?c2 ?c3 hbs w.heap.size rfl ?_)
  case c1 => simp [Lib.byteCells_length]
  case c2 => unfold maxLen; omega
  case c3 => omega
  intro g cap w1 hown1 hgrow hat hlt
  have hbw : bw < B := HP.out.lts.1
  have hc1 : w1.cell? ⟨bw, 0, none⟩ = some v := by
    rw [hgrow.cell_far _ (by simp; omega) (fun e => by have := (hown.lt bw e.symm).1; omega)]; exact HV.out
  have hf1 : w1.frozen? ⟨bw, 0, none⟩ = false := by
    rw [hgrow.frozen_far _ (by simp; omega) (fun e => by have := (hown.lt bw e.symm).1; omega)]; exact hf
  have HR : Hid _ := HW.out.sent HV.out HP.out.lts HP.out.nes hown1 hgrow
  clear hown1 hgrow hat hown hv hf
  go_wp2
  go_ret2
  exact ⟨rfl, HR.out.1, HR.out.2⟩

theorem method_write (a : Addr) (w : World) : (method 202 23 (.pointer (some a)) "Write").run Ybad.prog w = .ok (45, .pointer (some a)) w := by kernel_rfl

set_option maxHeartbeats 400000 in
theorem flush_some (w : World) (B bw bf bW : Nat) (fl hd : List UInt8) (hp : Placed w B bw bf bW) (h : Wr w B bw bf bW fl hd) (h0 : 0 < hd.length) (hlim : fl.length ≤ 1099511627776) :
    Calls Ybad.prog 7 #[.pointer (some ⟨bW, 0, none⟩)] w fun e w' => e = .returned .nilIface ∧ Wr w' B bw bf bW (fl ++ hd) [] ∧ Fr B bw bf bW w w' := by
  obtain ⟨c0, c1, c2, c3, f2⟩ := h.cells
  have hle := h.le
  have HW : Hid (Wr w B bw bf bW fl hd) := h
  have HP : Hid (Placed w B bw bf bW) := hp
  clear h hp
  have e0 : ((hd.length : Int) == 0) = false := by rw [beq_eq_false_iff_ne]; omega
  have i1 : (0 : Int) ≤ (hd.length : Int) := by omega
  have i2 : (hd.length : Int) ≤ 4096 := by omega
  have hmw := method_write
  go_enter Ybad.func7, Ybad.ntmps7
  go_wp2_with fail
  go_region_held3 (fun w' => w'.cell? ⟨bW, 1, none⟩ = some (.slice (some ⟨bf, 0, none⟩) 4096 4096) ∧ w'.cell? ⟨bW, 2, none⟩ = some (.int .i64 hd.length) ∧ w'.cell? ⟨bW, 3, none⟩ = some (.iface 23 (.pointer (some ⟨bw, 0, none⟩)))) (first | exact hS2 | go_keep)
    ((first
      | (go_at_call 45; refine (write_any _ B bw bf bW 4096 fl hd ?p1 ?p2 h0 hlim).mono ?p3; (case p1 => exact HP.out); (case p2 => exact HW.out.drew); rintro e w2 ⟨rfl, hw2, hfr2⟩; have hS2 := (show _ ∧ _ ∧ _ from ⟨hw2.cells.2.1, hw2.cells.2.2.1, hw2.cells.2.2.2.1⟩))))
  have f2' := hw2.cells.2.2.2.2
  have HR : Hid (Wr (w2.setCell ⟨bW, 2, none⟩ (.int .i64 0)) B bw bf bW (fl ++ hd) []) := hw2.emptied ⟨HP.out.lts.1, HP.out.lts.2.1, HP.out.lts.2.2.1⟩ HP.out.nes
  have HFr : Hid (Fr B bw bf bW w w2) := (Fr.refl B bw bf bW w).drew.trans hfr2
  clear hw2 hfr2 c0 c1 c2 c3 f2 hmw
  go_wp2
  go_ret
  exact ⟨rfl, HR.out, HFr.out.setCell (.inr (.inr rfl)) _⟩

set_option maxHeartbeats 400000 in
theorem flush_none (w : World) (B bw bf bW : Nat) (fl : List UInt8) (h : Wr w B bw bf bW fl []) :
    Calls Ybad.prog 7 #[.pointer (some ⟨bW, 0, none⟩)] w fun e w' => e = .returned .nilIface ∧ w = w' := by
  obtain ⟨c0, c1, c2, c3, f2⟩ := h.cells
  clear h
  go_enter Ybad.func7, Ybad.ntmps7
  go_wp2
  go_ret
  exact ⟨rfl, rfl⟩

theorem flush_any (w : World) (B bw bf bW : Nat) (fl hd : List UInt8) (hp : Placed w B bw bf bW) (h : Wr w B bw bf bW fl hd) (hlim : fl.length ≤ 1099511627776) :
    Calls Ybad.prog 7 #[.pointer (some ⟨bW, 0, none⟩)] w fun e w' => e = .returned .nilIface ∧ Wr w' B bw bf bW (fl ++ hd) [] ∧ Fr B bw bf bW w w' := by
  cases hd with
  | nil =>
    refine (flush_none w B bw bf bW fl h).mono ?_
    rintro e w' ⟨rfl, rfl⟩
    exact ⟨rfl, by simpa using h, Fr.refl _ _ _ _ _⟩
  | cons x hd => exact flush_some w B bw bf bW fl (x :: hd) hp h (by simp) hlim

set_option maxHeartbeats 400000 in
theorem buffered_any (w : World) (B bw bf bW : Nat) (fl hd : List UInt8) (h : Wr w B bw bf bW fl hd) :
    Calls Ybad.prog 10 #[.pointer (some ⟨bW, 0, none⟩)] w fun e w' => e = .returned (.int .i64 hd.length) ∧ w = w' := by
  obtain ⟨c0, c1, c2, c3, f2⟩ := h.cells
  clear h
  go_enter Ybad.func10, Ybad.ntmps10
  go_wp2
  go_ret
  exact ⟨rfl, rfl⟩

set_option maxHeartbeats 400000 in
theorem available_any (w : World) (B bw bf bW : Nat) (fl hd : List UInt8) (h : Wr w B bw bf bW fl hd) :
    Calls Ybad.prog 16 #[.pointer (some ⟨bW, 0, none⟩)] w fun e w' => e = .returned (.int .i64 (4096 - (hd.length : Int))) ∧ ∃ m, w' = w.drewN m := by
  obtain ⟨c0, c1, c2, c3, f2⟩ := h.cells
  have hle := h.le
  clear h
  go_enter Ybad.func16, Ybad.ntmps16
  go_wp2
  go_quiet (fail)
  go_wp2
  go_ret
  exact ⟨rfl, nq, rfl⟩
end Go.Proofs.YbulkczqyDoor
