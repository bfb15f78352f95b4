import Derived.Test.YbulkczqyDoorStr
namespace Go.Proofs.YbulkczqyDoor
open Go.RowKit

/-- THE WRITER BEFORE ITS FIRST FLUSH: the sink has taken nothing and has no row. -/
def Wr0 (w : World) (bw bf bW : Nat) (hd : List UInt8) : Prop :=
  w.heap[bw]? = some (.cells #[.slice none 0 0] 26 (0, 0)) ∧ ∀ B, Wr w B bw bf bW [] hd

theorem Wr0.drewN {w : World} {bw bf bW : Nat} {hd : List UInt8} (h : Wr0 w bw bf bW hd) (m : Nat) : Wr0 (w.drewN m) bw bf bW hd := h
theorem Wr0.drew {w : World} {bw bf bW : Nat} {hd : List UInt8} (h : Wr0 w bw bf bW hd) : Wr0 w.drew bw bf bW hd := h

/-- The world is as it was but for the two blocks of the writer's. -/
structure Fr2 (bf bW : Nat) (w w' : World) : Prop where
  os : w'.os = w.os
  tape : w'.tape = w.tape
  output : w'.output = w.output
  size : w'.heap.size = w.heap.size
  block : ∀ k, k ≠ bf → k ≠ bW → w'.heap[k]? = w.heap[k]?
theorem Fr2.trans {bf bW : Nat} {a b c : World} (h : Fr2 bf bW a b) (k : Fr2 bf bW b c) : Fr2 bf bW a c :=
  ⟨k.os.trans h.os, k.tape.trans h.tape, k.output.trans h.output, k.size.trans h.size, fun i h3 h4 => (k.block i h3 h4).trans (h.block i h3 h4)⟩

theorem Wr0.put {w w2 : World} {bw bf bW : Nat} {hd : List UInt8} {cur : Array Value} {x : ByteArray} (h : Wr0 w bw bf bW hd) (ho : bw < bf ∧ bf < bW) (hcur : w.heap[bf]? = some (.cells cur 5 (0, 0)))
    (he : w2 = w.setRow bf (cur.toList.take hd.length ++ Lib.byteCells (x.data.toList.take x.size) ++ cur.toList.drop (hd.length + x.size)).toArray) (hfit : hd.length + x.size ≤ 4096) :
    Wr0 (w2.setCell ⟨bW, 2, none⟩ (.int .i64 ((hd.length : Int) + (x.size : Int)))) bw bf bW (hd ++ x.data.toList) ∧ Fr2 bf bW w (w2.setCell ⟨bW, 2, none⟩ (.int .i64 ((hd.length : Int) + (x.size : Int)))) := by
  have hl : x.data.toList.length = x.size := Array.length_toList
  have htk : x.data.toList.take x.size = x.data.toList := List.take_of_length_le (Nat.le_of_eq hl)
  rw [htk] at he
  have e2 : (((hd ++ x.data.toList).length : Nat) : Int) = (hd.length : Int) + (x.size : Int) := by rw [List.length_append, hl]; rfl
  have hk : ∀ B, bW < B → Wr (w2.setCell ⟨bW, 2, none⟩ (.int .i64 ((hd.length : Int) + (x.size : Int)))) B bw bf bW [] (hd ++ x.data.toList) := fun B hB => by
    have k := (h.2 B).put hcur ⟨by omega, by omega, hB⟩ ⟨by omega, by omega, by omega⟩ x.data.toList (by omega)
    rw [e2, hl] at k
    rw [he]; exact k
  have hbw : (w2.setCell ⟨bW, 2, none⟩ (.int .i64 ((hd.length : Int) + (x.size : Int)))).heap[bw]? = some (.cells #[.slice none 0 0] 26 (0, 0)) := by
    rw [set_other _ (by omega), he, setRow_other w bf bw _ (by omega)]; exact h.1
  refine ⟨⟨hbw, fun B => ?_⟩, ?_⟩
  · obtain ⟨v, cur', h1, _, h3, h4, h5, h6, h7⟩ := hk (bW + 1) (by omega)
    exact ⟨.slice none 0 0, cur', hbw, World.ownsRow_nil _ _ _ _, h3, h4, h5, h6, h7⟩
  · subst he
    refine ⟨rfl, rfl, rfl, by simp [World.setCell, World.setRow], fun k h1 h2 => ?_⟩
    rw [set_other _ h2, setRow_other w bf k _ h1]

set_option maxRecDepth 100000 in
set_option maxHeartbeats 1000000 in
theorem writestr_fit (r : ByteArray) (w : World) (bw bf bW : Nat) (hd : List UInt8) (ho : bw < bf ∧ bf < bW) (h : Wr0 w bw bf bW hd) (hfit : r.size + hd.length ≤ 4096) :
    Calls Ybad.prog 14 #[.pointer (some ⟨bW, 0, none⟩), .string r] w fun e w' => (∃ n : Int, e = .returned (.tuple #[.int .i64 n, .nilIface])) ∧ Wr0 w' bw bf bW (hd ++ r.data.toList) ∧ Fr2 bf bW w w' := by
  obtain ⟨c0, c1, c2, c3, f2⟩ := (h.2 0).cells
  have hle := (h.2 0).le
  have HW : Hid (Wr0 w bw bf bW hd) := h
  obtain ⟨cur, Hcur, hcs⟩ := (h.2 0).buf
  clear h
  have j1 : (0 : Int) ≤ (hd.length : Int) := by omega
  have j2 : (hd.length : Int) ≤ 4096 := by omega
  have hr0 : 0 ≤ (r.size : Int) := by omega
  go_enter Ybad.func14, Ybad.ntmps14
  go_wp2
  refine wp_loop_rounds 1 ?_
  rw [rounds_succ]
  go_wp2_with (go_at_call 16; refine (available_any _ 0 bw bf bW [] hd (HW.out.2 0)).mono ?_; rintro e w1 ⟨rfl, ⟨m, rfl⟩⟩)
  go_region_held3 (fun w' => w'.cell? ⟨bW, 1, none⟩ = some (.slice (some ⟨bf, 0, none⟩) 4096 4096) ∧ w'.cell? ⟨bW, 2, none⟩ = some (.int .i64 hd.length)) (first | exact hS2 | go_keep)
    ((refine step_copy_str ?q1 (.tmp 101) (.tmp 102) 24 9 ?q2 5 Ybad.underlying24 Ybad.size5 bf hd.length (4096 - hd.length) (4096 - hd.length) r.size (if 4096 = hd.length then some ⟨bf, 0, none⟩ else some ⟨bf, hd.length, none⟩) r ?q3 ?q4 cur 5 Hcur.out ?q5 ?q6 ?q7 ?q8; (case q1 => rfl); (case q2 => rfl); (case q3 => rfl); (case q4 => rfl); (case q5 => exact Nat.min_eq_left (by omega)); (case q6 => (intro hh; split <;> first | rfl | omega)); (case q7 => omega); intro w2 HE2; have hrc := ((HW.out.drewN m).drew.2 0).rowCells (show bf ≠ bW by omega) HE2.out; have hS2 := (show _ ∧ _ from ⟨hrc.2.1, hrc.2.2.1⟩)))
  have HPA : Hid _ := ((HW.out.drewN m).drew).put ho Hcur.out HE2.out (by omega)
  clear c0 c1 c2 c3 f2 hS2
  go_wp2
  all_goals
    go_ret2
    exact ⟨⟨_, rfl⟩, HPA.out.1, (show Fr2 bf bW w (w.drewN m).drew from ⟨rfl, rfl, rfl, rfl, fun _ _ _ => rfl⟩).trans HPA.out.2⟩
end Go.Proofs.YbulkczqyDoor
