import Derived.Test.YbulkczpwL2
namespace Go.Proofs.Ybulkczpw
open Go.RowKit

/-- The run-time's mark behind a row of bytes. -/
theorem mark_block {w : World} {b k : Nat} {C : Array Value} (h : w.heap[b]? = some (.cells C 5 (0, 0))) : (w.freeze ⟨b, k, none⟩ 1).heap[b]? = some (.cells C 5 (k, k + 1)) := by
  have hlt := lt_of_block h
  have h' : w.heap[b] = .cells C 5 (0, 0) := by simpa [Array.getElem?_eq_getElem hlt] using h
  unfold World.freeze
  rw [if_neg (by decide)]
  show (w.heap.modify b _)[b]? = _
  rw [Array.getElem?_eq_getElem (by simpa using hlt), Array.getElem_modify_self, h']
  simp

theorem mark_other {w : World} {b b' k : Nat} (h : b' ≠ b) : (w.freeze ⟨b, k, none⟩ 1).heap[b']? = w.heap[b']? := by
  unfold World.freeze
  rw [if_neg (by decide)]
  show (w.heap.modify b _)[b']? = _
  rw [Array.getElem?_modify, if_neg (fun e => h e.symm)]

theorem mark_fr {w w1 : World} {b k : Nat} {L : List Nat} (h : Fr L w w1) (hb : w.heap.size ≤ b) : Fr L w (w1.freeze ⟨b, k, none⟩ 1) := by
  have hs : (w1.freeze ⟨b, k, none⟩ 1).heap.size = w1.heap.size := by
    unfold World.freeze
    rw [if_neg (by decide)]
    show (w1.heap.modify b _).size = _
    simp
  refine ⟨?_, ?_, ?_, by rw [hs]; exact h.size, fun k' hk hn => (mark_other (by omega)).trans (h.block k' hk hn)⟩
  · rw [← h.os]; unfold World.freeze; rw [if_neg (by decide)]
  · rw [← h.tape]; unfold World.freeze; rw [if_neg (by decide)]
  · rw [← h.output]; unfold World.freeze; rw [if_neg (by decide)]

theorem run_mark {w : World} {b n c : Nat} {C : Array Value} (h : w.heap[b]? = some (.cells C 5 (0, 0))) :
    (convert 30 30 (.slice (some ⟨b, 0, none⟩) n c)).run Yba.prog w = .ok (.slice (some ⟨b, 0, none⟩) n c) (w.freeze ⟨b, C.size, none⟩ 1) := by
  have hsh : w.shape? b = some (5, C.size) := by
    unfold World.shape?
    rw [h]
  simp [convert, run_underlying Yba.underlying30, run_underlying Yba.underlying5, markStringish, hsh]

/-- The same, said of every world. -/
def markAt (w : World) (b : Nat) : World := match w.shape? b with | some (_, k) => w.freeze ⟨b, k, none⟩ 1 | none => w

theorem run_markAt (w : World) (b n c : Nat) : (convert 30 30 (.slice (some ⟨b, 0, none⟩) n c)).run Yba.prog w = .ok (.slice (some ⟨b, 0, none⟩) n c) (markAt w b) := by
  unfold markAt
  cases hs : w.shape? b with
  | none => simp [convert, run_underlying Yba.underlying30, run_underlying Yba.underlying5, markStringish, hs]
  | some x =>
    obtain ⟨t, k⟩ := x
    simp [convert, run_underlying Yba.underlying30, run_underlying Yba.underlying5, markStringish, hs]

theorem freeze_size (w : World) (a : Addr) (k : Nat) : (w.freeze a k).heap.size = w.heap.size := by
  unfold World.freeze
  split
  · rfl
  · simp
theorem freeze_cell (w : World) (b k : Nat) (a : Addr) : (w.freeze ⟨b, k, none⟩ 1).cell? a = w.cell? a := by
  unfold World.freeze
  rw [if_neg (by decide)]
  unfold World.cell?
  simp only [Array.getElem?_modify]
  by_cases h : b = a.block
  · subst h
    rw [if_pos rfl]
    cases w.heap[a.block]? with
    | none => rfl
    | some o => cases o <;> rfl
  · rw [if_neg h]

theorem markAt_size (w : World) (b : Nat) : (markAt w b).heap.size = w.heap.size := by
  unfold markAt
  split
  · exact freeze_size _ _ _
  · rfl
theorem markAt_cell (w : World) (b : Nat) (a : Addr) : (markAt w b).cell? a = w.cell? a := by
  unfold markAt
  split
  · exact freeze_cell _ _ _ _
  · rfl
theorem markAt_fr {w w1 : World} {b : Nat} {L : List Nat} (h : Fr L w w1) (hb : w.heap.size ≤ b) : Fr L w (markAt w1 b) := by
  unfold markAt
  split
  · exact mark_fr h hb
  · exact h

/-- Block b is a row that holds C. -/
def BlkAt (w : World) (b : Nat) (C : Array Value) : Prop := ∃ fr, w.heap[b]? = some (.cells C 5 fr)
theorem BlkAt.drew {w : World} {b : Nat} {C : Array Value} (h : BlkAt w b C) : BlkAt w.drew b C := h
theorem BlkAt.alloc {w : World} {b : Nat} {C : Array Value} (h : BlkAt w b C) (o : Obj) : BlkAt (w.alloc o) b C := by
  obtain ⟨fr, h⟩ := h
  exact ⟨fr, (Below.heap_alloc w o b (lt_of_block h)).trans h⟩
theorem BlkAt.new {w : World} {b : Nat} {C : Array Value} (hb : w.heap.size = b) : BlkAt (w.alloc (.cells C 5)) b C := by
  subst hb
  exact ⟨_, heap_alloc_new w _⟩
theorem BlkAt.mark {w : World} {b : Nat} {C : Array Value} (h : BlkAt w b C) (b' : Nat) : BlkAt (markAt w b') b C := by
  obtain ⟨fr, h⟩ := h
  unfold markAt
  split
  · rename_i t k hs
    by_cases e : b' = b
    · subst e
      have hlt := lt_of_block h
      have h' : w.heap[b'] = .cells C 5 fr := by simpa [Array.getElem?_eq_getElem hlt] using h
      refine ⟨?_, ?_⟩
      rotate_left
      · unfold World.freeze
        rw [if_neg (by decide)]
        show (w.heap.modify b' _)[b']? = _
        rw [Array.getElem?_eq_getElem (by simpa using hlt), Array.getElem_modify_self, h']
    · exact ⟨fr, (mark_other (fun e' => e e'.symm)).trans h⟩
  · exact ⟨fr, h⟩
end Go.Proofs.Ybulkczpw
