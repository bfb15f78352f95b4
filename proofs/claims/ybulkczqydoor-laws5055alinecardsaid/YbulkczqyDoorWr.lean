import Derived.Test.YbulkczqyDoorMem
namespace Go.Proofs.YbulkczqyDoor
open Go.RowKit

section
variable {w : World} {B bw bf bW : Nat} {fl hd : List UInt8}

theorem Wr.cells (h : Wr w B bw bf bW fl hd) : w.cell? ⟨bW, 0, none⟩ = some .nilIface ∧ w.cell? ⟨bW, 1, none⟩ = some (.slice (some ⟨bf, 0, none⟩) 4096 4096) ∧ w.cell? ⟨bW, 2, none⟩ = some (.int .i64 hd.length) ∧
    w.cell? ⟨bW, 3, none⟩ = some (.iface 23 (.pointer (some ⟨bw, 0, none⟩))) ∧ w.frozen? ⟨bW, 2, none⟩ = false := by
  obtain ⟨v, cur, _, _, _, _, _, _, h7⟩ := h
  have c := cell_block h7
  exact ⟨(c 0).1, (c 1).1, (c 2).1, (c 3).1, (c 2).2⟩

/-- The sink's one cell. -/
theorem Wr.sink (h : Wr w B bw bf bW fl hd) : ∃ v, w.cell? ⟨bw, 0, none⟩ = some v ∧ w.frozen? ⟨bw, 0, none⟩ = false ∧ w.ownsRow B 5 1 v fl.length (Lib.byteCells fl) := by
  obtain ⟨v, cur, h1, h2, _⟩ := h
  exact ⟨v, (cell_block h1 0).1, (cell_block h1 0).2, h2⟩

/-- What the buffer holds, as cells. -/
theorem Wr.held (h : Wr w B bw bf bW fl hd) : ∀ j u, (Lib.byteCells hd)[j]? = some u → w.cell? ((⟨bf, 0, none⟩ : Addr).add j) = some u := by
  obtain ⟨v, cur, _, _, h3, _, h5, _, _⟩ := h
  intro j u hj
  rw [Go.WideShapes.add_plain, Nat.zero_add, (cell_block h3 j).1, ← Array.getElem?_toList]
  rw [← h5, List.getElem?_take] at hj
  split at hj
  · exact hj
  · cases hj

theorem Wr.le (h : Wr w B bw bf bW fl hd) : hd.length ≤ 4096 := by
  obtain ⟨v, cur, _, _, _, _, _, h6, _⟩ := h
  exact h6

/-- A draw turns nothing. -/
theorem Wr.drewN (h : Wr w B bw bf bW fl hd) (n : Nat) : Wr (w.drewN n) B bw bf bW fl hd := h
theorem Wr.drew (h : Wr w B bw bf bW fl hd) : Wr w.drew B bw bf bW fl hd := h

/-- The sink has taken what was handed to it. -/
theorem Wr.sent {w1 : World} {v v' : Value} (h : Wr w B bw bf bW fl hd) (hv : w.cell? ⟨bw, 0, none⟩ = some v) (hB : bw < B ∧ bf < B ∧ bW < B ∧ B ≤ w.heap.size) (hne : bw ≠ bf ∧ bf ≠ bW ∧ bw ≠ bW)
    (hown : w1.ownsRow B 5 1 v' (fl.length + hd.length) (Lib.byteCells fl ++ Lib.byteCells hd)) (hg : w.grownBy w1 v.ownBlock) :
    Wr (w1.setCell ⟨bw, 0, none⟩ v') B bw bf bW (fl ++ hd) hd ∧ Fr B bw bf bW w (w1.setCell ⟨bw, 0, none⟩ v') := by
  obtain ⟨v0, cur, h1, h2, h3, h4, h5, h6, h7⟩ := h
  obtain rfl : v0 = v := by
    have := (cell_block h1 0).1.symm.trans hv
    simpa using this
  have hr : ∀ k, v0.ownBlock = some k → B ≤ k := fun k hk => (h2.lt k hk).1
  have keep : ∀ k, k < B → w1.heap[k]? = w.heap[k]? := fun k hk => hg.block k (by omega) (fun e => by have := hr k e.symm; omega)
  refine ⟨⟨v', cur, ?_, ?_, ?_, h4, h5, h6, ?_⟩, (((Fr.refl B bw bf bW w).grown hg hB.2.2.2 hr)).setCell (.inl rfl) _⟩
  · have := set_block ((keep bw hB.1).trans h1) 0 v'
    exact this
  · have := owns_set (i := 0) (u := v') hown hB.1
    simpa [Lib.byteCells] using this
  · rw [set_other _ hne.1.symm, keep bf hB.2.1]; exact h3
  · rw [set_other _ hne.2.2.symm, keep bW hB.2.2.1]; exact h7

/-- 'b.n = 0'. -/
theorem Wr.emptied (h : Wr w B bw bf bW fl hd) (hB : bw < B ∧ bf < B ∧ bW < B) (hne : bw ≠ bf ∧ bf ≠ bW ∧ bw ≠ bW) :
    Wr (w.setCell ⟨bW, 2, none⟩ (.int .i64 0)) B bw bf bW fl [] := by
  obtain ⟨v, cur, h1, h2, h3, h4, _, _, h7⟩ := h
  refine ⟨v, cur, ?_, owns_set h2 hB.2.2, ?_, h4, by simp [Lib.byteCells], by simp, ?_⟩
  · rw [set_other _ hne.2.2]; exact h1
  · rw [set_other _ hne.2.1]; exact h3
  · exact set_block h7 2 _

/-- The buffer has taken m bytes more, and 'b.n' says so. -/
theorem Wr.put {cur : Array Value} (h : Wr w B bw bf bW fl hd) (hcur : w.heap[bf]? = some (.cells cur 5 (0, 0))) (hB : bw < B ∧ bf < B ∧ bW < B) (hne : bw ≠ bf ∧ bf ≠ bW ∧ bw ≠ bW) (x : List UInt8) (hx : hd.length + x.length ≤ 4096) :
    Wr ((w.setRow bf (cur.toList.take hd.length ++ Lib.byteCells x ++ cur.toList.drop (hd.length + x.length)).toArray).setCell ⟨bW, 2, none⟩ (.int .i64 (hd ++ x).length)) B bw bf bW fl (hd ++ x) := by
  obtain ⟨v, cur', h1, h2, h3, h4, h5, h6, h7⟩ := h
  obtain rfl : cur' = cur := by
    have := h3.symm.trans hcur
    simpa using this
  have hl : cur'.toList.length = 4096 := by simpa using h4
  refine ⟨v, (cur'.toList.take hd.length ++ Lib.byteCells x ++ cur'.toList.drop (hd.length + x.length)).toArray, ?_, owns_set (owns_setRow h2 hB.2.1) hB.2.2, ?_, ?_, ?_, by simpa using hx, ?_⟩
  · rw [set_other _ hne.2.2, setRow_other w bf bw _ hne.1]; exact h1
  · rw [set_other _ hne.2.1]; exact setRow_heap w bf _ _ 5 _ hcur
  · simp [Lib.byteCells_length]; omega
  · rw [h5]
    rw [List.take_append_of_le_length (by simp [Lib.byteCells_length])]
    rw [List.take_of_length_le (by simp [Lib.byteCells_length])]
    simp [Lib.byteCells]
  · have e : (w.setRow bf (cur'.toList.take hd.length ++ Lib.byteCells x ++ cur'.toList.drop (hd.length + x.length)).toArray).heap[bW]? = some (.cells (wrCells bf bw hd.length) 51 (0, 0)) := by
      rw [setRow_other w bf bW _ hne.2.1.symm]; exact h7
    exact set_block e 2 _
end
end Go.Proofs.YbulkczqyDoor
