import Derived.Test.YbulkczpwL1
import Derived.Laws.EntriesVeiled
namespace Go.Proofs.Ybulkczpw
open Go.RowKit

theorem mkstop_any (w : World) (lb i : Nat) :
    Calls Yba.prog 9 #[.pointer (some ⟨lb, 0, none⟩), .int .i64 (i : Int)] w fun e w' => e = .returned (stopF w.heap.size (w.heap.size + 1)) ∧ (w.alloc (.cells #[.pointer (some ⟨lb, 0, none⟩)] 41)).alloc (.cells #[.int .i64 (i : Int)] 3) = w' := by
  go_enter Yba.func9, Yba.ntmps9
  go_wp2
  go_ret
  exact ⟨rfl, rfl⟩

/-- The world behind the table's making. -/
abbrev startW (w : World) : World := ((w.alloc (.map #[] 0)).alloc (.map #[] 0)).alloc (.cells (tcells w.heap.size (w.heap.size + 1) (.slice none 0 0) (.slice none 0 0) (-1) 0 0 0 (-1) (-1)) 32)

theorem row_all {w1 : World} {base g n : Nat} {t : TypeId} {z : Value} (h : w1.ownsRow base t 1 (.slice (some ⟨g, 0, none⟩) n n) n (madeCells #[z] n).toList) : ∃ cs, w1.heap[g]? = some (.cells cs t (0, 0)) ∧ cs.size = n ∧ ∀ j, j < n → cs[j]? = some z := by
  obtain ⟨hl, ⟨h1, _⟩ | ⟨g', cap, cur, h1, _, h3, _, _, h4, h5⟩⟩ := h
  · cases h1
  · cases h1
    refine ⟨cur, h3, by simpa using h4, fun j hj => ?_⟩
    have e : cur.toList = (madeCells #[z] n).toList := by
      rw [← h5, List.take_of_length_le (by simp [h4])]
    rw [← Array.getElem?_toList, e, toList_madeCells_one, List.getElem?_replicate, if_pos hj]

theorem start_state {w w1 w2 : World} {n : Nat} (ls : Nat → Int) (pf : Nat → Bool) (pa : Nat → Nat)
    (hown1 : w1.ownsRow w.heap.size 26 1 (.slice (some ⟨w.heap.size + 1 + 1 + 1, 0, none⟩) n n) n (madeCells #[.int .i32 0] n).toList) (hg1 : (startW w).grownBy w1 none)
    (hown2 : w2.ownsRow w.heap.size 4 1 (.slice (some ⟨w1.heap.size, 0, none⟩) n n) n (madeCells #[.bool false] n).toList) (hg2 : w1.grownBy w2 none) :
    Rep (w2.alloc (.cells #[.slice none 0 0] 34)) w.heap.size (w.heap.size + 1 + 1) w.heap.size (w.heap.size + 1) (.slice none 0 0) (.slice none 0 0) ls (pfm pf 0) pa 0 0 ∧
      Side w (w2.alloc (.cells #[.slice none 0 0] 34)) w.heap.size (w.heap.size + 1 + 1) w.heap.size (w.heap.size + 1) (w.heap.size + 1 + 1 + 1) w1.heap.size w2.heap.size n pf pa 0 0 0 := by
  obtain ⟨cs, p1, p2, p3⟩ := row_all hown1
  obtain ⟨cs', q1, q2, q3⟩ := row_all hown2
  have s0 : (startW w).heap.size = w.heap.size + 1 + 1 + 1 := by simp
  have s1 : w.heap.size + 1 + 1 + 1 < w1.heap.size := lt_of_block p1
  have s2 : w1.heap.size < w2.heap.size := lt_of_block q1
  have k1 : ∀ b, b < w.heap.size + 1 + 1 + 1 → (w2.alloc (.cells #[.slice none 0 0] 34)).heap[b]? = (startW w).heap[b]? := fun b hb => by
    rw [Below.heap_alloc w2 _ b (by omega), hg2.block b (by omega) (by simp), hg1.block b (by omega) (by simp)]
  have k2 : ∀ b, b < w1.heap.size → (w2.alloc (.cells #[.slice none 0 0] 34)).heap[b]? = w1.heap[b]? := fun b hb => by
    rw [Below.heap_alloc w2 _ b (by omega), hg2.block b (by omega) (by simp)]
  have t0 : (startW w).heap[w.heap.size + 1 + 1]? = some (.cells (tcells w.heap.size (w.heap.size + 1) (.slice none 0 0) (.slice none 0 0) (-1) 0 0 0 (-1) (-1)) 32 (0, 0)) := by
    have := heap_alloc_new ((w.alloc (.map #[] 0)).alloc (.map #[] 0)) (.cells (tcells w.heap.size (w.heap.size + 1) (.slice none 0 0) (.slice none 0 0) (-1) 0 0 0 (-1) (-1)) 32)
    simpa using this
  have m0 : MapIs (w2.alloc (.cells #[.slice none 0 0] 34)) w.heap.size 0 (fun _ => none) 0 := by
    refine (MapIs.made w).keep ?_
    rw [k1 _ (by omega), Below.heap_alloc _ _ _ (by simp; omega), Below.heap_alloc _ _ _ (by simp)]
  have m1 : MapIs (w2.alloc (.cells #[.slice none 0 0] 34)) (w.heap.size + 1) 0 (fun _ => none) 0 := by
    have := MapIs.made (w.alloc (.map #[] 0))
    rw [show (w.alloc (.map #[] 0)).heap.size = w.heap.size + 1 by simp] at this
    refine this.keep ?_
    rw [k1 _ (by omega), Below.heap_alloc _ _ _ (by simp)]
  refine ⟨⟨?_, ⟨[], World.ownsRow_nil _ _ _ _, fun j f hj => by omega⟩, ⟨[], World.ownsRow_nil _ _ _ _, fun j f hj => by omega⟩, ⟨0, 0, Nat.le_refl _, m0.congr (fun h => ?_)⟩, ⟨0, Nat.le_refl _, m1.congr (fun key => ?_)⟩, Nat.le_refl _, by omega, by omega⟩, ?_⟩
  · exact (k1 _ (by omega)).trans t0
  · simp [hmap, lastIn]
  · unfold pmap
    rw [if_neg (by omega)]
  · refine ⟨⟨cs, (k2 _ s1).trans p1, p2, fun j hj => by omega⟩, ⟨cs', (Below.heap_alloc w2 _ _ s2).trans q1, q2, fun j hj => by rw [q3 j hj]; simp [pfm]⟩, heap_alloc_new w2 _, fun j hj => by simp [pfm] at hj, ?_, ?_, ?_⟩
    · have b1 : Below w.heap.size w w1 := ((((Below.refl w.heap.size w).alloc (Nat.le_refl _) _).alloc (by simp) _).alloc (by simp; omega) _).grown hg1 (by simp; omega) (fun k hk => by cases hk)
      exact (b1.grown hg2 (by omega) (fun k hk => by cases hk)).alloc (by omega) _
    · refine ⟨0, Nat.le_refl _, m1.congr (fun key => ?_)⟩
      unfold pmap
      rw [if_neg (by omega)]
    · simp; omega

end Go.Proofs.Ybulkczpw
