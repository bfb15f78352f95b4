import Derived.Test.YbulkczogFmtJoin
namespace Go.Proofs.YbulkczogFmt
open Go.RowKit Go.Extern.Stop Go.Stop Go.Extern

theorem getD_map_int (xs : List Int) (i : Nat) (v : Value) (h : (xs.map (Value.int .u8))[i]? = some v) : v = .int .u8 (xs.getD i 0) ∧ i < xs.length := by
  rw [List.getElem?_map] at h
  obtain ⟨z, hz, rfl⟩ := Option.map_eq_some_iff.1 h
  exact ⟨by simp [List.getD, hz], (List.getElem?_eq_some_iff.1 hz).1⟩
theorem map_int_getD (xs : List Int) (i : Nat) (h : i < xs.length) : (xs.map (Value.int .u8))[i]? = some (.int .u8 (xs.getD i 0)) := by
  simp [List.getElem?_map, List.getElem?_eq_getElem h, List.getD]

/-- A row of bytes that came in lies as it lay, behind whatever leaves old memory alone. -/
theorem bytesIn_later {w w' : World} {p : Option Addr} {n : Nat} {xs : List Int} (h : Lib.BytesIn w p n xs) (hb : Below w.heap.size w w') : Lib.BytesIn w' p n xs := fun hn => by
  obtain ⟨b, o, rfl, hc⟩ := h hn
  exact ⟨b, o, rfl, fun i hi => cell_later hb (hc i hi)⟩

/-- A cut of a row that the call itself has made. -/
theorem bytesIn_cut {w : World} {base g N cap : Nat} {xs ys zs : List Int} (h : w.ownsRow base 5 1 (.slice (some ⟨g, 0, none⟩) N cap) N ((xs ++ ys ++ zs).map (Value.int .u8))) (hN : N = xs.length + ys.length + zs.length) :
    Lib.BytesIn w (some ⟨g, xs.length, none⟩) ys.length ys := fun _ => ⟨g, xs.length, rfl, fun i hi => by
  rw [h.cellAt (xs.length + i) (by omega), map_int_getD _ _ (by simp; omega)]
  congr 2
  simp [List.getD, List.getElem?_append, hi]
  rw [if_neg (by omega)]; rfl⟩

/-- A row that lies in a block of its own. -/
theorem bytesIn_block {w : World} {g : Nat} {xs : List Int} {t : TypeId} {fr : Nat × Nat} (h : w.heap[g]? = some (.cells (xs.map (Value.int .u8)).toArray t fr)) : Lib.BytesIn w (some ⟨g, 0, none⟩) xs.length xs := fun _ => ⟨g, 0, rfl, fun i hi => by
  have := World.news_of_block h i (.int .u8 (xs.getD i 0)) (by simpa using map_int_getD xs i hi)
  rwa [Go.WideShapes.add_plain] at this⟩

/-- What 'make([]byte, n)' owns, as a block. -/
theorem block_full {w : World} {base e g n : Nat} {xs : List Value} (h : w.ownsRow base e 1 (.slice (some ⟨g, 0, none⟩) n n) n xs) : w.heap[g]? = some (.cells xs.toArray e (0, 0)) ∧ xs.length = n := by
  obtain ⟨h1, ⟨h2, _⟩ | ⟨g', cap, cur, h2, _, h3, _, _, h4, h5⟩⟩ := h
  · cases h2
  · cases h2
    refine ⟨?_, by simpa using h1⟩
    rw [h3, ← h5, List.take_of_length_le (by simp [h4])]

/-- The same, its cells under a name. -/
theorem made_block {w w1 : World} {base n : Nat} {xs : List Value} {o : Obj} (h : w1.ownsRow base 5 1 (.slice (some ⟨(w.alloc o).heap.size, 0, none⟩) n n) n xs) : ∃ L : List Value, Hid (w1.heap[w.heap.size + 1]? = some (.cells L.toArray 5 (0, 0))) ∧ Hid (L.length = n) := by
  have h2 := block_full h
  have e : (w.alloc o).heap.size = w.heap.size + 1 := by simp
  rw [e] at h2
  exact ⟨xs, h2.1, h2.2⟩

/-- 'copy(bb, b)' has the cells of b at hand. -/
theorem copy_pos {w W : World} {g n : Nat} {p : Option Addr} {xs : List Int} (hB : Lib.BytesIn w p n xs) (hx : xs.length = n) (hb : Below w.heap.size w W) :
    0 < (xs.map (Value.int .u8)).length → some (⟨g, 0, none⟩ : Addr) = some ⟨g, 0, none⟩ ∧ ∃ ad, p = some ad ∧ ∀ j v, (xs.map (Value.int .u8))[j]? = some v → W.cell? (ad.add j) = some v := fun h => by
  obtain ⟨b, o, rfl, hc⟩ := hB (by simpa [hx] using h)
  refine ⟨rfl, _, rfl, fun j v hj => ?_⟩
  obtain ⟨rfl, hj⟩ := getD_map_int xs j v hj
  rw [Go.WideShapes.add_plain]
  exact cell_later hb (hc j (by omega))

/-- The struct of forms reads as it was laid. -/
theorem forms_cells {w W : World} {kind : ByteArray} {fix fixMax c8 c16 c32 : Int} (hb : Below (w.heap.size + 1) (w.alloc (formsObj kind fix fixMax c8 c16 c32)) W) :
    W.cell? ⟨w.heap.size, 0, none⟩ = some (.string kind) ∧ W.cell? ⟨w.heap.size, 1, none⟩ = some (.int .u8 fix) ∧ W.cell? ⟨w.heap.size, 2, none⟩ = some (.int .i64 fixMax) ∧
    W.cell? ⟨w.heap.size, 3, none⟩ = some (.int .u8 c8) ∧ W.cell? ⟨w.heap.size, 4, none⟩ = some (.int .u8 c16) ∧ W.cell? ⟨w.heap.size, 5, none⟩ = some (.int .u8 c32) := by
  have h := fun o => hb.cell (p := ⟨w.heap.size, o, none⟩) (Nat.lt_succ_self _)
  refine ⟨?_, ?_, ?_, ?_, ?_, ?_⟩ <;> (rw [h]; simp)

theorem wrap64_max (x : Int) : wrap64 x ≤ 9223372036854775807 := by unfold wrap64; omega

/-- Behind the copy: the cells of the new slice. -/
theorem copied {w W : World} {n : Nat} {L : List Value} {xs : List Int} (hg : W.heap[w.heap.size + 1]? = some (.cells (splice L 0 (xs.map (Value.int .u8))).toArray 5 (0, 0))) (hL : L.length = n) (hx : xs.length = n) :
    ∀ j u, (xs.map (Value.int .u8))[j]? = some u → W.cell? ((⟨w.heap.size + 1, 0, none⟩ : Addr).add j) = some u := by
  have e : splice L 0 (xs.map (Value.int .u8)) = xs.map (Value.int .u8) := by simp [splice, hL, hx]
  rw [e] at hg
  exact World.news_of_block hg

theorem owns_cap {w : World} {base g N cap : Nat} {xs : List Value} (h : w.ownsRow base 5 1 (.slice (some ⟨g, 0, none⟩) N cap) N xs) : N ≤ cap ∧ g < w.heap.size := by
  refine ⟨?_, (h.lt g rfl).2⟩
  obtain ⟨_, ⟨h2, _⟩ | ⟨g', cap', cur, h2, _, _, h4, _⟩⟩ := h
  · cases h2
  · cases h2; exact h4

/-- bytes.Equal of two rows that hold the same bytes. -/
theorem equal_same (p1 p2 : Option Addr) (n c d : Nat) (xs : List Int) (w : World) (hx : xs.length = n) (h1 : Lib.BytesIn w p1 n xs) (h2 : Lib.BytesIn w p2 n xs) :
    Calls Ybaf.prog 11 #[.slice p1 n c, .slice p2 n d] w fun e w' => e = .returned (.bool true) ∧ w = w' := by
  refine (Ybaf.bytes_Equal_all p1 p2 n c n d xs xs w hx hx h1 h2).mono ?_
  rintro e w' ⟨rfl, rfl⟩
  exact ⟨by simp, rfl⟩

/-- The two halves of what appendHeader hands back, behind two new blocks. -/
theorem halves {w3 : World} {base g n cap : Nat} {xs h : List Int} (hx : xs.length = n) (hown : w3.ownsRow base 5 1 (.slice (some ⟨g, 0, none⟩) (n + h.length) cap) (n + h.length) (xs.map (Value.int .u8) ++ h.map (Value.int .u8))) (o1 : Obj) :
    Lib.BytesIn ((w3.alloc o1).alloc (.cells (h.map (Value.int .u8)).toArray 5)) (some ⟨g, 0, none⟩) n xs ∧ Lib.BytesIn ((w3.alloc o1).alloc (.cells (h.map (Value.int .u8)).toArray 5)) (some ⟨g, n, none⟩) h.length h ∧
    Lib.BytesIn ((w3.alloc o1).alloc (.cells (h.map (Value.int .u8)).toArray 5)) (some ⟨w3.heap.size + 1, 0, none⟩) h.length h := by
  have hb : Below w3.heap.size w3 ((w3.alloc o1).alloc (.cells (h.map (Value.int .u8)).toArray 5)) := ((Below.refl _ w3).alloc (Nat.le_refl _) _).alloc (by simp) _
  subst hx
  have e1 : xs.map (Value.int .u8) ++ h.map (Value.int .u8) = (([] : List Int) ++ xs ++ h).map (Value.int .u8) := by simp
  have e2 : xs.map (Value.int .u8) ++ h.map (Value.int .u8) = (xs ++ h ++ ([] : List Int)).map (Value.int .u8) := by simp
  refine ⟨bytesIn_later ?_ hb, bytesIn_later ?_ hb, ?_⟩
  · rw [e1] at hown
    exact bytesIn_cut hown (by simp)
  · rw [e2] at hown
    exact bytesIn_cut hown (by simp)
  · have : ((w3.alloc o1).alloc (.cells (h.map (Value.int .u8)).toArray 5)).heap[w3.heap.size + 1]? = some (.cells (h.map (Value.int .u8)).toArray 5 (0, 0)) := by
      have := heap_alloc_new (w3.alloc o1) (.cells (h.map (Value.int .u8)).toArray 5)
      rwa [World.size_alloc] at this
    exact bytesIn_block this

theorem splice_all {α : Type} (L cs : List α) (h : cs.length = L.length) : splice L 0 cs = cs := by
  simp [splice, h]

theorem u8_oneCell (xs : List Int) : ∀ v ∈ xs.map (Value.int .u8), v.oneCell' = true := fun v hv => by
  obtain ⟨z, _, rfl⟩ := List.mem_map.1 hv
  rfl
end Go.Proofs.YbulkczogFmt
