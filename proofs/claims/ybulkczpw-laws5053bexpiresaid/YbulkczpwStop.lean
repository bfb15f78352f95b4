import Derived.Test.YbulkczpwRem0
namespace Go.Proofs.Ybulkczpw
open Go.RowKit

/-! ### the log -/
def logL (pf : Nat → Bool) : Nat → List Value
  | 0 => []
  | k + 1 => logL pf k ++ (if pf k = true then [.int .i64 (k : Int)] else [])
theorem logL_le (pf : Nat → Bool) : ∀ k, (logL pf k).length ≤ k
  | 0 => Nat.le_refl _
  | k + 1 => by
    have := logL_le pf k
    unfold logL
    split <;> simp <;> omega

/-- The log lies in block lb; its row lies at S or beyond. -/
def LogIs (w : World) (S lb : Nat) (L : List Value) : Prop := ∃ lS, w.heap[lb]? = some (.cells #[lS] 34 (0, 0)) ∧ w.ownsRow S 3 1 lS L.length L

/-- A timer's stop: a function literal that has captured the log's address and j. -/
abbrev stopF (b1 b2 : Nat) : Value := .func (.func 16) #[] #[.pointer (some ⟨b1, 0, none⟩), .pointer (some ⟨b2, 0, none⟩)]

/-- Of the blocks below S none but those of L has turned. -/
structure FrS (S : Nat) (L : List Nat) (w w' : World) : Prop where
  os : w'.os = w.os
  tape : w'.tape = w.tape
  output : w'.output = w.output
  size : w.heap.size ≤ w'.heap.size
  block : ∀ k, k < S → k ∉ L → w'.heap[k]? = w.heap[k]?
section
variable {S : Nat} {L L' : List Nat} {w w1 w2 : World}
theorem FrS.refl (S : Nat) (L : List Nat) (w : World) : FrS S L w w := ⟨rfl, rfl, rfl, Nat.le_refl _, fun _ _ _ => rfl⟩
theorem FrS.trans (h : FrS S L w w1) (h' : FrS S L' w1 w2) (hL : ∀ k ∈ L', k ∈ L) : FrS S L w w2 :=
  ⟨h'.os.trans h.os, h'.tape.trans h.tape, h'.output.trans h.output, Nat.le_trans h.size h'.size, fun k hk hn => (h'.block k hk (fun hm => hn (hL k hm))).trans (h.block k hk hn)⟩
theorem Fr.toS (h : Fr L w w1) (hS : S ≤ w.heap.size) : FrS S L w w1 := ⟨h.os, h.tape, h.output, h.size, fun k hk hn => h.block k (by omega) hn⟩
theorem FrS.mono (h : FrS S L w w1) (hL : ∀ k ∈ L, k ∈ L') : FrS S L' w w1 := ⟨h.os, h.tape, h.output, h.size, fun k hk hn => h.block k hk (fun hm => hn (hL k hm))⟩
theorem FrS.drewN (h : FrS S L w w1) (n : Nat) : FrS S L w (w1.drewN n) := ⟨h.os, h.tape, h.output, h.size, h.block⟩
theorem FrS.drew (h : FrS S L w w1) : FrS S L w w1.drew := ⟨h.os, h.tape, h.output, h.size, h.block⟩
end

section
variable {w : World} {S lb b1 b2 j : Nat} {L : List Value}

theorem owns3_set {w : World} {B b i : Nat} {v u : Value} {n : Nat} {xs : List Value} (h : w.ownsRow B 3 1 v n xs) (hb : b < B) : (w.setCell ⟨b, i, none⟩ u).ownsRow B 3 1 v n xs := by
  obtain ⟨h1, h2 | ⟨g, cap, cur, h3, h4, h5, h6⟩⟩ := h
  · exact ⟨h1, .inl h2⟩
  · exact ⟨h1, .inr ⟨g, cap, cur, h3, h4, by rw [set_other u (by omega)]; exact h5, h6⟩⟩

theorem stop_post {w w1 : World} {o : Obj} {lS v' : Value} (hb : lb < S) (hS : S ≤ w.heap.size) (hl : w.heap[lb]? = some (.cells #[lS] 34 (0, 0))) (hown : w.ownsRow S 3 1 lS L.length L) (hown1 : w1.ownsRow S 3 1 v' (L.length + 1) (L ++ [.int .i64 (j : Int)])) (hg : (w.alloc o).drew.grownBy w1 lS.ownBlock) :
    LogIs (w1.setCell ⟨lb, 0, none⟩ v') S lb (L ++ [.int .i64 (j : Int)]) ∧ FrS S [lb] w (w1.setCell ⟨lb, 0, none⟩ v') ∧ w1.cell? ⟨lb, 0, none⟩ = some lS ∧ w1.frozen? ⟨lb, 0, none⟩ = false ∧ ∀ k, k < S → w1.heap[k]? = w.heap[k]? := by
  have keep : ∀ k, k < S → w1.heap[k]? = w.heap[k]? := fun k hk => by
    rw [hg.block k (by simp; omega) (fun e => by have := (hown.lt k e.symm).1; omega)]
    exact Below.heap_alloc w o k (by omega)
  refine ⟨⟨v', set_block ((keep lb hb).trans hl) 0 v', by simpa using owns3_set (i := 0) (u := v') hown1 hb⟩, ⟨hg.os, hg.tape, hg.output, ?_, fun k hk hn => ?_⟩, (cell_block ((keep lb hb).trans hl) 0).1, (cell_block ((keep lb hb).trans hl) 0).2, keep⟩
  · have := hg.size
    simp [World.setCell] at this ⊢
    omega
  · rw [set_other _ (by simpa using hn), keep k hk]

set_option maxHeartbeats 800000 in
theorem stop_any (hb : lb < S) (hb1 : b1 < S) (hS : S ≤ w.heap.size) (hL : L.length ≤ 1024) (h : LogIs w S lb L) (h1 : w.heap[b1]? = some (.cells #[.pointer (some ⟨lb, 0, none⟩)] 41 (0, 0))) (h2 : w.heap[b2]? = some (.cells #[.int .i64 (j : Int)] 3 (0, 0))) :
    Calls Yba.prog 16 #[.pointer (some ⟨b1, 0, none⟩), .pointer (some ⟨b2, 0, none⟩)] w fun e w' => e = .returned (.bool true) ∧ LogIs w' S lb (L ++ [.int .i64 (j : Int)]) ∧ FrS S [lb] w w' := by
  obtain ⟨i0, hi, hz0, hz1, hz2⟩ := info_parts Yba.info3
  obtain ⟨lS, hl, hown⟩ := h
  have c1 := (cell_block h1 0).1
  have c2 := (cell_block h2 0).1
  have cl := (cell_block hl 0).1
  have fl := (cell_block hl 0).2
  have l1 := lt_of_block h1
  have l2 := lt_of_block h2
  have l3 : lb < w.heap.size := by omega
  have HL : Hid (w.heap[lb]? = some (.cells #[lS] 34 (0, 0))) := hl
  have HO : Hid (w.ownsRow S 3 1 lS L.length L) := hown
  have HOA : Hid ((w.alloc (.cells #[.int .i64 (j : Int)] 3)).drew.ownsRow S 3 1 lS L.length L) := (show (w.alloc (.cells #[.int .i64 (j : Int)] 3)).ownsRow S 3 1 lS L.length L from hown.alloc _)
  have HNW : Hid (∀ i u, [Value.int .i64 (j : Int)][i]? = some u → (w.alloc (.cells #[.int .i64 (j : Int)] 3)).drew.cell? ((⟨w.heap.size, 0, none⟩ : Addr).add i) = some u) := World.news_of_block (w := (w.alloc (.cells #[.int .i64 (j : Int)] 3)).drew) (cs := #[.int .i64 (j : Int)]) (heap_alloc_new w _)
  simp only [List.getElem?_toArray, List.getElem?_cons_zero] at c1 c2 cl
  have H1 : Hid (w.heap[b1]? = some (.cells #[.pointer (some ⟨lb, 0, none⟩)] 41 (0, 0))) := h1
  clear hl hown h1 h2
  go_enter Yba.func16, Yba.ntmps16
  go_wp2_with fail
  go_region_law ((first
    | (refine step_append_lies _ ?_ (.tmp 6) (.tmp 8) 34 ?_ S 3 i0 (.int .i64 0) 1 8 Yba.underlying34 hi hz0 hz1 hz2 rfl (by decide) lS L.length L ?_ HOA.out ⟨w.heap.size, 0, none⟩ 1 1 [.int .i64 (j : Int)] ?_ rfl HNW.out ?_ (by decide) ?_ ?_ ?_ (w.heap.size + 1) ?_ ?_
       · rfl
       · rfl
       · rfl
       · rfl
       · intro u hu; simp at hu; subst hu; rfl
       · unfold maxLen; omega
       · omega
       · simp; omega
       · simp
       intro g cap' w3 hown3 hgrow hat hlt3
       have HR : Hid _ := stop_post hb hS HL.out HO.out hown3 hgrow
       have q1 := HR.out.2.2.1
       have q2 := HR.out.2.2.2.1
       have q3 : w3.cell? ⟨b1, 0, none⟩ = some (.pointer (some ⟨lb, 0, none⟩)) := (cell_block ((HR.out.2.2.2.2 b1 hb1).trans H1.out) 0).1
       clear hown3 hgrow hat hlt3)))
  all_goals
    go_wp2
    go_ret
    exact ⟨rfl, HR.out.1, HR.out.2.1⟩
end
end Go.Proofs.Ybulkczpw
