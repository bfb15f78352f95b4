import Derived.Test.YbulkczpwMap
import Derived.WalkSpells
import Derived.Deep.AppendLies
import Derived.Deep.MidRow
import Derived.Deep.RegionHeld3
import Derived.Deep.RegionLaw
import Derived.Deep.LoopGhost
import Derived.Deep.QuietTactic
import Derived.BigQuiet
import Derived.WalkSmall
import Derived.Lib.AppendStr
namespace Go.Proofs.Ybulkczpw
open Go.RowKit

theorem Yba.info5 : (Yba.prog.info? 5).map (fun i => (i.zero, i.size, i.bytes)) = some (some (.int .u8 0), 1, 1) := by kernel_rfl
theorem Yba.info3 : (Yba.prog.info? 3).map (fun i => (i.zero, i.size, i.bytes)) = some (some (.int .i64 0), 1, 8) := by kernel_rfl
theorem Yba.info26 : (Yba.prog.info? 26).map (fun i => (i.zero, i.size, i.bytes)) = some (some (.int .i32 0), 1, 4) := by kernel_rfl
theorem Yba.info4 : (Yba.prog.info? 4).map (fun i => (i.zero, i.size, i.bytes)) = some (some (.bool false), 1, 1) := by kernel_rfl
abbrev zeroS : Array Value := #[.int .i64 0, .int .u32 0, .int .u32 0, .int .u32 0, .int .i32 0, .int .u64 0, .int .i64 0, .int .i32 0, .int .i32 0, .int .i32 0, .bool false, .bool false]
theorem Yba.info54 : (Yba.prog.info? 54).map (fun i => (i.zero, i.size, i.bytes)) = some (some (.agg zeroS), 12, 56) := by kernel_rfl

section
variable {w w' : World} {b k i : Nat} {cs : Array Value} {t : TypeId}
theorem cell_block (h : w.heap[b]? = some (.cells cs t (0, 0))) (i : Nat) : w.cell? ⟨b, i, none⟩ = cs[i]? ∧ w.frozen? ⟨b, i, none⟩ = false := by
  constructor <;> simp [World.cell?, World.frozen?, h]
theorem set_block (h : w.heap[b]? = some (.cells cs t (0, 0))) (i : Nat) (v : Value) : (w.setCell ⟨b, i, none⟩ v).heap[b]? = some (.cells (cs.setIfInBounds i v) t (0, 0)) := by
  have hlt := lt_of_block h
  have h' : w.heap[b] = .cells cs t (0, 0) := by simpa [Array.getElem?_eq_getElem hlt] using h
  show (w.heap.modify b _)[b]? = _
  rw [Array.getElem?_eq_getElem (by simpa using hlt), Array.getElem_modify_self, h']
  rfl
theorem set_other (v : Value) (h : k ≠ b) : (w.setCell ⟨b, i, none⟩ v).heap[k]? = w.heap[k]? := Below.heap_setCell _ _ _ _ h
end

/-! ### the sessions' row -/
/-- The value v owns m sessions; field f of session j holds A j f. -/
def OwnsA (w : World) (B : Nat) (v : Value) (m : Nat) (A : Nat → Nat → Value) : Prop :=
  ∃ xs, w.ownsRow B 54 12 v m xs ∧ ∀ j f, j < m → f < 12 → xs[j * 12 + f]? = some (A j f)

def upd (A : Nat → Nat → Value) (j f : Nat) (v : Value) : Nat → Nat → Value := fun j' f' => if j' = j ∧ f' = f then v else A j' f'

section
variable {w w' : World} {B ab m cap : Nat} {A : Nat → Nat → Value}

theorem OwnsA.open (h : OwnsA w B (.slice (some ⟨ab, 0, none⟩) m cap) m A) : ∃ cur, w.heap[ab]? = some (.cells cur 54 (0, 0)) ∧ B ≤ ab ∧ m ≤ cap ∧ cap ≤ maxLen ∧ cur.size = cap * 12 ∧ ∀ j f, j < m → f < 12 → cur[j * 12 + f]? = some (A j f) := by
  obtain ⟨xs, ⟨_, ⟨h1, _⟩ | ⟨g, cap', cur, h2, h3, h4, h5, h6, h7, h8⟩⟩, hA⟩ := h
  · cases h1
  · cases h2
    refine ⟨cur, h4, h3, h5, h6, h7, fun j f hj hf => ?_⟩
    rw [← hA j f hj hf, ← h8, List.getElem?_take, if_pos (by omega), Array.getElem?_toList]

theorem OwnsA.shut {cur : Array Value} (h1 : w.heap[ab]? = some (.cells cur 54 (0, 0))) (h2 : B ≤ ab) (h3 : m ≤ cap) (h4 : cap ≤ maxLen) (h5 : cur.size = cap * 12) (h6 : ∀ j f, j < m → f < 12 → cur[j * 12 + f]? = some (A j f)) :
    OwnsA w B (.slice (some ⟨ab, 0, none⟩) m cap) m A := by
  refine ⟨cur.toList.take (m * 12), ⟨?_, .inr ⟨ab, cap, cur, rfl, h2, h1, h3, h4, h5, rfl⟩⟩, fun j f hj hf => ?_⟩
  · rw [List.length_take, Array.length_toList, h5]; omega
  · rw [List.getElem?_take, if_pos (by omega), Array.getElem?_toList]; exact h6 j f hj hf

theorem OwnsA.cell (h : OwnsA w B (.slice (some ⟨ab, 0, none⟩) m cap) m A) {j f : Nat} (hj : j < m) (hf : f < 12) : w.cell? ⟨ab, j * 12 + f, none⟩ = some (A j f) ∧ w.frozen? ⟨ab, j * 12 + f, none⟩ = false := by
  obtain ⟨cur, h1, _, _, _, _, h6⟩ := h.open
  exact ⟨(cell_block h1 _).1.trans (h6 j f hj hf), (cell_block h1 _).2⟩

theorem OwnsA.set (h : OwnsA w B (.slice (some ⟨ab, 0, none⟩) m cap) m A) {j f : Nat} (hf : f < 12) (v : Value) : OwnsA (w.setCell ⟨ab, j * 12 + f, none⟩ v) B (.slice (some ⟨ab, 0, none⟩) m cap) m (upd A j f v) := by
  obtain ⟨cur, h1, h2, h3, h4, h5, h6⟩ := h.open
  refine OwnsA.shut (set_block h1 _ v) h2 h3 h4 (by simpa using h5) fun j' f' hj' hf' => ?_
  unfold upd
  have hs : j' * 12 + f' < cur.size := by rw [h5]; omega
  rw [Array.getElem?_setIfInBounds]
  by_cases e : j' = j ∧ f' = f
  · obtain ⟨rfl, rfl⟩ := e
    simp [hs]
  · rw [if_neg (by omega), if_neg e]
    exact h6 j' f' hj' hf'

theorem OwnsA.keep {v : Value} (h : OwnsA w B v m A) (hk : ∀ g, v.ownBlock = some g → w'.heap[g]? = w.heap[g]?) : OwnsA w' B v m A := by
  obtain ⟨xs, ⟨h0, h1 | ⟨g, cap, cur, rfl, h3, h4, h5⟩⟩, hA⟩ := h
  · exact ⟨xs, ⟨h0, .inl h1⟩, hA⟩
  · exact ⟨xs, ⟨h0, .inr ⟨g, cap, cur, rfl, h3, (hk g rfl).trans h4, h5⟩⟩, hA⟩

theorem OwnsA.congr {v : Value} {A' : Nat → Nat → Value} (h : OwnsA w B v m A) (hA : ∀ j f, j < m → f < 12 → A j f = A' j f) : OwnsA w B v m A' := by
  obtain ⟨xs, h1, h2⟩ := h
  exact ⟨xs, h1, fun j f hj hf => by rw [h2 j f hj hf, hA j f hj hf]⟩

theorem OwnsA.type {v : Value} {g : Nat} (h : OwnsA w B v m A) (hg : v.ownBlock = some g) : ∃ cur, w.heap[g]? = some (.cells cur 54 (0, 0)) ∧ B ≤ g := by
  obtain ⟨xs, ⟨_, ⟨rfl, _⟩ | ⟨g', cap, cur, rfl, h3, h4, _⟩⟩, _⟩ := h
  · cases hg
  · cases hg; exact ⟨cur, h4, h3⟩
end

/-- The table's cells. -/
abbrev tcells (mb mp : Nat) (aS nS : Value) (fr ct sr un od nw : Int) : Array Value :=
  #[.func (.func 6) #[] #[], .map (some mb), aS, .int .i32 fr, .int .i64 ct, .int .i64 1048576, .int .u64 sr, nS, .int .i64 un, .int .i32 od, .int .i32 nw, .map (some mp)]

def TabIs (w : World) (tb mb mp : Nat) (aS nS : Value) (fr ct sr un od nw : Int) : Prop := w.heap[tb]? = some (.cells (tcells mb mp aS nS fr ct sr un od nw) 32 (0, 0))

section
variable {w w' : World} {tb mb mp : Nat} {aS nS : Value} {fr ct sr un od nw : Int}
theorem TabIs.cells (h : TabIs w tb mb mp aS nS fr ct sr un od nw) :
    (w.cell? ⟨tb, 0, none⟩ = some (.func (.func 6) #[] #[]) ∧ w.cell? ⟨tb, 1, none⟩ = some (.map (some mb)) ∧ w.cell? ⟨tb, 2, none⟩ = some aS ∧ w.cell? ⟨tb, 3, none⟩ = some (.int .i32 fr) ∧ w.cell? ⟨tb, 4, none⟩ = some (.int .i64 ct) ∧ w.cell? ⟨tb, 5, none⟩ = some (.int .i64 1048576)) ∧
    w.cell? ⟨tb, 6, none⟩ = some (.int .u64 sr) ∧ w.cell? ⟨tb, 7, none⟩ = some nS ∧ w.cell? ⟨tb, 8, none⟩ = some (.int .i64 un) ∧ w.cell? ⟨tb, 9, none⟩ = some (.int .i32 od) ∧ w.cell? ⟨tb, 10, none⟩ = some (.int .i32 nw) ∧ w.cell? ⟨tb, 11, none⟩ = some (.map (some mp)) := by
  have c := cell_block h
  exact ⟨⟨(c 0).1, (c 1).1, (c 2).1, (c 3).1, (c 4).1, (c 5).1⟩, (c 6).1, (c 7).1, (c 8).1, (c 9).1, (c 10).1, (c 11).1⟩
theorem TabIs.frozen (h : TabIs w tb mb mp aS nS fr ct sr un od nw) (i : Nat) : w.frozen? ⟨tb, i, none⟩ = false := (cell_block h i).2
theorem TabIs.keep (h : TabIs w tb mb mp aS nS fr ct sr un od nw) (hk : w'.heap[tb]? = w.heap[tb]?) : TabIs w' tb mb mp aS nS fr ct sr un od nw := hk.trans h
end
theorem TabIs.drewN {w : World} {tb mb mp : Nat} {aS nS : Value} {fr ct sr un od nw : Int} (h : TabIs w tb mb mp aS nS fr ct sr un od nw) (n : Nat) : TabIs (w.drewN n) tb mb mp aS nS fr ct sr un od nw := h
theorem OwnsA.drewN {w : World} {B m : Nat} {v : Value} {A : Nat → Nat → Value} (h : OwnsA w B v m A) (n : Nat) : OwnsA (w.drewN n) B v m A := h
theorem MapIs.drewN {w : World} {b n c : Nat} {f : Nat → Option Value} (h : MapIs w b n f c) (k : Nat) : MapIs (w.drewN k) b n f c := h

/-! ### frames -/
/-- Of the blocks that were, none but those of L has turned. -/
structure Fr (L : List Nat) (w w' : World) : Prop where
  os : w'.os = w.os
  tape : w'.tape = w.tape
  output : w'.output = w.output
  size : w.heap.size ≤ w'.heap.size
  block : ∀ k, k < w.heap.size → k ∉ L → w'.heap[k]? = w.heap[k]?

section
variable {L L' : List Nat} {w w1 w2 : World}
theorem Fr.refl (L : List Nat) (w : World) : Fr L w w := ⟨rfl, rfl, rfl, Nat.le_refl _, fun _ _ _ => rfl⟩
theorem Fr.trans (h : Fr L w w1) (h' : Fr L' w1 w2) (hL : ∀ k ∈ L', k < w.heap.size → k ∈ L) : Fr L w w2 :=
  ⟨h'.os.trans h.os, h'.tape.trans h.tape, h'.output.trans h.output, Nat.le_trans h.size h'.size, fun k hk hn => (h'.block k (Nat.lt_of_lt_of_le hk h.size) (fun hm => hn (hL k hm hk))).trans (h.block k hk hn)⟩
theorem Fr.mono (h : Fr L w w1) (hL : ∀ k ∈ L, k ∈ L') : Fr L' w w1 := ⟨h.os, h.tape, h.output, h.size, fun k hk hn => h.block k hk (fun hm => hn (hL k hm))⟩
theorem Fr.drewN (h : Fr L w w1) (n : Nat) : Fr L w (w1.drewN n) := ⟨h.os, h.tape, h.output, h.size, h.block⟩
theorem Fr.drew (h : Fr L w w1) : Fr L w w1.drew := ⟨h.os, h.tape, h.output, h.size, h.block⟩
theorem Fr.setCell (h : Fr L w w1) {b i : Nat} (v : Value) (hb : b < w.heap.size → b ∈ L) : Fr L w (w1.setCell ⟨b, i, none⟩ v) :=
  ⟨h.os, h.tape, h.output, by simpa [World.setCell] using h.size, fun k hk hn => (set_other v (fun e => hn (by rw [e] at hk; rw [e]; exact hb hk))).trans (h.block k hk hn)⟩
theorem Fr.alloc (h : Fr L w w1) (o : Obj) : Fr L w (w1.alloc o) :=
  ⟨h.os, h.tape, h.output, Nat.le_trans h.size (by simp), fun k hk hn => (Below.heap_alloc w1 o k (Nat.lt_of_lt_of_le hk h.size)).trans (h.block k hk hn)⟩
theorem Fr.grown {row : Option Nat} (h : Fr L w w1) (hg : w1.grownBy w2 row) (hr : ∀ k, row = some k → k < w.heap.size → k ∈ L) : Fr L w w2 :=
  ⟨hg.os.trans h.os, hg.tape.trans h.tape, hg.output.trans h.output, Nat.le_trans h.size hg.size, fun k hk hn => (hg.block k (Nat.lt_of_lt_of_le hk h.size) (fun e => hn (hr k e.symm hk))).trans (h.block k hk hn)⟩
theorem Fr.turned {b : Nat} (h : Fr L w w1) (ht : w1.mapTurned w2 b) (hb : b < w.heap.size → b ∈ L) : Fr L w w2 := h.grown ht.grown (fun k e hk => by cases e; exact hb hk)
theorem Fr.below {B : Nat} {w0 : World} (h : Fr L w w1) (hb : Below B w0 w) (hB : B ≤ w.heap.size) (hL : ∀ k ∈ L, B ≤ k) : Below B w0 w1 :=
  hb.trans ⟨h.os, h.tape, h.output, h.size, fun k hk => h.block k (by omega) (fun hm => by have := hL k hm; omega)⟩
end

theorem ne_of_type {w : World} {a b : Nat} {cs cs' : Array Value} {t t' : TypeId} {f f' : Nat × Nat} (h : w.heap[a]? = some (.cells cs t f)) (h' : w.heap[b]? = some (.cells cs' t' f')) (ht : t ≠ t') : a ≠ b := by
  rintro rfl
  rw [h] at h'
  cases h'
  exact ht rfl
theorem ne_of_map {w : World} {a b : Nat} {cs : Array Value} {t : TypeId} {f : Nat × Nat} {n c : Nat} {g : Nat → Option Value} (h : w.heap[a]? = some (.cells cs t f)) (h' : MapIs w b n g c) : a ≠ b := by
  rintro rfl
  obtain ⟨es, clock, hb⟩ := h'.block
  rw [h] at hb
  cases hb
end Go.Proofs.Ybulkczpw
