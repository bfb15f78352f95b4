import Derived.Test.YbulkczqyDoorRep
import Derived.Lib.BufferWrite
namespace Go.Proofs.YbulkczqyDoor
open Go.RowKit

/-- Below B nothing has turned but the three named blocks. -/
structure Fr (B bw bf bW : Nat) (w w' : World) : Prop where
  os : w'.os = w.os
  tape : w'.tape = w.tape
  output : w'.output = w.output
  size : w.heap.size ≤ w'.heap.size
  block : ∀ k, k < B → k ≠ bw → k ≠ bf → k ≠ bW → w'.heap[k]? = w.heap[k]?

theorem Fr.refl (B bw bf bW : Nat) (w : World) : Fr B bw bf bW w w := ⟨rfl, rfl, rfl, Nat.le_refl _, fun _ _ _ _ _ => rfl⟩
theorem Fr.trans {B bw bf bW : Nat} {a b c : World} (h : Fr B bw bf bW a b) (k : Fr B bw bf bW b c) : Fr B bw bf bW a c :=
  ⟨k.os.trans h.os, k.tape.trans h.tape, k.output.trans h.output, Nat.le_trans h.size k.size, fun i h1 h2 h3 h4 => (k.block i h1 h2 h3 h4).trans (h.block i h1 h2 h3 h4)⟩
theorem Fr.drewN {B bw bf bW : Nat} {a w : World} (h : Fr B bw bf bW a w) (n : Nat) : Fr B bw bf bW a (w.drewN n) := h.trans ⟨rfl, rfl, rfl, Nat.le_refl _, fun _ _ _ _ _ => rfl⟩
theorem Fr.drew {B bw bf bW : Nat} {a w : World} (h : Fr B bw bf bW a w) : Fr B bw bf bW a w.drew := h.trans ⟨rfl, rfl, rfl, Nat.le_refl _, fun _ _ _ _ _ => rfl⟩
theorem Fr.setCell {B bw bf bW : Nat} {a w : World} (h : Fr B bw bf bW a w) {p : Addr} (hp : p.block = bw ∨ p.block = bf ∨ p.block = bW) (u : Value) : Fr B bw bf bW a (w.setCell p u) :=
  h.trans ⟨rfl, rfl, rfl, by simp [World.setCell], fun k _ h1 h2 h3 => Below.heap_setCell _ _ _ _ (by rcases hp with e | e | e <;> rw [e] <;> assumption)⟩
theorem Fr.setRow {B bw bf bW : Nat} {a w : World} (h : Fr B bw bf bW a w) (cs : Array Value) : Fr B bw bf bW a (w.setRow bf cs) :=
  h.trans ⟨rfl, rfl, rfl, by simp [World.setRow], fun k _ _ h2 _ => setRow_other w bf k cs h2⟩
theorem Fr.grown {B bw bf bW : Nat} {a w w' : World} {row : Option Nat} (h : Fr B bw bf bW a w) (hg : w.grownBy w' row) (hB : B ≤ w.heap.size) (hr : ∀ k, row = some k → B ≤ k) : Fr B bw bf bW a w' :=
  h.trans ⟨hg.os, hg.tape, hg.output, hg.size, fun k hk _ _ _ => hg.block k (by omega) (fun e => by have := hr k e.symm; omega)⟩

/-- A block of four cells, and what a store into it leaves. -/
theorem cell_block {w : World} {b : Nat} {cs : Array Value} {t : TypeId} (h : w.heap[b]? = some (.cells cs t (0, 0))) (i : Nat) : w.cell? ⟨b, i, none⟩ = cs[i]? ∧ w.frozen? ⟨b, i, none⟩ = false := by
  constructor <;> simp [World.cell?, World.frozen?, h]
theorem set_block {w : World} {b : Nat} {cs : Array Value} {t : TypeId} (h : w.heap[b]? = some (.cells cs t (0, 0))) (i : Nat) (v : Value) : (w.setCell ⟨b, i, none⟩ v).heap[b]? = some (.cells (cs.setIfInBounds i v) t (0, 0)) := by
  have hlt := lt_of_block h
  have h' : w.heap[b] = .cells cs t (0, 0) := by simpa [Array.getElem?_eq_getElem hlt] using h
  show (w.heap.modify b _)[b]? = _
  rw [Array.getElem?_eq_getElem (by simpa using hlt), Array.getElem_modify_self, h']
  rfl
theorem set_other {w : World} {b k i : Nat} (v : Value) (h : k ≠ b) : (w.setCell ⟨b, i, none⟩ v).heap[k]? = w.heap[k]? := Below.heap_setCell _ _ _ _ h

/-- A row that the call owns stands behind a store into a block below it. -/
theorem owns_set {w : World} {B b i : Nat} {v u : Value} {n : Nat} {xs : List Value} (h : w.ownsRow B 5 1 v n xs) (hb : b < B) : (w.setCell ⟨b, i, none⟩ u).ownsRow B 5 1 v n xs := by
  obtain ⟨h1, h2 | ⟨g, cap, cur, h3, h4, h5, h6⟩⟩ := h
  · exact ⟨h1, .inl h2⟩
  · exact ⟨h1, .inr ⟨g, cap, cur, h3, h4, by rw [set_other u (by omega)]; exact h5, h6⟩⟩
theorem owns_setRow {w : World} {B b : Nat} {v : Value} {n : Nat} {xs : List Value} {cs : Array Value} (h : w.ownsRow B 5 1 v n xs) (hb : b < B) : (w.setRow b cs).ownsRow B 5 1 v n xs := by
  obtain ⟨h1, h2 | ⟨g, cap, cur, h3, h4, h5, h6⟩⟩ := h
  · exact ⟨h1, .inl h2⟩
  · exact ⟨h1, .inr ⟨g, cap, cur, h3, h4, by rw [setRow_other w b g cs (by omega)]; exact h5, h6⟩⟩

abbrev wrCells (bf bw : Nat) (n : Int) : Array Value := #[.nilIface, .slice (some ⟨bf, 0, none⟩) 4096 4096, .int .i64 n, .iface 23 (.pointer (some ⟨bw, 0, none⟩))]

/-- THE WRITER: what has gone on to the sink ('fl'), what the buffer holds ('hd'). -/
def Wr (w : World) (B bw bf bW : Nat) (fl hd : List UInt8) : Prop :=
  ∃ v cur, w.heap[bw]? = some (.cells #[v] 26 (0, 0)) ∧ w.ownsRow B 5 1 v fl.length (Lib.byteCells fl) ∧ w.heap[bf]? = some (.cells cur 5 (0, 0)) ∧ cur.size = 4096 ∧
    cur.toList.take hd.length = Lib.byteCells hd ∧ hd.length ≤ 4096 ∧ w.heap[bW]? = some (.cells (wrCells bf bw hd.length) 51 (0, 0))

/-- 'copy(dst, s)' from a string into a row that is known whole: as many bytes as fit go over. -/
theorem run_copy_str {P : Program} (w : World) (dT sT ty elem : TypeId) (g o dLen dCap : Nat) (dp : Option Addr) (s : ByteArray) (cur : Array Value) (t : TypeId)
    (hu : P.underlying dT = some (.slice elem)) (hs : (P.info? elem).map (·.size) = some 1) (hg : w.heap[g]? = some (.cells cur t (0, 0))) (hpos : 0 < Nat.min s.size dLen → dp = some ⟨g, o, none⟩) (hfit : o + Nat.min s.size dLen ≤ cur.size) :
    (Builtin.copy_ #[dT, sT] ty #[.slice dp dLen dCap, .string s]).run P w =
      .ok (goInt (Nat.min s.size dLen)) (w.setRow g (cur.toList.take o ++ Lib.byteCells (s.data.toList.take (Nat.min s.size dLen)) ++ cur.toList.drop (o + Nat.min s.size dLen)).toArray) := by
  have hsl : s.data.toList.length = s.size := Array.length_toList
  generalize hn : Nat.min s.size dLen = n at *
  have hns : n ≤ s.size := by rw [← hn]; exact Nat.min_le_left _ _
  have hlen : (Lib.byteCells (s.data.toList.take n)).length = n := by rw [Lib.byteCells_length, List.length_take, hsl]; omega
  have htk : List.take n (List.map (fun b : UInt8 => Value.int IntKind.u8 (b.toNat : Int)) s.data.toList) = Lib.byteCells (s.data.toList.take n) := by
    simp [Lib.byteCells, List.map_take]
  cases hq : P.info? elem with
  | none => simp [hq] at hs
  | some i =>
    by_cases h0 : 0 < n
    · obtain rfl := hpos h0
      have hst := run_storeCells_at P g o t (Lib.byteCells (s.data.toList.take n)) 0 cur w hg (by rw [hlen]; simpa using hfit) (Lib.byteCells_one _)
      rw [hlen] at hst
      simp only [Nat.add_zero] at hst
      simp [Builtin.copy_, run_underlying hu, Builtin.lenOf, Builtin.firstCells, sizeOf, typeInfo, hq, hn]
      rw [htk, hst]
      simp [Result.andThen]
    · obtain rfl : n = 0 := by omega
      have e : (cur.toList.take o ++ Lib.byteCells (s.data.toList.take 0) ++ cur.toList.drop (o + 0)).toArray = cur := by simp [Lib.byteCells]
      rw [e, setRow_self w g cur t (0, 0) hg]
      cases dp <;> simp [Builtin.copy_, run_underlying hu, Builtin.lenOf, Builtin.firstCells, sizeOf, typeInfo, hq, hn, storeCells]
end Go.Proofs.YbulkczqyDoor
