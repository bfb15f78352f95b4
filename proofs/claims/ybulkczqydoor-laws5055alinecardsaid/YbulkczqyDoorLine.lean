import Derived.Test.YbulkczqyDoorPre
namespace Go.Proofs.YbulkczqyDoor
open Go.RowKit

theorem Wr0.keep {w w' : World} {bw bf bW : Nat} {hd : List UInt8} (h : Wr0 w bw bf bW hd) (k1 : w'.heap[bw]? = w.heap[bw]?) (k2 : w'.heap[bf]? = w.heap[bf]?) (k3 : w'.heap[bW]? = w.heap[bW]?) : Wr0 w' bw bf bW hd := by
  have hb : w'.heap[bw]? = some (.cells #[.slice none 0 0] 26 (0, 0)) := k1.trans h.1
  obtain ⟨v, cur, _, _, h3, h4, h5, h6, h7⟩ := h.2 0
  exact ⟨hb, fun B => ⟨_, cur, hb, World.ownsRow_nil _ _ _ _, k2.trans h3, h4, h5, h6, k3.trans h7⟩⟩

theorem Enc.keep {w w' : World} {be bW : Nat} {ind : ByteArray} {v : Value} (h : Enc w be bW ind v) (k : w'.heap[be]? = w.heap[be]?) : Enc w' be bW ind v := k.trans h

/-- The row of prefixes stands behind the last write. -/
theorem pre_keep {w w' : World} {base B bw bf bW n : Nat} {v : Value} {xs : List Value} (h : w.ownsRow base 9 1 v n xs) (hb : bw < base ∧ bf < base ∧ bW < base) (hB : w.heap.size ≤ B) (hf : Fr B bw bf bW w w') : w'.ownsRow base 9 1 v n xs := by
  have hlt := h.lt
  obtain ⟨h1, h2 | ⟨g, cap, cur, h3, h4, h5, h6⟩⟩ := h
  · exact ⟨h1, .inl h2⟩
  · have := (hlt g (by rw [h3]; rfl)).2
    exact ⟨h1, .inr ⟨g, cap, cur, h3, h4, by rw [hf.block g (by omega) (by omega) (by omega) (by omega)]; exact h5, h6⟩⟩

/-- What the encoder and its writer look like behind 'line'. -/
def After (w w' : World) (be bw bf bW d : Nat) (ind : ByteArray) (txt : List UInt8) : Prop :=
  ∃ B base v fl hd, Placed w' B bw bf bW ∧ Wr w' B bw bf bW fl hd ∧ fl ++ hd = txt ∧ Enc w' be bW ind v ∧ be < B ∧ bW < base ∧ base ≤ B ∧ w'.ownsRow base 9 1 v (d + 1) (pfx ind (d + 1)) ∧ (∀ k, v.ownBlock = some k → k < B) ∧ Below bw w w'

/-- The last two steps of 'line', put together. -/
theorem after_of {w0 w w2 w3 : World} {be bw bf bW d : Nat} {ind : ByteArray} {hd : List UInt8} {v : Value} {fl' hd' : List UInt8} (ho : bw < bf ∧ bf < bW ∧ bW < be ∧ be < w.heap.size) (h0 : Below bw w0 w)
    (hfrE : FrE be w w2) (he : Enc w2 be bW ind v) (hrow : w2.ownsRow w.heap.size 9 1 v (d + 1) (pfx ind (d + 1))) (hw : Wr w3 w2.heap.size bw bf bW fl' hd') (heq : fl' ++ hd' = [] ++ hd ++ Lib.repeatL ind.data.toList d) (hfr : Fr w2.heap.size bw bf bW w2 w3) :
    After w0 w3 be bw bf bW d ind (hd ++ Lib.repeatL ind.data.toList d) := by
  have hs2 := hfrE.size
  have hs3 := hfr.size
  refine ⟨w2.heap.size, w.heap.size, v, fl', hd', ⟨ho.1, ho.2.1, by omega, hs3⟩, hw, by rw [heq]; simp, he.keep (hfr.block be (by omega) (by omega) (by omega) (by omega)), by omega, by omega, hs2,
    pre_keep hrow ⟨by omega, by omega, by omega⟩ (Nat.le_refl _) hfr, fun k hk => (hrow.lt k hk).2, ?_⟩
  refine h0.trans ⟨hfr.os.trans hfrE.os, hfr.tape.trans hfrE.tape, hfr.output.trans hfrE.output, Nat.le_trans hs2 hs3, fun k hk => ?_⟩
  rw [hfr.block k (by omega) (by omega) (by omega) (by omega), hfrE.block k (by omega) (by omega)]

theorem below_fr2 {bw bf bW : Nat} {w w' : World} (h : Fr2 bf bW w w') (ho : bw < bf ∧ bf < bW) : Below bw w w' :=
  ⟨h.os, h.tape, h.output, Nat.le_of_eq h.size.symm, fun k hk => h.block k (by omega) (by omega)⟩

set_option maxHeartbeats 1000000 in
theorem line_any (w : World) (be bw bf bW d : Nat) (ind : ByteArray) (comma : Bool) (ho : bw < bf ∧ bf < bW ∧ bW < be ∧ be < w.heap.size) (hs : ind.size ≤ 1024) (hd : d ≤ 63) (he : Enc w be bW ind (.slice none 0 0)) (hw : Wr0 w bw bf bW []) :
    Calls Ybad.prog 6 #[.pointer (some ⟨be, 0, none⟩), .bool comma, .int .i64 (d : Int)] w fun e w' => e = .returned (.tuple #[]) ∧ After w w' be bw bf bW d ind ((if comma then [44] else []) ++ [10] ++ Lib.repeatL ind.data.toList d) := by
  have hrl := rep_le ind d hs (by omega)
  have HEn : Hid (Enc w be bW ind (.slice none 0 0)) := he
  have HW : Hid (Wr0 w bw bf bW []) := hw
  have HO : Hid (bw < bf ∧ bf < bW ∧ bW < be ∧ be < w.heap.size) := ho
  clear he hw
  cases comma with
  | true =>
    go_enter Ybad.func6, Ybad.ntmps6
    go_wp2_with fail
    refine (put_fit ⟨#[44]⟩ w be bw bf bW ind (.slice none 0 0) [] ⟨HO.out.1, HO.out.2.1⟩ HEn.out HW.out (by decide)).mono ?_
    rintro e w1 ⟨rfl, hw1, hf1⟩
    have HE1 : Hid (Enc w1 be bW ind (.slice none 0 0)) := HEn.out.keep (hf1.block be (by omega) (by omega))
    go_wp2_with fail
    refine (put_fit ⟨#[10]⟩ w1 be bw bf bW ind (.slice none 0 0) _ ⟨HO.out.1, HO.out.2.1⟩ HE1.out hw1 (by decide)).mono ?_
    rintro e w2 ⟨rfl, hw2, hf2⟩
    have HE2 : Hid (Enc w2 be bW ind (.slice none 0 0)) := HE1.out.keep (hf2.block be (by omega) (by omega))
    have hz2 : w2.heap.size = w.heap.size := hf2.size.trans hf1.size
    have HZ : Hid (w2.heap.size = w.heap.size) := hz2
    have hbe2 : be < w2.heap.size := by omega
    clear hz2
    go_wp2_with fail
    refine (prefix_any w2 be bW d ind hbe2 hs hd HE2.out).mono ?_
    rintro e w3 ⟨rfl, ⟨v, he3, hrow3⟩, hfr3⟩
    have hw3 : Wr0 w3 bw bf bW _ := hw2.keep (hfr3.block bw (by omega) (by omega)) (hfr3.block bf (by omega) (by omega)) (hfr3.block bW (by omega) (by omega))
    have hz3 := hfr3.size
    go_wp2_with fail
    refine (put_any ⟨(Lib.repeatL ind.data.toList d).toArray⟩ w3 w3.heap.size be bw bf bW ind v [] [44, 10] ⟨HO.out.1, HO.out.2.1, by omega, Nat.le_refl _⟩ he3 (hw3.2 _) (by simp [ByteArray.size]; omega)).mono ?_
    rintro e w4 ⟨rfl, ⟨fl', hd', heq, hw4⟩, hf4⟩
    have HA : Hid _ := after_of (w0 := w) ⟨HO.out.1, HO.out.2.1, HO.out.2.2.1, hbe2⟩ ((below_fr2 hf1 ⟨HO.out.1, HO.out.2.1⟩).trans (below_fr2 hf2 ⟨HO.out.1, HO.out.2.1⟩)) hfr3 he3 hrow3 hw4 heq hf4
    go_wp2
    go_end0
    exact ⟨rfl, HA.out⟩
  | false =>
    go_enter Ybad.func6, Ybad.ntmps6
    go_wp2_with fail
    refine (put_fit ⟨#[10]⟩ w be bw bf bW ind (.slice none 0 0) [] ⟨HO.out.1, HO.out.2.1⟩ HEn.out HW.out (by decide)).mono ?_
    rintro e w2 ⟨rfl, hw2, hf2⟩
    have HE2 : Hid (Enc w2 be bW ind (.slice none 0 0)) := HEn.out.keep (hf2.block be (by omega) (by omega))
    have hz2 : w2.heap.size = w.heap.size := hf2.size
    have HZ : Hid (w2.heap.size = w.heap.size) := hz2
    have hbe2 : be < w2.heap.size := by omega
    clear hz2
    go_wp2_with fail
    refine (prefix_any w2 be bW d ind hbe2 hs hd HE2.out).mono ?_
    rintro e w3 ⟨rfl, ⟨v, he3, hrow3⟩, hfr3⟩
    have hw3 : Wr0 w3 bw bf bW _ := hw2.keep (hfr3.block bw (by omega) (by omega)) (hfr3.block bf (by omega) (by omega)) (hfr3.block bW (by omega) (by omega))
    have hz3 := hfr3.size
    go_wp2_with fail
    refine (put_any ⟨(Lib.repeatL ind.data.toList d).toArray⟩ w3 w3.heap.size be bw bf bW ind v [] [10] ⟨HO.out.1, HO.out.2.1, by omega, Nat.le_refl _⟩ he3 (hw3.2 _) (by simp [ByteArray.size]; omega)).mono ?_
    rintro e w4 ⟨rfl, ⟨fl', hd', heq, hw4⟩, hf4⟩
    have HA : Hid _ := after_of (w0 := w) ⟨HO.out.1, HO.out.2.1, HO.out.2.2.1, hbe2⟩ (below_fr2 hf2 ⟨HO.out.1, HO.out.2.1⟩) hfr3 he3 hrow3 hw4 heq hf4
    go_wp2
    go_end0
    exact ⟨rfl, HA.out⟩
end Go.Proofs.YbulkczqyDoor
