import Derived.Test.YbulkczqyDoorEnc
namespace Go.Proofs.YbulkczqyDoor
open Go.RowKit
attribute [local go_sem ↓] Go.wp_at_zero Go.wp_at_succ

theorem Ybad.info9 : (Ybad.prog.info? 9).map (fun i => (i.zero, i.size, i.bytes)) = some (some (.string ByteArray.empty), 1, 16) := by kernel_rfl

/-- The first k prefixes. -/
def pfx (ind : ByteArray) (k : Nat) : List Value := (List.range k).map fun j => str (Lib.repeatL ind.data.toList j)
theorem pfx_length (ind : ByteArray) (k : Nat) : (pfx ind k).length = k := by simp [pfx]
theorem pfx_next (ind : ByteArray) (k : Nat) : pfx ind (k + 1) = pfx ind k ++ [str (Lib.repeatL ind.data.toList k)] := by simp [pfx, List.range_succ]
theorem pfx_at (ind : ByteArray) (k j : Nat) (h : j < k) : (pfx ind k)[j]? = some (str (Lib.repeatL ind.data.toList j)) := by simp [pfx, h]

/-- Of what was there the block 'be' alone has turned. -/
structure FrE (be : Nat) (w w' : World) : Prop where
  os : w'.os = w.os
  tape : w'.tape = w.tape
  output : w'.output = w.output
  size : w.heap.size ≤ w'.heap.size
  block : ∀ k, k < w.heap.size → k ≠ be → w'.heap[k]? = w.heap[k]?
theorem FrE.refl (be : Nat) (w : World) : FrE be w w := ⟨rfl, rfl, rfl, Nat.le_refl _, fun _ _ _ => rfl⟩
theorem FrE.trans {be : Nat} {a b c : World} (h : FrE be a b) (k : FrE be b c) : FrE be a c :=
  ⟨k.os.trans h.os, k.tape.trans h.tape, k.output.trans h.output, Nat.le_trans h.size k.size, fun i h1 h2 => (k.block i (Nat.lt_of_lt_of_le h1 h.size) h2).trans (h.block i h1 h2)⟩

/-- What the call owns it owns still behind whatever leaves old memory alone. -/
theorem owns_below {w w' : World} {base e : Nat} {v : Value} {n : Nat} {xs : List Value} (h : w.ownsRow base e 1 v n xs) (hb : Below w.heap.size w w') : w'.ownsRow base e 1 v n xs := by
  have hlt := h.lt
  obtain ⟨h1, h2 | ⟨g, cap, cur, h3, h4, h5, h6⟩⟩ := h
  · exact ⟨h1, .inl h2⟩
  · refine ⟨h1, .inr ⟨g, cap, cur, h3, h4, ?_, h6⟩⟩
    rw [hb.block g (hlt g (by rw [h3]; rfl)).2]; exact h5

/-- The encoder's cells behind strings.Repeat. -/
theorem enc_below {wr wr' w2 : World} {be bW : Nat} {ind : ByteArray} {v : Value} (h : Enc wr be bW ind v) (hh : wr'.heap = wr.heap) (hb : Below wr'.heap.size wr' w2) : Enc w2 be bW ind v ∧ be < w2.heap.size := by
  have hlt := lt_of_block h
  refine ⟨?_, ?_⟩
  · unfold Enc
    rw [hb.block be (by rw [hh]; exact hlt), hh]; exact h
  · have := hb.size
    rw [hh] at this; omega

/-- .. and behind the append. -/
theorem enc_grown {w2 w3 : World} {base be bW k : Nat} {ind : ByteArray} {v : Value} {o : Obj} (h : Enc w2 be bW ind v) (hbe : be < base) (hown : w2.ownsRow base 9 1 v k (pfx ind k)) (hg : (w2.alloc o).grownBy w3 v.ownBlock) : Enc w3 be bW ind v := by
  have hlt := lt_of_block h
  unfold Enc
  rw [hg.block be (by simp; omega) (fun e => by have := (hown.lt be e.symm).1; omega), Below.heap_alloc w2 o be hlt]
  exact h

theorem owns_set9 {w : World} {B b i : Nat} {v u : Value} {n : Nat} {xs : List Value} (h : w.ownsRow B 9 1 v n xs) (hb : b < B) : (w.setCell ⟨b, i, none⟩ u).ownsRow B 9 1 v n xs := by
  obtain ⟨h1, h2 | ⟨g, cap, cur, h3, h4, h5, h6⟩⟩ := h
  · exact ⟨h1, .inl h2⟩
  · exact ⟨h1, .inr ⟨g, cap, cur, h3, h4, by rw [set_other u (by omega)]; exact h5, h6⟩⟩

/-- One round of 'prefix': the new prefix is laid, the row grows, the field is stored. -/
theorem pre_step {w wr w2 w3 : World} {be bW k g cap : Nat} {ind : ByteArray} {v : Value} {o : Obj} (hbe : be < w.heap.size) (hfr : FrE be w wr)
    (hb2 : Below wr.heap.size wr w2) (he2 : Enc w2 be bW ind v) (hown : w2.ownsRow w.heap.size 9 1 v k (pfx ind k)) (hown3 : w3.ownsRow w.heap.size 9 1 (.slice (some ⟨g, 0, none⟩) (k + 1) cap) (k + 1) (pfx ind k ++ [str (Lib.repeatL ind.data.toList k)])) (hg : (w2.alloc o).grownBy w3 v.ownBlock) :
    Enc (w3.setCell ⟨be, 2, none⟩ (.slice (some ⟨g, 0, none⟩) (k + 1) cap)) be bW ind (.slice (some ⟨g, 0, none⟩) (k + 1) cap) ∧
    (w3.setCell ⟨be, 2, none⟩ (.slice (some ⟨g, 0, none⟩) (k + 1) cap)).ownsRow w.heap.size 9 1 (.slice (some ⟨g, 0, none⟩) (k + 1) cap) (k + 1) (pfx ind (k + 1)) ∧
    FrE be w (w3.setCell ⟨be, 2, none⟩ (.slice (some ⟨g, 0, none⟩) (k + 1) cap)) := by
  have he3 := enc_grown he2 hbe hown hg
  have hs2 : w.heap.size ≤ w2.heap.size := Nat.le_trans hfr.size hb2.size
  have hsa : (w2.alloc o).heap.size = w2.heap.size + 1 := by simp
  refine ⟨set_block he3 2 _, ?_, ?_⟩
  · rw [pfx_next]
    exact owns_set9 hown3 hbe
  · refine ⟨?_, ?_, ?_, ?_, fun i h1 h2 => ?_⟩
    · exact hg.os.trans (hb2.os.trans hfr.os)
    · exact hg.tape.trans (hb2.tape.trans hfr.tape)
    · exact hg.output.trans (hb2.output.trans hfr.output)
    · have := hg.size
      simp [World.setCell]; omega
    · rw [set_other _ h2, hg.block i (by omega) (fun e => by have := (hown.lt i e.symm).1; omega), Below.heap_alloc w2 o i (by omega), hb2.block i (Nat.lt_of_lt_of_le h1 hfr.size), hfr.block i h1 h2]

set_option maxHeartbeats 1000000 in
theorem prefix_any (w : World) (be bW d : Nat) (ind : ByteArray) (hbe : be < w.heap.size) (hs : ind.size ≤ 1024) (hd : d ≤ 63) (he : Enc w be bW ind (.slice none 0 0)) :
    Calls Ybad.prog 13 #[.pointer (some ⟨be, 0, none⟩), .int .i64 (d : Int)] w fun e w' => e = .returned (str (Lib.repeatL ind.data.toList d)) ∧ (∃ v, Enc w' be bW ind v ∧ w'.ownsRow w.heap.size 9 1 v (d + 1) (pfx ind (d + 1))) ∧ FrE be w w' := by
  obtain ⟨i0, hi, hz0, hz1, hz2⟩ := info_parts Ybad.info9
  have HE : Hid (Enc w be bW ind (.slice none 0 0)) := he
  clear he
  go_enter Ybad.func13, Ybad.ntmps13
  go_wp2
  go_loopg [] (d + 2 - 0) (fun gk wr => ∃ (k : Nat) (v : Value), k ≤ d + 1 ∧ gk = d + 2 - k ∧ Enc wr be bW ind v ∧ wr.ownsRow w.heap.size 9 1 v k (pfx ind k) ∧ FrE be w wr)
  case atStart => exact ⟨0, .slice none 0 0, by omega, rfl, HE.out, World.ownsRow_nil _ _ _ _, FrE.refl _ _⟩
  case round =>
    obtain ⟨k, v, hk, rfl, henc, hown, hfr⟩ := hrel
    obtain ⟨c0, c1, c2, c6, f2⟩ := henc.cells
    have HEn : Hid (Enc wr be bW ind v) := henc
    have HO : Hid (wr.ownsRow w.heap.size 9 1 v k (pfx ind k)) := hown
    have HFr : Hid (FrE be w wr) := hfr
    have hbe' : be < wr.heap.size := Nat.lt_of_lt_of_le hbe hfr.size
    obtain ⟨ao, cap, rfl⟩ : ∃ ao cap, v = .slice ao k cap := by
      obtain ⟨_, ⟨h1, h2⟩ | ⟨g, cap, cur, h1, _⟩⟩ := hown
      · exact ⟨none, 0, by rw [h1, h2]⟩
      · exact ⟨_, _, h1⟩
    clear henc hown hfr HE
    by_cases hlt : k ≤ d
    · go_wp2_with fail
      have hmul : ind.size * k ≤ 140737488355328 := Nat.le_trans (Nat.mul_le_mul hs (show k ≤ 64 by omega)) (by decide)
      have HM : Hid (ind.size * k ≤ 140737488355328) := hmul
      clear hmul
      go_region_law ((first
        | (refine step_append_lies _ ?_ (.tmp 16) (.tmp 27) 30 ?_ w.heap.size 9 i0 (.string ByteArray.empty) 1 16 Ybad.underlying30 hi hz0 hz1 hz2 rfl (by decide) (.slice ao k cap) k (pfx ind k) ?_ (HO2.out.alloc _) ⟨w2.heap.size, 0, none⟩ 1 1 [str (Lib.repeatL ind.data.toList k)] ?_ rfl (World.news_of_block (heap_alloc_new w2 _)) ?_ (by decide) ?_ ?_ ?_ (w2.heap.size + 1) ?_ ?_
           · rfl
           · rfl
           · rfl
           · rfl
           · intro u hu; simp at hu; subst hu; rfl
           · unfold maxLen; omega
           · omega
           · simp; omega
           · simp
           intro g cap' w3 hown3 hgrow hat hlt3
           have HE3 := enc_grown HE2.out hbe HO2.out hgrow
           have q3 := HE3.cells.2.2.1
           have qf3 := HE3.cells.2.2.2.2
           have HR : Hid _ := pre_step hbe HFr.out ((show Below wr.heap.size wr wr.drew from (Below.refl _ _).drew).trans hb2) HE2.out HO2.out hown3 hgrow
           clear hown3 hgrow hat hlt3)
        | (go_simp
           go_at_call 15
           refine (Ybad.strings_Repeat ind k _ (by omega) HM.out).mono ?_
           rintro e w2 ⟨rfl, hb2⟩
           have hE2 := enc_below (wr' := wr.drew) HEn.out rfl hb2
           have HE2 : Hid (Enc w2 be bW ind (.slice ao k cap)) := hE2.1
           have hbe2 := hE2.2
           have hsz2 : w.heap.size ≤ w2.heap.size := Nat.le_trans HFr.out.size hb2.size
           obtain ⟨d0, d1, d2, d6, g2⟩ := hE2.1.cells
           have HO2 : Hid (w2.ownsRow w.heap.size 9 1 (.slice ao k cap) k (pfx ind k)) := owns_below (w := wr.drew) HO.out hb2
           clear hE2
           go_wp2_with fail)))
      all_goals
        go_wp2
        go_roundg (d + 2 - (k + 1))
        case measure => omega
        case rel => exact ⟨k + 1, _, by omega, rfl, HR.out.1, HR.out.2.1, HR.out.2.2⟩
    · obtain rfl : k = d + 1 := by omega
      obtain ⟨g, hg, hgc⟩ : ∃ g, ao = some ⟨g, 0, none⟩ ∧ wr.cell? ⟨g, d, none⟩ = some (str (Lib.repeatL ind.data.toList d)) := by
        obtain ⟨_, ⟨h1, h2⟩ | ⟨g, cap', cur, h1, _⟩⟩ := id HO.out
        · omega
        · cases h1
          exact ⟨g, rfl, by rw [HO.out.cellAt d (by omega), pfx_at ind (d + 1) d (by omega)]⟩
      subst hg
      generalize hT : str (Lib.repeatL ind.data.toList d) = T at *
      go_wp2
      go_ret
      exact ⟨congrArg Ending.returned hT.symm, ⟨_, HEn.out, HO.out⟩, HFr.out⟩
end Go.Proofs.YbulkczqyDoor
