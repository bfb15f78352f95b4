import Derived.Test.YbulkczqyDoorLine
namespace Go.Proofs.YbulkczqyDoor
open Go.RowKit

theorem no_writer (a : Addr) (w : World) : (Instr.typeAssert (.iface 23 (.pointer (some a))) 46 28 true).run Ybad.prog w = .ok (.tuple #[.pointer none, .bool false]) w := by kernel_rfl

theorem made_row {w w1 : World} {base n : Nat} {xs : List Value} (h : w1.ownsRow base 5 1 (.slice (some ⟨w.heap.size, 0, none⟩) n n) n xs) : ∃ cur : Array Value, w1.heap[w.heap.size]? = some (.cells cur 5 (0, 0)) ∧ cur.size = n ∧ w.heap.size < w1.heap.size := by
  have hlt := (h.lt w.heap.size rfl).2
  obtain ⟨_, ⟨h2, _⟩ | ⟨g', cap, cur, h2, _, h3, _, _, h4, _⟩⟩ := h
  · cases h2
  · cases h2
    exact ⟨cur, h3, by simpa using h4, hlt⟩

/-- A fresh writer. -/
theorem wr0_new {w w1 : World} {bw : Nat} {xs : List Value} (hbw : w.heap[bw]? = some (.cells #[.slice none 0 0] 26 (0, 0))) (hown : w1.ownsRow w.heap.size 5 1 (.slice (some ⟨w.heap.size, 0, none⟩) 4096 4096) 4096 xs) (hg : w.grownBy w1 none) :
    Wr0 (w1.alloc (.cells (wrCells w.heap.size bw 0) 51)) bw w.heap.size w1.heap.size [] ∧ w.heap.size < w1.heap.size := by
  obtain ⟨cur, hc, hs, hlt⟩ := made_row hown
  have hb := lt_of_block hbw
  have h1 : (w1.alloc (.cells (wrCells w.heap.size bw 0) 51)).heap[bw]? = some (.cells #[.slice none 0 0] 26 (0, 0)) := by
    rw [Below.heap_alloc w1 _ bw (by omega), hg.block bw hb (by simp)]; exact hbw
  have h2 : (w1.alloc (.cells (wrCells w.heap.size bw 0) 51)).heap[w.heap.size]? = some (.cells cur 5 (0, 0)) := by
    rw [Below.heap_alloc w1 _ _ hlt]; exact hc
  have h3 : (w1.alloc (.cells (wrCells w.heap.size bw 0) 51)).heap[w1.heap.size]? = some (.cells (wrCells w.heap.size bw 0) 51 (0, 0)) := heap_alloc_new w1 _
  exact ⟨⟨h1, fun B => ⟨_, cur, h1, World.ownsRow_nil _ _ _ _, h2, hs, by simp [Lib.byteCells], by simp, h3⟩⟩, hlt⟩

set_option maxHeartbeats 400000 in
theorem newsize_any (w : World) (bw : Nat) (hbw : w.heap[bw]? = some (.cells #[.slice none 0 0] 26 (0, 0))) :
    Calls Ybad.prog 11 #[.iface 23 (.pointer (some ⟨bw, 0, none⟩)), .int .i64 4096] w fun e w' => ∃ bf bW, e = .returned (.pointer (some ⟨bW, 0, none⟩)) ∧ w.heap.size ≤ bf ∧ bf < bW ∧ bW < w'.heap.size ∧ Wr0 w' bw bf bW [] ∧ Below w.heap.size w w' := by
  obtain ⟨i0, hi, hz0, hz1, hz2⟩ := info_parts Ybad.info5
  have hnw := no_writer
  have HB : Hid (w.heap[bw]? = some (.cells #[.slice none 0 0] 26 (0, 0))) := hbw
  clear hbw
  go_enter Ybad.func11, Ybad.ntmps11
  go_wp2_with (at_make; refine wpList_make_full _ rfl (.tmp 25) (.tmp 25) 24 rfl w.heap.size 5 i0 (.int .u8 0) 1 Ybad.underlying24 hi hz0 hz1 .i64 .i64 4096 4096 4096 rfl rfl rfl rfl (by rw [hz2]; decide) (by decide) (Nat.le_refl _) ?_; intro w1 hown1 hgrow1)
  have HR : Hid _ := wr0_new HB.out hown1 hgrow1
  have HBl : Hid (Below w.heap.size w w1) := (Below.refl _ _).grown hgrow1 (Nat.le_refl _) (fun k hk => by cases hk)
  clear hown1 hgrow1
  go_ret
  exact ⟨_, _, rfl, Nat.le_refl _, HR.out.2, by simp, HR.out.1, HBl.out.alloc HBl.out.size _⟩

set_option maxHeartbeats 400000 in
theorem new_any (w : World) (bw : Nat) (hbw : w.heap[bw]? = some (.cells #[.slice none 0 0] 26 (0, 0))) :
    Calls Ybad.prog 5 #[.iface 23 (.pointer (some ⟨bw, 0, none⟩))] w fun e w' => ∃ bf bW, e = .returned (.pointer (some ⟨bW, 0, none⟩)) ∧ w.heap.size ≤ bf ∧ bf < bW ∧ bW < w'.heap.size ∧ Wr0 w' bw bf bW [] ∧ Below w.heap.size w w' := by
  have HB : Hid (w.heap[bw]? = some (.cells #[.slice none 0 0] 26 (0, 0))) := hbw
  clear hbw
  go_enter Ybad.func5, Ybad.ntmps5
  go_wp2_with (go_at_call 11; refine (newsize_any w bw HB.out).mono ?_; rintro e w1 ⟨bf, bW, rfl, h1, h2, h3, h4, h5⟩)
  go_ret
  exact ⟨bf, bW, rfl, h1, h2, h3, h4, h5⟩

set_option maxHeartbeats 400000 in
theorem law_great (comma : Bool) (depth : Int) (ind : ByteArray) (w : World) (hs : 1024 < ind.size) :
    Calls Ybad.prog 3 #[.bool comma, .int .i64 depth, .string ind] w fun e w' => e = .returned (.bool true) ∧ Below w.heap.size w w' := by
  go_enter Ybad.func3, Ybad.ntmps3
  go_wp2
  go_ret
  exact ⟨rfl, Below.refl _ _⟩

/-- What the law reads behind the flush. -/
theorem fin_of {w w1 w2 w3 : World} {B base be bw bf bW d : Nat} {ind : ByteArray} {v : Value} {fl hd txt : List UInt8} (hpl : Placed w2 B bw bf bW) (htx : fl ++ hd = txt) (henc : Enc w2 be bW ind v) (hbB : be < B) (hbe : bW < be) (hbase : bW < base)
    (hrow : w2.ownsRow base 9 1 v (d + 1) (pfx ind (d + 1))) (hrlt : ∀ k, v.ownBlock = some k → k < B) (hw3 : Wr w3 B bw bf bW (fl ++ hd) []) (hfr : Fr B bw bf bW w2 w3) (hbel : Below bw w1 w2) (h1 : Below bw w w1) :
    ∃ B' vs g cap, Hid (w3.ownsRow B' 5 1 vs txt.length (Lib.byteCells txt)) ∧ w3.cell? ⟨bw, 0, none⟩ = some vs ∧ w3.cell? ⟨be, 2, none⟩ = some (.slice (some ⟨g, 0, none⟩) (d + 1) cap) ∧
      Hid (∀ k, k ≤ d → w3.cell? ⟨g, k, none⟩ = some (str (Lib.repeatL ind.data.toList k))) ∧ bw < w3.heap.size ∧ be < w3.heap.size ∧ g < w3.heap.size ∧ Hid (Below bw w w3) := by
  obtain ⟨vs, hvs, _, hown⟩ := hw3.sink
  have he3 : Enc w3 be bW ind v := henc.keep (hfr.block be hbB (by omega) (by omega) (by omega))
  have hs3 := hfr.size
  obtain ⟨_, ⟨h2, h3⟩ | ⟨g, cap, cur, rfl, h4, h5, _⟩⟩ := id hrow
  · omega
  · have hgB := hrlt g rfl
    have hr3 : w3.ownsRow base 9 1 (.slice (some ⟨g, 0, none⟩) (d + 1) cap) (d + 1) (pfx ind (d + 1)) := by
      obtain ⟨q1, ⟨h2, h3⟩ | ⟨g', cap', cur', e, q4, q5, q6⟩⟩ := hrow
      · cases h2
      · cases e
        exact ⟨q1, .inr ⟨g, cap, cur', rfl, q4, by rw [hfr.block g hgB (by omega) (by omega) (by omega)]; exact q5, q6⟩⟩
    refine ⟨B, vs, g, cap, ?_, hvs, he3.cells.2.2.1, fun k hk => ?_, by omega, by omega, by omega, ?_⟩
    · rw [← htx]; exact hown
    · rw [hr3.cellAt k (by omega), pfx_at ind (d + 1) k (by omega)]
    · exact (h1.trans hbel).trans ⟨hfr.os, hfr.tape, hfr.output, hfr.size, fun k hk => hfr.block k (by omega) (by omega) (by omega) (by omega)⟩

theorem owns_below5 {w w' : World} {base : Nat} {v : Value} {n : Nat} {xs : List Value} (h : w.ownsRow base 5 1 v n xs) (hb : Below w.heap.size w w') : w'.ownsRow base 5 1 v n xs := owns_below h hb

theorem str_eq3 (R : List UInt8) : (44 :: 10 :: R == (({ data := #[44] } : ByteArray) ++ (({ data := #[10] } : ByteArray) ++ ({ data := R.toArray } : ByteArray))).toList) = true := by
  rw [beq_iff_eq, Lib.toList_data]; simp
theorem str_eq2 (R : List UInt8) : (10 :: R == (({ data := #[] } : ByteArray) ++ (({ data := #[10] } : ByteArray) ++ ({ data := R.toArray } : ByteArray))).toList) = true := by
  rw [beq_iff_eq, Lib.toList_data]; simp

theorem txt_le {c : Bool} {fl hd R : List UInt8} (h : fl ++ hd = (if c = true then [44] else []) ++ [10] ++ R) (hR : R.length ≤ 65536) : fl.length ≤ 1048576 := by
  have := congrArg List.length h
  cases c <;> simp at this <;> omega

theorem depth_nat (x : Int) : ∃ d : Nat, d ≤ 63 ∧ wrap64 ((IntKind.u64.wrap x).tmod 64) = (d : Int) := by
  have h0 : 0 ≤ IntKind.u64.wrap x := by simp [IntKind.wrap, IntKind.signed, IntKind.bits]; omega
  generalize IntKind.u64.wrap x = y at *
  obtain ⟨n, rfl⟩ := Int.eq_ofNat_of_zero_le h0
  have : ((n : Int).tmod 64) = ((n % 64 : Nat) : Int) := by rw [Int.tmod_eq_emod_of_nonneg (by omega)]; omega
  rw [this]
  refine ⟨n % 64, by omega, ?_⟩
  unfold wrap64; omega

set_option maxHeartbeats 1000000 in
theorem law_small (comma : Bool) (depth : Int) (ind : ByteArray) (w : World) (hs : ind.size ≤ 1024) :
    Calls Ybad.prog 3 #[.bool comma, .int .i64 depth, .string ind] w fun e w' => e = .returned (.bool true) ∧ Below w.heap.size w w' := by
  have HB : Hid ((w.alloc (.cells #[.slice none 0 0] 26)).heap[w.heap.size]? = some (.cells #[.slice none 0 0] 26 (0, 0))) := heap_alloc_new w _
  go_enter Ybad.func3, Ybad.ntmps3
  go_wp2_with (go_at_call 5; refine (new_any _ w.heap.size HB.out).mono ?_; rintro e w1 ⟨bf, bW, rfl, h1, h2, h3, h4, h5⟩)
  have hz : (w.alloc (.cells #[.slice none 0 0] 26)).heap.size = w.heap.size + 1 := by simp
  rw [hz] at h1 h5
  obtain ⟨d, hd, hde⟩ := depth_nat depth
  rw [hde]
  have HB1 : Hid (Below w.heap.size w w1) := ((Below.refl _ w).alloc (Nat.le_refl _) _).trans (h5.mono (by omega))
  have HW1 : Hid (Wr0 (w1.alloc (.cells (encCells bW ind (.slice none 0 0)) 38)) w.heap.size bf bW []) := h4.keep (Below.heap_alloc w1 _ _ (by omega)) (Below.heap_alloc w1 _ _ (by omega)) (Below.heap_alloc w1 _ _ h3)
  have HE1 : Hid (Enc (w1.alloc (.cells (encCells bW ind (.slice none 0 0)) 38)) w1.heap.size bW ind (.slice none 0 0)) := heap_alloc_new w1 _
  clear h4 h5 hz hde HB
  refine (line_any (w1.alloc (.cells (encCells bW ind (.slice none 0 0)) 38)) w1.heap.size w.heap.size bf bW d ind comma ⟨by omega, h2, h3, by simp⟩ hs hd HE1.out HW1.out).mono ?_
  rintro e w2 ⟨rfl, B, base, v, fl, hdd, hpl, hwr, htx, henc, hbB, hbase, hbB2, hrow, hrlt, hbel⟩
  obtain ⟨c0, c1, c2, c6, f2⟩ := henc.cells
  have hrl := rep_le ind d hs (by omega)
  have hfl := txt_le htx hrl
  have HF : Hid (∀ w3, Wr w3 B w.heap.size bf bW (fl ++ hdd) [] → Fr B w.heap.size bf bW w2 w3 → _) := fun w3 k1 k2 => fin_of (w := w) hpl htx henc hbB h3 hbase hrow hrlt k1 k2 hbel (HB1.out.alloc HB1.out.size _)
  have HWr : Hid (Wr w2 B w.heap.size bf bW fl hdd) := hwr
  clear hwr henc hrow hrlt hbel htx HW1 HE1
  go_wp2_with fail
  refine (flush_any w2 B w.heap.size bf bW fl hdd hpl HWr.out (by omega)).mono ?_
  rintro e w3 ⟨rfl, hw3, hfr3⟩
  obtain ⟨B', vs, g, cap, HO, q0, q2, HC, lw, le, lg, HBl⟩ := HF.out w3 hw3 hfr3
  clear hw3 hfr3 HF c0 c1 c2 c6 f2 hpl HWr hbB hbase hbB2
  cases comma with
  | true =>
    go_wp2_with fail
    refine (rep_any ind d w3 hs (by omega)).mono ?_
    rintro e w4 ⟨rfl, hb4⟩
    have q0' := cell_later hb4 q0
    have q2' := cell_later hb4 q2
    have hcv := own_convert (owns_below5 HO.out hb4)
    have hte := str_eq3 (Lib.repeatL ind.data.toList d)
    go_wp2_with fail
    go_loopw [11] (fun i wr => ∃ k : Nat, k ≤ d + 1 ∧ i = .int .i64 (k : Int) ∧ Below w3.heap.size w3 wr) (fun i _ => d + 1 - (intOf i).toNat)
    case atStart => exact ⟨0, by omega, rfl, hb4⟩
    case round =>
      obtain ⟨k, hk, rfl, hbk⟩ := hrel
      by_cases hlt : k ≤ d
      · have p2 := cell_later hbk q2
        have pk := cell_later hbk (HC.out k hlt)
        have i1 : (0 : Int) ≤ (k : Int) := by omega
        have i2 : (k : Int) < (d : Int) + 1 := by omega
        clear q0 q2 q0' q2' hcv hte
        go_wp2_with fail
        go_region_held3 (fun w' => w'.cell? ⟨w1.heap.size, 2, none⟩ = some (.slice (some ⟨g, 0, none⟩) (d + 1) cap) ∧ w'.cell? ⟨g, k, none⟩ = some (str (Lib.repeatL ind.data.toList k))) (first | exact hS2 | go_keep)
          ((first
            | (go_at_call 8; refine (rep_any ind k _ hs ?p1).mono ?p2; (case p1 => omega); rintro e w5 ⟨rfl, hb5⟩; have hS2 := (show _ ∧ _ from ⟨cell_later hb5 p2, cell_later hb5 pk⟩))))
        go_wp2
        go_roundw
        case rel => exact ⟨k + 1, by omega, by go_num, hbk.trans (((Below.refl _ wr).drew.trans hb5).mono hbk.size)⟩
        case measure => simp [intOf]; omega
      · clear q0 q2 q0' q2' hcv hte
        go_wp2
        go_ret
        exact ⟨rfl, HBl.out.trans (hbk.mono (by omega))⟩
  | false =>
    go_wp2_with fail
    refine (rep_any ind d w3 hs (by omega)).mono ?_
    rintro e w4 ⟨rfl, hb4⟩
    have q0' := cell_later hb4 q0
    have q2' := cell_later hb4 q2
    have hcv := own_convert (owns_below5 HO.out hb4)
    have hte := str_eq2 (Lib.repeatL ind.data.toList d)
    go_wp2_with fail
    go_loopw [11] (fun i wr => ∃ k : Nat, k ≤ d + 1 ∧ i = .int .i64 (k : Int) ∧ Below w3.heap.size w3 wr) (fun i _ => d + 1 - (intOf i).toNat)
    case atStart => exact ⟨0, by omega, rfl, hb4⟩
    case round =>
      obtain ⟨k, hk, rfl, hbk⟩ := hrel
      by_cases hlt : k ≤ d
      · have p2 := cell_later hbk q2
        have pk := cell_later hbk (HC.out k hlt)
        have i1 : (0 : Int) ≤ (k : Int) := by omega
        have i2 : (k : Int) < (d : Int) + 1 := by omega
        clear q0 q2 q0' q2' hcv hte
        go_wp2_with fail
        go_region_held3 (fun w' => w'.cell? ⟨w1.heap.size, 2, none⟩ = some (.slice (some ⟨g, 0, none⟩) (d + 1) cap) ∧ w'.cell? ⟨g, k, none⟩ = some (str (Lib.repeatL ind.data.toList k))) (first | exact hS2 | go_keep)
          ((first
            | (go_at_call 8; refine (rep_any ind k _ hs ?p3).mono ?p4; (case p3 => omega); rintro e w5 ⟨rfl, hb5⟩; have hS2 := (show _ ∧ _ from ⟨cell_later hb5 p2, cell_later hb5 pk⟩))))
        go_wp2
        go_roundw
        case rel => exact ⟨k + 1, by omega, by go_num, hbk.trans (((Below.refl _ wr).drew.trans hb5).mono hbk.size)⟩
        case measure => simp [intOf]; omega
      · clear q0 q2 q0' q2' hcv hte
        go_wp2
        go_ret
        exact ⟨rfl, HBl.out.trans (hbk.mono (by omega))⟩
end Go.Proofs.YbulkczqyDoor
