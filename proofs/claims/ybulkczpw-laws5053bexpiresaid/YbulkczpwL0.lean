import Derived.Test.YbulkczpwL3
namespace Go.Proofs.Ybulkczpw
open Go.RowKit
section
variable {w : World}

theorem law_long (la qa : Option Addr) (n lcap pn pcap : Nat) (now : Int) (hn : 1024 < n) :
    Calls Yba.prog 3 #[.slice la n lcap, .slice qa pn pcap, .int .i64 now] w fun e w' => e = .returned (.bool true) ∧ Below w.heap.size w w' := by
  have hd : (1024 : Int) < (n : Int) := by omega
  go_enter Yba.func3, Yba.ntmps3
  go_wp2_with fail
  go_ret
  exact ⟨rfl, Below.refl _ _⟩

theorem expire_zero {B tb mb mp : Nat} {aS nS : Value} {ls : Nat → Int} {pf : Nat → Bool} {pa : Nat → Nat} {now : Int} (h : Rep w B tb mb mp aS nS ls pf pa 0 0) :
    Calls Yba.prog 10 #[.pointer (some ⟨tb, 0, none⟩), .int .i64 now] w fun e w' => e = .returned (.tuple #[]) ∧ ∃ d, w.drewN d = w' := by
  obtain ⟨⟨_, _, c2, _⟩, _, _, _, c9, _⟩ := h.tab.cells
  rw [if_pos rfl] at c9
  clear h
  go_enter Yba.func10, Yba.ntmps10
  go_wp2
  refine wp_loop_rounds 1 ?_
  rw [rounds_succ]
  go_wp2
  go_quiet (fail)
  go_wp2
  go_end0
  exact ⟨rfl, _, rfl⟩

set_option maxRecDepth 10000 in
theorem check_zero {B tb mb mp pb pc : Nat} {aS nS v1 v2 : Value} {ls : Nat → Int} {pf : Nat → Bool} {pa : Nat → Nat} {B1 B2 : Nat} (h : Rep w B tb mb mp aS nS ls pf pa 0 0) (h1 : w.ownsRow B1 3 1 v1 0 []) (h2 : w.ownsRow B2 3 1 v2 0 []) :
    Calls Yba.prog 11 #[.pointer (some ⟨tb, 0, none⟩), .slice (some ⟨pb, 0, none⟩) 0 pc, .int .i64 0, v1, v2, .int .i64 0] w fun e w' => e = .returned (.bool true) ∧ ∃ d, w.drewN d = w' := by
  obtain ⟨⟨_, _, _, _, c4, _⟩, _, _, _, c9, c10, c11⟩ := h.tab.cells
  rw [if_pos rfl] at c9 c10
  have HR : Hid (Rep w B tb mb mp aS nS ls pf pa 0 0) := h
  have H1 : Hid (w.ownsRow B1 3 1 v1 0 []) := h1
  have H2 : Hid (w.ownsRow B2 3 1 v2 0 []) := h2
  simp only [Int.natCast_zero, Int.sub_self] at c4
  clear h h1 h2
  go_enter Yba.func11, Yba.ntmps11
  go_wp2
  refine wp_loop_rounds 1 ?_
  rw [rounds_succ]
  go_wp2
  refine wp_loop_rounds 1 ?_
  rw [rounds_succ]
  go_wp2_with fail
  refine (same_any (L := []) H1.out H2.out (by simp) (by simp)).mono ?_
  rintro e w2 ⟨rfl, n2, rfl⟩
  obtain ⟨n', _, hp⟩ := HR.out.psh
  have HM : Hid (MapIs (w.drewN n2) mp n' (pmap pf pa 0 0) (cntP pf 0 0)) := hp.drewN n2
  clear hp
  go_wp2_with (at_len; refine wpList_mlen rfl _ 27 38 rfl Yba.underlying27 HM.out rfl ?_)
  go_ret
  exact ⟨rfl, _, rfl⟩

set_option maxRecDepth 10000 in
set_option maxHeartbeats 2000000 in
theorem law_none (la qa : Option Addr) (lcap pn pcap : Nat) (now : Int) :
    Calls Yba.prog 3 #[.slice la 0 lcap, .slice qa pn pcap, .int .i64 now] w fun e w' => e = .returned (.bool true) ∧ Below w.heap.size w w' := by
  obtain ⟨i0, hi, hz0, hz1, hz2⟩ := info_parts Yba.info26
  obtain ⟨j0, hj, hy0, hy1, hy2⟩ := info_parts Yba.info4
  have hmm := @run_makeMap Yba.prog
  go_enter Yba.func3, Yba.ntmps3
  go_wp2_with (at_make; refine wpList_make_full _ rfl (.tmp 26) (.tmp 26) 33 rfl w.heap.size 26 i0 (.int .i32 0) 1 Yba.underlying33 hi hz0 hz1 .i64 .i64 0 0 0 rfl rfl rfl rfl ?m1 ?m2 ?m3 ?_)
  case m1 => rw [hz2]; omega
  case m2 => unfold maxLen; omega
  case m3 => simp; omega
  intro w1 hown1 hgrow1
  have hz3 : w.heap.size ≤ w1.heap.size := by have := hgrow1.size; simp at this; omega
  go_wp2_with (at_make; refine wpList_make_full _ rfl (.tmp 28) (.tmp 28) 23 rfl w.heap.size 4 j0 (.bool false) 1 Yba.underlying23 hj hy0 hy1 .i64 .i64 0 0 0 rfl rfl rfl rfl ?n1 ?n2 ?n3 ?_)
  case n1 => rw [hy2]; omega
  case n2 => unfold maxLen; omega
  case n3 => exact hz3
  intro w2 hown2 hgrow2
  have HST : Hid _ := start_state (n := 0) (fun _ => 0) (fun _ => false) (fun _ => 0) hown1 hgrow1 hown2 hgrow2
  clear hown1 hgrow1 hown2 hgrow2 hz3 hi hz0 hz1 hz2 hj hy0 hy1 hy2 hmm
  go_wp2_with fail
  refine wp_loop_rounds 1 ?_
  rw [rounds_succ]
  go_wp2_with fail
  refine wp_loop_rounds 1 ?_
  rw [rounds_succ]
  go_wp2_with fail
  refine wp_loop_rounds 1 ?_
  rw [rounds_succ]
  go_wp2_with fail
  have hst := HST.out
  have hrep := hst.1.keep ((Fr.refl [] _).alloc (.cells #[] 3))
  have hbel : Below w.heap.size w ((w2.alloc (.cells #[.slice none 0 0] 34)).alloc (.cells #[] 3)) := hst.2.bel.alloc hst.2.big.1 _
  have hlog : ((w2.alloc (.cells #[.slice none 0 0] 34)).alloc (.cells #[] 3)).heap[w2.heap.size]? = some (.cells #[.slice none 0 0] 34 (0, 0)) := (Below.heap_alloc _ _ _ (lt_of_block hst.2.log)).trans hst.2.log
  have hrow : ((w2.alloc (.cells #[.slice none 0 0] 34)).alloc (.cells #[] 3)).ownsRow (w2.heap.size + 1) 3 1 (.slice (some ⟨w2.heap.size + 1, 0, none⟩) 0 0) 0 [] := by
    have := row_made (w2.alloc (.cells #[.slice none 0 0] 34))
    rw [show (w2.alloc (.cells #[.slice none 0 0] 34)).heap.size = w2.heap.size + 1 by simp] at this
    exact this
  have HRP : Hid _ := hrep
  have HBL : Hid _ := hbel
  have HLG : Hid _ := hlog
  have HRW : Hid (((w2.alloc (.cells #[.slice none 0 0] 34)).alloc (.cells #[] 3)).ownsRow (w2.heap.size + 1) 3 1 (.slice (some ⟨w2.heap.size + 1, 0, none⟩) 0 0) 0 []) := hrow
  clear hst hrep hbel hlog hrow HST
  generalize (w2.alloc (.cells #[.slice none 0 0] 34)).alloc (.cells #[] 3) = wz at *
  refine (expire_zero HRP.out).mono ?_
  rintro e wa ⟨rfl, d1, rfl⟩
  have cl := (cell_block HLG.out 0).1
  simp only [List.getElem?_toArray, List.getElem?_cons_zero] at cl
  go_wp2_with fail
  refine (check_zero (B1 := 0) (HRP.out.drewN d1) (World.ownsRow_nil _ _ _ _) HRW.out).mono ?_
  rintro e wb ⟨rfl, d2, rfl⟩
  go_wp2_with fail
  refine (expire_zero (HRP.out.drewN (d1 + d2))).mono ?_
  rintro e wc ⟨rfl, d3, rfl⟩
  go_wp2_with fail
  refine (check_zero (B1 := 0) (HRP.out.drewN (d1 + d2 + d3)) (World.ownsRow_nil _ _ _ _) HRW.out).mono ?_
  rintro e wd ⟨rfl, d4, rfl⟩
  go_wp2_with fail
  go_ret
  exact ⟨rfl, ⟨HBL.out.os, HBL.out.tape, HBL.out.output, HBL.out.size, HBL.out.block⟩⟩
end
end Go.Proofs.Ybulkczpw
