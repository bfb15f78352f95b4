import Derived.Test.YbulkczpwRem2
namespace Go.Proofs.Ybulkczpw
open Go.RowKit
section
variable {w : World} {B S tb mb mp ab nb lb cap nc : Nat} {ls : Nat → Int} {pf : Nat → Bool} {pa : Nat → Nat} {k m : Nat}

set_option maxRecDepth 10000 in
set_option maxHeartbeats 2000000 in
theorem remove_any (h : Rep w B tb mb mp (.slice (some ⟨ab, 0, none⟩) m cap) (.slice (some ⟨nb, 0, none⟩) (5 * m) nc) ls pf pa k m) (hk : k < m) (hn1 : 5 * m ≤ nc) (hS : Laid w S tb mb mp ab nb lb)
    (hbox : pf k = true → BoxIs w S (pa k) lb k) (hlog : LogIs w S lb (logL pf k)) :
    Calls Yba.prog 17 #[.pointer (some ⟨tb, 0, none⟩), .int .i32 (k : Int)] w fun e w' => e = .returned (.tuple #[]) ∧
      Rep w' B tb mb mp (.slice (some ⟨ab, 0, none⟩) m cap) (.slice (some ⟨nb, 0, none⟩) (5 * m) nc) ls pf pa (k + 1) m ∧ LogIs w' S lb (logL pf (k + 1)) ∧ FrS S [tb, mb, mp, ab, lb] w w' := by
  obtain ⟨⟨c0, c1, c2, _⟩, _⟩ := h.tab.cells
  obtain ⟨l, hl, hl1, hl2, hl3⟩ : ∃ l : Nat, lastIn k m (hs k) = (l : Int) ∧ k ≤ l ∧ l < m ∧ hs l = hs k := by
    rcases lastIn_spec k (hs k) m with h1 | h1
    · have := lastIn_ge (Nat.le_refl k) rfl m hk
      omega
    · exact h1
  have hlk := fun n => (h.look k n).1
  have e1 : hmap k m (hs k) = some (.int .i32 (l : Int)) := by unfold hmap; rw [hl, if_neg (by omega)]
  rw [e1] at hlk
  simp only [Option.getD_some] at hlk
  have HR : Hid (Rep w B tb mb mp (.slice (some ⟨ab, 0, none⟩) m cap) (.slice (some ⟨nb, 0, none⟩) (5 * m) nc) ls pf pa k m) := h
  have HS : Hid (Laid w S tb mb mp ab nb lb) := hS
  have HBox : Hid (pf k = true → BoxIs w S (pa k) lb k) := hbox
  have HLog : Hid (LogIs w S lb (logL pf k)) := hlog
  have hm := h.lim
  have HD : Hid (∀ x, x < 3 → w.cell? ⟨nb, 5 * k + x, none⟩ = some (.int .u8 (nmB k x : Int))) := fun x hx => h.nam.cell hk (by omega)
  have a9 := (h.all.cell (f := 9) hk (by decide)).1
  rw [cellS_live (Nat.le_refl _)] at a9
  simp only [live, lastIn_none k (Nat.le_refl k)] at a9
  have HL : Hid (lastIn k m (hs k) = (l : Int)) := hl
  have HL3 : Hid (hs l = hs k) := hl3
  clear h e1 hl hS hbox hlog hl3
  go_enter Yba.func17, Yba.ntmps17
  go_wp2
  go_quiet ((first | (go_at_call 21; refine (id_any (p := k) (HR.out.tab.drewN _) (HR.out.all.drewN _) hk (cellS_live (Nat.le_refl _) 0) (cellS_live (Nat.le_refl _) 1) (by omega) hn1 (by omega)).mono (fun _ _ h => ⟨h.1, ?_⟩); obtain ⟨n2, h2⟩ := h.2; exact ⟨_, h2.trans (World.drewN_drewN ..)⟩) | (go_at_call 6; refine (hash_id (w.drewN _) nb (5 * k) k HD.out).mono (fun _ _ h => ⟨h.1, _, h.2.symm⟩))))
  go_upto_block 0 with fail
  go_cut [] (fun wx => Mid1 w wx B mb ab cap ls k m)
  case first =>
    by_cases hlk2 : l = k
    · obtain ⟨n, c, hn, hb⟩ := HR.out.byh
      have HB : Hid (MapIs w mb n (hmap k m) c) := hb
      have HL2 : Hid (lastIn k m (hs k) = (k : Int)) := HL.out.trans (by omega)
      have e1 : ((l : Int) == (k : Int)) = true := by simp; omega
      clear hb hlk HL
      go_wp2_with (at_delete; refine wpList_del rfl _ _ 25 26 rfl Yba.underlying25 (HB.out.drewN nq) (hs k) (hs_lt k) _ rfl rfl rfl ?_; intro w1 hM1 hT1)
      go_meet
      case rel => exact mid_del HR.out HL2.out hn hM1 hT1
    · have e1 : ((l : Int) == (k : Int)) = false := by simp; omega
      have HLn : Hid (lastIn k m (hs k) ≠ (k : Int)) := (show lastIn k m (hs k) ≠ (k : Int) by rw [HL.out]; omega)
      clear hlk HL
      go_wp2
      go_loop [7] (fun q => ∃ x : Nat, q = .int .i32 (x : Int) ∧ k < x ∧ x < m ∧ hs x = hs k) (fun q => (intOf q).toNat)
      case atStart => exact ⟨l, rfl, by omega, hl2, HL3.out⟩
      case round =>
        obtain ⟨q, rfl, hq1, hq2, hq3⟩ := hrel
        have q9 := HR.out.all.cell (f := 9) hq2 (by decide)
        rw [cellS_live (by omega)] at q9
        simp only [live] at q9
        obtain ⟨q9, q9f⟩ := q9
        obtain ⟨x, hx, hx1, hx2, hx3⟩ : ∃ x : Nat, lastIn k q (hs q) = (x : Int) ∧ k ≤ x ∧ x < q ∧ hs x = hs q := by
          rcases lastIn_spec k (hs q) q with h1 | h1
          · have := lastIn_ge (Nat.le_refl k) hq3.symm q hq1
            omega
          · exact h1
        have HX : Hid (lastIn k q (hs q) = (x : Int)) := hx
        rw [hx] at q9
        have H3 : Hid (hs x = hs k) := hx3.trans hq3
        clear hx hx3 hq3
        by_cases hxk : x = k
        · have e2 : ((x : Int) != (k : Int)) = false := by simp; omega
          have HX2 : Hid (lastIn k q (hs q) = (k : Int)) := HX.out.trans (by omega)
          clear HX
          go_wp2
          go_region
          go_wp2
          go_meet
          case rel => exact mid_chain HR.out HLn.out hq1 HX2.out
        · have e2 : ((x : Int) != (k : Int)) = true := by simp; omega
          go_wp2
          go_round
          case rel => exact ⟨x, rfl, by omega, by omega, H3.out⟩
          case measure => simp [intOf]; omega
  case rest =>
    clear hlk a9 c0 c1 c2
    obtain ⟨w1, hw1⟩ : ∃ x, x = wc := ⟨_, rfl⟩
    subst hw1
    obtain ⟨hA1, hB1, hF1⟩ := hcut
    have hT1 : TabIs w1 tb mb mp (.slice (some ⟨ab, 0, none⟩) m cap) (.slice (some ⟨nb, 0, none⟩) (5 * m) nc) ((k : Int) - 1) ((m : Int) - (k : Int)) (m : Int) (5 * (k : Int)) (if k = m then -1 else (k : Int)) (if k = m then -1 else (m : Int) - 1) := by
      obtain ⟨n0, c0, _, hb⟩ := HR.out.byh
      obtain ⟨cur, hab, _⟩ := HR.out.all.open
      refine HR.out.tab.keep (hF1.block tb (lt_of_block HR.out.tab) ?_)
      simp only [List.mem_cons, List.not_mem_nil, or_false, not_or]
      exact ⟨(ne_of_type hab HR.out.tab (by decide)).symm, ne_of_map HR.out.tab hb⟩
    obtain ⟨_, _, _, _, _, c11⟩ := hT1.cells.2
    have a5 := (hA1.cell (f := 5) hk (by decide)).1
    rw [A1_self] at a5
    simp only [live] at a5
    have HA1 : Hid (OwnsA w1 B (.slice (some ⟨ab, 0, none⟩) m cap) m (A1 ls k m)) := hA1
    have HT1 : Hid (TabIs w1 tb mb mp (.slice (some ⟨ab, 0, none⟩) m cap) (.slice (some ⟨nb, 0, none⟩) (5 * m) nc) ((k : Int) - 1) ((m : Int) - (k : Int)) (m : Int) (5 * (k : Int)) (if k = m then -1 else (k : Int)) (if k = m then -1 else (m : Int) - 1)) := hT1
    have HB1 : Hid (∃ n c, n ≤ m + k + 1 ∧ MapIs w1 mb n (hmap (k + 1) m) c) := hB1
    have HF1 : Hid (Fr [ab, mb] w w1) := hF1
    clear hA1 hT1 hB1 hF1
    go_step
    go_step
    go_cut [] (fun wx => OwnsA wx B (.slice (some ⟨ab, 0, none⟩) m cap) m (A1 ls k m) ∧ LogIs wx S lb (logL pf (k + 1)) ∧ FrS S [lb] w1 wx)
    case first =>
      obtain ⟨n', hn', hp⟩ := HR.out.psh
      obtain ⟨nB, cB, _, hbm⟩ := HR.out.byh
      obtain ⟨cur, hab, _⟩ := HR.out.all.open
      have hp1 : MapIs w1 mp n' (pmap pf pa k m) (cntP pf k m) := by
        refine hp.keep (HF1.out.block mp hp.lt ?_)
        simp only [List.mem_cons, List.not_mem_nil, or_false, not_or]
        exact ⟨(ne_of_map hab hp).symm, HR.out.ne.symm⟩
      have hll : lb ≠ ab ∧ lb ≠ mb := by
        obtain ⟨lS, hl, _⟩ := HLog.out
        exact ⟨ne_of_type hl hab (by decide), ne_of_map hl hbm⟩
      have HLg : Hid (LogIs w1 S lb (logL pf k)) := HLog.out.keep HF1.out (by
        intro b hb
        simp only [List.mem_cons, List.not_mem_nil, or_false] at hb
        rcases hb with rfl | rfl
        · exact ⟨HS.out.2.2.2.1, hll.1.symm⟩
        · exact ⟨HS.out.2.1, hll.2.symm⟩)
      have hlook := fun n => ((hp1.drewN n).look Yba.underlying27 (zero38 _) (key := k + 1) (by omega)).1
      have ek : ((k + 1 : Nat) : Int) = (k : Int) + 1 := by omega
      simp only [pmap_at hk, ek] at hlook a5
      cases hpk : pf k with
      | true =>
        rw [hpk, if_pos rfl] at hlook
        simp only [Option.getD_some] at hlook
        obtain ⟨b1, b2, hb0, hb1, hb2, hs0, hs1, hs2⟩ := HBox.out hpk
        have kp : ∀ {b : Nat} {cs : Array Value} {t : TypeId}, w.heap[b]? = some (.cells cs t (0, 0)) → t ≠ 54 → w1.heap[b]? = some (.cells cs t (0, 0)) := fun {b cs t} hb ht => by
          refine (HF1.out.block b (lt_of_block hb) ?_).trans hb
          simp only [List.mem_cons, List.not_mem_nil, or_false, not_or]
          exact ⟨ne_of_type hb hab ht, ne_of_map hb hbm⟩
        have p7 := (cell_block (kp hb0 (by decide)) 7).1
        have H1 : Hid (w1.heap[b1]? = some (.cells #[.pointer (some ⟨lb, 0, none⟩)] 41 (0, 0))) := kp hb1 (by decide)
        have H2 : Hid (w1.heap[b2]? = some (.cells #[.int .i64 (k : Int)] 3 (0, 0))) := kp hb2 (by decide)
        have hlen := logL_le pf k
        have hneq := stop_neq b1 b2
        have hSz : S ≤ w1.heap.size := Nat.le_trans HS.out.2.2.2.2.2.2 HF1.out.size
        clear hp hbm hab hp1 kp hb0 hb1 hb2
        simp only [List.getElem?_toArray, List.getElem?_cons_succ, List.getElem?_cons_zero] at p7
        go_wp2
        go_quiet (fail)
        go_wp2_with (go_at_call 16; refine (stop_any (w := w1.drewN nq) HS.out.2.2.2.2.2.1 hs1 hSz (by omega) HLg.out H1.out H2.out).mono ?_; rintro e w2 ⟨rfl, hl2, hf2⟩)
        go_meet
        case rel =>
          refine ⟨HA1.out.keep (fun g hg => ?_), by rw [logL_yes hpk]; exact hl2, ⟨hf2.os, hf2.tape, hf2.output, hf2.size, hf2.block⟩⟩
          cases hg
          exact hf2.block ab HS.out.2.2.2.1 (by simpa using hll.1.symm)
      | false =>
        rw [hpk] at hlook
        simp only [Option.getD_none, Bool.false_eq_true, if_false] at hlook
        clear hp hbm hab hp1
        go_wp2
        go_quiet (fail)
        go_wp2
        go_meet
        case rel => exact ⟨HA1.out, by rw [logL_no hpk]; exact HLg.out, (FrS.refl _ _ _).drewN _⟩
    case rest =>
      obtain ⟨w2, hw2⟩ : ∃ x, x = wc := ⟨_, rfl⟩
      subst hw2
      obtain ⟨hA2, hL2, hF2⟩ := hcut
      have HM : Hid (Mid2 w w2 B S tb mb mp ab nb lb cap nc ls pf pa k m) := mid2_of HR.out HS.out HLog.out HT1.out HB1.out HF1.out hA2 hL2 hF2
      clear hA2 hL2 hF2 HT1 HB1 HF1 HA1 HLog c11 a5
      obtain ⟨c11, a5⟩ := HM.out.reads hk
      have ek : ((k + 1 : Nat) : Int) = (k : Int) + 1 := by omega
      simp only [ek] at a5
      go_upto_region 14 with fail
      go_cut [] (fun wx => Mid3 w wx B S tb mb mp ab nb lb cap nc ls pf pa k m)
      case first =>
        obtain ⟨n', hn', hp⟩ := HM.out.psh
        have HP : Hid (MapIs w2 mp n' (pmap pf pa k m) (cntP pf k m)) := hp
        clear hp
        go_region_law ((first | (refine step_del ?_ (.tmp 114) (.tmp 118) 27 38 ?_ Yba.underlying27 (HP.out.drewN 1) (k + 1) ?_ ((k : Int) + 1) ?_ ?_ ?_ ?_
                                 · rfl
                                 · rfl
                                 · omega
                                 · omega
                                 · rfl
                                 · rfl
                                 intro w3 hM3 hT3)))
        all_goals
          go_wp2_with fail
          go_meet
          exact HM.out.next hk hn' hM3 hT3
      case rest =>
        obtain ⟨w3, hw3⟩ : ∃ x, x = wc := ⟨_, rfl⟩
        subst hw3
        have H3 : Hid (Mid3 w w3 B S tb mb mp ab nb lb cap nc ls pf pa k m) := hcut
        clear hcut HM c11 a5
        go_wp2_with fail
        refine (unlink_rem H3.out.tab H3.out.all hk).mono ?_
        rintro e w4 ⟨rfl, hT4, hA4, hF4⟩
        obtain ⟨⟨_, _, c2, c3, c4, _⟩, c6, c7, c8, _⟩ := hT4.cells
        have f3 := hT4.frozen 3
        have f4 := hT4.frozen 4
        have f8 := hT4.frozen 8
        have hne : ab ≠ tb := by
          obtain ⟨cur, hab, _⟩ := hA4.open
          exact ne_of_type hab hT4 (by decide)
        have hne' : tb ≠ ab := hne.symm
        obtain ⟨a0, g0⟩ := hA4.cell (f := 0) hk (by decide)
        obtain ⟨a1, g1⟩ := hA4.cell (f := 1) hk (by decide)
        obtain ⟨a2, g2⟩ := hA4.cell (f := 2) hk (by decide)
        obtain ⟨a3, g3⟩ := hA4.cell (f := 3) hk (by decide)
        obtain ⟨a4, g4⟩ := hA4.cell (f := 4) hk (by decide)
        obtain ⟨a5, g5⟩ := hA4.cell (f := 5) hk (by decide)
        obtain ⟨a6, g6⟩ := hA4.cell (f := 6) hk (by decide)
        obtain ⟨a7, g7⟩ := hA4.cell (f := 7) hk (by decide)
        obtain ⟨a8, g8⟩ := hA4.cell (f := 8) hk (by decide)
        obtain ⟨a9, g9⟩ := hA4.cell (f := 9) hk (by decide)
        obtain ⟨a10, g10⟩ := hA4.cell (f := 10) hk (by decide)
        obtain ⟨a11, g11⟩ := hA4.cell (f := 11) hk (by decide)
        rw [A2_self, A1_self] at a1 a2 a3
        simp only [live] at a1 a2 a3
        rw [Nat.add_zero] at a0 g0
        have HF : Hid _ := rem_final H3.out hk hm hT4 hA4 hF4
        clear hT4 hA4 hF4 H3
        have eg : decide ((65536 : Int) ≤ 5 * (k : Int) + 5) = false := by simp; omega
        go_wp2_with fail
        go_region
        go_wp2
        go_quiet (fail)
        go_wp2
        go_end0
        exact ⟨rfl, fin_drew HF.out nq⟩
end
end Go.Proofs.Ybulkczpw
