import Derived.Test.YbulkczpwR17
namespace Go.Proofs.Ybulkczpw
open Go.RowKit
section
variable {w : World} {n : Nat} {pf : Nat → Bool} {ls : Nat → Int}

set_option maxRecDepth 10000 in
set_option maxHeartbeats 2000000 in
theorem law_some (lb0 lo : Nat) (la : Option Addr) (lcap : Nat) (qa : Option Addr) (pn pcap : Nat) (ps : Nat → Bool) (now : Int) (hn0 : 0 < n) (hn : n ≤ 1024) (hla : la = some ⟨lb0, lo, none⟩) (hl0 : lb0 < w.heap.size) (hls : ∀ j, j < n → w.cell? ⟨lb0, lo + j, none⟩ = some (.int .i64 (ls j)))
    (hpn : pn ≤ maxLen) (hq : pn = 0 ∨ ∃ q0 qo, qa = some ⟨q0, qo, none⟩ ∧ q0 < w.heap.size ∧ ∀ j, j < pn → w.cell? ⟨q0, qo + j, none⟩ = some (.bool (ps j))) (hpf : ∀ j, pf j = if pn = 0 then false else ps (j % pn)) :
    Calls Yba.prog 3 #[.slice la n lcap, .slice qa pn pcap, .int .i64 now] w fun e w' => e = .returned (.bool true) ∧ Below w.heap.size w w' := by
  subst hla
  have HL : Hid (∀ j, j < n → w.cell? ⟨lb0, lo + j, none⟩ = some (.int .i64 (ls j))) := hls
  obtain ⟨i0, hi, hz0, hz1, hz2⟩ := info_parts Yba.info26
  obtain ⟨j0, hj, hy0, hy1, hy2⟩ := info_parts Yba.info4
  have hmm := @run_makeMap Yba.prog
  have HPF : Hid (∀ j, pf j = if pn = 0 then false else ps (j % pn)) := hpf
  have HQ : Hid (pn = 0 ∨ ∃ q0 qo, qa = some ⟨q0, qo, none⟩ ∧ q0 < w.heap.size ∧ ∀ j, j < pn → w.cell? ⟨q0, qo + j, none⟩ = some (.bool (ps j))) := hq
  clear hls hpf hq
  go_enter Yba.func3, Yba.ntmps3
  go_wp2_with (at_make; refine wpList_make_full _ rfl (.tmp 26) (.tmp 26) 33 rfl w.heap.size 26 i0 (.int .i32 0) 1 Yba.underlying33 hi hz0 hz1 .i64 .i64 n n n rfl rfl rfl rfl ?m1 ?m2 ?m3 ?_)
  case m1 => rw [hz2]; omega
  case m2 => unfold maxLen; omega
  case m3 => simp; omega
  intro w1 hown1 hgrow1
  have hz3 : w.heap.size ≤ w1.heap.size := by have := hgrow1.size; simp at this; omega
  go_wp2_with (at_make; refine wpList_make_full _ rfl (.tmp 28) (.tmp 28) 23 rfl w.heap.size 4 j0 (.bool false) 1 Yba.underlying23 hj hy0 hy1 .i64 .i64 n n n rfl rfl rfl rfl ?n1 ?n2 ?n3 ?_)
  case n1 => rw [hy2]; omega
  case n2 => unfold maxLen; omega
  case n3 => exact hz3
  intro w2 hown2 hgrow2
  have HST : Hid _ := start_state ls pf (fun _ => 0) hown1 hgrow1 hown2 hgrow2
  clear hown1 hgrow1 hown2 hgrow2 hz3 hi hz0 hz1 hz2 hj hy0 hy1 hy2 hmm
  go_wp2_with fail
  go_loopg [12] n (fun gk s12 wr => ∃ (i : Nat) (pa : Nat → Nat) (aS nS : Value), i ≤ n ∧ gk = n - i ∧ s12 = .int .i64 (i : Int) ∧
    Rep wr w.heap.size (w.heap.size + 1 + 1) w.heap.size (w.heap.size + 1) aS nS ls (pfm pf i) pa 0 i ∧ Side w wr w.heap.size (w.heap.size + 1 + 1) w.heap.size (w.heap.size + 1) (w.heap.size + 1 + 1 + 1) w1.heap.size w2.heap.size n pf pa i i i)
  case atStart => exact ⟨0, _, _, _, Nat.zero_le _, rfl, rfl, HST.out.1, HST.out.2⟩
  case round =>
    obtain ⟨i, pa, aS, nS, hin, rfl, rfl, hrep, hside⟩ := hrel
    have HRp : Hid (Rep wr w.heap.size (w.heap.size + 1 + 1) w.heap.size (w.heap.size + 1) aS nS ls (pfm pf i) pa 0 i) := hrep
    have HSd : Hid (Side w wr w.heap.size (w.heap.size + 1 + 1) w.heap.size (w.heap.size + 1) (w.heap.size + 1 + 1 + 1) w1.heap.size w2.heap.size n pf pa i i i) := hside
    by_cases hlt : i < n
    · have ci : wr.cell? ⟨lb0, lo + i, none⟩ = some (.int .i64 (ls i)) := by
        rw [hside.bel.cell (show (⟨lb0, lo + i, none⟩ : Addr).block < w.heap.size from hl0)]; exact HL.out i hlt
      have lz : lb0 < wr.heap.size := Nat.lt_of_lt_of_le hl0 hside.big.1
      have lz1 : lb0 < wr.heap.size + 1 := by omega
      have lz2 : lb0 < wr.heap.size + 1 + 1 := by omega
      have lz3 : lb0 < wr.heap.size + 1 + 1 + 1 := by omega
      clear hrep hside
      go_upto_region 11 with fail
      go_cut [13] (fun s wx => s = .int .i32 (i : Int) ∧ ∃ aS' nS', Rep wx w.heap.size (w.heap.size + 1 + 1) w.heap.size (w.heap.size + 1) aS' nS' ls (pfm pf i) pa 0 (i + 1) ∧ Side w wx w.heap.size (w.heap.size + 1 + 1) w.heap.size (w.heap.size + 1) (w.heap.size + 1 + 1 + 1) w1.heap.size w2.heap.size n pf pa i i i)
      case first =>
        refine region11 (lb0 := lb0) (lo := lo) (n := n) (lcap := lcap) (i := i) (lsi := ls i) (p8 := .pointer (some ⟨w.heap.size + 1 + 1, 0, none⟩)) (R := fun wx => ∃ aS' nS', Rep wx w.heap.size (w.heap.size + 1 + 1) w.heap.size (w.heap.size + 1) aS' nS' ls (pfm pf i) pa 0 (i + 1) ∧ Side w wx w.heap.size (w.heap.size + 1 + 1) w.heap.size (w.heap.size + 1) (w.heap.size + 1 + 1 + 1) w1.heap.size w2.heap.size n pf pa i i i)
          rfl (by simp) (by omega) hlt rfl rfl rfl ?_ ?_ ?_
        · intro wx hF
          rw [(HSd.out.keep hF (by simp) (by simp)).bel.cell (show (⟨lb0, lo + i, none⟩ : Addr).block < w.heap.size from hl0)]
          exact HL.out i hlt
        · intro wx ib hb rb hF b1 b2 b3 l1 l2 l3
          exact add_round HRp.out HSd.out (by omega) hF b1 b2 b3 l1 l2 l3
        · intro a' w' hoff h13 hR
          obtain ⟨f, hf, hf13⟩ : ∃ f : Nat → Value, a' = putAll f L11 _ ∧ f 13 = .int .i32 (i : Int) := ⟨_, hoff.eq, h13⟩
          subst hf
          clear hoff h13
          obtain ⟨aS', nS', h9, h10⟩ := hR
          simp only [putAll, List.foldl, Act.put, List.setIfInBounds_toArray, List.set_cons_zero, List.set_cons_succ]
          go_wp2_with fail
          go_meet
          exact ⟨hf13, _, _, h9, h10⟩
      case rest =>
        obtain ⟨rfl, aS', nS', hr1, hs1⟩ := hcut
        obtain ⟨⟨v0, g1⟩, g2, hr2, hs2⟩ := store_place hr1 hs1 hlt
        have hi1 : ((i : Int) == -1) = false := by simp
        have zi : (i : Int) < (n : Int) := by omega
        have HR2 : Hid _ := hr2
        have HS2 : Hid _ := hs2
        clear hr1 hs1 hr2 hs2 ci
        by_cases hpi : pf i = true
        · have HPI : Hid (pf i = true) := hpi
          have hp0 : pn ≠ 0 := fun e => by rw [HPF.out i, if_pos e] at hpi; cases hpi
          obtain ⟨q0, qo, rfl, hq0, hqc⟩ : ∃ q0 qo, qa = some ⟨q0, qo, none⟩ ∧ q0 < w.heap.size ∧ ∀ j, j < pn → w.cell? ⟨q0, qo + j, none⟩ = some (.bool (ps j)) := by
            rcases HQ.out with h | h
            · exact absurd h hp0
            · exact h
          have hpp : 0 < pn := by omega
          have cq : (wc.setCell ⟨w.heap.size + 1 + 1 + 1, i, none⟩ (.int .i32 (i : Int))).cell? ⟨q0, qo + i % pn, none⟩ = some (.bool true) := by
            rw [HS2.out.bel.cell (show (⟨q0, qo + i % pn, none⟩ : Addr).block < w.heap.size from hq0), hqc _ (Nat.mod_lt _ hpp)]
            have := HPI.out
            rw [HPF.out i, if_neg hp0] at this
            rw [this]
          have hmod : ((i : Int).tmod (pn : Int)) = ((i % pn : Nat) : Int) := by rfl
          have hmlt : i % pn < pn := Nat.mod_lt _ hpp
          obtain ⟨⟨v1, g3⟩, g4, hr3, hs3⟩ := store_pushed HPI.out HR2.out HS2.out hlt
          have HR3 : Hid _ := hr3
          have HS3 : Hid _ := hs3
          clear hqc hpi hr3 hs3
          go_upto_region 17 with fail
          obtain ⟨wq, hwq⟩ : ∃ x, x = (wc.setCell ⟨w.heap.size + 1 + 1 + 1, i, none⟩ (.int .i32 (i : Int))).setCell ⟨w1.heap.size, i, none⟩ (.bool true) := ⟨_, rfl⟩
          rw [← hwq]
          rw [← hwq] at HR3 HS3
          obtain ⟨ab, cap, hab⟩ := HR3.out.all.form (by omega)
          subst hab
          have hQ3 := fun wx hF => push_cells (wr := wx) HR3.out hF
          have hP3 := fun wx c0 hF hb => push_put (wr := wx) (c0 := c0) HPI.out (by omega) HR3.out HS3.out hF hb
          have HQ3 : Hid _ := hQ3
          have HP3 : Hid _ := hP3
          clear hQ3 hP3 hwq g1 g2 g3 g4 cq
          refine region17 (tb := w.heap.size + 1 + 1) (lb := w2.heap.size) (i := i) (ab := ab) (cap := cap) (mp := w.heap.size + 1) rfl (by simp) (by omega) rfl rfl rfl rfl HQ3.out HP3.out ?_
          intro a' w7 hoff hR7
          obtain ⟨f, hf⟩ : ∃ f : Nat → Value, a' = putAll f L17 _ := ⟨_, hoff.eq⟩
          subst hf
          clear hoff
          obtain ⟨pa', hr7, hs7⟩ := hR7
          have HR7 : Hid _ := hr7
          have HS7 : Hid _ := hs7
          clear hr7 hs7
          simp only [putAll, List.foldl, Act.put, List.setIfInBounds_toArray, List.set_cons_zero, List.set_cons_succ]
          go_wp2_with fail
          go_roundg (n - (i + 1))
          case measure => omega
          case rel => exact ⟨i + 1, _, _, _, by omega, rfl, by go_num, HR7.out, HS7.out⟩
        · have hpi' : pf i = false := by simpa using hpi
          have HPI : Hid (pf i = false) := hpi'
          have HN : Hid _ := no_push hpi' HR2.out HS2.out
          clear hpi hpi'
          by_cases hp0 : pn = 0
          · subst hp0
            go_wp2_with fail
            go_roundg (n - (i + 1))
            case measure => omega
            case rel => exact ⟨i + 1, _, _, _, by omega, rfl, by go_num, HN.out.1, HN.out.2⟩
          · obtain ⟨q0, qo, rfl, hq0, hqc⟩ : ∃ q0 qo, qa = some ⟨q0, qo, none⟩ ∧ q0 < w.heap.size ∧ ∀ j, j < pn → w.cell? ⟨q0, qo + j, none⟩ = some (.bool (ps j)) := by
              rcases HQ.out with h | h
              · exact absurd h hp0
              · exact h
            have hpp : 0 < pn := by omega
            have cq : (wc.setCell ⟨w.heap.size + 1 + 1 + 1, i, none⟩ (.int .i32 (i : Int))).cell? ⟨q0, qo + i % pn, none⟩ = some (.bool false) := by
              rw [HS2.out.bel.cell (show (⟨q0, qo + i % pn, none⟩ : Addr).block < w.heap.size from hq0), hqc _ (Nat.mod_lt _ hpp)]
              have := HPI.out
              rw [HPF.out i, if_neg hp0] at this
              rw [this]
            have hmod : ((i : Int).tmod (pn : Int)) = ((i % pn : Nat) : Int) := by rfl
            have hmlt : i % pn < pn := Nat.mod_lt _ hpp
            clear hqc
            go_wp2_with fail
            go_roundg (n - (i + 1))
            case measure => omega
            case rel => exact ⟨i + 1, _, _, _, by omega, rfl, by go_num, HN.out.1, HN.out.2⟩
    · have e : n = i := by omega
      subst e
      have HKC : Hid (∀ k, k < n → wr.cell? ⟨lb0, lo + k, none⟩ = some (.int .i64 (ls k))) := fun k hk => by
        rw [hside.bel.cell (show (⟨lb0, lo + k, none⟩ : Addr).block < w.heap.size from hl0)]; exact HL.out k hk
      clear hrep hside HST
      go_upto_block 2 with fail
      go_cut [14] (fun s wx => ∃ K : Nat, s = .int .i64 (K : Int) ∧ stopsAt ls now 0 n K ∧ wx = wr)
      case first =>
        go_wp2_with fail
        go_loopg [14] n (fun gk s14 wk => ∃ k : Nat, k ≤ n ∧ gk = n - k ∧ s14 = .int .i64 (k : Int) ∧ (∀ j, j < k → ls j ≤ now) ∧ wk = wr)
        case atStart => exact ⟨0, Nat.zero_le _, rfl, rfl, fun j hj => by omega, rfl⟩
        case round =>
          obtain ⟨k, hkn, rfl, rfl, hle, rfl⟩ := hrel
          have HLE : Hid (∀ j, j < k → ls j ≤ now) := hle
          clear hle
          by_cases hk : k < n
          · have ck := HKC.out k hk
            have zk : (k : Int) < (n : Int) := by omega
            by_cases hl : ls k ≤ now
            · go_wp2_with fail
              go_roundg (n - (k + 1))
              case measure => omega
              case rel => exact ⟨k + 1, by omega, rfl, by go_num, fun j hj => by
                rcases Nat.lt_or_ge j k with h1 | h1
                · exact HLE.out j h1
                · obtain rfl : j = k := by omega
                  exact hl, rfl⟩
            · have hd : decide (ls k ≤ now) = false := by simpa using hl
              have HNL : Hid (¬ ls k ≤ now) := hl
              clear hl
              go_wp2_with fail
              go_meet
              exact ⟨k, rfl, ⟨Nat.zero_le _, hkn, fun j _ hj => HLE.out j hj, .inr (by have := HNL.out; omega)⟩, rfl⟩
          · have ek : n = k := by omega
            subst ek
            go_wp2_with fail
            go_meet
            exact ⟨_, rfl, ⟨Nat.zero_le _, hkn, fun j _ hj => HLE.out j hj, .inl rfl⟩, rfl⟩
      case rest =>
        obtain ⟨K, rfl, hK, hwc⟩ := hcut
        subst hwc
        have HK : Hid (stopsAt ls now 0 n K) := hK
        have hKn := hK.2.1
        have HPOS : Hid (∀ w3 j, Fr [] wc w3 → j < n → w3.cell? ⟨w1.heap.size, j, none⟩ = some (.bool (pfm pf n j))) := fun w3 j hF hj => by
          obtain ⟨cs', q1, q2, q3⟩ := (HSd.out.keep hF (by simp) (by simp)).pos
          exact (cell_block q1 j).1.trans (q3 j hj)
        clear hK
        go_wp2_with fail
        go_loopg [15, 16, 17] n (fun gk s15 s16 s17 w3 => ∃ j : Nat, j ≤ n ∧ gk = n - j ∧ s17 = .int .i64 (j : Int) ∧ s16 = .int .i64 (cntP (pfm pf n) K j : Int) ∧ Fr [] wc w3 ∧ w3.ownsRow wc.heap.size 3 1 s15 (logL (pfm pf n) (min j K)).length (logL (pfm pf n) (min j K)))
        case atStart => exact ⟨0, Nat.zero_le _, rfl, rfl, rfl, (Fr.refl [] wc).alloc _, by rw [Nat.zero_min]; exact row_made wc⟩
        case round =>
          obtain ⟨j, hjn, rfl, rfl, rfl, hF3, hrow⟩ := hrel
          have HF3 : Hid (Fr [] wc wr) := hF3
          have HRW : Hid (wr.ownsRow wc.heap.size 3 1 u15 (logL (pfm pf n) (min j K)).length (logL (pfm pf n) (min j K))) := hrow
          have hLl := logL_le (pfm pf n) (min j K)
          have hcl := cnt_le (pfm pf n) K j
          have zw := hF3.size
          clear hF3 hrow
          by_cases hjlt : j < n
          · have cj := HPOS.out wr j HF3.out hjlt
            have zj : (j : Int) < (n : Int) := by omega
            cases hpj : pfm pf n j with
            | false =>
              rw [hpj] at cj
              have HPJ : Hid (pfm pf n j = false) := hpj
              clear hpj
              go_wp2_with fail
              go_roundg (n - (j + 1))
              case measure => omega
              case rel => exact ⟨j + 1, by omega, rfl, by go_num, by rw [cnt_skip _ _ _ (by rw [HPJ.out]; simp)], HF3.out, by rw [log_skip _ _ _ HPJ.out]; exact HRW.out⟩
            | true =>
              rw [hpj] at cj
              have HPJ : Hid (pfm pf n j = true) := hpj
              clear hpj
              by_cases hjK : j < K
              · have zK : (j : Int) < (K : Int) := by omega
                obtain ⟨i3, hi3, hx0, hx1, hx2⟩ := info_parts Yba.info3
                have HRA : Hid ((wr.alloc (.cells #[.int .i64 (j : Int)] 3)).ownsRow wc.heap.size 3 1 u15 (logL (pfm pf n) (min j K)).length (logL (pfm pf n) (min j K))) := HRW.out.alloc _
                go_wp2_with (at_builtin; refine wpList_append_lies _ rfl (.tmp 107) (.tmp 109) 34 rfl wc.heap.size 3 i3 (.int .i64 0) 1 8 Yba.underlying34 hi3 hx0 hx1 hx2 rfl (by decide) _ _ _ rfl HRA.out ⟨wr.heap.size, 0, none⟩ 1 1 [.int .i64 (j : Int)] rfl rfl (World.news_of_block (heap_alloc_new wr _)) ?k1 (by decide) ?k2 ?k3 ?k4 (wr.heap.size + 1) ?k5 ?_)
                case k1 => intro u hu; simp at hu; subst hu; rfl
                case k2 => unfold maxLen; omega
                case k3 => omega
                case k4 => simp; omega
                case k5 => simp
                intro g cap' w4 hown4 hgrow hat hlt4
                have HF4 : Hid (Fr [] wc w4) := want_post HF3.out HRW.out hgrow
                have HR4 : Hid _ := hown4
                clear hown4 hgrow hat hlt4
                go_wp2_with fail
                go_roundg (n - (j + 1))
                case measure => omega
                case rel => exact ⟨j + 1, by omega, rfl, by go_num, by rw [cnt_skip _ _ _ (by omega)], HF4.out, by
                  have := HR4.out
                  rw [log_step _ _ _ hjK HPJ.out, List.length_append]
                  exact this⟩
              · have zK : ¬ (j : Int) < (K : Int) := by omega
                go_wp2_with fail
                go_roundg (n - (j + 1))
                case measure => omega
                case rel => exact ⟨j + 1, by omega, rfl, by go_num, by rw [cnt_step _ _ _ (by omega) HPJ.out]; rfl, HF3.out, by rw [log_full _ _ _ (by omega)]; exact HRW.out⟩
          · have ej : n = j := by omega
            subst ej
            obtain ⟨ab, cap, nb, nc, hnc, hfin⟩ := fin_start (K := K) (v2 := u15) HRp.out HSd.out hn0 HF3.out (by have := HRW.out; rw [Nat.min_eq_right hKn] at this; exact this)
            have HFN : Hid _ := hfin
            clear hfin
            go_wp2_with fail
            refine (expire_any HFN.out.all hnc HK.out).mono ?_
            rintro e wa ⟨rfl, hA, hFS⟩
            have hfa := HFN.out.expire hA hFS
            obtain ⟨lS, hlb, hlo⟩ := hfa.all.log
            have cl := (cell_block hlb 0).1
            simp only [List.getElem?_toArray, List.getElem?_cons_zero] at cl
            have HLO : Hid (wa.ownsRow wr.heap.size 3 1 lS (logL (pfm pf n) K).length (logL (pfm pf n) K)) := hlo
            have HFA : Hid _ := hfa
            clear hlb hlo hA hFS hfa
            go_wp2_with fail
            refine (check_any HFA.out.all.rep hn0 HFA.out.pls HLO.out HFA.out.row).mono ?_
            rintro e wb ⟨rfl, hFb⟩
            have HFB : Hid _ := HFA.out.check hFb
            clear hFb
            go_wp2_with fail
            refine (expire_any HFB.out.all hnc ⟨Nat.le_refl _, hKn, fun j h1 h2 => by omega, HK.out.2.2.2⟩).mono ?_
            rintro e wd ⟨rfl, hA2, hFS2⟩
            have hfd := HFB.out.expire hA2 hFS2
            obtain ⟨lS2, hlb2, hlo2⟩ := hfd.all.log
            have cl2 := (cell_block hlb2 0).1
            simp only [List.getElem?_toArray, List.getElem?_cons_zero] at cl2
            have HLO2 : Hid (wd.ownsRow wr.heap.size 3 1 lS2 (logL (pfm pf n) K).length (logL (pfm pf n) K)) := hlo2
            have HFD : Hid _ := hfd
            clear hlb2 hlo2 hA2 hFS2 hfd
            go_wp2_with fail
            refine (check_any HFD.out.all.rep hn0 HFD.out.pls HLO2.out HFD.out.row).mono ?_
            rintro e we ⟨rfl, hFe⟩
            have HFE : Hid _ := HFD.out.check hFe
            clear hFe
            go_wp2_with fail
            go_ret
            exact ⟨rfl, HFE.out.bel⟩
end
end Go.Proofs.Ybulkczpw
