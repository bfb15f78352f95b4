import Derived.Test.YbulkczpwAddF
namespace Go.Proofs.Ybulkczpw
open Go.RowKit

section
variable {w : World} {B tb mb mp : Nat} {aS nS : Value} {ls : Nat → Int} {pf : Nat → Bool} {pa : Nat → Nat} {m ib hb rb : Nat}

theorem hmap_put (x : Nat) : (if x = hs m then some (.int .i32 (m : Int)) else hmap 0 m x) = hmap 0 (m + 1) x := by
  unfold hmap
  by_cases h : x = hs m
  · rw [if_pos h, lastIn_yes (Nat.zero_le _) h.symm, if_neg (by omega)]
  · rw [if_neg h, lastIn_no (fun e => h e.2.symm)]

section
variable {wx : World} {ab cap : Nat} {aS0 : Value} {A : Nat → Nat → Value} {sr od nw : Int}
theorem add_second {w3 : World} {n c : Nat} (h : AddS w wx B tb mb mp ab cap m aS0 nS A (hmap 0 m) pf pa ib hb rb m sr od nw) (hn : n ≤ m) (hM : MapIs w3 mb (n + 1) (fun x => if x = hs m then some (.int .i32 (m : Int)) else hmap 0 m x) c) (hT : wx.mapTurned w3 mb) :
    AddS w w3 B tb mb mp ab cap m aS0 nS A (hmap 0 (m + 1)) pf pa ib hb rb (m + 1) sr od nw := by
  obtain ⟨n1, c1, hn1, hb⟩ := h.byh
  obtain ⟨cur, hab, _⟩ := h.all.open
  refine h.step (h.tab.keep (mapTurned_block hT (ne_of_map h.tab hb))) (h.all.keep (fun g hg => ?_)) ⟨n + 1, c, by omega, hM.congr hmap_put⟩ ((Fr.refl _ _).turned hT (by simp))
  cases hg
  exact mapTurned_block hT (ne_of_map hab hb)

theorem add_third {f : Nat → Option Value} {bd : Nat} (h : AddS w wx B tb mb mp ab cap m aS0 nS A f pf pa ib hb rb bd (m : Int) od nw) :
    AddS w (wx.setCell ⟨tb, 6, none⟩ (.int .u64 ((m : Int) + 1))) B tb mb mp ab cap m aS0 nS A f pf pa ib hb rb bd ((m : Int) + 1) od nw := by
  obtain ⟨n1, c1, hn1, hb⟩ := h.byh
  obtain ⟨cur, hab, _⟩ := h.all.open
  refine h.step (set_block h.tab 6 _) (h.all.keep (fun g hg => ?_)) ⟨n1, c1, hn1, hb.keep (set_other _ (ne_of_map h.tab hb).symm)⟩ ((Fr.refl _ _).setCell _ (by simp))
  cases hg
  exact set_other _ (ne_of_type hab h.tab (by decide))
end

theorem first_of (m x : Nat) : ∃ (V : Value) (b : Bool), (hmap 0 m x).getD (.int .i32 0) = V ∧ (hmap 0 m x).isSome = b ∧ ((b = true ∧ V = .int .i32 (lastIn 0 m x)) ∨ (b = false ∧ lastIn 0 m x = -1)) := by
  refine ⟨_, _, rfl, rfl, ?_⟩
  unfold hmap
  by_cases h : lastIn 0 m x = -1
  · rw [if_pos h]; exact .inr ⟨rfl, h⟩
  · rw [if_neg h]; exact .inl ⟨rfl, rfl⟩

set_option maxRecDepth 10000 in
set_option maxHeartbeats 2000000 in
theorem add_any (h : Rep w B tb mb mp aS nS ls pf pa 0 m) (hm : m < 1024) (hB : B ≤ w.heap.size) (hI : Ids w nS ib hb rb m) (hpf : pf m = false) :
    Calls Yba.prog 7 #[.pointer (some ⟨tb, 0, none⟩), .slice (some ⟨ib, 0, none⟩) 3 3, .int .i32 (m : Int), .slice (some ⟨hb, 0, none⟩) 1 1, .slice (some ⟨rb, 0, none⟩) 1 1, .int .i64 (ls m)] w fun e w' => e = .returned (.int .i32 (m : Int)) ∧
      ∃ aS' nS', Rep w' B tb mb mp aS' nS' ls pf pa 0 (m + 1) ∧ Fr (addL tb mb aS nS) w w' := by
  obtain ⟨i0, hi, hz0, hz1, hz2⟩ := info_parts Yba.info54
  obtain ⟨ao, ac, rfl⟩ := h.all.slice
  obtain ⟨no, ncap, rfl⟩ : ∃ no ncap, nS = .slice no (5 * m) ncap := by
    obtain ⟨xs, ⟨_, ⟨h1, h2⟩ | ⟨g, cap, cur, h1, _⟩⟩, _⟩ := h.nam
    · exact ⟨none, 0, by rw [h1, h2]⟩
    · exact ⟨_, _, h1⟩
  obtain ⟨⟨_, _, _, _, c4, c5⟩, _⟩ := h.tab.cells
  have e4 : (m : Int) - ((0 : Nat) : Int) = (m : Int) := by omega
  rw [e4] at c4
  have HR : Hid (Rep w B tb mb mp (.slice ao m ac) (.slice no (5 * m) ncap) ls pf pa 0 m) := h
  have HI : Hid (Ids w (.slice no (5 * m) ncap) ib hb rb m) := hI
  have HB : Hid (B ≤ w.heap.size) := hB
  have HPF : Hid (pf m = false) := hpf
  have eg : decide ((1048576 : Int) ≤ (m : Int)) = false := by simp; omega
  clear h hI hB hpf
  go_enter Yba.func7, Yba.ntmps7
  go_wp2
  go_quiet (fail)
  obtain ⟨w0, hw0⟩ : ∃ x, x = w.drewN nq := ⟨_, rfl⟩
  rw [← hw0]
  have h0 : Rep w0 B tb mb mp (.slice ao m ac) (.slice no (5 * m) ncap) ls pf pa 0 m := hw0 ▸ HR.out.drewN nq
  have HI0 : Hid (Ids w0 (.slice no (5 * m) ncap) ib hb rb m) := hw0 ▸ (show Ids (w.drewN nq) (.slice no (5 * m) ncap) ib hb rb m from ⟨HI.out.id, HI.out.host, HI.out.realm, HI.out.nid, HI.out.nhost, HI.out.nrealm⟩)
  have hs0 : B ≤ w0.heap.size := by rw [hw0]; exact HB.out
  have HF0 : Hid (Fr (addL tb mb (.slice ao m ac) (.slice no (5 * m) ncap)) w w0) := (show Fr (addL tb mb (.slice ao m ac) (.slice no (5 * m) ncap)) w w0 by rw [hw0]; exact (Fr.refl _ _).drewN nq)
  have HWZ : Hid (w0.heap.size = w.heap.size) := (show w0.heap.size = w.heap.size by rw [hw0]; rfl)
  clear hw0 c4 c5 HB HI
  obtain ⟨xs, hx, hxA⟩ := h0.all
  obtain ⟨⟨c0, c1, c2, c3, c4, c5⟩, c6, c7, c8, c9, c10, c11⟩ := h0.tab.cells
  have f2 := h0.tab.frozen 2
  have e3 : ((0 : Nat) : Int) - 1 = -1 := by decide
  rw [e3] at c3
  have htb := lt_of_block h0.tab
  have HX : Hid ((w0.alloc (.cells zeroS 54)).ownsRow B 54 12 (.slice ao m ac) m xs) := hx.alloc _
  have HXA : Hid (∀ j f, j < m → f < 12 → xs[j * 12 + f]? = some (cellS ls 0 m j f)) := hxA
  have HXl : Hid (xs.length = m * 12) := hx.1
  have HR0 : Hid (Rep w0 B tb mb mp (.slice ao m ac) (.slice no (5 * m) ncap) ls pf pa 0 m) := h0
  clear h0 hx hxA HR
  go_wp2_with (at_builtin; refine wpList_append_lies _ rfl (.tmp 42) (.tmp 44) 28 rfl B 54 i0 (.agg zeroS) 12 56 Yba.underlying28 hi hz0 hz1 hz2 rfl (by decide) _ _ _ rfl HX.out ⟨w0.heap.size, 0, none⟩ 1 1 zeroS.toList rfl rfl (World.news_of_block (heap_alloc_new w0 _)) ?k1 (by decide) ?k2 ?k3 ?k4 (w0.heap.size + 1) ?k5 ?_)
  case k1 => decide
  case k2 => unfold maxLen; omega
  case k3 => omega
  case k4 => simp; omega
  case k5 => simp
  intro ab cap w1 hown1 hgrow hat hlt
  have hS1 := add_first (w := w) HR0.out hs0 HF0.out HWZ.out HI0.out HXl.out HXA.out hown1 hgrow hat
  have d2 := hS1.2.1
  have df2 := hS1.2.2
  have HS1 : Hid (AddS w (w1.setCell ⟨tb, 2, none⟩ (.slice (some ⟨ab, 0, none⟩) (m + 1) cap)) B tb mb mp ab cap m (.slice ao m ac) (.slice no (5 * m) ncap) (Ax (cellS ls 0 m) m) (hmap 0 m) pf pa ib hb rb m (m : Int) (if 0 = m then -1 else ((0 : Nat) : Int)) (if 0 = m then -1 else (m : Int) - 1)) := hS1.1
  clear hS1 hown1 hgrow hat hlt HX HXA HXl HI0 HF0 HR0 c0 c1 c2 c3 c4 c5 c6 c7 c8 c9 c10 c11 f2 hs0 HWZ htb hi hz0 hz1 hz2
  have e0 : (w1.setCell ⟨tb, 2, none⟩ (.slice (some ⟨ab, 0, none⟩) (m + 1) cap)).cell? ⟨tb, 0, none⟩ = some (.func (.func 6) #[] #[]) := HS1.out.tab.cells.1.1
  go_wp2_with fail
  obtain ⟨w2, hw2⟩ : ∃ x, x = w1.setCell ⟨tb, 2, none⟩ (.slice (some ⟨ab, 0, none⟩) (m + 1) cap) := ⟨_, rfl⟩
  rw [← hw2]
  rw [← hw2] at HS1
  clear hw2 d2 df2 e0
  have hid : ∀ x, x < 3 → w2.cell? ⟨ib, 0 + x, none⟩ = some (.int .u8 (nmB m x : Int)) := fun x hx => by
    obtain ⟨f0, hf0⟩ := HS1.out.ids.id
    rw [Nat.zero_add, cell_of_row w2 ib x _ _ _ hf0]
    rcases x with _ | _ | _ | x
    · rfl
    · rfl
    · rfl
    · omega
  refine (hash_id w2 ib 0 m hid).mono ?_
  rintro e wy ⟨rfl, rfl⟩
  clear hid
  obtain ⟨⟨c0, c1, c2, c3, c4, c5⟩, c6, c7, c8, c9, c10, c11⟩ := HS1.out.tab.cells
  obtain ⟨V, bb, hV, hbb, hVb⟩ := first_of m (hs m)
  have hlk : (Instr.lookup 25 (.map (some mb)) (.int .u64 (hs m : Int)) true).run Yba.prog w2 = .ok (.tuple #[V, .bool bb]) w2 := by
    obtain ⟨n', c, _, hb⟩ := HS1.out.byh
    have := (hb.look Yba.underlying25 (zero26 _) (hs_lt m)).2
    rwa [hV, hbb] at this
  have HV : Hid ((bb = true ∧ V = .int .i32 (lastIn 0 m (hs m))) ∨ (bb = false ∧ lastIn 0 m (hs m) = -1)) := hVb
  clear hV hbb hVb
  go_upto_if 75 with fail
  go_cut [15] (fun s wx => s = .int .i32 (lastIn 0 m (hs m)) ∧ wx = w2)
  case first =>
    rcases HV.out with ⟨rfl, rfl⟩ | ⟨rfl, hm1⟩
    · go_wp2
      go_meet
      exact ⟨rfl, rfl⟩
    · have HM1 : Hid (lastIn 0 m (hs m) = -1) := hm1
      clear hm1
      go_wp2
      go_meet
      exact ⟨by rw [HM1.out], rfl⟩
  case rest =>
    obtain ⟨rfl, hwc⟩ := hcut
    subst hwc
    obtain ⟨n', cc, hn', hbm⟩ := HS1.out.byh
    have HBM : Hid (MapIs wc mb n' (hmap 0 m) cc) := hbm
    clear hbm hlk
    obtain ⟨li, hli⟩ : ∃ x, lastIn 0 m (hs m) = x := ⟨_, rfl⟩
    have HLI : Hid (lastIn 0 m (hs m) = li) := hli
    rw [hli]
    clear hli
    go_wp2_with (at_mapUpdate; refine wpList_put rfl _ _ _ 25 26 rfl Yba.underlying25 HBM.out (by omega) (hs m) (hs_lt m) _ rfl rfl rfl ?_; intro w3 hM3 hT3; have hS3 := add_second HS1.out hn' hM3 hT3; have q6 := hS3.tab.cells.2.1; have qf6 := hS3.tab.frozen 6; have HS3 : Hid _ := hS3; clear hS3 hM3 hT3)
    obtain ⟨w4, hw4⟩ : ∃ x, x = w3.setCell ⟨tb, 6, none⟩ (.int .u64 ((m : Int) + 1)) := ⟨_, rfl⟩
    rw [← hw4]
    have hS4 := add_third HS3.out
    rw [← hw4] at hS4
    clear hw4 q6 qf6 c0 c1 c2 c3 c4 c5 c6 c7 c8 c9 c10 c11 HS3 HBM
    obtain ⟨⟨_, _, c2, _⟩, c6, c7, _⟩ := hS4.tab.cells
    have hne : ab ≠ tb := by
      obtain ⟨cur, hab, _⟩ := hS4.all.open
      exact ne_of_type hab hS4.tab (by decide)
    have hne' : tb ≠ ab := hne.symm
    have hk : m < m + 1 := Nat.lt_succ_self m
    obtain ⟨a0, g0⟩ := hS4.all.cell (f := 0) hk (by decide)
    obtain ⟨a1, g1⟩ := hS4.all.cell (f := 1) hk (by decide)
    obtain ⟨a2, g2⟩ := hS4.all.cell (f := 2) hk (by decide)
    obtain ⟨a3, g3⟩ := hS4.all.cell (f := 3) hk (by decide)
    obtain ⟨a4, g4⟩ := hS4.all.cell (f := 4) hk (by decide)
    obtain ⟨a5, g5⟩ := hS4.all.cell (f := 5) hk (by decide)
    obtain ⟨a6, g6⟩ := hS4.all.cell (f := 6) hk (by decide)
    obtain ⟨a7, g7⟩ := hS4.all.cell (f := 7) hk (by decide)
    obtain ⟨a8, g8⟩ := hS4.all.cell (f := 8) hk (by decide)
    obtain ⟨a9, g9⟩ := hS4.all.cell (f := 9) hk (by decide)
    obtain ⟨a10, g10⟩ := hS4.all.cell (f := 10) hk (by decide)
    obtain ⟨a11, g11⟩ := hS4.all.cell (f := 11) hk (by decide)
    rw [Nat.add_zero] at a0 g0
    have HS4 : Hid _ := hS4
    clear hS4
    go_region
    go_upto_region 15 with fail
    obtain ⟨w5, hw5⟩ : ∃ x, x = (newW w4 ab m (ls m) li).drew := ⟨_, rfl⟩
    rw [show (newW w4 ab m (ls m) li).drew = w5 from hw5.symm]
    have hS5 := add_fourth (li := li) HS4.out
    rw [← hw5] at hS5
    have e5 := HLI.out
    subst e5
    clear hw5 HS4 HS1 HLI a0 a1 a2 a3 a4 a5 a6 a7 a8 a9 a10 a11 g0 g1 g2 g3 g4 g5 g6 g7 g8 g9 g10 g11 c2 c6 c7
    obtain ⟨xs, hxo, hxN⟩ := hS5.nam
    obtain ⟨_, _, c7, _⟩ := hS5.tab.cells
    obtain ⟨fi, hfi⟩ := hS5.ids.id
    have l1 := lt_of_block hfi
    obtain ⟨fh, hhost⟩ := hS5.ids.host
    obtain ⟨fm, hrealm⟩ := hS5.ids.realm
    have l2 := lt_of_block hhost
    have l3 := lt_of_block hrealm
    have HHo : Hid (w5.heap[hb]? = some (.cells #[.int .u8 104] 5 fh)) := hhost
    have HRe : Hid (w5.heap[rb]? = some (.cells #[.int .u8 114] 5 fm)) := hrealm
    clear hhost hrealm
    have HN5 : Hid (w5.ownsRow B 5 1 (.slice no (5 * m) ncap) (5 * m) xs) := hxo
    have HXN : Hid (∀ j i, j < m → i < 5 → xs[5 * j + i]? = some (.int .u8 (nmB j i : Int))) := hxN
    have HXl : Hid (xs.length = 5 * m) := (by have := hxo.1; omega : xs.length = 5 * m)
    have HS5 : Hid (AddS w w5 B tb mb mp ab cap m (.slice ao m ac) (.slice no (5 * m) ncap) (A4 ls (lastIn 0 m (hs m)) m) (hmap 0 (m + 1)) pf pa ib hb rb (m + 1) ((m : Int) + 1) (if 0 = m then -1 else ((0 : Nat) : Int)) (if 0 = m then -1 else (m : Int) - 1)) := hS5
    have hlim := hS5.lim
    obtain ⟨j0, hj, hy0, hy1, hy2⟩ := info_parts Yba.info5
    have HI1 : Hid (∀ i u, [Value.int .u8 (nmB m 0 : Nat), Value.int .u8 (nmB m 1 : Nat), Value.int .u8 (nmB m 2 : Nat)][i]? = some u → w5.cell? ((⟨ib, 0, none⟩ : Addr).add i) = some u) := World.news_of_block hfi
    clear hfi
    clear hS5 hxo hxN
    go_wp2_with (at_builtin; refine wpList_append_lies _ rfl (.tmp 121) (.tmp 122) 30 rfl B 5 j0 (.int .u8 0) 1 1 Yba.underlying30 hj hy0 hy1 hy2 rfl (by decide) _ _ _ rfl HN5.out ⟨ib, 0, none⟩ 3 3 [.int .u8 (nmB m 0 : Nat), .int .u8 (nmB m 1 : Nat), .int .u8 (nmB m 2 : Nat)] rfl rfl HI1.out ?a1 (by decide) ?a2 ?a3 ?a4 w5.heap.size rfl ?_)
    case a1 => intro u hu; simp at hu; rcases hu with rfl | rfl | rfl <;> rfl
    case a2 => unfold maxLen; omega
    case a3 => omega
    case a4 => exact hlim
    intro g1 d1 w6 hown6 hgrow6 hat6 hlt6
    have hs6 : w5.heap.size ≤ w6.heap.size := hgrow6.size
    have HN6 : Hid (w6.ownsRow B 5 1 (.slice (some ⟨g1, 0, none⟩) (5 * m + 3) d1) (5 * m + 3) (xs ++ [.int .u8 (nmB m 0 : Nat), .int .u8 (nmB m 1 : Nat), .int .u8 (nmB m 2 : Nat)])) := hown6
    have HI2 : Hid (∀ i u, [Value.int .u8 104][i]? = some u → w6.cell? ((⟨hb, 0, none⟩ : Addr).add i) = some u) := World.news_of_block ((hgrow6.block hb l2 (fun e => HS5.out.ids.nhost e.symm)).trans HHo.out)
    have HF6 : Hid (Fr (Value.slice no (5 * m) ncap).ownBlock.toList w5 w6) := (Fr.refl _ w5).grown hgrow6 (fun k hk _ => by rw [hk]; simp)
    have HG1 : Hid (g1 < w5.heap.size → g1 ∈ (Value.slice no (5 * m) ncap).ownBlock.toList) := fun hl => by
      rcases hat6 with h1 | h1
      · rw [h1]; simp
      · omega
    have HR6 : Hid (rb ≠ g1) := fun e => by
      rcases hat6 with h1 | h1
      · exact HS5.out.ids.nrealm (by rw [e]; exact h1)
      · omega
    clear hown6 hgrow6 hat6 HN5 HI1
    go_wp2_with (at_builtin; refine wpList_append_lies _ rfl (.tmp 123) (.tmp 124) 30 rfl B 5 j0 (.int .u8 0) 1 1 Yba.underlying30 hj hy0 hy1 hy2 rfl (by decide) _ _ _ rfl HN6.out ⟨hb, 0, none⟩ 1 1 [.int .u8 104] rfl rfl HI2.out ?b1 (by decide) ?b2 ?b3 ?b4 w6.heap.size rfl ?_)
    case b1 => intro u hu; simp at hu; subst hu; rfl
    case b2 => unfold maxLen; omega
    case b3 => omega
    case b4 => omega
    intro g2 d2 w7 hown7 hgrow7 hat7 hlt7
    have hs7 : w6.heap.size ≤ w7.heap.size := hgrow7.size
    have HN7 : Hid (w7.ownsRow B 5 1 (.slice (some ⟨g2, 0, none⟩) (5 * m + 3 + 1) d2) (5 * m + 3 + 1) (xs ++ [.int .u8 (nmB m 0 : Nat), .int .u8 (nmB m 1 : Nat), .int .u8 (nmB m 2 : Nat), .int .u8 104])) := hown7
    have HF7 : Hid (Fr (Value.slice no (5 * m) ncap).ownBlock.toList w5 w7) := HF6.out.grown hgrow7 (fun k hk hl => by cases hk; exact HG1.out hl)
    have HI3 : Hid (∀ i u, [Value.int .u8 114][i]? = some u → w7.cell? ((⟨rb, 0, none⟩ : Addr).add i) = some u) := World.news_of_block ((HF7.out.block rb l3 (fun e => HS5.out.ids.nrealm (by simpa [Option.mem_toList] using e))).trans HRe.out)
    have HG2 : Hid (g2 < w5.heap.size → g2 ∈ (Value.slice no (5 * m) ncap).ownBlock.toList) := fun hl => by
      rcases hat7 with h1 | h1
      · cases h1; exact HG1.out hl
      · omega
    clear hown7 hgrow7 hat7 HN6 HI2 HF6 HG1 HR6
    go_wp2_with (at_builtin; refine wpList_append_lies _ rfl (.tmp 125) (.tmp 126) 30 rfl B 5 j0 (.int .u8 0) 1 1 Yba.underlying30 hj hy0 hy1 hy2 rfl (by decide) _ _ _ rfl HN7.out ⟨rb, 0, none⟩ 1 1 [.int .u8 114] rfl rfl HI3.out ?d1 (by decide) ?d2 ?d3 ?d4 w7.heap.size rfl ?_)
    case d1 => intro u hu; simp at hu; subst hu; rfl
    case d2 => unfold maxLen; omega
    case d3 => omega
    case d4 => omega
    intro g3 d3 w8 hown8 hgrow8 hat8 hlt8
    have hE := add_names (v := .slice (some ⟨g3, 0, none⟩) (5 * m + 3 + 1 + 1) d3) HS5.out HXl.out HXN.out hown8 (HF7.out.grown hgrow8 (fun k hk hl => by cases hk; exact HG2.out hl))
    have q7 := hE.2.cells.2.2.1
    have qf7 := hE.2.frozen 7
    have q4 := hE.2.cells.1.2.2.2.2.1
    have qf4 := hE.2.frozen 4
    have HE : Hid (AddE w ((w8.setCell ⟨tb, 7, none⟩ (.slice (some ⟨g3, 0, none⟩) (5 * m + 3 + 1 + 1) d3)).setCell ⟨tb, 4, none⟩ (.int .i64 ((m : Int) + 1))) B tb mb mp ab cap m (.slice ao m ac) (.slice no (5 * m) ncap) (.slice (some ⟨g3, 0, none⟩) (5 * m + 3 + 1 + 1) d3) ls pf pa ((m : Int) + 1)) := hE.1
    clear hE hown8 hgrow8 hat8 hlt8 HN7 HI3 HF7 HG2 HS5 HXN HXl c7 l1 l2 l3 hlt6 hlt7
    go_wp2_with fail
    refine (push_add HE.out.tab HE.out.all).mono ?_
    rintro e w9 ⟨rfl, hT9, hA9, hF9⟩
    have HFin : Hid _ := add_fin HE.out HPF.out hm hT9 hA9 hF9
    clear hT9 hA9 hF9 HE
    go_wp2
    go_ret
    exact ⟨rfl, _, _, HFin.out.1, HFin.out.2⟩
end
end Go.Proofs.Ybulkczpw
