import Derived.Test.YbulkczpwAddC
namespace Go.Proofs.Ybulkczpw
open Go.RowKit

section
variable {w W : World} {B tb mb mp ab cap m : Nat} {aS0 nS : Value} {ls : Nat → Int} {pf : Nat → Bool} {pa : Nat → Nat} {ib hb rb : Nat} {ct sr : Int}

theorem A4_first (hm : m = 0) (j f : Nat) (hj : j < m + 1) (hf : f < 12) : upd (upd (A4 ls (lastIn 0 m (hs m)) m) m 7 noS) m 8 noS j f = cellS ls 0 (m + 1) j f := by
  subst hm
  obtain rfl : j = 0 := by omega
  rw [cellS_live (Nat.zero_le _)]
  match f, hf with
  | 0, _ => simp [upd, A4, newC, live]
  | 1, _ => simp [upd, A4, newC, live]
  | 2, _ => simp [upd, A4, newC, live]
  | 3, _ => simp [upd, A4, newC, live]
  | 4, _ => simp [upd, A4, newC, live]
  | 5, _ => simp [upd, A4, newC, live]
  | 6, _ => simp [upd, A4, newC, live]
  | 7, _ => simp [upd, live]
  | 8, _ => simp [upd, live]
  | 9, _ => simp [upd, A4, newC, live]
  | 10, _ => simp [upd, A4, newC, live]
  | 11, _ => simp [upd, A4, newC, live]
  | n + 12, h => omega

theorem A4_more (hm : 0 < m) (j f : Nat) (hj : j < m + 1) (hf : f < 12) : upd (upd (upd (A4 ls (lastIn 0 m (hs m)) m) m 7 (plS (m - 1))) m 8 noS) (m - 1) 8 (plS m) j f = cellS ls 0 (m + 1) j f := by
  rw [cellS_live (Nat.zero_le _)]
  by_cases hjm : j = m
  · subst hjm
    have e1 : ¬j = j - 1 := by omega
    have e2 : ¬j = 0 := by omega
    have e3 : ((j - 1 : Nat) : Int) = (j : Int) - 1 := by omega
    match f, hf with
    | 0, _ => simp [upd, A4, newC, live]
    | 1, _ => simp [upd, A4, newC, live]
    | 2, _ => simp [upd, A4, newC, live]
    | 3, _ => simp [upd, A4, newC, live]
    | 4, _ => simp [upd, A4, newC, live]
    | 5, _ => simp [upd, A4, newC, live]
    | 6, _ => simp [upd, A4, newC, live]
    | 7, _ => simp [upd, live, e2, e3]
    | 8, _ => simp [upd, live, e1]
    | 9, _ => simp [upd, A4, newC, live]
    | 10, _ => simp [upd, A4, newC, live]
    | 11, _ => simp [upd, A4, newC, live]
    | n + 12, h => omega
  · have hlt : j < m := by omega
    by_cases h8 : j = m - 1 ∧ f = 8
    · obtain ⟨rfl, rfl⟩ := h8
      have e3 : ((m - 1 : Nat) : Int) + 1 = (m : Int) := by omega
      simp [upd, live, e3]
      omega
    · have e0 : upd (upd (upd (A4 ls (lastIn 0 m (hs m)) m) m 7 (plS (m - 1))) m 8 noS) (m - 1) 8 (plS m) j f = A4 ls (lastIn 0 m (hs m)) m j f := by
        simp only [upd, h8, hjm, false_and, if_false]
      rw [e0]
      unfold A4
      rw [if_pos hlt, cellS_live (Nat.zero_le _)]
      by_cases hf8 : f = 8
      · subst hf8
        have e1 : ¬j + 1 = m := fun e => h8 ⟨by omega, rfl⟩
        have e2 : ¬j + 1 = m + 1 := by omega
        simp only [live, if_neg e1, if_neg e2]
      · unfold live
        split <;> first | rfl | exact absurd rfl hf8

theorem push_add (hT : TabIs W tb mb mp (.slice (some ⟨ab, 0, none⟩) (m + 1) cap) nS (-1) ct sr 0 (if 0 = m then -1 else ((0 : Nat) : Int)) (if 0 = m then -1 else (m : Int) - 1)) (hA : OwnsA W B (.slice (some ⟨ab, 0, none⟩) (m + 1) cap) (m + 1) (A4 ls (lastIn 0 m (hs m)) m)) :
    Calls Yba.prog 15 #[.pointer (some ⟨tb, 0, none⟩), .int .i32 (m : Int)] W fun e w' => e = .returned (.tuple #[]) ∧ TabIs w' tb mb mp (.slice (some ⟨ab, 0, none⟩) (m + 1) cap) nS (-1) ct sr 0 0 (m : Int) ∧ OwnsA w' B (.slice (some ⟨ab, 0, none⟩) (m + 1) cap) (m + 1) (cellS ls 0 (m + 1)) ∧ Fr [tb, ab] W w' := by
  by_cases hm : 0 = m
  · rw [if_pos hm, if_pos hm] at hT
    refine (push_first hT hA (Nat.lt_succ_self m)).mono ?_
    rintro e w' ⟨rfl, h1, h2, h3⟩
    refine ⟨rfl, ?_, h2.congr (fun j f hj hf => A4_first hm.symm j f hj hf), h3⟩
    have e0 : (m : Int) = 0 := by omega
    rw [e0] at h1 ⊢
    exact h1
  · rw [if_neg hm, if_neg hm] at hT
    have e1 : (m : Int) - 1 = ((m - 1 : Nat) : Int) := by omega
    rw [e1] at hT
    refine (push_more (q := m - 1) hT hA (Nat.lt_succ_self m) (by omega)).mono ?_
    rintro e w' ⟨rfl, h1, h2, h3⟩
    exact ⟨rfl, h1, h2.congr (fun j f hj hf => A4_more (by omega) j f hj hf), h3⟩

/-- Behind the names' three appends and the count. -/
structure AddE (w wx : World) (B tb mb mp ab cap m : Nat) (aS0 nS0 nS : Value) (ls : Nat → Int) (pf : Nat → Bool) (pa : Nat → Nat) (ct : Int) : Prop where
  tab : TabIs wx tb mb mp (.slice (some ⟨ab, 0, none⟩) (m + 1) cap) nS (-1) ct ((m : Int) + 1) 0 (if 0 = m then -1 else ((0 : Nat) : Int)) (if 0 = m then -1 else (m : Int) - 1)
  all : OwnsA wx B (.slice (some ⟨ab, 0, none⟩) (m + 1) cap) (m + 1) (A4 ls (lastIn 0 m (hs m)) m)
  nam : NamesIs wx B nS (m + 1)
  byh : ∃ n c, n ≤ m + 1 ∧ MapIs wx mb n (hmap 0 (m + 1)) c
  psh : ∃ n, n ≤ m ∧ MapIs wx mp n (pmap pf pa 0 m) (cntP pf 0 m)
  fr : Fr (addL tb mb aS0 nS0) w wx
  fresh : aS0.ownBlock = some ab ∨ w.heap.size ≤ ab
  ne : mb ≠ mp

theorem names_more {w' : World} {v : Value} {xs : List Value} (hl : xs.length = 5 * m) (hN : ∀ j i, j < m → i < 5 → xs[5 * j + i]? = some (.int .u8 (nmB j i : Int)))
    (h : w'.ownsRow B 5 1 v (5 * m + 3 + 1 + 1) (xs ++ [.int .u8 (nmB m 0 : Nat), .int .u8 (nmB m 1 : Nat), .int .u8 (nmB m 2 : Nat), .int .u8 104, .int .u8 114])) : NamesIs w' B v (m + 1) := by
  refine ⟨_, h, fun j i hj hi => ?_⟩
  by_cases hjm : j < m
  · rw [List.getElem?_append_left (by omega), hN j i hjm hi]
  · obtain rfl : j = m := by omega
    rw [List.getElem?_append_right (by omega)]
    have e : 5 * j + i - xs.length = i := by omega
    rw [e]
    match i, hi with
    | 0, _ => rfl
    | 1, _ => rfl
    | 2, _ => rfl
    | 3, _ => rfl
    | 4, _ => rfl
    | n + 5, h => omega

theorem add_names {w5 w8 : World} {v : Value} {xs : List Value} (h : AddS w w5 B tb mb mp ab cap m aS0 nS (A4 ls (lastIn 0 m (hs m)) m) (hmap 0 (m + 1)) pf pa ib hb rb (m + 1) ((m : Int) + 1) (if 0 = m then -1 else ((0 : Nat) : Int)) (if 0 = m then -1 else (m : Int) - 1))
    (hl : xs.length = 5 * m) (hN : ∀ j i, j < m → i < 5 → xs[5 * j + i]? = some (.int .u8 (nmB j i : Int)))
    (hown : w8.ownsRow B 5 1 v (5 * m + 3 + 1 + 1) (xs ++ [.int .u8 (nmB m 0 : Nat), .int .u8 (nmB m 1 : Nat), .int .u8 (nmB m 2 : Nat), .int .u8 104, .int .u8 114])) (hF : Fr nS.ownBlock.toList w5 w8) :
    AddE w ((w8.setCell ⟨tb, 7, none⟩ v).setCell ⟨tb, 4, none⟩ (.int .i64 ((m : Int) + 1))) B tb mb mp ab cap m aS0 nS v ls pf pa ((m : Int) + 1) ∧ TabIs w8 tb mb mp (.slice (some ⟨ab, 0, none⟩) (m + 1) cap) nS (-1) (m : Int) ((m : Int) + 1) 0 (if 0 = m then -1 else ((0 : Nat) : Int)) (if 0 = m then -1 else (m : Int) - 1) := by
  obtain ⟨n1, hn1, hp⟩ := h.psh
  obtain ⟨nB, cB, hnB, hbm⟩ := h.byh
  obtain ⟨cur, hab, _⟩ := h.all.open
  have nt : ∀ g, nS.ownBlock = some g → ∃ cur, w5.heap[g]? = some (.cells cur 5 (0, 0)) := fun g hg => by
    obtain ⟨cur, h1, _⟩ := h.nam.type hg
    exact ⟨cur, h1⟩
  have kp : ∀ b, b < w5.heap.size → nS.ownBlock ≠ some b → w8.heap[b]? = w5.heap[b]? := fun b hb hne => hF.block b hb (by simpa [Option.mem_toList] using hne)
  have ct' : ∀ {b : Nat} {cs : Array Value} {t : TypeId}, w5.heap[b]? = some (.cells cs t (0, 0)) → t ≠ 5 → nS.ownBlock ≠ some b := fun {b cs t} hb ht e => by
    obtain ⟨cur, h1⟩ := nt b e
    exact ne_of_type hb h1 ht rfl
  have cm : ∀ {b n c : Nat} {g : Nat → Option Value}, MapIs w5 b n g c → nS.ownBlock ≠ some b := fun {b n c g} hb e => by
    obtain ⟨cur, h1⟩ := nt b e
    exact ne_of_map h1 hb rfl
  have hT8 : TabIs w8 tb mb mp (.slice (some ⟨ab, 0, none⟩) (m + 1) cap) nS (-1) (m : Int) ((m : Int) + 1) 0 (if 0 = m then -1 else ((0 : Nat) : Int)) (if 0 = m then -1 else (m : Int) - 1) := h.tab.keep (kp tb (lt_of_block h.tab) (ct' h.tab (by decide)))
  have hnv : ∀ g, v.ownBlock = some g → g ≠ tb := fun g hg e => by
    obtain ⟨_, ⟨h1, _⟩ | ⟨g', c', cur, h1, _, h2, _⟩⟩ := hown
    · rw [h1] at hg; cases hg
    · rw [h1] at hg
      cases hg
      subst e
      exact ne_of_type h2 hT8 (by decide) rfl
  have k2 : ∀ b, b ≠ tb → ((w8.setCell ⟨tb, 7, none⟩ v).setCell ⟨tb, 4, none⟩ (.int .i64 ((m : Int) + 1))).heap[b]? = w8.heap[b]? := fun b hb => by
    rw [set_other _ hb, set_other _ hb]
  have k3 : ∀ b, b < w5.heap.size → nS.ownBlock ≠ some b → b ≠ tb → ((w8.setCell ⟨tb, 7, none⟩ v).setCell ⟨tb, 4, none⟩ (.int .i64 ((m : Int) + 1))).heap[b]? = w5.heap[b]? := fun b h1 h2 h3 => (k2 b h3).trans (kp b h1 h2)
  refine ⟨⟨set_block (set_block hT8 7 v) 4 _, h.all.keep (fun g hg => ?_), (names_more hl hN hown).keep (fun g hg => k2 g (hnv g hg)), ⟨nB, cB, hnB, hbm.keep (k3 mb hbm.lt (cm hbm) (ne_of_map h.tab hbm).symm)⟩, ⟨n1, hn1, hp.keep (k3 mp hp.lt (cm hp) (ne_of_map h.tab hp).symm)⟩, ?_, h.fresh, h.ne⟩, hT8⟩
  · cases hg
    exact k3 ab (lt_of_block hab) (ct' hab (by decide)) (ne_of_type hab h.tab (by decide))
  · refine ((h.fr.trans hF (fun k hk _ => ?_)).setCell v ?_).setCell _ ?_
    · rw [mem_addL]
      exact .inr (.inr (.inr (by simpa [Option.mem_toList] using hk)))
    · exact fun _ => mem_addL.2 (.inl rfl)
    · exact fun _ => mem_addL.2 (.inl rfl)

theorem pmap_not (hpf : pf m = false) (key : Nat) : pmap pf pa 0 m key = pmap pf pa 0 (m + 1) key := by
  unfold pmap
  by_cases h : 0 < key ∧ key ≤ m ∧ pf (key - 1) = true
  · rw [if_pos h, if_pos ⟨h.1, by omega, h.2.2⟩]
  · rw [if_neg h, if_neg (fun e => ?_)]
    rcases Nat.lt_or_ge m key with h1 | h1
    · have e2 : key - 1 = m := by omega
      rw [e2, hpf] at e
      cases e.2.2
    · exact h ⟨e.1, h1, e.2.2⟩
theorem cntP_not (hpf : pf m = false) : cntP pf 0 (m + 1) = cntP pf 0 m := by simp [cntP, hpf]

theorem add_fin {w9 : World} {nS' : Value} (hE : AddE w W B tb mb mp ab cap m aS0 nS nS' ls pf pa ((m : Int) + 1)) (hpf : pf m = false) (hm : m < 1024)
    (hT : TabIs w9 tb mb mp (.slice (some ⟨ab, 0, none⟩) (m + 1) cap) nS' (-1) ((m : Int) + 1) ((m : Int) + 1) 0 0 (m : Int)) (hA : OwnsA w9 B (.slice (some ⟨ab, 0, none⟩) (m + 1) cap) (m + 1) (cellS ls 0 (m + 1))) (hF : Fr [tb, ab] W w9) :
    Rep w9 B tb mb mp (.slice (some ⟨ab, 0, none⟩) (m + 1) cap) nS' ls pf pa 0 (m + 1) ∧ Fr (addL tb mb aS0 nS) w w9 := by
  obtain ⟨n1, hn1, hp⟩ := hE.psh
  obtain ⟨nB, cB, hnB, hbm⟩ := hE.byh
  obtain ⟨cur, hab, _⟩ := hE.all.open
  have kp : ∀ b, b < W.heap.size → b ≠ tb → b ≠ ab → w9.heap[b]? = W.heap[b]? := fun b hb h1 h2 => hF.block b hb (by simp; exact ⟨h1, h2⟩)
  refine ⟨⟨?_, hA, hE.nam.keep (fun g hg => ?_), ⟨nB, cB, hnB, hbm.keep (kp mb hbm.lt (ne_of_map hE.tab hbm).symm (ne_of_map hab hbm).symm)⟩, ⟨n1, by omega, ?_⟩, Nat.zero_le _, hm, hE.ne⟩, hE.fr.trans hF (fun k hk hlt => ?_)⟩
  · have e1 : ((0 : Nat) : Int) - 1 = -1 := by decide
    have e2 : ((m + 1 : Nat) : Int) - ((0 : Nat) : Int) = (m : Int) + 1 := by omega
    have e3 : 5 * ((0 : Nat) : Int) = 0 := by decide
    have e4 : ((m + 1 : Nat) : Int) = (m : Int) + 1 := by omega
    have e5 : (m : Int) + 1 - 1 = (m : Int) := by omega
    rw [e1, e2, e3, e4, if_neg (by omega), if_neg (by omega), e5]
    exact hT
  · obtain ⟨cur5, h5, _⟩ := hE.nam.type hg
    exact kp g (lt_of_block h5) (ne_of_type h5 hE.tab (by decide)) (ne_of_type h5 hab (by decide))
  · rw [cntP_not hpf]
    exact (hp.keep (kp mp hp.lt (ne_of_map hE.tab hp).symm (ne_of_map hab hp).symm)).congr (fun key => pmap_not hpf key)
  · simp only [List.mem_cons, List.not_mem_nil, or_false] at hk
    rw [mem_addL]
    rcases hk with rfl | rfl
    · exact .inl rfl
    · rcases hE.fresh with h1 | h1
      · exact .inr (.inr (.inl h1))
      · omega
end
end Go.Proofs.Ybulkczpw
