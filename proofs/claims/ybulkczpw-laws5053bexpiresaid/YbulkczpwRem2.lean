import Derived.Test.YbulkczpwRem1
namespace Go.Proofs.Ybulkczpw
open Go.RowKit
section
variable {w : World} {B S tb mb mp ab nb lb cap nc : Nat} {ls : Nat → Int} {pf : Nat → Bool} {pa : Nat → Nat} {k m : Nat}

/-- Where the table's blocks lie. -/
abbrev Laid (w : World) (S tb mb mp ab nb lb : Nat) : Prop := tb < S ∧ mb < S ∧ mp < S ∧ ab < S ∧ nb < S ∧ lb < S ∧ S ≤ w.heap.size

/-- What stands behind the switch. -/
def Mid1 (w wx : World) (B mb ab cap : Nat) (ls : Nat → Int) (k m : Nat) : Prop :=
  OwnsA wx B (.slice (some ⟨ab, 0, none⟩) m cap) m (A1 ls k m) ∧ (∃ n c, n ≤ m + k + 1 ∧ MapIs wx mb n (hmap (k + 1) m) c) ∧ Fr [ab, mb] w wx

theorem mid_del {w1 : World} {n c nq : Nat} (h : Rep w B tb mb mp (.slice (some ⟨ab, 0, none⟩) m cap) (.slice (some ⟨nb, 0, none⟩) (5 * m) nc) ls pf pa k m) (hl : lastIn k m (hs k) = (k : Int)) (hn : n ≤ m + k)
    (hM : MapIs w1 mb n (fun x => if x = hs k then none else hmap k m x) c) (hT : (w.drewN nq).mapTurned w1 mb) : Mid1 w w1 B mb ab cap ls k m := by
  obtain ⟨n0, c0, _, hb⟩ := h.byh
  obtain ⟨cur, hab, _⟩ := h.all.open
  refine ⟨?_, ⟨n, c, by omega, hM.congr (hmap_gone hl)⟩, (((Fr.refl [ab, mb] w).drewN nq).turned hT (by simp))⟩
  refine OwnsA.keep (h.all.congr (fun j f hj _ => A1_only hl j f hj)) (fun g hg => ?_)
  cases hg
  exact mapTurned_block hT (ne_of_map hab hb)

theorem mid_chain {q nq : Nat} (h : Rep w B tb mb mp (.slice (some ⟨ab, 0, none⟩) m cap) (.slice (some ⟨nb, 0, none⟩) (5 * m) nc) ls pf pa k m) (hne : lastIn k m (hs k) ≠ (k : Int)) (hq : k < q) (e : lastIn k q (hs q) = (k : Int)) :
    Mid1 w ((w.drewN nq).setCell ⟨ab, q * 12 + 9, none⟩ noS) B mb ab cap ls k m := by
  obtain ⟨n0, c0, hn, hb⟩ := h.byh
  obtain ⟨cur, hab, _⟩ := h.all.open
  have hs1 : OwnsA (w.setCell ⟨ab, q * 12 + 9, none⟩ noS) B (.slice (some ⟨ab, 0, none⟩) m cap) m (A1 ls k m) := (h.all.set (j := q) (f := 9) (by decide) noS).congr (fun j f _ _ => A1_chain hq e j f)
  refine ⟨hs1, ⟨n0, c0, by omega, ?_⟩, ((Fr.refl [ab, mb] w).drewN nq).setCell _ (by simp)⟩
  refine MapIs.keep (w := w) (hb.congr (fun x => ?_)) ?_
  · refine hmap_same (fun h2 => ?_)
    have h3 := lastIn_is h2
    subst h3
    exact hne h2
  · show (w.setCell ⟨ab, q * 12 + 9, none⟩ noS).heap[mb]? = _
    exact set_other _ (ne_of_map hab hb).symm

theorem LogIs.keep {w' : World} {L : List Nat} {X : List Value} (h : LogIs w S lb X) (hf : Fr L w w') (hL : ∀ b ∈ L, b < S ∧ b ≠ lb) : LogIs w' S lb X := by
  obtain ⟨lS, h1, h2⟩ := h
  refine ⟨lS, (hf.block lb (lt_of_block h1) (fun hm => (hL lb hm).2 rfl)).trans h1, ?_⟩
  obtain ⟨h3, h4 | ⟨g, cap, cur, h5, h6, h7, h8⟩⟩ := h2
  · exact ⟨h3, .inl h4⟩
  · exact ⟨h3, .inr ⟨g, cap, cur, h5, h6, (hf.block g (lt_of_block h7) (fun hm => by have := (hL g hm).1; omega)).trans h7, h8⟩⟩

/-- What stands behind the stopping of the timer. -/
structure Mid2 (w wx : World) (B S tb mb mp ab nb lb cap nc : Nat) (ls : Nat → Int) (pf : Nat → Bool) (pa : Nat → Nat) (k m : Nat) : Prop where
  tab : TabIs wx tb mb mp (.slice (some ⟨ab, 0, none⟩) m cap) (.slice (some ⟨nb, 0, none⟩) (5 * m) nc) ((k : Int) - 1) ((m : Int) - (k : Int)) (m : Int) (5 * (k : Int)) (if k = m then -1 else (k : Int)) (if k = m then -1 else (m : Int) - 1)
  all : OwnsA wx B (.slice (some ⟨ab, 0, none⟩) m cap) m (A1 ls k m)
  byh : ∃ n c, n ≤ m + k + 1 ∧ MapIs wx mb n (hmap (k + 1) m) c
  psh : ∃ n, n ≤ m ∧ MapIs wx mp n (pmap pf pa k m) (cntP pf k m)
  log : LogIs wx S lb (logL pf (k + 1))
  nam : NamesIs wx B (.slice (some ⟨nb, 0, none⟩) (5 * m) nc) m
  fr : FrS S [ab, mb, lb] w wx
  ne : mb ≠ mp
  laid : Laid wx S tb mb mp ab nb lb
structure Mid3 (w wx : World) (B S tb mb mp ab nb lb cap nc : Nat) (ls : Nat → Int) (pf : Nat → Bool) (pa : Nat → Nat) (k m : Nat) : Prop where
  tab : TabIs wx tb mb mp (.slice (some ⟨ab, 0, none⟩) m cap) (.slice (some ⟨nb, 0, none⟩) (5 * m) nc) ((k : Int) - 1) ((m : Int) - (k : Int)) (m : Int) (5 * (k : Int)) (if k = m then -1 else (k : Int)) (if k = m then -1 else (m : Int) - 1)
  all : OwnsA wx B (.slice (some ⟨ab, 0, none⟩) m cap) m (A1 ls k m)
  byh : ∃ n c, n ≤ m + k + 1 ∧ MapIs wx mb n (hmap (k + 1) m) c
  psh : ∃ n, n ≤ m ∧ MapIs wx mp n (pmap pf pa (k + 1) m) (cntP pf (k + 1) m)
  log : LogIs wx S lb (logL pf (k + 1))
  nam : NamesIs wx B (.slice (some ⟨nb, 0, none⟩) (5 * m) nc) m
  fr : FrS S [ab, mb, mp, lb] w wx
  ne : mb ≠ mp
  laid : Laid wx S tb mb mp ab nb lb

theorem mid2_of {w1 w2 : World} (h : Rep w B tb mb mp (.slice (some ⟨ab, 0, none⟩) m cap) (.slice (some ⟨nb, 0, none⟩) (5 * m) nc) ls pf pa k m) (hS : Laid w S tb mb mp ab nb lb) (hlog : LogIs w S lb (logL pf k))
    (hT1 : TabIs w1 tb mb mp (.slice (some ⟨ab, 0, none⟩) m cap) (.slice (some ⟨nb, 0, none⟩) (5 * m) nc) ((k : Int) - 1) ((m : Int) - (k : Int)) (m : Int) (5 * (k : Int)) (if k = m then -1 else (k : Int)) (if k = m then -1 else (m : Int) - 1))
    (hB1 : ∃ n c, n ≤ m + k + 1 ∧ MapIs w1 mb n (hmap (k + 1) m) c) (hF1 : Fr [ab, mb] w w1) (hA2 : OwnsA w2 B (.slice (some ⟨ab, 0, none⟩) m cap) m (A1 ls k m)) (hL2 : LogIs w2 S lb (logL pf (k + 1))) (hF2 : FrS S [lb] w1 w2) :
    Mid2 w w2 B S tb mb mp ab nb lb cap nc ls pf pa k m := by
  obtain ⟨n', hn', hp⟩ := h.psh
  obtain ⟨nB, cB, _, hbm⟩ := h.byh
  obtain ⟨cur, hab, _⟩ := h.all.open
  obtain ⟨lS, hl, _⟩ := hlog
  obtain ⟨curn, hnb, _⟩ := h.nam.type rfl
  obtain ⟨n1, c1, hn1, hb1⟩ := hB1
  have hF1' : FrS S [ab, mb, lb] w w1 := (hF1.toS hS.2.2.2.2.2.2).mono (fun x hx => by simp only [List.mem_cons, List.not_mem_nil, or_false] at hx ⊢; rcases hx with h | h <;> simp [h])
  have hF : FrS S [ab, mb, lb] w w2 := hF1'.trans hF2 (by simp)
  have k2 : ∀ {b : Nat}, b < S → b ≠ lb → w2.heap[b]? = w1.heap[b]? := fun hb hne => hF2.block _ hb (by simpa using hne)
  have k3 : ∀ {b : Nat}, b < S → b ≠ ab → b ≠ mb → b ≠ lb → w2.heap[b]? = w.heap[b]? := fun hb h1 h2 h3 => hF.block _ hb (by simp; exact ⟨h1, h2, h3⟩)
  refine ⟨hT1.keep (k2 hS.1 (ne_of_type h.tab hl (by decide))), hA2, ⟨n1, c1, hn1, hb1.keep (k2 hS.2.1 (ne_of_map hl hbm).symm)⟩, ⟨n', hn', hp.keep (k3 hS.2.2.1 (ne_of_map hab hp).symm h.ne.symm (ne_of_map hl hp).symm)⟩, hL2, ?_, hF, h.ne, hS.1, hS.2.1, hS.2.2.1, hS.2.2.2.1, hS.2.2.2.2.1, hS.2.2.2.2.2.1, Nat.le_trans hS.2.2.2.2.2.2 hF.size⟩
  refine h.nam.keep (fun g hg => ?_)
  cases hg
  exact k3 hS.2.2.2.2.1 (ne_of_type hnb hab (by decide)) (ne_of_map hnb hbm) (ne_of_type hnb hl (by decide))

theorem Mid2.reads {wx : World} (h : Mid2 w wx B S tb mb mp ab nb lb cap nc ls pf pa k m) (hk : k < m) : wx.cell? ⟨tb, 11, none⟩ = some (.map (some mp)) ∧ wx.cell? ⟨ab, k * 12 + 5, none⟩ = some (.int .u64 ((k + 1 : Nat) : Int)) := by
  obtain ⟨_, _, _, _, _, c11⟩ := h.tab.cells.2
  have a5 := (h.all.cell (f := 5) hk (by decide)).1
  rw [A1_self] at a5
  exact ⟨c11, a5⟩

theorem Mid2.next {wx w3 : World} {n' : Nat} (h : Mid2 w wx B S tb mb mp ab nb lb cap nc ls pf pa k m) (hk : k < m) (hn : n' ≤ m)
    (hM : MapIs w3 mp n' (fun x => if x = k + 1 then none else pmap pf pa k m x) (if (pmap pf pa k m (k + 1)).isSome then cntP pf k m - 1 else cntP pf k m)) (hT : (wx.drewN 1).mapTurned w3 mp) : Mid3 w w3 B S tb mb mp ab nb lb cap nc ls pf pa k m := by
  obtain ⟨n1, hn1, hp⟩ := h.psh
  obtain ⟨nB, cB, hnB, hbm⟩ := h.byh
  obtain ⟨cur, hab, _⟩ := h.all.open
  obtain ⟨curn, hnb, _⟩ := h.nam.type rfl
  have kp : ∀ {b : Nat}, b ≠ mp → w3.heap[b]? = wx.heap[b]? := fun hb => mapTurned_block hT hb
  have hfr : Fr [mp] wx w3 := ((Fr.refl [mp] wx).drewN 1).turned hT (by simp)
  have hlog : LogIs w3 S lb (logL pf (k + 1)) := h.log.keep hfr (by
    obtain ⟨lS, hl, _⟩ := h.log
    intro b hb
    obtain rfl : b = mp := by simpa using hb
    exact ⟨h.laid.2.2.1, (ne_of_map hl hp).symm⟩)
  refine ⟨h.tab.keep (kp (ne_of_map h.tab hp)), h.all.keep (fun g hg => ?_), ⟨nB, cB, hnB, hbm.keep (kp h.ne)⟩, ⟨n', hn, ?_⟩, hlog, h.nam.keep (fun g hg => ?_), ?_, h.ne, h.laid.1, h.laid.2.1, h.laid.2.2.1, h.laid.2.2.2.1, h.laid.2.2.2.2.1, h.laid.2.2.2.2.2.1, Nat.le_trans h.laid.2.2.2.2.2.2 hfr.size⟩
  · cases hg; exact kp (ne_of_map hab hp)
  · rw [cntP_succ pf k m hk]
    rw [pmap_at hk] at hM
    have hc : (if (if pf k = true then some (Value.pointer (some ⟨pa k, 0, none⟩)) else none).isSome then cntP pf k m - 1 else cntP pf k m) = if pf k = true then cntP pf k m - 1 else cntP pf k m := by
      cases pf k <;> simp
    rw [hc] at hM
    exact hM.congr (fun x => pmap_gone x)
  · cases hg; exact kp (ne_of_map hnb hp)
  · exact (h.fr.mono (L' := [ab, mb, mp, lb]) (fun x hx => by simp only [List.mem_cons, List.not_mem_nil, or_false] at hx ⊢; rcases hx with h | h | h <;> simp [h])).trans (hfr.toS h.laid.2.2.2.2.2.2) (by simp)

theorem stop_neq (b1 b2 : Nat) (w : World) : Sem.run Yba.prog (binOp BinOp.neq 39 (stopF b1 b2) Value.nilFunc) w = .ok (.bool true) w := by kernel_rfl

theorem logL_yes (h : pf k = true) : logL pf (k + 1) = logL pf k ++ [.int .i64 (k : Int)] := by simp only [logL, h, if_true]
theorem logL_no (h : pf k = false) : logL pf (k + 1) = logL pf k := by simp [logL, h]

/-- The world that 'remove' leaves. -/
abbrev remW (w4 : World) (tb ab k m : Nat) : World := (((((((((((((((w4.setCell ⟨tb, 8, none⟩ (.int .i64 (5 * (k : Int) + 5))).setCell ⟨ab, k * 12, none⟩ (.int .i64 0)).setCell ⟨ab, k * 12 + 1, none⟩ (.int .u32 0)).setCell ⟨ab, k * 12 + 2, none⟩ (.int .u32 0)).setCell ⟨ab, k * 12 + 3, none⟩ (.int .u32 0)).setCell ⟨ab, k * 12 + 4, none⟩ (.int .i32 0)).setCell ⟨ab, k * 12 + 5, none⟩ (.int .u64 0)).setCell ⟨ab, k * 12 + 6, none⟩ (.int .i64 0)).setCell ⟨ab, k * 12 + 7, none⟩ (.int .i32 0)).setCell ⟨ab, k * 12 + 8, none⟩ (.int .i32 0)).setCell ⟨ab, k * 12 + 9, none⟩ (.int .i32 ((k : Int) - 1))).setCell ⟨ab, k * 12 + 10, none⟩ (.bool false)).setCell ⟨ab, k * 12 + 11, none⟩ (.bool false)).setCell ⟨tb, 3, none⟩ (.int .i32 (k : Int))).setCell ⟨tb, 4, none⟩ (.int .i64 ((m : Int) - (k : Int) - 1)))

theorem upds_dead {j f : Nat} (hf : f < 12) : (upd (upd (upd (upd (upd (upd (upd (upd (upd (upd (upd (upd (A2 ls k m) k 0 (.int .i64 0)) k 1 (.int .u32 0)) k 2 (.int .u32 0)) k 3 (.int .u32 0)) k 4 (.int .i32 0)) k 5 (.int .u64 0)) k 6 (.int .i64 0)) k 7 (.int .i32 0)) k 8 (.int .i32 0)) k 9 (.int .i32 ((k : Int) - 1))) k 10 (.bool false)) k 11 (.bool false)) j f = cellS ls (k + 1) m j f := by
  by_cases hj : j = k
  · subst hj
    have e : cellS ls (j + 1) m j f = dead j f := by unfold cellS; rw [if_pos (by omega)]
    rw [e]
    match f, hf with
    | 0, _ => simp [upd, dead]
    | 1, _ => simp [upd, dead]
    | 2, _ => simp [upd, dead]
    | 3, _ => simp [upd, dead]
    | 4, _ => simp [upd, dead]
    | 5, _ => simp [upd, dead]
    | 6, _ => simp [upd, dead]
    | 7, _ => simp [upd, dead]
    | 8, _ => simp [upd, dead]
    | 9, _ => simp [upd, dead]
    | 10, _ => simp [upd, dead]
    | 11, _ => simp [upd, dead]
    | n + 12, h => omega
  · simp only [upd, hj, false_and, if_false]
    exact final_cells hj

theorem rem_final {w3 w4 : World} (h : Mid3 w w3 B S tb mb mp ab nb lb cap nc ls pf pa k m) (hk : k < m) (hm : m ≤ 1024)
    (hT : TabIs w4 tb mb mp (.slice (some ⟨ab, 0, none⟩) m cap) (.slice (some ⟨nb, 0, none⟩) (5 * m) nc) ((k : Int) - 1) ((m : Int) - (k : Int)) (m : Int) (5 * (k : Int)) (if k + 1 = m then -1 else ((k + 1 : Nat) : Int)) (if k + 1 = m then -1 else (m : Int) - 1))
    (hA : OwnsA w4 B (.slice (some ⟨ab, 0, none⟩) m cap) m (A2 ls k m)) (hF : Fr [tb, ab] w3 w4) :
    Rep (remW w4 tb ab k m) B tb mb mp (.slice (some ⟨ab, 0, none⟩) m cap) (.slice (some ⟨nb, 0, none⟩) (5 * m) nc) ls pf pa (k + 1) m ∧ LogIs (remW w4 tb ab k m) S lb (logL pf (k + 1)) ∧ FrS S [tb, mb, mp, ab, lb] w (remW w4 tb ab k m) := by
  obtain ⟨cur, hab, _⟩ := hA.open
  have hne : ab ≠ tb := ne_of_type hab hT (by decide)
  have hne' : tb ≠ ab := hne.symm
  have hFr : Fr [tb, ab] w3 (remW w4 tb ab k m) := (((((((((((((((hF.setCell _ (by simp)).setCell _ (by simp)).setCell _ (by simp)).setCell _ (by simp)).setCell _ (by simp)).setCell _ (by simp)).setCell _ (by simp)).setCell _ (by simp)).setCell _ (by simp)).setCell _ (by simp)).setCell _ (by simp)).setCell _ (by simp)).setCell _ (by simp)).setCell _ (by simp)).setCell _ (by simp))
  have hT1 : TabIs (w4.setCell ⟨tb, 8, none⟩ (.int .i64 (5 * (k : Int) + 5))) tb mb mp (.slice (some ⟨ab, 0, none⟩) m cap) (.slice (some ⟨nb, 0, none⟩) (5 * m) nc) ((k : Int) - 1) ((m : Int) - (k : Int)) (m : Int) (5 * (k : Int) + 5) (if k + 1 = m then -1 else ((k + 1 : Nat) : Int)) (if k + 1 = m then -1 else (m : Int) - 1) := set_block hT 8 _
  have hT2 : TabIs (((((((((((((w4.setCell ⟨tb, 8, none⟩ (.int .i64 (5 * (k : Int) + 5))).setCell ⟨ab, k * 12, none⟩ (.int .i64 0)).setCell ⟨ab, k * 12 + 1, none⟩ (.int .u32 0)).setCell ⟨ab, k * 12 + 2, none⟩ (.int .u32 0)).setCell ⟨ab, k * 12 + 3, none⟩ (.int .u32 0)).setCell ⟨ab, k * 12 + 4, none⟩ (.int .i32 0)).setCell ⟨ab, k * 12 + 5, none⟩ (.int .u64 0)).setCell ⟨ab, k * 12 + 6, none⟩ (.int .i64 0)).setCell ⟨ab, k * 12 + 7, none⟩ (.int .i32 0)).setCell ⟨ab, k * 12 + 8, none⟩ (.int .i32 0)).setCell ⟨ab, k * 12 + 9, none⟩ (.int .i32 ((k : Int) - 1))).setCell ⟨ab, k * 12 + 10, none⟩ (.bool false)).setCell ⟨ab, k * 12 + 11, none⟩ (.bool false)) tb mb mp (.slice (some ⟨ab, 0, none⟩) m cap) (.slice (some ⟨nb, 0, none⟩) (5 * m) nc) ((k : Int) - 1) ((m : Int) - (k : Int)) (m : Int) (5 * (k : Int) + 5) (if k + 1 = m then -1 else ((k + 1 : Nat) : Int)) (if k + 1 = m then -1 else (m : Int) - 1) := by
    refine hT1.keep ?_
    rw [set_other _ hne', set_other _ hne', set_other _ hne', set_other _ hne', set_other _ hne', set_other _ hne', set_other _ hne', set_other _ hne', set_other _ hne', set_other _ hne', set_other _ hne', set_other _ hne']
  have hT3 : TabIs (remW w4 tb ab k m) tb mb mp (.slice (some ⟨ab, 0, none⟩) m cap) (.slice (some ⟨nb, 0, none⟩) (5 * m) nc) (k : Int) ((m : Int) - (k : Int) - 1) (m : Int) (5 * (k : Int) + 5) (if k + 1 = m then -1 else ((k + 1 : Nat) : Int)) (if k + 1 = m then -1 else (m : Int) - 1) := set_block (set_block hT2 3 _) 4 _
  have hA1 : OwnsA (w4.setCell ⟨tb, 8, none⟩ (.int .i64 (5 * (k : Int) + 5))) B (.slice (some ⟨ab, 0, none⟩) m cap) m (A2 ls k m) := hA.keep (fun g hg => by cases hg; exact set_other _ hne)
  have hA2 := ((((((((((((hA1.set (j := k) (f := 0) (by decide) (.int .i64 0)).set (j := k) (f := 1) (by decide) (.int .u32 0)).set (j := k) (f := 2) (by decide) (.int .u32 0)).set (j := k) (f := 3) (by decide) (.int .u32 0)).set (j := k) (f := 4) (by decide) (.int .i32 0)).set (j := k) (f := 5) (by decide) (.int .u64 0)).set (j := k) (f := 6) (by decide) (.int .i64 0)).set (j := k) (f := 7) (by decide) (.int .i32 0)).set (j := k) (f := 8) (by decide) (.int .i32 0)).set (j := k) (f := 9) (by decide) (.int .i32 ((k : Int) - 1))).set (j := k) (f := 10) (by decide) (.bool false)).set (j := k) (f := 11) (by decide) (.bool false))
  have hA3 : OwnsA (remW w4 tb ab k m) B (.slice (some ⟨ab, 0, none⟩) m cap) m (cellS ls (k + 1) m) := by
    refine (OwnsA.keep hA2 (fun g hg => ?_)).congr (fun j f _ hf => upds_dead hf)
    cases hg
    rw [set_other _ hne, set_other _ hne]
    rfl
  obtain ⟨n1, hn1, hp⟩ := h.psh
  obtain ⟨nB, cB, hnB, hbm⟩ := h.byh
  obtain ⟨curn, hnb, _⟩ := h.nam.type rfl
  obtain ⟨lS, hl, _⟩ := id h.log
  obtain ⟨cur3, hab3, _⟩ := h.all.open
  have kp : ∀ {b : Nat}, b < w3.heap.size → b ≠ tb → b ≠ ab → (remW w4 tb ab k m).heap[b]? = w3.heap[b]? := fun hb h1 h2 => hFr.block _ hb (by simp; exact ⟨h1, h2⟩)
  refine ⟨⟨?_, hA3, h.nam.keep (fun g hg => ?_), ⟨nB, cB, by omega, hbm.keep (kp hbm.lt (ne_of_map h.tab hbm).symm (ne_of_map hab3 hbm).symm)⟩, ⟨n1, hn1, hp.keep (kp hp.lt (ne_of_map h.tab hp).symm (ne_of_map hab3 hp).symm)⟩, hk, hm, h.ne⟩, h.log.keep hFr ?_, ?_⟩
  · have e1 : ((k + 1 : Nat) : Int) - 1 = (k : Int) := by omega
    have e2 : (m : Int) - ((k + 1 : Nat) : Int) = (m : Int) - (k : Int) - 1 := by omega
    have e3 : 5 * ((k + 1 : Nat) : Int) = 5 * (k : Int) + 5 := by omega
    rw [e1, e2, e3]
    exact hT3
  · cases hg
    exact kp (lt_of_block hnb) (ne_of_type hnb h.tab (by decide)) (ne_of_type hnb hab3 (by decide))
  · intro b hb
    simp only [List.mem_cons, List.not_mem_nil, or_false] at hb
    rcases hb with rfl | rfl
    · exact ⟨h.laid.1, ne_of_type h.tab hl (by decide)⟩
    · exact ⟨h.laid.2.2.2.1, ne_of_type hab3 hl (by decide)⟩
  · exact (h.fr.mono (L' := [tb, mb, mp, ab, lb]) (fun x hx => by simp only [List.mem_cons, List.not_mem_nil, or_false] at hx ⊢; rcases hx with h | h | h | h <;> simp [h])).trans (hFr.toS h.laid.2.2.2.2.2.2) (fun x hx => by simp only [List.mem_cons, List.not_mem_nil, or_false] at hx ⊢; rcases hx with h | h <;> simp [h])

theorem fin_drew {W : World} {aS nS : Value} {k' : Nat} {X : List Value} {L : List Nat} (h : Rep W B tb mb mp aS nS ls pf pa k' m ∧ LogIs W S lb X ∧ FrS S L w W) (n : Nat) :
    Rep (W.drew.drewN n) B tb mb mp aS nS ls pf pa k' m ∧ LogIs (W.drew.drewN n) S lb X ∧ FrS S L w (W.drew.drewN n) :=
  ⟨⟨h.1.tab, h.1.all, h.1.nam, h.1.byh, h.1.psh, h.1.le, h.1.lim, h.1.ne⟩, h.2.1, h.2.2.drew.drewN n⟩
end
end Go.Proofs.Ybulkczpw
