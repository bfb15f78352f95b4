import Derived.Test.YbulkczpwMark
namespace Go.Proofs.Ybulkczpw
open Go.RowKit

section
variable {w wr wx wy : World} {B tb mb mp pb qb lb n : Nat} {pf : Nat → Bool} {pa : Nat → Nat} {ls : Nat → Int} {aS nS : Value} {i i' i'' k m : Nat}

/-- A block of another type may turn. -/
theorem Rep.keepT {b : Nat} {cs : Array Value} {t : TypeId} {f : Nat × Nat} (h : Rep wx B tb mb mp aS nS ls pf pa k m) (hF : Fr [b] wx wy) (hb : wx.heap[b]? = some (.cells cs t f)) (h1 : t ≠ 32) (h2 : t ≠ 54) (h3 : t ≠ 5) : Rep wy B tb mb mp aS nS ls pf pa k m := by
  obtain ⟨n, c, hn, hbm⟩ := h.byh
  obtain ⟨n', hn', hp⟩ := h.psh
  have kp : ∀ {x : Nat}, x < wx.heap.size → x ≠ b → wy.heap[x]? = wx.heap[x]? := fun hx hne => hF.block _ hx (by simpa using hne)
  refine ⟨h.tab.keep (kp (lt_of_block h.tab) (ne_of_type h.tab hb (Ne.symm h1))), h.all.keep (fun g hg => ?_), h.nam.keep (fun g hg => ?_), ⟨n, c, hn, hbm.keep (kp hbm.lt (ne_of_map hb hbm).symm)⟩, ⟨n', hn', hp.keep (kp hp.lt (ne_of_map hb hp).symm)⟩, h.le, h.lim, h.ne⟩
  · obtain ⟨cur, e1, _⟩ := h.all.type hg
    exact kp (lt_of_block e1) (ne_of_type e1 hb (Ne.symm h2))
  · obtain ⟨cur, e1, _⟩ := h.nam.type hg
    exact kp (lt_of_block e1) (ne_of_type e1 hb (Ne.symm h3))

theorem store_place (h : Rep wx B tb mb mp aS nS ls (pfm pf i) pa 0 m) (hs : Side w wx B tb mb mp pb qb lb n pf pa i i i) (hi : i < n) :
    (∃ v, wx.cell? ⟨pb, i, none⟩ = some v) ∧ wx.frozen? ⟨pb, i, none⟩ = false ∧ Rep (wx.setCell ⟨pb, i, none⟩ (.int .i32 (i : Int))) B tb mb mp aS nS ls (pfm pf i) pa 0 m ∧ Side w (wx.setCell ⟨pb, i, none⟩ (.int .i32 (i : Int))) B tb mb mp pb qb lb n pf pa (i + 1) i i := by
  obtain ⟨cs, p1, p2, p3⟩ := hs.pls
  obtain ⟨cs', q1, q2, q3⟩ := hs.pos
  obtain ⟨nn, hnn, hM⟩ := hs.mpn
  have hF : Fr [pb] wx (wx.setCell ⟨pb, i, none⟩ (.int .i32 (i : Int))) := (Fr.refl [pb] wx).setCell _ (fun _ => by simp)
  have kp : ∀ (b : Nat) (cs : Array Value) (t : TypeId), wx.heap[b]? = some (Obj.cells cs t (0, 0)) → t ≠ 26 → (wx.setCell ⟨pb, i, none⟩ (.int .i32 (i : Int))).heap[b]? = wx.heap[b]? := fun b cs t hb ht => set_other _ (ne_of_type hb p1 ht)
  refine ⟨⟨cs[i]'(by omega), by rw [(cell_block p1 i).1]; simp⟩, (cell_block p1 i).2, h.keepT hF p1 (by decide) (by decide) (by decide),
    ⟨⟨_, set_block p1 i _, by simpa using p2, fun j hj => ?_⟩, ⟨cs', (kp _ _ _ q1 (by decide)).trans q1, q2, q3⟩, (kp _ _ _ hs.log (by decide)).trans hs.log,
      fun j hj => (hs.box j hj).later hF.size (fun b cs t hb ht => kp b cs t hb (by rcases ht with rfl | rfl | rfl <;> decide)), hF.below hs.bel hs.big.1 (by simpa using hs.big.2.2.2.2.1), ⟨nn, hnn, hM.keep (hF.block mp hM.lt (by simpa using (ne_of_map p1 hM).symm))⟩, Nat.le_trans hs.big.1 hF.size, hs.big.2⟩⟩
  rw [Array.getElem?_setIfInBounds]
  by_cases e : j = i
  · subst e; simp; omega
  · rw [if_neg (by omega)]; exact p3 j (by omega)

theorem store_pushed (hpi : pf i = true) (h : Rep wx B tb mb mp aS nS ls (pfm pf i) pa 0 m) (hs : Side w wx B tb mb mp pb qb lb n pf pa (i + 1) i i) (hi : i < n) :
    (∃ v, wx.cell? ⟨qb, i, none⟩ = some v) ∧ wx.frozen? ⟨qb, i, none⟩ = false ∧ Rep (wx.setCell ⟨qb, i, none⟩ (.bool true)) B tb mb mp aS nS ls (pfm pf i) pa 0 m ∧ Side w (wx.setCell ⟨qb, i, none⟩ (.bool true)) B tb mb mp pb qb lb n pf pa (i + 1) (i + 1) i := by
  obtain ⟨cs, p1, p2, p3⟩ := hs.pls
  obtain ⟨cs', q1, q2, q3⟩ := hs.pos
  obtain ⟨nn, hnn, hM⟩ := hs.mpn
  have hF : Fr [qb] wx (wx.setCell ⟨qb, i, none⟩ (.bool true)) := (Fr.refl [qb] wx).setCell _ (fun _ => by simp)
  have kp : ∀ (b : Nat) (cs : Array Value) (t : TypeId), wx.heap[b]? = some (Obj.cells cs t (0, 0)) → t ≠ 4 → (wx.setCell ⟨qb, i, none⟩ (.bool true)).heap[b]? = wx.heap[b]? := fun b cs t hb ht => set_other _ (ne_of_type hb q1 ht)
  refine ⟨⟨cs'[i]'(by omega), by rw [(cell_block q1 i).1]; simp⟩, (cell_block q1 i).2, h.keepT hF q1 (by decide) (by decide) (by decide),
    ⟨⟨cs, (kp _ _ _ p1 (by decide)).trans p1, p2, p3⟩, ⟨_, set_block q1 i _, by simpa using q2, fun j hj => ?_⟩, (kp _ _ _ hs.log (by decide)).trans hs.log,
      fun j hj => (hs.box j hj).later hF.size (fun b cs t hb ht => kp b cs t hb (by rcases ht with rfl | rfl | rfl <;> decide)), hF.below hs.bel hs.big.1 (by simpa using hs.big.2.2.2.2.2.1), ⟨nn, hnn, hM.keep (hF.block mp hM.lt (by simpa using (ne_of_map q1 hM).symm))⟩, Nat.le_trans hs.big.1 hF.size, hs.big.2⟩⟩
  rw [Array.getElem?_setIfInBounds]
  by_cases e : i = j
  · subst e; rw [if_pos rfl, if_pos (by omega)]; simp [pfm, hpi]
  · rw [if_neg e, q3 j hj]
    have : decide (j < i + 1) = decide (j < i) := by by_cases h : j < i <;> simp [h] <;> omega
    simp [pfm, this]

theorem pfm_skip (hpi : pf i = false) : pfm pf (i + 1) = pfm pf i := by
  funext j
  unfold pfm
  by_cases e : j = i
  · subst e; simp [hpi]
  · have : decide (j < i + 1) = decide (j < i) := by by_cases h : j < i <;> simp [h] <;> omega
    rw [this]

theorem pmap_more (pf : Nat → Bool) (pa : Nat → Nat) (i : Nat) : pmap (pfm pf i) pa 0 (i + 1) = pmap (pfm pf i) pa 0 i := by
  funext key
  unfold pmap
  by_cases e : key = i + 1
  · subst e; simp [pfm]
  · by_cases h : 0 < key ∧ key ≤ i ∧ pfm pf i (key - 1) = true
    · rw [if_pos h, if_pos ⟨h.1, by omega, h.2.2⟩]
    · rw [if_neg h, if_neg (fun h' => h ⟨h'.1, by omega, h'.2.2⟩)]

theorem cntP_more (pf : Nat → Bool) (i : Nat) : cntP (pfm pf i) 0 (i + 1) = cntP (pfm pf i) 0 i := by
  simp [cntP, pfm]

theorem no_push (hpi : pf i = false) (h : Rep wx B tb mb mp aS nS ls (pfm pf i) pa 0 (i + 1)) (hs : Side w wx B tb mb mp pb qb lb n pf pa (i + 1) i i) :
    Rep wx B tb mb mp aS nS ls (pfm pf (i + 1)) pa 0 (i + 1) ∧ Side w wx B tb mb mp pb qb lb n pf pa (i + 1) (i + 1) (i + 1) := by
  obtain ⟨nn, hnn, hM⟩ := hs.mpn
  have e := pfm_skip hpi
  refine ⟨e ▸ h, ⟨hs.pls, ?_, hs.log, ?_, hs.bel, ⟨nn, by omega, ?_⟩, hs.big⟩⟩
  · rw [e]; exact hs.pos
  · rw [e]; exact hs.box
  · rw [e, pmap_more, cntP_more]; exact hM

theorem cntP_congr {p q : Nat → Bool} (k : Nat) : ∀ m, (∀ j, j < m → p j = q j) → cntP p k m = cntP q k m
  | 0, _ => rfl
  | m + 1, h => by
    unfold cntP
    rw [cntP_congr k m (fun j hj => h j (by omega)), h m (by omega)]

theorem push_done {c0 nn : Nat} (hpi : pf i = true) (h : Rep wx B tb mb mp aS nS ls (pfm pf i) pa 0 (i + 1)) (hs : Side w wx B tb mb mp pb qb lb n pf pa (i + 1) (i + 1) i) (hnn : nn ≤ i) (hF : Fr [mp] wx wy)
    (hM : MapIs wy mp (nn + 1) (fun x => if x = i + 1 then some (.pointer (some ⟨c0, 0, none⟩)) else pmap (pfm pf i) pa 0 i x) (if (pmap (pfm pf i) pa 0 i (i + 1)).isSome then cntP (pfm pf i) 0 i else cntP (pfm pf i) 0 i + 1))
    (hb : BoxIs wy wy.heap.size c0 lb i) :
    Rep wy B tb mb mp aS nS ls (pfm pf (i + 1)) (fun j => if j = i then c0 else pa j) 0 (i + 1) ∧ Side w wy B tb mb mp pb qb lb n pf (fun j => if j = i then c0 else pa j) (i + 1) (i + 1) (i + 1) := by
  obtain ⟨n1, c1, hn1, hbm⟩ := h.byh
  obtain ⟨n2, hn2, hp⟩ := h.psh
  obtain ⟨cs, p1, p2, p3⟩ := hs.pls
  obtain ⟨cs', q1, q2, q3⟩ := hs.pos
  have kp : ∀ {x : Nat}, x < wx.heap.size → x ≠ mp → wy.heap[x]? = wx.heap[x]? := fun hx hne => hF.block _ hx (by simpa using hne)
  have kc : ∀ (b : Nat) (cs : Array Value) (t : TypeId), wx.heap[b]? = some (Obj.cells cs t (0, 0)) → wy.heap[b]? = wx.heap[b]? := fun b cs t hb => kp (lt_of_block hb) (ne_of_map hb hp)
  have hM' : MapIs wy mp (nn + 1) (pmap (pfm pf (i + 1)) (fun j => if j = i then c0 else pa j) 0 (i + 1)) (cntP (pfm pf (i + 1)) 0 (i + 1)) := by
    have e1 : pmap (pfm pf i) pa 0 i (i + 1) = none := by unfold pmap; rw [if_neg (by omega)]
    have e2 : cntP (pfm pf (i + 1)) 0 (i + 1) = cntP (pfm pf i) 0 i + 1 := by
      have := cntP_congr (p := pfm pf (i + 1)) (q := pfm pf i) 0 i (fun j hj => by simp [pfm, hj, show j < i + 1 by omega])
      simp [cntP, this, pfm, hpi]
    rw [e1] at hM
    rw [e2]
    refine hM.congr (fun key => ?_)
    by_cases e : key = i + 1
    · subst e
      simp [pmap, pfm, hpi]
    · rw [if_neg e]
      unfold pmap
      by_cases hk : 0 < key ∧ key ≤ i ∧ pfm pf i (key - 1) = true
      · have hk3 := hk.2.2
        simp [pfm] at hk3
        rw [if_pos hk, if_pos ⟨hk.1, by omega, by simp [pfm, hk3.2]; omega⟩]
        show _ = some (Value.pointer (some ⟨if key - 1 = i then c0 else pa (key - 1), 0, none⟩))
        rw [if_neg (by omega)]
      · rw [if_neg hk, if_neg (fun h' => hk ⟨h'.1, by omega, ?_⟩)]
        have h3 := h'.2.2
        simp [pfm] at h3 ⊢
        exact ⟨by omega, h3.2⟩
  refine ⟨⟨h.tab.keep (kc _ _ _ h.tab), h.all.keep (fun g hg => ?_), h.nam.keep (fun g hg => ?_), ⟨n1, c1, hn1, hbm.keep (kp hbm.lt h.ne)⟩, ⟨nn + 1, by omega, hM'⟩, h.le, h.lim, h.ne⟩,
    ⟨⟨cs, (kc _ _ _ p1).trans p1, p2, p3⟩, ⟨cs', (kc _ _ _ q1).trans q1, q2, q3⟩, (kc _ _ _ hs.log).trans hs.log, fun j hj => ?_, hF.below hs.bel hs.big.1 (by simpa using hs.big.2.2.2.1), ⟨nn + 1, by omega, hM'⟩, Nat.le_trans hs.big.1 hF.size, hs.big.2⟩⟩
  · obtain ⟨cur, e1, _⟩ := h.all.type hg
    exact kc _ _ _ e1
  · obtain ⟨cur, e1, _⟩ := h.nam.type hg
    exact kc _ _ _ e1
  · by_cases e : j = i
    · subst e; rw [if_pos rfl]; exact hb
    · rw [if_neg e]
      refine (hs.box j ?_).later hF.size (fun b cs t hb _ => kc b cs t hb)
      simp [pfm] at hj ⊢
      exact ⟨by omega, hj.2⟩

theorem BoxIs.other {w w' : World} {S S' c0 lb i b : Nat} (h : BoxIs w S c0 lb i) (hS : S ≤ S') (hF : Fr [b] w w') (hb : ∀ cs t f, w.heap[b]? ≠ some (.cells cs t f)) : BoxIs w' S' c0 lb i := by
  obtain ⟨b1, b2, h1, h2, h3, h4, h5, h6⟩ := h
  have kp : ∀ {x : Nat} {cs : Array Value} {t : TypeId}, w.heap[x]? = some (.cells cs t (0, 0)) → w'.heap[x]? = w.heap[x]? := fun {x cs t} hx => hF.block x (lt_of_block hx) (fun hm => by
    simp at hm
    subst hm
    exact hb _ _ _ hx)
  exact ⟨b1, b2, (kp h1).trans h1, (kp h2).trans h2, (kp h3).trans h3, by omega, by omega, by omega⟩

end
end Go.Proofs.Ybulkczpw
