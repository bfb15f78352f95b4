import Derived.Test.YbulkczpwAdd0
namespace Go.Proofs.Ybulkczpw
open Go.RowKit

/-- The pushed among the first i. -/
def pfm (pf : Nat → Bool) (i j : Nat) : Bool := decide (j < i) && pf j

/-- What the law's first loop carries beside the table. -/
structure Side (w wr : World) (B tb mb mp pb qb lb n : Nat) (pf : Nat → Bool) (pa : Nat → Nat) (i i' i'' : Nat) : Prop where
  pls : ∃ cs, wr.heap[pb]? = some (.cells cs 26 (0, 0)) ∧ cs.size = n ∧ ∀ j, j < i → cs[j]? = some (plS j)
  pos : ∃ cs, wr.heap[qb]? = some (.cells cs 4 (0, 0)) ∧ cs.size = n ∧ ∀ j, j < n → cs[j]? = some (.bool (pfm pf i' j))
  log : wr.heap[lb]? = some (.cells #[.slice none 0 0] 34 (0, 0))
  box : ∀ j, pfm pf i'' j = true → BoxIs wr wr.heap.size (pa j) lb j
  bel : Below B w wr
  mpn : ∃ nn, nn ≤ i'' ∧ MapIs wr mp nn (pmap (pfm pf i'') pa 0 i'') (cntP (pfm pf i'') 0 i'')
  big : B ≤ wr.heap.size ∧ B ≤ tb ∧ B ≤ mb ∧ B ≤ mp ∧ B ≤ pb ∧ B ≤ qb ∧ B ≤ lb

section
variable {w wr wx : World} {B tb mb mp pb qb lb n : Nat} {pf : Nat → Bool} {pa : Nat → Nat} {i i' i'' : Nat}

theorem BoxIs.later {S S' pb lb j : Nat} (h : BoxIs wr S pb lb j) (hS : S ≤ S') (hk : ∀ (b : Nat) (cs : Array Value) (t : TypeId), wr.heap[b]? = some (Obj.cells cs t (0, 0)) → (t = 52 ∨ t = 41 ∨ t = 3) → wx.heap[b]? = wr.heap[b]?) : BoxIs wx S' pb lb j := by
  obtain ⟨b1, b2, h1, h2, h3, h4, h5, h6⟩ := h
  exact ⟨b1, b2, (hk pb _ _ h1 (.inl rfl)).trans h1, (hk b1 _ _ h2 (.inr (.inl rfl))).trans h2, (hk b2 _ _ h3 (.inr (.inr rfl))).trans h3, by omega, by omega, by omega⟩

/-- Whatever turns no block of these types leaves them as they are. -/
theorem Side.keep {L : List Nat} (h : Side w wr B tb mb mp pb qb lb n pf pa i i' i'') (hF : Fr L wr wx) (hL : ∀ k ∈ L, B ≤ k ∧ ∀ (cs : Array Value) (t : TypeId), wr.heap[k]? = some (Obj.cells cs t (0, 0)) → (t = 32 ∨ t = 54 ∨ t = 5)) (hmp : mp ∉ L) : Side w wx B tb mb mp pb qb lb n pf pa i i' i'' := by
  have kp : ∀ (b : Nat) (cs : Array Value) (t : TypeId), wr.heap[b]? = some (Obj.cells cs t (0, 0)) → t ≠ 32 → t ≠ 54 → t ≠ 5 → wx.heap[b]? = wr.heap[b]? := fun b cs t hb h1 h2 h3 => hF.block b (lt_of_block hb) (fun hm => by
    rcases (hL b hm).2 cs t hb with e | e | e
    · exact h1 e
    · exact h2 e
    · exact h3 e)
  obtain ⟨cs, p1, p2, p3⟩ := h.pls
  obtain ⟨cs', q1, q2, q3⟩ := h.pos
  obtain ⟨nn, hnn, hM⟩ := h.mpn
  refine ⟨⟨cs, (kp pb _ _ p1 (by decide) (by decide) (by decide)).trans p1, p2, p3⟩, ⟨cs', (kp qb _ _ q1 (by decide) (by decide) (by decide)).trans q1, q2, q3⟩, (kp lb _ _ h.log (by decide) (by decide) (by decide)).trans h.log, fun j hj => (h.box j hj).later hF.size (fun b cs t hb ht => kp b cs t hb (by rcases ht with rfl | rfl | rfl <;> decide) (by rcases ht with rfl | rfl | rfl <;> decide) (by rcases ht with rfl | rfl | rfl <;> decide)), hF.below h.bel h.big.1 (fun k hk => (hL k hk).1), ⟨nn, hnn, hM.keep (hF.block mp hM.lt hmp)⟩, Nat.le_trans h.big.1 hF.size, h.big.2⟩

theorem Side.drewN (h : Side w wr B tb mb mp pb qb lb n pf pa i i' i'') (k : Nat) : Side w (wr.drewN k) B tb mb mp pb qb lb n pf pa i i' i'' := h.keep (L := []) ((Fr.refl _ _).drewN k) (by simp) (by simp)

/-- What 'add' may turn is of those types. -/
theorem addL_types {aS nS : Value} {ls : Nat → Int} {p : Nat → Bool} {k m : Nat} (h : Rep wr B tb mb mp aS nS ls p pa k m) (hB : B ≤ tb ∧ B ≤ mb) : ∀ k ∈ addL tb mb aS nS, B ≤ k ∧ ∀ (cs : Array Value) (t : TypeId), wr.heap[k]? = some (Obj.cells cs t (0, 0)) → (t = 32 ∨ t = 54 ∨ t = 5) := by
  have one : ∀ {b : Nat} {cs cs' : Array Value} {t t' : TypeId}, wr.heap[b]? = some (Obj.cells cs t (0, 0)) → wr.heap[b]? = some (Obj.cells cs' t' (0, 0)) → t = t' := fun h1 h2 => by
    rw [h1] at h2; cases h2; rfl
  intro k hk
  rw [mem_addL] at hk
  obtain ⟨n1, c1, _, hb⟩ := h.byh
  rcases hk with rfl | rfl | hk | hk
  · exact ⟨hB.1, fun cs t ht => .inl (one ht h.tab)⟩
  · exact ⟨hB.2, fun cs t ht => absurd rfl (ne_of_map ht hb)⟩
  · obtain ⟨cur, h1, h2⟩ := h.all.type hk
    exact ⟨h2, fun cs t ht => .inr (.inl (one ht h1))⟩
  · obtain ⟨cur, h1, h2⟩ := h.nam.type hk
    exact ⟨h2, fun cs t ht => .inr (.inr (one ht h1))⟩

theorem addL_mp {aS nS : Value} {ls : Nat → Int} {p : Nat → Bool} {k m : Nat} (h : Rep wr B tb mb mp aS nS ls p pa k m) : mp ∉ addL tb mb aS nS := by
  obtain ⟨n', _, hp⟩ := h.psh
  intro hk
  rw [mem_addL] at hk
  rcases hk with hk | hk | hk | hk
  · exact ne_of_map h.tab hp hk.symm
  · exact h.ne hk.symm
  · obtain ⟨cur, h1, _⟩ := h.all.type hk
    exact ne_of_map h1 hp rfl
  · obtain ⟨cur, h1, _⟩ := h.nam.type hk
    exact ne_of_map h1 hp rfl

theorem pfm_self (pf : Nat → Bool) (i : Nat) : pfm pf i i = false := by simp [pfm]

/-- THE ROUND's 'add', in whatever world that has only grown since the round began. -/
theorem add_round {aS nS : Value} {ls : Nat → Int} {ib hb rb : Nat} (h : Rep wr B tb mb mp aS nS ls (pfm pf i) pa 0 i) (hs : Side w wr B tb mb mp pb qb lb n pf pa i i i) (hi : i < 1024) (hF : Fr [] wr wx)
    (h1 : ∃ fr, wx.heap[ib]? = some (.cells #[.int .u8 (nmB i 0 : Nat), .int .u8 (nmB i 1 : Nat), .int .u8 (nmB i 2 : Nat)] 5 fr)) (h2 : ∃ fr, wx.heap[hb]? = some (.cells #[.int .u8 104] 5 fr)) (h3 : ∃ fr, wx.heap[rb]? = some (.cells #[.int .u8 114] 5 fr))
    (l1 : wr.heap.size ≤ ib) (l2 : wr.heap.size ≤ hb) (l3 : wr.heap.size ≤ rb) :
    Calls Yba.prog 7 #[.pointer (some ⟨tb, 0, none⟩), .slice (some ⟨ib, 0, none⟩) 3 3, .int .i32 (i : Int), .slice (some ⟨hb, 0, none⟩) 1 1, .slice (some ⟨rb, 0, none⟩) 1 1, .int .i64 (ls i)] wx fun e w' => e = .returned (.int .i32 (i : Int)) ∧
      ∃ aS' nS', Rep w' B tb mb mp aS' nS' ls (pfm pf i) pa 0 (i + 1) ∧ Side w w' B tb mb mp pb qb lb n pf pa i i i := by
  have hx := h.keep hF
  have hsx := hs.keep hF (by simp) (by simp)
  have nn : ∀ {b : Nat}, wr.heap.size ≤ b → nS.ownBlock ≠ some b := fun {b} hb e => by
    obtain ⟨cur, h1, _⟩ := h.nam.type e
    have := lt_of_block h1
    omega
  refine (add_any hx hi hsx.big.1 ⟨h1, h2, h3, nn l1, nn l2, nn l3⟩ (pfm_self pf i)).mono ?_
  rintro e w' ⟨rfl, aS', nS', hr, hf⟩
  exact ⟨rfl, aS', nS', hr, hsx.keep hf (addL_types hx ⟨hs.big.2.1, hs.big.2.2.1⟩) (addL_mp hx)⟩
end
end Go.Proofs.Ybulkczpw
