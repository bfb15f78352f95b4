import Derived.Test.YbulkczpwR1
namespace Go.Proofs.Ybulkczpw
open Go.RowKit

section
variable {w wr wE w' : World} {B B2 S tb mb mp ab nb pb qb lb cap nc n : Nat} {pf p : Nat → Bool} {pa : Nat → Nat} {ls : Nat → Int} {aS nS v2 : Value} {k K : Nat}

theorem All.keep (h : All w B S tb mb mp ab nb lb cap nc ls p pa k n) (hF : Fr [] w w') : All w' B S tb mb mp ab nb lb cap nc ls p pa k n := by
  obtain ⟨lS, h1, h2⟩ := h.log
  refine ⟨h.rep.keep hF, ⟨h.laid.1, h.laid.2.1, h.laid.2.2.1, h.laid.2.2.2.1, h.laid.2.2.2.2.1, h.laid.2.2.2.2.2.1, Nat.le_trans h.laid.2.2.2.2.2.2 hF.size⟩,
    ⟨lS, (hF.block lb (lt_of_block h1) (by simp)).trans h1, owns_fr h2 hF⟩, fun j hj hp => (h.box j hj hp).keep (hF.toS h.laid.2.2.2.2.2.2) (by simp)⟩

/-- What the law carries through its last statements. -/
structure Fin (w wE : World) (B B2 S tb mb mp ab nb lb cap nc pb n : Nat) (ls : Nat → Int) (p : Nat → Bool) (pa : Nat → Nat) (k K : Nat) (v2 : Value) : Prop where
  all : All wE B S tb mb mp ab nb lb cap nc ls p pa k n
  pls : PlIs wE pb n
  row : wE.ownsRow B2 3 1 v2 (logL p K).length (logL p K)
  rowS : ∀ g, v2.ownBlock = some g → g < S
  pbS : pb < S
  bel : Below B w wE
  big : B ≤ S ∧ B ≤ tb ∧ B ≤ mb ∧ B ≤ mp ∧ B ≤ ab ∧ B ≤ lb

theorem Fin.check (h : Fin w wE B B2 S tb mb mp ab nb lb cap nc pb n ls p pa k K v2) (hF : Fr [] wE w') : Fin w w' B B2 S tb mb mp ab nb lb cap nc pb n ls p pa k K v2 :=
  ⟨h.all.keep hF, h.pls.fr hF, owns_fr h.row hF, h.rowS, h.pbS, hF.below h.bel (Nat.le_trans h.big.1 h.all.laid.2.2.2.2.2.2) (by simp), h.big⟩

theorem Fin.expire (h : Fin w wE B B2 S tb mb mp ab nb lb cap nc pb n ls p pa k K v2) (hA : All w' B S tb mb mp ab nb lb cap nc ls p pa K n) (hF : FrS S [tb, mb, mp, ab, lb] wE w') : Fin w w' B B2 S tb mb mp ab nb lb cap nc pb n ls p pa K K v2 := by
  obtain ⟨n1, _, hp⟩ := h.all.rep.psh
  obtain ⟨nB, cB, _, hbm⟩ := h.all.rep.byh
  obtain ⟨cur, hab, _⟩ := h.all.rep.all.open
  obtain ⟨lS, hlb, _⟩ := h.all.log
  have kp : ∀ (b : Nat) (cs : Array Value) (t : TypeId), wE.heap[b]? = some (Obj.cells cs t (0, 0)) → b < S → t ≠ 32 → t ≠ 54 → t ≠ 34 → w'.heap[b]? = wE.heap[b]? := fun b cs t hb hS h1 h2 h3 => hF.block b hS (by
    simp only [List.mem_cons, List.not_mem_nil, or_false, not_or]
    exact ⟨ne_of_type hb h.all.rep.tab h1, ne_of_map hb hbm, ne_of_map hb hp, ne_of_type hb hab h2, ne_of_type hb hlb h3⟩)
  obtain ⟨cs, p1, p2⟩ := h.pls
  refine ⟨hA, ⟨cs, (kp _ _ _ p1 h.pbS (by decide) (by decide) (by decide)).trans p1, p2⟩, ?_, h.rowS, h.pbS, ?_, h.big⟩
  · obtain ⟨r1, r2 | ⟨g, cap', cur', r3, r4, r5, r6⟩⟩ := h.row
    · exact ⟨r1, .inl r2⟩
    · exact ⟨r1, .inr ⟨g, cap', cur', r3, r4, (kp _ _ _ r5 (h.rowS g (by rw [r3]; rfl)) (by decide) (by decide) (by decide)).trans r5, r6⟩⟩
  · refine h.bel.trans ⟨hF.os, hF.tape, hF.output, hF.size, fun x hx => hF.block x (by have := h.big.1; omega) ?_⟩
    have hb := h.big
    simp only [List.mem_cons, List.not_mem_nil, or_false, not_or]
    omega

theorem fin_start (h : Rep wr B tb mb mp aS nS ls (pfm pf n) pa 0 n) (hs : Side w wr B tb mb mp pb qb lb n pf pa n n n) (h0 : 0 < n) (hF : Fr [] wr wE) (hr : wE.ownsRow B2 3 1 v2 (logL (pfm pf n) K).length (logL (pfm pf n) K)) :
    ∃ ab cap nb nc, 5 * n ≤ nc ∧ Fin w wE B B2 wE.heap.size tb mb mp ab nb lb cap nc pb n ls (pfm pf n) pa 0 K v2 := by
  obtain ⟨ab, cap, rfl⟩ := h.all.form h0
  obtain ⟨nb, nc, rfl, hnc, ⟨cur, hnb⟩, _⟩ := h.nam.form h0
  obtain ⟨cura, hab, hBa, _⟩ := h.all.open
  obtain ⟨n1, _, hp⟩ := h.psh
  obtain ⟨nB, cB, _, hbm⟩ := h.byh
  obtain ⟨cs, p1, p2, p3⟩ := hs.pls
  have kp : ∀ (b : Nat), b < wr.heap.size → wE.heap[b]? = wr.heap[b]? := fun b hb => hF.block b hb (by simp)
  have lt : ∀ {b : Nat}, b < wr.heap.size → b < wE.heap.size := fun hb => Nat.lt_of_lt_of_le hb hF.size
  refine ⟨ab, cap, nb, nc, hnc, ⟨⟨h.keep hF, ⟨lt (lt_of_block h.tab), lt hbm.lt, lt hp.lt, lt (lt_of_block hab), lt (lt_of_block hnb), lt (lt_of_block hs.log), Nat.le_refl _⟩, ⟨_, (kp _ (lt_of_block hs.log)).trans hs.log, ?_⟩, fun j hj hpj => ?_⟩,
    ⟨cs, (kp _ (lt_of_block p1)).trans p1, p3⟩, hr, fun g hg => ?_, lt (lt_of_block p1), hF.below hs.bel hs.big.1 (by simp), Nat.le_trans hs.big.1 hF.size, hs.big.2.1, hs.big.2.2.1, hs.big.2.2.2.1, hBa, hs.big.2.2.2.2.2.2⟩⟩
  · exact World.ownsRow_nil _ _ _ _
  · exact (hs.box j hpj).later hF.size (fun b cs t hb _ => kp b (lt_of_block hb))
  · obtain ⟨_, ⟨r1, _⟩ | ⟨g', cap', cur', r3, r4, r5, r6⟩⟩ := hr
    · rw [r1] at hg; cases hg
    · rw [r3] at hg; cases hg; exact lt_of_block r5

theorem log_step (p : Nat → Bool) (j K : Nat) (hj : j < K) (hp : p j = true) : logL p (min (j + 1) K) = logL p (min j K) ++ [.int .i64 (j : Int)] := by
  rw [Nat.min_eq_left (by omega), Nat.min_eq_left (by omega)]
  show logL p j ++ _ = _
  rw [if_pos hp]
theorem log_skip (p : Nat → Bool) (j K : Nat) (hp : p j = false) : logL p (min (j + 1) K) = logL p (min j K) := by
  by_cases hj : j < K
  · rw [Nat.min_eq_left (by omega), Nat.min_eq_left (by omega)]
    show logL p j ++ _ = _
    rw [if_neg (by simp [hp]), List.append_nil]
  · rw [Nat.min_eq_right (by omega), Nat.min_eq_right (by omega)]
theorem log_full (p : Nat → Bool) (j K : Nat) (hj : K ≤ j) : logL p (min (j + 1) K) = logL p (min j K) := by
  rw [Nat.min_eq_right (by omega), Nat.min_eq_right (by omega)]
theorem cnt_skip (p : Nat → Bool) (j K : Nat) (h : ¬(K ≤ j ∧ p j = true)) : cntP p K (j + 1) = cntP p K j := by
  show cntP p K j + _ = _
  rw [if_neg h, Nat.add_zero]
theorem cnt_step (p : Nat → Bool) (j K : Nat) (h : K ≤ j) (hp : p j = true) : cntP p K (j + 1) = cntP p K j + 1 := by
  show cntP p K j + _ = _
  rw [if_pos ⟨h, hp⟩]
theorem cnt_le (p : Nat → Bool) (K : Nat) : ∀ j, cntP p K j ≤ j
  | 0 => Nat.le_refl _
  | j + 1 => by
    have := cnt_le p K j
    show cntP p K j + _ ≤ _
    split <;> omega

/-- The empty row that '[]int{}' makes. -/
theorem row_made (w : World) : (w.alloc (.cells #[] 3)).ownsRow w.heap.size 3 1 (.slice (some ⟨w.heap.size, 0, none⟩) 0 0) 0 [] :=
  ⟨rfl, .inr ⟨w.heap.size, 0, #[], rfl, Nat.le_refl _, heap_alloc_new w _, Nat.le_refl _, Nat.zero_le _, rfl, rfl⟩⟩

/-- The log that is wanted, one more in it. -/
theorem want_post {w3 w4 : World} {o : Obj} {L : List Value} {v : Value} (hF : Fr [] wr w3) (hown : w3.ownsRow wr.heap.size 3 1 v L.length L) (hg : (w3.alloc o).grownBy w4 v.ownBlock) : Fr [] wr w4 :=
  (hF.alloc o).grown hg (fun k e hk => by have := (hown.lt k e).1; omega)
end
end Go.Proofs.Ybulkczpw
