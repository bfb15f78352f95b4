import Derived.Test.YbulkczpwR12
namespace Go.Proofs.Ybulkczpw
open Go.RowKit

theorem wpOp_skip {P : Program} {ops : Array Oper} {Q : Exit → Act → World → Prop} {i : Nat} {o : Oper} {a : Act} {w w' : World} {K : Act → World → Prop} (ho : ops[i]? = some o) (hg : o.guard = none) (hrun : (execOp a.eval o).run P w = .ok .skip w') (hK : K (a.put o.dst undef) w') : wpOp P ops Q i K a w := by
  unfold wpOp
  simp only [ho]
  have hw : Region.wanted o (yielded ops a.tmps) = true := by simp [Region.wanted, hg]
  rw [if_pos hw]
  refine .inl ?_
  unfold Oper.wp
  rw [hrun]
  exact hK

abbrev L17 : List Nat := [69, 70, 71, 72, 73, 74, 75, 76, 77, 78, 79, 80]

abbrev sig17 : List (Option Tmp × Op × Option (Nat × Bool) × Bool × List Nat) := [
  (some 69, .fieldAddr 32 (.tmp 8) 11, none, true, []),
  (some 70, .load 27 (.tmp 69), none, true, [0]),
  (some 71, .fieldAddr 32 (.tmp 8) 2, none, true, []),
  (some 72, .load 28 (.tmp 71), none, true, [2]),
  (some 73, .move (.tmp 13), none, true, []),
  (some 74, .indexAddr 28 (.tmp 72) (.tmp 73), none, true, [3, 4]),
  (some 75, .fieldAddr 54 (.tmp 74) 5, none, true, [5]),
  (some 76, .load 29 (.tmp 75), none, true, [6]),
  (some 77, .move (.tmp 12), none, true, []),
  (some 78, .call { callee := .value (.func 9), args := #[.tmp 11, .tmp 77], argTypes := #[41, 3] }, none, true, [8]),
  (some 79, .build 52 #[(3, .tmp 78)], none, true, [9]),
  (some 80, .box 52 (.tmp 79), none, true, [10]),
  (none, .mapUpdate 27 (.tmp 70) (.tmp 76) (.tmp 80), none, true, [1, 7, 11, 9, 0, 1, 2, 3, 4, 5, 6, 7, 8, 9, 10, 11])]

def F17 (tb mp ab cap lb i : Nat) (w : World) (v : Value) : Nat → Prop
  | 0 => v = .pointer (some ⟨tb, 11, none⟩)
  | 1 => v = .map (some mp)
  | 2 => v = .pointer (some ⟨tb, 2, none⟩)
  | 3 => v = .slice (some ⟨ab, 0, none⟩) (i + 1) cap
  | 4 => v = .int .i32 (i : Int)
  | 5 => v = .pointer (some ⟨ab, i * 12, none⟩)
  | 6 => v = .pointer (some ⟨ab, i * 12 + 5, none⟩)
  | 7 => v = .int .u64 ((i : Int) + 1)
  | 8 => v = .int .i64 (i : Int)
  | 9 => ∃ b1 b2, v = stopF b1 b2 ∧ w.heap[b1]? = some (.cells #[.pointer (some ⟨lb, 0, none⟩)] 41 (0, 0)) ∧ w.heap[b2]? = some (.cells #[.int .i64 (i : Int)] 3 (0, 0))
  | 10 => ∃ b1 b2, v = .agg (pcells b1 b2) ∧ w.heap[b1]? = some (.cells #[.pointer (some ⟨lb, 0, none⟩)] 41 (0, 0)) ∧ w.heap[b2]? = some (.cells #[.int .i64 (i : Int)] 3 (0, 0))
  | 11 => ∃ c0, v = .pointer (some ⟨c0, 0, none⟩) ∧ BoxIs w w.heap.size c0 lb i
  | _ => True

section
variable {tb mp ab cap lb i : Nat} {w w' wr : World} {a0 a : Act} {l : Array Bool} {R : World → Prop}

theorem BoxIs.fr {c0 : Nat} (h : BoxIs w w.heap.size c0 lb i) (hF : Fr [] w w') : BoxIs w' w'.heap.size c0 lb i :=
  h.later hF.size (fun b _ _ hb _ => hF.block b (lt_of_block hb) (by simp))

theorem F17.mono (hF : Fr [] w w') {v : Value} : ∀ {k : Nat}, F17 tb mp ab cap lb i w v k → F17 tb mp ab cap lb i w' v k
  | 0, h => h
  | 1, h => h
  | 2, h => h
  | 3, h => h
  | 4, h => h
  | 5, h => h
  | 6, h => h
  | 7, h => h
  | 8, h => h
  | 9, ⟨b1, b2, h1, h2, h3⟩ => ⟨b1, b2, h1, (hF.block b1 (lt_of_block h2) (by simp)).trans h2, (hF.block b2 (lt_of_block h3) (by simp)).trans h3⟩
  | 10, ⟨b1, b2, h1, h2, h3⟩ => ⟨b1, b2, h1, (hF.block b1 (lt_of_block h2) (by simp)).trans h2, (hF.block b2 (lt_of_block h3) (by simp)).trans h3⟩
  | 11, ⟨c0, h1, h2⟩ => ⟨c0, h1, h2.fr hF⟩
  | _ + 12, h => h

/-- What holds whichever operations of region 17 have come up. -/
structure I17 (tb mp ab cap lb i : Nat) (wr : World) (a0 : Act) (R : World → Prop) (l : Array Bool) (a : Act) (w : World) : Prop where
  size : l.size = 13
  off : Off L17 a0 a
  fr : l.getD 12 false = false → Fr [] wr w
  fin : l.getD 12 false = true → R w ∧ ∀ k, k < 12 → l.getD k false = true
  slot : ∀ j, j < 12 → l.getD j false = true → l.getD 12 false = false → F17 tb mp ab cap lb i w (a.tmps.getD (69 + j) undef) j

theorem I17.open (h : I17 tb mp ab cap lb i wr a0 R l a w) {j : Nat} (hj : j < 12) (hl : l.getD j true = false) : l.getD 12 false = false := by
  cases h12 : l.getD 12 false with
  | false => rfl
  | true =>
    have := (h.fin h12).2 j hj
    rw [(getD_no hl).1] at this
    cases this

theorem I17.step (h : I17 tb mp ab cap lb i wr a0 R l a w) (hsz : 81 ≤ a0.tmps.size) {j : Nat} (hj : j < 12) (hl : l.getD j true = false) {v : Value} (hv : F17 tb mp ab cap lb i w' v j) (hF : Fr [] w w') :
    I17 tb mp ab cap lb i wr a0 R (l.setIfInBounds j true) (a.put (some (69 + j)) v) w' := by
  have h12 := h.open hj hl
  have h12' : (l.setIfInBounds j true).getD 12 false = false := by rw [getD_other (by omega)]; exact h12
  have has : 69 + j < a.tmps.size := by
    rw [h.off.size]
    omega
  refine ⟨by simpa using h.size, h.off.put (by simp; omega) v, fun _ => (h.fr h12).trans hF (by simp), fun hc => ?_, fun k hk hkl _ => ?_⟩
  · rw [h12'] at hc; cases hc
  · by_cases e : j = k
    · subst e; rw [put_same has]; exact hv
    · rw [getD_other e] at hkl
      rw [put_other (by omega)]
      exact (h.slot k hk hkl h12).mono hF

theorem I17.get (h : I17 tb mp ab cap lb i wr a0 R l a w) {j : Nat} (hj : j < 12) (hl : l.getD j false = true) (h12 : l.getD 12 false = false) : F17 tb mp ab cap lb i w (a.tmps[69 + j]?.getD undef) j := by
  have := h.slot j hj hl h12
  simpa using this

theorem I17.old (h : I17 tb mp ab cap lb i wr a0 R l a w) {s : Nat} {v : Value} (hs : s ∉ L17) (h0 : a0.eval (.tmp s) = v) : a.tmps[s]?.getD undef = v := by
  rw [← h0, h.off.same s hs]
  exact (getD_get a0 s).symm

theorem region17_step {Q : Exit → Act → World → Prop} {ops : Array Oper} {j : Nat} (hk : ops.toList.map sig = sig17) (hsz : 81 ≤ a0.tmps.size) (hi : i < 1024)
    (h8 : a0.eval (.tmp 8) = .pointer (some ⟨tb, 0, none⟩)) (h11 : a0.eval (.tmp 11) = .pointer (some ⟨lb, 0, none⟩)) (h12 : a0.eval (.tmp 12) = .int .i64 (i : Int)) (h13 : a0.eval (.tmp 13) = .int .i32 (i : Int))
    (hc : ∀ wx, Fr [] wr wx → wx.cell? ⟨tb, 11, none⟩ = some (.map (some mp)) ∧ wx.cell? ⟨tb, 2, none⟩ = some (.slice (some ⟨ab, 0, none⟩) (i + 1) cap) ∧ wx.cell? ⟨ab, i * 12 + 5, none⟩ = some (.int .u64 ((i : Int) + 1)))
    (h : I17 tb mp ab cap lb i wr a0 R l a w) (hr : j ∈ Region.ready .any ops l) (hj : j < 12) : wpOp Yba.prog ops Q j (I17 tb mp ab cap lb i wr a0 R (l.setIfInBounds j true)) a w := by
  have z1 : (0 : Int) ≤ (i : Int) := by omega
  have z2 : (i : Int) < (i : Int) + 1 := by omega
  have hcw := fun hF => hc w hF
  clear hc
  obtain rfl | rfl | rfl | rfl | rfl | rfl | rfl | rfl | rfl | rfl | rfl | rfl : j = 0 ∨ j = 1 ∨ j = 2 ∨ j = 3 ∨ j = 4 ∨ j = 5 ∨ j = 6 ∨ j = 7 ∨ j = 8 ∨ j = 9 ∨ j = 10 ∨ j = 11 := by omega
  · obtain ⟨o, ho, hs⟩ := sig_at hk (j := 0) rfl
    obtain ⟨p1, p2, p3, p4, p5⟩ := sig_parts hs
    obtain ⟨r1, r2⟩ := ready_on hr ho p4
    rw [p5] at r2
    have hop12 := h.open hj r1
    obtain ⟨c1, c2, c3⟩ := hcw (h.fr hop12)
    have e8' := h.old (s := 8) (by decide) h8
    refine wpOp_value ho p3 (v := .pointer (some ⟨tb, 11, none⟩)) (w' := w) ?_ ?_
    · simp only [execOp, p2]
      clear h hcw hs hk hr r2 ho h8 h11 h12 h13
      go_simp
    · rw [p1]
      exact h.step hsz hj r1 rfl (Fr.refl [] w)
  · obtain ⟨o, ho, hs⟩ := sig_at hk (j := 1) rfl
    obtain ⟨p1, p2, p3, p4, p5⟩ := sig_parts hs
    obtain ⟨r1, r2⟩ := ready_on hr ho p4
    rw [p5] at r2
    have hop12 := h.open hj r1
    obtain ⟨c1, c2, c3⟩ := hcw (h.fr hop12)
    have e0 : a.tmps[69]?.getD undef = .pointer (some ⟨tb, 11, none⟩) := h.get (j := 0) (by decide) (r2 0 (by simp)) hop12
    refine wpOp_value ho p3 (v := .map (some mp)) (w' := w) ?_ ?_
    · simp only [execOp, p2]
      clear h hcw hs hk hr r2 ho h8 h11 h12 h13
      go_simp
    · rw [p1]
      exact h.step hsz hj r1 rfl (Fr.refl [] w)
  · obtain ⟨o, ho, hs⟩ := sig_at hk (j := 2) rfl
    obtain ⟨p1, p2, p3, p4, p5⟩ := sig_parts hs
    obtain ⟨r1, r2⟩ := ready_on hr ho p4
    rw [p5] at r2
    have hop12 := h.open hj r1
    obtain ⟨c1, c2, c3⟩ := hcw (h.fr hop12)
    have e8' := h.old (s := 8) (by decide) h8
    refine wpOp_value ho p3 (v := .pointer (some ⟨tb, 2, none⟩)) (w' := w) ?_ ?_
    · simp only [execOp, p2]
      clear h hcw hs hk hr r2 ho h8 h11 h12 h13
      go_simp
    · rw [p1]
      exact h.step hsz hj r1 rfl (Fr.refl [] w)
  · obtain ⟨o, ho, hs⟩ := sig_at hk (j := 3) rfl
    obtain ⟨p1, p2, p3, p4, p5⟩ := sig_parts hs
    obtain ⟨r1, r2⟩ := ready_on hr ho p4
    rw [p5] at r2
    have hop12 := h.open hj r1
    obtain ⟨c1, c2, c3⟩ := hcw (h.fr hop12)
    have e2 : a.tmps[71]?.getD undef = .pointer (some ⟨tb, 2, none⟩) := h.get (j := 2) (by decide) (r2 2 (by simp)) hop12
    refine wpOp_value ho p3 (v := .slice (some ⟨ab, 0, none⟩) (i + 1) cap) (w' := w) ?_ ?_
    · simp only [execOp, p2]
      clear h hcw hs hk hr r2 ho h8 h11 h12 h13
      go_simp
    · rw [p1]
      exact h.step hsz hj r1 rfl (Fr.refl [] w)
  · obtain ⟨o, ho, hs⟩ := sig_at hk (j := 4) rfl
    obtain ⟨p1, p2, p3, p4, p5⟩ := sig_parts hs
    obtain ⟨r1, r2⟩ := ready_on hr ho p4
    rw [p5] at r2
    have hop12 := h.open hj r1
    obtain ⟨c1, c2, c3⟩ := hcw (h.fr hop12)
    have e13' := h.old (s := 13) (by decide) h13
    refine wpOp_value ho p3 (v := .int .i32 (i : Int)) (w' := w) ?_ ?_
    · simp only [execOp, p2]
      clear h hcw hs hk hr r2 ho h8 h11 h12 h13
      go_simp
    · rw [p1]
      exact h.step hsz hj r1 rfl (Fr.refl [] w)
  · obtain ⟨o, ho, hs⟩ := sig_at hk (j := 5) rfl
    obtain ⟨p1, p2, p3, p4, p5⟩ := sig_parts hs
    obtain ⟨r1, r2⟩ := ready_on hr ho p4
    rw [p5] at r2
    have hop12 := h.open hj r1
    obtain ⟨c1, c2, c3⟩ := hcw (h.fr hop12)
    have e3 : a.tmps[72]?.getD undef = .slice (some ⟨ab, 0, none⟩) (i + 1) cap := h.get (j := 3) (by decide) (r2 3 (by simp)) hop12
    have e4 : a.tmps[73]?.getD undef = .int .i32 (i : Int) := h.get (j := 4) (by decide) (r2 4 (by simp)) hop12
    refine wpOp_value ho p3 (v := .pointer (some ⟨ab, i * 12, none⟩)) (w' := w) ?_ ?_
    · simp only [execOp, p2]
      clear h hcw hs hk hr r2 ho h8 h11 h12 h13
      go_simp
    · rw [p1]
      exact h.step hsz hj r1 rfl (Fr.refl [] w)
  · obtain ⟨o, ho, hs⟩ := sig_at hk (j := 6) rfl
    obtain ⟨p1, p2, p3, p4, p5⟩ := sig_parts hs
    obtain ⟨r1, r2⟩ := ready_on hr ho p4
    rw [p5] at r2
    have hop12 := h.open hj r1
    obtain ⟨c1, c2, c3⟩ := hcw (h.fr hop12)
    have e5 : a.tmps[74]?.getD undef = .pointer (some ⟨ab, i * 12, none⟩) := h.get (j := 5) (by decide) (r2 5 (by simp)) hop12
    refine wpOp_value ho p3 (v := .pointer (some ⟨ab, i * 12 + 5, none⟩)) (w' := w) ?_ ?_
    · simp only [execOp, p2]
      clear h hcw hs hk hr r2 ho h8 h11 h12 h13
      go_simp
    · rw [p1]
      exact h.step hsz hj r1 rfl (Fr.refl [] w)
  · obtain ⟨o, ho, hs⟩ := sig_at hk (j := 7) rfl
    obtain ⟨p1, p2, p3, p4, p5⟩ := sig_parts hs
    obtain ⟨r1, r2⟩ := ready_on hr ho p4
    rw [p5] at r2
    have hop12 := h.open hj r1
    obtain ⟨c1, c2, c3⟩ := hcw (h.fr hop12)
    have e6 : a.tmps[75]?.getD undef = .pointer (some ⟨ab, i * 12 + 5, none⟩) := h.get (j := 6) (by decide) (r2 6 (by simp)) hop12
    refine wpOp_value ho p3 (v := .int .u64 ((i : Int) + 1)) (w' := w) ?_ ?_
    · simp only [execOp, p2]
      clear h hcw hs hk hr r2 ho h8 h11 h12 h13
      go_simp
    · rw [p1]
      exact h.step hsz hj r1 rfl (Fr.refl [] w)
  · obtain ⟨o, ho, hs⟩ := sig_at hk (j := 8) rfl
    obtain ⟨p1, p2, p3, p4, p5⟩ := sig_parts hs
    obtain ⟨r1, r2⟩ := ready_on hr ho p4
    rw [p5] at r2
    have hop12 := h.open hj r1
    obtain ⟨c1, c2, c3⟩ := hcw (h.fr hop12)
    have e12' := h.old (s := 12) (by decide) h12
    refine wpOp_value ho p3 (v := .int .i64 (i : Int)) (w' := w) ?_ ?_
    · simp only [execOp, p2]
      clear h hcw hs hk hr r2 ho h8 h11 h12 h13
      go_simp
    · rw [p1]
      exact h.step hsz hj r1 rfl (Fr.refl [] w)
  · obtain ⟨o, ho, hs⟩ := sig_at hk (j := 9) rfl
    obtain ⟨p1, p2, p3, p4, p5⟩ := sig_parts hs
    obtain ⟨r1, r2⟩ := ready_on hr ho p4
    rw [p5] at r2
    have hop12 := h.open hj r1
    obtain ⟨c1, c2, c3⟩ := hcw (h.fr hop12)
    have e11' := h.old (s := 11) (by decide) h11
    have e8 : a.tmps[77]?.getD undef = .int .i64 (i : Int) := h.get (j := 8) (by decide) (r2 8 (by simp)) hop12
    refine wpOp_call ho p3 (f := 9) (args := #[.pointer (some ⟨lb, 0, none⟩), .int .i64 (i : Int)]) ?_ (mkstop_any w lb i) ?_
    · simp only [execOp, p2]
      clear h hcw hs hk hr r2 ho h8 h11 h12 h13
      go_simp
    · rintro e' w' ⟨rfl, rfl⟩
      refine ⟨_, rfl, ?_⟩
      rw [p1]
      refine h.step hsz hj r1 ⟨w.heap.size, w.heap.size + 1, rfl, ?_, ?_⟩ (((Fr.refl [] w).alloc _).alloc _)
      · rw [Below.heap_alloc _ _ _ (by simp)]
        exact heap_alloc_new w _
      · have := heap_alloc_new (w.alloc (.cells #[.pointer (some ⟨lb, 0, none⟩)] 41)) (.cells #[.int .i64 (i : Int)] 3)
        simpa using this
  · obtain ⟨o, ho, hs⟩ := sig_at hk (j := 10) rfl
    obtain ⟨p1, p2, p3, p4, p5⟩ := sig_parts hs
    obtain ⟨r1, r2⟩ := ready_on hr ho p4
    rw [p5] at r2
    have hop12 := h.open hj r1
    obtain ⟨c1, c2, c3⟩ := hcw (h.fr hop12)
    obtain ⟨b1, b2, e9, k1, k2⟩ := h.get (j := 9) (by decide) (r2 9 (by simp)) hop12
    refine wpOp_value ho p3 (v := .agg (pcells b1 b2)) (w' := w) ?_ ?_
    · simp only [execOp, p2]
      clear h hcw hs hk hr r2 ho h8 h11 h12 h13
      go_simp
    · rw [p1]
      exact h.step hsz hj r1 ⟨b1, b2, rfl, k1, k2⟩ (Fr.refl [] w)
  · obtain ⟨o, ho, hs⟩ := sig_at hk (j := 11) rfl
    obtain ⟨p1, p2, p3, p4, p5⟩ := sig_parts hs
    obtain ⟨r1, r2⟩ := ready_on hr ho p4
    rw [p5] at r2
    have hop12 := h.open hj r1
    obtain ⟨c1, c2, c3⟩ := hcw (h.fr hop12)
    obtain ⟨b1, b2, e10, k1, k2⟩ := h.get (j := 10) (by decide) (r2 10 (by simp)) hop12
    refine wpOp_value ho p3 (v := .pointer (some ⟨w.heap.size, 0, none⟩)) (w' := w.alloc (.cells (pcells b1 b2) 52)) ?_ ?_
    · simp only [execOp, p2]
      clear h hcw hs hk hr r2 ho h8 h11 h12 h13
      go_simp
    · rw [p1]
      have l1 := lt_of_block k1
      have l2 := lt_of_block k2
      refine h.step hsz hj r1 ⟨w.heap.size, rfl, b1, b2, heap_alloc_new w _, (Below.heap_alloc _ _ _ l1).trans k1, (Below.heap_alloc _ _ _ l2).trans k2, by simp, by simp; omega, by simp; omega⟩ ((Fr.refl [] w).alloc _)

/-- REGION 17, whichever order is drawn: the push. -/
theorem region17 {Q : Exit → Act → World → Prop} {id : Nat} {ops : Array Oper} (hk : ops.toList.map sig = sig17) (hsz : 81 ≤ a0.tmps.size) (hi : i < 1024)
    (h8 : a0.eval (.tmp 8) = .pointer (some ⟨tb, 0, none⟩)) (h11 : a0.eval (.tmp 11) = .pointer (some ⟨lb, 0, none⟩)) (h12 : a0.eval (.tmp 12) = .int .i64 (i : Int)) (h13 : a0.eval (.tmp 13) = .int .i32 (i : Int))
    (hc : ∀ wx, Fr [] wr wx → wx.cell? ⟨tb, 11, none⟩ = some (.map (some mp)) ∧ wx.cell? ⟨tb, 2, none⟩ = some (.slice (some ⟨ab, 0, none⟩) (i + 1) cap) ∧ wx.cell? ⟨ab, i * 12 + 5, none⟩ = some (.int .u64 ((i : Int) + 1)))
    (hput : ∀ wx c0, Fr [] wr wx → BoxIs wx wx.heap.size c0 lb i → ∃ w7, (Instr.mapUpdate 27 (.map (some mp)) (.int .u64 ((i : Int) + 1)) (.pointer (some ⟨c0, 0, none⟩))).run Yba.prog wx = .ok () w7 ∧ R w7)
    (hQ : ∀ a' w', Off L17 a0 a' → R w' → Q .normal a' w') : (Code.region id ops true).wp Yba.prog Q a0 wr := by
  have hops : ops.size = 13 := by
    have := congrArg List.length hk
    simpa using this
  refine wp_region_inv (by kernel_rfl) (I17 tb mp ab cap lb i wr a0 R) ?_ ?_ ?_
  · rw [hops]
    have hn : ∀ k, (Array.replicate 13 false).getD k false = false := fun k => by simp [Array.getElem?_replicate]; split <;> rfl
    exact ⟨by simp, Off.refl _ _, fun _ => (Fr.refl [] wr).drew, fun hj => (by rw [hn] at hj; cases hj), fun j _ hj _ => (by rw [hn] at hj; cases hj)⟩
  · intro l a w h hr
    have L : ∀ (j : Nat) (x : Option Tmp × Op × Option (Nat × Bool) × Bool × List Nat), sig17[j]? = some x → (∀ d ∈ x.2.2.2.2, l.getD d false = true) → l.getD j false = true := fun j x hx hd => by
      obtain ⟨o, ho, hs⟩ := sig_at hk hx
      obtain ⟨d, p, g, b, ons⟩ := x
      obtain ⟨p1, p2, p3, p4, p5⟩ := sig_parts hs
      refine end_on hr ho ?_ (by rw [p5]; exact hd)
      have := (Array.getElem?_eq_some_iff.1 ho).1
      rw [h.size]; omega
    have l0 := L 0 _ rfl (by simp)
    have l2 := L 2 _ rfl (by simp)
    have l4 := L 4 _ rfl (by simp)
    have l8 := L 8 _ rfl (by simp)
    have l1 := L 1 _ rfl (by simpa using l0)
    have l3 := L 3 _ rfl (by simpa using l2)
    have l5 := L 5 _ rfl (by simp at l3 l4; simp [l3, l4])
    have l6 := L 6 _ rfl (by simpa using l5)
    have l7 := L 7 _ rfl (by simpa using l6)
    have l9 := L 9 _ rfl (by simpa using l8)
    have l10 := L 10 _ rfl (by simpa using l9)
    have l11 := L 11 _ rfl (by simpa using l10)
    have l12 := L 12 _ rfl (by simp at l0 l1 l2 l3 l4 l5 l6 l7 l8 l9 l10 l11; simp [l0, l1, l2, l3, l4, l5, l6, l7, l8, l9, l10, l11])
    exact hQ a w h.off (h.fin l12).1
  · intro l a w j h hr
    have hj : j < 13 := by
      obtain ⟨_, o, ho, _⟩ := mem_ready.1 hr
      have := (Array.getElem?_eq_some_iff.1 ho).1
      omega
    by_cases hj12 : j < 12
    · exact region17_step hk hsz hi h8 h11 h12 h13 hc h hr hj12
    · obtain rfl : j = 12 := by omega
      obtain ⟨o, ho, hs⟩ := sig_at hk (j := 12) rfl
      obtain ⟨p1, p2, p3, p4, p5⟩ := sig_parts hs
      obtain ⟨r1, r2⟩ := ready_on hr ho p4
      rw [p5] at r2
      have hop := (getD_no r1).1
      have hjs := (getD_no r1).2
      have e1 : a.tmps[70]?.getD undef = .map (some mp) := h.get (j := 1) (by decide) (r2 1 (by simp)) hop
      have e7 : a.tmps[76]?.getD undef = .int .u64 ((i : Int) + 1) := h.get (j := 7) (by decide) (r2 7 (by simp)) hop
      obtain ⟨c0, e11, hbx⟩ := h.get (j := 11) (by decide) (r2 11 (by simp)) hop
      obtain ⟨w7, hrun, hR⟩ := hput w c0 (h.fr hop) hbx
      refine wpOp_skip ho p3 (w' := w7) ?_ ?_
      · simp only [execOp, p2]
        clear h hc hput hQ hk hs hr r2
        go_simp
      · rw [p1]
        have h12' := getD_same (l := l) hjs
        refine ⟨by simpa using h.size, h.off, fun hc' => (by rw [h12'] at hc'; cases hc'), fun _ => ⟨hR, fun k hk' => getD_up hjs (r2 k ?_)⟩, fun k _ _ hc' => (by rw [h12'] at hc'; cases hc')⟩
        simp; omega
end

section
variable {w wr wx wy : World} {B tb mb mp pb qb lb n : Nat} {pf : Nat → Bool} {pa : Nat → Nat} {ls : Nat → Int} {aS nS : Value} {i c0 : Nat}

theorem push_put (hpi : pf i = true) (hi : i < 1024) (h : Rep wx B tb mb mp aS nS ls (pfm pf i) pa 0 (i + 1)) (hs : Side w wx B tb mb mp pb qb lb n pf pa (i + 1) (i + 1) i) (hF : Fr [] wx wr) (hbx : BoxIs wr wr.heap.size c0 lb i) :
    ∃ w7, (Instr.mapUpdate 27 (.map (some mp)) (.int .u64 ((i : Int) + 1)) (.pointer (some ⟨c0, 0, none⟩))).run Yba.prog wr = .ok () w7 ∧
      ∃ pa', Rep w7 B tb mb mp aS nS ls (pfm pf (i + 1)) pa' 0 (i + 1) ∧ Side w w7 B tb mb mp pb qb lb n pf pa' (i + 1) (i + 1) (i + 1) := by
  obtain ⟨nn, hnn, hM⟩ := hs.mpn
  obtain ⟨w7, hrun, hM7, hT⟩ := (hM.keep (hF.block mp hM.lt (by simp))).put Yba.underlying27 (by omega) (key := i + 1) (by omega) (.pointer (some ⟨c0, 0, none⟩))
  have hF7 : Fr [mp] wx w7 := (hF.mono (by simp)).turned hT (fun _ => by simp)
  have hF8 : Fr [mp] wr w7 := (Fr.refl [mp] wr).turned hT (fun _ => by simp)
  have hnm : ∀ cs t f, wr.heap[mp]? ≠ some (.cells cs t f) := fun cs t f e => ne_of_map e (hM.keep (hF.block mp hM.lt (by simp))) rfl
  exact ⟨w7, by simpa using hrun, _, push_done hpi h hs hnn hF7 hM7 (hbx.other hF8.size hF8 hnm)⟩

/-- What region 17 reads. -/
theorem push_cells {ab cap : Nat} {p : Nat → Bool} (h : Rep wx B tb mb mp (.slice (some ⟨ab, 0, none⟩) (i + 1) cap) nS ls p pa 0 (i + 1)) (hF : Fr [] wx wr) :
    wr.cell? ⟨tb, 11, none⟩ = some (.map (some mp)) ∧ wr.cell? ⟨tb, 2, none⟩ = some (.slice (some ⟨ab, 0, none⟩) (i + 1) cap) ∧ wr.cell? ⟨ab, i * 12 + 5, none⟩ = some (.int .u64 ((i : Int) + 1)) := by
  have hr := h.keep hF
  have a5 := (hr.all.cell (j := i) (f := 5) (by omega) (by decide)).1
  rw [cellS_live (Nat.zero_le _)] at a5
  simp only [live] at a5
  rw [show (((i + 1 : Nat) : Int)) = (i : Int) + 1 by omega] at a5
  exact ⟨hr.tab.cells.2.2.2.2.2.2, hr.tab.cells.1.2.2.1, a5⟩
end
end Go.Proofs.Ybulkczpw
