import Derived.Test.YbulkczpwR11
namespace Go.Proofs.Ybulkczpw
open Go.RowKit

theorem sig_parts {o : Oper} {d : Option Tmp} {p : Op} {g : Option (Nat × Bool)} {b : Bool} {ons : List Nat} (h : sig o = (d, p, g, b, ons)) : o.dst = d ∧ o.op = p ∧ o.guard = g ∧ o.after.toList.all (Region.binds .any) = b ∧ o.after.toList.map (·.on) = ons := by
  simpa only [sig, Prod.mk.injEq] using h

theorem i32_self {i : Nat} (h : i < 2147483648) : IntKind.i32.wrap (i : Int) = (i : Int) := by
  rw [IntKind.wrap_i32]
  omega

theorem getD_get (a : Act) (s : Nat) : a.eval (.tmp s) = a.tmps[s]?.getD undef := by simp [Act.eval]

section
variable {N i lb0 lo n lcap : Nat} {lsi : Int} {w w' wr : World} {a0 a : Act} {l : Array Bool} {R : World → Prop}

theorem region11_step {Q : Exit → Act → World → Prop} {ops : Array Oper} {j : Nat} (hk : ops.toList.map sig = sig11) (hsz : 48 ≤ a0.tmps.size) (hN : wr.heap.size = N) (hi : i < 1024) (hin : i < n)
    (h0 : a0.eval (.tmp 0) = .slice (some ⟨lb0, lo, none⟩) n lcap) (h12 : a0.eval (.tmp 12) = .int .i64 (i : Int)) (hc : ∀ wx, Fr [] wr wx → wx.cell? ⟨lb0, lo + i, none⟩ = some (.int .i64 lsi))
    (h : I11 N i lb0 lo n lcap lsi wr a0 R l a w) (hr : j ∈ Region.ready .any ops l) (hj : j < 12) : wpOp Yba.prog ops Q j (I11 N i lb0 lo n lcap lsi wr a0 R (l.setIfInBounds j true)) a w := by
  have id : ∀ (w : World) b C, BlkAt w b C → BlkAt w b C := fun _ _ _ h => h
  have idF : ∀ {w : World}, Fr [] wr w → Fr [] wr w := fun h => h
  obtain rfl | rfl | rfl | rfl | rfl | rfl | rfl | rfl | rfl | rfl | rfl | rfl : j = 0 ∨ j = 1 ∨ j = 2 ∨ j = 3 ∨ j = 4 ∨ j = 5 ∨ j = 6 ∨ j = 7 ∨ j = 8 ∨ j = 9 ∨ j = 10 ∨ j = 11 := by omega
  · obtain ⟨o, ho, hs⟩ := sig_at hk (j := 0) rfl
    obtain ⟨p1, p2, p3, p4, p5⟩ := sig_parts hs
    obtain ⟨r1, r2⟩ := ready_on hr ho p4
    have e12 := h.old (s := 12) (by decide) h12
    refine wpOp_value ho p3 (v := .int .i64 (i : Int)) (w' := w) (by simp [execOp, p2, e12]) ?_
    rw [p1]
    exact h.step hsz hj r1 (by simp) rfl (id w) idF
  · obtain ⟨o, ho, hs⟩ := sig_at hk (j := 1) rfl
    obtain ⟨p1, p2, p3, p4, p5⟩ := sig_parts hs
    obtain ⟨r1, r2⟩ := ready_on hr ho p4
    rw [p5] at r2
    have hop12 := h.open hj r1
    have e : a.eval (.tmp 35) = .int .i64 (i : Int) := h.get (j := 0) (by decide) (r2 0 (by simp)) hop12
    have e' := (getD_get a 35).symm.trans e
    refine wpOp_call ho p3 (f := 8) (args := #[.int .i64 (i : Int)]) (by simp only [execOp, p2]; go_simp) (mkid_any w i (by omega)) ?_
    rintro e' w' ⟨rfl, rfl⟩
    refine ⟨_, rfl, ?_⟩
    rw [p1]
    exact h.step hsz hj r1 (by simpa using r2) ⟨w.heap.size, rfl, by rw [← hN]; exact (h.fr hop12).size, BlkAt.new rfl⟩ (fun b C hb => hb.alloc _) (fun hF => hF.alloc _)
  · obtain ⟨o, ho, hs⟩ := sig_at hk (j := 2) rfl
    obtain ⟨p1, p2, p3, p4, p5⟩ := sig_parts hs
    obtain ⟨r1, r2⟩ := ready_on hr ho p4
    rw [p5] at r2
    have hop12 := h.open hj r1
    have e12 := h.old (s := 12) (by decide) h12
    refine wpOp_value ho p3 (v := .int .i64 (i : Int)) (w' := w) (by simp [execOp, p2, e12]) ?_
    rw [p1]
    exact h.step hsz hj r1 (by simp) rfl (id w) idF
  · obtain ⟨o, ho, hs⟩ := sig_at hk (j := 3) rfl
    obtain ⟨p1, p2, p3, p4, p5⟩ := sig_parts hs
    obtain ⟨r1, r2⟩ := ready_on hr ho p4
    rw [p5] at r2
    have hop12 := h.open hj r1
    have e : a.eval (.tmp 37) = .int .i64 (i : Int) := h.get (j := 2) (by decide) (r2 2 (by simp)) hop12
    have e' := (getD_get a 37).symm.trans e
    refine wpOp_value ho p3 (v := .int .i32 (i : Int)) (w' := w) ?_ ?_
    · simp only [execOp, p2]; go_simp
      exact i32_self (by omega)
    rw [p1]
    exact h.step hsz hj r1 (by simpa using r2) rfl (id w) idF
  · obtain ⟨o, ho, hs⟩ := sig_at hk (j := 4) rfl
    obtain ⟨p1, p2, p3, p4, p5⟩ := sig_parts hs
    obtain ⟨r1, r2⟩ := ready_on hr ho p4
    rw [p5] at r2
    have hop12 := h.open hj r1
    refine wpOp_value ho p3 (v := .slice (some ⟨w.heap.size, 0, none⟩) 1 1) (w' := w.alloc (.cells #[.int .u8 104] 5)) (by simp only [execOp, p2]; go_simp) ?_
    rw [p1]
    exact h.step hsz hj r1 (by simp) ⟨w.heap.size, rfl, by rw [← hN]; exact (h.fr hop12).size, BlkAt.new rfl⟩ (fun b C hb => hb.alloc _) (fun hF => hF.alloc _)
  · obtain ⟨o, ho, hs⟩ := sig_at hk (j := 5) rfl
    obtain ⟨p1, p2, p3, p4, p5⟩ := sig_parts hs
    obtain ⟨r1, r2⟩ := ready_on hr ho p4
    rw [p5] at r2
    have hop12 := h.open hj r1
    obtain ⟨b, e, hNb, hB⟩ := h.get (j := 4) (by decide) (r2 4 (by simp)) hop12
    refine wpOp_value ho p3 (v := .slice (some ⟨b, 0, none⟩) 1 1) (w' := markAt w b) ?_ ?_
    · have := run_markAt w b 1 1
      simp [execOp, p2, e, this]
    rw [p1]
    exact h.step hsz hj r1 (by simpa using r2) ⟨b, rfl, hNb, hB.mark b⟩ (fun b' C hb => hb.mark b) (fun hF => markAt_fr hF (by rw [hN]; exact hNb))
  · obtain ⟨o, ho, hs⟩ := sig_at hk (j := 6) rfl
    obtain ⟨p1, p2, p3, p4, p5⟩ := sig_parts hs
    obtain ⟨r1, r2⟩ := ready_on hr ho p4
    rw [p5] at r2
    have hop12 := h.open hj r1
    refine wpOp_value ho p3 (v := .slice (some ⟨w.heap.size, 0, none⟩) 1 1) (w' := w.alloc (.cells #[.int .u8 114] 5)) (by simp only [execOp, p2]; go_simp) ?_
    rw [p1]
    exact h.step hsz hj r1 (by simp) ⟨w.heap.size, rfl, by rw [← hN]; exact (h.fr hop12).size, BlkAt.new rfl⟩ (fun b C hb => hb.alloc _) (fun hF => hF.alloc _)
  · obtain ⟨o, ho, hs⟩ := sig_at hk (j := 7) rfl
    obtain ⟨p1, p2, p3, p4, p5⟩ := sig_parts hs
    obtain ⟨r1, r2⟩ := ready_on hr ho p4
    rw [p5] at r2
    have hop12 := h.open hj r1
    obtain ⟨b, e, hNb, hB⟩ := h.get (j := 6) (by decide) (r2 6 (by simp)) hop12
    refine wpOp_value ho p3 (v := .slice (some ⟨b, 0, none⟩) 1 1) (w' := markAt w b) ?_ ?_
    · have := run_markAt w b 1 1
      simp [execOp, p2, e, this]
    rw [p1]
    exact h.step hsz hj r1 (by simpa using r2) ⟨b, rfl, hNb, hB.mark b⟩ (fun b' C hb => hb.mark b) (fun hF => markAt_fr hF (by rw [hN]; exact hNb))
  · obtain ⟨o, ho, hs⟩ := sig_at hk (j := 8) rfl
    obtain ⟨p1, p2, p3, p4, p5⟩ := sig_parts hs
    obtain ⟨r1, r2⟩ := ready_on hr ho p4
    rw [p5] at r2
    have hop12 := h.open hj r1
    have e0 := h.old (s := 0) (by decide) h0
    refine wpOp_value ho p3 (v := .slice (some ⟨lb0, lo, none⟩) n lcap) (w' := w) (by simp [execOp, p2, e0]) ?_
    rw [p1]
    exact h.step hsz hj r1 (by simp) rfl (id w) idF
  · obtain ⟨o, ho, hs⟩ := sig_at hk (j := 9) rfl
    obtain ⟨p1, p2, p3, p4, p5⟩ := sig_parts hs
    obtain ⟨r1, r2⟩ := ready_on hr ho p4
    rw [p5] at r2
    have hop12 := h.open hj r1
    have e12 := h.old (s := 12) (by decide) h12
    refine wpOp_value ho p3 (v := .int .i64 (i : Int)) (w' := w) (by simp [execOp, p2, e12]) ?_
    rw [p1]
    exact h.step hsz hj r1 (by simp) rfl (id w) idF
  · obtain ⟨o, ho, hs⟩ := sig_at hk (j := 10) rfl
    obtain ⟨p1, p2, p3, p4, p5⟩ := sig_parts hs
    obtain ⟨r1, r2⟩ := ready_on hr ho p4
    rw [p5] at r2
    have hop12 := h.open hj r1
    have z1 : (0 : Int) ≤ (i : Int) := by omega
    have z2 : (i : Int) < (n : Int) := by omega
    have e8 : a.eval (.tmp 43) = .slice (some ⟨lb0, lo, none⟩) n lcap := h.get (j := 8) (by decide) (r2 8 (by simp)) hop12
    have e8' := (getD_get a 43).symm.trans e8
    have e9 : a.eval (.tmp 44) = .int .i64 (i : Int) := h.get (j := 9) (by decide) (r2 9 (by simp)) hop12
    have e9' := (getD_get a 44).symm.trans e9
    refine wpOp_value ho p3 (v := .pointer (some ⟨lb0, lo + i, none⟩)) (w' := w) (by simp only [execOp, p2]; go_simp) ?_
    rw [p1]
    exact h.step hsz hj r1 (by simpa using r2) rfl (id w) idF
  · obtain ⟨o, ho, hs⟩ := sig_at hk (j := 11) rfl
    obtain ⟨p1, p2, p3, p4, p5⟩ := sig_parts hs
    obtain ⟨r1, r2⟩ := ready_on hr ho p4
    rw [p5] at r2
    have hop12 := h.open hj r1
    have e : a.eval (.tmp 45) = .pointer (some ⟨lb0, lo + i, none⟩) := h.get (j := 10) (by decide) (r2 10 (by simp)) hop12
    have e' := (getD_get a 45).symm.trans e
    have hcc := hc w (h.fr hop12)
    clear hc
    refine wpOp_value ho p3 (v := .int .i64 lsi) (w' := w) (by simp only [execOp, p2]; go_simp) ?_
    rw [p1]
    exact h.step hsz hj r1 (by simpa using r2) rfl (id w) idF

theorem I11.call (h : I11 N i lb0 lo n lcap lsi wr a0 R l a w) (hsz : 48 ≤ a0.tmps.size) (hl : l.getD 12 true = false) (hd : ∀ d ∈ [1, 3, 5, 7, 11, 1], l.getD d false = true) (hR : R w') :
    I11 N i lb0 lo n lcap lsi wr a0 R (l.setIfInBounds 12 true) (a.put (some 47) (.int .i32 (i : Int))) w' := by
  have hjs := (getD_no hl).2
  have hall : ∀ k, k < 12 → l.getD k false = true := by
    have d1 := hd 1 (by simp)
    have d3 := hd 3 (by simp)
    have d5 := hd 5 (by simp)
    have d7 := hd 7 (by simp)
    have d11 := hd 11 (by simp)
    have d10 := h.dep 11 10 (by simp) d11
    intro k hk
    obtain rfl | rfl | rfl | rfl | rfl | rfl | rfl | rfl | rfl | rfl | rfl | rfl : k = 0 ∨ k = 1 ∨ k = 2 ∨ k = 3 ∨ k = 4 ∨ k = 5 ∨ k = 6 ∨ k = 7 ∨ k = 8 ∨ k = 9 ∨ k = 10 ∨ k = 11 := by omega
    · exact h.dep 1 0 (by simp) d1
    · exact d1
    · exact h.dep 3 2 (by simp) d3
    · exact d3
    · exact h.dep 5 4 (by simp) d5
    · exact d5
    · exact h.dep 7 6 (by simp) d7
    · exact d7
    · exact h.dep 10 8 (by simp) d10
    · exact h.dep 10 9 (by simp) d10
    · exact d10
    · exact d11
  have has : 47 < a.tmps.size := by rw [h.off.size]; omega
  have h12' := getD_same (l := l) hjs
  refine ⟨by simpa using h.size, h.off.put (by simp) _, fun hc => (by rw [h12'] at hc; cases hc), fun x d hx hxl => ?_, fun _ => ⟨hR, fun k hk => getD_up hjs (hall k hk)⟩, fun k hk hkl hk12 => ?_⟩
  · refine getD_up hjs ?_
    have hd12 : d < 12 := by simp at hx; omega
    exact hall d hd12
  · rcases Nat.lt_or_ge k 12 with h1 | h1
    · have := hk12 h1
      rw [h12'] at this
      cases this
    · by_cases e : k = 12
      · subst e
        show F11 _ _ _ _ _ _ _ _ ((a.put (some 47) (.int .i32 (i : Int))).tmps.getD 47 undef) 12
        rw [put_same has]
        rfl
      · obtain rfl : k = 13 := by omega
        rw [getD_other (by omega)] at hkl
        have := h.slot 13 (by omega) hkl (by omega)
        show F11 _ _ _ _ _ _ _ _ ((a.put (some 47) (.int .i32 (i : Int))).tmps.getD 13 undef) 13
        rw [put_other (by omega)]
        exact this

theorem I11.last (h : I11 N i lb0 lo n lcap lsi wr a0 R l a w) (hsz : 48 ≤ a0.tmps.size) (hl : l.getD 13 true = false) (h12 : l.getD 12 false = true) :
    I11 N i lb0 lo n lcap lsi wr a0 R (l.setIfInBounds 13 true) (a.put (some 13) (.int .i32 (i : Int))) w := by
  have hjs := (getD_no hl).2
  obtain ⟨hR, hall⟩ := h.fin h12
  have has : 13 < a.tmps.size := by rw [h.off.size]; omega
  have h12' : (l.setIfInBounds 13 true).getD 12 false = true := getD_up hjs h12
  refine ⟨by simpa using h.size, h.off.put (by simp) _, fun hc => (by rw [h12'] at hc; cases hc), fun x d hx hxl => ?_, fun _ => ⟨hR, fun k hk => getD_up hjs (hall k hk)⟩, fun k hk hkl hk12 => ?_⟩
  · refine getD_up hjs ?_
    have hd12 : d < 12 := by simp at hx; omega
    exact hall d hd12
  · rcases Nat.lt_or_ge k 12 with h1 | h1
    · have := hk12 h1
      rw [h12'] at this
      cases this
    · by_cases e : k = 13
      · subst e
        show F11 _ _ _ _ _ _ _ _ ((a.put (some 13) (.int .i32 (i : Int))).tmps.getD 13 undef) 13
        rw [put_same has]
        rfl
      · obtain rfl : k = 12 := by omega
        have := h.slot 12 (by omega) h12 (by omega)
        show F11 _ _ _ _ _ _ _ _ ((a.put (some 13) (.int .i32 (i : Int))).tmps.getD 47 undef) 12
        rw [put_other (by omega)]
        exact this

theorem slice_num {b b' m m' c c' : Nat} (h : Value.slice (some ⟨b, 0, none⟩) m c = Value.slice (some ⟨b', 0, none⟩) m' c') : b = b' := by
  cases h; rfl

/-- REGION 11, whichever order is drawn: 'add' is called once, and its answer lies in slot 13. -/
theorem region11 {Q : Exit → Act → World → Prop} {id : Nat} {ops : Array Oper} {p8 : Value} (hk : ops.toList.map sig = sig11) (hsz : 48 ≤ a0.tmps.size) (hi : i < 1024) (hin : i < n)
    (h0 : a0.eval (.tmp 0) = .slice (some ⟨lb0, lo, none⟩) n lcap) (h8 : a0.eval (.tmp 8) = p8) (h12 : a0.eval (.tmp 12) = .int .i64 (i : Int)) (hc : ∀ wx, Fr [] wr wx → wx.cell? ⟨lb0, lo + i, none⟩ = some (.int .i64 lsi))
    (hadd : ∀ wx ib hb rb, Fr [] wr wx → BlkAt wx ib (idC i) → BlkAt wx hb #[.int .u8 104] → BlkAt wx rb #[.int .u8 114] → wr.heap.size ≤ ib → wr.heap.size ≤ hb → wr.heap.size ≤ rb →
      Calls Yba.prog 7 #[p8, .slice (some ⟨ib, 0, none⟩) 3 3, .int .i32 (i : Int), .slice (some ⟨hb, 0, none⟩) 1 1, .slice (some ⟨rb, 0, none⟩) 1 1, .int .i64 lsi] wx fun e w' => e = .returned (.int .i32 (i : Int)) ∧ R w')
    (hQ : ∀ a' w', Off L11 a0 a' → a'.tmps.getD 13 undef = .int .i32 (i : Int) → R w' → Q .normal a' w') : (Code.region id ops true).wp Yba.prog Q a0 wr := by
  have hops : ops.size = 14 := by
    have := congrArg List.length hk
    simpa using this
  refine wp_region_inv (by kernel_rfl) (I11 wr.heap.size i lb0 lo n lcap lsi wr a0 R) ?_ ?_ ?_
  · rw [hops]
    have hn : ∀ k, (Array.replicate 14 false).getD k false = false := fun k => by simp [Array.getElem?_replicate]; split <;> rfl
    exact ⟨by simp, Off.refl _ _, fun _ => (Fr.refl [] wr).drew, fun j d _ hj => (by rw [hn] at hj; cases hj), fun hj => (by rw [hn] at hj; cases hj), fun j _ hj _ => (by rw [hn] at hj; cases hj)⟩
  · intro l a w h hr
    have L : ∀ (j : Nat) (x : Option Tmp × Op × Option (Nat × Bool) × Bool × List Nat), sig11[j]? = some x → (∀ d ∈ x.2.2.2.2, l.getD d false = true) → l.getD j false = true := fun j x hx hd => by
      obtain ⟨o, ho, hs⟩ := sig_at hk hx
      obtain ⟨d, p, g, b, ons⟩ := x
      obtain ⟨p1, p2, p3, p4, p5⟩ := sig_parts hs
      refine end_on hr ho ?_ (by rw [p5]; exact hd)
      have := (Array.getElem?_eq_some_iff.1 ho).1
      rw [h.size]; omega
    have l0 := L 0 _ rfl (by simp)
    have l2 := L 2 _ rfl (by simp)
    have l4 := L 4 _ rfl (by simp)
    have l6 := L 6 _ rfl (by simp)
    have l8 := L 8 _ rfl (by simp)
    have l9 := L 9 _ rfl (by simp)
    have l1 := L 1 _ rfl (by simpa using l0)
    have l3 := L 3 _ rfl (by simpa using l2)
    have l5 := L 5 _ rfl (by simpa using l4)
    have l7 := L 7 _ rfl (by simpa using l6)
    have l10 := L 10 _ rfl (by simp at l8 l9; simp [l8, l9])
    have l11 := L 11 _ rfl (by simpa using l10)
    have l12 := L 12 _ rfl (by simp at l1 l3 l5 l7 l11; simp [l1, l3, l5, l7, l11])
    have l13 := L 13 _ rfl (by simp at l0 l1 l2 l3 l4 l5 l6 l7 l8 l9 l10 l11 l12; simp [l0, l1, l2, l3, l4, l5, l6, l7, l8, l9, l10, l11, l12])
    exact hQ a w h.off (h.slot 13 (by omega) l13 (by omega)) (h.fin l12).1
  · intro l a w j h hr
    have hj : j < 14 := by
      obtain ⟨_, o, ho, _⟩ := mem_ready.1 hr
      have := (Array.getElem?_eq_some_iff.1 ho).1
      omega
    by_cases hj12 : j < 12
    · exact region11_step hk hsz rfl hi hin h0 h12 hc h hr hj12
    · obtain rfl | rfl : j = 12 ∨ j = 13 := by omega
      · obtain ⟨o, ho, hs⟩ := sig_at hk (j := 12) rfl
        obtain ⟨p1, p2, p3, p4, p5⟩ := sig_parts hs
        obtain ⟨r1, r2⟩ := ready_on hr ho p4
        rw [p5] at r2
        have hop := (getD_no r1).1
        obtain ⟨ib, e1, n1, b1⟩ := h.get (j := 1) (by decide) (r2 1 (by simp)) hop
        have e3 : a.eval (.tmp 38) = .int .i32 (i : Int) := h.get (j := 3) (by decide) (r2 3 (by simp)) hop
        obtain ⟨hb, e5, n5, b5⟩ := h.get (j := 5) (by decide) (r2 5 (by simp)) hop
        obtain ⟨rb, e7, n7, b7⟩ := h.get (j := 7) (by decide) (r2 7 (by simp)) hop
        have e11 : a.eval (.tmp 46) = .int .i64 lsi := h.get (j := 11) (by decide) (r2 11 (by simp)) hop
        have e8 := h.old (s := 8) (by decide) h8
        have f1 := (getD_get a 36).symm.trans e1
        have f3 := (getD_get a 38).symm.trans e3
        have f5 := (getD_get a 40).symm.trans e5
        have f7 := (getD_get a 42).symm.trans e7
        have f11 := (getD_get a 46).symm.trans e11
        have f8 := (getD_get a 8).symm.trans e8
        refine wpOp_call ho p3 (f := 7) (args := #[p8, .slice (some ⟨ib, 0, none⟩) 3 3, .int .i32 (i : Int), .slice (some ⟨hb, 0, none⟩) 1 1, .slice (some ⟨rb, 0, none⟩) 1 1, .int .i64 lsi]) ?_ (hadd w ib hb rb (h.fr hop) b1 b5 b7 n1 n5 n7) ?_
        · simp only [execOp, p2]
          clear h hc hadd hQ hk hs hr r2
          go_simp
        · rintro e' w' ⟨rfl, hR⟩
          refine ⟨_, rfl, ?_⟩
          rw [p1]
          exact h.call hsz r1 r2 hR
      · obtain ⟨o, ho, hs⟩ := sig_at hk (j := 13) rfl
        obtain ⟨p1, p2, p3, p4, p5⟩ := sig_parts hs
        obtain ⟨r1, r2⟩ := ready_on hr ho p4
        rw [p5] at r2
        have h12' := r2 12 (by simp)
        have e : a.eval (.tmp 47) = .int .i32 (i : Int) := h.slot 12 (by omega) h12' (by omega)
        refine wpOp_value ho p3 (v := .int .i32 (i : Int)) (w' := w) (by simp [execOp, p2, e]) ?_
        rw [p1]
        exact h.last hsz r1 h12'
end
end Go.Proofs.Ybulkczpw
