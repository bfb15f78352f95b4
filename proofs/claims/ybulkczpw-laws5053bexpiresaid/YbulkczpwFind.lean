import Derived.Test.YbulkczpwPlain
namespace Go.Proofs.Ybulkczpw
open Go.RowKit

theorem zero26 (w : World) : (zeroValue 26).run Yba.prog w = .ok (.int .i32 0) w := by kernel_rfl

theorem ret_i32 {x y : Int} (h : x = y) : Ending.returned (.int .i32 x) = .returned (.int .i32 y) := by rw [h]

theorem hash_id (w : World) (b o j : Nat) (hc : ∀ i, i < 3 → w.cell? ⟨b, o + i, none⟩ = some (.int .u8 (nmB j i : Int))) :
    Calls Yba.prog 6 #[.slice (some ⟨b, o, none⟩) 3 3] w fun e w' => e = .returned (.int .u64 (hs j : Int)) ∧ w = w' := by
  refine (hash_any w b o (nmB j) (nmB_lt j) hc).mono ?_
  rintro e w' ⟨rfl, rfl⟩
  exact ⟨by rw [sum_nm], rfl⟩

section
variable {w : World} {B tb mb mp : Nat} {aS nS : Value} {ls : Nat → Int} {pf : Nat → Bool} {pa : Nat → Nat} {k m : Nat}

theorem hs_lt (j : Nat) : hs j < 18446744073709551616 := by unfold hs; omega

/-- The first of a hash class. -/
theorem Rep.look (h : Rep w B tb mb mp aS nS ls pf pa k m) (j n : Nat) :
    (Instr.lookup 25 (.map (some mb)) (.int .u64 (hs j : Int)) false).run Yba.prog (w.drewN n) = .ok ((hmap k m (hs j)).getD (.int .i32 0)) (w.drewN n) ∧
    (Instr.lookup 25 (.map (some mb)) (.int .u64 (hs j : Int)) true).run Yba.prog (w.drewN n) = .ok (.tuple #[(hmap k m (hs j)).getD (.int .i32 0), .bool (hmap k m (hs j)).isSome]) (w.drewN n) := by
  obtain ⟨n', c, _, hb⟩ := h.byh
  exact (hb.drewN n).look Yba.underlying25 (zero26 _) (hs_lt j)

set_option maxHeartbeats 400000 in
theorem find_none {i ib : Nat} (h : Rep w B tb mb mp aS nS ls pf pa k m) (hid : ∀ x, x < 3 → w.cell? ⟨ib, 0 + x, none⟩ = some (.int .u8 (nmB i x : Int))) (hl : lastIn k m (hs i) = -1) :
    Calls Yba.prog 18 #[.pointer (some ⟨tb, 0, none⟩), .slice (some ⟨ib, 0, none⟩) 3 3] w fun e w' => e = .returned (.int .i32 (-1)) ∧ ∃ n, w' = w.drewN n := by
  have hlk := fun n => (h.look i n).2
  have e1 : hmap k m (hs i) = none := if_pos hl
  rw [e1] at hlk
  simp only [Option.getD_none, Option.isSome_none] at hlk
  obtain ⟨⟨c0, c1, c2, _⟩, _⟩ := h.tab.cells
  have HI : Hid (∀ x, x < 3 → w.cell? ⟨ib, 0 + x, none⟩ = some (.int .u8 (nmB i x : Int))) := hid
  clear h hid hl e1
  go_enter Yba.func18, Yba.ntmps18
  go_wp2
  go_quiet ((go_at_call 6; refine (hash_id (w.drewN _) ib 0 i HI.out).mono (fun _ _ h => ⟨h.1, _, h.2.symm⟩)))
  go_wp2
  go_ret
  exact ⟨rfl, nq, rfl⟩

/-- The next of the chain. -/
theorem chain_next {q i : Nat} (hh : hs q = hs i) (hge : k ≤ i → i ≤ q) (hne : q ≠ i) :
    (lastIn k q (hs q) = -1 ∧ i < k) ∨ ∃ l : Nat, lastIn k q (hs q) = (l : Int) ∧ k ≤ l ∧ l < q ∧ hs l = hs i ∧ (k ≤ i → i ≤ l) := by
  rcases lastIn_spec k (hs q) q with h1 | ⟨l, h1, h2, h3, h4⟩
  · refine .inl ⟨h1, ?_⟩
    rcases Nat.lt_or_ge i k with h2 | h2
    · exact h2
    · have := hge h2
      have := lastIn_ge h2 hh.symm q (by omega)
      omega
  · refine .inr ⟨l, h1, h2, h3, h4.trans hh, fun h5 => ?_⟩
    have := hge h5
    have := lastIn_ge h5 hh.symm q (by omega)
    omega

set_option maxHeartbeats 800000 in
theorem find_some {i ib l0 : Nat} {r : Int} (hr : r = if i < k then -1 else (i : Int)) (h : Rep w B tb mb mp aS nS ls pf pa k m) (hi : i < 1024) (hid : ∀ x, x < 3 → w.cell? ⟨ib, 0 + x, none⟩ = some (.int .u8 (nmB i x : Int))) (hl : lastIn k m (hs i) = (l0 : Int)) (h1 : k ≤ l0) (h2 : l0 < m) (h3 : hs l0 = hs i) (h4 : k ≤ i → i ≤ l0) :
    Calls Yba.prog 18 #[.pointer (some ⟨tb, 0, none⟩), .slice (some ⟨ib, 0, none⟩) 3 3] w fun e w' => e = .returned (.int .i32 r) ∧ ∃ n, w' = w.drewN n := by
  have hlk := fun n => (h.look i n).2
  have e1 : hmap k m (hs i) = some (.int .i32 (l0 : Int)) := by unfold hmap; rw [hl, if_neg (by omega)]
  rw [e1] at hlk
  simp only [Option.getD_some, Option.isSome_some] at hlk
  obtain ⟨nb, nc, rfl, hn1, _⟩ := h.nam.form (by omega)
  obtain ⟨ab, cap, rfl⟩ := h.all.form (by omega)
  obtain ⟨⟨c0, c1, c2, _⟩, _⟩ := h.tab.cells
  have HI : Hid (∀ x, x < 3 → w.cell? ⟨ib, 0 + x, none⟩ = some (.int .u8 (nmB i x : Int))) := hid
  have HR : Hid (Rep w B tb mb mp (.slice (some ⟨ab, 0, none⟩) m cap) (.slice (some ⟨nb, 0, none⟩) (5 * m) nc) ls pf pa k m) := h
  have hm := h.lim
  have H4 : Hid (k ≤ i → i ≤ l0) := h4
  have HRR : Hid (r = if i < k then -1 else (i : Int)) := hr
  clear h hid hl e1 h4 hr
  go_enter Yba.func18, Yba.ntmps18
  go_wp2
  go_quiet ((go_at_call 6; refine (hash_id (w.drewN _) ib 0 i HI.out).mono (fun _ _ h => ⟨h.1, _, h.2.symm⟩)))
  go_wp2
  clear hlk
  go_loopw [5] (fun p wr => (∃ n, wr = w.drewN n) ∧ ((p = .int .i32 (-1) ∧ i < k) ∨ ∃ q : Nat, p = .int .i32 (q : Int) ∧ k ≤ q ∧ q < m ∧ hs q = hs i ∧ (k ≤ i → i ≤ q))) (fun p _ => (intOf p + 1).toNat)
  case atStart => exact ⟨⟨nq, rfl⟩, .inr ⟨l0, rfl, h1, h2, h3, H4.out⟩⟩
  case round =>
    obtain ⟨⟨n, rfl⟩, ⟨rfl, hik⟩ | ⟨q, rfl, hq1, hq2, hq3, hq4⟩⟩ := hrel
    · go_wp2
      go_ret
      exact ⟨ret_i32 (by rw [HRR.out, if_pos hik]), n, rfl⟩
    · have e1 : ((q : Int) != -1) = true := by simp
      have HQ : Hid (k ≤ i → i ≤ q) := hq4
      clear hq4
      have hd1 : ∀ x, x < 3 → w.cell? ⟨nb, 5 * q + x, none⟩ = some (.int .u8 (nmB q x : Int)) := fun x hx => HR.out.nam.cell hq2 (by omega)
      have HD : Hid (∀ x, x < 3 → w.cell? ⟨nb, 5 * q + x, none⟩ = some (.int .u8 (nmB q x : Int))) := hd1
      have a9 := (HR.out.all.cell (f := 9) hq2 (by decide)).1
      rw [cellS_live hq1] at a9
      simp only [live] at a9
      clear hd1
      go_wp2_with fail
      refine (id_any (p := q) (HR.out.tab.drewN n) (HR.out.all.drewN n) hq2 (cellS_live hq1 0) (cellS_live hq1 1) (by omega) hn1 (by omega)).mono ?_
      rintro e w' ⟨rfl, n', rfl⟩
      go_wp2_with fail
      refine (equal_ids (w := w.drewN (n + n')) (i := q) (j := i) (by omega) (by omega) HD.out HI.out).mono ?_
      rintro e w' ⟨rfl, rfl⟩
      by_cases hqi : q = i
      · rw [decide_eq_true hqi]
        go_wp2
        go_ret
        exact ⟨ret_i32 (by rw [HRR.out, if_neg (by omega)]), n + n', rfl⟩
      · rw [decide_eq_false hqi]
        rcases chain_next hq3 HQ.out hqi with ⟨g1, g2⟩ | ⟨l, g1, g2, g3, g4, g5⟩
        · rw [g1] at a9
          go_wp2
          go_round
          case rel => exact ⟨⟨n + n', rfl⟩, .inl ⟨rfl, g2⟩⟩
          case measure => simp [intOf]
        · rw [g1] at a9
          have G5 : Hid (k ≤ i → i ≤ l) := g5
          clear g5
          go_wp2
          go_round
          case rel => exact ⟨⟨n + n', rfl⟩, .inr ⟨l, rfl, g2, by omega, g4, G5.out⟩⟩
          case measure => simp [intOf]; omega

theorem find_any {i ib : Nat} (h : Rep w B tb mb mp aS nS ls pf pa k m) (hi : i < m) (hid : ∀ x, x < 3 → w.cell? ⟨ib, 0 + x, none⟩ = some (.int .u8 (nmB i x : Int))) :
    Calls Yba.prog 18 #[.pointer (some ⟨tb, 0, none⟩), .slice (some ⟨ib, 0, none⟩) 3 3] w fun e w' => e = .returned (.int .i32 (if i < k then -1 else (i : Int))) ∧ ∃ n, w' = w.drewN n := by
  have hm := h.lim
  rcases lastIn_spec k (hs i) m with h1 | ⟨l, h1, h2, h3, h4⟩
  · refine (find_none h hid h1).mono ?_
    rintro e w' ⟨rfl, hw⟩
    refine ⟨?_, hw⟩
    rcases Nat.lt_or_ge i k with h5 | h5
    · rw [if_pos h5]
    · have := lastIn_ge h5 rfl m hi
      omega
  · exact find_some rfl h (by omega) hid h1 h2 h3 h4 (fun h5 => by have := lastIn_ge h5 rfl m hi; omega)
end
end Go.Proofs.Ybulkczpw
