import Derived.Test.YbulkczpwRem
namespace Go.Proofs.Ybulkczpw
open Go.RowKit
section
variable {w : World} {B S tb mb mp ab nb lb cap nc : Nat} {ls : Nat → Int} {pf : Nat → Bool} {pa : Nat → Nat} {k m : Nat} {now : Int}

/-- All that 'expire' carries along. -/
structure All (w : World) (B S tb mb mp ab nb lb cap nc : Nat) (ls : Nat → Int) (pf : Nat → Bool) (pa : Nat → Nat) (k m : Nat) : Prop where
  rep : Rep w B tb mb mp (.slice (some ⟨ab, 0, none⟩) m cap) (.slice (some ⟨nb, 0, none⟩) (5 * m) nc) ls pf pa k m
  laid : Laid w S tb mb mp ab nb lb
  log : LogIs w S lb (logL pf k)
  box : ∀ j, j < m → pf j = true → BoxIs w S (pa j) lb j

theorem All.drewN (h : All w B S tb mb mp ab nb lb cap nc ls pf pa k m) (n : Nat) : All (w.drewN n) B S tb mb mp ab nb lb cap nc ls pf pa k m := ⟨h.rep.drewN n, h.laid, h.log, h.box⟩

theorem All.next {w' : World} (h : All w B S tb mb mp ab nb lb cap nc ls pf pa k m) (hr : Rep w' B tb mb mp (.slice (some ⟨ab, 0, none⟩) m cap) (.slice (some ⟨nb, 0, none⟩) (5 * m) nc) ls pf pa (k + 1) m) (hl : LogIs w' S lb (logL pf (k + 1))) (hf : FrS S [tb, mb, mp, ab, lb] w w') :
    All w' B S tb mb mp ab nb lb cap nc ls pf pa (k + 1) m := by
  obtain ⟨n1, _, hp⟩ := h.rep.psh
  obtain ⟨nB, cB, _, hbm⟩ := h.rep.byh
  obtain ⟨cur, hab, _⟩ := h.rep.all.open
  obtain ⟨lS, hlb, _⟩ := h.log
  refine ⟨hr, ⟨h.laid.1, h.laid.2.1, h.laid.2.2.1, h.laid.2.2.2.1, h.laid.2.2.2.2.1, h.laid.2.2.2.2.2.1, Nat.le_trans h.laid.2.2.2.2.2.2 hf.size⟩, hl, fun j hj hpj => (h.box j hj hpj).keep hf ?_⟩
  have no : ∀ {b : Nat} {cs : Array Value} {t t' : TypeId} {f : Nat × Nat}, w.heap[b]? = some (.cells cs t f) → t ≠ t' → ∀ cs' f', w.heap[b]? ≠ some (.cells cs' t' f') := fun hb hne cs' f' e => ne_of_type hb e hne rfl
  have nm : ∀ {b n c : Nat} {g : Nat → Option Value} {t' : TypeId}, MapIs w b n g c → ∀ cs' f', w.heap[b]? ≠ some (.cells cs' t' f') := fun hb cs' f' e => ne_of_map e hb rfl
  intro b hb
  simp only [List.mem_cons, List.not_mem_nil, or_false] at hb
  rcases hb with rfl | rfl | rfl | rfl | rfl
  · exact ⟨no h.rep.tab (by decide), no h.rep.tab (by decide), no h.rep.tab (by decide)⟩
  · exact ⟨nm hbm, nm hbm, nm hbm⟩
  · exact ⟨nm hp, nm hp, nm hp⟩
  · exact ⟨no hab (by decide), no hab (by decide), no hab (by decide)⟩
  · exact ⟨no hlb (by decide), no hlb (by decide), no hlb (by decide)⟩

/-- How far 'expire' goes. -/
def stopsAt (ls : Nat → Int) (now : Int) (k m K : Nat) : Prop := k ≤ K ∧ K ≤ m ∧ (∀ j, k ≤ j → j < K → ls j ≤ now) ∧ (K = m ∨ ¬ ls K ≤ now)

set_option maxHeartbeats 1000000 in
theorem expire_any {K : Nat} (h : All w B S tb mb mp ab nb lb cap nc ls pf pa k m) (hn1 : 5 * m ≤ nc) (hK : stopsAt ls now k m K) :
    Calls Yba.prog 10 #[.pointer (some ⟨tb, 0, none⟩), .int .i64 now] w fun e w' => e = .returned (.tuple #[]) ∧ All w' B S tb mb mp ab nb lb cap nc ls pf pa K m ∧ FrS S [tb, mb, mp, ab, lb] w w' := by
  have HA : Hid (All w B S tb mb mp ab nb lb cap nc ls pf pa k m) := h
  have HK : Hid (stopsAt ls now k m K) := hK
  have hm := h.rep.lim
  have hKm := hK.2.1
  have hkK := hK.1
  clear h hK
  go_enter Yba.func10, Yba.ntmps10
  go_wp2
  go_loopg [] (K - k) (fun gk wr => ∃ i : Nat, k ≤ i ∧ i ≤ K ∧ gk = K - i ∧ All wr B S tb mb mp ab nb lb cap nc ls pf pa i m ∧ FrS S [tb, mb, mp, ab, lb] w wr)
  case atStart => exact ⟨k, Nat.le_refl _, hkK, rfl, HA.out, FrS.refl _ _ _⟩
  case round =>
    obtain ⟨i, hi1, hi2, rfl, hall, hfr⟩ := hrel
    have HI : Hid (All wr B S tb mb mp ab nb lb cap nc ls pf pa i m) := hall
    have HF : Hid (FrS S [tb, mb, mp, ab, lb] w wr) := hfr
    obtain ⟨⟨_, _, c2, _⟩, _, _, _, c9, _⟩ := hall.rep.tab.cells
    clear hfr
    by_cases him : i = m
    · rw [if_pos him] at c9
      have hiK : i = K := by omega
      clear hall
      go_wp2
      go_quiet (fail)
      go_wp2
      go_end0
      exact ⟨rfl, by rw [← hiK]; exact HI.out.drewN _, HF.out.drewN _⟩
    · rw [if_neg him] at c9
      have a6 := (hall.rep.all.cell (j := i) (f := 6) (by omega) (by decide)).1
      rw [cellS_live (Nat.le_refl _)] at a6
      simp only [live] at a6
      have e1 : ((i : Int) != -1) = true := by simp
      have hlt : i < m := by omega
      clear hall
      by_cases hle : ls i ≤ now
      · have hiK : i < K := by
          rcases Nat.lt_or_ge i K with h1 | h1
          · exact h1
          · have : i = K := by omega
            subst this
            rcases HK.out.2.2.2 with h2 | h2
            · exact absurd h2 him
            · exact absurd hle h2
        go_wp2
        go_quiet (fail)
        go_wp2_with fail
        refine (remove_any (HI.out.drewN nq).rep (by omega) hn1 (HI.out.drewN nq).laid (fun hp => (HI.out.drewN nq).box i (by omega) hp) (HI.out.drewN nq).log).mono ?_
        rintro e w' ⟨rfl, h1, h2, h3⟩
        have HN : Hid (All w' B S tb mb mp ab nb lb cap nc ls pf pa (i + 1) m) := (HI.out.drewN nq).next h1 h2 h3
        have HF2 : Hid (FrS S [tb, mb, mp, ab, lb] w w') := (HF.out.drewN nq).trans h3 (fun _ h => h)
        clear h1 h2 h3
        go_wp2_with fail
        go_roundg (K - (i + 1))
        case measure => omega
        case rel => exact ⟨i + 1, by omega, by omega, rfl, HN.out, HF2.out⟩
      · have hd : decide (ls i ≤ now) = false := by simpa using hle
        have hiK : i = K := by
          rcases Nat.lt_or_ge i K with h1 | h1
          · exact absurd (HK.out.2.2.1 i hi1 h1) hle
          · omega
        have HiK : Hid (i = K) := hiK
        clear hiK hle
        go_wp2
        go_quiet (fail)
        go_wp2
        go_end0
        exact ⟨rfl, by rw [← HiK.out]; exact HI.out.drewN _, HF.out.drewN _⟩
end
end Go.Proofs.Ybulkczpw
