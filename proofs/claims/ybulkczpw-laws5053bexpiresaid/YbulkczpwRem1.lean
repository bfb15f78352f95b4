import Derived.Test.YbulkczpwStop
namespace Go.Proofs.Ybulkczpw
open Go.RowKit

/-! ### what the rest of 'remove' leaves -/
def A2 (ls : Nat → Int) (k m j f : Nat) : Value := if j = k + 1 ∧ f = 7 then noS else A1 ls k m j f

theorem A1_self {ls : Nat → Int} {k m f : Nat} : A1 ls k m k f = live ls k m k f := by
  unfold A1
  rw [if_neg (by omega), cellS_live (Nat.le_refl _)]
theorem A1_9 {ls : Nat → Int} {k m : Nat} : A1 ls k m k 9 = noS := by
  unfold A1
  rw [if_neg (by omega), cellS_live (Nat.le_refl _)]
  simp only [live, lastIn_none k (Nat.le_refl k)]
theorem A2_self {ls : Nat → Int} {k m f : Nat} : A2 ls k m k f = A1 ls k m k f := by
  unfold A2
  rw [if_neg (by omega)]

/-- The removed session's cells, in order. -/
abbrev deadS (k : Nat) : List Value := [.int .i64 0, .int .u32 0, .int .u32 0, .int .u32 0, .int .i32 0, .int .u64 0, .int .i64 0, .int .i32 0, .int .i32 0, .int .i32 ((k : Int) - 1), .bool false, .bool false]

theorem final_cells {ls : Nat → Int} {k m j f : Nat} (hne : j ≠ k) : A2 ls k m j f = cellS ls (k + 1) m j f := by
  unfold A2 A1
  rcases Nat.lt_trichotomy j k with h | h | h
  · rw [if_neg (by omega), if_neg (by omega)]
    unfold cellS
    rw [if_pos h, if_pos (by omega)]
  · exact absurd h hne
  · rw [cellS_live (m := m) (k := k) (by omega), cellS_live (m := m) (k := k + 1) (by omega)]
    by_cases h7 : f = 7
    · subst h7
      by_cases h8 : j = k + 1
      · rw [if_pos ⟨h8, rfl⟩]
        simp only [live, if_pos h8]
      · rw [if_neg (fun e => h8 e.1), if_neg (by omega)]
        simp only [live, if_neg h8, if_neg hne]
    · rw [if_neg (fun e => h7 e.2)]
      by_cases h9 : f = 9
      · subst h9
        rw [if_pos ⟨h, rfl⟩]
        rfl
      · rw [if_neg (fun e => h9 e.2)]
        unfold live
        split <;> first | rfl | (exfalso; first | exact h7 rfl | exact h9 rfl)

section
variable {w : World} {B tb mb mp ab m cap k : Nat} {nS : Value} {fr ct sr un od : Int} {ls : Nat → Int}

theorem unlink_rem (hT : TabIs w tb mb mp (.slice (some ⟨ab, 0, none⟩) m cap) nS fr ct sr un od (if k = m then -1 else (m : Int) - 1)) (hA : OwnsA w B (.slice (some ⟨ab, 0, none⟩) m cap) m (A1 ls k m)) (hk : k < m) :
    Calls Yba.prog 24 #[.pointer (some ⟨tb, 0, none⟩), .int .i32 (k : Int)] w fun e w' => e = .returned (.tuple #[]) ∧
      TabIs w' tb mb mp (.slice (some ⟨ab, 0, none⟩) m cap) nS fr ct sr un (if k + 1 = m then -1 else ((k + 1 : Nat) : Int)) (if k + 1 = m then -1 else (m : Int) - 1) ∧ OwnsA w' B (.slice (some ⟨ab, 0, none⟩) m cap) m (A2 ls k m) ∧ Fr [tb, ab] w w' := by
  have h7 : A1 ls k m k 7 = noS := by rw [A1_self]; simp [live]
  by_cases hl : k + 1 = m
  · have h8 : A1 ls k m k 8 = noS := by rw [A1_self]; simp [live, hl]
    refine (unlink_last hT hA hk h7 h8).mono ?_
    rintro e w' ⟨rfl, h1, h2, h3⟩
    rw [if_pos hl, if_pos hl]
    exact ⟨rfl, h1, h2.congr (fun j f hj _ => by unfold A2; rw [if_neg (by omega)]), h3⟩
  · have h8 : A1 ls k m k 8 = plS (k + 1) := by rw [A1_self]; simp [live, hl]
    refine (unlink_more (q := k + 1) hT hA hk (by omega) h7 h8).mono ?_
    rintro e w' ⟨rfl, h1, h2, h3⟩
    rw [if_neg (show ¬k = m by omega)] at h1
    rw [if_neg hl, if_neg hl]
    exact ⟨rfl, h1, h2.congr (fun j f _ _ => rfl), h3⟩
end

/-- A session that the server has pushed: what the map leads to. -/
abbrev pcells (b1 b2 : Nat) : Array Value := #[.int .i32 0, .int .u32 0, .int .u32 0, .int .u8 0, .int .u32 0, .slice none 0 0, .int .i64 0, stopF b1 b2]
def BoxIs (w : World) (S pb lb j : Nat) : Prop := ∃ b1 b2, w.heap[pb]? = some (.cells (pcells b1 b2) 52 (0, 0)) ∧ w.heap[b1]? = some (.cells #[.pointer (some ⟨lb, 0, none⟩)] 41 (0, 0)) ∧ w.heap[b2]? = some (.cells #[.int .i64 (j : Int)] 3 (0, 0)) ∧ pb < S ∧ b1 < S ∧ b2 < S

theorem BoxIs.keep {w w' : World} {S pb lb j : Nat} {L : List Nat} (h : BoxIs w S pb lb j) (hf : FrS S L w w') (hL : ∀ b ∈ L, (∀ cs f, w.heap[b]? ≠ some (.cells cs 52 f)) ∧ (∀ cs f, w.heap[b]? ≠ some (.cells cs 41 f)) ∧ (∀ cs f, w.heap[b]? ≠ some (.cells cs 3 f))) : BoxIs w' S pb lb j := by
  obtain ⟨b1, b2, h1, h2, h3, h4, h5, h6⟩ := h
  exact ⟨b1, b2, (hf.block pb h4 (fun hm => (hL pb hm).1 _ _ h1)).trans h1, (hf.block b1 h5 (fun hm => (hL b1 hm).2.1 _ _ h2)).trans h2, (hf.block b2 h6 (fun hm => (hL b2 hm).2.2 _ _ h3)).trans h3, h4, h5, h6⟩

theorem zero38 (w : World) : (zeroValue 38).run Yba.prog w = .ok (.pointer none) w := by kernel_rfl

theorem cntP_succ (pf : Nat → Bool) (k : Nat) : ∀ m, k < m → cntP pf (k + 1) m = if pf k = true then cntP pf k m - 1 else cntP pf k m
  | 0, h => by omega
  | m + 1, h => by
    by_cases hk : k < m
    · have ih := cntP_succ pf k m hk
      have hpos : pf k = true → 1 ≤ cntP pf k m := fun hp => by
        clear ih h
        induction m with
        | zero => omega
        | succ m ih' =>
          simp only [cntP]
          by_cases hkm : k < m
          · have := ih' hkm; omega
          · obtain rfl : k = m := by omega
            rw [if_pos ⟨Nat.le_refl _, hp⟩]; omega
      simp only [cntP, ih]
      have e1 : (k + 1 ≤ m ∧ pf m = true) ↔ (k ≤ m ∧ pf m = true) := ⟨fun h => ⟨by omega, h.2⟩, fun h => ⟨by omega, h.2⟩⟩
      simp only [e1]
      split
      · rename_i hp; have := hpos hp; split <;> omega
      · rfl
    · obtain rfl : k = m := by omega
      have z : ∀ n, n ≤ k → cntP pf k n = 0 := fun n => by
        induction n with
        | zero => intro _; rfl
        | succ n ih => intro hn; simp only [cntP, ih (by omega)]; rw [if_neg (by omega)]
      have z' : ∀ n, n ≤ k → cntP pf (k + 1) n = 0 := fun n => by
        induction n with
        | zero => intro _; rfl
        | succ n ih => intro hn; simp only [cntP, ih (by omega)]; rw [if_neg (by omega)]
      simp only [cntP, z k (Nat.le_refl _), z' k (Nat.le_refl _)]
      rw [if_neg (by omega)]
      split
      · rename_i hp; rw [if_pos ⟨Nat.le_refl _, hp⟩]
      · rename_i hp; rw [if_neg (fun e => hp e.2)]

theorem pmap_gone {pf : Nat → Bool} {pa : Nat → Nat} {k m : Nat} (key : Nat) : (if key = k + 1 then none else pmap pf pa k m key) = pmap pf pa (k + 1) m key := by
  unfold pmap
  by_cases h : key = k + 1
  · rw [if_pos h, if_neg (by omega)]
  · rw [if_neg h]
    by_cases h1 : k < key ∧ key ≤ m ∧ pf (key - 1) = true
    · rw [if_pos h1, if_pos ⟨by omega, h1.2⟩]
    · rw [if_neg h1, if_neg (fun e => h1 ⟨by omega, e.2⟩)]
theorem pmap_at {pf : Nat → Bool} {pa : Nat → Nat} {k m : Nat} (hk : k < m) : pmap pf pa k m (k + 1) = if pf k = true then some (.pointer (some ⟨pa k, 0, none⟩)) else none := by
  unfold pmap
  by_cases h : pf k = true
  · rw [if_pos ⟨by omega, by omega, by simpa using h⟩, if_pos h]; simp
  · rw [if_neg (fun e => h (by simpa using e.2.2)), if_neg h]
end Go.Proofs.Ybulkczpw
