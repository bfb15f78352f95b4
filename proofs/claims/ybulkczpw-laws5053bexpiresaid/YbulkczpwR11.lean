import Derived.Test.YbulkczpwInv
namespace Go.Proofs.Ybulkczpw
open Go.RowKit

def dst11 (j : Nat) : Nat := if j = 13 then 13 else 35 + j
abbrev L11 : List Nat := [35, 36, 37, 38, 39, 40, 41, 42, 43, 44, 45, 46, 47, 13]
theorem dst11_mem {j : Nat} (hj : j < 14) : dst11 j ∈ L11 := by
  unfold dst11
  split
  · decide
  · simp; omega
theorem dst11_inj {j k : Nat} (hj : j < 14) (hk : k < 14) (h : dst11 j = dst11 k) : j = k := by
  unfold dst11 at h
  split at h <;> split at h <;> omega

abbrev sig11 : List (Option Tmp × Op × Option (Nat × Bool) × Bool × List Nat) := [
  (some 35, .move (.tmp 12), none, true, []),
  (some 36, .call { callee := .value (.func 8), args := #[.tmp 35], argTypes := #[3] }, none, true, [0]),
  (some 37, .move (.tmp 12), none, true, []),
  (some 38, .convert 3 21 (.tmp 37), none, true, [2]),
  (some 39, .buildSlice 30 1 #[(0, .const (.int .u8 104))], none, true, []),
  (some 40, .convert 30 30 (.tmp 39), none, true, [4]),
  (some 41, .buildSlice 30 1 #[(0, .const (.int .u8 114))], none, true, []),
  (some 42, .convert 30 30 (.tmp 41), none, true, [6]),
  (some 43, .move (.tmp 0), none, true, []),
  (some 44, .move (.tmp 12), none, true, []),
  (some 45, .indexAddr 22 (.tmp 43) (.tmp 44), none, true, [8, 9]),
  (some 46, .load 2 (.tmp 45), none, true, [10]),
  (some 47, .call { callee := .value (.func 7), args := #[.tmp 8, .tmp 36, .tmp 38, .tmp 40, .tmp 42, .tmp 46], argTypes := #[32, 30, 21, 30, 30, 37] }, none, true, [1, 3, 5, 7, 11, 1]),
  (some 13, .assign (.tmp 47), none, true, [12, 12, 0, 1, 2, 3, 4, 5, 6, 7, 8, 9, 10, 11, 12])]

abbrev idC (i : Nat) : Array Value := #[.int .u8 (nmB i 0 : Nat), .int .u8 (nmB i 1 : Nat), .int .u8 (nmB i 2 : Nat)]

/-- What each operation leaves. -/
def F11 (N i lb0 lo n lcap : Nat) (lsi : Int) (w : World) (v : Value) : Nat → Prop
  | 0 => v = .int .i64 (i : Int)
  | 1 => ∃ b, v = .slice (some ⟨b, 0, none⟩) 3 3 ∧ N ≤ b ∧ BlkAt w b (idC i)
  | 2 => v = .int .i64 (i : Int)
  | 3 => v = .int .i32 (i : Int)
  | 4 => ∃ b, v = .slice (some ⟨b, 0, none⟩) 1 1 ∧ N ≤ b ∧ BlkAt w b #[.int .u8 104]
  | 5 => ∃ b, v = .slice (some ⟨b, 0, none⟩) 1 1 ∧ N ≤ b ∧ BlkAt w b #[.int .u8 104]
  | 6 => ∃ b, v = .slice (some ⟨b, 0, none⟩) 1 1 ∧ N ≤ b ∧ BlkAt w b #[.int .u8 114]
  | 7 => ∃ b, v = .slice (some ⟨b, 0, none⟩) 1 1 ∧ N ≤ b ∧ BlkAt w b #[.int .u8 114]
  | 8 => v = .slice (some ⟨lb0, lo, none⟩) n lcap
  | 9 => v = .int .i64 (i : Int)
  | 10 => v = .pointer (some ⟨lb0, lo + i, none⟩)
  | 11 => v = .int .i64 lsi
  | _ => v = .int .i32 (i : Int)

section
variable {N i lb0 lo n lcap : Nat} {lsi : Int} {w w' wr : World} {a0 a : Act} {l : Array Bool} {R : World → Prop}

theorem F11.mono (hb : ∀ b C, BlkAt w b C → BlkAt w' b C) {v : Value} : ∀ {k : Nat}, F11 N i lb0 lo n lcap lsi w v k → F11 N i lb0 lo n lcap lsi w' v k
  | 0, h => h
  | 1, ⟨b, h1, h2, h3⟩ => ⟨b, h1, h2, hb _ _ h3⟩
  | 2, h => h
  | 3, h => h
  | 4, ⟨b, h1, h2, h3⟩ => ⟨b, h1, h2, hb _ _ h3⟩
  | 5, ⟨b, h1, h2, h3⟩ => ⟨b, h1, h2, hb _ _ h3⟩
  | 6, ⟨b, h1, h2, h3⟩ => ⟨b, h1, h2, hb _ _ h3⟩
  | 7, ⟨b, h1, h2, h3⟩ => ⟨b, h1, h2, hb _ _ h3⟩
  | 8, h => h
  | 9, h => h
  | 10, h => h
  | 11, h => h
  | _ + 12, h => h

abbrev D11 : List (Nat × Nat) := [(1, 0), (3, 2), (5, 4), (7, 6), (10, 8), (10, 9), (11, 10)]

/-- What holds whichever operations of region 11 have come up. -/
structure I11 (N i lb0 lo n lcap : Nat) (lsi : Int) (wr : World) (a0 : Act) (R : World → Prop) (l : Array Bool) (a : Act) (w : World) : Prop where
  size : l.size = 14
  off : Off L11 a0 a
  fr : l.getD 12 false = false → Fr [] wr w
  dep : ∀ j d, (j, d) ∈ D11 → l.getD j false = true → l.getD d false = true
  fin : l.getD 12 false = true → R w ∧ ∀ k, k < 12 → l.getD k false = true
  slot : ∀ j, j < 14 → l.getD j false = true → (j < 12 → l.getD 12 false = false) → F11 N i lb0 lo n lcap lsi w (a.tmps.getD (dst11 j) undef) j

theorem getD_same {l : Array Bool} {j : Nat} (h : j < l.size) : (l.setIfInBounds j true).getD j false = true := by simp [h]
theorem getD_other {l : Array Bool} {j k : Nat} (h : j ≠ k) : (l.setIfInBounds j true).getD k false = l.getD k false := by simp [h]
theorem getD_up {l : Array Bool} {j k : Nat} (hj : j < l.size) (h : l.getD k false = true) : (l.setIfInBounds j true).getD k false = true := by
  by_cases e : j = k
  · subst e; exact getD_same hj
  · rw [getD_other e]; exact h
theorem getD_no {l : Array Bool} {j : Nat} (h : l.getD j true = false) : l.getD j false = false ∧ j < l.size := by
  rcases Nat.lt_or_ge j l.size with h1 | h1
  · exact ⟨by simpa [h1] using h, h1⟩
  · simp [Array.getElem?_eq_none h1] at h

theorem put_same {a : Act} {d : Nat} {v : Value} (h : d < a.tmps.size) : (a.put (some d) v).tmps.getD d undef = v := by simp [Act.put, h]
theorem put_other {a : Act} {d s : Nat} {v : Value} (h : d ≠ s) : (a.put (some d) v).tmps.getD s undef = a.tmps.getD s undef := by simp [Act.put, h]

theorem I11.open (h : I11 N i lb0 lo n lcap lsi wr a0 R l a w) {j : Nat} (hj : j < 12) (hl : l.getD j true = false) : l.getD 12 false = false := by
  cases h12 : l.getD 12 false with
  | false => rfl
  | true =>
    have := (h.fin h12).2 j hj
    rw [(getD_no hl).1] at this
    cases this

theorem I11.step (h : I11 N i lb0 lo n lcap lsi wr a0 R l a w) (hsz : 48 ≤ a0.tmps.size) {j : Nat} (hj : j < 12) (hl : l.getD j true = false) (hd : ∀ d, (j, d) ∈ D11 → l.getD d false = true) {v : Value} (hv : F11 N i lb0 lo n lcap lsi w' v j) (hb : ∀ b C, BlkAt w b C → BlkAt w' b C) (hF : Fr [] wr w → Fr [] wr w') :
    I11 N i lb0 lo n lcap lsi wr a0 R (l.setIfInBounds j true) (a.put (some (dst11 j)) v) w' := by
  have h12 := h.open hj hl
  have hjs := (getD_no hl).2
  have h12' : (l.setIfInBounds j true).getD 12 false = false := by rw [getD_other (by omega)]; exact h12
  have has : dst11 j < a.tmps.size := by
    rw [h.off.size]
    unfold dst11
    split <;> omega
  refine ⟨by simpa using h.size, h.off.put (dst11_mem (by omega)) v, fun _ => hF (h.fr h12), fun x d hx hxl => ?_, fun hc => ?_, fun k hk hkl _ => ?_⟩
  · by_cases e : j = x
    · subst e; exact getD_up hjs (hd d hx)
    · rw [getD_other e] at hxl; exact getD_up hjs (h.dep x d hx hxl)
  · rw [h12'] at hc; cases hc
  · by_cases e : j = k
    · subst e; rw [put_same has]; exact hv
    · rw [getD_other e] at hkl
      rw [put_other (fun e' => e (dst11_inj (by omega) hk e'))]
      exact (h.slot k hk hkl (fun _ => h12)).mono hb

theorem I11.get (h : I11 N i lb0 lo n lcap lsi wr a0 R l a w) {j : Nat} (hj : j < 12) (hl : l.getD j false = true) (h12 : l.getD 12 false = false) : F11 N i lb0 lo n lcap lsi w (a.eval (.tmp (35 + j))) j := by
  have := h.slot j (by omega) hl (fun _ => h12)
  unfold dst11 at this
  rw [if_neg (by omega)] at this
  exact this

theorem I11.old (h : I11 N i lb0 lo n lcap lsi wr a0 R l a w) {s : Nat} {v : Value} (hs : s ∉ L11) (h0 : a0.eval (.tmp s) = v) : a.eval (.tmp s) = v := by
  rw [← h0]
  show a.tmps.getD s undef = a0.tmps.getD s undef
  simp [h.off.same s hs]
end
end Go.Proofs.Ybulkczpw
