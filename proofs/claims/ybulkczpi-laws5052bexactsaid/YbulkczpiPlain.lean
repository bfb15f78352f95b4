namespace Go.Proofs.Ybulkczpi

def isBl (c : UInt8) : Bool := c == 32 || c == 9

/-- Where the next byte lies that is no blank, from place k on (the end, where there is none). -/
def nx (s : ByteArray) (k : Nat) : Nat := k + ((s.data.toList.drop k).takeWhile isBl).length

/-- The byte at a place; 0 at the end and behind it. -/
def byteAt (s : ByteArray) (q : Nat) : Int := if h : q < s.size then (s[q].toNat : Int) else 0

theorem drop_at (s : ByteArray) (k : Nat) (h : k < s.size) : s.data.toList.drop k = s[k] :: s.data.toList.drop (k + 1) := by
  rw [List.drop_eq_getElem_cons (by simpa using h)]; rfl

theorem nx_yes (s : ByteArray) (k : Nat) (h : k < s.size) (hb : isBl s[k] = true) : nx s k = nx s (k + 1) := by
  unfold nx
  rw [drop_at s k h, List.takeWhile_cons_of_pos hb]
  simp; omega

theorem nx_no (s : ByteArray) (k : Nat) (h : k < s.size) (hb : isBl s[k] = false) : nx s k = k := by
  unfold nx
  rw [drop_at s k h, List.takeWhile_cons_of_neg (by simp [hb])]
  simp

theorem nx_end (s : ByteArray) (k : Nat) (h : ¬ k < s.size) : nx s k = k := by
  unfold nx
  rw [List.drop_eq_nil_of_le (by simp; omega)]
  simp

theorem nx_le (s : ByteArray) (k : Nat) (h : k ≤ s.size) : k ≤ nx s k ∧ nx s k ≤ s.size := by
  unfold nx
  have h1 := (List.takeWhile_prefix isBl (l := s.data.toList.drop k)).length_le
  have h2 : (s.data.toList.drop k).length = s.size - k := by simp
  omega

theorem isBl_of {c : UInt8} : isBl c = true ↔ (c.toNat : Int) = 32 ∨ (c.toNat : Int) = 9 := by
  unfold isBl
  simp only [Bool.or_eq_true, beq_iff_eq, ← UInt8.toNat_inj]
  simp
  omega

theorem byteAt_in (s : ByteArray) (q : Nat) (h : q < s.size) : byteAt s q = (s[q].toNat : Int) := by unfold byteAt; rw [dif_pos h]
theorem byteAt_out (s : ByteArray) (q : Nat) (h : ¬ q < s.size) : byteAt s q = 0 := by unfold byteAt; rw [dif_neg h]
end Go.Proofs.Ybulkczpi
