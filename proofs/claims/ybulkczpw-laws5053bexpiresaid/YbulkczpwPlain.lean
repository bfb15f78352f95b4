import Derived.Test.YbulkczpwHash
import Derived.Test.YbulkczpwShelf
namespace Go.Proofs.Ybulkczpw
open Go.RowKit

/-! ### the greatest index of a hash class in [k, m) -/
def lastIn (k : Nat) : Nat → Nat → Int
  | 0, _ => -1
  | m + 1, h => if k ≤ m ∧ hs m = h then (m : Int) else lastIn k m h

theorem lastIn_spec (k h : Nat) : ∀ m, lastIn k m h = -1 ∨ ∃ l : Nat, lastIn k m h = (l : Int) ∧ k ≤ l ∧ l < m ∧ hs l = h
  | 0 => .inl rfl
  | m + 1 => by
    unfold lastIn
    split
    · rename_i h1; exact .inr ⟨m, rfl, h1.1, by omega, h1.2⟩
    · rcases lastIn_spec k h m with h2 | ⟨l, h2, h3, h4, h5⟩
      · exact .inl h2
      · exact .inr ⟨l, h2, h3, by omega, h5⟩

theorem lastIn_ge {k h j : Nat} (hk : k ≤ j) (hj : hs j = h) : ∀ m, j < m → (j : Int) ≤ lastIn k m h
  | 0, h0 => by omega
  | m + 1, h0 => by
    unfold lastIn
    split
    · omega
    · rename_i h1
      refine lastIn_ge hk hj m ?_
      rcases Nat.lt_or_ge j m with h2 | h2
      · exact h2
      · obtain rfl : j = m := by omega
        exact absurd ⟨hk, hj⟩ h1

theorem lastIn_none {k h : Nat} : ∀ m, m ≤ k → lastIn k m h = -1
  | 0, _ => rfl
  | m + 1, h0 => by
    unfold lastIn
    rw [if_neg (by omega)]
    exact lastIn_none m (by omega)

theorem lastIn_yes {k m h : Nat} (h1 : k ≤ m) (h2 : hs m = h) : lastIn k (m + 1) h = (m : Int) := if_pos ⟨h1, h2⟩
theorem lastIn_no {k m h : Nat} (h1 : ¬(k ≤ m ∧ hs m = h)) : lastIn k (m + 1) h = lastIn k m h := if_neg h1

/-- THE KEY LEMMA: when k goes, every 'k' becomes 'none'. -/
theorem lastIn_succ (k h : Nat) : ∀ m, lastIn (k + 1) m h = if lastIn k m h = (k : Int) then -1 else lastIn k m h
  | 0 => by simp [lastIn]
  | m + 1 => by
    have ih := lastIn_succ k h m
    by_cases h1 : k + 1 ≤ m ∧ hs m = h
    · rw [lastIn_yes h1.1 h1.2, lastIn_yes (by omega) h1.2, if_neg (by omega)]
    · rw [lastIn_no h1, ih]
      by_cases h2 : k ≤ m ∧ hs m = h
      · have hm : m = k := by
          rcases Nat.lt_or_ge k m with h3 | h3
          · exact absurd ⟨h3, h2.2⟩ h1
          · omega
        subst hm
        rw [lastIn_yes h2.1 h2.2, lastIn_none m (Nat.le_refl _), if_pos rfl, if_neg (by omega)]
      · rw [lastIn_no h2]

/-! ### what the table holds -/
def live (ls : Nat → Int) (k m j : Nat) : Nat → Value
  | 0 => .int .i64 (5 * (j : Int))
  | 1 => .int .u32 3
  | 2 => .int .u32 1
  | 3 => .int .u32 1
  | 4 => .int .i32 (j : Int)
  | 5 => .int .u64 ((j + 1 : Nat) : Int)
  | 6 => .int .i64 (ls j)
  | 7 => .int .i32 (if j = k then -1 else (j : Int) - 1)
  | 8 => .int .i32 (if j + 1 = m then -1 else (j : Int) + 1)
  | 9 => .int .i32 (lastIn k j (hs j))
  | _ => .bool false
def dead (j : Nat) : Nat → Value
  | 0 => .int .i64 0
  | 1 => .int .u32 0
  | 2 => .int .u32 0
  | 3 => .int .u32 0
  | 4 => .int .i32 0
  | 5 => .int .u64 0
  | 6 => .int .i64 0
  | 7 => .int .i32 0
  | 8 => .int .i32 0
  | 9 => .int .i32 ((j : Int) - 1)
  | _ => .bool false
def cellS (ls : Nat → Int) (k m j f : Nat) : Value := if j < k then dead j f else live ls k m j f

theorem cellS_live {ls : Nat → Int} {k m j : Nat} (h : k ≤ j) (f : Nat) : cellS ls k m j f = live ls k m j f := by
  unfold cellS; rw [if_neg (by omega)]

def hmap (k m h : Nat) : Option Value := if lastIn k m h = -1 then none else some (.int .i32 (lastIn k m h))
def pmap (pf : Nat → Bool) (pa : Nat → Nat) (k m key : Nat) : Option Value := if k < key ∧ key ≤ m ∧ pf (key - 1) = true then some (.pointer (some ⟨pa (key - 1), 0, none⟩)) else none
def cntP (pf : Nat → Bool) (k : Nat) : Nat → Nat
  | 0 => 0
  | m + 1 => cntP pf k m + if k ≤ m ∧ pf m = true then 1 else 0

/-- The names' row. -/
def NamesIs (w : World) (B : Nat) (v : Value) (m : Nat) : Prop :=
  ∃ xs, w.ownsRow B 5 1 v (5 * m) xs ∧ ∀ j i, j < m → i < 5 → xs[5 * j + i]? = some (.int .u8 (nmB j i : Int))

section
variable {w w' : World} {B nb nc m : Nat}
theorem NamesIs.cell (h : NamesIs w B (.slice (some ⟨nb, 0, none⟩) (5 * m) nc) m) {j i : Nat} (hj : j < m) (hi : i < 5) : w.cell? ⟨nb, 5 * j + i, none⟩ = some (.int .u8 (nmB j i : Int)) := by
  obtain ⟨xs, ⟨_, ⟨h1, _⟩ | ⟨g, cap', cur, h2, h3, h4, h5, h6, h7, h8⟩⟩, hA⟩ := h
  · cases h1
  · cases h2
    rw [(cell_block h4 _).1, ← hA j i hj hi, ← h8, List.getElem?_take, if_pos (by omega), Array.getElem?_toList]
theorem NamesIs.keep {v : Value} (h : NamesIs w B v m) (hk : ∀ g, v.ownBlock = some g → w'.heap[g]? = w.heap[g]?) : NamesIs w' B v m := by
  obtain ⟨xs, ⟨h0, h1 | ⟨g, cap, cur, rfl, h3, h4, h5⟩⟩, hA⟩ := h
  · exact ⟨xs, ⟨h0, .inl h1⟩, hA⟩
  · exact ⟨xs, ⟨h0, .inr ⟨g, cap, cur, rfl, h3, (hk g rfl).trans h4, h5⟩⟩, hA⟩
theorem NamesIs.drewN {v : Value} (h : NamesIs w B v m) (n : Nat) : NamesIs (w.drewN n) B v m := h
theorem NamesIs.form {v : Value} (h : NamesIs w B v m) (hm : 0 < m) : ∃ nb nc, v = .slice (some ⟨nb, 0, none⟩) (5 * m) nc ∧ 5 * m ≤ nc ∧ (∃ cur, w.heap[nb]? = some (.cells cur 5 (0, 0))) ∧ B ≤ nb := by
  obtain ⟨xs, ⟨_, ⟨_, h1⟩ | ⟨g, cap', cur, h2, h3, h4, h5, _⟩⟩, _⟩ := h
  · omega
  · exact ⟨g, cap', h2, h5, ⟨cur, h4⟩, h3⟩
theorem NamesIs.type {v : Value} {g : Nat} (h : NamesIs w B v m) (hg : v.ownBlock = some g) : ∃ cur, w.heap[g]? = some (.cells cur 5 (0, 0)) ∧ B ≤ g := by
  obtain ⟨xs, ⟨_, ⟨rfl, _⟩ | ⟨g', cap, cur, rfl, h3, h4, _⟩⟩, _⟩ := h
  · cases hg
  · cases hg; exact ⟨cur, h4, h3⟩
theorem OwnsA.form {v : Value} {A : Nat → Nat → Value} (h : OwnsA w B v m A) (hm : 0 < m) : ∃ ab cap, v = .slice (some ⟨ab, 0, none⟩) m cap := by
  obtain ⟨xs, ⟨_, ⟨_, h1⟩ | ⟨g, cap', cur, h2, _⟩⟩, _⟩ := h
  · omega
  · exact ⟨g, cap', h2⟩
end

/-- THE TABLE: m sessions added, the first k of them removed. -/
structure Rep (w : World) (B tb mb mp : Nat) (aS nS : Value) (ls : Nat → Int) (pf : Nat → Bool) (pa : Nat → Nat) (k m : Nat) : Prop where
  tab : TabIs w tb mb mp aS nS ((k : Int) - 1) ((m : Int) - (k : Int)) (m : Int) (5 * (k : Int)) (if k = m then -1 else (k : Int)) (if k = m then -1 else (m : Int) - 1)
  all : OwnsA w B aS m (cellS ls k m)
  nam : NamesIs w B nS m
  byh : ∃ n c, n ≤ m + k ∧ MapIs w mb n (hmap k m) c
  psh : ∃ n, n ≤ m ∧ MapIs w mp n (pmap pf pa k m) (cntP pf k m)
  le : k ≤ m
  lim : m ≤ 1024
  ne : mb ≠ mp

theorem Rep.drewN {w : World} {B tb mb mp : Nat} {aS nS : Value} {ls : Nat → Int} {pf : Nat → Bool} {pa : Nat → Nat} {k m : Nat} (h : Rep w B tb mb mp aS nS ls pf pa k m) (n : Nat) : Rep (w.drewN n) B tb mb mp aS nS ls pf pa k m :=
  ⟨h.tab, h.all, h.nam, h.byh, h.psh, h.le, h.lim, h.ne⟩

/-- What is only added to leaves the table as it is. -/
theorem Rep.keep {w w' : World} {B tb mb mp : Nat} {aS nS : Value} {ls : Nat → Int} {pf : Nat → Bool} {pa : Nat → Nat} {k m : Nat} (h : Rep w B tb mb mp aS nS ls pf pa k m) (hk : Fr [] w w') : Rep w' B tb mb mp aS nS ls pf pa k m := by
  obtain ⟨n, c, hn, hb⟩ := h.byh
  obtain ⟨n', hn', hp⟩ := h.psh
  have kp : ∀ {b : Nat}, b < w.heap.size → w'.heap[b]? = w.heap[b]? := fun hb => hk.block _ hb (by simp)
  refine ⟨h.tab.keep (kp (lt_of_block h.tab)), h.all.keep (fun g hg => ?_), h.nam.keep (fun g hg => ?_), ⟨n, c, hn, hb.keep (kp hb.lt)⟩, ⟨n', hn', hp.keep (kp hp.lt)⟩, h.le, h.lim, h.ne⟩
  · obtain ⟨cur, h1, _⟩ := h.all.type hg
    exact kp (lt_of_block h1)
  · obtain ⟨cur, h1, _⟩ := h.nam.type hg
    exact kp (lt_of_block h1)

/-! ### two Session-Ids -/
theorem nm_inj {i j : Nat} (hi : i < 65536) (hj : j < 65536) (h1 : nmB i 1 = nmB j 1) (h2 : nmB i 2 = nmB j 2) : i = j := by
  simp only [nmB] at h1 h2
  simp at h1 h2
  omega

abbrev nums (j : Nat) : List Int := [(nmB j 0 : Int), (nmB j 1 : Int), (nmB j 2 : Int)]
theorem bytesIn_nums {w : World} {b o j : Nat} (h : ∀ i, i < 3 → w.cell? ⟨b, o + i, none⟩ = some (.int .u8 (nmB j i : Int))) : Lib.BytesIn w (some ⟨b, o, none⟩) 3 (nums j) := fun _ => ⟨b, o, rfl, fun i hi => by
  rw [h i hi]
  rcases i with _ | _ | _ | i
  · rfl
  · rfl
  · rfl
  · omega⟩

theorem u8_inj {a b : Nat} (ha : a < 256) (hb : b < 256) (h : UInt8.ofNat a = UInt8.ofNat b) : a = b := by
  have := congrArg UInt8.toNat h
  simpa [Nat.mod_eq_of_lt ha, Nat.mod_eq_of_lt hb] using this

theorem bytes_nums (i j : Nat) (hi : i < 65536) (hj : j < 65536) : (Lib.bytesOf (nums i) == Lib.bytesOf (nums j)) = decide (i = j) := by
  by_cases e : i = j
  · subst e; simp
  · rw [decide_eq_false e, beq_eq_false_iff_ne]
    intro h
    apply e
    have h1 := nmB_lt i 1
    have h2 := nmB_lt i 2
    have h3 := nmB_lt j 1
    have h4 := nmB_lt j 2
    simp only [Lib.bytesOf, nums, List.map_cons, List.map_nil, List.cons.injEq, Int.toNat_natCast] at h
    exact nm_inj hi hj (u8_inj h1 h3 h.2.1) (u8_inj h2 h4 h.2.2.1)

theorem equal_ids {w : World} {b o b' o' i j : Nat} (hi : i < 65536) (hj : j < 65536) (h : ∀ x, x < 3 → w.cell? ⟨b, o + x, none⟩ = some (.int .u8 (nmB i x : Int))) (h' : ∀ x, x < 3 → w.cell? ⟨b', o' + x, none⟩ = some (.int .u8 (nmB j x : Int))) :
    Calls Yba.prog 26 #[.slice (some ⟨b, o, none⟩) 3 3, .slice (some ⟨b', o', none⟩) 3 3] w fun e w' => e = .returned (.bool (decide (i = j))) ∧ w = w' := by
  refine (Yba.bytes_Equal_all _ _ 3 3 3 3 (nums i) (nums j) w rfl rfl (bytesIn_nums h) (bytesIn_nums h')).mono ?_
  rintro e w' ⟨rfl, rfl⟩
  exact ⟨by rw [bytes_nums i j hi hj], rfl⟩
end Go.Proofs.Ybulkczpw
