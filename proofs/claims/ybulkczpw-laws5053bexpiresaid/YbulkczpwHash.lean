import Derived.Test.YbulkczpwUnlink
namespace Go.Proofs.Ybulkczpw
open Go.RowKit

/-- The bytes of a session's names. -/
def nmB (j i : Nat) : Nat := if i = 0 then 115 else if i = 1 then j % 256 else if i = 2 then j / 256 % 256 else if i = 3 then 104 else 114
theorem nmB_lt (j i : Nat) : nmB j i < 256 := by
  unfold nmB
  split; · omega
  split; · omega
  split; · omega
  split <;> omega
/-- A Session-Id's hash. -/
def hs (j : Nat) : Nat := (115 + j % 256 + j / 256 % 256) % 4

def sumx (x : Nat → Nat) : Nat → Nat
  | 0 => 0
  | k + 1 => sumx x k + x k

theorem sumx_le (x : Nat → Nat) (hx : ∀ i, x i < 256) : ∀ k, sumx x k ≤ 256 * k
  | 0 => Nat.le_refl _
  | k + 1 => by have := sumx_le x hx k; have := hx k; simp only [sumx]; omega

theorem ret_u64 {x y : Int} (h : x = y) : Ending.returned (.int .u64 x) = .returned (.int .u64 y) := by rw [h]

set_option maxHeartbeats 400000 in
theorem hash_any (w : World) (b o : Nat) (x : Nat → Nat) (hx : ∀ i, x i < 256) (hc : ∀ i, i < 3 → w.cell? ⟨b, o + i, none⟩ = some (.int .u8 (x i : Int))) :
    Calls Yba.prog 6 #[.slice (some ⟨b, o, none⟩) 3 3] w fun e w' => e = .returned (.int .u64 ((sumx x 3 % 4 : Nat) : Int)) ∧ w = w' := by
  have HX : Hid (∀ i, x i < 256) := hx
  have HC : Hid (∀ i, i < 3 → w.cell? ⟨b, o + i, none⟩ = some (.int .u8 (x i : Int))) := hc
  clear hx hc
  go_enter Yba.func6, Yba.ntmps6
  go_wp2
  go_loop [8, 3] (fun i h => ∃ k : Nat, k ≤ 3 ∧ i = .int .i64 (k : Int) ∧ h = .int .u64 (sumx x k : Int)) (fun i _ => 3 - (intOf i).toNat)
  case atStart => exact ⟨0, by omega, rfl, rfl⟩
  case round =>
    obtain ⟨k, hk, rfl, rfl⟩ := hrel
    have hle := sumx_le x HX.out k
    by_cases hlt : k < 3
    · have hcell := HC.out k hlt
      have hxk := HX.out k
      have e1 : sumx x (k + 1) = sumx x k + x k := rfl
      generalize sumx x k = sk at *
      generalize x k = xk at *
      go_wp2
      go_round
      case rel => exact ⟨k + 1, by omega, by go_num, by rw [e1]; go_num⟩
      case measure => simp [intOf]; omega
    · obtain rfl : k = 3 := by omega
      obtain ⟨sk, hsk⟩ : ∃ sk, sumx x 3 = sk := ⟨_, rfl⟩
      have HS : Hid (sumx x 3 = sk) := hsk
      rw [hsk] at hle ⊢
      clear hsk
      have h0 : (0 : Int) ≤ (sk : Int) := by omega
      go_wp2
      go_ret
      exact ⟨ret_u64 (by rw [HS.out]), rfl⟩

theorem sum_nm (j : Nat) : sumx (nmB j) 3 % 4 = hs j := by
  simp only [sumx, nmB, hs]
  simp

set_option maxHeartbeats 400000 in
theorem mkid_any (w : World) (j : Nat) (hj : j ≤ 1024) :
    Calls Yba.prog 8 #[.int .i64 (j : Int)] w fun e w' => e = .returned (.slice (some ⟨w.heap.size, 0, none⟩) 3 3) ∧ w.alloc (.cells #[.int .u8 (nmB j 0 : Nat), .int .u8 (nmB j 1 : Nat), .int .u8 (nmB j 2 : Nat)] 5) = w' := by
  go_enter Yba.func8, Yba.ntmps8
  go_wp2
  go_ret
  have e1 : (nmB j 2 : Int) = (j : Int) / 256 := by simp only [nmB]; simp; omega
  have e2 : (nmB j 1 : Int) = (j : Int) % 256 := by simp only [nmB]; simp
  exact ⟨rfl, by rw [e1, e2]; rfl⟩

section
variable {w : World} {B tb mb mp ab m cap p nb nl nc : Nat} {fr ct sr un od nw : Int} {A : Nat → Nat → Value}
set_option maxHeartbeats 400000 in
theorem id_any (hT : TabIs w tb mb mp (.slice (some ⟨ab, 0, none⟩) m cap) (.slice (some ⟨nb, 0, none⟩) nl nc) fr ct sr un od nw) (hA : OwnsA w B (.slice (some ⟨ab, 0, none⟩) m cap) m A) (hp : p < m)
    (h0 : A p 0 = .int .i64 (5 * (p : Int))) (h1 : A p 1 = .int .u32 3) (ha : 5 * p + 3 ≤ nl) (hn : nl ≤ nc) (hl : nl ≤ 65536) :
    Calls Yba.prog 21 #[.pointer (some ⟨tb, 0, none⟩), .int .i32 (p : Int)] w fun e w' => e = .returned (.slice (some ⟨nb, 5 * p, none⟩) 3 3) ∧ ∃ n, w' = w.drewN n := by
  obtain ⟨a0, _⟩ := hA.cell (f := 0) hp (by decide)
  obtain ⟨a1, _⟩ := hA.cell (f := 1) hp (by decide)
  rw [h0, Nat.add_zero] at a0
  rw [h1] at a1
  obtain ⟨⟨_, _, c2, _⟩, _⟩ := hT.cells
  have HT : Hid (TabIs w tb mb mp (.slice (some ⟨ab, 0, none⟩) m cap) (.slice (some ⟨nb, 0, none⟩) nl nc) fr ct sr un od nw) := hT
  clear hT hA h0 h1
  go_enter Yba.func21, Yba.ntmps21
  go_wp2
  go_quiet ((go_at_call 28; refine (name_any (a := 5 * p) (c := 3) (HT.out.drewN _) (by omega) (by decide) (by decide) ha hn hl).mono (fun _ _ h => ⟨h.1, _, h.2.symm⟩)))
  go_wp2
  go_ret
  exact ⟨rfl, nq, rfl⟩
end
end Go.Proofs.Ybulkczpw
