import Derived.Test.YbulkczpiProg
import Derived.Test.YbulkczpiPlain
import Derived.WalkKit
import Derived.WalkSpells
import Derived.Deep.LoopGhost
import Derived.Deep.QuietTactic
import Derived.BigQuiet
import Derived.WalkSmall
namespace Go.Proofs.Ybulkczpi
open Go.RowKit

theorem ret_tup {a b c d : Int} (h : a = c) (h' : b = d) : Ending.returned (.tuple #[.int .i64 a, .int .u8 b]) = .returned (.tuple #[.int .i64 c, .int .u8 d]) := by rw [h, h']

set_option maxHeartbeats 400000 in
theorem next_any (s : ByteArray) (pos : Nat) (w : World) (hs : s.size ≤ 1048576) (hp : pos ≤ s.size) :
    Calls Yba.prog 5 #[.string s, .int .i64 (pos : Int)] w fun e w' => e = .returned (.tuple #[.int .i64 (nx s pos : Nat), .int .u8 (byteAt s (nx s pos))]) ∧ ∃ m, w' = w.drewN m := by
  go_enter Yba.func5, Yba.ntmps5
  go_wp2
  go_loop [6] (fun i => ∃ k : Nat, k ≤ s.size ∧ i = .int .i64 (k : Int) ∧ nx s k = nx s pos) (fun i => s.size - (intOf i).toNat)
  case atStart => exact ⟨pos, hp, rfl, rfl⟩
  case round =>
    obtain ⟨k, hk, rfl, hq⟩ := hrel
    have HQ : Hid (nx s k = nx s pos) := hq
    clear hq
    by_cases hlt : k < s.size
    · by_cases h32 : (s[k].toNat : Int) = 32
      · have h32' : ((s[k].toNat : Int) == 32) = true := by simp [h32]
        have HY : Hid (isBl s[k] = true) := isBl_of.2 (.inl h32)
        clear h32
        go_wp2
        go_round
        case rel => exact ⟨k + 1, by omega, by go_num, by rw [← nx_yes s k hlt HY.out]; exact HQ.out⟩
        case measure => simp [intOf]; omega
      · have h32' : ((s[k].toNat : Int) == 32) = false := by simpa using h32
        by_cases h9 : (s[k].toNat : Int) = 9
        · have h9' : ((s[k].toNat : Int) == 9) = true := by simp [h9]
          have HY : Hid (isBl s[k] = true) := isBl_of.2 (.inr h9)
          clear h32 h9
          go_wp2
          go_round
          case rel => exact ⟨k + 1, by omega, by go_num, by rw [← nx_yes s k hlt HY.out]; exact HQ.out⟩
          case measure => simp [intOf]; omega
        · have h9' : ((s[k].toNat : Int) == 9) = false := by simpa using h9
          have HN : Hid (isBl s[k] = false) := by
            cases h : isBl s[k] with
            | false => rfl
            | true => rcases isBl_of.1 h with h | h; · exact absurd h h32
                      · exact absurd h h9
          clear h32 h9
          go_wp2
          go_quiet (fail)
          go_wp2
          go_ret2
          have e1 : nx s pos = k := HQ.out.symm.trans (nx_no s k hlt HN.out)
          exact ⟨ret_tup (by rw [e1]) (by rw [e1, byteAt_in s k hlt]), nq, rfl⟩
    · go_wp2
      go_ret2
      have e1 : nx s pos = k := HQ.out.symm.trans (nx_end s k hlt)
      exact ⟨ret_tup (by rw [e1]) (by rw [e1, byteAt_out s k hlt]), 0, rfl⟩

/-- The scanner lies whole in a block of its own. -/
def Scan (w : World) (b : Nat) (s : ByteArray) (p : Int) : Prop := w.heap[b]? = some (.cells #[.string s, .int .i64 p] 27 (0, 0))

theorem Scan.cells {w : World} {b : Nat} {s : ByteArray} {p : Int} (h : Scan w b s p) : w.cell? ⟨b, 0, none⟩ = some (.string s) ∧ w.cell? ⟨b, 1, none⟩ = some (.int .i64 p) ∧ w.frozen? ⟨b, 1, none⟩ = false := by
  unfold Scan at h
  refine ⟨?_, ?_, ?_⟩ <;> simp [World.cell?, World.frozen?, h]

theorem Scan.store {w : World} {b : Nat} {s : ByteArray} {p : Int} (h : Scan w b s p) (q : Int) : Scan (w.setCell ⟨b, 1, none⟩ (.int .i64 q)) b s q := by
  unfold Scan at h ⊢
  have hlt := lt_of_block h
  have h' : w.heap[b] = .cells #[.string s, .int .i64 p] 27 (0, 0) := by simpa [Array.getElem?_eq_getElem hlt] using h
  show (w.heap.modify b _)[b]? = _
  rw [Array.getElem?_eq_getElem (by simpa using hlt), Array.getElem_modify_self, h']
  rfl

set_option maxHeartbeats 400000 in
theorem skip_any (s : ByteArray) (b pos : Nat) (w : World) (hs : s.size ≤ 1048576) (hp : pos ≤ s.size) (hw : Scan w b s pos) :
    Calls Yba.prog 8 #[.pointer (some ⟨b, 0, none⟩)] w fun e w' => e = .returned (.tuple #[]) ∧ Scan w' b s (nx s pos : Nat) ∧ Below b w w' := by
  go_enter Yba.func8, Yba.ntmps8
  go_wp2
  go_loopg [] (s.size - pos + 1) (fun n wr => ∃ k : Nat, k ≤ s.size ∧ n = s.size - k + 1 ∧ Scan wr b s k ∧ nx s k = nx s pos ∧ Below b w wr)
  case atStart => exact ⟨pos, hp, rfl, hw, rfl, Below.refl _ _⟩
  case round =>
    obtain ⟨k, hk, rfl, hsc, hq, hb⟩ := hrel
    have HQ : Hid (nx s k = nx s pos) := hq
    have HS : Hid (Scan wr b s k) := hsc
    obtain ⟨c0, c1, f1⟩ := hsc.cells
    clear hq hsc hw
    by_cases hlt : k < s.size
    · have hi1 : (0 : Int) ≤ (k : Int) := by omega
      have hi2 : (k : Int) < (s.size : Int) := by omega
      have hlt' : decide ((k : Int) < (s.size : Int)) = true := by simpa using hlt
      by_cases h32 : (s[k].toNat : Int) = 32
      · have h32' : ((s[k].toNat : Int) == 32) = true := by simp [h32]
        have HY : Hid (isBl s[k] = true) := isBl_of.2 (.inl h32)
        clear h32
        go_wp2_with fail
        go_quiet (fail)
        go_wp2
        go_roundg (s.size - (k + 1) + 1)
        case measure => omega
        case rel =>
          have h1 : Scan (wr.drewN nq) b s k := HS.out
          have h2 := h1.store ((k : Int) + 1)
          exact ⟨k + 1, by omega, rfl, by simpa using h2, by rw [← nx_yes s k hlt HY.out]; exact HQ.out, (below_drewN hb nq).setCell (Nat.le_refl _) _⟩
      · have h32' : ((s[k].toNat : Int) == 32) = false := by simpa using h32
        by_cases h9 : (s[k].toNat : Int) = 9
        · have h9' : ((s[k].toNat : Int) == 9) = true := by simp [h9]
          have HY : Hid (isBl s[k] = true) := isBl_of.2 (.inr h9)
          clear h32 h9
          go_wp2_with fail
          go_quiet (fail)
          go_wp2
          go_roundg (s.size - (k + 1) + 1)
          case measure => omega
          case rel =>
            have h1 : Scan (wr.drewN nq) b s k := HS.out
            have h2 := h1.store ((k : Int) + 1)
            exact ⟨k + 1, by omega, rfl, by simpa using h2, by rw [← nx_yes s k hlt HY.out]; exact HQ.out, (below_drewN hb nq).setCell (Nat.le_refl _) _⟩
        · have h9' : ((s[k].toNat : Int) == 9) = false := by simpa using h9
          have HN : Hid (isBl s[k] = false) := by
            cases h : isBl s[k] with
            | false => rfl
            | true => rcases isBl_of.1 h with h | h; · exact absurd h h32
                      · exact absurd h h9
          clear h32 h9
          go_wp2_with fail
          go_quiet (fail)
          go_wp2
          go_end0
          exact ⟨rfl, by rw [HQ.out.symm.trans (nx_no s k hlt HN.out)]; exact HS.out, below_drewN hb nq⟩
    · have hlt' : decide ((k : Int) < (s.size : Int)) = false := by simpa using hlt
      go_wp2_with fail
      go_quiet (fail)
      go_wp2
      go_end0
      exact ⟨rfl, by rw [HQ.out.symm.trans (nx_end s k hlt)]; exact HS.out, below_drewN hb nq⟩

theorem ret_u8 {a c : Int} (h : a = c) : Ending.returned (.int .u8 a) = .returned (.int .u8 c) := by rw [h]
theorem ret_bool {a c : Bool} (h : a = c) : Ending.returned (.bool a) = .returned (.bool c) := by rw [h]

set_option maxHeartbeats 400000 in
theorem peek_any (s : ByteArray) (b pos : Nat) (w : World) (hs : s.size ≤ 1048576) (hp : pos ≤ s.size) (hw : Scan w b s pos) :
    Calls Yba.prog 7 #[.pointer (some ⟨b, 0, none⟩)] w fun e w' => e = .returned (.int .u8 (byteAt s (nx s pos))) ∧ Scan w' b s (nx s pos : Nat) ∧ Below b w w' := by
  have HW : Hid (Scan w b s pos) := hw
  clear hw
  have hq := nx_le s pos hp
  have HK : Hid (∀ w, Scan w b s pos → Calls Yba.prog 8 #[.pointer (some ⟨b, 0, none⟩)] w fun e w' => e = .returned (.tuple #[]) ∧ Scan w' b s (nx s pos : Nat) ∧ Below b w w') := fun w h => skip_any s b pos w hs hp h
  generalize nx s pos = q at *
  by_cases hlt : q < s.size
  · have HBH : Hid (byteAt s q = (s[q].toNat : Int)) := byteAt_in s q hlt
    generalize byteAt s q = d at *
    have e1 : ((q : Int) == (s.size : Int)) = false := by rw [beq_eq_false_iff_ne]; omega
    have hi1 : (0 : Int) ≤ (q : Int) := by omega
    have hi2 : (q : Int) < (s.size : Int) := by omega
    go_enter Yba.func7, Yba.ntmps7
    go_wp2_with (go_at_call 8; refine (HK.out _ HW.out).mono ?_; rintro e w1 ⟨rfl, hs1, hb1⟩; obtain ⟨c0, c1, f1⟩ := hs1.cells; have HS1 : Hid (Scan w1 b s q) := hs1; clear hs1)
    go_quiet (fail)
    go_wp2
    go_quiet (fail)
    go_wp2
    go_ret
    exact ⟨ret_u8 HBH.out.symm, HS1.out, below_drewN (below_drewN hb1 _) _⟩
  · have HBH : Hid (byteAt s q = 0) := byteAt_out s q hlt
    generalize byteAt s q = d at *
    have e1 : ((q : Int) == (s.size : Int)) = true := by rw [beq_iff_eq]; omega
    go_enter Yba.func7, Yba.ntmps7
    go_wp2_with (go_at_call 8; refine (HK.out _ HW.out).mono ?_; rintro e w1 ⟨rfl, hs1, hb1⟩; obtain ⟨c0, c1, f1⟩ := hs1.cells; have HS1 : Hid (Scan w1 b s q) := hs1; clear hs1)
    go_quiet (fail)
    go_wp2
    go_ret
    exact ⟨ret_u8 HBH.out.symm, HS1.out, below_drewN hb1 _⟩

/-- What 'accept' leaves the scanner at. -/
def accPos (s : ByteArray) (pos : Nat) (c : Int) : Int := if byteAt s (nx s pos) = c then (nx s pos : Int) + 1 else (nx s pos : Int)

set_option maxHeartbeats 400000 in
theorem accept_any (s : ByteArray) (b pos : Nat) (c : Int) (w : World) (hs : s.size ≤ 1048576) (hp : pos ≤ s.size) (hw : Scan w b s pos) :
    Calls Yba.prog 6 #[.pointer (some ⟨b, 0, none⟩), .int .u8 c] w fun e w' => e = .returned (.bool (byteAt s (nx s pos) == c)) ∧ Scan w' b s (accPos s pos c) ∧ Below b w w' := by
  have HW : Hid (Scan w b s pos) := hw
  clear hw
  have hq := nx_le s pos hp
  have HK : Hid (∀ w, Scan w b s pos → Calls Yba.prog 7 #[.pointer (some ⟨b, 0, none⟩)] w fun e w' => e = .returned (.int .u8 (byteAt s (nx s pos))) ∧ Scan w' b s (nx s pos : Nat) ∧ Below b w w') := fun w h => peek_any s b pos w hs hp h
  unfold accPos
  generalize nx s pos = q at *
  generalize byteAt s q = d at *
  by_cases h : d = c
  · rw [if_pos h]
    have e1 : (d != c) = false := by simp [h]
    have e2 : (d == c) = true := by simp [h]
    clear h
    rw [e2]
    go_enter Yba.func6, Yba.ntmps6
    go_wp2_with (go_at_call 7; refine (HK.out _ HW.out).mono ?_; rintro e w1 ⟨rfl, hs1, hb1⟩; obtain ⟨c0, c1, f1⟩ := hs1.cells; have HS1 : Hid (Scan w1 b s q) := hs1; clear hs1)
    go_ret
    exact ⟨rfl, HS1.out.store _, hb1.setCell (Nat.le_refl _) _⟩
  · rw [if_neg h]
    have e1 : (d != c) = true := by simp [h]
    have e2 : (d == c) = false := by simp [h]
    clear h
    rw [e2]
    go_enter Yba.func6, Yba.ntmps6
    go_wp2_with (go_at_call 7; refine (HK.out _ HW.out).mono ?_; rintro e w1 ⟨rfl, hs1, hb1⟩; obtain ⟨c0, c1, f1⟩ := hs1.cells; have HS1 : Hid (Scan w1 b s q) := hs1; clear hs1)
    go_ret
    exact ⟨rfl, HS1.out, hb1⟩
end Go.Proofs.Ybulkczpi
