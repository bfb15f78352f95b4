import Derived.Test.YbulkczpiWalk
namespace Go.Proofs.Ybulkczpi
open Go.RowKit

set_option maxHeartbeats 400000 in
theorem exact_great (s : ByteArray) (p c : Int) (b : Bool) (w : World) (hs : 1048576 < s.size) :
    Calls Yba.prog 3 #[.string s, .int .u64 p, .int .u8 c, .bool b] w fun e w' => e = .returned (.bool true) ∧ Below w.heap.size w w' := by
  go_enter Yba.func3, Yba.ntmps3
  go_wp2
  go_ret
  exact ⟨rfl, Below.refl _ _⟩

theorem accept_yes (s : ByteArray) (b pos : Nat) (c : Int) (w : World) (hs : s.size ≤ 1048576) (hp : pos ≤ s.size) (hw : Scan w b s pos) (h : byteAt s (nx s pos) = c) :
    Calls Yba.prog 6 #[.pointer (some ⟨b, 0, none⟩), .int .u8 c] w fun e w' => e = .returned (.bool true) ∧ Scan w' b s ((nx s pos : Int) + 1) ∧ Below b w w' := by
  have k := accept_any s b pos c w hs hp hw
  unfold accPos at k
  rw [if_pos h] at k
  have e2 : (byteAt s (nx s pos) == c) = true := by simp [h]
  rwa [e2] at k

theorem accept_no (s : ByteArray) (b pos : Nat) (c : Int) (w : World) (hs : s.size ≤ 1048576) (hp : pos ≤ s.size) (hw : Scan w b s pos) (h : ¬ byteAt s (nx s pos) = c) :
    Calls Yba.prog 6 #[.pointer (some ⟨b, 0, none⟩), .int .u8 c] w fun e w' => e = .returned (.bool false) ∧ Scan w' b s (nx s pos : Int) ∧ Below b w w' := by
  have k := accept_any s b pos c w hs hp hw
  unfold accPos at k
  rw [if_neg h] at k
  have e2 : (byteAt s (nx s pos) == c) = false := by simp [h]
  rwa [e2] at k

theorem start_pos (p : Int) (n : Nat) (hn : n ≤ 1048576) : ∃ pos : Nat, pos ≤ n ∧ wrap64 (p % ((n : Int) + 1)) = (pos : Int) := by
  have h1 := Int.emod_nonneg p (show ((n : Int) + 1) ≠ 0 by omega)
  have h2 := Int.emod_lt_of_pos p (show 0 < ((n : Int) + 1) by omega)
  refine ⟨(p % ((n : Int) + 1)).toNat, by omega, ?_⟩
  generalize p % ((n : Int) + 1) = r at *
  unfold wrap64; omega

/-- A scanner that was just laid. -/
theorem Scan.new (w : World) (m : Nat) (s : ByteArray) (p : Int) : Scan ((w.drewN m).alloc (.cells #[.string s, .int .i64 p] 27)) w.heap.size s p := heap_alloc_new (w.drewN m) _
theorem new_below (w : World) (m : Nat) (o : Obj) : Below w.heap.size w ((w.drewN m).alloc o) := (below_drewN (Below.refl _ w) m).alloc (Nat.le_refl _) o

set_option maxHeartbeats 400000 in
theorem exact_small (s : ByteArray) (p c : Int) (b : Bool) (w : World) (hs : s.size ≤ 1048576) (p0 : 0 ≤ p) :
    Calls Yba.prog 3 #[.string s, .int .u64 p, .int .u8 c, .bool b] w fun e w' => e = .returned (.bool true) ∧ Below w.heap.size w w' := by
  obtain ⟨pos, hp, hpos⟩ := start_pos p s.size hs
  have hq := nx_le s pos hp
  have HN : Hid (∀ w, Calls Yba.prog 5 #[.string s, .int .i64 (pos : Int)] w fun e w' => e = .returned (.tuple #[.int .i64 (nx s pos : Nat), .int .u8 (byteAt s (nx s pos))]) ∧ ∃ m, w' = w.drewN m) := fun w => next_any s pos w hs hp
  have HY : Hid (∀ c w b, Scan w b s pos → byteAt s (nx s pos) = c → Calls Yba.prog 6 #[.pointer (some ⟨b, 0, none⟩), .int .u8 c] w fun e w' => e = .returned (.bool true) ∧ Scan w' b s ((nx s pos : Int) + 1) ∧ Below b w w') := fun c w b h h' => accept_yes s b pos c w hs hp h h'
  have HO : Hid (∀ c w b, Scan w b s pos → ¬ byteAt s (nx s pos) = c → Calls Yba.prog 6 #[.pointer (some ⟨b, 0, none⟩), .int .u8 c] w fun e w' => e = .returned (.bool false) ∧ Scan w' b s (nx s pos : Int) ∧ Below b w w') := fun c w b h h' => accept_no s b pos c w hs hp h h'
  generalize nx s pos = q at *
  generalize byteAt s q = d at *
  cases b with
  | true =>
    go_enter Yba.func3, Yba.ntmps3
    go_wp2_with (go_at_call 5; refine (HN.out _).mono ?_; rintro e w1 ⟨rfl, ⟨m, rfl⟩⟩)
    refine Calls.mono (HY.out d ((w.drewN m).alloc (.cells #[.string s, .int .i64 (pos : Int)] 27)) w.heap.size (Scan.new w m s pos) rfl) ?_
    rintro e w2 ⟨rfl, hs2, hb2⟩
    obtain ⟨c0, c1, f1⟩ := hs2.cells
    clear hs2
    go_wp2
    go_ret
    exact ⟨rfl, (new_below w m _).trans hb2⟩
  | false =>
    by_cases h : d = c
    · have e1 : (d == c) = true := by simp [h]
      have HD : Hid (d = c) := h
      clear h
      go_enter Yba.func3, Yba.ntmps3
      go_wp2_with (go_at_call 5; refine (HN.out _).mono ?_; rintro e w1 ⟨rfl, ⟨m, rfl⟩⟩)
      refine Calls.mono (HY.out c ((w.drewN m).alloc (.cells #[.string s, .int .i64 (pos : Int)] 27)) w.heap.size (Scan.new w m s pos) HD.out) ?_
      rintro e w2 ⟨rfl, hs2, hb2⟩
      obtain ⟨c0, c1, f1⟩ := hs2.cells
      clear hs2
      go_wp2
      go_ret
      exact ⟨rfl, (new_below w m _).trans hb2⟩
    · have e1 : (d == c) = false := by simp [h]
      have HD : Hid (¬ d = c) := h
      clear h
      go_enter Yba.func3, Yba.ntmps3
      go_wp2_with (go_at_call 5; refine (HN.out _).mono ?_; rintro e w1 ⟨rfl, ⟨m, rfl⟩⟩)
      refine Calls.mono (HO.out c ((w.drewN m).alloc (.cells #[.string s, .int .i64 (pos : Int)] 27)) w.heap.size (Scan.new w m s pos) HD.out) ?_
      rintro e w2 ⟨rfl, hs2, hb2⟩
      obtain ⟨c0, c1, f1⟩ := hs2.cells
      clear hs2
      go_wp2
      go_ret
      exact ⟨rfl, (new_below w m _).trans hb2⟩
end Go.Proofs.Ybulkczpi
