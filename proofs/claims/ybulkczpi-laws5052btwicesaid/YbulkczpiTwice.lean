import Derived.Test.YbulkczpiLaws
namespace Go.Proofs.Ybulkczpi
open Go.RowKit
set_option linter.unusedVariables false

set_option maxHeartbeats 400000 in
theorem twice_great (s : ByteArray) (p c : Int) (b : Bool) (w : World) (hs : 1048576 < s.size) :
    Calls Yba.prog 4 #[.string s, .int .u64 p, .int .u8 c, .bool b] w fun e w' => e = .returned (.bool true) ∧ Below w.heap.size w w' := by
  go_enter Yba.func4, Yba.ntmps4
  go_wp2
  go_ret
  exact ⟨rfl, Below.refl _ _⟩

theorem Scan.drewN {w : World} {b : Nat} {s : ByteArray} {p : Int} (h : Scan w b s p) (m : Nat) : Scan (w.drewN m) b s p := h

set_option maxHeartbeats 1000000 in
theorem twice_1 (s : ByteArray) (p c : Int) (w : World) (hs : s.size ≤ 1048576) (p0 : 0 ≤ p) (pos : Nat) (hpos : wrap64 (p % ((s.size : Int) + 1)) = (pos : Int)) (q : Nat) (d : Int) (hq : q ≤ s.size)
    (HN : Hid (∀ w, Calls Yba.prog 5 #[.string s, .int .i64 (pos : Int)] w fun e w' => e = .returned (.tuple #[.int .i64 (q : Nat), .int .u8 d]) ∧ ∃ m, w' = w.drewN m)) (hlt : s.size ≤ q) (HY : Hid (∀ w b, Scan w b s pos → Calls Yba.prog 6 #[.pointer (some ⟨b, 0, none⟩), .int .u8 d] w fun e w' => e = .returned (.bool true) ∧ Scan w' b s ((q : Int) + 1) ∧ Below b w w')) :
    Calls Yba.prog 4 #[.string s, .int .u64 p, .int .u8 c, .bool true] w fun e w' => e = .returned (.bool true) ∧ Below w.heap.size w w' := by
  go_enter Yba.func4, Yba.ntmps4
  go_wp2_with fail
  refine Calls.mono (HN.out _) ?_
  rintro e w1 ⟨rfl, ⟨m, rfl⟩⟩
  go_wp2_with fail
  refine Calls.mono (HY.out ((w.drewN m).alloc (.cells #[.string s, .int .i64 (pos : Int)] 27)) w.heap.size (Scan.new w m s pos)) ?_
  rintro e w2 ⟨rfl, hs2, hb2⟩
  clear hs2
  go_wp2
  go_ret
  exact ⟨rfl, (new_below w m _).trans hb2⟩

set_option maxHeartbeats 1000000 in
theorem twice_2 (s : ByteArray) (p c : Int) (w : World) (hs : s.size ≤ 1048576) (p0 : 0 ≤ p) (pos : Nat) (hpos : wrap64 (p % ((s.size : Int) + 1)) = (pos : Int)) (q : Nat) (d : Int) (hq : q ≤ s.size)
    (HN : Hid (∀ w, Calls Yba.prog 5 #[.string s, .int .i64 (pos : Int)] w fun e w' => e = .returned (.tuple #[.int .i64 (q : Nat), .int .u8 d]) ∧ ∃ m, w' = w.drewN m)) (hlt : q < s.size) (HY : Hid (∀ w b, Scan w b s pos → Calls Yba.prog 6 #[.pointer (some ⟨b, 0, none⟩), .int .u8 d] w fun e w' => e = .returned (.bool true) ∧ Scan w' b s ((q : Int) + 1) ∧ Below b w w')) (q2 : Nat) (d2 : Int) (hq2 : q2 ≤ s.size) (HN2 : Hid (∀ w, Calls Yba.prog 5 #[.string s, .int .i64 ((q : Int) + 1)] w fun e w' => e = .returned (.tuple #[.int .i64 (q2 : Nat), .int .u8 d2]) ∧ ∃ m, w' = w.drewN m)) (e2 : (d2 == d) = true) (HY2 : Hid (∀ w b, Scan w b s ((q : Int) + 1) → Calls Yba.prog 6 #[.pointer (some ⟨b, 0, none⟩), .int .u8 d] w fun e w' => e = .returned (.bool true) ∧ Scan w' b s ((q2 : Int) + 1) ∧ Below b w w')) :
    Calls Yba.prog 4 #[.string s, .int .u64 p, .int .u8 c, .bool true] w fun e w' => e = .returned (.bool true) ∧ Below w.heap.size w w' := by
  go_enter Yba.func4, Yba.ntmps4
  go_wp2_with fail
  refine Calls.mono (HN.out _) ?_
  rintro e w1 ⟨rfl, ⟨m, rfl⟩⟩
  go_wp2_with fail
  refine Calls.mono (HY.out ((w.drewN m).alloc (.cells #[.string s, .int .i64 (pos : Int)] 27)) w.heap.size (Scan.new w m s pos)) ?_
  rintro e w2 ⟨rfl, hs2, hb2⟩
  have HS2 : Hid (Scan w2 w.heap.size s ((q : Int) + 1)) := hs2
  clear hs2
  go_wp2_with fail
  refine Calls.mono (HN2.out _) ?_
  rintro e w3 ⟨rfl, ⟨m3, rfl⟩⟩
  go_wp2_with fail
  refine Calls.mono (HY2.out _ w.heap.size (HS2.out.drewN m3)) ?_
  rintro e w4 ⟨rfl, hs4, hb4⟩
  obtain ⟨c0, c1, f1⟩ := hs4.cells
  clear hs4
  go_wp2
  go_ret
  exact ⟨rfl, ((new_below w m _).trans hb2).trans ((below_drewN (Below.refl _ w2) m3).trans hb4)⟩

set_option maxHeartbeats 1000000 in
theorem twice_3 (s : ByteArray) (p c : Int) (w : World) (hs : s.size ≤ 1048576) (p0 : 0 ≤ p) (pos : Nat) (hpos : wrap64 (p % ((s.size : Int) + 1)) = (pos : Int)) (q : Nat) (d : Int) (hq : q ≤ s.size)
    (HN : Hid (∀ w, Calls Yba.prog 5 #[.string s, .int .i64 (pos : Int)] w fun e w' => e = .returned (.tuple #[.int .i64 (q : Nat), .int .u8 d]) ∧ ∃ m, w' = w.drewN m)) (hlt : q < s.size) (HY : Hid (∀ w b, Scan w b s pos → Calls Yba.prog 6 #[.pointer (some ⟨b, 0, none⟩), .int .u8 d] w fun e w' => e = .returned (.bool true) ∧ Scan w' b s ((q : Int) + 1) ∧ Below b w w')) (q2 : Nat) (d2 : Int) (hq2 : q2 ≤ s.size) (HN2 : Hid (∀ w, Calls Yba.prog 5 #[.string s, .int .i64 ((q : Int) + 1)] w fun e w' => e = .returned (.tuple #[.int .i64 (q2 : Nat), .int .u8 d2]) ∧ ∃ m, w' = w.drewN m)) (e2 : (d2 == d) = false) (HO2 : Hid (∀ w b, Scan w b s ((q : Int) + 1) → Calls Yba.prog 6 #[.pointer (some ⟨b, 0, none⟩), .int .u8 d] w fun e w' => e = .returned (.bool false) ∧ Scan w' b s (q2 : Int) ∧ Below b w w')) :
    Calls Yba.prog 4 #[.string s, .int .u64 p, .int .u8 c, .bool true] w fun e w' => e = .returned (.bool true) ∧ Below w.heap.size w w' := by
  go_enter Yba.func4, Yba.ntmps4
  go_wp2_with fail
  refine Calls.mono (HN.out _) ?_
  rintro e w1 ⟨rfl, ⟨m, rfl⟩⟩
  go_wp2_with fail
  refine Calls.mono (HY.out ((w.drewN m).alloc (.cells #[.string s, .int .i64 (pos : Int)] 27)) w.heap.size (Scan.new w m s pos)) ?_
  rintro e w2 ⟨rfl, hs2, hb2⟩
  have HS2 : Hid (Scan w2 w.heap.size s ((q : Int) + 1)) := hs2
  clear hs2
  go_wp2_with fail
  refine Calls.mono (HN2.out _) ?_
  rintro e w3 ⟨rfl, ⟨m3, rfl⟩⟩
  go_wp2_with fail
  refine Calls.mono (HO2.out _ w.heap.size (HS2.out.drewN m3)) ?_
  rintro e w4 ⟨rfl, hs4, hb4⟩
  obtain ⟨c0, c1, f1⟩ := hs4.cells
  clear hs4
  go_wp2
  go_ret
  exact ⟨rfl, ((new_below w m _).trans hb2).trans ((below_drewN (Below.refl _ w2) m3).trans hb4)⟩

set_option maxHeartbeats 1000000 in
theorem twice_4 (s : ByteArray) (p c : Int) (w : World) (hs : s.size ≤ 1048576) (p0 : 0 ≤ p) (pos : Nat) (hpos : wrap64 (p % ((s.size : Int) + 1)) = (pos : Int)) (q : Nat) (d : Int) (hq : q ≤ s.size)
    (HN : Hid (∀ w, Calls Yba.prog 5 #[.string s, .int .i64 (pos : Int)] w fun e w' => e = .returned (.tuple #[.int .i64 (q : Nat), .int .u8 d]) ∧ ∃ m, w' = w.drewN m)) (e1 : (d == c) = false) (e3 : (d != c) = true) (HO : Hid (∀ w b, Scan w b s pos → Calls Yba.prog 6 #[.pointer (some ⟨b, 0, none⟩), .int .u8 c] w fun e w' => e = .returned (.bool false) ∧ Scan w' b s (q : Int) ∧ Below b w w')) :
    Calls Yba.prog 4 #[.string s, .int .u64 p, .int .u8 c, .bool false] w fun e w' => e = .returned (.bool true) ∧ Below w.heap.size w w' := by
  go_enter Yba.func4, Yba.ntmps4
  go_wp2_with fail
  refine Calls.mono (HN.out _) ?_
  rintro e w1 ⟨rfl, ⟨m, rfl⟩⟩
  go_wp2_with fail
  refine Calls.mono (HO.out ((w.drewN m).alloc (.cells #[.string s, .int .i64 (pos : Int)] 27)) w.heap.size (Scan.new w m s pos)) ?_
  rintro e w2 ⟨rfl, hs2, hb2⟩
  clear hs2
  go_wp2
  go_ret
  exact ⟨rfl, (new_below w m _).trans hb2⟩

set_option maxHeartbeats 1000000 in
theorem twice_5 (s : ByteArray) (p c : Int) (w : World) (hs : s.size ≤ 1048576) (p0 : 0 ≤ p) (pos : Nat) (hpos : wrap64 (p % ((s.size : Int) + 1)) = (pos : Int)) (q : Nat) (d : Int) (hq : q ≤ s.size)
    (HN : Hid (∀ w, Calls Yba.prog 5 #[.string s, .int .i64 (pos : Int)] w fun e w' => e = .returned (.tuple #[.int .i64 (q : Nat), .int .u8 d]) ∧ ∃ m, w' = w.drewN m)) (hlt : s.size ≤ q) (e1 : (d == c) = true) (e3 : (d != c) = false) (HY : Hid (∀ w b, Scan w b s pos → Calls Yba.prog 6 #[.pointer (some ⟨b, 0, none⟩), .int .u8 c] w fun e w' => e = .returned (.bool true) ∧ Scan w' b s ((q : Int) + 1) ∧ Below b w w')) :
    Calls Yba.prog 4 #[.string s, .int .u64 p, .int .u8 c, .bool false] w fun e w' => e = .returned (.bool true) ∧ Below w.heap.size w w' := by
  go_enter Yba.func4, Yba.ntmps4
  go_wp2_with fail
  refine Calls.mono (HN.out _) ?_
  rintro e w1 ⟨rfl, ⟨m, rfl⟩⟩
  go_wp2_with fail
  refine Calls.mono (HY.out ((w.drewN m).alloc (.cells #[.string s, .int .i64 (pos : Int)] 27)) w.heap.size (Scan.new w m s pos)) ?_
  rintro e w2 ⟨rfl, hs2, hb2⟩
  clear hs2
  go_wp2
  go_ret
  exact ⟨rfl, (new_below w m _).trans hb2⟩

set_option maxHeartbeats 1000000 in
theorem twice_6 (s : ByteArray) (p c : Int) (w : World) (hs : s.size ≤ 1048576) (p0 : 0 ≤ p) (pos : Nat) (hpos : wrap64 (p % ((s.size : Int) + 1)) = (pos : Int)) (q : Nat) (d : Int) (hq : q ≤ s.size)
    (HN : Hid (∀ w, Calls Yba.prog 5 #[.string s, .int .i64 (pos : Int)] w fun e w' => e = .returned (.tuple #[.int .i64 (q : Nat), .int .u8 d]) ∧ ∃ m, w' = w.drewN m)) (hlt : q < s.size) (e1 : (d == c) = true) (e3 : (d != c) = false) (HY : Hid (∀ w b, Scan w b s pos → Calls Yba.prog 6 #[.pointer (some ⟨b, 0, none⟩), .int .u8 c] w fun e w' => e = .returned (.bool true) ∧ Scan w' b s ((q : Int) + 1) ∧ Below b w w')) (q2 : Nat) (d2 : Int) (hq2 : q2 ≤ s.size) (HN2 : Hid (∀ w, Calls Yba.prog 5 #[.string s, .int .i64 ((q : Int) + 1)] w fun e w' => e = .returned (.tuple #[.int .i64 (q2 : Nat), .int .u8 d2]) ∧ ∃ m, w' = w.drewN m)) (e2 : (d2 == c) = true) (HY2 : Hid (∀ w b, Scan w b s ((q : Int) + 1) → Calls Yba.prog 6 #[.pointer (some ⟨b, 0, none⟩), .int .u8 c] w fun e w' => e = .returned (.bool true) ∧ Scan w' b s ((q2 : Int) + 1) ∧ Below b w w')) :
    Calls Yba.prog 4 #[.string s, .int .u64 p, .int .u8 c, .bool false] w fun e w' => e = .returned (.bool true) ∧ Below w.heap.size w w' := by
  go_enter Yba.func4, Yba.ntmps4
  go_wp2_with fail
  refine Calls.mono (HN.out _) ?_
  rintro e w1 ⟨rfl, ⟨m, rfl⟩⟩
  go_wp2_with fail
  refine Calls.mono (HY.out ((w.drewN m).alloc (.cells #[.string s, .int .i64 (pos : Int)] 27)) w.heap.size (Scan.new w m s pos)) ?_
  rintro e w2 ⟨rfl, hs2, hb2⟩
  have HS2 : Hid (Scan w2 w.heap.size s ((q : Int) + 1)) := hs2
  clear hs2
  go_wp2_with fail
  refine Calls.mono (HN2.out _) ?_
  rintro e w3 ⟨rfl, ⟨m3, rfl⟩⟩
  go_wp2_with fail
  refine Calls.mono (HY2.out _ w.heap.size (HS2.out.drewN m3)) ?_
  rintro e w4 ⟨rfl, hs4, hb4⟩
  obtain ⟨c0, c1, f1⟩ := hs4.cells
  clear hs4
  go_wp2
  go_ret
  exact ⟨rfl, ((new_below w m _).trans hb2).trans ((below_drewN (Below.refl _ w2) m3).trans hb4)⟩

set_option maxHeartbeats 1000000 in
theorem twice_7 (s : ByteArray) (p c : Int) (w : World) (hs : s.size ≤ 1048576) (p0 : 0 ≤ p) (pos : Nat) (hpos : wrap64 (p % ((s.size : Int) + 1)) = (pos : Int)) (q : Nat) (d : Int) (hq : q ≤ s.size)
    (HN : Hid (∀ w, Calls Yba.prog 5 #[.string s, .int .i64 (pos : Int)] w fun e w' => e = .returned (.tuple #[.int .i64 (q : Nat), .int .u8 d]) ∧ ∃ m, w' = w.drewN m)) (hlt : q < s.size) (e1 : (d == c) = true) (e3 : (d != c) = false) (HY : Hid (∀ w b, Scan w b s pos → Calls Yba.prog 6 #[.pointer (some ⟨b, 0, none⟩), .int .u8 c] w fun e w' => e = .returned (.bool true) ∧ Scan w' b s ((q : Int) + 1) ∧ Below b w w')) (q2 : Nat) (d2 : Int) (hq2 : q2 ≤ s.size) (HN2 : Hid (∀ w, Calls Yba.prog 5 #[.string s, .int .i64 ((q : Int) + 1)] w fun e w' => e = .returned (.tuple #[.int .i64 (q2 : Nat), .int .u8 d2]) ∧ ∃ m, w' = w.drewN m)) (e2 : (d2 == c) = false) (HO2 : Hid (∀ w b, Scan w b s ((q : Int) + 1) → Calls Yba.prog 6 #[.pointer (some ⟨b, 0, none⟩), .int .u8 c] w fun e w' => e = .returned (.bool false) ∧ Scan w' b s (q2 : Int) ∧ Below b w w')) :
    Calls Yba.prog 4 #[.string s, .int .u64 p, .int .u8 c, .bool false] w fun e w' => e = .returned (.bool true) ∧ Below w.heap.size w w' := by
  go_enter Yba.func4, Yba.ntmps4
  go_wp2_with fail
  refine Calls.mono (HN.out _) ?_
  rintro e w1 ⟨rfl, ⟨m, rfl⟩⟩
  go_wp2_with fail
  refine Calls.mono (HY.out ((w.drewN m).alloc (.cells #[.string s, .int .i64 (pos : Int)] 27)) w.heap.size (Scan.new w m s pos)) ?_
  rintro e w2 ⟨rfl, hs2, hb2⟩
  have HS2 : Hid (Scan w2 w.heap.size s ((q : Int) + 1)) := hs2
  clear hs2
  go_wp2_with fail
  refine Calls.mono (HN2.out _) ?_
  rintro e w3 ⟨rfl, ⟨m3, rfl⟩⟩
  go_wp2_with fail
  refine Calls.mono (HO2.out _ w.heap.size (HS2.out.drewN m3)) ?_
  rintro e w4 ⟨rfl, hs4, hb4⟩
  obtain ⟨c0, c1, f1⟩ := hs4.cells
  clear hs4
  go_wp2
  go_ret
  exact ⟨rfl, ((new_below w m _).trans hb2).trans ((below_drewN (Below.refl _ w2) m3).trans hb4)⟩


theorem twice_small (s : ByteArray) (p c : Int) (b : Bool) (w : World) (hs : s.size ≤ 1048576) (p0 : 0 ≤ p) :
    Calls Yba.prog 4 #[.string s, .int .u64 p, .int .u8 c, .bool b] w fun e w' => e = .returned (.bool true) ∧ Below w.heap.size w w' := by
  obtain ⟨pos, hp, hpos⟩ := start_pos p s.size hs
  have hq := nx_le s pos hp
  have hn := fun w => next_any s pos w hs hp
  cases b with
  | true =>
    by_cases hlt : nx s pos < s.size
    · have hq2 := nx_le s (nx s pos + 1) hlt
      have hn2 := fun w => next_any s (nx s pos + 1) w hs hlt
      rw [show ((nx s pos + 1 : Nat) : Int) = (nx s pos : Int) + 1 from rfl] at hn2
      by_cases h2 : byteAt s (nx s (nx s pos + 1)) = byteAt s (nx s pos)
      · exact twice_2 s p c w hs p0 pos hpos _ _ hq.2 hn hlt (fun w b h => accept_yes s b pos _ w hs hp h rfl) _ _ hq2.2 hn2 (by simp [h2]) (fun w b h => accept_yes s b (nx s pos + 1) _ w hs hlt h h2)
      · exact twice_3 s p c w hs p0 pos hpos _ _ hq.2 hn hlt (fun w b h => accept_yes s b pos _ w hs hp h rfl) _ _ hq2.2 hn2 (by simp [h2]) (fun w b h => accept_no s b (nx s pos + 1) _ w hs hlt h h2)
    · exact twice_1 s p c w hs p0 pos hpos _ _ hq.2 hn (by omega) (fun w b h => accept_yes s b pos _ w hs hp h rfl)
  | false =>
    by_cases h1 : byteAt s (nx s pos) = c
    · by_cases hlt : nx s pos < s.size
      · have hq2 := nx_le s (nx s pos + 1) hlt
        have hn2 := fun w => next_any s (nx s pos + 1) w hs hlt
        rw [show ((nx s pos + 1 : Nat) : Int) = (nx s pos : Int) + 1 from rfl] at hn2
        by_cases h2 : byteAt s (nx s (nx s pos + 1)) = c
        · exact twice_6 s p c w hs p0 pos hpos _ _ hq.2 hn hlt (by simp [h1]) (by simp [h1]) (fun w b h => accept_yes s b pos _ w hs hp h h1) _ _ hq2.2 hn2 (by simp [h2]) (fun w b h => accept_yes s b (nx s pos + 1) _ w hs hlt h h2)
        · exact twice_7 s p c w hs p0 pos hpos _ _ hq.2 hn hlt (by simp [h1]) (by simp [h1]) (fun w b h => accept_yes s b pos _ w hs hp h h1) _ _ hq2.2 hn2 (by simp [h2]) (fun w b h => accept_no s b (nx s pos + 1) _ w hs hlt h h2)
      · exact twice_5 s p c w hs p0 pos hpos _ _ hq.2 hn (by omega) (by simp [h1]) (by simp [h1]) (fun w b h => accept_yes s b pos _ w hs hp h h1)
    · exact twice_4 s p c w hs p0 pos hpos _ _ hq.2 hn (by simp [h1]) (by simp [h1]) (fun w b h => accept_no s b pos _ w hs hp h h1)
end Go.Proofs.Ybulkczpi
