import Derived.Test.YbulkczpwSame
namespace Go.Proofs.Ybulkczpw
open Go.RowKit

theorem wpList_mlen {w : World} {b n c : Nat} {f : Nat → Option Value} {ops : Array Oper} {rest : List Oper} {o : Oper} {a : Act} {Q : Exit → Act → World → Prop} (hg : o.guard = none) (m : Operand) (t e : TypeId)
    (hop : o.op = Op.call { callee := Callee.builtin Builtin.len, args := #[m], argTypes := #[t] }) (ht : Yba.prog.underlying t = some (.map 29 e)) (hM : MapIs w b n f c) (hm : a.eval m = .map (some b))
    (h : wpList Yba.prog ops Q rest (a.put o.dst (.int .i64 (c : Int))) w) : wpList Yba.prog ops Q (o :: rest) a w := by
  refine wpList_plain hg fun K' hK' => ?_
  unfold Oper.wp
  simp [execOp, hop, resolve, invoke, builtin, hm, hM.len ht o.type, Result.andThen]
  exact hK' _ _ h

theorem owns_fr {w w' : World} {B : Nat} {t : TypeId} {v : Value} {n : Nat} {xs : List Value} (h : w.ownsRow B t 1 v n xs) (hf : Fr [] w w') : w'.ownsRow B t 1 v n xs := by
  obtain ⟨h3, h4 | ⟨g, cap, cur, h5, h6, h7, h8⟩⟩ := h
  · exact ⟨h3, .inl h4⟩
  · exact ⟨h3, .inr ⟨g, cap, cur, h5, h6, (hf.block g (lt_of_block h7) (by simp)).trans h7, h8⟩⟩

/-- The places: session j stands at place j. -/
def PlIs (w : World) (pb m : Nat) : Prop := ∃ cs, w.heap[pb]? = some (.cells cs 26 (0, 0)) ∧ ∀ j, j < m → cs[j]? = some (plS j)
theorem PlIs.cell {w : World} {pb m j : Nat} (h : PlIs w pb m) (hj : j < m) : w.cell? ⟨pb, j, none⟩ = some (.int .i32 (j : Int)) := by
  obtain ⟨cs, h1, h2⟩ := h
  exact (cell_block h1 j).1.trans (h2 j hj)
theorem PlIs.fr {w w' : World} {pb m : Nat} (h : PlIs w pb m) (hf : Fr [] w w') : PlIs w' pb m := by
  obtain ⟨cs, h1, h2⟩ := h
  exact ⟨cs, (hf.block pb (lt_of_block h1) (by simp)).trans h1, h2⟩

section
variable {w : World} {B B1 B2 tb mb mp ab nb cap nc pb pc : Nat} {ls : Nat → Int} {pf : Nat → Bool} {pa : Nat → Nat} {k m : Nat} {v1 v2 : Value}

set_option maxRecDepth 10000 in
set_option maxHeartbeats 2000000 in
theorem check_all (h : Rep w B tb mb mp (.slice (some ⟨ab, 0, none⟩) m cap) (.slice (some ⟨nb, 0, none⟩) (5 * m) nc) ls pf pa k m) (hm0 : 0 < m) (hkm : k = m) (hpl : PlIs w pb m) (h1 : w.ownsRow B1 3 1 v1 (logL pf k).length (logL pf k)) (h2 : w.ownsRow B2 3 1 v2 (logL pf k).length (logL pf k)) :
    Calls Yba.prog 11 #[.pointer (some ⟨tb, 0, none⟩), .slice (some ⟨pb, 0, none⟩) m pc, .int .i64 (k : Int), v1, v2, .int .i64 (cntP pf k m : Int)] w fun e w' => e = .returned (.bool true) ∧ Fr [] w w' := by
  obtain ⟨⟨c0, c1, c2, c3, c4, c5⟩, c6, c7, c8, c9, c10, c11⟩ := h.tab.cells
  rw [if_pos hkm] at c9 c10
  have HR : Hid (Rep w B tb mb mp (.slice (some ⟨ab, 0, none⟩) m cap) (.slice (some ⟨nb, 0, none⟩) (5 * m) nc) ls pf pa k m) := h
  have HP : Hid (PlIs w pb m) := hpl
  have H1 : Hid (w.ownsRow B1 3 1 v1 (logL pf k).length (logL pf k)) := h1
  have H2 : Hid (w.ownsRow B2 3 1 v2 (logL pf k).length (logL pf k)) := h2
  have hle := h.le
  have hm := h.lim
  have eb : ((m : Int) - (k : Int) != (m : Int) - (k : Int)) = false := by simp
  have ekm : ((k : Int) == (m : Int)) = true := by simp; omega
  have HK : Hid (k = m) := hkm
  clear hkm
  clear h hpl h1 h2 c0 c1 c3 c5 c6 c7 c8
  go_enter Yba.func11, Yba.ntmps11
  go_wp2
  go_loop [14, 15] (fun p j => ∃ x : Nat, k ≤ x ∧ x ≤ m ∧ j = .int .i64 (x : Int) ∧ p = .int .i32 (if x = m then -1 else (x : Int))) (fun _ j => m - (intOf j).toNat)
  case atStart => exact ⟨k, Nat.le_refl _, hle, rfl, by rw [if_pos HK.out]⟩
  case round =>
    obtain ⟨x, hx1, hx2, rfl, rfl⟩ := hrel
    by_cases hlt : x < m
    · have := HK.out
      omega
    · have hxm : x = m := by omega
      rw [if_pos hxm]
      clear hxm
      go_wp2
      go_loopw [16] (fun i wr => ∃ x : Nat, x ≤ m ∧ i = .int .i64 (x : Int) ∧ Fr [] w wr) (fun i _ => m - (intOf i).toNat)
      case atStart => exact ⟨0, by omega, rfl, by first | exact Fr.refl _ _ | exact (Fr.refl _ _).drewN _⟩
      case round =>
        obtain ⟨y, hy, rfl, hfr⟩ := hrel
        have HFr : Hid (Fr [] w wr) := hfr
        have HRr : Hid (Rep wr B tb mb mp (.slice (some ⟨ab, 0, none⟩) m cap) (.slice (some ⟨nb, 0, none⟩) (5 * m) nc) ls pf pa k m) := HR.out.keep hfr
        clear hfr
        by_cases hylt : y < m
        · go_wp2_with fail
          refine (mkid_any wr y (by omega)).mono ?_
          rintro e w1 ⟨rfl, rfl⟩
          have hnew : (wr.alloc (.cells #[.int .u8 (nmB y 0 : Nat), .int .u8 (nmB y 1 : Nat), .int .u8 (nmB y 2 : Nat)] 5)).heap[wr.heap.size]? = some (.cells #[.int .u8 (nmB y 0 : Nat), .int .u8 (nmB y 1 : Nat), .int .u8 (nmB y 2 : Nat)] 5 (0, 0)) := heap_alloc_new wr _
          have hf1 : Fr [] w (wr.alloc (.cells #[.int .u8 (nmB y 0 : Nat), .int .u8 (nmB y 1 : Nat), .int .u8 (nmB y 2 : Nat)] 5)) := HFr.out.alloc _
          generalize (wr.alloc (.cells #[.int .u8 (nmB y 0 : Nat), .int .u8 (nmB y 1 : Nat), .int .u8 (nmB y 2 : Nat)] 5)) = w1 at *
          have HR1 : Hid (Rep w1 B tb mb mp (.slice (some ⟨ab, 0, none⟩) m cap) (.slice (some ⟨nb, 0, none⟩) (5 * m) nc) ls pf pa k m) := HR.out.keep hf1
          have hid : ∀ x, x < 3 → w1.cell? ⟨wr.heap.size, 0 + x, none⟩ = some (.int .u8 (nmB y x : Int)) := fun x hx => by
            rw [Nat.zero_add, (cell_block hnew x).1]
            rcases x with _ | _ | _ | x
            · rfl
            · rfl
            · rfl
            · omega
          have HID : Hid (∀ x, x < 3 → w1.cell? ⟨wr.heap.size, 0 + x, none⟩ = some (.int .u8 (nmB y x : Int))) := hid
          have HF1 : Hid (Fr [] w w1) := hf1
          have p1 := (HP.out.fr hf1).cell hylt
          clear hid hf1 hnew
          go_wp2_with fail
          refine (find_any HR1.out hylt HID.out).mono ?_
          rintro e w2 ⟨rfl, n2, rfl⟩
          have HF2 : Hid (Fr [] w (w1.drewN n2)) := HF1.out.drewN n2
          have eb3 : ((y : Int) != (y : Int)) = false := by simp
          by_cases hyk : y < k
          · rw [if_pos hyk]
            have g1 : decide ((y : Int) < (k : Int)) = true := by simpa using hyk
            have g2 : decide ((k : Int) ≤ (y : Int)) = false := by simp; omega
            go_wp2
            go_round
            case rel => exact ⟨y + 1, by omega, by go_num, HF2.out⟩
            case measure => simp [intOf]; omega
          · have := HK.out
            omega
        · have hlen := logL_le pf k
          go_wp2_with fail
          refine (same_any (owns_fr H1.out HFr.out) (owns_fr H2.out HFr.out) (by omega) (logL_ints pf k)).mono ?_
          rintro e w2 ⟨rfl, n2, rfl⟩
          obtain ⟨n', _, hp⟩ := HRr.out.psh
          have HM : Hid (MapIs (wr.drewN n2) mp n' (pmap pf pa k m) (cntP pf k m)) := hp.drewN n2
          have d11 := HRr.out.tab.cells.2.2.2.2.2.2
          clear hp
          go_wp2_with (at_len; refine wpList_mlen rfl _ 27 38 rfl Yba.underlying27 HM.out rfl ?_)
          go_ret
          exact ⟨ret_bool (by simp), HFr.out.drewN _⟩

set_option maxRecDepth 10000 in
set_option maxHeartbeats 2000000 in
theorem check_some (h : Rep w B tb mb mp (.slice (some ⟨ab, 0, none⟩) m cap) (.slice (some ⟨nb, 0, none⟩) (5 * m) nc) ls pf pa k m) (hm0 : 0 < m) (hkm : ¬k = m) (hpl : PlIs w pb m) (h1 : w.ownsRow B1 3 1 v1 (logL pf k).length (logL pf k)) (h2 : w.ownsRow B2 3 1 v2 (logL pf k).length (logL pf k)) :
    Calls Yba.prog 11 #[.pointer (some ⟨tb, 0, none⟩), .slice (some ⟨pb, 0, none⟩) m pc, .int .i64 (k : Int), v1, v2, .int .i64 (cntP pf k m : Int)] w fun e w' => e = .returned (.bool true) ∧ Fr [] w w' := by
  obtain ⟨⟨c0, c1, c2, c3, c4, c5⟩, c6, c7, c8, c9, c10, c11⟩ := h.tab.cells
  rw [if_neg hkm] at c9 c10
  have HR : Hid (Rep w B tb mb mp (.slice (some ⟨ab, 0, none⟩) m cap) (.slice (some ⟨nb, 0, none⟩) (5 * m) nc) ls pf pa k m) := h
  have HP : Hid (PlIs w pb m) := hpl
  have H1 : Hid (w.ownsRow B1 3 1 v1 (logL pf k).length (logL pf k)) := h1
  have H2 : Hid (w.ownsRow B2 3 1 v2 (logL pf k).length (logL pf k)) := h2
  have hle := h.le
  have hm := h.lim
  have eb : ((m : Int) - (k : Int) != (m : Int) - (k : Int)) = false := by simp
  have ekm : ((k : Int) == (m : Int)) = false := by simp; omega
  clear h hpl h1 h2 c0 c1 c3 c5 c6 c7 c8
  go_enter Yba.func11, Yba.ntmps11
  go_wp2
  go_loop [14, 15] (fun p j => ∃ x : Nat, k ≤ x ∧ x ≤ m ∧ j = .int .i64 (x : Int) ∧ p = .int .i32 (if x = m then -1 else (x : Int))) (fun _ j => m - (intOf j).toNat)
  case atStart => exact ⟨k, Nat.le_refl _, hle, rfl, by rw [if_neg hkm]⟩
  case round =>
    obtain ⟨x, hx1, hx2, rfl, rfl⟩ := hrel
    by_cases hlt : x < m
    · rw [if_neg (show ¬x = m by omega)]
      have p1 := HP.out.cell hlt
      have a8 := (HR.out.all.cell (f := 8) hlt (by decide)).1
      rw [cellS_live hx1] at a8
      simp only [live] at a8
      have eb2 : ((x : Int) != (x : Int)) = false := by simp
      generalize hv : (if x + 1 = m then (-1 : Int) else (x : Int) + 1) = vv at a8
      go_wp2
      go_round
      case rel => exact ⟨x + 1, by omega, by omega, by go_num, by rw [← hv]; rfl⟩
      case measure => simp [intOf]; omega
    · have hxm : x = m := by omega
      rw [if_pos hxm]
      clear hxm
      have pm : w.cell? ⟨pb, m - 1, none⟩ = some (.int .i32 ((m : Int) - 1)) := by
        have := HP.out.cell (j := m - 1) (by omega)
        rw [this]
        congr 2
        omega
      go_wp2
      go_quiet (fail)
      go_wp2
      go_loopw [16] (fun i wr => ∃ x : Nat, x ≤ m ∧ i = .int .i64 (x : Int) ∧ Fr [] w wr) (fun i _ => m - (intOf i).toNat)
      case atStart => exact ⟨0, by omega, rfl, by first | exact Fr.refl _ _ | exact (Fr.refl _ _).drewN _⟩
      case round =>
        obtain ⟨y, hy, rfl, hfr⟩ := hrel
        have HFr : Hid (Fr [] w wr) := hfr
        have HRr : Hid (Rep wr B tb mb mp (.slice (some ⟨ab, 0, none⟩) m cap) (.slice (some ⟨nb, 0, none⟩) (5 * m) nc) ls pf pa k m) := HR.out.keep hfr
        clear hfr
        by_cases hylt : y < m
        · go_wp2_with fail
          refine (mkid_any wr y (by omega)).mono ?_
          rintro e w1 ⟨rfl, rfl⟩
          have hnew : (wr.alloc (.cells #[.int .u8 (nmB y 0 : Nat), .int .u8 (nmB y 1 : Nat), .int .u8 (nmB y 2 : Nat)] 5)).heap[wr.heap.size]? = some (.cells #[.int .u8 (nmB y 0 : Nat), .int .u8 (nmB y 1 : Nat), .int .u8 (nmB y 2 : Nat)] 5 (0, 0)) := heap_alloc_new wr _
          have hf1 : Fr [] w (wr.alloc (.cells #[.int .u8 (nmB y 0 : Nat), .int .u8 (nmB y 1 : Nat), .int .u8 (nmB y 2 : Nat)] 5)) := HFr.out.alloc _
          generalize (wr.alloc (.cells #[.int .u8 (nmB y 0 : Nat), .int .u8 (nmB y 1 : Nat), .int .u8 (nmB y 2 : Nat)] 5)) = w1 at *
          have HR1 : Hid (Rep w1 B tb mb mp (.slice (some ⟨ab, 0, none⟩) m cap) (.slice (some ⟨nb, 0, none⟩) (5 * m) nc) ls pf pa k m) := HR.out.keep hf1
          have hid : ∀ x, x < 3 → w1.cell? ⟨wr.heap.size, 0 + x, none⟩ = some (.int .u8 (nmB y x : Int)) := fun x hx => by
            rw [Nat.zero_add, (cell_block hnew x).1]
            rcases x with _ | _ | _ | x
            · rfl
            · rfl
            · rfl
            · omega
          have HID : Hid (∀ x, x < 3 → w1.cell? ⟨wr.heap.size, 0 + x, none⟩ = some (.int .u8 (nmB y x : Int))) := hid
          have HF1 : Hid (Fr [] w w1) := hf1
          have p1 := (HP.out.fr hf1).cell hylt
          clear hid hf1 hnew
          go_wp2_with fail
          refine (find_any HR1.out hylt HID.out).mono ?_
          rintro e w2 ⟨rfl, n2, rfl⟩
          have HF2 : Hid (Fr [] w (w1.drewN n2)) := HF1.out.drewN n2
          have eb3 : ((y : Int) != (y : Int)) = false := by simp
          by_cases hyk : y < k
          · rw [if_pos hyk]
            have g1 : decide ((y : Int) < (k : Int)) = true := by simpa using hyk
            have g2 : decide ((k : Int) ≤ (y : Int)) = false := by simp; omega
            go_wp2
            go_round
            case rel => exact ⟨y + 1, by omega, by go_num, HF2.out⟩
            case measure => simp [intOf]; omega
          · rw [if_neg hyk]
            have g1 : decide ((y : Int) < (k : Int)) = false := by simp; omega
            have g2 : decide ((k : Int) ≤ (y : Int)) = true := by simp; omega
            go_wp2
            go_round
            case rel => exact ⟨y + 1, by omega, by go_num, HF2.out⟩
            case measure => simp [intOf]; omega
        · have hlen := logL_le pf k
          go_wp2_with fail
          refine (same_any (owns_fr H1.out HFr.out) (owns_fr H2.out HFr.out) (by omega) (logL_ints pf k)).mono ?_
          rintro e w2 ⟨rfl, n2, rfl⟩
          obtain ⟨n', _, hp⟩ := HRr.out.psh
          have HM : Hid (MapIs (wr.drewN n2) mp n' (pmap pf pa k m) (cntP pf k m)) := hp.drewN n2
          have d11 := HRr.out.tab.cells.2.2.2.2.2.2
          clear hp
          go_wp2_with (at_len; refine wpList_mlen rfl _ 27 38 rfl Yba.underlying27 HM.out rfl ?_)
          go_ret
          exact ⟨ret_bool (by simp), HFr.out.drewN _⟩

theorem check_any (h : Rep w B tb mb mp (.slice (some ⟨ab, 0, none⟩) m cap) (.slice (some ⟨nb, 0, none⟩) (5 * m) nc) ls pf pa k m) (hm0 : 0 < m) (hpl : PlIs w pb m) (h1 : w.ownsRow B1 3 1 v1 (logL pf k).length (logL pf k)) (h2 : w.ownsRow B2 3 1 v2 (logL pf k).length (logL pf k)) :
    Calls Yba.prog 11 #[.pointer (some ⟨tb, 0, none⟩), .slice (some ⟨pb, 0, none⟩) m pc, .int .i64 (k : Int), v1, v2, .int .i64 (cntP pf k m : Int)] w fun e w' => e = .returned (.bool true) ∧ Fr [] w w' := by
  by_cases hkm : k = m
  · exact check_all h hm0 hkm hpl h1 h2
  · exact check_some h hm0 hkm hpl h1 h2
end
end Go.Proofs.Ybulkczpw
