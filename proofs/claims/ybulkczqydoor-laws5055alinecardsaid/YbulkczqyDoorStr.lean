import Derived.Test.YbulkczqyDoorFlush
import Derived.Stop.IfaceNil
import Derived.Stop.Asserts
namespace Go.Proofs.YbulkczqyDoor
open Go.RowKit

/-- 'copy(dst, s)' from a string, as one step of a region that draws its order. -/
theorem step_copy_str {P : Program} {ops : Array Oper} {o : Oper} {a : Act} {w : World} {K : Act → World → Prop} {Q : Exit → Act → World → Prop} {E : Prop} (hgd : o.guard = none) (d s : Operand) (dT sT : TypeId)
    (ho : o.op = .call { callee := .builtin .copy, args := #[d, s], argTypes := #[dT, sT] }) (elem : TypeId) (hu : P.underlying dT = some (.slice elem)) (hsz : (P.info? elem).map (·.size) = some 1)
    (g off dLen dCap n : Nat) (dp : Option Addr) (x : ByteArray) (hd : a.eval d = .slice dp dLen dCap) (hs : a.eval s = .string x) (cur : Array Value) (t : TypeId) (hg : w.heap[g]? = some (.cells cur t (0, 0)))
    (hn : Nat.min x.size dLen = n) (hpos : 0 < n → dp = some ⟨g, off, none⟩) (hfit : off + n ≤ cur.size)
    (h : ∀ w', Hid (w' = w.setRow g (cur.toList.take off ++ Lib.byteCells (x.data.toList.take n) ++ cur.toList.drop (off + n)).toArray) → K (a.put o.dst (goInt n)) w') :
    if Region.wanted o (yielded ops a.tmps) = true then Oper.wp P o a w K Q else E := by
  have hw : Region.wanted o (yielded ops a.tmps) = true := by simp [Region.wanted, hgd]
  rw [if_pos hw]
  subst hn
  have hrun := run_copy_str (P := P) w dT sT o.type elem g off dLen dCap dp x cur t hu hsz hg hpos hfit
  unfold Oper.wp
  simp only [execOp, ho, resolve, invoke, builtin, Sem.run_bind, Sem.run_pure, Result.andThen_ok, List.map_toArray, List.map_cons, List.map_nil, hd, hs, hrun]
  exact h _ (show _ = _ from rfl)

theorem Wr.buf {w : World} {B bw bf bW : Nat} {fl hd : List UInt8} (h : Wr w B bw bf bW fl hd) : ∃ cur, Hid (w.heap[bf]? = some (.cells cur 5 (0, 0))) ∧ cur.size = 4096 := by
  obtain ⟨v, cur, _, _, h3, h4, _⟩ := h
  exact ⟨cur, h3, h4⟩

/-- The writer's own cells behind the copy. -/
theorem Wr.rowCells {w w2 : World} {B bw bf bW : Nat} {fl hd : List UInt8} {cs : Array Value} (h : Wr w B bw bf bW fl hd) (hne : bf ≠ bW) (he : w2 = w.setRow bf cs) :
    w2.cell? ⟨bW, 0, none⟩ = some .nilIface ∧ w2.cell? ⟨bW, 1, none⟩ = some (.slice (some ⟨bf, 0, none⟩) 4096 4096) ∧ w2.cell? ⟨bW, 2, none⟩ = some (.int .i64 hd.length) ∧ w2.frozen? ⟨bW, 2, none⟩ = false := by
  obtain ⟨v, cur, _, _, _, _, _, _, h7⟩ := h
  have e : w2.heap[bW]? = some (.cells (wrCells bf bw hd.length) 51 (0, 0)) := by rw [he, setRow_other w bf bW cs hne.symm]; exact h7
  have c := cell_block e
  exact ⟨(c 0).1, (c 1).1, (c 2).1, (c 2).2⟩

theorem Wr.putAll {w w2 : World} {B bw bf bW : Nat} {fl hd : List UInt8} {cur : Array Value} {n : Nat} {x : ByteArray} (h : Wr w B bw bf bW fl hd) (hp : Placed w B bw bf bW) (hcur : w.heap[bf]? = some (.cells cur 5 (0, 0)))
    (he : w2 = w.setRow bf (cur.toList.take hd.length ++ Lib.byteCells (x.data.toList.take n) ++ cur.toList.drop (hd.length + n)).toArray) (hn : n ≤ x.size) (hfit : hd.length + n ≤ 4096) :
    Wr (w2.setCell ⟨bW, 2, none⟩ (.int .i64 ((hd.length : Int) + (n : Int)))) B bw bf bW fl (hd ++ x.data.toList.take n) ∧ Fr B bw bf bW w (w2.setCell ⟨bW, 2, none⟩ (.int .i64 ((hd.length : Int) + (n : Int)))) := by
  have hl : (x.data.toList.take n).length = n := by
    have : x.data.toList.length = x.size := Array.length_toList
    rw [List.length_take, this]; omega
  have k := h.put hcur ⟨hp.lts.1, hp.lts.2.1, hp.lts.2.2.1⟩ hp.nes (x.data.toList.take n) (by omega)
  have e2 : (((hd ++ x.data.toList.take n).length : Nat) : Int) = (hd.length : Int) + (n : Int) := by rw [List.length_append, hl]; rfl
  rw [e2, hl] at k
  subst he
  exact ⟨k, ((Fr.refl B bw bf bW w).setRow _).setCell (.inr (.inr rfl)) _⟩

/-- The same, the count's spelling left open. -/
theorem Wr.putSome {w w2 : World} {B bw bf bW : Nat} {fl hd : List UInt8} {cur : Array Value} {n : Nat} {x : ByteArray} (h : Wr w B bw bf bW fl hd) (hp : Placed w B bw bf bW) (hcur : w.heap[bf]? = some (.cells cur 5 (0, 0)))
    (he : w2 = w.setRow bf (cur.toList.take hd.length ++ Lib.byteCells (x.data.toList.take n) ++ cur.toList.drop (hd.length + n)).toArray) (hn : n ≤ x.size) (hfit : hd.length + n ≤ 4096) (v : Int) (hv : v = (hd.length : Int) + (n : Int)) :
    Wr (w2.setCell ⟨bW, 2, none⟩ (.int .i64 v)) B bw bf bW fl (hd ++ x.data.toList.take n) ∧ Fr B bw bf bW w (w2.setCell ⟨bW, 2, none⟩ (.int .i64 v)) ∧ Placed (w2.setCell ⟨bW, 2, none⟩ (.int .i64 v)) B bw bf bW := by
  have k := h.putAll hp hcur he hn hfit
  rw [← hv] at k
  exact ⟨k.1, k.2, hp.1, hp.2.1, hp.2.2.1, Nat.le_trans hp.2.2.2 k.2.size⟩

/-- What is left of the string behind a round. -/
theorem rest_data (r : ByteArray) (n : Nat) : (r.extract n r.size).data.toList = r.data.toList.drop n := by
  rw [Lib.extract_data]
  have : r.data.toList.length = r.size := Array.length_toList
  rw [List.take_of_length_le (by rw [List.length_drop]; omega)]
theorem rest_size (r : ByteArray) (n : Nat) : (r.extract n r.size).size = r.size - n := by simp

theorem round_text {fl hd fl' hd' r s : List UInt8} (n : Nat) (h : fl' ++ hd' ++ r = fl ++ hd ++ s) : fl' ++ (hd' ++ r.take n) ++ [] ++ r.drop n = fl ++ hd ++ s := by
  rw [← h]; simp

theorem no_strwriter (a : Addr) (w : World) : (Instr.typeAssert (.iface 23 (.pointer (some a))) 46 63 true).run Ybad.prog w = .ok (.tuple #[.nilIface, .bool false]) w :=
  run_typeAssert_lacksB Ybad.underlying63 (by kernel_rfl) (by kernel_rfl) (.pointer (some a)) 46 w

set_option maxRecDepth 100000 in
set_option maxHeartbeats 1000000 in
theorem writestr_any (s : ByteArray) (w : World) (B bw bf bW : Nat) (fl hd : List UInt8) (hp : Placed w B bw bf bW) (h : Wr w B bw bf bW fl hd) (hlim : fl.length + hd.length + s.size ≤ 1048576) :
    Calls Ybad.prog 14 #[.pointer (some ⟨bW, 0, none⟩), .string s] w fun e w' => (∃ n : Int, e = .returned (.tuple #[.int .i64 n, .nilIface])) ∧ (∃ fl' hd', fl' ++ hd' = fl ++ hd ++ s.data.toList ∧ Wr w' B bw bf bW fl' hd') ∧ Fr B bw bf bW w w' := by
  have HW : Hid (Wr w B bw bf bW fl hd) := h
  have HP : Hid (Placed w B bw bf bW) := hp
  clear h hp
  go_enter Ybad.func14, Ybad.ntmps14
  go_wp2
  go_loopg [1, 6, 7, 8] (s.size + hd.length + 1) (fun gk vs sw tr nn wr => ∃ (r : ByteArray) (fl' hd' : List UInt8) (t : Bool) (k : Int), vs = .string r ∧ sw = .nilIface ∧ tr = .bool t ∧ nn = .int .i64 k ∧ 0 ≤ k ∧ k + r.size ≤ 1048576 ∧
      gk = r.size + hd'.length + 1 ∧ fl' ++ hd' ++ r.data.toList = fl ++ hd ++ s.data.toList ∧ Wr wr B bw bf bW fl' hd' ∧ Fr B bw bf bW w wr)
  case atStart => exact ⟨s, fl, hd, true, 0, rfl, rfl, rfl, rfl, by omega, by omega, rfl, rfl, HW.out, Fr.refl _ _ _ _ _⟩
  case round =>
    obtain ⟨r, fl', hd', t, k, rfl, rfl, rfl, rfl, k0, k1, rfl, heq, hwr, hfr⟩ := hrel
    have HE : Hid (fl' ++ hd' ++ r.data.toList = fl ++ hd ++ s.data.toList) := heq
    have HWr : Hid (Wr wr B bw bf bW fl' hd') := hwr
    have HFr : Hid (Fr B bw bf bW w wr) := hfr
    obtain ⟨c0, c1, c2, c3, f2⟩ := hwr.cells
    have hle := hwr.le
    have HPr : Hid (Placed wr B bw bf bW) := ⟨HP.out.1, HP.out.2.1, HP.out.2.2.1, Nat.le_trans HP.out.2.2.2 hfr.size⟩
    have hfl : fl'.length ≤ 1048576 := by
      have h1 := congrArg List.length heq
      have h2 : s.data.toList.length = s.size := Array.length_toList
      simp only [List.length_append, h2] at h1
      omega
    clear heq hwr hfr HW
    by_cases hfit : r.size + hd'.length ≤ 4096
    · go_wp2_with (go_at_call 16; refine (available_any _ B bw bf bW fl' hd' HWr.out).mono ?_; rintro e w1 ⟨rfl, ⟨m, rfl⟩⟩)
      obtain ⟨cur, Hcur, hcs⟩ := HWr.out.buf
      have j1 : (0 : Int) ≤ (hd'.length : Int) := by omega
      have j2 : (hd'.length : Int) ≤ 4096 := by omega
      have hr0 : 0 ≤ (r.size : Int) := by omega
      go_region_held3 (fun w' => w'.cell? ⟨bW, 1, none⟩ = some (.slice (some ⟨bf, 0, none⟩) 4096 4096) ∧ w'.cell? ⟨bW, 2, none⟩ = some (.int .i64 hd'.length)) (first | exact hS2 | go_keep)
        ((refine step_copy_str ?q1 (.tmp 101) (.tmp 102) 24 9 ?q2 5 Ybad.underlying24 Ybad.size5 bf hd'.length (4096 - hd'.length) (4096 - hd'.length) r.size (if 4096 = hd'.length then some ⟨bf, 0, none⟩ else some ⟨bf, hd'.length, none⟩) r ?q3 ?q4 cur 5 Hcur.out ?q5 ?q6 ?q7 ?q8; (case q1 => rfl); (case q2 => rfl); (case q3 => rfl); (case q4 => rfl); (case q5 => exact Nat.min_eq_left (by omega)); (case q6 => (intro hh; split <;> first | rfl | omega)); (case q7 => omega); intro w2 HE2; have hrc := (HWr.out.drewN m).drew.rowCells HP.out.nes.2.1 HE2.out; have hS2 := (show _ ∧ _ from ⟨hrc.2.1, hrc.2.2.1⟩)))
      have HPA : Hid _ := ((HWr.out.drewN m).drew).putAll (show Placed (wr.drewN m).drew B bw bf bW from HPr.out) Hcur.out HE2.out (Nat.le_refl _) (by omega)
      have HTk : Hid (r.data.toList.take r.size = r.data.toList) := List.take_of_length_le (Nat.le_of_eq Array.length_toList)
      clear c0 c1 c2 c3 f2 hS2
      go_wp2
      all_goals
        go_ret2
        refine ⟨⟨_, rfl⟩, ⟨fl', hd' ++ r.data.toList.take r.size, ?_, HPA.out.1⟩, ((HFr.out.drewN m).drew).trans HPA.out.2⟩
        rw [HTk.out]
        have := HE.out
        simp only [List.append_assoc] at this ⊢
        exact this
    · have hav : decide (4096 - (hd'.length : Int) < (r.size : Int)) = true := by simp; omega
      have hns := no_strwriter
      by_cases hz : hd'.length = 0
      · obtain rfl : hd' = [] := List.eq_nil_of_length_eq_zero hz
        cases t with
        | true =>
          go_wp2_with (first
            | (go_at_call 16; refine (available_any _ B bw bf bW fl' _ HWr.out).mono ?_; rintro e w1 ⟨rfl, ⟨m, rfl⟩⟩; have HW1 : Hid (Wr (wr.drewN m) B bw bf bW fl' []) := HWr.out.drewN m)
            | (go_at_call 10; refine (buffered_any _ B bw bf bW fl' _ HW1.out).mono ?_; rintro e w1 ⟨rfl, rfl⟩))
          obtain ⟨cur, Hcur, hcs⟩ := HW1.out.buf
          go_region_held3 (fun w' => w'.cell? ⟨bW, 1, none⟩ = some (.slice (some ⟨bf, 0, none⟩) 4096 4096) ∧ w'.cell? ⟨bW, 2, none⟩ = some (.int .i64 0)) (first | exact hS2 | go_keep)
            ((refine step_copy_str ?ya1 (.tmp 64) (.tmp 65) 24 9 ?ya2 5 Ybad.underlying24 Ybad.size5 bf 0 4096 4096 4096 (some ⟨bf, 0, none⟩) r ?ya3 ?ya4 cur 5 Hcur.out ?ya5 ?ya6 ?ya7 ?ya8; (case ya1 => rfl); (case ya2 => rfl); (case ya3 => rfl); (case ya4 => rfl); (case ya5 => exact Nat.min_eq_right (by omega)); (case ya6 => (intro hh; rfl)); (case ya7 => omega); intro w2 HE2; have hrc := HW1.out.drew.rowCells HP.out.nes.2.1 HE2.out; have hS2 := (show _ ∧ _ from ⟨hrc.2.1, hrc.2.2.1⟩)))
          have HPA : Hid _ := (HW1.out.drew).putSome (show Placed (wr.drewN m).drew B bw bf bW from HPr.out) Hcur.out HE2.out (by omega) (by simp) 4096 (by simp)
          clear c0 c1 c2 c3 f2 hS2
          go_wp2_with (go_at_call 7; refine (flush_any _ B bw bf bW fl' _ HPA.out.2.2 HPA.out.1 (by omega)).mono ?_; rintro e w4 ⟨rfl, hw4, hfr4⟩)
          go_roundg ((r.extract 4096 r.size).size + ([] : List UInt8).length + 1)
          case measure => rw [rest_size]; simp; omega
          case rel => exact ⟨r.extract 4096 r.size, _, [], false, k + 4096, rfl, rfl, rfl, rfl, by omega, by rw [rest_size]; omega, rfl, by rw [rest_data]; exact round_text 4096 HE.out, hw4, (((HFr.out.drewN m).drew).trans HPA.out.2.1).trans hfr4⟩
        | false =>
          go_wp2_with (first
            | (go_at_call 16; refine (available_any _ B bw bf bW fl' _ HWr.out).mono ?_; rintro e w1 ⟨rfl, ⟨m, rfl⟩⟩; have HW1 : Hid (Wr (wr.drewN m) B bw bf bW fl' []) := HWr.out.drewN m)
            | (go_at_call 10; refine (buffered_any _ B bw bf bW fl' _ HW1.out).mono ?_; rintro e w1 ⟨rfl, rfl⟩))
          obtain ⟨cur, Hcur, hcs⟩ := HW1.out.buf
          go_region_held3 (fun w' => w'.cell? ⟨bW, 1, none⟩ = some (.slice (some ⟨bf, 0, none⟩) 4096 4096) ∧ w'.cell? ⟨bW, 2, none⟩ = some (.int .i64 0)) (first | exact hS2 | go_keep)
            ((refine step_copy_str ?yb1 (.tmp 64) (.tmp 65) 24 9 ?yb2 5 Ybad.underlying24 Ybad.size5 bf 0 4096 4096 4096 (some ⟨bf, 0, none⟩) r ?yb3 ?yb4 cur 5 Hcur.out ?yb5 ?yb6 ?yb7 ?yb8; (case yb1 => rfl); (case yb2 => rfl); (case yb3 => rfl); (case yb4 => rfl); (case yb5 => exact Nat.min_eq_right (by omega)); (case yb6 => (intro hh; rfl)); (case yb7 => omega); intro w2 HE2; have hrc := HW1.out.drew.rowCells HP.out.nes.2.1 HE2.out; have hS2 := (show _ ∧ _ from ⟨hrc.2.1, hrc.2.2.1⟩)))
          have HPA : Hid _ := (HW1.out.drew).putSome (show Placed (wr.drewN m).drew B bw bf bW from HPr.out) Hcur.out HE2.out (by omega) (by simp) 4096 (by simp)
          clear c0 c1 c2 c3 f2 hS2
          go_wp2_with (go_at_call 7; refine (flush_any _ B bw bf bW fl' _ HPA.out.2.2 HPA.out.1 (by omega)).mono ?_; rintro e w4 ⟨rfl, hw4, hfr4⟩)
          go_roundg ((r.extract 4096 r.size).size + ([] : List UInt8).length + 1)
          case measure => rw [rest_size]; simp; omega
          case rel => exact ⟨r.extract 4096 r.size, _, [], false, k + 4096, rfl, rfl, rfl, rfl, by omega, by rw [rest_size]; omega, rfl, by rw [rest_data]; exact round_text 4096 HE.out, hw4, (((HFr.out.drewN m).drew).trans HPA.out.2.1).trans hfr4⟩
      · have e0 : ((hd'.length : Int) == 0) = false := by rw [beq_eq_false_iff_ne]; omega
        obtain ⟨n, hn⟩ : ∃ n, 4096 - hd'.length = n := ⟨_, rfl⟩
        have n1 : n + hd'.length ≤ 4096 := by omega
        have n2 : 4096 ≤ n + hd'.length := by omega
        have HN : Hid (4096 - hd'.length = n) := hn
        clear hn
        have j1 : (0 : Int) ≤ (hd'.length : Int) := by omega
        have j2 : (hd'.length : Int) ≤ 4096 := by omega
        go_wp2_with (first
          | (go_at_call 16; refine (available_any _ B bw bf bW fl' _ HWr.out).mono ?_; rintro e w1 ⟨rfl, ⟨m, rfl⟩⟩; have HW1 : Hid (Wr (wr.drewN m) B bw bf bW fl' hd') := HWr.out.drewN m)
          | (go_at_call 10; refine (buffered_any _ B bw bf bW fl' _ HW1.out).mono ?_; rintro e w1 ⟨rfl, rfl⟩))
        obtain ⟨cur, Hcur, hcs⟩ := HW1.out.buf
        go_region_held3 (fun w' => w'.cell? ⟨bW, 1, none⟩ = some (.slice (some ⟨bf, 0, none⟩) 4096 4096) ∧ w'.cell? ⟨bW, 2, none⟩ = some (.int .i64 hd'.length)) (first | exact hS2 | go_keep)
          ((refine step_copy_str ?yc1 (.tmp 64) (.tmp 65) 24 9 ?yc2 5 Ybad.underlying24 Ybad.size5 bf hd'.length (4096 - hd'.length) (4096 - hd'.length) n (if 4096 = hd'.length then some ⟨bf, 0, none⟩ else some ⟨bf, hd'.length, none⟩) r ?yc3 ?yc4 cur 5 Hcur.out ?yc5 ?yc6 ?yc7 ?yc8; (case yc1 => rfl); (case yc2 => rfl); (case yc3 => rfl); (case yc4 => rfl); (case yc5 => (rw [HN.out]; exact Nat.min_eq_right (by omega))); (case yc6 => (intro hh; split <;> first | rfl | omega)); (case yc7 => omega); intro w2 HE2; have hrc := HW1.out.drew.rowCells HP.out.nes.2.1 HE2.out; have hS2 := (show _ ∧ _ from ⟨hrc.2.1, hrc.2.2.1⟩)))
        have HPA : Hid _ := (HW1.out.drew).putSome (show Placed (wr.drewN m).drew B bw bf bW from HPr.out) Hcur.out HE2.out (by omega) (by omega) ((hd'.length : Int) + (n : Int)) rfl
        clear c0 c1 c2 c3 f2 hS2
        go_wp2_with (go_at_call 7; refine (flush_any _ B bw bf bW fl' _ HPA.out.2.2 HPA.out.1 (by omega)).mono ?_; rintro e w4 ⟨rfl, hw4, hfr4⟩)
        all_goals
          go_roundg ((r.extract n r.size).size + ([] : List UInt8).length + 1)
          case measure => rw [rest_size]; simp; omega
          case rel => exact ⟨r.extract n r.size, _, [], t, k + n, rfl, rfl, rfl, rfl, by omega, by rw [rest_size]; omega, rfl, by rw [rest_data]; exact round_text n HE.out, hw4, (((HFr.out.drewN m).drew).trans HPA.out.2.1).trans hfr4⟩
end Go.Proofs.YbulkczqyDoor
