import Derived.Test.YbulkczqyDoorShelf
import Derived.WalkKit
import Derived.WalkSpells
import Derived.Lib.AppendStr
import Derived.Laws.BytesArg
import Derived.Lib.Repeat
import Derived.Deep.RegionHeld3
import Derived.Deep.AppendLies
import Derived.Deep.LoopGhost
import Derived.Deep.QuietTactic
import Derived.BigQuiet
import Derived.WalkSmall
namespace Go.Proofs.YbulkczqyDoor
open Go.RowKit

theorem Ybad.info5 : (Ybad.prog.info? 5).map (fun i => (i.zero, i.size, i.bytes)) = some (some (.int .u8 0), 1, 1) := by kernel_rfl
theorem Ybad.size5 : (Ybad.prog.info? 5).map (·.size) = some 1 := by kernel_rfl

/-- The string of a list of bytes. -/
abbrev str (l : List UInt8) : Value := .string ⟨l.toArray⟩

theorem nums_str (R : List UInt8) : strOfNums (R.map fun b => (b.toNat : Int)) = ⟨R.toArray⟩ := by
  unfold strOfNums
  congr 2
  rw [List.map_map]
  have : ((fun n : Int => UInt8.ofNat n.toNat) ∘ fun b : UInt8 => (b.toNat : Int)) = id := by
    funext b; simp
  rw [this, List.map_id]

/-- 'string(b)' of a row that the call has made. -/
theorem own_convert {w : World} {base : Nat} {v : Value} {R : List UInt8} (h : w.ownsRow base 5 1 v R.length (Lib.byteCells R)) :
    (convert 24 9 v).run Ybad.prog w = .ok (str R) w := by
  obtain ⟨_, ⟨rfl, h0⟩ | ⟨g, cap, cur, rfl, _⟩⟩ := id h
  · obtain rfl : R = [] := List.eq_nil_of_length_eq_zero h0
    exact run_convert_bytes_nil w 24 5 Ybad.underlying24 Ybad.underlying5 0 0 9 Ybad.underlying9
  · have := run_convert_bytes_arg (P := Ybad.prog) w 24 5 Ybad.underlying24 Ybad.underlying5 g 0 R.length cap (R.map fun b => (b.toNat : Int)) (by simp) (fun i hi => by
      rw [Nat.zero_add, h.cellAt i (by omega)]
      simp [Lib.byteCells, List.getElem?_eq_getElem hi, List.getD]) 9 Ybad.underlying9
    rwa [nums_str] at this

theorem rep_next (l : List UInt8) (k : Nat) : Lib.repeatL l (k + 1) = Lib.repeatL l k ++ l := by
  rw [Lib.repeatL_add, Lib.repeatL_one]

theorem rep_le (s : ByteArray) (k : Nat) (hs : s.size ≤ 1024) (hk : k ≤ 64) : (Lib.repeatL s.data.toList k).length ≤ 65536 := by
  rw [Lib.repeatL_length]
  have h1 : s.data.toList.length = s.size := Array.length_toList
  rw [h1]
  exact Nat.le_trans (Nat.mul_le_mul hk hs) (by decide)

set_option maxHeartbeats 400000 in
theorem rep_any (s : ByteArray) (d : Nat) (w : World) (hs : s.size ≤ 1024) (hd : d ≤ 64) :
    Calls Ybad.prog 8 #[.string s, .int .i64 (d : Int)] w fun e w' => e = .returned (str (Lib.repeatL s.data.toList d)) ∧ Below w.heap.size w w' := by
  obtain ⟨i0, hi, hz0, hz1, hz2⟩ := info_parts Ybad.info5
  generalize hT : str (Lib.repeatL s.data.toList d) = T
  have HT : Hid (str (Lib.repeatL s.data.toList d) = T) := hT
  clear hT
  go_enter Ybad.func8, Ybad.ntmps8
  go_wp2
  go_loopw [5, 6] (fun v i wr => ∃ k : Nat, k ≤ d ∧ i = .int .i64 (k : Int) ∧ wr.ownsRow w.heap.size 5 1 v (Lib.repeatL s.data.toList k).length (Lib.byteCells (Lib.repeatL s.data.toList k)) ∧ Below w.heap.size w wr) (fun _ i _ => d - (intOf i).toNat)
  case atStart => exact ⟨0, Nat.zero_le _, rfl, World.ownsRow_nil _ _ _ _, Below.refl _ _⟩
  case round =>
    obtain ⟨k, hk, rfl, hown, hb⟩ := hrel
    have hl := rep_le s k hs (by omega)
    have HR : Hid (∀ R, R = Lib.repeatL s.data.toList k → R ++ s.data.toList = Lib.repeatL s.data.toList (k + 1)) := fun R e => by rw [e, rep_next]
    have HE : Hid (k = d → Lib.repeatL s.data.toList k = Lib.repeatL s.data.toList d) := fun e => by rw [e]
    by_cases hlt : k < d
    · generalize hR : Lib.repeatL s.data.toList k = R at hown hl
      have HQ : Hid (R ++ s.data.toList = Lib.repeatL s.data.toList (k + 1)) := HR.out R hR.symm
      clear hR HR HE
      go_wp2_with (at_builtin; refine Lib.wpList_append_own_string _ rfl (.tmp 12) (.tmp 13) 24 9 rfl w.heap.size 5 i0 Ybad.underlying24 Ybad.underlying9 hi hz0 hz1 hz2 _ _ _ rfl hown s rfl ?c1 ?c2 ?c3 ?_)
      case c1 => unfold maxLen; omega
      case c2 => omega
      case c3 => exact hb.size
      intro v' w1 hown' hgrow _
      have h1 : w1.ownsRow w.heap.size 5 1 v' (Lib.repeatL s.data.toList (k + 1)).length (Lib.byteCells (Lib.repeatL s.data.toList (k + 1))) := by
        rw [← HQ.out]
        have e1 : Lib.byteCells (R ++ s.data.toList) = Lib.byteCells R ++ Lib.strCells s := by simp [Lib.byteCells, Lib.strCells]
        have e2 : (R ++ s.data.toList).length = R.length + s.size := by simp
        rw [e1, e2]; exact hown'
      have hb1 := hb.grown hgrow hb.size (fun k hk => (hown.lt k hk).1)
      clear hown' hgrow hown
      go_wp2
      go_roundw
      case rel => exact ⟨k + 1, by omega, by go_num, h1, hb1⟩
      case measure => simp [intOf]; omega
    · have e1 := HE.out (by omega)
      rw [e1] at hown
      have hcv := own_convert hown
      rw [HT.out] at hcv
      clear HR HE e1 hl hown
      go_wp2
      go_ret
      exact ⟨rfl, hb⟩
end Go.Proofs.YbulkczqyDoor
