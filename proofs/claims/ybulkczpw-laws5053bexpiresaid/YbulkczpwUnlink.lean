import Derived.Test.YbulkczpwPush
namespace Go.Proofs.Ybulkczpw
open Go.RowKit

section
variable {w : World} {B tb mb mp ab m cap p : Nat} {nS : Value} {fr ct sr un od nw : Int} {A : Nat → Nat → Value}

set_option maxHeartbeats 400000 in
theorem unlink_last (hT : TabIs w tb mb mp (.slice (some ⟨ab, 0, none⟩) m cap) nS fr ct sr un od nw) (hA : OwnsA w B (.slice (some ⟨ab, 0, none⟩) m cap) m A) (hp : p < m) (h7 : A p 7 = noS) (h8 : A p 8 = noS) :
    Calls Yba.prog 24 #[.pointer (some ⟨tb, 0, none⟩), .int .i32 (p : Int)] w fun e w' => e = .returned (.tuple #[]) ∧
      TabIs w' tb mb mp (.slice (some ⟨ab, 0, none⟩) m cap) nS fr ct sr un (-1) (-1) ∧ OwnsA w' B (.slice (some ⟨ab, 0, none⟩) m cap) m A ∧ Fr [tb, ab] w w' := by
  obtain ⟨cur, hab, _⟩ := hA.open
  have hne : ab ≠ tb := ne_of_type hab hT (by decide)
  have hne' : tb ≠ ab := hne.symm
  obtain ⟨a7, g7⟩ := hA.cell (f := 7) hp (by decide)
  obtain ⟨a8, g8⟩ := hA.cell (f := 8) hp (by decide)
  rw [h7] at a7
  rw [h8] at a8
  obtain ⟨⟨_, _, c2, _⟩, _, _, _, c9, c10, _⟩ := hT.cells
  have f9 := hT.frozen 9
  have f10 := hT.frozen 10
  have HR : Hid (TabIs ((w.setCell ⟨tb, 9, none⟩ noS).setCell ⟨tb, 10, none⟩ noS) tb mb mp (.slice (some ⟨ab, 0, none⟩) m cap) nS fr ct sr un (-1) (-1)) := set_block (set_block hT 9 _) 10 _
  have HA : Hid (OwnsA ((w.setCell ⟨tb, 9, none⟩ noS).setCell ⟨tb, 10, none⟩ noS) B (.slice (some ⟨ab, 0, none⟩) m cap) m A) := by
    refine OwnsA.keep hA (fun g hg => ?_)
    cases hg
    rw [set_other _ hne, set_other _ hne]
  clear hT hA hab h7 h8
  go_enter Yba.func24, Yba.ntmps24
  go_wp2
  go_end0
  exact ⟨rfl, HR.out, HA.out, ((Fr.refl _ w).setCell _ (by simp)).setCell _ (by simp)⟩

set_option maxHeartbeats 400000 in
theorem unlink_more {q : Nat} (hT : TabIs w tb mb mp (.slice (some ⟨ab, 0, none⟩) m cap) nS fr ct sr un od nw) (hA : OwnsA w B (.slice (some ⟨ab, 0, none⟩) m cap) m A) (hp : p < m) (hq : q < m) (h7 : A p 7 = noS) (h8 : A p 8 = plS q) :
    Calls Yba.prog 24 #[.pointer (some ⟨tb, 0, none⟩), .int .i32 (p : Int)] w fun e w' => e = .returned (.tuple #[]) ∧
      TabIs w' tb mb mp (.slice (some ⟨ab, 0, none⟩) m cap) nS fr ct sr un q nw ∧ OwnsA w' B (.slice (some ⟨ab, 0, none⟩) m cap) m (upd A q 7 noS) ∧ Fr [tb, ab] w w' := by
  obtain ⟨cur, hab, _⟩ := hA.open
  have hne : ab ≠ tb := ne_of_type hab hT (by decide)
  have hne' : tb ≠ ab := hne.symm
  obtain ⟨a7, g7⟩ := hA.cell (f := 7) hp (by decide)
  obtain ⟨a8, g8⟩ := hA.cell (f := 8) hp (by decide)
  obtain ⟨q7, k7⟩ := hA.cell (f := 7) hq (by decide)
  rw [h7] at a7
  rw [h8] at a8
  obtain ⟨⟨_, _, c2, _⟩, _, _, _, c9, c10, _⟩ := hT.cells
  have f9 := hT.frozen 9
  have f10 := hT.frozen 10
  have HR : Hid (TabIs ((w.setCell ⟨tb, 9, none⟩ (plS q)).setCell ⟨ab, q * 12 + 7, none⟩ noS) tb mb mp (.slice (some ⟨ab, 0, none⟩) m cap) nS fr ct sr un q nw) := by
    have h1 : TabIs (w.setCell ⟨tb, 9, none⟩ (plS q)) tb mb mp (.slice (some ⟨ab, 0, none⟩) m cap) nS fr ct sr un q nw := set_block hT 9 _
    refine h1.keep ?_
    rw [set_other _ hne']
  have HA : Hid (OwnsA ((w.setCell ⟨tb, 9, none⟩ (plS q)).setCell ⟨ab, q * 12 + 7, none⟩ noS) B (.slice (some ⟨ab, 0, none⟩) m cap) m (upd A q 7 noS)) := by
    refine OwnsA.set (OwnsA.keep hA (fun g hg => ?_)) (by decide) _
    cases hg
    rw [set_other _ hne]
  have e1 : ((q : Int) != -1) = true := by simp
  have e2 : (0 : Int) ≤ (q : Int) := by omega
  clear hT hA hab h7 h8
  go_enter Yba.func24, Yba.ntmps24
  go_wp2
  go_region
  go_wp2
  go_end0
  exact ⟨rfl, HR.out, HA.out, (((Fr.refl _ w).setCell _ (by simp)).setCell _ (by simp)).drew⟩

theorem ret_slice {a : Option Addr} {x y : Nat} (h : x = y) : Ending.returned (.slice a x x) = .returned (.slice a y y) := by rw [h]

/-- 'name'. -/
theorem name_any {aS : Value} {nb nl nc a c : Nat} {ai : Int} (hT : TabIs w tb mb mp aS (.slice (some ⟨nb, 0, none⟩) nl nc) fr ct sr un od nw) (hai : ai = (a : Int)) (hc0 : 0 < c) (hc : c < 16) (ha : a + c ≤ nl) (hn : nl ≤ nc) (hl : nl ≤ 65536) :
    Calls Yba.prog 28 #[.pointer (some ⟨tb, 0, none⟩), .int .i64 ai, .int .u32 (c : Int)] w fun e w' => e = .returned (.slice (some ⟨nb, a, none⟩) c c) ∧ w = w' := by
  obtain ⟨_, _, c7, _⟩ := hT.cells
  subst hai
  clear hT
  go_enter Yba.func28, Yba.ntmps28
  go_wp2
  go_ret
  exact ⟨ret_slice (by omega), rfl⟩
end
end Go.Proofs.Ybulkczpw
