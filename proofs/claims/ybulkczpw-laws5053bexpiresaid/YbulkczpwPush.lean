import Derived.Test.YbulkczpwMem
namespace Go.Proofs.Ybulkczpw
open Go.RowKit

abbrev noS : Value := .int .i32 (-1)
abbrev plS (p : Nat) : Value := .int .i32 (p : Int)

section
variable {w : World} {B tb mb mp ab m cap p : Nat} {nS : Value} {fr ct sr un od nw : Int} {A : Nat → Nat → Value}

set_option maxHeartbeats 400000 in
theorem push_first (hT : TabIs w tb mb mp (.slice (some ⟨ab, 0, none⟩) m cap) nS fr ct sr un od (-1)) (hA : OwnsA w B (.slice (some ⟨ab, 0, none⟩) m cap) m A) (hp : p < m) :
    Calls Yba.prog 15 #[.pointer (some ⟨tb, 0, none⟩), .int .i32 (p : Int)] w fun e w' => e = .returned (.tuple #[]) ∧
      TabIs w' tb mb mp (.slice (some ⟨ab, 0, none⟩) m cap) nS fr ct sr un p p ∧ OwnsA w' B (.slice (some ⟨ab, 0, none⟩) m cap) m (upd (upd A p 7 noS) p 8 noS) ∧ Fr [tb, ab] w w' := by
  obtain ⟨cur, hab, _⟩ := hA.open
  have hne : ab ≠ tb := ne_of_type hab hT (by decide)
  have hne' : tb ≠ ab := hne.symm
  obtain ⟨a7, g7⟩ := hA.cell (f := 7) hp (by decide)
  obtain ⟨a8, g8⟩ := hA.cell (f := 8) hp (by decide)
  obtain ⟨⟨_, _, c2, _⟩, _, _, _, c9, c10, _⟩ := hT.cells
  have f9 := hT.frozen 9
  have f10 := hT.frozen 10
  have HR : Hid (TabIs ((((w.setCell ⟨ab, p * 12 + 7, none⟩ (.int .i32 (-1))).setCell ⟨ab, p * 12 + 8, none⟩ (.int .i32 (-1))).setCell ⟨tb, 9, none⟩ (.int .i32 (p : Int))).setCell ⟨tb, 10, none⟩ (.int .i32 (p : Int))) tb mb mp (.slice (some ⟨ab, 0, none⟩) m cap) nS fr ct sr un p p) := by
    have h1 : TabIs ((w.setCell ⟨ab, p * 12 + 7, none⟩ (.int .i32 (-1))).setCell ⟨ab, p * 12 + 8, none⟩ (.int .i32 (-1))) tb mb mp (.slice (some ⟨ab, 0, none⟩) m cap) nS fr ct sr un od (-1) := by
      refine hT.keep ?_
      rw [set_other _ hne', set_other _ hne']
    exact set_block (set_block h1 9 _) 10 _
  have HA : Hid (OwnsA ((((w.setCell ⟨ab, p * 12 + 7, none⟩ (.int .i32 (-1))).setCell ⟨ab, p * 12 + 8, none⟩ (.int .i32 (-1))).setCell ⟨tb, 9, none⟩ (.int .i32 (p : Int))).setCell ⟨tb, 10, none⟩ (.int .i32 (p : Int))) B (.slice (some ⟨ab, 0, none⟩) m cap) m (upd (upd A p 7 noS) p 8 noS)) := by
    refine OwnsA.keep ((hA.set (by decide) _).set (by decide) _) (fun g hg => ?_)
    cases hg
    rw [set_other _ hne, set_other _ hne]
  clear hT hA hab
  go_enter Yba.func15, Yba.ntmps15
  go_wp2
  go_end0
  exact ⟨rfl, HR.out, HA.out, ((((Fr.refl _ w).setCell _ (by simp)).setCell _ (by simp)).setCell _ (by simp)).setCell _ (by simp)⟩

set_option maxHeartbeats 400000 in
theorem push_more {q : Nat} (hT : TabIs w tb mb mp (.slice (some ⟨ab, 0, none⟩) m cap) nS fr ct sr un od (q : Int)) (hA : OwnsA w B (.slice (some ⟨ab, 0, none⟩) m cap) m A) (hp : p < m) (hq : q < m) :
    Calls Yba.prog 15 #[.pointer (some ⟨tb, 0, none⟩), .int .i32 (p : Int)] w fun e w' => e = .returned (.tuple #[]) ∧
      TabIs w' tb mb mp (.slice (some ⟨ab, 0, none⟩) m cap) nS fr ct sr un od p ∧ OwnsA w' B (.slice (some ⟨ab, 0, none⟩) m cap) m (upd (upd (upd A p 7 (plS q)) p 8 noS) q 8 (plS p)) ∧ Fr [tb, ab] w w' := by
  obtain ⟨cur, hab, _⟩ := hA.open
  have hne : ab ≠ tb := ne_of_type hab hT (by decide)
  have hne' : tb ≠ ab := hne.symm
  obtain ⟨a7, g7⟩ := hA.cell (f := 7) hp (by decide)
  obtain ⟨a8, g8⟩ := hA.cell (f := 8) hp (by decide)
  have hA2 := (hA.set (j := p) (f := 7) (by decide) (plS q)).set (j := p) (f := 8) (by decide) noS
  obtain ⟨q8, k8⟩ := hA2.cell (f := 8) hq (by decide)
  generalize upd (upd A p 7 (plS q)) p 8 noS q 8 = xq at q8
  obtain ⟨⟨_, _, c2, _⟩, _, _, _, c9, c10, _⟩ := hT.cells
  have f9 := hT.frozen 9
  have f10 := hT.frozen 10
  have HR : Hid (TabIs ((((w.setCell ⟨ab, p * 12 + 7, none⟩ (plS q)).setCell ⟨ab, p * 12 + 8, none⟩ (.int .i32 (-1))).setCell ⟨ab, q * 12 + 8, none⟩ (.int .i32 (p : Int))).setCell ⟨tb, 10, none⟩ (.int .i32 (p : Int))) tb mb mp (.slice (some ⟨ab, 0, none⟩) m cap) nS fr ct sr un od p) := by
    have h1 : TabIs (((w.setCell ⟨ab, p * 12 + 7, none⟩ (plS q)).setCell ⟨ab, p * 12 + 8, none⟩ (.int .i32 (-1))).setCell ⟨ab, q * 12 + 8, none⟩ (.int .i32 (p : Int))) tb mb mp (.slice (some ⟨ab, 0, none⟩) m cap) nS fr ct sr un od q := by
      refine hT.keep ?_
      rw [set_other _ hne', set_other _ hne', set_other _ hne']
    exact set_block h1 10 _
  have HA : Hid (OwnsA ((((w.setCell ⟨ab, p * 12 + 7, none⟩ (plS q)).setCell ⟨ab, p * 12 + 8, none⟩ (.int .i32 (-1))).setCell ⟨ab, q * 12 + 8, none⟩ (.int .i32 (p : Int))).setCell ⟨tb, 10, none⟩ (.int .i32 (p : Int))) B (.slice (some ⟨ab, 0, none⟩) m cap) m (upd (upd (upd A p 7 (plS q)) p 8 noS) q 8 (plS p))) := by
    refine OwnsA.keep (hA2.set (by decide) _) (fun g hg => ?_)
    cases hg
    rw [set_other _ hne]
  have e1 : ((q : Int) != -1) = true := by simp
  have e2 : (0 : Int) ≤ (q : Int) := by omega
  clear hT hA hab hA2
  go_enter Yba.func15, Yba.ntmps15
  go_wp2
  go_region
  go_wp2
  go_end0
  exact ⟨rfl, HR.out, HA.out, (((((Fr.refl _ w).setCell _ (by simp)).setCell _ (by simp)).setCell _ (by simp)).setCell _ (by simp)).drew⟩
end
end Go.Proofs.Ybulkczpw
