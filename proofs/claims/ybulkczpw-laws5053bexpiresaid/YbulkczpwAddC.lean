import Derived.Test.YbulkczpwAddS
namespace Go.Proofs.Ybulkczpw
open Go.RowKit

/-- A session as 'add' lays it, ahead of 'push'. -/
def newC (lm li : Int) (m : Nat) : Nat → Value
  | 0 => .int .i64 (5 * (m : Int))
  | 1 => .int .u32 3
  | 2 => .int .u32 1
  | 3 => .int .u32 1
  | 4 => .int .i32 (m : Int)
  | 5 => .int .u64 ((m : Int) + 1)
  | 6 => .int .i64 lm
  | 7 => .int .i32 0
  | 8 => .int .i32 0
  | 9 => .int .i32 li
  | _ => .bool false
def A4 (ls : Nat → Int) (li : Int) (m j f : Nat) : Value := if j < m then cellS ls 0 m j f else newC (ls m) li m f

abbrev newW (w4 : World) (ab m : Nat) (lm li : Int) : World := ((((((((((((w4.setCell ⟨ab, m * 12, none⟩ (.int .i64 (5 * (m : Int)))).setCell ⟨ab, m * 12 + 1, none⟩ (.int .u32 3)).setCell ⟨ab, m * 12 + 2, none⟩ (.int .u32 1)).setCell ⟨ab, m * 12 + 3, none⟩ (.int .u32 1)).setCell ⟨ab, m * 12 + 4, none⟩ (.int .i32 (m : Int))).setCell ⟨ab, m * 12 + 5, none⟩ (.int .u64 ((m : Int) + 1))).setCell ⟨ab, m * 12 + 6, none⟩ (.int .i64 lm)).setCell ⟨ab, m * 12 + 7, none⟩ (.int .i32 0)).setCell ⟨ab, m * 12 + 8, none⟩ (.int .i32 0)).setCell ⟨ab, m * 12 + 9, none⟩ (.int .i32 li)).setCell ⟨ab, m * 12 + 10, none⟩ (.bool false)).setCell ⟨ab, m * 12 + 11, none⟩ (.bool false))

section
variable {w w4 : World} {B tb mb mp ab cap m : Nat} {aS0 nS : Value} {f : Nat → Option Value} {ls : Nat → Int} {pf : Nat → Bool} {pa : Nat → Nat} {ib hb rb bd : Nat} {sr od nw li : Int}

theorem AddS.drew {wx : World} {A : Nat → Nat → Value} (h : AddS w wx B tb mb mp ab cap m aS0 nS A f pf pa ib hb rb bd sr od nw) : AddS w wx.drew B tb mb mp ab cap m aS0 nS A f pf pa ib hb rb bd sr od nw :=
  ⟨h.tab, h.all, h.nam, h.byh, h.psh, ⟨h.ids.id, h.ids.host, h.ids.realm, h.ids.nid, h.ids.nhost, h.ids.nrealm⟩, h.fr.drew, h.fresh, h.lim, h.ne⟩

theorem add_fourth (h : AddS w w4 B tb mb mp ab cap m aS0 nS (Ax (cellS ls 0 m) m) f pf pa ib hb rb bd sr od nw) : AddS w (newW w4 ab m (ls m) li).drew B tb mb mp ab cap m aS0 nS (A4 ls li m) f pf pa ib hb rb bd sr od nw := by
  obtain ⟨n1, c1, hn1, hb⟩ := h.byh
  obtain ⟨cur, hab, _⟩ := h.all.open
  have hne : tb ≠ ab := (ne_of_type hab h.tab (by decide)).symm
  generalize hlm : ls m = lm
  have hF : Fr [tb, mb, ab] w4 (newW w4 ab m lm li) := (((((((((((((Fr.refl [tb, mb, ab] w4).setCell _ (by simp)).setCell _ (by simp)).setCell _ (by simp)).setCell _ (by simp)).setCell _ (by simp)).setCell _ (by simp)).setCell _ (by simp)).setCell _ (by simp)).setCell _ (by simp)).setCell _ (by simp)).setCell _ (by simp)).setCell _ (by simp))
  have hA := ((((((((((((h.all.set (j := m) (f := 0) (by decide) (.int .i64 (5 * (m : Int)))).set (j := m) (f := 1) (by decide) (.int .u32 3)).set (j := m) (f := 2) (by decide) (.int .u32 1)).set (j := m) (f := 3) (by decide) (.int .u32 1)).set (j := m) (f := 4) (by decide) (.int .i32 (m : Int))).set (j := m) (f := 5) (by decide) (.int .u64 ((m : Int) + 1))).set (j := m) (f := 6) (by decide) (.int .i64 lm)).set (j := m) (f := 7) (by decide) (.int .i32 0)).set (j := m) (f := 8) (by decide) (.int .i32 0)).set (j := m) (f := 9) (by decide) (.int .i32 li)).set (j := m) (f := 10) (by decide) (.bool false)).set (j := m) (f := 11) (by decide) (.bool false))
  refine AddS.drew (h.step (wy := newW w4 ab m lm li) ?_ ?_ ⟨n1, c1, hn1, ?_⟩ hF)
  · refine h.tab.keep ?_
    rw [set_other _ hne, set_other _ hne, set_other _ hne, set_other _ hne, set_other _ hne, set_other _ hne, set_other _ hne, set_other _ hne, set_other _ hne, set_other _ hne, set_other _ hne, set_other _ hne]
  · refine hA.congr (fun j f hj hf => ?_)
    unfold A4
    by_cases hjm : j = m
    · subst hjm
      rw [if_neg (by omega), hlm]
      match f, hf with
      | 0, _ => simp [upd, newC]
      | 1, _ => simp [upd, newC]
      | 2, _ => simp [upd, newC]
      | 3, _ => simp [upd, newC]
      | 4, _ => simp [upd, newC]
      | 5, _ => simp [upd, newC]
      | 6, _ => simp [upd, newC]
      | 7, _ => simp [upd, newC]
      | 8, _ => simp [upd, newC]
      | 9, _ => simp [upd, newC]
      | 10, _ => simp [upd, newC]
      | 11, _ => simp [upd, newC]
      | n + 12, h => omega
    · simp only [upd, hjm, false_and, if_false]
      unfold Ax
      rw [if_pos (by omega)]
      exact (if_pos (by omega)).symm
  · refine hb.keep ?_
    rw [set_other _ (ne_of_map hab hb).symm, set_other _ (ne_of_map hab hb).symm, set_other _ (ne_of_map hab hb).symm, set_other _ (ne_of_map hab hb).symm, set_other _ (ne_of_map hab hb).symm, set_other _ (ne_of_map hab hb).symm, set_other _ (ne_of_map hab hb).symm, set_other _ (ne_of_map hab hb).symm, set_other _ (ne_of_map hab hb).symm, set_other _ (ne_of_map hab hb).symm, set_other _ (ne_of_map hab hb).symm, set_other _ (ne_of_map hab hb).symm]
end
end Go.Proofs.Ybulkczpw
