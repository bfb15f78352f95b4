import Derived.Test.YbulkczpwFind
import Derived.Deep.DeepCutAuto
import Derived.Deep.CutBlock
namespace Go.Proofs.Ybulkczpw
open Go.RowKit

/-! ### laws at the operation -/
section
variable {w : World} {b n c : Nat} {f : Nat → Option Value} {ops : Array Oper} {rest : List Oper} {o : Oper} {a : Act} {K : Act → World → Prop} {Q : Exit → Act → World → Prop}

theorem wp_del (m x : Operand) (t e : TypeId) (hop : o.op = Op.call { callee := Callee.builtin Builtin.delete, args := #[m, x], argTypes := #[t, 29] }) (ht : Yba.prog.underlying t = some (.map 29 e))
    (hM : MapIs w b n f c) (key : Nat) (hk : key < 18446744073709551616) (kv : Int) (hkv : kv = (key : Int)) (hm : a.eval m = .map (some b)) (hx : a.eval x = .int .u64 kv)
    (h : ∀ w', MapIs w' b n (fun k => if k = key then none else f k) (if (f key).isSome then c - 1 else c) → w.mapTurned w' b → K (a.put o.dst (.tuple #[])) w') : o.wp Yba.prog a w K Q := by
  subst hkv
  obtain ⟨w', hrun, r1, r2⟩ := hM.del ht o.type hk
  unfold Oper.wp
  simp [execOp, hop, resolve, invoke, builtin, hm, hx, hrun, Result.andThen]
  exact h w' r1 r2

theorem wpList_del (hg : o.guard = none) (m x : Operand) (t e : TypeId) (hop : o.op = Op.call { callee := Callee.builtin Builtin.delete, args := #[m, x], argTypes := #[t, 29] }) (ht : Yba.prog.underlying t = some (.map 29 e))
    (hM : MapIs w b n f c) (key : Nat) (hk : key < 18446744073709551616) (kv : Int) (hkv : kv = (key : Int)) (hm : a.eval m = .map (some b)) (hx : a.eval x = .int .u64 kv)
    (h : ∀ w', MapIs w' b n (fun k => if k = key then none else f k) (if (f key).isSome then c - 1 else c) → w.mapTurned w' b → wpList Yba.prog ops Q rest (a.put o.dst (.tuple #[])) w') : wpList Yba.prog ops Q (o :: rest) a w :=
  wpList_plain hg fun _ hK => wp_del m x t e hop ht hM key hk kv hkv hm hx fun w' r1 r2 => hK _ _ (h w' r1 r2)

theorem step_del {E : Prop} (hg : o.guard = none) (m x : Operand) (t e : TypeId) (hop : o.op = Op.call { callee := Callee.builtin Builtin.delete, args := #[m, x], argTypes := #[t, 29] }) (ht : Yba.prog.underlying t = some (.map 29 e))
    (hM : MapIs w b n f c) (key : Nat) (hk : key < 18446744073709551616) (kv : Int) (hkv : kv = (key : Int)) (hm : a.eval m = .map (some b)) (hx : a.eval x = .int .u64 kv)
    (h : ∀ w', MapIs w' b n (fun k => if k = key then none else f k) (if (f key).isSome then c - 1 else c) → w.mapTurned w' b → K (a.put o.dst (.tuple #[])) w') :
    if Region.wanted o (yielded ops a.tmps) = true then Oper.wp Yba.prog o a w K Q else E := by
  have hw : Region.wanted o (yielded ops a.tmps) = true := by simp [Region.wanted, hg]
  rw [if_pos hw]
  exact wp_del m x t e hop ht hM key hk kv hkv hm hx h

theorem wpList_put (hg : o.guard = none) (m x v : Operand) (t e : TypeId) (hop : o.op = Op.mapUpdate t m x v) (ht : Yba.prog.underlying t = some (.map 29 e))
    (hM : MapIs w b n f c) (hn : n < 4294967296) (key : Nat) (hk : key < 18446744073709551616) (val : Value) (hm : a.eval m = .map (some b)) (hx : a.eval x = .int .u64 (key : Int)) (hv : a.eval v = val)
    (h : ∀ w', MapIs w' b (n + 1) (fun k => if k = key then some val else f k) (if (f key).isSome then c else c + 1) → w.mapTurned w' b → wpList Yba.prog ops Q rest (a.put o.dst undef) w') : wpList Yba.prog ops Q (o :: rest) a w := by
  refine wpList_plain hg fun K' hK' => ?_
  obtain ⟨w', hrun, r1, r2⟩ := hM.put ht hn hk val
  unfold Oper.wp
  simp [execOp, hop, hm, hx, hv, hrun, Result.andThen]
  exact hK' _ _ (h w' r1 r2)
end

/-! ### what the switch leaves -/
def A1 (ls : Nat → Int) (k m j f : Nat) : Value := if k < j ∧ f = 9 then .int .i32 (lastIn (k + 1) j (hs j)) else cellS ls k m j f

theorem lastIn_is {k m h : Nat} (e : lastIn k m h = (k : Int)) : hs k = h := by
  rcases lastIn_spec k h m with h1 | ⟨l, h1, _, _, h2⟩
  · omega
  · obtain rfl : l = k := by omega
    exact h2

theorem hmap_same {k m h : Nat} (hne : lastIn k m h ≠ (k : Int)) : hmap k m h = hmap (k + 1) m h := by
  unfold hmap
  rw [lastIn_succ, if_neg hne]

theorem hmap_gone {k m : Nat} (e : lastIn k m (hs k) = (k : Int)) (h : Nat) : (if h = hs k then none else hmap k m h) = hmap (k + 1) m h := by
  by_cases h1 : h = hs k
  · subst h1
    rw [if_pos rfl]
    unfold hmap
    rw [lastIn_succ, if_pos e, if_pos rfl]
  · rw [if_neg h1]
    exact hmap_same (fun h2 => h1 (lastIn_is h2).symm)

theorem A1_only {ls : Nat → Int} {k m : Nat} (e : lastIn k m (hs k) = (k : Int)) (j f : Nat) (hj : j < m) : cellS ls k m j f = A1 ls k m j f := by
  unfold A1
  split
  · rename_i h1
    rw [cellS_live (by omega), h1.2, lastIn_succ, if_neg]
    · rfl
    · intro h2
      have h3 := lastIn_is h2
      have := lastIn_ge (k := k) (m := m) (by omega) h3.symm hj
      omega
  · rfl

theorem A1_chain {ls : Nat → Int} {k m q : Nat} (hq : k < q) (e : lastIn k q (hs q) = (k : Int)) (j f : Nat) : upd (cellS ls k m) q 9 noS j f = A1 ls k m j f := by
  unfold A1 upd
  by_cases h1 : j = q ∧ f = 9
  · obtain ⟨rfl, rfl⟩ := h1
    rw [if_pos ⟨rfl, rfl⟩, if_pos ⟨hq, rfl⟩, lastIn_succ, if_pos e]
  · rw [if_neg h1]
    split
    · rename_i h2
      rw [cellS_live (by omega), h2.2, lastIn_succ, if_neg]
      · rfl
      · intro h3
        have h4 := lastIn_is h3
        have h5 := lastIn_is e
        rcases Nat.lt_trichotomy j q with h6 | h6 | h6
        · have := lastIn_ge (k := k) (h := hs q) (by omega) (h4.symm.trans h5) q h6
          omega
        · exact h1 ⟨h6, h2.2⟩
        · have := lastIn_ge (k := k) (h := hs j) (by omega) (h5.symm.trans h4) j h6
          omega
    · rfl
end Go.Proofs.Ybulkczpw
