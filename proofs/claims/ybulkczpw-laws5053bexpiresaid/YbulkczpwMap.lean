import Derived.Test.YbulkczpwProg
import Derived.Maps.OwnSet
import Derived.WalkKit
namespace Go.Proofs.Ybulkczpw
open Go.RowKit

/-- Whatever value is held is told as it stands. -/
def rdAny (v : Value) : Option (DataW Value × List MemPlace) := some (.held v, [])

theorem key64 : Maps.Keyed Yba.prog 29 := Maps.int_keyed Yba.underlying29

theorem key_wf {key : Nat} (h : key < 18446744073709551616) : (Lit.int .u64 (key : Int)).wf = true := by
  have h1 : IntKind.u64.min = 0 := by decide
  have h2 : IntKind.u64.max = 18446744073709551615 := by decide
  simp [Lit.wf]; omega

theorem keyOf64 {key : Nat} (h : key < 18446744073709551616) : keyOf Yba.prog 29 (.int .u64 (key : Int)) = some (.int .u64 (key : Int)) := Maps.keyOf_int_mk Yba.underlying29 (key_wf h)

/-- BLOCK b IS A MAP keyed by uint64 of c entries: f says what lies at each key. -/
def MapIs (w : World) (b n : Nat) (f : Nat → Option Value) (c : Nat) : Prop :=
  ∃ D : DataW Value, w.ownsMap Yba.prog 29 rdAny b n D ∧ Maps.size D = c ∧
    ∀ key : Nat, key < 18446744073709551616 → (∀ z, D.atKey (.int .u64 (key : Int)) (.held z) = .held ((f key).getD z)) ∧ Maps.has D (.int .u64 (key : Int)) = (f key).isSome

variable {w w' : World} {b n c : Nat} {f : Nat → Option Value}

theorem MapIs.made (w : World) : MapIs (w.alloc (.map #[] 0)) w.heap.size 0 (fun _ => none) 0 :=
  ⟨_, World.ownsMap_made w _ _ _, rfl, fun _ _ => ⟨fun _ => rfl, rfl⟩⟩

theorem MapIs.keep (h : MapIs w b n f c) (hk : w'.heap[b]? = w.heap[b]?) : MapIs w' b n f c := by
  obtain ⟨D, ⟨es, clock, hb, F, hs, hD⟩, r⟩ := h
  exact ⟨D, ⟨es, clock, hk.trans hb, F, hs, hD⟩, r⟩

theorem MapIs.block (h : MapIs w b n f c) : ∃ es clock, w.heap[b]? = some (.map es clock) := by
  obtain ⟨D, ⟨es, clock, hb, _⟩, _⟩ := h
  exact ⟨es, clock, hb⟩

theorem MapIs.lt (h : MapIs w b n f c) : b < w.heap.size := by
  obtain ⟨D, hown, _⟩ := h
  exact hown.lt

/-- 'm[k]', 'v, ok := m[k]'. -/
theorem MapIs.look (h : MapIs w b n f c) {t e : TypeId} (ht : Yba.prog.underlying t = some (.map 29 e)) {z : Value} (hz : (zeroValue e).run Yba.prog w = .ok z w) {key : Nat} (hk : key < 18446744073709551616) :
    (Instr.lookup t (.map (some b)) (.int .u64 (key : Int)) false).run Yba.prog w = .ok ((f key).getD z) w ∧
    (Instr.lookup t (.map (some b)) (.int .u64 (key : Int)) true).run Yba.prog w = .ok (.tuple #[(f key).getD z, .bool (f key).isSome]) w := by
  obtain ⟨D, hown, _, hf⟩ := h
  obtain ⟨h1, h2⟩ := hf key hk
  obtain ⟨v, ps, hrun, hv⟩ := hown.lookup key64 ht hz (zd := .held z) (zp := []) rfl (keyOf64 hk)
  obtain ⟨v', ps', hrun', hv'⟩ := hown.look_ok key64 ht hz (zd := .held z) (zp := []) rfl (keyOf64 hk)
  rw [h1] at hv hv'
  simp [rdAny] at hv hv'
  rw [hrun, hrun', hv.1, hv'.1, h2]
  exact ⟨rfl, rfl⟩

/-- 'm[k] = v'. -/
theorem MapIs.put (h : MapIs w b n f c) {t e : TypeId} (ht : Yba.prog.underlying t = some (.map 29 e)) (hn : n < 4294967296) {key : Nat} (hk : key < 18446744073709551616) (val : Value) :
    ∃ w', (Instr.mapUpdate t (.map (some b)) (.int .u64 (key : Int)) val).run Yba.prog w = .ok () w' ∧ MapIs w' b (n + 1) (fun k => if k = key then some val else f k) (if (f key).isSome then c else c + 1) ∧ w.mapTurned w' b := by
  obtain ⟨D, hown, hc, hf⟩ := h
  obtain ⟨w', hrun, h1, h2⟩ := hown.store key64 ht (by unfold maxLen; omega) (keyOf64 hk) (d := .held val) (ps := []) (val := val) rfl
  refine ⟨w', hrun, ⟨_, h1, ?_, fun k hk' => ?_⟩, h2⟩
  · rw [Maps.size_put (hown.tidy key64), (hf key hk).2, hc]
  · by_cases e1 : k = key
    · subst e1
      refine ⟨fun z => ?_, ?_⟩
      · rw [Maps.atKey_put_same hown.isMap (key64.key (keyOf64 hk))]; simp
      · rw [Maps.has_put_same hown.isMap (key64.key (keyOf64 hk))]; simp
    · have hne : (Lit.int .u64 (k : Int)) ≠ Lit.int .u64 (key : Int) := fun e2 => e1 (by simp at e2; omega)
      refine ⟨fun z => ?_, ?_⟩
      · rw [Maps.atKey_put_other hne, (hf k hk').1 z]; simp [e1]
      · rw [Maps.has_put_other hne, (hf k hk').2]; simp [e1]

/-- 'delete(m, k)'. -/
theorem MapIs.del (h : MapIs w b n f c) {t e : TypeId} (ht : Yba.prog.underlying t = some (.map 29 e)) (ty : TypeId) {key : Nat} (hk : key < 18446744073709551616) :
    ∃ w', (Builtin.delete_ #[t, 29] ty #[.map (some b), .int .u64 (key : Int)]).run Yba.prog w = .ok (.tuple #[]) w' ∧ MapIs w' b n (fun k => if k = key then none else f k) (if (f key).isSome then c - 1 else c) ∧ w.mapTurned w' b := by
  obtain ⟨D, hown, hc, hf⟩ := h
  obtain ⟨w', hrun, h1, h2⟩ := hown.drop key64 ht (keyOf64 hk) ty
  refine ⟨w', hrun, ⟨_, h1, ?_, fun k hk' => ?_⟩, h2⟩
  · have := Maps.size_del (hown.tidy key64) (k := .int .u64 (key : Int))
    rw [(hf key hk).2] at this
    split at this <;> rename_i h0 <;> simp [h0] <;> omega
  · by_cases e1 : k = key
    · subst e1
      exact ⟨fun z => by rw [Maps.atKey_del_same]; simp, by rw [Maps.has_del_same]; simp⟩
    · have hne : (Lit.int .u64 (k : Int)) ≠ Lit.int .u64 (key : Int) := fun e2 => e1 (by simp at e2; omega)
      exact ⟨fun z => by rw [Maps.atKey_del_other hne, (hf k hk').1 z]; simp [e1], by rw [Maps.has_del_other hne, (hf k hk').2]; simp [e1]⟩

theorem MapIs.len (h : MapIs w b n f c) {t e : TypeId} (ht : Yba.prog.underlying t = some (.map 29 e)) (ty : TypeId) : (Builtin.len_ #[t] ty #[.map (some b)]).run Yba.prog w = .ok (.int .i64 (c : Int)) w := by
  obtain ⟨D, hown, hc, _⟩ := h
  rw [hown.len ht ty, hc]

theorem MapIs.congr (h : MapIs w b n f c) {f' : Nat → Option Value} (hf : ∀ k, f k = f' k) : MapIs w b n f' c := by
  obtain rfl : f = f' := funext hf
  exact h
theorem MapIs.mono (h : MapIs w b n f c) {n' : Nat} (hn : n ≤ n') : MapIs w b n' f c := by
  obtain ⟨D, hown, r⟩ := h
  exact ⟨D, hown.mono hn, r⟩

theorem mapTurned_block (h : w.mapTurned w' b) {k : Nat} (hk : k ≠ b) : w'.heap[k]? = w.heap[k]? := by
  obtain ⟨es, clock, es', clock', hb, rfl⟩ := h
  exact Go.ChangeMaps.heap_setBlock_other hb _ hk
end Go.Proofs.Ybulkczpw
