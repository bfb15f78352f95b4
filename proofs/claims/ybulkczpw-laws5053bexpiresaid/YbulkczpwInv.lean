import Derived.Test.YbulkczpwT1
namespace Go.Proofs.Ybulkczpw
open Go.RowKit

/-! ### a region that draws its order, by what holds whichever operations have come up -/
def left (l : Array Bool) : Nat := l.toList.count false

theorem left_set {l : Array Bool} {i : Nat} (h : l.getD i true = false) : left (l.setIfInBounds i true) + 1 = left l := by
  have hi : i < l.size := by
    rcases Nat.lt_or_ge i l.size with h1 | h1
    · exact h1
    · simp [Array.getElem?_eq_none h1] at h
  have h' : l.toList[i]'(by simpa using hi) = false := by simpa [hi] using h
  have hpos : 0 < l.toList.count false := List.count_pos_iff.2 (h' ▸ List.getElem_mem _)
  unfold left
  rw [Array.toList_setIfInBounds, List.count_set (by simpa using hi), h']
  show l.toList.count false - 1 + 0 + 1 = l.toList.count false
  omega

section
variable {P : Program} {ops : Array Oper} {Q : Exit → Act → World → Prop}

theorem wpAny_inv {md : Region.Mode} (I : Array Bool → Act → World → Prop)
    (hend : ∀ l a w, I l a w → Region.ready md ops l = [] → Q .normal a w)
    (hstep : ∀ l a w i, I l a w → i ∈ Region.ready md ops l → wpOp P ops Q i (I (l.setIfInBounds i true)) a w) :
    ∀ (fuel : Nat) (l : Array Bool) (a : Act) (w : World), left l ≤ fuel → I l a w → wpAny P md ops Q fuel l a w
  | 0, l, a, w, hf, h => by
    have hn : Region.ready md ops l = [] := by
      rw [List.eq_nil_iff_forall_not_mem]
      intro i hi
      have := left_set (mem_ready.1 hi).1
      omega
    exact ⟨hn, hend _ _ _ h hn⟩
  | fuel + 1, l, a, w, hf, h => ⟨hend l a w h, fun i hi => wpOp_mono (fun a' w' h' => wpAny_inv I hend hstep fuel _ a' w' (by have := left_set (mem_ready.1 hi).1; omega) h') (hstep l a w i h hi)⟩

theorem wp_region_inv {id : Nat} {a : Act} {w : World} (hm : P.follows .mixedOrders = true) (I : Array Bool → Act → World → Prop) (h0 : I (Array.replicate ops.size false) a w.drew)
    (hend : ∀ l a w, I l a w → Region.ready .any ops l = [] → Q .normal a w)
    (hstep : ∀ l a w i, I l a w → i ∈ Region.ready .any ops l → wpOp P ops Q i (I (l.setIfInBounds i true)) a w) : (Code.region id ops true).wp P Q a w :=
  wp_region_any hm (wpAny_inv I hend hstep _ _ _ _ (by simp [left]) h0)

/-- What of an operation matters. -/
abbrev sig (o : Oper) : Option Tmp × Op × Option (Nat × Bool) × Bool × List Nat := (o.dst, o.op, o.guard, o.after.toList.all (Region.binds .any), o.after.toList.map (·.on))

theorem sig_at {K : List (Option Tmp × Op × Option (Nat × Bool) × Bool × List Nat)} (hk : ops.toList.map sig = K) {j : Nat} {x : Option Tmp × Op × Option (Nat × Bool) × Bool × List Nat} (hx : K[j]? = some x) : ∃ o, ops[j]? = some o ∧ sig o = x := by
  rw [← hk, List.getElem?_map, Option.map_eq_some_iff] at hx
  obtain ⟨o, h1, h2⟩ := hx
  exact ⟨o, by simpa using h1, h2⟩

theorem ready_on {l : Array Bool} {j : Nat} {o : Oper} (hr : j ∈ Region.ready .any ops l) (ho : ops[j]? = some o) (hb : o.after.toList.all (Region.binds .any) = true) :
    l.getD j true = false ∧ ∀ d ∈ o.after.toList.map (·.on), l.getD d false = true := by
  obtain ⟨h1, o', h2, h3⟩ := mem_ready.1 hr
  rw [ho] at h2
  cases h2
  refine ⟨h1, fun d hd => ?_⟩
  obtain ⟨e, he, rfl⟩ := List.mem_map.1 hd
  exact h3 e (by simpa using he) (by simpa using List.all_eq_true.1 hb e he)

theorem end_on {l : Array Bool} {j : Nat} {o : Oper} (hr : Region.ready .any ops l = []) (ho : ops[j]? = some o) (hj : j < l.size) (hd : ∀ d ∈ o.after.toList.map (·.on), l.getD d false = true) : l.getD j false = true := by
  by_cases h : l.getD j true = false
  · exact absurd (mem_ready.2 ⟨h, o, ho, fun e he _ => hd e.on (List.mem_map.2 ⟨e, by simpa using he, rfl⟩)⟩) (by rw [hr]; simp)
  · simpa [hj] using h

theorem wpOp_value {i : Nat} {o : Oper} {a : Act} {w w' : World} {v : Value} {K : Act → World → Prop} (ho : ops[i]? = some o) (hg : o.guard = none) (hrun : (execOp a.eval o).run P w = .ok (.value v) w') (hK : K (a.put o.dst v) w') : wpOp P ops Q i K a w := by
  unfold wpOp
  simp only [ho]
  have hw : Region.wanted o (yielded ops a.tmps) = true := by simp [Region.wanted, hg]
  rw [if_pos hw]
  refine .inl ?_
  unfold Oper.wp
  rw [hrun]
  exact hK

theorem wpOp_call {i : Nat} {o : Oper} {a : Act} {w : World} {f : FuncId} {args : Array Value} {K : Act → World → Prop} {R : Ending → World → Prop} (ho : ops[i]? = some o) (hg : o.guard = none) (hrun : (execOp a.eval o).run P w = .ok (.enter f args) w) (hC : Calls P f args w R)
    (hK : ∀ e w', R e w' → ∃ v, e = .returned v ∧ K (a.put o.dst v) w') : wpOp P ops Q i K a w := by
  unfold wpOp
  simp only [ho]
  have hw : Region.wanted o (yielded ops a.tmps) = true := by simp [Region.wanted, hg]
  rw [if_pos hw]
  refine .inl ?_
  unfold Oper.wp
  rw [hrun]
  refine hC.mono fun e w' he => ?_
  obtain ⟨v, rfl, h⟩ := hK e w' he
  exact h
end

/-! ### frames that differ in some slots only -/
structure Off (L : List Nat) (a a' : Act) : Prop where
  defers : a'.defers = a.defers
  size : a'.tmps.size = a.tmps.size
  same : ∀ s, s ∉ L → a'.tmps[s]? = a.tmps[s]?

theorem Off.refl (L : List Nat) (a : Act) : Off L a a := ⟨rfl, rfl, fun _ _ => rfl⟩
theorem Off.put {L : List Nat} {a a' : Act} (h : Off L a a') {d : Nat} (hd : d ∈ L) (v : Value) : Off L a (a'.put (some d) v) :=
  ⟨h.defers, by simpa [Act.put] using h.size, fun s hs => by
    have hne : d ≠ s := fun e => hs (e ▸ hd)
    simp only [Act.put, Array.getElem?_setIfInBounds, if_neg hne]
    exact h.same s hs⟩

def putAll (f : Nat → Value) (L : List Nat) (a : Act) : Act := L.foldl (fun x s => x.put (some s) (f s)) a

theorem putAll_spec (f : Nat → Value) : ∀ (L : List Nat) (a : Act), (putAll f L a).defers = a.defers ∧ (putAll f L a).tmps.size = a.tmps.size ∧ ∀ s, s < a.tmps.size → (putAll f L a).tmps[s]? = if s ∈ L then some (f s) else a.tmps[s]?
  | [], a => ⟨rfl, rfl, fun s _ => by simp [putAll]⟩
  | d :: L, a => by
    obtain ⟨h1, h2, h3⟩ := putAll_spec f L (a.put (some d) (f d))
    have hs : (a.put (some d) (f d)).tmps.size = a.tmps.size := by simp [Act.put]
    refine ⟨h1, h2.trans hs, fun s hs' => ?_⟩
    show (putAll f L (a.put (some d) (f d))).tmps[s]? = _
    rw [h3 s (by rw [hs]; exact hs')]
    by_cases h4 : s ∈ L
    · simp [h4]
    · by_cases h5 : s = d
      · subst h5; simp [Act.put, hs']
      · simp [h4, h5, Act.put, Ne.symm h5]

theorem Off.eq {L : List Nat} {a a' : Act} (h : Off L a a') : a' = putAll (fun s => a'.tmps.getD s undef) L a := by
  obtain ⟨h1, h2, h3⟩ := putAll_spec (fun s => a'.tmps.getD s undef) L a
  obtain ⟨t, d⟩ := a'
  have e2 : (putAll (fun s => t.getD s undef) L a).tmps = t := by
    apply Array.ext_getElem?
    intro s
    rcases Nat.lt_or_ge s a.tmps.size with hlt | hge
    · rw [h3 s hlt]
      have hst : s < t.size := by have := h.size; simp at this; omega
      by_cases hm : s ∈ L
      · rw [if_pos hm]; simp [hst]
      · rw [if_neg hm]; exact (h.same s hm).symm
    · rw [Array.getElem?_eq_none (by rw [h2]; exact hge), Array.getElem?_eq_none (by have := h.size; simp at this; omega)]
  have e1 : (putAll (fun s => t.getD s undef) L a).defers = d := h1.trans h.defers.symm
  show (⟨t, d⟩ : Act) = putAll (fun s => t.getD s undef) L a
  have : ∀ x : Act, x.tmps = t → x.defers = d → (⟨t, d⟩ : Act) = x := by
    rintro ⟨_, _⟩ rfl rfl
    rfl
  exact this _ e2 e1
end Go.Proofs.Ybulkczpw
