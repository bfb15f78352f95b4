import Derived.Test.YbulkczpwCheck
namespace Go.Proofs.Ybulkczpw
open Go.RowKit

theorem OwnsA.slice {w : World} {B m : Nat} {v : Value} {A : Nat → Nat → Value} (h : OwnsA w B v m A) : ∃ ao ac, v = .slice ao m ac := by
  obtain ⟨xs, ⟨_, ⟨h1, h2⟩ | ⟨g, cap, cur, h1, _⟩⟩, _⟩ := h
  · exact ⟨none, 0, by rw [h1, h2]⟩
  · exact ⟨_, _, h1⟩

/-- The zero session's cells. -/
def zeroC (f : Nat) : Value := zeroS.getD f (.bool false)
/-- One session more, all zero. -/
def Ax (A : Nat → Nat → Value) (m j f : Nat) : Value := if j < m then A j f else zeroC f

theorem ownsA_more {w : World} {B m : Nat} {v : Value} {xs : List Value} {A : Nat → Nat → Value} (h : w.ownsRow B 54 12 v (m + 1) (xs ++ zeroS.toList)) (hl : xs.length = m * 12) (hA : ∀ j f, j < m → f < 12 → xs[j * 12 + f]? = some (A j f)) : OwnsA w B v (m + 1) (Ax A m) := by
  refine ⟨_, h, fun j f hj hf => ?_⟩
  unfold Ax
  by_cases hjm : j < m
  · rw [if_pos hjm, List.getElem?_append_left (by omega), hA j f hjm hf]
  · obtain rfl : j = m := by omega
    rw [if_neg hjm, List.getElem?_append_right (by omega)]
    have e : j * 12 + f - xs.length = f := by omega
    rw [e]
    unfold zeroC
    match f, hf with
    | 0, _ => rfl
    | 1, _ => rfl
    | 2, _ => rfl
    | 3, _ => rfl
    | 4, _ => rfl
    | 5, _ => rfl
    | 6, _ => rfl
    | 7, _ => rfl
    | 8, _ => rfl
    | 9, _ => rfl
    | 10, _ => rfl
    | 11, _ => rfl
    | n + 12, h => omega

/-- The three slices that 'add' is handed. -/
structure Ids (w : World) (nS : Value) (ib hb rb m : Nat) : Prop where
  id : ∃ fr, w.heap[ib]? = some (.cells #[.int .u8 (nmB m 0 : Nat), .int .u8 (nmB m 1 : Nat), .int .u8 (nmB m 2 : Nat)] 5 fr)
  host : ∃ fr, w.heap[hb]? = some (.cells #[.int .u8 104] 5 fr)
  realm : ∃ fr, w.heap[rb]? = some (.cells #[.int .u8 114] 5 fr)
  nid : nS.ownBlock ≠ some ib
  nhost : nS.ownBlock ≠ some hb
  nrealm : nS.ownBlock ≠ some rb

/-- What 'add' may turn. -/
abbrev addL (tb mb : Nat) (aS nS : Value) : List Nat := [tb, mb] ++ aS.ownBlock.toList ++ nS.ownBlock.toList

theorem mem_addL {tb mb k : Nat} {aS nS : Value} : k ∈ addL tb mb aS nS ↔ k = tb ∨ k = mb ∨ aS.ownBlock = some k ∨ nS.ownBlock = some k := by
  simp only [addL, List.mem_append, List.mem_cons, List.not_mem_nil, or_false, Option.mem_toList, or_assoc]

/-- A stage of 'add'. -/
structure AddS (w wx : World) (B tb mb mp ab cap m : Nat) (aS0 nS : Value) (A : Nat → Nat → Value) (f : Nat → Option Value) (pf : Nat → Bool) (pa : Nat → Nat) (ib hb rb bd : Nat) (sr od nw : Int) : Prop where
  tab : TabIs wx tb mb mp (.slice (some ⟨ab, 0, none⟩) (m + 1) cap) nS (-1) (m : Int) sr 0 od nw
  all : OwnsA wx B (.slice (some ⟨ab, 0, none⟩) (m + 1) cap) (m + 1) A
  nam : NamesIs wx B nS m
  byh : ∃ n c, n ≤ bd ∧ MapIs wx mb n f c
  psh : ∃ n, n ≤ m ∧ MapIs wx mp n (pmap pf pa 0 m) (cntP pf 0 m)
  ids : Ids wx nS ib hb rb m
  fr : Fr (addL tb mb aS0 nS) w wx
  fresh : aS0.ownBlock = some ab ∨ w.heap.size ≤ ab
  lim : B ≤ wx.heap.size
  ne : mb ≠ mp

section
variable {w wx : World} {B tb mb mp ab cap m : Nat} {aS0 nS : Value} {A : Nat → Nat → Value} {f : Nat → Option Value} {ls : Nat → Int} {pf : Nat → Bool} {pa : Nat → Nat} {ib hb rb bd bd' : Nat} {sr od nw : Int}

theorem Ids.keep {w' : World} (h : Ids w nS ib hb rb m) (hk : ∀ (b : Nat) (cs : Array Value) (fr : Nat × Nat), w.heap[b]? = some (Obj.cells cs 5 fr) → nS.ownBlock ≠ some b → w'.heap[b]? = w.heap[b]?) : Ids w' nS ib hb rb m := by
  obtain ⟨f0, h0⟩ := h.id
  obtain ⟨f1, h1⟩ := h.host
  obtain ⟨f2, h2⟩ := h.realm
  exact ⟨⟨f0, (hk ib _ _ h0 h.nid).trans h0⟩, ⟨f1, (hk hb _ _ h1 h.nhost).trans h1⟩, ⟨f2, (hk rb _ _ h2 h.nrealm).trans h2⟩, h.nid, h.nhost, h.nrealm⟩

/-- What lies outside the sessions' row, the table's block and the first map is as it was. -/
theorem AddS.step {wy : World} {A' : Nat → Nat → Value} {f' : Nat → Option Value} {sr' od' nw' : Int} (h : AddS w wx B tb mb mp ab cap m aS0 nS A f pf pa ib hb rb bd sr od nw)
    (hT : TabIs wy tb mb mp (.slice (some ⟨ab, 0, none⟩) (m + 1) cap) nS (-1) (m : Int) sr' 0 od' nw') (hA : OwnsA wy B (.slice (some ⟨ab, 0, none⟩) (m + 1) cap) (m + 1) A') (hM : ∃ n c, n ≤ bd' ∧ MapIs wy mb n f' c) (hF : Fr [tb, mb, ab] wx wy) :
    AddS w wy B tb mb mp ab cap m aS0 nS A' f' pf pa ib hb rb bd' sr' od' nw' := by
  obtain ⟨n1, hn1, hp⟩ := h.psh
  obtain ⟨nB, cB, hnB, hbm⟩ := h.byh
  obtain ⟨cur, hab, _⟩ := h.all.open
  have kp : ∀ (b : Nat) (cs : Array Value) (fr : Nat × Nat), wx.heap[b]? = some (Obj.cells cs 5 fr) → wy.heap[b]? = wx.heap[b]? := fun b cs fr hb => hF.block b (lt_of_block hb) (by
    simp only [List.mem_cons, List.not_mem_nil, or_false, not_or]
    exact ⟨ne_of_type hb h.tab (by decide), ne_of_map hb hbm, ne_of_type hb hab (by decide)⟩)
  refine ⟨hT, hA, h.nam.keep (fun g hg => ?_), hM, ⟨n1, hn1, hp.keep (hF.block mp hp.lt ?_)⟩, h.ids.keep (fun b cs fr hb _ => kp b cs fr hb), h.fr.trans hF ?_, h.fresh, Nat.le_trans h.lim hF.size, h.ne⟩
  · obtain ⟨cur5, h5, _⟩ := h.nam.type hg
    exact kp g _ _ h5
  · simp only [List.mem_cons, List.not_mem_nil, or_false, not_or]
    exact ⟨(ne_of_map h.tab hp).symm, h.ne.symm, (ne_of_map hab hp).symm⟩
  · intro k hk hlt
    simp only [List.mem_cons, List.not_mem_nil, or_false] at hk
    rw [mem_addL]
    rcases hk with rfl | rfl | rfl
    · exact .inl rfl
    · exact .inr (.inl rfl)
    · rcases h.fresh with h1 | h1
      · exact .inr (.inr (.inl h1))
      · omega

theorem add_first {w0 w1 : World} {xs : List Value} {o : Obj} {v : Value} (h : Rep w0 B tb mb mp v nS ls pf pa 0 m) (hB : B ≤ w0.heap.size) (hF : Fr (addL tb mb v nS) w w0) (hwz : w0.heap.size = w.heap.size) (hI : Ids w0 nS ib hb rb m)
    (hx : xs.length = m * 12) (hxA : ∀ j f, j < m → f < 12 → xs[j * 12 + f]? = some (cellS ls 0 m j f))
    (hown : w1.ownsRow B 54 12 (.slice (some ⟨ab, 0, none⟩) (m + 1) cap) (m + 1) (xs ++ zeroS.toList)) (hg : (w0.alloc o).grownBy w1 v.ownBlock) (hat : v.ownBlock = some ab ∨ ab = w0.heap.size + 1) :
    AddS w (w1.setCell ⟨tb, 2, none⟩ (.slice (some ⟨ab, 0, none⟩) (m + 1) cap)) B tb mb mp ab cap m v nS (Ax (cellS ls 0 m) m) (hmap 0 m) pf pa ib hb rb m (m : Int) (if 0 = m then -1 else ((0 : Nat) : Int)) (if 0 = m then -1 else (m : Int) - 1) ∧
      w1.cell? ⟨tb, 2, none⟩ = some v ∧ w1.frozen? ⟨tb, 2, none⟩ = false := by
  obtain ⟨n1, hn1, hp⟩ := h.psh
  obtain ⟨nB, cB, hnB, hbm⟩ := h.byh
  have vt : ∀ g, v.ownBlock = some g → ∃ cur, w0.heap[g]? = some (.cells cur 54 (0, 0)) := fun g hg => by
    obtain ⟨cur, h1, _⟩ := h.all.type hg
    exact ⟨cur, h1⟩
  have kp : ∀ b, b < w0.heap.size → v.ownBlock ≠ some b → w1.heap[b]? = w0.heap[b]? := fun b hb hne => by
    rw [hg.block b (by simp; omega) (fun e => hne e.symm), Below.heap_alloc w0 o b hb]
  have ct : ∀ {b : Nat} {cs : Array Value} {t : TypeId} {fr : Nat × Nat}, w0.heap[b]? = some (.cells cs t fr) → t ≠ 54 → v.ownBlock ≠ some b := fun {b cs t fr} hb ht e => by
    obtain ⟨cur, h1⟩ := vt b e
    exact ne_of_type hb h1 ht rfl
  have cm : ∀ {b n c : Nat} {g : Nat → Option Value}, MapIs w0 b n g c → v.ownBlock ≠ some b := fun {b n c g} hb e => by
    obtain ⟨cur, h1⟩ := vt b e
    exact ne_of_map h1 hb rfl
  have hT1 : TabIs w1 tb mb mp v nS (-1) (m : Int) (m : Int) 0 (if 0 = m then -1 else ((0 : Nat) : Int)) (if 0 = m then -1 else (m : Int) - 1) := by
    have := h.tab
    have e3 : ((0 : Nat) : Int) - 1 = -1 := by decide
    have e4 : (m : Int) - ((0 : Nat) : Int) = (m : Int) := by omega
    have e5 : 5 * ((0 : Nat) : Int) = 0 := by decide
    rw [e3, e4, e5] at this
    exact this.keep (kp tb (lt_of_block h.tab) (ct h.tab (by decide)))
  have hab : ∃ cur, w1.heap[ab]? = some (.cells cur 54 (0, 0)) := by
    obtain ⟨_, ⟨h1, _⟩ | ⟨g, c', cur, h1, _, h2, _⟩⟩ := hown
    · cases h1
    · cases h1; exact ⟨cur, h2⟩
  obtain ⟨cur1, hab⟩ := hab
  have hne : tb ≠ ab := ne_of_type hT1 hab (by decide)
  have hsz : w0.heap.size + 1 ≤ w1.heap.size := by have := hg.size; simpa using this
  have k2 : ∀ b, b < w0.heap.size → v.ownBlock ≠ some b → b ≠ tb → (w1.setCell ⟨tb, 2, none⟩ (.slice (some ⟨ab, 0, none⟩) (m + 1) cap)).heap[b]? = w0.heap[b]? := fun b hb h1 h2 => by
    rw [set_other _ h2, kp b hb h1]
  refine ⟨⟨set_block hT1 2 _, ?_, h.nam.keep (fun g hg' => ?_), ⟨nB, cB, by omega, hbm.keep (k2 mb hbm.lt (cm hbm) (ne_of_map h.tab hbm).symm)⟩, ⟨n1, hn1, hp.keep (k2 mp hp.lt (cm hp) (ne_of_map h.tab hp).symm)⟩, hI.keep (fun b cs fr hb _ => k2 b (lt_of_block hb) (ct hb (by decide)) (ne_of_type hb h.tab (by decide))), ?_, ?_, ?_, h.ne⟩, (cell_block hT1 2).1, (cell_block hT1 2).2⟩
  · refine OwnsA.keep (ownsA_more hown hx hxA) (fun g hg' => ?_)
    cases hg'
    exact set_other _ hne.symm
  · obtain ⟨cur5, h5, _⟩ := h.nam.type hg'
    exact k2 g (lt_of_block h5) (ct h5 (by decide)) (ne_of_type h5 h.tab (by decide))
  · refine hF.trans (L' := addL tb mb v nS) ⟨hg.os, hg.tape, hg.output, ?_, fun b hb hn => ?_⟩ (fun _ h _ => h)
    · simp [World.setCell]; omega
    · rw [mem_addL] at hn
      exact k2 b hb (fun e => hn (.inr (.inr (.inl e)))) (fun e => hn (.inl e))
  · rcases hat with h1 | h1
    · exact .inl h1
    · exact .inr (by omega)
  · simp [World.setCell]; omega
end
end Go.Proofs.Ybulkczpw
