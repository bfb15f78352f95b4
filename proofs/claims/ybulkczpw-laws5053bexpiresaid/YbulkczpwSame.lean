import Derived.Test.YbulkczpwExpire
namespace Go.Proofs.Ybulkczpw
open Go.RowKit

theorem logL_ints (pf : Nat → Bool) : ∀ k, ∀ i, i < (logL pf k).length → ∃ z : Int, (logL pf k)[i]? = some (.int .i64 z)
  | 0, i, h => by simp [logL] at h
  | k + 1, i, h => by
    unfold logL at h ⊢
    by_cases hi : i < (logL pf k).length
    · obtain ⟨z, hz⟩ := logL_ints pf k i hi
      exact ⟨z, by rw [List.getElem?_append_left hi, hz]⟩
    · split at h
      · rename_i hp
        simp at h
        refine ⟨k, ?_⟩
        rw [if_pos hp, List.getElem?_append_right (by omega)]
        have : i - (logL pf k).length = 0 := by omega
        rw [this]
        rfl
      · simp at h; omega

theorem owns_slice {w : World} {B : Nat} {v : Value} {n : Nat} {xs : List Value} (h : w.ownsRow B 3 1 v n xs) : ∃ p c, v = .slice p n c := by
  obtain ⟨_, ⟨h1, h2⟩ | ⟨g, cap, cur, h1, _⟩⟩ := h
  · exact ⟨none, 0, by rw [h1, h2]⟩
  · exact ⟨_, _, h1⟩

theorem ret_bool {x y : Bool} (h : x = y) : Ending.returned (.bool x) = .returned (.bool y) := by rw [h]

set_option maxHeartbeats 400000 in
theorem same_any {w : World} {B1 B2 : Nat} {v1 v2 : Value} {L : List Value} (h1 : w.ownsRow B1 3 1 v1 L.length L) (h2 : w.ownsRow B2 3 1 v2 L.length L) (hn : L.length ≤ 1024) (hL : ∀ i, i < L.length → ∃ z : Int, L[i]? = some (.int .i64 z)) :
    Calls Yba.prog 19 #[v1, v2] w fun e w' => e = .returned (.bool true) ∧ ∃ n, w' = w.drewN n := by
  by_cases h0 : L.length = 0
  · obtain ⟨p1, c1, rfl⟩ := owns_slice h1
    obtain ⟨p2, c2, rfl⟩ := owns_slice h2
    rw [h0]
    clear h1 h2 hL
    go_enter Yba.func19, Yba.ntmps19
    go_wp2
    refine wp_loop_rounds 1 ?_
    rw [rounds_succ]
    go_wp2
    go_ret
    exact ⟨rfl, 0, rfl⟩
  · obtain ⟨g1, c1, rfl, _, _⟩ := h1.form (by omega)
    obtain ⟨g2, c2, rfl, _, _⟩ := h2.form (by omega)
    have H1 : Hid (∀ i, i < L.length → w.cell? ⟨g1, i, none⟩ = L[i]?) := fun i hi => by
      rw [h1.cellAt i (by omega), List.getElem?_eq_getElem hi]
    have H2 : Hid (∀ i, i < L.length → w.cell? ⟨g2, i, none⟩ = L[i]?) := fun i hi => by
      rw [h2.cellAt i (by omega), List.getElem?_eq_getElem hi]
    have HL : Hid (∀ i, i < L.length → ∃ z : Int, L[i]? = some (.int .i64 z)) := hL
    clear h1 h2 hL
    generalize hLn : L.length = n at *
    go_enter Yba.func19, Yba.ntmps19
    go_wp2
    go_loopw [13] (fun i wr => (∃ d, wr = w.drewN d) ∧ ∃ x : Nat, x ≤ n ∧ i = .int .i64 (x : Int)) (fun i _ => n - (intOf i).toNat)
    case atStart => exact ⟨⟨0, rfl⟩, 0, by omega, rfl⟩
    case round =>
      obtain ⟨⟨d, rfl⟩, x, hx, rfl⟩ := hrel
      by_cases hlt : x < n
      · obtain ⟨z, hz⟩ := HL.out x hlt
        have q1 := (H1.out x hlt).trans hz
        have q2 := (H2.out x hlt).trans hz
        clear hz
        go_wp2
        go_quiet (fail)
        go_wp2
        go_round
        case rel => exact ⟨⟨d + nq, by rw [← World.drewN_drewN]⟩, x + 1, by omega, by go_num⟩
        case measure => simp [intOf]; omega
      · go_wp2
        go_ret
        exact ⟨rfl, d, rfl⟩
end Go.Proofs.Ybulkczpw
