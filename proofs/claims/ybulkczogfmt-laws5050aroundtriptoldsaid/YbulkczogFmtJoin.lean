import Derived.Test.YbulkczogFmtApp
import Derived.Shelf.Bytes.SlEqualAll
namespace Go.Proofs.YbulkczogFmt
open Go.RowKit Go.Extern.Stop Go.Stop Go.Extern

def scale (s : Int) : Int :=
  if s % 7 = 0 then 1 else if s % 7 = 1 then 255 else if s % 7 = 2 then 256 else if s % 7 = 3 then 65535 else if s % 7 = 4 then 65536 else if s % 7 = 5 then 4294967295 else 4294967296

theorem scale_range (s : Int) : 1 ≤ scale s ∧ scale s ≤ 4294967296 := by
  unfold scale; split; · omega
  split; · omega
  split; · omega
  split; · omega
  split; · omega
  split <;> omega

set_option maxHeartbeats 400000 in
theorem scale_any (s : Int) (h0 : 0 ≤ s) (h1 : s ≤ 255) (w : World) : Calls Ybaf.prog 8 #[.int .u8 s] w fun e w' => (∃ k, e = .returned (.int .i64 k) ∧ 1 ≤ k ∧ k ≤ 4294967296) ∧ w = w' := by
  go_enter Ybaf.func8, Ybaf.ntmps8
  go_wp2
  all_goals go_ret
  all_goals exact ⟨⟨_, rfl, by decide, by decide⟩, rfl⟩

section
variable (m : Int) (kind : ByteArray) (fix fixMax c8 c16 c32 : Int) (w : World)

theorem bne_yes {c : Int} (h : c ≠ 0) : (c != 0) = true := by simp [h]
theorem bne_no {c : Int} (h : c = 0) : (c != 0) = false := by simp [h]

/-- What a call of 'zzs5050amodel' gives where a form holds the length. -/
theorem model_some {h : List Int} (hh : hdr m fix fixMax c8 c16 c32 = some h) :
    Calls Ybaf.prog 10 #[.int .i64 m, forms kind fix fixMax c8 c16 c32] w fun e w' => e = .returned (.tuple #[.slice (some ⟨w.heap.size + 1, 0, none⟩) h.length h.length, .bool true]) ∧
      w' = (w.alloc (formsObj kind fix fixMax c8 c16 c32)).alloc (.cells (h.map (Value.int .u8)).toArray 5) := by
  unfold hdr at hh
  by_cases k1 : m ≤ fixMax
  · rw [if_pos k1] at hh; obtain rfl := Option.some.inj hh
    exact model_1 m kind fix fixMax c8 c16 c32 w k1
  rw [if_neg k1] at hh
  by_cases k2 : c8 ≠ 0 ∧ m ≤ 255
  · rw [if_pos k2] at hh; obtain rfl := Option.some.inj hh
    exact model_2 m kind fix fixMax c8 c16 c32 w (by omega) (bne_yes k2.1) k2.2
  rw [if_neg k2] at hh
  by_cases k3 : m ≤ 65535
  · rw [if_pos k3] at hh; obtain rfl := Option.some.inj hh
    refine model_3 m kind fix fixMax c8 c16 c32 w (by omega) ?_ k3
    by_cases k8 : c8 = 0
    · exact .inl (bne_no k8)
    · exact .inr (by have := fun h => k2 ⟨k8, h⟩; omega)
  rw [if_neg k3] at hh
  by_cases k4 : m ≤ 4294967295
  · rw [if_pos k4] at hh; obtain rfl := Option.some.inj hh
    exact model_4 m kind fix fixMax c8 c16 c32 w (by omega) (by omega) k4
  rw [if_neg k4] at hh; cases hh

theorem hdr_none {m fix fixMax c8 c16 c32 : Int} (hh : hdr m fix fixMax c8 c16 c32 = none) : fixMax < m ∧ 4294967295 < m := by
  unfold hdr at hh
  by_cases k1 : m ≤ fixMax
  · rw [if_pos k1] at hh; cases hh
  rw [if_neg k1] at hh
  by_cases k2 : c8 ≠ 0 ∧ m ≤ 255
  · rw [if_pos k2] at hh; cases hh
  rw [if_neg k2] at hh
  by_cases k3 : m ≤ 65535
  · rw [if_pos k3] at hh; cases hh
  rw [if_neg k3] at hh
  by_cases k4 : m ≤ 4294967295
  · rw [if_pos k4] at hh; cases hh
  exact ⟨by omega, by omega⟩

theorem model_none (hh : hdr m fix fixMax c8 c16 c32 = none) :
    Calls Ybaf.prog 10 #[.int .i64 m, forms kind fix fixMax c8 c16 c32] w fun e w' => e = .returned (.tuple #[.slice none 0 0, .bool false]) ∧
      w' = w.alloc (formsObj kind fix fixMax c8 c16 c32) :=
  model_5 m kind fix fixMax c8 c16 c32 w (hdr_none hh).1 (hdr_none hh).2

theorem hdr_len {m fix fixMax c8 c16 c32 : Int} {h : List Int} (hh : hdr m fix fixMax c8 c16 c32 = some h) : 0 < h.length ∧ h.length ≤ 5 := by
  unfold hdr at hh
  by_cases k1 : m ≤ fixMax
  · rw [if_pos k1] at hh; obtain rfl := Option.some.inj hh; exact ⟨by simp, by simp⟩
  rw [if_neg k1] at hh
  by_cases k2 : c8 ≠ 0 ∧ m ≤ 255
  · rw [if_pos k2] at hh; obtain rfl := Option.some.inj hh; exact ⟨by simp, by simp⟩
  rw [if_neg k2] at hh
  by_cases k3 : m ≤ 65535
  · rw [if_pos k3] at hh; obtain rfl := Option.some.inj hh; exact ⟨by simp, by simp⟩
  rw [if_neg k3] at hh
  by_cases k4 : m ≤ 4294967295
  · rw [if_pos k4] at hh; obtain rfl := Option.some.inj hh; exact ⟨by simp, by simp⟩
  rw [if_neg k4] at hh; cases hh

/-- What a call of 'appendHeader' gives where a form holds the length, onto a slice with no room. -/
theorem header_some (ad : Addr) (n : Nat) (olds : List Value) (hlo : olds.length = n) (holds : ∀ j u, olds[j]? = some u → w.cell? (ad.add j) = some u) (hlim : n ≤ 2048) {h : List Int} (hh : hdr m fix fixMax c8 c16 c32 = some h) :
    Calls Ybaf.prog 9 #[.slice (some ad) n n, .int .i64 m, forms kind fix fixMax c8 c16 c32] w fun e w' => ∃ g cap, e = .returned (.tuple #[.slice (some ⟨g, 0, none⟩) (n + h.length) cap, .nilIface]) ∧
      w'.ownsRow w.heap.size 5 1 (.slice (some ⟨g, 0, none⟩) (n + h.length) cap) (n + h.length) (olds ++ h.map (Value.int .u8)) ∧ Below w.heap.size w w' := by
  have key : Calls Ybaf.prog 9 #[.slice (some ad) n n, .int .i64 m, forms kind fix fixMax c8 c16 c32] w fun e w' => ∃ v', e = .returned (.tuple #[v', .nilIface]) ∧
      w'.ownsRow w.heap.size 5 1 v' (n + h.length) (olds ++ h.map (Value.int .u8)) ∧ Below w.heap.size w w' := by
    unfold hdr at hh
    by_cases k1 : m ≤ fixMax
    · rw [if_pos k1] at hh; obtain rfl := Option.some.inj hh
      exact header_1 m kind fix fixMax c8 c16 c32 w ad n olds hlo holds hlim k1
    rw [if_neg k1] at hh
    by_cases k2 : c8 ≠ 0 ∧ m ≤ 255
    · rw [if_pos k2] at hh; obtain rfl := Option.some.inj hh
      exact header_2 m kind fix fixMax c8 c16 c32 w ad n olds hlo holds hlim (by omega) (bne_yes k2.1) k2.2
    rw [if_neg k2] at hh
    by_cases k3 : m ≤ 65535
    · rw [if_pos k3] at hh; obtain rfl := Option.some.inj hh
      by_cases k8 : c8 = 0
      · exact header_3a m kind fix fixMax c8 c16 c32 w ad n olds hlo holds hlim (by omega) (bne_no k8) k3
      · exact header_3b m kind fix fixMax c8 c16 c32 w ad n olds hlo holds hlim (by omega) (bne_yes k8) (by have := fun h => k2 ⟨k8, h⟩; omega) k3
    rw [if_neg k3] at hh
    by_cases k4 : m ≤ 4294967295
    · rw [if_pos k4] at hh; obtain rfl := Option.some.inj hh
      by_cases k8 : c8 = 0
      · exact header_4a m kind fix fixMax c8 c16 c32 w ad n olds hlo holds hlim (by omega) (bne_no k8) (by omega) k4
      · exact header_4b m kind fix fixMax c8 c16 c32 w ad n olds hlo holds hlim (by omega) (bne_yes k8) (by omega) k4
    rw [if_neg k4] at hh; cases hh
  refine key.mono ?_
  rintro e w' ⟨v', rfl, h1, h2⟩
  obtain ⟨_, ⟨rfl, h3⟩ | ⟨g, cap, cur, rfl, h4⟩⟩ := id h1
  · have := (hdr_len hh).1; omega
  · exact ⟨g, cap, rfl, h1, h2⟩
end
end Go.Proofs.YbulkczogFmt
