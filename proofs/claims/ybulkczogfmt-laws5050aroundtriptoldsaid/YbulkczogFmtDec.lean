import Derived.Test.YbulkczogFmtBytes
import Derived.Deep.QuietTactic
import Derived.BigQuiet
import Derived.WalkSmall
import Derived.Laws.BitsLemmas
namespace Go.Proofs.YbulkczogFmt
open Go.RowKit Go.Extern.Stop Go.Stop Go.Extern

theorem i64_wrap_id (n : Int) (h0 : 0 ≤ n) (h1 : n < 2 ^ 40) : IntKind.i64.wrap n = n := by
  simp [IntKind.wrap, IntKind.signed, IntKind.bits]; omega
theorem or_i64 (i : Nat) (x y : Int) (hx0 : 0 ≤ x) (hx : x % 2 ^ i = 0) (hx1 : x < 2 ^ 40) (hy0 : 0 ≤ y) (hy : y < 2 ^ i) (hy1 : y < 2 ^ 40) : bits .or .i64 x y = x + y :=
  bits_join .i64 40 (by decide) i64_wrap_id i x y hx0 hx hx1 hy0 hy hy1
theorem or_160 (m : Int) (h0 : 0 ≤ m) (h1 : m < 32) : bits .or .u8 160 m = 160 + m :=
  bits_join .u8 8 (by decide) wraps_u8 5 160 m (by decide) (by decide) (by decide) h0 (by omega) (by omega)
theorem and_224 (m : Int) (h0 : 0 ≤ m) (h1 : m < 32) : bits .and .u8 (160 + m) 224 = 160 := by
  obtain ⟨k, rfl⟩ := Int.eq_ofNat_of_zero_le h0
  rw [u8_and _ _ (by omega) (by omega) (by decide) (by decide)]
  have : ∀ k : Nat, k < 32 → ((160 + k) &&& 224) = 160 := by decide
  have e : ((160 + (k : Int)).toNat) = 160 + k := by omega
  rw [e]
  exact congrArg (fun n : Nat => (n : Int)) (this k (by omega))

section
variable (kind : ByteArray) (fix fixMax c8 c16 c32 : Int) (w : World) (g o c : Nat)

set_option maxHeartbeats 400000 in
theorem dec_2 (b1 : Int) (h8 : (c8 != 0) = true) (b10 : 0 ≤ b1) (b11 : b1 < 256) (hg : g < w.heap.size) (q0 : w.cell? ⟨g, o, none⟩ = some (.int .u8 c8)) (q1 : w.cell? ⟨g, o + 1, none⟩ = some (.int .u8 b1)) :
    Calls Ybaf.prog 12 #[.slice (some ⟨g, o, none⟩) 2 c, forms kind fix fixMax c8 c16 c32] w fun e w' => e = .returned (.tuple #[.int .i64 b1, .int .i64 2, .bool true]) ∧ Below w.heap.size w w' := by
  go_enter Ybaf.func12, Ybaf.ntmps12
  go_wp2
  go_ret3
  exact ⟨rfl, (Below.refl _ w).alloc (Nat.le_refl _) _⟩

set_option maxHeartbeats 400000 in
theorem dec_1 (x : Int) (h8 : (c8 != 0) = true) (x8 : (x == c8) = false) (x16 : (x == c16) = false) (x32 : (x == c32) = false) (hm : 0 ≤ fixMax) (hf : (bits .and .u8 x 224 == fix) = true) (hg : g < w.heap.size) (q0 : w.cell? ⟨g, o, none⟩ = some (.int .u8 x)) :
    Calls Ybaf.prog 12 #[.slice (some ⟨g, o, none⟩) 1 c, forms kind fix fixMax c8 c16 c32] w fun e w' => e = .returned (.tuple #[.int .i64 (wrap64 (bits .and .u8 x 31)), .int .i64 1, .bool true]) ∧ Below w.heap.size w w' := by
  have hm' : (0 ≤ fixMax) = true := by simp [hm]
  go_enter Ybaf.func12, Ybaf.ntmps12
  go_wp2
  go_ret3
  exact ⟨rfl, (Below.refl _ w).alloc (Nat.le_refl _) _⟩

set_option maxHeartbeats 400000 in
theorem dec_3 (b1 b2 : Int) (h8 : (c8 != 0) = true) (h168 : (c16 == c8) = false) (b10 : 0 ≤ b1) (b11 : b1 < 256) (b20 : 0 ≤ b2) (b21 : b2 < 256) (hg : g < w.heap.size) (q0 : w.cell? ⟨g, o, none⟩ = some (.int .u8 c16)) (q1 : w.cell? ⟨g, o + 1, none⟩ = some (.int .u8 b1)) (q2 : w.cell? ⟨g, o + 2, none⟩ = some (.int .u8 b2)) :
    Calls Ybaf.prog 12 #[.slice (some ⟨g, o, none⟩) 3 c, forms kind fix fixMax c8 c16 c32] w fun e w' => e = .returned (.tuple #[.int .i64 (b1 * 256 + b2), .int .i64 3, .bool true]) ∧ Below w.heap.size w w' := by
  have key : Calls Ybaf.prog 12 #[.slice (some ⟨g, o, none⟩) 3 c, forms kind fix fixMax c8 c16 c32] w fun e w' => e = .returned (.tuple #[.int .i64 (bits .or .i64 (b1 * 256) b2), .int .i64 3, .bool true]) ∧ Below w.heap.size w w' := by
    go_enter Ybaf.func12, Ybaf.ntmps12
    go_wp2
    go_quiet (fail)
    go_wp2
    go_ret3
    exact ⟨rfl, below_drewN ((Below.refl _ w).alloc (Nat.le_refl _) _) _⟩
  rwa [or_i64 8 (b1 * 256) b2 (by omega) (by omega) (by omega) b20 (by omega) (by omega)] at key

set_option maxHeartbeats 1000000 in
theorem dec_5 (b1 b2 b3 b4 : Int) (h8 : (c8 != 0) = true) (h328 : (c32 == c8) = false) (h3216 : (c32 == c16) = false) (b10 : 0 ≤ b1) (b11 : b1 < 256) (b20 : 0 ≤ b2) (b21 : b2 < 256) (b30 : 0 ≤ b3) (b31 : b3 < 256) (b40 : 0 ≤ b4) (b41 : b4 < 256)
    (hg : g < w.heap.size) (q0 : w.cell? ⟨g, o, none⟩ = some (.int .u8 c32)) (q1 : w.cell? ⟨g, o + 1, none⟩ = some (.int .u8 b1)) (q2 : w.cell? ⟨g, o + 2, none⟩ = some (.int .u8 b2)) (q3 : w.cell? ⟨g, o + 3, none⟩ = some (.int .u8 b3)) (q4 : w.cell? ⟨g, o + 4, none⟩ = some (.int .u8 b4)) :
    Calls Ybaf.prog 12 #[.slice (some ⟨g, o, none⟩) 5 c, forms kind fix fixMax c8 c16 c32] w fun e w' => e = .returned (.tuple #[.int .i64 (b1 * 16777216 + b2 * 65536 + b3 * 256 + b4), .int .i64 5, .bool true]) ∧ Below w.heap.size w w' := by
  have key : Calls Ybaf.prog 12 #[.slice (some ⟨g, o, none⟩) 5 c, forms kind fix fixMax c8 c16 c32] w fun e w' => e = .returned (.tuple #[.int .i64 (bits .or .i64 (bits .or .i64 (bits .or .i64 (b1 * 16777216) (b2 * 65536)) (b3 * 256)) b4), .int .i64 5, .bool true]) ∧ Below w.heap.size w w' := by
    go_enter Ybaf.func12, Ybaf.ntmps12
    go_wp2
    go_quiet (fail)
    go_wp2
    go_ret3
    exact ⟨rfl, below_drewN ((Below.refl _ w).alloc (Nat.le_refl _) _) _⟩
  rwa [or_i64 24 (b1 * 16777216) (b2 * 65536) (by omega) (by omega) (by omega) (by omega) (by omega) (by omega), or_i64 16 (b1 * 16777216 + b2 * 65536) (b3 * 256) (by omega) (by omega) (by omega) (by omega) (by omega) (by omega),
    or_i64 8 (b1 * 16777216 + b2 * 65536 + b3 * 256) b4 (by omega) (by omega) (by omega) (by omega) (by omega) (by omega)] at key
end

theorem row_cells {w : World} {g o : Nat} {h : List Int} (hB : Lib.BytesIn w (some ⟨g, o, none⟩) h.length h) : ∀ i, i < h.length → w.cell? ⟨g, o + i, none⟩ = some (.int .u8 (h.getD i 0)) := fun i hi => by
  obtain ⟨b, o', e, hc⟩ := hB (by omega)
  cases e
  exact hc i hi

/-- What the decoder says of the header that the model tells, at the two tables of forms. -/
theorem dec_str (kind : ByteArray) (m : Int) (m0 : 0 ≤ m) (m1 : m ≤ 4294967295) (h : List Int) (hh : hdr m 160 31 217 218 219 = some h) (w : World) (g o c : Nat) (hg : g < w.heap.size) (hB : Lib.BytesIn w (some ⟨g, o, none⟩) h.length h) :
    Calls Ybaf.prog 12 #[.slice (some ⟨g, o, none⟩) h.length c, forms kind 160 31 217 218 219] w fun e w' => e = .returned (.tuple #[.int .i64 m, .int .i64 (h.length : Int), .bool true]) ∧ Below w.heap.size w w' := by
  have hc := row_cells hB
  unfold hdr at hh
  by_cases k1 : m ≤ 31
  · rw [if_pos k1] at hh; obtain rfl := Option.some.inj hh
    have em : m % 256 = m := by omega
    rw [em, or_160 m m0 (by omega)] at hc
    rw [em, or_160 m m0 (by omega)]
    have q := dec_1 kind 160 31 217 218 219 w g o c (160 + m) (by decide) (by simp; omega) (by simp; omega) (by simp; omega) (by decide) (by rw [and_224 m m0 (by omega)]; decide) hg (hc 0 (by simp))
    rw [u8_and31 _ (by omega) (by omega)] at q
    have e2 : wrap64 ((160 + m) % 32) = m := by unfold wrap64; omega
    rwa [e2] at q
  rw [if_neg k1] at hh
  by_cases k2 : (217 : Int) ≠ 0 ∧ m ≤ 255
  · rw [if_pos k2] at hh; obtain rfl := Option.some.inj hh
    have em : m % 256 = m := by omega
    rw [em] at hc
    rw [em]
    exact dec_2 kind 160 31 217 218 219 w g o c m (by decide) m0 (by omega) hg (hc 0 (by simp)) (hc 1 (by simp))
  rw [if_neg k2] at hh
  have k2' : 255 < m := by have := fun h => k2 ⟨by decide, h⟩; omega
  by_cases k3 : m ≤ 65535
  · rw [if_pos k3] at hh; obtain rfl := Option.some.inj hh
    have q := dec_3 kind 160 31 217 218 219 w g o c (m / 256 % 256) (m % 256) (by decide) (by decide) (by omega) (by omega) (by omega) (by omega) hg (hc 0 (by simp)) (hc 1 (by simp)) (hc 2 (by simp))
    have e2 : m / 256 % 256 * 256 + m % 256 = m := by omega
    rwa [e2] at q
  rw [if_neg k3, if_pos m1] at hh
  obtain rfl := Option.some.inj hh
  have q := dec_5 kind 160 31 217 218 219 w g o c (m / 16777216 % 256) (m / 65536 % 256) (m / 256 % 256) (m % 256) (by decide) (by decide) (by decide) (by omega) (by omega) (by omega) (by omega) (by omega) (by omega) (by omega) (by omega) hg (hc 0 (by simp)) (hc 1 (by simp)) (hc 2 (by simp)) (hc 3 (by simp)) (hc 4 (by simp))
  have e2 : m / 16777216 % 256 * 16777216 + m / 65536 % 256 * 65536 + m / 256 % 256 * 256 + m % 256 = m := by omega
  rwa [e2] at q

theorem dec_bin (kind : ByteArray) (m : Int) (m0 : 0 ≤ m) (m1 : m ≤ 4294967295) (h : List Int) (hh : hdr m 0 (-1) 196 197 198 = some h) (w : World) (g o c : Nat) (hg : g < w.heap.size) (hB : Lib.BytesIn w (some ⟨g, o, none⟩) h.length h) :
    Calls Ybaf.prog 12 #[.slice (some ⟨g, o, none⟩) h.length c, forms kind 0 (-1) 196 197 198] w fun e w' => e = .returned (.tuple #[.int .i64 m, .int .i64 (h.length : Int), .bool true]) ∧ Below w.heap.size w w' := by
  have hc := row_cells hB
  unfold hdr at hh
  rw [if_neg (by omega)] at hh
  by_cases k2 : (196 : Int) ≠ 0 ∧ m ≤ 255
  · rw [if_pos k2] at hh; obtain rfl := Option.some.inj hh
    have em : m % 256 = m := by omega
    rw [em] at hc
    rw [em]
    exact dec_2 kind 0 (-1) 196 197 198 w g o c m (by decide) m0 (by omega) hg (hc 0 (by simp)) (hc 1 (by simp))
  rw [if_neg k2] at hh
  have k2' : 255 < m := by have := fun h => k2 ⟨by decide, h⟩; omega
  by_cases k3 : m ≤ 65535
  · rw [if_pos k3] at hh; obtain rfl := Option.some.inj hh
    have q := dec_3 kind 0 (-1) 196 197 198 w g o c (m / 256 % 256) (m % 256) (by decide) (by decide) (by omega) (by omega) (by omega) (by omega) hg (hc 0 (by simp)) (hc 1 (by simp)) (hc 2 (by simp))
    have e2 : m / 256 % 256 * 256 + m % 256 = m := by omega
    rwa [e2] at q
  rw [if_neg k3, if_pos m1] at hh
  obtain rfl := Option.some.inj hh
  have q := dec_5 kind 0 (-1) 196 197 198 w g o c (m / 16777216 % 256) (m / 65536 % 256) (m / 256 % 256) (m % 256) (by decide) (by decide) (by decide) (by omega) (by omega) (by omega) (by omega) (by omega) (by omega) (by omega) (by omega) hg (hc 0 (by simp)) (hc 1 (by simp)) (hc 2 (by simp)) (hc 3 (by simp)) (hc 4 (by simp))
  have e2 : m / 16777216 % 256 * 16777216 + m / 65536 % 256 * 65536 + m / 256 % 256 * 256 + m % 256 = m := by omega
  rwa [e2] at q

theorem hdr_is (m fix fixMax c8 c16 c32 : Int) (m1 : m ≤ 4294967295) : ∃ h, hdr m fix fixMax c8 c16 c32 = some h := by
  cases hh : hdr m fix fixMax c8 c16 c32 with
  | some h => exact ⟨h, rfl⟩
  | none => have := (hdr_none hh).2; omega
end Go.Proofs.YbulkczogFmt
