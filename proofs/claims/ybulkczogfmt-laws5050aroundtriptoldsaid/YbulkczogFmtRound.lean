import Derived.Test.YbulkczogFmtDec
import Derived.Lib.LazyBuf
namespace Go.Proofs.YbulkczogFmt
open Go.RowKit Go.Extern.Stop Go.Stop Go.Extern

/-- The two halves of what appendHeader hands back. -/
theorem halves0 {w3 : World} {base g n cap : Nat} {xs h : List Int} (hx : xs.length = n) (hown : w3.ownsRow base 5 1 (.slice (some ⟨g, 0, none⟩) (n + h.length) cap) (n + h.length) (xs.map (Value.int .u8) ++ h.map (Value.int .u8))) :
    Lib.BytesIn w3 (some ⟨g, 0, none⟩) n xs ∧ Lib.BytesIn w3 (some ⟨g, n, none⟩) h.length h := by
  subst hx
  have e1 : xs.map (Value.int .u8) ++ h.map (Value.int .u8) = (([] : List Int) ++ xs ++ h).map (Value.int .u8) := by simp
  have e2 : xs.map (Value.int .u8) ++ h.map (Value.int .u8) = (xs ++ h ++ ([] : List Int)).map (Value.int .u8) := by simp
  refine ⟨?_, ?_⟩
  · rw [e1] at hown
    exact bytesIn_cut hown (by simp)
  · rw [e2] at hown
    exact bytesIn_cut hown (by simp)

theorem ret_bool {b : Bool} (h : b = true) : Ending.returned (.bool b) = .returned (.bool true) := by rw [h]

abbrev strKind : ByteArray := ⟨#[115, 116, 114, 105, 110, 103]⟩
abbrev binKind : ByteArray := ⟨#[98, 105, 110, 97, 114, 121]⟩

set_option maxHeartbeats 1000000 in
theorem round_str (p : Option Addr) (n c : Nat) (xs : List Int) (a1 s : Int) (w : World) (hx : xs.length = n) (hB : Lib.BytesIn w p n xs)
    (hn : n ≤ 1024) (a10 : 0 ≤ a1) (a11 : a1 ≤ 4294967295) (s0 : 0 ≤ s) (s1 : s ≤ 255) :
    Calls Ybaf.prog 4 #[.slice p n c, .int .u32 a1, .int .u8 s, .bool false] w fun e w' => e = .returned (.bool true) ∧ Below w.heap.size w w' := by
  obtain ⟨i0, hi, hz0, hz1, hz2⟩ := info_parts Ybaf.info5
  have HB : Hid (Lib.BytesIn w p n xs) := hB
  clear hB
  have HX : Hid (xs.length = n) := hx
  clear hx
  go_enter Ybaf.func4, Ybaf.ntmps4
  go_wp2_with (first
    | (go_at_call 8; refine (scale_any s s0 s1 _).mono ?_; rintro e w' ⟨⟨k, rfl, k0, k1⟩, rfl⟩)
    | (at_make; refine wpList_make_full _ rfl (.tmp 32) (.tmp 32) 22 rfl (w.heap.size + 1) 5 i0 (.int .u8 0) 1 Ybaf.underlying22 hi hz0 hz1 .i64 .i64 (n : Int) (n : Int) n rfl rfl rfl rfl (by rw [hz2]; omega) (by unfold maxLen; omega) (by simp) ?_; intro w1 hown1 hgrow1; obtain ⟨L, HL, Hn⟩ := made_block hown1; have hb1 := (Below.refl (w.heap.size + 1) _).grown hgrow1 (by simp) (fun k hk => by cases hk); clear hown1 hgrow1)
    | (refine wpList_copy_splice rfl (.tmp 34) (.tmp 35) 22 22 rfl 5 Ybaf.underlying22 Ybaf.size5 (some ⟨w.heap.size + 1, 0, none⟩) p n n n c rfl rfl (w.heap.size + 1) 0 L 5 HL.out (xs.map (Value.int .u8)) (by simp [HX.out]) (copy_pos HB.out HX.out (((Below.refl _ w).alloc (Nat.le_refl _) _).trans (hb1.mono (by omega)))) (by simp [HX.out, Hn.out]) (u8_oneCell xs) (w.heap.size + 1) _ hb1 (Nat.le_refl _) ?_; intro w2 HG2 hb2; have hc2 := forms_cells hb2))
  generalize hm : IntKind.u64.wrap (a1 * k) % 4294967296 = m
  have m0 : 0 ≤ m := by omega
  have m1 : m ≤ 4294967295 := by omega
  clear hm
  have hbw : Below w.heap.size w w2 := ((Below.refl _ w).alloc (Nat.le_refl _) _).trans (hb2.mono (by omega))
  have hsz : w.heap.size + 1 ≤ w2.heap.size := by have := hb2.size; simpa using this
  obtain ⟨h, hh⟩ := hdr_is m 160 31 217 218 219 m1
  have HH : Hid (hdr m 160 31 217 218 219 = some h) := hh
  clear hh
  have hl := hdr_len HH.out
  refine (header_some m strKind 160 31 217 218 219 w2 ⟨w.heap.size + 1, 0, none⟩ n (xs.map (Value.int .u8)) (by simp [HX.out]) (copied HG2.out Hn.out HX.out) (by omega) HH.out).mono ?_
  rintro e w3 ⟨g, cap, rfl, hown3, hb3⟩
  have hc3 := forms_cells (hb2.trans (hb3.mono hsz))
  have hcap := owns_cap hown3
  have hz3 : w.heap.size + 1 ≤ w3.heap.size := Nat.le_trans hsz hb3.size
  have HE1 : Hid _ := equal_same (some ⟨g, 0, none⟩) p n cap c xs w3 HX.out (halves0 HX.out hown3).1 (bytesIn_later HB.out (hbw.trans (hb3.mono hbw.size)))
  have HD : Hid (Lib.BytesIn w3 (some ⟨g, n, none⟩) h.length h) := (halves0 HX.out hown3).2
  clear hown3
  go_wp2_with fail
  refine Calls.mono HE1.out ?_
  rintro e w5 ⟨rfl, rfl⟩
  go_wp2_with fail
  have hcn : ¬ cap = n := by omega
  have hn1 : (0 : Int) ≤ (n : Int) := by omega
  have hn2 : (n : Int) ≤ (cap : Int) := by omega
  have hn3 : (n : Int) ≤ (n : Int) + (h.length : Int) := by omega
  go_region_held3 (fun w' => w'.cell? ⟨w.heap.size, 0, none⟩ = some (.string strKind) ∧ w'.cell? ⟨w.heap.size, 1, none⟩ = some (.int .u8 160) ∧ w'.cell? ⟨w.heap.size, 2, none⟩ = some (.int .i64 31) ∧ w'.cell? ⟨w.heap.size, 3, none⟩ = some (.int .u8 217) ∧ w'.cell? ⟨w.heap.size, 4, none⟩ = some (.int .u8 218) ∧ w'.cell? ⟨w.heap.size, 5, none⟩ = some (.int .u8 219)) (first | exact hc4 | go_keep)
    ((first
      | (go_at_call 12; refine (dec_str strKind m m0 m1 h HH.out _ g n (cap - n) ?d1 ?d2).mono ?d3; (case d1 => exact hcap.2); (case d2 => exact HD.out); rintro e w4 ⟨rfl, hb4⟩; have hc4 := forms_cells (hb2.trans ((hb3.mono hsz).trans ((((Below.refl _ w3).drew).trans hb4).mono hz3))))))
  go_wp2
  go_ret
  exact ⟨ret_bool (show ((h.length : Int) == (n : Int) + (h.length : Int) - (n : Int)) = true by rw [beq_iff_eq]; omega), ((hbw.trans (hb3.mono hbw.size)).drew).trans (hb4.mono (Nat.le_trans hbw.size hb3.size))⟩

set_option maxHeartbeats 1000000 in
theorem round_bin (p : Option Addr) (n c : Nat) (xs : List Int) (a1 s : Int) (w : World) (hx : xs.length = n) (hB : Lib.BytesIn w p n xs)
    (hn : n ≤ 1024) (a10 : 0 ≤ a1) (a11 : a1 ≤ 4294967295) (s0 : 0 ≤ s) (s1 : s ≤ 255) :
    Calls Ybaf.prog 4 #[.slice p n c, .int .u32 a1, .int .u8 s, .bool true] w fun e w' => e = .returned (.bool true) ∧ Below w.heap.size w w' := by
  obtain ⟨i0, hi, hz0, hz1, hz2⟩ := info_parts Ybaf.info5
  have HB : Hid (Lib.BytesIn w p n xs) := hB
  clear hB
  have HX : Hid (xs.length = n) := hx
  clear hx
  go_enter Ybaf.func4, Ybaf.ntmps4
  go_wp2_with (first
    | (go_at_call 8; refine (scale_any s s0 s1 _).mono ?_; rintro e w' ⟨⟨k, rfl, k0, k1⟩, rfl⟩)
    | (at_make; refine wpList_make_full _ rfl (.tmp 32) (.tmp 32) 22 rfl (w.heap.size + 1) 5 i0 (.int .u8 0) 1 Ybaf.underlying22 hi hz0 hz1 .i64 .i64 (n : Int) (n : Int) n rfl rfl rfl rfl (by rw [hz2]; omega) (by unfold maxLen; omega) (by simp) ?_; intro w1 hown1 hgrow1; obtain ⟨L, HL, Hn⟩ := made_block hown1; have hb1 := (Below.refl (w.heap.size + 1) _).grown hgrow1 (by simp) (fun k hk => by cases hk); clear hown1 hgrow1)
    | (refine wpList_copy_splice rfl (.tmp 34) (.tmp 35) 22 22 rfl 5 Ybaf.underlying22 Ybaf.size5 (some ⟨w.heap.size + 1, 0, none⟩) p n n n c rfl rfl (w.heap.size + 1) 0 L 5 HL.out (xs.map (Value.int .u8)) (by simp [HX.out]) (copy_pos HB.out HX.out (((Below.refl _ w).alloc (Nat.le_refl _) _).trans (hb1.mono (by omega)))) (by simp [HX.out, Hn.out]) (u8_oneCell xs) (w.heap.size + 1) _ hb1 (Nat.le_refl _) ?_; intro w2 HG2 hb2; have hc2 := forms_cells hb2))
  generalize hm : IntKind.u64.wrap (a1 * k) % 4294967296 = m
  have m0 : 0 ≤ m := by omega
  have m1 : m ≤ 4294967295 := by omega
  clear hm
  have hbw : Below w.heap.size w w2 := ((Below.refl _ w).alloc (Nat.le_refl _) _).trans (hb2.mono (by omega))
  have hsz : w.heap.size + 1 ≤ w2.heap.size := by have := hb2.size; simpa using this
  obtain ⟨h, hh⟩ := hdr_is m 0 (-1) 196 197 198 m1
  have HH : Hid (hdr m 0 (-1) 196 197 198 = some h) := hh
  clear hh
  have hl := hdr_len HH.out
  refine (header_some m binKind 0 (-1) 196 197 198 w2 ⟨w.heap.size + 1, 0, none⟩ n (xs.map (Value.int .u8)) (by simp [HX.out]) (copied HG2.out Hn.out HX.out) (by omega) HH.out).mono ?_
  rintro e w3 ⟨g, cap, rfl, hown3, hb3⟩
  have hc3 := forms_cells (hb2.trans (hb3.mono hsz))
  have hcap := owns_cap hown3
  have hz3 : w.heap.size + 1 ≤ w3.heap.size := Nat.le_trans hsz hb3.size
  have HE1 : Hid _ := equal_same (some ⟨g, 0, none⟩) p n cap c xs w3 HX.out (halves0 HX.out hown3).1 (bytesIn_later HB.out (hbw.trans (hb3.mono hbw.size)))
  have HD : Hid (Lib.BytesIn w3 (some ⟨g, n, none⟩) h.length h) := (halves0 HX.out hown3).2
  clear hown3
  go_wp2_with fail
  refine Calls.mono HE1.out ?_
  rintro e w5 ⟨rfl, rfl⟩
  go_wp2_with fail
  have hcn : ¬ cap = n := by omega
  have hn1 : (0 : Int) ≤ (n : Int) := by omega
  have hn2 : (n : Int) ≤ (cap : Int) := by omega
  have hn3 : (n : Int) ≤ (n : Int) + (h.length : Int) := by omega
  go_region_held3 (fun w' => w'.cell? ⟨w.heap.size, 0, none⟩ = some (.string binKind) ∧ w'.cell? ⟨w.heap.size, 1, none⟩ = some (.int .u8 0) ∧ w'.cell? ⟨w.heap.size, 2, none⟩ = some (.int .i64 (-1)) ∧ w'.cell? ⟨w.heap.size, 3, none⟩ = some (.int .u8 196) ∧ w'.cell? ⟨w.heap.size, 4, none⟩ = some (.int .u8 197) ∧ w'.cell? ⟨w.heap.size, 5, none⟩ = some (.int .u8 198)) (first | exact hc4 | go_keep)
    ((first
      | (go_at_call 12; refine (dec_bin binKind m m0 m1 h HH.out _ g n (cap - n) ?d1 ?d2).mono ?d3; (case d1 => exact hcap.2); (case d2 => exact HD.out); rintro e w4 ⟨rfl, hb4⟩; have hc4 := forms_cells (hb2.trans ((hb3.mono hsz).trans ((((Below.refl _ w3).drew).trans hb4).mono hz3))))))
  go_wp2
  go_ret
  exact ⟨ret_bool (show ((h.length : Int) == (n : Int) + (h.length : Int) - (n : Int)) = true by rw [beq_iff_eq]; omega), ((hbw.trans (hb3.mono hbw.size)).drew).trans (hb4.mono (Nat.le_trans hbw.size hb3.size))⟩

set_option maxHeartbeats 400000 in
theorem round_great (p : Option Addr) (n c : Nat) (a1 s : Int) (b : Bool) (w : World) (hn : 1024 < n) :
    Calls Ybaf.prog 4 #[.slice p n c, .int .u32 a1, .int .u8 s, .bool b] w fun e w' => e = .returned (.bool true) ∧ Below w.heap.size w w' := by
  go_enter Ybaf.func4, Ybaf.ntmps4
  go_wp2
  go_ret
  exact ⟨rfl, Below.refl _ _⟩
end Go.Proofs.YbulkczogFmt
