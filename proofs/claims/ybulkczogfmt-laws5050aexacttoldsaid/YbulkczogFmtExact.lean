import Derived.Test.YbulkczogFmtBytes
import Derived.Lib.LazyBuf
namespace Go.Proofs.YbulkczogFmt
open Go.RowKit Go.Extern.Stop Go.Stop Go.Extern

set_option maxHeartbeats 1000000 in
theorem exact_small (F : Interp) (p : Option Addr) (n c : Nat) (xs : List Int) (a1 s : Int) (kind : ByteArray) (fix fixMax c8 c16 c32 : Int) (w : World) (hF : F.answers w.tape) (hx : xs.length = n) (hB : Lib.BytesIn w p n xs)
    (hn : n ≤ 1024) (s0 : 0 ≤ s) (s1 : s ≤ 255) :
    Calls Ybaf.prog 3 #[.slice p n c, .int .i64 a1, .int .u8 s, .string kind, .int .u8 fix, .int .i64 fixMax, .int .u8 c8, .int .u8 c16, .int .u8 c32] w fun e w' => e = .returned (.bool true) ∧ Below w.heap.size w w' := by
  obtain ⟨i0, hi, hz0, hz1, hz2⟩ := info_parts Ybaf.info5
  have HB : Hid (Lib.BytesIn w p n xs) := hB
  clear hB
  have HX : Hid (xs.length = n) := hx
  clear hx
  have HF : Hid (F.answers w.tape) := hF
  clear hF
  go_enter Ybaf.func3, Ybaf.ntmps3
  go_wp2_with (first
    | (go_at_call 8; refine (scale_any s s0 s1 _).mono ?_; rintro e w' ⟨⟨k, rfl, k0, k1⟩, rfl⟩)
    | (at_make; refine wpList_make_full _ rfl (.tmp 41) (.tmp 41) 22 rfl (w.heap.size + 1) 5 i0 (.int .u8 0) 1 Ybaf.underlying22 hi hz0 hz1 .i64 .i64 (n : Int) (n : Int) n rfl rfl rfl rfl (by rw [hz2]; omega) (by unfold maxLen; omega) (by simp) ?_; intro w1 hown1 hgrow1; obtain ⟨L, HL, Hn⟩ := made_block hown1; have hb1 := (Below.refl (w.heap.size + 1) _).grown hgrow1 (by simp) (fun k hk => by cases hk); clear hown1 hgrow1)
    | (refine wpList_copy_splice rfl (.tmp 43) (.tmp 44) 22 22 rfl 5 Ybaf.underlying22 Ybaf.size5 (some ⟨w.heap.size + 1, 0, none⟩) p n n n c rfl rfl (w.heap.size + 1) 0 L 5 HL.out (xs.map (Value.int .u8)) (by simp [HX.out]) (copy_pos HB.out HX.out (((Below.refl _ w).alloc (Nat.le_refl _) _).trans (hb1.mono (by omega)))) (by simp [HX.out, Hn.out]) (u8_oneCell xs) (w.heap.size + 1) _ hb1 (Nat.le_refl _) ?_; intro w2 HG2 hb2; have hc2 := forms_cells hb2))
  generalize hm : wrap64 (a1 * k) = m
  have hm2 : m ≤ 9223372036854775807 := by rw [← hm]; exact wrap64_max _
  clear hm
  have hbw : Below w.heap.size w w2 := ((Below.refl _ w).alloc (Nat.le_refl _) _).trans (hb2.mono (by omega))
  have hsz : w.heap.size + 1 ≤ w2.heap.size := by have := hb2.size; simpa using this
  cases hh : hdr m fix fixMax c8 c16 c32 with
  | some h =>
    have HH : Hid (hdr m fix fixMax c8 c16 c32 = some h) := hh
    clear hh
    have hl := hdr_len HH.out
    refine (header_some m kind fix fixMax c8 c16 c32 w2 ⟨w.heap.size + 1, 0, none⟩ n (xs.map (Value.int .u8)) (by simp [HX.out]) (copied HG2.out Hn.out HX.out) (by omega) HH.out).mono ?_
    rintro e w3 ⟨g, cap, rfl, hown3, hb3⟩
    have hc3 := forms_cells (hb2.trans (hb3.mono hsz))
    go_wp2_with fail
    refine (model_some m kind fix fixMax c8 c16 c32 w3 HH.out).mono ?_
    rintro e w4 ⟨rfl, rfl⟩
    have hcap := (owns_cap hown3).1
    have E1 := equal_same (some ⟨g, 0, none⟩) p n cap c xs _ HX.out (halves HX.out hown3 (formsObj kind fix fixMax c8 c16 c32)).1 (bytesIn_later HB.out ((hbw.trans (hb3.mono hbw.size)).trans (((Below.refl _ w3).alloc (Nat.le_refl _) _).alloc (by simp) _ |>.mono (Nat.le_trans hbw.size hb3.size))))
    have E2 := equal_same (some ⟨g, n, none⟩) (some ⟨w3.heap.size + 1, 0, none⟩) h.length (cap - n) h.length h _ rfl (halves HX.out hown3 (formsObj kind fix fixMax c8 c16 c32)).2.1 (halves HX.out hown3 (formsObj kind fix fixMax c8 c16 c32)).2.2
    have HE1 : Hid _ := E1
    have HE2 : Hid _ := E2
    clear E1 E2
    go_wp2_with fail
    refine Calls.mono HE1.out ?_
    rintro e w5 ⟨rfl, rfl⟩
    go_wp2_with fail
    refine Calls.mono HE2.out ?_
    rintro e w5 ⟨rfl, rfl⟩
    go_wp2
    go_ret
    exact ⟨rfl, (hbw.trans (hb3.mono hbw.size)).trans (((Below.refl _ w3).alloc (Nat.le_refl _) _).alloc (by simp) _ |>.mono (Nat.le_trans hbw.size hb3.size))⟩
  | none =>
    have hr := hdr_none hh
    have HH : Hid (hdr m fix fixMax c8 c16 c32 = none) := hh
    clear hh
    have hF2 : F.answers w2.tape := by rw [hbw.tape]; exact HF.out
    refine (header_5 m kind fix fixMax c8 c16 c32 w2 F hF2 _ hr.1 hr.2 hm2).mono ?_
    clear hF2
    rintro e w3 ⟨a, rfl, hb3⟩
    have hc3 := forms_cells (hb2.trans (hb3.mono hsz))
    go_wp2_with fail
    refine (model_none m kind fix fixMax c8 c16 c32 w3 HH.out).mono ?_
    rintro e w4 ⟨rfl, rfl⟩
    have hnl := fun w => run_eql_slice_nil (P := Ybaf.prog) w 22 5 none 0 0 Ybaf.underlying22
    go_wp2
    go_ret
    exact ⟨rfl, (hbw.trans (hb3.mono hbw.size)).trans (((Below.refl _ w3).alloc (Nat.le_refl _) _).mono (Nat.le_trans hbw.size hb3.size))⟩

set_option maxHeartbeats 400000 in
theorem exact_great (p : Option Addr) (n c : Nat) (a1 s : Int) (kind : ByteArray) (fix fixMax c8 c16 c32 : Int) (w : World) (hn : 1024 < n) :
    Calls Ybaf.prog 3 #[.slice p n c, .int .i64 a1, .int .u8 s, .string kind, .int .u8 fix, .int .i64 fixMax, .int .u8 c8, .int .u8 c16, .int .u8 c32] w fun e w' => e = .returned (.bool true) ∧ Below w.heap.size w w' := by
  go_enter Ybaf.func3, Ybaf.ntmps3
  go_wp2
  go_ret
  exact ⟨rfl, Below.refl _ _⟩
end Go.Proofs.YbulkczogFmt
