import Derived.Test.YbulkczogFmtHdr
import Derived.Deep.RegionLawGrows
namespace Go.Proofs.YbulkczogFmt
open Go.RowKit Go.Extern.Stop Go.Stop Go.Extern

theorem be16 (B n : Nat) (v : Int) (h0 : 0 ≤ v) (hv : v < 65536) (sv : Value) (xs : List Value) (w : World) (hown : w.ownsRow B 5 1 sv n xs) (hBw : B ≤ w.heap.size) (hlim : n + 2 ≤ 140737488355328) :
    Calls Ybaf.prog 15 #[.agg #[], sv, .int .u16 v] w fun e w' => ∃ v', e = .returned v' ∧ w'.ownsRow B 5 1 v' (n + 2) (xs ++ [.int .u8 (v / 256), .int .u8 (v % 256)]) ∧ Below B w w' := by
  obtain ⟨k, rfl⟩ := Int.eq_ofNat_of_zero_le h0
  refine (Ybaf.binary_BE_AppendUint16 B n k (by omega) sv xs w hown hBw hlim).mono ?_
  rintro e w' ⟨v', rfl, h1, h2⟩
  refine ⟨v', rfl, ?_, h2⟩
  have e1 : Lib.byteCells (Lib.beBytes 2 k) = [.int .u8 ((k : Int) / 256), .int .u8 ((k : Int) % 256)] := by
    simp only [Lib.beBytes, Lib.leBytes, Lib.byteCells, List.reverse_cons, List.reverse_nil, List.nil_append, List.cons_append, List.map_cons, List.map_nil, Lib.toUInt8_mod]
    have : ((k / 256 % 256 : Nat) : Int) = (k : Int) / 256 := by omega
    rw [this]; rfl
  rwa [e1] at h1

theorem be32 (B n : Nat) (v : Int) (h0 : 0 ≤ v) (hv : v < 4294967296) (sv : Value) (xs : List Value) (w : World) (hown : w.ownsRow B 5 1 sv n xs) (hBw : B ≤ w.heap.size) (hlim : n + 4 ≤ 140737488355328) :
    Calls Ybaf.prog 16 #[.agg #[], sv, .int .u32 v] w fun e w' => ∃ v', e = .returned v' ∧ w'.ownsRow B 5 1 v' (n + 4) (xs ++ [.int .u8 (v / 16777216 % 256), .int .u8 (v / 65536 % 256), .int .u8 (v / 256 % 256), .int .u8 (v % 256)]) ∧ Below B w w' := by
  obtain ⟨k, rfl⟩ := Int.eq_ofNat_of_zero_le h0
  refine (Ybaf.binary_BE_AppendUint32 B n k (by omega) sv xs w hown hBw hlim).mono ?_
  rintro e w' ⟨v', rfl, h1, h2⟩
  refine ⟨v', rfl, ?_, h2⟩
  have e1 : Lib.byteCells (Lib.beBytes 4 k) = [.int .u8 ((k : Int) / 16777216 % 256), .int .u8 ((k : Int) / 65536 % 256), .int .u8 ((k : Int) / 256 % 256), .int .u8 ((k : Int) % 256)] := by
    simp only [Lib.beBytes, Lib.leBytes, Lib.byteCells, List.reverse_cons, List.reverse_nil, List.nil_append, List.cons_append, List.map_cons, List.map_nil, Lib.toUInt8_mod]
    have t1 : ((k / 256 / 256 / 256 % 256 : Nat) : Int) = (k : Int) / 16777216 % 256 := by omega
    have t2 : ((k / 256 / 256 % 256 : Nat) : Int) = (k : Int) / 65536 % 256 := by omega
    rw [t1, t2]; rfl
  rwa [e1] at h1

theorem owns_mono {w : World} {base base' : Nat} {e : TypeId} {size : Nat} {v : Value} {n : Nat} {xs : List Value} (h : w.ownsRow base e size v n xs) (hb : base' ≤ base) : w.ownsRow base' e size v n xs := by
  obtain ⟨h1, h2 | ⟨g, cap, cur, h3, h4, h5⟩⟩ := h
  · exact ⟨h1, .inl h2⟩
  · exact ⟨h1, .inr ⟨g, cap, cur, h3, Nat.le_trans hb h4, h5⟩⟩

theorem u16_wrap (m : Int) : IntKind.u16.wrap m = m % 65536 := by
  simp [IntKind.wrap, IntKind.signed, IntKind.bits]
theorem u32_wrap (m : Int) : IntKind.u32.wrap m = m % 4294967296 := by
  simp [IntKind.wrap, IntKind.signed, IntKind.bits]

section
variable (m : Int) (kind : ByteArray) (fix fixMax c8 c16 c32 : Int) (w : World)

theorem old_cells {w W : World} {ad : Addr} {olds : List Value} (holds : ∀ j u, olds[j]? = some u → w.cell? (ad.add j) = some u) (hb : Below w.heap.size w W) :
    ∀ b, some ad = some b → ∀ j u, olds[j]? = some u → W.cell? (b.add j) = some u := fun b e j u h => by
  cases e
  exact cell_later hb (holds j u h)

set_option maxHeartbeats 400000 in
theorem header_1 (ad : Addr) (n : Nat) (olds : List Value) (hlo : olds.length = n) (holds : ∀ j u, olds[j]? = some u → w.cell? (ad.add j) = some u) (hlim : n ≤ 2048) (h1 : m ≤ fixMax) :
    Calls Ybaf.prog 9 #[.slice (some ad) n n, .int .i64 m, forms kind fix fixMax c8 c16 c32] w fun e w' => ∃ v', e = .returned (.tuple #[v', .nilIface]) ∧
      w'.ownsRow w.heap.size 5 1 v' (n + 1) (olds ++ [.int .u8 (bits BinOp.or IntKind.u8 fix (m % 256))]) ∧ Below w.heap.size w w' := by
  obtain ⟨i0, hi, hz0, hz1, hz2⟩ := info_parts Ybaf.info5
  have H : Hid (∀ j u, olds[j]? = some u → w.cell? (ad.add j) = some u) := holds
  clear holds
  go_enter Ybaf.func9, Ybaf.ntmps9
  go_wp2_with (at_builtin; refine wpList_append_grows _ rfl (.tmp 12) (.tmp 18) 22 rfl 5 i0 (.int .u8 0) 1 1 Ybaf.underlying22 hi hz0 hz1 hz2 rfl (by decide) (some ad) n n olds rfl (fun h => by cases h) (by omega) (old_cells H.out (((Below.refl _ w).alloc (Nat.le_refl _) _).alloc (by simp) _)) ⟨w.heap.size + 1, 0, none⟩ 1 1 [.int .u8 (bits BinOp.or IntKind.u8 fix (m % 256))] rfl rfl ?c1 ?c2 (by omega) ?c3 ?c4 ?_)
  case c1 =>
    intro j u hj
    match j, hj with
    | 0, hj => simp at hj; subst hj; simp [Addr.add]
  case c2 => intro u hu; simp at hu; subst hu; rfl
  case c3 => unfold maxLen; omega
  case c4 => omega
  intro v' w1 hown' hgrow
  go_wp2
  go_ret2
  refine ⟨_, rfl, owns_mono hown' ?_, (((Below.refl _ w).alloc (Nat.le_refl _) _).alloc (by simp) _).grown hgrow ?_ (fun k hk => by cases hk)⟩ <;> first | omega | (simp; omega)

set_option maxHeartbeats 400000 in
theorem header_2 (ad : Addr) (n : Nat) (olds : List Value) (hlo : olds.length = n) (holds : ∀ j u, olds[j]? = some u → w.cell? (ad.add j) = some u) (hlim : n ≤ 2048) (h1 : fixMax < m) (h8 : (c8 != 0) = true) (h2 : m ≤ 255) :
    Calls Ybaf.prog 9 #[.slice (some ad) n n, .int .i64 m, forms kind fix fixMax c8 c16 c32] w fun e w' => ∃ v', e = .returned (.tuple #[v', .nilIface]) ∧
      w'.ownsRow w.heap.size 5 1 v' (n + 2) (olds ++ [.int .u8 c8, .int .u8 (m % 256)]) ∧ Below w.heap.size w w' := by
  obtain ⟨i0, hi, hz0, hz1, hz2⟩ := info_parts Ybaf.info5
  have H : Hid (∀ j u, olds[j]? = some u → w.cell? (ad.add j) = some u) := holds
  clear holds
  go_enter Ybaf.func9, Ybaf.ntmps9
  go_wp2_with (at_builtin; refine wpList_append_grows _ rfl (.tmp 27) (.tmp 32) 22 rfl 5 i0 (.int .u8 0) 1 1 Ybaf.underlying22 hi hz0 hz1 hz2 rfl (by decide) (some ad) n n olds rfl (fun h => by cases h) (by omega) (old_cells H.out (((Below.refl _ w).alloc (Nat.le_refl _) _).alloc (by simp) _)) ⟨w.heap.size + 1, 0, none⟩ 2 2 [.int .u8 c8, .int .u8 (m % 256)] rfl rfl ?c1 ?c2 (by omega) ?c3 ?c4 ?_)
  case c1 =>
    intro j u hj
    match j, hj with
    | 0, hj => simp at hj; subst hj; simp [Addr.add]
    | 1, hj => simp at hj; subst hj; simp [Addr.add]
  case c2 => intro u hu; simp at hu; rcases hu with rfl | rfl <;> rfl
  case c3 => unfold maxLen; omega
  case c4 => omega
  intro v' w1 hown' hgrow
  go_wp2
  go_ret2
  refine ⟨_, rfl, owns_mono hown' ?_, (((Below.refl _ w).alloc (Nat.le_refl _) _).alloc (by simp) _).grown hgrow ?_ (fun k hk => by cases hk)⟩ <;> first | omega | (simp; omega)

set_option maxHeartbeats 400000 in
theorem header_3a (ad : Addr) (n : Nat) (olds : List Value) (hlo : olds.length = n) (holds : ∀ j u, olds[j]? = some u → w.cell? (ad.add j) = some u) (hlim : n ≤ 2048) (h1 : fixMax < m) (h8 : (c8 != 0) = false) (h2 : m ≤ 65535) :
    Calls Ybaf.prog 9 #[.slice (some ad) n n, .int .i64 m, forms kind fix fixMax c8 c16 c32] w fun e w' => ∃ v', e = .returned (.tuple #[v', .nilIface]) ∧
      w'.ownsRow w.heap.size 5 1 v' (n + 3) (olds ++ [.int .u8 c16, .int .u8 (m / 256 % 256), .int .u8 (m % 256)]) ∧ Below w.heap.size w w' := by
  obtain ⟨i0, hi, hz0, hz1, hz2⟩ := info_parts Ybaf.info5
  have H : Hid (∀ j u, olds[j]? = some u → w.cell? (ad.add j) = some u) := holds
  clear holds
  go_enter Ybaf.func9, Ybaf.ntmps9
  go_wp2_with fail
  go_region_held3 (fun w' => w'.cell? ⟨w.heap.size, 4, none⟩ = some (.int .u8 c16)) (first | exact hS2 | exact hS1 | go_keep)
    ((first
      | (refine step_append_grows ?a1 (.tmp 37) (.tmp 40) 22 ?a2 5 i0 (.int .u8 0) 1 1 Ybaf.underlying22 hi hz0 hz1 hz2 rfl (by decide) (some ad) n n olds ?a3 ?a13 ?a14 ?a4 ⟨w.heap.size + 1, 0, none⟩ 1 1 [.int .u8 c16] ?a5 rfl ?a6 ?a7 ?a8 ?a9 ?a10 ?a12; (case a1 => rfl); (case a2 => rfl); (case a3 => rfl); (case a5 => rfl); (case a7 => (intro u hu; simp at hu; subst hu; rfl)); (case a8 => omega); (case a9 => (unfold maxLen; omega)); (case a10 => omega); (case a13 => (intro h; cases h)); (case a14 => omega); (case a6 => (intro j u hj; match j, hj with | 0, hj => (simp at hj; subst hj; simp [Addr.add]))); (case a4 => exact old_cells H.out (((Below.refl _ w).alloc (Nat.le_refl _) _).alloc (by simp) _).drew); intro v1 w1 hown1 hgrow; have hS1 : w1.cell? ⟨w.heap.size, 4, none⟩ = some (.int .u8 c16) := (by rw [hgrow.cell_far _ (by simp; omega) (by simp)]; simp))
      | (go_at_call 15; refine (be16 _ (n + 1) _ ?b0 ?b1 _ _ _ hown1 ?b2 ?b3).mono ?b4; (case b0 => (rw [u16_wrap]; omega)); (case b1 => (rw [u16_wrap]; omega)); (case b2 => exact hgrow.size); (case b3 => omega); rintro e w2 ⟨v2, rfl, hown2, hbel2⟩; have hS2 : w2.cell? ⟨w.heap.size, 4, none⟩ = some (.int .u8 c16) := (by rw [hbel2.cell (by simp; omega)]; exact hS1)) ))
  go_wp2
  go_ret2
  have e1 : IntKind.u16.wrap m / 256 = m / 256 % 256 := by rw [u16_wrap]; omega
  have e2 : IntKind.u16.wrap m % 256 = m % 256 := by rw [u16_wrap]; omega
  rw [e1, e2] at hown2
  refine ⟨_, rfl, owns_mono (by simpa using hown2) ?_, (((((Below.refl _ w).alloc (Nat.le_refl _) _).alloc (by simp) _).drew).grown hgrow ?_ (fun k hk => by cases hk)).trans (hbel2.mono ?_)⟩ <;> first | omega | (simp; omega)

set_option maxHeartbeats 400000 in
theorem header_3b (ad : Addr) (n : Nat) (olds : List Value) (hlo : olds.length = n) (holds : ∀ j u, olds[j]? = some u → w.cell? (ad.add j) = some u) (hlim : n ≤ 2048) (h1 : fixMax < m) (h8 : (c8 != 0) = true) (h9 : 255 < m) (h2 : m ≤ 65535) :
    Calls Ybaf.prog 9 #[.slice (some ad) n n, .int .i64 m, forms kind fix fixMax c8 c16 c32] w fun e w' => ∃ v', e = .returned (.tuple #[v', .nilIface]) ∧
      w'.ownsRow w.heap.size 5 1 v' (n + 3) (olds ++ [.int .u8 c16, .int .u8 (m / 256 % 256), .int .u8 (m % 256)]) ∧ Below w.heap.size w w' := by
  obtain ⟨i0, hi, hz0, hz1, hz2⟩ := info_parts Ybaf.info5
  have H : Hid (∀ j u, olds[j]? = some u → w.cell? (ad.add j) = some u) := holds
  clear holds
  go_enter Ybaf.func9, Ybaf.ntmps9
  go_wp2_with fail
  go_region_held3 (fun w' => w'.cell? ⟨w.heap.size, 4, none⟩ = some (.int .u8 c16)) (first | exact hS2 | exact hS1 | go_keep)
    ((first
      | (refine step_append_grows ?a1 (.tmp 37) (.tmp 40) 22 ?a2 5 i0 (.int .u8 0) 1 1 Ybaf.underlying22 hi hz0 hz1 hz2 rfl (by decide) (some ad) n n olds ?a3 ?a13 ?a14 ?a4 ⟨w.heap.size + 1, 0, none⟩ 1 1 [.int .u8 c16] ?a5 rfl ?a6 ?a7 ?a8 ?a9 ?a10 ?a12; (case a1 => rfl); (case a2 => rfl); (case a3 => rfl); (case a5 => rfl); (case a7 => (intro u hu; simp at hu; subst hu; rfl)); (case a8 => omega); (case a9 => (unfold maxLen; omega)); (case a10 => omega); (case a13 => (intro h; cases h)); (case a14 => omega); (case a6 => (intro j u hj; match j, hj with | 0, hj => (simp at hj; subst hj; simp [Addr.add]))); (case a4 => exact old_cells H.out (((Below.refl _ w).alloc (Nat.le_refl _) _).alloc (by simp) _).drew); intro v1 w1 hown1 hgrow; have hS1 : w1.cell? ⟨w.heap.size, 4, none⟩ = some (.int .u8 c16) := (by rw [hgrow.cell_far _ (by simp; omega) (by simp)]; simp))
      | (go_at_call 15; refine (be16 _ (n + 1) _ ?b0 ?b1 _ _ _ hown1 ?b2 ?b3).mono ?b4; (case b0 => (rw [u16_wrap]; omega)); (case b1 => (rw [u16_wrap]; omega)); (case b2 => exact hgrow.size); (case b3 => omega); rintro e w2 ⟨v2, rfl, hown2, hbel2⟩; have hS2 : w2.cell? ⟨w.heap.size, 4, none⟩ = some (.int .u8 c16) := (by rw [hbel2.cell (by simp; omega)]; exact hS1)) ))
  go_wp2
  go_ret2
  have e1 : IntKind.u16.wrap m / 256 = m / 256 % 256 := by rw [u16_wrap]; omega
  have e2 : IntKind.u16.wrap m % 256 = m % 256 := by rw [u16_wrap]; omega
  rw [e1, e2] at hown2
  refine ⟨_, rfl, owns_mono (by simpa using hown2) ?_, (((((Below.refl _ w).alloc (Nat.le_refl _) _).alloc (by simp) _).drew).grown hgrow ?_ (fun k hk => by cases hk)).trans (hbel2.mono ?_)⟩ <;> first | omega | (simp; omega)

set_option maxHeartbeats 400000 in
theorem header_4a (ad : Addr) (n : Nat) (olds : List Value) (hlo : olds.length = n) (holds : ∀ j u, olds[j]? = some u → w.cell? (ad.add j) = some u) (hlim : n ≤ 2048) (h1 : fixMax < m) (h8 : (c8 != 0) = false) (h2 : 65535 < m) (h3 : m ≤ 4294967295) :
    Calls Ybaf.prog 9 #[.slice (some ad) n n, .int .i64 m, forms kind fix fixMax c8 c16 c32] w fun e w' => ∃ v', e = .returned (.tuple #[v', .nilIface]) ∧
      w'.ownsRow w.heap.size 5 1 v' (n + 5) (olds ++ [.int .u8 c32, .int .u8 (m / 16777216 % 256), .int .u8 (m / 65536 % 256), .int .u8 (m / 256 % 256), .int .u8 (m % 256)]) ∧ Below w.heap.size w w' := by
  obtain ⟨i0, hi, hz0, hz1, hz2⟩ := info_parts Ybaf.info5
  have H : Hid (∀ j u, olds[j]? = some u → w.cell? (ad.add j) = some u) := holds
  clear holds
  go_enter Ybaf.func9, Ybaf.ntmps9
  go_wp2_with fail
  go_region_held3 (fun w' => w'.cell? ⟨w.heap.size, 5, none⟩ = some (.int .u8 c32)) (first | exact hS2 | exact hS1 | go_keep)
    ((first
      | (refine step_append_grows ?a1 (.tmp 49) (.tmp 52) 22 ?a2 5 i0 (.int .u8 0) 1 1 Ybaf.underlying22 hi hz0 hz1 hz2 rfl (by decide) (some ad) n n olds ?a3 ?a13 ?a14 ?a4 ⟨w.heap.size + 1, 0, none⟩ 1 1 [.int .u8 c32] ?a5 rfl ?a6 ?a7 ?a8 ?a9 ?a10 ?a12; (case a1 => rfl); (case a2 => rfl); (case a3 => rfl); (case a5 => rfl); (case a7 => (intro u hu; simp at hu; subst hu; rfl)); (case a8 => omega); (case a9 => (unfold maxLen; omega)); (case a10 => omega); (case a13 => (intro h; cases h)); (case a14 => omega); (case a6 => (intro j u hj; match j, hj with | 0, hj => (simp at hj; subst hj; simp [Addr.add]))); (case a4 => exact old_cells H.out (((Below.refl _ w).alloc (Nat.le_refl _) _).alloc (by simp) _).drew); intro v1 w1 hown1 hgrow; have hS1 : w1.cell? ⟨w.heap.size, 5, none⟩ = some (.int .u8 c32) := (by rw [hgrow.cell_far _ (by simp; omega) (by simp)]; simp))
      | (go_at_call 16; refine (be32 _ (n + 1) _ ?b0 ?b1 _ _ _ hown1 ?b2 ?b3).mono ?b4; (case b0 => (rw [u32_wrap]; omega)); (case b1 => (rw [u32_wrap]; omega)); (case b2 => exact hgrow.size); (case b3 => omega); rintro e w2 ⟨v2, rfl, hown2, hbel2⟩; have hS2 : w2.cell? ⟨w.heap.size, 5, none⟩ = some (.int .u8 c32) := (by rw [hbel2.cell (by simp; omega)]; exact hS1)) ))
  go_wp2
  go_ret2
  have e1 : IntKind.u32.wrap m = m := by rw [u32_wrap]; omega
  rw [e1] at hown2
  refine ⟨_, rfl, owns_mono (by simpa using hown2) ?_, (((((Below.refl _ w).alloc (Nat.le_refl _) _).alloc (by simp) _).drew).grown hgrow ?_ (fun k hk => by cases hk)).trans (hbel2.mono ?_)⟩ <;> first | omega | (simp; omega)

set_option maxHeartbeats 400000 in
theorem header_4b (ad : Addr) (n : Nat) (olds : List Value) (hlo : olds.length = n) (holds : ∀ j u, olds[j]? = some u → w.cell? (ad.add j) = some u) (hlim : n ≤ 2048) (h1 : fixMax < m) (h8 : (c8 != 0) = true) (h2 : 65535 < m) (h3 : m ≤ 4294967295) :
    Calls Ybaf.prog 9 #[.slice (some ad) n n, .int .i64 m, forms kind fix fixMax c8 c16 c32] w fun e w' => ∃ v', e = .returned (.tuple #[v', .nilIface]) ∧
      w'.ownsRow w.heap.size 5 1 v' (n + 5) (olds ++ [.int .u8 c32, .int .u8 (m / 16777216 % 256), .int .u8 (m / 65536 % 256), .int .u8 (m / 256 % 256), .int .u8 (m % 256)]) ∧ Below w.heap.size w w' := by
  obtain ⟨i0, hi, hz0, hz1, hz2⟩ := info_parts Ybaf.info5
  have H : Hid (∀ j u, olds[j]? = some u → w.cell? (ad.add j) = some u) := holds
  clear holds
  go_enter Ybaf.func9, Ybaf.ntmps9
  go_wp2_with fail
  go_region_held3 (fun w' => w'.cell? ⟨w.heap.size, 5, none⟩ = some (.int .u8 c32)) (first | exact hS2 | exact hS1 | go_keep)
    ((first
      | (refine step_append_grows ?a1 (.tmp 49) (.tmp 52) 22 ?a2 5 i0 (.int .u8 0) 1 1 Ybaf.underlying22 hi hz0 hz1 hz2 rfl (by decide) (some ad) n n olds ?a3 ?a13 ?a14 ?a4 ⟨w.heap.size + 1, 0, none⟩ 1 1 [.int .u8 c32] ?a5 rfl ?a6 ?a7 ?a8 ?a9 ?a10 ?a12; (case a1 => rfl); (case a2 => rfl); (case a3 => rfl); (case a5 => rfl); (case a7 => (intro u hu; simp at hu; subst hu; rfl)); (case a8 => omega); (case a9 => (unfold maxLen; omega)); (case a10 => omega); (case a13 => (intro h; cases h)); (case a14 => omega); (case a6 => (intro j u hj; match j, hj with | 0, hj => (simp at hj; subst hj; simp [Addr.add]))); (case a4 => exact old_cells H.out (((Below.refl _ w).alloc (Nat.le_refl _) _).alloc (by simp) _).drew); intro v1 w1 hown1 hgrow; have hS1 : w1.cell? ⟨w.heap.size, 5, none⟩ = some (.int .u8 c32) := (by rw [hgrow.cell_far _ (by simp; omega) (by simp)]; simp))
      | (go_at_call 16; refine (be32 _ (n + 1) _ ?b0 ?b1 _ _ _ hown1 ?b2 ?b3).mono ?b4; (case b0 => (rw [u32_wrap]; omega)); (case b1 => (rw [u32_wrap]; omega)); (case b2 => exact hgrow.size); (case b3 => omega); rintro e w2 ⟨v2, rfl, hown2, hbel2⟩; have hS2 : w2.cell? ⟨w.heap.size, 5, none⟩ = some (.int .u8 c32) := (by rw [hbel2.cell (by simp; omega)]; exact hS1)) ))
  go_wp2
  go_ret2
  have e1 : IntKind.u32.wrap m = m := by rw [u32_wrap]; omega
  rw [e1] at hown2
  refine ⟨_, rfl, owns_mono (by simpa using hown2) ?_, (((((Below.refl _ w).alloc (Nat.le_refl _) _).alloc (by simp) _).drew).grown hgrow ?_ (fun k hk => by cases hk)).trans (hbel2.mono ?_)⟩ <;> first | omega | (simp; omega)

set_option maxHeartbeats 400000 in
theorem header_5 (F : Interp) (hF : F.answers w.tape) (sv : Value) (h1 : fixMax < m) (h2 : 4294967295 < m) (h3 : m ≤ 9223372036854775807) :
    Calls Ybaf.prog 9 #[sv, .int .i64 m, forms kind fix fixMax c8 c16 c32] w fun e w' => ∃ a, e = .returned (.tuple #[.slice none 0 0, .iface 61 (.pointer (some a))]) ∧ Below w.heap.size w w' := by
  have hF' : ∀ i name reading k range, w.tape i (.extern (word name reading k) range) = F name reading k := hF
  have h8 : (c8 != 0) = true ∨ (c8 != 0) = false := by cases (c8 != 0) <;> simp
  rcases h8 with h8 | h8
  all_goals
    go_enter Ybaf.func9, Ybaf.ntmps9
    go_wp2
    go_ret2
    exact ⟨_, rfl, ((((Below.refl _ w).alloc (Nat.le_refl _) _).alloc (by simp) _).alloc (by simp; omega) _).drew⟩

end
end Go.Proofs.YbulkczogFmt
