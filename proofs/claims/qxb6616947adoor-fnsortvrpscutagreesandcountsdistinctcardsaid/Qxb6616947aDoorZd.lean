/-
  The contract of zvrpCompare, where AS number and kind agree.
-/
import Derived.Test.Qxb6616947aDoorZc
namespace Go.Proofs.Qxb6616947aDoor
open Go.RowKit Go.Sort Go.Shelf Plain
set_option linter.unusedVariables false

theorem zl_ne (n : Nat) (x y : Nat → UInt8) (i : Nat) (R : Int) (hi : i < n) (h : ∀ j, j < i → x j = y j) (hne : (x i).toNat ≠ (y i).toNat) : or2 (cB (LB n x) (LB n y)) R = if (x i).toNat < (y i).toNat then -1 else 1 := by
  have hs := cB_split (LB n x) (LB n y) i (by rw [LB_len]; exact hi) (by rw [LB_len]; exact hi) (fun j hj => by rw [LB_get n x j (by omega), LB_get n y j (by omega)]; exact h j hj) (by rw [LB_get n x i hi, LB_get n y i hi]; exact fun e => hne (by rw [e]))
  rw [hs, LB_get n x i hi, LB_get n y i hi]
  simp only [UInt8.lt_iff_toNat_lt]
  rw [or2_ne]
  split <;> omega
theorem zl_lt (n : Nat) (x y : Nat → UInt8) (i : Nat) (R : Int) (hi : i < n) (h : ∀ j, j < i → x j = y j) (hl : (x i).toNat < (y i).toNat) : or2 (cB (LB n x) (LB n y)) R = -1 := by
  rw [zl_ne n x y i R hi h (by omega), if_pos hl]
theorem zl_gt (n : Nat) (x y : Nat → UInt8) (i : Nat) (R : Int) (hi : i < n) (h : ∀ j, j < i → x j = y j) (hl : (y i).toNat < (x i).toNat) : or2 (cB (LB n x) (LB n y)) R = 1 := by
  rw [zl_ne n x y i R hi h (by omega), if_neg (by omega)]
theorem zl_end (n : Nat) (x y : Nat → UInt8) (R : Int) (h : ∀ j, j < n → x j = y j) : or2 (cB (LB n x) (LB n y)) R = R := by
  rw [cB_prefix (LB n x) (LB n y) n (by rw [LB_len, LB_len]; omega) (fun j hj => by rw [LB_get n x j hj, LB_get n y j hj]; exact h j hj), LB_len, LB_len, cI_0 (by omega) (by omega), or2_0]
attribute [local go_sem ↓] ld45_fold

set_option maxHeartbeats 8000000 in
set_option maxRecDepth 100000 in
theorem zcore_n (q f1 f2 m1 m2 z1 z2 : Int) (x1 x2 : Nat → UInt8) (t1 t2 : ByteArray) (LA LC : Array Value) (w : World)
    (hf : ∀ w', GB ((w.alloc (.cells LA 45)).alloc (.cells LC 45)) w' → w'.cell? ⟨w.heap.size, 0, none⟩ = some (.int .u32 q) ∧ w'.cell? ⟨w.heap.size, 1, none⟩ = some (.int .u8 f1) ∧ (∀ i, i < 16 → w'.cell? ⟨w.heap.size, 2 + i, none⟩ = some (.int .u8 (x1 i).toNat)) ∧ w'.cell? ⟨w.heap.size, 19, none⟩ = some (.int .i64 m1) ∧ w'.cell? ⟨w.heap.size, 20, none⟩ = some (.string t1) ∧ (Ld45 (.pointer (some ⟨w.heap.size, 0, none⟩))).run Tryd.prog w' = .ok (.agg LA) w' ∧ w'.cell? ⟨w.heap.size + 1, 0, none⟩ = some (.int .u32 q) ∧ w'.cell? ⟨w.heap.size + 1, 1, none⟩ = some (.int .u8 f2) ∧ (∀ i, i < 16 → w'.cell? ⟨w.heap.size + 1, 2 + i, none⟩ = some (.int .u8 (x2 i).toNat)) ∧ w'.cell? ⟨w.heap.size + 1, 19, none⟩ = some (.int .i64 m2) ∧ w'.cell? ⟨w.heap.size + 1, 20, none⟩ = some (.string t2) ∧ (Ld45 (.pointer (some ⟨w.heap.size + 1, 0, none⟩))).run Tryd.prog w' = .ok (.agg LC) w')
    (h1 : ∀ W, Calls Tryd.prog 14 #[.int .u8 f1] W fun e w' => e = .returned (.int .i64 0) ∧ w' = W)
    (h2 : ∀ W, Calls Tryd.prog 14 #[.int .u8 f2] W fun e w' => e = .returned (.int .i64 0) ∧ w' = W)
    (h3 : ∀ W, Calls Tryd.prog 16 #[.agg LA] W fun e w' => e = .returned (.int .i64 z1) ∧ GB W w')
    (h4 : ∀ W, Calls Tryd.prog 16 #[.agg LC] W fun e w' => e = .returned (.int .i64 z2) ∧ GB W w')
    (h5 : ∀ W, Calls Tryd.prog 17 #[.string t1, .string t2] W fun e w' => e = .returned (.int .i64 (cS t1 t2)) ∧ GB W w') :
    Calls Tryd.prog 10 #[.agg LA, .agg LC] w fun e w' => e = .returned (.int .i64 (or2 (cB (LB 0 x1) (LB 0 x2)) (or2 (cI z1 z2) (or2 (cI m1 m2) (cS t1 t2))))) ∧ GB w w' := by
  obtain ⟨r, HR⟩ : ∃ r, Hid (r = or2 (cB (LB 0 x1) (LB 0 x2)) (or2 (cI z1 z2) (or2 (cI m1 m2) (cS t1 t2)))) := ⟨_, rfl⟩
  rw [← HR.out]
  obtain ⟨R, HRR⟩ : ∃ R, Hid (R = or2 (cI z1 z2) (or2 (cI m1 m2) (cS t1 t2))) := ⟨_, rfl⟩
  rw [← HRR.out] at HR
  obtain ⟨cs, HCS⟩ : ∃ cs, Hid (cs = cS t1 t2) := ⟨_, rfl⟩
  rw [← HCS.out] at HRR h5
  clear HCS
  obtain ⟨W2, HW⟩ : ∃ W2, Hid (W2 = ((w.alloc (.cells LA 45)).alloc (.cells LC 45))) := ⟨_, rfl⟩
  rw [← HW.out] at hf
  have hg0 : GB w W2 := by rw [HW.out]; exact ((GB.refl w).alloc _).alloc _
  have HG0 : Hid (GB w W2) := hg0
  have HF : Hid (∀ w', GB W2 w' → w'.cell? ⟨w.heap.size, 0, none⟩ = some (.int .u32 q) ∧ w'.cell? ⟨w.heap.size, 1, none⟩ = some (.int .u8 f1) ∧ (∀ i, i < 16 → w'.cell? ⟨w.heap.size, 2 + i, none⟩ = some (.int .u8 (x1 i).toNat)) ∧ w'.cell? ⟨w.heap.size, 19, none⟩ = some (.int .i64 m1) ∧ w'.cell? ⟨w.heap.size, 20, none⟩ = some (.string t1) ∧ (Ld45 (.pointer (some ⟨w.heap.size, 0, none⟩))).run Tryd.prog w' = .ok (.agg LA) w' ∧ w'.cell? ⟨w.heap.size + 1, 0, none⟩ = some (.int .u32 q) ∧ w'.cell? ⟨w.heap.size + 1, 1, none⟩ = some (.int .u8 f2) ∧ (∀ i, i < 16 → w'.cell? ⟨w.heap.size + 1, 2 + i, none⟩ = some (.int .u8 (x2 i).toNat)) ∧ w'.cell? ⟨w.heap.size + 1, 19, none⟩ = some (.int .i64 m2) ∧ w'.cell? ⟨w.heap.size + 1, 20, none⟩ = some (.string t2) ∧ (Ld45 (.pointer (some ⟨w.heap.size + 1, 0, none⟩))).run Tryd.prog w' = .ok (.agg LC) w') := hf
  have H1 : Hid (∀ W, Calls Tryd.prog 14 #[.int .u8 f1] W fun e w' => e = .returned (.int .i64 0) ∧ w' = W) := h1
  have H2 : Hid (∀ W, Calls Tryd.prog 14 #[.int .u8 f2] W fun e w' => e = .returned (.int .i64 0) ∧ w' = W) := h2
  have H3 : Hid (∀ W, Calls Tryd.prog 16 #[.agg LA] W fun e w' => e = .returned (.int .i64 z1) ∧ GB W w') := h3
  have H4 : Hid (∀ W, Calls Tryd.prog 16 #[.agg LC] W fun e w' => e = .returned (.int .i64 z2) ∧ GB W w') := h4
  have H5 : Hid (∀ W, Calls Tryd.prog 17 #[.string t1, .string t2] W fun e w' => e = .returned (.int .i64 cs) ∧ GB W w') := h5
  obtain ⟨c0, c1, _, _, _, _, d0, d1, _, _, _, _⟩ := hf W2 (GB.refl _)
  rw [HW.out] at c0 c1 d0 d1
  clear hf h1 h2 h3 h4 h5 hg0
  go_enter Tryd.func10, Tryd.ntmps10
  go_wp2_with (first | (go_at_call_of 14 f1; refine (H1.out _).mono ?_; rintro e v ⟨rfl, rfl⟩) | (go_at_call_of 14 f2; refine (H2.out _).mono ?_; rintro e v ⟨rfl, rfl⟩))
  rw [← HW.out]
  clear c0 c1 d0 d1
  go_loopg [8] 0 (fun g s8 wr => ∃ i : Nat, i ≤ 0 ∧ 0 - i ≤ g ∧ s8 = .int .i64 i ∧ (GB W2 wr ∧ ∀ j, j < i → x1 j = x2 j))
  case atStart => exact ⟨0, by omega, by omega, rfl, GB.refl _, fun j hj => by omega⟩
  case round =>
    obtain ⟨i, hi, hg, rfl, hX⟩ := hrel
    have X : Hid (GB W2 wr ∧ ∀ j, j < i → x1 j = x2 j) := hX
    clear hX
    by_cases hlt : i < 0
    · omega
    · have hend : i = 0 := by omega
      subst hend
      have HV : Hid (r = R) := by rw [HR.out, zl_end 0 x1 x2 R X.out.2]; exact rfl
      have HS : Hid (∀ w', GB W2 w' → GB W2 w' ∧ (Ld45 (.pointer (some ⟨w.heap.size, 0, none⟩))).run Tryd.prog w' = .ok (.agg LA) w' ∧ (Ld45 (.pointer (some ⟨w.heap.size + 1, 0, none⟩))).run Tryd.prog w' = .ok (.agg LC) w') := fun w' h => by
        obtain ⟨_, _, _, _, _, ra, _, _, _, _, _, rb⟩ := HF.out w' h
        exact ⟨h, ra, rb⟩
      have hx := X.out.1
      go_wp2_with fail
      go_region_held3 (fun w' => GB W2 w' ∧ (Ld45 (.pointer (some ⟨w.heap.size, 0, none⟩))).run Tryd.prog w' = .ok (.agg LA) w' ∧ (Ld45 (.pointer (some ⟨w.heap.size + 1, 0, none⟩))).run Tryd.prog w' = .ok (.agg LC) w')
        (first | with_reducible exact HS.out _ (GB.drew hx) | with_reducible exact HS.out _ (by assumption))
        (first
          | (go_at_call_of 16 (Value.agg LA); have hgg := (show GB W2 _ ∧ _ by assumption); refine (H3.out _).mono ?_; rintro e vv ⟨rfl, hb⟩; have hb2 := hgg.1.trans hb; clear hgg hb)
          | (go_at_call_of 16 (Value.agg LC); have hgg := (show GB W2 _ ∧ _ by assumption); refine (H4.out _).mono ?_; rintro e vv ⟨rfl, hb⟩; have hb2 := hgg.1.trans hb; clear hgg hb)
          | (go_at_call 15; have hgg := (show GB W2 _ ∧ _ by assumption); refine (zcmpInt_any _ _ _).mono ?_; rintro e vv ⟨rfl, rfl⟩))
      obtain ⟨_, _, ya, e19, e20, _, _, _, yb, g19, g20, _⟩ := HF.out _ (show GB W2 vv by assumption)
      clear ya yb
      have gg : GB W2 _ := show GB W2 vv by assumption
      by_cases hz : cI z1 z2 = 0
      · by_cases hm : cI m1 m2 = 0
        · have HQ : Hid (r = cs) := by rw [HV.out, HRR.out, hz, hm, or2_0, or2_0]; exact rfl
          go_wp2_with (first | (go_at_call 15; refine (zcmpInt_any _ _ _).mono ?_; rintro e v ⟨rfl, rfl⟩) | (go_at_call 17; refine (H5.out _).mono ?_; rintro e v5 ⟨rfl, hb5⟩))
          go_ret
          exact ⟨ret_int HQ.out.symm, HG0.out.trans (GB.trans gg hb5)⟩
        · have HQ : Hid (r = cI m1 m2) := by rw [HV.out, HRR.out, hz, or2_0, or2_ne hm]; exact rfl
          go_wp2_with (go_at_call 15; refine (zcmpInt_any _ _ _).mono ?_; rintro e v ⟨rfl, rfl⟩)
          go_ret
          exact ⟨ret_int HQ.out.symm, HG0.out.trans gg⟩
      · have HQ : Hid (r = cI z1 z2) := by rw [HV.out, HRR.out, or2_ne hz]; exact rfl
        go_wp2
        go_ret
        exact ⟨ret_int HQ.out.symm, HG0.out.trans gg⟩

set_option maxHeartbeats 8000000 in
set_option maxRecDepth 100000 in
theorem zcore_v4 (q f1 f2 m1 m2 z1 z2 : Int) (x1 x2 : Nat → UInt8) (t1 t2 : ByteArray) (LA LC : Array Value) (w : World)
    (hf : ∀ w', GB ((w.alloc (.cells LA 45)).alloc (.cells LC 45)) w' → w'.cell? ⟨w.heap.size, 0, none⟩ = some (.int .u32 q) ∧ w'.cell? ⟨w.heap.size, 1, none⟩ = some (.int .u8 f1) ∧ (∀ i, i < 16 → w'.cell? ⟨w.heap.size, 2 + i, none⟩ = some (.int .u8 (x1 i).toNat)) ∧ w'.cell? ⟨w.heap.size, 19, none⟩ = some (.int .i64 m1) ∧ w'.cell? ⟨w.heap.size, 20, none⟩ = some (.string t1) ∧ (Ld45 (.pointer (some ⟨w.heap.size, 0, none⟩))).run Tryd.prog w' = .ok (.agg LA) w' ∧ w'.cell? ⟨w.heap.size + 1, 0, none⟩ = some (.int .u32 q) ∧ w'.cell? ⟨w.heap.size + 1, 1, none⟩ = some (.int .u8 f2) ∧ (∀ i, i < 16 → w'.cell? ⟨w.heap.size + 1, 2 + i, none⟩ = some (.int .u8 (x2 i).toNat)) ∧ w'.cell? ⟨w.heap.size + 1, 19, none⟩ = some (.int .i64 m2) ∧ w'.cell? ⟨w.heap.size + 1, 20, none⟩ = some (.string t2) ∧ (Ld45 (.pointer (some ⟨w.heap.size + 1, 0, none⟩))).run Tryd.prog w' = .ok (.agg LC) w')
    (h1 : ∀ W, Calls Tryd.prog 14 #[.int .u8 f1] W fun e w' => e = .returned (.int .i64 1) ∧ w' = W)
    (h2 : ∀ W, Calls Tryd.prog 14 #[.int .u8 f2] W fun e w' => e = .returned (.int .i64 1) ∧ w' = W)
    (h3 : ∀ W, Calls Tryd.prog 16 #[.agg LA] W fun e w' => e = .returned (.int .i64 z1) ∧ GB W w')
    (h4 : ∀ W, Calls Tryd.prog 16 #[.agg LC] W fun e w' => e = .returned (.int .i64 z2) ∧ GB W w')
    (h5 : ∀ W, Calls Tryd.prog 17 #[.string t1, .string t2] W fun e w' => e = .returned (.int .i64 (cS t1 t2)) ∧ GB W w') :
    Calls Tryd.prog 10 #[.agg LA, .agg LC] w fun e w' => e = .returned (.int .i64 (or2 (cB (LB 4 x1) (LB 4 x2)) (or2 (cI z1 z2) (or2 (cI m1 m2) (cS t1 t2))))) ∧ GB w w' := by
  obtain ⟨r, HR⟩ : ∃ r, Hid (r = or2 (cB (LB 4 x1) (LB 4 x2)) (or2 (cI z1 z2) (or2 (cI m1 m2) (cS t1 t2)))) := ⟨_, rfl⟩
  rw [← HR.out]
  obtain ⟨R, HRR⟩ : ∃ R, Hid (R = or2 (cI z1 z2) (or2 (cI m1 m2) (cS t1 t2))) := ⟨_, rfl⟩
  rw [← HRR.out] at HR
  obtain ⟨cs, HCS⟩ : ∃ cs, Hid (cs = cS t1 t2) := ⟨_, rfl⟩
  rw [← HCS.out] at HRR h5
  clear HCS
  obtain ⟨W2, HW⟩ : ∃ W2, Hid (W2 = ((w.alloc (.cells LA 45)).alloc (.cells LC 45))) := ⟨_, rfl⟩
  rw [← HW.out] at hf
  have hg0 : GB w W2 := by rw [HW.out]; exact ((GB.refl w).alloc _).alloc _
  have HG0 : Hid (GB w W2) := hg0
  have HF : Hid (∀ w', GB W2 w' → w'.cell? ⟨w.heap.size, 0, none⟩ = some (.int .u32 q) ∧ w'.cell? ⟨w.heap.size, 1, none⟩ = some (.int .u8 f1) ∧ (∀ i, i < 16 → w'.cell? ⟨w.heap.size, 2 + i, none⟩ = some (.int .u8 (x1 i).toNat)) ∧ w'.cell? ⟨w.heap.size, 19, none⟩ = some (.int .i64 m1) ∧ w'.cell? ⟨w.heap.size, 20, none⟩ = some (.string t1) ∧ (Ld45 (.pointer (some ⟨w.heap.size, 0, none⟩))).run Tryd.prog w' = .ok (.agg LA) w' ∧ w'.cell? ⟨w.heap.size + 1, 0, none⟩ = some (.int .u32 q) ∧ w'.cell? ⟨w.heap.size + 1, 1, none⟩ = some (.int .u8 f2) ∧ (∀ i, i < 16 → w'.cell? ⟨w.heap.size + 1, 2 + i, none⟩ = some (.int .u8 (x2 i).toNat)) ∧ w'.cell? ⟨w.heap.size + 1, 19, none⟩ = some (.int .i64 m2) ∧ w'.cell? ⟨w.heap.size + 1, 20, none⟩ = some (.string t2) ∧ (Ld45 (.pointer (some ⟨w.heap.size + 1, 0, none⟩))).run Tryd.prog w' = .ok (.agg LC) w') := hf
  have H1 : Hid (∀ W, Calls Tryd.prog 14 #[.int .u8 f1] W fun e w' => e = .returned (.int .i64 1) ∧ w' = W) := h1
  have H2 : Hid (∀ W, Calls Tryd.prog 14 #[.int .u8 f2] W fun e w' => e = .returned (.int .i64 1) ∧ w' = W) := h2
  have H3 : Hid (∀ W, Calls Tryd.prog 16 #[.agg LA] W fun e w' => e = .returned (.int .i64 z1) ∧ GB W w') := h3
  have H4 : Hid (∀ W, Calls Tryd.prog 16 #[.agg LC] W fun e w' => e = .returned (.int .i64 z2) ∧ GB W w') := h4
  have H5 : Hid (∀ W, Calls Tryd.prog 17 #[.string t1, .string t2] W fun e w' => e = .returned (.int .i64 cs) ∧ GB W w') := h5
  obtain ⟨c0, c1, _, _, _, _, d0, d1, _, _, _, _⟩ := hf W2 (GB.refl _)
  rw [HW.out] at c0 c1 d0 d1
  clear hf h1 h2 h3 h4 h5 hg0
  go_enter Tryd.func10, Tryd.ntmps10
  go_wp2_with (first | (go_at_call_of 14 f1; refine (H1.out _).mono ?_; rintro e v ⟨rfl, rfl⟩) | (go_at_call_of 14 f2; refine (H2.out _).mono ?_; rintro e v ⟨rfl, rfl⟩))
  rw [← HW.out]
  clear c0 c1 d0 d1
  go_loopg [8] 4 (fun g s8 wr => ∃ i : Nat, i ≤ 4 ∧ 4 - i ≤ g ∧ s8 = .int .i64 i ∧ (GB W2 wr ∧ ∀ j, j < i → x1 j = x2 j))
  case atStart => exact ⟨0, by omega, by omega, rfl, GB.refl _, fun j hj => by omega⟩
  case round =>
    obtain ⟨i, hi, hg, rfl, hX⟩ := hrel
    have X : Hid (GB W2 wr ∧ ∀ j, j < i → x1 j = x2 j) := hX
    clear hX
    by_cases hlt : i < 4
    · obtain ⟨_, _, fa, _, _, _, _, _, fb, _, _, _⟩ := HF.out wr X.out.1
      have ca := fa i (by omega)
      have cb := fb i (by omega)
      clear fa fb
      obtain ⟨u, hu1⟩ : ∃ u : Nat, u = (x1 i).toNat := ⟨_, rfl⟩
      obtain ⟨v, hv1⟩ : ∃ u : Nat, u = (x2 i).toNat := ⟨_, rfl⟩
      rw [← hu1] at ca
      rw [← hv1] at cb
      have HU : Hid (u = (x1 i).toNat ∧ v = (x2 i).toNat) := ⟨hu1, hv1⟩
      clear hu1 hv1
      have hi16 : i < 16 := by omega
      by_cases hne : u = v
      · subst hne
        go_wp2_with fail
        go_region
        go_wp2
        go_roundg (4 - (i + 1))
        case measure => omega
        case rel =>
          refine ⟨i + 1, by omega, Nat.le_refl _, by go_num, X.out.1.drew, fun j hj => ?_⟩
          by_cases e : j = i
          · subst e
            exact UInt8.toNat_inj.1 (HU.out.1.symm.trans HU.out.2)
          · exact X.out.2 j (by omega)
      · by_cases hl3 : u < v
        · have HV : Hid (r = -1) := by rw [HR.out, zl_lt 4 x1 x2 i R hlt X.out.2 (by rw [← HU.out.1, ← HU.out.2]; exact hl3)]; exact rfl
          go_wp2_with fail
          go_region
          go_wp2_with fail
          go_region
          go_wp2
          go_ret
          exact ⟨ret_int HV.out.symm, HG0.out.trans X.out.1.drew.drew⟩
        · have HV : Hid (r = 1) := by rw [HR.out, zl_gt 4 x1 x2 i R hlt X.out.2 (by rw [← HU.out.1, ← HU.out.2]; omega)]; exact rfl
          go_wp2_with fail
          go_region
          go_wp2_with fail
          go_region
          go_wp2
          go_ret
          exact ⟨ret_int HV.out.symm, HG0.out.trans X.out.1.drew.drew⟩
    · have hend : i = 4 := by omega
      subst hend
      have HV : Hid (r = R) := by rw [HR.out, zl_end 4 x1 x2 R X.out.2]; exact rfl
      have HS : Hid (∀ w', GB W2 w' → GB W2 w' ∧ (Ld45 (.pointer (some ⟨w.heap.size, 0, none⟩))).run Tryd.prog w' = .ok (.agg LA) w' ∧ (Ld45 (.pointer (some ⟨w.heap.size + 1, 0, none⟩))).run Tryd.prog w' = .ok (.agg LC) w') := fun w' h => by
        obtain ⟨_, _, _, _, _, ra, _, _, _, _, _, rb⟩ := HF.out w' h
        exact ⟨h, ra, rb⟩
      have hx := X.out.1
      go_wp2_with fail
      go_region_held3 (fun w' => GB W2 w' ∧ (Ld45 (.pointer (some ⟨w.heap.size, 0, none⟩))).run Tryd.prog w' = .ok (.agg LA) w' ∧ (Ld45 (.pointer (some ⟨w.heap.size + 1, 0, none⟩))).run Tryd.prog w' = .ok (.agg LC) w')
        (first | with_reducible exact HS.out _ (GB.drew hx) | with_reducible exact HS.out _ (by assumption))
        (first
          | (go_at_call_of 16 (Value.agg LA); have hgg := (show GB W2 _ ∧ _ by assumption); refine (H3.out _).mono ?_; rintro e vv ⟨rfl, hb⟩; have hb2 := hgg.1.trans hb; clear hgg hb)
          | (go_at_call_of 16 (Value.agg LC); have hgg := (show GB W2 _ ∧ _ by assumption); refine (H4.out _).mono ?_; rintro e vv ⟨rfl, hb⟩; have hb2 := hgg.1.trans hb; clear hgg hb)
          | (go_at_call 15; have hgg := (show GB W2 _ ∧ _ by assumption); refine (zcmpInt_any _ _ _).mono ?_; rintro e vv ⟨rfl, rfl⟩))
      obtain ⟨_, _, ya, e19, e20, _, _, _, yb, g19, g20, _⟩ := HF.out _ (show GB W2 vv by assumption)
      clear ya yb
      have gg : GB W2 _ := show GB W2 vv by assumption
      by_cases hz : cI z1 z2 = 0
      · by_cases hm : cI m1 m2 = 0
        · have HQ : Hid (r = cs) := by rw [HV.out, HRR.out, hz, hm, or2_0, or2_0]; exact rfl
          go_wp2_with (first | (go_at_call 15; refine (zcmpInt_any _ _ _).mono ?_; rintro e v ⟨rfl, rfl⟩) | (go_at_call 17; refine (H5.out _).mono ?_; rintro e v5 ⟨rfl, hb5⟩))
          go_ret
          exact ⟨ret_int HQ.out.symm, HG0.out.trans (GB.trans gg hb5)⟩
        · have HQ : Hid (r = cI m1 m2) := by rw [HV.out, HRR.out, hz, or2_0, or2_ne hm]; exact rfl
          go_wp2_with (go_at_call 15; refine (zcmpInt_any _ _ _).mono ?_; rintro e v ⟨rfl, rfl⟩)
          go_ret
          exact ⟨ret_int HQ.out.symm, HG0.out.trans gg⟩
      · have HQ : Hid (r = cI z1 z2) := by rw [HV.out, HRR.out, or2_ne hz]; exact rfl
        go_wp2
        go_ret
        exact ⟨ret_int HQ.out.symm, HG0.out.trans gg⟩

set_option maxHeartbeats 8000000 in
set_option maxRecDepth 100000 in
theorem zcore_v6 (q f1 f2 m1 m2 z1 z2 : Int) (x1 x2 : Nat → UInt8) (t1 t2 : ByteArray) (LA LC : Array Value) (w : World)
    (hf : ∀ w', GB ((w.alloc (.cells LA 45)).alloc (.cells LC 45)) w' → w'.cell? ⟨w.heap.size, 0, none⟩ = some (.int .u32 q) ∧ w'.cell? ⟨w.heap.size, 1, none⟩ = some (.int .u8 f1) ∧ (∀ i, i < 16 → w'.cell? ⟨w.heap.size, 2 + i, none⟩ = some (.int .u8 (x1 i).toNat)) ∧ w'.cell? ⟨w.heap.size, 19, none⟩ = some (.int .i64 m1) ∧ w'.cell? ⟨w.heap.size, 20, none⟩ = some (.string t1) ∧ (Ld45 (.pointer (some ⟨w.heap.size, 0, none⟩))).run Tryd.prog w' = .ok (.agg LA) w' ∧ w'.cell? ⟨w.heap.size + 1, 0, none⟩ = some (.int .u32 q) ∧ w'.cell? ⟨w.heap.size + 1, 1, none⟩ = some (.int .u8 f2) ∧ (∀ i, i < 16 → w'.cell? ⟨w.heap.size + 1, 2 + i, none⟩ = some (.int .u8 (x2 i).toNat)) ∧ w'.cell? ⟨w.heap.size + 1, 19, none⟩ = some (.int .i64 m2) ∧ w'.cell? ⟨w.heap.size + 1, 20, none⟩ = some (.string t2) ∧ (Ld45 (.pointer (some ⟨w.heap.size + 1, 0, none⟩))).run Tryd.prog w' = .ok (.agg LC) w')
    (h1 : ∀ W, Calls Tryd.prog 14 #[.int .u8 f1] W fun e w' => e = .returned (.int .i64 2) ∧ w' = W)
    (h2 : ∀ W, Calls Tryd.prog 14 #[.int .u8 f2] W fun e w' => e = .returned (.int .i64 2) ∧ w' = W)
    (h3 : ∀ W, Calls Tryd.prog 16 #[.agg LA] W fun e w' => e = .returned (.int .i64 z1) ∧ GB W w')
    (h4 : ∀ W, Calls Tryd.prog 16 #[.agg LC] W fun e w' => e = .returned (.int .i64 z2) ∧ GB W w')
    (h5 : ∀ W, Calls Tryd.prog 17 #[.string t1, .string t2] W fun e w' => e = .returned (.int .i64 (cS t1 t2)) ∧ GB W w') :
    Calls Tryd.prog 10 #[.agg LA, .agg LC] w fun e w' => e = .returned (.int .i64 (or2 (cB (LB 16 x1) (LB 16 x2)) (or2 (cI z1 z2) (or2 (cI m1 m2) (cS t1 t2))))) ∧ GB w w' := by
  obtain ⟨r, HR⟩ : ∃ r, Hid (r = or2 (cB (LB 16 x1) (LB 16 x2)) (or2 (cI z1 z2) (or2 (cI m1 m2) (cS t1 t2)))) := ⟨_, rfl⟩
  rw [← HR.out]
  obtain ⟨R, HRR⟩ : ∃ R, Hid (R = or2 (cI z1 z2) (or2 (cI m1 m2) (cS t1 t2))) := ⟨_, rfl⟩
  rw [← HRR.out] at HR
  obtain ⟨cs, HCS⟩ : ∃ cs, Hid (cs = cS t1 t2) := ⟨_, rfl⟩
  rw [← HCS.out] at HRR h5
  clear HCS
  obtain ⟨W2, HW⟩ : ∃ W2, Hid (W2 = ((w.alloc (.cells LA 45)).alloc (.cells LC 45))) := ⟨_, rfl⟩
  rw [← HW.out] at hf
  have hg0 : GB w W2 := by rw [HW.out]; exact ((GB.refl w).alloc _).alloc _
  have HG0 : Hid (GB w W2) := hg0
  have HF : Hid (∀ w', GB W2 w' → w'.cell? ⟨w.heap.size, 0, none⟩ = some (.int .u32 q) ∧ w'.cell? ⟨w.heap.size, 1, none⟩ = some (.int .u8 f1) ∧ (∀ i, i < 16 → w'.cell? ⟨w.heap.size, 2 + i, none⟩ = some (.int .u8 (x1 i).toNat)) ∧ w'.cell? ⟨w.heap.size, 19, none⟩ = some (.int .i64 m1) ∧ w'.cell? ⟨w.heap.size, 20, none⟩ = some (.string t1) ∧ (Ld45 (.pointer (some ⟨w.heap.size, 0, none⟩))).run Tryd.prog w' = .ok (.agg LA) w' ∧ w'.cell? ⟨w.heap.size + 1, 0, none⟩ = some (.int .u32 q) ∧ w'.cell? ⟨w.heap.size + 1, 1, none⟩ = some (.int .u8 f2) ∧ (∀ i, i < 16 → w'.cell? ⟨w.heap.size + 1, 2 + i, none⟩ = some (.int .u8 (x2 i).toNat)) ∧ w'.cell? ⟨w.heap.size + 1, 19, none⟩ = some (.int .i64 m2) ∧ w'.cell? ⟨w.heap.size + 1, 20, none⟩ = some (.string t2) ∧ (Ld45 (.pointer (some ⟨w.heap.size + 1, 0, none⟩))).run Tryd.prog w' = .ok (.agg LC) w') := hf
  have H1 : Hid (∀ W, Calls Tryd.prog 14 #[.int .u8 f1] W fun e w' => e = .returned (.int .i64 2) ∧ w' = W) := h1
  have H2 : Hid (∀ W, Calls Tryd.prog 14 #[.int .u8 f2] W fun e w' => e = .returned (.int .i64 2) ∧ w' = W) := h2
  have H3 : Hid (∀ W, Calls Tryd.prog 16 #[.agg LA] W fun e w' => e = .returned (.int .i64 z1) ∧ GB W w') := h3
  have H4 : Hid (∀ W, Calls Tryd.prog 16 #[.agg LC] W fun e w' => e = .returned (.int .i64 z2) ∧ GB W w') := h4
  have H5 : Hid (∀ W, Calls Tryd.prog 17 #[.string t1, .string t2] W fun e w' => e = .returned (.int .i64 cs) ∧ GB W w') := h5
  obtain ⟨c0, c1, _, _, _, _, d0, d1, _, _, _, _⟩ := hf W2 (GB.refl _)
  rw [HW.out] at c0 c1 d0 d1
  clear hf h1 h2 h3 h4 h5 hg0
  go_enter Tryd.func10, Tryd.ntmps10
  go_wp2_with (first | (go_at_call_of 14 f1; refine (H1.out _).mono ?_; rintro e v ⟨rfl, rfl⟩) | (go_at_call_of 14 f2; refine (H2.out _).mono ?_; rintro e v ⟨rfl, rfl⟩))
  rw [← HW.out]
  clear c0 c1 d0 d1
  go_loopg [8] 16 (fun g s8 wr => ∃ i : Nat, i ≤ 16 ∧ 16 - i ≤ g ∧ s8 = .int .i64 i ∧ (GB W2 wr ∧ ∀ j, j < i → x1 j = x2 j))
  case atStart => exact ⟨0, by omega, by omega, rfl, GB.refl _, fun j hj => by omega⟩
  case round =>
    obtain ⟨i, hi, hg, rfl, hX⟩ := hrel
    have X : Hid (GB W2 wr ∧ ∀ j, j < i → x1 j = x2 j) := hX
    clear hX
    by_cases hlt : i < 16
    · obtain ⟨_, _, fa, _, _, _, _, _, fb, _, _, _⟩ := HF.out wr X.out.1
      have ca := fa i (by omega)
      have cb := fb i (by omega)
      clear fa fb
      obtain ⟨u, hu1⟩ : ∃ u : Nat, u = (x1 i).toNat := ⟨_, rfl⟩
      obtain ⟨v, hv1⟩ : ∃ u : Nat, u = (x2 i).toNat := ⟨_, rfl⟩
      rw [← hu1] at ca
      rw [← hv1] at cb
      have HU : Hid (u = (x1 i).toNat ∧ v = (x2 i).toNat) := ⟨hu1, hv1⟩
      clear hu1 hv1
      have hi16 : i < 16 := by omega
      by_cases hne : u = v
      · subst hne
        go_wp2_with fail
        go_region
        go_wp2
        go_roundg (16 - (i + 1))
        case measure => omega
        case rel =>
          refine ⟨i + 1, by omega, Nat.le_refl _, by go_num, X.out.1.drew, fun j hj => ?_⟩
          by_cases e : j = i
          · subst e
            exact UInt8.toNat_inj.1 (HU.out.1.symm.trans HU.out.2)
          · exact X.out.2 j (by omega)
      · by_cases hl3 : u < v
        · have HV : Hid (r = -1) := by rw [HR.out, zl_lt 16 x1 x2 i R hlt X.out.2 (by rw [← HU.out.1, ← HU.out.2]; exact hl3)]; exact rfl
          go_wp2_with fail
          go_region
          go_wp2_with fail
          go_region
          go_wp2
          go_ret
          exact ⟨ret_int HV.out.symm, HG0.out.trans X.out.1.drew.drew⟩
        · have HV : Hid (r = 1) := by rw [HR.out, zl_gt 16 x1 x2 i R hlt X.out.2 (by rw [← HU.out.1, ← HU.out.2]; omega)]; exact rfl
          go_wp2_with fail
          go_region
          go_wp2_with fail
          go_region
          go_wp2
          go_ret
          exact ⟨ret_int HV.out.symm, HG0.out.trans X.out.1.drew.drew⟩
    · have hend : i = 16 := by omega
      subst hend
      have HV : Hid (r = R) := by rw [HR.out, zl_end 16 x1 x2 R X.out.2]; exact rfl
      have HS : Hid (∀ w', GB W2 w' → GB W2 w' ∧ (Ld45 (.pointer (some ⟨w.heap.size, 0, none⟩))).run Tryd.prog w' = .ok (.agg LA) w' ∧ (Ld45 (.pointer (some ⟨w.heap.size + 1, 0, none⟩))).run Tryd.prog w' = .ok (.agg LC) w') := fun w' h => by
        obtain ⟨_, _, _, _, _, ra, _, _, _, _, _, rb⟩ := HF.out w' h
        exact ⟨h, ra, rb⟩
      have hx := X.out.1
      go_wp2_with fail
      go_region_held3 (fun w' => GB W2 w' ∧ (Ld45 (.pointer (some ⟨w.heap.size, 0, none⟩))).run Tryd.prog w' = .ok (.agg LA) w' ∧ (Ld45 (.pointer (some ⟨w.heap.size + 1, 0, none⟩))).run Tryd.prog w' = .ok (.agg LC) w')
        (first | with_reducible exact HS.out _ (GB.drew hx) | with_reducible exact HS.out _ (by assumption))
        (first
          | (go_at_call_of 16 (Value.agg LA); have hgg := (show GB W2 _ ∧ _ by assumption); refine (H3.out _).mono ?_; rintro e vv ⟨rfl, hb⟩; have hb2 := hgg.1.trans hb; clear hgg hb)
          | (go_at_call_of 16 (Value.agg LC); have hgg := (show GB W2 _ ∧ _ by assumption); refine (H4.out _).mono ?_; rintro e vv ⟨rfl, hb⟩; have hb2 := hgg.1.trans hb; clear hgg hb)
          | (go_at_call 15; have hgg := (show GB W2 _ ∧ _ by assumption); refine (zcmpInt_any _ _ _).mono ?_; rintro e vv ⟨rfl, rfl⟩))
      obtain ⟨_, _, ya, e19, e20, _, _, _, yb, g19, g20, _⟩ := HF.out _ (show GB W2 vv by assumption)
      clear ya yb
      have gg : GB W2 _ := show GB W2 vv by assumption
      by_cases hz : cI z1 z2 = 0
      · by_cases hm : cI m1 m2 = 0
        · have HQ : Hid (r = cs) := by rw [HV.out, HRR.out, hz, hm, or2_0, or2_0]; exact rfl
          go_wp2_with (first | (go_at_call 15; refine (zcmpInt_any _ _ _).mono ?_; rintro e v ⟨rfl, rfl⟩) | (go_at_call 17; refine (H5.out _).mono ?_; rintro e v5 ⟨rfl, hb5⟩))
          go_ret
          exact ⟨ret_int HQ.out.symm, HG0.out.trans (GB.trans gg hb5)⟩
        · have HQ : Hid (r = cI m1 m2) := by rw [HV.out, HRR.out, hz, or2_0, or2_ne hm]; exact rfl
          go_wp2_with (go_at_call 15; refine (zcmpInt_any _ _ _).mono ?_; rintro e v ⟨rfl, rfl⟩)
          go_ret
          exact ⟨ret_int HQ.out.symm, HG0.out.trans gg⟩
      · have HQ : Hid (r = cI z1 z2) := by rw [HV.out, HRR.out, or2_ne hz]; exact rfl
        go_wp2
        go_ret
        exact ⟨ret_int HQ.out.symm, HG0.out.trans gg⟩
end Go.Proofs.Qxb6616947aDoor
