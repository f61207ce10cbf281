/-
  The contract of (netip.Addr).Compare.
-/
import Derived.Test.Qxb6616947aDoorNet
namespace Go.Proofs.Qxb6616947aDoor
open Go.RowKit Plain
set_option linter.unusedVariables false

theorem cA_1 {c c' : Option Bool} {hi lo hi' lo' : Int} (h : rk c < rk c') : cA c hi lo c' hi' lo' = -1 := by
  unfold cA or2 cC cI; rw [if_pos h]; rfl
theorem cA_2 {c c' : Option Bool} {hi lo hi' lo' : Int} (h : rk c' < rk c) : cA c hi lo c' hi' lo' = 1 := by
  have e : cC c c' = 1 := by unfold cC cI; rw [if_neg (by omega), if_pos h]
  unfold cA; rw [e]; rfl
theorem cC_0 {c c' : Option Bool} (h : rk c = rk c') : cC c c' = 0 := by
  unfold cC cI; rw [if_neg (by omega), if_neg (by omega)]
theorem cI_0 {a b : Int} (h1 : ¬ a < b) (h2 : ¬ b < a) : cI a b = 0 := by
  unfold cI; rw [if_neg h1, if_neg h2]
theorem cI_1 {a b : Int} (h1 : a < b) : cI a b = -1 := by unfold cI; rw [if_pos h1]
theorem cI_2 {a b : Int} (h1 : b < a) : cI a b = 1 := by unfold cI; rw [if_neg (by omega), if_pos h1]
theorem cA_3 {c c' : Option Bool} {hi lo hi' lo' : Int} (h : rk c = rk c') (h1 : hi < hi') : cA c hi lo c' hi' lo' = -1 := by
  unfold cA; rw [cC_0 h, cI_1 h1]; rfl
theorem cA_4 {c c' : Option Bool} {hi lo hi' lo' : Int} (h : rk c = rk c') (h1 : hi' < hi) : cA c hi lo c' hi' lo' = 1 := by
  unfold cA; rw [cC_0 h, cI_2 h1]; rfl
theorem cA_5 {c c' : Option Bool} {hi lo hi' lo' : Int} (h : rk c = rk c') (h1 : ¬ hi < hi') (h2 : ¬ hi' < hi) (h3 : lo < lo') : cA c hi lo c' hi' lo' = -1 := by
  unfold cA; rw [cC_0 h, cI_0 h1 h2, cI_1 h3]; rfl
theorem cA_6 {c c' : Option Bool} {hi lo hi' lo' : Int} (h : rk c = rk c') (h1 : ¬ hi < hi') (h2 : ¬ hi' < hi) (h3 : lo' < lo) : cA c hi lo c' hi' lo' = 1 := by
  unfold cA; rw [cC_0 h, cI_0 h1 h2, cI_2 h3]; rfl
theorem cA_7 {c c' : Option Bool} {hi lo hi' lo' : Int} (h : rk c = rk c') (h1 : ¬ hi < hi') (h2 : ¬ hi' < hi) (h3 : ¬ lo < lo') (h4 : ¬ lo' < lo) : cA c hi lo c' hi' lo' = 0 := by
  unfold cA; rw [cC_0 h, cI_0 h1 h2, cI_0 h3 h4]; rfl

set_option maxHeartbeats 1000000 in
theorem acmp_core (hi lo hi' lo' : Int) (c c' : Option Bool) (z z' : Option Addr) (w : World)
    (hb1 : ∀ w', GB w w' → Calls Tryd.prog 25 #[.agg #[.int .u64 hi, .int .u64 lo, .pointer z]] w' fun e w'' => e = .returned (.int .i64 (rk c)) ∧ GB w' w'')
    (hb2 : ∀ w', GB w w' → Calls Tryd.prog 25 #[.agg #[.int .u64 hi', .int .u64 lo', .pointer z']] w' fun e w'' => e = .returned (.int .i64 (rk c')) ∧ GB w' w'')
    (h6 : ∀ w', GB w w' → Calls Tryd.prog 37 #[.agg #[.int .u64 hi, .int .u64 lo, .pointer z]] w' fun e w'' => e = .returned (.bool (c == some true)) ∧ GB w' w'')
    (hz1 : c = some true → ∀ w', GB w w' → Calls Tryd.prog 49 #[.agg #[.int .u64 hi, .int .u64 lo, .pointer z]] w' fun e w'' => e = .returned (.string ⟨#[]⟩) ∧ GB w' w'')
    (hz2 : c' = some true → ∀ w', GB w w' → Calls Tryd.prog 49 #[.agg #[.int .u64 hi', .int .u64 lo', .pointer z']] w' fun e w'' => e = .returned (.string ⟨#[]⟩) ∧ GB w' w'') :
    Calls Tryd.prog 33 #[.agg #[.int .u64 hi, .int .u64 lo, .pointer z], .agg #[.int .u64 hi', .int .u64 lo', .pointer z']] w fun e w' => e = .returned (.int .i64 (cA c hi lo c' hi' lo')) ∧ GB w w' := by
  obtain ⟨W2, HW⟩ : ∃ W2, Hid (W2 = (w.alloc (.cells #[.int .u64 hi, .int .u64 lo, .pointer z] 37)).alloc (.cells #[.int .u64 hi', .int .u64 lo', .pointer z'] 37)) := ⟨_, rfl⟩
  have HS : Hid (∀ w', GB W2 w' → GB W2 w' ∧ w'.cell? ⟨w.heap.size, 0, none⟩ = some (.int .u64 hi) ∧ w'.cell? ⟨w.heap.size, 1, none⟩ = some (.int .u64 lo) ∧ w'.cell? ⟨w.heap.size, 2, none⟩ = some (.pointer z) ∧ w'.cell? ⟨w.heap.size + 1, 0, none⟩ = some (.int .u64 hi') ∧ w'.cell? ⟨w.heap.size + 1, 1, none⟩ = some (.int .u64 lo') ∧ w'.cell? ⟨w.heap.size + 1, 2, none⟩ = some (.pointer z')) := fun w' h => by
    have h' := h
    rw [HW.out] at h'
    exact ⟨h, B2_cells w hi lo hi' lo' z z' w' h'⟩
  have hW2 : GB w W2 := by rw [HW.out]; exact B2_gb _ _ _ _ _ _ _
  obtain ⟨r, hr⟩ : ∃ r, r = rk c := ⟨_, rfl⟩
  obtain ⟨r', hr'⟩ : ∃ r, r = rk c' := ⟨_, rfl⟩
  rw [← hr] at hb1
  rw [← hr'] at hb2
  have HR : Hid (r = rk c) := hr
  have HR' : Hid (r' = rk c') := hr'
  have H1 : Hid (∀ w', GB w w' → Calls Tryd.prog 25 #[.agg #[.int .u64 hi, .int .u64 lo, .pointer z]] w' fun e w'' => e = .returned (.int .i64 r) ∧ GB w' w'') := hb1
  have H2 : Hid (∀ w', GB w w' → Calls Tryd.prog 25 #[.agg #[.int .u64 hi', .int .u64 lo', .pointer z']] w' fun e w'' => e = .returned (.int .i64 r') ∧ GB w' w'') := hb2
  have H6 : Hid (∀ w', GB w w' → Calls Tryd.prog 37 #[.agg #[.int .u64 hi, .int .u64 lo, .pointer z]] w' fun e w'' => e = .returned (.bool (c == some true)) ∧ GB w' w'') := h6
  have HZ1 : Hid (c = some true → ∀ w', GB w w' → Calls Tryd.prog 49 #[.agg #[.int .u64 hi, .int .u64 lo, .pointer z]] w' fun e w'' => e = .returned (.string ⟨#[]⟩) ∧ GB w' w'') := hz1
  have HZ2 : Hid (c' = some true → ∀ w', GB w w' → Calls Tryd.prog 49 #[.agg #[.int .u64 hi', .int .u64 lo', .pointer z']] w' fun e w'' => e = .returned (.string ⟨#[]⟩) ∧ GB w' w'') := hz2
  clear hr hr' hb1 hb2 h6 hz1 hz2
  go_enter Tryd.func33, Tryd.ntmps33
  go_wp2_with fail
  rw [← HW.out]
  go_region_held3 (fun w' => GB W2 w' ∧ w'.cell? ⟨w.heap.size, 0, none⟩ = some (.int .u64 hi) ∧ w'.cell? ⟨w.heap.size, 1, none⟩ = some (.int .u64 lo) ∧ w'.cell? ⟨w.heap.size, 2, none⟩ = some (.pointer z) ∧ w'.cell? ⟨w.heap.size + 1, 0, none⟩ = some (.int .u64 hi') ∧ w'.cell? ⟨w.heap.size + 1, 1, none⟩ = some (.int .u64 lo') ∧ w'.cell? ⟨w.heap.size + 1, 2, none⟩ = some (.pointer z'))
    (first | exact HS.out _ (GB.refl W2).drew | exact HS.out _ (by assumption))
    (first
      | (go_at_call_of 25 z; have hg := (show GB W2 _ ∧ _ by assumption).1; refine (H1.out _ (hW2.trans hg)).mono ?_; rintro e w1 ⟨rfl, hb⟩; have hb1 := hg.trans hb; clear hg hb)
      | (go_at_call_of 25 z'; have hg := (show GB W2 _ ∧ _ by assumption).1; refine (H2.out _ (hW2.trans hg)).mono ?_; rintro e w2 ⟨rfl, hb⟩; have hb2 := hg.trans hb; clear hg hb))
  obtain ⟨x0, x1, x2, y0, y1, y2⟩ := (HS.out w2 hb2).2
  by_cases a1 : r < r'
  · go_wp2
    go_ret
    exact ⟨ret_int (by rw [HR.out, HR'.out] at a1; exact (cA_1 a1).symm), hW2.trans hb2⟩
  by_cases a2 : r' < r
  · go_wp2
    go_ret
    exact ⟨ret_int (by rw [HR.out, HR'.out] at a2; exact (cA_2 a2).symm), hW2.trans hb2⟩
  have HE : Hid (rk c = rk c') := by show _ = _; rw [← HR.out, ← HR'.out]; omega
  go_wp2_with fail
  go_quiet (fail)
  by_cases a3 : hi < hi'
  · go_wp2
    go_ret
    exact ⟨ret_int (cA_3 HE.out a3).symm, (hW2.trans hb2).drewN _⟩
  by_cases a4 : hi' < hi
  · go_wp2
    go_ret
    exact ⟨ret_int (cA_4 HE.out a4).symm, (hW2.trans hb2).drewN _⟩
  go_wp2_with fail
  go_quiet (fail)
  by_cases a5 : lo < lo'
  · go_wp2
    go_ret
    exact ⟨ret_int (cA_5 HE.out (by omega) (by omega) a5).symm, (hW2.trans hb2).drewN _⟩
  by_cases a6 : lo' < lo
  · go_wp2
    go_ret
    exact ⟨ret_int (cA_6 HE.out (by omega) (by omega) a6).symm, (hW2.trans hb2).drewN _⟩
  have H0 : Hid (cA c hi lo c' hi' lo' = 0) := cA_7 HE.out (by omega) (by omega) (by omega) (by omega)
  go_wp2_with fail
  refine (H6.out _ (hW2.trans (hb2.drewN _))).mono ?_
  rintro e w3 ⟨rfl, hb⟩
  have hb3 := (hb2.drewN _).trans hb
  clear hb hb2 x0 x1 x2 y0 y1 y2
  cases h6 : (c == some true) with
  | false =>
    go_wp2
    go_ret
    exact ⟨ret_int H0.out.symm, hW2.trans hb3⟩
  | true =>
    have hct : c = some true := by simpa using h6
    have hct' : c' = some true := by
      have := HE.out
      rw [hct] at this
      exact (rk_inj this).symm
    have Z1 : Hid (∀ w', GB w w' → Calls Tryd.prog 49 #[.agg #[.int .u64 hi, .int .u64 lo, .pointer z]] w' fun e w'' => e = .returned (.string ⟨#[]⟩) ∧ GB w' w'') := HZ1.out hct
    have Z2 : Hid (∀ w', GB w w' → Calls Tryd.prog 49 #[.agg #[.int .u64 hi', .int .u64 lo', .pointer z']] w' fun e w'' => e = .returned (.string ⟨#[]⟩) ∧ GB w' w'') := HZ2.out hct'
    clear hct hct' h6 HZ1 HZ2 H6 H1 H2
    have hgt := gtr_str
    obtain ⟨x0, x1, x2, y0, y1, y2⟩ := (HS.out w3 hb3).2
    go_wp2_with fail
    go_region_held3 (fun w' => GB W2 w' ∧ w'.cell? ⟨w.heap.size, 0, none⟩ = some (.int .u64 hi) ∧ w'.cell? ⟨w.heap.size, 1, none⟩ = some (.int .u64 lo) ∧ w'.cell? ⟨w.heap.size, 2, none⟩ = some (.pointer z) ∧ w'.cell? ⟨w.heap.size + 1, 0, none⟩ = some (.int .u64 hi') ∧ w'.cell? ⟨w.heap.size + 1, 1, none⟩ = some (.int .u64 lo') ∧ w'.cell? ⟨w.heap.size + 1, 2, none⟩ = some (.pointer z'))
      (first | exact HS.out _ hb3.drew | exact HS.out _ (by assumption))
      (first
        | (go_at_call_of 49 z; have hg := (show GB W2 _ ∧ _ by assumption).1; refine (Z1.out _ (hW2.trans hg)).mono ?_; rintro e w4 ⟨rfl, hb⟩; have hb4 := hg.trans hb; clear hg hb)
        | (go_at_call_of 49 z'; have hg := (show GB W2 _ ∧ _ by assumption).1; refine (Z2.out _ (hW2.trans hg)).mono ?_; rintro e w5 ⟨rfl, hb⟩; have hb5 := hg.trans hb; clear hg hb))
    go_wp2
    go_ret
    exact ⟨ret_int H0.out.symm, hW2.trans hb5⟩

/-- (Addr).Compare -/
theorem acmp_any (hi lo hi' lo' : Int) (c c' : Option Bool) (b4 o4 b6 o6 : Nat) (w : World) (hG : Gl w b4 o4 b6 o6) :
    Calls Tryd.prog 33 #[.agg #[.int .u64 hi, .int .u64 lo, .pointer (zp b4 o4 b6 o6 c)], .agg #[.int .u64 hi', .int .u64 lo', .pointer (zp b4 o4 b6 o6 c')]] w fun e w' => e = .returned (.int .i64 (cA c hi lo c' hi' lo')) ∧ GB w w' :=
  acmp_core hi lo hi' lo' c c' _ _ w (fun w' h => bitlen_any hi lo c b4 o4 b6 o6 w' (hG.gb h)) (fun w' h => bitlen_any hi' lo' c' b4 o4 b6 o6 w' (hG.gb h)) (fun w' h => is6_any hi lo c b4 o4 b6 o6 w' (hG.gb h))
    (fun e w' h => by subst e; exact zone_any hi lo b4 o4 b6 o6 w' (hG.gb h)) (fun e w' h => by subst e; exact zone_any hi' lo' b4 o4 b6 o6 w' (hG.gb h))
end Go.Proofs.Qxb6616947aDoor
