/-
  The contract of zvrpCompare.
-/
import Derived.Test.Qxb6616947aDoorBytes
namespace Go.Proofs.Qxb6616947aDoor
open Go.RowKit Go.Sort Go.Shelf Plain
set_option linter.unusedVariables false

theorem z2_get (z : Zv) : (encZ z).toArray[0]? = some (.int .u32 z.1) ∧ (encZ z).toArray[1]? = some (.int .u8 z.2.1) ∧ (∀ i, i < 16 → (encZ z).toArray[2 + i]? = some (.int .u8 (z.2.2.1 i).toNat)) ∧ (encZ z).toArray[19]? = some (.int .i64 z.2.2.2.2.1) ∧ (encZ z).toArray[20]? = some (.string z.2.2.2.2.2) := by
  refine ⟨rfl, rfl, fun i hi => ?_, rfl, rfl⟩
  have h : i = 0 ∨ i = 1 ∨ i = 2 ∨ i = 3 ∨ i = 4 ∨ i = 5 ∨ i = 6 ∨ i = 7 ∨ i = 8 ∨ i = 9 ∨ i = 10 ∨ i = 11 ∨ i = 12 ∨ i = 13 ∨ i = 14 ∨ i = 15 := by omega
  rcases h with rfl | rfl | rfl | rfl | rfl | rfl | rfl | rfl | rfl | rfl | rfl | rfl | rfl | rfl | rfl | rfl <;> rfl

theorem z2_cells (a b : Zv) (w w' : World) (h : GB ((w.alloc (.cells (encZ a).toArray 45)).alloc (.cells (encZ b).toArray 45)) w') :
    w'.cell? ⟨w.heap.size, 0, none⟩ = some (.int .u32 a.1) ∧ w'.cell? ⟨w.heap.size, 1, none⟩ = some (.int .u8 a.2.1) ∧ (∀ i, i < 16 → w'.cell? ⟨w.heap.size, 2 + i, none⟩ = some (.int .u8 (a.2.2.1 i).toNat)) ∧ w'.cell? ⟨w.heap.size, 19, none⟩ = some (.int .i64 a.2.2.2.2.1) ∧ w'.cell? ⟨w.heap.size, 20, none⟩ = some (.string a.2.2.2.2.2) ∧ w'.rangeAt (w.heap.size) 0 (encZ a) ∧ w'.cell? ⟨w.heap.size + 1, 0, none⟩ = some (.int .u32 b.1) ∧ w'.cell? ⟨w.heap.size + 1, 1, none⟩ = some (.int .u8 b.2.1) ∧ (∀ i, i < 16 → w'.cell? ⟨w.heap.size + 1, 2 + i, none⟩ = some (.int .u8 (b.2.2.1 i).toNat)) ∧ w'.cell? ⟨w.heap.size + 1, 19, none⟩ = some (.int .i64 b.2.2.2.2.1) ∧ w'.cell? ⟨w.heap.size + 1, 20, none⟩ = some (.string b.2.2.2.2.2) ∧ w'.rangeAt (w.heap.size + 1) 0 (encZ b) := by
  obtain ⟨hc, _⟩ := bcell h.1
  have hs : ((w.alloc (.cells (encZ a).toArray 45)).alloc (.cells (encZ b).toArray 45)).heap.size = w.heap.size + 1 + 1 := by simp
  rw [hs] at hc
  have ka : ∀ k, w'.cell? ⟨w.heap.size, k, none⟩ = (encZ a).toArray[k]? := fun k => by
    rw [hc _ _ (by omega), World.cell?_alloc_past _ _ _ (by simp), World.cell?_alloc_at _ _ _ _ rfl]
  have kb : ∀ k, w'.cell? ⟨w.heap.size + 1, k, none⟩ = (encZ b).toArray[k]? := fun k => by
    rw [hc _ _ (by omega), World.cell?_alloc_at _ _ _ _ (by simp)]
  have ra : w'.rangeAt w.heap.size 0 (encZ a) := fun j v hv => by rw [Nat.zero_add, ka]; simpa using hv
  have rb : w'.rangeAt (w.heap.size + 1) 0 (encZ b) := fun j v hv => by rw [Nat.zero_add, kb]; simpa using hv
  obtain ⟨a0, a1, a2, a19, a20⟩ := z2_get a
  obtain ⟨b0, b1, b2, b19, b20⟩ := z2_get b
  exact ⟨(ka 0).trans a0, (ka 1).trans a1, fun i hi => (ka _).trans (a2 i hi), (ka 19).trans a19, (ka 20).trans a20, ra, (kb 0).trans b0, (kb 1).trans b1, fun i hi => (kb _).trans (b2 i hi), (kb 19).trans b19, (kb 20).trans b20, rb⟩

set_option maxHeartbeats 4000000 in
theorem zcmp_asn (a b : Zv) (w : World) (ha : a.2.2.2.2.2.size < 9223372036854775808) (hb : b.2.2.2.2.2.size < 9223372036854775808) (h : ¬ a.1 = b.1) :
    Calls Tryd.prog 10 #[.agg (encZ a).toArray, .agg (encZ b).toArray] w fun e w' => e = .returned (.int .i64 (zc a b)) ∧ GB w w' := by
  have HZ : Hid (zc a b = cI a.1 b.1) := by unfold zc; rw [or2_ne (fun e => h ((good_cI.eq0 _ _).1 e))]; exact rfl
  obtain ⟨c0, c1, c2, c19, c20, _, d0, d1, d2, d19, d20, _⟩ := z2_cells a b w _ (GB.refl _)
  obtain ⟨XA, HXA⟩ : ∃ X, Hid (X = (encZ a).toArray) := ⟨_, rfl⟩
  obtain ⟨XB, HXB⟩ : ∃ X, Hid (X = (encZ b).toArray) := ⟨_, rfl⟩
  rw [← HXA.out, ← HXB.out] at c0 d0 ⊢
  clear c1 c2 c19 c20 d1 d2 d19 d20 HXA HXB
  obtain ⟨r, HR⟩ : ∃ r, Hid (r = zc a b) := ⟨_, rfl⟩
  rw [← HR.out]
  obtain ⟨p, hp⟩ : ∃ p, p = a.1 := ⟨_, rfl⟩
  obtain ⟨q, hq⟩ : ∃ q, q = b.1 := ⟨_, rfl⟩
  have HV : Hid (r = cI p q) := by rw [HR.out, HZ.out, hp, hq]; exact rfl
  rw [← hp] at c0 h
  rw [← hq] at d0 h
  clear hp hq HZ HR
  go_enter Tryd.func10, Tryd.ntmps10
  by_cases hl : p < q
  · have HW : Hid (r = -1) := by rw [HV.out, cI_1 hl]; exact rfl
    go_wp2
    go_ret
    exact ⟨ret_int HW.out.symm, ((GB.refl w).alloc _).alloc _⟩
  · have HW : Hid (r = 1) := by rw [HV.out, cI_2 (by omega)]; exact rfl
    go_wp2
    go_ret
    exact ⟨ret_int HW.out.symm, ((GB.refl w).alloc _).alloc _⟩

set_option maxHeartbeats 4000000 in
theorem zcmp_cls (a b : Zv) (w : World) (ha : a.2.2.2.2.2.size < 9223372036854775808) (hb : b.2.2.2.2.2.size < 9223372036854775808) (h : a.1 = b.1) (hc : ¬ ck (clsOf a.2.1) = ck (clsOf b.2.1)) :
    Calls Tryd.prog 10 #[.agg (encZ a).toArray, .agg (encZ b).toArray] w fun e w' => e = .returned (.int .i64 (zc a b)) ∧ GB w w' := by
  have HZ : Hid (zc a b = cI (ck (clsOf a.2.1)) (ck (clsOf b.2.1))) := by
    unfold zc
    rw [(good_cI.eq0 _ _).2 h, or2_0, or2_ne (fun e => hc ((good_cI.eq0 _ _).1 e))]
    exact rfl
  obtain ⟨c0, c1, c2, c19, c20, _, d0, d1, d2, d19, d20, _⟩ := z2_cells a b w _ (GB.refl _)
  obtain ⟨XA, HXA⟩ : ∃ X, Hid (X = (encZ a).toArray) := ⟨_, rfl⟩
  obtain ⟨XB, HXB⟩ : ∃ X, Hid (X = (encZ b).toArray) := ⟨_, rfl⟩
  rw [← HXA.out, ← HXB.out] at c0 d0 c1 d1 ⊢
  clear c2 c19 c20 d2 d19 d20 HXA HXB
  obtain ⟨r, HR⟩ : ∃ r, Hid (r = zc a b) := ⟨_, rfl⟩
  rw [← HR.out]
  obtain ⟨k1, hk1⟩ : ∃ p, p = ck (clsOf a.2.1) := ⟨_, rfl⟩
  obtain ⟨k2, hk2⟩ : ∃ p, p = ck (clsOf b.2.1) := ⟨_, rfl⟩
  have HV : Hid (r = cI k1 k2) := by rw [HR.out, HZ.out, hk1, hk2]; exact rfl
  have HC1 : Hid (∀ W, Calls Tryd.prog 14 #[.int .u8 a.2.1] W fun e w' => e = .returned (.int .i64 k1) ∧ w' = W) := fun W => by rw [hk1]; exact class_any _ W
  have HC2 : Hid (∀ W, Calls Tryd.prog 14 #[.int .u8 b.2.1] W fun e w' => e = .returned (.int .i64 k2) ∧ w' = W) := fun W => by rw [hk2]; exact class_any _ W
  rw [← hk1, ← hk2] at hc
  rw [h] at c0
  obtain ⟨f1, hf1⟩ : ∃ f, f = a.2.1 := ⟨_, rfl⟩
  obtain ⟨f2, hf2⟩ : ∃ f, f = b.2.1 := ⟨_, rfl⟩
  rw [← hf1] at c1 HC1
  rw [← hf2] at d1 HC2
  obtain ⟨q, hq⟩ : ∃ q, q = b.1 := ⟨_, rfl⟩
  rw [← hq] at c0 d0
  clear hk1 hk2 HZ HR hf1 hf2 hq h ha hb
  go_enter Tryd.func10, Tryd.ntmps10
  go_wp2_with (first | (go_at_call_of 14 f1; refine (HC1.out _).mono ?_; rintro e v ⟨rfl, rfl⟩) | (go_at_call_of 14 f2; refine (HC2.out _).mono ?_; rintro e v ⟨rfl, rfl⟩) | (go_at_call 15; refine (zcmpInt_any _ _ _).mono ?_; rintro e v ⟨rfl, rfl⟩))
  go_ret
  exact ⟨ret_int HV.out.symm, ((GB.refl w).alloc _).alloc _⟩
end Go.Proofs.Qxb6616947aDoor
