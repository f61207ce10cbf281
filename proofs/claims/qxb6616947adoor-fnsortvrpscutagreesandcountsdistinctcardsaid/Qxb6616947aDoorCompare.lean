/-
  The contract of validator.Compare.
-/
import Derived.Test.Qxb6616947aDoorCmp
namespace Go.Proofs.Qxb6616947aDoor
open Go.RowKit Plain
set_option linter.unusedVariables false

theorem C2_cells (w : World) (asn hi lo bp ml asn' hi' lo' bp' ml' : Int) (ta ta' : ByteArray) (z z' : Option Addr) (w' : World) (h : GB ((w.alloc (.cells #[.int .u32 asn, .int .u64 hi, .int .u64 lo, .pointer z, .int .u8 bp, .int .i64 ml, .string ta] 41)).alloc (.cells #[.int .u32 asn', .int .u64 hi', .int .u64 lo', .pointer z', .int .u8 bp', .int .i64 ml', .string ta'] 41)) w') :
    w'.cell? ⟨w.heap.size, 0, none⟩ = some (.int .u32 asn) ∧ w'.cell? ⟨w.heap.size, 1, none⟩ = some (.int .u64 hi) ∧ w'.cell? ⟨w.heap.size, 2, none⟩ = some (.int .u64 lo) ∧ w'.cell? ⟨w.heap.size, 3, none⟩ = some (.pointer z) ∧ w'.cell? ⟨w.heap.size, 4, none⟩ = some (.int .u8 bp) ∧ w'.cell? ⟨w.heap.size, 5, none⟩ = some (.int .i64 ml) ∧ w'.cell? ⟨w.heap.size, 6, none⟩ = some (.string ta) ∧ w'.cell? ⟨w.heap.size + 1, 0, none⟩ = some (.int .u32 asn') ∧ w'.cell? ⟨w.heap.size + 1, 1, none⟩ = some (.int .u64 hi') ∧ w'.cell? ⟨w.heap.size + 1, 2, none⟩ = some (.int .u64 lo') ∧ w'.cell? ⟨w.heap.size + 1, 3, none⟩ = some (.pointer z') ∧ w'.cell? ⟨w.heap.size + 1, 4, none⟩ = some (.int .u8 bp') ∧ w'.cell? ⟨w.heap.size + 1, 5, none⟩ = some (.int .i64 ml') ∧ w'.cell? ⟨w.heap.size + 1, 6, none⟩ = some (.string ta') := by
  obtain ⟨hc, _⟩ := bcell h.1
  have hs : ((w.alloc (.cells #[.int .u32 asn, .int .u64 hi, .int .u64 lo, .pointer z, .int .u8 bp, .int .i64 ml, .string ta] 41)).alloc (.cells #[.int .u32 asn', .int .u64 hi', .int .u64 lo', .pointer z', .int .u8 bp', .int .i64 ml', .string ta'] 41)).heap.size = w.heap.size + 1 + 1 := by simp
  rw [hs] at hc
  refine ⟨?_, ?_, ?_, ?_, ?_, ?_, ?_, ?_, ?_, ?_, ?_, ?_, ?_, ?_⟩ <;> (rw [hc _ _ (by omega)]; go_simp)

theorem or_cells (W : World) (a b c d e : Int) : ∀ k, k < 5 → (W.alloc (.cells #[.int .i64 a, .int .i64 b, .int .i64 c, .int .i64 d, .int .i64 e] 3)).cell? ⟨W.heap.size, k, none⟩ = some (.int .i64 (nth5 a b c d e k)) := by
  intro k hk
  have h : k = 0 ∨ k = 1 ∨ k = 2 ∨ k = 3 ∨ k = 4 := by omega
  rcases h with rfl | rfl | rfl | rfl | rfl <;> go_simp <;> rfl

/-- Compare's answer on the fields -/
def c5 (asn hi lo bp ml : Int) (ta : ByteArray) (c : Option Bool) (asn' hi' lo' bp' ml' : Int) (ta' : ByteArray) (c' : Option Bool) : Int :=
  or5 (cI asn asn') (cA c hi lo c' hi' lo') (cI (bp - 1) (bp' - 1)) (cI ml ml') (cS ta ta')

set_option maxHeartbeats 2000000 in
theorem compare_core (asn hi lo bp ml asn' hi' lo' bp' ml' : Int) (ta ta' : ByteArray) (z z' : Option Addr) (c c' : Option Bool) (w : World) (p0 : 0 ≤ bp) (p1 : bp ≤ 255) (p0' : 0 ≤ bp') (p1' : bp' ≤ 255)
    (ha : ∀ w', GB w w' → Calls Tryd.prog 33 #[.agg #[.int .u64 hi, .int .u64 lo, .pointer z], .agg #[.int .u64 hi', .int .u64 lo', .pointer z']] w' fun e w'' => e = .returned (.int .i64 (cA c hi lo c' hi' lo')) ∧ GB w' w'') :
    Calls Tryd.prog 22 #[.agg #[.int .u32 asn, .int .u64 hi, .int .u64 lo, .pointer z, .int .u8 bp, .int .i64 ml, .string ta], .agg #[.int .u32 asn', .int .u64 hi', .int .u64 lo', .pointer z', .int .u8 bp', .int .i64 ml', .string ta']] w fun e w' => e = .returned (.int .i64 (c5 asn hi lo bp ml ta c asn' hi' lo' bp' ml' ta' c')) ∧ GB w w' := by
  obtain ⟨W2, HW⟩ : ∃ W2, Hid (W2 = (w.alloc (.cells #[.int .u32 asn, .int .u64 hi, .int .u64 lo, .pointer z, .int .u8 bp, .int .i64 ml, .string ta] 41)).alloc (.cells #[.int .u32 asn', .int .u64 hi', .int .u64 lo', .pointer z', .int .u8 bp', .int .i64 ml', .string ta'] 41)) := ⟨_, rfl⟩
  have HS : Hid (∀ w', GB W2 w' → GB W2 w' ∧ w'.cell? ⟨w.heap.size, 0, none⟩ = some (.int .u32 asn) ∧ w'.cell? ⟨w.heap.size, 1, none⟩ = some (.int .u64 hi) ∧ w'.cell? ⟨w.heap.size, 2, none⟩ = some (.int .u64 lo) ∧ w'.cell? ⟨w.heap.size, 3, none⟩ = some (.pointer z) ∧ w'.cell? ⟨w.heap.size, 4, none⟩ = some (.int .u8 bp) ∧ w'.cell? ⟨w.heap.size, 5, none⟩ = some (.int .i64 ml) ∧ w'.cell? ⟨w.heap.size, 6, none⟩ = some (.string ta) ∧ w'.cell? ⟨w.heap.size + 1, 0, none⟩ = some (.int .u32 asn') ∧ w'.cell? ⟨w.heap.size + 1, 1, none⟩ = some (.int .u64 hi') ∧ w'.cell? ⟨w.heap.size + 1, 2, none⟩ = some (.int .u64 lo') ∧ w'.cell? ⟨w.heap.size + 1, 3, none⟩ = some (.pointer z') ∧ w'.cell? ⟨w.heap.size + 1, 4, none⟩ = some (.int .u8 bp') ∧ w'.cell? ⟨w.heap.size + 1, 5, none⟩ = some (.int .i64 ml') ∧ w'.cell? ⟨w.heap.size + 1, 6, none⟩ = some (.string ta')) := fun w' h => by
    have h' := h
    rw [HW.out] at h'
    exact ⟨h, C2_cells w asn hi lo bp ml asn' hi' lo' bp' ml' ta ta' z z' w' h'⟩
  have hW2 : GB w W2 := by rw [HW.out]; exact ((GB.refl w).alloc _).alloc _
  obtain ⟨ca, hca⟩ : ∃ r, r = cA c hi lo c' hi' lo' := ⟨_, rfl⟩
  rw [← hca] at ha
  have HCA : Hid (ca = cA c hi lo c' hi' lo') := hca
  have HA : Hid (∀ w', GB w w' → Calls Tryd.prog 33 #[.agg #[.int .u64 hi, .int .u64 lo, .pointer z], .agg #[.int .u64 hi', .int .u64 lo', .pointer z']] w' fun e w'' => e = .returned (.int .i64 ca) ∧ GB w' w'') := ha
  clear hca ha
  go_enter Tryd.func22, Tryd.ntmps22
  go_wp2_with fail
  rw [← HW.out]
  go_region_held3 (fun w' => GB W2 w' ∧ w'.cell? ⟨w.heap.size, 0, none⟩ = some (.int .u32 asn) ∧ w'.cell? ⟨w.heap.size, 1, none⟩ = some (.int .u64 hi) ∧ w'.cell? ⟨w.heap.size, 2, none⟩ = some (.int .u64 lo) ∧ w'.cell? ⟨w.heap.size, 3, none⟩ = some (.pointer z) ∧ w'.cell? ⟨w.heap.size, 4, none⟩ = some (.int .u8 bp) ∧ w'.cell? ⟨w.heap.size, 5, none⟩ = some (.int .i64 ml) ∧ w'.cell? ⟨w.heap.size, 6, none⟩ = some (.string ta) ∧ w'.cell? ⟨w.heap.size + 1, 0, none⟩ = some (.int .u32 asn') ∧ w'.cell? ⟨w.heap.size + 1, 1, none⟩ = some (.int .u64 hi') ∧ w'.cell? ⟨w.heap.size + 1, 2, none⟩ = some (.int .u64 lo') ∧ w'.cell? ⟨w.heap.size + 1, 3, none⟩ = some (.pointer z') ∧ w'.cell? ⟨w.heap.size + 1, 4, none⟩ = some (.int .u8 bp') ∧ w'.cell? ⟨w.heap.size + 1, 5, none⟩ = some (.int .i64 ml') ∧ w'.cell? ⟨w.heap.size + 1, 6, none⟩ = some (.string ta'))
    (first | exact HS.out _ (GB.refl W2).drew | exact HS.out _ (by assumption) | exact HS.out _ (GB.alloc (by assumption) _))
    (first
      | (go_at_call 31; have hg := (show GB W2 _ ∧ _ by assumption).1; refine (cmp32_any _ _ _).mono ?_; rintro e v ⟨rfl, rfl⟩)
      | (go_at_call 32; have hg := (show GB W2 _ ∧ _ by assumption).1; refine (paddr_any _ _ _ _ _).mono ?_; rintro e v ⟨rfl, hb⟩; have hb2 := hg.trans hb; clear hg hb)
      | (go_at_call 33; have hg := (show GB W2 _ ∧ _ by assumption).1; refine (HA.out _ (hW2.trans hg)).mono ?_; rintro e v ⟨rfl, hb⟩; have hb2 := hg.trans hb; clear hg hb)
      | (go_at_call_of 35 bp; have hg := (show GB W2 _ ∧ _ by assumption).1; refine (pbits_any _ _ _ _ _ p0 p1).mono ?_; rintro e v ⟨rfl, hb⟩; have hb2 := hg.trans hb; clear hg hb)
      | (go_at_call_of 35 bp'; have hg := (show GB W2 _ ∧ _ by assumption).1; refine (pbits_any _ _ _ _ _ p0' p1').mono ?_; rintro e v ⟨rfl, hb⟩; have hb2 := hg.trans hb; clear hg hb)
      | (go_at_call 34; have hg := (show GB W2 _ ∧ _ by assumption).1; refine (cmpi_any _ _ _).mono ?_; rintro e v ⟨rfl, rfl⟩)
      | (go_at_call 36; have hg := (show GB W2 _ ∧ _ by assumption).1; refine (cmps_any _ _ _).mono ?_; rintro e v ⟨rfl, rfl⟩)
      | (go_at_call 30; have hg := (show GB W2 _ ∧ _ by assumption).1; refine (cmpOr_any _ _ _ _ _ _ _ (or_cells _ _ _ _ _ _)).mono ?_; rintro e v ⟨rfl, rfl⟩))
  go_wp2
  go_ret
  exact ⟨ret_int (by unfold c5; rw [← HCA.out]), hW2.trans (show GB W2 _ ∧ _ by assumption).1⟩

/-- the seven cells of a VRP -/
def enc (b4 o4 b6 o6 : Nat) (v : V) : List Value :=
  [.int .u32 v.1, .int .u64 v.2.2.1, .int .u64 v.2.2.2.1, .pointer (zp b4 o4 b6 o6 v.2.1), .int .u8 (v.2.2.2.2.1.toNat : Int), .int .i64 v.2.2.2.2.2.1, .string v.2.2.2.2.2.2]

theorem or2_assoc (a b c : Int) : or2 (or2 a b) c = or2 a (or2 b c) := by
  unfold or2
  by_cases h : a = 0
  · rw [if_pos h, if_pos h]
  · rw [if_neg h, if_neg h, if_neg h]

theorem cI_dec (a b : Int) : cI (a - 1) (b - 1) = cI a b := by
  unfold cI
  by_cases h : a < b
  · rw [if_pos h, if_pos (by omega)]
  · rw [if_neg h, if_neg (by omega)]
    by_cases h2 : b < a
    · rw [if_pos h2, if_pos (by omega)]
    · rw [if_neg h2, if_neg (by omega)]

theorem c5_cf (x y : V) : c5 x.1 x.2.2.1 x.2.2.2.1 (x.2.2.2.2.1.toNat : Int) x.2.2.2.2.2.1 x.2.2.2.2.2.2 x.2.1 y.1 y.2.2.1 y.2.2.2.1 (y.2.2.2.2.1.toNat : Int) y.2.2.2.2.2.1 y.2.2.2.2.2.2 y.2.1 = cf x y := by
  unfold c5 or5 cA cf lex cU
  rw [cI_dec, or2_assoc, or2_assoc]

theorem u8_le (x : UInt8) : (x.toNat : Int) ≤ 255 := by have := x.toNat_lt; omega

/-- validator.Compare -/
theorem compare_any (x y : V) (b4 o4 b6 o6 : Nat) (w : World) (hG : Gl w b4 o4 b6 o6) :
    Calls Tryd.prog 22 #[.agg (enc b4 o4 b6 o6 x).toArray, .agg (enc b4 o4 b6 o6 y).toArray] w fun e w' => e = .returned (.int .i64 (cf x y)) ∧ GB w w' := by
  rw [← c5_cf]
  exact compare_core _ _ _ _ _ _ _ _ _ _ _ _ _ _ _ _ w (by omega) (u8_le _) (by omega) (u8_le _) (fun w' hw => acmp_any _ _ _ _ _ _ _ _ _ _ w' (hG.gb hw))
end Go.Proofs.Qxb6616947aDoor
