/-
  The contract of PrefixFrom.
-/
import Derived.Test.Qxb6616947aDoorAddr
namespace Go.Proofs.Qxb6616947aDoor
open Go.RowKit Go.Shelf Plain
set_option linter.unusedVariables false

/-- the prefix length and one, 0 where the length does not fit -/
def bpOf (c : Option Bool) (bits : Int) : UInt8 := if c ≠ none ∧ 0 ≤ bits ∧ bits ≤ rk c then UInt8.ofNat (bits.toNat + 1) else 0

theorem P1_cells (w : World) (hi lo : Int) (z : Option Addr) (w' : World) (h : GB ((w.alloc (.cells #[.int .u64 hi, .int .u64 lo, .pointer z] 37)).alloc (.cells #[.int .u64 0, .int .u64 0, .pointer none, .int .u8 0] 39)) w') :
    w'.cell? ⟨w.heap.size, 0, none⟩ = some (.int .u64 hi) ∧ w'.cell? ⟨w.heap.size, 1, none⟩ = some (.int .u64 lo) ∧ w'.cell? ⟨w.heap.size, 2, none⟩ = some (.pointer z) ∧
    w'.cell? ⟨w.heap.size + 1, 0, none⟩ = some (.int .u64 0) ∧ w'.cell? ⟨w.heap.size + 1, 1, none⟩ = some (.int .u64 0) ∧ w'.cell? ⟨w.heap.size + 1, 2, none⟩ = some (.pointer none) ∧ w'.cell? ⟨w.heap.size + 1, 3, none⟩ = some (.int .u8 0) ∧
    w'.frozen? ⟨w.heap.size + 1, 0, none⟩ = false ∧ w'.frozen? ⟨w.heap.size + 1, 1, none⟩ = false ∧ w'.frozen? ⟨w.heap.size + 1, 2, none⟩ = false ∧ w'.frozen? ⟨w.heap.size + 1, 3, none⟩ = false := by
  obtain ⟨hc, hf⟩ := bcell h.1
  have hs : ((w.alloc (.cells #[.int .u64 hi, .int .u64 lo, .pointer z] 37)).alloc (.cells #[.int .u64 0, .int .u64 0, .pointer none, .int .u8 0] 39)).heap.size = w.heap.size + 1 + 1 := by simp
  rw [hs] at hc hf
  refine ⟨?_, ?_, ?_, ?_, ?_, ?_, ?_, ?_, ?_, ?_, ?_⟩
  all_goals first
    | (rw [hc _ _ (by omega)]; go_simp; done)
    | (rw [hf _ _ (by omega)]; go_simp; done)

theorem bp_val {c : Option Bool} {bits : Int} (h : c ≠ none ∧ 0 ≤ bits ∧ bits ≤ rk c) : ((bpOf c bits).toNat : Int) = bits + 1 := by
  unfold bpOf
  rw [if_pos h]
  have : rk c ≤ 128 := by rcases c with _ | _ | _ <;> simp [rk]
  rw [UInt8.toNat_ofNat']
  omega
theorem bp_zero {c : Option Bool} {bits : Int} (h : ¬ (c ≠ none ∧ 0 ≤ bits ∧ bits ≤ rk c)) : bpOf c bits = 0 := by
  unfold bpOf
  rw [if_neg h]

set_option maxHeartbeats 4000000 in
/-- netip.PrefixFrom, at what its callees answer -/
theorem prefix_core (hi lo bits B bp : Int) (isz : Bool) (z : Option Addr) (w : World)
    (h24 : ∀ w', GB w w' → Calls Tryd.prog 24 #[.agg #[.int .u64 hi, .int .u64 lo, .pointer z]] w' fun e w'' => e = .returned (.bool isz) ∧ GB w' w'')
    (h25 : ∀ w', GB w w' → Calls Tryd.prog 25 #[.agg #[.int .u64 hi, .int .u64 lo, .pointer z]] w' fun e w'' => e = .returned (.int .i64 B) ∧ GB w' w'')
    (h26 : ∀ w', GB w w' → Calls Tryd.prog 26 #[.agg #[.int .u64 hi, .int .u64 lo, .pointer z]] w' fun e w'' => e = .returned (.agg #[.int .u64 hi, .int .u64 lo, .pointer z]) ∧ GB w' w'')
    (hB : B ≤ 128) (hp : bp = if isz = false ∧ 0 ≤ bits ∧ bits ≤ B then bits + 1 else 0) :
    Calls Tryd.prog 18 #[.agg #[.int .u64 hi, .int .u64 lo, .pointer z], .int .i64 bits] w fun e w' => e = .returned (.agg #[.int .u64 hi, .int .u64 lo, .pointer z, .int .u8 bp]) ∧ GB w w' := by
  obtain ⟨W1, HW⟩ : ∃ W1, Hid (W1 = (w.alloc (.cells #[.int .u64 hi, .int .u64 lo, .pointer z] 37)).alloc (.cells #[.int .u64 0, .int .u64 0, .pointer none, .int .u8 0] 39)) := ⟨_, rfl⟩
  have HC : Hid (∀ w', GB W1 w' → w'.cell? ⟨w.heap.size, 0, none⟩ = some (.int .u64 hi) ∧ w'.cell? ⟨w.heap.size, 1, none⟩ = some (.int .u64 lo) ∧ w'.cell? ⟨w.heap.size, 2, none⟩ = some (.pointer z) ∧
    w'.cell? ⟨w.heap.size + 1, 0, none⟩ = some (.int .u64 0) ∧ w'.cell? ⟨w.heap.size + 1, 1, none⟩ = some (.int .u64 0) ∧ w'.cell? ⟨w.heap.size + 1, 2, none⟩ = some (.pointer none) ∧ w'.cell? ⟨w.heap.size + 1, 3, none⟩ = some (.int .u8 0) ∧
    w'.frozen? ⟨w.heap.size + 1, 0, none⟩ = false ∧ w'.frozen? ⟨w.heap.size + 1, 1, none⟩ = false ∧ w'.frozen? ⟨w.heap.size + 1, 2, none⟩ = false ∧ w'.frozen? ⟨w.heap.size + 1, 3, none⟩ = false) := fun w' h => by
    rw [HW.out] at h
    exact P1_cells w hi lo z w' h
  have HG1 : Hid (GB w W1) := by rw [HW.out]; exact ((GB.refl w).alloc _).alloc _
  have H24 : Hid (∀ w', GB w w' → Calls Tryd.prog 24 #[.agg #[.int .u64 hi, .int .u64 lo, .pointer z]] w' fun e w'' => e = .returned (.bool isz) ∧ GB w' w'') := h24
  have H25 : Hid (∀ w', GB w w' → Calls Tryd.prog 25 #[.agg #[.int .u64 hi, .int .u64 lo, .pointer z]] w' fun e w'' => e = .returned (.int .i64 B) ∧ GB w' w'') := h25
  have H26 : Hid (∀ w', GB w w' → Calls Tryd.prog 26 #[.agg #[.int .u64 hi, .int .u64 lo, .pointer z]] w' fun e w'' => e = .returned (.agg #[.int .u64 hi, .int .u64 lo, .pointer z]) ∧ GB w' w'') := h26
  clear h24 h25 h26
  have hg : GB W1 W1 := GB.refl _
  have HP : Hid (bp = if isz = false ∧ 0 ≤ bits ∧ bits ≤ B then bits + 1 else 0) := hp
  clear hp
  go_enter Tryd.func18, Tryd.ntmps18
  go_wp2_with fail
  rw [← HW.out]
  refine (H24.out _ HG1.out).mono ?_
  rintro e v1 ⟨rfl, g1⟩
  obtain ⟨j0, j1, j2, _⟩ := HC.out _ g1
  clear HW
  cases isz with
  | true =>
    have HV : Hid (bp = 0) := by rw [HP.out, if_neg (fun k => by cases k.1)]; exact rfl
    go_wp2_with (go_at_call 26; refine (H26.out _ (HG1.out.trans g1)).mono ?_; rintro e v3 ⟨rfl, hb3⟩; have g3 := GB.trans g1 hb3; obtain ⟨_, _, _, m3, m4, m5, m6, n3, n4, n5, n6⟩ := HC.out _ g3)
    refine bodyPost_ret (v := .agg #[.int .u64 hi, .int .u64 lo, .pointer z, .int .u8 0]) (by simp [results, Tryd.results18, go_sem, m3, m4, m5, m6]) rfl ⟨by rw [HV.out], ?_⟩
    exact (((((HG1.out.trans g3).setCell (by simp) _).setCell (by simp) _).setCell (by simp) _).setCell (by simp) _)
  | false =>
    by_cases hb0 : 0 ≤ bits
    · by_cases hb1 : bits ≤ B
      · have HV : Hid (bp = bits + 1) := by rw [HP.out, if_pos ⟨rfl, hb0, hb1⟩]; exact rfl
        have hw1 : IntKind.u8.wrap bits = bits := by simp [IntKind.wrap, IntKind.bits, IntKind.signed]; omega
        have hw2 : IntKind.u8.wrap (bits + 1) = bits + 1 := by simp [IntKind.wrap, IntKind.bits, IntKind.signed]; omega
        go_wp2_with (first | (go_at_call 25; refine (H25.out _ (HG1.out.trans g1)).mono ?_; rintro e v2 ⟨rfl, hb2⟩; have g2 := GB.trans g1 hb2; obtain ⟨k0, k1, k2, _⟩ := HC.out _ g2) | (go_at_call 26; refine (H26.out _ (HG1.out.trans g2)).mono ?_; rintro e v3 ⟨rfl, hb3⟩; have g3 := GB.trans g2 hb3; obtain ⟨_, _, _, m3, m4, m5, m6, n3, n4, n5, n6⟩ := HC.out _ g3))
        refine bodyPost_ret (v := .agg #[.int .u64 hi, .int .u64 lo, .pointer z, .int .u8 (bits + 1)]) (by simp [results, Tryd.results18, go_sem, m3, m4, m5, m6]) rfl ⟨by rw [HV.out], ?_⟩
        exact (((((HG1.out.trans g3).setCell (by simp) _).setCell (by simp) _).setCell (by simp) _).setCell (by simp) _)
      · have HV : Hid (bp = 0) := by rw [HP.out, if_neg (fun k => hb1 k.2.2)]; exact rfl
        go_wp2_with (first | (go_at_call 25; refine (H25.out _ (HG1.out.trans g1)).mono ?_; rintro e v2 ⟨rfl, hb2⟩; have g2 := GB.trans g1 hb2; obtain ⟨k0, k1, k2, _⟩ := HC.out _ g2) | (go_at_call 26; refine (H26.out _ (HG1.out.trans g2)).mono ?_; rintro e v3 ⟨rfl, hb3⟩; have g3 := GB.trans g2 hb3; obtain ⟨_, _, _, m3, m4, m5, m6, n3, n4, n5, n6⟩ := HC.out _ g3))
        refine bodyPost_ret (v := .agg #[.int .u64 hi, .int .u64 lo, .pointer z, .int .u8 0]) (by simp [results, Tryd.results18, go_sem, m3, m4, m5, m6]) rfl ⟨by rw [HV.out], ?_⟩
        exact (((((HG1.out.trans g3).setCell (by simp) _).setCell (by simp) _).setCell (by simp) _).setCell (by simp) _)
    · have HV : Hid (bp = 0) := by rw [HP.out, if_neg (fun k => hb0 k.2.1)]; exact rfl
      go_wp2_with (go_at_call 26; refine (H26.out _ (HG1.out.trans g1)).mono ?_; rintro e v3 ⟨rfl, hb3⟩; have g3 := GB.trans g1 hb3; obtain ⟨_, _, _, m3, m4, m5, m6, n3, n4, n5, n6⟩ := HC.out _ g3)
      refine bodyPost_ret (v := .agg #[.int .u64 hi, .int .u64 lo, .pointer z, .int .u8 0]) (by simp [results, Tryd.results18, go_sem, m3, m4, m5, m6]) rfl ⟨by rw [HV.out], ?_⟩
      exact (((((HG1.out.trans g3).setCell (by simp) _).setCell (by simp) _).setCell (by simp) _).setCell (by simp) _)

/-- netip.PrefixFrom -/
theorem prefixFrom_any (hi lo bits : Int) (c : Option Bool) (b4 o4 b6 o6 : Nat) (w : World) (hG : Gl w b4 o4 b6 o6) :
    Calls Tryd.prog 18 #[.agg #[.int .u64 hi, .int .u64 lo, .pointer (zp b4 o4 b6 o6 c)], .int .i64 bits] w fun e w' => e = .returned (.agg #[.int .u64 hi, .int .u64 lo, .pointer (zp b4 o4 b6 o6 c), .int .u8 (bpOf c bits).toNat]) ∧ GB w w' :=
  prefix_core hi lo bits (rk c) _ c.isNone _ w (fun w' h => isZero_any hi lo c b4 o4 b6 o6 w' (hG.gb h)) (fun w' h => bitlen_any hi lo c b4 o4 b6 o6 w' (hG.gb h)) (fun w' h => withoutZone_any hi lo c b4 o4 b6 o6 w' (hG.gb h))
    (by rcases c with _ | _ | _ <;> simp [rk]) (by
      by_cases h : c ≠ none ∧ 0 ≤ bits ∧ bits ≤ rk c
      · rw [bp_val h, if_pos ⟨by cases c with | none => exact absurd rfl h.1 | some _ => rfl, h.2⟩]
      · rw [bp_zero h, if_neg (fun k => h ⟨by cases c with | none => cases k.1 | some _ => simp, k.2⟩)]
        rfl)
end Go.Proofs.Qxb6616947aDoor
