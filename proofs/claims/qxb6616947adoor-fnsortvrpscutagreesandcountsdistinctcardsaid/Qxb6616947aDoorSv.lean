/-
  zvrpCompare is the order of the images; sortVRPs hands back the ascending list of what the row holds.
-/
import Derived.Test.Qxb6616947aDoorZd
namespace Go.Proofs.Qxb6616947aDoor
open Go.RowKit Go.Sort Go.Shelf Plain
set_option linter.unusedVariables false

theorem zcmp_same (a b : Zv) (w : World) (ha : a.2.2.2.2.2.size < 9223372036854775808) (hb : b.2.2.2.2.2.size < 9223372036854775808) (h : a.1 = b.1) (hc : ck (clsOf a.2.1) = ck (clsOf b.2.1)) :
    Calls Tryd.prog 10 #[.agg (encZ a).toArray, .agg (encZ b).toArray] w fun e w' => e = .returned (.int .i64 (zc a b)) ∧ GB w w' := by
  have hk : clsOf a.2.1 = clsOf b.2.1 := by
    have h0 := (good_cI.eq0 _ _).2 hc
    rw [← cC_ck] at h0
    exact (good_cC.eq0 _ _).1 h0
  have hz : zc a b = or2 (cB (LB (nOf (clsOf a.2.1)) a.2.2.1) (LB (nOf (clsOf a.2.1)) b.2.2.1)) (or2 (cI (zb a) (zb b)) (or2 (cI a.2.2.2.2.1 b.2.2.2.2.1) (cS a.2.2.2.2.2 b.2.2.2.2.2))) := by
    unfold zc
    rw [(good_cI.eq0 _ _).2 h, (good_cI.eq0 _ _).2 hc, or2_0, or2_0]
  rw [hz]
  have hf : ∀ w', GB ((w.alloc (.cells (encZ a).toArray 45)).alloc (.cells (encZ b).toArray 45)) w' →
      w'.cell? ⟨w.heap.size, 0, none⟩ = some (.int .u32 b.1) ∧ w'.cell? ⟨w.heap.size, 1, none⟩ = some (.int .u8 a.2.1) ∧ (∀ i, i < 16 → w'.cell? ⟨w.heap.size, 2 + i, none⟩ = some (.int .u8 (a.2.2.1 i).toNat)) ∧ w'.cell? ⟨w.heap.size, 19, none⟩ = some (.int .i64 a.2.2.2.2.1) ∧ w'.cell? ⟨w.heap.size, 20, none⟩ = some (.string a.2.2.2.2.2) ∧ (Ld45 (.pointer (some ⟨w.heap.size, 0, none⟩))).run Tryd.prog w' = .ok (.agg (encZ a).toArray) w' ∧
      w'.cell? ⟨w.heap.size + 1, 0, none⟩ = some (.int .u32 b.1) ∧ w'.cell? ⟨w.heap.size + 1, 1, none⟩ = some (.int .u8 b.2.1) ∧ (∀ i, i < 16 → w'.cell? ⟨w.heap.size + 1, 2 + i, none⟩ = some (.int .u8 (b.2.2.1 i).toNat)) ∧ w'.cell? ⟨w.heap.size + 1, 19, none⟩ = some (.int .i64 b.2.2.2.2.1) ∧ w'.cell? ⟨w.heap.size + 1, 20, none⟩ = some (.string b.2.2.2.2.2) ∧ (Ld45 (.pointer (some ⟨w.heap.size + 1, 0, none⟩))).run Tryd.prog w' = .ok (.agg (encZ b).toArray) w' := by
    intro w' hw
    obtain ⟨c0, c1, c2, c3, c4, c5, d0, d1, d2, d3, d4, d5⟩ := z2_cells a b w w' hw
    rw [h] at c0
    exact ⟨c0, c1, c2, c3, c4, ld45 c5, d0, d1, d2, d3, d4, ld45 d5⟩
  cases hcc : clsOf a.2.1 with
  | none =>
    exact zcore_n _ _ _ _ _ _ _ _ _ _ _ _ _ w hf (fun W => by have := class_any a.2.1 W; rw [hcc] at this; exact this) (fun W => by have := class_any b.2.1 W; rw [← hk, hcc] at this; exact this) (fun W => bits_any a W) (fun W => bits_any b W) (fun W => zcmpStr_any _ _ ha hb W)
  | some bb =>
    cases bb with
    | false => exact zcore_v4 _ _ _ _ _ _ _ _ _ _ _ _ _ w hf (fun W => by have := class_any a.2.1 W; rw [hcc] at this; exact this) (fun W => by have := class_any b.2.1 W; rw [← hk, hcc] at this; exact this) (fun W => bits_any a W) (fun W => bits_any b W) (fun W => zcmpStr_any _ _ ha hb W)
    | true => exact zcore_v6 _ _ _ _ _ _ _ _ _ _ _ _ _ w hf (fun W => by have := class_any a.2.1 W; rw [hcc] at this; exact this) (fun W => by have := class_any b.2.1 W; rw [← hk, hcc] at this; exact this) (fun W => bits_any a W) (fun W => bits_any b W) (fun W => zcmpStr_any _ _ ha hb W)

/-- zvrpCompare -/
theorem zcompare_any (a b : Zv) (w : World) (ha : a.2.2.2.2.2.size < 9223372036854775808) (hb : b.2.2.2.2.2.size < 9223372036854775808) :
    Calls Tryd.prog 10 #[.agg (encZ a).toArray, .agg (encZ b).toArray] w fun e w' => e = .returned (.int .i64 (cf (im a) (im b))) ∧ GB w w' := by
  rw [← zc_cf]
  by_cases h : a.1 = b.1
  · by_cases hc : ck (clsOf a.2.1) = ck (clsOf b.2.1)
    · exact zcmp_same a b w ha hb h hc
    · exact zcmp_cls a b w ha hb h hc
  · exact zcmp_asn a b w ha hb h

def decV : DecidableEq V := fun _ _ => inferInstance
/-- what Compact keeps -/
def kpv (d : Array V) (m : Nat) : List V := @Lib.compactUpTo V _ decV d m

theorem kpv_kp (d : Array V) : ∀ m, kpv d m = kp d m
  | 0 => rfl
  | 1 => by
    unfold kpv
    rw [@Lib.compactUpTo_succ V _ decV, @Lib.keeps_lt_one V _ decV d 0 (by omega)]
    rfl
  | m + 2 => by
    have ih := kpv_kp d (m + 1)
    unfold kpv at ih ⊢
    rw [@Lib.compactUpTo_succ V _ decV, ih]
    show _ = (if d[m + 1]! = d[m]! then kp d (m + 1) else kp d (m + 1) ++ [d[m + 1]!])
    by_cases h : d[m + 1]! = d[m]!
    · rw [@Lib.keeps_neg V _ decV d (m + 1) (by omega) h, if_pos h]
      simp
    · rw [@Lib.keeps_pos V _ decV d (m + 1) h, if_neg h]
      simp

set_option maxHeartbeats 4000000 in
/-- sortVRPs -/
theorem sv13_any (b4 o4 b6 o6 blk off cap : Nat) (d : Array V) (w : World) (hG : Gl w b4 o4 b6 o6) (h0 : 2 < blk) (h4 : b4 ≠ blk) (h6 : b6 ≠ blk) (hH : HoldsK (enc b4 o4 b6 o6) 7 w blk off d) (hblk : blk < w.heap.size) (hsz : d.size < 4611686018427387904) (hcap : d.size ≤ cap) :
    Calls Tryd.prog 13 #[.slice (some ⟨blk, off, none⟩) d.size cap] w fun e w' => ∃ R : List V, Asc R ∧ (∀ x, x ∈ R ↔ x ∈ d.toList) ∧ R.length ≤ d.size ∧ e = .returned (.slice (some ⟨blk, off, none⟩) R.length cap) ∧ HoldsK (enc b4 o4 b6 o6) 7 w' blk off R.toArray ∧ GX blk w w' := by
  have H1 : Hid (Calls Tryd.prog 21 #[.slice (some ⟨blk, off, none⟩) d.size cap, .func (.func 22) #[] #[]] w fun e w' => e = .returned (.tuple #[]) ∧ ∃ d', d'.size = d.size ∧ d'.toList.Perm d.toList ∧ Mono d' ∧ HoldsK (enc b4 o4 b6 o6) 7 w' blk off d' ∧ GX blk w w') := sort_any b4 o4 b6 o6 blk off cap d w hG h0 h4 h6 hH hblk hsz
  have HG : Hid (Gl w b4 o4 b6 o6) := hG
  clear hG hH
  go_enter Tryd.func13, Tryd.ntmps13
  go_wp2_with (first
    | (go_at_call 21; refine H1.out.mono ?_; rintro e w1 ⟨rfl, d', hs, hp, hm, hH', hx⟩; have HX : Hid (d'.size = d.size ∧ d'.toList.Perm d.toList ∧ Mono d' ∧ HoldsK (enc b4 o4 b6 o6) 7 w1 blk off d' ∧ GX blk w w1) := ⟨hs, hp, hm, hH', hx⟩; clear hs hp hm hH' hx)
    | (go_at_call 23; rw [← HX.out.1]; refine (@compact_any decV b4 o4 b6 o6 blk off cap d' w1 (HG.out.gx HX.out.2.2.2.2 h0 h4 h6) h0 h4 h6 HX.out.2.2.2.1 (Nat.lt_of_lt_of_le hblk HX.out.2.2.2.2.size) (by rw [HX.out.1]; exact hsz) (by rw [HX.out.1]; exact hcap)).mono ?_; rintro e w2 ⟨rfl, hH2, hx2⟩))
  go_ret
  refine ⟨kp d' d'.size, kp_asc HX.out.2.2.1 _ (Nat.le_refl _), fun x => ?_, ?_, ?_, ?_, HX.out.2.2.2.2.trans hx2⟩
  · rw [kp_mem, ← HX.out.2.1.mem_iff]
    constructor
    · rintro ⟨i, hi, rfl⟩
      rw [getElem!_pos d' i hi]
      simp
    · intro hx
      obtain ⟨i, hi, he⟩ := List.getElem_of_mem hx
      have hi' : i < d'.size := by simpa using hi
      exact ⟨i, hi', by rw [getElem!_pos d' i hi']; simpa using he⟩
  · rw [← HX.out.1]; exact kp_len_le d' _
  · rw [← kpv_kp]; rfl
  · rw [← kpv_kp]; exact hH2

/-- ZZsortVRPs -/
theorem sv9_any (b4 o4 b6 o6 blk off cap : Nat) (d : Array V) (w : World) (hG : Gl w b4 o4 b6 o6) (h0 : 2 < blk) (h4 : b4 ≠ blk) (h6 : b6 ≠ blk) (hH : HoldsK (enc b4 o4 b6 o6) 7 w blk off d) (hblk : blk < w.heap.size) (hsz : d.size < 4611686018427387904) (hcap : d.size ≤ cap) :
    Calls Tryd.prog 9 #[.slice (some ⟨blk, off, none⟩) d.size cap] w fun e w' => ∃ R : List V, Asc R ∧ (∀ x, x ∈ R ↔ x ∈ d.toList) ∧ R.length ≤ d.size ∧ e = .returned (.slice (some ⟨blk, off, none⟩) R.length cap) ∧ HoldsK (enc b4 o4 b6 o6) 7 w' blk off R.toArray ∧ GX blk w w' := by
  have H1 : Hid (Calls Tryd.prog 13 #[.slice (some ⟨blk, off, none⟩) d.size cap] w fun e w' => ∃ R : List V, Asc R ∧ (∀ x, x ∈ R ↔ x ∈ d.toList) ∧ R.length ≤ d.size ∧ e = .returned (.slice (some ⟨blk, off, none⟩) R.length cap) ∧ HoldsK (enc b4 o4 b6 o6) 7 w' blk off R.toArray ∧ GX blk w w') := sv13_any b4 o4 b6 o6 blk off cap d w hG h0 h4 h6 hH hblk hsz hcap
  clear hG hH
  go_enter Tryd.func9, Tryd.ntmps9
  go_wp2_with (go_at_call 13; refine H1.out.mono ?_; rintro e w1 ⟨R, a1, a2, a3, rfl, a5, a6⟩; have HX : Hid (Asc R ∧ (∀ x, x ∈ R ↔ x ∈ d.toList) ∧ R.length ≤ d.size ∧ HoldsK (enc b4 o4 b6 o6) 7 w1 blk off R.toArray ∧ GX blk w w1) := ⟨a1, a2, a3, a5, a6⟩; clear a1 a2 a3 a5 a6)
  go_ret
  exact ⟨R, HX.out.1, HX.out.2.1, HX.out.2.2.1, rfl, HX.out.2.2.2.1, HX.out.2.2.2.2⟩
end Go.Proofs.Qxb6616947aDoor
