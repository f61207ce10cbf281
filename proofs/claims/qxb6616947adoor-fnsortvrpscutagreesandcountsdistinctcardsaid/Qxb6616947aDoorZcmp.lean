/-
  Contracts of zvrpClass, zcmpInt, zvrpBits, zcmpStr.
-/
import Derived.Test.Qxb6616947aDoorSize
namespace Go.Proofs.Qxb6616947aDoor
open Go.RowKit Go.Sort Go.Shelf Plain
set_option linter.unusedVariables false

def ck : Option Bool → Int
  | none => 0
  | some false => 1
  | some true => 2

theorem class_any (f : Int) (w : World) : Calls Tryd.prog 14 #[.int .u8 f] w fun e w' => e = .returned (.int .i64 (ck (clsOf f))) ∧ w' = w := by
  by_cases h4 : f = 4
  · have hc : clsOf f = some false := by unfold clsOf; rw [if_pos h4]
    rw [hc]
    show Calls Tryd.prog 14 #[.int .u8 f] w fun e w' => e = .returned (.int .i64 1) ∧ w' = w
    go_enter Tryd.func14, Tryd.ntmps14
    go_wp2
    go_ret
    exact ⟨rfl, rfl⟩
  · by_cases h6 : f = 6
    · have hc : clsOf f = some true := by unfold clsOf; rw [if_neg h4, if_pos h6]
      rw [hc]
      show Calls Tryd.prog 14 #[.int .u8 f] w fun e w' => e = .returned (.int .i64 2) ∧ w' = w
      go_enter Tryd.func14, Tryd.ntmps14
      go_wp2
      go_ret
      exact ⟨rfl, rfl⟩
    · have hc : clsOf f = none := by unfold clsOf; rw [if_neg h4, if_neg h6]
      rw [hc]
      show Calls Tryd.prog 14 #[.int .u8 f] w fun e w' => e = .returned (.int .i64 0) ∧ w' = w
      go_enter Tryd.func14, Tryd.ntmps14
      go_wp2
      go_ret
      exact ⟨rfl, rfl⟩

theorem zcmpInt_any (x y : Int) (w : World) : Calls Tryd.prog 15 #[.int .i64 x, .int .i64 y] w fun e w' => e = .returned (.int .i64 (cI x y)) ∧ w' = w := by
  by_cases h1 : x < y
  · rw [cI_1 h1]
    go_enter Tryd.func15, Tryd.ntmps15
    go_wp2
    go_ret
    exact ⟨rfl, rfl⟩
  · by_cases h2 : y < x
    · rw [cI_2 h2]
      go_enter Tryd.func15, Tryd.ntmps15
      go_wp2
      go_ret
      exact ⟨rfl, rfl⟩
    · rw [cI_0 h1 h2]
      go_enter Tryd.func15, Tryd.ntmps15
      go_wp2
      go_ret
      exact ⟨rfl, rfl⟩

/-- zvrpBits' answer -/
def zb (z : Zv) : Int := ((bpOf (clsOf z.2.1) z.2.2.2.1).toNat : Int) - 1

theorem bits_core (f bi r : Int) (X : Array Value) (w : World) (k : Int) (hk : k = ck (clsOf f)) (hr : r = if (k = 1 ∧ 0 ≤ bi ∧ bi ≤ 32) ∨ (k = 2 ∧ 0 ≤ bi ∧ bi ≤ 128) then bi else -1)
    (h1 : (w.alloc (.cells X 45)).cell? ⟨w.heap.size, 1, none⟩ = some (.int .u8 f)) (h18 : (w.alloc (.cells X 45)).cell? ⟨w.heap.size, 18, none⟩ = some (.int .i64 bi)) :
    Calls Tryd.prog 16 #[.agg X] w fun e w' => e = .returned (.int .i64 r) ∧ GB w w' := by
  have HC : Hid (∀ W, Calls Tryd.prog 14 #[.int .u8 f] W fun e w' => e = .returned (.int .i64 k) ∧ w' = W) := fun W => by rw [hk]; exact class_any f W
  have HR : Hid (r = if (k = 1 ∧ 0 ≤ bi ∧ bi ≤ 32) ∨ (k = 2 ∧ 0 ≤ bi ∧ bi ≤ 128) then bi else -1) := hr
  clear hk hr
  go_enter Tryd.func16, Tryd.ntmps16
  by_cases k1 : k = 1
  · subst k1
    by_cases b0 : 0 ≤ bi
    · by_cases b1 : bi ≤ 32
      · skip
        have HV : Hid (r = bi) := by rw [HR.out, if_pos (.inl ⟨rfl, b0, b1⟩)]; exact rfl
        clear HR
        go_wp2_with (go_at_call 14; refine (HC.out _).mono ?_; rintro e v ⟨rfl, rfl⟩)
        go_ret
        exact ⟨ret_int HV.out.symm, (GB.refl w).alloc _⟩
      · skip
        have HV : Hid (r = -1) := by rw [HR.out, if_neg (by omega)]; exact rfl
        clear HR
        go_wp2_with (go_at_call 14; refine (HC.out _).mono ?_; rintro e v ⟨rfl, rfl⟩)
        go_ret
        exact ⟨ret_int HV.out.symm, (GB.refl w).alloc _⟩
    · skip
      have HV : Hid (r = -1) := by rw [HR.out, if_neg (by omega)]; exact rfl
      clear HR
      go_wp2_with (go_at_call 14; refine (HC.out _).mono ?_; rintro e v ⟨rfl, rfl⟩)
      go_ret
      exact ⟨ret_int HV.out.symm, (GB.refl w).alloc _⟩
  · by_cases k2 : k = 2
    · subst k2
      by_cases b0 : 0 ≤ bi
      · by_cases b1 : bi ≤ 128
        · skip
          have HV : Hid (r = bi) := by rw [HR.out, if_pos (.inr ⟨rfl, b0, b1⟩)]; exact rfl
          clear HR
          go_wp2_with (go_at_call 14; refine (HC.out _).mono ?_; rintro e v ⟨rfl, rfl⟩)
          go_ret
          exact ⟨ret_int HV.out.symm, (GB.refl w).alloc _⟩
        · skip
          have HV : Hid (r = -1) := by rw [HR.out, if_neg (by omega)]; exact rfl
          clear HR
          go_wp2_with (go_at_call 14; refine (HC.out _).mono ?_; rintro e v ⟨rfl, rfl⟩)
          go_ret
          exact ⟨ret_int HV.out.symm, (GB.refl w).alloc _⟩
      · skip
        have HV : Hid (r = -1) := by rw [HR.out, if_neg (by omega)]; exact rfl
        clear HR
        go_wp2_with (go_at_call 14; refine (HC.out _).mono ?_; rintro e v ⟨rfl, rfl⟩)
        go_ret
        exact ⟨ret_int HV.out.symm, (GB.refl w).alloc _⟩
    · skip
      have HV : Hid (r = -1) := by rw [HR.out, if_neg (by omega)]; exact rfl
      clear HR
      go_wp2_with (go_at_call 14; refine (HC.out _).mono ?_; rintro e v ⟨rfl, rfl⟩)
      go_ret
      exact ⟨ret_int HV.out.symm, (GB.refl w).alloc _⟩

theorem zb_eq (z : Zv) : zb z = if (ck (clsOf z.2.1) = 1 ∧ 0 ≤ z.2.2.2.1 ∧ z.2.2.2.1 ≤ 32) ∨ (ck (clsOf z.2.1) = 2 ∧ 0 ≤ z.2.2.2.1 ∧ z.2.2.2.1 ≤ 128) then z.2.2.2.1 else -1 := by
  unfold zb
  generalize clsOf z.2.1 = c
  by_cases h : c ≠ none ∧ 0 ≤ z.2.2.2.1 ∧ z.2.2.2.1 ≤ rk c
  · rw [bp_val h]
    rcases c with _ | _ | _
    · exact absurd rfl h.1
    · rw [if_pos (.inl ⟨rfl, h.2⟩)]; omega
    · rw [if_pos (.inr ⟨rfl, h.2⟩)]; omega
  · rw [bp_zero h, if_neg]
    · rfl
    · rintro (⟨k, h1, h2⟩ | ⟨k, h1, h2⟩)
      · rcases c with _ | _ | _
        · simp [ck] at k
        · exact h ⟨by simp, h1, h2⟩
        · simp [ck] at k
      · rcases c with _ | _ | _
        · simp [ck] at k
        · simp [ck] at k
        · exact h ⟨by simp, h1, h2⟩

/-- zvrpBits -/
theorem bits_any (z : Zv) (w : World) : Calls Tryd.prog 16 #[.agg (encZ z).toArray] w fun e w' => e = .returned (.int .i64 (zb z)) ∧ GB w w' :=
  bits_core z.2.1 z.2.2.2.1 _ _ w _ rfl (zb_eq z) (by rw [World.cell?_alloc_at _ _ _ _ rfl]; rfl) (by rw [World.cell?_alloc_at _ _ _ _ rfl]; rfl)

/-! ### Strings -/
theorem bl_drop : ∀ (i : Nat) (x y : List UInt8), i ≤ x.length → i ≤ y.length → (∀ j, j < i → x[j]! = y[j]!) → Op.bytesLess x y = Op.bytesLess (x.drop i) (y.drop i)
  | 0, _, _, _, _, _ => rfl
  | i + 1, [], _, h, _, _ => by simp at h
  | i + 1, _ :: _, [], _, h, _ => by simp at h
  | i + 1, a :: x, b :: y, h1, h2, h => by
    have e : a = b := by simpa using h 0 (by omega)
    subst e
    have ih := bl_drop i x y (by simpa using h1) (by simpa using h2) (fun j hj => by simpa using h (j + 1) (by omega))
    simp [Op.bytesLess, ih]

theorem cB_split (x y : List UInt8) (i : Nat) (h1 : i < x.length) (h2 : i < y.length) (h : ∀ j, j < i → x[j]! = y[j]!) (hne : x[i]! ≠ y[i]!) : cB x y = if x[i]! < y[i]! then -1 else 1 := by
  unfold cB
  rw [bl_drop i x y (by omega) (by omega) h, bl_drop i y x (by omega) (by omega) (fun j hj => (h j hj).symm)]
  rw [List.drop_eq_getElem_cons h1, List.drop_eq_getElem_cons h2]
  rw [getElem!_pos x i h1, getElem!_pos y i h2] at hne ⊢
  have bl : ∀ (p q : UInt8) (u v : List UInt8), p ≠ q → Op.bytesLess (p :: u) (q :: v) = decide (p < q) := by
    intro p q u v hpq
    show (decide (p < q) || (p == q && Op.bytesLess u v)) = decide (p < q)
    rw [beq_eq_false_iff_ne.2 hpq]
    simp
  rw [bl _ _ _ _ hne, bl _ _ _ _ (Ne.symm hne)]
  simp only [decide_eq_true_eq]
  by_cases hl : x[i] < y[i]
  · rw [if_pos hl, if_pos hl]
  · rw [if_neg hl, if_neg hl, if_pos]
    rw [UInt8.lt_iff_toNat_lt] at hl ⊢
    have : x[i].toNat ≠ y[i].toNat := fun e => hne (UInt8.toNat_inj.1 e)
    omega

theorem cB_prefix (x y : List UInt8) (n : Nat) (hn : n = min x.length y.length) (h : ∀ j, j < n → x[j]! = y[j]!) : cB x y = cI x.length y.length := by
  unfold cB
  rw [bl_drop n x y (by omega) (by omega) h, bl_drop n y x (by omega) (by omega) (fun j hj => (h j hj).symm)]
  have l1 : (x.drop n).length = x.length - n := by simp
  have l2 : (y.drop n).length = y.length - n := by simp
  generalize x.drop n = u at l1
  generalize y.drop n = v at l2
  cases u with
  | nil =>
    cases v with
    | nil => simp at l1 l2; rw [cI_0 (by omega) (by omega)]; simp [Op.bytesLess]
    | cons b v => simp at l1 l2; rw [cI_1 (by omega)]; simp [Op.bytesLess]
  | cons a u =>
    cases v with
    | nil => simp at l1 l2; rw [cI_2 (by omega)]; simp [Op.bytesLess]
    | cons b v => simp at l1 l2; omega

theorem len_toList (s : ByteArray) : s.toList.length = s.size := by rw [ByteArray.toList_eq]; rfl
theorem cS_len (s t : ByteArray) (n : Nat) (hn : n = min s.size t.size) (h : ∀ j, j < n → s.toList[j]! = t.toList[j]!) : cS s t = cI s.size t.size := by
  unfold cS
  rw [cB_prefix _ _ n (by rw [len_toList, len_toList]; exact hn) h, len_toList, len_toList]

theorem bget (s : ByteArray) (i : Nat) (h : i < s.size) : s.toList[i]! = s[i]'h := by
  rw [ByteArray.toList_eq, getElem!_pos s.data.toList i (by simpa using h)]
  rfl
theorem bget_eq (s t : ByteArray) (i : Nat) (h1 : i < s.size) (h2 : i < t.size) (h : (s[i]'h1).toNat = (t[i]'h2).toNat) : s.toList[i]! = t.toList[i]! := by
  rw [bget s i h1, bget t i h2]
  exact UInt8.toNat_inj.1 h
theorem cS_ne (s t : ByteArray) (i : Nat) (h1 : i < s.size) (h2 : i < t.size) (h : ∀ j, j < i → s.toList[j]! = t.toList[j]!) (hne : ¬ (s[i]'h1).toNat = (t[i]'h2).toNat) : cS s t = if (s[i]'h1).toNat < (t[i]'h2).toNat then -1 else 1 := by
  unfold cS
  rw [cB_split _ _ i (by rw [len_toList]; exact h1) (by rw [len_toList]; exact h2) h (by rw [bget s i h1, bget t i h2]; exact fun e => hne (by rw [e])), bget s i h1, bget t i h2]
  simp only [UInt8.lt_iff_toNat_lt]
theorem cS_lt (s t : ByteArray) (i : Nat) (h1 : i < s.size) (h2 : i < t.size) (h : ∀ j, j < i → s.toList[j]! = t.toList[j]!) (hl : (s[i]'h1).toNat < (t[i]'h2).toNat) : cS s t = -1 := by
  rw [cS_ne s t i h1 h2 h (by omega), if_pos hl]
theorem cS_gt (s t : ByteArray) (i : Nat) (h1 : i < s.size) (h2 : i < t.size) (h : ∀ j, j < i → s.toList[j]! = t.toList[j]!) (hne : ¬ (s[i]'h1).toNat = (t[i]'h2).toNat) (hl : ¬ (s[i]'h1).toNat < (t[i]'h2).toNat) : cS s t = 1 := by
  rw [cS_ne s t i h1 h2 h hne, if_neg hl]

set_option maxHeartbeats 4000000 in
theorem zcmpStr_any (s t : ByteArray) (hs : s.size < 9223372036854775808) (ht : t.size < 9223372036854775808) (w : World) : Calls Tryd.prog 17 #[.string s, .string t] w fun e w' => e = .returned (.int .i64 (cS s t)) ∧ GB w w' := by
  go_enter Tryd.func17, Tryd.ntmps17
  by_cases hl : t.size < s.size
  · skip
    go_wp2
    go_loopg [6] t.size (fun g s6 wr => ∃ i : Nat, i ≤ t.size ∧ t.size - i ≤ g ∧ s6 = .int .i64 i ∧ (GB w wr ∧ ∀ j, j < i → s.toList[j]! = t.toList[j]!))
    case atStart => exact ⟨0, by omega, by omega, rfl, GB.refl w, fun j hj => by omega⟩
    case round =>
      obtain ⟨i, hi, hg, rfl, hX⟩ := hrel
      have X : Hid (GB w wr ∧ ∀ j, j < i → s.toList[j]! = t.toList[j]!) := hX
      clear hX
      by_cases hlt : i < t.size
      · have hlt2 : i < s.size := by omega
        by_cases hne : (s[i]'(by omega)).toNat = (t[i]'(by omega)).toNat
        · go_wp2_with fail
          go_region
          go_wp2
          go_roundg (t.size - (i + 1))
          case measure => omega
          case rel =>
            refine ⟨i + 1, by omega, Nat.le_refl _, by go_num, X.out.1.drew, fun j hj => ?_⟩
            by_cases e : j = i
            · subst e
              exact bget_eq s t j (by omega) (by omega) hne
            · exact X.out.2 j (by omega)
        · by_cases hl3 : (s[i]'(by omega)).toNat < (t[i]'(by omega)).toNat
          · go_wp2_with fail
            go_region
            go_wp2_with fail
            go_region
            go_wp2
            go_ret
            exact ⟨ret_int (cS_lt s t i (by omega) (by omega) X.out.2 hl3).symm, X.out.1.drew.drew⟩
          · go_wp2_with fail
            go_region
            go_wp2_with fail
            go_region
            go_wp2
            go_ret
            exact ⟨ret_int (cS_gt s t i (by omega) (by omega) X.out.2 hne hl3).symm, X.out.1.drew.drew⟩
      · have hend : i = t.size := by omega
        subst hend
        go_wp2_with (go_at_call 15; refine (zcmpInt_any _ _ _).mono ?_; rintro e v ⟨rfl, rfl⟩)
        go_ret
        exact ⟨ret_int (cS_len s t _ (by omega) X.out.2).symm, X.out.1⟩
  · skip
    go_wp2
    go_loopg [6] s.size (fun g s6 wr => ∃ i : Nat, i ≤ s.size ∧ s.size - i ≤ g ∧ s6 = .int .i64 i ∧ (GB w wr ∧ ∀ j, j < i → s.toList[j]! = t.toList[j]!))
    case atStart => exact ⟨0, by omega, by omega, rfl, GB.refl w, fun j hj => by omega⟩
    case round =>
      obtain ⟨i, hi, hg, rfl, hX⟩ := hrel
      have X : Hid (GB w wr ∧ ∀ j, j < i → s.toList[j]! = t.toList[j]!) := hX
      clear hX
      by_cases hlt : i < s.size
      · have hlt2 : i < t.size := by omega
        by_cases hne : (s[i]'(by omega)).toNat = (t[i]'(by omega)).toNat
        · go_wp2_with fail
          go_region
          go_wp2
          go_roundg (s.size - (i + 1))
          case measure => omega
          case rel =>
            refine ⟨i + 1, by omega, Nat.le_refl _, by go_num, X.out.1.drew, fun j hj => ?_⟩
            by_cases e : j = i
            · subst e
              exact bget_eq s t j (by omega) (by omega) hne
            · exact X.out.2 j (by omega)
        · by_cases hl3 : (s[i]'(by omega)).toNat < (t[i]'(by omega)).toNat
          · go_wp2_with fail
            go_region
            go_wp2_with fail
            go_region
            go_wp2
            go_ret
            exact ⟨ret_int (cS_lt s t i (by omega) (by omega) X.out.2 hl3).symm, X.out.1.drew.drew⟩
          · go_wp2_with fail
            go_region
            go_wp2_with fail
            go_region
            go_wp2
            go_ret
            exact ⟨ret_int (cS_gt s t i (by omega) (by omega) X.out.2 hne hl3).symm, X.out.1.drew.drew⟩
      · have hend : i = s.size := by omega
        subst hend
        go_wp2_with (go_at_call 15; refine (zcmpInt_any _ _ _).mono ?_; rintro e v ⟨rfl, rfl⟩)
        go_ret
        exact ⟨ret_int (cS_len s t _ (by omega) X.out.2).symm, X.out.1⟩
end Go.Proofs.Qxb6616947aDoor
