/-
  The walk of FnInnerRefusesTwoAcceptedWordsJoined.
-/
import Derived.Test.Qxb6617055aFmtParse
namespace Go.Proofs.Qxb6617055aFmt
open Go.RowKit Go.Extern.Stop Go.Stop Go.Extern
set_option linter.unusedVariables false

theorem ok_size {s : ByteArray} (h : okB s = true) : s.size = 5 ∨ s.size = 6 := by
  unfold okB isNever isAlways at h
  simp only [Bool.or_eq_true, beq_iff_eq] at h
  have e : s.toList.length = s.size := by rw [ByteArray.toList_eq]; rfl
  rcases h with h | h <;> rw [h] at e <;> simp at e <;> omega

theorem zz_ok2 (s : ByteArray) (w : World) (h : okB s = true) :
    Calls Tryf.prog 8 #[.string s] w fun e w' => e = .returned (.tuple #[.string s, .nilIface]) ∧ Below w.heap.size w w' :=
  (zz_ok s w h).mono fun e w' hh => ⟨hh.1, by rw [hh.2]; exact Below.refl _ _⟩

theorem app_right {a b : ByteArray} (h : b.size = 0) : a ++ b = a := by
  have : b = ByteArray.empty := by
    apply ByteArray.ext
    exact Array.eq_empty_of_size_eq_zero h
  rw [this, ByteArray.append_empty]
theorem app_left {a b : ByteArray} (h : a.size = 0) : a ++ b = b := by
  have : a = ByteArray.empty := by
    apply ByteArray.ext
    exact Array.eq_empty_of_size_eq_zero h
  rw [this, ByteArray.empty_append]

set_option maxHeartbeats 1000000 in
theorem law_nnn (F : Interp) (a b : ByteArray) (w : World) (hF : F.answers w.tape) (g0 : a.size ≤ 524288) (g1 : b.size ≤ 524288) (na : ¬ a = ByteArray.empty) (nb : ¬ b = ByteArray.empty) (za : 0 < a.size) (zb : 0 < b.size) (HA : Hid (okB a = false)) (HB : Hid (okB b = false)) (HC : Hid (okB (a ++ b) = false)) :
    Calls Tryf.prog 5 #[.string a, .string b] w fun e w' => e = .returned (.bool true) ∧ Below w.heap.size w w' := by
  go_enter Tryf.func5, Tryf.ntmps5
  go_wp2_with fail
  refine (bytes12 _ _ _ (by omega) (by omega)).mono ?_
  rintro e w' ⟨bb, rfl, rfl⟩
  cases bb with
  | false =>
    go_wp2
    go_ret
    exact ⟨rfl, Below.refl _ _⟩
  | true =>
    go_wp2_with fail
    refine (zz_bad F a _ hF HA.out).mono ?_
    rintro e w1 ⟨⟨pa, rfl⟩, b1⟩
    have hF1 : F.answers w1.tape := by rw [b1.tape]; exact hF
    go_wp2_with fail
    refine (zz_bad F b _ hF1 HB.out).mono ?_
    rintro e w2 ⟨⟨pb, rfl⟩, b2⟩
    have hF2 : F.answers w2.tape := by rw [b2.tape]; exact hF1
    go_wp2_with fail
    refine (zz_bad F (a ++ b) _ hF2 HC.out).mono ?_
    rintro e w3 ⟨⟨pj, rfl⟩, b3⟩
    have hbel := (b1.trans (b2.mono b1.size)).trans (b3.mono (Nat.le_trans b1.size b2.size))
    clear b1 b2 b3 hF1 hF2
    go_wp2_with fail
    refine (settles_bad a _).mono ?_
    rintro e w4 ⟨rfl, rfl⟩
    go_wp2_with fail
    refine (settles_bad b _).mono ?_
    rintro e w4 ⟨rfl, rfl⟩
    go_wp2_with fail
    refine (settles_bad (a ++ b) _).mono ?_
    rintro e w4 ⟨rfl, rfl⟩
    go_wp2
    all_goals go_ret
    all_goals exact ⟨rfl, hbel⟩

set_option maxHeartbeats 1000000 in
theorem law_nny (F : Interp) (a b : ByteArray) (w : World) (hF : F.answers w.tape) (g0 : a.size ≤ 524288) (g1 : b.size ≤ 524288) (na : ¬ a = ByteArray.empty) (nb : ¬ b = ByteArray.empty) (za : 0 < a.size) (zb : 0 < b.size) (HA : Hid (okB a = false)) (HB : Hid (okB b = false)) (HC : Hid (okB (a ++ b) = true)) :
    Calls Tryf.prog 5 #[.string a, .string b] w fun e w' => e = .returned (.bool true) ∧ Below w.heap.size w w' := by
  go_enter Tryf.func5, Tryf.ntmps5
  go_wp2_with fail
  refine (bytes12 _ _ _ (by omega) (by omega)).mono ?_
  rintro e w' ⟨bb, rfl, rfl⟩
  cases bb with
  | false =>
    go_wp2
    go_ret
    exact ⟨rfl, Below.refl _ _⟩
  | true =>
    go_wp2_with fail
    refine (zz_bad F a _ hF HA.out).mono ?_
    rintro e w1 ⟨⟨pa, rfl⟩, b1⟩
    have hF1 : F.answers w1.tape := by rw [b1.tape]; exact hF
    go_wp2_with fail
    refine (zz_bad F b _ hF1 HB.out).mono ?_
    rintro e w2 ⟨⟨pb, rfl⟩, b2⟩
    have hF2 : F.answers w2.tape := by rw [b2.tape]; exact hF1
    go_wp2_with fail
    refine (zz_ok2 (a ++ b) _ HC.out).mono ?_
    rintro e w3 ⟨rfl, b3⟩
    have hbel := (b1.trans (b2.mono b1.size)).trans (b3.mono (Nat.le_trans b1.size b2.size))
    clear b1 b2 b3 hF1 hF2
    go_wp2_with fail
    refine (settles_bad a _).mono ?_
    rintro e w4 ⟨rfl, rfl⟩
    go_wp2_with fail
    refine (settles_bad b _).mono ?_
    rintro e w4 ⟨rfl, rfl⟩
    go_wp2_with fail
    refine (settles_ok (a ++ b) _).mono ?_
    rintro e w4 ⟨rfl, rfl⟩
    go_wp2
    all_goals go_ret
    all_goals exact ⟨rfl, hbel⟩

set_option maxHeartbeats 1000000 in
theorem law_nyn (F : Interp) (a b : ByteArray) (w : World) (hF : F.answers w.tape) (g0 : a.size ≤ 524288) (g1 : b.size ≤ 524288) (na : ¬ a = ByteArray.empty) (nb : ¬ b = ByteArray.empty) (za : 0 < a.size) (zb : 0 < b.size) (HA : Hid (okB a = false)) (HB : Hid (okB b = true)) (HC : Hid (okB (a ++ b) = false)) :
    Calls Tryf.prog 5 #[.string a, .string b] w fun e w' => e = .returned (.bool true) ∧ Below w.heap.size w w' := by
  go_enter Tryf.func5, Tryf.ntmps5
  go_wp2_with fail
  refine (bytes12 _ _ _ (by omega) (by omega)).mono ?_
  rintro e w' ⟨bb, rfl, rfl⟩
  cases bb with
  | false =>
    go_wp2
    go_ret
    exact ⟨rfl, Below.refl _ _⟩
  | true =>
    go_wp2_with fail
    refine (zz_bad F a _ hF HA.out).mono ?_
    rintro e w1 ⟨⟨pa, rfl⟩, b1⟩
    have hF1 : F.answers w1.tape := by rw [b1.tape]; exact hF
    go_wp2_with fail
    refine (zz_ok2 b _ HB.out).mono ?_
    rintro e w2 ⟨rfl, b2⟩
    have hF2 : F.answers w2.tape := by rw [b2.tape]; exact hF1
    go_wp2_with fail
    refine (zz_bad F (a ++ b) _ hF2 HC.out).mono ?_
    rintro e w3 ⟨⟨pj, rfl⟩, b3⟩
    have hbel := (b1.trans (b2.mono b1.size)).trans (b3.mono (Nat.le_trans b1.size b2.size))
    clear b1 b2 b3 hF1 hF2
    go_wp2_with fail
    refine (settles_bad a _).mono ?_
    rintro e w4 ⟨rfl, rfl⟩
    go_wp2_with fail
    refine (settles_ok b _).mono ?_
    rintro e w4 ⟨rfl, rfl⟩
    go_wp2_with fail
    refine (settles_bad (a ++ b) _).mono ?_
    rintro e w4 ⟨rfl, rfl⟩
    go_wp2
    all_goals go_ret
    all_goals exact ⟨rfl, hbel⟩

set_option maxHeartbeats 1000000 in
theorem law_nyy (F : Interp) (a b : ByteArray) (w : World) (hF : F.answers w.tape) (g0 : a.size ≤ 524288) (g1 : b.size ≤ 524288) (na : ¬ a = ByteArray.empty) (nb : ¬ b = ByteArray.empty) (za : 0 < a.size) (zb : 0 < b.size) (HA : Hid (okB a = false)) (HB : Hid (okB b = true)) (HC : Hid (okB (a ++ b) = true)) :
    Calls Tryf.prog 5 #[.string a, .string b] w fun e w' => e = .returned (.bool true) ∧ Below w.heap.size w w' := by
  go_enter Tryf.func5, Tryf.ntmps5
  go_wp2_with fail
  refine (bytes12 _ _ _ (by omega) (by omega)).mono ?_
  rintro e w' ⟨bb, rfl, rfl⟩
  cases bb with
  | false =>
    go_wp2
    go_ret
    exact ⟨rfl, Below.refl _ _⟩
  | true =>
    go_wp2_with fail
    refine (zz_bad F a _ hF HA.out).mono ?_
    rintro e w1 ⟨⟨pa, rfl⟩, b1⟩
    have hF1 : F.answers w1.tape := by rw [b1.tape]; exact hF
    go_wp2_with fail
    refine (zz_ok2 b _ HB.out).mono ?_
    rintro e w2 ⟨rfl, b2⟩
    have hF2 : F.answers w2.tape := by rw [b2.tape]; exact hF1
    go_wp2_with fail
    refine (zz_ok2 (a ++ b) _ HC.out).mono ?_
    rintro e w3 ⟨rfl, b3⟩
    have hbel := (b1.trans (b2.mono b1.size)).trans (b3.mono (Nat.le_trans b1.size b2.size))
    clear b1 b2 b3 hF1 hF2
    go_wp2_with fail
    refine (settles_bad a _).mono ?_
    rintro e w4 ⟨rfl, rfl⟩
    go_wp2_with fail
    refine (settles_ok b _).mono ?_
    rintro e w4 ⟨rfl, rfl⟩
    go_wp2_with fail
    refine (settles_ok (a ++ b) _).mono ?_
    rintro e w4 ⟨rfl, rfl⟩
    go_wp2
    all_goals go_ret
    all_goals exact ⟨rfl, hbel⟩

set_option maxHeartbeats 1000000 in
theorem law_ynn (F : Interp) (a b : ByteArray) (w : World) (hF : F.answers w.tape) (g0 : a.size ≤ 524288) (g1 : b.size ≤ 524288) (na : ¬ a = ByteArray.empty) (nb : ¬ b = ByteArray.empty) (za : 0 < a.size) (zb : 0 < b.size) (HA : Hid (okB a = true)) (HB : Hid (okB b = false)) (HC : Hid (okB (a ++ b) = false)) :
    Calls Tryf.prog 5 #[.string a, .string b] w fun e w' => e = .returned (.bool true) ∧ Below w.heap.size w w' := by
  go_enter Tryf.func5, Tryf.ntmps5
  go_wp2_with fail
  refine (bytes12 _ _ _ (by omega) (by omega)).mono ?_
  rintro e w' ⟨bb, rfl, rfl⟩
  cases bb with
  | false =>
    go_wp2
    go_ret
    exact ⟨rfl, Below.refl _ _⟩
  | true =>
    go_wp2_with fail
    refine (zz_ok2 a _ HA.out).mono ?_
    rintro e w1 ⟨rfl, b1⟩
    have hF1 : F.answers w1.tape := by rw [b1.tape]; exact hF
    go_wp2_with fail
    refine (zz_bad F b _ hF1 HB.out).mono ?_
    rintro e w2 ⟨⟨pb, rfl⟩, b2⟩
    have hF2 : F.answers w2.tape := by rw [b2.tape]; exact hF1
    go_wp2_with fail
    refine (zz_bad F (a ++ b) _ hF2 HC.out).mono ?_
    rintro e w3 ⟨⟨pj, rfl⟩, b3⟩
    have hbel := (b1.trans (b2.mono b1.size)).trans (b3.mono (Nat.le_trans b1.size b2.size))
    clear b1 b2 b3 hF1 hF2
    go_wp2_with fail
    refine (settles_ok a _).mono ?_
    rintro e w4 ⟨rfl, rfl⟩
    go_wp2_with fail
    refine (settles_bad b _).mono ?_
    rintro e w4 ⟨rfl, rfl⟩
    go_wp2_with fail
    refine (settles_bad (a ++ b) _).mono ?_
    rintro e w4 ⟨rfl, rfl⟩
    go_wp2
    all_goals go_ret
    all_goals exact ⟨rfl, hbel⟩

set_option maxHeartbeats 1000000 in
theorem law_yny (F : Interp) (a b : ByteArray) (w : World) (hF : F.answers w.tape) (g0 : a.size ≤ 524288) (g1 : b.size ≤ 524288) (na : ¬ a = ByteArray.empty) (nb : ¬ b = ByteArray.empty) (za : 0 < a.size) (zb : 0 < b.size) (HA : Hid (okB a = true)) (HB : Hid (okB b = false)) (HC : Hid (okB (a ++ b) = true)) :
    Calls Tryf.prog 5 #[.string a, .string b] w fun e w' => e = .returned (.bool true) ∧ Below w.heap.size w w' := by
  go_enter Tryf.func5, Tryf.ntmps5
  go_wp2_with fail
  refine (bytes12 _ _ _ (by omega) (by omega)).mono ?_
  rintro e w' ⟨bb, rfl, rfl⟩
  cases bb with
  | false =>
    go_wp2
    go_ret
    exact ⟨rfl, Below.refl _ _⟩
  | true =>
    go_wp2_with fail
    refine (zz_ok2 a _ HA.out).mono ?_
    rintro e w1 ⟨rfl, b1⟩
    have hF1 : F.answers w1.tape := by rw [b1.tape]; exact hF
    go_wp2_with fail
    refine (zz_bad F b _ hF1 HB.out).mono ?_
    rintro e w2 ⟨⟨pb, rfl⟩, b2⟩
    have hF2 : F.answers w2.tape := by rw [b2.tape]; exact hF1
    go_wp2_with fail
    refine (zz_ok2 (a ++ b) _ HC.out).mono ?_
    rintro e w3 ⟨rfl, b3⟩
    have hbel := (b1.trans (b2.mono b1.size)).trans (b3.mono (Nat.le_trans b1.size b2.size))
    clear b1 b2 b3 hF1 hF2
    go_wp2_with fail
    refine (settles_ok a _).mono ?_
    rintro e w4 ⟨rfl, rfl⟩
    go_wp2_with fail
    refine (settles_bad b _).mono ?_
    rintro e w4 ⟨rfl, rfl⟩
    go_wp2_with fail
    refine (settles_ok (a ++ b) _).mono ?_
    rintro e w4 ⟨rfl, rfl⟩
    go_wp2
    all_goals go_ret
    all_goals exact ⟨rfl, hbel⟩

set_option maxHeartbeats 1000000 in
theorem law_yyn (F : Interp) (a b : ByteArray) (w : World) (hF : F.answers w.tape) (g0 : a.size ≤ 524288) (g1 : b.size ≤ 524288) (na : ¬ a = ByteArray.empty) (nb : ¬ b = ByteArray.empty) (za : 0 < a.size) (zb : 0 < b.size) (HA : Hid (okB a = true)) (HB : Hid (okB b = true)) (HC : Hid (okB (a ++ b) = false)) :
    Calls Tryf.prog 5 #[.string a, .string b] w fun e w' => e = .returned (.bool true) ∧ Below w.heap.size w w' := by
  go_enter Tryf.func5, Tryf.ntmps5
  go_wp2_with fail
  refine (bytes12 _ _ _ (by omega) (by omega)).mono ?_
  rintro e w' ⟨bb, rfl, rfl⟩
  cases bb with
  | false =>
    go_wp2
    go_ret
    exact ⟨rfl, Below.refl _ _⟩
  | true =>
    go_wp2_with fail
    refine (zz_ok2 a _ HA.out).mono ?_
    rintro e w1 ⟨rfl, b1⟩
    have hF1 : F.answers w1.tape := by rw [b1.tape]; exact hF
    go_wp2_with fail
    refine (zz_ok2 b _ HB.out).mono ?_
    rintro e w2 ⟨rfl, b2⟩
    have hF2 : F.answers w2.tape := by rw [b2.tape]; exact hF1
    go_wp2_with fail
    refine (zz_bad F (a ++ b) _ hF2 HC.out).mono ?_
    rintro e w3 ⟨⟨pj, rfl⟩, b3⟩
    have hbel := (b1.trans (b2.mono b1.size)).trans (b3.mono (Nat.le_trans b1.size b2.size))
    clear b1 b2 b3 hF1 hF2
    go_wp2_with fail
    refine (settles_ok a _).mono ?_
    rintro e w4 ⟨rfl, rfl⟩
    go_wp2_with fail
    refine (settles_ok b _).mono ?_
    rintro e w4 ⟨rfl, rfl⟩
    go_wp2_with fail
    refine (settles_bad (a ++ b) _).mono ?_
    rintro e w4 ⟨rfl, rfl⟩
    go_wp2
    all_goals go_ret
    all_goals exact ⟨rfl, hbel⟩

set_option maxHeartbeats 1000000 in
theorem law_b0n (F : Interp) (a b : ByteArray) (w : World) (hF : F.answers w.tape) (g0 : a.size ≤ 524288) (g1 : b.size ≤ 524288) (HA : Hid (okB a = false)) (HB : Hid (okB ByteArray.empty = false)) (HC : Hid (okB a = false)) :
    Calls Tryf.prog 5 #[.string a, .string ByteArray.empty] w fun e w' => e = .returned (.bool true) ∧ Below w.heap.size w w' := by
  go_enter Tryf.func5, Tryf.ntmps5
  go_wp2_with fail
  refine (bytes12 _ _ _ (by omega) (by decide)).mono ?_
  rintro e w' ⟨bb, rfl, rfl⟩
  cases bb with
  | false =>
    go_wp2
    go_ret
    exact ⟨rfl, Below.refl _ _⟩
  | true =>
    go_wp2_with fail
    refine (zz_bad F a _ hF HA.out).mono ?_
    rintro e w1 ⟨⟨pa, rfl⟩, b1⟩
    have hF1 : F.answers w1.tape := by rw [b1.tape]; exact hF
    go_wp2_with fail
    refine (zz_bad F ByteArray.empty _ hF1 HB.out).mono ?_
    rintro e w2 ⟨⟨pb, rfl⟩, b2⟩
    have hF2 : F.answers w2.tape := by rw [b2.tape]; exact hF1
    go_wp2_with fail
    refine (zz_bad F a _ hF2 HC.out).mono ?_
    rintro e w3 ⟨⟨pj, rfl⟩, b3⟩
    have hbel := (b1.trans (b2.mono b1.size)).trans (b3.mono (Nat.le_trans b1.size b2.size))
    clear b1 b2 b3 hF1 hF2
    go_wp2_with fail
    refine (settles_bad a _).mono ?_
    rintro e w4 ⟨rfl, rfl⟩
    go_wp2_with fail
    refine (settles_bad ByteArray.empty _).mono ?_
    rintro e w4 ⟨rfl, rfl⟩
    go_wp2_with fail
    refine (settles_bad a _).mono ?_
    rintro e w4 ⟨rfl, rfl⟩
    go_wp2
    all_goals go_ret
    all_goals exact ⟨rfl, hbel⟩

set_option maxHeartbeats 1000000 in
theorem law_b0y (F : Interp) (a b : ByteArray) (w : World) (hF : F.answers w.tape) (g0 : a.size ≤ 524288) (g1 : b.size ≤ 524288) (na : ¬ a = ByteArray.empty) (za : 0 < a.size) (HA : Hid (okB a = true)) (HB : Hid (okB ByteArray.empty = false)) (HC : Hid (okB a = true)) :
    Calls Tryf.prog 5 #[.string a, .string ByteArray.empty] w fun e w' => e = .returned (.bool true) ∧ Below w.heap.size w w' := by
  go_enter Tryf.func5, Tryf.ntmps5
  go_wp2_with fail
  refine (bytes12 _ _ _ (by omega) (by decide)).mono ?_
  rintro e w' ⟨bb, rfl, rfl⟩
  cases bb with
  | false =>
    go_wp2
    go_ret
    exact ⟨rfl, Below.refl _ _⟩
  | true =>
    go_wp2_with fail
    refine (zz_ok2 a _ HA.out).mono ?_
    rintro e w1 ⟨rfl, b1⟩
    have hF1 : F.answers w1.tape := by rw [b1.tape]; exact hF
    go_wp2_with fail
    refine (zz_bad F ByteArray.empty _ hF1 HB.out).mono ?_
    rintro e w2 ⟨⟨pb, rfl⟩, b2⟩
    have hF2 : F.answers w2.tape := by rw [b2.tape]; exact hF1
    go_wp2_with fail
    refine (zz_ok2 a _ HC.out).mono ?_
    rintro e w3 ⟨rfl, b3⟩
    have hbel := (b1.trans (b2.mono b1.size)).trans (b3.mono (Nat.le_trans b1.size b2.size))
    clear b1 b2 b3 hF1 hF2
    go_wp2_with fail
    refine (settles_ok a _).mono ?_
    rintro e w4 ⟨rfl, rfl⟩
    go_wp2_with fail
    refine (settles_bad ByteArray.empty _).mono ?_
    rintro e w4 ⟨rfl, rfl⟩
    go_wp2_with fail
    refine (settles_ok a _).mono ?_
    rintro e w4 ⟨rfl, rfl⟩
    go_wp2
    all_goals go_ret
    all_goals exact ⟨rfl, hbel⟩

set_option maxHeartbeats 1000000 in
theorem law_a0n (F : Interp) (a b : ByteArray) (w : World) (hF : F.answers w.tape) (g0 : a.size ≤ 524288) (g1 : b.size ≤ 524288) (HA : Hid (okB ByteArray.empty = false)) (HB : Hid (okB b = false)) (HC : Hid (okB b = false)) :
    Calls Tryf.prog 5 #[.string ByteArray.empty, .string b] w fun e w' => e = .returned (.bool true) ∧ Below w.heap.size w w' := by
  go_enter Tryf.func5, Tryf.ntmps5
  go_wp2_with fail
  refine (bytes12 _ _ _ (by decide) (by omega)).mono ?_
  rintro e w' ⟨bb, rfl, rfl⟩
  cases bb with
  | false =>
    go_wp2
    go_ret
    exact ⟨rfl, Below.refl _ _⟩
  | true =>
    go_wp2_with fail
    refine (zz_bad F ByteArray.empty _ hF HA.out).mono ?_
    rintro e w1 ⟨⟨pa, rfl⟩, b1⟩
    have hF1 : F.answers w1.tape := by rw [b1.tape]; exact hF
    go_wp2_with fail
    refine (zz_bad F b _ hF1 HB.out).mono ?_
    rintro e w2 ⟨⟨pb, rfl⟩, b2⟩
    have hF2 : F.answers w2.tape := by rw [b2.tape]; exact hF1
    go_wp2_with fail
    refine (zz_bad F b _ hF2 HC.out).mono ?_
    rintro e w3 ⟨⟨pj, rfl⟩, b3⟩
    have hbel := (b1.trans (b2.mono b1.size)).trans (b3.mono (Nat.le_trans b1.size b2.size))
    clear b1 b2 b3 hF1 hF2
    go_wp2_with fail
    refine (settles_bad ByteArray.empty _).mono ?_
    rintro e w4 ⟨rfl, rfl⟩
    go_wp2_with fail
    refine (settles_bad b _).mono ?_
    rintro e w4 ⟨rfl, rfl⟩
    go_wp2_with fail
    refine (settles_bad b _).mono ?_
    rintro e w4 ⟨rfl, rfl⟩
    go_wp2
    all_goals go_ret
    all_goals exact ⟨rfl, hbel⟩

set_option maxHeartbeats 1000000 in
theorem law_a0y (F : Interp) (a b : ByteArray) (w : World) (hF : F.answers w.tape) (g0 : a.size ≤ 524288) (g1 : b.size ≤ 524288) (nb : ¬ b = ByteArray.empty) (zb : 0 < b.size) (HA : Hid (okB ByteArray.empty = false)) (HB : Hid (okB b = true)) (HC : Hid (okB b = true)) :
    Calls Tryf.prog 5 #[.string ByteArray.empty, .string b] w fun e w' => e = .returned (.bool true) ∧ Below w.heap.size w w' := by
  go_enter Tryf.func5, Tryf.ntmps5
  go_wp2_with fail
  refine (bytes12 _ _ _ (by decide) (by omega)).mono ?_
  rintro e w' ⟨bb, rfl, rfl⟩
  cases bb with
  | false =>
    go_wp2
    go_ret
    exact ⟨rfl, Below.refl _ _⟩
  | true =>
    go_wp2_with fail
    refine (zz_bad F ByteArray.empty _ hF HA.out).mono ?_
    rintro e w1 ⟨⟨pa, rfl⟩, b1⟩
    have hF1 : F.answers w1.tape := by rw [b1.tape]; exact hF
    go_wp2_with fail
    refine (zz_ok2 b _ HB.out).mono ?_
    rintro e w2 ⟨rfl, b2⟩
    have hF2 : F.answers w2.tape := by rw [b2.tape]; exact hF1
    go_wp2_with fail
    refine (zz_ok2 b _ HC.out).mono ?_
    rintro e w3 ⟨rfl, b3⟩
    have hbel := (b1.trans (b2.mono b1.size)).trans (b3.mono (Nat.le_trans b1.size b2.size))
    clear b1 b2 b3 hF1 hF2
    go_wp2_with fail
    refine (settles_bad ByteArray.empty _).mono ?_
    rintro e w4 ⟨rfl, rfl⟩
    go_wp2_with fail
    refine (settles_ok b _).mono ?_
    rintro e w4 ⟨rfl, rfl⟩
    go_wp2_with fail
    refine (settles_ok b _).mono ?_
    rintro e w4 ⟨rfl, rfl⟩
    go_wp2
    all_goals go_ret
    all_goals exact ⟨rfl, hbel⟩

theorem okB_empty : okB ByteArray.empty = false := by
  unfold okB isNever isAlways
  rw [ByteArray.toList_eq]
  rfl
theorem ok_pos {s : ByteArray} (h : okB s = true) : ¬ s = ByteArray.empty ∧ 0 < s.size := by
  have := ok_size h
  refine ⟨fun e => ?_, by omega⟩
  rw [e, okB_empty] at h
  cases h

set_option maxHeartbeats 1000000 in
theorem law_big (a b : ByteArray) (w : World) (h0 : a.size ≤ 9223372036854775807) (h1 : b.size ≤ 9223372036854775807) (h : 524288 < a.size ∨ 524288 < b.size) :
    Calls Tryf.prog 5 #[.string a, .string b] w fun e w' => e = .returned (.bool true) ∧ Below w.heap.size w w' := by
  by_cases g0 : 524288 < a.size
  · go_enter Tryf.func5, Tryf.ntmps5
    go_wp2_with fail
    refine (bytes12 _ _ _ h0 h1).mono ?_
    rintro e w' ⟨bb, rfl, rfl⟩
    cases bb
    all_goals
      go_wp2
      go_ret
      exact ⟨rfl, Below.refl _ _⟩
  have g1 : 524288 < b.size := by omega
  clear h
  go_enter Tryf.func5, Tryf.ntmps5
  go_wp2_with fail
  refine (bytes12 _ _ _ h0 h1).mono ?_
  rintro e w' ⟨bb, rfl, rfl⟩
  cases bb
  all_goals
    go_wp2
    go_ret
    exact ⟨rfl, Below.refl _ _⟩

theorem law_walk (F : Interp) (a b : ByteArray) (w : World) (hF : F.answers w.tape) (h0 : a.size ≤ 9223372036854775807) (h1 : b.size ≤ 9223372036854775807) :
    Calls Tryf.prog 5 #[.string a, .string b] w fun e w' => e = .returned (.bool true) ∧ Below w.heap.size w w' := by
  by_cases hbig : 524288 < a.size ∨ 524288 < b.size
  · exact law_big a b w h0 h1 hbig
  have g0 : a.size ≤ 524288 := by omega
  have g1 : b.size ≤ 524288 := by omega
  by_cases eb : b = ByteArray.empty
  · subst eb
    cases ha : okB a with
    | true => exact law_b0y F a ByteArray.empty w hF g0 g1 (ok_pos ha).1 (ok_pos ha).2 ha okB_empty ha
    | false => exact law_b0n F a ByteArray.empty w hF g0 g1 ha okB_empty ha
  by_cases ea : a = ByteArray.empty
  · subst ea
    cases hb : okB b with
    | true => exact law_a0y F ByteArray.empty b w hF g0 g1 (ok_pos hb).1 (ok_pos hb).2 okB_empty hb hb
    | false => exact law_a0n F ByteArray.empty b w hF g0 g1 okB_empty hb hb
  have za : 0 < a.size := by
    apply Nat.pos_of_ne_zero
    intro e
    exact ea (ByteArray.ext (Array.eq_empty_of_size_eq_zero e))
  have zb : 0 < b.size := by
    apply Nat.pos_of_ne_zero
    intro e
    exact eb (ByteArray.ext (Array.eq_empty_of_size_eq_zero e))
  cases ha : okB a <;> cases hb : okB b <;> cases hc : okB (a ++ b)
  · exact law_nnn F a b w hF g0 g1 ea eb za zb ha hb hc
  · exact law_nny F a b w hF g0 g1 ea eb za zb ha hb hc
  · exact law_nyn F a b w hF g0 g1 ea eb za zb ha hb hc
  · exact law_nyy F a b w hF g0 g1 ea eb za zb ha hb hc
  · exact law_ynn F a b w hF g0 g1 ea eb za zb ha hb hc
  · exact law_yny F a b w hF g0 g1 ea eb za zb ha hb hc
  · exact law_yyn F a b w hF g0 g1 ea eb za zb ha hb hc
  · exfalso
    have s1 := ok_size ha
    have s2 := ok_size hb
    have s3 := ok_size hc
    have s4 : (a ++ b).size = a.size + b.size := by simp
    omega
end Go.Proofs.Qxb6617055aFmt
