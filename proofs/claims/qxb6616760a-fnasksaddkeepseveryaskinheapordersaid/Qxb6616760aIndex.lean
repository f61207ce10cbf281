/-
  Contracts of zzIndex and of the three bounds on lengths.
-/
import Derived.Test.Qxb6616760aAsks
import Derived.LoopTactic
namespace Go.Proofs.Qxb6616760a
open Go.RowKit Plain Go.Maps
set_option linter.unusedVariables false

/-- the numbers before place k, each with its place -/
def Dx (zs : List Int) : Nat → DataW Unit
  | 0 => .map []
  | k + 1 => (Dx zs k).put (.int .u64 (zs.getD k 0)) (.lit (.int .i64 k))

def Apart (zs : List Int) (k : Nat) : Prop := ∀ i j, i < j → j < k → zs.getD i 0 ≠ zs.getD j 0

theorem isKey (n : Int) : WideAt.IsKeyLit (.int .u64 n) := by
  first | exact trivial | (unfold WideAt.IsKeyLit; trivial)

theorem Dx_isMap (zs : List Int) : ∀ k, IsMap (Dx zs k)
  | 0 => isMap_empty
  | k + 1 => (Dx_isMap zs k).put _ _

theorem key_ne {a b : Int} (h : a ≠ b) : (Lit.int .u64 a) ≠ .int .u64 b := fun e => by injection e; contradiction

theorem Dx_has (zs : List Int) : ∀ k x, Maps.has (Dx zs k) (.int .u64 x) = true → ∃ j, j < k ∧ zs.getD j 0 = x
  | 0, x, h => by simp [Dx, Maps.has] at h
  | k + 1, x, h => by
    by_cases e : zs.getD k 0 = x
    · exact ⟨k, by omega, e⟩
    · unfold Dx at h
      rw [has_put_other (key_ne (Ne.symm e))] at h
      obtain ⟨j, hj, hx⟩ := Dx_has zs k x h
      exact ⟨j, by omega, hx⟩

theorem Dx_of (zs : List Int) : ∀ k j, j < k → Maps.has (Dx zs k) (.int .u64 (zs.getD j 0)) = true
  | 0, j, h => by omega
  | k + 1, j, h => by
    unfold Dx
    by_cases e : zs.getD k 0 = zs.getD j 0
    · rw [e]; exact has_put_same (Dx_isMap zs k) (isKey _) _
    · rw [has_put_other (key_ne (Ne.symm e))]
      exact Dx_of zs k j (by have : j ≠ k := fun e' => e (by rw [e']); omega)

theorem Dx_at (zs : List Int) (z : DataW Unit) : ∀ k j, Apart zs k → j < k → (Dx zs k).atKey (.int .u64 (zs.getD j 0)) z = .lit (.int .i64 j)
  | 0, j, _, h => by omega
  | k + 1, j, ha, h => by
    unfold Dx
    by_cases e : j = k
    · subst e; exact atKey_put_same (Dx_isMap zs j) (isKey _) _ _
    · rw [atKey_put_other (key_ne (ha j k (by omega) (by omega)))]
      exact Dx_at zs z k j (fun a b h1 h2 => ha a b h1 (by omega)) (by omega)

theorem zero3 (w : World) : (zeroValue 3).run Try.prog w = .ok (.int .i64 0) w := by kernel_rfl

theorem apart_succ {zs : List Int} {k : Nat} (h : Apart zs k) (hh : Maps.has (Dx zs k) (.int .u64 (zs.getD k 0)) = false) : Apart zs (k + 1) := fun i j h1 h2 e => by
  by_cases ej : j = k
  · subst ej
    have := Dx_of zs j i h1
    rw [e, hh] at this
    cases this
  · exact h i j h1 (by omega) e

set_option maxHeartbeats 400000 in
theorem index_any (b off len cap : Nat) (zs : List Int) (w : World) (hl : len ≤ 65536) (hb : b < w.heap.size)
    (hc : ∀ k, k < len → w.cell? ⟨b, off + k, none⟩ = some (.int .u64 (zs.getD k 0))) (hw : ∀ k, k < len → (Lit.int .u64 (zs.getD k 0)).wf = true) :
    Calls Try.prog 11 #[.slice (some ⟨b, off, none⟩) len cap] w fun e w' => ∃ d, e = .returned (.tuple #[.map (some w.heap.size), .bool d]) ∧ Below w.heap.size w w' ∧
      (d = true → Apart zs len ∧ w'.ownsMap Try.prog 34 (plainElem Try.prog 3) w.heap.size len (Dx zs len)) := by
  have hmm : ∀ (n : Int) (w : World), (Instr.makeMap 28 (some (.int .i64 n))).run Try.prog w = .ok (.map (some w.heap.size)) (w.alloc (.map #[] 0)) := fun _ _ => by kernel_rfl
  go_enter Try.func11, Try.ntmps11
  go_wp2
  go_loopw [5] (fun i wr => ∃ k : Nat, k ≤ len ∧ i = .int .i64 k ∧ Apart zs k ∧ wr.ownsMap Try.prog 34 (plainElem Try.prog 3) w.heap.size k (Dx zs k) ∧ Below w.heap.size w wr) (fun i _ => len - (intOf i).toNat)
  case atStart => exact ⟨0, Nat.zero_le _, rfl, fun i j _ h => by omega, World.ownsMap_made _ _ _ _, (Below.refl _ _).alloc (Nat.le_refl _) _⟩
  case round =>
    obtain ⟨k, hk, rfl, hap, hown, hbel⟩ := hrel
    by_cases hlt : k < len
    · have hcell : wr.cell? ⟨b, off + k, none⟩ = some (.int .u64 (zs.getD k 0)) := (hbel.cell (p := ⟨b, off + k, none⟩) hb).trans (hc k hlt)
      obtain ⟨z, hz⟩ : ∃ z, z = zs.getD k 0 := ⟨_, rfl⟩
      have hwz : (Lit.int .u64 z).wf = true := by rw [hz]; exact hw k hlt
      rw [← hz] at hcell
      have HZ : Hid (z = zs.getD k 0) := hz
      clear hz hmm
      cases hhas : Maps.has (Dx zs k) (.int .u64 z) with
      | true =>
        go_wp2_with (at_lookup; refine wpList_lookup_own_ok_int _ rfl _ _ 28 rfl 34 3 .i64 law Try.underlying28 Try.underlying3 (zero3 _) w.heap.size k _ rfl hown _ _ rfl (keyOf_int_mk Try.underlying34 hwz) ?_; intro c hat hwc; rw [hhas])
        go_ret2
        exact ⟨false, rfl, hbel, fun h => by cases h⟩
      | false =>
        go_wp2_with (first | (at_lookup; refine wpList_lookup_own_ok_int _ rfl _ _ 28 rfl 34 3 .i64 law Try.underlying28 Try.underlying3 (zero3 _) w.heap.size k _ rfl hown _ _ rfl (keyOf_int_mk Try.underlying34 hwz) ?_; intro c hat hwc; rw [hhas]) | (at_mapUpdate; refine wpList_mapUpdate_own _ rfl _ _ _ 28 rfl 34 3 law Try.underlying28 _ w.heap.size k _ rfl hown (by unfold maxLen; omega) _ _ _ rfl rfl (keyOf_int_mk Try.underlying34 hwz) _ [] (plainElem_int Try.underlying3 (WalkArith.wf_i64 (by omega))) ?_; intro w1 hown1 hgrow1))
        go_roundw
        case rel =>
          refine ⟨k + 1, by omega, by go_num, apart_succ hap (by rw [← HZ.out]; exact hhas), ?_, hbel.grown hgrow1 hbel.size (fun j hj => by cases hj; exact Nat.le_refl _)⟩
          have := hown1
          rw [HZ.out] at this
          exact this
        case measure => simp [intOf]; omega
    · go_wp2
      go_ret2
      have : k = len := by omega
      subst this
      exact ⟨true, rfl, hbel, fun _ => ⟨hap, hown⟩⟩

set_option maxHeartbeats 400000 in
theorem bytes20 (a0 a1 : Option Addr) (l0 c0 l1 c1 : Nat) (w : World) (h0 : l0 ≤ 9223372036854775807) (h1 : l1 ≤ 9223372036854775807) :
    Calls Try.prog 20 #[.slice a0 l0 c0, .slice a1 l1 c1] w fun e w' => ∃ b, e = .returned (.bool b) ∧ w' = w := by
  by_cases g0 : 1048576 < l0
  · go_enter Try.func20, Try.ntmps20
    go_wp2
    go_ret
    exact ⟨_, rfl, rfl⟩
  by_cases g1 : 1048576 < l1
  · go_enter Try.func20, Try.ntmps20
    go_wp2
    go_ret
    exact ⟨_, rfl, rfl⟩
  by_cases g2 : 1048576 < l0 + l1
  all_goals
    go_enter Try.func20, Try.ntmps20
    go_wp2
    go_ret
    exact ⟨_, rfl, rfl⟩

set_option maxHeartbeats 400000 in
theorem bytes18 (a0 a1 : Option Addr) (l0 c0 l1 c1 : Nat) (w : World) (h0 : l0 ≤ 9223372036854775807) (h1 : l1 ≤ 9223372036854775807) :
    Calls Try.prog 18 #[.slice a0 l0 c0, .slice a1 l1 c1] w fun e w' => ∃ b, e = .returned (.bool b) ∧ w' = w := by
  by_cases g0 : 1048576 < l0
  · go_enter Try.func18, Try.ntmps18
    go_wp2
    go_ret
    exact ⟨_, rfl, rfl⟩
  by_cases g1 : 1048576 < l1
  · go_enter Try.func18, Try.ntmps18
    go_wp2
    go_ret
    exact ⟨_, rfl, rfl⟩
  by_cases g2 : 1048576 < l0 + l1
  all_goals
    go_enter Try.func18, Try.ntmps18
    go_wp2
    go_ret
    exact ⟨_, rfl, rfl⟩

set_option maxHeartbeats 400000 in
theorem bytes10 (a0 a1 : Option Addr) (l0 c0 l1 c1 : Nat) (w : World) (h0 : l0 ≤ 9223372036854775807) (h1 : l1 ≤ 9223372036854775807) :
    Calls Try.prog 10 #[.slice a0 l0 c0, .slice a1 l1 c1] w fun e w' => ∃ b, e = .returned (.bool b) ∧ w' = w := by
  by_cases g0 : 1048576 < l0
  · go_enter Try.func10, Try.ntmps10
    go_wp2
    go_ret
    exact ⟨_, rfl, rfl⟩
  by_cases g1 : 1048576 < l1
  · go_enter Try.func10, Try.ntmps10
    go_wp2
    go_ret
    exact ⟨_, rfl, rfl⟩
  by_cases g2 : 1048576 < l0 + l1
  all_goals
    go_enter Try.func10, Try.ntmps10
    go_wp2
    go_ret
    exact ⟨_, rfl, rfl⟩

/-- zzIndex at no element -/
theorem index_none (a : Option Addr) (cap : Nat) (w : World) :
    Calls Try.prog 11 #[.slice a 0 cap] w fun e w' => e = .returned (.tuple #[.map (some w.heap.size), .bool true]) ∧ Below w.heap.size w w' := by
  have hmm : ∀ (n : Int) (w : World), (Instr.makeMap 28 (some (.int .i64 n))).run Try.prog w = .ok (.map (some w.heap.size)) (w.alloc (.map #[] 0)) := fun _ _ => by kernel_rfl
  go_enter Try.func11, Try.ntmps11
  go_wp2
  go_loopw [5] (fun i wr => i = .int .i64 0 ∧ Below w.heap.size w wr) (fun _ _ => 0)
  case atStart => exact ⟨rfl, (Below.refl _ _).alloc (Nat.le_refl _) _⟩
  case round =>
    obtain ⟨rfl, hbel⟩ := hrel
    go_wp2
    go_ret2
    exact ⟨rfl, hbel⟩
end Go.Proofs.Qxb6616760a
