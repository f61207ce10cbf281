/-
  Contracts of zzMaxI, roundTime, patience and ZZpatience.
-/
import Derived.Test.Qxb6616760aProg
import Derived.WalkKit
import Derived.ProofKit
import Derived.RegionTactic
namespace Go.Proofs.Qxb6616760a
open Go.RowKit

def mx (a b : Int) : Int := if b < a then a else b
def mn (a b : Int) : Int := if b < a then b else a
theorem ret_int {k : IntKind} {a b : Int} (h : a = b) : Ending.returned (.int k a) = .returned (.int k b) := by rw [h]

theorem grown_trans {a b c : World} (h : Grown a b) (h' : Grown b c) : Grown a c :=
  ⟨World.keptBut_trans h.1 h'.1, fun x => (h'.2.1 x).trans (h.2.1 x), Nat.le_trans h.2.2 h'.2.2⟩

theorem max_any (a b : Int) (w : World) : Calls Try.prog 8 #[.int .i64 a, .int .i64 b] w fun e w' => e = .returned (.int .i64 (mx a b)) ∧ w' = w := by
  by_cases h : b < a
  · go_enter Try.func8, Try.ntmps8
    go_wp2
    go_ret
    exact ⟨ret_int (by unfold mx; rw [if_pos h]), rfl⟩
  · go_enter Try.func8, Try.ntmps8
    go_wp2
    go_ret
    exact ⟨ret_int (by unfold mx; rw [if_neg (by omega)]), rfl⟩

set_option maxHeartbeats 400000 in
theorem roundTime_any (b : Nat) (m s : Int) (w : World) (c4 : w.cell? ⟨b, 4, none⟩ = some (.int .i64 m)) (c3 : w.cell? ⟨b, 3, none⟩ = some (.int .i64 s))
    (h0 : 0 ≤ s) (h1 : s ≤ 288230376151711743) :
    Calls Try.prog 25 #[.pointer (some ⟨b, 0, none⟩)] w fun e w' => e = .returned (.int .i64 (mn m (8 * s))) ∧ Grown w w' := by
  by_cases hh : 8 * s < m
  all_goals
    go_enter Try.func25, Try.ntmps25
    go_wp2
    go_region
    go_wp2
    go_ret
  · exact ⟨ret_int (by unfold mn; rw [if_pos hh]), (Grown.refl _).drew⟩
  · exact ⟨ret_int (by unfold mn; rw [if_neg (by omega)]), (Grown.refl _).drew⟩

theorem mn_bd (m s : Int) (h0 : 0 ≤ s) (h1 : s ≤ 288230376151711743) (hm : 0 ≤ m) : 0 ≤ mn m (8 * s) ∧ mn m (8 * s) ≤ 2305843009213693944 := by
  unfold mn; split <;> omega

def pat (m s : Int) : Int := mx 10000000 (2 * mn m (8 * s))

set_option maxHeartbeats 400000 in
theorem patience_any (b : Nat) (m s : Int) (w : World) (c4 : w.cell? ⟨b, 4, none⟩ = some (.int .i64 m)) (c3 : w.cell? ⟨b, 3, none⟩ = some (.int .i64 s))
    (h0 : 0 ≤ s) (h1 : s ≤ 288230376151711743) (hm : 0 ≤ m) :
    Calls Try.prog 22 #[.pointer (some ⟨b, 0, none⟩)] w fun e w' => e = .returned (.int .i64 (pat m s)) ∧ Grown w w' := by
  obtain ⟨g0, g1⟩ := mn_bd m s h0 h1 hm
  by_cases hh : 10000000 < 2 * mn m (8 * s)
  all_goals
    go_enter Try.func22, Try.ntmps22
    go_wp2_with (go_at_call 25; refine (roundTime_any _ _ _ _ c4 c3 h0 h1).mono ?_; rintro e w' ⟨rfl, hg⟩)
    go_ret
  · exact ⟨ret_int (by unfold pat mx; rw [if_neg (by omega)]), hg⟩
  · exact ⟨ret_int (by unfold pat mx; split <;> omega), hg⟩

set_option maxHeartbeats 400000 in
theorem zzpatience_any (m s : Int) (w : World) (h0 : 0 ≤ s) (h1 : s ≤ 288230376151711743) (hm : 0 ≤ m) :
    Calls Try.prog 9 #[.int .i64 m, .int .i64 s] w fun e w' => e = .returned (.int .i64 (pat m s)) ∧ Grown w w' := by
  go_enter Try.func9, Try.ntmps9
  go_wp2_with (go_at_call 22; refine (patience_any _ m s _ ?_ ?_ h0 h1 hm).mono ?_; rotate_left 2; rintro e w' ⟨rfl, hg⟩)
  · go_ret
    exact ⟨rfl, grown_trans ((Grown.refl _).alloc _ _) hg⟩
  · go_simp
  · go_simp
end Go.Proofs.Qxb6616760a
