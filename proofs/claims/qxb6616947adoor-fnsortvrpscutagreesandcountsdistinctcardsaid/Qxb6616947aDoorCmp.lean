/-
  The contracts of cmp.Or and of validator.Compare.
-/
import Derived.Test.Qxb6616947aDoorAcmp
import Derived.LoopTactic
namespace Go.Proofs.Qxb6616947aDoor
open Go.RowKit Plain
set_option linter.unusedVariables false

/-- the first of five that is not nought -/
def or5 (a b c d e : Int) : Int := or2 a (or2 b (or2 c (or2 d e)))
def nth5 (a b c d e : Int) : Nat → Int
  | 0 => a
  | 1 => b
  | 2 => c
  | 3 => d
  | _ => e
/-- .. from place k on -/
def orF (a b c d e : Int) : Nat → Int
  | 0 => or5 a b c d e
  | 1 => or2 b (or2 c (or2 d e))
  | 2 => or2 c (or2 d e)
  | 3 => or2 d e
  | 4 => e
  | _ => 0

theorem or2_0 (b : Int) : or2 0 b = b := rfl
theorem or2_ne {a b : Int} (h : a ≠ 0) : or2 a b = a := by unfold or2; rw [if_neg h]
theorem or2_0r (a : Int) : or2 a 0 = a := by unfold or2; split <;> omega

theorem orF_step (a b c d e : Int) (k : Nat) (hk : k < 5) : orF a b c d e k = or2 (nth5 a b c d e k) (orF a b c d e (k + 1)) := by
  have h : k = 0 ∨ k = 1 ∨ k = 2 ∨ k = 3 ∨ k = 4 := by omega
  rcases h with rfl | rfl | rfl | rfl | rfl
  · rfl
  · rfl
  · rfl
  · rfl
  · exact (or2_0r e).symm

set_option maxHeartbeats 400000 in
theorem cmpOr_any (g : Nat) (a b c d e : Int) (w : World) (h : ∀ k, k < 5 → w.cell? ⟨g, k, none⟩ = some (.int .i64 (nth5 a b c d e k))) :
    Calls Tryd.prog 30 #[.slice (some ⟨g, 0, none⟩) 5 5] w fun r w' => r = .returned (.int .i64 (or5 a b c d e)) ∧ w' = w := by
  go_enter Tryd.func30, Tryd.ntmps30
  go_wp2
  go_loop [8] (fun i => ∃ k : Nat, k ≤ 5 ∧ i = .int .i64 k ∧ orF a b c d e k = or5 a b c d e) (fun i => 5 - (intOf i).toNat)
  case atStart => exact ⟨0, by omega, rfl, rfl⟩
  case round =>
    obtain ⟨k, hk, rfl, hor⟩ := hrel
    by_cases hlt : k < 5
    · have hc := h k hlt
      have hs := orF_step a b c d e k hlt
      obtain ⟨x, hx⟩ : ∃ x, x = nth5 a b c d e k := ⟨_, rfl⟩
      rw [← hx] at hc hs
      have HX : Hid (orF a b c d e k = or2 x (orF a b c d e (k + 1))) := hs
      have HO : Hid (orF a b c d e k = or5 a b c d e) := hor
      clear hs hx h hor
      by_cases x0 : x = 0
      · subst x0
        go_wp2
        go_round
        case rel => exact ⟨k + 1, by omega, by go_num, by rw [← HO.out, HX.out]; rfl⟩
        case measure => simp [intOf]; omega
      · have xb : (x != 0) = true := by simpa using x0
        have HN : Hid (x ≠ 0) := x0
        clear x0
        go_wp2
        go_ret
        exact ⟨ret_int (by rw [← HO.out, HX.out, or2_ne HN.out]), rfl⟩
    · have : k = 5 := by omega
      subst this
      have HO : Hid (orF a b c d e 5 = or5 a b c d e) := hor
      clear hor h
      go_wp2
      go_ret
      exact ⟨ret_int (by rw [← HO.out]; rfl), rfl⟩
end Go.Proofs.Qxb6616947aDoor
