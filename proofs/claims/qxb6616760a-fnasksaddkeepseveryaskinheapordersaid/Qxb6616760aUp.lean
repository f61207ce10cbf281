/-
  The contract of container/heap.up over the ask queue.
-/
import Derived.Test.Qxb6616760aQueue
import Derived.LoopTactic
import Derived.Below
namespace Go.Proofs.Qxb6616760a
open Go.RowKit Plain
set_option linter.unusedVariables false

set_option maxHeartbeats 400000 in
theorem up_any (a o g n cap j0 : Nat) (l : List (Int × Int)) (w : World) (hl : l.length = n) (hsm : n ≤ 1000000) (hj : j0 < n) (hag : a ≠ g)
    (hq : w.cell? ⟨a, o, none⟩ = some (.slice (some ⟨g, 0, none⟩) n cap)) (hrow : QRow w g cap l) (hh : HeapBut l j0) :
    Calls Try.prog 28 #[.iface 65 (.pointer (some ⟨a, o, none⟩)), .int .i64 j0] w fun e w' => e = .returned (.tuple #[]) ∧ ∃ l', l'.Perm l ∧ Heap l' ∧ QRow w' g cap l' ∧ w.grownBy w' (some g) := by
  go_enter Try.func28, Try.ntmps28
  go_wp2
  go_loopw [1] (fun jv wr => ∃ (j : Nat) (l' : List (Int × Int)), jv = .int .i64 j ∧ j < n ∧ l'.length = n ∧ l'.Perm l ∧ HeapBut l' j ∧ QRow wr g cap l' ∧ w.grownBy wr (some g)) (fun jv _ => (intOf jv).toNat)
  case atStart => exact ⟨j0, l, rfl, hj, hl, List.Perm.refl _, hh, hrow, ⟨rfl, rfl, rfl, Nat.le_refl _, fun _ _ _ => rfl⟩⟩
  case round =>
    obtain ⟨j, l', rfl, hjn, hl', hperm, hbut, hrow', hg⟩ := hrel
    have hq' := hg.cell hq (by intro e; cases e; exact hag rfl)
    have hm1 := m_less hq'
    by_cases jz : j = 0
    · subst jz
      go_wp2_with fail
      go_end0
      exact ⟨rfl, l', hperm, heap_of_but_zero hbut, hrow', hg⟩
    · obtain ⟨i, hi⟩ : ∃ i, i = (j - 1) / 2 := ⟨_, rfl⟩
      have HP : Hid (((j : Int) - 1) / 2 = (i : Int)) := by show _ = _; omega
      have HI : Hid (i = (j - 1) / 2) := hi
      have hij : i < j := by omega
      clear hi
      cases hlt : ltB (at' l' j) (at' l' i) with
      | false =>
        have HL : Hid (ltB (at' l' j) (at' l' i) = false) := hlt
        clear hlt
        go_wp2_with fail
        rw [HP.out]
        refine (less_row g n cap j i l' _ hl' (by omega) (by omega) hrow').mono ?_
        rintro e w' ⟨rfl, q, rfl⟩
        rw [HL.out]
        go_wp2_with fail
        go_end0
        exact ⟨rfl, l', hperm, heap_of_but hbut (by rw [← HI.out]; exact HL.out), hrow'.drewN _, grownBy_drewN hg _⟩
      | true =>
        have HL : Hid (ltB (at' l' j) (at' l' i) = true) := hlt
        clear hlt
        go_wp2_with fail
        rw [HP.out]
        refine (less_row g n cap j i l' _ hl' (by omega) (by omega) hrow').mono ?_
        rintro e w' ⟨rfl, q, rfl⟩
        rw [HL.out]
        have hm2 := m_swap (w := wr.drewN q) hq'
        go_wp2_with fail
        refine (swap_any g n cap i j l' _ hl' (by omega) hij (hrow'.drewN _)).mono ?_
        rintro e w' ⟨rfl, q', rfl⟩
        go_wp2_with fail
        go_roundw
        case rel => 
          refine ⟨i, sw l' i j, rfl, by omega, by rw [sw_length]; exact hl', (sw_perm l' i j (by omega) (by omega)).trans hperm, ?_, (swapped_row (hrow'.drewN _) (by omega) (by omega)).drewN _, grownBy_drewN (swapped_grown _ _ (grownBy_drewN hg _)) _⟩
          have := HI.out
          subst this
          exact heapBut_step hbut (by omega) (by omega) HL.out
        case measure => simp [intOf]; omega
end Go.Proofs.Qxb6616760a
