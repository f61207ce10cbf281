/-
  FnAsksAddKeepsEveryAskInHeapOrder at no element, and outside its own tests.
-/
import Derived.Test.Qxb6616760aOrder
namespace Go.Proofs.Qxb6616760a
open Go.RowKit Plain Go.Maps
set_option linter.unusedVariables false

set_option maxHeartbeats 1000000 in
theorem queue_zero (M : Nat) (D : DataW Unit) (w : World) (h : Asks w M (.slice none 0 0) [] D) :
    Calls Try.prog 16 #[.pointer (some ⟨M + 1, 0, none⟩)] w fun e w' => ∃ G1 G2 G3 G4, e = .returned (.tuple #[.slice (some ⟨G1, 0, none⟩) 0 0, .slice (some ⟨G2, 0, none⟩) 0 0, .slice (some ⟨G3, 0, none⟩) 0 0, .slice (some ⟨G4, 0, none⟩) 0 0]) ∧ Below w.heap.size w w' := by
  obtain ⟨hA, hmap, hq, hsz⟩ := h
  have c1 : w.cell? ⟨M + 1, 1, none⟩ = some (.slice none 0 0) := cell_of hA rfl
  clear hmap hq hA
  have tok1 : True := trivial
  have tok2 : True := trivial
  go_enter Try.func16, Try.ntmps16
  go_wp2_with (first
    | (at_make; have _t := tok1; refine wpList_make_row _ rfl _ _ 25 rfl 34 _ 8 Try.underlying25 info34 rfl 0 rfl rfl (by decide) (by omega) ?_; intro w1 f1 gr1 s1; clear tok1)
    | (at_make; have _t := tok2; refine wpList_make_row _ rfl _ _ 26 rfl 2 _ 8 Try.underlying26 info2 rfl 0 rfl rfl (by decide) (by omega) ?_; intro w2 f2 gr2 s2; clear tok2)
    | (at_make; refine wpList_make_row _ rfl _ _ 26 rfl 2 _ 8 Try.underlying26 info2 rfl 0 rfl rfl (by decide) (by omega) ?_; intro w3 f3 gr3 s3)
    | (at_make; refine wpList_make_row _ rfl _ _ 38 rfl 4 _ 1 Try.underlying38 info4 rfl 0 rfl rfl (by decide) (by omega) ?_; intro w4 f4 gr4 s4))
  have hb4 : Below w.heap.size w w4 := (((Below.refl w.heap.size w).grown gr1 (Nat.le_refl _) (fun k h => by cases h)).grown gr2 (by omega) (fun k h => by cases h)).grown gr3 (by omega) (fun k h => by cases h) |>.grown gr4 (by omega) (fun k h => by cases h)
  go_loopw [11] (fun i wr => i = .int .i64 0 ∧ Below w.heap.size w wr) (fun _ _ => 0)
  case atStart => exact ⟨rfl, hb4⟩
  case round =>
    obtain ⟨rfl, hb⟩ := hrel
    go_wp2
    refine bodyPost_ret (v := .tuple #[.slice (some ⟨w.heap.size, 0, none⟩) 0 0, .slice (some ⟨w1.heap.size, 0, none⟩) 0 0, .slice (some ⟨w2.heap.size, 0, none⟩) 0 0, .slice (some ⟨w3.heap.size, 0, none⟩) 0 0]) (by simp [results, Try.results16, go_sem]) rfl ⟨_, _, _, _, rfl, hb⟩

set_option maxRecDepth 20000 in
set_option maxHeartbeats 4000000 in
theorem order_zero (a0 a1 : Option Addr) (cap0 cap1 : Nat) (w : World) :
    Calls Try.prog 5 #[.slice a0 0 cap0, .slice a1 0 cap1] w fun e w' => e = .returned (.bool true) ∧ Below w.heap.size w w' := by
  go_enter Try.func5, Try.ntmps5
  go_wp2_with fail
  refine (bytes10 _ _ _ _ _ _ _ (by omega) (by omega)).mono ?_
  rintro e w' ⟨bb, rfl, rfl⟩
  cases bb with
  | false =>
    go_wp2
    go_ret
    exact ⟨rfl, Below.refl _ _⟩
  | true =>
    go_wp2_with fail
    refine (index_none a0 cap0 _).mono ?_
    rintro e w1 ⟨rfl, hbel⟩
    go_wp2_with fail
    refine (new_any _).mono ?_
    rintro e w2 ⟨rfl, hA, hbel2⟩
    have hbel3 : Below w'.heap.size w' w2 := hbel.trans (hbel2.mono hbel.size)
    clear hbel hbel2
    obtain ⟨M, HM⟩ : ∃ M, Hid (M = w1.heap.size) := ⟨_, rfl⟩
    rw [← HM.out]
    rw [← HM.out] at hA
    go_wp2_with fail
    go_loopw [8] (fun i wr => i = .int .i64 0 ∧ wr = w2) (fun _ _ => 0)
    case atStart => exact ⟨rfl, rfl⟩
    case round =>
      obtain ⟨rfl, rfl⟩ := hrel
      have hcc := count_any M _ _ _ wr hA
      have e0 : Maps.size (.map [] : DataW Unit) = 0 := rfl
      rw [e0] at hcc
      clear e0
      go_wp2_with fail
      refine hcc.mono ?_
      rintro e w4 ⟨rfl, rfl⟩
      clear hcc
      go_wp2_with fail
      go_loopw [9] (fun i wr => i = .int .i64 0 ∧ wr = w4) (fun _ _ => 0)
      case atStart => exact ⟨rfl, rfl⟩
      case round =>
        obtain ⟨rfl, rfl⟩ := hrel
        have hqq := queue_zero M _ wr hA
        go_wp2_with fail
        refine hqq.mono ?_
        rintro e w5 ⟨G1, G2, G3, G4, rfl, hb5⟩
        have hb6 : Below w'.heap.size w' w5 := hbel3.trans (hb5.mono hbel3.size)
        clear hqq hb5
        go_wp2_with (at_make; refine wpList_make_row _ rfl _ _ 38 rfl 4 _ 1 Try.underlying38 info4 rfl 0 rfl rfl (by decide) (by omega) ?_; intro w6 f6 gr6 s6)
        have hb7 : Below w'.heap.size w' w6 := hb6.grown gr6 hb6.size (fun k h => by cases h)
        clear hb6 f6 gr6 s6
        go_loopw [19] (fun i wr => i = .int .i64 0 ∧ Below w'.heap.size w' wr) (fun _ _ => 0)
        case atStart => exact ⟨rfl, hb7⟩
        case round =>
          obtain ⟨rfl, hb8⟩ := hrel
          go_wp2
          go_ret
          exact ⟨rfl, hb8⟩

set_option maxRecDepth 20000 in
set_option maxHeartbeats 1000000 in
theorem order_out (a0 a1 : Option Addr) (len0 cap0 len1 cap1 : Nat) (w : World) (h0 : len0 ≤ 9223372036854775807) (h1 : len1 ≤ 9223372036854775807) (h : 65536 < len0 ∨ 65536 < len1 ∨ len0 ≠ len1) :
    Calls Try.prog 5 #[.slice a0 len0 cap0, .slice a1 len1 cap1] w fun e w' => e = .returned (.bool true) ∧ Below w.heap.size w w' := by
  by_cases g0 : 65536 < len0
  · go_enter Try.func5, Try.ntmps5
    go_wp2_with fail
    refine (bytes10 _ _ _ _ _ _ _ (by omega) (by omega)).mono ?_
    rintro e w' ⟨bb, rfl, rfl⟩
    cases bb
    all_goals
      go_wp2
      go_ret
      exact ⟨rfl, Below.refl _ _⟩
  by_cases g1 : 65536 < len1
  · go_enter Try.func5, Try.ntmps5
    go_wp2_with fail
    refine (bytes10 _ _ _ _ _ _ _ (by omega) (by omega)).mono ?_
    rintro e w' ⟨bb, rfl, rfl⟩
    cases bb
    all_goals
      go_wp2
      go_ret
      exact ⟨rfl, Below.refl _ _⟩
  have g2 : ((len0 : Int) != (len1 : Int)) = true := by simp; omega
  clear h
  go_enter Try.func5, Try.ntmps5
  go_wp2_with fail
  refine (bytes10 _ _ _ _ _ _ _ (by omega) (by omega)).mono ?_
  rintro e w' ⟨bb, rfl, rfl⟩
  cases bb
  all_goals
    go_wp2
    go_ret
    exact ⟨rfl, Below.refl _ _⟩
end Go.Proofs.Qxb6616760a
