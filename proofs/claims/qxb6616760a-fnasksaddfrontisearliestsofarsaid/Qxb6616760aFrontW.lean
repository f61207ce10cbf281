/-
  The walk of FnAsksAddFrontIsEarliestSoFar: the loop.
-/
import Derived.Test.Qxb6616760aFront
namespace Go.Proofs.Qxb6616760a
open Go.RowKit Plain Go.Maps
set_option linter.unusedVariables false

set_option maxRecDepth 20000 in
set_option maxHeartbeats 4000000 in
theorem front_core (b0 off0 cap0 b1 off1 cap1 len : Nat) (zs ys : List Int) (w : World) (hl : len ≤ 65536) (hb0 : b0 < w.heap.size) (hb1 : b1 < w.heap.size)
    (hc0 : ∀ k, k < len → w.cell? ⟨b0, off0 + k, none⟩ = some (.int .u64 (zs.getD k 0))) (hw0 : ∀ k, k < len → (Lit.int .u64 (zs.getD k 0)).wf = true)
    (hc1 : ∀ k, k < len → w.cell? ⟨b1, off1 + k, none⟩ = some (.int .i64 (ys.getD k 0))) :
    Calls Try.prog 6 #[.slice (some ⟨b0, off0, none⟩) len cap0, .slice (some ⟨b1, off1, none⟩) len cap1] w fun e w' => e = .returned (.bool true) ∧ Below w.heap.size w w' := by
  go_enter Try.func6, Try.ntmps6
  go_wp2_with fail
  refine (bytes18 _ _ _ _ _ _ _ (by omega) (by omega)).mono ?_
  rintro e w' ⟨bb, rfl, rfl⟩
  cases bb with
  | false =>
    go_wp2
    go_ret
    exact ⟨rfl, Below.refl _ _⟩
  | true =>
    go_wp2_with fail
    refine (index_any b0 off0 len cap0 zs _ hl hb0 hc0 hw0).mono ?_
    rintro e w1 ⟨d, rfl, hbel, hd⟩
    cases d with
    | false =>
      clear hd
      go_wp2
      go_ret
      exact ⟨rfl, hbel⟩
    | true =>
      obtain ⟨hap, _⟩ := hd rfl
      clear hd
      go_wp2_with fail
      refine (new_any _).mono ?_
      rintro e w2 ⟨rfl, hA, hbel2⟩
      have hs1 := hbel.size
      have hbel3 : Below w'.heap.size w' w2 := hbel.trans (hbel2.mono hs1)
      obtain ⟨M, HM⟩ : ∃ M, Hid (M = w1.heap.size) := ⟨_, rfl⟩
      have hMs : w'.heap.size ≤ M := by rw [HM.out]; exact hs1
      rw [← HM.out]
      rw [← HM.out] at hA
      clear hbel hbel2 hs1
      go_wp2_with fail
      go_loopw [8, 9, 10] (fun mn mt i wr => ∃ (k : Nat) (v : Value) (l : List (Int × Int)) (m1 m2 : Int), k ≤ len ∧ i = .int .i64 k ∧ mn = .int .u64 m1 ∧ mt = .int .i64 m2 ∧ IsMin zs ys k (m1, m2) ∧ l.Perm (pairs zs ys k) ∧ Heap l ∧ Asks wr M v l (Da zs ys k) ∧ Below w'.heap.size w' wr) (fun _ _ i _ => len - (intOf i).toNat)
      case atStart => exact ⟨0, _, _, 0, 0, Nat.zero_le _, rfl, rfl, rfl, isMin_zero _ _ _, List.Perm.refl _, heap_nil, hA, hbel3⟩
      case round =>
        obtain ⟨k, v, l, m1, m2, hk, rfl, rfl, rfl, hmin, hp, hh, hAk, hb⟩ := hrel
        have hlk : l.length = k := by rw [hp.length_eq, pairs_len]
        by_cases hlt : k < len
        · have x0 : wr.cell? ⟨b0, off0 + k, none⟩ = some (.int .u64 (zs.getD k 0)) := (hb.cell (p := ⟨b0, off0 + k, none⟩) hb0).trans (hc0 k hlt)
          have x1 : wr.cell? ⟨b1, off1 + k, none⟩ = some (.int .i64 (ys.getD k 0)) := (hb.cell (p := ⟨b1, off1 + k, none⟩) hb1).trans (hc1 k hlt)
          have hwz := hw0 k hlt
          have x20 : ∀ w3 : World, Below w'.heap.size w' w3 → w3.cell? ⟨b0, off0 + k, none⟩ = some (.int .u64 (zs.getD k 0)) := fun w3 h => (h.cell (p := ⟨b0, off0 + k, none⟩) hb0).trans (hc0 k hlt)
          have x21 : ∀ w3 : World, Below w'.heap.size w' w3 → w3.cell? ⟨b1, off1 + k, none⟩ = some (.int .i64 (ys.getD k 0)) := fun w3 h => (h.cell (p := ⟨b1, off1 + k, none⟩) hb1).trans (hc1 k hlt)
          obtain ⟨z, hz⟩ : ∃ z, z = zs.getD k 0 := ⟨_, rfl⟩
          obtain ⟨y, hy⟩ : ∃ y, y = ys.getD k 0 := ⟨_, rfl⟩
          rw [← hz] at x0 hwz x20
          rw [← hy] at x1 x21
          have HZ : Hid (z = zs.getD k 0) := hz
          have HY : Hid (y = ys.getD k 0) := hy
          have HL : Hid (l.length = k) := hlk
          have X20 : Hid (∀ w3 : World, Below w'.heap.size w' w3 → w3.cell? ⟨b0, off0 + k, none⟩ = some (.int .u64 z)) := x20
          have X21 : Hid (∀ w3 : World, Below w'.heap.size w' w3 → w3.cell? ⟨b1, off1 + k, none⟩ = some (.int .i64 y)) := x21
          have hn9 : l.length ≤ 900000 := by omega
          have hnk : l.length < len := by omega
          clear hz hy hlk hc0 hc1 hw0 hA x20 x21
          -- the new earliest ask, and which way the test goes
          obtain ⟨p1, p2, hmin', hway⟩ : ∃ p1 p2 : Int, IsMin zs ys (k + 1) (p1, p2) ∧ ((((k : Int) == 0) = true ∧ p1 = z ∧ p2 = y) ∨ (((k : Int) == 0) = false ∧ leB (z, y) (m1, m2) = true ∧ p1 = z ∧ p2 = y) ∨ (((k : Int) == 0) = false ∧ leB (z, y) (m1, m2) = false ∧ p1 = m1 ∧ p2 = m2)) := by
            rw [HZ.out, HY.out]
            by_cases k0 : k = 0
            · subst k0
              exact ⟨_, _, isMin_first zs ys, .inl ⟨rfl, rfl, rfl⟩⟩
            · have kb : ((k : Int) == 0) = false := by
                have : (k : Int) ≠ 0 := by omega
                simpa using this
              cases hle : leB (zs.getD k 0, ys.getD k 0) (m1, m2) with
              | true => exact ⟨_, _, isMin_new hmin (by omega) hle, .inr (.inl ⟨kb, rfl, rfl, rfl⟩)⟩
              | false => exact ⟨_, _, isMin_old hmin (by omega) hle, .inr (.inr ⟨kb, rfl, rfl, rfl⟩)⟩
          clear hmin
          go_wp2_with fail
          go_region_with (go_at_call 13; refine (zzadd_any M v l _ z y _ hAk.drew hn9 hh hwz).mono ?_; rintro e w3 ⟨rfl, v', l', hp', hh', hA', hb'⟩)
          all_goals
            have hl3 : l'.length = k + 1 := by rw [hp'.length_eq, List.length_append, HL.out]; rfl
            have hA3 : Asks w3 M v' l' (Da zs ys (k + 1)) := by
              have := hA'
              rw [HZ.out, HY.out] at this
              exact this
            have hp3 : l'.Perm (pairs zs ys (k + 1)) := by
              have := hp'
              rw [HZ.out, HY.out] at this
              exact this.trans (hp.append_right _)
            have hb3 : Below w'.heap.size w' w3 := hb.drew.trans (hb'.mono hMs)
            have hfr := fun n => front_any M v' l' _ (w3.drewN n) (by exact hA3) (by omega) (by omega)
            have hcc := fun q => count_any M v' l' _ (w3.drewN q) (by exact hA3)
            rw [front_eq hmin' (by omega) hp3 hh'] at hfr
            have hsz := Da_size zs ys (k + 1) (fun i j a b => hap i j a (by omega))
            rw [hsz] at hcc
            have y0 := X20.out w3 hb3
            have y1 := X21.out w3 hb3
            clear hA' hp' hb' hAk hp hb hl3 x0 x1 hsz
            rcases hway with ⟨kb, rfl, rfl⟩ | ⟨kb, hle, rfl, rfl⟩ | ⟨kb, hle, rfl, rfl⟩
            · go_wp2_with fail
              go_quiet (fail)
              go_wp2_with fail
              refine (hfr _).mono ?_
              rintro e w4 ⟨rfl, q4, rfl⟩
              go_wp2_with fail
              refine (hcc _).mono ?_
              rintro e w5 ⟨rfl, rfl⟩
              clear hfr hcc
              go_wp2_with fail
              go_roundw
              case rel => exact ⟨k + 1, v', l', _, _, by omega, by go_num, rfl, rfl, hmin', hp3, hh', hA3, ⟨hb3.os, hb3.tape, hb3.output, hb3.size, hb3.block⟩⟩
              case measure => simp [intOf]; omega
            · go_wp2_with fail
              go_quiet ((go_at_call 17; exact Calls.quiet_of_same (pairLE_any _ _ _ _ _)))
              rw [hle]
              go_wp2_with fail
              refine (hfr _).mono ?_
              rintro e w4 ⟨rfl, q4, rfl⟩
              go_wp2_with fail
              refine (hcc _).mono ?_
              rintro e w5 ⟨rfl, rfl⟩
              clear hfr hcc
              go_wp2_with fail
              go_roundw
              case rel => exact ⟨k + 1, v', l', _, _, by omega, by go_num, rfl, rfl, hmin', hp3, hh', hA3, ⟨hb3.os, hb3.tape, hb3.output, hb3.size, hb3.block⟩⟩
              case measure => simp [intOf]; omega
            · go_wp2_with fail
              go_quiet ((go_at_call 17; exact Calls.quiet_of_same (pairLE_any _ _ _ _ _)))
              rw [hle]
              go_wp2_with fail
              refine (hfr _).mono ?_
              rintro e w4 ⟨rfl, q4, rfl⟩
              go_wp2_with fail
              refine (hcc _).mono ?_
              rintro e w5 ⟨rfl, rfl⟩
              clear hfr hcc
              go_wp2_with fail
              go_roundw
              case rel => exact ⟨k + 1, v', l', _, _, by omega, by go_num, rfl, rfl, hmin', hp3, hh', hA3, ⟨hb3.os, hb3.tape, hb3.output, hb3.size, hb3.block⟩⟩
              case measure => simp [intOf]; omega
        · go_wp2
          go_ret
          exact ⟨rfl, hb⟩

set_option maxHeartbeats 1000000 in
theorem front_zero (a0 a1 : Option Addr) (cap0 cap1 : Nat) (w : World) :
    Calls Try.prog 6 #[.slice a0 0 cap0, .slice a1 0 cap1] w fun e w' => e = .returned (.bool true) ∧ Below w.heap.size w w' := by
  go_enter Try.func6, Try.ntmps6
  go_wp2_with fail
  refine (bytes18 _ _ _ _ _ _ _ (by omega) (by omega)).mono ?_
  rintro e w' ⟨bb, rfl, rfl⟩
  cases bb with
  | false =>
    go_wp2
    go_ret
    exact ⟨rfl, Below.refl _ _⟩
  | true =>
    go_wp2_with fail
    refine (index_none a0 cap0 _).mono ?_
    rintro e w1 ⟨rfl, hbel⟩
    go_wp2_with fail
    refine (new_any _).mono ?_
    rintro e w2 ⟨rfl, hA, hbel2⟩
    have hbel3 : Below w'.heap.size w' w2 := hbel.trans (hbel2.mono hbel.size)
    clear hbel hbel2 hA
    go_wp2_with fail
    go_loopw [10] (fun i wr => i = .int .i64 0 ∧ Below w'.heap.size w' wr) (fun _ _ => 0)
    case atStart => exact ⟨rfl, hbel3⟩
    case round =>
      obtain ⟨rfl, hb⟩ := hrel
      go_wp2
      go_ret
      exact ⟨rfl, hb⟩

set_option maxHeartbeats 1000000 in
theorem front_out (a0 a1 : Option Addr) (len0 cap0 len1 cap1 : Nat) (w : World) (h0 : len0 ≤ 9223372036854775807) (h1 : len1 ≤ 9223372036854775807) (h : 65536 < len0 ∨ 65536 < len1 ∨ len0 ≠ len1) :
    Calls Try.prog 6 #[.slice a0 len0 cap0, .slice a1 len1 cap1] w fun e w' => e = .returned (.bool true) ∧ Below w.heap.size w w' := by
  by_cases g0 : 65536 < len0
  · go_enter Try.func6, Try.ntmps6
    go_wp2_with fail
    refine (bytes18 _ _ _ _ _ _ _ (by omega) (by omega)).mono ?_
    rintro e w' ⟨bb, rfl, rfl⟩
    cases bb
    all_goals
      go_wp2
      go_ret
      exact ⟨rfl, Below.refl _ _⟩
  by_cases g1 : 65536 < len1
  · go_enter Try.func6, Try.ntmps6
    go_wp2_with fail
    refine (bytes18 _ _ _ _ _ _ _ (by omega) (by omega)).mono ?_
    rintro e w' ⟨bb, rfl, rfl⟩
    cases bb
    all_goals
      go_wp2
      go_ret
      exact ⟨rfl, Below.refl _ _⟩
  have g2 : ((len0 : Int) != (len1 : Int)) = true := by simp; omega
  clear h
  go_enter Try.func6, Try.ntmps6
  go_wp2_with fail
  refine (bytes18 _ _ _ _ _ _ _ (by omega) (by omega)).mono ?_
  rintro e w' ⟨bb, rfl, rfl⟩
  cases bb
  all_goals
    go_wp2
    go_ret
    exact ⟨rfl, Below.refl _ _⟩
end Go.Proofs.Qxb6616760a
