/-
  The walk of FnQueueLenCountsEveryAdd.
-/
import Derived.Test.Qxb6616760aIndex
namespace Go.Proofs.Qxb6616760a
open Go.RowKit Plain Go.Maps
set_option linter.unusedVariables false

/-- the map of the asks after k adds -/
def Da (zs ys : List Int) : Nat → DataW Unit
  | 0 => .map []
  | k + 1 => (Da zs ys k).put (.int .u64 (zs.getD k 0)) (askDatum (zs.getD k 0) (ys.getD k 0))

/-- the asks of k adds -/
def pairs (zs ys : List Int) : Nat → List (Int × Int)
  | 0 => []
  | k + 1 => pairs zs ys k ++ [(zs.getD k 0, ys.getD k 0)]

theorem pairs_len (zs ys : List Int) : ∀ k, (pairs zs ys k).length = k
  | 0 => rfl
  | k + 1 => by simp [pairs, pairs_len zs ys k]

theorem Da_tidy (zs ys : List Int) : ∀ k, Tidy (Da zs ys k)
  | 0 => tidy_empty
  | k + 1 => (Da_tidy zs ys k).put (isKey _) _

theorem Da_has (zs ys : List Int) : ∀ k x, Maps.has (Da zs ys k) (.int .u64 x) = true → ∃ j, j < k ∧ zs.getD j 0 = x
  | 0, x, h => by simp [Da, Maps.has] at h
  | k + 1, x, h => by
    by_cases e : zs.getD k 0 = x
    · exact ⟨k, by omega, e⟩
    · unfold Da at h
      rw [has_put_other (key_ne (Ne.symm e))] at h
      obtain ⟨j, hj, hx⟩ := Da_has zs ys k x h
      exact ⟨j, by omega, hx⟩

theorem Da_size (zs ys : List Int) : ∀ k, Apart zs k → Maps.size (Da zs ys k) = k
  | 0, _ => rfl
  | k + 1, h => by
    unfold Da
    rw [size_put (Da_tidy zs ys k), Da_size zs ys k (fun i j a b => h i j a (by omega))]
    rw [if_neg]
    intro hh
    obtain ⟨j, hj, e⟩ := Da_has zs ys k _ hh
    exact h j k hj (by omega) e

theorem Asks.drew {w : World} {M : Nat} {v : Value} {l : List (Int × Int)} {D : DataW Unit} (h : Asks w M v l D) : Asks w.drew M v l D := h

set_option maxHeartbeats 1000000 in
theorem qlen_core (b0 off0 cap0 b1 off1 cap1 len : Nat) (zs ys : List Int) (w : World) (hl : len ≤ 65536) (hb0 : b0 < w.heap.size) (hb1 : b1 < w.heap.size)
    (hc0 : ∀ k, k < len → w.cell? ⟨b0, off0 + k, none⟩ = some (.int .u64 (zs.getD k 0))) (hw0 : ∀ k, k < len → (Lit.int .u64 (zs.getD k 0)).wf = true)
    (hc1 : ∀ k, k < len → w.cell? ⟨b1, off1 + k, none⟩ = some (.int .i64 (ys.getD k 0))) :
    Calls Try.prog 7 #[.slice (some ⟨b0, off0, none⟩) len cap0, .slice (some ⟨b1, off1, none⟩) len cap1] w fun e w' => e = .returned (.bool true) ∧ Below w.heap.size w w' := by
  go_enter Try.func7, Try.ntmps7
  go_wp2_with fail
  refine (bytes20 _ _ _ _ _ _ _ (by omega) (by omega)).mono ?_
  rintro e w' ⟨bb, rfl, rfl⟩
  cases bb with
  | false =>
    go_wp2
    go_ret
    exact ⟨rfl, Below.refl _ _⟩
  | true =>
    go_wp2_with fail
    refine (index_any b0 off0 len cap0 zs _ hl hb0 hc0 hw0).mono ?_
    rintro e w1 ⟨d, rfl, hbel, hd⟩
    cases d with
    | false =>
      clear hd
      go_wp2
      go_ret
      exact ⟨rfl, hbel⟩
    | true =>
      obtain ⟨hap, _⟩ := hd rfl
      clear hd
      go_wp2_with fail
      refine (new_any _).mono ?_
      rintro e w2 ⟨rfl, hA, hbel2⟩
      have hs1 := hbel.size
      have hbel3 : Below w'.heap.size w' w2 := hbel.trans (hbel2.mono hs1)
      have hs2 := hbel3.size
      obtain ⟨M, HM⟩ : ∃ M, Hid (M = w1.heap.size) := ⟨_, rfl⟩
      have hMs : w'.heap.size ≤ M := by rw [HM.out]; exact hs1
      rw [← HM.out]
      rw [← HM.out] at hA
      clear hbel hbel2 hs1
      go_wp2_with fail
      go_loopw [8] (fun i wr => ∃ (k : Nat) (v : Value) (l : List (Int × Int)), k ≤ len ∧ i = .int .i64 k ∧ l.Perm (pairs zs ys k) ∧ Heap l ∧ Asks wr M v l (Da zs ys k) ∧ Below w'.heap.size w' wr) (fun i _ => len - (intOf i).toNat)
      case atStart => exact ⟨0, _, _, Nat.zero_le _, rfl, List.Perm.refl _, heap_nil, hA, hbel3⟩
      case round =>
        obtain ⟨k, v, l, hk, rfl, hp, hh, hAk, hb⟩ := hrel
        have hlk : l.length = k := by rw [hp.length_eq, pairs_len]
        by_cases hlt : k < len
        · have x0 : wr.cell? ⟨b0, off0 + k, none⟩ = some (.int .u64 (zs.getD k 0)) := (hb.cell (p := ⟨b0, off0 + k, none⟩) hb0).trans (hc0 k hlt)
          have x1 : wr.cell? ⟨b1, off1 + k, none⟩ = some (.int .i64 (ys.getD k 0)) := (hb.cell (p := ⟨b1, off1 + k, none⟩) hb1).trans (hc1 k hlt)
          have hwz := hw0 k hlt
          obtain ⟨z, hz⟩ : ∃ z, z = zs.getD k 0 := ⟨_, rfl⟩
          obtain ⟨y, hy⟩ : ∃ y, y = ys.getD k 0 := ⟨_, rfl⟩
          rw [← hz] at x0 hwz
          rw [← hy] at x1
          have HZ : Hid (z = zs.getD k 0) := hz
          have HY : Hid (y = ys.getD k 0) := hy
          have HL : Hid (l.length = k) := hlk
          have hn9 : l.length ≤ 900000 := by omega
          have hnk : l.length < len := by omega
          clear hz hy hlk hc0 hc1 hw0 hA
          go_wp2_with fail
          go_region_with (go_at_call 13; refine (zzadd_any M v l _ z y _ hAk.drew hn9 hh hwz).mono ?_; rintro e w3 ⟨rfl, v', l', hp', hh', hA', hb'⟩)
          all_goals
            have hl3 : l'.length = k + 1 := by rw [hp'.length_eq, List.length_append, HL.out]; rfl
            have hA3 : Asks w3 M v' l' (Da zs ys (k + 1)) := by
              have := hA'
              rw [HZ.out, HY.out] at this
              exact this
            have hp3 : l'.Perm (pairs zs ys (k + 1)) := by
              have := hp'
              rw [HZ.out, HY.out] at this
              exact this.trans (hp.append_right _)
            have hb3 : Below w'.heap.size w' w3 := hb.drew.trans (hb'.mono hMs)
            have hcq := qlen_any M v' l' _ w3 hA3 (by omega)
            have hcc := count_any M v' l' _ w3 hA3
            rw [hl3] at hcq
            rw [Da_size zs ys (k + 1) (fun i j a b => hap i j a (by omega))] at hcc
            clear hA' hp' hb' hAk hp hb hl3
            go_wp2_with fail
            refine hcq.mono ?_
            rintro e w4 ⟨rfl, rfl⟩
            go_wp2_with fail
            refine hcc.mono ?_
            rintro e w5 ⟨rfl, rfl⟩
            clear hcq hcc
            go_wp2_with fail
            go_roundw
            case rel => exact ⟨k + 1, v', l', by omega, by go_num, hp3, hh', hA3, hb3⟩
            case measure => simp [intOf]; omega
        · go_wp2
          go_ret
          exact ⟨rfl, hb⟩

set_option maxHeartbeats 1000000 in
theorem qlen_zero (a0 a1 : Option Addr) (cap0 cap1 : Nat) (w : World) :
    Calls Try.prog 7 #[.slice a0 0 cap0, .slice a1 0 cap1] w fun e w' => e = .returned (.bool true) ∧ Below w.heap.size w w' := by
  go_enter Try.func7, Try.ntmps7
  go_wp2_with fail
  refine (bytes20 _ _ _ _ _ _ _ (by omega) (by omega)).mono ?_
  rintro e w' ⟨bb, rfl, rfl⟩
  cases bb with
  | false =>
    go_wp2
    go_ret
    exact ⟨rfl, Below.refl _ _⟩
  | true =>
    go_wp2_with fail
    refine (index_none a0 cap0 _).mono ?_
    rintro e w1 ⟨rfl, hbel⟩
    go_wp2_with fail
    refine (new_any _).mono ?_
    rintro e w2 ⟨rfl, hA, hbel2⟩
    have hbel3 : Below w'.heap.size w' w2 := hbel.trans (hbel2.mono hbel.size)
    clear hbel hbel2 hA
    go_wp2_with fail
    go_loopw [8] (fun i wr => i = .int .i64 0 ∧ Below w'.heap.size w' wr) (fun _ _ => 0)
    case atStart => exact ⟨rfl, hbel3⟩
    case round =>
      obtain ⟨rfl, hb⟩ := hrel
      go_wp2
      go_ret
      exact ⟨rfl, hb⟩

set_option maxHeartbeats 1000000 in
theorem qlen_out (a0 a1 : Option Addr) (len0 cap0 len1 cap1 : Nat) (w : World) (h0 : len0 ≤ 9223372036854775807) (h1 : len1 ≤ 9223372036854775807) (h : 65536 < len0 ∨ 65536 < len1 ∨ len0 ≠ len1) :
    Calls Try.prog 7 #[.slice a0 len0 cap0, .slice a1 len1 cap1] w fun e w' => e = .returned (.bool true) ∧ Below w.heap.size w w' := by
  by_cases g0 : 65536 < len0
  · go_enter Try.func7, Try.ntmps7
    go_wp2_with fail
    refine (bytes20 _ _ _ _ _ _ _ (by omega) (by omega)).mono ?_
    rintro e w' ⟨bb, rfl, rfl⟩
    cases bb
    all_goals
      go_wp2
      go_ret
      exact ⟨rfl, Below.refl _ _⟩
  by_cases g1 : 65536 < len1
  · go_enter Try.func7, Try.ntmps7
    go_wp2_with fail
    refine (bytes20 _ _ _ _ _ _ _ (by omega) (by omega)).mono ?_
    rintro e w' ⟨bb, rfl, rfl⟩
    cases bb
    all_goals
      go_wp2
      go_ret
      exact ⟨rfl, Below.refl _ _⟩
  have g2 : ((len0 : Int) != (len1 : Int)) = true := by simp; omega
  clear h
  go_enter Try.func7, Try.ntmps7
  go_wp2_with fail
  refine (bytes20 _ _ _ _ _ _ _ (by omega) (by omega)).mono ?_
  rintro e w' ⟨bb, rfl, rfl⟩
  cases bb
  all_goals
    go_wp2
    go_ret
    exact ⟨rfl, Below.refl _ _⟩
end Go.Proofs.Qxb6616760a
