/-
  The walk of FnAsksAddKeepsEveryAskInHeapOrder.
-/
import Derived.Test.Qxb6616760aOrder
namespace Go.Proofs.Qxb6616760a
open Go.RowKit Plain Go.Maps
set_option linter.unusedVariables false

set_option maxRecDepth 20000 in
set_option maxHeartbeats 4000000 in
theorem order_core (b0 off0 cap0 b1 off1 cap1 len : Nat) (zs ys : List Int) (w : World) (hl : len ≤ 65536) (hpos : 0 < len) (hb0 : b0 < w.heap.size) (hb1 : b1 < w.heap.size)
    (hc0 : ∀ k, k < len → w.cell? ⟨b0, off0 + k, none⟩ = some (.int .u64 (zs.getD k 0))) (hw0 : ∀ k, k < len → (Lit.int .u64 (zs.getD k 0)).wf = true)
    (hc1 : ∀ k, k < len → w.cell? ⟨b1, off1 + k, none⟩ = some (.int .i64 (ys.getD k 0))) :
    Calls Try.prog 5 #[.slice (some ⟨b0, off0, none⟩) len cap0, .slice (some ⟨b1, off1, none⟩) len cap1] w fun e w' => e = .returned (.bool true) ∧ Below w.heap.size w w' := by
  go_enter Try.func5, Try.ntmps5
  go_wp2_with fail
  refine (bytes10 _ _ _ _ _ _ _ (by omega) (by omega)).mono ?_
  rintro e w' ⟨bb, rfl, rfl⟩
  cases bb with
  | false =>
    go_wp2
    go_ret
    exact ⟨rfl, Below.refl _ _⟩
  | true =>
    go_wp2_with fail
    refine (index_any b0 off0 len cap0 zs _ hl hb0 hc0 hw0).mono ?_
    rintro e w1 ⟨d, rfl, hbel, hd⟩
    cases d with
    | false =>
      clear hd
      go_wp2
      go_ret
      exact ⟨rfl, hbel⟩
    | true =>
      obtain ⟨hap, hidx⟩ := hd rfl
      clear hd
      go_wp2_with fail
      refine (new_any _).mono ?_
      rintro e w2 ⟨rfl, hA, hbel2⟩
      have hs1 := hbel.size
      have hil := hidx.lt
      obtain ⟨M, HM⟩ : ∃ M, Hid (M = w1.heap.size) := ⟨_, rfl⟩
      have hMs : w'.heap.size < M := by rw [HM.out]; exact hil
      rw [← HM.out]
      rw [← HM.out] at hA hbel2
      go_wp2_with fail
      go_loopw [8] (fun i wr => ∃ (k : Nat) (v : Value) (l : List (Int × Int)), k ≤ len ∧ i = .int .i64 k ∧ l.Perm (pairs zs ys k) ∧ Heap l ∧ Asks wr M v l (Da zs ys k) ∧ Below M w1 wr) (fun i _ => len - (intOf i).toNat)
      case atStart => exact ⟨0, _, _, Nat.zero_le _, rfl, List.Perm.refl _, heap_nil, hA, hbel2⟩
      case round =>
        obtain ⟨k, v, l, hk, rfl, hp, hh, hAk, hb⟩ := hrel
        have hlk : l.length = k := by rw [hp.length_eq, pairs_len]
        have hbw : Below w'.heap.size w' wr := hbel.trans (hb.mono (by omega))
        by_cases hlt : k < len
        · have x0 : wr.cell? ⟨b0, off0 + k, none⟩ = some (.int .u64 (zs.getD k 0)) := (hbw.cell (p := ⟨b0, off0 + k, none⟩) hb0).trans (hc0 k hlt)
          have x1 : wr.cell? ⟨b1, off1 + k, none⟩ = some (.int .i64 (ys.getD k 0)) := (hbw.cell (p := ⟨b1, off1 + k, none⟩) hb1).trans (hc1 k hlt)
          have hwz := hw0 k hlt
          obtain ⟨z, hz⟩ : ∃ z, z = zs.getD k 0 := ⟨_, rfl⟩
          obtain ⟨y, hy⟩ : ∃ y, y = ys.getD k 0 := ⟨_, rfl⟩
          rw [← hz] at x0 hwz
          rw [← hy] at x1
          have HZ : Hid (z = zs.getD k 0) := hz
          have HY : Hid (y = ys.getD k 0) := hy
          have HL : Hid (l.length = k) := hlk
          have hn9 : l.length ≤ 900000 := by omega
          have hnk : l.length < len := by omega
          clear hz hy hlk hc0 hc1 hw0 hA
          go_wp2_with fail
          go_region_with (go_at_call 13; refine (zzadd_any M v l _ z y _ hAk.drew hn9 hh hwz).mono ?_; rintro e w3 ⟨rfl, v', l', hp', hh', hA', hb'⟩)
          all_goals
            have hA3 : Asks w3 M v' l' (Da zs ys (k + 1)) := by
              have := hA'
              rw [HZ.out, HY.out] at this
              exact this
            have hp3 : l'.Perm (pairs zs ys (k + 1)) := by
              have := hp'
              rw [HZ.out, HY.out] at this
              exact this.trans (hp.append_right _)
            have hb3 : Below M w1 w3 := hb.drew.trans hb'
            clear hA' hp' hb' hAk hp hb
            go_wp2_with fail
            go_roundw
            case rel => exact ⟨k + 1, v', l', by omega, by go_num, hp3, hh', hA3, hb3⟩
            case measure => simp [intOf]; omega
        · have ek : k = len := by omega
          subst ek
          have hcc := count_any M v l _ wr hAk
          rw [Da_size zs ys k hap] at hcc
          obtain ⟨u, hu⟩ : ∃ u, u = wr := ⟨_, rfl⟩
          rw [← hu] at hcc hAk hb hbw ⊢
          have hidx2 := ownsMap_below hidx (hb.mono (Nat.le_refl _)) hMs
          clear hu hidx hbel2 hbel hA hb
          go_wp2_with fail
          refine hcc.mono ?_
          rintro e w4 ⟨rfl, rfl⟩
          clear hcc
          go_wp2_with fail
          have hsz4 : w'.heap.size ≤ w4.heap.size := hbw.size
          go_loopw [9] (fun i wr => ∃ i2 : Nat, i2 ≤ k ∧ i = .int .i64 i2 ∧ Below w4.heap.size w4 wr) (fun i _ => k - (intOf i).toNat)
          case atStart => exact ⟨0, Nat.zero_le _, rfl, Below.refl _ _⟩
          case round =>
            obtain ⟨i2, hi2, rfl, hb2⟩ := hrel
            have hbw2 : Below w'.heap.size w' wr := hbw.trans (hb2.mono hsz4)
            by_cases hlt2 : i2 < k
            · have x0 : wr.cell? ⟨b0, off0 + i2, none⟩ = some (.int .u64 (zs.getD i2 0)) := (hbw2.cell (p := ⟨b0, off0 + i2, none⟩) hb0).trans (hc0 i2 hlt2)
              have hat := at_any M v l _ (zs.getD i2 0) (ys.getD i2 0) wr (hAk.below hb2) (hw0 i2 hlt2) (Da_of zs ys k i2 hlt2) (fun z => Da_at zs ys z k i2 hap hlt2)
              have x21 : ∀ w3 : World, Below w'.heap.size w' w3 → w3.cell? ⟨b1, off1 + i2, none⟩ = some (.int .i64 (ys.getD i2 0)) := fun w3 h => (h.cell (p := ⟨b1, off1 + i2, none⟩) hb1).trans (hc1 i2 hlt2)
              obtain ⟨z, hz⟩ : ∃ z, z = zs.getD i2 0 := ⟨_, rfl⟩
              obtain ⟨y, hy⟩ : ∃ y, y = ys.getD i2 0 := ⟨_, rfl⟩
              rw [← hz] at x0 hat
              rw [← hy] at x21 hat
              have X21 : Hid (∀ w3 : World, Below w'.heap.size w' w3 → w3.cell? ⟨b1, off1 + i2, none⟩ = some (.int .i64 y)) := x21
              clear hz hy hc0 hc1 hw0 x21
              go_wp2_with fail
              refine hat.mono ?_
              rintro e w5 ⟨rfl, hb5⟩
              have hb6 : Below w4.heap.size w4 w5 := hb2.trans (hb5.mono hb2.size)
              have y1 := X21.out w5 (hbw.trans (hb6.mono hsz4))
              clear hat x0 hb2 hb5 hbw2
              go_wp2_with fail
              go_roundw
              case rel => exact ⟨i2 + 1, by omega, by go_num, hb6⟩
              case measure => simp [intOf]; omega
            · have hqq := queue_any M v l _ wr (hAk.below hb2) (by omega) (by omega)
              rw [hlk] at hqq
              have ei : i2 = k := by omega
              have hbI : Below M w4 wr := hb2.mono (by have := hAk.2.2.2; omega)
              have hidx3 := ownsMap_below hidx2 hbI hMs
              clear hAk hidx2 hbI hb2
              go_wp2_with fail
              refine hqq.mono ?_
              rintro e w5 ⟨G1, G2, G3, G4, rfl, hr4, hb5⟩
              have hbw5 : Below w'.heap.size w' w5 := hbw2.trans (hb5.mono hbw2.size)
              have hidx5 : w5.ownsMap Try.prog 34 (plainElem Try.prog 3) w'.heap.size k (Dx zs k) := ownsMap_below hidx3 hb5 hidx3.lt
              clear hqq hidx3 hb5 hbw2 ei hlt2 hi2
              go_wp2_with (at_make; refine wpList_make_row _ rfl _ _ 38 rfl 4 _ 1 Try.underlying38 info4 rfl k rfl rfl (by decide) (by omega) ?_; intro w6 f6 gr6 s6)
              obtain ⟨G5, e5⟩ : ∃ G, Hid (G = w5.heap.size) := ⟨_, rfl⟩
              rw [← e5.out]
              rw [← e5.out] at f6 s6
              have l1 : G1 < G5 := by rw [e5.out]; exact hr4.1.lt
              have l2 : G2 < G5 := by rw [e5.out]; exact hr4.2.1.lt
              have l3 : G3 < G5 := by rw [e5.out]; exact hr4.2.2.1.lt
              have l4 : G4 < G5 := by rw [e5.out]; exact hr4.2.2.2.lt
              have hb56 : Below G5 w5 w6 := by rw [e5.out]; exact (Below.refl _ _).grown gr6 (Nat.le_refl _) (fun k h => by cases h)
              have l0 : w'.heap.size < G5 := by rw [e5.out]; exact hidx5.lt
              have hbw6 : Below w'.heap.size w' w6 := hbw5.trans (hb56.mono (by omega))
              have hidx6 := ownsMap_below hidx5 hb56 l0
              have k1 := hr4.1.of_block (hb56.block _ l1)
              have k2 := hr4.2.1.of_block (hb56.block _ l2)
              have k3 := hr4.2.2.1.of_block (hb56.block _ l3)
              have k4 := hr4.2.2.2.of_block (hb56.block _ l4)
              have hdis := perm_apart hp hap
              clear hr4 gr6 s6 hb56 hbw5 hidx5 e5 hbw
              have c1 : ¬ G1 = G5 := by omega
              have c2 : ¬ G2 = G5 := by omega
              have c3 : ¬ G3 = G5 := by omega
              have c4 : ¬ G4 = G5 := by omega
              have c5 : ¬ b1 = G5 := by omega
              go_loopw [19] (fun j wr => ∃ j3 : Nat, j3 ≤ k ∧ j = .int .i64 j3 ∧ Full wr G5 4 k (fun i => .bool (uB zs l j3 i)) ∧ Below G5 w6 wr) (fun j _ => k - (intOf j).toNat)
              case atStart => exact ⟨0, Nat.zero_le _, rfl, f6.congr (fun i _ => by rw [uB_zero]), Below.refl _ _⟩
              case round =>
                obtain ⟨j3, hj3, rfl, hfu, hb7⟩ := hrel
                have hbw7 : Below w'.heap.size w' wr := hbw6.trans (hb7.mono (by omega))
                by_cases hlt3 : j3 < k
                · have hidx7 := ownsMap_below hidx6 hb7 l0
                  have m1 := k1.of_block (hb7.block _ l1)
                  have m2 := k2.of_block (hb7.block _ l2)
                  have m3 := k3.of_block (hb7.block _ l3)
                  have m4 := k4.of_block (hb7.block _ l4)
                  obtain ⟨i, hi, ep⟩ := pairs_mem zs ys k (at' l j3) (hp.mem_iff.1 (at_mem (by omega)))
                  have q1 := m1.cell hlt3
                  have q2 := m2.cell hlt3
                  have q3 := m3.cell hlt3
                  have q4 := m4.cell hlt3
                  simp only [if_pos hlt3] at q1 q2
                  rw [ep] at q1 q2
                  have t1 : wr.cell? ⟨b1, off1 + i, none⟩ = some (.int .i64 (ys.getD i 0)) := (hbw7.cell (p := ⟨b1, off1 + i, none⟩) hb1).trans (hc1 i hi)
                  have us := hfu.cell hi
                  have ep1 : (at' l j3).1 = zs.getD i 0 := by rw [ep]
                  rw [uB_new hdis (by omega) ep1] at us
                  have fz := hfu.frozen i
                  have hwz := hw0 i hi
                  have hhs := Dx_of zs k i hi
                  have hat := fun z => Dx_at zs z k i hap hi
                  have hfu' : ∀ W : World, W.heap = (wr.setCell ⟨G5, i, none⟩ (.bool true)).heap → Full W G5 4 k (fun j => .bool (uB zs l (j3 + 1) j)) := fun W hW =>
                    ((hfu.set hi (.bool true)).congr (uB_step hap hi ep1)).of_block (by rw [hW])
                  have hb8 : ∀ W : World, W.heap = (wr.setCell ⟨G5, i, none⟩ (.bool true)).heap → W.os = wr.os → W.tape = wr.tape → W.output = wr.output → Below G5 w6 W := fun W h1 h2 h3 h4 => by
                    have := hb7.setCell (p := ⟨G5, i, none⟩) (Nat.le_refl _) (.bool true)
                    exact ⟨h2.trans hb7.os, h3.trans hb7.tape, h4.trans hb7.output, by rw [h1]; exact this.size, fun x hx => by rw [h1]; exact this.block x hx⟩
                  have hpar : 0 < j3 → ∃ (pp : Nat) (pa pb : Int), Hid (((j3 : Int) - 1) / 2 = (pp : Int)) ∧ pp < k ∧ wr.cell? ⟨G1, pp, none⟩ = some (.int .u64 pa) ∧ wr.cell? ⟨G2, pp, none⟩ = some (.int .i64 pb) ∧ leB (pa, pb) (zs.getD i 0, ys.getD i 0) = true := fun hj => by
                    have hpk : (j3 - 1) / 2 < k := by omega
                    have r1 := m1.cell hpk
                    have r2 := m2.cell hpk
                    simp only [if_pos hpk] at r1 r2
                    refine ⟨(j3 - 1) / 2, _, _, by show _ = _; omega, hpk, r1, r2, ?_⟩
                    have := hh j3 hj (by omega)
                    rw [ep] at this
                    unfold leB
                    exact decide_eq_true this
                  obtain ⟨z, hz⟩ : ∃ z, z = zs.getD i 0 := ⟨_, rfl⟩
                  obtain ⟨y, hy⟩ : ∃ y, y = ys.getD i 0 := ⟨_, rfl⟩
                  rw [← hz] at q1 hwz hhs hat hpar
                  rw [← hy] at q2 t1 hpar
                  have HAT : Hid (∀ z_1, (Dx zs k).atKey (.int .u64 z) z_1 = .lit (.int .i64 (i : Int))) := hat
                  clear hz hy hat ep ep1 hc0 hc1 hw0 m1 m2 m3 m4 k1 k2 k3 k4 hfu hb7 hbw7 hdis f6
                  by_cases hj0 : 0 < j3
                  · obtain ⟨pp, pa, pb, HP, hpk, r1, r2, hle⟩ := hpar hj0
                    clear hpar
                    go_wp2_with (at_lookup; refine wpList_lookup_idx _ rfl _ _ rfl w'.heap.size k _ rfl hidx7 z i rfl hwz hhs HAT.out ?_)
                    go_quiet (fail)
                    go_wp2_with fail
                    rw [HP.out]
                    go_quiet ((go_at_call 17; exact Calls.quiet_of_same (pairLE_any _ _ _ _ _)))
                    go_wp2_with fail
                    go_roundw
                    case rel => exact ⟨j3 + 1, by omega, by go_num, hfu' _ rfl, hb8 _ rfl rfl rfl rfl⟩
                    case measure => simp [intOf]; omega
                  · clear hpar
                    go_wp2_with (at_lookup; refine wpList_lookup_idx _ rfl _ _ rfl w'.heap.size k _ rfl hidx7 z i rfl hwz hhs HAT.out ?_)
                    go_quiet (fail)
                    go_wp2_with fail
                    go_roundw
                    case rel => exact ⟨j3 + 1, by omega, by go_num, hfu' _ rfl, hb8 _ rfl rfl rfl rfl⟩
                    case measure => simp [intOf]; omega
                · go_wp2
                  go_ret
                  exact ⟨rfl, hbw7⟩
end Go.Proofs.Qxb6616760a
