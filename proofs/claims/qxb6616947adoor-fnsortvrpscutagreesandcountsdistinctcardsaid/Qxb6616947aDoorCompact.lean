/-
  The contract of slices.Compact at VRPs.
-/
import Derived.Test.Qxb6616947aDoorRow
import Derived.Deep.LoopGhost
namespace Go.Proofs.Qxb6616947aDoor
open Go.RowKit Go.Sort Go.Shelf Go.Lib Plain
set_option linter.unusedVariables false
variable [DecidableEq V]
attribute [local go_sem ↓] eqV_fold

set_option maxHeartbeats 4000000 in
set_option maxRecDepth 100000 in
/-- slices.Compact at VRPs -/
theorem compact_any (b4 o4 b6 o6 blk off cap : Nat) (d : Array V) (w : World) (hG : Gl w b4 o4 b6 o6) (h0 : 2 < blk) (h4 : b4 ≠ blk) (h6 : b6 ≠ blk) (hH : HoldsK (enc b4 o4 b6 o6) 7 w blk off d) (hblk : blk < w.heap.size) (hsz : d.size < 4611686018427387904) (hcap : d.size ≤ cap) :
    Calls Tryd.prog 23 #[.slice (some ⟨blk, off, none⟩) d.size cap] w fun e w' => e = .returned (.slice (some ⟨blk, off, none⟩) (compactUpTo d d.size).length cap) ∧ HoldsK (enc b4 o4 b6 o6) 7 w' blk off (compactUpTo d d.size).toArray ∧ GX blk w w' := by
  have HS : Hid (∀ w', HoldsK (enc b4 o4 b6 o6) 7 w' blk off d → (∀ j, j < d.size → keeps d j = true) → (compactUpTo d d.size).length = d.size ∧ HoldsK (enc b4 o4 b6 o6) 7 w' blk off (compactUpTo d d.size).toArray) := by
    intro w' hw hall
    have e : compactUpTo d d.size = d.toList := by rw [compactUpTo_all d _ hall, range_map_get]
    rw [e]
    exact ⟨by simp, by simpa using hw⟩
  have HGL : Hid (∀ w', GX blk w w' → Gl w' b4 o4 b6 o6) := fun w' h => hG.gx h h0 h4 h6
  clear hG h0 h4 h6
  have hgd : ∀ (op : BinOp) (x y : Operand) (xs ys : Array Value) (W : World), (eqGuard op 41 x y (.agg xs) (.agg ys)).run Tryd.prog W = .ok () W := eqGuard41
  by_cases h2 : d.size < 2
  · have HH : Hid (HoldsK (enc b4 o4 b6 o6) 7 w blk off d) := hH
    clear hH
    go_enter Tryd.func23, Tryd.ntmps23
    go_wp2
    go_ret
    obtain ⟨e1, e2⟩ := HS.out w HH.out (fun j hj => keeps_lt_one d j (by omega))
    exact ⟨by rw [e1]; rfl, e2, GX.refl _ _⟩
  · have HH : Hid (HoldsK (enc b4 o4 b6 o6) 7 w blk off d) := hH
    clear hH
    go_enter Tryd.func23, Tryd.ntmps23
    go_wp2
    go_loopg [3] d.size (fun g s3 wr => ∃ k : Nat, 1 ≤ k ∧ k ≤ d.size ∧ d.size - k ≤ g ∧ s3 = .int .i64 k ∧ (GX blk w wr ∧ HoldsK (enc b4 o4 b6 o6) 7 wr blk off d ∧ ∀ j, j < k → keeps d j = true))
    case atStart => exact ⟨1, Nat.le_refl _, by omega, by omega, rfl, GX.refl _ _, HH.out, keeps_lt_one d⟩
    case round =>
      obtain ⟨k, hk1, hk, hg, rfl, hR⟩ := hrel
      have A : Hid (GX blk w wr ∧ HoldsK (enc b4 o4 b6 o6) 7 wr blk off d ∧ ∀ j, j < k → keeps d j = true) := hR
      clear hR
      by_cases hlt : k < d.size
      · obtain ⟨c0, c1, c2, c3, c4, c5, c6, E1, ⟨r0, r1, r2, r3, r4, r5, r6⟩, _⟩ := cells7 A.out.2.1 hlt
        obtain ⟨p0, p1, p2, p3, p4, p5, p6, E2, ⟨q0, q1, q2, q3, q4, q5, q6⟩, _⟩ := cells7 A.out.2.1 (show k - 1 < d.size by omega)
        have hE : ∀ W, GX blk w W → EqVP Tryd.prog W #[c0, c1, c2, c3, c4, c5, c6] #[p0, p1, p2, p3, p4, p5, p6] = .ok (decide (d[k]! = d[k - 1]!)) W := by
          intro W hW
          rw [show (decide (d[k]! = d[k - 1]!)) = @decide (d[k]! = d[k - 1]!) (instDecidableEqProd d[k]! d[k - 1]!) from by congr]
          have := eqV d[k]! d[k - 1]! W b4 o4 b6 o6 (HGL.out W hW)
          rw [E1, E2] at this
          exact this
        have e1 := hE wr.drew (A.out.1.trans (GB.refl wr).drew.gx)
        clear hE E1 E2
        have hwk := wrap_pred hk1 (show k < 9223372036854775808 by omega)
        have hk0 : k - 1 < d.size := by omega
        by_cases hdup : d[k]! = d[k - 1]!
        · simp only [hdup, decide_true] at e1
          have HD : Hid (d[k]! = d[k - 1]!) := hdup
          clear hdup
          go_wp2_with fail
          go_region
          go_wp2
          go_loopg [3, 5] d.size (fun g s3 s5 wr2 => ∃ (kk k2 : Nat) (dk : Array V), s3 = .int .i64 kk ∧ s5 = .int .i64 k2 ∧ 1 ≤ k2 ∧ k + k2 ≤ d.size ∧ d.size - (k + k2) ≤ g ∧ (GX blk w wr2 ∧ HoldsK (enc b4 o4 b6 o6) 7 wr2 blk off dk) ∧ CompInv d (k + k2) kk dk)
          case atStart => exact ⟨k, 1, d, rfl, rfl, Nat.le_refl _, by omega, by omega, ⟨A.out.1.trans (GB.refl wr).drew.gx, A.out.2.1⟩, CompInv.start A.out.2.2 (keeps_neg (by omega) HD.out)⟩
          case round =>
            clear r0 r1 r2 r3 r4 r5 r6 q0 q1 q2 q3 q4 q5 q6 e1
            obtain ⟨kk, k2, dk, rfl, rfl, h1, hle, hg2, hW2, hI⟩ := hrel
            have B : Hid (GX blk w wr ∧ HoldsK (enc b4 o4 b6 o6) 7 wr blk off dk) := hW2
            clear hW2
            have hkk := hI.lt
            have hds := hI.size
            have I2 : Hid (CompInv d (k + k2) kk dk) := hI
            clear hI
            by_cases hlt2 : k + k2 < d.size
            · obtain ⟨c0, c1, c2, c3, c4, c5, c6, E1, ⟨r0, r1, r2, r3, r4, r5, r6⟩, _⟩ := cells7' B.out.2 (show k + k2 < dk.size by omega) (show off + k * 7 + k2 * 7 = off + (k + k2) * 7 by omega)
              obtain ⟨p0, p1, p2, p3, p4, p5, p6, E2, ⟨q0, q1, q2, q3, q4, q5, q6⟩, _⟩ := cells7' B.out.2 (show k + k2 - 1 < dk.size by omega) (show off + k * 7 + (k2 - 1) * 7 = off + (k + k2 - 1) * 7 by omega)
              obtain ⟨z0, z1, z2, z3, z4, z5, z6, _, ⟨s0, s1, s2, s3, s4, s5, s6⟩, ⟨f0, f1, f2, f3, f4, f5, f6⟩⟩ := cells7 B.out.2 (show kk < dk.size by omega)
              rw [I2.out.high (k + k2) (by omega)] at E1
              rw [I2.out.high (k + k2 - 1) (by omega)] at E2
              have hE : ∀ W, GX blk w W → EqVP Tryd.prog W #[c0, c1, c2, c3, c4, c5, c6] #[p0, p1, p2, p3, p4, p5, p6] = .ok (decide (d[k + k2]! = d[k + k2 - 1]!)) W := by
                intro W hW
                rw [show (decide (d[k + k2]! = d[k + k2 - 1]!)) = @decide (d[k + k2]! = d[k + k2 - 1]!) (instDecidableEqProd d[k + k2]! d[k + k2 - 1]!) from by congr]
                have := eqV d[k + k2]! d[k + k2 - 1]! W b4 o4 b6 o6 (HGL.out W hW)
                rw [E1, E2] at this
                exact this
              have e1 := hE wr.drew (B.out.1.trans (GB.refl wr).drew.gx)
              have EE : Hid (enc b4 o4 b6 o6 d[k + k2]! = [c0, c1, c2, c3, c4, c5, c6]) := E1
              clear hE E1 E2
              have hwk2 := wrap_pred h1 (show k2 < 9223372036854775808 by omega)
              have hk20 : k2 - 1 < d.size - k := by omega
              have hk2 : k2 < d.size - k := by omega
              have hkd : kk < d.size := by omega
              by_cases huv : d[k + k2]! = d[k + k2 - 1]!
              · simp only [huv, decide_true] at e1
                go_wp2_with fail
                go_region
                go_wp2
                go_roundg (d.size - (k + (k2 + 1)))
                case measure => omega
                case rel => exact ⟨kk, k2 + 1, dk, rfl, by go_num, by omega, by omega, Nat.le_refl _, ⟨B.out.1.trans (GB.refl wr).drew.gx, B.out.2⟩, I2.out.skip (keeps_neg (by omega) huv)⟩
              · simp only [huv, decide_false] at e1
                obtain ⟨a, hh, l, z, b, m, t, rfl, rfl, rfl, rfl, rfl, rfl, rfl⟩ := enc_forms EE.out
                go_wp2_with fail
                go_region
                go_wp2
                go_roundg (d.size - (k + (k2 + 1)))
                case measure => omega
                case rel =>
                  refine ⟨kk + 1, k2 + 1, dk.setIfInBounds kk d[k + k2]!, by go_num, by go_num, by omega, by omega, Nat.le_refl _, ⟨?_, ?_⟩, I2.out.keep hlt2 (keeps_pos huv)⟩
                  · have := gx_drew (B.out.1.trans (gx_setCells blk (off + kk * 7) [.int .u32 a, .int .u64 hh, .int .u64 l, .pointer z, .int .u8 b, .int .i64 m, .string t] wr))
                    rw [setCells7] at this
                    exact this
                  · have := holds_set B.out.2 (show kk < dk.size by omega) d[k + k2]!
                    rw [EE.out, setCells7] at this
                    exact holdsK_drew this
            · have hend : k + k2 = d.size := by omega
              have hkd : kk < d.size := by omega
              obtain ⟨vs, hcl⟩ := run_clear7 wr blk (off + kk * 7) (d.size - kk) (cap - kk) (by omega) (fun j hj => by
                have := B.out.2 (kk * 7 + j) (by rw [size_flatK]; omega)
                rw [show off + kk * 7 + j = off + (kk * 7 + j) by omega, this.1]; rfl) (fun j hj => by
                have := B.out.2 (kk * 7 + j) (by rw [size_flatK]; omega)
                rw [show off + kk * 7 + j = off + (kk * 7 + j) by omega]; exact this.2)
              have hno : ¬ k2 < d.size - k := by omega
              have hkc : kk ≤ cap := by omega
              go_wp2
              go_ret
              have hI := I2.out
              rw [hend] at hI
              refine ⟨by rw [hI.len]; rfl, ?_, B.out.1.trans (gx_setCells _ _ _ _)⟩
              refine holdsK_of (by omega) (fun i c hi hc => ?_)
              rw [List.size_toArray, hI.len] at hi
              have hlow := hI.low i hi
              have e : (compactUpTo d d.size).toArray[i]! = dk[i]! := by
                rw [List.getElem!_toArray, List.getElem!_eq_getElem?_getD, hlow]
                rfl
              rw [e, World.frozen?_setCells, World.cell?_setCells_out blk _ _ wr _ (fun _ _ => by dsimp only; omega)]
              exact B.out.2.cell (by omega) hc
        · simp only [hdup, decide_false] at e1
          go_wp2_with fail
          go_region
          go_wp2
          go_roundg (d.size - (k + 1))
          case measure => omega
          case rel =>
            refine ⟨k + 1, by omega, by omega, Nat.le_refl _, by go_num, A.out.1.trans (GB.refl wr).drew.gx, A.out.2.1, fun j hj => ?_⟩
            by_cases e : j = k
            · subst e
              exact keeps_pos hdup
            · exact A.out.2.2 j (by omega)
      · have : k = d.size := by omega
        subst this
        go_wp2
        go_ret
        obtain ⟨e1, e2⟩ := HS.out wr A.out.2.1 A.out.2.2
        exact ⟨by rw [e1]; rfl, e2, A.out.1⟩
end Go.Proofs.Qxb6616947aDoor
