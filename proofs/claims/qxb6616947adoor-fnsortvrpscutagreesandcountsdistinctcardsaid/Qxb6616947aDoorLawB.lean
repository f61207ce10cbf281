/-
  The walk of FnSortVRPsCutAgreesAndCountsDistinct.
-/
import Derived.Test.Qxb6616947aDoorBrow
namespace Go.Proofs.Qxb6616947aDoor
open Go.RowKit Go.Sort Go.Shelf Plain
set_option linter.unusedVariables false

/-- the joined row sorted is the whole sorted -/
theorem again (b4 o4 b6 o6 m bJ : Nat) (zs : Array Zv) (hm : m ≤ zs.size) (W L R : List V) (v7 x2 : World) (hG : Gl v7 b4 o4 b6 o6) (hb : bJ = v7.heap.size) (aW : Asc W) (mW : ∀ x, x ∈ W ↔ x ∈ (zs.map im).toList) (mL : ∀ x, x ∈ L ↔ x ∈ ((zs.extract 0 m).map im).toList) (mR : ∀ x, x ∈ R ↔ x ∈ ((zs.extract m zs.size).map im).toList) (hl : L.length + R.length ≤ 8192)
    (hJ : HoldsK (enc b4 o4 b6 o6) 7 x2 v7.heap.size 0 (L ++ R).toArray ∧ v7.heap.size < x2.heap.size ∧ GB v7 x2) :
    Calls Tryd.prog 9 #[.slice (some ⟨bJ, 0, none⟩) (L.length + R.length) (L.length + R.length)] x2 fun e w' => e = .returned (.slice (some ⟨bJ, 0, none⟩) W.length (L.length + R.length)) ∧ Hid (HoldsK (enc b4 o4 b6 o6) 7 w' bJ 0 W.toArray ∧ bJ < w'.heap.size ∧ GB v7 w') := by
  subst hb
  obtain ⟨h1, h2, h3⟩ := hJ
  have l4 := hG.lt4
  have l6 := hG.lt6
  have s2 := hG.s2
  have hS := sv9_any b4 o4 b6 o6 v7.heap.size 0 (L.length + R.length) (L ++ R).toArray x2 (hG.gb h3) (by omega) (by omega) (by omega) h1 h2 (by simp; omega) (by simp)
  have e : (L ++ R).toArray.size = L.length + R.length := by simp
  rw [e] at hS
  refine hS.mono ?_
  rintro e w2 ⟨A, a1, a2, a3, rfl, a5, a6⟩
  have hA : A = W := asc_unique A W a1 aW (fun x => by
    rw [a2, mW, mem_cut zs m hm, ← mL, ← mR]
    simp)
  subst hA
  exact ⟨rfl, a5, Nat.lt_of_lt_of_le h2 a6.size, GX.gb h3 a6 (Nat.le_refl _)⟩

/-- what stands behind the two sorts -/
structure EnvB (b4 o4 b6 o6 B bw ba : Nat) (p : Option Addr) (zs : Array Zv) (W : List V) (w : World) : Prop where
  gl : Gl w b4 o4 b6 o6
  vz : VZ w B p zs
  wh : HoldsK (enc b4 o4 b6 o6) 7 w bw 0 W.toArray
  ag : HoldsK (enc b4 o4 b6 o6) 7 w ba 0 W.toArray
  lB : B ≤ w.heap.size
  lw : bw < w.heap.size
  la : ba < w.heap.size

theorem EnvB.gb {b4 o4 b6 o6 B bw ba : Nat} {p : Option Addr} {zs : Array Zv} {W : List V} {w w' : World} (h : EnvB b4 o4 b6 o6 B bw ba p zs W w) (hx : GB w w') : EnvB b4 o4 b6 o6 B bw ba p zs W w' where
  gl := h.gl.gb hx
  vz := h.vz.mono (fun k hk => hx.1.block k (Nat.lt_of_lt_of_le hk h.lB))
  wh := holdsK_blk h.wh (hx.1.block bw h.lw)
  ag := holdsK_blk h.ag (hx.1.block ba h.la)
  lB := Nat.le_trans h.lB hx.1.size
  lw := Nat.lt_of_lt_of_le h.lw hx.1.size
  la := Nat.lt_of_lt_of_le h.la hx.1.size

theorem hide {a : Prop} (h : a) : Hid a := h

attribute [local go_sem ↓] eqV_fold ld45_fold st45_fold sl22_fold

set_option maxHeartbeats 8000000 in
set_option maxRecDepth 100000 in
theorem lawB (p : Option Addr) (c : Nat) (k : Int) (zs : Array Zv) (b4 o4 b6 o6 : Nat) (w : World) (hG : Gl w b4 o4 b6 o6) (hn : zs.size < 9223372036854775808) (hR : InZ w p zs) (hta : ∀ i, i < zs.size → zs[i]!.2.2.2.2.2.size < 9223372036854775808) :
    Calls Tryd.prog 4 #[.slice p zs.size c, .int .i64 k] w fun e w' => e = .returned (.bool true) ∧ GB w w' := by
  have HR : Hid (InZ w p zs) := hR
  have HG : Hid (Gl w b4 o4 b6 o6) := hG
  have HT : Hid (∀ i, i < zs.size → zs[i]!.2.2.2.2.2.size < 9223372036854775808) := hta
  clear hR hG hta
  have HQ : Hid (GB w w) := GB.refl w
  by_cases h4096 : 4096 < zs.size
  · go_enter Tryd.func4, Tryd.ntmps4
    go_wp2_with (go_at_call 11; refine (bytesB_any p c k zs _ hn HR.out).mono ?_; rintro e v ⟨b, rfl, rfl⟩)
    all_goals (go_ret; exact ⟨rfl, HQ.out⟩)
  by_cases hk0 : k < 0
  · go_enter Tryd.func4, Tryd.ntmps4
    go_wp2_with (first
      | (go_at_call 11; refine (bytesB_any p c k zs _ hn HR.out).mono ?_; rintro e v ⟨b, rfl, hv⟩; have hv := hv.symm; subst hv)
      | (go_at_call 6; refine (sizeOK_any p c zs _ (by omega) HR.out).mono ?_; rintro e v ⟨b2, rfl, hv⟩; have hv := hv.symm; subst hv))
    all_goals (go_ret; exact ⟨rfl, HQ.out⟩)
  by_cases hk1 : (zs.size : Int) < k
  · go_enter Tryd.func4, Tryd.ntmps4
    go_wp2_with (first
      | (go_at_call 11; refine (bytesB_any p c k zs _ hn HR.out).mono ?_; rintro e v ⟨b, rfl, hv⟩; have hv := hv.symm; subst hv)
      | (go_at_call 6; refine (sizeOK_any p c zs _ (by omega) HR.out).mono ?_; rintro e v ⟨b2, rfl, hv⟩; have hv := hv.symm; subst hv))
    all_goals (go_ret; exact ⟨rfl, HQ.out⟩)
  obtain ⟨m, rfl⟩ : ∃ m : Nat, k = m := ⟨k.toNat, by omega⟩
  have hm : m ≤ zs.size := by omega
  have hsz : zs.size ≤ 4096 := by omega
  clear hk0 hk1
  have HZL : Hid ((zs.extract 0 m).size = m) := by show (zs.extract 0 m).size = m; simp; omega
  have HZR : Hid ((zs.extract m zs.size).size = zs.size - m) := by show (zs.extract m zs.size).size = zs.size - m; simp
  go_enter Tryd.func4, Tryd.ntmps4
  go_wp2_with (first
      | (go_at_call 11; refine (bytesB_any p c _ zs _ hn HR.out).mono ?_; rintro e v ⟨b, rfl, hv⟩; have hv := hv.symm; subst hv)
      | (go_at_call 6; refine (sizeOK_any p c zs _ hsz HR.out).mono ?_; rintro e v ⟨b2, rfl, hv⟩; have hv := hv.symm; subst hv)
      | (go_at_call 7; refine (clone_any p c zs _ hsz HR.out).mono ?_; rintro e v1 ⟨p', rfl, hz1, g1⟩; have HZ1 : Hid (VZ v1 v1.heap.size p' zs) := hz1; have G1 : Hid (GB w v1) := g1; clear hz1 g1; have hsl := sl_left p' zs.size m hm; have hsr := sl_right p' zs.size m hm; have HPL : Hid (∀ v, GB v1 v → VZ v v.heap.size p' (zs.extract 0 m)) := fun v hv => ((HZ1.out.mono (fun j hj => hv.1.block j hj)).up hv.1.size).left m hm; have HPR : Hid (∀ v, GB v1 v → VZ v v.heap.size (if zs.size = m then p' else p'.map (·.add (m * 21))) (zs.extract m zs.size)) := fun v hv => ((HZ1.out.mono (fun j hj => hv.1.block j hj)).up hv.1.size).right m hm; generalize (if zs.size = m then p' else p'.map (·.add (m * 21))) = pR at hsr HPR))
  · go_ret
    exact ⟨rfl, HQ.out⟩
  · go_ret
    exact ⟨rfl, HQ.out⟩
  refine (imgs p' zs.size zs.size zs b4 o4 b6 o6 v1 (HG.out.gb G1.out) rfl hsz HZ1.out).mono ?_
  rintro e v2 ⟨rfl, hC⟩
  have HC := hide hC
  clear hC
  go_wp2_with fail
  refine HC.out.mono ?_
  rintro e v3 ⟨W, rfl, hlW, HW⟩
  clear HC
  have G3 : Hid (GB w v3) := G1.out.trans HW.out.2.2.2.2
  go_wp2_with fail
  refine (imgs p' zs.size m (zs.extract 0 m) b4 o4 b6 o6 v3 (HG.out.gb G3.out) HZL.out (by omega) (HPL.out v3 HW.out.2.2.2.2)).mono ?_
  rintro e v4 ⟨rfl, hC⟩
  have HC := hide hC
  clear hC
  go_wp2_with fail
  refine HC.out.mono ?_
  rintro e v5 ⟨L, rfl, hlL, HL⟩
  clear HC
  have G5 : Hid (GB w v5) := G3.out.trans HL.out.2.2.2.2
  go_wp2_with fail
  refine (imgs pR (zs.size - m) (zs.size - m) (zs.extract m zs.size) b4 o4 b6 o6 v5 (HG.out.gb G5.out) HZR.out (by omega) (HPR.out v5 (HW.out.2.2.2.2.trans HL.out.2.2.2.2))).mono ?_
  rintro e v6 ⟨rfl, hC⟩
  have HC := hide hC
  clear hC
  go_wp2_with fail
  refine HC.out.mono ?_
  rintro e v7 ⟨R, rfl, hlR, HR2⟩
  clear HC
  have G7 : Hid (GB w v7) := G5.out.trans HR2.out.2.2.2.2
  have hmk : ∀ w, (Instr.makeSlice 25 (.int .i64 0) (.int .i64 ((L.length : Int) + (R.length : Int)))).run Tryd.prog w = .ok (.slice (some ⟨w.heap.size, 0, none⟩) 0 (L.length + R.length)) (w.alloc (.cells (madeCells Z7 ((L.length + R.length) * 7)) 41)) := mk25 0 (L.length + R.length) (by omega) (by omega)
  obtain ⟨x1, x2, hap1, hap2, HJ⟩ := joined b4 o4 b6 o6 v3.heap.size v5.heap.size m (zs.size - m) L R v7 (holdsK_blk HL.out.2.2.1 (HR2.out.2.2.2.2.1.block _ HL.out.2.2.2.1)) HR2.out.2.2.1 (Nat.lt_of_lt_of_le HL.out.2.2.2.1 HR2.out.2.2.2.2.1.size) HR2.out.2.2.2.1
  obtain ⟨bJ, HbJ⟩ : ∃ b, Hid (b = v7.heap.size) := ⟨_, rfl⟩
  rw [← HbJ.out] at hap1 hap2
  have HC := hide (again b4 o4 b6 o6 m bJ zs hm W L R v7 x2 (HG.out.gb G7.out) HbJ.out HW.out.1 HW.out.2.1 HL.out.2.1 HR2.out.2.1 (by omega) HJ.out)
  go_wp2_with (first
    | (at_builtin; rw [← HbJ.out]; refine wpList_ap _ rfl _ _ 25 rfl _ _ _ _ rfl rfl hap1 ?_; clear hap1)
    | (at_builtin; refine wpList_ap _ rfl _ _ 25 rfl _ _ _ _ rfl rfl hap2 ?_; clear hap2))
  refine HC.out.mono ?_
  rintro e v8 ⟨rfl, H8⟩
  have HQ8 : Hid (GB w v8) := G7.out.trans H8.out.2.2
  have HE8 : Hid (EnvB b4 o4 b6 o6 v1.heap.size v1.heap.size bJ p' zs W v8) := by
    have g38 : GB v3 v8 := (HL.out.2.2.2.2.trans HR2.out.2.2.2.2).trans H8.out.2.2
    have g18 : GB v1 v8 := HW.out.2.2.2.2.trans g38
    exact ⟨(HG.out.gb G7.out).gb H8.out.2.2, HZ1.out.mono (fun j hj => g18.1.block j hj), holdsK_blk HW.out.2.2.1 (g38.1.block _ HW.out.2.2.2.1), H8.out.1, g18.1.size, Nat.lt_of_lt_of_le HW.out.2.2.2.1 g38.1.size, H8.out.2.1⟩
  have HM : Hid (Asc W ∧ ∀ x, x ∈ W ↔ x ∈ (zs.map im).toList) := ⟨HW.out.1, HW.out.2.1⟩
  have HE : Hid (∀ w', GB v8 w' → EnvB b4 o4 b6 o6 v1.heap.size v1.heap.size bJ p' zs W w') := fun w' h => HE8.out.gb h
  clear HC HJ HPL HPR HZL HZR hsl hsr hmk G3 G5 G7 HW HL HR2 H8 HE8 HbJ HZ1 HR HG G1
  go_wp2_with fail
  generalize decide ((4096 : Int) < (zs.size : Int)) = bb1
  generalize decide ((m : Int) < 0) = bb2
  go_loopg [82] W.length (fun g s82 wr => ∃ i : Nat, i ≤ W.length ∧ W.length - i ≤ g ∧ s82 = .int .i64 i ∧ GB v8 wr)
  case atStart => exact ⟨0, by omega, by omega, rfl, GB.refl _⟩
  case round =>
    obtain ⟨i, hi, hg, rfl, hX⟩ := hrel
    have X : Hid (GB v8 wr) := hX
    clear hX
    by_cases hlt : i < W.length
    · obtain ⟨c0, c1, c2, c3, c4, c5, c6, E1, ⟨r0, r1, r2, r3, r4, r5, r6⟩, _⟩ := cells7' (HE.out wr X.out).wh (i := i) (by simpa using hlt) (show i * 7 = 0 + i * 7 by omega)
      obtain ⟨p0, p1, p2, p3, p4, p5, p6, E2, ⟨q0, q1, q2, q3, q4, q5, q6⟩, _⟩ := cells7' (HE.out wr X.out).ag (i := i) (by simpa using hlt) (show i * 7 = 0 + i * 7 by omega)
      have e1 : EqVP Tryd.prog wr.drew #[c0, c1, c2, c3, c4, c5, c6] #[p0, p1, p2, p3, p4, p5, p6] = .ok true wr.drew := by
        have := eqV W.toArray[i]! W.toArray[i]! wr.drew b4 o4 b6 o6 (HE.out wr.drew X.out.drew).gl
        rw [E1, decide_eq_true rfl] at this
        rw [E1] at E2
        injection E2 with f0 E2
        injection E2 with f1 E2
        injection E2 with f2 E2
        injection E2 with f3 E2
        injection E2 with f4 E2
        injection E2 with f5 E2
        injection E2 with f6 E2
        rw [← f0, ← f1, ← f2, ← f3, ← f4, ← f5, ← f6]
        exact this
      clear E1 E2
      have hgd := eqGuard41
      go_wp2_with fail
      go_region
      go_wp2
      go_roundg (W.length - (i + 1))
      case measure => omega
      case rel => exact ⟨i + 1, by omega, Nat.le_refl _, by go_num, X.out.drew⟩
    · go_wp2_with fail
      clear hg hlt
      go_loopg [11, 97] zs.size (fun g s11 s97 wr => ∃ (i : Nat) (F : List V), i ≤ zs.size ∧ zs.size - i ≤ g ∧ s97 = .int .i64 i ∧ s11 = .int .i64 F.length ∧ F.length ≤ i ∧ (F.Nodup ∧ (∀ x, x ∈ F ↔ ∃ j, j < i ∧ im zs[j]! = x) ∧ GB v8 wr))
      case atStart => exact ⟨0, [], by omega, by omega, rfl, rfl, Nat.le_refl _, List.nodup_nil, fun x => ⟨fun h => by simp at h, fun ⟨j, hj, _⟩ => by omega⟩, X.out⟩
      case round =>
        clear X
        obtain ⟨i, F, hi, hg, rfl, rfl, hF, hX⟩ := hrel
        have X : Hid (F.Nodup ∧ (∀ x, x ∈ F ↔ ∃ j, j < i ∧ im zs[j]! = x) ∧ GB v8 wr) := hX
        clear hX
        by_cases hlt : i < zs.size
        · go_wp2_with fail
          have HF : Hid (F.Nodup ∧ (∀ x, x ∈ F ↔ ∃ j, j < i ∧ im zs[j]! = x)) := ⟨X.out.1, X.out.2.1⟩
          go_loopg [13, 14] i (fun g s13 s14 wr => ∃ j : Nat, j ≤ i ∧ i - j ≤ g ∧ s13 = .bool false ∧ s14 = .int .i64 j ∧ ((∀ t, t < j → ¬ im zs[t]! = im zs[i]!) ∧ GB v8 wr))
          case atStart => exact ⟨0, by omega, by omega, rfl, rfl, fun t ht => by omega, X.out.2.2⟩
          case round =>
            clear X
            obtain ⟨j, hj, hg2, rfl, rfl, hX⟩ := hrel
            have X : Hid ((∀ t, t < j → ¬ im zs[t]! = im zs[i]!) ∧ GB v8 wr) := hX
            clear hX
            by_cases hjl : j < i
            · rcases (HE.out wr X.out.2).vz with h0 | ⟨bv, ov, hp', hbv, hHz⟩
              · omega
              subst hp'
              obtain ⟨XA, HXA⟩ : ∃ X, Hid (X = (encZ zs[j]!).toArray) := ⟨_, rfl⟩
              obtain ⟨XB, HXB⟩ : ∃ X, Hid (X = (encZ zs[i]!).toArray) := ⟨_, rfl⟩
              obtain ⟨q, hq⟩ : ∃ q, q = cf (im zs[j]!) (im zs[i]!) := ⟨_, rfl⟩
              have hjz : j < zs.size := by omega
              have HC : Hid (∀ w', Calls Tryd.prog 10 #[.agg XA, .agg XB] w' fun e w'' => e = .returned (.int .i64 q) ∧ GB w' w'') := fun w' => by
                rw [HXA.out, HXB.out, hq]
                exact zcompare_any zs[j]! zs[i]! w' (HT.out j hjz) (HT.out i hlt)
              have HS : Hid (∀ w', GB wr w' → GB wr w' ∧ (Ld45 (.pointer (some ⟨bv, ov + j * 21, none⟩))).run Tryd.prog w' = .ok (.agg XA) w' ∧ (Ld45 (.pointer (some ⟨bv, ov + i * 21, none⟩))).run Tryd.prog w' = .ok (.agg XB) w') := fun w' h => by
                have hHw : HoldsK encZ 21 w' bv ov zs := holdsK_blk hHz (h.1.block bv (by have := (HE.out wr X.out.2).lB; omega))
                refine ⟨h, ?_, ?_⟩
                · rw [HXA.out]; exact ld45 (range_of hHw hjz)
                · rw [HXB.out]; exact ld45 (range_of hHw hlt)
              have HGG : Hid (GB wr wr) := GB.refl wr
              clear hHz
              by_cases hq0 : q = 0
              · have he : Hid (im zs[j]! = im zs[i]!) := (good_cf.eq0 _ _).1 (hq.symm.trans hq0)
                subst hq0
                clear hq
                go_wp2_with fail
                go_region_held3 (fun w' => GB wr w' ∧ (Ld45 (.pointer (some ⟨bv, ov + j * 21, none⟩))).run Tryd.prog w' = .ok (.agg XA) w' ∧ (Ld45 (.pointer (some ⟨bv, ov + i * 21, none⟩))).run Tryd.prog w' = .ok (.agg XB) w')
                (first | with_reducible exact HS.out _ (GB.drew HGG.out) | with_reducible exact HS.out _ (by assumption))
                (first | (go_at_call 10; have hgg := (show GB wr _ ∧ _ by assumption); refine (HC.out _).mono ?_; rintro e vv ⟨rfl, hb⟩; have hb2 := hgg.1.trans hb; clear hgg hb))
                have Z : Hid (GB v8 vv) := X.out.2.trans hb2
                go_wp2
                go_roundg (zs.size - (i + 1))
                case measure => omega
                case rel =>
                  refine ⟨i + 1, F, by omega, Nat.le_refl _, by go_num, rfl, by omega, HF.out.1, fun x => ?_, Z.out⟩
                  rw [HF.out.2]
                  constructor
                  · rintro ⟨t, ht, rfl⟩; exact ⟨t, by omega, rfl⟩
                  · rintro ⟨t, ht, rfl⟩
                    by_cases e : t = i
                    · subst e; exact ⟨j, hjl, he.out⟩
                    · exact ⟨t, by omega, rfl⟩
              · have he : Hid (¬ im zs[j]! = im zs[i]!) := fun h => hq0 (hq.trans ((good_cf.eq0 _ _).2 h))
                clear hq
                go_wp2_with fail
                go_region_held3 (fun w' => GB wr w' ∧ (Ld45 (.pointer (some ⟨bv, ov + j * 21, none⟩))).run Tryd.prog w' = .ok (.agg XA) w' ∧ (Ld45 (.pointer (some ⟨bv, ov + i * 21, none⟩))).run Tryd.prog w' = .ok (.agg XB) w')
                (first | with_reducible exact HS.out _ (GB.drew HGG.out) | with_reducible exact HS.out _ (by assumption))
                (first | (go_at_call 10; have hgg := (show GB wr _ ∧ _ by assumption); refine (HC.out _).mono ?_; rintro e vv ⟨rfl, hb⟩; have hb2 := hgg.1.trans hb; clear hgg hb))
                have Z : Hid (GB v8 vv) := X.out.2.trans hb2
                go_wp2
                go_roundg (i - (j + 1))
                case measure => omega
                case rel =>
                  refine ⟨j + 1, by omega, Nat.le_refl _, rfl, by go_num, fun t ht => ?_, Z.out⟩
                  by_cases e : t = j
                  · subst e; exact he.out
                  · exact X.out.1 t (by omega)
            · go_wp2
              go_roundg (zs.size - (i + 1))
              case measure => omega
              case rel =>
                refine ⟨i + 1, F ++ [im zs[i]!], by omega, Nat.le_refl _, by go_num, by rw [List.length_append]; go_num, by simp; omega, ?_, fun x => ?_, X.out.2⟩
                · rw [List.nodup_append]
                  refine ⟨HF.out.1, by simp, fun a ha b hb => ?_⟩
                  rw [List.mem_singleton] at hb
                  subst hb
                  obtain ⟨t, ht, rfl⟩ := (HF.out.2 a).1 ha
                  exact X.out.1 t (by omega)
                · rw [List.mem_append, HF.out.2, List.mem_singleton]
                  constructor
                  · rintro (⟨t, ht, rfl⟩ | rfl)
                    · exact ⟨t, by omega, rfl⟩
                    · exact ⟨i, by omega, rfl⟩
                  · rintro ⟨t, ht, rfl⟩
                    by_cases e : t = i
                    · subst e; exact .inr rfl
                    · exact .inl ⟨t, by omega, rfl⟩
        · obtain rfl : i = zs.size := by omega
          have hFW : F.length = W.length := same_len F W X.out.1 (asc_nodup HM.out.1) (fun x => by rw [X.out.2.1, HM.out.2, mem_im])
          go_wp2
          go_ret
          refine ⟨?_, HQ8.out.trans X.out.2.2⟩
          simp [hFW]
end Go.Proofs.Qxb6616947aDoor
