/-
  The walk of FnSortVRPsIsSortedSetOfInputs.
-/
import Derived.Test.Qxb6616947aDoorSv
namespace Go.Proofs.Qxb6616947aDoor
open Go.RowKit Go.Sort Go.Shelf Plain
set_option linter.unusedVariables false

theorem holdsK_blk {α : Type} [Inhabited α] {en : α → List Value} {k : Nat} {w w' : World} {blk off : Nat} {d : Array α} (h : HoldsK en k w blk off d) (hb : w'.heap[blk]? = w.heap[blk]?) : HoldsK en k w' blk off d := fun t ht => by
  rw [World.cell?_of_block (w := w) hb, World.frozen?_of_block (w := w) hb]
  exact h t ht

/-- the cloned slice -/
def VZ (w : World) (B : Nat) (p : Option Addr) (zs : Array Zv) : Prop := zs.size = 0 ∨ ∃ bv ov, p = some ⟨bv, ov, none⟩ ∧ bv < B ∧ HoldsK encZ 21 w bv ov zs
theorem VZ.mono {w w' : World} {B : Nat} {p : Option Addr} {zs : Array Zv} (h : VZ w B p zs) (hb : ∀ k, k < B → w'.heap[k]? = w.heap[k]?) : VZ w' B p zs := by
  rcases h with h | ⟨bv, ov, hp, hl, hH⟩
  · exact .inl h
  · exact .inr ⟨bv, ov, hp, hl, holdsK_blk hH (hb bv hl)⟩

theorem VZ.up {w : World} {B B' : Nat} {p : Option Addr} {zs : Array Zv} (h : VZ w B p zs) (hb : B ≤ B') : VZ w B' p zs := by
  rcases h with h | ⟨bv, ov, hp, hl, hH⟩
  · exact .inl h
  · exact .inr ⟨bv, ov, hp, Nat.lt_of_lt_of_le hl hb, hH⟩

/-- what stands while the law goes on: the globals, the clone, the images, the sorted row -/
structure Env (b4 o4 b6 o6 B bi bo : Nat) (p : Option Addr) (zs : Array Zv) (R : List V) (w : World) : Prop where
  gl : Gl w b4 o4 b6 o6
  vz : VZ w B p zs
  im : HoldsK (enc b4 o4 b6 o6) 7 w bi 0 (zs.map Qxb6616947aDoor.im)
  ou : HoldsK (enc b4 o4 b6 o6) 7 w bo 0 R.toArray
  lB : B ≤ w.heap.size
  li : bi < w.heap.size
  lo : bo < w.heap.size

theorem Env.gx {b4 o4 b6 o6 B bi bo br : Nat} {p : Option Addr} {zs : Array Zv} {R : List V} {w w' : World} (h : Env b4 o4 b6 o6 B bi bo p zs R w) (hx : GX br w w') (h2 : 2 < br) (h4 : b4 ≠ br) (h6 : b6 ≠ br) (hB : B ≤ br) (hi : bi ≠ br) (ho : bo ≠ br) : Env b4 o4 b6 o6 B bi bo p zs R w' where
  gl := h.gl.gx hx h2 h4 h6
  vz := h.vz.mono (fun k hk => hx.block k (Nat.lt_of_lt_of_le hk h.lB) (by omega))
  im := holdsK_blk h.im (hx.block bi h.li hi)
  ou := holdsK_blk h.ou (hx.block bo h.lo ho)
  lB := Nat.le_trans h.lB hx.size
  li := Nat.lt_of_lt_of_le h.li hx.size
  lo := Nat.lt_of_lt_of_le h.lo hx.size

theorem mk28 (n : Nat) (hn : n ≤ 8192) (w : World) : (Instr.makeSlice 28 (.int .i64 n) (.int .i64 n)).run Tryd.prog w = .ok (.slice (some ⟨w.heap.size, 0, none⟩) n n) (w.alloc (.cells (madeCells #[.int .i64 0] n) 3)) := by
  have h1 : (Tryd.prog.info? 3).bind (·.zero) = some (.int .i64 0) := by kernel_rfl
  have h2 : (Tryd.prog.info? 3).map (·.size) = some 1 := by kernel_rfl
  have h3 : ((Tryd.prog.info? 3).map fun i => decide (i.bytes ≤ 1000)) = some true := by kernel_rfl
  cases hq : Tryd.prog.info? 3 with
  | none => rw [hq] at h2; cases h2
  | some i =>
    rw [hq] at h1 h2 h3
    have e1 : i.zero = some (.int .i64 0) := h1
    have e2 : i.size = 1 := by injection h2
    have e3 : i.bytes ≤ 1000 := of_decide_eq_true (by injection h3)
    have h := run_make (P := Tryd.prog) w 28 3 i (.int .i64 0) (by kernel_rfl) hq e1 .i64 .i64 n n (by omega) (by omega) (bytes_le e3 hn) (by omega)
    rw [e2, Nat.mul_one] at h
    exact h

/-- the row of found places: the first i are right -/
structure Rep (br m i : Nat) (rp : Nat → Nat) (zs : Array Zv) (R : List V) (w : World) : Prop where
  got : ∀ j, j < i → w.cell? ⟨br, j, none⟩ = some (.int .i64 (rp j)) ∧ rp j < zs.size ∧ im zs[rp j]! = R.toArray[j]!
  some : ∀ j, j < m → (w.cell? ⟨br, j, none⟩).isSome = true
  fro : ∀ j, j < m → w.frozen? ⟨br, j, none⟩ = false
  lt : br < w.heap.size

theorem Rep.gb {br m i : Nat} {rp : Nat → Nat} {zs : Array Zv} {R : List V} {w w' : World} (h : Rep br m i rp zs R w) (hb : GB w w') : Rep br m i rp zs R w' := by
  obtain ⟨hc, hf⟩ := bcell hb.1
  have hl := h.lt
  refine ⟨fun j hj => ?_, fun j hj => ?_, fun j hj => ?_, Nat.lt_of_lt_of_le hl hb.1.size⟩
  · rw [hc _ _ hl]; exact h.got j hj
  · rw [hc _ _ hl]; exact h.some j hj
  · rw [hf _ _ hl]; exact h.fro j hj

theorem Rep.set {br m i : Nat} {rp : Nat → Nat} {zs : Array Zv} {R : List V} {w : World} (h : Rep br m i rp zs R w) (hi : i < m) (f : Nat) (hf : f < zs.size) (he : im zs[f]! = R.toArray[i]!) :
    Rep br m (i + 1) (fun j => if j = i then f else rp j) zs R (w.setCell ⟨br, i, none⟩ (.int .i64 f)) := by
  have hs : w.setCell ⟨br, i, none⟩ (.int .i64 f) = w.setCells br i [.int .i64 f] := rfl
  rw [hs]
  refine ⟨fun j hj => ?_, fun j hj => World.isSome_setCells br _ i w _ (h.some j hj), fun j hj => (World.frozen?_setCells br _ i w _).trans (h.fro j hj), by rw [size_setCells]; exact h.lt⟩
  by_cases e : j = i
  · subst e
    have := World.cell?_setCells_in br [.int .i64 (f : Int)] j w (fun k hk => by
      have : k = 0 := by simpa using hk
      subst this
      exact h.some j hi) 0 (by simp)
    rw [Nat.add_zero] at this
    rw [this, if_pos rfl]
    exact ⟨rfl, hf, he⟩
  · rw [World.cell?_setCells_out br _ _ w _ (fun _ _ => by simp; omega), if_neg e]
    exact h.got j (by omega)

theorem map_get (zs : Array Zv) (j : Nat) (h : j < zs.size) : (zs.map im)[j]! = im zs[j]! := by
  rw [getElem!_pos (zs.map im) j (by rw [Array.size_map]; exact h), getElem!_pos zs j h]
  simp

attribute [local go_sem ↓] eqV_fold ld45_fold st45_fold

set_option maxHeartbeats 8000000 in
set_option maxRecDepth 100000 in
theorem lawA (p : Option Addr) (c : Nat) (zs : Array Zv) (b4 o4 b6 o6 : Nat) (w : World) (hG : Gl w b4 o4 b6 o6) (hn : zs.size < 9223372036854775808) (hR : InZ w p zs) (hta : ∀ i, i < zs.size → zs[i]!.2.2.2.2.2.size < 9223372036854775808) :
    Calls Tryd.prog 3 #[.slice p zs.size c] w fun e w' => e = .returned (.bool true) ∧ GB w w' := by
  have HR : Hid (InZ w p zs) := hR
  have HG : Hid (Gl w b4 o4 b6 o6) := hG
  have HT : Hid (∀ i, i < zs.size → zs[i]!.2.2.2.2.2.size < 9223372036854775808) := hta
  clear hR hG hta
  have HQ : Hid (GB w w) := GB.refl w
  by_cases h4096 : 4096 < zs.size
  · go_enter Tryd.func3, Tryd.ntmps3
    go_wp2_with (go_at_call 5; refine (bytesA_any p c zs _ hn HR.out).mono ?_; rintro e v ⟨b, rfl, rfl⟩)
    all_goals (go_ret; exact ⟨rfl, HQ.out⟩)
  · go_enter Tryd.func3, Tryd.ntmps3
    go_wp2_with (first
      | (go_at_call 5; refine (bytesA_any p c zs _ hn HR.out).mono ?_; rintro e v ⟨b, rfl, hv⟩; have hv := hv.symm; subst hv)
      | (go_at_call 6; refine (sizeOK_any p c zs _ (by omega) HR.out).mono ?_; rintro e v ⟨b2, rfl, hv⟩; have hv := hv.symm; subst hv)
      | (go_at_call 7; refine (clone_any p c zs _ (by omega) HR.out).mono ?_; rintro e v1 ⟨p', rfl, hz1, g1⟩; have HZ1 : Hid (VZ v1 v1.heap.size p' zs) := hz1; have G1 : Hid (GB w v1) := g1; clear hz1 g1))
    · go_ret
      exact ⟨rfl, HQ.out⟩
    · go_ret
      exact ⟨rfl, HQ.out⟩
    have hsz : zs.size ≤ 4096 := by omega
    refine (images_any p' zs.size zs b4 o4 b6 o6 v1 (HG.out.gb G1.out) hsz HZ1.out).mono ?_
    rintro e v2 ⟨rfl, hi2, g2, l2⟩
    have G2 : Hid (HoldsK (enc b4 o4 b6 o6) 7 v2 v1.heap.size 0 (zs.map im) ∧ GB v1 v2 ∧ v1.heap.size < v2.heap.size) := ⟨hi2, g2, l2⟩
    clear hi2 g2 l2
    go_wp2_with (go_at_call 8; refine (images_any p' zs.size zs b4 o4 b6 o6 v2 ((HG.out.gb G1.out).gb G2.out.2.1) hsz ((HZ1.out.mono (fun k hk => G2.out.2.1.1.block k hk)).up (Nat.le_of_lt G2.out.2.2))).mono ?_; rintro e v3 ⟨rfl, hi3, g3, l3⟩; have G3 : Hid (HoldsK (enc b4 o4 b6 o6) 7 v3 v2.heap.size 0 (zs.map im) ∧ GB v2 v3 ∧ v2.heap.size < v3.heap.size) := ⟨hi3, g3, l3⟩; clear hi3 g3 l3)
    have s2 := HG.out.s2
    have l4 := HG.out.lt4
    have l6 := HG.out.lt6
    have z1 := G1.out.1.size
    have z2 := G2.out.2.2
    have z3 := G3.out.2.2
    have hS9 := sv9_any b4 o4 b6 o6 v2.heap.size 0 zs.size (zs.map im) v3 (((HG.out.gb G1.out).gb G2.out.2.1).gb G3.out.2.1) (by omega) (by omega) (by omega) G3.out.1 G3.out.2.2 (by rw [Array.size_map]; omega) (by rw [Array.size_map]; exact Nat.le_refl _)
    rw [Array.size_map] at hS9
    refine hS9.mono ?_
    clear hS9
    rintro e v4 ⟨R, hAsc, hMem, hLe, rfl, hHo, hx⟩
    have z4 := hx.size
    have HM : Hid (Asc R ∧ ∀ x, x ∈ R ↔ x ∈ (zs.map im).toList) := ⟨hAsc, hMem⟩
    have HE4 : Hid (Env b4 o4 b6 o6 v1.heap.size v1.heap.size v2.heap.size p' zs R v4) := by
      refine ⟨(((HG.out.gb G1.out).gb G2.out.2.1).gb G3.out.2.1).gx hx (by omega) (by omega) (by omega), ?_, ?_, hHo, by omega, by omega, by omega⟩
      · exact HZ1.out.mono (fun k hk => (hx.block k (by omega) (by omega)).trans ((G3.out.2.1.1.block k (by omega)).trans (G2.out.2.1.1.block k hk)))
      · exact holdsK_blk G2.out.1 ((hx.block _ (by omega) (by omega)).trans (G3.out.2.1.1.block _ z2))
    have HQ4 : Hid (GB w v4) := GX.gb ((G1.out.trans G2.out.2.1).trans G3.out.2.1) hx (by omega)
    clear hAsc hMem hHo hx
    have hmk := mk28 R.length (by omega)
    obtain ⟨wb, HWB⟩ : ∃ wb, Hid (wb = v4.alloc (.cells (madeCells #[.int .i64 0] R.length) 3)) := ⟨_, rfl⟩
    have HQb : Hid (GB w wb) := by rw [HWB.out]; exact HQ4.out.alloc _
    have HE : Hid (∀ w', GX v4.heap.size wb w' → Env b4 o4 b6 o6 v1.heap.size v1.heap.size v2.heap.size p' zs R w') := fun w' h => by
      have hb : GX v4.heap.size v4 wb := by rw [HWB.out]; exact ((GB.refl v4).alloc _).gx
      exact HE4.out.gx (hb.trans h) (by omega) (by omega) (by omega) (by omega) (by omega) (by omega)
    have HP0 : Hid (Rep v4.heap.size R.length 0 (fun _ => 0) zs R wb) := by
      rw [HWB.out]
      refine ⟨fun j hj => by omega, fun j hj => ?_, fun j hj => ?_, by simp⟩
      · rw [(made_cell #[.int .i64 0] R.length j 3 v4 (by omega)).1]; rfl
      · exact (made_cell #[.int .i64 0] R.length j 3 v4 (by omega)).2
    clear HE4 HQ4 G1 G2 G3 HZ1 HG HR
    go_wp2_with fail
    go_wp2
    rw [← HWB.out]
    clear HWB hmk
    generalize decide (zs.size < R.length) = bb
    go_loopg [38] R.length (fun g s38 wr => ∃ (i : Nat) (rp : Nat → Nat), i ≤ R.length ∧ R.length - i ≤ g ∧ s38 = .int .i64 i ∧ (GX v4.heap.size wb wr ∧ Rep v4.heap.size R.length i rp zs R wr))
    case atStart => exact ⟨0, _, by omega, by omega, rfl, GX.refl _ _, HP0.out⟩
    case round =>
      clear HP0
      obtain ⟨i, rp, hi, hg, rfl, hX⟩ := hrel
      have X : Hid (GX v4.heap.size wb wr ∧ Rep v4.heap.size R.length i rp zs R wr) := hX
      clear hX
      by_cases hlt : i < R.length
      · go_wp2
        go_loopg [7, 43] zs.size (fun g s7 s43 wr2 => ∃ j : Nat, j ≤ zs.size ∧ zs.size - j ≤ g ∧ s7 = .int .i64 (-1) ∧ s43 = .int .i64 j ∧ (GX v4.heap.size wb wr2 ∧ Rep v4.heap.size R.length i rp zs R wr2 ∧ ∀ k, k < j → ¬ im zs[k]! = R.toArray[i]!))
        case atStart => exact ⟨0, by omega, by omega, rfl, rfl, X.out.1, X.out.2, fun k hk => by omega⟩
        case round =>
          clear X
          obtain ⟨j, hj, hg2, rfl, rfl, hX⟩ := hrel
          have X : Hid (GX v4.heap.size wb wr ∧ Rep v4.heap.size R.length i rp zs R wr ∧ ∀ k, k < j → ¬ im zs[k]! = R.toArray[i]!) := hX
          clear hX
          by_cases hjl : j < zs.size
          · obtain ⟨c0, c1, c2, c3, c4, c5, c6, E1, ⟨r0, r1, r2, r3, r4, r5, r6⟩, _⟩ := cells7' (HE.out wr X.out.1).im (i := j) (by rw [Array.size_map]; exact hjl) (show j * 7 = 0 + j * 7 by omega)
            obtain ⟨p0, p1, p2, p3, p4, p5, p6, E2, ⟨q0, q1, q2, q3, q4, q5, q6⟩, _⟩ := cells7' (HE.out wr X.out.1).ou (i := i) (by simpa using hlt) (show i * 7 = 0 + i * 7 by omega)
            rw [map_get zs j hjl] at E1
            have e1 : EqVP Tryd.prog wr.drew #[c0, c1, c2, c3, c4, c5, c6] #[p0, p1, p2, p3, p4, p5, p6] = .ok (decide (im zs[j]! = R.toArray[i]!)) wr.drew := by
              have := eqV (im zs[j]!) R.toArray[i]! wr.drew b4 o4 b6 o6 (HE.out wr.drew (gx_drew X.out.1)).gl
              rw [E1, E2] at this
              exact this
            clear E1 E2
            have hgd := eqGuard41
            by_cases he : im zs[j]! = R.toArray[i]!
            · simp only [he, decide_true] at e1
              have k0 := cvv_of (X.out.2.1.some i hlt)
              have k1 := X.out.2.1.fro i hlt
              go_wp2_with fail
              go_region
              go_wp2_with fail
              clear r0 r1 r2 r3 r4 r5 r6 q0 q1 q2 q3 q4 q5 q6 e1 k0 k1
              obtain ⟨W5, HW5⟩ : ∃ W5, Hid (W5 = (wr.setCell ⟨v4.heap.size, i, none⟩ (.int .i64 j)).drew) := ⟨_, rfl⟩
              rw [← HW5.out]
              have XG : GX v4.heap.size wb W5 := by
                rw [HW5.out]
                exact gx_drew (X.out.1.trans (gx_setCells v4.heap.size i [.int .i64 j] wr))
              have XR : Rep v4.heap.size R.length (i + 1) (fun k => if k = i then j else rp k) zs R W5 := by
                rw [HW5.out]
                exact (X.out.2.1.set hlt j hjl he).gb (GB.refl _).drew
              have Y : Hid (GX v4.heap.size wb W5 ∧ Rep v4.heap.size R.length (i + 1) (fun k => if k = i then j else rp k) zs R W5) := ⟨XG, XR⟩
              clear XG XR HW5
              by_cases hi0 : i = 0
              · subst hi0
                go_region
                go_wp2
                go_roundg (R.length - (0 + 1))
                case measure => omega
                case rel => exact ⟨0 + 1, _, by omega, Nat.le_refl _, by go_num, gx_drew Y.out.1, Y.out.2.gb (GB.refl _).drew⟩
              · obtain ⟨f, hf⟩ : ∃ f, f = rp (i - 1) := ⟨_, rfl⟩
                obtain ⟨kc, kl, ke⟩ := Y.out.2.got (i - 1) (by omega)
                rw [if_neg (by omega), ← hf] at kc kl ke
                have hcf : cf (im zs[f]!) (im zs[j]!) < 0 := by
                  rw [ke, he]
                  have hp := List.pairwise_iff_getElem.1 HM.out.1 (i - 1) i (by omega) (by omega) (by omega)
                  rw [getElem!_pos R.toArray (i - 1) (by simp; omega), getElem!_pos R.toArray i (by simp; omega)]
                  simpa using hp
                rcases (HE.out W5 Y.out.1).vz with h0 | ⟨bv, ov, hp', hbv, hHz⟩
                · omega
                subst hp'
                obtain ⟨XA, HXA⟩ : ∃ X, Hid (X = (encZ zs[f]!).toArray) := ⟨_, rfl⟩
                obtain ⟨XB, HXB⟩ : ∃ X, Hid (X = (encZ zs[j]!).toArray) := ⟨_, rfl⟩
                obtain ⟨q, hq⟩ : ∃ q, q = cf (im zs[f]!) (im zs[j]!) := ⟨_, rfl⟩
                have HC : Hid (∀ w', Calls Tryd.prog 10 #[.agg XA, .agg XB] w' fun e w'' => e = .returned (.int .i64 q) ∧ GB w' w'') := fun w' => by
                  rw [HXA.out, HXB.out, hq]
                  exact zcompare_any zs[f]! zs[j]! w' (HT.out f kl) (HT.out j hjl)
                rw [← hq] at hcf
                have HS : Hid (∀ w', GB W5 w' → GB W5 w' ∧ w'.cell? ⟨v4.heap.size, i - 1, none⟩ = some (.int .i64 f) ∧ (Ld45 (.pointer (some ⟨bv, ov + f * 21, none⟩))).run Tryd.prog w' = .ok (.agg XA) w' ∧ (Ld45 (.pointer (some ⟨bv, ov + j * 21, none⟩))).run Tryd.prog w' = .ok (.agg XB) w') := fun w' h => by
                  have hl := Y.out.2.lt
                  have hHw : HoldsK encZ 21 w' bv ov zs := holdsK_blk hHz (h.1.block bv (by have := (HE.out W5 Y.out.1).lB; omega))
                  refine ⟨h, ?_, ?_, ?_⟩
                  · rw [(bcell h.1).1 _ _ hl]; exact kc
                  · rw [HXA.out]; exact ld45 (range_of hHw kl)
                  · rw [HXB.out]; exact ld45 (range_of hHw hjl)
                have HGG : Hid (GB W5 W5) := GB.refl W5
                clear hHz kc hq hf ke
                have hwk := wrap_pred (n := i) (by omega) (by omega)
                have hk0 : i - 1 < R.length := by omega
                have hpos : 0 < i := by omega
                have hcf2 : ¬ 0 ≤ q := by omega
                go_region_held3 (fun w' => GB W5 w' ∧ w'.cell? ⟨v4.heap.size, i - 1, none⟩ = some (.int .i64 f) ∧ (Ld45 (.pointer (some ⟨bv, ov + f * 21, none⟩))).run Tryd.prog w' = .ok (.agg XA) w' ∧ (Ld45 (.pointer (some ⟨bv, ov + j * 21, none⟩))).run Tryd.prog w' = .ok (.agg XB) w')
                  (first | with_reducible exact HS.out _ (GB.drew HGG.out) | with_reducible exact HS.out _ (by assumption))
                  (first | (go_at_call 10; have hgg := (show GB W5 _ ∧ _ by assumption); refine (HC.out _).mono ?_; rintro e vv ⟨rfl, hb⟩; have hb2 := hgg.1.trans hb; clear hgg hb))
                have hgw := hb2
                have Z : Hid (GX v4.heap.size wb vv ∧ Rep v4.heap.size R.length (i + 1) (fun k => if k = i then j else rp k) zs R vv) := ⟨Y.out.1.trans hb2.gx, Y.out.2.gb hb2⟩
                go_wp2
                go_roundg (R.length - (i + 1))
                case measure => omega
                case rel => exact ⟨i + 1, _, by omega, Nat.le_refl _, by go_num, Z.out.1, Z.out.2⟩
            · simp only [he, decide_false] at e1
              go_wp2_with fail
              go_region
              go_wp2
              go_roundg (zs.size - (j + 1))
              case measure => omega
              case rel =>
                refine ⟨j + 1, by omega, Nat.le_refl _, rfl, by go_num, gx_drew X.out.1, X.out.2.1.gb (GB.refl _).drew, fun k hk => ?_⟩
                by_cases e : k = j
                · subst e; exact he
                · exact X.out.2.2 k (by omega)
          · exfalso
            have hmem : R.toArray[i]! ∈ (zs.map im).toList := by
              rw [← HM.out.2]
              rw [getElem!_pos R.toArray i (by simpa using hlt)]
              simp
            obtain ⟨k, hk, hk2⟩ := List.getElem_of_mem hmem
            have hk' : k < zs.size := by simpa using hk
            refine X.out.2.2 k (by omega) ?_
            rw [← hk2, getElem!_pos zs k hk']
            simp
      · go_wp2
        go_loopg [84] zs.size (fun g s84 wr2 => ∃ j : Nat, j ≤ zs.size ∧ zs.size - j ≤ g ∧ s84 = .int .i64 j ∧ GX v4.heap.size wb wr2)
        case atStart => exact ⟨0, by omega, by omega, rfl, X.out.1⟩
        case round =>
          clear X
          obtain ⟨j, hj, hg2, rfl, hX⟩ := hrel
          have X : Hid (GX v4.heap.size wb wr) := hX
          clear hX
          by_cases hjl : j < zs.size
          · go_wp2
            go_loopg [10, 89] R.length (fun g s10 s89 wr2 => ∃ k : Nat, k ≤ R.length ∧ R.length - k ≤ g ∧ s10 = .bool false ∧ s89 = .int .i64 k ∧ (GX v4.heap.size wb wr2 ∧ ∀ t, t < k → ¬ R.toArray[t]! = im zs[j]!))
            case atStart => exact ⟨0, by omega, by omega, rfl, rfl, X.out, fun t ht => by omega⟩
            case round =>
              clear X
              obtain ⟨k, hk, hg3, rfl, rfl, hX⟩ := hrel
              have X : Hid (GX v4.heap.size wb wr ∧ ∀ t, t < k → ¬ R.toArray[t]! = im zs[j]!) := hX
              clear hX
              by_cases hkl : k < R.length
              · obtain ⟨c0, c1, c2, c3, c4, c5, c6, E1, ⟨r0, r1, r2, r3, r4, r5, r6⟩, _⟩ := cells7' (HE.out wr X.out.1).im (i := j) (by rw [Array.size_map]; exact hjl) (show j * 7 = 0 + j * 7 by omega)
                obtain ⟨p0, p1, p2, p3, p4, p5, p6, E2, ⟨q0, q1, q2, q3, q4, q5, q6⟩, _⟩ := cells7' (HE.out wr X.out.1).ou (i := k) (by simpa using hkl) (show k * 7 = 0 + k * 7 by omega)
                rw [map_get zs j hjl] at E1
                have e1 : EqVP Tryd.prog wr.drew #[p0, p1, p2, p3, p4, p5, p6] #[c0, c1, c2, c3, c4, c5, c6] = .ok (decide (R.toArray[k]! = im zs[j]!)) wr.drew := by
                  have := eqV R.toArray[k]! (im zs[j]!) wr.drew b4 o4 b6 o6 (HE.out wr.drew (gx_drew X.out.1)).gl
                  rw [E1, E2] at this
                  exact this
                clear E1 E2
                have hgd := eqGuard41
                by_cases he : R.toArray[k]! = im zs[j]!
                · simp only [he, decide_true] at e1
                  go_wp2_with fail
                  go_region
                  go_wp2
                  go_roundg (zs.size - (j + 1))
                  case measure => omega
                  case rel => exact ⟨j + 1, by omega, Nat.le_refl _, by go_num, gx_drew X.out.1⟩
                · simp only [he, decide_false] at e1
                  go_wp2_with fail
                  go_region
                  go_wp2
                  go_roundg (R.length - (k + 1))
                  case measure => omega
                  case rel =>
                    refine ⟨k + 1, by omega, Nat.le_refl _, rfl, by go_num, gx_drew X.out.1, fun t ht => ?_⟩
                    by_cases e : t = k
                    · subst e; exact he
                    · exact X.out.2 t (by omega)
              · exfalso
                have hmem : im zs[j]! ∈ R := by
                  rw [HM.out.2, ← map_get zs j hjl, getElem!_pos (zs.map im) j (by rw [Array.size_map]; exact hjl)]
                  exact Array.getElem_mem_toList _
                obtain ⟨t, ht, ht2⟩ := List.getElem_of_mem hmem
                refine X.out.2 t (by omega) ?_
                rw [← ht2, getElem!_pos R.toArray t (by simpa using ht)]
                simp
          · go_wp2
            go_ret
            exact ⟨rfl, GX.gb HQb.out X.out (by omega)⟩
end Go.Proofs.Qxb6616947aDoor
