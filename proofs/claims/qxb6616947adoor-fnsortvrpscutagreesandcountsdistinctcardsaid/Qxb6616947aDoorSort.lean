/-
  The contract of slices.SortFunc at VRPs with validator.Compare, off the shelf's contract.
-/
import Derived.Test.Qxb6616947aDoorCompare
import Derived.Test.Qxb6616947aDoorLay
namespace Go.Proofs.Qxb6616947aDoor
open Go.RowKit Go.Sort Go.Shelf Plain
set_option linter.unusedVariables false

/-- w' is w with new blocks behind it, maybe draws, and block blk turned -/
structure GX (blk : Nat) (w w' : World) : Prop where
  os : w'.os = w.os
  tape : w'.tape = w.tape
  output : w'.output = w.output
  size : w.heap.size ≤ w'.heap.size
  drawn : w.drawn ≤ w'.drawn
  block : ∀ k, k < w.heap.size → k ≠ blk → w'.heap[k]? = w.heap[k]?

theorem GX.refl (blk : Nat) (w : World) : GX blk w w := ⟨rfl, rfl, rfl, Nat.le_refl _, Nat.le_refl _, fun _ _ _ => rfl⟩
theorem GX.trans {blk : Nat} {a b c : World} (h : GX blk a b) (k : GX blk b c) : GX blk a c :=
  ⟨k.os.trans h.os, k.tape.trans h.tape, k.output.trans h.output, Nat.le_trans h.size k.size, Nat.le_trans h.drawn k.drawn, fun i hi hn => (k.block i (Nat.lt_of_lt_of_le hi h.size) hn).trans (h.block i hi hn)⟩
theorem GB.gx {blk : Nat} {a b : World} (h : GB a b) : GX blk a b := ⟨h.1.os, h.1.tape, h.1.output, h.1.size, h.2, fun k hk _ => h.1.block k hk⟩
theorem GX.below {blk N : Nat} {a b : World} (h : GX blk a b) (hN : N ≤ a.heap.size) (hb : N ≤ blk) : Below N a b := ⟨h.os, h.tape, h.output, h.size, fun k hk => h.block k (by omega) (by omega)⟩
theorem GX.gb {blk : Nat} {w a b : World} (hw : GB w a) (h : GX blk a b) (hb : w.heap.size ≤ blk) : GB w b := ⟨hw.1.trans (h.below hw.1.size hb), Nat.le_trans hw.2 h.drawn⟩
theorem Gl.gx {w w' : World} {b4 o4 b6 o6 blk : Nat} (h : Gl w b4 o4 b6 o6) (hb : GX blk w w') (h0 : 2 < blk) (h4 : b4 ≠ blk) (h6 : b6 ≠ blk) : Gl w' b4 o4 b6 o6 :=
  h.blocks hb.size (fun k hk => hb.block k (by
    have := h.s2; have := h.lt4; have := h.lt6
    rcases hk with rfl | rfl | rfl | rfl | rfl <;> omega) (by rcases hk with rfl | rfl | rfl | rfl | rfl <;> omega))

theorem gb_grow {w w' : World} (h : GB w w') : ∃ q os', w' = grow (w.drewN q) os' := by
  refine ⟨w'.drawn - w.drawn, w'.heap.extract w.heap.size w'.heap.size, ?_⟩
  obtain ⟨⟨h1, h2, h3, h4, h5⟩, h6⟩ := h
  have hh : w'.heap = w.heap ++ w'.heap.extract w.heap.size w'.heap.size := by
    apply Array.ext_getElem?
    intro i
    by_cases hi : i < w.heap.size
    · rw [h5 i hi, Array.getElem?_append_left hi]
    · rw [Array.getElem?_append_right (by omega), Array.getElem?_extract]
      by_cases hj : i < w'.heap.size
      · rw [if_pos (by omega)]; congr 1; omega
      · rw [if_neg (by omega), Array.getElem?_eq_none (by omega)]
  have hd : w'.drawn = w.drawn + (w'.drawn - w.drawn) := by omega
  cases w'
  simp only at h1 h2 h3 hh hd
  subst h1 h2 h3
  unfold grow World.drewN
  simp only [World.mk.injEq]
  exact ⟨by first | exact trivial | exact hh | rfl | exact hd, by first | exact trivial | exact hh | rfl | exact hd, by first | exact trivial | exact hh | rfl | exact hd, by first | exact trivial | exact hh | rfl | exact hd, by first | exact trivial | exact hh | rfl | exact hd⟩

theorem blocks_mapBlock (w : World) (blk k : Nat) (f : Array Value → Array Value) (h : k ≠ blk) : (mapBlock w blk f).heap[k]? = w.heap[k]? := by
  simp only [mapBlock, Array.getElem?_modify]
  rw [if_neg (by omega)]

theorem sortWorld_gx (enc : V → List Value) (k : Nat) (w : World) (blk off m : Nat) (dk : Array V) (os : Array Obj) : GX blk w (sortWorldK enc k w blk off m dk os) where
  os := rfl
  tape := rfl
  output := rfl
  size := by simp [sortWorldK, grow, putRowK]
  drawn := by simp [sortWorldK, grow, putRowK]
  block := by
    intro j hj hn
    unfold sortWorldK grow
    rw [Array.getElem?_append_left (by simp [putRowK]; exact hj)]
    unfold putRowK putRow
    rw [blocks_mapBlock _ _ _ _ hn]
    rfl

theorem swo_cf : SWO (ltOf cf) where
  irrefl x := by unfold ltOf; rw [cf_self]; rfl
  trans x y z := by
    unfold ltOf
    intro h1 h2
    exact decide_eq_true (good_cf.trans _ _ _ (of_decide_eq_true h1) (of_decide_eq_true h2))
  ntrans x y z := by
    unfold ltOf
    intro h1 h2
    have a := of_decide_eq_false h1
    have b := of_decide_eq_false h2
    refine decide_eq_false (fun c => ?_)
    have e1 := good_cf.anti x y
    have e2 := good_cf.anti y z
    have e3 := good_cf.anti x z
    exact absurd (cf_le_lt (x := x) (y := z) (z := y) (by omega) (by
      have : ¬ cf z y ≤ 0 ∨ cf z y ≤ 0 := by omega
      by_cases h0 : cf y z = 0
      · have := (good_cf.eq0 _ _).1 h0; subst this; omega
      · by_cases h00 : cf x y = 0
        · have := (good_cf.eq0 _ _).1 h00; subst this; omega
        · omega)) (by omega)

set_option maxHeartbeats 1000000 in
/-- slices.SortFunc(vrps, Compare) -/
theorem sort_any (b4 o4 b6 o6 blk off cap : Nat) (d : Array V) (w : World) (hG : Gl w b4 o4 b6 o6) (h0 : 2 < blk) (h4 : b4 ≠ blk) (h6 : b6 ≠ blk) (hH : HoldsK (enc b4 o4 b6 o6) 7 w blk off d) (hblk : blk < w.heap.size) (hsz : d.size < 4611686018427387904) :
    Calls Tryd.prog 21 #[.slice (some ⟨blk, off, none⟩) d.size cap, .func (.func 22) #[] #[]] w fun e w' => e = .returned (.tuple #[]) ∧ ∃ d', d'.size = d.size ∧ d'.toList.Perm d.toList ∧ Mono d' ∧ HoldsK (enc b4 o4 b6 o6) 7 w' blk off d' ∧ GX blk w w' := by
  have eg : ∀ args w, (callFunc 22 args).run Tryd.prog w = .ok (.enter 22 args) w := enters_of Tryd.func22 (by kernel_rfl) rfl
  have hcmp : CmpLays Tryd.prog 22 #[] (enc b4 o4 b6 o6) 7 cf blk off d.size w := by
    intro m os dk hdk x y
    refine (compare_any x y b4 o4 b6 o6 _ (hG.gx (sortWorld_gx _ _ _ _ _ _ _ _) h0 h4 h6)).mono ?_
    rintro e w' ⟨he, hb⟩
    exact ⟨he, gb_grow hb⟩
  have hcon := AnyQ.slices_SortFunc Tryd.sortV 7 Tryd.isAgg41 Tryd.sizeOf41 (enc b4 o4 b6 o6) (fun _ => rfl) (fun x v hv => by simp [enc] at hv; rcases hv with rfl | rfl | rfl | rfl | rfl | rfl | rfl <;> rfl) cf swo_cf 22 #[] blk off cap d w eg hcmp hH hblk hsz
  refine Calls.mono hcon ?_
  rintro e w' ⟨he, d', n, os, ⟨hs, _, hp⟩, hsort, rfl⟩
  refine ⟨he, d', hs, ?_, ?_, holdsK_sortWorldK_c _ _ _ _ _ d d' n os hH hblk hs, sortWorld_gx _ _ _ _ _ _ _ _⟩
  · have e1 : d'.extract 0 d.size = d' := by rw [← hs]; simp
    have e2 : d.extract 0 d.size = d := by simp
    rw [e1, e2] at hp
    exact hp
  · intro i j hij hj
    have := hsort i j (Nat.zero_le _) hij (by omega)
    unfold ltOf at this
    exact of_decide_eq_false this
end Go.Proofs.Qxb6616947aDoor
