/-
  The contract of zvrpClone.
-/
import Derived.Test.Qxb6616947aDoorImg
namespace Go.Proofs.Qxb6616947aDoor
open Go.RowKit Go.Sort Go.Shelf Plain
set_option linter.unusedVariables false

theorem encZ_forms {z : Zv} {c0 c1 c2 c3 c4 c5 c6 c7 c8 c9 c10 c11 c12 c13 c14 c15 c16 c17 c18 c19 c20 : Value} (h : encZ z = [c0, c1, c2, c3, c4, c5, c6, c7, c8, c9, c10, c11, c12, c13, c14, c15, c16, c17, c18, c19, c20]) :
    ∃ (a f : Int) (x0 x1 x2 x3 x4 x5 x6 x7 x8 x9 x10 x11 x12 x13 x14 x15 : Int) (bi ml : Int) (t : ByteArray), c0 = .int .u32 a ∧ c1 = .int .u8 f ∧ c2 = .int .u8 x0 ∧ c3 = .int .u8 x1 ∧ c4 = .int .u8 x2 ∧ c5 = .int .u8 x3 ∧ c6 = .int .u8 x4 ∧ c7 = .int .u8 x5 ∧ c8 = .int .u8 x6 ∧ c9 = .int .u8 x7 ∧ c10 = .int .u8 x8 ∧ c11 = .int .u8 x9 ∧ c12 = .int .u8 x10 ∧ c13 = .int .u8 x11 ∧ c14 = .int .u8 x12 ∧ c15 = .int .u8 x13 ∧ c16 = .int .u8 x14 ∧ c17 = .int .u8 x15 ∧ c18 = .int .i64 bi ∧ c19 = .int .i64 ml ∧ c20 = .string t := by
  unfold encZ at h
  simp only [List.cons.injEq, and_true] at h
  obtain ⟨rfl, rfl, rfl, rfl, rfl, rfl, rfl, rfl, rfl, rfl, rfl, rfl, rfl, rfl, rfl, rfl, rfl, rfl, rfl, rfl, rfl⟩ := h
  exact ⟨_, _, _, _, _, _, _, _, _, _, _, _, _, _, _, _, _, _, _, _, _, rfl, rfl, rfl, rfl, rfl, rfl, rfl, rfl, rfl, rfl, rfl, rfl, rfl, rfl, rfl, rfl, rfl, rfl, rfl, rfl, rfl⟩

theorem setCells21 (w : World) (b o : Nat) (c0 c1 c2 c3 c4 c5 c6 c7 c8 c9 c10 c11 c12 c13 c14 c15 c16 c17 c18 c19 c20 : Value) : w.setCells b o [c0, c1, c2, c3, c4, c5, c6, c7, c8, c9, c10, c11, c12, c13, c14, c15, c16, c17, c18, c19, c20] = (((((((((((((((((((((w.setCell ⟨b, o, none⟩ c0).setCell ⟨b, o + 1, none⟩ c1).setCell ⟨b, o + 2, none⟩ c2).setCell ⟨b, o + 3, none⟩ c3).setCell ⟨b, o + 4, none⟩ c4).setCell ⟨b, o + 5, none⟩ c5).setCell ⟨b, o + 6, none⟩ c6).setCell ⟨b, o + 7, none⟩ c7).setCell ⟨b, o + 8, none⟩ c8).setCell ⟨b, o + 9, none⟩ c9).setCell ⟨b, o + 10, none⟩ c10).setCell ⟨b, o + 11, none⟩ c11).setCell ⟨b, o + 12, none⟩ c12).setCell ⟨b, o + 13, none⟩ c13).setCell ⟨b, o + 14, none⟩ c14).setCell ⟨b, o + 15, none⟩ c15).setCell ⟨b, o + 16, none⟩ c16).setCell ⟨b, o + 17, none⟩ c17).setCell ⟨b, o + 18, none⟩ c18).setCell ⟨b, o + 19, none⟩ c19).setCell ⟨b, o + 20, none⟩ c20) := rfl

/-- load and store of a whole plain VRP, each as one word -/
def Ld45 (x : Value) : Sem Value := Instr.loadAt 45 x
def St45 (x v : Value) : Sem Unit := Instr.storeAt 45 x v
theorem ld45_fold (x : Value) : Instr.loadAt 45 x = Ld45 x := rfl
theorem st45_fold (x v : Value) : Instr.storeAt 45 x v = St45 x v := rfl
theorem info45s : (Tryd.prog.info? 45).map (·.size) = some 21 := by kernel_rfl
theorem range_of {w : World} {bv ov : Nat} {zs : Array Zv} (h : HoldsK encZ 21 w bv ov zs) {i : Nat} (hi : i < zs.size) : w.rangeAt bv (ov + i * 21) (encZ zs[i]!) := by
  intro j v hv
  have hj : j < 21 := (List.getElem?_eq_some_iff.1 hv).1
  rw [(h.cell hi hj).1, getElem!_pos (encZ zs[i]!) j hj]
  rw [List.getElem?_eq_getElem hj] at hv
  exact hv
theorem ld45 {w : World} {b o : Nat} {z : Zv} (h : w.rangeAt b o (encZ z)) : (Ld45 (.pointer (some ⟨b, o, none⟩))).run Tryd.prog w = .ok (.agg (encZ z).toArray) w := by
  obtain ⟨d, hu, hd⟩ : ∃ d, Tryd.prog.underlying 45 = some d ∧ d.isRow = true := by
    have h : (Tryd.prog.underlying 45).map (·.isRow) = some true := by kernel_rfl
    cases hq : Tryd.prog.underlying 45 with
    | none => rw [hq] at h; cases h
    | some d => rw [hq] at h; exact ⟨d, rfl, by injection h⟩
  exact run_loadAt_mid w b o 45 (encZ z) d h hu hd info45s
theorem encZ_one (z : Zv) : (encZ z).toArray.all (·.oneCell') = true := by
  refine all_oneCell_toArray (fun v hv => ?_)
  unfold encZ at hv
  simp only [List.mem_cons, List.not_mem_nil, or_false] at hv
  rcases hv with rfl | rfl | rfl | rfl | rfl | rfl | rfl | rfl | rfl | rfl | rfl | rfl | rfl | rfl | rfl | rfl | rfl | rfl | rfl | rfl | rfl <;> rfl
theorem st45 {w : World} {b o : Nat} (z : Zv) (h : w.there b o 21) : (St45 (.pointer (some ⟨b, o, none⟩)) (.agg (encZ z).toArray)).run Tryd.prog w = .ok () (w.setCells b o (encZ z)) :=
  run_storeAt_mid w b o 45 (encZ z).toArray h info45s (encZ_one z)

theorem holds_setK {α : Type} [Inhabited α] {en : α → List Value} {k : Nat} (hk : ∀ x, (en x).length = k) (k0 : 0 < k) {w : World} {blk off : Nat} {d : Array α} (h : HoldsK en k w blk off d) {i : Nat} (hi : i < d.size) (x : α) :
    HoldsK en k (w.setCells blk (off + i * k) (en x)) blk off (d.setIfInBounds i x) := by
  refine holdsK_of k0 (fun j c hj hc => ?_)
  rw [Array.size_setIfInBounds] at hj
  rw [World.frozen?_setCells]
  refine ⟨?_, (h.cell hj hc).2⟩
  by_cases e : j = i
  · subst e
    rw [getElem!_set_same d j x hj]
    rw [World.cell?_setCells_in blk _ _ w (fun c hc => by rw [(h.cell hj (by rw [hk] at hc; exact hc)).1]; rfl) c (by rw [hk]; exact hc)]
    rw [getElem!_pos]
  · rw [getElem!_set_other d i j x e, World.cell?_setCells_out blk _ _ w _ (fun _ _ => by
      rw [hk]; dsimp only
      rcases Nat.lt_or_ge j i with hl | hg
      · left
        have : (j + 1) * k ≤ i * k := Nat.mul_le_mul_right k hl
        rw [Nat.add_mul, Nat.one_mul] at this
        omega
      · right
        have : (i + 1) * k ≤ j * k := Nat.mul_le_mul_right k (by omega)
        rw [Nat.add_mul, Nat.one_mul] at this
        omega)]
    exact (h.cell hj hc).1

def zeroZ : Zv := (0, 0, fun _ => 0, 0, 0, ⟨#[]⟩)
def dZ (zs : Array Zv) (i : Nat) : Array Zv := (Array.range zs.size).map fun j => if j < i then zs[j]! else zeroZ
theorem dZ_size (zs : Array Zv) (i : Nat) : (dZ zs i).size = zs.size := by simp [dZ]
theorem dZ_get (zs : Array Zv) (i j : Nat) (h : j < zs.size) : (dZ zs i)[j]! = if j < i then zs[j]! else zeroZ := by
  rw [getElem!_pos (dZ zs i) j (by rw [dZ_size]; exact h)]
  simp [dZ]
theorem dZ_succ (zs : Array Zv) (i : Nat) (h : i < zs.size) : (dZ zs i).setIfInBounds i zs[i]! = dZ zs (i + 1) := by
  apply Array.ext
  · simp [dZ_size]
  · intro j h1 h2
    rw [Array.size_setIfInBounds, dZ_size] at h1
    rw [Array.getElem_setIfInBounds (by rw [dZ_size]; exact h1)]
    simp only [dZ, Array.getElem_map, Array.getElem_range]
    by_cases e : i = j
    · subst e; simp
    · rw [if_neg e]
      by_cases hj : j < i
      · rw [if_pos hj, if_pos (by omega)]
      · rw [if_neg hj, if_neg (by omega)]
theorem dZ_all (zs : Array Zv) : dZ zs zs.size = zs := by
  apply Array.ext
  · simp [dZ_size]
  · intro j h1 h2
    rw [dZ_size] at h1
    simp [dZ, h1]
theorem dZ_start (zs : Array Zv) (w : World) : HoldsK encZ 21 (w.alloc (.cells (madeCells Z21 (zs.size * 21)) 45)) w.heap.size 0 (dZ zs 0) := by
  refine holdsK_of (by omega) (fun j c hj hc => ?_)
  rw [dZ_size] at hj
  rw [Nat.zero_add, dZ_get zs 0 j hj, if_neg (by omega)]
  have h := made_cell Z21 (zs.size * 21) (j * 21 + c) 45 w (by omega)
  refine ⟨h.1.trans ?_, h.2⟩
  have e : (j * 21 + c) % Z21.size = c := by
    show (j * 21 + c) % 21 = c
    omega
  rw [e]
  have hc' : c = 0 ∨ c = 1 ∨ c = 2 ∨ c = 3 ∨ c = 4 ∨ c = 5 ∨ c = 6 ∨ c = 7 ∨ c = 8 ∨ c = 9 ∨ c = 10 ∨ c = 11 ∨ c = 12 ∨ c = 13 ∨ c = 14 ∨ c = 15 ∨ c = 16 ∨ c = 17 ∨ c = 18 ∨ c = 19 ∨ c = 20 := by omega
  rcases hc' with rfl | rfl | rfl | rfl | rfl | rfl | rfl | rfl | rfl | rfl | rfl | rfl | rfl | rfl | rfl | rfl | rfl | rfl | rfl | rfl | rfl <;> rfl

attribute [local go_sem ↓] ld45_fold st45_fold

set_option maxHeartbeats 8000000 in
set_option maxRecDepth 100000 in
/-- zvrpClone -/
theorem clone_any (p : Option Addr) (c : Nat) (zs : Array Zv) (w : World) (hn : zs.size ≤ 4096)
    (hR : zs.size = 0 ∨ ∃ bv ov, p = some ⟨bv, ov, none⟩ ∧ bv < w.heap.size ∧ HoldsK encZ 21 w bv ov zs) :
    Calls Tryd.prog 7 #[.slice p zs.size c] w fun e w' => ∃ p', e = .returned (.slice p' zs.size zs.size) ∧ (zs.size = 0 ∨ ∃ bv ov, p' = some ⟨bv, ov, none⟩ ∧ bv < w'.heap.size ∧ HoldsK encZ 21 w' bv ov zs) ∧ GB w w' := by
  have HH : Hid (zs.size = 0 ∨ ∃ bv ov, p = some ⟨bv, ov, none⟩ ∧ bv < w.heap.size ∧ HoldsK encZ 21 w bv ov zs) := hR
  clear hR
  cases p with
  | none =>
    have h0 : zs.size = 0 := by
      rcases HH.out with h | ⟨bv, ov, h, _⟩
      · exact h
      · cases h
    rw [h0]
    have heq := fun (W : World) => Lib.run_eql_slice_nil (P := Tryd.prog) W 22 45 none 0 c 0 0 (by kernel_rfl)
    clear HH
    go_enter Tryd.func7, Tryd.ntmps7
    go_wp2
    go_ret
    exact ⟨none, rfl, .inl (by simp), GB.refl w⟩
  | some ad =>
    have hmk := mk22 zs.size (by omega)
    have HD0 : Hid (HoldsK encZ 21 (w.alloc (.cells (madeCells Z21 (zs.size * 21)) 45)) w.heap.size 0 (dZ zs 0)) := dZ_start zs w
    have heq := fun (W : World) => Lib.run_eql_slice_nil (P := Tryd.prog) W 22 45 (some ad) zs.size c 0 0 (by kernel_rfl)
    go_enter Tryd.func7, Tryd.ntmps7
    go_wp2
    go_loopg [4, 12] zs.size (fun g s4 s12 wr => ∃ i : Nat, i ≤ zs.size ∧ zs.size - i ≤ g ∧ s12 = .int .i64 i ∧ (HoldsK encZ 21 wr w.heap.size 0 (dZ zs i) ∧ GB w wr ∧ w.heap.size < wr.heap.size))
    case atStart => exact ⟨0, by omega, by omega, rfl, HD0.out, (GB.refl w).alloc _, by simp⟩
    case round =>
      obtain ⟨i, hi, hg, rfl, hX⟩ := hrel
      have X0 : Hid (HoldsK encZ 21 wr w.heap.size 0 (dZ zs i) ∧ GB w wr ∧ w.heap.size < wr.heap.size) := hX
      clear hX HD0 hmk
      by_cases hlt : i < zs.size
      · rcases HH.out with hz0 | ⟨bv, ov, hpa, hbv, hH⟩
        · omega
        obtain rfl := Option.some.inj hpa
        have hHr : HoldsK encZ 21 wr bv ov zs := by
          intro k hk
          have hb : wr.heap[bv]? = w.heap[bv]? := X0.out.2.1.1.block bv hbv
          rw [World.cell?_of_block (w := w) hb, World.frozen?_of_block (w := w) hb]
          exact hH k hk
        obtain ⟨X, HX⟩ : ∃ X, Hid (X = (encZ zs[i]!).toArray) := ⟨_, rfl⟩
        have hld : (Ld45 (.pointer (some ⟨bv, ov + i * 21, none⟩))).run Tryd.prog wr = .ok (.agg X) wr := by rw [HX.out]; exact ld45 (range_of hHr hlt)
        have hst : (St45 (.pointer (some ⟨w.heap.size, i * 21, none⟩)) (.agg X)).run Tryd.prog wr = .ok () (wr.setCells w.heap.size (i * 21) X.toList) := by
          rw [HX.out]
          refine st45 _ (fun c hc => ?_)
          have := X0.out.1.cell (i := i) (c := c) (by rw [dZ_size]; exact hlt) hc
          rw [Nat.zero_add] at this
          exact ⟨by rw [this.1]; rfl, this.2⟩
        have h7 := holds_setK (en := encZ) (k := 21) (fun _ => rfl) (by omega) X0.out.1 (i := i) (by rw [dZ_size]; exact hlt) zs[i]!
        rw [dZ_succ zs i hlt, Nat.zero_add] at h7
        have H7 : Hid (HoldsK encZ 21 (wr.setCells w.heap.size (i * 21) X.toList) w.heap.size 0 (dZ zs (i + 1))) := by rw [HX.out]; exact h7
        have H8 : Hid (GX w.heap.size wr (wr.setCells w.heap.size (i * 21) X.toList)) := gx_setCells w.heap.size (i * 21) X.toList wr
        clear h7 hHr hH hpa
        go_wp2
        go_roundg (zs.size - (i + 1))
        case measure => omega
        case rel => exact ⟨i + 1, by omega, Nat.le_refl _, by go_num, H7.out, GX.gb X0.out.2.1 H8.out (Nat.le_refl _), Nat.lt_of_lt_of_le X0.out.2.2 H8.out.size⟩
      · have : i = zs.size := by omega
        subst this
        go_wp2
        go_ret
        have h := X0.out
        rw [dZ_all] at h
        exact ⟨_, rfl, .inr ⟨_, _, rfl, h.2.2, h.1⟩, h.2.1⟩
end Go.Proofs.Qxb6616947aDoor
