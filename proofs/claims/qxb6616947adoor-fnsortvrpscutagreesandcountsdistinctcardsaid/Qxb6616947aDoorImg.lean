/-
  The contract of zvrpImages.
-/
import Derived.Test.Qxb6616947aDoorVrp
import Derived.Laws.MakeOwn
namespace Go.Proofs.Qxb6616947aDoor
open Go.RowKit Go.Sort Go.Shelf Plain
set_option linter.unusedVariables false

def Z7 : Array Value := #[.int .u32 0, .int .u64 0, .int .u64 0, .pointer none, .int .u8 0, .int .i64 0, .string ⟨#[]⟩]
def Z21 : Array Value := #[.int .u32 0, .int .u8 0, .int .u8 0, .int .u8 0, .int .u8 0, .int .u8 0, .int .u8 0, .int .u8 0, .int .u8 0, .int .u8 0, .int .u8 0, .int .u8 0, .int .u8 0, .int .u8 0, .int .u8 0, .int .u8 0, .int .u8 0, .int .u8 0, .int .i64 0, .int .i64 0, .string ⟨#[]⟩]
theorem info41 : ∃ i, Tryd.prog.info? 41 = some i ∧ i.zero = some (.agg Z7) ∧ i.size = 7 ∧ i.bytes ≤ 1000 := by
  have h1 : (Tryd.prog.info? 41).bind (·.zero) = some (.agg Z7) := by kernel_rfl
  have h2 : (Tryd.prog.info? 41).map (·.size) = some 7 := by kernel_rfl
  have h3 : ((Tryd.prog.info? 41).map fun i => decide (i.bytes ≤ 1000)) = some true := by kernel_rfl
  cases h : Tryd.prog.info? 41 with
  | none => rw [h] at h2; cases h2
  | some i =>
    rw [h] at h1 h2 h3
    exact ⟨i, rfl, h1, by injection h2, of_decide_eq_true (by injection h3)⟩
theorem info45 : ∃ i, Tryd.prog.info? 45 = some i ∧ i.zero = some (.agg Z21) ∧ i.size = 21 ∧ i.bytes ≤ 1000 := by
  have h1 : (Tryd.prog.info? 45).bind (·.zero) = some (.agg Z21) := by kernel_rfl
  have h2 : (Tryd.prog.info? 45).map (·.size) = some 21 := by kernel_rfl
  have h3 : ((Tryd.prog.info? 45).map fun i => decide (i.bytes ≤ 1000)) = some true := by kernel_rfl
  cases h : Tryd.prog.info? 45 with
  | none => rw [h] at h2; cases h2
  | some i =>
    rw [h] at h1 h2 h3
    exact ⟨i, rfl, h1, by injection h2, of_decide_eq_true (by injection h3)⟩
theorem bytes_le {b n : Nat} (h : b ≤ 1000) (hn : n ≤ 8192) : (b : Int) * (n : Int) ≤ 281474976710656 := by
  have : b * n ≤ 1000 * 8192 := Nat.mul_le_mul h hn
  have : ((b * n : Nat) : Int) ≤ 8192000 := by omega
  rw [Int.natCast_mul] at this
  omega
theorem mk25 (l n : Nat) (hl : l ≤ n) (hn : n ≤ 8192) (w : World) : (Instr.makeSlice 25 (.int .i64 l) (.int .i64 n)).run Tryd.prog w = .ok (.slice (some ⟨w.heap.size, 0, none⟩) l n) (w.alloc (.cells (madeCells Z7 (n * 7)) 41)) := by
  obtain ⟨i, h1, h2, h3, h4⟩ := info41
  have h := run_make (P := Tryd.prog) w 25 41 i (.agg Z7) (by kernel_rfl) h1 h2 .i64 .i64 l n (by omega) (by omega) (bytes_le h4 hn) (by omega)
  rw [h3] at h
  exact h
theorem mk22 (n : Nat) (hn : n ≤ 8192) (w : World) : (Instr.makeSlice 22 (.int .i64 n) (.int .i64 n)).run Tryd.prog w = .ok (.slice (some ⟨w.heap.size, 0, none⟩) n n) (w.alloc (.cells (madeCells Z21 (n * 21)) 45)) := by
  obtain ⟨i, h1, h2, h3, h4⟩ := info45
  have h := run_make (P := Tryd.prog) w 22 45 i (.agg Z21) (by kernel_rfl) h1 h2 .i64 .i64 n n (by omega) (by omega) (bytes_le h4 hn) (by omega)
  rw [h3] at h
  exact h
theorem made_cell (z : Array Value) (n k : Nat) (t : TypeId) (w : World) (h : k < n) : (w.alloc (.cells (madeCells z n) t)).cell? ⟨w.heap.size, k, none⟩ = some z[k % z.size]! ∧ (w.alloc (.cells (madeCells z n) t)).frozen? ⟨w.heap.size, k, none⟩ = false := by
  constructor
  · rw [World.cell?_alloc_at _ _ _ _ rfl]
    simp [madeCells, h]
  · simp

theorem cells21 {w : World} {bv ov : Nat} {zs : Array Zv} (h : HoldsK encZ 21 w bv ov zs) {i : Nat} (hi : i < zs.size) {A : Nat} (hA : A = ov + i * 21) :
    ∃ c0 c1 c2 c3 c4 c5 c6 c7 c8 c9 c10 c11 c12 c13 c14 c15 c16 c17 c18 c19 c20 : Value, encZ zs[i]! = [c0, c1, c2, c3, c4, c5, c6, c7, c8, c9, c10, c11, c12, c13, c14, c15, c16, c17, c18, c19, c20] ∧ w.cell? ⟨bv, A, none⟩ = some c0 ∧ w.cell? ⟨bv, A + 1, none⟩ = some c1 ∧ w.cell? ⟨bv, A + 2, none⟩ = some c2 ∧ w.cell? ⟨bv, A + 3, none⟩ = some c3 ∧ w.cell? ⟨bv, A + 4, none⟩ = some c4 ∧ w.cell? ⟨bv, A + 5, none⟩ = some c5 ∧ w.cell? ⟨bv, A + 6, none⟩ = some c6 ∧ w.cell? ⟨bv, A + 7, none⟩ = some c7 ∧ w.cell? ⟨bv, A + 8, none⟩ = some c8 ∧ w.cell? ⟨bv, A + 9, none⟩ = some c9 ∧ w.cell? ⟨bv, A + 10, none⟩ = some c10 ∧ w.cell? ⟨bv, A + 11, none⟩ = some c11 ∧ w.cell? ⟨bv, A + 12, none⟩ = some c12 ∧ w.cell? ⟨bv, A + 13, none⟩ = some c13 ∧ w.cell? ⟨bv, A + 14, none⟩ = some c14 ∧ w.cell? ⟨bv, A + 15, none⟩ = some c15 ∧ w.cell? ⟨bv, A + 16, none⟩ = some c16 ∧ w.cell? ⟨bv, A + 17, none⟩ = some c17 ∧ w.cell? ⟨bv, A + 18, none⟩ = some c18 ∧ w.cell? ⟨bv, A + 19, none⟩ = some c19 ∧ w.cell? ⟨bv, A + 20, none⟩ = some c20 := by
  subst hA
  exact ⟨_, _, _, _, _, _, _, _, _, _, _, _, _, _, _, _, _, _, _, _, _, rfl, (h.cell hi (c := 0) (by omega)).1, (h.cell hi (c := 1) (by omega)).1, (h.cell hi (c := 2) (by omega)).1, (h.cell hi (c := 3) (by omega)).1, (h.cell hi (c := 4) (by omega)).1, (h.cell hi (c := 5) (by omega)).1, (h.cell hi (c := 6) (by omega)).1, (h.cell hi (c := 7) (by omega)).1, (h.cell hi (c := 8) (by omega)).1, (h.cell hi (c := 9) (by omega)).1, (h.cell hi (c := 10) (by omega)).1, (h.cell hi (c := 11) (by omega)).1, (h.cell hi (c := 12) (by omega)).1, (h.cell hi (c := 13) (by omega)).1, (h.cell hi (c := 14) (by omega)).1, (h.cell hi (c := 15) (by omega)).1, (h.cell hi (c := 16) (by omega)).1, (h.cell hi (c := 17) (by omega)).1, (h.cell hi (c := 18) (by omega)).1, (h.cell hi (c := 19) (by omega)).1, (h.cell hi (c := 20) (by omega)).1⟩

/-- while element i of the row at block w.heap.size is made -/
structure SI (w wr : World) (i n : Nat) (w' : World) : Prop where
  gx : GX w.heap.size wr w'
  some : ∀ k, k < n * 7 → (w'.cell? ⟨w.heap.size, k, none⟩).isSome = true
  fro : ∀ k, k < n * 7 → w'.frozen? ⟨w.heap.size, k, none⟩ = false
  oth : ∀ k, k < i * 7 ∨ i * 7 + 7 ≤ k → w'.cell? ⟨w.heap.size, k, none⟩ = wr.cell? ⟨w.heap.size, k, none⟩

theorem SI.lt {w wr w' : World} {i n : Nat} (h : SI w wr i n w') (hn : i < n) : w.heap.size < w'.heap.size := by
  have := h.some 0 (by omega)
  obtain ⟨v, hv⟩ := Option.isSome_iff_exists.1 this
  exact World.block_lt_of_cell? w' _ hv
theorem SI.step {w wr a b : World} {i n : Nat} (h : SI w wr i n a) (hn : i < n) (k : GB a b) : SI w wr i n b := by
  have hl := h.lt hn
  obtain ⟨hc, hf⟩ := bcell k.1
  refine ⟨h.gx.trans k.gx, fun j hj => ?_, fun j hj => ?_, fun j hj => ?_⟩
  · rw [hc _ _ (by omega)]; exact h.some j hj
  · rw [hf _ _ (by omega)]; exact h.fro j hj
  · rw [hc _ _ (by omega)]; exact h.oth j hj
theorem SI.sets {w wr a : World} {i n : Nat} (h : SI w wr i n a) (vs : List Value) (hv : vs.length = 7) : SI w wr i n (a.setCells w.heap.size (i * 7) vs) where
  gx := h.gx.trans (gx_setCells _ _ _ _)
  some := fun j hj => World.isSome_setCells w.heap.size vs (i * 7) a _ (h.some j hj)
  fro := fun j hj => (World.frozen?_setCells w.heap.size vs (i * 7) a _).trans (h.fro j hj)
  oth := fun j hj => by
    rw [World.cell?_setCells_out w.heap.size _ _ a _ (fun _ _ => by dsimp only; omega)]
    exact h.oth j hj

theorem SI.set7 {w wr a : World} {i n : Nat} {e0 e1 e2 e3 e4 e5 e6 : Value} (h : SI w wr i n a) : SI w wr i n (((((((a.setCell ⟨w.heap.size, i * 7, none⟩ e0).setCell ⟨w.heap.size, i * 7 + 1, none⟩ e1).setCell ⟨w.heap.size, i * 7 + 2, none⟩ e2).setCell ⟨w.heap.size, i * 7 + 3, none⟩ e3).setCell ⟨w.heap.size, i * 7 + 4, none⟩ e4).setCell ⟨w.heap.size, i * 7 + 5, none⟩ e5).setCell ⟨w.heap.size, i * 7 + 6, none⟩ e6) := by
  have := h.sets [e0, e1, e2, e3, e4, e5, e6] rfl
  rw [setCells7] at this
  exact this

theorem SI.done {w wr a : World} {i n : Nat} {b4 o4 b6 o6 : Nat} {d : Array V} (h : SI w wr i n a) (hd : HoldsK (enc b4 o4 b6 o6) 7 wr w.heap.size 0 d) (hs : d.size = n) (hi : i < n) (x : V) :
    HoldsK (enc b4 o4 b6 o6) 7 (a.setCells w.heap.size (i * 7) (enc b4 o4 b6 o6 x)) w.heap.size 0 (d.setIfInBounds i x) := by
  refine holdsK_of (by omega) (fun j c hj hc => ?_)
  rw [Array.size_setIfInBounds] at hj
  rw [World.frozen?_setCells, Nat.zero_add]
  refine ⟨?_, h.fro _ (by omega)⟩
  by_cases e : j = i
  · subst e
    rw [getElem!_set_same d j x hj]
    rw [World.cell?_setCells_in w.heap.size _ _ a (fun c hc => h.some _ (by rw [enc_len] at hc; omega)) c (by rw [enc_len]; exact hc)]
    rw [getElem!_pos]
  · rw [getElem!_set_other d i j x e, World.cell?_setCells_out w.heap.size _ _ a _ (fun _ _ => by rw [enc_len]; dsimp only; omega), h.oth _ (by omega)]
    have := (hd.cell hj hc).1
    rw [Nat.zero_add] at this
    exact this

theorem SI.start {w wr : World} {i n : Nat} {b4 o4 b6 o6 : Nat} {d : Array V} (hd : HoldsK (enc b4 o4 b6 o6) 7 wr w.heap.size 0 d) (hs : d.size = n) : SI w wr i n wr where
  gx := GX.refl _ _
  some := fun k hk => by
    have := (hd k (by rw [size_flatK]; omega)).1
    rw [Nat.zero_add] at this
    rw [this]; rfl
  fro := fun k hk => by
    have := (hd k (by rw [size_flatK]; omega)).2
    rw [Nat.zero_add] at this
    exact this
  oth := fun k hk => rfl

def zeroV : V := (0, none, 0, 0, 0, 0, ⟨#[]⟩)
/-- the first i images, then zero values -/
def dI (zs : Array Zv) (i : Nat) : Array V := (Array.range zs.size).map fun j => if j < i then im zs[j]! else zeroV
theorem dI_size (zs : Array Zv) (i : Nat) : (dI zs i).size = zs.size := by simp [dI]
theorem dI_get (zs : Array Zv) (i j : Nat) (h : j < zs.size) : (dI zs i)[j]! = if j < i then im zs[j]! else zeroV := by
  rw [getElem!_pos (dI zs i) j (by rw [dI_size]; exact h)]
  simp [dI]
theorem dI_succ (zs : Array Zv) (i : Nat) (h : i < zs.size) : (dI zs i).setIfInBounds i (im zs[i]!) = dI zs (i + 1) := by
  apply Array.ext
  · simp [dI_size]
  · intro j h1 h2
    rw [Array.size_setIfInBounds, dI_size] at h1
    rw [Array.getElem_setIfInBounds (by rw [dI_size]; exact h1)]
    simp only [dI, Array.getElem_map, Array.getElem_range]
    by_cases e : i = j
    · subst e; simp
    · rw [if_neg e]
      by_cases hj : j < i
      · rw [if_pos hj, if_pos (by omega)]
      · rw [if_neg hj, if_neg (by omega)]
theorem dI_all (zs : Array Zv) : dI zs zs.size = zs.map im := by
  apply Array.ext
  · simp [dI_size]
  · intro j h1 h2
    rw [dI_size] at h1
    simp [dI, h1]

theorem dI_start (zs : Array Zv) (b4 o4 b6 o6 : Nat) (w : World) : HoldsK (enc b4 o4 b6 o6) 7 (w.alloc (.cells (madeCells Z7 (zs.size * 7)) 41)) w.heap.size 0 (dI zs 0) := by
  refine holdsK_of (by omega) (fun j c hj hc => ?_)
  rw [dI_size] at hj
  rw [Nat.zero_add, dI_get zs 0 j hj, if_neg (by omega)]
  have h := made_cell Z7 (zs.size * 7) (j * 7 + c) 41 w (by omega)
  refine ⟨h.1.trans ?_, h.2⟩
  have e : (j * 7 + c) % Z7.size = c := by
    show (j * 7 + c) % 7 = c
    omega
  rw [e]
  have hc' : c = 0 ∨ c = 1 ∨ c = 2 ∨ c = 3 ∨ c = 4 ∨ c = 5 ∨ c = 6 := by omega
  rcases hc' with rfl | rfl | rfl | rfl | rfl | rfl | rfl <;> rfl

set_option maxHeartbeats 8000000 in
set_option maxRecDepth 100000 in
/-- zvrpImages -/
theorem images_any (p : Option Addr) (c : Nat) (zs : Array Zv) (b4 o4 b6 o6 : Nat) (w : World) (hG : Gl w b4 o4 b6 o6) (hn : zs.size ≤ 4096)
    (hR : zs.size = 0 ∨ ∃ bv ov, p = some ⟨bv, ov, none⟩ ∧ bv < w.heap.size ∧ HoldsK encZ 21 w bv ov zs) :
    Calls Tryd.prog 8 #[.slice p zs.size c] w fun e w' => e = .returned (.slice (some ⟨w.heap.size, 0, none⟩) zs.size zs.size) ∧ HoldsK (enc b4 o4 b6 o6) 7 w' w.heap.size 0 (zs.map im) ∧ GB w w' ∧ w.heap.size < w'.heap.size := by
  have HR : Hid (zs.size = 0 ∨ ∃ bv ov, p = some ⟨bv, ov, none⟩ ∧ bv < w.heap.size ∧ HoldsK encZ 21 w bv ov zs) := hR
  have HG : Hid (Gl w b4 o4 b6 o6) := hG
  clear hR hG
  go_enter Tryd.func8, Tryd.ntmps8
  have hmk := mk25 zs.size zs.size (Nat.le_refl _) (by omega)
  have HD0 : Hid (HoldsK (enc b4 o4 b6 o6) 7 (w.alloc (.cells (madeCells Z7 (zs.size * 7)) 41)) w.heap.size 0 (dI zs 0)) := dI_start zs b4 o4 b6 o6 w
  go_wp2
  go_loopg [4, 10] zs.size (fun g s4 s10 wr => ∃ i : Nat, i ≤ zs.size ∧ zs.size - i ≤ g ∧ s10 = .int .i64 i ∧ (HoldsK (enc b4 o4 b6 o6) 7 wr w.heap.size 0 (dI zs i) ∧ GB w wr ∧ w.heap.size < wr.heap.size))
  case atStart => exact ⟨0, by omega, by omega, rfl, HD0.out, (GB.refl w).alloc _, by simp⟩
  case round =>
    obtain ⟨i, hi, hg, rfl, hX⟩ := hrel
    have X : Hid (HoldsK (enc b4 o4 b6 o6) 7 wr w.heap.size 0 (dI zs i) ∧ GB w wr ∧ w.heap.size < wr.heap.size) := hX
    clear hX HD0 hmk
    by_cases hlt : i < zs.size
    · obtain ⟨n, hnn⟩ : ∃ n, n = zs.size := ⟨_, rfl⟩
      rcases HR.out with h0 | ⟨bv, ov, hp, hbv, hH⟩
      · omega
      subst hp
      have hHr : ∀ w', SI w wr i zs.size w' → HoldsK encZ 21 w' bv ov zs := fun w' h => by
        intro k hk
        have hb : w'.heap[bv]? = w.heap[bv]? := (h.gx.block bv (by have := X.out.2.2; omega) (by omega)).trans (X.out.2.1.1.block bv hbv)
        rw [World.cell?_of_block (w := w) hb, World.frozen?_of_block (w := w) hb]
        exact hH k hk
      have HS0 : Hid (SI w wr i zs.size wr) := SI.start X.out.1 (dI_size zs i)
      obtain ⟨c0, c1, c2, c3, c4, c5, c6, c7, c8, c9, c10, c11, c12, c13, c14, c15, c16, c17, c18, c19, c20, EZ, r0, r1, r2, r3, r4, r5, r6, r7, r8, r9, r10, r11, r12, r13, r14, r15, r16, r17, r18, r19, r20⟩ := cells21 (hHr wr HS0.out) hlt rfl
      obtain ⟨e0, e1, e2, e3, e4, e5, e6, EE⟩ : ∃ e0 e1 e2 e3 e4 e5 e6, enc b4 o4 b6 o6 (im zs[i]!) = [e0, e1, e2, e3, e4, e5, e6] := ⟨_, _, _, _, _, _, _, rfl⟩
      have HC : Hid (∀ w', SI w wr i zs.size w' → Calls Tryd.prog 12 #[c0, c1, .agg #[c2, c3, c4, c5, c6, c7, c8, c9, c10, c11, c12, c13, c14, c15, c16, c17], c18, c19, c20] w' fun e w'' => e = .returned (.agg #[e0, e1, e2, e3, e4, e5, e6]) ∧ GB w' w'') := fun w' h => by
        have hG' : Gl w' b4 o4 b6 o6 := (HG.out.gb X.out.2.1).gx h.gx (by have := HG.out.s2; omega) (by have := HG.out.lt4; omega) (by have := HG.out.lt6; omega)
        have hz := zzvrp_any zs[i]! b4 o4 b6 o6 w' hG'
        rw [EE] at hz
        unfold encZ at EZ
        simp only [List.cons.injEq, and_true] at EZ
        obtain ⟨rfl, rfl, rfl, rfl, rfl, rfl, rfl, rfl, rfl, rfl, rfl, rfl, rfl, rfl, rfl, rfl, rfl, rfl, rfl, rfl, rfl⟩ := EZ
        exact hz
      obtain ⟨a, hh, l, zz, b, m, t, rfl, rfl, rfl, rfl, rfl, rfl, rfl⟩ := enc_forms EE
      have HE : Hid (enc b4 o4 b6 o6 (im zs[i]!) = [.int .u32 a, .int .u64 hh, .int .u64 l, .pointer zz, .int .u8 b, .int .i64 m, .string t]) := EE
      have HS : Hid (∀ w', SI w wr i zs.size w' → SI w wr i zs.size w' ∧ w'.cell? ⟨bv, ov + i * 21, none⟩ = some c0 ∧ w'.cell? ⟨bv, ov + i * 21 + 1, none⟩ = some c1 ∧ w'.rangeAt bv (ov + i * 21 + 2) [c2, c3, c4, c5, c6, c7, c8, c9, c10, c11, c12, c13, c14, c15, c16, c17] ∧ w'.cell? ⟨bv, ov + i * 21 + 18, none⟩ = some c18 ∧ w'.cell? ⟨bv, ov + i * 21 + 19, none⟩ = some c19 ∧ w'.cell? ⟨bv, ov + i * 21 + 20, none⟩ = some c20 ∧ w'.cell? ⟨w.heap.size, i * 7, none⟩ = some (cvv w' w.heap.size (i * 7)) ∧ w'.cell? ⟨w.heap.size, i * 7 + 1, none⟩ = some (cvv w' w.heap.size (i * 7 + 1)) ∧ w'.cell? ⟨w.heap.size, i * 7 + 2, none⟩ = some (cvv w' w.heap.size (i * 7 + 2)) ∧ w'.cell? ⟨w.heap.size, i * 7 + 3, none⟩ = some (cvv w' w.heap.size (i * 7 + 3)) ∧ w'.cell? ⟨w.heap.size, i * 7 + 4, none⟩ = some (cvv w' w.heap.size (i * 7 + 4)) ∧ w'.cell? ⟨w.heap.size, i * 7 + 5, none⟩ = some (cvv w' w.heap.size (i * 7 + 5)) ∧ w'.cell? ⟨w.heap.size, i * 7 + 6, none⟩ = some (cvv w' w.heap.size (i * 7 + 6)) ∧ w'.frozen? ⟨w.heap.size, i * 7, none⟩ = false ∧ w'.frozen? ⟨w.heap.size, i * 7 + 1, none⟩ = false ∧ w'.frozen? ⟨w.heap.size, i * 7 + 2, none⟩ = false ∧ w'.frozen? ⟨w.heap.size, i * 7 + 3, none⟩ = false ∧ w'.frozen? ⟨w.heap.size, i * 7 + 4, none⟩ = false ∧ w'.frozen? ⟨w.heap.size, i * 7 + 5, none⟩ = false ∧ w'.frozen? ⟨w.heap.size, i * 7 + 6, none⟩ = false) := fun w' h => by
        have hc : ∀ o, w'.cell? ⟨bv, o, none⟩ = wr.cell? ⟨bv, o, none⟩ := fun o => World.cell?_of_block (h.gx.block bv (by have := X.out.2.2; omega) (by omega))
        have hra : w'.rangeAt bv (ov + i * 21 + 2) [c2, c3, c4, c5, c6, c7, c8, c9, c10, c11, c12, c13, c14, c15, c16, c17] := by
          intro j v hv
          rw [hc]
          have hj : j < 16 := by
            have := (List.getElem?_eq_some_iff.1 hv).1
            simpa using this
          have h16 : j = 0 ∨ j = 1 ∨ j = 2 ∨ j = 3 ∨ j = 4 ∨ j = 5 ∨ j = 6 ∨ j = 7 ∨ j = 8 ∨ j = 9 ∨ j = 10 ∨ j = 11 ∨ j = 12 ∨ j = 13 ∨ j = 14 ∨ j = 15 := by omega
          rcases h16 with rfl | rfl | rfl | rfl | rfl | rfl | rfl | rfl | rfl | rfl | rfl | rfl | rfl | rfl | rfl | rfl <;> simp at hv <;> subst hv
          · exact r2
          · exact r3
          · exact r4
          · exact r5
          · exact r6
          · exact r7
          · exact r8
          · exact r9
          · exact r10
          · exact r11
          · exact r12
          · exact r13
          · exact r14
          · exact r15
          · exact r16
          · exact r17
        exact ⟨h, (hc _).trans r0, (hc _).trans r1, hra, (hc _).trans r18, (hc _).trans r19, (hc _).trans r20, cvv_of (h.some _ (by omega)), cvv_of (h.some _ (by omega)), cvv_of (h.some _ (by omega)), cvv_of (h.some _ (by omega)), cvv_of (h.some _ (by omega)), cvv_of (h.some _ (by omega)), cvv_of (h.some _ (by omega)), h.fro _ (by omega), h.fro _ (by omega), h.fro _ (by omega), h.fro _ (by omega), h.fro _ (by omega), h.fro _ (by omega), h.fro _ (by omega)⟩
      clear EE EZ hHr hH r0 r1 r2 r3 r4 r5 r6 r7 r8 r9 r10 r11 r12 r13 r14 r15 r16 r17 r18 r19 r20
      have hu43 : Tryd.prog.underlying 43 = some (.array 16 5) := by kernel_rfl
      have hs43 : (Tryd.prog.info? 43).map (·.size) = some 16 := by kernel_rfl
      go_wp2_with fail
      go_region_held3 (fun w' => SI w wr i zs.size w' ∧ w'.cell? ⟨bv, ov + i * 21, none⟩ = some c0 ∧ w'.cell? ⟨bv, ov + i * 21 + 1, none⟩ = some c1 ∧ w'.rangeAt bv (ov + i * 21 + 2) [c2, c3, c4, c5, c6, c7, c8, c9, c10, c11, c12, c13, c14, c15, c16, c17] ∧ w'.cell? ⟨bv, ov + i * 21 + 18, none⟩ = some c18 ∧ w'.cell? ⟨bv, ov + i * 21 + 19, none⟩ = some c19 ∧ w'.cell? ⟨bv, ov + i * 21 + 20, none⟩ = some c20 ∧ w'.cell? ⟨w.heap.size, i * 7, none⟩ = some (cvv w' w.heap.size (i * 7)) ∧ w'.cell? ⟨w.heap.size, i * 7 + 1, none⟩ = some (cvv w' w.heap.size (i * 7 + 1)) ∧ w'.cell? ⟨w.heap.size, i * 7 + 2, none⟩ = some (cvv w' w.heap.size (i * 7 + 2)) ∧ w'.cell? ⟨w.heap.size, i * 7 + 3, none⟩ = some (cvv w' w.heap.size (i * 7 + 3)) ∧ w'.cell? ⟨w.heap.size, i * 7 + 4, none⟩ = some (cvv w' w.heap.size (i * 7 + 4)) ∧ w'.cell? ⟨w.heap.size, i * 7 + 5, none⟩ = some (cvv w' w.heap.size (i * 7 + 5)) ∧ w'.cell? ⟨w.heap.size, i * 7 + 6, none⟩ = some (cvv w' w.heap.size (i * 7 + 6)) ∧ w'.frozen? ⟨w.heap.size, i * 7, none⟩ = false ∧ w'.frozen? ⟨w.heap.size, i * 7 + 1, none⟩ = false ∧ w'.frozen? ⟨w.heap.size, i * 7 + 2, none⟩ = false ∧ w'.frozen? ⟨w.heap.size, i * 7 + 3, none⟩ = false ∧ w'.frozen? ⟨w.heap.size, i * 7 + 4, none⟩ = false ∧ w'.frozen? ⟨w.heap.size, i * 7 + 5, none⟩ = false ∧ w'.frozen? ⟨w.heap.size, i * 7 + 6, none⟩ = false)
        (first | with_reducible exact HS.out _ (HS0.out.step hlt (GB.refl wr).drew) | with_reducible exact HS.out _ (by assumption) | with_reducible exact HS.out _ (SI.set7 (by assumption)))
        (first | (go_at_call 12; have hg := (show SI w wr i zs.size _ ∧ _ by assumption); refine (HC.out _ hg.1).mono ?_; rintro e v ⟨rfl, hb⟩; have hb2 := hg.1.step hlt hb; clear hg hb))
      have hv := hb2
      have h7 := hv.done X.out.1 (dI_size zs i) hlt (im zs[i]!)
      rw [HE.out, setCells7, dI_succ zs i hlt] at h7
      have H7 : Hid _ := h7
      have HV : Hid _ := SI.set7 (e0 := .int .u32 a) (e1 := .int .u64 hh) (e2 := .int .u64 l) (e3 := .pointer zz) (e4 := .int .u8 b) (e5 := .int .i64 m) (e6 := .string t) hv
      clear h7 hv
      go_wp2
      go_roundg (zs.size - (i + 1))
      case measure => omega
      case rel => exact ⟨i + 1, by omega, Nat.le_refl _, by go_num, H7.out, GX.gb X.out.2.1 HV.out.gx (Nat.le_refl _), HV.out.lt hlt⟩
    · have : i = zs.size := by omega
      subst this
      go_wp2
      go_ret
      have h := X.out
      rw [dI_all] at h
      exact ⟨rfl, h⟩
end Go.Proofs.Qxb6616947aDoor
