/-
  From the data that the row reads to what the walks ask: a slice of plain VRPs; the three listed variables.
-/
import Derived.Test.Qxb6616947aDoorRows
import Derived.Test.Qxb6616947aDoorLawA
import Derived.ProofKit

import Derived.OpenShut
import Derived.LaidMore
import Derived.Deep.Slices
import Derived.Lib.LaidU8
namespace Go.Proofs.Qxb6616947aDoor
open Go.ChangeShapes Go.WideShapes Go.ChangeAt Go.RowKit Go.Sort Go.Shelf Plain
set_option linter.unusedVariables false

theorem list21 : ∀ l : List Value, l.length = 21 → ∃ c0 c1 c2 c3 c4 c5 c6 c7 c8 c9 c10 c11 c12 c13 c14 c15 c16 c17 c18 c19 c20, l = [c0, c1, c2, c3, c4, c5, c6, c7, c8, c9, c10, c11, c12, c13, c14, c15, c16, c17, c18, c19, c20]
  | [c0, c1, c2, c3, c4, c5, c6, c7, c8, c9, c10, c11, c12, c13, c14, c15, c16, c17, c18, c19, c20], _ => ⟨_, _, _, _, _, _, _, _, _, _, _, _, _, _, _, _, _, _, _, _, _, rfl⟩

theorem u8_of {n : Int} (h : (Lit.int .u8 n).wf = true) : ∃ b : UInt8, n = (b.toNat : Int) := by
  simp [Lit.wf, IntKind.min, IntKind.max, IntKind.signed, IntKind.bits] at h
  refine ⟨UInt8.ofNat n.toNat, ?_⟩
  rw [UInt8.toNat_ofNat']
  omega

section
variable {H : Type} {enc : TypeId × Value → H} {W : World} {base : Nat} {spare : Nat → Bool} {held : Bool}
set_option maxRecDepth 100000 in
theorem elem_of {n : Nat} {cs : List Value} {x : DataW H × List MemPlace} (h : DataW.trod enc Tryd.prog W base spare held n 45 cs = some x) : ∃ z : Zv, cs = encZ z ∧ z.2.2.2.2.2.size ≤ maxLen := by
  have n45 : Tryd.prog.cellsOf 45 = 21 := by kernel_rfl
  have n43 : Tryd.prog.cellsOf 43 = 16 := by kernel_rfl
  have n29 : Tryd.prog.cellsOf 29 = 1 := by kernel_rfl
  have n5 : Tryd.prog.cellsOf 5 = 1 := by kernel_rfl
  have n3 : Tryd.prog.cellsOf 3 = 1 := by kernel_rfl
  have n9 : Tryd.prog.cellsOf 9 = 1 := by kernel_rfl
  obtain ⟨xs, m, rfl, rfl, hl, hn, hel⟩ := DataW.trod_struct Tryd.underlying45 h
  rw [n45] at hl
  obtain ⟨c0, c1, c2, c3, c4, c5, c6, c7, c8, c9, c10, c11, c12, c13, c14, c15, c16, c17, c18, c19, c20, rfl⟩ := list21 cs hl
  have hx : xs.length = 6 := hn
  match xs, hx, hel with
  | [x0, x1, x2, x3, x4, x5], _, hel =>
    have k0 : DataW.trod enc Tryd.prog W base spare held m 29 ((([c0, c1, c2, c3, c4, c5, c6, c7, c8, c9, c10, c11, c12, c13, c14, c15, c16, c17, c18, c19, c20] : List Value).drop 0).take (Tryd.prog.cellsOf 29)) = some x0 := hel 0 _ rfl
    have k1 : DataW.trod enc Tryd.prog W base spare held m 5 ((([c0, c1, c2, c3, c4, c5, c6, c7, c8, c9, c10, c11, c12, c13, c14, c15, c16, c17, c18, c19, c20] : List Value).drop 1).take (Tryd.prog.cellsOf 5)) = some x1 := hel 1 _ rfl
    have k2 : DataW.trod enc Tryd.prog W base spare held m 43 ((([c0, c1, c2, c3, c4, c5, c6, c7, c8, c9, c10, c11, c12, c13, c14, c15, c16, c17, c18, c19, c20] : List Value).drop 2).take (Tryd.prog.cellsOf 43)) = some x2 := hel 2 _ rfl
    have k3 : DataW.trod enc Tryd.prog W base spare held m 3 ((([c0, c1, c2, c3, c4, c5, c6, c7, c8, c9, c10, c11, c12, c13, c14, c15, c16, c17, c18, c19, c20] : List Value).drop 18).take (Tryd.prog.cellsOf 3)) = some x3 := hel 3 _ rfl
    have k4 : DataW.trod enc Tryd.prog W base spare held m 3 ((([c0, c1, c2, c3, c4, c5, c6, c7, c8, c9, c10, c11, c12, c13, c14, c15, c16, c17, c18, c19, c20] : List Value).drop 19).take (Tryd.prog.cellsOf 3)) = some x4 := hel 4 _ rfl
    have k5 : DataW.trod enc Tryd.prog W base spare held m 9 ((([c0, c1, c2, c3, c4, c5, c6, c7, c8, c9, c10, c11, c12, c13, c14, c15, c16, c17, c18, c19, c20] : List Value).drop 20).take (Tryd.prog.cellsOf 9)) = some x5 := hel 5 _ rfl
    obtain ⟨a0, e0, _, _⟩ := DataW.trod_int Tryd.underlying29 k0
    obtain ⟨a1, e1, _, _⟩ := DataW.trod_int Tryd.underlying5 k1
    obtain ⟨a3, e3, _, _⟩ := DataW.trod_int Tryd.underlying3 k3
    obtain ⟨a4, e4, _, _⟩ := DataW.trod_int Tryd.underlying3 k4
    obtain ⟨t5, e5, _, ht⟩ := DataW.trod_string Tryd.underlying9 k5
    obtain ⟨ys, m2, _, _, hl2, hn2, hel2⟩ := DataW.trod_array Tryd.underlying43 k2
    rw [n29] at e0
    rw [n5] at e1 hel2
    rw [n43] at hel2
    rw [n3] at e3 e4
    rw [n9] at e5
    simp only [List.drop_zero, List.drop_succ_cons, List.take_succ_cons, List.take_zero, List.cons.injEq, and_true] at e0 e1 e3 e4 e5
    have hb : ∀ i, i < 16 → ∃ b : UInt8, ([c2, c3, c4, c5, c6, c7, c8, c9, c10, c11, c12, c13, c14, c15, c16, c17] : List Value)[i]? = some (.int .u8 b.toNat) := by
      intro i hi
      have hy : i < ys.length := by rw [hn2]; exact hi
      have hq := hel2 i hi
      rw [List.getElem?_eq_getElem hy] at hq
      obtain ⟨b0, eb, _, hw⟩ := DataW.trod_int Tryd.underlying5 hq
      obtain ⟨b, rfl⟩ := u8_of hw
      refine ⟨b, ?_⟩
      have h16 : i = 0 ∨ i = 1 ∨ i = 2 ∨ i = 3 ∨ i = 4 ∨ i = 5 ∨ i = 6 ∨ i = 7 ∨ i = 8 ∨ i = 9 ∨ i = 10 ∨ i = 11 ∨ i = 12 ∨ i = 13 ∨ i = 14 ∨ i = 15 := by omega
      rcases h16 with rfl | rfl | rfl | rfl | rfl | rfl | rfl | rfl | rfl | rfl | rfl | rfl | rfl | rfl | rfl | rfl <;> simpa using eb
    obtain ⟨g, hg⟩ : ∃ g : Nat → UInt8, ∀ i, i < 16 → ([c2, c3, c4, c5, c6, c7, c8, c9, c10, c11, c12, c13, c14, c15, c16, c17] : List Value)[i]? = some (.int .u8 (g i).toNat) :=
      ⟨fun i => if h : i < 16 then (hb i h).choose else 0, fun i hi => by simp only [dif_pos hi]; exact (hb i hi).choose_spec⟩
    refine ⟨(a0, a1, g, a3, a4, t5), ?_, ht⟩
    have g0 := hg 0 (by omega)
    have g1 := hg 1 (by omega)
    have g2 := hg 2 (by omega)
    have g3 := hg 3 (by omega)
    have g4 := hg 4 (by omega)
    have g5 := hg 5 (by omega)
    have g6 := hg 6 (by omega)
    have g7 := hg 7 (by omega)
    have g8 := hg 8 (by omega)
    have g9 := hg 9 (by omega)
    have g10 := hg 10 (by omega)
    have g11 := hg 11 (by omega)
    have g12 := hg 12 (by omega)
    have g13 := hg 13 (by omega)
    have g14 := hg 14 (by omega)
    have g15 := hg 15 (by omega)
    simp only [List.getElem?_cons_zero, List.getElem?_cons_succ, Option.some.injEq] at g0 g1 g2 g3 g4 g5 g6 g7 g8 g9 g10 g11 g12 g13 g14 g15
    unfold encZ
    rw [e0, e1, e3, e4, e5, g0, g1, g2, g3, g4, g5, g6, g7, g8, g9, g10, g11, g12, g13, g14, g15]

theorem cells_get {a : Addr} {n : Nat} {cs : List Value} (h : W.cells? base a n = some cs) : cs.length = n ∧ ∀ j, j < n → W.cell? (a.add j) = cs[j]? := by
  unfold World.cells? at h
  split at h
  · exact ⟨by simpa using mapM_some_length h, fun j hj => mapM_some_get h j j (by simp [hj])⟩
  · cases h

/-- a slice of plain VRPs that came in -/
theorem inZ_of {fuel : Nat} {a : Option Addr} {len cap : Nat} {x : DataW H × List MemPlace} (h : DataW.trod enc Tryd.prog W base (fun _ => true) held fuel 22 [.slice a len cap] = some x) (hf : W.noneFrozen x.2) :
    len ≤ cap ∧ cap ≤ maxLen ∧ ∃ zs : Array Zv, zs.size = len ∧ InZ W a zs ∧ ∀ i, i < zs.size → zs[i]!.2.2.2.2.2.size < 9223372036854775808 := by
  have n45 : Tryd.prog.cellsOf 45 = 21 := by kernel_rfl
  rcases Go.Deep.open_slice Tryd.underlying22 h with ⟨hc, hx⟩ | ⟨a', len', cap', m, n, D, Pl, hcs, _, hl, hm, hmm, hx, hel⟩
  · simp only [List.cons.injEq, Value.slice.injEq, and_true] at hc
    obtain ⟨rfl, rfl, rfl⟩ := hc
    exact ⟨Nat.le_refl _, Nat.zero_le _, #[], rfl, .inl rfl, fun i hi => by simp at hi⟩
  · simp only [List.cons.injEq, Value.slice.injEq, and_true] at hcs
    obtain ⟨rfl, rfl, rfl⟩ := hcs
    refine ⟨hl, hm, ?_⟩
    rw [if_pos rfl] at hmm
    subst hmm
    rw [n45] at hel
    have hz : ∀ i, i < len → ∃ z : Zv, z.2.2.2.2.2.size ≤ maxLen ∧ ∀ j, j < 21 → W.cell? ((a'.add (i * 21)).add j) = some (encZ z)[j]! := by
      intro i hi
      obtain ⟨cs', h1, h2⟩ := hel i (by omega)
      obtain ⟨z, rfl, hs⟩ := elem_of h2
      refine ⟨z, hs, fun j hj => ?_⟩
      rw [(cells_get h1).2 j hj, getElem!_pos (encZ z) j hj, List.getElem?_eq_getElem hj]
    obtain ⟨g, hg⟩ : ∃ g : Nat → Zv, ∀ i, i < len → (g i).2.2.2.2.2.size ≤ maxLen ∧ ∀ j, j < 21 → W.cell? ((a'.add (i * 21)).add j) = some (encZ (g i))[j]! :=
      ⟨fun i => if h : i < len then (hz i h).choose else zeroZ, fun i hi => by simp only [dif_pos hi]; exact (hz i hi).choose_spec⟩
    have hget : ∀ i, i < len → ((Array.range len).map g)[i]! = g i := by
      intro i hi
      rw [getElem!_pos _ i (by simpa using hi)]
      simp
    refine ⟨(Array.range len).map g, by simp, ?_, ?_⟩
    · by_cases h0 : len = 0
      · exact .inl (by simp [h0])
      · obtain ⟨b, o, sp⟩ := a'
        have hc0 := (hg 0 (by omega)).2 0 (by omega)
        have hsp : sp = none := by
          have e : (((⟨b, o, sp⟩ : Addr).add (0 * 21)).add 0) = ⟨b, o, sp⟩ := by simp [Addr.add]
          rw [e] at hc0
          exact cell_spot hc0
        subst hsp
        refine .inr ⟨b, o, rfl, ?_, ?_⟩
        · have := World.block_lt_of_cell? W _ hc0
          rw [Addr.add_mid, Addr.add_mid] at this
          exact this
        · refine holdsK_of (by omega) (fun i c hi hc => ?_)
          have hi' : i < len := by simpa using hi
          rw [hget i hi']
          refine ⟨by have := (hg i hi').2 c hc; rw [Addr.add_mid, Addr.add_mid] at this; exact this, ?_⟩
          refine hf b (o + i * 21 + c) ?_
          rw [hx]
          refine List.mem_append_left _ ?_
          rw [n45]
          unfold MemPlace.row
          refine List.mem_map.2 ⟨i * 21 + c, List.mem_range.2 (by omega), by simp; omega⟩
    · intro i hi
      have hi' : i < len := by simpa using hi
      rw [hget i hi']
      have := (hg i hi').1
      unfold maxLen at this
      omega
end
end Go.Proofs.Qxb6616947aDoor
