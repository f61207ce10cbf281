/-
  Rows of VRPs: their cells; stores and the builtin clear over them.
-/
import Derived.Test.Qxb6616947aDoorEql
import Derived.Lib.SlicesCompact
import Derived.Deep.Upon
namespace Go.Proofs.Qxb6616947aDoor
open Go.RowKit Go.Sort Go.Shelf Plain
set_option linter.unusedVariables false

theorem holdsK_of {α : Type} [Inhabited α] {enc : α → List Value} {k : Nat} {w : World} {blk off : Nat} {d : Array α} (hk : 0 < k)
    (h : ∀ i c, i < d.size → c < k → w.cell? ⟨blk, off + i * k + c, none⟩ = some (enc d[i]!)[c]! ∧ w.frozen? ⟨blk, off + i * k + c, none⟩ = false) : HoldsK enc k w blk off d := by
  intro t ht
  rw [size_flatK] at ht
  rw [get_flatK _ _ _ _ ht]
  have h1 : t / k < d.size := (Nat.div_lt_iff_lt_mul hk).2 ht
  have h2 := h (t / k) (t % k) h1 (Nat.mod_lt _ hk)
  have e : off + t / k * k + t % k = off + t := by
    have := Nat.div_add_mod t k
    rw [Nat.mul_comm] at this
    omega
  rw [e] at h2
  exact h2

/-- the seven cells of one VRP of a row -/
theorem cells7 {b4 o4 b6 o6 : Nat} {w : World} {blk off : Nat} {d : Array V} (h : HoldsK (enc b4 o4 b6 o6) 7 w blk off d) {i : Nat} (hi : i < d.size) :
    ∃ c0 c1 c2 c3 c4 c5 c6 : Value, enc b4 o4 b6 o6 d[i]! = [c0, c1, c2, c3, c4, c5, c6] ∧
      (w.cell? ⟨blk, off + i * 7, none⟩ = some c0 ∧ w.cell? ⟨blk, off + i * 7 + 1, none⟩ = some c1 ∧ w.cell? ⟨blk, off + i * 7 + 2, none⟩ = some c2 ∧ w.cell? ⟨blk, off + i * 7 + 3, none⟩ = some c3 ∧ w.cell? ⟨blk, off + i * 7 + 4, none⟩ = some c4 ∧ w.cell? ⟨blk, off + i * 7 + 5, none⟩ = some c5 ∧ w.cell? ⟨blk, off + i * 7 + 6, none⟩ = some c6) ∧
      (w.frozen? ⟨blk, off + i * 7, none⟩ = false ∧ w.frozen? ⟨blk, off + i * 7 + 1, none⟩ = false ∧ w.frozen? ⟨blk, off + i * 7 + 2, none⟩ = false ∧ w.frozen? ⟨blk, off + i * 7 + 3, none⟩ = false ∧ w.frozen? ⟨blk, off + i * 7 + 4, none⟩ = false ∧ w.frozen? ⟨blk, off + i * 7 + 5, none⟩ = false ∧ w.frozen? ⟨blk, off + i * 7 + 6, none⟩ = false) :=
  ⟨_, _, _, _, _, _, _, rfl, ⟨(h.cell hi (c := 0) (by omega)).1, (h.cell hi (c := 1) (by omega)).1, (h.cell hi (c := 2) (by omega)).1, (h.cell hi (c := 3) (by omega)).1, (h.cell hi (c := 4) (by omega)).1, (h.cell hi (c := 5) (by omega)).1, (h.cell hi (c := 6) (by omega)).1⟩,
    ⟨(h.cell hi (c := 0) (by omega)).2, (h.cell hi (c := 1) (by omega)).2, (h.cell hi (c := 2) (by omega)).2, (h.cell hi (c := 3) (by omega)).2, (h.cell hi (c := 4) (by omega)).2, (h.cell hi (c := 5) (by omega)).2, (h.cell hi (c := 6) (by omega)).2⟩⟩

theorem cells7' {b4 o4 b6 o6 : Nat} {w : World} {blk off : Nat} {d : Array V} (h : HoldsK (enc b4 o4 b6 o6) 7 w blk off d) {i : Nat} (hi : i < d.size) {A : Nat} (hA : A = off + i * 7) :
    ∃ c0 c1 c2 c3 c4 c5 c6 : Value, enc b4 o4 b6 o6 d[i]! = [c0, c1, c2, c3, c4, c5, c6] ∧
      (w.cell? ⟨blk, A, none⟩ = some c0 ∧ w.cell? ⟨blk, A + 1, none⟩ = some c1 ∧ w.cell? ⟨blk, A + 2, none⟩ = some c2 ∧ w.cell? ⟨blk, A + 3, none⟩ = some c3 ∧ w.cell? ⟨blk, A + 4, none⟩ = some c4 ∧ w.cell? ⟨blk, A + 5, none⟩ = some c5 ∧ w.cell? ⟨blk, A + 6, none⟩ = some c6) ∧
      (w.frozen? ⟨blk, A, none⟩ = false ∧ w.frozen? ⟨blk, A + 1, none⟩ = false ∧ w.frozen? ⟨blk, A + 2, none⟩ = false ∧ w.frozen? ⟨blk, A + 3, none⟩ = false ∧ w.frozen? ⟨blk, A + 4, none⟩ = false ∧ w.frozen? ⟨blk, A + 5, none⟩ = false ∧ w.frozen? ⟨blk, A + 6, none⟩ = false) := by
  subst hA
  exact cells7 h hi

theorem enc_forms {b4 o4 b6 o6 : Nat} {x : V} {c0 c1 c2 c3 c4 c5 c6 : Value} (h : enc b4 o4 b6 o6 x = [c0, c1, c2, c3, c4, c5, c6]) :
    ∃ (a hh l : Int) (z : Option Addr) (b m : Int) (t : ByteArray), c0 = .int .u32 a ∧ c1 = .int .u64 hh ∧ c2 = .int .u64 l ∧ c3 = .pointer z ∧ c4 = .int .u8 b ∧ c5 = .int .i64 m ∧ c6 = .string t := by
  unfold enc at h
  simp only [List.cons.injEq, and_true] at h
  obtain ⟨rfl, rfl, rfl, rfl, rfl, rfl, rfl⟩ := h
  exact ⟨_, _, _, _, _, _, _, rfl, rfl, rfl, rfl, rfl, rfl, rfl⟩

theorem setCells7 (w : World) (b o : Nat) (a0 a1 a2 a3 a4 a5 a6 : Value) : w.setCells b o [a0, a1, a2, a3, a4, a5, a6] =
    ((((((w.setCell ⟨b, o, none⟩ a0).setCell ⟨b, o + 1, none⟩ a1).setCell ⟨b, o + 2, none⟩ a2).setCell ⟨b, o + 3, none⟩ a3).setCell ⟨b, o + 4, none⟩ a4).setCell ⟨b, o + 5, none⟩ a5).setCell ⟨b, o + 6, none⟩ a6 := rfl
theorem holdsK_drew {b4 o4 b6 o6 : Nat} {w : World} {blk off : Nat} {d : Array V} (h : HoldsK (enc b4 o4 b6 o6) 7 w blk off d) : HoldsK (enc b4 o4 b6 o6) 7 w.drew blk off d := h
theorem gx_drew {blk : Nat} {w w' : World} (h : GX blk w w') : GX blk w w'.drew := h.trans (GB.refl _).drew.gx

theorem enc_len (b4 o4 b6 o6 : Nat) (x : V) : (enc b4 o4 b6 o6 x).length = 7 := rfl

theorem holds_set {b4 o4 b6 o6 : Nat} {w : World} {blk off : Nat} {d : Array V} (h : HoldsK (enc b4 o4 b6 o6) 7 w blk off d) {i : Nat} (hi : i < d.size) (x : V) :
    HoldsK (enc b4 o4 b6 o6) 7 (w.setCells blk (off + i * 7) (enc b4 o4 b6 o6 x)) blk off (d.setIfInBounds i x) := by
  refine holdsK_of (by omega) (fun j c hj hc => ?_)
  rw [Array.size_setIfInBounds] at hj
  rw [World.frozen?_setCells]
  refine ⟨?_, (h.cell hj hc).2⟩
  by_cases e : j = i
  · subst e
    rw [getElem!_set_same d j x hj]
    rw [World.cell?_setCells_in blk _ _ w (fun c hc => by rw [(h.cell hj (by rw [enc_len] at hc; exact hc)).1]; rfl) c (by rw [enc_len]; exact hc)]
    rw [getElem!_pos]
  · rw [getElem!_set_other d i j x e, World.cell?_setCells_out blk _ _ w _ (fun _ _ => by rw [enc_len]; dsimp only; omega)]
    exact (h.cell hj hc).1

theorem gx_setCells (blk o : Nat) (vs : List Value) (w : World) : GX blk w (w.setCells blk o vs) where
  os := World.os_setCells w blk o vs
  output := World.output_setCells w blk o vs
  tape := by
    induction vs generalizing o w with
    | nil => rfl
    | cons v r ih => exact (ih (o + 1) (w.setCell ⟨blk, o, none⟩ v)).trans rfl
  size := by rw [size_setCells]; exact Nat.le_refl _
  drawn := by
    induction vs generalizing o w with
    | nil => exact Nat.le_refl _
    | cons v r ih => exact ih (o + 1) (w.setCell ⟨blk, o, none⟩ v)
  block := fun k hk hn => World.heap_setCells_other w blk o vs hk hn

/-- clear on a row of VRPs -/
theorem run_clear7 (w : World) (b o n c : Nat) (hn : 0 < n) (hc : ∀ j, j < n * 7 → (w.cell? ⟨b, o + j, none⟩).isSome = true) (hf : ∀ j, j < n * 7 → w.frozen? ⟨b, o + j, none⟩ = false) :
    ∃ vs : List Value, ∀ ty, (Builtin.clear_ #[25] ty #[.slice (some ⟨b, o, none⟩) n c]).run Tryd.prog w = .ok (.tuple #[]) (w.setCells b o vs) := by
  have hv : ∀ w, (zeroValue 41).run Tryd.prog w = .ok (.agg #[.int .u32 0, .int .u64 0, .int .u64 0, .pointer none, .int .u8 0, .int .i64 0, .string ⟨#[]⟩]) w := fun w => by kernel_rfl
  have ht : Tryd.prog.underlying 25 = some (.slice 41) := by kernel_rfl
  obtain ⟨vs, hvs⟩ : ∃ vs, vs = (Builtin.zeroCells (Value.agg #[.int .u32 0, .int .u64 0, .int .u64 0, .pointer none, .int .u8 0, .int .i64 0, .string ⟨#[]⟩]).cells n).toList := ⟨_, rfl⟩
  have hl : vs.length = n * 7 := by rw [hvs]; simp [Builtin.zeroCells, Value.cells]
  have h1 : ∀ v ∈ vs, v.oneCell' = true := by
    intro v hv
    rw [hvs] at hv
    simp only [Builtin.zeroCells, Value.cells, Array.toList_map, List.mem_map] at hv
    obtain ⟨i, _, rfl⟩ := hv
    have : i % 7 < 7 := Nat.mod_lt _ (by omega)
    have h : i % 7 = 0 ∨ i % 7 = 1 ∨ i % 7 = 2 ∨ i % 7 = 3 ∨ i % 7 = 4 ∨ i % 7 = 5 ∨ i % 7 = 6 := by omega
    show Value.oneCell' (#[Value.int .u32 0, .int .u64 0, .int .u64 0, .pointer none, .int .u8 0, .int .i64 0, .string ⟨#[]⟩][i % 7]!) = true
    rcases h with h | h | h | h | h | h | h <;> rw [h] <;> rfl
  have hst := run_storeCells_cells (P := Tryd.prog) b o vs 0 w (by rw [hl]; simpa using hc) (by rw [hl]; simpa using hf) h1
  simp only [Nat.add_zero] at hst
  obtain ⟨m, rfl⟩ : ∃ m, n = m + 1 := ⟨n - 1, by omega⟩
  refine ⟨vs, fun ty => ?_⟩
  simp [Builtin.clear_, run_underlying ht, hv, ← hvs, hst]
end Go.Proofs.Qxb6616947aDoor
