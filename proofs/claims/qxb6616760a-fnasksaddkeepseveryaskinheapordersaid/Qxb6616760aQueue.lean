/-
  The ask queue: what its row holds, and contracts of Len, Less, Swap (askQueue) and of heap.up.
-/
import Derived.Test.Qxb6616760aProg
import Derived.Test.Qxb6616760aHeap
import Derived.WalkKit
import Derived.ProofKit
import Derived.RegionTactic
import Derived.Deep.QuietTactic
import Derived.BigQuiet
import Derived.BigRegion
import Derived.Laws.AppendOwn
import Derived.KernelRfl
import Derived.ChangeKeysEq
namespace Go.Proofs.Qxb6616760a
open Go.RowKit Plain
set_option linter.unusedVariables false

/-- block g holds, in its first l.length rows of four cells, the asks l -/
def QRow (w : World) (g cap : Nat) (l : List (Int × Int)) : Prop :=
  l.length ≤ cap ∧ cap ≤ maxLen ∧ ∃ cur, w.heap[g]? = some (.cells cur 60 (0, 0)) ∧ cur.size = cap * 4 ∧
    ∀ k, k < l.length → cur[k * 4]? = some (.int .u64 (at' l k).1) ∧ cur[k * 4 + 1]? = some (.int .i64 (at' l k).2) ∧ cur[k * 4 + 2]? = some (.int .i64 0) ∧ cur[k * 4 + 3]? = some (.bool false)

theorem cell_of {w : World} {g o : Nat} {cur : Array Value} {t : TypeId} {fr : Nat × Nat} {v : Value} (h : w.heap[g]? = some (.cells cur t fr)) (hv : cur[o]? = some v) : w.cell? ⟨g, o, none⟩ = some v := by
  simp [World.cell?, h, hv]
theorem frozen_of {w : World} {g : Nat} (o : Nat) {cur : Array Value} {t : TypeId} (h : w.heap[g]? = some (.cells cur t (0, 0))) : w.frozen? ⟨g, o, none⟩ = false := by
  simp [World.frozen?, h]

theorem QRow.cells {w : World} {g cap : Nat} {l : List (Int × Int)} (h : QRow w g cap l) {k : Nat} (hk : k < l.length) :
    w.cell? ⟨g, k * 4, none⟩ = some (.int .u64 (at' l k).1) ∧ w.cell? ⟨g, k * 4 + 1, none⟩ = some (.int .i64 (at' l k).2) ∧ w.cell? ⟨g, k * 4 + 2, none⟩ = some (.int .i64 0) ∧ w.cell? ⟨g, k * 4 + 3, none⟩ = some (.bool false) := by
  obtain ⟨_, _, cur, hb, _, hc⟩ := h
  obtain ⟨h0, h1, h2, h3⟩ := hc k hk
  exact ⟨cell_of hb h0, cell_of hb h1, cell_of hb h2, cell_of hb h3⟩

theorem QRow.frozen {w : World} {g cap : Nat} {l : List (Int × Int)} (h : QRow w g cap l) (o : Nat) : w.frozen? ⟨g, o, none⟩ = false := by
  obtain ⟨_, _, cur, hb, _, _⟩ := h
  exact frozen_of o hb

theorem setCell_block {w : World} {g o : Nat} {cur : Array Value} {t : TypeId} {fr : Nat × Nat} (h : w.heap[g]? = some (.cells cur t fr)) (v : Value) :
    (w.setCell ⟨g, o, none⟩ v).heap[g]? = some (.cells (cur.setIfInBounds o v) t fr) := by
  simp [World.setCell, Array.getElem?_modify, h]
theorem setCell_other {w : World} {g o b : Nat} (hb : b ≠ g) (v : Value) : (w.setCell ⟨g, o, none⟩ v).heap[b]? = w.heap[b]? := by
  simp [World.setCell, Array.getElem?_modify, Ne.symm hb]

theorem gs_ne {A : Array Value} {o p : Nat} {v : Value} (h : o ≠ p) : (A.setIfInBounds o v)[p]? = A[p]? := by
  simp [h]
theorem gs_eq {A : Array Value} {o p : Nat} {v : Value} (h : o = p) (hs : o < A.size) : (A.setIfInBounds o v)[p]? = some v := by
  subst h; simp [hs]

/-- the eight stores of an exchange -/
def swapped (w : World) (g i j : Nat) (p q : Int × Int) : World :=
  ((((((((w.setCell ⟨g, i * 4, none⟩ (.int .u64 q.1)).setCell ⟨g, i * 4 + 1, none⟩ (.int .i64 q.2)).setCell ⟨g, i * 4 + 2, none⟩ (.int .i64 0)).setCell ⟨g, i * 4 + 3, none⟩ (.bool false)).setCell
    ⟨g, j * 4, none⟩ (.int .u64 p.1)).setCell ⟨g, j * 4 + 1, none⟩ (.int .i64 p.2)).setCell ⟨g, j * 4 + 2, none⟩ (.int .i64 0)).setCell ⟨g, j * 4 + 3, none⟩ (.bool false))

theorem swapped_row {w : World} {g cap i j : Nat} {l : List (Int × Int)} (h : QRow w g cap l) (hi : i < l.length) (hj : j < l.length) :
    QRow (swapped w g i j (at' l i) (at' l j)) g cap (sw l i j) := by
  obtain ⟨h1, h2, cur, hb, hs, hc⟩ := h
  refine ⟨by rw [sw_length]; exact h1, h2, _, setCell_block (setCell_block (setCell_block (setCell_block (setCell_block (setCell_block (setCell_block (setCell_block hb _) _) _) _) _) _) _) _, by simpa using hs, ?_⟩
  intro k hk
  rw [sw_length] at hk
  rw [at_sw l i j k hi hj]
  obtain ⟨k0, k1, k2, k3⟩ := hc k hk
  have b : ∀ x, x < l.length → x * 4 + 3 < cur.size := fun x hx => by omega
  have bi := b i hi
  have bj := b j hj
  by_cases e1 : k = j
  · subst e1
    rw [if_pos rfl]
    refine ⟨?_, ?_, ?_, ?_⟩ <;> simp [Array.getElem?_setIfInBounds] <;> omega
  · rw [if_neg e1]
    by_cases e2 : k = i
    · subst e2
      rw [if_pos rfl]
      refine ⟨?_, ?_, ?_, ?_⟩
      · rw [gs_ne, gs_ne, gs_ne, gs_ne, gs_ne, gs_ne, gs_ne, gs_eq rfl] <;> first | omega | (simp; omega)
      · rw [gs_ne, gs_ne, gs_ne, gs_ne, gs_ne, gs_ne, gs_eq rfl] <;> first | omega | (simp; omega)
      · rw [gs_ne, gs_ne, gs_ne, gs_ne, gs_ne, gs_eq rfl] <;> first | omega | (simp; omega)
      · rw [gs_ne, gs_ne, gs_ne, gs_ne, gs_eq rfl] <;> first | omega | (simp; omega)
    · rw [if_neg e2]
      refine ⟨?_, ?_, ?_, ?_⟩
      · rw [gs_ne, gs_ne, gs_ne, gs_ne, gs_ne, gs_ne, gs_ne, gs_ne, k0] <;> omega
      · rw [gs_ne, gs_ne, gs_ne, gs_ne, gs_ne, gs_ne, gs_ne, gs_ne, k1] <;> omega
      · rw [gs_ne, gs_ne, gs_ne, gs_ne, gs_ne, gs_ne, gs_ne, gs_ne, k2] <;> omega
      · rw [gs_ne, gs_ne, gs_ne, gs_ne, gs_ne, gs_ne, gs_ne, gs_ne, k3] <;> omega

theorem grownBy_setCell {w w' : World} {g o : Nat} (h : w.grownBy w' (some g)) (v : Value) : w.grownBy (w'.setCell ⟨g, o, none⟩ v) (some g) := by
  obtain ⟨h1, h2, h3, h4, h5⟩ := h
  refine ⟨h1, h2, h3, by simpa [World.setCell] using h4, fun k hk hne => ?_⟩
  rw [setCell_other (by intro e; subst e; exact hne rfl)]
  exact h5 k hk hne

theorem swapped_grown {w w' : World} {g i j : Nat} (p q : Int × Int) (h : w.grownBy w' (some g)) : w.grownBy (swapped w' g i j p q) (some g) :=
  grownBy_setCell (grownBy_setCell (grownBy_setCell (grownBy_setCell (grownBy_setCell (grownBy_setCell (grownBy_setCell (grownBy_setCell h _) _) _) _) _) _) _) _

theorem grownBy_drewN {w w' : World} {r : Option Nat} (h : w.grownBy w' r) (n : Nat) : w.grownBy (w'.drewN n) r := ⟨h.os, h.tape, h.output, h.size, h.block⟩
theorem QRow.drewN {w : World} {g cap : Nat} {l : List (Int × Int)} (h : QRow w g cap l) (n : Nat) : QRow (w.drewN n) g cap l := h

theorem ret_bool {a b : Bool} (h : a = b) : Ending.returned (.bool a) = .returned (.bool b) := by rw [h]

set_option maxHeartbeats 400000 in
theorem less_any (g n cap i j : Nat) (ti ni tj nj : Int) (w : World) (hi : i < n) (hj : j < n) (hn : n ≤ cap) (hc : cap ≤ 9223372036854775807)
    (c1 : w.cell? ⟨g, i * 4 + 1, none⟩ = some (.int .i64 ti)) (c2 : w.cell? ⟨g, j * 4 + 1, none⟩ = some (.int .i64 tj))
    (c3 : w.cell? ⟨g, i * 4, none⟩ = some (.int .u64 ni)) (c4 : w.cell? ⟨g, j * 4, none⟩ = some (.int .u64 nj)) :
    Calls Try.prog 49 #[.slice (some ⟨g, 0, none⟩) n cap, .int .i64 i, .int .i64 j] w fun e w' => e = .returned (.bool (ltB (ni, ti) (nj, tj))) ∧ ∃ q, w' = w.drewN q := by
  by_cases he : ti = tj
  · subst he
    go_enter Try.func49, Try.ntmps49
    go_wp2
    go_quiet (fail)
    go_wp2
    go_quiet (fail)
    go_wp2
    go_ret
    exact ⟨ret_bool (by unfold ltB; simp), _, World.drewN_drewN _ _ _⟩
  · go_enter Try.func49, Try.ntmps49
    go_wp2
    go_quiet (fail)
    go_wp2
    go_quiet (fail)
    go_wp2
    go_ret
    exact ⟨ret_bool (by unfold ltB; simp [he]), _, World.drewN_drewN _ _ _⟩

set_option maxHeartbeats 400000 in
theorem swap_core (g n cap i j : Nat) (ni ti nj tj : Int) (w : World) (hi : i < n) (hj : j < n) (hne : i < j) (hn : n ≤ cap) (hc : cap ≤ 9223372036854775807)
    (c0 : w.cell? ⟨g, i * 4, none⟩ = some (.int .u64 ni)) (c1 : w.cell? ⟨g, i * 4 + 1, none⟩ = some (.int .i64 ti)) (c2 : w.cell? ⟨g, i * 4 + 2, none⟩ = some (.int .i64 0)) (c3 : w.cell? ⟨g, i * 4 + 3, none⟩ = some (.bool false))
    (d0 : w.cell? ⟨g, j * 4, none⟩ = some (.int .u64 nj)) (d1 : w.cell? ⟨g, j * 4 + 1, none⟩ = some (.int .i64 tj)) (d2 : w.cell? ⟨g, j * 4 + 2, none⟩ = some (.int .i64 0)) (d3 : w.cell? ⟨g, j * 4 + 3, none⟩ = some (.bool false))
    (f0 : w.frozen? ⟨g, i * 4, none⟩ = false) (f1 : w.frozen? ⟨g, i * 4 + 1, none⟩ = false) (f2 : w.frozen? ⟨g, i * 4 + 2, none⟩ = false) (f3 : w.frozen? ⟨g, i * 4 + 3, none⟩ = false)
    (e0 : w.frozen? ⟨g, j * 4, none⟩ = false) (e1 : w.frozen? ⟨g, j * 4 + 1, none⟩ = false) (e2 : w.frozen? ⟨g, j * 4 + 2, none⟩ = false) (e3 : w.frozen? ⟨g, j * 4 + 3, none⟩ = false) :
    Calls Try.prog 50 #[.slice (some ⟨g, 0, none⟩) n cap, .int .i64 i, .int .i64 j] w fun e w' => e = .returned (.tuple #[]) ∧ ∃ q, w' = (swapped w g i j (ni, ti) (nj, tj)).drewN q := by
  go_enter Try.func50, Try.ntmps50
  go_wp2
  go_region
  go_end0
  exact ⟨rfl, 1, rfl⟩

theorem swap_any (g n cap i j : Nat) (l : List (Int × Int)) (w : World) (hl : l.length = n) (hj : j < l.length) (hne : i < j) (h : QRow w g cap l) :
    Calls Try.prog 50 #[.slice (some ⟨g, 0, none⟩) n cap, .int .i64 i, .int .i64 j] w fun e w' => e = .returned (.tuple #[]) ∧ ∃ q, w' = (swapped w g i j (at' l i) (at' l j)).drewN q := by
  obtain ⟨c0, c1, c2, c3⟩ := h.cells (k := i) (by omega)
  obtain ⟨d0, d1, d2, d3⟩ := h.cells (k := j) (by omega)
  have hm := h.2.1
  unfold maxLen at hm
  exact swap_core g n cap i j _ _ _ _ w (by omega) (by omega) hne (by have := h.1; omega) hm c0 c1 c2 c3 d0 d1 d2 d3 (h.frozen _) (h.frozen _) (h.frozen _) (h.frozen _) (h.frozen _) (h.frozen _) (h.frozen _) (h.frozen _)

theorem less_row (g n cap i j : Nat) (l : List (Int × Int)) (w : World) (hl : l.length = n) (hi : i < l.length) (hj : j < l.length) (h : QRow w g cap l) :
    Calls Try.prog 49 #[.slice (some ⟨g, 0, none⟩) n cap, .int .i64 i, .int .i64 j] w fun e w' => e = .returned (.bool (ltB (at' l i) (at' l j))) ∧ ∃ q, w' = w.drewN q := by
  obtain ⟨c0, c1, c2, c3⟩ := h.cells (k := i) hi
  obtain ⟨d0, d1, d2, d3⟩ := h.cells (k := j) hj
  have hm := h.2.1
  unfold maxLen at hm
  exact less_any g n cap i j _ _ _ _ w (by omega) (by omega) (by have := h.1; omega) hm c1 d1 c0 d0

theorem run_method_star {P : Program} {w : World} {t elem : TypeId} {x : Addr} {name : String} {f : FuncId} {v : Value} (k : Nat)
    (hm : ((P.info? t).bind fun i => i.methods.find? (·.name == name)).map (fun m => (m.path.toList.isEmpty, m.func)) = some (true, some (f, false)))
    (hu : P.underlying t = some (.pointer elem)) (hl : (loadVar elem x).run P w = .ok v w) :
    (method (k + 1) t (.pointer (some x)) name).run P w = .ok (f, v) w := by
  cases hi : P.info? t with
  | none => rw [hi] at hm; simp at hm
  | some i =>
    rw [hi] at hm
    simp only [Option.bind_some] at hm
    cases hf : i.methods.find? (·.name == name) with
    | none => rw [hf] at hm; simp at hm
    | some m =>
      rw [hf] at hm
      simp only [Option.map_some, Option.some.injEq, Prod.mk.injEq] at hm
      obtain ⟨h1, h2⟩ := hm
      have h3 : m.path.toList = [] := by simpa using h1
      have h4 : m.path = #[] := by simpa using h3
      have hw : ∀ s : String, (Builtin.ssaWrapNilChk_ #[t] t #[.pointer (some x), strVal "", strVal s]).run P w = .ok (.pointer (some x)) w := fun _ => rfl
      unfold method
      simp [run_typeInfo w hi, hf, h2, h4, follow, receiverAt, run_underlying hu, Place.get, hw, asAddr, hl]
theorem load_queue {a o : Nat} {p : Option Addr} {n c : Nat} {w : World} (h : w.cell? ⟨a, o, none⟩ = some (.slice p n c)) : (loadVar 55 ⟨a, o, none⟩).run Try.prog w = .ok (.slice p n c) w := by
  simp [go_sem, h]
theorem m_less {a o : Nat} {p : Option Addr} {n c : Nat} {w : World} (h : w.cell? ⟨a, o, none⟩ = some (.slice p n c)) : (method 195 65 (.pointer (some ⟨a, o, none⟩)) "Less").run Try.prog w = .ok (49, .slice p n c) w :=
  run_method_star 194 (by kernel_rfl) Try.underlying65 (load_queue h)
theorem m_swap {a o : Nat} {p : Option Addr} {n c : Nat} {w : World} (h : w.cell? ⟨a, o, none⟩ = some (.slice p n c)) : (method 195 65 (.pointer (some ⟨a, o, none⟩)) "Swap").run Try.prog w = .ok (50, .slice p n c) w :=
  run_method_star 194 (by kernel_rfl) Try.underlying65 (load_queue h)
theorem m_len {a o : Nat} {p : Option Addr} {n c : Nat} {w : World} (h : w.cell? ⟨a, o, none⟩ = some (.slice p n c)) : (method 195 65 (.pointer (some ⟨a, o, none⟩)) "Len").run Try.prog w = .ok (24, .slice p n c) w :=
  run_method_star 194 (by kernel_rfl) Try.underlying65 (load_queue h)
theorem m_push (x : Addr) (w : World) : (method 195 65 (.pointer (some x)) "Push").run Try.prog w = .ok (51, .pointer (some x)) w := by kernel_rfl
end Go.Proofs.Qxb6616760a
