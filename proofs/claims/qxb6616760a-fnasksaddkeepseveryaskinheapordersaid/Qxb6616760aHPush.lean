/-
  The contract of container/heap.Push over the ask queue.
-/
import Derived.Test.Qxb6616760aPush
namespace Go.Proofs.Qxb6616760a
open Go.RowKit Plain
set_option linter.unusedVariables false

/-- w' is w but for block a, for what lies from block B on, and for draws -/
structure But (B a : Nat) (w w' : World) : Prop where
  os : w'.os = w.os
  tape : w'.tape = w.tape
  output : w'.output = w.output
  size : w.heap.size ≤ w'.heap.size
  block : ∀ k, k < B → k ≠ a → w'.heap[k]? = w.heap[k]?

theorem But.trans {B a : Nat} {u v w : World} (h : But B a u v) (k : But B a v w) : But B a u w :=
  ⟨k.os.trans h.os, k.tape.trans h.tape, k.output.trans h.output, Nat.le_trans h.size k.size, fun i hi ha => (k.block i hi ha).trans (h.block i hi ha)⟩
theorem But.of_grown {B a : Nat} {w w' : World} {r : Option Nat} (h : w.grownBy w' r) (hB : B ≤ w.heap.size) (hr : ∀ k, r = some k → B ≤ k) : But B a w w' :=
  ⟨h.os, h.tape, h.output, h.size, fun k hk _ => h.block k (by omega) (fun e => by have := hr k e.symm; omega)⟩
theorem But.setCell (B a o : Nat) (w : World) (v : Value) : But B a w (w.setCell ⟨a, o, none⟩ v) :=
  ⟨rfl, rfl, rfl, by simp [World.setCell], fun k _ ha => setCell_other ha v⟩

theorem len_any (p : Option Addr) (n c : Nat) (w : World) (hn : n ≤ 9223372036854775807) : Calls Try.prog 24 #[.slice p n c] w fun e w' => e = .returned (.int .i64 n) ∧ w' = w := by
  go_enter Try.func24, Try.ntmps24
  go_wp2
  go_ret
  exact ⟨rfl, rfl⟩

set_option maxHeartbeats 400000 in
theorem hpush_any (a o B : Nat) (v : Value) (cur : Array Value) (l : List (Int × Int)) (p : Int × Int) (w : World) (hA : w.heap[a]? = some (.cells cur 57 (0, 0))) (hv : cur[o]? = some v) (hab : a < B) (hB : B ≤ w.heap.size)
    (hn : l.length ≤ 900000) (hown : QueueIs w B v l) (hh : Heap l) :
    Calls Try.prog 27 #[.iface 65 (.pointer (some ⟨a, o, none⟩)), .iface 60 (.agg #[.int .u64 p.1, .int .i64 p.2, .int .i64 0, .bool false])] w fun e w' => e = .returned (.tuple #[]) ∧
      ∃ v' l', l'.Perm (l ++ [p]) ∧ Heap l' ∧ QueueIs w' B v' l' ∧ w'.heap[a]? = some (.cells (cur.setIfInBounds o v') 57 (0, 0)) ∧ But B a w w' := by
  have hm := m_push ⟨a, o, none⟩
  go_enter Try.func27, Try.ntmps27
  go_wp2_with fail
  refine (qpush_any a o B v l p _ (cell_of hA hv) (frozen_of o hA) hab hB (by omega) hown).mono ?_
  rintro e w' ⟨rfl, g, cap, w1, hq1, hg1, rfl⟩
  have hblk : w1.heap[a]? = some (.cells cur 57 (0, 0)) := by
    rw [hg1.block a (by omega) (fun e => by have := (hown.lt a e.symm).1; omega)]; exact hA
  have hA1 := setCell_block (o := o) hblk (.slice (some ⟨g, 0, none⟩) (l.length + 1) cap)
  have hsz := (Array.getElem?_eq_some_iff.1 hv).1
  have hc1 : (w1.setCell ⟨a, o, none⟩ (.slice (some ⟨g, 0, none⟩) (l.length + 1) cap)).cell? ⟨a, o, none⟩ = some (.slice (some ⟨g, 0, none⟩) (l.length + 1) cap) := cell_of hA1 (gs_eq rfl hsz)
  have hml := m_len hc1
  have hq2 : QueueIs (w1.setCell ⟨a, o, none⟩ (.slice (some ⟨g, 0, none⟩) (l.length + 1) cap)) B (.slice (some ⟨g, 0, none⟩) (l.length + 1) cap) (l ++ [p]) := ownsRow_setCell_below hq1 (by simpa using hab) _
  have hb2 : But B a w (w1.setCell ⟨a, o, none⟩ (.slice (some ⟨g, 0, none⟩) (l.length + 1) cap)) := (But.of_grown hg1 hB (fun k e => (hown.lt k e).1)).trans (But.setCell B a o w1 _)
  have hbs : B ≤ (w1.setCell ⟨a, o, none⟩ (.slice (some ⟨g, 0, none⟩) (l.length + 1) cap)).heap.size := Nat.le_trans hB hb2.size
  generalize w1.setCell ⟨a, o, none⟩ (.slice (some ⟨g, 0, none⟩) (l.length + 1) cap) = w2 at *
  clear hm
  have hrow : B ≤ g ∧ QRow w2 g cap (l ++ [p]) := by
    rcases hq2.row with ⟨h, _⟩ | ⟨g', cap', h, h1, h2⟩
    · cases h
    · injection h with h3 h4 h5
      injection h3 with h3
      injection h3 with h3
      subst h3 h5
      exact ⟨h1, h2⟩
  obtain ⟨hBg, hrow⟩ := hrow
  go_wp2_with fail
  refine (len_any _ _ _ _ (by omega)).mono ?_
  rintro e w' ⟨rfl, rfl⟩
  go_wp2_with fail
  refine (up_any a o g (l.length + 1) cap l.length (l ++ [p]) _ (by simp) (by omega) (by omega) (by omega) hc1 hrow (heapBut_push p hh)).mono ?_
  rintro e w3 ⟨rfl, l', hp, hh', hrow', hg'⟩
  go_wp2_with fail
  go_end0
  have hl' : l'.length = l.length + 1 := by rw [hp.length_eq]; simp
  refine ⟨rfl, .slice (some ⟨g, 0, none⟩) (l.length + 1) cap, l', hp, hh', ?_, ?_, hb2.trans (But.of_grown hg' hbs (fun k e => by cases e; exact hBg))⟩
  · rw [← hl']; exact hrow'.queue hBg
  · rw [hg'.block a (by omega) (fun e => by cases e; omega)]; exact hA1
end Go.Proofs.Qxb6616760a
