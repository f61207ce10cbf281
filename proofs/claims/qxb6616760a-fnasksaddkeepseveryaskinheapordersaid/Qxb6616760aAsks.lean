/-
  The record of asks (a map and a queue behind a pointer): contracts of push, add, ZZasksAdd, ZZnewAsks, ZZasksCount, ZZasksQueueLen.
-/
import Derived.Test.Qxb6616760aHPush
import Derived.Maps.OwnSet
import Derived.Deep.RegionWith
namespace Go.Proofs.Qxb6616760a
open Go.RowKit Plain Go.Maps
set_option linter.unusedVariables false

/-- what an ask in the map reads as -/
def askElem (v : Value) : Option (DataW Unit × List MemPlace) :=
  match v with
  | .agg cs => (match cs.toList with
    | [.int .u64 n, .int .i64 t, .int .i64 b, .bool g] => some (.agg [.lit (.int .u64 n), .lit (.int .i64 t), .lit (.int .i64 b), .lit (.bool g)], [])
    | _ => none)
  | _ => none
def askDatum (n t : Int) : DataW Unit := .agg [.lit (.int .u64 n), .lit (.int .i64 t), .lit (.int .i64 0), .lit (.bool false)]

theorem askElem_mk (n t : Int) : askElem (.agg #[.int .u64 n, .int .i64 t, .int .i64 0, .bool false]) = some (askDatum n t, []) := rfl

theorem law : Keyed Try.prog 34 := int_keyed Try.underlying34

/-- the asks in block M + 1: the map in block M reads as D, the queue v holds l -/
def Asks (w : World) (M : Nat) (v : Value) (l : List (Int × Int)) (D : DataW Unit) : Prop :=
  w.heap[M + 1]? = some (.cells #[.map (some M), v, .int .i64 0, .bool false, .int .i64 0, .int .i64 0] 57 (0, 0)) ∧ w.ownsMap Try.prog 34 askElem M l.length D ∧ QueueIs w (M + 2) v l ∧ M + 2 ≤ w.heap.size

set_option maxHeartbeats 400000 in
theorem push_any (M : Nat) (v : Value) (l : List (Int × Int)) (D : DataW Unit) (n t : Int) (w : World) (h : Asks w M v l D) (hn : l.length ≤ 900000) (hh : Heap l) (hw : (Lit.int .u64 n).wf = true) :
    Calls Try.prog 26 #[.pointer (some ⟨M + 1, 0, none⟩), .agg #[.int .u64 n, .int .i64 t, .int .i64 0, .bool false]] w fun e w' => e = .returned (.tuple #[]) ∧
      ∃ v' l', l'.Perm (l ++ [(n, t)]) ∧ Heap l' ∧ Asks w' M v' l' (D.put (.int .u64 n) (askDatum n t)) ∧ Below M w w' := by
  obtain ⟨hA, hmap, hq, hsz⟩ := h
  have hmap1 : ((w.alloc (.cells #[.int .u64 n, .int .i64 t, .int .i64 0, .bool false] 60)).drew).ownsMap Try.prog 34 askElem M l.length D := (hmap.alloc _).drew
  obtain ⟨w2, hrun, hmap2, hgr2⟩ := hmap1.update (t := 53) (e := 60) law Try.underlying53 (by unfold maxLen; omega) (keyOf_int_mk Try.underlying34 hw) (askElem_mk n t)
  have hlt : M + 1 < w.heap.size := by omega
  have hA2 : w2.heap[M + 1]? = some (.cells #[.map (some M), v, .int .i64 0, .bool false, .int .i64 0, .int .i64 0] 57 (0, 0)) := by
    rw [hgr2.block (M + 1) (by simp; omega) (by simp)]
    exact (Below.heap_alloc w _ (M + 1) hlt).trans hA
  have hX2 : w2.heap[w.heap.size]? = some (.cells #[.int .u64 n, .int .i64 t, .int .i64 0, .bool false] 60 (0, 0)) := by
    rw [hgr2.block w.heap.size (by simp) (by simp; omega)]
    exact heap_alloc_new w _
  have hq2 : QueueIs w2 (M + 2) v l := ((World.ownsRow.alloc hq _).drew).kept hgr2 (.inr (fun e => by have := (hq.lt M e).1; omega))
  have hs2 : M + 2 ≤ w2.heap.size := by have := hgr2.size; simp at this; omega
  have hbel : Below M w w2 := ((Below.refl M w).alloc (by omega) _).drew.grown hgr2 (by simp; omega) (fun k e => by cases e; exact Nat.le_refl _)
  have c0 : w.cell? ⟨M + 1, 0, none⟩ = some (.map (some M)) := cell_of hA rfl
  have x0 : w2.cell? ⟨w.heap.size, 0, none⟩ = some (.int .u64 n) := cell_of hX2 rfl
  have x1 : w2.cell? ⟨w.heap.size, 1, none⟩ = some (.int .i64 t) := cell_of hX2 rfl
  have x2 : w2.cell? ⟨w.heap.size, 2, none⟩ = some (.int .i64 0) := cell_of hX2 rfl
  have x3 : w2.cell? ⟨w.heap.size, 3, none⟩ = some (.bool false) := cell_of hX2 rfl
  go_enter Try.func26, Try.ntmps26
  go_wp2
  go_region
  go_wp2
  clear hrun c0 hA hX2
  go_region_with (go_at_call 27; refine (hpush_any (M + 1) 1 (M + 2) v _ l (n, t) _ (by exact hA2) rfl (by omega) (by exact hs2) hn (by exact hq2) hh).mono ?_; rintro e w3 ⟨rfl, v', l', hp, hh', hq3, hA3, hbut⟩)
  all_goals go_end0
  all_goals
    refine ⟨rfl, v', l', hp, hh', ⟨by simpa using hA3, ?_, hq3, Nat.le_trans hs2 hbut.size⟩, ?_⟩
    · have hl' : l'.length = l.length + 1 := by rw [hp.length_eq]; simp
      rw [hl']
      obtain ⟨es, clock, hb, r⟩ := hmap2
      exact ⟨es, clock, (hbut.block M (by omega) (by omega)).trans hb, r⟩
    · exact hbel.trans ⟨hbut.os, hbut.tape, hbut.output, hbut.size, fun k hk => hbut.block k (by omega) (by omega)⟩

set_option maxHeartbeats 400000 in
theorem add_any (M : Nat) (v : Value) (l : List (Int × Int)) (D : DataW Unit) (n t : Int) (w : World) (h : Asks w M v l D) (hn : l.length ≤ 900000) (hh : Heap l) (hw : (Lit.int .u64 n).wf = true) :
    Calls Try.prog 23 #[.pointer (some ⟨M + 1, 0, none⟩), .int .u64 n, .int .i64 t] w fun e w' => e = .returned (.tuple #[]) ∧
      ∃ v' l', l'.Perm (l ++ [(n, t)]) ∧ Heap l' ∧ Asks w' M v' l' (D.put (.int .u64 n) (askDatum n t)) ∧ Below M w w' := by
  go_enter Try.func23, Try.ntmps23
  go_wp2_with (go_at_call 26; refine (push_any M v l D n t _ h hn hh hw).mono ?_; rintro e w' ⟨rfl, hr⟩)
  go_end0
  exact ⟨rfl, hr⟩

set_option maxHeartbeats 400000 in
theorem zzadd_any (M : Nat) (v : Value) (l : List (Int × Int)) (D : DataW Unit) (n t : Int) (w : World) (h : Asks w M v l D) (hn : l.length ≤ 900000) (hh : Heap l) (hw : (Lit.int .u64 n).wf = true) :
    Calls Try.prog 13 #[.pointer (some ⟨M + 1, 0, none⟩), .int .u64 n, .int .i64 t] w fun e w' => e = .returned (.tuple #[]) ∧
      ∃ v' l', l'.Perm (l ++ [(n, t)]) ∧ Heap l' ∧ Asks w' M v' l' (D.put (.int .u64 n) (askDatum n t)) ∧ Below M w w' := by
  go_enter Try.func13, Try.ntmps13
  go_wp2_with (go_at_call 23; refine (add_any M v l D n t _ h hn hh hw).mono ?_; rintro e w' ⟨rfl, hr⟩)
  go_end0
  exact ⟨rfl, hr⟩

set_option maxHeartbeats 400000 in
theorem new_any (w : World) : Calls Try.prog 12 #[] w fun e w' => e = .returned (.pointer (some ⟨w.heap.size + 1, 0, none⟩)) ∧ Asks w' w.heap.size (.slice none 0 0) [] (.map []) ∧ Below w.heap.size w w' := by
  have hmm := @run_makeMap Try.prog
  go_enter Try.func12, Try.ntmps12
  go_wp2
  go_ret
  refine ⟨rfl, ⟨?_, ?_, World.ownsRow_nil _ _ _ _, by simp⟩, ((Below.refl _ _).alloc (Nat.le_refl _) _).alloc (by simp) _⟩
  · have := heap_alloc_new (w.alloc (.map #[] 0)) (.cells #[.map (some w.heap.size), .slice none 0 0, .int .i64 0, .bool false, .int .i64 0, .int .i64 0] 57)
    simpa using this
  · exact (World.ownsMap_made w _ _ _).alloc _

set_option maxHeartbeats 400000 in
theorem count_any (M : Nat) (v : Value) (l : List (Int × Int)) (D : DataW Unit) (w : World) (h : Asks w M v l D) :
    Calls Try.prog 14 #[.pointer (some ⟨M + 1, 0, none⟩)] w fun e w' => e = .returned (.int .i64 (Maps.size D)) ∧ w' = w := by
  obtain ⟨hA, hmap, hq, hsz⟩ := h
  have c0 : w.cell? ⟨M + 1, 0, none⟩ = some (.map (some M)) := cell_of hA rfl
  clear hA hq hsz
  go_enter Try.func14, Try.ntmps14
  go_wp2_with (at_len; refine wpList_len_own _ rfl _ 53 rfl 34 60 Try.underlying53 _ M l.length D rfl hmap ?_)
  go_ret
  exact ⟨rfl, rfl⟩

set_option maxHeartbeats 400000 in
theorem qlen_any (M : Nat) (v : Value) (l : List (Int × Int)) (D : DataW Unit) (w : World) (h : Asks w M v l D) (hn : l.length ≤ 900000) :
    Calls Try.prog 21 #[.pointer (some ⟨M + 1, 0, none⟩)] w fun e w' => e = .returned (.int .i64 l.length) ∧ w' = w := by
  obtain ⟨hA, hmap, hq, hsz⟩ := h
  obtain ⟨p, cap, rfl⟩ : ∃ p cap, v = .slice p l.length cap := by
    rcases hq.row with ⟨rfl, rfl⟩ | ⟨g, cap, rfl, _⟩
    · exact ⟨none, 0, rfl⟩
    · exact ⟨_, cap, rfl⟩
  have c1 : w.cell? ⟨M + 1, 1, none⟩ = some (.slice p l.length cap) := cell_of hA rfl
  clear hA hq hsz hmap
  go_enter Try.func21, Try.ntmps21
  go_wp2_with (go_at_call 24; refine (len_any _ _ _ _ (by omega)).mono ?_; rintro e w' ⟨rfl, rfl⟩)
  go_ret
  exact ⟨rfl, rfl⟩
end Go.Proofs.Qxb6616760a
