/-
  The queue's value as a row of the call's own; the contract of (*askQueue).Push.
-/
import Derived.Test.Qxb6616760aUp
import Derived.Deep.RegionLawGrows
import Derived.OwnWalk
import Derived.Carry
import Derived.Maps.AppendAt
namespace Go.Proofs.Qxb6616760a
open Go.RowKit Plain
set_option linter.unusedVariables false

def askCells (p : Int × Int) : List Value := [.int .u64 p.1, .int .i64 p.2, .int .i64 0, .bool false]

/-- the slice v holds the asks l, in a row from block B on -/
def QueueIs (w : World) (B : Nat) (v : Value) (l : List (Int × Int)) : Prop := w.ownsRow B 60 4 v l.length (l.flatMap askCells)

theorem flat_len (l : List (Int × Int)) : (l.flatMap askCells).length = l.length * 4 := by
  induction l with
  | nil => rfl
  | cons x r ih => simp [List.flatMap_cons, askCells] at ih ⊢; omega

theorem flat_get (l : List (Int × Int)) : ∀ k c, k < l.length → c < 4 → (l.flatMap askCells)[k * 4 + c]? = (askCells (at' l k))[c]? := by
  induction l with
  | nil => intro k c hk; simp at hk
  | cons x r ih =>
    intro k c hk hc
    cases k with
    | zero =>
      have e : at' (x :: r) 0 = x := rfl
      rw [e, List.flatMap_cons, List.getElem?_append_left (by simp [askCells]; omega)]
      simp
    | succ k =>
      have e : at' (x :: r) (k + 1) = at' r k := rfl
      rw [e, ← ih k c (by simpa using hk) hc, List.flatMap_cons, List.getElem?_append_right (by simp [askCells]; omega)]
      congr 1
      simp [askCells]; omega

theorem QueueIs.row {w : World} {B : Nat} {v : Value} {l : List (Int × Int)} (h : QueueIs w B v l) :
    (v = .slice none 0 0 ∧ l = []) ∨ ∃ g cap, v = .slice (some ⟨g, 0, none⟩) l.length cap ∧ B ≤ g ∧ QRow w g cap l := by
  obtain ⟨h1, h2⟩ := h
  rcases h2 with ⟨rfl, hn⟩ | ⟨g, cap, cur, rfl, hB, hb, hnc, hcm, hsz, htk⟩
  · exact .inl ⟨rfl, List.eq_nil_of_length_eq_zero hn⟩
  · refine .inr ⟨g, cap, rfl, hB, hnc, hcm, cur, hb, hsz, fun k hk => ?_⟩
    have e : ∀ c, c < 4 → cur[k * 4 + c]? = (askCells (at' l k))[c]? := fun c hc => by
      rw [← flat_get l k c hk hc, ← htk, List.getElem?_take_of_lt (by omega), Array.getElem?_toList]
    exact ⟨e 0 (by omega), e 1 (by omega), e 2 (by omega), e 3 (by omega)⟩

theorem QRow.queue {w : World} {B g cap : Nat} {l : List (Int × Int)} (h : QRow w g cap l) (hB : B ≤ g) : QueueIs w B (.slice (some ⟨g, 0, none⟩) l.length cap) l := by
  obtain ⟨h1, h2, cur, hb, hsz, hc⟩ := h
  refine ⟨flat_len l, .inr ⟨g, cap, cur, rfl, hB, hb, h1, h2, hsz, ?_⟩⟩
  apply List.ext_getElem?
  intro t
  by_cases ht : t < l.length * 4
  · have hk : t / 4 < l.length := by omega
    have hm : t % 4 < 4 := by omega
    obtain ⟨c0, c1, c2, c3⟩ := hc _ hk
    have e := flat_get l (t / 4) (t % 4) hk hm
    rw [show t / 4 * 4 + t % 4 = t by omega] at e
    rw [List.getElem?_take_of_lt ht, Array.getElem?_toList, e]
    have hcs : t % 4 = 0 ∨ t % 4 = 1 ∨ t % 4 = 2 ∨ t % 4 = 3 := by omega
    rcases hcs with h | h | h | h
    · rw [show t / 4 * 4 = t by omega] at c0; rw [h, c0]; rfl
    · rw [show t / 4 * 4 + 1 = t by omega] at c1; rw [h, c1]; rfl
    · rw [show t / 4 * 4 + 2 = t by omega] at c2; rw [h, c2]; rfl
    · rw [show t / 4 * 4 + 3 = t by omega] at c3; rw [h, c3]; rfl
  · rw [List.getElem?_eq_none (by simp; omega), List.getElem?_eq_none (by rw [flat_len]; omega)]

theorem info60 : (Try.prog.info? 60).map (fun i => (i.zero, i.size, i.bytes)) = some (some (.agg #[.int .u64 0, .int .i64 0, .int .i64 0, .bool false]), 4, 32) := by kernel_rfl

/-- the append of one ask, as one step of a region that draws its order -/
theorem step_push {ops : Array Oper} {o : Oper} {a : Act} {w : World} {K : Act → World → Prop} {Q : Exit → Act → World → Prop} {E : Prop}
    (hg : o.guard = none) (s x : Operand) (hop : o.op = Op.call { callee := Callee.builtin Builtin.append, args := #[s, x], argTypes := #[55, 55] })
    (B : Nat) (v : Value) (l : List (Int × Int)) (hs : a.eval s = v) (hown : QueueIs w B v l) (ad : Addr) (p : Int × Int) (hx : a.eval x = .slice (some ad) 1 1)
    (hc : ∀ j u, (askCells p)[j]? = some u → w.cell? (ad.add j) = some u) (hn : l.length ≤ 1000000) (hB : B ≤ w.heap.size)
    (r : Addr) (hr : w.cell? r = some v) (hrf : w.frozen? r = false) (hrb : r.block < B)
    (hK : ∀ g cap w', QueueIs w' B (.slice (some ⟨g, 0, none⟩) (l.length + 1) cap) (l ++ [p]) → w.grownBy w' v.ownBlock → w'.cell? r = some v → w'.frozen? r = false →
      K (a.put o.dst (.slice (some ⟨g, 0, none⟩) (l.length + 1) cap)) w') :
    if Region.wanted o (yielded ops a.tmps) = true then Oper.wp Try.prog o a w K Q else E := by
  have hw : Region.wanted o (yielded ops a.tmps) = true := by simp [Region.wanted, hg]
  rw [if_pos hw]
  obtain ⟨i0, hi, hz0, hz1, hz2⟩ := info_parts info60
  obtain ⟨v', w', hrun, r1, r2, r3⟩ := run_append_own (P := Try.prog) w B 55 o.type 60 i0 _ 4 32 Try.underlying55 hi hz0 hz1 hz2 rfl (by decide) v l.length (l.flatMap askCells) hown ad 1 1 (askCells p) rfl hc
    (by intro u hu; simp [askCells] at hu; rcases hu with rfl | rfl | rfl | rfl <;> rfl) (by unfold maxLen; omega) (by omega) hB
  have hne : v.ownBlock ≠ some r.block := fun e => by
    have := (hown.lt r.block e).1; omega
  have hblk := r2.block r.block (World.block_lt_of_cell? w r hr) (fun e => hne e.symm)
  have hfl : (l ++ [p]).flatMap askCells = l.flatMap askCells ++ askCells p := by simp
  have hq : QueueIs w' B v' (l ++ [p]) := by
    unfold QueueIs
    rw [hfl, List.length_append]
    exact r1
  unfold Oper.wp
  simp [execOp, hop, resolve, invoke, builtin, hs, hx, hrun, Result.andThen]
  rcases hq.row with ⟨_, h⟩ | ⟨g, cap, rfl, _, _⟩
  · simp at h
  · rw [List.length_append] at hq
    rw [show ((l ++ [p]).length) = l.length + 1 by simp]
    exact hK g cap w' hq r2 ((World.cell?_of_block hblk).trans hr) ((World.frozen?_of_block hblk).trans hrf)

set_option maxHeartbeats 400000 in
theorem qpush_any (a o B : Nat) (v : Value) (l : List (Int × Int)) (p : Int × Int) (w : World) (hq : w.cell? ⟨a, o, none⟩ = some v) (hf : w.frozen? ⟨a, o, none⟩ = false) (hab : a < B) (hB : B ≤ w.heap.size)
    (hn : l.length ≤ 1000000) (hown : QueueIs w B v l) :
    Calls Try.prog 51 #[.pointer (some ⟨a, o, none⟩), .iface 60 (.agg #[.int .u64 p.1, .int .i64 p.2, .int .i64 0, .bool false])] w fun e w' => e = .returned (.tuple #[]) ∧
      ∃ g cap w1, QueueIs w1 B (.slice (some ⟨g, 0, none⟩) (l.length + 1) cap) (l ++ [p]) ∧ w.grownBy w1 v.ownBlock ∧ w' = w1.setCell ⟨a, o, none⟩ (.slice (some ⟨g, 0, none⟩) (l.length + 1) cap) := by
  have hta : ∀ (x : Value) (w : World), (Instr.typeAssert (.iface 60 x) 20 60 false).run Try.prog w = .ok x w := fun _ _ => by kernel_rfl
  have hlt := World.block_lt_of_cell? w _ hq
  have hown1 : Hid (QueueIs (w.alloc (.cells #[.int .u64 p.1, .int .i64 p.2, .int .i64 0, .bool false] 60)).drew B v l) := (World.ownsRow.alloc hown _).drew
  have hc1 : Hid (∀ j u, (askCells p)[j]? = some u → (w.alloc (.cells #[.int .u64 p.1, .int .i64 p.2, .int .i64 0, .bool false] 60)).drew.cell? ((⟨w.heap.size, 0, none⟩ : Addr).add j) = some u) := by
    intro j u hu
    have hb : (w.alloc (.cells #[.int .u64 p.1, .int .i64 p.2, .int .i64 0, .bool false] 60)).drew.heap[w.heap.size]? = some (.cells #[.int .u64 p.1, .int .i64 p.2, .int .i64 0, .bool false] 60) := by exact heap_alloc_new w _
    have : (⟨w.heap.size, 0, none⟩ : Addr).add j = ⟨w.heap.size, j, none⟩ := by simp [Addr.add]; omega
    rw [this]
    exact cell_of hb (by rw [← hu]; simp [askCells])
  have hq1 : Hid ((w.alloc (.cells #[.int .u64 p.1, .int .i64 p.2, .int .i64 0, .bool false] 60)).drew.cell? ⟨a, o, none⟩ = some v) :=
    (World.cell?_of_block (w := w) (Below.heap_alloc w _ a hlt)).trans hq
  have hf1 : Hid ((w.alloc (.cells #[.int .u64 p.1, .int .i64 p.2, .int .i64 0, .bool false] 60)).drew.frozen? ⟨a, o, none⟩ = false) :=
    (World.frozen?_of_block (w := w) (Below.heap_alloc w _ a hlt)).trans hf
  go_enter Try.func51, Try.ntmps51
  go_wp2
  go_region_law (refine step_push rfl (.tmp 7) (.tmp 10) rfl B v l (by simp [Act.eval]) hown1.out ⟨w.heap.size, 0, none⟩ p (by simp [Act.eval]) hc1.out hn (by simp; omega) ⟨a, o, none⟩ hq1.out hf1.out hab ?_; intro g cap w1 hq2 hgr hr1 hfr1)
  all_goals go_end0
  all_goals exact ⟨rfl, g, cap, w1, hq2, (World.grownBy_alloc w _ _).trans ⟨hgr.os, hgr.tape, hgr.output, hgr.size, hgr.block⟩, rfl⟩
end Go.Proofs.Qxb6616760a
