/-
  Plain facts for FnAsksAddKeepsEveryAskInHeapOrder.
-/
import Derived.Test.Qxb6616760aRowsOf
namespace Go.Proofs.Qxb6616760a
open Go.RowKit Plain Go.Maps
set_option linter.unusedVariables false

theorem Da_isMap (zs ys : List Int) : ∀ k, IsMap (Da zs ys k)
  | 0 => isMap_empty
  | k + 1 => (Da_isMap zs ys k).put _ _

theorem Da_of (zs ys : List Int) : ∀ k j, j < k → Maps.has (Da zs ys k) (.int .u64 (zs.getD j 0)) = true
  | 0, j, h => by omega
  | k + 1, j, h => by
    unfold Da
    by_cases e : zs.getD k 0 = zs.getD j 0
    · rw [e]; exact has_put_same (Da_isMap zs ys k) (isKey _) _
    · rw [has_put_other (key_ne (Ne.symm e))]
      exact Da_of zs ys k j (by have : j ≠ k := fun e' => e (by rw [e']); omega)

theorem Da_at (zs ys : List Int) (z : DataW Unit) : ∀ k j, Apart zs k → j < k → (Da zs ys k).atKey (.int .u64 (zs.getD j 0)) z = askDatum (zs.getD j 0) (ys.getD j 0)
  | 0, j, _, h => by omega
  | k + 1, j, ha, h => by
    unfold Da
    by_cases e : j = k
    · subst e; exact atKey_put_same (Da_isMap zs ys j) (isKey _) _ _
    · rw [atKey_put_other (key_ne (ha j k (by omega) (by omega)))]
      exact Da_at zs ys z k j (fun a b h1 h2 => ha a b h1 (by omega)) (by omega)

theorem Asks.below {w w' : World} {M : Nat} {v : Value} {l : List (Int × Int)} {D : DataW Unit} (h : Asks w M v l D) (hb : Below w.heap.size w w') : Asks w' M v l D := by
  obtain ⟨h1, h2, h3, h4⟩ := h
  have hg : w.grownBy w' none := ⟨hb.os, hb.tape, hb.output, hb.size, fun k hk _ => hb.block k hk⟩
  exact ⟨(hb.block (M + 1) (by omega)).trans h1, h2.kept hg (by simp), h3.kept hg (by
    by_cases e : v.ownBlock = none
    · exact .inl e
    · exact .inr e), Nat.le_trans h4 hb.size⟩

theorem ownsMap_below {R : Value → Option (DataW Unit × List MemPlace)} {w w' : World} {B b n : Nat} {D : DataW Unit} (h : w.ownsMap Try.prog 34 R b n D) (hb : Below B w w') (hlt : b < B) : w'.ownsMap Try.prog 34 R b n D := by
  obtain ⟨es, clock, hh, r⟩ := h
  exact ⟨es, clock, (hb.block b hlt).trans hh, r⟩

theorem pairs_mem (zs ys : List Int) : ∀ k x, x ∈ pairs zs ys k → ∃ i, i < k ∧ x = (zs.getD i 0, ys.getD i 0)
  | 0, x, h => by simp [pairs] at h
  | k + 1, x, h => by
    rw [pairs, List.mem_append] at h
    rcases h with h | h
    · obtain ⟨i, hi, e⟩ := pairs_mem zs ys k x h
      exact ⟨i, by omega, e⟩
    · rw [List.mem_singleton] at h
      exact ⟨k, by omega, h⟩

theorem pairs_apart (zs ys : List Int) : ∀ k, Apart zs k → (pairs zs ys k).Pairwise (fun p q => p.1 ≠ q.1)
  | 0, _ => List.Pairwise.nil
  | k + 1, h => by
    rw [pairs, List.pairwise_append]
    refine ⟨pairs_apart zs ys k (fun i j a b => h i j a (by omega)), List.pairwise_singleton _ _, fun a ha b hb => ?_⟩
    rw [List.mem_singleton] at hb
    obtain ⟨i, hi, e⟩ := pairs_mem zs ys k a ha
    rw [e, hb]
    exact h i k hi (by omega)

theorem perm_apart {zs ys : List Int} {k : Nat} {l : List (Int × Int)} (hp : l.Perm (pairs zs ys k)) (ha : Apart zs k) : ∀ i j, i < j → j < l.length → (at' l i).1 ≠ (at' l j).1 := by
  have h := (hp.pairwise_iff (fun {_ _} hne => Ne.symm hne)).2 (pairs_apart zs ys k ha)
  intro i j hij hj
  have := List.pairwise_iff_getElem.1 h i j (by omega) hj hij
  have e1 : at' l i = l[i] := by simp [at', List.getD, show i < l.length by omega]
  have e2 : at' l j = l[j] := by simp [at', List.getD, hj]
  rw [e1, e2]
  exact this

/-- has place i been met among the queue's first k? -/
def uB (zs : List Int) (l : List (Int × Int)) (k i : Nat) : Bool := (List.range k).any (fun j => (at' l j).1 == zs.getD i 0)

theorem uB_zero (zs : List Int) (l : List (Int × Int)) (i : Nat) : uB zs l 0 i = false := rfl
theorem uB_succ (zs : List Int) (l : List (Int × Int)) (k i : Nat) : uB zs l (k + 1) i = (uB zs l k i || ((at' l k).1 == zs.getD i 0)) := by
  unfold uB
  rw [List.range_succ, List.any_append]
  simp
theorem uB_new {zs : List Int} {l : List (Int × Int)} {k i : Nat} (h : ∀ i j, i < j → j < l.length → (at' l i).1 ≠ (at' l j).1) (hk : k < l.length) (e : (at' l k).1 = zs.getD i 0) : uB zs l k i = false := by
  unfold uB
  rw [List.any_eq_false]
  intro j hj
  rw [List.mem_range] at hj
  have := h j k hj hk
  rw [e] at this
  simpa using this
theorem uB_step {zs : List Int} {l : List (Int × Int)} {k i n : Nat} (ha : Apart zs n) (hi : i < n) (e : (at' l k).1 = zs.getD i 0) : ∀ j, j < n → (if j = i then Value.bool true else .bool (uB zs l k j)) = .bool (uB zs l (k + 1) j) := by
  intro j hj
  rw [uB_succ]
  by_cases ej : j = i
  · subst ej
    rw [if_pos rfl, e]
    simp
  · rw [if_neg ej]
    have : ((at' l k).1 == zs.getD j 0) = false := by
      rw [e]
      have : zs.getD i 0 ≠ zs.getD j 0 := by
        rcases Nat.lt_or_gt_of_ne ej with h | h
        · exact Ne.symm (ha j i h hi)
        · exact ha i j h hj
      simpa using this
    rw [this, Bool.or_false]

/-- 'i, found := idx[qn[j]]' where the number is known to be there -/
theorem wpList_lookup_idx (w : World) {ops : Array Oper} {rest : List Oper} {o : Oper} {a : Act} {Q : Exit → Act → World → Prop}
    (hg : o.guard = none) (m x : Operand) (hop : o.op = Op.lookup 28 m x true) (b k : Nat) (D : DataW Unit) (hm : a.eval m = .map (some b)) (hown : w.ownsMap Try.prog 34 (plainElem Try.prog 3) b k D)
    (n i : Int) (hx : a.eval x = .int .u64 n) (hw : (Lit.int .u64 n).wf = true) (hhas : Maps.has D (.int .u64 n) = true) (hat : ∀ z, D.atKey (.int .u64 n) z = .lit (.int .i64 i))
    (hK : wpList Try.prog ops Q rest (a.put o.dst (.tuple #[.int .i64 i, .bool true])) w) :
    wpList Try.prog ops Q (o :: rest) a w := by
  refine wpList_lookup_own_ok_int w hg m x 28 hop 34 3 .i64 law Try.underlying28 Try.underlying3 (zero3 w) b k D hm hown _ _ hx (keyOf_int_mk Try.underlying34 hw) (fun c hc hwc => ?_)
  rw [hat] at hc
  injection hc with hc
  injection hc with _ hc
  subst hc
  rw [hhas]
  exact hK
end Go.Proofs.Qxb6616760a
