/-
  The walk of FnAsksAddFrontIsEarliestSoFar.
-/
import Derived.Test.Qxb6616760aLen
namespace Go.Proofs.Qxb6616760a
open Go.RowKit Plain Go.Maps
set_option linter.unusedVariables false

def leB (p q : Int × Int) : Bool := decide (p.2 < q.2 ∨ (p.2 = q.2 ∧ p.1 ≤ q.1))
theorem le_of_leB {p q : Int × Int} (h : leB p q = true) : le p q := by
  unfold leB at h
  have := of_decide_eq_true h
  exact this
theorem le_of_not_leB {p q : Int × Int} (h : leB p q = false) : le q p := by
  unfold leB at h
  have := of_decide_eq_false h
  unfold le
  omega

theorem pairLE_any (a n b m : Int) (w : World) : Calls Try.prog 17 #[.int .i64 a, .int .u64 n, .int .i64 b, .int .u64 m] w fun e w' => e = .returned (.bool (leB (n, a) (m, b))) ∧ w' = w := by
  by_cases h : a < b
  · go_enter Try.func17, Try.ntmps17
    go_wp2
    go_ret
    exact ⟨ret_bool (by unfold leB; simp [h]), rfl⟩
  by_cases h2 : a = b
  · subst h2
    go_enter Try.func17, Try.ntmps17
    go_wp2
    go_ret
    exact ⟨ret_bool (by unfold leB; simp), rfl⟩
  · have h3 : (a == b) = false := by simpa using h2
    go_enter Try.func17, Try.ntmps17
    go_wp2
    go_ret
    exact ⟨ret_bool (by unfold leB; simp [h2]; omega), rfl⟩

set_option maxHeartbeats 400000 in
theorem front_any (M : Nat) (v : Value) (l : List (Int × Int)) (D : DataW Unit) (w : World) (h : Asks w M v l D) (hn : 0 < l.length) (hn9 : l.length ≤ 900000) :
    Calls Try.prog 19 #[.pointer (some ⟨M + 1, 0, none⟩)] w fun e w' => e = .returned (.tuple #[.int .u64 (at' l 0).1, .int .i64 (at' l 0).2, .bool true]) ∧ ∃ q, w' = w.drewN q := by
  obtain ⟨hA, hmap, hq, hsz⟩ := h
  obtain ⟨g, cap, rfl, hrow⟩ : ∃ g cap, v = .slice (some ⟨g, 0, none⟩) l.length cap ∧ QRow w g cap l := by
    rcases hq.row with ⟨rfl, rfl⟩ | ⟨g, cap, rfl, _, hr⟩
    · simp at hn
    · exact ⟨_, cap, rfl, hr⟩
  have c1 : w.cell? ⟨M + 1, 1, none⟩ = some (.slice (some ⟨g, 0, none⟩) l.length cap) := cell_of hA rfl
  obtain ⟨x0, x1, _, _⟩ := hrow.cells (k := 0) hn
  simp only [Nat.zero_mul, Nat.zero_add] at x0 x1
  have hz : ((l.length : Int) == 0) = false := by
    have : (l.length : Int) ≠ 0 := by omega
    simpa using this
  have hpos : (0 : Int) < (l.length : Int) := by omega
  obtain ⟨p, hp⟩ : ∃ p, p = at' l 0 := ⟨_, rfl⟩
  rw [← hp] at x0 x1
  rw [← hp]
  clear hA hq hsz hmap hrow hp
  go_enter Try.func19, Try.ntmps19
  go_wp2
  go_quiet (fail)
  go_wp2
  go_ret3
  exact ⟨rfl, _, rfl⟩

/-- the earliest of the first k asks -/
def IsMin (zs ys : List Int) (k : Nat) (m : Int × Int) : Prop := 0 < k → m ∈ pairs zs ys k ∧ ∀ x ∈ pairs zs ys k, le m x

theorem isMin_zero (zs ys : List Int) (m : Int × Int) : IsMin zs ys 0 m := fun h => by omega

theorem isMin_first (zs ys : List Int) : IsMin zs ys 1 (zs.getD 0 0, ys.getD 0 0) := fun _ => by
  simp [pairs]
  exact le_refl _

theorem isMin_new {zs ys : List Int} {k : Nat} {m : Int × Int} (h : IsMin zs ys k m) (hk : 0 < k) (hle : leB (zs.getD k 0, ys.getD k 0) m = true) : IsMin zs ys (k + 1) (zs.getD k 0, ys.getD k 0) := fun _ => by
  obtain ⟨h1, h2⟩ := h hk
  refine ⟨by simp [pairs], fun x hx => ?_⟩
  rw [pairs, List.mem_append] at hx
  rcases hx with hx | hx
  · exact le_trans (le_of_leB hle) (h2 x hx)
  · rw [List.mem_singleton] at hx
    rw [hx]
    exact le_refl _

theorem isMin_old {zs ys : List Int} {k : Nat} {m : Int × Int} (h : IsMin zs ys k m) (hk : 0 < k) (hle : leB (zs.getD k 0, ys.getD k 0) m = false) : IsMin zs ys (k + 1) m := fun _ => by
  obtain ⟨h1, h2⟩ := h hk
  refine ⟨by rw [pairs, List.mem_append]; exact .inl h1, fun x hx => ?_⟩
  rw [pairs, List.mem_append] at hx
  rcases hx with hx | hx
  · exact h2 x hx
  · rw [List.mem_singleton] at hx
    rw [hx]
    exact le_of_not_leB hle

theorem front_eq {zs ys : List Int} {k : Nat} {m : Int × Int} {l : List (Int × Int)} (h : IsMin zs ys k m) (hk : 0 < k) (hp : l.Perm (pairs zs ys k)) (hh : Heap l) : at' l 0 = m := by
  obtain ⟨h1, h2⟩ := h hk
  have hl : 0 < l.length := by rw [hp.length_eq, pairs_len]; exact hk
  exact le_antisymm (front_min hh (hp.mem_iff.2 h1)) (h2 _ (hp.mem_iff.1 (at_mem hl)))
end Go.Proofs.Qxb6616760a
