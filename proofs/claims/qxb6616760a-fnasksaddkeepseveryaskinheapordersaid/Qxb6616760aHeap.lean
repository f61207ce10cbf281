/-
  The plain mathematics of the ask queue: pairs (number, time) in the order of heap.Push; nothing of the program stands here.
-/
namespace Go.Proofs.Qxb6616760a.Plain

/-- the ask at place k (number, time) -/
def at' (l : List (Int × Int)) (k : Nat) : Int × Int := l.getD k (0, 0)

/-- strictly earlier; of one time, the lower number -/
def ltB (p q : Int × Int) : Bool := decide (p.2 < q.2 ∨ (p.2 = q.2 ∧ p.1 < q.1))
def le (p q : Int × Int) : Prop := p.2 < q.2 ∨ (p.2 = q.2 ∧ p.1 ≤ q.1)

theorem le_refl (p : Int × Int) : le p p := by unfold le; omega
theorem le_trans {p q r : Int × Int} (h1 : le p q) (h2 : le q r) : le p r := by unfold le at *; omega
theorem le_antisymm {p q : Int × Int} (h1 : le p q) (h2 : le q p) : p = q := by
  unfold le at *
  exact Prod.ext (by omega) (by omega)
theorem le_of_lt {p q : Int × Int} (h : ltB p q = true) : le p q := by
  unfold ltB at h; have := of_decide_eq_true h; unfold le; omega
theorem le_of_not_lt {p q : Int × Int} (h : ltB p q = false) : le q p := by
  unfold ltB at h; have := of_decide_eq_false h; unfold le; omega

def Heap (l : List (Int × Int)) : Prop := ∀ k, 0 < k → k < l.length → le (at' l ((k - 1) / 2)) (at' l k)

/-- a heap but for the place j (and what stands below j stands under j's parent) -/
def HeapBut (l : List (Int × Int)) (j : Nat) : Prop :=
  (∀ k, 0 < k → k < l.length → k ≠ j → le (at' l ((k - 1) / 2)) (at' l k)) ∧
  (∀ k, 0 < k → k < l.length → (k - 1) / 2 = j → 0 < j → le (at' l ((j - 1) / 2)) (at' l k))

def sw (l : List (Int × Int)) (i j : Nat) : List (Int × Int) := (l.set i (at' l j)).set j (at' l i)

theorem sw_length (l : List (Int × Int)) (i j : Nat) : (sw l i j).length = l.length := by simp [sw]

theorem at_sw (l : List (Int × Int)) (i j k : Nat) (hi : i < l.length) (hj : j < l.length) :
    at' (sw l i j) k = if k = j then at' l i else if k = i then at' l j else at' l k := by
  unfold sw
  by_cases h1 : k = j
  · subst h1
    simp [at', List.getD, hj]
  · rw [if_neg h1]
    by_cases h2 : k = i
    · subst h2
      rw [if_pos rfl]
      simp [at', List.getD, hi, Ne.symm h1]
    · rw [if_neg h2]
      simp [at', List.getD, Ne.symm h1, Ne.symm h2]

theorem sw_perm (l : List (Int × Int)) (i j : Nat) (hi : i < l.length) (hj : j < l.length) : (sw l i j).Perm l := by
  have := List.set_set_perm (as := l) (i := i) (j := j) hi hj
  have e1 : at' l j = l[j] := by simp [at', List.getD, hj]
  have e2 : at' l i = l[i] := by simp [at', List.getD, hi]
  unfold sw
  rw [e1, e2]
  exact this

theorem heapBut_push {l : List (Int × Int)} (x : Int × Int) (h : Heap l) : HeapBut (l ++ [x]) l.length := by
  have e : ∀ k, k < l.length → at' (l ++ [x]) k = at' l k := fun k hk => by simp [at', List.getD, List.getElem?_append_left hk]
  refine ⟨fun k h0 hk hne => ?_, fun k h0 hk hp _ => ?_⟩
  · simp at hk
    have hk' : k < l.length := by omega
    rw [e k hk', e _ (by omega)]
    exact h k h0 hk'
  · simp at hk; omega

theorem heapBut_step {l : List (Int × Int)} {j : Nat} (h : HeapBut l j) (h0 : 0 < j) (hj : j < l.length) (hlt : ltB (at' l j) (at' l ((j - 1) / 2)) = true) :
    HeapBut (sw l ((j - 1) / 2) j) ((j - 1) / 2) := by
  obtain ⟨h1, h2⟩ := h
  have hi : (j - 1) / 2 < l.length := by omega
  have hji := le_of_lt hlt
  have hat := fun k => at_sw l ((j - 1) / 2) j k hi hj
  refine ⟨fun k k0 hk hne => ?_, fun k k0 hk hp i0 => ?_⟩
  · rw [sw_length] at hk
    rw [hat k, hat ((k - 1) / 2)]
    by_cases hkj : k = j
    · subst hkj
      rw [if_pos rfl, if_neg (by omega), if_pos rfl]
      exact hji
    · rw [if_neg hkj, if_neg hne]
      by_cases hpj : (k - 1) / 2 = j
      · rw [if_pos hpj]
        exact h2 k k0 hk hpj h0
      · rw [if_neg hpj]
        by_cases hpi : (k - 1) / 2 = (j - 1) / 2
        · rw [if_pos hpi]
          have := h1 k k0 hk hkj
          rw [hpi] at this
          exact le_trans hji this
        · rw [if_neg hpi]
          exact h1 k k0 hk hkj
  · rw [sw_length] at hk
    rw [hat k, hat (((j - 1) / 2 - 1) / 2)]
    have hpi := h1 ((j - 1) / 2) i0 hi (by omega)
    rw [if_neg (show ¬ ((j - 1) / 2 - 1) / 2 = j by omega), if_neg (show ¬ ((j - 1) / 2 - 1) / 2 = (j - 1) / 2 by omega)]
    by_cases hkj : k = j
    · rw [if_pos hkj]
      exact hpi
    · rw [if_neg hkj, if_neg (by omega)]
      have := h1 k k0 hk hkj
      rw [hp] at this
      exact le_trans hpi this

theorem heap_of_but_zero {l : List (Int × Int)} (h : HeapBut l 0) : Heap l := fun k k0 hk => h.1 k k0 hk (by omega)

theorem heap_of_but {l : List (Int × Int)} {j : Nat} (h : HeapBut l j) (hlt : ltB (at' l j) (at' l ((j - 1) / 2)) = false) : Heap l := fun k k0 hk => by
  by_cases e : k = j
  · subst e; exact le_of_not_lt hlt
  · exact h.1 k k0 hk e

theorem heap_nil : Heap [] := fun k _ hk => by simp at hk

theorem front_le {l : List (Int × Int)} (h : Heap l) : ∀ n k, k ≤ n → k < l.length → le (at' l 0) (at' l k) := by
  intro n
  induction n with
  | zero => intro k hk _; have : k = 0 := by omega
            subst this; exact le_refl _
  | succ n ih =>
    intro k hk hl
    by_cases k0 : k = 0
    · subst k0; exact le_refl _
    · exact le_trans (ih ((k - 1) / 2) (by omega) (by omega)) (h k (by omega) hl)

theorem at_mem {l : List (Int × Int)} {k : Nat} (h : k < l.length) : at' l k ∈ l := by
  have e1 : at' l k = l[k] := by simp [at', List.getD, h]
  rw [e1]; exact List.getElem_mem h

theorem mem_at {l : List (Int × Int)} {x : Int × Int} (h : x ∈ l) : ∃ k, k < l.length ∧ at' l k = x := by
  obtain ⟨k, hk, e⟩ := List.getElem_of_mem h
  exact ⟨k, hk, by simp [at', List.getD, hk, e]⟩

theorem front_min {l : List (Int × Int)} (h : Heap l) {x : Int × Int} (hx : x ∈ l) : le (at' l 0) x := by
  obtain ⟨k, hk, rfl⟩ := mem_at hx
  exact front_le h k k (Nat.le_refl _) hk

end Go.Proofs.Qxb6616760a.Plain
