/-
  For the second law: parts of a row; images sorted; two rows joined.
-/
import Derived.Test.Qxb6616947aDoorLawA
import Derived.ArgAppend
import Derived.OwnWalk
namespace Go.Proofs.Qxb6616947aDoor
open Go.RowKit Go.Sort Go.Shelf Plain
set_option linter.unusedVariables false

theorem ext_get {α : Type} [Inhabited α] (d : Array α) (a b i : Nat) (hb : b ≤ d.size) (hi : i < b - a) : (d.extract a b)[i]! = d[a + i]! := by
  rw [getElem!_pos (d.extract a b) i (by simp; omega), getElem!_pos d (a + i) (by omega)]
  simp

theorem holdsK_extract {α : Type} [Inhabited α] {en : α → List Value} {k : Nat} (k0 : 0 < k) {w : World} {blk off : Nat} {d : Array α} (h : HoldsK en k w blk off d) (a b : Nat) (hb : b ≤ d.size) : HoldsK en k w blk (off + a * k) (d.extract a b) := by
  refine holdsK_of k0 (fun i c hi hc => ?_)
  have hs : (d.extract a b).size = b - a := by simp; omega
  rw [hs] at hi
  rw [ext_get d a b i hb hi]
  have := h.cell (i := a + i) (by omega) hc
  rw [Nat.add_mul, ← Nat.add_assoc] at this
  exact this

/-- a slice of a slice, as one word -/
def Sl22 (x : Value) (lo hi mx : Option Value) : Sem Value := Instr.sliceAt 22 x lo hi mx
theorem sl22_fold (x : Value) (lo hi mx : Option Value) : Instr.sliceAt 22 x lo hi mx = Sl22 x lo hi mx := rfl

theorem size45 (w : World) : (sizeOf 45).run Tryd.prog w = .ok 21 w := by
  obtain ⟨i, hi, h21⟩ : ∃ i, Tryd.prog.info? 45 = some i ∧ i.size = 21 := by
    have h := info45s
    cases hq : Tryd.prog.info? 45 with
    | none => rw [hq] at h; cases h
    | some i => rw [hq] at h; exact ⟨i, rfl, by injection h⟩
  simp [sizeOf, typeInfo, hi, h21]

theorem elem22 : Tryd.prog.elem 22 = 45 := by kernel_rfl
theorem und22 : Tryd.prog.underlying 22 = some (.slice (Tryd.prog.elem 22)) := by kernel_rfl

theorem sl_left (p : Option Addr) (n k : Nat) (hk : k ≤ n) (w : World) : (Sl22 (.slice p n n) none (some (.int .i64 k)) none).run Tryd.prog w = .ok (.slice p k n) w := by
  unfold Sl22
  rw [run_sliceAt_slice w 22 _ _ _ _ und22, run_slice_h w 22 p n n und22 .i64 k (by omega) (by omega), elem22, size45]
  simp [Result.andThen, sliced, Addr.add]

theorem sl_right (p : Option Addr) (n k : Nat) (hk : k ≤ n) (w : World) : (Sl22 (.slice p n n) (some (.int .i64 k)) none none).run Tryd.prog w = .ok (.slice (if n = k then p else p.map (·.add (k * 21))) (n - k) (n - k)) w := by
  unfold Sl22
  rw [run_sliceAt_slice w 22 _ _ _ _ und22, run_slice_l w 22 p n n und22 .i64 k (by omega) (by omega), elem22, size45]
  simp [Result.andThen, sliced]

theorem VZ.left {w : World} {B : Nat} {p : Option Addr} {zs : Array Zv} (h : VZ w B p zs) (k : Nat) (hk : k ≤ zs.size) : VZ w B p (zs.extract 0 k) := by
  rcases h with h | ⟨bv, ov, hp, hb, hH⟩
  · exact .inl (by simp; omega)
  · refine .inr ⟨bv, ov, hp, hb, ?_⟩
    have := holdsK_extract (by omega) hH 0 k hk
    rw [Nat.zero_mul, Nat.add_zero] at this
    exact this

theorem VZ.right {w : World} {B : Nat} {p : Option Addr} {zs : Array Zv} (h : VZ w B p zs) (k : Nat) (hk : k ≤ zs.size) : VZ w B (if zs.size = k then p else p.map (·.add (k * 21))) (zs.extract k zs.size) := by
  by_cases e : zs.size = k
  · exact .inl (by simp; omega)
  rw [if_neg e]
  rcases h with h | ⟨bv, ov, hp, hb, hH⟩
  · exact .inl (by simp; omega)
  · refine .inr ⟨bv, ov + k * 21, ?_, hb, holdsK_extract (by omega) hH k zs.size (Nat.le_refl _)⟩
    rw [hp, Option.map_some, Addr.add_lit]

/-- the images of a slice, then their sort -/
theorem imgs (p : Option Addr) (c n : Nat) (zs : Array Zv) (b4 o4 b6 o6 : Nat) (w : World) (hG : Gl w b4 o4 b6 o6) (hn : zs.size = n) (h : n ≤ 4096) (hR : VZ w w.heap.size p zs) :
    Calls Tryd.prog 8 #[.slice p n c] w fun e w' => e = .returned (.slice (some ⟨w.heap.size, 0, none⟩) n n) ∧
      Calls Tryd.prog 9 #[.slice (some ⟨w.heap.size, 0, none⟩) n n] w' fun e w'' => ∃ R : List V, e = .returned (.slice (some ⟨w.heap.size, 0, none⟩) R.length n) ∧ R.length ≤ n ∧ Hid (Asc R ∧ (∀ x, x ∈ R ↔ x ∈ (zs.map im).toList) ∧ HoldsK (enc b4 o4 b6 o6) 7 w'' w.heap.size 0 R.toArray ∧ w.heap.size < w''.heap.size ∧ GB w w'') := by
  subst hn
  refine (images_any p c zs b4 o4 b6 o6 w hG h hR).mono ?_
  rintro e w1 ⟨rfl, h1, g1, l1⟩
  refine ⟨rfl, ?_⟩
  have l4 := hG.lt4
  have l6 := hG.lt6
  have s2 := hG.s2
  have hS := sv9_any b4 o4 b6 o6 w.heap.size 0 zs.size (zs.map im) w1 (hG.gb g1) (by omega) (by omega) (by omega) h1 l1 (by rw [Array.size_map]; omega) (by rw [Array.size_map]; exact Nat.le_refl _)
  rw [Array.size_map] at hS
  refine hS.mono ?_
  rintro e w2 ⟨R, a1, a2, a3, rfl, a5, a6⟩
  exact ⟨R, rfl, a3, a1, a2, a5, Nat.lt_of_lt_of_le l1 a6.size, GX.gb g1 a6 (Nat.le_refl _)⟩

/-- append where its run is known -/
theorem wpList_ap {P : Program} (w : World) {ops : Array Oper} {rest : List Oper} {o : Oper} {a : Act} {Q : Exit → Act → World → Prop}
    (hg : o.guard = none) (s x : Operand) (t : TypeId) (hop : o.op = Op.call { callee := Callee.builtin Builtin.append, args := #[s, x], argTypes := #[t, t] })
    (v1 v2 v' : Value) (w' : World) (hs : a.eval s = v1) (hx : a.eval x = v2) (hrun : ∀ ty, (Builtin.append_ #[t, t] ty #[v1, v2]).run P w = .ok v' w')
    (h : wpList P ops Q rest (a.put o.dst v') w') : wpList P ops Q (o :: rest) a w := by
  refine wpList_plain hg fun K hK' => ?_
  have hr := hrun o.type
  unfold Oper.wp
  simp [execOp, hop, resolve, invoke, builtin, hs, hx, hr, Result.andThen]
  exact hK' _ _ h

theorem flat_one (b4 o4 b6 o6 : Nat) (d : Array V) : ∀ u ∈ (flatK (enc b4 o4 b6 o6) 7 d).toList, u.oneCell' = true := by
  intro u hu
  unfold flatK at hu
  simp only [Array.toList_map, List.mem_map] at hu
  obtain ⟨t, _, rfl⟩ := hu
  have hc : t % 7 = 0 ∨ t % 7 = 1 ∨ t % 7 = 2 ∨ t % 7 = 3 ∨ t % 7 = 4 ∨ t % 7 = 5 ∨ t % 7 = 6 := by omega
  rcases hc with h | h | h | h | h | h | h <;> rw [h] <;> rfl

/-- append of a row of VRPs to a row with room -/
theorem ap_room (b4 o4 b6 o6 bJ n cap bS c : Nat) (d : Array V) (w : World) (hH : HoldsK (enc b4 o4 b6 o6) 7 w bS 0 d) (hroom : n + d.size ≤ cap)
    (hc : ∀ j, j < cap * 7 → (w.cell? ⟨bJ, j, none⟩).isSome = true) (hf : ∀ j, j < cap * 7 → w.frozen? ⟨bJ, j, none⟩ = false) (ty : TypeId) :
    (Builtin.append_ #[25, 25] ty #[.slice (some ⟨bJ, 0, none⟩) n cap, .slice (some ⟨bS, 0, none⟩) d.size c]).run Tryd.prog w = .ok (.slice (some ⟨bJ, 0, none⟩) (n + d.size) cap) (w.setCells bJ (n * 7) (flatK (enc b4 o4 b6 o6) 7 d).toList) := by
  obtain ⟨i, h1, h2, h3, h4⟩ := info41
  have hl : (flatK (enc b4 o4 b6 o6) 7 d).toList.length = d.size * 7 := by simp
  have h := run_append_room_cells (P := Tryd.prog) w 25 ty 41 i (by kernel_rfl) h1 bJ 0 n cap ⟨bS, 0, none⟩ d.size c (flatK (enc b4 o4 b6 o6) 7 d).toList (by rw [hl, h3]) (fun j u hj => by
      rw [Array.getElem?_toList] at hj
      obtain ⟨hjl, rfl⟩ := Array.getElem?_eq_some_iff.1 hj
      have := (hH j hjl).1
      rw [getElem!_pos _ j hjl] at this
      rw [Addr.add_lit]
      exact this) (flat_one b4 o4 b6 o6 d) hroom (fun j hj => by
      rw [hl] at hj
      rw [h3, Nat.zero_add]
      exact hc _ (by omega)) (fun j hj => by
      rw [hl] at hj
      rw [h3, Nat.zero_add]
      exact hf _ (by omega))
  rw [h3, Nat.zero_add] at h
  exact h

theorem app_get (l r : List V) (i : Nat) : (l ++ r).toArray[i]! = if i < l.length then l.toArray[i]! else r.toArray[i - l.length]! := by
  by_cases h : i < l.length
  · rw [if_pos h, getElem!_pos (l ++ r).toArray i (by simp; omega), getElem!_pos l.toArray i (by simpa using h)]
    simp [h]
  · rw [if_neg h]
    by_cases h2 : i < l.length + r.length
    · rw [getElem!_pos (l ++ r).toArray i (by simpa using h2), getElem!_pos r.toArray (i - l.length) (by simp; omega)]
      simp [List.getElem_append, h]
    · rw [getElem!_neg (l ++ r).toArray i (by simpa using h2), getElem!_neg r.toArray (i - l.length) (by simp; omega)]

theorem cell_in (w : World) (b o j : Nat) (d : Array V) (b4 o4 b6 o6 : Nat) (hc : ∀ i, i < d.size * 7 → (w.cell? ⟨b, o + i, none⟩).isSome = true) (hj : j < d.size * 7) :
    (w.setCells b o (flatK (enc b4 o4 b6 o6) 7 d).toList).cell? ⟨b, o + j, none⟩ = some (enc b4 o4 b6 o6 d[j / 7]!)[j % 7]! := by
  have hl : (flatK (enc b4 o4 b6 o6) 7 d).toList.length = d.size * 7 := by simp
  rw [World.cell?_setCells_in b _ o w (fun i hi => hc i (by rw [hl] at hi; exact hi)) j (by rw [hl]; exact hj)]
  rw [← get_flatK (enc b4 o4 b6 o6) 7 d j hj, getElem!_pos (flatK (enc b4 o4 b6 o6) 7 d) j (by rw [size_flatK]; exact hj)]
  simp

/-- two sorted rows joined in a new one -/
theorem joined (b4 o4 b6 o6 bL bR cL cR : Nat) (L R : List V) (w : World) (hL : HoldsK (enc b4 o4 b6 o6) 7 w bL 0 L.toArray) (hR : HoldsK (enc b4 o4 b6 o6) 7 w bR 0 R.toArray) (lL : bL < w.heap.size) (lR : bR < w.heap.size) :
    ∃ w1 w2, (∀ ty, (Builtin.append_ #[25, 25] ty #[.slice (some ⟨w.heap.size, 0, none⟩) 0 (L.length + R.length), .slice (some ⟨bL, 0, none⟩) L.length cL]).run Tryd.prog (w.alloc (.cells (madeCells Z7 ((L.length + R.length) * 7)) 41)) = .ok (.slice (some ⟨w.heap.size, 0, none⟩) L.length (L.length + R.length)) w1) ∧
      (∀ ty, (Builtin.append_ #[25, 25] ty #[.slice (some ⟨w.heap.size, 0, none⟩) L.length (L.length + R.length), .slice (some ⟨bR, 0, none⟩) R.length cR]).run Tryd.prog w1 = .ok (.slice (some ⟨w.heap.size, 0, none⟩) (L.length + R.length) (L.length + R.length)) w2) ∧
      Hid (HoldsK (enc b4 o4 b6 o6) 7 w2 w.heap.size 0 (L ++ R).toArray ∧ w.heap.size < w2.heap.size ∧ GB w w2) := by
  obtain ⟨w0, h0⟩ : ∃ w0, w0 = w.alloc (.cells (madeCells Z7 ((L.length + R.length) * 7)) 41) := ⟨_, rfl⟩
  rw [← h0]
  have g0 : GB w w0 := by rw [h0]; exact (GB.refl w).alloc _
  have s0 : w.heap.size < w0.heap.size := by rw [h0]; simp
  have hc0 : ∀ j, j < (L.length + R.length) * 7 → (w0.cell? ⟨w.heap.size, j, none⟩).isSome = true := fun j hj => by
    rw [h0, (made_cell Z7 ((L.length + R.length) * 7) j 41 w hj).1]; rfl
  have hf0 : ∀ j, j < (L.length + R.length) * 7 → w0.frozen? ⟨w.heap.size, j, none⟩ = false := fun j hj => by
    rw [h0]; exact (made_cell Z7 ((L.length + R.length) * 7) j 41 w hj).2
  have hL0 : HoldsK (enc b4 o4 b6 o6) 7 w0 bL 0 L.toArray := holdsK_blk hL (g0.1.block bL lL)
  have r1 := fun ty => ap_room b4 o4 b6 o6 w.heap.size 0 (L.length + R.length) bL cL L.toArray w0 hL0 (by simp) hc0 hf0 ty
  simp only [Nat.zero_mul, Nat.zero_add, List.size_toArray] at r1
  obtain ⟨w1, h1⟩ : ∃ w1, w1 = w0.setCells w.heap.size 0 (flatK (enc b4 o4 b6 o6) 7 L.toArray).toList := ⟨_, rfl⟩
  rw [← h1] at r1
  have x1 : GX w.heap.size w0 w1 := by rw [h1]; exact gx_setCells _ _ _ _
  have hc1 : ∀ j, j < (L.length + R.length) * 7 → (w1.cell? ⟨w.heap.size, j, none⟩).isSome = true := fun j hj => by
    rw [h1]; exact World.isSome_setCells _ _ _ _ _ (hc0 j hj)
  have hf1 : ∀ j, j < (L.length + R.length) * 7 → w1.frozen? ⟨w.heap.size, j, none⟩ = false := fun j hj => by
    rw [h1]; exact (World.frozen?_setCells _ _ _ _ _).trans (hf0 j hj)
  have hR1 : HoldsK (enc b4 o4 b6 o6) 7 w1 bR 0 R.toArray := holdsK_blk hR ((x1.block bR (by omega) (by omega)).trans (g0.1.block bR lR))
  have r2 := fun ty => ap_room b4 o4 b6 o6 w.heap.size L.length (L.length + R.length) bR cR R.toArray w1 hR1 (by simp) hc1 hf1 ty
  simp only [List.size_toArray] at r2
  obtain ⟨w2, h2⟩ : ∃ w2, w2 = w1.setCells w.heap.size (L.length * 7) (flatK (enc b4 o4 b6 o6) 7 R.toArray).toList := ⟨_, rfl⟩
  rw [← h2] at r2
  have x2 : GX w.heap.size w1 w2 := by rw [h2]; exact gx_setCells _ _ _ _
  refine ⟨w1, w2, r1, r2, ?_, ?_, ?_⟩
  · refine holdsK_of (by omega) (fun i c hi hc => ?_)
    have hi' : i < L.length + R.length := by simpa using hi
    rw [Nat.zero_add]
    refine ⟨?_, ?_⟩
    · rw [app_get, h2]
      by_cases e : i < L.length
      · rw [if_pos e, World.cell?_setCells_out _ _ _ _ _ (fun _ _ => by left; dsimp only; omega), h1]
        have := cell_in w0 w.heap.size 0 (i * 7 + c) L.toArray b4 o4 b6 o6 (fun j hj => by rw [Nat.zero_add]; exact hc0 j (by simp at hj; omega)) (by simp; omega)
        rw [Nat.zero_add] at this
        rw [this, show (i * 7 + c) / 7 = i by omega, show (i * 7 + c) % 7 = c by omega]
      · rw [if_neg e]
        have := cell_in w1 w.heap.size (L.length * 7) ((i - L.length) * 7 + c) R.toArray b4 o4 b6 o6 (fun j hj => hc1 _ (by simp at hj; omega)) (by simp; omega)
        rw [show L.length * 7 + ((i - L.length) * 7 + c) = i * 7 + c by omega] at this
        rw [this, show ((i - L.length) * 7 + c) / 7 = i - L.length by omega, show ((i - L.length) * 7 + c) % 7 = c by omega]
    · rw [h2]
      exact (World.frozen?_setCells _ _ _ _ _).trans (hf1 _ (by omega))
  · have := x1.size; have := x2.size; omega
  · exact GX.gb (GX.gb g0 x1 (Nat.le_refl _)) x2 (Nat.le_refl _)

/-- two lists without doubles and with the same members are of one length -/
theorem same_len (F R : List V) (hF : F.Nodup) (hR : R.Nodup) (h : ∀ x, x ∈ F ↔ x ∈ R) : F.length = R.length :=
  ((List.perm_ext_iff_of_nodup hF hR).2 h).length_eq

theorem mem_im (zs : Array Zv) (x : V) : x ∈ (zs.map im).toList ↔ ∃ j, j < zs.size ∧ im zs[j]! = x := by
  constructor
  · intro hx
    obtain ⟨k, hk, hk2⟩ := List.getElem_of_mem hx
    have hk' : k < zs.size := by simpa using hk
    refine ⟨k, hk', ?_⟩
    rw [← hk2, getElem!_pos zs k hk']
    simp
  · rintro ⟨j, hj, rfl⟩
    rw [← map_get zs j hj, getElem!_pos (zs.map im) j (by rw [Array.size_map]; exact hj)]
    exact Array.getElem_mem_toList _

/-- the members of the two parts together are those of the whole -/
theorem mem_cut (zs : Array Zv) (k : Nat) (hk : k ≤ zs.size) (x : V) : x ∈ (zs.map im).toList ↔ x ∈ ((zs.extract 0 k).map im).toList ∨ x ∈ ((zs.extract k zs.size).map im).toList := by
  rw [mem_im, mem_im, mem_im]
  have s1 : (zs.extract 0 k).size = k := by simp; omega
  have s2 : (zs.extract k zs.size).size = zs.size - k := by simp
  rw [s1, s2]
  constructor
  · rintro ⟨j, hj, rfl⟩
    by_cases e : j < k
    · exact .inl ⟨j, e, by rw [ext_get zs 0 k j hk (by omega), Nat.zero_add]⟩
    · exact .inr ⟨j - k, by omega, by rw [ext_get zs k zs.size (j - k) (Nat.le_refl _) (by omega), show k + (j - k) = j by omega]⟩
  · rintro (⟨j, hj, rfl⟩ | ⟨j, hj, rfl⟩)
    · exact ⟨j, by omega, by rw [ext_get zs 0 k j hk (by omega), Nat.zero_add]⟩
    · exact ⟨k + j, by omega, by rw [ext_get zs k zs.size j (Nat.le_refl _) (by omega)]⟩
end Go.Proofs.Qxb6616947aDoor
