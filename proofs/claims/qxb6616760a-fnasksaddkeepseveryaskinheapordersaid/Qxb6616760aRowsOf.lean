/-
  Rows of one-cell elements that the call makes and fills; the contracts of ZZasksAt and ZZasksQueue.
-/
import Derived.Test.Qxb6616760aFront
namespace Go.Proofs.Qxb6616760a
open Go.RowKit Plain Go.Maps
set_option linter.unusedVariables false

/-- block G is a row of n cells, the j-th holds f j -/
def Full (w : World) (G : Nat) (ty : TypeId) (n : Nat) (f : Nat → Value) : Prop :=
  ∃ cur, w.heap[G]? = some (.cells cur ty (0, 0)) ∧ cur.size = n ∧ ∀ j, j < n → cur[j]? = some (f j)

theorem Full.cell {w : World} {G : Nat} {ty : TypeId} {n : Nat} {f : Nat → Value} (h : Full w G ty n f) {j : Nat} (hj : j < n) : w.cell? ⟨G, j, none⟩ = some (f j) := by
  obtain ⟨cur, hb, _, hc⟩ := h
  exact cell_of hb (hc j hj)
theorem Full.frozen {w : World} {G : Nat} {ty : TypeId} {n : Nat} {f : Nat → Value} (h : Full w G ty n f) (j : Nat) : w.frozen? ⟨G, j, none⟩ = false := by
  obtain ⟨cur, hb, _, hc⟩ := h
  exact frozen_of j hb
theorem Full.lt {w : World} {G : Nat} {ty : TypeId} {n : Nat} {f : Nat → Value} (h : Full w G ty n f) : G < w.heap.size := by
  obtain ⟨cur, hb, _, hc⟩ := h
  exact (Array.getElem?_eq_some_iff.1 hb).1
theorem Full.congr {w : World} {G : Nat} {ty : TypeId} {n : Nat} {f f' : Nat → Value} (h : Full w G ty n f) (e : ∀ j, j < n → f j = f' j) : Full w G ty n f' := by
  obtain ⟨cur, hb, hs, hc⟩ := h
  exact ⟨cur, hb, hs, fun j hj => by rw [← e j hj]; exact hc j hj⟩
theorem Full.of_block {w w' : World} {G : Nat} {ty : TypeId} {n : Nat} {f : Nat → Value} (h : Full w G ty n f) (e : w'.heap[G]? = w.heap[G]?) : Full w' G ty n f := by
  obtain ⟨cur, hb, r⟩ := h
  exact ⟨cur, e.trans hb, r⟩
theorem Full.other {w : World} {G G' k : Nat} {ty : TypeId} {n : Nat} {f : Nat → Value} (h : Full w G ty n f) (e : G ≠ G') (v : Value) : Full (w.setCell ⟨G', k, none⟩ v) G ty n f :=
  h.of_block (setCell_other e v)
theorem Full.set {w : World} {G k : Nat} {ty : TypeId} {n : Nat} {f : Nat → Value} (h : Full w G ty n f) (hk : k < n) (v : Value) : Full (w.setCell ⟨G, k, none⟩ v) G ty n (fun j => if j = k then v else f j) := by
  obtain ⟨cur, hb, hs, hc⟩ := h
  refine ⟨_, setCell_block hb v, by simpa using hs, fun j hj => ?_⟩
  show _ = some (if j = k then v else f j)
  by_cases e : j = k
  · subst e
    rw [if_pos rfl]
    exact gs_eq rfl (by omega)
  · rw [if_neg e, gs_ne (Ne.symm e)]
    exact hc j hj

/-- make([]T, n) at one-cell elements -/
theorem wpList_make_row (w : World) {ops : Array Oper} {rest : List Oper} {o : Oper} {a : Act} {Q : Exit → Act → World → Prop}
    (hg : o.guard = none) (l c : Operand) (t : TypeId) (hop : o.op = Op.makeSlice t l c)
    (e : TypeId) (z : Value) (by' : Nat) (h1 : Try.prog.underlying t = some (.slice e)) (h2 : (Try.prog.info? e).map (fun i => (i.zero, i.size, i.bytes)) = some (some z, 1, by')) (hz : z.cells = #[z])
    (n : Nat) (hl : a.eval l = .int .i64 n) (hc : a.eval c = .int .i64 n) (b2 : by' ≤ 8) (b3 : n ≤ 900000)
    (hK : ∀ w', Full w' w.heap.size e n (fun _ => z) → w.grownBy w' none → w.heap.size < w'.heap.size → wpList Try.prog ops Q rest (a.put o.dst (.slice (some ⟨w.heap.size, 0, none⟩) n n)) w') :
    wpList Try.prog ops Q (o :: rest) a w := by
  obtain ⟨i, hi, hz0, hz1, hz2⟩ := info_parts h2
  refine wpList_make_full w hg l c t hop w.heap.size e i z 1 h1 hi hz0 hz1 .i64 .i64 n n n hl hc rfl rfl ?_ (by unfold maxLen; omega) (Nat.le_refl _) ?_
  · rw [hz2]
    calc by' * n ≤ 8 * 900000 := Nat.mul_le_mul b2 b3
      _ ≤ 281474976710656 := by decide
  · intro w' hown hgr
    have hfull : Full w' w.heap.size e n (fun _ => z) := by
      rcases hown.2 with ⟨h, _⟩ | ⟨g, cap, cur, h, _, hb, hnc, _, hs, htk⟩
      · cases h
      · injection h with h3 h4 h5
        injection h3 with h3
        injection h3 with h3
        subst h3 h5
        refine ⟨cur, hb, by omega, fun j hj => ?_⟩
        rw [hz, toList_madeCells_one] at htk
        have : cur.toList[j]? = (List.replicate (n * 1) z)[j]? := by rw [← htk, List.getElem?_take_of_lt (by omega)]
        rw [← Array.getElem?_toList, this, List.getElem?_replicate, if_pos (by omega)]
    exact hK w' hfull hgr hfull.lt

theorem askElem_inv {v : Value} {z : DataW Unit × List MemPlace} (h : askElem v = some z) : ∃ n t b g, v = .agg #[.int .u64 n, .int .i64 t, .int .i64 b, .bool g] ∧ z = (.agg [.lit (.int .u64 n), .lit (.int .i64 t), .lit (.int .i64 b), .lit (.bool g)], []) := by
  unfold askElem at h
  split at h
  · rename_i cs
    split at h
    · rename_i n t b g hcs
      refine ⟨n, t, b, g, ?_, (Option.some.inj h).symm⟩
      congr 1
      apply Array.toList_inj.1
      rw [hcs]
    · cases h
  · cases h

theorem zero60 (w : World) : (zeroValue 60).run Try.prog w = .ok (.agg #[.int .u64 0, .int .i64 0, .int .i64 0, .bool false]) w := by kernel_rfl

/-- 'q, found := a.at[n]' where the ask is known -/
theorem wpList_lookup_ask (w : World) {ops : Array Oper} {rest : List Oper} {o : Oper} {a : Act} {Q : Exit → Act → World → Prop}
    (hg : o.guard = none) (m x : Operand) (hop : o.op = Op.lookup 53 m x true) (b k : Nat) (D : DataW Unit) (hm : a.eval m = .map (some b)) (hown : w.ownsMap Try.prog 34 askElem b k D)
    (n t : Int) (hx : a.eval x = .int .u64 n) (hw : (Lit.int .u64 n).wf = true) (hhas : Maps.has D (.int .u64 n) = true) (hat : ∀ z, D.atKey (.int .u64 n) z = askDatum n t)
    (hK : wpList Try.prog ops Q rest (a.put o.dst (.tuple #[.agg #[.int .u64 n, .int .i64 t, .int .i64 0, .bool false], .bool true])) w) :
    wpList Try.prog ops Q (o :: rest) a w := by
  refine wpList_lookup_own_ok w hg m x 53 hop 34 60 law Try.underlying53 askElem (zero60 w) _ _ (askElem_mk 0 0) b k D hm hown _ _ hx (keyOf_int_mk Try.underlying34 hw) (fun v ps hv => ?_)
  rw [hat] at hv
  obtain ⟨n', t', b', g', rfl, hz⟩ := askElem_inv hv
  unfold askDatum at hz
  simp only [Prod.mk.injEq, DataW.agg.injEq, List.cons.injEq, DataW.lit.injEq, Lit.int.injEq, Lit.bool.injEq, true_and, and_true] at hz
  obtain ⟨⟨rfl, rfl, rfl, rfl⟩, _⟩ := hz
  rw [hhas]
  exact hK

set_option maxHeartbeats 400000 in
theorem at_any (M : Nat) (v : Value) (l : List (Int × Int)) (D : DataW Unit) (n t : Int) (w : World) (h : Asks w M v l D) (hw : (Lit.int .u64 n).wf = true) (hhas : Maps.has D (.int .u64 n) = true) (hat : ∀ z, D.atKey (.int .u64 n) z = askDatum n t) :
    Calls Try.prog 15 #[.pointer (some ⟨M + 1, 0, none⟩), .int .u64 n] w fun e w' => e = .returned (.tuple #[.int .i64 t, .int .i64 0, .bool false, .bool true]) ∧ Below w.heap.size w w' := by
  obtain ⟨hA, hmap, hq, hsz⟩ := h
  have c0 : w.cell? ⟨M + 1, 0, none⟩ = some (.map (some M)) := cell_of hA rfl
  have HA : Hid (∀ z, D.atKey (.int .u64 n) z = askDatum n t) := hat
  clear hA hq hat
  go_enter Try.func15, Try.ntmps15
  go_wp2_with (at_lookup; refine wpList_lookup_ask _ rfl _ _ rfl M l.length D rfl hmap n t rfl hw hhas HA.out ?_)
  go_quiet (fail)
  go_wp2
  refine bodyPost_ret (v := .tuple #[.int .i64 t, .int .i64 0, .bool false, .bool true]) (by simp [results, Try.results15, go_sem]) rfl ⟨rfl, ?_⟩
  have hb := (Below.refl w.heap.size w).alloc (Nat.le_refl _) (.cells #[.int .u64 n, .int .i64 t, .int .i64 0, .bool false] 60)
  exact ⟨hb.os, hb.tape, hb.output, hb.size, hb.block⟩

/-- the four rows that ZZasksQueue hands back, filled up to place k -/
def Rows4 (w : World) (G1 G2 G3 G4 n k : Nat) (l : List (Int × Int)) : Prop :=
  Full w G1 34 n (fun j => if j < k then .int .u64 (at' l j).1 else .int .u64 0) ∧ Full w G2 2 n (fun j => if j < k then .int .i64 (at' l j).2 else .int .i64 0) ∧
  Full w G3 2 n (fun _ => .int .i64 0) ∧ Full w G4 4 n (fun _ => .bool false)

theorem info34 : (Try.prog.info? 34).map (fun i => (i.zero, i.size, i.bytes)) = some (some (.int .u64 0), 1, 8) := by kernel_rfl
theorem info2 : (Try.prog.info? 2).map (fun i => (i.zero, i.size, i.bytes)) = some (some (.int .i64 0), 1, 8) := by kernel_rfl
theorem info4 : (Try.prog.info? 4).map (fun i => (i.zero, i.size, i.bytes)) = some (some (.bool false), 1, 1) := by kernel_rfl

theorem rows4_step {w : World} {G1 G2 G3 G4 n k : Nat} {l : List (Int × Int)} (h : Rows4 w G1 G2 G3 G4 n k l) (hk : k < n) (n12 : G1 ≠ G2) (n13 : G1 ≠ G3) (n14 : G1 ≠ G4) (n23 : G2 ≠ G3) (n24 : G2 ≠ G4) (n34 : G3 ≠ G4) :
    Rows4 ((((w.setCell ⟨G1, k, none⟩ (.int .u64 (at' l k).1)).setCell ⟨G2, k, none⟩ (.int .i64 (at' l k).2)).setCell ⟨G3, k, none⟩ (.int .i64 0)).setCell ⟨G4, k, none⟩ (.bool false)) G1 G2 G3 G4 n (k + 1) l := by
  obtain ⟨h1, h2, h3, h4⟩ := h
  refine ⟨?_, ?_, ?_, ?_⟩
  · refine ((((h1.set hk _).other n12 _).other n13 _).other n14 _).congr fun j hj => ?_
    by_cases e : j = k
    · subst e; simp
    · simp only [if_neg e]
      by_cases e2 : j < k
      · rw [if_pos e2, if_pos (by omega)]
      · rw [if_neg e2, if_neg (by omega)]
  · refine ((((h2.other (Ne.symm n12) _).set hk _).other n23 _).other n24 _).congr fun j hj => ?_
    by_cases e : j = k
    · subst e; simp
    · simp only [if_neg e]
      by_cases e2 : j < k
      · rw [if_pos e2, if_pos (by omega)]
      · rw [if_neg e2, if_neg (by omega)]
  · refine ((((h3.other (Ne.symm n13) _).other (Ne.symm n23) _).set hk _).other n34 _).congr fun j hj => ?_
    simp
  · refine ((((h4.other (Ne.symm n14) _).other (Ne.symm n24) _).other (Ne.symm n34) _).set hk _).congr fun j hj => ?_
    simp

set_option maxHeartbeats 1000000 in
theorem queue_any (M : Nat) (v : Value) (l : List (Int × Int)) (D : DataW Unit) (w : World) (h : Asks w M v l D) (hn : 0 < l.length) (hn9 : l.length ≤ 900000) :
    Calls Try.prog 16 #[.pointer (some ⟨M + 1, 0, none⟩)] w fun e w' => ∃ G1 G2 G3 G4, e = .returned (.tuple #[.slice (some ⟨G1, 0, none⟩) l.length l.length, .slice (some ⟨G2, 0, none⟩) l.length l.length, .slice (some ⟨G3, 0, none⟩) l.length l.length, .slice (some ⟨G4, 0, none⟩) l.length l.length]) ∧
      Rows4 w' G1 G2 G3 G4 l.length l.length l ∧ Below w.heap.size w w' := by
  obtain ⟨hA, hmap, hq, hsz⟩ := h
  obtain ⟨g, cap, rfl, hrow⟩ : ∃ g cap, v = .slice (some ⟨g, 0, none⟩) l.length cap ∧ QRow w g cap l := by
    rcases hq.row with ⟨rfl, rfl⟩ | ⟨g, cap, rfl, _, hr⟩
    · simp at hn
    · exact ⟨_, cap, rfl, hr⟩
  have hgl : g < w.heap.size := by obtain ⟨_, _, cur, hb, _⟩ := hrow; exact (Array.getElem?_eq_some_iff.1 hb).1
  have c1 : w.cell? ⟨M + 1, 1, none⟩ = some (.slice (some ⟨g, 0, none⟩) l.length cap) := cell_of hA rfl
  clear hmap hq
  obtain ⟨n, HN⟩ : ∃ n, Hid (n = l.length) := ⟨_, rfl⟩
  rw [← HN.out] at c1 hn hn9 ⊢
  have tok1 : True := trivial
  have tok2 : True := trivial
  go_enter Try.func16, Try.ntmps16
  go_wp2_with (first
    | (at_make; have _t := tok1; refine wpList_make_row _ rfl _ _ 25 rfl 34 _ 8 Try.underlying25 info34 rfl n rfl rfl (by decide) hn9 ?_; intro w1 f1 gr1 s1; clear tok1)
    | (at_make; have _t := tok2; refine wpList_make_row _ rfl _ _ 26 rfl 2 _ 8 Try.underlying26 info2 rfl n rfl rfl (by decide) hn9 ?_; intro w2 f2 gr2 s2; clear tok2)
    | (at_make; refine wpList_make_row _ rfl _ _ 26 rfl 2 _ 8 Try.underlying26 info2 rfl n rfl rfl (by decide) hn9 ?_; intro w3 f3 gr3 s3)
    | (at_make; refine wpList_make_row _ rfl _ _ 38 rfl 4 _ 1 Try.underlying38 info4 rfl n rfl rfl (by decide) hn9 ?_; intro w4 f4 gr4 s4))
  have hb4 : Below w.heap.size w w4 := (((Below.refl w.heap.size w).grown gr1 (Nat.le_refl _) (fun k h => by cases h)).grown gr2 (by omega) (fun k h => by cases h)).grown gr3 (by omega) (fun k h => by cases h) |>.grown gr4 (by omega) (fun k h => by cases h)
  have k1 : Full w4 w.heap.size 34 n (fun _ => .int .u64 0) := f1.of_block (((gr4.block _ (by omega) (by simp)).trans (gr3.block _ (by omega) (by simp))).trans (gr2.block _ (by omega) (by simp)))
  have k2 : Full w4 w1.heap.size 2 n (fun _ => .int .i64 0) := f2.of_block ((gr4.block _ (by omega) (by simp)).trans (gr3.block _ (by omega) (by simp)))
  have k3 : Full w4 w2.heap.size 2 n (fun _ => .int .i64 0) := f3.of_block (gr4.block _ (by omega) (by simp))
  have k4 := f4
  obtain ⟨G1, e1⟩ : ∃ G, Hid (G = w.heap.size) := ⟨_, rfl⟩
  obtain ⟨G2, e2⟩ : ∃ G, Hid (G = w1.heap.size) := ⟨_, rfl⟩
  obtain ⟨G3, e3⟩ : ∃ G, Hid (G = w2.heap.size) := ⟨_, rfl⟩
  obtain ⟨G4, e4⟩ : ∃ G, Hid (G = w3.heap.size) := ⟨_, rfl⟩
  have o1 : w.heap.size ≤ G1 := by rw [e1.out]; exact Nat.le_refl _
  have o2 : G1 < G2 := by rw [e1.out, e2.out]; exact s1
  have o3 : G2 < G3 := by rw [e2.out, e3.out]; exact s2
  have o4 : G3 < G4 := by rw [e3.out, e4.out]; exact s3
  rw [← e1.out, ← e2.out, ← e3.out, ← e4.out]
  rw [← e1.out] at k1
  rw [← e2.out] at k2
  rw [← e3.out] at k3
  rw [← e4.out] at k4
  have hr0 : Rows4 w4 G1 G2 G3 G4 n 0 l := ⟨k1.congr (fun j _ => by simp), k2.congr (fun j _ => by simp), k3, k4⟩
  clear f1 f2 f3 f4 gr1 gr2 gr3 gr4 s1 s2 s3 s4 k1 k2 k3 k4 e1 e2 e3 e4
  have d12 : ¬ G1 = G2 := by omega
  have d21 : ¬ G2 = G1 := by omega
  have d13 : ¬ G1 = G3 := by omega
  have d31 : ¬ G3 = G1 := by omega
  have d14 : ¬ G1 = G4 := by omega
  have d41 : ¬ G4 = G1 := by omega
  have d23 : ¬ G2 = G3 := by omega
  have d32 : ¬ G3 = G2 := by omega
  have d24 : ¬ G2 = G4 := by omega
  have d42 : ¬ G4 = G2 := by omega
  have d34 : ¬ G3 = G4 := by omega
  have d43 : ¬ G4 = G3 := by omega
  have g1 : ¬ g = G1 := by omega
  have g2 : ¬ g = G2 := by omega
  have g3 : ¬ g = G3 := by omega
  have g4 : ¬ g = G4 := by omega
  have m1 : ¬ M + 1 = G1 := by omega
  have m2 : ¬ M + 1 = G2 := by omega
  have m3 : ¬ M + 1 = G3 := by omega
  have m4 : ¬ M + 1 = G4 := by omega
  go_loopw [11] (fun i wr => ∃ k : Nat, k ≤ n ∧ i = .int .i64 k ∧ Rows4 wr G1 G2 G3 G4 n k l ∧ Below w.heap.size w wr) (fun i _ => n - (intOf i).toNat)
  case atStart => exact ⟨0, Nat.zero_le _, rfl, hr0, hb4⟩
  case round =>
    obtain ⟨k, hk, rfl, hr, hb⟩ := hrel
    by_cases hlt : k < n
    · have cr : wr.cell? ⟨M + 1, 1, none⟩ = some (.slice (some ⟨g, 0, none⟩) n cap) := (hb.cell (p := ⟨M + 1, 1, none⟩) (by show M + 1 < _; omega)).trans c1
      obtain ⟨y0, y1, y2, y3⟩ := hrow.cells (k := k) (by rw [← HN.out]; exact hlt)
      have x0 := (hb.cell (p := ⟨g, k * 4, none⟩) hgl).trans y0
      have x1 := (hb.cell (p := ⟨g, k * 4 + 1, none⟩) hgl).trans y1
      have x2 := (hb.cell (p := ⟨g, k * 4 + 2, none⟩) hgl).trans y2
      have x3 := (hb.cell (p := ⟨g, k * 4 + 3, none⟩) hgl).trans y3
      have r1 := hr.1.cell hlt
      have r2 := hr.2.1.cell hlt
      have r3 := hr.2.2.1.cell hlt
      have r4 := hr.2.2.2.cell hlt
      simp only [Nat.lt_irrefl, if_false] at r1 r2
      have z1 := hr.1.frozen k
      have z2 := hr.2.1.frozen k
      have z3 := hr.2.2.1.frozen k
      have z4 := hr.2.2.2.frozen k
      have hstep := rows4_step hr hlt d12 d13 d14 d23 d24 d34
      obtain ⟨p, hp⟩ : ∃ p, p = at' l k := ⟨_, rfl⟩
      rw [← hp] at x0 x1 hstep
      clear y0 y1 y2 y3 hp hr c1 hA hr0 hb4
      go_wp2
      go_roundw
      case rel => exact ⟨k + 1, by omega, by go_num, hstep, (((hb.setCell (by show _ ≤ G1; omega) _).setCell (by show _ ≤ G2; omega) _).setCell (by show _ ≤ G3; omega) _).setCell (by show _ ≤ G4; omega) _⟩
      case measure => simp [intOf]; omega
    · go_wp2
      have e : k = n := by omega
      subst e
      refine bodyPost_ret (v := .tuple #[.slice (some ⟨G1, 0, none⟩) k k, .slice (some ⟨G2, 0, none⟩) k k, .slice (some ⟨G3, 0, none⟩) k k, .slice (some ⟨G4, 0, none⟩) k k]) (by simp [results, Try.results16, go_sem]) rfl ⟨G1, G2, G3, G4, rfl, hr, hb⟩
end Go.Proofs.Qxb6616760a
