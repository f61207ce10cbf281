/-
  What the condition on the three listed variables gives the walks.
-/
import Derived.Test.Qxb6616947aDoorOpen
namespace Go.Proofs.Qxb6616947aDoor
open Go.ChangeShapes Go.WideShapes Go.ChangeAt Go.RowKit Go.Sort Go.Shelf Plain
set_option linter.unusedVariables false

def laid3 : List (String × DataW Unit) := [("net/netip.z4", Rows.laid_net_netip_z4), ("net/netip.z6noz", Rows.laid_net_netip_z6noz), ("net/netip.z0", Rows.laid_net_netip_z0)]

section
variable {H : Type} {enc : TypeId × Value → H} {W : World} {base : Nat} {spare : Nat → Bool} {held : Bool}
theorem detail_of {n : Nat} {cs : List Value} {p : List MemPlace} {v : Bool} (h : DataW.trod enc Tryd.prog W base spare held n 90 cs = some (.agg [.lit (.bool v), .lit (.string [])], p)) : cs = [.bool v, .string ⟨#[]⟩] := by
  have n90 : Tryd.prog.cellsOf 90 = 2 := by kernel_rfl
  have n4 : Tryd.prog.cellsOf 4 = 1 := by kernel_rfl
  have n9 : Tryd.prog.cellsOf 9 = 1 := by kernel_rfl
  obtain ⟨xs, m, rfl, hx, hl, hn, hel⟩ := DataW.trod_struct Tryd.underlying90 h
  rw [n90] at hl
  match cs, hl with
  | [c0, c1], _ =>
    have hx6 : xs.length = 2 := hn
    match xs, hx6, hel, hx with
    | [x0, x1], _, hel, hx =>
      have k0 : DataW.trod enc Tryd.prog W base spare held m 4 ((([c0, c1] : List Value).drop 0).take (Tryd.prog.cellsOf 4)) = some x0 := hel 0 _ rfl
      have k1 : DataW.trod enc Tryd.prog W base spare held m 9 ((([c0, c1] : List Value).drop 1).take (Tryd.prog.cellsOf 9)) = some x1 := hel 1 _ rfl
      obtain ⟨b, e0, f0⟩ := DataW.trod_bool Tryd.underlying4 k0
      obtain ⟨s, e1, f1, _⟩ := DataW.trod_string Tryd.underlying9 k1
      rw [n4] at e0
      rw [n9] at e1
      simp only [List.drop_zero, List.drop_succ_cons, List.take_succ_cons, List.take_zero, List.cons.injEq, and_true] at e0 e1
      subst f0 f1
      simp at hx
      obtain ⟨⟨rfl, hs⟩, _⟩ := hx
      subst e0 e1
      have : s = ⟨#[]⟩ := by
        obtain ⟨⟨l⟩⟩ := s
        simp at hs
        subst hs
        rfl
      rw [this]

theorem handle_of {n : Nat} {cs : List Value} {p : List MemPlace} {v : Bool} (h : DataW.trod enc Tryd.prog W base spare held n 35 cs = some (.agg [.ptr (.agg [.lit (.bool v), .lit (.string [])])], p)) :
    ∃ b o, cs = [.pointer (some ⟨b, o, none⟩)] ∧ W.cell? ⟨b, o, none⟩ = some (.bool v) ∧ W.cell? ⟨b, o + 1, none⟩ = some (.string ⟨#[]⟩) ∧ MemPlace.cell b o ∈ p := by
  have n35 : Tryd.prog.cellsOf 35 = 1 := by kernel_rfl
  have n33 : Tryd.prog.cellsOf 33 = 1 := by kernel_rfl
  have n90 : Tryd.prog.cellsOf 90 = 2 := by kernel_rfl
  obtain ⟨xs, m, rfl, hx, hl, hn, hel⟩ := DataW.trod_struct Tryd.underlying35 h
  rw [n35] at hl
  match cs, hl with
  | [c0], _ =>
    have hx6 : xs.length = 1 := hn
    match xs, hx6, hel, hx with
    | [x0], _, hel, hx =>
      have k0 : DataW.trod enc Tryd.prog W base spare held m 33 ((([c0] : List Value).drop 0).take (Tryd.prog.cellsOf 33)) = some x0 := hel 0 _ rfl
      rw [n33] at k0
      simp only [List.drop_zero, List.take_succ_cons, List.take_zero] at k0
      rcases DataW.trod_pointer Tryd.underlying33 k0 with ⟨_, rfl⟩ | ⟨a, cs', y, m2, _, e0, rfl, hc, hy⟩
      · simp at hx
      · rw [n90] at hc
        simp at hx
        obtain ⟨hy1, hp⟩ := hx
        obtain ⟨y1, y2⟩ := y
        simp only at hy1
        subst hy1
        have hd := detail_of hy
        subst hd
        obtain ⟨_, hg⟩ := cells_get hc
        have g0 := hg 0 (by omega)
        have g1 := hg 1 (by omega)
        obtain ⟨b, o, sp⟩ := a
        have e : ((⟨b, o, sp⟩ : Addr).add 0) = ⟨b, o, sp⟩ := by simp [Addr.add]
        rw [e] at g0
        have hsp : sp = none := cell_spot (v := .bool v) (by simpa using g0)
        subst hsp
        rw [Addr.add_mid] at g1
        refine ⟨b, o, by simpa using e0, by simpa using g0, by simpa using g1, ?_⟩
        rw [hp]
        refine List.mem_append_left _ ?_
        rw [n90]
        unfold MemPlace.row
        exact List.mem_map.2 ⟨0, List.mem_range.2 (by omega), by simp⟩

theorem nil_of {n : Nat} {cs : List Value} {p : List MemPlace} (h : DataW.trod enc Tryd.prog W base spare held n 35 cs = some (.agg [.nil], p)) : cs = [.pointer none] := by
  have n35 : Tryd.prog.cellsOf 35 = 1 := by kernel_rfl
  have n33 : Tryd.prog.cellsOf 33 = 1 := by kernel_rfl
  obtain ⟨xs, m, rfl, hx, hl, hn, hel⟩ := DataW.trod_struct Tryd.underlying35 h
  rw [n35] at hl
  match cs, hl with
  | [c0], _ =>
    have hx6 : xs.length = 1 := hn
    match xs, hx6, hel, hx with
    | [x0], _, hel, hx =>
      have k0 : DataW.trod enc Tryd.prog W base spare held m 33 ((([c0] : List Value).drop 0).take (Tryd.prog.cellsOf 33)) = some x0 := hel 0 _ rfl
      rw [n33] at k0
      simp only [List.drop_zero, List.take_succ_cons, List.take_zero] at k0
      rcases DataW.trod_pointer Tryd.underlying33 k0 with ⟨e0, rfl⟩ | ⟨a, cs', y, m2, _, e0, rfl, hc, hy⟩
      · exact e0
      · simp at hx
end

theorem gl_of {W : World} (h : laidMetH Tryd.prog laid3 W) : ∃ b4 o4 b6 o6, Gl W b4 o4 b6 o6 := by
  rw [MakeChecks.laidMetH_plain _ _ _ (by kernel_rfl)] at h
  obtain ⟨ps, ⟨g0, t0, cs0, f0, p0, q0, hg0, ht0, hv0, hd0, ⟨g1, t1, cs1, f1, p1, q1, hg1, ht1, hv1, hd1, ⟨g2, t2, cs2, f2, p2, q2, hg2, ht2, hv2, hd2, _, hq1⟩, hq0⟩, hps⟩, hnd, hcl⟩ := h
  obtain rfl := Option.some.inj ((show Tryd.prog.globalNamed "net/netip.z4" = some 0 by kernel_rfl).symm.trans hg0)
  obtain rfl := Option.some.inj ((show Tryd.prog.globalNamed "net/netip.z6noz" = some 1 by kernel_rfl).symm.trans hg1)
  obtain rfl := Option.some.inj ((show Tryd.prog.globalNamed "net/netip.z0" = some 2 by kernel_rfl).symm.trans hg2)
  obtain rfl := Option.some.inj ((show (Tryd.prog.globals[0]?).map (·.type) = some 35 by kernel_rfl).symm.trans ht0)
  obtain rfl := Option.some.inj ((show (Tryd.prog.globals[1]?).map (·.type) = some 35 by kernel_rfl).symm.trans ht1)
  obtain rfl := Option.some.inj ((show (Tryd.prog.globals[2]?).map (·.type) = some 35 by kernel_rfl).symm.trans ht2)
  obtain ⟨b4, o4, e4, c4, d4, m4⟩ := handle_of hd0
  obtain ⟨b6, o6, e6, c6, d6, m6⟩ := handle_of hd1
  have e0 := nil_of hd2
  have w0 := World.var?_cell hg0 hv0 0
  have w1 := World.var?_cell hg1 hv1 0
  have w2 := World.var?_cell hg2 hv2 0
  rw [← Array.getElem?_toList, e4] at w0
  rw [← Array.getElem?_toList, e6] at w1
  rw [← Array.getElem?_toList, e0] at w2
  have i4 : MemPlace.cell b4 o4 ∈ ps := by rw [hps]; simp [m4]
  have i6 : MemPlace.cell b6 o6 ∈ ps := by rw [hps, hq0]; simp [m6]
  refine ⟨b4, o4, b6, o6, by simpa using w0, by simpa using w1, by simpa using w2, (hcl _ _ i4).1, (hcl _ _ i6).1, ?_, c6, d6, World.block_lt_of_cell? W _ (by simpa using w2)⟩
  rintro ⟨rfl, rfl⟩
  rw [hps, hq0] at hnd
  have hd := (List.nodup_append.1 hnd).2.2
  exact hd (.cell b4 o4) (by simp [m4]) (.cell b4 o4) (by simp [m6]) rfl
end Go.Proofs.Qxb6616947aDoor
