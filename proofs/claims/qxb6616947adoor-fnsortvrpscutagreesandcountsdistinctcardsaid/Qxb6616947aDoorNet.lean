/-
  The globals of net/netip as the row lists them; contracts of the small functions of net/netip.
-/
import Derived.Test.Qxb6616947aDoorProg
import Derived.Test.Qxb6616947aDoorPlain
import Derived.WalkKit
import Derived.ProofKit
import Derived.RegionTactic
import Derived.Deep.QuietTactic
import Derived.BigQuiet
import Derived.BigRegion
import Derived.Below
import Derived.LaidEql
import Derived.KernelRfl
import Derived.Handy
import Derived.Deep.RegionHeld3
namespace Go.Proofs.Qxb6616947aDoor
open Go.RowKit Plain
set_option linter.unusedVariables false

/-- w' is w with new blocks behind it, and maybe draws -/
def GB (w w' : World) : Prop := Below w.heap.size w w' ∧ w.drawn ≤ w'.drawn
theorem GB.refl (w : World) : GB w w := ⟨Below.refl _ _, Nat.le_refl _⟩
theorem GB.trans {a b c : World} (h : GB a b) (k : GB b c) : GB a c := ⟨h.1.trans (k.1.mono h.1.size), Nat.le_trans h.2 k.2⟩
theorem GB.alloc {a b : World} (h : GB a b) (o : Obj) : GB a (b.alloc o) := ⟨h.1.alloc h.1.size o, h.2⟩
theorem GB.drew {a b : World} (h : GB a b) : GB a b.drew := ⟨h.1.drew, Nat.le_trans h.2 (Nat.le_succ _)⟩
theorem GB.drewN {a b : World} (h : GB a b) (n : Nat) : GB a (b.drewN n) := ⟨⟨h.1.os, h.1.tape, h.1.output, h.1.size, h.1.block⟩, Nat.le_trans h.2 (Nat.le_add_right _ _)⟩
theorem GB.setCell {a b : World} (h : GB a b) {p : Addr} (hp : a.heap.size ≤ p.block) (v : Value) : GB a (b.setCell p v) := ⟨h.1.setCell hp v, h.2⟩

/-- what the three variables z4, z6noz, z0 lead to -/
structure Gl (w : World) (b4 o4 b6 o6 : Nat) : Prop where
  g0 : w.cell? ⟨0, 0, none⟩ = some (.pointer (some ⟨b4, o4, none⟩))
  g1 : w.cell? ⟨1, 0, none⟩ = some (.pointer (some ⟨b6, o6, none⟩))
  g2 : w.cell? ⟨2, 0, none⟩ = some (.pointer none)
  k4 : ∃ c t, w.heap[b4]? = some (.cells c t (0, 0))
  k6 : ∃ c t, w.heap[b6]? = some (.cells c t (0, 0))
  ne : ¬ (b4 = b6 ∧ o4 = o6)
  za : w.cell? ⟨b6, o6, none⟩ = some (.bool true)
  zb : w.cell? ⟨b6, o6 + 1, none⟩ = some (.string ⟨#[]⟩)
  s2 : 2 < w.heap.size

theorem Gl.lt6 {w : World} {b4 o4 b6 o6 : Nat} (h : Gl w b4 o4 b6 o6) : b6 < w.heap.size := World.block_lt_of_cell? w _ h.za
theorem Gl.lt4 {w : World} {b4 o4 b6 o6 : Nat} (h : Gl w b4 o4 b6 o6) : b4 < w.heap.size := by
  obtain ⟨c, t, hb⟩ := h.k4
  exact (Array.getElem?_eq_some_iff.1 hb).1

theorem Gl.blocks {w w' : World} {b4 o4 b6 o6 : Nat} (h : Gl w b4 o4 b6 o6) (hs : w.heap.size ≤ w'.heap.size) (hb : ∀ k, k = 0 ∨ k = 1 ∨ k = 2 ∨ k = b4 ∨ k = b6 → w'.heap[k]? = w.heap[k]?) : Gl w' b4 o4 b6 o6 where
  g0 := (World.cell?_of_block (w := w) (hb 0 (by simp))).trans h.g0
  g1 := (World.cell?_of_block (w := w) (hb 1 (by simp))).trans h.g1
  g2 := (World.cell?_of_block (w := w) (hb 2 (by simp))).trans h.g2
  k4 := by rw [hb b4 (by simp)]; exact h.k4
  k6 := by rw [hb b6 (by simp)]; exact h.k6
  ne := h.ne
  za := (World.cell?_of_block (w := w) (hb b6 (by simp))).trans h.za
  zb := (World.cell?_of_block (w := w) (hb b6 (by simp))).trans h.zb
  s2 := Nat.lt_of_lt_of_le h.s2 hs

theorem Gl.gb {w w' : World} {b4 o4 b6 o6 : Nat} (h : Gl w b4 o4 b6 o6) (hb : GB w w') : Gl w' b4 o4 b6 o6 :=
  h.blocks hb.1.size (fun k hk => hb.1.block k (by
    have := h.s2; have := h.lt4; have := h.lt6
    rcases hk with rfl | rfl | rfl | rfl | rfl <;> omega))
theorem Gl.alloc {w : World} {b4 o4 b6 o6 : Nat} (h : Gl w b4 o4 b6 o6) (o : Obj) : Gl (w.alloc o) b4 o4 b6 o6 := h.gb ((GB.refl w).alloc o)

/-- the handle of an address of kind c -/
def zp (b4 o4 b6 o6 : Nat) : Option Bool → Option Addr
  | none => none
  | some false => some ⟨b4, o4, none⟩
  | some true => some ⟨b6, o6, none⟩

theorem eqp_nn (w : World) : (Op.equalIn 9999 33 (.pointer none) (.pointer none)).run Tryd.prog w = .ok true w := by kernel_rfl
theorem eqp_sn (a : Addr) (w : World) : (Op.equalIn 9999 33 (.pointer (some a)) (.pointer none)).run Tryd.prog w = .ok false w := by kernel_rfl
theorem eqp_ns (a : Addr) (w : World) : (Op.equalIn 9999 33 (.pointer none) (.pointer (some a))).run Tryd.prog w = .ok false w := by kernel_rfl
theorem eqp_ss (a b : Addr) (w : World) : (Op.equalIn 9999 33 (.pointer (some a)) (.pointer (some b))).run Tryd.prog w = (sameAddr a b).run Tryd.prog w := by kernel_rfl
theorem eqp_same (a : Addr) (w : World) : (Op.equalIn 9999 33 (.pointer (some a)) (.pointer (some a))).run Tryd.prog w = .ok true w := by
  rw [eqp_ss]; exact run_sameAddr_same w a
theorem eqp_46 {w : World} {b4 o4 b6 o6 : Nat} (h : Gl w b4 o4 b6 o6) : (Op.equalIn 9999 33 (.pointer (some ⟨b4, o4, none⟩)) (.pointer (some ⟨b6, o6, none⟩))).run Tryd.prog w = .ok false w := by
  obtain ⟨c, t, h4⟩ := h.k4
  obtain ⟨c', t', h6⟩ := h.k6
  rw [eqp_ss]
  exact run_sameAddr_other w (fun e => h.ne (by injection e with e1 e2 _; exact ⟨e1, e2⟩)) h4 h6
theorem eqp_64 {w : World} {b4 o4 b6 o6 : Nat} (h : Gl w b4 o4 b6 o6) : (Op.equalIn 9999 33 (.pointer (some ⟨b6, o6, none⟩)) (.pointer (some ⟨b4, o4, none⟩))).run Tryd.prog w = .ok false w := by
  obtain ⟨c, t, h4⟩ := h.k4
  obtain ⟨c', t', h6⟩ := h.k6
  rw [eqp_ss]
  exact run_sameAddr_other w (fun e => h.ne (by injection e with e1 e2 _; exact ⟨e1.symm, e2.symm⟩)) h6 h4

/-- (Addr).BitLen -/
theorem bitlen_any (hi lo : Int) (c : Option Bool) (b4 o4 b6 o6 : Nat) (w : World) (hG : Gl w b4 o4 b6 o6) :
    Calls Tryd.prog 25 #[.agg #[.int .u64 hi, .int .u64 lo, .pointer (zp b4 o4 b6 o6 c)]] w fun e w' => e = .returned (.int .i64 (rk c)) ∧ GB w w' := by
  have g0 := hG.g0
  have g1 := hG.g1
  have g2 := hG.g2
  have s2 := hG.s2
  have s0 : 0 < w.heap.size := by omega
  have s1 : 1 < w.heap.size := by omega
  have e1 := eqp_nn
  have e2 := eqp_sn
  have e3 := eqp_same
  have e4 := fun o => eqp_64 (hG.alloc o)
  clear hG
  cases c with
  | none =>
    show Calls Tryd.prog 25 #[.agg #[.int .u64 hi, .int .u64 lo, .pointer none]] w _
    go_enter Tryd.func25, Tryd.ntmps25
    go_wp2
    go_ret
    exact ⟨rfl, (GB.refl _).alloc _⟩
  | some b =>
    cases b with
    | false =>
      show Calls Tryd.prog 25 #[.agg #[.int .u64 hi, .int .u64 lo, .pointer (some ⟨b4, o4, none⟩)]] w _
      go_enter Tryd.func25, Tryd.ntmps25
      go_wp2
      go_ret
      exact ⟨rfl, (GB.refl _).alloc _⟩
    | true =>
      show Calls Tryd.prog 25 #[.agg #[.int .u64 hi, .int .u64 lo, .pointer (some ⟨b6, o6, none⟩)]] w _
      go_enter Tryd.func25, Tryd.ntmps25
      go_wp2
      go_ret
      exact ⟨rfl, (GB.refl _).alloc _⟩

/-- (Addr).isZero -/
theorem isZero_any (hi lo : Int) (c : Option Bool) (b4 o4 b6 o6 : Nat) (w : World) (hG : Gl w b4 o4 b6 o6) :
    Calls Tryd.prog 24 #[.agg #[.int .u64 hi, .int .u64 lo, .pointer (zp b4 o4 b6 o6 c)]] w fun e w' => e = .returned (.bool c.isNone) ∧ GB w w' := by
  have g0 := hG.g0
  have g1 := hG.g1
  have g2 := hG.g2
  have s2 := hG.s2
  have s0 : 0 < w.heap.size := by omega
  have s1 : 1 < w.heap.size := by omega
  have e1 := eqp_nn
  have e2 := eqp_sn
  have e3 := eqp_same
  have e4 := fun o => eqp_64 (hG.alloc o)
  clear hG
  cases c with
  | none =>
    show Calls Tryd.prog 24 #[.agg #[.int .u64 hi, .int .u64 lo, .pointer none]] w _
    go_enter Tryd.func24, Tryd.ntmps24
    go_wp2
    go_ret
    exact ⟨rfl, (GB.refl _).alloc _⟩
  | some b =>
    cases b with
    | false =>
      show Calls Tryd.prog 24 #[.agg #[.int .u64 hi, .int .u64 lo, .pointer (some ⟨b4, o4, none⟩)]] w _
      go_enter Tryd.func24, Tryd.ntmps24
      go_wp2
      go_ret
      exact ⟨rfl, (GB.refl _).alloc _⟩
    | true =>
      show Calls Tryd.prog 24 #[.agg #[.int .u64 hi, .int .u64 lo, .pointer (some ⟨b6, o6, none⟩)]] w _
      go_enter Tryd.func24, Tryd.ntmps24
      go_wp2
      go_ret
      exact ⟨rfl, (GB.refl _).alloc _⟩

/-- (Addr).Is6 -/
theorem is6_any (hi lo : Int) (c : Option Bool) (b4 o4 b6 o6 : Nat) (w : World) (hG : Gl w b4 o4 b6 o6) :
    Calls Tryd.prog 37 #[.agg #[.int .u64 hi, .int .u64 lo, .pointer (zp b4 o4 b6 o6 c)]] w fun e w' => e = .returned (.bool (c == some true)) ∧ GB w w' := by
  have g0 := hG.g0
  have g1 := hG.g1
  have g2 := hG.g2
  have s2 := hG.s2
  have s0 : 0 < w.heap.size := by omega
  have s1 : 1 < w.heap.size := by omega
  have e1 := eqp_nn
  have e2 := eqp_sn
  have e3 := eqp_same
  have e4 := fun o => eqp_64 (hG.alloc o)
  clear hG
  cases c with
  | none =>
    show Calls Tryd.prog 37 #[.agg #[.int .u64 hi, .int .u64 lo, .pointer none]] w _
    go_enter Tryd.func37, Tryd.ntmps37
    go_wp2
    go_ret
    exact ⟨rfl, (GB.refl _).alloc _⟩
  | some b =>
    cases b with
    | false =>
      show Calls Tryd.prog 37 #[.agg #[.int .u64 hi, .int .u64 lo, .pointer (some ⟨b4, o4, none⟩)]] w _
      go_enter Tryd.func37, Tryd.ntmps37
      go_wp2
      go_ret
      exact ⟨rfl, (GB.refl _).alloc _⟩
    | true =>
      show Calls Tryd.prog 37 #[.agg #[.int .u64 hi, .int .u64 lo, .pointer (some ⟨b6, o6, none⟩)]] w _
      go_enter Tryd.func37, Tryd.ntmps37
      go_wp2
      go_ret
      exact ⟨rfl, (GB.refl _).alloc _⟩

theorem bcell {W w1 : World} (hb : Below W.heap.size W w1) : (∀ b o, b < W.heap.size → w1.cell? ⟨b, o, none⟩ = W.cell? ⟨b, o, none⟩) ∧ (∀ b o, b < W.heap.size → w1.frozen? ⟨b, o, none⟩ = W.frozen? ⟨b, o, none⟩) :=
  ⟨fun b o h => hb.cell (p := ⟨b, o, none⟩) h, fun b o h => hb.frozen (p := ⟨b, o, none⟩) h⟩

/-- (unique.Handle).Value at z6noz's handle -/
theorem value_any (b4 o4 b6 o6 : Nat) (w : World) (hG : Gl w b4 o4 b6 o6) :
    Calls Tryd.prog 57 #[.agg #[.pointer (some ⟨b6, o6, none⟩)]] w fun e w' => e = .returned (.agg #[.bool true, .string ⟨#[]⟩]) ∧ GB w w' := by
  have l6 := hG.lt6
  have l61 : b6 < w.heap.size + 1 := by omega
  have l62 : b6 < w.heap.size + 1 + 1 := by omega
  have za := hG.za
  have zb := hG.zb
  clear hG
  go_enter Tryd.func57, Tryd.ntmps57
  go_wp2
  exact bodyPost_ret (v := .agg #[.bool true, .string ⟨#[]⟩]) (by simp [results, Tryd.results57, go_sem]) rfl ⟨rfl, by first | exact ((((GB.refl _).alloc _).alloc _).setCell (by simp) _).setCell (by simp) _ | exact ((GB.refl _).alloc _).alloc _⟩

/-- (Addr).Zone at an IPv6 address: it is empty -/
theorem zone_any (hi lo : Int) (b4 o4 b6 o6 : Nat) (w : World) (hG : Gl w b4 o4 b6 o6) :
    Calls Tryd.prog 49 #[.agg #[.int .u64 hi, .int .u64 lo, .pointer (some ⟨b6, o6, none⟩)]] w fun e w' => e = .returned (.string ⟨#[]⟩) ∧ GB w w' := by
  have g0 := hG.g0
  have g1 := hG.g1
  have g2 := hG.g2
  have s2 := hG.s2
  have s0 : 0 < w.heap.size := by omega
  have s1 : 1 < w.heap.size := by omega
  have s01 : 0 < w.heap.size + 1 := by omega
  have s11 : 1 < w.heap.size + 1 := by omega
  have s21 : 2 < w.heap.size + 1 := by omega
  have s02 : 0 < w.heap.size + 1 + 1 := by omega
  have s12 : 1 < w.heap.size + 1 + 1 := by omega
  have s22 : 2 < w.heap.size + 1 + 1 := by omega
  have e1 := eqp_nn
  have e2 := eqp_sn
  have e3 := eqp_same
  have e4 := fun o => eqp_64 (hG.alloc o)
  have e5 := fun o o' => eqp_64 ((hG.alloc o).alloc o')
  have e6 := fun o o' o'' => eqp_64 (((hG.alloc o).alloc o').alloc o'')
  have l6 := hG.lt6
  have l61 : b6 < w.heap.size + 1 := by omega
  have l62 : b6 < w.heap.size + 1 + 1 := by omega
  have za := hG.za
  have zb := hG.zb
  have hfd : ∀ (x : Bool) (s : ByteArray) (w : World), (Instr.field 90 (.agg #[.bool x, .string s]) 1).run Tryd.prog w = .ok (.string s) w := fun _ _ _ => by kernel_rfl
  clear hG
  go_enter Tryd.func49, Tryd.ntmps49
  go_wp2
  go_ret
  exact ⟨rfl, (((GB.refl w).alloc _).alloc _).alloc _⟩

theorem withoutZone_any (hi lo : Int) (c : Option Bool) (b4 o4 b6 o6 : Nat) (w : World) (hG : Gl w b4 o4 b6 o6) :
    Calls Tryd.prog 26 #[.agg #[.int .u64 hi, .int .u64 lo, .pointer (zp b4 o4 b6 o6 c)]] w fun e w' => e = .returned (.agg #[.int .u64 hi, .int .u64 lo, .pointer (zp b4 o4 b6 o6 c)]) ∧ GB w w' := by
  have g0 := hG.g0
  have g1 := hG.g1
  have g2 := hG.g2
  have s2 := hG.s2
  have s0 : 0 < w.heap.size := by omega
  have s1 : 1 < w.heap.size := by omega
  have s01 : 0 < w.heap.size + 1 := by omega
  have s11 : 1 < w.heap.size + 1 := by omega
  have s21 : 2 < w.heap.size + 1 := by omega
  have s02 : 0 < w.heap.size + 1 + 1 := by omega
  have s12 : 1 < w.heap.size + 1 + 1 := by omega
  have s22 : 2 < w.heap.size + 1 + 1 := by omega
  have e1 := eqp_nn
  have e2 := eqp_sn
  have e3 := eqp_same
  have e4 := fun o => eqp_64 (hG.alloc o)
  have e5 := fun o o' => eqp_64 ((hG.alloc o).alloc o')
  have e6 := fun o o' o'' => eqp_64 (((hG.alloc o).alloc o').alloc o'')
  clear hG
  cases c with
  | none =>
    show Calls Tryd.prog 26 #[.agg #[.int .u64 hi, .int .u64 lo, .pointer none]] w fun e w' => e = .returned (.agg #[.int .u64 hi, .int .u64 lo, .pointer none]) ∧ GB w w'
    go_enter Tryd.func26, Tryd.ntmps26
    go_wp2
    exact bodyPost_ret (v := .agg #[.int .u64 hi, .int .u64 lo, .pointer none]) (by simp [results, Tryd.results26, go_sem]) rfl ⟨rfl, (((GB.refl w).alloc _).alloc _).alloc _⟩
  | some b =>
    cases b with
    | false =>
      show Calls Tryd.prog 26 #[.agg #[.int .u64 hi, .int .u64 lo, .pointer (some ⟨b4, o4, none⟩)]] w fun e w' => e = .returned (.agg #[.int .u64 hi, .int .u64 lo, .pointer (some ⟨b4, o4, none⟩)]) ∧ GB w w'
      go_enter Tryd.func26, Tryd.ntmps26
      go_wp2
      exact bodyPost_ret (v := .agg #[.int .u64 hi, .int .u64 lo, .pointer (some ⟨b4, o4, none⟩)]) (by simp [results, Tryd.results26, go_sem]) rfl ⟨rfl, (((GB.refl w).alloc _).alloc _).alloc _⟩
    | true =>
      show Calls Tryd.prog 26 #[.agg #[.int .u64 hi, .int .u64 lo, .pointer (some ⟨b6, o6, none⟩)]] w fun e w' => e = .returned (.agg #[.int .u64 hi, .int .u64 lo, .pointer (some ⟨b6, o6, none⟩)]) ∧ GB w w'
      go_enter Tryd.func26, Tryd.ntmps26
      go_wp2
      exact bodyPost_ret (v := .agg #[.int .u64 hi, .int .u64 lo, .pointer (some ⟨b6, o6, none⟩)]) (by simp [results, Tryd.results26, go_sem]) rfl ⟨rfl, (((GB.refl w).alloc _).alloc _).alloc _⟩

/-- (Prefix).Addr -/
theorem paddr_any (hi lo bp : Int) (z : Option Addr) (w : World) :
    Calls Tryd.prog 32 #[.agg #[.int .u64 hi, .int .u64 lo, .pointer z, .int .u8 bp]] w fun e w' => e = .returned (.agg #[.int .u64 hi, .int .u64 lo, .pointer z]) ∧ GB w w' := by
  go_enter Tryd.func32, Tryd.ntmps32
  go_wp2
  exact bodyPost_ret (v := .agg #[.int .u64 hi, .int .u64 lo, .pointer z]) (by simp [results, Tryd.results32, go_sem]) rfl ⟨rfl, ((GB.refl w).alloc _).alloc _⟩

/-- (Prefix).Bits -/
theorem pbits_any (hi lo bp : Int) (z : Option Addr) (w : World) (h0 : 0 ≤ bp) (h1 : bp ≤ 255) :
    Calls Tryd.prog 35 #[.agg #[.int .u64 hi, .int .u64 lo, .pointer z, .int .u8 bp]] w fun e w' => e = .returned (.int .i64 (bp - 1)) ∧ GB w w' := by
  go_enter Tryd.func35, Tryd.ntmps35
  go_wp2
  go_ret
  exact ⟨rfl, (GB.refl w).alloc _⟩

theorem ret_int {k : IntKind} {a b : Int} (h : a = b) : Ending.returned (.int k a) = .returned (.int k b) := by rw [h]

/-- cmp.Compare at uint32, at int -/
theorem cmp32_any (x y : Int) (w : World) : Calls Tryd.prog 31 #[.int .u32 x, .int .u32 y] w fun e w' => e = .returned (.int .i64 (cI x y)) ∧ w' = w := by
  by_cases h1 : x < y
  · go_enter Tryd.func31, Tryd.ntmps31
    go_wp2
    go_ret
    exact ⟨ret_int (by unfold cI; rw [if_pos h1]), rfl⟩
  by_cases h2 : y < x
  · go_enter Tryd.func31, Tryd.ntmps31
    go_wp2
    go_ret
    exact ⟨ret_int (by unfold cI; rw [if_neg (by omega), if_pos h2]), rfl⟩
  · go_enter Tryd.func31, Tryd.ntmps31
    go_wp2
    go_ret
    exact ⟨ret_int (by unfold cI; rw [if_neg (by omega), if_neg (by omega)]), rfl⟩
theorem cmpi_any (x y : Int) (w : World) : Calls Tryd.prog 34 #[.int .i64 x, .int .i64 y] w fun e w' => e = .returned (.int .i64 (cI x y)) ∧ w' = w := by
  by_cases h1 : x < y
  · go_enter Tryd.func34, Tryd.ntmps34
    go_wp2
    go_ret
    exact ⟨ret_int (by unfold cI; rw [if_pos h1]), rfl⟩
  by_cases h2 : y < x
  · go_enter Tryd.func34, Tryd.ntmps34
    go_wp2
    go_ret
    exact ⟨ret_int (by unfold cI; rw [if_neg (by omega), if_pos h2]), rfl⟩
  · go_enter Tryd.func34, Tryd.ntmps34
    go_wp2
    go_ret
    exact ⟨ret_int (by unfold cI; rw [if_neg (by omega), if_neg (by omega)]), rfl⟩

theorem bl_gtr (x y : List UInt8) : (!(Op.bytesLess x y || x == y)) = Op.bytesLess y x := by
  cases h1 : Op.bytesLess x y with
  | true =>
    cases h2 : Op.bytesLess y x with
    | true =>
      have := bl_trans _ _ _ h1 h2
      rw [bl_irrefl] at this
      cases this
    | false => rfl
  | false =>
    cases h2 : Op.bytesLess y x with
    | true =>
      have : (x == y) = false := by
        simp only [beq_eq_false_iff_ne, ne_eq]
        intro e
        rw [e, bl_irrefl] at h2
        cases h2
      rw [this]; rfl
    | false =>
      have : (x == y) = true := by
        rw [bl_tri x y h1 h2]
        exact beq_self_eq_true _
      rw [this]; rfl
theorem gtr_str0 (s t : ByteArray) (w : World) : (binOp .gtr 9 (.string s) (.string t)).run Tryd.prog w = .ok (.bool !(Op.bytesLess s.toList t.toList || s.toList == t.toList)) w := by kernel_rfl
theorem gtr_str (s t : ByteArray) (w : World) : (binOp .gtr 9 (.string s) (.string t)).run Tryd.prog w = .ok (.bool (Op.bytesLess t.toList s.toList)) w := by
  rw [gtr_str0, bl_gtr]

/-- cmp.Compare at string -/
theorem cmps_any (s t : ByteArray) (w : World) : Calls Tryd.prog 36 #[.string s, .string t] w fun e w' => e = .returned (.int .i64 (cS s t)) ∧ w' = w := by
  have hg := gtr_str
  cases h1 : Op.bytesLess s.toList t.toList with
  | true =>
    go_enter Tryd.func36, Tryd.ntmps36
    go_wp2
    go_ret
    exact ⟨ret_int (by unfold cS cB; rw [h1]; rfl), rfl⟩
  | false =>
    cases h2 : Op.bytesLess t.toList s.toList with
    | true =>
      go_enter Tryd.func36, Tryd.ntmps36
      go_wp2
      go_ret
      exact ⟨ret_int (by unfold cS cB; rw [h1, h2]; rfl), rfl⟩
    | false =>
      go_enter Tryd.func36, Tryd.ntmps36
      go_wp2
      go_ret
      exact ⟨ret_int (by unfold cS cB; rw [h1, h2]; rfl), rfl⟩

/-- (Addr).Compare's answer -/
def cA (c : Option Bool) (hi lo : Int) (c' : Option Bool) (hi' lo' : Int) : Int := or2 (cC c c') (or2 (cI hi hi') (cI lo lo'))

/-- the two boxes of (Addr).Compare -/
def B2 (w : World) (hi lo hi' lo' : Int) (z z' : Option Addr) : World := (w.alloc (.cells #[.int .u64 hi, .int .u64 lo, .pointer z] 37)).alloc (.cells #[.int .u64 hi', .int .u64 lo', .pointer z'] 37)

theorem B2_gb (w : World) (hi lo hi' lo' : Int) (z z' : Option Addr) : GB w (B2 w hi lo hi' lo' z z') := ((GB.refl w).alloc _).alloc _
theorem B2_cells (w : World) (hi lo hi' lo' : Int) (z z' : Option Addr) (w' : World) (h : GB (B2 w hi lo hi' lo' z z') w') :
    w'.cell? ⟨w.heap.size, 0, none⟩ = some (.int .u64 hi) ∧ w'.cell? ⟨w.heap.size, 1, none⟩ = some (.int .u64 lo) ∧ w'.cell? ⟨w.heap.size, 2, none⟩ = some (.pointer z) ∧ w'.cell? ⟨w.heap.size + 1, 0, none⟩ = some (.int .u64 hi') ∧ w'.cell? ⟨w.heap.size + 1, 1, none⟩ = some (.int .u64 lo') ∧ w'.cell? ⟨w.heap.size + 1, 2, none⟩ = some (.pointer z') := by
  obtain ⟨hc, _⟩ := bcell h.1
  have hs : (B2 w hi lo hi' lo' z z').heap.size = w.heap.size + 1 + 1 := by unfold B2; simp
  rw [hs] at hc
  refine ⟨?_, ?_, ?_, ?_, ?_, ?_⟩ <;> (rw [hc _ _ (by omega)]; unfold B2; go_simp)

end Go.Proofs.Qxb6616947aDoor
