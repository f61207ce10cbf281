/-
  Contracts of BEUint64, AddrFrom4, AddrFrom16, PrefixFrom.
-/
import Derived.Test.Qxb6616947aDoorCompact
import Derived.Lib.Endian
import Derived.Lib.EndianBits
namespace Go.Proofs.Qxb6616947aDoor
open Go.RowKit Go.Shelf Plain
set_option linter.unusedVariables false

set_option maxHeartbeats 8000000 in
set_option maxRecDepth 100000 in
/-- byteorder.BEUint64 -/
theorem be64_any (g o n c : Nat) (b0 b1 b2 b3 b4 b5 b6 b7 : UInt8) (w : World) (hn : 8 ≤ n)
    (c0 : w.cell? ⟨g, o, none⟩ = some (.int .u8 b0.toNat)) (c1 : w.cell? ⟨g, o + 1, none⟩ = some (.int .u8 b1.toNat)) (c2 : w.cell? ⟨g, o + 2, none⟩ = some (.int .u8 b2.toNat)) (c3 : w.cell? ⟨g, o + 3, none⟩ = some (.int .u8 b3.toNat)) (c4 : w.cell? ⟨g, o + 4, none⟩ = some (.int .u8 b4.toNat)) (c5 : w.cell? ⟨g, o + 5, none⟩ = some (.int .u8 b5.toNat)) (c6 : w.cell? ⟨g, o + 6, none⟩ = some (.int .u8 b6.toNat)) (c7 : w.cell? ⟨g, o + 7, none⟩ = some (.int .u8 b7.toNat)) :
    Calls Tryd.prog 27 #[.slice (some ⟨g, o, none⟩) n c] w fun e w' => e = .returned (.int .u64 (Lib.beNat [b0, b1, b2, b3, b4, b5, b6, b7])) ∧ GB w w' := by
  have h0 : b0.toNat < 256 := b0.toNat_lt
  have h1 : b1.toNat < 256 := b1.toNat_lt
  have h2 : b2.toNat < 256 := b2.toNat_lt
  have h3 : b3.toNat < 256 := b3.toNat_lt
  have h4 : b4.toNat < 256 := b4.toNat_lt
  have h5 : b5.toNat < 256 := b5.toNat_lt
  have h6 : b6.toNat < 256 := b6.toNat_lt
  have h7 : b7.toNat < 256 := b7.toNat_lt
  have hv : ((Lib.beNat [b0, b1, b2, b3, b4, b5, b6, b7] : Nat) : Int) = (b7.toNat : Int) + (b6.toNat : Int) * 256 + (b5.toNat : Int) * 65536 + (b4.toNat : Int) * 16777216 + (b3.toNat : Int) * 4294967296 + (b2.toNat : Int) * 1099511627776 + (b1.toNat : Int) * 281474976710656 + (b0.toNat : Int) * 72057594037927936 := by
    simp only [Lib.beNat, Lib.beFrom]
    push_cast
    omega
  have q0 : 0 < n := by omega
  have q1 : (1 : Int) < (n : Int) := by omega
  have q2 : (2 : Int) < (n : Int) := by omega
  have q3 : (3 : Int) < (n : Int) := by omega
  have q4 : (4 : Int) < (n : Int) := by omega
  have q5 : (5 : Int) < (n : Int) := by omega
  have q6 : (6 : Int) < (n : Int) := by omega
  have q7 : (7 : Int) < (n : Int) := by omega
  go_enter Tryd.func27, Tryd.ntmps27
  go_wp2
  go_quiet (fail)
  go_wp2
  go_ret
  refine ⟨?_, (GB.refl w).drewN _⟩
  simp (disch := omega) only [u64_or8, u64_or16, u64_or24, u64_or32, u64_or40, u64_or48, u64_or56]
  rw [hv]
  rfl

theorem u64_or_hi (i : Nat) (x y : Int) (hx0 : 0 ≤ x) (hx : x % 2 ^ i = 0) (hx1 : x < 18446744073709551616) (hy0 : 0 ≤ y) (hy : y < 2 ^ i) (hy1 : y < 18446744073709551616) : bits .or .u64 x y = x + y :=
  bits_join .u64 64 (by decide) wraps_u64 i x y hx0 hx hx1 hy0 hy hy1

/-- the low half of an IPv4 address -/
def lo4 (a0 a1 a2 a3 : UInt8) : Int := 281470681743360 + a0.toNat * 16777216 + a1.toNat * 65536 + a2.toNat * 256 + a3.toNat

set_option maxHeartbeats 4000000 in
/-- netip.AddrFrom4 -/
theorem af4_any (a0 a1 a2 a3 : UInt8) (b4 o4 b6 o6 : Nat) (w : World) (hG : Gl w b4 o4 b6 o6) :
    Calls Tryd.prog 19 #[.agg #[.int .u8 a0.toNat, .int .u8 a1.toNat, .int .u8 a2.toNat, .int .u8 a3.toNat]] w fun e w' => e = .returned (.agg #[.int .u64 0, .int .u64 (lo4 a0 a1 a2 a3), .pointer (zp b4 o4 b6 o6 (some false))]) ∧ GB w w' := by
  have g0 := hG.g0
  have s2 := hG.s2
  have s0 : 0 < w.heap.size := by omega
  have s01 : 0 < w.heap.size + 1 := by omega
  have s02 : 0 < w.heap.size + 1 + 1 := by omega
  clear hG
  have h0 : a0.toNat < 256 := a0.toNat_lt
  have h1 : a1.toNat < 256 := a1.toNat_lt
  have h2 : a2.toNat < 256 := a2.toNat_lt
  have h3 : a3.toNat < 256 := a3.toNat_lt
  show Calls Tryd.prog 19 #[.agg #[.int .u8 a0.toNat, .int .u8 a1.toNat, .int .u8 a2.toNat, .int .u8 a3.toNat]] w fun e w' => e = .returned (.agg #[.int .u64 0, .int .u64 (lo4 a0 a1 a2 a3), .pointer (some ⟨b4, o4, none⟩)]) ∧ GB w w'
  have hv : bits .or .u64 (bits .or .u64 (bits .or .u64 (bits .or .u64 281470681743360 ((a0.toNat : Int) * 16777216)) ((a1.toNat : Int) * 65536)) ((a2.toNat : Int) * 256)) (a3.toNat : Int) = lo4 a0 a1 a2 a3 := by
    rw [u64_or_hi 32 281470681743360 ((a0.toNat : Int) * 16777216) (by omega) (by omega) (by omega) (by omega) (by omega) (by omega)]
    rw [u64_or_hi 24 _ ((a1.toNat : Int) * 65536) (by omega) (by omega) (by omega) (by omega) (by omega) (by omega)]
    rw [u64_or_hi 16 _ ((a2.toNat : Int) * 256) (by omega) (by omega) (by omega) (by omega) (by omega) (by omega)]
    rw [u64_or_hi 8 _ (a3.toNat : Int) (by omega) (by omega) (by omega) (by omega) (by omega) (by omega)]
    rfl
  go_enter Tryd.func19, Tryd.ntmps19
  go_wp2
  exact bodyPost_ret (v := .agg #[.int .u64 0, .int .u64 (lo4 a0 a1 a2 a3), .pointer (some ⟨b4, o4, none⟩)]) (by simp [results, Tryd.results19, go_sem]) rfl ⟨rfl, (((GB.refl w).alloc _).alloc _)⟩

/-- the boxed sixteen bytes and the result's cells -/
def cvv (w : World) (b k : Nat) : Value := (w.cell? ⟨b, k, none⟩).getD undef
theorem cvv_of {w : World} {b k : Nat} (h : (w.cell? ⟨b, k, none⟩).isSome = true) : w.cell? ⟨b, k, none⟩ = some (cvv w b k) := by
  obtain ⟨v, hv⟩ := Option.isSome_iff_exists.1 h
  unfold cvv
  rw [hv]
  rfl
structure S16 (w W2 w' : World) : Prop where
  gb : GB w w'
  blk : w'.heap[w.heap.size]? = W2.heap[w.heap.size]?
  some : ∀ k, k < 3 → (w'.cell? ⟨w.heap.size + 1, k, none⟩).isSome = true
  fro : ∀ k, k < 3 → w'.frozen? ⟨w.heap.size + 1, k, none⟩ = false

theorem S16.lt {w W2 w' : World} (h : S16 w W2 w') : w.heap.size + 1 < w'.heap.size := by
  have := h.some 0 (by omega)
  obtain ⟨v, hv⟩ := Option.isSome_iff_exists.1 this
  exact World.block_lt_of_cell? w' _ hv
theorem S16.step {w W2 a b : World} (h : S16 w W2 a) (k : GB a b) : S16 w W2 b := by
  have hl := h.lt
  obtain ⟨hc, hf⟩ := bcell k.1
  refine ⟨h.gb.trans k, (k.1.block _ (by omega)).trans h.blk, fun j hj => ?_, fun j hj => ?_⟩
  · rw [hc _ _ (by omega)]; exact h.some j hj
  · rw [hf _ _ (by omega)]; exact h.fro j hj
theorem S16.set {w W2 a : World} (h : S16 w W2 a) (k : Nat) (v : Value) : S16 w W2 (a.setCell ⟨w.heap.size + 1, k, none⟩ v) where
  gb := h.gb.setCell (by simp) v
  blk := (World.heap_setCells_other a (w.heap.size + 1) k [v] (by have := h.lt; omega) (by omega)).trans h.blk
  some := fun j hj => World.isSome_setCells (w.heap.size + 1) [v] k a _ (h.some j hj)
  fro := fun j hj => (World.frozen?_setCells (w.heap.size + 1) [v] k a _).trans (h.fro j hj)

theorem A2_cells (x0 x1 x2 x3 x4 x5 x6 x7 x8 x9 x10 x11 x12 x13 x14 x15 : UInt8) (w w' : World) (h : S16 w ((w.alloc (.cells #[.int .u8 x0.toNat, .int .u8 x1.toNat, .int .u8 x2.toNat, .int .u8 x3.toNat, .int .u8 x4.toNat, .int .u8 x5.toNat, .int .u8 x6.toNat, .int .u8 x7.toNat, .int .u8 x8.toNat, .int .u8 x9.toNat, .int .u8 x10.toNat, .int .u8 x11.toNat, .int .u8 x12.toNat, .int .u8 x13.toNat, .int .u8 x14.toNat, .int .u8 x15.toNat] 43)).alloc (.cells #[.int .u64 0, .int .u64 0, .pointer none] 37)) w') :
    w'.cell? ⟨w.heap.size, 0, none⟩ = some (.int .u8 x0.toNat) ∧ w'.cell? ⟨w.heap.size, 1, none⟩ = some (.int .u8 x1.toNat) ∧ w'.cell? ⟨w.heap.size, 2, none⟩ = some (.int .u8 x2.toNat) ∧ w'.cell? ⟨w.heap.size, 3, none⟩ = some (.int .u8 x3.toNat) ∧ w'.cell? ⟨w.heap.size, 4, none⟩ = some (.int .u8 x4.toNat) ∧ w'.cell? ⟨w.heap.size, 5, none⟩ = some (.int .u8 x5.toNat) ∧ w'.cell? ⟨w.heap.size, 6, none⟩ = some (.int .u8 x6.toNat) ∧ w'.cell? ⟨w.heap.size, 7, none⟩ = some (.int .u8 x7.toNat) ∧ w'.cell? ⟨w.heap.size, 8, none⟩ = some (.int .u8 x8.toNat) ∧ w'.cell? ⟨w.heap.size, 9, none⟩ = some (.int .u8 x9.toNat) ∧ w'.cell? ⟨w.heap.size, 10, none⟩ = some (.int .u8 x10.toNat) ∧ w'.cell? ⟨w.heap.size, 11, none⟩ = some (.int .u8 x11.toNat) ∧ w'.cell? ⟨w.heap.size, 12, none⟩ = some (.int .u8 x12.toNat) ∧ w'.cell? ⟨w.heap.size, 13, none⟩ = some (.int .u8 x13.toNat) ∧ w'.cell? ⟨w.heap.size, 14, none⟩ = some (.int .u8 x14.toNat) ∧ w'.cell? ⟨w.heap.size, 15, none⟩ = some (.int .u8 x15.toNat) := by
  have hb : ∀ o, w'.cell? ⟨w.heap.size, o, none⟩ = ((w.alloc (.cells #[.int .u8 x0.toNat, .int .u8 x1.toNat, .int .u8 x2.toNat, .int .u8 x3.toNat, .int .u8 x4.toNat, .int .u8 x5.toNat, .int .u8 x6.toNat, .int .u8 x7.toNat, .int .u8 x8.toNat, .int .u8 x9.toNat, .int .u8 x10.toNat, .int .u8 x11.toNat, .int .u8 x12.toNat, .int .u8 x13.toNat, .int .u8 x14.toNat, .int .u8 x15.toNat] 43)).alloc (.cells #[.int .u64 0, .int .u64 0, .pointer none] 37)).cell? ⟨w.heap.size, o, none⟩ := fun o => World.cell?_of_block h.blk
  refine ⟨?_, ?_, ?_, ?_, ?_, ?_, ?_, ?_, ?_, ?_, ?_, ?_, ?_, ?_, ?_, ?_⟩ <;> (rw [hb]; go_simp)

theorem S16.start (x0 x1 x2 x3 x4 x5 x6 x7 x8 x9 x10 x11 x12 x13 x14 x15 : UInt8) (w : World) : S16 w ((w.alloc (.cells #[.int .u8 x0.toNat, .int .u8 x1.toNat, .int .u8 x2.toNat, .int .u8 x3.toNat, .int .u8 x4.toNat, .int .u8 x5.toNat, .int .u8 x6.toNat, .int .u8 x7.toNat, .int .u8 x8.toNat, .int .u8 x9.toNat, .int .u8 x10.toNat, .int .u8 x11.toNat, .int .u8 x12.toNat, .int .u8 x13.toNat, .int .u8 x14.toNat, .int .u8 x15.toNat] 43)).alloc (.cells #[.int .u64 0, .int .u64 0, .pointer none] 37)) ((w.alloc (.cells #[.int .u8 x0.toNat, .int .u8 x1.toNat, .int .u8 x2.toNat, .int .u8 x3.toNat, .int .u8 x4.toNat, .int .u8 x5.toNat, .int .u8 x6.toNat, .int .u8 x7.toNat, .int .u8 x8.toNat, .int .u8 x9.toNat, .int .u8 x10.toNat, .int .u8 x11.toNat, .int .u8 x12.toNat, .int .u8 x13.toNat, .int .u8 x14.toNat, .int .u8 x15.toNat] 43)).alloc (.cells #[.int .u64 0, .int .u64 0, .pointer none] 37)) where
  gb := ((GB.refl w).alloc _).alloc _
  blk := rfl
  some := by
    intro k hk
    have h : k = 0 ∨ k = 1 ∨ k = 2 := by omega
    rcases h with rfl | rfl | rfl <;> go_simp
  fro := by
    intro k hk
    have h : k = 0 ∨ k = 1 ∨ k = 2 := by omega
    rcases h with rfl | rfl | rfl <;> go_simp

set_option maxHeartbeats 4000000 in
/-- netip.AddrFrom16 -/
theorem af16_any (x0 x1 x2 x3 x4 x5 x6 x7 x8 x9 x10 x11 x12 x13 x14 x15 : UInt8) (b4 o4 b6 o6 : Nat) (w : World) (hG : Gl w b4 o4 b6 o6) :
    Calls Tryd.prog 20 #[.agg #[.int .u8 x0.toNat, .int .u8 x1.toNat, .int .u8 x2.toNat, .int .u8 x3.toNat, .int .u8 x4.toNat, .int .u8 x5.toNat, .int .u8 x6.toNat, .int .u8 x7.toNat, .int .u8 x8.toNat, .int .u8 x9.toNat, .int .u8 x10.toNat, .int .u8 x11.toNat, .int .u8 x12.toNat, .int .u8 x13.toNat, .int .u8 x14.toNat, .int .u8 x15.toNat]] w fun e w' => e = .returned (.agg #[.int .u64 (Lib.beNat [x0, x1, x2, x3, x4, x5, x6, x7]), .int .u64 (Lib.beNat [x8, x9, x10, x11, x12, x13, x14, x15]), .pointer (zp b4 o4 b6 o6 (some true))]) ∧ GB w w' := by
  have HG : Hid (Gl w b4 o4 b6 o6) := hG
  have s2 := hG.s2
  have s1 : 1 < w.heap.size := by omega
  clear hG
  show Calls Tryd.prog 20 #[.agg #[.int .u8 x0.toNat, .int .u8 x1.toNat, .int .u8 x2.toNat, .int .u8 x3.toNat, .int .u8 x4.toNat, .int .u8 x5.toNat, .int .u8 x6.toNat, .int .u8 x7.toNat, .int .u8 x8.toNat, .int .u8 x9.toNat, .int .u8 x10.toNat, .int .u8 x11.toNat, .int .u8 x12.toNat, .int .u8 x13.toNat, .int .u8 x14.toNat, .int .u8 x15.toNat]] w fun e w' => e = .returned (.agg #[.int .u64 (Lib.beNat [x0, x1, x2, x3, x4, x5, x6, x7]), .int .u64 (Lib.beNat [x8, x9, x10, x11, x12, x13, x14, x15]), .pointer (some ⟨b6, o6, none⟩)]) ∧ GB w w'
  obtain ⟨W2, HW⟩ : ∃ W2, Hid (W2 = ((w.alloc (.cells #[.int .u8 x0.toNat, .int .u8 x1.toNat, .int .u8 x2.toNat, .int .u8 x3.toNat, .int .u8 x4.toNat, .int .u8 x5.toNat, .int .u8 x6.toNat, .int .u8 x7.toNat, .int .u8 x8.toNat, .int .u8 x9.toNat, .int .u8 x10.toNat, .int .u8 x11.toNat, .int .u8 x12.toNat, .int .u8 x13.toNat, .int .u8 x14.toNat, .int .u8 x15.toNat] 43)).alloc (.cells #[.int .u64 0, .int .u64 0, .pointer none] 37))) := ⟨_, rfl⟩
  obtain ⟨n1, hn1⟩ : ∃ n, n = Lib.beNat [x0, x1, x2, x3, x4, x5, x6, x7] := ⟨_, rfl⟩
  obtain ⟨n2, hn2⟩ : ∃ n, n = Lib.beNat [x8, x9, x10, x11, x12, x13, x14, x15] := ⟨_, rfl⟩
  rw [← hn1, ← hn2]
  have HB1 : Hid (∀ w', S16 w W2 w' → Calls Tryd.prog 27 #[.slice (some ⟨w.heap.size, 0, none⟩) 8 16] w' fun e w'' => e = .returned (.int .u64 n1) ∧ GB w' w'') := fun w' h => by
    rw [HW.out] at h
    have h1 := A2_cells x0 x1 x2 x3 x4 x5 x6 x7 x8 x9 x10 x11 x12 x13 x14 x15 w w' h
    rw [hn1]
    exact be64_any w.heap.size 0 8 16 x0 x1 x2 x3 x4 x5 x6 x7 w' (by omega) h1.1 h1.2.1 h1.2.2.1 h1.2.2.2.1 h1.2.2.2.2.1 h1.2.2.2.2.2.1 h1.2.2.2.2.2.2.1 h1.2.2.2.2.2.2.2.1
  have HB2 : Hid (∀ w', S16 w W2 w' → Calls Tryd.prog 27 #[.slice (some ⟨w.heap.size, 8, none⟩) 8 8] w' fun e w'' => e = .returned (.int .u64 n2) ∧ GB w' w'') := fun w' h => by
    rw [HW.out] at h
    have h1 := A2_cells x0 x1 x2 x3 x4 x5 x6 x7 x8 x9 x10 x11 x12 x13 x14 x15 w w' h
    rw [hn2]
    exact be64_any w.heap.size 8 8 8 x8 x9 x10 x11 x12 x13 x14 x15 w' (by omega) h1.2.2.2.2.2.2.2.2.1 h1.2.2.2.2.2.2.2.2.2.1 h1.2.2.2.2.2.2.2.2.2.2.1 h1.2.2.2.2.2.2.2.2.2.2.2.1 h1.2.2.2.2.2.2.2.2.2.2.2.2.1 h1.2.2.2.2.2.2.2.2.2.2.2.2.2.1 h1.2.2.2.2.2.2.2.2.2.2.2.2.2.2.1 h1.2.2.2.2.2.2.2.2.2.2.2.2.2.2.2
  have HS : Hid (∀ w', S16 w W2 w' → S16 w W2 w' ∧ w'.cell? ⟨w.heap.size + 1, 0, none⟩ = some (cvv w' (w.heap.size + 1) 0) ∧ w'.cell? ⟨w.heap.size + 1, 1, none⟩ = some (cvv w' (w.heap.size + 1) 1) ∧ w'.cell? ⟨w.heap.size + 1, 2, none⟩ = some (cvv w' (w.heap.size + 1) 2) ∧ w'.frozen? ⟨w.heap.size + 1, 0, none⟩ = false ∧ w'.frozen? ⟨w.heap.size + 1, 1, none⟩ = false ∧ w'.frozen? ⟨w.heap.size + 1, 2, none⟩ = false ∧ w'.cell? ⟨1, 0, none⟩ = some (.pointer (some ⟨b6, o6, none⟩))) := fun w' h =>
    ⟨h, cvv_of (h.some 0 (by omega)), cvv_of (h.some 1 (by omega)), cvv_of (h.some 2 (by omega)), h.fro 0 (by omega), h.fro 1 (by omega), h.fro 2 (by omega), (HG.out.gb h.gb).g1⟩
  have HS0 : Hid (S16 w W2 W2) := by rw [HW.out]; exact S16.start x0 x1 x2 x3 x4 x5 x6 x7 x8 x9 x10 x11 x12 x13 x14 x15 w
  clear hn1 hn2
  go_enter Tryd.func20, Tryd.ntmps20
  go_wp2_with fail
  rw [← HW.out]
  go_region_held3 (fun w' => S16 w W2 w' ∧ w'.cell? ⟨w.heap.size + 1, 0, none⟩ = some (cvv w' (w.heap.size + 1) 0) ∧ w'.cell? ⟨w.heap.size + 1, 1, none⟩ = some (cvv w' (w.heap.size + 1) 1) ∧ w'.cell? ⟨w.heap.size + 1, 2, none⟩ = some (cvv w' (w.heap.size + 1) 2) ∧ w'.frozen? ⟨w.heap.size + 1, 0, none⟩ = false ∧ w'.frozen? ⟨w.heap.size + 1, 1, none⟩ = false ∧ w'.frozen? ⟨w.heap.size + 1, 2, none⟩ = false ∧ w'.cell? ⟨1, 0, none⟩ = some (.pointer (some ⟨b6, o6, none⟩)))
    (first | exact HS.out _ (HS0.out.step (GB.refl W2).drew) | exact HS.out _ (by assumption) | exact HS.out _ (((S16.set (by assumption) 0 _).set 1 _).set 2 _))
    (first
      | (go_at_call_of 27 (Value.slice (some ⟨w.heap.size, 0, none⟩) 8 16); have hg := (show S16 w W2 _ ∧ _ by assumption); refine (HB1.out _ hg.1).mono ?_; rintro e v ⟨rfl, hb⟩; have hb2 := hg.1.step hb; clear hg hb)
      | (go_at_call_of 27 (Value.slice (some ⟨w.heap.size, 8, none⟩) 8 8); have hg := (show S16 w W2 _ ∧ _ by assumption); refine (HB2.out _ hg.1).mono ?_; rintro e v ⟨rfl, hb⟩; have hb2 := hg.1.step hb; clear hg hb))
  go_wp2
  have k0 := cvv_of (S16.some (w := w) (W2 := W2) (by assumption) 0 (by omega))
  have k1 := cvv_of (S16.some (w := w) (W2 := W2) (by assumption) 1 (by omega))
  have k2 := cvv_of (S16.some (w := w) (W2 := W2) (by assumption) 2 (by omega))
  exact bodyPost_ret (v := .agg #[.int .u64 n1, .int .u64 n2, .pointer (some ⟨b6, o6, none⟩)]) (by simp [results, Tryd.results20, go_sem, k0, k1, k2]) rfl ⟨rfl, (show S16 w W2 _ ∧ _ by assumption).1.gb⟩
end Go.Proofs.Qxb6616947aDoor
