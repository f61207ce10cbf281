/-
  Two VRPs' cells compared by ==.
-/
import Derived.Test.Qxb6616947aDoorSort
namespace Go.Proofs.Qxb6616947aDoor
open Go.RowKit Go.Sort Go.Shelf Plain
set_option linter.unusedVariables false

theorem eqq_nn (w : World) : (Op.equalIn 9996 33 (.pointer none) (.pointer none)).run Tryd.prog w = .ok true w := by kernel_rfl
theorem eqq_sn (a : Addr) (w : World) : (Op.equalIn 9996 33 (.pointer (some a)) (.pointer none)).run Tryd.prog w = .ok false w := by kernel_rfl
theorem eqq_ns (a : Addr) (w : World) : (Op.equalIn 9996 33 (.pointer none) (.pointer (some a))).run Tryd.prog w = .ok false w := by kernel_rfl
theorem eqq_ss (a b : Addr) (w : World) : (Op.equalIn 9996 33 (.pointer (some a)) (.pointer (some b))).run Tryd.prog w = (sameAddr a b).run Tryd.prog w := by kernel_rfl

theorem eqq (w : World) (b4 o4 b6 o6 : Nat) (hG : Gl w b4 o4 b6 o6) (c c' : Option Bool) : (Op.equalIn 9996 33 (.pointer (zp b4 o4 b6 o6 c)) (.pointer (zp b4 o4 b6 o6 c'))).run Tryd.prog w = .ok (decide (c = c')) w := by
  have k46 : (sameAddr ⟨b4, o4, none⟩ ⟨b6, o6, none⟩).run Tryd.prog w = .ok false w := (eqp_ss _ _ w).symm.trans (eqp_46 hG)
  have k64 : (sameAddr ⟨b6, o6, none⟩ ⟨b4, o4, none⟩).run Tryd.prog w = .ok false w := (eqp_ss _ _ w).symm.trans (eqp_64 hG)
  rcases c with _ | _ | _ <;> rcases c' with _ | _ | _ <;> simp only [zp]
  · exact eqq_nn w
  · exact eqq_ns _ w
  · exact eqq_ns _ w
  · exact eqq_sn _ w
  · exact (eqq_ss _ _ w).trans (run_sameAddr_same w _)
  · exact (eqq_ss _ _ w).trans k46
  · exact eqq_sn _ w
  · exact (eqq_ss _ _ w).trans k64
  · exact (eqq_ss _ _ w).trans (run_sameAddr_same w _)

theorem eqin0 (asn hi lo bp ml asn' hi' lo' bp' ml' : Int) (ta ta' : ByteArray) (z z' : Option Addr) (w : World) (r : Bool)
    (hp : (Op.equalIn 9996 33 (.pointer z) (.pointer z')).run Tryd.prog w = .ok r w) :
    (Op.equalIn 10000 41 (.agg #[.int .u32 asn, .int .u64 hi, .int .u64 lo, .pointer z, .int .u8 bp, .int .i64 ml, .string ta]) (.agg #[.int .u32 asn', .int .u64 hi', .int .u64 lo', .pointer z', .int .u8 bp', .int .i64 ml', .string ta'])).run Tryd.prog w
      = .ok (asn == asn' && (hi == hi' && (lo == lo' && (r && (bp == bp' && (ml == ml' && ta.toList == ta'.toList)))))) w := by
  go_simp
  by_cases h1 : asn = asn' <;> by_cases h2 : hi = hi' <;> by_cases h3 : lo = lo' <;> cases r <;> by_cases h5 : bp = bp' <;> by_cases h6 : ml = ml' <;> by_cases h7 : ta.toList = ta'.toList <;> simp [h1, h2, h3, h5, h6, h7]

theorem bytes_ext {a b : ByteArray} (h : a.toList = b.toList) : a = b := by
  rw [ByteArray.toList_eq, ByteArray.toList_eq] at h
  exact ByteArray.ext (Array.toList_inj.1 h)

theorem eqin (x y : V) (w : World) (b4 o4 b6 o6 : Nat) (hG : Gl w b4 o4 b6 o6) :
    (Op.equalIn 10000 41 (.agg (enc b4 o4 b6 o6 x).toArray) (.agg (enc b4 o4 b6 o6 y).toArray)).run Tryd.prog w = .ok (decide (x = y)) w := by
  refine (eqin0 _ _ _ _ _ _ _ _ _ _ _ _ _ _ w _ (eqq w b4 o4 b6 o6 hG x.2.1 y.2.1)).trans ?_
  congr 1
  obtain ⟨a, c, h, l, b, m, t⟩ := x
  obtain ⟨a', c', h', l', b', m', t'⟩ := y
  rw [Bool.eq_iff_iff]
  simp only [Bool.and_eq_true, beq_iff_eq, decide_eq_true_eq, Prod.mk.injEq]
  constructor
  · rintro ⟨e1, e2, e3, e4, e5, e6, e7⟩
    exact ⟨e1, e4, e2, e3, UInt8.toNat_inj.1 (by omega), e6, bytes_ext e7⟩
  · rintro ⟨rfl, rfl, rfl, rfl, rfl, rfl, rfl⟩
    exact ⟨rfl, rfl, rfl, rfl, rfl, rfl, rfl⟩


/-- the comparison as one word, so that a walk does not take it apart -/
def EqVP (P : Program) (W : World) (xs ys : Array Value) : Result Bool := (Op.equalIn 10000 41 (.agg xs) (.agg ys)).run P W
theorem eqV_fold (W : World) (xs ys : Array Value) : (Op.equalIn 10000 41 (.agg xs) (.agg ys)).run Tryd.prog W = EqVP Tryd.prog W xs ys := rfl
theorem eqV (x y : V) (w : World) (b4 o4 b6 o6 : Nat) (hG : Gl w b4 o4 b6 o6) : EqVP Tryd.prog w (enc b4 o4 b6 o6 x).toArray (enc b4 o4 b6 o6 y).toArray = .ok (decide (x = y)) w := eqin x y w b4 o4 b6 o6 hG
theorem eqGuard41 (op : BinOp) (x y : Operand) (xs ys : Array Value) (W : World) : (eqGuard op 41 x y (.agg xs) (.agg ys)).run Tryd.prog W = .ok () W := run_eqGuard_agg W op 41 x y xs ys (by kernel_rfl)
theorem wrap_nat {n : Nat} (h : n < 9223372036854775808) : IntKind.i64.wrap (n : Int) = n := by
  simp [IntKind.wrap, IntKind.bits, IntKind.signed]
  omega
theorem wrap_pred {n : Nat} (h1 : 1 ≤ n) (h : n < 9223372036854775808) : IntKind.i64.wrap ((n : Int) - 1) = ((n - 1 : Nat) : Int) := by
  rw [show ((n : Int) - 1) = ((n - 1 : Nat) : Int) by omega]
  exact wrap_nat (by omega)
end Go.Proofs.Qxb6616947aDoor
