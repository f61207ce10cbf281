/-
  The order of bytes against the order of the numbers that they spell; the plain order of zvrpCompare is the order of the images.
-/
import Derived.Test.Qxb6616947aDoorZcmp
namespace Go.Proofs.Qxb6616947aDoor
open Go.RowKit Go.Sort Go.Shelf Plain
set_option linter.unusedVariables false

theorem cI_shift (k a b : Int) : cI (k + a) (k + b) = cI a b := by
  unfold cI
  by_cases h : a < b
  · rw [if_pos h, if_pos (by omega)]
  · rw [if_neg h, if_neg (by omega)]
    by_cases h2 : b < a
    · rw [if_pos h2, if_pos (by omega)]
    · rw [if_neg h2, if_neg (by omega)]
theorem beFrom_acc : ∀ (l : List UInt8) (acc : Nat), Lib.beFrom acc l = acc * 256 ^ l.length + Lib.beFrom 0 l
  | [], acc => by simp [Lib.beFrom]
  | b :: r, acc => by
    simp only [Lib.beFrom, List.length_cons]
    rw [beFrom_acc r (acc * 256 + b.toNat), beFrom_acc r (0 * 256 + b.toNat), Nat.pow_succ]
    rw [Nat.add_mul, Nat.zero_mul, Nat.zero_add, Nat.mul_assoc, Nat.mul_comm 256]
    omega
theorem be_lt : ∀ l : List UInt8, Lib.beFrom 0 l < 256 ^ l.length
  | [] => by simp [Lib.beFrom]
  | b :: r => by
    simp only [Lib.beFrom, List.length_cons]
    rw [beFrom_acc r _, Nat.pow_succ]
    have := be_lt r
    have hb := b.toNat_lt
    have h1 : b.toNat * 256 ^ r.length + 256 ^ r.length ≤ 256 * 256 ^ r.length := by
      have : (b.toNat + 1) * 256 ^ r.length ≤ 256 * 256 ^ r.length := Nat.mul_le_mul_right _ (by omega)
      rw [Nat.add_mul, Nat.one_mul] at this
      exact this
    rw [Nat.zero_mul, Nat.zero_add]
    rw [Nat.mul_comm (256 ^ r.length) 256]
    omega
theorem be_cons (b : UInt8) (r : List UInt8) : Lib.beNat (b :: r) = b.toNat * 256 ^ r.length + Lib.beNat r := by
  unfold Lib.beNat
  simp only [Lib.beFrom]
  rw [beFrom_acc r _, Nat.zero_mul, Nat.zero_add]

/-- bytes in order, lists of one length: the order of the numbers -/
theorem cB_be : ∀ x y : List UInt8, x.length = y.length → cB x y = cI (Lib.beNat x) (Lib.beNat y)
  | [], [], _ => rfl
  | [], _ :: _, h => by simp at h
  | _ :: _, [], h => by simp at h
  | a :: x, b :: y, h => by
    have hl : x.length = y.length := by simpa using h
    have ih := cB_be x y hl
    rw [be_cons, be_cons, hl]
    have hx := be_lt x
    have hy := be_lt y
    rw [hl] at hx
    change Lib.beNat x < _ at hx
    change Lib.beNat y < _ at hy
    by_cases e : a = b
    · subst e
      have e1 : cB (a :: x) (a :: y) = cB x y := by
        unfold cB
        simp [Op.bytesLess]
      rw [e1, ih]
      rw [Int.natCast_add, Int.natCast_add, cI_shift]
    · have hs := cB_split (a :: x) (b :: y) 0 (by simp) (by simp) (fun j hj => by omega) (by simpa using e)
      rw [hs]
      simp only [List.getElem!_cons_zero]
      by_cases hlt : a < b
      · rw [if_pos hlt, cI_1]
        rw [UInt8.lt_iff_toNat_lt] at hlt
        have : (a.toNat + 1) * 256 ^ y.length ≤ b.toNat * 256 ^ y.length := Nat.mul_le_mul_right _ hlt
        rw [Nat.add_mul, Nat.one_mul] at this
        omega
      · rw [if_neg hlt, cI_2]
        rw [UInt8.lt_iff_toNat_lt] at hlt
        have hne : a.toNat ≠ b.toNat := fun e' => e (UInt8.toNat_inj.1 e')
        have : (b.toNat + 1) * 256 ^ y.length ≤ a.toNat * 256 ^ y.length := Nat.mul_le_mul_right _ (by omega)
        rw [Nat.add_mul, Nat.one_mul] at this
        omega

theorem cB_append : ∀ x y u v : List UInt8, x.length = y.length → cB (x ++ u) (y ++ v) = or2 (cB x y) (cB u v)
  | [], [], u, v, _ => by
    have : cB [] [] = 0 := by simp [cB, Op.bytesLess]
    rw [this, or2_0]
    rfl
  | [], _ :: _, _, _, h => by simp at h
  | _ :: _, [], _, _, h => by simp at h
  | a :: x, b :: y, u, v, h => by
    have hl : x.length = y.length := by simpa using h
    have ih := cB_append x y u v hl
    by_cases e : a = b
    · subst e
      have e1 : ∀ p q, cB (a :: p) (a :: q) = cB p q := by
        intro p q
        unfold cB
        simp [Op.bytesLess]
      rw [List.cons_append, List.cons_append, e1, e1]
      exact ih
    · have hs := cB_split (a :: x) (b :: y) 0 (by simp) (by simp) (fun j hj => by omega) (by simpa using e)
      have hs2 := cB_split (a :: x ++ u) (b :: y ++ v) 0 (by simp) (by simp) (fun j hj => by omega) (by simpa using e)
      simp only [List.cons_append, List.getElem!_cons_zero] at hs hs2 ⊢
      rw [hs2, hs, or2_ne]
      split <;> omega

/-- the first n bytes -/
def LB (n : Nat) (x : Nat → UInt8) : List UInt8 := (List.range n).map x
theorem LB_len (n : Nat) (x : Nat → UInt8) : (LB n x).length = n := by simp [LB]
theorem LB_get (n : Nat) (x : Nat → UInt8) (i : Nat) (h : i < n) : (LB n x)[i]! = x i := by
  rw [getElem!_pos (LB n x) i (by rw [LB_len]; exact h)]
  simp [LB]

def nOf : Option Bool → Nat
  | none => 0
  | some false => 4
  | some true => 16

/-- zvrpCompare's answer -/
def zc (a b : Zv) : Int := or2 (cI a.1 b.1) (or2 (cI (ck (clsOf a.2.1)) (ck (clsOf b.2.1))) (or2 (cB (LB (nOf (clsOf a.2.1)) a.2.2.1) (LB (nOf (clsOf a.2.1)) b.2.2.1)) (or2 (cI (zb a) (zb b)) (or2 (cI a.2.2.2.2.1 b.2.2.2.2.1) (cS a.2.2.2.2.2 b.2.2.2.2.2)))))

theorem cC_ck (c d : Option Bool) : cC c d = cI (ck c) (ck d) := by
  rcases c with _ | _ | _ <;> rcases d with _ | _ | _ <;> rfl
theorem lo4_be (a b c d : UInt8) : lo4 a b c d = 281470681743360 + (Lib.beNat [a, b, c, d] : Nat) := by
  unfold lo4
  simp only [Lib.beNat, Lib.beFrom]
  omega

theorem bytes_cls (c : Option Bool) (x y : Nat → UInt8) (r : Int) : or2 (cB (LB (nOf c) x) (LB (nOf c) y)) r = or2 (cI (hiOf x c) (hiOf y c)) (or2 (cI (loOf x c) (loOf y c)) r) := by
  rcases c with _ | _ | _
  · rfl
  · show or2 (cB [x 0, x 1, x 2, x 3] [y 0, y 1, y 2, y 3]) r = or2 (cI 0 0) (or2 (cI (lo4 _ _ _ _) (lo4 _ _ _ _)) r)
    rw [cB_be _ _ (by simp), lo4_be, lo4_be, cI_shift]
    rfl
  · show or2 (cB ([x 0, x 1, x 2, x 3, x 4, x 5, x 6, x 7] ++ [x 8, x 9, x 10, x 11, x 12, x 13, x 14, x 15]) ([y 0, y 1, y 2, y 3, y 4, y 5, y 6, y 7] ++ [y 8, y 9, y 10, y 11, y 12, y 13, y 14, y 15])) r = _
    rw [cB_append _ _ _ _ (by simp), cB_be _ _ (by simp), cB_be _ _ (by simp), or2_assoc]
    rfl

theorem zc_cf (a b : Zv) : zc a b = cf (im a) (im b) := by
  unfold zc cf lex im
  simp only
  rw [cC_ck]
  by_cases h1 : cI a.1 b.1 = 0
  · rw [h1, or2_0, or2_0]
    by_cases h2 : cI (ck (clsOf a.2.1)) (ck (clsOf b.2.1)) = 0
    · rw [h2, or2_0, or2_0]
      have hk : clsOf a.2.1 = clsOf b.2.1 := by
        rw [← cC_ck] at h2
        exact (good_cC.eq0 _ _).1 h2
      rw [← hk, bytes_cls]
      congr 2
      unfold zb cU
      rw [cI_dec, hk]
    · rw [or2_ne h2, or2_ne h2]
  · rw [or2_ne h1, or2_ne h1]
end Go.Proofs.Qxb6616947aDoor
