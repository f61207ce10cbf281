/-
  The plain mathematics of the sorted VRPs: the order, its laws, dropping repeats. Nothing of the program stands here.
-/
import GoSem.Op.String
import Derived.Laws.Strings
namespace Go.Proofs.Qxb6616947aDoor.Plain

def cI (x y : Int) : Int := if x < y then -1 else if y < x then 1 else 0
def cB (x y : List UInt8) : Int := if Op.bytesLess x y then -1 else if Op.bytesLess y x then 1 else 0
def cS (x y : ByteArray) : Int := cB x.toList y.toList
/-- the length in bits of an address of kind c (none, IPv4, IPv6) -/
def rk : Option Bool → Int
  | none => 0
  | some false => 32
  | some true => 128
def cC (x y : Option Bool) : Int := cI (rk x) (rk y)
def or2 (a b : Int) : Int := if a = 0 then b else a

structure Good {α : Type} (c : α → α → Int) : Prop where
  eq0 : ∀ x y, c x y = 0 ↔ x = y
  anti : ∀ x y, c y x = - c x y
  trans : ∀ x y z, c x y < 0 → c y z < 0 → c x z < 0

def lex {α β : Type} (c : α → α → Int) (d : β → β → Int) (p q : α × β) : Int := or2 (c p.1 q.1) (d p.2 q.2)

theorem Good.lex {α β : Type} {c : α → α → Int} {d : β → β → Int} (hc : Good c) (hd : Good d) : Good (lex c d) where
  eq0 := by
    intro x y
    unfold Plain.lex or2
    by_cases h : c x.1 y.1 = 0
    · rw [if_pos h, hd.eq0]
      have h' := (hc.eq0 _ _).1 h
      exact ⟨fun e => Prod.ext h' e, fun e => by rw [e]⟩
    · rw [if_neg h]
      exact ⟨fun e => absurd e h, fun e => absurd ((hc.eq0 _ _).2 (by rw [e])) h⟩
  anti := by
    intro x y
    unfold Plain.lex or2
    rw [hc.anti x.1 y.1, hd.anti x.2 y.2]
    by_cases h : c x.1 y.1 = 0
    · rw [if_pos h, if_pos (by omega)]
    · rw [if_neg h, if_neg (by omega)]
  trans := by
    intro x y z
    unfold Plain.lex or2
    by_cases h1 : c x.1 y.1 = 0
    · have e1 := (hc.eq0 _ _).1 h1
      rw [if_pos h1]
      by_cases h2 : c y.1 z.1 = 0
      · have e2 := (hc.eq0 _ _).1 h2
        rw [if_pos h2, e1, e2, if_pos ((hc.eq0 _ _).2 rfl)]
        exact hd.trans _ _ _
      · rw [if_neg h2, e1, if_neg h2]
        exact fun _ h => h
    · rw [if_neg h1]
      by_cases h2 : c y.1 z.1 = 0
      · have e2 := (hc.eq0 _ _).1 h2
        rw [if_pos h2, ← e2, if_neg h1]
        exact fun h _ => h
      · rw [if_neg h2]
        intro a b
        have := hc.trans _ _ _ a b
        rw [if_neg (by omega)]
        exact this

theorem cI_lt (x y : Int) : cI x y < 0 ↔ x < y := by
  unfold cI
  by_cases h1 : x < y
  · rw [if_pos h1]; omega
  · rw [if_neg h1]
    by_cases h2 : y < x
    · rw [if_pos h2]; omega
    · rw [if_neg h2]; omega

theorem good_cI : Good cI where
  eq0 := by
    intro x y
    unfold cI
    by_cases h1 : x < y
    · rw [if_pos h1]; constructor <;> intro h <;> omega
    · rw [if_neg h1]
      by_cases h2 : y < x
      · rw [if_pos h2]; constructor <;> intro h <;> omega
      · rw [if_neg h2]; constructor <;> intro h <;> omega
  anti := by intro x y; unfold cI; split <;> split <;> (try split) <;> (try split) <;> omega
  trans := by intro x y z; rw [cI_lt, cI_lt, cI_lt]; omega

theorem rk_inj {x y : Option Bool} (h : rk x = rk y) : x = y := by
  cases x with
  | none => cases y with
    | none => rfl
    | some b => cases b <;> simp [rk] at h
  | some a => cases y with
    | none => cases a <;> simp [rk] at h
    | some b => cases a <;> cases b <;> simp [rk] at h ⊢

theorem good_cC : Good cC where
  eq0 := by
    intro x y
    unfold cC
    rw [good_cI.eq0]
    exact ⟨rk_inj, fun e => by rw [e]⟩
  anti := fun x y => good_cI.anti _ _
  trans := fun x y z => good_cI.trans _ _ _

theorem bl_irrefl : ∀ x : List UInt8, Op.bytesLess x x = false
  | [] => rfl
  | a :: r => by simp [Op.bytesLess, bl_irrefl r]

theorem bl_trans : ∀ x y z : List UInt8, Op.bytesLess x y = true → Op.bytesLess y z = true → Op.bytesLess x z = true
  | _, [], z, h, _ => by simp [Op.bytesLess] at h
  | _, _ :: _, [], _, h => by simp [Op.bytesLess] at h
  | [], _ :: _, _ :: _, _, _ => rfl
  | a :: x, b :: y, c :: z, h1, h2 => by
    simp only [Op.bytesLess, Bool.or_eq_true, Bool.and_eq_true, decide_eq_true_eq, beq_iff_eq] at h1 h2 ⊢
    rcases h1 with h1 | ⟨rfl, h1⟩
    · rcases h2 with h2 | ⟨rfl, h2⟩
      · exact .inl (UInt8.lt_trans h1 h2)
      · exact .inl h1
    · rcases h2 with h2 | ⟨rfl, h2⟩
      · exact .inl h2
      · exact .inr ⟨rfl, bl_trans x y z h1 h2⟩

theorem bl_tri : ∀ x y : List UInt8, Op.bytesLess x y = false → Op.bytesLess y x = false → x = y
  | [], [], _, _ => rfl
  | [], _ :: _, h, _ => by simp [Op.bytesLess] at h
  | _ :: _, [], _, h => by simp [Op.bytesLess] at h
  | a :: x, b :: y, h1, h2 => by
    simp only [Op.bytesLess, Bool.or_eq_false_iff, Bool.and_eq_false_imp, decide_eq_false_iff_not, beq_iff_eq] at h1 h2
    have e : a = b := by
      have a1 := h1.1
      have a2 := h2.1
      rw [UInt8.lt_iff_toNat_lt] at a1 a2
      exact UInt8.toNat_inj.1 (by omega)
    subst e
    rw [bl_tri x y (h1.2 rfl) (h2.2 rfl)]

theorem good_cS : Good cS where
  eq0 := by
    intro x y
    unfold cS cB
    constructor
    · intro h
      cases h1 : Op.bytesLess x.toList y.toList with
      | true => rw [h1] at h; simp at h
      | false =>
        rw [h1] at h
        cases h2 : Op.bytesLess y.toList x.toList with
        | true => rw [h2] at h; simp at h
        | false =>
          have := bl_tri _ _ h1 h2
          rw [ByteArray.toList_eq, ByteArray.toList_eq] at this
          exact ByteArray.ext (Array.toList_inj.1 this)
    · intro e
      rw [e, bl_irrefl]
      simp
  anti := by
    intro x y
    unfold cS cB
    cases h1 : Op.bytesLess x.toList y.toList with
    | true =>
      cases h2 : Op.bytesLess y.toList x.toList with
      | true =>
        have := bl_trans _ _ _ h1 h2
        rw [bl_irrefl] at this
        cases this
      | false => simp
    | false => cases h2 : Op.bytesLess y.toList x.toList <;> simp
  trans := by
    intro x y z
    unfold cS cB
    cases h1 : Op.bytesLess x.toList y.toList with
    | false => simp; split <;> omega
    | true =>
      cases h2 : Op.bytesLess y.toList z.toList with
      | false => simp; split <;> omega
      | true => rw [bl_trans _ _ _ h1 h2]; simp

def cU (x y : UInt8) : Int := cI (x.toNat : Int) (y.toNat : Int)
theorem good_cU : Good cU where
  eq0 := by
    intro x y
    unfold cU
    rw [good_cI.eq0]
    exact ⟨fun e => UInt8.toNat_inj.1 (by omega), fun e => by rw [e]⟩
  anti := fun x y => good_cI.anti _ _
  trans := fun x y z => good_cI.trans _ _ _

/-- a VRP: AS number, kind of address, its high and low half, the prefix length and one, the greatest length, the trust anchor -/
abbrev V : Type := Int × Option Bool × Int × Int × UInt8 × Int × ByteArray

def cf : V → V → Int := lex cI (lex cC (lex cI (lex cI (lex cU (lex cI cS)))))
theorem good_cf : Good cf := good_cI.lex (good_cC.lex (good_cI.lex (good_cI.lex (good_cU.lex (good_cI.lex good_cS)))))

theorem cf_self (x : V) : cf x x = 0 := (good_cf.eq0 x x).2 rfl

/-- strictly ascending -/
def Asc (r : List V) : Prop := r.Pairwise (fun x y => cf x y < 0)

theorem asc_nodup : ∀ {r : List V}, Asc r → r.Nodup
  | [], _ => List.nodup_nil
  | x :: r, h => by
    obtain ⟨hx, hr⟩ := List.pairwise_cons.1 h
    refine List.nodup_cons.2 ⟨fun m => ?_, asc_nodup hr⟩
    have := hx x m
    rw [cf_self] at this
    omega

theorem asc_unique : ∀ r s : List V, Asc r → Asc s → (∀ x, x ∈ r ↔ x ∈ s) → r = s
  | [], [], _, _, _ => rfl
  | [], y :: s, _, _, h => by have := (h y).2 (List.mem_cons_self); simp at this
  | x :: r, [], _, _, h => by have := (h x).1 (List.mem_cons_self); simp at this
  | x :: r, y :: s, hr, hs, h => by
    obtain ⟨hx, hr'⟩ := List.pairwise_cons.1 hr
    obtain ⟨hy, hs'⟩ := List.pairwise_cons.1 hs
    have e : x = y := by
      have h1 := (h x).1 (List.mem_cons_self)
      have h2 := (h y).2 (List.mem_cons_self)
      rcases List.mem_cons.1 h1 with e | m1
      · exact e
      · rcases List.mem_cons.1 h2 with e | m2
        · exact e.symm
        · have a := hy x m1
          have b := hx y m2
          have := good_cf.anti x y
          omega
    subst e
    congr 1
    refine asc_unique r s hr' hs' (fun z => ?_)
    have hz := h z
    rw [List.mem_cons, List.mem_cons] at hz
    constructor
    · intro m
      rcases hz.1 (.inr m) with e | m'
      · subst e; have := hx z m; rw [cf_self] at this; omega
      · exact m'
    · intro m
      rcases hz.2 (.inr m) with e | m'
      · subst e; have := hy z m; rw [cf_self] at this; omega
      · exact m'

/-- what Compact has kept of the first m of d -/
def kp (d : Array V) : Nat → List V
  | 0 => []
  | 1 => [d[0]!]
  | m + 2 => if d[m + 1]! = d[m]! then kp d (m + 1) else kp d (m + 1) ++ [d[m + 1]!]

theorem kp_len_le (d : Array V) : ∀ m, (kp d m).length ≤ m
  | 0 => Nat.le_refl _
  | 1 => Nat.le_refl _
  | m + 2 => by
    have := kp_len_le d (m + 1)
    unfold kp
    split
    · omega
    · simp; omega

theorem kp_pos (d : Array V) : ∀ m, 0 < m → 0 < (kp d m).length
  | 0, h => by omega
  | 1, _ => by simp [kp]
  | m + 2, _ => by
    have := kp_pos d (m + 1) (by omega)
    unfold kp
    split
    · exact this
    · simp

theorem kp_mem (d : Array V) : ∀ m x, x ∈ kp d m ↔ ∃ i, i < m ∧ d[i]! = x
  | 0, x => by simp [kp]
  | 1, x => by
    simp only [kp, List.mem_singleton]
    constructor
    · intro e; exact ⟨0, by omega, e.symm⟩
    · rintro ⟨i, hi, e⟩
      obtain rfl : i = 0 := by omega
      exact e.symm
  | m + 2, x => by
    have ih := kp_mem d (m + 1) x
    unfold kp
    split
    · rename_i he
      rw [ih]
      constructor
      · rintro ⟨i, hi, e⟩; exact ⟨i, by omega, e⟩
      · rintro ⟨i, hi, e⟩
        by_cases h : i = m + 1
        · subst h; exact ⟨m, by omega, by rw [← he]; exact e⟩
        · exact ⟨i, by omega, e⟩
    · rw [List.mem_append, ih, List.mem_singleton]
      constructor
      · rintro (⟨i, hi, e⟩ | e)
        · exact ⟨i, by omega, e⟩
        · exact ⟨m + 1, by omega, e.symm⟩
      · rintro ⟨i, hi, e⟩
        by_cases h : i = m + 1
        · subst h; exact .inr e.symm
        · exact .inl ⟨i, by omega, e⟩

/-- not falling -/
def Mono (d : Array V) : Prop := ∀ i j, i < j → j < d.size → ¬ cf d[j]! d[i]! < 0

theorem mono_le {d : Array V} (h : Mono d) {i j : Nat} (hij : i ≤ j) (hj : j < d.size) : cf d[i]! d[j]! ≤ 0 := by
  by_cases e : i = j
  · subst e; rw [cf_self]; exact Int.le_refl _
  · have h1 := h i j (by omega) hj
    have h2 := good_cf.anti d[j]! d[i]!
    omega

theorem cf_le_lt {x y z : V} (h1 : cf x y ≤ 0) (h2 : cf y z < 0) : cf x z < 0 := by
  by_cases e : cf x y = 0
  · rw [(good_cf.eq0 _ _).1 e]; exact h2
  · exact good_cf.trans _ _ _ (by omega) h2

theorem kp_asc {d : Array V} (h : Mono d) : ∀ m, m ≤ d.size → Asc (kp d m)
  | 0, _ => List.Pairwise.nil
  | 1, _ => List.pairwise_singleton _ _
  | m + 2, hm => by
    have ih := kp_asc h (m + 1) (by omega)
    unfold kp
    split
    · exact ih
    · rename_i hne
      refine List.pairwise_append.2 ⟨ih, List.pairwise_singleton _ _, fun x hx y hy => ?_⟩
      rw [List.mem_singleton] at hy
      subst hy
      obtain ⟨i, hi, e⟩ := (kp_mem d (m + 1) x).1 hx
      have h1 := mono_le h (i := i) (j := m) (by omega) (by omega)
      rw [e] at h1
      have h2 := mono_le h (i := m) (j := m + 1) (by omega) (by omega)
      have h3 : cf d[m]! d[m + 1]! ≠ 0 := fun e0 => hne ((good_cf.eq0 _ _).1 e0).symm
      exact cf_le_lt h1 (by omega)

end Go.Proofs.Qxb6616947aDoor.Plain
