/-
  zvrpSizeOK and the two bounds laid by program: each answers some bool and turns nothing.
-/
import Derived.Test.Qxb6616947aDoorClone
namespace Go.Proofs.Qxb6616947aDoor
open Go.RowKit Go.Sort Go.Shelf Plain
set_option linter.unusedVariables false

/-- the slice that came in: no element, or a row of plain VRPs -/
def InZ (w : World) (p : Option Addr) (zs : Array Zv) : Prop := zs.size = 0 ∨ ∃ bv ov, p = some ⟨bv, ov, none⟩ ∧ bv < w.heap.size ∧ HoldsK encZ 21 w bv ov zs

theorem InZ.gb {w w' : World} {p : Option Addr} {zs : Array Zv} (h : InZ w p zs) (hb : GB w w') : InZ w' p zs := by
  rcases h with h | ⟨bv, ov, hp, hbv, hH⟩
  · exact .inl h
  · refine .inr ⟨bv, ov, hp, Nat.lt_of_lt_of_le hbv hb.1.size, fun k hk => ?_⟩
    have e : w'.heap[bv]? = w.heap[bv]? := hb.1.block bv hbv
    rw [World.cell?_of_block (w := w) e, World.frozen?_of_block (w := w) e]
    exact hH k hk

theorem InZ.ta {w : World} {p : Option Addr} {zs : Array Zv} (h : InZ w p zs) {i : Nat} (hi : i < zs.size) : ∃ bv ov, p = some ⟨bv, ov, none⟩ ∧ ∃ t, w.cell? ⟨bv, ov + i * 21 + 20, none⟩ = some (.string t) := by
  rcases h with h | ⟨bv, ov, hp, hbv, hH⟩
  · omega
  · exact ⟨bv, ov, hp, _, (hH.cell hi (c := 20) (by omega)).1⟩

set_option maxHeartbeats 4000000 in
/-- zvrpSizeOK -/
theorem sizeOK_any (p : Option Addr) (c : Nat) (zs : Array Zv) (w : World) (hn : zs.size ≤ 4096) (hR : InZ w p zs) :
    Calls Tryd.prog 6 #[.slice p zs.size c] w fun e w' => ∃ b, e = .returned (.bool b) ∧ w' = w := by
  have HR : Hid (InZ w p zs) := hR
  clear hR
  go_enter Tryd.func6, Tryd.ntmps6
  go_wp2
  go_loopg [3, 4, 7] zs.size (fun g s3 s4 s7 wr => ∃ (i : Nat) (x : Int), i ≤ zs.size ∧ zs.size - i ≤ g ∧ s3 = .int .i64 x ∧ s7 = .int .i64 i ∧ wr = w)
  case atStart => exact ⟨0, 0, by omega, by omega, rfl, rfl, rfl⟩
  case round =>
    obtain ⟨i, x, hi, hg, rfl, rfl, rfl⟩ := hrel
    by_cases hlt : i < zs.size
    · obtain ⟨bv, ov, rfl, t, ht⟩ := HR.out.ta hlt
      go_wp2
      all_goals first
        | (go_ret; exact ⟨_, rfl, rfl⟩)
        | (go_roundg (zs.size - (i + 1)); (case measure => omega); (case rel => exact ⟨i + 1, _, by omega, Nat.le_refl _, rfl, by go_num, rfl⟩))
    · go_wp2
      go_ret
      exact ⟨_, rfl, rfl⟩

set_option maxHeartbeats 4000000 in
theorem bytesA_any (p : Option Addr) (c : Nat) (zs : Array Zv) (w : World) (hn : zs.size < 9223372036854775808) (hR : InZ w p zs) :
    Calls Tryd.prog 5 #[.slice p zs.size c] w fun e w' => ∃ b, e = .returned (.bool b) ∧ w' = w := by
  have HR : Hid (InZ w p zs) := hR
  clear hR
  go_enter Tryd.func5, Tryd.ntmps5
  go_wp2
  all_goals first
    | (go_ret; exact ⟨_, rfl, rfl⟩)
    | skip
  go_loopg [3, 4] zs.size (fun g s3 s4 wr => ∃ (i : Nat) (x : Int), i ≤ zs.size ∧ zs.size - i ≤ g ∧ s3 = .int .i64 x ∧ s4 = .int .i64 i ∧ wr = w)
  case atStart => exact ⟨0, _, by omega, by omega, rfl, rfl, rfl⟩
  case round =>
    obtain ⟨i, x, hi, hg, rfl, rfl, rfl⟩ := hrel
    by_cases hlt : i < zs.size
    · obtain ⟨bv, ov, rfl, t, ht⟩ := HR.out.ta hlt
      go_wp2
      all_goals first
        | (go_ret; exact ⟨_, rfl, rfl⟩)
        | (go_roundg (zs.size - (i + 1)); (case measure => omega); (case rel => exact ⟨i + 1, _, by omega, Nat.le_refl _, rfl, by go_num, rfl⟩))
    · go_wp2
      go_ret
      exact ⟨_, rfl, rfl⟩

set_option maxHeartbeats 4000000 in
theorem bytesB_any (p : Option Addr) (c : Nat) (k : Int) (zs : Array Zv) (w : World) (hn : zs.size < 9223372036854775808) (hR : InZ w p zs) :
    Calls Tryd.prog 11 #[.slice p zs.size c, .int .i64 k] w fun e w' => ∃ b, e = .returned (.bool b) ∧ w' = w := by
  have HR : Hid (InZ w p zs) := hR
  clear hR
  go_enter Tryd.func11, Tryd.ntmps11
  go_wp2
  all_goals first
    | (go_ret; exact ⟨_, rfl, rfl⟩)
    | skip
  go_loopg [5, 6] zs.size (fun g s5 s6 wr => ∃ (i : Nat) (x : Int), i ≤ zs.size ∧ zs.size - i ≤ g ∧ s5 = .int .i64 x ∧ s6 = .int .i64 i ∧ wr = w)
  case atStart => exact ⟨0, _, by omega, by omega, rfl, rfl, rfl⟩
  case round =>
    obtain ⟨i, x, hi, hg, rfl, rfl, rfl⟩ := hrel
    by_cases hlt : i < zs.size
    · obtain ⟨bv, ov, rfl, t, ht⟩ := HR.out.ta hlt
      go_wp2
      all_goals first
        | (go_ret; exact ⟨_, rfl, rfl⟩)
        | (go_roundg (zs.size - (i + 1)); (case measure => omega); (case rel => exact ⟨i + 1, _, by omega, Nat.le_refl _, rfl, by go_num, rfl⟩))
    · go_wp2
      go_ret
      exact ⟨_, rfl, rfl⟩
end Go.Proofs.Qxb6616947aDoor
