/-
  Contracts of parseShowDetails, ZZparseShowDetails, settlesOn and the bound on lengths.
-/
import Derived.Test.Qxb6617055aFmtFacts
import Derived.WalkKit
import Derived.ProofKit
import Derived.WalkSpells
import Derived.Below
namespace Go.Proofs.Qxb6617055aFmt
open Go.RowKit Go.Extern.Stop Go.Stop Go.Extern
set_option linter.unusedVariables false
attribute [local go_sem] call16 fguard fmt0r fmt0 op9_113w op23_113w ptr35 elem35 isError35

/-- is s one of the two words? -/
def isNever (s : ByteArray) : Bool := s.toList == [110, 101, 118, 101, 114]
def isAlways (s : ByteArray) : Bool := s.toList == [97, 108, 119, 97, 121, 115]

set_option maxHeartbeats 400000 in
theorem parse_bad (F : Interp) (s : ByteArray) (w : World) (hF : F.answers w.tape) (h1 : (s.toList == [110, 101, 118, 101, 114]) = false) (h2 : (s.toList == [97, 108, 119, 97, 121, 115]) = false) :
    Calls Tryf.prog 14 #[.string s] w fun e w' => (∃ a, e = .returned (.tuple #[.string ⟨#[]⟩, .iface 35 (.pointer (some a))])) ∧ Below w.heap.size w w' := by
  have hF' := answers_open hF
  go_enter Tryf.func14, Tryf.ntmps14
  go_wp2
  go_ret2
  exact ⟨⟨_, rfl⟩, (((Below.refl _ _).alloc (Nat.le_refl _) _).alloc (by simp) _).drew⟩

theorem parse_never (s : ByteArray) (w : World) (h1 : (s.toList == [110, 101, 118, 101, 114]) = true) :
    Calls Tryf.prog 14 #[.string s] w fun e w' => e = .returned (.tuple #[.string s, .nilIface]) ∧ w' = w := by
  go_enter Tryf.func14, Tryf.ntmps14
  go_wp2
  go_ret2
  exact ⟨rfl, rfl⟩

theorem parse_always (s : ByteArray) (w : World) (h1 : (s.toList == [110, 101, 118, 101, 114]) = false) (h2 : (s.toList == [97, 108, 119, 97, 121, 115]) = true) :
    Calls Tryf.prog 14 #[.string s] w fun e w' => e = .returned (.tuple #[.string s, .nilIface]) ∧ w' = w := by
  go_enter Tryf.func14, Tryf.ntmps14
  go_wp2
  go_ret2
  exact ⟨rfl, rfl⟩

/-- is s accepted? -/
def okB (s : ByteArray) : Bool := isNever s || isAlways s

theorem zz_ok (s : ByteArray) (w : World) (h : okB s = true) :
    Calls Tryf.prog 8 #[.string s] w fun e w' => e = .returned (.tuple #[.string s, .nilIface]) ∧ w' = w := by
  have hc : Calls Tryf.prog 14 #[.string s] w fun e w' => e = .returned (.tuple #[.string s, .nilIface]) ∧ w' = w := by
    cases h1 : isNever s with
    | true => exact parse_never s w h1
    | false =>
      have h2 : isAlways s = true := by unfold okB at h; rw [h1] at h; simpa using h
      exact parse_always s w h1 h2
  clear h
  go_enter Tryf.func8, Tryf.ntmps8
  go_wp2_with fail
  refine hc.mono ?_
  rintro e w' ⟨rfl, rfl⟩
  go_wp2
  go_ret2
  exact ⟨rfl, rfl⟩

theorem zz_bad (F : Interp) (s : ByteArray) (w : World) (hF : F.answers w.tape) (h : okB s = false) :
    Calls Tryf.prog 8 #[.string s] w fun e w' => (∃ a, e = .returned (.tuple #[.string ⟨#[]⟩, .iface 35 (.pointer (some a))])) ∧ Below w.heap.size w w' := by
  have hc := parse_bad F s w hF (by unfold okB at h; simp at h; exact h.1) (by unfold okB at h; simp at h; exact h.2)
  clear h
  go_enter Tryf.func8, Tryf.ntmps8
  go_wp2_with fail
  refine hc.mono ?_
  rintro e w' ⟨⟨a, rfl⟩, hb⟩
  go_wp2
  go_ret2
  exact ⟨⟨a, rfl⟩, hb⟩

theorem settles_bad (s : ByteArray) (w : World) :
    Calls Tryf.prog 13 #[.string s, .string ⟨#[]⟩, .bool true] w fun e w' => e = .returned (.bool true) ∧ w' = w := by
  go_enter Tryf.func13, Tryf.ntmps13
  go_wp2
  go_ret
  exact ⟨rfl, rfl⟩

theorem settles_ok (s : ByteArray) (w : World) :
    Calls Tryf.prog 13 #[.string s, .string s, .bool false] w fun e w' => e = .returned (.bool true) ∧ w' = w := by
  go_enter Tryf.func13, Tryf.ntmps13
  go_wp2
  go_ret
  exact ⟨by simp, rfl⟩

set_option maxHeartbeats 400000 in
theorem bytes12 (a b : ByteArray) (w : World) (h0 : a.size ≤ 9223372036854775807) (h1 : b.size ≤ 9223372036854775807) :
    Calls Tryf.prog 12 #[.string a, .string b] w fun e w' => ∃ b, e = .returned (.bool b) ∧ w' = w := by
  by_cases g0 : 1048576 < a.size
  · go_enter Tryf.func12, Tryf.ntmps12
    go_wp2
    go_ret
    exact ⟨_, rfl, rfl⟩
  by_cases g1 : 1048576 < b.size
  · go_enter Tryf.func12, Tryf.ntmps12
    go_wp2
    go_ret
    exact ⟨_, rfl, rfl⟩
  by_cases g2 : 1048576 < a.size + b.size
  all_goals
    go_enter Tryf.func12, Tryf.ntmps12
    go_wp2
    go_ret
    exact ⟨_, rfl, rfl⟩
end Go.Proofs.Qxb6617055aFmt
