/-
  The proof of the given statement; the frame is the kit's shell for this function, the walk is filled.
-/
import Derived.Test.Qxb6616760aRows
import Derived.Test.Qxb6616760aPat
import Derived.WalkKit
import Derived.ProofKit
import Derived.OpenShut
import Derived.ShutString
namespace Go.Proofs.Qxb6616760a.fnPatienceSlowRoundsCountAsEightShortest
open Go.ChangeShapes Go.WideShapes Go.ChangeAt Go.RowKit
open Go.ChangeMaps (open_string shut_string)
set_option linter.unusedVariables false      -- a walk need not use every 'w<i>' (that an integer argument fits its kind)

theorem own : ownKnob Try.prog.godebug = none := by kernel_rfl

/-! ### The walk: the Go text returns true; nothing that was there has turned. -/
theorem pat_cap (s x : Int) (hx : 0 ≤ x) : pat (8 * s + x) s = mx 10000000 (16 * s) := by
  have e : 2 * mn (8 * s + x) (8 * s) = 16 * s := by unfold mn; split <;> omega
  unfold pat; rw [e]

theorem cap0 (s : Int) (w : World) (h0 : 0 ≤ s) (h1 : s ≤ 288230376151711743) :
    Calls Try.prog 9 #[.int .i64 (8 * s), .int .i64 s] w fun e w' => e = .returned (.int .i64 (mx 10000000 (16 * s))) ∧ Grown w w' := by
  have e := pat_cap s 0 (by omega)
  rw [Int.add_zero] at e
  rw [← e]
  exact zzpatience_any _ _ _ h0 h1 (by omega)

theorem cap1 (s x : Int) (w : World) (h0 : 0 ≤ s) (h1 : s ≤ 288230376151711743) (hx : 0 ≤ x) :
    Calls Try.prog 9 #[.int .i64 (8 * s + x), .int .i64 s] w fun e w' => e = .returned (.int .i64 (mx 10000000 (16 * s))) ∧ Grown w w' := by
  rw [← pat_cap s x hx]
  exact zzpatience_any _ _ _ h0 h1 (by omega)

set_option maxHeartbeats 400000 in
theorem walk (a0 : Int) (a1 : Int) (w0 : (Lit.int .i64 a0).wf = true) (w1 : (Lit.int .i64 a1).wf = true) (w : World) :
    Calls Try.prog 3 #[.int .i64 a0, .int .i64 a1] w fun e w' => e = .returned (.bool true) ∧ Grown w w' := by
  by_cases c0 : a0 < 0
  · go_enter Try.func3, Try.ntmps3
    go_wp2
    go_ret
    exact ⟨rfl, Grown.refl _⟩
  by_cases c1 : 288230376151711743 < a0
  · go_enter Try.func3, Try.ntmps3
    go_wp2
    go_ret
    exact ⟨rfl, Grown.refl _⟩
  by_cases c2 : a1 < 0
  · go_enter Try.func3, Try.ntmps3
    go_wp2
    go_ret
    exact ⟨rfl, Grown.refl _⟩
  by_cases c3 : 2305843009213693951 < a1
  · go_enter Try.func3, Try.ntmps3
    go_wp2
    go_ret
    exact ⟨rfl, Grown.refl _⟩
  go_enter Try.func3, Try.ntmps3
  go_wp2_with fail
  refine (max_any _ _ _).mono ?_
  rintro e w' ⟨rfl, rfl⟩
  go_wp2_with fail
  refine (cap0 a0 _ (by omega) (by omega)).mono ?_
  rintro e w' ⟨rfl, hg1⟩
  go_wp2_with fail
  refine (cap1 a0 a1 _ (by omega) (by omega) (by omega)).mono ?_
  rintro e w'' ⟨rfl, hg2⟩
  go_wp2
  go_ret
  exact ⟨rfl, grown_trans hg1 hg2⟩

/-! ### The row's step -/
set_option maxRecDepth 100000 in
theorem lifted (os : Os) (started : os.Started) (H : Type) (enc : TypeId × Value → H) :
    ReturnsInHanded {} Try.checked os 3 .any (Rows.fnPatienceSlowRoundsCountAsEightShortestSpec.pre6 enc Try.prog Try.f3 Rows.fnPatienceSlowRoundsCountAsEightShortestRow.domain false) (Rows.fnPatienceSlowRoundsCountAsEightShortestSpec.post enc Try.prog Try.f3 false true false false) := by
  refine returnsInHanded_of_change (C := Try.checked) own started (by kernel_rfl) Try.func3
    (ChangeSpec.witness6 (enc := enc) (C := Try.checked) false ⟨#[], #[.int .i64 0, .int .i64 0], []⟩ 8 (by kernel_rfl) (by kernel_rfl) (by kernel_rfl) (by kernel_rfl)) ?_
  intro W base args ds gs before hval0 hW hcnd _
  have hval : ∀ (j : Nat) t v, Try.f3.params[j]? = some t → args[j]? = some v → Value.okWide Try.prog W .any base t v := hval0
  have hW' := hW
  obtain ⟨p, q, hA0, hV, rfl, hfz, hnd⟩ := hW
  have hA : DataW.TrodAll enc Try.prog W 0 (fun _ => true) true Try.f3.params.toList args.toList ds p := hA0
  rw [Try.params3] at hA hval
  obtain ⟨v0, vs0, d0, ds0, p0, q0, hargs, rfl, rfl, h0, r0⟩ := trodAll_cons hA
  obtain ⟨v1, vs1, d1, ds1, p1, q1, rfl, rfl, rfl, h1, r1⟩ := trodAll_cons r0
  obtain ⟨rfl, rfl, rfl⟩ := trodAll_nil r1
  obtain rfl : args = #[v0, v1] := by cases args; simp_all
  obtain ⟨rfl, rfl⟩ := trodVars_none hV
  obtain ⟨a0, rfl, rfl, rfl, w0⟩ := open_int Try.underlying2 (hval 0 2 v0 rfl rfl) h0
  obtain ⟨a1, rfl, rfl, rfl, w1⟩ := open_int Try.underlying2 (hval 1 2 v1 rfl rfl) h1
  clear hA0 hval0
  simp only [List.append_nil] at hW'
  refine (walk a0 a1 w0 w1 W).mono fun e W' ⟨he, hg⟩ => ?_
  subst he
  exact ⟨_, rfl, post_of_same (pa := []) (pv := []) hW' (fun _ _ _ => (trodAll_cons_mk (shut_bool Try.underlying4 _) trodAll_mk0)) (fun sp _ => (trodAll_cons_mk (shut_int Try.underlying2 w0) (trodAll_cons_mk (shut_int Try.underlying2 w1) trodAll_mk0))) (fun _ _ => rfl) rfl
    (hg.frame _) hg.2.1 (ok_one (by kernel_rfl) rfl (okWide_bool_mk Try.underlying4 _))⟩

theorem over : Rows.fnPatienceSlowRoundsCountAsEightShortestRow.holds Try.pinned (OpenSpec.ofChange Rows.fnPatienceSlowRoundsCountAsEightShortestSpec) :=
  OpenClaim.holds_of_wide 3 Try.f3 rfl rfl rfl rfl rfl rfl rfl ⟨rfl, rfl, rfl, rfl, rfl⟩ rfl rfl rfl rfl rfl (by kernel_rfl) Try.func3 (by kernel_rfl)
    (of_decide_eq_true (by kernel_rfl)) (by unfold Func.isWrapper; first | (rw [if_pos (by decide +kernel)]; kernel_rfl) | (rw [if_neg (by decide +kernel)]; exact ⟨rfl, rfl⟩))
    (fun os started H enc _ => lifted os started H enc)

/-- ████ THE STATEMENT ████ -/
theorem proved : Rows.FnPatienceSlowRoundsCountAsEightShortestSaid :=
  over
#print axioms proved
end Go.Proofs.Qxb6616760a.fnPatienceSlowRoundsCountAsEightShortest
