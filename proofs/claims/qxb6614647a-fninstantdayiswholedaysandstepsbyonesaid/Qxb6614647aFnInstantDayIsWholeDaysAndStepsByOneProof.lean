/-
  THE PROOF OF 'Rows.FnInstantDayIsWholeDaysAndStepsByOneSaid'. The frame ('lifted', 'over') is the given shell's.
-/
import Derived.Test.Qxb6614647aRows
import Derived.WalkKit
import Derived.ProofKit
import Derived.OpenShut
import Derived.ShutString
import Derived.WalkSpells
import Derived.WalkLawsBesides
namespace Go.Proofs.Qxb6614647a.fnInstantDayIsWholeDaysAndStepsByOne
open Go.ChangeShapes Go.WideShapes Go.ChangeAt Go.RowKit
open Go.ChangeMaps (open_string shut_string)
set_option linter.unusedVariables false      -- a walk need not use every 'w<i>' (that an integer argument fits its kind)

theorem own : ownKnob Try.prog.godebug = none := by kernel_rfl

theorem newInstant (n : Int) (w : World) :
    Calls Try.prog 7 #[.int .u32 n] w fun e w' => e = .returned (.agg #[.int .u32 n]) ∧ ∃ c : Array Value, w' = w.alloc (.cells c 28) := by
  go_enter Try.func7, Try.ntmps7
  go_wp2
  exact bodyPost_ret (v := .agg #[.int .u32 n]) (by simp [results, Try.results7, go_sem]) rfl ⟨rfl, _, rfl⟩
theorem dateDays (n : Int) (w : World) :
    Calls Try.prog 5 #[.agg #[.int .i32 n]] w fun e w' => e = .returned (.int .i32 n) ∧ ∃ c : Array Value, w' = w.alloc (.cells c 25) := by
  go_enter Try.func5, Try.ntmps5
  go_wp2
  go_ret
  exact ⟨rfl, _, rfl⟩
theorem day (n : Int) (h0 : 0 ≤ n) (h1 : n ≤ 4294967295) (w : World) :
    Calls Try.prog 11 #[.agg #[.int .u32 n]] w fun e w' => e = .returned (.agg #[.int .i32 (n / 86400)]) ∧ ∃ c d : Array Value, w' = (w.alloc (.cells c 28)).alloc (.cells d 25) := by
  go_enter Try.func11, Try.ntmps11
  go_wp2
  exact bodyPost_ret (v := .agg #[.int .i32 (n / 86400)]) (by simp [results, Try.results11, go_sem]) rfl ⟨rfl, _, _, rfl⟩
theorem instantDay (n : Int) (h0 : 0 ≤ n) (h1 : n ≤ 4294967295) (w : World) :
    Calls Try.prog 6 #[.agg #[.int .u32 n]] w fun e w' => e = .returned (.agg #[.int .i32 (n / 86400)]) ∧ ∃ c1 c2 c3 c4 : Array Value, w' = (((w.alloc (.cells c1 28)).alloc (.cells c2 25)).alloc (.cells c3 28)).alloc (.cells c4 25) := by
  go_enter Try.func6, Try.ntmps6
  go_wp2_with (go_at_call 11; refine (day n h0 h1 _).mono ?_; rintro e w' ⟨rfl, c, d, rfl⟩)
  refine bodyPost_ret (v := .agg #[.int .i32 (n / 86400)]) (by simp [results, Try.results6, go_sem]) rfl ⟨rfl, ?_⟩
  exact ⟨_, _, _, _, rfl⟩
theorem lo (n : Int) : n / 86400 * 86400 ≤ n := by omega
theorem hi (n : Int) : n < n / 86400 * 86400 + 86400 := by omega
theorem step (n : Int) : (n + 86400) / 86400 = n / 86400 + 1 := by omega
theorem walk (a0 : Int) (w0 : (Lit.int .u32 a0).wf = true) (w : World) :
    Calls Try.prog 3 #[.int .u32 a0] w fun e w' => e = .returned (.bool true) ∧ Grown w w' := by
  obtain ⟨h0, h1⟩ := bounds_u32 w0
  have l1 := lo a0
  have l2 := hi a0
  have l3 := step a0
  by_cases h : a0 ≤ 4294880895
  · go_enter Try.func3, Try.ntmps3
    go_wp2_with (first | (go_at_call 7; refine (newInstant _ _).mono ?_; rintro e w' ⟨rfl, c, rfl⟩) | (go_at_call 6; refine (instantDay _ (by omega) (by omega) _).mono ?_; rintro e w' ⟨rfl, c1, c2, c3, c4, rfl⟩) | (go_at_call 5; refine (dateDays _ _).mono ?_; rintro e w' ⟨rfl, c, rfl⟩))
    go_ret
    exact ⟨rfl, by repeat (first | exact Grown.refl _ | apply Grown.alloc)⟩
  · go_enter Try.func3, Try.ntmps3
    go_wp2_with (first | (go_at_call 7; refine (newInstant _ _).mono ?_; rintro e w' ⟨rfl, c, rfl⟩) | (go_at_call 6; refine (instantDay _ (by omega) (by omega) _).mono ?_; rintro e w' ⟨rfl, c1, c2, c3, c4, rfl⟩) | (go_at_call 5; refine (dateDays _ _).mono ?_; rintro e w' ⟨rfl, c, rfl⟩))
    go_ret
    exact ⟨rfl, by repeat (first | exact Grown.refl _ | apply Grown.alloc)⟩

/-! ### THE ROW's STEP: WRITTEN OUT: LEAVE IT -/
set_option maxRecDepth 100000 in
theorem lifted (os : Os) (started : os.Started) (H : Type) (enc : TypeId × Value → H) :
    ReturnsInHanded {} Try.checked os 3 .any (Rows.fnInstantDayIsWholeDaysAndStepsByOneSpec.pre6 enc Try.prog Try.f3 Rows.fnInstantDayIsWholeDaysAndStepsByOneRow.domain false) (Rows.fnInstantDayIsWholeDaysAndStepsByOneSpec.post enc Try.prog Try.f3 false true false false) := by
  refine returnsInHanded_of_change (C := Try.checked) own started (by kernel_rfl) Try.func3
    (ChangeSpec.witness6 (enc := enc) (C := Try.checked) false ⟨#[], #[.int .u32 0], []⟩ 8 (by kernel_rfl) (by kernel_rfl) (by kernel_rfl) (by kernel_rfl)) ?_
  intro W base args ds gs before hval0 hW hcnd _
  have hval : ∀ (j : Nat) t v, Try.f3.params[j]? = some t → args[j]? = some v → Value.okWide Try.prog W .any base t v := hval0
  have hW' := hW
  obtain ⟨p, q, hA0, hV, rfl, hfz, hnd⟩ := hW
  have hA : DataW.TrodAll enc Try.prog W 0 (fun _ => true) true Try.f3.params.toList args.toList ds p := hA0
  rw [Try.params3] at hA hval
  obtain ⟨v0, vs0, d0, ds0, p0, q0, hargs, rfl, rfl, h0, r0⟩ := trodAll_cons hA
  obtain ⟨rfl, rfl, rfl⟩ := trodAll_nil r0
  obtain rfl : args = #[v0] := by cases args; simp_all
  obtain ⟨rfl, rfl⟩ := trodVars_none hV
  obtain ⟨a0, rfl, rfl, rfl, w0⟩ := open_int Try.underlying22 (hval 0 22 v0 rfl rfl) h0
  clear hA0 hval0
  simp only [List.append_nil] at hW'
  refine (walk a0 w0 W).mono fun e W' ⟨he, hg⟩ => ?_
  subst he
  exact ⟨_, rfl, post_of_same (pa := []) (pv := []) hW' (fun _ _ _ => (trodAll_cons_mk (shut_bool Try.underlying4 _) trodAll_mk0)) (fun sp _ => (trodAll_cons_mk (shut_int Try.underlying22 w0) trodAll_mk0)) (fun _ _ => rfl) rfl
    (hg.frame _) hg.2.1 (ok_one (by kernel_rfl) rfl (okWide_bool_mk Try.underlying4 _))⟩

theorem over : Rows.fnInstantDayIsWholeDaysAndStepsByOneRow.holds Try.pinned (OpenSpec.ofChange Rows.fnInstantDayIsWholeDaysAndStepsByOneSpec) :=
  OpenClaim.holds_of_wide 3 Try.f3 rfl rfl rfl rfl rfl rfl rfl ⟨rfl, rfl, rfl, rfl, rfl⟩ rfl rfl rfl rfl rfl (by kernel_rfl) Try.func3 (by kernel_rfl)
    (of_decide_eq_true (by kernel_rfl)) (by unfold Func.isWrapper; first | (rw [if_pos (by decide +kernel)]; kernel_rfl) | (rw [if_neg (by decide +kernel)]; exact ⟨rfl, rfl⟩))
    (fun os started H enc _ => lifted os started H enc)

/-- ████ THE STATEMENT ████ -/
theorem proved : Rows.FnInstantDayIsWholeDaysAndStepsByOneSaid :=
  over
end Go.Proofs.Qxb6614647a.fnInstantDayIsWholeDaysAndStepsByOne
