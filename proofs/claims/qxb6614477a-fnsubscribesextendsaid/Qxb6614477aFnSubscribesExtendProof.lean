/-
  THE PROOF OF 'Rows.FnSubscribesExtendSaid'. The frame ('lifted', 'over') is the given shell's.
-/
import Derived.Test.Qxb6614477aRows
import Derived.WalkKit
import Derived.ProofKit
import Derived.OpenShut
import Derived.ShutString
import Derived.Deep.RegionWith
import Derived.Test.Qxb6614477aBase
namespace Go.Proofs.Qxb6614477a.fnSubscribesExtend
open Go.ChangeShapes Go.WideShapes Go.ChangeAt Go.RowKit
open Go.ChangeMaps (open_string shut_string)
set_option linter.unusedVariables false      -- a walk need not use every 'w<i>' (that an integer argument fits its kind)

theorem own : ownKnob Try.prog.godebug = none := by kernel_rfl

/-! ### THE PLAIN LAWS on beginnings -/
theorem pre_own (p x : ByteArray) : Lib.hasPrefix (p ++ x).data.toList p.data.toList = true := by
  unfold Lib.hasPrefix
  rw [List.isPrefixOf_iff_prefix]
  simp [ByteArray.data_append]
theorem pre_short (p : ByteArray) (n : Nat) (h : n < p.size) : Lib.hasPrefix (p.extract 0 n).data.toList p.data.toList = false := by
  unfold Lib.hasPrefix
  rw [Bool.eq_false_iff]
  intro hp
  have hl := (List.isPrefixOf_iff_prefix.1 hp).length_le
  rw [Lib.extract_data] at hl
  rw [Lib.size_eq] at h
  simp at hl
  simp at h
  omega
theorem pre_more (p t x : ByteArray) (h : Lib.hasPrefix t.data.toList p.data.toList = true) : Lib.hasPrefix (t ++ x).data.toList p.data.toList = true := by
  unfold Lib.hasPrefix at *
  rw [List.isPrefixOf_iff_prefix] at *
  simp only [ByteArray.data_append, Array.toList_append]
  exact h.trans (List.prefix_append _ _)
theorem pre_same (p t x : ByteArray) (hl : p.size ≤ t.size) (h : Lib.hasPrefix t.data.toList p.data.toList = false) : Lib.hasPrefix (t ++ x).data.toList p.data.toList = false := by
  unfold Lib.hasPrefix at *
  rw [Bool.eq_false_iff] at *
  intro hp
  apply h
  rw [List.isPrefixOf_iff_prefix] at *
  simp only [ByteArray.data_append, Array.toList_append] at hp
  exact List.prefix_of_prefix_length_le hp (List.prefix_append _ _) (by rw [Lib.size_eq, Lib.size_eq] at hl; exact hl)

/-- Subscribes, its answer known. -/
theorem sub_is (b : Nat) (p s : ByteArray) (r : Bool) (w : World) (hc : w.cell? ⟨b, 0, none⟩ = some (.string p)) (hs : s.size ≤ maxLen) (hp : p.size ≤ maxLen) (hr : Lib.hasPrefix s.data.toList p.data.toList = r) :
    Calls Try.prog 20 #[.pointer (some ⟨b, 0, none⟩), .string s] w fun e w' => e = .returned (.bool r) ∧ w = w' := by
  subst hr
  exact subscribes_any b p s w hc hs hp

theorem fb_cell (w : World) (p h : ByteArray) (v : Value) : (w.alloc (.cells (fbBlock p h v) 52)).cell? ⟨w.heap.size, 0, none⟩ = some (.string p) := by
  simp [fbBlock, go_sem]

set_option maxHeartbeats 400000 in
theorem walk (a0 : ByteArray) (a1 : ByteArray) (a2 : ByteArray) (w0 : a0.size ≤ maxLen) (w1 : a1.size ≤ maxLen) (w2 : a2.size ≤ maxLen) (w : World) :
    Calls Try.prog 7 #[.string a0, .string a1, .string a2] w fun e w' => e = .returned (.bool true) ∧ Grown w w' := by
  by_cases hsum : 1048576 < a0.size + a1.size + a2.size
  · go_enter Try.func7, Try.ntmps7
    go_wp2_with (go_at_call 24; refine (bytesExt_no _ _ _ _ w0 w1 w2 hsum).mono ?_; rintro e w' ⟨rfl, rfl⟩)
    go_ret
    exact ⟨rfl, Grown.refl _⟩
  have hle : a0.size + a1.size + a2.size ≤ 1048576 := by omega
  have z0 : (a0 ++ a2).size ≤ maxLen := by rw [ByteArray.size_append]; unfold maxLen; omega
  have z1 : (a1 ++ a2).size ≤ maxLen := by rw [ByteArray.size_append]; unfold maxLen; omega
  have z2 : ∀ n, (a0.extract 0 n).size ≤ maxLen := by intro n; simp [ByteArray.size_extract]; omega
  clear hsum
  have hAB := hide (pre_more a0 a1 a2)
  have hAs := hide (pre_same a0 a1 a2)
  generalize hA : Lib.hasPrefix a1.data.toList a0.data.toList = A at hAB hAs
  generalize hB : Lib.hasPrefix (a1 ++ a2).data.toList a0.data.toList = B at hAB hAs
  have HA := hide hA
  have HB := hide hB
  clear hA hB
  have pick : (A = true ∧ B = true) ∨ (A = false ∧ B = false) ∨ (A = false ∧ B = true ∧ ¬ (a0.size : Int) ≤ (a1.size : Int)) := by
    have h1 := hAB.out
    have h2 := hAs.out
    cases A <;> cases B <;> simp at h1 h2 ⊢ <;> omega
  clear hAB hAs
  rcases pick with ⟨rfl, rfl⟩ | ⟨rfl, rfl⟩ | ⟨rfl, rfl, h1⟩ <;> by_cases h0 : (0 : Int) < (a0.size : Int)
  all_goals
    go_enter Try.func7, Try.ntmps7
    go_wp2_with (first | (go_at_call 24; refine (bytesExt_yes _ _ _ _ hle).mono ?_; rintro e w' ⟨rfl, rfl⟩) | (go_at_call 9; refine (addString_ok _ _ _ (by omega) (by omega) (by omega)).mono ?_; rintro e w' ⟨rfl, rfl⟩) | (go_at_call 17; refine (newFallback_any _ _ _ _ _ _).mono ?_; rintro e w' ⟨rfl, rfl⟩) | (go_at_call_of 20 (Value.string (a0 ++ a2)); refine (sub_is _ a0 _ true _ (fb_cell _ _ _ _) z0 w0 (pre_own a0 a2)).mono ?_; rintro e w' ⟨rfl, rfl⟩) | (go_at_call_of 20 (Value.string a1); refine (sub_is _ a0 _ _ _ (fb_cell _ _ _ _) w1 w0 HA.out).mono ?_; rintro e w' ⟨rfl, rfl⟩) | (go_at_call_of 20 (Value.string (a1 ++ a2)); refine (sub_is _ a0 _ _ _ (fb_cell _ _ _ _) z1 w0 HB.out).mono ?_; rintro e w' ⟨rfl, rfl⟩) | (go_at_call 20; refine (sub_is _ a0 _ false _ (fb_cell _ _ _ _) (z2 _) w0 (pre_short a0 _ (by omega))).mono ?_; rintro e w' ⟨rfl, rfl⟩))
    all_goals (go_ret; exact ⟨rfl, (Grown.refl _).alloc _ _⟩)

/-! ### THE ROW's STEP: WRITTEN OUT: LEAVE IT -/
set_option maxRecDepth 100000 in
theorem lifted (os : Os) (started : os.Started) (H : Type) (enc : TypeId × Value → H) :
    ReturnsInHanded {} Try.checked os 7 .any (Rows.fnSubscribesExtendSpec.pre6 enc Try.prog Try.f7 Rows.fnSubscribesExtendRow.domain false) (Rows.fnSubscribesExtendSpec.post enc Try.prog Try.f7 false true false false) := by
  refine returnsInHanded_of_change (C := Try.checked) own started (by kernel_rfl) Try.func7
    (ChangeSpec.witness6 (enc := enc) (C := Try.checked) false ⟨#[], #[.string ByteArray.empty, .string ByteArray.empty, .string ByteArray.empty], []⟩ 8 (by kernel_rfl) (by kernel_rfl) (by kernel_rfl) (by kernel_rfl)) ?_
  intro W base args ds gs before hval0 hW hcnd _
  have hval : ∀ (j : Nat) t v, Try.f7.params[j]? = some t → args[j]? = some v → Value.okWide Try.prog W .any base t v := hval0
  have hW' := hW
  obtain ⟨p, q, hA0, hV, rfl, hfz, hnd⟩ := hW
  have hA : DataW.TrodAll enc Try.prog W 0 (fun _ => true) true Try.f7.params.toList args.toList ds p := hA0
  rw [Try.params7] at hA hval
  obtain ⟨v0, vs0, d0, ds0, p0, q0, hargs, rfl, rfl, h0, r0⟩ := trodAll_cons hA
  obtain ⟨v1, vs1, d1, ds1, p1, q1, rfl, rfl, rfl, h1, r1⟩ := trodAll_cons r0
  obtain ⟨v2, vs2, d2, ds2, p2, q2, rfl, rfl, rfl, h2, r2⟩ := trodAll_cons r1
  obtain ⟨rfl, rfl, rfl⟩ := trodAll_nil r2
  obtain rfl : args = #[v0, v1, v2] := by cases args; simp_all
  obtain ⟨rfl, rfl⟩ := trodVars_none hV
  obtain ⟨a0, rfl, rfl, rfl, w0⟩ := open_string Try.underlying9 (hval 0 9 v0 rfl rfl) h0
  obtain ⟨a1, rfl, rfl, rfl, w1⟩ := open_string Try.underlying9 (hval 1 9 v1 rfl rfl) h1
  obtain ⟨a2, rfl, rfl, rfl, w2⟩ := open_string Try.underlying9 (hval 2 9 v2 rfl rfl) h2
  clear hA0 hval0
  simp only [List.append_nil] at hW'
  refine (walk a0 a1 a2 w0 w1 w2 W).mono fun e W' ⟨he, hg⟩ => ?_
  subst he
  exact ⟨_, rfl, post_of_same (pa := []) (pv := []) hW' (fun _ _ _ => (trodAll_cons_mk (shut_bool Try.underlying4 _) trodAll_mk0)) (fun sp _ => (trodAll_cons_mk (shut_string Try.underlying9 w0) (trodAll_cons_mk (shut_string Try.underlying9 w1) (trodAll_cons_mk (shut_string Try.underlying9 w2) trodAll_mk0)))) (fun _ _ => rfl) rfl
    (hg.frame _) hg.2.1 (ok_one (by kernel_rfl) rfl (okWide_bool_mk Try.underlying4 _))⟩

theorem over : Rows.fnSubscribesExtendRow.holds Try.pinned (OpenSpec.ofChange Rows.fnSubscribesExtendSpec) :=
  OpenClaim.holds_of_wide 7 Try.f7 rfl rfl rfl rfl rfl rfl rfl ⟨rfl, rfl, rfl, rfl, rfl⟩ rfl rfl rfl rfl rfl (by kernel_rfl) Try.func7 (by kernel_rfl)
    (of_decide_eq_true (by kernel_rfl)) (by unfold Func.isWrapper; first | (rw [if_pos (by decide +kernel)]; kernel_rfl) | (rw [if_neg (by decide +kernel)]; exact ⟨rfl, rfl⟩))
    (fun os started H enc _ => lifted os started H enc)

/-- ████ THE STATEMENT ████ -/
theorem proved : Rows.FnSubscribesExtendSaid :=
  over
end Go.Proofs.Qxb6614477a.fnSubscribesExtend
