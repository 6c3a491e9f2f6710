/-
  THE PROOF OF 'Rows.FnRouteFallbackSubscribesSaid'. The frame ('lifted', 'over') is the given shell's.
-/
import Derived.Test.Qxb6614477aRows
import Derived.WalkKit
import Derived.ProofKit
import Derived.OpenShut
import Derived.ShutString
import Derived.Test.Qxb6614477aBase
import Derived.Lib.Builder
namespace Go.Proofs.Qxb6614477a.fnRouteFallbackSubscribes
open Go.ChangeShapes Go.WideShapes Go.ChangeAt Go.RowKit
open Go.ChangeMaps (open_string shut_string)
set_option linter.unusedVariables false      -- a walk need not use every 'w<i>' (that an integer argument fits its kind)

theorem own : ownKnob Try.prog.godebug = none := by kernel_rfl

/-- The block of a new Route. -/
def rtBlock (a b : ByteArray) (f : Value) : Array Value := #[.string a, .string b, .pointer none, .int .i64 0, .string { data := #[] }, .string { data := #[] }, .slice none 0 0, .pointer none, f, .string { data := #[] }, .string { data := #[] }]
theorem newRoute_any (a b : ByteArray) (f : Option Addr) (w : World) :
    Calls Try.prog 18 #[.string a, .string b, .pointer f] w fun e w' => e = .returned (.pointer (some ⟨w.heap.size, 0, none⟩)) ∧ w' = w.alloc (.cells (rtBlock a b (.pointer f)) 61) := by
  go_enter Try.func18, Try.ntmps18
  go_wp2
  go_ret
  exact ⟨rfl, rfl⟩
theorem rt_cell (w : World) (a b : ByteArray) (f : Value) : (w.alloc (.cells (rtBlock a b f) 61)).cell? ⟨w.heap.size, 8, none⟩ = some f := by
  simp [rtBlock, go_sem]
theorem fallback_any (b : Nat) (f : Option Addr) (w : World) (hc : w.cell? ⟨b, 8, none⟩ = some (.pointer f)) :
    Calls Try.prog 19 #[.pointer (some ⟨b, 0, none⟩)] w fun e w' => e = .returned (.pointer f) ∧ w = w' := by
  go_enter Try.func19, Try.ntmps19
  go_wp2
  go_ret
  exact ⟨rfl, rfl⟩
/-- Subscribes, its answer known. -/
theorem sub_is (b : Nat) (p s : ByteArray) (r : Bool) (w : World) (hc : w.cell? ⟨b, 0, none⟩ = some (.string p)) (hs : s.size ≤ maxLen) (hp : p.size ≤ maxLen) (hr : Lib.hasPrefix s.data.toList p.data.toList = r) :
    Calls Try.prog 20 #[.pointer (some ⟨b, 0, none⟩), .string s] w fun e w' => e = .returned (.bool r) ∧ w = w' := by
  subst hr
  exact subscribes_any b p s w hc hs hp
theorem fb_cell (w : World) (p h : ByteArray) (v : Value) : (w.alloc (.cells (fbBlock p h v) 52)).cell? ⟨w.heap.size, 0, none⟩ = some (.string p) := by
  simp [fbBlock, go_sem]
theorem pre_own (p x : ByteArray) : Lib.hasPrefix (p ++ x).data.toList p.data.toList = true := by
  unfold Lib.hasPrefix
  rw [List.isPrefixOf_iff_prefix]
  simp [ByteArray.data_append]

theorem bytesFb_yes (a b c d : ByteArray) (h : Bool) (w : World) (hl : a.size + b.size + c.size + d.size ≤ 1048576) :
    Calls Try.prog 16 #[.string a, .string b, .bool h, .string c, .string d] w fun e w' => e = .returned (.bool true) ∧ w = w' := by
  go_enter Try.func16, Try.ntmps16
  go_wp2
  go_ret
  exact ⟨rfl, rfl⟩
theorem bytesFb_no (a b c d : ByteArray) (h : Bool) (w : World) (ha : a.size ≤ maxLen) (hb : b.size ≤ maxLen) (hc : c.size ≤ maxLen) (hd : d.size ≤ maxLen) (hl : 1048576 < a.size + b.size + c.size + d.size) :
    Calls Try.prog 16 #[.string a, .string b, .bool h, .string c, .string d] w fun e w' => e = .returned (.bool false) ∧ w = w' := by
  unfold maxLen at ha hb hc hd
  by_cases h1 : (1048576 : Int) < (a.size : Int)
  · go_enter Try.func16, Try.ntmps16
    go_wp2
    go_ret
    exact ⟨rfl, rfl⟩
  by_cases h2 : (1048576 : Int) < (b.size : Int)
  · go_enter Try.func16, Try.ntmps16
    go_wp2
    go_ret
    exact ⟨rfl, rfl⟩
  by_cases h3 : (1048576 : Int) < (a.size : Int) + (b.size : Int)
  · go_enter Try.func16, Try.ntmps16
    go_wp2
    go_ret
    exact ⟨rfl, rfl⟩
  by_cases h4 : (1048576 : Int) < (c.size : Int)
  · go_enter Try.func16, Try.ntmps16
    go_wp2
    go_ret
    exact ⟨rfl, rfl⟩
  by_cases h5 : (1048576 : Int) < (a.size : Int) + (b.size : Int) + (c.size : Int)
  · go_enter Try.func16, Try.ntmps16
    go_wp2
    go_ret
    exact ⟨rfl, rfl⟩
  by_cases h6 : (1048576 : Int) < (d.size : Int)
  · go_enter Try.func16, Try.ntmps16
    go_wp2
    go_ret
    exact ⟨rfl, rfl⟩
  have h7 : (1048576 : Int) < (a.size : Int) + (b.size : Int) + (c.size : Int) + (d.size : Int) := by omega
  go_enter Try.func16, Try.ntmps16
  go_wp2
  go_ret
  exact ⟨rfl, rfl⟩

theorem info52 : (Try.prog.info? 52).isSome = true := by kernel_rfl
theorem neq_same (a : Addr) (w : World) : (binOp .neq 35 (.pointer (some a)) (.pointer (some a))).run Try.prog w = .ok (.bool false) w := by
  obtain ⟨j, hj⟩ := Option.isSome_iff_exists.1 info52
  exact Lib.run_neq_ptr_same w a Try.underlying35 hj

set_option maxRecDepth 100000 in
set_option maxHeartbeats 400000 in
theorem walk (a0 : ByteArray) (a1 : ByteArray) (a2 : Bool) (a3 : ByteArray) (a4 : ByteArray) (w0 : a0.size ≤ maxLen) (w1 : a1.size ≤ maxLen) (w3 : a3.size ≤ maxLen) (w4 : a4.size ≤ maxLen) (w : World) :
    Calls Try.prog 5 #[.string a0, .string a1, .bool a2, .string a3, .string a4] w fun e w' => e = .returned (.bool true) ∧ Grown w w' := by
  by_cases hsum : 1048576 < a0.size + a1.size + a3.size + a4.size
  · go_enter Try.func5, Try.ntmps5
    go_wp2_with (go_at_call 16; refine (bytesFb_no _ _ _ _ _ _ w0 w1 w3 w4 hsum).mono ?_; rintro e w' ⟨rfl, rfl⟩)
    go_ret
    exact ⟨rfl, Grown.refl _⟩
  have hle : a0.size + a1.size + a3.size + a4.size ≤ 1048576 := by omega
  have z0 : (a3 ++ a4).size ≤ maxLen := by rw [ByteArray.size_append]; unfold maxLen; omega
  clear hsum
  cases a2
  · go_enter Try.func5, Try.ntmps5
    go_wp2_with (first | (go_at_call 16; refine (bytesFb_yes _ _ _ _ _ _ hle).mono ?_; rintro e w' ⟨rfl, rfl⟩) | (go_at_call 9; refine (addString_ok _ _ _ (by omega) (by omega) (by omega)).mono ?_; rintro e w' ⟨rfl, rfl⟩) | (go_at_call 18; refine (newRoute_any _ _ _ _).mono ?_; rintro e w' ⟨rfl, rfl⟩) | (go_at_call 19; refine (fallback_any _ _ _ (rt_cell _ _ _ _)).mono ?_; rintro e w' ⟨rfl, rfl⟩))
    go_ret
    exact ⟨rfl, (Grown.refl _).alloc _ _⟩
  · have hne := neq_same
    have hrt := rt_cell (w.alloc (.cells (fbBlock a3 { data := #[] } (.slice none 0 0)) 52)) a0 a1 (.pointer (some ⟨w.heap.size, 0, none⟩))
    have hfb : ((w.alloc (.cells (fbBlock a3 { data := #[] } (.slice none 0 0)) 52)).alloc (.cells (rtBlock a0 a1 (.pointer (some ⟨w.heap.size, 0, none⟩))) 61)).cell? ⟨w.heap.size, 0, none⟩ = some (.string a3) := by
      simp [fbBlock, go_sem]
    have hsz : (w.alloc (.cells (fbBlock a3 { data := #[] } (.slice none 0 0)) 52)).heap.size = w.heap.size + 1 := by simp
    rw [hsz] at hrt
    have Hrt := hide hrt
    have Hfb := hide hfb
    clear hsz hrt hfb
    go_enter Try.func5, Try.ntmps5
    go_wp2_with (first | (go_at_call 16; refine (bytesFb_yes _ _ _ _ _ _ hle).mono ?_; rintro e w' ⟨rfl, rfl⟩) | (go_at_call 9; refine (addString_ok _ _ _ (by omega) (by omega) (by omega)).mono ?_; rintro e w' ⟨rfl, rfl⟩) | (go_at_call 17; refine (newFallback_any _ _ _ _ _ _).mono ?_; rintro e w' ⟨rfl, rfl⟩) | (go_at_call 18; refine (newRoute_any _ _ _ _).mono ?_; rintro e w' ⟨rfl, rfl⟩) | (go_at_call 19; refine (fallback_any _ (some ⟨w.heap.size, 0, none⟩) _ ?_).mono ?_; exact Hrt.out; rintro e w' ⟨rfl, rfl⟩) | (go_at_call 20; refine (sub_is _ a3 _ true _ ?_ z0 w3 (pre_own a3 a4)).mono ?_; exact Hfb.out; rintro e w' ⟨rfl, rfl⟩))
    go_ret
    exact ⟨rfl, ((Grown.refl _).alloc _ _).alloc _ _⟩

/-! ### THE ROW's STEP: WRITTEN OUT: LEAVE IT -/
set_option maxRecDepth 100000 in
theorem lifted (os : Os) (started : os.Started) (H : Type) (enc : TypeId × Value → H) :
    ReturnsInHanded {} Try.checked os 5 .any (Rows.fnRouteFallbackSubscribesSpec.pre6 enc Try.prog Try.f5 Rows.fnRouteFallbackSubscribesRow.domain false) (Rows.fnRouteFallbackSubscribesSpec.post enc Try.prog Try.f5 false true false false) := by
  refine returnsInHanded_of_change (C := Try.checked) own started (by kernel_rfl) Try.func5
    (ChangeSpec.witness6 (enc := enc) (C := Try.checked) false ⟨#[], #[.string ByteArray.empty, .string ByteArray.empty, .bool false, .string ByteArray.empty, .string ByteArray.empty], []⟩ 8 (by kernel_rfl) (by kernel_rfl) (by kernel_rfl) (by kernel_rfl)) ?_
  intro W base args ds gs before hval0 hW hcnd _
  have hval : ∀ (j : Nat) t v, Try.f5.params[j]? = some t → args[j]? = some v → Value.okWide Try.prog W .any base t v := hval0
  have hW' := hW
  obtain ⟨p, q, hA0, hV, rfl, hfz, hnd⟩ := hW
  have hA : DataW.TrodAll enc Try.prog W 0 (fun _ => true) true Try.f5.params.toList args.toList ds p := hA0
  rw [Try.params5] at hA hval
  obtain ⟨v0, vs0, d0, ds0, p0, q0, hargs, rfl, rfl, h0, r0⟩ := trodAll_cons hA
  obtain ⟨v1, vs1, d1, ds1, p1, q1, rfl, rfl, rfl, h1, r1⟩ := trodAll_cons r0
  obtain ⟨v2, vs2, d2, ds2, p2, q2, rfl, rfl, rfl, h2, r2⟩ := trodAll_cons r1
  obtain ⟨v3, vs3, d3, ds3, p3, q3, rfl, rfl, rfl, h3, r3⟩ := trodAll_cons r2
  obtain ⟨v4, vs4, d4, ds4, p4, q4, rfl, rfl, rfl, h4, r4⟩ := trodAll_cons r3
  obtain ⟨rfl, rfl, rfl⟩ := trodAll_nil r4
  obtain rfl : args = #[v0, v1, v2, v3, v4] := by cases args; simp_all
  obtain ⟨rfl, rfl⟩ := trodVars_none hV
  obtain ⟨a0, rfl, rfl, rfl, w0⟩ := open_string Try.underlying9 (hval 0 9 v0 rfl rfl) h0
  obtain ⟨a1, rfl, rfl, rfl, w1⟩ := open_string Try.underlying9 (hval 1 9 v1 rfl rfl) h1
  obtain ⟨a2, rfl, rfl, rfl⟩ := open_bool Try.underlying4 (hval 2 4 v2 rfl rfl) h2
  obtain ⟨a3, rfl, rfl, rfl, w3⟩ := open_string Try.underlying9 (hval 3 9 v3 rfl rfl) h3
  obtain ⟨a4, rfl, rfl, rfl, w4⟩ := open_string Try.underlying9 (hval 4 9 v4 rfl rfl) h4
  clear hA0 hval0
  simp only [List.append_nil] at hW'
  refine (walk a0 a1 a2 a3 a4 w0 w1 w3 w4 W).mono fun e W' ⟨he, hg⟩ => ?_
  subst he
  exact ⟨_, rfl, post_of_same (pa := []) (pv := []) hW' (fun _ _ _ => (trodAll_cons_mk (shut_bool Try.underlying4 _) trodAll_mk0)) (fun sp _ => (trodAll_cons_mk (shut_string Try.underlying9 w0) (trodAll_cons_mk (shut_string Try.underlying9 w1) (trodAll_cons_mk (shut_bool Try.underlying4 _) (trodAll_cons_mk (shut_string Try.underlying9 w3) (trodAll_cons_mk (shut_string Try.underlying9 w4) trodAll_mk0)))))) (fun _ _ => rfl) rfl
    (hg.frame _) hg.2.1 (ok_one (by kernel_rfl) rfl (okWide_bool_mk Try.underlying4 _))⟩

theorem over : Rows.fnRouteFallbackSubscribesRow.holds Try.pinned (OpenSpec.ofChange Rows.fnRouteFallbackSubscribesSpec) :=
  OpenClaim.holds_of_wide 5 Try.f5 rfl rfl rfl rfl rfl rfl rfl ⟨rfl, rfl, rfl, rfl, rfl⟩ rfl rfl rfl rfl rfl (by kernel_rfl) Try.func5 (by kernel_rfl)
    (of_decide_eq_true (by kernel_rfl)) (by unfold Func.isWrapper; first | (rw [if_pos (by decide +kernel)]; kernel_rfl) | (rw [if_neg (by decide +kernel)]; exact ⟨rfl, rfl⟩))
    (fun os started H enc _ => lifted os started H enc)

/-- ████ THE STATEMENT ████ -/
theorem proved : Rows.FnRouteFallbackSubscribesSaid :=
  over
end Go.Proofs.Qxb6614477a.fnRouteFallbackSubscribes
