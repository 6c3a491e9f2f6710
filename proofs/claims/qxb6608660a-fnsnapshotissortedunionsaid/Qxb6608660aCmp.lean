/-
  CONTRACTS of cmp.Compare, slices.Compare, compareFields.
-/
import Derived.Test.Qxb6608660aRows
import Derived.Test.Qxb6608660aPlain
import Derived.WalkKit
import Derived.WalkSpells
import Derived.WalkLawsBesides
import Derived.RowKit3
import Derived.Deep.QuietTactic
import Derived.BigQuiet
import Derived.Deep.OwnRows
import Derived.Lib.SliceRun
import Derived.Deep.RegionWith
namespace Go.Proofs.Qxb6608660a
open Go.RowKit
set_option linter.unusedVariables false

theorem hide {p : Prop} (h : p) : Hid p := h
/-- A row of strings behind an address. -/
def Row (w : World) (a : Option Addr) (l : List ByteArray) : Prop :=
  (a = none → l = []) ∧ ∀ i, i < l.length → ∃ b off, a = some ⟨b, off, none⟩ ∧ w.cell? ⟨b, off + i, none⟩ = some (.string (l.getD i ByteArray.empty))

theorem isNaN (x : ByteArray) (w : World) : Calls Try.prog 70 #[.string x] w fun e w' => e = .returned (.bool false) ∧ w = w' := by
  go_enter Try.func70, Try.ntmps70
  go_wp2
  go_ret
  exact ⟨by simp, rfl⟩

theorem cmpCompare (x y : ByteArray) (w : World) : Calls Try.prog 50 #[.string x, .string y] w fun e w' => e = .returned (.int .i64 (cmpS x y)) ∧ w = w' := by
  have hv := cmpS_vals x y
  have h1 := less_iff x y
  have h2 := cmpS_zero x y
  rcases hv with hv | hv | hv
  · rw [hv] at h1 ⊢
    have hb : Op.bytesLess x.toList y.toList = true := h1.2 rfl
    clear h1 h2 hv
    go_enter Try.func50, Try.ntmps50
    go_wp2_with (go_at_call 70; refine (isNaN _ _).mono ?_; rintro e w' ⟨rfl, rfl⟩)
    go_ret
    exact ⟨rfl, rfl⟩
  · have e := h2.1 hv
    subst e
    rw [hv]
    have hb : Op.bytesLess x.toList x.toList = false := by
      rw [hv] at h1
      cases hb : Op.bytesLess x.toList x.toList
      · rfl
      · exact absurd (h1.1 hb) (by decide)
    clear h1 h2 hv
    go_enter Try.func50, Try.ntmps50
    go_wp2_with (go_at_call 70; refine (isNaN _ _).mono ?_; rintro e w' ⟨rfl, rfl⟩)
    go_ret
    exact ⟨rfl, rfl⟩
  · have hb : Op.bytesLess x.toList y.toList = false := by
      rw [hv] at h1
      cases hb : Op.bytesLess x.toList y.toList
      · rfl
      · exact absurd (h1.1 hb) (by decide)
    have hne : (x.toList == y.toList) = false := by
      rw [beq_eq_false_iff_ne]
      intro e
      rw [Lib.toList_data, Lib.toList_data] at e
      rw [h2.2 (ByteArray.ext (Array.toList_inj.1 e))] at hv
      exact absurd hv (by decide)
    rw [hv]
    clear h1 h2 hv
    go_enter Try.func50, Try.ntmps50
    go_wp2_with (go_at_call 70; refine (isNaN _ _).mono ?_; rintro e w' ⟨rfl, rfl⟩)
    go_ret
    exact ⟨rfl, rfl⟩

/-- Draws alone. -/
def Drawn (w w' : World) : Prop := ∃ nq, w' = w.drewN nq
theorem drewN2 (w : World) (a b : Nat) : (w.drewN a).drewN b = w.drewN (a + b) := by simp [World.drewN, Nat.add_assoc]
theorem ret_int {k : IntKind} {a b : Int} (h : a = b) : Ending.returned (.int k a) = .returned (.int k b) := by rw [h]

set_option maxHeartbeats 400000 in
/-- slices.Compare at Tuple. -/
theorem slCompare (a a' : Option Addr) (l l' : List ByteArray) (c c' : Nat) (w : World) (hr : Row w a l) (hr' : Row w a' l') (hl : l.length ≤ maxLen) (hl' : l'.length ≤ maxLen) :
    Calls Try.prog 43 #[.slice a l.length c, .slice a' l'.length c'] w fun e w' => e = .returned (.int .i64 (cmpT l l')) ∧ w = w' := by
  unfold maxLen at hl hl'
  go_enter Try.func43, Try.ntmps43
  go_wp2
  go_loop [11] (fun i => ∃ k : Nat, k ≤ l.length ∧ k ≤ l'.length ∧ i = .int .i64 k ∧ l.take k = l'.take k) (fun i => l.length - (intOf i).toNat)
  case atStart => exact ⟨0, Nat.zero_le _, Nat.zero_le _, rfl, by simp⟩
  case round =>
    obtain ⟨k, hk, hk', rfl, ht⟩ := hrel
    by_cases hlt : k < l.length
    · obtain ⟨b, off, rfl, hc⟩ := hr.2 k hlt
      by_cases hlt' : k < l'.length
      · obtain ⟨b', off', rfl, hc'⟩ := hr'.2 k hlt'
        have hd := hide (cmp_differ hlt hlt' ht)
        have ha := hide (cmp_agree hlt hlt' ht)
        have HT := hide ht
        clear ht hr hr'
        generalize l.getD k ByteArray.empty = x at hc hd ha
        generalize l'.getD k ByteArray.empty = y at hc' hd ha
        by_cases hz : cmpS x y = 0
        · have hb : (cmpS x y != 0) = false := by rw [bne_eq_false_iff_eq]; exact hz
          have HZ := hide hz
          clear hz
          go_wp2_with (go_at_call 50; refine (cmpCompare _ _ _).mono ?_; rintro e w' ⟨rfl, rfl⟩)
          go_round
          case rel => exact ⟨k + 1, by omega, by omega, by go_num, ha.out HZ.out⟩
          case measure => simp [intOf]; omega
        · have hb : (cmpS x y != 0) = true := by rw [bne_iff_ne]; exact hz
          have HZ := hide hz
          clear hz
          go_wp2_with (go_at_call 50; refine (cmpCompare _ _ _).mono ?_; rintro e w' ⟨rfl, rfl⟩)
          go_ret
          exact ⟨ret_int (hd.out HZ.out).symm, rfl⟩
      · have hm := hide (cmp_more hlt (by omega) ht)
        clear hr hr' ht
        go_wp2
        go_ret
        exact ⟨ret_int hm.out.symm, rfl⟩
    · by_cases hlt' : k < l'.length
      · have hm := hide (cmp_less (by omega) hlt' ht)
        clear ht
        have hll : (l.length : Int) < (l'.length : Int) := by omega
        go_wp2
        go_ret
        exact ⟨ret_int hm.out.symm, rfl⟩
      · have hm := hide (cmp_both (by omega) (by omega) ht)
        clear ht
        have hll : ¬ (l.length : Int) < (l'.length : Int) := by omega
        go_wp2
        go_ret
        exact ⟨ret_int hm.out.symm, rfl⟩

set_option maxHeartbeats 400000 in
/-- compareFields. -/
theorem cmpFields (a a' : Option Addr) (l l' : List ByteArray) (c c' : Nat) (w : World) (hr : Row w a l) (hr' : Row w a' l') (hl : l.length ≤ maxLen) (hl' : l'.length ≤ maxLen) :
    Calls Try.prog 22 #[.slice a l.length c, .slice a' l'.length c'] w fun e w' => e = .returned (.int .i64 (cmpT l l')) ∧ ∃ nq, w' = w.drewN nq := by
  unfold maxLen at hl hl'
  go_enter Try.func22, Try.ntmps22
  go_wp2
  go_loopw [5] (fun i wr => ∃ k nq : Nat, k ≤ l.length ∧ k ≤ l'.length ∧ i = .int .i64 k ∧ l.take k = l'.take k ∧ wr = w.drewN nq) (fun i _ => l.length - (intOf i).toNat)
  case atStart => exact ⟨0, 0, Nat.zero_le _, Nat.zero_le _, rfl, by simp, rfl⟩
  case round =>
    obtain ⟨k, nq, hk, hk', rfl, ht, rfl⟩ := hrel
    by_cases hlt : k < l.length
    · obtain ⟨b, off, rfl, hc⟩ := hr.2 k hlt
      by_cases hlt' : k < l'.length
      · obtain ⟨b', off', rfl, hc'⟩ := hr'.2 k hlt'
        have hd := hide (cmp_differ hlt hlt' ht)
        have ha := hide (cmp_agree hlt hlt' ht)
        have hi : (k : Int) < (l.length : Int) := by omega
        have hi' : (k : Int) < (l'.length : Int) := by omega
        clear ht hr hr'
        generalize l.getD k ByteArray.empty = x at hc hd ha
        generalize l'.getD k ByteArray.empty = y at hc' hd ha
        have h1 := less_iff x y
        have h2 := cmpS_zero x y
        rcases cmpS_vals x y with hv | hv | hv
        · have hb : Op.bytesLess x.toList y.toList = true := h1.2 hv
          have HV := hide hv
          clear h1 h2 hv
          go_wp2
          go_quiet (fail)
          go_wp2
          go_ret
          exact ⟨ret_int (by rw [hd.out (by rw [HV.out]; decide), HV.out]), by first | exact ⟨_, drewN2 _ _ _⟩ | exact ⟨_, by rw [drewN2, drewN2]⟩⟩
        · have hb : Op.bytesLess x.toList y.toList = false := by
            cases hb : Op.bytesLess x.toList y.toList
            · rfl
            · exact absurd (hv.symm.trans (h1.1 hb)) (by decide)
          have he : (x.toList == y.toList) = true := by rw [h2.1 hv]; simp
          have HV := hide hv
          clear h1 h2 hv
          go_wp2
          go_quiet (fail)
          go_wp2
          go_quiet (fail)
          go_wp2
          exact ⟨⟨k + 1, _, by omega, by omega, by go_num, ha.out HV.out, rfl⟩, by simp [intOf]; omega⟩
        · have hb : Op.bytesLess x.toList y.toList = false := by
            cases hb : Op.bytesLess x.toList y.toList
            · rfl
            · exact absurd (hv.symm.trans (h1.1 hb)) (by decide)
          have he : (x.toList == y.toList) = false := by
            rw [beq_eq_false_iff_ne]
            intro e
            rw [Lib.toList_data, Lib.toList_data] at e
            rw [h2.2 (ByteArray.ext (Array.toList_inj.1 e))] at hv
            exact absurd hv (by decide)
          have HV := hide hv
          clear h1 h2 hv
          go_wp2
          go_quiet (fail)
          go_wp2
          go_quiet (fail)
          go_wp2
          go_ret
          exact ⟨ret_int (by rw [hd.out (by rw [HV.out]; decide), HV.out]), by first | exact ⟨_, drewN2 _ _ _⟩ | exact ⟨_, by rw [drewN2, drewN2]⟩⟩
      · have hm := hide (cmp_more hlt (by omega) ht)
        have hll : ¬ (l.length : Int) < (l'.length : Int) := by omega
        have hll' : (l'.length : Int) < (l.length : Int) := by omega
        clear hr hr' ht
        go_wp2
        go_ret
        exact ⟨ret_int hm.out.symm, _, rfl⟩
    · by_cases hlt' : k < l'.length
      · have hm := hide (cmp_less (by omega) hlt' ht)
        clear ht
        have hll : (l.length : Int) < (l'.length : Int) := by omega
        go_wp2
        go_ret
        exact ⟨ret_int hm.out.symm, _, rfl⟩
      · have hm := hide (cmp_both (by omega) (by omega) ht)
        clear ht
        have hll : ¬ (l.length : Int) < (l'.length : Int) := by omega
        have hll' : ¬ (l'.length : Int) < (l.length : Int) := by omega
        go_wp2
        go_ret
        exact ⟨ret_int hm.out.symm, _, rfl⟩
end Go.Proofs.Qxb6608660a
