/-
  CONTRACTS of slices.Equal, findName, findTuple.
-/
import Derived.Test.Qxb6608660aCmp
namespace Go.Proofs.Qxb6608660a
open Go.RowKit
set_option linter.unusedVariables false

theorem ret_bool {a b : Bool} (h : a = b) : Ending.returned (.bool a) = .returned (.bool b) := by rw [h]
theorem take_all {l l' : List ByteArray} (he : l.length = l'.length) {k : Nat} (hk : l.length ≤ k) (ht : l.take k = l'.take k) : l = l' := by
  rwa [List.take_of_length_le (by omega), List.take_of_length_le (by omega)] at ht
theorem take_ne {l l' : List ByteArray} {k : Nat} (h : k < l.length) (hne : l.getD k ByteArray.empty ≠ l'.getD k ByteArray.empty) : ¬ l = l' := fun e => hne (by rw [e])
theorem toList_ne {x y : ByteArray} (h : x ≠ y) : (x.toList == y.toList) = false := by
  rw [beq_eq_false_iff_ne]
  intro e
  rw [Lib.toList_data, Lib.toList_data] at e
  exact h (ByteArray.ext (Array.toList_inj.1 e))

set_option maxHeartbeats 400000 in
/-- slices.Equal at Tuple. -/
theorem slEqual (a a' : Option Addr) (l l' : List ByteArray) (c c' : Nat) (w : World) (hr : Row w a l) (hr' : Row w a' l') (hl : l.length ≤ maxLen) (hl' : l'.length ≤ maxLen) :
    Calls Try.prog 45 #[.slice a l.length c, .slice a' l'.length c'] w fun e w' => e = .returned (.bool (decide (l = l'))) ∧ ∃ nq, w' = w.drewN nq := by
  unfold maxLen at hl hl'
  by_cases he : l.length = l'.length
  case neg =>
    have hd : ((l.length : Int) != (l'.length : Int)) = true := by rw [bne_iff_ne]; omega
    have hne : decide (l = l') = false := decide_eq_false (fun e => he (by rw [e]))
    rw [hne]
    clear he
    go_enter Try.func45, Try.ntmps45
    go_wp2
    go_ret
    exact ⟨rfl, 0, rfl⟩
  have hd : ((l.length : Int) != (l'.length : Int)) = false := by rw [bne_eq_false_iff_eq]; omega
  have HE := hide he
  clear he
  go_enter Try.func45, Try.ntmps45
  go_wp2
  go_loopw [13] (fun i wr => ∃ k nq : Nat, k ≤ l.length ∧ i = .int .i64 k ∧ l.take k = l'.take k ∧ wr = w.drewN nq) (fun i _ => l.length - (intOf i).toNat)
  case atStart => exact ⟨0, 0, Nat.zero_le _, rfl, by simp, rfl⟩
  case round =>
    obtain ⟨k, nq, hk, rfl, ht, rfl⟩ := hrel
    by_cases hlt : k < l.length
    · have hlt' : k < l'.length := by have := HE.out; omega
      obtain ⟨b, off, rfl, hc⟩ := hr.2 k hlt
      obtain ⟨b', off', rfl, hc'⟩ := hr'.2 k hlt'
      have ha := hide (fun h => cmp_agree hlt hlt' ht h)
      have hn := hide (take_ne (l' := l') hlt)
      have hi : (k : Int) < (l.length : Int) := by omega
      have hi' : (k : Int) < (l'.length : Int) := by omega
      clear ht hr hr'
      generalize l.getD k ByteArray.empty = x at hc ha hn
      generalize l'.getD k ByteArray.empty = y at hc' ha hn
      by_cases hxy : x = y
      · subst hxy
        go_wp2
        go_quiet (fail)
        go_wp2
        exact ⟨⟨k + 1, _, by omega, by go_num, ha.out (cmpS_self x), rfl⟩, by simp [intOf]; omega⟩
      · have hb := toList_ne hxy
        have hne : Hid (decide (l = l') = false) := decide_eq_false (hn.out hxy)
        clear hxy
        go_wp2
        go_quiet (fail)
        go_wp2
        go_ret
        exact ⟨ret_bool hne.out.symm, _, drewN2 _ _ _⟩
    · have heq : Hid (decide (l = l') = true) := decide_eq_true (take_all HE.out (by omega) ht)
      clear ht
      go_wp2
      go_ret
      exact ⟨ret_bool heq.out.symm, _, rfl⟩

/-! ### binary search -/
/-- Strictly ascending strings. -/
def Asc (l : List ByteArray) : Prop := ∀ i j, i < j → j < l.length → cmpS (l.getD i ByteArray.empty) (l.getD j ByteArray.empty) = -1

theorem side_left {m q : Nat} {x y : ByteArray} (hb : q < m → cmpS x y = -1) (he : m = q → y = x) (h : cmpS y x = -1) : m < q := by
  rcases Nat.lt_trichotomy m q with k | k | k
  · exact k
  · rw [he k, cmpS_self] at h; exact absurd h (by decide)
  · have := hb k; have := cmpS_swap x y; omega
theorem side_right {m q : Nat} {x y : ByteArray} (ha : m < q → cmpS y x = -1) (he : m = q → y = x) (hne : ¬ y = x) (h : ¬ cmpS y x = -1) : q < m := by
  rcases Nat.lt_trichotomy m q with k | k | k
  · exact absurd (ha k) h
  · exact absurd (he k) hne
  · exact k

set_option maxHeartbeats 400000 in
theorem findName_yes (a : Option Addr) (l : List ByteArray) (c : Nat) (x : ByteArray) (w : World) (hr : Row w a l) (hl : l.length ≤ 1048576) (hs : Asc l) (q : Nat) (hq : q < l.length) (hx : l.getD q ByteArray.empty = x) :
    Calls Try.prog 21 #[.slice a l.length c, .string x] w fun e w' => e = .returned (.bool true) ∧ w = w' := by
  have HX := hide hx
  have HS := hide hs
  clear hx hs
  go_enter Try.func21, Try.ntmps21
  go_wp2
  go_loop [5, 6] (fun lo hi => ∃ i j : Nat, i ≤ q ∧ q < j ∧ j ≤ l.length ∧ lo = .int .i64 i ∧ hi = .int .i64 j) (fun lo hi => (intOf hi).toNat - (intOf lo).toNat)
  case atStart => exact ⟨0, l.length, Nat.zero_le _, hq, Nat.le_refl _, rfl, rfl⟩
  case round =>
    obtain ⟨i, j, h1, h2, h3, rfl, rfl⟩ := hrel
    obtain ⟨m, hm⟩ : ∃ m, m = i + (j - i) / 2 := ⟨_, rfl⟩
    have hm1 : i ≤ m := by omega
    have hm2 : m < j := by omega
    have hmi : (i : Int) + ((j : Int) - (i : Int)) / 2 = (m : Int) := by omega
    have hlt : (i : Int) < (j : Int) := by omega
    clear hm
    obtain ⟨b, off, rfl, hc⟩ := hr.2 m (by omega)
    have ha := hide (fun h => HS.out m q h hq)
    have hb := hide (fun h => HS.out q m h (by omega))
    have hmq := hide (show m = q → l.getD m ByteArray.empty = x from fun e => by rw [e]; exact HX.out)
    rw [HX.out] at ha hb
    generalize l.getD m ByteArray.empty = y at hc ha hb hmq
    clear hr
    by_cases hxy : y = x
    · subst hxy
      go_wp2
      go_ret
      exact ⟨rfl, rfl⟩
    · have hbe := toList_ne hxy
      have hli := less_iff y x
      cases hbl : Op.bytesLess y.toList x.toList
      · have hge : q < m := side_right ha.out hmq.out hxy (fun h => by rw [hli.2 h] at hbl; cases hbl)
        clear hli hxy
        go_wp2
        exact ⟨⟨i, m, by omega, hge, by omega, rfl, rfl⟩, by simp [intOf]; omega⟩
      · have hge : m < q := side_left hb.out hmq.out (hli.1 hbl)
        clear hli hxy
        go_wp2
        exact ⟨⟨m + 1, j, by omega, by omega, by omega, by go_num, rfl⟩, by simp [intOf]; omega⟩

/-! ### tuples in a row -/
/-- A tuple as a value: where its fields lie, the fields, the capacity. -/
structure Tup where
  a : Option Addr
  l : List ByteArray
  c : Nat
def Tup.val (t : Tup) : Value := .slice t.a t.l.length t.c
/-- The tuple's fields lie in w, and they are not too many. -/
def Tup.ok (w : World) (t : Tup) : Prop := Row w t.a t.l ∧ t.l.length ≤ 1048576
/-- A row of tuples. -/
def TRow (w : World) (a : Option Addr) (n : Nat) (T : Nat → Tup) : Prop :=
  (a = none → n = 0) ∧ ∀ i, i < n → (∃ b off, a = some ⟨b, off, none⟩ ∧ w.cell? ⟨b, off + i, none⟩ = some (T i).val) ∧ (T i).ok w

theorem tside_left {m q : Nat} {x y : List ByteArray} (hb : q < m → cmpT x y = -1) (he : m = q → y = x) (h : cmpT y x = -1) : m < q := by
  rcases Nat.lt_trichotomy m q with k | k | k
  · exact k
  · rw [he k, cmpT_self] at h; exact absurd h (by decide)
  · have := hb k; have := cmpT_swap x y; omega
theorem tside_right {m q : Nat} {x y : List ByteArray} (ha : m < q → cmpT y x = -1) (he : m = q → y = x) (h0 : ¬ cmpT y x = 0) (h : ¬ cmpT y x = -1) : q < m := by
  rcases Nat.lt_trichotomy m q with k | k | k
  · exact absurd (ha k) h
  · rw [he k, cmpT_self] at h0; exact absurd rfl h0
  · exact k

set_option maxHeartbeats 400000 in
theorem findTuple_yes (a : Option Addr) (n c : Nat) (T : Nat → Tup) (a' : Option Addr) (l : List ByteArray) (c' : Nat) (w : World) (hr : TRow w a n T) (hn : n ≤ 1099511627776) (hr' : Row w a' l) (hl : l.length ≤ 1048576)
    (hs : ∀ i j, i < j → j < n → cmpT (T i).l (T j).l = -1) (q : Nat) (hq : q < n) (hx : (T q).l = l) :
    Calls Try.prog 23 #[.slice a n c, .slice a' l.length c'] w fun e w' => e = .returned (.int .i64 q) ∧ ∃ nq, w' = w.drewN nq := by
  have HX := hide hx
  have HS := hide hs
  clear hx hs
  go_enter Try.func23, Try.ntmps23
  go_wp2
  go_loopw [5, 6] (fun lo hi wr => ∃ i j nq : Nat, i ≤ q ∧ q < j ∧ j ≤ n ∧ lo = .int .i64 i ∧ hi = .int .i64 j ∧ wr = w.drewN nq) (fun lo hi _ => (intOf hi).toNat - (intOf lo).toNat)
  case atStart => exact ⟨0, n, 0, Nat.zero_le _, hq, Nat.le_refl _, rfl, rfl, rfl⟩
  case round =>
    obtain ⟨i, j, nq, h1, h2, h3, rfl, rfl, rfl⟩ := hrel
    obtain ⟨m, hm⟩ : ∃ m, m = i + (j - i) / 2 := ⟨_, rfl⟩
    have hm1 : i ≤ m := by omega
    have hm2 : m < j := by omega
    have hmi : (i : Int) + ((j : Int) - (i : Int)) / 2 = (m : Int) := by omega
    have hlt : (i : Int) < (j : Int) := by omega
    clear hm
    obtain ⟨⟨b, off, rfl, hc⟩, hrow, hlen⟩ := hr.2 m (by omega)
    have ha := hide (fun h => HS.out m q h hq)
    have hb := hide (fun h => HS.out q m h (by omega))
    have hmq := hide (show m = q → (T m).l = l from fun e => by rw [e]; exact HX.out)
    rw [HX.out] at ha hb
    unfold Tup.val at hc
    generalize T m = y at hc ha hb hmq hrow hlen
    clear hr
    have hzero : cmpT y.l l = 0 → m = q := fun h => by
      rcases Nat.lt_trichotomy m q with k | k | k
      · have := ha.out k; omega
      · exact k
      · have := hb.out k; have := cmpT_swap l y.l; omega
    rcases cmpT_vals y.l l with hv | hv | hv
    · have hge : m < q := tside_left hb.out hmq.out hv
      have HZ := hide hzero
      clear hzero
      go_wp2_with fail
      refine (cmpFields y.a a' y.l l y.c c' (w.drewN nq) hrow hr' (by unfold maxLen; omega) (by unfold maxLen; omega)).mono ?_
      rintro e w' ⟨rfl, nq', rfl⟩
      go_wp2
      exact ⟨⟨m + 1, j, _, by omega, by omega, by omega, by go_num, rfl, rfl⟩, by simp [intOf]; omega⟩
    · have hmm := hzero hv
      clear hzero
      subst hmm
      go_wp2_with fail
      refine (cmpFields y.a a' y.l l y.c c' (w.drewN nq) hrow hr' (by unfold maxLen; omega) (by unfold maxLen; omega)).mono ?_
      rintro e w' ⟨rfl, nq', rfl⟩
      go_wp2
      go_ret
      exact ⟨rfl, _, rfl⟩
    · have hge : q < m := tside_right ha.out hmq.out (by omega) (by omega)
      have HZ := hide hzero
      clear hzero
      go_wp2_with fail
      refine (cmpFields y.a a' y.l l y.c c' (w.drewN nq) hrow hr' (by unfold maxLen; omega) (by unfold maxLen; omega)).mono ?_
      rintro e w' ⟨rfl, nq', rfl⟩
      go_wp2
      exact ⟨⟨i, m, _, by omega, hge, by omega, rfl, rfl, rfl⟩, by simp [intOf]; omega⟩
end Go.Proofs.Qxb6608660a
