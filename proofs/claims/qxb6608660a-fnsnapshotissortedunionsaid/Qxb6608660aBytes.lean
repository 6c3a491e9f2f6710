/-
  CONTRACTS of zzBytes_.., memberBytes.
-/
import Derived.Test.Qxb6608660aTuples
namespace Go.Proofs.Qxb6608660a
open Go.RowKit
set_option linter.unusedVariables false

/-- A member as it lies: its name, where its state lies, the state's tuples. -/
structure Mem where
  nm : ByteArray
  a : Option Addr
  n : Nat
  c : Nat
  T : Nat → Tup
def TRaw (w : World) (a : Option Addr) (n : Nat) (T : Nat → Tup) : Prop :=
  (a = none → n = 0) ∧ n ≤ maxLen ∧ ∀ i, i < n → (∃ b off, a = some ⟨b, off, none⟩ ∧ w.cell? ⟨b, off + i, none⟩ = some (T i).val) ∧ Row w (T i).a (T i).l ∧ (T i).l.length ≤ maxLen ∧ ∀ s ∈ (T i).l, s.size ≤ maxLen
def MRaw (w : World) (a : Option Addr) (n : Nat) (M : Nat → Mem) : Prop :=
  (a = none → n = 0) ∧ n ≤ maxLen ∧ ∀ i, i < n → (∃ b off, a = some ⟨b, off, none⟩ ∧ w.cell? ⟨b, off + i * 2, none⟩ = some (.string (M i).nm) ∧ w.cell? ⟨b, off + i * 2 + 1, none⟩ = some (.slice (M i).a (M i).n (M i).c)) ∧ (M i).nm.size ≤ maxLen ∧ TRaw w (M i).a (M i).n (M i).T

/-- The first k strings are short. -/
def Small (l : List ByteArray) (k : Nat) : Prop := ∀ i, i < k → (l.getD i ByteArray.empty).size ≤ 1048576
theorem small_zero (l : List ByteArray) : Small l 0 := fun i hi => absurd hi (Nat.not_lt_zero i)
theorem small_succ {l : List ByteArray} {k : Nat} (h : Small l k) (hk : (l.getD k ByteArray.empty).size ≤ 1048576) : Small l (k + 1) := by
  intro i hi
  by_cases e : i = k
  · subst e; exact hk
  · exact h i (by omega)
def GoodT (T : Nat → Tup) (u : Nat) : Prop := ∀ i, i < u → (T i).l.length ≤ 1048576 ∧ Small (T i).l (T i).l.length
theorem goodT_zero (T : Nat → Tup) : GoodT T 0 := fun i hi => absurd hi (Nat.not_lt_zero i)
theorem goodT_succ {T : Nat → Tup} {k : Nat} (h : GoodT T k) (h1 : (T k).l.length ≤ 1048576) {j : Nat} (h2 : Small (T k).l j) (hj : (T k).l.length ≤ j) : GoodT T (k + 1) := by
  intro i hi
  by_cases e : i = k
  · subst e; exact ⟨h1, fun x hx => h2 x (by omega)⟩
  · exact h i (by omega)
def GoodM (M : Nat → Mem) (k : Nat) : Prop := ∀ i, i < k → (M i).nm.size ≤ 1048576 ∧ (M i).n ≤ 1048576 ∧ GoodT (M i).T (M i).n
theorem goodM_zero (M : Nat → Mem) : GoodM M 0 := fun i hi => absurd hi (Nat.not_lt_zero i)
theorem goodM_succ {M : Nat → Mem} {k : Nat} (h : GoodM M k) (h1 : (M k).nm.size ≤ 1048576) (h2 : (M k).n ≤ 1048576) {j : Nat} (h3 : GoodT (M k).T j) (hj : (M k).n ≤ j) : GoodM M (k + 1) := by
  intro i hi
  by_cases e : i = k
  · subst e; exact ⟨h1, h2, fun x hx => h3 x (by omega)⟩
  · exact h i (by omega)
def BytesOk (e : Ending) (p : Prop) : Prop := ∃ r : Bool, e = .returned (.bool r) ∧ (r = true → p)
theorem mem_getD {l : List ByteArray} {k : Nat} (h : k < l.length) : l.getD k ByteArray.empty ∈ l := by
  rw [List.getD_eq_getElem?_getD, List.getElem?_eq_getElem h]; simp

set_option maxRecDepth 100000 in
set_option maxHeartbeats 4000000 in
theorem bytesSnap (t : Int) (a : Option Addr) (n c : Nat) (M : Nat → Mem) (w : World) (hr : MRaw w a n M) :
    Calls Try.prog 17 #[.int .i64 t, .slice a n c] w fun e w' => BytesOk e (n ≤ 1048576 ∧ GoodM M n) ∧ w = w' := by
  have hn := hr.2.1
  unfold maxLen at hn
  by_cases t1 : (1048576 : Int) < (n : Int)
  · go_enter Try.func17, Try.ntmps17; go_wp2; go_ret; exact ⟨⟨_, rfl, fun h => by cases h⟩, rfl⟩
  go_enter Try.func17, Try.ntmps17
  go_wp2
  go_loop [5, 6] (fun z i => ∃ (k : Nat) (m : Int), k ≤ n ∧ 0 ≤ m ∧ m ≤ 1048576 ∧ i = .int .i64 k ∧ z = .int .i64 m ∧ GoodM M k) (fun _ i => n - (intOf i).toNat)
  case atStart => exact ⟨0, _, Nat.zero_le _, by omega, by omega, rfl, rfl, goodM_zero _⟩
  case round =>
    obtain ⟨k, m, hk, hm0, hm1, rfl, rfl, hg⟩ := hrel
    have HG := hide hg
    clear hg
    by_cases hlt : k < n
    case neg =>
      have hkn : k = n := by omega
      subst hkn
      go_wp2
      go_ret
      exact ⟨⟨_, rfl, fun _ => ⟨by omega, HG.out⟩⟩, rfl⟩
    obtain ⟨⟨b, off, rfl, hc0, hc1⟩, hnm, ht⟩ := hr.2.2 k hlt
    unfold maxLen at hnm
    by_cases pp1 : (1048576 : Int) < ((M k).nm.size : Int)
    · go_wp2; go_ret; exact ⟨⟨_, rfl, fun h => by cases h⟩, rfl⟩
    by_cases pp2 : (1048576 : Int) < m + ((M k).nm.size : Int)
    · go_wp2; go_ret; exact ⟨⟨_, rfl, fun h => by cases h⟩, rfl⟩
    have htn := ht.2.1
    unfold maxLen at htn
    by_cases pp3 : (1048576 : Int) < ((M k).n : Int)
    · go_wp2; go_ret; exact ⟨⟨_, rfl, fun h => by cases h⟩, rfl⟩
    by_cases pp4 : (1048576 : Int) < m + ((M k).nm.size : Int) + ((M k).n : Int)
    · go_wp2; go_ret; exact ⟨⟨_, rfl, fun h => by cases h⟩, rfl⟩
    have hM : Hid (∀ j, GoodT (M k).T j → (M k).n ≤ j → GoodM M (k + 1)) := fun j h3 hj => goodM_succ HG.out (by omega) (by omega) h3 hj
    generalize M k = mk at hc0 hc1 hnm ht pp1 pp2 pp3 pp4 htn hM
    obtain ⟨nm, ma, mn, mc, mT⟩ := mk
    simp only at hc0 hc1 hnm ht pp1 pp2 pp3 pp4 htn hM
    have HR := hide hr
    clear hr
    go_wp2
    go_loop [5, 7] (fun z i => ∃ (u : Nat) (m : Int), u ≤ mn ∧ 0 ≤ m ∧ m ≤ 1048576 ∧ i = .int .i64 u ∧ z = .int .i64 m ∧ GoodT mT u) (fun _ i => mn - (intOf i).toNat)
    case atStart => exact ⟨0, _, Nat.zero_le _, by omega, by omega, rfl, rfl, goodT_zero _⟩
    case round =>
      clear pp2 pp4 hm0 hm1
      obtain ⟨u, m, hu, hm0, hm1, rfl, rfl, hgt⟩ := hrel
      by_cases hult : u < mn
      case neg =>
        have hnext := hide (hM.out u hgt (by omega))
        clear hgt
        go_wp2
        go_round
        case rel => exact ⟨k + 1, _, by omega, by omega, by omega, by go_num, rfl, hnext.out⟩
        case measure => simp [intOf]; omega
      obtain ⟨⟨b', off', rfl, hct⟩, hrow, hlen, hsm⟩ := ht.2.2 u hult
      unfold Tup.val at hct
      unfold maxLen at hlen
      by_cases v1 : (1048576 : Int) < ((mT u).l.length : Int)
      · clear hgt; go_wp2; go_ret; exact ⟨⟨_, rfl, fun h => by cases h⟩, rfl⟩
      by_cases v2 : (1048576 : Int) < m + ((mT u).l.length : Int)
      · clear hgt; go_wp2; go_ret; exact ⟨⟨_, rfl, fun h => by cases h⟩, rfl⟩
      have hT : Hid (∀ j, Small (mT u).l j → (mT u).l.length ≤ j → GoodT mT (u + 1)) := fun j h hj => goodT_succ hgt (by omega) h hj
      clear hgt
      generalize mT u = tp at hct hrow hlen hsm v1 v2 hT
      obtain ⟨ta, tl, tc⟩ := tp
      simp only at hct hrow hlen hsm v1 v2 hT
      go_wp2
      go_loop [5, 8] (fun z i => ∃ (x : Nat) (m : Int), x ≤ tl.length ∧ 0 ≤ m ∧ m ≤ 1048576 ∧ i = .int .i64 x ∧ z = .int .i64 m ∧ Small tl x) (fun _ i => tl.length - (intOf i).toNat)
      case atStart => exact ⟨0, _, Nat.zero_le _, by omega, by omega, rfl, rfl, small_zero _⟩
      case round =>
        clear v2 hm0 hm1
        obtain ⟨x, m, hx, hm0, hm1, rfl, rfl, hgs⟩ := hrel
        by_cases hxlt : x < tl.length
        case neg =>
          have hnext := hide (hT.out x hgs (by omega))
          clear hgs
          go_wp2
          go_round
          case rel => exact ⟨u + 1, _, by omega, by omega, by omega, by go_num, rfl, hnext.out⟩
          case measure => simp [intOf]; omega
        obtain ⟨b3, off3, rfl, hcs⟩ := hrow.2 x hxlt
        have hsz : (tl.getD x ByteArray.empty).size ≤ maxLen := hsm _ (mem_getD hxlt)
        unfold maxLen at hsz
        have hgo := hide (fun h => small_succ (l := tl) (k := x) hgs h)
        clear hgs
        generalize tl.getD x ByteArray.empty = s at hcs hsz hgo
        by_cases y1 : (1048576 : Int) < (s.size : Int)
        · go_wp2; go_ret; exact ⟨⟨_, rfl, fun h => by cases h⟩, rfl⟩
        by_cases y2 : (1048576 : Int) < m + (s.size : Int)
        · go_wp2; go_ret; exact ⟨⟨_, rfl, fun h => by cases h⟩, rfl⟩
        go_wp2
        go_round
        case rel => exact ⟨x + 1, _, by omega, by omega, by omega, by go_num, rfl, hgo.out (by omega)⟩
        case measure => simp [intOf]; omega
end Go.Proofs.Qxb6608660a
