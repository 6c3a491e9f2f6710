/-
  SHARED CONTRACTS of the seat: rows of strings and of bools; the guards.
-/
import Derived.Test.Qxb6615484aRows
import Derived.WalkKit
import Derived.WalkSpells
import Derived.WalkLawsBesides
import Derived.RowKit3
import Derived.Deep.QuietTactic
import Derived.BigQuiet
import Derived.Deep.OwnRows
import Derived.Lib.SliceRun
namespace Go.Proofs.Qxb6615484a
open Go.RowKit
set_option linter.unusedVariables false
theorem hide {p : Prop} (h : p) : Hid p := h
/-- A row of strings behind an address. -/
def Row (w : World) (a : Option Addr) (l : List ByteArray) : Prop :=
  (a = none → l = []) ∧ ∀ i, i < l.length → ∃ b off, a = some ⟨b, off, none⟩ ∧ w.cell? ⟨b, off + i, none⟩ = some (.string (l.getD i ByteArray.empty))
/-- A row of bools. -/
def BRow (w : World) (a : Option Addr) (l : List Bool) : Prop :=
  (a = none → l = []) ∧ ∀ i, i < l.length → ∃ b off, a = some ⟨b, off, none⟩ ∧ w.cell? ⟨b, off + i, none⟩ = some (.bool (l.getD i false))

/-- The first k strings are short. -/
def Small (l : List ByteArray) (k : Nat) : Prop := ∀ i, i < k → (l.getD i ByteArray.empty).size ≤ 1048576
theorem small_zero (l : List ByteArray) : Small l 0 := fun i hi => absurd hi (Nat.not_lt_zero i)
theorem small_succ {l : List ByteArray} {k : Nat} (h : Small l k) (hk : (l.getD k ByteArray.empty).size ≤ 1048576) : Small l (k + 1) := by
  intro i hi
  by_cases e : i = k
  · subst e; exact hk
  · exact h i (by omega)
theorem small_all {l : List ByteArray} {k : Nat} (h : Small l k) (hk : l.length ≤ k) : ∀ s ∈ l, s.size ≤ 1048576 := by
  intro s hs
  obtain ⟨i, hi, rfl⟩ := List.getElem_of_mem hs
  have := h i (by omega)
  rw [List.getD_eq_getElem?_getD, List.getElem?_eq_getElem hi] at this
  exact this
/-- A bool is returned; true: all strings are short. -/
def BytesOk (e : Ending) (l : List ByteArray) : Prop := ∃ r : Bool, e = .returned (.bool r) ∧ (r = true → ∀ s ∈ l, s.size ≤ 1048576)

set_option maxHeartbeats 2000000 in
theorem bytesTx (a0 : Option Addr) (l0 : List ByteArray) (c0 : Nat) (a1 : Option Addr) (n1 c1 : Nat) (a2 : Option Addr) (n2 c2 : Nat) (a3 : Option Addr) (l3 : List ByteArray) (c3 : Nat) (a4 : Option Addr) (l4 : List ByteArray) (c4 : Nat) (a5 : Option Addr) (l5 : List ByteArray) (c5 : Nat) (i6 : Int) (i7 : Int) (w : World) (hr0 : Row w a0 l0) (hl0 : l0.length ≤ maxLen) (hz0 : ∀ s ∈ l0, s.size ≤ maxLen) (hl1 : n1 ≤ maxLen) (hl2 : n2 ≤ maxLen) (hr3 : Row w a3 l3) (hl3 : l3.length ≤ maxLen) (hz3 : ∀ s ∈ l3, s.size ≤ maxLen) (hr4 : Row w a4 l4) (hl4 : l4.length ≤ maxLen) (hz4 : ∀ s ∈ l4, s.size ≤ maxLen) (hr5 : Row w a5 l5) (hl5 : l5.length ≤ maxLen) (hz5 : ∀ s ∈ l5, s.size ≤ maxLen) :
    Calls Try.prog 5 #[.slice a0 l0.length c0, .slice a1 n1 c1, .slice a2 n2 c2, .slice a3 l3.length c3, .slice a4 l4.length c4, .slice a5 l5.length c5, .int .i64 i6, .int .i64 i7] w fun e w' => BytesOk e (l0 ++ (l3 ++ (l4 ++ l5))) ∧ w = w' := by
  unfold maxLen at hl0 hl1 hl2 hl3 hl4 hl5
  by_cases t1 : (1048576 : Int) < (l0.length : Int)
  · go_enter Try.func5, Try.ntmps5; go_wp2; go_ret; exact ⟨⟨_, rfl, fun h => by cases h⟩, rfl⟩
  go_enter Try.func5, Try.ntmps5
  go_wp2
  go_loop [17, 18] (fun n i => ∃ (k : Nat) (m : Int), k ≤ l0.length ∧ 0 ≤ m ∧ m ≤ 1048576 ∧ i = .int .i64 k ∧ n = .int .i64 m ∧ Small l0 k) (fun _ i => l0.length - (intOf i).toNat)
  case atStart => exact ⟨0, _, Nat.zero_le _, by omega, by omega, rfl, rfl, small_zero _⟩
  case round =>
    obtain ⟨k0, m0, hk0, hm0, hn0, rfl, rfl, sm0⟩ := hrel
    by_cases hlt0 : k0 < l0.length
    · obtain ⟨b, off, rfl, hc⟩ := hr0.2 k0 hlt0
      have hsz : (l0.getD k0 ByteArray.empty).size ≤ maxLen := hz0 _ (by rw [List.getD_eq_getElem?_getD, List.getElem?_eq_getElem hlt0]; simp)
      unfold maxLen at hsz
      have hgo := hide (fun h => small_succ (l := l0) (k := k0) sm0 h)
      generalize l0.getD k0 ByteArray.empty = s at hc hsz hgo
      by_cases u1 : (1048576 : Int) < (s.size : Int)
      · go_wp2; go_ret; exact ⟨⟨_, rfl, fun h => by cases h⟩, rfl⟩
      by_cases u2 : (1048576 : Int) < m0 + (s.size : Int)
      · go_wp2; go_ret; exact ⟨⟨_, rfl, fun h => by cases h⟩, rfl⟩
      go_wp2
      go_round
      case rel => exact ⟨k0 + 1, _, by omega, by omega, by omega, by go_num, rfl, hgo.out (by omega)⟩
      case measure => simp [intOf]; omega
    have A0 := small_all sm0 (by omega)
    by_cases t2 : (1048576 : Int) < (n1 : Int)
    · go_wp2; go_ret; exact ⟨⟨_, rfl, fun h => by cases h⟩, rfl⟩
    by_cases t3 : (1048576 : Int) < m0 + (n1 : Int)
    · go_wp2; go_ret; exact ⟨⟨_, rfl, fun h => by cases h⟩, rfl⟩
    by_cases t4 : (1048576 : Int) < (n2 : Int)
    · go_wp2; go_ret; exact ⟨⟨_, rfl, fun h => by cases h⟩, rfl⟩
    by_cases t5 : (1048576 : Int) < m0 + (n1 : Int) + (n2 : Int)
    · go_wp2; go_ret; exact ⟨⟨_, rfl, fun h => by cases h⟩, rfl⟩
    by_cases t6 : (1048576 : Int) < (l3.length : Int)
    · go_wp2; go_ret; exact ⟨⟨_, rfl, fun h => by cases h⟩, rfl⟩
    by_cases t7 : (1048576 : Int) < m0 + (n1 : Int) + (n2 : Int) + (l3.length : Int)
    · go_wp2; go_ret; exact ⟨⟨_, rfl, fun h => by cases h⟩, rfl⟩
    go_wp2
    go_loop [17, 19] (fun n i => ∃ (k : Nat) (m : Int), k ≤ l3.length ∧ 0 ≤ m ∧ m ≤ 1048576 ∧ i = .int .i64 k ∧ n = .int .i64 m ∧ Small l3 k) (fun _ i => l3.length - (intOf i).toNat)
    case atStart => exact ⟨0, _, Nat.zero_le _, by omega, by omega, rfl, rfl, small_zero _⟩
    case round =>
      obtain ⟨k3, m3, hk3, hm3, hn3, rfl, rfl, sm3⟩ := hrel
      by_cases hlt3 : k3 < l3.length
      · obtain ⟨b, off, rfl, hc⟩ := hr3.2 k3 hlt3
        have hsz : (l3.getD k3 ByteArray.empty).size ≤ maxLen := hz3 _ (by rw [List.getD_eq_getElem?_getD, List.getElem?_eq_getElem hlt3]; simp)
        unfold maxLen at hsz
        have hgo := hide (fun h => small_succ (l := l3) (k := k3) sm3 h)
        generalize l3.getD k3 ByteArray.empty = s at hc hsz hgo
        by_cases u1 : (1048576 : Int) < (s.size : Int)
        · go_wp2; go_ret; exact ⟨⟨_, rfl, fun h => by cases h⟩, rfl⟩
        by_cases u2 : (1048576 : Int) < m3 + (s.size : Int)
        · go_wp2; go_ret; exact ⟨⟨_, rfl, fun h => by cases h⟩, rfl⟩
        go_wp2
        go_round
        case rel => exact ⟨k3 + 1, _, by omega, by omega, by omega, by go_num, rfl, hgo.out (by omega)⟩
        case measure => simp [intOf]; omega
      have A3 := small_all sm3 (by omega)
      by_cases t8 : (1048576 : Int) < (l4.length : Int)
      · go_wp2; go_ret; exact ⟨⟨_, rfl, fun h => by cases h⟩, rfl⟩
      by_cases t9 : (1048576 : Int) < m3 + (l4.length : Int)
      · go_wp2; go_ret; exact ⟨⟨_, rfl, fun h => by cases h⟩, rfl⟩
      go_wp2
      go_loop [17, 20] (fun n i => ∃ (k : Nat) (m : Int), k ≤ l4.length ∧ 0 ≤ m ∧ m ≤ 1048576 ∧ i = .int .i64 k ∧ n = .int .i64 m ∧ Small l4 k) (fun _ i => l4.length - (intOf i).toNat)
      case atStart => exact ⟨0, _, Nat.zero_le _, by omega, by omega, rfl, rfl, small_zero _⟩
      case round =>
        obtain ⟨k4, m4, hk4, hm4, hn4, rfl, rfl, sm4⟩ := hrel
        by_cases hlt4 : k4 < l4.length
        · obtain ⟨b, off, rfl, hc⟩ := hr4.2 k4 hlt4
          have hsz : (l4.getD k4 ByteArray.empty).size ≤ maxLen := hz4 _ (by rw [List.getD_eq_getElem?_getD, List.getElem?_eq_getElem hlt4]; simp)
          unfold maxLen at hsz
          have hgo := hide (fun h => small_succ (l := l4) (k := k4) sm4 h)
          generalize l4.getD k4 ByteArray.empty = s at hc hsz hgo
          by_cases u1 : (1048576 : Int) < (s.size : Int)
          · go_wp2; go_ret; exact ⟨⟨_, rfl, fun h => by cases h⟩, rfl⟩
          by_cases u2 : (1048576 : Int) < m4 + (s.size : Int)
          · go_wp2; go_ret; exact ⟨⟨_, rfl, fun h => by cases h⟩, rfl⟩
          go_wp2
          go_round
          case rel => exact ⟨k4 + 1, _, by omega, by omega, by omega, by go_num, rfl, hgo.out (by omega)⟩
          case measure => simp [intOf]; omega
        have A4 := small_all sm4 (by omega)
        by_cases t10 : (1048576 : Int) < (l5.length : Int)
        · go_wp2; go_ret; exact ⟨⟨_, rfl, fun h => by cases h⟩, rfl⟩
        by_cases t11 : (1048576 : Int) < m4 + (l5.length : Int)
        · go_wp2; go_ret; exact ⟨⟨_, rfl, fun h => by cases h⟩, rfl⟩
        go_wp2
        go_loop [17, 21] (fun n i => ∃ (k : Nat) (m : Int), k ≤ l5.length ∧ 0 ≤ m ∧ m ≤ 1048576 ∧ i = .int .i64 k ∧ n = .int .i64 m ∧ Small l5 k) (fun _ i => l5.length - (intOf i).toNat)
        case atStart => exact ⟨0, _, Nat.zero_le _, by omega, by omega, rfl, rfl, small_zero _⟩
        case round =>
          obtain ⟨k5, m5, hk5, hm5, hn5, rfl, rfl, sm5⟩ := hrel
          by_cases hlt5 : k5 < l5.length
          · obtain ⟨b, off, rfl, hc⟩ := hr5.2 k5 hlt5
            have hsz : (l5.getD k5 ByteArray.empty).size ≤ maxLen := hz5 _ (by rw [List.getD_eq_getElem?_getD, List.getElem?_eq_getElem hlt5]; simp)
            unfold maxLen at hsz
            have hgo := hide (fun h => small_succ (l := l5) (k := k5) sm5 h)
            generalize l5.getD k5 ByteArray.empty = s at hc hsz hgo
            by_cases u1 : (1048576 : Int) < (s.size : Int)
            · go_wp2; go_ret; exact ⟨⟨_, rfl, fun h => by cases h⟩, rfl⟩
            by_cases u2 : (1048576 : Int) < m5 + (s.size : Int)
            · go_wp2; go_ret; exact ⟨⟨_, rfl, fun h => by cases h⟩, rfl⟩
            go_wp2
            go_round
            case rel => exact ⟨k5 + 1, _, by omega, by omega, by omega, by go_num, rfl, hgo.out (by omega)⟩
            case measure => simp [intOf]; omega
          have A5 := small_all sm5 (by omega)
          have AA : ∀ s ∈ l0 ++ (l3 ++ (l4 ++ l5)), s.size ≤ 1048576 := by
            intro s hs
            simp only [List.mem_append] at hs
            rcases hs with h | h | h | h
            · exact A0 s h
            · exact A3 s h
            · exact A4 s h
            · exact A5 s h
          have HAA := hide AA
          clear AA A0 A3 A4 A5
          go_wp2; go_ret; exact ⟨⟨_, rfl, fun _ => HAA.out⟩, rfl⟩


/-! ### zzStrBytes, zzTxOut -/
def SumOk (e : Ending) : Prop := ∃ (r : Int) (b : Bool), e = .returned (.tuple #[.int .i64 r, .bool b]) ∧ 0 ≤ r ∧ (b = false → r ≤ 1048576)
set_option maxHeartbeats 400000 in
theorem strBytes (n : Int) (a : Option Addr) (l : List ByteArray) (c : Nat) (w : World) (hr : Row w a l) (hl : l.length ≤ maxLen) (hs : ∀ s ∈ l, s.size ≤ 1048576) (h0 : 0 ≤ n) (h : n ≤ 1048576) :
    Calls Try.prog 10 #[.int .i64 n, .slice a l.length c] w fun e w' => SumOk e ∧ w = w' := by
  unfold maxLen at hl
  go_enter Try.func10, Try.ntmps10
  go_wp2
  go_loop [0, 6] (fun n i => ∃ (k : Nat) (m : Int), k ≤ l.length ∧ 0 ≤ m ∧ m ≤ 1048576 ∧ i = .int .i64 k ∧ n = .int .i64 m) (fun _ i => l.length - (intOf i).toNat)
  case atStart => exact ⟨0, _, Nat.zero_le _, by omega, by omega, rfl, rfl⟩
  case round =>
    obtain ⟨k, m, hk, hm0, hm1, rfl, rfl⟩ := hrel
    by_cases hlt : k < l.length
    · obtain ⟨b, off, rfl, hc⟩ := hr.2 k hlt
      have hsz : (l.getD k ByteArray.empty).size ≤ 1048576 := hs _ (by rw [List.getD_eq_getElem?_getD, List.getElem?_eq_getElem hlt]; simp)
      generalize l.getD k ByteArray.empty = s at hc hsz
      by_cases h3 : 1048576 < m + (8 + (s.size : Int))
      · go_wp2
        go_ret2
        exact ⟨⟨_, _, rfl, by omega, fun h => by cases h⟩, rfl⟩
      · go_wp2
        go_round
        case rel => exact ⟨k + 1, _, by omega, by omega, by omega, by go_num, rfl⟩
        case measure => simp [intOf]; omega
    · go_wp2
      go_ret2
      exact ⟨⟨_, _, rfl, by omega, fun _ => by omega⟩, rfl⟩

/-- A bool is returned; false: the lengths are short. -/
def OutOk (e : Ending) (p : Prop) : Prop := ∃ r : Bool, e = .returned (.bool r) ∧ (r = false → p)
set_option maxRecDepth 100000 in
set_option maxHeartbeats 1000000 in
theorem txOut (a0 : Option Addr) (l0 : List ByteArray) (c0 : Nat) (a1 : Option Addr) (n1 c1 : Nat) (a2 : Option Addr) (n2 c2 : Nat) (a3 : Option Addr) (l3 : List ByteArray) (c3 : Nat) (a4 : Option Addr) (l4 : List ByteArray) (c4 : Nat) (a5 : Option Addr) (l5 : List ByteArray) (c5 : Nat) (w : World)
    (hr0 : Row w a0 l0) (hr3 : Row w a3 l3) (hr4 : Row w a4 l4) (hr5 : Row w a5 l5) (hs : ∀ s ∈ l0 ++ (l3 ++ (l4 ++ l5)), s.size ≤ 1048576) (hl0 : l0.length ≤ maxLen) (hn1 : n1 ≤ maxLen) (hn2 : n2 ≤ maxLen) (hl3 : l3.length ≤ maxLen) (hl4 : l4.length ≤ maxLen) (hl5 : l5.length ≤ maxLen) :
    Calls Try.prog 6 #[.slice a0 l0.length c0, .slice a1 n1 c1, .slice a2 n2 c2, .slice a3 l3.length c3, .slice a4 l4.length c4, .slice a5 l5.length c5, .slice none 0 0] w fun e w' => OutOk e (l0.length ≤ 4096 ∧ l3.length ≤ 4096) ∧ w = w' := by
  have HS := hide hs
  clear hs
  by_cases t0 : (4096 : Int) < (l0.length : Int)
  · go_enter Try.func6, Try.ntmps6
    go_wp2
    go_ret
    exact ⟨⟨_, rfl, fun h => by cases h⟩, rfl⟩
  by_cases t1 : (4096 : Int) < (n1 : Int)
  · go_enter Try.func6, Try.ntmps6
    go_wp2
    go_ret
    exact ⟨⟨_, rfl, fun h => by cases h⟩, rfl⟩
  by_cases t2 : (4096 : Int) < (n2 : Int)
  · go_enter Try.func6, Try.ntmps6
    go_wp2
    go_ret
    exact ⟨⟨_, rfl, fun h => by cases h⟩, rfl⟩
  by_cases t3 : (4096 : Int) < (l3.length : Int)
  · go_enter Try.func6, Try.ntmps6
    go_wp2
    go_ret
    exact ⟨⟨_, rfl, fun h => by cases h⟩, rfl⟩
  by_cases t4 : (4096 : Int) < (l4.length : Int)
  · go_enter Try.func6, Try.ntmps6
    go_wp2
    go_ret
    exact ⟨⟨_, rfl, fun h => by cases h⟩, rfl⟩
  by_cases t5 : (4096 : Int) < (l5.length : Int)
  · go_enter Try.func6, Try.ntmps6
    go_wp2
    go_ret
    exact ⟨⟨_, rfl, fun h => by cases h⟩, rfl⟩
  go_enter Try.func6, Try.ntmps6
  go_wp2_with fail
  refine (strBytes _ a0 l0 c0 w hr0 hl0 (fun s h => HS.out s (by simp [h])) (by omega) (by omega)).mono ?_
  rintro e w' ⟨⟨r1, b1, rfl, p1, q1⟩, rfl⟩
  cases b1
  case true =>
    go_wp2
    go_ret
    exact ⟨⟨_, rfl, fun h => by cases h⟩, rfl⟩
  replace q1 := q1 rfl
  go_wp2_with fail
  refine (strBytes r1 a3 l3 c3 w hr3 hl3 (fun s h => HS.out s (by simp [h])) (by omega) (by omega)).mono ?_
  rintro e w' ⟨⟨r2, b2, rfl, p2, q2⟩, rfl⟩
  cases b2
  case true =>
    go_wp2
    go_ret
    exact ⟨⟨_, rfl, fun h => by cases h⟩, rfl⟩
  replace q2 := q2 rfl
  go_wp2_with fail
  refine (strBytes r2 a4 l4 c4 w hr4 hl4 (fun s h => HS.out s (by simp [h])) (by omega) (by omega)).mono ?_
  rintro e w' ⟨⟨r3, b3, rfl, p3, q3⟩, rfl⟩
  cases b3
  case true =>
    go_wp2
    go_ret
    exact ⟨⟨_, rfl, fun h => by cases h⟩, rfl⟩
  replace q3 := q3 rfl
  go_wp2_with fail
  refine (strBytes r3 a5 l5 c5 w hr5 hl5 (fun s h => HS.out s (by simp [h])) (by omega) (by omega)).mono ?_
  rintro e w' ⟨⟨r4, b4, rfl, p4, q4⟩, rfl⟩
  have fin : l0.length ≤ 4096 ∧ l3.length ≤ 4096 := by omega
  have Fin := hide fin
  clear fin q4
  go_wp2
  go_ret
  exact ⟨⟨_, rfl, fun _ => Fin.out⟩, rfl⟩
end Go.Proofs.Qxb6615484a
