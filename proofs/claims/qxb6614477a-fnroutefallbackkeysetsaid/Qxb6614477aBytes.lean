/-
  CONTRACTS of the three guards zzBytes_.. over rows of strings: each returns some bool and turns nothing.
-/
import Derived.Test.Qxb6614477aStrs
namespace Go.Proofs.Qxb6614477a
open Go.RowKit
set_option linter.unusedVariables false

/-- A bool is returned. -/
def SomeBool (e : Ending) : Prop := ∃ r : Bool, e = .returned (.bool r)

set_option maxHeartbeats 1000000 in
theorem bytesLast (s0 : ByteArray) (a1 : Option Addr) (l1 : List ByteArray) (c1 : Nat) (s2 : ByteArray) (a3 : Option Addr) (l3 : List ByteArray) (c3 : Nat) (s4 : ByteArray) (a5 : Option Addr) (l5 : List ByteArray) (c5 : Nat) (w : World) (hs0 : s0.size ≤ maxLen) (hr1 : Row w a1 l1) (hl1 : l1.length ≤ maxLen) (hz1 : ∀ s ∈ l1, s.size ≤ maxLen) (hs2 : s2.size ≤ maxLen) (hr3 : Row w a3 l3) (hl3 : l3.length ≤ maxLen) (hz3 : ∀ s ∈ l3, s.size ≤ maxLen) (hs4 : s4.size ≤ maxLen) (hr5 : Row w a5 l5) (hl5 : l5.length ≤ maxLen) (hz5 : ∀ s ∈ l5, s.size ≤ maxLen) :
    Calls Try.prog 8 #[.string s0, .slice a1 l1.length c1, .string s2, .slice a3 l3.length c3, .string s4, .slice a5 l5.length c5] w fun e w' => SomeBool e ∧ w = w' := by
  unfold maxLen at hs0 hl1 hs2 hl3 hs4 hl5
  by_cases t1 : (1048576 : Int) < (s0.size : Int)
  · go_enter Try.func8, Try.ntmps8; go_wp2; go_ret; exact ⟨⟨_, rfl⟩, rfl⟩
  by_cases t2 : (1048576 : Int) < (l1.length : Int)
  · go_enter Try.func8, Try.ntmps8; go_wp2; go_ret; exact ⟨⟨_, rfl⟩, rfl⟩
  by_cases t3 : (1048576 : Int) < (s0.size : Int) + (l1.length : Int)
  · go_enter Try.func8, Try.ntmps8; go_wp2; go_ret; exact ⟨⟨_, rfl⟩, rfl⟩
  go_enter Try.func8, Try.ntmps8
  go_wp2
  go_loop [13, 14] (fun n i => ∃ (k : Nat) (m : Int), k ≤ l1.length ∧ 0 ≤ m ∧ m ≤ 1048576 ∧ i = .int .i64 k ∧ n = .int .i64 m) (fun _ i => l1.length - (intOf i).toNat)
  case atStart => exact ⟨0, _, Nat.zero_le _, by omega, by omega, rfl, rfl⟩
  case round =>
    obtain ⟨k1, m1, hk1, hm1, hn1, rfl, rfl⟩ := hrel
    by_cases hlt1 : k1 < l1.length
    · obtain ⟨b, off, rfl, hc⟩ := hr1.2 k1 hlt1
      have hsz : (l1.getD k1 ByteArray.empty).size ≤ maxLen := hz1 _ (by rw [List.getD_eq_getElem?_getD, List.getElem?_eq_getElem hlt1]; simp)
      unfold maxLen at hsz
      generalize l1.getD k1 ByteArray.empty = s at hc hsz
      by_cases u1 : (1048576 : Int) < (s.size : Int)
      · go_wp2; go_ret; exact ⟨⟨_, rfl⟩, rfl⟩
      by_cases u2 : (1048576 : Int) < m1 + (s.size : Int)
      · go_wp2; go_ret; exact ⟨⟨_, rfl⟩, rfl⟩
      go_wp2
      go_round
      case rel => exact ⟨k1 + 1, _, by omega, by omega, by omega, by go_num, rfl⟩
      case measure => simp [intOf]; omega
    by_cases t4 : (1048576 : Int) < (s2.size : Int)
    · go_wp2; go_ret; exact ⟨⟨_, rfl⟩, rfl⟩
    by_cases t5 : (1048576 : Int) < m1 + (s2.size : Int)
    · go_wp2; go_ret; exact ⟨⟨_, rfl⟩, rfl⟩
    by_cases t6 : (1048576 : Int) < (l3.length : Int)
    · go_wp2; go_ret; exact ⟨⟨_, rfl⟩, rfl⟩
    by_cases t7 : (1048576 : Int) < m1 + (s2.size : Int) + (l3.length : Int)
    · go_wp2; go_ret; exact ⟨⟨_, rfl⟩, rfl⟩
    go_wp2
    go_loop [13, 15] (fun n i => ∃ (k : Nat) (m : Int), k ≤ l3.length ∧ 0 ≤ m ∧ m ≤ 1048576 ∧ i = .int .i64 k ∧ n = .int .i64 m) (fun _ i => l3.length - (intOf i).toNat)
    case atStart => exact ⟨0, _, Nat.zero_le _, by omega, by omega, rfl, rfl⟩
    case round =>
      obtain ⟨k3, m3, hk3, hm3, hn3, rfl, rfl⟩ := hrel
      by_cases hlt3 : k3 < l3.length
      · obtain ⟨b, off, rfl, hc⟩ := hr3.2 k3 hlt3
        have hsz : (l3.getD k3 ByteArray.empty).size ≤ maxLen := hz3 _ (by rw [List.getD_eq_getElem?_getD, List.getElem?_eq_getElem hlt3]; simp)
        unfold maxLen at hsz
        generalize l3.getD k3 ByteArray.empty = s at hc hsz
        by_cases u1 : (1048576 : Int) < (s.size : Int)
        · go_wp2; go_ret; exact ⟨⟨_, rfl⟩, rfl⟩
        by_cases u2 : (1048576 : Int) < m3 + (s.size : Int)
        · go_wp2; go_ret; exact ⟨⟨_, rfl⟩, rfl⟩
        go_wp2
        go_round
        case rel => exact ⟨k3 + 1, _, by omega, by omega, by omega, by go_num, rfl⟩
        case measure => simp [intOf]; omega
      by_cases t8 : (1048576 : Int) < (s4.size : Int)
      · go_wp2; go_ret; exact ⟨⟨_, rfl⟩, rfl⟩
      by_cases t9 : (1048576 : Int) < m3 + (s4.size : Int)
      · go_wp2; go_ret; exact ⟨⟨_, rfl⟩, rfl⟩
      by_cases t10 : (1048576 : Int) < (l5.length : Int)
      · go_wp2; go_ret; exact ⟨⟨_, rfl⟩, rfl⟩
      by_cases t11 : (1048576 : Int) < m3 + (s4.size : Int) + (l5.length : Int)
      · go_wp2; go_ret; exact ⟨⟨_, rfl⟩, rfl⟩
      go_wp2
      go_loop [13, 16] (fun n i => ∃ (k : Nat) (m : Int), k ≤ l5.length ∧ 0 ≤ m ∧ m ≤ 1048576 ∧ i = .int .i64 k ∧ n = .int .i64 m) (fun _ i => l5.length - (intOf i).toNat)
      case atStart => exact ⟨0, _, Nat.zero_le _, by omega, by omega, rfl, rfl⟩
      case round =>
        obtain ⟨k5, m5, hk5, hm5, hn5, rfl, rfl⟩ := hrel
        by_cases hlt5 : k5 < l5.length
        · obtain ⟨b, off, rfl, hc⟩ := hr5.2 k5 hlt5
          have hsz : (l5.getD k5 ByteArray.empty).size ≤ maxLen := hz5 _ (by rw [List.getD_eq_getElem?_getD, List.getElem?_eq_getElem hlt5]; simp)
          unfold maxLen at hsz
          generalize l5.getD k5 ByteArray.empty = s at hc hsz
          by_cases u1 : (1048576 : Int) < (s.size : Int)
          · go_wp2; go_ret; exact ⟨⟨_, rfl⟩, rfl⟩
          by_cases u2 : (1048576 : Int) < m5 + (s.size : Int)
          · go_wp2; go_ret; exact ⟨⟨_, rfl⟩, rfl⟩
          go_wp2
          go_round
          case rel => exact ⟨k5 + 1, _, by omega, by omega, by omega, by go_num, rfl⟩
          case measure => simp [intOf]; omega
        go_wp2; go_ret; exact ⟨⟨_, rfl⟩, rfl⟩

set_option maxHeartbeats 1000000 in
theorem bytesComm (s0 : ByteArray) (a1 : Option Addr) (l1 : List ByteArray) (c1 : Nat) (s2 : ByteArray) (a3 : Option Addr) (l3 : List ByteArray) (c3 : Nat) (a4 : Option Addr) (l4 : List ByteArray) (c4 : Nat) (w : World) (hs0 : s0.size ≤ maxLen) (hr1 : Row w a1 l1) (hl1 : l1.length ≤ maxLen) (hz1 : ∀ s ∈ l1, s.size ≤ maxLen) (hs2 : s2.size ≤ maxLen) (hr3 : Row w a3 l3) (hl3 : l3.length ≤ maxLen) (hz3 : ∀ s ∈ l3, s.size ≤ maxLen) (hr4 : Row w a4 l4) (hl4 : l4.length ≤ maxLen) (hz4 : ∀ s ∈ l4, s.size ≤ maxLen) :
    Calls Try.prog 15 #[.string s0, .slice a1 l1.length c1, .string s2, .slice a3 l3.length c3, .slice a4 l4.length c4] w fun e w' => SomeBool e ∧ w = w' := by
  unfold maxLen at hs0 hl1 hs2 hl3 hl4
  by_cases t1 : (1048576 : Int) < (s0.size : Int)
  · go_enter Try.func15, Try.ntmps15; go_wp2; go_ret; exact ⟨⟨_, rfl⟩, rfl⟩
  by_cases t2 : (1048576 : Int) < (l1.length : Int)
  · go_enter Try.func15, Try.ntmps15; go_wp2; go_ret; exact ⟨⟨_, rfl⟩, rfl⟩
  by_cases t3 : (1048576 : Int) < (s0.size : Int) + (l1.length : Int)
  · go_enter Try.func15, Try.ntmps15; go_wp2; go_ret; exact ⟨⟨_, rfl⟩, rfl⟩
  go_enter Try.func15, Try.ntmps15
  go_wp2
  go_loop [11, 12] (fun n i => ∃ (k : Nat) (m : Int), k ≤ l1.length ∧ 0 ≤ m ∧ m ≤ 1048576 ∧ i = .int .i64 k ∧ n = .int .i64 m) (fun _ i => l1.length - (intOf i).toNat)
  case atStart => exact ⟨0, _, Nat.zero_le _, by omega, by omega, rfl, rfl⟩
  case round =>
    obtain ⟨k1, m1, hk1, hm1, hn1, rfl, rfl⟩ := hrel
    by_cases hlt1 : k1 < l1.length
    · obtain ⟨b, off, rfl, hc⟩ := hr1.2 k1 hlt1
      have hsz : (l1.getD k1 ByteArray.empty).size ≤ maxLen := hz1 _ (by rw [List.getD_eq_getElem?_getD, List.getElem?_eq_getElem hlt1]; simp)
      unfold maxLen at hsz
      generalize l1.getD k1 ByteArray.empty = s at hc hsz
      by_cases u1 : (1048576 : Int) < (s.size : Int)
      · go_wp2; go_ret; exact ⟨⟨_, rfl⟩, rfl⟩
      by_cases u2 : (1048576 : Int) < m1 + (s.size : Int)
      · go_wp2; go_ret; exact ⟨⟨_, rfl⟩, rfl⟩
      go_wp2
      go_round
      case rel => exact ⟨k1 + 1, _, by omega, by omega, by omega, by go_num, rfl⟩
      case measure => simp [intOf]; omega
    by_cases t4 : (1048576 : Int) < (s2.size : Int)
    · go_wp2; go_ret; exact ⟨⟨_, rfl⟩, rfl⟩
    by_cases t5 : (1048576 : Int) < m1 + (s2.size : Int)
    · go_wp2; go_ret; exact ⟨⟨_, rfl⟩, rfl⟩
    by_cases t6 : (1048576 : Int) < (l3.length : Int)
    · go_wp2; go_ret; exact ⟨⟨_, rfl⟩, rfl⟩
    by_cases t7 : (1048576 : Int) < m1 + (s2.size : Int) + (l3.length : Int)
    · go_wp2; go_ret; exact ⟨⟨_, rfl⟩, rfl⟩
    go_wp2
    go_loop [11, 13] (fun n i => ∃ (k : Nat) (m : Int), k ≤ l3.length ∧ 0 ≤ m ∧ m ≤ 1048576 ∧ i = .int .i64 k ∧ n = .int .i64 m) (fun _ i => l3.length - (intOf i).toNat)
    case atStart => exact ⟨0, _, Nat.zero_le _, by omega, by omega, rfl, rfl⟩
    case round =>
      obtain ⟨k3, m3, hk3, hm3, hn3, rfl, rfl⟩ := hrel
      by_cases hlt3 : k3 < l3.length
      · obtain ⟨b, off, rfl, hc⟩ := hr3.2 k3 hlt3
        have hsz : (l3.getD k3 ByteArray.empty).size ≤ maxLen := hz3 _ (by rw [List.getD_eq_getElem?_getD, List.getElem?_eq_getElem hlt3]; simp)
        unfold maxLen at hsz
        generalize l3.getD k3 ByteArray.empty = s at hc hsz
        by_cases u1 : (1048576 : Int) < (s.size : Int)
        · go_wp2; go_ret; exact ⟨⟨_, rfl⟩, rfl⟩
        by_cases u2 : (1048576 : Int) < m3 + (s.size : Int)
        · go_wp2; go_ret; exact ⟨⟨_, rfl⟩, rfl⟩
        go_wp2
        go_round
        case rel => exact ⟨k3 + 1, _, by omega, by omega, by omega, by go_num, rfl⟩
        case measure => simp [intOf]; omega
      by_cases t8 : (1048576 : Int) < (l4.length : Int)
      · go_wp2; go_ret; exact ⟨⟨_, rfl⟩, rfl⟩
      by_cases t9 : (1048576 : Int) < m3 + (l4.length : Int)
      · go_wp2; go_ret; exact ⟨⟨_, rfl⟩, rfl⟩
      go_wp2
      go_loop [11, 14] (fun n i => ∃ (k : Nat) (m : Int), k ≤ l4.length ∧ 0 ≤ m ∧ m ≤ 1048576 ∧ i = .int .i64 k ∧ n = .int .i64 m) (fun _ i => l4.length - (intOf i).toNat)
      case atStart => exact ⟨0, _, Nat.zero_le _, by omega, by omega, rfl, rfl⟩
      case round =>
        obtain ⟨k4, m4, hk4, hm4, hn4, rfl, rfl⟩ := hrel
        by_cases hlt4 : k4 < l4.length
        · obtain ⟨b, off, rfl, hc⟩ := hr4.2 k4 hlt4
          have hsz : (l4.getD k4 ByteArray.empty).size ≤ maxLen := hz4 _ (by rw [List.getD_eq_getElem?_getD, List.getElem?_eq_getElem hlt4]; simp)
          unfold maxLen at hsz
          generalize l4.getD k4 ByteArray.empty = s at hc hsz
          by_cases u1 : (1048576 : Int) < (s.size : Int)
          · go_wp2; go_ret; exact ⟨⟨_, rfl⟩, rfl⟩
          by_cases u2 : (1048576 : Int) < m4 + (s.size : Int)
          · go_wp2; go_ret; exact ⟨⟨_, rfl⟩, rfl⟩
          go_wp2
          go_round
          case rel => exact ⟨k4 + 1, _, by omega, by omega, by omega, by go_num, rfl⟩
          case measure => simp [intOf]; omega
        go_wp2; go_ret; exact ⟨⟨_, rfl⟩, rfl⟩

set_option maxHeartbeats 1000000 in
theorem bytesKey (s0 : ByteArray) (s1 : ByteArray) (s2 : ByteArray) (s3 : ByteArray) (a4 : Option Addr) (l4 : List ByteArray) (c4 : Nat) (a5 : Option Addr) (l5 : List ByteArray) (c5 : Nat) (w : World) (hs0 : s0.size ≤ maxLen) (hs1 : s1.size ≤ maxLen) (hs2 : s2.size ≤ maxLen) (hs3 : s3.size ≤ maxLen) (hr4 : Row w a4 l4) (hl4 : l4.length ≤ maxLen) (hz4 : ∀ s ∈ l4, s.size ≤ maxLen) (hr5 : Row w a5 l5) (hl5 : l5.length ≤ maxLen) (hz5 : ∀ s ∈ l5, s.size ≤ maxLen) :
    Calls Try.prog 21 #[.string s0, .string s1, .string s2, .string s3, .slice a4 l4.length c4, .slice a5 l5.length c5] w fun e w' => SomeBool e ∧ w = w' := by
  unfold maxLen at hs0 hs1 hs2 hs3 hl4 hl5
  by_cases t1 : (1048576 : Int) < (s0.size : Int)
  · go_enter Try.func21, Try.ntmps21; go_wp2; go_ret; exact ⟨⟨_, rfl⟩, rfl⟩
  by_cases t2 : (1048576 : Int) < (s1.size : Int)
  · go_enter Try.func21, Try.ntmps21; go_wp2; go_ret; exact ⟨⟨_, rfl⟩, rfl⟩
  by_cases t3 : (1048576 : Int) < (s0.size : Int) + (s1.size : Int)
  · go_enter Try.func21, Try.ntmps21; go_wp2; go_ret; exact ⟨⟨_, rfl⟩, rfl⟩
  by_cases t4 : (1048576 : Int) < (s2.size : Int)
  · go_enter Try.func21, Try.ntmps21; go_wp2; go_ret; exact ⟨⟨_, rfl⟩, rfl⟩
  by_cases t5 : (1048576 : Int) < (s0.size : Int) + (s1.size : Int) + (s2.size : Int)
  · go_enter Try.func21, Try.ntmps21; go_wp2; go_ret; exact ⟨⟨_, rfl⟩, rfl⟩
  by_cases t6 : (1048576 : Int) < (s3.size : Int)
  · go_enter Try.func21, Try.ntmps21; go_wp2; go_ret; exact ⟨⟨_, rfl⟩, rfl⟩
  by_cases t7 : (1048576 : Int) < (s0.size : Int) + (s1.size : Int) + (s2.size : Int) + (s3.size : Int)
  · go_enter Try.func21, Try.ntmps21; go_wp2; go_ret; exact ⟨⟨_, rfl⟩, rfl⟩
  by_cases t8 : (1048576 : Int) < (l4.length : Int)
  · go_enter Try.func21, Try.ntmps21; go_wp2; go_ret; exact ⟨⟨_, rfl⟩, rfl⟩
  by_cases t9 : (1048576 : Int) < (s0.size : Int) + (s1.size : Int) + (s2.size : Int) + (s3.size : Int) + (l4.length : Int)
  · go_enter Try.func21, Try.ntmps21; go_wp2; go_ret; exact ⟨⟨_, rfl⟩, rfl⟩
  go_enter Try.func21, Try.ntmps21
  go_wp2
  go_loop [13, 14] (fun n i => ∃ (k : Nat) (m : Int), k ≤ l4.length ∧ 0 ≤ m ∧ m ≤ 1048576 ∧ i = .int .i64 k ∧ n = .int .i64 m) (fun _ i => l4.length - (intOf i).toNat)
  case atStart => exact ⟨0, _, Nat.zero_le _, by omega, by omega, rfl, rfl⟩
  case round =>
    obtain ⟨k4, m4, hk4, hm4, hn4, rfl, rfl⟩ := hrel
    by_cases hlt4 : k4 < l4.length
    · obtain ⟨b, off, rfl, hc⟩ := hr4.2 k4 hlt4
      have hsz : (l4.getD k4 ByteArray.empty).size ≤ maxLen := hz4 _ (by rw [List.getD_eq_getElem?_getD, List.getElem?_eq_getElem hlt4]; simp)
      unfold maxLen at hsz
      generalize l4.getD k4 ByteArray.empty = s at hc hsz
      by_cases u1 : (1048576 : Int) < (s.size : Int)
      · go_wp2; go_ret; exact ⟨⟨_, rfl⟩, rfl⟩
      by_cases u2 : (1048576 : Int) < m4 + (s.size : Int)
      · go_wp2; go_ret; exact ⟨⟨_, rfl⟩, rfl⟩
      go_wp2
      go_round
      case rel => exact ⟨k4 + 1, _, by omega, by omega, by omega, by go_num, rfl⟩
      case measure => simp [intOf]; omega
    by_cases t10 : (1048576 : Int) < (l5.length : Int)
    · go_wp2; go_ret; exact ⟨⟨_, rfl⟩, rfl⟩
    by_cases t11 : (1048576 : Int) < m4 + (l5.length : Int)
    · go_wp2; go_ret; exact ⟨⟨_, rfl⟩, rfl⟩
    go_wp2
    go_loop [13, 15] (fun n i => ∃ (k : Nat) (m : Int), k ≤ l5.length ∧ 0 ≤ m ∧ m ≤ 1048576 ∧ i = .int .i64 k ∧ n = .int .i64 m) (fun _ i => l5.length - (intOf i).toNat)
    case atStart => exact ⟨0, _, Nat.zero_le _, by omega, by omega, rfl, rfl⟩
    case round =>
      obtain ⟨k5, m5, hk5, hm5, hn5, rfl, rfl⟩ := hrel
      by_cases hlt5 : k5 < l5.length
      · obtain ⟨b, off, rfl, hc⟩ := hr5.2 k5 hlt5
        have hsz : (l5.getD k5 ByteArray.empty).size ≤ maxLen := hz5 _ (by rw [List.getD_eq_getElem?_getD, List.getElem?_eq_getElem hlt5]; simp)
        unfold maxLen at hsz
        generalize l5.getD k5 ByteArray.empty = s at hc hsz
        by_cases u1 : (1048576 : Int) < (s.size : Int)
        · go_wp2; go_ret; exact ⟨⟨_, rfl⟩, rfl⟩
        by_cases u2 : (1048576 : Int) < m5 + (s.size : Int)
        · go_wp2; go_ret; exact ⟨⟨_, rfl⟩, rfl⟩
        go_wp2
        go_round
        case rel => exact ⟨k5 + 1, _, by omega, by omega, by omega, by go_num, rfl⟩
        case measure => simp [intOf]; omega
      go_wp2; go_ret; exact ⟨⟨_, rfl⟩, rfl⟩

end Go.Proofs.Qxb6614477a
