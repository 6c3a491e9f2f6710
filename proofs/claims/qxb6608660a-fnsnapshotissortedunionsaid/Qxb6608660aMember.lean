/-
  CONTRACT of memberBytes.
-/
import Derived.Test.Qxb6608660aBytes
namespace Go.Proofs.Qxb6608660a
open Go.RowKit
set_option linter.unusedVariables false

def SomeInt (e : Ending) : Prop := ∃ r : Int, e = .returned (.int .i64 r)

set_option maxRecDepth 100000 in
set_option maxHeartbeats 4000000 in
theorem memberBytes (a : Option Addr) (n c : Nat) (M : Nat → Mem) (w : World) (hr : MRaw w a n M) (hn : n ≤ 1048576) (hg : GoodM M n) :
    Calls Try.prog 18 #[.slice a n c, .int .i64 0] w fun e w' => SomeInt e ∧ w = w' := by
  have HG := hide hg
  clear hg
  go_enter Try.func18, Try.ntmps18
  go_wp2
  go_loop [1, 5] (fun z i => ∃ (k : Nat) (m : Int), k ≤ n ∧ 0 ≤ m ∧ m ≤ 3145728 ∧ i = .int .i64 k ∧ z = .int .i64 m) (fun _ i => n - (intOf i).toNat)
  case atStart => exact ⟨0, _, Nat.zero_le _, by omega, by omega, rfl, rfl⟩
  case round =>
    obtain ⟨k, m, hk, hm0, hm1, rfl, rfl⟩ := hrel
    by_cases hlt : k < n
    case neg =>
      go_wp2
      go_ret
      exact ⟨⟨_, rfl⟩, rfl⟩
    by_cases hml : m ≤ 1048576
    case neg =>
      go_wp2
      go_ret
      exact ⟨⟨_, rfl⟩, rfl⟩
    obtain ⟨⟨b, off, rfl, hc0, hc1⟩, _, ht⟩ := hr.2.2 k hlt
    obtain ⟨g1, g2, g3⟩ := HG.out k hlt
    have HG3 := hide g3
    have HR := hide hr
    clear hr g3
    generalize M k = mk at hc0 hc1 ht g1 g2 HG3
    obtain ⟨nm, ma, mn, mc, mT⟩ := mk
    simp only at hc0 hc1 ht g1 g2 HG3
    go_wp2
    go_loop [1, 7] (fun z i => ∃ (u : Nat) (m : Int), u ≤ mn ∧ 0 ≤ m ∧ m ≤ 3145728 ∧ i = .int .i64 u ∧ z = .int .i64 m) (fun _ i => mn - (intOf i).toNat)
    case atStart => exact ⟨0, _, Nat.zero_le _, by omega, by omega, rfl, rfl⟩
    case round =>
      clear hm0 hm1 hml
      obtain ⟨u, m, hu, hm0, hm1, rfl, rfl⟩ := hrel
      by_cases hult : u < mn
      case neg =>
        go_wp2
        go_round
        case rel => exact ⟨k + 1, _, by omega, by omega, by omega, by go_num, rfl⟩
        case measure => simp [intOf]; omega
      by_cases hml : m ≤ 1048576
      case neg =>
        go_wp2
        go_round
        case rel => exact ⟨k + 1, _, by omega, by omega, by omega, by go_num, rfl⟩
        case measure => simp [intOf]; omega
      obtain ⟨⟨b', off', rfl, hct⟩, hrow, _, _⟩ := ht.2.2 u hult
      obtain ⟨g4, g5⟩ := HG3.out u hult
      have HG5 := hide g5
      clear g5
      unfold Tup.val at hct
      generalize mT u = tp at hct hrow g4 HG5
      obtain ⟨ta, tl, tc⟩ := tp
      simp only at hct hrow g4 HG5
      go_wp2
      go_loop [1, 8] (fun z i => ∃ (x : Nat) (m : Int), x ≤ tl.length ∧ 0 ≤ m ∧ m ≤ 3145728 ∧ i = .int .i64 x ∧ z = .int .i64 m) (fun _ i => tl.length - (intOf i).toNat)
      case atStart => exact ⟨0, _, Nat.zero_le _, by omega, by omega, rfl, rfl⟩
      case round =>
        clear hm0 hm1 hml
        obtain ⟨x, m, hx, hm0, hm1, rfl, rfl⟩ := hrel
        by_cases hxlt : x < tl.length
        case neg =>
          go_wp2
          go_round
          case rel => exact ⟨u + 1, _, by omega, by omega, by omega, by go_num, rfl⟩
          case measure => simp [intOf]; omega
        by_cases hml : m ≤ 1048576
        case neg =>
          go_wp2
          go_round
          case rel => exact ⟨u + 1, _, by omega, by omega, by omega, by go_num, rfl⟩
          case measure => simp [intOf]; omega
        obtain ⟨b3, off3, rfl, hcs⟩ := hrow.2 x hxlt
        have g6 := HG5.out x hxlt
        generalize tl.getD x ByteArray.empty = s at hcs g6
        go_wp2
        go_round
        case rel => exact ⟨x + 1, _, by omega, by omega, by omega, by go_num, rfl⟩
        case measure => simp [intOf]; omega
end Go.Proofs.Qxb6608660a
