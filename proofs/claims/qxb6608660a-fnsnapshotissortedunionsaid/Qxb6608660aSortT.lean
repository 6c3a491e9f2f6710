import Derived.Test.Qxb6608660aCompact
namespace Go.Proofs.Qxb6608660a
open Go.RowKit
set_option linter.unusedVariables false

/-- The row T2 up to K: strictly ascending, the same contents as T1 up to N. -/
def Strict (T1 : Nat → Tup) (N : Nat) (T2 : Nat → Tup) (K : Nat) : Prop :=
  (∀ i j, i < j → j < K → cmpT (T2 i).l (T2 j).l = -1) ∧ (∀ j, j < K → ∃ i, i < N ∧ T2 j = T1 i) ∧ (∀ i, i < N → ∃ j, j < K ∧ (T2 j).l = (T1 i).l) ∧ K ≤ N
theorem Comp.strict {T1 : Nat → Tup} {N : Nat} {T2 : Nat → Tup} {K : Nat} (h : Comp T1 N T2 K) : Strict T1 N T2 K := ⟨h.1, h.2.1, h.2.2.1, h.2.2.2.2⟩
theorem Strict.perm {T1 : Nat → Tup} {N : Nat} {T2 : Nat → Tup} {K : Nat} {p : Nat → Nat} (h : Strict (fun j => T1 (p j)) N T2 K) (hp : ∀ j, j < N → p j < N) (hq : ∀ i, i < N → ∃ j, j < N ∧ p j = i) : Strict T1 N T2 K := by
  refine ⟨h.1, fun j hj => ?_, fun i hi => ?_, h.2.2.2⟩
  · obtain ⟨i, hi, e⟩ := h.2.1 j hj; exact ⟨p i, hp i hi, e⟩
  · obtain ⟨i', hi', e⟩ := hq i hi
    obtain ⟨j, hj, e2⟩ := h.2.2.1 i' hi'
    exact ⟨j, hj, by rw [e2, ← e]⟩

set_option maxHeartbeats 400000 in
theorem sortTuples (B N cap : Nat) (T : Nat → Tup) (w : World) (hB : B < w.heap.size) (h : Held w B N T) (hN : N ≤ 1099511627776) (hcap : N ≤ cap) :
    Calls Try.prog 38 #[.slice (some ⟨B, 0, none⟩) N cap] w fun e w' => ∃ K T2, e = .returned (.slice (some ⟨B, 0, none⟩) K cap) ∧ Strict T N T2 K ∧ Held w' B K T2 ∧ w.grownBy w' (some B) := by
  have HH := hide h
  clear h
  go_enter Try.func38, Try.ntmps38
  go_wp2_with fail
  go_at_call 42
  refine (sortFunc_tuples B N cap T w hB (fun j hj => ⟨Held.cell HH j hj, Held.frz HH j hj⟩) (Held.ok HH) (Held.far HH) (by omega)).mono ?_
  rintro e w1 ⟨rfl, p, hp, hq, hs, hc, hg⟩
  have h1 : Held w1 B N (fun j => T (p j)) := ⟨fun j hj => (hc j hj).1, fun j hj => (hc j hj).2, fun j hj => (Held.ok HH (p j) (hp j hj)).kept (Held.far HH (p j) (hp j hj)) hg, fun j hj => Held.far HH (p j) (hp j hj)⟩
  have H1 := hide h1
  have HP := hide hp
  have HQ := hide hq
  have HS := hide hs
  have HG := hide hg
  clear h1 hp hq hs hc hg
  by_cases h2 : N < 2
  · go_wp2_with fail
    go_at_call 44
    refine (compact_few _ _ _ _ _ h2).mono ?_
    rintro e w2 ⟨rfl, rfl⟩
    go_wp2
    go_ret
    refine ⟨N, fun j => T (p j), rfl, Strict.perm ⟨fun i j hij hj => ?_, fun j hj => ⟨j, hj, rfl⟩, fun i hi => ⟨i, hi, rfl⟩, Nat.le_refl _⟩ HP HQ, H1, HG⟩
    omega
  · go_wp2_with fail
    go_at_call 44
    refine (compact_all B N cap _ w1 H1 hN hcap (by omega) (fun i j hij hj => by have := HS i j hij hj; omega)).mono ?_
    rintro e w2 ⟨K, T2, rfl, hcm, hh, hg2⟩
    have HC := hide hcm
    have H2 := hide hh
    have HG2 := hide hg2
    clear hcm hh hg2
    go_wp2
    go_ret
    exact ⟨K, T2, rfl, Strict.perm (Comp.strict HC) HP HQ, H2, World.grownBy.trans HG HG2⟩
end Go.Proofs.Qxb6608660a
