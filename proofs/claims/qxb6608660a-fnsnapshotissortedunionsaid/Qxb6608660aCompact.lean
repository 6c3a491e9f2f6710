import Derived.Test.Qxb6608660aSort
import Derived.Deep.RegionHeld3
import Derived.Deep.AppendLies
import Derived.Deep.Upon
import Derived.Laws.IdiomCopy
namespace Go.Proofs.Qxb6608660a
open Go.RowKit
set_option linter.unusedVariables false

/-- T2 up to K is T1 up to n with the repeats struck. -/
def Comp (T1 : Nat → Tup) (n : Nat) (T2 : Nat → Tup) (K : Nat) : Prop :=
  (∀ i j, i < j → j < K → cmpT (T2 i).l (T2 j).l = -1) ∧ (∀ j, j < K → ∃ i, i < n ∧ T2 j = T1 i) ∧ (∀ i, i < n → ∃ j, j < K ∧ (T2 j).l = (T1 i).l) ∧ (0 < K ∧ (T2 (K - 1)).l = (T1 (n - 1)).l) ∧ K ≤ n
theorem comp_one (T1 : Nat → Tup) : Comp T1 1 T1 1 :=
  ⟨fun i j h k => by omega, fun j hj => ⟨j, hj, rfl⟩, fun i hi => ⟨i, hi, rfl⟩, ⟨by omega, rfl⟩, Nat.le_refl _⟩
theorem comp_same {T1 T2 : Nat → Tup} {n K : Nat} (h : Comp T1 n T2 K) (hn : 0 < n) (he : (T1 n).l = (T1 (n - 1)).l) : Comp T1 (n + 1) T2 K := by
  obtain ⟨h1, h2, h3, ⟨h4, h5⟩, h6⟩ := h
  refine ⟨h1, fun j hj => ?_, fun i hi => ?_, ⟨h4, ?_⟩, by omega⟩
  · obtain ⟨i, hi, e⟩ := h2 j hj; exact ⟨i, by omega, e⟩
  · by_cases e : i = n
    · subst e; exact ⟨K - 1, by omega, h5.trans he.symm⟩
    · exact h3 i (by omega)
  · rw [Nat.add_sub_cancel, he]; exact h5
theorem comp_next {T1 T2 : Nat → Tup} {n K : Nat} (h : Comp T1 n T2 K) (hn : 0 < n) (hlt : cmpT (T1 (n - 1)).l (T1 n).l = -1) : Comp T1 (n + 1) (fun j => if j = K then T1 n else T2 j) (K + 1) := by
  obtain ⟨h1, h2, h3, ⟨h4, h5⟩, h6⟩ := h
  refine ⟨fun i j hij hj => ?_, fun j hj => ?_, fun i hi => ?_, ⟨by omega, ?_⟩, by omega⟩
  · by_cases e : j = K
    · subst e
      show cmpT (if i = j then T1 n else T2 i).l (if j = j then T1 n else T2 j).l = -1
      rw [if_neg (by omega), if_pos rfl]
      have hlast : cmpT (T2 (j - 1)).l (T1 n).l = -1 := by rw [h5]; exact hlt
      by_cases e2 : i = j - 1
      · subst e2; exact hlast
      · exact cmpT_trans _ _ _ (h1 i (j - 1) (by omega) (by omega)) hlast
    · show cmpT (if i = K then T1 n else T2 i).l (if j = K then T1 n else T2 j).l = -1
      rw [if_neg (by omega), if_neg e]
      exact h1 i j hij (by omega)
  · by_cases e : j = K
    · exact ⟨n, by omega, if_pos e⟩
    · obtain ⟨i, hi, q⟩ := h2 j (by omega); exact ⟨i, by omega, (if_neg e).trans q⟩
  · by_cases e : i = n
    · subst e; exact ⟨K, by omega, congrArg Tup.l (if_pos rfl)⟩
    · obtain ⟨j, hj, q⟩ := h3 i (by omega); exact ⟨j, by omega, (congrArg Tup.l (if_neg (by omega))).trans q⟩
  · show (if K + 1 - 1 = K then T1 n else T2 (K + 1 - 1)).l = (T1 (n + 1 - 1)).l
    rw [Nat.add_sub_cancel, Nat.add_sub_cancel, if_pos rfl]
theorem comp_nextSame {T1 : Nat → Tup} {n : Nat} (h : Comp T1 n T1 n) (hn : 0 < n) (hlt : cmpT (T1 (n - 1)).l (T1 n).l = -1) : Comp T1 (n + 1) T1 (n + 1) := by
  have := comp_next h hn hlt
  have e : (fun j => if j = n then T1 n else T1 j) = T1 := by
    funext j
    by_cases q : j = n
    · subst q; exact if_pos rfl
    · exact if_neg q
  rwa [e] at this

/-- What the row holds: cells of B; rows elsewhere. -/
structure Held (w : World) (B N : Nat) (T : Nat → Tup) : Prop where
  cell : ∀ j, j < N → w.cell? ⟨B, j, none⟩ = some (T j).val
  frz : ∀ j, j < N → w.frozen? ⟨B, j, none⟩ = false
  ok : ∀ j, j < N → (T j).ok w
  far : ∀ i, i < N → ∀ x, (T i).a = some x → (T i).l ≠ [] → x.block ≠ B
theorem Held.drewN {w : World} {B N : Nat} {T : Nat → Tup} (h : Held w B N T) (q : Nat) : Held (w.drewN q) B N T := ⟨h.cell, h.frz, h.ok, h.far⟩
theorem Tup.ok.kept {w w' : World} {B : Nat} {t : Tup} (h : t.ok w) (far : ∀ x, t.a = some x → t.l ≠ [] → x.block ≠ B) (hg : w.grownBy w' (some B)) : t.ok w' := by
  refine ⟨⟨h.1.1, fun i hi => ?_⟩, h.2⟩
  obtain ⟨b, off, e, hc⟩ := h.1.2 i hi
  have hne : b ≠ B := far _ e (fun h0 => by rw [h0] at hi; simp at hi)
  exact ⟨b, off, e, (hg.cell_far _ (World.block_lt_of_cell? w _ hc) (fun q => hne (by cases q; rfl))).trans hc⟩
theorem grown_drewN (w : World) (q : Nat) (r : Option Nat) : w.grownBy (w.drewN q) r := ⟨rfl, rfl, rfl, Nat.le_refl _, fun _ _ _ => rfl⟩
theorem grown_set (w : World) (a : Addr) (u : Value) : w.grownBy (w.setCell a u) (some a.block) :=
  ⟨rfl, rfl, rfl, by simp [World.setCell], fun i hi hne => Below.heap_setCell w a u i (fun e => hne (by rw [e]))⟩
theorem Held.put {w : World} {B N : Nat} {T : Nat → Tup} (h : Held w B N T) {K : Nat} (hK : K < N) {t : Tup} (ht : t.ok w) (hf : ∀ x, t.a = some x → t.l ≠ [] → x.block ≠ B) :
    Held (w.setCell ⟨B, K, none⟩ t.val) B N (fun j => if j = K then t else T j) := by
  have hg := grown_set w ⟨B, K, none⟩ t.val
  refine ⟨fun j hj => ?_, fun j hj => ?_, fun j hj => ?_, fun j hj => ?_⟩
  · by_cases e : j = K
    · subst e
      rw [if_pos rfl]
      exact World.cell?_setCell_same _ _ _ (by rw [h.cell _ hj])
    · rw [if_neg e]
      exact (World.cell?_setCell_other _ _ _ _ (fun q => e (by cases q; rfl))).trans (h.cell j hj)
  · rw [World.frozen?_setCell]; exact h.frz j hj
  · by_cases e : j = K
    · rw [if_pos e]; exact ht.kept hf hg
    · rw [if_neg e]; exact (h.ok j hj).kept (h.far j hj) hg
  · by_cases e : j = K
    · rw [if_pos e]; exact hf
    · rw [if_neg e]; exact h.far j hj

theorem grown_sets (b : Nat) : ∀ (vs : List Value) (o : Nat) (w : World), w.grownBy (w.setCells b o vs) (some b)
  | [], _, w => World.grownBy.refl _ _
  | v :: vs, o, w => (grown_set w ⟨b, o, none⟩ v).trans (grown_sets b vs (o + 1) _)

theorem Held.clear {w : World} {B N : Nat} {T : Nat → Tup} (h : Held w B N T) {K : Nat} (hK : K ≤ N) (vs : List Value) : Held (w.setCells B K vs) B K T := by
  have hg := grown_sets B vs K w
  refine ⟨fun j hj => ?_, fun j hj => ?_, fun j hj => (h.ok j (by omega)).kept (h.far j (by omega)) hg, fun j hj => h.far j (by omega)⟩
  · exact (World.cell?_setCells_out B vs K w _ (fun _ _ => Or.inl hj)).trans (h.cell j (by omega))
  · exact (World.frozen?_setCells B vs K w _).trans (h.frz j (by omega))
theorem less_of {T : Nat → Tup} {m n : Nat} (hs : 0 ≤ cmpT (T n).l (T m).l) (hne : ¬ (T n).l = (T m).l) : cmpT (T m).l (T n).l = -1 := by
  have h0 : cmpT (T n).l (T m).l ≠ 0 := fun h => hne ((cmpT_zero _ _).1 h)
  have := cmpT_vals (T n).l (T m).l
  have := cmpT_swap (T n).l (T m).l
  omega

set_option maxRecDepth 100000 in
set_option maxHeartbeats 2000000 in
theorem compact_all (B N cap : Nat) (T : Nat → Tup) (w : World) (h : Held w B N T) (hN : N ≤ 1099511627776) (hcap : N ≤ cap) (h2 : 2 ≤ N)
    (hs : ∀ i j, i < j → j < N → 0 ≤ cmpT (T j).l (T i).l) :
    Calls Try.prog 44 #[.slice (some ⟨B, 0, none⟩) N cap, .func (.func 45) #[] #[]] w fun e w' => ∃ K T2, e = .returned (.slice (some ⟨B, 0, none⟩) K cap) ∧ Comp T N T2 K ∧ Held w' B K T2 ∧ w.grownBy w' (some B) := by
  have eg : ∀ args w, (callFunc 45 args).run Try.prog w = .ok (.enter 45 args) w := enters_of Try.func45 (by kernel_rfl) rfl
  have h2i : ¬ (N : Int) < 2 := by omega
  have hci : ((N : Int) ≤ (cap : Int)) := by omega
  have HH := hide h
  have HS := hide hs
  clear h hs
  go_enter Try.func44, Try.ntmps44
  go_wp2
  go_loopw [5] (fun i wr => ∃ k : Nat, 1 ≤ k ∧ k ≤ N ∧ i = .int .i64 k ∧ Comp T k T k ∧ Held wr B N T ∧ w.grownBy wr (some B)) (fun i _ => N - (intOf i).toNat)
  case atStart => exact ⟨1, Nat.le_refl _, by omega, rfl, comp_one T, HH, World.grownBy.refl _ _⟩
  case round =>
    obtain ⟨k, hk1, hk, rfl, hc, h, hg⟩ := hrel
    have HC := hide hc
    have HD := hide h
    have HG := hide hg
    by_cases hlt : k < N
    · obtain ⟨m, hm⟩ : ∃ m, k = m + 1 := ⟨k - 1, by omega⟩
      have c0 := h.cell k hlt
      have c1 := h.cell m (by omega)
      have o0 := h.ok k hlt
      have o1 := h.ok m (by omega)
      have hsm : 0 ≤ cmpT (T k).l (T m).l := HS m k (by omega) hlt
      unfold Tup.val at c0 c1
      clear h hc hg
      have hi : (k : Int) < (N : Int) := by omega
      have hwr : IntKind.i64.wrap ((k : Int) - 1) = (m : Int) := by
        rw [IntWalk.i64_in _ (by omega)]; omega
      have hi1 : (m : Int) < (N : Int) := by omega
      have HM := hide hm
      have HSM := hide hsm
      clear hm hsm
      go_wp2
      go_quiet ((go_at_call 45; refine Calls.quiet_of (slEqual _ _ _ _ _ _ _ ?_ ?_ ?_ ?_) <;> first | exact o0.1 | exact o1.1 | exact Nat.le_trans o0.2 (by decide) | exact Nat.le_trans o1.2 (by decide)))
      by_cases he : (T k).l = (T m).l
      · rw [decide_eq_true he]
        have HE := hide he
        clear he
        go_wp2
        have hlen : ((N : Int) - (k : Int)) = ((N - k : Nat) : Int) := by omega
        go_loopw [5, 7] (fun i j wr2 => ∃ (K k2 : Nat) (U : Nat → Tup), i = .int .i64 K ∧ j = .int .i64 k2 ∧ 1 ≤ k2 ∧ k2 ≤ N - k ∧ Comp T (k + k2) U K ∧ K + 1 ≤ k + k2 ∧ Held wr2 B N U ∧ (∀ x, k + k2 ≤ x + 1 → U x = T x) ∧ w.grownBy wr2 (some B)) (fun _ j _ => N - (intOf j).toNat)
        case atStart =>
          refine ⟨k, 1, T, rfl, rfl, Nat.le_refl _, by omega, ?_, Nat.le_refl _, Held.drewN HD _, fun _ _ => rfl, World.grownBy.trans HG (grown_drewN _ _ _)⟩
          have e : m = k - 1 := by have : k = m + 1 := HM; omega
          exact comp_same HC (by omega) (by rw [← e]; exact HE)
        case round =>
          obtain ⟨K, k2, U, rfl, rfl, hk2, hk2N, hc2, hK2, hd2, hU2, hg2⟩ := hrel
          clear c0 c1 o0 o1
          by_cases hlt2 : k2 < N - k
          · obtain ⟨m2, hm2⟩ : ∃ m2, k2 = m2 + 1 := ⟨k2 - 1, by omega⟩
            have c0 := hd2.cell (k + k2) (by omega)
            have c1 := hd2.cell (k + m2) (by omega)
            have o0 := hd2.ok (k + k2) (by omega)
            have o1 := hd2.ok (k + m2) (by omega)
            have f0 := hd2.far (k + k2) (by omega)
            have z0 := hd2.frz K (by omega)
            have cK := hd2.cell K (by omega)
            rw [hU2 (k + k2) (by omega)] at c0 o0 f0
            rw [hU2 (k + m2) (by omega)] at c1 o1
            have hsm2 : 0 ≤ cmpT (T (k + k2)).l (T (k + m2)).l := HS (k + m2) (k + k2) (by omega) (by omega)
            unfold Tup.val at c0 c1 cK
            have j0 : (k2 : Int) < ((N - k : Nat) : Int) := by omega
            have jw : IntKind.i64.wrap ((k2 : Int) - 1) = (m2 : Int) := by
              rw [IntWalk.i64_in _ (by omega)]; omega
            have j1 : (m2 : Int) < ((N - k : Nat) : Int) := by omega
            have jK : (K : Int) < (N : Int) := by omega
            have HM2 := hide hm2
            have HSM2 := hide hsm2
            have HC2 := hide hc2
            have HK2 := hide hK2
            have HD2 := hide hd2
            have HU2 := hide hU2
            have HG2 := hide hg2
            clear hm2 hsm2 hc2 hK2 hd2 hU2 hg2
            generalize hNk : N - k = L at *
            have HNk := hide hNk
            have hL : L ≤ 1099511627776 := by omega
            clear hNk hlen
            go_wp2
            go_quiet ((go_at_call 45; refine Calls.quiet_of (slEqual _ _ _ _ _ _ _ ?_ ?_ ?_ ?_) <;> first | exact o0.1 | exact o1.1 | exact Nat.le_trans o0.2 (by decide) | exact Nat.le_trans o1.2 (by decide)))
            by_cases he2 : (T (k + k2)).l = (T (k + m2)).l
            · rw [decide_eq_true he2]
              have HE2 := hide he2
              clear he2
              go_wp2
              refine ⟨⟨K, k2 + 1, U, rfl, rfl, by omega, by have : N - k = L := HNk; omega, ?_, by have : K + 1 ≤ k + k2 := HK2; omega, Held.drewN HD2 _, fun x hx => HU2 x (by omega), World.grownBy.trans HG2 (grown_drewN _ _ _)⟩, ?_⟩
              · have e : k + m2 = k + k2 - 1 := by have : k2 = m2 + 1 := HM2; omega
                have hcs : Comp T (k + k2 + 1) U K := comp_same HC2 (by omega) (by rw [← e]; exact HE2)
                exact hcs
              · simp only [intOf]; have : N - k = L := HNk; omega
            · rw [decide_eq_false he2]
              have HE2 := hide he2
              clear he2
              go_wp2
              have hnx := comp_next HC2 (by omega) (by
                have e : k + m2 = k + k2 - 1 := by have : k2 = m2 + 1 := HM2; omega
                rw [← e]; exact less_of HSM2 HE2)
              have hpt := (Held.drewN HD2 nq).put (K := K) (by omega) (t := T (k + k2)) o0 f0
              refine ⟨⟨K + 1, k2 + 1, _, rfl, rfl, by omega, by have : N - k = L := HNk; omega, hnx, by have : K + 1 ≤ k + k2 := HK2; omega, hpt, fun x hx => ?_, World.grownBy.trans (World.grownBy.trans HG2 (grown_drewN _ _ _)) (grown_set _ _ _)⟩, ?_⟩
              · have : K + 1 ≤ k + k2 := HK2
                show (if x = K then T (k + k2) else U x) = T x
                rw [if_neg (by omega)]
                exact HU2 x (by omega)
              · simp only [intOf]; have : N - k = L := HNk; omega
          · have hkk : k2 = N - k := by omega
            have hkN : k + k2 = N := by omega
            rw [hkN] at hc2
            have HC2 := hide hc2
            have HD2 := hide hd2
            have HG2 := hide hg2
            have hKN : (K : Int) ≤ (N : Int) := by omega
            have hKN2 : ((N : Int) - (K : Int)) = ((N - K : Nat) : Int) := by omega
            have hclr := fun c ty => Lib.run_clear_slice (P := Try.prog) wr 57 68 ty (.slice none 0 0) Try.underlying57 (fun _ => by rfl) rfl rfl B K (N - K) c (by omega) (fun j hj => by rw [hd2.cell (K + j) (by omega)]; rfl) (fun j hj => hd2.frz (K + j) (by omega))
            clear hc2 hd2 hg2 hlen
            go_wp2
            go_ret
            refine ⟨K, U, rfl, HC2, ?_, World.grownBy.trans HG2 (grown_sets _ _ _ _)⟩
            exact Held.clear HD2 (by omega) _
      · rw [decide_eq_false he]
        have HE := hide he
        clear he
        go_wp2
        refine ⟨⟨k + 1, by omega, by omega, rfl, ?_, Held.drewN HD _, World.grownBy.trans HG (grown_drewN _ _ _)⟩, ?_⟩
        · have e : m = k - 1 := by have : k = m + 1 := HM; omega
          exact comp_nextSame HC (by omega) (by rw [← e]; exact less_of HSM HE)
        · simp only [intOf]; omega
    · have hkN : k = N := by omega
      subst hkN
      clear h hc hg
      go_wp2
      go_ret
      exact ⟨k, T, rfl, HC, HD, HG⟩

theorem compact_few (a : Option Addr) (N cap : Nat) (f : Value) (w : World) (h2 : N < 2) :
    Calls Try.prog 44 #[.slice a N cap, f] w fun e w' => e = .returned (.slice a N cap) ∧ w = w' := by
  have h2i : (N : Int) < 2 := by omega
  go_enter Try.func44, Try.ntmps44
  go_wp2
  go_ret
  exact ⟨rfl, rfl⟩

theorem comp_none (T : Nat → Tup) : (∀ i j : Nat, i < j → j < 0 → cmpT (T i).l (T j).l = -1) := fun _ _ _ h => absurd h (Nat.not_lt_zero _)
end Go.Proofs.Qxb6608660a
