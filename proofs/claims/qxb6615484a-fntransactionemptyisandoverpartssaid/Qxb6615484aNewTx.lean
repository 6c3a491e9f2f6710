/-
  THE WALK of ZZnewTx.
-/
import Derived.Test.Qxb6615484aTx
namespace Go.Proofs.Qxb6615484a
open Go.RowKit
set_option linter.unusedVariables false
set_option linter.unusedSimpArgs false

set_option maxRecDepth 100000 in
set_option maxHeartbeats 1000000 in
theorem newTx (a0 : Option Addr) (l0 : List ByteArray) (c0 : Nat) (a1 : Option Addr) (l1 : List Bool) (c1 : Nat) (a2 : Option Addr) (l2 : List Bool) (c2 : Nat) (a3 : Option Addr) (l3 : List ByteArray) (c3 : Nat) (a4 : Option Addr) (l4 : List ByteArray) (c4 : Nat) (a5 : Option Addr) (l5 : List ByteArray) (c5 : Nat) (a6 : Option Addr) (c6 : Nat) (w : World)
    (n1 n2 : Nat) (hr0 : Row w a0 l0) (hr1 : BRow w a1 l1) (hr2 : BRow w a2 l2) (hr3 : Row w a3 l3) (hr4 : Row w a4 l4) (hr5 : Row w a5 l5) (hr6 : BRow w a6 (List.replicate l3.length false)) (e1 : l1.length = l0.length) (e2 : l2.length = l0.length) (e4 : l4.length = l3.length) (e5 : l5.length = l3.length) (hl : l0.length ≤ 4096) (hl3 : l3.length ≤ 4096) :
    Calls Try.prog 11 #[.int .i64 0, .int .i64 0, .bool false, .bool false, .bool false, .bool false, .slice a0 l0.length c0, .slice a1 l0.length c1, .slice a2 l0.length c2, .slice a3 l3.length c3, .slice a4 l3.length c4, .slice a5 l3.length c5, .slice a6 l3.length c6] w fun e w' => e = .returned (.pointer (some ⟨w.heap.size + 1, 0, none⟩)) ∧ ∃ v u, Tx w w' (w.heap.size + 1) v l0.length u l3.length := by
  have hmm := @run_makeMap Try.prog
  have E1 := hide e1
  have E2 := hide e2
  have E4 := hide e4
  have E5 := hide e5
  clear e1 e2 e4 e5
  obtain ⟨i68, hi68, hz68, hs68, hb68⟩ := info_parts info68
  have I68 := hide hi68
  have Z68 := hide hz68
  have S68 := hide hs68
  have B68 := hide hb68
  clear hi68 hz68 hs68 hb68
  go_enter Try.func11, Try.ntmps11
  go_wp2
  go_loopw [53] (fun i wr => ∃ (k : Nat) (v : Value), k ≤ l0.length ∧ i = .int .i64 k ∧ Tx w wr (w.heap.size + 1) v k (.slice none 0 0) 0) (fun i _ => l0.length - (intOf i).toNat)
  case atStart =>
    refine ⟨0, .slice none 0 0, Nat.zero_le _, rfl, ⟨by simp [go_sem], by simp [go_sem], by simp [go_sem], by simp [go_sem], ⟨[], World.ownsRow_nil _ _ _ _⟩, ⟨[], World.ownsRow_nil _ _ _ _⟩, Or.inl rfl, ((Below.refl _ _).alloc (Nat.le_refl _) _).alloc (by simp) _, by omega, by simp⟩⟩
  case round =>
    obtain ⟨k, v, hk, rfl, htx⟩ := hrel
    by_cases hlt : k < l0.length
    · obtain ⟨b0, o0, rfl, hc0⟩ := hr0.2 k hlt
      obtain ⟨b1, o1, rfl, hc1⟩ := hr1.2 k (by rw [E1.out]; exact hlt)
      obtain ⟨b2, o2, rfl, hc2⟩ := hr2.2 k (by rw [E2.out]; exact hlt)
      have q0 : b0 < w.heap.size := World.block_lt_of_cell? w _ hc0
      have q1 : b1 < w.heap.size := World.block_lt_of_cell? w _ hc1
      have q2 : b2 < w.heap.size := World.block_lt_of_cell? w _ hc2
      replace hc0 := (htx.below.cell (p := ⟨b0, o0 + k, none⟩) (World.block_lt_of_cell? w _ hc0)).trans hc0
      replace hc1 := (htx.below.cell (p := ⟨b1, o1 + k, none⟩) (World.block_lt_of_cell? w _ hc1)).trans hc1
      replace hc2 := (htx.below.cell (p := ⟨b2, o2 + k, none⟩) (World.block_lt_of_cell? w _ hc2)).trans hc2
      have lt0 := World.block_lt_of_cell? wr _ hc0
      have lt1 := World.block_lt_of_cell? wr _ hc1
      have lt2 := World.block_lt_of_cell? wr _ hc2
      generalize l0.getD k ByteArray.empty = x0 at hc0
      generalize l1.getD k false = x1 at hc1
      generalize l2.getD k false = x2 at hc2
      have c3 := htx.c3
      have f3 := htx.f3
      have hsz := htx.size
      have hi : (k : Int) < (l0.length : Int) := by omega
      obtain ⟨xs, hown⟩ := htx.own3
      have HTX := hide htx
      have Hown := hide hown
      clear hr0 hr1 hr2 hr3 hr4 hr5 hr6 htx hmm
      go_wp2
      clear hown
      have C3 := hide (fun o : Obj => (World.cell?_alloc_lt (w := wr) (o := o) (a := ⟨w.heap.size + 1, 3, none⟩) (by show w.heap.size + 1 < _; omega)).trans c3)
      have F3 := hide (fun o : Obj => (World.frozen?_alloc_old (w := wr) (o := o) (a := ⟨w.heap.size + 1, 3, none⟩) (by show w.heap.size + 1 ≠ _; omega)).trans f3)
      have SZ := hide (fun o : Obj => (show w.heap.size + 1 + 1 ≤ (wr.alloc o).heap.size by rw [World.size_alloc]; omega))
      have hlt3 : w.heap.size + 1 < wr.heap.size := by omega
      have HS : ∀ L, Ask (fun w' => w'.cell? ⟨b0, o0 + k, none⟩ = some (.string x0) ∧ w'.cell? ⟨b1, o1 + k, none⟩ = some (.bool x1) ∧ w'.cell? ⟨b2, o2 + k, none⟩ = some (.bool x2)) (fun w' => w'.cell? ⟨w.heap.size + 1, 3, none⟩ = some v) 19 L wr.drew := fun L => ⟨⟨hc0, hc1, hc2⟩, fun _ => c3⟩
      have HHA : Hid (∀ o L, Ask (fun w' => w'.cell? ⟨b0, o0 + k, none⟩ = some (.string x0) ∧ w'.cell? ⟨b1, o1 + k, none⟩ = some (.bool x1) ∧ w'.cell? ⟨b2, o2 + k, none⟩ = some (.bool x2)) (fun w' => w'.cell? ⟨w.heap.size + 1, 3, none⟩ = some v) 19 L (wr.alloc o).drew) := fun o L => ⟨⟨(World.cell?_alloc_lt wr o _ lt0).trans hc0, (World.cell?_alloc_lt wr o _ lt1).trans hc1, (World.cell?_alloc_lt wr o _ lt2).trans hc2⟩, fun _ => C3.out o⟩
      have HHS := hide HS
      clear HS
      refine wp_region_noPanic ?_
      refine region_T (S1 := fun w' => w'.cell? ⟨b0, o0 + k, none⟩ = some (.string x0) ∧ w'.cell? ⟨b1, o1 + k, none⟩ = some (.bool x1) ∧ w'.cell? ⟨b2, o2 + k, none⟩ = some (.bool x2)) (S2 := fun w' => w'.cell? ⟨w.heap.size + 1, 3, none⟩ = some v) (T := 19) (by kernel_rfl) ?_
      refine anyT_take' (i := 0) (d := 56) (v := ?_) rfl rfl (by kernel_rfl) (by kernel_rfl) (by kernel_rfl) rfl (fun _ _ _ h => h) (HHS.out _) rfl (fun w hS => ?_) ?_
      rotate_left
      · (try dsimp only at hS)
        go_simp
        try with_reducible rfl
      rotate_right
      simp only [Act.put, List.setIfInBounds_toArray, List.set_cons_zero, List.set_cons_succ]
      refine anyT_take' (i := 1) (d := 57) (v := ?_) rfl rfl (by kernel_rfl) (by kernel_rfl) (by kernel_rfl) rfl (fun _ _ _ h => h) (HHS.out _) rfl (fun w hS => ?_) ?_
      rotate_left
      · (try dsimp only at hS)
        go_simp
        try with_reducible rfl
      rotate_right
      simp only [Act.put, List.setIfInBounds_toArray, List.set_cons_zero, List.set_cons_succ]
      refine anyT_take' (i := 2) (d := 58) (v := ?_) rfl rfl (by kernel_rfl) (by kernel_rfl) (by kernel_rfl) rfl (fun _ _ _ h => h) (HHS.out _) rfl (fun w hS => ?_) ?_
      rotate_left
      · (try dsimp only at hS)
        go_simp
        try with_reducible rfl
      rotate_right
      simp only [Act.put, List.setIfInBounds_toArray, List.set_cons_zero, List.set_cons_succ]
      refine anyT_take' (i := 3) (d := 59) (v := ?_) rfl rfl (by kernel_rfl) (by kernel_rfl) (by kernel_rfl) rfl (fun _ _ _ h => h) (HHS.out _) rfl (fun w hS => ?_) ?_
      rotate_left
      · (try dsimp only at hS)
        go_simp
        try with_reducible rfl
      rotate_right
      simp only [Act.put, List.setIfInBounds_toArray, List.set_cons_zero, List.set_cons_succ]
      refine anyT_take2' (i := 4) (d := 60) (v := ?_) rfl rfl (by kernel_rfl) (by kernel_rfl) (by kernel_rfl) rfl (by kernel_rfl) rfl (fun _ _ _ h => h) (HHS.out _) rfl (fun w hS hS2 => ?_) ?_
      rotate_left
      · (try dsimp only at hS)
        go_simp
        try with_reducible rfl
      rotate_right
      simp only [Act.put, List.setIfInBounds_toArray, List.set_cons_zero, List.set_cons_succ]
      refine anyT_take' (i := 5) (d := 61) (v := ?_) rfl rfl (by kernel_rfl) (by kernel_rfl) (by kernel_rfl) rfl (fun _ _ _ h => h) (HHS.out _) rfl (fun w hS => ?_) ?_
      rotate_left
      · (try dsimp only at hS)
        go_simp
        try with_reducible rfl
      rotate_right
      simp only [Act.put, List.setIfInBounds_toArray, List.set_cons_zero, List.set_cons_succ]
      refine anyT_take' (i := 6) (d := 62) (v := ?_) rfl rfl (by kernel_rfl) (by kernel_rfl) (by kernel_rfl) rfl (fun _ _ _ h => h) (HHS.out _) rfl (fun w hS => ?_) ?_
      rotate_left
      · (try dsimp only at hS)
        go_simp
        try with_reducible rfl
      rotate_right
      simp only [Act.put, List.setIfInBounds_toArray, List.set_cons_zero, List.set_cons_succ]
      refine anyT_take' (i := 7) (d := 63) (v := ?_) rfl rfl (by kernel_rfl) (by kernel_rfl) (by kernel_rfl) rfl (fun _ _ _ h => h) (HHS.out _) rfl (fun w hS => ?_) ?_
      rotate_left
      · (try dsimp only at hS)
        go_simp
        try with_reducible rfl
      rotate_right
      simp only [Act.put, List.setIfInBounds_toArray, List.set_cons_zero, List.set_cons_succ]
      refine anyT_take' (i := 8) (d := 64) (v := ?_) rfl rfl (by kernel_rfl) (by kernel_rfl) (by kernel_rfl) rfl (fun _ _ _ h => h) (HHS.out _) rfl (fun w hS => ?_) ?_
      rotate_left
      · (try dsimp only at hS)
        go_simp
        try with_reducible rfl
      rotate_right
      simp only [Act.put, List.setIfInBounds_toArray, List.set_cons_zero, List.set_cons_succ]
      refine anyT_take' (i := 9) (d := 65) (v := ?_) rfl rfl (by kernel_rfl) (by kernel_rfl) (by kernel_rfl) rfl (fun _ _ _ h => h) (HHS.out _) rfl (fun w hS => ?_) ?_
      rotate_left
      · (try dsimp only at hS)
        go_simp
        try with_reducible rfl
      rotate_right
      simp only [Act.put, List.setIfInBounds_toArray, List.set_cons_zero, List.set_cons_succ]
      refine anyT_take' (i := 10) (d := 66) (v := ?_) rfl rfl (by kernel_rfl) (by kernel_rfl) (by kernel_rfl) rfl (fun _ _ _ h => h) (HHS.out _) rfl (fun w hS => ?_) ?_
      rotate_left
      · (try dsimp only at hS)
        go_simp
        try with_reducible rfl
      rotate_right
      simp only [Act.put, List.setIfInBounds_toArray, List.set_cons_zero, List.set_cons_succ]
      refine anyT_take' (i := 11) (d := 67) (v := ?_) rfl rfl (by kernel_rfl) (by kernel_rfl) (by kernel_rfl) rfl (fun _ _ _ h => h) (HHS.out _) rfl (fun w hS => ?_) ?_
      rotate_left
      · (try dsimp only at hS)
        go_simp
        try with_reducible rfl
      rotate_right
      simp only [Act.put, List.setIfInBounds_toArray, List.set_cons_zero, List.set_cons_succ]
      refine anyT_take' (i := 12) (d := 68) (v := ?_) rfl rfl (by kernel_rfl) (by kernel_rfl) (by kernel_rfl) rfl (fun _ _ _ h => h) (HHS.out _) rfl (fun w hS => ?_) ?_
      rotate_left
      · (try dsimp only at hS)
        go_simp
        try with_reducible rfl
      rotate_right
      simp only [Act.put, List.setIfInBounds_toArray, List.set_cons_zero, List.set_cons_succ]
      refine anyT_take' (i := 13) (d := 69) (v := ?_) rfl rfl (by kernel_rfl) (by kernel_rfl) (by kernel_rfl) rfl (fun _ _ _ h => h) (HHS.out _) rfl (fun w hS => ?_) ?_
      rotate_left
      · (try dsimp only at hS)
        go_simp
        try with_reducible rfl
      rotate_right
      simp only [Act.put, List.setIfInBounds_toArray, List.set_cons_zero, List.set_cons_succ]
      refine anyT_take' (i := 14) (d := 70) (v := ?_) rfl rfl (by kernel_rfl) (by kernel_rfl) (by kernel_rfl) rfl (fun _ _ _ h => h) (HHS.out _) rfl (fun w hS => ?_) ?_
      rotate_left
      · (try dsimp only at hS)
        go_simp
        try with_reducible rfl
      rotate_right
      simp only [Act.put, List.setIfInBounds_toArray, List.set_cons_zero, List.set_cons_succ]
      refine anyT_take' (i := 15) (d := 71) (v := ?_) rfl rfl (by kernel_rfl) (by kernel_rfl) (by kernel_rfl) rfl (fun _ _ _ h => h) (HHS.out _) rfl (fun w hS => ?_) ?_
      rotate_left
      · (try dsimp only at hS)
        go_simp
        try with_reducible rfl
      rotate_right
      simp only [Act.put, List.setIfInBounds_toArray, List.set_cons_zero, List.set_cons_succ]
      refine anyT_take' (i := 16) (d := 72) (v := ?_) rfl rfl (by kernel_rfl) (by kernel_rfl) (by kernel_rfl) rfl (fun _ _ _ h => h) (HHS.out _) rfl (fun w hS => ?_) ?_
      rotate_left
      · (try dsimp only at hS)
        go_simp
        try with_reducible rfl
      rotate_right
      simp only [Act.put, List.setIfInBounds_toArray, List.set_cons_zero, List.set_cons_succ]
      refine anyT_take' (i := 17) (d := 73) (v := ?_) rfl rfl (by kernel_rfl) (by kernel_rfl) (by kernel_rfl) rfl (fun _ _ _ h => h) (HHS.out _) rfl (fun w hS => ?_) ?_
      rotate_left
      · (try dsimp only at hS)
        go_simp
        try with_reducible rfl
      rotate_right
      simp only [Act.put, List.setIfInBounds_toArray, List.set_cons_zero, List.set_cons_succ]
      refine anyT_one (i := 18) (by kernel_rfl) rfl (fun K hK => ?_)
      go_simp
      refine hK.out _ _ (HHA.out _ _) ?_
      clear hK K
      try simp only [Act.put, List.setIfInBounds_toArray, List.set_cons_zero, List.set_cons_succ]
      refine anyT_one (i := 19) (by kernel_rfl) rfl (fun K hK => ?_)
      refine step_branch rfl rfl (w.heap.size + 1) k wr.heap.size v xs x0 x1 x2 rfl rfl (MapKept.heap_alloc _ _).1 (Hown.out.alloc _) (C3.out _) (F3.out _) (by omega) (SZ.out _) ?_
      intro g cap w1 hown1 hgrow d3 g3 hkeep
      have S1a := hkeep _ _ (by show b0 ≤ _; omega) (HHA.out (.cells #[.string x0, .bool x1, .bool x2] 68) #[]).1.1
      have S1b := hkeep _ _ (by show b1 ≤ _; omega) (HHA.out (.cells #[.string x0, .bool x1, .bool x2] 68) #[]).1.2.1
      have S1c := hkeep _ _ (by show b2 ≤ _; omega) (HHA.out (.cells #[.string x0, .bool x1, .bool x2] 68) #[]).1.2.2
      refine hK.out _ _ ⟨⟨S1a, S1b, S1c⟩, fun h => absurd h (by decide)⟩ ?_
      clear hK K
      have Hkeep := hide hkeep
      have Hown1 := hide hown1
      have Hgrow := hide hgrow
      clear hkeep hown1 hgrow
      try simp only [Act.put, List.setIfInBounds_toArray, List.set_cons_zero, List.set_cons_succ]
      refine anyT_take' (i := 20) (d := 76) (v := ?_) rfl rfl (by kernel_rfl) (by kernel_rfl) (by kernel_rfl) rfl (fun _ _ _ h => h) ⟨⟨S1a, S1b, S1c⟩, fun h => absurd h (by decide)⟩ rfl (fun w hS => ?_) ?_
      rotate_left
      · (try dsimp only at hS)
        go_simp
        try with_reducible rfl
      rotate_right
      try simp only [Act.put, List.setIfInBounds_toArray, List.set_cons_zero, List.set_cons_succ]
      refine anyT_take' (i := 21) (d := 77) (v := ?_) rfl rfl (by kernel_rfl) (by kernel_rfl) (by kernel_rfl) rfl (fun _ _ _ h => h) ⟨⟨S1a, S1b, S1c⟩, fun h => absurd h (by decide)⟩ rfl (fun w hS => ?_) ?_
      rotate_left
      · (try dsimp only at hS)
        go_simp
        try with_reducible rfl
      rotate_right
      try simp only [Act.put, List.setIfInBounds_toArray, List.set_cons_zero, List.set_cons_succ]
      refine anyT_one (i := 22) (by kernel_rfl) rfl (fun K hK => ?_)
      go_simp
      refine hK.out _ _ ⟨⟨(World.cell?_setCell_far _ _ _ _ (by show w.heap.size + 1 ≠ b0; omega)).trans S1a, (World.cell?_setCell_far _ _ _ _ (by show w.heap.size + 1 ≠ b1; omega)).trans S1b, (World.cell?_setCell_far _ _ _ _ (by show w.heap.size + 1 ≠ b2; omega)).trans S1c⟩, fun h => absurd h (by decide)⟩ ?_
      clear hK K
      refine anyT_done (by kernel_rfl) (NoPanic.normal ?_) _
      go_wp2
      exact ⟨⟨k + 1, _, by omega, by go_num, HTX.out.step3 Hown1.out Hgrow.out⟩, by simp [intOf]; omega⟩
    · have hkk : k = l0.length := by omega
      subst hkk
      have HTX := hide htx
      clear htx
      go_wp2
      go_loopw [81] (fun i wr => ∃ (m : Nat) (u : Value), m ≤ l3.length ∧ i = .int .i64 m ∧ Tx w wr (w.heap.size + 1) v l0.length u m) (fun i _ => l3.length - (intOf i).toNat)
      case atStart => exact ⟨0, _, Nat.zero_le _, rfl, HTX.out⟩
      case round =>
        clear HTX
        obtain ⟨m, u, hm, rfl, htx⟩ := hrel
        by_cases hlt : m < l3.length
        · obtain ⟨b3, o3, rfl, hc3⟩ := hr3.2 m hlt
          obtain ⟨b4, o4, rfl, hc4⟩ := hr4.2 m (by rw [E4.out]; exact hlt)
          obtain ⟨b5, o5, rfl, hc5⟩ := hr5.2 m (by rw [E5.out]; exact hlt)
          obtain ⟨b6, o6, rfl, hc6⟩ := hr6.2 m (by rw [List.length_replicate]; exact hlt)
          have q6 : b6 < w.heap.size := World.block_lt_of_cell? w _ hc6
          replace hc3 := (htx.below.cell (p := ⟨b3, o3 + m, none⟩) (World.block_lt_of_cell? w _ hc3)).trans hc3
          replace hc4 := (htx.below.cell (p := ⟨b4, o4 + m, none⟩) (World.block_lt_of_cell? w _ hc4)).trans hc4
          replace hc5 := (htx.below.cell (p := ⟨b5, o5 + m, none⟩) (World.block_lt_of_cell? w _ hc5)).trans hc5
          have e6 : (List.replicate l3.length false).getD m false = false := by simp [List.getD_eq_getElem?_getD, hlt]
          rw [e6] at hc6
          have lt3 := World.new_ne wr _ hc3
          have lt4 := World.new_ne wr _ hc4
          have lt5 := World.new_ne wr _ hc5
          generalize l3.getD m ByteArray.empty = y0 at hc3
          generalize l4.getD m ByteArray.empty = y1 at hc4
          generalize l5.getD m ByteArray.empty = y2 at hc5
          have hi : (m : Int) < (l3.length : Int) := by omega
          have HTX := hide htx
          have HC6 := hide hc6
          clear hr0 hr1 hr2 hr3 hr4 hr5 hr6 htx hmm hc6 e6
          go_wp2
          go_region_held3 (fun w' => w'.cell? ⟨b3, o3 + m, none⟩ = some (.string y0) ∧ w'.cell? ⟨b4, o4 + m, none⟩ = some (.string y1) ∧ w'.cell? ⟨b5, o5 + m, none⟩ = some (.string y2)) (go_keep) (fail)
          go_wp2
          have c4 := HTX.out.c4
          have hsz := HTX.out.size
          have hub : u.ownBlock ≠ some wr.heap.size := by
            intro e
            obtain ⟨ys, hy⟩ := HTX.out.own4
            have := hy.lt _ e
            omega
          have Hub := hide hub
          clear hub
          have C4 : Hid (∀ o o' : Obj, ((wr.alloc o).alloc o').cell? ⟨w.heap.size + 1, 4, none⟩ = some u) := fun o o' => (World.cell?_alloc_lt (wr.alloc o) o' _ (by show w.heap.size + 1 < _; rw [World.size_alloc]; omega)).trans ((World.cell?_alloc_lt wr o _ (by show w.heap.size + 1 < _; omega)).trans c4)
          have C4' : Hid (∀ o : Obj, (wr.alloc o).cell? ⟨w.heap.size + 1, 4, none⟩ = some u) := fun o => (World.cell?_alloc_lt wr o _ (by show w.heap.size + 1 < _; omega)).trans c4
          have L0 : Hid (∀ i, (wr.alloc (.cells #[.string y0, .string y1, .string y2] 70)).cell? ⟨wr.heap.size, i, none⟩ = #[Value.string y0, .string y1, .string y2][i]?) := fun i => World.cell?_alloc_new wr _ _ i
          have L1 : Hid (∀ (o : Obj) (i : Nat), ((wr.alloc (.cells #[.string y0, .string y1, .string y2] 70)).alloc o).cell? ⟨wr.heap.size, i, none⟩ = #[Value.string y0, .string y1, .string y2][i]?) := fun o i => (World.cell?_alloc_lt (wr.alloc (.cells #[.string y0, .string y1, .string y2] 70)) o _ (by show wr.heap.size < _; rw [World.size_alloc]; omega)).trans (World.cell?_alloc_new wr _ _ i)
          have HHS : Hid (∀ L, Ask (fun w' => w'.cell? ⟨wr.heap.size, 0, none⟩ = some (.string y0) ∧ w'.cell? ⟨wr.heap.size, 1, none⟩ = some (.string y1) ∧ w'.cell? ⟨wr.heap.size, 2, none⟩ = some (.string y2)) (fun w' => w'.cell? ⟨w.heap.size + 1, 4, none⟩ = some u) 7 L (wr.alloc (.cells #[.string y0, .string y1, .string y2] 70)).drew.drew) := fun L => ⟨⟨L0.out 0, L0.out 1, L0.out 2⟩, fun _ => C4'.out _⟩
          have HHA : Hid (∀ o L, Ask (fun w' => w'.cell? ⟨wr.heap.size, 0, none⟩ = some (.string y0) ∧ w'.cell? ⟨wr.heap.size, 1, none⟩ = some (.string y1) ∧ w'.cell? ⟨wr.heap.size, 2, none⟩ = some (.string y2)) (fun w' => w'.cell? ⟨w.heap.size + 1, 4, none⟩ = some u) 7 L ((wr.alloc (.cells #[.string y0, .string y1, .string y2] 70)).alloc o).drew.drew) := fun o L => ⟨⟨L1.out o 0, L1.out o 1, L1.out o 2⟩, fun _ => C4.out _ o⟩
          have HN : Hid (∀ o : Obj, ((wr.alloc (.cells #[.string y0, .string y1, .string y2] 70)).alloc o).heap[wr.heap.size + 1]? = some o) := fun o => by have e := (MapKept.heap_alloc (wr.alloc (.cells #[.string y0, .string y1, .string y2] 70)) o).1; rwa [World.size_alloc] at e
          clear c4
          refine wp_region_noPanic ?_
          refine region_T (S1 := (fun w' => w'.cell? ⟨wr.heap.size, 0, none⟩ = some (.string y0) ∧ w'.cell? ⟨wr.heap.size, 1, none⟩ = some (.string y1) ∧ w'.cell? ⟨wr.heap.size, 2, none⟩ = some (.string y2))) (S2 := (fun w' => w'.cell? ⟨w.heap.size + 1, 4, none⟩ = some u)) (T := 7) (by kernel_rfl) ?_
          refine anyT_take' (i := 0) (d := 97) (v := ?_) rfl rfl (by kernel_rfl) (by kernel_rfl) (by kernel_rfl) rfl (fun _ _ _ h => h) (HHS.out _) rfl (fun w hS => ?_) ?_
          rotate_left
          · (try dsimp only at hS)
            go_simp
            try with_reducible rfl
          rotate_right
          simp only [Act.put, List.setIfInBounds_toArray, List.set_cons_zero, List.set_cons_succ]
          refine anyT_take' (i := 1) (d := 98) (v := ?_) rfl rfl (by kernel_rfl) (by kernel_rfl) (by kernel_rfl) rfl (fun _ _ _ h => h) (HHS.out _) rfl (fun w hS => ?_) ?_
          rotate_left
          · (try dsimp only at hS)
            go_simp
            try with_reducible rfl
          rotate_right
          simp only [Act.put, List.setIfInBounds_toArray, List.set_cons_zero, List.set_cons_succ]
          refine anyT_take' (i := 2) (d := 99) (v := ?_) rfl rfl (by kernel_rfl) (by kernel_rfl) (by kernel_rfl) rfl (fun _ _ _ h => h) (HHS.out _) rfl (fun w hS => ?_) ?_
          rotate_left
          · (try dsimp only at hS)
            go_simp
            try with_reducible rfl
          rotate_right
          simp only [Act.put, List.setIfInBounds_toArray, List.set_cons_zero, List.set_cons_succ]
          refine anyT_take' (i := 3) (d := 100) (v := ?_) rfl rfl (by kernel_rfl) (by kernel_rfl) (by kernel_rfl) rfl (fun _ _ _ h => h) (HHS.out _) rfl (fun w hS => ?_) ?_
          rotate_left
          · (try dsimp only at hS)
            go_simp
            try with_reducible rfl
          rotate_right
          simp only [Act.put, List.setIfInBounds_toArray, List.set_cons_zero, List.set_cons_succ]
          refine anyT_take2' (i := 4) (d := 101) (v := ?_) rfl rfl (by kernel_rfl) (by kernel_rfl) (by kernel_rfl) rfl (by kernel_rfl) rfl (fun _ _ _ h => h) (HHS.out _) rfl (fun w hS hS2 => ?_) ?_
          rotate_left
          · (try dsimp only at hS)
            go_simp
            try with_reducible rfl
          rotate_right
          simp only [Act.put, List.setIfInBounds_toArray, List.set_cons_zero, List.set_cons_succ]
          refine anyT_take' (i := 5) (d := 102) (v := ?_) rfl rfl (by kernel_rfl) (by kernel_rfl) (by kernel_rfl) rfl (fun _ _ _ h => h) (HHS.out _) rfl (fun w hS => ?_) ?_
          rotate_left
          · (try dsimp only at hS)
            go_simp
            try with_reducible rfl
          rotate_right
          simp only [Act.put, List.setIfInBounds_toArray, List.set_cons_zero, List.set_cons_succ]
          refine anyT_one (i := 6) (by kernel_rfl) rfl (fun K hK => ?_)
          go_simp
          refine hK.out _ _ (HHA.out _ _) ?_
          clear hK K
          try simp only [Act.put, List.setIfInBounds_toArray, List.set_cons_zero, List.set_cons_succ]
          refine anyT_one (i := 7) (by kernel_rfl) rfl (fun K hK => ?_)
          refine step_sub rfl rfl w (w.heap.size + 1) l0.length m (wr.heap.size + 1) v u y0 y1 y2 rfl rfl (HN.out _) ((HTX.out.alloc _).alloc _).drew.drew (by omega) ?_
          intro g cap w1 d4 g4 hkeep htx1
          have S1a := hkeep _ _ (by show wr.heap.size < (((wr.alloc (.cells #[.string y0, .string y1, .string y2] 70)).alloc _).heap.size); rw [World.size_alloc, World.size_alloc]; omega) Hub.out (HHA.out (.cells #[.string y0, .string y1, .string y2] 70) #[]).1.1
          have S1b := hkeep _ _ (by show wr.heap.size < (((wr.alloc (.cells #[.string y0, .string y1, .string y2] 70)).alloc _).heap.size); rw [World.size_alloc, World.size_alloc]; omega) Hub.out (HHA.out (.cells #[.string y0, .string y1, .string y2] 70) #[]).1.2.1
          have S1c := hkeep _ _ (by show wr.heap.size < (((wr.alloc (.cells #[.string y0, .string y1, .string y2] 70)).alloc _).heap.size); rw [World.size_alloc, World.size_alloc]; omega) Hub.out (HHA.out (.cells #[.string y0, .string y1, .string y2] 70) #[]).1.2.2
          refine hK.out _ _ ⟨⟨S1a, S1b, S1c⟩, fun h => absurd h (by decide)⟩ ?_
          clear hK K
          have HTX1 := hide htx1
          clear hkeep htx1
          try simp only [Act.put, List.setIfInBounds_toArray, List.set_cons_zero, List.set_cons_succ]
          refine anyT_take' (i := 8) (d := 105) (v := ?_) rfl rfl (by kernel_rfl) (by kernel_rfl) (by kernel_rfl) rfl (fun _ _ _ h => h) ⟨⟨S1a, S1b, S1c⟩, fun h => absurd h (by decide)⟩ rfl (fun w hS => ?_) ?_
          rotate_left
          · (try dsimp only at hS)
            go_simp
            try with_reducible rfl
          rotate_right
          try simp only [Act.put, List.setIfInBounds_toArray, List.set_cons_zero, List.set_cons_succ]
          refine anyT_take' (i := 9) (d := 106) (v := ?_) rfl rfl (by kernel_rfl) (by kernel_rfl) (by kernel_rfl) rfl (fun _ _ _ h => h) ⟨⟨S1a, S1b, S1c⟩, fun h => absurd h (by decide)⟩ rfl (fun w hS => ?_) ?_
          rotate_left
          · (try dsimp only at hS)
            go_simp
            try with_reducible rfl
          rotate_right
          try simp only [Act.put, List.setIfInBounds_toArray, List.set_cons_zero, List.set_cons_succ]
          refine anyT_one (i := 10) (by kernel_rfl) rfl (fun K hK => ?_)
          go_simp
          refine hK.out _ _ ⟨⟨(World.cell?_setCell_far _ _ _ _ (by show w.heap.size + 1 ≠ wr.heap.size; omega)).trans S1a, (World.cell?_setCell_far _ _ _ _ (by show w.heap.size + 1 ≠ wr.heap.size; omega)).trans S1b, (World.cell?_setCell_far _ _ _ _ (by show w.heap.size + 1 ≠ wr.heap.size; omega)).trans S1c⟩, fun h => absurd h (by decide)⟩ ?_
          clear hK K
          refine anyT_done (by kernel_rfl) (NoPanic.normal ?_) _
          have hc6 := (HTX1.out.below.cell (p := ⟨b6, o6 + m, none⟩) q6).trans HC6.out
          go_wp2
          exact ⟨⟨m + 1, _, by omega, by go_num, HTX1.out⟩, by simp [intOf]; omega⟩
        · have hmm' : m = l3.length := by omega
          subst hmm'
          have HTX := hide htx
          clear htx
          go_wp2
          go_ret
          exact ⟨rfl, v, u, HTX.out⟩
end Go.Proofs.Qxb6615484a
