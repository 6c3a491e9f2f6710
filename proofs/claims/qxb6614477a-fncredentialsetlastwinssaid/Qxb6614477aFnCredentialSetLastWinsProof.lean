/-
  THE PROOF OF 'Rows.FnCredentialSetLastWinsSaid'. The frame ('lifted', 'over') is the guide's shell for slices of integers, turned to slices of strings.
-/
import Derived.Test.Qxb6614477aRows
import Derived.Test.Qxb6614477aHolds
import Derived.SliceStrings
import Derived.WalkKit
import Derived.ProofKit
import Derived.OpenShut
import Derived.ShutString
import Derived.ChangeOld
import Derived.Below
namespace Go.Proofs.Qxb6614477a.fnCredentialSetLastWins
open Go.ChangeShapes Go.WideShapes Go.ChangeAt Go.RowKit
open Go.ChangeMaps (open_string shut_string)
set_option linter.unusedVariables false

theorem own : ownKnob Try.prog.godebug = none := by kernel_rfl
theorem laidOut : laidOutB Try.prog = true := by kernel_rfl

set_option maxRecDepth 100000 in
set_option maxHeartbeats 2000000 in
theorem walk (s0 : ByteArray) (a1 : Option Addr) (l1 : List ByteArray) (c1 : Nat) (s2 : ByteArray) (a3 : Option Addr) (l3 : List ByteArray) (c3 : Nat) (s4 : ByteArray) (a5 : Option Addr) (l5 : List ByteArray) (c5 : Nat) (w : World)
    (hs0 : s0.size ≤ maxLen) (h1 : IsStrs w a1 c1 l1) (hl1 : l1.length ≤ maxLen) (hz1 : ∀ s ∈ l1, s.size ≤ maxLen) (hs2 : s2.size ≤ maxLen) (h3 : IsStrs w a3 c3 l3) (hl3 : l3.length ≤ maxLen) (hz3 : ∀ s ∈ l3, s.size ≤ maxLen) (hs4 : s4.size ≤ maxLen) (h5 : IsStrs w a5 c5 l5) (hl5 : l5.length ≤ maxLen) (hz5 : ∀ s ∈ l5, s.size ≤ maxLen) :
    Calls Try.prog 3 #[.string s0, .slice a1 l1.length c1, .string s2, .slice a3 l3.length c3, .string s4, .slice a5 l5.length c5] w fun e w' => e = .returned (.bool true) ∧ Below w.heap.size w w' := by
  go_enter Try.func3, Try.ntmps3
  go_wp2_with fail
  refine (bytesLast s0 a1 l1 c1 s2 a3 l3 c3 s4 a5 l5 c5 w hs0 h1.1 hl1 hz1 hs2 h3.1 hl3 hz3 hs4 h5.1 hl5 hz5).mono ?_
  rintro e w' ⟨⟨r, rfl⟩, rfl⟩
  cases r
  · go_wp2
    go_ret
    exact ⟨rfl, Below.refl _ _⟩
  go_wp2_with fail
  refine (addString_in 0 s0 w (by omega) (by omega) hs0).mono ?_
  rintro e w' ⟨r1, rfl, p1, q1, i1, rfl⟩
  go_wp2_with fail
  refine (addStrings_in r1 a1 l1 c1 w h1.1 hl1 hz1 (by omega) (by omega)).mono ?_
  rintro e w' ⟨r2, rfl, p2, q2, i2, rfl⟩
  go_wp2_with fail
  refine (addString_in r2 s2 w (by omega) (by omega) hs2).mono ?_
  rintro e w' ⟨r3, rfl, p3, q3, i3, rfl⟩
  go_wp2_with fail
  refine (addStrings_in r3 a3 l3 c3 w h3.1 hl3 hz3 (by omega) (by omega)).mono ?_
  rintro e w' ⟨r4, rfl, p4, q4, i4, rfl⟩
  go_wp2_with fail
  refine (addString_in r4 s4 w (by omega) (by omega) hs4).mono ?_
  rintro e w' ⟨r5, rfl, p5, q5, i5, rfl⟩
  go_wp2_with fail
  refine (addStrings_in r5 a5 l5 c5 w h5.1 hl5 hz5 (by omega) (by omega)).mono ?_
  rintro e w' ⟨r6, rfl, p6, q6, i6, rfl⟩
  by_cases hbig : 1048576 < r6
  · go_wp2
    go_ret
    exact ⟨rfl, Below.refl _ _⟩
  have hl1' : l1.length ≤ 1048576 := by omega
  have hl3' : l3.length ≤ 1048576 := by omega
  have hl5' : l5.length ≤ 1048576 := by omega
  clear i1 i2 i3 i4 i5 i6 hl1 hl3 hl5 hz1 hz3 hz5
  go_wp2_with fail
  refine (clone_any a1 l1 c1 w h1 hl1').mono ?_
  rintro e w1 ⟨b1, d1, rfl, g1, n1, bel1⟩
  have N1 := hide n1
  clear n1
  go_wp2_with fail
  refine (clone_any a3 l3 c3 w1 (h3.kp (Kp.below bel1)) hl3').mono ?_
  rintro e w2 ⟨b3, d3, rfl, g3, n3, bel2⟩
  have N3 := hide n3
  clear n3
  go_wp2_with fail
  refine (clone_any a5 l5 c5 w2 ((h5.kp (Kp.below bel1)).kp (Kp.below bel2)) hl5').mono ?_
  rintro e w3 ⟨b5, d5, rfl, g5, n5, bel3⟩
  have N5 := hide n5
  clear n5
  go_wp2_with fail
  refine (clone_any b1 l1 d1 w3 ((g1.kp (Kp.below bel2)).kp (Kp.below bel3)) hl1').mono ?_
  rintro e w4 ⟨e1, f1, rfl, j1, n1, bel4⟩
  have M1 := hide n1
  clear n1
  go_wp2_with fail
  refine (clone_any b3 l3 d3 w4 ((g3.kp (Kp.below bel3)).kp (Kp.below bel4)) hl3').mono ?_
  rintro e w5 ⟨e3, f3, rfl, j3, n3, bel5⟩
  have M3 := hide n3
  clear n3
  go_wp2_with fail
  refine (clone_any b5 l5 d5 w5 ((g5.kp (Kp.below bel4)).kp (Kp.below bel5)) hl5').mono ?_
  rintro e w6 ⟨e5, f5, rfl, j5, n5, bel6⟩
  have M5 := hide n5
  clear n5
  -- the rows as they lie in w6
  have G1 : IsStrs w6 b1 d1 l1 := (((g1.kp (Kp.below bel2)).kp (Kp.below bel3)).kp (Kp.below bel4)).kp ((Kp.below bel5).trans (Kp.below bel6))
  have G3 : IsStrs w6 b3 d3 l3 := (((g3.kp (Kp.below bel3)).kp (Kp.below bel4)).kp (Kp.below bel5)).kp (Kp.below bel6)
  have G5 : IsStrs w6 b5 d5 l5 := ((g5.kp (Kp.below bel4)).kp (Kp.below bel5)).kp (Kp.below bel6)
  have J1 : IsStrs w6 e1 f1 l1 := (j1.kp (Kp.below bel5)).kp (Kp.below bel6)
  have J3 : IsStrs w6 e3 f3 l3 := j3.kp (Kp.below bel6)
  have s1 := bel1.size
  have s2' := bel2.size
  have s3 := bel3.size
  have s4' := bel4.size
  have s5 := bel5.size
  have s6 := bel6.size
  have Bel : Below w.heap.size w w6 := (((((bel1.trans (bel2.mono (by omega))).trans (bel3.mono (by omega))).trans (bel4.mono (by omega))).trans (bel5.mono (by omega))).trans (bel6.mono (by omega)))
  have hz : w.heap.size ≤ w6.heap.size := by omega
  clear h1 h3 h5 g1 g3 g5 j1 j3 bel1 bel2 bel3 bel4 bel5 bel6 s1 s2' s3 s4' s5 s6
  have hmm := @run_makeMap Try.prog
  obtain ⟨w8, hrun8, hown8, ht8⟩ := (World.ownsMap_made w6 Try.prog 9 vElem).store law (t := 27) (e := 22) Try.underlying27 (by unfold maxLen; omega) (Go.WideMaps.keyOf_string_mk Try.underlying9 hs4) (val := .slice e5 l5.length f5) (d := .held (.slice e5 l5.length f5)) (ps := []) rfl
  have Hown8 := hide hown8
  have Ht8 := hide ht8
  clear hown8 ht8
  go_wp2_with fail
  refine (newCred s0 e1 l1.length f1 w8).mono ?_
  rintro e w' ⟨rfl, rfl⟩
  go_wp2_with fail
  refine (newCred s2 e3 l3.length f3 _).mono ?_
  rintro e w' ⟨rfl, rfl⟩
  go_wp2_with fail
  have hownA := (((Hown8.out.alloc (.cells #[.string s0, .slice e1 l1.length f1] 29)).alloc (.cells #[.string s0, .slice e1 l1.length f1] 29)).alloc (.cells #[.string s2, .slice e3 l3.length f3] 29)).alloc (.cells #[.string s2, .slice e3 l3.length f3] 29)
  refine (cred_set s0 e1 l1.length f1 w6.heap.size 1 _ _ hownA (by unfold maxLen; omega) hs0).mono ?_
  rintro e w9 ⟨rfl, hown9, hg9⟩
  have kp9 := Kp.map hownA hg9
  have cA : w9.cell? ⟨w8.heap.size + 1 + 1 + 1, 0, none⟩ = some (.string s2) := kp9 _ _ (by simp [go_sem])
  have cB : w9.cell? ⟨w8.heap.size + 1 + 1 + 1, 1, none⟩ = some (.slice e3 l3.length f3) := kp9 _ _ (by simp [go_sem])
  have Kp9 := hide kp9
  have HownA := hide hownA
  have Hown9 := hide hown9
  have Hg9 := hide hg9
  clear kp9 hownA hown9 hg9
  go_wp2_with fail
  refine (cred_set s2 e3 l3.length f3 w6.heap.size 2 _ w9 Hown9.out (by unfold maxLen; omega) hs2).mono ?_
  rintro e w10 ⟨rfl, hown10, hg10⟩
  -- what the map holds now, and where the rows lie
  have D := size3 s0 s2 s4 (.held (.slice e1 l1.length f1)) (.held (.slice e3 l3.length f3)) (.held (.slice e5 l5.length f5))
  have m0 : Maps.IsMap (DataW.map [] : DataW Value) := Maps.isMap_empty
  have m1 := m0.put (.string s4.data.toList) (.held (.slice e5 l5.length f5))
  have m2 := m1.put (.string s0.data.toList) (.held (.slice e1 l1.length f1))
  have hd2 := holds_same m2 s2 (.slice e3 l3.length f3)
  have hd0 : s0 ≠ s2 → Holds _ s0 (.slice e1 l1.length f1) := fun hne => holds_other (holds_same m1 s0 (.slice e1 l1.length f1)) hne (.held (.slice e3 l3.length f3))
  have hd4 : s4 ≠ s0 → s4 ≠ s2 → Holds _ s4 (.slice e5 l5.length f5) := fun h0 h2 => holds_other (holds_other (holds_same m0 s4 (.slice e5 l5.length f5)) h0 (.held (.slice e1 l1.length f1))) h2 (.held (.slice e3 l3.length f3))
  generalize (((DataW.map [] : DataW Value).put (.string s4.data.toList) (.held (Value.slice e5 l5.length f5))).put (.string s0.data.toList) (.held (Value.slice e1 l1.length f1))).put (.string s2.data.toList) (.held (Value.slice e3 l3.length f3)) = DD at hown10 D hd2 hd0 hd4
  have kpm : Kp w6 (w6.alloc (.map #[] 0)) := Kp.alloc _ _
  have kp8 : Kp (w6.alloc (.map #[] 0)) w8 := Kp.map (World.ownsMap_made w6 Try.prog 9 vElem) Ht8.out.grown
  have kpA : Kp w8 w9 := (((Kp.alloc w8 (.cells #[.string s0, .slice e1 l1.length f1] 29)).trans (Kp.alloc _ (.cells #[.string s0, .slice e1 l1.length f1] 29))).trans ((Kp.alloc _ (.cells #[.string s2, .slice e3 l3.length f3] 29)).trans (Kp.alloc _ (.cells #[.string s2, .slice e3 l3.length f3] 29)))).trans Kp9.out
  have kp10 : Kp w6 w10 := ((kpm.trans kp8).trans kpA).trans (Kp.map Hown9.out hg10)
  have bel8 : Below w6.heap.size w6 w8 := ((Below.refl _ _).alloc (Nat.le_refl _) (.map #[] 0)).grown Ht8.out.grown (by simp) (fun k hk => by cases hk; exact Nat.le_refl _)
  have z8 := bel8.size
  have belA : Below w6.heap.size w6 w9 := ((((bel8.alloc (by omega) (.cells #[.string s0, .slice e1 l1.length f1] 29)).alloc (by simp; omega) (.cells #[.string s0, .slice e1 l1.length f1] 29)).alloc (by simp; omega) (.cells #[.string s2, .slice e3 l3.length f3] 29)).alloc (by simp; omega) (.cells #[.string s2, .slice e3 l3.length f3] 29)).grown Hg9.out (by simp; omega) (fun k hk => by cases hk; exact Nat.le_refl _)
  have z9 := belA.size
  have bel10 : Below w6.heap.size w6 w10 := belA.grown hg10 (by omega) (fun k hk => by cases hk; exact Nat.le_refl _)
  have BelF : Below w.heap.size w w10 := Bel.trans (bel10.mono hz)
  have R1 := (G1.kp kp10).1
  have R3 := (G3.kp kp10).1
  have R5 := (G5.kp kp10).1
  have Q1 := (J1.kp kp10).1
  have Q3 := (J3.kp kp10).1
  have Q5 := (j5.kp kp10).1
  clear kpm kp8 kpA bel8 z8 belA z9 bel10 m0 m1 m2 Hown8 Ht8 Kp9 HownA Hown9 Hg9 hg10 cA cB hrun8 hmm
  have Hd2 := hide hd2
  have Hd0 := hide hd0
  have Hd4 := hide hd4
  have HD := hide D
  clear hd2 hd0 hd4 D
  by_cases x1 : s0 = s4
  · by_cases x3 : s2 = s0
    · have x2 : s2 = s4 := x3.trans x1
      have y1a := beq_same (x1)
      have y1b := beq_same (x1.symm)
      have y2a := beq_same (x2)
      have y2b := beq_same (x2.symm)
      have y3a := beq_same (x3)
      have y3b := beq_same (x3.symm)
      have hsz : Maps.size DD = 1 := by rw [HD.out]; simp [*]
      clear x1 x2 x3
      go_wp2_with (first | (at_len; refine wpList_len_own _ rfl _ 27 rfl 9 22 Try.underlying27 _ w6.heap.size 3 DD rfl hown10 ?_) | (go_at_call_of 14 (Value.string s2); refine (holds_yes w6.heap.size 3 DD s2 e3 b3 l3 f3 d3 _ ?_ hs2 Hd2.out ?_ ?_ M3.out.symm hl3').mono ?_; exact hown10; exact Q3; exact R3; rintro e w' ⟨rfl, nq, rfl⟩))
      go_ret
      exact ⟨rfl, below_drewN BelF _⟩
    · have x2 : s2 ≠ s4 := fun h => x3 (h.trans x1.symm)
      have X02 := hide (Ne.symm x3)
      have y1a := beq_same (x1)
      have y1b := beq_same (x1.symm)
      have y2a := beq_ne (x2)
      have y2b := beq_ne (x2.symm)
      have y3a := beq_ne (x3)
      have y3b := beq_ne (Ne.symm x3)
      have hsz : Maps.size DD = 2 := by rw [HD.out]; simp [*]
      clear x1 x2 x3
      go_wp2_with (first | (at_len; refine wpList_len_own _ rfl _ 27 rfl 9 22 Try.underlying27 _ w6.heap.size 3 DD rfl hown10 ?_) | (go_at_call_of 14 (Value.string s2); refine (holds_yes w6.heap.size 3 DD s2 e3 b3 l3 f3 d3 _ ?_ hs2 Hd2.out ?_ ?_ M3.out.symm hl3').mono ?_; exact hown10; exact Q3; exact R3; rintro e w' ⟨rfl, nq, rfl⟩) | (go_at_call_of 14 (Value.string s0); refine (holds_yes w6.heap.size 3 DD s0 e1 b1 l1 f1 d1 _ ?_ hs0 (Hd0.out X02.out) ?_ ?_ M1.out.symm hl1').mono ?_; exact hown10; exact Q1; exact R1; rintro e w' ⟨rfl, nq, rfl⟩))
      go_ret
      exact ⟨rfl, below_drewN BelF _⟩
  · by_cases x3 : s2 = s0
    · have x2 : s2 ≠ s4 := fun h => x1 (x3.symm.trans h)
      have y1a := beq_ne (x1)
      have y1b := beq_ne (Ne.symm x1)
      have y2a := beq_ne (x2)
      have y2b := beq_ne (x2.symm)
      have y3a := beq_same (x3)
      have y3b := beq_same (x3.symm)
      have X40 := hide (Ne.symm x1)
      have X42 := hide x2.symm
      have hsz : Maps.size DD = 2 := by rw [HD.out]; simp [*]
      clear x1 x2 x3
      go_wp2_with (first | (at_len; refine wpList_len_own _ rfl _ 27 rfl 9 22 Try.underlying27 _ w6.heap.size 3 DD rfl hown10 ?_) | (go_at_call_of 14 (Value.string s2); refine (holds_yes w6.heap.size 3 DD s2 e3 b3 l3 f3 d3 _ ?_ hs2 Hd2.out ?_ ?_ M3.out.symm hl3').mono ?_; exact hown10; exact Q3; exact R3; rintro e w' ⟨rfl, nq, rfl⟩) | (go_at_call_of 14 (Value.string s4); refine (holds_yes w6.heap.size 3 DD s4 e5 b5 l5 f5 d5 _ ?_ hs4 (Hd4.out X40.out X42.out) ?_ ?_ M5.out.symm hl5').mono ?_; exact hown10; exact Q5; exact R5; rintro e w' ⟨rfl, nq, rfl⟩))
      go_ret
      exact ⟨rfl, below_drewN BelF _⟩
    · by_cases x2 : s2 = s4
      · have y1a := beq_ne (x1)
        have y1b := beq_ne (Ne.symm x1)
        have y2a := beq_same (x2)
        have y2b := beq_same (x2.symm)
        have y3a := beq_ne (x3)
        have y3b := beq_ne (Ne.symm x3)
        have X02 := hide (Ne.symm x3)
        have hsz : Maps.size DD = 2 := by rw [HD.out]; simp [*]
        clear x1 x2 x3
        go_wp2_with (first | (at_len; refine wpList_len_own _ rfl _ 27 rfl 9 22 Try.underlying27 _ w6.heap.size 3 DD rfl hown10 ?_) | (go_at_call_of 14 (Value.string s2); refine (holds_yes w6.heap.size 3 DD s2 e3 b3 l3 f3 d3 _ ?_ hs2 Hd2.out ?_ ?_ M3.out.symm hl3').mono ?_; exact hown10; exact Q3; exact R3; rintro e w' ⟨rfl, nq, rfl⟩) | (go_at_call_of 14 (Value.string s0); refine (holds_yes w6.heap.size 3 DD s0 e1 b1 l1 f1 d1 _ ?_ hs0 (Hd0.out X02.out) ?_ ?_ M1.out.symm hl1').mono ?_; exact hown10; exact Q1; exact R1; rintro e w' ⟨rfl, nq, rfl⟩))
        go_ret
        exact ⟨rfl, below_drewN BelF _⟩
      have y1a := beq_ne (x1)
      have y1b := beq_ne (Ne.symm x1)
      have y2a := beq_ne (x2)
      have y2b := beq_ne (Ne.symm x2)
      have y3a := beq_ne (x3)
      have y3b := beq_ne (Ne.symm x3)
      have X02 := hide (Ne.symm x3)
      have X40 := hide (Ne.symm x1)
      have X42 := hide (Ne.symm x2)
      have hsz : Maps.size DD = 3 := by rw [HD.out]; simp [*]
      clear x1 x2 x3
      go_wp2_with (first | (at_len; refine wpList_len_own _ rfl _ 27 rfl 9 22 Try.underlying27 _ w6.heap.size 3 DD rfl hown10 ?_) | (go_at_call_of 14 (Value.string s2); refine (holds_yes w6.heap.size 3 DD s2 e3 b3 l3 f3 d3 _ ?_ hs2 Hd2.out ?_ ?_ M3.out.symm hl3').mono ?_; exact hown10; exact Q3; exact R3; rintro e w' ⟨rfl, nq, rfl⟩) | (go_at_call_of 14 (Value.string s0); refine (holds_yes w6.heap.size 3 DD s0 e1 b1 l1 f1 d1 _ ?_ hs0 (Hd0.out X02.out) ?_ ?_ M1.out.symm hl1').mono ?_; exact hown10; exact Q1; exact R1; rintro e w' ⟨rfl, nq, rfl⟩) | (go_at_call_of 14 (Value.string s4); refine (holds_yes w6.heap.size 3 DD s4 e5 b5 l5 f5 d5 _ ?_ hs4 (Hd4.out X40.out X42.out) ?_ ?_ M5.out.symm hl5').mono ?_; exact hown10; exact Q5; exact R5; rintro e w' ⟨rfl, nq, rfl⟩))
      go_ret
      exact ⟨rfl, below_drewN BelF _⟩

/-! ### THE ROW's STEP: WRITTEN OUT: LEAVE IT -/
set_option maxRecDepth 100000 in
theorem lifted (os : Os) (started : os.Started) (H : Type) (enc : TypeId × Value → H) :
    ReturnsInHanded {} Try.checked os 3 .any (Rows.fnCredentialSetLastWinsSpec.pre6 enc Try.prog Try.f3 Rows.fnCredentialSetLastWinsRow.domain false) (Rows.fnCredentialSetLastWinsSpec.post enc Try.prog Try.f3 false true false false) := by
  refine returnsInHanded_of_change (C := Try.checked) own started (by kernel_rfl) Try.func3
    (ChangeSpec.witness6 (enc := enc) (C := Try.checked) false ⟨#[], #[.string ByteArray.empty, .slice none 0 0, .string ByteArray.empty, .slice none 0 0, .string ByteArray.empty, .slice none 0 0], []⟩ 8 (by kernel_rfl) (by kernel_rfl) (by kernel_rfl) (by kernel_rfl)) ?_
  intro W base args ds gs before hval0 hW hcnd _
  have hval : ∀ (j : Nat) t v, Try.f3.params[j]? = some t → args[j]? = some v → Value.okWide Try.prog W .any base t v := hval0
  have hW' := hW
  obtain ⟨p, q, hA0, hV, rfl, hfz, hnd⟩ := hW
  have hA : DataW.TrodAll enc Try.prog W 0 (fun _ => true) true Try.f3.params.toList args.toList ds p := hA0
  rw [Try.params3] at hA hval
  obtain ⟨v0, vs0, d0, ds0, p0, q0, hargs, rfl, rfl, h0, r0⟩ := trodAll_cons hA
  obtain ⟨v1, vs1, d1, ds1, p1, q1, rfl, rfl, rfl, h1, r1⟩ := trodAll_cons r0
  obtain ⟨v2, vs2, d2, ds2, p2, q2, rfl, rfl, rfl, h2, r2⟩ := trodAll_cons r1
  obtain ⟨v3, vs3, d3, ds3, p3, q3, rfl, rfl, rfl, h3, r3⟩ := trodAll_cons r2
  obtain ⟨v4, vs4, d4, ds4, p4, q4, rfl, rfl, rfl, h4, r4⟩ := trodAll_cons r3
  obtain ⟨v5, vs5, d5, ds5, p5, q5, rfl, rfl, rfl, h5, r5⟩ := trodAll_cons r4
  obtain ⟨rfl, rfl, rfl⟩ := trodAll_nil r5
  obtain rfl : args = #[v0, v1, v2, v3, v4, v5] := by cases args; simp_all
  obtain ⟨rfl, rfl⟩ := trodVars_none hV
  obtain ⟨a0, rfl, rfl, rfl, w0⟩ := open_string Try.underlying9 (hval 0 9 v0 rfl rfl) h0
  obtain ⟨a1, len1, cap1, rfl⟩ := okWide_slice Try.underlying22 (hval 1 22 v1 rfl rfl)
  have k1 := h1
  have lt1 : ∀ x ∈ p1, x.block < W.heap.size := by obtain ⟨m, hm⟩ := k1; exact DataW.trod_lt m _ _ _ hm
  obtain ⟨z1, e1, w1, m1, y1⟩ : ∃ l, len1 = l.length ∧ IsStrs W a1 cap1 l ∧ l.length ≤ maxLen ∧ ∀ s ∈ l, s.size ≤ maxLen := by
    obtain ⟨fuel, hf⟩ := h1
    rcases open_strings Try.underlying22 Try.underlying9 (by kernel_rfl) hf with ⟨hcs, _⟩ | ⟨x, l, c, ss, hcs, _, hl, hm, hz, _, hcell, hws⟩
    · simp [Value.cells] at hcs
      obtain ⟨rfl, rfl, rfl⟩ := hcs
      exact ⟨[], rfl, strs_none, by simp, by simp⟩
    · simp [Value.cells] at hcs
      obtain ⟨rfl, rfl, rfl⟩ := hcs
      exact strs_open hl hm (by simpa using hz) hcell hws
  subst e1
  obtain ⟨a2, rfl, rfl, rfl, w2⟩ := open_string Try.underlying9 (hval 2 9 v2 rfl rfl) h2
  obtain ⟨a3, len3, cap3, rfl⟩ := okWide_slice Try.underlying22 (hval 3 22 v3 rfl rfl)
  have k3 := h3
  have lt3 : ∀ x ∈ p3, x.block < W.heap.size := by obtain ⟨m, hm⟩ := k3; exact DataW.trod_lt m _ _ _ hm
  obtain ⟨z3, e3, w3, m3, y3⟩ : ∃ l, len3 = l.length ∧ IsStrs W a3 cap3 l ∧ l.length ≤ maxLen ∧ ∀ s ∈ l, s.size ≤ maxLen := by
    obtain ⟨fuel, hf⟩ := h3
    rcases open_strings Try.underlying22 Try.underlying9 (by kernel_rfl) hf with ⟨hcs, _⟩ | ⟨x, l, c, ss, hcs, _, hl, hm, hz, _, hcell, hws⟩
    · simp [Value.cells] at hcs
      obtain ⟨rfl, rfl, rfl⟩ := hcs
      exact ⟨[], rfl, strs_none, by simp, by simp⟩
    · simp [Value.cells] at hcs
      obtain ⟨rfl, rfl, rfl⟩ := hcs
      exact strs_open hl hm (by simpa using hz) hcell hws
  subst e3
  obtain ⟨a4, rfl, rfl, rfl, w4⟩ := open_string Try.underlying9 (hval 4 9 v4 rfl rfl) h4
  obtain ⟨a5, len5, cap5, rfl⟩ := okWide_slice Try.underlying22 (hval 5 22 v5 rfl rfl)
  have k5 := h5
  have lt5 : ∀ x ∈ p5, x.block < W.heap.size := by obtain ⟨m, hm⟩ := k5; exact DataW.trod_lt m _ _ _ hm
  obtain ⟨z5, e5, w5, m5, y5⟩ : ∃ l, len5 = l.length ∧ IsStrs W a5 cap5 l ∧ l.length ≤ maxLen ∧ ∀ s ∈ l, s.size ≤ maxLen := by
    obtain ⟨fuel, hf⟩ := h5
    rcases open_strings Try.underlying22 Try.underlying9 (by kernel_rfl) hf with ⟨hcs, _⟩ | ⟨x, l, c, ss, hcs, _, hl, hm, hz, _, hcell, hws⟩
    · simp [Value.cells] at hcs
      obtain ⟨rfl, rfl, rfl⟩ := hcs
      exact ⟨[], rfl, strs_none, by simp, by simp⟩
    · simp [Value.cells] at hcs
      obtain ⟨rfl, rfl, rfl⟩ := hcs
      exact strs_open hl hm (by simpa using hz) hcell hws
  subst e5
  clear hA0 hval0
  refine (walk a0 a1 z1 cap1 a2 a3 z3 cap3 a4 a5 z5 cap5 W w0 w1 m1 y1 w2 w3 m3 y3 w4 w5 m5 y5).mono fun e W' ⟨he, bel⟩ => ?_
  subst he
  exact ⟨_, rfl, _, _, _, [], _, [], hW', trodAll_mk1 (shut_bool Try.underlying4 _), (trodAll_cons_mk (shut_string Try.underlying9 w0) (trodAll_cons_mk (Below.trod laidOut (by kernel_rfl) (of_decide_eq_true (by kernel_rfl)) k1 bel lt1) (trodAll_cons_mk (shut_string Try.underlying9 w2) (trodAll_cons_mk (Below.trod laidOut (by kernel_rfl) (of_decide_eq_true (by kernel_rfl)) k3 bel lt3) (trodAll_cons_mk (shut_string Try.underlying9 w4) (trodAll_cons_mk (Below.trod laidOut (by kernel_rfl) (of_decide_eq_true (by kernel_rfl)) k5 bel lt5) trodAll_mk0)))))), rfl, bel.frame _, fun h => by cases h⟩

theorem over : Rows.fnCredentialSetLastWinsRow.holds Try.pinned (OpenSpec.ofChange Rows.fnCredentialSetLastWinsSpec) :=
  OpenClaim.holds_of_wide 3 Try.f3 rfl rfl rfl rfl rfl rfl rfl ⟨rfl, rfl, rfl, rfl, rfl⟩ rfl rfl rfl rfl rfl (by kernel_rfl) Try.func3 (by kernel_rfl)
    (of_decide_eq_true (by kernel_rfl)) (by unfold Func.isWrapper; first | (rw [if_pos (by decide +kernel)]; kernel_rfl) | (rw [if_neg (by decide +kernel)]; exact ⟨rfl, rfl⟩))
    (fun os started H enc _ => lifted os started H enc)

/-- ████ THE STATEMENT ████ -/
theorem proved : Rows.FnCredentialSetLastWinsSaid := over
end Go.Proofs.Qxb6614477a.fnCredentialSetLastWins
