/-
  THE PROOF OF 'Rows.FnCredentialSetCommutesSaid'. The frame ('lifted', 'over') is the guide's shell for slices of integers, turned to slices of strings.
-/
import Derived.Test.Qxb6614477aRows
import Derived.Test.Qxb6614477aHolds
import Derived.SliceStrings
import Derived.WalkKit
import Derived.ProofKit
import Derived.OpenShut
import Derived.ShutString
import Derived.ChangeOld
import Derived.Below
namespace Go.Proofs.Qxb6614477a.fnCredentialSetCommutes
open Go.ChangeShapes Go.WideShapes Go.ChangeAt Go.RowKit
open Go.ChangeMaps (open_string shut_string)
set_option linter.unusedVariables false

theorem own : ownKnob Try.prog.godebug = none := by kernel_rfl
theorem laidOut : laidOutB Try.prog = true := by kernel_rfl

theorem grown_of_below {w w' : World} (h : Below w.heap.size w w') : w.grownBy w' none := ⟨h.os, h.tape, h.output, h.size, fun k hk _ => h.block k hk⟩

set_option maxRecDepth 100000 in
set_option maxHeartbeats 4000000 in
theorem walk (s0 : ByteArray) (a1 : Option Addr) (l1 : List ByteArray) (c1 : Nat) (s2 : ByteArray) (a3 : Option Addr) (l3 : List ByteArray) (c3 : Nat) (a4 : Option Addr) (l4 : List ByteArray) (c4 : Nat) (w : World)
    (hs0 : s0.size ≤ maxLen) (h1 : IsStrs w a1 c1 l1) (hl1 : l1.length ≤ maxLen) (hz1 : ∀ s ∈ l1, s.size ≤ maxLen) (hs2 : s2.size ≤ maxLen) (h3 : IsStrs w a3 c3 l3) (hl3 : l3.length ≤ maxLen) (hz3 : ∀ s ∈ l3, s.size ≤ maxLen) (h4 : IsStrs w a4 c4 l4) (hl4 : l4.length ≤ maxLen) (hz4 : ∀ s ∈ l4, s.size ≤ maxLen) :
    Calls Try.prog 4 #[.string s0, .slice a1 l1.length c1, .string s2, .slice a3 l3.length c3, .slice a4 l4.length c4] w fun e w' => e = .returned (.bool true) ∧ Below w.heap.size w w' := by
  go_enter Try.func4, Try.ntmps4
  go_wp2_with fail
  refine (bytesComm s0 a1 l1 c1 s2 a3 l3 c3 a4 l4 c4 w hs0 h1.1 hl1 hz1 hs2 h3.1 hl3 hz3 h4.1 hl4 hz4).mono ?_
  rintro e w' ⟨⟨r, rfl⟩, rfl⟩
  cases r
  · go_wp2
    go_ret
    exact ⟨rfl, Below.refl _ _⟩
  go_wp2_with fail
  refine (addString_in 0 s0 w (by omega) (by omega) hs0).mono ?_
  rintro e w' ⟨r1, rfl, p1, q1, i1, rfl⟩
  go_wp2_with fail
  refine (addStrings_in r1 a1 l1 c1 w h1.1 hl1 hz1 (by omega) (by omega)).mono ?_
  rintro e w' ⟨r2, rfl, p2, q2, i2, rfl⟩
  go_wp2_with fail
  refine (addString_in r2 s2 w (by omega) (by omega) hs2).mono ?_
  rintro e w' ⟨r3, rfl, p3, q3, i3, rfl⟩
  go_wp2_with fail
  refine (addStrings_in r3 a3 l3 c3 w h3.1 hl3 hz3 (by omega) (by omega)).mono ?_
  rintro e w' ⟨r4, rfl, p4, q4, i4, rfl⟩
  go_wp2_with fail
  refine (addStrings_in r4 a4 l4 c4 w h4.1 hl4 hz4 (by omega) (by omega)).mono ?_
  rintro e w' ⟨r5, rfl, p5, q5, i5, rfl⟩
  by_cases hbig : 1048576 < r5
  · go_wp2
    go_ret
    exact ⟨rfl, Below.refl _ _⟩
  have hl1' : l1.length ≤ 1048576 := by omega
  have hl3' : l3.length ≤ 1048576 := by omega
  have hl4' : l4.length ≤ 1048576 := by omega
  clear i1 i2 i3 i4 i5 hl1 hl3 hl4 hz1 hz3 hz4
  by_cases heq : s0 = s2
  · have y := beq_same heq
    clear heq
    go_wp2
    go_ret
    exact ⟨rfl, Below.refl _ _⟩
  have y := beq_ne heq
  have Hne := hide heq
  clear heq
  go_wp2_with fail
  refine (clone_any a1 l1 c1 w h1 hl1').mono ?_
  rintro e w1 ⟨b1, d1, rfl, g1, n1, bel1⟩
  have N1 := hide n1
  clear n1
  go_wp2_with fail
  refine (clone_any a3 l3 c3 w1 (h3.kp (Kp.below bel1)) hl3').mono ?_
  rintro e w2 ⟨b3, d3, rfl, g3, n3, bel2⟩
  have N3 := hide n3
  clear n3
  go_wp2_with fail
  refine (clone_any a4 l4 c4 w2 ((h4.kp (Kp.below bel1)).kp (Kp.below bel2)) hl4').mono ?_
  rintro e w3 ⟨b4, d4, rfl, g4, n4, bel3⟩
  have N4 := hide n4
  clear n4
  go_wp2_with fail
  refine (clone_any b1 l1 d1 w3 ((g1.kp (Kp.below bel2)).kp (Kp.below bel3)) hl1').mono ?_
  rintro e w4 ⟨e1, f1, rfl, j1, n1, bel4⟩
  have M1 := hide n1
  clear n1
  go_wp2_with fail
  refine (clone_any b3 l3 d3 w4 ((g3.kp (Kp.below bel3)).kp (Kp.below bel4)) hl3').mono ?_
  rintro e w5 ⟨e3, f3, rfl, j3, n3, bel5⟩
  have M3 := hide n3
  clear n3
  have G1 : IsStrs w5 b1 d1 l1 := ((g1.kp (Kp.below bel2)).kp (Kp.below bel3)).kp ((Kp.below bel4).trans (Kp.below bel5))
  have G3 : IsStrs w5 b3 d3 l3 := ((g3.kp (Kp.below bel3)).kp (Kp.below bel4)).kp (Kp.below bel5)
  have G4 : IsStrs w5 b4 d4 l4 := (g4.kp (Kp.below bel4)).kp (Kp.below bel5)
  have J1 : IsStrs w5 e1 f1 l1 := j1.kp (Kp.below bel5)
  have s1 := bel1.size
  have s2' := bel2.size
  have s3 := bel3.size
  have s4' := bel4.size
  have s5 := bel5.size
  have Bel : Below w.heap.size w w5 := ((((bel1.trans (bel2.mono (by omega))).trans (bel3.mono (by omega))).trans (bel4.mono (by omega))).trans (bel5.mono (by omega)))
  have hz : w.heap.size ≤ w5.heap.size := by omega
  clear h1 h3 h4 g1 g3 g4 j1 bel1 bel2 bel3 bel4 bel5 s1 s2' s3 s4' s5
  have hmm := @run_makeMap Try.prog
  go_wp2_with fail
  refine (clone_any b4 l4 d4 _ (G4.kp (Kp.alloc w5 (.map #[] 0))) hl4').mono ?_
  rintro e w6 ⟨o1, u1, rfl, x1, n1, bel6⟩
  have X1 := hide n1
  clear n1
  have hownA6 := (World.ownsMap_made w5 Try.prog 9 vElem).kept (grown_of_below bel6) (by simp)
  obtain ⟨w7, hrun7, hownA7, ht7⟩ := hownA6.store law (t := 27) (e := 22) Try.underlying27 (by unfold maxLen; omega) (Go.WideMaps.keyOf_string_mk Try.underlying9 hs0) (val := .slice o1 l4.length u1) (d := .held (.slice o1 l4.length u1)) (ps := []) rfl
  have kp7 : Kp w5 w7 := ((Kp.alloc w5 (.map #[] 0)).trans (Kp.below bel6)).trans (Kp.map hownA6 ht7.grown)
  have z6 := bel6.size
  simp only [World.size_alloc] at z6
  have belA7 : Below w5.heap.size w5 w7 := ((((Below.refl _ _).alloc (Nat.le_refl _) (.map #[] 0)).trans (bel6.mono (by simp)))).grown ht7.grown (by omega) (fun k hk => by cases hk; exact Nat.le_refl _)
  have HA7 := hide hownA7
  have HB7 := hide belA7
  have HK7 := hide kp7
  have z7 := ht7.grown.size
  clear hownA6 hownA7 ht7 kp7 belA7 bel6
  go_wp2_with fail
  refine (clone_any b4 l4 d4 _ ((G4.kp HK7.out).kp (Kp.alloc w7 (.map #[] 0))) hl4').mono ?_
  rintro e w8 ⟨o2, u2, rfl, x2, n2, bel8⟩
  have X2 := hide n2
  clear n2
  have hownB8 := (World.ownsMap_made w7 Try.prog 9 vElem).kept (grown_of_below bel8) (by simp)
  have hownA8 := (HA7.out.alloc (.map #[] 0)).kept (grown_of_below bel8) (by simp)
  obtain ⟨w9, hrun9, hownB9, ht9⟩ := hownB8.store law (t := 27) (e := 22) Try.underlying27 (by unfold maxLen; omega) (Go.WideMaps.keyOf_string_mk Try.underlying9 hs0) (val := .slice o2 l4.length u2) (d := .held (.slice o2 l4.length u2)) (ps := []) rfl
  have hAB : (some w5.heap.size) ≠ some w7.heap.size := by intro h; simp at h; omega
  have hownA9 := hownA8.kept ht9.grown hAB
  have z8 := bel8.size
  simp only [World.size_alloc] at z8
  have kp9 : Kp w5 w9 := (HK7.out.trans ((Kp.alloc w7 (.map #[] 0)).trans (Kp.below bel8))).trans (Kp.map hownB8 ht9.grown)
  have z9 := ht9.grown.size
  have belA9 : Below w5.heap.size w5 w9 := (((HB7.out.alloc (by omega) (.map #[] 0)).trans (bel8.mono (by simp; omega)))).grown ht9.grown (by omega) (fun k hk => by cases hk; omega)
  have HA9 := hide hownA9
  have HB9 := hide hownB9
  have HBel9 := hide belA9
  have HK9 := hide kp9
  have HAB := hide hAB
  clear hownA8 hownB8 hownA9 hownB9 ht9 kp9 belA9 bel8 HA7 HB7 HK7 hAB
  go_wp2_with fail
  refine (newCred s0 e1 l1.length f1 w9).mono ?_
  rintro e w' ⟨rfl, rfl⟩
  go_wp2_with fail
  refine (newCred s2 e3 l3.length f3 _).mono ?_
  rintro e w' ⟨rfl, rfl⟩
  clear hmm hrun7 hrun9
  go_wp2_with fail
  have hownA := (((HA9.out.alloc (.cells #[.string s0, .slice e1 l1.length f1] 29)).alloc (.cells #[.string s0, .slice e1 l1.length f1] 29)).alloc (.cells #[.string s2, .slice e3 l3.length f3] 29)).alloc (.cells #[.string s2, .slice e3 l3.length f3] 29)
  have hownB := (((HB9.out.alloc (.cells #[.string s0, .slice e1 l1.length f1] 29)).alloc (.cells #[.string s0, .slice e1 l1.length f1] 29)).alloc (.cells #[.string s2, .slice e3 l3.length f3] 29)).alloc (.cells #[.string s2, .slice e3 l3.length f3] 29)
  refine (cred_set s0 e1 l1.length f1 w5.heap.size 1 _ _ hownA (by unfold maxLen; omega) hs0).mono ?_
  rintro e w10 ⟨rfl, hownA10, hg10⟩
  have kp10 := Kp.map hownA hg10
  have cA0 : w10.cell? ⟨w9.heap.size + 1, 0, none⟩ = some (.string s0) := kp10 _ _ (by simp [go_sem])
  have cA1 : w10.cell? ⟨w9.heap.size + 1, 1, none⟩ = some (.slice e1 l1.length f1) := kp10 _ _ (by simp [go_sem])
  have cB0 : w10.cell? ⟨w9.heap.size + 1 + 1 + 1, 0, none⟩ = some (.string s2) := kp10 _ _ (by simp [go_sem])
  have cB1 : w10.cell? ⟨w9.heap.size + 1 + 1 + 1, 1, none⟩ = some (.slice e3 l3.length f3) := kp10 _ _ (by simp [go_sem])
  have hownB10 := hownB.kept hg10 (Ne.symm HAB.out)
  have kpW : Kp w5 w10 := (HK9.out.trans (((Kp.alloc w9 (.cells #[.string s0, .slice e1 l1.length f1] 29)).trans (Kp.alloc _ (.cells #[.string s0, .slice e1 l1.length f1] 29))).trans ((Kp.alloc _ (.cells #[.string s2, .slice e3 l3.length f3] 29)).trans (Kp.alloc _ (.cells #[.string s2, .slice e3 l3.length f3] 29))))).trans kp10
  have belW : Below w5.heap.size w5 w10 := ((((HBel9.out.alloc (by omega) (.cells #[.string s0, .slice e1 l1.length f1] 29)).alloc (by simp; omega) (.cells #[.string s0, .slice e1 l1.length f1] 29)).alloc (by simp; omega) (.cells #[.string s2, .slice e3 l3.length f3] 29)).alloc (by simp; omega) (.cells #[.string s2, .slice e3 l3.length f3] 29)).grown hg10 (by simp; omega) (fun k hk => by cases hk; exact Nat.le_refl _)
  have zW := belW.size
  have HA10 := hide hownA10
  have HB10 := hide hownB10
  have HKW := hide kpW
  have HBW := hide belW
  clear hownA hownB hownA10 hownB10 kpW belW kp10 hg10 HA9 HB9 HBel9 HK9
  go_wp2_with fail
  refine (cred_set s2 e3 l3.length f3 w5.heap.size 2 _ w10 HA10.out (by unfold maxLen; omega) hs2).mono ?_
  rintro e w11 ⟨rfl, hownA11, hg11⟩
  have kp11 := Kp.map HA10.out hg11
  have dA0 := kp11 _ _ cA0
  have dA1 := kp11 _ _ cA1
  have dB0 := kp11 _ _ cB0
  have dB1 := kp11 _ _ cB1
  have HB11 := hide (HB10.out.kept hg11 (Ne.symm HAB.out))
  have HK11 := hide (HKW.out.trans kp11)
  have HBel11 := hide (HBW.out.grown hg11 (by omega) (fun k hk => by cases hk; exact Nat.le_refl _))
  have HA11 := hide hownA11
  have z11 := hg11.size
  clear cA0 cA1 cB0 cB1 kp11 hg11 hownA11 HA10 HB10 HKW HBW
  go_wp2_with fail
  refine (cred_set s2 e3 l3.length f3 w7.heap.size 1 _ w11 HB11.out (by unfold maxLen; omega) hs2).mono ?_
  rintro e w12 ⟨rfl, hownB12, hg12⟩
  have kp12 := Kp.map HB11.out hg12
  have eA0 := kp12 _ _ dA0
  have eA1 := kp12 _ _ dA1
  have HA12 := hide (HA11.out.kept hg12 HAB.out)
  have HK12 := hide (HK11.out.trans kp12)
  have HBel12 := hide (HBel11.out.grown hg12 (by omega) (fun k hk => by cases hk; omega))
  have HB12 := hide hownB12
  have z12 := hg12.size
  clear dA0 dA1 dB0 dB1 kp12 hg12 hownB12 HA11 HB11 HK11 HBel11
  go_wp2_with fail
  refine (cred_set s0 e1 l1.length f1 w7.heap.size 2 _ w12 HB12.out (by unfold maxLen; omega) hs0).mono ?_
  rintro e w13 ⟨rfl, hownB, hg13⟩
  have kp13 := Kp.map HB12.out hg13
  have hownA := HA12.out.kept hg13 HAB.out
  have KK := HK12.out.trans kp13
  have BelF : Below w.heap.size w w13 := Bel.trans ((HBel12.out.grown hg13 (by omega) (fun k hk => by cases hk; omega)).mono hz)
  have R1 := (G1.kp KK).1
  have R3 := (G3.kp KK).1
  have Q1 := (J1.kp KK).1
  have Q3 := (j3.kp KK).1
  have hne := Hne.out
  have szA := size3 s0 s2 s0 (.held (.slice e1 l1.length f1)) (.held (.slice e3 l3.length f3)) (.held (.slice o1 l4.length u1))
  have szB := size3 s2 s0 s0 (.held (.slice e3 l3.length f3)) (.held (.slice e1 l1.length f1)) (.held (.slice o2 l4.length u2))
  simp only [Ne.symm hne, hne, decide_true, decide_false, or_self, or_false, if_true] at szA szB
  have m0 : Maps.IsMap (DataW.map [] : DataW Value) := Maps.isMap_empty
  have mA1 := m0.put (.string s0.data.toList) (.held (.slice o1 l4.length u1))
  have mA2 := mA1.put (.string s0.data.toList) (.held (.slice e1 l1.length f1))
  have mB1 := m0.put (.string s0.data.toList) (.held (.slice o2 l4.length u2))
  have mB2 := mB1.put (.string s2.data.toList) (.held (.slice e3 l3.length f3))
  have hA2 := holds_same mA2 s2 (.slice e3 l3.length f3)
  have hA0 := holds_other (holds_same mA1 s0 (.slice e1 l1.length f1)) hne (.held (.slice e3 l3.length f3))
  have hB0 := holds_same mB2 s0 (.slice e1 l1.length f1)
  have hB2 := holds_other (holds_same mB1 s2 (.slice e3 l3.length f3)) (Ne.symm hne) (.held (.slice e1 l1.length f1))
  generalize (((DataW.map [] : DataW Value).put (.string s0.data.toList) (.held (Value.slice o1 l4.length u1))).put (.string s0.data.toList) (.held (Value.slice e1 l1.length f1))).put (.string s2.data.toList) (.held (Value.slice e3 l3.length f3)) = DA at hownA szA hA2 hA0
  generalize (((DataW.map [] : DataW Value).put (.string s0.data.toList) (.held (Value.slice o2 l4.length u2))).put (.string s2.data.toList) (.held (Value.slice e3 l3.length f3))).put (.string s0.data.toList) (.held (Value.slice e1 l1.length f1)) = DB at hownB szB hB2 hB0
  have szA' : Maps.size DA = 2 := szA
  have szB' : Maps.size DB = 2 := szB
  have lenA : ∀ ty, (Builtin.len_ #[27] ty #[.map (some w5.heap.size)]).run Try.prog w13 = .ok (.int .i64 2) w13 := fun ty => by rw [hownA.len Try.underlying27 ty, szA']; rfl
  have lenB : ∀ ty, (Builtin.len_ #[27] ty #[.map (some w7.heap.size)]).run Try.prog w13 = .ok (.int .i64 2) w13 := fun ty => by rw [hownB.len Try.underlying27 ty, szB']; rfl
  have HA2 := hide hA2
  have HA0 := hide hA0
  have HB0 := hide hB0
  have HB2 := hide hB2
  clear szA szB szA' szB' hA2 hA0 hB0 hB2 mA1 mA2 mB1 mB2 m0 hne HBel12 HK12 HA12 HB12 hg13 kp13 eA0 eA1 KK
  go_wp2_with (first
    | (go_at_call_of 14 (Value.map (some w5.heap.size)); go_at_call_of 14 (Value.string s0); refine (holds_yes w5.heap.size 3 DA s0 e1 b1 l1 f1 d1 _ ?_ hs0 HA0.out ?_ ?_ M1.out.symm hl1').mono ?_; exact hownA; exact Q1; exact R1; rintro e w' ⟨rfl, nq, rfl⟩)
    | (go_at_call_of 14 (Value.map (some w5.heap.size)); go_at_call_of 14 (Value.string s2); refine (holds_yes w5.heap.size 3 DA s2 e3 b3 l3 f3 d3 _ ?_ hs2 HA2.out ?_ ?_ M3.out.symm hl3').mono ?_; exact hownA; exact Q3; exact R3; rintro e w' ⟨rfl, nq, rfl⟩)
    | (go_at_call_of 14 (Value.map (some w7.heap.size)); go_at_call_of 14 (Value.string s0); refine (holds_yes w7.heap.size 3 DB s0 e1 b1 l1 f1 d1 _ ?_ hs0 HB0.out ?_ ?_ M1.out.symm hl1').mono ?_; exact hownB; exact Q1; exact R1; rintro e w' ⟨rfl, nq, rfl⟩)
    | (go_at_call_of 14 (Value.map (some w7.heap.size)); go_at_call_of 14 (Value.string s2); refine (holds_yes w7.heap.size 3 DB s2 e3 b3 l3 f3 d3 _ ?_ hs2 HB2.out ?_ ?_ M3.out.symm hl3').mono ?_; exact hownB; exact Q3; exact R3; rintro e w' ⟨rfl, nq, rfl⟩))
  go_ret
  exact ⟨rfl, below_drewN BelF _⟩

/-! ### THE ROW's STEP: WRITTEN OUT: LEAVE IT -/
set_option maxRecDepth 100000 in
theorem lifted (os : Os) (started : os.Started) (H : Type) (enc : TypeId × Value → H) :
    ReturnsInHanded {} Try.checked os 4 .any (Rows.fnCredentialSetCommutesSpec.pre6 enc Try.prog Try.f4 Rows.fnCredentialSetCommutesRow.domain false) (Rows.fnCredentialSetCommutesSpec.post enc Try.prog Try.f4 false true false false) := by
  refine returnsInHanded_of_change (C := Try.checked) own started (by kernel_rfl) Try.func4
    (ChangeSpec.witness6 (enc := enc) (C := Try.checked) false ⟨#[], #[.string ByteArray.empty, .slice none 0 0, .string ByteArray.empty, .slice none 0 0, .slice none 0 0], []⟩ 8 (by kernel_rfl) (by kernel_rfl) (by kernel_rfl) (by kernel_rfl)) ?_
  intro W base args ds gs before hval0 hW hcnd _
  have hval : ∀ (j : Nat) t v, Try.f4.params[j]? = some t → args[j]? = some v → Value.okWide Try.prog W .any base t v := hval0
  have hW' := hW
  obtain ⟨p, q, hA0, hV, rfl, hfz, hnd⟩ := hW
  have hA : DataW.TrodAll enc Try.prog W 0 (fun _ => true) true Try.f4.params.toList args.toList ds p := hA0
  rw [Try.params4] at hA hval
  obtain ⟨v0, vs0, d0, ds0, p0, q0, hargs, rfl, rfl, h0, r0⟩ := trodAll_cons hA
  obtain ⟨v1, vs1, d1, ds1, p1, q1, rfl, rfl, rfl, h1, r1⟩ := trodAll_cons r0
  obtain ⟨v2, vs2, d2, ds2, p2, q2, rfl, rfl, rfl, h2, r2⟩ := trodAll_cons r1
  obtain ⟨v3, vs3, d3, ds3, p3, q3, rfl, rfl, rfl, h3, r3⟩ := trodAll_cons r2
  obtain ⟨v4, vs4, d4, ds4, p4, q4, rfl, rfl, rfl, h4, r4⟩ := trodAll_cons r3
  obtain ⟨rfl, rfl, rfl⟩ := trodAll_nil r4
  obtain rfl : args = #[v0, v1, v2, v3, v4] := by cases args; simp_all
  obtain ⟨rfl, rfl⟩ := trodVars_none hV
  obtain ⟨a0, rfl, rfl, rfl, w0⟩ := open_string Try.underlying9 (hval 0 9 v0 rfl rfl) h0
  obtain ⟨a1, len1, cap1, rfl⟩ := okWide_slice Try.underlying22 (hval 1 22 v1 rfl rfl)
  have k1 := h1
  have lt1 : ∀ x ∈ p1, x.block < W.heap.size := by obtain ⟨m, hm⟩ := k1; exact DataW.trod_lt m _ _ _ hm
  obtain ⟨z1, e1, w1, m1, y1⟩ : ∃ l, len1 = l.length ∧ IsStrs W a1 cap1 l ∧ l.length ≤ maxLen ∧ ∀ s ∈ l, s.size ≤ maxLen := by
    obtain ⟨fuel, hf⟩ := h1
    rcases open_strings Try.underlying22 Try.underlying9 (by kernel_rfl) hf with ⟨hcs, _⟩ | ⟨x, l, c, ss, hcs, _, hl, hm, hz, _, hcell, hws⟩
    · simp [Value.cells] at hcs
      obtain ⟨rfl, rfl, rfl⟩ := hcs
      exact ⟨[], rfl, strs_none, by simp, by simp⟩
    · simp [Value.cells] at hcs
      obtain ⟨rfl, rfl, rfl⟩ := hcs
      exact strs_open hl hm (by simpa using hz) hcell hws
  subst e1
  obtain ⟨a2, rfl, rfl, rfl, w2⟩ := open_string Try.underlying9 (hval 2 9 v2 rfl rfl) h2
  obtain ⟨a3, len3, cap3, rfl⟩ := okWide_slice Try.underlying22 (hval 3 22 v3 rfl rfl)
  have k3 := h3
  have lt3 : ∀ x ∈ p3, x.block < W.heap.size := by obtain ⟨m, hm⟩ := k3; exact DataW.trod_lt m _ _ _ hm
  obtain ⟨z3, e3, w3, m3, y3⟩ : ∃ l, len3 = l.length ∧ IsStrs W a3 cap3 l ∧ l.length ≤ maxLen ∧ ∀ s ∈ l, s.size ≤ maxLen := by
    obtain ⟨fuel, hf⟩ := h3
    rcases open_strings Try.underlying22 Try.underlying9 (by kernel_rfl) hf with ⟨hcs, _⟩ | ⟨x, l, c, ss, hcs, _, hl, hm, hz, _, hcell, hws⟩
    · simp [Value.cells] at hcs
      obtain ⟨rfl, rfl, rfl⟩ := hcs
      exact ⟨[], rfl, strs_none, by simp, by simp⟩
    · simp [Value.cells] at hcs
      obtain ⟨rfl, rfl, rfl⟩ := hcs
      exact strs_open hl hm (by simpa using hz) hcell hws
  subst e3
  obtain ⟨a4, len4, cap4, rfl⟩ := okWide_slice Try.underlying22 (hval 4 22 v4 rfl rfl)
  have k4 := h4
  have lt4 : ∀ x ∈ p4, x.block < W.heap.size := by obtain ⟨m, hm⟩ := k4; exact DataW.trod_lt m _ _ _ hm
  obtain ⟨z4, e4, w4, m4, y4⟩ : ∃ l, len4 = l.length ∧ IsStrs W a4 cap4 l ∧ l.length ≤ maxLen ∧ ∀ s ∈ l, s.size ≤ maxLen := by
    obtain ⟨fuel, hf⟩ := h4
    rcases open_strings Try.underlying22 Try.underlying9 (by kernel_rfl) hf with ⟨hcs, _⟩ | ⟨x, l, c, ss, hcs, _, hl, hm, hz, _, hcell, hws⟩
    · simp [Value.cells] at hcs
      obtain ⟨rfl, rfl, rfl⟩ := hcs
      exact ⟨[], rfl, strs_none, by simp, by simp⟩
    · simp [Value.cells] at hcs
      obtain ⟨rfl, rfl, rfl⟩ := hcs
      exact strs_open hl hm (by simpa using hz) hcell hws
  subst e4
  clear hA0 hval0
  refine (walk a0 a1 z1 cap1 a2 a3 z3 cap3 a4 z4 cap4 W w0 w1 m1 y1 w2 w3 m3 y3 w4 m4 y4).mono fun e W' ⟨he, bel⟩ => ?_
  subst he
  exact ⟨_, rfl, _, _, _, [], _, [], hW', trodAll_mk1 (shut_bool Try.underlying4 _), (trodAll_cons_mk (shut_string Try.underlying9 w0) (trodAll_cons_mk (Below.trod laidOut (by kernel_rfl) (of_decide_eq_true (by kernel_rfl)) k1 bel lt1) (trodAll_cons_mk (shut_string Try.underlying9 w2) (trodAll_cons_mk (Below.trod laidOut (by kernel_rfl) (of_decide_eq_true (by kernel_rfl)) k3 bel lt3) (trodAll_cons_mk (Below.trod laidOut (by kernel_rfl) (of_decide_eq_true (by kernel_rfl)) k4 bel lt4) trodAll_mk0))))), rfl, bel.frame _, fun h => by cases h⟩

theorem over : Rows.fnCredentialSetCommutesRow.holds Try.pinned (OpenSpec.ofChange Rows.fnCredentialSetCommutesSpec) :=
  OpenClaim.holds_of_wide 4 Try.f4 rfl rfl rfl rfl rfl rfl rfl ⟨rfl, rfl, rfl, rfl, rfl⟩ rfl rfl rfl rfl rfl (by kernel_rfl) Try.func4 (by kernel_rfl)
    (of_decide_eq_true (by kernel_rfl)) (by unfold Func.isWrapper; first | (rw [if_pos (by decide +kernel)]; kernel_rfl) | (rw [if_neg (by decide +kernel)]; exact ⟨rfl, rfl⟩))
    (fun os started H enc _ => lifted os started H enc)

/-- ████ THE STATEMENT ████ -/
theorem proved : Rows.FnCredentialSetCommutesSaid := over
end Go.Proofs.Qxb6614477a.fnCredentialSetCommutes
