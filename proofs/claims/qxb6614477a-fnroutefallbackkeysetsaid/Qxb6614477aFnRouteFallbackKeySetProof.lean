/-
  THE PROOF OF 'Rows.FnRouteFallbackKeySetSaid'. The frame ('lifted', 'over') is the guide's shell for slices of integers, turned to slices of strings.
-/
import Derived.Test.Qxb6614477aRows
import Derived.Test.Qxb6614477aHolds
import Derived.SliceStrings
import Derived.WalkKit
import Derived.ProofKit
import Derived.OpenShut
import Derived.ShutString
import Derived.ChangeOld
import Derived.Below
namespace Go.Proofs.Qxb6614477a.fnRouteFallbackKeySet
open Go.ChangeShapes Go.WideShapes Go.ChangeAt Go.RowKit
open Go.ChangeMaps (open_string shut_string)
set_option linter.unusedVariables false

theorem own : ownKnob Try.prog.godebug = none := by kernel_rfl
theorem laidOut : laidOutB Try.prog = true := by kernel_rfl

/-- The block of a new Route. -/
def rtBlock (a b : ByteArray) (f : Value) : Array Value := #[.string a, .string b, .pointer none, .int .i64 0, .string { data := #[] }, .string { data := #[] }, .slice none 0 0, .pointer none, f, .string { data := #[] }, .string { data := #[] }]
theorem newRoute_any (a b : ByteArray) (f : Option Addr) (w : World) :
    Calls Try.prog 18 #[.string a, .string b, .pointer f] w fun e w' => e = .returned (.pointer (some ⟨w.heap.size, 0, none⟩)) ∧ w' = w.alloc (.cells (rtBlock a b (.pointer f)) 61) := by
  go_enter Try.func18, Try.ntmps18
  go_wp2
  go_ret
  exact ⟨rfl, rfl⟩
theorem fallback_any (b : Nat) (f : Option Addr) (w : World) (hc : w.cell? ⟨b, 8, none⟩ = some (.pointer f)) :
    Calls Try.prog 19 #[.pointer (some ⟨b, 0, none⟩)] w fun e w' => e = .returned (.pointer f) ∧ w = w' := by
  go_enter Try.func19, Try.ntmps19
  go_wp2
  go_ret
  exact ⟨rfl, rfl⟩
theorem key_any (b : Nat) (h : ByteArray) (v : Option Addr) (n c : Nat) (w : World) (h0 : w.cell? ⟨b, 1, none⟩ = some (.string h)) (h1 : w.cell? ⟨b, 2, none⟩ = some (.slice v n c)) :
    Calls Try.prog 22 #[.pointer (some ⟨b, 0, none⟩)] w fun e w' => e = .returned (.agg #[.string h, .slice v n c]) ∧ w' = w.alloc (.cells #[.string h, .slice v n c] 29) := by
  have hb : b < w.heap.size := World.block_lt_of_cell? w _ h0
  go_enter Try.func22, Try.ntmps22
  go_wp2
  exact bodyPost_ret (v := .agg #[.string h, .slice v n c]) (by simp [results, Try.results22, go_sem]) rfl ⟨rfl, rfl⟩
theorem header_any (h : ByteArray) (v : Option Addr) (n c : Nat) (w : World) :
    Calls Try.prog 23 #[.agg #[.string h, .slice v n c]] w fun e w' => e = .returned (.string h) ∧ w' = w.alloc (.cells #[.string h, .slice v n c] 29) := by
  go_enter Try.func23, Try.ntmps23
  go_wp2
  go_ret
  exact ⟨rfl, rfl⟩

/-- "Authorization" -/
def auth : ByteArray := { data := #[65, 117, 116, 104, 111, 114, 105, 122, 97, 116, 105, 111, 110] }

theorem auth_list : auth.toList = [65, 117, 116, 104, 111, 114, 105, 122, 97, 116, 105, 111, 110] := by rw [Lib.toList_data]; rfl

/-- How many entries two stores leave. -/
theorem size2 (s0 s4 : ByteArray) (d0 d4 : DataW Value) : Maps.size (((DataW.map []).put (.string s4.data.toList) d4).put (.string s0.data.toList) d0) = 1 + (if decide (s0 = s4) = true then 0 else 1) := by
  have t0 : Maps.Tidy (DataW.map [] : DataW Value) := Maps.tidy_empty
  have t1 := t0.put (key_lit s4) d4
  rw [Maps.size_put t1, Maps.size_put t0]
  have z : Maps.has (DataW.map [] : DataW Value) (.string s4.data.toList) = false := rfl
  have h1 : Maps.has ((DataW.map []).put (.string s4.data.toList) d4) (.string s0.data.toList) = decide (s0 = s4) := by
    by_cases h : s0 = s4
    · subst h; rw [Maps.has_put_same t0.isMap (key_lit s0)]; simp
    · rw [Maps.has_put_other (lit_ne h)]; simp [h]; rfl
  rw [h1, z]
  have z0 : Maps.size (DataW.map [] : DataW Value) = 0 := rfl
  rw [z0]
  generalize decide (s0 = s4) = b1
  cases b1 <;> rfl

set_option maxRecDepth 100000 in
set_option maxHeartbeats 4000000 in
theorem walk (s0 s1 s2 s3 : ByteArray) (a4 : Option Addr) (l4 : List ByteArray) (c4 : Nat) (a5 : Option Addr) (l5 : List ByteArray) (c5 : Nat) (w : World)
    (hs0 : s0.size ≤ maxLen) (hs1 : s1.size ≤ maxLen) (hs2 : s2.size ≤ maxLen) (hs3 : s3.size ≤ maxLen) (h4 : IsStrs w a4 c4 l4) (hl4 : l4.length ≤ maxLen) (hz4 : ∀ s ∈ l4, s.size ≤ maxLen) (h5 : IsStrs w a5 c5 l5) (hl5 : l5.length ≤ maxLen) (hz5 : ∀ s ∈ l5, s.size ≤ maxLen) :
    Calls Try.prog 6 #[.string s0, .string s1, .string s2, .string s3, .slice a4 l4.length c4, .slice a5 l5.length c5] w fun e w' => e = .returned (.bool true) ∧ Below w.heap.size w w' := by
  go_enter Try.func6, Try.ntmps6
  go_wp2_with fail
  refine (bytesKey s0 s1 s2 s3 a4 l4 c4 a5 l5 c5 w hs0 hs1 hs2 hs3 h4.1 hl4 hz4 h5.1 hl5 hz5).mono ?_
  rintro e w' ⟨⟨r, rfl⟩, rfl⟩
  cases r
  · go_wp2
    go_ret
    exact ⟨rfl, Below.refl _ _⟩
  go_wp2_with fail
  refine (addString_in 0 s0 w (by omega) (by omega) hs0).mono ?_
  rintro e w' ⟨r1, rfl, p1, q1, i1, rfl⟩
  go_wp2_with fail
  refine (addString_in r1 s1 w (by omega) (by omega) hs1).mono ?_
  rintro e w' ⟨r2, rfl, p2, q2, i2, rfl⟩
  go_wp2_with fail
  refine (addString_in r2 s2 w (by omega) (by omega) hs2).mono ?_
  rintro e w' ⟨r3, rfl, p3, q3, i3, rfl⟩
  go_wp2_with fail
  refine (addString_in r3 s3 w (by omega) (by omega) hs3).mono ?_
  rintro e w' ⟨r4, rfl, p4, q4, i4, rfl⟩
  go_wp2_with fail
  refine (addStrings_in r4 a4 l4 c4 w h4.1 hl4 hz4 (by omega) (by omega)).mono ?_
  rintro e w' ⟨r5, rfl, p5, q5, i5, rfl⟩
  go_wp2_with fail
  refine (addStrings_in r5 a5 l5 c5 w h5.1 hl5 hz5 (by omega) (by omega)).mono ?_
  rintro e w' ⟨r6, rfl, p6, q6, i6, rfl⟩
  by_cases hbig : 1048576 < r6
  · go_wp2
    go_ret
    exact ⟨rfl, Below.refl _ _⟩
  have hl4' : l4.length ≤ 1048576 := by omega
  have hl5' : l5.length ≤ 1048576 := by omega
  clear i1 i2 i3 i4 i5 i6 hl4 hl5 hz4 hz5
  go_wp2_with fail
  refine (clone_any a4 l4 c4 w h4 hl4').mono ?_
  rintro e w1 ⟨b4, d4, rfl, g4, n4, bel1⟩
  clear n4
  go_wp2_with fail
  refine (clone_any a5 l5 c5 w1 (h5.kp (Kp.below bel1)) hl5').mono ?_
  rintro e w2 ⟨b5, d5, rfl, g5, n5, bel2⟩
  clear n5
  go_wp2_with fail
  refine (clone_any b4 l4 d4 w2 (g4.kp (Kp.below bel2)) hl4').mono ?_
  rintro e w3 ⟨e4, f4, rfl, j4, n4, bel3⟩
  have M4 := hide n4
  clear n4
  go_wp2_with fail
  refine (clone_any b5 l5 d5 w3 (g5.kp (Kp.below bel3)) hl5').mono ?_
  rintro e w4 ⟨e5, f5, rfl, J5, n5, bel4⟩
  have M5 := hide n5
  clear n5
  have G4 : IsStrs w4 b4 d4 l4 := (g4.kp (Kp.below bel2)).kp ((Kp.below bel3).trans (Kp.below bel4))
  have G5 : IsStrs w4 b5 d5 l5 := (g5.kp (Kp.below bel3)).kp (Kp.below bel4)
  have J4 : IsStrs w4 e4 f4 l4 := j4.kp (Kp.below bel4)
  have z1 := bel1.size
  have z2 := bel2.size
  have z3 := bel3.size
  have z4 := bel4.size
  have Bel : Below w.heap.size w w4 := (((bel1.trans (bel2.mono (by omega))).trans (bel3.mono (by omega))).trans (bel4.mono (by omega)))
  have hz : w.heap.size ≤ w4.heap.size := by omega
  clear h4 h5 g4 g5 j4 bel1 bel2 bel3 bel4 z1 z2 z3 z4
  go_wp2_with fail
  refine (newFallback_any s2 s3 e4 l4.length f4 w4).mono ?_
  rintro e w' ⟨rfl, rfl⟩
  go_wp2_with fail
  refine (newRoute_any s0 s1 (some ⟨w4.heap.size, 0, none⟩) _).mono ?_
  rintro e w' ⟨rfl, rfl⟩
  go_wp2_with fail
  refine (fallback_any (w4.heap.size + 1) (some ⟨w4.heap.size, 0, none⟩) _ ?_).mono ?_
  · simp [rtBlock, go_sem]
  rintro e w' ⟨rfl, rfl⟩
  go_wp2_with fail
  refine (key_any w4.heap.size s3 e4 l4.length f4 _ ?_ ?_).mono ?_
  · simp [fbBlock, go_sem]
  · simp [fbBlock, go_sem]
  rintro e w' ⟨rfl, rfl⟩
  go_wp2_with fail
  refine (header_any s3 e4 l4.length f4 _).mono ?_
  rintro e w' ⟨rfl, rfl⟩
  have hmm := @run_makeMap Try.prog
  have wf8 : auth.size ≤ maxLen := by have e : auth.size = 13 := rfl; rw [e]; unfold maxLen; omega
  have hmade := World.ownsMap_made (((((w4.alloc (.cells (fbBlock s2 s3 (.slice e4 l4.length f4)) 52)).alloc (.cells (rtBlock s0 s1 (.pointer (some ⟨w4.heap.size, 0, none⟩))) 61)).alloc (.cells #[.string s3, .slice e4 l4.length f4] 29)).alloc (.cells #[.string s3, .slice e4 l4.length f4] 29)).alloc (.cells #[.string s3, .slice e4 l4.length f4] 29)) Try.prog 9 vElem
  simp only [World.size_alloc] at hmade
  obtain ⟨w8, hrun8, hown8, ht8⟩ := hmade.store law (t := 27) (e := 22) Try.underlying27 (by unfold maxLen; omega) (Go.WideMaps.keyOf_string_mk Try.underlying9 wf8) (val := .slice e5 l5.length f5) (d := .held (.slice e5 l5.length f5)) (ps := []) rfl
  have kp8 := Kp.map hmade ht8.grown
  have kp4 : Kp w4 w8 := (((Kp.alloc w4 (.cells (fbBlock s2 s3 (.slice e4 l4.length f4)) 52)).trans (Kp.alloc _ (.cells (rtBlock s0 s1 (.pointer (some ⟨w4.heap.size, 0, none⟩))) 61))).trans ((((Kp.alloc _ (.cells #[.string s3, .slice e4 l4.length f4] 29)).trans (Kp.alloc _ (.cells #[.string s3, .slice e4 l4.length f4] 29))).trans (Kp.alloc _ (.cells #[.string s3, .slice e4 l4.length f4] 29))).trans (Kp.alloc _ (.map #[] 0)))).trans kp8
  have bel8 : Below w4.heap.size w4 w8 := (((((((Below.refl w4.heap.size w4).alloc (Nat.le_refl _) (.cells (fbBlock s2 s3 (.slice e4 l4.length f4)) 52)).alloc (by simp) (.cells (rtBlock s0 s1 (.pointer (some ⟨w4.heap.size, 0, none⟩))) 61)).alloc (by simp; omega) (.cells #[.string s3, .slice e4 l4.length f4] 29)).alloc (by simp; omega) (.cells #[.string s3, .slice e4 l4.length f4] 29)).alloc (by simp; omega) (.cells #[.string s3, .slice e4 l4.length f4] 29)).alloc (by simp; omega) (.map #[] 0)).grown ht8.grown (by simp; omega) (fun k hk => by cases hk; omega)
  have c0 : w8.cell? ⟨w4.heap.size + 1 + 1 + 1, 0, none⟩ = some (.string s3) := kp8 _ _ (by simp [go_sem])
  have c1 : w8.cell? ⟨w4.heap.size + 1 + 1 + 1, 1, none⟩ = some (.slice e4 l4.length f4) := kp8 _ _ (by simp [go_sem])
  have Hown8 := hide hown8
  have Kp4 := hide kp4
  have Bel8 := hide bel8
  have z8 := bel8.size
  clear hmade hown8 ht8 kp8 kp4 bel8
  unfold auth at hrun8
  go_wp2_with fail
  refine (cred_set s3 e4 l4.length f4 (w4.heap.size + 1 + 1 + 1 + 1 + 1) 1 _ w8 Hown8.out (by unfold maxLen; omega) hs3).mono ?_
  rintro e w9 ⟨rfl, hown9, hg9⟩
  have KK := Kp4.out.trans (Kp.map Hown8.out hg9)
  have BelF : Below w.heap.size w w9 := Bel.trans ((Bel8.out.grown hg9 (by omega) (fun k hk => by cases hk; omega)).mono hz)
  have R4 := (G4.kp KK).1
  have R5 := (G5.kp KK).1
  have Q4 := (J4.kp KK).1
  have Q5 := (J5.kp KK).1
  have m0 : Maps.IsMap (DataW.map [] : DataW Value) := Maps.isMap_empty
  have m1 := m0.put (.string auth.data.toList) (.held (.slice e5 l5.length f5))
  have hd3 := holds_same m1 s3 (.slice e4 l4.length f4)
  have hdA : auth ≠ s3 → Holds _ auth (.slice e5 l5.length f5) := fun hne => holds_other (holds_same m0 auth (.slice e5 l5.length f5)) hne (.held (.slice e4 l4.length f4))
  have sz := size2 s3 auth (.held (.slice e4 l4.length f4)) (.held (.slice e5 l5.length f5))
  generalize ((DataW.map [] : DataW Value).put (.string auth.data.toList) (.held (Value.slice e5 l5.length f5))).put (.string s3.data.toList) (.held (Value.slice e4 l4.length f4)) = DD at hown9 sz hd3 hdA
  have Hd3 := hide hd3
  clear hd3 m0 m1 Hown8 Kp4 Bel8 hrun8 hmm KK hg9 c0 c1
  by_cases x : s3 = auth
  · have hsz : Maps.size DD = 1 := by rw [sz]; simp [x]
    have len1 : ∀ nq ty, (Builtin.len_ #[27] ty #[.map (some (w4.heap.size + 1 + 1 + 1 + 1 + 1))]).run Try.prog (w9.drewN nq) = .ok (.int .i64 1) (w9.drewN nq) := fun nq ty => by rw [World.ownsMap.len (w := w9.drewN nq) hown9 Try.underlying27 ty, hsz]; rfl
    have y := beq_same x
    rw [auth_list] at y
    clear hdA sz hsz x
    go_wp2_with (go_at_call_of 14 (Value.string s3); refine (holds_yes (w4.heap.size + 1 + 1 + 1 + 1 + 1) 2 DD s3 e4 b4 l4 f4 d4 _ ?_ hs3 Hd3.out ?_ ?_ M4.out.symm hl4').mono ?_; exact hown9; exact Q4; exact R4; rintro e w' ⟨rfl, nq, rfl⟩)
    go_ret
    exact ⟨rfl, below_drewN BelF _⟩
  · have hsz : Maps.size DD = 2 := by rw [sz]; simp [x]
    have len2 : ∀ nq ty, (Builtin.len_ #[27] ty #[.map (some (w4.heap.size + 1 + 1 + 1 + 1 + 1))]).run Try.prog (w9.drewN nq) = .ok (.int .i64 2) (w9.drewN nq) := fun nq ty => by rw [World.ownsMap.len (w := w9.drewN nq) hown9 Try.underlying27 ty, hsz]; rfl
    have HdA := hide (hdA (Ne.symm x))
    have y := beq_ne x
    rw [auth_list] at y
    clear hdA sz hsz x
    go_wp2_with (first
      | (go_at_call_of 14 (Value.string s3); refine (holds_yes (w4.heap.size + 1 + 1 + 1 + 1 + 1) 2 DD s3 e4 b4 l4 f4 d4 _ ?_ hs3 Hd3.out ?_ ?_ M4.out.symm hl4').mono ?_; exact hown9; exact Q4; exact R4; rintro e w' ⟨rfl, nq, rfl⟩)
      | (go_at_call 14; refine (holds_yes (w4.heap.size + 1 + 1 + 1 + 1 + 1) 2 DD auth e5 b5 l5 f5 d5 _ ?_ wf8 HdA.out ?_ ?_ M5.out.symm hl5').mono ?_; exact hown9; exact Q5; exact R5; rintro e w' ⟨rfl, nq, rfl⟩))
    go_ret
    exact ⟨rfl, below_drewN BelF _⟩

/-! ### THE ROW's STEP: WRITTEN OUT: LEAVE IT -/
set_option maxRecDepth 100000 in
theorem lifted (os : Os) (started : os.Started) (H : Type) (enc : TypeId × Value → H) :
    ReturnsInHanded {} Try.checked os 6 .any (Rows.fnRouteFallbackKeySetSpec.pre6 enc Try.prog Try.f6 Rows.fnRouteFallbackKeySetRow.domain false) (Rows.fnRouteFallbackKeySetSpec.post enc Try.prog Try.f6 false true false false) := by
  refine returnsInHanded_of_change (C := Try.checked) own started (by kernel_rfl) Try.func6
    (ChangeSpec.witness6 (enc := enc) (C := Try.checked) false ⟨#[], #[.string ByteArray.empty, .string ByteArray.empty, .string ByteArray.empty, .string ByteArray.empty, .slice none 0 0, .slice none 0 0], []⟩ 8 (by kernel_rfl) (by kernel_rfl) (by kernel_rfl) (by kernel_rfl)) ?_
  intro W base args ds gs before hval0 hW hcnd _
  have hval : ∀ (j : Nat) t v, Try.f6.params[j]? = some t → args[j]? = some v → Value.okWide Try.prog W .any base t v := hval0
  have hW' := hW
  obtain ⟨p, q, hA0, hV, rfl, hfz, hnd⟩ := hW
  have hA : DataW.TrodAll enc Try.prog W 0 (fun _ => true) true Try.f6.params.toList args.toList ds p := hA0
  rw [Try.params6] at hA hval
  obtain ⟨v0, vs0, d0, ds0, p0, q0, hargs, rfl, rfl, h0, r0⟩ := trodAll_cons hA
  obtain ⟨v1, vs1, d1, ds1, p1, q1, rfl, rfl, rfl, h1, r1⟩ := trodAll_cons r0
  obtain ⟨v2, vs2, d2, ds2, p2, q2, rfl, rfl, rfl, h2, r2⟩ := trodAll_cons r1
  obtain ⟨v3, vs3, d3, ds3, p3, q3, rfl, rfl, rfl, h3, r3⟩ := trodAll_cons r2
  obtain ⟨v4, vs4, d4, ds4, p4, q4, rfl, rfl, rfl, h4, r4⟩ := trodAll_cons r3
  obtain ⟨v5, vs5, d5, ds5, p5, q5, rfl, rfl, rfl, h5, r5⟩ := trodAll_cons r4
  obtain ⟨rfl, rfl, rfl⟩ := trodAll_nil r5
  obtain rfl : args = #[v0, v1, v2, v3, v4, v5] := by cases args; simp_all
  obtain ⟨rfl, rfl⟩ := trodVars_none hV
  obtain ⟨a0, rfl, rfl, rfl, w0⟩ := open_string Try.underlying9 (hval 0 9 v0 rfl rfl) h0
  obtain ⟨a1, rfl, rfl, rfl, w1⟩ := open_string Try.underlying9 (hval 1 9 v1 rfl rfl) h1
  obtain ⟨a2, rfl, rfl, rfl, w2⟩ := open_string Try.underlying9 (hval 2 9 v2 rfl rfl) h2
  obtain ⟨a3, rfl, rfl, rfl, w3⟩ := open_string Try.underlying9 (hval 3 9 v3 rfl rfl) h3
  obtain ⟨a4, len4, cap4, rfl⟩ := okWide_slice Try.underlying22 (hval 4 22 v4 rfl rfl)
  have k4 := h4
  have lt4 : ∀ x ∈ p4, x.block < W.heap.size := by obtain ⟨m, hm⟩ := k4; exact DataW.trod_lt m _ _ _ hm
  obtain ⟨z4, e4, w4, m4, y4⟩ : ∃ l, len4 = l.length ∧ IsStrs W a4 cap4 l ∧ l.length ≤ maxLen ∧ ∀ s ∈ l, s.size ≤ maxLen := by
    obtain ⟨fuel, hf⟩ := h4
    rcases open_strings Try.underlying22 Try.underlying9 (by kernel_rfl) hf with ⟨hcs, _⟩ | ⟨x, l, c, ss, hcs, _, hl, hm, hz, _, hcell, hws⟩
    · simp [Value.cells] at hcs
      obtain ⟨rfl, rfl, rfl⟩ := hcs
      exact ⟨[], rfl, strs_none, by simp, by simp⟩
    · simp [Value.cells] at hcs
      obtain ⟨rfl, rfl, rfl⟩ := hcs
      exact strs_open hl hm (by simpa using hz) hcell hws
  subst e4
  obtain ⟨a5, len5, cap5, rfl⟩ := okWide_slice Try.underlying22 (hval 5 22 v5 rfl rfl)
  have k5 := h5
  have lt5 : ∀ x ∈ p5, x.block < W.heap.size := by obtain ⟨m, hm⟩ := k5; exact DataW.trod_lt m _ _ _ hm
  obtain ⟨z5, e5, w5, m5, y5⟩ : ∃ l, len5 = l.length ∧ IsStrs W a5 cap5 l ∧ l.length ≤ maxLen ∧ ∀ s ∈ l, s.size ≤ maxLen := by
    obtain ⟨fuel, hf⟩ := h5
    rcases open_strings Try.underlying22 Try.underlying9 (by kernel_rfl) hf with ⟨hcs, _⟩ | ⟨x, l, c, ss, hcs, _, hl, hm, hz, _, hcell, hws⟩
    · simp [Value.cells] at hcs
      obtain ⟨rfl, rfl, rfl⟩ := hcs
      exact ⟨[], rfl, strs_none, by simp, by simp⟩
    · simp [Value.cells] at hcs
      obtain ⟨rfl, rfl, rfl⟩ := hcs
      exact strs_open hl hm (by simpa using hz) hcell hws
  subst e5
  clear hA0 hval0
  refine (walk a0 a1 a2 a3 a4 z4 cap4 a5 z5 cap5 W w0 w1 w2 w3 w4 m4 y4 w5 m5 y5).mono fun e W' ⟨he, bel⟩ => ?_
  subst he
  exact ⟨_, rfl, _, _, _, [], _, [], hW', trodAll_mk1 (shut_bool Try.underlying4 _), (trodAll_cons_mk (shut_string Try.underlying9 w0) (trodAll_cons_mk (shut_string Try.underlying9 w1) (trodAll_cons_mk (shut_string Try.underlying9 w2) (trodAll_cons_mk (shut_string Try.underlying9 w3) (trodAll_cons_mk (Below.trod laidOut (by kernel_rfl) (of_decide_eq_true (by kernel_rfl)) k4 bel lt4) (trodAll_cons_mk (Below.trod laidOut (by kernel_rfl) (of_decide_eq_true (by kernel_rfl)) k5 bel lt5) trodAll_mk0)))))), rfl, bel.frame _, fun h => by cases h⟩

theorem over : Rows.fnRouteFallbackKeySetRow.holds Try.pinned (OpenSpec.ofChange Rows.fnRouteFallbackKeySetSpec) :=
  OpenClaim.holds_of_wide 6 Try.f6 rfl rfl rfl rfl rfl rfl rfl ⟨rfl, rfl, rfl, rfl, rfl⟩ rfl rfl rfl rfl rfl (by kernel_rfl) Try.func6 (by kernel_rfl)
    (of_decide_eq_true (by kernel_rfl)) (by unfold Func.isWrapper; first | (rw [if_pos (by decide +kernel)]; kernel_rfl) | (rw [if_neg (by decide +kernel)]; exact ⟨rfl, rfl⟩))
    (fun os started H enc _ => lifted os started H enc)

/-- ████ THE STATEMENT ████ -/
theorem proved : Rows.FnRouteFallbackKeySetSaid := over
end Go.Proofs.Qxb6614477a.fnRouteFallbackKeySet
