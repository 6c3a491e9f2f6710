/-
  THE LAW's WALKS: the lengths differ; the lengths are as they must be.
-/
import Derived.Test.Qxb6615484aEmpty
import Derived.Deep.RegionHeld3
namespace Go.Proofs.Qxb6615484a.fnTransactionEmptyIsAndOverParts
open Go.RowKit
set_option linter.unusedVariables false
set_option linter.unusedSimpArgs false

/-- A slice of strings as a value. -/
def IsStrs (w : World) (a : Option Addr) (c : Nat) (l : List ByteArray) : Prop := Row w a l ∧ l.length ≤ c ∧ c ≤ maxLen ∧ (a = none → c = 0)
def IsBools (w : World) (a : Option Addr) (c : Nat) (l : List Bool) : Prop := BRow w a l ∧ l.length ≤ c ∧ c ≤ maxLen ∧ (a = none → c = 0)

set_option maxRecDepth 100000 in
set_option maxHeartbeats 4000000 in
theorem walk_ne (a0 : Option Addr) (l0 : List ByteArray) (c0 : Nat) (a1 : Option Addr) (l1 : List Bool) (c1 : Nat) (a2 : Option Addr) (l2 : List Bool) (c2 : Nat) (a3 : Option Addr) (l3 : List ByteArray) (c3 : Nat) (a4 : Option Addr) (l4 : List ByteArray) (c4 : Nat) (a5 : Option Addr) (l5 : List ByteArray) (c5 : Nat) (i j : Int) (w : World)
    (h0 : IsStrs w a0 c0 l0) (z0 : ∀ s ∈ l0, s.size ≤ maxLen) (h1 : IsBools w a1 c1 l1) (h2 : IsBools w a2 c2 l2) (h3 : IsStrs w a3 c3 l3) (z3 : ∀ s ∈ l3, s.size ≤ maxLen) (h4 : IsStrs w a4 c4 l4) (z4 : ∀ s ∈ l4, s.size ≤ maxLen) (h5 : IsStrs w a5 c5 l5) (z5 : ∀ s ∈ l5, s.size ≤ maxLen) (hne : ¬(l1.length = l0.length ∧ l2.length = l0.length ∧ l4.length = l3.length ∧ l5.length = l3.length)) :
    Calls Try.prog 3 #[.slice a0 l0.length c0, .slice a1 l1.length c1, .slice a2 l2.length c2, .slice a3 l3.length c3, .slice a4 l4.length c4, .slice a5 l5.length c5, .int .i64 i, .int .i64 j] w fun e w' => e = .returned (.bool true) ∧ Below w.heap.size w w' := by
  have m0 : l0.length ≤ maxLen := Nat.le_trans h0.2.1 h0.2.2.1
  have m1 : l1.length ≤ maxLen := Nat.le_trans h1.2.1 h1.2.2.1
  have m2 : l2.length ≤ maxLen := Nat.le_trans h2.2.1 h2.2.2.1
  have m3 : l3.length ≤ maxLen := Nat.le_trans h3.2.1 h3.2.2.1
  have m4 : l4.length ≤ maxLen := Nat.le_trans h4.2.1 h4.2.2.1
  have m5 : l5.length ≤ maxLen := Nat.le_trans h5.2.1 h5.2.2.1
  go_enter Try.func3, Try.ntmps3
  go_wp2_with fail
  refine (bytesTx a0 l0 c0 a1 l1.length c1 a2 l2.length c2 a3 l3 c3 a4 l4 c4 a5 l5 c5 i j w h0.1 m0 z0 m1 m2 h3.1 m3 z3 h4.1 m4 z4 h5.1 m5 z5).mono ?_
  rintro e w' ⟨⟨r, rfl, hr⟩, rfl⟩
  cases r
  · go_wp2
    go_ret
    exact ⟨rfl, Below.refl _ _⟩
  replace hr := hr rfl
  have HR := hide hr
  clear hr
  go_wp2_with fail
  refine (txOut a0 l0 c0 a1 l1.length c1 a2 l2.length c2 a3 l3 c3 a4 l4 c4 a5 l5 c5 w h0.1 h3.1 h4.1 h5.1 HR.out m0 m1 m2 m3 m4 m5).mono ?_
  rintro e w' ⟨⟨r, rfl, hr⟩, rfl⟩
  cases r
  case true =>
    go_wp2
    go_ret
    exact ⟨rfl, Below.refl _ _⟩
  obtain ⟨s0, s3⟩ := hr rfl
  clear hr HR m0 m1 m2 m3 m4 m5 z0 z3 z4 z5
  have Hne := hide hne
  clear hne
  by_cases t1 : l1.length = l0.length
  case neg =>
    have t1' : (((l1.length : Int)) != ((l0.length : Int))) = true := by rw [bne_iff_ne]; omega
    clear t1
    go_wp2
    go_ret
    exact ⟨rfl, Below.refl _ _⟩
  have t1' : (((l1.length : Int)) != ((l0.length : Int))) = false := by rw [bne_eq_false_iff_eq]; omega
  have Ht1 := hide t1
  clear t1
  by_cases t2 : l2.length = l0.length
  case neg =>
    have t2' : (((l2.length : Int)) != ((l0.length : Int))) = true := by rw [bne_iff_ne]; omega
    clear t2
    go_wp2
    go_ret
    exact ⟨rfl, Below.refl _ _⟩
  have t2' : (((l2.length : Int)) != ((l0.length : Int))) = false := by rw [bne_eq_false_iff_eq]; omega
  have Ht2 := hide t2
  clear t2
  by_cases t4 : l4.length = l3.length
  case neg =>
    have t4' : (((l4.length : Int)) != ((l3.length : Int))) = true := by rw [bne_iff_ne]; omega
    clear t4
    go_wp2
    go_ret
    exact ⟨rfl, Below.refl _ _⟩
  have t4' : (((l4.length : Int)) != ((l3.length : Int))) = false := by rw [bne_eq_false_iff_eq]; omega
  have Ht4 := hide t4
  clear t4
  have t5 : ¬ l5.length = l3.length := fun h => Hne.out ⟨Ht1.out, Ht2.out, Ht4.out, h⟩
  have t5' : (((l5.length : Int)) != ((l3.length : Int))) = true := by rw [bne_iff_ne]; omega
  clear t5
  go_wp2
  go_ret
  exact ⟨rfl, Below.refl _ _⟩


theorem rowTake {w : World} {a : Option Addr} {l : List ByteArray} (h : Row w a l) (i : Nat) : Row w a (l.take i) := by
  refine ⟨fun e => by rw [h.1 e]; simp, fun t ht => ?_⟩
  rw [List.length_take] at ht
  obtain ⟨b, off, e, hc⟩ := h.2 t (by omega)
  refine ⟨b, off, e, hc.trans ?_⟩
  simp [List.getD_eq_getElem?_getD, List.getElem?_take, show t < i by omega]
theorem browTake {w : World} {a : Option Addr} {l : List Bool} (h : BRow w a l) (i : Nat) : BRow w a (l.take i) := by
  refine ⟨fun e => by rw [h.1 e]; simp, fun t ht => ?_⟩
  rw [List.length_take] at ht
  obtain ⟨b, off, e, hc⟩ := h.2 t (by omega)
  refine ⟨b, off, e, hc.trans ?_⟩
  simp [List.getD_eq_getElem?_getD, List.getElem?_take, show t < i by omega]
theorem rowNil {w : World} : Row w none [] := ⟨fun _ => rfl, fun i hi => absurd hi (by simp)⟩
theorem browNil {w : World} : BRow w none [] := ⟨fun _ => rfl, fun i hi => absurd hi (by simp)⟩
/-- Where 's[i:]' begins. -/
def fromI (a : Option Addr) (c i : Nat) : Option Addr := if c = i then a else a.map (·.add i)
theorem from_at {a : Option Addr} {c i b off : Nat} (h : a = some ⟨b, off, none⟩) (hc : ¬ c = i) : fromI a c i = some ⟨b, off + i, none⟩ := by
  subst h
  unfold fromI
  rw [if_neg hc]
  simp only [Option.map_some, Go.WideShapes.add_plain]
theorem rowDrop {w : World} {a : Option Addr} {l : List ByteArray} {c : Nat} (h : Row w a l) (hl : l.length ≤ c) (i : Nat) : Row w (fromI a c i) (l.drop i) := by
  by_cases hc : c = i
  · rw [List.drop_eq_nil_of_le (by omega)]
    exact ⟨fun _ => rfl, fun t ht => absurd ht (by simp)⟩
  · refine ⟨fun e => ?_, fun t ht => ?_⟩
    · cases a with
      | none => rw [h.1 rfl]; simp
      | some x => unfold fromI at e; rw [if_neg hc] at e; cases e
    · rw [List.length_drop] at ht
      obtain ⟨b, off, e, hcell⟩ := h.2 (i + t) (by omega)
      refine ⟨b, off + i, from_at e hc, ?_⟩
      rw [Nat.add_assoc, hcell]
      simp [List.getD_eq_getElem?_getD]
theorem browDrop {w : World} {a : Option Addr} {l : List Bool} {c : Nat} (h : BRow w a l) (hl : l.length ≤ c) (i : Nat) : BRow w (fromI a c i) (l.drop i) := by
  by_cases hc : c = i
  · rw [List.drop_eq_nil_of_le (by omega)]
    exact ⟨fun _ => rfl, fun t ht => absurd ht (by simp)⟩
  · refine ⟨fun e => ?_, fun t ht => ?_⟩
    · cases a with
      | none => rw [h.1 rfl]; simp
      | some x => unfold fromI at e; rw [if_neg hc] at e; cases e
    · rw [List.length_drop] at ht
      obtain ⟨b, off, e, hcell⟩ := h.2 (i + t) (by omega)
      refine ⟨b, off + i, from_at e hc, ?_⟩
      rw [Nat.add_assoc, hcell]
      simp [List.getD_eq_getElem?_getD]

/-- The plain law: nothing in the whole, just if nothing in either part. -/
theorem emp_parts (n m i j : Nat) (hi : i ≤ n) (hj : j ≤ m) : emp n m = (emp i j && emp (n - i) (m - j)) := by
  unfold emp
  rw [Bool.eq_iff_iff]
  simp only [Bool.and_eq_true, decide_eq_true_eq]
  omega

theorem bytesTx' (a0 : Option Addr) (l0 : List ByteArray) (c0 : Nat) (a1 : Option Addr) (n1 c1 : Nat) (a2 : Option Addr) (n2 c2 : Nat) (a3 : Option Addr) (l3 : List ByteArray) (c3 : Nat) (a4 : Option Addr) (l4 : List ByteArray) (c4 : Nat) (a5 : Option Addr) (l5 : List ByteArray) (c5 : Nat) (i6 i7 : Int) (w : World) (n0 n3 : Nat) (hr0 : Row w a0 l0) (z0 : ∀ s ∈ l0, s.size ≤ maxLen) (hr3 : Row w a3 l3) (z3 : ∀ s ∈ l3, s.size ≤ maxLen) (hr4 : Row w a4 l4) (z4 : ∀ s ∈ l4, s.size ≤ maxLen) (hr5 : Row w a5 l5) (z5 : ∀ s ∈ l5, s.size ≤ maxLen)
    (m0 : n0 ≤ maxLen) (m1 : n1 ≤ maxLen) (m2 : n2 ≤ maxLen) (m3 : n3 ≤ maxLen) (e0 : l0.length = n0) (e3 : l3.length = n3) (e4 : l4.length = n3) (e5 : l5.length = n3) :
    Calls Try.prog 5 #[.slice a0 n0 c0, .slice a1 n1 c1, .slice a2 n2 c2, .slice a3 n3 c3, .slice a4 n3 c4, .slice a5 n3 c5, .int .i64 i6, .int .i64 i7] w fun e w' => BytesOk e (l0 ++ (l3 ++ (l4 ++ l5))) ∧ w = w' := by
  have h := bytesTx a0 l0 c0 a1 n1 c1 a2 n2 c2 a3 l3 c3 a4 l4 c4 a5 l5 c5 i6 i7 w hr0 (by omega) z0 m1 m2 hr3 (by omega) z3 hr4 (by omega) z4 hr5 (by omega) z5
  rw [e0, e3, e4, e5] at h
  exact h
theorem txOut' (a0 : Option Addr) (l0 : List ByteArray) (c0 : Nat) (a1 : Option Addr) (n1 c1 : Nat) (a2 : Option Addr) (n2 c2 : Nat) (a3 : Option Addr) (l3 : List ByteArray) (c3 : Nat) (a4 : Option Addr) (l4 : List ByteArray) (c4 : Nat) (a5 : Option Addr) (l5 : List ByteArray) (c5 : Nat) (w : World) (n0 n3 : Nat)
    (hr0 : Row w a0 l0) (hr3 : Row w a3 l3) (hr4 : Row w a4 l4) (hr5 : Row w a5 l5) (hs : ∀ s ∈ l0 ++ (l3 ++ (l4 ++ l5)), s.size ≤ 1048576) (m0 : n0 ≤ maxLen) (m1 : n1 ≤ maxLen) (m2 : n2 ≤ maxLen) (m3 : n3 ≤ maxLen) (e0 : l0.length = n0) (e3 : l3.length = n3) (e4 : l4.length = n3) (e5 : l5.length = n3) :
    Calls Try.prog 6 #[.slice a0 n0 c0, .slice a1 n1 c1, .slice a2 n2 c2, .slice a3 n3 c3, .slice a4 n3 c4, .slice a5 n3 c5, .slice none 0 0] w fun e w' => OutOk e (n0 ≤ 4096 ∧ n3 ≤ 4096) ∧ w = w' := by
  have h := txOut a0 l0 c0 a1 n1 c1 a2 n2 c2 a3 l3 c3 a4 l4 c4 a5 l5 c5 w hr0 hr3 hr4 hr5 hs (by omega) m1 m2 (by omega) (by omega) (by omega)
  rw [e0, e3, e4, e5] at h
  exact h

set_option maxRecDepth 100000 in
set_option maxHeartbeats 4000000 in
theorem walk_eq (a0 : Option Addr) (l0 : List ByteArray) (c0 : Nat) (a1 : Option Addr) (l1 : List Bool) (c1 : Nat) (a2 : Option Addr) (l2 : List Bool) (c2 : Nat) (a3 : Option Addr) (l3 : List ByteArray) (c3 : Nat) (a4 : Option Addr) (l4 : List ByteArray) (c4 : Nat) (a5 : Option Addr) (l5 : List ByteArray) (c5 : Nat) (i j : Int) (w : World) (n0 n3 : Nat)
    (h0 : IsStrs w a0 c0 l0) (z0 : ∀ s ∈ l0, s.size ≤ maxLen) (h1 : IsBools w a1 c1 l1) (h2 : IsBools w a2 c2 l2) (h3 : IsStrs w a3 c3 l3) (z3 : ∀ s ∈ l3, s.size ≤ maxLen) (h4 : IsStrs w a4 c4 l4) (z4 : ∀ s ∈ l4, s.size ≤ maxLen) (h5 : IsStrs w a5 c5 l5) (z5 : ∀ s ∈ l5, s.size ≤ maxLen)
    (e0 : l0.length = n0) (e1 : l1.length = n0) (e2 : l2.length = n0) (e3 : l3.length = n3) (e4 : l4.length = n3) (e5 : l5.length = n3) :
    Calls Try.prog 3 #[.slice a0 n0 c0, .slice a1 n0 c1, .slice a2 n0 c2, .slice a3 n3 c3, .slice a4 n3 c4, .slice a5 n3 c5, .int .i64 i, .int .i64 j] w fun e w' => e = .returned (.bool true) ∧ Below w.heap.size w w' := by
  have m0 : n0 ≤ maxLen := e0 ▸ Nat.le_trans h0.2.1 h0.2.2.1
  have m3 : n3 ≤ maxLen := e3 ▸ Nat.le_trans h3.2.1 h3.2.2.1
  have E0 := hide e0
  have E1 := hide e1
  have E2 := hide e2
  have E3 := hide e3
  have E4 := hide e4
  have E5 := hide e5
  clear e0 e1 e2 e3 e4 e5
  go_enter Try.func3, Try.ntmps3
  go_wp2_with fail
  refine (bytesTx' a0 l0 c0 a1 n0 c1 a2 n0 c2 a3 l3 c3 a4 l4 c4 a5 l5 c5 i j w n0 n3 h0.1 z0 h3.1 z3 h4.1 z4 h5.1 z5 m0 m0 m0 m3 E0.out E3.out E4.out E5.out).mono ?_
  rintro e w' ⟨⟨r, rfl, hr⟩, rfl⟩
  cases r
  · go_wp2
    go_ret
    exact ⟨rfl, Below.refl _ _⟩
  replace hr := hr rfl
  have HR := hide hr
  clear hr
  go_wp2_with fail
  refine (txOut' a0 l0 c0 a1 n0 c1 a2 n0 c2 a3 l3 c3 a4 l4 c4 a5 l5 c5 w n0 n3 h0.1 h3.1 h4.1 h5.1 HR.out m0 m0 m0 m3 E0.out E3.out E4.out E5.out).mono ?_
  rintro e w' ⟨⟨r, rfl, hr⟩, rfl⟩
  cases r
  case true =>
    go_wp2
    go_ret
    exact ⟨rfl, Below.refl _ _⟩
  obtain ⟨s0, s3⟩ := hr rfl
  clear hr HR m0 m3 z0 z3 z4 z5
  by_cases ti : i < 0
  · go_wp2
    go_ret
    exact ⟨rfl, Below.refl _ _⟩
  by_cases ti' : (n0 : Int) < i
  · go_wp2
    go_ret
    exact ⟨rfl, Below.refl _ _⟩
  by_cases tj : j < 0
  · go_wp2
    go_ret
    exact ⟨rfl, Below.refl _ _⟩
  by_cases tj' : (n3 : Int) < j
  · go_wp2
    go_ret
    exact ⟨rfl, Below.refl _ _⟩
  obtain ⟨i, rfl⟩ := Int.eq_ofNat_of_zero_le (show 0 ≤ i by omega)
  obtain ⟨j, rfl⟩ := Int.eq_ofNat_of_zero_le (show 0 ≤ j by omega)
  clear ti tj
  have k0 : (i : Int) ≤ (c0 : Int) := by have := h0.2.1; have := E0.out; omega
  have k1 : (i : Int) ≤ (c1 : Int) := by have := h1.2.1; have := E1.out; omega
  have k2 : (i : Int) ≤ (c2 : Int) := by have := h2.2.1; have := E2.out; omega
  have k3 : (j : Int) ≤ (c3 : Int) := by have := h3.2.1; have := E3.out; omega
  have k4 : (j : Int) ≤ (c4 : Int) := by have := h4.2.1; have := E4.out; omega
  have k5 : (j : Int) ≤ (c5 : Int) := by have := h5.2.1; have := E5.out; omega
  go_wp2_with fail
  refine (emptyOf a0 l0 c0 a1 l1 c1 a2 l2 c2 a3 l3 c3 a4 l4 c4 a5 l5 c5 w n0 n3 h0.1 h1.1 h2.1 h3.1 h4.1 h5.1 E0.out E1.out E2.out E3.out E4.out E5.out s0 s3).mono ?_
  rintro e w1 ⟨rfl, bel1⟩
  go_wp2
  have belD : Below w.heap.size w w1.drew := bel1.drew
  go_region_held3 (fun _ => True) (trivial) ((go_at_call 7; refine (emptyOf a0 (l0.take i) c0 a1 (l1.take i) c1 a2 (l2.take i) c2 a3 (l3.take j) c3 a4 (l4.take j) c4 a5 (l5.take j) c5 _ i j (rowTake (h0.1.bel belD) i) (browTake (h1.1.bel belD) i) (browTake (h2.1.bel belD) i) (rowTake (h3.1.bel belD) j) (rowTake (h4.1.bel belD) j) (rowTake (h5.1.bel belD) j) ?_ ?_ ?_ ?_ ?_ ?_ ?_ ?_).mono ?_; (have := E0.out; simp; omega); (have := E1.out; simp; omega); (have := E2.out; simp; omega); (have := E3.out; simp; omega); (have := E4.out; simp; omega); (have := E5.out; simp; omega); omega; omega; rintro e w2 ⟨rfl, bel2⟩))
  have bel12 : Below w.heap.size w w2 := belD.trans (bel2.mono belD.size)
  clear belD bel2
  have belE : Below w.heap.size w w2.drew := bel12.drew
  go_wp2
  obtain ⟨p0, q0, r0⟩ : ∃ p, (if c0 = i then a0 else Option.map (fun x => x.add i) a0) = p ∧ Row w2.drew p (l0.drop i) := ⟨_, rfl, rowDrop (h0.1.bel belE) h0.2.1 i⟩
  obtain ⟨p1, q1, r1⟩ : ∃ p, (if c1 = i then a1 else Option.map (fun x => x.add i) a1) = p ∧ BRow w2.drew p (l1.drop i) := ⟨_, rfl, browDrop (h1.1.bel belE) h1.2.1 i⟩
  obtain ⟨p2, q2, r2⟩ : ∃ p, (if c2 = i then a2 else Option.map (fun x => x.add i) a2) = p ∧ BRow w2.drew p (l2.drop i) := ⟨_, rfl, browDrop (h2.1.bel belE) h2.2.1 i⟩
  obtain ⟨p3, q3, r3⟩ : ∃ p, (if c3 = j then a3 else Option.map (fun x => x.add j) a3) = p ∧ Row w2.drew p (l3.drop j) := ⟨_, rfl, rowDrop (h3.1.bel belE) h3.2.1 j⟩
  obtain ⟨p4, q4, r4⟩ : ∃ p, (if c4 = j then a4 else Option.map (fun x => x.add j) a4) = p ∧ Row w2.drew p (l4.drop j) := ⟨_, rfl, rowDrop (h4.1.bel belE) h4.2.1 j⟩
  obtain ⟨p5, q5, r5⟩ : ∃ p, (if c5 = j then a5 else Option.map (fun x => x.add j) a5) = p ∧ Row w2.drew p (l5.drop j) := ⟨_, rfl, rowDrop (h5.1.bel belE) h5.2.1 j⟩
  go_region_held3 (fun _ => True) (trivial) ((go_at_call 7; refine (emptyOf p0 (l0.drop i) (c0 - i) p1 (l1.drop i) (c1 - i) p2 (l2.drop i) (c2 - i) p3 (l3.drop j) (c3 - j) p4 (l4.drop j) (c4 - j) p5 (l5.drop j) (c5 - j) _ (n0 - i) (n3 - j) r0 r1 r2 r3 r4 r5 ?_ ?_ ?_ ?_ ?_ ?_ ?_ ?_).mono ?_; (have := E0.out; simp; omega); (have := E1.out; simp; omega); (have := E2.out; simp; omega); (have := E3.out; simp; omega); (have := E4.out; simp; omega); (have := E5.out; simp; omega); omega; omega; rintro e w3 ⟨rfl, bel3⟩))
  clear q0 q1 q2 q3 q4 q5 r0 r1 r2 r3 r4 r5
  have bel13 : Below w.heap.size w w3 := belE.trans (bel3.mono belE.size)
  clear belE bel3 bel12 bel1
  go_wp2_with fail
  refine (emptyOf none [] 0 none [] 0 none [] 0 none [] 0 none [] 0 none [] 0 w3 0 0 rowNil browNil browNil rowNil rowNil rowNil rfl rfl rfl rfl rfl rfl (by omega) (by omega)).mono ?_
  rintro e w4 ⟨rfl, bel4⟩
  have bel14 : Below w.heap.size w w4 := bel13.trans (bel4.mono bel13.size)
  clear bel13 bel4
  have hP := hide (emp_parts n0 n3 i j (by omega) (by omega))
  have v00 : emp 0 0 = true := rfl
  have v10 : emp 1 0 = false := rfl
  have v01 : emp 0 1 = false := rfl
  by_cases g0 : n0 = 0
  · have d0 : ((n0 : Int) == 0) = true := by rw [beq_iff_eq]; omega
    clear g0
    go_wp2
    go_quiet (fail)
    have belQ := below_drewN bel14
    by_cases g3 : n3 = 0
    · have d3 : ((n3 : Int) == 0) = true := by rw [beq_iff_eq]; omega
      clear g3
      go_wp2
      go_quiet (fail)
      cases hL : emp i j <;> cases hR : emp (n0 - i) (n3 - j)
      all_goals
        have hW := hP.out
        rw [hL, hR] at hW
        simp only [Bool.and_true, Bool.and_false, Bool.false_and, Bool.true_and] at hW
        go_wp2
        go_ret
        exact ⟨rfl, belQ _⟩
    · have d3 : ((n3 : Int) == 0) = false := by rw [beq_eq_false_iff_ne]; omega
      have y3 : (1 : Int) ≤ (c3 : Int) := by have := h3.2.1; have := E3.out; omega
      have y4 : (1 : Int) ≤ (c4 : Int) := by have := h4.2.1; have := E4.out; omega
      have y5 : (1 : Int) ≤ (c5 : Int) := by have := h5.2.1; have := E5.out; omega
      have G3 := hide g3
      clear g3
      go_wp2
      have belF : Below w.heap.size w (w4.drewN nq).drew := Below.drew (belQ nq)
      go_region_held3 (fun _ => True) (trivial) ((go_at_call 7; refine (emptyOf none [] 0 none [] 0 none [] 0 a3 (l3.take 1) c3 a4 (l4.take 1) c4 a5 (l5.take 1) c5 _ 0 1 rowNil browNil browNil (rowTake (h3.1.bel belF) 1) (rowTake (h4.1.bel belF) 1) (rowTake (h5.1.bel belF) 1) rfl rfl rfl ?_ ?_ ?_ ?_ ?_).mono ?_; (have := E3.out; have := G3.out; simp; omega); (have := E4.out; have := G3.out; simp; omega); (have := E5.out; have := G3.out; simp; omega); omega; omega; rintro e w6 ⟨rfl, bel6⟩))
      have belG : Below w.heap.size w w6 := belF.trans (bel6.mono belF.size)
      clear bel6 belF
      cases hL : emp i j <;> cases hR : emp (n0 - i) (n3 - j)
      all_goals
        have hW := hP.out
        rw [hL, hR] at hW
        simp only [Bool.and_true, Bool.and_false, Bool.false_and, Bool.true_and] at hW
        go_wp2
        go_ret
        exact ⟨rfl, belG⟩
  · have d0 : ((n0 : Int) == 0) = false := by rw [beq_eq_false_iff_ne]; omega
    have y0 : (1 : Int) ≤ (c0 : Int) := by have := h0.2.1; have := E0.out; omega
    have y1 : (1 : Int) ≤ (c1 : Int) := by have := h1.2.1; have := E1.out; omega
    have y2 : (1 : Int) ≤ (c2 : Int) := by have := h2.2.1; have := E2.out; omega
    have G0 := hide g0
    clear g0
    go_wp2
    have belF : Below w.heap.size w w4.drew := bel14.drew
    go_region_held3 (fun _ => True) (trivial) ((go_at_call 7; refine (emptyOf a0 (l0.take 1) c0 a1 (l1.take 1) c1 a2 (l2.take 1) c2 none [] 0 none [] 0 none [] 0 _ 1 0 (rowTake (h0.1.bel belF) 1) (browTake (h1.1.bel belF) 1) (browTake (h2.1.bel belF) 1) rowNil rowNil rowNil ?_ ?_ ?_ rfl rfl rfl ?_ ?_).mono ?_; (have := E0.out; have := G0.out; simp; omega); (have := E1.out; have := G0.out; simp; omega); (have := E2.out; have := G0.out; simp; omega); omega; omega; rintro e w5 ⟨rfl, bel5⟩))
    have bel15 : Below w.heap.size w w5 := belF.trans (bel5.mono belF.size)
    clear bel5 belF
    by_cases g3 : n3 = 0
    · have d3 : ((n3 : Int) == 0) = true := by rw [beq_iff_eq]; omega
      clear g3
      go_wp2
      go_quiet (fail)
      cases hL : emp i j <;> cases hR : emp (n0 - i) (n3 - j)
      all_goals
        have hW := hP.out
        rw [hL, hR] at hW
        simp only [Bool.and_true, Bool.and_false, Bool.false_and, Bool.true_and] at hW
        go_wp2
        go_ret
        exact ⟨rfl, below_drewN bel15 _⟩
    · have d3 : ((n3 : Int) == 0) = false := by rw [beq_eq_false_iff_ne]; omega
      have y3 : (1 : Int) ≤ (c3 : Int) := by have := h3.2.1; have := E3.out; omega
      have y4 : (1 : Int) ≤ (c4 : Int) := by have := h4.2.1; have := E4.out; omega
      have y5 : (1 : Int) ≤ (c5 : Int) := by have := h5.2.1; have := E5.out; omega
      have G3 := hide g3
      clear g3
      go_wp2
      have belF : Below w.heap.size w (w5).drew := Below.drew bel15
      go_region_held3 (fun _ => True) (trivial) ((go_at_call 7; refine (emptyOf none [] 0 none [] 0 none [] 0 a3 (l3.take 1) c3 a4 (l4.take 1) c4 a5 (l5.take 1) c5 _ 0 1 rowNil browNil browNil (rowTake (h3.1.bel belF) 1) (rowTake (h4.1.bel belF) 1) (rowTake (h5.1.bel belF) 1) rfl rfl rfl ?_ ?_ ?_ ?_ ?_).mono ?_; (have := E3.out; have := G3.out; simp; omega); (have := E4.out; have := G3.out; simp; omega); (have := E5.out; have := G3.out; simp; omega); omega; omega; rintro e w6 ⟨rfl, bel6⟩))
      have belG : Below w.heap.size w w6 := belF.trans (bel6.mono belF.size)
      clear bel6 belF
      cases hL : emp i j <;> cases hR : emp (n0 - i) (n3 - j)
      all_goals
        have hW := hP.out
        rw [hL, hR] at hW
        simp only [Bool.and_true, Bool.and_false, Bool.false_and, Bool.true_and] at hW
        go_wp2
        go_ret
        exact ⟨rfl, belG⟩

theorem walk (a0 : Option Addr) (l0 : List ByteArray) (c0 : Nat) (a1 : Option Addr) (l1 : List Bool) (c1 : Nat) (a2 : Option Addr) (l2 : List Bool) (c2 : Nat) (a3 : Option Addr) (l3 : List ByteArray) (c3 : Nat) (a4 : Option Addr) (l4 : List ByteArray) (c4 : Nat) (a5 : Option Addr) (l5 : List ByteArray) (c5 : Nat) (i j : Int) (w : World)
    (h0 : IsStrs w a0 c0 l0) (z0 : ∀ s ∈ l0, s.size ≤ maxLen) (h1 : IsBools w a1 c1 l1) (h2 : IsBools w a2 c2 l2) (h3 : IsStrs w a3 c3 l3) (z3 : ∀ s ∈ l3, s.size ≤ maxLen) (h4 : IsStrs w a4 c4 l4) (z4 : ∀ s ∈ l4, s.size ≤ maxLen) (h5 : IsStrs w a5 c5 l5) (z5 : ∀ s ∈ l5, s.size ≤ maxLen) :
    Calls Try.prog 3 #[.slice a0 l0.length c0, .slice a1 l1.length c1, .slice a2 l2.length c2, .slice a3 l3.length c3, .slice a4 l4.length c4, .slice a5 l5.length c5, .int .i64 i, .int .i64 j] w fun e w' => e = .returned (.bool true) ∧ Below w.heap.size w w' := by
  by_cases h : l1.length = l0.length ∧ l2.length = l0.length ∧ l4.length = l3.length ∧ l5.length = l3.length
  · obtain ⟨e1, e2, e4, e5⟩ := h
    have hw := walk_eq a0 l0 c0 a1 l1 c1 a2 l2 c2 a3 l3 c3 a4 l4 c4 a5 l5 c5 i j w l0.length l3.length h0 z0 h1 h2 h3 z3 h4 z4 h5 z5 rfl e1 e2 rfl e4 e5
    rw [e1, e2, e4, e5]
    exact hw
  · exact walk_ne a0 l0 c0 a1 l1 c1 a2 l2 c2 a3 l3 c3 a4 l4 c4 a5 l5 c5 i j w h0 z0 h1 h2 h3 z3 h4 z4 h5 z5 h
end Go.Proofs.Qxb6615484a.fnTransactionEmptyIsAndOverParts
