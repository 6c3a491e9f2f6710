/-
  CONTRACTS over rows of strings, the map and the credentials.
-/
import Derived.Test.Qxb6614477aBase
import Derived.Deep.OwnRows
import Derived.Maps.OwnSet
import Derived.Lib.SliceRun
import Derived.Deep.RegionWith
namespace Go.Proofs.Qxb6614477a
open Go.RowKit
set_option linter.unusedVariables false

/-- A row of strings behind an address. -/
def Row (w : World) (a : Option Addr) (l : List ByteArray) : Prop :=
  (a = none → l = []) ∧ ∀ i, i < l.length → ∃ b off, a = some ⟨b, off, none⟩ ∧ w.cell? ⟨b, off + i, none⟩ = some (.string (l.getD i ByteArray.empty))

theorem addString_in (n : Int) (s : ByteArray) (w : World) (h0 : 0 ≤ n) (h : n ≤ 17825792) (hs : s.size ≤ maxLen) :
    Calls Try.prog 9 #[.int .i64 n, .string s] w fun e w' => ∃ r : Int, e = .returned (.int .i64 r) ∧ 0 ≤ r ∧ r ≤ 2097152 ∧ (r ≤ 1048576 → n ≤ 1048576) ∧ w = w' := by
  unfold maxLen at hs
  by_cases h1 : 1048576 < n
  · go_enter Try.func9, Try.ntmps9
    go_wp2
    go_ret
    exact ⟨_, rfl, by omega, by omega, by omega, rfl⟩
  by_cases h2 : (1048576 : Int) < (s.size : Int)
  · go_enter Try.func9, Try.ntmps9
    go_wp2
    go_ret
    exact ⟨_, rfl, by omega, by omega, rfl⟩
  · go_enter Try.func9, Try.ntmps9
    go_wp2
    go_ret
    exact ⟨_, rfl, by omega, by omega, rfl⟩

set_option maxHeartbeats 400000 in
theorem addStrings_in (n : Int) (a : Option Addr) (l : List ByteArray) (c : Nat) (w : World) (hr : Row w a l) (hl : l.length ≤ maxLen) (hs : ∀ s ∈ l, s.size ≤ maxLen) (h0 : 0 ≤ n) (h : n ≤ 17825792) :
    Calls Try.prog 10 #[.int .i64 n, .slice a l.length c] w fun e w' => ∃ r : Int, e = .returned (.int .i64 r) ∧ 0 ≤ r ∧ r ≤ 17825792 ∧ (r ≤ 1048576 → n ≤ 1048576 ∧ l.length ≤ 1048576) ∧ w = w' := by
  unfold maxLen at hl
  by_cases h1 : 1048576 < n
  · go_enter Try.func10, Try.ntmps10
    go_wp2
    go_ret
    exact ⟨_, rfl, by omega, by omega, by omega, rfl⟩
  by_cases h2 : (1048576 : Int) < (l.length : Int)
  · go_enter Try.func10, Try.ntmps10
    go_wp2
    go_ret
    exact ⟨_, rfl, by omega, by omega, by omega, rfl⟩
  go_enter Try.func10, Try.ntmps10
  go_wp2
  go_loop [0, 5] (fun n i => ∃ (k : Nat) (m : Int), k ≤ l.length ∧ 0 ≤ m ∧ m ≤ 17825792 ∧ i = .int .i64 k ∧ n = .int .i64 m) (fun _ i => l.length - (intOf i).toNat)
  case atStart => exact ⟨0, _, Nat.zero_le _, by omega, by omega, rfl, rfl⟩
  case round =>
    obtain ⟨k, m, hk, hm0, hm1, rfl, rfl⟩ := hrel
    by_cases hlt : k < l.length
    · obtain ⟨b, off, rfl, hc⟩ := hr.2 k hlt
      have hsz : (l.getD k ByteArray.empty).size ≤ maxLen := hs _ (by rw [List.getD_eq_getElem?_getD, List.getElem?_eq_getElem hlt]; simp)
      generalize l.getD k ByteArray.empty = s at hc hsz
      by_cases h3 : 1048576 < m
      · go_wp2
        go_ret
        exact ⟨_, rfl, by omega, by omega, by omega, rfl⟩
      · go_wp2_with (go_at_call 9; refine (addString_in _ _ _ (by omega) (by omega) hsz).mono ?_; rintro e w' ⟨r, rfl, hr0, hr1, _, rfl⟩)
        go_round
        case rel => exact ⟨k + 1, r, by omega, by omega, by omega, by go_num, rfl⟩
        case measure => simp [intOf]; omega
    · go_wp2
      go_ret
      exact ⟨_, rfl, by omega, by omega, by omega, rfl⟩

theorem eqlNil (w : World) (a : Option Addr) (n c : Nat) : (binOp .eql 22 (.slice a n c) (.slice none 0 0)).run Try.prog w = .ok (.bool a.isNone) w :=
  Lib.run_eql_slice_nil w 22 9 a n c 0 0 Try.underlying22
theorem info9 : (Try.prog.info? 9).map (fun i => (i.zero, i.size, i.bytes)) = some (some (.string { data := #[] }), 1, 16) := by kernel_rfl

theorem clone_nil (w : World) :
    Calls Try.prog 11 #[.slice none 0 0] w fun e w' => e = .returned (.slice none 0 0) ∧ w = w' := by
  have hq := eqlNil
  go_enter Try.func11, Try.ntmps11
  go_wp2
  go_ret
  exact ⟨rfl, rfl⟩

set_option maxHeartbeats 400000 in
theorem clone_some (a : Addr) (l : List ByteArray) (c : Nat) (w : World) (hr : Row w (some a) l) (hl : l.length ≤ 1048576) :
    Calls Try.prog 11 #[.slice (some a) l.length c] w fun e w' => e = .returned (.slice (some ⟨w.heap.size, 0, none⟩) l.length l.length) ∧ Below w.heap.size w w' ∧ w'.rowIs w.heap.size 9 l.length (fun i => .string (l.getD i ByteArray.empty)) := by
  have hq := eqlNil
  have hmk := run_make_row' (P := Try.prog) 22 9 (.string { data := #[] }) 16 Try.underlying22 info9 rfl .i64 .i64 l.length (by omega) (by omega)
  go_enter Try.func11, Try.ntmps11
  go_wp2
  go_loopw [4] (fun i wr => ∃ k : Nat, k ≤ l.length ∧ i = .int .i64 k ∧ Below w.heap.size w wr ∧ wr.rowIs w.heap.size 9 l.length (fun i => if i < k then .string (l.getD i ByteArray.empty) else .string { data := #[] })) (fun i _ => l.length - (intOf i).toNat)
  case atStart => exact ⟨0, Nat.zero_le _, rfl, (Below.refl _ _).alloc (Nat.le_refl _) _, by simpa using World.rowIs_made w _ l.length 9⟩
  case round =>
    obtain ⟨k, hk, rfl, hb, hrow⟩ := hrel
    by_cases hlt : k < l.length
    · obtain ⟨b, off, he, hc⟩ := hr.2 k hlt
      cases he
      have hbl : b < w.heap.size := World.block_lt_of_cell? w _ hc
      have hc' := (hb.cell (p := ⟨b, off + k, none⟩) hbl).trans hc
      have hold := hrow.cell hlt
      have hfr := hrow.frozen k
      have Hset := hide (hrow.set k (.string (l.getD k ByteArray.empty)))
      simp only [Nat.lt_irrefl, if_false] at hold
      generalize hs : l.getD k ByteArray.empty = s at hc' Hset
      have Hs := hide hs
      clear hs hc hmk hr
      have Hrow := hide hrow
      clear hrow
      go_wp2
      refine ⟨⟨k + 1, by omega, by go_num, hb.setCell (p := ⟨w.heap.size, k, none⟩) (Nat.le_refl _) _, ?_⟩, by simp [intOf]; omega⟩
      refine Hset.out.congr ?_
      intro i hi
      by_cases h1 : i = k
      · subst h1; simp [← Hs.out]
      · by_cases h2 : i < k
        · simp [h1, h2, show i < k + 1 by omega]
        · simp [h1, h2, show ¬ i < k + 1 by omega]
    · have Hrow := hide hrow
      clear hrow hmk
      go_wp2
      go_ret
      refine ⟨rfl, hb, Hrow.out.congr ?_⟩
      intro i hi
      simp [show i < k by omega]

set_option maxHeartbeats 400000 in
theorem eqStrings_same (a a' : Option Addr) (l : List ByteArray) (c c' : Nat) (w : World) (hr : Row w a l) (hr' : Row w a' l) (hn : a.isNone = a'.isNone) (hl : l.length ≤ 1048576) :
    Calls Try.prog 25 #[.slice a l.length c, .slice a' l.length c'] w fun e w' => e = .returned (.bool true) ∧ ∃ nq, w' = w.drewN nq := by
  have hq := eqlNil
  have hb : ((a.isNone : Bool) == a'.isNone) = true := by rw [hn]; simp
  go_enter Try.func25, Try.ntmps25
  go_wp2
  go_loopw [5] (fun i wr => ∃ k nq : Nat, k ≤ l.length ∧ i = .int .i64 k ∧ wr = w.drewN nq) (fun i _ => l.length - (intOf i).toNat)
  case atStart => exact ⟨0, 0, Nat.zero_le _, rfl, rfl⟩
  case round =>
    obtain ⟨k, nq, hk, rfl, rfl⟩ := hrel
    by_cases hlt : k < l.length
    · obtain ⟨b, off, rfl, hc⟩ := hr.2 k hlt
      obtain ⟨b', off', rfl, hc'⟩ := hr'.2 k hlt
      generalize l.getD k ByteArray.empty = s at hc hc'
      have hi : (k : Int) < (l.length : Int) := by omega
      clear hr hr'
      go_wp2
      go_quiet (fail)
      go_wp2
      exact ⟨⟨k + 1, _, by omega, by go_num, rfl⟩, by simp [intOf]; omega⟩
    · go_wp2
      go_ret
      exact ⟨rfl, _, rfl⟩

/-! ### Maps from strings to slices: the elements stand for themselves -/
def vElem (v : Value) : Option (DataW Value × List MemPlace) := some (.held v, [])
theorem law : Maps.Keyed Try.prog 9 := Maps.string_keyed Try.underlying9
theorem zero22 (w : World) : (zeroValue 22).run Try.prog w = .ok (.slice none 0 0) w := by kernel_rfl
/-- What the map holds at a key. -/
def Holds (D : DataW Value) (s : ByteArray) (v : Value) : Prop := Maps.has D (.string s.data.toList) = true ∧ ∀ z, D.atKey (.string s.data.toList) z = .held v

theorem look (w : World) (b n : Nat) (D : DataW Value) (hown : w.ownsMap Try.prog 9 vElem b n D) (s : ByteArray) (hs : s.size ≤ maxLen) (v : Value) (h : Holds D s v) :
    (Instr.lookup 27 (.map (some b)) (.string s) true).run Try.prog w = .ok (.tuple #[v, .bool true]) w := by
  obtain ⟨v', ps, hrun, hv⟩ := hown.look_ok law Try.underlying27 (zero22 w) (zd := .held (.slice none 0 0)) (zp := []) rfl (Go.WideMaps.keyOf_string_mk Try.underlying9 hs)
  rw [h.1] at hrun
  rw [h.2] at hv
  simp only [vElem, Option.some.injEq, Prod.mk.injEq, DataW.held.injEq] at hv
  rw [hv.1] at hrun
  exact hrun

theorem holds_yes (b n : Nat) (D : DataW Value) (s : ByteArray) (a a' : Option Addr) (l : List ByteArray) (c c' : Nat) (w : World) (hown : w.ownsMap Try.prog 9 vElem b n D) (hs : s.size ≤ maxLen) (h : Holds D s (.slice a l.length c))
    (hr : Row w a l) (hr' : Row w a' l) (hn : a.isNone = a'.isNone) (hl : l.length ≤ 1048576) :
    Calls Try.prog 14 #[.map (some b), .string s, .slice a' l.length c'] w fun e w' => e = .returned (.bool true) ∧ ∃ nq, w' = w.drewN nq := by
  have hlk := look w b n D hown s hs _ h
  have Hn := hide hn
  clear hn
  go_enter Try.func14, Try.ntmps14
  go_wp2_with (go_at_call 25; refine (eqStrings_same _ _ _ _ _ _ hr hr' Hn.out hl).mono ?_; rintro e w' ⟨rfl, nq, rfl⟩)
  go_ret
  exact ⟨rfl, _, rfl⟩

/-! ### ZZnewCredential and Credential.Set -/
theorem newCred (h : ByteArray) (a : Option Addr) (n c : Nat) (w : World) :
    Calls Try.prog 12 #[.string h, .slice a n c] w fun e w' => e = .returned (.agg #[.string h, .slice a n c]) ∧ w' = w.alloc (.cells #[.string h, .slice a n c] 29) := by
  go_enter Try.func12, Try.ntmps12
  go_wp2
  exact bodyPost_ret (v := .agg #[.string h, .slice a n c]) (by simp [results, Try.results12, go_sem]) rfl ⟨rfl, rfl⟩

theorem cred_set (h : ByteArray) (a : Option Addr) (k c : Nat) (b n : Nat) (D : DataW Value) (w : World) (hown : w.ownsMap Try.prog 9 vElem b n D) (hn : n < maxLen) (hs : h.size ≤ maxLen) :
    Calls Try.prog 13 #[.agg #[.string h, .slice a k c], .map (some b)] w fun e w' => e = .returned (.tuple #[]) ∧ w'.ownsMap Try.prog 9 vElem b (n + 1) (D.put (.string h.data.toList) (.held (.slice a k c))) ∧ w.grownBy w' (some b) := by
  have ho1 := hown.alloc (.cells #[.string h, .slice a k c] 29)
  obtain ⟨w1, hrun, hown1, ht⟩ := ho1.store law (t := 45) (e := 22) (by kernel_rfl) hn (Go.WideMaps.keyOf_string_mk Try.underlying9 hs) (val := .slice a k c) (d := .held (.slice a k c)) (ps := []) rfl
  have hg := (World.grownBy_alloc w (.cells #[.string h, .slice a k c] 29) (some b)).trans ht.grown
  clear ho1 ht
  have Hown1 := hide hown1
  clear hown1
  go_enter Try.func13, Try.ntmps13
  go_wp2
  go_end0
  exact ⟨rfl, Hown1.out, hg⟩

/-! ### What is carried through the laws -/
/-- Every cell that is there stays. -/
def Kp (w w' : World) : Prop := ∀ p v, w.cell? p = some v → w'.cell? p = some v
theorem Kp.refl (w : World) : Kp w w := fun _ _ h => h
theorem Kp.trans {a b c : World} (h : Kp a b) (k : Kp b c) : Kp a c := fun p v e => k p v (h p v e)
theorem Kp.below {w w' : World} (h : Below w.heap.size w w') : Kp w w' := fun p v e => (h.cell (World.block_lt_of_cell? w p e)).trans e
theorem Kp.alloc (w : World) (o : Obj) : Kp w (w.alloc o) := Kp.below ((Below.refl _ _).alloc (Nat.le_refl _) o)
theorem Kp.map {w w' : World} {b n : Nat} {D : DataW Value} (hown : w.ownsMap Try.prog 9 vElem b n D) (h : w.grownBy w' (some b)) : Kp w w' := by
  intro p v e
  refine h.cell e ?_
  intro hb
  obtain ⟨es, clock, hh, _⟩ := hown
  cases hb
  simp [World.cell?, hh] at e

/-- A slice of strings as a value: nil, or a row of cells. -/
def IsStrs (w : World) (a : Option Addr) (c : Nat) (l : List ByteArray) : Prop := Row w a l ∧ (a = none → c = 0)
theorem Row.kp {w w' : World} {a : Option Addr} {l : List ByteArray} (h : Row w a l) (k : Kp w w') : Row w' a l :=
  ⟨h.1, fun i hi => by obtain ⟨b, off, e, hc⟩ := h.2 i hi; exact ⟨b, off, e, k _ _ hc⟩⟩
theorem IsStrs.kp {w w' : World} {a : Option Addr} {c : Nat} {l : List ByteArray} (h : IsStrs w a c l) (k : Kp w w') : IsStrs w' a c l := ⟨h.1.kp k, h.2⟩

theorem clone_any (a : Option Addr) (l : List ByteArray) (c : Nat) (w : World) (h : IsStrs w a c l) (hl : l.length ≤ 1048576) :
    Calls Try.prog 11 #[.slice a l.length c] w fun e w' => ∃ a' c', e = .returned (.slice a' l.length c') ∧ IsStrs w' a' c' l ∧ a.isNone = a'.isNone ∧ Below w.heap.size w w' := by
  obtain ⟨hr, hc⟩ := h
  cases a with
  | none =>
    have e1 := hr.1 rfl
    have e2 := hc rfl
    subst e1 e2
    refine (clone_nil w).mono ?_
    rintro e w' ⟨rfl, rfl⟩
    exact ⟨none, 0, rfl, ⟨hr, hc⟩, rfl, Below.refl _ _⟩
  | some a =>
    refine (clone_some a l c w hr hl).mono ?_
    rintro e w' ⟨rfl, hb, hrow⟩
    refine ⟨some ⟨w.heap.size, 0, none⟩, l.length, rfl, ⟨⟨fun h => (by cases h), fun i hi => ⟨w.heap.size, 0, rfl, ?_⟩⟩, fun h => (by cases h)⟩, rfl, hb⟩
    rw [Nat.zero_add]
    exact hrow.cell hi
end Go.Proofs.Qxb6614477a
