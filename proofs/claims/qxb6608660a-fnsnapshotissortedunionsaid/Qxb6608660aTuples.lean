/-
  CONTRACTS of cloneStrings, toTuples.
-/
import Derived.Test.Qxb6608660aFind
namespace Go.Proofs.Qxb6608660a
open Go.RowKit
set_option linter.unusedVariables false

theorem Row.bel {w w' : World} {a : Option Addr} {l : List ByteArray} (h : Row w a l) (k : Below w.heap.size w w') : Row w' a l :=
  ⟨h.1, fun i hi => by obtain ⟨b, off, e, hc⟩ := h.2 i hi; exact ⟨b, off, e, (k.cell (World.block_lt_of_cell? w _ hc)).trans hc⟩⟩
theorem Row.setCell {w : World} {a : Option Addr} {l : List ByteArray} (h : Row w a l) {p : Addr} {x : Option Addr} {n c : Nat} (hp : w.cell? p = some (.slice x n c)) (v : Value) : Row (w.setCell p v) a l :=
  ⟨h.1, fun i hi => by
    obtain ⟨b, off, e, hc⟩ := h.2 i hi
    refine ⟨b, off, e, (World.cell?_setCell_other _ _ _ _ ?_).trans hc⟩
    intro hh
    rw [hh, hc] at hp
    cases hp⟩
theorem Tup.ok.bel {w w' : World} {t : Tup} (h : t.ok w) (k : Below w.heap.size w w') : t.ok w' := ⟨h.1.bel k, h.2⟩
theorem Tup.ok.setCell {w : World} {t : Tup} (h : t.ok w) {p : Addr} {x : Option Addr} {n c : Nat} (hp : w.cell? p = some (.slice x n c)) (v : Value) : t.ok (w.setCell p v) := ⟨h.1.setCell hp v, h.2⟩
theorem TRow.bel {w w' : World} {a : Option Addr} {n : Nat} {T : Nat → Tup} (h : TRow w a n T) (k : Below w.heap.size w w') : TRow w' a n T :=
  ⟨h.1, fun i hi => by obtain ⟨⟨b, off, e, hc⟩, ho⟩ := h.2 i hi; exact ⟨⟨b, off, e, (k.cell (World.block_lt_of_cell? w _ hc)).trans hc⟩, ho.bel k⟩⟩

theorem eqlNil62 (w : World) (a : Option Addr) (n c : Nat) : (binOp .eql 62 (.slice a n c) (.slice none 0 0)).run Try.prog w = .ok (.bool a.isNone) w :=
  Lib.run_eql_slice_nil w 62 9 a n c 0 0 Try.underlying62
theorem eqlNil59 (w : World) (a : Option Addr) (n c : Nat) : (binOp .eql 59 (.slice a n c) (.slice none 0 0)).run Try.prog w = .ok (.bool a.isNone) w :=
  Lib.run_eql_slice_nil w 59 62 a n c 0 0 Try.underlying59
theorem info9 : (Try.prog.info? 9).map (fun i => (i.zero, i.size, i.bytes)) = some (some (.string { data := #[] }), 1, 16) := by kernel_rfl
theorem info68 : (Try.prog.info? 68).map (fun i => (i.zero, i.size, i.bytes)) = some (some (.slice none 0 0), 1, 24) := by kernel_rfl

theorem clone_nil (w : World) (c : Nat) :
    Calls Try.prog 32 #[.slice none 0 c] w fun e w' => e = .returned (.slice none 0 0) ∧ w = w' := by
  have hq := eqlNil62
  go_enter Try.func32, Try.ntmps32
  go_wp2
  go_ret
  exact ⟨rfl, rfl⟩

set_option maxHeartbeats 400000 in
theorem clone_some (a : Addr) (l : List ByteArray) (c : Nat) (w : World) (hr : Row w (some a) l) (hl : l.length ≤ 1048576) :
    Calls Try.prog 32 #[.slice (some a) l.length c] w fun e w' => e = .returned (.slice (some ⟨w.heap.size, 0, none⟩) l.length l.length) ∧ Below w.heap.size w w' ∧ w'.rowIs w.heap.size 9 l.length (fun i => .string (l.getD i ByteArray.empty)) := by
  have hq := eqlNil62
  have hmk := run_make_row' (P := Try.prog) 62 9 (.string { data := #[] }) 16 Try.underlying62 info9 rfl .i64 .i64 l.length (by omega) (by omega)
  go_enter Try.func32, Try.ntmps32
  go_wp2
  go_loopw [4] (fun i wr => ∃ k : Nat, k ≤ l.length ∧ i = .int .i64 k ∧ Below w.heap.size w wr ∧ wr.rowIs w.heap.size 9 l.length (fun i => if i < k then .string (l.getD i ByteArray.empty) else .string { data := #[] })) (fun i _ => l.length - (intOf i).toNat)
  case atStart => exact ⟨0, Nat.zero_le _, rfl, (Below.refl _ _).alloc (Nat.le_refl _) _, by simpa using World.rowIs_made w _ l.length 9⟩
  case round =>
    obtain ⟨k, hk, rfl, hb, hrow⟩ := hrel
    by_cases hlt : k < l.length
    · obtain ⟨b, off, he, hc⟩ := hr.2 k hlt
      cases he
      have hbl : b < w.heap.size := World.block_lt_of_cell? w _ hc
      have hc' := (hb.cell (p := ⟨b, off + k, none⟩) hbl).trans hc
      have hold := hrow.cell hlt
      have hfr := hrow.frozen k
      have Hset := hide (hrow.set k (.string (l.getD k ByteArray.empty)))
      simp only [Nat.lt_irrefl, if_false] at hold
      generalize hs : l.getD k ByteArray.empty = s at hc' Hset
      have Hs := hide hs
      clear hs hc hmk hr
      have Hrow := hide hrow
      clear hrow
      go_wp2
      refine ⟨⟨k + 1, by omega, by go_num, hb.setCell (p := ⟨w.heap.size, k, none⟩) (Nat.le_refl _) _, ?_⟩, by simp [intOf]; omega⟩
      refine Hset.out.congr ?_
      intro i hi
      by_cases h1 : i = k
      · subst h1; simp [← Hs.out]
      · by_cases h2 : i < k
        · simp [h1, h2, show i < k + 1 by omega]
        · simp [h1, h2, show ¬ i < k + 1 by omega]
    · have Hrow := hide hrow
      clear hrow hmk
      go_wp2
      go_ret
      refine ⟨rfl, hb, Hrow.out.congr ?_⟩
      intro i hi
      simp [show i < k by omega]

/-- A tuple cloned. -/
theorem clone_any (t : Tup) (w : World) (h : t.ok w) :
    Calls Try.prog 32 #[.slice t.a t.l.length t.c] w fun e w' => ∃ t' : Tup, e = .returned (.slice t'.a t'.l.length t'.c) ∧ t'.l = t.l ∧ t'.ok w' ∧ Below w.heap.size w w' := by
  obtain ⟨a, l, c⟩ := t
  obtain ⟨hr, hl⟩ := h
  cases a with
  | none =>
    have e1 := hr.1 rfl
    simp only at e1
    subst e1
    refine (clone_nil w c).mono ?_
    rintro e w' ⟨rfl, rfl⟩
    exact ⟨⟨none, [], 0⟩, rfl, rfl, ⟨⟨fun _ => rfl, fun i hi => absurd hi (by simp)⟩, by simp⟩, Below.refl _ _⟩
  | some a =>
    refine (clone_some a l c w hr hl).mono ?_
    rintro e w' ⟨rfl, hb, hrow⟩
    refine ⟨⟨some ⟨w.heap.size, 0, none⟩, l, l.length⟩, rfl, rfl, ⟨⟨fun h => (by cases h), fun i hi => ⟨w.heap.size, 0, rfl, ?_⟩⟩, hl⟩, hb⟩
    rw [Nat.zero_add]
    exact hrow.cell hi

theorem toTuples_nil (w : World) (c : Nat) :
    Calls Try.prog 19 #[.slice none 0 c] w fun e w' => e = .returned (.slice none 0 0) ∧ w = w' := by
  have hq := eqlNil59
  go_enter Try.func19, Try.ntmps19
  go_wp2
  go_ret
  exact ⟨rfl, rfl⟩

set_option maxHeartbeats 800000 in
theorem toTuples_some (a : Addr) (n c : Nat) (T : Nat → Tup) (w : World) (hr : TRow w (some a) n T) (hn : n ≤ 1048576) :
    Calls Try.prog 19 #[.slice (some a) n c] w fun e w' => e = .returned (.slice (some ⟨w.heap.size, 0, none⟩) n n) ∧ Below w.heap.size w w' ∧ ∃ T' : Nat → Tup, w'.rowIs w.heap.size 68 n (fun i => (T' i).val) ∧ ∀ i, i < n → (T' i).l = (T i).l ∧ (T' i).ok w' := by
  have hq := eqlNil59
  have hmk := run_make_row' (P := Try.prog) 57 68 (.slice none 0 0) 24 Try.underlying57 info68 rfl .i64 .i64 n (by omega) (by omega)
  go_enter Try.func19, Try.ntmps19
  go_wp2
  go_loopw [4] (fun i wr => ∃ (k : Nat) (T' : Nat → Tup), k ≤ n ∧ i = .int .i64 k ∧ Below w.heap.size w wr ∧ wr.rowIs w.heap.size 68 n (fun i => if i < k then (T' i).val else .slice none 0 0) ∧ ∀ i, i < k → (T' i).l = (T i).l ∧ (T' i).ok wr) (fun i _ => n - (intOf i).toNat)
  case atStart => exact ⟨0, T, Nat.zero_le _, rfl, (Below.refl _ _).alloc (Nat.le_refl _) _, by simpa using World.rowIs_made w _ n 68, fun i hi => absurd hi (by omega)⟩
  case round =>
    obtain ⟨k, T', hk, rfl, hb, hrow, hT⟩ := hrel
    by_cases hlt : k < n
    · obtain ⟨⟨b, off, he, hc⟩, hok⟩ := hr.2 k hlt
      cases he
      have hbl : b < w.heap.size := World.block_lt_of_cell? w _ hc
      have hc' := (hb.cell (p := ⟨b, off + k, none⟩) hbl).trans hc
      have hok' := hok.bel hb
      unfold Tup.val at hc'
      have Hrow := hide hrow
      have HT := hide hT
      have hi : (k : Int) < (n : Int) := by omega
      clear hrow hT hmk hr hc hok
      go_wp2_with fail
      refine (clone_any (T k) wr hok').mono ?_
      rintro e w1 ⟨t, rfl, ht, hto, hb1⟩
      have hlt' := Hrow.out.lt
      have hrow1 := Hrow.out.of_block (hb1.block w.heap.size hlt')
      have hold := hrow1.cell hlt
      have hfr := hrow1.frozen k
      have Hset := hide (hrow1.set k t.val)
      simp only [Nat.lt_irrefl, if_false] at hold
      have Ht := hide ht
      have HT1 : Hid (∀ i, i < k → (T' i).l = (T i).l ∧ (T' i).ok w1) := fun i hi => ⟨(HT.out i hi).1, (HT.out i hi).2.bel hb1⟩
      have Hold := hide hold
      clear ht hrow1
      have hb2 : Below w.heap.size w w1 := hb.trans (hb1.mono hb.size)
      go_wp2
      refine ⟨⟨k + 1, fun i => if i = k then t else T' i, by omega, by go_num, hb2.setCell (p := ⟨w.heap.size, k, none⟩) (Nat.le_refl _) _, ?_, ?_⟩, by simp [intOf]; omega⟩
      · refine Hset.out.congr ?_
        intro i hi
        by_cases h1 : i = k
        · subst h1; simp [Tup.val]
        · by_cases h2 : i < k
          · simp [h1, h2, show i < k + 1 by omega]
          · simp [h1, h2, show ¬ i < k + 1 by omega]
      · intro i hi
        by_cases h1 : i = k
        · subst h1
          simp only [if_true]
          exact ⟨Ht.out, hto.setCell Hold.out _⟩
        · simp only [h1, if_false]
          have := HT1.out i (by omega)
          exact ⟨this.1, this.2.setCell Hold.out _⟩
    · have Hrow := hide hrow
      have HT := hide hT
      clear hrow hmk hT
      go_wp2
      go_ret
      refine ⟨rfl, hb, T', Hrow.out.congr ?_, fun i hi => HT.out i (by omega)⟩
      intro i hi
      simp [show i < k by omega]

/-- toTuples: the same fields, in memory of its own. -/
theorem toTuples_any (a : Option Addr) (n c : Nat) (T : Nat → Tup) (w : World) (hr : TRow w a n T) (hn : n ≤ 1048576) :
    Calls Try.prog 19 #[.slice a n c] w fun e w' => ∃ (a' : Option Addr) (c' : Nat) (T' : Nat → Tup), e = .returned (.slice a' n c') ∧ TRow w' a' n T' ∧ (∀ i, i < n → (T' i).l = (T i).l) ∧ Below w.heap.size w w' ∧ (∀ x, a' = some x → w.heap.size ≤ x.block) ∧ n ≤ c' := by
  cases a with
  | none =>
    have e1 := hr.1 rfl
    subst e1
    refine (toTuples_nil w c).mono ?_
    rintro e w' ⟨rfl, rfl⟩
    exact ⟨none, 0, T, rfl, ⟨fun _ => rfl, fun i hi => absurd hi (by omega)⟩, fun _ _ => rfl, Below.refl _ _, fun x h => (by cases h), Nat.le_refl _⟩
  | some a =>
    refine (toTuples_some a n c T w hr hn).mono ?_
    rintro e w' ⟨rfl, hb, T', hrow, hT⟩
    refine ⟨some ⟨w.heap.size, 0, none⟩, n, T', rfl, ⟨fun h => (by cases h), fun i hi => ⟨⟨w.heap.size, 0, rfl, ?_⟩, (hT i hi).2⟩⟩, fun i hi => (hT i hi).1, hb, fun x h => (by cases h; exact Nat.le_refl _), Nat.le_refl _⟩
    rw [Nat.zero_add]
    exact hrow.cell hi
end Go.Proofs.Qxb6608660a
