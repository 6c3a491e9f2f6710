/-
  CONTRACTS of empty, ZZempty, zzEmptyOf.
-/
import Derived.Test.Qxb6615484aNewTx
namespace Go.Proofs.Qxb6615484a
open Go.RowKit
set_option linter.unusedVariables false

theorem own_form {w : World} {base : Nat} {e : TypeId} {v : Value} {n : Nat} {xs : List Value} (h : w.ownsRow base e 3 v n xs) : ∃ a c, v = .slice a n c := by
  rcases h.2 with ⟨rfl, rfl⟩ | ⟨g, cap, cur, rfl, _⟩
  · exact ⟨none, 0, rfl⟩
  · exact ⟨_, _, rfl⟩

/-- Is there nothing in it? -/
def emp (k m : Nat) : Bool := decide (k = 0) && decide (m = 0)

theorem empty_any (w W : World) (B k m : Nat) (v u : Value) (h : Tx w W B v k u m) :
    Calls Try.prog 14 #[.pointer (some ⟨B, 0, none⟩)] W fun e w' => e = .returned (.bool (emp k m)) ∧ W = w' := by
  obtain ⟨xs, hx⟩ := h.own3
  obtain ⟨ys, hy⟩ := h.own4
  obtain ⟨a, c, rfl⟩ := own_form hx
  obtain ⟨a', c', rfl⟩ := own_form hy
  have c3 := h.c3
  have c4 := h.c4
  clear hx hy h
  by_cases hk : k = 0
  · subst hk
    by_cases hm : m = 0
    · subst hm
      have he : emp 0 0 = true := rfl
      rw [he]
      go_enter Try.func14, Try.ntmps14
      go_wp2
      go_ret
      exact ⟨rfl, rfl⟩
    · have he : emp 0 m = false := by simp [emp, hm]
      have hd : ((m : Int) == 0) = false := by simpa using hm
      rw [he]
      clear he
      go_enter Try.func14, Try.ntmps14
      go_wp2
      go_ret
      exact ⟨rfl, rfl⟩
  · have he : emp k m = false := by simp [emp, hk]
    have hd : ((k : Int) == 0) = false := by simpa using hk
    rw [he]
    clear he
    go_enter Try.func14, Try.ntmps14
    go_wp2
    go_ret
    exact ⟨rfl, rfl⟩

theorem zzEmpty_any (w W : World) (B k m : Nat) (v u : Value) (h : Tx w W B v k u m) :
    Calls Try.prog 12 #[.pointer (some ⟨B, 0, none⟩)] W fun e w' => e = .returned (.bool (emp k m)) ∧ W = w' := by
  go_enter Try.func12, Try.ntmps12
  go_wp2_with (go_at_call 14; refine (empty_any w W B k m v u h).mono ?_; rintro e w' ⟨rfl, rfl⟩)
  go_ret
  exact ⟨rfl, rfl⟩

theorem Row.bel {w w' : World} {a : Option Addr} {l : List ByteArray} (h : Row w a l) (k : Below w.heap.size w w') : Row w' a l :=
  ⟨h.1, fun i hi => by obtain ⟨b, off, e, hc⟩ := h.2 i hi; exact ⟨b, off, e, (k.cell (World.block_lt_of_cell? w _ hc)).trans hc⟩⟩
theorem BRow.bel {w w' : World} {a : Option Addr} {l : List Bool} (h : BRow w a l) (k : Below w.heap.size w w') : BRow w' a l :=
  ⟨h.1, fun i hi => by obtain ⟨b, off, e, hc⟩ := h.2 i hi; exact ⟨b, off, e, (k.cell (World.block_lt_of_cell? w _ hc)).trans hc⟩⟩
theorem info4 : (Try.prog.info? 4).map (fun i => (i.zero, i.size, i.bytes)) = some (some (.bool false), 1, 1) := by kernel_rfl

theorem emptyOf (a0 : Option Addr) (l0 : List ByteArray) (c0 : Nat) (a1 : Option Addr) (l1 : List Bool) (c1 : Nat) (a2 : Option Addr) (l2 : List Bool) (c2 : Nat) (a3 : Option Addr) (l3 : List ByteArray) (c3 : Nat) (a4 : Option Addr) (l4 : List ByteArray) (c4 : Nat) (a5 : Option Addr) (l5 : List ByteArray) (c5 : Nat) (w : World)
    (n0 n3 : Nat) (hr0 : Row w a0 l0) (hr1 : BRow w a1 l1) (hr2 : BRow w a2 l2) (hr3 : Row w a3 l3) (hr4 : Row w a4 l4) (hr5 : Row w a5 l5) (e0 : l0.length = n0) (e1 : l1.length = n0) (e2 : l2.length = n0) (e3 : l3.length = n3) (e4 : l4.length = n3) (e5 : l5.length = n3) (hl : n0 ≤ 4096) (hl3 : n3 ≤ 4096) :
    Calls Try.prog 7 #[.slice a0 n0 c0, .slice a1 n0 c1, .slice a2 n0 c2, .slice a3 n3 c3, .slice a4 n3 c4, .slice a5 n3 c5] w fun e w' => e = .returned (.bool (emp n0 n3)) ∧ Below w.heap.size w w' := by
  subst e0 e3
  have hmk := run_make_row' (P := Try.prog) 23 4 (.bool false) 1 Try.underlying23 info4 rfl .i64 .i64 l3.length (by omega) (by omega)
  have bel : Below w.heap.size w (w.alloc (.cells (madeCells #[.bool false] l3.length) 4)) := (Below.refl _ _).alloc (Nat.le_refl _) _
  have hrow := World.rowIs_made w (.bool false) l3.length 4
  have hr6 : BRow (w.alloc (.cells (madeCells #[.bool false] l3.length) 4)) (some ⟨w.heap.size, 0, none⟩) (List.replicate l3.length false) := by
    refine ⟨fun h => (by cases h), fun i hi => ⟨w.heap.size, 0, rfl, ?_⟩⟩
    rw [List.length_replicate] at hi
    rw [Nat.zero_add, hrow.cell hi]
    simp [List.getD_eq_getElem?_getD, hi]
  have E1 := hide e1
  have E2 := hide e2
  have E4 := hide e4
  have E5 := hide e5
  clear e1 e2 e4 e5 hrow
  go_enter Try.func7, Try.ntmps7
  go_wp2_with fail
  refine (newTx a0 l0 c0 a1 l1 c1 a2 l2 c2 a3 l3 c3 a4 l4 c4 a5 l5 c5 _ _ _ 0 0 (hr0.bel bel) (hr1.bel bel) (hr2.bel bel) (hr3.bel bel) (hr4.bel bel) (hr5.bel bel) hr6 E1.out E2.out E4.out E5.out hl hl3).mono ?_
  rintro e w1 ⟨rfl, v, u, htx⟩
  simp only [World.size_alloc] at htx
  clear hmk
  go_wp2_with fail
  refine (zzEmpty_any _ w1 _ _ _ v u htx).mono ?_
  rintro e w2 ⟨rfl, rfl⟩
  go_wp2
  go_ret
  exact ⟨rfl, bel.trans (htx.below.mono (by simp))⟩
end Go.Proofs.Qxb6615484a
