/-
  PLAIN: the order of strings and of tuples. No Go in sight but the model's own '<' on bytes.
-/
import Derived.Laws.Strings
import Derived.Lib.Strings
namespace Go.Proofs.Qxb6608660a
open Go

/-- What a string is to the order. -/
def ky (s : ByteArray) : List UInt8 := s.data.toList
/-- Go's order of strings as a number. -/
def cmpS (a b : ByteArray) : Int := if ky a < ky b then -1 else if ky b < ky a then 1 else 0
/-- Field by field. -/
def cmpT : List ByteArray → List ByteArray → Int
  | [], [] => 0
  | [], _ :: _ => -1
  | _ :: _, [] => 1
  | x :: xs, y :: ys => if cmpS x y = 0 then cmpT xs ys else cmpS x y

theorem bytesLess_lt : ∀ (x y : List UInt8), Op.bytesLess x y = decide (x < y)
  | [], [] => by simp [Op.bytesLess]
  | _ :: _, [] => by simp [Op.bytesLess]
  | [], _ :: _ => by simp [Op.bytesLess]
  | a :: x, b :: y => by
    rw [Op.bytesLess, bytesLess_lt x y]
    simp only [List.cons_lt_cons_iff]
    by_cases h1 : a < b <;> by_cases h2 : a = b <;> by_cases h3 : x < y <;> simp [h1, h2, h3]

theorem ky_inj {a b : ByteArray} (h : ky a = ky b) : a = b := ByteArray.ext (Array.toList_inj.1 h)
theorem ltu_irrefl (a : List UInt8) : ¬ a < a := List.lt_irrefl a
theorem ltu_trans {a b c : List UInt8} (h : a < b) (k : b < c) : a < c := List.lt_trans h k
theorem ltu_total {a b : List UInt8} (h : ¬ a < b) (k : ¬ b < a) : a = b := List.le_antisymm (List.not_lt.1 k) (List.not_lt.1 h)

/-- '<' as the walk spells it. -/
theorem less_iff (a b : ByteArray) : Op.bytesLess a.toList b.toList = true ↔ cmpS a b = -1 := by
  rw [bytesLess_lt, Lib.toList_data, Lib.toList_data]
  unfold cmpS ky
  by_cases h : a.data.toList < b.data.toList
  · simp [h]
  · by_cases k : b.data.toList < a.data.toList <;> simp [h, k]
theorem cmpS_vals (a b : ByteArray) : cmpS a b = -1 ∨ cmpS a b = 0 ∨ cmpS a b = 1 := by
  unfold cmpS
  by_cases h : ky a < ky b
  · simp [h]
  · by_cases k : ky b < ky a <;> simp [h, k]
theorem cmpS_zero (a b : ByteArray) : cmpS a b = 0 ↔ a = b := by
  unfold cmpS
  by_cases h : ky a < ky b
  · simp only [h, if_true]
    constructor
    · intro e; cases e
    · intro e; subst e; exact absurd h (ltu_irrefl _)
  · by_cases k : ky b < ky a
    · simp only [h, k, if_true, if_false]
      constructor
      · intro e; cases e
      · intro e; subst e; exact absurd k (ltu_irrefl _)
    · simp only [h, k, if_false, true_iff]
      exact ky_inj (ltu_total h k)
theorem cmpS_swap (a b : ByteArray) : cmpS b a = - cmpS a b := by
  unfold cmpS
  by_cases h : ky a < ky b
  · have k : ¬ ky b < ky a := fun k => ltu_irrefl _ (ltu_trans h k)
    simp [h, k]
  · by_cases k : ky b < ky a <;> simp [h, k]
theorem cmpS_lt (a b : ByteArray) : cmpS a b = -1 ↔ ky a < ky b := by
  unfold cmpS
  by_cases h : ky a < ky b
  · simp [h]
  · by_cases k : ky b < ky a <;> simp [h, k]
theorem cmpS_trans {a b c : ByteArray} (h : cmpS a b = -1) (k : cmpS b c = -1) : cmpS a c = -1 := by
  rw [cmpS_lt] at *
  exact ltu_trans h k
theorem cmpS_self (a : ByteArray) : cmpS a a = 0 := (cmpS_zero a a).2 rfl

theorem cmpT_vals : ∀ x y : List ByteArray, cmpT x y = -1 ∨ cmpT x y = 0 ∨ cmpT x y = 1
  | [], [] => by simp [cmpT]
  | [], _ :: _ => by simp [cmpT]
  | _ :: _, [] => by simp [cmpT]
  | x :: xs, y :: ys => by
    unfold cmpT
    by_cases h : cmpS x y = 0
    · simp only [h, if_true]; exact cmpT_vals xs ys
    · rw [if_neg h]; exact cmpS_vals x y
theorem cmpT_zero : ∀ x y : List ByteArray, cmpT x y = 0 ↔ x = y
  | [], [] => by simp [cmpT]
  | [], _ :: _ => by simp [cmpT]
  | _ :: _, [] => by simp [cmpT]
  | x :: xs, y :: ys => by
    unfold cmpT
    by_cases h : cmpS x y = 0
    · simp only [h, if_true]
      rw [cmpT_zero xs ys, (cmpS_zero x y).1 h]
      simp
    · simp only [h, if_false]
      constructor
      · intro e; exact e.elim
      · intro e
        simp only [List.cons.injEq] at e
        rw [e.1, cmpS_self] at h
        exact h rfl
theorem cmpT_swap : ∀ x y : List ByteArray, cmpT y x = - cmpT x y
  | [], [] => by simp [cmpT]
  | [], _ :: _ => by simp [cmpT]
  | _ :: _, [] => by simp [cmpT]
  | x :: xs, y :: ys => by
    have hs := cmpS_swap x y
    unfold cmpT
    by_cases h : cmpS x y = 0
    · rw [h] at hs
      simp only [h, hs, Int.neg_zero, if_true]
      exact cmpT_swap xs ys
    · have h' : ¬ cmpS y x = 0 := by omega
      simp only [h, h', if_false]
      exact hs
theorem cmpT_trans : ∀ x y z : List ByteArray, cmpT x y = -1 → cmpT y z = -1 → cmpT x z = -1
  | [], _, _ :: _, _, _ => by simp [cmpT]
  | [], [], [], h, _ => by simp [cmpT] at h
  | [], _ :: _, [], _, k => by simp [cmpT] at k
  | _ :: _, [], _, h, _ => by simp [cmpT] at h
  | _ :: _, _ :: _, [], _, k => by simp [cmpT] at k
  | x :: xs, y :: ys, z :: zs, h, k => by
    unfold cmpT at *
    by_cases h1 : cmpS x y = 0
    · have e := (cmpS_zero x y).1 h1
      subst e
      simp only [h1, if_true] at h
      by_cases k1 : cmpS x z = 0
      · simp only [k1, if_true] at k ⊢
        exact cmpT_trans xs ys zs h k
      · simp only [k1, if_false] at k ⊢
        exact k
    · simp only [h1, if_false] at h
      by_cases k1 : cmpS y z = 0
      · have e := (cmpS_zero y z).1 k1
        subst e
        simp only [h1, if_false]
        exact h
      · simp only [k1, if_false] at k
        have e := cmpS_trans h k
        rw [e]
        simp
theorem cmpT_self (x : List ByteArray) : cmpT x x = 0 := (cmpT_zero x x).2 rfl

/-- What is compared so far agrees: the answer hangs on the rest. -/
theorem cmpT_same : ∀ (n : Nat) (x y : List ByteArray), n ≤ x.length → n ≤ y.length → x.take n = y.take n → cmpT x y = cmpT (x.drop n) (y.drop n)
  | 0, _, _, _, _, _ => by simp
  | n + 1, [], _, h, _, _ => by simp at h
  | n + 1, _ :: _, [], _, h, _ => by simp at h
  | n + 1, a :: x, b :: y, h1, h2, h3 => by
    simp only [List.take_succ_cons, List.cons.injEq] at h3
    obtain ⟨rfl, h3⟩ := h3
    rw [cmpT]
    simp only [cmpS_self, if_true, List.drop_succ_cons]
    exact cmpT_same n x y (by simpa using h1) (by simpa using h2) h3

theorem drop_getD {l : List ByteArray} {k : Nat} (h : k < l.length) : l.drop k = l.getD k ByteArray.empty :: l.drop (k + 1) := by
  rw [List.drop_eq_getElem_cons h, List.getD_eq_getElem?_getD, List.getElem?_eq_getElem h]
  rfl
theorem take_getD {l : List ByteArray} {k : Nat} (h : k < l.length) : l.take (k + 1) = l.take k ++ [l.getD k ByteArray.empty] := by
  rw [List.take_succ_eq_append_getElem h, List.getD_eq_getElem?_getD, List.getElem?_eq_getElem h]
  rfl
/-- The fields differ at k: that is the answer. -/
theorem cmp_differ {l l' : List ByteArray} {k : Nat} (h : k < l.length) (h' : k < l'.length) (ht : l.take k = l'.take k) (hc : cmpS (l.getD k ByteArray.empty) (l'.getD k ByteArray.empty) ≠ 0) :
    cmpT l l' = cmpS (l.getD k ByteArray.empty) (l'.getD k ByteArray.empty) := by
  rw [cmpT_same k l l' (by omega) (by omega) ht, drop_getD h, drop_getD h', cmpT, if_neg hc]
/-- The fields agree at k: on. -/
theorem cmp_agree {l l' : List ByteArray} {k : Nat} (h : k < l.length) (h' : k < l'.length) (ht : l.take k = l'.take k) (hc : cmpS (l.getD k ByteArray.empty) (l'.getD k ByteArray.empty) = 0) :
    l.take (k + 1) = l'.take (k + 1) := by
  rw [take_getD h, take_getD h', ht, (cmpS_zero _ _).1 hc]
/-- The second is at its end, the first is not. -/
theorem cmp_more {l l' : List ByteArray} {k : Nat} (h : k < l.length) (h' : l'.length = k) (ht : l.take k = l'.take k) : cmpT l l' = 1 := by
  rw [cmpT_same k l l' (by omega) (by omega) ht, drop_getD h, List.drop_eq_nil_of_le (by omega : l'.length ≤ k)]
  rfl
theorem cmp_less {l l' : List ByteArray} {k : Nat} (h : l.length = k) (h' : k < l'.length) (ht : l.take k = l'.take k) : cmpT l l' = -1 := by
  rw [cmpT_same k l l' (by omega) (by omega) ht, drop_getD h', List.drop_eq_nil_of_le (by omega : l.length ≤ k)]
  rfl
theorem cmp_both {l l' : List ByteArray} {k : Nat} (h : l.length = k) (h' : l'.length = k) (ht : l.take k = l'.take k) : cmpT l l' = 0 := by
  rw [cmpT_zero]
  rwa [List.take_of_length_le (by omega), List.take_of_length_le (by omega)] at ht
end Go.Proofs.Qxb6608660a
