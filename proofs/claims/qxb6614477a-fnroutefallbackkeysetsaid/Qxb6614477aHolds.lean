/-
  PLAIN LAWS on what the map holds; and a slice of strings as it comes in.
-/
import Derived.Test.Qxb6614477aBytes
import Derived.Deep.RegionWith
namespace Go.Proofs.Qxb6614477a
open Go.RowKit
set_option linter.unusedVariables false

theorem lit_ne {s t : ByteArray} (h : s ≠ t) : Lit.string s.data.toList ≠ Lit.string t.data.toList := by
  intro e
  apply h
  simp only [Lit.string.injEq] at e
  exact ByteArray.ext (Array.toList_inj.1 e)
theorem key_lit (s : ByteArray) : WideAt.IsKeyLit (Lit.string s.data.toList) := trivial
theorem holds_same {D : DataW Value} (hD : Maps.IsMap D) (s : ByteArray) (v : Value) : Holds (D.put (.string s.data.toList) (.held v)) s v :=
  ⟨Maps.has_put_same hD (key_lit s) _, fun z => Maps.atKey_put_same hD (key_lit s) _ z⟩
theorem holds_other {D : DataW Value} {s t : ByteArray} {v : Value} (h : Holds D s v) (hne : s ≠ t) (d : DataW Value) : Holds (D.put (.string t.data.toList) d) s v :=
  ⟨(Maps.has_put_other (lit_ne hne) d).trans h.1, fun z => (Maps.atKey_put_other (lit_ne hne) d z).trans (h.2 z)⟩
theorem beq_ne {s t : ByteArray} (h : s ≠ t) : (s.toList == t.toList) = false := by
  rw [beq_eq_false_iff_ne]
  intro e
  rw [Lib.toList_data, Lib.toList_data] at e
  exact h (ByteArray.ext (Array.toList_inj.1 e))
theorem beq_same {s t : ByteArray} (h : s = t) : (s.toList == t.toList) = true := by rw [h]; simp
/-- How many entries three stores leave. -/
theorem size3 (s0 s2 s4 : ByteArray) (d0 d2 d4 : DataW Value) : Maps.size ((((DataW.map []).put (.string s4.data.toList) d4).put (.string s0.data.toList) d0).put (.string s2.data.toList) d2) =
    1 + (if decide (s0 = s4) = true then 0 else 1) + (if decide (s2 = s4 ∨ s2 = s0) = true then 0 else 1) := by
  have t0 : Maps.Tidy (DataW.map [] : DataW Value) := Maps.tidy_empty
  have t1 := t0.put (key_lit s4) d4
  have t2 := t1.put (key_lit s0) d0
  rw [Maps.size_put t2, Maps.size_put t1, Maps.size_put t0]
  have z : Maps.has (DataW.map [] : DataW Value) (.string s4.data.toList) = false := rfl
  have h1 : Maps.has ((DataW.map []).put (.string s4.data.toList) d4) (.string s0.data.toList) = decide (s0 = s4) := by
    by_cases h : s0 = s4
    · subst h; rw [Maps.has_put_same t0.isMap (key_lit s0)]; simp
    · rw [Maps.has_put_other (lit_ne h)]; simp [h]; rfl
  have h2 : Maps.has (((DataW.map []).put (.string s4.data.toList) d4).put (.string s0.data.toList) d0) (.string s2.data.toList) = decide (s2 = s4 ∨ s2 = s0) := by
    by_cases h : s2 = s0
    · subst h; rw [Maps.has_put_same t1.isMap (key_lit s2)]; simp
    · rw [Maps.has_put_other (lit_ne h)]
      by_cases h' : s2 = s4
      · subst h'; rw [Maps.has_put_same t0.isMap (key_lit s2)]; simp
      · rw [Maps.has_put_other (lit_ne h')]; simp [h, h']; rfl
  rw [h2, h1, z]
  have z0 : Maps.size (DataW.map [] : DataW Value) = 0 := rfl
  rw [z0]
  generalize decide (s0 = s4) = b1
  generalize decide (s2 = s4 ∨ s2 = s0) = b2
  cases b1 <;> cases b2 <;> rfl


/-! ### a slice of strings that comes in -/
theorem strs_none {w : World} : IsStrs w none 0 [] := ⟨⟨fun _ => rfl, fun i hi => absurd hi (by simp)⟩, fun _ => rfl⟩
theorem strs_open {w : World} {a : Addr} {len cap : Nat} {ss : List ByteArray} (hl : len ≤ cap) (hm : cap ≤ maxLen) (hz : ss.length = cap)
    (hcell : ∀ i, i < ss.length → w.cell? (a.add i) = some (.string (ss.getD i ByteArray.empty))) (hws : ∀ s ∈ ss, s.size ≤ maxLen) :
    ∃ l : List ByteArray, len = l.length ∧ IsStrs w (some a) cap l ∧ l.length ≤ maxLen ∧ ∀ s ∈ l, s.size ≤ maxLen := by
  have e : (ss.take len).length = len := by simp; omega
  refine ⟨ss.take len, e.symm, ⟨⟨fun h => (by cases h), ?_⟩, fun h => (by cases h)⟩, by omega, fun s hs => hws s (List.mem_of_mem_take hs)⟩
  intro i hi
  rw [e] at hi
  have h0 := hcell 0 (by omega)
  obtain ⟨b, off, spot⟩ := a
  have hspot : spot = none := by simpa [Addr.add] using World.cell?_spot h0
  subst hspot
  refine ⟨b, off, rfl, ?_⟩
  have hi' := hcell i (by omega)
  rw [Go.WideShapes.add_plain] at hi'
  rw [hi']
  simp [List.getD_eq_getElem?_getD, hi]
end Go.Proofs.Qxb6614477a
