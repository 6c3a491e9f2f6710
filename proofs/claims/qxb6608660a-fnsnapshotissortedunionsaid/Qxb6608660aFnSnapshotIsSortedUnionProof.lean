/-
  THE PROOF OF 'Rows.FnSnapshotIsSortedUnionSaid'. The frame ('lifted', 'over') is the guide's shell, turned to a slice of structs that hold slices.
-/
import Derived.Test.Qxb6608660aRows
import Derived.Test.Qxb6608660aLaw
import Derived.SliceStrings
import Derived.Deep.SlicePairs
import Derived.Deep.Grids
import Derived.WalkKit
import Derived.ProofKit
import Derived.OpenShut
import Derived.ShutString
import Derived.ChangeOld
import Derived.Below
namespace Go.Proofs.Qxb6608660a.fnSnapshotIsSortedUnion
open Go.ChangeShapes Go.WideShapes Go.ChangeAt Go.RowKit
open Go.ChangeMaps (open_string shut_string)
set_option linter.unusedVariables false

theorem own : ownKnob Try.prog.godebug = none := by kernel_rfl
theorem laidOut : laidOutB Try.prog = true := by kernel_rfl

section
variable {H : Type} {enc : TypeId × Value → H} {w : World}

/-- A tuple as it lies. -/
def TupRaw (w : World) (t : Tup) : Prop := Row w t.a t.l ∧ t.l.length ≤ maxLen ∧ ∀ s ∈ t.l, s.size ≤ maxLen
theorem open_tuple {n : Nat} {v : Value} {x : DataW H × List MemPlace} (h : DataW.trod enc Try.prog w 0 (fun _ => true) true n 62 [v] = some x) : ∃ t : Tup, v = t.val ∧ TupRaw w t := by
  rcases open_strings Try.underlying62 Try.underlying9 (by kernel_rfl) h with ⟨hcs, _⟩ | ⟨a, len, cap, ss, hcs, _, hl, hm, hz, _, hcell, hws⟩
  · simp only [List.cons.injEq, and_true] at hcs
    subst hcs
    exact ⟨⟨none, [], 0⟩, rfl, ⟨fun _ => rfl, fun i hi => absurd hi (by simp)⟩, Nat.zero_le _, fun s hs => by cases hs⟩
  · simp only [List.cons.injEq, and_true] at hcs
    subst hcs
    have hz' : ss.length = cap := by simpa using hz
    have e : (ss.take len).length = len := by simp; omega
    refine ⟨⟨some a, ss.take len, cap⟩, by show Value.slice (some a) len cap = .slice (some a) (ss.take len).length cap; rw [e], ⟨fun h => (by cases h), fun i hi => ?_⟩, by show (ss.take len).length ≤ maxLen; omega, fun s hs => hws s (List.mem_of_mem_take hs)⟩
    have hi' : i < len := by rw [← e]; exact hi
    have h0 := hcell 0 (by omega)
    obtain ⟨b, off, spot⟩ := a
    have hspot : spot = none := by simpa [Addr.add] using World.cell?_spot h0
    subst hspot
    refine ⟨b, off, rfl, ?_⟩
    have hi2 := hcell i (by omega)
    rw [Go.WideShapes.add_plain] at hi2
    rw [hi2]
    simp [List.getD_eq_getElem?_getD, hi']

theorem open_state {n : Nat} {v : Value} {x : DataW H × List MemPlace} (h : DataW.trod enc Try.prog w 0 (fun _ => true) true n 59 [v] = some x) : ∃ (a : Option Addr) (k c : Nat) (T : Nat → Tup), v = .slice a k c ∧ TRaw w a k T := by
  rcases Go.Deep.open_slice1 Try.underlying59 (by kernel_rfl) h with ⟨hcs, _⟩ | ⟨a, len, cap, m, n', V, D, Pl, hcs, _, hl, hm, hmm, _, hx⟩
  · simp only [List.cons.injEq, and_true] at hcs
    subst hcs
    exact ⟨none, 0, 0, fun _ => ⟨none, [], 0⟩, rfl, fun _ => rfl, Nat.zero_le _, fun i hi => absurd hi (Nat.not_lt_zero _)⟩
  · simp only [List.cons.injEq, and_true] at hcs
    subst hcs
    have hm' : m = cap := by simpa using hmm
    have each : ∀ i, i < len → ∃ t : Tup, V i = t.val ∧ TupRaw w t := fun i hi => open_tuple (hx i (by omega)).2
    haveI : Inhabited Tup := ⟨⟨none, [], 0⟩⟩
    obtain ⟨T, hT⟩ := Go.Deep.choose_lt each
    refine ⟨some a, len, cap, T, rfl, fun h => (by cases h), by omega, fun i hi => ⟨?_, (hT i hi).2.1, (hT i hi).2.2.1, (hT i hi).2.2.2⟩⟩
    have h0 := (hx 0 (by omega)).1
    obtain ⟨b, off, spot⟩ := a
    have hspot : spot = none := by simpa [Addr.add] using World.cell?_spot h0
    subst hspot
    refine ⟨b, off, rfl, ?_⟩
    have hi2 := (hx i (by omega)).1
    rw [Go.WideShapes.add_plain, (hT i hi).1] at hi2
    exact hi2

theorem open_members {fuel : Nat} {a : Option Addr} {len cap : Nat} {x : DataW H × List MemPlace} (h : DataW.trod enc Try.prog w 0 (fun _ => true) true fuel 53 [.slice a len cap] = some x) : ∃ M : Nat → Mem, MRaw w a len M := by
  rcases Go.Deep.open_slice_pairs Try.underlying53 Try.underlying61 (by kernel_rfl) (by kernel_rfl) (by kernel_rfl) (by kernel_rfl) (by kernel_rfl) h with ⟨hcs, _⟩ | ⟨a', len', cap', m, n', V0, V1, D0, D1, P0, P1, hcs, _, hl, hm, hmm, _, hx⟩
  · simp only [List.cons.injEq, and_true, Value.slice.injEq] at hcs
    obtain ⟨rfl, rfl, rfl⟩ := hcs
    exact ⟨fun _ => ⟨ByteArray.empty, none, 0, 0, fun _ => ⟨none, [], 0⟩⟩, fun _ => rfl, Nat.zero_le _, fun i hi => absurd hi (Nat.not_lt_zero _)⟩
  · simp only [List.cons.injEq, and_true, Value.slice.injEq] at hcs
    obtain ⟨rfl, rfl, rfl⟩ := hcs
    have hm' : m = cap := by simpa using hmm
    have each : ∀ i, i < len → ∃ q : Mem, V0 i = .string q.nm ∧ q.nm.size ≤ maxLen ∧ V1 i = .slice q.a q.n q.c ∧ TRaw w q.a q.n q.T := fun i hi => by
      obtain ⟨_, _, g0, g1⟩ := hx i (by omega)
      obtain ⟨s, hs, _, hsz⟩ := DataW.trod_string Try.underlying9 g0
      obtain ⟨a1, k1, c1, T1, e1, h1⟩ := open_state g1
      simp only [List.cons.injEq, and_true] at hs
      exact ⟨⟨s, a1, k1, c1, T1⟩, hs, hsz, e1, h1⟩
    haveI : Inhabited Mem := ⟨⟨ByteArray.empty, none, 0, 0, fun _ => ⟨none, [], 0⟩⟩⟩
    obtain ⟨M, hM⟩ := Go.Deep.choose_lt each
    refine ⟨M, fun h => (by cases h), by omega, fun i hi => ⟨?_, (hM i hi).2.1, (hM i hi).2.2.2⟩⟩
    have h0 := (hx 0 (by omega)).1
    obtain ⟨b, off, spot⟩ := a'
    have hspot : spot = none := by simpa [Addr.add] using World.cell?_spot h0
    subst hspot
    obtain ⟨i0, i1, _, _⟩ := hx i (by omega)
    rw [Go.WideShapes.add_plain, (hM i hi).1] at i0
    rw [Go.WideShapes.add_plain, (hM i hi).2.2.1, ← Nat.add_assoc] at i1
    exact ⟨b, off, rfl, i0, i1⟩
end

/-! ### THE ROW's STEP: WRITTEN OUT: LEAVE IT -/
set_option maxRecDepth 100000 in
theorem lifted (os : Os) (started : os.Started) (H : Type) (enc : TypeId × Value → H) :
    ReturnsInHanded {} Try.checked os 4 .any (Rows.fnSnapshotIsSortedUnionSpec.pre6 enc Try.prog Try.f4 Rows.fnSnapshotIsSortedUnionRow.domain false) (Rows.fnSnapshotIsSortedUnionSpec.post enc Try.prog Try.f4 false true false false) := by
  refine returnsInHanded_of_change (C := Try.checked) own started (by kernel_rfl) Try.func4
    (ChangeSpec.witness6 (enc := enc) (C := Try.checked) false ⟨#[], #[.int .i64 0, .slice none 0 0], []⟩ 8 (by kernel_rfl) (by kernel_rfl) (by kernel_rfl) (by kernel_rfl)) ?_
  intro W base args ds gs before hval0 hW hcnd _
  have hval : ∀ (j : Nat) t v, Try.f4.params[j]? = some t → args[j]? = some v → Value.okWide Try.prog W .any base t v := hval0
  have hW' := hW
  obtain ⟨p, q, hA0, hV, rfl, hfz, hnd⟩ := hW
  have hA : DataW.TrodAll enc Try.prog W 0 (fun _ => true) true Try.f4.params.toList args.toList ds p := hA0
  rw [Try.params4] at hA hval
  obtain ⟨v0, vs0, d0, ds0, p0, q0, hargs, rfl, rfl, h0, r0⟩ := trodAll_cons hA
  obtain ⟨v1, vs1, d1, ds1, p1, q1, rfl, rfl, rfl, h1, r1⟩ := trodAll_cons r0
  obtain ⟨rfl, rfl, rfl⟩ := trodAll_nil r1
  obtain rfl : args = #[v0, v1] := by cases args; simp_all
  obtain ⟨rfl, rfl⟩ := trodVars_none hV
  obtain ⟨a0, rfl, rfl, rfl, w0⟩ := open_int Try.underlying2 (hval 0 2 v0 rfl rfl) h0
  obtain ⟨a1, len1, cap1, rfl⟩ := okWide_slice Try.underlying53 (hval 1 53 v1 rfl rfl)
  have k1 := h1
  have lt1 : ∀ x ∈ p1, x.block < W.heap.size := by obtain ⟨m, hm⟩ := k1; exact DataW.trod_lt m _ _ _ hm
  obtain ⟨M, hM⟩ : ∃ M : Nat → Mem, MRaw W a1 len1 M := by
    obtain ⟨fuel, hf⟩ := h1
    exact open_members hf
  clear hA0 hval0
  refine (lawCalls a0 a1 len1 cap1 M W hM).mono fun e W' ⟨he, bel⟩ => ?_
  subst he
  exact ⟨_, rfl, _, _, _, [], _, [], hW', trodAll_mk1 (shut_bool Try.underlying4 _), (trodAll_cons_mk (shut_int Try.underlying2 w0) (trodAll_cons_mk (Below.trod laidOut (by kernel_rfl) (of_decide_eq_true (by kernel_rfl)) k1 bel lt1) trodAll_mk0)), rfl, bel.frame _, fun h => by cases h⟩

theorem over : Rows.fnSnapshotIsSortedUnionRow.holds Try.pinned (OpenSpec.ofChange Rows.fnSnapshotIsSortedUnionSpec) :=
  OpenClaim.holds_of_wide 4 Try.f4 rfl rfl rfl rfl rfl rfl rfl ⟨rfl, rfl, rfl, rfl, rfl⟩ rfl rfl rfl rfl rfl (by kernel_rfl) Try.func4 (by kernel_rfl)
    (of_decide_eq_true (by kernel_rfl)) (by unfold Func.isWrapper; first | (rw [if_pos (by decide +kernel)]; kernel_rfl) | (rw [if_neg (by decide +kernel)]; exact ⟨rfl, rfl⟩))
    (fun os started H enc _ => lifted os started H enc)

/-- ████ THE STATEMENT ████ -/
theorem proved : Rows.FnSnapshotIsSortedUnionSaid := over
end Go.Proofs.Qxb6608660a.fnSnapshotIsSortedUnion
