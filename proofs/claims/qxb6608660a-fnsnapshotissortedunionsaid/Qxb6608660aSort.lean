/-
  CONTRACT of slices.SortFunc at the tuples, out of the shelf's.
-/
import Derived.Test.Qxb6608660aIter
import Derived.Test.Qxb6608660aTuples
namespace Go.Proofs.Qxb6608660a
open Go.RowKit Go.Shelf Go.Sort
set_option linter.unusedVariables false

/-- In i's place: the nil tuple where i is too great. -/
def upTo (N : Nat) (T : Nat → Tup) (i : Nat) : Tup := if i < N then T i else ⟨none, [], 0⟩
theorem upTo_lt {N : Nat} {T : Nat → Tup} {i : Nat} (h : i < N) : upTo N T i = T i := by unfold upTo; rw [if_pos h]
theorem nil_ok (w : World) : (⟨none, [], 0⟩ : Tup).ok w := ⟨⟨fun _ => rfl, fun i hi => absurd hi (by simp)⟩, by simp⟩

theorem swoT (T : Nat → Tup) : SWO (ltOf fun x y => cmpT (T x).l (T y).l) where
  irrefl x := by simp [ltOf, cmpT_self]
  trans x y z h1 h2 := by
    simp only [ltOf, decide_eq_true_eq] at *
    have a := cmpT_vals (T x).l (T y).l
    have b := cmpT_vals (T y).l (T z).l
    rw [cmpT_trans _ _ _ (show cmpT (T x).l (T y).l = -1 by omega) (show cmpT (T y).l (T z).l = -1 by omega)]
    decide
  ntrans x y z h1 h2 := by
    simp only [ltOf, decide_eq_false_iff_not] at *
    intro h3
    have a := cmpT_vals (T x).l (T y).l
    have c := cmpT_vals (T x).l (T z).l
    have s := cmpT_swap (T x).l (T y).l
    by_cases e : cmpT (T x).l (T y).l = 0
    · rw [(cmpT_zero _ _).1 e] at h3
      exact h2 h3
    · have := cmpT_trans (T y).l (T x).l (T z).l (by omega) (by omega)
      omega

theorem row_far {w : World} {enc : Nat → Value} {B m : Nat} {dk : Array Nat} {os : Array Obj} {a : Option Addr} {l : List ByteArray} (h : Row w a l) (hfar : ∀ x, a = some x → l ≠ [] → x.block ≠ B) : Row (sortWorld enc w B 0 m dk os) a l := by
  refine ⟨h.1, fun i hi => ?_⟩
  obtain ⟨b, off, e, hc⟩ := h.2 i hi
  refine ⟨b, off, e, ?_⟩
  have hne : b ≠ B := hfar _ e (fun h0 => by rw [h0] at hi; simp at hi)
  have hlt : b < w.heap.size := World.block_lt_of_cell? w _ hc
  unfold sortWorld
  rw [cell?_grow _ _ _ (by show b < (putRow enc (Go.Sort.ahead w m) B 0 dk).heap.size; rw [Go.Sort.size_putRow]; exact hlt), cell?_putRow_other _ _ _ _ _ _ (Or.inl hne)]
  exact hc

theorem sortWorld_grown {w : World} {enc : Nat → Value} {B m : Nat} {dk : Array Nat} {os : Array Obj} : w.grownBy (sortWorld enc w B 0 m dk os) (some B) := by
  refine ⟨rfl, rfl, rfl, ?_, ?_⟩
  · unfold sortWorld
    rw [size_grow, Go.Sort.size_putRow]
    show w.heap.size ≤ w.heap.size + os.size
    omega
  · intro k hk hne
    unfold sortWorld grow putRow mapBlock
    have hkB : k ≠ B := fun e => hne (by rw [e])
    rw [Array.getElem?_append_left (by simpa using hk), Array.getElem?_modify, if_neg (by omega)]
    rfl

theorem sortFunc_tuples (B N cap : Nat) (T : Nat → Tup) (w : World) (hB : B < w.heap.size) (hH : ∀ j, j < N → w.cell? ⟨B, j, none⟩ = some (T j).val ∧ w.frozen? ⟨B, j, none⟩ = false) (hT : ∀ i, i < N → (T i).ok w)
    (hfar : ∀ i, i < N → ∀ x, (T i).a = some x → (T i).l ≠ [] → x.block ≠ B) (hN : N < 4611686018427387904) :
    Calls Try.prog 42 #[.slice (some ⟨B, 0, none⟩) N cap, .func (.func 43) #[] #[]] w fun e w' => e = .returned (.tuple #[]) ∧ ∃ p : Nat → Nat, (∀ j, j < N → p j < N) ∧ (∀ i, i < N → ∃ j, j < N ∧ p j = i) ∧
      (∀ i j, i < j → j < N → ¬ cmpT (T (p j)).l (T (p i)).l < 0) ∧ (∀ j, j < N → w'.cell? ⟨B, j, none⟩ = some (T (p j)).val ∧ w'.frozen? ⟨B, j, none⟩ = false) ∧ w.grownBy w' (some B) := by
  have hU : ∀ i, (upTo N T i).ok w ∧ ∀ x, (upTo N T i).a = some x → (upTo N T i).l ≠ [] → x.block ≠ B := by
    intro i
    unfold upTo
    by_cases hi : i < N
    · rw [if_pos hi]; exact ⟨hT i hi, hfar i hi⟩
    · rw [if_neg hi]; exact ⟨nil_ok w, fun x h => by cases h⟩
  have hcmp : CmpReads Try.prog 43 #[] (fun i => (upTo N T i).val) (fun x y => cmpT (upTo N T x).l (upTo N T y).l) B 0 (Array.range N).size w := by
    intro m os dk hs x y
    obtain ⟨⟨hx, hxl⟩, fx⟩ := hU x
    obtain ⟨⟨hy, hyl⟩, fy⟩ := hU y
    refine (slCompare (upTo N T x).a (upTo N T y).a (upTo N T x).l (upTo N T y).l (upTo N T x).c (upTo N T y).c _ (row_far hx fx) (row_far hy fy) (by unfold maxLen; omega) (by unfold maxLen; omega)).mono ?_
    rintro e w' ⟨rfl, rfl⟩
    exact ⟨rfl, 0, rfl⟩
  have hHold : Go.Sort.Holds (fun i => (upTo N T i).val) w B 0 (Array.range N) := by
    intro j hj
    rw [Array.size_range] at hj
    have e : (Array.range N)[j]! = j := by rw [getElem!_pos _ j (by simpa using hj)]; simp
    rw [e, Nat.zero_add]
    have := hH j hj
    show w.cell? ⟨B, j, none⟩ = some (upTo N T j).val ∧ _
    rw [upTo_lt hj]
    exact this
  have eg : ∀ args w, (callFunc 43 args).run Try.prog w = .ok (.enter 43 args) w := enters_of Try.func43 (by kernel_rfl) rfl
  have hcon := Any.slices_SortFunc Try.sf42 (fun i => (upTo N T i).val) (fun _ => rfl) (fun x y => cmpT (upTo N T x).l (upTo N T y).l) (swoT (upTo N T)) 43 #[] B 0 cap (Array.range N) w eg hcmp.lays hHold hB (by simpa using hN)
  rw [Array.size_range] at hcon
  change Calls Try.prog 42 _ _ _ at hcon
  refine hcon.mono ?_
  rintro e w' ⟨rfl, d', n, os, hperm, hsort, rfl⟩
  obtain ⟨hds, _, hpm⟩ := hperm
  rw [Array.size_range] at hds
  have hsz : d'.size = N := hds
  have hpm' : d'.toList.Perm (List.range N) := by
    have e1 : d'.extract 0 N = d' := by rw [← hsz]; exact Array.extract_size
    have e2 : (Array.range N).extract 0 N = Array.range N := by
      have := Array.extract_size (xs := Array.range N)
      rwa [Array.size_range] at this
    rw [e1, e2] at hpm
    simpa using hpm
  have hget : ∀ j, j < N → d'[j]! ∈ d'.toList := fun j hj => by
    rw [getElem!_pos d' j (by omega)]
    simp
  have hlt : ∀ j, j < N → d'[j]! < N := fun j hj => by
    have := hpm'.mem_iff.1 (hget j hj)
    simpa using this
  refine ⟨rfl, fun j => d'[j]!, hlt, ?_, ?_, ?_, sortWorld_grown⟩
  · intro i hi
    have : i ∈ d'.toList := hpm'.mem_iff.2 (by simpa using hi)
    obtain ⟨j, hj, e⟩ := List.getElem_of_mem this
    have hj' : j < d'.size := by simpa using hj
    refine ⟨j, by omega, ?_⟩
    show d'[j]! = i
    rw [getElem!_pos d' j hj']
    simpa using e
  · intro i j hij hj
    have := hsort i j (Nat.zero_le _) hij hj
    simp only [ltOf, decide_eq_false_iff_not] at this
    have hj' := hlt j hj
    have hi' := hlt i (by omega)
    rw [upTo_lt hj', upTo_lt hi'] at this
    exact this
  · intro j hj
    constructor
    · have h0 := cell?_putRow (fun i => (upTo N T i).val) (Go.Sort.ahead w n) B 0 (Array.range N) d' (fun j hj => hHold j hj) (by rw [Array.size_range]; exact hsz) j (by omega)
      rw [Nat.zero_add] at h0
      unfold sortWorld
      rw [cell?_grow _ _ _ (by show B < (putRow _ (Go.Sort.ahead w n) B 0 d').heap.size; rw [Go.Sort.size_putRow]; exact hB), h0]
      show some (upTo N T d'[j]!).val = _
      rw [upTo_lt (hlt j hj)]
    · have h1 : (sortWorld (fun i => (upTo N T i).val) w B 0 n d' os).frozen? ⟨B, j, none⟩ = (putRow (fun i => (upTo N T i).val) (Go.Sort.ahead w n) B 0 d').frozen? ⟨B, j, none⟩ :=
        World.frozen?_of_block (heap_grow_old _ os (by rw [Go.Sort.size_putRow]; exact hB))
      rw [h1, frozen?_putRow]
      exact (hH j hj).2
end Go.Proofs.Qxb6608660a
