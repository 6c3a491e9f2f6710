/-
  THE TRANSACTION's BLOCK, and what the two appends do to it.
-/
import Derived.Test.Qxb6615484aBase
import Derived.Test.Qxb6615484aOrders
import Derived.Deep.AppendLies
import Derived.Deep.RegionLaw
namespace Go.Proofs.Qxb6615484a
open Go.RowKit
set_option linter.unusedVariables false
theorem info68 : (Try.prog.info? 68).map (fun i => (i.zero, i.size, i.bytes)) = some (some (.agg #[.string { data := #[] }, .bool false, .bool false]), 3, 24) := by kernel_rfl
theorem info70 : (Try.prog.info? 70).map (fun i => (i.zero, i.size, i.bytes)) = some (some (.agg #[.string { data := #[] }, .string { data := #[] }, .string { data := #[] }]), 3, 48) := by kernel_rfl

/-- The transaction's block B, its branches v (k of them), its subordinates u (m of them). -/
structure Tx (w wr : World) (B : Nat) (v : Value) (k : Nat) (u : Value) (m : Nat) : Prop where
  c3 : wr.cell? ⟨B, 3, none⟩ = some v
  c4 : wr.cell? ⟨B, 4, none⟩ = some u
  f3 : wr.frozen? ⟨B, 3, none⟩ = false
  f4 : wr.frozen? ⟨B, 4, none⟩ = false
  own3 : ∃ xs, wr.ownsRow (B + 1) 68 3 v k xs
  own4 : ∃ xs, wr.ownsRow (B + 1) 70 3 u m xs
  apart : v.ownBlock = none ∨ u.ownBlock = none ∨ v.ownBlock ≠ u.ownBlock
  below : Below w.heap.size w wr
  old : w.heap.size ≤ B
  size : B + 1 ≤ wr.heap.size


/-- One branch more. -/
theorem Tx.step3 {w wr w1 : World} {B k g cap : Nat} {v : Value} {ys : List Value} {o : Obj} (h : Tx w wr B v k (.slice none 0 0) 0)
    (hown1 : w1.ownsRow (B + 1) 68 3 (.slice (some ⟨g, 0, none⟩) (k + 1) cap) (k + 1) ys) (hgrow : (wr.alloc o).drew.grownBy w1 v.ownBlock) :
    Tx w (w1.setCell ⟨B, 3, none⟩ (.slice (some ⟨g, 0, none⟩) (k + 1) cap)) B (.slice (some ⟨g, 0, none⟩) (k + 1) cap) (k + 1) (.slice none 0 0) 0 := by
  obtain ⟨xs, hown⟩ := h.own3
  have hsz := h.size
  have hb3 : (some B) ≠ v.ownBlock := by
    intro e
    have := hown.lt _ e.symm
    omega
  have hlt : B < (wr.alloc o).drew.heap.size := by show B < (wr.alloc o).heap.size; rw [World.size_alloc]; omega
  have k3 : w1.cell? ⟨B, 3, none⟩ = some v := (hgrow.cell_far ⟨B, 3, none⟩ hlt hb3).trans ((World.cell?_alloc_lt wr o ⟨B, 3, none⟩ (by show B < _; omega)).trans h.c3)
  have k4 : w1.cell? ⟨B, 4, none⟩ = some (.slice none 0 0) := (hgrow.cell_far ⟨B, 4, none⟩ hlt hb3).trans ((World.cell?_alloc_lt wr o ⟨B, 4, none⟩ (by show B < _; omega)).trans h.c4)
  refine ⟨World.cell?_setCell_same _ _ _ k3, (World.cell?_setCell_other _ _ _ _ (by simp)).trans k4, ?_, ?_, ⟨ys, ownsRow_setCell_below hown1 (Nat.lt_succ_self B) _⟩, ⟨[], World.ownsRow_nil _ _ _ _⟩, Or.inr (Or.inl rfl), ?_, h.old, ?_⟩
  · rw [World.frozen?_setCell]
    exact (hgrow.frozen_far ⟨B, 3, none⟩ hlt hb3).trans ((World.frozen?_alloc_old wr o ⟨B, 3, none⟩ (by show B ≠ _; omega)).trans h.f3)
  · rw [World.frozen?_setCell]
    exact (hgrow.frozen_far ⟨B, 4, none⟩ hlt hb3).trans ((World.frozen?_alloc_old wr o ⟨B, 4, none⟩ (by show B ≠ _; omega)).trans h.f4)
  · have hold := h.old
    refine Below.setCell ?_ (by show w.heap.size ≤ B; exact hold) _
    refine Below.grown ((h.below.alloc (by omega) o).drew) hgrow (by show w.heap.size ≤ (wr.alloc o).heap.size; rw [World.size_alloc]; omega) ?_
    intro j hj
    have := hown.lt _ hj
    omega
  · rw [World.size_setCell]
    have := hgrow.size
    omega

/-- tx.branches = append(tx.branches, branch{..}): the append, at a step of the region. -/
theorem step_branch {ops : Array Oper} {o : Oper} {a : Act} {W : World} {K : Act → World → Prop} {Q : Exit → Act → World → Prop} {E : Prop} (hgd : o.guard = none)
    (ho : o.op = .call { callee := .builtin .append, args := #[.tmp 60, .tmp 74], argTypes := #[39, 39] }) (B k N : Nat) (v : Value) (xs : List Value) (x0 : ByteArray) (x1 x2 : Bool)
    (hs : a.eval (.tmp 60) = v) (hx : a.eval (.tmp 74) = .slice (some ⟨N, 0, none⟩) 1 1) (hN : W.heap[N]? = some (.cells #[.string x0, .bool x1, .bool x2] 68))
    (hown : W.ownsRow (B + 1) 68 3 v k xs) (c3 : W.cell? ⟨B, 3, none⟩ = some v) (f3 : W.frozen? ⟨B, 3, none⟩ = false) (hk : k ≤ 4096) (hB : B + 1 ≤ W.heap.size)
    (h : ∀ g cap w', w'.ownsRow (B + 1) 68 3 (.slice (some ⟨g, 0, none⟩) (k + 1) cap) (k + 1) (xs ++ [.string x0, .bool x1, .bool x2]) → W.grownBy w' v.ownBlock → w'.cell? ⟨B, 3, none⟩ = some v → w'.frozen? ⟨B, 3, none⟩ = false → (∀ p x, p.block ≤ B → W.cell? p = some x → w'.cell? p = some x) → K (a.put o.dst (.slice (some ⟨g, 0, none⟩) (k + 1) cap)) w') :
    if Region.wanted o (yielded ops a.tmps) = true then Oper.wp Try.prog o a W K Q else E := by
  obtain ⟨i68, hi, hz, hsz, hb⟩ := info_parts info68
  have hb3 : (some B) ≠ v.ownBlock := by
    intro e
    have := hown.lt _ e.symm
    omega
  refine step_append_lies W hgd (.tmp 60) (.tmp 74) 39 ho (B + 1) 68 i68 _ 3 24 Try.underlying39 hi hz hsz hb rfl (by decide) v k xs hs hown ⟨N, 0, none⟩ 1 1 [.string x0, .bool x1, .bool x2] hx rfl (World.news_of_block hN) ?_ (by decide) (by unfold maxLen; omega) (by omega) hB _ rfl ?_
  · intro u hu
    simp at hu
    rcases hu with rfl | rfl | rfl <;> rfl
  intro g cap w1 hown1 hgrow hat hlt
  exact h g cap w1 hown1 hgrow ((hgrow.cell_far ⟨B, 3, none⟩ (by show B < _; omega) hb3).trans c3) ((hgrow.frozen_far ⟨B, 3, none⟩ (by show B < _; omega) hb3).trans f3) (fun p x hp hx => hgrow.cell hx (by intro e; have := hown.lt _ e.symm; omega))


theorem Tx.alloc {w wr : World} {B k m : Nat} {v u : Value} (h : Tx w wr B v k u m) (o : Obj) : Tx w (wr.alloc o) B v k u m := by
  have hsz := h.size
  have hold := h.old
  obtain ⟨xs, hx⟩ := h.own3
  obtain ⟨ys, hy⟩ := h.own4
  exact ⟨(World.cell?_alloc_lt wr o ⟨B, 3, none⟩ (by show B < _; omega)).trans h.c3, (World.cell?_alloc_lt wr o ⟨B, 4, none⟩ (by show B < _; omega)).trans h.c4, (World.frozen?_alloc_old wr o ⟨B, 3, none⟩ (by show B ≠ _; omega)).trans h.f3, (World.frozen?_alloc_old wr o ⟨B, 4, none⟩ (by show B ≠ _; omega)).trans h.f4,
    ⟨xs, hx.alloc o⟩, ⟨ys, hy.alloc o⟩, h.apart, h.below.alloc (by omega) o, hold, by rw [World.size_alloc]; omega⟩

theorem Tx.drew {w wr : World} {B k m : Nat} {v u : Value} (h : Tx w wr B v k u m) : Tx w wr.drew B v k u m := by
  obtain ⟨xs, hx⟩ := h.own3
  obtain ⟨ys, hy⟩ := h.own4
  exact ⟨h.c3, h.c4, h.f3, h.f4, ⟨xs, hx⟩, ⟨ys, hy⟩, h.apart, h.below.drew, h.old, h.size⟩

/-- One subordinate more. -/
theorem Tx.step4 {w W w1 : World} {B k m g cap : Nat} {v u : Value} {ys : List Value} (h : Tx w W B v k u m)
    (hown1 : w1.ownsRow (B + 1) 70 3 (.slice (some ⟨g, 0, none⟩) (m + 1) cap) (m + 1) ys) (hgrow : W.grownBy w1 u.ownBlock) (hat : u.ownBlock = some g ∨ g = W.heap.size) :
    Tx w (w1.setCell ⟨B, 4, none⟩ (.slice (some ⟨g, 0, none⟩) (m + 1) cap)) B v k (.slice (some ⟨g, 0, none⟩) (m + 1) cap) (m + 1) := by
  obtain ⟨xs, hx⟩ := h.own3
  obtain ⟨zs, hown⟩ := h.own4
  have hsz := h.size
  have hb : (some B) ≠ u.ownBlock := by
    intro e
    have := hown.lt _ e.symm
    omega
  have hlt : B < W.heap.size := by omega
  have k3 : w1.cell? ⟨B, 3, none⟩ = some v := (hgrow.cell_far ⟨B, 3, none⟩ hlt hb).trans h.c3
  have k4 : w1.cell? ⟨B, 4, none⟩ = some u := (hgrow.cell_far ⟨B, 4, none⟩ hlt hb).trans h.c4
  refine ⟨(World.cell?_setCell_other _ _ _ _ (by simp)).trans k3, World.cell?_setCell_same _ _ _ k4, ?_, ?_, ⟨xs, ownsRow_setCell_below (hx.kept hgrow ?_) (Nat.lt_succ_self B) _⟩, ⟨ys, ownsRow_setCell_below hown1 (Nat.lt_succ_self B) _⟩, ?_, ?_, h.old, ?_⟩
  · rw [World.frozen?_setCell]
    exact (hgrow.frozen_far ⟨B, 3, none⟩ hlt hb).trans h.f3
  · rw [World.frozen?_setCell]
    exact (hgrow.frozen_far ⟨B, 4, none⟩ hlt hb).trans h.f4
  · rcases h.apart with e | e | e
    · exact Or.inl e
    · by_cases hv : v.ownBlock = none
      · exact Or.inl hv
      · exact Or.inr (by rw [e]; exact hv)
    · exact Or.inr e
  · by_cases hv : v.ownBlock = none
    · exact Or.inl hv
    · refine Or.inr (Or.inr ?_)
      intro e
      have e' : v.ownBlock = some g := e
      rcases hat with hg | hg
      · rcases h.apart with a | a | a
        · exact hv a
        · rw [hg] at a; cases a
        · exact a (e'.trans hg.symm)
      · have := hx.lt _ e'
        omega
  · have hold := h.old
    refine Below.setCell ?_ (by show w.heap.size ≤ B; exact hold) _
    refine Below.grown h.below hgrow (by omega) ?_
    intro j hj
    have := hown.lt _ hj
    omega
  · rw [World.size_setCell]
    have := hgrow.size
    omega

/-- tx.subordinates = append(tx.subordinates, sub): the append, at a step of the region. -/
theorem step_sub {ops : Array Oper} {o : Oper} {a : Act} {W : World} {K : Act → World → Prop} {Q : Exit → Act → World → Prop} {E : Prop} (hgd : o.guard = none)
    (ho : o.op = .call { callee := .builtin .append, args := #[.tmp 101, .tmp 103], argTypes := #[40, 40] }) (w : World) (B k m N : Nat) (v u : Value) (x0 x1 x2 : ByteArray)
    (hs : a.eval (.tmp 101) = u) (hx : a.eval (.tmp 103) = .slice (some ⟨N, 0, none⟩) 1 1) (hN : W.heap[N]? = some (.cells #[.string x0, .string x1, .string x2] 70))
    (htx : Tx w W B v k u m) (hm : m ≤ 4096)
    (h : ∀ g cap w', w'.cell? ⟨B, 4, none⟩ = some u → w'.frozen? ⟨B, 4, none⟩ = false → (∀ p x, p.block < W.heap.size → u.ownBlock ≠ some p.block → W.cell? p = some x → w'.cell? p = some x) →
      Tx w (w'.setCell ⟨B, 4, none⟩ (.slice (some ⟨g, 0, none⟩) (m + 1) cap)) B v k (.slice (some ⟨g, 0, none⟩) (m + 1) cap) (m + 1) → K (a.put o.dst (.slice (some ⟨g, 0, none⟩) (m + 1) cap)) w') :
    if Region.wanted o (yielded ops a.tmps) = true then Oper.wp Try.prog o a W K Q else E := by
  obtain ⟨i70, hi, hz, hsz, hb⟩ := info_parts info70
  obtain ⟨zs, hown⟩ := htx.own4
  have hB := htx.size
  have hb4 : (some B) ≠ u.ownBlock := by
    intro e
    have := hown.lt _ e.symm
    omega
  refine step_append_lies W hgd (.tmp 101) (.tmp 103) 40 ho (B + 1) 70 i70 _ 3 48 Try.underlying40 hi hz hsz hb rfl (by decide) u m zs hs hown ⟨N, 0, none⟩ 1 1 [.string x0, .string x1, .string x2] hx rfl (World.news_of_block hN) ?_ (by decide) (by unfold maxLen; omega) (by omega) hB _ rfl ?_
  · intro q hq
    simp at hq
    rcases hq with rfl | rfl | rfl <;> rfl
  intro g cap w1 hown1 hgrow hat hlt
  exact h g cap w1 ((hgrow.cell_far ⟨B, 4, none⟩ (by show B < _; omega) hb4).trans htx.c4) ((hgrow.frozen_far ⟨B, 4, none⟩ (by show B < _; omega) hb4).trans htx.f4) (fun p x _ hp hx => hgrow.cell hx (Ne.symm hp)) (htx.step4 hown1 hgrow hat)

end Go.Proofs.Qxb6615484a
