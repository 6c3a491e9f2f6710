import Derived.Test.Qxb6608660aSnap
namespace Go.Proofs.Qxb6608660a
open Go.RowKit Go.Maps
set_option linter.unusedVariables false

set_option maxHeartbeats 800000 in
theorem zzSnapshot (t : Int) (b n : Nat) (D : DataW Value) (F : List UInt8 → St) (w : World) (hown : w.ownsMap Try.prog 9 sElem b n D) (hsz : Maps.size D ≤ 1048576)
    (hF : ∀ s ∈ strKeys D, (∀ z, D.atKey (.string s) z = .held (F s).val) ∧ (F s).ok w) :
    Calls Try.prog 20 #[.int .i64 t, .map (some b)] w fun e w' => ∃ v, e = .returned v ∧ SnapOk w.heap.size t F (strKeys D) w' v ∧ Below w.heap.size w w' := by
  have hbl := hown.lt
  have hba : Below w.heap.size w (w.alloc (Obj.cells #[Value.int IntKind.i64 0, Value.slice none 0 0, Value.slice none 0 0] 64)) := (Below.refl _ _).alloc (Nat.le_refl _) _
  have hsn := snapshot t b n D F (w.alloc (Obj.cells #[Value.int IntKind.i64 0, Value.slice none 0 0, Value.slice none 0 0] 64)) (hown.alloc _) hsz (fun s hs => ⟨(hF s hs).1, (hF s hs).2.1.bel hba, (hF s hs).2.2⟩)
  rw [size_al] at hsn
  have HS := hide hsn
  have HBA := hide hba
  have HF := hide hF
  clear hsn hown hF hba
  go_enter Try.func20, Try.ntmps20
  go_wp2_with fail
  go_at_call 33
  refine Calls.mono HS ?_
  rintro e w1 ⟨v, rfl, ⟨a, c, l, g, K, cap, T2, rfl, h1, h2, h3, h4, h5, h6, h7, h8, h9, h10⟩, hb⟩
  have hr0 : w1.heap[w.heap.size]? = some (.cells #[Value.int IntKind.i64 0, Value.slice none 0 0, Value.slice none 0 0] 64 (0, 0)) :=
    (hb.block _ (Nat.lt_succ_self _)).trans (heap_alloc_new w _)
  have hrr : w1.rowIs w.heap.size 64 3 (snapF (.int .i64 0) (.slice none 0 0) (.slice none 0 0)) := ⟨_, hr0, rfl, fun i hi => by
    match i, hi with
    | 0, _ => rfl
    | 1, _ => rfl
    | 2, _ => rfl⟩
  have y0 := hrr.cell (i := 0) (by omega)
  have y1 := hrr.cell (i := 1) (by omega)
  have y2 := hrr.cell (i := 2) (by omega)
  have z0 := hrr.frozen 0
  have z1 := hrr.frozen 1
  have z2 := hrr.frozen 2
  simp only [snapF] at y0 y1 y2
  generalize hN : l.length = N at *
  have H1 := hide h1
  have H2 := hide h2
  have H3 := hide h3
  have H4 := hide h4
  have H5 := hide h5
  have H6 := hide h6
  have H7 := hide h7
  have H9 := hide h9
  have HB := hide hb
  clear h1 h2 h3 h4 h5 h6 h7 h9 hb hrr hr0
  go_wp2_with fail
  refine bodyPost_ret (v := .agg #[.int .i64 t, .slice a N c, .slice (some ⟨g, 0, none⟩) K cap]) (by simp [results, Try.results20, go_sem, y0, y1, y2]) rfl ?_
  have hg8 : ∀ p : Addr, p.block ≠ w.heap.size → (((w1.setCell { block := w.heap.size, off := 0 } (Value.int IntKind.i64 t)).setCell
      { block := w.heap.size, off := 1 } (Value.slice a N c)).setCell
      { block := w.heap.size, off := 2 } (Value.slice (some { block := g, off := 0 }) K cap)).cell? p = w1.cell? p := fun p h2 => by
    rw [World.cell?_setCell_other _ _ _ _ (fun q => h2 (by rw [← q])), World.cell?_setCell_other _ _ _ _ (fun q => h2 (by rw [← q])), World.cell?_setCell_other _ _ _ _ (fun q => h2 (by rw [← q]))]
  have hb8 : Below w.heap.size w (((w1.setCell { block := w.heap.size, off := 0 } (Value.int IntKind.i64 t)).setCell
      { block := w.heap.size, off := 1 } (Value.slice a N c)).setCell
      { block := w.heap.size, off := 2 } (Value.slice (some { block := g, off := 0 }) K cap)) :=
    (((Below.trans HBA (Below.mono HB (Nat.le_succ _))).setCell (p := ⟨w.heap.size, 0, none⟩) (Nat.le_refl _) _).setCell (p := ⟨w.heap.size, 1, none⟩) (Nat.le_refl _) _).setCell (p := ⟨w.heap.size, 2, none⟩) (Nat.le_refl _) _
  generalize ((w1.setCell { block := w.heap.size, off := 0 } (Value.int IntKind.i64 t)).setCell
      { block := w.heap.size, off := 1 } (Value.slice a N c)).setCell
      { block := w.heap.size, off := 2 } (Value.slice (some { block := g, off := 0 }) K cap) = w8 at hg8 hb8 ⊢
  refine ⟨_, rfl, ⟨a, c, l, g, K, cap, T2, by rw [hN], ?_, H2, H3, ?_, H5, H6, H7, h8, fun x hx => by have := H9 x hx; omega, by omega⟩, hb8⟩
  · refine ⟨H1.1, fun i hi => ?_⟩
    obtain ⟨bb, off, e, hc⟩ := H1.2 i hi
    have hbf : w.heap.size + 1 ≤ bb := H9 _ e
    exact ⟨bb, off, e, (hg8 ⟨bb, off + i, none⟩ (by show bb ≠ w.heap.size; omega)).trans hc⟩
  · refine ⟨fun h => (by cases h), fun j hj => ⟨⟨g, 0, rfl, ?_⟩, ?_⟩⟩
    · obtain ⟨⟨b', off', e, hc⟩, _⟩ := H4.2 j hj
      cases e
      exact (hg8 ⟨g, 0 + j, none⟩ (by show g ≠ w.heap.size; omega)).trans hc
    · obtain ⟨s, hs, i, hi, e⟩ := H6 j hj
      rw [e]
      exact (((HF s hs).2.1.2 i hi).2).bel hb8
end Go.Proofs.Qxb6608660a
