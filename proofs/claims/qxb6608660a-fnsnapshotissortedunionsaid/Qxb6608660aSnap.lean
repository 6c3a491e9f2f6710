import Derived.Test.Qxb6608660aMaps
namespace Go.Proofs.Qxb6608660a
open Go.RowKit Go.Maps
set_option linter.unusedVariables false

/-- The bytes as a string. -/
def toBA (s : List UInt8) : ByteArray := ⟨s.toArray⟩
theorem ownsRow_row {w : World} {base n : Nat} {v : Value} {xs : List (List UInt8)} (h : w.ownsRow base 9 1 v n (xs.map encStr)) :
    ∃ a c, v = .slice a n c ∧ Row w a (xs.map toBA) ∧ xs.length = n ∧ n ≤ c ∧ c ≤ maxLen ∧ ∀ x, a = some x → base ≤ x.block := by
  have hl : xs.length = n := by simpa using h.1
  rcases h.2 with ⟨rfl, h0⟩ | ⟨g, cap, cur, rfl, hb, hg, hnc, hcm, hcs, htake⟩
  · subst h0
    have : xs = [] := List.eq_nil_of_length_eq_zero hl
    subst this
    exact ⟨none, 0, rfl, ⟨fun _ => rfl, fun i hi => absurd hi (by simp)⟩, rfl, Nat.le_refl _, Nat.zero_le _, fun _ h => by cases h⟩
  · refine ⟨some ⟨g, 0, none⟩, cap, rfl, ⟨fun h => (by cases h), fun i hi => ⟨g, 0, rfl, ?_⟩⟩, hl, hnc, hcm, fun x e => by cases e; exact hb⟩
    have hi' : i < xs.length := by simpa using hi
    have := h.cells (g := g) rfl i (encStr xs[i]) (by rw [List.getElem?_map, List.getElem?_eq_getElem hi']; rfl)
    rw [Addr.add_lit] at this
    rw [this]
    simp [List.getD_eq_getElem?_getD, List.getElem?_map, List.getElem?_eq_getElem hi', encStr, toBA]

theorem size_al (w : World) (o : Obj) : (w.alloc o).heap.size = w.heap.size + 1 := Array.size_push _
/-- The snapshot's three fields. -/
def snapF (t m x : Value) : Nat → Value := fun i => if i = 0 then t else if i = 1 then m else x

/-- An append whose run is known. -/
theorem wpList_append_run {P : Program} (w : World) {ops : Array Oper} {rest : List Oper} {o : Oper} {a : Act} {Q : Exit → Act → World → Prop} (hgd : o.guard = none) (s x : Operand) (t : TypeId)
    (ho : o.op = .call { callee := .builtin .append, args := #[s, x], argTypes := #[t, t] }) (v y v' : Value) (w' : World) (hs : a.eval s = v) (hx : a.eval x = y)
    (hr : (Builtin.append_ #[t, t] o.type #[v, y]).run P w = .ok v' w') (h : wpList P ops Q rest (a.put o.dst v') w') : wpList P ops Q (o :: rest) a w := by
  refine wpList_plain hgd fun _ hK => ?_
  unfold Oper.wp execOp
  simp only [ho, resolve, invoke, builtin, Sem.run_bind, Sem.run_pure, Result.andThen_ok, List.map_toArray, List.map_cons, List.map_nil, hs, hx, hr]
  exact hK _ _ h

/-- The tuples of the states of these names. -/
def Union (F : List UInt8 → St) (l : List (List UInt8)) (L : List Tup) : Prop :=
  (∀ t ∈ L, ∃ s ∈ l, ∃ i, i < (F s).n ∧ t = (F s).T i) ∧ ∀ s ∈ l, ∀ i, i < (F s).n → (F s).T i ∈ L
theorem union_nil (F : List UInt8 → St) : Union F [] [] := ⟨fun _ h => (by cases h), fun _ h => (by cases h)⟩
theorem union_next {F : List UInt8 → St} {l : List (List UInt8)} {L : List Tup} (h : Union F l L) (s : List UInt8) : Union F (l ++ [s]) (L ++ (List.range (F s).n).map (F s).T) := by
  refine ⟨fun t ht => ?_, fun s' hs' i hi => ?_⟩
  · rcases List.mem_append.1 ht with h1 | h1
    · obtain ⟨s', hs', i, hi, e⟩ := h.1 t h1
      exact ⟨s', List.mem_append_left _ hs', i, hi, e⟩
    · obtain ⟨i, hi, rfl⟩ := List.mem_map.1 h1
      exact ⟨s, by simp, i, List.mem_range.1 hi, rfl⟩
  · rcases List.mem_append.1 hs' with h1 | h1
    · exact List.mem_append_left _ (h.2 s' h1 i hi)
    · simp only [List.mem_singleton] at h1
      subst h1
      exact List.mem_append_right _ (List.mem_map.2 ⟨i, List.mem_range.2 hi, rfl⟩)

theorem held_of {w : World} {base g M cap : Nat} {L : List Tup} (h : w.ownsRow base 68 1 (.slice (some ⟨g, 0, none⟩) M cap) M (L.map Tup.val)) (hok : ∀ t ∈ L, t.ok w) (hfar : ∀ t ∈ L, ∀ x, t.a = some x → t.l ≠ [] → x.block ≠ g) :
    Held w g M (fun i => L.getD i ⟨none, [], 0⟩) ∧ M ≤ cap ∧ g < w.heap.size ∧ L.length = M := by
  have hl : L.length = M := by simpa using h.1
  have hgt : ∀ j, j < M → ∃ t ∈ L, L[j]? = some t ∧ L.getD j ⟨none, [], 0⟩ = t := fun j hj => by
    have hj' : j < L.length := by omega
    exact ⟨L[j], List.getElem_mem hj', List.getElem?_eq_getElem hj', by rw [List.getD_eq_getElem?_getD, List.getElem?_eq_getElem hj']; rfl⟩
  have hcl : ∀ j, j < M → w.cell? ⟨g, j, none⟩ = some (L.getD j ⟨none, [], 0⟩).val := fun j hj => by
    obtain ⟨t, _, e1, e2⟩ := hgt j hj
    have := h.cells (g := g) rfl j t.val (by rw [List.getElem?_map, e1]; rfl)
    rw [Addr.add_lit, Nat.zero_add] at this
    rw [e2]; exact this
  rcases h.2 with ⟨h0, _⟩ | ⟨g', cap', cur, hv, hb, hg, hnc, hcm, hcs, htake⟩
  · cases h0
  · cases hv
    refine ⟨⟨hcl, fun j hj => by simp [World.frozen?, hg], fun j hj => ?_, fun j hj => ?_⟩, hnc, (Array.getElem?_eq_some_iff.1 hg).1, hl⟩
    · obtain ⟨t, ht, _, e2⟩ := hgt j hj
      show (L.getD j ⟨none, [], 0⟩).ok w
      rw [e2]; exact hok t ht
    · obtain ⟨t, ht, _, e2⟩ := hgt j hj
      show ∀ x, (L.getD j ⟨none, [], 0⟩).a = some x → (L.getD j ⟨none, [], 0⟩).l ≠ [] → x.block ≠ g
      rw [e2]; exact hfar t ht

/-- What the snapshot is. -/
def SnapOk (B : Nat) (t : Int) (F : List UInt8 → St) (keys : List (List UInt8)) (w' : World) (v : Value) : Prop :=
  ∃ (a : Option Addr) (c : Nat) (l : List (List UInt8)) (g K cap : Nat) (T2 : Nat → Tup), v = .agg #[.int .i64 t, .slice a l.length c, .slice (some ⟨g, 0, none⟩) K cap] ∧ Row w' a (l.map toBA) ∧ l.Perm keys ∧ l.Pairwise (· ≤ ·) ∧
    TRow w' (some ⟨g, 0, none⟩) K T2 ∧ (∀ i j, i < j → j < K → cmpT (T2 i).l (T2 j).l = -1) ∧ (∀ j, j < K → ∃ s ∈ keys, ∃ i, i < (F s).n ∧ T2 j = (F s).T i) ∧
    (∀ s ∈ keys, ∀ i, i < (F s).n → ∃ j, j < K ∧ (T2 j).l = ((F s).T i).l) ∧ K ≤ 1099511627776 ∧ (∀ x, a = some x → B ≤ x.block) ∧ B ≤ g

set_option maxRecDepth 100000 in
set_option maxHeartbeats 2000000 in
theorem snapshot (t : Int) (b n : Nat) (D : DataW Value) (F : List UInt8 → St) (w : World) (hown : w.ownsMap Try.prog 9 sElem b n D) (hsz : Maps.size D ≤ 1048576)
    (hF : ∀ s ∈ strKeys D, (∀ z, D.atKey (.string s) z = .held (F s).val) ∧ (F s).ok w) :
    Calls Try.prog 33 #[.int .i64 t, .map (some b)] w fun e w' => ∃ v, e = .returned v ∧ SnapOk w.heap.size t F (strKeys D) w' v ∧ Below w.heap.size w w' := by
  have hbl := hown.lt
  have HO := hide hown
  have HF := hide hF
  clear hown hF
  go_enter Try.func33, Try.ntmps33
  go_wp2_with fail
  go_at_call 37
  refine (callsIn_wide.1 (Try.maps_Keys_37 (some b) _)).mono ?_
  rintro e w1 ⟨rfl, rfl⟩
  go_wp2_with fail
  go_at_call 36
  have hs := callsIn_wide.1 (Try.slices_Sorted_keys_36_37 b n D sElem (w.alloc (Obj.cells #[Value.int IntKind.i64 0, Value.slice none 0 0, Value.slice none 0 0] 64)) (World.ownsMap.alloc HO _) (by unfold maxLen; omega) (by omega))
  have hsz1 := size_al
  rw [hsz1 w] at hs
  refine hs.mono ?_
  clear hs
  rintro e w2 ⟨v, ss, rfl, hperm, hrow, -, hbel⟩
  rw [hsz1, hsz1] at hrow hbel
  obtain ⟨a2, c2, rfl, hr2, hl2, hc2, hm2, hfar2⟩ := ownsRow_row hrow
  have hw2 : Below w.heap.size w w2 := (((Below.refl _ _).alloc (Nat.le_refl _) _).alloc (by rw [hsz1]; omega) _).trans (hbel.mono (by omega))
  have hr0 : w2.heap[w.heap.size]? = some (.cells #[Value.int IntKind.i64 0, Value.slice none 0 0, Value.slice none 0 0] 64 (0, 0)) := by
    rw [hbel.block _ (by omega), Below.heap_alloc _ _ _ (by rw [hsz1]; omega)]
    exact heap_alloc_new w _
  have hsz2 : w.heap.size + 2 ≤ w2.heap.size := by have := hbel.size; rw [hsz1, hsz1] at this; omega
  have HFAR := hide hfar2
  clear hrow hbel hfar2
  generalize hN : ss.length = N at *
  have hown3 := World.ownsMap.alloc (ownsMap_bel HO hw2 hbl) (Obj.cells #[Value.int IntKind.i64 t, Value.slice a2 N c2, Value.slice none 0 0] 64)
  have hf5 : (w2.alloc (Obj.cells #[Value.int IntKind.i64 t, Value.slice a2 N c2, Value.slice none 0 0] 64)).rowIs w2.heap.size 64 3 (snapF (.int .i64 t) (.slice a2 N c2) (.slice none 0 0)) := World.rowIs_alloc w2 #[Value.int IntKind.i64 t, Value.slice a2 N c2, Value.slice none 0 0] 64 (snapF (.int .i64 t) (.slice a2 N c2) (.slice none 0 0)) (fun i hi => by
    have : i < 3 := hi
    match i, this with
    | 0, _ => rfl
    | 1, _ => rfl
    | 2, _ => rfl)
  obtain ⟨w3, hrun, hrg, hg3, hs3⟩ := World.ownsMap.range hown3 law Try.underlying56
  have hb3 : Below w2.heap.size w2 w3 := ((Below.refl _ _).alloc (Nat.le_refl _) _).grown hg3 (by rw [size_al]; omega) (fun k h => by cases h)
  have hf3 := hf5.of_block (hg3.block w2.heap.size (by rw [size_al]; omega) (by simp))
  rw [size_al] at hrg hs3 hrun
  have HP := hide hperm
  have HL := hide hl2
  have HR := hide hr2
  have HW := hide hw2
  have HB3 := hide hb3
  have HF3 := hide hf3
  have HR0 := hide hr0
  clear hperm hr2 hl2 hw2 hr0 hown3 hf5 hg3 hf3 hb3
  generalize hb5 : w2.heap.size = b5 at *
  generalize hrr : b5 + 1 = r at *
  have HRG := hide hrg
  clear hrg
  go_wp2_with fail
  go_loopw [6] (fun i wr => ∃ (m cnt : Nat) (left : Lit → Bool), i = .int .i64 m ∧ m + cnt * 1048576 ≤ Maps.size D * 1048576 ∧ wr.ranges Try.prog 9 sElem b r n D left cnt ∧ w3.grownBy wr (some r)) (fun _ wr => wr.rangeLeft b r)
  case atStart => exact ⟨0, Maps.size D, _, rfl, by omega, HRG, World.grownBy.refl _ _⟩
  case round =>
    obtain ⟨m, cnt, left, rfl, hm, hrg, hg⟩ := hrel
    have HG := hide hg
    clear hg
    go_wp2_with (first
      | (at_next; refine wpList_next_ranges _ rfl _ rfl 9 law sElem encStr (fun (y : Option Addr × Nat × Nat) => .slice y.1 y.2.1 y.2.2) (fun key kl h => by obtain ⟨x, h1, _⟩ := Maps.keyOf_str Try.underlying9 h; exact ⟨x, h1⟩) (fun v y h => by obtain ⟨x, h1, _⟩ := sElem_inv h; exact ⟨x, h1⟩) b r n _ _ _ rfl hrg ?_ ?_)
      | go_in)
    · intro hc0 hl0
      have hb4 : Below b5 w2 wr := Below.grown HB3 HG (by omega) (fun k h => by cases h; omega)
      have hf4 := World.rowIs.of_block HF3 (HG.block b5 (by omega) (by simp; omega))
      have hs4 := HG.size
      clear hrg
      have hmb : m ≤ 1099511627776 := by omega
      obtain ⟨i68, hi68, hz68, hs68, hb68⟩ := tinfo68
      have hmk := run_make (P := Try.prog) wr 57 68 i68 _ Try.underlying57 hi68 hz68 .i64 .i64 0 m (Int.le_refl _) (by omega) (by rw [hb68]; omega) (by omega)
      rw [hs68, Int.toNat_natCast, Nat.mul_one] at hmk
      have hrow := World.ownsRow_made (base := b5 + 1) (e := 68) (size := 1) wr (madeCells (Value.cells (.slice none 0 0)) m) m (by omega) (by unfold maxLen; omega) (by simp [madeCells, Value.cells])
      have hb5a : Below b5 w2 (wr.alloc (.cells (madeCells (Value.cells (.slice none 0 0)) m) 68)) := hb4.alloc (by omega) _
      have hf5a := hf4.alloc (.cells (madeCells (Value.cells (.slice none 0 0)) m) 68)
      have hsa := size_al wr (.cells (madeCells (Value.cells (.slice none 0 0)) m) 68)
      generalize wr.alloc (.cells (madeCells (Value.cells (.slice none 0 0)) m) 68) = wa at hmk hrow hb5a hf5a hsa
      have cf0 := hf5a.cell (i := 2) (by omega)
      have cf1 := hf5a.cell (i := 1) (by omega)
      have cz0 := hf5a.frozen 2
      have hst := hf5a.set 2 (.slice (some ⟨wr.heap.size, 0, none⟩) 0 m)
      simp only [snapF] at cf0 cf1
      generalize hgg : wr.heap.size = gg at *
      have HST := hide hst
      have HB5 := hide hb5a
      have HROW := hide hrow
      clear hst hb5a hrow hf5a hf4 hb4
      go_wp2_with fail
      generalize hl : ss.mergeSort (fun x y => decide (x ≤ y)) = l at *
      go_loopw [32] (fun i wr => ∃ (k g M cap : Nat) (L : List Tup), i = .int .i64 k ∧ k ≤ N ∧ Below b5 w2 wr ∧ wr.rowIs b5 64 3 (snapF (.int .i64 t) (.slice a2 N c2) (.slice (some ⟨g, 0, none⟩) M cap)) ∧
          wr.ownsRow (b5 + 1) 68 1 (.slice (some ⟨g, 0, none⟩) M cap) M (L.map Tup.val) ∧ M ≤ k * 1048576 ∧ b5 + 1 ≤ wr.heap.size ∧ Union F (l.take k) L) (fun i _ => N - (intOf i).toNat)
      case atStart =>
        refine ⟨0, gg, 0, m, [], rfl, Nat.zero_le _, Below.setCell HB5 (p := ⟨b5, 2, none⟩) (Nat.le_refl _) _, World.rowIs.congr HST ?_, World.ownsRow.kept HROW (grown_set _ _ _) (Or.inr (by simp [Value.ownBlock]; omega)), by omega, ?_, by rw [List.take_zero]; exact union_nil F⟩
        · intro i hi
          match i, hi with
          | 0, _ => rfl
          | 1, _ => rfl
          | 2, _ => rfl
        · have := (grown_set wa ⟨b5, 2, none⟩ (.slice (some ⟨gg, 0, none⟩) 0 m)).size; omega
      case round =>
        obtain ⟨k, g, M, cap, L, rfl, hk, hb, hf, hro, hM, hsb, hu⟩ := hrel
        clear cf0 cf1 cz0 hmk
        have hgb : b5 + 1 ≤ g := ((World.ownsRow.lt hro) g rfl).1
        have hll : l.length = N := HL
        have hNs : N ≤ 1048576 := by rw [← hN, List.Perm.length_eq HP, (keys_facts HO).2.2]; exact hsz
        have hbw : Below w.heap.size w wr := Below.trans HW (hb.mono (by omega))
        by_cases hlt : k < N
        · have hrc := HR.2 k (by rw [List.length_map]; omega)
          obtain ⟨bb, off, e, hc⟩ := hrc
          have hls : l[k]? = some (l[k]'(by omega)) := List.getElem?_eq_getElem _
          generalize l[k]'(by omega) = s at hls
          have hnm : (List.map toBA l).getD k ByteArray.empty = toBA s := by
            rw [List.getD_eq_getElem?_getD, List.getElem?_map, hls]; rfl
          rw [hnm] at hc
          have hmem : s ∈ strKeys D := (List.Perm.mem_iff HP).1 ((List.mergeSort_perm ss _).mem_iff.1 (by rw [hl]; exact List.mem_of_getElem? hls))
          have hsl : (toBA s).size ≤ maxLen := by
            have := strKeys_le HO Try.underlying9 s hmem
            exact this
          obtain ⟨hat, hok⟩ := HF s hmem
          have hlk := look (ownsMap_bel (ownsMap_bel HO HW hbl) hb (by omega)) (toBA s) hsl _ (by simpa [toBA] using hat)
          have hcw : wr.cell? ⟨bb, off + k, none⟩ = some (.string (toBA s)) := (hb.cell (by rw [← hb5]; exact World.block_lt_of_cell? w2 _ hc)).trans hc
          have hokr : (F s).ok wr := ⟨hok.1.bel hbw, hok.2⟩
          have hn1 := hok.2
          have hk20 : (k + 1) * 1048576 ≤ 1099511627776 := by omega
          obtain ⟨g', cap', w', hap, hro', hg'⟩ := append_any hro (F s) hokr (by omega) hsb 57
          have hun := union_next hu s
          have htk : l.take k ++ [s] = l.take (k + 1) := by
            rw [List.take_add_one, hls]; rfl
          rw [htk] at hun
          have hfw := hf.of_block (hg'.block b5 (by omega) (by simp; omega))
          have hbl' : Below b5 w2 w' := hb.grown hg' (by omega) (fun j h => by cases h; omega)
          have hsz' := hg'.size
          have d1 := hf.cell (i := 2) (by omega)
          have d2 := hfw.cell (i := 2) (by omega)
          have d3 := hfw.frozen 2
          have hset := hfw.set 2 (.slice (some ⟨g', 0, none⟩) (M + (F s).n) cap')
          simp only [snapF] at d1 d2
          unfold St.val at hlk
          have hg'b : b5 + 1 ≤ g' := ((World.ownsRow.lt hro') g' rfl).1
          generalize hFs : F s = fs at *
          obtain ⟨fa, fn, fc, fT⟩ := fs
          dsimp only at *
          subst e
          have hki : (k : Int) < (N : Int) := by omega
          have HSET := hide hset
          have HUN := hide hun
          have HBL := hide hbl'
          have HRO := hide hro'
          clear hset hun hbl' hro' hfw hf hro hu hb hc hokr hok hat hbw hg' htk
          go_wp2_with (first | (at_builtin; refine wpList_append_run _ rfl _ _ 57 rfl _ _ _ _ rfl rfl hap ?_) | go_in)
          refine ⟨⟨k + 1, g', M + fn, cap', _, rfl, by omega, Below.setCell HBL (p := ⟨b5, 2, none⟩) (Nat.le_refl _) _, World.rowIs.congr HSET ?_, World.ownsRow.kept HRO (grown_set _ _ _) (Or.inr (by simp [Value.ownBlock]; omega)), by omega, ?_, HUN⟩, ?_⟩
          · intro i hi
            match i, hi with
            | 0, _ => rfl
            | 1, _ => rfl
            | 2, _ => rfl
          · have := (grown_set w' ⟨b5, 2, none⟩ (.slice (some ⟨g', 0, none⟩) (M + fn) cap')).size; omega
          · simp only [intOf]; omega
        · have hkN : k = N := by omega
          rw [List.take_of_length_le (by omega)] at hu
          have hmemk : ∀ s, s ∈ l ↔ s ∈ strKeys D := fun s => by rw [← hl, (List.mergeSort_perm ss _).mem_iff]; exact List.Perm.mem_iff HP
          have hrows : ∀ t ∈ L, t.ok wr ∧ ∀ x, t.a = some x → t.l ≠ [] → x.block < w.heap.size := fun t ht => by
            obtain ⟨s, hs, i, hi, rfl⟩ := hu.1 t ht
            have ho := ((HF s ((hmemk s).1 hs)).2.1.2 i hi).2
            refine ⟨ho.bel hbw, fun x hx hne => ?_⟩
            obtain ⟨bb, off, e, hc⟩ := ho.1.2 0 (by cases h : ((F s).T i).l with
              | nil => exact absurd h hne
              | cons _ _ => simp)
            rw [hx] at e
            cases e
            exact World.block_lt_of_cell? w _ hc
          obtain ⟨hheld, hMc, hgl, hLM⟩ := held_of hro (fun t ht => (hrows t ht).1) (fun t ht x hx hne => by have := (hrows t ht).2 x hx hne; omega)
          have d1 := hf.cell (i := 2) (by omega)
          simp only [snapF] at d1
          have hM40 : M ≤ 1099511627776 := by omega
          have HH := hide hheld
          have HU := hide hu
          have HRO := hide hro
          have HFF := hide hf
          have HBB := hide hb
          have HROWS := hide hrows
          have HMEM := hide hmemk
          clear hheld hu hro hf hb hrows hmemk hbw
          go_wp2_with fail
          go_at_call 38
          refine (sortTuples g M cap _ wr hgl HH hM40 hMc).mono ?_
          rintro e w5 ⟨K, T2, rfl, hst, hh5, hg5⟩
          have hf5 := World.rowIs.of_block HFF (hg5.block b5 (by omega) (by simp; omega))
          have hb55 : Below b5 w2 w5 := Below.grown HBB hg5 (by omega) (fun j h => by cases h; omega)
          have hr05 : w5.heap[w.heap.size]? = some (.cells #[Value.int IntKind.i64 0, Value.slice none 0 0, Value.slice none 0 0] 64 (0, 0)) := (hb55.block w.heap.size (by omega)).trans HR0
          have hr05' : w5.rowIs w.heap.size 64 3 (snapF (.int .i64 0) (.slice none 0 0) (.slice none 0 0)) := ⟨_, hr05, rfl, fun i hi => by
            match i, hi with
            | 0, _ => rfl
            | 1, _ => rfl
            | 2, _ => rfl⟩
          have x0 := hf5.cell (i := 0) (by omega)
          have x1 := hf5.cell (i := 1) (by omega)
          have x2 := hf5.cell (i := 2) (by omega)
          have x3 := hf5.frozen 2
          have y0 := hr05'.cell (i := 0) (by omega)
          have y1 := hr05'.cell (i := 1) (by omega)
          have y2 := hr05'.cell (i := 2) (by omega)
          have z0 := hr05'.frozen 0
          have z1 := hr05'.frozen 1
          have z2 := hr05'.frozen 2
          simp only [snapF] at x0 x1 x2 y0 y1 y2
          have hne1 : ¬ w.heap.size = b5 := by omega
          have hne2 : ¬ b5 = w.heap.size := by omega
          have HST5 := hide hst
          have HH5 := hide hh5
          have HG5 := hide hg5
          have HB55 := hide hb55
          clear hst hh5 hg5 hb55 hf5 hr05 hr05'
          go_wp2_with fail
          refine bodyPost_ret (v := .agg #[.int .i64 t, .slice a2 N c2, .slice (some ⟨g, 0, none⟩) K cap]) (by simp [results, Try.results33, go_sem, y0, y1, y2]) rfl ?_
          have hg8 : ∀ p : Addr, p.block ≠ b5 → p.block ≠ w.heap.size → ((((w5.setCell { block := b5, off := 2 } (Value.slice (some { block := g, off := 0 }) K cap)).setCell
              { block := w.heap.size, off := 0 } (Value.int IntKind.i64 t)).setCell
              { block := w.heap.size, off := 1 } (Value.slice a2 N c2)).setCell
              { block := w.heap.size, off := 2 } (Value.slice (some { block := g, off := 0 }) K cap)).cell? p = w5.cell? p := fun p h1 h2 => by
            rw [World.cell?_setCell_other _ _ _ _ (fun q => h2 (by rw [← q])), World.cell?_setCell_other _ _ _ _ (fun q => h2 (by rw [← q])), World.cell?_setCell_other _ _ _ _ (fun q => h2 (by rw [← q])), World.cell?_setCell_other _ _ _ _ (fun q => h1 (by rw [← q]))]
          have hb8 : Below w.heap.size w ((((w5.setCell { block := b5, off := 2 } (Value.slice (some { block := g, off := 0 }) K cap)).setCell
              { block := w.heap.size, off := 0 } (Value.int IntKind.i64 t)).setCell
              { block := w.heap.size, off := 1 } (Value.slice a2 N c2)).setCell
              { block := w.heap.size, off := 2 } (Value.slice (some { block := g, off := 0 }) K cap)) :=
            ((((Below.trans HW (Below.mono HB55 (by omega))).setCell (p := ⟨b5, 2, none⟩) (by show w.heap.size ≤ b5; omega) _).setCell (p := ⟨w.heap.size, 0, none⟩) (Nat.le_refl _) _).setCell (p := ⟨w.heap.size, 1, none⟩) (Nat.le_refl _) _).setCell (p := ⟨w.heap.size, 2, none⟩) (Nat.le_refl _) _
          generalize (((w5.setCell { block := b5, off := 2 } (Value.slice (some { block := g, off := 0 }) K cap)).setCell
              { block := w.heap.size, off := 0 } (Value.int IntKind.i64 t)).setCell
              { block := w.heap.size, off := 1 } (Value.slice a2 N c2)).setCell
              { block := w.heap.size, off := 2 } (Value.slice (some { block := g, off := 0 }) K cap) = w8 at hg8 hb8 ⊢
          have hT2 : ∀ j, j < K → ∃ s ∈ strKeys D, ∃ i, i < (F s).n ∧ T2 j = (F s).T i := fun j hj => by
            obtain ⟨i, hi, e⟩ := HST5.2.1 j hj
            have hm : L.getD i ⟨none, [], 0⟩ ∈ L := by
              rw [List.getD_eq_getElem?_getD, List.getElem?_eq_getElem (by omega)]
              exact List.getElem_mem (by omega)
            obtain ⟨s, hs, i', hi', e'⟩ := HU.1 _ hm
            exact ⟨s, (HMEM s).1 hs, i', hi', e.trans e'⟩
          refine ⟨_, rfl, ⟨a2, c2, l, g, K, cap, T2, by rw [hll], ?_, ?_, ?_, ?_, HST5.1, hT2, ?_, Nat.le_trans HST5.2.2.2 hM40, fun x hx => by have : w.heap.size + 1 + 1 ≤ x.block := HFAR x hx; omega, by omega⟩, hb8⟩
          · refine ⟨HR.1, fun i hi => ?_⟩
            obtain ⟨bb, off, e, hc⟩ := HR.2 i hi
            have hbb : bb < b5 := by rw [← hb5]; exact World.block_lt_of_cell? w2 _ hc
            have hbf : w.heap.size + 1 + 1 ≤ bb := HFAR _ e
            exact ⟨bb, off, e, (hg8 ⟨bb, off + i, none⟩ (by show bb ≠ b5; omega) (by show bb ≠ w.heap.size; omega)).trans ((Below.cell HB55 hbb).trans hc)⟩
          · rw [← hl]; exact (List.mergeSort_perm ss _).trans HP
          · rw [← hl]
            refine (List.pairwise_mergeSort (le := fun x y : List UInt8 => decide (x ≤ y)) (fun a b c h1 h2 => ?_) (fun a b => ?_) ss).imp (fun h => of_decide_eq_true h)
            · simp only [decide_eq_true_eq] at *; exact List.le_trans h1 h2
            · simp only [Bool.or_eq_true, decide_eq_true_eq]; exact List.le_total a b
          · refine ⟨fun h => (by cases h), fun j hj => ⟨⟨g, 0, rfl, ?_⟩, ?_⟩⟩
            · rw [Nat.zero_add]
              exact (hg8 ⟨g, j, none⟩ (by show g ≠ b5; omega) (by show g ≠ w.heap.size; omega)).trans (Held.cell HH5 j hj)
            · obtain ⟨s, hs, i, hi, e⟩ := hT2 j hj
              rw [e]
              exact (((HF s hs).2.1.2 i hi).2).bel hb8
          · intro s hs i hi
            have hm := HU.2 s ((HMEM s).2 hs) i hi
            obtain ⟨x, hx, e⟩ := List.getElem_of_mem hm
            obtain ⟨j, hj, e2⟩ := HST5.2.2.1 x (by omega)
            refine ⟨j, hj, e2.trans ?_⟩
            show (L.getD x ⟨none, [], 0⟩).l = _
            rw [List.getD_eq_getElem?_getD, List.getElem?_eq_getElem hx, ← e]; rfl
    · intro x ya yn yc kl y1 y2 w4 cnt1 hkl hlk hy hat hrg1 hlt hg1 hs1 hen
      have e2 : yn ≤ 1048576 := by obtain ⟨⟨xa, xn, xc⟩, e1, e2, _⟩ := sElem_inv hy; cases e1; exact e2
      have HRG1 := hide hrg1
      have HRG0 := hide hrg
      clear hrg hrg1 hat hlk hkl hy
      have hmb : m ≤ 1099511627776 := by omega
      go_wp2
      refine ⟨⟨m + yn, cnt1, _, rfl, by omega, HRG1, World.grownBy.trans HG hg1⟩, ?_⟩
      rw [World.ranges.left_eq HRG1, World.ranges.left_eq HRG0]; omega
end Go.Proofs.Qxb6608660a
