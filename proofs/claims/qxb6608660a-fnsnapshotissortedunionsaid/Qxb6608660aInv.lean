import Derived.Test.Qxb6608660aZZ
import Derived.Test.Qxb6608660aMember
import Derived.Maps.Views
namespace Go.Proofs.Qxb6608660a
open Go.RowKit Go.Maps
set_option linter.unusedVariables false

/-! ### The map that the law lays: what it holds behind k members -/
structure MI (nm : Nat → List UInt8) (V : Nat → St) (D : DataW Value) (k : Nat) : Prop where
  tidy : Tidy D
  le : Maps.size D ≤ k
  mem : ∀ i, i < k → has D (.string (nm i)) = true
  only : ∀ x, has D (.string x) = true → ∃ i, i < k ∧ x = nm i
  full : Maps.size D = k → (∀ i j, i < j → j < k → nm i ≠ nm j) ∧ ∀ i, i < k → ∀ z, D.atKey (.string (nm i)) z = .held (V i).val
theorem MI.start (nm : Nat → List UInt8) (V : Nat → St) : MI nm V (.map []) 0 :=
  ⟨tidy_empty, Nat.le_refl _, fun i h => absurd h (Nat.not_lt_zero _), fun x h => by simp [has_eq] at h, fun _ => ⟨fun i j _ h => absurd h (Nat.not_lt_zero _), fun i h => absurd h (Nat.not_lt_zero _)⟩⟩
theorem MI.step {nm : Nat → List UInt8} {V : Nat → St} {D : DataW Value} {k : Nat} (h : MI nm V D k) (s : St) :
    MI nm (fun i => if i = k then s else V i) (D.put (.string (nm k)) (.held s.val)) (k + 1) := by
  have hk : WideAt.IsKeyLit (Lit.string (nm k)) := trivial
  have hne : ∀ x, x ≠ nm k → Lit.string x ≠ Lit.string (nm k) := fun x hx e => hx (by simpa using e)
  have hsz := Maps.size_put (k := Lit.string (nm k)) h.tidy (.held s.val)
  refine ⟨h.tidy.put hk _, ?_, fun i hi => ?_, fun x hx => ?_, fun hf => ?_⟩
  · rw [hsz]
    have := h.le
    split <;> omega
  · by_cases e : nm i = nm k
    · rw [e]; exact has_put_same h.tidy.isMap hk _
    · rw [has_put_other (hne _ e)]
      exact h.mem i (by
        have : i ≠ k := fun q => e (by rw [q])
        omega)
  · by_cases e : x = nm k
    · exact ⟨k, by omega, e⟩
    · rw [has_put_other (hne _ e)] at hx
      obtain ⟨i, hi, q⟩ := h.only x hx
      exact ⟨i, by omega, q⟩
  · have hle := h.le
    have hno : ¬ has D (.string (nm k)) = true := fun q => by
      rw [hsz, if_pos q] at hf; omega
    rw [hsz, if_neg hno] at hf
    obtain ⟨f1, f2⟩ := h.full (by omega)
    have hnk : ∀ i, i < k → nm i ≠ nm k := fun i hi q => hno (by rw [← q]; exact h.mem i hi)
    refine ⟨fun i j hij hj => ?_, fun i hi z => ?_⟩
    · by_cases e : j = k
      · subst e; exact hnk i hij
      · exact f1 i j hij (by omega)
    · by_cases e : i = k
      · subst e
        show _ = DataW.held (if i = i then s else V i).val
        rw [if_pos rfl]; exact atKey_put_same h.tidy.isMap hk _ z
      · show _ = DataW.held (if i = k then s else V i).val
        rw [if_neg e, atKey_put_other (hne _ (hnk i (by omega)))]
        exact f2 i (by omega) z

/-- Which member bears this name. -/
noncomputable def pick (nm : Nat → List UInt8) (n : Nat) (s : List UInt8) : Nat := open Classical in if h : ∃ i, i < n ∧ nm i = s then h.choose else 0
theorem pick_eq {nm : Nat → List UInt8} {n : Nat} (hd : ∀ i j, i < j → j < n → nm i ≠ nm j) {i : Nat} (hi : i < n) : pick nm n (nm i) = i := by
  have h : ∃ j, j < n ∧ nm j = nm i := ⟨i, hi, rfl⟩
  unfold pick
  rw [dif_pos h]
  obtain ⟨h1, h2⟩ := h.choose_spec
  generalize h.choose = j at h1 h2
  rcases Nat.lt_trichotomy i j with q | q | q
  · exact absurd h2.symm (hd i j q h1)
  · exact q.symm
  · exact absurd h2 (hd j i q hi)

theorem ky_toBA (s : List UInt8) : ky (toBA s) = s := by simp [ky, toBA]
theorem toBA_ky (s : ByteArray) : toBA s.data.toList = s := by simp [toBA]

/-- Sorted, no name twice: strictly ascending. -/
theorem asc_of {l : List (List UInt8)} (hp : l.Pairwise (· ≤ ·)) (hn : l.Nodup) : Asc (l.map toBA) := by
  intro i j hij hj
  rw [List.length_map] at hj
  rw [List.getD_eq_getElem?_getD, List.getD_eq_getElem?_getD, List.getElem?_map, List.getElem?_map, List.getElem?_eq_getElem (by omega : i < l.length), List.getElem?_eq_getElem hj]
  show cmpS (toBA l[i]) (toBA l[j]) = -1
  unfold cmpS
  rw [ky_toBA, ky_toBA]
  have h1 : l[i] ≤ l[j] := List.pairwise_iff_getElem.1 hp i j _ _ hij
  have h2 : l[i] ≠ l[j] := List.pairwise_iff_getElem.1 hn i j _ _ hij
  rw [if_pos]
  rcases Classical.em (l[i] < l[j]) with h | h
  · exact h
  · exact absurd (List.le_antisymm h1 (List.not_lt.1 h)) h2

/-- What the law reads of the snapshot. -/
structure Res (w : World) (M : Nat → Mem) (n : Nat) (a : Option Addr) (names : List ByteArray) (g K : Nat) (T2 : Nat → Tup) : Prop where
  row : Row w a names
  len : names.length = n
  asc : Asc names
  has : ∀ i, i < n → ∃ q, q < names.length ∧ names.getD q ByteArray.empty = (M i).nm
  trow : TRow w (some ⟨g, 0, none⟩) K T2
  strict : ∀ i j, i < j → j < K → cmpT (T2 i).l (T2 j).l = -1
  sub : ∀ j, j < K → ∃ i u, i < n ∧ u < (M i).n ∧ (T2 j).l = ((M i).T u).l
  sup : ∀ i, i < n → ∀ u, u < (M i).n → ∃ j, j < K ∧ (T2 j).l = ((M i).T u).l
  le : K ≤ 1099511627776

theorem res_of {t : Int} {B : Nat} {M : Nat → Mem} {n : Nat} {V : Nat → St} {D : DataW Value} {w : World} {v : Value} {b m : Nat} {w0 : World} (hown : w0.ownsMap Try.prog 9 sElem b m D)
    (hmi : MI (fun i => (M i).nm.data.toList) V D n) (hfull : Maps.size D = n) (hV : ∀ i, i < n → (V i).n = (M i).n ∧ ∀ u, u < (M i).n → ((V i).T u).l = ((M i).T u).l)
    (h : SnapOk B t (fun s => V (pick (fun i => (M i).nm.data.toList) n s)) (strKeys D) w v) :
    ∃ a c names g K cap T2, v = .agg #[.int .i64 t, .slice a n c, .slice (some ⟨g, 0, none⟩) K cap] ∧ Res w M n a names g K T2 := by
  obtain ⟨a, c, l, g, K, cap, T2, rfl, h1, h2, h3, h4, h5, h6, h7, h8, h9, h10⟩ := h
  obtain ⟨kn, km, kl⟩ := keys_facts hown
  obtain ⟨f1, f2⟩ := hmi.full hfull
  have hmem : ∀ s, s ∈ strKeys D ↔ ∃ i, i < n ∧ s = (M i).nm.data.toList := fun s => by
    rw [km]
    exact ⟨hmi.only s, fun ⟨i, hi, e⟩ => by rw [e]; exact hmi.mem i hi⟩
  have hlen : l.length = n := by rw [h2.length_eq, kl, hfull]
  refine ⟨a, c, l.map toBA, g, K, cap, T2, by rw [hlen], ⟨h1, by rw [List.length_map]; exact hlen, asc_of h3 (h2.nodup_iff.2 kn), fun i hi => ?_, h4, h5, fun j hj => ?_, fun i hi u hu => ?_, h8⟩⟩
  · have : (M i).nm.data.toList ∈ l := h2.mem_iff.2 ((hmem _).2 ⟨i, hi, rfl⟩)
    obtain ⟨q, hq, e⟩ := List.getElem_of_mem this
    refine ⟨q, by rw [List.length_map]; exact hq, ?_⟩
    rw [List.getD_eq_getElem?_getD, List.getElem?_map, List.getElem?_eq_getElem hq, e]
    exact toBA_ky _
  · obtain ⟨s, hs, u, hu, e⟩ := h6 j hj
    obtain ⟨i, hi, rfl⟩ := (hmem s).1 hs
    have e1 := pick_eq f1 hi
    dsimp only at hu e
    rw [e1] at hu e
    obtain ⟨v1, v2⟩ := hV i hi
    exact ⟨i, u, hi, by omega, by rw [e]; exact v2 u (by omega)⟩
  · obtain ⟨v1, v2⟩ := hV i hi
    have e1 := pick_eq f1 hi
    obtain ⟨j, hj, e⟩ := h7 _ ((hmem _).2 ⟨i, hi, rfl⟩) u (by dsimp only; rw [e1]; omega)
    dsimp only at e
    rw [e1] at e
    exact ⟨j, hj, e.trans (v2 u hu)⟩
theorem MI.forF {M : Nat → Mem} {n : Nat} {V : Nat → St} {D : DataW Value} {w0 : World} {b m : Nat} (hown : w0.ownsMap Try.prog 9 sElem b m D) (hmi : MI (fun i => (M i).nm.data.toList) V D n) (hfull : Maps.size D = n) (hV : ∀ i, i < n → (V i).ok w0) :
    ∀ s ∈ strKeys D, (∀ z, D.atKey (.string s) z = .held (V (pick (fun i => (M i).nm.data.toList) n s)).val) ∧ (V (pick (fun i => (M i).nm.data.toList) n s)).ok w0 := by
  intro s hs
  obtain ⟨kn, km, kl⟩ := keys_facts hown
  obtain ⟨f1, f2⟩ := hmi.full hfull
  obtain ⟨i, hi, rfl⟩ := hmi.only s ((km s).1 hs)
  have e1 := pick_eq f1 hi
  rw [e1]
  exact ⟨f2 i hi, hV i hi⟩
end Go.Proofs.Qxb6608660a
