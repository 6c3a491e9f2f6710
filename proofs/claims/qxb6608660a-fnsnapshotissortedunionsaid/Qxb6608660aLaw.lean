import Derived.Test.Qxb6608660aInv
import Derived.Deep.RegionHeld3
namespace Go.Proofs.Qxb6608660a
open Go.RowKit Go.Maps
set_option linter.unusedVariables false

theorem mkMap (w : World) (k : IntKind) (n : Int) : (Instr.makeMap 56 (some (.int k n))).run Try.prog w = .ok (.map (some w.heap.size)) (w.alloc (.map #[] 0)) := by
  simp [Instr.makeMap, run_underlying Try.underlying56, asInt, asIntOf]

theorem trow_of {w : World} {a : Option Addr} {n : Nat} {T : Nat → Tup} (h : TRaw w a n T) (hg : GoodT T n) : TRow w a n T :=
  ⟨h.1, fun i hi => ⟨(h.2.2 i hi).1, (h.2.2 i hi).2.1, (hg i hi).1⟩⟩

/-- Every cell that is there stays. -/
def Kp (w w' : World) : Prop := ∀ p v, w.cell? p = some v → w'.cell? p = some v
theorem Kp.refl (w : World) : Kp w w := fun _ _ h => h
theorem Kp.trans {a b c : World} (h : Kp a b) (k : Kp b c) : Kp a c := fun p v e => k p v (h p v e)
theorem Kp.below {w w' : World} (h : Below w.heap.size w w') : Kp w w' := fun p v e => (h.cell (World.block_lt_of_cell? w p e)).trans e
theorem Kp.map {w w' : World} {b n : Nat} {D : DataW Value} (hown : w.ownsMap Try.prog 9 sElem b n D) (h : w.grownBy w' (some b)) : Kp w w' := by
  intro p v e
  refine h.cell e ?_
  intro hb
  obtain ⟨es, clock, hh, _⟩ := hown
  cases hb
  simp [World.cell?, hh] at e
theorem Row.kp {w w' : World} {a : Option Addr} {l : List ByteArray} (h : Row w a l) (k : Kp w w') : Row w' a l :=
  ⟨h.1, fun i hi => by obtain ⟨b, off, e, hc⟩ := h.2 i hi; exact ⟨b, off, e, k _ _ hc⟩⟩
theorem TRow.kp {w w' : World} {a : Option Addr} {n : Nat} {T : Nat → Tup} (h : TRow w a n T) (k : Kp w w') : TRow w' a n T :=
  ⟨h.1, fun i hi => by obtain ⟨⟨b, off, e, hc⟩, ho⟩ := h.2 i hi; exact ⟨⟨b, off, e, k _ _ hc⟩, ho.1.kp k, ho.2⟩⟩
theorem St.ok.kp {w w' : World} {s : St} (h : s.ok w) (k : Kp w w') : s.ok w' := ⟨h.1.kp k, h.2⟩
theorem Res.kp {w w' : World} {M : Nat → Mem} {n : Nat} {a : Option Addr} {names : List ByteArray} {g K : Nat} {T2 : Nat → Tup} (h : Res w M n a names g K T2) (k : Kp w w') : Res w' M n a names g K T2 :=
  ⟨h.row.kp k, h.len, h.asc, h.has, h.trow.kp k, h.strict, h.sub, h.sup, h.le⟩
theorem Kp.drewN (w : World) (q : Nat) : Kp w (w.drewN q) := fun _ _ h => h
theorem below_drewN {B : Nat} {a w : World} (h : Below B a w) (q : Nat) : Below B a (w.drewN q) := ⟨h.os, h.tape, h.output, h.size, h.block⟩
/-- Everything that the law's second half reads. -/
structure Rd (w wr : World) (b7 : Nat) (t : Int) (M : Nat → Mem) (n : Nat) (a7 : Option Addr) (c7 : Nat) (names : List ByteArray) (g K cap : Nat) (T2 : Nat → Tup) : Prop where
  bel : Below w.heap.size w wr
  fld : wr.rowIs b7 64 3 (snapF (.int .i64 t) (.slice a7 n c7) (.slice (some ⟨g, 0, none⟩) K cap))
  res : Res wr M n a7 names g K T2
theorem Rd.drewN {w wr : World} {b7 : Nat} {t : Int} {M : Nat → Mem} {n : Nat} {a7 : Option Addr} {c7 : Nat} {names : List ByteArray} {g K cap : Nat} {T2 : Nat → Tup} (h : Rd w wr b7 t M n a7 c7 names g K cap T2) (q : Nat) : Rd w (wr.drewN q) b7 t M n a7 c7 names g K cap T2 :=
  ⟨below_drewN h.bel q, h.fld, h.res.kp (Kp.drewN _ q)⟩
theorem Rd.alloc {w wr : World} {b7 : Nat} {t : Int} {M : Nat → Mem} {n : Nat} {a7 : Option Addr} {c7 : Nat} {names : List ByteArray} {g K cap : Nat} {T2 : Nat → Tup} (h : Rd w wr b7 t M n a7 c7 names g K cap T2) (o : Obj) : Rd w (wr.alloc o) b7 t M n a7 c7 names g K cap T2 :=
  ⟨h.bel.alloc h.bel.size o, h.fld.alloc o, h.res.kp (Kp.below ((Below.refl _ _).alloc (Nat.le_refl _) o))⟩
/-- Every cell but the bools stays. -/
def KpS (w w' : World) : Prop := ∀ p v, w.cell? p = some v → (∀ x, v ≠ .bool x) → w'.cell? p = some v
theorem Row.kps {w w' : World} {a : Option Addr} {l : List ByteArray} (h : Row w a l) (k : KpS w w') : Row w' a l :=
  ⟨h.1, fun i hi => by obtain ⟨b, off, e, hc⟩ := h.2 i hi; exact ⟨b, off, e, k _ _ hc (fun x e => by cases e)⟩⟩
theorem TRow.kps {w w' : World} {a : Option Addr} {n : Nat} {T : Nat → Tup} (h : TRow w a n T) (k : KpS w w') : TRow w' a n T :=
  ⟨h.1, fun i hi => by obtain ⟨⟨b, off, e, hc⟩, ho⟩ := h.2 i hi; exact ⟨⟨b, off, e, k _ _ hc (fun x e => by cases e)⟩, ho.1.kps k, ho.2⟩⟩
theorem KpS.set {w : World} {p : Addr} {x : Bool} (h : w.cell? p = some (.bool x)) (v : Value) : KpS w (w.setCell p v) := fun q u hu hne =>
  (World.cell?_setCell_other _ _ _ _ (fun e => by subst e; rw [h] at hu; cases hu; exact hne x rfl)).trans hu
theorem Rd.set {w wr : World} {b7 : Nat} {t : Int} {M : Nat → Mem} {n : Nat} {a7 : Option Addr} {c7 : Nat} {names : List ByteArray} {g K cap : Nat} {T2 : Nat → Tup} (h : Rd w wr b7 t M n a7 c7 names g K cap T2) {sb j : Nat} {x : Bool} (hc : wr.cell? ⟨sb, j, none⟩ = some (.bool x)) (hs : w.heap.size ≤ sb) (hb : b7 ≠ sb) (v : Value) : Rd w (wr.setCell ⟨sb, j, none⟩ v) b7 t M n a7 c7 names g K cap T2 :=
  ⟨h.bel.setCell (p := ⟨sb, j, none⟩) hs v, h.fld.setOther (a := ⟨sb, j, none⟩) hb v, ⟨h.res.row.kps (KpS.set hc v), h.res.len, h.res.asc, h.res.has, h.res.trow.kps (KpS.set hc v), h.res.strict, h.res.sub, h.res.sup, h.res.le⟩⟩
theorem cmpF_lt {a a' : Option Addr} {l l' : List ByteArray} {c c' : Nat} {w : World} (hr : Row w a l) (hr' : Row w a' l') (hl : l.length ≤ 1048576) (hl' : l'.length ≤ 1048576) (h : cmpT l l' = -1) :
    Calls Try.prog 22 #[.slice a l.length c, .slice a' l'.length c'] w fun e w' => e = .returned (.int .i64 (-1)) ∧ ∃ nq, w' = w.drewN nq := by
  have := cmpFields a a' l l' c c' w hr hr' (by unfold maxLen; omega) (by unfold maxLen; omega)
  rwa [h] at this
theorem info4 : (Try.prog.info? 4).map (fun i => (i.zero, i.size, i.bytes)) = some (some (.bool false), 1, 1) := by kernel_rfl
/-- What has been seen: the tuples of the first k members, and the first u of the next. -/
def Seen (M : Nat → Mem) (T2 : Nat → Tup) (K : Nat) (f : Nat → Bool) (k u : Nat) : Prop :=
  (∀ i, i < k → ∀ x, x < (M i).n → ∀ j, j < K → (T2 j).l = ((M i).T x).l → f j = true) ∧ ∀ x, x < u → ∀ j, j < K → (T2 j).l = ((M k).T x).l → f j = true
theorem seen_start (M : Nat → Mem) (T2 : Nat → Tup) (K : Nat) (f : Nat → Bool) : Seen M T2 K f 0 0 := ⟨fun i h => absurd h (Nat.not_lt_zero _), fun i h => absurd h (Nat.not_lt_zero _)⟩
theorem Seen.next {M : Nat → Mem} {T2 : Nat → Tup} {K : Nat} {f : Nat → Bool} {k : Nat} (h : Seen M T2 K f k (M k).n) : Seen M T2 K f (k + 1) 0 :=
  ⟨fun i hi x hx j hj e => by
    by_cases q : i = k
    · subst q; exact h.2 x hx j hj e
    · exact h.1 i (by omega) x hx j hj e, fun i h => absurd h (Nat.not_lt_zero _)⟩
theorem Seen.one {M : Nat → Mem} {T2 : Nat → Tup} {K : Nat} {f : Nat → Bool} {k u q : Nat} (h : Seen M T2 K f k u) (hs : ∀ i j, i < j → j < K → cmpT (T2 i).l (T2 j).l = -1) (hq : q < K) (hx : (T2 q).l = ((M k).T u).l) :
    Seen M T2 K (fun j => if j = q then true else f j) k (u + 1) := by
  have keep : ∀ j, f j = true → (if j = q then true else f j) = true := fun j hj => by split <;> simp [hj]
  refine ⟨fun i hi x hx j hj e => keep j (h.1 i hi x hx j hj e), fun x hxu j hj e => ?_⟩
  by_cases hxe : x = u
  · subst hxe
    have hjq : j = q := by
      rcases Nat.lt_trichotomy j q with r | r | r
      · have := hs j q r hq; rw [e, hx, cmpT_self] at this; exact absurd this (by decide)
      · exact r
      · have := hs q j r hj; rw [e, hx, cmpT_self] at this; exact absurd this (by decide)
    exact if_pos hjq
  · exact keep j (h.2 x (by omega) j hj e)
theorem Seen.all {M : Nat → Mem} {T2 : Nat → Tup} {K n : Nat} {f : Nat → Bool} (h : Seen M T2 K f n 0) (hsub : ∀ j, j < K → ∃ i u, i < n ∧ u < (M i).n ∧ (T2 j).l = ((M i).T u).l) (j : Nat) (hj : j < K) : f j = true := by
  obtain ⟨i, u, hi, hu, e⟩ := hsub j hj
  exact h.1 i hi u hu j hj e
theorem MI.stepM {M : Nat → Mem} {V : Nat → St} {D : DataW Value} {k : Nat} {m : Mem} (h : MI (fun i => (M i).nm.data.toList) V D k) (hm : M k = m) (s : St) :
    MI (fun i => (M i).nm.data.toList) (fun i => if i = k then s else V i) (D.put (.string m.nm.data.toList) (.held s.val)) (k + 1) := by
  subst hm
  exact h.step s

theorem findName_n {a : Option Addr} {l : List ByteArray} {c n : Nat} {x : ByteArray} {w : World} (hr : Row w a l) (hl : l.length = n) (hn : n ≤ 1048576) (hs : Asc l) (q : Nat) (hq : q < l.length) (hx : l.getD q ByteArray.empty = x) :
    Calls Try.prog 21 #[.slice a n c, .string x] w fun e w' => e = .returned (.bool true) ∧ w = w' := by
  subst hl
  exact findName_yes a l c x w hr hn hs q hq hx

set_option maxRecDepth 100000 in
set_option maxHeartbeats 4000000 in
theorem lawCalls (t : Int) (a : Option Addr) (n c : Nat) (M : Nat → Mem) (w : World) (hr : MRaw w a n M) :
    Calls Try.prog 4 #[.int .i64 t, .slice a n c] w fun e w' => e = .returned (.bool true) ∧ Below w.heap.size w w' := by
  have hmm := mkMap
  have hnm := hr.2.1
  unfold maxLen at hnm
  have HR := hide hr
  clear hr
  go_enter Try.func4, Try.ntmps4
  go_wp2_with fail
  go_at_call 17
  refine (bytesSnap t a n c M w HR).mono ?_
  rintro e w' ⟨⟨rb, rfl, hrb⟩, rfl⟩
  cases rb with
  | false =>
    clear hrb
    go_wp2_with fail
    go_ret
    exact ⟨rfl, Below.refl _ _⟩
  | true =>
  obtain ⟨hn, hgm⟩ := hrb rfl
  have HGM := hide hgm
  clear hgm hrb
  by_cases h4096 : (4096 : Int) < (n : Int)
  · go_wp2_with fail
    go_ret
    exact ⟨rfl, Below.refl _ _⟩
  go_wp2_with fail
  go_at_call 18
  refine (memberBytes a n c M w HR hn HGM).mono ?_
  rintro e w' ⟨⟨rb, rfl⟩, rfl⟩
  by_cases hrb : (1048576 : Int) < rb
  · go_wp2_with fail
    go_ret
    exact ⟨rfl, Below.refl _ _⟩
  go_wp2_with fail

  go_loopw [6] (fun i wr => ∃ (k : Nat) (D : DataW Value) (V : Nat → St), i = .int .i64 k ∧ k ≤ n ∧ Below w.heap.size w wr ∧ wr.ownsMap Try.prog 9 sElem w.heap.size k D ∧ MI (fun i => (M i).nm.data.toList) V D k ∧
      (∀ i, i < k → (V i).ok wr ∧ (V i).n = (M i).n ∧ ∀ u, u < (M i).n → ((V i).T u).l = ((M i).T u).l)) (fun i _ => n - (intOf i).toNat)
  case atStart =>
    exact ⟨0, .map [], fun _ => ⟨none, 0, 0, fun _ => ⟨none, [], 0⟩⟩, rfl, Nat.zero_le _, (Below.refl _ _).alloc (Nat.le_refl _) _, World.ownsMap_made w _ _ _, MI.start _ _, fun i h => absurd h (Nat.not_lt_zero _)⟩
  case round =>
    obtain ⟨k, D, V, rfl, hk, hb, hown, hmi, hV⟩ := hrel
    by_cases hlt : k < n
    · have hmk := HR.2.2 k hlt
      obtain ⟨⟨bb, off, e, c0, c1⟩, hnmk, htk⟩ := hmk
      subst e
      have hgk := HGM k hlt
      have hbb : bb < w.heap.size := World.block_lt_of_cell? w _ c0
      have d0 := (hb.cell (p := ⟨bb, off + k * 2, none⟩) hbb).trans c0
      have d1 := (hb.cell (p := ⟨bb, off + k * 2 + 1, none⟩) hbb).trans c1
      have htr : TRow wr (M k).a (M k).n (M k).T := (trow_of htk hgk.2.2).bel hb
      have htn := hgk.2.1
      clear c0 c1
      generalize hMk : M k = mk at *
      obtain ⟨mn, ma, mm, mc, mT⟩ := mk
      dsimp only at *
      have hki : (k : Int) < (n : Int) := by omega
      have HTR := hide htr
      have HB := hide hb
      have HO := hide hown
      have HMI := hide hmi
      have HV := hide hV
      clear htr hb hown hmi hV hgk htk
      have HOL : w.heap.size < wr.heap.size := World.ownsMap.lt HO
      go_wp2_with fail
      go_region_held3 (fun w' => w'.cell? ⟨bb, off + k * 2, none⟩ = some (.string mn) ∧ w'.cell? ⟨bb, off + k * 2 + 1, none⟩ = some (.slice ma mm mc)) (go_keep) ((go_at_call 19; refine (toTuples_any ma mm mc mT wr.drew HTR htn).mono ?_; rintro e w4 ⟨a4, c4, T4, rfl, hT4, hl4, hb4, hf4, hc4⟩; obtain ⟨w5, hup, ho5, hg5⟩ := World.ownsMap.update (ownsMap_bel (w := wr.drew) HO hb4 HOL) law Try.underlying56 (by unfold maxLen; omega) (Go.WideMaps.keyOf_string_mk Try.underlying9 hnmk) (sElem_mk (a := a4) (c := c4) htn); have k0 : w4.cell? ⟨bb, off + k * 2, none⟩ = some (.string mn) := (hb4.cell (show bb < wr.heap.size by omega)).trans d0; have k1 : w4.cell? ⟨bb, off + k * 2 + 1, none⟩ = some (.slice ma mm mc) := (hb4.cell (show bb < wr.heap.size by omega)).trans d1; have k2 : w5.cell? ⟨bb, off + k * 2, none⟩ = some (.string mn) := hg5.cell k0 (by simp; omega); have k3 : w5.cell? ⟨bb, off + k * 2 + 1, none⟩ = some (.slice ma mm mc) := hg5.cell k1 (by simp; omega); have HO5 := hide ho5; have HG5 := hide hg5; have HB4 := hide hb4; have HT4 := hide hT4; have HL4 := hide hl4; clear ho5 hg5 hb4 hT4 hl4 hf4))
      go_wp2_with fail
      have kp : Kp wr w5 := Kp.trans (Kp.below (w := wr.drew) HB4) (Kp.map (ownsMap_bel (w := wr.drew) HO HB4 HOL) HG5)
      refine ⟨⟨k + 1, _, fun i => if i = k then ⟨a4, mm, c4, T4⟩ else V i, rfl, by omega, ?_, HO5, MI.stepM HMI hMk ⟨a4, mm, c4, T4⟩, fun i hi => ?_⟩, ?_⟩
      · exact ((Below.drew HB).trans (Below.mono HB4 (by show w.heap.size ≤ wr.heap.size; omega))).grown HG5 (by have := (Below.size HB4); have : wr.heap.size ≤ w4.heap.size := this; omega) (fun j h => by cases h; exact Nat.le_refl _)
      · dsimp only
        by_cases e : i = k
        · rw [if_pos e]
          subst e
          rw [hMk]
          exact ⟨⟨TRow.kp HT4 (Kp.map (ownsMap_bel (w := wr.drew) HO HB4 HOL) HG5), htn⟩, rfl, fun u hu => HL4 u hu⟩
        · rw [if_neg e]
          obtain ⟨v1, v2⟩ := HV i (by omega)
          exact ⟨v1.kp kp, v2⟩
      · simp only [intOf]; omega
    · have hkn : n = k := by omega
      subst hkn
      by_cases hfull : Maps.size D = n
      · have hfi : ((Maps.size D : Int) != (n : Int)) = false := by rw [hfull]; simp
        go_wp2_with (first | (at_len; refine wpList_len_own _ rfl _ 56 rfl 9 57 Try.underlying56 _ w.heap.size n D rfl hown ?_) | fail)
        go_at_call 20
        refine (zzSnapshot t w.heap.size n D (fun s => V (pick (fun i => (M i).nm.data.toList) n s)) wr hown (by omega) (MI.forF hown hmi hfull (fun i hi => (hV i hi).1))).mono ?_
        rintro e w6 ⟨v, rfl, hsn, hb6⟩
        obtain ⟨a7, c7, names, g, K, cap, T2, rfl, hres⟩ := res_of hown hmi hfull (fun i hi => (hV i hi).2) hsn
        have hbA : Below w.heap.size w (w6.alloc (.cells #[.int .i64 t, .slice a7 n c7, .slice (some ⟨g, 0, none⟩) K cap] 64)) := ((hb.trans (hb6.mono hb.size)).alloc (by have := hb.size; have := hb6.size; omega) _)
        have hf7 : (w6.alloc (.cells #[.int .i64 t, .slice a7 n c7, .slice (some ⟨g, 0, none⟩) K cap] 64)).rowIs w6.heap.size 64 3 (snapF (.int .i64 t) (.slice a7 n c7) (.slice (some ⟨g, 0, none⟩) K cap)) := World.rowIs_alloc w6 #[.int .i64 t, .slice a7 n c7, .slice (some ⟨g, 0, none⟩) K cap] 64 _ (fun i hi => by
          have : i < 3 := hi
          match i, this with
          | 0, _ => rfl
          | 1, _ => rfl
          | 2, _ => rfl)
        have hra : Res (w6.alloc (.cells #[.int .i64 t, .slice a7 n c7, .slice (some ⟨g, 0, none⟩) K cap] 64)) M n a7 names g K T2 := hres.kp (Kp.below ((Below.refl _ _).alloc (Nat.le_refl _) _))
        have HBA := hide hbA
        have HF7 := hide hf7
        have HRA := hide hra
        clear hbA hf7 hra hres hsn hb6 hb hown hmi hV
        go_wp2_with fail
        generalize w6.alloc (.cells #[.int .i64 t, .slice a7 n c7, .slice (some ⟨g, 0, none⟩) K cap] 64) = wA at *
        generalize w6.heap.size = b7 at *
        have x1 := HF7.cell (i := 1) (by omega)
        have x2 := HF7.cell (i := 2) (by omega)
        simp only [snapF] at x1 x2
        go_loopw [8] (fun i wr => ∃ k1 q : Nat, 1 ≤ k1 ∧ i = .int .i64 k1 ∧ k1 ≤ n + 1 ∧ wr = wA.drewN q) (fun i _ => n + 1 - (intOf i).toNat)
        case atStart => exact ⟨1, 0, Nat.le_refl _, rfl, by omega, rfl⟩
        case round =>
          obtain ⟨k1, q, hk1, rfl, hk1n, rfl⟩ := hrel
          by_cases hlt1 : k1 < n
          · obtain ⟨m1, hm1⟩ : ∃ m1, k1 = m1 + 1 := ⟨k1 - 1, by omega⟩
            have hnl : names.length = n := HRA.len
            obtain ⟨bn, on, en, hc1⟩ := HRA.row.2 k1 (by omega)
            subst en
            obtain ⟨bn', on', en, hc0⟩ := HRA.row.2 m1 (by omega)
            cases en
            have hle : Op.bytesLess (names.getD m1 ByteArray.empty).toList (names.getD k1 ByteArray.empty).toList = true := (less_iff _ _).2 (HRA.asc m1 k1 (by omega) (by omega))
            generalize names.getD m1 ByteArray.empty = s0 at hc0 hle
            generalize names.getD k1 ByteArray.empty = s1 at hc1 hle
            have j0 : (k1 : Int) < (n : Int) := by omega
            have jw : IntKind.i64.wrap ((k1 : Int) - 1) = (m1 : Int) := by
              rw [IntWalk.i64_in _ (by omega)]; omega
            have j1 : (m1 : Int) < (n : Int) := by omega
            have HM1 := hide hm1
            clear hm1
            go_wp2_with fail
            go_quiet (fail)
            go_wp2_with fail
            exact ⟨⟨k1 + 1, _, by omega, rfl, by omega, rfl⟩, by simp only [intOf]; omega⟩
          · have j0 : ¬ (k1 : Int) < (n : Int) := by omega
            go_wp2_with fail
            have HRD : Rd w (wA.drewN q) b7 t M n a7 c7 names g K cap T2 := Rd.drewN ⟨HBA, HF7, HRA⟩ q
            clear HBA HF7 HRA x1 x2
            generalize wA.drewN q = wB at HRD ⊢
            clear j0 hlt1 hk1n hk1
            go_loopw [9] (fun i wr => ∃ k1 : Nat, i = .int .i64 k1 ∧ k1 ≤ n ∧ Rd w wr b7 t M n a7 c7 names g K cap T2) (fun i _ => n - (intOf i).toNat)
            case atStart => exact ⟨0, rfl, Nat.zero_le _, HRD⟩
            case round =>
              clear HRD
              obtain ⟨k3, rfl, hk3, hrd⟩ := hrel
              have HRD := hide hrd
              by_cases hlt3 : k3 < n
              · obtain ⟨⟨bb, off, e, c0, -⟩, hnmk, -⟩ := HR.2.2 k3 hlt3
                subst e
                have hbb : bb < w.heap.size := World.block_lt_of_cell? w _ c0
                have d0 := (hrd.bel.cell (p := ⟨bb, off + k3 * 2, none⟩) hbb).trans c0
                have x1 := hrd.fld.cell (i := 1) (by omega)
                simp only [snapF] at x1
                have hnl : names.length = n := hrd.res.len
                have hrow := hrd.res.row
                have hasc := hrd.res.asc
                obtain ⟨q3, hq3, hx3⟩ := hrd.res.has k3 hlt3
                generalize (M k3).nm = nm at d0 hx3 hnmk
                have HX3 := hide hx3
                have HASC := hide hasc
                have HROW := hide hrow
                have HNL := hide hnl
                have j0 : (k3 : Int) < (n : Int) := by omega
                clear c0 hx3 hasc hrow hrd hnl
                go_wp2_with fail
                go_quiet ((go_at_call 21; refine Calls.quiet_of_same (Calls.mono (findName_n HROW HNL hn HASC q3 hq3 HX3) (fun e w h => ⟨h.1, h.2.symm⟩))))
                go_wp2_with fail
                exact ⟨⟨k3 + 1, rfl, by omega, Rd.drewN HRD _⟩, by simp only [intOf]; omega⟩
              · have j0 : ¬ (k3 : Int) < (n : Int) := by omega
                have x2 := hrd.fld.cell (i := 2) (by omega)
                simp only [snapF] at x2
                clear hrd
                go_wp2_with fail
                have hKle : K ≤ 1099511627776 := HRD.res.le
                go_loopw [11] (fun i wr => ∃ k1 : Nat, 1 ≤ k1 ∧ i = .int .i64 k1 ∧ k1 ≤ K + 1 ∧ Rd w wr b7 t M n a7 c7 names g K cap T2) (fun i _ => K + 1 - (intOf i).toNat)
                case atStart => exact ⟨1, Nat.le_refl _, rfl, by omega, HRD⟩
                case round =>
                  clear HRD x2
                  obtain ⟨k4, hk4, rfl, hk4n, hrd⟩ := hrel
                  have HRD := hide hrd
                  by_cases hlt4 : k4 < K
                  · obtain ⟨m4, hm4⟩ : ∃ m4, k4 = m4 + 1 := ⟨k4 - 1, by omega⟩
                    obtain ⟨⟨b1, o1, e1, hc1⟩, hk1r, hk1l⟩ := hrd.res.trow.2 k4 (by omega)
                    cases e1
                    obtain ⟨⟨b0, o0, e0, hc0⟩, hk0r, hk0l⟩ := hrd.res.trow.2 m4 (by omega)
                    cases e0
                    have hlt := hrd.res.strict m4 k4 (by omega) (by omega)
                    rw [Nat.zero_add] at hc0 hc1
                    unfold Tup.val at hc0 hc1
                    have j0 : (k4 : Int) < (K : Int) := by omega
                    have jw : IntKind.i64.wrap ((k4 : Int) - 1) = (m4 : Int) := by
                      rw [IntWalk.i64_in _ (by omega)]; omega
                    have j1 : (m4 : Int) < (K : Int) := by omega
                    have HM4 := hide hm4
                    have HLT := hide hlt
                    have HK0 := hide hk0r
                    have HK1 := hide hk1r
                    clear hm4 hrd hlt hk0r hk1r
                    go_wp2_with fail
                    go_quiet ((go_at_call 22; refine Calls.quiet_of (cmpF_lt HK0 HK1 hk0l hk1l HLT)))
                    go_wp2_with fail
                    exact ⟨⟨k4 + 1, by omega, rfl, by omega, Rd.drewN HRD _⟩, by simp only [intOf]; omega⟩
                  · have j0 : ¬ (k4 : Int) < (K : Int) := by omega
                    have hmk := run_make_row' (P := Try.prog) 34 4 (.bool false) 1 Try.underlying34 info4 rfl .i64 .i64 K (by omega) (by omega) wr
                    have HRS : Rd w (wr.alloc (.cells (madeCells #[.bool false] K) 4)) b7 t M n a7 c7 names g K cap T2 := hrd.alloc _
                    have HSE : (wr.alloc (.cells (madeCells #[.bool false] K) 4)).rowIs wr.heap.size 4 K (fun j => .bool ((fun _ => false) j)) := World.rowIs_made wr (.bool false) K 4
                    have hsb : w.heap.size ≤ wr.heap.size := hrd.bel.size
                    have hb7 : b7 < wr.heap.size := hrd.fld.lt
                    generalize hwS : wr.alloc (.cells (madeCells #[.bool false] K) 4) = wS at hmk HRS HSE
                    generalize hsbe : wr.heap.size = sb at *
                    have HRS' := hide HRS
                    have HSE' := hide HSE
                    clear hrd HRD HRS HSE
                    go_wp2_with fail
                    go_loopw [13] (fun i wr => ∃ (k5 : Nat) (f : Nat → Bool), i = .int .i64 k5 ∧ k5 ≤ n ∧ Rd w wr b7 t M n a7 c7 names g K cap T2 ∧ wr.rowIs sb 4 K (fun j => .bool (f j)) ∧ Seen M T2 K f k5 0) (fun i _ => n - (intOf i).toNat)
                    case atStart => exact ⟨0, fun _ => false, rfl, Nat.zero_le _, HRS', HSE', seen_start _ _ _ _⟩
                    case round =>
                      clear HRS' HSE' hmk j0
                      obtain ⟨k5, f, rfl, hk5, hrd, hse, hsn⟩ := hrel
                      have HRD := hide hrd
                      have HSE := hide hse
                      have HSN := hide hsn
                      by_cases hlt5 : k5 < n
                      · obtain ⟨⟨bb, off, e, c0, c1⟩, hnmk, htk⟩ := HR.2.2 k5 hlt5
                        subst e
                        have hbb : bb < w.heap.size := World.block_lt_of_cell? w _ c0
                        have d1 := (hrd.bel.cell (p := ⟨bb, off + k5 * 2 + 1, none⟩) hbb).trans c1
                        have hgk := HGM k5 hlt5
                        have htr : TRow w (M k5).a (M k5).n (M k5).T := trow_of htk hgk.2.2
                        have htn := hgk.2.1
                        have hsup := hrd.res.sup k5 hlt5
                        have j5 : (k5 : Int) < (n : Int) := by omega
                        have HTR := hide htr
                        have HSUP := hide hsup
                        clear c0 c1 hrd hse hsn htr hsup hgk htk
                        go_wp2_with fail
                        go_loopw [15] (fun i wr => ∃ (u : Nat) (f : Nat → Bool), i = .int .i64 u ∧ u ≤ (M k5).n ∧ Rd w wr b7 t M n a7 c7 names g K cap T2 ∧ wr.rowIs sb 4 K (fun j => .bool (f j)) ∧ Seen M T2 K f k5 u) (fun i _ => (M k5).n - (intOf i).toNat)
                        case atStart => exact ⟨0, f, rfl, Nat.zero_le _, HRD, HSE, HSN⟩
                        case round =>
                          clear HRD HSE HSN d1
                          obtain ⟨u, f, rfl, hu, hrd, hse, hsn⟩ := hrel
                          have HRD := hide hrd
                          have HSE := hide hse
                          have HSN := hide hsn
                          by_cases hltu : u < (M k5).n
                          · obtain ⟨q, hq, hx⟩ := HSUP u hltu
                            obtain ⟨⟨b1, o1, e1, hc1⟩, hk1r, hk1l⟩ := HTR.2 u hltu
                            have hb1 : b1 < w.heap.size := World.block_lt_of_cell? w _ hc1
                            have d2 := (hrd.bel.cell (p := ⟨b1, o1 + u, none⟩) hb1).trans hc1
                            have hrow := hk1r.bel hrd.bel
                            have htrow := hrd.res.trow
                            have hstr := hrd.res.strict
                            have s0 := hse.cell (i := q) hq
                            have s1 := hse.frozen q
                            unfold Tup.val at d2
                            generalize hMk : M k5 = mk at *
                            obtain ⟨mn, ma, mm, mc, mT⟩ := mk
                            dsimp only at *
                            subst e1
                            have ju : (u : Int) < (mm : Int) := by omega
                            have jq : (q : Int) < (K : Int) := by omega
                            have HX := hide hx
                            have HROW := hide hrow
                            have HTROW := hide htrow
                            have HSTR := hide hstr
                            have HNEW := hide (Seen.one HSN hstr hq (by rw [hMk]; exact hx))
                            clear hx hrow htrow hstr hrd hse hsn hc1 hk1r
                            go_wp2_with fail
                            go_at_call 23
                            refine (findTuple_yes (some ⟨g, 0, none⟩) K cap T2 _ _ _ wr HTROW hKle HROW hk1l HSTR q hq HX).mono ?_
                            rintro e w5 ⟨rfl, nq, rfl⟩
                            go_wp2_with fail
                            refine ⟨⟨u + 1, fun j => if j = q then true else f j, rfl, by omega, Rd.set (Rd.drewN HRD nq) s0 hsb (by omega) _, World.rowIs.congr (World.rowIs.set (w := wr.drewN nq) HSE q (.bool true)) (fun j hj => ?_), HNEW⟩, ?_⟩
                            · show (if j = q then Value.bool true else Value.bool (f j)) = Value.bool (if j = q then true else f j)
                              split <;> rfl
                            · simp only [intOf]; omega
                          · have hun : u = (M k5).n := by omega
                            subst hun
                            have ju : ¬ ((M k5).n : Int) < ((M k5).n : Int) := by omega
                            have HNX := hide (Seen.next hsn)
                            clear hrd hse hsn
                            go_wp2_with fail
                            exact ⟨⟨k5 + 1, f, rfl, by omega, HRD, HSE, HNX⟩, by simp only [intOf]; omega⟩
                      · have hkn : n = k5 := by omega
                        subst hkn
                        have hall := Seen.all hsn hrd.res.sub
                        have hbel := hrd.bel
                        have HALL := hide hall
                        have HBEL := hide hbel
                        clear hrd hse hsn hall hbel
                        go_wp2_with fail
                        go_loopw [17] (fun i wr' => ∃ k7 : Nat, i = .int .i64 k7 ∧ k7 ≤ K ∧ wr' = wr) (fun i _ => K - (intOf i).toNat)
                        case atStart => exact ⟨0, rfl, Nat.zero_le _, rfl⟩
                        case round =>
                          obtain ⟨k7, rfl, hk7, rfl⟩ := hrel
                          by_cases hlt7 : k7 < K
                          · have s0 := World.rowIs.cell HSE hlt7
                            rw [HALL k7 hlt7] at s0
                            have j7 : (k7 : Int) < (K : Int) := by omega
                            go_wp2_with fail
                            exact ⟨⟨k7 + 1, rfl, by omega, trivial⟩, by simp only [intOf]; omega⟩
                          · have j7 : ¬ (k7 : Int) < (K : Int) := by omega
                            go_wp2_with fail
                            go_ret
                            exact ⟨rfl, HBEL⟩
      · have hfi : ((Maps.size D : Int) != (n : Int)) = true := by rw [bne_iff_ne]; omega
        go_wp2_with (first | (at_len; refine wpList_len_own _ rfl _ 56 rfl 9 57 Try.underlying56 _ w.heap.size n D rfl hown ?_) | fail)
        go_ret
        exact ⟨rfl, hb⟩
end Go.Proofs.Qxb6608660a
