/-
  A LAW ON REGIONS THAT DRAW THEIR ORDER: a load may be taken first although a LATER operation of the region writes its cell, where that later operation waits for an operation T that itself waits for the load:
  'S1' is shown anew behind every operation, 'S2' (the cell that is written in the end) only while T has not come up. (The kit's OrdersHeld asks one condition behind every operation.)
-/
import Derived.OrdersHeld
import Derived.Deep.RegionHeld3
namespace Go.Proofs.Qxb6615484a
open Go

section
variable {P : Program} {ops : Array Oper} {Q : Exit → Act → World → Prop} {md : Region.Mode} {S1 S2 : World → Prop} {T : Nat}

/-- What is asked behind an operation: S1; and S2 while T has not come up. -/
def Ask (S1 S2 : World → Prop) (T : Nat) (listed : Array Bool) (w : World) : Prop := S1 w ∧ (listed.getD T true = false → S2 w)

/-- Whatever order is picked from here on, what is asked holds behind every operation. -/
def anyT (P : Program) (md : Region.Mode) (ops : Array Oper) (Q : Exit → Act → World → Prop) (S1 S2 : World → Prop) (T : Nat) : Nat → Array Bool → Act → World → Prop
  | 0, listed, a, w => Region.ready md ops listed = [] ∧ Q .normal a w
  | fuel + 1, listed, a, w =>
    (Region.ready md ops listed = [] → Q .normal a w) ∧
    ∀ i ∈ Region.ready md ops listed, wpOp P ops Q i (fun a' w' => Ask S1 S2 T (listed.setIfInBounds i true) w' ∧ anyT P md ops Q S1 S2 T fuel (listed.setIfInBounds i true) a' w') a w

theorem any_of_T : ∀ (fuel : Nat) (listed : Array Bool) (a : Act) (w : World), anyT P md ops Q S1 S2 T fuel listed a w → wpAny P md ops Q fuel listed a w
  | 0, _, _, _, h => h
  | fuel + 1, _, _, _, h => ⟨h.1, fun i hi => wpOp_mono (fun a' w' h' => any_of_T fuel _ a' w' h'.2) (h.2 i hi)⟩

theorem ask_set {i : Nat} (hne : i ≠ T) (L : Array Bool) (w : World) : Ask S1 S2 T (L.setIfInBounds i true) w ↔ Ask S1 S2 T L w := by
  unfold Ask
  rw [getD_set_ne true hne]

/-- The taking, in general. 'Good': what is known of the list while i has not come up. -/
theorem anyT_first {i : Nat} {oi : Oper} {v : Value} {S0 : World → Prop} {Good : Array Bool → Prop} (hi : ops[i]? = some oi) (hsel : ∀ (j : Nat) (o : Oper) cs b, ops[j]? = some o → o.op ≠ .select cs b)
    (hQ : ∀ c a w, Q (.panic c) (a.put oi.dst v) w → Q (.panic c) a w) (hne : i ≠ T)
    (hgood : ∀ L j, Good L → L.getD i true = false → j ∈ Region.ready md ops L → j ≠ i → Good (L.setIfInBounds j true))
    (hS0 : ∀ L w, Good L → Ask S1 S2 T L w → S0 w) :
    ∀ (fuel : Nat) (listed : Array Bool) (a : Act) (w : World), Good listed →
      (∀ j oj, ops[j]? = some oj → j ≠ i → listed.getD j true = false → (∀ e ∈ oj.after, Region.binds md e = true → e.on ≠ i) → oi.apart ops oj = true) →
      i ∈ Region.ready md ops listed → YieldsIf P ops S0 oi v a → Ask S1 S2 T listed w →
      anyT P md ops Q S1 S2 T fuel (listed.setIfInBounds i true) (a.put oi.dst v) w → anyT P md ops Q S1 S2 T (fuel + 1) listed a w := by
  intro fuel
  induction fuel with
  | zero =>
    intro listed a w hg _ hr hy hS H
    refine ⟨fun h => (by rw [h] at hr; cases hr), fun j hj => ?_⟩
    by_cases hji : j = i
    · subst hji; exact hy.wpOp hi (hS0 _ _ hg hS) ⟨(ask_set hne _ _).2 hS, H⟩
    · have := ready_mono hj hji
      rw [H.1] at this
      cases this
  | succ fuel ih =>
    intro listed a w hg hfree hr hy hS H
    refine ⟨fun h => (by rw [h] at hr; cases hr), fun j hj => ?_⟩
    by_cases hji : j = i
    · subst hji; exact hy.wpOp hi (hS0 _ _ hg hS) ⟨(ask_set hne _ _).2 hS, H⟩
    · have h1 := H.2 j (ready_mono hj hji)
      obtain ⟨hjun, oj, hoj, hall⟩ := mem_ready.1 hj
      have h0 := (mem_ready.1 hr).1
      have hnot : ∀ e ∈ oj.after, Region.binds md e = true → e.on ≠ i := fun e he hb heq => by
        have h1 := hall e he hb
        rw [heq] at h1
        rcases Nat.lt_or_ge i listed.size with h' | h'
        · simp [h'] at h0 h1; rw [h0] at h1; cases h1
        · simp [Array.getElem?_eq_none h'] at h1
      have h2 := wpOp_putIf hoj (hfree j oj hoj hji hjun hnot) (fun cs b => hsel i oi cs b hi) (fun cs b => hsel j oj cs b hoj) hQ hy h1
      have hg' := hgood listed j hg h0 hj hji
      have hfree' : ∀ k ok, ops[k]? = some ok → k ≠ i → (listed.setIfInBounds j true).getD k true = false →
          (∀ e ∈ ok.after, Region.binds md e = true → e.on ≠ i) → oi.apart ops ok = true := fun k ok hk hki hun hno => by
        refine hfree k ok hk hki ?_ hno
        by_cases hjk : j = k
        · subst hjk; exact hjun
        · rw [getD_set_ne true hjk] at hun; exact hun
      refine wpOp_mono (fun a' w' h3 => ?_) h2
      have hA : Ask S1 S2 T (listed.setIfInBounds j true) w' := by
        have h4 := h3.2.1
        rw [Array.setIfInBounds_comm _ _ (Ne.symm hji)] at h4
        exact (ask_set hne _ _).1 h4
      refine ⟨hA, ih (listed.setIfInBounds j true) a' w' hg' hfree' (ready_mono hr (Ne.symm hji)) h3.1 hA ?_⟩
      rw [Array.setIfInBounds_comm _ _ hji]
      exact h3.2.2

/-- Take number i first: it yields in every world that meets S1. -/
theorem anyT_take {i : Nat} {oi : Oper} {v : Value} {fuel : Nat} {listed : Array Bool} {a : Act} {w : World} (hi : ops[i]? = some oi)
    (hs : Region.noSelect ops = true) (hf : Region.free md ops listed i = true) (hr : (Region.ready md ops listed).contains i = true) (hne : (i == T) = false)
    (hQ : ∀ c a w, Q (.panic c) (a.put oi.dst v) w → Q (.panic c) a w) (hS : Ask S1 S2 T listed w) (hy : YieldsIf P ops S1 oi v a)
    (h : anyT P md ops Q S1 S2 T fuel (listed.setIfInBounds i true) (a.put oi.dst v) w) : anyT P md ops Q S1 S2 T (fuel + 1) listed a w :=
  anyT_first (Good := fun _ => True) hi (Region.noSelect_spec hs) hQ (by simpa using hne) (fun _ _ _ _ _ _ => trivial) (fun _ _ _ h => h.1) fuel listed a w trivial (Region.free_spec hi hf) (by simpa using hr) hy hS h

/-- Take number i first: it yields in every world that meets S1 and S2, and T waits for it. -/
theorem anyT_take2 {i : Nat} {oi : Oper} {v : Value} {fuel : Nat} {listed : Array Bool} {a : Act} {w : World} (hi : ops[i]? = some oi)
    (hs : Region.noSelect ops = true) (hf : Region.free md ops listed i = true) (hr : (Region.ready md ops listed).contains i = true) (hne : (i == T) = false)
    (hT : ((ops[T]?).map fun o => o.after.any fun e => Region.binds md e && e.on == i).getD false = true) (hun : listed.getD T true = false)
    (hQ : ∀ c a w, Q (.panic c) (a.put oi.dst v) w → Q (.panic c) a w) (hS : Ask S1 S2 T listed w) (hy : YieldsIf P ops (fun w => S1 w ∧ S2 w) oi v a)
    (h : anyT P md ops Q S1 S2 T fuel (listed.setIfInBounds i true) (a.put oi.dst v) w) : anyT P md ops Q S1 S2 T (fuel + 1) listed a w := by
  refine anyT_first (Good := fun L => L.getD T true = false) hi (Region.noSelect_spec hs) hQ (by simpa using hne) ?_ (fun L w hg h => ⟨h.1, h.2 hg⟩) fuel listed a w hun (Region.free_spec hi hf) (by simpa using hr) hy hS h
  intro L j hg hiun hj hji
  have hjT : j ≠ T := by
    intro e
    subst e
    obtain ⟨_, oj, hoj, hall⟩ := mem_ready.1 hj
    rw [hoj] at hT
    simp only [Option.map_some, Option.getD_some, Array.any_eq_true, Bool.and_eq_true, beq_iff_eq] at hT
    obtain ⟨x, hx, hb, hon⟩ := hT
    have h1 := hall _ (Array.getElem_mem hx) hb
    rw [hon] at h1
    rcases Nat.lt_or_ge i L.size with h' | h'
    · simp [h'] at hiun h1; rw [hiun] at h1; cases h1
    · simp [Array.getElem?_eq_none h'] at h1
  show (L.setIfInBounds j true).getD T true = false
  rw [getD_set_ne true hjT]
  exact hg

/-- The two, the slot that is written given as a number. -/
theorem anyT_take' {i : Nat} {d : Nat} {oi : Oper} {v : Value} {fuel : Nat} {listed : Array Bool} {a : Act} {w : World} (hi : ops[i]? = some oi) (hd : oi.dst = some d)
    (hs : Region.noSelect ops = true) (hf : Region.free md ops listed i = true) (hr : (Region.ready md ops listed).contains i = true) (hne : (i == T) = false)
    (hQ : ∀ c a w, Q (.panic c) (a.put (some d) v) w → Q (.panic c) a w) (hS : Ask S1 S2 T listed w) (hw : Region.wanted oi (yielded ops a.tmps) = true) (hy : ∀ w, S1 w → (execOp a.eval oi).run P w = .ok (.value v) w)
    (h : anyT P md ops Q S1 S2 T fuel (listed.setIfInBounds i true) (a.put (some d) v) w) : anyT P md ops Q S1 S2 T (fuel + 1) listed a w :=
  anyT_take hi hs hf hr hne (by rw [hd]; exact hQ) hS (Or.inl ⟨hw, hy⟩) (by rw [hd]; exact h)
theorem anyT_take2' {i : Nat} {d : Nat} {oi : Oper} {v : Value} {fuel : Nat} {listed : Array Bool} {a : Act} {w : World} (hi : ops[i]? = some oi) (hd : oi.dst = some d)
    (hs : Region.noSelect ops = true) (hf : Region.free md ops listed i = true) (hr : (Region.ready md ops listed).contains i = true) (hne : (i == T) = false)
    (hT : ((ops[T]?).map fun o => o.after.any fun e => Region.binds md e && e.on == i).getD false = true) (hun : listed.getD T true = false)
    (hQ : ∀ c a w, Q (.panic c) (a.put (some d) v) w → Q (.panic c) a w) (hS : Ask S1 S2 T listed w) (hw : Region.wanted oi (yielded ops a.tmps) = true) (hy : ∀ w, S1 w → S2 w → (execOp a.eval oi).run P w = .ok (.value v) w)
    (h : anyT P md ops Q S1 S2 T fuel (listed.setIfInBounds i true) (a.put (some d) v) w) : anyT P md ops Q S1 S2 T (fuel + 1) listed a w :=
  anyT_take2 hi hs hf hr hne hT hun (by rw [hd]; exact hQ) hS (Or.inl ⟨hw, fun w h => hy w h.1 h.2⟩) (by rw [hd]; exact h)

/-- One alone may come up. -/
theorem anyT_one {i : Nat} {o : Oper} {fuel : Nat} {listed : Array Bool} {a : Act} {w : World} (hr : Region.ready md ops listed = [i]) (ho : ops[i]? = some o)
    (h : ∀ K' : Act → World → Prop, Shut (∀ a w, Ask S1 S2 T (listed.setIfInBounds i true) w → anyT P md ops Q S1 S2 T fuel (listed.setIfInBounds i true) a w → K' a w) → if Region.wanted o (yielded ops a.tmps) = true then Oper.wp P o a w K' Q else K' (a.put o.dst undef) w) :
    anyT P md ops Q S1 S2 T (fuel + 1) listed a w := by
  refine ⟨fun h0 => (by rw [hr] at h0; cases h0), fun j hj => ?_⟩
  rw [hr] at hj
  obtain rfl : j = i := by simpa using hj
  exact wpOp_step ho (fun K' hK => h K' (fun a w hS hW => hK a w ⟨hS, hW⟩))

theorem anyT_done {listed : Array Bool} {a : Act} {w : World} (hr : Region.ready md ops listed = []) (h : Q .normal a w) :
    ∀ fuel, anyT P md ops Q S1 S2 T fuel listed a w
  | 0 => ⟨hr, h⟩
  | _ + 1 => ⟨fun _ => h, by rw [hr]; simp⟩

theorem region_T {id : Nat} {a : Act} {w : World} (hm : P.follows .mixedOrders = true)
    (h : anyT P .any ops Q S1 S2 T ops.size (Array.replicate ops.size false) a w.drew) : (Code.region id ops true).wp P Q a w :=
  wp_region_any hm (any_of_T _ _ _ _ h)
end
end Go.Proofs.Qxb6615484a
