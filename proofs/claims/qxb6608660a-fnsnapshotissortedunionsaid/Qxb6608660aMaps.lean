import Derived.Test.Qxb6608660aSortT
import Derived.Test.Qxb6608660aIter
import Derived.Maps.RangeWalk
import Derived.Maps.OwnSet
import Derived.Deep.AppendLies
import Derived.Deep.AppendSrc
namespace Go.Proofs.Qxb6608660a
open Go.RowKit Go.Maps
set_option linter.unusedVariables false

/-- A member's state as the map holds it. -/
structure St where
  a : Option Addr
  n : Nat
  c : Nat
  T : Nat → Tup
def St.val (s : St) : Value := .slice s.a s.n s.c
def St.ok (w : World) (s : St) : Prop := TRow w s.a s.n s.T ∧ s.n ≤ 1048576
/-- The map's elements stand for themselves: slices that are not too long. -/
def sElem (v : Value) : Option (DataW Value × List MemPlace) :=
  match v with
  | .slice _ n _ => if n ≤ 1048576 then some (.held v, []) else none
  | _ => none
theorem sElem_mk {a : Option Addr} {n c : Nat} (h : n ≤ 1048576) : sElem (.slice a n c) = some (.held (.slice a n c), []) := by
  unfold sElem; exact if_pos h
theorem sElem_inv {v : Value} {y : DataW Value × List MemPlace} (h : sElem v = some y) : ∃ x : Option Addr × Nat × Nat, v = .slice x.1 x.2.1 x.2.2 ∧ x.2.1 ≤ 1048576 ∧ y = (.held v, []) := by
  unfold sElem at h
  split at h
  · rename_i a n c
    split at h
    · rename_i hn
      cases h; exact ⟨(a, n, c), rfl, hn, rfl⟩
    · cases h
  · cases h
theorem law : Maps.Keyed Try.prog 9 := Maps.string_keyed Try.underlying9
theorem zero57 (w : World) : (zeroValue 57).run Try.prog w = .ok (.slice none 0 0) w := by kernel_rfl

theorem ownsMap_bel {w w' : World} {B b n : Nat} {D : DataW Value} {R : Value → Option (DataW Value × List MemPlace)} (h : w.ownsMap Try.prog 9 R b n D) (hb : Below B w w') (hB : b < B) : w'.ownsMap Try.prog 9 R b n D := by
  obtain ⟨es, clock, h1, h2, h3, h4⟩ := h
  exact ⟨es, clock, (hb.block b hB).trans h1, h2, h3, h4⟩

theorem keys_facts {w : World} {b n : Nat} {D : DataW Value} {R : Value → Option (DataW Value × List MemPlace)} (hown : w.ownsMap Try.prog 9 R b n D) :
    (strKeys D).Nodup ∧ (∀ x, x ∈ strKeys D ↔ has D (.string x) = true) ∧ (strKeys D).length = Maps.size D := by
  obtain ⟨es, hD, hp, _⟩ := hown.entries law
  obtain ⟨es', hD', hko⟩ := hown.keysOf
  obtain rfl : es = es' := by rw [hD] at hD'; simpa using hD'
  subst hD
  have hk : ∀ p ∈ es, ∃ x, p.1 = Lit.string x := fun p hp => by
    obtain ⟨v, hv⟩ := hko p hp; obtain ⟨x, _, hx, _⟩ := Maps.keyOf_str Try.underlying9 hv; exact ⟨x, hx⟩
  refine ⟨?_, fun x => ?_, ?_⟩
  · show (es.map fun p => strOf p.1).Nodup
    refine List.pairwise_map.2 (hp.imp_of_mem fun {p q} hp' hq' hne e => hne ?_)
    obtain ⟨a, ha⟩ := hk p hp'
    obtain ⟨b, hb⟩ := hk q hq'
    rw [ha, hb] at e ⊢
    exact congrArg _ e
  · rw [has_eq, List.any_eq_true]
    show x ∈ es.map (fun p => strOf p.1) ↔ _
    rw [List.mem_map]
    constructor
    · rintro ⟨p, hp', rfl⟩
      obtain ⟨a, ha⟩ := hk p hp'
      exact ⟨p, hp', by rw [ha]; simp [Lit.sameKey, strOf]⟩
    · rintro ⟨p, hp', hs⟩
      obtain ⟨a, ha⟩ := hk p hp'
      rw [ha] at hs
      exact ⟨p, hp', by rw [ha]; simpa [Lit.sameKey, strOf] using hs⟩
  · simp [strKeys, Maps.size]

theorem look {w : World} {b n : Nat} {D : DataW Value} (hown : w.ownsMap Try.prog 9 sElem b n D) (s : ByteArray) (hs : s.size ≤ maxLen) (v : Value) (h : ∀ z, D.atKey (.string s.data.toList) z = .held v) :
    (Instr.lookup 56 (.map (some b)) (.string s) false).run Try.prog w = .ok v w := by
  obtain ⟨v', ps, hrun, hv⟩ := hown.lookup law Try.underlying56 (zero57 w) (sElem_mk (Nat.zero_le _)) (Go.WideMaps.keyOf_string_mk Try.underlying9 hs)
  rw [h] at hv
  obtain ⟨x, e1, _, e2⟩ := sElem_inv hv
  simp only [Prod.mk.injEq, DataW.held.injEq] at e2
  rw [← e2.1] at hrun
  exact hrun

theorem tinfo68 : ∃ i, Try.prog.info? 68 = some i ∧ i.zero = some (.slice none 0 0) ∧ i.size = 1 ∧ i.bytes = 24 := by
  have h := info68
  cases e : Try.prog.info? 68 with
  | none => rw [e] at h; cases h
  | some i => rw [e] at h; simp only [Option.map_some, Option.some.injEq, Prod.mk.injEq] at h; exact ⟨i, rfl, h⟩

/-- 'append(row, state...)'. -/
theorem append_any {w : World} {base g n cap : Nat} {L : List Tup} (hown : w.ownsRow base 68 1 (.slice (some ⟨g, 0, none⟩) n cap) n (L.map Tup.val)) (s : St) (hs : s.ok w) (hm : n + s.n ≤ 1099511627776) (hbase : base ≤ w.heap.size) (ty : TypeId) :
    ∃ g' cap' w', (Builtin.append_ #[57, 57] ty #[.slice (some ⟨g, 0, none⟩) n cap, .slice s.a s.n s.c]).run Try.prog w = .ok (.slice (some ⟨g', 0, none⟩) (n + s.n) cap') w' ∧
      w'.ownsRow base 68 1 (.slice (some ⟨g', 0, none⟩) (n + s.n) cap') (n + s.n) ((L ++ (List.range s.n).map s.T).map Tup.val) ∧ w.grownBy w' (some g) := by
  obtain ⟨a, m, c, T⟩ := s
  obtain ⟨⟨h0, hr⟩, hn⟩ := hs
  obtain ⟨i, hi, hz, hsz, hby⟩ := tinfo68
  dsimp only at *
  cases a with
  | none =>
    have : m = 0 := h0 rfl
    subst this
    have hr := run_append_room_src (P := Try.prog) w 57 57 ty 68 i Try.underlying57 hi g 0 n cap _ 0 [] (Src.ofNil w Try.underlying57 c) (by
      rcases hown.2 with ⟨h, _⟩ | ⟨g', cap', cur, hv, _, _, hnc, _⟩
      · cases h
      · cases hv; exact hnc) (fun j hj => absurd hj (by simp)) (fun j hj => absurd hj (by simp))
    exact ⟨g, cap, w, hr, by simpa using hown, World.grownBy.refl _ _⟩
  | some a =>
    have hcell : ∀ j u, ((List.range m).map fun i => (T i).val)[j]? = some u → w.cell? (a.add j) = some u := by
      intro j u hu
      rw [List.getElem?_map] at hu
      cases hj : (List.range m)[j]? with
      | none => rw [hj] at hu; cases hu
      | some k =>
        rw [hj] at hu
        obtain ⟨hlt, e⟩ := List.getElem?_eq_some_iff.1 hj
        rw [List.getElem_range] at e
        subst e
        simp only [Option.map_some, Option.some.injEq] at hu
        subst hu
        obtain ⟨⟨b, off, e, hc⟩, _⟩ := hr j (by simpa using hlt)
        cases e
        rw [Addr.add_lit]
        exact hc
    obtain ⟨v', w', hrun, ho, hg, hnil⟩ := run_append_own (P := Try.prog) w base 57 ty 68 i _ 1 24 Try.underlying57 hi hz hsz hby rfl (by omega) _ n _ hown a m c ((List.range m).map fun i => (T i).val) (by simp) hcell
      (fun u hu => by obtain ⟨k, _, rfl⟩ := List.mem_map.1 hu; rfl) (by unfold maxLen; omega) (by omega) hbase
    rcases ho.2 with ⟨h, _⟩ | ⟨g', cap', cur, hv, _⟩
    · exact absurd (hnil.1 h).1 (by simp)
    · subst hv
      refine ⟨g', cap', w', hrun, ?_, hg⟩
      rw [List.map_append, List.map_map]
      exact ho
end Go.Proofs.Qxb6608660a
