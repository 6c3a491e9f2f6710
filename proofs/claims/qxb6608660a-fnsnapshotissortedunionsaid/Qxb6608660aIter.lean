/-
  THE CONTRACTS on slices.Sorted and maps.Keys at this dump (made by the kit's lay-iter.mjs; its three layings in plain words lie in Qxb6608660aShelf).
-/
import Derived.Test.Qxb6608660aShelf
namespace Go.Proofs
open Go.RowKit Go.Maps Go.Sort Go.Shelf

theorem Try.sorts36 (m : Nat) : AnyZ.SortsIn Try.prog Try.sorted36_ren Fence.wide m :=
  ⟨fun blk off cap ss W hH hblk hsz => callsIn_wide.2 (AnyM.slices_Sort_string Try.sort40 blk off cap ss W hH hblk hsz),
   fun p cap W => callsIn_wide.2 (AnyM.slices_Sort_string_none Try.sort40 p cap W)⟩

theorem Try.maps_Keys_37 (mb : Option Nat) (W : World) : CallsIn Fence.wide 5 Try.prog 37 #[.map mb] W fun e w' => e = .returned (.func (.func 41) #[] #[.pointer (some ⟨W.heap.size, 0, none⟩)]) ∧ w' = W.alloc (.cells #[.map mb] 56) :=
  AnyZ.keys_in Try.keys37 Fence.wide 5 trivial rfl mb W

set_option maxHeartbeats 1000000 in
theorem Try.slices_Sorted_keys_36_37 {H : Type} (b nn : Nat) (D0 : DataW H) (R : Value → Option (DataW H × List MemPlace)) (w : World) (hown : w.ownsMap Try.prog 9 R b nn D0) (hmax : Maps.size D0 ≤ maxLen) (hbytes : Maps.size D0 * 16 ≤ 140737488355328) :
    CallsIn Fence.wide 5 Try.prog 36 #[.func (.func 41) #[] #[.pointer (some ⟨w.heap.size, 0, none⟩)]] (w.alloc (.cells #[.map (some b)] 56)) fun e w' => ∃ (v : Value) (ss : List (List UInt8)), e = .returned v ∧ ss.Perm (strKeys D0) ∧
      w'.ownsRow (w.alloc (.cells #[.map (some b)] 56)).heap.size 9 1 v ss.length ((ss.mergeSort (fun x y => decide (x ≤ y))).map encStr) ∧ (v = .slice none 0 0 ↔ ss = []) ∧ Below (w.alloc (.cells #[.map (some b)] 56)).heap.size (w.alloc (.cells #[.map (some b)] 56)) w' := by
  have hbl := hown.lt
  have hseq : SeqGives Fence.wide 2 Try.prog 41 #[.pointer (some ⟨w.heap.size, 0, none⟩)] encStr (fun ss => ss.Perm (strKeys D0)) (Maps.size D0) (w.alloc (.cells #[.map (some b)] 56)) :=
    AnyZ.keys_gives (ρ := Try.keys37_ren) { Try.keys37 with } Fence.wide _ trivial rfl (by omega) w.heap.size b nn D0 _ (by simp) (by simp) (by
      obtain ⟨es, clock, hb, Ft, hs, hD⟩ := hown
      exact ⟨es, clock, (Below.heap_alloc _ _ b hbl).trans hb, Ft, hs, hD⟩)
  exact AnyZ.sorted_in Try.sorted36 Fence.wide 5 trivial trivial trivial trivial rfl (by omega) (Try.sorts36 _) (enters_of Try.func40 (by kernel_rfl) rfl) 41 #[.pointer (some ⟨w.heap.size, 0, none⟩)] trivial (enters_of Try.func41 (by kernel_rfl) rfl) _ _ hmax hbytes _ hseq

set_option maxHeartbeats 1000000 in
theorem Try.slices_Sorted_keys_nil_36_37 (w : World) :
    CallsIn Fence.wide 5 Try.prog 36 #[.func (.func 41) #[] #[.pointer (some ⟨w.heap.size, 0, none⟩)]] (w.alloc (.cells #[.map none] 56)) fun e w' => ∃ (v : Value) (ss : List (List UInt8)), e = .returned v ∧ ss = [] ∧
      w'.ownsRow (w.alloc (.cells #[.map none] 56)).heap.size 9 1 v ss.length ((ss.mergeSort (fun x y => decide (x ≤ y))).map encStr) ∧ (v = .slice none 0 0 ↔ ss = []) ∧ Below (w.alloc (.cells #[.map none] 56)).heap.size (w.alloc (.cells #[.map none] 56)) w' := by
  have hseq : SeqGives Fence.wide 2 Try.prog 41 #[.pointer (some ⟨w.heap.size, 0, none⟩)] encStr (fun ss : List (List UInt8) => ss = []) 0 (w.alloc (.cells #[.map none] 56)) :=
    AnyZ.keys_gives_nil (ρ := Try.keys37_ren) { Try.keys37 with } Fence.wide _ trivial rfl w.heap.size _ (by simp) (by simp)
  exact AnyZ.sorted_in Try.sorted36 Fence.wide 5 trivial trivial trivial trivial rfl (by omega) (Try.sorts36 _) (enters_of Try.func40 (by kernel_rfl) rfl) 41 #[.pointer (some ⟨w.heap.size, 0, none⟩)] trivial (enters_of Try.func41 (by kernel_rfl) rfl) _ 0 (Nat.zero_le _) (by omega) _ hseq

end Go.Proofs
