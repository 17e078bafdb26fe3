/-
  'slices.Sorted(maps.Keys(m))' AT THIS DUMP: the contracts off the shelf, as the shelf's own program lays them.
-/
import Derived.Test.YbulkeekaGreatFmtIterL
namespace Go.Proofs
open Go.RowKit Go.Maps Go.Sort Go.Shelf

/-- slices.Sort's two contracts at this dump, at the fence that asks nothing. -/
theorem Ybaz.sorts9 (m : Nat) : AnyZ.SortsIn Ybaz.prog Ybaz.sorted9_ren Fence.wide m :=
  ⟨fun blk off cap ss W hH hblk hsz => callsIn_wide.2 (AnyM.slices_Sort_string Ybaz.sort21 blk off cap ss W hH hblk hsz),
   fun p cap W => callsIn_wide.2 (AnyM.slices_Sort_string_none Ybaz.sort21 p cap W)⟩

theorem Ybaz.maps_Keys_10 (mb : Option Nat) (W : World) : CallsIn Fence.wide 5 Ybaz.prog 10 #[.map mb] W fun e w' => e = .returned (.func (.func 22) #[] #[.pointer (some ⟨W.heap.size, 0, none⟩)]) ∧ w' = W.alloc (.cells #[.map mb] 52) :=
  AnyZ.keys_in Ybaz.keys10 Fence.wide 5 trivial rfl mb W

set_option maxHeartbeats 1000000 in
theorem Ybaz.slices_Sorted_keys_9_10 {H : Type} (b nn : Nat) (D0 : DataW H) (R : Value → Option (DataW H × List MemPlace)) (w : World) (hown : w.ownsMap Ybaz.prog 9 R b nn D0) (hmax : Maps.size D0 ≤ maxLen) (hbytes : Maps.size D0 * 16 ≤ 140737488355328) :
    CallsIn Fence.wide 5 Ybaz.prog 9 #[.func (.func 22) #[] #[.pointer (some ⟨w.heap.size, 0, none⟩)]] (w.alloc (.cells #[.map (some b)] 52)) fun e w' => ∃ (v : Value) (ss : List (List UInt8)), e = .returned v ∧ ss.Perm (strKeys D0) ∧
      w'.ownsRow (w.alloc (.cells #[.map (some b)] 52)).heap.size 9 1 v ss.length ((ss.mergeSort (fun x y => decide (x ≤ y))).map encStr) ∧ (v = .slice none 0 0 ↔ ss = []) ∧ Below (w.alloc (.cells #[.map (some b)] 52)).heap.size (w.alloc (.cells #[.map (some b)] 52)) w' := by
  have hbl := hown.lt
  have hseq : SeqGives Fence.wide 2 Ybaz.prog 22 #[.pointer (some ⟨w.heap.size, 0, none⟩)] encStr (fun ss => ss.Perm (strKeys D0)) (Maps.size D0) (w.alloc (.cells #[.map (some b)] 52)) :=
    AnyZ.keys_gives (ρ := Ybaz.keys10_ren) { Ybaz.keys10 with } Fence.wide _ trivial rfl (by omega) w.heap.size b nn D0 _ (by simp) (by simp) (by
      obtain ⟨es, clock, hb, Ft, hs, hD⟩ := hown
      exact ⟨es, clock, (Below.heap_alloc _ _ b hbl).trans hb, Ft, hs, hD⟩)
  exact AnyZ.sorted_in Ybaz.sorted9 Fence.wide 5 trivial trivial trivial trivial rfl (by omega) (Ybaz.sorts9 _) (enters_of Ybaz.func21 (by kernel_rfl) rfl) 22 #[.pointer (some ⟨w.heap.size, 0, none⟩)] trivial (enters_of Ybaz.func22 (by kernel_rfl) rfl) _ _ hmax hbytes _ hseq

set_option maxHeartbeats 1000000 in
/-- **.. AND FOR THE nil MAP: nil.** -/
theorem Ybaz.slices_Sorted_keys_nil_9_10 (w : World) :
    CallsIn Fence.wide 5 Ybaz.prog 9 #[.func (.func 22) #[] #[.pointer (some ⟨w.heap.size, 0, none⟩)]] (w.alloc (.cells #[.map none] 52)) fun e w' => ∃ (v : Value) (ss : List (List UInt8)), e = .returned v ∧ ss = [] ∧
      w'.ownsRow (w.alloc (.cells #[.map none] 52)).heap.size 9 1 v ss.length ((ss.mergeSort (fun x y => decide (x ≤ y))).map encStr) ∧ (v = .slice none 0 0 ↔ ss = []) ∧ Below (w.alloc (.cells #[.map none] 52)).heap.size (w.alloc (.cells #[.map none] 52)) w' := by
  have hseq : SeqGives Fence.wide 2 Ybaz.prog 22 #[.pointer (some ⟨w.heap.size, 0, none⟩)] encStr (fun ss : List (List UInt8) => ss = []) 0 (w.alloc (.cells #[.map none] 52)) :=
    AnyZ.keys_gives_nil (ρ := Ybaz.keys10_ren) { Ybaz.keys10 with } Fence.wide _ trivial rfl w.heap.size _ (by simp) (by simp)
  exact AnyZ.sorted_in Ybaz.sorted9 Fence.wide 5 trivial trivial trivial trivial rfl (by omega) (Ybaz.sorts9 _) (enters_of Ybaz.func21 (by kernel_rfl) rfl) 22 #[.pointer (some ⟨w.heap.size, 0, none⟩)] trivial (enters_of Ybaz.func22 (by kernel_rfl) rfl) _ 0 (Nat.zero_le _) (by omega) _ hseq

end Go.Proofs
