import Derived.Test.YbulkahauShelf
namespace Go.Proofs
open Go.RowKit Go.Maps Go.Sort Go.Shelf

theorem Yba.sorts15 (m : Nat) : AnyZ.SortsIn Yba.prog Yba.sorted15_ren Fence.wide m :=
  ⟨fun blk off cap ss W hH hblk hsz => callsIn_wide.2 (AnyM.slices_Sort_string Yba.sort26 blk off cap ss W hH hblk hsz),
   fun p cap W => callsIn_wide.2 (AnyM.slices_Sort_string_none Yba.sort26 p cap W)⟩

theorem Yba.maps_Keys_16 (mb : Option Nat) (W : World) : CallsIn Fence.wide 5 Yba.prog 16 #[.map mb] W fun e w' => e = .returned (.func (.func 27) #[] #[.pointer (some ⟨W.heap.size, 0, none⟩)]) ∧ w' = W.alloc (.cells #[.map mb] 33) :=
  AnyZ.keys_in Yba.keys16 Fence.wide 5 trivial rfl mb W

set_option maxHeartbeats 1000000 in
theorem Yba.slices_Sorted_keys_15_16 {H : Type} (b nn : Nat) (D0 : DataW H) (R : Value → Option (DataW H × List MemPlace)) (w : World) (hown : w.ownsMap Yba.prog 9 R b nn D0) (hmax : Maps.size D0 ≤ maxLen) (hbytes : Maps.size D0 * 16 ≤ 140737488355328) :
    CallsIn Fence.wide 5 Yba.prog 15 #[.func (.func 27) #[] #[.pointer (some ⟨w.heap.size, 0, none⟩)]] (w.alloc (.cells #[.map (some b)] 33)) fun e w' => ∃ (v : Value) (ss : List (List UInt8)), e = .returned v ∧ ss.Perm (strKeys D0) ∧
      w'.ownsRow (w.alloc (.cells #[.map (some b)] 33)).heap.size 9 1 v ss.length ((ss.mergeSort (fun x y => decide (x ≤ y))).map encStr) ∧ (v = .slice none 0 0 ↔ ss = []) ∧ Below (w.alloc (.cells #[.map (some b)] 33)).heap.size (w.alloc (.cells #[.map (some b)] 33)) w' := by
  have hbl := hown.lt
  have hseq : SeqGives Fence.wide 2 Yba.prog 27 #[.pointer (some ⟨w.heap.size, 0, none⟩)] encStr (fun ss => ss.Perm (strKeys D0)) (Maps.size D0) (w.alloc (.cells #[.map (some b)] 33)) :=
    AnyZ.keys_gives (ρ := Yba.keys16_ren) { Yba.keys16 with } Fence.wide _ trivial rfl (by omega) w.heap.size b nn D0 _ (by simp) (by simp) (by
      obtain ⟨es, clock, hb, Ft, hs, hD⟩ := hown
      exact ⟨es, clock, (Below.heap_alloc _ _ b hbl).trans hb, Ft, hs, hD⟩)
  exact AnyZ.sorted_in Yba.sorted15 Fence.wide 5 trivial trivial trivial trivial rfl (by omega) (Yba.sorts15 _) (enters_of Yba.func26 (by kernel_rfl) rfl) 27 #[.pointer (some ⟨w.heap.size, 0, none⟩)] trivial (enters_of Yba.func27 (by kernel_rfl) rfl) _ _ hmax hbytes _ hseq
end Go.Proofs
