/- The contracts of slices.Sorted(maps.Keys(m)) and slices.Sort at this program (written by the kit, lay-iter.mjs; the Duration sort after it). -/
import Derived.Test.Qxb6001780aShelf
namespace Go.Proofs
open Go.RowKit Go.Maps Go.Sort Go.Shelf

theorem Try.sorts20 (m : Nat) : AnyZ.SortsIn Try.prog Try.sorted20_ren Fence.wide m :=
  ⟨fun blk off cap ss W hH hblk hsz => callsIn_wide.2 (AnyM.slices_Sort_string Try.sort25 blk off cap ss W hH hblk hsz),
   fun p cap W => callsIn_wide.2 (AnyM.slices_Sort_string_none Try.sort25 p cap W)⟩

theorem Try.maps_Keys_21 (mb : Option Nat) (W : World) : CallsIn Fence.wide 5 Try.prog 21 #[.map mb] W fun e w' => e = .returned (.func (.func 26) #[] #[.pointer (some ⟨W.heap.size, 0, none⟩)]) ∧ w' = W.alloc (.cells #[.map mb] 44) :=
  AnyZ.keys_in Try.keys21 Fence.wide 5 trivial rfl mb W

set_option maxHeartbeats 1000000 in
theorem Try.slices_Sorted_keys_20_21 {H : Type} (b nn : Nat) (D0 : DataW H) (R : Value → Option (DataW H × List MemPlace)) (w : World) (hown : w.ownsMap Try.prog 9 R b nn D0) (hmax : Maps.size D0 ≤ maxLen) (hbytes : Maps.size D0 * 16 ≤ 140737488355328) :
    CallsIn Fence.wide 5 Try.prog 20 #[.func (.func 26) #[] #[.pointer (some ⟨w.heap.size, 0, none⟩)]] (w.alloc (.cells #[.map (some b)] 44)) fun e w' => ∃ (v : Value) (ss : List (List UInt8)), e = .returned v ∧ ss.Perm (strKeys D0) ∧
      w'.ownsRow (w.alloc (.cells #[.map (some b)] 44)).heap.size 9 1 v ss.length ((ss.mergeSort (fun x y => decide (x ≤ y))).map encStr) ∧ (v = .slice none 0 0 ↔ ss = []) ∧ Below (w.alloc (.cells #[.map (some b)] 44)).heap.size (w.alloc (.cells #[.map (some b)] 44)) w' := by
  have hbl := hown.lt
  have hseq : SeqGives Fence.wide 2 Try.prog 26 #[.pointer (some ⟨w.heap.size, 0, none⟩)] encStr (fun ss => ss.Perm (strKeys D0)) (Maps.size D0) (w.alloc (.cells #[.map (some b)] 44)) :=
    AnyZ.keys_gives (ρ := Try.keys21_ren) { Try.keys21 with } Fence.wide _ trivial rfl (by omega) w.heap.size b nn D0 _ (by simp) (by simp) (by
      obtain ⟨es, clock, hb, Ft, hs, hD⟩ := hown
      exact ⟨es, clock, (Below.heap_alloc _ _ b hbl).trans hb, Ft, hs, hD⟩)
  exact AnyZ.sorted_in Try.sorted20 Fence.wide 5 trivial trivial trivial trivial rfl (by omega) (Try.sorts20 _) (enters_of Try.func25 (by kernel_rfl) rfl) 26 #[.pointer (some ⟨w.heap.size, 0, none⟩)] trivial (enters_of Try.func26 (by kernel_rfl) rfl) _ _ hmax hbytes _ hseq

set_option maxHeartbeats 1000000 in
theorem Try.slices_Sorted_keys_nil_20_21 (w : World) :
    CallsIn Fence.wide 5 Try.prog 20 #[.func (.func 26) #[] #[.pointer (some ⟨w.heap.size, 0, none⟩)]] (w.alloc (.cells #[.map none] 44)) fun e w' => ∃ (v : Value) (ss : List (List UInt8)), e = .returned v ∧ ss = [] ∧
      w'.ownsRow (w.alloc (.cells #[.map none] 44)).heap.size 9 1 v ss.length ((ss.mergeSort (fun x y => decide (x ≤ y))).map encStr) ∧ (v = .slice none 0 0 ↔ ss = []) ∧ Below (w.alloc (.cells #[.map none] 44)).heap.size (w.alloc (.cells #[.map none] 44)) w' := by
  have hseq : SeqGives Fence.wide 2 Try.prog 26 #[.pointer (some ⟨w.heap.size, 0, none⟩)] encStr (fun ss : List (List UInt8) => ss = []) 0 (w.alloc (.cells #[.map none] 44)) :=
    AnyZ.keys_gives_nil (ρ := Try.keys21_ren) { Try.keys21 with } Fence.wide _ trivial rfl w.heap.size _ (by simp) (by simp)
  exact AnyZ.sorted_in Try.sorted20 Fence.wide 5 trivial trivial trivial trivial rfl (by omega) (Try.sorts20 _) (enters_of Try.func25 (by kernel_rfl) rfl) 26 #[.pointer (some ⟨w.heap.size, 0, none⟩)] trivial (enters_of Try.func26 (by kernel_rfl) rfl) _ 0 (Nat.zero_le _) (by omega) _ hseq

theorem Try.slices_Sort_dur (blk off cap : Nat) (zs : List Int) (w : World) (hH : Holds (Value.int .i64) w blk off zs.toArray) (hblk : blk < w.heap.size) (hsz : zs.length < 4611686018427387904) :
    Calls Try.prog 19 #[.slice (some ⟨blk, off, none⟩) zs.length cap] w fun e w' =>
      e = .returned (.tuple #[]) ∧ ∃ n os, w' = grow (putRow (Value.int .i64) (Sort.ahead w n) blk off (zs.mergeSort fun x y => decide (x ≤ y)).toArray) os := AnyM.slices_Sort_int Try.sortD blk off cap zs w hH hblk hsz

theorem Try.slices_Sort_dur_none (p : Option Addr) (cap : Nat) (w : World) : Calls Try.prog 19 #[.slice p 0 cap] w fun e w' => e = .returned (.tuple #[]) ∧ w' = w := AnyM.slices_Sort_int_none Try.sortD p cap w
end Go.Proofs
