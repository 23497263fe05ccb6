/- The walks of the two clones: a slice that came in, copied cell by cell into a new row. -/
import Derived.Test.Qxb6002374aApp
import Derived.Test.Qxb6002374aFill
import Derived.OpenShut
import Derived.Lib.SliceRun
namespace Go.Proofs.Qxb6002374a
open Go.RowKit
theorem info32 : (Try.prog.info? 32).map (fun i => (i.zero, i.size, i.bytes)) = some (some (.int .u32 0), 1, 4) := by kernel_rfl

theorem cloneB_nil (w : World) : Calls Try.prog 8 #[.slice none 0 0] w fun e w' => e = .returned (.slice none 0 0) ∧ w = w' := by
  have heq := fun (a : Option Addr) (n c : Nat) (w : World) => Lib.run_eql_slice_nil (P := Try.prog) w 22 5 a n c 0 0 Try.underlying22
  go_enter Try.func8, Try.ntmps8
  go_wp2
  go_ret
  exact ⟨rfl, rfl⟩

set_option maxHeartbeats 400000 in
theorem cloneB_none (x : Addr) (cap : Nat) (w : World) :
    Calls Try.prog 8 #[.slice (some x) 0 cap] w fun e w' => e = .returned (.slice (some ⟨w.heap.size, 0, none⟩) 0 0) ∧
      w'.ownsRow w.heap.size 5 1 (.slice (some ⟨w.heap.size, 0, none⟩) 0 0) 0 [] ∧ Below w.heap.size w w' := by
  obtain ⟨i0, hi, hi0, hi1, hi2⟩ := info_parts info5
  have heq := fun (a : Option Addr) (n c : Nat) (w : World) => Lib.run_eql_slice_nil (P := Try.prog) w 22 5 a n c 0 0 Try.underlying22
  go_enter Try.func8, Try.ntmps8
  go_wp2_with (refine wpList_make_full _ rfl _ _ 22 rfl w.heap.size 5 i0 (.int .u8 0) 1 Try.underlying22 hi hi0 hi1 .i64 .i64 _ _ 0 rfl rfl rfl rfl (by rw [hi2]; omega) (by unfold maxLen; omega) (Nat.le_refl _) ?_; intro w1 hown hgr)
  have hbl := (Below.refl w.heap.size w).grown hgr (Nat.le_refl _) (fun k hk => by cases hk)
  have hown2 : w1.ownsRow w.heap.size 5 1 (.slice (some ⟨w.heap.size, 0, none⟩) 0 0) 0 [] := by simpa [madeCells] using hown
  clear hown hgr
  go_wp2
  go_loopw [4] (fun i wr => i = .int .i64 0 ∧ wr = w1) (fun _ _ => 0)
  case atStart => exact ⟨rfl, rfl⟩
  case round =>
    obtain ⟨rfl, rfl⟩ := hrel
    go_wp2
    go_ret
    exact ⟨rfl, hown2, hbl⟩

set_option maxHeartbeats 400000 in
theorem cloneB_some (bs : List Int) (b off cap : Nat) (w : World) (hp : 0 < bs.length) (hc : ∀ j, j < bs.length → w.cell? ⟨b, off + j, none⟩ = some (.int .u8 (bs.getD j 0))) (hn : bs.length ≤ 2097152) :
    Calls Try.prog 8 #[.slice (some ⟨b, off, none⟩) bs.length cap] w fun e w' => e = .returned (.slice (some ⟨w.heap.size, 0, none⟩) bs.length bs.length) ∧
      w'.ownsRow w.heap.size 5 1 (.slice (some ⟨w.heap.size, 0, none⟩) bs.length bs.length) bs.length (bs.map (Value.int .u8)) ∧ Below w.heap.size w w' := by
  obtain ⟨i0, hi, hi0, hi1, hi2⟩ := info_parts info5
  have hblt : b < w.heap.size := World.block_lt_of_cell? w ⟨b, off + 0, none⟩ (hc 0 hp)
  have heq := fun (a : Option Addr) (n c : Nat) (w : World) => Lib.run_eql_slice_nil (P := Try.prog) w 22 5 a n c 0 0 Try.underlying22
  go_enter Try.func8, Try.ntmps8
  go_wp2_with (refine wpList_make_full _ rfl _ _ 22 rfl w.heap.size 5 i0 (.int .u8 0) 1 Try.underlying22 hi hi0 hi1 .i64 .i64 _ _ bs.length rfl rfl rfl rfl (by rw [hi2]; omega) (by unfold maxLen; omega) (Nat.le_refl _) ?_; intro w1 hown hgr)
  have hbl := (Below.refl w.heap.size w).grown hgr (Nat.le_refl _) (fun k hk => by cases hk)
  have hown2 := made_fill hown
  clear hown hgr
  go_wp2
  go_loopw [4] (fun i wr => ∃ k : Nat, k ≤ bs.length ∧ i = .int .i64 k ∧ wr.ownsRow w.heap.size 5 1 (.slice (some ⟨w.heap.size, 0, none⟩) bs.length bs.length) bs.length ((fillTo bs k).map (Value.int .u8)) ∧ Below w.heap.size w wr) (fun i _ => bs.length - (intOf i).toNat)
  case atStart => exact ⟨0, Nat.zero_le _, rfl, hown2, hbl⟩
  case round =>
    clear hown2 hbl
    obtain ⟨k, hk, rfl, hown, hbl⟩ := hrel
    by_cases hlt : k < bs.length
    · have R := fill_step (Nat.le_refl _) hlt hown hbl
      obtain ⟨x, hx⟩ : ∃ x, x = bs.getD k 0 := ⟨_, rfl⟩
      rw [← hx] at R
      have hcell : wr.cell? ⟨b, off + k, none⟩ = some (.int .u8 x) := by rw [hx, hbl.cell (p := ⟨b, off + k, none⟩) hblt]; exact hc k hlt
      obtain ⟨y, hy⟩ := fill_cell hlt hown
      have hfz := hown.frozenAt k
      clear hx hown hc
      go_wp2
      go_roundw
      case rel => exact ⟨k + 1, by omega, by go_num, R.1, R.2⟩
      case measure => simp [intOf]; omega
    · rw [fillTo_end bs k (by omega)] at hown
      go_wp2
      go_ret
      exact ⟨rfl, hown, hbl⟩

theorem cloneW_nil (w : World) : Calls Try.prog 12 #[.slice none 0 0] w fun e w' => e = .returned (.slice none 0 0) ∧ w = w' := by
  have heq := fun (a : Option Addr) (n c : Nat) (w : World) => Lib.run_eql_slice_nil (P := Try.prog) w 30 32 a n c 0 0 Try.underlying30
  go_enter Try.func12, Try.ntmps12
  go_wp2
  go_ret
  exact ⟨rfl, rfl⟩

set_option maxHeartbeats 400000 in
theorem cloneW_none (x : Addr) (cap : Nat) (w : World) :
    Calls Try.prog 12 #[.slice (some x) 0 cap] w fun e w' => e = .returned (.slice (some ⟨w.heap.size, 0, none⟩) 0 0) ∧
      w'.ownsRow w.heap.size 32 1 (.slice (some ⟨w.heap.size, 0, none⟩) 0 0) 0 [] ∧ Below w.heap.size w w' := by
  obtain ⟨i0, hi, hi0, hi1, hi2⟩ := info_parts info32
  have heq := fun (a : Option Addr) (n c : Nat) (w : World) => Lib.run_eql_slice_nil (P := Try.prog) w 30 32 a n c 0 0 Try.underlying30
  go_enter Try.func12, Try.ntmps12
  go_wp2_with (refine wpList_make_full _ rfl _ _ 30 rfl w.heap.size 32 i0 (.int .u32 0) 1 Try.underlying30 hi hi0 hi1 .i64 .i64 _ _ 0 rfl rfl rfl rfl (by rw [hi2]; omega) (by unfold maxLen; omega) (Nat.le_refl _) ?_; intro w1 hown hgr)
  have hbl := (Below.refl w.heap.size w).grown hgr (Nat.le_refl _) (fun k hk => by cases hk)
  have hown2 : w1.ownsRow w.heap.size 32 1 (.slice (some ⟨w.heap.size, 0, none⟩) 0 0) 0 [] := by simpa [madeCells] using hown
  clear hown hgr
  go_wp2
  go_loopw [4] (fun i wr => i = .int .i64 0 ∧ wr = w1) (fun _ _ => 0)
  case atStart => exact ⟨rfl, rfl⟩
  case round =>
    obtain ⟨rfl, rfl⟩ := hrel
    go_wp2
    go_ret
    exact ⟨rfl, hown2, hbl⟩

set_option maxHeartbeats 400000 in
theorem cloneW_some (bs : List Int) (b off cap : Nat) (w : World) (hp : 0 < bs.length) (hc : ∀ j, j < bs.length → w.cell? ⟨b, off + j, none⟩ = some (.int .u32 (bs.getD j 0))) (hn : bs.length ≤ 2097152) :
    Calls Try.prog 12 #[.slice (some ⟨b, off, none⟩) bs.length cap] w fun e w' => e = .returned (.slice (some ⟨w.heap.size, 0, none⟩) bs.length bs.length) ∧
      w'.ownsRow w.heap.size 32 1 (.slice (some ⟨w.heap.size, 0, none⟩) bs.length bs.length) bs.length (bs.map (Value.int .u32)) ∧ Below w.heap.size w w' := by
  obtain ⟨i0, hi, hi0, hi1, hi2⟩ := info_parts info32
  have hblt : b < w.heap.size := World.block_lt_of_cell? w ⟨b, off + 0, none⟩ (hc 0 hp)
  have heq := fun (a : Option Addr) (n c : Nat) (w : World) => Lib.run_eql_slice_nil (P := Try.prog) w 30 32 a n c 0 0 Try.underlying30
  go_enter Try.func12, Try.ntmps12
  go_wp2_with (refine wpList_make_full _ rfl _ _ 30 rfl w.heap.size 32 i0 (.int .u32 0) 1 Try.underlying30 hi hi0 hi1 .i64 .i64 _ _ bs.length rfl rfl rfl rfl (by rw [hi2]; omega) (by unfold maxLen; omega) (Nat.le_refl _) ?_; intro w1 hown hgr)
  have hbl := (Below.refl w.heap.size w).grown hgr (Nat.le_refl _) (fun k hk => by cases hk)
  have hown2 := made_fill hown
  clear hown hgr
  go_wp2
  go_loopw [4] (fun i wr => ∃ k : Nat, k ≤ bs.length ∧ i = .int .i64 k ∧ wr.ownsRow w.heap.size 32 1 (.slice (some ⟨w.heap.size, 0, none⟩) bs.length bs.length) bs.length ((fillTo bs k).map (Value.int .u32)) ∧ Below w.heap.size w wr) (fun i _ => bs.length - (intOf i).toNat)
  case atStart => exact ⟨0, Nat.zero_le _, rfl, hown2, hbl⟩
  case round =>
    clear hown2 hbl
    obtain ⟨k, hk, rfl, hown, hbl⟩ := hrel
    by_cases hlt : k < bs.length
    · have R := fill_step (Nat.le_refl _) hlt hown hbl
      obtain ⟨x, hx⟩ : ∃ x, x = bs.getD k 0 := ⟨_, rfl⟩
      rw [← hx] at R
      have hcell : wr.cell? ⟨b, off + k, none⟩ = some (.int .u32 x) := by rw [hx, hbl.cell (p := ⟨b, off + k, none⟩) hblt]; exact hc k hlt
      obtain ⟨y, hy⟩ := fill_cell hlt hown
      have hfz := hown.frozenAt k
      clear hx hown hc
      go_wp2
      go_roundw
      case rel => exact ⟨k + 1, by omega, by go_num, R.1, R.2⟩
      case measure => simp [intOf]; omega
    · rw [fillTo_end bs k (by omega)] at hown
      go_wp2
      go_ret
      exact ⟨rfl, hown, hbl⟩

end Go.Proofs.Qxb6002374a
