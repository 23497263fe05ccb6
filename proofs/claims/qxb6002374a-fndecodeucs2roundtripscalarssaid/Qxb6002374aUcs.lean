/- The walk of utf16.Decode and efi.DecodeUCS2. -/
import Derived.Test.Qxb6002374aDec
namespace Go.Proofs.Qxb6002374a
open Go.RowKit

theorem made64 (w : World) : (Instr.makeSlice 39 (.int .i64 0) (.int .i64 64)).run Try.prog w = .ok (.slice (some ⟨w.heap.size, 0, none⟩) 0 64) (w.alloc (.cells (Array.replicate 64 (.int .i32 0)) 21)) := by kernel_rfl

theorem made64_own (w : World) : (w.alloc (.cells (Array.replicate 64 (.int .i32 0)) 21)).ownsRow w.heap.size 21 1 (.slice (some ⟨w.heap.size, 0, none⟩) 0 64) 0 [] := by
  have := World.ownsRow_made (base := w.heap.size) (e := 21) (size := 1) w (Array.replicate 64 (Value.int .i32 0)) 64 (Nat.le_refl _) (by unfold maxLen; omega) (by simp)
  simpa using this

theorem Decode_some (us : List Int) (g cap : Nat) (w : World) (hg : g < w.heap.size) (hc : ∀ j, j < us.length → w.cell? ⟨g, j, none⟩ = some (.int .u16 (us.getD j 0)))
    (hr : ∀ j, 0 ≤ us.getD j 0 ∧ us.getD j 0 ≤ 65535) (hn : us.length ≤ 2097152) :
    Calls Try.prog 14 #[.slice (some ⟨g, 0, none⟩) us.length cap] w fun e w' => ∃ v', e = .returned v' ∧ w'.ownsRow w.heap.size 21 1 v' (dec16 us).length ((dec16 us).map (Value.int .i32)) ∧ Below w.heap.size w w' := by
  have hmk := made64
  go_enter Try.func14, Try.ntmps14
  go_wp2_with (go_at_call 16; refine (decode16_some us g cap w.heap.size _ _ (by simp) hg (fun j hj => by rw [World.cell?_alloc_past _ _ _ hg]; exact hc j hj) hr hn (made64_own w)).mono ?_; rintro e w1 ⟨v', rfl, hown, hb⟩)
  go_ret
  exact ⟨v', rfl, hown, ((Below.refl _ w).alloc (Nat.le_refl _) _).trans hb⟩

theorem Decode_nil (w : World) :
    Calls Try.prog 14 #[.slice none 0 0] w fun e w' => ∃ v', e = .returned v' ∧ w'.ownsRow w.heap.size 21 1 v' (dec16 []).length ((dec16 []).map (Value.int .i32)) ∧ Below w.heap.size w w' := by
  have hmk := made64
  go_enter Try.func14, Try.ntmps14
  go_wp2_with (go_at_call 16; refine (decode16_nil w.heap.size _ _ (made64_own w)).mono ?_; rintro e w1 ⟨v', rfl, hown, hb⟩)
  go_ret
  exact ⟨v', rfl, hown, ((Below.refl _ w).alloc (Nat.le_refl _) _).trans hb⟩
end Go.Proofs.Qxb6002374a
