/- The walk of figure.CheckLength: nil just where the string holds at most 64 runes. -/
import Derived.Test.Qxb6001775aFmtFmt
import Derived.Test.Qxb6001775aFmtShelf
import Derived.WalkKit
import Derived.Below
namespace Go.Proofs.Qxb6001775aFmt
open Go.RowKit Go.Extern.Stop Go.Stop Go.Extern
attribute [local go_sem] call15 guardE fmt0 fmt0r op3_100 op3_100w ptr32 elem32 isError32

theorem cl_ok (s : ByteArray) (w : World) (hs : s.size < 9223372036854775807) (h : Lib.runeCount s ≤ 64) :
    Calls Tryf.prog 7 #[.string s] w fun e w' => e = .returned .nilIface ∧ ∃ pos, w' = w.iter s pos := by
  have hc : ¬ (64 : Int) < (Lib.runeCount s : Int) := by omega
  go_enter Tryf.func7, Tryf.ntmps7
  go_wp2_with (go_at_call 12; refine (Tryf.utf8_RuneCountInString _ _ hs).mono ?_; rintro e w' ⟨rfl, pos, rfl⟩)
  go_ret
  exact ⟨rfl, pos, rfl⟩

theorem cl_bad (F : Interp) (s : ByteArray) (w : World) (hF : F.answers w.tape) (hs : s.size < 9223372036854775807) (h : 64 < Lib.runeCount s) :
    Calls Tryf.prog 7 #[.string s] w fun e w' => (∃ a, e = .returned (.iface 32 (.pointer (some a)))) ∧ Below w.heap.size w w' := by
  have hF' := hF
  unfold Interp.answers at hF'
  have hc : (64 : Int) < (Lib.runeCount s : Int) := by omega
  go_enter Tryf.func7, Tryf.ntmps7
  go_wp2_with (first | (go_at_call 12; refine (Tryf.utf8_RuneCountInString _ _ hs).mono ?_; rintro e w' ⟨rfl, pos, rfl⟩) | go_in)
  go_ret
  refine ⟨⟨_, rfl⟩, ?_⟩
  exact ((((Below.refl _ _).alloc (Nat.le_refl _) _).alloc (by simp) _).alloc (by simp; omega) _).drew
end Go.Proofs.Qxb6001775aFmt
