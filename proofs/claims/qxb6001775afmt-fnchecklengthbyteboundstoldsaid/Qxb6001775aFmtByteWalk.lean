/- The walk of FnCheckLengthByteBounds. -/
import Derived.Test.Qxb6001775aFmtCl
import Derived.Test.Qxb6001775aFmtRunes
namespace Go.Proofs.Qxb6001775aFmt
open Go.RowKit Go.Extern.Stop Go.Stop Go.Extern

theorem bytes9 (s : ByteArray) (w : World) (hs : s.size ≤ 1048576) :
    Calls Tryf.prog 9 #[.string s] w fun e w' => e = .returned (.bool true) ∧ w' = w := by
  go_enter Tryf.func9, Tryf.ntmps9
  go_wp2
  go_ret
  exact ⟨rfl, rfl⟩

theorem bytes9_no (s : ByteArray) (w : World) (hs : ¬ s.size ≤ 1048576) :
    Calls Tryf.prog 9 #[.string s] w fun e w' => e = .returned (.bool false) ∧ w' = w := by
  go_enter Tryf.func9, Tryf.ntmps9
  go_wp2
  go_ret
  exact ⟨rfl, rfl⟩

theorem byteWalk (F : Interp) (s : ByteArray) (w : World) (hF : F.answers w.tape) :
    Calls Tryf.prog 4 #[.string s] w fun e w' => e = .returned (.bool true) ∧ Below w.heap.size w w' := by
  by_cases h20 : s.size ≤ 1048576
  · have hle := Lib.runeCount_le s
    have h4 := size_le_four s
    have hs : s.size < 9223372036854775807 := by omega
    by_cases h64 : s.size ≤ 64
    · go_enter Tryf.func4, Tryf.ntmps4
      go_wp2_with (first
        | (go_at_call 9; refine (bytes9 _ _ h20).mono ?_; rintro e w' ⟨rfl, rfl⟩)
        | (go_at_call 7; refine (cl_ok _ _ hs (by omega)).mono ?_; rintro e w' ⟨rfl, pos, rfl⟩))
      go_ret
      exact ⟨rfl, (Below.refl _ _).alloc (Nat.le_refl _) _⟩
    · by_cases h256 : 256 < s.size
      · go_enter Tryf.func4, Tryf.ntmps4
        go_wp2_with (first
          | (go_at_call 9; refine (bytes9 _ _ h20).mono ?_; rintro e w' ⟨rfl, rfl⟩)
          | (go_at_call 7; refine (cl_bad F _ _ hF hs (by omega)).mono ?_; rintro e w' ⟨⟨a, rfl⟩, hb⟩))
        go_ret
        exact ⟨rfl, hb⟩
      · go_enter Tryf.func4, Tryf.ntmps4
        go_wp2_with (first
          | (go_at_call 9; refine (bytes9 _ _ h20).mono ?_; rintro e w' ⟨rfl, rfl⟩))
        go_ret
        exact ⟨rfl, Below.refl _ _⟩
  · go_enter Tryf.func4, Tryf.ntmps4
    go_wp2_with (first
      | (go_at_call 9; refine (bytes9_no _ _ h20).mono ?_; rintro e w' ⟨rfl, rfl⟩))
    go_ret
    exact ⟨rfl, Below.refl _ _⟩
end Go.Proofs.Qxb6001775aFmt
