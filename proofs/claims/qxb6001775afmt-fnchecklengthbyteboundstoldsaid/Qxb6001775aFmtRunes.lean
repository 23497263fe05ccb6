/- Plain laws on the model's count of runes: a rune takes one to four bytes. -/
import Derived.Lib.RuneCount
namespace Go.Proofs.Qxb6001775aFmt
open Go

theorem decode_width_le (s : ByteArray) (i : Nat) : (Utf8.decode s i).2 ≤ 4 := by
  unfold Utf8.decode
  dsimp only
  repeat' split
  all_goals simp

theorem count_four (s : ByteArray) : ∀ fuel pos, s.size ≤ pos + fuel → s.size ≤ pos + 4 * Lib.runeCountFrom s fuel pos
  | 0, pos, h => by simp [Lib.runeCountFrom]; omega
  | f + 1, pos, h => by
    by_cases hp : pos < s.size
    · have h1 := Lib.decode_width_pos s pos hp
      have h4 := decode_width_le s pos
      have ih := count_four s f (pos + (Utf8.decode s pos).2) (by omega)
      unfold Lib.runeCountFrom
      rw [if_pos hp]
      omega
    · omega

theorem size_le_four (s : ByteArray) : s.size ≤ 4 * Lib.runeCount s := by
  have := count_four s s.size 0 (by omega)
  unfold Lib.runeCount
  omega
end Go.Proofs.Qxb6001775aFmt
