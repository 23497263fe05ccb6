/- The walk of utf16.DecodeRune at a pair. -/
import Derived.Test.Qxb6002374aProg
import Derived.Test.Qxb6002374aPlain
import Derived.WalkKit
import Derived.WalkSpells
import Derived.WalkLawsBesides
import Derived.Below
namespace Go.Proofs.Qxb6002374a
open Go.RowKit
theorem ret_int {k : IntKind} {a b : Int} (h : a = b) : Ending.returned (.int k a) = .returned (.int k b) := by rw [h]

theorem decodeRune_pair (a b : Int) (w : World) (h1 : 55296 ≤ a) (h2 : a < 56320) (h3 : 56320 ≤ b) (h4 : b < 57344) :
    Calls Try.prog 17 #[.int .i32 a, .int .i32 b] w fun e w' => e = .returned (.int .i32 (pair a b)) ∧ w = w' := by
  go_enter Try.func17, Try.ntmps17
  go_wp2
  go_ret
  exact ⟨ret_int (pair_bits a b h1 h2 h3 h4), rfl⟩
end Go.Proofs.Qxb6002374a
