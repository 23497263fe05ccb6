/- The contract of unicode/utf8.RuneCountInString laid at this program (written by the kit, lay-plain.mjs). -/
import Derived.Shelf.Utf8.RuneCount
import Derived.Test.Qxb6001775aFmtProg
namespace Go.Proofs
open Go.Shelf
def Tryf.lays195_ren : Go.Shelf.Ren := ⟨fun | 195 => 12 | n => n, fun | 9 => 9 | 3 => 3 | 0 => 0 | 4 => 4 | n => n, fun | n => n⟩
theorem Tryf.lays195 : Go.Proofs.Lays.n195 Tryf.prog Tryf.lays195_ren := {
  mixed := by kernel_rfl
  f195 := Tryf.func12.trans (congrArg some (by kernel_rfl))
  t0 := Tryf.underlying0
  a0 := Tryf.isAgg0
  z0 := Tryf.sizeOf0
  v0 := Tryf.zeroValue0
  t3 := Tryf.underlying3
  a3 := Tryf.isAgg3
  z3 := Tryf.sizeOf3
  v3 := Tryf.zeroValue3
  t4 := Tryf.underlying4
  a4 := Tryf.isAgg4
  z4 := Tryf.sizeOf4
  v4 := Tryf.zeroValue4
  t9 := Tryf.underlying9
  a9 := Tryf.isAgg9
  z9 := Tryf.sizeOf9
  v9 := Tryf.zeroValue9 }
open Go.RowKit in
theorem Tryf.utf8_RuneCountInString (s : ByteArray) (w : World) (hs : s.size < 9223372036854775807) :
    Calls Tryf.prog 12 #[.string s] w fun e w' => e = .returned (.int .i64 (Lib.runeCount s)) ∧ ∃ pos, w' = w.iter s pos := Any.utf8_RuneCountInString Tryf.lays195 s w hs
end Go.Proofs
