/-
  No cell of these rows narrows 'for every input' (looked for: loops, veiled, ifaces, maps, wideKeys, modest, calm, conditions, laid).
  DERIVED. THE GIVEN ROWS OF THIS SEAT. 3 by the template 'for every input the law returns true; each argument reads behind the call as it read before'; 0 by the template 'total and deterministic' (their statements: Qxb6001775aFmtTotals.lean).
  GIVEN WITH THE SEED: the statements are not yours to turn. If you find one false, say at which input.
  Laid BY PROGRAM, IN A SANDBOX (cutbox-rows.mjs): the forced cells as the released guide's own fill.sh prints them over the translation 747b3580c1036d4f… (all of the seat's roots in one cut). By AI agents, Wed Nov 11 2026. No macro, syntax, notation, axiom, sorry.
-/
import Derived.Test.Qxb6001775aFmtChecked
import GoSem.Claim
import GoSem.ClaimJoined
import GoSem.ClaimMapViews
import Derived.JoinedTies
import Derived.KernelRfl
namespace Go.Proofs.Qxb6001775aFmt
/- THE CELL 'sum', in the pinned program and in every row, IS THE sha256 OF THE DUMP (.gsa) THAT Qxb6001775aFmtProg.lean LOADS. Nothing in Lean hashes anything: it is a label: what it is worth is what the hold of that sum in a sandbox is worth. -/
noncomputable def Tryf.pinned : Pinned := { name := "qxb6001775afmt", sum := "747b3580c1036d4fb19f550b0b7d4290fee0cccef2dc6277409bb12417b7653d", checked := Tryf.checked }
namespace Rows
def none {H : Type} : Left H := { results := [], args := [] }

/-- 'zzlaws_pkg_figure_e1.FnCheckLengthExactCharacterCount': WHATEVER THE INPUT: true; the input reads as it did. -/
def fnCheckLengthExactCharacterCountSpec : ChangeSpec := { name := "fnCheckLengthExactCharacterCount", fn := fun _ => fun
  | [d] => { results := [.lit (.bool true)], args := [d] }
  | _ => none }
def fnCheckLengthExactCharacterCountRow : OpenClaim := { program := "qxb6001775afmt", sum := "747b3580c1036d4fb19f550b0b7d4290fee0cccef2dc6277409bb12417b7653d", func := "example.com/vestledger/vestledger/zzlaws_pkg_figure_e1.FnCheckLengthExactCharacterCount", spec := "fnCheckLengthExactCharacterCount", stops := ["fmt.errorf"], inPlace := ["fmt.errorf"], apart := false }
/-- NO THEOREM (fmt's text is open here; it may be false): for the released tool's asking of the row's closed facts alone. THE STATEMENT IS 'FnCheckLengthExactCharacterCountToldSaid' (Qxb6001775aFmtCards.lean). -/
def FnCheckLengthExactCharacterCountFormAsk : Prop := fnCheckLengthExactCharacterCountRow.holds Tryf.pinned (OpenSpec.ofChange fnCheckLengthExactCharacterCountSpec)

/-- ITS FALSE NEIGHBOUR: 'it returns false'. Refute it at one input. -/
def fnCheckLengthExactCharacterCountWrong : ChangeSpec := { name := "fnCheckLengthExactCharacterCount", fn := fun _ => fun
  | [d] => { results := [.lit (.bool false)], args := [d] }
  | _ => none }
def FnCheckLengthExactCharacterCountWrongFormAsk : Prop := fnCheckLengthExactCharacterCountRow.holds Tryf.pinned (OpenSpec.ofChange fnCheckLengthExactCharacterCountWrong)

/-- 'zzlaws_pkg_figure_e1.FnCheckLengthByteBounds': WHATEVER THE INPUT: true; the input reads as it did. -/
def fnCheckLengthByteBoundsSpec : ChangeSpec := { name := "fnCheckLengthByteBounds", fn := fun _ => fun
  | [d] => { results := [.lit (.bool true)], args := [d] }
  | _ => none }
def fnCheckLengthByteBoundsRow : OpenClaim := { program := "qxb6001775afmt", sum := "747b3580c1036d4fb19f550b0b7d4290fee0cccef2dc6277409bb12417b7653d", func := "example.com/vestledger/vestledger/zzlaws_pkg_figure_e1.FnCheckLengthByteBounds", spec := "fnCheckLengthByteBounds", stops := ["fmt.errorf"], inPlace := ["fmt.errorf"], apart := false }
/-- NO THEOREM (fmt's text is open here; it may be false): for the released tool's asking of the row's closed facts alone. THE STATEMENT IS 'FnCheckLengthByteBoundsToldSaid' (Qxb6001775aFmtCards.lean). -/
def FnCheckLengthByteBoundsFormAsk : Prop := fnCheckLengthByteBoundsRow.holds Tryf.pinned (OpenSpec.ofChange fnCheckLengthByteBoundsSpec)

/-- ITS FALSE NEIGHBOUR: 'it returns false'. Refute it at one input. -/
def fnCheckLengthByteBoundsWrong : ChangeSpec := { name := "fnCheckLengthByteBounds", fn := fun _ => fun
  | [d] => { results := [.lit (.bool false)], args := [d] }
  | _ => none }
def FnCheckLengthByteBoundsWrongFormAsk : Prop := fnCheckLengthByteBoundsRow.holds Tryf.pinned (OpenSpec.ofChange fnCheckLengthByteBoundsWrong)

/-- 'zzlaws_pkg_figure_e1.FnCheckLengthASCIISuffixNeverHelps': WHATEVER THE INPUT: true; the input reads as it did. -/
def fnCheckLengthASCIISuffixNeverHelpsSpec : ChangeSpec := { name := "fnCheckLengthASCIISuffixNeverHelps", fn := fun _ => fun
  | [d1, d2] => { results := [.lit (.bool true)], args := [d1, d2] }
  | _ => none }
def fnCheckLengthASCIISuffixNeverHelpsRow : OpenClaim := { program := "qxb6001775afmt", sum := "747b3580c1036d4fb19f550b0b7d4290fee0cccef2dc6277409bb12417b7653d", func := "example.com/vestledger/vestledger/zzlaws_pkg_figure_e1.FnCheckLengthASCIISuffixNeverHelps", spec := "fnCheckLengthASCIISuffixNeverHelps", stops := ["fmt.errorf"], inPlace := ["fmt.errorf"], apart := false }
/-- NO THEOREM (fmt's text is open here; it may be false): for the released tool's asking of the row's closed facts alone. THE STATEMENT IS 'FnCheckLengthASCIISuffixNeverHelpsToldSaid' (Qxb6001775aFmtCards.lean). -/
def FnCheckLengthASCIISuffixNeverHelpsFormAsk : Prop := fnCheckLengthASCIISuffixNeverHelpsRow.holds Tryf.pinned (OpenSpec.ofChange fnCheckLengthASCIISuffixNeverHelpsSpec)

/-- ITS FALSE NEIGHBOUR: 'it returns false'. Refute it at one input. -/
def fnCheckLengthASCIISuffixNeverHelpsWrong : ChangeSpec := { name := "fnCheckLengthASCIISuffixNeverHelps", fn := fun _ => fun
  | [d1, d2] => { results := [.lit (.bool false)], args := [d1, d2] }
  | _ => none }
def FnCheckLengthASCIISuffixNeverHelpsWrongFormAsk : Prop := fnCheckLengthASCIISuffixNeverHelpsRow.holds Tryf.pinned (OpenSpec.ofChange fnCheckLengthASCIISuffixNeverHelpsWrong)

end Rows
end Go.Proofs.Qxb6001775aFmt
