/-
  No cell of these rows narrows 'for every input' (looked for: loops, veiled, ifaces, maps, wideKeys, modest, calm, conditions, laid).
  DERIVED. THE GIVEN ROWS OF THIS SEAT. 4 by the template 'for every input the law returns true; each argument reads behind the call as it read before'; 0 by the template 'total and deterministic' (their statements: Qxb6002374aTotals.lean).
  GIVEN WITH THE SEED: the statements are not yours to turn. If you find one false, say at which input.
  Laid BY PROGRAM, IN A SANDBOX (cutbox-rows.mjs): the forced cells as the released guide's own fill.sh prints them over the translation 84f2ea1b6e755154… (all of the seat's roots in one cut). By AI agents, Wed Nov 11 2026. No macro, syntax, notation, axiom, sorry.
-/
import Derived.Test.Qxb6002374aChecked
import GoSem.Claim
import GoSem.ClaimJoined
import GoSem.ClaimMapViews
import Derived.JoinedTies
import Derived.KernelRfl
namespace Go.Proofs.Qxb6002374a
/- THE CELL 'sum', in the pinned program and in every row, IS THE sha256 OF THE DUMP (.gsa) THAT Qxb6002374aProg.lean LOADS. Nothing in Lean hashes anything: it is a label: what it is worth is what the hold of that sum in a sandbox is worth. -/
noncomputable def Try.pinned : Pinned := { name := "qxb6002374a", sum := "84f2ea1b6e7551547a6750732ac04a0cec4091a0c6cf7a6a9d7b31e675315d54", checked := Try.checked }
namespace Rows
def none {H : Type} : Left H := { results := [], args := [] }

/-- 'zzlaws_efi_g1.FnDecodeUCS2AcceptsExactlyTerminated': WHATEVER THE INPUT: true; the input reads as it did. -/
def fnDecodeUCS2AcceptsExactlyTerminatedSpec : ChangeSpec := { name := "fnDecodeUCS2AcceptsExactlyTerminated", fn := fun _ => fun
  | [d] => { results := [.lit (.bool true)], args := [d] }
  | _ => none }
def fnDecodeUCS2AcceptsExactlyTerminatedRow : OpenClaim := { program := "qxb6002374a", sum := "84f2ea1b6e7551547a6750732ac04a0cec4091a0c6cf7a6a9d7b31e675315d54", func := "example.com/firmrudder/firmrudder/zzlaws_efi_g1.FnDecodeUCS2AcceptsExactlyTerminated", spec := "fnDecodeUCS2AcceptsExactlyTerminated", apart := false }
def FnDecodeUCS2AcceptsExactlyTerminatedSaid : Prop := fnDecodeUCS2AcceptsExactlyTerminatedRow.holds Try.pinned (OpenSpec.ofChange fnDecodeUCS2AcceptsExactlyTerminatedSpec)

/-- ITS FALSE NEIGHBOUR: 'it returns false'. Refute it at one input. -/
def fnDecodeUCS2AcceptsExactlyTerminatedWrong : ChangeSpec := { name := "fnDecodeUCS2AcceptsExactlyTerminated", fn := fun _ => fun
  | [d] => { results := [.lit (.bool false)], args := [d] }
  | _ => none }
def FnDecodeUCS2AcceptsExactlyTerminatedWrongFalsely : Prop := fnDecodeUCS2AcceptsExactlyTerminatedRow.holds Try.pinned (OpenSpec.ofChange fnDecodeUCS2AcceptsExactlyTerminatedWrong)

/-- 'zzlaws_efi_g1.FnDecodeUCS2IgnoresTail': WHATEVER THE INPUT: true; the input reads as it did. -/
def fnDecodeUCS2IgnoresTailSpec : ChangeSpec := { name := "fnDecodeUCS2IgnoresTail", fn := fun _ => fun
  | [d1, d2] => { results := [.lit (.bool true)], args := [d1, d2] }
  | _ => none }
def fnDecodeUCS2IgnoresTailRow : OpenClaim := { program := "qxb6002374a", sum := "84f2ea1b6e7551547a6750732ac04a0cec4091a0c6cf7a6a9d7b31e675315d54", func := "example.com/firmrudder/firmrudder/zzlaws_efi_g1.FnDecodeUCS2IgnoresTail", spec := "fnDecodeUCS2IgnoresTail", apart := false }
def FnDecodeUCS2IgnoresTailSaid : Prop := fnDecodeUCS2IgnoresTailRow.holds Try.pinned (OpenSpec.ofChange fnDecodeUCS2IgnoresTailSpec)

/-- ITS FALSE NEIGHBOUR: 'it returns false'. Refute it at one input. -/
def fnDecodeUCS2IgnoresTailWrong : ChangeSpec := { name := "fnDecodeUCS2IgnoresTail", fn := fun _ => fun
  | [d1, d2] => { results := [.lit (.bool false)], args := [d1, d2] }
  | _ => none }
def FnDecodeUCS2IgnoresTailWrongFalsely : Prop := fnDecodeUCS2IgnoresTailRow.holds Try.pinned (OpenSpec.ofChange fnDecodeUCS2IgnoresTailWrong)

/-- 'zzlaws_efi_g1.FnDecodeUCS2RoundTripScalars': WHATEVER THE INPUT: true; the input reads as it did. -/
def fnDecodeUCS2RoundTripScalarsSpec : ChangeSpec := { name := "fnDecodeUCS2RoundTripScalars", fn := fun _ => fun
  | [d1, d2] => { results := [.lit (.bool true)], args := [d1, d2] }
  | _ => none }
def fnDecodeUCS2RoundTripScalarsRow : OpenClaim := { program := "qxb6002374a", sum := "84f2ea1b6e7551547a6750732ac04a0cec4091a0c6cf7a6a9d7b31e675315d54", func := "example.com/firmrudder/firmrudder/zzlaws_efi_g1.FnDecodeUCS2RoundTripScalars", spec := "fnDecodeUCS2RoundTripScalars", apart := false }
def FnDecodeUCS2RoundTripScalarsSaid : Prop := fnDecodeUCS2RoundTripScalarsRow.holds Try.pinned (OpenSpec.ofChange fnDecodeUCS2RoundTripScalarsSpec)

/-- ITS FALSE NEIGHBOUR: 'it returns false'. Refute it at one input. -/
def fnDecodeUCS2RoundTripScalarsWrong : ChangeSpec := { name := "fnDecodeUCS2RoundTripScalars", fn := fun _ => fun
  | [d1, d2] => { results := [.lit (.bool false)], args := [d1, d2] }
  | _ => none }
def FnDecodeUCS2RoundTripScalarsWrongFalsely : Prop := fnDecodeUCS2RoundTripScalarsRow.holds Try.pinned (OpenSpec.ofChange fnDecodeUCS2RoundTripScalarsWrong)

/-- 'zzlaws_efi_g1.FnDecodeUCS2LoneSurrogateIsReplacement': WHATEVER THE INPUT: true; the input reads as it did. -/
def fnDecodeUCS2LoneSurrogateIsReplacementSpec : ChangeSpec := { name := "fnDecodeUCS2LoneSurrogateIsReplacement", fn := fun _ => fun
  | [d1, d2] => { results := [.lit (.bool true)], args := [d1, d2] }
  | _ => none }
def fnDecodeUCS2LoneSurrogateIsReplacementRow : OpenClaim := { program := "qxb6002374a", sum := "84f2ea1b6e7551547a6750732ac04a0cec4091a0c6cf7a6a9d7b31e675315d54", func := "example.com/firmrudder/firmrudder/zzlaws_efi_g1.FnDecodeUCS2LoneSurrogateIsReplacement", spec := "fnDecodeUCS2LoneSurrogateIsReplacement", apart := false }
def FnDecodeUCS2LoneSurrogateIsReplacementSaid : Prop := fnDecodeUCS2LoneSurrogateIsReplacementRow.holds Try.pinned (OpenSpec.ofChange fnDecodeUCS2LoneSurrogateIsReplacementSpec)

/-- ITS FALSE NEIGHBOUR: 'it returns false'. Refute it at one input. -/
def fnDecodeUCS2LoneSurrogateIsReplacementWrong : ChangeSpec := { name := "fnDecodeUCS2LoneSurrogateIsReplacement", fn := fun _ => fun
  | [d1, d2] => { results := [.lit (.bool false)], args := [d1, d2] }
  | _ => none }
def FnDecodeUCS2LoneSurrogateIsReplacementWrongFalsely : Prop := fnDecodeUCS2LoneSurrogateIsReplacementRow.holds Try.pinned (OpenSpec.ofChange fnDecodeUCS2LoneSurrogateIsReplacementWrong)

end Rows
end Go.Proofs.Qxb6002374a
