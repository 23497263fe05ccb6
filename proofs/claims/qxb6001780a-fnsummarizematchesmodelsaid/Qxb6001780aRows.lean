/-
  No cell of these rows narrows 'for every input' (looked for: loops, veiled, ifaces, maps, wideKeys, modest, calm, conditions, laid).
  DERIVED. THE GIVEN ROWS OF THIS SEAT. 3 by the template 'for every input the law returns true; each argument reads behind the call as it read before'; 0 by the template 'total and deterministic' (their statements: Qxb6001780aTotals.lean).
  GIVEN WITH THE SEED: the statements are not yours to turn. If you find one false, say at which input.
  Laid BY PROGRAM, IN A SANDBOX (cutbox-rows.mjs): the forced cells as the released guide's own fill.sh prints them over the translation 3a7c35d6a39c4619… (all of the seat's roots in one cut). By AI agents, Wed Nov 11 2026. No macro, syntax, notation, axiom, sorry.
-/
import Derived.Test.Qxb6001780aChecked
import GoSem.Claim
import GoSem.ClaimJoined
import GoSem.ClaimMapViews
import Derived.JoinedTies
import Derived.KernelRfl
namespace Go.Proofs.Qxb6001780a
/- THE CELL 'sum', in the pinned program and in every row, IS THE sha256 OF THE DUMP (.gsa) THAT Qxb6001780aProg.lean LOADS. Nothing in Lean hashes anything: it is a label: what it is worth is what the hold of that sum in a sandbox is worth. -/
noncomputable def Try.pinned : Pinned := { name := "qxb6001780a", sum := "3a7c35d6a39c46191219c4262cf21a672aee02c0422dd6b7283443cfa008a146", checked := Try.checked }
namespace Rows
def none {H : Type} : Left H := { results := [], args := [] }

/-- 'zzlaws_internal_load_b1.FnSummarizeMatchesModel': WHATEVER THE INPUT: true; the input reads as it did. -/
def fnSummarizeMatchesModelSpec : ChangeSpec := { name := "fnSummarizeMatchesModel", fn := fun _ => fun
  | [d] => { results := [.lit (.bool true)], args := [d] }
  | _ => none }
def fnSummarizeMatchesModelRow : OpenClaim := { program := "qxb6001780a", sum := "3a7c35d6a39c46191219c4262cf21a672aee02c0422dd6b7283443cfa008a146", func := "example.com/hushheap/hushheap/zzlaws_internal_load_b1.FnSummarizeMatchesModel", spec := "fnSummarizeMatchesModel", unfollowed := true, recurses := true, apart := false }
def FnSummarizeMatchesModelSaid : Prop := fnSummarizeMatchesModelRow.holds Try.pinned (OpenSpec.ofChange fnSummarizeMatchesModelSpec)

/-- ITS FALSE NEIGHBOUR: 'it returns false'. Refute it at one input. -/
def fnSummarizeMatchesModelWrong : ChangeSpec := { name := "fnSummarizeMatchesModel", fn := fun _ => fun
  | [d] => { results := [.lit (.bool false)], args := [d] }
  | _ => none }
def FnSummarizeMatchesModelWrongFalsely : Prop := fnSummarizeMatchesModelRow.holds Try.pinned (OpenSpec.ofChange fnSummarizeMatchesModelWrong)

/-- 'zzlaws_internal_load_b1.FnSummarizeOrderFree': WHATEVER THE INPUT: true; the input reads as it did. -/
def fnSummarizeOrderFreeSpec : ChangeSpec := { name := "fnSummarizeOrderFree", fn := fun _ => fun
  | [d] => { results := [.lit (.bool true)], args := [d] }
  | _ => none }
def fnSummarizeOrderFreeRow : OpenClaim := { program := "qxb6001780a", sum := "3a7c35d6a39c46191219c4262cf21a672aee02c0422dd6b7283443cfa008a146", func := "example.com/hushheap/hushheap/zzlaws_internal_load_b1.FnSummarizeOrderFree", spec := "fnSummarizeOrderFree", unfollowed := true, recurses := true, apart := false }
def FnSummarizeOrderFreeSaid : Prop := fnSummarizeOrderFreeRow.holds Try.pinned (OpenSpec.ofChange fnSummarizeOrderFreeSpec)

/-- ITS FALSE NEIGHBOUR: 'it returns false'. Refute it at one input. -/
def fnSummarizeOrderFreeWrong : ChangeSpec := { name := "fnSummarizeOrderFree", fn := fun _ => fun
  | [d] => { results := [.lit (.bool false)], args := [d] }
  | _ => none }
def FnSummarizeOrderFreeWrongFalsely : Prop := fnSummarizeOrderFreeRow.holds Try.pinned (OpenSpec.ofChange fnSummarizeOrderFreeWrong)

/-- 'zzlaws_internal_load_b1.FnSummarizeConcat': WHATEVER THE INPUT: true; the input reads as it did. -/
def fnSummarizeConcatSpec : ChangeSpec := { name := "fnSummarizeConcat", fn := fun _ => fun
  | [d1, d2] => { results := [.lit (.bool true)], args := [d1, d2] }
  | _ => none }
def fnSummarizeConcatRow : OpenClaim := { program := "qxb6001780a", sum := "3a7c35d6a39c46191219c4262cf21a672aee02c0422dd6b7283443cfa008a146", func := "example.com/hushheap/hushheap/zzlaws_internal_load_b1.FnSummarizeConcat", spec := "fnSummarizeConcat", unfollowed := true, recurses := true, apart := false }
def FnSummarizeConcatSaid : Prop := fnSummarizeConcatRow.holds Try.pinned (OpenSpec.ofChange fnSummarizeConcatSpec)

/-- ITS FALSE NEIGHBOUR: 'it returns false'. Refute it at one input. -/
def fnSummarizeConcatWrong : ChangeSpec := { name := "fnSummarizeConcat", fn := fun _ => fun
  | [d1, d2] => { results := [.lit (.bool false)], args := [d1, d2] }
  | _ => none }
def FnSummarizeConcatWrongFalsely : Prop := fnSummarizeConcatRow.holds Try.pinned (OpenSpec.ofChange fnSummarizeConcatWrong)

end Rows
end Go.Proofs.Qxb6001780a
