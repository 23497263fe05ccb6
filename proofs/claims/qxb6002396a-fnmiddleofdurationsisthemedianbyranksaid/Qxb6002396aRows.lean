/-
  No cell of these rows narrows 'for every input' (looked for: loops, veiled, ifaces, maps, wideKeys, modest, calm, conditions, laid).
  DERIVED. THE GIVEN ROWS OF THIS SEAT. 3 by the template 'for every input the law returns true; each argument reads behind the call as it read before'; 0 by the template 'total and deterministic' (their statements: Qxb6002396aTotals.lean).
  GIVEN WITH THE SEED: the statements are not yours to turn. If you find one false, say at which input.
  Laid BY PROGRAM, IN A SANDBOX (cutbox-rows.mjs): the forced cells as the released guide's own fill.sh prints them over the translation b4d4604ba71c4dd5… (all of the seat's roots in one cut). By AI agents, Wed Nov 11 2026. No macro, syntax, notation, axiom, sorry.
-/
import Derived.Test.Qxb6002396aChecked
import GoSem.Claim
import GoSem.ClaimJoined
import GoSem.ClaimMapViews
import Derived.JoinedTies
import Derived.KernelRfl
namespace Go.Proofs.Qxb6002396a
/- THE CELL 'sum', in the pinned program and in every row, IS THE sha256 OF THE DUMP (.gsa) THAT Qxb6002396aProg.lean LOADS. Nothing in Lean hashes anything: it is a label: what it is worth is what the hold of that sum in a sandbox is worth. -/
noncomputable def Try.pinned : Pinned := { name := "qxb6002396a", sum := "b4d4604ba71c4dd531ebac3b248beb718eafca8036bee14936ae177f7467ad05", checked := Try.checked }
namespace Rows
def none {H : Type} : Left H := { results := [], args := [] }

/-- 'zzlaws_internal_child_f1.FnSubmatchesOfJoinedListsAndAnOddTail': WHATEVER THE INPUT: true; the input reads as it did. -/
def fnSubmatchesOfJoinedListsAndAnOddTailSpec : ChangeSpec := { name := "fnSubmatchesOfJoinedListsAndAnOddTail", fn := fun _ => fun
  | [d1, d2, d3, d4] => { results := [.lit (.bool true)], args := [d1, d2, d3, d4] }
  | _ => none }
def fnSubmatchesOfJoinedListsAndAnOddTailRow : OpenClaim := { program := "qxb6002396a", sum := "b4d4604ba71c4dd531ebac3b248beb718eafca8036bee14936ae177f7467ad05", func := "example.com/windown/windown/zzlaws_internal_child_f1.FnSubmatchesOfJoinedListsAndAnOddTail", spec := "fnSubmatchesOfJoinedListsAndAnOddTail", apart := false }
def FnSubmatchesOfJoinedListsAndAnOddTailSaid : Prop := fnSubmatchesOfJoinedListsAndAnOddTailRow.holds Try.pinned (OpenSpec.ofChange fnSubmatchesOfJoinedListsAndAnOddTailSpec)

/-- ITS FALSE NEIGHBOUR: 'it returns false'. Refute it at one input. -/
def fnSubmatchesOfJoinedListsAndAnOddTailWrong : ChangeSpec := { name := "fnSubmatchesOfJoinedListsAndAnOddTail", fn := fun _ => fun
  | [d1, d2, d3, d4] => { results := [.lit (.bool false)], args := [d1, d2, d3, d4] }
  | _ => none }
def FnSubmatchesOfJoinedListsAndAnOddTailWrongFalsely : Prop := fnSubmatchesOfJoinedListsAndAnOddTailRow.holds Try.pinned (OpenSpec.ofChange fnSubmatchesOfJoinedListsAndAnOddTailWrong)

/-- 'zzlaws_internal_bench_f1.FnMiddleOfDurationsIsTheMedianByRank': WHATEVER THE INPUT: true; the input reads as it did. -/
def fnMiddleOfDurationsIsTheMedianByRankSpec : ChangeSpec := { name := "fnMiddleOfDurationsIsTheMedianByRank", fn := fun _ => fun
  | [d] => { results := [.lit (.bool true)], args := [d] }
  | _ => none }
def fnMiddleOfDurationsIsTheMedianByRankRow : OpenClaim := { program := "qxb6002396a", sum := "b4d4604ba71c4dd531ebac3b248beb718eafca8036bee14936ae177f7467ad05", func := "example.com/windown/windown/zzlaws_internal_bench_f1.FnMiddleOfDurationsIsTheMedianByRank", spec := "fnMiddleOfDurationsIsTheMedianByRank", recurses := true, apart := false }
def FnMiddleOfDurationsIsTheMedianByRankSaid : Prop := fnMiddleOfDurationsIsTheMedianByRankRow.holds Try.pinned (OpenSpec.ofChange fnMiddleOfDurationsIsTheMedianByRankSpec)

/-- ITS FALSE NEIGHBOUR: 'it returns false'. Refute it at one input. -/
def fnMiddleOfDurationsIsTheMedianByRankWrong : ChangeSpec := { name := "fnMiddleOfDurationsIsTheMedianByRank", fn := fun _ => fun
  | [d] => { results := [.lit (.bool false)], args := [d] }
  | _ => none }
def FnMiddleOfDurationsIsTheMedianByRankWrongFalsely : Prop := fnMiddleOfDurationsIsTheMedianByRankRow.holds Try.pinned (OpenSpec.ofChange fnMiddleOfDurationsIsTheMedianByRankWrong)

/-- 'zzlaws_internal_bench_f1.FnMiddleIgnoresOrderAndFollowsNegation': WHATEVER THE INPUT: true; the input reads as it did. -/
def fnMiddleIgnoresOrderAndFollowsNegationSpec : ChangeSpec := { name := "fnMiddleIgnoresOrderAndFollowsNegation", fn := fun _ => fun
  | [d] => { results := [.lit (.bool true)], args := [d] }
  | _ => none }
def fnMiddleIgnoresOrderAndFollowsNegationRow : OpenClaim := { program := "qxb6002396a", sum := "b4d4604ba71c4dd531ebac3b248beb718eafca8036bee14936ae177f7467ad05", func := "example.com/windown/windown/zzlaws_internal_bench_f1.FnMiddleIgnoresOrderAndFollowsNegation", spec := "fnMiddleIgnoresOrderAndFollowsNegation", recurses := true, apart := false }
def FnMiddleIgnoresOrderAndFollowsNegationSaid : Prop := fnMiddleIgnoresOrderAndFollowsNegationRow.holds Try.pinned (OpenSpec.ofChange fnMiddleIgnoresOrderAndFollowsNegationSpec)

/-- ITS FALSE NEIGHBOUR: 'it returns false'. Refute it at one input. -/
def fnMiddleIgnoresOrderAndFollowsNegationWrong : ChangeSpec := { name := "fnMiddleIgnoresOrderAndFollowsNegation", fn := fun _ => fun
  | [d] => { results := [.lit (.bool false)], args := [d] }
  | _ => none }
def FnMiddleIgnoresOrderAndFollowsNegationWrongFalsely : Prop := fnMiddleIgnoresOrderAndFollowsNegationRow.holds Try.pinned (OpenSpec.ofChange fnMiddleIgnoresOrderAndFollowsNegationWrong)

end Rows
end Go.Proofs.Qxb6002396a
