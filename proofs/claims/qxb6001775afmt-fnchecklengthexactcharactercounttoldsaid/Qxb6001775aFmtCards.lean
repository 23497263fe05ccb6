/-
  DERIVED. GIVEN WITH THE SEED: THE CARDS: each row of Qxb6001775aFmtRows.lean that lists a variable, with what it lists TIED to the program's text (the seventh form; the later family's looks); each row that meets fmt, with fmt's text TOLD by the authors' own Lean function (tested against real Go, not proved from fmt's source: count such statements apart). THE CARD IS WHAT COUNTS. Prove the row's statement (the work); the ties are given (Qxb6001775aFmtTie.lean); close each card by the builder's one call (the guide's Derived/Test/ToyasCard.lean, 'card_holds'). Laid BY PROGRAM, IN A SANDBOX (cutbox-door.mjs). By AI agents, Wed Nov 11 2026. No macro, syntax, notation, axiom, sorry.
-/
import Derived.Test.Qxb6001775aFmtRows
import GoSem.ClaimSeven
namespace Go.Proofs.Qxb6001775aFmt
namespace Rows

/-- THE TOLD CARD OF 'zzlaws_pkg_figure_e1.FnCheckLengthExactCharacterCount'. -/
def fnCheckLengthExactCharacterCountCard : Claim7 := { stood := { row := fnCheckLengthExactCharacterCountRow, standIns := [], harness := (true, "c1e7ce920afdfc994aa8f1973e02c865fc466f7591357215806e0eea882aabd4"), looks := false }, told := true, goes := false }
def FnCheckLengthExactCharacterCountToldSaid : Prop := Claim7.holds Tryf.pinned (.plain (OpenSpec.ofChange fnCheckLengthExactCharacterCountSpec)) fnCheckLengthExactCharacterCountCard
/-- ITS FALSE NEIGHBOUR. Refute it at one input. -/
def FnCheckLengthExactCharacterCountToldWrongFalsely : Prop := Claim7.holds Tryf.pinned (.plain (OpenSpec.ofChange fnCheckLengthExactCharacterCountWrong)) fnCheckLengthExactCharacterCountCard

/-- THE TOLD CARD OF 'zzlaws_pkg_figure_e1.FnCheckLengthByteBounds'. -/
def fnCheckLengthByteBoundsCard : Claim7 := { stood := { row := fnCheckLengthByteBoundsRow, standIns := [], harness := (true, "c1e7ce920afdfc994aa8f1973e02c865fc466f7591357215806e0eea882aabd4"), looks := false }, told := true, goes := false }
def FnCheckLengthByteBoundsToldSaid : Prop := Claim7.holds Tryf.pinned (.plain (OpenSpec.ofChange fnCheckLengthByteBoundsSpec)) fnCheckLengthByteBoundsCard
/-- ITS FALSE NEIGHBOUR. Refute it at one input. -/
def FnCheckLengthByteBoundsToldWrongFalsely : Prop := Claim7.holds Tryf.pinned (.plain (OpenSpec.ofChange fnCheckLengthByteBoundsWrong)) fnCheckLengthByteBoundsCard

/-- THE TOLD CARD OF 'zzlaws_pkg_figure_e1.FnCheckLengthASCIISuffixNeverHelps'. -/
def fnCheckLengthASCIISuffixNeverHelpsCard : Claim7 := { stood := { row := fnCheckLengthASCIISuffixNeverHelpsRow, standIns := [], harness := (true, "c1e7ce920afdfc994aa8f1973e02c865fc466f7591357215806e0eea882aabd4"), looks := false }, told := true, goes := false }
def FnCheckLengthASCIISuffixNeverHelpsToldSaid : Prop := Claim7.holds Tryf.pinned (.plain (OpenSpec.ofChange fnCheckLengthASCIISuffixNeverHelpsSpec)) fnCheckLengthASCIISuffixNeverHelpsCard
/-- ITS FALSE NEIGHBOUR. Refute it at one input. -/
def FnCheckLengthASCIISuffixNeverHelpsToldWrongFalsely : Prop := Claim7.holds Tryf.pinned (.plain (OpenSpec.ofChange fnCheckLengthASCIISuffixNeverHelpsWrong)) fnCheckLengthASCIISuffixNeverHelpsCard
end Rows
end Go.Proofs.Qxb6001775aFmt
