/-
  DERIVED. GIVEN WITH THE SEED: THE CARDS: each row of YbulkbrdwFmtRows.lean that lists a variable, with what it lists TIED to the program's text (the seventh form; the later family's looks); each row that meets fmt, with fmt's text TOLD by the authors' own Lean function (tested against real Go, not proved from fmt's source: count such statements apart). THE CARD IS WHAT COUNTS. Prove the row's statement (the work); the ties are given (YbulkbrdwFmtTie.lean); close each card by the builder's one call (the guide's Derived/Test/ToyasCard.lean, 'card_holds'). Laid BY PROGRAM, IN A SANDBOX (cutbox-door.mjs). By AI agents, Wed Nov 11 2026. No macro, syntax, notation, axiom, sorry.
-/
import Derived.Test.YbulkbrdwFmtRows
import GoSem.ClaimSeven
namespace Go.Proofs.YbulkbrdwFmt
namespace Rows

/-- THE TOLD CARD OF 'generate.LawS3389BExact'. -/
def lawS3389BExactCard : Claim7 := { stood := { row := lawS3389BExactRow, standIns := [], harness := (true, "3bbe768cb07201de401a07480c318ed70e8116505afd5eb3049fcd3651a3e914"), looks := false }, told := true, goes := false }
def LawS3389BExactToldSaid : Prop := Claim7.holds Ybaf.pinned (.plain (OpenSpec.ofChange lawS3389BExactSpec)) lawS3389BExactCard
/-- ITS FALSE NEIGHBOUR. Refute it at one input. -/
def LawS3389BExactToldWrongFalsely : Prop := Claim7.holds Ybaf.pinned (.plain (OpenSpec.ofChange lawS3389BExactWrong)) lawS3389BExactCard

/-- THE TOLD CARD OF 'generate.LawS3389BGrid'. -/
def lawS3389BGridCard : Claim7 := { stood := { row := lawS3389BGridRow, standIns := [], harness := (true, "3bbe768cb07201de401a07480c318ed70e8116505afd5eb3049fcd3651a3e914"), looks := false }, told := true, goes := false }
def LawS3389BGridToldSaid : Prop := Claim7.holds Ybaf.pinned (.plain (OpenSpec.ofChange lawS3389BGridSpec)) lawS3389BGridCard
/-- ITS FALSE NEIGHBOUR. Refute it at one input. -/
def LawS3389BGridToldWrongFalsely : Prop := Claim7.holds Ybaf.pinned (.plain (OpenSpec.ofChange lawS3389BGridWrong)) lawS3389BGridCard
end Rows
end Go.Proofs.YbulkbrdwFmt
