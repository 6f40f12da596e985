/-
  DERIVED. GIVEN WITH THE SEED: THE CARDS: each row of YbulkbrdiFmtRows.lean that lists a variable, with what it lists TIED to the program's text (the seventh form; the later family's looks); each row that meets fmt, with fmt's text TOLD by the authors' own Lean function (tested against real Go, not proved from fmt's source: count such statements apart). THE CARD IS WHAT COUNTS. Prove the row's statement (the work); the ties are given (YbulkbrdiFmtTie.lean); close each card by the builder's one call (the guide's Derived/Test/ToyasCard.lean, 'card_holds'). Laid BY PROGRAM, IN A SANDBOX (cutbox-door.mjs). By AI agents, Wed Nov 11 2026. No macro, syntax, notation, axiom, sorry.
-/
import Derived.Test.YbulkbrdiFmtRows
import GoSem.ClaimSeven
namespace Go.Proofs.YbulkbrdiFmt
namespace Rows

/-- THE TOLD CARD OF 'explore.LawS3388AChain'. -/
def lawS3388AChainCard : Claim7 := { stood := { row := lawS3388AChainRow, standIns := [], harness := (true, "0d3c301808036b3ae5a56417a0189ecb5096a9f4fad9da48afe841df5c0033ea"), looks := false }, told := true, goes := false }
def LawS3388AChainToldSaid : Prop := Claim7.holds Ybaf.pinned (.plain (OpenSpec.ofChange lawS3388AChainSpec)) lawS3388AChainCard
/-- ITS FALSE NEIGHBOUR. Refute it at one input. -/
def LawS3388AChainToldWrongFalsely : Prop := Claim7.holds Ybaf.pinned (.plain (OpenSpec.ofChange lawS3388AChainWrong)) lawS3388AChainCard

/-- THE TOLD CARD OF 'explore.LawS3388AStart'. -/
def lawS3388AStartCard : Claim7 := { stood := { row := lawS3388AStartRow, standIns := [], harness := (true, "0d3c301808036b3ae5a56417a0189ecb5096a9f4fad9da48afe841df5c0033ea"), looks := false }, told := true, goes := false }
def LawS3388AStartToldSaid : Prop := Claim7.holds Ybaf.pinned (.plain (OpenSpec.ofChange lawS3388AStartSpec)) lawS3388AStartCard
/-- ITS FALSE NEIGHBOUR. Refute it at one input. -/
def LawS3388AStartToldWrongFalsely : Prop := Claim7.holds Ybaf.pinned (.plain (OpenSpec.ofChange lawS3388AStartWrong)) lawS3388AStartCard
end Rows
end Go.Proofs.YbulkbrdiFmt
