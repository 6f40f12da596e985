/-
  No cell of these rows narrows 'for every input' (looked for: loops, veiled, ifaces, maps, wideKeys, modest, calm, conditions, laid).
  DERIVED. THE GIVEN ROWS OF THIS SEAT. 2 by the template 'for every input the law returns true; each argument reads behind the call as it read before'; 0 by the template 'total and deterministic' (their statements: YbulkbrdiFmtTotals.lean).
  GIVEN WITH THE SEED: the statements are not yours to turn. If you find one false, say at which input.
  Laid BY PROGRAM, IN A SANDBOX (cutbox-rows.mjs): the forced cells as the released guide's own fill.sh prints them over the translation 38ff8403e31c3d44… (all of the seat's roots in one cut). By AI agents, Wed Nov 11 2026. No macro, syntax, notation, axiom, sorry.
-/
import Derived.Test.YbulkbrdiFmtChecked
import GoSem.Claim
import GoSem.ClaimJoined
import GoSem.ClaimMapViews
import Derived.JoinedTies
import Derived.KernelRfl
namespace Go.Proofs.YbulkbrdiFmt
/- THE CELL 'sum', in the pinned program and in every row, IS THE sha256 OF THE DUMP (.gsa) THAT YbulkbrdiFmtProg.lean LOADS. Nothing in Lean hashes anything: it is a label: what it is worth is what the hold of that sum in a sandbox is worth. -/
noncomputable def Ybaf.pinned : Pinned := { name := "ybulkbrdifmt", sum := "38ff8403e31c3d4491ca58ef711eff39e55330f9e19bef917406dcf0f4212701", checked := Ybaf.checked }
namespace Rows
def none {H : Type} : Left H := { results := [], args := [] }

/-- 'explore.LawS3388AChain': WHATEVER THE INPUT: true; the input reads as it did. -/
def lawS3388AChainSpec : ChangeSpec := { name := "lawS3388AChain", fn := fun _ => fun
  | [d1, d2] => { results := [.lit (.bool true)], args := [d1, d2] }
  | _ => none }
def lawS3388AChainRow : OpenClaim := { program := "ybulkbrdifmt", sum := "38ff8403e31c3d4491ca58ef711eff39e55330f9e19bef917406dcf0f4212701", func := "example.com/concordant/concordant/internal/explore.LawS3388AChain", spec := "lawS3388AChain", stops := ["fmt.Sprintf"], inPlace := ["fmt.Sprintf"], unfollowed := true, recurses := true, apart := false }
/-- NO THEOREM (fmt's text is open here; it may be false): for the released tool's asking of the row's closed facts alone. THE STATEMENT IS 'LawS3388AChainToldSaid' (YbulkbrdiFmtCards.lean). -/
def LawS3388AChainFormAsk : Prop := lawS3388AChainRow.holds Ybaf.pinned (OpenSpec.ofChange lawS3388AChainSpec)

/-- ITS FALSE NEIGHBOUR: 'it returns false'. Refute it at one input. -/
def lawS3388AChainWrong : ChangeSpec := { name := "lawS3388AChain", fn := fun _ => fun
  | [d1, d2] => { results := [.lit (.bool false)], args := [d1, d2] }
  | _ => none }
def LawS3388AChainWrongFormAsk : Prop := lawS3388AChainRow.holds Ybaf.pinned (OpenSpec.ofChange lawS3388AChainWrong)

/-- 'explore.LawS3388AStart': WHATEVER THE INPUT: true; the input reads as it did. -/
def lawS3388AStartSpec : ChangeSpec := { name := "lawS3388AStart", fn := fun _ => fun
  | [d1, d2, d3] => { results := [.lit (.bool true)], args := [d1, d2, d3] }
  | _ => none }
def lawS3388AStartRow : OpenClaim := { program := "ybulkbrdifmt", sum := "38ff8403e31c3d4491ca58ef711eff39e55330f9e19bef917406dcf0f4212701", func := "example.com/concordant/concordant/internal/explore.LawS3388AStart", spec := "lawS3388AStart", stops := ["fmt.Sprintf"], inPlace := ["fmt.Sprintf"], unfollowed := true, recurses := true, apart := false }
/-- NO THEOREM (fmt's text is open here; it may be false): for the released tool's asking of the row's closed facts alone. THE STATEMENT IS 'LawS3388AStartToldSaid' (YbulkbrdiFmtCards.lean). -/
def LawS3388AStartFormAsk : Prop := lawS3388AStartRow.holds Ybaf.pinned (OpenSpec.ofChange lawS3388AStartSpec)

/-- ITS FALSE NEIGHBOUR: 'it returns false'. Refute it at one input. -/
def lawS3388AStartWrong : ChangeSpec := { name := "lawS3388AStart", fn := fun _ => fun
  | [d1, d2, d3] => { results := [.lit (.bool false)], args := [d1, d2, d3] }
  | _ => none }
def LawS3388AStartWrongFormAsk : Prop := lawS3388AStartRow.holds Ybaf.pinned (OpenSpec.ofChange lawS3388AStartWrong)

end Rows
end Go.Proofs.YbulkbrdiFmt
