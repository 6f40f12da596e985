/-
  No cell of these rows narrows 'for every input' (looked for: loops, veiled, ifaces, maps, wideKeys, modest, calm, conditions, laid).
  DERIVED. THE GIVEN ROWS OF THIS SEAT. 2 by the template 'for every input the law returns true; each argument reads behind the call as it read before'; 0 by the template 'total and deterministic' (their statements: YbulkbrdwFmtTotals.lean).
  GIVEN WITH THE SEED: the statements are not yours to turn. If you find one false, say at which input.
  Laid BY PROGRAM, IN A SANDBOX (cutbox-rows.mjs): the forced cells as the released guide's own fill.sh prints them over the translation efada38820b4249e… (all of the seat's roots in one cut). By AI agents, Wed Nov 11 2026. No macro, syntax, notation, axiom, sorry.
-/
import Derived.Test.YbulkbrdwFmtChecked
import GoSem.Claim
import GoSem.ClaimJoined
import GoSem.ClaimMapViews
import Derived.JoinedTies
import Derived.KernelRfl
namespace Go.Proofs.YbulkbrdwFmt
/- THE CELL 'sum', in the pinned program and in every row, IS THE sha256 OF THE DUMP (.gsa) THAT YbulkbrdwFmtProg.lean LOADS. Nothing in Lean hashes anything: it is a label: what it is worth is what the hold of that sum in a sandbox is worth. -/
noncomputable def Ybaf.pinned : Pinned := { name := "ybulkbrdwfmt", sum := "efada38820b4249e19dd54880f85654dd856f0c5c1e0ab13e53042ee713bea69", checked := Ybaf.checked }
namespace Rows
def none {H : Type} : Left H := { results := [], args := [] }

/-- 'generate.LawS3389BExact': WHATEVER THE INPUT: true; the input reads as it did. -/
def lawS3389BExactSpec : ChangeSpec := { name := "lawS3389BExact", fn := fun _ => fun
  | [d1, d2, d3, d4, d5] => { results := [.lit (.bool true)], args := [d1, d2, d3, d4, d5] }
  | _ => none }
def lawS3389BExactRow : OpenClaim := { program := "ybulkbrdwfmt", sum := "efada38820b4249e19dd54880f85654dd856f0c5c1e0ab13e53042ee713bea69", func := "example.com/ballast/ballast/generate.LawS3389BExact", spec := "lawS3389BExact", stops := ["fmt.errorf"], inPlace := ["fmt.errorf"], unfollowed := true, recurses := true, apart := false }
/-- NO THEOREM (fmt's text is open here; it may be false): for the released tool's asking of the row's closed facts alone. THE STATEMENT IS 'LawS3389BExactToldSaid' (YbulkbrdwFmtCards.lean). -/
def LawS3389BExactFormAsk : Prop := lawS3389BExactRow.holds Ybaf.pinned (OpenSpec.ofChange lawS3389BExactSpec)

/-- ITS FALSE NEIGHBOUR: 'it returns false'. Refute it at one input. -/
def lawS3389BExactWrong : ChangeSpec := { name := "lawS3389BExact", fn := fun _ => fun
  | [d1, d2, d3, d4, d5] => { results := [.lit (.bool false)], args := [d1, d2, d3, d4, d5] }
  | _ => none }
def LawS3389BExactWrongFormAsk : Prop := lawS3389BExactRow.holds Ybaf.pinned (OpenSpec.ofChange lawS3389BExactWrong)

/-- 'generate.LawS3389BGrid': WHATEVER THE INPUT: true; the input reads as it did. -/
def lawS3389BGridSpec : ChangeSpec := { name := "lawS3389BGrid", fn := fun _ => fun
  | [d1, d2, d3, d4] => { results := [.lit (.bool true)], args := [d1, d2, d3, d4] }
  | _ => none }
def lawS3389BGridRow : OpenClaim := { program := "ybulkbrdwfmt", sum := "efada38820b4249e19dd54880f85654dd856f0c5c1e0ab13e53042ee713bea69", func := "example.com/ballast/ballast/generate.LawS3389BGrid", spec := "lawS3389BGrid", stops := ["fmt.errorf"], inPlace := ["fmt.errorf"], unfollowed := true, recurses := true, apart := false }
/-- NO THEOREM (fmt's text is open here; it may be false): for the released tool's asking of the row's closed facts alone. THE STATEMENT IS 'LawS3389BGridToldSaid' (YbulkbrdwFmtCards.lean). -/
def LawS3389BGridFormAsk : Prop := lawS3389BGridRow.holds Ybaf.pinned (OpenSpec.ofChange lawS3389BGridSpec)

/-- ITS FALSE NEIGHBOUR: 'it returns false'. Refute it at one input. -/
def lawS3389BGridWrong : ChangeSpec := { name := "lawS3389BGrid", fn := fun _ => fun
  | [d1, d2, d3, d4] => { results := [.lit (.bool false)], args := [d1, d2, d3, d4] }
  | _ => none }
def LawS3389BGridWrongFormAsk : Prop := lawS3389BGridRow.holds Ybaf.pinned (OpenSpec.ofChange lawS3389BGridWrong)

end Rows
end Go.Proofs.YbulkbrdwFmt
