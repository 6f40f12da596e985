/-
  No cell of these rows narrows 'for every input' (looked for: loops, veiled, ifaces, maps, wideKeys, modest, calm, conditions, laid).
  DERIVED. THE GIVEN ROWS OF THIS SEAT. 2 by the template 'for every input the law returns true; each argument reads behind the call as it read before'; 0 by the template 'total and deterministic' (their statements: YbulkbrdiTotals.lean).
  GIVEN WITH THE SEED: the statements are not yours to turn. If you find one false, say at which input.
  Laid BY PROGRAM, IN A SANDBOX (cutbox-rows.mjs): the forced cells as the released guide's own fill.sh prints them over the translation 82d4511bd49e1120… (all of the seat's roots in one cut). By AI agents, Wed Nov 11 2026. No macro, syntax, notation, axiom, sorry.
-/
import Derived.Test.YbulkbrdiChecked
import GoSem.Claim
import GoSem.ClaimJoined
import GoSem.ClaimMapViews
import Derived.JoinedTies
import Derived.KernelRfl
namespace Go.Proofs.Ybulkbrdi
/- THE CELL 'sum', in the pinned program and in every row, IS THE sha256 OF THE DUMP (.gsa) THAT YbulkbrdiProg.lean LOADS. Nothing in Lean hashes anything: it is a label: what it is worth is what the hold of that sum in a sandbox is worth. -/
noncomputable def Yba.pinned : Pinned := { name := "ybulkbrdi", sum := "82d4511bd49e1120628d361d7a21adad690cfa9a8e16e8ac5be4e63e4306fe78", checked := Yba.checked }
namespace Rows
def none {H : Type} : Left H := { results := [], args := [] }

/-- 'protocol.LawS3388BModel': WHATEVER THE INPUT: true; the input reads as it did. -/
def lawS3388BModelSpec : ChangeSpec := { name := "lawS3388BModel", fn := fun _ => fun
  | [d1, d2, d3, d4] => { results := [.lit (.bool true)], args := [d1, d2, d3, d4] }
  | _ => none }
def lawS3388BModelRow : OpenClaim := { program := "ybulkbrdi", sum := "82d4511bd49e1120628d361d7a21adad690cfa9a8e16e8ac5be4e63e4306fe78", func := "example.com/concordant/concordant/internal/protocol.LawS3388BModel", spec := "lawS3388BModel", inPlace := ["slices.overlaps[*example.com/concordant/concordant/internal/protocol.message]", "slices.overlaps[[]*example.com/concordant/concordant/internal/protocol.message]"], unfollowed := true, recurses := true, apart := false }
def LawS3388BModelSaid : Prop := lawS3388BModelRow.holds Yba.pinned (OpenSpec.ofChange lawS3388BModelSpec)

/-- ITS FALSE NEIGHBOUR: 'it returns false'. Refute it at one input. -/
def lawS3388BModelWrong : ChangeSpec := { name := "lawS3388BModel", fn := fun _ => fun
  | [d1, d2, d3, d4] => { results := [.lit (.bool false)], args := [d1, d2, d3, d4] }
  | _ => none }
def LawS3388BModelWrongFalsely : Prop := lawS3388BModelRow.holds Yba.pinned (OpenSpec.ofChange lawS3388BModelWrong)

/-- 'protocol.LawS3388BDrain': WHATEVER THE INPUT: true; the input reads as it did. -/
def lawS3388BDrainSpec : ChangeSpec := { name := "lawS3388BDrain", fn := fun _ => fun
  | [d1, d2, d3] => { results := [.lit (.bool true)], args := [d1, d2, d3] }
  | _ => none }
def lawS3388BDrainRow : OpenClaim := { program := "ybulkbrdi", sum := "82d4511bd49e1120628d361d7a21adad690cfa9a8e16e8ac5be4e63e4306fe78", func := "example.com/concordant/concordant/internal/protocol.LawS3388BDrain", spec := "lawS3388BDrain", inPlace := ["slices.overlaps[*example.com/concordant/concordant/internal/protocol.message]", "slices.overlaps[[]*example.com/concordant/concordant/internal/protocol.message]"], unfollowed := true, recurses := true, apart := false }
def LawS3388BDrainSaid : Prop := lawS3388BDrainRow.holds Yba.pinned (OpenSpec.ofChange lawS3388BDrainSpec)

/-- ITS FALSE NEIGHBOUR: 'it returns false'. Refute it at one input. -/
def lawS3388BDrainWrong : ChangeSpec := { name := "lawS3388BDrain", fn := fun _ => fun
  | [d1, d2, d3] => { results := [.lit (.bool false)], args := [d1, d2, d3] }
  | _ => none }
def LawS3388BDrainWrongFalsely : Prop := lawS3388BDrainRow.holds Yba.pinned (OpenSpec.ofChange lawS3388BDrainWrong)

end Rows
end Go.Proofs.Ybulkbrdi
