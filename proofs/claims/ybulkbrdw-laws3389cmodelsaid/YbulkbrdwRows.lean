/-
  No cell of these rows narrows 'for every input' (looked for: loops, veiled, ifaces, maps, wideKeys, modest, calm, conditions, laid).
  DERIVED. THE GIVEN ROWS OF THIS SEAT. 3 by the template 'for every input the law returns true; each argument reads behind the call as it read before'; 0 by the template 'total and deterministic' (their statements: YbulkbrdwTotals.lean).
  GIVEN WITH THE SEED: the statements are not yours to turn. If you find one false, say at which input.
  Laid BY PROGRAM, IN A SANDBOX (cutbox-rows.mjs): the forced cells as the released guide's own fill.sh prints them over the translation d8a7f82003902d18… (all of the seat's roots in one cut). By AI agents, Wed Nov 11 2026. No macro, syntax, notation, axiom, sorry.
-/
import Derived.Test.YbulkbrdwChecked
import GoSem.Claim
import GoSem.ClaimJoined
import GoSem.ClaimMapViews
import Derived.JoinedTies
import Derived.KernelRfl
namespace Go.Proofs.Ybulkbrdw
/- THE CELL 'sum', in the pinned program and in every row, IS THE sha256 OF THE DUMP (.gsa) THAT YbulkbrdwProg.lean LOADS. Nothing in Lean hashes anything: it is a label: what it is worth is what the hold of that sum in a sandbox is worth. -/
noncomputable def Yba.pinned : Pinned := { name := "ybulkbrdw", sum := "d8a7f82003902d18885ffb053c3d78ae22fa4c57c410bb7515a7c8e05b20468f", checked := Yba.checked }
namespace Rows
def none {H : Type} : Left H := { results := [], args := [] }

/-- 'fidelity.LawS3389AWeighted': WHATEVER THE INPUT: true; the input reads as it did. -/
def lawS3389AWeightedSpec : ChangeSpec := { name := "lawS3389AWeighted", fn := fun _ => fun
  | [d1, d2, d3] => { results := [.lit (.bool true)], args := [d1, d2, d3] }
  | _ => none }
def lawS3389AWeightedRow : OpenClaim := { program := "ybulkbrdw", sum := "d8a7f82003902d18885ffb053c3d78ae22fa4c57c410bb7515a7c8e05b20468f", func := "example.com/ballast/ballast/fidelity.LawS3389AWeighted", spec := "lawS3389AWeighted", apart := false }
def LawS3389AWeightedSaid : Prop := lawS3389AWeightedRow.holds Yba.pinned (OpenSpec.ofChange lawS3389AWeightedSpec)

/-- ITS FALSE NEIGHBOUR: 'it returns false'. Refute it at one input. -/
def lawS3389AWeightedWrong : ChangeSpec := { name := "lawS3389AWeighted", fn := fun _ => fun
  | [d1, d2, d3] => { results := [.lit (.bool false)], args := [d1, d2, d3] }
  | _ => none }
def LawS3389AWeightedWrongFalsely : Prop := lawS3389AWeightedRow.holds Yba.pinned (OpenSpec.ofChange lawS3389AWeightedWrong)

/-- 'fidelity.LawS3389ANil': WHATEVER THE INPUT: true; the input reads as it did. -/
def lawS3389ANilSpec : ChangeSpec := { name := "lawS3389ANil", fn := fun _ => fun
  | [d1, d2, d3] => { results := [.lit (.bool true)], args := [d1, d2, d3] }
  | _ => none }
def lawS3389ANilRow : OpenClaim := { program := "ybulkbrdw", sum := "d8a7f82003902d18885ffb053c3d78ae22fa4c57c410bb7515a7c8e05b20468f", func := "example.com/ballast/ballast/fidelity.LawS3389ANil", spec := "lawS3389ANil", apart := false }
def LawS3389ANilSaid : Prop := lawS3389ANilRow.holds Yba.pinned (OpenSpec.ofChange lawS3389ANilSpec)

/-- ITS FALSE NEIGHBOUR: 'it returns false'. Refute it at one input. -/
def lawS3389ANilWrong : ChangeSpec := { name := "lawS3389ANil", fn := fun _ => fun
  | [d1, d2, d3] => { results := [.lit (.bool false)], args := [d1, d2, d3] }
  | _ => none }
def LawS3389ANilWrongFalsely : Prop := lawS3389ANilRow.holds Yba.pinned (OpenSpec.ofChange lawS3389ANilWrong)

/-- 'fidelity.LawS3389CModel': WHATEVER THE INPUT: true; the input reads as it did. -/
def lawS3389CModelSpec : ChangeSpec := { name := "lawS3389CModel", fn := fun _ => fun
  | [d] => { results := [.lit (.bool true)], args := [d] }
  | _ => none }
def lawS3389CModelRow : OpenClaim := { program := "ybulkbrdw", sum := "d8a7f82003902d18885ffb053c3d78ae22fa4c57c410bb7515a7c8e05b20468f", func := "example.com/ballast/ballast/fidelity.LawS3389CModel", spec := "lawS3389CModel", inPlace := ["internal/abi.NoEscape", "internal/bytealg.MakeNoZero"], unfollowed := true, recurses := true, apart := false }
def LawS3389CModelSaid : Prop := lawS3389CModelRow.holds Yba.pinned (OpenSpec.ofChange lawS3389CModelSpec)

/-- ITS FALSE NEIGHBOUR: 'it returns false'. Refute it at one input. -/
def lawS3389CModelWrong : ChangeSpec := { name := "lawS3389CModel", fn := fun _ => fun
  | [d] => { results := [.lit (.bool false)], args := [d] }
  | _ => none }
def LawS3389CModelWrongFalsely : Prop := lawS3389CModelRow.holds Yba.pinned (OpenSpec.ofChange lawS3389CModelWrong)

end Rows
end Go.Proofs.Ybulkbrdw
