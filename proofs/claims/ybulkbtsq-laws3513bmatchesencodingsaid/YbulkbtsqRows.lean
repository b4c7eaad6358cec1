/-
  No cell of these rows narrows 'for every input' (looked for: loops, veiled, ifaces, maps, wideKeys, modest, calm, conditions, laid).
  DERIVED. THE GIVEN ROWS OF THIS SEAT. 2 by the template 'for every input the law returns true; each argument reads behind the call as it read before'; 0 by the template 'total and deterministic' (their statements: YbulkbtsqTotals.lean).
  GIVEN WITH THE SEED: the statements are not yours to turn. If you find one false, say at which input.
  Laid BY PROGRAM, IN A SANDBOX (cutbox-rows.mjs): the forced cells as the released guide's own fill.sh prints them over the translation 9e746200e5112714… (all of the seat's roots in one cut). By AI agents, Wed Nov 11 2026. No macro, syntax, notation, axiom, sorry.
-/
import Derived.Test.YbulkbtsqChecked
import GoSem.Claim
import GoSem.ClaimJoined
import GoSem.ClaimMapViews
import Derived.JoinedTies
import Derived.KernelRfl
namespace Go.Proofs.Ybulkbtsq
/- THE CELL 'sum', in the pinned program and in every row, IS THE sha256 OF THE DUMP (.gsa) THAT YbulkbtsqProg.lean LOADS. Nothing in Lean hashes anything: it is a label: what it is worth is what the hold of that sum in a sandbox is worth. -/
noncomputable def Yba.pinned : Pinned := { name := "ybulkbtsq", sum := "9e746200e51127142a3d347f5873cdc32d8f11847254ce8176299a9fc229e75f", checked := Yba.checked }
namespace Rows
def none {H : Type} : Left H := { results := [], args := [] }

/-- 'granary.LawS3513BMatchesEncoding': WHATEVER THE INPUT: true; the input reads as it did. -/
def lawS3513BMatchesEncodingSpec : ChangeSpec := { name := "lawS3513BMatchesEncoding", fn := fun _ => fun
  | [d] => { results := [.lit (.bool true)], args := [d] }
  | _ => none }
def lawS3513BMatchesEncodingRow : OpenClaim := { program := "ybulkbtsq", sum := "9e746200e51127142a3d347f5873cdc32d8f11847254ce8176299a9fc229e75f", func := "example.com/granary/granary.LawS3513BMatchesEncoding", spec := "lawS3513BMatchesEncoding", apart := false }
def LawS3513BMatchesEncodingSaid : Prop := lawS3513BMatchesEncodingRow.holds Yba.pinned (OpenSpec.ofChange lawS3513BMatchesEncodingSpec)

/-- ITS FALSE NEIGHBOUR: 'it returns false'. Refute it at one input. -/
def lawS3513BMatchesEncodingWrong : ChangeSpec := { name := "lawS3513BMatchesEncoding", fn := fun _ => fun
  | [d] => { results := [.lit (.bool false)], args := [d] }
  | _ => none }
def LawS3513BMatchesEncodingWrongFalsely : Prop := lawS3513BMatchesEncodingRow.holds Yba.pinned (OpenSpec.ofChange lawS3513BMatchesEncodingWrong)

/-- 'granary.LawS3513BSevenBitGroups': WHATEVER THE INPUT: true; the input reads as it did. -/
def lawS3513BSevenBitGroupsSpec : ChangeSpec := { name := "lawS3513BSevenBitGroups", fn := fun _ => fun
  | [d] => { results := [.lit (.bool true)], args := [d] }
  | _ => none }
def lawS3513BSevenBitGroupsRow : OpenClaim := { program := "ybulkbtsq", sum := "9e746200e51127142a3d347f5873cdc32d8f11847254ce8176299a9fc229e75f", func := "example.com/granary/granary.LawS3513BSevenBitGroups", spec := "lawS3513BSevenBitGroups", apart := false }
def LawS3513BSevenBitGroupsSaid : Prop := lawS3513BSevenBitGroupsRow.holds Yba.pinned (OpenSpec.ofChange lawS3513BSevenBitGroupsSpec)

/-- ITS FALSE NEIGHBOUR: 'it returns false'. Refute it at one input. -/
def lawS3513BSevenBitGroupsWrong : ChangeSpec := { name := "lawS3513BSevenBitGroups", fn := fun _ => fun
  | [d] => { results := [.lit (.bool false)], args := [d] }
  | _ => none }
def LawS3513BSevenBitGroupsWrongFalsely : Prop := lawS3513BSevenBitGroupsRow.holds Yba.pinned (OpenSpec.ofChange lawS3513BSevenBitGroupsWrong)

end Rows
end Go.Proofs.Ybulkbtsq
