/-
  No cell of these rows narrows 'for every input' (looked for: loops, veiled, ifaces, maps, wideKeys, modest, calm, conditions, laid).
  DERIVED. THE GIVEN ROWS OF THIS SEAT. 1 by the template 'for every input the law returns true; each argument reads behind the call as it read before'; 0 by the template 'total and deterministic' (their statements: YbulkbtraTotals.lean).
  GIVEN WITH THE SEED: the statements are not yours to turn. If you find one false, say at which input.
  Laid BY PROGRAM, IN A SANDBOX (cutbox-rows.mjs): the forced cells as the released guide's own fill.sh prints them over the translation dca454f4baa0b926… (all of the seat's roots in one cut). By AI agents, Wed Nov 11 2026. No macro, syntax, notation, axiom, sorry.
-/
import Derived.Test.YbulkbtraChecked
import GoSem.Claim
import GoSem.ClaimJoined
import GoSem.ClaimMapViews
import Derived.JoinedTies
import Derived.KernelRfl
namespace Go.Proofs.Ybulkbtra
/- THE CELL 'sum', in the pinned program and in every row, IS THE sha256 OF THE DUMP (.gsa) THAT YbulkbtraProg.lean LOADS. Nothing in Lean hashes anything: it is a label: what it is worth is what the hold of that sum in a sandbox is worth. -/
noncomputable def Yba.pinned : Pinned := { name := "ybulkbtra", sum := "dca454f4baa0b9265a4ad766c7c21476bdc02435e3a9e763c329297f87940e97", checked := Yba.checked }
namespace Rows
def none {H : Type} : Left H := { results := [], args := [] }

/-- 'check.LawS3510BCount': WHATEVER THE INPUT: true; the input reads as it did. -/
def lawS3510BCountSpec : ChangeSpec := { name := "lawS3510BCount", fn := fun _ => fun
  | [d1, d2, d3] => { results := [.lit (.bool true)], args := [d1, d2, d3] }
  | _ => none }
def lawS3510BCountRow : OpenClaim := { program := "ybulkbtra", sum := "dca454f4baa0b9265a4ad766c7c21476bdc02435e3a9e763c329297f87940e97", func := "example.com/ballotproof/ballotproof/check.LawS3510BCount", spec := "lawS3510BCount", inPlace := ["sync/atomic.LoadPointer"], recurses := true, apart := false }
def LawS3510BCountSaid : Prop := lawS3510BCountRow.holds Yba.pinned (OpenSpec.ofChange lawS3510BCountSpec)

/-- ITS FALSE NEIGHBOUR: 'it returns false'. Refute it at one input. -/
def lawS3510BCountWrong : ChangeSpec := { name := "lawS3510BCount", fn := fun _ => fun
  | [d1, d2, d3] => { results := [.lit (.bool false)], args := [d1, d2, d3] }
  | _ => none }
def LawS3510BCountWrongFalsely : Prop := lawS3510BCountRow.holds Yba.pinned (OpenSpec.ofChange lawS3510BCountWrong)

end Rows
end Go.Proofs.Ybulkbtra
