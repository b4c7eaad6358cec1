/-
  No cell of these rows narrows 'for every input' (looked for: loops, veiled, ifaces, maps, wideKeys, modest, calm, conditions, laid).
  DERIVED. THE GIVEN ROWS OF THIS SEAT. 1 by the template 'for every input the law returns true; each argument reads behind the call as it read before'; 0 by the template 'total and deterministic' (their statements: YbulkbtscTotals.lean).
  GIVEN WITH THE SEED: the statements are not yours to turn. If you find one false, say at which input.
  Laid BY PROGRAM, IN A SANDBOX (cutbox-rows.mjs): the forced cells as the released guide's own fill.sh prints them over the translation 20ce24b729783885… (all of the seat's roots in one cut). By AI agents, Wed Nov 11 2026. No macro, syntax, notation, axiom, sorry.
-/
import Derived.Test.YbulkbtscChecked
import GoSem.Claim
import GoSem.ClaimJoined
import GoSem.ClaimMapViews
import Derived.JoinedTies
import Derived.KernelRfl
namespace Go.Proofs.Ybulkbtsc
/- THE CELL 'sum', in the pinned program and in every row, IS THE sha256 OF THE DUMP (.gsa) THAT YbulkbtscProg.lean LOADS. Nothing in Lean hashes anything: it is a label: what it is worth is what the hold of that sum in a sandbox is worth. -/
noncomputable def Yba.pinned : Pinned := { name := "ybulkbtsc", sum := "20ce24b7297838856e852e8cdb8ee15bb241095985fca8b71dc7e879607b16c7", checked := Yba.checked }
namespace Rows
def none {H : Type} : Left H := { results := [], args := [] }

/-- 'portmap.LawS3512CEarliest': WHATEVER THE INPUT: true; the input reads as it did. -/
def lawS3512CEarliestSpec : ChangeSpec := { name := "lawS3512CEarliest", fn := fun _ => fun
  | [d] => { results := [.lit (.bool true)], args := [d] }
  | _ => none }
def lawS3512CEarliestRow : OpenClaim := { program := "ybulkbtsc", sum := "20ce24b7297838856e852e8cdb8ee15bb241095985fca8b71dc7e879607b16c7", func := "example.com/cairnmesh/cairnmesh/internal/portmap.LawS3512CEarliest", spec := "lawS3512CEarliest", unfollowed := true, recurses := true, apart := false }
def LawS3512CEarliestSaid : Prop := lawS3512CEarliestRow.holds Yba.pinned (OpenSpec.ofChange lawS3512CEarliestSpec)

/-- ITS FALSE NEIGHBOUR: 'it returns false'. Refute it at one input. -/
def lawS3512CEarliestWrong : ChangeSpec := { name := "lawS3512CEarliest", fn := fun _ => fun
  | [d] => { results := [.lit (.bool false)], args := [d] }
  | _ => none }
def LawS3512CEarliestWrongFalsely : Prop := lawS3512CEarliestRow.holds Yba.pinned (OpenSpec.ofChange lawS3512CEarliestWrong)

end Rows
end Go.Proofs.Ybulkbtsc
