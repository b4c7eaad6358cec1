/-
  No cell of these rows narrows 'for every input' (looked for: loops, veiled, ifaces, maps, wideKeys, modest, calm, conditions, laid).
  DERIVED. THE GIVEN ROWS OF THIS SEAT. 1 by the template 'for every input the law returns true; each argument reads behind the call as it read before'; 0 by the template 'total and deterministic' (their statements: YbulkbtroFmtTotals.lean).
  GIVEN WITH THE SEED: the statements are not yours to turn. If you find one false, say at which input.
  Laid BY PROGRAM, IN A SANDBOX (cutbox-rows.mjs): the forced cells as the released guide's own fill.sh prints them over the translation 51108365a6e2f4d6… (all of the seat's roots in one cut). By AI agents, Wed Nov 11 2026. No macro, syntax, notation, axiom, sorry.
-/
import Derived.Test.YbulkbtroFmtChecked
import GoSem.Claim
import GoSem.ClaimJoined
import GoSem.ClaimMapViews
import Derived.JoinedTies
import Derived.KernelRfl
namespace Go.Proofs.YbulkbtroFmt
/- THE CELL 'sum', in the pinned program and in every row, IS THE sha256 OF THE DUMP (.gsa) THAT YbulkbtroFmtProg.lean LOADS. Nothing in Lean hashes anything: it is a label: what it is worth is what the hold of that sum in a sandbox is worth. -/
noncomputable def Ybaf.pinned : Pinned := { name := "ybulkbtrofmt", sum := "51108365a6e2f4d663d897ee5fb72b7af665dc1e1af5ed23de79750a38af0e8f", checked := Ybaf.checked }
namespace Rows
def none {H : Type} : Left H := { results := [], args := [] }

/-- 'marginwise.LawS3511CAllOneKind': WHATEVER THE INPUT: true; the input reads as it did. -/
def lawS3511CAllOneKindSpec : ChangeSpec := { name := "lawS3511CAllOneKind", fn := fun _ => fun
  | [d1, d2, d3] => { results := [.lit (.bool true)], args := [d1, d2, d3] }
  | _ => none }
def lawS3511CAllOneKindRow : OpenClaim := { program := "ybulkbtrofmt", sum := "51108365a6e2f4d663d897ee5fb72b7af665dc1e1af5ed23de79750a38af0e8f", func := "example.com/marginwise/marginwise.LawS3511CAllOneKind", spec := "lawS3511CAllOneKind", stops := ["fmt.Sprintf", "fmt.errorf"], inPlace := ["fmt.Sprintf", "fmt.errorf"], unfollowed := true, recurses := true, apart := false }
/-- NO THEOREM (fmt's text is open here; it may be false): for the released tool's asking of the row's closed facts alone. THE STATEMENT IS 'LawS3511CAllOneKindToldSaid' (YbulkbtroFmtCards.lean). -/
def LawS3511CAllOneKindFormAsk : Prop := lawS3511CAllOneKindRow.holds Ybaf.pinned (OpenSpec.ofChange lawS3511CAllOneKindSpec)

/-- ITS FALSE NEIGHBOUR: 'it returns false'. Refute it at one input. -/
def lawS3511CAllOneKindWrong : ChangeSpec := { name := "lawS3511CAllOneKind", fn := fun _ => fun
  | [d1, d2, d3] => { results := [.lit (.bool false)], args := [d1, d2, d3] }
  | _ => none }
def LawS3511CAllOneKindWrongFormAsk : Prop := lawS3511CAllOneKindRow.holds Ybaf.pinned (OpenSpec.ofChange lawS3511CAllOneKindWrong)

end Rows
end Go.Proofs.YbulkbtroFmt
