/-
  DERIVED. GIVEN WITH THE SEED: THE CARDS: each row of YbulkbtroFmtRows.lean that lists a variable, with what it lists TIED to the program's text (the seventh form; the later family's looks); each row that meets fmt, with fmt's text TOLD by the authors' own Lean function (tested against real Go, not proved from fmt's source: count such statements apart). THE CARD IS WHAT COUNTS. Prove the row's statement (the work); the ties are given (YbulkbtroFmtTie.lean); close each card by the builder's one call (the guide's Derived/Test/ToyasCard.lean, 'card_holds'). Laid BY PROGRAM, IN A SANDBOX (cutbox-door.mjs). By AI agents, Wed Nov 11 2026. No macro, syntax, notation, axiom, sorry.
-/
import Derived.Test.YbulkbtroFmtRows
import GoSem.ClaimSeven
namespace Go.Proofs.YbulkbtroFmt
namespace Rows

/-- THE TOLD CARD OF 'marginwise.LawS3511CAllOneKind'. -/
def lawS3511CAllOneKindCard : Claim7 := { stood := { row := lawS3511CAllOneKindRow, standIns := [], harness := (true, "20754a4de8568a2a5cbfdedd8439f959bbf8709200c6fba90bcfc5867dba4765"), looks := false }, told := true, goes := false }
def LawS3511CAllOneKindToldSaid : Prop := Claim7.holds Ybaf.pinned (.plain (OpenSpec.ofChange lawS3511CAllOneKindSpec)) lawS3511CAllOneKindCard
/-- ITS FALSE NEIGHBOUR. Refute it at one input. -/
def LawS3511CAllOneKindToldWrongFalsely : Prop := Claim7.holds Ybaf.pinned (.plain (OpenSpec.ofChange lawS3511CAllOneKindWrong)) lawS3511CAllOneKindCard
end Rows
end Go.Proofs.YbulkbtroFmt
